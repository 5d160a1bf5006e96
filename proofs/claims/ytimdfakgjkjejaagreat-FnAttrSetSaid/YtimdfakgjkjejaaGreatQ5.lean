/-
  Plain facts and an evaluator for what a law needs.
-/
import Derived.Test.YtimdfakgjkjejaaGreatQ4
set_option linter.unusedVariables false
set_option linter.unusedSimpArgs false
namespace Go.Proofs.YtimdfakgjkjejaaGreat.V
open Go
def attrH (a : HAttr) : Attr := ⟨a.key, a.val⟩
def kn (h : HN) : Node :=
  if h.ty = 2 then ⟨1, [], [], [], 0⟩ else if h.ty = 5 then ⟨2, [], h.data, [], 0⟩ else if h.ty = 1 then ⟨4, [], h.data, [], 0⟩ else if h.ty = 4 then ⟨5, [], h.data, [], 0⟩
  else if h.ty = 3 then ⟨3, h.data, [], h.attrs.map attrH, 0⟩ else ⟨0, [], [], [], 0⟩
def idsF (K : Nat → List Nat) : Nat → Nat → List Nat
  | 0, _ => []
  | n + 1, x => x :: (K x).flatMap (idsF K n)
def nodesF (K : Nat → List Nat) (N : Nat → Node) : Nat → Nat → List Node
  | 0, _ => []
  | n + 1, x => ⟨(N x).kind, (N x).tag, (N x).text, (N x).attrs, 1 + (((K x).flatMap (nodesF K N n)).length : Nat)⟩ :: (K x).flatMap (nodesF K N n)
section
variable {F : Fo} {L : Nat → HN}
theorem kindOf_eq {i : Nat} (hi : i < F.m) (ha : (L i).attrs.length ≤ 1000000) : m_impl_kindOf (some i, F.st L) = some (kn (L i), F.st L) := by
  have hg := Fo.get (F := F) (L := L) hi
  have hty : (F.mk1 L i).ty = (L i).ty := rfl
  have hda : (F.mk1 L i).data = (L i).data := rfl
  have hat : (F.mk1 L i).attrs = (L i).attrs := rfl
  simp only [m_impl_kindOf, bind_some, hg, hty, hda, hat, cond_dec, kn]
  split
  · rfl
  split
  · rfl
  split
  · rfl
  split
  · rfl
  split
  · have key : ∀ d j, (L i).attrs.length - j = d → j ≤ (L i).attrs.length → loopO m_impl_kindOf_0 (⟨0, [], [], [], 0⟩, (3, (L i).data, [], (), 0), i, ((L i).attrs.length : Int), (j : Int), F.st L, ((L i).attrs.take j).map attrH) = some (⟨0, [], [], [], 0⟩, (3, (L i).data, [], (), 0), F.st L, (L i).attrs.map attrH) := by
      intro d
      induction d with
      | zero =>
        intro j hd hj
        refine loopO_out ?_
        simp only [m_impl_kindOf_0, cond_dec]
        rw [if_neg (by omega), List.take_of_length_le (by omega)]
      | succ d ih =>
        intro j hd hj
        obtain ⟨a, hA⟩ := get_lt (l := (L i).attrs) (k := j) (by omega)
        have step : m_impl_kindOf_0 (⟨0, [], [], [], 0⟩, (3, (L i).data, [], (), 0), i, ((L i).attrs.length : Int), (j : Int), F.st L, ((L i).attrs.take j).map attrH) = some (.nx (⟨0, [], [], [], 0⟩, (3, (L i).data, [], (), 0), i, ((L i).attrs.length : Int), ((j + 1 : Nat) : Int), F.st L, ((L i).attrs.take (j + 1)).map attrH)) := by
          simp only [m_impl_kindOf_0, cond_dec, hg, bind_some, hat, atI_nat, hA, Int.toNat_natCast]
          rw [if_pos (by omega), appL_some (by simp; omega), bind_some, w64 (by omega) (by omega)]
          have e2 : (L i).attrs.take (j + 1) = (L i).attrs.take j ++ [a] := by rw [List.take_add_one, hA]; rfl
          rw [e2]
          simp [attrH]
        rw [loopO_nx step]
        exact ih (j + 1) (by omega) (by omega)
    have h := key (L i).attrs.length 0 (by omega) (Nat.zero_le _)
    have h' : loopO m_impl_kindOf_0 (⟨0, [], [], [], 0⟩, (3, (L i).data, [], (), 0), i, ((L i).attrs.length : Int), (0 : Int), F.st L, []) = _ := h
    rw [h', bind_some]
  · rfl
theorem nodesF_len {K : Nat → List Nat} {N : Nat → Node} : ∀ (n x : Nat), (nodesF K N n x).length = (idsF K n x).length
  | 0, _ => rfl
  | n + 1, x => by
    simp only [nodesF, idsF, List.length_cons, List.length_flatMap]
    rw [show (nodesF K N n) = fun y => nodesF K N n y from rfl]
    simp only [nodesF_len n]
theorem taken_eq (hF : F.ok) (ha : ∀ i, i < F.m → (L i).attrs.length ≤ 1000000) : ∀ (n x : Nat) (T : List Node) (P : List (Option Nat)), x < F.m → Ht F.kids n x → T.length + (idsF F.kids n x).length ≤ 1000000 → P.length + (idsF F.kids n x).length ≤ 1000000 →
    m_impl_taken n (some x, T, P, F.st L) = some (T ++ nodesF F.kids (fun i => kn (L i)) n x, P ++ (idsF F.kids n x).map some, F.st L)
  | 0, _, _, _, _, h, _, _ => h.elim
  | n + 1, x, T, P, hx, hh, hT, hP => by
    have hg := Fo.get (F := F) (L := L) hx
    have hfst : (F.mk1 L x).fst = (F.kids x)[0]? := by simp only [Fo.mk1, List.head?_eq_getElem?]
    simp only [idsF, List.length_cons, List.length_flatMap] at hT hP
    let nd := kn (L x)
    have key : ∀ d j, (F.kids x).length - j = d → j ≤ (F.kids x).length → loopO (m_impl_taken_0 (m_impl_taken n)) (T ++ [nd] ++ ((F.kids x).take j).flatMap (nodesF F.kids (fun i => kn (L i)) n), P ++ [some x] ++ (((F.kids x).take j).flatMap (idsF F.kids n)).map some, (T.length : Int), (F.kids x)[j]?, F.st L)
        = some (T ++ [nd] ++ (F.kids x).flatMap (nodesF F.kids (fun i => kn (L i)) n), P ++ [some x] ++ ((F.kids x).flatMap (idsF F.kids n)).map some, (T.length : Int), F.st L) := by
      intro d
      induction d with
      | zero =>
        intro j hd hj
        have : j = (F.kids x).length := by omega
        subst this
        refine loopO_out ?_
        simp [m_impl_taken_0]
      | succ d ih =>
        intro j hd hj
        obtain ⟨y, hy⟩ := get_lt (l := F.kids x) (k := j) (by omega)
        have hym := List.mem_of_getElem? hy
        obtain ⟨hu, hym2⟩ := hF.kid hym
        have e1 : (F.kids x).take (j + 1) = (F.kids x).take j ++ [y] := by rw [List.take_add_one, hy]; rfl
        have hnx : (F.mk1 L y).nxt = (F.kids x)[j + 1]? := by
          simp only [Fo.mk1, hu, Option.bind_some]
          exact nxtL_get (hF.nd x) hy
        have hsum : (((F.kids x).take (j + 1)).map fun y => (idsF F.kids n y).length).sum ≤ ((F.kids x).map fun y => (idsF F.kids n y).length).sum := by
          have h1 : F.kids x = (F.kids x).take (j + 1) ++ (F.kids x).drop (j + 1) := (List.take_append_drop _ _).symm
          conv => rhs; rw [h1]
          rw [List.map_append, List.sum_append]
          omega
        rw [e1, List.map_append, List.sum_append] at hsum
        simp only [List.map_cons, List.map_nil, List.sum_cons, List.sum_nil] at hsum
        have hlN : (((F.kids x).take j).flatMap (nodesF F.kids (fun i => kn (L i)) n)).length = (((F.kids x).take j).map fun y => (idsF F.kids n y).length).sum := by
          rw [List.length_flatMap]
          congr 1
          exact List.map_congr_left fun y _ => nodesF_len n y
        have step : m_impl_taken_0 (m_impl_taken n) (T ++ [nd] ++ ((F.kids x).take j).flatMap (nodesF F.kids (fun i => kn (L i)) n), P ++ [some x] ++ (((F.kids x).take j).flatMap (idsF F.kids n)).map some, (T.length : Int), (F.kids x)[j]?, F.st L)
            = some (.nx (T ++ [nd] ++ ((F.kids x).take (j + 1)).flatMap (nodesF F.kids (fun i => kn (L i)) n), P ++ [some x] ++ (((F.kids x).take (j + 1)).flatMap (idsF F.kids n)).map some, (T.length : Int), (F.kids x)[j + 1]?, F.st L)) := by
          simp only [m_impl_taken_0, hy, Option.isNone_some, Bool.not_false, cond_true]
          rw [taken_eq hF ha n y _ _ hym2 (hh y hym) (by simp only [List.length_append, List.length_cons, List.length_nil, hlN]; omega) (by simp only [List.length_append, List.length_cons, List.length_nil, List.length_map, List.length_flatMap]; omega)]
          simp only [bind_some]
          rw [Fo.get hym2, bind_some, hnx, e1]
          simp only [List.flatMap_append, List.flatMap_cons, List.flatMap_nil, List.append_nil, List.map_append, List.append_assoc]
        rw [loopO_nx step]
        exact ih (j + 1) (by omega) (by omega)
    have h0 := key (F.kids x).length 0 (by omega) (Nat.zero_le _)
    simp only [List.take_zero, List.flatMap_nil, List.map_nil, List.append_nil] at h0
    have hlN : ((F.kids x).flatMap (nodesF F.kids (fun i => kn (L i)) n)).length = ((F.kids x).map fun y => (idsF F.kids n y).length).sum := by
      rw [List.length_flatMap]
      congr 1
      exact List.map_congr_left fun y _ => nodesF_len n y
    show b_impl_taken (m_impl_taken n) (some x, T, P, F.st L) = _
    simp only [b_impl_taken, kindOf_eq hx (ha x hx), bind_some]
    rw [appL_some (by simp; omega), bind_some, appL_some (by simp; omega), bind_some]
    rw [hg, bind_some, hfst, h0, bind_some]
    have hget : (T ++ [nd] ++ (F.kids x).flatMap (nodesF F.kids (fun i => kn (L i)) n))[T.length]? = some nd := by simp
    simp only [atI_nat, Int.toNat_natCast, hget, bind_some]
    have hset : ∀ v : Node, (T ++ [nd] ++ (F.kids x).flatMap (nodesF F.kids (fun i => kn (L i)) n)).set T.length v = T ++ v :: (F.kids x).flatMap (nodesF F.kids (fun i => kn (L i)) n) := fun v => by
      rw [List.append_assoc, List.set_append_right _ _ (Nat.le_refl _)]
      simp
    rw [hset, w64 (by simp only [List.length_append, List.length_cons, List.length_nil, hlN]; omega) (by simp only [List.length_append, List.length_cons, List.length_nil, hlN]; omega)]
    simp only [nodesF, idsF, List.map_cons, List.append_assoc, List.singleton_append]
    have hsz : ((T ++ nd :: (F.kids x).flatMap (nodesF F.kids (fun i => kn (L i)) n)).length : Int) - (T.length : Int) = 1 + (((F.kids x).flatMap (nodesF F.kids (fun i => kn (L i)) n)).length : Nat) := by
      simp only [List.length_append, List.length_cons]
      omega
    rw [hsz]
end
end Go.Proofs.YtimdfakgjkjejaaGreat.V
set_option linter.unusedVariables false
set_option linter.unusedSimpArgs false
namespace Go.Proofs.YtimdfakgjkjejaaGreat.V
open Go
def FT (t : List Node) : Fo := ⟨t.length, fun i => if i < t.length then par t i else none, fun i => if i < t.length then kidsN t i else []⟩
section
variable {t : List Node}
theorem RT.L (hR : RT t) {p : Nat} (hp : p < t.length) : Lam t p (p + sz t p) := hR.lam.sub (Nat.zero_le _) hp
theorem RT.le (hR : RT t) {p : Nat} (hp : p < t.length) : p + sz t p ≤ t.length := by
  obtain ⟨_, _, _, _, h⟩ := hR.lam.ok p (Nat.zero_le _) hp
  exact h
theorem RT.sz1 (hR : RT t) {p : Nat} (hp : p < t.length) : 1 ≤ sz t p := by
  obtain ⟨_, _, _, h, _⟩ := hR.lam.ok p (Nat.zero_le _) hp
  exact h
theorem FT_ok (hR : RT t) : (FT t).ok := by
  refine ⟨fun {p c} hc => ?_, fun {c p} hu => ?_, fun p => ?_, fun c => ?_⟩
  · simp only [FT] at hc ⊢
    by_cases hp : p < t.length
    · rw [if_pos hp] at hc
      have h1 := kids_mem (hR.L hp) (Nat.le_refl _) (by have := hR.sz1 hp; omega) hc
      have h2 := hR.le hp
      rw [if_pos (by omega)]
      exact ⟨kids_par (hR.L hp) hc, by omega⟩
    · rw [if_neg hp] at hc; cases hc
  · simp only [FT] at hu ⊢
    by_cases hc : c < t.length
    · rw [if_pos hc] at hu
      have h1 := par_some hu
      have hp : p < t.length := by omega
      rw [if_pos hp]
      exact ⟨hp, kids_in (hR.L hp) hu⟩
    · rw [if_neg hc] at hu; cases hu
  · simp only [FT]
    by_cases hp : p < t.length
    · rw [if_pos hp]
      exact (kids_sorted (hR.L hp)).imp fun h => Nat.ne_of_lt h
    · rw [if_neg hp]; exact List.nodup_nil
  · simp only [FT]
    by_cases hc : c < t.length
    · rw [if_pos hc]
      intro h
      have := par_some h
      omega
    · rw [if_neg hc]; intro h; cases h
theorem getLast_get (l : List Nat) : l.getLast? = l[l.length - 1]? := by
  rw [List.getLast?_eq_getElem?]
theorem store_st (hR : RT t) : store t = (FT t).st (bs0 t) := by
  apply List.ext_getElem?
  intro i
  by_cases hi : i < t.length
  · rw [store_get hi, Fo.get (F := FT t) hi]
    congr 1
    have hL := hR.L hi
    have hle := hR.le hi
    have hk : (FT t).kids i = kidsN t i := if_pos hi
    have hu : (FT t).up i = par t i := if_pos hi
    have e1 : (rc t 0 t.length i).par = par t i := rc_par
    have e2 := kid_fst hL hle
    have e3 := kid_lst hL hle
    have e4 : (rc t 0 t.length i).prv = (par t i).bind fun p => prvL ((FT t).kids p) i := by
      cases hp : par t i with
      | none =>
        simp only [rc, prvF, hp, Option.bind_none]
        split <;> rfl
      | some p =>
        have hpl : p < t.length := by have := par_some hp; omega
        have hkp : (FT t).kids p = kidsN t p := if_pos hpl
        have hm := kids_in (hR.L hpl) hp
        obtain ⟨j, hj⟩ := List.mem_iff_getElem?.1 hm
        have hn : (kidsN t p).Nodup := (kids_sorted (hR.L hpl)).imp fun h => Nat.ne_of_lt h
        rw [kid_prv (hR.L hpl) hj]
        simp only [Option.bind_some, hkp]
        have hjl := (List.getElem?_eq_some_iff.1 hj).1
        unfold prvL
        have hrev : (kidsN t p).reverse[(kidsN t p).length - 1 - j]? = some i := by
          rw [List.getElem?_reverse (by omega)]
          rw [show (kidsN t p).length - 1 - ((kidsN t p).length - 1 - j) = j by omega]
          exact hj
        rw [nxtL_get ((List.reverse_perm _).nodup_iff.2 hn) hrev]
        by_cases h0 : j = 0
        · subst h0
          rw [if_pos rfl, List.getElem?_eq_none (by simp; omega)]
        · rw [if_neg h0, List.getElem?_reverse (by omega)]
          congr 1
          omega
    have e5 : (rc t 0 t.length i).nxt = (par t i).bind fun p => nxtL ((FT t).kids p) i := by
      cases hp : par t i with
      | none =>
        simp only [rc, nxtF, hp, Option.bind_none]
        split <;> rfl
      | some p =>
        have hpl : p < t.length := by have := par_some hp; omega
        have hkp : (FT t).kids p = kidsN t p := if_pos hpl
        have hm := kids_in (hR.L hpl) hp
        obtain ⟨j, hj⟩ := List.mem_iff_getElem?.1 hm
        have hn : (kidsN t p).Nodup := (kids_sorted (hR.L hpl)).imp fun h => Nat.ne_of_lt h
        rw [kid_nxt (hR.L hpl) (hR.le hpl) hj]
        simp only [Option.bind_some, hkp]
        rw [nxtL_get hn hj]
    have h6 : rc t 0 t.length i = ⟨(rc t 0 t.length i).par, (rc t 0 t.length i).fst, (rc t 0 t.length i).lst, (rc t 0 t.length i).prv, (rc t 0 t.length i).nxt, (bs0 t i).ty, (bs0 t i).atom, (bs0 t i).data, (bs0 t i).ns, (bs0 t i).attrs⟩ := rfl
    rw [h6, e1, e2, e3, e4, e5]
    simp only [Fo.mk1, hu, hk, List.head?_eq_getElem?, getLast_get]
  · rw [List.getElem?_eq_none (by rw [store, stp_len]; omega), List.getElem?_eq_none (by show (tab _ _).length ≤ i; rw [tab_len]; exact Nat.le_of_not_lt hi)]
theorem attrH_map (l : List Attr) : (l.map hattr).map attrH = l := by
  rw [List.map_map]
  exact (List.map_congr_left fun a _ => rfl).trans (List.map_id l)
theorem kn_base {v : Node} {i : Nat} (h : RN t i v) : kn (base v) = ⟨v.kind, v.tag, v.text, v.attrs, 0⟩ := by
  rcases h.kd with k | k | k | k | k
  · have h4 := h.k4 (by omega)
    have h7 := h.k7 k
    simp [base, kn, k, h4, h7]
  · have h4 := h.k4 (by omega)
    simp [base, kn, k, h4]
  · have h3 := h.k3 k
    have hm := attrH_map v.attrs
    rw [List.map_map] at hm
    simp [base, kn, k, h3.1, hm]
  · have h4 := h.k4 (by omega)
    simp [base, kn, k, h4]
  · have h4 := h.k4 (by omega)
    simp [base, kn, k, h4]
theorem kn_bs0 (hR : RT t) {i : Nat} {v : Node} (hv : t[i]? = some v) : kn (bs0 t i) = ⟨v.kind, v.tag, v.text, v.attrs, 0⟩ := by
  simp only [bs0, hv]
  exact kn_base (hR.node i v hv)
theorem bs0_attrs (hR : RT t) (i : Nat) : (bs0 t i).attrs.length ≤ 20 := by
  simp only [bs0]
  cases hv : t[i]? with
  | none => simp [base]
  | some v =>
    simp only [base]
    split
    · simp
    split
    · simp
    split
    · simp
    split
    · simp
    · have hk := (hR.node i v hv).kd
      have := (hR.node i v hv).k3 (by omega)
      simpa using this.2.1
theorem ht_kids (hR : RT t) : ∀ (n x : Nat), x < t.length → sz t x ≤ n → Ht (FT t).kids n x
  | 0, x, hx, h => by have := hR.sz1 hx; omega
  | n + 1, x, hx, h => fun y hy => by
    have hk : (FT t).kids x = kidsN t x := if_pos hx
    rw [hk] at hy
    have h1 := kids_mem (hR.L hx) (Nat.le_refl _) (by have := hR.sz1 hx; omega) hy
    have h2 := hR.le hx
    refine ht_kids hR n y (by omega) ?_
    obtain ⟨_, _, _, _, h3⟩ := (hR.L hx).ok y (by omega) h1.2
    omega
theorem ids_tree (hR : RT t) : ∀ (n x : Nat), x < t.length → sz t x ≤ n → idsF (FT t).kids n x = List.range' x (sz t x)
  | 0, x, hx, h => by have := hR.sz1 hx; omega
  | n + 1, x, hx, h => by
    have hk : (FT t).kids x = kidsN t x := if_pos hx
    have h1 := hR.sz1 hx
    have h2 := hR.le hx
    simp only [idsF, hk]
    have key : ∀ f k, x < k → x + sz t x ≤ k + f → k ≤ x + sz t x → (kidsF t f k (x + sz t x)).flatMap (idsF (FT t).kids n) = List.range' k (x + sz t x - k) := by
      intro f
      induction f with
      | zero =>
        intro k hk1 hk2 hk3
        rw [show x + sz t x - k = 0 by omega]
        rfl
      | succ f ih =>
        intro k hk1 hk2 hk3
        simp only [kidsF]
        by_cases hlt : k < x + sz t x
        · rw [if_pos hlt, List.flatMap_cons]
          obtain ⟨_, _, _, g1, g2⟩ := (hR.L hx).ok k (by omega) hlt
          rw [ids_tree hR n k (by omega) (by omega), ih (k + sz t k) (by omega) (by omega) (by omega), List.range'_append_1]
          congr 1
          omega
        · rw [if_neg hlt, show x + sz t x - k = 0 by omega]
          rfl
    unfold kidsN
    rw [key (sz t x) (x + 1) (by omega) (by omega) (by omega)]
    rw [show sz t x = (x + sz t x - (x + 1)) + 1 by omega, List.range'_succ]
    congr 2
    omega
theorem nodes_tree (hR : RT t) : ∀ (n x : Nat), x < t.length → sz t x ≤ n → nodesF (FT t).kids (fun i => kn (bs0 t i)) n x = (t.drop x).take (sz t x)
  | 0, x, hx, h => by have := hR.sz1 hx; omega
  | n + 1, x, hx, h => by
    have hk : (FT t).kids x = kidsN t x := if_pos hx
    have h1 := hR.sz1 hx
    have h2 := hR.le hx
    simp only [nodesF, hk]
    have key : ∀ f k, x < k → x + sz t x ≤ k + f → k ≤ x + sz t x → (kidsF t f k (x + sz t x)).flatMap (nodesF (FT t).kids (fun i => kn (bs0 t i)) n) = (t.drop k).take (x + sz t x - k) := by
      intro f
      induction f with
      | zero =>
        intro k hk1 hk2 hk3
        rw [show x + sz t x - k = 0 by omega]
        rfl
      | succ f ih =>
        intro k hk1 hk2 hk3
        simp only [kidsF]
        by_cases hlt : k < x + sz t x
        · rw [if_pos hlt, List.flatMap_cons]
          obtain ⟨_, _, _, g1, g2⟩ := (hR.L hx).ok k (by omega) hlt
          rw [nodes_tree hR n k (by omega) (by omega), ih (k + sz t k) (by omega) (by omega) (by omega)]
          have e : x + sz t x - k = sz t k + (x + sz t x - (k + sz t k)) := by omega
          rw [e, List.take_add, List.drop_drop]
        · rw [if_neg hlt, show x + sz t x - k = 0 by omega]
          rfl
    unfold kidsN
    rw [key (sz t x) (x + 1) (by omega) (by omega) (by omega)]
    obtain ⟨v, hv⟩ := get_lt (l := t) (k := x) hx
    obtain ⟨u, hu, hsz, _, _⟩ := hR.lam.ok x (Nat.zero_le _) hx
    rw [hv] at hu
    obtain rfl : v = u := Option.some.inj hu
    have hkn := kn_bs0 hR hv
    have hdr : t.drop x = v :: t.drop (x + 1) := by
      obtain ⟨hlt, he⟩ := List.getElem?_eq_some_iff.1 hv
      rw [List.drop_eq_getElem_cons hlt, he]
    have e0 : sz t x = (x + sz t x - (x + 1)) + 1 := by omega
    rw [hkn, hdr]
    conv => rhs; rw [e0, List.take_succ_cons]
    congr 1
    have hlen : ((t.drop (x + 1)).take (x + sz t x - (x + 1))).length = x + sz t x - (x + 1) := by simp; omega
    rw [hlen]
    cases v
    simp only at hsz ⊢
    rw [hsz]
    congr 1
    omega
end
end Go.Proofs.YtimdfakgjkjejaaGreat.V
set_option linter.unusedVariables false
set_option linter.unusedSimpArgs false
namespace Go.Proofs.YtimdfakgjkjejaaGreat.V
open Go Go.Proofs
abbrev p_spec_grown : Pt := [(0, .lst .node), (NT, .ns .k 93 67)]
abbrev q_spec_grown : Pt := [(0, .blkx 66 [.own, .fl (.int .i64), .fl .bool]), (2000000000, .hown 0 0 .np 67), (NT, .ns .k 93 67)]
abbrev p_spec_grown_0 : Pt := [(0, .lst .node), (3, .blkx 66 [.own, .fl (.int .i64), .fl .bool]), (4, .int .i64), (NT, .ns .k 93 67), (2000000192, .hown 3 0 .np 67)]
abbrev x_spec_grown_0 : List (Xt × Pt) := [(.ex 0, [(0, .lst .node), (3, .blkx 66 [.own, .fl (.int .i64), .fl .bool]), (NT, .ns .k 93 67), (2000000192, .hown 3 0 .np 67)])]
noncomputable def m_spec_grown_0 : Tup p_spec_grown_0 → Option (Stp (Tup p_spec_grown_0) (SumT (x_spec_grown_0.map (·.2)))) := fun (x : List Node × (PUnit × Int × Bool) × Int × List KN × List (Option Nat)) => bif decide (x.2.2.1 < (↑(List.length x.1) : Int)) then Option.bind (atI x.1 x.2.2.1) fun (v : Node) => Option.bind (atI x.1 x.2.2.1) fun (v_1 : Node) => Option.bind (appL [] (Node.attrs v_1)) fun (r : List Attr) => Option.bind (some (List.length x.2.2.2.1)) fun (i : Nat) => Option.bind (some i) fun (i : Nat) => Option.bind (x.2.2.2.1 ++ [{ pl := x.2.2.1, n := { kind := Node.kind v, tag := Node.tag v, text := Node.text v, attrs := Node.attrs v, size := Node.size v }, up := none, kids := [] }])[i]? fun (h : KN) => Option.bind (appL x.2.2.2.2 [some (List.length x.2.2.2.1)]) fun (r_1 : List (Option Nat)) => some (Stp.nx (x.1, ((), x.2.1.2.1, x.2.1.2.2), IntKind.wrap .i64 (x.2.2.1 + (1 : Int)), List.set (x.2.2.2.1 ++ [{ pl := x.2.2.1, n := { kind := Node.kind v, tag := Node.tag v, text := Node.text v, attrs := Node.attrs v, size := Node.size v }, up := none, kids := [] }]) i { h with n := { kind := Node.kind (KN.n h), tag := Node.tag (KN.n h), text := Node.text (KN.n h), attrs := r, size := Node.size (KN.n h) } }, r_1)) else some (Stp.out (x.1, ((), x.2.1.2.1, x.2.1.2.2), x.2.2.2.1, x.2.2.2.2))
abbrev p_spec_grown_1_0 : Pt := [(0, .lst .node), (3, .blkx 66 [.own, .fl (.int .i64), .fl .bool]), (6, .int .i64), (7, .int .i64), (NT, .ns .k 93 67), (2000000192, .hown 3 0 .np 67)]
abbrev x_spec_grown_1_0 : List (Xt × Pt) := [(.ex 4, [(0, .lst .node), (3, .blkx 66 [.own, .fl (.int .i64), .fl .bool]), (6, .int .i64), (NT, .ns .k 93 67), (2000000192, .hown 3 0 .np 67)])]
noncomputable def m_spec_grown_1_0 : Tup p_spec_grown_1_0 → Option (Stp (Tup p_spec_grown_1_0) (SumT (x_spec_grown_1_0.map (·.2)))) := fun (x : List Node × (PUnit × Int × Bool) × Int × Int × List KN × List (Option Nat)) => Option.bind (atI x.1 x.2.2.1) fun (v : Node) => bif decide (x.2.2.2.1 < IntKind.wrap .i64 (x.2.2.1 + Node.size v)) then Option.bind (atI x.2.2.2.2.2 x.2.2.2.1) fun (x_1 : Option Nat) => Option.bind x.2.2.2.2.2[Int.toNat x.2.2.2.1]? fun (v : Option Nat) => Option.bind (atI x.2.2.2.2.2 x.2.2.1) fun (x_2 : Option Nat) => Option.bind x.2.2.2.2.2[Int.toNat x.2.2.1]? fun (v_1 : Option Nat) => Option.bind v fun (i : Nat) => Option.bind (some i) fun (i : Nat) => Option.bind x.2.2.2.2.1[i]? fun (h : KN) => Option.bind (atI x.2.2.2.2.2 x.2.2.1) fun (x_3 : Option Nat) => Option.bind x.2.2.2.2.2[Int.toNat x.2.2.1]? fun (v : Option Nat) => Option.bind (atI x.2.2.2.2.2 x.2.2.1) fun (x_4 : Option Nat) => Option.bind x.2.2.2.2.2[Int.toNat x.2.2.1]? fun (v_2 : Option Nat) => Option.bind v_2 fun (i_1 : Nat) => Option.bind (some i_1) fun (i_2 : Nat) => Option.bind (List.set x.2.2.2.2.1 i { h with n := (KN.n h), up := v_1 })[i_2]? fun (h_1 : KN) => Option.bind (atI x.2.2.2.2.2 x.2.2.2.1) fun (x_5 : Option Nat) => Option.bind x.2.2.2.2.2[Int.toNat x.2.2.2.1]? fun (v_3 : Option Nat) => Option.bind (List.set x.2.2.2.2.1 i { h with n := (KN.n h), up := v_1 })[i_2]? fun (h_2 : KN) => Option.bind (appL (KN.kids h_2) [v_3]) fun (r : List (Option Nat)) => Option.bind v fun (i_3 : Nat) => Option.bind (some i_3) fun (i_4 : Nat) => Option.bind (List.set x.2.2.2.2.1 i { h with n := (KN.n h), up := v_1 })[i_4]? fun (h_3 : KN) => bif decide (i_2 = i_4) then Option.bind (atI x.1 x.2.2.2.1) fun (v : Node) => some (Stp.nx (x.1, ((), x.2.1.2.1, x.2.1.2.2), x.2.2.1, IntKind.wrap .i64 (x.2.2.2.1 + Node.size v), List.set (List.set x.2.2.2.2.1 i { h with n := (KN.n h), up := v_1 }) i_4 (KN.wk h_3 r), x.2.2.2.2.2)) else none else some (Stp.out (x.1, ((), x.2.1.2.1, x.2.1.2.2), x.2.2.1, x.2.2.2.2.1, x.2.2.2.2.2))
abbrev p_spec_grown_1 : Pt := [(0, .lst .node), (3, .blkx 66 [.own, .fl (.int .i64), .fl .bool]), (6, .int .i64), (NT, .ns .k 93 67), (2000000192, .hown 3 0 .np 67)]
abbrev x_spec_grown_1 : List (Xt × Pt) := [(.ex 2, [(3, .blkx 66 [.own, .fl (.int .i64), .fl .bool]), (NT, .ns .k 93 67), (2000000192, .hown 3 0 .np 67)])]
noncomputable def m_spec_grown_1 : Tup p_spec_grown_1 → Option (Stp (Tup p_spec_grown_1) (SumT (x_spec_grown_1.map (·.2)))) := fun (x : List Node × (PUnit × Int × Bool) × Int × List KN × List (Option Nat)) => bif decide (x.2.2.1 < (↑(List.length x.1) : Int)) then Option.bind (loopO m_spec_grown_1_0 (x.1, ((), x.2.1.2.1, x.2.1.2.2), x.2.2.1, IntKind.wrap .i64 (x.2.2.1 + (1 : Int)), x.2.2.2.1, x.2.2.2.2)) fun (y : List Node × (PUnit × Int × Bool) × Int × List KN × List (Option Nat)) => some (Stp.nx (y.1, ((), y.2.1.2.1, y.2.1.2.2), IntKind.wrap .i64 (y.2.2.1 + (1 : Int)), y.2.2.2.1, y.2.2.2.2)) else some (Stp.out (((), x.2.1.2.1, x.2.1.2.2), x.2.2.2.1, x.2.2.2.2))
noncomputable def m_spec_grown : Tup p_spec_grown → Option (Tup q_spec_grown) := fun (x : List Node × List KN) => Option.bind (loopO m_spec_grown_0 (x.1, ((), (↑(List.length x.1) : Int), false), (0 : Int), x.2, [])) fun (y : List Node × (PUnit × Int × Bool) × List KN × List (Option Nat)) => Option.bind (loopO m_spec_grown_1 (y.1, ((), y.2.1.2.1, y.2.1.2.2), (0 : Int), y.2.2.1, y.2.2.2)) fun (y : (PUnit × Int × Bool) × List KN × List (Option Nat)) => some (((), y.1.2.1, y.1.2.2), y.2.2, y.2.1)
noncomputable def cx_spec_grown : Cx := ⟨tb, lookE [], lookS [(14, [(true, 0), (true, 1), (true, 2), (true, 3), (true, 4), (true, 5), (true, 6), (true, 7), (true, 8), (true, 9), (true, 10), (true, 11), (true, 12), (true, 13), (true, 14), (true, 15), (false, 16)]), (15, [(true, 0), (true, 1), (true, 2), (true, 3), (true, 4), (true, 5), (true, 6), (true, 7), (true, 8), (true, 9), (true, 10), (true, 11), (true, 12), (true, 13), (true, 14), (true, 15), (true, 16), (true, 17), (true, 18), (true, 19), (true, 20), (true, 21), (true, 22), (true, 23), (false, 24), (false, 25), (true, 26), (true, 27), (false, 28)])]⟩
theorem ck_spec_grown : CxOK Tryz.prog (cx_spec_grown) := cx_ok tb_ok .nil
noncomputable def c_spec_grown_0 : Code := loopAt (Go.Proofs.Tryz.f21.body.getD .skip) 0
noncomputable def l_spec_grown_0 : LEnt := ⟨p_spec_grown_0, x_spec_grown_0, loopO (m_spec_grown_0)⟩
theorem lo_spec_grown_0 : LOK Tryz.prog 115 0 true (l_spec_grown_0) c_spec_grown_0 := loop_ok (body := m_spec_grown_0) (L := lookL []) (ck_spec_grown) mixed (ls_ok (l := []) (by kernel_rfl) .nil) (by intro x; kernel_rfl) (fun x y h => loopO_iff.1 h)
noncomputable def c_spec_grown_1_0 : Code := loopAt (loopAt (Go.Proofs.Tryz.f21.body.getD .skip) 1) 0
noncomputable def l_spec_grown_1_0 : LEnt := ⟨p_spec_grown_1_0, x_spec_grown_1_0, loopO (m_spec_grown_1_0)⟩
theorem lo_spec_grown_1_0 : LOK Tryz.prog 115 0 true (l_spec_grown_1_0) c_spec_grown_1_0 := loop_ok (body := m_spec_grown_1_0) (L := lookL []) (ck_spec_grown) mixed (ls_ok (l := []) (by kernel_rfl) .nil) (by intro x; kernel_rfl) (fun x y h => loopO_iff.1 h)
noncomputable def c_spec_grown_1 : Code := loopAt (Go.Proofs.Tryz.f21.body.getD .skip) 1
noncomputable def l_spec_grown_1 : LEnt := ⟨p_spec_grown_1, x_spec_grown_1, loopO (m_spec_grown_1)⟩
theorem lo_spec_grown_1 : LOK Tryz.prog 115 0 true (l_spec_grown_1) c_spec_grown_1 := loop_ok (body := m_spec_grown_1) (L := lookL [(4, l_spec_grown_1_0)]) (ck_spec_grown) mixed (ls_ok (l := [(4, c_spec_grown_1_0)]) (by kernel_rfl) (.cons rfl (lo_spec_grown_1_0) .nil)) (by intro x; kernel_rfl) (fun x y h => loopO_iff.1 h)
noncomputable def e_spec_grown : Ent := ⟨0, p_spec_grown, q_spec_grown, m_spec_grown⟩
theorem ok_spec_grown : FnOK Tryz.prog 21 e_spec_grown := fn_ok (L := lookL [(0, l_spec_grown_0), (2, l_spec_grown_1)]) ck_spec_grown mixed Tryz.func21 rfl (by kernel_rfl) (by kernel_rfl) (ls_ok (l := [(0, c_spec_grown_0), (2, c_spec_grown_1)]) (by kernel_rfl) (.cons rfl (lo_spec_grown_0) (.cons rfl (lo_spec_grown_1) .nil))) (by intro x; kernel_rfl)
abbrev p_spec_knot_listed : Pt := [(0, .np), (1, .own .node 37), (2, .own .int 3), (NT, .ns .k 93 67)]
abbrev q_spec_knot_listed : Pt := [(0, .own .node 37), (1002, .own .int 3), (NT, .ns .k 93 67)]
abbrev p_spec_knot_listed_0 : Pt := [(0, .np), (1, .own .node 37), (2, .own .int 3), (8, .int .i64), (9, .int .i64), (NT, .ns .k 93 67)]
abbrev x_spec_knot_listed_0 : List (Xt × Pt) := [(.ex 0, [(1, .own .node 37), (2, .own .int 3), (8, .int .i64), (NT, .ns .k 93 67)])]
noncomputable def m_spec_knot_listed_0 (m_spec_knot_listed : Tup p_spec_knot_listed → Option (Tup q_spec_knot_listed)) : Tup p_spec_knot_listed_0 → Option (Stp (Tup p_spec_knot_listed_0) (SumT (x_spec_knot_listed_0.map (·.2)))) := fun (x : Option Nat × List Node × List Int × Int × Int × List KN) => Option.bind x.1 fun (i : Nat) => Option.bind (some i) fun (i : Nat) => Option.bind x.2.2.2.2.2[i]? fun (h : KN) => Option.bind x.2.2.2.2.2[i]? fun (h : KN) => bif decide (x.2.2.2.2.1 < (↑(List.length (KN.kids h)) : Int)) then Option.bind x.1 fun (i : Nat) => Option.bind (some i) fun (i : Nat) => Option.bind x.2.2.2.2.2[i]? fun (h : KN) => Option.bind x.2.2.2.2.2[i]? fun (h : KN) => Option.bind (atI (KN.kids h) x.2.2.2.2.1) fun (x_1 : Option Nat) => Option.bind x.2.2.2.2.2[i]? fun (h : KN) => Option.bind (KN.kids h)[Int.toNat x.2.2.2.2.1]? fun (a : Option Nat) => Option.bind (m_spec_knot_listed (a, x.2.1, x.2.2.1, x.2.2.2.2.2)) fun (r : List Node × List Int × List KN) => some (Stp.nx (x.1, r.1, r.2.1, x.2.2.2.1, IntKind.wrap .i64 (x.2.2.2.2.1 + (1 : Int)), r.2.2)) else some (Stp.out (x.2.1, x.2.2.1, x.2.2.2.1, x.2.2.2.2.2))
noncomputable def b_spec_knot_listed (m_spec_knot_listed : Tup p_spec_knot_listed → Option (Tup q_spec_knot_listed)) : Tup p_spec_knot_listed → Option (Tup q_spec_knot_listed) := fun (x : Option Nat × List Node × List Int × List KN) => Option.bind x.1 fun (i : Nat) => Option.bind (some i) fun (i : Nat) => Option.bind x.2.2.2[i]? fun (h : KN) => bif decide ((0 : Int) ≤ KN.pl h) then Option.bind x.1 fun (i : Nat) => Option.bind (some i) fun (i : Nat) => Option.bind x.2.2.2[i]? fun (h : KN) => bif decide (KN.pl h < (↑(List.length x.2.2.1) : Int)) then Option.bind x.1 fun (i : Nat) => Option.bind (some i) fun (i : Nat) => Option.bind x.2.2.2[i]? fun (h : KN) => Option.bind (atI x.2.2.1 (KN.pl h)) fun (x_1 : Int) => Option.bind x.2.2.1[Int.toNat (KN.pl h)]? fun (v : Int) => Option.bind x.1 fun (i : Nat) => Option.bind (some i) fun (i : Nat) => Option.bind x.2.2.2[i]? fun (h_1 : KN) => Option.bind (appL x.2.1 [(KN.n h_1)]) fun (r : List Node) => Option.bind (loopO (m_spec_knot_listed_0 m_spec_knot_listed) (x.1, r, List.set x.2.2.1 (Int.toNat (KN.pl h)) (↑(List.length x.2.1) : Int), (↑(List.length x.2.1) : Int), (0 : Int), x.2.2.2)) fun (y : List Node × List Int × Int × List KN) => Option.bind (atI y.1 y.2.2.1) fun (x : Node) => Option.bind y.1[Int.toNat y.2.2.1]? fun (v : Node) => some (List.set y.1 (Int.toNat y.2.2.1) { v with size := IntKind.wrap .i64 ((↑(List.length y.1) : Int) - y.2.2.1) }, y.2.1, y.2.2.2) else Option.bind x.1 fun (i : Nat) => Option.bind (some i) fun (i : Nat) => Option.bind x.2.2.2[i]? fun (h : KN) => Option.bind (appL x.2.1 [(KN.n h)]) fun (r : List Node) => Option.bind (loopO (m_spec_knot_listed_0 m_spec_knot_listed) (x.1, r, x.2.2.1, (↑(List.length x.2.1) : Int), (0 : Int), x.2.2.2)) fun (y : List Node × List Int × Int × List KN) => Option.bind (atI y.1 y.2.2.1) fun (x : Node) => Option.bind y.1[Int.toNat y.2.2.1]? fun (v : Node) => some (List.set y.1 (Int.toNat y.2.2.1) { v with size := IntKind.wrap .i64 ((↑(List.length y.1) : Int) - y.2.2.1) }, y.2.1, y.2.2.2) else Option.bind x.1 fun (i : Nat) => Option.bind (some i) fun (i : Nat) => Option.bind x.2.2.2[i]? fun (h : KN) => Option.bind (appL x.2.1 [(KN.n h)]) fun (r : List Node) => Option.bind (loopO (m_spec_knot_listed_0 m_spec_knot_listed) (x.1, r, x.2.2.1, (↑(List.length x.2.1) : Int), (0 : Int), x.2.2.2)) fun (y : List Node × List Int × Int × List KN) => Option.bind (atI y.1 y.2.2.1) fun (x : Node) => Option.bind y.1[Int.toNat y.2.2.1]? fun (v : Node) => some (List.set y.1 (Int.toNat y.2.2.1) { v with size := IntKind.wrap .i64 ((↑(List.length y.1) : Int) - y.2.2.1) }, y.2.1, y.2.2.2)
noncomputable def m_spec_knot_listed : Nat → Tup p_spec_knot_listed → Option (Tup q_spec_knot_listed)
  | 0 => fun _ => none
  | n + 1 => b_spec_knot_listed (m_spec_knot_listed n)
noncomputable def cx_spec_knot_listed (n : Nat) : Cx := ⟨tb, lookE [(23, ⟨2003, p_spec_knot_listed, q_spec_knot_listed, m_spec_knot_listed n⟩)], lookS []⟩
theorem ck_spec_knot_listed (n : Nat) (ih0 : FnOK Tryz.prog 23 ⟨2003, p_spec_knot_listed, q_spec_knot_listed, m_spec_knot_listed n⟩) : CxOK Tryz.prog (cx_spec_knot_listed n) := cx_ok tb_ok (.cons ih0 Tryz.call23 .nil)
noncomputable def c_spec_knot_listed_0 : Code := loopAt (Go.Proofs.Tryz.f23.body.getD .skip) 0
noncomputable def l_spec_knot_listed_0 (n : Nat) : LEnt := ⟨p_spec_knot_listed_0, x_spec_knot_listed_0, loopO (m_spec_knot_listed_0 (m_spec_knot_listed n))⟩
theorem lo_spec_knot_listed_0 (n : Nat) (ih0 : FnOK Tryz.prog 23 ⟨2003, p_spec_knot_listed, q_spec_knot_listed, m_spec_knot_listed n⟩) : LOK Tryz.prog 70 2003 true (l_spec_knot_listed_0 n) c_spec_knot_listed_0 := loop_ok (body := m_spec_knot_listed_0 (m_spec_knot_listed n)) (L := lookL []) (ck_spec_knot_listed n ih0) mixed (ls_ok (l := []) (by kernel_rfl) .nil) (by intro x; kernel_rfl) (fun x y h => loopO_iff.1 h)
theorem st_spec_knot_listed (n : Nat) (ih0 : FnOK Tryz.prog 23 ⟨2003, p_spec_knot_listed, q_spec_knot_listed, m_spec_knot_listed n⟩) : FnOK Tryz.prog 23 ⟨2003, p_spec_knot_listed, q_spec_knot_listed, m_spec_knot_listed (n + 1)⟩ := fn_ok (ent := ⟨2003, p_spec_knot_listed, q_spec_knot_listed, m_spec_knot_listed (n + 1)⟩) (L := lookL [(0, l_spec_knot_listed_0 n)]) (ck_spec_knot_listed n ih0) mixed Tryz.func23 rfl (by kernel_rfl) (by kernel_rfl) (ls_ok (l := [(0, c_spec_knot_listed_0)]) (by kernel_rfl) (.cons rfl (lo_spec_knot_listed_0 n ih0) .nil)) (by intro x; kernel_rfl)
theorem ok0_spec_knot_listed : ∀ n, FnOK Tryz.prog 23 ⟨2003, p_spec_knot_listed, q_spec_knot_listed, m_spec_knot_listed n⟩
  | 0 => fun x r h => by cases h
  | n + 1 => (fun ih => st_spec_knot_listed n ih) (ok0_spec_knot_listed n)
noncomputable def e_spec_knot_listed : Ent := ⟨2003, p_spec_knot_listed, q_spec_knot_listed, m_spec_knot_listed big⟩
theorem ok_spec_knot_listed : FnOK Tryz.prog 23 e_spec_knot_listed := (ok0_spec_knot_listed big)
abbrev p_spec_forest_chosen : Pt := [(0, .blkx 66 [.own, .fl (.int .i64), .fl .bool]), (1, .lst .int), (2000000000, .hown 0 0 .np 67)]
abbrev q_spec_forest_chosen : Pt := [(0, .own .np 67), (1, .bool), (1000, .blkx 66 [.own, .fl (.int .i64), .fl .bool]), (2000064000, .hown 1000 0 .np 67)]
abbrev p_spec_forest_chosen_0_0 : Pt := [(0, .blkx 66 [.own, .fl (.int .i64), .fl .bool]), (1, .lst .int), (6, .own .np 67), (7, .int .i64), (8, .int .i64), (2000000000, .hown 0 0 .np 67)]
abbrev x_spec_forest_chosen_0_0 : List (Xt × Pt) := [(.ex 2, [(0, .blkx 66 [.own, .fl (.int .i64), .fl .bool]), (1, .lst .int), (6, .own .np 67), (7, .int .i64), (2000000000, .hown 0 0 .np 67)]), (.rt, [(0, .blkx 66 [.own, .fl (.int .i64), .fl .bool]), (4, .own .np 67), (5, .bool), (2000000000, .hown 0 0 .np 67)])]
noncomputable def m_spec_forest_chosen_0_0 : Tup p_spec_forest_chosen_0_0 → Option (Stp (Tup p_spec_forest_chosen_0_0) (SumT (x_spec_forest_chosen_0_0.map (·.2)))) := fun (x : (PUnit × Int × Bool) × List Int × List (Option Nat) × Int × Int × List (Option Nat)) => bif decide (x.2.2.2.2.1 < x.2.2.2.1) then Option.bind (atI x.2.1 x.2.2.2.2.1) fun (v : Int) => Option.bind (atI x.2.1 x.2.2.2.1) fun (v_1 : Int) => bif decide (v = v_1) then some (Stp.out (Sum.inr (((), x.1.2.1, x.1.2.2), [], false, x.2.2.2.2.2))) else some (Stp.nx (((), x.1.2.1, x.1.2.2), x.2.1, x.2.2.1, x.2.2.2.1, IntKind.wrap .i64 (x.2.2.2.2.1 + (1 : Int)), x.2.2.2.2.2)) else some (Stp.out (Sum.inl (((), x.1.2.1, x.1.2.2), x.2.1, x.2.2.1, x.2.2.2.1, x.2.2.2.2.2)))
abbrev p_spec_forest_chosen_0 : Pt := [(0, .blkx 66 [.own, .fl (.int .i64), .fl .bool]), (1, .lst .int), (6, .own .np 67), (7, .int .i64), (2000000000, .hown 0 0 .np 67)]
abbrev x_spec_forest_chosen_0 : List (Xt × Pt) := [(.ex 0, [(0, .blkx 66 [.own, .fl (.int .i64), .fl .bool]), (6, .own .np 67), (2000000000, .hown 0 0 .np 67)]), (.rt, [(0, .blkx 66 [.own, .fl (.int .i64), .fl .bool]), (4, .own .np 67), (5, .bool), (2000000000, .hown 0 0 .np 67)])]
noncomputable def m_spec_forest_chosen_0 : Tup p_spec_forest_chosen_0 → Option (Stp (Tup p_spec_forest_chosen_0) (SumT (x_spec_forest_chosen_0.map (·.2)))) := fun (x : (PUnit × Int × Bool) × List Int × List (Option Nat) × Int × List (Option Nat)) => bif decide (x.2.2.2.1 < (↑(List.length x.2.1) : Int)) then Option.bind (atI x.2.1 x.2.2.2.1) fun (v : Int) => bif decide (v < (1 : Int)) then some (Stp.out (Sum.inr (((), x.1.2.1, x.1.2.2), [], false, x.2.2.2.2))) else Option.bind (atI x.2.1 x.2.2.2.1) fun (v : Int) => bif decide ((↑(List.length x.2.2.2.2) : Int) ≤ v) then some (Stp.out (Sum.inr (((), x.1.2.1, x.1.2.2), [], false, x.2.2.2.2))) else Option.bind (loopO m_spec_forest_chosen_0_0 (((), x.1.2.1, x.1.2.2), x.2.1, x.2.2.1, x.2.2.2.1, (0 : Int), x.2.2.2.2)) fun (y : (PUnit × Int × Bool) × List Int × List (Option Nat) × Int × List (Option Nat) ⊕ (PUnit × Int × Bool) × List (Option Nat) × Bool × List (Option Nat)) => selim (fun (y : (PUnit × Int × Bool) × List Int × List (Option Nat) × Int × List (Option Nat)) => Option.bind (atI y.2.1 y.2.2.2.1) fun (v : Int) => Option.bind (atI y.2.2.2.2 v) fun (x : Option Nat) => Option.bind y.2.2.2.2[Int.toNat v]? fun (v : Option Nat) => Option.bind (appL y.2.2.1 [v]) fun (r : List (Option Nat)) => some (Stp.nx (((), y.1.2.1, y.1.2.2), y.2.1, r, IntKind.wrap .i64 (y.2.2.2.1 + (1 : Int)), y.2.2.2.2))) (fun (y : (PUnit × Int × Bool) × List (Option Nat) × Bool × List (Option Nat)) => some (Stp.out (Sum.inr (((), y.1.2.1, y.1.2.2), y.2.1, y.2.2.1, y.2.2.2)))) y else some (Stp.out (Sum.inl (((), x.1.2.1, x.1.2.2), x.2.2.1, x.2.2.2.2)))
noncomputable def m_spec_forest_chosen : Tup p_spec_forest_chosen → Option (Tup q_spec_forest_chosen) := fun (x : (PUnit × Int × Bool) × List Int × List (Option Nat)) => Option.bind (loopO m_spec_forest_chosen_0 (((), x.1.2.1, x.1.2.2), x.2.1, [], (0 : Int), x.2.2)) fun (y : (PUnit × Int × Bool) × List (Option Nat) × List (Option Nat) ⊕ (PUnit × Int × Bool) × List (Option Nat) × Bool × List (Option Nat)) => selim (fun (y : (PUnit × Int × Bool) × List (Option Nat) × List (Option Nat)) => some (y.2.1, true, ((), y.1.2.1, y.1.2.2), y.2.2)) (fun (y : (PUnit × Int × Bool) × List (Option Nat) × Bool × List (Option Nat)) => some (y.2.1, y.2.2.1, ((), y.1.2.1, y.1.2.2), y.2.2.2)) y
noncomputable def cx_spec_forest_chosen : Cx := ⟨tb, lookE [], lookS [(5, [(true, 0), (true, 1), (true, 2), (true, 3), (true, 4), (true, 5), (true, 6), (true, 7), (true, 8), (true, 9), (true, 10), (true, 11), (true, 12), (true, 13), (true, 14), (true, 15), (true, 16)]), (10, [(true, 0), (true, 1), (true, 2), (true, 3), (true, 4), (true, 5), (true, 6), (true, 7), (true, 8)]), (12, [(true, 0), (true, 1), (true, 2), (true, 3), (true, 4), (true, 5), (true, 6), (true, 7), (true, 8), (true, 9), (true, 10), (false, 11), (false, 12), (true, 13)])]⟩
theorem ck_spec_forest_chosen : CxOK Tryz.prog (cx_spec_forest_chosen) := cx_ok tb_ok .nil
noncomputable def c_spec_forest_chosen_0_0 : Code := loopAt (loopAt (Go.Proofs.Tryz.f49.body.getD .skip) 0) 0
noncomputable def l_spec_forest_chosen_0_0 : LEnt := ⟨p_spec_forest_chosen_0_0, x_spec_forest_chosen_0_0, loopO (m_spec_forest_chosen_0_0)⟩
theorem lo_spec_forest_chosen_0_0 : LOK Tryz.prog 60 1 false (l_spec_forest_chosen_0_0) c_spec_forest_chosen_0_0 := loop_ok (body := m_spec_forest_chosen_0_0) (L := lookL []) (ck_spec_forest_chosen) mixed (ls_ok (l := []) (by kernel_rfl) .nil) (by intro x; kernel_rfl) (fun x y h => loopO_iff.1 h)
noncomputable def c_spec_forest_chosen_0 : Code := loopAt (Go.Proofs.Tryz.f49.body.getD .skip) 0
noncomputable def l_spec_forest_chosen_0 : LEnt := ⟨p_spec_forest_chosen_0, x_spec_forest_chosen_0, loopO (m_spec_forest_chosen_0)⟩
theorem lo_spec_forest_chosen_0 : LOK Tryz.prog 60 1 false (l_spec_forest_chosen_0) c_spec_forest_chosen_0 := loop_ok (body := m_spec_forest_chosen_0) (L := lookL [(2, l_spec_forest_chosen_0_0)]) (ck_spec_forest_chosen) mixed (ls_ok (l := [(2, c_spec_forest_chosen_0_0)]) (by kernel_rfl) (.cons rfl (lo_spec_forest_chosen_0_0) .nil)) (by intro x; kernel_rfl) (fun x y h => loopO_iff.1 h)
noncomputable def e_spec_forest_chosen : Ent := ⟨1, p_spec_forest_chosen, q_spec_forest_chosen, m_spec_forest_chosen⟩
theorem ok_spec_forest_chosen : FnOK Tryz.prog 49 e_spec_forest_chosen := fn_ok (L := lookL [(0, l_spec_forest_chosen_0)]) ck_spec_forest_chosen mixed Tryz.func49 rfl (by kernel_rfl) (by kernel_rfl) (ls_ok (l := [(0, c_spec_forest_chosen_0)]) (by kernel_rfl) (.cons rfl (lo_spec_forest_chosen_0) .nil)) (by intro x; kernel_rfl)
abbrev p_spec_are : Pt := [(0, .lst .np), (NTR, .nsr .k)]
abbrev q_spec_are : Pt := [(0, .bool)]
abbrev p_spec_are_0 : Pt := [(0, .lst .np), (3, .int .i64), (NTR, .nsr .k)]
abbrev x_spec_are_0 : List (Xt × Pt) := [(.ex 0, [(NTR, .nsr .k)]), (.rt, [(2, .bool), (NTR, .nsr .k)])]
noncomputable def m_spec_are_0 : Tup p_spec_are_0 → Option (Stp (Tup p_spec_are_0) (SumT (x_spec_are_0.map (·.2)))) := fun (x : List (Option Nat) × Int × List KN) => bif decide (x.2.1 < (↑(List.length x.1) : Int)) then Option.bind (atI x.1 x.2.1) fun (v : Option Nat) => Option.bind v fun (i : Nat) => Option.bind (some i) fun (i : Nat) => Option.bind x.2.2[i]? fun (h : KN) => bif decide (Node.kind (KN.n h) ≠ (3 : Int)) then some (Stp.out (Sum.inr (false, x.2.2))) else some (Stp.nx (x.1, IntKind.wrap .i64 (x.2.1 + (1 : Int)), x.2.2)) else some (Stp.out (Sum.inl x.2.2))
noncomputable def m_spec_are : Tup p_spec_are → Option (Tup q_spec_are) := fun (x : List (Option Nat) × List KN) => Option.bind (loopO m_spec_are_0 (x.1, (0 : Int), x.2)) fun (y : List KN ⊕ Bool × List KN) => selim (fun (y : List KN) => some true) (fun (y : Bool × List KN) => some y.1) y
noncomputable def cx_spec_are : Cx := ⟨tb, lookE [], lookS []⟩
theorem ck_spec_are : CxOK Tryz.prog (cx_spec_are) := cx_ok tb_ok .nil
noncomputable def c_spec_are_0 : Code := loopAt (Go.Proofs.Tryz.f52.body.getD .skip) 0
noncomputable def l_spec_are_0 : LEnt := ⟨p_spec_are_0, x_spec_are_0, loopO (m_spec_are_0)⟩
theorem lo_spec_are_0 : LOK Tryz.prog 19 0 false (l_spec_are_0) c_spec_are_0 := loop_ok (body := m_spec_are_0) (L := lookL []) (ck_spec_are) mixed (ls_ok (l := []) (by kernel_rfl) .nil) (by intro x; kernel_rfl) (fun x y h => loopO_iff.1 h)
noncomputable def e_spec_are : Ent := ⟨0, p_spec_are, q_spec_are, m_spec_are⟩
theorem ok_spec_are : FnOK Tryz.prog 52 e_spec_are := fn_ok (L := lookL [(0, l_spec_are_0)]) ck_spec_are mixed Tryz.func52 rfl (by kernel_rfl) (by kernel_rfl) (ls_ok (l := [(0, c_spec_are_0)]) (by kernel_rfl) (.cons rfl (lo_spec_are_0) .nil)) (by intro x; kernel_rfl)
abbrev p_spec_withAttr : Pt := [(0, .lst .attr), (1, .str), (2, .str)]
abbrev q_spec_withAttr : Pt := [(0, .own .attr 58)]
abbrev p_spec_withAttr_0 : Pt := [(1, .str), (2, .str), (7, .own .attr 58), (8, .int .i64)]
abbrev x_spec_withAttr_0 : List (Xt × Pt) := [(.ex 0, [(1, .str), (2, .str), (7, .own .attr 58)]), (.rt, [(6, .own .attr 58)])]
noncomputable def m_spec_withAttr_0 : Tup p_spec_withAttr_0 → Option (Stp (Tup p_spec_withAttr_0) (SumT (x_spec_withAttr_0.map (·.2)))) := fun (x : List UInt8 × List UInt8 × List Attr × Int) => bif decide (x.2.2.2 < (↑(List.length x.2.2.1) : Int)) then Option.bind (atI x.2.2.1 x.2.2.2) fun (x_1 : Attr) => Option.bind x.2.2.1[Int.toNat x.2.2.2]? fun (v : Attr) => bif decide (Attr.key v = x.1) then Option.bind (atI x.2.2.1 x.2.2.2) fun (x_2 : Attr) => Option.bind x.2.2.1[Int.toNat x.2.2.2]? fun (v : Attr) => some (Stp.out (Sum.inr (List.set x.2.2.1 (Int.toNat x.2.2.2) { key := Attr.key v, val := x.2.1 }))) else some (Stp.nx (x.1, x.2.1, x.2.2.1, IntKind.wrap .i64 (x.2.2.2 + (1 : Int)))) else some (Stp.out (Sum.inl (x.1, x.2.1, x.2.2.1)))
noncomputable def m_spec_withAttr : Tup p_spec_withAttr → Option (Tup q_spec_withAttr) := fun (x : List Attr × List UInt8 × List UInt8) => Option.bind (appL [] x.1) fun (r : List Attr) => Option.bind (loopO m_spec_withAttr_0 (x.2.1, x.2.2, r, (0 : Int))) fun (y : List UInt8 × List UInt8 × List Attr ⊕ List Attr) => selim (fun (y : List UInt8 × List UInt8 × List Attr) => Option.bind (appL y.2.2 [{ key := y.1, val := y.2.1 }]) fun (r : List Attr) => some r) (fun (y : List Attr) => some y) y
noncomputable def cx_spec_withAttr : Cx := ⟨tb, lookE [], lookS []⟩
theorem ck_spec_withAttr : CxOK Tryz.prog (cx_spec_withAttr) := cx_ok tb_ok .nil
noncomputable def c_spec_withAttr_0 : Code := loopAt (Go.Proofs.Tryz.f102.body.getD .skip) 0
noncomputable def l_spec_withAttr_0 : LEnt := ⟨p_spec_withAttr_0, x_spec_withAttr_0, loopO (m_spec_withAttr_0)⟩
theorem lo_spec_withAttr_0 : LOK Tryz.prog 37 0 false (l_spec_withAttr_0) c_spec_withAttr_0 := loop_ok (body := m_spec_withAttr_0) (L := lookL []) (ck_spec_withAttr) mixed (ls_ok (l := []) (by kernel_rfl) .nil) (by intro x; kernel_rfl) (fun x y h => loopO_iff.1 h)
noncomputable def e_spec_withAttr : Ent := ⟨0, p_spec_withAttr, q_spec_withAttr, m_spec_withAttr⟩
theorem ok_spec_withAttr : FnOK Tryz.prog 102 e_spec_withAttr := fn_ok (L := lookL [(0, l_spec_withAttr_0)]) ck_spec_withAttr mixed Tryz.func102 rfl (by kernel_rfl) (by kernel_rfl) (ls_ok (l := [(0, c_spec_withAttr_0)]) (by kernel_rfl) (.cons rfl (lo_spec_withAttr_0) .nil)) (by intro x; kernel_rfl)
abbrev p_spec_withoutAttr : Pt := [(0, .lst .attr), (1, .str)]
abbrev q_spec_withoutAttr : Pt := [(0, .own .attr 58)]
abbrev p_spec_withoutAttr_0 : Pt := [(0, .lst .attr), (1, .str), (5, .own .attr 58), (6, .int .i64)]
abbrev x_spec_withoutAttr_0 : List (Xt × Pt) := [(.ex 0, [(5, .own .attr 58)])]
noncomputable def m_spec_withoutAttr_0 : Tup p_spec_withoutAttr_0 → Option (Stp (Tup p_spec_withoutAttr_0) (SumT (x_spec_withoutAttr_0.map (·.2)))) := fun (x : List Attr × List UInt8 × List Attr × Int) => bif decide (x.2.2.2 < (↑(List.length x.1) : Int)) then Option.bind (atI x.1 x.2.2.2) fun (v : Attr) => bif decide (Attr.key v ≠ x.2.1) then Option.bind (atI x.1 x.2.2.2) fun (v : Attr) => Option.bind (appL x.2.2.1 [{ key := Attr.key v, val := Attr.val v }]) fun (r : List Attr) => some (Stp.nx (x.1, x.2.1, r, IntKind.wrap .i64 (x.2.2.2 + (1 : Int)))) else some (Stp.nx (x.1, x.2.1, x.2.2.1, IntKind.wrap .i64 (x.2.2.2 + (1 : Int)))) else some (Stp.out x.2.2.1)
noncomputable def m_spec_withoutAttr : Tup p_spec_withoutAttr → Option (Tup q_spec_withoutAttr) := fun (x : List Attr × List UInt8) => Option.bind (loopO m_spec_withoutAttr_0 (x.1, x.2, [], (0 : Int))) fun (y : List Attr) => some y
noncomputable def cx_spec_withoutAttr : Cx := ⟨tb, lookE [], lookS []⟩
theorem ck_spec_withoutAttr : CxOK Tryz.prog (cx_spec_withoutAttr) := cx_ok tb_ok .nil
noncomputable def c_spec_withoutAttr_0 : Code := loopAt (Go.Proofs.Tryz.f103.body.getD .skip) 0
noncomputable def l_spec_withoutAttr_0 : LEnt := ⟨p_spec_withoutAttr_0, x_spec_withoutAttr_0, loopO (m_spec_withoutAttr_0)⟩
theorem lo_spec_withoutAttr_0 : LOK Tryz.prog 28 0 false (l_spec_withoutAttr_0) c_spec_withoutAttr_0 := loop_ok (body := m_spec_withoutAttr_0) (L := lookL []) (ck_spec_withoutAttr) mixed (ls_ok (l := []) (by kernel_rfl) .nil) (by intro x; kernel_rfl) (fun x y h => loopO_iff.1 h)
noncomputable def e_spec_withoutAttr : Ent := ⟨0, p_spec_withoutAttr, q_spec_withoutAttr, m_spec_withoutAttr⟩
theorem ok_spec_withoutAttr : FnOK Tryz.prog 103 e_spec_withoutAttr := fn_ok (L := lookL [(0, l_spec_withoutAttr_0)]) ck_spec_withoutAttr mixed Tryz.func103 rfl (by kernel_rfl) (by kernel_rfl) (ls_ok (l := [(0, c_spec_withoutAttr_0)]) (by kernel_rfl) (.cons rfl (lo_spec_withoutAttr_0) .nil)) (by intro x; kernel_rfl)
abbrev p_spec_attributes : Pt := [(0, .el (.rc (.int .i64) [.ints, .ints, .str, .str, .strs] 0)), (1, .lst .np), (NT, .ns .k 93 67)]
abbrev q_spec_attributes : Pt := [(0, .bool), (NT, .ns .k 93 67)]
abbrev p_spec_attributes_0_0 : Pt := [(1, .lst .np), (2, .blk (.rc (.int .i64) [.ints, .ints, .str, .str, .strs] 0) 28), (5, .int .i64), (6, .int .i64), (NT, .ns .k 93 67)]
abbrev x_spec_attributes_0_0 : List (Xt × Pt) := [(.ex 2, [(1, .lst .np), (2, .blk (.rc (.int .i64) [.ints, .ints, .str, .str, .strs] 0) 28), (5, .int .i64), (NT, .ns .k 93 67)]), (.rt, [(4, .bool), (NT, .ns .k 93 67)])]
noncomputable def m_spec_attributes_0_0 : Tup p_spec_attributes_0_0 → Option (Stp (Tup p_spec_attributes_0_0) (SumT (x_spec_attributes_0_0.map (·.2)))) := fun (x : List (Option Nat) × (Int × List Int × List Int × List UInt8 × List UInt8 × List (List UInt8)) × Int × Int × List KN) => bif decide (x.2.2.2.1 < x.2.2.1) then Option.bind (atI x.2.1.2.2.2.2.2 x.2.2.2.1) fun (v : List UInt8) => Option.bind (atI x.2.1.2.2.2.2.2 x.2.2.1) fun (v_1 : List UInt8) => bif decide (v = v_1) then some (Stp.out (Sum.inr (false, x.2.2.2.2))) else some (Stp.nx (x.1, (x.2.1.1, x.2.1.2.1, x.2.1.2.2.1, x.2.1.2.2.2.1, x.2.1.2.2.2.2.1, x.2.1.2.2.2.2.2), x.2.2.1, IntKind.wrap .i64 (x.2.2.2.1 + (1 : Int)), x.2.2.2.2)) else some (Stp.out (Sum.inl (x.1, (x.2.1.1, x.2.1.2.1, x.2.1.2.2.1, x.2.1.2.2.2.1, x.2.1.2.2.2.2.1, x.2.1.2.2.2.2.2), x.2.2.1, x.2.2.2.2)))
abbrev p_spec_attributes_0 : Pt := [(1, .lst .np), (2, .blk (.rc (.int .i64) [.ints, .ints, .str, .str, .strs] 0) 28), (5, .int .i64), (NT, .ns .k 93 67)]
abbrev x_spec_attributes_0 : List (Xt × Pt) := [(.ex 0, [(1, .lst .np), (2, .blk (.rc (.int .i64) [.ints, .ints, .str, .str, .strs] 0) 28), (NT, .ns .k 93 67)]), (.rt, [(4, .bool), (NT, .ns .k 93 67)])]
noncomputable def m_spec_attributes_0 : Tup p_spec_attributes_0 → Option (Stp (Tup p_spec_attributes_0) (SumT (x_spec_attributes_0.map (·.2)))) := fun (x : List (Option Nat) × (Int × List Int × List Int × List UInt8 × List UInt8 × List (List UInt8)) × Int × List KN) => bif decide (x.2.2.1 < (↑(List.length x.2.1.2.2.2.2.2) : Int)) then Option.bind (atI x.2.1.2.2.2.2.2 x.2.2.1) fun (v : List UInt8) => none else some (Stp.out (Sum.inl (x.1, (x.2.1.1, x.2.1.2.1, x.2.1.2.2.1, x.2.1.2.2.2.1, x.2.1.2.2.2.2.1, x.2.1.2.2.2.2.2), x.2.2.2)))
abbrev p_spec_attributes_1 : Pt := [(1, .lst .np), (2, .blk (.rc (.int .i64) [.ints, .ints, .str, .str, .strs] 0) 28), (7, .int .i64), (NT, .ns .k 93 67)]
abbrev x_spec_attributes_1 : List (Xt × Pt) := [(.ex 4, [(NT, .ns .k 93 67)]), (.rt, [(4, .bool), (NT, .ns .k 93 67)])]
noncomputable def m_spec_attributes_1 : Tup p_spec_attributes_1 → Option (Stp (Tup p_spec_attributes_1) (SumT (x_spec_attributes_1.map (·.2)))) := fun (x : List (Option Nat) × (Int × List Int × List Int × List UInt8 × List UInt8 × List (List UInt8)) × Int × List KN) => bif decide (x.2.2.1 < (↑(List.length x.1) : Int)) then Option.bind (atI x.1 x.2.2.1) fun (v : Option Nat) => Option.bind v fun (i : Nat) => Option.bind (some i) fun (i : Nat) => bif decide (x.2.1.1 = (12 : Int)) then Option.bind x.2.2.2[i]? fun (h : KN) => Option.bind (m_spec_withAttr (Node.attrs (KN.n h), x.2.1.2.2.2.1, x.2.1.2.2.2.2.1)) fun (r : List Attr) => Option.bind x.2.2.2[i]? fun (h : KN) => some (Stp.nx (x.1, (x.2.1.1, x.2.1.2.1, x.2.1.2.2.1, x.2.1.2.2.2.1, x.2.1.2.2.2.2.1, x.2.1.2.2.2.2.2), IntKind.wrap .i64 (x.2.2.1 + (1 : Int)), List.set x.2.2.2 i { h with n := { kind := Node.kind (KN.n h), tag := Node.tag (KN.n h), text := Node.text (KN.n h), attrs := r, size := Node.size (KN.n h) } })) else bif decide (x.2.1.1 = (13 : Int)) then Option.bind x.2.2.2[i]? fun (h : KN) => Option.bind (m_spec_withoutAttr (Node.attrs (KN.n h), x.2.1.2.2.2.1)) fun (r : List Attr) => Option.bind x.2.2.2[i]? fun (h : KN) => some (Stp.nx (x.1, (x.2.1.1, x.2.1.2.1, x.2.1.2.2.1, x.2.1.2.2.2.1, x.2.1.2.2.2.2.1, x.2.1.2.2.2.2.2), IntKind.wrap .i64 (x.2.2.1 + (1 : Int)), List.set x.2.2.2 i { h with n := { kind := Node.kind (KN.n h), tag := Node.tag (KN.n h), text := Node.text (KN.n h), attrs := r, size := Node.size (KN.n h) } })) else bif decide (x.2.1.1 = (14 : Int)) then Option.bind x.2.2.2[i]? fun (h : KN) => Option.bind (m_spec_Attr ((KN.n h), [(99 : UInt8), (108 : UInt8), (97 : UInt8), (115 : UInt8), (115 : UInt8)])) fun (r : List UInt8 × Bool) => bif decide ((↑(List.length x.2.1.2.2.2.2.2) : Int) = (0 : Int)) then some (Stp.out (Sum.inr (false, x.2.2.2))) else none else bif decide (x.2.1.1 = (15 : Int)) then Option.bind x.2.2.2[i]? fun (h : KN) => Option.bind (m_spec_Attr ((KN.n h), [(99 : UInt8), (108 : UInt8), (97 : UInt8), (115 : UInt8), (115 : UInt8)])) fun (r : List UInt8 × Bool) => bif decide ((↑(List.length x.2.1.2.2.2.2.2) : Int) = (0 : Int)) then some (Stp.out (Sum.inr (false, x.2.2.2))) else none else bif decide (x.2.1.1 = (16 : Int)) then Option.bind x.2.2.2[i]? fun (h : KN) => Option.bind (m_spec_Attr ((KN.n h), [(99 : UInt8), (108 : UInt8), (97 : UInt8), (115 : UInt8), (115 : UInt8)])) fun (r : List UInt8 × Bool) => bif decide ((↑(List.length x.2.1.2.2.2.2.2) : Int) = (0 : Int)) then some (Stp.out (Sum.inr (false, x.2.2.2))) else none else some (Stp.out (Sum.inr (false, x.2.2.2))) else some (Stp.out (Sum.inl x.2.2.2))
noncomputable def m_spec_attributes : Tup p_spec_attributes → Option (Tup q_spec_attributes) := fun (x : (Int × List Int × List Int × List UInt8 × List UInt8 × List (List UInt8)) × List (Option Nat) × List KN) => bif decide (x.1.1 = (12 : Int)) then Option.bind (m_spec_Name x.1.2.2.2.1) fun (r : Bool) => bif !r then some (false, x.2.2) else Option.bind (loopO m_spec_attributes_0 (x.2.1, (x.1.1, x.1.2.1, x.1.2.2.1, x.1.2.2.2.1, x.1.2.2.2.2.1, x.1.2.2.2.2.2), (0 : Int), x.2.2)) fun (y : List (Option Nat) × (Int × List Int × List Int × List UInt8 × List UInt8 × List (List UInt8)) × List KN ⊕ Bool × List KN) => selim (fun (y : List (Option Nat) × (Int × List Int × List Int × List UInt8 × List UInt8 × List (List UInt8)) × List KN) => Option.bind (loopO m_spec_attributes_1 (y.1, (y.2.1.1, y.2.1.2.1, y.2.1.2.2.1, y.2.1.2.2.2.1, y.2.1.2.2.2.2.1, y.2.1.2.2.2.2.2), (0 : Int), y.2.2)) fun (y : List KN ⊕ Bool × List KN) => selim (fun (y : List KN) => some (true, y)) (fun (y : Bool × List KN) => some (y.1, y.2)) y) (fun (y : Bool × List KN) => some (y.1, y.2)) y else bif decide (x.1.1 = (13 : Int)) then Option.bind (m_spec_Name x.1.2.2.2.1) fun (r : Bool) => bif !r then some (false, x.2.2) else Option.bind (loopO m_spec_attributes_0 (x.2.1, (x.1.1, x.1.2.1, x.1.2.2.1, x.1.2.2.2.1, x.1.2.2.2.2.1, x.1.2.2.2.2.2), (0 : Int), x.2.2)) fun (y : List (Option Nat) × (Int × List Int × List Int × List UInt8 × List UInt8 × List (List UInt8)) × List KN ⊕ Bool × List KN) => selim (fun (y : List (Option Nat) × (Int × List Int × List Int × List UInt8 × List UInt8 × List (List UInt8)) × List KN) => Option.bind (loopO m_spec_attributes_1 (y.1, (y.2.1.1, y.2.1.2.1, y.2.1.2.2.1, y.2.1.2.2.2.1, y.2.1.2.2.2.2.1, y.2.1.2.2.2.2.2), (0 : Int), y.2.2)) fun (y : List KN ⊕ Bool × List KN) => selim (fun (y : List KN) => some (true, y)) (fun (y : Bool × List KN) => some (y.1, y.2)) y) (fun (y : Bool × List KN) => some (y.1, y.2)) y else Option.bind (loopO m_spec_attributes_0 (x.2.1, (x.1.1, x.1.2.1, x.1.2.2.1, x.1.2.2.2.1, x.1.2.2.2.2.1, x.1.2.2.2.2.2), (0 : Int), x.2.2)) fun (y : List (Option Nat) × (Int × List Int × List Int × List UInt8 × List UInt8 × List (List UInt8)) × List KN ⊕ Bool × List KN) => selim (fun (y : List (Option Nat) × (Int × List Int × List Int × List UInt8 × List UInt8 × List (List UInt8)) × List KN) => Option.bind (loopO m_spec_attributes_1 (y.1, (y.2.1.1, y.2.1.2.1, y.2.1.2.2.1, y.2.1.2.2.2.1, y.2.1.2.2.2.2.1, y.2.1.2.2.2.2.2), (0 : Int), y.2.2)) fun (y : List KN ⊕ Bool × List KN) => selim (fun (y : List KN) => some (true, y)) (fun (y : Bool × List KN) => some (y.1, y.2)) y) (fun (y : Bool × List KN) => some (y.1, y.2)) y
noncomputable def cx_spec_attributes : Cx := ⟨tb, lookE [(90, e_spec_Name), (102, e_spec_withAttr), (103, e_spec_withoutAttr), (8, e_spec_Attr)], lookS [(11, [(true, 0), (true, 1), (true, 2), (true, 3), (true, 4), (true, 5), (true, 6), (true, 7), (true, 8), (true, 9), (true, 10)]), (20, [(true, 0), (true, 1), (true, 2), (true, 3), (true, 4), (true, 5), (true, 6), (true, 7), (true, 8), (false, 9), (true, 10), (true, 11), (false, 12)]), (22, [(true, 0), (true, 1), (true, 2), (true, 3), (true, 4), (true, 5), (true, 6), (false, 7), (true, 8), (true, 9), (false, 10)]), (29, [(true, 0), (true, 1), (true, 2), (true, 3), (true, 4), (true, 5), (true, 6), (true, 7), (true, 8), (true, 9), (false, 10), (false, 11), (true, 12), (true, 13), (false, 14)])]⟩
theorem ck_spec_attributes : CxOK Tryz.prog (cx_spec_attributes) := cx_ok tb_ok (.cons ok_spec_Name Tryz.call90 (.cons ok_spec_withAttr Tryz.call102 (.cons ok_spec_withoutAttr Tryz.call103 (.cons ok_spec_Attr Tryz.call8 .nil))))
noncomputable def c_spec_attributes_0_0 : Code := loopAt (loopAt (Go.Proofs.Tryz.f55.body.getD .skip) 0) 0
noncomputable def l_spec_attributes_0_0 : LEnt := ⟨p_spec_attributes_0_0, x_spec_attributes_0_0, loopO (m_spec_attributes_0_0)⟩
theorem lo_spec_attributes_0_0 : LOK Tryz.prog 129 0 true (l_spec_attributes_0_0) c_spec_attributes_0_0 := loop_ok (body := m_spec_attributes_0_0) (L := lookL []) (ck_spec_attributes) mixed (ls_ok (l := []) (by kernel_rfl) .nil) (by intro x; kernel_rfl) (fun x y h => loopO_iff.1 h)
noncomputable def c_spec_attributes_0 : Code := loopAt (Go.Proofs.Tryz.f55.body.getD .skip) 0
noncomputable def l_spec_attributes_0 : LEnt := ⟨p_spec_attributes_0, x_spec_attributes_0, loopO (m_spec_attributes_0)⟩
theorem lo_spec_attributes_0 : LOK Tryz.prog 129 0 true (l_spec_attributes_0) c_spec_attributes_0 := loop_ok (body := m_spec_attributes_0) (L := lookL [(2, l_spec_attributes_0_0)]) (ck_spec_attributes) mixed (ls_ok (l := [(2, c_spec_attributes_0_0)]) (by kernel_rfl) (.cons rfl (lo_spec_attributes_0_0) .nil)) (by intro x; kernel_rfl) (fun x y h => loopO_iff.1 h)
noncomputable def c_spec_attributes_1 : Code := loopAt (Go.Proofs.Tryz.f55.body.getD .skip) 1
noncomputable def l_spec_attributes_1 : LEnt := ⟨p_spec_attributes_1, x_spec_attributes_1, loopO (m_spec_attributes_1)⟩
theorem lo_spec_attributes_1 : LOK Tryz.prog 129 0 true (l_spec_attributes_1) c_spec_attributes_1 := loop_ok (body := m_spec_attributes_1) (L := lookL []) (ck_spec_attributes) mixed (ls_ok (l := []) (by kernel_rfl) .nil) (by intro x; kernel_rfl) (fun x y h => loopO_iff.1 h)
noncomputable def e_spec_attributes : Ent := ⟨0, p_spec_attributes, q_spec_attributes, m_spec_attributes⟩
theorem ok_spec_attributes : FnOK Tryz.prog 55 e_spec_attributes := fn_ok (L := lookL [(0, l_spec_attributes_0), (4, l_spec_attributes_1)]) ck_spec_attributes mixed Tryz.func55 rfl (by kernel_rfl) (by kernel_rfl) (ls_ok (l := [(0, c_spec_attributes_0), (4, c_spec_attributes_1)]) (by kernel_rfl) (.cons rfl (lo_spec_attributes_0) (.cons rfl (lo_spec_attributes_1) .nil))) (by intro x; kernel_rfl)
abbrev p_spec_forest_step_a : Pt := [(0, .blkx 66 [.own, .fl (.int .i64), .fl .bool]), (1, .el (.rc (.int .i64) [.ints, .ints, .str, .str, .strs] 0)), (2000000000, .hown 0 0 .np 67), (NT, .ns .k 93 67)]
abbrev q_spec_forest_step_a : Pt := [(0, .bool), (1000, .blkx 66 [.own, .fl (.int .i64), .fl .bool]), (2000064000, .hown 1000 0 .np 67), (NT, .ns .k 93 67)]
abbrev p_spec_forest_step_a_0 : Pt := [(0, .blkx 66 [.own, .fl (.int .i64), .fl .bool]), (5, .own .np 67), (9, .int .i64), (NT, .ns .k 93 67), (2000000000, .hown 0 0 .np 67)]
abbrev x_spec_forest_step_a_0 : List (Xt × Pt) := [(.ex 1, [(0, .blkx 66 [.own, .fl (.int .i64), .fl .bool]), (NT, .ns .k 93 67), (2000000000, .hown 0 0 .np 67)])]
noncomputable def m_spec_forest_step_a_0 : Tup p_spec_forest_step_a_0 → Option (Stp (Tup p_spec_forest_step_a_0) (SumT (x_spec_forest_step_a_0.map (·.2)))) := fun (x : (PUnit × Int × Bool) × List (Option Nat) × Int × List KN × List (Option Nat)) => bif decide (x.2.2.1 < (↑(List.length x.2.1) : Int)) then Option.bind (atI x.2.1 x.2.2.1) fun (x_1 : Option Nat) => Option.bind x.2.1[Int.toNat x.2.2.1]? fun (v : Option Nat) => none else some (Stp.out (((), x.1.2.1, x.1.2.2), x.2.2.2.1, x.2.2.2.2))
abbrev p_spec_forest_step_a_1_0 : Pt := [(0, .blkx 66 [.own, .fl (.int .i64), .fl .bool]), (5, .own .np 67), (10, .int .i64), (NT, .ns .k 93 67), (2000000000, .hown 0 0 .np 67)]
abbrev x_spec_forest_step_a_1_0 : List (Xt × Pt) := [(.ex 5, [(0, .blkx 66 [.own, .fl (.int .i64), .fl .bool]), (5, .own .np 67), (10, .int .i64), (NT, .ns .k 93 67), (2000000000, .hown 0 0 .np 67)])]
noncomputable def m_spec_forest_step_a_1_0 : Tup p_spec_forest_step_a_1_0 → Option (Stp (Tup p_spec_forest_step_a_1_0) (SumT (x_spec_forest_step_a_1_0.map (·.2)))) := fun (x : (PUnit × Int × Bool) × List (Option Nat) × Int × List KN × List (Option Nat)) => Option.bind (atI x.2.1 x.2.2.1) fun (x_1 : Option Nat) => Option.bind x.2.1[Int.toNat x.2.2.1]? fun (v : Option Nat) => Option.bind v fun (i : Nat) => Option.bind (some i) fun (i : Nat) => Option.bind x.2.2.2.1[i]? fun (h : KN) => Option.bind x.2.2.2.1[i]? fun (h : KN) => bif decide ((0 : Int) < (↑(List.length (KN.kids h)) : Int)) then Option.bind (atI x.2.1 x.2.2.1) fun (x_2 : Option Nat) => Option.bind x.2.1[Int.toNat x.2.2.1]? fun (v : Option Nat) => Option.bind v fun (i : Nat) => Option.bind (some i) fun (i : Nat) => Option.bind x.2.2.2.1[i]? fun (h : KN) => Option.bind x.2.2.2.1[i]? fun (h : KN) => Option.bind (atI (KN.kids h) (0 : Int)) fun (x_3 : Option Nat) => Option.bind x.2.2.2.1[i]? fun (h : KN) => Option.bind (KN.kids h)[Int.toNat (0 : Int)]? fun (a : Option Nat) => none else some (Stp.out (((), x.1.2.1, x.1.2.2), x.2.1, x.2.2.1, x.2.2.2.1, x.2.2.2.2))
abbrev p_spec_forest_step_a_1 : Pt := [(0, .blkx 66 [.own, .fl (.int .i64), .fl .bool]), (5, .own .np 67), (10, .int .i64), (NT, .ns .k 93 67), (2000000000, .hown 0 0 .np 67)]
abbrev x_spec_forest_step_a_1 : List (Xt × Pt) := [(.ex 3, [(0, .blkx 66 [.own, .fl (.int .i64), .fl .bool]), (5, .own .np 67), (NT, .ns .k 93 67), (2000000000, .hown 0 0 .np 67)])]
noncomputable def m_spec_forest_step_a_1 : Tup p_spec_forest_step_a_1 → Option (Stp (Tup p_spec_forest_step_a_1) (SumT (x_spec_forest_step_a_1.map (·.2)))) := fun (x : (PUnit × Int × Bool) × List (Option Nat) × Int × List KN × List (Option Nat)) => bif decide (x.2.2.1 < (↑(List.length x.2.1) : Int)) then Option.bind (loopO m_spec_forest_step_a_1_0 (((), x.1.2.1, x.1.2.2), x.2.1, x.2.2.1, x.2.2.2.1, x.2.2.2.2)) fun (y : (PUnit × Int × Bool) × List (Option Nat) × Int × List KN × List (Option Nat)) => some (Stp.nx (((), y.1.2.1, y.1.2.2), y.2.1, IntKind.wrap .i64 (y.2.2.1 + (1 : Int)), y.2.2.2.1, y.2.2.2.2)) else some (Stp.out (((), x.1.2.1, x.1.2.2), x.2.1, x.2.2.2.1, x.2.2.2.2))
noncomputable def m_spec_forest_step_a : Tup p_spec_forest_step_a → Option (Tup q_spec_forest_step_a) := fun (x : (PUnit × Int × Bool) × (Int × List Int × List Int × List UInt8 × List UInt8 × List (List UInt8)) × List (Option Nat) × List KN) => Option.bind (m_spec_forest_chosen (((), x.1.2.1, x.1.2.2), x.2.1.2.1, x.2.2.1)) fun (r : List (Option Nat) × Bool × (PUnit × Int × Bool) × List (Option Nat)) => Option.bind (m_spec_forest_chosen (((), r.2.2.1.2.1, r.2.2.1.2.2), x.2.1.2.2.1, r.2.2.2)) fun (r_1 : List (Option Nat) × Bool × (PUnit × Int × Bool) × List (Option Nat)) => bif !r.2.1 then some (false, ((), r_1.2.2.1.2.1, r_1.2.2.1.2.2), r_1.2.2.2, x.2.2.2) else bif !r_1.2.1 then some (false, ((), r_1.2.2.1.2.1, r_1.2.2.1.2.2), r_1.2.2.2, x.2.2.2) else bif decide ((↑(List.length r.1) : Int) = (0 : Int)) then some (false, ((), r_1.2.2.1.2.1, r_1.2.2.1.2.2), r_1.2.2.2, x.2.2.2) else bif decide (x.2.1.1 = (1 : Int)) then none else bif decide (x.2.1.1 = (2 : Int)) then none else bif decide (x.2.1.1 = (3 : Int)) then none else bif decide (x.2.1.1 = (4 : Int)) then none else bif decide (x.2.1.1 = (5 : Int)) then none else bif decide (x.2.1.1 = (6 : Int)) then Option.bind (loopO m_spec_forest_step_a_0 (((), r_1.2.2.1.2.1, r_1.2.2.1.2.2), r.1, (0 : Int), x.2.2.2, r_1.2.2.2)) fun (y : (PUnit × Int × Bool) × List KN × List (Option Nat)) => some (true, ((), y.1.2.1, y.1.2.2), y.2.2, y.2.1) else bif decide (x.2.1.1 = (7 : Int)) then Option.bind (loopO m_spec_forest_step_a_1 (((), r_1.2.2.1.2.1, r_1.2.2.1.2.2), r.1, (0 : Int), x.2.2.2, r_1.2.2.2)) fun (y : (PUnit × Int × Bool) × List (Option Nat) × List KN × List (Option Nat)) => Option.bind (m_spec_are (y.2.1, y.2.2.1)) fun (r : Bool) => some (r, ((), y.1.2.1, y.1.2.2), y.2.2.2, y.2.2.1) else bif decide (x.2.1.1 = (8 : Int)) then none else bif decide (x.2.1.1 = (9 : Int)) then bif decide ((↑(List.length r_1.1) : Int) = (1 : Int)) then Option.bind (atI r_1.1 (0 : Int)) fun (x : Option Nat) => Option.bind r_1.1[Int.toNat (0 : Int)]? fun (v : Option Nat) => none else some (false, ((), r_1.2.2.1.2.1, r_1.2.2.1.2.2), r_1.2.2.2, x.2.2.2) else bif decide (x.2.1.1 = (10 : Int)) then bif decide ((↑(List.length r_1.1) : Int) = (1 : Int)) then Option.bind (atI r_1.1 (0 : Int)) fun (x : Option Nat) => Option.bind r_1.1[Int.toNat (0 : Int)]? fun (v : Option Nat) => none else some (false, ((), r_1.2.2.1.2.1, r_1.2.2.1.2.2), r_1.2.2.2, x.2.2.2) else bif decide (x.2.1.1 = (11 : Int)) then bif decide ((↑(List.length r_1.1) : Int) = (1 : Int)) then Option.bind (atI r_1.1 (0 : Int)) fun (x : Option Nat) => Option.bind r_1.1[Int.toNat (0 : Int)]? fun (v : Option Nat) => none else some (false, ((), r_1.2.2.1.2.1, r_1.2.2.1.2.2), r_1.2.2.2, x.2.2.2) else Option.bind (m_spec_are (r.1, x.2.2.2)) fun (r_2 : Bool) => bif r_2 then Option.bind (m_spec_attributes ((x.2.1.1, x.2.1.2.1, x.2.1.2.2.1, x.2.1.2.2.2.1, x.2.1.2.2.2.2.1, x.2.1.2.2.2.2.2), r.1, x.2.2.2)) fun (r : Bool × List KN) => some (r.1, ((), r_1.2.2.1.2.1, r_1.2.2.1.2.2), r_1.2.2.2, r.2) else some (false, ((), r_1.2.2.1.2.1, r_1.2.2.1.2.2), r_1.2.2.2, x.2.2.2)
noncomputable def cx_spec_forest_step_a : Cx := ⟨tb, lookE [(49, e_spec_forest_chosen), (52, e_spec_are), (55, e_spec_attributes)], lookS [(30, [(true, 0), (true, 1), (true, 2), (true, 3), (true, 4), (true, 5), (true, 6), (true, 7), (true, 8), (true, 9), (true, 10), (false, 11), (true, 12), (true, 13)])]⟩
theorem ck_spec_forest_step_a : CxOK Tryz.prog (cx_spec_forest_step_a) := cx_ok tb_ok (.cons ok_spec_forest_chosen Tryz.call49 (.cons ok_spec_are Tryz.call52 (.cons ok_spec_attributes Tryz.call55 .nil)))
noncomputable def c_spec_forest_step_a_0 : Code := loopAt (Go.Proofs.Tryz.f22.body.getD .skip) 0
noncomputable def l_spec_forest_step_a_0 : LEnt := ⟨p_spec_forest_step_a_0, x_spec_forest_step_a_0, loopO (m_spec_forest_step_a_0)⟩
theorem lo_spec_forest_step_a_0 : LOK Tryz.prog 120 1 true (l_spec_forest_step_a_0) c_spec_forest_step_a_0 := loop_ok (body := m_spec_forest_step_a_0) (L := lookL []) (ck_spec_forest_step_a) mixed (ls_ok (l := []) (by kernel_rfl) .nil) (by intro x; kernel_rfl) (fun x y h => loopO_iff.1 h)
noncomputable def c_spec_forest_step_a_1_0 : Code := loopAt (loopAt (Go.Proofs.Tryz.f22.body.getD .skip) 1) 0
noncomputable def l_spec_forest_step_a_1_0 : LEnt := ⟨p_spec_forest_step_a_1_0, x_spec_forest_step_a_1_0, loopO (m_spec_forest_step_a_1_0)⟩
theorem lo_spec_forest_step_a_1_0 : LOK Tryz.prog 120 1 true (l_spec_forest_step_a_1_0) c_spec_forest_step_a_1_0 := loop_ok (body := m_spec_forest_step_a_1_0) (L := lookL []) (ck_spec_forest_step_a) mixed (ls_ok (l := []) (by kernel_rfl) .nil) (by intro x; kernel_rfl) (fun x y h => loopO_iff.1 h)
noncomputable def c_spec_forest_step_a_1 : Code := loopAt (Go.Proofs.Tryz.f22.body.getD .skip) 1
noncomputable def l_spec_forest_step_a_1 : LEnt := ⟨p_spec_forest_step_a_1, x_spec_forest_step_a_1, loopO (m_spec_forest_step_a_1)⟩
theorem lo_spec_forest_step_a_1 : LOK Tryz.prog 120 1 true (l_spec_forest_step_a_1) c_spec_forest_step_a_1 := loop_ok (body := m_spec_forest_step_a_1) (L := lookL [(5, l_spec_forest_step_a_1_0)]) (ck_spec_forest_step_a) mixed (ls_ok (l := [(5, c_spec_forest_step_a_1_0)]) (by kernel_rfl) (.cons rfl (lo_spec_forest_step_a_1_0) .nil)) (by intro x; kernel_rfl) (fun x y h => loopO_iff.1 h)
noncomputable def e_spec_forest_step_a : Ent := ⟨1, p_spec_forest_step_a, q_spec_forest_step_a, m_spec_forest_step_a⟩
theorem ok_spec_forest_step_a : FnOK Tryz.prog 22 e_spec_forest_step_a := fn_ok (L := lookL [(1, l_spec_forest_step_a_0), (3, l_spec_forest_step_a_1)]) ck_spec_forest_step_a mixed Tryz.func22 rfl (by kernel_rfl) (by kernel_rfl) (ls_ok (l := [(1, c_spec_forest_step_a_0), (3, c_spec_forest_step_a_1)]) (by kernel_rfl) (.cons rfl (lo_spec_forest_step_a_0) (.cons rfl (lo_spec_forest_step_a_1) .nil))) (by intro x; kernel_rfl)
abbrev p_spec_Changed_a : Pt := [(0, .lst .node), (1, .lst (.rc (.int .i64) [.ints, .ints, .str, .str, .strs] 0)), (NT, .ns .k 93 67)]
abbrev q_spec_Changed_a : Pt := [(0, .lst .node), (1, .lst .int), (2, .bool), (NT, .ns .k 93 67)]
abbrev p_spec_Changed_a_0 : Pt := [(0, .lst .node), (1, .lst (.rc (.int .i64) [.ints, .ints, .str, .str, .strs] 0)), (7, .blkx 66 [.own, .fl (.int .i64), .fl .bool]), (8, .int .i64), (NT, .ns .k 93 67), (2000000448, .hown 7 0 .np 67)]
abbrev x_spec_Changed_a_0 : List (Xt × Pt) := [(.ex 0, [(0, .lst .node), (7, .blkx 66 [.own, .fl (.int .i64), .fl .bool]), (NT, .ns .k 93 67), (2000000448, .hown 7 0 .np 67)]), (.rt, [(4, .own .node 37), (5, .own .int 3), (6, .bool), (NT, .ns .k 93 67)])]
noncomputable def m_spec_Changed_a_0 : Tup p_spec_Changed_a_0 → Option (Stp (Tup p_spec_Changed_a_0) (SumT (x_spec_Changed_a_0.map (·.2)))) := fun (x : List Node × List (Int × List Int × List Int × List UInt8 × List UInt8 × List (List UInt8)) × (PUnit × Int × Bool) × Int × List KN × List (Option Nat)) => bif decide (x.2.2.2.1 < (↑(List.length x.2.1) : Int)) then Option.bind (atI x.2.1 x.2.2.2.1) fun (v : Int × List Int × List Int × List UInt8 × List UInt8 × List (List UInt8)) => Option.bind (m_spec_forest_step_a (((), x.2.2.1.2.1, x.2.2.1.2.2), (v.1, v.2.1, v.2.2.1, v.2.2.2.1, v.2.2.2.2.1, v.2.2.2.2.2), x.2.2.2.2.2, x.2.2.2.2.1)) fun (r : Bool × (PUnit × Int × Bool) × List (Option Nat) × List KN) => bif !r.1 then some (Stp.out (Sum.inr ([], [], false, r.2.2.2))) else bif r.2.1.2.2 then some (Stp.out (Sum.inr ([], [], false, r.2.2.2))) else some (Stp.nx (x.1, x.2.1, ((), r.2.1.2.1, r.2.1.2.2), IntKind.wrap .i64 (x.2.2.2.1 + (1 : Int)), r.2.2.2, r.2.2.1)) else some (Stp.out (Sum.inl (x.1, ((), x.2.2.1.2.1, x.2.2.1.2.2), x.2.2.2.2.1, x.2.2.2.2.2)))
abbrev p_spec_Changed_a_1 : Pt := [(7, .blkx 66 [.own, .fl (.int .i64), .fl .bool]), (9, .own .int 3), (10, .int .i64), (NT, .ns .k 93 67), (2000000448, .hown 7 0 .np 67)]
abbrev x_spec_Changed_a_1 : List (Xt × Pt) := [(.ex 2, [(7, .blkx 66 [.own, .fl (.int .i64), .fl .bool]), (9, .own .int 3), (NT, .ns .k 93 67), (2000000448, .hown 7 0 .np 67)])]
noncomputable def m_spec_Changed_a_1 : Tup p_spec_Changed_a_1 → Option (Stp (Tup p_spec_Changed_a_1) (SumT (x_spec_Changed_a_1.map (·.2)))) := fun (x : (PUnit × Int × Bool) × List Int × Int × List KN × List (Option Nat)) => bif decide (x.2.2.1 < (↑(List.length x.2.1) : Int)) then Option.bind (atI x.2.1 x.2.2.1) fun (x_1 : Int) => Option.bind x.2.1[Int.toNat x.2.2.1]? fun (v : Int) => some (Stp.nx (((), x.1.2.1, x.1.2.2), List.set x.2.1 (Int.toNat x.2.2.1) (-1 : Int), IntKind.wrap .i64 (x.2.2.1 + (1 : Int)), x.2.2.2.1, x.2.2.2.2)) else some (Stp.out (((), x.1.2.1, x.1.2.2), x.2.1, x.2.2.2.1, x.2.2.2.2))
noncomputable def m_spec_Changed_a : Tup p_spec_Changed_a → Option (Tup q_spec_Changed_a) := fun (x : List Node × List (Int × List Int × List Int × List UInt8 × List UInt8 × List (List UInt8)) × List KN) => Option.bind (m_spec_Right x.1) fun (r : Bool) => bif !r then some ([], [], false, x.2.2) else Option.bind (m_spec_grown (x.1, x.2.2)) fun (r : (PUnit × Int × Bool) × List (Option Nat) × List KN) => Option.bind (loopO m_spec_Changed_a_0 (x.1, x.2.1, ((), r.1.2.1, r.1.2.2), (0 : Int), r.2.2, r.2.1)) fun (y : List Node × (PUnit × Int × Bool) × List KN × List (Option Nat) ⊕ List Node × List Int × Bool × List KN) => selim (fun (y : List Node × (PUnit × Int × Bool) × List KN × List (Option Nat)) => bif decide ((↑(List.length y.1) : Int) ≤ (↑(List.length y.1) : Int) ∧ (0 : Int) ≤ (↑(List.length y.1) : Int) ∧ (↑(List.length y.1) : Int) ≤ (1048576 : Int)) then Option.bind (loopO m_spec_Changed_a_1 (((), y.2.1.2.1, y.2.1.2.2), List.replicate (Int.toNat (↑(List.length y.1) : Int)) (0 : Int), (0 : Int), y.2.2.1, y.2.2.2)) fun (y : (PUnit × Int × Bool) × List Int × List KN × List (Option Nat)) => Option.bind (atI y.2.2.2 (0 : Int)) fun (x : Option Nat) => Option.bind y.2.2.2[Int.toNat (0 : Int)]? fun (v : Option Nat) => Option.bind (m_spec_knot_listed big (v, [], y.2.1, y.2.2.1)) fun (r : List Node × List Int × List KN) => some (r.1, r.2.1, true, r.2.2) else none) (fun (y : List Node × List Int × Bool × List KN) => some (y.1, y.2.1, y.2.2.1, y.2.2.2)) y
noncomputable def cx_spec_Changed_a : Cx := ⟨tb, lookE [(20, e_spec_Right), (21, e_spec_grown), (22, e_spec_forest_step_a), (23, e_spec_knot_listed)], lookS []⟩
theorem ck_spec_Changed_a : CxOK Tryz.prog (cx_spec_Changed_a) := cx_ok tb_ok (.cons ok_spec_Right Tryz.call20 (.cons ok_spec_grown Tryz.call21 (.cons ok_spec_forest_step_a Tryz.call22 (.cons ok_spec_knot_listed Tryz.call23 .nil))))
noncomputable def c_spec_Changed_a_0 : Code := loopAt (Go.Proofs.Tryz.f12.body.getD .skip) 0
noncomputable def l_spec_Changed_a_0 : LEnt := ⟨p_spec_Changed_a_0, x_spec_Changed_a_0, loopO (m_spec_Changed_a_0)⟩
theorem lo_spec_Changed_a_0 : LOK Tryz.prog 56 0 true (l_spec_Changed_a_0) c_spec_Changed_a_0 := loop_ok (body := m_spec_Changed_a_0) (L := lookL []) (ck_spec_Changed_a) mixed (ls_ok (l := []) (by kernel_rfl) .nil) (by intro x; kernel_rfl) (fun x y h => loopO_iff.1 h)
noncomputable def c_spec_Changed_a_1 : Code := loopAt (Go.Proofs.Tryz.f12.body.getD .skip) 1
noncomputable def l_spec_Changed_a_1 : LEnt := ⟨p_spec_Changed_a_1, x_spec_Changed_a_1, loopO (m_spec_Changed_a_1)⟩
theorem lo_spec_Changed_a_1 : LOK Tryz.prog 56 0 true (l_spec_Changed_a_1) c_spec_Changed_a_1 := loop_ok (body := m_spec_Changed_a_1) (L := lookL []) (ck_spec_Changed_a) mixed (ls_ok (l := []) (by kernel_rfl) .nil) (by intro x; kernel_rfl) (fun x y h => loopO_iff.1 h)
noncomputable def e_spec_Changed_a : Ent := ⟨0, p_spec_Changed_a, q_spec_Changed_a, m_spec_Changed_a⟩
theorem ok_spec_Changed_a : FnOK Tryz.prog 12 e_spec_Changed_a := fn_ok (L := lookL [(0, l_spec_Changed_a_0), (2, l_spec_Changed_a_1)]) ck_spec_Changed_a mixed Tryz.func12 rfl (by kernel_rfl) (by kernel_rfl) (ls_ok (l := [(0, c_spec_Changed_a_0), (2, c_spec_Changed_a_1)]) (by kernel_rfl) (.cons rfl (lo_spec_Changed_a_0) (.cons rfl (lo_spec_Changed_a_1) .nil))) (by intro x; kernel_rfl)
abbrev p_spec_Changed_a_f : Pt := [(0, .lst .node), (1, .lst (.rc (.int .i64) [.ints, .ints, .str, .str, .strs] 0))]
abbrev q_spec_Changed_a_f : Pt := [(0, .lst .node), (1, .lst .int), (2, .bool)]
noncomputable def m_spec_Changed_a_f : Tup p_spec_Changed_a_f → Option (Tup q_spec_Changed_a_f) := frT 0 p_spec_Changed_a_f q_spec_Changed_a_f .k 93 67 (m_spec_Changed_a)
noncomputable def e_spec_Changed_a_f : Ent := ⟨0, p_spec_Changed_a_f, q_spec_Changed_a_f, m_spec_Changed_a_f⟩
theorem ok_spec_Changed_a_f : FnOK Tryz.prog 12 e_spec_Changed_a_f := fresh_ok (np := 0) (p := p_spec_Changed_a_f) (q := q_spec_Changed_a_f) (m := m_spec_Changed_a) ok_spec_Changed_a (by kernel_rfl) (by kernel_rfl)
end Go.Proofs.YtimdfakgjkjejaaGreat.V
set_option linter.unusedVariables false
set_option linter.unusedSimpArgs false
namespace Go.Proofs.YtimdfakgjkjejaaGreat.V
open Go
def Fo.kn1 (F : Fo) (P : Nat → Int × Node) (i : Nat) : KN := ⟨(P i).1, (P i).2, F.up i, (F.kids i).map some⟩
def Fo.kst (F : Fo) (P : Nat → Int × Node) : List KN := tab F.m (F.kn1 P)
def nd0 (t : List Node) (i : Nat) : Node := (t[i]?).getD ⟨0, [], [], [], 0⟩
def P0 (t : List Node) (i : Nat) : Int × Node := ((i : Int), nd0 t i)
def Fo.addK (F : Fo) (p : Nat) (l : List Nat) : Fo := ⟨F.m, fun i => if i ∈ l then some p else F.up i, fun i => if i = p then F.kids p ++ l else F.kids i⟩
def FZ (k : Nat) : Fo := ⟨k, fun _ => none, fun _ => []⟩
def GF (t : List Node) (k : Nat) : Fo := ⟨t.length, fun i => (par t i).bind fun p => if p < k then some p else none, fun i => if i < k then kidsN t i else []⟩
section
variable {F G : Fo} {P : Nat → Int × Node} {t : List Node} {i p c : Nat} {l : List Nat}
theorem Fo.kget (h : i < F.m) : (F.kst P)[i]? = some (F.kn1 P i) := tab_get h
theorem Fo.klen : (F.kst P).length = F.m := tab_len
theorem addK_nil : F.addK p [] = F := by
  cases F
  simp only [Fo.addK, List.not_mem_nil, if_false, List.append_nil]
  congr 1
  funext i
  split <;> simp [*]
theorem addK_cons : (F.addK p [c]).addK p l = F.addK p (c :: l) := by
  simp only [Fo.addK, if_true]
  congr 1
  · funext i
    by_cases h : i ∈ l
    · simp [h]
    · simp [h]
  · funext i
    split
    · simp
    · rfl
theorem kst_ext (h : F.m = G.m) (h1 : ∀ i, i < F.m → F.up i = G.up i) (h2 : ∀ i, i < F.m → F.kids i = G.kids i) : F.kst P = G.kst P := by
  unfold Fo.kst
  rw [← h]
  exact tab_ext fun i hi => by simp only [Fo.kn1, h1 i hi, h2 i hi]
end
theorem grown0 {t : List Node} (hR : RT t) (a : Int) (b : Bool) : ∀ d k : Nat, t.length - k = d → k ≤ t.length →
    loopO m_spec_grown_0 (t, ((), a, b), (k : Int), (FZ k).kst (P0 t), (List.range k).map some) = some (t, ((), a, b), (FZ t.length).kst (P0 t), (List.range t.length).map some) := by
  have hlen := hR.len
  intro d
  induction d with
  | zero =>
    intro k hd hk
    obtain rfl : k = t.length := by omega
    refine loopO_out ?_
    simp only [m_spec_grown_0, cond_dec]
    rw [if_neg (by omega)]
  | succ d ih =>
    intro k hd hk
    obtain ⟨v, hv⟩ := get_lt (l := t) (k := k) (by omega)
    have hat : v.attrs.length ≤ 20 := by
      have hN := hR.node k v hv
      rcases hN.kd with h | h | h | h | h
      · have := hN.k4 (by omega); rw [this.2]; simp
      · have := hN.k4 (by omega); rw [this.2]; simp
      · exact (hN.k3 h).2.1
      · have := hN.k4 (by omega); rw [this.2]; simp
      · have := hN.k4 (by omega); rw [this.2]; simp
    have step : m_spec_grown_0 (t, ((), a, b), (k : Int), (FZ k).kst (P0 t), (List.range k).map some) = some (.nx (t, ((), a, b), ((k + 1 : Nat) : Int), (FZ (k + 1)).kst (P0 t), (List.range (k + 1)).map some)) := by
      have hl : ((FZ k).kst (P0 t)).length = k := Fo.klen
      have hg : ∀ e : KN, ((FZ k).kst (P0 t) ++ [e])[k]? = some e := fun e => by
        rw [List.getElem?_append_right (by omega), hl]; simp
      simp only [m_spec_grown_0, cond_dec, atI_nat, hv, bind_some, hl]
      rw [if_pos (by omega), appL_some (by simp; omega)]
      simp only [bind_some, hg]
      rw [appL_some (by simp; omega)]
      simp only [bind_some]
      rw [w64 (by omega) (by omega), List.set_append_right _ _ (by omega), hl]
      simp only [Nat.sub_self, List.set_cons_zero, List.nil_append]
      have e1 : (FZ k).kst (P0 t) ++ [⟨(k : Int), v, none, []⟩] = (FZ (k + 1)).kst (P0 t) := by
        unfold Fo.kst
        rw [show (FZ k).m = k from rfl, tab_snoc]
        refine tab_ext fun i hi => ?_
        by_cases e : i = k
        · subst e
          simp only [upd, if_true, Fo.kn1, FZ, P0, nd0, hv]
          rfl
        · simp only [upd, if_neg e]
          rfl
      have e2 : (List.range k).map some ++ [some k] = (List.range (k + 1)).map some := by rw [List.range_succ]; simp
      rw [e2]
      have e3 := e1
      cases v
      simp only at e3 ⊢
      rw [e3]
      rfl
    rw [loopO_nx step]
    exact ih (k + 1) (by omega) (by omega)
theorem grown1i {t : List Node} (hR : RT t) (a : Int) (b : Bool) {k : Nat} (hk : k < t.length) : ∀ (f c : Nat) (F : Fo), F.m = t.length → k < c → c ≤ k + sz t k → k + sz t k ≤ c + f → (F.kids k).length + f ≤ 1000 →
    loopO m_spec_grown_1_0 (t, ((), a, b), (k : Int), (c : Int), F.kst (P0 t), (List.range t.length).map some) = some (t, ((), a, b), (k : Int), (F.addK k (kidsF t f c (k + sz t k))).kst (P0 t), (List.range t.length).map some) := by
  have hlen := hR.len
  have hle := hR.le hk
  obtain ⟨v, hv, hvs, _, _⟩ := hR.lam.ok k (Nat.zero_le _) hk
  intro f
  induction f with
  | zero =>
    intro c F hm h1 h2 h3 h4
    refine loopO_out ?_
    simp only [m_spec_grown_1_0, cond_dec, atI_nat, hv, bind_some]
    rw [w64 (by omega) (by omega), if_neg (by omega), kidsF, addK_nil]
  | succ f ih =>
    intro c F hm h1 h2 h3 h4
    by_cases hc : c < k + sz t k
    · obtain ⟨w, hw, hws, hw1, hw2⟩ := (hR.L hk).ok c (by omega) hc
      have hr : ∀ i, i < t.length → ((List.range t.length).map some)[i]? = some (some i) := fun i hi => by simp [hi]
      have hgc : (F.kst (P0 t))[c]? = some (F.kn1 (P0 t) c) := Fo.kget (by omega)
      have hgk : ∀ e : KN, ((F.kst (P0 t)).set c e)[k]? = some (F.kn1 (P0 t) k) := fun e => by
        rw [List.getElem?_set_ne (by omega)]; exact Fo.kget (by omega)
      have step : m_spec_grown_1_0 (t, ((), a, b), (k : Int), (c : Int), F.kst (P0 t), (List.range t.length).map some) = some (.nx (t, ((), a, b), (k : Int), ((c + sz t c : Nat) : Int), (F.addK k [c]).kst (P0 t), (List.range t.length).map some)) := by
        simp only [m_spec_grown_1_0, cond_dec, atI_nat, hv, hw, bind_some, Int.toNat_natCast, hr c (by omega), hr k (by omega), hgc, hgk]
        rw [w64 (by omega) (by omega), if_pos (by omega), appL_some (by simp [Fo.kn1]; omega)]
        simp only [bind_some]
        rw [if_pos trivial, hws, w64 (by omega) (by omega)]
        have e : ((F.kst (P0 t)).set c ⟨(F.kn1 (P0 t) c).pl, (F.kn1 (P0 t) c).n, some k, (F.kn1 (P0 t) c).kids⟩).set k ((F.kn1 (P0 t) k).wk ((F.kn1 (P0 t) k).kids ++ [some c])) = (F.addK k [c]).kst (P0 t) := by
          unfold Fo.kst
          rw [tab_set (by omega), tab_set (by omega)]
          refine tab_ext fun i hi => ?_
          by_cases e1 : i = k
          · subst e1
            have : i ≠ c := by omega
            simp [upd, Fo.kn1, Fo.addK, KN.wk, this]
          · by_cases e2 : i = c
            · subst e2
              simp [upd, e1, Fo.kn1, Fo.addK]
            · simp [upd, e1, e2, Fo.kn1, Fo.addK]
        rw [e]
        rfl
      have h' := ih (c + sz t c) (F.addK k [c]) hm (by omega) (by omega) (by omega) (by simp [Fo.addK]; omega)
      rw [loopO_nx step, h', addK_cons, kidsF, if_pos hc]
    · refine loopO_out ?_
      simp only [m_spec_grown_1_0, cond_dec, atI_nat, hv, bind_some]
      rw [w64 (by omega) (by omega), if_neg (by omega), kidsF, if_neg hc, addK_nil]
theorem grown1 {t : List Node} (hR : RT t) (a : Int) (b : Bool) : ∀ d k : Nat, t.length - k = d → k ≤ t.length →
    loopO m_spec_grown_1 (t, ((), a, b), (k : Int), (GF t k).kst (P0 t), (List.range t.length).map some) = some (((), a, b), (FT t).kst (P0 t), (List.range t.length).map some) := by
  have hlen := hR.len
  intro d
  induction d with
  | zero =>
    intro k hd hk
    obtain rfl : k = t.length := by omega
    refine loopO_out ?_
    simp only [m_spec_grown_1, cond_dec]
    rw [if_neg (by omega)]
    have e : (GF t t.length).kst (P0 t) = (FT t).kst (P0 t) := kst_ext rfl (fun i hi => by
      have hi' : i < t.length := hi
      simp only [GF, FT, if_pos hi']
      cases h : par t i with
      | none => rfl
      | some p => have := par_some h; simp only [Option.bind_some]; rw [if_pos (by omega)]) (fun i hi => rfl)
    rw [e]
  | succ d ih =>
    intro k hd hk
    have hk' : k < t.length := by omega
    have hle := hR.le hk'
    have h1 := hR.sz1 hk'
    have step : m_spec_grown_1 (t, ((), a, b), (k : Int), (GF t k).kst (P0 t), (List.range t.length).map some) = some (.nx (t, ((), a, b), ((k + 1 : Nat) : Int), (GF t (k + 1)).kst (P0 t), (List.range t.length).map some)) := by
      have h := grown1i hR a b hk' (sz t k) (k + 1) (GF t k) rfl (by omega) (by omega) (by omega) (by simp [GF]; omega)
      have e : ((GF t k).addK k (kidsF t (sz t k) (k + 1) (k + sz t k))).kst (P0 t) = (GF t (k + 1)).kst (P0 t) := kst_ext rfl (fun i hi => by
        show (if i ∈ kidsN t k then some k else ((par t i).bind fun p => if p < k then some p else none)) = ((par t i).bind fun p => if p < k + 1 then some p else none)
        by_cases hm : i ∈ kidsN t k
        · rw [if_pos hm, kids_par (hR.L hk') hm]; simp
        · rw [if_neg hm]
          cases hp : par t i with
          | none => rfl
          | some p =>
            have : p ≠ k := fun e => hm (kids_in (hR.L hk') (e ▸ hp))
            simp only [Option.bind_some]
            by_cases hl : p < k
            · rw [if_pos hl, if_pos (by omega)]
            · rw [if_neg hl, if_neg (by omega)]) (fun i hi => by
        show (if i = k then (if k < k then kidsN t k else []) ++ kidsN t k else if i < k then kidsN t i else []) = if i < k + 1 then kidsN t i else []
        by_cases e1 : i = k
        · subst e1; simp
        · rw [if_neg e1]
          by_cases hl : i < k
          · rw [if_pos hl, if_pos (by omega)]
          · rw [if_neg hl, if_neg (by omega)])
      simp only [m_spec_grown_1, cond_dec]
      rw [if_pos (by omega), w64 (by omega) (by omega)]
      rw [show ((k : Int) + 1) = ((k + 1 : Nat) : Int) by omega, h, e]
      simp only [bind_some]
      rw [w64 (by omega) (by omega)]
      rfl
    rw [loopO_nx step]
    exact ih (k + 1) (by omega) (by omega)
theorem knots_eq {t : List Node} (hR : RT t) : m_spec_grown (t, []) = some (((), (t.length : Int), false), (List.range t.length).map some, (FT t).kst (P0 t)) := by
  simp only [m_spec_grown]
  have h0 := grown0 hR (t.length : Int) false t.length 0 (by omega) (Nat.zero_le _)
  have e0 : (FZ 0).kst (P0 t) = [] := rfl
  rw [e0] at h0
  have h0' : loopO m_spec_grown_0 (t, ((), (t.length : Int), false), (0 : Int), [], []) = _ := h0
  rw [h0', bind_some]
  have h1 := grown1 hR (t.length : Int) false t.length 0 (by omega) (Nat.zero_le _)
  have e1 : (GF t 0).kst (P0 t) = (FZ t.length).kst (P0 t) := kst_ext rfl (fun i hi => by
    simp only [GF, FZ]
    cases par t i <;> rfl) (fun i hi => rfl)
  rw [e1] at h1
  have h1' : loopO m_spec_grown_1 (t, ((), (t.length : Int), false), (0 : Int), (FZ t.length).kst (P0 t), (List.range t.length).map some) = _ := h1
  rw [h1', bind_some]
end Go.Proofs.YtimdfakgjkjejaaGreat.V
set_option linter.unusedVariables false
set_option linter.unusedSimpArgs false
namespace Go.Proofs.YtimdfakgjkjejaaGreat.V
open Go
section
variable {F G : Fo} {P : Nat → Int × Node} {p c : Nat} {A B : List Nat}
theorem subL_nat2 {α : Type} (l : List α) {lo hi : Nat} (h1 : lo ≤ hi) (h2 : hi ≤ l.length) : subL l (lo : Int) (hi : Int) = some ((l.take hi).drop lo) := by
  unfold subL
  rw [if_pos (by omega)]
  rfl
theorem subL_front {α : Type} {l : List α} {n : Nat} (hn : n ≤ l.length) : subL l 0 (n : Int) = some (l.take n) := by
  have h := subL_nat2 l (lo := 0) (hi := n) (Nat.zero_le _) hn
  simpa using h
end
end Go.Proofs.YtimdfakgjkjejaaGreat.V
set_option linter.unusedVariables false
set_option linter.unusedSimpArgs false
namespace Go.Proofs.YtimdfakgjkjejaaGreat.V
open Go
def putP (P : Nat → Int × Node) : List Nat → Nat → List Int → List Int
  | [], _, at' => at'
  | z :: l, k, at' => putP P l (k + 1) (if 0 ≤ (P z).1 ∧ (P z).1 < at'.length then at'.set (P z).1.toNat (k : Int) else at')
theorem putP_len {P : Nat → Int × Node} : ∀ {l : List Nat} {k : Nat} {at' : List Int}, (putP P l k at').length = at'.length
  | [], _, _ => rfl
  | z :: l, k, at' => by
    simp only [putP, putP_len]
    split <;> simp
theorem putP_app {P : Nat → Int × Node} : ∀ {l m : List Nat} {k : Nat} {at' : List Int}, putP P (l ++ m) k at' = putP P m (k + l.length) (putP P l k at')
  | [], _, _, _ => rfl
  | z :: l, m, k, at' => by
    simp only [List.cons_append, putP, putP_app, List.length_cons]
    rw [show k + 1 + l.length = k + (l.length + 1) by omega]
section
variable {F : Fo} {P : Nat → Int × Node}
theorem listed_eq (hF : F.ok) : ∀ (n x : Nat) (T : List Node) (A : List Int), x < F.m → Ht F.kids n x → T.length + (idsF F.kids n x).length ≤ 1000000 → A.length ≤ 1000000 →
    m_spec_knot_listed n (some x, T, A, F.kst P) = some (T ++ nodesF F.kids (fun i => (P i).2) n x, putP P (idsF F.kids n x) T.length A, F.kst P)
  | 0, _, _, _, _, h, _, _ => h.elim
  | n + 1, x, T, A, hx, hh, hT, hA => by
    have hg := Fo.kget (F := F) (P := P) hx
    have hkk : (F.kn1 P x).kids = (F.kids x).map some := rfl
    have hkn : (F.kn1 P x).n = (P x).2 := rfl
    have hkp : (F.kn1 P x).pl = (P x).1 := rfl
    simp only [idsF, List.length_cons, List.length_flatMap] at hT
    have hklen : ((F.kids x).map fun y => (idsF F.kids n y).length).sum = ((F.kids x).flatMap (idsF F.kids n)).length := by rw [List.length_flatMap]
    have hle : (F.kids x).length ≤ ((F.kids x).flatMap (idsF F.kids n)).length := by
      have : ∀ l : List Nat, (∀ y ∈ l, Ht F.kids n y) → l.length ≤ (l.flatMap (idsF F.kids n)).length := fun l => by
        induction l with
        | nil => simp
        | cons a l ih =>
          intro h
          have h1 := ih fun y hy => h y (by simp [hy])
          have h2 : 1 ≤ (idsF F.kids n a).length := by
            have := h a (by simp)
            cases n with
            | zero => exact this.elim
            | succ n => simp [idsF]
          rw [List.flatMap_cons, List.length_append, List.length_cons]
          omega
      exact this _ hh
    have key : ∀ (A : List Int), A.length ≤ 1000000 → ∀ d j, (F.kids x).length - j = d → j ≤ (F.kids x).length → loopO (m_spec_knot_listed_0 (m_spec_knot_listed n)) (some x, T ++ [(P x).2] ++ ((F.kids x).take j).flatMap (nodesF F.kids (fun i => (P i).2) n), putP P (((F.kids x).take j).flatMap (idsF F.kids n)) (T.length + 1) A, (T.length : Int), (j : Int), F.kst P)
        = some (T ++ [(P x).2] ++ (F.kids x).flatMap (nodesF F.kids (fun i => (P i).2) n), putP P ((F.kids x).flatMap (idsF F.kids n)) (T.length + 1) A, (T.length : Int), F.kst P) := by
      intro A hA d
      induction d with
      | zero =>
        intro j hd hj
        obtain rfl : j = (F.kids x).length := by omega
        refine loopO_out ?_
        simp only [m_spec_knot_listed_0, bind_some, hg, hkk, cond_dec, List.length_map]
        rw [if_neg (by omega), List.take_of_length_le (Nat.le_refl _)]
      | succ d ih =>
        intro j hd hj
        obtain ⟨y, hy⟩ := get_lt (l := F.kids x) (k := j) (by omega)
        have hym := List.mem_of_getElem? hy
        obtain ⟨hu, hym2⟩ := hF.kid hym
        have e1 : (F.kids x).take (j + 1) = (F.kids x).take j ++ [y] := by rw [List.take_add_one, hy]; rfl
        have hsum : (((F.kids x).take (j + 1)).map fun y => (idsF F.kids n y).length).sum ≤ ((F.kids x).map fun y => (idsF F.kids n y).length).sum := by
          have h1 : F.kids x = (F.kids x).take (j + 1) ++ (F.kids x).drop (j + 1) := (List.take_append_drop _ _).symm
          conv => rhs; rw [h1]
          rw [List.map_append, List.sum_append]
          omega
        rw [e1, List.map_append, List.sum_append] at hsum
        simp only [List.map_cons, List.map_nil, List.sum_cons, List.sum_nil] at hsum
        have hlI : (((F.kids x).take j).flatMap (idsF F.kids n)).length = (((F.kids x).take j).map fun y => (idsF F.kids n y).length).sum := by rw [List.length_flatMap]
        have hlN : (((F.kids x).take j).flatMap (nodesF F.kids (fun i => (P i).2) n)).length = (((F.kids x).take j).map fun y => (idsF F.kids n y).length).sum := by
          rw [List.length_flatMap]
          congr 1
          exact List.map_congr_left fun y _ => nodesF_len n y
        have hky : ((F.kids x).map some)[j]? = some (some y) := by rw [List.getElem?_map, hy]; rfl
        have step : m_spec_knot_listed_0 (m_spec_knot_listed n) (some x, T ++ [(P x).2] ++ ((F.kids x).take j).flatMap (nodesF F.kids (fun i => (P i).2) n), putP P (((F.kids x).take j).flatMap (idsF F.kids n)) (T.length + 1) A, (T.length : Int), (j : Int), F.kst P)
            = some (.nx (some x, T ++ [(P x).2] ++ ((F.kids x).take (j + 1)).flatMap (nodesF F.kids (fun i => (P i).2) n), putP P (((F.kids x).take (j + 1)).flatMap (idsF F.kids n)) (T.length + 1) A, (T.length : Int), ((j + 1 : Nat) : Int), F.kst P)) := by
          simp only [m_spec_knot_listed_0, bind_some, hg, hkk, cond_dec, List.length_map, atI_nat, Int.toNat_natCast, hky]
          rw [if_pos (by omega), listed_eq hF n y _ _ hym2 (hh y hym) (by simp only [List.length_append, List.length_cons, List.length_nil, hlN]; omega) (by rw [putP_len]; exact hA), bind_some, w64 (by omega) (by omega), e1]
          simp only [List.flatMap_append, List.flatMap_cons, List.flatMap_nil, List.append_nil, List.append_assoc, putP_app]
          have e2 : (T ++ ([(P x).2] ++ ((F.kids x).take j).flatMap (nodesF F.kids (fun i => (P i).2) n))).length = T.length + 1 + (((F.kids x).take j).flatMap (idsF F.kids n)).length := by
            simp only [List.length_append, List.length_cons, List.length_nil, hlN, hlI]; omega
          rw [e2]
          rfl
        rw [loopO_nx step]
        exact ih (j + 1) (by omega) (by omega)
    have h0 : ∀ (A : List Int), A.length ≤ 1000000 → loopO (m_spec_knot_listed_0 (m_spec_knot_listed n)) (some x, T ++ [(P x).2], A, (T.length : Int), (0 : Int), F.kst P) = some (T ++ [(P x).2] ++ (F.kids x).flatMap (nodesF F.kids (fun i => (P i).2) n), putP P ((F.kids x).flatMap (idsF F.kids n)) (T.length + 1) A, (T.length : Int), F.kst P) := fun A hA => by
      have h := key A hA (F.kids x).length 0 (by omega) (Nat.zero_le _)
      simp only [List.take_zero, List.flatMap_nil, List.append_nil, putP] at h
      exact h
    have hlN : ((F.kids x).flatMap (nodesF F.kids (fun i => (P i).2) n)).length = ((F.kids x).map fun y => (idsF F.kids n y).length).sum := by
      rw [List.length_flatMap]
      congr 1
      exact List.map_congr_left fun y _ => nodesF_len n y
    have hget : (T ++ [(P x).2] ++ (F.kids x).flatMap (nodesF F.kids (fun i => (P i).2) n))[T.length]? = some (P x).2 := by simp
    have hset : ∀ v : Node, (T ++ [(P x).2] ++ (F.kids x).flatMap (nodesF F.kids (fun i => (P i).2) n)).set T.length v = T ++ v :: (F.kids x).flatMap (nodesF F.kids (fun i => (P i).2) n) := fun v => by
      rw [List.append_assoc, List.set_append_right _ _ (Nat.le_refl _)]
      simp
    have hsz : ((T ++ [(P x).2] ++ (F.kids x).flatMap (nodesF F.kids (fun i => (P i).2) n)).length : Int) - (T.length : Int) = 1 + (((F.kids x).flatMap (nodesF F.kids (fun i => (P i).2) n)).length : Nat) := by
      simp only [List.length_append, List.length_cons, List.length_nil]
      omega
    have hw : IntKind.wrap .i64 (((T ++ [(P x).2] ++ (F.kids x).flatMap (nodesF F.kids (fun i => (P i).2) n)).length : Int) - (T.length : Int)) = 1 + (((F.kids x).flatMap (nodesF F.kids (fun i => (P i).2) n)).length : Nat) := by
      rw [w64 (by simp only [List.length_append, List.length_cons, List.length_nil, hlN]; omega) (by simp only [List.length_append, List.length_cons, List.length_nil, hlN]; omega), hsz]
    show b_spec_knot_listed (m_spec_knot_listed n) (some x, T, A, F.kst P) = _
    simp only [b_spec_knot_listed, bind_some, hg, hkn, hkp, cond_dec]
    rw [appL_some (by simp; omega)]
    simp only [bind_some]
    by_cases h1 : 0 ≤ (P x).1
    · rw [if_pos h1]
      by_cases h2 : (P x).1 < (A.length : Int)
      · rw [if_pos h2]
        obtain ⟨v, hv⟩ := get_lt (l := A) (k := (P x).1.toNat) (by omega)
        have hv1 : atI A (P x).1 = some v := by
          have : (P x).1 = (((P x).1.toNat : Nat) : Int) := by omega
          rw [this, atI_nat]
          simpa using hv
        rw [hv1, bind_some, hv, bind_some, h0 _ (by simpa using hA), bind_some]
        simp only [atI_nat, Int.toNat_natCast, hget, bind_some, hset, hw]
        simp only [nodesF, idsF, putP]
        rw [if_pos ⟨h1, h2⟩]
      · rw [if_neg h2, h0 _ hA, bind_some]
        simp only [atI_nat, Int.toNat_natCast, hget, bind_some, hset, hw]
        simp only [nodesF, idsF, putP]
        rw [if_neg (fun h => h2 h.2)]
    · rw [if_neg h1, h0 _ hA, bind_some]
      simp only [atI_nat, Int.toNat_natCast, hget, bind_some, hset, hw]
      simp only [nodesF, idsF, putP]
      rw [if_neg (fun h => h1 h.1)]
end
end Go.Proofs.YtimdfakgjkjejaaGreat.V
set_option linter.unusedVariables false
set_option linter.unusedSimpArgs false
namespace Go.Proofs.YtimdfakgjkjejaaGreat.V
open Go
theorem loop_find {X B α : Type} {body : X → Option (Stp X B)} (l : List α) (p : α → Bool) (st : Nat → X) (no : B) (yes : Nat → B)
    (hs : ∀ k v, l[k]? = some v → body (st k) = some (if p v then .out (yes k) else .nx (st (k + 1)))) (he : body (st l.length) = some (.out no)) :
    loopO body (st 0) = some (match l.findIdx? p with | some i => yes i | none => no) := by
  have key : ∀ m k, l.length - k = m → k ≤ l.length → loopO body (st k) = some (match (l.drop k).findIdx? p with | some i => yes (k + i) | none => no) := by
    intro m
    induction m with
    | zero =>
      intro k hm hk
      have : k = l.length := by omega
      subst this
      rw [loopO_out he, List.drop_length]
      rfl
    | succ m ih =>
      intro k hm hk
      obtain ⟨v, hv⟩ := get_lt (l := l) (k := k) (by omega)
      have hd : l.drop k = v :: l.drop (k + 1) := by
        obtain ⟨h1, h2⟩ := List.getElem?_eq_some_iff.1 hv
        rw [← h2]
        exact List.drop_eq_getElem_cons h1
      have h := hs k v hv
      rw [hd, List.findIdx?_cons]
      cases hp : p v with
      | true =>
        rw [hp] at h
        rw [loopO_out h]
        simp
      | false =>
        rw [hp] at h
        rw [loopO_nx h, ih (k + 1) (by omega) (by omega)]
        simp only [Bool.false_eq_true, if_false]
        cases (l.drop (k + 1)).findIdx? p with
        | none => rfl
        | some i => simp only [Option.map_some]; rw [show k + 1 + i = k + (i + 1) by omega]
  have h := key l.length 0 (by omega) (Nat.zero_le _)
  rw [h, List.drop_zero]
  cases l.findIdx? p with
  | none => rfl
  | some i => simp
def pts (l : List Int) : List (Option Nat) := l.map fun v => some v.toNat
theorem pts_get {l : List Int} {i : Nat} : (pts l)[i]? = (l[i]?).map fun v => some v.toNat := by simp [pts]
theorem pts_len (l : List Int) : (pts l).length = l.length := by simp [pts]
theorem these_eq (t : List Node) (l : List Int) (hl : l.length ≤ 2147483647) (h : ∀ (i : Nat) (v : Int), l[i]? = some v → 0 ≤ v ∧ v < t.length) : m_impl_these (ptrs t, l) = some (pts l, true) := by
  simp only [m_impl_these]
  have key : ∀ m k, l.length - k = m → k ≤ l.length → loopO m_impl_these_0 (ptrs t, pts (l.take k), l, (l.length : Int), (k : Int)) = some (.inl (pts l)) := by
    intro m
    induction m with
    | zero =>
      intro k hm hk
      refine loopO_out ?_
      simp only [m_impl_these_0, cond_dec]
      rw [if_neg (by omega), List.take_of_length_le (by omega)]
    | succ m ih =>
      intro k hm hk
      obtain ⟨v, hv⟩ := get_lt (l := l) (k := k) (by omega)
      obtain ⟨h1, h2⟩ := h k v hv
      obtain ⟨a, rfl⟩ := Int.eq_ofNat_of_zero_le h1
      have hlen : (pts (l.take k)).length = k := by rw [pts_len, List.length_take]; omega
      have step : m_impl_these_0 (ptrs t, pts (l.take k), l, (l.length : Int), (k : Int)) = some (.nx (ptrs t, pts (l.take (k + 1)), l, (l.length : Int), ((k + 1 : Nat) : Int))) := by
        simp only [m_impl_these_0, cond_dec, atI_nat]
        rw [if_pos (by omega), hv]
        simp only [bind_some, ptrs_len]
        rw [if_neg (by omega), if_neg (by omega), atI_nat, ptrs_get (by omega), bind_some, appL_some (by rw [hlen]; simp; omega), bind_some, w64 (by omega) (by omega), List.take_add_one, hv]
        simp [pts]
      rw [loopO_nx step]
      exact ih (k + 1) (by omega) (by omega)
  rw [show loopO m_impl_these_0 (ptrs t, [], l, (l.length : Int), (0 : Int)) = _ from key l.length 0 (by omega) (Nat.zero_le _), bind_some]
  rfl
def pos (l : List (Option Nat)) (v : Option Nat) : Int := match l.findIdx? (fun x => decide (x = v)) with
  | some i => (i : Int)
  | none => -1
theorem indexIn_eq (l : List (Option Nat)) (n : Nat) (hl : l.length ≤ 2147483647) : m_goquery_indexInSlice (l, some n) = some (pos l (some n)) := by
  simp only [m_goquery_indexInSlice, Option.isNone_some, Bool.not_false, cond_true]
  have h := loop_find (body := m_goquery_indexInSlice_0) l (fun x => decide (x = some n)) (fun k => (some n, l, (l.length : Int), (k : Int))) (.inl ()) (fun k => .inr (k : Int)) (fun k v hv => by
    have hk := (List.getElem?_eq_some_iff.1 hv).1
    simp only [m_goquery_indexInSlice_0, cond_dec, atI_nat]
    rw [if_pos (by omega), hv, bind_some, w64 (by omega) (by omega)]
    by_cases e : v = some n
    · rw [if_pos e]; simp [e]
    · rw [if_neg e]; simp [e]) (by
    simp only [m_goquery_indexInSlice_0, cond_dec]
    rw [if_neg (by omega)])
  rw [show loopO m_goquery_indexInSlice_0 (some n, l, (l.length : Int), (0 : Int)) = _ from h, bind_some]
  unfold pos
  cases l.findIdx? (fun x => decide (x = some n)) <;> rfl
theorem pos_none {l : List (Option Nat)} {v : Option Nat} (h : v ∉ l) : pos l v = -1 := by
  unfold pos
  have : l.findIdx? (fun x => decide (x = v)) = none := by
    rw [List.findIdx?_eq_none_iff]
    intro x hx
    have : x ≠ v := fun e => h (e ▸ hx)
    simpa using this
  rw [this]
theorem pos_mem {l : List (Option Nat)} {v : Option Nat} : -1 < pos l v ↔ v ∈ l := by
  constructor
  · intro h
    apply Decidable.byContradiction
    intro hn
    rw [pos_none hn] at h
    omega
  · intro h
    unfold pos
    cases hf : l.findIdx? (fun x => decide (x = v)) with
    | none =>
      rw [List.findIdx?_eq_none_iff] at hf
      have := hf v h
      simp at this
    | some i => simp only; omega
theorem isIn_eq (l : List (Option Nat)) (n : Nat) (hl : l.length ≤ 2147483647) : m_goquery_isInSlice (l, some n) = some (decide (some n ∈ l)) := by
  simp only [m_goquery_isInSlice, indexIn_eq l n hl, bind_some]
  congr 1
  rw [decide_eq_decide]
  exact pos_mem
theorem appSmall_eq (l : List Int) (hl : l.length < 1000) (hn : ∀ (i j : Nat) (v w : Int), i < j → l[i]? = some v → l[j]? = some w → v.toNat ≠ w.toNat) : m_goquery_appendWithoutDuplicates_small ([], pts l, ()) = some (pts l) := by
  simp only [m_goquery_appendWithoutDuplicates_small, cond_dec, List.length_nil, pts_len]
  rw [w64 (by omega) (by omega), if_pos (by omega)]
  have key : ∀ m k, l.length - k = m → k ≤ l.length → loopO m_goquery_appendWithoutDuplicates_small_0 (pts (l.take k), pts l, (l.length : Int), (k : Int)) = some (pts l) := by
    intro m
    induction m with
    | zero =>
      intro k hm hk
      refine loopO_out ?_
      simp only [m_goquery_appendWithoutDuplicates_small_0, cond_dec]
      rw [if_neg (by omega), List.take_of_length_le (by omega)]
    | succ m ih =>
      intro k hm hk
      obtain ⟨v, hv⟩ := get_lt (l := l) (k := k) (by omega)
      have hlen : (pts (l.take k)).length = k := by rw [pts_len, List.length_take]; omega
      have hnot : some v.toNat ∉ pts (l.take k) := fun hm => by
        obtain ⟨i, hi⟩ := List.mem_iff_getElem?.1 hm
        rw [pts_get] at hi
        cases hu : (l.take k)[i]? with
        | none => rw [hu] at hi; cases hi
        | some u =>
          rw [hu] at hi
          have hik : i < k := by
            have := (List.getElem?_eq_some_iff.1 hu).1
            rw [List.length_take] at this; omega
          rw [List.getElem?_take, if_pos hik] at hu
          have := hn i k u v hik hu hv
          simp at hi
          exact this hi
      have step : m_goquery_appendWithoutDuplicates_small_0 (pts (l.take k), pts l, (l.length : Int), (k : Int)) = some (.nx (pts (l.take (k + 1)), pts l, (l.length : Int), ((k + 1 : Nat) : Int))) := by
        simp only [m_goquery_appendWithoutDuplicates_small_0, cond_dec, atI_nat]
        rw [if_pos (by omega), pts_get, hv]
        simp only [Option.map_some, bind_some]
        rw [isIn_eq _ _ (by omega), bind_some, decide_eq_false hnot]
        simp only [Bool.not_false, cond_true]
        rw [appL_some (by rw [hlen]; simp; omega), bind_some, w64 (by omega) (by omega), List.take_add_one, hv]
        simp [pts]
      rw [loopO_nx step]
      exact ih (k + 1) (by omega) (by omega)
  rw [show loopO m_goquery_appendWithoutDuplicates_small_0 ([], pts l, (l.length : Int), (0 : Int)) = _ from key l.length 0 (by omega) (Nat.zero_le _), bind_some]
def posL (l : List Nat) (c : Nat) : Int := if c ∈ l then (l.idxOf c : Int) else -1
theorem placeOf_pos {l : List Nat} (c : Nat) (hl : l.length ≤ 1000000) : m_impl_placeOf (l.map some, some c) = some (posL l c) := by
  have key : ∀ d j, l.length - j = d → j ≤ l.length → c ∉ l.take j → loopO m_impl_placeOf_0 (l.map some, some c, (l.length : Int), (j : Int)) = some (if c ∈ l then .inr (l.idxOf c : Int) else .inl ()) := by
    intro d
    induction d with
    | zero =>
      intro j hd hj hc
      rw [List.take_of_length_le (by omega)] at hc
      rw [if_neg hc]
      refine loopO_out ?_
      simp only [m_impl_placeOf_0, cond_dec]
      rw [if_neg (by omega)]
    | succ d ih =>
      intro j hd hj hc
      obtain ⟨a, ha⟩ := get_lt (l := l) (k := j) (by omega)
      have hg : (l.map some)[j]? = some (some a) := by rw [List.getElem?_map, ha]; rfl
      by_cases e : a = c
      · subst e
        rw [if_pos (List.mem_of_getElem? ha)]
        have hi : l.idxOf a = j := by
          have hs : l = l.take j ++ a :: l.drop (j + 1) := by
            obtain ⟨hlt, he⟩ := List.getElem?_eq_some_iff.1 ha
            rw [← he, ← List.drop_eq_getElem_cons hlt, List.take_append_drop]
          rw [hs, List.idxOf_append, if_neg hc]
          simp; omega
        rw [hi]
        refine loopO_out ?_
        simp only [m_impl_placeOf_0, cond_dec, atI_nat, hg, bind_some]
        rw [if_pos (by omega), if_pos trivial]
      · have step : m_impl_placeOf_0 (l.map some, some c, (l.length : Int), (j : Int)) = some (.nx (l.map some, some c, (l.length : Int), ((j + 1 : Nat) : Int))) := by
          simp only [m_impl_placeOf_0, cond_dec, atI_nat, hg, bind_some]
          rw [if_pos (by omega), if_neg (by intro h; exact e (Option.some.inj h)), w64 (by omega) (by omega)]
          rfl
        rw [loopO_nx step]
        refine ih (j + 1) (by omega) (by omega) ?_
        rw [List.take_add_one, ha]
        simp [hc, Ne.symm e]
  have h0 := key l.length 0 (by omega) (Nat.zero_le _) (by simp)
  have h0' : loopO m_impl_placeOf_0 (l.map some, some c, (((l.map some).length : Nat) : Int), (0 : Int)) = some (if c ∈ l then .inr (l.idxOf c : Int) else .inl ()) := by rw [List.length_map]; exact h0
  simp only [m_impl_placeOf, h0', bind_some, posL]
  split <;> rfl
theorem placesOf_pos {l m : List Nat} (hl : l.length ≤ 1000000) (hm : m.length ≤ 1000000) : m_impl_placesOf (l.map some, m.map some) = some (m.map (posL l)) := by
  have key : ∀ d j, m.length - j = d → j ≤ m.length → loopO m_impl_placesOf_0 (l.map some, (m.take j).map (posL l), m.map some, (m.length : Int), (j : Int)) = some (m.map (posL l)) := by
    intro d
    induction d with
    | zero =>
      intro j hd hj
      refine loopO_out ?_
      simp only [m_impl_placesOf_0, cond_dec]
      rw [if_neg (by omega), List.take_of_length_le (by omega)]
    | succ d ih =>
      intro j hd hj
      obtain ⟨a, ha⟩ := get_lt (l := m) (k := j) (by omega)
      have hg : (m.map some)[j]? = some (some a) := by rw [List.getElem?_map, ha]; rfl
      have step : m_impl_placesOf_0 (l.map some, (m.take j).map (posL l), m.map some, (m.length : Int), (j : Int)) = some (.nx (l.map some, (m.take (j + 1)).map (posL l), m.map some, (m.length : Int), ((j + 1 : Nat) : Int))) := by
        simp only [m_impl_placesOf_0, cond_dec, atI_nat, hg, bind_some, placeOf_pos a hl]
        rw [if_pos (by omega), appL_some (by simp; omega), bind_some, w64 (by omega) (by omega), List.take_add_one, ha]
        simp
      rw [loopO_nx step]
      exact ih (j + 1) (by omega) (by omega)
  have h0 := key m.length 0 (by omega) (Nat.zero_le _)
  have h0' : loopO m_impl_placesOf_0 (l.map some, [], m.map some, (((m.map some).length : Nat) : Int), (0 : Int)) = some (m.map (posL l)) := by rw [List.length_map]; exact h0
  simp only [m_impl_placesOf, h0', bind_some]
section
variable {F : Fo} {L : Nat → HN}
theorem ends_eq (hF : F.ok) (ha : ∀ i, i < F.m → (L i).attrs.length ≤ 1000000) {n : Nat} (hb : big = n) {m : List Nat} {r : Nat} (hm : m[0]? = some r) (hr : r < F.m) (hh : Ht F.kids n r) (hl : (idsF F.kids n r).length ≤ 1000000) (hml : m.length ≤ 1000000) :
    m_impl_world_ends ((m.map some, ()), F.st L) = some (nodesF F.kids (fun i => kn (L i)) n r, m.map (posL (idsF F.kids n r)), F.st L) := by
  have htk := taken_eq hF ha n r [] [] hr hh (by simpa using hl) (by simpa using hl)
  rw [List.nil_append, List.nil_append] at htk
  have hg : atI (m.map some) 0 = some (some r) := by
    rw [show (0 : Int) = ((0 : Nat) : Int) from rfl, atI_nat, List.getElem?_map, hm]; rfl
  simp only [m_impl_world_ends, hg, bind_some, hb, htk, placesOf_pos hl hml]
end
structure Ds (t : List Node) (l : List Nat) : Prop where
  bd : ∀ v ∈ l, v < t.length
  nd : l.Nodup
theorem Ds.len {t : List Node} {l : List Nat} (h : Ds t l) (ht : t.length ≤ 200) : l.length ≤ 200 := by
  have h1 : l ⊆ List.range t.length := fun v hv => List.mem_range.2 (h.bd v hv)
  have h2 := h.nd.length_le_of_subset h1
  rw [List.length_range] at h2
  omega
def intsN (l : List Nat) : List Int := l.map Int.ofNat
theorem intsN_get {l : List Nat} {i : Nat} {v : Int} (h : (intsN l)[i]? = some v) : ∃ k, l[i]? = some k ∧ v = (k : Int) := by
  rw [intsN, List.getElem?_map] at h
  cases hk : l[i]? with
  | none => rw [hk] at h; cases h
  | some k => rw [hk] at h; exact ⟨k, rfl, (Option.some.inj h).symm⟩
theorem pts_intsN {l : List Nat} : pts (intsN l) = l.map some := by
  simp [pts, intsN, List.map_map, Function.comp_def]
theorem these_nat {t : List Node} {l : List Nat} (hR : RT t) (h : Ds t l) : m_impl_these (ptrs t, intsN l) = some (l.map some, true) := by
  have h1 := h.len hR.len
  rw [these_eq t (intsN l) (by simp [intsN]; omega) (fun i v hv => by
    obtain ⟨k, hk, rfl⟩ := intsN_get hv
    have := h.bd k (List.mem_of_getElem? hk)
    omega), pts_intsN]
theorem chosen_in (a : Int) (b : Bool) {on : List Int} (r ks : List (Option Nat)) {i : Nat} (hi : i < on.length) (hlen : on.length ≤ 2147483647) : ∀ d j : Nat, i - j = d → j ≤ i →
    ∃ y, loopO m_spec_forest_chosen_0_0 (((), a, b), on, r, (i : Int), (j : Int), ks) = some y ∧ (y = .inr (((), a, b), [], false, ks) ∨ (y = .inl (((), a, b), on, r, (i : Int), ks) ∧ ∀ k : Nat, j ≤ k → k < i → on[k]? ≠ on[i]?)) := by
  intro d
  induction d with
  | zero =>
    intro j hd hj
    refine ⟨_, loopO_out (b := .inl (((), a, b), on, r, (i : Int), ks)) ?_, .inr ⟨rfl, fun k h1 h2 => by omega⟩⟩
    simp only [m_spec_forest_chosen_0_0, cond_dec]
    rw [if_neg (by omega)]
  | succ d ih =>
    intro j hd hj
    obtain ⟨v, hv⟩ := get_lt (l := on) (k := j) (by omega)
    obtain ⟨w, hw⟩ := get_lt (l := on) (k := i) hi
    by_cases e : v = w
    · refine ⟨_, loopO_out (b := .inr (((), a, b), [], false, ks)) ?_, .inl rfl⟩
      simp only [m_spec_forest_chosen_0_0, cond_dec, atI_nat, hv, hw, bind_some]
      rw [if_pos (by omega), if_pos e]
    · have step : m_spec_forest_chosen_0_0 (((), a, b), on, r, (i : Int), (j : Int), ks) = some (.nx (((), a, b), on, r, (i : Int), ((j + 1 : Nat) : Int), ks)) := by
        simp only [m_spec_forest_chosen_0_0, cond_dec, atI_nat, hv, hw, bind_some]
        rw [if_pos (by omega), if_neg e, w64 (by omega) (by omega)]
        rfl
      obtain ⟨y, h1, h2⟩ := ih (j + 1) (by omega) (by omega)
      refine ⟨y, by rw [loopO_nx step]; exact h1, h2.imp id fun ⟨g1, g2⟩ => ⟨g1, fun k k1 k2 => ?_⟩⟩
      by_cases e2 : k = j
      · subst e2
        rw [hv, hw]
        exact fun h => e (Option.some.inj h)
      · exact g2 k (by omega) k2
theorem chosen_ex (a : Int) (b : Bool) {on : List Int} {n : Nat} (hlen : on.length ≤ 2147483647) : ∀ d i : Nat, on.length - i = d → i ≤ on.length → (∀ (k : Nat) (v : Int), k < i → on[k]? = some v → 1 ≤ v ∧ v < n) → (∀ k l : Nat, k < l → l < i → on[k]? ≠ on[l]?) →
    ∃ y, loopO m_spec_forest_chosen_0 (((), a, b), on, (on.take i).map (fun v => some v.toNat), (i : Int), (List.range n).map some) = some y ∧ (y = .inr (((), a, b), [], false, (List.range n).map some) ∨ (y = .inl (((), a, b), on.map (fun v => some v.toNat), (List.range n).map some) ∧ (∀ (k : Nat) (v : Int), on[k]? = some v → 1 ≤ v ∧ v < n) ∧ ∀ k l : Nat, k < l → l < on.length → on[k]? ≠ on[l]?)) := by
  intro d
  induction d with
  | zero =>
    intro i hd hi h1 h2
    obtain rfl : i = on.length := by omega
    refine ⟨_, loopO_out (b := .inl (((), a, b), on.map (fun v => some v.toNat), (List.range n).map some)) ?_, .inr ⟨rfl, fun k v hk => h1 k v (List.getElem?_eq_some_iff.1 hk).1 hk, h2⟩⟩
    simp only [m_spec_forest_chosen_0, cond_dec]
    rw [if_neg (by omega), List.take_of_length_le (Nat.le_refl _)]
  | succ d ih =>
    intro i hd hi h1 h2
    obtain ⟨v, hv⟩ := get_lt (l := on) (k := i) (by omega)
    by_cases e1 : v < 1
    · refine ⟨_, loopO_out (b := .inr (((), a, b), [], false, (List.range n).map some)) ?_, .inl rfl⟩
      simp only [m_spec_forest_chosen_0, cond_dec, atI_nat, hv, bind_some]
      rw [if_pos (by omega), if_pos e1]
    by_cases e2 : (n : Int) ≤ v
    · refine ⟨_, loopO_out (b := .inr (((), a, b), [], false, (List.range n).map some)) ?_, .inl rfl⟩
      simp only [m_spec_forest_chosen_0, cond_dec, atI_nat, hv, bind_some, List.length_map, List.length_range]
      rw [if_pos (by omega), if_neg e1, if_pos e2]
    obtain ⟨x, rfl⟩ := Int.eq_ofNat_of_zero_le (show 0 ≤ v by omega)
    obtain ⟨y, g1, g2⟩ := chosen_in a b ((on.take i).map fun v => some v.toNat) ((List.range n).map some) (i := i) (by omega) hlen i 0 (by omega) (Nat.zero_le _)
    have g1' : loopO m_spec_forest_chosen_0_0 (((), a, b), on, (on.take i).map (fun v => some v.toNat), (i : Int), (0 : Int), (List.range n).map some) = some y := g1
    rcases g2 with rfl | ⟨rfl, g3⟩
    · refine ⟨_, loopO_out (b := .inr (((), a, b), [], false, (List.range n).map some)) ?_, .inl rfl⟩
      simp only [m_spec_forest_chosen_0, cond_dec, atI_nat, hv, bind_some, List.length_map, List.length_range]
      rw [if_pos (by omega), if_neg e1, if_neg e2, g1']
      rfl
    · have hr : ((List.range n).map some)[x]? = some (some x) := by
        have : x < n := by omega
        simp [this]
      have step : m_spec_forest_chosen_0 (((), a, b), on, (on.take i).map (fun v => some v.toNat), (i : Int), (List.range n).map some) = some (.nx (((), a, b), on, (on.take (i + 1)).map (fun v => some v.toNat), ((i + 1 : Nat) : Int), (List.range n).map some)) := by
        simp only [m_spec_forest_chosen_0, cond_dec, atI_nat, hv, bind_some, List.length_map, List.length_range]
        rw [if_pos (by omega), if_neg e1, if_neg e2, g1']
        simp only [bind_some, selim, atI_nat, hv, hr, Int.toNat_natCast]
        rw [appL_some (by simp; omega), bind_some, w64 (by omega) (by omega), List.take_add_one, hv]
        simp
      rw [loopO_nx step]
      refine ih (i + 1) (by omega) (by omega) (fun k w hk hw => ?_) (fun k l hkl hl => ?_)
      · by_cases e : k = i
        · subst e
          rw [hv] at hw
          cases hw
          omega
        · exact h1 k w (by omega) hw
      · by_cases e : l = i
        · subst e; exact g3 k (Nat.zero_le _) hkl
        · exact h2 k l hkl (by omega)
theorem loop_each {X B : Type} {body : X → Option (Stp X B)} {st : Nat → X} {n : Nat} {good bad : B} {p : Nat → Prop} (h : ∀ k, k < n → body (st k) = some (.out bad) ∨ (body (st k) = some (.nx (st (k + 1))) ∧ p k)) (he : body (st n) = some (.out good)) :
    ∀ k, k ≤ n → ∃ y, loopO body (st k) = some y ∧ (y = bad ∨ (y = good ∧ ∀ j, k ≤ j → j < n → p j)) := by
  have key : ∀ d k, n - k = d → k ≤ n → ∃ y, loopO body (st k) = some y ∧ (y = bad ∨ (y = good ∧ ∀ j, k ≤ j → j < n → p j)) := by
    intro d
    induction d with
    | zero =>
      intro k hd hk
      obtain rfl : k = n := by omega
      exact ⟨_, loopO_out he, .inr ⟨rfl, fun j h1 h2 => by omega⟩⟩
    | succ d ih =>
      intro k hd hk
      rcases h k (by omega) with h1 | ⟨h1, h2⟩
      · exact ⟨_, loopO_out h1, .inl rfl⟩
      · obtain ⟨y, g1, g2⟩ := ih (k + 1) (by omega) (by omega)
        refine ⟨y, by rw [loopO_nx h1]; exact g1, g2.imp id fun ⟨e, g3⟩ => ⟨e, fun j j1 j2 => ?_⟩⟩
        by_cases e2 : j = k
        · subst e2; exact h2
        · exact g3 j (by omega) j2
  exact fun k hk => key _ k rfl hk
theorem map_some_get {l : List Nat} {i c : Nat} (h : l[i]? = some c) : (l.map some)[i]? = some (some c) := by rw [List.getElem?_map, h]; rfl
section
variable {F : Fo} {P : Nat → Int × Node} {on : List Nat}
theorem are_ex (ho : ∀ c ∈ on, c < F.m) (hl : on.length ≤ 1000000) : ∃ b, m_spec_are (on.map some, F.kst P) = some b ∧ (b = true → ∀ c ∈ on, (P c).2.kind = 3) := by
  obtain ⟨y, h1, h2⟩ := loop_each (body := m_spec_are_0) (st := fun k => (on.map some, (k : Int), F.kst P)) (n := on.length) (good := .inl (F.kst P)) (bad := .inr (false, F.kst P)) (p := fun i => ∀ a, on[i]? = some a → (P a).2.kind = 3) (fun i hi => by
      obtain ⟨a, ha⟩ := get_lt hi
      have hg := Fo.kget (F := F) (P := P) (ho a (List.mem_of_getElem? ha))
      simp only [m_spec_are_0, cond_dec, atI_nat, map_some_get ha, bind_some, hg]
      rw [if_pos (by simp; omega)]
      have hu : (F.kn1 P a).n = (P a).2 := rfl
      rw [hu]
      by_cases e : (P a).2.kind = 3
      · rw [if_neg (by simp [e]), w64 (by omega) (by omega)]
        refine .inr ⟨rfl, fun a' ha' => ?_⟩
        rw [ha] at ha'
        cases ha'
        exact e
      · rw [if_pos e]; exact .inl rfl) (by
      simp only [m_spec_are_0, cond_dec]
      rw [if_neg (by simp)]) 0 (Nat.zero_le _)
  have h1' : loopO m_spec_are_0 (on.map some, (0 : Int), F.kst P) = some y := h1
  simp only [m_spec_are, h1', bind_some]
  rcases h2 with rfl | ⟨rfl, h3⟩
  · exact ⟨false, rfl, fun h => by cases h⟩
  · refine ⟨true, rfl, fun _ a ha => ?_⟩
    obtain ⟨i, hi⟩ := List.mem_iff_getElem?.1 ha
    exact h3 i (Nat.zero_le _) (List.getElem?_eq_some_iff.1 hi).1 a hi
end
section
variable {t : List Node} {o p : Nat} {ws A B : List Nat} {n : Nat}
theorem big_ex : ∃ n, big = n ∧ 1000000 ≤ n := ⟨big, rfl, by unfold big; omega⟩
end
section
variable {t : List Node} {o p : Nat} {ws A B : List Nat} {n : Nat}
theorem fill_eq (a : Int) (b : Bool) (S : List KN) (ks : List (Option Nat)) {m : Nat} (hm : m ≤ 1000000) : ∀ d j : Nat, m - j = d → j ≤ m → loopO m_spec_Changed_a_1 (((), a, b), List.replicate j (-1) ++ List.replicate (m - j) 0, (j : Int), S, ks) = some (((), a, b), List.replicate m (-1), S, ks) := by
  intro d
  induction d with
  | zero =>
    intro j hd hj
    obtain rfl : j = m := by omega
    refine loopO_out ?_
    simp only [m_spec_Changed_a_1, cond_dec]
    rw [if_neg (by simp)]
    simp
  | succ d ih =>
    intro j hd hj
    have hg : (List.replicate j (-1) ++ List.replicate (m - j) 0 : List Int)[j]? = some 0 := by
      rw [List.getElem?_append_right (by simp), List.length_replicate, Nat.sub_self, List.getElem?_replicate, if_pos (by omega)]
    have hs : (List.replicate j (-1) ++ List.replicate (m - j) 0 : List Int).set j (-1) = List.replicate (j + 1) (-1) ++ List.replicate (m - (j + 1)) 0 := by
      rw [List.set_append_right _ _ (by simp)]
      rw [show m - j = (m - (j + 1)) + 1 by omega, List.replicate_succ]
      simp only [List.length_replicate, Nat.sub_self, List.set_cons_zero]
      rw [List.replicate_succ', List.append_assoc]
      rfl
    have step : m_spec_Changed_a_1 (((), a, b), List.replicate j (-1) ++ List.replicate (m - j) 0, (j : Int), S, ks) = some (.nx (((), a, b), List.replicate (j + 1) (-1) ++ List.replicate (m - (j + 1)) 0, ((j + 1 : Nat) : Int), S, ks)) := by
      simp only [m_spec_Changed_a_1, cond_dec, atI_nat, hg, bind_some, Int.toNat_natCast, hs]
      rw [if_pos (by simp; omega), w64 (by omega) (by omega)]
      rfl
    rw [loopO_nx step]
    exact ih (j + 1) (by omega) (by omega)
end
end Go.Proofs.YtimdfakgjkjejaaGreat.V
set_option linter.unusedVariables false
set_option linter.unusedSimpArgs false
namespace Go.Proofs.YtimdfakgjkjejaaGreat.V
open Go
def fk (ks : List (List UInt8)) (k : List UInt8) : Option Nat := ks.findIdx? fun x => decide (x = k)
theorem fk_some {ks : List (List UInt8)} {k : List UInt8} {j : Nat} : fk ks k = some j ↔ ks[j]? = some k ∧ ∀ i, i < j → ks[i]? ≠ some k := by
  unfold fk
  rw [List.findIdx?_eq_some_iff_getElem]
  constructor
  · rintro ⟨h1, h2, h3⟩
    have h2 := of_decide_eq_true h2
    refine ⟨by rw [List.getElem?_eq_getElem h1, h2], fun i hi e => ?_⟩
    obtain ⟨h4, h5⟩ := List.getElem?_eq_some_iff.1 e
    exact h3 i hi (by simp [h5])
  · rintro ⟨h1, h2⟩
    obtain ⟨h3, h4⟩ := List.getElem?_eq_some_iff.1 h1
    refine ⟨h3, by simp [h4], fun i hi e => ?_⟩
    have e := of_decide_eq_true e
    exact h2 i hi (by rw [List.getElem?_eq_getElem (by omega), e])
theorem fk_none {ks : List (List UInt8)} {k : List UInt8} : fk ks k = none ↔ k ∉ ks := by
  unfold fk
  rw [List.findIdx?_eq_none_iff]
  constructor
  · intro h hk
    have := h k hk
    simp at this
  · intro h x hx
    simp only [decide_eq_false_iff_not]
    exact fun e => h (e ▸ hx)
def hk (xa : List HAttr) : List (List UInt8) := xa.map (·.key)
theorem hk_get {xa : List HAttr} {i : Nat} {a : HAttr} (h : xa[i]? = some a) : (hk xa)[i]? = some a.key := by simp [hk, h]
theorem hk_len (xa : List HAttr) : (hk xa).length = xa.length := by simp [hk]
section
variable {S : List HN} {c : Nat} {h : HN}
theorem ptr_at (hg : S[c]? = some h) (k : List UInt8) (hl : h.attrs.length ≤ 1000) : m_goquery_getAttributePtr (k, some c, S) = some ((fk (hk h.attrs) k).map fun j => (c, j), S) := by
  simp only [m_goquery_getAttributePtr, Option.isNone_some, cond_false, bind_some, hg]
  have key : ∀ n i, h.attrs.length - i = n → i ≤ h.attrs.length → (∀ j, j < i → (hk h.attrs)[j]? ≠ some k) → loopO m_goquery_getAttributePtr_0 (k, some c, c, (h.attrs.length : Int), (i : Int), S) = some (match fk (hk h.attrs) k with | some j => .inr (some (c, j), S) | none => .inl S) := by
    intro n
    induction n with
    | zero =>
      intro i hi h1 h2
      have : i = h.attrs.length := by omega
      subst this
      have hn : fk (hk h.attrs) k = none := by
        rw [fk_none]
        intro hm
        obtain ⟨j, hj⟩ := List.mem_iff_getElem?.1 hm
        have := (List.getElem?_eq_some_iff.1 hj).1
        rw [hk_len] at this
        exact h2 j this hj
      rw [hn]
      refine loopO_out ?_
      simp only [m_goquery_getAttributePtr_0, cond_dec]
      rw [if_neg (by omega)]
    | succ n ih =>
      intro i hi h1 h2
      obtain ⟨a, hia⟩ := get_lt (l := h.attrs) (k := i) (by omega)
      by_cases e : a.key = k
      · have hv : fk (hk h.attrs) k = some i := fk_some.2 ⟨by rw [hk_get hia, e], h2⟩
        rw [hv]
        refine loopO_out ?_
        simp only [m_goquery_getAttributePtr_0, cond_dec, bind_some, hg, atI_nat, Int.toNat_natCast, hia]
        rw [if_pos (by omega), if_pos e]
      · have step : m_goquery_getAttributePtr_0 (k, some c, c, (h.attrs.length : Int), (i : Int), S) = some (.nx (k, some c, c, (h.attrs.length : Int), ((i + 1 : Nat) : Int), S)) := by
          simp only [m_goquery_getAttributePtr_0, cond_dec, bind_some, hg, atI_nat, Int.toNat_natCast, hia]
          rw [if_pos (by omega), if_neg e, w64 (by omega) (by omega)]
          rfl
        rw [loopO_nx step]
        refine ih (i + 1) (by omega) (by omega) fun j hj he => ?_
        rcases Nat.lt_succ_iff_lt_or_eq.1 hj with hj | rfl
        · exact h2 j hj he
        · rw [hk_get hia] at he
          exact e (Option.some.inj he)
  have h0 := key h.attrs.length 0 (by omega) (Nat.zero_le _) (fun j hj => by omega)
  rw [show loopO m_goquery_getAttributePtr_0 (k, some c, c, (h.attrs.length : Int), (0 : Int), S) = _ from h0, bind_some]
  cases fk (hk h.attrs) k <;> rfl
def setA (k v : List UInt8) (xa : List HAttr) : List HAttr := match fk (hk xa) k with
  | none => xa ++ [⟨[], k, v⟩]
  | some j => match xa[j]? with | some a => xa.set j ⟨a.ns, a.key, v⟩ | none => xa
def rmA (k : List UInt8) (xb : List HAttr) : List HAttr := match fk (hk xb) k with
  | none => xb
  | some j => match xb[xb.length - 1]? with | some z => ((xb.set j ⟨z.ns, z.key, z.val⟩).set (xb.length - 1) ⟨[], [], []⟩).take (xb.length - 1) | none => xb
theorem wa_self (h : HN) : h.wa h.attrs = h := rfl
theorem set_self (hg : S[c]? = some h) : S.set c h = S := by
  apply List.ext_getElem?
  intro i
  by_cases e : c = i
  · subst e
    rw [List.getElem?_set_self (List.getElem?_eq_some_iff.1 hg).1, hg]
  · rw [List.getElem?_set_ne e]
theorem remove_at (hg : S[c]? = some h) (k : List UInt8) (hl : h.attrs.length ≤ 1000) : m_goquery_removeAttr (some c, k, S) = some (S.set c (h.wa (rmA k h.attrs))) := by
  have hcl := (List.getElem?_eq_some_iff.1 hg).1
  simp only [m_goquery_removeAttr, bind_some, hg]
  have key : ∀ n i, h.attrs.length - i = n → i ≤ h.attrs.length → (∀ j, j < i → (hk h.attrs)[j]? ≠ some k) → loopO m_goquery_removeAttr_0 (some c, k, c, (h.attrs.length : Int), (i : Int), S) = some (match fk (hk h.attrs) k with | some j => .inr (S.set c (h.wa (rmA k h.attrs))) | none => .inl S) := by
    intro n
    induction n with
    | zero =>
      intro i hi h1 h2
      have : i = h.attrs.length := by omega
      subst this
      have hn : fk (hk h.attrs) k = none := by
        rw [fk_none]
        intro hm
        obtain ⟨j, hj⟩ := List.mem_iff_getElem?.1 hm
        have := (List.getElem?_eq_some_iff.1 hj).1
        rw [hk_len] at this
        exact h2 j this hj
      rw [hn]
      refine loopO_out ?_
      simp only [m_goquery_removeAttr_0, cond_dec]
      rw [if_neg (by omega)]
    | succ n ih =>
      intro i hi h1 h2
      obtain ⟨a, hia⟩ := get_lt (l := h.attrs) (k := i) (by omega)
      by_cases e : a.key = k
      · have hv : fk (hk h.attrs) k = some i := fk_some.2 ⟨by rw [hk_get hia, e], h2⟩
        obtain ⟨z, hz⟩ := get_lt (l := h.attrs) (k := h.attrs.length - 1) (by omega)
        have hw : IntKind.wrap .i64 ((h.attrs.length : Int) - (1 : Int)) = ((h.attrs.length - 1 : Nat) : Int) := by rw [w64 (by omega) (by omega)]; omega
        have hs : subL h.attrs (0 : Int) ((h.attrs.length - 1 : Nat) : Int) = some (h.attrs.take (h.attrs.length - 1)) := subL_front (by omega)
        obtain ⟨y, hy⟩ := get_lt (l := h.attrs.set i ⟨z.ns, z.key, z.val⟩) (k := h.attrs.length - 1) (by simp; omega)
        have g1 : ∀ x : HN, (S.set c x)[c]? = some x := fun x => List.getElem?_set_self hcl
        have g2 : ∀ x y : HN, ((S.set c x).set c y)[c]? = some y := fun x y => List.getElem?_set_self (by simpa using hcl)
        have at9 : ∀ x, (h.wa x).attrs = x := fun _ => rfl
        rw [hv]
        refine loopO_out ?_
        simp only [m_goquery_removeAttr_0, cond_dec, bind_some, hg, hw, atI_nat, Int.toNat_natCast, hia, hz, hs, g1, g2, at9, hy]
        rw [if_pos (by omega), if_pos e, if_pos trivial]
        simp only [rmA, hv, hz, List.set_set, HN.wa]
      · have step : m_goquery_removeAttr_0 (some c, k, c, (h.attrs.length : Int), (i : Int), S) = some (.nx (some c, k, c, (h.attrs.length : Int), ((i + 1 : Nat) : Int), S)) := by
          simp only [m_goquery_removeAttr_0, cond_dec, bind_some, hg, atI_nat, Int.toNat_natCast, hia]
          rw [if_pos (by omega), if_neg e, w64 (by omega) (by omega)]
          rfl
        rw [loopO_nx step]
        refine ih (i + 1) (by omega) (by omega) fun j hj he => ?_
        rcases Nat.lt_succ_iff_lt_or_eq.1 hj with hj | rfl
        · exact h2 j hj he
        · rw [hk_get hia] at he
          exact e (Option.some.inj he)
  have h0 := key h.attrs.length 0 (by omega) (Nat.zero_le _) (fun j hj => by omega)
  rw [show loopO m_goquery_removeAttr_0 (some c, k, c, (h.attrs.length : Int), (0 : Int), S) = _ from h0, bind_some]
  cases hf : fk (hk h.attrs) k with
  | some j => rfl
  | none =>
    have : rmA k h.attrs = h.attrs := by simp only [rmA, hf]
    rw [this, wa_self, set_self hg]
    rfl
end
def onL (l : List Nat) (f : List HAttr → List HAttr) (L : Nat → HN) : Nat → HN := fun i => if i ∈ l then (L i).wa (f (L i).attrs) else L i
section
variable {F : Fo} {L : Nat → HN} {l : List Nat} {f : List HAttr → List HAttr}
theorem onL_step {j c : Nat} (hnd : l.Nodup) (hj : l[j]? = some c) (hc : c < F.m) : (F.st (onL (l.take j) f L)).set c ((F.mk1 (onL (l.take j) f L) c).wa (f (L c).attrs)) = F.st (onL (l.take (j + 1)) f L) := by
  unfold Fo.st
  rw [tab_set hc]
  refine tab_ext fun i hi => ?_
  have ht : l.take (j + 1) = l.take j ++ [c] := by rw [List.take_add_one, hj]; rfl
  by_cases e : i = c
  · subst e
    have hin : i ∉ l.take j := fun h => by
      obtain ⟨q, hq⟩ := List.mem_iff_getElem?.1 h
      have hql := (List.getElem?_eq_some_iff.1 hq).1
      rw [List.length_take] at hql
      rw [List.getElem?_take, if_pos (by omega)] at hq
      obtain ⟨x1, x2⟩ := List.getElem?_eq_some_iff.1 hq
      obtain ⟨y1, y2⟩ := List.getElem?_eq_some_iff.1 hj
      have := List.pairwise_iff_getElem.1 hnd q j x1 y1 (by omega)
      rw [x2, y2] at this
      exact this rfl
    rw [upd_same]
    simp only [onL, if_neg hin, Fo.mk1, HN.wa, ht, List.mem_append, List.mem_singleton, or_true, if_true]
  · rw [upd_ne e]
    simp only [onL, Fo.mk1, ht, List.mem_append, List.mem_singleton, e, or_false]
theorem onL_at {j c : Nat} (hnd : l.Nodup) (hj : l[j]? = some c) : onL (l.take j) f L c = L c := by
  have hin : c ∉ l.take j := fun h => by
      obtain ⟨q, hq⟩ := List.mem_iff_getElem?.1 h
      have hql := (List.getElem?_eq_some_iff.1 hq).1
      rw [List.length_take] at hql
      rw [List.getElem?_take, if_pos (by omega)] at hq
      obtain ⟨x1, x2⟩ := List.getElem?_eq_some_iff.1 hq
      obtain ⟨y1, y2⟩ := List.getElem?_eq_some_iff.1 hj
      have := List.pairwise_iff_getElem.1 hnd q j x1 y1 (by omega)
      rw [x2, y2] at this
      exact this rfl
  exact if_neg hin
theorem setAll_eq (hnd : l.Nodup) (hm : ∀ c ∈ l, c < F.m) (ha : ∀ i, (L i).attrs.length ≤ 1000) (hl : l.length ≤ 1000000) (k v : List UInt8) : m_goquery_Selection_SetAttr (l.map some, k, v, F.st L) = some ((), F.st (onL l (setA k v) L)) := by
  have key : ∀ n j, l.length - j = n → j ≤ l.length → loopO m_goquery_Selection_SetAttr_0 (l.map some, k, v, l.map some, (l.length : Int), (j : Int), F.st (onL (l.take j) (setA k v) L)) = some (l.map some, F.st (onL l (setA k v) L)) := by
    intro n
    induction n with
    | zero =>
      intro j hj h1
      refine loopO_out ?_
      simp only [m_goquery_Selection_SetAttr_0, cond_dec]
      rw [if_neg (by omega), List.take_of_length_le (by omega)]
    | succ n ih =>
      intro j hj h1
      obtain ⟨c, hc⟩ := get_lt (l := l) (k := j) (by omega)
      have hcm := hm c (List.mem_of_getElem? hc)
      have hg := Fo.get (F := F) (L := onL (l.take j) (setA k v) L) hcm
      have hat : (F.mk1 (onL (l.take j) (setA k v) L) c).attrs = (L c).attrs := by
        show (onL (l.take j) (setA k v) L c).attrs = _
        rw [onL_at hnd hc]
      have hp := ptr_at hg k (by rw [hat]; exact ha c)
      rw [hat] at hp
      have hst := onL_step (f := setA k v) (L := L) hnd hc hcm
      have step : m_goquery_Selection_SetAttr_0 (l.map some, k, v, l.map some, (l.length : Int), (j : Int), F.st (onL (l.take j) (setA k v) L)) = some (.nx (l.map some, k, v, l.map some, (l.length : Int), ((j + 1 : Nat) : Int), F.st (onL (l.take (j + 1)) (setA k v) L))) := by
        rw [← hst]
        simp only [m_goquery_Selection_SetAttr_0, cond_dec, atI_nat, map_some_get hc, bind_some, hp]
        rw [if_pos (by omega)]
        have := ha c
        cases hf : fk (hk (L c).attrs) k with
        | none =>
          simp only [Option.map_none, Option.isNone_none, cond_true, hg, bind_some, hat]
          rw [appL_some (by simp; omega), bind_some, if_pos trivial, w64 (by omega) (by omega)]
          simp only [setA, hf]
          rfl
        | some q =>
          have hq := (fk_some.1 hf).1
          have hql := (List.getElem?_eq_some_iff.1 hq).1
          rw [hk_len] at hql
          obtain ⟨a, hqa⟩ := get_lt hql
          simp only [Option.map_some, Option.isNone_some, cond_false, hg, bind_some, hat, hqa]
          rw [w64 (by omega) (by omega)]
          simp only [setA, hf, hqa]
          rfl
      rw [loopO_nx step]
      exact ih (j + 1) (by omega) (by omega)
  have h0 := key l.length 0 (by omega) (Nat.zero_le _)
  have e0 : onL (l.take 0) (setA k v) L = L := by funext i; simp [onL]
  rw [e0] at h0
  have h0' : loopO m_goquery_Selection_SetAttr_0 (l.map some, k, v, l.map some, (((l.map some).length : Nat) : Int), (0 : Int), F.st L) = some (l.map some, F.st (onL l (setA k v) L)) := by rw [List.length_map]; exact h0
  simp only [m_goquery_Selection_SetAttr, h0', bind_some]
theorem rmAll_eq (hnd : l.Nodup) (hm : ∀ c ∈ l, c < F.m) (ha : ∀ i, (L i).attrs.length ≤ 1000) (hl : l.length ≤ 1000000) (k : List UInt8) : m_goquery_Selection_RemoveAttr (l.map some, k, F.st L) = some ((), F.st (onL l (rmA k) L)) := by
  have key : ∀ n j, l.length - j = n → j ≤ l.length → loopO m_goquery_Selection_RemoveAttr_0 (l.map some, k, l.map some, (l.length : Int), (j : Int), F.st (onL (l.take j) (rmA k) L)) = some (l.map some, F.st (onL l (rmA k) L)) := by
    intro n
    induction n with
    | zero =>
      intro j hj h1
      refine loopO_out ?_
      simp only [m_goquery_Selection_RemoveAttr_0, cond_dec]
      rw [if_neg (by omega), List.take_of_length_le (by omega)]
    | succ n ih =>
      intro j hj h1
      obtain ⟨c, hc⟩ := get_lt (l := l) (k := j) (by omega)
      have hcm := hm c (List.mem_of_getElem? hc)
      have hg := Fo.get (F := F) (L := onL (l.take j) (rmA k) L) hcm
      have hat : (F.mk1 (onL (l.take j) (rmA k) L) c).attrs = (L c).attrs := by
        show (onL (l.take j) (rmA k) L c).attrs = _
        rw [onL_at hnd hc]
      have hp := remove_at hg k (by rw [hat]; exact ha c)
      rw [hat] at hp
      have hst := onL_step (f := rmA k) (L := L) hnd hc hcm
      have step : m_goquery_Selection_RemoveAttr_0 (l.map some, k, l.map some, (l.length : Int), (j : Int), F.st (onL (l.take j) (rmA k) L)) = some (.nx (l.map some, k, l.map some, (l.length : Int), ((j + 1 : Nat) : Int), F.st (onL (l.take (j + 1)) (rmA k) L))) := by
        rw [← hst]
        simp only [m_goquery_Selection_RemoveAttr_0, cond_dec, atI_nat, map_some_get hc, bind_some, hp]
        rw [if_pos (by omega), w64 (by omega) (by omega)]
        rfl
      rw [loopO_nx step]
      exact ih (j + 1) (by omega) (by omega)
  have h0 := key l.length 0 (by omega) (Nat.zero_le _)
  have e0 : onL (l.take 0) (rmA k) L = L := by funext i; simp [onL]
  rw [e0] at h0
  have h0' : loopO m_goquery_Selection_RemoveAttr_0 (l.map some, k, l.map some, (((l.map some).length : Nat) : Int), (0 : Int), F.st L) = some (l.map some, F.st (onL l (rmA k) L)) := by rw [List.length_map]; exact h0
  simp only [m_goquery_Selection_RemoveAttr, h0', bind_some]
end
theorem setA_len (k v : List UInt8) (xa : List HAttr) : (setA k v xa).length ≤ xa.length + 1 := by
  unfold setA
  split
  · simp
  · split
    · simp
    · omega
end Go.Proofs.YtimdfakgjkjejaaGreat.V
set_option linter.unusedVariables false
set_option linter.unusedSimpArgs false
namespace Go.Proofs.YtimdfakgjkjejaaGreat.V
open Go Go.Proofs
abbrev p_laws_sure7_a : Pt := [(0, .lst .node), (1, .el (.rc (.int .i64) [.ints, .ints, .str, .str, .strs] 0))]
abbrev q_laws_sure7_a : Pt := [(0, .bool)]
noncomputable def m_laws_sure7_a : Tup p_laws_sure7_a → Option (Tup q_laws_sure7_a) := fun (x : List Node × Int × List Int × List Int × List UInt8 × List UInt8 × List (List UInt8)) => Option.bind (m_spec_Changed_a_f (x.1, [(x.2.1, x.2.2.1, x.2.2.2.1, x.2.2.2.2.1, x.2.2.2.2.2.1, x.2.2.2.2.2.2)])) fun (r : List Node × List Int × Bool) => some r.2.2
noncomputable def cx_laws_sure7_a : Cx := ⟨tb, lookE [(12, e_spec_Changed_a_f)], lookS []⟩
theorem ck_laws_sure7_a : CxOK Tryz.prog (cx_laws_sure7_a) := cx_ok tb_ok (.cons ok_spec_Changed_a_f Tryz.call12 .nil)
noncomputable def e_laws_sure7_a : Ent := ⟨0, p_laws_sure7_a, q_laws_sure7_a, m_laws_sure7_a⟩
theorem ok_laws_sure7_a : FnOK Tryz.prog 6 e_laws_sure7_a := fn_ok (L := lookL []) ck_laws_sure7_a mixed Tryz.func6 rfl (by kernel_rfl) (by kernel_rfl) (ls_ok (l := []) (by kernel_rfl) .nil) (by intro x; kernel_rfl)
abbrev p_laws_isPlace : Pt := [(0, .lst .int), (1, .int .i64)]
abbrev q_laws_isPlace : Pt := [(0, .bool)]
abbrev p_laws_isPlace_0 : Pt := [(0, .lst .int), (1, .int .i64), (5, .int .i64)]
abbrev x_laws_isPlace_0 : List (Xt × Pt) := [(.ex 0, []), (.rt, [(4, .bool)])]
noncomputable def m_laws_isPlace_0 : Tup p_laws_isPlace_0 → Option (Stp (Tup p_laws_isPlace_0) (SumT (x_laws_isPlace_0.map (·.2)))) := fun (x : List Int × Int × Int) => bif decide (x.2.2 < (↑(List.length x.1) : Int)) then Option.bind (atI x.1 x.2.2) fun (v : Int) => bif decide (v = x.2.1) then some (Stp.out (Sum.inr true)) else some (Stp.nx (x.1, x.2.1, IntKind.wrap .i64 (x.2.2 + (1 : Int)))) else some (Stp.out (Sum.inl ()))
noncomputable def m_laws_isPlace : Tup p_laws_isPlace → Option (Tup q_laws_isPlace) := fun (x : List Int × Int) => Option.bind (loopO m_laws_isPlace_0 (x.1, x.2, (0 : Int))) fun (y : PUnit ⊕ Bool) => selim (fun (y : PUnit) => some false) (fun (y : Bool) => some y) y
noncomputable def cx_laws_isPlace : Cx := ⟨tb, lookE [], lookS []⟩
theorem ck_laws_isPlace : CxOK Tryz.prog (cx_laws_isPlace) := cx_ok tb_ok .nil
noncomputable def c_laws_isPlace_0 : Code := loopAt (Go.Proofs.Tryz.f9.body.getD .skip) 0
noncomputable def l_laws_isPlace_0 : LEnt := ⟨p_laws_isPlace_0, x_laws_isPlace_0, loopO (m_laws_isPlace_0)⟩
theorem lo_laws_isPlace_0 : LOK Tryz.prog 18 0 false (l_laws_isPlace_0) c_laws_isPlace_0 := loop_ok (body := m_laws_isPlace_0) (L := lookL []) (ck_laws_isPlace) mixed (ls_ok (l := []) (by kernel_rfl) .nil) (by intro x; kernel_rfl) (fun x y h => loopO_iff.1 h)
noncomputable def e_laws_isPlace : Ent := ⟨0, p_laws_isPlace, q_laws_isPlace, m_laws_isPlace⟩
theorem ok_laws_isPlace : FnOK Tryz.prog 9 e_laws_isPlace := fn_ok (L := lookL [(0, l_laws_isPlace_0)]) ck_laws_isPlace mixed Tryz.func9 rfl (by kernel_rfl) (by kernel_rfl) (ls_ok (l := [(0, c_laws_isPlace_0)]) (by kernel_rfl) (.cons rfl (lo_laws_isPlace_0) .nil)) (by intro x; kernel_rfl)
abbrev p_laws_FnAttrSet : Pt := [(0, .lst .node), (1, .lst .int), (2, .str), (3, .str)]
abbrev q_laws_FnAttrSet : Pt := [(0, .bool)]
abbrev p_laws_FnAttrSet_0 : Pt := [(0, .lst .node), (1, .lst .int), (2, .str), (3, .str), (10, .lst .node), (13, .lst .node), (16, .int .i64)]
abbrev x_laws_FnAttrSet_0 : List (Xt × Pt) := [(.ex 0, []), (.rt, [(8, .bool)])]
noncomputable def m_laws_FnAttrSet_0 : Tup p_laws_FnAttrSet_0 → Option (Stp (Tup p_laws_FnAttrSet_0) (SumT (x_laws_FnAttrSet_0.map (·.2)))) := fun (x : List Node × List Int × List UInt8 × List UInt8 × List Node × List Node × Int) => bif decide (x.2.2.2.2.2.2 < (↑(List.length x.1) : Int)) then Option.bind (atI x.2.2.2.2.1 x.2.2.2.2.2.2) fun (v : Node) => Option.bind (m_spec_Attr ({ kind := Node.kind v, tag := Node.tag v, text := Node.text v, attrs := Node.attrs v, size := Node.size v }, x.2.2.1)) fun (r : List UInt8 × Bool) => Option.bind (atI x.1 x.2.2.2.2.2.2) fun (v : Node) => Option.bind (m_spec_Attr ({ kind := Node.kind v, tag := Node.tag v, text := Node.text v, attrs := Node.attrs v, size := Node.size v }, x.2.2.1)) fun (r_1 : List UInt8 × Bool) => Option.bind (atI x.2.2.2.2.2.1 x.2.2.2.2.2.2) fun (v : Node) => Option.bind (m_spec_Attr ({ kind := Node.kind v, tag := Node.tag v, text := Node.text v, attrs := Node.attrs v, size := Node.size v }, x.2.2.1)) fun (r_2 : List UInt8 × Bool) => Option.bind (m_laws_isPlace (x.2.1, x.2.2.2.2.2.2)) fun (r_3 : Bool) => bif r_3 then bif !r.2 then some (Stp.out (Sum.inr false)) else bif decide (r.1 ≠ x.2.2.2.1) then some (Stp.out (Sum.inr false)) else bif r_2.2 then some (Stp.out (Sum.inr false)) else Option.bind (atI x.2.2.2.2.2.1 x.2.2.2.2.2.2) fun (v : Node) => Option.bind (atI x.2.2.2.2.1 x.2.2.2.2.2.2) fun (v_1 : Node) => bif decide ((↑(List.length (Node.attrs v)) : Int) ≠ IntKind.wrap .i64 ((↑(List.length (Node.attrs v_1)) : Int) - (1 : Int))) then some (Stp.out (Sum.inr false)) else some (Stp.nx (x.1, x.2.1, x.2.2.1, x.2.2.2.1, x.2.2.2.2.1, x.2.2.2.2.2.1, IntKind.wrap .i64 (x.2.2.2.2.2.2 + (1 : Int)))) else bif !r.2 == r_1.2 then some (Stp.out (Sum.inr false)) else bif decide (r.1 ≠ r_1.1) then some (Stp.out (Sum.inr false)) else Option.bind (atI x.2.2.2.2.1 x.2.2.2.2.2.2) fun (v : Node) => Option.bind (atI x.1 x.2.2.2.2.2.2) fun (v_1 : Node) => bif decide ((↑(List.length (Node.attrs v)) : Int) ≠ (↑(List.length (Node.attrs v_1)) : Int)) then some (Stp.out (Sum.inr false)) else bif !r_2.2 == r_1.2 then some (Stp.out (Sum.inr false)) else some (Stp.nx (x.1, x.2.1, x.2.2.1, x.2.2.2.1, x.2.2.2.2.1, x.2.2.2.2.2.1, IntKind.wrap .i64 (x.2.2.2.2.2.2 + (1 : Int)))) else some (Stp.out (Sum.inl ()))
noncomputable def m_laws_FnAttrSet : Tup p_laws_FnAttrSet → Option (Tup q_laws_FnAttrSet) := fun (x : List Node × List Int × List UInt8 × List UInt8) => Option.bind (m_laws_zzFits1 x.1) fun (r : Bool) => bif !r then some true else bif decide ((2147483647 : Int) < (↑(List.length x.2.1) : Int)) then some true else bif decide ((2147483647 : Int) < (↑(List.length x.2.2.1) : Int)) then some true else bif decide ((2147483647 : Int) < (↑(List.length x.2.2.2) : Int)) then some true else bif decide (x.2.2.1 = Array.toList (ByteArray.data { data := #[(99 : UInt8), (108 : UInt8), (97 : UInt8), (115 : UInt8), (115 : UInt8)] })) then some true else Option.bind (m_spec_Plain x.2.2.2) fun (r : Bool) => bif !r then some true else bif decide ((1000 : Int) < (↑(List.length x.2.2.2) : Int)) then some true else Option.bind (m_laws_sure7_a (x.1, (12 : Int), x.2.1, [], x.2.2.1, x.2.2.2, [])) fun (r : Bool) => bif !r then some true else Option.bind (m_impl_Changed_f (x.1, [((12 : Int), x.2.1, [], x.2.2.1, x.2.2.2, [])])) fun (r : List Node × List Int × Bool) => Option.bind (m_impl_Changed_f (x.1, [((12 : Int), x.2.1, [], x.2.2.1, x.2.2.2, []), ((13 : Int), x.2.1, [], x.2.2.1, [], [])])) fun (r_1 : List Node × List Int × Bool) => bif !r.2.2 then some false else bif !r_1.2.2 then some false else bif decide ((↑(List.length r.1) : Int) ≠ (↑(List.length x.1) : Int)) then some false else bif decide ((↑(List.length r_1.1) : Int) ≠ (↑(List.length x.1) : Int)) then some false else Option.bind (loopO m_laws_FnAttrSet_0 (x.1, x.2.1, x.2.2.1, x.2.2.2, r.1, r_1.1, (0 : Int))) fun (y : PUnit ⊕ Bool) => selim (fun (y : PUnit) => some true) (fun (y : Bool) => some y) y
noncomputable def cx_laws_FnAttrSet : Cx := ⟨tb, lookE [(4, e_laws_zzFits1), (5, e_spec_Plain), (6, e_laws_sure7_a), (7, e_impl_Changed_f), (8, e_spec_Attr), (9, e_laws_isPlace)], lookS [(19, [(true, 0), (true, 1), (true, 2), (true, 3), (true, 4), (true, 5), (true, 6), (true, 7), (true, 8), (true, 9), (true, 10), (true, 11), (true, 12), (true, 13), (true, 14), (true, 15), (true, 16), (true, 17), (true, 18), (true, 19), (true, 20), (true, 21), (true, 22), (true, 23), (true, 24), (true, 25)]), (21, [(true, 0), (true, 1), (true, 2), (true, 3), (true, 4), (true, 5), (true, 6), (true, 7), (true, 8), (true, 9), (true, 10), (true, 11), (true, 12), (true, 13), (true, 14), (true, 15), (true, 16), (true, 17), (true, 18), (true, 19), (true, 20), (true, 21), (true, 22), (true, 23), (true, 24), (true, 25), (true, 26), (true, 27)])]⟩
theorem ck_laws_FnAttrSet : CxOK Tryz.prog (cx_laws_FnAttrSet) := cx_ok tb_ok (.cons ok_laws_zzFits1 Tryz.call4 (.cons ok_spec_Plain Tryz.call5 (.cons ok_laws_sure7_a Tryz.call6 (.cons ok_impl_Changed_f Tryz.call7 (.cons ok_spec_Attr Tryz.call8 (.cons ok_laws_isPlace Tryz.call9 .nil))))))
noncomputable def c_laws_FnAttrSet_0 : Code := loopAt (Go.Proofs.Tryz.f3.body.getD .skip) 0
noncomputable def l_laws_FnAttrSet_0 : LEnt := ⟨p_laws_FnAttrSet_0, x_laws_FnAttrSet_0, loopO (m_laws_FnAttrSet_0)⟩
theorem lo_laws_FnAttrSet_0 : LOK Tryz.prog 190 0 false (l_laws_FnAttrSet_0) c_laws_FnAttrSet_0 := loop_ok (body := m_laws_FnAttrSet_0) (L := lookL []) (ck_laws_FnAttrSet) mixed (ls_ok (l := []) (by kernel_rfl) .nil) (by intro x; kernel_rfl) (fun x y h => loopO_iff.1 h)
noncomputable def e_laws_FnAttrSet : Ent := ⟨0, p_laws_FnAttrSet, q_laws_FnAttrSet, m_laws_FnAttrSet⟩
theorem ok_laws_FnAttrSet : FnOK Tryz.prog 3 e_laws_FnAttrSet := fn_ok (L := lookL [(0, l_laws_FnAttrSet_0)]) ck_laws_FnAttrSet mixed Tryz.func3 rfl (by kernel_rfl) (by kernel_rfl) (ls_ok (l := [(0, c_laws_FnAttrSet_0)]) (by kernel_rfl) (.cons rfl (lo_laws_FnAttrSet_0) .nil)) (by intro x; kernel_rfl)
end Go.Proofs.YtimdfakgjkjejaaGreat.V
set_option linter.unusedVariables false
set_option linter.unusedSimpArgs false
namespace Go.Proofs.YtimdfakgjkjejaaGreat.V
open Go
theorem chosen_nat (a : Int) (bb : Bool) {on : List Int} {n : Nat} (hlen : on.length ≤ 2147483647) : ∃ r b, m_spec_forest_chosen (((), a, bb), on, (List.range n).map some) = some (r, b, ((), a, bb), (List.range n).map some) ∧ (b = true → ∃ l : List Nat, on = intsN l ∧ r = l.map some ∧ (∀ c ∈ l, 1 ≤ c ∧ c < n) ∧ l.Nodup) := by
  obtain ⟨y, h1, h2⟩ := chosen_ex a bb (on := on) (n := n) hlen on.length 0 rfl (Nat.zero_le _) (fun k v h => absurd h (by omega)) (fun k l _ h => absurd h (by omega))
  have h1' : loopO m_spec_forest_chosen_0 (((), a, bb), on, [], (0 : Int), (List.range n).map some) = some y := h1
  simp only [m_spec_forest_chosen, h1', bind_some]
  rcases h2 with rfl | ⟨rfl, g1, g2⟩
  · exact ⟨_, _, rfl, fun h => by cases h⟩
  · refine ⟨_, _, rfl, fun _ => ⟨on.map Int.toNat, ?_, ?_, ?_, ?_⟩⟩
    · unfold intsN
      rw [List.map_map]
      refine ((List.map_congr_left fun v hv => ?_).trans (List.map_id on)).symm
      obtain ⟨k, hk⟩ := List.mem_iff_getElem?.1 hv
      have := g1 k v hk
      simp only [Function.comp_apply, id_eq]
      show ((v.toNat : Nat) : Int) = v
      omega
    · rw [List.map_map]; rfl
    · intro c hc
      obtain ⟨v, hv, rfl⟩ := List.mem_map.1 hc
      obtain ⟨k, hk⟩ := List.mem_iff_getElem?.1 hv
      have := g1 k v hk
      omega
    · unfold List.Nodup
      rw [List.pairwise_map, List.pairwise_iff_getElem]
      intro i j hi hj hij e
      have := g2 i j hij hj
      rw [List.getElem?_eq_getElem hi, List.getElem?_eq_getElem hj] at this
      have b1 := g1 i _ (List.getElem?_eq_getElem hi)
      have b2 := g1 j _ (List.getElem?_eq_getElem hj)
      exact this (by congr 1; omega)
theorem withAttr_ex (xs : List Attr) (k v : List UInt8) (hl : xs.length ≤ 1000000) : ∃ r, m_spec_withAttr (xs, k, v) = some r ∧ r.length ≤ xs.length + 1 := by
  simp only [m_spec_withAttr]
  rw [appL_some (by simp; omega), bind_some, List.nil_append]
  obtain ⟨y, h1, h2⟩ := loopO_rule (body := m_spec_withAttr_0) (fun x => ∃ j : Nat, x = (k, v, xs, (j : Int)) ∧ j ≤ xs.length) (fun _ y => y = .inl (k, v, xs) ∨ ∃ r : List Attr, y = .inr r ∧ r.length ≤ xs.length) (fun x => ((xs.length : Int) - x.2.2.2).toNat) (fun x hx => by
    obtain ⟨j, rfl, hj⟩ := hx
    simp only [m_spec_withAttr_0, cond_dec, atI_nat]
    by_cases hjl : j < xs.length
    · obtain ⟨a, ha⟩ := get_lt hjl
      rw [if_pos (by omega)]
      simp only [ha, bind_some, Int.toNat_natCast]
      by_cases e : a.key = k
      · rw [if_pos e]
        exact .inl ⟨_, rfl, .inr ⟨_, rfl, by simp⟩⟩
      · rw [if_neg e, w64 (by omega) (by omega)]
        exact .inr ⟨_, rfl, ⟨j + 1, rfl, by omega⟩, by simp only; omega, fun _ h => h⟩
    · rw [if_neg (by omega)]
      exact .inl ⟨_, rfl, .inl rfl⟩) (k, v, xs, (0 : Int)) ⟨0, rfl, Nat.zero_le _⟩
  rw [h1, bind_some]
  rcases h2 with rfl | ⟨r, rfl, hr⟩
  · simp only [selim]
    rw [appL_some (by simp; omega), bind_some]
    exact ⟨_, rfl, by simp⟩
  · exact ⟨r, rfl, by omega⟩
section
variable {F : Fo} {P : Nat → Int × Node} {l : List Nat}
theorem kst_set {c : Nat} {n : Node} (hc : c < F.m) : (F.kst P).set c { F.kn1 P c with n := n } = F.kst (upd P c ((P c).1, n)) := by
  unfold Fo.kst
  rw [tab_set hc]
  refine tab_ext fun i hi => ?_
  by_cases e : i = c
  · subst e
    rw [upd_same]
    simp only [Fo.kn1, upd_same]
  · rw [upd_ne e]
    simp only [Fo.kn1, upd_ne e]
theorem attributes_ex (hm : ∀ c ∈ l, c < F.m) (hl : l.length ≤ 1000) (hP : ∀ i, (P i).2.attrs.length ≤ 1000) (on wi : List Int) (k v : List UInt8) (hk : k.length ≤ 2147483647) :
    ∃ b P', m_spec_attributes (((12 : Int), on, wi, k, v, []), l.map some, F.kst P) = some (b, F.kst P') := by
  obtain ⟨nn, hnn⟩ := name_ex k hk
  simp only [m_spec_attributes, cond_dec, hnn, bind_some]
  rw [if_pos trivial]
  cases nn with
  | false => exact ⟨_, _, rfl⟩
  | true =>
    simp only [Bool.not_true, Bool.false_eq_true, if_false]
    have s0 : m_spec_attributes_0 (l.map some, ((12 : Int), on, wi, k, v, []), (0 : Int), F.kst P) = some (.out (.inl (l.map some, ((12 : Int), on, wi, k, v, []), F.kst P))) := by
      simp only [m_spec_attributes_0, cond_dec, List.length_nil]
      rw [if_neg (by omega)]
    rw [loopO_out s0, bind_some]
    simp only [selim]
    obtain ⟨y, h1, h2⟩ := loopO_rule (body := m_spec_attributes_1) (fun x => ∃ (j : Nat) (P' : Nat → Int × Node), x = (l.map some, ((12 : Int), on, wi, k, v, []), (j : Int), F.kst P') ∧ j ≤ l.length ∧ ∀ i, (P' i).2.attrs.length ≤ 1000 + j) (fun _ y => ∃ P', y = .inl (F.kst P')) (fun x => ((l.length : Int) - x.2.2.1).toNat) (fun x hx => by
      obtain ⟨j, P', rfl, hj, hP'⟩ := hx
      simp only [m_spec_attributes_1, cond_dec, atI_nat, List.length_map]
      by_cases hjl : j < l.length
      · obtain ⟨c, hc⟩ := get_lt hjl
        have hcm := hm c (List.mem_of_getElem? hc)
        have hg := Fo.kget (F := F) (P := P') hcm
        have hbc := hP' c
        have hn : (F.kn1 P' c).n = (P' c).2 := rfl
        obtain ⟨r, hr, hrl⟩ := withAttr_ex (P' c).2.attrs k v (by omega)
        rw [if_pos (by omega)]
        simp only [map_some_get hc, bind_some, hg, hn, hr]
        rw [if_pos trivial, w64 (by omega) (by omega), kst_set hcm]
        refine .inr ⟨_, rfl, ⟨j + 1, _, rfl, by omega, fun i => ?_⟩, by simp only; omega, fun _ h => h⟩
        by_cases e : i = c
        · subst e
          rw [upd_same]
          show r.length ≤ _
          omega
        · rw [upd_ne e]
          have := hP' i
          omega
      · rw [if_neg (by omega)]
        exact .inl ⟨_, rfl, _, rfl⟩) (l.map some, ((12 : Int), on, wi, k, v, []), (0 : Int), F.kst P) ⟨0, P, rfl, Nat.zero_le _, fun i => by have := hP i; omega⟩
    obtain ⟨P', rfl⟩ := h2
    rw [h1, bind_some]
    exact ⟨_, _, rfl⟩
end
section
variable {t : List Node}
theorem P0_attrs (hR : RT t) (i : Nat) : (P0 t i).2.attrs.length ≤ 1000 := by
  show (nd0 t i).attrs.length ≤ 1000
  unfold nd0
  cases hv : t[i]? with
  | none => simp
  | some v =>
    have hN := hR.node i v hv
    simp only [Option.getD_some]
    by_cases h3 : v.kind = 3
    · have := (hN.k3 h3).2.1
      omega
    · rw [(hN.k4 h3).2]; simp
theorem stepA_ex (hR : RT t) {on : List Int} (hl : on.length ≤ 2147483647) (k v : List UInt8) (hk : k.length ≤ 2147483647) :
    ∃ b P', m_spec_forest_step_a (((), (t.length : Int), false), ((12 : Int), on, [], k, v, []), (List.range t.length).map some, (FT t).kst (P0 t)) = some (b, ((), (t.length : Int), false), (List.range t.length).map some, (FT t).kst P') ∧
      (b = true → ∃ l : List Nat, on = intsN l ∧ (∀ c ∈ l, 1 ≤ c ∧ c < t.length) ∧ l.Nodup ∧ ∀ c ∈ l, (nd0 t c).kind = 3) := by
  have hlen := hR.len
  obtain ⟨r1, b1, h1, h1'⟩ := chosen_nat (t.length : Int) false (on := on) (n := t.length) hl
  obtain ⟨r2, b2, h2, h2'⟩ := chosen_nat (t.length : Int) false (on := []) (n := t.length) (by simp)
  simp only [m_spec_forest_step_a, h1, h2, bind_some, cond_dec]
  cases b1 with
  | false => exact ⟨_, _, rfl, fun h => by cases h⟩
  | true =>
    cases b2 with
    | false => exact ⟨_, _, rfl, fun h => by cases h⟩
    | true =>
      obtain ⟨l, e1, rfl, g1, g2⟩ := h1' rfl
      simp only [Bool.not_true, cond_false, Bool.false_eq_true, if_false]
      by_cases e0 : ((l.map some).length : Int) = 0
      · rw [if_pos e0]; exact ⟨_, _, rfl, fun h => by cases h⟩
      rw [if_neg e0]
      have hds : Ds t l := ⟨fun c hc => (g1 c hc).2, g2⟩
      have hll := hds.len hR.len
      obtain ⟨b3, h3, h3'⟩ := are_ex (F := FT t) (P := P0 t) (on := l) (fun c hc => (g1 c hc).2) (by omega)
      rw [if_neg (by decide), if_neg (by decide), if_neg (by decide), if_neg (by decide), if_neg (by decide), if_neg (by decide), if_neg (by decide), if_neg (by decide), if_neg (by decide), if_neg (by decide), if_neg (by decide), h3, bind_some]
      cases b3 with
      | false => exact ⟨_, _, rfl, fun h => by cases h⟩
      | true =>
        obtain ⟨b4, P', h4⟩ := attributes_ex (F := FT t) (P := P0 t) (l := l) (fun c hc => (g1 c hc).2) (by omega) (P0_attrs hR) on [] k v hk
        simp only [if_true, h4, bind_some]
        exact ⟨_, _, rfl, fun _ => ⟨l, e1, g1, g2, h3' rfl⟩⟩
theorem sureA_eq (hf : fits1 t = true) {on : List Int} (hl : on.length ≤ 2147483647) (k v : List UInt8) (hk : k.length ≤ 2147483647) :
    ∃ b, m_laws_sure7_a (t, (12 : Int), on, [], k, v, []) = some b ∧ (b = true → RT t ∧ ∃ l : List Nat, on = intsN l ∧ (∀ c ∈ l, 1 ≤ c ∧ c < t.length) ∧ l.Nodup ∧ ∀ c ∈ l, (nd0 t c).kind = 3) := by
  obtain ⟨n, hb, hn⟩ := big_ex
  obtain ⟨b0, h0, h0'⟩ := Right_ex t hf
  suffices h : ∃ out at' b S, m_spec_Changed_a (t, [((12 : Int), on, [], k, v, [])], []) = some (out, at', b, S) ∧ (b = true → RT t ∧ ∃ l : List Nat, on = intsN l ∧ (∀ c ∈ l, 1 ≤ c ∧ c < t.length) ∧ l.Nodup ∧ ∀ c ∈ l, (nd0 t c).kind = 3) by
    obtain ⟨out, at', b, S, g1, g2⟩ := h
    refine ⟨b, ?_, g2⟩
    have : m_spec_Changed_a_f (t, [((12 : Int), on, [], k, v, [])]) = some (out, at', b) := by
      show (m_spec_Changed_a (t, [((12 : Int), on, [], k, v, [])], [])).map _ = _
      rw [g1]; rfl
    simp only [m_laws_sure7_a, this, bind_some]
  simp only [m_spec_Changed_a, h0, bind_some, cond_dec]
  cases b0 with
  | false => exact ⟨_, _, _, _, rfl, fun h => by cases h⟩
  | true =>
    have hR := h0' rfl
    have hlen := hR.len
    simp only [Bool.not_true, cond_false, Bool.false_eq_true, if_false, knots_eq hR, bind_some]
    obtain ⟨b1, P', h1, h1'⟩ := stepA_ex hR hl k v hk
    have hat : atI [((12 : Int), on, ([] : List Int), k, v, ([] : List (List UInt8)))] (0 : Int) = some ((12 : Int), on, [], k, v, []) := rfl
    cases b1 with
    | false =>
      have st : m_spec_Changed_a_0 (t, [((12 : Int), on, [], k, v, [])], ((), (t.length : Int), false), (0 : Int), (FT t).kst (P0 t), (List.range t.length).map some) = some (.out (.inr ([], [], false, (FT t).kst P'))) := by
        simp only [m_spec_Changed_a_0, cond_dec, hat, bind_some, h1]
        rw [if_pos (by simp)]
        rfl
      rw [loopO_out st]
      exact ⟨_, _, _, _, rfl, fun h => by cases h⟩
    | true =>
      obtain ⟨l, e1, e2, e3, e4⟩ := h1' rfl
      have st : m_spec_Changed_a_0 (t, [((12 : Int), on, [], k, v, [])], ((), (t.length : Int), false), (0 : Int), (FT t).kst (P0 t), (List.range t.length).map some) = some (.nx (t, [((12 : Int), on, [], k, v, [])], ((), (t.length : Int), false), (1 : Int), (FT t).kst P', (List.range t.length).map some)) := by
        simp only [m_spec_Changed_a_0, cond_dec, hat, bind_some, h1]
        rw [if_pos (by simp)]
        rfl
      have st2 : m_spec_Changed_a_0 (t, [((12 : Int), on, [], k, v, [])], ((), (t.length : Int), false), (1 : Int), (FT t).kst P', (List.range t.length).map some) = some (.out (.inl (t, ((), (t.length : Int), false), (FT t).kst P', (List.range t.length).map some))) := by
        simp only [m_spec_Changed_a_0, cond_dec]
        rw [if_neg (by simp)]
      have hfill := fill_eq (t.length : Int) false ((FT t).kst P') ((List.range t.length).map some) (m := t.length) (by omega) t.length 0 rfl (Nat.zero_le _)
      have hfill' : loopO m_spec_Changed_a_1 (((), (t.length : Int), false), List.replicate (Int.toNat (t.length : Int)) (0 : Int), (0 : Int), (FT t).kst P', (List.range t.length).map some) = some (((), (t.length : Int), false), List.replicate t.length (-1), (FT t).kst P', (List.range t.length).map some) := hfill
      have hz : ((List.range t.length).map some)[0]? = some (some 0) := by
        have := hR.pos
        rw [List.getElem?_map, List.getElem?_range hR.pos]; rfl
      have hsz : sz t 0 ≤ n := by rw [hR.root]; omega
      have hids : (idsF (FT t).kids n 0).length = t.length := by rw [ids_tree hR n 0 hR.pos hsz, List.length_range', hR.root]
      have hli := listed_eq (P := P') (FT_ok hR) n 0 [] (List.replicate t.length (-1)) hR.pos (ht_kids hR n 0 hR.pos hsz) (by rw [hids]; simp; omega) (by simp; omega)
      rw [loopO_nx st, loopO_out st2, bind_some]
      simp only [selim]
      rw [if_pos ⟨by omega, by omega, by omega⟩, hfill', bind_some]
      simp only [atI_zero, hz, bind_some, show Int.toNat 0 = 0 from rfl, hb, hli]
      exact ⟨_, _, _, _, rfl, fun _ => ⟨hR, l, e1, e2, e3, e4⟩⟩
end
end Go.Proofs.YtimdfakgjkjejaaGreat.V
set_option linter.unusedVariables false
set_option linter.unusedSimpArgs false
namespace Go.Proofs.YtimdfakgjkjejaaGreat.V
open Go
def vl (xa : List Attr) (k : List UInt8) : Option (List UInt8) := (fk (xa.map (·.key)) k).bind fun j => (xa[j]?).map (·.val)
theorem vl_some {xa : List Attr} {k : List UInt8} {j : Nat} {a : Attr} (h : fk (xa.map (·.key)) k = some j) (ha : xa[j]? = some a) : vl xa k = some a.val := by
  simp [vl, h, ha]
theorem vl_none {xa : List Attr} {k : List UInt8} : vl xa k = none ↔ fk (xa.map (·.key)) k = none := by
  unfold vl
  cases h : fk (xa.map (·.key)) k with
  | none => simp
  | some j =>
    have := (fk_some.1 h).1
    rw [List.getElem?_map] at this
    obtain ⟨a, ha, _⟩ := Option.map_eq_some_iff.1 this
    simp [ha]
theorem attr_vl (u : Node) (k : List UInt8) (h : u.attrs.length ≤ 1000) : m_spec_Attr (u, k) = some (match vl u.attrs k with | some v => (v, true) | none => ([], false)) := by
  simp only [m_spec_Attr]
  have key : ∀ n i, u.attrs.length - i = n → i ≤ u.attrs.length → (∀ j, j < i → (u.attrs.map (·.key))[j]? ≠ some k) → loopO m_spec_Attr_0 (k, u, (i : Int)) = some (match vl u.attrs k with | some v => .inr (v, true) | none => .inl ()) := by
    intro n
    induction n with
    | zero =>
      intro i hi h1 h2
      have : i = u.attrs.length := by omega
      subst this
      refine loopO_out ?_
      have hn : vl u.attrs k = none := by
        rw [vl_none, fk_none]
        intro hk
        obtain ⟨j, hj⟩ := List.mem_iff_getElem?.1 hk
        have := (List.getElem?_eq_some_iff.1 hj).1
        exact h2 j (by simpa using this) hj
      simp only [m_spec_Attr_0, cond_dec]
      rw [if_neg (by omega), hn]
    | succ n ih =>
      intro i hi h1 h2
      obtain ⟨a, hia⟩ := get_lt (l := u.attrs) (k := i) (by omega)
      by_cases e : a.key = k
      · have hv : vl u.attrs k = some a.val := vl_some (fk_some.2 ⟨by rw [List.getElem?_map, hia, ← e]; rfl, h2⟩) hia
        refine loopO_out ?_
        simp only [m_spec_Attr_0, cond_dec, atI_nat, hia, bind_some]
        rw [if_pos (by omega), if_pos e, hv]
      · have step : m_spec_Attr_0 (k, u, (i : Int)) = some (.nx (k, u, ((i + 1 : Nat) : Int))) := by
          simp only [m_spec_Attr_0, cond_dec, atI_nat, hia, bind_some]
          rw [if_pos (by omega), if_neg e, w64 (by omega) (by omega)]
          rfl
        rw [loopO_nx step]
        refine ih (i + 1) (by omega) (by omega) fun j hj hk => ?_
        rcases Nat.lt_succ_iff_lt_or_eq.1 hj with hj | rfl
        · exact h2 j hj hk
        · rw [List.getElem?_map, hia] at hk
          exact e (by simpa using hk)
  have h0 := key u.attrs.length 0 (by omega) (Nat.zero_le _) (fun j hj => by omega)
  rw [show loopO m_spec_Attr_0 (k, (⟨u.kind, u.tag, u.text, u.attrs, u.size⟩ : Node), (0 : Int)) = _ from h0, bind_some]
  cases vl u.attrs k <;> rfl
theorem aH_key (xa : List HAttr) : (xa.map attrH).map (·.key) = hk xa := by simp [attrH, hk]
def Uk (k : List UInt8) (xa : List HAttr) : Prop := ∀ i j : Nat, (hk xa)[i]? = some k → (hk xa)[j]? = some k → i = j
theorem hk_set {xa : List HAttr} {j : Nat} {a : HAttr} (v : List UInt8) (ha : xa[j]? = some a) : hk (xa.set j ⟨a.ns, a.key, v⟩) = hk xa := by
  unfold hk
  rw [List.map_set]
  apply List.ext_getElem?
  intro i
  by_cases e : j = i
  · subst e
    have hl := (List.getElem?_eq_some_iff.1 ha).1
    rw [List.getElem?_set_self (by simpa using hl), List.getElem?_map, ha]
    rfl
  · rw [List.getElem?_set_ne e]
theorem setA_fk (k v : List UInt8) (xa : List HAttr) : ∃ (j : Nat) (a : HAttr), fk (hk (setA k v xa)) k = some j ∧ (setA k v xa)[j]? = some a ∧ a.val = v := by
  unfold setA
  cases hf : fk (hk xa) k with
  | none =>
    refine ⟨xa.length, ⟨[], k, v⟩, fk_some.2 ⟨?_, fun i hi => ?_⟩, by simp, rfl⟩
    · simp [hk]
    · unfold hk
      rw [List.map_append, List.getElem?_append_left (by simpa using hi)]
      intro h
      exact fk_none.1 hf (List.mem_of_getElem? h)
  | some j =>
    have hq := (fk_some.1 hf).1
    have hql := (List.getElem?_eq_some_iff.1 hq).1
    rw [hk_len] at hql
    obtain ⟨a, hqa⟩ := get_lt hql
    simp only [hqa]
    exact ⟨j, _, by rw [hk_set v hqa]; exact hf, List.getElem?_set_self hql, rfl⟩
theorem setA_uk {k v : List UInt8} {xa : List HAttr} (h : Uk k xa) : Uk k (setA k v xa) := by
  unfold setA
  cases hf : fk (hk xa) k with
  | none =>
    have hn := fk_none.1 hf
    have key : ∀ i : Nat, (hk (xa ++ [⟨[], k, v⟩]))[i]? = some k → i = xa.length := fun i hi => by
      unfold hk at hi
      rw [List.map_append] at hi
      by_cases e : i < xa.length
      · rw [List.getElem?_append_left (by simpa using e)] at hi
        exact absurd (List.mem_of_getElem? hi) hn
      · have := (List.getElem?_eq_some_iff.1 hi).1
        simp at this
        omega
    exact fun i j hi hj => by rw [key i hi, key j hj]
  | some j =>
    have hq := (fk_some.1 hf).1
    have hql := (List.getElem?_eq_some_iff.1 hq).1
    rw [hk_len] at hql
    obtain ⟨a, hqa⟩ := get_lt hql
    simp only [hqa]
    unfold Uk
    rw [hk_set v hqa]
    exact h
theorem rmA_no {k : List UInt8} {xb : List HAttr} (hu : Uk k xb) {j : Nat} (hf : fk (hk xb) k = some j) : k ∉ hk (rmA k xb) ∧ (rmA k xb).length = xb.length - 1 := by
  have hq := (fk_some.1 hf).1
  have hql := (List.getElem?_eq_some_iff.1 hq).1
  rw [hk_len] at hql
  obtain ⟨z, hz⟩ := get_lt (l := xb) (k := xb.length - 1) (by omega)
  simp only [rmA, hf, hz]
  refine ⟨fun hin => ?_, by simp⟩
  obtain ⟨b, hb, hbk⟩ := List.mem_map.1 hin
  obtain ⟨i, hi⟩ := List.mem_iff_getElem?.1 hb
  rw [List.getElem?_take] at hi
  split at hi
  · rename_i hlt
    rw [List.getElem?_set_ne (by omega)] at hi
    by_cases e : j = i
    · subst e
      rw [List.getElem?_set_self hql] at hi
      have hzk : z.key = k := by
        have : (⟨z.ns, z.key, z.val⟩ : HAttr) = b := Option.some.inj hi
        rw [← hbk, ← this]
      have := hu _ _ (by rw [hk_get hz, hzk]) hq
      omega
    · rw [List.getElem?_set_ne e] at hi
      have := hu _ _ (by rw [hk_get hi, hbk]) hq
      omega
  · cases hi
def relab (N : Nat → Node) (y : Nat) (v : Node) : Node := ⟨(N y).kind, (N y).tag, (N y).text, (N y).attrs, v.size⟩
theorem zip_flat {α β γ δ : Type} (f : α → β → γ) (a : δ → List α) (b : δ → List β) : ∀ l : List δ, (∀ x ∈ l, (a x).length = (b x).length) → List.zipWith f (l.flatMap a) (l.flatMap b) = l.flatMap fun x => List.zipWith f (a x) (b x)
  | [], _ => rfl
  | x :: l, h => by
    simp only [List.flatMap_cons]
    rw [List.zipWith_append (h x (by simp)), zip_flat f a b l fun y hy => h y (by simp [hy])]
theorem nodes_relab {K : Nat → List Nat} {N N' : Nat → Node} : ∀ n x : Nat, nodesF K N' n x = List.zipWith (relab N') (idsF K n x) (nodesF K N n x)
  | 0, _ => rfl
  | n + 1, x => by
    have hz := zip_flat (relab N') (idsF K n) (nodesF K N n) (K x) fun y _ => (nodesF_len n y).symm
    have he : (K x).flatMap (nodesF K N' n) = List.zipWith (relab N') ((K x).flatMap (idsF K n)) ((K x).flatMap (nodesF K N n)) := by
      rw [hz]
      exact congrArg (fun f => List.flatMap f (K x)) (funext fun y => nodes_relab n y)
    have hlen : ((K x).flatMap (nodesF K N' n)).length = ((K x).flatMap (nodesF K N n)).length := by
      rw [List.length_flatMap, List.length_flatMap]
      simp only [nodesF_len]
    simp only [nodesF, idsF, List.zipWith_cons_cons, relab, hlen]
    rw [he]
section
variable {t : List Node} {l : List Nat}
def out (t : List Node) (n : Nat) (L : Nat → HN) : List Node := nodesF (FT t).kids (fun i => kn (L i)) n 0
theorem out_eq (hR : RT t) {n : Nat} (hn : 1000000 ≤ n) (L : Nat → HN) : out t n L = List.zipWith (relab fun i => kn (L i)) (List.range' 0 t.length) t := by
  have hlen := hR.len
  have hsz : sz t 0 ≤ n := by rw [hR.root]; omega
  unfold out
  rw [nodes_relab (N := fun i => kn (bs0 t i)), ids_tree hR n 0 hR.pos hsz, nodes_tree hR n 0 hR.pos hsz, hR.root, List.drop_zero, List.take_length]
theorem out_len (hR : RT t) {n : Nat} (hn : 1000000 ≤ n) (L : Nat → HN) : (out t n L).length = t.length := by
  rw [out_eq hR hn]; simp
theorem out_get (hR : RT t) {n : Nat} (hn : 1000000 ≤ n) (L : Nat → HN) {i : Nat} {v : Node} (hv : t[i]? = some v) : (out t n L)[i]? = some (relab (fun i => kn (L i)) i v) := by
  have hi := (List.getElem?_eq_some_iff.1 hv).1
  rw [out_eq hR hn, List.getElem?_zipWith, hv, List.getElem?_range' (by omega)]
  simp
abbrev Stp7 : Type := Int × List Int × List Int × List UInt8 × List UInt8 × List (List UInt8)
theorem onL_len (f : List HAttr → List HAttr) (L : Nat → HN) {m : Nat} (h : ∀ i, (L i).attrs.length ≤ m) (hf : ∀ xa : List HAttr, (f xa).length ≤ xa.length + 1) (i : Nat) : (onL l f L i).attrs.length ≤ m + 1 := by
  unfold onL
  split
  · have := hf (L i).attrs
    have := h i
    show (f (L i).attrs).length ≤ _
    omega
  · have := h i; omega
theorem add_nil_eq (hR : RT t) (h : Ds t l) : m_goquery_Selection_AddNodes_nil ((), l.map some) = some (l.map some) := by
  have h3 := h.len hR.len
  have hn : ∀ (i j : Nat) (v w : Int), i < j → (intsN l)[i]? = some v → (intsN l)[j]? = some w → v.toNat ≠ w.toNat := fun i j v w hij hv hw e => by
    obtain ⟨a, ha, rfl⟩ := intsN_get hv
    obtain ⟨b, hb, rfl⟩ := intsN_get hw
    obtain ⟨x1, x2⟩ := List.getElem?_eq_some_iff.1 ha
    obtain ⟨y1, y2⟩ := List.getElem?_eq_some_iff.1 hb
    have := List.pairwise_iff_getElem.1 h.nd i j x1 y1 hij
    rw [x2, y2] at this
    exact this (by simpa using e)
  have happ := appSmall_eq (intsN l) (by simp [intsN]; omega) hn
  rw [pts_intsN] at happ
  simp only [m_goquery_Selection_AddNodes_nil, happ, m_goquery_pushStack, bind_some]
theorem round12 (hR : RT t) (h : Ds t l) {L : Nat → HN} (ha : ∀ i, (L i).attrs.length ≤ 1000) {ss : List Stp7} {i : Nat} {k v : List UInt8} (hi : ss[i]? = some ((12 : Int), intsN l, [], k, v, [])) (hl : ss.length ≤ 1000) :
    m_impl_Changed_0 ((ptrs t, ()), ss, (ss.length : Int), (i : Int), (FT t).st L) = some (.nx ((ptrs t, ()), ss, (ss.length : Int), ((i + 1 : Nat) : Int), (FT t).st (onL l (setA k v) L))) := by
  have hil := (List.getElem?_eq_some_iff.1 hi).1
  have h3 := h.len hR.len
  have hnil : m_impl_these (ptrs t, []) = some ([], true) := these_nat hR (l := []) ⟨by simp, by simp⟩
  simp only [m_impl_Changed_0, cond_dec, atI_nat, hi, bind_some, these_nat hR h, hnil, Bool.not_true, cond_false, add_nil_eq hR h, m_impl_marks]
  rw [if_pos (by omega), if_pos trivial, setAll_eq (F := FT t) h.nd h.bd ha (by omega), bind_some, bind_some, w64 (by omega) (by omega)]
  rfl
theorem round13 (hR : RT t) (h : Ds t l) {L : Nat → HN} (ha : ∀ i, (L i).attrs.length ≤ 1000) {ss : List Stp7} {i : Nat} {k v : List UInt8} (hi : ss[i]? = some ((13 : Int), intsN l, [], k, v, [])) (hl : ss.length ≤ 1000) :
    m_impl_Changed_0 ((ptrs t, ()), ss, (ss.length : Int), (i : Int), (FT t).st L) = some (.nx ((ptrs t, ()), ss, (ss.length : Int), ((i + 1 : Nat) : Int), (FT t).st (onL l (rmA k) L))) := by
  have hil := (List.getElem?_eq_some_iff.1 hi).1
  have h3 := h.len hR.len
  have hnil : m_impl_these (ptrs t, []) = some ([], true) := these_nat hR (l := []) ⟨by simp, by simp⟩
  simp only [m_impl_Changed_0, cond_dec, atI_nat, hi, bind_some, these_nat hR h, hnil, Bool.not_true, cond_false, add_nil_eq hR h, m_impl_marks]
  rw [if_pos (by omega), if_neg (by decide), if_pos trivial, rmAll_eq (F := FT t) h.nd h.bd ha (by omega), bind_some, bind_some, w64 (by omega) (by omega)]
  rfl
theorem begun_eq (hf : fits1 t = true) (hR : RT t) : m_impl_begun (t, []) = some ((ptrs t, ()), true, (FT t).st (bs0 t)) := by
  have h1 := hR.pos
  have hz : (ptrs t)[Int.toNat 0]? = some (some 0) := ptrs_get h1
  simp only [m_impl_begun, grown_eq t hf hR, bind_some, Bool.not_true, cond_false, atI_zero, ptrs_get h1, hz]
  simp only [m_goquery_NewDocumentFromNode, m_goquery_newDocument, m_goquery_newSingleSelection, bind_some, m_goquery_Selection_Eq_nil, cond_dec, List.length_singleton]
  rw [if_neg (by omega), if_pos (by omega), ← store_st hR]
  simp only [m_goquery_newEmptySelection, bind_some]
theorem changed_of (hf : fits1 t = true) (hR : RT t) {n : Nat} (hb : big = n) (hn : 1000000 ≤ n) {ss : List Stp7} {L : Nat → HN} (ha : ∀ i, (L i).attrs.length ≤ 1000)
    (hl : loopO m_impl_Changed_0 ((ptrs t, ()), ss, (ss.length : Int), (0 : Int), (FT t).st (bs0 t)) = some (.inl ((ptrs t, ()), (FT t).st L))) :
    ∃ at', m_impl_Changed_f (t, ss) = some (out t n L, at', true) := by
  have hlen := hR.len
  have hsz : sz t 0 ≤ n := by rw [hR.root]; omega
  have hids : (idsF (FT t).kids n 0).length = t.length := by rw [ids_tree hR n 0 hR.pos hsz, List.length_range', hR.root]
  have hends := ends_eq (F := FT t) (L := L) (FT_ok hR) (fun i _ => by have := ha i; omega) hb (m := List.range t.length) (r := 0) (by simp [hR.pos]) hR.pos (ht_kids hR n 0 hR.pos hsz) (by rw [hids]; omega) (by simp; omega)
  have hp : ptrs t = (List.range t.length).map some := rfl
  refine ⟨(List.range t.length).map (posL (idsF (FT t).kids n 0)), ?_⟩
  show (m_impl_Changed (t, ss, [])).map _ = _
  have : m_impl_Changed (t, ss, []) = some (out t n L, (List.range t.length).map (posL (idsF (FT t).kids n 0)), true, (FT t).st L) := by
    simp only [m_impl_Changed, begun_eq hf hR, bind_some, Bool.not_true, cond_false, hl]
    simp only [selim, hp, hends, bind_some]
    rfl
  rw [this]; rfl
theorem changed_set (hf : fits1 t = true) (hR : RT t) (h : Ds t l) {n : Nat} (hb : big = n) (hn : 1000000 ≤ n) (k v : List UInt8) :
    ∃ at', m_impl_Changed_f (t, [((12 : Int), intsN l, [], k, v, [])]) = some (out t n (onL l (setA k v) (bs0 t)), at', true) := by
  have hb0 := bs0_attrs hR
  refine changed_of hf hR hb hn (fun i => ?_) ?_
  · have := onL_len (l := l) (setA k v) (bs0 t) hb0 (setA_len k v) i
    omega
  · have r1 := round12 hR h (L := bs0 t) (fun i => by have := hb0 i; omega) (ss := [((12 : Int), intsN l, [], k, v, [])]) (i := 0) rfl (by simp)
    rw [show (0 : Int) = ((0 : Nat) : Int) from rfl, loopO_nx r1]
    refine loopO_out ?_
    simp only [m_impl_Changed_0, cond_dec]
    rw [if_neg (by simp)]
theorem rmA_len (k : List UInt8) (xb : List HAttr) : (rmA k xb).length ≤ xb.length + 1 := by
  unfold rmA
  split
  · omega
  · split
    · simp
      omega
    · omega
theorem changed_rm (hf : fits1 t = true) (hR : RT t) (h : Ds t l) {n : Nat} (hb : big = n) (hn : 1000000 ≤ n) (k v : List UInt8) :
    ∃ at', m_impl_Changed_f (t, [((12 : Int), intsN l, [], k, v, []), ((13 : Int), intsN l, [], k, [], [])]) = some (out t n (onL l (rmA k) (onL l (setA k v) (bs0 t))), at', true) := by
  have hb0 := bs0_attrs hR
  have hb1 : ∀ i, (onL l (setA k v) (bs0 t) i).attrs.length ≤ 21 := fun i => onL_len (l := l) (setA k v) (bs0 t) hb0 (setA_len k v) i
  refine changed_of hf hR hb hn (fun i => ?_) ?_
  · have := onL_len (l := l) (rmA k) _ hb1 (rmA_len k) i
    omega
  · have r1 := round12 hR h (L := bs0 t) (fun i => by have := hb0 i; omega) (ss := [((12 : Int), intsN l, [], k, v, []), ((13 : Int), intsN l, [], k, [], [])]) (i := 0) rfl (by simp)
    have r2 := round13 hR h (L := onL l (setA k v) (bs0 t)) (fun i => by have := hb1 i; omega) (ss := [((12 : Int), intsN l, [], k, v, []), ((13 : Int), intsN l, [], k, [], [])]) (i := 1) rfl (by simp)
    rw [show (0 : Int) = ((0 : Nat) : Int) from rfl, loopO_nx r1, loopO_nx r2]
    refine loopO_out ?_
    simp only [m_impl_Changed_0, cond_dec]
    rw [if_neg (by simp)]
end
end Go.Proofs.YtimdfakgjkjejaaGreat.V
set_option linter.unusedVariables false
set_option linter.unusedSimpArgs false
namespace Go.Proofs.YtimdfakgjkjejaaGreat.V
open Go
theorem isPlace_eq {l : List Nat} (hl : l.length ≤ 1000000) (x : Nat) : m_laws_isPlace (intsN l, (x : Int)) = some (decide (x ∈ l)) := by
  have key : ∀ d j, l.length - j = d → j ≤ l.length → loopO m_laws_isPlace_0 (intsN l, (x : Int), (j : Int)) = some (if x ∈ l.drop j then .inr true else .inl ()) := by
    intro d
    induction d with
    | zero =>
      intro j hd hj
      refine loopO_out ?_
      simp only [m_laws_isPlace_0, cond_dec]
      rw [if_neg (by simp [intsN]; omega), List.drop_of_length_le (by omega), if_neg (by simp)]
    | succ d ih =>
      intro j hd hj
      obtain ⟨c, hc⟩ := get_lt (l := l) (k := j) (by omega)
      have hg : (intsN l)[j]? = some (c : Int) := by rw [intsN, List.getElem?_map, hc]; rfl
      have hdr : l.drop j = c :: l.drop (j + 1) := by
        obtain ⟨h1, h2⟩ := List.getElem?_eq_some_iff.1 hc
        rw [← h2]; exact List.drop_eq_getElem_cons h1
      by_cases e : c = x
      · refine loopO_out ?_
        simp only [m_laws_isPlace_0, cond_dec, atI_nat, hg, bind_some]
        rw [if_pos (by simp [intsN]; omega), if_pos (by omega), hdr, if_pos (by simp [e])]
      · have step : m_laws_isPlace_0 (intsN l, (x : Int), (j : Int)) = some (.nx (intsN l, (x : Int), ((j + 1 : Nat) : Int))) := by
          simp only [m_laws_isPlace_0, cond_dec, atI_nat, hg, bind_some]
          rw [if_pos (by simp [intsN]; omega), if_neg (by omega), w64 (by omega) (by omega)]
          rfl
        rw [loopO_nx step, ih (j + 1) (by omega) (by omega), hdr]
        simp only [List.mem_cons, show ¬ x = c from fun h => e h.symm, false_or]
  have h0 := key l.length 0 rfl (Nat.zero_le _)
  have h0' : loopO m_laws_isPlace_0 (intsN l, (x : Int), (0 : Int)) = _ := h0
  simp only [m_laws_isPlace, h0', bind_some, List.drop_zero]
  by_cases e : x ∈ l
  · rw [if_pos e]; simp [selim, e]
  · rw [if_neg e]; simp [selim, e]
section
variable {t : List Node} {l : List Nat}
theorem on_base (hR : RT t) {i : Nat} {u : Node} (hu : t[i]? = some u) (h3 : u.kind = 3) : bs0 t i = ⟨none, none, none, none, none, 3, 0, u.tag, [], u.attrs.map hattr⟩ := by
  simp only [bs0, hu, base]
  rw [if_neg (by omega), if_neg (by omega), if_neg (by omega), if_neg (by omega)]
theorem uk_of {xa : List Attr} (hU : UA xa) (k : List UInt8) : Uk k (xa.map hattr) := by
  intro i j hi hj
  have hkeys : hk (xa.map hattr) = xa.map (·.key) := by simp [hk, hattr]
  rw [hkeys, List.getElem?_map] at hi hj
  obtain ⟨a, ha1, ha2⟩ := Option.map_eq_some_iff.1 hi
  obtain ⟨b, hb1, hb2⟩ := Option.map_eq_some_iff.1 hj
  rcases Nat.lt_trichotomy i j with h | h | h
  · exact absurd (ha2.trans hb2.symm) (hU.uq j i b a h hb1 ha1)
  · exact h
  · exact absurd (hb2.trans ha2.symm) (hU.uq i j a b h ha1 hb1)
theorem wr_on (hR : RT t) {n : Nat} (hn : 1000000 ≤ n) (k v : List UInt8) {i : Nat} {u : Node} (hu : t[i]? = some u) (h3 : u.kind = 3) (hin : i ∈ l) :
    ∃ u1 u2 : Node, (out t n (onL l (setA k v) (bs0 t)))[i]? = some u1 ∧ (out t n (onL l (rmA k) (onL l (setA k v) (bs0 t))))[i]? = some u2 ∧ m_spec_Attr (u1, k) = some (v, true) ∧ m_spec_Attr (u2, k) = some ([], false) ∧ u1.attrs.length ≤ 21 ∧ 1 ≤ u1.attrs.length ∧ u2.attrs.length = u1.attrs.length - 1 := by
  have hN := hR.node i u hu
  have hla := (hN.k3 h3).2.1
  obtain ⟨j, a, f1, f2, f3⟩ := setA_fk k v (u.attrs.map hattr)
  have hsl := setA_len k v (u.attrs.map hattr)
  rw [List.length_map] at hsl
  obtain ⟨g1, g2⟩ := rmA_no (setA_uk (v := v) (uk_of (hN.k5 h3) k)) f1
  have hjl := (List.getElem?_eq_some_iff.1 f2).1
  have e1 : onL l (setA k v) (bs0 t) i = ⟨none, none, none, none, none, 3, 0, u.tag, [], setA k v (u.attrs.map hattr)⟩ := by
    simp only [onL, if_pos hin, on_base hR hu h3, HN.wa]
  have e2 : onL l (rmA k) (onL l (setA k v) (bs0 t)) i = ⟨none, none, none, none, none, 3, 0, u.tag, [], rmA k (setA k v (u.attrs.map hattr))⟩ := by
    have : onL l (rmA k) (onL l (setA k v) (bs0 t)) i = (onL l (setA k v) (bs0 t) i).wa (rmA k (onL l (setA k v) (bs0 t) i).attrs) := if_pos hin
    rw [this, e1]; rfl
  have k1 : kn (onL l (setA k v) (bs0 t) i) = ⟨3, u.tag, [], (setA k v (u.attrs.map hattr)).map attrH, 0⟩ := by rw [e1]; rfl
  have k2 : kn (onL l (rmA k) (onL l (setA k v) (bs0 t)) i) = ⟨3, u.tag, [], (rmA k (setA k v (u.attrs.map hattr))).map attrH, 0⟩ := by rw [e2]; rfl
  refine ⟨_, _, out_get hR hn _ hu, out_get hR hn _ hu, ?_, ?_, ?_, ?_, ?_⟩
  · simp only [relab, k1]
    rw [attr_vl _ _ (by simp only [List.length_map]; omega), vl_some (j := j) (a := attrH a) (by rw [aH_key]; exact f1) (by rw [List.getElem?_map, f2]; rfl)]
    show some (a.val, true) = _
    rw [f3]
  · simp only [relab, k2]
    rw [attr_vl _ _ (by simp only [List.length_map]; omega), vl_none.2 (by rw [aH_key]; exact fk_none.2 g1)]
  · simp only [relab, k1, List.length_map]; omega
  · simp only [relab, k1, List.length_map]; omega
  · simp only [relab, k1, k2, List.length_map]; omega
theorem wr_off (hR : RT t) {n : Nat} (hn : 1000000 ≤ n) (k v : List UInt8) {i : Nat} {u : Node} (hu : t[i]? = some u) (hin : i ∉ l) :
    ∃ u1 u2 : Node, (out t n (onL l (setA k v) (bs0 t)))[i]? = some u1 ∧ (out t n (onL l (rmA k) (onL l (setA k v) (bs0 t))))[i]? = some u2 ∧ m_spec_Attr (u1, k) = m_spec_Attr (u, k) ∧ m_spec_Attr (u2, k) = m_spec_Attr (u, k) ∧ u1.attrs = u.attrs ∧ u.attrs.length ≤ 20 := by
  have hN := hR.node i u hu
  have hla : u.attrs.length ≤ 20 := by
    by_cases h3 : u.kind = 3
    · exact (hN.k3 h3).2.1
    · rw [(hN.k4 h3).2]; simp
  have e1 : onL l (setA k v) (bs0 t) i = bs0 t i := if_neg hin
  have e2 : onL l (rmA k) (onL l (setA k v) (bs0 t)) i = bs0 t i := by
    have : onL l (rmA k) (onL l (setA k v) (bs0 t)) i = onL l (setA k v) (bs0 t) i := if_neg hin
    rw [this, e1]
  refine ⟨_, _, out_get hR hn _ hu, out_get hR hn _ hu, ?_, ?_, ?_, hla⟩
  · simp only [relab, e1, kn_bs0 hR hu]
  · simp only [relab, e2, kn_bs0 hR hu]
  · simp only [relab, e1, kn_bs0 hR hu]
end
theorem fn_attrSet (t : List Node) (on : List Int) (k v : List UInt8) : m_laws_FnAttrSet (t, on, k, v) = some true := by
  simp only [m_laws_FnAttrSet, zz1, bind_some, cond_dec]
  cases hf : fits1 t with
  | false => rfl
  | true =>
    simp only [Bool.not_true, cond_false, Bool.false_eq_true, if_false]
    split
    · rfl
    split
    · rfl
    split
    · rfl
    rename_i c1 c2 c3
    split
    · rfl
    obtain ⟨pb, hp⟩ := plain_ex v (by omega)
    rw [hp, bind_some]
    cases pb with
    | false => rfl
    | true =>
      simp only [Bool.not_true, cond_false, Bool.false_eq_true, if_false]
      split
      · rfl
      obtain ⟨b, h1, h2⟩ := sureA_eq (t := t) (on := on) hf (by omega) k v (by omega)
      rw [h1, bind_some]
      cases b with
      | false => rfl
      | true =>
        obtain ⟨hR, l, rfl, hl2, hl3, hl4⟩ := h2 rfl
        have hlen := hR.len
        obtain ⟨n, hb, hn⟩ := big_ex
        have hds : Ds t l := ⟨fun c hc => (hl2 c hc).2, hl3⟩
        have hll := hds.len hlen
        obtain ⟨a1, q1⟩ := changed_set hf hR hds hb hn k v
        obtain ⟨a2, q2⟩ := changed_rm hf hR hds hb hn k v
        simp only [Bool.not_true, cond_false, Bool.false_eq_true, if_false, q1, q2, bind_some, out_len hR hn]
        rw [if_neg (by simp), if_neg (by simp)]
        obtain ⟨y, h5, h6⟩ := loopO_rule (body := m_laws_FnAttrSet_0) (fun x => ∃ i : Nat, x = (t, intsN l, k, v, out t n (onL l (setA k v) (bs0 t)), out t n (onL l (rmA k) (onL l (setA k v) (bs0 t))), (i : Int)) ∧ i ≤ t.length) (fun _ y => y = .inl ()) (fun x => ((t.length : Int) - x.2.2.2.2.2.2).toNat) (fun x hx => by
          obtain ⟨i, rfl, hi⟩ := hx
          simp only [m_laws_FnAttrSet_0, cond_dec, atI_nat]
          by_cases hil : i < t.length
          · obtain ⟨u, hu⟩ := get_lt hil
            refine .inr ⟨(t, intsN l, k, v, out t n (onL l (setA k v) (bs0 t)), out t n (onL l (rmA k) (onL l (setA k v) (bs0 t))), ((i + 1 : Nat) : Int)), ?_, ⟨i + 1, rfl, by omega⟩, by simp only; omega, fun _ h => h⟩
            rw [if_pos (by omega), w64 (n := (i : Int) + 1) (by omega) (by omega)]
            by_cases hin : i ∈ l
            · have h3 : u.kind = 3 := by
                have := hl4 i hin
                simp only [nd0, hu, Option.getD_some] at this
                exact this
              obtain ⟨u1, u2, w1, w2, w3, w4, w5, w6, w7⟩ := wr_on hR hn k v hu h3 hin
              have hbu : (u.attrs.length) ≤ 1000 := by have := ((hR.node i u hu).k3 h3).2.1; omega
              simp only [w1, w2, hu, bind_some]
              rw [w3, bind_some, attr_vl u k hbu, bind_some, w4, bind_some, isPlace_eq (by omega) i, bind_some, decide_eq_true hin]
              simp only [cond_true, Bool.not_true, cond_false, ne_eq, not_true_eq_false, if_false, Bool.false_eq_true]
              rw [w64 (n := (u1.attrs.length : Int) - 1) (by omega) (by omega), if_neg (by omega)]
              rfl
            · obtain ⟨u1, u2, w1, w2, w3, w4, w5, w6⟩ := wr_off hR hn k v hu hin
              have hat := attr_vl u k (by omega)
              simp only [w1, w2, hu, bind_some]
              rw [w3, hat, bind_some, bind_some, w4, hat, bind_some, isPlace_eq (by omega) i, bind_some, decide_eq_false hin]
              simp only [cond_false, beq_self_eq_true, Bool.not_true, ne_eq, not_true_eq_false, if_false, w5, Bool.false_eq_true]
              rfl
          · rw [if_neg (by omega)]
            exact .inl ⟨_, rfl, rfl⟩) (t, intsN l, k, v, out t n (onL l (setA k v) (bs0 t)), out t n (onL l (rmA k) (onL l (setA k v) (bs0 t))), (0 : Int)) ⟨0, rfl, Nat.zero_le _⟩
        subst h6
        rw [h5]
        rfl
end Go.Proofs.YtimdfakgjkjejaaGreat.V
