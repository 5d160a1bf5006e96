/-
  A tree of nodes as data. Plain facts.
-/
import Derived.Test.YtfmlpodcldhgdaaPClone
import Derived.Test.YtfmlpodcldhgdaaImplK
set_option linter.unusedVariables false
set_option linter.unusedSimpArgs false
namespace Go.Proofs.Ytfmlpodcldhgdaa.V
open Go

def attrH (a : HAttr) : Attr := ⟨a.key, a.val⟩
/-- What a node is, as data. -/
def kn (h : HN) : Node :=
  if h.ty = 2 then ⟨1, [], [], [], 0⟩ else if h.ty = 5 then ⟨2, [], h.data, [], 0⟩ else if h.ty = 1 then ⟨4, [], h.data, [], 0⟩ else if h.ty = 4 then ⟨5, [], h.data, [], 0⟩
  else if h.ty = 3 then ⟨3, h.data, [], h.attrs.map attrH, 0⟩ else ⟨0, [], [], [], 0⟩
def idsF (K : Nat → List Nat) : Nat → Nat → List Nat
  | 0, _ => []
  | n + 1, x => x :: (K x).flatMap (idsF K n)
def nodesF (K : Nat → List Nat) (N : Nat → Node) : Nat → Nat → List Node
  | 0, _ => []
  | n + 1, x => ⟨(N x).kind, (N x).tag, (N x).text, (N x).attrs, 1 + (((K x).flatMap (nodesF K N n)).length : Nat)⟩ :: (K x).flatMap (nodesF K N n)
section
variable {F : Fo} {L : Nat → HN}
theorem kindOf_eq {i : Nat} (hi : i < F.m) (ha : (L i).attrs.length ≤ 1000000) : m_impl_kindOf (some i, F.st L) = some (kn (L i), F.st L) := by
  have hg := Fo.get (F := F) (L := L) hi
  have hty : (F.mk1 L i).ty = (L i).ty := rfl
  have hda : (F.mk1 L i).data = (L i).data := rfl
  have hat : (F.mk1 L i).attrs = (L i).attrs := rfl
  simp only [m_impl_kindOf, bind_some, hg, hty, hda, hat, cond_dec, kn]
  split
  · rfl
  split
  · rfl
  split
  · rfl
  split
  · rfl
  split
  · have key : ∀ d j, (L i).attrs.length - j = d → j ≤ (L i).attrs.length → loopO m_impl_kindOf_0 (⟨0, [], [], [], 0⟩, (3, (L i).data, [], (), 0), i, ((L i).attrs.length : Int), (j : Int), F.st L, ((L i).attrs.take j).map attrH) = some (⟨0, [], [], [], 0⟩, (3, (L i).data, [], (), 0), F.st L, (L i).attrs.map attrH) := by
      intro d
      induction d with
      | zero =>
        intro j hd hj
        refine loopO_out ?_
        simp only [m_impl_kindOf_0, cond_dec]
        rw [if_neg (by omega), List.take_of_length_le (by omega)]
      | succ d ih =>
        intro j hd hj
        obtain ⟨a, hA⟩ := get_lt (l := (L i).attrs) (k := j) (by omega)
        have step : m_impl_kindOf_0 (⟨0, [], [], [], 0⟩, (3, (L i).data, [], (), 0), i, ((L i).attrs.length : Int), (j : Int), F.st L, ((L i).attrs.take j).map attrH) = some (.nx (⟨0, [], [], [], 0⟩, (3, (L i).data, [], (), 0), i, ((L i).attrs.length : Int), ((j + 1 : Nat) : Int), F.st L, ((L i).attrs.take (j + 1)).map attrH)) := by
          simp only [m_impl_kindOf_0, cond_dec, hg, bind_some, hat, atI_nat, hA, Int.toNat_natCast]
          rw [if_pos (by omega), appL_some (by simp; omega), bind_some, w64 (by omega) (by omega)]
          have e2 : (L i).attrs.take (j + 1) = (L i).attrs.take j ++ [a] := by rw [List.take_add_one, hA]; rfl
          rw [e2]
          simp [attrH]
        rw [loopO_nx step]
        exact ih (j + 1) (by omega) (by omega)
    have h := key (L i).attrs.length 0 (by omega) (Nat.zero_le _)
    have h' : loopO m_impl_kindOf_0 (⟨0, [], [], [], 0⟩, (3, (L i).data, [], (), 0), i, ((L i).attrs.length : Int), (0 : Int), F.st L, []) = _ := h
    rw [h', bind_some]
  · rfl
theorem nodesF_len {K : Nat → List Nat} {N : Nat → Node} : ∀ (n x : Nat), (nodesF K N n x).length = (idsF K n x).length
  | 0, _ => rfl
  | n + 1, x => by
    simp only [nodesF, idsF, List.length_cons, List.length_flatMap]
    rw [show (nodesF K N n) = fun y => nodesF K N n y from rfl]
    simp only [nodesF_len n]
theorem szK_ids {K : Nat → List Nat} : ∀ (n x : Nat), (idsF K n x).length = szK K n x
  | 0, _ => rfl
  | n + 1, x => by
    simp only [idsF, szK, List.length_cons, List.length_flatMap]
    rw [show szK K n = fun y => szK K n y from rfl]
    simp only [← szK_ids n]
    omega
/-- A tree, taken. -/
theorem taken_eq (hF : F.ok) (ha : ∀ i, i < F.m → (L i).attrs.length ≤ 1000000) : ∀ (n x : Nat) (T : List Node) (P : List (Option Nat)), x < F.m → Ht F.kids n x → T.length + (idsF F.kids n x).length ≤ 1000000 → P.length + (idsF F.kids n x).length ≤ 1000000 →
    m_impl_taken n (some x, T, P, F.st L) = some (T ++ nodesF F.kids (fun i => kn (L i)) n x, P ++ (idsF F.kids n x).map some, F.st L)
  | 0, _, _, _, _, h, _, _ => h.elim
  | n + 1, x, T, P, hx, hh, hT, hP => by
    have hg := Fo.get (F := F) (L := L) hx
    have hfst : (F.mk1 L x).fst = (F.kids x)[0]? := by simp only [Fo.mk1, List.head?_eq_getElem?]
    simp only [idsF, List.length_cons, List.length_flatMap] at hT hP
    let nd := kn (L x)
    have key : ∀ d j, (F.kids x).length - j = d → j ≤ (F.kids x).length → loopO (m_impl_taken_0 (m_impl_taken n)) (T ++ [nd] ++ ((F.kids x).take j).flatMap (nodesF F.kids (fun i => kn (L i)) n), P ++ [some x] ++ (((F.kids x).take j).flatMap (idsF F.kids n)).map some, (T.length : Int), (F.kids x)[j]?, F.st L)
        = some (T ++ [nd] ++ (F.kids x).flatMap (nodesF F.kids (fun i => kn (L i)) n), P ++ [some x] ++ ((F.kids x).flatMap (idsF F.kids n)).map some, (T.length : Int), F.st L) := by
      intro d
      induction d with
      | zero =>
        intro j hd hj
        have : j = (F.kids x).length := by omega
        subst this
        refine loopO_out ?_
        simp [m_impl_taken_0]
      | succ d ih =>
        intro j hd hj
        obtain ⟨y, hy⟩ := get_lt (l := F.kids x) (k := j) (by omega)
        have hym := List.mem_of_getElem? hy
        obtain ⟨hu, hym2⟩ := hF.kid hym
        have e1 : (F.kids x).take (j + 1) = (F.kids x).take j ++ [y] := by rw [List.take_add_one, hy]; rfl
        have hnx : (F.mk1 L y).nxt = (F.kids x)[j + 1]? := by
          simp only [Fo.mk1, hu, Option.bind_some]
          exact nxtL_get (hF.nd x) hy
        have hsum : (((F.kids x).take (j + 1)).map fun y => (idsF F.kids n y).length).sum ≤ ((F.kids x).map fun y => (idsF F.kids n y).length).sum := by
          have h1 : F.kids x = (F.kids x).take (j + 1) ++ (F.kids x).drop (j + 1) := (List.take_append_drop _ _).symm
          conv => rhs; rw [h1]
          rw [List.map_append, List.sum_append]
          omega
        rw [e1, List.map_append, List.sum_append] at hsum
        simp only [List.map_cons, List.map_nil, List.sum_cons, List.sum_nil] at hsum
        have hlN : (((F.kids x).take j).flatMap (nodesF F.kids (fun i => kn (L i)) n)).length = (((F.kids x).take j).map fun y => (idsF F.kids n y).length).sum := by
          rw [List.length_flatMap]
          congr 1
          exact List.map_congr_left fun y _ => nodesF_len n y
        have step : m_impl_taken_0 (m_impl_taken n) (T ++ [nd] ++ ((F.kids x).take j).flatMap (nodesF F.kids (fun i => kn (L i)) n), P ++ [some x] ++ (((F.kids x).take j).flatMap (idsF F.kids n)).map some, (T.length : Int), (F.kids x)[j]?, F.st L)
            = some (.nx (T ++ [nd] ++ ((F.kids x).take (j + 1)).flatMap (nodesF F.kids (fun i => kn (L i)) n), P ++ [some x] ++ (((F.kids x).take (j + 1)).flatMap (idsF F.kids n)).map some, (T.length : Int), (F.kids x)[j + 1]?, F.st L)) := by
          simp only [m_impl_taken_0, hy, Option.isNone_some, Bool.not_false, cond_true]
          rw [taken_eq hF ha n y _ _ hym2 (hh y hym) (by simp only [List.length_append, List.length_cons, List.length_nil, hlN]; omega) (by simp only [List.length_append, List.length_cons, List.length_nil, List.length_map, List.length_flatMap]; omega)]
          simp only [bind_some]
          rw [Fo.get hym2, bind_some, hnx, e1]
          simp only [List.flatMap_append, List.flatMap_cons, List.flatMap_nil, List.append_nil, List.map_append, List.append_assoc]
        rw [loopO_nx step]
        exact ih (j + 1) (by omega) (by omega)
    have h0 := key (F.kids x).length 0 (by omega) (Nat.zero_le _)
    simp only [List.take_zero, List.flatMap_nil, List.map_nil, List.append_nil] at h0
    have hlN : ((F.kids x).flatMap (nodesF F.kids (fun i => kn (L i)) n)).length = ((F.kids x).map fun y => (idsF F.kids n y).length).sum := by
      rw [List.length_flatMap]
      congr 1
      exact List.map_congr_left fun y _ => nodesF_len n y
    show b_impl_taken (m_impl_taken n) (some x, T, P, F.st L) = _
    simp only [b_impl_taken, kindOf_eq hx (ha x hx), bind_some]
    rw [appL_some (by simp; omega), bind_some, appL_some (by simp; omega), bind_some]
    rw [hg, bind_some, hfst, h0, bind_some]
    have hget : (T ++ [nd] ++ (F.kids x).flatMap (nodesF F.kids (fun i => kn (L i)) n))[T.length]? = some nd := by simp
    simp only [atI_nat, Int.toNat_natCast, hget, bind_some]
    have hset : ∀ v : Node, (T ++ [nd] ++ (F.kids x).flatMap (nodesF F.kids (fun i => kn (L i)) n)).set T.length v = T ++ v :: (F.kids x).flatMap (nodesF F.kids (fun i => kn (L i)) n) := fun v => by
      rw [List.append_assoc, List.set_append_right _ _ (Nat.le_refl _)]
      simp
    rw [hset, w64 (by simp only [List.length_append, List.length_cons, List.length_nil, hlN]; omega) (by simp only [List.length_append, List.length_cons, List.length_nil, hlN]; omega)]
    simp only [nodesF, idsF, List.map_cons, List.append_assoc, List.singleton_append]
    have hsz : ((T ++ nd :: (F.kids x).flatMap (nodesF F.kids (fun i => kn (L i)) n)).length : Int) - (T.length : Int) = 1 + (((F.kids x).flatMap (nodesF F.kids (fun i => kn (L i)) n)).length : Nat) := by
      simp only [List.length_append, List.length_cons]
      omega
    rw [hsz]
end
end Go.Proofs.Ytfmlpodcldhgdaa.V
