/-
  Nodes are added to a forest, put beneath others, and copied with all beneath them. Plain facts.
-/
import Derived.Test.YtfmlpodcldhgdaaPLink
set_option linter.unusedVariables false
set_option linter.unusedSimpArgs false
namespace Go.Proofs.Ytfmlpodcldhgdaa.V
open Go

theorem Fo.ext' {F G : Fo} (h1 : F.m = G.m) (h2 : ∀ i, F.up i = G.up i) (h3 : ∀ i, F.kids i = G.kids i) : F = G := by
  cases F; cases G
  simp only at h1 h2 h3
  subst h1
  rw [funext h2, funext h3]
section
variable {F G : Fo} {L : Nat → HN} {p c i j : Nat} {A B : List Nat}
/-- A node without a parent is put among a node's kids. -/
theorem Sp.ins (hG : G.ok) (hp : p < G.m) (hc : c < G.m) (hu : G.up c = none) (hpc : p ≠ c) (hk : G.kids p = A ++ B) : Sp (G.setK p (A ++ c :: B) c (some p)) G p c A B := by
  have hn : ∀ q, c ∉ G.kids q := fun q h => by have := (hG.kid h).1; rw [hu] at this; cases this
  refine ⟨⟨fun {q x} hx => ?_, fun {x q} hx => ?_, fun q => ?_, fun x => ?_⟩, hp, hc, by simp [Fo.setK], by simp [Fo.setK], ?_⟩
  · simp only [Fo.setK] at hx ⊢
    by_cases e : q = p
    · rw [if_pos e] at hx
      by_cases e2 : x = c
      · rw [if_pos e2, e, e2]; exact ⟨rfl, hc⟩
      · rw [if_neg e2]
        have : x ∈ G.kids p := by rw [hk]; simpa [e2] using hx
        rw [e]; exact hG.kid this
    · rw [if_neg e] at hx
      have e2 : x ≠ c := fun e2 => hn q (e2 ▸ hx)
      rw [if_neg e2]; exact hG.kid hx
  · simp only [Fo.setK] at hx ⊢
    by_cases e2 : x = c
    · rw [if_pos e2] at hx
      obtain rfl : p = q := Option.some.inj hx
      exact ⟨hp, by rw [if_pos rfl, e2]; simp⟩
    · rw [if_neg e2] at hx
      obtain ⟨h1, h2⟩ := hG.up hx
      refine ⟨h1, ?_⟩
      by_cases e : q = p
      · rw [if_pos e]
        rw [e, hk] at h2
        rcases List.mem_append.1 h2 with h | h <;> simp [h]
      · rw [if_neg e]; exact h2
  · simp only [Fo.setK]
    by_cases e : q = p
    · rw [if_pos e]
      have h1 := hG.nd p
      have h2 := hn p
      rw [hk] at h1 h2
      rw [List.nodup_append] at h1 ⊢
      simp only [List.mem_append, not_or] at h2
      refine ⟨h1.1, List.nodup_cons.2 ⟨h2.2, h1.2.1⟩, fun a ha b hb e3 => ?_⟩
      rcases List.mem_cons.1 hb with hb | hb
      · exact h2.1 (by rw [← hb, ← e3]; exact ha)
      · exact h1.2.2 a ha b hb e3
    · rw [if_neg e]; exact hG.nd q
  · simp only [Fo.setK]
    by_cases e : x = c
    · rw [if_pos e]; intro h; exact hpc (by rw [← e]; exact Option.some.inj h)
    · rw [if_neg e]; exact hG.irr x
  · refine Fo.ext' rfl (fun i => ?_) (fun i => ?_)
    · simp only [Fo.setK]
      by_cases e : i = c
      · rw [if_pos e, e, hu]
      · rw [if_neg e, if_neg e]
    · simp only [Fo.setK]
      by_cases e : i = p
      · rw [if_pos e, e, hk]
      · rw [if_neg e, if_neg e]
/-- A new node. -/
def Fo.add (F : Fo) : Fo := ⟨F.m + 1, fun i => if i = F.m then none else F.up i, fun i => if i = F.m then [] else F.kids i⟩
theorem Fo.ok.add (h : F.ok) : F.add.ok := by
  refine ⟨fun {q x} hx => ?_, fun {x q} hx => ?_, fun q => ?_, fun x => ?_⟩
  · simp only [Fo.add] at hx ⊢
    by_cases e : q = F.m
    · rw [if_pos e] at hx; cases hx
    · rw [if_neg e] at hx
      have := h.kid hx
      rw [if_neg (by omega)]
      exact ⟨this.1, by omega⟩
  · simp only [Fo.add] at hx ⊢
    by_cases e : x = F.m
    · rw [if_pos e] at hx; cases hx
    · rw [if_neg e] at hx
      have := h.up hx
      rw [if_neg (by omega)]
      exact ⟨by omega, this.2⟩
  · simp only [Fo.add]
    by_cases e : q = F.m
    · rw [if_pos e]; exact List.nodup_nil
    · rw [if_neg e]; exact h.nd q
  · simp only [Fo.add]
    by_cases e : x = F.m
    · rw [if_pos e]; intro h; cases h
    · rw [if_neg e]; exact h.irr x
theorem Fo.add_mk1 (h : F.ok) {b : HN} (hi : i < F.m) : F.add.mk1 (upd L F.m b) i = F.mk1 L i := by
  have e : i ≠ F.m := by omega
  simp only [Fo.mk1, Fo.add, if_neg e, upd_ne e]
  cases hu : F.up i with
  | none => rfl
  | some q =>
    have := (h.up hu).1
    have e2 : q ≠ F.m := by omega
    simp only [Option.bind_some, if_neg e2]
theorem Fo.add_st (h : F.ok) {b : HN} : F.st L ++ [⟨none, none, none, none, none, b.ty, b.atom, b.data, b.ns, b.attrs⟩] = F.add.st (upd L F.m b) := by
  unfold Fo.st
  rw [tab_snoc]
  refine tab_ext fun j hj => ?_
  by_cases e : j = F.m
  · subst e
    rw [upd_same]
    simp [Fo.mk1, Fo.add, upd_same]
  · have : j < F.m := by omega
    rw [upd_ne e, Fo.add_mk1 h this]
end

/-! Copies -/
/-- How a copy's label is told by another one. -/
def cpl (a b : HN) : Prop := a.ty = b.ty ∧ a.atom = b.atom ∧ a.data = b.data ∧ a.ns = [] ∧ a.attrs = b.attrs
/-- A tree within a forest, among the nodes from lo on, ahead of hi, is a copy of a tree of kids K and labels B. -/
def Cp (F : Fo) (L : Nat → HN) (K : Nat → List Nat) (B : Nat → HN) (lo hi : Nat) : Nat → Nat → Nat → Prop
  | 0, _, _ => False
  | n + 1, c, x => (lo ≤ c ∧ c < hi) ∧ cpl (L c) (B x) ∧ F2 (Cp F L K B lo hi n) (F.kids c) (K x)
/-- The kids beneath a node end within n levels. -/
def Ht (K : Nat → List Nat) : Nat → Nat → Prop
  | 0, _ => False
  | n + 1, x => ∀ y ∈ K x, Ht K n y
/-- The number of nodes. -/
def szK (K : Nat → List Nat) : Nat → Nat → Nat
  | 0, _ => 0
  | n + 1, x => 1 + ((K x).map (szK K n)).sum
theorem F2.imp {α β : Type} {R S : α → β → Prop} : ∀ {l : List α} {m : List β}, (∀ a b, a ∈ l → b ∈ m → R a b → S a b) → F2 R l m → F2 S l m
  | _, _, _, .nil => .nil
  | _, _, hi, .cons h t => .cons (hi _ _ (by simp) (by simp) h) (F2.imp (fun a b ha hb => hi a b (by simp [ha]) (by simp [hb])) t)
section
variable {F G : Fo} {L M : Nat → HN} {K : Nat → List Nat} {B : Nat → HN} {lo hi lo' hi' : Nat}
theorem Cp.mono (hlo : lo' ≤ lo) (hhi : hi ≤ hi') (hk : ∀ i, lo ≤ i → i < hi → G.kids i = F.kids i ∧ M i = L i) : ∀ {n c x : Nat}, Cp F L K B lo hi n c x → Cp G M K B lo' hi' n c x
  | 0, _, _, h => h
  | n + 1, c, x, ⟨⟨h1, h2⟩, h3, h4⟩ => by
    obtain ⟨e1, e2⟩ := hk c h1 h2
    refine ⟨⟨by omega, by omega⟩, by rw [e2]; exact h3, ?_⟩
    rw [e1]
    exact h4.imp fun a b _ _ h => Cp.mono hlo hhi hk h
/-- A forest that has grown. -/
structure Ext (F : Fo) (L : Nat → HN) (G : Fo) (M : Nat → HN) : Prop where
  ok : G.ok
  m : F.m ≤ G.m
  old : ∀ i, i < F.m → G.up i = F.up i ∧ G.kids i = F.kids i ∧ M i = L i
  lab : ∀ i, F.m ≤ i → i < G.m → (M i).attrs.length ≤ 1000000
theorem Ext.trans {H : Fo} {N : Nat → HN} (h : Ext F L G M) (h' : Ext G M H N) : Ext F L H N := ⟨h'.ok, Nat.le_trans h.m h'.m, fun i hi => by
  obtain ⟨a, b, c⟩ := h.old i hi
  obtain ⟨a', b', c'⟩ := h'.old i (Nat.lt_of_lt_of_le hi h.m)
  exact ⟨a'.trans a, b'.trans b, c'.trans c⟩, fun i h1 h2 => by
  by_cases e : i < G.m
  · rw [(h'.old i e).2.2]; exact h.lab i h1 e
  · exact h'.lab i (by omega) h2⟩
theorem nxtL_get : ∀ {l : List Nat} {j c : Nat}, l.Nodup → l[j]? = some c → nxtL l c = l[j + 1]?
  | [], _, _, _, h => by simp at h
  | a :: l, 0, c, _, h => by
    simp at h
    subst h
    simp [nxtL, List.head?_eq_getElem?]
  | a :: l, j + 1, c, hn, h => by
    have h' : l[j]? = some c := by simpa using h
    have hne : a ≠ c := fun e => (List.nodup_cons.1 hn).1 (by rw [e]; exact List.mem_of_getElem? h')
    simp only [nxtL, if_neg hne, nxtL_get (List.nodup_cons.1 hn).2 h', List.getElem?_cons_succ]
/-- A node without a parent becomes another one's last kid. -/
theorem append_ins {c k : Nat} (hG : G.ok) (hc : c < G.m) (hk : k < G.m) (hu : G.up k = none) (hck : c ≠ k) : m_html_Node_AppendChild (some c, some k, G.st L) = some ((G.setK c (G.kids c ++ [k]) k (some c)).st L) ∧ (G.setK c (G.kids c ++ [k]) k (some c)).ok := by
  have h := Sp.ins (A := G.kids c) (B := []) hG hc hk hu hck (by simp)
  exact ⟨append_eq h, h.okF⟩
structure ClI (K : Nat → List Nat) (B : Nat → HN) (F : Fo) (L : Nat → HN) (n x j : Nat) (G : Fo) (M : Nat → HN) : Prop where
  ext : Ext F L G M
  m : G.m = F.m + 1 + (((K x).take j).map (szK K n)).sum
  up : G.up F.m = none
  lab : cpl (M F.m) (B x)
  cp : F2 (Cp G M K B (F.m + 1) G.m n) (G.kids F.m) ((K x).take j)
theorem clone_loop {m0 : Nat} (hK : ∀ i, i < m0 → ∀ y ∈ K i, y < m0) {n x : Nat} (hx : x < m0) (hnd : (K x).Nodup)
    (ih : ∀ y ∈ K x, ∀ (F : Fo) (L : Nat → HN), F.ok → m0 ≤ F.m → (∀ i, i < m0 → F.kids i = K i ∧ L i = B i) → ∃ G M, m_goquery_cloneNode n (some y, F.st L) = some (some F.m, G.st M) ∧ Ext F L G M ∧ G.up F.m = none ∧ G.m = F.m + szK K n y ∧ Cp G M K B F.m G.m n F.m y)
    {F : Fo} {L : Nat → HN} (hF : F.ok) (hm : m0 ≤ F.m) (hs : ∀ i, i < m0 → F.kids i = K i ∧ L i = B i) :
    ∀ (d j : Nat) (G : Fo) (M : Nat → HN), (K x).length - j = d → j ≤ (K x).length → ClI K B F L n x j G M → ∃ H N, loopO (m_goquery_cloneNode_0 (m_goquery_cloneNode n)) (some F.m, (K x)[j]?, G.st M) = some (some F.m, H.st N) ∧ ClI K B F L n x (K x).length H N := by
  intro d
  induction d with
  | zero =>
    intro j G M hd hj hI
    have : j = (K x).length := by omega
    subst this
    refine ⟨G, M, loopO_out ?_, hI⟩
    simp [m_goquery_cloneNode_0]
  | succ d ihd =>
    intro j G M hd hj hI
    obtain ⟨y, hy⟩ := get_lt (l := K x) (k := j) (by omega)
    have hym := List.mem_of_getElem? hy
    have hy0 := hK x hx y hym
    have hagree : ∀ i, i < m0 → G.kids i = K i ∧ M i = B i := fun i hi => by
      obtain ⟨a, b, c⟩ := hI.ext.old i (by omega)
      obtain ⟨d, e⟩ := hs i hi
      exact ⟨b.trans d, c.trans e⟩
    obtain ⟨G1, M1, e1, e2, e3, e4, e5⟩ := ih y hym G M hI.ext.ok (Nat.le_trans hm hI.ext.m) hagree
    have hGm := hI.m
    have hc1 : F.m < G.m := by omega
    have hszp : 0 < szK K n y := by
      cases n with
      | zero => exact absurd e5 (by simp [Cp])
      | succ n => simp only [szK]; omega
    obtain ⟨q1, q2⟩ := append_ins (L := M1) (c := F.m) (k := G.m) e2.ok (by omega) (by omega) e3 (by omega)
    have hkc : G1.kids F.m = G.kids F.m := (e2.old F.m hc1).2.1
    rw [hkc] at q1 q2
    have hfx : F.up y = some x ∧ y < F.m := hF.kid (by rw [(hs x hx).1]; exact hym)
    have hnx : ((G1.setK F.m (G.kids F.m ++ [G.m]) G.m (some F.m)).mk1 M1 y).nxt = (K x)[j + 1]? := by
      have a1 : y ≠ G.m := by omega
      have a2 : x ≠ F.m := by omega
      have a3 : G1.up y = some x := by rw [(e2.old y (by omega)).1, (hI.ext.old y (by omega)).1]; exact hfx.1
      have a4 : G1.kids x = K x := by rw [(e2.old x (by omega)).2.1]; exact (hagree x hx).1
      simp only [Fo.mk1, Fo.setK, if_neg a1, a3, Option.bind_some, if_neg a2, a4]
      exact nxtL_get hnd hy
    have step : m_goquery_cloneNode_0 (m_goquery_cloneNode n) (some F.m, (K x)[j]?, G.st M) = some (.nx (some F.m, (K x)[j + 1]?, (G1.setK F.m (G.kids F.m ++ [G.m]) G.m (some F.m)).st M1)) := by
      simp only [m_goquery_cloneNode_0, hy, Option.isNone_some, Bool.not_false, cond_true, e1, bind_some, q1]
      rw [Fo.get (F := G1.setK F.m (G.kids F.m ++ [G.m]) G.m (some F.m)) (by show y < G1.m; omega), bind_some, hnx]
    rw [loopO_nx step]
    refine ihd (j + 1) _ _ (by omega) (by omega) ⟨⟨q2, by show F.m ≤ G1.m; omega, fun i hi => ?_, fun i h1 (h2 : i < G1.m) => ?_⟩, ?_, ?_, ?_, ?_⟩
    · have a1 : i ≠ F.m := by omega
      have a2 : i ≠ G.m := by omega
      obtain ⟨b1, b2, b3⟩ := e2.old i (by omega)
      obtain ⟨c1, c2, c3⟩ := hI.ext.old i hi
      simp only [Fo.setK, if_neg a1, if_neg a2]
      exact ⟨b1.trans c1, b2.trans c2, b3.trans c3⟩
    · by_cases e : i < G.m
      · rw [(e2.old i e).2.2]; exact hI.ext.lab i h1 e
      · exact e2.lab i (by omega) h2
    · show G1.m = _
      rw [List.take_add_one, hy, e4, hGm]
      simp
      omega
    · have a1 : F.m ≠ G.m := by omega
      simp only [Fo.setK, if_neg a1]
      rw [(e2.old F.m hc1).1]; exact hI.up
    · rw [(e2.old F.m hc1).2.2]; exact hI.lab
    · simp only [Fo.setK, if_true]
      rw [List.take_add_one, hy]
      have f1 : F2 (Cp (G1.setK F.m (G.kids F.m ++ [G.m]) G.m (some F.m)) M1 K B (F.m + 1) G1.m n) (G.kids F.m) ((K x).take j) := hI.cp.imp fun a b _ _ h => h.mono (Nat.le_refl _) (by omega) fun i h1 h2 => by
        have a1 : i ≠ F.m := by omega
        obtain ⟨b1, b2, b3⟩ := e2.old i h2
        simp only [Fo.setK, if_neg a1]
        exact ⟨b2, b3⟩
      have f2 : Cp (G1.setK F.m (G.kids F.m ++ [G.m]) G.m (some F.m)) M1 K B (F.m + 1) G1.m n G.m y := e5.mono (by omega) (Nat.le_refl _) fun i h1 h2 => by
        have a1 : i ≠ F.m := by omega
        simp [Fo.setK, a1]
      exact f1.append (.cons f2 .nil)
/-- A copy is made. -/
theorem clone_eq {m0 : Nat} (hK : ∀ i, i < m0 → ∀ y ∈ K i, y < m0) (hnd : ∀ i, i < m0 → (K i).Nodup) (hat : ∀ i, i < m0 → (B i).attrs.length ≤ 1000000) : ∀ (n x : Nat) (F : Fo) (L : Nat → HN), F.ok → m0 ≤ F.m → (∀ i, i < m0 → F.kids i = K i ∧ L i = B i) → x < m0 → Ht K n x →
    ∃ G M, m_goquery_cloneNode n (some x, F.st L) = some (some F.m, G.st M) ∧ Ext F L G M ∧ G.up F.m = none ∧ G.m = F.m + szK K n x ∧ Cp G M K B F.m G.m n F.m x
  | 0, _, _, _, _, _, _, _, h => h.elim
  | n + 1, x, F, L, hF, hm, hs, hx, hh => by
    obtain ⟨hk, hl⟩ := hs x hx
    have hxm : x < F.m := by omega
    have hlen : (F.st L).length = F.m := tab_len
    have hgx := Fo.get (F := F) (L := L) hxm
    let b : HN := ⟨none, none, none, none, none, (L x).ty, (L x).atom, (L x).data, [], (L x).attrs⟩
    have hadd : F.st L ++ [⟨none, none, none, none, none, (L x).ty, (L x).atom, (L x).data, [], (L x).attrs⟩] = F.add.st (upd L F.m b) := Fo.add_st hF (b := b)
    have hI : ClI K B F L n x 0 F.add (upd L F.m b) := by
      refine ⟨⟨hF.add, by show F.m ≤ F.m + 1; omega, fun i hi => ?_, fun i h1 (h2 : i < F.m + 1) => ?_⟩, by show F.m + 1 = _; simp, by simp [Fo.add], ?_, by simp only [Fo.add, if_true, List.take_zero]; exact .nil⟩
      · have e : i ≠ F.m := by omega
        simp only [Fo.add, if_neg e, upd_ne e]
        exact ⟨trivial, trivial, trivial⟩
      · have e : i = F.m := by omega
        rw [e, upd_same]
        show (L x).attrs.length ≤ 1000000
        rw [hl]
        exact hat x hx
      · rw [upd_same, ← hl]
        exact ⟨rfl, rfl, rfl, rfl, rfl⟩
    obtain ⟨H, N, l1, l2⟩ := clone_loop hK hx (hnd x hx) (fun y hy F' L' a1 a2 a3 => clone_eq hK hnd hat n y F' L' a1 a2 a3 (hK x hx y hy) (hh y hy)) hF hm hs _ 0 _ _ rfl (Nat.zero_le _) hI
    have hfst : (F.add.mk1 (upd L F.m b) x).fst = (K x)[0]? := by
      rw [Fo.add_mk1 hF hxm]
      simp only [Fo.mk1, hk, List.head?_eq_getElem?]
    refine ⟨H, N, ?_, l2.ext, l2.up, ?_, ⟨by have := l2.m; omega, l2.lab, ?_⟩⟩
    · show b_goquery_cloneNode (m_goquery_cloneNode n) (some x, F.st L) = _
      have hat' : ((F.mk1 L x).attrs.length : Int) ≤ 1048576 := by
        have := hat x hx
        rw [← hl] at this
        show ((L x).attrs.length : Int) ≤ _
        omega
      have hc1 : ((F.mk1 L x).attrs.length : Int) ≤ ((F.mk1 L x).attrs.length : Int) ∧ 0 ≤ ((F.mk1 L x).attrs.length : Int) ∧ ((F.mk1 L x).attrs.length : Int) ≤ 1048576 := ⟨Int.le_refl _, by omega, hat'⟩
      simp only [b_goquery_cloneNode, bind_some, hgx, decide_eq_true hc1, cond_true, hlen]
      have g1 : ∀ e : HN, (F.st L ++ [e])[F.m]? = some e := fun e => by rw [List.getElem?_append_right (by omega), hlen]; simp
      have g2 : ∀ e : HN, (F.st L ++ [e])[x]? = some (F.mk1 L x) := fun e => by rw [List.getElem?_append_left (by omega), hgx]
      have g3 : ∀ e e' : HN, (F.st L ++ [e]).set F.m e' = F.st L ++ [e'] := fun e e' => by rw [List.set_append_right _ _ (by omega), hlen]; simp
      simp only [g1, g2, g3, bind_some, HN.wa, List.length_replicate, Int.toNat_natCast, Nat.min_self, List.take_length]
      have g4 : List.drop (F.mk1 L x).attrs.length (List.replicate (F.mk1 L x).attrs.length (⟨[], [], []⟩ : HAttr)) = [] := List.drop_of_length_le (by simp)
      rw [g4, List.append_nil]
      have hadd' : F.st L ++ [⟨none, none, none, none, none, (F.mk1 L x).ty, (F.mk1 L x).atom, (F.mk1 L x).data, [], (F.mk1 L x).attrs⟩] = F.add.st (upd L F.m b) := hadd
      have hfst' : (F.mk1 L x).fst = (K x)[0]? := by rw [← Fo.add_mk1 hF (b := b) hxm]; exact hfst
      rw [hadd', hfst', l1]
      rfl
    · have := l2.m
      rw [this, List.take_length]
      simp only [szK]
      omega
    · have := l2.cp
      rw [List.take_length] at this
      exact this.imp fun a b _ _ h => h.mono (by omega) (Nat.le_refl _) fun i _ _ => ⟨rfl, rfl⟩
end
end Go.Proofs.Ytfmlpodcldhgdaa.V
