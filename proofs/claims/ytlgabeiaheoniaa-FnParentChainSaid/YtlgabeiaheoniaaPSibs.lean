/-
  What goquery's getChildrenWithSiblingType hands back. Plain facts.
-/
import Derived.Test.YtlgabeiaheoniaaPIter
namespace Go.Proofs.Ytlgabeiaheoniaa.V
open Go

section
variable {t : List Node}
theorem RT.sub (hR : RT t) {p : Nat} (hp : p < t.length) : Lam t p (p + sz t p) ∧ p + sz t p ≤ t.length := by
  obtain ⟨_, _, _, _, h⟩ := hR.lam.ok p (Nat.zero_le _) hp
  exact ⟨hR.lam.sub (Nat.zero_le _) hp, h⟩
theorem kids_lt (hR : RT t) {p c : Nat} (hp : p < t.length) (hc : c ∈ kidsN t p) : c < t.length := by
  have h1 := (par_some (kids_par (hR.sub hp).1 hc)).2.1
  have := (hR.sub hp).2
  omega
theorem last_mem {A : List Nat} {c : Nat} (h : A.getLast? = some c) : c ∈ A := List.mem_of_getLast? h
theorem way_kids (hR : RT t) (st : Int) (hst : st = 0 ∨ st = 4) (p : Nat) (hp : p < t.length) :
    Way (fun cur => m_goquery_getChildrenWithSiblingType_1 (cur, st, some p, none, store t)) ((kidsN t p).filter (okN t st)) := by
  obtain ⟨hL, he⟩ := hR.sub hp
  refine it_way st (some p) none (kidsN t p) (fun A C hw => ?_) (fun _ _ => rfl)
  rw [body_kids hR st hst p hp _ _ fun c hc => kids_lt hR hp (by rw [hw]; exact List.mem_append_left _ (last_mem hc))]
  congr 1
  rcases List.eq_nil_or_concat A with rfl | ⟨A, d, rfl⟩
  · show (rc t 0 t.length p).fst = _
    rw [way_fst hL he, hw]
    rfl
  · rw [List.concat_eq_append, last_app]
    exact way_nxt hL he (A := A) (by rw [hw, List.concat_eq_append]; simp)
theorem way_after (hR : RT t) (st : Int) (hst : st = 1 ∨ st = 2 ∨ st = 3) (q : Option Nat) {p a : Nat} (hp : p < t.length) {A0 B0 : List Nat} (hk : kidsN t p = A0 ++ a :: B0) :
    Way (fun cur => m_goquery_getChildrenWithSiblingType_1 (cur, st, q, some a, store t)) (B0.filter (okN t st)) := by
  obtain ⟨hL, he⟩ := hR.sub hp
  have hlt : ∀ c ∈ kidsN t p, c < t.length := fun c hc => kids_lt hR hp hc
  refine it_way st q (some a) B0 (fun A C hw => ?_) (fun _ _ => rfl)
  rw [body_nxt hR st hst q a (hlt a (by rw [hk]; simp)) _ _ fun c hc => hlt c (by rw [hk, hw]; exact List.mem_append_right _ (List.mem_cons_of_mem _ (List.mem_append_left _ (last_mem hc))))]
  congr 1
  rcases List.eq_nil_or_concat A with rfl | ⟨A, d, rfl⟩
  · exact way_nxt hL he (A := A0) (by rw [hk, hw]; rfl)
  · rw [List.concat_eq_append, last_app, Option.getD_some]
    exact way_nxt hL he (A := A0 ++ a :: A) (by rw [hk, hw, List.concat_eq_append]; simp)
theorem way_ahead (hR : RT t) (q : Option Nat) {p a : Nat} (hp : p < t.length) {A0 B0 : List Nat} (hk : kidsN t p = A0 ++ a :: B0) :
    Way (fun cur => m_goquery_getChildrenWithSiblingType_1 (cur, (-2 : Int), q, some a, store t)) (A0.reverse.filter (okN t (-2))) := by
  obtain ⟨hL, he⟩ := hR.sub hp
  have hlt : ∀ c ∈ kidsN t p, c < t.length := fun c hc => kids_lt hR hp hc
  refine it_way (-2) q (some a) A0.reverse (fun A C hw => ?_) (fun _ _ => rfl)
  have hA0 : A0 = C.reverse ++ A.reverse := by rw [← List.reverse_append, ← hw, List.reverse_reverse]
  rw [body_prv hR q a (hlt a (by rw [hk]; simp)) _ _ fun c hc => hlt c (by rw [hk, hA0]; have := last_mem hc; simp [this])]
  congr 1
  rcases List.eq_nil_or_concat A with rfl | ⟨A, d, rfl⟩
  · simp only [List.getLast?_nil, Option.getD_none]
    rw [way_prv hL hk, hA0]
    simp
  · rw [List.concat_eq_append, last_app, Option.getD_some, way_prv hL (A := C.reverse) (B := A.reverse ++ a :: B0) (by rw [hk, hA0, List.concat_eq_append]; simp)]
    simp
theorem way_beside (hR : RT t) {p a : Nat} (hp : p < t.length) {A0 B0 : List Nat} (hk : kidsN t p = A0 ++ a :: B0) :
    Way (fun cur => m_goquery_getChildrenWithSiblingType_1 (cur, (0 : Int), some p, some a, store t)) ((A0 ++ B0).filter (okN t 0)) := by
  obtain ⟨hL, he⟩ := hR.sub hp
  have hlt : ∀ c ∈ kidsN t p, c < t.length := fun c hc => kids_lt hR hp hc
  have hal : a < t.length := hlt a (by rw [hk]; simp)
  have hnd := kids_nodup hL
  rw [hk, List.nodup_append] at hnd
  obtain ⟨_, hn2, hn3⟩ := hnd
  have haB : a ∉ B0 := (List.nodup_cons.1 hn2).1
  have haA : a ∉ A0 := fun h => hn3 a h a (by simp) rfl
  have hself : (rc t 0 t.length a).nxt = B0.head? := way_nxt hL he hk
  have ends : ∀ A, A = A0 → stS t p a A.getLast? = B0.head? := by
    intro A e
    subst e
    rcases List.eq_nil_or_concat A with rfl | ⟨A, d, rfl⟩
    · have e1 : stK t p none = some a := by
        show (rc t 0 t.length p).fst = _
        rw [way_fst hL he, hk]
        rfl
      rw [List.getLast?_nil, stS, if_pos e1, hself]
    · have e1 : stK t p (some d) = some a := way_nxt hL he (A := A) (B := a :: B0) (c := d) (by rw [hk, List.concat_eq_append]; simp)
      rw [List.concat_eq_append, last_app, stS, if_pos e1, hself]
  refine it_way 0 (some p) (some a) (A0 ++ B0) (fun A C hw => ?_) (fun _ _ => rfl)
  rw [body_sib hR p a hp hal _ _ fun c hc => hlt c (by
    have : c ∈ A0 ++ B0 := by rw [hw]; exact List.mem_append_left _ (last_mem hc)
    rw [hk]
    rcases List.mem_append.1 this with h | h
    · exact List.mem_append_left _ h
    · exact List.mem_append_right _ (List.mem_cons_of_mem _ h))]
  congr 1
  rcases List.append_eq_append_iff.1 hw with ⟨a', h1, h2⟩ | ⟨c', h1, h2⟩
  · rcases List.eq_nil_or_concat a' with rfl | ⟨a1, d, rfl⟩
    · rw [ends A (by rw [h1]; simp), h2]
      rfl
    · rw [List.concat_eq_append] at h1 h2
      have hk2 : kidsN t p = (A0 ++ a :: a1) ++ d :: C := by rw [hk, h2]; simp
      have hl : A.getLast? = some d := by rw [h1, ← List.append_assoc, last_app]
      have e1 : stK t p (some d) = C.head? := way_nxt hL he hk2
      rw [hl, stS, e1, if_neg]
      intro hh
      have : a ∈ C := List.mem_of_mem_head? hh
      exact haB (by rw [h2]; simp [this])
  · cases c' with
    | nil =>
      rw [ends A (by simpa using h1.symm), h2]
      rfl
    | cons x c2 =>
      have hx : x ≠ a := fun e => haA (by rw [h1, e]; simp)
      rcases List.eq_nil_or_concat A with rfl | ⟨A1, d, rfl⟩
      · have e1 : stK t p none = some x := by
          show (rc t 0 t.length p).fst = _
          rw [way_fst hL he, hk, h1]
          rfl
        rw [List.getLast?_nil, stS, e1, if_neg (by simpa using hx), h2]
        rfl
      · rw [List.concat_eq_append] at h1 hw
        have e1 : stK t p (some d) = some x := way_nxt hL he (A := A1) (c := d) (B := x :: c2 ++ a :: B0) (by rw [hk, h1]; simp)
        rw [List.concat_eq_append, last_app, stS, e1, if_neg (by simpa using hx), h2]
        rfl
/-! The loops -/
variable {st : Int} {p s : Option Nat} {F : List Nat}
theorem count_eq (hF : F.length ≤ 1000000) (hw : Way (fun cur => m_goquery_getChildrenWithSiblingType_1 (cur, st, p, s, store t)) F) :
    loopO m_goquery_getChildrenWithSiblingType_n_0 ((), st, (st, p, s), (0 : Int), F.head?, store t) = some ((), st, (st, p, s), (F.length : Int), store t) := by
  have key : ∀ C A, F = A ++ C → loopO m_goquery_getChildrenWithSiblingType_n_0 ((), st, (st, p, s), (A.length : Int), C.head?, store t) = some ((), st, (st, p, s), (F.length : Int), store t) := by
    intro C
    induction C with
    | nil =>
      intro A hA
      refine loopO_out ?_
      simp only [m_goquery_getChildrenWithSiblingType_n_0, List.head?_nil, Option.isNone_none, Bool.not_true, cond_false]
      rw [hA, List.append_nil]
    | cons c C ih =>
      intro A hA
      have h1 : m_goquery_getChildrenWithSiblingType_1 (some c, st, p, s, store t) = some C.head? := hw.nxt A c C hA
      have hl := congrArg List.length hA
      simp only [List.length_append, List.length_cons] at hl
      have step : m_goquery_getChildrenWithSiblingType_n_0 ((), st, (st, p, s), (A.length : Int), (c :: C).head?, store t) = some (.nx ((), st, (st, p, s), ((A ++ [c]).length : Int), C.head?, store t)) := by
        simp only [m_goquery_getChildrenWithSiblingType_n_0, List.head?_cons, Option.isNone_some, Bool.not_false, cond_true]
        rw [h1, bind_some, w64 (by omega) (by omega)]
        simp
      rw [loopO_nx step]
      exact ih (A ++ [c]) (by rw [hA]; simp)
  exact key F [] rfl
theorem all_eq (hF : F.length ≤ 1000000) (h3 : st ≠ 3) (h3' : st ≠ -3) (h1 : st ≠ 1) (h1' : st ≠ -1) (hw : Way (fun cur => m_goquery_getChildrenWithSiblingType_1 (cur, st, p, s, store t)) F) :
    loopO m_goquery_getChildrenWithSiblingType_n_1 ((), st, [], (st, p, s), F.head?, store t) = some (.inl (F.map some, store t)) := by
  have key : ∀ C A, F = A ++ C → loopO m_goquery_getChildrenWithSiblingType_n_1 ((), st, A.map some, (st, p, s), C.head?, store t) = some (.inl (F.map some, store t)) := by
    intro C
    induction C with
    | nil =>
      intro A hA
      refine loopO_out ?_
      simp only [m_goquery_getChildrenWithSiblingType_n_1, List.head?_nil, Option.isNone_none, Bool.not_true, cond_false]
      rw [hA, List.append_nil]
    | cons c C ih =>
      intro A hA
      have h2 : m_goquery_getChildrenWithSiblingType_1 (some c, st, p, s, store t) = some C.head? := hw.nxt A c C hA
      have hl := congrArg List.length hA
      simp only [List.length_append, List.length_cons] at hl
      have step : m_goquery_getChildrenWithSiblingType_n_1 ((), st, A.map some, (st, p, s), (c :: C).head?, store t) = some (.nx ((), st, (A ++ [c]).map some, (st, p, s), C.head?, store t)) := by
        simp only [m_goquery_getChildrenWithSiblingType_n_1, List.head?_cons, Option.isNone_some, Bool.not_false, cond_true, cond_dec]
        rw [if_neg h3, if_neg h3', appL_some (by simp; omega), bind_some, if_neg h1, if_neg h1', h2, bind_some]
        simp
      rw [loopO_nx step]
      exact ih (A ++ [c]) (by rw [hA]; simp)
  exact key F [] rfl
theorem gc_all (hF : F.length ≤ 1000000) (hst : st = 0 ∨ st = 4 ∨ st = -2 ∨ st = 2) (hw : Way (fun cur => m_goquery_getChildrenWithSiblingType_1 (cur, st, p, s, store t)) F) :
    m_goquery_getChildrenWithSiblingType_n (p, st, s, (), store t) = some (F.map some) := by
  have h0 : m_goquery_getChildrenWithSiblingType_1 (none, st, p, s, store t) = some F.head? := hw.fst
  have h1 := count_eq hF hw
  have h2 := all_eq hF (by rcases hst with rfl | rfl | rfl | rfl <;> decide) (by rcases hst with rfl | rfl | rfl | rfl <;> decide) (by rcases hst with rfl | rfl | rfl | rfl <;> decide) (by rcases hst with rfl | rfl | rfl | rfl <;> decide) hw
  have fin : (loopO m_goquery_getChildrenWithSiblingType_n_0 ((), st, (st, p, s), (0 : Int), F.head?, store t)).bind (fun y => bif decide ((0 : Int) ≤ y.2.2.2.1 ∧ (0 : Int) ≤ (0 : Int) ∧ y.2.2.2.1 ≤ (1048576 : Int)) then (m_goquery_getChildrenWithSiblingType_1 (none, y.2.2.1.1, y.2.2.1.2.1, y.2.2.1.2.2, y.2.2.2.2)).bind fun r => (loopO m_goquery_getChildrenWithSiblingType_n_1 ((), y.2.1, List.replicate (Int.toNat (0 : Int)) none, (y.2.2.1.1, y.2.2.1.2.1, y.2.2.1.2.2), r, y.2.2.2.2)).bind fun y => selim (fun (y : List (Option Nat) × List HN) => some y.1) (fun (y : List (Option Nat) × List HN) => some y.1) y else none) = some (F.map some) := by
    rw [h1, bind_some]
    have e0 : decide ((0 : Int) ≤ (F.length : Int) ∧ (0 : Int) ≤ (0 : Int) ∧ (F.length : Int) ≤ (1048576 : Int)) = true := decide_eq_true ⟨by omega, by omega, by omega⟩
    show (bif decide ((0 : Int) ≤ (F.length : Int) ∧ (0 : Int) ≤ (0 : Int) ∧ (F.length : Int) ≤ (1048576 : Int)) then (m_goquery_getChildrenWithSiblingType_1 (none, st, p, s, store t)).bind _ else none) = _
    rw [e0, cond_true, h0, bind_some]
    simp only [Int.toNat_zero, List.replicate_zero]
    rw [h2, bind_some, selim_l]
  rcases hst with rfl | rfl | rfl | rfl
  · simp only [m_goquery_getChildrenWithSiblingType_n, show decide ((0 : Int) = 0) = true from rfl, cond_true]
    rw [h0, bind_some]
    exact fin
  · simp only [m_goquery_getChildrenWithSiblingType_n, show decide ((4 : Int) = 0) = false from rfl, show decide ((4 : Int) = 4) = true from rfl, cond_true, cond_false]
    rw [h0, bind_some]
    exact fin
  · simp only [m_goquery_getChildrenWithSiblingType_n, show decide ((-2 : Int) = 0) = false from rfl, show decide ((-2 : Int) = 4) = false from rfl, show decide ((-2 : Int) = -2) = true from rfl, cond_true, cond_false]
    rw [h0, bind_some]
    exact fin
  · simp only [m_goquery_getChildrenWithSiblingType_n, show decide ((2 : Int) = 0) = false from rfl, show decide ((2 : Int) = 4) = false from rfl, show decide ((2 : Int) = -2) = false from rfl, show decide ((2 : Int) = 2) = true from rfl, cond_true, cond_false]
    rw [h0, bind_some]
    exact fin
theorem gc_one (hw : Way (fun cur => m_goquery_getChildrenWithSiblingType_1 (cur, (1 : Int), p, s, store t)) F) :
    m_goquery_getChildrenWithSiblingType_n (p, (1 : Int), s, (), store t) = some ((F.take 1).map some) := by
  have h0 : m_goquery_getChildrenWithSiblingType_1 (none, (1 : Int), p, s, store t) = some F.head? := hw.fst
  simp only [m_goquery_getChildrenWithSiblingType_n, show decide ((1 : Int) = 0) = false from rfl, show decide ((1 : Int) = 4) = false from rfl, show decide ((1 : Int) = -2) = false from rfl, show decide ((1 : Int) = 2) = false from rfl, cond_false]
  rw [h0, bind_some]
  cases F with
  | nil =>
    rw [loopO_out (b := .inl ([], store t)) (by simp only [m_goquery_getChildrenWithSiblingType_n_1, List.head?_nil, Option.isNone_none, Bool.not_true, cond_false])]
    rfl
  | cons c F =>
    rw [loopO_out (b := .inr ([some c], store t)) (by
      simp only [m_goquery_getChildrenWithSiblingType_n_1, List.head?_cons, Option.isNone_some, Bool.not_false, cond_true, cond_dec]
      rw [if_neg (by decide), if_neg (by decide), appL_some (by simp), bind_some, if_pos trivial]
      rfl)]
    rfl
/-- Whether one is among those at which to stop. -/
theorem until_eq (w : List Int) (hw : w.length ≤ 2147483647) (c : Nat) : m_goquery_getSiblingNodes_1 (some c, (), pts w) = some (decide (some c ∈ pts w)) := by
  simp only [m_goquery_getSiblingNodes_1, cond_dec]
  by_cases h : (0 : Int) < ((pts w).length : Int)
  · rw [if_pos h, isIn_eq _ _ (by rw [pts_len]; exact hw), bind_some]
  · rw [if_neg h]
    have : pts w = [] := List.eq_nil_of_length_eq_zero (by omega)
    rw [this]
    rfl
theorem gc_until (hF : F.length ≤ 1000000) (w : List Int) (hwl : w.length ≤ 2147483647) (hw : Way (fun cur => m_goquery_getChildrenWithSiblingType_1 (cur, (3 : Int), p, s, store t)) F) :
    m_goquery_getChildrenWithSiblingType_u (p, (3 : Int), s, ((), pts w), store t) = some ((F.takeWhile fun c => !decide (some c ∈ pts w)).map some) := by
  have h0 : m_goquery_getChildrenWithSiblingType_1 (none, (3 : Int), p, s, store t) = some F.head? := hw.fst
  simp only [m_goquery_getChildrenWithSiblingType_u, show decide ((3 : Int) = 0) = false from rfl, show decide ((3 : Int) = 4) = false from rfl, show decide ((3 : Int) = -2) = false from rfl, show decide ((3 : Int) = 2) = false from rfl, cond_false]
  rw [h0, bind_some]
  have key : ∀ C A, F = A ++ C → ∃ y : List (Option Nat) × List HN ⊕ List (Option Nat) × List HN, loopO m_goquery_getChildrenWithSiblingType_u_1 (((), pts w), (3 : Int), A.map some, ((3 : Int), p, s), C.head?, store t) = some y ∧ selim (fun (y : List (Option Nat) × List HN) => some y.1) (fun (y : List (Option Nat) × List HN) => some y.1) y = some ((A ++ C.takeWhile fun c => !decide (some c ∈ pts w)).map some) := by
    intro C
    induction C with
    | nil =>
      intro A hA
      refine ⟨.inl (A.map some, store t), loopO_out ?_, by simp [selim]⟩
      simp only [m_goquery_getChildrenWithSiblingType_u_1, List.head?_nil, Option.isNone_none, Bool.not_true, cond_false]
    | cons c C ih =>
      intro A hA
      have h2 : m_goquery_getChildrenWithSiblingType_1 (some c, (3 : Int), p, s, store t) = some C.head? := hw.nxt A c C hA
      have hl := congrArg List.length hA
      simp only [List.length_append, List.length_cons] at hl
      by_cases hm : some c ∈ pts w
      · refine ⟨.inr (A.map some, store t), loopO_out ?_, by simp [selim, hm]⟩
        simp only [m_goquery_getChildrenWithSiblingType_u_1, List.head?_cons, Option.isNone_some, Bool.not_false, cond_true, show decide ((3 : Int) = 3) = true from rfl]
        rw [until_eq w hwl, bind_some, decide_eq_true hm]
        rfl
      · obtain ⟨y, g1, g2⟩ := ih (A ++ [c]) (by rw [hA]; simp)
        refine ⟨y, ?_, by rw [g2, List.takeWhile_cons_of_pos (by simp [hm])]; simp⟩
        rw [← g1]
        refine loopO_nx ?_
        simp only [m_goquery_getChildrenWithSiblingType_u_1, List.head?_cons, Option.isNone_some, Bool.not_false, cond_true, show decide ((3 : Int) = 3) = true from rfl, show decide ((3 : Int) = 1) = false from rfl, show decide ((3 : Int) = -1) = false from rfl, cond_false]
        rw [until_eq w hwl, bind_some, decide_eq_false hm, cond_false, appL_some (by simp; omega), bind_some, h2, bind_some]
        simp
  obtain ⟨y, g1, g2⟩ := key F [] rfl
  rw [show loopO m_goquery_getChildrenWithSiblingType_u_1 (((), pts w), (3 : Int), [], ((3 : Int), p, s), F.head?, store t) = some y from g1, bind_some, g2]
  rfl
end
end Go.Proofs.Ytlgabeiaheoniaa.V
