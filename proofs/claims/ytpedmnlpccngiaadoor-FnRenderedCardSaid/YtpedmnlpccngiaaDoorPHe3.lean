/-
  Plain documents. Plain facts.
-/
import Derived.Test.YtpedmnlpccngiaaDoorPHe2
import Derived.Test.YtpedmnlpccngiaaDoorPRight
import Derived.Test.YtpedmnlpccngiaaDoorPKind
set_option linter.unusedVariables false
set_option linter.unusedSimpArgs false
namespace Go.Proofs.YtpedmnlpccngiaaDoor.V
open Go

theorem drop_at {α : Type} {s : List α} {k : Nat} {c : α} (hc : s[k]? = some c) : s.drop k = c :: s.drop (k + 1) := by
  obtain ⟨h1, h2⟩ := List.getElem?_eq_some_iff.1 hc
  rw [← h2]
  exact List.drop_eq_getElem_cons h1
theorem letters_ex (s : List UInt8) (hl : s.length ≤ 2147483647) : ∃ b, m_spec_letters s = some b ∧ (b = true → ∀ c ∈ s, c ≠ 38 ∧ c ≠ 62) := by
  have key : ∀ (m k : Nat), k + m = s.length → (loopO m_spec_letters_0 (s, (k : Int)) = some (.inr false)) ∨ (loopO m_spec_letters_0 (s, (k : Int)) = some (.inl ()) ∧ ∀ c ∈ s.drop k, c ≠ 38 ∧ c ≠ 62) := by
    intro m
    induction m with
    | zero =>
      intro k hk
      refine .inr ⟨loopO_out ?_, ?_⟩
      · simp only [m_spec_letters_0, cond_dec]
        rw [if_neg (by omega)]
      · rw [List.drop_eq_nil_of_le (by omega)]
        simp
    | succ m ih =>
      intro k hk
      obtain ⟨c, hc⟩ := get_lt (l := s) (k := k) (by omega)
      have hd := drop_at hc
      have h0 : m_spec_letters_0 (s, (k : Int)) = some (.out (.inr false)) ∨ (m_spec_letters_0 (s, (k : Int)) = some (.nx (s, ((k + 1 : Nat) : Int))) ∧ c.toNat ≠ 38 ∧ c.toNat ≠ 62) := by
        simp only [m_spec_letters_0, cond_dec]
        rw [if_pos (by omega), atI_nat, hc, bind_some, w64 (by omega) (by omega)]
        repeat' split
        all_goals first
          | exact .inl rfl
          | exact .inr ⟨rfl, by omega, by omega⟩
      rcases h0 with h0 | ⟨h0, n1, n2⟩
      · exact .inl (loopO_out h0)
      · rcases ih (k + 1) (by omega) with h | ⟨h, h'⟩
        · exact .inl (by rw [loopO_nx h0, h])
        · refine .inr ⟨by rw [loopO_nx h0, h], fun d hdm => ?_⟩
          rw [hd] at hdm
          rcases List.mem_cons.1 hdm with rfl | hdm
          · exact ⟨fun e => n1 (by rw [e]; rfl), fun e => n2 (by rw [e]; rfl)⟩
          · exact h' d hdm
  simp only [m_spec_letters]
  rcases key s.length 0 (by omega) with h | ⟨h, h'⟩
  · rw [show loopO m_spec_letters_0 (s, (0 : Int)) = _ from h]
    exact ⟨false, rfl, fun h => by cases h⟩
  · rw [show loopO m_spec_letters_0 (s, (0 : Int)) = _ from h]
    rw [List.drop_zero] at h'
    exact ⟨true, rfl, fun _ => h'⟩
def NA (l : List Attr) : Prop := ∀ (j : Nat) (a : Attr), l[j]? = some a → ∀ c ∈ a.val, c ≠ 13
theorem plainAttrs_ex (l : List Attr) (hl : l.length ≤ 2147483647) (hv : ∀ (j : Nat) (a : Attr), l[j]? = some a → a.val.length ≤ 2147483647) : ∃ b, m_spec_plainAttrs l = some b ∧ (b = true → NA l) := by
  have key : ∀ (m k : Nat), k + m = l.length → (loopO m_spec_plainAttrs_0 (l, (k : Int)) = some (.inr false)) ∨ (loopO m_spec_plainAttrs_0 (l, (k : Int)) = some (.inl ()) ∧ ∀ (j : Nat) (a : Attr), k ≤ j → l[j]? = some a → ∀ c ∈ a.val, c ≠ 13) := by
    intro m
    induction m with
    | zero =>
      intro k hk
      refine .inr ⟨loopO_out ?_, fun j a hj ha => ?_⟩
      · simp only [m_spec_plainAttrs_0, cond_dec]
        rw [if_neg (by omega)]
      · have := (List.getElem?_eq_some_iff.1 ha).1
        omega
    | succ m ih =>
      intro k hk
      obtain ⟨a, ha⟩ := get_lt (l := l) (k := k) (by omega)
      obtain ⟨b, hb, hb'⟩ := readText_ex a.val (hv k a ha)
      have h0 : m_spec_plainAttrs_0 (l, (k : Int)) = if b = true then some (.nx (l, ((k + 1 : Nat) : Int))) else some (.out (.inr false)) := by
        simp only [m_spec_plainAttrs_0, cond_dec]
        rw [if_pos (by omega), atI_nat, ha, bind_some, hb, bind_some, w64 (by omega) (by omega)]
        cases b <;> rfl
      cases b with
      | false => exact .inl (loopO_out h0)
      | true =>
        rw [if_pos rfl] at h0
        rcases ih (k + 1) (by omega) with h | ⟨h, h'⟩
        · exact .inl (by rw [loopO_nx h0, h])
        · refine .inr ⟨by rw [loopO_nx h0, h], fun j a' hj ha' => ?_⟩
          by_cases e : j = k
          · subst e
            rw [ha] at ha'
            cases ha'
            exact hb' rfl
          · exact h' j a' (by omega) ha'
  simp only [m_spec_plainAttrs]
  rcases key l.length 0 (by omega) with h | ⟨h, h'⟩
  · rw [show loopO m_spec_plainAttrs_0 (l, (0 : Int)) = _ from h]
    exact ⟨false, rfl, fun h => by cases h⟩
  · rw [show loopO m_spec_plainAttrs_0 (l, (0 : Int)) = _ from h]
    exact ⟨true, rfl, fun _ j a => h' j a (Nat.zero_le _)⟩
/-- The names of plain elements. -/
def ptags : List (List UInt8) := [[100, 105, 118], [115, 101, 99, 116, 105, 111, 110], [97, 114, 116, 105, 99, 108, 101], [97, 115, 105, 100, 101], [110, 97, 118], [104, 101, 97, 100, 101, 114], [102, 111, 111, 116, 101, 114], [109, 97, 105, 110], [115, 112, 97, 110], [97, 98, 98, 114], [115, 117, 98], [115, 117, 112], [113], [120, 45, 97], [120, 45, 98]]
def body : List UInt8 := [98, 111, 100, 121]
theorem ite_or {c : Prop} [Decidable c] {o : Option Bool} {Q : Prop} (h1 : c → Q) (h2 : ∃ b, o = some b ∧ (b = true → Q)) : ∃ b, (if c then some true else o) = some b ∧ (b = true → Q) := by
  by_cases h : c
  · rw [if_pos h]; exact ⟨true, rfl, fun _ => h1 h⟩
  · rw [if_neg h]; exact h2
theorem ite_no {c : Prop} [Decidable c] {o : Option Bool} {Q : Prop} (h2 : ¬ c → ∃ b, o = some b ∧ (b = true → Q)) : ∃ b, (if c then some false else o) = some b ∧ (b = true → Q) := by
  by_cases h : c
  · rw [if_pos h]; exact ⟨false, rfl, fun h => by cases h⟩
  · rw [if_neg h]; exact h2 h
theorem plainTag_ex (s : List UInt8) : ∃ b, m_spec_PlainTag s = some b ∧ (b = true → s ∈ body :: ptags) := by
  simp only [m_spec_PlainTag, cond_dec]
  refine ite_or (fun h => by rw [h]; decide) ?_
  refine ite_or (fun h => by rw [h]; decide) ?_
  refine ite_or (fun h => by rw [h]; decide) ?_
  refine ite_or (fun h => by rw [h]; decide) ?_
  refine ite_or (fun h => by rw [h]; decide) ?_
  refine ite_or (fun h => by rw [h]; decide) ?_
  refine ite_or (fun h => by rw [h]; decide) ?_
  refine ite_or (fun h => by rw [h]; decide) ?_
  refine ite_or (fun h => by rw [h]; decide) ?_
  refine ite_or (fun h => by rw [h]; decide) ?_
  refine ite_or (fun h => by rw [h]; decide) ?_
  refine ite_or (fun h => by rw [h]; decide) ?_
  refine ite_or (fun h => by rw [h]; decide) ?_
  refine ite_or (fun h => by rw [h]; decide) ?_
  refine ite_or (fun h => by rw [h]; decide) ?_
  exact ⟨false, rfl, fun h => by cases h⟩
structure PN (t : List Node) (k : Nat) : Prop where
  out : ∃ v, t[k]? = some v ∧ ((v.kind = 3 ∧ v.tag ∈ body :: ptags ∧ NA v.attrs) ∨ (v.kind = 4 ∧ ∀ c ∈ v.text, c ≠ 13) ∨ (v.kind = 5 ∧ ∀ c ∈ v.text, c ≠ 38 ∧ c ≠ 62))
set_option maxHeartbeats 1000000 in
theorem plainKids_ex {t : List Node} (hR : RT t) : ∀ (n a : Nat), a < t.length → sz t a ≤ n → ∃ b, m_spec_PlainKids n (t, (a : Int)) = some b ∧ (b = true → ∀ k, a < k → k < a + sz t a → PN t k) := by
  have h200 := hR.len
  intro n
  induction n with
  | zero =>
    intro a ha hn
    obtain ⟨_, _, _, h, _⟩ := hR.lam.ok a (Nat.zero_le _) ha
    omega
  | succ n ih =>
    intro a ha hn
    obtain ⟨u, hu, hus, h1, hae⟩ := hR.lam.ok a (Nat.zero_le _) ha
    have hLa := hR.lam.sub (Nat.zero_le _) ha
    have key : ∀ (m k : Nat) (tx : Bool), a + sz t a - k = m → a + 1 ≤ k → k ≤ a + sz t a → (∃ y, loopO (m_spec_PlainKids_0 (m_spec_PlainKids n)) (t, (a : Int), tx, (k : Int)) = some y ∧ (y = .inr false ∨ y = .inl () ∧ ∀ j, k ≤ j → j < a + sz t a → PN t j)) := by
      intro m
      induction m using Nat.strongRecOn with
      | ind m ihm =>
        intro k tx hm hk1 hk2
        by_cases hk : k < a + sz t a
        · obtain ⟨v, hv, hvs, hv1, hve⟩ := hLa.ok k (by omega) hk
          have hkt : k < t.length := by omega
          have hN := hR.node k v hv
          obtain ⟨x1, x2⟩ := hR.txt k v hv
          have hsk : v.kind ≠ 3 → v.kind ≠ 1 → sz t k = 1 := hN.k2
          have step : m_spec_PlainKids_0 (m_spec_PlainKids n) (t, (a : Int), tx, (k : Int)) = some (.out (.inr false)) ∨ ∃ tx', m_spec_PlainKids_0 (m_spec_PlainKids n) (t, (a : Int), tx, (k : Int)) = some (.nx (t, (a : Int), tx', ((k + sz t k : Nat) : Int))) ∧ ∀ j, k ≤ j → j < k + sz t k → PN t j := by
            simp only [m_spec_PlainKids_0, cond_dec, atI_nat, hu, hv, bind_some, hus, hvs]
            rw [w64 (n := (a : Int) + (sz t a : Int)) (by omega) (by omega), if_pos (by omega), w64 (n := (k : Int) + (sz t k : Int)) (by omega) (by omega)]
            by_cases k3 : v.kind = 3
            · rw [if_pos k3]
              obtain ⟨b1, p1, p1'⟩ := plainTag_ex v.tag
              obtain ⟨b2, p2, p2'⟩ := plainAttrs_ex v.attrs (by have := (hN.k3 k3).2.1; omega) (fun j a' ha' => by have := x2 j a' ha'; omega)
              obtain ⟨b3, p3, p3'⟩ := ih k hkt (by omega)
              rw [p1, bind_some, p2, p3]
              cases b1 with
              | false => exact .inl rfl
              | true =>
                cases b2 with
                | false => exact .inl rfl
                | true =>
                  cases b3 with
                  | false => exact .inl rfl
                  | true =>
                    refine .inr ⟨_, rfl, fun j hj1 hj2 => ?_⟩
                    by_cases e : j = k
                    · subst e
                      exact ⟨v, hv, .inl ⟨k3, p1' rfl, p2' rfl⟩⟩
                    · exact p3' rfl j (by omega) hj2
            · rw [if_neg k3]
              by_cases k5 : v.kind = 5
              · rw [if_pos k5]
                obtain ⟨b1, p1, p1'⟩ := letters_ex v.text (by omega)
                have h1s := hsk k3 (by omega)
                rw [p1, bind_some]
                cases b1 with
                | false => exact .inl rfl
                | true =>
                  refine .inr ⟨_, rfl, fun j hj1 hj2 => ?_⟩
                  obtain rfl : j = k := by omega
                  exact ⟨v, hv, .inr (.inr ⟨k5, p1' rfl⟩)⟩
              · rw [if_neg k5]
                by_cases k4 : v.kind = 4
                · rw [if_pos k4]
                  obtain ⟨b1, p1, p1'⟩ := readText_ex v.text (by omega)
                  have h1s := hsk k3 (by omega)
                  rw [p1]
                  by_cases he : v.text = Array.toList (ByteArray.data { data := #[] })
                  · rw [if_pos he]; exact .inl rfl
                  · rw [if_neg he, bind_some]
                    cases b1 with
                    | false => exact .inl rfl
                    | true =>
                      cases tx with
                      | true => exact .inl rfl
                      | false =>
                        refine .inr ⟨_, rfl, fun j hj1 hj2 => ?_⟩
                        obtain rfl : j = k := by omega
                        exact ⟨v, hv, .inr (.inl ⟨k4, p1' rfl⟩)⟩
                · rw [if_neg k4]
                  exact .inl rfl
          rcases step with hs | ⟨tx', hs, hp⟩
          · exact ⟨_, loopO_out hs, .inl rfl⟩
          · obtain ⟨y, hy, hy'⟩ := ihm (a + sz t a - (k + sz t k)) (by omega) (k + sz t k) tx' rfl (by omega) hve
            refine ⟨y, by rw [loopO_nx hs, hy], ?_⟩
            rcases hy' with e | ⟨e, hq⟩
            · exact .inl e
            · refine .inr ⟨e, fun j hj1 hj2 => ?_⟩
              by_cases hj : j < k + sz t k
              · exact hp j hj1 hj
              · exact hq j (by omega) hj2
        · refine ⟨.inl (), loopO_out ?_, .inr ⟨rfl, fun j h1 h2 => by omega⟩⟩
          simp only [m_spec_PlainKids_0, cond_dec, atI_nat, hu, bind_some, hus]
          rw [w64 (n := (a : Int) + (sz t a : Int)) (by omega) (by omega), if_neg (by omega)]
    obtain ⟨y, hy, hy'⟩ := key _ (a + 1) false rfl (by omega) (by omega)
    simp only [m_spec_PlainKids, b_spec_PlainKids]
    rw [w64 (by omega) (by omega), show loopO (m_spec_PlainKids_0 (m_spec_PlainKids n)) (t, (a : Int), false, (a : Int) + 1) = _ from hy, bind_some]
    rcases hy' with rfl | ⟨rfl, hq⟩
    · exact ⟨false, rfl, fun h => by cases h⟩
    · exact ⟨true, rfl, fun _ k h1 h2 => hq k (by omega) h2⟩
structure PD (t : List Node) : Prop where
  rt : RT t
  pn : ∀ k, 4 ≤ k → k < t.length → PN t k
theorem plainDoc_ex (t : List Node) (hf : fits1 t = true) : ∃ b, m_spec_PlainDocument t = some b ∧ (b = true → PD t) := by
  have no : ∃ b, (some false : Option Bool) = some b ∧ (b = true → PD t) := ⟨_, rfl, fun h => by cases h⟩
  simp only [m_spec_PlainDocument, cond_dec]
  have hbig : 200 ≤ big := by have : big = 1099511627776 := rfl; omega
  generalize big = N at hbig ⊢
  obtain ⟨b, hb, hb'⟩ := Right_ex t hf
  rw [hb, bind_some]
  cases b with
  | false => exact no
  | true =>
    have hR := hb' rfl
    have h200 := hR.len
    simp only [Bool.not_true, cond_false]
    by_cases h5 : (t.length : Int) < 5
    · rw [if_pos h5]; exact no
    rw [if_neg h5]
    obtain ⟨v1, g1⟩ := get_lt (l := t) (k := 1) (by omega)
    obtain ⟨v2, g2⟩ := get_lt (l := t) (k := 2) (by omega)
    obtain ⟨v3, g3⟩ := get_lt (l := t) (k := 3) (by omega)
    obtain ⟨v4, g4⟩ := get_lt (l := t) (k := 4) (by omega)
    have q1 : atI t (1 : Int) = some v1 := (atI_nat t 1).trans g1
    have q2 : atI t (2 : Int) = some v2 := (atI_nat t 2).trans g2
    have q3 : atI t (3 : Int) = some v3 := (atI_nat t 3).trans g3
    have q4 : atI t (4 : Int) = some v4 := (atI_nat t 4).trans g4
    have q5 : IntKind.wrap .i64 ((t.length : Int) - 2) = (t.length : Int) - 2 := w64 (by omega) (by omega)
    have q6 : IntKind.wrap .i64 ((t.length : Int) - 4) = (t.length : Int) - 4 := w64 (by omega) (by omega)
    have attrs : ∀ (k : Nat) (v : Node), t[k]? = some v → ∃ b, m_spec_plainAttrs v.attrs = some b ∧ (b = true → NA v.attrs) := fun k v hv => by
      have hN := hR.node k v hv
      have hlen : v.attrs.length ≤ 2147483647 := by
        by_cases k3 : v.kind = 3
        · have := (hN.k3 k3).2.1; omega
        · rw [(hN.k4 k3).2]; simp
      exact plainAttrs_ex v.attrs hlen fun j a ha => by have := (hR.txt k v hv).2 j a ha; omega
    obtain ⟨b2, p2, _⟩ := attrs 2 v2 g2
    obtain ⟨b4, p4, p4'⟩ := attrs 4 v4 g4
    have hs4 := sz_some g4
    obtain ⟨w4, hw4, hw4s, hw41, hw42⟩ := hR.lam.ok 4 (by omega) (by omega)
    obtain ⟨bk, pk, pk'⟩ := plainKids_ex hR N 4 (by omega) (by omega)
    have pk : m_spec_PlainKids N (t, (4 : Int)) = some bk := pk
    rw [q1, bind_some]
    refine ite_no fun _ => ?_
    rw [bind_some]
    refine ite_no fun _ => ?_
    rw [q2, bind_some, q3, bind_some, q4, bind_some, q5, q6, p2, p4, pk]
    refine ite_no fun _ => ite_no fun _ => ite_no fun _ => ite_no fun _ => ite_no fun _ => ite_no fun htag => ite_no fun hsz => ?_
    cases b2 with
    | false => exact no
    | true =>
      cases b4 with
      | false => exact no
      | true =>
        cases bk with
        | false => exact no
        | true =>
          refine ⟨true, rfl, fun _ => ⟨hR, fun k h1 h2 => ?_⟩⟩
          have htag : v4.tag = body := Classical.not_not.1 htag
          have hsz : v4.size = (t.length : Int) - 4 := Classical.not_not.1 hsz
          by_cases e : k = 4
          · subst e
            have k3 : v4.kind = 3 := Classical.byContradiction fun h => by
              have := ((hR.node 4 v4 g4).k4 h).1
              rw [htag] at this
              cases this
            exact ⟨v4, g4, .inl ⟨k3, by rw [htag]; simp, p4' rfl⟩⟩
          · exact pk' rfl k (by omega) (by omega)
end Go.Proofs.YtpedmnlpccngiaaDoor.V
