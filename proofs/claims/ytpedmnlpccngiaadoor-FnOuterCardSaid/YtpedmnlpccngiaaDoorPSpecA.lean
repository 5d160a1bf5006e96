/-
  Plain facts of the reference: what its functions answer. No program in sight.
-/
import Derived.Test.YtpedmnlpccngiaaDoorPBase
import Derived.Test.YtpedmnlpccngiaaDoorSpecB
set_option linter.unusedVariables false
set_option linter.unusedSimpArgs false
namespace Go.Proofs.YtpedmnlpccngiaaDoor.V
open Go

theorem some_ex {α : Type} (a : α) : ∃ b, some a = some b := ⟨a, rfl⟩
/-- Nothing is longer than 2147483647. -/
def fits4 (a : Attr) : Bool := decide (a.key.length ≤ 2147483647) && decide (a.val.length ≤ 2147483647)
def fits3 (l : List Attr) : Bool := decide (l.length ≤ 2147483647) && l.all fits4
def fits2 (n : Node) : Bool := decide (n.tag.length ≤ 2147483647) && decide (n.text.length ≤ 2147483647) && fits3 n.attrs
def fits1 (t : List Node) : Bool := decide (t.length ≤ 2147483647) && t.all fits2
theorem zz4 (a : Attr) : m_laws_zzFits4 a = some (fits4 a) := by
  simp only [m_laws_zzFits4, cond_dec, fits4]
  split
  · rename_i h; rw [decide_eq_false (by omega)]; rfl
  · rename_i h
    split
    · rename_i h2; rw [decide_eq_false (p := a.val.length ≤ _) (by omega), Bool.and_false]
    · rename_i h2; rw [decide_eq_true (by omega), decide_eq_true (by omega)]; rfl
theorem zz3 (l : List Attr) : m_laws_zzFits3 l = some (fits3 l) := by
  simp only [m_laws_zzFits3, cond_dec, fits3]
  split
  · rw [decide_eq_false (by omega)]; rfl
  · rename_i hl
    have h := loop_all (body := m_laws_zzFits3_0) l fits4 (fun k => (l, (l.length : Int), (k : Int))) (.inl ()) (.inr false) (fun k v hv => by
      have hk := (List.getElem?_eq_some_iff.1 hv).1
      simp only [m_laws_zzFits3_0, cond_dec, atI_nat]
      rw [if_pos (by omega), hv, bind_some, show m_laws_zzFits4 { key := v.key, val := v.val } = some (fits4 v) from zz4 v, bind_some, not_cond, w64 (by omega) (by omega)]
      cases fits4 v <;> rfl) (by
      simp only [m_laws_zzFits3_0, cond_dec]
      rw [if_neg (by omega)]) 0 (Nat.zero_le _)
    rw [show loopO m_laws_zzFits3_0 (l, (l.length : Int), (0 : Int)) = _ from h, bind_some, decide_eq_true (by omega)]
    simp only [List.drop_zero, Bool.true_and]
    cases l.all fits4 <;> rfl
theorem zz2 (n : Node) : m_laws_zzFits2 n = some (fits2 n) := by
  simp only [m_laws_zzFits2, cond_dec, fits2, zz3, bind_some]
  split
  · rw [decide_eq_false (by omega)]; rfl
  · split
    · rw [decide_eq_false (p := n.text.length ≤ _) (by omega), Bool.and_false]; rfl
    · rw [decide_eq_true (by omega), decide_eq_true (by omega)]
      cases fits3 n.attrs <;> rfl
theorem zz1 (l : List Node) : m_laws_zzFits1 l = some (fits1 l) := by
  simp only [m_laws_zzFits1, cond_dec, fits1]
  split
  · rw [decide_eq_false (by omega)]; rfl
  · rename_i hl
    have h := loop_all (body := m_laws_zzFits1_0) l fits2 (fun k => (l, (l.length : Int), (k : Int))) (.inl ()) (.inr false) (fun k v hv => by
      have hk := (List.getElem?_eq_some_iff.1 hv).1
      simp only [m_laws_zzFits1_0, cond_dec, atI_nat]
      rw [if_pos (by omega), hv, bind_some, show m_laws_zzFits2 { kind := v.kind, tag := v.tag, text := v.text, attrs := v.attrs, size := v.size } = some (fits2 v) from zz2 v, bind_some, not_cond, w64 (by omega) (by omega)]
      cases fits2 v <;> rfl) (by
      simp only [m_laws_zzFits1_0, cond_dec]
      rw [if_neg (by omega)]) 0 (Nat.zero_le _)
    rw [show loopO m_laws_zzFits1_0 (l, (l.length : Int), (0 : Int)) = _ from h, bind_some, decide_eq_true (by omega)]
    simp only [List.drop_zero, Bool.true_and]
    cases l.all fits2 <;> rfl
theorem name_ex (s : List UInt8) (hs : s.length ≤ 2147483647) : ∃ b, m_spec_Name s = some b := by
  simp only [m_spec_Name, cond_dec, atI_zero]
  split
  · exact some_ex _
  · split
    · exact some_ex _
    · rename_i h1 h2
      obtain ⟨c, hc⟩ := get_lt (l := s) (k := 0) (by omega)
      rw [hc]
      simp only [bind_some]
      split
      · exact some_ex _
      · split
        · exact some_ex _
        · obtain ⟨b, h, _⟩ := loopO_up (body := m_spec_Name_0) (st := fun k => (s, ((k + 1 : Nat) : Int))) (s.length - 1) (fun _ => True) (fun k hk => by
            simp only [m_spec_Name_0, cond_dec, atI_nat]
            split
            · rename_i h3
              obtain ⟨v, hv⟩ := get_lt (l := s) (k := k + 1) (by omega)
              rw [hv]
              simp only [bind_some]
              rw [w64 (by omega) (by omega)]
              have hnx : ∀ (p : Prop) [Decidable p] (a b : Option (Stp (Tup p_spec_Name_0) (SumT (x_spec_Name_0.map (·.2))))), cond (!decide p) a b = if p then b else a := fun p _ a b => by by_cases h : p <;> simp [h]
              simp only [hnx]
              repeat' split
              all_goals first | exact .inl ⟨_, rfl, trivial⟩ | exact .inr ⟨by omega, rfl⟩
            · exact .inl ⟨_, rfl, trivial⟩) 0 (by omega)
          have h' : loopO m_spec_Name_0 (s, (1 : Int)) = some b := h
          rw [h', bind_some]
          cases b <;> exact some_ex _
theorem point0 (s : List UInt8) (a : Nat) (p least r : Int) (hr : 0 ≤ r) (h : (a : Int) + r < s.length) (hl : s.length ≤ 2147483647) : ∃ y, loopO m_spec_Point_0 (s, (a : Int), p, least, r, (1 : Int)) = some y ∧ (∀ a b c, y = .inl (a, b, c) → c = r) ∧ ∀ a b, y = .inr (a, b) → a = 0 ∧ b = 0 := by
  refine loopO_rule (body := m_spec_Point_0) (fun x => ∃ (p : Int) (k : Nat), x = (s, (a : Int), p, least, r, (k : Int)) ∧ 1 ≤ k ∧ (k : Int) ≤ r + 1) (fun _ y => (∀ a b c, y = .inl (a, b, c) → c = r) ∧ ∀ a b, y = .inr (a, b) → a = 0 ∧ b = 0) (fun x => (r + 1 - x.2.2.2.2.2).toNat) (fun x hx => ?_) _ ⟨p, 1, rfl, by omega, by omega⟩
  obtain ⟨p, k, rfl, h1, h2⟩ := hx
  simp only [m_spec_Point_0, cond_dec]
  split
  · rename_i h3
    rw [w64 (by omega) (by omega)]
    have e : (a : Int) + (k : Int) = ((a + k : Nat) : Int) := by omega
    rw [e, atI_nat]
    obtain ⟨c, hc⟩ := get_lt (l := s) (k := a + k) (by omega)
    rw [hc]
    simp only [bind_some]
    split
    · exact .inl ⟨_, rfl, (fun _ _ _ e => by cases e), fun _ _ e => by cases e; exact ⟨rfl, rfl⟩⟩
    · split
      · exact .inl ⟨_, rfl, (fun _ _ _ e => by cases e), fun _ _ e => by cases e; exact ⟨rfl, rfl⟩⟩
      · have hs : ∀ q : Int, shlI .i64 q 6 = some (IntKind.wrap .i64 (q * 2 ^ min (6 : Int).toNat IntKind.i64.bits)) := fun q => by simp [shlI]
        rw [hs]
        simp only [bind_some]
        refine .inr ⟨_, rfl, ⟨_, k + 1, by rw [w64 (n := (k : Int) + 1) (by omega) (by omega)]; rfl, by omega, by omega⟩, ?_, fun _ h => h⟩
        simp only
        rw [w64 (n := (k : Int) + 1) (by omega) (by omega)]
        omega
  · exact .inl ⟨_, rfl, (fun _ _ _ e => by cases e; rfl), fun _ _ e => by cases e⟩
def PtOK (s : List UInt8) (a : Nat) (o : Option (Int × Int)) : Prop := ∃ p n : Int, o = some (p, n) ∧ 0 ≤ n ∧ (a : Int) + n ≤ s.length
theorem ite_ok {α : Type} {P : α → Prop} {c : Prop} [Decidable c] {x y : α} (h1 : c → P x) (h2 : ¬ c → P y) : P (if c then x else y) := by by_cases h : c <;> simp [h, h1, h2]
theorem point_ok (s : List UInt8) (a : Nat) (ha : a < s.length) (hl : s.length ≤ 2147483647) : PtOK s a (m_spec_Point (s, (a : Int))) := by
  obtain ⟨c, hc⟩ := get_lt (l := s) (k := a) ha
  have fin : ∀ (p least r : Int), 0 ≤ r → (a : Int) + r < s.length → PtOK s a (Option.bind (loopO m_spec_Point_0 (s, (a : Int), p, least, r, (1 : Int))) fun (y : Int × Int × Int ⊕ Int × Int) => selim (fun (y : Int × Int × Int) => if y.1 < y.2.1 then some ((0 : Int), (0 : Int)) else if (1114111 : Int) < y.1 then some ((0 : Int), (0 : Int)) else if (55296 : Int) ≤ y.1 then if y.1 < (57344 : Int) then some ((0 : Int), (0 : Int)) else some (y.1, IntKind.wrap .i64 (y.2.2 + (1 : Int))) else some (y.1, IntKind.wrap .i64 (y.2.2 + (1 : Int)))) (fun (y : Int × Int) => some (y.1, y.2)) y) := fun p least r h1 h2 => by
    obtain ⟨y, g1, g2, g3⟩ := point0 s a p least r h1 h2 hl
    rw [g1, bind_some]
    rcases y with ⟨u, v, w⟩ | ⟨u, v⟩
    · obtain rfl := g2 _ _ _ rfl
      simp only [selim_l]
      rw [w64 (n := w + 1) (by omega) (by omega)]
      repeat' split
      all_goals first | exact ⟨_, _, rfl, by omega, by omega⟩
    · obtain ⟨rfl, rfl⟩ := g3 _ _ rfl
      exact ⟨_, _, rfl, by omega, by omega⟩
  simp only [m_spec_Point, cond_dec, atI_nat]
  rw [hc]
  simp only [bind_some]
  have e : IntKind.wrap .i64 ((s.length : Int) - (a : Int)) = (s.length : Int) - (a : Int) := w64 (by omega) (by omega)
  simp only [e]
  repeat' (refine ite_ok (P := PtOK s a) (fun _ => ?_) (fun _ => ?_))
  all_goals first | exact ⟨_, _, rfl, by omega, by omega⟩ | (refine fin _ _ _ ?_ ?_ <;> omega)
theorem point_ex (s : List UInt8) (a : Nat) (ha : a < s.length) (hl : s.length ≤ 2147483647) : ∃ p n : Int, m_spec_Point (s, (a : Int)) = some (p, n) ∧ 0 ≤ n ∧ (a : Int) + n ≤ s.length := point_ok s a ha hl
theorem plain_ex (s : List UInt8) (hl : s.length ≤ 2147483647) : ∃ b, m_spec_Plain s = some b := by
  simp only [m_spec_Plain]
  obtain ⟨b, h, _⟩ := loopO_rule (body := m_spec_Plain_0) (fun x => ∃ k : Nat, x = (s, (k : Int)) ∧ k ≤ s.length) (fun _ _ => True) (fun x => ((s.length : Int) - x.2).toNat) (fun x hx => by
    obtain ⟨k, rfl, hk⟩ := hx
    simp only [m_spec_Plain_0, cond_dec]
    split
    · rename_i h1
      obtain ⟨p, n, h2, h3, h4⟩ := point_ex s k (by omega) hl
      rw [h2, bind_some]
      simp only
      split
      · exact .inl ⟨_, rfl, trivial⟩
      · split
        · exact .inl ⟨_, rfl, trivial⟩
        · refine .inr ⟨_, rfl, ⟨k + n.toNat, ?_, by omega⟩, ?_, fun _ h => h⟩
          · rw [w64 (n := (k : Int) + n) (by omega) (by omega)]
            have e : (k : Int) + n = ((k + n.toNat : Nat) : Int) := by omega
            rw [e]
          · simp only
            rw [w64 (n := (k : Int) + n) (by omega) (by omega)]
            omega
    · exact .inl ⟨_, rfl, trivial⟩) (s, (0 : Int)) ⟨0, rfl, Nat.zero_le _⟩
  rw [h, bind_some]
  cases b <;> exact some_ex _
end Go.Proofs.YtpedmnlpccngiaaDoor.V
