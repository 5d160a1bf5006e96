/-
  FnTestAttr's model answers true. Plain facts.
-/
import Derived.Test.YtldldchdkcmojaaPTrim
import Derived.Test.YtldldchdkcmojaaPText
import Derived.Test.YtldldchdkcmojaaPInc
import Derived.Test.YtldldchdkcmojaaLwTest
set_option linter.unusedVariables false
set_option linter.unusedSimpArgs false
namespace Go.Proofs.Ytldldchdkcmojaa.V
open Go

/-- Small, if that is asked for. -/
def fo (ig : Bool) (s : List UInt8) : List UInt8 := if ig then s.map low else s
theorem fo_len (ig : Bool) (s : List UInt8) : (fo ig s).length = s.length := by cases ig <;> simp [fo]
theorem fo_take (ig : Bool) (s : List UInt8) (n : Nat) : fo ig (s.take n) = (fo ig s).take n := by cases ig <;> simp [fo]
theorem fo_get (ig : Bool) (s : List UInt8) (n : Nat) : (fo ig s)[n]? = (s[n]?).map fun c => if ig then low c else c := by cases ig <;> simp [fo]
theorem fo_nil {ig : Bool} {s : List UInt8} : fo ig s = [] ↔ s = [] := by cases ig <;> simp [fo]
theorem zzLow_eq (s : List UInt8) (hs : s.length ≤ 2147483647) : m_cascadia_zzToLower s = some (s.map low) := by
  simp only [m_cascadia_zzToLower]
  have key : ∀ m k, s.length - k = m → k ≤ s.length → loopO m_cascadia_zzToLower_0 ((s.take k).map low ++ s.drop k, (), (s.length : Int), (k : Int)) = some (s.map low) := by
    intro m
    induction m with
    | zero =>
      intro k hm hk
      have : k = s.length := by omega
      subst this
      refine loopO_out ?_
      simp only [m_cascadia_zzToLower_0, cond_dec]
      rw [if_neg (by simp)]
      simp
    | succ m ih =>
      intro k hm hk
      obtain ⟨c, hc⟩ := get_lt (l := s) (k := k) (by omega)
      have hc2 := c.toNat_lt
      have hd : s.drop k = c :: s.drop (k + 1) := by
        obtain ⟨h1, h2⟩ := List.getElem?_eq_some_iff.1 hc
        rw [← h2]
        exact List.drop_eq_getElem_cons h1
      have hget : ((s.take k).map low ++ s.drop k)[k]? = some c := by
        rw [List.getElem?_append_right (by simp; omega), List.length_map, List.length_take, Nat.min_eq_left hk, Nat.sub_self, hd]
        rfl
      have hnx : ∀ c', (s.take k).map low ++ c' :: s.drop (k + 1) = (s.take k).map low ++ [c'] ++ s.drop (k + 1) := fun c' => by simp
      have htk : (s.take (k + 1)).map low = (s.take k).map low ++ [low c] := by rw [List.take_add_one, hc]; simp
      have step : m_cascadia_zzToLower_0 ((s.take k).map low ++ s.drop k, (), (s.length : Int), (k : Int)) = some (.nx ((s.take (k + 1)).map low ++ s.drop (k + 1), (), (s.length : Int), ((k + 1 : Nat) : Int))) := by
        simp only [m_cascadia_zzToLower_0, cond_dec, atI_nat, hget, Int.toNat_natCast]
        rw [if_pos (by omega)]
        simp only [bind_some]
        rw [w64 (by omega) (by omega), htk]
        by_cases h1 : 65 ≤ c.toNat
        · rw [if_pos (by omega)]
          by_cases h2 : c.toNat ≤ 90
          · rw [if_pos (by omega), wrap_u8 (n := (c.toNat : Int) + 97) (by omega) (by omega), wrap_u8 (by omega) (by omega), show ((c.toNat : Int) + 97 - 65) = ((c.toNat + 32 : Nat) : Int) by omega, byteI_nat (by omega), bind_some]
            have hlow : low c = UInt8.ofNat (c.toNat + 32) := by unfold low; rw [if_pos ⟨h1, h2⟩]
            have hset : ((s.take k).map low ++ s.drop k).set k (UInt8.ofNat (c.toNat + 32)) = (s.take k).map low ++ [low c] ++ s.drop (k + 1) := by
              rw [List.set_append_right _ _ (by simp; omega), List.length_map, List.length_take, Nat.min_eq_left hk, Nat.sub_self, hd, hlow, List.set_cons_zero]
              simp
            rw [hset]
            rfl
          · rw [if_neg (by omega)]
            have hlow : low c = c := by unfold low; rw [if_neg (by omega)]
            rw [hlow, hd, hnx]
            rfl
        · rw [if_neg (by omega)]
          have hlow : low c = c := by unfold low; rw [if_neg (by omega)]
          rw [hlow, hd, hnx]
          rfl
      rw [loopO_nx step]
      exact ih (k + 1) (by omega) (by omega)
  rw [show loopO m_cascadia_zzToLower_0 (s, (), (s.length : Int), (0 : Int)) = _ from key s.length 0 (by omega) (Nat.zero_le _), bind_some, castE_self, bind_some]
theorem ins_eq (m v : List UInt8) (ig : Bool) (hm : m.length ≤ 2147483647) (hv : v.length ≤ 2147483647) : m_cascadia_matchInsensitiveValue (m, v, ig) = some (decide (fo ig m = fo ig v)) := by
  simp only [m_cascadia_matchInsensitiveValue, m_cascadia_zzEqualFold]
  cases ig
  · rfl
  · rw [zzLow_eq m hm, zzLow_eq v hv]
    rfl
theorem low_sp (c : UInt8) : isSp (low c) = isSp c := by
  have hc := c.toNat_lt
  unfold low
  split
  · rename_i h
    have e : (UInt8.ofNat (c.toNat + 32)).toNat = c.toNat + 32 := by rw [UInt8.toNat_ofNat']; omega
    simp only [isSp, e]
    rw [decide_eq_false (by omega), decide_eq_false (by omega), decide_eq_false (by omega), decide_eq_false (by omega), decide_eq_false (by omega), decide_eq_false (p := c.toNat = 32) (by omega), decide_eq_false (p := c.toNat = 9) (by omega), decide_eq_false (p := c.toNat = 10) (by omega), decide_eq_false (p := c.toNat = 13) (by omega), decide_eq_false (p := c.toNat = 12) (by omega)]
  · rfl
theorem pcs_low : ∀ s : List UInt8, pcs (s.map low) = (pcs s).map (List.map low)
  | [] => rfl
  | c :: s => by
    simp only [List.map_cons, pcs, low_sp]
    split
    · rw [pcs_low s]; rfl
    · rw [pcs_low s]
      cases hp : pcs s with
      | nil => exact absurd hp (pcs_cons_ne c s)
      | cons p ps => rfl
theorem pcs_fo (ig : Bool) (s : List UInt8) : pcs (fo ig s) = (pcs s).map (fo ig) := by
  cases ig
  · show pcs s = (pcs s).map fun s => s
    simp
  · exact pcs_low s
theorem inc_eq (v s : List UInt8) (ig : Bool) (hv : v ≠ []) (hvl : v.length ≤ 2147483647) (hs : s.length ≤ 2147483647) : m_cascadia_matchInclude (v, s, ig) = some (decide (fo ig v ∈ pcs (fo ig s))) := by
  rw [include_eq v ig (fun m => decide (fo ig m = fo ig v)) 2147483647 (Nat.le_refl _) (by
    rw [decide_eq_false_iff_not]
    intro e
    exact hv (fo_nil.1 (e.symm.trans (fo_nil.2 rfl)))) (fun m hm => ins_eq m v ig hm hvl) s hs, pcs_fo]
  congr 1
  rw [Bool.eq_iff_iff, List.any_eq_true, decide_eq_true_eq, List.mem_map]
  constructor
  · rintro ⟨x, hx, h⟩
    exact ⟨x, hx, by simpa using h⟩
  · rintro ⟨x, hx, h⟩
    exact ⟨x, hx, by simpa using h⟩
theorem low_45 (c : UInt8) (ig : Bool) : (if ig then low c else c) = 45 ↔ c.toNat = 45 := by
  have hc := c.toNat_lt
  have e0 : ∀ d : UInt8, d = 45 ↔ d.toNat = 45 := fun d => ⟨fun h => by rw [h]; rfl, fun h => UInt8.toNat_inj.1 (by rw [h]; rfl)⟩
  cases ig
  · exact e0 c
  · rw [if_pos rfl, e0]
    unfold low
    split
    · rename_i h
      rw [UInt8.toNat_ofNat']
      omega
    · rfl
theorem dash_eq (s v : List UInt8) (ig : Bool) (hs : s.length ≤ 2147483647) (hv : v.length ≤ 2147483647) : m_cascadia_attributeDashMatch_1 (s, v, ig) = some (decide (fo ig s = fo ig v) || pre (fo ig s) (fo ig v ++ [45])) := by
  simp only [m_cascadia_attributeDashMatch_1, cond_dec]
  rw [ins_eq s v ig hs hv, bind_some]
  cases h1 : decide (fo ig s = fo ig v)
  · simp only [cond_false, Bool.false_or]
    by_cases h2 : s.length ≤ v.length
    · rw [if_pos (by omega), pre_long (by simp [fo_len]; omega)]
    · obtain ⟨c, hc⟩ := get_lt (l := s) (k := v.length) (by omega)
      have e : pre (fo ig s) (fo ig v ++ [45]) = (decide (fo ig (s.take v.length) = fo ig v) && decide (c.toNat = 45)) := by
        unfold pre
        rw [List.length_append, List.length_singleton, fo_len, List.take_add_one, fo_get, hc, fo_take, Bool.eq_iff_iff, Bool.and_eq_true, decide_eq_true_eq, decide_eq_true_eq, decide_eq_true_eq]
        simp only [Option.map_some, Option.toList_some]
        have hi : ((fo ig s).take v.length ++ [if ig then low c else c] = fo ig v ++ [45]) ↔ ((fo ig s).take v.length = fo ig v ∧ [if ig then low c else c] = [(45 : UInt8)]) := ⟨fun h => List.append_inj h (by rw [List.length_take, fo_len, fo_len]; omega), fun h => by rw [h.1, h.2]⟩
        rw [hi]
        simp [low_45]
      rw [if_neg (by omega), show subL s (0 : Int) (v.length : Int) = _ from subL_nat' (lo := 0) s (Nat.zero_le _) (by omega), bind_some, List.drop_zero, ins_eq _ v ig (by rw [List.length_take]; omega) hv, bind_some, e]
      cases decide (fo ig (s.take v.length) = fo ig v)
      · rfl
      · simp only [cond_true, atI_nat, hc, bind_some, Bool.true_and]
        by_cases h : c.toNat = 45
        · rw [if_pos (by omega), decide_eq_true h]
        · rw [if_neg (by omega), decide_eq_false h]
  · rfl
theorem prefix_eq (s p : List UInt8) : m_strings_HasPrefix (s, p) = some (pre s p) := by
  simp only [m_strings_HasPrefix, m_internal_stringslite_HasPrefix, cond_dec]
  by_cases h : p.length ≤ s.length
  · rw [if_pos (by omega), show subL s (0 : Int) (p.length : Int) = _ from subL_nat' (lo := 0) s (Nat.zero_le _) (by omega), bind_some, bind_some, List.drop_zero]
    rfl
  · rw [if_neg (by omega), pre_long (by omega)]
    rfl
def suf (s p : List UInt8) : Bool := decide (p.length ≤ s.length) && decide (s.drop (s.length - p.length) = p)
theorem suffix_eq (s p : List UInt8) (hs : s.length ≤ 2147483647) (hp : p.length ≤ 2147483647) : m_strings_HasSuffix (s, p) = some (suf s p) := by
  simp only [m_strings_HasSuffix, m_internal_stringslite_HasSuffix, cond_dec, suf]
  by_cases h : p.length ≤ s.length
  · rw [if_pos (by omega), w64 (by omega) (by omega), show (s.length : Int) - (p.length : Int) = ((s.length - p.length : Nat) : Int) by omega, subL_nat' s (by omega) (Nat.le_refl _), bind_some, bind_some, List.take_length, decide_eq_true h]
    rfl
  · rw [if_neg (by omega), decide_eq_false h]
    rfl
theorem stands_suf (s p : List UInt8) (hs : s.length ≤ 2147483647) (hp : p.length ≤ 2147483647) : m_spec_stands (s, IntKind.wrap .i64 ((s.length : Int) - (p.length : Int)), p) = some (suf s p) := by
  rw [w64 (by omega) (by omega)]
  by_cases h : p.length ≤ s.length
  · rw [show (s.length : Int) - (p.length : Int) = ((s.length - p.length : Nat) : Int) by omega, stands_eq s p _ hs (by omega) (by omega)]
    unfold pre suf
    rw [decide_eq_true h, Bool.true_and, List.take_of_length_le (by rw [List.length_drop]; omega)]
  · simp only [m_spec_stands, cond_dec]
    rw [if_neg (by omega)]
    unfold suf
    rw [decide_eq_false h]
    rfl
/-- Both look for a part alike. -/
theorem part_eq (s p : List UInt8) (hs : s.length ≤ 2147483647) (hp : p.length ≤ 2147483647) : ∃ b, m_spec_inside (s, p) = some b ∧ m_cascadia_zzContains (s, p) = some b := by
  have key : ∀ m (k : Nat), s.length - k = m → k ≤ s.length → ∃ y : Option Nat, loopO m_spec_inside_0 (s, p, (k : Int)) = some (if y.isSome then .inr true else .inl ()) ∧ loopO m_cascadia_zzIndex_0 (s, p, (k : Int)) = some (match y with | some i => .inr (i : Int) | none => .inl ()) := by
    have stop : ∀ k : Nat, s.length < k + p.length → k ≤ 2147483648 → ∃ y : Option Nat, loopO m_spec_inside_0 (s, p, (k : Int)) = some (if y.isSome then .inr true else .inl ()) ∧ loopO m_cascadia_zzIndex_0 (s, p, (k : Int)) = some (match y with | some i => .inr (i : Int) | none => .inl ()) := fun k hk hk2 => by
      refine ⟨none, loopO_out ?_, loopO_out ?_⟩
      · simp only [m_spec_inside_0, cond_dec]
        rw [w64 (by omega) (by omega), if_neg (by omega)]
        rfl
      · simp only [m_cascadia_zzIndex_0, cond_dec]
        rw [w64 (by omega) (by omega), if_neg (by omega)]
    have go : ∀ k : Nat, k + p.length ≤ s.length → m_spec_inside_0 (s, p, (k : Int)) = some (if pre (s.drop k) p then .out (.inr true) else .nx (s, p, ((k + 1 : Nat) : Int))) ∧ m_cascadia_zzIndex_0 (s, p, (k : Int)) = some (if pre (s.drop k) p then .out (.inr (k : Int)) else .nx (s, p, ((k + 1 : Nat) : Int))) := fun k hk => by
      constructor
      · simp only [m_spec_inside_0, cond_dec]
        rw [w64 (by omega) (by omega), if_pos (by omega), stands_eq s p k hs (by omega) (by omega), bind_some, w64 (by omega) (by omega)]
        cases pre (s.drop k) p <;> rfl
      · simp only [m_cascadia_zzIndex_0, cond_dec]
        rw [w64 (by omega) (by omega), if_pos (by omega), show ((k : Int) + (p.length : Int)) = ((k + p.length : Nat) : Int) by omega, subL_nat' s (by omega) hk, bind_some, w64 (by omega) (by omega)]
        have e : pre (s.drop k) p = decide ((s.take (k + p.length)).drop k = p) := by
          unfold pre
          rw [List.take_add, List.drop_left' (by rw [List.length_take]; omega)]
        rw [e]
        by_cases h : (s.take (k + p.length)).drop k = p
        · rw [if_pos h, decide_eq_true h]; rfl
        · rw [if_neg h, decide_eq_false h]; rfl
    intro m
    induction m with
    | zero =>
      intro k hm hk
      by_cases hkp : k + p.length ≤ s.length
      · obtain ⟨g1, g2⟩ := go k hkp
        by_cases hpre : pre (s.drop k) p = true
        · rw [if_pos hpre] at g1 g2
          exact ⟨some k, loopO_out g1, loopO_out g2⟩
        · rw [if_neg hpre] at g1 g2
          rw [loopO_nx g1, loopO_nx g2]
          exact stop (k + 1) (by omega) (by omega)
      · exact stop k (by omega) (by omega)
    | succ m ih =>
      intro k hm hk
      by_cases hkp : k + p.length ≤ s.length
      · obtain ⟨g1, g2⟩ := go k hkp
        by_cases hpre : pre (s.drop k) p = true
        · rw [if_pos hpre] at g1 g2
          exact ⟨some k, loopO_out g1, loopO_out g2⟩
        · rw [if_neg hpre] at g1 g2
          rw [loopO_nx g1, loopO_nx g2]
          exact ih (k + 1) (by omega) (by omega)
      · exact stop k (by omega) (by omega)
  obtain ⟨y, h1, h2⟩ := key s.length 0 (by omega) (Nat.zero_le _)
  refine ⟨y.isSome, ?_, ?_⟩
  · simp only [m_spec_inside]
    rw [show loopO m_spec_inside_0 (s, p, (0 : Int)) = _ from h1, bind_some]
    cases y <;> rfl
  · simp only [m_cascadia_zzContains, m_cascadia_zzIndex]
    rw [show loopO m_cascadia_zzIndex_0 (s, p, (0 : Int)) = _ from h2, bind_some]
    cases y with
    | none => rfl
    | some i =>
      simp only [selim_r, bind_some]
      simp
theorem low_wsp {c : UInt8} (hc : c.toNat < 128) : wsp ((low c).toNat : Int) ↔ wsp (c.toNat : Int) := by
  unfold low
  split
  · rename_i h
    rw [UInt8.toNat_ofNat']
    unfold wsp
    omega
  · exact Iff.rfl
theorem low_lt {c : UInt8} (hc : c.toNat < 128) : (low c).toNat < 128 := by
  unfold low
  split
  · rw [UInt8.toNat_ofNat']; omega
  · exact hc
theorem point_low {s : List UInt8} {k : Nat} {c : UInt8} (hc : s[k]? = some c) (h : c.toNat < 128) : m_spec_Point (s, (k : Int)) = some ((c.toNat : Int), 1) := by
  simp only [m_spec_Point, cond_dec, atI_nat, hc, bind_some]
  rw [w64 (by omega) (by omega), if_pos (by omega)]
theorem blank_low (s : List UInt8) (ha : isAscii s = true) (hl : s.length ≤ 2147483647) : m_spec_blankAll (s.map low) = m_spec_blankAll s := by
  have key : ∀ m (k : Nat), s.length - k = m → k ≤ s.length → loopO m_spec_blankAll_0 (s.map low, (k : Int)) = loopO m_spec_blankAll_0 (s, (k : Int)) := by
    have stop : ∀ (s : List UInt8) (k : Nat), s.length ≤ k → loopO m_spec_blankAll_0 (s, (k : Int)) = some (.inl ()) := fun s k hk => loopO_out (by
      simp only [m_spec_blankAll_0, cond_dec]
      rw [if_neg (by omega)])
    intro m
    induction m with
    | zero =>
      intro k hm hk
      rw [stop s k (by omega), stop (s.map low) k (by rw [List.length_map]; omega)]
    | succ m ih =>
      intro k hm hk
      obtain ⟨c, hc⟩ := get_lt (l := s) (k := k) (by omega)
      have hc1 : c.toNat < 128 := by
        have := List.all_eq_true.1 ha c (List.mem_of_getElem? hc)
        simpa using this
      have hc' : (s.map low)[k]? = some (low c) := by rw [List.getElem?_map, hc]; rfl
      have b1 := blank_step s k (by omega) (point_low hc hc1) (by omega) hl (by omega) (by omega)
      have b2 := blank_step (s.map low) k (by rw [List.length_map]; omega) (point_low hc' (low_lt hc1)) (by omega) (by rw [List.length_map]; omega) (by rw [List.length_map]; omega) (by omega)
      by_cases hw : wsp (c.toNat : Int)
      · rw [if_pos hw] at b1
        rw [if_pos ((low_wsp hc1).2 hw)] at b2
        rw [loopO_nx b1, loopO_nx b2]
        exact ih (k + 1) (by omega) (by omega)
      · rw [if_neg hw] at b1
        rw [if_neg (fun h => hw ((low_wsp hc1).1 h))] at b2
        rw [loopO_out b1, loopO_out b2]
  simp only [m_spec_blankAll]
  rw [show loopO m_spec_blankAll_0 (s.map low, (0 : Int)) = _ from key s.length 0 (by omega) (Nat.zero_le _)]
  rfl
/-- The element that is asked. -/
def tn (v : List UInt8) : HN := { par := none, fst := none, lst := none, prv := none, nxt := none, ty := 3, atom := 0, data := [], ns := [], attrs := [{ ns := [], key := [97], val := v }] }

theorem mt_m1 (v : List UInt8)  (r : Bool) (h : m_cascadia_attrSelector_Match_1 v = some r) : m_cascadia_matchAttribute_m1 (some 0, [97], (), [tn v]) = some r := by
  have h0 : m_cascadia_matchAttribute_m1_0 ([97], (), (tn v).attrs, (1 : Int), (0 : Int), [tn v]) = some (if r then .out (.inr (true, [tn v])) else .nx ([97], (), (tn v).attrs, (1 : Int), (1 : Int), [tn v])) := by
    simp only [m_cascadia_matchAttribute_m1_0, cond_dec]
    rw [if_pos (by omega)]
    simp only [atI_zero, tn, List.getElem?_cons_zero, bind_some, if_true]
    rw [h, bind_some, w64 (by omega) (by omega)]
    cases r <;> rfl
  have h1 : m_cascadia_matchAttribute_m1_0 ([97], (), (tn v).attrs, (1 : Int), (1 : Int), [tn v]) = some (.out (.inl [tn v])) := by
    simp only [m_cascadia_matchAttribute_m1_0, cond_dec]
    rw [if_neg (by omega)]
  simp only [m_cascadia_matchAttribute_m1, bind_some, List.getElem?_cons_zero, cond_dec]
  rw [if_neg (by simp [tn])]
  show Option.bind (loopO m_cascadia_matchAttribute_m1_0 ([97], (), (tn v).attrs, (1 : Int), (0 : Int), [tn v])) _ = _
  cases r
  · rw [loopO_nx h0, loopO_out h1]; rfl
  · rw [loopO_out h0]; rfl

theorem mt_m2 (v : List UInt8) (k : List UInt8 × List UInt8 × List UInt8 × Bool) (r : Bool) (h : m_cascadia_attrSelector_Match_2 (v, k) = some r) : m_cascadia_matchAttribute_m2 (some 0, [97], k, [tn v]) = some r := by
  have h0 : m_cascadia_matchAttribute_m2_0 ([97], k, (tn v).attrs, (1 : Int), (0 : Int), [tn v]) = some (if r then .out (.inr (true, [tn v])) else .nx ([97], k, (tn v).attrs, (1 : Int), (1 : Int), [tn v])) := by
    simp only [m_cascadia_matchAttribute_m2_0, cond_dec]
    rw [if_pos (by omega)]
    simp only [atI_zero, tn, List.getElem?_cons_zero, bind_some, if_true]
    rw [h, bind_some, w64 (by omega) (by omega)]
    cases r <;> rfl
  have h1 : m_cascadia_matchAttribute_m2_0 ([97], k, (tn v).attrs, (1 : Int), (1 : Int), [tn v]) = some (.out (.inl [tn v])) := by
    simp only [m_cascadia_matchAttribute_m2_0, cond_dec]
    rw [if_neg (by omega)]
  simp only [m_cascadia_matchAttribute_m2, bind_some, List.getElem?_cons_zero, cond_dec]
  rw [if_neg (by simp [tn])]
  show Option.bind (loopO m_cascadia_matchAttribute_m2_0 ([97], k, (tn v).attrs, (1 : Int), (0 : Int), [tn v])) _ = _
  cases r
  · rw [loopO_nx h0, loopO_out h1]; rfl
  · rw [loopO_out h0]; rfl

theorem mt_m3 (v : List UInt8) (k : List UInt8 × List UInt8 × List UInt8 × Bool) (r : Bool) (h : m_cascadia_attrSelector_Match_3 (v, k) = some r) : m_cascadia_matchAttribute_m3 (some 0, [97], k, [tn v]) = some r := by
  have h0 : m_cascadia_matchAttribute_m3_0 ([97], k, (tn v).attrs, (1 : Int), (0 : Int), [tn v]) = some (if r then .out (.inr (true, [tn v])) else .nx ([97], k, (tn v).attrs, (1 : Int), (1 : Int), [tn v])) := by
    simp only [m_cascadia_matchAttribute_m3_0, cond_dec]
    rw [if_pos (by omega)]
    simp only [atI_zero, tn, List.getElem?_cons_zero, bind_some, if_true]
    rw [h, bind_some, w64 (by omega) (by omega)]
    cases r <;> rfl
  have h1 : m_cascadia_matchAttribute_m3_0 ([97], k, (tn v).attrs, (1 : Int), (1 : Int), [tn v]) = some (.out (.inl [tn v])) := by
    simp only [m_cascadia_matchAttribute_m3_0, cond_dec]
    rw [if_neg (by omega)]
  simp only [m_cascadia_matchAttribute_m3, bind_some, List.getElem?_cons_zero, cond_dec]
  rw [if_neg (by simp [tn])]
  show Option.bind (loopO m_cascadia_matchAttribute_m3_0 ([97], k, (tn v).attrs, (1 : Int), (0 : Int), [tn v])) _ = _
  cases r
  · rw [loopO_nx h0, loopO_out h1]; rfl
  · rw [loopO_out h0]; rfl

theorem mt_Dash (v : List UInt8) (k : List UInt8 × Bool) (r : Bool) (h : m_cascadia_attributeDashMatch_1 (v, k) = some r) : m_cascadia_matchAttribute_Dash (some 0, [97], k, [tn v]) = some r := by
  have h0 : m_cascadia_matchAttribute_Dash_0 ([97], k, (tn v).attrs, (1 : Int), (0 : Int), [tn v]) = some (if r then .out (.inr (true, [tn v])) else .nx ([97], k, (tn v).attrs, (1 : Int), (1 : Int), [tn v])) := by
    simp only [m_cascadia_matchAttribute_Dash_0, cond_dec]
    rw [if_pos (by omega)]
    simp only [atI_zero, tn, List.getElem?_cons_zero, bind_some, if_true]
    rw [h, bind_some, w64 (by omega) (by omega)]
    cases r <;> rfl
  have h1 : m_cascadia_matchAttribute_Dash_0 ([97], k, (tn v).attrs, (1 : Int), (1 : Int), [tn v]) = some (.out (.inl [tn v])) := by
    simp only [m_cascadia_matchAttribute_Dash_0, cond_dec]
    rw [if_neg (by omega)]
  simp only [m_cascadia_matchAttribute_Dash, bind_some, List.getElem?_cons_zero, cond_dec]
  rw [if_neg (by simp [tn])]
  show Option.bind (loopO m_cascadia_matchAttribute_Dash_0 ([97], k, (tn v).attrs, (1 : Int), (0 : Int), [tn v])) _ = _
  cases r
  · rw [loopO_nx h0, loopO_out h1]; rfl
  · rw [loopO_out h0]; rfl

theorem mt_Prefix (v : List UInt8) (k : Bool × List UInt8) (r : Bool) (h : m_cascadia_attributePrefixMatch_1 (v, k) = some r) : m_cascadia_matchAttribute_Prefix (some 0, [97], k, [tn v]) = some r := by
  have h0 : m_cascadia_matchAttribute_Prefix_0 ([97], k, (tn v).attrs, (1 : Int), (0 : Int), [tn v]) = some (if r then .out (.inr (true, [tn v])) else .nx ([97], k, (tn v).attrs, (1 : Int), (1 : Int), [tn v])) := by
    simp only [m_cascadia_matchAttribute_Prefix_0, cond_dec]
    rw [if_pos (by omega)]
    simp only [atI_zero, tn, List.getElem?_cons_zero, bind_some, if_true]
    rw [h, bind_some, w64 (by omega) (by omega)]
    cases r <;> rfl
  have h1 : m_cascadia_matchAttribute_Prefix_0 ([97], k, (tn v).attrs, (1 : Int), (1 : Int), [tn v]) = some (.out (.inl [tn v])) := by
    simp only [m_cascadia_matchAttribute_Prefix_0, cond_dec]
    rw [if_neg (by omega)]
  simp only [m_cascadia_matchAttribute_Prefix, bind_some, List.getElem?_cons_zero, cond_dec]
  rw [if_neg (by simp [tn])]
  show Option.bind (loopO m_cascadia_matchAttribute_Prefix_0 ([97], k, (tn v).attrs, (1 : Int), (0 : Int), [tn v])) _ = _
  cases r
  · rw [loopO_nx h0, loopO_out h1]; rfl
  · rw [loopO_out h0]; rfl

theorem mt_Suffix (v : List UInt8) (k : Bool × List UInt8) (r : Bool) (h : m_cascadia_attributeSuffixMatch_1 (v, k) = some r) : m_cascadia_matchAttribute_Suffix (some 0, [97], k, [tn v]) = some r := by
  have h0 : m_cascadia_matchAttribute_Suffix_0 ([97], k, (tn v).attrs, (1 : Int), (0 : Int), [tn v]) = some (if r then .out (.inr (true, [tn v])) else .nx ([97], k, (tn v).attrs, (1 : Int), (1 : Int), [tn v])) := by
    simp only [m_cascadia_matchAttribute_Suffix_0, cond_dec]
    rw [if_pos (by omega)]
    simp only [atI_zero, tn, List.getElem?_cons_zero, bind_some, if_true]
    rw [h, bind_some, w64 (by omega) (by omega)]
    cases r <;> rfl
  have h1 : m_cascadia_matchAttribute_Suffix_0 ([97], k, (tn v).attrs, (1 : Int), (1 : Int), [tn v]) = some (.out (.inl [tn v])) := by
    simp only [m_cascadia_matchAttribute_Suffix_0, cond_dec]
    rw [if_neg (by omega)]
  simp only [m_cascadia_matchAttribute_Suffix, bind_some, List.getElem?_cons_zero, cond_dec]
  rw [if_neg (by simp [tn])]
  show Option.bind (loopO m_cascadia_matchAttribute_Suffix_0 ([97], k, (tn v).attrs, (1 : Int), (0 : Int), [tn v])) _ = _
  cases r
  · rw [loopO_nx h0, loopO_out h1]; rfl
  · rw [loopO_out h0]; rfl

theorem mt_Substring (v : List UInt8) (k : Bool × List UInt8) (r : Bool) (h : m_cascadia_attributeSubstringMatch_1 (v, k) = some r) : m_cascadia_matchAttribute_Substring (some 0, [97], k, [tn v]) = some r := by
  have h0 : m_cascadia_matchAttribute_Substring_0 ([97], k, (tn v).attrs, (1 : Int), (0 : Int), [tn v]) = some (if r then .out (.inr (true, [tn v])) else .nx ([97], k, (tn v).attrs, (1 : Int), (1 : Int), [tn v])) := by
    simp only [m_cascadia_matchAttribute_Substring_0, cond_dec]
    rw [if_pos (by omega)]
    simp only [atI_zero, tn, List.getElem?_cons_zero, bind_some, if_true]
    rw [h, bind_some, w64 (by omega) (by omega)]
    cases r <;> rfl
  have h1 : m_cascadia_matchAttribute_Substring_0 ([97], k, (tn v).attrs, (1 : Int), (1 : Int), [tn v]) = some (.out (.inl [tn v])) := by
    simp only [m_cascadia_matchAttribute_Substring_0, cond_dec]
    rw [if_neg (by omega)]
  simp only [m_cascadia_matchAttribute_Substring, bind_some, List.getElem?_cons_zero, cond_dec]
  rw [if_neg (by simp [tn])]
  show Option.bind (loopO m_cascadia_matchAttribute_Substring_0 ([97], k, (tn v).attrs, (1 : Int), (0 : Int), [tn v])) _ = _
  cases r
  · rw [loopO_nx h0, loopO_out h1]; rfl
  · rw [loopO_out h0]; rfl

theorem mt_not (v val : List UInt8) (ig : Bool) (hv : v.length ≤ 2147483647) (hl : val.length ≤ 2147483647) : m_cascadia_attributeNotEqualMatch ([97], val, some 0, ig, [tn v]) = some (!decide (fo ig v = fo ig val)) := by
  have h0 : m_cascadia_attributeNotEqualMatch_0 ([97], val, ig, (tn v).attrs, (1 : Int), (0 : Int), [tn v]) = some (if decide (fo ig v = fo ig val) then .out (.inr (false, [tn v])) else .nx ([97], val, ig, (tn v).attrs, (1 : Int), (1 : Int), [tn v])) := by
    simp only [m_cascadia_attributeNotEqualMatch_0, cond_dec]
    rw [if_pos (by omega)]
    simp only [atI_zero, tn, List.getElem?_cons_zero, bind_some, if_true]
    rw [ins_eq v val ig hv hl, bind_some, w64 (by omega) (by omega)]
    cases decide (fo ig v = fo ig val) <;> rfl
  have h1 : m_cascadia_attributeNotEqualMatch_0 ([97], val, ig, (tn v).attrs, (1 : Int), (1 : Int), [tn v]) = some (.out (.inl [tn v])) := by
    simp only [m_cascadia_attributeNotEqualMatch_0, cond_dec]
    rw [if_neg (by omega)]
  simp only [m_cascadia_attributeNotEqualMatch, bind_some, List.getElem?_cons_zero, cond_dec]
  rw [if_neg (by simp [tn])]
  show Option.bind (loopO m_cascadia_attributeNotEqualMatch_0 ([97], val, ig, (tn v).attrs, (1 : Int), (0 : Int), [tn v])) _ = _
  cases hd : decide (fo ig v = fo ig val)
  · rw [hd] at h0; rw [loopO_nx h0, loopO_out h1]; rfl
  · rw [hd] at h0; rw [loopO_out h0]; rfl
/-- What a test asks, of texts that are small already if that is asked for. -/
def ask (op : Int) (v l : List UInt8) (sub : Bool) : Bool :=
  if op = 1 then true else if op = 2 then decide (v = l) else if op = 3 then !decide (v = l) else if op = 4 then decide (l ∈ pcs v) else if op = 5 then decide (v = l) || pre v (l ++ [45]) else if op = 6 then pre v l else if op = 7 then suf v l else sub
theorem truth_eq (b : Bool) : m_spec_truth b = some (if b then 1 else 0) := by cases b <;> rfl
/-- The reference's answer. -/
theorem tested_eq (v l : List UInt8) (op : Int) (sub : Bool) (hv : v.length ≤ 2147483647) (hl : l.length ≤ 2147483647) (hs : m_spec_inside (v, l) = some sub) (bl bv : Bool) (hbl : m_spec_blankAll l = some bl) (hbv : m_spec_blankAll v = some bv) (h1 : 1 ≤ op) (h8 : op ≤ 8) :
    (bif decide (op = (1 : Int)) then Option.bind (m_spec_truth true) fun r => some r else bif decide (op = (2 : Int)) then Option.bind (m_spec_truth (decide (v = l))) fun r => some r else bif decide (op = (3 : Int)) then Option.bind (m_spec_truth (decide (v ≠ l))) fun r => some r else
      bif decide (op = (5 : Int)) then bif decide (v = l) then Option.bind (m_spec_truth true) fun r => some r else Option.bind (catS l [45]) fun r => Option.bind (m_spec_stands (v, 0, r)) fun r => Option.bind (m_spec_truth r) fun r => some r else
      Option.bind (m_spec_blankAll l) fun r => bif r then some 2 else Option.bind (m_spec_blankAll v) fun r => bif r then some 2 else bif decide (op = (4 : Int)) then Option.bind (m_spec_Word (v, l)) fun r => Option.bind (m_spec_truth r) fun r => some r else
      bif decide (op = (6 : Int)) then Option.bind (m_spec_stands (v, 0, l)) fun r => Option.bind (m_spec_truth r) fun r => some r else bif decide (op = (7 : Int)) then Option.bind (m_spec_stands (v, IntKind.wrap .i64 ((v.length : Int) - (l.length : Int)), l)) fun r => Option.bind (m_spec_truth r) fun r => some r else
      Option.bind (m_spec_inside (v, l)) fun r => Option.bind (m_spec_truth r) fun r => some r) = some (if op ≠ 1 ∧ op ≠ 2 ∧ op ≠ 3 ∧ op ≠ 5 ∧ (bl = true ∨ bv = true) then (2 : Int) else if ask op v l sub then 1 else 0) := by
  have hne : bl = false → l ≠ [] := fun h e => by
    subst e
    simp only [m_spec_blankAll] at hbl
    have : loopO m_spec_blankAll_0 (([] : List UInt8), (0 : Int)) = some (.inl ()) := loopO_out (by
      simp only [m_spec_blankAll_0, cond_dec]
      rw [if_neg (by simp)])
    rw [this, bind_some, selim_l] at hbl
    rw [h] at hbl
    cases hbl
  have hst : ∀ p : List UInt8, p.length ≤ 2147483648 → m_spec_stands (v, (0 : Int), p) = some (pre v p) := fun p hp => by
    have := stands_eq v p 0 hv hp (Nat.zero_le _)
    simpa using this
  simp only [cond_dec, truth_eq, bind_some]
  rcases (show op = 1 ∨ op = 2 ∨ op = 3 ∨ op = 4 ∨ op = 5 ∨ op = 6 ∨ op = 7 ∨ op = 8 by omega) with rfl | rfl | rfl | rfl | rfl | rfl | rfl | rfl
  · simp [ask]
  · simp [ask]
  · simp only [ask]; by_cases h : v = l <;> simp [h]
  · rw [if_neg (by omega), if_neg (by omega), if_neg (by omega), if_neg (by omega), hbl, bind_some, hbv]
    cases bl
    · cases bv
      · rw [word_eq v l hv (hne rfl)]; simp [ask, bind_some]
      · simp [bind_some]
    · simp
  · rw [if_neg (by omega), if_neg (by omega), if_neg (by omega), if_pos rfl, catS_some _ _ (by simp; omega), bind_some, hst _ (by simp; omega)]
    by_cases h : v = l
    · simp [ask, h]
    · simp [ask, h, bind_some]
  · rw [if_neg (by omega), if_neg (by omega), if_neg (by omega), if_neg (by omega), hbl, bind_some, hbv]
    cases bl
    · cases bv
      · rw [hst l (by omega)]; simp [ask, bind_some]
      · simp [bind_some]
    · simp
  · rw [if_neg (by omega), if_neg (by omega), if_neg (by omega), if_neg (by omega), hbl, bind_some, hbv]
    cases bl
    · cases bv
      · rw [stands_suf v l hv hl]; simp [ask, bind_some]
      · simp [bind_some]
    · simp
  · rw [if_neg (by omega), if_neg (by omega), if_neg (by omega), if_neg (by omega), hbl, bind_some, hbv]
    cases bl
    · cases bv
      · rw [hs]; simp [ask, bind_some]
      · simp [bind_some]
    · simp
theorem test_f (a b c : List UInt8) (d : Bool) : m_cascadia_Test_f (a, b, c, d) = (m_cascadia_Test (a, b, c, d, [])).map fun r => r.1 := rfl
theorem impl_eq (v l : List UInt8) (op : Int) (flag : Int) (sub : Bool) (hv : v.length ≤ 2147483647) (hl : l.length ≤ 2147483647) (h1 : 1 ≤ op) (h8 : op ≤ 8) (hne : op = 4 → l ≠ []) (ht : 6 ≤ op → ∃ m, m_cascadia_zzTrimSpace v = some m ∧ m ≠ [])
    (hs : m_cascadia_zzContains (fo (decide (flag = 1)) v, fo (decide (flag = 1)) l) = some sub) : m_impl_TestAttr (v, op, l, flag) = some (ask op (fo (decide (flag = 1)) v) (fo (decide (flag = 1)) l) sub, true) := by
  generalize hig : decide (flag = (1 : Int)) = ig at hs
  simp only [m_impl_TestAttr, cond_dec, hig]
  rw [if_neg (by omega), if_neg (by omega), w64 (by omega) (by omega)]
  simp only [m_impl_attrOps, bind_some, test_f, m_cascadia_Test, List.nil_append, List.length_nil]
  show (Option.bind (atI _ (op - 1)) fun _ => Option.bind _ fun w => Option.bind ((Option.bind (m_cascadia_attrSelector_Match (([97], l, w, ig), some 0, [tn v])) fun r => some (r, [tn v])).map fun r => r.1) fun r => some (r, true)) = _
  have fin : ∀ (w : List UInt8) (b : Bool), m_cascadia_attrSelector_Match (([97], l, w, ig), some 0, [tn v]) = some b → (Option.bind ((Option.bind (m_cascadia_attrSelector_Match (([97], l, w, ig), some 0, [tn v])) fun r => some (r, [tn v])).map fun r => r.1) fun r => some (r, true)) = some (b, true) := fun w b h => by rw [h]; rfl
  have hlow : ∀ s : List UInt8, s.length ≤ 2147483647 → m_cascadia_zzToLower s = some (s.map low) := zzLow_eq
  rcases (show op = 1 ∨ op = 2 ∨ op = 3 ∨ op = 4 ∨ op = 5 ∨ op = 6 ∨ op = 7 ∨ op = 8 by omega) with rfl | rfl | rfl | rfl | rfl | rfl | rfl | rfl
  · refine fin [] _ ?_
    simp only [m_cascadia_attrSelector_Match, cond_dec]
    rw [if_pos trivial, mt_m1 v true rfl]
    simp [ask, bind_some]
  · refine fin [61] _ ?_
    simp only [m_cascadia_attrSelector_Match, cond_dec]
    rw [if_neg (by simp), if_pos trivial, mt_m2 v ([97], l, [61], ig) (decide (fo ig v = fo ig l)) (by simp only [m_cascadia_attrSelector_Match_2]; rw [ins_eq v l ig hv hl]; rfl)]
    simp [ask, bind_some]
  · refine fin [33, 61] _ ?_
    simp only [m_cascadia_attrSelector_Match, cond_dec]
    rw [if_neg (by simp), if_neg (by simp), if_pos trivial, mt_not v l ig hv hl]
    simp [ask, bind_some]
  · refine fin [126, 61] _ ?_
    simp only [m_cascadia_attrSelector_Match, cond_dec]
    rw [if_neg (by simp), if_neg (by simp), if_neg (by simp), if_pos trivial, mt_m3 v ([97], l, [126, 61], ig) (decide (fo ig l ∈ pcs (fo ig v))) (by simp only [m_cascadia_attrSelector_Match_3]; rw [inc_eq l v ig (hne rfl) hl hv]; rfl)]
    simp [ask, bind_some]
  · refine fin [124, 61] _ ?_
    simp only [m_cascadia_attrSelector_Match, cond_dec]
    rw [if_neg (by simp), if_neg (by simp), if_neg (by simp), if_neg (by simp), if_pos trivial]
    simp only [m_cascadia_attributeDashMatch]
    rw [mt_Dash v (l, ig) _ (dash_eq v l ig hv hl)]
    simp [ask, bind_some]
  · refine fin [94, 61] _ ?_
    obtain ⟨m, hm, hm2⟩ := ht (by omega)
    simp only [m_cascadia_attrSelector_Match, cond_dec]
    rw [if_neg (by simp), if_neg (by simp), if_neg (by simp), if_neg (by simp), if_neg (by simp), if_pos trivial]
    simp only [m_cascadia_attributePrefixMatch]
    rw [mt_Prefix v (ig, l) (pre (fo ig v) (fo ig l)) (by
      simp only [m_cascadia_attributePrefixMatch_1, cond_dec]
      rw [hm, bind_some, if_neg (by simpa using hm2)]
      cases ig
      · simp only [cond_false]; rw [prefix_eq]; rfl
      · simp only [cond_true]; rw [hlow v hv, bind_some, hlow l hl, bind_some, prefix_eq]; rfl)]
    simp [ask, bind_some]
  · refine fin [36, 61] _ ?_
    obtain ⟨m, hm, hm2⟩ := ht (by omega)
    simp only [m_cascadia_attrSelector_Match, cond_dec]
    rw [if_neg (by simp), if_neg (by simp), if_neg (by simp), if_neg (by simp), if_neg (by simp), if_neg (by simp), if_pos trivial]
    simp only [m_cascadia_attributeSuffixMatch]
    rw [mt_Suffix v (ig, l) (suf (fo ig v) (fo ig l)) (by
      simp only [m_cascadia_attributeSuffixMatch_1, cond_dec]
      rw [hm, bind_some, if_neg (by simpa using hm2)]
      cases ig
      · simp only [cond_false]; rw [suffix_eq v l hv hl]; rfl
      · simp only [cond_true]; rw [hlow v hv, bind_some, hlow l hl, bind_some, suffix_eq _ _ (by simpa using hv) (by simpa using hl)]; rfl)]
    simp [ask, bind_some]
  · refine fin [42, 61] _ ?_
    obtain ⟨m, hm, hm2⟩ := ht (by omega)
    simp only [m_cascadia_attrSelector_Match, cond_dec]
    rw [if_neg (by simp), if_neg (by simp), if_neg (by simp), if_neg (by simp), if_neg (by simp), if_neg (by simp), if_neg (by simp), if_pos trivial]
    simp only [m_cascadia_attributeSubstringMatch]
    rw [mt_Substring v (ig, l) sub (by
      simp only [m_cascadia_attributeSubstringMatch_1, cond_dec]
      rw [hm, bind_some, if_neg (by simpa using hm2)]
      cases ig
      · simp only [cond_false]; rw [show m_cascadia_zzContains (v, l) = some sub from hs]; rfl
      · simp only [cond_true]; rw [hlow v hv, bind_some, hlow l hl, bind_some, show m_cascadia_zzContains (v.map low, l.map low) = some sub from hs]; rfl)]
    simp [ask, bind_some]
theorem blank_nil : m_spec_blankAll [] = some true := by
  simp only [m_spec_blankAll]
  have : loopO m_spec_blankAll_0 (([] : List UInt8), (0 : Int)) = some (.inl ()) := loopO_out (by
    simp only [m_spec_blankAll_0, cond_dec]
    rw [if_neg (by simp)])
  rw [this]
  rfl
theorem fn_testAttr (v : List UInt8) (op : Int) (l : List UInt8) (flag : Int) : m_laws_FnTestAttr (v, op, l, flag) = some true := by
  simp only [m_laws_FnTestAttr, cond_dec, not_cond]
  refine ite_p (P := fun o => o = some true) (fun _ => rfl) fun hv => ?_
  refine ite_p (P := fun o => o = some true) (fun _ => rfl) fun hl => ?_
  refine ite_p (P := fun o => o = some true) (fun _ => rfl) fun hv5 => ?_
  refine ite_p (P := fun o => o = some true) (fun _ => rfl) fun hl5 => ?_
  obtain ⟨p1, hp1⟩ := plain_ex v (by omega)
  obtain ⟨p2, hp2⟩ := plain_ex l (by omega)
  rw [hp1, bind_some]
  cases p1
  · rfl
  · rw [if_pos rfl, hp2, bind_some]
    cases p2
    · rfl
    · rw [if_pos rfl]
      refine ite_p (P := fun o => o = some true) (fun _ => rfl) fun h1 => ?_
      refine ite_p (P := fun o => o = some true) (fun _ => rfl) fun h8 => ?_
      refine ite_p (P := fun o => o = some true) (fun _ => rfl) fun f0 => ?_
      refine ite_p (P := fun o => o = some true) (fun _ => rfl) fun f1 => ?_
      obtain ⟨sub, hs1, hs2⟩ := part_eq (fo (decide (flag = 1)) v) (fo (decide (flag = 1)) l) (by rw [fo_len]; omega) (by rw [fo_len]; omega)
      have bt : ∀ s : List UInt8, s.length ≤ 2147483647 → m_spec_Plain s = some true → ∃ b, m_spec_blankAll s = some b ∧ (b = false → ∃ m, m_cascadia_zzTrimSpace s = some m ∧ m ≠ []) := fun s h h' => by
        rcases trim_ne s h h' with g | ⟨g1, g2⟩
        · exact ⟨true, g, fun e => by cases e⟩
        · exact ⟨false, g1, fun _ => g2⟩
      obtain ⟨bv, hbv, hbv2⟩ := bt v (by omega) hp1
      obtain ⟨bl, hbl, _⟩ := bt l (by omega) hp2
      have htst : ∃ r : Int, m_spec_Tested (v, { kind := 5, op := op, key := [], val := l, a := 0, b := 0, flag := flag, size := 0 }) = some r ∧ (r = 2 ∨ r = if op ≠ 1 ∧ op ≠ 2 ∧ op ≠ 3 ∧ op ≠ 5 ∧ (bl = true ∨ bv = true) then (2 : Int) else if ask op (fo (decide (flag = 1)) v) (fo (decide (flag = 1)) l) sub then 1 else 0) := by
        simp only [m_spec_Tested, m_spec_tested, cond_dec, Bool.not_true, cond_false, cond_true]
        by_cases hf : flag = 1
        · rw [if_pos hf, ascii_eq v (by omega), bind_some]
          cases ha : isAscii v
          · exact ⟨2, rfl, .inl rfl⟩
          · simp only [Bool.not_true, cond_false]
            rw [ascii_eq l (by omega), bind_some]
            cases hb : isAscii l
            · exact ⟨2, rfl, .inl rfl⟩
            · simp only [Bool.not_true, cond_false]
              rw [small_eq v (by omega), bind_some, small_eq l (by omega), bind_some]
              rw [decide_eq_true hf] at hs1 ⊢
              have h := tested_eq (v.map low) (l.map low) op sub (by simp; omega) (by simp; omega) hs1 bl bv (by rw [blank_low l hb (by omega)]; exact hbl) (by rw [blank_low v ha (by omega)]; exact hbv) (by omega) (by omega)
              simp only [cond_dec] at h
              exact ⟨_, by rw [h]; rfl, .inr rfl⟩
        · rw [if_neg hf]
          rw [decide_eq_false hf] at hs1 ⊢
          have h := tested_eq v l op sub (by omega) (by omega) hs1 bl bv hbl hbv (by omega) (by omega)
          simp only [cond_dec] at h
          exact ⟨_, by rw [h]; rfl, .inr rfl⟩
      obtain ⟨r, hr, hr2⟩ := htst
      rw [hr, bind_some]
      refine ite_p (P := fun o => o = some true) (fun _ => rfl) fun hne => ?_
      rcases hr2 with hr2 | hr2
      · exact absurd hr2 hne
      · by_cases hc : op ≠ 1 ∧ op ≠ 2 ∧ op ≠ 3 ∧ op ≠ 5 ∧ (bl = true ∨ bv = true)
        · rw [if_pos hc] at hr2; exact absurd hr2 hne
        · rw [if_neg hc] at hr2
          rw [impl_eq v l op flag sub (by omega) (by omega) (by omega) (by omega) (fun h4 e => hc ⟨by omega, by omega, by omega, by omega, .inl (by rw [e, blank_nil] at hbl; cases hbl; rfl)⟩) (fun h6 => hbv2 (by
            cases bv
            · rfl
            · exact absurd ⟨by omega, by omega, by omega, by omega, .inr rfl⟩ hc)) hs2, bind_some]
          simp only [cond_true]
          rw [hr2]
          cases ask op (fo (decide (flag = 1)) v) (fo (decide (flag = 1)) l) sub <;> rfl
end Go.Proofs.Ytldldchdkcmojaa.V
