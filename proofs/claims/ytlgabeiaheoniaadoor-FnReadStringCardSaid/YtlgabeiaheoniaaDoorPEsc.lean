/-
  Escapes. Plain facts.
-/
import Derived.Test.YtlgabeiaheoniaaDoorPRead
set_option linter.unusedVariables false
set_option linter.unusedSimpArgs false
namespace Go.Proofs.YtlgabeiaheoniaaDoor.V
open Go

theorem wi32 {n : Int} (h1 : 0 ≤ n) (h2 : n < 2147483648) : IntKind.wrap .i32 n = n := by
  simp [IntKind.wrap, IntKind.bits, IntKind.signed]
  omega
theorem shl_ex (a : Int) : ∃ n, shlI .i64 a 6 = some n := ⟨_, by unfold shlI; rw [if_neg (by omega)]⟩
/-- What stands at a place; 0 behind the end. -/
def nx (s : List UInt8) (i : Nat) : Nat := match s[i]? with
  | some c => c.toNat
  | none => 0
theorem nx_some {s : List UInt8} {i : Nat} {c : UInt8} (h : s[i]? = some c) : nx s i = c.toNat := by simp [nx, h]
theorem nx_lt (s : List UInt8) (i : Nat) : nx s i < 256 := by
  unfold nx
  cases s[i]? with
  | none => simp
  | some c => exact c.toNat_lt
def isSpN (n : Nat) : Bool := n == 32 || n == 9 || n == 10 || n == 13 || n == 12
theorem isSpace_all : ∀ n : Fin 256, m_spec_IsSpace (n.val : Int) = some (isSpN n.val) := by decide +kernel
section
variable {s : List UInt8} {b u p : Bool}
theorem next_eq (hs : s.length ≤ 1000) (i : Nat) : m_spec_reader_next (s, (i : Int), b, u, p) = some (nx s i : Int) := by
  simp only [m_spec_reader_next, cond_dec, atI_nat]
  split
  · rename_i h
    rw [nx, List.getElem?_eq_none (by omega)]
    rfl
  · obtain ⟨c, hc⟩ := get_lt (l := s) (k := i) (by omega)
    rw [hc, bind_some, nx_some hc]
theorem hexNx (i : Nat) : m_spec_hexadecimal (nx s i : Int) = some (if hexN (nx s i) then (hexV (nx s i) : Int) else -1) := hexadecimal_all ⟨nx s i, nx_lt s i⟩
theorem spNx (i : Nat) : m_spec_IsSpace (nx s i : Int) = some (isSpN (nx s i)) := isSpace_all ⟨nx s i, nx_lt s i⟩
/-- A carriage return and a line feed. -/
def crlf (s : List UInt8) (i : Nat) : Bool := nx s i == 13 && nx s (i + 1) == 10
theorem sp_eq (j : Nat) : sp s j = if crlf s j then j + 2 else if isSpN (nx s j) then j + 1 else j := by
  unfold sp crlf nx
  cases h1 : s[j]? with
  | none => rfl
  | some c =>
    simp only
    by_cases a : c.toNat = 13
    · cases h2 : s[j + 1]? with
      | none => simp [a, isSpN]
      | some d => by_cases a2 : d.toNat = 10 <;> simp [a, a2, isSpN]
    · have hiff : isSpN c.toNat = true ↔ (c.toNat = 32 ∨ c.toNat = 9 ∨ c.toNat = 10 ∨ c.toNat = 12) := by
        unfold isSpN
        simp
        omega
      have h13 : (c.toNat == 13) = false := by simpa using a
      rw [if_neg a, h13]
      simp only [Bool.false_and, Bool.false_eq_true, if_false]
      by_cases q : c.toNat = 32 ∨ c.toNat = 9 ∨ c.toNat = 10 ∨ c.toNat = 12
      · rw [if_pos q, if_pos (hiff.2 q)]
      · rw [if_neg q, if_neg (fun h => q (hiff.1 h))]
theorem taken_eq (hs : s.length ≤ 1000) (i : Nat) (hi : i ≤ s.length) : m_spec_reader_taken ((s, (i : Int), b, u, p), [13, 10]) = some (if crlf s i then (true, s, ((i + 2 : Nat) : Int), b, u, p) else (false, s, (i : Int), b, u, p)) := by
  simp only [m_spec_reader_taken, m_spec_reader_here, cond_dec, List.length_cons, List.length_nil]
  have e : IntKind.wrap .i64 ((i : Int) + ((0 + 1 + 1 : Nat) : Int)) = ((i + 2 : Nat) : Int) := by rw [w64 (by omega) (by omega)]; omega
  simp only [e]
  split
  · rename_i h
    obtain ⟨c, hc⟩ := get_lt (l := s) (k := i) (by omega)
    obtain ⟨d, hd⟩ := get_lt (l := s) (k := i + 1) (by omega)
    have e2 : subL s (i : Int) ((i + 2 : Nat) : Int) = some [c, d] := by
      rw [sub_nat s (by omega) (by omega), List.take_add_one, hd, List.take_add_one, hc, List.append_assoc]
      rw [List.drop_append_of_le_length (by rw [List.length_take]; omega), List.drop_of_length_le (by rw [List.length_take]; omega)]
      rfl
    rw [e2, bind_some]
    have e3 : decide ([c, d] = [13, 10]) = crlf s i := by
      unfold crlf
      rw [nx_some hc, nx_some hd, Bool.eq_iff_iff]
      simp only [decide_eq_true_eq, List.cons.injEq, and_true, Bool.and_eq_true, beq_iff_eq]
      rw [← UInt8.toNat_inj, ← UInt8.toNat_inj]
      exact Iff.rfl
    rw [bind_some, e3]
    cases crlf s i <;> rfl
  · rename_i h
    have : crlf s i = false := by
      unfold crlf
      have : nx s (i + 1) = 0 := by rw [nx, List.getElem?_eq_none (by omega)]
      rw [this]
      simp
    rw [this]
    rfl
def ef (s : List UInt8) (i : Nat) : Bool := decide (nx s i = 92 ∧ i + 1 < s.length ∧ nx s (i + 1) ≠ 10 ∧ nx s (i + 1) ≠ 13 ∧ nx s (i + 1) ≠ 12)
theorem ef_eq (hs : s.length ≤ 1000) (i : Nat) (a : Int) (hi : i ≤ s.length) : m_spec_reader_escapeFollows ((s, a, b, u, p), (i : Int)) = some (ef s i) := by
  simp only [m_spec_reader_escapeFollows, cond_dec]
  have e : IntKind.wrap .i64 ((i : Int) + 1) = ((i + 1 : Nat) : Int) := by rw [w64 (by omega) (by omega)]; omega
  rw [e]
  unfold ef
  by_cases h : i + 1 < s.length
  · obtain ⟨c, hc⟩ := get_lt (l := s) (k := i) (by omega)
    obtain ⟨d, hd⟩ := get_lt (l := s) (k := i + 1) (by omega)
    rw [if_pos (by omega)]
    simp only [atI_nat, hc, hd, bind_some, nx_some hc, nx_some hd]
    have e1 : (((c.toNat : Nat) : Int) = 92) = (c.toNat = 92) := by rw [eq_iff_iff]; omega
    have e2 : (((d.toNat : Nat) : Int) ≠ 10) = (d.toNat ≠ 10) := by rw [eq_iff_iff]; omega
    have e3 : (((d.toNat : Nat) : Int) ≠ 13) = (d.toNat ≠ 13) := by rw [eq_iff_iff]; omega
    have e4 : decide (((d.toNat : Nat) : Int) ≠ 12) = decide (d.toNat ≠ 12) := by rw [decide_eq_decide]; omega
    rw [e4]
    by_cases q1 : c.toNat = 92
    · rw [if_pos (by omega)]
      by_cases q2 : d.toNat = 10
      · rw [if_neg (by omega)]; simp [q2]
      · rw [if_pos (by omega)]
        by_cases q3 : d.toNat = 13
        · rw [if_neg (by omega)]; simp [q3]
        · rw [if_pos (by omega)]
          by_cases q4 : d.toNat = 12 <;> simp [h, q1, q2, q3, q4]
    · rw [if_neg (by omega)]; simp [q1]
  · rw [if_neg (by omega)]
    simp [h]
/-! The specification's escape -/
theorem esc_loop (hs : s.length ≤ 1000) : ∀ (k at_ a many : Nat), many + k = 6 → at_ ≤ s.length → a < 16 ^ many → loopO m_spec_reader_escape_0 ((s, (at_ : Int), b, u, p), (a : Int), (many : Int)) = some ((s, ((hexs s k at_ a).1 : Int), b, u, p), ((hexs s k at_ a).2 : Int), ((many + ((hexs s k at_ a).1 - at_) : Nat) : Int))
  | 0, at_, a, many, hk, hat, ha => by
    refine loopO_out ?_
    simp only [m_spec_reader_escape_0, cond_dec, hexs]
    rw [if_neg (by omega)]
    simp
  | k + 1, at_, a, many, hk, hat, ha => by
    simp only [hexs]
    have hp : 16 ^ many ≤ 16 ^ 5 := Nat.pow_le_pow_right (by omega) (by omega)
    cases hc : s[at_]? with
    | none =>
      refine loopO_out ?_
      simp only [m_spec_reader_escape_0, cond_dec, next_eq hs, bind_some, hexNx]
      rw [if_pos (by omega)]
      have e : nx s at_ = 0 := by rw [nx, hc]
      rw [e]
      rw [if_neg (by decide)]
      simp
    | some c =>
      have hlt := (List.getElem?_eq_some_iff.1 hc).1
      simp only
      have e := nx_some hc
      cases hh : hexN c.toNat with
      | false =>
        refine loopO_out ?_
        simp only [m_spec_reader_escape_0, cond_dec, next_eq hs, bind_some, hexNx]
        rw [if_pos (by omega), e, hh]
        simp
      | true =>
        have hv : hexV c.toNat < 16 := hexV_all (fin c) hh
        have hcs : s.length ≤ 1000 := hs
        have step : m_spec_reader_escape_0 ((s, (at_ : Int), b, u, p), (a : Int), (many : Int)) = some (.nx ((s, ((at_ + 1 : Nat) : Int), b, u, p), ((16 * a + hexV c.toNat : Nat) : Int), ((many + 1 : Nat) : Int))) := by
          simp only [m_spec_reader_escape_0, cond_dec, next_eq hs, bind_some, hexNx]
          rw [if_pos (by omega), e, hh]
          simp only [if_true]
          rw [if_pos (by omega), w64 (n := (at_ : Int) + 1) (by omega) (by omega), w64 (n := (many : Int) + 1) (by omega) (by omega), w64 (n := 16 * (a : Int)) (by omega) (by omega), w64 (n := 16 * (a : Int) + (hexV c.toNat : Int)) (by omega) (by omega)]
          simp
        rw [loopO_nx step, esc_loop hs k (at_ + 1) (16 * a + hexV c.toNat) (many + 1) (by omega) (by omega) (by rw [Nat.pow_succ]; omega)]
        have h1 := hexs_le s k (at_ + 1) (16 * a + hexV c.toNat) (by omega)
        simp only [if_true]
        congr 4
        omega
theorem hexs_val (k i : Nat) (hk : k ≤ 6) : (hexs s k i 0).2 < 16777216 := by
  obtain ⟨l, r, h1, h2, h3, h4⟩ := hexs_spec s k i 0
  have := hval_lt l 0 h2
  have hp : 16 ^ l.length ≤ 16 ^ 6 := Nat.pow_le_pow_right (by omega) (by omega)
  rw [h4]
  simp only
  omega
theorem spec_hex (hs : s.length ≤ 1000) {i : Nat} {d : UInt8} (hd : s[i + 1]? = some d) (hh : hexN d.toNat = true) : ∃ out u', m_spec_reader_escape (s, (i : Int), b, u, p) = some (out, s, (sp s (hexs s 6 (i + 1) 0).1 : Int), b, u', p) ∧ (u' = false → u = false ∧ out = enc8 ((hexs s 6 (i + 1) 0).2 : Int)) ∧ out.length ≤ 4 := by
  have hi := (List.getElem?_eq_some_iff.1 hd).1
  have h1 := hexs_le s 6 (i + 1) 0 (by omega)
  have h2 : i + 1 < (hexs s 6 (i + 1) 0).1 := by
    rw [show (6 : Nat) = 5 + 1 from rfl, hexs, hd]
    simp only [hh, if_true]
    have := hexs_le s 5 (i + 1 + 1) (16 * 0 + hexV d.toNat) (by omega)
    omega
  have h3 := hexs_val (s := s) 6 (i + 1) (Nat.le_refl _)
  have hl := esc_loop (b := b) (u := u) (p := p) hs 6 (i + 1) 0 0 rfl (by omega) (by simp)
  generalize hexs s 6 (i + 1) 0 = q at h1 h2 h3 hl ⊢
  obtain ⟨j, n⟩ := q
  simp only at h1 h2 h3 hl ⊢
  have e0 : IntKind.wrap .i64 ((i : Int) + 1) = ((i + 1 : Nat) : Int) := by rw [w64 (by omega) (by omega)]; omega
  simp only [m_spec_reader_escape, e0]
  rw [show loopO m_spec_reader_escape_0 ((s, ((i + 1 : Nat) : Int), b, u, p), (0 : Int), (0 : Int)) = _ from hl, bind_some]
  simp only [cond_dec]
  rw [if_neg (by omega), taken_eq hs j (by omega), bind_some]
  have ee : m_spec_Encoded (n : Int) = some (enc8 (n : Int)) := by rw [encoded_eq, wi32 (by omega) (by omega)]
  have ej : IntKind.wrap .i64 ((j : Int) + 1) = ((j + 1 : Nat) : Int) := by rw [w64 (by omega) (by omega)]; omega
  rw [sp_eq]
  have tail : ∀ (J : Int), ∃ out u', (if (n : Int) = 0 then some (([] : List UInt8), s, J, b, true, p) else if (n : Int) = 65279 then some ([], s, J, b, true, p) else if 1114111 < (n : Int) then some ([], s, J, b, true, p) else if 55296 ≤ (n : Int) then if (n : Int) < 57344 then some ([], s, J, b, true, p) else some (enc8 (n : Int), s, J, b, u, p) else some (enc8 (n : Int), s, J, b, u, p)) = some (out, s, J, b, u', p) ∧ (u' = false → u = false ∧ out = enc8 (n : Int)) ∧ out.length ≤ 4 := fun J => by
    have hz : ∃ out u', (some (([] : List UInt8), s, J, b, true, p)) = some (out, s, J, b, u', p) ∧ (u' = false → u = false ∧ out = enc8 (n : Int)) ∧ out.length ≤ 4 := ⟨[], true, rfl, (fun h => by cases h), by simp⟩
    have hy : ∃ out u', (some (enc8 (n : Int), s, J, b, u, p)) = some (out, s, J, b, u', p) ∧ (u' = false → u = false ∧ out = enc8 (n : Int)) ∧ out.length ≤ 4 := ⟨_, u, rfl, (fun h => ⟨h, rfl⟩), enc8_len _⟩
    split
    · exact hz
    · split
      · exact hz
      · split
        · exact hz
        · split
          · split
            · exact hz
            · exact hy
          · exact hy
  cases hcr : crlf s j with
  | true =>
    simp only [if_true, Bool.not_true, cond_false, ee, bind_some]
    exact tail _
  | false =>
    simp only [Bool.false_eq_true, if_false, Bool.not_false, cond_true, next_eq hs, bind_some, spNx, ee, ej]
    cases isSpN (nx s j) with
    | true =>
      simp only [cond_true, if_true]
      exact tail _
    | false =>
      simp only [cond_false, Bool.false_eq_true, if_false]
      exact tail _
/-! Code points -/
theorem point_go (hs : s.length ≤ 1000) (at_ many : Nat) (hm : many ≤ 4) (hat : at_ + many ≤ s.length) (least : Int) : ∀ m k, many - k = m → 1 ≤ k → k ≤ many → ∀ c : Int, ∃ y, loopO m_spec_point_0 (s, (at_ : Int), c, (many : Int), least, ((at_ + k : Nat) : Int)) = some y ∧ (y = .inr (0, 0) ∨ ((∃ c', y = .inl (c', (many : Int), least)) ∧ ∀ j, k ≤ j → j < many → ∃ d, s[at_ + j]? = some d ∧ 128 ≤ d.toNat)) := by
  intro m
  induction m with
  | zero =>
    intro k hm1 h1 h2 c
    refine ⟨.inl (c, (many : Int), least), loopO_out ?_, .inr ⟨⟨_, rfl⟩, fun j _ _ => by omega⟩⟩
    simp only [m_spec_point_0, cond_dec]
    rw [w64 (by omega) (by omega), if_neg (by omega)]
  | succ m ih =>
    intro k hm1 h1 h2 c
    obtain ⟨d, hd⟩ := get_lt (l := s) (k := at_ + k) (by omega)
    obtain ⟨n, hn⟩ := shl_ex c
    by_cases q1 : d.toNat < 128
    · refine ⟨.inr (0, 0), loopO_out ?_, .inl rfl⟩
      simp only [m_spec_point_0, cond_dec]
      rw [w64 (n := (at_ : Int) + (many : Int)) (by omega) (by omega), if_pos (by omega), atI_nat, hd, bind_some, if_pos (by omega)]
    · by_cases q2 : 191 < d.toNat
      · refine ⟨.inr (0, 0), loopO_out ?_, .inl rfl⟩
        simp only [m_spec_point_0, cond_dec]
        rw [w64 (n := (at_ : Int) + (many : Int)) (by omega) (by omega), if_pos (by omega), atI_nat, hd, bind_some, if_neg (by omega), bind_some, if_pos (by omega)]
      · have step : m_spec_point_0 (s, (at_ : Int), c, (many : Int), least, ((at_ + k : Nat) : Int)) = some (.nx (s, (at_ : Int), IntKind.wrap .i64 (IntKind.wrap .i64 (n + IntKind.wrap .i64 (d.toNat : Int)) - 128), (many : Int), least, ((at_ + (k + 1) : Nat) : Int))) := by
          simp only [m_spec_point_0, cond_dec]
          rw [w64 (n := (at_ : Int) + (many : Int)) (by omega) (by omega), if_pos (by omega), atI_nat, hd, bind_some, if_neg (by omega), bind_some, if_neg (by omega), hn, bind_some, bind_some]
          have e9 : ((at_ + k : Nat) : Int) + 1 = ((at_ + (k + 1) : Nat) : Int) := by omega
          rw [w64 (n := ((at_ + k : Nat) : Int) + 1) (by omega) (by omega), e9]
        obtain ⟨y, g1, g2⟩ := ih (k + 1) (by omega) (by omega) (by omega) (IntKind.wrap .i64 (IntKind.wrap .i64 (n + IntKind.wrap .i64 (d.toNat : Int)) - 128))
        refine ⟨y, by rw [loopO_nx step]; exact g1, ?_⟩
        rcases g2 with g2 | ⟨g2, g3⟩
        · exact .inl g2
        · refine .inr ⟨g2, fun j h3 h4 => ?_⟩
          by_cases e : j = k
          · subst e; exact ⟨d, hd, by omega⟩
          · exact g3 j (by omega) h4
theorem point_ex (hs : s.length ≤ 1000) {at_ : Nat} {c : UInt8} (hc : s[at_]? = some c) : ∃ (v : Int) (k : Nat), m_spec_point (s, (at_ : Int)) = some (v, (k : Int)) ∧ at_ + k ≤ s.length ∧ (c.toNat < 128 → k = 1) ∧ (128 ≤ c.toNat → ∀ j, j < k → ∃ d, s[at_ + j]? = some d ∧ 128 ≤ d.toNat) := by
  have hi := (List.getElem?_eq_some_iff.1 hc).1
  have hlt := c.toNat_lt
  have z : ∃ (v : Int) (k : Nat), (some ((0 : Int), (0 : Int)) : Option (Int × Int)) = some (v, (k : Int)) ∧ at_ + k ≤ s.length ∧ (c.toNat < 128 → k = 1) ∧ (128 ≤ c.toNat → ∀ j, j < k → ∃ d, s[at_ + j]? = some d ∧ 128 ≤ d.toNat) ∨ c.toNat < 128 := by
    by_cases h : c.toNat < 128
    · exact ⟨0, 0, .inr h⟩
    · exact ⟨0, 0, .inl ⟨rfl, by omega, fun h' => absurd h' h, fun _ j hj => by omega⟩⟩
  have ec : IntKind.wrap .i64 (c.toNat : Int) = (c.toNat : Int) := w64 (by omega) (by omega)
  have part : ∀ (many : Nat) (v0 least : Int), 1 < many → many ≤ 4 → 128 ≤ c.toNat → ∃ (v : Int) (k : Nat), (if (s.length : Int) < IntKind.wrap .i64 ((at_ : Int) + (many : Int)) then some ((0 : Int), (0 : Int)) else Option.bind (loopO m_spec_point_0 (s, (at_ : Int), v0, (many : Int), least, IntKind.wrap .i64 ((at_ : Int) + 1))) fun y => selim (fun (y : Int × Int × Int) => if y.1 < y.2.2 then some ((0 : Int), (0 : Int)) else if 1114111 < y.1 then some (0, 0) else if 55296 ≤ y.1 then if y.1 < 57344 then some (0, 0) else some (y.1, y.2.1) else some (y.1, y.2.1)) (fun (y : Int × Int) => some (y.1, y.2)) y) = some (v, (k : Int)) ∧ at_ + k ≤ s.length ∧ (c.toNat < 128 → k = 1) ∧ (128 ≤ c.toNat → ∀ j, j < k → ∃ d, s[at_ + j]? = some d ∧ 128 ≤ d.toNat) := fun many v0 least h1 h2 h3 => by
    have z0 : ∀ x : Option (Int × Int), x = some (0, 0) → ∃ (v : Int) (k : Nat), x = some (v, (k : Int)) ∧ at_ + k ≤ s.length ∧ (c.toNat < 128 → k = 1) ∧ (128 ≤ c.toNat → ∀ j, j < k → ∃ d, s[at_ + j]? = some d ∧ 128 ≤ d.toNat) := fun x hx => ⟨0, 0, hx, by omega, fun h' => by omega, fun _ j hj => by omega⟩
    rw [w64 (by omega) (by omega), w64 (by omega) (by omega)]
    split
    · exact z0 _ rfl
    · rename_i h4
      obtain ⟨y, g1, g2⟩ := point_go hs at_ many h2 (by omega) least (many - 1) 1 rfl (Nat.le_refl _) (by omega) v0
      rw [show loopO m_spec_point_0 (s, (at_ : Int), v0, (many : Int), least, (at_ : Int) + 1) = some y from g1, bind_some]
      rcases g2 with rfl | ⟨⟨c', rfl⟩, g3⟩
      · exact z0 _ rfl
      · rw [selim_l]
        simp only
        have good : ∃ (v : Int) (k : Nat), some (c', (many : Int)) = some (v, (k : Int)) ∧ at_ + k ≤ s.length ∧ (c.toNat < 128 → k = 1) ∧ (128 ≤ c.toNat → ∀ j, j < k → ∃ d, s[at_ + j]? = some d ∧ 128 ≤ d.toNat) := ⟨c', many, rfl, by omega, fun h' => by omega, fun _ j hj => by
          by_cases e : j = 0
          · subst e; exact ⟨c, hc, h3⟩
          · exact g3 j (by omega) hj⟩
        split
        · exact z0 _ rfl
        · split
          · exact z0 _ rfl
          · split
            · split
              · exact z0 _ rfl
              · exact good
            · exact good
  simp only [m_spec_point, cond_dec, atI_nat, hc, bind_some, ec]
  by_cases h128 : c.toNat < 128
  · rw [if_pos (by omega)]
    exact ⟨_, 1, rfl, by omega, fun _ => rfl, fun h => by omega⟩
  · have hz : ∃ (v : Int) (k : Nat), (some ((0 : Int), (0 : Int)) : Option (Int × Int)) = some (v, (k : Int)) ∧ at_ + k ≤ s.length ∧ (c.toNat < 128 → k = 1) ∧ (128 ≤ c.toNat → ∀ j, j < k → ∃ d, s[at_ + j]? = some d ∧ 128 ≤ d.toNat) := ⟨0, 0, rfl, by omega, fun h' => absurd h' h128, fun _ j hj => by omega⟩
    have p2 := fun v0 => part 2 v0 128 (by omega) (by omega) (by omega)
    have p3 := fun v0 => part 3 v0 2048 (by omega) (by omega) (by omega)
    have p4 := fun v0 => part 4 v0 65536 (by omega) (by omega) (by omega)
    rw [if_neg (by omega)]
    have q4 : ∃ (v : Int) (k : Nat), (if 240 ≤ (c.toNat : Int) then if (c.toNat : Int) < 245 then (if (s.length : Int) < IntKind.wrap .i64 ((at_ : Int) + ((4 : Nat) : Int)) then some ((0 : Int), (0 : Int)) else Option.bind (loopO m_spec_point_0 (s, (at_ : Int), IntKind.wrap .i64 ((c.toNat : Int) - 240), ((4 : Nat) : Int), 65536, IntKind.wrap .i64 ((at_ : Int) + 1))) fun y => selim (fun (y : Int × Int × Int) => if y.1 < y.2.2 then some ((0 : Int), (0 : Int)) else if 1114111 < y.1 then some (0, 0) else if 55296 ≤ y.1 then if y.1 < 57344 then some (0, 0) else some (y.1, y.2.1) else some (y.1, y.2.1)) (fun (y : Int × Int) => some (y.1, y.2)) y) else some (0, 0) else some (0, 0)) = some (v, (k : Int)) ∧ at_ + k ≤ s.length ∧ (c.toNat < 128 → k = 1) ∧ (128 ≤ c.toNat → ∀ j, j < k → ∃ d, s[at_ + j]? = some d ∧ 128 ≤ d.toNat) := by
      by_cases a1 : 240 ≤ c.toNat
      · rw [if_pos (by omega)]
        by_cases a2 : c.toNat < 245
        · rw [if_pos (by omega)]; exact p4 _
        · rw [if_neg (by omega)]; exact hz
      · rw [if_neg (by omega)]; exact hz
    by_cases a1 : 194 ≤ c.toNat
    · rw [if_pos (by omega)]
      by_cases a2 : c.toNat < 224
      · rw [if_pos (by omega)]; exact p2 _
      · rw [if_neg (by omega)]
        rw [if_pos (by omega)]
        by_cases a3 : c.toNat < 240
        · rw [if_pos (by omega)]; exact p3 _
        · rw [if_neg (by omega)]
          exact q4
    · rw [if_neg (by omega), if_neg (by omega), if_neg (by omega)]
      exact hz
theorem spec_other (hs : s.length ≤ 1000) {i : Nat} {d : UInt8} (hd : s[i + 1]? = some d) (hh : hexN d.toNat = false) : ∃ k, m_spec_reader_escape (s, (i : Int), b, u, p) = some ((s.take (i + 1 + k)).drop (i + 1), s, ((i + 1 + k : Nat) : Int), b, u, p) ∧ i + 1 + k ≤ s.length ∧ (d.toNat < 128 → k = 1) ∧ (128 ≤ d.toNat → ∀ j, j < k → ∃ c, s[i + 1 + j]? = some c ∧ 128 ≤ c.toNat) := by
  have hi := (List.getElem?_eq_some_iff.1 hd).1
  have hl := esc_loop (b := b) (u := u) (p := p) hs 6 (i + 1) 0 0 rfl (by omega) (by simp)
  have e : hexs s 6 (i + 1) 0 = (i + 1, 0) := by
    rw [show (6 : Nat) = 5 + 1 from rfl, hexs, hd]
    simp [hh]
  rw [e] at hl
  obtain ⟨v, k, h1, h2, h3, h4⟩ := point_ex hs hd
  refine ⟨k, ?_, h2, h3, h4⟩
  have e0 : IntKind.wrap .i64 ((i : Int) + 1) = ((i + 1 : Nat) : Int) := by rw [w64 (by omega) (by omega)]; omega
  simp only [m_spec_reader_escape, e0]
  rw [show loopO m_spec_reader_escape_0 ((s, ((i + 1 : Nat) : Int), b, u, p), (0 : Int), (0 : Int)) = _ from hl, bind_some]
  simp only [cond_dec]
  rw [if_pos (by omega), h1, bind_some]
  have e1 : IntKind.wrap .i64 (((i + 1 : Nat) : Int) + (k : Int)) = ((i + 1 + k : Nat) : Int) := by rw [w64 (by omega) (by omega)]; omega
  simp only [e1]
  rw [sub_nat s (by omega) (by omega), bind_some]
end
/-! The implementation's escape -/
section
variable {s : List UInt8} {dp : Int} {ac : Bool}
theorem iesc_loop (hs : s.length ≤ 1000) (st : Nat) (pi : Int) (hst : st ≤ s.length) : ∀ (k at_ a : Nat), at_ + k = st + 6 → at_ ≤ s.length → loopO m_cascadia_parser_parseEscape_0 ((s, pi, dp, ac), (st : Int), (at_ : Int)) = some ((s, pi, dp, ac), (st : Int), ((hexs s k at_ a).1 : Int))
  | 0, at_, a, hk, hat => by
    refine loopO_out ?_
    simp only [m_cascadia_parser_parseEscape_0, cond_dec, hexs]
    rw [w64 (by omega) (by omega), if_neg (by omega)]
  | k + 1, at_, a, hk, hat => by
    simp only [hexs]
    cases hc : s[at_]? with
    | none =>
      refine loopO_out ?_
      have := List.getElem?_eq_none_iff.1 hc
      simp only [m_cascadia_parser_parseEscape_0, cond_dec]
      rw [w64 (by omega) (by omega), if_pos (by omega), if_neg (by omega)]
    | some c =>
      have hlt := (List.getElem?_eq_some_iff.1 hc).1
      simp only
      cases hh : hexN c.toNat with
      | false =>
        refine loopO_out ?_
        simp only [m_cascadia_parser_parseEscape_0, cond_dec, atI_nat]
        rw [w64 (by omega) (by omega), if_pos (by omega), if_pos (by omega), hc]
        simp only [bind_some, hexDigit_eq, hh, cond_false]
        simp
      | true =>
        have step : m_cascadia_parser_parseEscape_0 ((s, pi, dp, ac), (st : Int), (at_ : Int)) = some (.nx ((s, pi, dp, ac), (st : Int), ((at_ + 1 : Nat) : Int))) := by
          simp only [m_cascadia_parser_parseEscape_0, cond_dec, atI_nat]
          rw [w64 (n := (st : Int) + 6) (by omega) (by omega), if_pos (by omega), if_pos (by omega), hc]
          simp only [bind_some, hexDigit_eq, hh, cond_true]
          rw [w64 (by omega) (by omega)]
          simp
        rw [loopO_nx step, iesc_loop hs st pi hst k (at_ + 1) (16 * a + hexV c.toNat) (by omega) (by omega)]
        simp
theorem impl_none (hs : s.length ≤ 1000) {i : Nat} (hi : i < s.length) (h : ef s i = false) : m_cascadia_parser_parseEscape (s, (i : Int), dp, ac) = some ([], true, s, (i : Int), dp, ac) := by
  have e2 : IntKind.wrap .i64 ((i : Int) + 2) = ((i + 2 : Nat) : Int) := by rw [w64 (by omega) (by omega)]; omega
  have e1 : IntKind.wrap .i64 ((i : Int) + 1) = ((i + 1 : Nat) : Int) := by rw [w64 (by omega) (by omega)]; omega
  simp only [m_cascadia_parser_parseEscape, cond_dec, m_errors_New, bind_some, e1, e2]
  by_cases h1 : s.length < i + 2
  · rw [if_pos (by omega)]
  · rw [if_neg (by omega)]
    obtain ⟨c, hc⟩ := get_lt (l := s) (k := i) (by omega)
    obtain ⟨d, hd⟩ := get_lt (l := s) (k := i + 1) (by omega)
    unfold ef at h
    rw [nx_some hc, nx_some hd] at h
    simp only [atI_nat, hc, hd, bind_some]
    by_cases q1 : c.toNat = 92
    · rw [if_neg (by omega)]
      simp [q1, show i + 1 < s.length by omega] at h
      by_cases q2 : d.toNat = 13
      · rw [if_pos (by omega)]
      · rw [if_neg (by omega)]
        by_cases q3 : d.toNat = 10
        · rw [if_pos (by omega)]
        · rw [if_neg (by omega)]
          have : d.toNat = 12 := by
            by_cases q4 : d.toNat = 12
            · exact q4
            · exact absurd (h q3 q2) q4
          rw [if_pos (by omega)]
    · rw [if_pos (by omega)]
theorem ef_true {i : Nat} (h : ef s i = true) : ∃ c d, s[i]? = some c ∧ c.toNat = 92 ∧ s[i + 1]? = some d ∧ d.toNat ≠ 10 ∧ d.toNat ≠ 13 ∧ d.toNat ≠ 12 := by
  unfold ef at h
  simp at h
  obtain ⟨h1, h2, h3, h4, h5⟩ := h
  obtain ⟨c, hc⟩ := get_lt (l := s) (k := i) (by omega)
  obtain ⟨d, hd⟩ := get_lt (l := s) (k := i + 1) (by omega)
  rw [nx_some hc] at h1
  rw [nx_some hd] at h3 h4 h5
  exact ⟨c, d, hc, h1, hd, h3, h4, h5⟩
theorem impl_hex (hs : s.length ≤ 1000) {i : Nat} {d : UInt8} (h : ef s i = true) (hd : s[i + 1]? = some d) (hh : hexN d.toNat = true) : m_cascadia_parser_parseEscape (s, (i : Int), dp, ac) = some (enc8 ((hexs s 6 (i + 1) 0).2 : Int), false, s, (sp s (hexs s 6 (i + 1) 0).1 : Int), dp, ac) := by
  obtain ⟨c, d', hc, q1, hd', q2, q3, q4⟩ := ef_true h
  obtain rfl : d = d' := by rw [hd] at hd'; exact Option.some.inj hd'
  have hi := (List.getElem?_eq_some_iff.1 hd).1
  have e2 : IntKind.wrap .i64 ((i : Int) + 2) = ((i + 2 : Nat) : Int) := by rw [w64 (by omega) (by omega)]; omega
  have e1 : IntKind.wrap .i64 ((i : Int) + 1) = ((i + 1 : Nat) : Int) := by rw [w64 (by omega) (by omega)]; omega
  have hl := iesc_loop (dp := dp) (ac := ac) hs (i + 1) (i : Int) (by omega) 6 (i + 1) 0 (by omega) (by omega)
  obtain ⟨l, r, h1, h2, h3, h4⟩ := hexs_spec s 6 (i + 1) 0
  have hle := hexs_le s 6 (i + 1) 0 (by omega)
  have hne : l ≠ [] := by
    rintro rfl
    rw [show (6 : Nat) = 5 + 1 from rfl, hexs, hd] at h4
    simp only [hh, if_true] at h4
    have := hexs_le s 5 (i + 1 + 1) (16 * 0 + hexV d.toNat) (by omega)
    rw [h4] at this
    simp at this
    omega
  have hsub : subL s ((i + 1 : Nat) : Int) ((hexs s 6 (i + 1) 0).1 : Int) = some l := by
    rw [sub_nat s hle.1 hle.2.1, h4]
    simp only
    congr 1
    rw [List.drop_take, h1]
    simp
  have h5 := hexs_val (s := s) 6 (i + 1) (Nat.le_refl _)
  have hpu := pu16_eq l hne h3 h2
  have hv : hval l 0 = (hexs s 6 (i + 1) 0).2 := by rw [h4]
  rw [hv] at hpu
  simp only [m_cascadia_parser_parseEscape, cond_dec, m_errors_New, bind_some, e1, e2]
  rw [if_neg (by omega)]
  simp only [atI_nat, hc, hd, bind_some]
  rw [if_neg (by omega), if_neg (by omega), if_neg (by omega), if_neg (by omega), hexDigit_eq, bind_some, hh, cond_true, hl, bind_some]
  clear hl h4
  generalize hexs s 6 (i + 1) 0 = q at hle hsub h5 hpu hv ⊢
  obtain ⟨j, n⟩ := q
  simp only at hle hsub h5 hpu hv ⊢
  rw [hsub, bind_some, hpu, bind_some]
  simp only
  rw [wi32 (by omega) (by omega)]
  have ej : IntKind.wrap .i64 ((j : Int) + 1) = ((j + 1 : Nat) : Int) := by rw [w64 (by omega) (by omega)]; omega
  have ej2 : IntKind.wrap .i64 (((j + 1 : Nat) : Int) + 1) = ((j + 2 : Nat) : Int) := by rw [w64 (by omega) (by omega)]; omega
  rw [ej]
  unfold sp
  cases hx : s[j]? with
  | none =>
    have := List.getElem?_eq_none_iff.1 hx
    rw [if_neg (by omega)]
  | some x =>
    have hj := (List.getElem?_eq_some_iff.1 hx).1
    rw [if_pos (by omega), atI_nat, hx, bind_some]
    simp only
    by_cases a1 : x.toNat = 13
    · rw [if_pos (by omega), if_pos a1, ej2]
      cases hy : s[j + 1]? with
      | none =>
        have := List.getElem?_eq_none_iff.1 hy
        rw [if_neg (by omega)]
      | some y =>
        have hj2 := (List.getElem?_eq_some_iff.1 hy).1
        rw [if_pos (by omega), atI_nat, hy, bind_some]
        by_cases a2 : y.toNat = 10
        · rw [if_pos (by omega)]; simp [a2]
        · rw [if_neg (by omega)]; simp [a2]
    · rw [if_neg (by omega), if_neg a1]
      by_cases a2 : x.toNat = 32
      · rw [if_pos (by omega), if_pos (.inl a2)]
      · rw [if_neg (by omega)]
        by_cases a3 : x.toNat = 9
        · rw [if_pos (by omega), if_pos (.inr (.inl a3))]
        · rw [if_neg (by omega)]
          by_cases a4 : x.toNat = 10
          · rw [if_pos (by omega), if_pos (.inr (.inr (.inl a4)))]
          · rw [if_neg (by omega)]
            by_cases a5 : x.toNat = 12
            · rw [if_pos (by omega), if_pos (.inr (.inr (.inr a5)))]
            · rw [if_neg (by omega), if_neg (by omega)]
theorem impl_other (hs : s.length ≤ 1000) {i : Nat} {d : UInt8} (h : ef s i = true) (hd : s[i + 1]? = some d) (hh : hexN d.toNat = false) : m_cascadia_parser_parseEscape (s, (i : Int), dp, ac) = some ([d], false, s, ((i + 2 : Nat) : Int), dp, ac) := by
  obtain ⟨c, d', hc, q1, hd', q2, q3, q4⟩ := ef_true h
  obtain rfl : d = d' := by rw [hd] at hd'; exact Option.some.inj hd'
  have hi := (List.getElem?_eq_some_iff.1 hd).1
  have e2 : IntKind.wrap .i64 ((i : Int) + 2) = ((i + 2 : Nat) : Int) := by rw [w64 (by omega) (by omega)]; omega
  have e1 : IntKind.wrap .i64 ((i : Int) + 1) = ((i + 1 : Nat) : Int) := by rw [w64 (by omega) (by omega)]; omega
  simp only [m_cascadia_parser_parseEscape, cond_dec, m_errors_New, bind_some, e1, e2]
  rw [if_neg (by omega)]
  simp only [atI_nat, hc, hd, bind_some]
  rw [if_neg (by omega), if_neg (by omega), if_neg (by omega), if_neg (by omega), hexDigit_eq, bind_some, hh, cond_false]
  have e3 : IntKind.wrap .i64 (((i + 1 : Nat) : Int) + 1) = ((i + 1 : Nat) : Int) + 1 := by rw [w64 (by omega) (by omega)]
  rw [e3, sub_one hd, bind_some]
end
end Go.Proofs.YtlgabeiaheoniaaDoor.V
