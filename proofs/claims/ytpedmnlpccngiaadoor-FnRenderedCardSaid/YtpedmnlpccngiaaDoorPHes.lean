/-
  Texts whose special characters are written as references. Plain facts.
-/
import Derived.Test.YtpedmnlpccngiaaDoorPDecA
import Derived.Test.YtpedmnlpccngiaaDoorSpecV
import Derived.Test.YtpedmnlpccngiaaDoorHtmA
set_option linter.unusedVariables false
set_option linter.unusedSimpArgs false
namespace Go.Proofs.YtpedmnlpccngiaaDoor.V
open Go

/-- What stands for a byte. -/
def escB (c : UInt8) : List UInt8 :=
  if c = 38 then [38, 97, 109, 112, 59] else if c = 39 then [38, 35, 51, 57, 59] else if c = 60 then [38, 108, 116, 59] else if c = 62 then [38, 103, 116, 59] else if c = 34 then [38, 35, 51, 52, 59] else if c = 13 then [38, 35, 49, 51, 59] else [c]
def esc (s : List UInt8) : List UInt8 := s.flatMap escB
theorem escB_len (c : UInt8) : (escB c).length ≤ 5 := by
  unfold escB
  repeat' split
  all_goals simp
theorem esc_len (s : List UInt8) : (esc s).length ≤ s.length * 5 := by
  unfold esc
  induction s with
  | nil => simp
  | cons c s ih =>
    have := escB_len c
    rw [List.flatMap_cons, List.length_append, List.length_cons]
    omega
def six : List UInt8 := [38, 39, 60, 62, 34, 13]
theorem escB_no {c : UInt8} (h : six.contains c = false) : escB c = [c] := by
  simp only [six, List.contains_cons, List.contains_nil, Bool.or_false, Bool.or_eq_false_iff, beq_eq_false_iff_ne, ne_eq] at h
  obtain ⟨h1, h2, h3, h4, h5, h6⟩ := h
  unfold escB
  rw [if_neg h1, if_neg h2, if_neg h3, if_neg h4, if_neg h5, if_neg h6]
theorem esc_no {s : List UInt8} (h : ∀ c ∈ s, six.contains c = false) : esc s = s := by
  unfold esc
  induction s with
  | nil => rfl
  | cons c s ih =>
    rw [List.flatMap_cons, escB_no (h c (by simp)), ih fun d hd => h d (by simp [hd])]
    rfl
theorem esc_app (a b : List UInt8) : esc (a ++ b) = esc a ++ esc b := by simp [esc]

theorem inner_eq (cs : List UInt8) (h : ∀ c ∈ cs, c.toNat < 128) (i r : Int) (s : List UInt8) (p : Nat) : ∀ (m k : Nat), k + m = cs.length →
    loopO m_html_zzIndexAny_0_0 (cs, i, r, (s, p), cs, k) = some (if (cs.drop k).any (fun c => decide (r = (c.toNat : Int))) then .inr i else .inl (cs, s, p)) := by
  intro m
  induction m with
  | zero =>
    intro k hk
    refine loopO_out ?_
    simp only [m_html_zzIndexAny_0_0, cond_dec]
    rw [if_neg (by omega), List.drop_eq_nil_of_le (by omega)]
    rfl
  | succ m ih =>
    intro k hk
    obtain ⟨c, hc⟩ := get_lt (l := cs) (k := k) (by omega)
    have hd : cs.drop k = c :: cs.drop (k + 1) := by
      obtain ⟨h1, h2⟩ := List.getElem?_eq_some_iff.1 hc
      rw [← h2]
      exact List.drop_eq_getElem_cons h1
    have h8 := dec8_low hc (h c (List.mem_of_getElem? hc))
    by_cases hr : r = (c.toNat : Int)
    · refine loopO_out ?_
      simp only [m_html_zzIndexAny_0_0, cond_dec, h8]
      rw [if_pos (by omega), if_pos hr, hd, List.any_cons, decide_eq_true hr]
      rfl
    · have hs : m_html_zzIndexAny_0_0 (cs, i, r, (s, p), cs, k) = some (.nx (cs, i, r, (s, p), cs, k + 1)) := by
        simp only [m_html_zzIndexAny_0_0, cond_dec, h8]
        rw [if_pos (by omega), if_neg hr]
      rw [loopO_nx hs, ih (k + 1) (by omega), hd, List.any_cons, decide_eq_false hr, Bool.false_or]
theorem any_has (cs : List UInt8) (c : UInt8) : (cs.any fun d => decide ((c.toNat : Int) = (d.toNat : Int))) = cs.contains c := by
  induction cs with
  | nil => rfl
  | cons d cs ih =>
    rw [List.any_cons, ih, List.contains_cons]
    congr 1
    rw [Bool.eq_iff_iff]
    simp only [decide_eq_true_eq, beq_iff_eq]
    constructor
    · intro h
      have : c.toNat = d.toNat := by exact_mod_cast h
      exact UInt8.toNat_inj.1 this
    · rintro rfl
      rfl
theorem any_none {cs : List UInt8} (h : ∀ c ∈ cs, c.toNat < 128) {r : Nat} (hr : 128 ≤ r) : (cs.any fun d => decide ((r : Int) = (d.toNat : Int))) = false := by
  rw [List.any_eq_false]
  intro d hd
  have := h d hd
  simp only [decide_eq_true_eq]
  omega
theorem outer_eq (cs : List UInt8) (h : ∀ c ∈ cs, c.toNat < 128) (s : List UInt8) : ∀ (m k : Nat), s.length - k = m → k ≤ s.length →
    loopO m_html_zzIndexAny_0 (cs, s, k) = some (match (s.drop k).findIdx? (fun c => cs.contains c) with | some i => .inr ((k + i : Nat) : Int) | none => .inl ()) := by
  intro m
  induction m using Nat.strongRecOn with
  | ind m ih =>
    intro k hm hk
    by_cases he : k = s.length
    · subst he
      refine loopO_out ?_
      simp only [m_html_zzIndexAny_0, cond_dec]
      rw [if_neg (by omega), List.drop_length]
      rfl
    · obtain ⟨c, hc⟩ := get_lt (l := s) (k := k) (by omega)
      have hd : s.drop k = c :: s.drop (k + 1) := by
        obtain ⟨h1, h2⟩ := List.getElem?_eq_some_iff.1 hc
        rw [← h2]
        exact List.drop_eq_getElem_cons h1
      by_cases hl : c.toNat < 128
      · have h8 := dec8_low hc hl
        cases hh : cs.contains c with
        | true =>
          refine loopO_out ?_
          simp only [m_html_zzIndexAny_0, cond_dec, h8]
          rw [if_pos (by omega), show loopO m_html_zzIndexAny_0_0 (cs, (k : Int), (c.toNat : Int), (s, k + 1), cs, 0) = _ from inner_eq cs h _ _ s (k + 1) cs.length 0 (by omega), List.drop_zero, any_has, hh, if_pos rfl, bind_some, hd, List.findIdx?_cons, hh]
          rfl
        | false =>
          have hs : m_html_zzIndexAny_0 (cs, s, k) = some (.nx (cs, s, k + 1)) := by
            simp only [m_html_zzIndexAny_0, cond_dec, h8]
            rw [if_pos (by omega), show loopO m_html_zzIndexAny_0_0 (cs, (k : Int), (c.toNat : Int), (s, k + 1), cs, 0) = _ from inner_eq cs h _ _ s (k + 1) cs.length 0 (by omega), List.drop_zero, any_has, hh, if_neg (by simp), bind_some]
            rfl
          rw [loopO_nx hs, ih (s.length - (k + 1)) (by omega) (k + 1) rfl (by omega), hd, List.findIdx?_cons, hh]
          cases (s.drop (k + 1)).findIdx? (fun c => cs.contains c) with
          | none => rfl
          | some i => simp only [cond_false, Option.map_some]; rw [show k + 1 + i = k + (i + 1) by omega]; rfl
      · obtain ⟨q1, q2, q3, q4⟩ := dec8_high hc (by omega)
        obtain ⟨r, w, hrw⟩ : ∃ r w, dec8 s k = (r, w) := ⟨_, _, rfl⟩
        rw [hrw] at q1 q2 q3 q4
        simp only at q1 q2 q3 q4
        have hs : m_html_zzIndexAny_0 (cs, s, k) = some (.nx (cs, s, k + w)) := by
          simp only [m_html_zzIndexAny_0, cond_dec, hrw]
          rw [if_pos (by omega), show loopO m_html_zzIndexAny_0_0 (cs, (k : Int), (r : Int), (s, k + w), cs, 0) = _ from inner_eq cs h _ _ s (k + w) cs.length 0 (by omega), List.drop_zero, any_none h q1, if_neg (by simp), bind_some]
          rfl
        have hsk : ∀ (n j : Nat), k ≤ j → j + n = k + w → (s.drop j).findIdx? (fun c => cs.contains c) = ((s.drop (k + w)).findIdx? (fun c => cs.contains c)).map (· + n) := by
          intro n
          induction n with
          | zero =>
            intro j h1 h2
            rw [show j = k + w by omega]
            cases (s.drop (k + w)).findIdx? (fun c => cs.contains c) <;> rfl
          | succ n ihn =>
            intro j h1 h2
            obtain ⟨d, hd, hd2⟩ := q4 j h1 (by omega)
            have hd3 : s.drop j = d :: s.drop (j + 1) := by
              obtain ⟨h1, h2⟩ := List.getElem?_eq_some_iff.1 hd
              rw [← h2]
              exact List.drop_eq_getElem_cons h1
            have hn : cs.contains d = false := by
              rw [Bool.eq_false_iff]
              intro hcd
              have := h d (List.contains_iff_mem.1 hcd)
              omega
            rw [hd3, List.findIdx?_cons, hn, ihn (j + 1) (by omega) (by omega)]
            cases (s.drop (k + w)).findIdx? (fun c => cs.contains c) with
            | none => rfl
            | some i => simp; omega
        rw [loopO_nx hs, ih (s.length - (k + w)) (by omega) (k + w) rfl (by omega), hsk w k (Nat.le_refl _) rfl]
        cases (s.drop (k + w)).findIdx? (fun c => cs.contains c) with
        | none => rfl
        | some i => simp only [Option.map_some]; rw [show k + w + i = k + (i + w) by omega]
def idx (s : List UInt8) : Int := match s.findIdx? (fun c => six.contains c) with
  | some i => (i : Int)
  | none => -1
theorem indexAny_eq (s : List UInt8) : m_html_zzIndexAny (s, [(38 : UInt8), (39 : UInt8), (60 : UInt8), (62 : UInt8), (34 : UInt8), (13 : UInt8)]) = some (idx s) := by
  simp only [m_html_zzIndexAny]
  rw [show loopO m_html_zzIndexAny_0 ([(38 : UInt8), (39 : UInt8), (60 : UInt8), (62 : UInt8), (34 : UInt8), (13 : UInt8)], s, 0) = _ from outer_eq six (by decide) s s.length 0 (by omega) (by omega), bind_some, List.drop_zero]
  unfold idx
  cases s.findIdx? (fun c => six.contains c) with
  | none => rfl
  | some i => simp [selim]
end Go.Proofs.YtpedmnlpccngiaaDoor.V
