/-
  Characters of texts, white space, words. Plain facts.
-/
import Derived.Test.YtpedmnlpccngiaaDoorPSpecA
set_option linter.unusedVariables false
set_option linter.unusedSimpArgs false
namespace Go.Proofs.YtpedmnlpccngiaaDoor.V
open Go

theorem subL_nat' {α : Type} (l : List α) {lo hi : Nat} (h1 : lo ≤ hi) (h2 : hi ≤ l.length) : subL l (lo : Int) (hi : Int) = some ((l.take hi).drop lo) := by
  unfold subL
  rw [if_pos (by omega)]
  rfl
theorem getb (l : List UInt8) (k : Nat) : (ByteArray.mk l.toArray).get! k = (l[k]?).getD 0 := by
  simp [ByteArray.get!, Array.getD_eq_getD_getElem?, Array.getElem!_eq_getD]
  rfl
theorem dec8_low {l : List UInt8} {i : Nat} {c : UInt8} (h : l[i]? = some c) (hc : c.toNat < 128) : dec8 l i = (c.toNat, 1) := by
  simp only [dec8, Utf8.decode, Nat.add_zero, getb, h, Option.getD_some]
  rw [if_pos hc]
def dd (b0 b1 b2 b3 : Nat) (k1 k2 k3 : Bool) (vl : Int → Bool) (er : Nat) : Nat × Nat :=
  if b0 < 0x80 then (b0, 1)
  else if b0 / 32 == 6 && k1 then
    let c := (b0 % 32) * 64 + b1 % 64
    if c ≥ 0x80 then (c, 2) else (er, 1)
  else if b0 / 16 == 14 && k1 && k2 then
    let c := (b0 % 16) * 4096 + (b1 % 64) * 64 + b2 % 64
    if c ≥ 0x800 && vl c then (c, 3) else (er, 1)
  else if b0 / 8 == 30 && k1 && k2 && k3 then
    let c := (b0 % 8) * 262144 + (b1 % 64) * 4096 + (b2 % 64) * 64 + b3 % 64
    if c ≥ 0x10000 && vl c then (c, 4) else (er, 1)
  else (er, 1)
theorem ite_p {α : Type} {P : α → Prop} {c : Prop} [Decidable c] {x y : α} (h1 : c → P x) (h2 : ¬ c → P y) : P (if c then x else y) := by by_cases h : c <;> simp [h, h1, h2]
theorem dd_ok (b0 b1 b2 b3 : Nat) (k1 k2 k3 : Bool) (vl : Int → Bool) (er : Nat) (h0 : 128 ≤ b0) (he : 128 ≤ er) :
    (fun r : Nat × Nat => 128 ≤ r.1 ∧ (r.2 = 1 ∨ r.2 = 2 ∧ k1 = true ∨ r.2 = 3 ∧ k1 = true ∧ k2 = true ∨ r.2 = 4 ∧ k1 = true ∧ k2 = true ∧ k3 = true)) (dd b0 b1 b2 b3 k1 k2 k3 vl er) := by
  unfold dd
  refine ite_p (P := fun r : Nat × Nat => 128 ≤ r.1 ∧ (r.2 = 1 ∨ r.2 = 2 ∧ k1 = true ∨ r.2 = 3 ∧ k1 = true ∧ k2 = true ∨ r.2 = 4 ∧ k1 = true ∧ k2 = true ∧ k3 = true)) (fun h => by omega) fun _ => ?_
  refine ite_p (P := fun r : Nat × Nat => 128 ≤ r.1 ∧ (r.2 = 1 ∨ r.2 = 2 ∧ k1 = true ∨ r.2 = 3 ∧ k1 = true ∧ k2 = true ∨ r.2 = 4 ∧ k1 = true ∧ k2 = true ∧ k3 = true)) (fun h => ?_) fun _ => ?_
  · rw [Bool.and_eq_true] at h
    exact ite_p (P := fun r : Nat × Nat => 128 ≤ r.1 ∧ (r.2 = 1 ∨ r.2 = 2 ∧ k1 = true ∨ r.2 = 3 ∧ k1 = true ∧ k2 = true ∨ r.2 = 4 ∧ k1 = true ∧ k2 = true ∧ k3 = true)) (fun h2 => ⟨h2, .inr (.inl ⟨rfl, h.2⟩)⟩) fun _ => ⟨he, .inl rfl⟩
  · refine ite_p (P := fun r : Nat × Nat => 128 ≤ r.1 ∧ (r.2 = 1 ∨ r.2 = 2 ∧ k1 = true ∨ r.2 = 3 ∧ k1 = true ∧ k2 = true ∨ r.2 = 4 ∧ k1 = true ∧ k2 = true ∧ k3 = true)) (fun h => ?_) fun _ => ?_
    · rw [Bool.and_eq_true, Bool.and_eq_true] at h
      exact ite_p (P := fun r : Nat × Nat => 128 ≤ r.1 ∧ (r.2 = 1 ∨ r.2 = 2 ∧ k1 = true ∨ r.2 = 3 ∧ k1 = true ∧ k2 = true ∨ r.2 = 4 ∧ k1 = true ∧ k2 = true ∧ k3 = true)) (fun h2 => ⟨by
        rw [Bool.and_eq_true] at h2
        have := of_decide_eq_true h2.1
        show 128 ≤ _
        omega, .inr (.inr (.inl ⟨rfl, h.1.2, h.2⟩))⟩) fun _ => ⟨he, .inl rfl⟩
    · refine ite_p (P := fun r : Nat × Nat => 128 ≤ r.1 ∧ (r.2 = 1 ∨ r.2 = 2 ∧ k1 = true ∨ r.2 = 3 ∧ k1 = true ∧ k2 = true ∨ r.2 = 4 ∧ k1 = true ∧ k2 = true ∧ k3 = true)) (fun h => ?_) fun _ => ⟨he, .inl rfl⟩
      rw [Bool.and_eq_true, Bool.and_eq_true, Bool.and_eq_true] at h
      exact ite_p (P := fun r : Nat × Nat => 128 ≤ r.1 ∧ (r.2 = 1 ∨ r.2 = 2 ∧ k1 = true ∨ r.2 = 3 ∧ k1 = true ∧ k2 = true ∨ r.2 = 4 ∧ k1 = true ∧ k2 = true ∧ k3 = true)) (fun h2 => ⟨by
        rw [Bool.and_eq_true] at h2
        have := of_decide_eq_true h2.1
        show 128 ≤ _
        omega, .inr (.inr (.inr ⟨rfl, h.1.1.2, h.1.2, h.2⟩))⟩) fun _ => ⟨he, .inl rfl⟩
theorem dec8_high {l : List UInt8} {i : Nat} {c : UInt8} (h : l[i]? = some c) (hc : 128 ≤ c.toNat) :
    128 ≤ (dec8 l i).1 ∧ 1 ≤ (dec8 l i).2 ∧ i + (dec8 l i).2 ≤ l.length ∧ ∀ j, i ≤ j → j < i + (dec8 l i).2 → ∃ d, l[j]? = some d ∧ 128 ≤ d.toNat := by
  have hi := (List.getElem?_eq_some_iff.1 h).1
  have hsz : (ByteArray.mk l.toArray).size = l.length := by simp [ByteArray.size]
  have cont : ∀ k, (decide (i + k < (ByteArray.mk l.toArray).size) && ((ByteArray.mk l.toArray).get! (i + k)).toNat / 64 == 2) = true → ∃ d, l[i + k]? = some d ∧ 128 ≤ d.toNat ∧ i + k < l.length := fun k hk => by
    rw [hsz, getb] at hk
    simp only [Bool.and_eq_true, decide_eq_true_eq, beq_iff_eq] at hk
    obtain ⟨d, hd⟩ := get_lt hk.1
    rw [hd, Option.getD_some] at hk
    exact ⟨d, hd, by omega, hk.1⟩
  have e0 : ((ByteArray.mk l.toArray).get! (i + 0)).toNat = c.toNat := by rw [Nat.add_zero, getb, h]; rfl
  have e : dec8 l i = dd ((ByteArray.mk l.toArray).get! (i + 0)).toNat ((ByteArray.mk l.toArray).get! (i + 1)).toNat ((ByteArray.mk l.toArray).get! (i + 2)).toNat ((ByteArray.mk l.toArray).get! (i + 3)).toNat
    (decide (i + 1 < (ByteArray.mk l.toArray).size) && ((ByteArray.mk l.toArray).get! (i + 1)).toNat / 64 == 2) (decide (i + 2 < (ByteArray.mk l.toArray).size) && ((ByteArray.mk l.toArray).get! (i + 2)).toNat / 64 == 2) (decide (i + 3 < (ByteArray.mk l.toArray).size) && ((ByteArray.mk l.toArray).get! (i + 3)).toNat / 64 == 2) Utf8.valid Utf8.runeError := rfl
  have k := dd_ok ((ByteArray.mk l.toArray).get! (i + 0)).toNat ((ByteArray.mk l.toArray).get! (i + 1)).toNat ((ByteArray.mk l.toArray).get! (i + 2)).toNat ((ByteArray.mk l.toArray).get! (i + 3)).toNat
    (decide (i + 1 < (ByteArray.mk l.toArray).size) && ((ByteArray.mk l.toArray).get! (i + 1)).toNat / 64 == 2) (decide (i + 2 < (ByteArray.mk l.toArray).size) && ((ByteArray.mk l.toArray).get! (i + 2)).toNat / 64 == 2) (decide (i + 3 < (ByteArray.mk l.toArray).size) && ((ByteArray.mk l.toArray).get! (i + 3)).toNat / 64 == 2) Utf8.valid Utf8.runeError (by rw [e0]; exact hc) (by decide)
  rw [← e] at k
  generalize dec8 l i = r at k
  obtain ⟨k1, k2⟩ := k
  rcases k2 with k2 | ⟨k2, g1⟩ | ⟨k2, g1, g2⟩ | ⟨k2, g1, g2, g3⟩
  · refine ⟨k1, by omega, by omega, fun j h1 h2 => ?_⟩
    obtain rfl : j = i := by omega
    exact ⟨c, h, hc⟩
  · obtain ⟨d1, a1, b1, c1⟩ := cont 1 g1
    refine ⟨k1, by omega, by omega, fun j h1 h2 => ?_⟩
    rcases (show j = i ∨ j = i + 1 by omega) with rfl | rfl
    · exact ⟨c, h, hc⟩
    · exact ⟨d1, a1, b1⟩
  · obtain ⟨d1, a1, b1, c1⟩ := cont 1 g1
    obtain ⟨d2, a2, b2, c2⟩ := cont 2 g2
    refine ⟨k1, by omega, by omega, fun j h1 h2 => ?_⟩
    rcases (show j = i ∨ j = i + 1 ∨ j = i + 2 by omega) with rfl | rfl | rfl
    · exact ⟨c, h, hc⟩
    · exact ⟨d1, a1, b1⟩
    · exact ⟨d2, a2, b2⟩
  · obtain ⟨d1, a1, b1, c1⟩ := cont 1 g1
    obtain ⟨d2, a2, b2, c2⟩ := cont 2 g2
    obtain ⟨d3, a3, b3, c3⟩ := cont 3 g3
    refine ⟨k1, by omega, by omega, fun j h1 h2 => ?_⟩
    rcases (show j = i ∨ j = i + 1 ∨ j = i + 2 ∨ j = i + 3 by omega) with rfl | rfl | rfl | rfl
    · exact ⟨c, h, hc⟩
    · exact ⟨d1, a1, b1⟩
    · exact ⟨d2, a2, b2⟩
    · exact ⟨d3, a3, b3⟩

/-! white space of HTML -/
def isSp (c : UInt8) : Bool := decide (c.toNat = 32) || decide (c.toNat = 9) || decide (c.toNat = 10) || decide (c.toNat = 13) || decide (c.toNat = 12)
theorem isSp_lt {c : UInt8} (h : isSp c = true) : c.toNat < 128 := by
  simp only [isSp, Bool.or_eq_true, decide_eq_true_eq] at h
  omega
/-- What stands between white space. -/
def pcs : List UInt8 → List (List UInt8)
  | [] => [[]]
  | c :: s => if isSp c then [] :: pcs s else match pcs s with
    | p :: ps => (c :: p) :: ps
    | [] => [[c]]
theorem pcs_cons_ne (c : UInt8) (s : List UInt8) : pcs s ≠ [] := by
  cases s with
  | nil => simp [pcs]
  | cons c s =>
    simp only [pcs]
    split
    · simp
    · split <;> simp
theorem pcs_flat : ∀ {w : List UInt8}, (∀ c ∈ w, isSp c = false) → pcs w = [w]
  | [], _ => rfl
  | c :: w, h => by
    simp only [pcs]
    rw [h c (by simp), pcs_flat (w := w) fun d hd => h d (by simp [hd])]
    simp
theorem pcs_app : ∀ {w r : List UInt8} {c : UInt8}, (∀ c ∈ w, isSp c = false) → isSp c = true → pcs (w ++ c :: r) = w :: pcs r
  | [], r, c, _, hc => by simp [pcs, hc]
  | d :: w, r, c, h, hc => by
    simp only [List.cons_append, pcs]
    rw [h d (by simp), pcs_app (w := w) (fun d hd => h d (by simp [hd])) hc]
    simp
def wordsL (s : List UInt8) : List (List UInt8) := (pcs s).filter fun p => !p.isEmpty
theorem wordsL_flat {w : List UInt8} (h : ∀ c ∈ w, isSp c = false) : wordsL w = if w = [] then [] else [w] := by
  unfold wordsL
  rw [pcs_flat h]
  cases w <;> simp
theorem wordsL_app {w r : List UInt8} {c : UInt8} (h : ∀ c ∈ w, isSp c = false) (hc : isSp c = true) : wordsL (w ++ c :: r) = (if w = [] then [] else [w]) ++ wordsL r := by
  unfold wordsL
  rw [pcs_app h hc]
  cases w <;> simp
theorem mem_wordsL {s w : List UInt8} (hw : w ≠ []) : w ∈ wordsL s ↔ w ∈ pcs s := by
  unfold wordsL
  rw [List.mem_filter]
  cases w with
  | nil => exact absurd rfl hw
  | cons c w => simp
theorem wordsL_len : ∀ (s : List UInt8), (wordsL s).length ≤ s.length
  | s => by
    have key : ∀ s : List UInt8, (pcs s).length ≤ s.length + 1 ∧ ((pcs s).filter fun p => !p.isEmpty).length ≤ s.length ∧ (((pcs s).tail).filter fun p => !p.isEmpty).length + 1 ≤ s.length + 1 := by
      intro s
      induction s with
      | nil => simp [pcs]
      | cons c s ih =>
        obtain ⟨h1, h2, h3⟩ := ih
        simp only [pcs]
        split
        · refine ⟨by simp; omega, by simp; omega, by simp; omega⟩
        · split
          · rename_i p ps hp
            rw [hp] at h1 h2 h3
            simp only [List.tail_cons] at h3
            refine ⟨by simp at h1 ⊢; omega, by simp; omega, by simp; omega⟩
          · rename_i hp; exact absurd hp (pcs_cons_ne c s)
    exact (key s).2.1
theorem pcs_nosp : ∀ {s p : List UInt8}, p ∈ pcs s → ∀ c ∈ p, isSp c = false
  | [], p, h => by simp [pcs] at h; subst h; simp
  | c :: s, p, h => by
    simp only [pcs] at h
    split at h
    · rcases List.mem_cons.1 h with rfl | h
      · simp
      · exact pcs_nosp h
    · rename_i hc
      split at h
      · rename_i q qs hq
        rcases List.mem_cons.1 h with rfl | h
        · intro d hd
          rcases List.mem_cons.1 hd with rfl | hd
          · simpa using hc
          · exact pcs_nosp (s := s) (p := q) (by rw [hq]; simp) d hd
        · exact pcs_nosp (s := s) (by rw [hq]; simp [h])
      · rename_i hq; exact absurd hq (pcs_cons_ne c s)
end Go.Proofs.YtpedmnlpccngiaaDoor.V
