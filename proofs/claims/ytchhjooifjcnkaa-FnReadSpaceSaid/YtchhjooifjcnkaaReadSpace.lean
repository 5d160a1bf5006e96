/-
  White space at the beginning of a text: what the package reads, what the reference reads, each proved over its code; both are the same relation, which tells its end.
-/
import Derived.Test.YtchhjooifjcnkaaKTypes
namespace Go.Proofs.Ytchhjooifjcnkaa.ReadSpace
open Go Go.Proofs K

def Sp (c : UInt8) : Prop := c.toNat = 32 ∨ c.toNat = 9 ∨ c.toNat = 10 ∨ c.toNat = 13 ∨ c.toNat = 12
instance (c : UInt8) : Decidable (Sp c) := by unfold Sp; infer_instance

/-- White space from a on, up to r. -/
def Close (l : List UInt8) (e : Nat) : Prop := e + 1 < l.length ∧ (l.getD e 0).toNat = 42 ∧ (l.getD (e + 1) 0).toNat = 47
def Comm (l : List UInt8) (a : Nat) : Prop := a + 1 < l.length ∧ (l.getD a 0).toNat = 47 ∧ (l.getD (a + 1) 0).toNat = 42
inductive Skip (l : List UInt8) : Nat → Nat → Prop
  | space {a r} : a < l.length → Sp (l.getD a 0) → Skip l (a + 1) r → Skip l a r
  | comm {a e r} : Comm l a → a + 2 ≤ e → Close l e → (∀ j, a + 2 ≤ j → j < e → ¬ Close l j) → Skip l (e + 2) r → Skip l a r
  | stop {a} : (a < l.length → ¬ Sp (l.getD a 0)) → (Comm l a → ∀ j, a + 2 ≤ j → ¬ Close l j) → Skip l a a
theorem Skip.det {l : List UInt8} {a r r' : Nat} (h : Skip l a r) (h' : Skip l a r') : r = r' := by
  induction h with
  | space h1 h2 _ ih =>
    cases h' with
    | space _ _ h3 => exact ih h3
    | comm h3 => have := h3.2.1; unfold Sp at h2; omega
    | stop h3 => exact absurd h2 (h3 h1)
  | comm h1 h2 h3 h4 _ ih =>
    rename_i a e r _
    cases h' with
    | space _ h5 => have := h1.2.1; unfold Sp at h5; omega
    | @comm _ e' _ _ h6 h7 h8 h9 =>
      have : e = e' := by
        rcases Nat.lt_trichotomy e e' with h | h | h
        · exact absurd h3 (h8 e h2 h)
        · exact h
        · exact absurd h7 (h4 e' h6 h)
      subst this
      exact ih h9
    | stop _ h6 => exact absurd h3 (h6 h1 _ h2)
  | stop h1 h2 =>
    cases h' with
    | space h3 h4 => exact absurd h4 (h1 h3)
    | comm h3 h4 h5 => exact absurd h5 (h2 h3 _ h4)
    | stop => rfl

set_option linter.unusedSimpArgs false in
set_option maxRecDepth 10000 in
theorem isSpace_ret (c : UInt8) (h : Array Obj) : Ret Try.prog 29 [.int .u8 (c.toNat : Int)] h fun v h' => v = .bool (decide (Sp c)) ∧ Ext h h' := by
  refine ret_of_tw (ρ := ((.int .u8 (c.toNat : Int)) :: undef :: undef :: undef :: undef :: undef :: undef :: undef :: undef :: undef :: undef :: undef :: undef :: undef :: undef :: undef :: undef :: undef :: undef :: undef :: undef :: [])) Try.func29 rfl rfl (fun E => ?_)
  refine tw_seq ?_
  refine tw_region (fun K hK => ?_)
  refine lw_pu (wan_none rfl) (pu_assign (by (simp only [ev, List.getD_cons_succ, List.getD_cons_zero]; exact rfl))) (by (simp only [setD, List.set_cons_succ, List.set_cons_zero]; exact rfl)) ?_
  refine lw_nil ?_; refine hK _ _ ?_; clear hK K
  refine tw_seq ?_
  refine tw_region (fun K hK => ?_)
  refine lw_pu (wan_none rfl) (pu_move (by (simp only [ev, List.getD_cons_succ, List.getD_cons_zero]; exact rfl))) (by (simp only [setD, List.set_cons_succ, List.set_cons_zero]; exact rfl)) ?_
  refine lw_pu (wan_none rfl) (pu_eql rfl rfl) (by (simp only [setD, List.set_cons_succ, List.set_cons_zero]; exact rfl)) ?_
  refine lw_pu (wan_none rfl) (pu_move (by (simp only [ev, List.getD_cons_succ, List.getD_cons_zero]; exact rfl))) (by (simp only [setD, List.set_cons_succ, List.set_cons_zero]; exact rfl)) ?_
  refine lw_split_d rfl rfl rfl (by (simp only [List.set_cons_succ, List.set_cons_zero]; exact rfl)) (by (simp only [List.set_cons_succ, List.set_cons_zero]; exact rfl)) (fun hq => ?_) (fun hq => ?_)
  refine lw_skip_b rfl rfl rfl (by (simp only [setD, List.set_cons_succ, List.set_cons_zero]; exact rfl)) ?_
  refine lw_skip_b rfl rfl rfl (by (simp only [setD, List.set_cons_succ, List.set_cons_zero]; exact rfl)) ?_
  refine lw_pu (wan_none rfl) (pu_pick_t rfl (by (simp only [ev, List.getD_cons_succ, List.getD_cons_zero]; exact rfl))) (by (simp only [setD, List.set_cons_succ, List.set_cons_zero]; exact rfl)) ?_
  refine lw_pu (wan_none rfl) (pu_move (by (simp only [ev, List.getD_cons_succ, List.getD_cons_zero]; exact rfl))) (by (simp only [setD, List.set_cons_succ, List.set_cons_zero]; exact rfl)) ?_
  refine lw_skip_b rfl rfl rfl (by (simp only [setD, List.set_cons_succ, List.set_cons_zero]; exact rfl)) ?_
  refine lw_skip_b rfl rfl rfl (by (simp only [setD, List.set_cons_succ, List.set_cons_zero]; exact rfl)) ?_
  refine lw_pu (wan_none rfl) (pu_pick_t rfl (by (simp only [ev, List.getD_cons_succ, List.getD_cons_zero]; exact rfl))) (by (simp only [setD, List.set_cons_succ, List.set_cons_zero]; exact rfl)) ?_
  refine lw_pu (wan_none rfl) (pu_move (by (simp only [ev, List.getD_cons_succ, List.getD_cons_zero]; exact rfl))) (by (simp only [setD, List.set_cons_succ, List.set_cons_zero]; exact rfl)) ?_
  refine lw_skip_b rfl rfl rfl (by (simp only [setD, List.set_cons_succ, List.set_cons_zero]; exact rfl)) ?_
  refine lw_skip_b rfl rfl rfl (by (simp only [setD, List.set_cons_succ, List.set_cons_zero]; exact rfl)) ?_
  refine lw_pu (wan_none rfl) (pu_pick_t rfl (by (simp only [ev, List.getD_cons_succ, List.getD_cons_zero]; exact rfl))) (by (simp only [setD, List.set_cons_succ, List.set_cons_zero]; exact rfl)) ?_
  refine lw_pu (wan_none rfl) (pu_move (by (simp only [ev, List.getD_cons_succ, List.getD_cons_zero]; exact rfl))) (by (simp only [setD, List.set_cons_succ, List.set_cons_zero]; exact rfl)) ?_
  refine lw_skip_b rfl rfl rfl (by (simp only [setD, List.set_cons_succ, List.set_cons_zero]; exact rfl)) ?_
  refine lw_skip_b rfl rfl rfl (by (simp only [setD, List.set_cons_succ, List.set_cons_zero]; exact rfl)) ?_
  refine lw_pu (wan_none rfl) (pu_pick_t rfl (by (simp only [ev, List.getD_cons_succ, List.getD_cons_zero]; exact rfl))) (by (simp only [setD, List.set_cons_succ, List.set_cons_zero]; exact rfl)) ?_
  refine lw_pu (wan_none rfl) (pu_assign (by (simp only [ev, List.getD_cons_succ, List.getD_cons_zero]; exact rfl))) (by (simp only [setD, List.set_cons_succ, List.set_cons_zero]; exact rfl)) ?_
  refine lw_nil ?_; refine hK _ _ ?_; clear hK K
  refine tw_ret1 Try.func29 Try.results29 (by (simp only [ev, List.getD_cons_succ, List.getD_cons_zero]; exact rfl)) ?_
  rotate_left 1
  refine lw_pu (wan_some rfl rfl rfl) (pu_move (by (simp only [ev, List.getD_cons_succ, List.getD_cons_zero]; exact rfl))) (by (simp only [setD, List.set_cons_succ, List.set_cons_zero]; exact rfl)) ?_
  refine lw_pu (wan_some rfl rfl rfl) (pu_eql rfl rfl) (by (simp only [setD, List.set_cons_succ, List.set_cons_zero]; exact rfl)) ?_
  refine lw_pu (wan_none rfl) (pu_pick_f rfl (by (simp only [ev, List.getD_cons_succ, List.getD_cons_zero]; exact rfl))) (by (simp only [setD, List.set_cons_succ, List.set_cons_zero]; exact rfl)) ?_
  refine lw_pu (wan_none rfl) (pu_move (by (simp only [ev, List.getD_cons_succ, List.getD_cons_zero]; exact rfl))) (by (simp only [setD, List.set_cons_succ, List.set_cons_zero]; exact rfl)) ?_
  refine lw_split_d rfl rfl rfl (by (simp only [List.set_cons_succ, List.set_cons_zero]; exact rfl)) (by (simp only [List.set_cons_succ, List.set_cons_zero]; exact rfl)) (fun hq => ?_) (fun hq => ?_)
  refine lw_skip_b rfl rfl rfl (by (simp only [setD, List.set_cons_succ, List.set_cons_zero]; exact rfl)) ?_
  refine lw_skip_b rfl rfl rfl (by (simp only [setD, List.set_cons_succ, List.set_cons_zero]; exact rfl)) ?_
  refine lw_pu (wan_none rfl) (pu_pick_t rfl (by (simp only [ev, List.getD_cons_succ, List.getD_cons_zero]; exact rfl))) (by (simp only [setD, List.set_cons_succ, List.set_cons_zero]; exact rfl)) ?_
  refine lw_pu (wan_none rfl) (pu_move (by (simp only [ev, List.getD_cons_succ, List.getD_cons_zero]; exact rfl))) (by (simp only [setD, List.set_cons_succ, List.set_cons_zero]; exact rfl)) ?_
  refine lw_skip_b rfl rfl rfl (by (simp only [setD, List.set_cons_succ, List.set_cons_zero]; exact rfl)) ?_
  refine lw_skip_b rfl rfl rfl (by (simp only [setD, List.set_cons_succ, List.set_cons_zero]; exact rfl)) ?_
  refine lw_pu (wan_none rfl) (pu_pick_t rfl (by (simp only [ev, List.getD_cons_succ, List.getD_cons_zero]; exact rfl))) (by (simp only [setD, List.set_cons_succ, List.set_cons_zero]; exact rfl)) ?_
  refine lw_pu (wan_none rfl) (pu_move (by (simp only [ev, List.getD_cons_succ, List.getD_cons_zero]; exact rfl))) (by (simp only [setD, List.set_cons_succ, List.set_cons_zero]; exact rfl)) ?_
  refine lw_skip_b rfl rfl rfl (by (simp only [setD, List.set_cons_succ, List.set_cons_zero]; exact rfl)) ?_
  refine lw_skip_b rfl rfl rfl (by (simp only [setD, List.set_cons_succ, List.set_cons_zero]; exact rfl)) ?_
  refine lw_pu (wan_none rfl) (pu_pick_t rfl (by (simp only [ev, List.getD_cons_succ, List.getD_cons_zero]; exact rfl))) (by (simp only [setD, List.set_cons_succ, List.set_cons_zero]; exact rfl)) ?_
  refine lw_pu (wan_none rfl) (pu_assign (by (simp only [ev, List.getD_cons_succ, List.getD_cons_zero]; exact rfl))) (by (simp only [setD, List.set_cons_succ, List.set_cons_zero]; exact rfl)) ?_
  refine lw_nil ?_; refine hK _ _ ?_; clear hK K
  refine tw_ret1 Try.func29 Try.results29 (by (simp only [ev, List.getD_cons_succ, List.getD_cons_zero]; exact rfl)) ?_
  rotate_left 1
  refine lw_pu (wan_some rfl rfl rfl) (pu_move (by (simp only [ev, List.getD_cons_succ, List.getD_cons_zero]; exact rfl))) (by (simp only [setD, List.set_cons_succ, List.set_cons_zero]; exact rfl)) ?_
  refine lw_pu (wan_some rfl rfl rfl) (pu_eql rfl rfl) (by (simp only [setD, List.set_cons_succ, List.set_cons_zero]; exact rfl)) ?_
  refine lw_pu (wan_none rfl) (pu_pick_f rfl (by (simp only [ev, List.getD_cons_succ, List.getD_cons_zero]; exact rfl))) (by (simp only [setD, List.set_cons_succ, List.set_cons_zero]; exact rfl)) ?_
  refine lw_pu (wan_none rfl) (pu_move (by (simp only [ev, List.getD_cons_succ, List.getD_cons_zero]; exact rfl))) (by (simp only [setD, List.set_cons_succ, List.set_cons_zero]; exact rfl)) ?_
  refine lw_split_d rfl rfl rfl (by (simp only [List.set_cons_succ, List.set_cons_zero]; exact rfl)) (by (simp only [List.set_cons_succ, List.set_cons_zero]; exact rfl)) (fun hq => ?_) (fun hq => ?_)
  refine lw_skip_b rfl rfl rfl (by (simp only [setD, List.set_cons_succ, List.set_cons_zero]; exact rfl)) ?_
  refine lw_skip_b rfl rfl rfl (by (simp only [setD, List.set_cons_succ, List.set_cons_zero]; exact rfl)) ?_
  refine lw_pu (wan_none rfl) (pu_pick_t rfl (by (simp only [ev, List.getD_cons_succ, List.getD_cons_zero]; exact rfl))) (by (simp only [setD, List.set_cons_succ, List.set_cons_zero]; exact rfl)) ?_
  refine lw_pu (wan_none rfl) (pu_move (by (simp only [ev, List.getD_cons_succ, List.getD_cons_zero]; exact rfl))) (by (simp only [setD, List.set_cons_succ, List.set_cons_zero]; exact rfl)) ?_
  refine lw_skip_b rfl rfl rfl (by (simp only [setD, List.set_cons_succ, List.set_cons_zero]; exact rfl)) ?_
  refine lw_skip_b rfl rfl rfl (by (simp only [setD, List.set_cons_succ, List.set_cons_zero]; exact rfl)) ?_
  refine lw_pu (wan_none rfl) (pu_pick_t rfl (by (simp only [ev, List.getD_cons_succ, List.getD_cons_zero]; exact rfl))) (by (simp only [setD, List.set_cons_succ, List.set_cons_zero]; exact rfl)) ?_
  refine lw_pu (wan_none rfl) (pu_assign (by (simp only [ev, List.getD_cons_succ, List.getD_cons_zero]; exact rfl))) (by (simp only [setD, List.set_cons_succ, List.set_cons_zero]; exact rfl)) ?_
  refine lw_nil ?_; refine hK _ _ ?_; clear hK K
  refine tw_ret1 Try.func29 Try.results29 (by (simp only [ev, List.getD_cons_succ, List.getD_cons_zero]; exact rfl)) ?_
  rotate_left 1
  refine lw_pu (wan_some rfl rfl rfl) (pu_move (by (simp only [ev, List.getD_cons_succ, List.getD_cons_zero]; exact rfl))) (by (simp only [setD, List.set_cons_succ, List.set_cons_zero]; exact rfl)) ?_
  refine lw_pu (wan_some rfl rfl rfl) (pu_eql rfl rfl) (by (simp only [setD, List.set_cons_succ, List.set_cons_zero]; exact rfl)) ?_
  refine lw_pu (wan_none rfl) (pu_pick_f rfl (by (simp only [ev, List.getD_cons_succ, List.getD_cons_zero]; exact rfl))) (by (simp only [setD, List.set_cons_succ, List.set_cons_zero]; exact rfl)) ?_
  refine lw_pu (wan_none rfl) (pu_move (by (simp only [ev, List.getD_cons_succ, List.getD_cons_zero]; exact rfl))) (by (simp only [setD, List.set_cons_succ, List.set_cons_zero]; exact rfl)) ?_
  refine lw_split_d rfl rfl rfl (by (simp only [List.set_cons_succ, List.set_cons_zero]; exact rfl)) (by (simp only [List.set_cons_succ, List.set_cons_zero]; exact rfl)) (fun hq => ?_) (fun hq => ?_)
  refine lw_skip_b rfl rfl rfl (by (simp only [setD, List.set_cons_succ, List.set_cons_zero]; exact rfl)) ?_
  refine lw_skip_b rfl rfl rfl (by (simp only [setD, List.set_cons_succ, List.set_cons_zero]; exact rfl)) ?_
  refine lw_pu (wan_none rfl) (pu_pick_t rfl (by (simp only [ev, List.getD_cons_succ, List.getD_cons_zero]; exact rfl))) (by (simp only [setD, List.set_cons_succ, List.set_cons_zero]; exact rfl)) ?_
  refine lw_pu (wan_none rfl) (pu_assign (by (simp only [ev, List.getD_cons_succ, List.getD_cons_zero]; exact rfl))) (by (simp only [setD, List.set_cons_succ, List.set_cons_zero]; exact rfl)) ?_
  refine lw_nil ?_; refine hK _ _ ?_; clear hK K
  refine tw_ret1 Try.func29 Try.results29 (by (simp only [ev, List.getD_cons_succ, List.getD_cons_zero]; exact rfl)) ?_
  rotate_left 1
  refine lw_pu (wan_some rfl rfl rfl) (pu_move (by (simp only [ev, List.getD_cons_succ, List.getD_cons_zero]; exact rfl))) (by (simp only [setD, List.set_cons_succ, List.set_cons_zero]; exact rfl)) ?_
  refine lw_pu (wan_some rfl rfl rfl) (pu_eql rfl rfl) (by (simp only [setD, List.set_cons_succ, List.set_cons_zero]; exact rfl)) ?_
  refine lw_pu (wan_none rfl) (pu_pick_f rfl (by (simp only [ev, List.getD_cons_succ, List.getD_cons_zero]; exact rfl))) (by (simp only [setD, List.set_cons_succ, List.set_cons_zero]; exact rfl)) ?_
  refine lw_pu (wan_none rfl) (pu_assign (by (simp only [ev, List.getD_cons_succ, List.getD_cons_zero]; exact rfl))) (by (simp only [setD, List.set_cons_succ, List.set_cons_zero]; exact rfl)) ?_
  refine lw_nil ?_; refine hK _ _ ?_; clear hK K
  refine tw_ret1 Try.func29 Try.results29 (by (simp only [ev, List.getD_cons_succ, List.getD_cons_zero]; exact rfl)) ?_
  rotate_left 1
  -- left: ret | ret | ret | ret | ret
  all_goals refine ⟨?_, Ext.refl _⟩
  all_goals simp only [Sp, Value.bool.injEq]
  all_goals first | exact (decide_eq_true (by omega)).symm | exact (decide_eq_false (by omega)).symm | exact decide_eq_decide.2 (by omega)

set_option linter.unusedSimpArgs false in
set_option maxRecDepth 10000 in
theorem specReadSpace_ret (l : List UInt8) (hl : l.length ≤ 1000) (h0 : Array Obj) : Ret Try.prog 13 [bs l] h0 fun v h => (∃ r : Nat, v = .int .i64 (r : Int) ∧ Skip l 0 r) ∧ Ext h0 h := by
  have hm := Mem.refl h0
  refine ret_of_tw (ρ := ((bs l) :: undef :: undef :: undef :: undef :: undef :: undef :: undef :: undef :: undef :: undef :: undef :: undef :: undef :: undef :: undef :: undef :: undef :: undef :: undef :: undef :: undef :: undef :: undef :: undef :: undef :: undef :: undef :: undef :: undef :: undef :: undef :: undef :: undef :: undef :: undef :: undef :: undef :: undef :: undef :: undef :: undef :: undef :: undef :: undef :: undef :: undef :: undef :: undef :: undef :: undef :: undef :: undef :: undef :: undef :: undef :: undef :: undef :: undef :: undef :: undef :: undef :: undef :: undef :: undef :: undef :: [])) Try.func13 rfl rfl (fun E => ?_)
  refine tw_seq ?_
  refine tw_region (fun K hK => ?_)
  refine lw_pu (wan_none rfl) (pu_assign (by (simp only [ev, List.getD_cons_succ, List.getD_cons_zero]; exact rfl))) (by (simp only [setD, List.set_cons_succ, List.set_cons_zero]; exact rfl)) ?_
  refine lw_nil ?_; refine hK _ _ ?_; clear hK K
  refine tw_seq ?_
  refine tw_region (fun K hK => ?_)
  refine lw_pu (wan_none rfl) (pu_assign (by (simp only [ev, List.getD_cons_succ, List.getD_cons_zero]; exact rfl))) (by (simp only [setD, List.set_cons_succ, List.set_cons_zero]; exact rfl)) ?_
  refine lw_nil ?_; refine hK _ _ ?_; clear hK K
  refine tw_seq ?_
  refine tw_block ?_
  rotate_left 1
  -- left: loop
  refine tw_loopJ (X := Nat) (fun x => l.length - x) (fun x J => (bs l :: J 1 :: J 2 :: .int .i64 (x : Int) :: J 4 :: J 5 :: J 6 :: J 7 :: J 8 :: J 9 :: J 10 :: J 11 :: J 12 :: J 13 :: J 14 :: J 15 :: J 16 :: J 17 :: J 18 :: J 19 :: J 20 :: J 21 :: J 22 :: J 23 :: J 24 :: J 25 :: J 26 :: J 27 :: J 28 :: J 29 :: J 30 :: J 31 :: J 32 :: J 33 :: J 34 :: J 35 :: J 36 :: J 37 :: J 38 :: J 39 :: J 40 :: J 41 :: J 42 :: J 43 :: J 44 :: J 45 :: J 46 :: J 47 :: J 48 :: J 49 :: J 50 :: J 51 :: J 52 :: J 53 :: J 54 :: J 55 :: J 56 :: J 57 :: J 58 :: J 59 :: J 60 :: J 61 :: J 62 :: J 63 :: J 64 :: J 65 :: [])) (fun x h => Mem h0 h [] [] ∧ x ≤ l.length ∧ ∀ r, Skip l x r → Skip l 0 r) 0 rfl ⟨hm, by omega, fun r h => h⟩ ?_
  clear hm
  rintro x J h ⟨hm, hx, hsk⟩ IH
  refine tw_seq ?_
  refine tw_seq ?_
  refine tw_region (fun K hK => ?_)
  refine lw_pu (wan_none rfl) (pu_move (by (simp only [ev, List.getD_cons_succ, List.getD_cons_zero]; exact rfl))) (by (simp only [setD, List.set_cons_succ, List.set_cons_zero]; exact rfl)) ?_
  refine lw_pu (wan_none rfl) (pu_move (by (simp only [ev, List.getD_cons_succ, List.getD_cons_zero]; exact rfl))) (by (simp only [setD, List.set_cons_succ, List.set_cons_zero]; exact rfl)) ?_
  refine lw_pu (wan_none rfl) (pu_lens rfl rfl) (by (simp only [setD, List.set_cons_succ, List.set_cons_zero]; exact rfl)) ?_
  refine lw_pu (wan_none rfl) (pu_lss rfl rfl) (by (simp only [setD, List.set_cons_succ, List.set_cons_zero]; exact rfl)) ?_
  refine lw_nil ?_; refine hK _ _ ?_; clear hK K
  refine tw_cond_ds rfl (by (simp only [List.set_cons_succ, List.set_cons_zero]; exact rfl)) (by (simp only [List.set_cons_succ, List.set_cons_zero]; exact rfl)) (fun hq => ?_) (fun hq => ?_)
  refine tw_skip ?_
  refine tw_block ?_
  refine tw_seq ?_
  refine tw_seq ?_
  refine tw_region (fun K hK => ?_)
  refine lw_pu (wan_none rfl) (pu_move (by (simp only [ev, List.getD_cons_succ, List.getD_cons_zero]; exact rfl))) (by (simp only [setD, List.set_cons_succ, List.set_cons_zero]; exact rfl)) ?_
  refine lw_pu (wan_none rfl) (pu_move (by (simp only [ev, List.getD_cons_succ, List.getD_cons_zero]; exact rfl))) (by (simp only [setD, List.set_cons_succ, List.set_cons_zero]; exact rfl)) ?_
  refine lw_pu (wan_none rfl) (pu_index rfl rfl (by omega)) (by (simp only [setD, List.set_cons_succ, List.set_cons_zero]; exact rfl)) ?_
  refine lw_calx (wan_none rfl) (isSpace_ret _ _) hm (by (simp only [setD, List.set_cons_succ, List.set_cons_zero]; exact rfl)) ?_; clear hm; intro h hm
  refine lw_nil ?_; refine hK _ _ ?_; clear hK K
  refine tw_cond_ds rfl (by (simp only [List.set_cons_succ, List.set_cons_zero]; exact rfl)) (by (simp only [List.set_cons_succ, List.set_cons_zero]; exact rfl)) (fun hq => ?_) (fun hq => ?_)
  refine tw_seq ?_
  refine tw_region (fun K hK => ?_)
  refine lw_pu (wan_none rfl) (pu_move (by (simp only [ev, List.getD_cons_succ, List.getD_cons_zero]; exact rfl))) (by (simp only [setD, List.set_cons_succ, List.set_cons_zero]; exact rfl)) ?_
  first | refine lw_pu (wan_none rfl) (pu_addn (n := 1) rfl rfl (by omega)) (by (simp only [setD, List.set_cons_succ, List.set_cons_zero]; exact rfl)) ?_ | refine lw_pu (wan_none rfl) (pu_addi rfl rfl (by omega) (by omega)) (by (simp only [setD, List.set_cons_succ, List.set_cons_zero]; exact rfl)) ?_ | refine lw_pu (wan_none rfl) (pu_add rfl rfl) (by (simp only [setD, List.set_cons_succ, List.set_cons_zero]; exact rfl)) ?_
  refine lw_pu (wan_none rfl) (pu_assign (by (simp only [ev, List.getD_cons_succ, List.getD_cons_zero]; exact rfl))) (by (simp only [setD, List.set_cons_succ, List.set_cons_zero]; exact rfl)) ?_
  refine lw_nil ?_; refine hK _ _ ?_; clear hK K
  refine tw_exit rfl ?_
  rotate_left 1
  refine tw_skip ?_
  refine tw_seq ?_
  refine tw_region (fun K hK => ?_)
  refine lw_pu (wan_none rfl) (pu_move (by (simp only [ev, List.getD_cons_succ, List.getD_cons_zero]; exact rfl))) (by (simp only [setD, List.set_cons_succ, List.set_cons_zero]; exact rfl)) ?_
  first | refine lw_pu (wan_none rfl) (pu_addn (n := 2) rfl rfl (by omega)) (by (simp only [setD, List.set_cons_succ, List.set_cons_zero]; exact rfl)) ?_ | refine lw_pu (wan_none rfl) (pu_addi rfl rfl (by omega) (by omega)) (by (simp only [setD, List.set_cons_succ, List.set_cons_zero]; exact rfl)) ?_ | refine lw_pu (wan_none rfl) (pu_add rfl rfl) (by (simp only [setD, List.set_cons_succ, List.set_cons_zero]; exact rfl)) ?_
  refine lw_pu (wan_none rfl) (pu_assign (by (simp only [ev, List.getD_cons_succ, List.getD_cons_zero]; exact rfl))) (by (simp only [setD, List.set_cons_succ, List.set_cons_zero]; exact rfl)) ?_
  refine lw_nil ?_; refine hK _ _ ?_; clear hK K
  refine tw_seq ?_
  refine tw_block ?_
  rotate_left 1
  refine tw_exit rfl ?_
  refine tw_seq ?_
  refine tw_region (fun K hK => ?_)
  refine lw_pu (wan_none rfl) (pu_move (by (simp only [ev, List.getD_cons_succ, List.getD_cons_zero]; exact rfl))) (by (simp only [setD, List.set_cons_succ, List.set_cons_zero]; exact rfl)) ?_
  refine lw_pu (wan_none rfl) (pu_assign (by (simp only [ev, List.getD_cons_succ, List.getD_cons_zero]; exact rfl))) (by (simp only [setD, List.set_cons_succ, List.set_cons_zero]; exact rfl)) ?_
  refine lw_nil ?_; refine hK _ _ ?_; clear hK K
  refine tw_ret1 Try.func13 Try.results13 (by (simp only [ev, List.getD_cons_succ, List.getD_cons_zero]; exact rfl)) ?_
  rotate_left 1
  -- left: round | loop | ret
  · exact IH (x + 1) _ _ (by omega) rfl ⟨hm, by omega, fun r h => hsk r (.space (by omega) hq h)⟩
  · refine tw_loopJ (X := Nat) (fun e => l.length - e) (fun e J => (bs l :: J 1 :: J 2 :: .int .i64 (x : Int) :: .int .i64 (e : Int) :: J 5 :: J 6 :: J 7 :: J 8 :: J 9 :: J 10 :: J 11 :: J 12 :: J 13 :: J 14 :: J 15 :: J 16 :: J 17 :: J 18 :: J 19 :: J 20 :: J 21 :: J 22 :: J 23 :: J 24 :: J 25 :: J 26 :: J 27 :: J 28 :: J 29 :: J 30 :: J 31 :: J 32 :: J 33 :: J 34 :: J 35 :: J 36 :: J 37 :: J 38 :: J 39 :: J 40 :: J 41 :: J 42 :: J 43 :: J 44 :: J 45 :: J 46 :: J 47 :: J 48 :: J 49 :: J 50 :: J 51 :: J 52 :: J 53 :: J 54 :: J 55 :: J 56 :: J 57 :: J 58 :: J 59 :: J 60 :: J 61 :: J 62 :: J 63 :: J 64 :: J 65 :: [])) (fun e h => Mem h0 h [] [] ∧ x + 2 ≤ e ∧ e ≤ l.length + 1 ∧ ∀ j, x + 2 ≤ j → j < e → ¬ Close l j) (x + 2) rfl ⟨hm, by omega, by omega, fun j h1 h2 => by omega⟩ ?_
    clear hm
    rintro e J h ⟨hm, he, hel, hcl⟩ IH2
    refine tw_seq ?_
    refine tw_seq ?_
    refine tw_region (fun K hK => ?_)
    refine lw_pu (wan_none rfl) (pu_move (by (simp only [ev, List.getD_cons_succ, List.getD_cons_zero]; exact rfl))) (by (simp only [setD, List.set_cons_succ, List.set_cons_zero]; exact rfl)) ?_
    first | refine lw_pu (wan_none rfl) (pu_addn (n := 1) rfl rfl (by omega)) (by (simp only [setD, List.set_cons_succ, List.set_cons_zero]; exact rfl)) ?_ | refine lw_pu (wan_none rfl) (pu_addi rfl rfl (by omega) (by omega)) (by (simp only [setD, List.set_cons_succ, List.set_cons_zero]; exact rfl)) ?_ | refine lw_pu (wan_none rfl) (pu_add rfl rfl) (by (simp only [setD, List.set_cons_succ, List.set_cons_zero]; exact rfl)) ?_
    refine lw_pu (wan_none rfl) (pu_move (by (simp only [ev, List.getD_cons_succ, List.getD_cons_zero]; exact rfl))) (by (simp only [setD, List.set_cons_succ, List.set_cons_zero]; exact rfl)) ?_
    refine lw_pu (wan_none rfl) (pu_lens rfl rfl) (by (simp only [setD, List.set_cons_succ, List.set_cons_zero]; exact rfl)) ?_
    refine lw_pu (wan_none rfl) (pu_lss rfl rfl) (by (simp only [setD, List.set_cons_succ, List.set_cons_zero]; exact rfl)) ?_
    refine lw_pu (wan_none rfl) (pu_move (by (simp only [ev, List.getD_cons_succ, List.getD_cons_zero]; exact rfl))) (by (simp only [setD, List.set_cons_succ, List.set_cons_zero]; exact rfl)) ?_
    refine lw_split_d rfl rfl rfl (by (simp only [List.set_cons_succ, List.set_cons_zero]; exact rfl)) (by (simp only [List.set_cons_succ, List.set_cons_zero]; exact rfl)) (fun hq => ?_) (fun hq => ?_)
    refine lw_pu (wan_some rfl rfl rfl) (pu_move (by (simp only [ev, List.getD_cons_succ, List.getD_cons_zero]; exact rfl))) (by (simp only [setD, List.set_cons_succ, List.set_cons_zero]; exact rfl)) ?_
    refine lw_pu (wan_some rfl rfl rfl) (pu_move (by (simp only [ev, List.getD_cons_succ, List.getD_cons_zero]; exact rfl))) (by (simp only [setD, List.set_cons_succ, List.set_cons_zero]; exact rfl)) ?_
    refine lw_pu (wan_some rfl rfl rfl) (pu_index rfl rfl (by omega)) (by (simp only [setD, List.set_cons_succ, List.set_cons_zero]; exact rfl)) ?_
    refine lw_pu (wan_some rfl rfl rfl) (pu_neq rfl rfl) (by (simp only [setD, List.set_cons_succ, List.set_cons_zero]; exact rfl)) ?_
    refine lw_pu (wan_some rfl rfl rfl) (pu_move (by (simp only [ev, List.getD_cons_succ, List.getD_cons_zero]; exact rfl))) (by (simp only [setD, List.set_cons_succ, List.set_cons_zero]; exact rfl)) ?_
    refine lw_split_d rfl rfl rfl (by (simp only [List.set_cons_succ, List.set_cons_zero]; exact rfl)) (by (simp only [List.set_cons_succ, List.set_cons_zero]; exact rfl)) (fun hq => ?_) (fun hq => ?_)
    refine lw_skip_b rfl rfl rfl (by (simp only [setD, List.set_cons_succ, List.set_cons_zero]; exact rfl)) ?_
    refine lw_skip_b rfl rfl rfl (by (simp only [setD, List.set_cons_succ, List.set_cons_zero]; exact rfl)) ?_
    refine lw_skip_b rfl rfl rfl (by (simp only [setD, List.set_cons_succ, List.set_cons_zero]; exact rfl)) ?_
    refine lw_skip_b rfl rfl rfl (by (simp only [setD, List.set_cons_succ, List.set_cons_zero]; exact rfl)) ?_
    refine lw_skip_b rfl rfl rfl (by (simp only [setD, List.set_cons_succ, List.set_cons_zero]; exact rfl)) ?_
    refine lw_pu (wan_some rfl rfl rfl) (pu_pick_t rfl (by (simp only [ev, List.getD_cons_succ, List.getD_cons_zero]; exact rfl))) (by (simp only [setD, List.set_cons_succ, List.set_cons_zero]; exact rfl)) ?_
    refine lw_pu (wan_none rfl) (pu_pick_t rfl (by (simp only [ev, List.getD_cons_succ, List.getD_cons_zero]; exact rfl))) (by (simp only [setD, List.set_cons_succ, List.set_cons_zero]; exact rfl)) ?_
    refine lw_nil ?_; refine hK _ _ ?_; clear hK K
    refine tw_cond_t rfl ?_
    refine tw_skip ?_
    refine tw_block ?_
    refine tw_region (fun K hK => ?_)
    refine lw_pu (wan_none rfl) (pu_move (by (simp only [ev, List.getD_cons_succ, List.getD_cons_zero]; exact rfl))) (by (simp only [setD, List.set_cons_succ, List.set_cons_zero]; exact rfl)) ?_
    first | refine lw_pu (wan_none rfl) (pu_addn (n := 1) rfl rfl (by omega)) (by (simp only [setD, List.set_cons_succ, List.set_cons_zero]; exact rfl)) ?_ | refine lw_pu (wan_none rfl) (pu_addi rfl rfl (by omega) (by omega)) (by (simp only [setD, List.set_cons_succ, List.set_cons_zero]; exact rfl)) ?_ | refine lw_pu (wan_none rfl) (pu_add rfl rfl) (by (simp only [setD, List.set_cons_succ, List.set_cons_zero]; exact rfl)) ?_
    refine lw_pu (wan_none rfl) (pu_assign (by (simp only [ev, List.getD_cons_succ, List.getD_cons_zero]; exact rfl))) (by (simp only [setD, List.set_cons_succ, List.set_cons_zero]; exact rfl)) ?_
    refine lw_nil ?_; refine hK _ _ ?_; clear hK K
    refine tw_inBlock ?_
    rotate_left 1
    refine lw_pu (wan_some rfl rfl rfl) (pu_move (by (simp only [ev, List.getD_cons_succ, List.getD_cons_zero]; exact rfl))) (by (simp only [setD, List.set_cons_succ, List.set_cons_zero]; exact rfl)) ?_
    refine lw_pu (wan_some rfl rfl rfl) (pu_move (by (simp only [ev, List.getD_cons_succ, List.getD_cons_zero]; exact rfl))) (by (simp only [setD, List.set_cons_succ, List.set_cons_zero]; exact rfl)) ?_
    first | refine lw_pu (wan_some rfl rfl rfl) (pu_addn (n := 1) rfl rfl (by omega)) (by (simp only [setD, List.set_cons_succ, List.set_cons_zero]; exact rfl)) ?_ | refine lw_pu (wan_some rfl rfl rfl) (pu_addi rfl rfl (by omega) (by omega)) (by (simp only [setD, List.set_cons_succ, List.set_cons_zero]; exact rfl)) ?_ | refine lw_pu (wan_some rfl rfl rfl) (pu_add rfl rfl) (by (simp only [setD, List.set_cons_succ, List.set_cons_zero]; exact rfl)) ?_
    refine lw_pu (wan_some rfl rfl rfl) (pu_index rfl rfl (by omega)) (by (simp only [setD, List.set_cons_succ, List.set_cons_zero]; exact rfl)) ?_
    refine lw_pu (wan_some rfl rfl rfl) (pu_neq rfl rfl) (by (simp only [setD, List.set_cons_succ, List.set_cons_zero]; exact rfl)) ?_
    refine lw_pu (wan_some rfl rfl rfl) (pu_pick_f rfl (by (simp only [ev, List.getD_cons_succ, List.getD_cons_zero]; exact rfl))) (by (simp only [setD, List.set_cons_succ, List.set_cons_zero]; exact rfl)) ?_
    refine lw_pu (wan_none rfl) (pu_pick_t rfl (by (simp only [ev, List.getD_cons_succ, List.getD_cons_zero]; exact rfl))) (by (simp only [setD, List.set_cons_succ, List.set_cons_zero]; exact rfl)) ?_
    refine lw_nil ?_; refine hK _ _ ?_; clear hK K
    refine tw_cond_ds rfl (by (simp only [List.set_cons_succ, List.set_cons_zero]; exact rfl)) (by (simp only [List.set_cons_succ, List.set_cons_zero]; exact rfl)) (fun hq => ?_) (fun hq => ?_)
    refine tw_skip ?_
    refine tw_block ?_
    refine tw_region (fun K hK => ?_)
    refine lw_pu (wan_none rfl) (pu_move (by (simp only [ev, List.getD_cons_succ, List.getD_cons_zero]; exact rfl))) (by (simp only [setD, List.set_cons_succ, List.set_cons_zero]; exact rfl)) ?_
    first | refine lw_pu (wan_none rfl) (pu_addn (n := 1) rfl rfl (by omega)) (by (simp only [setD, List.set_cons_succ, List.set_cons_zero]; exact rfl)) ?_ | refine lw_pu (wan_none rfl) (pu_addi rfl rfl (by omega) (by omega)) (by (simp only [setD, List.set_cons_succ, List.set_cons_zero]; exact rfl)) ?_ | refine lw_pu (wan_none rfl) (pu_add rfl rfl) (by (simp only [setD, List.set_cons_succ, List.set_cons_zero]; exact rfl)) ?_
    refine lw_pu (wan_none rfl) (pu_assign (by (simp only [ev, List.getD_cons_succ, List.getD_cons_zero]; exact rfl))) (by (simp only [setD, List.set_cons_succ, List.set_cons_zero]; exact rfl)) ?_
    refine lw_nil ?_; refine hK _ _ ?_; clear hK K
    refine tw_inBlock ?_
    rotate_left 1
    refine tw_exit rfl ?_
    refine tw_seq ?_
    refine tw_seq ?_
    refine tw_region (fun K hK => ?_)
    refine lw_pu (wan_none rfl) (pu_move (by (simp only [ev, List.getD_cons_succ, List.getD_cons_zero]; exact rfl))) (by (simp only [setD, List.set_cons_succ, List.set_cons_zero]; exact rfl)) ?_
    refine lw_pu (wan_none rfl) (pu_move (by (simp only [ev, List.getD_cons_succ, List.getD_cons_zero]; exact rfl))) (by (simp only [setD, List.set_cons_succ, List.set_cons_zero]; exact rfl)) ?_
    refine lw_pu (wan_none rfl) (pu_index rfl rfl (by omega)) (by (simp only [setD, List.set_cons_succ, List.set_cons_zero]; exact rfl)) ?_
    refine lw_pu (wan_none rfl) (pu_neq rfl rfl) (by (simp only [setD, List.set_cons_succ, List.set_cons_zero]; exact rfl)) ?_
    refine lw_pu (wan_none rfl) (pu_move (by (simp only [ev, List.getD_cons_succ, List.getD_cons_zero]; exact rfl))) (by (simp only [setD, List.set_cons_succ, List.set_cons_zero]; exact rfl)) ?_
    refine lw_split_d rfl rfl rfl (by (simp only [List.set_cons_succ, List.set_cons_zero]; exact rfl)) (by (simp only [List.set_cons_succ, List.set_cons_zero]; exact rfl)) (fun hq => ?_) (fun hq => ?_)
    refine lw_skip_b rfl rfl rfl (by (simp only [setD, List.set_cons_succ, List.set_cons_zero]; exact rfl)) ?_
    refine lw_skip_b rfl rfl rfl (by (simp only [setD, List.set_cons_succ, List.set_cons_zero]; exact rfl)) ?_
    refine lw_skip_b rfl rfl rfl (by (simp only [setD, List.set_cons_succ, List.set_cons_zero]; exact rfl)) ?_
    refine lw_skip_b rfl rfl rfl (by (simp only [setD, List.set_cons_succ, List.set_cons_zero]; exact rfl)) ?_
    refine lw_skip_b rfl rfl rfl (by (simp only [setD, List.set_cons_succ, List.set_cons_zero]; exact rfl)) ?_
    refine lw_pu (wan_none rfl) (pu_pick_t rfl (by (simp only [ev, List.getD_cons_succ, List.getD_cons_zero]; exact rfl))) (by (simp only [setD, List.set_cons_succ, List.set_cons_zero]; exact rfl)) ?_
    refine lw_pu (wan_none rfl) (pu_move (by (simp only [ev, List.getD_cons_succ, List.getD_cons_zero]; exact rfl))) (by (simp only [setD, List.set_cons_succ, List.set_cons_zero]; exact rfl)) ?_
    refine lw_skip_b rfl rfl rfl (by (simp only [setD, List.set_cons_succ, List.set_cons_zero]; exact rfl)) ?_
    refine lw_skip_b rfl rfl rfl (by (simp only [setD, List.set_cons_succ, List.set_cons_zero]; exact rfl)) ?_
    refine lw_skip_b rfl rfl rfl (by (simp only [setD, List.set_cons_succ, List.set_cons_zero]; exact rfl)) ?_
    refine lw_skip_b rfl rfl rfl (by (simp only [setD, List.set_cons_succ, List.set_cons_zero]; exact rfl)) ?_
    refine lw_skip_b rfl rfl rfl (by (simp only [setD, List.set_cons_succ, List.set_cons_zero]; exact rfl)) ?_
    refine lw_pu (wan_none rfl) (pu_pick_t rfl (by (simp only [ev, List.getD_cons_succ, List.getD_cons_zero]; exact rfl))) (by (simp only [setD, List.set_cons_succ, List.set_cons_zero]; exact rfl)) ?_
    refine lw_pu (wan_none rfl) (pu_move (by (simp only [ev, List.getD_cons_succ, List.getD_cons_zero]; exact rfl))) (by (simp only [setD, List.set_cons_succ, List.set_cons_zero]; exact rfl)) ?_
    refine lw_skip_b rfl rfl rfl (by (simp only [setD, List.set_cons_succ, List.set_cons_zero]; exact rfl)) ?_
    refine lw_skip_b rfl rfl rfl (by (simp only [setD, List.set_cons_succ, List.set_cons_zero]; exact rfl)) ?_
    refine lw_skip_b rfl rfl rfl (by (simp only [setD, List.set_cons_succ, List.set_cons_zero]; exact rfl)) ?_
    refine lw_skip_b rfl rfl rfl (by (simp only [setD, List.set_cons_succ, List.set_cons_zero]; exact rfl)) ?_
    refine lw_skip_b rfl rfl rfl (by (simp only [setD, List.set_cons_succ, List.set_cons_zero]; exact rfl)) ?_
    refine lw_pu (wan_none rfl) (pu_pick_t rfl (by (simp only [ev, List.getD_cons_succ, List.getD_cons_zero]; exact rfl))) (by (simp only [setD, List.set_cons_succ, List.set_cons_zero]; exact rfl)) ?_
    refine lw_nil ?_; refine hK _ _ ?_; clear hK K
    refine tw_cond_t rfl ?_
    refine tw_seq ?_
    refine tw_region (fun K hK => ?_)
    refine lw_pu (wan_none rfl) (pu_move (by (simp only [ev, List.getD_cons_succ, List.getD_cons_zero]; exact rfl))) (by (simp only [setD, List.set_cons_succ, List.set_cons_zero]; exact rfl)) ?_
    refine lw_pu (wan_none rfl) (pu_assign (by (simp only [ev, List.getD_cons_succ, List.getD_cons_zero]; exact rfl))) (by (simp only [setD, List.set_cons_succ, List.set_cons_zero]; exact rfl)) ?_
    refine lw_nil ?_; refine hK _ _ ?_; clear hK K
    refine tw_ret1 Try.func13 Try.results13 (by (simp only [ev, List.getD_cons_succ, List.getD_cons_zero]; exact rfl)) ?_
    rotate_left 1
    refine lw_pu (wan_some rfl rfl rfl) (pu_move (by (simp only [ev, List.getD_cons_succ, List.getD_cons_zero]; exact rfl))) (by (simp only [setD, List.set_cons_succ, List.set_cons_zero]; exact rfl)) ?_
    first | refine lw_pu (wan_some rfl rfl rfl) (pu_addn (n := 1) rfl rfl (by omega)) (by (simp only [setD, List.set_cons_succ, List.set_cons_zero]; exact rfl)) ?_ | refine lw_pu (wan_some rfl rfl rfl) (pu_addi rfl rfl (by omega) (by omega)) (by (simp only [setD, List.set_cons_succ, List.set_cons_zero]; exact rfl)) ?_ | refine lw_pu (wan_some rfl rfl rfl) (pu_add rfl rfl) (by (simp only [setD, List.set_cons_succ, List.set_cons_zero]; exact rfl)) ?_
    refine lw_pu (wan_some rfl rfl rfl) (pu_move (by (simp only [ev, List.getD_cons_succ, List.getD_cons_zero]; exact rfl))) (by (simp only [setD, List.set_cons_succ, List.set_cons_zero]; exact rfl)) ?_
    refine lw_pu (wan_some rfl rfl rfl) (pu_lens rfl rfl) (by (simp only [setD, List.set_cons_succ, List.set_cons_zero]; exact rfl)) ?_
    refine lw_pu (wan_some rfl rfl rfl) (pu_eql rfl rfl) (by (simp only [setD, List.set_cons_succ, List.set_cons_zero]; exact rfl)) ?_
    refine lw_pu (wan_none rfl) (pu_pick_f rfl (by (simp only [ev, List.getD_cons_succ, List.getD_cons_zero]; exact rfl))) (by (simp only [setD, List.set_cons_succ, List.set_cons_zero]; exact rfl)) ?_
    refine lw_pu (wan_none rfl) (pu_move (by (simp only [ev, List.getD_cons_succ, List.getD_cons_zero]; exact rfl))) (by (simp only [setD, List.set_cons_succ, List.set_cons_zero]; exact rfl)) ?_
    refine lw_split_d rfl rfl rfl (by (simp only [List.set_cons_succ, List.set_cons_zero]; exact rfl)) (by (simp only [List.set_cons_succ, List.set_cons_zero]; exact rfl)) (fun hq => ?_) (fun hq => ?_)
    refine lw_skip_b rfl rfl rfl (by (simp only [setD, List.set_cons_succ, List.set_cons_zero]; exact rfl)) ?_
    refine lw_skip_b rfl rfl rfl (by (simp only [setD, List.set_cons_succ, List.set_cons_zero]; exact rfl)) ?_
    refine lw_skip_b rfl rfl rfl (by (simp only [setD, List.set_cons_succ, List.set_cons_zero]; exact rfl)) ?_
    refine lw_skip_b rfl rfl rfl (by (simp only [setD, List.set_cons_succ, List.set_cons_zero]; exact rfl)) ?_
    refine lw_skip_b rfl rfl rfl (by (simp only [setD, List.set_cons_succ, List.set_cons_zero]; exact rfl)) ?_
    refine lw_pu (wan_none rfl) (pu_pick_t rfl (by (simp only [ev, List.getD_cons_succ, List.getD_cons_zero]; exact rfl))) (by (simp only [setD, List.set_cons_succ, List.set_cons_zero]; exact rfl)) ?_
    refine lw_pu (wan_none rfl) (pu_move (by (simp only [ev, List.getD_cons_succ, List.getD_cons_zero]; exact rfl))) (by (simp only [setD, List.set_cons_succ, List.set_cons_zero]; exact rfl)) ?_
    refine lw_skip_b rfl rfl rfl (by (simp only [setD, List.set_cons_succ, List.set_cons_zero]; exact rfl)) ?_
    refine lw_skip_b rfl rfl rfl (by (simp only [setD, List.set_cons_succ, List.set_cons_zero]; exact rfl)) ?_
    refine lw_skip_b rfl rfl rfl (by (simp only [setD, List.set_cons_succ, List.set_cons_zero]; exact rfl)) ?_
    refine lw_skip_b rfl rfl rfl (by (simp only [setD, List.set_cons_succ, List.set_cons_zero]; exact rfl)) ?_
    refine lw_skip_b rfl rfl rfl (by (simp only [setD, List.set_cons_succ, List.set_cons_zero]; exact rfl)) ?_
    refine lw_pu (wan_none rfl) (pu_pick_t rfl (by (simp only [ev, List.getD_cons_succ, List.getD_cons_zero]; exact rfl))) (by (simp only [setD, List.set_cons_succ, List.set_cons_zero]; exact rfl)) ?_
    refine lw_nil ?_; refine hK _ _ ?_; clear hK K
    refine tw_cond_t rfl ?_
    refine tw_seq ?_
    refine tw_region (fun K hK => ?_)
    refine lw_pu (wan_none rfl) (pu_move (by (simp only [ev, List.getD_cons_succ, List.getD_cons_zero]; exact rfl))) (by (simp only [setD, List.set_cons_succ, List.set_cons_zero]; exact rfl)) ?_
    refine lw_pu (wan_none rfl) (pu_assign (by (simp only [ev, List.getD_cons_succ, List.getD_cons_zero]; exact rfl))) (by (simp only [setD, List.set_cons_succ, List.set_cons_zero]; exact rfl)) ?_
    refine lw_nil ?_; refine hK _ _ ?_; clear hK K
    refine tw_ret1 Try.func13 Try.results13 (by (simp only [ev, List.getD_cons_succ, List.getD_cons_zero]; exact rfl)) ?_
    rotate_left 1
    refine lw_pu (wan_some rfl rfl rfl) (pu_move (by (simp only [ev, List.getD_cons_succ, List.getD_cons_zero]; exact rfl))) (by (simp only [setD, List.set_cons_succ, List.set_cons_zero]; exact rfl)) ?_
    refine lw_pu (wan_some rfl rfl rfl) (pu_move (by (simp only [ev, List.getD_cons_succ, List.getD_cons_zero]; exact rfl))) (by (simp only [setD, List.set_cons_succ, List.set_cons_zero]; exact rfl)) ?_
    first | refine lw_pu (wan_some rfl rfl rfl) (pu_addn (n := 1) rfl rfl (by omega)) (by (simp only [setD, List.set_cons_succ, List.set_cons_zero]; exact rfl)) ?_ | refine lw_pu (wan_some rfl rfl rfl) (pu_addi rfl rfl (by omega) (by omega)) (by (simp only [setD, List.set_cons_succ, List.set_cons_zero]; exact rfl)) ?_ | refine lw_pu (wan_some rfl rfl rfl) (pu_add rfl rfl) (by (simp only [setD, List.set_cons_succ, List.set_cons_zero]; exact rfl)) ?_
    refine lw_pu (wan_some rfl rfl rfl) (pu_index rfl rfl (by omega)) (by (simp only [setD, List.set_cons_succ, List.set_cons_zero]; exact rfl)) ?_
    refine lw_pu (wan_some rfl rfl rfl) (pu_neq rfl rfl) (by (simp only [setD, List.set_cons_succ, List.set_cons_zero]; exact rfl)) ?_
    refine lw_pu (wan_none rfl) (pu_pick_f rfl (by (simp only [ev, List.getD_cons_succ, List.getD_cons_zero]; exact rfl))) (by (simp only [setD, List.set_cons_succ, List.set_cons_zero]; exact rfl)) ?_
    refine lw_pu (wan_none rfl) (pu_move (by (simp only [ev, List.getD_cons_succ, List.getD_cons_zero]; exact rfl))) (by (simp only [setD, List.set_cons_succ, List.set_cons_zero]; exact rfl)) ?_
    refine lw_split_d rfl rfl rfl (by (simp only [List.set_cons_succ, List.set_cons_zero]; exact rfl)) (by (simp only [List.set_cons_succ, List.set_cons_zero]; exact rfl)) (fun hq => ?_) (fun hq => ?_)
    refine lw_skip_b rfl rfl rfl (by (simp only [setD, List.set_cons_succ, List.set_cons_zero]; exact rfl)) ?_
    refine lw_skip_b rfl rfl rfl (by (simp only [setD, List.set_cons_succ, List.set_cons_zero]; exact rfl)) ?_
    refine lw_skip_b rfl rfl rfl (by (simp only [setD, List.set_cons_succ, List.set_cons_zero]; exact rfl)) ?_
    refine lw_skip_b rfl rfl rfl (by (simp only [setD, List.set_cons_succ, List.set_cons_zero]; exact rfl)) ?_
    refine lw_skip_b rfl rfl rfl (by (simp only [setD, List.set_cons_succ, List.set_cons_zero]; exact rfl)) ?_
    refine lw_pu (wan_none rfl) (pu_pick_t rfl (by (simp only [ev, List.getD_cons_succ, List.getD_cons_zero]; exact rfl))) (by (simp only [setD, List.set_cons_succ, List.set_cons_zero]; exact rfl)) ?_
    refine lw_nil ?_; refine hK _ _ ?_; clear hK K
    refine tw_cond_t rfl ?_
    refine tw_seq ?_
    refine tw_region (fun K hK => ?_)
    refine lw_pu (wan_none rfl) (pu_move (by (simp only [ev, List.getD_cons_succ, List.getD_cons_zero]; exact rfl))) (by (simp only [setD, List.set_cons_succ, List.set_cons_zero]; exact rfl)) ?_
    refine lw_pu (wan_none rfl) (pu_assign (by (simp only [ev, List.getD_cons_succ, List.getD_cons_zero]; exact rfl))) (by (simp only [setD, List.set_cons_succ, List.set_cons_zero]; exact rfl)) ?_
    refine lw_nil ?_; refine hK _ _ ?_; clear hK K
    refine tw_ret1 Try.func13 Try.results13 (by (simp only [ev, List.getD_cons_succ, List.getD_cons_zero]; exact rfl)) ?_
    rotate_left 1
    refine lw_pu (wan_some rfl rfl rfl) (pu_move (by (simp only [ev, List.getD_cons_succ, List.getD_cons_zero]; exact rfl))) (by (simp only [setD, List.set_cons_succ, List.set_cons_zero]; exact rfl)) ?_
    first | refine lw_pu (wan_some rfl rfl rfl) (pu_addn (n := 1) rfl rfl (by omega)) (by (simp only [setD, List.set_cons_succ, List.set_cons_zero]; exact rfl)) ?_ | refine lw_pu (wan_some rfl rfl rfl) (pu_addi rfl rfl (by omega) (by omega)) (by (simp only [setD, List.set_cons_succ, List.set_cons_zero]; exact rfl)) ?_ | refine lw_pu (wan_some rfl rfl rfl) (pu_add rfl rfl) (by (simp only [setD, List.set_cons_succ, List.set_cons_zero]; exact rfl)) ?_
    refine lw_pu (wan_some rfl rfl rfl) (pu_move (by (simp only [ev, List.getD_cons_succ, List.getD_cons_zero]; exact rfl))) (by (simp only [setD, List.set_cons_succ, List.set_cons_zero]; exact rfl)) ?_
    refine lw_pu (wan_some rfl rfl rfl) (pu_lens rfl rfl) (by (simp only [setD, List.set_cons_succ, List.set_cons_zero]; exact rfl)) ?_
    refine lw_pu (wan_some rfl rfl rfl) (pu_geq rfl rfl) (by (simp only [setD, List.set_cons_succ, List.set_cons_zero]; exact rfl)) ?_
    refine lw_pu (wan_none rfl) (pu_pick_f rfl (by (simp only [ev, List.getD_cons_succ, List.getD_cons_zero]; exact rfl))) (by (simp only [setD, List.set_cons_succ, List.set_cons_zero]; exact rfl)) ?_
    refine lw_nil ?_; refine hK _ _ ?_; clear hK K
    refine tw_cond_ds rfl (by (simp only [List.set_cons_succ, List.set_cons_zero]; exact rfl)) (by (simp only [List.set_cons_succ, List.set_cons_zero]; exact rfl)) (fun hq => ?_) (fun hq => ?_)
    refine tw_seq ?_
    refine tw_region (fun K hK => ?_)
    refine lw_pu (wan_none rfl) (pu_move (by (simp only [ev, List.getD_cons_succ, List.getD_cons_zero]; exact rfl))) (by (simp only [setD, List.set_cons_succ, List.set_cons_zero]; exact rfl)) ?_
    refine lw_pu (wan_none rfl) (pu_assign (by (simp only [ev, List.getD_cons_succ, List.getD_cons_zero]; exact rfl))) (by (simp only [setD, List.set_cons_succ, List.set_cons_zero]; exact rfl)) ?_
    refine lw_nil ?_; refine hK _ _ ?_; clear hK K
    refine tw_ret1 Try.func13 Try.results13 (by (simp only [ev, List.getD_cons_succ, List.getD_cons_zero]; exact rfl)) ?_
    rotate_left 1
    refine tw_skip ?_
    refine tw_region (fun K hK => ?_)
    refine lw_pu (wan_none rfl) (pu_move (by (simp only [ev, List.getD_cons_succ, List.getD_cons_zero]; exact rfl))) (by (simp only [setD, List.set_cons_succ, List.set_cons_zero]; exact rfl)) ?_
    first | refine lw_pu (wan_none rfl) (pu_addn (n := 2) rfl rfl (by omega)) (by (simp only [setD, List.set_cons_succ, List.set_cons_zero]; exact rfl)) ?_ | refine lw_pu (wan_none rfl) (pu_addi rfl rfl (by omega) (by omega)) (by (simp only [setD, List.set_cons_succ, List.set_cons_zero]; exact rfl)) ?_ | refine lw_pu (wan_none rfl) (pu_add rfl rfl) (by (simp only [setD, List.set_cons_succ, List.set_cons_zero]; exact rfl)) ?_
    refine lw_pu (wan_none rfl) (pu_assign (by (simp only [ev, List.getD_cons_succ, List.getD_cons_zero]; exact rfl))) (by (simp only [setD, List.set_cons_succ, List.set_cons_zero]; exact rfl)) ?_
    refine lw_nil ?_; refine hK _ _ ?_; clear hK K
    refine tw_inBlock ?_
    rotate_left 1
    refine lw_skip_b rfl rfl rfl (by (simp only [setD, List.set_cons_succ, List.set_cons_zero]; exact rfl)) ?_
    refine lw_skip_b rfl rfl rfl (by (simp only [setD, List.set_cons_succ, List.set_cons_zero]; exact rfl)) ?_
    refine lw_skip_b rfl rfl rfl (by (simp only [setD, List.set_cons_succ, List.set_cons_zero]; exact rfl)) ?_
    refine lw_skip_b rfl rfl rfl (by (simp only [setD, List.set_cons_succ, List.set_cons_zero]; exact rfl)) ?_
    refine lw_skip_b rfl rfl rfl (by (simp only [setD, List.set_cons_succ, List.set_cons_zero]; exact rfl)) ?_
    refine lw_skip_u rfl rfl rfl (by (simp only [setD, List.set_cons_succ, List.set_cons_zero]; exact rfl)) ?_
    refine lw_skip_u rfl rfl rfl (by (simp only [setD, List.set_cons_succ, List.set_cons_zero]; exact rfl)) ?_
    refine lw_skip_u rfl rfl rfl (by (simp only [setD, List.set_cons_succ, List.set_cons_zero]; exact rfl)) ?_
    refine lw_skip_u rfl rfl rfl (by (simp only [setD, List.set_cons_succ, List.set_cons_zero]; exact rfl)) ?_
    refine lw_skip_u rfl rfl rfl (by (simp only [setD, List.set_cons_succ, List.set_cons_zero]; exact rfl)) ?_
    refine lw_skip_b rfl rfl rfl (by (simp only [setD, List.set_cons_succ, List.set_cons_zero]; exact rfl)) ?_
    refine lw_pu (wan_none rfl) (pu_pick_f rfl (by (simp only [ev, List.getD_cons_succ, List.getD_cons_zero]; exact rfl))) (by (simp only [setD, List.set_cons_succ, List.set_cons_zero]; exact rfl)) ?_
    refine lw_nil ?_; refine hK _ _ ?_; clear hK K
    refine tw_cond_f rfl ?_
    refine tw_exit rfl ?_
    refine tw_seq ?_
    refine tw_seq ?_
    refine tw_region (fun K hK => ?_)
    refine lw_pu (wan_none rfl) (pu_move (by (simp only [ev, List.getD_cons_succ, List.getD_cons_zero]; exact rfl))) (by (simp only [setD, List.set_cons_succ, List.set_cons_zero]; exact rfl)) ?_
    refine lw_pu (wan_none rfl) (pu_move (by (simp only [ev, List.getD_cons_succ, List.getD_cons_zero]; exact rfl))) (by (simp only [setD, List.set_cons_succ, List.set_cons_zero]; exact rfl)) ?_
    refine lw_pu (wan_none rfl) (pu_index rfl rfl (by omega)) (by (simp only [setD, List.set_cons_succ, List.set_cons_zero]; exact rfl)) ?_
    refine lw_pu (wan_none rfl) (pu_neq rfl rfl) (by (simp only [setD, List.set_cons_succ, List.set_cons_zero]; exact rfl)) ?_
    refine lw_pu (wan_none rfl) (pu_move (by (simp only [ev, List.getD_cons_succ, List.getD_cons_zero]; exact rfl))) (by (simp only [setD, List.set_cons_succ, List.set_cons_zero]; exact rfl)) ?_
    refine lw_split_d rfl rfl rfl (by (simp only [List.set_cons_succ, List.set_cons_zero]; exact rfl)) (by (simp only [List.set_cons_succ, List.set_cons_zero]; exact rfl)) (fun hq => ?_) (fun hq => ?_)
    refine lw_skip_b rfl rfl rfl (by (simp only [setD, List.set_cons_succ, List.set_cons_zero]; exact rfl)) ?_
    refine lw_skip_b rfl rfl rfl (by (simp only [setD, List.set_cons_succ, List.set_cons_zero]; exact rfl)) ?_
    refine lw_skip_b rfl rfl rfl (by (simp only [setD, List.set_cons_succ, List.set_cons_zero]; exact rfl)) ?_
    refine lw_skip_b rfl rfl rfl (by (simp only [setD, List.set_cons_succ, List.set_cons_zero]; exact rfl)) ?_
    refine lw_skip_b rfl rfl rfl (by (simp only [setD, List.set_cons_succ, List.set_cons_zero]; exact rfl)) ?_
    refine lw_pu (wan_none rfl) (pu_pick_t rfl (by (simp only [ev, List.getD_cons_succ, List.getD_cons_zero]; exact rfl))) (by (simp only [setD, List.set_cons_succ, List.set_cons_zero]; exact rfl)) ?_
    refine lw_pu (wan_none rfl) (pu_move (by (simp only [ev, List.getD_cons_succ, List.getD_cons_zero]; exact rfl))) (by (simp only [setD, List.set_cons_succ, List.set_cons_zero]; exact rfl)) ?_
    refine lw_skip_b rfl rfl rfl (by (simp only [setD, List.set_cons_succ, List.set_cons_zero]; exact rfl)) ?_
    refine lw_skip_b rfl rfl rfl (by (simp only [setD, List.set_cons_succ, List.set_cons_zero]; exact rfl)) ?_
    refine lw_skip_b rfl rfl rfl (by (simp only [setD, List.set_cons_succ, List.set_cons_zero]; exact rfl)) ?_
    refine lw_skip_b rfl rfl rfl (by (simp only [setD, List.set_cons_succ, List.set_cons_zero]; exact rfl)) ?_
    refine lw_skip_b rfl rfl rfl (by (simp only [setD, List.set_cons_succ, List.set_cons_zero]; exact rfl)) ?_
    refine lw_pu (wan_none rfl) (pu_pick_t rfl (by (simp only [ev, List.getD_cons_succ, List.getD_cons_zero]; exact rfl))) (by (simp only [setD, List.set_cons_succ, List.set_cons_zero]; exact rfl)) ?_
    refine lw_pu (wan_none rfl) (pu_move (by (simp only [ev, List.getD_cons_succ, List.getD_cons_zero]; exact rfl))) (by (simp only [setD, List.set_cons_succ, List.set_cons_zero]; exact rfl)) ?_
    refine lw_skip_b rfl rfl rfl (by (simp only [setD, List.set_cons_succ, List.set_cons_zero]; exact rfl)) ?_
    refine lw_skip_b rfl rfl rfl (by (simp only [setD, List.set_cons_succ, List.set_cons_zero]; exact rfl)) ?_
    refine lw_skip_b rfl rfl rfl (by (simp only [setD, List.set_cons_succ, List.set_cons_zero]; exact rfl)) ?_
    refine lw_skip_b rfl rfl rfl (by (simp only [setD, List.set_cons_succ, List.set_cons_zero]; exact rfl)) ?_
    refine lw_skip_b rfl rfl rfl (by (simp only [setD, List.set_cons_succ, List.set_cons_zero]; exact rfl)) ?_
    refine lw_pu (wan_none rfl) (pu_pick_t rfl (by (simp only [ev, List.getD_cons_succ, List.getD_cons_zero]; exact rfl))) (by (simp only [setD, List.set_cons_succ, List.set_cons_zero]; exact rfl)) ?_
    refine lw_nil ?_; refine hK _ _ ?_; clear hK K
    refine tw_cond_t rfl ?_
    refine tw_seq ?_
    refine tw_region (fun K hK => ?_)
    refine lw_pu (wan_none rfl) (pu_move (by (simp only [ev, List.getD_cons_succ, List.getD_cons_zero]; exact rfl))) (by (simp only [setD, List.set_cons_succ, List.set_cons_zero]; exact rfl)) ?_
    refine lw_pu (wan_none rfl) (pu_assign (by (simp only [ev, List.getD_cons_succ, List.getD_cons_zero]; exact rfl))) (by (simp only [setD, List.set_cons_succ, List.set_cons_zero]; exact rfl)) ?_
    refine lw_nil ?_; refine hK _ _ ?_; clear hK K
    refine tw_ret1 Try.func13 Try.results13 (by (simp only [ev, List.getD_cons_succ, List.getD_cons_zero]; exact rfl)) ?_
    rotate_left 1
    refine lw_pu (wan_some rfl rfl rfl) (pu_move (by (simp only [ev, List.getD_cons_succ, List.getD_cons_zero]; exact rfl))) (by (simp only [setD, List.set_cons_succ, List.set_cons_zero]; exact rfl)) ?_
    first | refine lw_pu (wan_some rfl rfl rfl) (pu_addn (n := 1) rfl rfl (by omega)) (by (simp only [setD, List.set_cons_succ, List.set_cons_zero]; exact rfl)) ?_ | refine lw_pu (wan_some rfl rfl rfl) (pu_addi rfl rfl (by omega) (by omega)) (by (simp only [setD, List.set_cons_succ, List.set_cons_zero]; exact rfl)) ?_ | refine lw_pu (wan_some rfl rfl rfl) (pu_add rfl rfl) (by (simp only [setD, List.set_cons_succ, List.set_cons_zero]; exact rfl)) ?_
    refine lw_pu (wan_some rfl rfl rfl) (pu_move (by (simp only [ev, List.getD_cons_succ, List.getD_cons_zero]; exact rfl))) (by (simp only [setD, List.set_cons_succ, List.set_cons_zero]; exact rfl)) ?_
    refine lw_pu (wan_some rfl rfl rfl) (pu_lens rfl rfl) (by (simp only [setD, List.set_cons_succ, List.set_cons_zero]; exact rfl)) ?_
    refine lw_pu (wan_some rfl rfl rfl) (pu_eql rfl rfl) (by (simp only [setD, List.set_cons_succ, List.set_cons_zero]; exact rfl)) ?_
    refine lw_pu (wan_none rfl) (pu_pick_f rfl (by (simp only [ev, List.getD_cons_succ, List.getD_cons_zero]; exact rfl))) (by (simp only [setD, List.set_cons_succ, List.set_cons_zero]; exact rfl)) ?_
    refine lw_pu (wan_none rfl) (pu_move (by (simp only [ev, List.getD_cons_succ, List.getD_cons_zero]; exact rfl))) (by (simp only [setD, List.set_cons_succ, List.set_cons_zero]; exact rfl)) ?_
    refine lw_split_d rfl rfl rfl (by (simp only [List.set_cons_succ, List.set_cons_zero]; exact rfl)) (by (simp only [List.set_cons_succ, List.set_cons_zero]; exact rfl)) (fun hq => ?_) (fun hq => ?_)
    refine lw_skip_b rfl rfl rfl (by (simp only [setD, List.set_cons_succ, List.set_cons_zero]; exact rfl)) ?_
    refine lw_skip_b rfl rfl rfl (by (simp only [setD, List.set_cons_succ, List.set_cons_zero]; exact rfl)) ?_
    refine lw_skip_b rfl rfl rfl (by (simp only [setD, List.set_cons_succ, List.set_cons_zero]; exact rfl)) ?_
    refine lw_skip_b rfl rfl rfl (by (simp only [setD, List.set_cons_succ, List.set_cons_zero]; exact rfl)) ?_
    refine lw_skip_b rfl rfl rfl (by (simp only [setD, List.set_cons_succ, List.set_cons_zero]; exact rfl)) ?_
    refine lw_pu (wan_none rfl) (pu_pick_t rfl (by (simp only [ev, List.getD_cons_succ, List.getD_cons_zero]; exact rfl))) (by (simp only [setD, List.set_cons_succ, List.set_cons_zero]; exact rfl)) ?_
    refine lw_pu (wan_none rfl) (pu_move (by (simp only [ev, List.getD_cons_succ, List.getD_cons_zero]; exact rfl))) (by (simp only [setD, List.set_cons_succ, List.set_cons_zero]; exact rfl)) ?_
    refine lw_skip_b rfl rfl rfl (by (simp only [setD, List.set_cons_succ, List.set_cons_zero]; exact rfl)) ?_
    refine lw_skip_b rfl rfl rfl (by (simp only [setD, List.set_cons_succ, List.set_cons_zero]; exact rfl)) ?_
    refine lw_skip_b rfl rfl rfl (by (simp only [setD, List.set_cons_succ, List.set_cons_zero]; exact rfl)) ?_
    refine lw_skip_b rfl rfl rfl (by (simp only [setD, List.set_cons_succ, List.set_cons_zero]; exact rfl)) ?_
    refine lw_skip_b rfl rfl rfl (by (simp only [setD, List.set_cons_succ, List.set_cons_zero]; exact rfl)) ?_
    refine lw_pu (wan_none rfl) (pu_pick_t rfl (by (simp only [ev, List.getD_cons_succ, List.getD_cons_zero]; exact rfl))) (by (simp only [setD, List.set_cons_succ, List.set_cons_zero]; exact rfl)) ?_
    refine lw_nil ?_; refine hK _ _ ?_; clear hK K
    refine tw_cond_t rfl ?_
    refine tw_seq ?_
    refine tw_region (fun K hK => ?_)
    refine lw_pu (wan_none rfl) (pu_move (by (simp only [ev, List.getD_cons_succ, List.getD_cons_zero]; exact rfl))) (by (simp only [setD, List.set_cons_succ, List.set_cons_zero]; exact rfl)) ?_
    refine lw_pu (wan_none rfl) (pu_assign (by (simp only [ev, List.getD_cons_succ, List.getD_cons_zero]; exact rfl))) (by (simp only [setD, List.set_cons_succ, List.set_cons_zero]; exact rfl)) ?_
    refine lw_nil ?_; refine hK _ _ ?_; clear hK K
    refine tw_ret1 Try.func13 Try.results13 (by (simp only [ev, List.getD_cons_succ, List.getD_cons_zero]; exact rfl)) ?_
    rotate_left 1
    refine lw_pu (wan_some rfl rfl rfl) (pu_move (by (simp only [ev, List.getD_cons_succ, List.getD_cons_zero]; exact rfl))) (by (simp only [setD, List.set_cons_succ, List.set_cons_zero]; exact rfl)) ?_
    refine lw_pu (wan_some rfl rfl rfl) (pu_move (by (simp only [ev, List.getD_cons_succ, List.getD_cons_zero]; exact rfl))) (by (simp only [setD, List.set_cons_succ, List.set_cons_zero]; exact rfl)) ?_
    first | refine lw_pu (wan_some rfl rfl rfl) (pu_addn (n := 1) rfl rfl (by omega)) (by (simp only [setD, List.set_cons_succ, List.set_cons_zero]; exact rfl)) ?_ | refine lw_pu (wan_some rfl rfl rfl) (pu_addi rfl rfl (by omega) (by omega)) (by (simp only [setD, List.set_cons_succ, List.set_cons_zero]; exact rfl)) ?_ | refine lw_pu (wan_some rfl rfl rfl) (pu_add rfl rfl) (by (simp only [setD, List.set_cons_succ, List.set_cons_zero]; exact rfl)) ?_
    refine lw_pu (wan_some rfl rfl rfl) (pu_index rfl rfl (by omega)) (by (simp only [setD, List.set_cons_succ, List.set_cons_zero]; exact rfl)) ?_
    refine lw_pu (wan_some rfl rfl rfl) (pu_neq rfl rfl) (by (simp only [setD, List.set_cons_succ, List.set_cons_zero]; exact rfl)) ?_
    refine lw_pu (wan_none rfl) (pu_pick_f rfl (by (simp only [ev, List.getD_cons_succ, List.getD_cons_zero]; exact rfl))) (by (simp only [setD, List.set_cons_succ, List.set_cons_zero]; exact rfl)) ?_
    refine lw_pu (wan_none rfl) (pu_move (by (simp only [ev, List.getD_cons_succ, List.getD_cons_zero]; exact rfl))) (by (simp only [setD, List.set_cons_succ, List.set_cons_zero]; exact rfl)) ?_
    refine lw_split_d rfl rfl rfl (by (simp only [List.set_cons_succ, List.set_cons_zero]; exact rfl)) (by (simp only [List.set_cons_succ, List.set_cons_zero]; exact rfl)) (fun hq => ?_) (fun hq => ?_)
    refine lw_skip_b rfl rfl rfl (by (simp only [setD, List.set_cons_succ, List.set_cons_zero]; exact rfl)) ?_
    refine lw_skip_b rfl rfl rfl (by (simp only [setD, List.set_cons_succ, List.set_cons_zero]; exact rfl)) ?_
    refine lw_skip_b rfl rfl rfl (by (simp only [setD, List.set_cons_succ, List.set_cons_zero]; exact rfl)) ?_
    refine lw_skip_b rfl rfl rfl (by (simp only [setD, List.set_cons_succ, List.set_cons_zero]; exact rfl)) ?_
    refine lw_skip_b rfl rfl rfl (by (simp only [setD, List.set_cons_succ, List.set_cons_zero]; exact rfl)) ?_
    refine lw_pu (wan_none rfl) (pu_pick_t rfl (by (simp only [ev, List.getD_cons_succ, List.getD_cons_zero]; exact rfl))) (by (simp only [setD, List.set_cons_succ, List.set_cons_zero]; exact rfl)) ?_
    refine lw_nil ?_; refine hK _ _ ?_; clear hK K
    refine tw_cond_t rfl ?_
    refine tw_seq ?_
    refine tw_region (fun K hK => ?_)
    refine lw_pu (wan_none rfl) (pu_move (by (simp only [ev, List.getD_cons_succ, List.getD_cons_zero]; exact rfl))) (by (simp only [setD, List.set_cons_succ, List.set_cons_zero]; exact rfl)) ?_
    refine lw_pu (wan_none rfl) (pu_assign (by (simp only [ev, List.getD_cons_succ, List.getD_cons_zero]; exact rfl))) (by (simp only [setD, List.set_cons_succ, List.set_cons_zero]; exact rfl)) ?_
    refine lw_nil ?_; refine hK _ _ ?_; clear hK K
    refine tw_ret1 Try.func13 Try.results13 (by (simp only [ev, List.getD_cons_succ, List.getD_cons_zero]; exact rfl)) ?_
    rotate_left 1
    refine lw_pu (wan_some rfl rfl rfl) (pu_move (by (simp only [ev, List.getD_cons_succ, List.getD_cons_zero]; exact rfl))) (by (simp only [setD, List.set_cons_succ, List.set_cons_zero]; exact rfl)) ?_
    first | refine lw_pu (wan_some rfl rfl rfl) (pu_addn (n := 1) rfl rfl (by omega)) (by (simp only [setD, List.set_cons_succ, List.set_cons_zero]; exact rfl)) ?_ | refine lw_pu (wan_some rfl rfl rfl) (pu_addi rfl rfl (by omega) (by omega)) (by (simp only [setD, List.set_cons_succ, List.set_cons_zero]; exact rfl)) ?_ | refine lw_pu (wan_some rfl rfl rfl) (pu_add rfl rfl) (by (simp only [setD, List.set_cons_succ, List.set_cons_zero]; exact rfl)) ?_
    refine lw_pu (wan_some rfl rfl rfl) (pu_move (by (simp only [ev, List.getD_cons_succ, List.getD_cons_zero]; exact rfl))) (by (simp only [setD, List.set_cons_succ, List.set_cons_zero]; exact rfl)) ?_
    refine lw_pu (wan_some rfl rfl rfl) (pu_lens rfl rfl) (by (simp only [setD, List.set_cons_succ, List.set_cons_zero]; exact rfl)) ?_
    refine lw_pu (wan_some rfl rfl rfl) (pu_geq rfl rfl) (by (simp only [setD, List.set_cons_succ, List.set_cons_zero]; exact rfl)) ?_
    refine lw_pu (wan_none rfl) (pu_pick_f rfl (by (simp only [ev, List.getD_cons_succ, List.getD_cons_zero]; exact rfl))) (by (simp only [setD, List.set_cons_succ, List.set_cons_zero]; exact rfl)) ?_
    refine lw_nil ?_; refine hK _ _ ?_; clear hK K
    refine tw_cond_ds rfl (by (simp only [List.set_cons_succ, List.set_cons_zero]; exact rfl)) (by (simp only [List.set_cons_succ, List.set_cons_zero]; exact rfl)) (fun hq => ?_) (fun hq => ?_)
    refine tw_seq ?_
    refine tw_region (fun K hK => ?_)
    refine lw_pu (wan_none rfl) (pu_move (by (simp only [ev, List.getD_cons_succ, List.getD_cons_zero]; exact rfl))) (by (simp only [setD, List.set_cons_succ, List.set_cons_zero]; exact rfl)) ?_
    refine lw_pu (wan_none rfl) (pu_assign (by (simp only [ev, List.getD_cons_succ, List.getD_cons_zero]; exact rfl))) (by (simp only [setD, List.set_cons_succ, List.set_cons_zero]; exact rfl)) ?_
    refine lw_nil ?_; refine hK _ _ ?_; clear hK K
    refine tw_ret1 Try.func13 Try.results13 (by (simp only [ev, List.getD_cons_succ, List.getD_cons_zero]; exact rfl)) ?_
    rotate_left 1
    refine tw_skip ?_
    refine tw_region (fun K hK => ?_)
    refine lw_pu (wan_none rfl) (pu_move (by (simp only [ev, List.getD_cons_succ, List.getD_cons_zero]; exact rfl))) (by (simp only [setD, List.set_cons_succ, List.set_cons_zero]; exact rfl)) ?_
    first | refine lw_pu (wan_none rfl) (pu_addn (n := 2) rfl rfl (by omega)) (by (simp only [setD, List.set_cons_succ, List.set_cons_zero]; exact rfl)) ?_ | refine lw_pu (wan_none rfl) (pu_addi rfl rfl (by omega) (by omega)) (by (simp only [setD, List.set_cons_succ, List.set_cons_zero]; exact rfl)) ?_ | refine lw_pu (wan_none rfl) (pu_add rfl rfl) (by (simp only [setD, List.set_cons_succ, List.set_cons_zero]; exact rfl)) ?_
    refine lw_pu (wan_none rfl) (pu_assign (by (simp only [ev, List.getD_cons_succ, List.getD_cons_zero]; exact rfl))) (by (simp only [setD, List.set_cons_succ, List.set_cons_zero]; exact rfl)) ?_
    refine lw_nil ?_; refine hK _ _ ?_; clear hK K
    refine tw_inBlock ?_
    rotate_left 1
    -- left: round | round | ret | ret | ret | ret | round | ret | ret | ret | ret | round
    all_goals first
      | (exfalso; omega)
      | exact ⟨⟨x, rfl, hsk x (.stop (fun _ => by assumption) (fun hc => by have h1 := hc.1; have h2 := hc.2.1; have h3 := hc.2.2; exfalso; omega))⟩, hm.ext⟩
      | exact ⟨⟨x, rfl, hsk x (.stop (fun _ => by assumption) (fun hc j h1 h2 => (Nat.lt_or_ge j e).elim (fun h3 => hcl j h1 h3 h2) (fun h3 => by have := h2.1; omega)))⟩, hm.ext⟩
      | exact IH2 (e + 1) _ _ (by omega) rfl ⟨hm, by omega, by omega, fun j h1 h2 h3 => (Nat.lt_or_ge j e).elim (fun h4 => hcl j h1 h4 h3) (fun h4 => by (have h5 : j = e := by omega); subst h5; have h6 := h3.2.1; have h7 := h3.2.2; omega)⟩
      | exact IH (e + 2) _ _ (by omega) rfl ⟨hm, by omega, fun r hr => hsk r (.comm ⟨by omega, by omega, by omega⟩ he ⟨by omega, by omega, by omega⟩ hcl hr)⟩
  · exact ⟨⟨x, rfl, hsk x (.stop (fun h => by omega) (fun h => by have := h.1; omega))⟩, hm.ext⟩

/-! the package's own -/
def Pre (p s : List UInt8) : Prop := p.length ≤ s.length ∧ s.take p.length = p
instance (p s : List UInt8) : Decidable (Pre p s) := by unfold Pre; infer_instance
def IsAt (p s : List UInt8) (i : Nat) : Prop := i + p.length ≤ s.length ∧ (s.take (i + p.length)).drop i = p
def Idx (p s : List UInt8) (r : Int) : Prop := (r = -1 ∧ ∀ i, ¬ IsAt p s i) ∨ ∃ n : Nat, r = n ∧ IsAt p s n ∧ ∀ j, j < n → ¬ IsAt p s j

theorem Idx.lo {p s : List UInt8} {r : Int} (h : Idx p s r) : -1 ≤ r := by
  obtain ⟨rfl, _⟩ | ⟨n, rfl, _⟩ := h <;> omega
theorem Idx.hi {p s : List UInt8} {r : Int} (h : Idx p s r) : r ≤ (s.length : Nat) := by
  obtain ⟨rfl, _⟩ | ⟨n, rfl, h1, _⟩ := h
  · omega
  · have := h1.1; omega
set_option linter.unusedSimpArgs false in
set_option maxRecDepth 10000 in
theorem zzIndex_ret (s p : List UInt8) (hs : s.length ≤ 2147483647) (hp : p.length ≤ 2147483647) (h0 : Array Obj) : Ret Try.prog 76 [bs s, bs p] h0 fun v h => (∃ r : Int, v = .int .i64 r ∧ Idx p s r) ∧ Ext h0 h := by
  have hm := Mem.refl h0
  refine ret_of_tw (ρ := ((bs s) :: (bs p) :: undef :: undef :: undef :: undef :: undef :: undef :: undef :: undef :: undef :: undef :: undef :: undef :: undef :: undef :: undef :: undef :: undef :: undef :: undef :: undef :: undef :: undef :: undef :: [])) Try.func76 rfl rfl (fun E => ?_)
  refine tw_seq ?_
  refine tw_region (fun K hK => ?_)
  refine lw_pu (wan_none rfl) (pu_assign (by (simp only [ev, List.getD_cons_succ, List.getD_cons_zero]; exact rfl))) (by (simp only [setD, List.set_cons_succ, List.set_cons_zero]; exact rfl)) ?_
  refine lw_nil ?_; refine hK _ _ ?_; clear hK K
  refine tw_seq ?_
  refine tw_seq ?_
  refine tw_region (fun K hK => ?_)
  refine lw_pu (wan_none rfl) (pu_assign (by (simp only [ev, List.getD_cons_succ, List.getD_cons_zero]; exact rfl))) (by (simp only [setD, List.set_cons_succ, List.set_cons_zero]; exact rfl)) ?_
  refine lw_nil ?_; refine hK _ _ ?_; clear hK K
  refine tw_block ?_
  rotate_left 1
  -- left: loop
  refine tw_loopJ (X := Nat) (fun x => s.length + 1 - x) (fun x J => (bs s :: bs p :: J 2 :: J 3 :: J 4 :: .int .i64 (x : Int) :: J 6 :: J 7 :: J 8 :: J 9 :: J 10 :: J 11 :: J 12 :: J 13 :: J 14 :: J 15 :: J 16 :: J 17 :: J 18 :: J 19 :: J 20 :: J 21 :: J 22 :: J 23 :: J 24 :: [])) (fun x h => Mem h0 h [] [] ∧ x ≤ s.length + 1 ∧ ∀ j, j < x → ¬ IsAt p s j) 0 rfl ⟨hm, by omega, fun j hj => by omega⟩ ?_
  clear hm
  rintro x J h ⟨hm, hx, hno⟩ IH
  refine tw_seq ?_
  refine tw_seq ?_
  refine tw_region (fun K hK => ?_)
  refine lw_pu (wan_none rfl) (pu_move (by (simp only [ev, List.getD_cons_succ, List.getD_cons_zero]; exact rfl))) (by (simp only [setD, List.set_cons_succ, List.set_cons_zero]; exact rfl)) ?_
  refine lw_pu (wan_none rfl) (pu_move (by (simp only [ev, List.getD_cons_succ, List.getD_cons_zero]; exact rfl))) (by (simp only [setD, List.set_cons_succ, List.set_cons_zero]; exact rfl)) ?_
  refine lw_pu (wan_none rfl) (pu_lens rfl rfl) (by (simp only [setD, List.set_cons_succ, List.set_cons_zero]; exact rfl)) ?_
  first | refine lw_pu (wan_none rfl) (pu_addn rfl rfl (by omega)) (by (simp only [setD, List.set_cons_succ, List.set_cons_zero]; exact rfl)) ?_ | refine lw_pu (wan_none rfl) (pu_addi rfl rfl (by omega) (by omega)) (by (simp only [setD, List.set_cons_succ, List.set_cons_zero]; exact rfl)) ?_ | refine lw_pu (wan_none rfl) (pu_add rfl rfl) (by (simp only [setD, List.set_cons_succ, List.set_cons_zero]; exact rfl)) ?_
  refine lw_pu (wan_none rfl) (pu_move (by (simp only [ev, List.getD_cons_succ, List.getD_cons_zero]; exact rfl))) (by (simp only [setD, List.set_cons_succ, List.set_cons_zero]; exact rfl)) ?_
  refine lw_pu (wan_none rfl) (pu_lens rfl rfl) (by (simp only [setD, List.set_cons_succ, List.set_cons_zero]; exact rfl)) ?_
  refine lw_pu (wan_none rfl) (pu_leq rfl rfl) (by (simp only [setD, List.set_cons_succ, List.set_cons_zero]; exact rfl)) ?_
  refine lw_nil ?_; refine hK _ _ ?_; clear hK K
  refine tw_cond_ds rfl (by (simp only [List.set_cons_succ, List.set_cons_zero]; exact rfl)) (by (simp only [List.set_cons_succ, List.set_cons_zero]; exact rfl)) (fun hq => ?_) (fun hq => ?_)
  refine tw_skip ?_
  refine tw_seq ?_
  refine tw_block ?_
  refine tw_seq ?_
  refine tw_region (fun K hK => ?_)
  refine lw_pu (wan_none rfl) (pu_move (by (simp only [ev, List.getD_cons_succ, List.getD_cons_zero]; exact rfl))) (by (simp only [setD, List.set_cons_succ, List.set_cons_zero]; exact rfl)) ?_
  refine lw_pu (wan_none rfl) (pu_move (by (simp only [ev, List.getD_cons_succ, List.getD_cons_zero]; exact rfl))) (by (simp only [setD, List.set_cons_succ, List.set_cons_zero]; exact rfl)) ?_
  refine lw_pu (wan_none rfl) (pu_move (by (simp only [ev, List.getD_cons_succ, List.getD_cons_zero]; exact rfl))) (by (simp only [setD, List.set_cons_succ, List.set_cons_zero]; exact rfl)) ?_
  refine lw_pu (wan_none rfl) (pu_move (by (simp only [ev, List.getD_cons_succ, List.getD_cons_zero]; exact rfl))) (by (simp only [setD, List.set_cons_succ, List.set_cons_zero]; exact rfl)) ?_
  refine lw_pu (wan_none rfl) (pu_lens rfl rfl) (by (simp only [setD, List.set_cons_succ, List.set_cons_zero]; exact rfl)) ?_
  first | refine lw_pu (wan_none rfl) (pu_addn rfl rfl (by omega)) (by (simp only [setD, List.set_cons_succ, List.set_cons_zero]; exact rfl)) ?_ | refine lw_pu (wan_none rfl) (pu_addi rfl rfl (by omega) (by omega)) (by (simp only [setD, List.set_cons_succ, List.set_cons_zero]; exact rfl)) ?_ | refine lw_pu (wan_none rfl) (pu_add rfl rfl) (by (simp only [setD, List.set_cons_succ, List.set_cons_zero]; exact rfl)) ?_
  refine lw_pu (wan_none rfl) (pu_slices rfl rfl rfl (by omega) (by omega)) (by (simp only [setD, List.set_cons_succ, List.set_cons_zero]; exact rfl)) ?_
  refine lw_pu (wan_none rfl) (pu_move (by (simp only [ev, List.getD_cons_succ, List.getD_cons_zero]; exact rfl))) (by (simp only [setD, List.set_cons_succ, List.set_cons_zero]; exact rfl)) ?_
  refine lw_pu (wan_none rfl) (pu_eqs rfl rfl) (by (simp only [setD, List.set_cons_succ, List.set_cons_zero]; exact rfl)) ?_
  refine lw_nil ?_; refine hK _ _ ?_; clear hK K
  refine tw_cond_ds rfl (by (simp only [List.set_cons_succ, List.set_cons_zero]; exact rfl)) (by (simp only [List.set_cons_succ, List.set_cons_zero]; exact rfl)) (fun hq => ?_) (fun hq => ?_)
  refine tw_seq ?_
  refine tw_region (fun K hK => ?_)
  refine lw_pu (wan_none rfl) (pu_move (by (simp only [ev, List.getD_cons_succ, List.getD_cons_zero]; exact rfl))) (by (simp only [setD, List.set_cons_succ, List.set_cons_zero]; exact rfl)) ?_
  refine lw_pu (wan_none rfl) (pu_assign (by (simp only [ev, List.getD_cons_succ, List.getD_cons_zero]; exact rfl))) (by (simp only [setD, List.set_cons_succ, List.set_cons_zero]; exact rfl)) ?_
  refine lw_nil ?_; refine hK _ _ ?_; clear hK K
  refine tw_ret1 Try.func76 Try.results76 (by (simp only [ev, List.getD_cons_succ, List.getD_cons_zero]; exact rfl)) ?_
  rotate_left 1
  refine tw_skip ?_
  refine tw_inBlock ?_
  refine tw_region (fun K hK => ?_)
  refine lw_pu (wan_none rfl) (pu_move (by (simp only [ev, List.getD_cons_succ, List.getD_cons_zero]; exact rfl))) (by (simp only [setD, List.set_cons_succ, List.set_cons_zero]; exact rfl)) ?_
  first | refine lw_pu (wan_none rfl) (pu_addn (n := 1) rfl rfl (by omega)) (by (simp only [setD, List.set_cons_succ, List.set_cons_zero]; exact rfl)) ?_ | refine lw_pu (wan_none rfl) (pu_addi rfl rfl (by omega) (by omega)) (by (simp only [setD, List.set_cons_succ, List.set_cons_zero]; exact rfl)) ?_ | refine lw_pu (wan_none rfl) (pu_add rfl rfl) (by (simp only [setD, List.set_cons_succ, List.set_cons_zero]; exact rfl)) ?_
  refine lw_pu (wan_none rfl) (pu_assign (by (simp only [ev, List.getD_cons_succ, List.getD_cons_zero]; exact rfl))) (by (simp only [setD, List.set_cons_succ, List.set_cons_zero]; exact rfl)) ?_
  refine lw_nil ?_; refine hK _ _ ?_; clear hK K
  rotate_left 1
  refine tw_exit rfl ?_
  refine tw_seq ?_
  refine tw_region (fun K hK => ?_)
  refine lw_pu (wan_none rfl) (pu_assign (by (simp only [ev, List.getD_cons_succ, List.getD_cons_zero]; exact rfl))) (by (simp only [setD, List.set_cons_succ, List.set_cons_zero]; exact rfl)) ?_
  refine lw_nil ?_; refine hK _ _ ?_; clear hK K
  refine tw_ret1 Try.func76 Try.results76 (by (simp only [ev, List.getD_cons_succ, List.getD_cons_zero]; exact rfl)) ?_
  rotate_left 1
  -- left: ret | round | ret
  · exact ⟨⟨x, rfl, .inr ⟨x, rfl, ⟨by omega, hq⟩, hno⟩⟩, hm.ext⟩
  · exact IH (x + 1) _ _ (by omega) rfl ⟨hm, by omega, fun j hj hat => (Nat.lt_or_ge j x).elim (fun h => hno j h hat) (fun h => by (have h5 : j = x := by omega); subst h5; exact hq hat.2)⟩
  · exact ⟨⟨-1, rfl, .inl ⟨rfl, fun i hat => (Nat.lt_or_ge i x).elim (fun h => hno i h hat) (fun h => by have := hat.1; omega)⟩⟩, hm.ext⟩

set_option linter.unusedSimpArgs false in
set_option maxRecDepth 10000 in
theorem hasPrefixLite_ret (s p : List UInt8) (h0 : Array Obj) : Ret Try.prog 95 [bs s, bs p] h0 fun v h => v = .bool (decide (Pre p s)) ∧ Ext h0 h := by
  refine ret_of_tw (ρ := ((bs s) :: (bs p) :: undef :: undef :: undef :: undef :: undef :: undef :: undef :: undef :: undef :: undef :: undef :: undef :: undef :: undef :: undef :: undef :: [])) Try.func95 rfl rfl (fun E => ?_)
  refine tw_seq ?_
  refine tw_region (fun K hK => ?_)
  refine lw_pu (wan_none rfl) (pu_assign (by (simp only [ev, List.getD_cons_succ, List.getD_cons_zero]; exact rfl))) (by (simp only [setD, List.set_cons_succ, List.set_cons_zero]; exact rfl)) ?_
  refine lw_nil ?_; refine hK _ _ ?_; clear hK K
  refine tw_seq ?_
  refine tw_region (fun K hK => ?_)
  refine lw_pu (wan_none rfl) (pu_move (by (simp only [ev, List.getD_cons_succ, List.getD_cons_zero]; exact rfl))) (by (simp only [setD, List.set_cons_succ, List.set_cons_zero]; exact rfl)) ?_
  refine lw_pu (wan_none rfl) (pu_lens rfl rfl) (by (simp only [setD, List.set_cons_succ, List.set_cons_zero]; exact rfl)) ?_
  refine lw_pu (wan_none rfl) (pu_move (by (simp only [ev, List.getD_cons_succ, List.getD_cons_zero]; exact rfl))) (by (simp only [setD, List.set_cons_succ, List.set_cons_zero]; exact rfl)) ?_
  refine lw_pu (wan_none rfl) (pu_lens rfl rfl) (by (simp only [setD, List.set_cons_succ, List.set_cons_zero]; exact rfl)) ?_
  refine lw_pu (wan_none rfl) (pu_geq rfl rfl) (by (simp only [setD, List.set_cons_succ, List.set_cons_zero]; exact rfl)) ?_
  refine lw_pu (wan_none rfl) (pu_move (by (simp only [ev, List.getD_cons_succ, List.getD_cons_zero]; exact rfl))) (by (simp only [setD, List.set_cons_succ, List.set_cons_zero]; exact rfl)) ?_
  refine lw_split_d rfl rfl rfl (by (simp only [List.set_cons_succ, List.set_cons_zero]; exact rfl)) (by (simp only [List.set_cons_succ, List.set_cons_zero]; exact rfl)) (fun hq => ?_) (fun hq => ?_)
  refine lw_pu (wan_some rfl rfl rfl) (pu_move (by (simp only [ev, List.getD_cons_succ, List.getD_cons_zero]; exact rfl))) (by (simp only [setD, List.set_cons_succ, List.set_cons_zero]; exact rfl)) ?_
  refine lw_pu (wan_some rfl rfl rfl) (pu_move (by (simp only [ev, List.getD_cons_succ, List.getD_cons_zero]; exact rfl))) (by (simp only [setD, List.set_cons_succ, List.set_cons_zero]; exact rfl)) ?_
  refine lw_pu (wan_some rfl rfl rfl) (pu_lens rfl rfl) (by (simp only [setD, List.set_cons_succ, List.set_cons_zero]; exact rfl)) ?_
  refine lw_pu (wan_some rfl rfl rfl) (pu_slices_hi rfl rfl (by omega)) (by (simp only [setD, List.set_cons_succ, List.set_cons_zero]; exact rfl)) ?_
  refine lw_pu (wan_some rfl rfl rfl) (pu_move (by (simp only [ev, List.getD_cons_succ, List.getD_cons_zero]; exact rfl))) (by (simp only [setD, List.set_cons_succ, List.set_cons_zero]; exact rfl)) ?_
  refine lw_pu (wan_some rfl rfl rfl) (pu_eqs rfl rfl) (by (simp only [setD, List.set_cons_succ, List.set_cons_zero]; exact rfl)) ?_
  refine lw_pu (wan_none rfl) (pu_pick_t rfl (by (simp only [ev, List.getD_cons_succ, List.getD_cons_zero]; exact rfl))) (by (simp only [setD, List.set_cons_succ, List.set_cons_zero]; exact rfl)) ?_
  refine lw_pu (wan_none rfl) (pu_assign (by (simp only [ev, List.getD_cons_succ, List.getD_cons_zero]; exact rfl))) (by (simp only [setD, List.set_cons_succ, List.set_cons_zero]; exact rfl)) ?_
  refine lw_nil ?_; refine hK _ _ ?_; clear hK K
  refine tw_ret1 Try.func95 Try.results95 (by (simp only [ev, List.getD_cons_succ, List.getD_cons_zero]; exact rfl)) ?_
  rotate_left 1
  refine lw_skip_b rfl rfl rfl (by (simp only [setD, List.set_cons_succ, List.set_cons_zero]; exact rfl)) ?_
  refine lw_skip_b rfl rfl rfl (by (simp only [setD, List.set_cons_succ, List.set_cons_zero]; exact rfl)) ?_
  refine lw_skip_b rfl rfl rfl (by (simp only [setD, List.set_cons_succ, List.set_cons_zero]; exact rfl)) ?_
  refine lw_skip_b rfl rfl rfl (by (simp only [setD, List.set_cons_succ, List.set_cons_zero]; exact rfl)) ?_
  refine lw_skip_b rfl rfl rfl (by (simp only [setD, List.set_cons_succ, List.set_cons_zero]; exact rfl)) ?_
  refine lw_skip_b rfl rfl rfl (by (simp only [setD, List.set_cons_succ, List.set_cons_zero]; exact rfl)) ?_
  refine lw_pu (wan_none rfl) (pu_pick_f rfl (by (simp only [ev, List.getD_cons_succ, List.getD_cons_zero]; exact rfl))) (by (simp only [setD, List.set_cons_succ, List.set_cons_zero]; exact rfl)) ?_
  refine lw_pu (wan_none rfl) (pu_assign (by (simp only [ev, List.getD_cons_succ, List.getD_cons_zero]; exact rfl))) (by (simp only [setD, List.set_cons_succ, List.set_cons_zero]; exact rfl)) ?_
  refine lw_nil ?_; refine hK _ _ ?_; clear hK K
  refine tw_ret1 Try.func95 Try.results95 (by (simp only [ev, List.getD_cons_succ, List.getD_cons_zero]; exact rfl)) ?_
  rotate_left 1
  -- left: ret | ret
  · exact ⟨congrArg Value.bool (decide_eq_decide.2 ⟨fun h => ⟨by omega, h⟩, fun h => h.2⟩), Ext.refl _⟩
  · exact ⟨congrArg Value.bool (decide_eq_false (fun h => by have := h.1; omega)).symm, Ext.refl _⟩
set_option linter.unusedSimpArgs false in
set_option maxRecDepth 10000 in
theorem hasPrefix_ret (s p : List UInt8) (h0 : Array Obj) : Ret Try.prog 75 [bs s, bs p] h0 fun v h => v = .bool (decide (Pre p s)) ∧ Ext h0 h := by
  have hm := Mem.refl h0
  refine ret_of_tw (ρ := ((bs s) :: (bs p) :: undef :: undef :: undef :: undef :: undef :: undef :: [])) Try.func75 rfl rfl (fun E => ?_)
  refine tw_seq ?_
  refine tw_region (fun K hK => ?_)
  refine lw_pu (wan_none rfl) (pu_assign (by (simp only [ev, List.getD_cons_succ, List.getD_cons_zero]; exact rfl))) (by (simp only [setD, List.set_cons_succ, List.set_cons_zero]; exact rfl)) ?_
  refine lw_nil ?_; refine hK _ _ ?_; clear hK K
  refine tw_seq ?_
  refine tw_region (fun K hK => ?_)
  refine lw_pu (wan_none rfl) (pu_move (by (simp only [ev, List.getD_cons_succ, List.getD_cons_zero]; exact rfl))) (by (simp only [setD, List.set_cons_succ, List.set_cons_zero]; exact rfl)) ?_
  refine lw_pu (wan_none rfl) (pu_move (by (simp only [ev, List.getD_cons_succ, List.getD_cons_zero]; exact rfl))) (by (simp only [setD, List.set_cons_succ, List.set_cons_zero]; exact rfl)) ?_
  refine lw_calx (wan_none rfl) (hasPrefixLite_ret _ _ _) hm (by (simp only [setD, List.set_cons_succ, List.set_cons_zero]; exact rfl)) ?_; clear hm; intro h hm
  refine lw_pu (wan_none rfl) (pu_assign (by (simp only [ev, List.getD_cons_succ, List.getD_cons_zero]; exact rfl))) (by (simp only [setD, List.set_cons_succ, List.set_cons_zero]; exact rfl)) ?_
  refine lw_nil ?_; refine hK _ _ ?_; clear hK K
  refine tw_ret1 Try.func75 Try.results75 (by (simp only [ev, List.getD_cons_succ, List.getD_cons_zero]; exact rfl)) ?_
  rotate_left 1
  -- left: ret
  exact ⟨rfl, hm.ext⟩

theorem getD_drop (l : List UInt8) (a n : Nat) : (l.drop a).getD n 0 = l.getD (a + n) 0 := by simp
theorem two_at (s : List UInt8) (a b : UInt8) (n : Nat) : IsAt [a, b] s n ↔ n + 1 < s.length ∧ s.getD n 0 = a ∧ s.getD (n + 1) 0 = b := by
  unfold IsAt
  simp only [List.length_cons, List.length_nil]
  constructor
  · rintro ⟨h1, h2⟩
    have e0 := congrArg (fun t : List UInt8 => t.getD 0 0) h2
    have e1 := congrArg (fun t : List UInt8 => t.getD 1 0) h2
    simp at e0 e1
    refine ⟨by omega, ?_, ?_⟩ <;> simp [*]
  · rintro ⟨h1, h2, h3⟩
    refine ⟨by omega, ?_⟩
    apply List.ext_getElem?
    intro i
    rw [List.getElem?_drop, List.getElem?_take]
    match i with
    | 0 => simp at h2; rw [if_pos (by omega)]; simp; rw [← h2]; simp [List.getElem?_eq_getElem (show n < s.length by omega)]
    | 1 => simp at h3; rw [if_pos (by omega)]; simp; rw [← h3]; simp [List.getElem?_eq_getElem h1]
    | i + 2 => rw [if_neg (by omega)]; simp
theorem u8_eq (c : UInt8) (k : Nat) (hk : k < 256) : c = UInt8.ofNat k ↔ c.toNat = k := by
  rw [← UInt8.toNat_inj]
  simp [Nat.mod_eq_of_lt hk]
theorem close_at (l : List UInt8) (a n : Nat) : IsAt [42, 47] (l.drop a) n ↔ Close l (a + n) := by
  rw [two_at, getD_drop, getD_drop]
  unfold Close
  have h1 := u8_eq (l.getD (a + n) 0) 42 (by omega)
  have h2 := u8_eq (l.getD (a + (n + 1)) 0) 47 (by omega)
  rw [← Nat.add_assoc] at *
  rw [show (42 : UInt8) = UInt8.ofNat 42 from rfl, show (47 : UInt8) = UInt8.ofNat 47 from rfl, h1, h2]
  simp only [List.length_drop]
  omega
theorem pre_at (s : List UInt8) (a b : UInt8) : Pre [a, b] s ↔ IsAt [a, b] s 0 := by
  unfold Pre IsAt
  simp
theorem comm_iff (l : List UInt8) (x : Nat) : Pre [47, 42] (l.drop x) ↔ Comm l x := by
  rw [pre_at, two_at, getD_drop, getD_drop]
  unfold Comm
  have h1 := u8_eq (l.getD (x + 0) 0) 47 (by omega)
  have h2 := u8_eq (l.getD (x + (0 + 1)) 0) 42 (by omega)
  rw [show (42 : UInt8) = UInt8.ofNat 42 from rfl, show (47 : UInt8) = UInt8.ofNat 47 from rfl, h1, h2]
  simp only [List.length_drop, Nat.add_zero, Nat.zero_add]
  omega
theorem comm_pre {l : List UInt8} {x : Nat} (h : Pre [47, 42] (l.drop x)) : Comm l x := (comm_iff l x).1 h
theorem pre_comm {l : List UInt8} {x : Nat} (h : Comm l x) : Pre [47, 42] (l.drop x) := (comm_iff l x).2 h

set_option linter.unusedSimpArgs false in
set_option maxRecDepth 10000 in
theorem skipWhitespace_ret (l : List UInt8) (hl : l.length ≤ 1000) (B i : Nat) (hi : i ≤ l.length) (v1 v2 : Value) (h0 : Array Obj) (hB : h0[B]? = some (.cells [bs l, .int .i64 (i : Int), v1, v2].toArray 74 (0, 0))) : Ret Try.prog 46 [.pointer (some ⟨B, 0, none⟩)] h0 fun v h => ∃ r : Nat, (Skip l i r ∧ r ≤ l.length) ∧ v = .bool (decide (i < r)) ∧ Mem h0 h [(B, [bs l, .int .i64 (r : Int), v1, v2], 74)] [] := by
  have hm := Mem.one hB
  refine ret_of_tw (ρ := ((.pointer (some ⟨B, 0, none⟩)) :: undef :: undef :: undef :: undef :: undef :: undef :: undef :: undef :: undef :: undef :: undef :: undef :: undef :: undef :: undef :: undef :: undef :: undef :: undef :: undef :: undef :: undef :: undef :: undef :: undef :: undef :: undef :: undef :: undef :: undef :: undef :: undef :: undef :: undef :: undef :: undef :: undef :: undef :: undef :: undef :: undef :: undef :: undef :: undef :: undef :: undef :: undef :: undef :: undef :: undef :: undef :: undef :: undef :: undef :: undef :: undef :: undef :: undef :: undef :: undef :: undef :: undef :: [])) Try.func46 rfl rfl (fun E => ?_)
  refine tw_seq ?_
  refine tw_region (fun K hK => ?_)
  refine lw_pu (wan_none rfl) (pu_assign (by (simp only [ev, List.getD_cons_succ, List.getD_cons_zero]; exact rfl))) (by (simp only [setD, List.set_cons_succ, List.set_cons_zero]; exact rfl)) ?_
  refine lw_nil ?_; refine hK _ _ ?_; clear hK K
  refine tw_seq ?_
  refine tw_region (fun K hK => ?_)
  refine lw_pu (wan_none rfl) (pu_move (by (simp only [ev, List.getD_cons_succ, List.getD_cons_zero]; exact rfl))) (by (simp only [setD, List.set_cons_succ, List.set_cons_zero]; exact rfl)) ?_
  refine lw_pu (wan_none rfl) (pu_nilCheck_p rfl) (by (simp only [setD, List.set_cons_succ, List.set_cons_zero]; exact rfl)) ?_
  refine lw_pu (wan_none rfl) (pu_fieldAddr rfl (by exact fun w => siz _ w)) (by (simp only [setD, List.set_cons_succ, List.set_cons_zero]; exact rfl)) ?_
  refine lw_pu (wan_none rfl) (pu_load rfl (hm.mut (j := 0) rfl rfl)) (by (simp only [setD, List.set_cons_succ, List.set_cons_zero]; exact rfl)) ?_
  refine lw_pu (wan_none rfl) (pu_assign (by (simp only [ev, List.getD_cons_succ, List.getD_cons_zero]; exact rfl))) (by (simp only [setD, List.set_cons_succ, List.set_cons_zero]; exact rfl)) ?_
  refine lw_nil ?_; refine hK _ _ ?_; clear hK K
  refine tw_seq ?_
  refine tw_block ?_
  rotate_left 1
  -- left: loop
  refine tw_loopJ (X := Nat) (fun x => l.length - x) (fun x J => (.pointer (some ⟨B, 0, none⟩) :: J 1 :: J 2 :: .int .i64 (x : Int) :: J 4 :: J 5 :: J 6 :: J 7 :: J 8 :: J 9 :: J 10 :: J 11 :: J 12 :: J 13 :: J 14 :: J 15 :: J 16 :: J 17 :: J 18 :: J 19 :: J 20 :: J 21 :: J 22 :: J 23 :: J 24 :: J 25 :: J 26 :: J 27 :: J 28 :: J 29 :: J 30 :: J 31 :: J 32 :: J 33 :: J 34 :: J 35 :: J 36 :: J 37 :: J 38 :: J 39 :: J 40 :: J 41 :: J 42 :: J 43 :: J 44 :: J 45 :: J 46 :: J 47 :: J 48 :: J 49 :: J 50 :: J 51 :: J 52 :: J 53 :: J 54 :: J 55 :: J 56 :: J 57 :: J 58 :: J 59 :: J 60 :: J 61 :: J 62 :: [])) (fun x h => Mem h0 h [(B, [bs l, .int .i64 (i : Int), v1, v2], 74)] [] ∧ i ≤ x ∧ x ≤ l.length ∧ ∀ r, Skip l x r → Skip l i r) i rfl ⟨hm, by omega, by omega, fun r h => h⟩ ?_
  clear hm
  rintro x J h ⟨hm, hx0, hx, hsk⟩ IH
  refine tw_seq ?_
  refine tw_seq ?_
  refine tw_region (fun K hK => ?_)
  refine lw_pu (wan_none rfl) (pu_move (by (simp only [ev, List.getD_cons_succ, List.getD_cons_zero]; exact rfl))) (by (simp only [setD, List.set_cons_succ, List.set_cons_zero]; exact rfl)) ?_
  refine lw_pu (wan_none rfl) (pu_move (by (simp only [ev, List.getD_cons_succ, List.getD_cons_zero]; exact rfl))) (by (simp only [setD, List.set_cons_succ, List.set_cons_zero]; exact rfl)) ?_
  refine lw_pu (wan_none rfl) (pu_nilCheck_p rfl) (by (simp only [setD, List.set_cons_succ, List.set_cons_zero]; exact rfl)) ?_
  refine lw_pu (wan_none rfl) (pu_fieldAddr rfl (by exact fun w => siz _ w)) (by (simp only [setD, List.set_cons_succ, List.set_cons_zero]; exact rfl)) ?_
  refine lw_pu (wan_none rfl) (pu_load rfl (hm.mut (j := 0) rfl rfl)) (by (simp only [setD, List.set_cons_succ, List.set_cons_zero]; exact rfl)) ?_
  refine lw_pu (wan_none rfl) (pu_lens rfl rfl) (by (simp only [setD, List.set_cons_succ, List.set_cons_zero]; exact rfl)) ?_
  refine lw_pu (wan_none rfl) (pu_lss rfl rfl) (by (simp only [setD, List.set_cons_succ, List.set_cons_zero]; exact rfl)) ?_
  refine lw_nil ?_; refine hK _ _ ?_; clear hK K
  refine tw_cond_ds rfl (by (simp only [List.set_cons_succ, List.set_cons_zero]; exact rfl)) (by (simp only [List.set_cons_succ, List.set_cons_zero]; exact rfl)) (fun hq => ?_) (fun hq => ?_)
  refine tw_skip ?_
  refine tw_block ?_
  refine tw_seq ?_
  refine tw_seq ?_
  refine tw_region (fun K hK => ?_)
  refine lw_pu (wan_none rfl) (pu_move (by (simp only [ev, List.getD_cons_succ, List.getD_cons_zero]; exact rfl))) (by (simp only [setD, List.set_cons_succ, List.set_cons_zero]; exact rfl)) ?_
  refine lw_pu (wan_none rfl) (pu_nilCheck_p rfl) (by (simp only [setD, List.set_cons_succ, List.set_cons_zero]; exact rfl)) ?_
  refine lw_pu (wan_none rfl) (pu_fieldAddr rfl (by exact fun w => siz _ w)) (by (simp only [setD, List.set_cons_succ, List.set_cons_zero]; exact rfl)) ?_
  refine lw_pu (wan_none rfl) (pu_load rfl (hm.mut (j := 0) rfl rfl)) (by (simp only [setD, List.set_cons_succ, List.set_cons_zero]; exact rfl)) ?_
  refine lw_pu (wan_none rfl) (pu_move (by (simp only [ev, List.getD_cons_succ, List.getD_cons_zero]; exact rfl))) (by (simp only [setD, List.set_cons_succ, List.set_cons_zero]; exact rfl)) ?_
  refine lw_pu (wan_none rfl) (pu_index rfl rfl (by first | omega | (have := (‹Pre _ _› : Pre _ _).1; simp at this; omega))) (by (simp only [setD, List.set_cons_succ, List.set_cons_zero]; exact rfl)) ?_
  refine lw_nil ?_; refine hK _ _ ?_; clear hK K
  refine tw_block ?_
  refine tw_seq ?_
  refine tw_seq ?_
  refine tw_region (fun K hK => ?_)
  refine lw_pu (wan_none rfl) (pu_eql rfl rfl) (by (simp only [setD, List.set_cons_succ, List.set_cons_zero]; exact rfl)) ?_
  refine lw_pu (wan_none rfl) (pu_assign (by (simp only [ev, List.getD_cons_succ, List.getD_cons_zero]; exact rfl))) (by (simp only [setD, List.set_cons_succ, List.set_cons_zero]; exact rfl)) ?_
  refine lw_nil ?_; refine hK _ _ ?_; clear hK K
  refine tw_cond_ds rfl (by (simp only [List.set_cons_succ, List.set_cons_zero]; exact rfl)) (by (simp only [List.set_cons_succ, List.set_cons_zero]; exact rfl)) (fun hq => ?_) (fun hq => ?_)
  refine tw_skip ?_
  refine tw_cond_t rfl ?_
  refine tw_seq ?_
  refine tw_region (fun K hK => ?_)
  refine lw_pu (wan_none rfl) (pu_move (by (simp only [ev, List.getD_cons_succ, List.getD_cons_zero]; exact rfl))) (by (simp only [setD, List.set_cons_succ, List.set_cons_zero]; exact rfl)) ?_
  first | refine lw_pu (wan_none rfl) (pu_addn (n := 1) rfl rfl (by omega)) (by (simp only [setD, List.set_cons_succ, List.set_cons_zero]; exact rfl)) ?_ | refine lw_pu (wan_none rfl) (pu_addi rfl rfl (by omega) (by omega)) (by (simp only [setD, List.set_cons_succ, List.set_cons_zero]; exact rfl)) ?_ | refine lw_pu (wan_none rfl) (pu_add rfl rfl) (by (simp only [setD, List.set_cons_succ, List.set_cons_zero]; exact rfl)) ?_
  refine lw_pu (wan_none rfl) (pu_assign (by (simp only [ev, List.getD_cons_succ, List.getD_cons_zero]; exact rfl))) (by (simp only [setD, List.set_cons_succ, List.set_cons_zero]; exact rfl)) ?_
  refine lw_nil ?_; refine hK _ _ ?_; clear hK K
  refine tw_exit rfl ?_
  rotate_left 1
  refine tw_seq ?_
  refine tw_region (fun K hK => ?_)
  refine lw_pu (wan_none rfl) (pu_eql rfl rfl) (by (simp only [setD, List.set_cons_succ, List.set_cons_zero]; exact rfl)) ?_
  refine lw_pu (wan_none rfl) (pu_assign (by (simp only [ev, List.getD_cons_succ, List.getD_cons_zero]; exact rfl))) (by (simp only [setD, List.set_cons_succ, List.set_cons_zero]; exact rfl)) ?_
  refine lw_nil ?_; refine hK _ _ ?_; clear hK K
  refine tw_cond_ds rfl (by (simp only [List.set_cons_succ, List.set_cons_zero]; exact rfl)) (by (simp only [List.set_cons_succ, List.set_cons_zero]; exact rfl)) (fun hq => ?_) (fun hq => ?_)
  refine tw_skip ?_
  refine tw_cond_t rfl ?_
  refine tw_seq ?_
  refine tw_region (fun K hK => ?_)
  refine lw_pu (wan_none rfl) (pu_move (by (simp only [ev, List.getD_cons_succ, List.getD_cons_zero]; exact rfl))) (by (simp only [setD, List.set_cons_succ, List.set_cons_zero]; exact rfl)) ?_
  first | refine lw_pu (wan_none rfl) (pu_addn (n := 1) rfl rfl (by omega)) (by (simp only [setD, List.set_cons_succ, List.set_cons_zero]; exact rfl)) ?_ | refine lw_pu (wan_none rfl) (pu_addi rfl rfl (by omega) (by omega)) (by (simp only [setD, List.set_cons_succ, List.set_cons_zero]; exact rfl)) ?_ | refine lw_pu (wan_none rfl) (pu_add rfl rfl) (by (simp only [setD, List.set_cons_succ, List.set_cons_zero]; exact rfl)) ?_
  refine lw_pu (wan_none rfl) (pu_assign (by (simp only [ev, List.getD_cons_succ, List.getD_cons_zero]; exact rfl))) (by (simp only [setD, List.set_cons_succ, List.set_cons_zero]; exact rfl)) ?_
  refine lw_nil ?_; refine hK _ _ ?_; clear hK K
  refine tw_exit rfl ?_
  rotate_left 1
  refine tw_seq ?_
  refine tw_region (fun K hK => ?_)
  refine lw_pu (wan_none rfl) (pu_eql rfl rfl) (by (simp only [setD, List.set_cons_succ, List.set_cons_zero]; exact rfl)) ?_
  refine lw_pu (wan_none rfl) (pu_assign (by (simp only [ev, List.getD_cons_succ, List.getD_cons_zero]; exact rfl))) (by (simp only [setD, List.set_cons_succ, List.set_cons_zero]; exact rfl)) ?_
  refine lw_nil ?_; refine hK _ _ ?_; clear hK K
  refine tw_cond_ds rfl (by (simp only [List.set_cons_succ, List.set_cons_zero]; exact rfl)) (by (simp only [List.set_cons_succ, List.set_cons_zero]; exact rfl)) (fun hq => ?_) (fun hq => ?_)
  refine tw_skip ?_
  refine tw_cond_t rfl ?_
  refine tw_seq ?_
  refine tw_region (fun K hK => ?_)
  refine lw_pu (wan_none rfl) (pu_move (by (simp only [ev, List.getD_cons_succ, List.getD_cons_zero]; exact rfl))) (by (simp only [setD, List.set_cons_succ, List.set_cons_zero]; exact rfl)) ?_
  first | refine lw_pu (wan_none rfl) (pu_addn (n := 1) rfl rfl (by omega)) (by (simp only [setD, List.set_cons_succ, List.set_cons_zero]; exact rfl)) ?_ | refine lw_pu (wan_none rfl) (pu_addi rfl rfl (by omega) (by omega)) (by (simp only [setD, List.set_cons_succ, List.set_cons_zero]; exact rfl)) ?_ | refine lw_pu (wan_none rfl) (pu_add rfl rfl) (by (simp only [setD, List.set_cons_succ, List.set_cons_zero]; exact rfl)) ?_
  refine lw_pu (wan_none rfl) (pu_assign (by (simp only [ev, List.getD_cons_succ, List.getD_cons_zero]; exact rfl))) (by (simp only [setD, List.set_cons_succ, List.set_cons_zero]; exact rfl)) ?_
  refine lw_nil ?_; refine hK _ _ ?_; clear hK K
  refine tw_exit rfl ?_
  rotate_left 1
  refine tw_seq ?_
  refine tw_region (fun K hK => ?_)
  refine lw_pu (wan_none rfl) (pu_eql rfl rfl) (by (simp only [setD, List.set_cons_succ, List.set_cons_zero]; exact rfl)) ?_
  refine lw_pu (wan_none rfl) (pu_assign (by (simp only [ev, List.getD_cons_succ, List.getD_cons_zero]; exact rfl))) (by (simp only [setD, List.set_cons_succ, List.set_cons_zero]; exact rfl)) ?_
  refine lw_nil ?_; refine hK _ _ ?_; clear hK K
  refine tw_cond_ds rfl (by (simp only [List.set_cons_succ, List.set_cons_zero]; exact rfl)) (by (simp only [List.set_cons_succ, List.set_cons_zero]; exact rfl)) (fun hq => ?_) (fun hq => ?_)
  refine tw_skip ?_
  refine tw_cond_t rfl ?_
  refine tw_seq ?_
  refine tw_region (fun K hK => ?_)
  refine lw_pu (wan_none rfl) (pu_move (by (simp only [ev, List.getD_cons_succ, List.getD_cons_zero]; exact rfl))) (by (simp only [setD, List.set_cons_succ, List.set_cons_zero]; exact rfl)) ?_
  first | refine lw_pu (wan_none rfl) (pu_addn (n := 1) rfl rfl (by omega)) (by (simp only [setD, List.set_cons_succ, List.set_cons_zero]; exact rfl)) ?_ | refine lw_pu (wan_none rfl) (pu_addi rfl rfl (by omega) (by omega)) (by (simp only [setD, List.set_cons_succ, List.set_cons_zero]; exact rfl)) ?_ | refine lw_pu (wan_none rfl) (pu_add rfl rfl) (by (simp only [setD, List.set_cons_succ, List.set_cons_zero]; exact rfl)) ?_
  refine lw_pu (wan_none rfl) (pu_assign (by (simp only [ev, List.getD_cons_succ, List.getD_cons_zero]; exact rfl))) (by (simp only [setD, List.set_cons_succ, List.set_cons_zero]; exact rfl)) ?_
  refine lw_nil ?_; refine hK _ _ ?_; clear hK K
  refine tw_exit rfl ?_
  rotate_left 1
  refine tw_region (fun K hK => ?_)
  refine lw_pu (wan_none rfl) (pu_eql rfl rfl) (by (simp only [setD, List.set_cons_succ, List.set_cons_zero]; exact rfl)) ?_
  refine lw_pu (wan_none rfl) (pu_assign (by (simp only [ev, List.getD_cons_succ, List.getD_cons_zero]; exact rfl))) (by (simp only [setD, List.set_cons_succ, List.set_cons_zero]; exact rfl)) ?_
  refine lw_nil ?_; refine hK _ _ ?_; clear hK K
  refine tw_cond_ds rfl (by (simp only [List.set_cons_succ, List.set_cons_zero]; exact rfl)) (by (simp only [List.set_cons_succ, List.set_cons_zero]; exact rfl)) (fun hq => ?_) (fun hq => ?_)
  refine tw_seq ?_
  refine tw_region (fun K hK => ?_)
  refine lw_pu (wan_none rfl) (pu_move (by (simp only [ev, List.getD_cons_succ, List.getD_cons_zero]; exact rfl))) (by (simp only [setD, List.set_cons_succ, List.set_cons_zero]; exact rfl)) ?_
  first | refine lw_pu (wan_none rfl) (pu_addn (n := 1) rfl rfl (by omega)) (by (simp only [setD, List.set_cons_succ, List.set_cons_zero]; exact rfl)) ?_ | refine lw_pu (wan_none rfl) (pu_addi rfl rfl (by omega) (by omega)) (by (simp only [setD, List.set_cons_succ, List.set_cons_zero]; exact rfl)) ?_ | refine lw_pu (wan_none rfl) (pu_add rfl rfl) (by (simp only [setD, List.set_cons_succ, List.set_cons_zero]; exact rfl)) ?_
  refine lw_pu (wan_none rfl) (pu_assign (by (simp only [ev, List.getD_cons_succ, List.getD_cons_zero]; exact rfl))) (by (simp only [setD, List.set_cons_succ, List.set_cons_zero]; exact rfl)) ?_
  refine lw_nil ?_; refine hK _ _ ?_; clear hK K
  refine tw_exit rfl ?_
  rotate_left 1
  refine tw_seq ?_
  refine tw_region (fun K hK => ?_)
  refine lw_pu (wan_none rfl) (pu_eql rfl rfl) (by (simp only [setD, List.set_cons_succ, List.set_cons_zero]; exact rfl)) ?_
  refine lw_pu (wan_none rfl) (pu_assign (by (simp only [ev, List.getD_cons_succ, List.getD_cons_zero]; exact rfl))) (by (simp only [setD, List.set_cons_succ, List.set_cons_zero]; exact rfl)) ?_
  refine lw_nil ?_; refine hK _ _ ?_; clear hK K
  refine tw_cond_ds rfl (by (simp only [List.set_cons_succ, List.set_cons_zero]; exact rfl)) (by (simp only [List.set_cons_succ, List.set_cons_zero]; exact rfl)) (fun hq => ?_) (fun hq => ?_)
  refine tw_seq ?_
  refine tw_region (fun K hK => ?_)
  refine lw_pu (wan_none rfl) (pu_move (by (simp only [ev, List.getD_cons_succ, List.getD_cons_zero]; exact rfl))) (by (simp only [setD, List.set_cons_succ, List.set_cons_zero]; exact rfl)) ?_
  refine lw_pu (wan_none rfl) (pu_nilCheck_p rfl) (by (simp only [setD, List.set_cons_succ, List.set_cons_zero]; exact rfl)) ?_
  refine lw_pu (wan_none rfl) (pu_fieldAddr rfl (by exact fun w => siz _ w)) (by (simp only [setD, List.set_cons_succ, List.set_cons_zero]; exact rfl)) ?_
  refine lw_pu (wan_none rfl) (pu_load rfl (hm.mut (j := 0) rfl rfl)) (by (simp only [setD, List.set_cons_succ, List.set_cons_zero]; exact rfl)) ?_
  refine lw_pu (wan_none rfl) (pu_move (by (simp only [ev, List.getD_cons_succ, List.getD_cons_zero]; exact rfl))) (by (simp only [setD, List.set_cons_succ, List.set_cons_zero]; exact rfl)) ?_
  refine lw_pu (wan_none rfl) (pu_slices_lo rfl rfl (by first | omega | (have := (‹Pre _ _› : Pre _ _).1; simp at this; omega))) (by (simp only [setD, List.set_cons_succ, List.set_cons_zero]; exact rfl)) ?_
  refine lw_calx (wan_none rfl) (hasPrefix_ret _ _ _) hm (by (simp only [setD, List.set_cons_succ, List.set_cons_zero]; exact rfl)) ?_; clear hm; intro h hm
  refine lw_nil ?_; refine hK _ _ ?_; clear hK K
  refine tw_cond_ds rfl (by (simp only [List.set_cons_succ, List.set_cons_zero]; exact rfl)) (by (simp only [List.set_cons_succ, List.set_cons_zero]; exact rfl)) (fun hq => ?_) (fun hq => ?_)
  refine tw_seq ?_
  refine tw_region (fun K hK => ?_)
  refine lw_pu (wan_none rfl) (pu_move (by (simp only [ev, List.getD_cons_succ, List.getD_cons_zero]; exact rfl))) (by (simp only [setD, List.set_cons_succ, List.set_cons_zero]; exact rfl)) ?_
  refine lw_pu (wan_none rfl) (pu_nilCheck_p rfl) (by (simp only [setD, List.set_cons_succ, List.set_cons_zero]; exact rfl)) ?_
  refine lw_pu (wan_none rfl) (pu_fieldAddr rfl (by exact fun w => siz _ w)) (by (simp only [setD, List.set_cons_succ, List.set_cons_zero]; exact rfl)) ?_
  refine lw_pu (wan_none rfl) (pu_load rfl (hm.mut (j := 0) rfl rfl)) (by (simp only [setD, List.set_cons_succ, List.set_cons_zero]; exact rfl)) ?_
  refine lw_pu (wan_none rfl) (pu_move (by (simp only [ev, List.getD_cons_succ, List.getD_cons_zero]; exact rfl))) (by (simp only [setD, List.set_cons_succ, List.set_cons_zero]; exact rfl)) ?_
  first | refine lw_pu (wan_none rfl) (pu_addn (n := 2) rfl rfl (by omega)) (by (simp only [setD, List.set_cons_succ, List.set_cons_zero]; exact rfl)) ?_ | refine lw_pu (wan_none rfl) (pu_addi rfl rfl (by omega) (by omega)) (by (simp only [setD, List.set_cons_succ, List.set_cons_zero]; exact rfl)) ?_ | refine lw_pu (wan_none rfl) (pu_add rfl rfl) (by (simp only [setD, List.set_cons_succ, List.set_cons_zero]; exact rfl)) ?_
  refine lw_pu (wan_none rfl) (pu_slices_lo rfl rfl (by first | omega | (have := (‹Pre _ _› : Pre _ _).1; simp at this; omega))) (by (simp only [setD, List.set_cons_succ, List.set_cons_zero]; exact rfl)) ?_
  (refine lw_calr (wan_none rfl) (zzIndex_ret _ _ (by simp; omega) (by simp) _) hm ?_; clear hm; rintro _ h ⟨r76, rfl, hr76⟩ hm; have hb1 := hr76.lo; have hb2 := hr76.hi; rw [List.length_drop] at hb2; refine lw_norm (by (simp only [setD, List.set_cons_succ, List.set_cons_zero]; exact rfl)) ?_)
  refine lw_pu (wan_none rfl) (pu_assign (by (simp only [ev, List.getD_cons_succ, List.getD_cons_zero]; exact rfl))) (by (simp only [setD, List.set_cons_succ, List.set_cons_zero]; exact rfl)) ?_
  refine lw_nil ?_; refine hK _ _ ?_; clear hK K
  refine tw_seq ?_
  refine tw_region (fun K hK => ?_)
  refine lw_pu (wan_none rfl) (pu_move (by (simp only [ev, List.getD_cons_succ, List.getD_cons_zero]; exact rfl))) (by (simp only [setD, List.set_cons_succ, List.set_cons_zero]; exact rfl)) ?_
  refine lw_pu (wan_none rfl) (pu_neq rfl rfl) (by (simp only [setD, List.set_cons_succ, List.set_cons_zero]; exact rfl)) ?_
  refine lw_nil ?_; refine hK _ _ ?_; clear hK K
  refine tw_cond_ds rfl (by (simp only [List.set_cons_succ, List.set_cons_zero]; exact rfl)) (by (simp only [List.set_cons_succ, List.set_cons_zero]; exact rfl)) (fun hq => ?_) (fun hq => ?_)
  refine tw_seq ?_
  refine tw_region (fun K hK => ?_)
  refine lw_pu (wan_none rfl) (pu_move (by (simp only [ev, List.getD_cons_succ, List.getD_cons_zero]; exact rfl))) (by (simp only [setD, List.set_cons_succ, List.set_cons_zero]; exact rfl)) ?_
  refine lw_pu (wan_none rfl) (pu_move (by (simp only [ev, List.getD_cons_succ, List.getD_cons_zero]; exact rfl))) (by (simp only [setD, List.set_cons_succ, List.set_cons_zero]; exact rfl)) ?_
  first | refine lw_pu (wan_none rfl) (pu_addn (n := 4) rfl rfl (by omega)) (by (simp only [setD, List.set_cons_succ, List.set_cons_zero]; exact rfl)) ?_ | refine lw_pu (wan_none rfl) (pu_addi rfl rfl (by omega) (by omega)) (by (simp only [setD, List.set_cons_succ, List.set_cons_zero]; exact rfl)) ?_ | refine lw_pu (wan_none rfl) (pu_add rfl rfl) (by (simp only [setD, List.set_cons_succ, List.set_cons_zero]; exact rfl)) ?_
  first | refine lw_pu (wan_none rfl) (pu_addn rfl rfl (by omega)) (by (simp only [setD, List.set_cons_succ, List.set_cons_zero]; exact rfl)) ?_ | refine lw_pu (wan_none rfl) (pu_addi rfl rfl (by omega) (by omega)) (by (simp only [setD, List.set_cons_succ, List.set_cons_zero]; exact rfl)) ?_ | refine lw_pu (wan_none rfl) (pu_add rfl rfl) (by (simp only [setD, List.set_cons_succ, List.set_cons_zero]; exact rfl)) ?_
  refine lw_pu (wan_none rfl) (pu_assign (by (simp only [ev, List.getD_cons_succ, List.getD_cons_zero]; exact rfl))) (by (simp only [setD, List.set_cons_succ, List.set_cons_zero]; exact rfl)) ?_
  refine lw_nil ?_; refine hK _ _ ?_; clear hK K
  refine tw_exit rfl ?_
  rotate_left 1
  refine tw_skip ?_
  refine tw_inBlock ?_
  refine tw_exit rfl ?_
  refine tw_seq ?_
  refine tw_seq ?_
  refine tw_region (fun K hK => ?_)
  refine lw_pu (wan_none rfl) (pu_move (by (simp only [ev, List.getD_cons_succ, List.getD_cons_zero]; exact rfl))) (by (simp only [setD, List.set_cons_succ, List.set_cons_zero]; exact rfl)) ?_
  refine lw_pu (wan_none rfl) (pu_move (by (simp only [ev, List.getD_cons_succ, List.getD_cons_zero]; exact rfl))) (by (simp only [setD, List.set_cons_succ, List.set_cons_zero]; exact rfl)) ?_
  refine lw_pu (wan_none rfl) (pu_nilCheck_p rfl) (by (simp only [setD, List.set_cons_succ, List.set_cons_zero]; exact rfl)) ?_
  refine lw_pu (wan_none rfl) (pu_fieldAddr rfl (by exact fun w => siz _ w)) (by (simp only [setD, List.set_cons_succ, List.set_cons_zero]; exact rfl)) ?_
  refine lw_pu (wan_none rfl) (pu_load rfl (hm.mut (j := 0) rfl rfl)) (by (simp only [setD, List.set_cons_succ, List.set_cons_zero]; exact rfl)) ?_
  refine lw_pu (wan_none rfl) (pu_gtr rfl rfl) (by (simp only [setD, List.set_cons_succ, List.set_cons_zero]; exact rfl)) ?_
  refine lw_nil ?_; refine hK _ _ ?_; clear hK K
  refine tw_cond_ds rfl (by (simp only [List.set_cons_succ, List.set_cons_zero]; exact rfl)) (by (simp only [List.set_cons_succ, List.set_cons_zero]; exact rfl)) (fun hq => ?_) (fun hq => ?_)
  refine tw_seq ?_
  refine tw_region (fun K hK => ?_)
  refine lw_pu (wan_none rfl) (pu_move (by (simp only [ev, List.getD_cons_succ, List.getD_cons_zero]; exact rfl))) (by (simp only [setD, List.set_cons_succ, List.set_cons_zero]; exact rfl)) ?_
  refine lw_pu (wan_none rfl) (pu_move (by (simp only [ev, List.getD_cons_succ, List.getD_cons_zero]; exact rfl))) (by (simp only [setD, List.set_cons_succ, List.set_cons_zero]; exact rfl)) ?_
  refine lw_pu (wan_none rfl) (pu_nilCheck_p rfl) (by (simp only [setD, List.set_cons_succ, List.set_cons_zero]; exact rfl)) ?_
  refine lw_pu (wan_none rfl) (pu_fieldAddr rfl (by exact fun w => siz _ w)) (by (simp only [setD, List.set_cons_succ, List.set_cons_zero]; exact rfl)) ?_
  refine lw_store_mut (j := 0) (wan_none rfl) rfl (by (simp only [ev, List.getD_cons_succ, List.getD_cons_zero]; exact rfl)) rfl hm rfl (by simp) (by (simp only [List.set_cons_succ, List.set_cons_zero]; exact rfl)) (by (simp only [setD, List.set_cons_succ, List.set_cons_zero]; exact rfl)) ?_; clear hm; intro h hm
  refine lw_nil ?_; refine hK _ _ ?_; clear hK K
  refine tw_seq ?_
  refine tw_region (fun K hK => ?_)
  refine lw_pu (wan_none rfl) (pu_assign (by (simp only [ev, List.getD_cons_succ, List.getD_cons_zero]; exact rfl))) (by (simp only [setD, List.set_cons_succ, List.set_cons_zero]; exact rfl)) ?_
  refine lw_nil ?_; refine hK _ _ ?_; clear hK K
  refine tw_ret1 Try.func46 Try.results46 (by (simp only [ev, List.getD_cons_succ, List.getD_cons_zero]; exact rfl)) ?_
  rotate_left 1
  refine tw_skip ?_
  refine tw_seq ?_
  refine tw_region (fun K hK => ?_)
  refine lw_pu (wan_none rfl) (pu_assign (by (simp only [ev, List.getD_cons_succ, List.getD_cons_zero]; exact rfl))) (by (simp only [setD, List.set_cons_succ, List.set_cons_zero]; exact rfl)) ?_
  refine lw_nil ?_; refine hK _ _ ?_; clear hK K
  refine tw_ret1 Try.func46 Try.results46 (by (simp only [ev, List.getD_cons_succ, List.getD_cons_zero]; exact rfl)) ?_
  rotate_left 1
  refine tw_skip ?_
  refine tw_inBlock ?_
  refine tw_exit rfl ?_
  refine tw_seq ?_
  refine tw_seq ?_
  refine tw_region (fun K hK => ?_)
  refine lw_pu (wan_none rfl) (pu_move (by (simp only [ev, List.getD_cons_succ, List.getD_cons_zero]; exact rfl))) (by (simp only [setD, List.set_cons_succ, List.set_cons_zero]; exact rfl)) ?_
  refine lw_pu (wan_none rfl) (pu_move (by (simp only [ev, List.getD_cons_succ, List.getD_cons_zero]; exact rfl))) (by (simp only [setD, List.set_cons_succ, List.set_cons_zero]; exact rfl)) ?_
  refine lw_pu (wan_none rfl) (pu_nilCheck_p rfl) (by (simp only [setD, List.set_cons_succ, List.set_cons_zero]; exact rfl)) ?_
  refine lw_pu (wan_none rfl) (pu_fieldAddr rfl (by exact fun w => siz _ w)) (by (simp only [setD, List.set_cons_succ, List.set_cons_zero]; exact rfl)) ?_
  refine lw_pu (wan_none rfl) (pu_load rfl (hm.mut (j := 0) rfl rfl)) (by (simp only [setD, List.set_cons_succ, List.set_cons_zero]; exact rfl)) ?_
  refine lw_pu (wan_none rfl) (pu_gtr rfl rfl) (by (simp only [setD, List.set_cons_succ, List.set_cons_zero]; exact rfl)) ?_
  refine lw_nil ?_; refine hK _ _ ?_; clear hK K
  refine tw_cond_ds rfl (by (simp only [List.set_cons_succ, List.set_cons_zero]; exact rfl)) (by (simp only [List.set_cons_succ, List.set_cons_zero]; exact rfl)) (fun hq => ?_) (fun hq => ?_)
  refine tw_seq ?_
  refine tw_region (fun K hK => ?_)
  refine lw_pu (wan_none rfl) (pu_move (by (simp only [ev, List.getD_cons_succ, List.getD_cons_zero]; exact rfl))) (by (simp only [setD, List.set_cons_succ, List.set_cons_zero]; exact rfl)) ?_
  refine lw_pu (wan_none rfl) (pu_move (by (simp only [ev, List.getD_cons_succ, List.getD_cons_zero]; exact rfl))) (by (simp only [setD, List.set_cons_succ, List.set_cons_zero]; exact rfl)) ?_
  refine lw_pu (wan_none rfl) (pu_nilCheck_p rfl) (by (simp only [setD, List.set_cons_succ, List.set_cons_zero]; exact rfl)) ?_
  refine lw_pu (wan_none rfl) (pu_fieldAddr rfl (by exact fun w => siz _ w)) (by (simp only [setD, List.set_cons_succ, List.set_cons_zero]; exact rfl)) ?_
  refine lw_store_mut (j := 0) (wan_none rfl) rfl (by (simp only [ev, List.getD_cons_succ, List.getD_cons_zero]; exact rfl)) rfl hm rfl (by simp) (by (simp only [List.set_cons_succ, List.set_cons_zero]; exact rfl)) (by (simp only [setD, List.set_cons_succ, List.set_cons_zero]; exact rfl)) ?_; clear hm; intro h hm
  refine lw_nil ?_; refine hK _ _ ?_; clear hK K
  refine tw_seq ?_
  refine tw_region (fun K hK => ?_)
  refine lw_pu (wan_none rfl) (pu_assign (by (simp only [ev, List.getD_cons_succ, List.getD_cons_zero]; exact rfl))) (by (simp only [setD, List.set_cons_succ, List.set_cons_zero]; exact rfl)) ?_
  refine lw_nil ?_; refine hK _ _ ?_; clear hK K
  refine tw_ret1 Try.func46 Try.results46 (by (simp only [ev, List.getD_cons_succ, List.getD_cons_zero]; exact rfl)) ?_
  rotate_left 1
  refine tw_skip ?_
  refine tw_seq ?_
  refine tw_region (fun K hK => ?_)
  refine lw_pu (wan_none rfl) (pu_assign (by (simp only [ev, List.getD_cons_succ, List.getD_cons_zero]; exact rfl))) (by (simp only [setD, List.set_cons_succ, List.set_cons_zero]; exact rfl)) ?_
  refine lw_nil ?_; refine hK _ _ ?_; clear hK K
  refine tw_ret1 Try.func46 Try.results46 (by (simp only [ev, List.getD_cons_succ, List.getD_cons_zero]; exact rfl)) ?_
  rotate_left 1
  refine tw_skip ?_
  refine tw_inBlock ?_
  refine tw_exit rfl ?_
  refine tw_seq ?_
  refine tw_seq ?_
  refine tw_region (fun K hK => ?_)
  refine lw_pu (wan_none rfl) (pu_move (by (simp only [ev, List.getD_cons_succ, List.getD_cons_zero]; exact rfl))) (by (simp only [setD, List.set_cons_succ, List.set_cons_zero]; exact rfl)) ?_
  refine lw_pu (wan_none rfl) (pu_move (by (simp only [ev, List.getD_cons_succ, List.getD_cons_zero]; exact rfl))) (by (simp only [setD, List.set_cons_succ, List.set_cons_zero]; exact rfl)) ?_
  refine lw_pu (wan_none rfl) (pu_nilCheck_p rfl) (by (simp only [setD, List.set_cons_succ, List.set_cons_zero]; exact rfl)) ?_
  refine lw_pu (wan_none rfl) (pu_fieldAddr rfl (by exact fun w => siz _ w)) (by (simp only [setD, List.set_cons_succ, List.set_cons_zero]; exact rfl)) ?_
  refine lw_pu (wan_none rfl) (pu_load rfl (hm.mut (j := 0) rfl rfl)) (by (simp only [setD, List.set_cons_succ, List.set_cons_zero]; exact rfl)) ?_
  refine lw_pu (wan_none rfl) (pu_gtr rfl rfl) (by (simp only [setD, List.set_cons_succ, List.set_cons_zero]; exact rfl)) ?_
  refine lw_nil ?_; refine hK _ _ ?_; clear hK K
  refine tw_cond_ds rfl (by (simp only [List.set_cons_succ, List.set_cons_zero]; exact rfl)) (by (simp only [List.set_cons_succ, List.set_cons_zero]; exact rfl)) (fun hq => ?_) (fun hq => ?_)
  refine tw_seq ?_
  refine tw_region (fun K hK => ?_)
  refine lw_pu (wan_none rfl) (pu_move (by (simp only [ev, List.getD_cons_succ, List.getD_cons_zero]; exact rfl))) (by (simp only [setD, List.set_cons_succ, List.set_cons_zero]; exact rfl)) ?_
  refine lw_pu (wan_none rfl) (pu_move (by (simp only [ev, List.getD_cons_succ, List.getD_cons_zero]; exact rfl))) (by (simp only [setD, List.set_cons_succ, List.set_cons_zero]; exact rfl)) ?_
  refine lw_pu (wan_none rfl) (pu_nilCheck_p rfl) (by (simp only [setD, List.set_cons_succ, List.set_cons_zero]; exact rfl)) ?_
  refine lw_pu (wan_none rfl) (pu_fieldAddr rfl (by exact fun w => siz _ w)) (by (simp only [setD, List.set_cons_succ, List.set_cons_zero]; exact rfl)) ?_
  refine lw_store_mut (j := 0) (wan_none rfl) rfl (by (simp only [ev, List.getD_cons_succ, List.getD_cons_zero]; exact rfl)) rfl hm rfl (by simp) (by (simp only [List.set_cons_succ, List.set_cons_zero]; exact rfl)) (by (simp only [setD, List.set_cons_succ, List.set_cons_zero]; exact rfl)) ?_; clear hm; intro h hm
  refine lw_nil ?_; refine hK _ _ ?_; clear hK K
  refine tw_seq ?_
  refine tw_region (fun K hK => ?_)
  refine lw_pu (wan_none rfl) (pu_assign (by (simp only [ev, List.getD_cons_succ, List.getD_cons_zero]; exact rfl))) (by (simp only [setD, List.set_cons_succ, List.set_cons_zero]; exact rfl)) ?_
  refine lw_nil ?_; refine hK _ _ ?_; clear hK K
  refine tw_ret1 Try.func46 Try.results46 (by (simp only [ev, List.getD_cons_succ, List.getD_cons_zero]; exact rfl)) ?_
  rotate_left 1
  refine tw_skip ?_
  refine tw_seq ?_
  refine tw_region (fun K hK => ?_)
  refine lw_pu (wan_none rfl) (pu_assign (by (simp only [ev, List.getD_cons_succ, List.getD_cons_zero]; exact rfl))) (by (simp only [setD, List.set_cons_succ, List.set_cons_zero]; exact rfl)) ?_
  refine lw_nil ?_; refine hK _ _ ?_; clear hK K
  refine tw_ret1 Try.func46 Try.results46 (by (simp only [ev, List.getD_cons_succ, List.getD_cons_zero]; exact rfl)) ?_
  rotate_left 1
  refine tw_exit rfl ?_
  refine tw_seq ?_
  refine tw_seq ?_
  refine tw_region (fun K hK => ?_)
  refine lw_pu (wan_none rfl) (pu_move (by (simp only [ev, List.getD_cons_succ, List.getD_cons_zero]; exact rfl))) (by (simp only [setD, List.set_cons_succ, List.set_cons_zero]; exact rfl)) ?_
  refine lw_pu (wan_none rfl) (pu_move (by (simp only [ev, List.getD_cons_succ, List.getD_cons_zero]; exact rfl))) (by (simp only [setD, List.set_cons_succ, List.set_cons_zero]; exact rfl)) ?_
  refine lw_pu (wan_none rfl) (pu_nilCheck_p rfl) (by (simp only [setD, List.set_cons_succ, List.set_cons_zero]; exact rfl)) ?_
  refine lw_pu (wan_none rfl) (pu_fieldAddr rfl (by exact fun w => siz _ w)) (by (simp only [setD, List.set_cons_succ, List.set_cons_zero]; exact rfl)) ?_
  refine lw_pu (wan_none rfl) (pu_load rfl (hm.mut (j := 0) rfl rfl)) (by (simp only [setD, List.set_cons_succ, List.set_cons_zero]; exact rfl)) ?_
  refine lw_pu (wan_none rfl) (pu_gtr rfl rfl) (by (simp only [setD, List.set_cons_succ, List.set_cons_zero]; exact rfl)) ?_
  refine lw_nil ?_; refine hK _ _ ?_; clear hK K
  refine tw_cond_ds rfl (by (simp only [List.set_cons_succ, List.set_cons_zero]; exact rfl)) (by (simp only [List.set_cons_succ, List.set_cons_zero]; exact rfl)) (fun hq => ?_) (fun hq => ?_)
  refine tw_seq ?_
  refine tw_region (fun K hK => ?_)
  refine lw_pu (wan_none rfl) (pu_move (by (simp only [ev, List.getD_cons_succ, List.getD_cons_zero]; exact rfl))) (by (simp only [setD, List.set_cons_succ, List.set_cons_zero]; exact rfl)) ?_
  refine lw_pu (wan_none rfl) (pu_move (by (simp only [ev, List.getD_cons_succ, List.getD_cons_zero]; exact rfl))) (by (simp only [setD, List.set_cons_succ, List.set_cons_zero]; exact rfl)) ?_
  refine lw_pu (wan_none rfl) (pu_nilCheck_p rfl) (by (simp only [setD, List.set_cons_succ, List.set_cons_zero]; exact rfl)) ?_
  refine lw_pu (wan_none rfl) (pu_fieldAddr rfl (by exact fun w => siz _ w)) (by (simp only [setD, List.set_cons_succ, List.set_cons_zero]; exact rfl)) ?_
  refine lw_store_mut (j := 0) (wan_none rfl) rfl (by (simp only [ev, List.getD_cons_succ, List.getD_cons_zero]; exact rfl)) rfl hm rfl (by simp) (by (simp only [List.set_cons_succ, List.set_cons_zero]; exact rfl)) (by (simp only [setD, List.set_cons_succ, List.set_cons_zero]; exact rfl)) ?_; clear hm; intro h hm
  refine lw_nil ?_; refine hK _ _ ?_; clear hK K
  refine tw_seq ?_
  refine tw_region (fun K hK => ?_)
  refine lw_pu (wan_none rfl) (pu_assign (by (simp only [ev, List.getD_cons_succ, List.getD_cons_zero]; exact rfl))) (by (simp only [setD, List.set_cons_succ, List.set_cons_zero]; exact rfl)) ?_
  refine lw_nil ?_; refine hK _ _ ?_; clear hK K
  refine tw_ret1 Try.func46 Try.results46 (by (simp only [ev, List.getD_cons_succ, List.getD_cons_zero]; exact rfl)) ?_
  rotate_left 1
  refine tw_skip ?_
  refine tw_seq ?_
  refine tw_region (fun K hK => ?_)
  refine lw_pu (wan_none rfl) (pu_assign (by (simp only [ev, List.getD_cons_succ, List.getD_cons_zero]; exact rfl))) (by (simp only [setD, List.set_cons_succ, List.set_cons_zero]; exact rfl)) ?_
  refine lw_nil ?_; refine hK _ _ ?_; clear hK K
  refine tw_ret1 Try.func46 Try.results46 (by (simp only [ev, List.getD_cons_succ, List.getD_cons_zero]; exact rfl)) ?_
  rotate_left 1
  -- left: round | round | round | round | round | round | ret | ret | ret | ret | ret | ret | ret | ret
  iterate 5 (exact IH (x + 1) _ _ (by omega) rfl ⟨hm, by omega, by omega, fun r h => hsk r (.space (by omega) (by unfold Sp; omega) h)⟩)
  · have hc := comm_pre ‹Pre _ _›
    obtain ⟨rfl, hno⟩ | ⟨n, rfl, hat, hno⟩ := hr76
    · exact absurd rfl hq
    · have hcl := (close_at l (x + 2) n).1 hat
      have hcl' := hcl.1
      refine IH (x + 2 + n + 2) _ _ (by omega) ?_ ⟨hm, by omega, by omega, fun r h => hsk r (.comm hc (by omega) hcl (fun j h1 h2 h3 => hno (j - (x + 2)) (by omega) ((close_at l (x + 2) _).2 (by rw [show x + 2 + (j - (x + 2)) = j by omega]; exact h3))) h)⟩
      have e : ((x : Int) + ((n : Int) + 4)) = ((x + 2 + n + 2 : Nat) : Int) := by omega
      rw [← e]
      rfl
  all_goals
    have hst : Skip l x x := .stop (fun _ => by unfold Sp; omega) (fun hc j h1 h2 => by
      first
      | (obtain ⟨rfl, hno⟩ | ⟨n, rfl, hat, hno⟩ := hr76
         · exact hno (j - (x + 2)) ((close_at l (x + 2) _).2 (by rw [show x + 2 + (j - (x + 2)) = j by omega]; exact h2))
         · omega)
      | exact absurd (pre_comm hc) ‹_›
      | (have := hc.1; have := hc.2.1; omega))
    refine ⟨x, ⟨hsk x hst, hx⟩, ?_, ?_⟩
    · first | exact congrArg Value.bool (decide_eq_true (by omega)).symm | exact congrArg Value.bool (decide_eq_false (by omega)).symm
    · first | exact hm | ((have e : x = i := (by omega)); subst e; exact hm)

set_option linter.unusedSimpArgs false in
set_option maxRecDepth 10000 in
theorem casReadSpace_ret (l : List UInt8) (hl : l.length ≤ 1000) (h0 : Array Obj) : Ret Try.prog 28 [bs l] h0 fun v h => (∃ r : Nat, v = .int .i64 (r : Int) ∧ Skip l 0 r) ∧ Ext h0 h := by
  have hm := Mem.refl h0
  refine ret_of_tw (ρ := ((bs l) :: undef :: undef :: undef :: undef :: undef :: undef :: undef :: undef :: undef :: undef :: undef :: undef :: [])) Try.func28 rfl rfl (fun E => ?_)
  refine tw_seq ?_
  refine tw_region (fun K hK => ?_)
  refine lw_pu (wan_none rfl) (pu_assign (by (simp only [ev, List.getD_cons_succ, List.getD_cons_zero]; exact rfl))) (by (simp only [setD, List.set_cons_succ, List.set_cons_zero]; exact rfl)) ?_
  refine lw_nil ?_; refine hK _ _ ?_; clear hK K
  refine tw_seq ?_
  refine tw_region (fun K hK => ?_)
  refine lw_pu (wan_none rfl) (pu_move (by (simp only [ev, List.getD_cons_succ, List.getD_cons_zero]; exact rfl))) (by (simp only [setD, List.set_cons_succ, List.set_cons_zero]; exact rfl)) ?_
  refine lw_pu (wan_none rfl) (pu_build rfl rfl (by (simp only [put1, List.map_cons, List.map_nil, ev, List.getD_cons_succ, List.getD_cons_zero, List.set_cons_succ, List.set_cons_zero]; exact rfl))) (by (simp only [setD, List.set_cons_succ, List.set_cons_zero]; exact rfl)) ?_
  refine lw_box (wan_none rfl) (by (simp only [ev, List.getD_cons_succ, List.getD_cons_zero]; exact rfl)) rfl hm ?_; clear hm; intro b6 h hm; refine lw_norm (by (simp only [setD, List.set_cons_succ, List.set_cons_zero]; exact rfl)) ?_
  refine lw_pu (wan_none rfl) (pu_assign (by (simp only [ev, List.getD_cons_succ, List.getD_cons_zero]; exact rfl))) (by (simp only [setD, List.set_cons_succ, List.set_cons_zero]; exact rfl)) ?_
  refine lw_nil ?_; refine hK _ _ ?_; clear hK K
  refine tw_seq ?_
  refine tw_region (fun K hK => ?_)
  refine lw_pu (wan_none rfl) (pu_move (by (simp only [ev, List.getD_cons_succ, List.getD_cons_zero]; exact rfl))) (by (simp only [setD, List.set_cons_succ, List.set_cons_zero]; exact rfl)) ?_
  (refine lw_calrm (X := Nat) (val := fun r => .bool (decide (0 < r))) (j := 0) (cs' := fun r => [bs l, .int .i64 (r : Int), .int .i64 0, .bool false]) (Q := fun r => Skip l 0 r ∧ r ≤ l.length) (wan_none rfl) hm rfl (fun hB => skipWhitespace_ret l hl b6 0 (by omega) _ _ h hB) ?_; clear hm; intro r h hr hm; refine lw_norm (by (simp only [setD, List.set_cons_succ, List.set_cons_zero]; exact rfl)) ?_; simp only [List.set_cons_zero] at hm)
  refine lw_nil ?_; refine hK _ _ ?_; clear hK K
  refine tw_seq ?_
  refine tw_region (fun K hK => ?_)
  refine lw_pu (wan_none rfl) (pu_move (by (simp only [ev, List.getD_cons_succ, List.getD_cons_zero]; exact rfl))) (by (simp only [setD, List.set_cons_succ, List.set_cons_zero]; exact rfl)) ?_
  refine lw_pu (wan_none rfl) (pu_nilCheck_p rfl) (by (simp only [setD, List.set_cons_succ, List.set_cons_zero]; exact rfl)) ?_
  refine lw_pu (wan_none rfl) (pu_fieldAddr rfl (by exact fun w => siz _ w)) (by (simp only [setD, List.set_cons_succ, List.set_cons_zero]; exact rfl)) ?_
  refine lw_pu (wan_none rfl) (pu_load rfl (hm.own (j := 0) rfl rfl)) (by (simp only [setD, List.set_cons_succ, List.set_cons_zero]; exact rfl)) ?_
  refine lw_pu (wan_none rfl) (pu_assign (by (simp only [ev, List.getD_cons_succ, List.getD_cons_zero]; exact rfl))) (by (simp only [setD, List.set_cons_succ, List.set_cons_zero]; exact rfl)) ?_
  refine lw_nil ?_; refine hK _ _ ?_; clear hK K
  refine tw_ret1 Try.func28 Try.results28 (by (simp only [ev, List.getD_cons_succ, List.getD_cons_zero]; exact rfl)) ?_
  rotate_left 1
  -- left: ret
  exact ⟨⟨r, rfl, hr.1⟩, hm.ext⟩
set_option linter.unusedSimpArgs false in
set_option maxRecDepth 10000 in
theorem implReadSpace_ret (l : List UInt8) (hl : l.length ≤ 1000) (h0 : Array Obj) : Ret Try.prog 12 [bs l] h0 fun v h => (∃ r : Nat, v = .int .i64 (r : Int) ∧ Skip l 0 r) ∧ Ext h0 h := by
  have hm := Mem.refl h0
  refine ret_of_tw (ρ := ((bs l) :: undef :: undef :: undef :: undef :: [])) Try.func12 rfl rfl (fun E => ?_)
  refine tw_seq ?_
  refine tw_region (fun K hK => ?_)
  refine lw_pu (wan_none rfl) (pu_assign (by (simp only [ev, List.getD_cons_succ, List.getD_cons_zero]; exact rfl))) (by (simp only [setD, List.set_cons_succ, List.set_cons_zero]; exact rfl)) ?_
  refine lw_nil ?_; refine hK _ _ ?_; clear hK K
  refine tw_seq ?_
  refine tw_region (fun K hK => ?_)
  refine lw_pu (wan_none rfl) (pu_move (by (simp only [ev, List.getD_cons_succ, List.getD_cons_zero]; exact rfl))) (by (simp only [setD, List.set_cons_succ, List.set_cons_zero]; exact rfl)) ?_
  (refine lw_calr (wan_none rfl) (casReadSpace_ret _ hl _) hm ?_; clear hm; rintro _ h ⟨r, rfl, hr⟩ hm; refine lw_norm (by (simp only [setD, List.set_cons_succ, List.set_cons_zero]; exact rfl)) ?_)
  refine lw_pu (wan_none rfl) (pu_assign (by (simp only [ev, List.getD_cons_succ, List.getD_cons_zero]; exact rfl))) (by (simp only [setD, List.set_cons_succ, List.set_cons_zero]; exact rfl)) ?_
  refine lw_nil ?_; refine hK _ _ ?_; clear hK K
  refine tw_ret1 Try.func12 Try.results12 (by (simp only [ev, List.getD_cons_succ, List.getD_cons_zero]; exact rfl)) ?_
  rotate_left 1
  -- left: ret
  exact ⟨⟨r, rfl, hr⟩, hm.ext⟩
set_option linter.unusedSimpArgs false in
set_option maxRecDepth 10000 in
theorem law_ret (l : List UInt8) (h0 : Array Obj) : Ret Try.prog 4 [bs l] h0 fun v h => v = .bool true ∧ Ext h0 h := by
  have hm := Mem.refl h0
  refine ret_of_tw (ρ := ((bs l) :: undef :: undef :: undef :: undef :: undef :: undef :: undef :: undef :: undef :: undef :: undef :: undef :: undef :: undef :: undef :: [])) Try.func4 rfl rfl (fun E => ?_)
  refine tw_seq ?_
  refine tw_region (fun K hK => ?_)
  refine lw_pu (wan_none rfl) (pu_assign (by (simp only [ev, List.getD_cons_succ, List.getD_cons_zero]; exact rfl))) (by (simp only [setD, List.set_cons_succ, List.set_cons_zero]; exact rfl)) ?_
  refine lw_nil ?_; refine hK _ _ ?_; clear hK K
  refine tw_seq ?_
  refine tw_seq ?_
  refine tw_region (fun K hK => ?_)
  refine lw_pu (wan_none rfl) (pu_move (by (simp only [ev, List.getD_cons_succ, List.getD_cons_zero]; exact rfl))) (by (simp only [setD, List.set_cons_succ, List.set_cons_zero]; exact rfl)) ?_
  refine lw_pu (wan_none rfl) (pu_lens rfl rfl) (by (simp only [setD, List.set_cons_succ, List.set_cons_zero]; exact rfl)) ?_
  refine lw_pu (wan_none rfl) (pu_gtr rfl rfl) (by (simp only [setD, List.set_cons_succ, List.set_cons_zero]; exact rfl)) ?_
  refine lw_nil ?_; refine hK _ _ ?_; clear hK K
  refine tw_cond_ds rfl (by (simp only [List.set_cons_succ, List.set_cons_zero]; exact rfl)) (by (simp only [List.set_cons_succ, List.set_cons_zero]; exact rfl)) (fun hq => ?_) (fun hq => ?_)
  refine tw_seq ?_
  refine tw_region (fun K hK => ?_)
  refine lw_pu (wan_none rfl) (pu_assign (by (simp only [ev, List.getD_cons_succ, List.getD_cons_zero]; exact rfl))) (by (simp only [setD, List.set_cons_succ, List.set_cons_zero]; exact rfl)) ?_
  refine lw_nil ?_; refine hK _ _ ?_; clear hK K
  refine tw_ret1 Try.func4 Try.results4 (by (simp only [ev, List.getD_cons_succ, List.getD_cons_zero]; exact rfl)) ?_
  rotate_left 1
  refine tw_skip ?_
  refine tw_seq ?_
  refine tw_region (fun K hK => ?_)
  refine lw_pu (wan_none rfl) (pu_move (by (simp only [ev, List.getD_cons_succ, List.getD_cons_zero]; exact rfl))) (by (simp only [setD, List.set_cons_succ, List.set_cons_zero]; exact rfl)) ?_
  refine lw_pu (wan_none rfl) (pu_lens rfl rfl) (by (simp only [setD, List.set_cons_succ, List.set_cons_zero]; exact rfl)) ?_
  refine lw_pu (wan_none rfl) (pu_gtr rfl rfl) (by (simp only [setD, List.set_cons_succ, List.set_cons_zero]; exact rfl)) ?_
  refine lw_pu (wan_none rfl) (pu_move (by (simp only [ev, List.getD_cons_succ, List.getD_cons_zero]; exact rfl))) (by (simp only [setD, List.set_cons_succ, List.set_cons_zero]; exact rfl)) ?_
  refine lw_split_d rfl rfl rfl (by (simp only [List.set_cons_succ, List.set_cons_zero]; exact rfl)) (by (simp only [List.set_cons_succ, List.set_cons_zero]; exact rfl)) (fun hq => ?_) (fun hq => ?_)
  refine lw_skip_b rfl rfl rfl (by (simp only [setD, List.set_cons_succ, List.set_cons_zero]; exact rfl)) ?_
  refine lw_skip_b rfl rfl rfl (by (simp only [setD, List.set_cons_succ, List.set_cons_zero]; exact rfl)) ?_
  refine lw_skip_b rfl rfl rfl (by (simp only [setD, List.set_cons_succ, List.set_cons_zero]; exact rfl)) ?_
  refine lw_skip_b rfl rfl rfl (by (simp only [setD, List.set_cons_succ, List.set_cons_zero]; exact rfl)) ?_
  refine lw_skip_b rfl rfl rfl (by (simp only [setD, List.set_cons_succ, List.set_cons_zero]; exact rfl)) ?_
  refine lw_pu (wan_none rfl) (pu_pick_t rfl (by (simp only [ev, List.getD_cons_succ, List.getD_cons_zero]; exact rfl))) (by (simp only [setD, List.set_cons_succ, List.set_cons_zero]; exact rfl)) ?_
  refine lw_pu (wan_none rfl) (pu_assign (by (simp only [ev, List.getD_cons_succ, List.getD_cons_zero]; exact rfl))) (by (simp only [setD, List.set_cons_succ, List.set_cons_zero]; exact rfl)) ?_
  refine lw_nil ?_; refine hK _ _ ?_; clear hK K
  refine tw_ret1 Try.func4 Try.results4 (by (simp only [ev, List.getD_cons_succ, List.getD_cons_zero]; exact rfl)) ?_
  rotate_left 1
  refine lw_pu (wan_some rfl rfl rfl) (pu_move (by (simp only [ev, List.getD_cons_succ, List.getD_cons_zero]; exact rfl))) (by (simp only [setD, List.set_cons_succ, List.set_cons_zero]; exact rfl)) ?_
  (refine lw_calr (wan_some rfl rfl rfl) (implReadSpace_ret _ (by omega) _) hm ?_; clear hm; rintro _ h ⟨r, rfl, hr⟩ hm; refine lw_norm (by (simp only [setD, List.set_cons_succ, List.set_cons_zero]; exact rfl)) ?_)
  refine lw_pu (wan_some rfl rfl rfl) (pu_move (by (simp only [ev, List.getD_cons_succ, List.getD_cons_zero]; exact rfl))) (by (simp only [setD, List.set_cons_succ, List.set_cons_zero]; exact rfl)) ?_
  (refine lw_calr (wan_some rfl rfl rfl) (specReadSpace_ret _ (by omega) _) hm ?_; clear hm; rintro _ h ⟨r13, rfl, hr13⟩ hm; refine lw_norm (by (simp only [setD, List.set_cons_succ, List.set_cons_zero]; exact rfl)) ?_)
  refine lw_pu (wan_some rfl rfl rfl) (pu_eql rfl rfl) (by (simp only [setD, List.set_cons_succ, List.set_cons_zero]; exact rfl)) ?_
  refine lw_pu (wan_none rfl) (pu_pick_f rfl (by (simp only [ev, List.getD_cons_succ, List.getD_cons_zero]; exact rfl))) (by (simp only [setD, List.set_cons_succ, List.set_cons_zero]; exact rfl)) ?_
  refine lw_pu (wan_none rfl) (pu_assign (by (simp only [ev, List.getD_cons_succ, List.getD_cons_zero]; exact rfl))) (by (simp only [setD, List.set_cons_succ, List.set_cons_zero]; exact rfl)) ?_
  refine lw_nil ?_; refine hK _ _ ?_; clear hK K
  refine tw_ret1 Try.func4 Try.results4 (by (simp only [ev, List.getD_cons_succ, List.getD_cons_zero]; exact rfl)) ?_
  rotate_left 1
  -- left: ret | ret | ret
  · exact ⟨rfl, hm.ext⟩
  · exact ⟨rfl, hm.ext⟩
  · exact ⟨congrArg Value.bool (decide_eq_true (congrArg Nat.cast (hr.det hr13))), hm.ext⟩
end Go.Proofs.Ytchhjooifjcnkaa.ReadSpace
