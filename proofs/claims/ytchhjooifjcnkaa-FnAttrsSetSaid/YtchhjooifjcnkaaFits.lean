/-
  Lists of attributes: the tests of their size.
-/
import Derived.Test.YtchhjooifjcnkaaKTypes
namespace Go.Proofs.Ytchhjooifjcnkaa.Fits
open Go Go.Proofs K

/-- An attribute: its key and its value. -/
abbrev At := List UInt8 × List UInt8
def row (a : At) : List Value := [bs a.1, bs a.2]

set_option linter.unusedSimpArgs false
set_option linter.unusedVariables false
set_option maxRecDepth 10000
theorem fits4_ret (a : At) (h0 : Array Obj) : Ret Try.prog 30 [.agg (row a).toArray] h0 fun v h => (∃ b, v = .bool b) ∧ Ext h0 h := by
  have hm := Mem.refl h0
  refine ret_of_tw (ρ := ((.agg (row a).toArray) :: undef :: undef :: undef :: undef :: undef :: undef :: undef :: undef :: undef :: undef :: [])) Try.func30 rfl rfl (fun E => ?_)
  refine tw_seq ?_
  refine tw_region (fun K hK => ?_)
  refine lw_box (wan_none rfl) (by (simp only [ev, List.getD_cons_succ, List.getD_cons_zero]; exact rfl)) rfl hm ?_; clear hm; intro b1 h hm; refine lw_norm (by (simp only [setD, List.set_cons_succ, List.set_cons_zero]; exact rfl)) ?_
  refine lw_pu (wan_none rfl) (pu_assign (by (simp only [ev, List.getD_cons_succ, List.getD_cons_zero]; exact rfl))) (by (simp only [setD, List.set_cons_succ, List.set_cons_zero]; exact rfl)) ?_
  refine lw_nil ?_; refine hK _ _ ?_; clear hK K
  refine tw_seq ?_
  refine tw_seq ?_
  refine tw_region (fun K hK => ?_)
  refine lw_pu (wan_none rfl) (pu_fieldAddr rfl (by exact fun w => siz _ w)) (by (simp only [setD, List.set_cons_succ, List.set_cons_zero]; exact rfl)) ?_
  refine lw_pu (wan_none rfl) (pu_load rfl (hm.own (j := 0) rfl rfl)) (by (simp only [setD, List.set_cons_succ, List.set_cons_zero]; exact rfl)) ?_
  refine lw_pu (wan_none rfl) (pu_lens rfl rfl) (by (simp only [setD, List.set_cons_succ, List.set_cons_zero]; exact rfl)) ?_
  refine lw_pu (wan_none rfl) (pu_gtr rfl rfl) (by (simp only [setD, List.set_cons_succ, List.set_cons_zero]; exact rfl)) ?_
  refine lw_nil ?_; refine hK _ _ ?_; clear hK K
  refine tw_cond_ds rfl (by (simp only [List.set_cons_succ, List.set_cons_zero]; exact rfl)) (by (simp only [List.set_cons_succ, List.set_cons_zero]; exact rfl)) (fun hq => ?_) (fun hq => ?_)
  refine tw_seq ?_
  refine tw_region (fun K hK => ?_)
  refine lw_pu (wan_none rfl) (pu_assign (by (simp only [ev, List.getD_cons_succ, List.getD_cons_zero]; exact rfl))) (by (simp only [setD, List.set_cons_succ, List.set_cons_zero]; exact rfl)) ?_
  refine lw_nil ?_; refine hK _ _ ?_; clear hK K
  refine tw_ret1 Try.func30 Try.results30 (by (simp only [ev, List.getD_cons_succ, List.getD_cons_zero]; exact rfl)) ?_
  rotate_left 1
  refine tw_skip ?_
  refine tw_seq ?_
  refine tw_seq ?_
  refine tw_region (fun K hK => ?_)
  refine lw_pu (wan_none rfl) (pu_fieldAddr rfl (by exact fun w => siz _ w)) (by (simp only [setD, List.set_cons_succ, List.set_cons_zero]; exact rfl)) ?_
  refine lw_pu (wan_none rfl) (pu_load rfl (hm.own (j := 0) rfl rfl)) (by (simp only [setD, List.set_cons_succ, List.set_cons_zero]; exact rfl)) ?_
  refine lw_pu (wan_none rfl) (pu_lens rfl rfl) (by (simp only [setD, List.set_cons_succ, List.set_cons_zero]; exact rfl)) ?_
  refine lw_pu (wan_none rfl) (pu_gtr rfl rfl) (by (simp only [setD, List.set_cons_succ, List.set_cons_zero]; exact rfl)) ?_
  refine lw_nil ?_; refine hK _ _ ?_; clear hK K
  refine tw_cond_ds rfl (by (simp only [List.set_cons_succ, List.set_cons_zero]; exact rfl)) (by (simp only [List.set_cons_succ, List.set_cons_zero]; exact rfl)) (fun hq => ?_) (fun hq => ?_)
  refine tw_seq ?_
  refine tw_region (fun K hK => ?_)
  refine lw_pu (wan_none rfl) (pu_assign (by (simp only [ev, List.getD_cons_succ, List.getD_cons_zero]; exact rfl))) (by (simp only [setD, List.set_cons_succ, List.set_cons_zero]; exact rfl)) ?_
  refine lw_nil ?_; refine hK _ _ ?_; clear hK K
  refine tw_ret1 Try.func30 Try.results30 (by (simp only [ev, List.getD_cons_succ, List.getD_cons_zero]; exact rfl)) ?_
  rotate_left 1
  refine tw_skip ?_
  refine tw_seq ?_
  refine tw_region (fun K hK => ?_)
  refine lw_pu (wan_none rfl) (pu_assign (by (simp only [ev, List.getD_cons_succ, List.getD_cons_zero]; exact rfl))) (by (simp only [setD, List.set_cons_succ, List.set_cons_zero]; exact rfl)) ?_
  refine lw_nil ?_; refine hK _ _ ?_; clear hK K
  refine tw_ret1 Try.func30 Try.results30 (by (simp only [ev, List.getD_cons_succ, List.getD_cons_zero]; exact rfl)) ?_
  rotate_left 1
  -- left: ret | ret | ret
  all_goals exact ⟨⟨_, rfl⟩, hm.ext⟩

theorem fits3_ret (xs : List At) (q : Option Addr) (cp : Nat) (h0 : Array Obj) (hmax : xs.length ≤ maxLen) (hr : SlR h0 2 q (xs.map row)) : Ret Try.prog 14 [.slice q xs.length cp] h0 fun v h => (∃ b, v = .bool b) ∧ Ext h0 h := by
  have hm := Mem.refl h0
  have hmx : maxLen = 2 ^ 63 - 1 := rfl
  refine ret_of_tw (ρ := ((.slice q xs.length cp) :: undef :: undef :: undef :: undef :: undef :: undef :: undef :: undef :: undef :: undef :: undef :: undef :: undef :: undef :: undef :: undef :: undef :: [])) Try.func14 rfl rfl (fun E => ?_)
  refine tw_seq ?_
  refine tw_region (fun K hK => ?_)
  refine lw_pu (wan_none rfl) (pu_assign (by (simp only [ev, List.getD_cons_succ, List.getD_cons_zero]; exact rfl))) (by (simp only [setD, List.set_cons_succ, List.set_cons_zero]; exact rfl)) ?_
  refine lw_nil ?_; refine hK _ _ ?_; clear hK K
  refine tw_seq ?_
  refine tw_seq ?_
  refine tw_region (fun K hK => ?_)
  refine lw_pu (wan_none rfl) (pu_move (by (simp only [ev, List.getD_cons_succ, List.getD_cons_zero]; exact rfl))) (by (simp only [setD, List.set_cons_succ, List.set_cons_zero]; exact rfl)) ?_
  refine lw_pu (wan_none rfl) (pu_lensl rfl rfl) (by (simp only [setD, List.set_cons_succ, List.set_cons_zero]; exact rfl)) ?_
  refine lw_pu (wan_none rfl) (pu_gtr rfl rfl) (by (simp only [setD, List.set_cons_succ, List.set_cons_zero]; exact rfl)) ?_
  refine lw_nil ?_; refine hK _ _ ?_; clear hK K
  refine tw_cond_ds rfl (by (simp only [List.set_cons_succ, List.set_cons_zero]; exact rfl)) (by (simp only [List.set_cons_succ, List.set_cons_zero]; exact rfl)) (fun hq => ?_) (fun hq => ?_)
  refine tw_seq ?_
  refine tw_region (fun K hK => ?_)
  refine lw_pu (wan_none rfl) (pu_assign (by (simp only [ev, List.getD_cons_succ, List.getD_cons_zero]; exact rfl))) (by (simp only [setD, List.set_cons_succ, List.set_cons_zero]; exact rfl)) ?_
  refine lw_nil ?_; refine hK _ _ ?_; clear hK K
  refine tw_ret1 Try.func14 Try.results14 (by (simp only [ev, List.getD_cons_succ, List.getD_cons_zero]; exact rfl)) ?_
  rotate_left 1
  refine tw_skip ?_
  refine tw_seq ?_
  refine tw_seq ?_
  refine tw_region (fun K hK => ?_)
  refine lw_pu (wan_none rfl) (pu_move (by (simp only [ev, List.getD_cons_succ, List.getD_cons_zero]; exact rfl))) (by (simp only [setD, List.set_cons_succ, List.set_cons_zero]; exact rfl)) ?_
  refine lw_pu (wan_none rfl) (pu_lensl rfl rfl) (by (simp only [setD, List.set_cons_succ, List.set_cons_zero]; exact rfl)) ?_
  refine lw_pu (wan_none rfl) (pu_move (by (simp only [ev, List.getD_cons_succ, List.getD_cons_zero]; exact rfl))) (by (simp only [setD, List.set_cons_succ, List.set_cons_zero]; exact rfl)) ?_
  refine lw_nil ?_; refine hK _ _ ?_; clear hK K
  refine tw_block ?_
  rotate_left 1
  -- left: ret | loop
  · exact ⟨⟨_, rfl⟩, hm.ext⟩
  refine tw_loopJ (X := Nat) (fun i => xs.length - i) (fun i J => (.slice q xs.length cp :: J 1 :: J 2 :: J 3 :: J 4 :: J 5 :: J 6 :: J 7 :: .slice q xs.length cp :: .int .i64 (xs.length : Int) :: .int .i64 (i : Int) :: J 11 :: J 12 :: J 13 :: J 14 :: J 15 :: J 16 :: J 17 :: [])) (fun i h => Mem h0 h [] [] ∧ i ≤ xs.length) 0 rfl ⟨hm, by omega⟩ ?_
  clear hm
  rintro i J h ⟨hm, hi⟩ IH
  refine tw_seq ?_
  refine tw_region (fun K hK => ?_)
  refine lw_pu (wan_none rfl) (pu_lss rfl rfl) (by (simp only [setD, List.set_cons_succ, List.set_cons_zero]; exact rfl)) ?_
  refine lw_nil ?_; refine hK _ _ ?_; clear hK K
  refine tw_seq ?_
  refine tw_cond_ds rfl (by (simp only [List.set_cons_succ, List.set_cons_zero]; exact rfl)) (by (simp only [List.set_cons_succ, List.set_cons_zero]; exact rfl)) (fun hq => ?_) (fun hq => ?_)
  refine tw_skip ?_
  refine tw_seq ?_
  refine tw_block ?_
  refine tw_seq ?_
  refine tw_region (fun K hK => ?_)
  rotate_left 1
  refine tw_exit rfl ?_
  refine tw_seq ?_
  refine tw_region (fun K hK => ?_)
  refine lw_pu (wan_none rfl) (pu_assign (by (simp only [ev, List.getD_cons_succ, List.getD_cons_zero]; exact rfl))) (by (simp only [setD, List.set_cons_succ, List.set_cons_zero]; exact rfl)) ?_
  refine lw_nil ?_; refine hK _ _ ?_; clear hK K
  refine tw_ret1 Try.func14 Try.results14 (by (simp only [ev, List.getD_cons_succ, List.getD_cons_zero]; exact rfl)) ?_
  rotate_left 1
  -- left: region 5 op 0 | ret
  · obtain ⟨a, ha, hq', hc⟩ := hr.at (i := i) (by omega)
    have hc' : ∀ {h}, Ext h0 h → cellsFrom h (blk q) (offs q + i * 2) (row a) := fun he => he.cells hc
    first | refine lw_pu (wan_none rfl) (pu_indexAddrQ rfl rfl (by omega) (by assumption)) (by (simp only [setD, List.set_cons_succ, List.set_cons_zero]; exact rfl)) ?_ | refine lw_pu (wan_none rfl) (pu_indexAddr rfl rfl (by omega)) (by (simp only [setD, List.set_cons_succ, List.set_cons_zero]; exact rfl)) ?_
    refine lw_pu (wan_none rfl) (pu_loadAgg rfl rfl (hc' hm.ext)) (by (simp only [setD, List.set_cons_succ, List.set_cons_zero]; exact rfl)) ?_
    refine lw_alloc (wan_none rfl) rfl hm ?_; clear hm; intro b4 h hm; refine lw_norm (by (simp only [setD, List.set_cons_succ, List.set_cons_zero]; exact rfl)) ?_
    refine lw_storeAgg_own (j := 0) (wan_none rfl) rfl rfl rfl rfl hm rfl rfl (by (simp only [List.set_cons_succ, List.set_cons_zero]; exact rfl)) (by (simp only [setD, List.set_cons_succ, List.set_cons_zero]; exact rfl)) ?_; clear hm; intro h hm
    refine lw_nil ?_; refine hK _ _ ?_; clear hK K
    refine tw_seq ?_
    refine tw_region (fun K hK => ?_)
    first | refine lw_pu (wan_none rfl) (pu_loadAgg rfl rfl (hm.row (j := 0) rfl)) (by (simp only [setD, List.set_cons_succ, List.set_cons_zero]; exact rfl)) ?_ | refine lw_pu (wan_none rfl) (pu_loadAgg rfl rfl (hc' hm.ext)) (by (simp only [setD, List.set_cons_succ, List.set_cons_zero]; exact rfl)) ?_
    refine lw_calr (wan_none rfl) (fits4_ret a _) hm ?_; clear hm; rintro _ h ⟨b, rfl⟩ hm; refine lw_norm (by (simp only [setD, List.set_cons_succ, List.set_cons_zero]; exact rfl)) ?_
    first | refine lw_pu (wan_none rfl) (pu_notd rfl) (by (simp only [setD, List.set_cons_succ, List.set_cons_zero]; exact rfl)) ?_ | refine lw_pu (wan_none rfl) (pu_not rfl) (by (simp only [setD, List.set_cons_succ, List.set_cons_zero]; exact rfl)) ?_
    refine lw_nil ?_; refine hK _ _ ?_; clear hK K
    first | refine tw_cond_ds rfl (by (simp only [List.set_cons_succ, List.set_cons_zero]; exact rfl)) (by (simp only [List.set_cons_succ, List.set_cons_zero]; exact rfl)) (fun hq => ?_) (fun hq => ?_) | refine tw_cond_bs rfl (by (simp only [List.set_cons_succ, List.set_cons_zero]; exact rfl)) (by (simp only [List.set_cons_succ, List.set_cons_zero]; exact rfl)) (fun hq => ?_) (fun hq => ?_)
    refine tw_seq ?_
    refine tw_region (fun K hK => ?_)
    refine lw_pu (wan_none rfl) (pu_assign (by (simp only [ev, List.getD_cons_succ, List.getD_cons_zero]; exact rfl))) (by (simp only [setD, List.set_cons_succ, List.set_cons_zero]; exact rfl)) ?_
    refine lw_nil ?_; refine hK _ _ ?_; clear hK K
    refine tw_ret1 Try.func14 Try.results14 (by (simp only [ev, List.getD_cons_succ, List.getD_cons_zero]; exact rfl)) ?_
    rotate_left 1
    refine tw_skip ?_
    refine tw_inBlock ?_
    refine tw_region (fun K hK => ?_)
    first | refine lw_pu (wan_none rfl) (pu_addn (n := 1) rfl rfl (by omega)) (by (simp only [setD, List.set_cons_succ, List.set_cons_zero]; exact rfl)) ?_ | refine lw_pu (wan_none rfl) (pu_addi rfl rfl (by omega) (by omega)) (by (simp only [setD, List.set_cons_succ, List.set_cons_zero]; exact rfl)) ?_ | refine lw_pu (wan_none rfl) (pu_add rfl rfl) (by (simp only [setD, List.set_cons_succ, List.set_cons_zero]; exact rfl)) ?_
    refine lw_pu (wan_none rfl) (pu_move (by (simp only [ev, List.getD_cons_succ, List.getD_cons_zero]; exact rfl))) (by (simp only [setD, List.set_cons_succ, List.set_cons_zero]; exact rfl)) ?_
    refine lw_nil ?_; refine hK _ _ ?_; clear hK K
    rotate_left 1
    -- left: ret | round
    all_goals first
      | exact ⟨⟨_, rfl⟩, hm.ext⟩
      | exact IH (i + 1) _ _ (by omega) rfl ⟨hm.tl, by omega⟩
  · exact ⟨⟨_, rfl⟩, hm.ext⟩

/-! Words of a text, whether one is a word: what they hand back, as far as it is needed. -/
def srow (s : List UInt8) : List Value := [bs s]
theorem isWord_ret (ws : List (List UInt8)) (s : List UInt8) (q : Option Addr) (cp : Nat) (h0 : Array Obj) (hmax : ws.length ≤ maxLen) (hr : SlR h0 1 q (ws.map srow)) : Ret Try.prog 48 [.slice q ws.length cp, bs s] h0 fun v h => (∃ b, v = .bool b ∧ (b = true ↔ s ∈ ws)) ∧ Ext h0 h := by
  have hm := Mem.refl h0
  have hmx : maxLen = 2 ^ 63 - 1 := rfl
  refine ret_of_tw (ρ := ((.slice q ws.length cp) :: (bs s) :: undef :: undef :: undef :: undef :: undef :: undef :: undef :: undef :: undef :: undef :: undef :: undef :: undef :: undef :: undef :: undef :: [])) Try.func48 rfl rfl (fun E => ?_)
  refine tw_seq ?_
  refine tw_region (fun K hK => ?_)
  refine lw_pu (wan_none rfl) (pu_assign (by (simp only [ev, List.getD_cons_succ, List.getD_cons_zero]; exact rfl))) (by (simp only [setD, List.set_cons_succ, List.set_cons_zero]; exact rfl)) ?_
  refine lw_nil ?_; refine hK _ _ ?_; clear hK K
  refine tw_seq ?_
  refine tw_seq ?_
  refine tw_region (fun K hK => ?_)
  refine lw_pu (wan_none rfl) (pu_assign (by (simp only [ev, List.getD_cons_succ, List.getD_cons_zero]; exact rfl))) (by (simp only [setD, List.set_cons_succ, List.set_cons_zero]; exact rfl)) ?_
  refine lw_nil ?_; refine hK _ _ ?_; clear hK K
  refine tw_block ?_
  rotate_left 1
  -- left: loop
  refine tw_loopJ (X := Nat) (fun i => ws.length - i) (fun i J => (.slice q ws.length cp :: bs s :: J 2 :: J 3 :: J 4 :: .int .i64 (i : Int) :: J 6 :: J 7 :: J 8 :: J 9 :: J 10 :: J 11 :: J 12 :: J 13 :: J 14 :: J 15 :: J 16 :: J 17 :: [])) (fun i h => Mem h0 h [] [] ∧ i ≤ ws.length ∧ ∀ j w, j < i → ws[j]? = some w → w ≠ s) 0 rfl ⟨hm, by omega, fun j w hj => by omega⟩ ?_
  clear hm
  rintro i J h ⟨hm, hi, hne⟩ IH
  refine tw_seq ?_
  refine tw_seq ?_
  refine tw_region (fun K hK => ?_)
  refine lw_pu (wan_none rfl) (pu_move (by (simp only [ev, List.getD_cons_succ, List.getD_cons_zero]; exact rfl))) (by (simp only [setD, List.set_cons_succ, List.set_cons_zero]; exact rfl)) ?_
  refine lw_pu (wan_none rfl) (pu_move (by (simp only [ev, List.getD_cons_succ, List.getD_cons_zero]; exact rfl))) (by (simp only [setD, List.set_cons_succ, List.set_cons_zero]; exact rfl)) ?_
  refine lw_pu (wan_none rfl) (pu_lensl rfl rfl) (by (simp only [setD, List.set_cons_succ, List.set_cons_zero]; exact rfl)) ?_
  refine lw_pu (wan_none rfl) (pu_lss rfl rfl) (by (simp only [setD, List.set_cons_succ, List.set_cons_zero]; exact rfl)) ?_
  refine lw_nil ?_; refine hK _ _ ?_; clear hK K
  refine tw_cond_ds rfl (by (simp only [List.set_cons_succ, List.set_cons_zero]; exact rfl)) (by (simp only [List.set_cons_succ, List.set_cons_zero]; exact rfl)) (fun hq => ?_) (fun hq => ?_)
  refine tw_skip ?_
  refine tw_seq ?_
  refine tw_block ?_
  refine tw_seq ?_
  refine tw_region (fun K hK => ?_)
  rotate_left 1
  refine tw_exit rfl ?_
  refine tw_seq ?_
  refine tw_region (fun K hK => ?_)
  refine lw_pu (wan_none rfl) (pu_assign (by (simp only [ev, List.getD_cons_succ, List.getD_cons_zero]; exact rfl))) (by (simp only [setD, List.set_cons_succ, List.set_cons_zero]; exact rfl)) ?_
  refine lw_nil ?_; refine hK _ _ ?_; clear hK K
  refine tw_ret1 Try.func48 Try.results48 (by (simp only [ev, List.getD_cons_succ, List.getD_cons_zero]; exact rfl)) ?_
  rotate_left 1
  -- left: region 4 op 0 | ret
  · obtain ⟨a, ha, hq', hc⟩ := hr.at (i := i) (by omega)
    have hc' : ∀ {h}, Ext h0 h → cell h ⟨blk q, offs q + i * 1, none⟩ = some (bs a) := fun he => he.cell hc.1
    refine lw_pu (wan_none rfl) (pu_move (by (simp only [ev, List.getD_cons_succ, List.getD_cons_zero]; exact rfl))) (by (simp only [setD, List.set_cons_succ, List.set_cons_zero]; exact rfl)) ?_
    refine lw_pu (wan_none rfl) (pu_move (by (simp only [ev, List.getD_cons_succ, List.getD_cons_zero]; exact rfl))) (by (simp only [setD, List.set_cons_succ, List.set_cons_zero]; exact rfl)) ?_
    first | refine lw_pu (wan_none rfl) (pu_indexAddrQ rfl rfl (by omega) (by assumption)) (by (simp only [setD, List.set_cons_succ, List.set_cons_zero]; exact rfl)) ?_ | refine lw_pu (wan_none rfl) (pu_indexAddr rfl rfl (by omega)) (by (simp only [setD, List.set_cons_succ, List.set_cons_zero]; exact rfl)) ?_
    refine lw_pu (wan_none rfl) (pu_load rfl (hc' hm.ext)) (by (simp only [setD, List.set_cons_succ, List.set_cons_zero]; exact rfl)) ?_
    refine lw_pu (wan_none rfl) (pu_move (by (simp only [ev, List.getD_cons_succ, List.getD_cons_zero]; exact rfl))) (by (simp only [setD, List.set_cons_succ, List.set_cons_zero]; exact rfl)) ?_
    refine lw_pu (wan_none rfl) (pu_eqs rfl rfl) (by (simp only [setD, List.set_cons_succ, List.set_cons_zero]; exact rfl)) ?_
    refine lw_nil ?_; refine hK _ _ ?_; clear hK K
    refine tw_cond_ds rfl (by (simp only [List.set_cons_succ, List.set_cons_zero]; exact rfl)) (by (simp only [List.set_cons_succ, List.set_cons_zero]; exact rfl)) (fun hq => ?_) (fun hq => ?_)
    refine tw_seq ?_
    refine tw_region (fun K hK => ?_)
    refine lw_pu (wan_none rfl) (pu_assign (by (simp only [ev, List.getD_cons_succ, List.getD_cons_zero]; exact rfl))) (by (simp only [setD, List.set_cons_succ, List.set_cons_zero]; exact rfl)) ?_
    refine lw_nil ?_; refine hK _ _ ?_; clear hK K
    refine tw_ret1 Try.func48 Try.results48 (by (simp only [ev, List.getD_cons_succ, List.getD_cons_zero]; exact rfl)) ?_
    rotate_left 1
    refine tw_skip ?_
    refine tw_inBlock ?_
    refine tw_region (fun K hK => ?_)
    refine lw_pu (wan_none rfl) (pu_move (by (simp only [ev, List.getD_cons_succ, List.getD_cons_zero]; exact rfl))) (by (simp only [setD, List.set_cons_succ, List.set_cons_zero]; exact rfl)) ?_
    first | refine lw_pu (wan_none rfl) (pu_addn (n := 1) rfl rfl (by omega)) (by (simp only [setD, List.set_cons_succ, List.set_cons_zero]; exact rfl)) ?_ | refine lw_pu (wan_none rfl) (pu_addi rfl rfl (by omega) (by omega)) (by (simp only [setD, List.set_cons_succ, List.set_cons_zero]; exact rfl)) ?_ | refine lw_pu (wan_none rfl) (pu_add rfl rfl) (by (simp only [setD, List.set_cons_succ, List.set_cons_zero]; exact rfl)) ?_
    refine lw_pu (wan_none rfl) (pu_assign (by (simp only [ev, List.getD_cons_succ, List.getD_cons_zero]; exact rfl))) (by (simp only [setD, List.set_cons_succ, List.set_cons_zero]; exact rfl)) ?_
    refine lw_nil ?_; refine hK _ _ ?_; clear hK K
    rotate_left 1
    -- left: ret | round
    · exact ⟨⟨true, rfl, by simp only [true_iff]; exact hq ▸ List.mem_of_getElem? ha⟩, hm.ext⟩
    · exact IH (i + 1) _ _ (by omega) rfl ⟨hm, by omega, fun j w hj hw => by
        rcases Nat.lt_or_ge j i with h1 | h1
        · exact hne j w h1 hw
        · (have : j = i := by omega); subst this; rw [ha] at hw; cases hw; assumption⟩
  · refine ⟨⟨false, rfl, by simp only [Bool.false_eq_true, false_iff]; intro hs; obtain ⟨j, hj⟩ := List.mem_iff_getElem?.1 hs; exact hne j s (by have := (List.getElem?_eq_some_iff.1 hj).1; omega) hj rfl⟩, hm.ext⟩

/-- The words between white space: as far as it is needed, they are some. -/
def Q1 (l : List UInt8) (v : Value) (L : List Blk) : Prop := ∃ q n cp ws, v = .slice q n cp ∧ n ≤ cp ∧ n ≤ l.length + 1 ∧ SlO 1 9 q n cp L (List.map srow ws)
theorem words_ret (l : List UInt8) (hl : l.length ≤ 2 ^ 31) (h0 : Array Obj) : Ret Try.prog 47 [bs l] h0 fun v h => ∃ L, Q1 l v L ∧ Mem h0 h [] L := by
  have hm := Mem.refl h0
  refine ret_of_tw (ρ := ((bs l) :: undef :: undef :: undef :: undef :: undef :: undef :: undef :: undef :: undef :: undef :: undef :: undef :: undef :: undef :: undef :: undef :: undef :: undef :: undef :: undef :: undef :: undef :: undef :: undef :: undef :: undef :: undef :: undef :: undef :: undef :: undef :: undef :: undef :: undef :: undef :: undef :: undef :: undef :: undef :: undef :: undef :: undef :: undef :: undef :: undef :: undef :: undef :: undef :: undef :: undef :: undef :: undef :: undef :: undef :: undef :: undef :: undef :: undef :: [])) Try.func47 rfl rfl (fun E => ?_)
  refine tw_seq ?_
  refine tw_region (fun K hK => ?_)
  refine lw_pu (wan_none rfl) (pu_assign (by (simp only [ev, List.getD_cons_succ, List.getD_cons_zero]; exact rfl))) (by (simp only [setD, List.set_cons_succ, List.set_cons_zero]; exact rfl)) ?_
  refine lw_nil ?_; refine hK _ _ ?_; clear hK K
  refine tw_seq ?_
  refine tw_region (fun K hK => ?_)
  refine lw_pu (wan_none rfl) (pu_assign (by (simp only [ev, List.getD_cons_succ, List.getD_cons_zero]; exact rfl))) (by (simp only [setD, List.set_cons_succ, List.set_cons_zero]; exact rfl)) ?_
  refine lw_nil ?_; refine hK _ _ ?_; clear hK K
  refine tw_seq ?_
  refine tw_region (fun K hK => ?_)
  refine lw_pu (wan_none rfl) (pu_assign (by (simp only [ev, List.getD_cons_succ, List.getD_cons_zero]; exact rfl))) (by (simp only [setD, List.set_cons_succ, List.set_cons_zero]; exact rfl)) ?_
  refine lw_nil ?_; refine hK _ _ ?_; clear hK K
  refine tw_seq ?_
  refine tw_seq ?_
  refine tw_region (fun K hK => ?_)
  refine lw_pu (wan_none rfl) (pu_assign (by (simp only [ev, List.getD_cons_succ, List.getD_cons_zero]; exact rfl))) (by (simp only [setD, List.set_cons_succ, List.set_cons_zero]; exact rfl)) ?_
  refine lw_nil ?_; refine hK _ _ ?_; clear hK K
  refine tw_block ?_
  rotate_left 1
  -- left: loop
  refine tw_loopJ (X := Nat × Nat × Option Addr × Nat × Nat × List Blk × List (List UInt8)) (fun x => l.length + 1 - x.1) (fun x J => (bs l :: J 1 :: J 2 :: .slice x.2.2.1 x.2.2.2.1 x.2.2.2.2.1 :: .int .i64 (x.2.1 : Int) :: .int .i64 (x.1 : Int) :: J 6 :: J 7 :: J 8 :: J 9 :: J 10 :: J 11 :: J 12 :: J 13 :: J 14 :: J 15 :: J 16 :: J 17 :: J 18 :: J 19 :: J 20 :: J 21 :: J 22 :: J 23 :: J 24 :: J 25 :: J 26 :: J 27 :: J 28 :: J 29 :: J 30 :: J 31 :: J 32 :: J 33 :: J 34 :: J 35 :: J 36 :: J 37 :: J 38 :: J 39 :: J 40 :: J 41 :: J 42 :: J 43 :: J 44 :: J 45 :: J 46 :: J 47 :: J 48 :: J 49 :: J 50 :: J 51 :: J 52 :: J 53 :: J 54 :: J 55 :: J 56 :: J 57 :: J 58 :: [])) (fun x h => Mem h0 h [] x.2.2.2.2.2.1 ∧ x.1 ≤ l.length + 1 ∧ x.2.1 ≤ x.1 ∧ x.2.2.2.1 ≤ x.1 ∧ SlO 1 9 x.2.2.1 x.2.2.2.1 x.2.2.2.2.1 x.2.2.2.2.2.1 (x.2.2.2.2.2.2.map srow)) (0, 0, none, 0, 0, [], []) rfl ⟨hm, by simp, by simp, by simp, SlO.nil 1 _⟩ ?_
  clear hm
  rintro ⟨i, from_, q, n, cp, Lv, ws⟩ J h ⟨hm, hi, hf, hn, hs⟩ IH
  simp only at hm hi hf hn hs
  refine tw_seq ?_
  refine tw_seq ?_
  refine tw_region (fun K hK => ?_)
  refine lw_pu (wan_none rfl) (pu_move (by (simp only [ev, List.getD_cons_succ, List.getD_cons_zero]; exact rfl))) (by (simp only [setD, List.set_cons_succ, List.set_cons_zero]; exact rfl)) ?_
  refine lw_pu (wan_none rfl) (pu_move (by (simp only [ev, List.getD_cons_succ, List.getD_cons_zero]; exact rfl))) (by (simp only [setD, List.set_cons_succ, List.set_cons_zero]; exact rfl)) ?_
  refine lw_pu (wan_none rfl) (pu_lens rfl rfl) (by (simp only [setD, List.set_cons_succ, List.set_cons_zero]; exact rfl)) ?_
  refine lw_pu (wan_none rfl) (pu_leq rfl rfl) (by (simp only [setD, List.set_cons_succ, List.set_cons_zero]; exact rfl)) ?_
  refine lw_nil ?_; refine hK _ _ ?_; clear hK K
  refine tw_cond_ds rfl (by (simp only [List.set_cons_succ, List.set_cons_zero]; exact rfl)) (by (simp only [List.set_cons_succ, List.set_cons_zero]; exact rfl)) (fun hq => ?_) (fun hq => ?_)
  refine tw_skip ?_
  refine tw_seq ?_
  refine tw_block ?_
  refine tw_seq ?_
  refine tw_seq ?_
  refine tw_region (fun K hK => ?_)
  refine lw_pu (wan_none rfl) (pu_move (by (simp only [ev, List.getD_cons_succ, List.getD_cons_zero]; exact rfl))) (by (simp only [setD, List.set_cons_succ, List.set_cons_zero]; exact rfl)) ?_
  refine lw_pu (wan_none rfl) (pu_move (by (simp only [ev, List.getD_cons_succ, List.getD_cons_zero]; exact rfl))) (by (simp only [setD, List.set_cons_succ, List.set_cons_zero]; exact rfl)) ?_
  refine lw_pu (wan_none rfl) (pu_lens rfl rfl) (by (simp only [setD, List.set_cons_succ, List.set_cons_zero]; exact rfl)) ?_
  refine lw_pu (wan_none rfl) (pu_lss rfl rfl) (by (simp only [setD, List.set_cons_succ, List.set_cons_zero]; exact rfl)) ?_
  refine lw_pu (wan_none rfl) (pu_move (by (simp only [ev, List.getD_cons_succ, List.getD_cons_zero]; exact rfl))) (by (simp only [setD, List.set_cons_succ, List.set_cons_zero]; exact rfl)) ?_
  refine lw_split_d rfl rfl rfl (by (simp only [List.set_cons_succ, List.set_cons_zero]; exact rfl)) (by (simp only [List.set_cons_succ, List.set_cons_zero]; exact rfl)) (fun hq => ?_) (fun hq => ?_)
  refine lw_pu (wan_some rfl rfl rfl) (pu_move (by (simp only [ev, List.getD_cons_succ, List.getD_cons_zero]; exact rfl))) (by (simp only [setD, List.set_cons_succ, List.set_cons_zero]; exact rfl)) ?_
  refine lw_pu (wan_some rfl rfl rfl) (pu_move (by (simp only [ev, List.getD_cons_succ, List.getD_cons_zero]; exact rfl))) (by (simp only [setD, List.set_cons_succ, List.set_cons_zero]; exact rfl)) ?_
  refine lw_pu (wan_some rfl rfl rfl) (pu_index rfl rfl (by omega)) (by (simp only [setD, List.set_cons_succ, List.set_cons_zero]; exact rfl)) ?_
  refine lw_pu (wan_some rfl rfl rfl) (pu_neq rfl rfl) (by (simp only [setD, List.set_cons_succ, List.set_cons_zero]; exact rfl)) ?_
  refine lw_pu (wan_none rfl) (pu_pick_t rfl (by (simp only [ev, List.getD_cons_succ, List.getD_cons_zero]; exact rfl))) (by (simp only [setD, List.set_cons_succ, List.set_cons_zero]; exact rfl)) ?_
  refine lw_pu (wan_none rfl) (pu_move (by (simp only [ev, List.getD_cons_succ, List.getD_cons_zero]; exact rfl))) (by (simp only [setD, List.set_cons_succ, List.set_cons_zero]; exact rfl)) ?_
  refine lw_split_d rfl rfl rfl (by (simp only [List.set_cons_succ, List.set_cons_zero]; exact rfl)) (by (simp only [List.set_cons_succ, List.set_cons_zero]; exact rfl)) (fun hq => ?_) (fun hq => ?_)
  refine lw_pu (wan_some rfl rfl rfl) (pu_move (by (simp only [ev, List.getD_cons_succ, List.getD_cons_zero]; exact rfl))) (by (simp only [setD, List.set_cons_succ, List.set_cons_zero]; exact rfl)) ?_
  refine lw_pu (wan_some rfl rfl rfl) (pu_move (by (simp only [ev, List.getD_cons_succ, List.getD_cons_zero]; exact rfl))) (by (simp only [setD, List.set_cons_succ, List.set_cons_zero]; exact rfl)) ?_
  refine lw_pu (wan_some rfl rfl rfl) (pu_index rfl rfl (by omega)) (by (simp only [setD, List.set_cons_succ, List.set_cons_zero]; exact rfl)) ?_
  refine lw_pu (wan_some rfl rfl rfl) (pu_neq rfl rfl) (by (simp only [setD, List.set_cons_succ, List.set_cons_zero]; exact rfl)) ?_
  refine lw_pu (wan_none rfl) (pu_pick_t rfl (by (simp only [ev, List.getD_cons_succ, List.getD_cons_zero]; exact rfl))) (by (simp only [setD, List.set_cons_succ, List.set_cons_zero]; exact rfl)) ?_
  refine lw_pu (wan_none rfl) (pu_move (by (simp only [ev, List.getD_cons_succ, List.getD_cons_zero]; exact rfl))) (by (simp only [setD, List.set_cons_succ, List.set_cons_zero]; exact rfl)) ?_
  refine lw_split_d rfl rfl rfl (by (simp only [List.set_cons_succ, List.set_cons_zero]; exact rfl)) (by (simp only [List.set_cons_succ, List.set_cons_zero]; exact rfl)) (fun hq => ?_) (fun hq => ?_)
  refine lw_pu (wan_some rfl rfl rfl) (pu_move (by (simp only [ev, List.getD_cons_succ, List.getD_cons_zero]; exact rfl))) (by (simp only [setD, List.set_cons_succ, List.set_cons_zero]; exact rfl)) ?_
  refine lw_pu (wan_some rfl rfl rfl) (pu_move (by (simp only [ev, List.getD_cons_succ, List.getD_cons_zero]; exact rfl))) (by (simp only [setD, List.set_cons_succ, List.set_cons_zero]; exact rfl)) ?_
  refine lw_pu (wan_some rfl rfl rfl) (pu_index rfl rfl (by omega)) (by (simp only [setD, List.set_cons_succ, List.set_cons_zero]; exact rfl)) ?_
  refine lw_pu (wan_some rfl rfl rfl) (pu_neq rfl rfl) (by (simp only [setD, List.set_cons_succ, List.set_cons_zero]; exact rfl)) ?_
  refine lw_pu (wan_none rfl) (pu_pick_t rfl (by (simp only [ev, List.getD_cons_succ, List.getD_cons_zero]; exact rfl))) (by (simp only [setD, List.set_cons_succ, List.set_cons_zero]; exact rfl)) ?_
  refine lw_pu (wan_none rfl) (pu_move (by (simp only [ev, List.getD_cons_succ, List.getD_cons_zero]; exact rfl))) (by (simp only [setD, List.set_cons_succ, List.set_cons_zero]; exact rfl)) ?_
  refine lw_split_d rfl rfl rfl (by (simp only [List.set_cons_succ, List.set_cons_zero]; exact rfl)) (by (simp only [List.set_cons_succ, List.set_cons_zero]; exact rfl)) (fun hq => ?_) (fun hq => ?_)
  refine lw_pu (wan_some rfl rfl rfl) (pu_move (by (simp only [ev, List.getD_cons_succ, List.getD_cons_zero]; exact rfl))) (by (simp only [setD, List.set_cons_succ, List.set_cons_zero]; exact rfl)) ?_
  refine lw_pu (wan_some rfl rfl rfl) (pu_move (by (simp only [ev, List.getD_cons_succ, List.getD_cons_zero]; exact rfl))) (by (simp only [setD, List.set_cons_succ, List.set_cons_zero]; exact rfl)) ?_
  refine lw_pu (wan_some rfl rfl rfl) (pu_index rfl rfl (by omega)) (by (simp only [setD, List.set_cons_succ, List.set_cons_zero]; exact rfl)) ?_
  refine lw_pu (wan_some rfl rfl rfl) (pu_neq rfl rfl) (by (simp only [setD, List.set_cons_succ, List.set_cons_zero]; exact rfl)) ?_
  refine lw_pu (wan_none rfl) (pu_pick_t rfl (by (simp only [ev, List.getD_cons_succ, List.getD_cons_zero]; exact rfl))) (by (simp only [setD, List.set_cons_succ, List.set_cons_zero]; exact rfl)) ?_
  refine lw_pu (wan_none rfl) (pu_move (by (simp only [ev, List.getD_cons_succ, List.getD_cons_zero]; exact rfl))) (by (simp only [setD, List.set_cons_succ, List.set_cons_zero]; exact rfl)) ?_
  refine lw_split_d rfl rfl rfl (by (simp only [List.set_cons_succ, List.set_cons_zero]; exact rfl)) (by (simp only [List.set_cons_succ, List.set_cons_zero]; exact rfl)) (fun hq => ?_) (fun hq => ?_)
  refine lw_pu (wan_some rfl rfl rfl) (pu_move (by (simp only [ev, List.getD_cons_succ, List.getD_cons_zero]; exact rfl))) (by (simp only [setD, List.set_cons_succ, List.set_cons_zero]; exact rfl)) ?_
  refine lw_pu (wan_some rfl rfl rfl) (pu_move (by (simp only [ev, List.getD_cons_succ, List.getD_cons_zero]; exact rfl))) (by (simp only [setD, List.set_cons_succ, List.set_cons_zero]; exact rfl)) ?_
  refine lw_pu (wan_some rfl rfl rfl) (pu_index rfl rfl (by omega)) (by (simp only [setD, List.set_cons_succ, List.set_cons_zero]; exact rfl)) ?_
  refine lw_pu (wan_some rfl rfl rfl) (pu_neq rfl rfl) (by (simp only [setD, List.set_cons_succ, List.set_cons_zero]; exact rfl)) ?_
  refine lw_pu (wan_none rfl) (pu_pick_t rfl (by (simp only [ev, List.getD_cons_succ, List.getD_cons_zero]; exact rfl))) (by (simp only [setD, List.set_cons_succ, List.set_cons_zero]; exact rfl)) ?_
  refine lw_nil ?_; refine hK _ _ ?_; clear hK K
  refine tw_cond_ds rfl (by (simp only [List.set_cons_succ, List.set_cons_zero]; exact rfl)) (by (simp only [List.set_cons_succ, List.set_cons_zero]; exact rfl)) (fun hq => ?_) (fun hq => ?_)
  refine tw_exit rfl ?_
  refine tw_region (fun K hK => ?_)
  refine lw_pu (wan_none rfl) (pu_move (by (simp only [ev, List.getD_cons_succ, List.getD_cons_zero]; exact rfl))) (by (simp only [setD, List.set_cons_succ, List.set_cons_zero]; exact rfl)) ?_
  first | refine lw_pu (wan_none rfl) (pu_addn (n := 1) rfl rfl (by omega)) (by (simp only [setD, List.set_cons_succ, List.set_cons_zero]; exact rfl)) ?_ | refine lw_pu (wan_none rfl) (pu_addi rfl rfl (by omega) (by omega)) (by (simp only [setD, List.set_cons_succ, List.set_cons_zero]; exact rfl)) ?_ | refine lw_pu (wan_none rfl) (pu_add rfl rfl) (by (simp only [setD, List.set_cons_succ, List.set_cons_zero]; exact rfl)) ?_
  refine lw_pu (wan_none rfl) (pu_assign (by (simp only [ev, List.getD_cons_succ, List.getD_cons_zero]; exact rfl))) (by (simp only [setD, List.set_cons_succ, List.set_cons_zero]; exact rfl)) ?_
  refine lw_nil ?_; refine hK _ _ ?_; clear hK K
  rotate_left 1
  refine tw_skip ?_
  refine tw_seq ?_
  refine tw_seq ?_
  refine tw_region (fun K hK => ?_)
  refine lw_pu (wan_none rfl) (pu_move (by (simp only [ev, List.getD_cons_succ, List.getD_cons_zero]; exact rfl))) (by (simp only [setD, List.set_cons_succ, List.set_cons_zero]; exact rfl)) ?_
  refine lw_pu (wan_none rfl) (pu_move (by (simp only [ev, List.getD_cons_succ, List.getD_cons_zero]; exact rfl))) (by (simp only [setD, List.set_cons_succ, List.set_cons_zero]; exact rfl)) ?_
  refine lw_pu (wan_none rfl) (pu_gtr rfl rfl) (by (simp only [setD, List.set_cons_succ, List.set_cons_zero]; exact rfl)) ?_
  refine lw_nil ?_; refine hK _ _ ?_; clear hK K
  refine tw_cond_ds rfl (by (simp only [List.set_cons_succ, List.set_cons_zero]; exact rfl)) (by (simp only [List.set_cons_succ, List.set_cons_zero]; exact rfl)) (fun hq => ?_) (fun hq => ?_)
  refine tw_region (fun K hK => ?_)
  refine lw_pu (wan_none rfl) (pu_move (by (simp only [ev, List.getD_cons_succ, List.getD_cons_zero]; exact rfl))) (by (simp only [setD, List.set_cons_succ, List.set_cons_zero]; exact rfl)) ?_
  refine lw_pu (wan_none rfl) (pu_move (by (simp only [ev, List.getD_cons_succ, List.getD_cons_zero]; exact rfl))) (by (simp only [setD, List.set_cons_succ, List.set_cons_zero]; exact rfl)) ?_
  refine lw_pu (wan_none rfl) (pu_move (by (simp only [ev, List.getD_cons_succ, List.getD_cons_zero]; exact rfl))) (by (simp only [setD, List.set_cons_succ, List.set_cons_zero]; exact rfl)) ?_
  refine lw_pu (wan_none rfl) (pu_move (by (simp only [ev, List.getD_cons_succ, List.getD_cons_zero]; exact rfl))) (by (simp only [setD, List.set_cons_succ, List.set_cons_zero]; exact rfl)) ?_
  refine lw_pu (wan_none rfl) (pu_slices rfl rfl rfl (by omega) (by omega)) (by (simp only [setD, List.set_cons_succ, List.set_cons_zero]; exact rfl)) ?_
  refine lw_buildSlice1 (wan_none rfl) (by exact rfl) (by (simp only [ev, List.getD_cons_succ, List.getD_cons_zero]; exact rfl)) (by exact rfl) (by exact rfl) (by decide) (by decide) hm ?_; clear hm; intro b54 h hm; refine lw_norm (by (simp only [setD, List.set_cons_succ, List.set_cons_zero]; exact rfl)) ?_
  refine lw_append1t (L1 := [_]) (wan_none rfl) rfl rfl (by exact rfl) hm (by assumption) (by exact rfl) (hm.row (j := 0) rfl) (by exact rfl) (by simp [Value.oneCell']) (by decide) (by decide) (by omega) ?_; clear hm; intro q55 cp55 Lv55 h hs55 hm; (try simp only [List.cons_append, List.nil_append] at hm); refine lw_norm (by (simp only [setD, List.set_cons_succ, List.set_cons_zero]; exact rfl)) ?_
  refine lw_pu (wan_none rfl) (pu_assign (by (simp only [ev, List.getD_cons_succ, List.getD_cons_zero]; exact rfl))) (by (simp only [setD, List.set_cons_succ, List.set_cons_zero]; exact rfl)) ?_
  refine lw_nil ?_; refine hK _ _ ?_; clear hK K
  refine tw_region (fun K hK => ?_)
  refine lw_pu (wan_none rfl) (pu_move (by (simp only [ev, List.getD_cons_succ, List.getD_cons_zero]; exact rfl))) (by (simp only [setD, List.set_cons_succ, List.set_cons_zero]; exact rfl)) ?_
  first | refine lw_pu (wan_none rfl) (pu_addn (n := 1) rfl rfl (by omega)) (by (simp only [setD, List.set_cons_succ, List.set_cons_zero]; exact rfl)) ?_ | refine lw_pu (wan_none rfl) (pu_addi rfl rfl (by omega) (by omega)) (by (simp only [setD, List.set_cons_succ, List.set_cons_zero]; exact rfl)) ?_ | refine lw_pu (wan_none rfl) (pu_add rfl rfl) (by (simp only [setD, List.set_cons_succ, List.set_cons_zero]; exact rfl)) ?_
  refine lw_pu (wan_none rfl) (pu_assign (by (simp only [ev, List.getD_cons_succ, List.getD_cons_zero]; exact rfl))) (by (simp only [setD, List.set_cons_succ, List.set_cons_zero]; exact rfl)) ?_
  refine lw_nil ?_; refine hK _ _ ?_; clear hK K
  refine tw_inBlock ?_
  refine tw_region (fun K hK => ?_)
  refine lw_pu (wan_none rfl) (pu_move (by (simp only [ev, List.getD_cons_succ, List.getD_cons_zero]; exact rfl))) (by (simp only [setD, List.set_cons_succ, List.set_cons_zero]; exact rfl)) ?_
  first | refine lw_pu (wan_none rfl) (pu_addn (n := 1) rfl rfl (by omega)) (by (simp only [setD, List.set_cons_succ, List.set_cons_zero]; exact rfl)) ?_ | refine lw_pu (wan_none rfl) (pu_addi rfl rfl (by omega) (by omega)) (by (simp only [setD, List.set_cons_succ, List.set_cons_zero]; exact rfl)) ?_ | refine lw_pu (wan_none rfl) (pu_add rfl rfl) (by (simp only [setD, List.set_cons_succ, List.set_cons_zero]; exact rfl)) ?_
  refine lw_pu (wan_none rfl) (pu_assign (by (simp only [ev, List.getD_cons_succ, List.getD_cons_zero]; exact rfl))) (by (simp only [setD, List.set_cons_succ, List.set_cons_zero]; exact rfl)) ?_
  refine lw_nil ?_; refine hK _ _ ?_; clear hK K
  rotate_left 1
  refine tw_skip ?_
  refine tw_region (fun K hK => ?_)
  refine lw_pu (wan_none rfl) (pu_move (by (simp only [ev, List.getD_cons_succ, List.getD_cons_zero]; exact rfl))) (by (simp only [setD, List.set_cons_succ, List.set_cons_zero]; exact rfl)) ?_
  first | refine lw_pu (wan_none rfl) (pu_addn (n := 1) rfl rfl (by omega)) (by (simp only [setD, List.set_cons_succ, List.set_cons_zero]; exact rfl)) ?_ | refine lw_pu (wan_none rfl) (pu_addi rfl rfl (by omega) (by omega)) (by (simp only [setD, List.set_cons_succ, List.set_cons_zero]; exact rfl)) ?_ | refine lw_pu (wan_none rfl) (pu_add rfl rfl) (by (simp only [setD, List.set_cons_succ, List.set_cons_zero]; exact rfl)) ?_
  refine lw_pu (wan_none rfl) (pu_assign (by (simp only [ev, List.getD_cons_succ, List.getD_cons_zero]; exact rfl))) (by (simp only [setD, List.set_cons_succ, List.set_cons_zero]; exact rfl)) ?_
  refine lw_nil ?_; refine hK _ _ ?_; clear hK K
  refine tw_inBlock ?_
  refine tw_region (fun K hK => ?_)
  refine lw_pu (wan_none rfl) (pu_move (by (simp only [ev, List.getD_cons_succ, List.getD_cons_zero]; exact rfl))) (by (simp only [setD, List.set_cons_succ, List.set_cons_zero]; exact rfl)) ?_
  first | refine lw_pu (wan_none rfl) (pu_addn (n := 1) rfl rfl (by omega)) (by (simp only [setD, List.set_cons_succ, List.set_cons_zero]; exact rfl)) ?_ | refine lw_pu (wan_none rfl) (pu_addi rfl rfl (by omega) (by omega)) (by (simp only [setD, List.set_cons_succ, List.set_cons_zero]; exact rfl)) ?_ | refine lw_pu (wan_none rfl) (pu_add rfl rfl) (by (simp only [setD, List.set_cons_succ, List.set_cons_zero]; exact rfl)) ?_
  refine lw_pu (wan_none rfl) (pu_assign (by (simp only [ev, List.getD_cons_succ, List.getD_cons_zero]; exact rfl))) (by (simp only [setD, List.set_cons_succ, List.set_cons_zero]; exact rfl)) ?_
  refine lw_nil ?_; refine hK _ _ ?_; clear hK K
  rotate_left 1
  refine lw_skip_b rfl rfl rfl (by (simp only [setD, List.set_cons_succ, List.set_cons_zero]; exact rfl)) ?_
  refine lw_skip_b rfl rfl rfl (by (simp only [setD, List.set_cons_succ, List.set_cons_zero]; exact rfl)) ?_
  refine lw_skip_b rfl rfl rfl (by (simp only [setD, List.set_cons_succ, List.set_cons_zero]; exact rfl)) ?_
  refine lw_skip_b rfl rfl rfl (by (simp only [setD, List.set_cons_succ, List.set_cons_zero]; exact rfl)) ?_
  refine lw_pu (wan_none rfl) (pu_pick_f rfl (by (simp only [ev, List.getD_cons_succ, List.getD_cons_zero]; exact rfl))) (by (simp only [setD, List.set_cons_succ, List.set_cons_zero]; exact rfl)) ?_
  refine lw_nil ?_; refine hK _ _ ?_; clear hK K
  refine tw_cond_f rfl ?_
  refine tw_skip ?_
  refine tw_seq ?_
  refine tw_seq ?_
  refine tw_region (fun K hK => ?_)
  refine lw_pu (wan_none rfl) (pu_move (by (simp only [ev, List.getD_cons_succ, List.getD_cons_zero]; exact rfl))) (by (simp only [setD, List.set_cons_succ, List.set_cons_zero]; exact rfl)) ?_
  refine lw_pu (wan_none rfl) (pu_move (by (simp only [ev, List.getD_cons_succ, List.getD_cons_zero]; exact rfl))) (by (simp only [setD, List.set_cons_succ, List.set_cons_zero]; exact rfl)) ?_
  refine lw_pu (wan_none rfl) (pu_gtr rfl rfl) (by (simp only [setD, List.set_cons_succ, List.set_cons_zero]; exact rfl)) ?_
  refine lw_nil ?_; refine hK _ _ ?_; clear hK K
  refine tw_cond_ds rfl (by (simp only [List.set_cons_succ, List.set_cons_zero]; exact rfl)) (by (simp only [List.set_cons_succ, List.set_cons_zero]; exact rfl)) (fun hq => ?_) (fun hq => ?_)
  refine tw_region (fun K hK => ?_)
  refine lw_pu (wan_none rfl) (pu_move (by (simp only [ev, List.getD_cons_succ, List.getD_cons_zero]; exact rfl))) (by (simp only [setD, List.set_cons_succ, List.set_cons_zero]; exact rfl)) ?_
  refine lw_pu (wan_none rfl) (pu_move (by (simp only [ev, List.getD_cons_succ, List.getD_cons_zero]; exact rfl))) (by (simp only [setD, List.set_cons_succ, List.set_cons_zero]; exact rfl)) ?_
  refine lw_pu (wan_none rfl) (pu_move (by (simp only [ev, List.getD_cons_succ, List.getD_cons_zero]; exact rfl))) (by (simp only [setD, List.set_cons_succ, List.set_cons_zero]; exact rfl)) ?_
  refine lw_pu (wan_none rfl) (pu_move (by (simp only [ev, List.getD_cons_succ, List.getD_cons_zero]; exact rfl))) (by (simp only [setD, List.set_cons_succ, List.set_cons_zero]; exact rfl)) ?_
  refine lw_pu (wan_none rfl) (pu_slices rfl rfl rfl (by omega) (by omega)) (by (simp only [setD, List.set_cons_succ, List.set_cons_zero]; exact rfl)) ?_
  refine lw_buildSlice1 (wan_none rfl) (by exact rfl) (by (simp only [ev, List.getD_cons_succ, List.getD_cons_zero]; exact rfl)) (by exact rfl) (by exact rfl) (by decide) (by decide) hm ?_; clear hm; intro b54 h hm; refine lw_norm (by (simp only [setD, List.set_cons_succ, List.set_cons_zero]; exact rfl)) ?_
  refine lw_append1t (L1 := [_]) (wan_none rfl) rfl rfl (by exact rfl) hm (by assumption) (by exact rfl) (hm.row (j := 0) rfl) (by exact rfl) (by simp [Value.oneCell']) (by decide) (by decide) (by omega) ?_; clear hm; intro q55 cp55 Lv55 h hs55 hm; (try simp only [List.cons_append, List.nil_append] at hm); refine lw_norm (by (simp only [setD, List.set_cons_succ, List.set_cons_zero]; exact rfl)) ?_
  refine lw_pu (wan_none rfl) (pu_assign (by (simp only [ev, List.getD_cons_succ, List.getD_cons_zero]; exact rfl))) (by (simp only [setD, List.set_cons_succ, List.set_cons_zero]; exact rfl)) ?_
  refine lw_nil ?_; refine hK _ _ ?_; clear hK K
  refine tw_region (fun K hK => ?_)
  refine lw_pu (wan_none rfl) (pu_move (by (simp only [ev, List.getD_cons_succ, List.getD_cons_zero]; exact rfl))) (by (simp only [setD, List.set_cons_succ, List.set_cons_zero]; exact rfl)) ?_
  first | refine lw_pu (wan_none rfl) (pu_addn (n := 1) rfl rfl (by omega)) (by (simp only [setD, List.set_cons_succ, List.set_cons_zero]; exact rfl)) ?_ | refine lw_pu (wan_none rfl) (pu_addi rfl rfl (by omega) (by omega)) (by (simp only [setD, List.set_cons_succ, List.set_cons_zero]; exact rfl)) ?_ | refine lw_pu (wan_none rfl) (pu_add rfl rfl) (by (simp only [setD, List.set_cons_succ, List.set_cons_zero]; exact rfl)) ?_
  refine lw_pu (wan_none rfl) (pu_assign (by (simp only [ev, List.getD_cons_succ, List.getD_cons_zero]; exact rfl))) (by (simp only [setD, List.set_cons_succ, List.set_cons_zero]; exact rfl)) ?_
  refine lw_nil ?_; refine hK _ _ ?_; clear hK K
  refine tw_inBlock ?_
  refine tw_region (fun K hK => ?_)
  refine lw_pu (wan_none rfl) (pu_move (by (simp only [ev, List.getD_cons_succ, List.getD_cons_zero]; exact rfl))) (by (simp only [setD, List.set_cons_succ, List.set_cons_zero]; exact rfl)) ?_
  first | refine lw_pu (wan_none rfl) (pu_addn (n := 1) rfl rfl (by omega)) (by (simp only [setD, List.set_cons_succ, List.set_cons_zero]; exact rfl)) ?_ | refine lw_pu (wan_none rfl) (pu_addi rfl rfl (by omega) (by omega)) (by (simp only [setD, List.set_cons_succ, List.set_cons_zero]; exact rfl)) ?_ | refine lw_pu (wan_none rfl) (pu_add rfl rfl) (by (simp only [setD, List.set_cons_succ, List.set_cons_zero]; exact rfl)) ?_
  refine lw_pu (wan_none rfl) (pu_assign (by (simp only [ev, List.getD_cons_succ, List.getD_cons_zero]; exact rfl))) (by (simp only [setD, List.set_cons_succ, List.set_cons_zero]; exact rfl)) ?_
  refine lw_nil ?_; refine hK _ _ ?_; clear hK K
  rotate_left 1
  refine tw_skip ?_
  refine tw_region (fun K hK => ?_)
  refine lw_pu (wan_none rfl) (pu_move (by (simp only [ev, List.getD_cons_succ, List.getD_cons_zero]; exact rfl))) (by (simp only [setD, List.set_cons_succ, List.set_cons_zero]; exact rfl)) ?_
  first | refine lw_pu (wan_none rfl) (pu_addn (n := 1) rfl rfl (by omega)) (by (simp only [setD, List.set_cons_succ, List.set_cons_zero]; exact rfl)) ?_ | refine lw_pu (wan_none rfl) (pu_addi rfl rfl (by omega) (by omega)) (by (simp only [setD, List.set_cons_succ, List.set_cons_zero]; exact rfl)) ?_ | refine lw_pu (wan_none rfl) (pu_add rfl rfl) (by (simp only [setD, List.set_cons_succ, List.set_cons_zero]; exact rfl)) ?_
  refine lw_pu (wan_none rfl) (pu_assign (by (simp only [ev, List.getD_cons_succ, List.getD_cons_zero]; exact rfl))) (by (simp only [setD, List.set_cons_succ, List.set_cons_zero]; exact rfl)) ?_
  refine lw_nil ?_; refine hK _ _ ?_; clear hK K
  refine tw_inBlock ?_
  refine tw_region (fun K hK => ?_)
  refine lw_pu (wan_none rfl) (pu_move (by (simp only [ev, List.getD_cons_succ, List.getD_cons_zero]; exact rfl))) (by (simp only [setD, List.set_cons_succ, List.set_cons_zero]; exact rfl)) ?_
  first | refine lw_pu (wan_none rfl) (pu_addn (n := 1) rfl rfl (by omega)) (by (simp only [setD, List.set_cons_succ, List.set_cons_zero]; exact rfl)) ?_ | refine lw_pu (wan_none rfl) (pu_addi rfl rfl (by omega) (by omega)) (by (simp only [setD, List.set_cons_succ, List.set_cons_zero]; exact rfl)) ?_ | refine lw_pu (wan_none rfl) (pu_add rfl rfl) (by (simp only [setD, List.set_cons_succ, List.set_cons_zero]; exact rfl)) ?_
  refine lw_pu (wan_none rfl) (pu_assign (by (simp only [ev, List.getD_cons_succ, List.getD_cons_zero]; exact rfl))) (by (simp only [setD, List.set_cons_succ, List.set_cons_zero]; exact rfl)) ?_
  refine lw_nil ?_; refine hK _ _ ?_; clear hK K
  rotate_left 1
  refine lw_skip_b rfl rfl rfl (by (simp only [setD, List.set_cons_succ, List.set_cons_zero]; exact rfl)) ?_
  refine lw_skip_b rfl rfl rfl (by (simp only [setD, List.set_cons_succ, List.set_cons_zero]; exact rfl)) ?_
  refine lw_skip_b rfl rfl rfl (by (simp only [setD, List.set_cons_succ, List.set_cons_zero]; exact rfl)) ?_
  refine lw_skip_b rfl rfl rfl (by (simp only [setD, List.set_cons_succ, List.set_cons_zero]; exact rfl)) ?_
  refine lw_pu (wan_none rfl) (pu_pick_f rfl (by (simp only [ev, List.getD_cons_succ, List.getD_cons_zero]; exact rfl))) (by (simp only [setD, List.set_cons_succ, List.set_cons_zero]; exact rfl)) ?_
  refine lw_pu (wan_none rfl) (pu_move (by (simp only [ev, List.getD_cons_succ, List.getD_cons_zero]; exact rfl))) (by (simp only [setD, List.set_cons_succ, List.set_cons_zero]; exact rfl)) ?_
  refine lw_skip_b rfl rfl rfl (by (simp only [setD, List.set_cons_succ, List.set_cons_zero]; exact rfl)) ?_
  refine lw_skip_b rfl rfl rfl (by (simp only [setD, List.set_cons_succ, List.set_cons_zero]; exact rfl)) ?_
  refine lw_skip_b rfl rfl rfl (by (simp only [setD, List.set_cons_succ, List.set_cons_zero]; exact rfl)) ?_
  refine lw_skip_b rfl rfl rfl (by (simp only [setD, List.set_cons_succ, List.set_cons_zero]; exact rfl)) ?_
  refine lw_pu (wan_none rfl) (pu_pick_f rfl (by (simp only [ev, List.getD_cons_succ, List.getD_cons_zero]; exact rfl))) (by (simp only [setD, List.set_cons_succ, List.set_cons_zero]; exact rfl)) ?_
  refine lw_nil ?_; refine hK _ _ ?_; clear hK K
  refine tw_cond_f rfl ?_
  refine tw_skip ?_
  refine tw_seq ?_
  refine tw_seq ?_
  refine tw_region (fun K hK => ?_)
  refine lw_pu (wan_none rfl) (pu_move (by (simp only [ev, List.getD_cons_succ, List.getD_cons_zero]; exact rfl))) (by (simp only [setD, List.set_cons_succ, List.set_cons_zero]; exact rfl)) ?_
  refine lw_pu (wan_none rfl) (pu_move (by (simp only [ev, List.getD_cons_succ, List.getD_cons_zero]; exact rfl))) (by (simp only [setD, List.set_cons_succ, List.set_cons_zero]; exact rfl)) ?_
  refine lw_pu (wan_none rfl) (pu_gtr rfl rfl) (by (simp only [setD, List.set_cons_succ, List.set_cons_zero]; exact rfl)) ?_
  refine lw_nil ?_; refine hK _ _ ?_; clear hK K
  refine tw_cond_ds rfl (by (simp only [List.set_cons_succ, List.set_cons_zero]; exact rfl)) (by (simp only [List.set_cons_succ, List.set_cons_zero]; exact rfl)) (fun hq => ?_) (fun hq => ?_)
  refine tw_region (fun K hK => ?_)
  refine lw_pu (wan_none rfl) (pu_move (by (simp only [ev, List.getD_cons_succ, List.getD_cons_zero]; exact rfl))) (by (simp only [setD, List.set_cons_succ, List.set_cons_zero]; exact rfl)) ?_
  refine lw_pu (wan_none rfl) (pu_move (by (simp only [ev, List.getD_cons_succ, List.getD_cons_zero]; exact rfl))) (by (simp only [setD, List.set_cons_succ, List.set_cons_zero]; exact rfl)) ?_
  refine lw_pu (wan_none rfl) (pu_move (by (simp only [ev, List.getD_cons_succ, List.getD_cons_zero]; exact rfl))) (by (simp only [setD, List.set_cons_succ, List.set_cons_zero]; exact rfl)) ?_
  refine lw_pu (wan_none rfl) (pu_move (by (simp only [ev, List.getD_cons_succ, List.getD_cons_zero]; exact rfl))) (by (simp only [setD, List.set_cons_succ, List.set_cons_zero]; exact rfl)) ?_
  refine lw_pu (wan_none rfl) (pu_slices rfl rfl rfl (by omega) (by omega)) (by (simp only [setD, List.set_cons_succ, List.set_cons_zero]; exact rfl)) ?_
  refine lw_buildSlice1 (wan_none rfl) (by exact rfl) (by (simp only [ev, List.getD_cons_succ, List.getD_cons_zero]; exact rfl)) (by exact rfl) (by exact rfl) (by decide) (by decide) hm ?_; clear hm; intro b54 h hm; refine lw_norm (by (simp only [setD, List.set_cons_succ, List.set_cons_zero]; exact rfl)) ?_
  refine lw_append1t (L1 := [_]) (wan_none rfl) rfl rfl (by exact rfl) hm (by assumption) (by exact rfl) (hm.row (j := 0) rfl) (by exact rfl) (by simp [Value.oneCell']) (by decide) (by decide) (by omega) ?_; clear hm; intro q55 cp55 Lv55 h hs55 hm; (try simp only [List.cons_append, List.nil_append] at hm); refine lw_norm (by (simp only [setD, List.set_cons_succ, List.set_cons_zero]; exact rfl)) ?_
  refine lw_pu (wan_none rfl) (pu_assign (by (simp only [ev, List.getD_cons_succ, List.getD_cons_zero]; exact rfl))) (by (simp only [setD, List.set_cons_succ, List.set_cons_zero]; exact rfl)) ?_
  refine lw_nil ?_; refine hK _ _ ?_; clear hK K
  refine tw_region (fun K hK => ?_)
  refine lw_pu (wan_none rfl) (pu_move (by (simp only [ev, List.getD_cons_succ, List.getD_cons_zero]; exact rfl))) (by (simp only [setD, List.set_cons_succ, List.set_cons_zero]; exact rfl)) ?_
  first | refine lw_pu (wan_none rfl) (pu_addn (n := 1) rfl rfl (by omega)) (by (simp only [setD, List.set_cons_succ, List.set_cons_zero]; exact rfl)) ?_ | refine lw_pu (wan_none rfl) (pu_addi rfl rfl (by omega) (by omega)) (by (simp only [setD, List.set_cons_succ, List.set_cons_zero]; exact rfl)) ?_ | refine lw_pu (wan_none rfl) (pu_add rfl rfl) (by (simp only [setD, List.set_cons_succ, List.set_cons_zero]; exact rfl)) ?_
  refine lw_pu (wan_none rfl) (pu_assign (by (simp only [ev, List.getD_cons_succ, List.getD_cons_zero]; exact rfl))) (by (simp only [setD, List.set_cons_succ, List.set_cons_zero]; exact rfl)) ?_
  refine lw_nil ?_; refine hK _ _ ?_; clear hK K
  refine tw_inBlock ?_
  refine tw_region (fun K hK => ?_)
  refine lw_pu (wan_none rfl) (pu_move (by (simp only [ev, List.getD_cons_succ, List.getD_cons_zero]; exact rfl))) (by (simp only [setD, List.set_cons_succ, List.set_cons_zero]; exact rfl)) ?_
  first | refine lw_pu (wan_none rfl) (pu_addn (n := 1) rfl rfl (by omega)) (by (simp only [setD, List.set_cons_succ, List.set_cons_zero]; exact rfl)) ?_ | refine lw_pu (wan_none rfl) (pu_addi rfl rfl (by omega) (by omega)) (by (simp only [setD, List.set_cons_succ, List.set_cons_zero]; exact rfl)) ?_ | refine lw_pu (wan_none rfl) (pu_add rfl rfl) (by (simp only [setD, List.set_cons_succ, List.set_cons_zero]; exact rfl)) ?_
  refine lw_pu (wan_none rfl) (pu_assign (by (simp only [ev, List.getD_cons_succ, List.getD_cons_zero]; exact rfl))) (by (simp only [setD, List.set_cons_succ, List.set_cons_zero]; exact rfl)) ?_
  refine lw_nil ?_; refine hK _ _ ?_; clear hK K
  rotate_left 1
  refine tw_skip ?_
  refine tw_region (fun K hK => ?_)
  refine lw_pu (wan_none rfl) (pu_move (by (simp only [ev, List.getD_cons_succ, List.getD_cons_zero]; exact rfl))) (by (simp only [setD, List.set_cons_succ, List.set_cons_zero]; exact rfl)) ?_
  first | refine lw_pu (wan_none rfl) (pu_addn (n := 1) rfl rfl (by omega)) (by (simp only [setD, List.set_cons_succ, List.set_cons_zero]; exact rfl)) ?_ | refine lw_pu (wan_none rfl) (pu_addi rfl rfl (by omega) (by omega)) (by (simp only [setD, List.set_cons_succ, List.set_cons_zero]; exact rfl)) ?_ | refine lw_pu (wan_none rfl) (pu_add rfl rfl) (by (simp only [setD, List.set_cons_succ, List.set_cons_zero]; exact rfl)) ?_
  refine lw_pu (wan_none rfl) (pu_assign (by (simp only [ev, List.getD_cons_succ, List.getD_cons_zero]; exact rfl))) (by (simp only [setD, List.set_cons_succ, List.set_cons_zero]; exact rfl)) ?_
  refine lw_nil ?_; refine hK _ _ ?_; clear hK K
  refine tw_inBlock ?_
  refine tw_region (fun K hK => ?_)
  refine lw_pu (wan_none rfl) (pu_move (by (simp only [ev, List.getD_cons_succ, List.getD_cons_zero]; exact rfl))) (by (simp only [setD, List.set_cons_succ, List.set_cons_zero]; exact rfl)) ?_
  first | refine lw_pu (wan_none rfl) (pu_addn (n := 1) rfl rfl (by omega)) (by (simp only [setD, List.set_cons_succ, List.set_cons_zero]; exact rfl)) ?_ | refine lw_pu (wan_none rfl) (pu_addi rfl rfl (by omega) (by omega)) (by (simp only [setD, List.set_cons_succ, List.set_cons_zero]; exact rfl)) ?_ | refine lw_pu (wan_none rfl) (pu_add rfl rfl) (by (simp only [setD, List.set_cons_succ, List.set_cons_zero]; exact rfl)) ?_
  refine lw_pu (wan_none rfl) (pu_assign (by (simp only [ev, List.getD_cons_succ, List.getD_cons_zero]; exact rfl))) (by (simp only [setD, List.set_cons_succ, List.set_cons_zero]; exact rfl)) ?_
  refine lw_nil ?_; refine hK _ _ ?_; clear hK K
  rotate_left 1
  refine lw_skip_b rfl rfl rfl (by (simp only [setD, List.set_cons_succ, List.set_cons_zero]; exact rfl)) ?_
  refine lw_skip_b rfl rfl rfl (by (simp only [setD, List.set_cons_succ, List.set_cons_zero]; exact rfl)) ?_
  refine lw_skip_b rfl rfl rfl (by (simp only [setD, List.set_cons_succ, List.set_cons_zero]; exact rfl)) ?_
  refine lw_skip_b rfl rfl rfl (by (simp only [setD, List.set_cons_succ, List.set_cons_zero]; exact rfl)) ?_
  refine lw_pu (wan_none rfl) (pu_pick_f rfl (by (simp only [ev, List.getD_cons_succ, List.getD_cons_zero]; exact rfl))) (by (simp only [setD, List.set_cons_succ, List.set_cons_zero]; exact rfl)) ?_
  refine lw_pu (wan_none rfl) (pu_move (by (simp only [ev, List.getD_cons_succ, List.getD_cons_zero]; exact rfl))) (by (simp only [setD, List.set_cons_succ, List.set_cons_zero]; exact rfl)) ?_
  refine lw_skip_b rfl rfl rfl (by (simp only [setD, List.set_cons_succ, List.set_cons_zero]; exact rfl)) ?_
  refine lw_skip_b rfl rfl rfl (by (simp only [setD, List.set_cons_succ, List.set_cons_zero]; exact rfl)) ?_
  refine lw_skip_b rfl rfl rfl (by (simp only [setD, List.set_cons_succ, List.set_cons_zero]; exact rfl)) ?_
  refine lw_skip_b rfl rfl rfl (by (simp only [setD, List.set_cons_succ, List.set_cons_zero]; exact rfl)) ?_
  refine lw_pu (wan_none rfl) (pu_pick_f rfl (by (simp only [ev, List.getD_cons_succ, List.getD_cons_zero]; exact rfl))) (by (simp only [setD, List.set_cons_succ, List.set_cons_zero]; exact rfl)) ?_
  refine lw_pu (wan_none rfl) (pu_move (by (simp only [ev, List.getD_cons_succ, List.getD_cons_zero]; exact rfl))) (by (simp only [setD, List.set_cons_succ, List.set_cons_zero]; exact rfl)) ?_
  refine lw_skip_b rfl rfl rfl (by (simp only [setD, List.set_cons_succ, List.set_cons_zero]; exact rfl)) ?_
  refine lw_skip_b rfl rfl rfl (by (simp only [setD, List.set_cons_succ, List.set_cons_zero]; exact rfl)) ?_
  refine lw_skip_b rfl rfl rfl (by (simp only [setD, List.set_cons_succ, List.set_cons_zero]; exact rfl)) ?_
  refine lw_skip_b rfl rfl rfl (by (simp only [setD, List.set_cons_succ, List.set_cons_zero]; exact rfl)) ?_
  refine lw_pu (wan_none rfl) (pu_pick_f rfl (by (simp only [ev, List.getD_cons_succ, List.getD_cons_zero]; exact rfl))) (by (simp only [setD, List.set_cons_succ, List.set_cons_zero]; exact rfl)) ?_
  refine lw_nil ?_; refine hK _ _ ?_; clear hK K
  refine tw_cond_f rfl ?_
  refine tw_skip ?_
  refine tw_seq ?_
  refine tw_seq ?_
  refine tw_region (fun K hK => ?_)
  refine lw_pu (wan_none rfl) (pu_move (by (simp only [ev, List.getD_cons_succ, List.getD_cons_zero]; exact rfl))) (by (simp only [setD, List.set_cons_succ, List.set_cons_zero]; exact rfl)) ?_
  refine lw_pu (wan_none rfl) (pu_move (by (simp only [ev, List.getD_cons_succ, List.getD_cons_zero]; exact rfl))) (by (simp only [setD, List.set_cons_succ, List.set_cons_zero]; exact rfl)) ?_
  refine lw_pu (wan_none rfl) (pu_gtr rfl rfl) (by (simp only [setD, List.set_cons_succ, List.set_cons_zero]; exact rfl)) ?_
  refine lw_nil ?_; refine hK _ _ ?_; clear hK K
  refine tw_cond_ds rfl (by (simp only [List.set_cons_succ, List.set_cons_zero]; exact rfl)) (by (simp only [List.set_cons_succ, List.set_cons_zero]; exact rfl)) (fun hq => ?_) (fun hq => ?_)
  refine tw_region (fun K hK => ?_)
  refine lw_pu (wan_none rfl) (pu_move (by (simp only [ev, List.getD_cons_succ, List.getD_cons_zero]; exact rfl))) (by (simp only [setD, List.set_cons_succ, List.set_cons_zero]; exact rfl)) ?_
  refine lw_pu (wan_none rfl) (pu_move (by (simp only [ev, List.getD_cons_succ, List.getD_cons_zero]; exact rfl))) (by (simp only [setD, List.set_cons_succ, List.set_cons_zero]; exact rfl)) ?_
  refine lw_pu (wan_none rfl) (pu_move (by (simp only [ev, List.getD_cons_succ, List.getD_cons_zero]; exact rfl))) (by (simp only [setD, List.set_cons_succ, List.set_cons_zero]; exact rfl)) ?_
  refine lw_pu (wan_none rfl) (pu_move (by (simp only [ev, List.getD_cons_succ, List.getD_cons_zero]; exact rfl))) (by (simp only [setD, List.set_cons_succ, List.set_cons_zero]; exact rfl)) ?_
  refine lw_pu (wan_none rfl) (pu_slices rfl rfl rfl (by omega) (by omega)) (by (simp only [setD, List.set_cons_succ, List.set_cons_zero]; exact rfl)) ?_
  refine lw_buildSlice1 (wan_none rfl) (by exact rfl) (by (simp only [ev, List.getD_cons_succ, List.getD_cons_zero]; exact rfl)) (by exact rfl) (by exact rfl) (by decide) (by decide) hm ?_; clear hm; intro b54 h hm; refine lw_norm (by (simp only [setD, List.set_cons_succ, List.set_cons_zero]; exact rfl)) ?_
  refine lw_append1t (L1 := [_]) (wan_none rfl) rfl rfl (by exact rfl) hm (by assumption) (by exact rfl) (hm.row (j := 0) rfl) (by exact rfl) (by simp [Value.oneCell']) (by decide) (by decide) (by omega) ?_; clear hm; intro q55 cp55 Lv55 h hs55 hm; (try simp only [List.cons_append, List.nil_append] at hm); refine lw_norm (by (simp only [setD, List.set_cons_succ, List.set_cons_zero]; exact rfl)) ?_
  refine lw_pu (wan_none rfl) (pu_assign (by (simp only [ev, List.getD_cons_succ, List.getD_cons_zero]; exact rfl))) (by (simp only [setD, List.set_cons_succ, List.set_cons_zero]; exact rfl)) ?_
  refine lw_nil ?_; refine hK _ _ ?_; clear hK K
  refine tw_region (fun K hK => ?_)
  refine lw_pu (wan_none rfl) (pu_move (by (simp only [ev, List.getD_cons_succ, List.getD_cons_zero]; exact rfl))) (by (simp only [setD, List.set_cons_succ, List.set_cons_zero]; exact rfl)) ?_
  first | refine lw_pu (wan_none rfl) (pu_addn (n := 1) rfl rfl (by omega)) (by (simp only [setD, List.set_cons_succ, List.set_cons_zero]; exact rfl)) ?_ | refine lw_pu (wan_none rfl) (pu_addi rfl rfl (by omega) (by omega)) (by (simp only [setD, List.set_cons_succ, List.set_cons_zero]; exact rfl)) ?_ | refine lw_pu (wan_none rfl) (pu_add rfl rfl) (by (simp only [setD, List.set_cons_succ, List.set_cons_zero]; exact rfl)) ?_
  refine lw_pu (wan_none rfl) (pu_assign (by (simp only [ev, List.getD_cons_succ, List.getD_cons_zero]; exact rfl))) (by (simp only [setD, List.set_cons_succ, List.set_cons_zero]; exact rfl)) ?_
  refine lw_nil ?_; refine hK _ _ ?_; clear hK K
  refine tw_inBlock ?_
  refine tw_region (fun K hK => ?_)
  refine lw_pu (wan_none rfl) (pu_move (by (simp only [ev, List.getD_cons_succ, List.getD_cons_zero]; exact rfl))) (by (simp only [setD, List.set_cons_succ, List.set_cons_zero]; exact rfl)) ?_
  first | refine lw_pu (wan_none rfl) (pu_addn (n := 1) rfl rfl (by omega)) (by (simp only [setD, List.set_cons_succ, List.set_cons_zero]; exact rfl)) ?_ | refine lw_pu (wan_none rfl) (pu_addi rfl rfl (by omega) (by omega)) (by (simp only [setD, List.set_cons_succ, List.set_cons_zero]; exact rfl)) ?_ | refine lw_pu (wan_none rfl) (pu_add rfl rfl) (by (simp only [setD, List.set_cons_succ, List.set_cons_zero]; exact rfl)) ?_
  refine lw_pu (wan_none rfl) (pu_assign (by (simp only [ev, List.getD_cons_succ, List.getD_cons_zero]; exact rfl))) (by (simp only [setD, List.set_cons_succ, List.set_cons_zero]; exact rfl)) ?_
  refine lw_nil ?_; refine hK _ _ ?_; clear hK K
  rotate_left 1
  refine tw_skip ?_
  refine tw_region (fun K hK => ?_)
  refine lw_pu (wan_none rfl) (pu_move (by (simp only [ev, List.getD_cons_succ, List.getD_cons_zero]; exact rfl))) (by (simp only [setD, List.set_cons_succ, List.set_cons_zero]; exact rfl)) ?_
  first | refine lw_pu (wan_none rfl) (pu_addn (n := 1) rfl rfl (by omega)) (by (simp only [setD, List.set_cons_succ, List.set_cons_zero]; exact rfl)) ?_ | refine lw_pu (wan_none rfl) (pu_addi rfl rfl (by omega) (by omega)) (by (simp only [setD, List.set_cons_succ, List.set_cons_zero]; exact rfl)) ?_ | refine lw_pu (wan_none rfl) (pu_add rfl rfl) (by (simp only [setD, List.set_cons_succ, List.set_cons_zero]; exact rfl)) ?_
  refine lw_pu (wan_none rfl) (pu_assign (by (simp only [ev, List.getD_cons_succ, List.getD_cons_zero]; exact rfl))) (by (simp only [setD, List.set_cons_succ, List.set_cons_zero]; exact rfl)) ?_
  refine lw_nil ?_; refine hK _ _ ?_; clear hK K
  refine tw_inBlock ?_
  refine tw_region (fun K hK => ?_)
  refine lw_pu (wan_none rfl) (pu_move (by (simp only [ev, List.getD_cons_succ, List.getD_cons_zero]; exact rfl))) (by (simp only [setD, List.set_cons_succ, List.set_cons_zero]; exact rfl)) ?_
  first | refine lw_pu (wan_none rfl) (pu_addn (n := 1) rfl rfl (by omega)) (by (simp only [setD, List.set_cons_succ, List.set_cons_zero]; exact rfl)) ?_ | refine lw_pu (wan_none rfl) (pu_addi rfl rfl (by omega) (by omega)) (by (simp only [setD, List.set_cons_succ, List.set_cons_zero]; exact rfl)) ?_ | refine lw_pu (wan_none rfl) (pu_add rfl rfl) (by (simp only [setD, List.set_cons_succ, List.set_cons_zero]; exact rfl)) ?_
  refine lw_pu (wan_none rfl) (pu_assign (by (simp only [ev, List.getD_cons_succ, List.getD_cons_zero]; exact rfl))) (by (simp only [setD, List.set_cons_succ, List.set_cons_zero]; exact rfl)) ?_
  refine lw_nil ?_; refine hK _ _ ?_; clear hK K
  rotate_left 1
  refine lw_skip_b rfl rfl rfl (by (simp only [setD, List.set_cons_succ, List.set_cons_zero]; exact rfl)) ?_
  refine lw_skip_b rfl rfl rfl (by (simp only [setD, List.set_cons_succ, List.set_cons_zero]; exact rfl)) ?_
  refine lw_skip_b rfl rfl rfl (by (simp only [setD, List.set_cons_succ, List.set_cons_zero]; exact rfl)) ?_
  refine lw_skip_b rfl rfl rfl (by (simp only [setD, List.set_cons_succ, List.set_cons_zero]; exact rfl)) ?_
  refine lw_pu (wan_none rfl) (pu_pick_f rfl (by (simp only [ev, List.getD_cons_succ, List.getD_cons_zero]; exact rfl))) (by (simp only [setD, List.set_cons_succ, List.set_cons_zero]; exact rfl)) ?_
  refine lw_pu (wan_none rfl) (pu_move (by (simp only [ev, List.getD_cons_succ, List.getD_cons_zero]; exact rfl))) (by (simp only [setD, List.set_cons_succ, List.set_cons_zero]; exact rfl)) ?_
  refine lw_skip_b rfl rfl rfl (by (simp only [setD, List.set_cons_succ, List.set_cons_zero]; exact rfl)) ?_
  refine lw_skip_b rfl rfl rfl (by (simp only [setD, List.set_cons_succ, List.set_cons_zero]; exact rfl)) ?_
  refine lw_skip_b rfl rfl rfl (by (simp only [setD, List.set_cons_succ, List.set_cons_zero]; exact rfl)) ?_
  refine lw_skip_b rfl rfl rfl (by (simp only [setD, List.set_cons_succ, List.set_cons_zero]; exact rfl)) ?_
  refine lw_pu (wan_none rfl) (pu_pick_f rfl (by (simp only [ev, List.getD_cons_succ, List.getD_cons_zero]; exact rfl))) (by (simp only [setD, List.set_cons_succ, List.set_cons_zero]; exact rfl)) ?_
  refine lw_pu (wan_none rfl) (pu_move (by (simp only [ev, List.getD_cons_succ, List.getD_cons_zero]; exact rfl))) (by (simp only [setD, List.set_cons_succ, List.set_cons_zero]; exact rfl)) ?_
  refine lw_skip_b rfl rfl rfl (by (simp only [setD, List.set_cons_succ, List.set_cons_zero]; exact rfl)) ?_
  refine lw_skip_b rfl rfl rfl (by (simp only [setD, List.set_cons_succ, List.set_cons_zero]; exact rfl)) ?_
  refine lw_skip_b rfl rfl rfl (by (simp only [setD, List.set_cons_succ, List.set_cons_zero]; exact rfl)) ?_
  refine lw_skip_b rfl rfl rfl (by (simp only [setD, List.set_cons_succ, List.set_cons_zero]; exact rfl)) ?_
  refine lw_pu (wan_none rfl) (pu_pick_f rfl (by (simp only [ev, List.getD_cons_succ, List.getD_cons_zero]; exact rfl))) (by (simp only [setD, List.set_cons_succ, List.set_cons_zero]; exact rfl)) ?_
  refine lw_pu (wan_none rfl) (pu_move (by (simp only [ev, List.getD_cons_succ, List.getD_cons_zero]; exact rfl))) (by (simp only [setD, List.set_cons_succ, List.set_cons_zero]; exact rfl)) ?_
  refine lw_skip_b rfl rfl rfl (by (simp only [setD, List.set_cons_succ, List.set_cons_zero]; exact rfl)) ?_
  refine lw_skip_b rfl rfl rfl (by (simp only [setD, List.set_cons_succ, List.set_cons_zero]; exact rfl)) ?_
  refine lw_skip_b rfl rfl rfl (by (simp only [setD, List.set_cons_succ, List.set_cons_zero]; exact rfl)) ?_
  refine lw_skip_b rfl rfl rfl (by (simp only [setD, List.set_cons_succ, List.set_cons_zero]; exact rfl)) ?_
  refine lw_pu (wan_none rfl) (pu_pick_f rfl (by (simp only [ev, List.getD_cons_succ, List.getD_cons_zero]; exact rfl))) (by (simp only [setD, List.set_cons_succ, List.set_cons_zero]; exact rfl)) ?_
  refine lw_nil ?_; refine hK _ _ ?_; clear hK K
  refine tw_cond_f rfl ?_
  refine tw_skip ?_
  refine tw_seq ?_
  refine tw_seq ?_
  refine tw_region (fun K hK => ?_)
  refine lw_pu (wan_none rfl) (pu_move (by (simp only [ev, List.getD_cons_succ, List.getD_cons_zero]; exact rfl))) (by (simp only [setD, List.set_cons_succ, List.set_cons_zero]; exact rfl)) ?_
  refine lw_pu (wan_none rfl) (pu_move (by (simp only [ev, List.getD_cons_succ, List.getD_cons_zero]; exact rfl))) (by (simp only [setD, List.set_cons_succ, List.set_cons_zero]; exact rfl)) ?_
  refine lw_pu (wan_none rfl) (pu_gtr rfl rfl) (by (simp only [setD, List.set_cons_succ, List.set_cons_zero]; exact rfl)) ?_
  refine lw_nil ?_; refine hK _ _ ?_; clear hK K
  refine tw_cond_ds rfl (by (simp only [List.set_cons_succ, List.set_cons_zero]; exact rfl)) (by (simp only [List.set_cons_succ, List.set_cons_zero]; exact rfl)) (fun hq => ?_) (fun hq => ?_)
  refine tw_region (fun K hK => ?_)
  refine lw_pu (wan_none rfl) (pu_move (by (simp only [ev, List.getD_cons_succ, List.getD_cons_zero]; exact rfl))) (by (simp only [setD, List.set_cons_succ, List.set_cons_zero]; exact rfl)) ?_
  refine lw_pu (wan_none rfl) (pu_move (by (simp only [ev, List.getD_cons_succ, List.getD_cons_zero]; exact rfl))) (by (simp only [setD, List.set_cons_succ, List.set_cons_zero]; exact rfl)) ?_
  refine lw_pu (wan_none rfl) (pu_move (by (simp only [ev, List.getD_cons_succ, List.getD_cons_zero]; exact rfl))) (by (simp only [setD, List.set_cons_succ, List.set_cons_zero]; exact rfl)) ?_
  refine lw_pu (wan_none rfl) (pu_move (by (simp only [ev, List.getD_cons_succ, List.getD_cons_zero]; exact rfl))) (by (simp only [setD, List.set_cons_succ, List.set_cons_zero]; exact rfl)) ?_
  refine lw_pu (wan_none rfl) (pu_slices rfl rfl rfl (by omega) (by omega)) (by (simp only [setD, List.set_cons_succ, List.set_cons_zero]; exact rfl)) ?_
  refine lw_buildSlice1 (wan_none rfl) (by exact rfl) (by (simp only [ev, List.getD_cons_succ, List.getD_cons_zero]; exact rfl)) (by exact rfl) (by exact rfl) (by decide) (by decide) hm ?_; clear hm; intro b54 h hm; refine lw_norm (by (simp only [setD, List.set_cons_succ, List.set_cons_zero]; exact rfl)) ?_
  refine lw_append1t (L1 := [_]) (wan_none rfl) rfl rfl (by exact rfl) hm (by assumption) (by exact rfl) (hm.row (j := 0) rfl) (by exact rfl) (by simp [Value.oneCell']) (by decide) (by decide) (by omega) ?_; clear hm; intro q55 cp55 Lv55 h hs55 hm; (try simp only [List.cons_append, List.nil_append] at hm); refine lw_norm (by (simp only [setD, List.set_cons_succ, List.set_cons_zero]; exact rfl)) ?_
  refine lw_pu (wan_none rfl) (pu_assign (by (simp only [ev, List.getD_cons_succ, List.getD_cons_zero]; exact rfl))) (by (simp only [setD, List.set_cons_succ, List.set_cons_zero]; exact rfl)) ?_
  refine lw_nil ?_; refine hK _ _ ?_; clear hK K
  refine tw_region (fun K hK => ?_)
  refine lw_pu (wan_none rfl) (pu_move (by (simp only [ev, List.getD_cons_succ, List.getD_cons_zero]; exact rfl))) (by (simp only [setD, List.set_cons_succ, List.set_cons_zero]; exact rfl)) ?_
  first | refine lw_pu (wan_none rfl) (pu_addn (n := 1) rfl rfl (by omega)) (by (simp only [setD, List.set_cons_succ, List.set_cons_zero]; exact rfl)) ?_ | refine lw_pu (wan_none rfl) (pu_addi rfl rfl (by omega) (by omega)) (by (simp only [setD, List.set_cons_succ, List.set_cons_zero]; exact rfl)) ?_ | refine lw_pu (wan_none rfl) (pu_add rfl rfl) (by (simp only [setD, List.set_cons_succ, List.set_cons_zero]; exact rfl)) ?_
  refine lw_pu (wan_none rfl) (pu_assign (by (simp only [ev, List.getD_cons_succ, List.getD_cons_zero]; exact rfl))) (by (simp only [setD, List.set_cons_succ, List.set_cons_zero]; exact rfl)) ?_
  refine lw_nil ?_; refine hK _ _ ?_; clear hK K
  refine tw_inBlock ?_
  refine tw_region (fun K hK => ?_)
  refine lw_pu (wan_none rfl) (pu_move (by (simp only [ev, List.getD_cons_succ, List.getD_cons_zero]; exact rfl))) (by (simp only [setD, List.set_cons_succ, List.set_cons_zero]; exact rfl)) ?_
  first | refine lw_pu (wan_none rfl) (pu_addn (n := 1) rfl rfl (by omega)) (by (simp only [setD, List.set_cons_succ, List.set_cons_zero]; exact rfl)) ?_ | refine lw_pu (wan_none rfl) (pu_addi rfl rfl (by omega) (by omega)) (by (simp only [setD, List.set_cons_succ, List.set_cons_zero]; exact rfl)) ?_ | refine lw_pu (wan_none rfl) (pu_add rfl rfl) (by (simp only [setD, List.set_cons_succ, List.set_cons_zero]; exact rfl)) ?_
  refine lw_pu (wan_none rfl) (pu_assign (by (simp only [ev, List.getD_cons_succ, List.getD_cons_zero]; exact rfl))) (by (simp only [setD, List.set_cons_succ, List.set_cons_zero]; exact rfl)) ?_
  refine lw_nil ?_; refine hK _ _ ?_; clear hK K
  rotate_left 1
  refine tw_skip ?_
  refine tw_region (fun K hK => ?_)
  refine lw_pu (wan_none rfl) (pu_move (by (simp only [ev, List.getD_cons_succ, List.getD_cons_zero]; exact rfl))) (by (simp only [setD, List.set_cons_succ, List.set_cons_zero]; exact rfl)) ?_
  first | refine lw_pu (wan_none rfl) (pu_addn (n := 1) rfl rfl (by omega)) (by (simp only [setD, List.set_cons_succ, List.set_cons_zero]; exact rfl)) ?_ | refine lw_pu (wan_none rfl) (pu_addi rfl rfl (by omega) (by omega)) (by (simp only [setD, List.set_cons_succ, List.set_cons_zero]; exact rfl)) ?_ | refine lw_pu (wan_none rfl) (pu_add rfl rfl) (by (simp only [setD, List.set_cons_succ, List.set_cons_zero]; exact rfl)) ?_
  refine lw_pu (wan_none rfl) (pu_assign (by (simp only [ev, List.getD_cons_succ, List.getD_cons_zero]; exact rfl))) (by (simp only [setD, List.set_cons_succ, List.set_cons_zero]; exact rfl)) ?_
  refine lw_nil ?_; refine hK _ _ ?_; clear hK K
  refine tw_inBlock ?_
  refine tw_region (fun K hK => ?_)
  refine lw_pu (wan_none rfl) (pu_move (by (simp only [ev, List.getD_cons_succ, List.getD_cons_zero]; exact rfl))) (by (simp only [setD, List.set_cons_succ, List.set_cons_zero]; exact rfl)) ?_
  first | refine lw_pu (wan_none rfl) (pu_addn (n := 1) rfl rfl (by omega)) (by (simp only [setD, List.set_cons_succ, List.set_cons_zero]; exact rfl)) ?_ | refine lw_pu (wan_none rfl) (pu_addi rfl rfl (by omega) (by omega)) (by (simp only [setD, List.set_cons_succ, List.set_cons_zero]; exact rfl)) ?_ | refine lw_pu (wan_none rfl) (pu_add rfl rfl) (by (simp only [setD, List.set_cons_succ, List.set_cons_zero]; exact rfl)) ?_
  refine lw_pu (wan_none rfl) (pu_assign (by (simp only [ev, List.getD_cons_succ, List.getD_cons_zero]; exact rfl))) (by (simp only [setD, List.set_cons_succ, List.set_cons_zero]; exact rfl)) ?_
  refine lw_nil ?_; refine hK _ _ ?_; clear hK K
  rotate_left 1
  refine lw_skip_b rfl rfl rfl (by (simp only [setD, List.set_cons_succ, List.set_cons_zero]; exact rfl)) ?_
  refine lw_skip_b rfl rfl rfl (by (simp only [setD, List.set_cons_succ, List.set_cons_zero]; exact rfl)) ?_
  refine lw_skip_b rfl rfl rfl (by (simp only [setD, List.set_cons_succ, List.set_cons_zero]; exact rfl)) ?_
  refine lw_skip_b rfl rfl rfl (by (simp only [setD, List.set_cons_succ, List.set_cons_zero]; exact rfl)) ?_
  refine lw_pu (wan_none rfl) (pu_pick_f rfl (by (simp only [ev, List.getD_cons_succ, List.getD_cons_zero]; exact rfl))) (by (simp only [setD, List.set_cons_succ, List.set_cons_zero]; exact rfl)) ?_
  refine lw_pu (wan_none rfl) (pu_move (by (simp only [ev, List.getD_cons_succ, List.getD_cons_zero]; exact rfl))) (by (simp only [setD, List.set_cons_succ, List.set_cons_zero]; exact rfl)) ?_
  refine lw_skip_b rfl rfl rfl (by (simp only [setD, List.set_cons_succ, List.set_cons_zero]; exact rfl)) ?_
  refine lw_skip_b rfl rfl rfl (by (simp only [setD, List.set_cons_succ, List.set_cons_zero]; exact rfl)) ?_
  refine lw_skip_b rfl rfl rfl (by (simp only [setD, List.set_cons_succ, List.set_cons_zero]; exact rfl)) ?_
  refine lw_skip_b rfl rfl rfl (by (simp only [setD, List.set_cons_succ, List.set_cons_zero]; exact rfl)) ?_
  refine lw_pu (wan_none rfl) (pu_pick_f rfl (by (simp only [ev, List.getD_cons_succ, List.getD_cons_zero]; exact rfl))) (by (simp only [setD, List.set_cons_succ, List.set_cons_zero]; exact rfl)) ?_
  refine lw_pu (wan_none rfl) (pu_move (by (simp only [ev, List.getD_cons_succ, List.getD_cons_zero]; exact rfl))) (by (simp only [setD, List.set_cons_succ, List.set_cons_zero]; exact rfl)) ?_
  refine lw_skip_b rfl rfl rfl (by (simp only [setD, List.set_cons_succ, List.set_cons_zero]; exact rfl)) ?_
  refine lw_skip_b rfl rfl rfl (by (simp only [setD, List.set_cons_succ, List.set_cons_zero]; exact rfl)) ?_
  refine lw_skip_b rfl rfl rfl (by (simp only [setD, List.set_cons_succ, List.set_cons_zero]; exact rfl)) ?_
  refine lw_skip_b rfl rfl rfl (by (simp only [setD, List.set_cons_succ, List.set_cons_zero]; exact rfl)) ?_
  refine lw_pu (wan_none rfl) (pu_pick_f rfl (by (simp only [ev, List.getD_cons_succ, List.getD_cons_zero]; exact rfl))) (by (simp only [setD, List.set_cons_succ, List.set_cons_zero]; exact rfl)) ?_
  refine lw_pu (wan_none rfl) (pu_move (by (simp only [ev, List.getD_cons_succ, List.getD_cons_zero]; exact rfl))) (by (simp only [setD, List.set_cons_succ, List.set_cons_zero]; exact rfl)) ?_
  refine lw_skip_b rfl rfl rfl (by (simp only [setD, List.set_cons_succ, List.set_cons_zero]; exact rfl)) ?_
  refine lw_skip_b rfl rfl rfl (by (simp only [setD, List.set_cons_succ, List.set_cons_zero]; exact rfl)) ?_
  refine lw_skip_b rfl rfl rfl (by (simp only [setD, List.set_cons_succ, List.set_cons_zero]; exact rfl)) ?_
  refine lw_skip_b rfl rfl rfl (by (simp only [setD, List.set_cons_succ, List.set_cons_zero]; exact rfl)) ?_
  refine lw_pu (wan_none rfl) (pu_pick_f rfl (by (simp only [ev, List.getD_cons_succ, List.getD_cons_zero]; exact rfl))) (by (simp only [setD, List.set_cons_succ, List.set_cons_zero]; exact rfl)) ?_
  refine lw_pu (wan_none rfl) (pu_move (by (simp only [ev, List.getD_cons_succ, List.getD_cons_zero]; exact rfl))) (by (simp only [setD, List.set_cons_succ, List.set_cons_zero]; exact rfl)) ?_
  refine lw_skip_b rfl rfl rfl (by (simp only [setD, List.set_cons_succ, List.set_cons_zero]; exact rfl)) ?_
  refine lw_skip_b rfl rfl rfl (by (simp only [setD, List.set_cons_succ, List.set_cons_zero]; exact rfl)) ?_
  refine lw_skip_b rfl rfl rfl (by (simp only [setD, List.set_cons_succ, List.set_cons_zero]; exact rfl)) ?_
  refine lw_skip_b rfl rfl rfl (by (simp only [setD, List.set_cons_succ, List.set_cons_zero]; exact rfl)) ?_
  refine lw_pu (wan_none rfl) (pu_pick_f rfl (by (simp only [ev, List.getD_cons_succ, List.getD_cons_zero]; exact rfl))) (by (simp only [setD, List.set_cons_succ, List.set_cons_zero]; exact rfl)) ?_
  refine lw_nil ?_; refine hK _ _ ?_; clear hK K
  refine tw_cond_f rfl ?_
  refine tw_skip ?_
  refine tw_seq ?_
  refine tw_seq ?_
  refine tw_region (fun K hK => ?_)
  refine lw_pu (wan_none rfl) (pu_move (by (simp only [ev, List.getD_cons_succ, List.getD_cons_zero]; exact rfl))) (by (simp only [setD, List.set_cons_succ, List.set_cons_zero]; exact rfl)) ?_
  refine lw_pu (wan_none rfl) (pu_move (by (simp only [ev, List.getD_cons_succ, List.getD_cons_zero]; exact rfl))) (by (simp only [setD, List.set_cons_succ, List.set_cons_zero]; exact rfl)) ?_
  refine lw_pu (wan_none rfl) (pu_gtr rfl rfl) (by (simp only [setD, List.set_cons_succ, List.set_cons_zero]; exact rfl)) ?_
  refine lw_nil ?_; refine hK _ _ ?_; clear hK K
  refine tw_cond_ds rfl (by (simp only [List.set_cons_succ, List.set_cons_zero]; exact rfl)) (by (simp only [List.set_cons_succ, List.set_cons_zero]; exact rfl)) (fun hq => ?_) (fun hq => ?_)
  refine tw_region (fun K hK => ?_)
  refine lw_pu (wan_none rfl) (pu_move (by (simp only [ev, List.getD_cons_succ, List.getD_cons_zero]; exact rfl))) (by (simp only [setD, List.set_cons_succ, List.set_cons_zero]; exact rfl)) ?_
  refine lw_pu (wan_none rfl) (pu_move (by (simp only [ev, List.getD_cons_succ, List.getD_cons_zero]; exact rfl))) (by (simp only [setD, List.set_cons_succ, List.set_cons_zero]; exact rfl)) ?_
  refine lw_pu (wan_none rfl) (pu_move (by (simp only [ev, List.getD_cons_succ, List.getD_cons_zero]; exact rfl))) (by (simp only [setD, List.set_cons_succ, List.set_cons_zero]; exact rfl)) ?_
  refine lw_pu (wan_none rfl) (pu_move (by (simp only [ev, List.getD_cons_succ, List.getD_cons_zero]; exact rfl))) (by (simp only [setD, List.set_cons_succ, List.set_cons_zero]; exact rfl)) ?_
  refine lw_pu (wan_none rfl) (pu_slices rfl rfl rfl (by omega) (by omega)) (by (simp only [setD, List.set_cons_succ, List.set_cons_zero]; exact rfl)) ?_
  refine lw_buildSlice1 (wan_none rfl) (by exact rfl) (by (simp only [ev, List.getD_cons_succ, List.getD_cons_zero]; exact rfl)) (by exact rfl) (by exact rfl) (by decide) (by decide) hm ?_; clear hm; intro b54 h hm; refine lw_norm (by (simp only [setD, List.set_cons_succ, List.set_cons_zero]; exact rfl)) ?_
  refine lw_append1t (L1 := [_]) (wan_none rfl) rfl rfl (by exact rfl) hm (by assumption) (by exact rfl) (hm.row (j := 0) rfl) (by exact rfl) (by simp [Value.oneCell']) (by decide) (by decide) (by omega) ?_; clear hm; intro q55 cp55 Lv55 h hs55 hm; (try simp only [List.cons_append, List.nil_append] at hm); refine lw_norm (by (simp only [setD, List.set_cons_succ, List.set_cons_zero]; exact rfl)) ?_
  refine lw_pu (wan_none rfl) (pu_assign (by (simp only [ev, List.getD_cons_succ, List.getD_cons_zero]; exact rfl))) (by (simp only [setD, List.set_cons_succ, List.set_cons_zero]; exact rfl)) ?_
  refine lw_nil ?_; refine hK _ _ ?_; clear hK K
  refine tw_region (fun K hK => ?_)
  refine lw_pu (wan_none rfl) (pu_move (by (simp only [ev, List.getD_cons_succ, List.getD_cons_zero]; exact rfl))) (by (simp only [setD, List.set_cons_succ, List.set_cons_zero]; exact rfl)) ?_
  first | refine lw_pu (wan_none rfl) (pu_addn (n := 1) rfl rfl (by omega)) (by (simp only [setD, List.set_cons_succ, List.set_cons_zero]; exact rfl)) ?_ | refine lw_pu (wan_none rfl) (pu_addi rfl rfl (by omega) (by omega)) (by (simp only [setD, List.set_cons_succ, List.set_cons_zero]; exact rfl)) ?_ | refine lw_pu (wan_none rfl) (pu_add rfl rfl) (by (simp only [setD, List.set_cons_succ, List.set_cons_zero]; exact rfl)) ?_
  refine lw_pu (wan_none rfl) (pu_assign (by (simp only [ev, List.getD_cons_succ, List.getD_cons_zero]; exact rfl))) (by (simp only [setD, List.set_cons_succ, List.set_cons_zero]; exact rfl)) ?_
  refine lw_nil ?_; refine hK _ _ ?_; clear hK K
  refine tw_inBlock ?_
  refine tw_region (fun K hK => ?_)
  refine lw_pu (wan_none rfl) (pu_move (by (simp only [ev, List.getD_cons_succ, List.getD_cons_zero]; exact rfl))) (by (simp only [setD, List.set_cons_succ, List.set_cons_zero]; exact rfl)) ?_
  first | refine lw_pu (wan_none rfl) (pu_addn (n := 1) rfl rfl (by omega)) (by (simp only [setD, List.set_cons_succ, List.set_cons_zero]; exact rfl)) ?_ | refine lw_pu (wan_none rfl) (pu_addi rfl rfl (by omega) (by omega)) (by (simp only [setD, List.set_cons_succ, List.set_cons_zero]; exact rfl)) ?_ | refine lw_pu (wan_none rfl) (pu_add rfl rfl) (by (simp only [setD, List.set_cons_succ, List.set_cons_zero]; exact rfl)) ?_
  refine lw_pu (wan_none rfl) (pu_assign (by (simp only [ev, List.getD_cons_succ, List.getD_cons_zero]; exact rfl))) (by (simp only [setD, List.set_cons_succ, List.set_cons_zero]; exact rfl)) ?_
  refine lw_nil ?_; refine hK _ _ ?_; clear hK K
  rotate_left 1
  refine tw_skip ?_
  refine tw_region (fun K hK => ?_)
  refine lw_pu (wan_none rfl) (pu_move (by (simp only [ev, List.getD_cons_succ, List.getD_cons_zero]; exact rfl))) (by (simp only [setD, List.set_cons_succ, List.set_cons_zero]; exact rfl)) ?_
  first | refine lw_pu (wan_none rfl) (pu_addn (n := 1) rfl rfl (by omega)) (by (simp only [setD, List.set_cons_succ, List.set_cons_zero]; exact rfl)) ?_ | refine lw_pu (wan_none rfl) (pu_addi rfl rfl (by omega) (by omega)) (by (simp only [setD, List.set_cons_succ, List.set_cons_zero]; exact rfl)) ?_ | refine lw_pu (wan_none rfl) (pu_add rfl rfl) (by (simp only [setD, List.set_cons_succ, List.set_cons_zero]; exact rfl)) ?_
  refine lw_pu (wan_none rfl) (pu_assign (by (simp only [ev, List.getD_cons_succ, List.getD_cons_zero]; exact rfl))) (by (simp only [setD, List.set_cons_succ, List.set_cons_zero]; exact rfl)) ?_
  refine lw_nil ?_; refine hK _ _ ?_; clear hK K
  refine tw_inBlock ?_
  refine tw_region (fun K hK => ?_)
  refine lw_pu (wan_none rfl) (pu_move (by (simp only [ev, List.getD_cons_succ, List.getD_cons_zero]; exact rfl))) (by (simp only [setD, List.set_cons_succ, List.set_cons_zero]; exact rfl)) ?_
  first | refine lw_pu (wan_none rfl) (pu_addn (n := 1) rfl rfl (by omega)) (by (simp only [setD, List.set_cons_succ, List.set_cons_zero]; exact rfl)) ?_ | refine lw_pu (wan_none rfl) (pu_addi rfl rfl (by omega) (by omega)) (by (simp only [setD, List.set_cons_succ, List.set_cons_zero]; exact rfl)) ?_ | refine lw_pu (wan_none rfl) (pu_add rfl rfl) (by (simp only [setD, List.set_cons_succ, List.set_cons_zero]; exact rfl)) ?_
  refine lw_pu (wan_none rfl) (pu_assign (by (simp only [ev, List.getD_cons_succ, List.getD_cons_zero]; exact rfl))) (by (simp only [setD, List.set_cons_succ, List.set_cons_zero]; exact rfl)) ?_
  refine lw_nil ?_; refine hK _ _ ?_; clear hK K
  rotate_left 1
  refine tw_exit rfl ?_
  refine tw_seq ?_
  refine tw_region (fun K hK => ?_)
  refine lw_pu (wan_none rfl) (pu_move (by (simp only [ev, List.getD_cons_succ, List.getD_cons_zero]; exact rfl))) (by (simp only [setD, List.set_cons_succ, List.set_cons_zero]; exact rfl)) ?_
  refine lw_pu (wan_none rfl) (pu_assign (by (simp only [ev, List.getD_cons_succ, List.getD_cons_zero]; exact rfl))) (by (simp only [setD, List.set_cons_succ, List.set_cons_zero]; exact rfl)) ?_
  refine lw_nil ?_; refine hK _ _ ?_; clear hK K
  refine tw_ret1 Try.func47 Try.results47 (by (simp only [ev, List.getD_cons_succ, List.getD_cons_zero]; exact rfl)) ?_
  rotate_left 1
  -- left: round | round | round | round | round | round | round | round | round | round | round | round | round | ret
  all_goals try (first
    | (refine ⟨_, ⟨q, n, cp, ws, rfl, hs.le, by omega, hs⟩, hm⟩)
    | exact IH (i + 1, from_, q, n, cp, Lv, ws) _ _ (by simp; omega) rfl ⟨hm, by simp; omega, by simp; omega, by simp; omega, hs⟩
    | exact IH (i + 1, i + 1, q, n, cp, Lv, ws) _ _ (by simp; omega) rfl ⟨hm, by simp; omega, by simp, by simp; omega, hs⟩)
  all_goals exact IH (i + 1, i + 1, q55, n + 1, cp55, Lv55, ws ++ [List.drop from_ (List.take i l)]) _ _ (by simp; omega) rfl ⟨hm.tl, by simp; omega, by simp, by simp; omega, by simpa [srow] using hs55⟩

theorem simpleClass_ret (l : List UInt8) (hl : l.length ≤ 2 ^ 31) (h0 : Array Obj) : Ret Try.prog 31 [bs l] h0 fun v h => (∃ b, v = .bool b) ∧ Ext h0 h := by
  have hm := Mem.refl h0
  have hmx : maxLen = 2 ^ 63 - 1 := rfl
  refine ret_of_tw (ρ := ((bs l) :: undef :: undef :: undef :: undef :: undef :: undef :: undef :: undef :: undef :: undef :: undef :: undef :: undef :: undef :: undef :: undef :: undef :: undef :: undef :: undef :: undef :: undef :: undef :: undef :: undef :: undef :: undef :: undef :: undef :: undef :: undef :: undef :: undef :: undef :: undef :: undef :: undef :: undef :: undef :: undef :: undef :: undef :: undef :: [])) Try.func31 rfl rfl (fun E => ?_)
  refine tw_seq ?_
  refine tw_region (fun K hK => ?_)
  refine lw_pu (wan_none rfl) (pu_assign (by (simp only [ev, List.getD_cons_succ, List.getD_cons_zero]; exact rfl))) (by (simp only [setD, List.set_cons_succ, List.set_cons_zero]; exact rfl)) ?_
  refine lw_nil ?_; refine hK _ _ ?_; clear hK K
  refine tw_seq ?_
  refine tw_seq ?_
  refine tw_region (fun K hK => ?_)
  refine lw_pu (wan_none rfl) (pu_assign (by (simp only [ev, List.getD_cons_succ, List.getD_cons_zero]; exact rfl))) (by (simp only [setD, List.set_cons_succ, List.set_cons_zero]; exact rfl)) ?_
  refine lw_nil ?_; refine hK _ _ ?_; clear hK K
  refine tw_block ?_
  rotate_left 1
  -- left: loop
  refine tw_loopJ (X := Nat) (fun i => l.length - i) (fun i J => (bs l :: J 1 :: J 2 :: .int .i64 (i : Int) :: J 4 :: J 5 :: J 6 :: J 7 :: J 8 :: J 9 :: J 10 :: J 11 :: J 12 :: J 13 :: J 14 :: J 15 :: J 16 :: J 17 :: J 18 :: J 19 :: J 20 :: J 21 :: J 22 :: J 23 :: J 24 :: J 25 :: J 26 :: J 27 :: J 28 :: J 29 :: J 30 :: J 31 :: J 32 :: J 33 :: J 34 :: J 35 :: J 36 :: J 37 :: J 38 :: J 39 :: J 40 :: J 41 :: J 42 :: J 43 :: [])) (fun i h => Mem h0 h [] [] ∧ i ≤ l.length) 0 rfl ⟨hm, by simp⟩ ?_
  clear hm
  rintro i J h ⟨hm, hi⟩ IH
  refine tw_seq ?_
  refine tw_seq ?_
  refine tw_region (fun K hK => ?_)
  refine lw_pu (wan_none rfl) (pu_move (by (simp only [ev, List.getD_cons_succ, List.getD_cons_zero]; exact rfl))) (by (simp only [setD, List.set_cons_succ, List.set_cons_zero]; exact rfl)) ?_
  refine lw_pu (wan_none rfl) (pu_move (by (simp only [ev, List.getD_cons_succ, List.getD_cons_zero]; exact rfl))) (by (simp only [setD, List.set_cons_succ, List.set_cons_zero]; exact rfl)) ?_
  refine lw_pu (wan_none rfl) (pu_lens rfl rfl) (by (simp only [setD, List.set_cons_succ, List.set_cons_zero]; exact rfl)) ?_
  refine lw_pu (wan_none rfl) (pu_lss rfl rfl) (by (simp only [setD, List.set_cons_succ, List.set_cons_zero]; exact rfl)) ?_
  refine lw_nil ?_; refine hK _ _ ?_; clear hK K
  refine tw_cond_ds rfl (by (simp only [List.set_cons_succ, List.set_cons_zero]; exact rfl)) (by (simp only [List.set_cons_succ, List.set_cons_zero]; exact rfl)) (fun hq => ?_) (fun hq => ?_)
  refine tw_skip ?_
  refine tw_seq ?_
  refine tw_block ?_
  refine tw_seq ?_
  refine tw_region (fun K hK => ?_)
  refine lw_pu (wan_none rfl) (pu_move (by (simp only [ev, List.getD_cons_succ, List.getD_cons_zero]; exact rfl))) (by (simp only [setD, List.set_cons_succ, List.set_cons_zero]; exact rfl)) ?_
  refine lw_pu (wan_none rfl) (pu_move (by (simp only [ev, List.getD_cons_succ, List.getD_cons_zero]; exact rfl))) (by (simp only [setD, List.set_cons_succ, List.set_cons_zero]; exact rfl)) ?_
  refine lw_pu (wan_none rfl) (pu_index rfl rfl (by omega)) (by (simp only [setD, List.set_cons_succ, List.set_cons_zero]; exact rfl)) ?_
  refine lw_pu (wan_none rfl) (pu_eql rfl rfl) (by (simp only [setD, List.set_cons_succ, List.set_cons_zero]; exact rfl)) ?_
  refine lw_pu (wan_none rfl) (pu_move (by (simp only [ev, List.getD_cons_succ, List.getD_cons_zero]; exact rfl))) (by (simp only [setD, List.set_cons_succ, List.set_cons_zero]; exact rfl)) ?_
  refine lw_split_d rfl rfl rfl (by (simp only [List.set_cons_succ, List.set_cons_zero]; exact rfl)) (by (simp only [List.set_cons_succ, List.set_cons_zero]; exact rfl)) (fun hq => ?_) (fun hq => ?_)
  refine lw_skip_b rfl rfl rfl (by (simp only [setD, List.set_cons_succ, List.set_cons_zero]; exact rfl)) ?_
  refine lw_skip_b rfl rfl rfl (by (simp only [setD, List.set_cons_succ, List.set_cons_zero]; exact rfl)) ?_
  refine lw_skip_b rfl rfl rfl (by (simp only [setD, List.set_cons_succ, List.set_cons_zero]; exact rfl)) ?_
  refine lw_skip_b rfl rfl rfl (by (simp only [setD, List.set_cons_succ, List.set_cons_zero]; exact rfl)) ?_
  refine lw_pu (wan_none rfl) (pu_pick_t rfl (by (simp only [ev, List.getD_cons_succ, List.getD_cons_zero]; exact rfl))) (by (simp only [setD, List.set_cons_succ, List.set_cons_zero]; exact rfl)) ?_
  refine lw_pu (wan_none rfl) (pu_move (by (simp only [ev, List.getD_cons_succ, List.getD_cons_zero]; exact rfl))) (by (simp only [setD, List.set_cons_succ, List.set_cons_zero]; exact rfl)) ?_
  refine lw_skip_b rfl rfl rfl (by (simp only [setD, List.set_cons_succ, List.set_cons_zero]; exact rfl)) ?_
  refine lw_skip_b rfl rfl rfl (by (simp only [setD, List.set_cons_succ, List.set_cons_zero]; exact rfl)) ?_
  refine lw_skip_b rfl rfl rfl (by (simp only [setD, List.set_cons_succ, List.set_cons_zero]; exact rfl)) ?_
  refine lw_skip_b rfl rfl rfl (by (simp only [setD, List.set_cons_succ, List.set_cons_zero]; exact rfl)) ?_
  refine lw_pu (wan_none rfl) (pu_pick_t rfl (by (simp only [ev, List.getD_cons_succ, List.getD_cons_zero]; exact rfl))) (by (simp only [setD, List.set_cons_succ, List.set_cons_zero]; exact rfl)) ?_
  refine lw_nil ?_; refine hK _ _ ?_; clear hK K
  refine tw_cond_t rfl ?_
  refine tw_seq ?_
  refine tw_region (fun K hK => ?_)
  refine lw_pu (wan_none rfl) (pu_assign (by (simp only [ev, List.getD_cons_succ, List.getD_cons_zero]; exact rfl))) (by (simp only [setD, List.set_cons_succ, List.set_cons_zero]; exact rfl)) ?_
  refine lw_nil ?_; refine hK _ _ ?_; clear hK K
  refine tw_ret1 Try.func31 Try.results31 (by (simp only [ev, List.getD_cons_succ, List.getD_cons_zero]; exact rfl)) ?_
  rotate_left 1
  refine lw_pu (wan_some rfl rfl rfl) (pu_move (by (simp only [ev, List.getD_cons_succ, List.getD_cons_zero]; exact rfl))) (by (simp only [setD, List.set_cons_succ, List.set_cons_zero]; exact rfl)) ?_
  refine lw_pu (wan_some rfl rfl rfl) (pu_move (by (simp only [ev, List.getD_cons_succ, List.getD_cons_zero]; exact rfl))) (by (simp only [setD, List.set_cons_succ, List.set_cons_zero]; exact rfl)) ?_
  refine lw_pu (wan_some rfl rfl rfl) (pu_index rfl rfl (by omega)) (by (simp only [setD, List.set_cons_succ, List.set_cons_zero]; exact rfl)) ?_
  refine lw_pu (wan_some rfl rfl rfl) (pu_eql rfl rfl) (by (simp only [setD, List.set_cons_succ, List.set_cons_zero]; exact rfl)) ?_
  refine lw_pu (wan_none rfl) (pu_pick_f rfl (by (simp only [ev, List.getD_cons_succ, List.getD_cons_zero]; exact rfl))) (by (simp only [setD, List.set_cons_succ, List.set_cons_zero]; exact rfl)) ?_
  refine lw_pu (wan_none rfl) (pu_move (by (simp only [ev, List.getD_cons_succ, List.getD_cons_zero]; exact rfl))) (by (simp only [setD, List.set_cons_succ, List.set_cons_zero]; exact rfl)) ?_
  refine lw_split_d rfl rfl rfl (by (simp only [List.set_cons_succ, List.set_cons_zero]; exact rfl)) (by (simp only [List.set_cons_succ, List.set_cons_zero]; exact rfl)) (fun hq => ?_) (fun hq => ?_)
  refine lw_skip_b rfl rfl rfl (by (simp only [setD, List.set_cons_succ, List.set_cons_zero]; exact rfl)) ?_
  refine lw_skip_b rfl rfl rfl (by (simp only [setD, List.set_cons_succ, List.set_cons_zero]; exact rfl)) ?_
  refine lw_skip_b rfl rfl rfl (by (simp only [setD, List.set_cons_succ, List.set_cons_zero]; exact rfl)) ?_
  refine lw_skip_b rfl rfl rfl (by (simp only [setD, List.set_cons_succ, List.set_cons_zero]; exact rfl)) ?_
  refine lw_pu (wan_none rfl) (pu_pick_t rfl (by (simp only [ev, List.getD_cons_succ, List.getD_cons_zero]; exact rfl))) (by (simp only [setD, List.set_cons_succ, List.set_cons_zero]; exact rfl)) ?_
  refine lw_nil ?_; refine hK _ _ ?_; clear hK K
  refine tw_cond_t rfl ?_
  refine tw_seq ?_
  refine tw_region (fun K hK => ?_)
  refine lw_pu (wan_none rfl) (pu_assign (by (simp only [ev, List.getD_cons_succ, List.getD_cons_zero]; exact rfl))) (by (simp only [setD, List.set_cons_succ, List.set_cons_zero]; exact rfl)) ?_
  refine lw_nil ?_; refine hK _ _ ?_; clear hK K
  refine tw_ret1 Try.func31 Try.results31 (by (simp only [ev, List.getD_cons_succ, List.getD_cons_zero]; exact rfl)) ?_
  rotate_left 1
  refine lw_pu (wan_some rfl rfl rfl) (pu_move (by (simp only [ev, List.getD_cons_succ, List.getD_cons_zero]; exact rfl))) (by (simp only [setD, List.set_cons_succ, List.set_cons_zero]; exact rfl)) ?_
  refine lw_pu (wan_some rfl rfl rfl) (pu_move (by (simp only [ev, List.getD_cons_succ, List.getD_cons_zero]; exact rfl))) (by (simp only [setD, List.set_cons_succ, List.set_cons_zero]; exact rfl)) ?_
  refine lw_pu (wan_some rfl rfl rfl) (pu_index rfl rfl (by omega)) (by (simp only [setD, List.set_cons_succ, List.set_cons_zero]; exact rfl)) ?_
  refine lw_pu (wan_some rfl rfl rfl) (pu_geq rfl rfl) (by (simp only [setD, List.set_cons_succ, List.set_cons_zero]; exact rfl)) ?_
  refine lw_pu (wan_none rfl) (pu_pick_f rfl (by (simp only [ev, List.getD_cons_succ, List.getD_cons_zero]; exact rfl))) (by (simp only [setD, List.set_cons_succ, List.set_cons_zero]; exact rfl)) ?_
  refine lw_nil ?_; refine hK _ _ ?_; clear hK K
  refine tw_cond_ds rfl (by (simp only [List.set_cons_succ, List.set_cons_zero]; exact rfl)) (by (simp only [List.set_cons_succ, List.set_cons_zero]; exact rfl)) (fun hq => ?_) (fun hq => ?_)
  refine tw_seq ?_
  refine tw_region (fun K hK => ?_)
  refine lw_pu (wan_none rfl) (pu_assign (by (simp only [ev, List.getD_cons_succ, List.getD_cons_zero]; exact rfl))) (by (simp only [setD, List.set_cons_succ, List.set_cons_zero]; exact rfl)) ?_
  refine lw_nil ?_; refine hK _ _ ?_; clear hK K
  refine tw_ret1 Try.func31 Try.results31 (by (simp only [ev, List.getD_cons_succ, List.getD_cons_zero]; exact rfl)) ?_
  rotate_left 1
  refine tw_skip ?_
  refine tw_inBlock ?_
  refine tw_region (fun K hK => ?_)
  refine lw_pu (wan_none rfl) (pu_move (by (simp only [ev, List.getD_cons_succ, List.getD_cons_zero]; exact rfl))) (by (simp only [setD, List.set_cons_succ, List.set_cons_zero]; exact rfl)) ?_
  first | refine lw_pu (wan_none rfl) (pu_addn (n := 1) rfl rfl (by omega)) (by (simp only [setD, List.set_cons_succ, List.set_cons_zero]; exact rfl)) ?_ | refine lw_pu (wan_none rfl) (pu_addi rfl rfl (by omega) (by omega)) (by (simp only [setD, List.set_cons_succ, List.set_cons_zero]; exact rfl)) ?_ | refine lw_pu (wan_none rfl) (pu_add rfl rfl) (by (simp only [setD, List.set_cons_succ, List.set_cons_zero]; exact rfl)) ?_
  refine lw_pu (wan_none rfl) (pu_assign (by (simp only [ev, List.getD_cons_succ, List.getD_cons_zero]; exact rfl))) (by (simp only [setD, List.set_cons_succ, List.set_cons_zero]; exact rfl)) ?_
  refine lw_nil ?_; refine hK _ _ ?_; clear hK K
  rotate_left 1
  refine tw_exit rfl ?_
  refine tw_seq ?_
  refine tw_region (fun K hK => ?_)
  refine lw_pu (wan_none rfl) (pu_move (by (simp only [ev, List.getD_cons_succ, List.getD_cons_zero]; exact rfl))) (by (simp only [setD, List.set_cons_succ, List.set_cons_zero]; exact rfl)) ?_
  refine lw_calo (wan_none rfl) (words_ret l hl _) hm ?_; clear hm; rintro _ h Lv29 ⟨q, n, cp, ws, rfl, hcp, hn, hs⟩ hm; (try simp only [List.cons_append, List.nil_append] at hm); refine lw_norm (by (simp only [setD, List.set_cons_succ, List.set_cons_zero]; exact rfl)) ?_
  refine lw_pu (wan_none rfl) (pu_assign (by (simp only [ev, List.getD_cons_succ, List.getD_cons_zero]; exact rfl))) (by (simp only [setD, List.set_cons_succ, List.set_cons_zero]; exact rfl)) ?_
  refine lw_nil ?_; refine hK _ _ ?_; clear hK K
  refine tw_seq ?_
  refine tw_seq ?_
  refine tw_region (fun K hK => ?_)
  refine lw_pu (wan_none rfl) (pu_assign (by (simp only [ev, List.getD_cons_succ, List.getD_cons_zero]; exact rfl))) (by (simp only [setD, List.set_cons_succ, List.set_cons_zero]; exact rfl)) ?_
  refine lw_nil ?_; refine hK _ _ ?_; clear hK K
  refine tw_block ?_
  rotate_left 1
  -- left: ret | ret | ret | round | loop
  all_goals first
    | exact ⟨⟨_, rfl⟩, hm.ext⟩
    | exact IH (i + 1) _ _ (by omega) rfl ⟨hm, by omega⟩
    | skip
  have hlen : n = ws.length := by simpa using hs.len
  have hcell : ∀ {h}, Mem h0 h [] Lv29 → SlR h 1 q (ws.map srow) := fun hm => hs.rd hm (by simp)
  refine tw_loopJ (X := Nat) (fun i => n - i) (fun j J => (bs l :: J 1 :: J 2 :: J 3 :: .slice q n cp :: .int .i64 (j : Int) :: J 6 :: J 7 :: J 8 :: J 9 :: J 10 :: J 11 :: J 12 :: J 13 :: J 14 :: J 15 :: J 16 :: J 17 :: J 18 :: J 19 :: J 20 :: J 21 :: J 22 :: J 23 :: J 24 :: J 25 :: J 26 :: J 27 :: J 28 :: J 29 :: J 30 :: J 31 :: J 32 :: J 33 :: J 34 :: J 35 :: J 36 :: J 37 :: J 38 :: J 39 :: J 40 :: J 41 :: J 42 :: J 43 :: [])) (fun j h => Mem h0 h [] Lv29 ∧ j ≤ n) 0 rfl ⟨hm, by simp⟩ ?_
  rintro j J h ⟨hm, hi⟩ IH
  refine tw_seq ?_
  refine tw_seq ?_
  refine tw_region (fun K hK => ?_)
  refine lw_pu (wan_none rfl) (pu_move (by (simp only [ev, List.getD_cons_succ, List.getD_cons_zero]; exact rfl))) (by (simp only [setD, List.set_cons_succ, List.set_cons_zero]; exact rfl)) ?_
  refine lw_pu (wan_none rfl) (pu_move (by (simp only [ev, List.getD_cons_succ, List.getD_cons_zero]; exact rfl))) (by (simp only [setD, List.set_cons_succ, List.set_cons_zero]; exact rfl)) ?_
  refine lw_pu (wan_none rfl) (pu_lensl rfl rfl) (by (simp only [setD, List.set_cons_succ, List.set_cons_zero]; exact rfl)) ?_
  refine lw_pu (wan_none rfl) (pu_lss rfl rfl) (by (simp only [setD, List.set_cons_succ, List.set_cons_zero]; exact rfl)) ?_
  refine lw_nil ?_; refine hK _ _ ?_; clear hK K
  refine tw_cond_ds rfl (by (simp only [List.set_cons_succ, List.set_cons_zero]; exact rfl)) (by (simp only [List.set_cons_succ, List.set_cons_zero]; exact rfl)) (fun hq => ?_) (fun hq => ?_)
  refine tw_skip ?_
  refine tw_seq ?_
  refine tw_block ?_
  refine tw_seq ?_
  rotate_left 1
  refine tw_exit rfl ?_
  refine tw_seq ?_
  refine tw_region (fun K hK => ?_)
  refine lw_pu (wan_none rfl) (pu_assign (by (simp only [ev, List.getD_cons_succ, List.getD_cons_zero]; exact rfl))) (by (simp only [setD, List.set_cons_succ, List.set_cons_zero]; exact rfl)) ?_
  refine lw_nil ?_; refine hK _ _ ?_; clear hK K
  refine tw_ret1 Try.func31 Try.results31 (by (simp only [ev, List.getD_cons_succ, List.getD_cons_zero]; exact rfl)) ?_
  rotate_left 1
  -- left: region 10 DRAWN | ret
  · obtain ⟨a, ha, hq', -⟩ := (hcell hm).at (i := j) (by omega)
    have hc' : ∀ {h}, Mem h0 h [] Lv29 → cell h ⟨blk q, offs q + j * 1, none⟩ = some (bs a) := fun hm => by
      obtain ⟨b, hb, _, hc⟩ := (hcell hm).at (i := j) (by omega)
      rw [ha] at hb
      cases hb
      exact hc.1
    have htk : ∀ {h}, Mem h0 h [] Lv29 → Ret Try.prog 48 [.slice q j cp, bs a] h fun v h' => v = .bool (decide (a ∈ ws.take j)) ∧ Ext h h' := fun {h} hm => by
      have h1 := isWord_ret (ws.take j) a q cp h (by simp; omega) (by rw [List.map_take]; exact (hcell hm).take j)
      rw [List.length_take, Nat.min_eq_left (by omega)] at h1
      refine h1.mono fun v h' ⟨⟨b, hv, hb⟩, he⟩ => ⟨?_, he⟩
      have hbe : b = decide (a ∈ ws.take j) := by rw [Bool.eq_iff_iff, decide_eq_true_iff]; exact hb
      rw [hv, hbe]
    refine tw_quietM hm (by kernel_rfl) (by kernel_rfl) (fun K hK => ?_)
    refine qw_pu (wan_none rfl) (fun h hm => pu_move (by (simp only [ev, List.getD_cons_succ, List.getD_cons_zero]; exact rfl))) (by (simp only [setD, List.set_cons_succ, List.set_cons_zero]; exact rfl)) ?_
    refine qw_pu (wan_none rfl) (fun h hm => pu_move (by (simp only [ev, List.getD_cons_succ, List.getD_cons_zero]; exact rfl))) (by (simp only [setD, List.set_cons_succ, List.set_cons_zero]; exact rfl)) ?_
    refine qw_pu (wan_none rfl) (fun h hm => pu_slicesl_hi rfl rfl (by omega) (by assumption)) (by (simp only [setD, List.set_cons_succ, List.set_cons_zero]; exact rfl)) ?_
    refine qw_pu (wan_none rfl) (fun h hm => pu_move (by (simp only [ev, List.getD_cons_succ, List.getD_cons_zero]; exact rfl))) (by (simp only [setD, List.set_cons_succ, List.set_cons_zero]; exact rfl)) ?_
    refine qw_pu (wan_none rfl) (fun h hm => pu_move (by (simp only [ev, List.getD_cons_succ, List.getD_cons_zero]; exact rfl))) (by (simp only [setD, List.set_cons_succ, List.set_cons_zero]; exact rfl)) ?_
    first | refine qw_pu (wan_none rfl) (fun h hm => pu_indexAddrQ rfl rfl (by omega) (by assumption)) (by (simp only [setD, List.set_cons_succ, List.set_cons_zero]; exact rfl)) ?_ | refine qw_pu (wan_none rfl) (fun h hm => pu_indexAddr rfl rfl (by omega)) (by (simp only [setD, List.set_cons_succ, List.set_cons_zero]; exact rfl)) ?_
    refine qw_pu (wan_none rfl) (fun h hm => pu_load rfl (hc' hm)) (by (simp only [setD, List.set_cons_succ, List.set_cons_zero]; exact rfl)) ?_
    refine qw_calx (wan_none rfl) (fun h hm => htk hm) (by (simp only [setD, List.set_cons_succ, List.set_cons_zero]; exact rfl)) ?_
    refine qw_nil ?_; refine hK _ ?_; clear hK K hm; intro h hm
    refine tw_cond_ds rfl (by (simp only [List.set_cons_succ, List.set_cons_zero]; exact rfl)) (by (simp only [List.set_cons_succ, List.set_cons_zero]; exact rfl)) (fun hq => ?_) (fun hq => ?_)
    refine tw_seq ?_
    refine tw_region (fun K hK => ?_)
    refine lw_pu (wan_none rfl) (pu_assign (by (simp only [ev, List.getD_cons_succ, List.getD_cons_zero]; exact rfl))) (by (simp only [setD, List.set_cons_succ, List.set_cons_zero]; exact rfl)) ?_
    refine lw_nil ?_; refine hK _ _ ?_; clear hK K
    refine tw_ret1 Try.func31 Try.results31 (by (simp only [ev, List.getD_cons_succ, List.getD_cons_zero]; exact rfl)) ?_
    rotate_left 1
    refine tw_skip ?_
    refine tw_inBlock ?_
    refine tw_region (fun K hK => ?_)
    refine lw_pu (wan_none rfl) (pu_move (by (simp only [ev, List.getD_cons_succ, List.getD_cons_zero]; exact rfl))) (by (simp only [setD, List.set_cons_succ, List.set_cons_zero]; exact rfl)) ?_
    first | refine lw_pu (wan_none rfl) (pu_addn (n := 1) rfl rfl (by omega)) (by (simp only [setD, List.set_cons_succ, List.set_cons_zero]; exact rfl)) ?_ | refine lw_pu (wan_none rfl) (pu_addi rfl rfl (by omega) (by omega)) (by (simp only [setD, List.set_cons_succ, List.set_cons_zero]; exact rfl)) ?_ | refine lw_pu (wan_none rfl) (pu_add rfl rfl) (by (simp only [setD, List.set_cons_succ, List.set_cons_zero]; exact rfl)) ?_
    refine lw_pu (wan_none rfl) (pu_assign (by (simp only [ev, List.getD_cons_succ, List.getD_cons_zero]; exact rfl))) (by (simp only [setD, List.set_cons_succ, List.set_cons_zero]; exact rfl)) ?_
    refine lw_nil ?_; refine hK _ _ ?_; clear hK K
    rotate_left 1
    -- left: ret | round
    · exact ⟨⟨_, rfl⟩, hm.ext⟩
    · exact IH (j + 1) _ _ (by omega) rfl ⟨hm, by omega⟩
  · exact ⟨⟨_, rfl⟩, hm.ext⟩

/-- What the lists are that the laws look at. -/
def Good (xs : List At) : Prop := xs.length ≤ 12 ∧ (∀ a ∈ xs, a.1.length ≤ 200 ∧ a.2.length ≤ 200) ∧ ∀ (i j : Nat) (a b : At), i < j → xs[i]? = some a → xs[j]? = some b → a.1 ≠ b.1
theorem attrs7_ret (xs : List At) (q : Option Addr) (cp : Nat) (h0 : Array Obj) (hmax : xs.length ≤ maxLen) (hlen : ∀ a ∈ xs, a.1.length ≤ maxLen ∧ a.2.length ≤ maxLen) (hr : SlR h0 2 q (xs.map row)) : Ret Try.prog 15 [.slice q xs.length cp] h0 fun v h => (∃ b, v = .bool b ∧ (b = true → Good xs)) ∧ Ext h0 h := by
  have hm := Mem.refl h0
  have hmx : maxLen = 2 ^ 63 - 1 := rfl
  refine ret_of_tw (ρ := ((.slice q xs.length cp) :: undef :: undef :: undef :: undef :: undef :: undef :: undef :: undef :: undef :: undef :: undef :: undef :: undef :: undef :: undef :: undef :: undef :: undef :: undef :: undef :: undef :: undef :: undef :: undef :: undef :: undef :: undef :: undef :: undef :: undef :: undef :: undef :: undef :: undef :: undef :: undef :: undef :: undef :: undef :: undef :: undef :: undef :: undef :: undef :: undef :: undef :: undef :: undef :: undef :: undef :: undef :: undef :: undef :: undef :: undef :: undef :: undef :: undef :: undef :: undef :: undef :: undef :: [])) Try.func15 rfl rfl (fun E => ?_)
  refine tw_seq ?_
  refine tw_region (fun K hK => ?_)
  refine lw_pu (wan_none rfl) (pu_assign (by (simp only [ev, List.getD_cons_succ, List.getD_cons_zero]; exact rfl))) (by (simp only [setD, List.set_cons_succ, List.set_cons_zero]; exact rfl)) ?_
  refine lw_nil ?_; refine hK _ _ ?_; clear hK K
  refine tw_seq ?_
  refine tw_seq ?_
  refine tw_region (fun K hK => ?_)
  refine lw_pu (wan_none rfl) (pu_move (by (simp only [ev, List.getD_cons_succ, List.getD_cons_zero]; exact rfl))) (by (simp only [setD, List.set_cons_succ, List.set_cons_zero]; exact rfl)) ?_
  refine lw_pu (wan_none rfl) (pu_lensl rfl rfl) (by (simp only [setD, List.set_cons_succ, List.set_cons_zero]; exact rfl)) ?_
  refine lw_pu (wan_none rfl) (pu_gtr rfl rfl) (by (simp only [setD, List.set_cons_succ, List.set_cons_zero]; exact rfl)) ?_
  refine lw_nil ?_; refine hK _ _ ?_; clear hK K
  refine tw_cond_ds rfl (by (simp only [List.set_cons_succ, List.set_cons_zero]; exact rfl)) (by (simp only [List.set_cons_succ, List.set_cons_zero]; exact rfl)) (fun hq => ?_) (fun hq => ?_)
  refine tw_seq ?_
  refine tw_region (fun K hK => ?_)
  refine lw_pu (wan_none rfl) (pu_assign (by (simp only [ev, List.getD_cons_succ, List.getD_cons_zero]; exact rfl))) (by (simp only [setD, List.set_cons_succ, List.set_cons_zero]; exact rfl)) ?_
  refine lw_nil ?_; refine hK _ _ ?_; clear hK K
  refine tw_ret1 Try.func15 Try.results15 (by (simp only [ev, List.getD_cons_succ, List.getD_cons_zero]; exact rfl)) ?_
  rotate_left 1
  refine tw_skip ?_
  refine tw_seq ?_
  refine tw_seq ?_
  refine tw_region (fun K hK => ?_)
  refine lw_pu (wan_none rfl) (pu_assign (by (simp only [ev, List.getD_cons_succ, List.getD_cons_zero]; exact rfl))) (by (simp only [setD, List.set_cons_succ, List.set_cons_zero]; exact rfl)) ?_
  refine lw_nil ?_; refine hK _ _ ?_; clear hK K
  refine tw_block ?_
  rotate_left 1
  -- left: ret | loop
  · exact ⟨⟨_, rfl, by simp⟩, hm.ext⟩
  refine tw_loopJ (X := Nat) (fun i => xs.length - i) (fun i J => (.slice q xs.length cp :: J 1 :: J 2 :: .int .i64 (i : Int) :: J 4 :: J 5 :: J 6 :: J 7 :: J 8 :: J 9 :: J 10 :: J 11 :: J 12 :: J 13 :: J 14 :: J 15 :: J 16 :: J 17 :: J 18 :: J 19 :: J 20 :: J 21 :: J 22 :: J 23 :: J 24 :: J 25 :: J 26 :: J 27 :: J 28 :: J 29 :: J 30 :: J 31 :: J 32 :: J 33 :: J 34 :: J 35 :: J 36 :: J 37 :: J 38 :: J 39 :: J 40 :: J 41 :: J 42 :: J 43 :: J 44 :: J 45 :: J 46 :: J 47 :: J 48 :: J 49 :: J 50 :: J 51 :: J 52 :: J 53 :: J 54 :: J 55 :: J 56 :: J 57 :: J 58 :: J 59 :: J 60 :: J 61 :: J 62 :: [])) (fun i h => Mem h0 h [] [] ∧ i ≤ xs.length ∧ (∀ k (a : At), k < i → xs[k]? = some a → a.1.length ≤ 200 ∧ a.2.length ≤ 200) ∧ ∀ k m (a b : At), k < m → m < i → xs[k]? = some a → xs[m]? = some b → a.1 ≠ b.1) 0 rfl ⟨hm, by simp, fun _ _ h => absurd h (Nat.not_lt_zero _), fun _ _ _ _ _ h => absurd h (Nat.not_lt_zero _)⟩ ?_
  clear hm
  rintro i J h ⟨hm, hi, hsz, hds⟩ IH
  refine tw_seq ?_
  refine tw_seq ?_
  refine tw_region (fun K hK => ?_)
  refine lw_pu (wan_none rfl) (pu_move (by (simp only [ev, List.getD_cons_succ, List.getD_cons_zero]; exact rfl))) (by (simp only [setD, List.set_cons_succ, List.set_cons_zero]; exact rfl)) ?_
  refine lw_pu (wan_none rfl) (pu_move (by (simp only [ev, List.getD_cons_succ, List.getD_cons_zero]; exact rfl))) (by (simp only [setD, List.set_cons_succ, List.set_cons_zero]; exact rfl)) ?_
  refine lw_pu (wan_none rfl) (pu_lensl rfl rfl) (by (simp only [setD, List.set_cons_succ, List.set_cons_zero]; exact rfl)) ?_
  refine lw_pu (wan_none rfl) (pu_lss rfl rfl) (by (simp only [setD, List.set_cons_succ, List.set_cons_zero]; exact rfl)) ?_
  refine lw_nil ?_; refine hK _ _ ?_; clear hK K
  refine tw_cond_ds rfl (by (simp only [List.set_cons_succ, List.set_cons_zero]; exact rfl)) (by (simp only [List.set_cons_succ, List.set_cons_zero]; exact rfl)) (fun hq => ?_) (fun hq => ?_)
  refine tw_skip ?_
  refine tw_seq ?_
  refine tw_block ?_
  refine tw_seq ?_
  refine tw_seq ?_
  refine tw_region (fun K hK => ?_)
  rotate_left 1
  refine tw_exit rfl ?_
  refine tw_seq ?_
  refine tw_region (fun K hK => ?_)
  refine lw_pu (wan_none rfl) (pu_assign (by (simp only [ev, List.getD_cons_succ, List.getD_cons_zero]; exact rfl))) (by (simp only [setD, List.set_cons_succ, List.set_cons_zero]; exact rfl)) ?_
  refine lw_nil ?_; refine hK _ _ ?_; clear hK K
  refine tw_ret1 Try.func15 Try.results15 (by (simp only [ev, List.getD_cons_succ, List.getD_cons_zero]; exact rfl)) ?_
  rotate_left 1
  -- left: region 6 op 0 | ret
  · obtain ⟨a, ha, hq', hc⟩ := hr.at (i := i) (by omega)
    have hc0 : ∀ {h}, Ext h0 h → cell h ⟨blk q, offs q + i * 2, none⟩ = some (bs a.1) := fun he => he.cell hc.1
    have hc1 : ∀ {h}, Ext h0 h → cell h ⟨blk q, offs q + i * 2 + 1, none⟩ = some (bs a.2) := fun he => he.cell hc.2.1
    have hla := hlen a (List.mem_of_getElem? ha)
    refine lw_pu (wan_none rfl) (pu_move (by (simp only [ev, List.getD_cons_succ, List.getD_cons_zero]; exact rfl))) (by (simp only [setD, List.set_cons_succ, List.set_cons_zero]; exact rfl)) ?_
    refine lw_pu (wan_none rfl) (pu_move (by (simp only [ev, List.getD_cons_succ, List.getD_cons_zero]; exact rfl))) (by (simp only [setD, List.set_cons_succ, List.set_cons_zero]; exact rfl)) ?_
    first | refine lw_pu (wan_none rfl) (pu_indexAddrQ rfl rfl (by omega) (by assumption)) (by (simp only [setD, List.set_cons_succ, List.set_cons_zero]; exact rfl)) ?_ | refine lw_pu (wan_none rfl) (pu_indexAddr rfl rfl (by omega)) (by (simp only [setD, List.set_cons_succ, List.set_cons_zero]; exact rfl)) ?_
    refine lw_pu (wan_none rfl) (pu_fieldAddr rfl (by exact fun w => siz _ w)) (by (simp only [setD, List.set_cons_succ, List.set_cons_zero]; exact rfl)) ?_
    first | refine lw_pu (wan_none rfl) (pu_load rfl (hc0 hm.ext)) (by (simp only [setD, List.set_cons_succ, List.set_cons_zero]; exact rfl)) ?_ | refine lw_pu (wan_none rfl) (pu_load rfl (hc1 hm.ext)) (by (simp only [setD, List.set_cons_succ, List.set_cons_zero]; exact rfl)) ?_
    refine lw_pu (wan_none rfl) (pu_lens rfl rfl) (by (simp only [setD, List.set_cons_succ, List.set_cons_zero]; exact rfl)) ?_
    refine lw_pu (wan_none rfl) (pu_gtr rfl rfl) (by (simp only [setD, List.set_cons_succ, List.set_cons_zero]; exact rfl)) ?_
    refine lw_pu (wan_none rfl) (pu_move (by (simp only [ev, List.getD_cons_succ, List.getD_cons_zero]; exact rfl))) (by (simp only [setD, List.set_cons_succ, List.set_cons_zero]; exact rfl)) ?_
    refine lw_split_d rfl rfl rfl (by (simp only [List.set_cons_succ, List.set_cons_zero]; exact rfl)) (by (simp only [List.set_cons_succ, List.set_cons_zero]; exact rfl)) (fun hq => ?_) (fun hq => ?_)
    refine lw_skip_b rfl rfl rfl (by (simp only [setD, List.set_cons_succ, List.set_cons_zero]; exact rfl)) ?_
    refine lw_skip_b rfl rfl rfl (by (simp only [setD, List.set_cons_succ, List.set_cons_zero]; exact rfl)) ?_
    refine lw_skip_b rfl rfl rfl (by (simp only [setD, List.set_cons_succ, List.set_cons_zero]; exact rfl)) ?_
    refine lw_skip_b rfl rfl rfl (by (simp only [setD, List.set_cons_succ, List.set_cons_zero]; exact rfl)) ?_
    refine lw_skip_b rfl rfl rfl (by (simp only [setD, List.set_cons_succ, List.set_cons_zero]; exact rfl)) ?_
    refine lw_skip_b rfl rfl rfl (by (simp only [setD, List.set_cons_succ, List.set_cons_zero]; exact rfl)) ?_
    refine lw_skip_b rfl rfl rfl (by (simp only [setD, List.set_cons_succ, List.set_cons_zero]; exact rfl)) ?_
    refine lw_pu (wan_none rfl) (pu_pick_t rfl (by (simp only [ev, List.getD_cons_succ, List.getD_cons_zero]; exact rfl))) (by (simp only [setD, List.set_cons_succ, List.set_cons_zero]; exact rfl)) ?_
    refine lw_pu (wan_none rfl) (pu_move (by (simp only [ev, List.getD_cons_succ, List.getD_cons_zero]; exact rfl))) (by (simp only [setD, List.set_cons_succ, List.set_cons_zero]; exact rfl)) ?_
    refine lw_skip_b rfl rfl rfl (by (simp only [setD, List.set_cons_succ, List.set_cons_zero]; exact rfl)) ?_
    refine lw_skip_b rfl rfl rfl (by (simp only [setD, List.set_cons_succ, List.set_cons_zero]; exact rfl)) ?_
    refine lw_skip_b rfl rfl rfl (by (simp only [setD, List.set_cons_succ, List.set_cons_zero]; exact rfl)) ?_
    refine lw_skip_b rfl rfl rfl (by (simp only [setD, List.set_cons_succ, List.set_cons_zero]; exact rfl)) ?_
    refine lw_skip_b rfl rfl rfl (by (simp only [setD, List.set_cons_succ, List.set_cons_zero]; exact rfl)) ?_
    refine lw_skip_b rfl rfl rfl (by (simp only [setD, List.set_cons_succ, List.set_cons_zero]; exact rfl)) ?_
    refine lw_skip_b rfl rfl rfl (by (simp only [setD, List.set_cons_succ, List.set_cons_zero]; exact rfl)) ?_
    refine lw_skip_u rfl rfl rfl (by (simp only [setD, List.set_cons_succ, List.set_cons_zero]; exact rfl)) ?_
    refine lw_skip_u rfl rfl rfl (by (simp only [setD, List.set_cons_succ, List.set_cons_zero]; exact rfl)) ?_
    refine lw_skip_u rfl rfl rfl (by (simp only [setD, List.set_cons_succ, List.set_cons_zero]; exact rfl)) ?_
    refine lw_skip_u rfl rfl rfl (by (simp only [setD, List.set_cons_succ, List.set_cons_zero]; exact rfl)) ?_
    refine lw_skip_u rfl rfl rfl (by (simp only [setD, List.set_cons_succ, List.set_cons_zero]; exact rfl)) ?_
    refine lw_skip_u rfl rfl rfl (by (simp only [setD, List.set_cons_succ, List.set_cons_zero]; exact rfl)) ?_
    refine lw_skip_u rfl rfl rfl (by (simp only [setD, List.set_cons_succ, List.set_cons_zero]; exact rfl)) ?_
    refine lw_skip_b rfl rfl rfl (by (simp only [setD, List.set_cons_succ, List.set_cons_zero]; exact rfl)) ?_
    refine lw_pu (wan_none rfl) (pu_pick_t rfl (by (simp only [ev, List.getD_cons_succ, List.getD_cons_zero]; exact rfl))) (by (simp only [setD, List.set_cons_succ, List.set_cons_zero]; exact rfl)) ?_
    refine lw_nil ?_; refine hK _ _ ?_; clear hK K
    refine tw_cond_t rfl ?_
    refine tw_seq ?_
    refine tw_region (fun K hK => ?_)
    refine lw_pu (wan_none rfl) (pu_assign (by (simp only [ev, List.getD_cons_succ, List.getD_cons_zero]; exact rfl))) (by (simp only [setD, List.set_cons_succ, List.set_cons_zero]; exact rfl)) ?_
    refine lw_nil ?_; refine hK _ _ ?_; clear hK K
    refine tw_ret1 Try.func15 Try.results15 (by (simp only [ev, List.getD_cons_succ, List.getD_cons_zero]; exact rfl)) ?_
    rotate_left 1
    refine lw_pu (wan_some rfl rfl rfl) (pu_move (by (simp only [ev, List.getD_cons_succ, List.getD_cons_zero]; exact rfl))) (by (simp only [setD, List.set_cons_succ, List.set_cons_zero]; exact rfl)) ?_
    refine lw_pu (wan_some rfl rfl rfl) (pu_move (by (simp only [ev, List.getD_cons_succ, List.getD_cons_zero]; exact rfl))) (by (simp only [setD, List.set_cons_succ, List.set_cons_zero]; exact rfl)) ?_
    first | refine lw_pu (wan_some rfl rfl rfl) (pu_indexAddrQ rfl rfl (by omega) (by assumption)) (by (simp only [setD, List.set_cons_succ, List.set_cons_zero]; exact rfl)) ?_ | refine lw_pu (wan_some rfl rfl rfl) (pu_indexAddr rfl rfl (by omega)) (by (simp only [setD, List.set_cons_succ, List.set_cons_zero]; exact rfl)) ?_
    refine lw_pu (wan_some rfl rfl rfl) (pu_fieldAddr rfl (by exact fun w => siz _ w)) (by (simp only [setD, List.set_cons_succ, List.set_cons_zero]; exact rfl)) ?_
    first | refine lw_pu (wan_some rfl rfl rfl) (pu_load rfl (hc0 hm.ext)) (by (simp only [setD, List.set_cons_succ, List.set_cons_zero]; exact rfl)) ?_ | refine lw_pu (wan_some rfl rfl rfl) (pu_load rfl (hc1 hm.ext)) (by (simp only [setD, List.set_cons_succ, List.set_cons_zero]; exact rfl)) ?_
    refine lw_pu (wan_some rfl rfl rfl) (pu_lens rfl rfl) (by (simp only [setD, List.set_cons_succ, List.set_cons_zero]; exact rfl)) ?_
    refine lw_pu (wan_some rfl rfl rfl) (pu_gtr rfl rfl) (by (simp only [setD, List.set_cons_succ, List.set_cons_zero]; exact rfl)) ?_
    refine lw_pu (wan_none rfl) (pu_pick_f rfl (by (simp only [ev, List.getD_cons_succ, List.getD_cons_zero]; exact rfl))) (by (simp only [setD, List.set_cons_succ, List.set_cons_zero]; exact rfl)) ?_
    refine lw_pu (wan_none rfl) (pu_move (by (simp only [ev, List.getD_cons_succ, List.getD_cons_zero]; exact rfl))) (by (simp only [setD, List.set_cons_succ, List.set_cons_zero]; exact rfl)) ?_
    refine lw_split_d rfl rfl rfl (by (simp only [List.set_cons_succ, List.set_cons_zero]; exact rfl)) (by (simp only [List.set_cons_succ, List.set_cons_zero]; exact rfl)) (fun hq => ?_) (fun hq => ?_)
    refine lw_skip_b rfl rfl rfl (by (simp only [setD, List.set_cons_succ, List.set_cons_zero]; exact rfl)) ?_
    refine lw_skip_b rfl rfl rfl (by (simp only [setD, List.set_cons_succ, List.set_cons_zero]; exact rfl)) ?_
    refine lw_skip_b rfl rfl rfl (by (simp only [setD, List.set_cons_succ, List.set_cons_zero]; exact rfl)) ?_
    refine lw_skip_b rfl rfl rfl (by (simp only [setD, List.set_cons_succ, List.set_cons_zero]; exact rfl)) ?_
    refine lw_skip_b rfl rfl rfl (by (simp only [setD, List.set_cons_succ, List.set_cons_zero]; exact rfl)) ?_
    refine lw_skip_b rfl rfl rfl (by (simp only [setD, List.set_cons_succ, List.set_cons_zero]; exact rfl)) ?_
    refine lw_skip_b rfl rfl rfl (by (simp only [setD, List.set_cons_succ, List.set_cons_zero]; exact rfl)) ?_
    refine lw_skip_u rfl rfl rfl (by (simp only [setD, List.set_cons_succ, List.set_cons_zero]; exact rfl)) ?_
    refine lw_skip_u rfl rfl rfl (by (simp only [setD, List.set_cons_succ, List.set_cons_zero]; exact rfl)) ?_
    refine lw_skip_u rfl rfl rfl (by (simp only [setD, List.set_cons_succ, List.set_cons_zero]; exact rfl)) ?_
    refine lw_skip_u rfl rfl rfl (by (simp only [setD, List.set_cons_succ, List.set_cons_zero]; exact rfl)) ?_
    refine lw_skip_u rfl rfl rfl (by (simp only [setD, List.set_cons_succ, List.set_cons_zero]; exact rfl)) ?_
    refine lw_skip_u rfl rfl rfl (by (simp only [setD, List.set_cons_succ, List.set_cons_zero]; exact rfl)) ?_
    refine lw_skip_u rfl rfl rfl (by (simp only [setD, List.set_cons_succ, List.set_cons_zero]; exact rfl)) ?_
    refine lw_skip_b rfl rfl rfl (by (simp only [setD, List.set_cons_succ, List.set_cons_zero]; exact rfl)) ?_
    refine lw_pu (wan_none rfl) (pu_pick_t rfl (by (simp only [ev, List.getD_cons_succ, List.getD_cons_zero]; exact rfl))) (by (simp only [setD, List.set_cons_succ, List.set_cons_zero]; exact rfl)) ?_
    refine lw_nil ?_; refine hK _ _ ?_; clear hK K
    refine tw_cond_t rfl ?_
    refine tw_seq ?_
    refine tw_region (fun K hK => ?_)
    refine lw_pu (wan_none rfl) (pu_assign (by (simp only [ev, List.getD_cons_succ, List.getD_cons_zero]; exact rfl))) (by (simp only [setD, List.set_cons_succ, List.set_cons_zero]; exact rfl)) ?_
    refine lw_nil ?_; refine hK _ _ ?_; clear hK K
    refine tw_ret1 Try.func15 Try.results15 (by (simp only [ev, List.getD_cons_succ, List.getD_cons_zero]; exact rfl)) ?_
    rotate_left 1
    refine lw_pu (wan_some rfl rfl rfl) (pu_move (by (simp only [ev, List.getD_cons_succ, List.getD_cons_zero]; exact rfl))) (by (simp only [setD, List.set_cons_succ, List.set_cons_zero]; exact rfl)) ?_
    refine lw_pu (wan_some rfl rfl rfl) (pu_move (by (simp only [ev, List.getD_cons_succ, List.getD_cons_zero]; exact rfl))) (by (simp only [setD, List.set_cons_succ, List.set_cons_zero]; exact rfl)) ?_
    first | refine lw_pu (wan_some rfl rfl rfl) (pu_indexAddrQ rfl rfl (by omega) (by assumption)) (by (simp only [setD, List.set_cons_succ, List.set_cons_zero]; exact rfl)) ?_ | refine lw_pu (wan_some rfl rfl rfl) (pu_indexAddr rfl rfl (by omega)) (by (simp only [setD, List.set_cons_succ, List.set_cons_zero]; exact rfl)) ?_
    refine lw_pu (wan_some rfl rfl rfl) (pu_fieldAddr rfl (by exact fun w => siz _ w)) (by (simp only [setD, List.set_cons_succ, List.set_cons_zero]; exact rfl)) ?_
    first | refine lw_pu (wan_some rfl rfl rfl) (pu_load rfl (hc0 hm.ext)) (by (simp only [setD, List.set_cons_succ, List.set_cons_zero]; exact rfl)) ?_ | refine lw_pu (wan_some rfl rfl rfl) (pu_load rfl (hc1 hm.ext)) (by (simp only [setD, List.set_cons_succ, List.set_cons_zero]; exact rfl)) ?_
    refine lw_pu (wan_some rfl rfl rfl) (pu_eqs rfl rfl) (by (simp only [setD, List.set_cons_succ, List.set_cons_zero]; exact rfl)) ?_
    refine lw_pu (wan_some rfl rfl rfl) (pu_move (by (simp only [ev, List.getD_cons_succ, List.getD_cons_zero]; exact rfl))) (by (simp only [setD, List.set_cons_succ, List.set_cons_zero]; exact rfl)) ?_
    refine lw_split_d rfl rfl rfl (by (simp only [List.set_cons_succ, List.set_cons_zero]; exact rfl)) (by (simp only [List.set_cons_succ, List.set_cons_zero]; exact rfl)) (fun hq => ?_) (fun hq => ?_)
    refine lw_pu (wan_some rfl rfl rfl) (pu_move (by (simp only [ev, List.getD_cons_succ, List.getD_cons_zero]; exact rfl))) (by (simp only [setD, List.set_cons_succ, List.set_cons_zero]; exact rfl)) ?_
    refine lw_pu (wan_some rfl rfl rfl) (pu_move (by (simp only [ev, List.getD_cons_succ, List.getD_cons_zero]; exact rfl))) (by (simp only [setD, List.set_cons_succ, List.set_cons_zero]; exact rfl)) ?_
    first | refine lw_pu (wan_some rfl rfl rfl) (pu_indexAddrQ rfl rfl (by omega) (by assumption)) (by (simp only [setD, List.set_cons_succ, List.set_cons_zero]; exact rfl)) ?_ | refine lw_pu (wan_some rfl rfl rfl) (pu_indexAddr rfl rfl (by omega)) (by (simp only [setD, List.set_cons_succ, List.set_cons_zero]; exact rfl)) ?_
    refine lw_pu (wan_some rfl rfl rfl) (pu_fieldAddr rfl (by exact fun w => siz _ w)) (by (simp only [setD, List.set_cons_succ, List.set_cons_zero]; exact rfl)) ?_
    first | refine lw_pu (wan_some rfl rfl rfl) (pu_load rfl (hc0 hm.ext)) (by (simp only [setD, List.set_cons_succ, List.set_cons_zero]; exact rfl)) ?_ | refine lw_pu (wan_some rfl rfl rfl) (pu_load rfl (hc1 hm.ext)) (by (simp only [setD, List.set_cons_succ, List.set_cons_zero]; exact rfl)) ?_
    refine lw_calr (wan_some rfl rfl rfl) (simpleClass_ret a.2 (by omega) _) hm ?_; clear hm; rintro _ h ⟨b, rfl⟩ hm; refine lw_norm (by (simp only [setD, List.set_cons_succ, List.set_cons_zero]; exact rfl)) ?_
    first | refine lw_pu (wan_some rfl rfl rfl) (pu_notd rfl) (by (simp only [setD, List.set_cons_succ, List.set_cons_zero]; exact rfl)) ?_ | refine lw_pu (wan_some rfl rfl rfl) (pu_not rfl) (by (simp only [setD, List.set_cons_succ, List.set_cons_zero]; exact rfl)) ?_
    refine lw_pu (wan_some rfl rfl rfl) (pu_pick_t rfl (by (simp only [ev, List.getD_cons_succ, List.getD_cons_zero]; exact rfl))) (by (simp only [setD, List.set_cons_succ, List.set_cons_zero]; exact rfl)) ?_
    refine lw_pu (wan_none rfl) (pu_pick_f rfl (by (simp only [ev, List.getD_cons_succ, List.getD_cons_zero]; exact rfl))) (by (simp only [setD, List.set_cons_succ, List.set_cons_zero]; exact rfl)) ?_
    refine lw_nil ?_; refine hK _ _ ?_; clear hK K
    first | refine tw_cond_ds rfl (by (simp only [List.set_cons_succ, List.set_cons_zero]; exact rfl)) (by (simp only [List.set_cons_succ, List.set_cons_zero]; exact rfl)) (fun hq => ?_) (fun hq => ?_) | refine tw_cond_bs rfl (by (simp only [List.set_cons_succ, List.set_cons_zero]; exact rfl)) (by (simp only [List.set_cons_succ, List.set_cons_zero]; exact rfl)) (fun hq => ?_) (fun hq => ?_)
    refine tw_seq ?_
    refine tw_region (fun K hK => ?_)
    refine lw_pu (wan_none rfl) (pu_assign (by (simp only [ev, List.getD_cons_succ, List.getD_cons_zero]; exact rfl))) (by (simp only [setD, List.set_cons_succ, List.set_cons_zero]; exact rfl)) ?_
    refine lw_nil ?_; refine hK _ _ ?_; clear hK K
    refine tw_ret1 Try.func15 Try.results15 (by (simp only [ev, List.getD_cons_succ, List.getD_cons_zero]; exact rfl)) ?_
    rotate_left 1
    refine tw_skip ?_
    refine tw_seq ?_
    refine tw_region (fun K hK => ?_)
    refine lw_pu (wan_none rfl) (pu_assign (by (simp only [ev, List.getD_cons_succ, List.getD_cons_zero]; exact rfl))) (by (simp only [setD, List.set_cons_succ, List.set_cons_zero]; exact rfl)) ?_
    refine lw_nil ?_; refine hK _ _ ?_; clear hK K
    refine tw_block ?_
    rotate_left 1
    refine lw_skip_b rfl rfl rfl (by (simp only [setD, List.set_cons_succ, List.set_cons_zero]; exact rfl)) ?_
    refine lw_skip_b rfl rfl rfl (by (simp only [setD, List.set_cons_succ, List.set_cons_zero]; exact rfl)) ?_
    refine lw_skip_b rfl rfl rfl (by (simp only [setD, List.set_cons_succ, List.set_cons_zero]; exact rfl)) ?_
    refine lw_skip_b rfl rfl rfl (by (simp only [setD, List.set_cons_succ, List.set_cons_zero]; exact rfl)) ?_
    refine lw_skip_b rfl rfl rfl (by (simp only [setD, List.set_cons_succ, List.set_cons_zero]; exact rfl)) ?_
    refine lw_skip_b rfl rfl rfl (by (simp only [setD, List.set_cons_succ, List.set_cons_zero]; exact rfl)) ?_
    refine lw_skip_b rfl rfl rfl (by (simp only [setD, List.set_cons_succ, List.set_cons_zero]; exact rfl)) ?_
    refine lw_pu (wan_some rfl rfl rfl) (pu_pick_f rfl (by (simp only [ev, List.getD_cons_succ, List.getD_cons_zero]; exact rfl))) (by (simp only [setD, List.set_cons_succ, List.set_cons_zero]; exact rfl)) ?_
    refine lw_pu (wan_none rfl) (pu_pick_f rfl (by (simp only [ev, List.getD_cons_succ, List.getD_cons_zero]; exact rfl))) (by (simp only [setD, List.set_cons_succ, List.set_cons_zero]; exact rfl)) ?_
    refine lw_nil ?_; refine hK _ _ ?_; clear hK K
    refine tw_cond_f rfl ?_
    refine tw_skip ?_
    refine tw_seq ?_
    refine tw_region (fun K hK => ?_)
    refine lw_pu (wan_none rfl) (pu_assign (by (simp only [ev, List.getD_cons_succ, List.getD_cons_zero]; exact rfl))) (by (simp only [setD, List.set_cons_succ, List.set_cons_zero]; exact rfl)) ?_
    refine lw_nil ?_; refine hK _ _ ?_; clear hK K
    refine tw_block ?_
    rotate_left 1
    -- left: ret | ret | ret | loop | loop
    all_goals first
      | exact ⟨⟨_, rfl, by simp⟩, hm.ext⟩
      | skip
    all_goals
      refine tw_loopJ (X := Nat) (fun k => i - k) (fun k J => (.slice q xs.length cp :: J 1 :: J 2 :: .int .i64 (i : Int) :: .int .i64 (k : Int) :: J 5 :: J 6 :: J 7 :: J 8 :: J 9 :: J 10 :: J 11 :: J 12 :: J 13 :: J 14 :: J 15 :: J 16 :: J 17 :: J 18 :: J 19 :: J 20 :: J 21 :: J 22 :: J 23 :: J 24 :: J 25 :: J 26 :: J 27 :: J 28 :: J 29 :: J 30 :: J 31 :: J 32 :: J 33 :: J 34 :: J 35 :: J 36 :: J 37 :: J 38 :: J 39 :: J 40 :: J 41 :: J 42 :: J 43 :: J 44 :: J 45 :: J 46 :: J 47 :: J 48 :: J 49 :: J 50 :: J 51 :: J 52 :: J 53 :: J 54 :: J 55 :: J 56 :: J 57 :: J 58 :: J 59 :: J 60 :: J 61 :: J 62 :: [])) (fun k h => Mem h0 h [] [] ∧ k ≤ i ∧ ∀ m (b : At), m < k → xs[m]? = some b → b.1 ≠ a.1) 0 rfl ⟨hm, by simp, fun _ _ h => absurd h (Nat.not_lt_zero _)⟩ ?_
      clear hm
      rintro k J h ⟨hm, hk, hne⟩ IH2
      refine tw_seq ?_
      refine tw_seq ?_
      refine tw_region (fun K hK => ?_)
      refine lw_pu (wan_none rfl) (pu_move (by (simp only [ev, List.getD_cons_succ, List.getD_cons_zero]; exact rfl))) (by (simp only [setD, List.set_cons_succ, List.set_cons_zero]; exact rfl)) ?_
      refine lw_pu (wan_none rfl) (pu_move (by (simp only [ev, List.getD_cons_succ, List.getD_cons_zero]; exact rfl))) (by (simp only [setD, List.set_cons_succ, List.set_cons_zero]; exact rfl)) ?_
      refine lw_pu (wan_none rfl) (pu_lss rfl rfl) (by (simp only [setD, List.set_cons_succ, List.set_cons_zero]; exact rfl)) ?_
      refine lw_nil ?_; refine hK _ _ ?_; clear hK K
      refine tw_cond_ds rfl (by (simp only [List.set_cons_succ, List.set_cons_zero]; exact rfl)) (by (simp only [List.set_cons_succ, List.set_cons_zero]; exact rfl)) (fun hq => ?_) (fun hq => ?_)
      refine tw_skip ?_
      refine tw_seq ?_
      refine tw_block ?_
      refine tw_seq ?_
      rotate_left 1
      refine tw_exit rfl ?_
      refine tw_inBlock ?_
      refine tw_region (fun K hK => ?_)
      refine lw_pu (wan_none rfl) (pu_move (by (simp only [ev, List.getD_cons_succ, List.getD_cons_zero]; exact rfl))) (by (simp only [setD, List.set_cons_succ, List.set_cons_zero]; exact rfl)) ?_
      first | refine lw_pu (wan_none rfl) (pu_addn (n := 1) rfl rfl (by omega)) (by (simp only [setD, List.set_cons_succ, List.set_cons_zero]; exact rfl)) ?_ | refine lw_pu (wan_none rfl) (pu_addi rfl rfl (by omega) (by omega)) (by (simp only [setD, List.set_cons_succ, List.set_cons_zero]; exact rfl)) ?_ | refine lw_pu (wan_none rfl) (pu_add rfl rfl) (by (simp only [setD, List.set_cons_succ, List.set_cons_zero]; exact rfl)) ?_
      refine lw_pu (wan_none rfl) (pu_assign (by (simp only [ev, List.getD_cons_succ, List.getD_cons_zero]; exact rfl))) (by (simp only [setD, List.set_cons_succ, List.set_cons_zero]; exact rfl)) ?_
      refine lw_nil ?_; refine hK _ _ ?_; clear hK K
      rotate_left 1
      -- left: region 11 DRAWN | round
      · obtain ⟨b, hb, hq'', hd⟩ := hr.at (i := k) (by omega)
        have hd0 : ∀ {h}, Ext h0 h → cell h ⟨blk q, offs q + k * 2, none⟩ = some (bs b.1) := fun he => he.cell hd.1
        refine tw_quietM hm (by kernel_rfl) (by kernel_rfl) (fun K hK => ?_)
        refine qw_pu (wan_none rfl) (fun h hm => pu_move (by (simp only [ev, List.getD_cons_succ, List.getD_cons_zero]; exact rfl))) (by (simp only [setD, List.set_cons_succ, List.set_cons_zero]; exact rfl)) ?_
        refine qw_pu (wan_none rfl) (fun h hm => pu_move (by (simp only [ev, List.getD_cons_succ, List.getD_cons_zero]; exact rfl))) (by (simp only [setD, List.set_cons_succ, List.set_cons_zero]; exact rfl)) ?_
        first | refine qw_pu (wan_none rfl) (fun h hm => pu_indexAddrQ rfl rfl (by omega) (by assumption)) (by (simp only [setD, List.set_cons_succ, List.set_cons_zero]; exact rfl)) ?_ | refine qw_pu (wan_none rfl) (fun h hm => pu_indexAddr rfl rfl (by omega)) (by (simp only [setD, List.set_cons_succ, List.set_cons_zero]; exact rfl)) ?_
        refine qw_pu (wan_none rfl) (fun h hm => pu_fieldAddr rfl (by exact fun w => siz _ w)) (by (simp only [setD, List.set_cons_succ, List.set_cons_zero]; exact rfl)) ?_
        first | refine qw_pu (wan_none rfl) (fun h hm => pu_load rfl (hd0 hm.ext)) (by (simp only [setD, List.set_cons_succ, List.set_cons_zero]; exact rfl)) ?_ | refine qw_pu (wan_none rfl) (fun h hm => pu_load rfl (hc0 hm.ext)) (by (simp only [setD, List.set_cons_succ, List.set_cons_zero]; exact rfl)) ?_
        refine qw_pu (wan_none rfl) (fun h hm => pu_move (by (simp only [ev, List.getD_cons_succ, List.getD_cons_zero]; exact rfl))) (by (simp only [setD, List.set_cons_succ, List.set_cons_zero]; exact rfl)) ?_
        refine qw_pu (wan_none rfl) (fun h hm => pu_move (by (simp only [ev, List.getD_cons_succ, List.getD_cons_zero]; exact rfl))) (by (simp only [setD, List.set_cons_succ, List.set_cons_zero]; exact rfl)) ?_
        first | refine qw_pu (wan_none rfl) (fun h hm => pu_indexAddrQ rfl rfl (by omega) (by assumption)) (by (simp only [setD, List.set_cons_succ, List.set_cons_zero]; exact rfl)) ?_ | refine qw_pu (wan_none rfl) (fun h hm => pu_indexAddr rfl rfl (by omega)) (by (simp only [setD, List.set_cons_succ, List.set_cons_zero]; exact rfl)) ?_
        refine qw_pu (wan_none rfl) (fun h hm => pu_fieldAddr rfl (by exact fun w => siz _ w)) (by (simp only [setD, List.set_cons_succ, List.set_cons_zero]; exact rfl)) ?_
        first | refine qw_pu (wan_none rfl) (fun h hm => pu_load rfl (hd0 hm.ext)) (by (simp only [setD, List.set_cons_succ, List.set_cons_zero]; exact rfl)) ?_ | refine qw_pu (wan_none rfl) (fun h hm => pu_load rfl (hc0 hm.ext)) (by (simp only [setD, List.set_cons_succ, List.set_cons_zero]; exact rfl)) ?_
        refine qw_pu (wan_none rfl) (fun h hm => pu_eqs rfl rfl) (by (simp only [setD, List.set_cons_succ, List.set_cons_zero]; exact rfl)) ?_
        refine qw_nil ?_; refine hK _ ?_; clear hK K hm; intro h hm
        refine tw_cond_ds rfl (by (simp only [List.set_cons_succ, List.set_cons_zero]; exact rfl)) (by (simp only [List.set_cons_succ, List.set_cons_zero]; exact rfl)) (fun hq => ?_) (fun hq => ?_)
        refine tw_seq ?_
        refine tw_region (fun K hK => ?_)
        refine lw_pu (wan_none rfl) (pu_assign (by (simp only [ev, List.getD_cons_succ, List.getD_cons_zero]; exact rfl))) (by (simp only [setD, List.set_cons_succ, List.set_cons_zero]; exact rfl)) ?_
        refine lw_nil ?_; refine hK _ _ ?_; clear hK K
        refine tw_ret1 Try.func15 Try.results15 (by (simp only [ev, List.getD_cons_succ, List.getD_cons_zero]; exact rfl)) ?_
        rotate_left 1
        refine tw_skip ?_
        refine tw_inBlock ?_
        refine tw_region (fun K hK => ?_)
        refine lw_pu (wan_none rfl) (pu_move (by (simp only [ev, List.getD_cons_succ, List.getD_cons_zero]; exact rfl))) (by (simp only [setD, List.set_cons_succ, List.set_cons_zero]; exact rfl)) ?_
        first | refine lw_pu (wan_none rfl) (pu_addn (n := 1) rfl rfl (by omega)) (by (simp only [setD, List.set_cons_succ, List.set_cons_zero]; exact rfl)) ?_ | refine lw_pu (wan_none rfl) (pu_addi rfl rfl (by omega) (by omega)) (by (simp only [setD, List.set_cons_succ, List.set_cons_zero]; exact rfl)) ?_ | refine lw_pu (wan_none rfl) (pu_add rfl rfl) (by (simp only [setD, List.set_cons_succ, List.set_cons_zero]; exact rfl)) ?_
        refine lw_pu (wan_none rfl) (pu_assign (by (simp only [ev, List.getD_cons_succ, List.getD_cons_zero]; exact rfl))) (by (simp only [setD, List.set_cons_succ, List.set_cons_zero]; exact rfl)) ?_
        refine lw_nil ?_; refine hK _ _ ?_; clear hK K
        rotate_left 1
        -- left: ret | round
        · exact ⟨⟨_, rfl, by simp⟩, hm.ext⟩
        · exact IH2 (k + 1) _ _ (by omega) rfl ⟨hm, by omega, fun m b' h1 h2 => by
            rcases Nat.lt_or_ge m k with h3 | h3
            · exact hne m b' h3 h2
            · (have h4 : m = k := by omega); subst h4; rw [hb] at h2; cases h2; assumption⟩
      · refine IH (i + 1) _ _ (by omega) rfl ⟨hm, by omega, fun m b h1 h2 => ?_, fun m1 m2 a1 a2 h1 h2 h3 h4 => ?_⟩
        · rcases Nat.lt_or_ge m i with h3 | h3
          · exact hsz m b h3 h2
          · (have h4 : m = i := by omega); subst h4; rw [ha] at h2; cases h2; exact ⟨by omega, by omega⟩
        · rcases Nat.lt_or_ge m2 i with h5 | h5
          · exact hds m1 m2 a1 a2 h1 h5 h3 h4
          · (have h6 : m2 = i := by omega); subst h6; rw [ha] at h4; cases h4; exact hne m1 a1 (by omega) h3
  · refine ⟨⟨_, rfl, fun _ => ⟨by omega, fun a ha => ?_, fun k m a b h1 h2 h3 => hds k m a b h1 (by have := (List.getElem?_eq_some_iff.1 h3).1; omega) h2 h3⟩⟩, hm.ext⟩
    obtain ⟨k, hk⟩ := List.mem_iff_getElem?.1 ha
    exact hsz k a (by have := (List.getElem?_eq_some_iff.1 hk).1; omega) hk
end Go.Proofs.Ytchhjooifjcnkaa.Fits
