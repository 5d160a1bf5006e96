/-
  The order of how specific selectors are, and their sums: what the package and the reference compute of three numbers.
-/
import Derived.Test.YtchhjooifjcnkaaKTypes
namespace Go.Proofs.Ytchhjooifjcnkaa.SpecificOrder
open Go Go.Proofs K

abbrev three (a b c : Int) : Value := .agg #[.int .i64 a, .int .i64 b, .int .i64 c]
def Lt3 (a0 a1 a2 b0 b1 b2 : Int) : Prop := a0 < b0 ∨ a0 = b0 ∧ (a1 < b1 ∨ a1 = b1 ∧ a2 < b2)
instance (a0 a1 a2 b0 b1 b2 : Int) : Decidable (Lt3 a0 a1 a2 b0 b1 b2) := by unfold Lt3; infer_instance
def Bd (a : Int) : Prop := 0 ≤ a ∧ a ≤ 2000

set_option linter.unusedSimpArgs false in
set_option maxRecDepth 10000 in
theorem less_ret (a0 a1 a2 b0 b1 b2 : Int) (h0 : Array Obj) : Ret Try.prog 26 [three a0 a1 a2, three b0 b1 b2] h0 fun v h => v = .bool (decide (Lt3 a0 a1 a2 b0 b1 b2)) ∧ Ext h0 h := by
  have hm := Mem.refl h0
  refine ret_of_tw (ρ := ((three a0 a1 a2) :: (three b0 b1 b2) :: undef :: undef :: undef :: undef :: undef :: undef :: undef :: undef :: undef :: undef :: undef :: undef :: undef :: undef :: undef :: undef :: undef :: undef :: undef :: undef :: undef :: undef :: [])) Try.func26 rfl rfl (fun E => ?_)
  refine tw_seq ?_
  refine tw_region (fun K hK => ?_)
  refine lw_box (wan_none rfl) (by (simp only [ev, List.getD_cons_succ, List.getD_cons_zero]; exact rfl)) rfl hm ?_; clear hm; intro b2 h hm; refine lw_norm (by (simp only [setD, List.set_cons_succ, List.set_cons_zero]; exact rfl)) ?_
  refine lw_box (wan_none rfl) (by (simp only [ev, List.getD_cons_succ, List.getD_cons_zero]; exact rfl)) rfl hm ?_; clear hm; intro b3 h hm; refine lw_norm (by (simp only [setD, List.set_cons_succ, List.set_cons_zero]; exact rfl)) ?_
  refine lw_pu (wan_none rfl) (pu_assign (by (simp only [ev, List.getD_cons_succ, List.getD_cons_zero]; exact rfl))) (by (simp only [setD, List.set_cons_succ, List.set_cons_zero]; exact rfl)) ?_
  refine lw_nil ?_; refine hK _ _ ?_; clear hK K
  refine tw_seq ?_
  refine tw_seq ?_
  refine tw_region (fun K hK => ?_)
  refine lw_pu (wan_none rfl) (pu_move (by (simp only [ev, List.getD_cons_succ, List.getD_cons_zero]; exact rfl))) (by (simp only [setD, List.set_cons_succ, List.set_cons_zero]; exact rfl)) ?_
  refine lw_nil ?_; refine hK _ _ ?_; clear hK K
  refine tw_block ?_
  refine tw_loop0 ?_
  refine tw_seq ?_
  refine tw_region (fun K hK => ?_)
  refine lw_pu (wan_none rfl) (pu_true (pu_lss rfl rfl) (by omega)) (by (simp only [setD, List.set_cons_succ, List.set_cons_zero]; exact rfl)) ?_
  refine lw_nil ?_; refine hK _ _ ?_; clear hK K
  refine tw_seq ?_
  refine tw_cond_t rfl ?_
  refine tw_skip ?_
  refine tw_seq ?_
  refine tw_block ?_
  refine tw_seq ?_
  refine tw_region (fun K hK => ?_)
  refine lw_pu (wan_none rfl) (pu_move (by (simp only [ev, List.getD_cons_succ, List.getD_cons_zero]; exact rfl))) (by (simp only [setD, List.set_cons_succ, List.set_cons_zero]; exact rfl)) ?_
  refine lw_pu (wan_none rfl) (pu_assign (by (simp only [ev, List.getD_cons_succ, List.getD_cons_zero]; exact rfl))) (by (simp only [setD, List.set_cons_succ, List.set_cons_zero]; exact rfl)) ?_
  refine lw_nil ?_; refine hK _ _ ?_; clear hK K
  refine tw_seq ?_
  refine tw_seq ?_
  refine tw_quietM hm (by kernel_rfl) (by kernel_rfl) (fun K hK => ?_)
  refine qw_pu (wan_none rfl) (fun h hm => pu_move (by (simp only [ev, List.getD_cons_succ, List.getD_cons_zero]; exact rfl))) (by (simp only [setD, List.set_cons_succ, List.set_cons_zero]; exact rfl)) ?_
  refine qw_pu (wan_none rfl) (fun h hm => pu_indexAddr_arr (n := 0) rfl rfl (by omega)) (by (simp only [setD, List.set_cons_succ, List.set_cons_zero]; exact rfl)) ?_
  refine qw_pu (wan_none rfl) (fun h hm => pu_load rfl (hm.own (j := 1) rfl rfl)) (by (simp only [setD, List.set_cons_succ, List.set_cons_zero]; exact rfl)) ?_
  refine qw_pu (wan_none rfl) (fun h hm => pu_move (by (simp only [ev, List.getD_cons_succ, List.getD_cons_zero]; exact rfl))) (by (simp only [setD, List.set_cons_succ, List.set_cons_zero]; exact rfl)) ?_
  refine qw_pu (wan_none rfl) (fun h hm => pu_indexAddr_arr (n := 0) rfl rfl (by omega)) (by (simp only [setD, List.set_cons_succ, List.set_cons_zero]; exact rfl)) ?_
  refine qw_pu (wan_none rfl) (fun h hm => pu_load rfl (hm.own (j := 0) rfl rfl)) (by (simp only [setD, List.set_cons_succ, List.set_cons_zero]; exact rfl)) ?_
  refine qw_pu (wan_none rfl) (fun h hm => pu_lss rfl rfl) (by (simp only [setD, List.set_cons_succ, List.set_cons_zero]; exact rfl)) ?_
  refine qw_nil ?_; refine hK _ ?_; clear hK K hm; intro h hm
  refine tw_cond_ds rfl (by (simp only [List.set_cons_succ, List.set_cons_zero]; exact rfl)) (by (simp only [List.set_cons_succ, List.set_cons_zero]; exact rfl)) (fun hq => ?_) (fun hq => ?_)
  refine tw_seq ?_
  refine tw_region (fun K hK => ?_)
  refine lw_pu (wan_none rfl) (pu_assign (by (simp only [ev, List.getD_cons_succ, List.getD_cons_zero]; exact rfl))) (by (simp only [setD, List.set_cons_succ, List.set_cons_zero]; exact rfl)) ?_
  refine lw_nil ?_; refine hK _ _ ?_; clear hK K
  refine tw_ret1 Try.func26 Try.results26 (by (simp only [ev, List.getD_cons_succ, List.getD_cons_zero]; exact rfl)) ?_
  rotate_left 1
  refine tw_skip ?_
  refine tw_seq ?_
  refine tw_quietM hm (by kernel_rfl) (by kernel_rfl) (fun K hK => ?_)
  refine qw_pu (wan_none rfl) (fun h hm => pu_move (by (simp only [ev, List.getD_cons_succ, List.getD_cons_zero]; exact rfl))) (by (simp only [setD, List.set_cons_succ, List.set_cons_zero]; exact rfl)) ?_
  refine qw_pu (wan_none rfl) (fun h hm => pu_indexAddr_arr (n := 0) rfl rfl (by omega)) (by (simp only [setD, List.set_cons_succ, List.set_cons_zero]; exact rfl)) ?_
  refine qw_pu (wan_none rfl) (fun h hm => pu_load rfl (hm.own (j := 1) rfl rfl)) (by (simp only [setD, List.set_cons_succ, List.set_cons_zero]; exact rfl)) ?_
  refine qw_pu (wan_none rfl) (fun h hm => pu_move (by (simp only [ev, List.getD_cons_succ, List.getD_cons_zero]; exact rfl))) (by (simp only [setD, List.set_cons_succ, List.set_cons_zero]; exact rfl)) ?_
  refine qw_pu (wan_none rfl) (fun h hm => pu_indexAddr_arr (n := 0) rfl rfl (by omega)) (by (simp only [setD, List.set_cons_succ, List.set_cons_zero]; exact rfl)) ?_
  refine qw_pu (wan_none rfl) (fun h hm => pu_load rfl (hm.own (j := 0) rfl rfl)) (by (simp only [setD, List.set_cons_succ, List.set_cons_zero]; exact rfl)) ?_
  refine qw_pu (wan_none rfl) (fun h hm => pu_gtr rfl rfl) (by (simp only [setD, List.set_cons_succ, List.set_cons_zero]; exact rfl)) ?_
  refine qw_nil ?_; refine hK _ ?_; clear hK K hm; intro h hm
  refine tw_cond_ds rfl (by (simp only [List.set_cons_succ, List.set_cons_zero]; exact rfl)) (by (simp only [List.set_cons_succ, List.set_cons_zero]; exact rfl)) (fun hq => ?_) (fun hq => ?_)
  refine tw_seq ?_
  refine tw_region (fun K hK => ?_)
  refine lw_pu (wan_none rfl) (pu_assign (by (simp only [ev, List.getD_cons_succ, List.getD_cons_zero]; exact rfl))) (by (simp only [setD, List.set_cons_succ, List.set_cons_zero]; exact rfl)) ?_
  refine lw_nil ?_; refine hK _ _ ?_; clear hK K
  refine tw_ret1 Try.func26 Try.results26 (by (simp only [ev, List.getD_cons_succ, List.getD_cons_zero]; exact rfl)) ?_
  rotate_left 1
  refine tw_skip ?_
  refine tw_inBlock ?_
  refine tw_region (fun K hK => ?_)
  refine lw_pu (wan_none rfl) (pu_addn (m := 0) (n := 1) rfl rfl (by omega)) (by (simp only [setD, List.set_cons_succ, List.set_cons_zero]; exact rfl)) ?_
  refine lw_pu (wan_none rfl) (pu_move (by (simp only [ev, List.getD_cons_succ, List.getD_cons_zero]; exact rfl))) (by (simp only [setD, List.set_cons_succ, List.set_cons_zero]; exact rfl)) ?_
  refine lw_nil ?_; refine hK _ _ ?_; clear hK K
  refine tw_inLoop ?_
  refine tw_seq ?_
  refine tw_region (fun K hK => ?_)
  refine lw_pu (wan_none rfl) (pu_true (pu_lss rfl rfl) (by omega)) (by (simp only [setD, List.set_cons_succ, List.set_cons_zero]; exact rfl)) ?_
  refine lw_nil ?_; refine hK _ _ ?_; clear hK K
  refine tw_seq ?_
  refine tw_cond_t rfl ?_
  refine tw_skip ?_
  refine tw_seq ?_
  refine tw_block ?_
  refine tw_seq ?_
  refine tw_region (fun K hK => ?_)
  refine lw_pu (wan_none rfl) (pu_move (by (simp only [ev, List.getD_cons_succ, List.getD_cons_zero]; exact rfl))) (by (simp only [setD, List.set_cons_succ, List.set_cons_zero]; exact rfl)) ?_
  refine lw_pu (wan_none rfl) (pu_assign (by (simp only [ev, List.getD_cons_succ, List.getD_cons_zero]; exact rfl))) (by (simp only [setD, List.set_cons_succ, List.set_cons_zero]; exact rfl)) ?_
  refine lw_nil ?_; refine hK _ _ ?_; clear hK K
  refine tw_seq ?_
  refine tw_seq ?_
  refine tw_quietM hm (by kernel_rfl) (by kernel_rfl) (fun K hK => ?_)
  refine qw_pu (wan_none rfl) (fun h hm => pu_move (by (simp only [ev, List.getD_cons_succ, List.getD_cons_zero]; exact rfl))) (by (simp only [setD, List.set_cons_succ, List.set_cons_zero]; exact rfl)) ?_
  refine qw_pu (wan_none rfl) (fun h hm => pu_indexAddr_arr (n := 1) rfl rfl (by omega)) (by (simp only [setD, List.set_cons_succ, List.set_cons_zero]; exact rfl)) ?_
  refine qw_pu (wan_none rfl) (fun h hm => pu_load rfl (hm.own (j := 1) rfl rfl)) (by (simp only [setD, List.set_cons_succ, List.set_cons_zero]; exact rfl)) ?_
  refine qw_pu (wan_none rfl) (fun h hm => pu_move (by (simp only [ev, List.getD_cons_succ, List.getD_cons_zero]; exact rfl))) (by (simp only [setD, List.set_cons_succ, List.set_cons_zero]; exact rfl)) ?_
  refine qw_pu (wan_none rfl) (fun h hm => pu_indexAddr_arr (n := 1) rfl rfl (by omega)) (by (simp only [setD, List.set_cons_succ, List.set_cons_zero]; exact rfl)) ?_
  refine qw_pu (wan_none rfl) (fun h hm => pu_load rfl (hm.own (j := 0) rfl rfl)) (by (simp only [setD, List.set_cons_succ, List.set_cons_zero]; exact rfl)) ?_
  refine qw_pu (wan_none rfl) (fun h hm => pu_lss rfl rfl) (by (simp only [setD, List.set_cons_succ, List.set_cons_zero]; exact rfl)) ?_
  refine qw_nil ?_; refine hK _ ?_; clear hK K hm; intro h hm
  refine tw_cond_ds rfl (by (simp only [List.set_cons_succ, List.set_cons_zero]; exact rfl)) (by (simp only [List.set_cons_succ, List.set_cons_zero]; exact rfl)) (fun hq => ?_) (fun hq => ?_)
  refine tw_seq ?_
  refine tw_region (fun K hK => ?_)
  refine lw_pu (wan_none rfl) (pu_assign (by (simp only [ev, List.getD_cons_succ, List.getD_cons_zero]; exact rfl))) (by (simp only [setD, List.set_cons_succ, List.set_cons_zero]; exact rfl)) ?_
  refine lw_nil ?_; refine hK _ _ ?_; clear hK K
  refine tw_ret1 Try.func26 Try.results26 (by (simp only [ev, List.getD_cons_succ, List.getD_cons_zero]; exact rfl)) ?_
  rotate_left 1
  refine tw_skip ?_
  refine tw_seq ?_
  refine tw_quietM hm (by kernel_rfl) (by kernel_rfl) (fun K hK => ?_)
  refine qw_pu (wan_none rfl) (fun h hm => pu_move (by (simp only [ev, List.getD_cons_succ, List.getD_cons_zero]; exact rfl))) (by (simp only [setD, List.set_cons_succ, List.set_cons_zero]; exact rfl)) ?_
  refine qw_pu (wan_none rfl) (fun h hm => pu_indexAddr_arr (n := 1) rfl rfl (by omega)) (by (simp only [setD, List.set_cons_succ, List.set_cons_zero]; exact rfl)) ?_
  refine qw_pu (wan_none rfl) (fun h hm => pu_load rfl (hm.own (j := 1) rfl rfl)) (by (simp only [setD, List.set_cons_succ, List.set_cons_zero]; exact rfl)) ?_
  refine qw_pu (wan_none rfl) (fun h hm => pu_move (by (simp only [ev, List.getD_cons_succ, List.getD_cons_zero]; exact rfl))) (by (simp only [setD, List.set_cons_succ, List.set_cons_zero]; exact rfl)) ?_
  refine qw_pu (wan_none rfl) (fun h hm => pu_indexAddr_arr (n := 1) rfl rfl (by omega)) (by (simp only [setD, List.set_cons_succ, List.set_cons_zero]; exact rfl)) ?_
  refine qw_pu (wan_none rfl) (fun h hm => pu_load rfl (hm.own (j := 0) rfl rfl)) (by (simp only [setD, List.set_cons_succ, List.set_cons_zero]; exact rfl)) ?_
  refine qw_pu (wan_none rfl) (fun h hm => pu_gtr rfl rfl) (by (simp only [setD, List.set_cons_succ, List.set_cons_zero]; exact rfl)) ?_
  refine qw_nil ?_; refine hK _ ?_; clear hK K hm; intro h hm
  refine tw_cond_ds rfl (by (simp only [List.set_cons_succ, List.set_cons_zero]; exact rfl)) (by (simp only [List.set_cons_succ, List.set_cons_zero]; exact rfl)) (fun hq => ?_) (fun hq => ?_)
  refine tw_seq ?_
  refine tw_region (fun K hK => ?_)
  refine lw_pu (wan_none rfl) (pu_assign (by (simp only [ev, List.getD_cons_succ, List.getD_cons_zero]; exact rfl))) (by (simp only [setD, List.set_cons_succ, List.set_cons_zero]; exact rfl)) ?_
  refine lw_nil ?_; refine hK _ _ ?_; clear hK K
  refine tw_ret1 Try.func26 Try.results26 (by (simp only [ev, List.getD_cons_succ, List.getD_cons_zero]; exact rfl)) ?_
  rotate_left 1
  refine tw_skip ?_
  refine tw_inBlock ?_
  refine tw_region (fun K hK => ?_)
  refine lw_pu (wan_none rfl) (pu_addn (m := 1) (n := 1) rfl rfl (by omega)) (by (simp only [setD, List.set_cons_succ, List.set_cons_zero]; exact rfl)) ?_
  refine lw_pu (wan_none rfl) (pu_move (by (simp only [ev, List.getD_cons_succ, List.getD_cons_zero]; exact rfl))) (by (simp only [setD, List.set_cons_succ, List.set_cons_zero]; exact rfl)) ?_
  refine lw_nil ?_; refine hK _ _ ?_; clear hK K
  refine tw_inLoop ?_
  refine tw_seq ?_
  refine tw_region (fun K hK => ?_)
  refine lw_pu (wan_none rfl) (pu_true (pu_lss rfl rfl) (by omega)) (by (simp only [setD, List.set_cons_succ, List.set_cons_zero]; exact rfl)) ?_
  refine lw_nil ?_; refine hK _ _ ?_; clear hK K
  refine tw_seq ?_
  refine tw_cond_t rfl ?_
  refine tw_skip ?_
  refine tw_seq ?_
  refine tw_block ?_
  refine tw_seq ?_
  refine tw_region (fun K hK => ?_)
  refine lw_pu (wan_none rfl) (pu_move (by (simp only [ev, List.getD_cons_succ, List.getD_cons_zero]; exact rfl))) (by (simp only [setD, List.set_cons_succ, List.set_cons_zero]; exact rfl)) ?_
  refine lw_pu (wan_none rfl) (pu_assign (by (simp only [ev, List.getD_cons_succ, List.getD_cons_zero]; exact rfl))) (by (simp only [setD, List.set_cons_succ, List.set_cons_zero]; exact rfl)) ?_
  refine lw_nil ?_; refine hK _ _ ?_; clear hK K
  refine tw_seq ?_
  refine tw_seq ?_
  refine tw_quietM hm (by kernel_rfl) (by kernel_rfl) (fun K hK => ?_)
  refine qw_pu (wan_none rfl) (fun h hm => pu_move (by (simp only [ev, List.getD_cons_succ, List.getD_cons_zero]; exact rfl))) (by (simp only [setD, List.set_cons_succ, List.set_cons_zero]; exact rfl)) ?_
  refine qw_pu (wan_none rfl) (fun h hm => pu_indexAddr_arr (n := 2) rfl rfl (by omega)) (by (simp only [setD, List.set_cons_succ, List.set_cons_zero]; exact rfl)) ?_
  refine qw_pu (wan_none rfl) (fun h hm => pu_load rfl (hm.own (j := 1) rfl rfl)) (by (simp only [setD, List.set_cons_succ, List.set_cons_zero]; exact rfl)) ?_
  refine qw_pu (wan_none rfl) (fun h hm => pu_move (by (simp only [ev, List.getD_cons_succ, List.getD_cons_zero]; exact rfl))) (by (simp only [setD, List.set_cons_succ, List.set_cons_zero]; exact rfl)) ?_
  refine qw_pu (wan_none rfl) (fun h hm => pu_indexAddr_arr (n := 2) rfl rfl (by omega)) (by (simp only [setD, List.set_cons_succ, List.set_cons_zero]; exact rfl)) ?_
  refine qw_pu (wan_none rfl) (fun h hm => pu_load rfl (hm.own (j := 0) rfl rfl)) (by (simp only [setD, List.set_cons_succ, List.set_cons_zero]; exact rfl)) ?_
  refine qw_pu (wan_none rfl) (fun h hm => pu_lss rfl rfl) (by (simp only [setD, List.set_cons_succ, List.set_cons_zero]; exact rfl)) ?_
  refine qw_nil ?_; refine hK _ ?_; clear hK K hm; intro h hm
  refine tw_cond_ds rfl (by (simp only [List.set_cons_succ, List.set_cons_zero]; exact rfl)) (by (simp only [List.set_cons_succ, List.set_cons_zero]; exact rfl)) (fun hq => ?_) (fun hq => ?_)
  refine tw_seq ?_
  refine tw_region (fun K hK => ?_)
  refine lw_pu (wan_none rfl) (pu_assign (by (simp only [ev, List.getD_cons_succ, List.getD_cons_zero]; exact rfl))) (by (simp only [setD, List.set_cons_succ, List.set_cons_zero]; exact rfl)) ?_
  refine lw_nil ?_; refine hK _ _ ?_; clear hK K
  refine tw_ret1 Try.func26 Try.results26 (by (simp only [ev, List.getD_cons_succ, List.getD_cons_zero]; exact rfl)) ?_
  rotate_left 1
  refine tw_skip ?_
  refine tw_seq ?_
  refine tw_quietM hm (by kernel_rfl) (by kernel_rfl) (fun K hK => ?_)
  refine qw_pu (wan_none rfl) (fun h hm => pu_move (by (simp only [ev, List.getD_cons_succ, List.getD_cons_zero]; exact rfl))) (by (simp only [setD, List.set_cons_succ, List.set_cons_zero]; exact rfl)) ?_
  refine qw_pu (wan_none rfl) (fun h hm => pu_indexAddr_arr (n := 2) rfl rfl (by omega)) (by (simp only [setD, List.set_cons_succ, List.set_cons_zero]; exact rfl)) ?_
  refine qw_pu (wan_none rfl) (fun h hm => pu_load rfl (hm.own (j := 1) rfl rfl)) (by (simp only [setD, List.set_cons_succ, List.set_cons_zero]; exact rfl)) ?_
  refine qw_pu (wan_none rfl) (fun h hm => pu_move (by (simp only [ev, List.getD_cons_succ, List.getD_cons_zero]; exact rfl))) (by (simp only [setD, List.set_cons_succ, List.set_cons_zero]; exact rfl)) ?_
  refine qw_pu (wan_none rfl) (fun h hm => pu_indexAddr_arr (n := 2) rfl rfl (by omega)) (by (simp only [setD, List.set_cons_succ, List.set_cons_zero]; exact rfl)) ?_
  refine qw_pu (wan_none rfl) (fun h hm => pu_load rfl (hm.own (j := 0) rfl rfl)) (by (simp only [setD, List.set_cons_succ, List.set_cons_zero]; exact rfl)) ?_
  refine qw_pu (wan_none rfl) (fun h hm => pu_gtr rfl rfl) (by (simp only [setD, List.set_cons_succ, List.set_cons_zero]; exact rfl)) ?_
  refine qw_nil ?_; refine hK _ ?_; clear hK K hm; intro h hm
  refine tw_cond_ds rfl (by (simp only [List.set_cons_succ, List.set_cons_zero]; exact rfl)) (by (simp only [List.set_cons_succ, List.set_cons_zero]; exact rfl)) (fun hq => ?_) (fun hq => ?_)
  refine tw_seq ?_
  refine tw_region (fun K hK => ?_)
  refine lw_pu (wan_none rfl) (pu_assign (by (simp only [ev, List.getD_cons_succ, List.getD_cons_zero]; exact rfl))) (by (simp only [setD, List.set_cons_succ, List.set_cons_zero]; exact rfl)) ?_
  refine lw_nil ?_; refine hK _ _ ?_; clear hK K
  refine tw_ret1 Try.func26 Try.results26 (by (simp only [ev, List.getD_cons_succ, List.getD_cons_zero]; exact rfl)) ?_
  rotate_left 1
  refine tw_skip ?_
  refine tw_inBlock ?_
  refine tw_region (fun K hK => ?_)
  refine lw_pu (wan_none rfl) (pu_addn (m := 2) (n := 1) rfl rfl (by omega)) (by (simp only [setD, List.set_cons_succ, List.set_cons_zero]; exact rfl)) ?_
  refine lw_pu (wan_none rfl) (pu_move (by (simp only [ev, List.getD_cons_succ, List.getD_cons_zero]; exact rfl))) (by (simp only [setD, List.set_cons_succ, List.set_cons_zero]; exact rfl)) ?_
  refine lw_nil ?_; refine hK _ _ ?_; clear hK K
  refine tw_inLoop ?_
  refine tw_seq ?_
  refine tw_region (fun K hK => ?_)
  refine lw_pu (wan_none rfl) (pu_false (pu_lss rfl rfl) (by omega)) (by (simp only [setD, List.set_cons_succ, List.set_cons_zero]; exact rfl)) ?_
  refine lw_nil ?_; refine hK _ _ ?_; clear hK K
  refine tw_seq ?_
  refine tw_cond_f rfl ?_
  refine tw_exit rfl ?_
  refine tw_seq ?_
  refine tw_region (fun K hK => ?_)
  refine lw_pu (wan_none rfl) (pu_assign (by (simp only [ev, List.getD_cons_succ, List.getD_cons_zero]; exact rfl))) (by (simp only [setD, List.set_cons_succ, List.set_cons_zero]; exact rfl)) ?_
  refine lw_nil ?_; refine hK _ _ ?_; clear hK K
  refine tw_ret1 Try.func26 Try.results26 (by (simp only [ev, List.getD_cons_succ, List.getD_cons_zero]; exact rfl)) ?_
  rotate_left 1
  -- left: ret | ret | ret | ret | ret | ret | ret
  all_goals refine ⟨?_, hm.ext⟩
  all_goals first | exact congrArg Value.bool (decide_eq_true (by unfold Lt3; omega)).symm | exact congrArg Value.bool (decide_eq_false (by unfold Lt3; omega)).symm
set_option linter.unusedSimpArgs false in
set_option maxRecDepth 10000 in
theorem specLess_ret (a0 a1 a2 b0 b1 b2 : Int) (h0 : Array Obj) : Ret Try.prog 10 [three a0 a1 a2, three b0 b1 b2] h0 fun v h => v = .bool (decide (Lt3 a0 a1 a2 b0 b1 b2)) ∧ Ext h0 h := by
  have hm := Mem.refl h0
  refine ret_of_tw (ρ := ((three a0 a1 a2) :: (three b0 b1 b2) :: undef :: undef :: undef :: undef :: undef :: undef :: undef :: undef :: undef :: undef :: undef :: undef :: undef :: undef :: undef :: undef :: undef :: undef :: undef :: undef :: undef :: undef :: [])) Try.func10 rfl rfl (fun E => ?_)
  refine tw_seq ?_
  refine tw_region (fun K hK => ?_)
  refine lw_box (wan_none rfl) (by (simp only [ev, List.getD_cons_succ, List.getD_cons_zero]; exact rfl)) rfl hm ?_; clear hm; intro b2 h hm; refine lw_norm (by (simp only [setD, List.set_cons_succ, List.set_cons_zero]; exact rfl)) ?_
  refine lw_box (wan_none rfl) (by (simp only [ev, List.getD_cons_succ, List.getD_cons_zero]; exact rfl)) rfl hm ?_; clear hm; intro b3 h hm; refine lw_norm (by (simp only [setD, List.set_cons_succ, List.set_cons_zero]; exact rfl)) ?_
  refine lw_pu (wan_none rfl) (pu_assign (by (simp only [ev, List.getD_cons_succ, List.getD_cons_zero]; exact rfl))) (by (simp only [setD, List.set_cons_succ, List.set_cons_zero]; exact rfl)) ?_
  refine lw_nil ?_; refine hK _ _ ?_; clear hK K
  refine tw_seq ?_
  refine tw_seq ?_
  refine tw_region (fun K hK => ?_)
  refine lw_pu (wan_none rfl) (pu_assign (by (simp only [ev, List.getD_cons_succ, List.getD_cons_zero]; exact rfl))) (by (simp only [setD, List.set_cons_succ, List.set_cons_zero]; exact rfl)) ?_
  refine lw_nil ?_; refine hK _ _ ?_; clear hK K
  refine tw_block ?_
  refine tw_loop0 ?_
  refine tw_seq ?_
  refine tw_seq ?_
  refine tw_region (fun K hK => ?_)
  refine lw_pu (wan_none rfl) (pu_move (by (simp only [ev, List.getD_cons_succ, List.getD_cons_zero]; exact rfl))) (by (simp only [setD, List.set_cons_succ, List.set_cons_zero]; exact rfl)) ?_
  refine lw_pu (wan_none rfl) (pu_true (pu_lss rfl rfl) (by omega)) (by (simp only [setD, List.set_cons_succ, List.set_cons_zero]; exact rfl)) ?_
  refine lw_nil ?_; refine hK _ _ ?_; clear hK K
  refine tw_cond_t rfl ?_
  refine tw_skip ?_
  refine tw_seq ?_
  refine tw_block ?_
  refine tw_seq ?_
  refine tw_quietM hm (by kernel_rfl) (by kernel_rfl) (fun K hK => ?_)
  refine qw_pu (wan_none rfl) (fun h hm => pu_move (by (simp only [ev, List.getD_cons_succ, List.getD_cons_zero]; exact rfl))) (by (simp only [setD, List.set_cons_succ, List.set_cons_zero]; exact rfl)) ?_
  refine qw_pu (wan_none rfl) (fun h hm => pu_indexAddr_arr (n := 0) rfl rfl (by omega)) (by (simp only [setD, List.set_cons_succ, List.set_cons_zero]; exact rfl)) ?_
  refine qw_pu (wan_none rfl) (fun h hm => pu_load rfl (hm.own (j := 1) rfl rfl)) (by (simp only [setD, List.set_cons_succ, List.set_cons_zero]; exact rfl)) ?_
  refine qw_pu (wan_none rfl) (fun h hm => pu_move (by (simp only [ev, List.getD_cons_succ, List.getD_cons_zero]; exact rfl))) (by (simp only [setD, List.set_cons_succ, List.set_cons_zero]; exact rfl)) ?_
  refine qw_pu (wan_none rfl) (fun h hm => pu_indexAddr_arr (n := 0) rfl rfl (by omega)) (by (simp only [setD, List.set_cons_succ, List.set_cons_zero]; exact rfl)) ?_
  refine qw_pu (wan_none rfl) (fun h hm => pu_load rfl (hm.own (j := 0) rfl rfl)) (by (simp only [setD, List.set_cons_succ, List.set_cons_zero]; exact rfl)) ?_
  refine qw_pu (wan_none rfl) (fun h hm => pu_neq rfl rfl) (by (simp only [setD, List.set_cons_succ, List.set_cons_zero]; exact rfl)) ?_
  refine qw_nil ?_; refine hK _ ?_; clear hK K hm; intro h hm
  refine tw_cond_ds rfl (by (simp only [List.set_cons_succ, List.set_cons_zero]; exact rfl)) (by (simp only [List.set_cons_succ, List.set_cons_zero]; exact rfl)) (fun hq => ?_) (fun hq => ?_)
  refine tw_seq ?_
  refine tw_quietM hm (by kernel_rfl) (by kernel_rfl) (fun K hK => ?_)
  refine qw_pu (wan_none rfl) (fun h hm => pu_move (by (simp only [ev, List.getD_cons_succ, List.getD_cons_zero]; exact rfl))) (by (simp only [setD, List.set_cons_succ, List.set_cons_zero]; exact rfl)) ?_
  refine qw_pu (wan_none rfl) (fun h hm => pu_indexAddr_arr (n := 0) rfl rfl (by omega)) (by (simp only [setD, List.set_cons_succ, List.set_cons_zero]; exact rfl)) ?_
  refine qw_pu (wan_none rfl) (fun h hm => pu_load rfl (hm.own (j := 1) rfl rfl)) (by (simp only [setD, List.set_cons_succ, List.set_cons_zero]; exact rfl)) ?_
  refine qw_pu (wan_none rfl) (fun h hm => pu_move (by (simp only [ev, List.getD_cons_succ, List.getD_cons_zero]; exact rfl))) (by (simp only [setD, List.set_cons_succ, List.set_cons_zero]; exact rfl)) ?_
  refine qw_pu (wan_none rfl) (fun h hm => pu_indexAddr_arr (n := 0) rfl rfl (by omega)) (by (simp only [setD, List.set_cons_succ, List.set_cons_zero]; exact rfl)) ?_
  refine qw_pu (wan_none rfl) (fun h hm => pu_load rfl (hm.own (j := 0) rfl rfl)) (by (simp only [setD, List.set_cons_succ, List.set_cons_zero]; exact rfl)) ?_
  refine qw_pu (wan_none rfl) (fun h hm => pu_lss rfl rfl) (by (simp only [setD, List.set_cons_succ, List.set_cons_zero]; exact rfl)) ?_
  refine qw_pu (wan_none rfl) (fun h hm => pu_assign (by (simp only [ev, List.getD_cons_succ, List.getD_cons_zero]; exact rfl))) (by (simp only [setD, List.set_cons_succ, List.set_cons_zero]; exact rfl)) ?_
  refine qw_nil ?_; refine hK _ ?_; clear hK K hm; intro h hm
  refine tw_ret1 Try.func10 Try.results10 (by (simp only [ev, List.getD_cons_succ, List.getD_cons_zero]; exact rfl)) ?_
  rotate_left 1
  refine tw_skip ?_
  refine tw_inBlock ?_
  refine tw_region (fun K hK => ?_)
  refine lw_pu (wan_none rfl) (pu_move (by (simp only [ev, List.getD_cons_succ, List.getD_cons_zero]; exact rfl))) (by (simp only [setD, List.set_cons_succ, List.set_cons_zero]; exact rfl)) ?_
  refine lw_pu (wan_none rfl) (pu_addn (m := 0) (n := 1) rfl rfl (by omega)) (by (simp only [setD, List.set_cons_succ, List.set_cons_zero]; exact rfl)) ?_
  refine lw_pu (wan_none rfl) (pu_assign (by (simp only [ev, List.getD_cons_succ, List.getD_cons_zero]; exact rfl))) (by (simp only [setD, List.set_cons_succ, List.set_cons_zero]; exact rfl)) ?_
  refine lw_nil ?_; refine hK _ _ ?_; clear hK K
  refine tw_inLoop ?_
  refine tw_seq ?_
  refine tw_seq ?_
  refine tw_region (fun K hK => ?_)
  refine lw_pu (wan_none rfl) (pu_move (by (simp only [ev, List.getD_cons_succ, List.getD_cons_zero]; exact rfl))) (by (simp only [setD, List.set_cons_succ, List.set_cons_zero]; exact rfl)) ?_
  refine lw_pu (wan_none rfl) (pu_true (pu_lss rfl rfl) (by omega)) (by (simp only [setD, List.set_cons_succ, List.set_cons_zero]; exact rfl)) ?_
  refine lw_nil ?_; refine hK _ _ ?_; clear hK K
  refine tw_cond_t rfl ?_
  refine tw_skip ?_
  refine tw_seq ?_
  refine tw_block ?_
  refine tw_seq ?_
  refine tw_quietM hm (by kernel_rfl) (by kernel_rfl) (fun K hK => ?_)
  refine qw_pu (wan_none rfl) (fun h hm => pu_move (by (simp only [ev, List.getD_cons_succ, List.getD_cons_zero]; exact rfl))) (by (simp only [setD, List.set_cons_succ, List.set_cons_zero]; exact rfl)) ?_
  refine qw_pu (wan_none rfl) (fun h hm => pu_indexAddr_arr (n := 1) rfl rfl (by omega)) (by (simp only [setD, List.set_cons_succ, List.set_cons_zero]; exact rfl)) ?_
  refine qw_pu (wan_none rfl) (fun h hm => pu_load rfl (hm.own (j := 1) rfl rfl)) (by (simp only [setD, List.set_cons_succ, List.set_cons_zero]; exact rfl)) ?_
  refine qw_pu (wan_none rfl) (fun h hm => pu_move (by (simp only [ev, List.getD_cons_succ, List.getD_cons_zero]; exact rfl))) (by (simp only [setD, List.set_cons_succ, List.set_cons_zero]; exact rfl)) ?_
  refine qw_pu (wan_none rfl) (fun h hm => pu_indexAddr_arr (n := 1) rfl rfl (by omega)) (by (simp only [setD, List.set_cons_succ, List.set_cons_zero]; exact rfl)) ?_
  refine qw_pu (wan_none rfl) (fun h hm => pu_load rfl (hm.own (j := 0) rfl rfl)) (by (simp only [setD, List.set_cons_succ, List.set_cons_zero]; exact rfl)) ?_
  refine qw_pu (wan_none rfl) (fun h hm => pu_neq rfl rfl) (by (simp only [setD, List.set_cons_succ, List.set_cons_zero]; exact rfl)) ?_
  refine qw_nil ?_; refine hK _ ?_; clear hK K hm; intro h hm
  refine tw_cond_ds rfl (by (simp only [List.set_cons_succ, List.set_cons_zero]; exact rfl)) (by (simp only [List.set_cons_succ, List.set_cons_zero]; exact rfl)) (fun hq => ?_) (fun hq => ?_)
  refine tw_seq ?_
  refine tw_quietM hm (by kernel_rfl) (by kernel_rfl) (fun K hK => ?_)
  refine qw_pu (wan_none rfl) (fun h hm => pu_move (by (simp only [ev, List.getD_cons_succ, List.getD_cons_zero]; exact rfl))) (by (simp only [setD, List.set_cons_succ, List.set_cons_zero]; exact rfl)) ?_
  refine qw_pu (wan_none rfl) (fun h hm => pu_indexAddr_arr (n := 1) rfl rfl (by omega)) (by (simp only [setD, List.set_cons_succ, List.set_cons_zero]; exact rfl)) ?_
  refine qw_pu (wan_none rfl) (fun h hm => pu_load rfl (hm.own (j := 1) rfl rfl)) (by (simp only [setD, List.set_cons_succ, List.set_cons_zero]; exact rfl)) ?_
  refine qw_pu (wan_none rfl) (fun h hm => pu_move (by (simp only [ev, List.getD_cons_succ, List.getD_cons_zero]; exact rfl))) (by (simp only [setD, List.set_cons_succ, List.set_cons_zero]; exact rfl)) ?_
  refine qw_pu (wan_none rfl) (fun h hm => pu_indexAddr_arr (n := 1) rfl rfl (by omega)) (by (simp only [setD, List.set_cons_succ, List.set_cons_zero]; exact rfl)) ?_
  refine qw_pu (wan_none rfl) (fun h hm => pu_load rfl (hm.own (j := 0) rfl rfl)) (by (simp only [setD, List.set_cons_succ, List.set_cons_zero]; exact rfl)) ?_
  refine qw_pu (wan_none rfl) (fun h hm => pu_lss rfl rfl) (by (simp only [setD, List.set_cons_succ, List.set_cons_zero]; exact rfl)) ?_
  refine qw_pu (wan_none rfl) (fun h hm => pu_assign (by (simp only [ev, List.getD_cons_succ, List.getD_cons_zero]; exact rfl))) (by (simp only [setD, List.set_cons_succ, List.set_cons_zero]; exact rfl)) ?_
  refine qw_nil ?_; refine hK _ ?_; clear hK K hm; intro h hm
  refine tw_ret1 Try.func10 Try.results10 (by (simp only [ev, List.getD_cons_succ, List.getD_cons_zero]; exact rfl)) ?_
  rotate_left 1
  refine tw_skip ?_
  refine tw_inBlock ?_
  refine tw_region (fun K hK => ?_)
  refine lw_pu (wan_none rfl) (pu_move (by (simp only [ev, List.getD_cons_succ, List.getD_cons_zero]; exact rfl))) (by (simp only [setD, List.set_cons_succ, List.set_cons_zero]; exact rfl)) ?_
  refine lw_pu (wan_none rfl) (pu_addn (m := 1) (n := 1) rfl rfl (by omega)) (by (simp only [setD, List.set_cons_succ, List.set_cons_zero]; exact rfl)) ?_
  refine lw_pu (wan_none rfl) (pu_assign (by (simp only [ev, List.getD_cons_succ, List.getD_cons_zero]; exact rfl))) (by (simp only [setD, List.set_cons_succ, List.set_cons_zero]; exact rfl)) ?_
  refine lw_nil ?_; refine hK _ _ ?_; clear hK K
  refine tw_inLoop ?_
  refine tw_seq ?_
  refine tw_seq ?_
  refine tw_region (fun K hK => ?_)
  refine lw_pu (wan_none rfl) (pu_move (by (simp only [ev, List.getD_cons_succ, List.getD_cons_zero]; exact rfl))) (by (simp only [setD, List.set_cons_succ, List.set_cons_zero]; exact rfl)) ?_
  refine lw_pu (wan_none rfl) (pu_true (pu_lss rfl rfl) (by omega)) (by (simp only [setD, List.set_cons_succ, List.set_cons_zero]; exact rfl)) ?_
  refine lw_nil ?_; refine hK _ _ ?_; clear hK K
  refine tw_cond_t rfl ?_
  refine tw_skip ?_
  refine tw_seq ?_
  refine tw_block ?_
  refine tw_seq ?_
  refine tw_quietM hm (by kernel_rfl) (by kernel_rfl) (fun K hK => ?_)
  refine qw_pu (wan_none rfl) (fun h hm => pu_move (by (simp only [ev, List.getD_cons_succ, List.getD_cons_zero]; exact rfl))) (by (simp only [setD, List.set_cons_succ, List.set_cons_zero]; exact rfl)) ?_
  refine qw_pu (wan_none rfl) (fun h hm => pu_indexAddr_arr (n := 2) rfl rfl (by omega)) (by (simp only [setD, List.set_cons_succ, List.set_cons_zero]; exact rfl)) ?_
  refine qw_pu (wan_none rfl) (fun h hm => pu_load rfl (hm.own (j := 1) rfl rfl)) (by (simp only [setD, List.set_cons_succ, List.set_cons_zero]; exact rfl)) ?_
  refine qw_pu (wan_none rfl) (fun h hm => pu_move (by (simp only [ev, List.getD_cons_succ, List.getD_cons_zero]; exact rfl))) (by (simp only [setD, List.set_cons_succ, List.set_cons_zero]; exact rfl)) ?_
  refine qw_pu (wan_none rfl) (fun h hm => pu_indexAddr_arr (n := 2) rfl rfl (by omega)) (by (simp only [setD, List.set_cons_succ, List.set_cons_zero]; exact rfl)) ?_
  refine qw_pu (wan_none rfl) (fun h hm => pu_load rfl (hm.own (j := 0) rfl rfl)) (by (simp only [setD, List.set_cons_succ, List.set_cons_zero]; exact rfl)) ?_
  refine qw_pu (wan_none rfl) (fun h hm => pu_neq rfl rfl) (by (simp only [setD, List.set_cons_succ, List.set_cons_zero]; exact rfl)) ?_
  refine qw_nil ?_; refine hK _ ?_; clear hK K hm; intro h hm
  refine tw_cond_ds rfl (by (simp only [List.set_cons_succ, List.set_cons_zero]; exact rfl)) (by (simp only [List.set_cons_succ, List.set_cons_zero]; exact rfl)) (fun hq => ?_) (fun hq => ?_)
  refine tw_seq ?_
  refine tw_quietM hm (by kernel_rfl) (by kernel_rfl) (fun K hK => ?_)
  refine qw_pu (wan_none rfl) (fun h hm => pu_move (by (simp only [ev, List.getD_cons_succ, List.getD_cons_zero]; exact rfl))) (by (simp only [setD, List.set_cons_succ, List.set_cons_zero]; exact rfl)) ?_
  refine qw_pu (wan_none rfl) (fun h hm => pu_indexAddr_arr (n := 2) rfl rfl (by omega)) (by (simp only [setD, List.set_cons_succ, List.set_cons_zero]; exact rfl)) ?_
  refine qw_pu (wan_none rfl) (fun h hm => pu_load rfl (hm.own (j := 1) rfl rfl)) (by (simp only [setD, List.set_cons_succ, List.set_cons_zero]; exact rfl)) ?_
  refine qw_pu (wan_none rfl) (fun h hm => pu_move (by (simp only [ev, List.getD_cons_succ, List.getD_cons_zero]; exact rfl))) (by (simp only [setD, List.set_cons_succ, List.set_cons_zero]; exact rfl)) ?_
  refine qw_pu (wan_none rfl) (fun h hm => pu_indexAddr_arr (n := 2) rfl rfl (by omega)) (by (simp only [setD, List.set_cons_succ, List.set_cons_zero]; exact rfl)) ?_
  refine qw_pu (wan_none rfl) (fun h hm => pu_load rfl (hm.own (j := 0) rfl rfl)) (by (simp only [setD, List.set_cons_succ, List.set_cons_zero]; exact rfl)) ?_
  refine qw_pu (wan_none rfl) (fun h hm => pu_lss rfl rfl) (by (simp only [setD, List.set_cons_succ, List.set_cons_zero]; exact rfl)) ?_
  refine qw_pu (wan_none rfl) (fun h hm => pu_assign (by (simp only [ev, List.getD_cons_succ, List.getD_cons_zero]; exact rfl))) (by (simp only [setD, List.set_cons_succ, List.set_cons_zero]; exact rfl)) ?_
  refine qw_nil ?_; refine hK _ ?_; clear hK K hm; intro h hm
  refine tw_ret1 Try.func10 Try.results10 (by (simp only [ev, List.getD_cons_succ, List.getD_cons_zero]; exact rfl)) ?_
  rotate_left 1
  refine tw_skip ?_
  refine tw_inBlock ?_
  refine tw_region (fun K hK => ?_)
  refine lw_pu (wan_none rfl) (pu_move (by (simp only [ev, List.getD_cons_succ, List.getD_cons_zero]; exact rfl))) (by (simp only [setD, List.set_cons_succ, List.set_cons_zero]; exact rfl)) ?_
  refine lw_pu (wan_none rfl) (pu_addn (m := 2) (n := 1) rfl rfl (by omega)) (by (simp only [setD, List.set_cons_succ, List.set_cons_zero]; exact rfl)) ?_
  refine lw_pu (wan_none rfl) (pu_assign (by (simp only [ev, List.getD_cons_succ, List.getD_cons_zero]; exact rfl))) (by (simp only [setD, List.set_cons_succ, List.set_cons_zero]; exact rfl)) ?_
  refine lw_nil ?_; refine hK _ _ ?_; clear hK K
  refine tw_inLoop ?_
  refine tw_seq ?_
  refine tw_seq ?_
  refine tw_region (fun K hK => ?_)
  refine lw_pu (wan_none rfl) (pu_move (by (simp only [ev, List.getD_cons_succ, List.getD_cons_zero]; exact rfl))) (by (simp only [setD, List.set_cons_succ, List.set_cons_zero]; exact rfl)) ?_
  refine lw_pu (wan_none rfl) (pu_false (pu_lss rfl rfl) (by omega)) (by (simp only [setD, List.set_cons_succ, List.set_cons_zero]; exact rfl)) ?_
  refine lw_nil ?_; refine hK _ _ ?_; clear hK K
  refine tw_cond_f rfl ?_
  refine tw_exit rfl ?_
  refine tw_seq ?_
  refine tw_region (fun K hK => ?_)
  refine lw_pu (wan_none rfl) (pu_assign (by (simp only [ev, List.getD_cons_succ, List.getD_cons_zero]; exact rfl))) (by (simp only [setD, List.set_cons_succ, List.set_cons_zero]; exact rfl)) ?_
  refine lw_nil ?_; refine hK _ _ ?_; clear hK K
  refine tw_ret1 Try.func10 Try.results10 (by (simp only [ev, List.getD_cons_succ, List.getD_cons_zero]; exact rfl)) ?_
  rotate_left 1
  -- left: ret | ret | ret | ret
  all_goals refine ⟨?_, hm.ext⟩
  all_goals first | exact congrArg Value.bool (decide_eq_decide.2 (by unfold Lt3; omega)) | exact congrArg Value.bool (decide_eq_true (by unfold Lt3; omega)).symm | exact congrArg Value.bool (decide_eq_false (by unfold Lt3; omega)).symm
set_option linter.unusedSimpArgs false in
set_option maxRecDepth 10000 in
theorem implLess_ret (a0 a1 a2 b0 b1 b2 : Int) (h0 : Array Obj) : Ret Try.prog 9 [three a0 a1 a2, three b0 b1 b2] h0 fun v h => v = .bool (decide (Lt3 a0 a1 a2 b0 b1 b2)) ∧ Ext h0 h := by
  have hm := Mem.refl h0
  refine ret_of_tw (ρ := ((three a0 a1 a2) :: (three b0 b1 b2) :: undef :: undef :: undef :: undef :: undef :: undef :: [])) Try.func9 rfl rfl (fun E => ?_)
  refine tw_seq ?_
  refine tw_region (fun K hK => ?_)
  refine lw_box (wan_none rfl) (by (simp only [ev, List.getD_cons_succ, List.getD_cons_zero]; exact rfl)) rfl hm ?_; clear hm; intro b2 h hm; refine lw_norm (by (simp only [setD, List.set_cons_succ, List.set_cons_zero]; exact rfl)) ?_
  refine lw_box (wan_none rfl) (by (simp only [ev, List.getD_cons_succ, List.getD_cons_zero]; exact rfl)) rfl hm ?_; clear hm; intro b3 h hm; refine lw_norm (by (simp only [setD, List.set_cons_succ, List.set_cons_zero]; exact rfl)) ?_
  refine lw_pu (wan_none rfl) (pu_assign (by (simp only [ev, List.getD_cons_succ, List.getD_cons_zero]; exact rfl))) (by (simp only [setD, List.set_cons_succ, List.set_cons_zero]; exact rfl)) ?_
  refine lw_nil ?_; refine hK _ _ ?_; clear hK K
  refine tw_seq ?_
  refine tw_region (fun K hK => ?_)
  refine lw_pu (wan_none rfl) (pu_loadAgg rfl rfl (hm.row (j := 1) rfl)) (by (simp only [setD, List.set_cons_succ, List.set_cons_zero]; exact rfl)) ?_
  refine lw_pu (wan_none rfl) (pu_loadAgg rfl rfl (hm.row (j := 0) rfl)) (by (simp only [setD, List.set_cons_succ, List.set_cons_zero]; exact rfl)) ?_
  refine lw_calx (wan_none rfl) (less_ret _ _ _ _ _ _ _) hm (by (simp only [setD, List.set_cons_succ, List.set_cons_zero]; exact rfl)) ?_; clear hm; intro h hm
  refine lw_pu (wan_none rfl) (pu_assign (by (simp only [ev, List.getD_cons_succ, List.getD_cons_zero]; exact rfl))) (by (simp only [setD, List.set_cons_succ, List.set_cons_zero]; exact rfl)) ?_
  refine lw_nil ?_; refine hK _ _ ?_; clear hK K
  refine tw_ret1 Try.func9 Try.results9 (by (simp only [ev, List.getD_cons_succ, List.getD_cons_zero]; exact rfl)) ?_
  rotate_left 1
  -- left: ret
  exact ⟨rfl, hm.ext⟩
set_option linter.unusedSimpArgs false in
set_option maxRecDepth 10000 in
theorem add_ret (a0 a1 a2 b0 b1 b2 : Int) (ha0 : Bd a0) (ha1 : Bd a1) (ha2 : Bd a2) (hb0 : Bd b0) (hb1 : Bd b1) (hb2 : Bd b2) (h0 : Array Obj) : Ret Try.prog 27 [three a0 a1 a2, three b0 b1 b2] h0 fun v h => v = three (a0 + b0) (a1 + b1) (a2 + b2) ∧ Ext h0 h := by
  unfold Bd at *
  have hm := Mem.refl h0
  refine ret_of_tw (ρ := ((three a0 a1 a2) :: (three b0 b1 b2) :: undef :: undef :: undef :: undef :: undef :: undef :: undef :: undef :: undef :: undef :: undef :: undef :: undef :: undef :: undef :: undef :: undef :: undef :: [])) Try.func27 rfl rfl (fun E => ?_)
  refine tw_seq ?_
  refine tw_region (fun K hK => ?_)
  refine lw_box (wan_none rfl) (by (simp only [ev, List.getD_cons_succ, List.getD_cons_zero]; exact rfl)) rfl hm ?_; clear hm; intro b2 h hm; refine lw_norm (by (simp only [setD, List.set_cons_succ, List.set_cons_zero]; exact rfl)) ?_
  refine lw_box (wan_none rfl) (by (simp only [ev, List.getD_cons_succ, List.getD_cons_zero]; exact rfl)) rfl hm ?_; clear hm; intro b3 h hm; refine lw_norm (by (simp only [setD, List.set_cons_succ, List.set_cons_zero]; exact rfl)) ?_
  refine lw_alloc (wan_none rfl) rfl hm ?_; clear hm; intro b4 h hm; refine lw_norm (by (simp only [setD, List.set_cons_succ, List.set_cons_zero]; exact rfl)) ?_
  refine lw_nil ?_; refine hK _ _ ?_; clear hK K
  refine tw_seq ?_
  refine tw_seq ?_
  refine tw_region (fun K hK => ?_)
  refine lw_pu (wan_none rfl) (pu_loadAgg rfl rfl (hm.row (j := 1) rfl)) (by (simp only [setD, List.set_cons_succ, List.set_cons_zero]; exact rfl)) ?_
  refine lw_pu (wan_none rfl) (pu_move (by (simp only [ev, List.getD_cons_succ, List.getD_cons_zero]; exact rfl))) (by (simp only [setD, List.set_cons_succ, List.set_cons_zero]; exact rfl)) ?_
  refine lw_nil ?_; refine hK _ _ ?_; clear hK K
  refine tw_block ?_
  refine tw_loop0 ?_
  refine tw_seq ?_
  refine tw_region (fun K hK => ?_)
  refine lw_pu (wan_none rfl) (pu_true (pu_lss rfl rfl) (by omega)) (by (simp only [setD, List.set_cons_succ, List.set_cons_zero]; exact rfl)) ?_
  refine lw_nil ?_; refine hK _ _ ?_; clear hK K
  refine tw_seq ?_
  refine tw_cond_t rfl ?_
  refine tw_skip ?_
  refine tw_seq ?_
  refine tw_block ?_
  refine tw_seq ?_
  refine tw_region (fun K hK => ?_)
  refine lw_pu (wan_none rfl) (pu_move (by (simp only [ev, List.getD_cons_succ, List.getD_cons_zero]; exact rfl))) (by (simp only [setD, List.set_cons_succ, List.set_cons_zero]; exact rfl)) ?_
  refine lw_pu (wan_none rfl) (pu_index_arr (n := 0) rfl rfl (by omega) rfl) (by (simp only [setD, List.set_cons_succ, List.set_cons_zero]; exact rfl)) ?_
  refine lw_pu (wan_none rfl) (pu_assign (by (simp only [ev, List.getD_cons_succ, List.getD_cons_zero]; exact rfl))) (by (simp only [setD, List.set_cons_succ, List.set_cons_zero]; exact rfl)) ?_
  refine lw_pu (wan_none rfl) (pu_assign (by (simp only [ev, List.getD_cons_succ, List.getD_cons_zero]; exact rfl))) (by (simp only [setD, List.set_cons_succ, List.set_cons_zero]; exact rfl)) ?_
  refine lw_nil ?_; refine hK _ _ ?_; clear hK K
  refine tw_region (fun K hK => ?_)
  refine lw_pu (wan_none rfl) (pu_move (by (simp only [ev, List.getD_cons_succ, List.getD_cons_zero]; exact rfl))) (by (simp only [setD, List.set_cons_succ, List.set_cons_zero]; exact rfl)) ?_
  refine lw_pu (wan_none rfl) (pu_indexAddr_arr (n := 0) rfl rfl (by omega)) (by (simp only [setD, List.set_cons_succ, List.set_cons_zero]; exact rfl)) ?_
  refine lw_pu (wan_none rfl) (pu_load rfl (hm.own (j := 2) rfl rfl)) (by (simp only [setD, List.set_cons_succ, List.set_cons_zero]; exact rfl)) ?_
  refine lw_pu (wan_none rfl) (pu_move (by (simp only [ev, List.getD_cons_succ, List.getD_cons_zero]; exact rfl))) (by (simp only [setD, List.set_cons_succ, List.set_cons_zero]; exact rfl)) ?_
  first | refine lw_pu (wan_none rfl) (pu_addn rfl rfl (by omega)) (by (simp only [setD, List.set_cons_succ, List.set_cons_zero]; exact rfl)) ?_ | refine lw_pu (wan_none rfl) (pu_addi rfl rfl (by omega) (by omega)) (by (simp only [setD, List.set_cons_succ, List.set_cons_zero]; exact rfl)) ?_ | refine lw_pu (wan_none rfl) (pu_add rfl rfl) (by (simp only [setD, List.set_cons_succ, List.set_cons_zero]; exact rfl)) ?_
  refine lw_pu (wan_none rfl) (pu_indexAddr_arr (n := 0) rfl rfl (by omega)) (by (simp only [setD, List.set_cons_succ, List.set_cons_zero]; exact rfl)) ?_
  refine lw_store_own (j := 2) (wan_none rfl) rfl (by (simp only [ev, List.getD_cons_succ, List.getD_cons_zero]; exact rfl)) rfl hm rfl (by simp) (by (simp only [List.set_cons_succ, List.set_cons_zero]; exact rfl)) (by (simp only [setD, List.set_cons_succ, List.set_cons_zero]; exact rfl)) ?_; clear hm; intro h hm
  refine lw_nil ?_; refine hK _ _ ?_; clear hK K
  refine tw_inBlock ?_
  refine tw_region (fun K hK => ?_)
  refine lw_pu (wan_none rfl) (pu_addn (m := 0) (n := 1) rfl rfl (by omega)) (by (simp only [setD, List.set_cons_succ, List.set_cons_zero]; exact rfl)) ?_
  refine lw_pu (wan_none rfl) (pu_move (by (simp only [ev, List.getD_cons_succ, List.getD_cons_zero]; exact rfl))) (by (simp only [setD, List.set_cons_succ, List.set_cons_zero]; exact rfl)) ?_
  refine lw_nil ?_; refine hK _ _ ?_; clear hK K
  refine tw_inLoop ?_
  refine tw_seq ?_
  refine tw_region (fun K hK => ?_)
  refine lw_pu (wan_none rfl) (pu_true (pu_lss rfl rfl) (by omega)) (by (simp only [setD, List.set_cons_succ, List.set_cons_zero]; exact rfl)) ?_
  refine lw_nil ?_; refine hK _ _ ?_; clear hK K
  refine tw_seq ?_
  refine tw_cond_t rfl ?_
  refine tw_skip ?_
  refine tw_seq ?_
  refine tw_block ?_
  refine tw_seq ?_
  refine tw_region (fun K hK => ?_)
  refine lw_pu (wan_none rfl) (pu_move (by (simp only [ev, List.getD_cons_succ, List.getD_cons_zero]; exact rfl))) (by (simp only [setD, List.set_cons_succ, List.set_cons_zero]; exact rfl)) ?_
  refine lw_pu (wan_none rfl) (pu_index_arr (n := 1) rfl rfl (by omega) rfl) (by (simp only [setD, List.set_cons_succ, List.set_cons_zero]; exact rfl)) ?_
  refine lw_pu (wan_none rfl) (pu_assign (by (simp only [ev, List.getD_cons_succ, List.getD_cons_zero]; exact rfl))) (by (simp only [setD, List.set_cons_succ, List.set_cons_zero]; exact rfl)) ?_
  refine lw_pu (wan_none rfl) (pu_assign (by (simp only [ev, List.getD_cons_succ, List.getD_cons_zero]; exact rfl))) (by (simp only [setD, List.set_cons_succ, List.set_cons_zero]; exact rfl)) ?_
  refine lw_nil ?_; refine hK _ _ ?_; clear hK K
  refine tw_region (fun K hK => ?_)
  refine lw_pu (wan_none rfl) (pu_move (by (simp only [ev, List.getD_cons_succ, List.getD_cons_zero]; exact rfl))) (by (simp only [setD, List.set_cons_succ, List.set_cons_zero]; exact rfl)) ?_
  refine lw_pu (wan_none rfl) (pu_indexAddr_arr (n := 1) rfl rfl (by omega)) (by (simp only [setD, List.set_cons_succ, List.set_cons_zero]; exact rfl)) ?_
  refine lw_pu (wan_none rfl) (pu_load rfl (hm.own (j := 2) rfl rfl)) (by (simp only [setD, List.set_cons_succ, List.set_cons_zero]; exact rfl)) ?_
  refine lw_pu (wan_none rfl) (pu_move (by (simp only [ev, List.getD_cons_succ, List.getD_cons_zero]; exact rfl))) (by (simp only [setD, List.set_cons_succ, List.set_cons_zero]; exact rfl)) ?_
  first | refine lw_pu (wan_none rfl) (pu_addn rfl rfl (by omega)) (by (simp only [setD, List.set_cons_succ, List.set_cons_zero]; exact rfl)) ?_ | refine lw_pu (wan_none rfl) (pu_addi rfl rfl (by omega) (by omega)) (by (simp only [setD, List.set_cons_succ, List.set_cons_zero]; exact rfl)) ?_ | refine lw_pu (wan_none rfl) (pu_add rfl rfl) (by (simp only [setD, List.set_cons_succ, List.set_cons_zero]; exact rfl)) ?_
  refine lw_pu (wan_none rfl) (pu_indexAddr_arr (n := 1) rfl rfl (by omega)) (by (simp only [setD, List.set_cons_succ, List.set_cons_zero]; exact rfl)) ?_
  refine lw_store_own (j := 2) (wan_none rfl) rfl (by (simp only [ev, List.getD_cons_succ, List.getD_cons_zero]; exact rfl)) rfl hm rfl (by simp) (by (simp only [List.set_cons_succ, List.set_cons_zero]; exact rfl)) (by (simp only [setD, List.set_cons_succ, List.set_cons_zero]; exact rfl)) ?_; clear hm; intro h hm
  refine lw_nil ?_; refine hK _ _ ?_; clear hK K
  refine tw_inBlock ?_
  refine tw_region (fun K hK => ?_)
  refine lw_pu (wan_none rfl) (pu_addn (m := 1) (n := 1) rfl rfl (by omega)) (by (simp only [setD, List.set_cons_succ, List.set_cons_zero]; exact rfl)) ?_
  refine lw_pu (wan_none rfl) (pu_move (by (simp only [ev, List.getD_cons_succ, List.getD_cons_zero]; exact rfl))) (by (simp only [setD, List.set_cons_succ, List.set_cons_zero]; exact rfl)) ?_
  refine lw_nil ?_; refine hK _ _ ?_; clear hK K
  refine tw_inLoop ?_
  refine tw_seq ?_
  refine tw_region (fun K hK => ?_)
  refine lw_pu (wan_none rfl) (pu_true (pu_lss rfl rfl) (by omega)) (by (simp only [setD, List.set_cons_succ, List.set_cons_zero]; exact rfl)) ?_
  refine lw_nil ?_; refine hK _ _ ?_; clear hK K
  refine tw_seq ?_
  refine tw_cond_t rfl ?_
  refine tw_skip ?_
  refine tw_seq ?_
  refine tw_block ?_
  refine tw_seq ?_
  refine tw_region (fun K hK => ?_)
  refine lw_pu (wan_none rfl) (pu_move (by (simp only [ev, List.getD_cons_succ, List.getD_cons_zero]; exact rfl))) (by (simp only [setD, List.set_cons_succ, List.set_cons_zero]; exact rfl)) ?_
  refine lw_pu (wan_none rfl) (pu_index_arr (n := 2) rfl rfl (by omega) rfl) (by (simp only [setD, List.set_cons_succ, List.set_cons_zero]; exact rfl)) ?_
  refine lw_pu (wan_none rfl) (pu_assign (by (simp only [ev, List.getD_cons_succ, List.getD_cons_zero]; exact rfl))) (by (simp only [setD, List.set_cons_succ, List.set_cons_zero]; exact rfl)) ?_
  refine lw_pu (wan_none rfl) (pu_assign (by (simp only [ev, List.getD_cons_succ, List.getD_cons_zero]; exact rfl))) (by (simp only [setD, List.set_cons_succ, List.set_cons_zero]; exact rfl)) ?_
  refine lw_nil ?_; refine hK _ _ ?_; clear hK K
  refine tw_region (fun K hK => ?_)
  refine lw_pu (wan_none rfl) (pu_move (by (simp only [ev, List.getD_cons_succ, List.getD_cons_zero]; exact rfl))) (by (simp only [setD, List.set_cons_succ, List.set_cons_zero]; exact rfl)) ?_
  refine lw_pu (wan_none rfl) (pu_indexAddr_arr (n := 2) rfl rfl (by omega)) (by (simp only [setD, List.set_cons_succ, List.set_cons_zero]; exact rfl)) ?_
  refine lw_pu (wan_none rfl) (pu_load rfl (hm.own (j := 2) rfl rfl)) (by (simp only [setD, List.set_cons_succ, List.set_cons_zero]; exact rfl)) ?_
  refine lw_pu (wan_none rfl) (pu_move (by (simp only [ev, List.getD_cons_succ, List.getD_cons_zero]; exact rfl))) (by (simp only [setD, List.set_cons_succ, List.set_cons_zero]; exact rfl)) ?_
  first | refine lw_pu (wan_none rfl) (pu_addn rfl rfl (by omega)) (by (simp only [setD, List.set_cons_succ, List.set_cons_zero]; exact rfl)) ?_ | refine lw_pu (wan_none rfl) (pu_addi rfl rfl (by omega) (by omega)) (by (simp only [setD, List.set_cons_succ, List.set_cons_zero]; exact rfl)) ?_ | refine lw_pu (wan_none rfl) (pu_add rfl rfl) (by (simp only [setD, List.set_cons_succ, List.set_cons_zero]; exact rfl)) ?_
  refine lw_pu (wan_none rfl) (pu_indexAddr_arr (n := 2) rfl rfl (by omega)) (by (simp only [setD, List.set_cons_succ, List.set_cons_zero]; exact rfl)) ?_
  refine lw_store_own (j := 2) (wan_none rfl) rfl (by (simp only [ev, List.getD_cons_succ, List.getD_cons_zero]; exact rfl)) rfl hm rfl (by simp) (by (simp only [List.set_cons_succ, List.set_cons_zero]; exact rfl)) (by (simp only [setD, List.set_cons_succ, List.set_cons_zero]; exact rfl)) ?_; clear hm; intro h hm
  refine lw_nil ?_; refine hK _ _ ?_; clear hK K
  refine tw_inBlock ?_
  refine tw_region (fun K hK => ?_)
  refine lw_pu (wan_none rfl) (pu_addn (m := 2) (n := 1) rfl rfl (by omega)) (by (simp only [setD, List.set_cons_succ, List.set_cons_zero]; exact rfl)) ?_
  refine lw_pu (wan_none rfl) (pu_move (by (simp only [ev, List.getD_cons_succ, List.getD_cons_zero]; exact rfl))) (by (simp only [setD, List.set_cons_succ, List.set_cons_zero]; exact rfl)) ?_
  refine lw_nil ?_; refine hK _ _ ?_; clear hK K
  refine tw_inLoop ?_
  refine tw_seq ?_
  refine tw_region (fun K hK => ?_)
  refine lw_pu (wan_none rfl) (pu_false (pu_lss rfl rfl) (by omega)) (by (simp only [setD, List.set_cons_succ, List.set_cons_zero]; exact rfl)) ?_
  refine lw_nil ?_; refine hK _ _ ?_; clear hK K
  refine tw_seq ?_
  refine tw_cond_f rfl ?_
  refine tw_exit rfl ?_
  refine tw_seq ?_
  refine tw_region (fun K hK => ?_)
  refine lw_pu (wan_none rfl) (pu_loadAgg rfl rfl (hm.row (j := 2) rfl)) (by (simp only [setD, List.set_cons_succ, List.set_cons_zero]; exact rfl)) ?_
  refine lw_storeAgg_own (j := 0) (wan_none rfl) rfl rfl rfl rfl hm rfl rfl (by (simp only [List.set_cons_succ, List.set_cons_zero]; exact rfl)) (by (simp only [setD, List.set_cons_succ, List.set_cons_zero]; exact rfl)) ?_; clear hm; intro h hm
  refine lw_nil ?_; refine hK _ _ ?_; clear hK K
  refine tw_ret_cell Try.func27 Try.results27 rfl rfl (hm.row (j := 0) rfl) ?_
  rotate_left 1
  -- left: ret
  all_goals exact ⟨rfl, hm.ext⟩
set_option linter.unusedSimpArgs false in
set_option maxRecDepth 10000 in
theorem implAdd_ret (a0 a1 a2 b0 b1 b2 : Int) (ha0 : Bd a0) (ha1 : Bd a1) (ha2 : Bd a2) (hb0 : Bd b0) (hb1 : Bd b1) (hb2 : Bd b2) (h0 : Array Obj) : Ret Try.prog 11 [three a0 a1 a2, three b0 b1 b2] h0 fun v h => v = three (a0 + b0) (a1 + b1) (a2 + b2) ∧ Ext h0 h := by
  have hm := Mem.refl h0
  refine ret_of_tw (ρ := ((three a0 a1 a2) :: (three b0 b1 b2) :: undef :: undef :: undef :: undef :: undef :: undef :: [])) Try.func11 rfl rfl (fun E => ?_)
  refine tw_seq ?_
  refine tw_region (fun K hK => ?_)
  refine lw_box (wan_none rfl) (by (simp only [ev, List.getD_cons_succ, List.getD_cons_zero]; exact rfl)) rfl hm ?_; clear hm; intro b2 h hm; refine lw_norm (by (simp only [setD, List.set_cons_succ, List.set_cons_zero]; exact rfl)) ?_
  refine lw_box (wan_none rfl) (by (simp only [ev, List.getD_cons_succ, List.getD_cons_zero]; exact rfl)) rfl hm ?_; clear hm; intro b3 h hm; refine lw_norm (by (simp only [setD, List.set_cons_succ, List.set_cons_zero]; exact rfl)) ?_
  refine lw_alloc (wan_none rfl) rfl hm ?_; clear hm; intro b4 h hm; refine lw_norm (by (simp only [setD, List.set_cons_succ, List.set_cons_zero]; exact rfl)) ?_
  refine lw_nil ?_; refine hK _ _ ?_; clear hK K
  refine tw_seq ?_
  refine tw_region (fun K hK => ?_)
  refine lw_pu (wan_none rfl) (pu_loadAgg rfl rfl (hm.row (j := 2) rfl)) (by (simp only [setD, List.set_cons_succ, List.set_cons_zero]; exact rfl)) ?_
  refine lw_pu (wan_none rfl) (pu_loadAgg rfl rfl (hm.row (j := 1) rfl)) (by (simp only [setD, List.set_cons_succ, List.set_cons_zero]; exact rfl)) ?_
  refine lw_calx (wan_none rfl) (add_ret _ _ _ _ _ _ ha0 ha1 ha2 hb0 hb1 hb2 _) hm (by (simp only [setD, List.set_cons_succ, List.set_cons_zero]; exact rfl)) ?_; clear hm; intro h hm
  refine lw_storeAgg_own (j := 0) (wan_none rfl) rfl rfl rfl rfl hm rfl rfl (by (simp only [List.set_cons_succ, List.set_cons_zero]; exact rfl)) (by (simp only [setD, List.set_cons_succ, List.set_cons_zero]; exact rfl)) ?_; clear hm; intro h hm
  refine lw_nil ?_; refine hK _ _ ?_; clear hK K
  refine tw_ret_cell Try.func11 Try.results11 rfl rfl (hm.row (j := 0) rfl) ?_
  rotate_left 1
  -- left: ret
  all_goals exact ⟨rfl, hm.ext⟩
set_option linter.unusedSimpArgs false in
set_option maxRecDepth 10000 in
theorem law_ret (a0 a1 a2 b0 b1 b2 c0 c1 c2 : Int) (h0 : Array Obj) : Ret Try.prog 3 [three a0 a1 a2, three b0 b1 b2, three c0 c1 c2] h0 fun v h => v = .bool true ∧ Ext h0 h := by
  have hm := Mem.refl h0
  refine ret_of_tw (ρ := ((three a0 a1 a2) :: (three b0 b1 b2) :: (three c0 c1 c2) :: undef :: undef :: undef :: undef :: undef :: undef :: undef :: undef :: undef :: undef :: undef :: undef :: undef :: undef :: undef :: undef :: undef :: undef :: undef :: undef :: undef :: undef :: undef :: undef :: undef :: undef :: undef :: undef :: undef :: undef :: undef :: undef :: undef :: undef :: undef :: undef :: undef :: undef :: undef :: undef :: undef :: undef :: undef :: undef :: undef :: undef :: undef :: undef :: undef :: undef :: undef :: undef :: undef :: undef :: undef :: undef :: undef :: undef :: undef :: undef :: undef :: undef :: undef :: undef :: undef :: undef :: undef :: undef :: undef :: undef :: undef :: undef :: undef :: undef :: undef :: undef :: undef :: undef :: undef :: undef :: undef :: undef :: undef :: undef :: undef :: undef :: undef :: undef :: undef :: [])) Try.func3 rfl rfl (fun E => ?_)
  refine tw_seq ?_
  refine tw_region (fun K hK => ?_)
  refine lw_box (wan_none rfl) (by (simp only [ev, List.getD_cons_succ, List.getD_cons_zero]; exact rfl)) rfl hm ?_; clear hm; intro b3 h hm; refine lw_norm (by (simp only [setD, List.set_cons_succ, List.set_cons_zero]; exact rfl)) ?_
  refine lw_box (wan_none rfl) (by (simp only [ev, List.getD_cons_succ, List.getD_cons_zero]; exact rfl)) rfl hm ?_; clear hm; intro b4 h hm; refine lw_norm (by (simp only [setD, List.set_cons_succ, List.set_cons_zero]; exact rfl)) ?_
  refine lw_box (wan_none rfl) (by (simp only [ev, List.getD_cons_succ, List.getD_cons_zero]; exact rfl)) rfl hm ?_; clear hm; intro b5 h hm; refine lw_norm (by (simp only [setD, List.set_cons_succ, List.set_cons_zero]; exact rfl)) ?_
  refine lw_pu (wan_none rfl) (pu_assign (by (simp only [ev, List.getD_cons_succ, List.getD_cons_zero]; exact rfl))) (by (simp only [setD, List.set_cons_succ, List.set_cons_zero]; exact rfl)) ?_
  refine lw_nil ?_; refine hK _ _ ?_; clear hK K
  refine tw_seq ?_
  refine tw_region (fun K hK => ?_)
  refine lw_pu (wan_none rfl) (pu_build rfl rfl (by (simp only [put1, List.map_cons, List.map_nil, ev, List.getD_cons_succ, List.getD_cons_zero, List.set_cons_succ, List.set_cons_zero]; exact rfl))) (by (simp only [setD, List.set_cons_succ, List.set_cons_zero]; exact rfl)) ?_
  refine lw_alloc (wan_none rfl) rfl hm ?_; clear hm; intro b7 h hm; refine lw_norm (by (simp only [setD, List.set_cons_succ, List.set_cons_zero]; exact rfl)) ?_
  refine lw_storeAgg_own (j := 0) (wan_none rfl) rfl rfl rfl rfl hm rfl rfl (by (simp only [List.set_cons_succ, List.set_cons_zero]; exact rfl)) (by (simp only [setD, List.set_cons_succ, List.set_cons_zero]; exact rfl)) ?_; clear hm; intro h hm
  refine lw_nil ?_; refine hK _ _ ?_; clear hK K
  refine tw_seq ?_
  refine tw_seq ?_
  refine tw_region (fun K hK => ?_)
  refine lw_pu (wan_none rfl) (pu_assign (by (simp only [ev, List.getD_cons_succ, List.getD_cons_zero]; exact rfl))) (by (simp only [setD, List.set_cons_succ, List.set_cons_zero]; exact rfl)) ?_
  refine lw_nil ?_; refine hK _ _ ?_; clear hK K
  refine tw_block ?_
  refine tw_loop0 ?_
  refine tw_seq ?_
  refine tw_seq ?_
  refine tw_region (fun K hK => ?_)
  refine lw_pu (wan_none rfl) (pu_move (by (simp only [ev, List.getD_cons_succ, List.getD_cons_zero]; exact rfl))) (by (simp only [setD, List.set_cons_succ, List.set_cons_zero]; exact rfl)) ?_
  refine lw_pu (wan_none rfl) (pu_true (pu_lss rfl rfl) (by omega)) (by (simp only [setD, List.set_cons_succ, List.set_cons_zero]; exact rfl)) ?_
  refine lw_nil ?_; refine hK _ _ ?_; clear hK K
  refine tw_cond_t rfl ?_
  refine tw_skip ?_
  refine tw_seq ?_
  refine tw_block ?_
  refine tw_seq ?_
  refine tw_seq ?_
  refine tw_region (fun K hK => ?_)
  refine lw_pu (wan_none rfl) (pu_move (by (simp only [ev, List.getD_cons_succ, List.getD_cons_zero]; exact rfl))) (by (simp only [setD, List.set_cons_succ, List.set_cons_zero]; exact rfl)) ?_
  refine lw_pu (wan_none rfl) (pu_indexAddr_arr (n := 0) rfl rfl (by omega)) (by (simp only [setD, List.set_cons_succ, List.set_cons_zero]; exact rfl)) ?_
  refine lw_pu (wan_none rfl) (pu_load rfl (hm.own (j := 3) rfl rfl)) (by (simp only [setD, List.set_cons_succ, List.set_cons_zero]; exact rfl)) ?_
  refine lw_pu (wan_none rfl) (pu_lss rfl rfl) (by (simp only [setD, List.set_cons_succ, List.set_cons_zero]; exact rfl)) ?_
  refine lw_pu (wan_none rfl) (pu_move (by (simp only [ev, List.getD_cons_succ, List.getD_cons_zero]; exact rfl))) (by (simp only [setD, List.set_cons_succ, List.set_cons_zero]; exact rfl)) ?_
  refine lw_split_d rfl rfl rfl (by (simp only [List.set_cons_succ, List.set_cons_zero]; exact rfl)) (by (simp only [List.set_cons_succ, List.set_cons_zero]; exact rfl)) (fun hq => ?_) (fun hq => ?_)
  refine lw_skip_b rfl rfl rfl (by (simp only [setD, List.set_cons_succ, List.set_cons_zero]; exact rfl)) ?_
  refine lw_skip_b rfl rfl rfl (by (simp only [setD, List.set_cons_succ, List.set_cons_zero]; exact rfl)) ?_
  refine lw_skip_b rfl rfl rfl (by (simp only [setD, List.set_cons_succ, List.set_cons_zero]; exact rfl)) ?_
  refine lw_skip_b rfl rfl rfl (by (simp only [setD, List.set_cons_succ, List.set_cons_zero]; exact rfl)) ?_
  refine lw_pu (wan_none rfl) (pu_pick_t rfl (by (simp only [ev, List.getD_cons_succ, List.getD_cons_zero]; exact rfl))) (by (simp only [setD, List.set_cons_succ, List.set_cons_zero]; exact rfl)) ?_
  refine lw_pu (wan_none rfl) (pu_move (by (simp only [ev, List.getD_cons_succ, List.getD_cons_zero]; exact rfl))) (by (simp only [setD, List.set_cons_succ, List.set_cons_zero]; exact rfl)) ?_
  refine lw_skip_b rfl rfl rfl (by (simp only [setD, List.set_cons_succ, List.set_cons_zero]; exact rfl)) ?_
  refine lw_skip_b rfl rfl rfl (by (simp only [setD, List.set_cons_succ, List.set_cons_zero]; exact rfl)) ?_
  refine lw_skip_b rfl rfl rfl (by (simp only [setD, List.set_cons_succ, List.set_cons_zero]; exact rfl)) ?_
  refine lw_skip_b rfl rfl rfl (by (simp only [setD, List.set_cons_succ, List.set_cons_zero]; exact rfl)) ?_
  refine lw_pu (wan_none rfl) (pu_pick_t rfl (by (simp only [ev, List.getD_cons_succ, List.getD_cons_zero]; exact rfl))) (by (simp only [setD, List.set_cons_succ, List.set_cons_zero]; exact rfl)) ?_
  refine lw_pu (wan_none rfl) (pu_move (by (simp only [ev, List.getD_cons_succ, List.getD_cons_zero]; exact rfl))) (by (simp only [setD, List.set_cons_succ, List.set_cons_zero]; exact rfl)) ?_
  refine lw_skip_b rfl rfl rfl (by (simp only [setD, List.set_cons_succ, List.set_cons_zero]; exact rfl)) ?_
  refine lw_skip_b rfl rfl rfl (by (simp only [setD, List.set_cons_succ, List.set_cons_zero]; exact rfl)) ?_
  refine lw_skip_b rfl rfl rfl (by (simp only [setD, List.set_cons_succ, List.set_cons_zero]; exact rfl)) ?_
  refine lw_skip_b rfl rfl rfl (by (simp only [setD, List.set_cons_succ, List.set_cons_zero]; exact rfl)) ?_
  refine lw_pu (wan_none rfl) (pu_pick_t rfl (by (simp only [ev, List.getD_cons_succ, List.getD_cons_zero]; exact rfl))) (by (simp only [setD, List.set_cons_succ, List.set_cons_zero]; exact rfl)) ?_
  refine lw_pu (wan_none rfl) (pu_move (by (simp only [ev, List.getD_cons_succ, List.getD_cons_zero]; exact rfl))) (by (simp only [setD, List.set_cons_succ, List.set_cons_zero]; exact rfl)) ?_
  refine lw_skip_b rfl rfl rfl (by (simp only [setD, List.set_cons_succ, List.set_cons_zero]; exact rfl)) ?_
  refine lw_skip_b rfl rfl rfl (by (simp only [setD, List.set_cons_succ, List.set_cons_zero]; exact rfl)) ?_
  refine lw_skip_b rfl rfl rfl (by (simp only [setD, List.set_cons_succ, List.set_cons_zero]; exact rfl)) ?_
  refine lw_skip_b rfl rfl rfl (by (simp only [setD, List.set_cons_succ, List.set_cons_zero]; exact rfl)) ?_
  refine lw_pu (wan_none rfl) (pu_pick_t rfl (by (simp only [ev, List.getD_cons_succ, List.getD_cons_zero]; exact rfl))) (by (simp only [setD, List.set_cons_succ, List.set_cons_zero]; exact rfl)) ?_
  refine lw_pu (wan_none rfl) (pu_move (by (simp only [ev, List.getD_cons_succ, List.getD_cons_zero]; exact rfl))) (by (simp only [setD, List.set_cons_succ, List.set_cons_zero]; exact rfl)) ?_
  refine lw_skip_b rfl rfl rfl (by (simp only [setD, List.set_cons_succ, List.set_cons_zero]; exact rfl)) ?_
  refine lw_skip_b rfl rfl rfl (by (simp only [setD, List.set_cons_succ, List.set_cons_zero]; exact rfl)) ?_
  refine lw_skip_b rfl rfl rfl (by (simp only [setD, List.set_cons_succ, List.set_cons_zero]; exact rfl)) ?_
  refine lw_skip_b rfl rfl rfl (by (simp only [setD, List.set_cons_succ, List.set_cons_zero]; exact rfl)) ?_
  refine lw_pu (wan_none rfl) (pu_pick_t rfl (by (simp only [ev, List.getD_cons_succ, List.getD_cons_zero]; exact rfl))) (by (simp only [setD, List.set_cons_succ, List.set_cons_zero]; exact rfl)) ?_
  refine lw_nil ?_; refine hK _ _ ?_; clear hK K
  refine tw_cond_t rfl ?_
  refine tw_seq ?_
  refine tw_region (fun K hK => ?_)
  refine lw_pu (wan_none rfl) (pu_build rfl rfl (by (simp only [put1, List.map_cons, List.map_nil, ev, List.getD_cons_succ, List.getD_cons_zero, List.set_cons_succ, List.set_cons_zero]; exact rfl))) (by (simp only [setD, List.set_cons_succ, List.set_cons_zero]; exact rfl)) ?_
  refine lw_pu (wan_none rfl) (pu_build rfl rfl (by (simp only [put1, List.map_cons, List.map_nil, ev, List.getD_cons_succ, List.getD_cons_zero, List.set_cons_succ, List.set_cons_zero]; exact rfl))) (by (simp only [setD, List.set_cons_succ, List.set_cons_zero]; exact rfl)) ?_
  refine lw_calx (wan_none rfl) (implLess_ret _ _ _ _ _ _ _) hm (by (simp only [setD, List.set_cons_succ, List.set_cons_zero]; exact rfl)) ?_; clear hm; intro h hm
  refine lw_pu (wan_none rfl) (pu_assign (by (simp only [ev, List.getD_cons_succ, List.getD_cons_zero]; exact rfl))) (by (simp only [setD, List.set_cons_succ, List.set_cons_zero]; exact rfl)) ?_
  refine lw_nil ?_; refine hK _ _ ?_; clear hK K
  refine tw_ret1 Try.func3 Try.results3 (by (simp only [ev, List.getD_cons_succ, List.getD_cons_zero]; exact rfl)) ?_
  rotate_left 1
  refine lw_pu (wan_some rfl rfl rfl) (pu_move (by (simp only [ev, List.getD_cons_succ, List.getD_cons_zero]; exact rfl))) (by (simp only [setD, List.set_cons_succ, List.set_cons_zero]; exact rfl)) ?_
  refine lw_pu (wan_some rfl rfl rfl) (pu_indexAddr_arr (n := 0) rfl rfl (by omega)) (by (simp only [setD, List.set_cons_succ, List.set_cons_zero]; exact rfl)) ?_
  refine lw_pu (wan_some rfl rfl rfl) (pu_load rfl (hm.own (j := 2) rfl rfl)) (by (simp only [setD, List.set_cons_succ, List.set_cons_zero]; exact rfl)) ?_
  refine lw_pu (wan_some rfl rfl rfl) (pu_lss rfl rfl) (by (simp only [setD, List.set_cons_succ, List.set_cons_zero]; exact rfl)) ?_
  refine lw_pu (wan_none rfl) (pu_pick_f rfl (by (simp only [ev, List.getD_cons_succ, List.getD_cons_zero]; exact rfl))) (by (simp only [setD, List.set_cons_succ, List.set_cons_zero]; exact rfl)) ?_
  refine lw_pu (wan_none rfl) (pu_move (by (simp only [ev, List.getD_cons_succ, List.getD_cons_zero]; exact rfl))) (by (simp only [setD, List.set_cons_succ, List.set_cons_zero]; exact rfl)) ?_
  refine lw_split_d rfl rfl rfl (by (simp only [List.set_cons_succ, List.set_cons_zero]; exact rfl)) (by (simp only [List.set_cons_succ, List.set_cons_zero]; exact rfl)) (fun hq => ?_) (fun hq => ?_)
  refine lw_skip_b rfl rfl rfl (by (simp only [setD, List.set_cons_succ, List.set_cons_zero]; exact rfl)) ?_
  refine lw_skip_b rfl rfl rfl (by (simp only [setD, List.set_cons_succ, List.set_cons_zero]; exact rfl)) ?_
  refine lw_skip_b rfl rfl rfl (by (simp only [setD, List.set_cons_succ, List.set_cons_zero]; exact rfl)) ?_
  refine lw_skip_b rfl rfl rfl (by (simp only [setD, List.set_cons_succ, List.set_cons_zero]; exact rfl)) ?_
  refine lw_pu (wan_none rfl) (pu_pick_t rfl (by (simp only [ev, List.getD_cons_succ, List.getD_cons_zero]; exact rfl))) (by (simp only [setD, List.set_cons_succ, List.set_cons_zero]; exact rfl)) ?_
  refine lw_pu (wan_none rfl) (pu_move (by (simp only [ev, List.getD_cons_succ, List.getD_cons_zero]; exact rfl))) (by (simp only [setD, List.set_cons_succ, List.set_cons_zero]; exact rfl)) ?_
  refine lw_skip_b rfl rfl rfl (by (simp only [setD, List.set_cons_succ, List.set_cons_zero]; exact rfl)) ?_
  refine lw_skip_b rfl rfl rfl (by (simp only [setD, List.set_cons_succ, List.set_cons_zero]; exact rfl)) ?_
  refine lw_skip_b rfl rfl rfl (by (simp only [setD, List.set_cons_succ, List.set_cons_zero]; exact rfl)) ?_
  refine lw_skip_b rfl rfl rfl (by (simp only [setD, List.set_cons_succ, List.set_cons_zero]; exact rfl)) ?_
  refine lw_pu (wan_none rfl) (pu_pick_t rfl (by (simp only [ev, List.getD_cons_succ, List.getD_cons_zero]; exact rfl))) (by (simp only [setD, List.set_cons_succ, List.set_cons_zero]; exact rfl)) ?_
  refine lw_pu (wan_none rfl) (pu_move (by (simp only [ev, List.getD_cons_succ, List.getD_cons_zero]; exact rfl))) (by (simp only [setD, List.set_cons_succ, List.set_cons_zero]; exact rfl)) ?_
  refine lw_skip_b rfl rfl rfl (by (simp only [setD, List.set_cons_succ, List.set_cons_zero]; exact rfl)) ?_
  refine lw_skip_b rfl rfl rfl (by (simp only [setD, List.set_cons_succ, List.set_cons_zero]; exact rfl)) ?_
  refine lw_skip_b rfl rfl rfl (by (simp only [setD, List.set_cons_succ, List.set_cons_zero]; exact rfl)) ?_
  refine lw_skip_b rfl rfl rfl (by (simp only [setD, List.set_cons_succ, List.set_cons_zero]; exact rfl)) ?_
  refine lw_pu (wan_none rfl) (pu_pick_t rfl (by (simp only [ev, List.getD_cons_succ, List.getD_cons_zero]; exact rfl))) (by (simp only [setD, List.set_cons_succ, List.set_cons_zero]; exact rfl)) ?_
  refine lw_pu (wan_none rfl) (pu_move (by (simp only [ev, List.getD_cons_succ, List.getD_cons_zero]; exact rfl))) (by (simp only [setD, List.set_cons_succ, List.set_cons_zero]; exact rfl)) ?_
  refine lw_skip_b rfl rfl rfl (by (simp only [setD, List.set_cons_succ, List.set_cons_zero]; exact rfl)) ?_
  refine lw_skip_b rfl rfl rfl (by (simp only [setD, List.set_cons_succ, List.set_cons_zero]; exact rfl)) ?_
  refine lw_skip_b rfl rfl rfl (by (simp only [setD, List.set_cons_succ, List.set_cons_zero]; exact rfl)) ?_
  refine lw_skip_b rfl rfl rfl (by (simp only [setD, List.set_cons_succ, List.set_cons_zero]; exact rfl)) ?_
  refine lw_pu (wan_none rfl) (pu_pick_t rfl (by (simp only [ev, List.getD_cons_succ, List.getD_cons_zero]; exact rfl))) (by (simp only [setD, List.set_cons_succ, List.set_cons_zero]; exact rfl)) ?_
  refine lw_nil ?_; refine hK _ _ ?_; clear hK K
  refine tw_cond_t rfl ?_
  refine tw_seq ?_
  refine tw_region (fun K hK => ?_)
  refine lw_pu (wan_none rfl) (pu_build rfl rfl (by (simp only [put1, List.map_cons, List.map_nil, ev, List.getD_cons_succ, List.getD_cons_zero, List.set_cons_succ, List.set_cons_zero]; exact rfl))) (by (simp only [setD, List.set_cons_succ, List.set_cons_zero]; exact rfl)) ?_
  refine lw_pu (wan_none rfl) (pu_build rfl rfl (by (simp only [put1, List.map_cons, List.map_nil, ev, List.getD_cons_succ, List.getD_cons_zero, List.set_cons_succ, List.set_cons_zero]; exact rfl))) (by (simp only [setD, List.set_cons_succ, List.set_cons_zero]; exact rfl)) ?_
  refine lw_calx (wan_none rfl) (implLess_ret _ _ _ _ _ _ _) hm (by (simp only [setD, List.set_cons_succ, List.set_cons_zero]; exact rfl)) ?_; clear hm; intro h hm
  refine lw_pu (wan_none rfl) (pu_assign (by (simp only [ev, List.getD_cons_succ, List.getD_cons_zero]; exact rfl))) (by (simp only [setD, List.set_cons_succ, List.set_cons_zero]; exact rfl)) ?_
  refine lw_nil ?_; refine hK _ _ ?_; clear hK K
  refine tw_ret1 Try.func3 Try.results3 (by (simp only [ev, List.getD_cons_succ, List.getD_cons_zero]; exact rfl)) ?_
  rotate_left 1
  refine lw_pu (wan_some rfl rfl rfl) (pu_move (by (simp only [ev, List.getD_cons_succ, List.getD_cons_zero]; exact rfl))) (by (simp only [setD, List.set_cons_succ, List.set_cons_zero]; exact rfl)) ?_
  refine lw_pu (wan_some rfl rfl rfl) (pu_indexAddr_arr (n := 0) rfl rfl (by omega)) (by (simp only [setD, List.set_cons_succ, List.set_cons_zero]; exact rfl)) ?_
  refine lw_pu (wan_some rfl rfl rfl) (pu_load rfl (hm.own (j := 1) rfl rfl)) (by (simp only [setD, List.set_cons_succ, List.set_cons_zero]; exact rfl)) ?_
  refine lw_pu (wan_some rfl rfl rfl) (pu_lss rfl rfl) (by (simp only [setD, List.set_cons_succ, List.set_cons_zero]; exact rfl)) ?_
  refine lw_pu (wan_none rfl) (pu_pick_f rfl (by (simp only [ev, List.getD_cons_succ, List.getD_cons_zero]; exact rfl))) (by (simp only [setD, List.set_cons_succ, List.set_cons_zero]; exact rfl)) ?_
  refine lw_pu (wan_none rfl) (pu_move (by (simp only [ev, List.getD_cons_succ, List.getD_cons_zero]; exact rfl))) (by (simp only [setD, List.set_cons_succ, List.set_cons_zero]; exact rfl)) ?_
  refine lw_split_d rfl rfl rfl (by (simp only [List.set_cons_succ, List.set_cons_zero]; exact rfl)) (by (simp only [List.set_cons_succ, List.set_cons_zero]; exact rfl)) (fun hq => ?_) (fun hq => ?_)
  refine lw_skip_b rfl rfl rfl (by (simp only [setD, List.set_cons_succ, List.set_cons_zero]; exact rfl)) ?_
  refine lw_skip_b rfl rfl rfl (by (simp only [setD, List.set_cons_succ, List.set_cons_zero]; exact rfl)) ?_
  refine lw_skip_b rfl rfl rfl (by (simp only [setD, List.set_cons_succ, List.set_cons_zero]; exact rfl)) ?_
  refine lw_skip_b rfl rfl rfl (by (simp only [setD, List.set_cons_succ, List.set_cons_zero]; exact rfl)) ?_
  refine lw_pu (wan_none rfl) (pu_pick_t rfl (by (simp only [ev, List.getD_cons_succ, List.getD_cons_zero]; exact rfl))) (by (simp only [setD, List.set_cons_succ, List.set_cons_zero]; exact rfl)) ?_
  refine lw_pu (wan_none rfl) (pu_move (by (simp only [ev, List.getD_cons_succ, List.getD_cons_zero]; exact rfl))) (by (simp only [setD, List.set_cons_succ, List.set_cons_zero]; exact rfl)) ?_
  refine lw_skip_b rfl rfl rfl (by (simp only [setD, List.set_cons_succ, List.set_cons_zero]; exact rfl)) ?_
  refine lw_skip_b rfl rfl rfl (by (simp only [setD, List.set_cons_succ, List.set_cons_zero]; exact rfl)) ?_
  refine lw_skip_b rfl rfl rfl (by (simp only [setD, List.set_cons_succ, List.set_cons_zero]; exact rfl)) ?_
  refine lw_skip_b rfl rfl rfl (by (simp only [setD, List.set_cons_succ, List.set_cons_zero]; exact rfl)) ?_
  refine lw_pu (wan_none rfl) (pu_pick_t rfl (by (simp only [ev, List.getD_cons_succ, List.getD_cons_zero]; exact rfl))) (by (simp only [setD, List.set_cons_succ, List.set_cons_zero]; exact rfl)) ?_
  refine lw_pu (wan_none rfl) (pu_move (by (simp only [ev, List.getD_cons_succ, List.getD_cons_zero]; exact rfl))) (by (simp only [setD, List.set_cons_succ, List.set_cons_zero]; exact rfl)) ?_
  refine lw_skip_b rfl rfl rfl (by (simp only [setD, List.set_cons_succ, List.set_cons_zero]; exact rfl)) ?_
  refine lw_skip_b rfl rfl rfl (by (simp only [setD, List.set_cons_succ, List.set_cons_zero]; exact rfl)) ?_
  refine lw_skip_b rfl rfl rfl (by (simp only [setD, List.set_cons_succ, List.set_cons_zero]; exact rfl)) ?_
  refine lw_skip_b rfl rfl rfl (by (simp only [setD, List.set_cons_succ, List.set_cons_zero]; exact rfl)) ?_
  refine lw_pu (wan_none rfl) (pu_pick_t rfl (by (simp only [ev, List.getD_cons_succ, List.getD_cons_zero]; exact rfl))) (by (simp only [setD, List.set_cons_succ, List.set_cons_zero]; exact rfl)) ?_
  refine lw_nil ?_; refine hK _ _ ?_; clear hK K
  refine tw_cond_t rfl ?_
  refine tw_seq ?_
  refine tw_region (fun K hK => ?_)
  refine lw_pu (wan_none rfl) (pu_build rfl rfl (by (simp only [put1, List.map_cons, List.map_nil, ev, List.getD_cons_succ, List.getD_cons_zero, List.set_cons_succ, List.set_cons_zero]; exact rfl))) (by (simp only [setD, List.set_cons_succ, List.set_cons_zero]; exact rfl)) ?_
  refine lw_pu (wan_none rfl) (pu_build rfl rfl (by (simp only [put1, List.map_cons, List.map_nil, ev, List.getD_cons_succ, List.getD_cons_zero, List.set_cons_succ, List.set_cons_zero]; exact rfl))) (by (simp only [setD, List.set_cons_succ, List.set_cons_zero]; exact rfl)) ?_
  refine lw_calx (wan_none rfl) (implLess_ret _ _ _ _ _ _ _) hm (by (simp only [setD, List.set_cons_succ, List.set_cons_zero]; exact rfl)) ?_; clear hm; intro h hm
  refine lw_pu (wan_none rfl) (pu_assign (by (simp only [ev, List.getD_cons_succ, List.getD_cons_zero]; exact rfl))) (by (simp only [setD, List.set_cons_succ, List.set_cons_zero]; exact rfl)) ?_
  refine lw_nil ?_; refine hK _ _ ?_; clear hK K
  refine tw_ret1 Try.func3 Try.results3 (by (simp only [ev, List.getD_cons_succ, List.getD_cons_zero]; exact rfl)) ?_
  rotate_left 1
  refine lw_pu (wan_some rfl rfl rfl) (pu_move (by (simp only [ev, List.getD_cons_succ, List.getD_cons_zero]; exact rfl))) (by (simp only [setD, List.set_cons_succ, List.set_cons_zero]; exact rfl)) ?_
  refine lw_pu (wan_some rfl rfl rfl) (pu_indexAddr_arr (n := 0) rfl rfl (by omega)) (by (simp only [setD, List.set_cons_succ, List.set_cons_zero]; exact rfl)) ?_
  refine lw_pu (wan_some rfl rfl rfl) (pu_load rfl (hm.own (j := 3) rfl rfl)) (by (simp only [setD, List.set_cons_succ, List.set_cons_zero]; exact rfl)) ?_
  refine lw_pu (wan_some rfl rfl rfl) (pu_gtr rfl rfl) (by (simp only [setD, List.set_cons_succ, List.set_cons_zero]; exact rfl)) ?_
  refine lw_pu (wan_none rfl) (pu_pick_f rfl (by (simp only [ev, List.getD_cons_succ, List.getD_cons_zero]; exact rfl))) (by (simp only [setD, List.set_cons_succ, List.set_cons_zero]; exact rfl)) ?_
  refine lw_pu (wan_none rfl) (pu_move (by (simp only [ev, List.getD_cons_succ, List.getD_cons_zero]; exact rfl))) (by (simp only [setD, List.set_cons_succ, List.set_cons_zero]; exact rfl)) ?_
  refine lw_split_d rfl rfl rfl (by (simp only [List.set_cons_succ, List.set_cons_zero]; exact rfl)) (by (simp only [List.set_cons_succ, List.set_cons_zero]; exact rfl)) (fun hq => ?_) (fun hq => ?_)
  refine lw_skip_b rfl rfl rfl (by (simp only [setD, List.set_cons_succ, List.set_cons_zero]; exact rfl)) ?_
  refine lw_skip_b rfl rfl rfl (by (simp only [setD, List.set_cons_succ, List.set_cons_zero]; exact rfl)) ?_
  refine lw_skip_b rfl rfl rfl (by (simp only [setD, List.set_cons_succ, List.set_cons_zero]; exact rfl)) ?_
  refine lw_skip_b rfl rfl rfl (by (simp only [setD, List.set_cons_succ, List.set_cons_zero]; exact rfl)) ?_
  refine lw_pu (wan_none rfl) (pu_pick_t rfl (by (simp only [ev, List.getD_cons_succ, List.getD_cons_zero]; exact rfl))) (by (simp only [setD, List.set_cons_succ, List.set_cons_zero]; exact rfl)) ?_
  refine lw_pu (wan_none rfl) (pu_move (by (simp only [ev, List.getD_cons_succ, List.getD_cons_zero]; exact rfl))) (by (simp only [setD, List.set_cons_succ, List.set_cons_zero]; exact rfl)) ?_
  refine lw_skip_b rfl rfl rfl (by (simp only [setD, List.set_cons_succ, List.set_cons_zero]; exact rfl)) ?_
  refine lw_skip_b rfl rfl rfl (by (simp only [setD, List.set_cons_succ, List.set_cons_zero]; exact rfl)) ?_
  refine lw_skip_b rfl rfl rfl (by (simp only [setD, List.set_cons_succ, List.set_cons_zero]; exact rfl)) ?_
  refine lw_skip_b rfl rfl rfl (by (simp only [setD, List.set_cons_succ, List.set_cons_zero]; exact rfl)) ?_
  refine lw_pu (wan_none rfl) (pu_pick_t rfl (by (simp only [ev, List.getD_cons_succ, List.getD_cons_zero]; exact rfl))) (by (simp only [setD, List.set_cons_succ, List.set_cons_zero]; exact rfl)) ?_
  refine lw_nil ?_; refine hK _ _ ?_; clear hK K
  refine tw_cond_t rfl ?_
  refine tw_seq ?_
  refine tw_region (fun K hK => ?_)
  refine lw_pu (wan_none rfl) (pu_build rfl rfl (by (simp only [put1, List.map_cons, List.map_nil, ev, List.getD_cons_succ, List.getD_cons_zero, List.set_cons_succ, List.set_cons_zero]; exact rfl))) (by (simp only [setD, List.set_cons_succ, List.set_cons_zero]; exact rfl)) ?_
  refine lw_pu (wan_none rfl) (pu_build rfl rfl (by (simp only [put1, List.map_cons, List.map_nil, ev, List.getD_cons_succ, List.getD_cons_zero, List.set_cons_succ, List.set_cons_zero]; exact rfl))) (by (simp only [setD, List.set_cons_succ, List.set_cons_zero]; exact rfl)) ?_
  refine lw_calx (wan_none rfl) (implLess_ret _ _ _ _ _ _ _) hm (by (simp only [setD, List.set_cons_succ, List.set_cons_zero]; exact rfl)) ?_; clear hm; intro h hm
  refine lw_pu (wan_none rfl) (pu_assign (by (simp only [ev, List.getD_cons_succ, List.getD_cons_zero]; exact rfl))) (by (simp only [setD, List.set_cons_succ, List.set_cons_zero]; exact rfl)) ?_
  refine lw_nil ?_; refine hK _ _ ?_; clear hK K
  refine tw_ret1 Try.func3 Try.results3 (by (simp only [ev, List.getD_cons_succ, List.getD_cons_zero]; exact rfl)) ?_
  rotate_left 1
  refine lw_pu (wan_some rfl rfl rfl) (pu_move (by (simp only [ev, List.getD_cons_succ, List.getD_cons_zero]; exact rfl))) (by (simp only [setD, List.set_cons_succ, List.set_cons_zero]; exact rfl)) ?_
  refine lw_pu (wan_some rfl rfl rfl) (pu_indexAddr_arr (n := 0) rfl rfl (by omega)) (by (simp only [setD, List.set_cons_succ, List.set_cons_zero]; exact rfl)) ?_
  refine lw_pu (wan_some rfl rfl rfl) (pu_load rfl (hm.own (j := 2) rfl rfl)) (by (simp only [setD, List.set_cons_succ, List.set_cons_zero]; exact rfl)) ?_
  refine lw_pu (wan_some rfl rfl rfl) (pu_gtr rfl rfl) (by (simp only [setD, List.set_cons_succ, List.set_cons_zero]; exact rfl)) ?_
  refine lw_pu (wan_none rfl) (pu_pick_f rfl (by (simp only [ev, List.getD_cons_succ, List.getD_cons_zero]; exact rfl))) (by (simp only [setD, List.set_cons_succ, List.set_cons_zero]; exact rfl)) ?_
  refine lw_pu (wan_none rfl) (pu_move (by (simp only [ev, List.getD_cons_succ, List.getD_cons_zero]; exact rfl))) (by (simp only [setD, List.set_cons_succ, List.set_cons_zero]; exact rfl)) ?_
  refine lw_split_d rfl rfl rfl (by (simp only [List.set_cons_succ, List.set_cons_zero]; exact rfl)) (by (simp only [List.set_cons_succ, List.set_cons_zero]; exact rfl)) (fun hq => ?_) (fun hq => ?_)
  refine lw_skip_b rfl rfl rfl (by (simp only [setD, List.set_cons_succ, List.set_cons_zero]; exact rfl)) ?_
  refine lw_skip_b rfl rfl rfl (by (simp only [setD, List.set_cons_succ, List.set_cons_zero]; exact rfl)) ?_
  refine lw_skip_b rfl rfl rfl (by (simp only [setD, List.set_cons_succ, List.set_cons_zero]; exact rfl)) ?_
  refine lw_skip_b rfl rfl rfl (by (simp only [setD, List.set_cons_succ, List.set_cons_zero]; exact rfl)) ?_
  refine lw_pu (wan_none rfl) (pu_pick_t rfl (by (simp only [ev, List.getD_cons_succ, List.getD_cons_zero]; exact rfl))) (by (simp only [setD, List.set_cons_succ, List.set_cons_zero]; exact rfl)) ?_
  refine lw_nil ?_; refine hK _ _ ?_; clear hK K
  refine tw_cond_t rfl ?_
  refine tw_seq ?_
  refine tw_region (fun K hK => ?_)
  refine lw_pu (wan_none rfl) (pu_build rfl rfl (by (simp only [put1, List.map_cons, List.map_nil, ev, List.getD_cons_succ, List.getD_cons_zero, List.set_cons_succ, List.set_cons_zero]; exact rfl))) (by (simp only [setD, List.set_cons_succ, List.set_cons_zero]; exact rfl)) ?_
  refine lw_pu (wan_none rfl) (pu_build rfl rfl (by (simp only [put1, List.map_cons, List.map_nil, ev, List.getD_cons_succ, List.getD_cons_zero, List.set_cons_succ, List.set_cons_zero]; exact rfl))) (by (simp only [setD, List.set_cons_succ, List.set_cons_zero]; exact rfl)) ?_
  refine lw_calx (wan_none rfl) (implLess_ret _ _ _ _ _ _ _) hm (by (simp only [setD, List.set_cons_succ, List.set_cons_zero]; exact rfl)) ?_; clear hm; intro h hm
  refine lw_pu (wan_none rfl) (pu_assign (by (simp only [ev, List.getD_cons_succ, List.getD_cons_zero]; exact rfl))) (by (simp only [setD, List.set_cons_succ, List.set_cons_zero]; exact rfl)) ?_
  refine lw_nil ?_; refine hK _ _ ?_; clear hK K
  refine tw_ret1 Try.func3 Try.results3 (by (simp only [ev, List.getD_cons_succ, List.getD_cons_zero]; exact rfl)) ?_
  rotate_left 1
  refine lw_pu (wan_some rfl rfl rfl) (pu_move (by (simp only [ev, List.getD_cons_succ, List.getD_cons_zero]; exact rfl))) (by (simp only [setD, List.set_cons_succ, List.set_cons_zero]; exact rfl)) ?_
  refine lw_pu (wan_some rfl rfl rfl) (pu_indexAddr_arr (n := 0) rfl rfl (by omega)) (by (simp only [setD, List.set_cons_succ, List.set_cons_zero]; exact rfl)) ?_
  refine lw_pu (wan_some rfl rfl rfl) (pu_load rfl (hm.own (j := 1) rfl rfl)) (by (simp only [setD, List.set_cons_succ, List.set_cons_zero]; exact rfl)) ?_
  refine lw_pu (wan_some rfl rfl rfl) (pu_gtr rfl rfl) (by (simp only [setD, List.set_cons_succ, List.set_cons_zero]; exact rfl)) ?_
  refine lw_pu (wan_none rfl) (pu_pick_f rfl (by (simp only [ev, List.getD_cons_succ, List.getD_cons_zero]; exact rfl))) (by (simp only [setD, List.set_cons_succ, List.set_cons_zero]; exact rfl)) ?_
  refine lw_nil ?_; refine hK _ _ ?_; clear hK K
  refine tw_cond_ds rfl (by (simp only [List.set_cons_succ, List.set_cons_zero]; exact rfl)) (by (simp only [List.set_cons_succ, List.set_cons_zero]; exact rfl)) (fun hq => ?_) (fun hq => ?_)
  refine tw_seq ?_
  refine tw_region (fun K hK => ?_)
  refine lw_pu (wan_none rfl) (pu_build rfl rfl (by (simp only [put1, List.map_cons, List.map_nil, ev, List.getD_cons_succ, List.getD_cons_zero, List.set_cons_succ, List.set_cons_zero]; exact rfl))) (by (simp only [setD, List.set_cons_succ, List.set_cons_zero]; exact rfl)) ?_
  refine lw_pu (wan_none rfl) (pu_build rfl rfl (by (simp only [put1, List.map_cons, List.map_nil, ev, List.getD_cons_succ, List.getD_cons_zero, List.set_cons_succ, List.set_cons_zero]; exact rfl))) (by (simp only [setD, List.set_cons_succ, List.set_cons_zero]; exact rfl)) ?_
  refine lw_calx (wan_none rfl) (implLess_ret _ _ _ _ _ _ _) hm (by (simp only [setD, List.set_cons_succ, List.set_cons_zero]; exact rfl)) ?_; clear hm; intro h hm
  refine lw_pu (wan_none rfl) (pu_assign (by (simp only [ev, List.getD_cons_succ, List.getD_cons_zero]; exact rfl))) (by (simp only [setD, List.set_cons_succ, List.set_cons_zero]; exact rfl)) ?_
  refine lw_nil ?_; refine hK _ _ ?_; clear hK K
  refine tw_ret1 Try.func3 Try.results3 (by (simp only [ev, List.getD_cons_succ, List.getD_cons_zero]; exact rfl)) ?_
  rotate_left 1
  refine tw_skip ?_
  refine tw_heldM (M := _) (hm.hld rfl (List.Sublist.cons _ (List.Sublist.cons_cons _ (List.Sublist.cons_cons _ (List.Sublist.cons_cons _ List.Sublist.slnil))))) (by kernel_rfl) rfl (fun K hK => ?_)
  refine aw_take 0 rfl (by kernel_rfl) (by kernel_rfl) (by kernel_rfl) (hm.hld rfl (List.Sublist.cons _ (List.Sublist.cons_cons _ (List.Sublist.cons_cons _ (List.Sublist.cons_cons _ List.Sublist.slnil))))) (wan_none rfl) (fun h hm => pu_move (by (simp only [ev, List.getD_cons_succ, List.getD_cons_zero]; exact rfl))) (by (simp only [setD, List.set_cons_succ, List.set_cons_zero]; exact rfl)) ?_
  refine aw_take 1 rfl (by kernel_rfl) (by kernel_rfl) (by kernel_rfl) (hm.hld rfl (List.Sublist.cons _ (List.Sublist.cons_cons _ (List.Sublist.cons_cons _ (List.Sublist.cons_cons _ List.Sublist.slnil))))) (wan_none rfl) (fun h hm => pu_move (by (simp only [ev, List.getD_cons_succ, List.getD_cons_zero]; exact rfl))) (by (simp only [setD, List.set_cons_succ, List.set_cons_zero]; exact rfl)) ?_
  refine aw_take 2 rfl (by kernel_rfl) (by kernel_rfl) (by kernel_rfl) (hm.hld rfl (List.Sublist.cons _ (List.Sublist.cons_cons _ (List.Sublist.cons_cons _ (List.Sublist.cons_cons _ List.Sublist.slnil))))) (wan_none rfl) (fun h hm => pu_indexAddr_arr (n := 0) rfl rfl (by omega)) (by (simp only [setD, List.set_cons_succ, List.set_cons_zero]; exact rfl)) ?_
  refine aw_take 3 rfl (by kernel_rfl) (by kernel_rfl) (by kernel_rfl) (hm.hld rfl (List.Sublist.cons _ (List.Sublist.cons_cons _ (List.Sublist.cons_cons _ (List.Sublist.cons_cons _ List.Sublist.slnil))))) (wan_none rfl) (fun h hm => pu_load rfl (hm.own (j := 2) rfl rfl)) (by (simp only [setD, List.set_cons_succ, List.set_cons_zero]; exact rfl)) ?_
  refine aw_take 4 rfl (by kernel_rfl) (by kernel_rfl) (by kernel_rfl) (hm.hld rfl (List.Sublist.cons _ (List.Sublist.cons_cons _ (List.Sublist.cons_cons _ (List.Sublist.cons_cons _ List.Sublist.slnil))))) (wan_none rfl) (fun h hm => pu_move (by (simp only [ev, List.getD_cons_succ, List.getD_cons_zero]; exact rfl))) (by (simp only [setD, List.set_cons_succ, List.set_cons_zero]; exact rfl)) ?_
  refine aw_take 5 rfl (by kernel_rfl) (by kernel_rfl) (by kernel_rfl) (hm.hld rfl (List.Sublist.cons _ (List.Sublist.cons_cons _ (List.Sublist.cons_cons _ (List.Sublist.cons_cons _ List.Sublist.slnil))))) (wan_none rfl) (fun h hm => pu_indexAddr_arr (n := 0) rfl rfl (by omega)) (by (simp only [setD, List.set_cons_succ, List.set_cons_zero]; exact rfl)) ?_
  refine aw_take 6 rfl (by kernel_rfl) (by kernel_rfl) (by kernel_rfl) (hm.hld rfl (List.Sublist.cons _ (List.Sublist.cons_cons _ (List.Sublist.cons_cons _ (List.Sublist.cons_cons _ List.Sublist.slnil))))) (wan_none rfl) (fun h hm => pu_load rfl (hm.own (j := 0) rfl rfl)) (by (simp only [setD, List.set_cons_succ, List.set_cons_zero]; exact rfl)) ?_
  first | refine aw_take 7 rfl (by kernel_rfl) (by kernel_rfl) (by kernel_rfl) (hm.hld rfl (List.Sublist.cons _ (List.Sublist.cons_cons _ (List.Sublist.cons_cons _ (List.Sublist.cons_cons _ List.Sublist.slnil))))) (wan_none rfl) (fun h hm => pu_addn rfl rfl (by omega)) (by (simp only [setD, List.set_cons_succ, List.set_cons_zero]; exact rfl)) ?_ | refine aw_take 7 rfl (by kernel_rfl) (by kernel_rfl) (by kernel_rfl) (hm.hld rfl (List.Sublist.cons _ (List.Sublist.cons_cons _ (List.Sublist.cons_cons _ (List.Sublist.cons_cons _ List.Sublist.slnil))))) (wan_none rfl) (fun h hm => pu_addi rfl rfl (by omega) (by omega)) (by (simp only [setD, List.set_cons_succ, List.set_cons_zero]; exact rfl)) ?_ | refine aw_take 7 rfl (by kernel_rfl) (by kernel_rfl) (by kernel_rfl) (hm.hld rfl (List.Sublist.cons _ (List.Sublist.cons_cons _ (List.Sublist.cons_cons _ (List.Sublist.cons_cons _ List.Sublist.slnil))))) (wan_none rfl) (fun h hm => pu_add rfl rfl) (by (simp only [setD, List.set_cons_succ, List.set_cons_zero]; exact rfl)) ?_
  refine aw_take 8 rfl (by kernel_rfl) (by kernel_rfl) (by kernel_rfl) (hm.hld rfl (List.Sublist.cons _ (List.Sublist.cons_cons _ (List.Sublist.cons_cons _ (List.Sublist.cons_cons _ List.Sublist.slnil))))) (wan_none rfl) (fun h hm => pu_indexAddr_arr (n := 0) rfl rfl (by omega)) (by (simp only [setD, List.set_cons_succ, List.set_cons_zero]; exact rfl)) ?_
  refine aw_step 9 rfl (by kernel_rfl) ?_
  refine lw_store_own (j := 0) (wan_none rfl) rfl (by (simp only [ev, List.getD_cons_succ, List.getD_cons_zero]; exact rfl)) rfl hm rfl (by simp) (by (simp only [List.set_cons_succ, List.set_cons_zero]; exact rfl)) (by (simp only [setD, List.set_cons_succ, List.set_cons_zero]; exact rfl)) ?_; clear hm; intro h hm
  refine lw_nil ⟨hm.hld rfl (List.Sublist.cons _ (List.Sublist.cons_cons _ (List.Sublist.cons_cons _ (List.Sublist.cons_cons _ List.Sublist.slnil)))), ?_⟩
  refine aw_done (by kernel_rfl) ?_; refine hK _ _ ?_; clear hK K
  refine tw_inBlock ?_
  refine tw_region (fun K hK => ?_)
  refine lw_pu (wan_none rfl) (pu_move (by (simp only [ev, List.getD_cons_succ, List.getD_cons_zero]; exact rfl))) (by (simp only [setD, List.set_cons_succ, List.set_cons_zero]; exact rfl)) ?_
  refine lw_pu (wan_none rfl) (pu_addn (m := 0) (n := 1) rfl rfl (by omega)) (by (simp only [setD, List.set_cons_succ, List.set_cons_zero]; exact rfl)) ?_
  refine lw_pu (wan_none rfl) (pu_assign (by (simp only [ev, List.getD_cons_succ, List.getD_cons_zero]; exact rfl))) (by (simp only [setD, List.set_cons_succ, List.set_cons_zero]; exact rfl)) ?_
  refine lw_nil ?_; refine hK _ _ ?_; clear hK K
  refine tw_inLoop ?_
  refine tw_seq ?_
  refine tw_seq ?_
  refine tw_region (fun K hK => ?_)
  refine lw_pu (wan_none rfl) (pu_move (by (simp only [ev, List.getD_cons_succ, List.getD_cons_zero]; exact rfl))) (by (simp only [setD, List.set_cons_succ, List.set_cons_zero]; exact rfl)) ?_
  refine lw_pu (wan_none rfl) (pu_true (pu_lss rfl rfl) (by omega)) (by (simp only [setD, List.set_cons_succ, List.set_cons_zero]; exact rfl)) ?_
  refine lw_nil ?_; refine hK _ _ ?_; clear hK K
  refine tw_cond_t rfl ?_
  refine tw_skip ?_
  refine tw_seq ?_
  refine tw_block ?_
  refine tw_seq ?_
  refine tw_seq ?_
  refine tw_region (fun K hK => ?_)
  refine lw_pu (wan_none rfl) (pu_move (by (simp only [ev, List.getD_cons_succ, List.getD_cons_zero]; exact rfl))) (by (simp only [setD, List.set_cons_succ, List.set_cons_zero]; exact rfl)) ?_
  refine lw_pu (wan_none rfl) (pu_indexAddr_arr (n := 1) rfl rfl (by omega)) (by (simp only [setD, List.set_cons_succ, List.set_cons_zero]; exact rfl)) ?_
  refine lw_pu (wan_none rfl) (pu_load rfl (hm.own (j := 3) rfl rfl)) (by (simp only [setD, List.set_cons_succ, List.set_cons_zero]; exact rfl)) ?_
  refine lw_pu (wan_none rfl) (pu_lss rfl rfl) (by (simp only [setD, List.set_cons_succ, List.set_cons_zero]; exact rfl)) ?_
  refine lw_pu (wan_none rfl) (pu_move (by (simp only [ev, List.getD_cons_succ, List.getD_cons_zero]; exact rfl))) (by (simp only [setD, List.set_cons_succ, List.set_cons_zero]; exact rfl)) ?_
  refine lw_split_d rfl rfl rfl (by (simp only [List.set_cons_succ, List.set_cons_zero]; exact rfl)) (by (simp only [List.set_cons_succ, List.set_cons_zero]; exact rfl)) (fun hq => ?_) (fun hq => ?_)
  refine lw_skip_b rfl rfl rfl (by (simp only [setD, List.set_cons_succ, List.set_cons_zero]; exact rfl)) ?_
  refine lw_skip_b rfl rfl rfl (by (simp only [setD, List.set_cons_succ, List.set_cons_zero]; exact rfl)) ?_
  refine lw_skip_b rfl rfl rfl (by (simp only [setD, List.set_cons_succ, List.set_cons_zero]; exact rfl)) ?_
  refine lw_skip_b rfl rfl rfl (by (simp only [setD, List.set_cons_succ, List.set_cons_zero]; exact rfl)) ?_
  refine lw_pu (wan_none rfl) (pu_pick_t rfl (by (simp only [ev, List.getD_cons_succ, List.getD_cons_zero]; exact rfl))) (by (simp only [setD, List.set_cons_succ, List.set_cons_zero]; exact rfl)) ?_
  refine lw_pu (wan_none rfl) (pu_move (by (simp only [ev, List.getD_cons_succ, List.getD_cons_zero]; exact rfl))) (by (simp only [setD, List.set_cons_succ, List.set_cons_zero]; exact rfl)) ?_
  refine lw_skip_b rfl rfl rfl (by (simp only [setD, List.set_cons_succ, List.set_cons_zero]; exact rfl)) ?_
  refine lw_skip_b rfl rfl rfl (by (simp only [setD, List.set_cons_succ, List.set_cons_zero]; exact rfl)) ?_
  refine lw_skip_b rfl rfl rfl (by (simp only [setD, List.set_cons_succ, List.set_cons_zero]; exact rfl)) ?_
  refine lw_skip_b rfl rfl rfl (by (simp only [setD, List.set_cons_succ, List.set_cons_zero]; exact rfl)) ?_
  refine lw_pu (wan_none rfl) (pu_pick_t rfl (by (simp only [ev, List.getD_cons_succ, List.getD_cons_zero]; exact rfl))) (by (simp only [setD, List.set_cons_succ, List.set_cons_zero]; exact rfl)) ?_
  refine lw_pu (wan_none rfl) (pu_move (by (simp only [ev, List.getD_cons_succ, List.getD_cons_zero]; exact rfl))) (by (simp only [setD, List.set_cons_succ, List.set_cons_zero]; exact rfl)) ?_
  refine lw_skip_b rfl rfl rfl (by (simp only [setD, List.set_cons_succ, List.set_cons_zero]; exact rfl)) ?_
  refine lw_skip_b rfl rfl rfl (by (simp only [setD, List.set_cons_succ, List.set_cons_zero]; exact rfl)) ?_
  refine lw_skip_b rfl rfl rfl (by (simp only [setD, List.set_cons_succ, List.set_cons_zero]; exact rfl)) ?_
  refine lw_skip_b rfl rfl rfl (by (simp only [setD, List.set_cons_succ, List.set_cons_zero]; exact rfl)) ?_
  refine lw_pu (wan_none rfl) (pu_pick_t rfl (by (simp only [ev, List.getD_cons_succ, List.getD_cons_zero]; exact rfl))) (by (simp only [setD, List.set_cons_succ, List.set_cons_zero]; exact rfl)) ?_
  refine lw_pu (wan_none rfl) (pu_move (by (simp only [ev, List.getD_cons_succ, List.getD_cons_zero]; exact rfl))) (by (simp only [setD, List.set_cons_succ, List.set_cons_zero]; exact rfl)) ?_
  refine lw_skip_b rfl rfl rfl (by (simp only [setD, List.set_cons_succ, List.set_cons_zero]; exact rfl)) ?_
  refine lw_skip_b rfl rfl rfl (by (simp only [setD, List.set_cons_succ, List.set_cons_zero]; exact rfl)) ?_
  refine lw_skip_b rfl rfl rfl (by (simp only [setD, List.set_cons_succ, List.set_cons_zero]; exact rfl)) ?_
  refine lw_skip_b rfl rfl rfl (by (simp only [setD, List.set_cons_succ, List.set_cons_zero]; exact rfl)) ?_
  refine lw_pu (wan_none rfl) (pu_pick_t rfl (by (simp only [ev, List.getD_cons_succ, List.getD_cons_zero]; exact rfl))) (by (simp only [setD, List.set_cons_succ, List.set_cons_zero]; exact rfl)) ?_
  refine lw_pu (wan_none rfl) (pu_move (by (simp only [ev, List.getD_cons_succ, List.getD_cons_zero]; exact rfl))) (by (simp only [setD, List.set_cons_succ, List.set_cons_zero]; exact rfl)) ?_
  refine lw_skip_b rfl rfl rfl (by (simp only [setD, List.set_cons_succ, List.set_cons_zero]; exact rfl)) ?_
  refine lw_skip_b rfl rfl rfl (by (simp only [setD, List.set_cons_succ, List.set_cons_zero]; exact rfl)) ?_
  refine lw_skip_b rfl rfl rfl (by (simp only [setD, List.set_cons_succ, List.set_cons_zero]; exact rfl)) ?_
  refine lw_skip_b rfl rfl rfl (by (simp only [setD, List.set_cons_succ, List.set_cons_zero]; exact rfl)) ?_
  refine lw_pu (wan_none rfl) (pu_pick_t rfl (by (simp only [ev, List.getD_cons_succ, List.getD_cons_zero]; exact rfl))) (by (simp only [setD, List.set_cons_succ, List.set_cons_zero]; exact rfl)) ?_
  refine lw_nil ?_; refine hK _ _ ?_; clear hK K
  refine tw_cond_t rfl ?_
  refine tw_seq ?_
  refine tw_region (fun K hK => ?_)
  refine lw_pu (wan_none rfl) (pu_build rfl rfl (by (simp only [put1, List.map_cons, List.map_nil, ev, List.getD_cons_succ, List.getD_cons_zero, List.set_cons_succ, List.set_cons_zero]; exact rfl))) (by (simp only [setD, List.set_cons_succ, List.set_cons_zero]; exact rfl)) ?_
  refine lw_pu (wan_none rfl) (pu_build rfl rfl (by (simp only [put1, List.map_cons, List.map_nil, ev, List.getD_cons_succ, List.getD_cons_zero, List.set_cons_succ, List.set_cons_zero]; exact rfl))) (by (simp only [setD, List.set_cons_succ, List.set_cons_zero]; exact rfl)) ?_
  refine lw_calx (wan_none rfl) (implLess_ret _ _ _ _ _ _ _) hm (by (simp only [setD, List.set_cons_succ, List.set_cons_zero]; exact rfl)) ?_; clear hm; intro h hm
  refine lw_pu (wan_none rfl) (pu_assign (by (simp only [ev, List.getD_cons_succ, List.getD_cons_zero]; exact rfl))) (by (simp only [setD, List.set_cons_succ, List.set_cons_zero]; exact rfl)) ?_
  refine lw_nil ?_; refine hK _ _ ?_; clear hK K
  refine tw_ret1 Try.func3 Try.results3 (by (simp only [ev, List.getD_cons_succ, List.getD_cons_zero]; exact rfl)) ?_
  rotate_left 1
  refine lw_pu (wan_some rfl rfl rfl) (pu_move (by (simp only [ev, List.getD_cons_succ, List.getD_cons_zero]; exact rfl))) (by (simp only [setD, List.set_cons_succ, List.set_cons_zero]; exact rfl)) ?_
  refine lw_pu (wan_some rfl rfl rfl) (pu_indexAddr_arr (n := 1) rfl rfl (by omega)) (by (simp only [setD, List.set_cons_succ, List.set_cons_zero]; exact rfl)) ?_
  refine lw_pu (wan_some rfl rfl rfl) (pu_load rfl (hm.own (j := 2) rfl rfl)) (by (simp only [setD, List.set_cons_succ, List.set_cons_zero]; exact rfl)) ?_
  refine lw_pu (wan_some rfl rfl rfl) (pu_lss rfl rfl) (by (simp only [setD, List.set_cons_succ, List.set_cons_zero]; exact rfl)) ?_
  refine lw_pu (wan_none rfl) (pu_pick_f rfl (by (simp only [ev, List.getD_cons_succ, List.getD_cons_zero]; exact rfl))) (by (simp only [setD, List.set_cons_succ, List.set_cons_zero]; exact rfl)) ?_
  refine lw_pu (wan_none rfl) (pu_move (by (simp only [ev, List.getD_cons_succ, List.getD_cons_zero]; exact rfl))) (by (simp only [setD, List.set_cons_succ, List.set_cons_zero]; exact rfl)) ?_
  refine lw_split_d rfl rfl rfl (by (simp only [List.set_cons_succ, List.set_cons_zero]; exact rfl)) (by (simp only [List.set_cons_succ, List.set_cons_zero]; exact rfl)) (fun hq => ?_) (fun hq => ?_)
  refine lw_skip_b rfl rfl rfl (by (simp only [setD, List.set_cons_succ, List.set_cons_zero]; exact rfl)) ?_
  refine lw_skip_b rfl rfl rfl (by (simp only [setD, List.set_cons_succ, List.set_cons_zero]; exact rfl)) ?_
  refine lw_skip_b rfl rfl rfl (by (simp only [setD, List.set_cons_succ, List.set_cons_zero]; exact rfl)) ?_
  refine lw_skip_b rfl rfl rfl (by (simp only [setD, List.set_cons_succ, List.set_cons_zero]; exact rfl)) ?_
  refine lw_pu (wan_none rfl) (pu_pick_t rfl (by (simp only [ev, List.getD_cons_succ, List.getD_cons_zero]; exact rfl))) (by (simp only [setD, List.set_cons_succ, List.set_cons_zero]; exact rfl)) ?_
  refine lw_pu (wan_none rfl) (pu_move (by (simp only [ev, List.getD_cons_succ, List.getD_cons_zero]; exact rfl))) (by (simp only [setD, List.set_cons_succ, List.set_cons_zero]; exact rfl)) ?_
  refine lw_skip_b rfl rfl rfl (by (simp only [setD, List.set_cons_succ, List.set_cons_zero]; exact rfl)) ?_
  refine lw_skip_b rfl rfl rfl (by (simp only [setD, List.set_cons_succ, List.set_cons_zero]; exact rfl)) ?_
  refine lw_skip_b rfl rfl rfl (by (simp only [setD, List.set_cons_succ, List.set_cons_zero]; exact rfl)) ?_
  refine lw_skip_b rfl rfl rfl (by (simp only [setD, List.set_cons_succ, List.set_cons_zero]; exact rfl)) ?_
  refine lw_pu (wan_none rfl) (pu_pick_t rfl (by (simp only [ev, List.getD_cons_succ, List.getD_cons_zero]; exact rfl))) (by (simp only [setD, List.set_cons_succ, List.set_cons_zero]; exact rfl)) ?_
  refine lw_pu (wan_none rfl) (pu_move (by (simp only [ev, List.getD_cons_succ, List.getD_cons_zero]; exact rfl))) (by (simp only [setD, List.set_cons_succ, List.set_cons_zero]; exact rfl)) ?_
  refine lw_skip_b rfl rfl rfl (by (simp only [setD, List.set_cons_succ, List.set_cons_zero]; exact rfl)) ?_
  refine lw_skip_b rfl rfl rfl (by (simp only [setD, List.set_cons_succ, List.set_cons_zero]; exact rfl)) ?_
  refine lw_skip_b rfl rfl rfl (by (simp only [setD, List.set_cons_succ, List.set_cons_zero]; exact rfl)) ?_
  refine lw_skip_b rfl rfl rfl (by (simp only [setD, List.set_cons_succ, List.set_cons_zero]; exact rfl)) ?_
  refine lw_pu (wan_none rfl) (pu_pick_t rfl (by (simp only [ev, List.getD_cons_succ, List.getD_cons_zero]; exact rfl))) (by (simp only [setD, List.set_cons_succ, List.set_cons_zero]; exact rfl)) ?_
  refine lw_pu (wan_none rfl) (pu_move (by (simp only [ev, List.getD_cons_succ, List.getD_cons_zero]; exact rfl))) (by (simp only [setD, List.set_cons_succ, List.set_cons_zero]; exact rfl)) ?_
  refine lw_skip_b rfl rfl rfl (by (simp only [setD, List.set_cons_succ, List.set_cons_zero]; exact rfl)) ?_
  refine lw_skip_b rfl rfl rfl (by (simp only [setD, List.set_cons_succ, List.set_cons_zero]; exact rfl)) ?_
  refine lw_skip_b rfl rfl rfl (by (simp only [setD, List.set_cons_succ, List.set_cons_zero]; exact rfl)) ?_
  refine lw_skip_b rfl rfl rfl (by (simp only [setD, List.set_cons_succ, List.set_cons_zero]; exact rfl)) ?_
  refine lw_pu (wan_none rfl) (pu_pick_t rfl (by (simp only [ev, List.getD_cons_succ, List.getD_cons_zero]; exact rfl))) (by (simp only [setD, List.set_cons_succ, List.set_cons_zero]; exact rfl)) ?_
  refine lw_nil ?_; refine hK _ _ ?_; clear hK K
  refine tw_cond_t rfl ?_
  refine tw_seq ?_
  refine tw_region (fun K hK => ?_)
  refine lw_pu (wan_none rfl) (pu_build rfl rfl (by (simp only [put1, List.map_cons, List.map_nil, ev, List.getD_cons_succ, List.getD_cons_zero, List.set_cons_succ, List.set_cons_zero]; exact rfl))) (by (simp only [setD, List.set_cons_succ, List.set_cons_zero]; exact rfl)) ?_
  refine lw_pu (wan_none rfl) (pu_build rfl rfl (by (simp only [put1, List.map_cons, List.map_nil, ev, List.getD_cons_succ, List.getD_cons_zero, List.set_cons_succ, List.set_cons_zero]; exact rfl))) (by (simp only [setD, List.set_cons_succ, List.set_cons_zero]; exact rfl)) ?_
  refine lw_calx (wan_none rfl) (implLess_ret _ _ _ _ _ _ _) hm (by (simp only [setD, List.set_cons_succ, List.set_cons_zero]; exact rfl)) ?_; clear hm; intro h hm
  refine lw_pu (wan_none rfl) (pu_assign (by (simp only [ev, List.getD_cons_succ, List.getD_cons_zero]; exact rfl))) (by (simp only [setD, List.set_cons_succ, List.set_cons_zero]; exact rfl)) ?_
  refine lw_nil ?_; refine hK _ _ ?_; clear hK K
  refine tw_ret1 Try.func3 Try.results3 (by (simp only [ev, List.getD_cons_succ, List.getD_cons_zero]; exact rfl)) ?_
  rotate_left 1
  refine lw_pu (wan_some rfl rfl rfl) (pu_move (by (simp only [ev, List.getD_cons_succ, List.getD_cons_zero]; exact rfl))) (by (simp only [setD, List.set_cons_succ, List.set_cons_zero]; exact rfl)) ?_
  refine lw_pu (wan_some rfl rfl rfl) (pu_indexAddr_arr (n := 1) rfl rfl (by omega)) (by (simp only [setD, List.set_cons_succ, List.set_cons_zero]; exact rfl)) ?_
  refine lw_pu (wan_some rfl rfl rfl) (pu_load rfl (hm.own (j := 1) rfl rfl)) (by (simp only [setD, List.set_cons_succ, List.set_cons_zero]; exact rfl)) ?_
  refine lw_pu (wan_some rfl rfl rfl) (pu_lss rfl rfl) (by (simp only [setD, List.set_cons_succ, List.set_cons_zero]; exact rfl)) ?_
  refine lw_pu (wan_none rfl) (pu_pick_f rfl (by (simp only [ev, List.getD_cons_succ, List.getD_cons_zero]; exact rfl))) (by (simp only [setD, List.set_cons_succ, List.set_cons_zero]; exact rfl)) ?_
  refine lw_pu (wan_none rfl) (pu_move (by (simp only [ev, List.getD_cons_succ, List.getD_cons_zero]; exact rfl))) (by (simp only [setD, List.set_cons_succ, List.set_cons_zero]; exact rfl)) ?_
  refine lw_split_d rfl rfl rfl (by (simp only [List.set_cons_succ, List.set_cons_zero]; exact rfl)) (by (simp only [List.set_cons_succ, List.set_cons_zero]; exact rfl)) (fun hq => ?_) (fun hq => ?_)
  refine lw_skip_b rfl rfl rfl (by (simp only [setD, List.set_cons_succ, List.set_cons_zero]; exact rfl)) ?_
  refine lw_skip_b rfl rfl rfl (by (simp only [setD, List.set_cons_succ, List.set_cons_zero]; exact rfl)) ?_
  refine lw_skip_b rfl rfl rfl (by (simp only [setD, List.set_cons_succ, List.set_cons_zero]; exact rfl)) ?_
  refine lw_skip_b rfl rfl rfl (by (simp only [setD, List.set_cons_succ, List.set_cons_zero]; exact rfl)) ?_
  refine lw_pu (wan_none rfl) (pu_pick_t rfl (by (simp only [ev, List.getD_cons_succ, List.getD_cons_zero]; exact rfl))) (by (simp only [setD, List.set_cons_succ, List.set_cons_zero]; exact rfl)) ?_
  refine lw_pu (wan_none rfl) (pu_move (by (simp only [ev, List.getD_cons_succ, List.getD_cons_zero]; exact rfl))) (by (simp only [setD, List.set_cons_succ, List.set_cons_zero]; exact rfl)) ?_
  refine lw_skip_b rfl rfl rfl (by (simp only [setD, List.set_cons_succ, List.set_cons_zero]; exact rfl)) ?_
  refine lw_skip_b rfl rfl rfl (by (simp only [setD, List.set_cons_succ, List.set_cons_zero]; exact rfl)) ?_
  refine lw_skip_b rfl rfl rfl (by (simp only [setD, List.set_cons_succ, List.set_cons_zero]; exact rfl)) ?_
  refine lw_skip_b rfl rfl rfl (by (simp only [setD, List.set_cons_succ, List.set_cons_zero]; exact rfl)) ?_
  refine lw_pu (wan_none rfl) (pu_pick_t rfl (by (simp only [ev, List.getD_cons_succ, List.getD_cons_zero]; exact rfl))) (by (simp only [setD, List.set_cons_succ, List.set_cons_zero]; exact rfl)) ?_
  refine lw_pu (wan_none rfl) (pu_move (by (simp only [ev, List.getD_cons_succ, List.getD_cons_zero]; exact rfl))) (by (simp only [setD, List.set_cons_succ, List.set_cons_zero]; exact rfl)) ?_
  refine lw_skip_b rfl rfl rfl (by (simp only [setD, List.set_cons_succ, List.set_cons_zero]; exact rfl)) ?_
  refine lw_skip_b rfl rfl rfl (by (simp only [setD, List.set_cons_succ, List.set_cons_zero]; exact rfl)) ?_
  refine lw_skip_b rfl rfl rfl (by (simp only [setD, List.set_cons_succ, List.set_cons_zero]; exact rfl)) ?_
  refine lw_skip_b rfl rfl rfl (by (simp only [setD, List.set_cons_succ, List.set_cons_zero]; exact rfl)) ?_
  refine lw_pu (wan_none rfl) (pu_pick_t rfl (by (simp only [ev, List.getD_cons_succ, List.getD_cons_zero]; exact rfl))) (by (simp only [setD, List.set_cons_succ, List.set_cons_zero]; exact rfl)) ?_
  refine lw_nil ?_; refine hK _ _ ?_; clear hK K
  refine tw_cond_t rfl ?_
  refine tw_seq ?_
  refine tw_region (fun K hK => ?_)
  refine lw_pu (wan_none rfl) (pu_build rfl rfl (by (simp only [put1, List.map_cons, List.map_nil, ev, List.getD_cons_succ, List.getD_cons_zero, List.set_cons_succ, List.set_cons_zero]; exact rfl))) (by (simp only [setD, List.set_cons_succ, List.set_cons_zero]; exact rfl)) ?_
  refine lw_pu (wan_none rfl) (pu_build rfl rfl (by (simp only [put1, List.map_cons, List.map_nil, ev, List.getD_cons_succ, List.getD_cons_zero, List.set_cons_succ, List.set_cons_zero]; exact rfl))) (by (simp only [setD, List.set_cons_succ, List.set_cons_zero]; exact rfl)) ?_
  refine lw_calx (wan_none rfl) (implLess_ret _ _ _ _ _ _ _) hm (by (simp only [setD, List.set_cons_succ, List.set_cons_zero]; exact rfl)) ?_; clear hm; intro h hm
  refine lw_pu (wan_none rfl) (pu_assign (by (simp only [ev, List.getD_cons_succ, List.getD_cons_zero]; exact rfl))) (by (simp only [setD, List.set_cons_succ, List.set_cons_zero]; exact rfl)) ?_
  refine lw_nil ?_; refine hK _ _ ?_; clear hK K
  refine tw_ret1 Try.func3 Try.results3 (by (simp only [ev, List.getD_cons_succ, List.getD_cons_zero]; exact rfl)) ?_
  rotate_left 1
  refine lw_pu (wan_some rfl rfl rfl) (pu_move (by (simp only [ev, List.getD_cons_succ, List.getD_cons_zero]; exact rfl))) (by (simp only [setD, List.set_cons_succ, List.set_cons_zero]; exact rfl)) ?_
  refine lw_pu (wan_some rfl rfl rfl) (pu_indexAddr_arr (n := 1) rfl rfl (by omega)) (by (simp only [setD, List.set_cons_succ, List.set_cons_zero]; exact rfl)) ?_
  refine lw_pu (wan_some rfl rfl rfl) (pu_load rfl (hm.own (j := 3) rfl rfl)) (by (simp only [setD, List.set_cons_succ, List.set_cons_zero]; exact rfl)) ?_
  refine lw_pu (wan_some rfl rfl rfl) (pu_gtr rfl rfl) (by (simp only [setD, List.set_cons_succ, List.set_cons_zero]; exact rfl)) ?_
  refine lw_pu (wan_none rfl) (pu_pick_f rfl (by (simp only [ev, List.getD_cons_succ, List.getD_cons_zero]; exact rfl))) (by (simp only [setD, List.set_cons_succ, List.set_cons_zero]; exact rfl)) ?_
  refine lw_pu (wan_none rfl) (pu_move (by (simp only [ev, List.getD_cons_succ, List.getD_cons_zero]; exact rfl))) (by (simp only [setD, List.set_cons_succ, List.set_cons_zero]; exact rfl)) ?_
  refine lw_split_d rfl rfl rfl (by (simp only [List.set_cons_succ, List.set_cons_zero]; exact rfl)) (by (simp only [List.set_cons_succ, List.set_cons_zero]; exact rfl)) (fun hq => ?_) (fun hq => ?_)
  refine lw_skip_b rfl rfl rfl (by (simp only [setD, List.set_cons_succ, List.set_cons_zero]; exact rfl)) ?_
  refine lw_skip_b rfl rfl rfl (by (simp only [setD, List.set_cons_succ, List.set_cons_zero]; exact rfl)) ?_
  refine lw_skip_b rfl rfl rfl (by (simp only [setD, List.set_cons_succ, List.set_cons_zero]; exact rfl)) ?_
  refine lw_skip_b rfl rfl rfl (by (simp only [setD, List.set_cons_succ, List.set_cons_zero]; exact rfl)) ?_
  refine lw_pu (wan_none rfl) (pu_pick_t rfl (by (simp only [ev, List.getD_cons_succ, List.getD_cons_zero]; exact rfl))) (by (simp only [setD, List.set_cons_succ, List.set_cons_zero]; exact rfl)) ?_
  refine lw_pu (wan_none rfl) (pu_move (by (simp only [ev, List.getD_cons_succ, List.getD_cons_zero]; exact rfl))) (by (simp only [setD, List.set_cons_succ, List.set_cons_zero]; exact rfl)) ?_
  refine lw_skip_b rfl rfl rfl (by (simp only [setD, List.set_cons_succ, List.set_cons_zero]; exact rfl)) ?_
  refine lw_skip_b rfl rfl rfl (by (simp only [setD, List.set_cons_succ, List.set_cons_zero]; exact rfl)) ?_
  refine lw_skip_b rfl rfl rfl (by (simp only [setD, List.set_cons_succ, List.set_cons_zero]; exact rfl)) ?_
  refine lw_skip_b rfl rfl rfl (by (simp only [setD, List.set_cons_succ, List.set_cons_zero]; exact rfl)) ?_
  refine lw_pu (wan_none rfl) (pu_pick_t rfl (by (simp only [ev, List.getD_cons_succ, List.getD_cons_zero]; exact rfl))) (by (simp only [setD, List.set_cons_succ, List.set_cons_zero]; exact rfl)) ?_
  refine lw_nil ?_; refine hK _ _ ?_; clear hK K
  refine tw_cond_t rfl ?_
  refine tw_seq ?_
  refine tw_region (fun K hK => ?_)
  refine lw_pu (wan_none rfl) (pu_build rfl rfl (by (simp only [put1, List.map_cons, List.map_nil, ev, List.getD_cons_succ, List.getD_cons_zero, List.set_cons_succ, List.set_cons_zero]; exact rfl))) (by (simp only [setD, List.set_cons_succ, List.set_cons_zero]; exact rfl)) ?_
  refine lw_pu (wan_none rfl) (pu_build rfl rfl (by (simp only [put1, List.map_cons, List.map_nil, ev, List.getD_cons_succ, List.getD_cons_zero, List.set_cons_succ, List.set_cons_zero]; exact rfl))) (by (simp only [setD, List.set_cons_succ, List.set_cons_zero]; exact rfl)) ?_
  refine lw_calx (wan_none rfl) (implLess_ret _ _ _ _ _ _ _) hm (by (simp only [setD, List.set_cons_succ, List.set_cons_zero]; exact rfl)) ?_; clear hm; intro h hm
  refine lw_pu (wan_none rfl) (pu_assign (by (simp only [ev, List.getD_cons_succ, List.getD_cons_zero]; exact rfl))) (by (simp only [setD, List.set_cons_succ, List.set_cons_zero]; exact rfl)) ?_
  refine lw_nil ?_; refine hK _ _ ?_; clear hK K
  refine tw_ret1 Try.func3 Try.results3 (by (simp only [ev, List.getD_cons_succ, List.getD_cons_zero]; exact rfl)) ?_
  rotate_left 1
  refine lw_pu (wan_some rfl rfl rfl) (pu_move (by (simp only [ev, List.getD_cons_succ, List.getD_cons_zero]; exact rfl))) (by (simp only [setD, List.set_cons_succ, List.set_cons_zero]; exact rfl)) ?_
  refine lw_pu (wan_some rfl rfl rfl) (pu_indexAddr_arr (n := 1) rfl rfl (by omega)) (by (simp only [setD, List.set_cons_succ, List.set_cons_zero]; exact rfl)) ?_
  refine lw_pu (wan_some rfl rfl rfl) (pu_load rfl (hm.own (j := 2) rfl rfl)) (by (simp only [setD, List.set_cons_succ, List.set_cons_zero]; exact rfl)) ?_
  refine lw_pu (wan_some rfl rfl rfl) (pu_gtr rfl rfl) (by (simp only [setD, List.set_cons_succ, List.set_cons_zero]; exact rfl)) ?_
  refine lw_pu (wan_none rfl) (pu_pick_f rfl (by (simp only [ev, List.getD_cons_succ, List.getD_cons_zero]; exact rfl))) (by (simp only [setD, List.set_cons_succ, List.set_cons_zero]; exact rfl)) ?_
  refine lw_pu (wan_none rfl) (pu_move (by (simp only [ev, List.getD_cons_succ, List.getD_cons_zero]; exact rfl))) (by (simp only [setD, List.set_cons_succ, List.set_cons_zero]; exact rfl)) ?_
  refine lw_split_d rfl rfl rfl (by (simp only [List.set_cons_succ, List.set_cons_zero]; exact rfl)) (by (simp only [List.set_cons_succ, List.set_cons_zero]; exact rfl)) (fun hq => ?_) (fun hq => ?_)
  refine lw_skip_b rfl rfl rfl (by (simp only [setD, List.set_cons_succ, List.set_cons_zero]; exact rfl)) ?_
  refine lw_skip_b rfl rfl rfl (by (simp only [setD, List.set_cons_succ, List.set_cons_zero]; exact rfl)) ?_
  refine lw_skip_b rfl rfl rfl (by (simp only [setD, List.set_cons_succ, List.set_cons_zero]; exact rfl)) ?_
  refine lw_skip_b rfl rfl rfl (by (simp only [setD, List.set_cons_succ, List.set_cons_zero]; exact rfl)) ?_
  refine lw_pu (wan_none rfl) (pu_pick_t rfl (by (simp only [ev, List.getD_cons_succ, List.getD_cons_zero]; exact rfl))) (by (simp only [setD, List.set_cons_succ, List.set_cons_zero]; exact rfl)) ?_
  refine lw_nil ?_; refine hK _ _ ?_; clear hK K
  refine tw_cond_t rfl ?_
  refine tw_seq ?_
  refine tw_region (fun K hK => ?_)
  refine lw_pu (wan_none rfl) (pu_build rfl rfl (by (simp only [put1, List.map_cons, List.map_nil, ev, List.getD_cons_succ, List.getD_cons_zero, List.set_cons_succ, List.set_cons_zero]; exact rfl))) (by (simp only [setD, List.set_cons_succ, List.set_cons_zero]; exact rfl)) ?_
  refine lw_pu (wan_none rfl) (pu_build rfl rfl (by (simp only [put1, List.map_cons, List.map_nil, ev, List.getD_cons_succ, List.getD_cons_zero, List.set_cons_succ, List.set_cons_zero]; exact rfl))) (by (simp only [setD, List.set_cons_succ, List.set_cons_zero]; exact rfl)) ?_
  refine lw_calx (wan_none rfl) (implLess_ret _ _ _ _ _ _ _) hm (by (simp only [setD, List.set_cons_succ, List.set_cons_zero]; exact rfl)) ?_; clear hm; intro h hm
  refine lw_pu (wan_none rfl) (pu_assign (by (simp only [ev, List.getD_cons_succ, List.getD_cons_zero]; exact rfl))) (by (simp only [setD, List.set_cons_succ, List.set_cons_zero]; exact rfl)) ?_
  refine lw_nil ?_; refine hK _ _ ?_; clear hK K
  refine tw_ret1 Try.func3 Try.results3 (by (simp only [ev, List.getD_cons_succ, List.getD_cons_zero]; exact rfl)) ?_
  rotate_left 1
  refine lw_pu (wan_some rfl rfl rfl) (pu_move (by (simp only [ev, List.getD_cons_succ, List.getD_cons_zero]; exact rfl))) (by (simp only [setD, List.set_cons_succ, List.set_cons_zero]; exact rfl)) ?_
  refine lw_pu (wan_some rfl rfl rfl) (pu_indexAddr_arr (n := 1) rfl rfl (by omega)) (by (simp only [setD, List.set_cons_succ, List.set_cons_zero]; exact rfl)) ?_
  refine lw_pu (wan_some rfl rfl rfl) (pu_load rfl (hm.own (j := 1) rfl rfl)) (by (simp only [setD, List.set_cons_succ, List.set_cons_zero]; exact rfl)) ?_
  refine lw_pu (wan_some rfl rfl rfl) (pu_gtr rfl rfl) (by (simp only [setD, List.set_cons_succ, List.set_cons_zero]; exact rfl)) ?_
  refine lw_pu (wan_none rfl) (pu_pick_f rfl (by (simp only [ev, List.getD_cons_succ, List.getD_cons_zero]; exact rfl))) (by (simp only [setD, List.set_cons_succ, List.set_cons_zero]; exact rfl)) ?_
  refine lw_nil ?_; refine hK _ _ ?_; clear hK K
  refine tw_cond_ds rfl (by (simp only [List.set_cons_succ, List.set_cons_zero]; exact rfl)) (by (simp only [List.set_cons_succ, List.set_cons_zero]; exact rfl)) (fun hq => ?_) (fun hq => ?_)
  refine tw_seq ?_
  refine tw_region (fun K hK => ?_)
  refine lw_pu (wan_none rfl) (pu_build rfl rfl (by (simp only [put1, List.map_cons, List.map_nil, ev, List.getD_cons_succ, List.getD_cons_zero, List.set_cons_succ, List.set_cons_zero]; exact rfl))) (by (simp only [setD, List.set_cons_succ, List.set_cons_zero]; exact rfl)) ?_
  refine lw_pu (wan_none rfl) (pu_build rfl rfl (by (simp only [put1, List.map_cons, List.map_nil, ev, List.getD_cons_succ, List.getD_cons_zero, List.set_cons_succ, List.set_cons_zero]; exact rfl))) (by (simp only [setD, List.set_cons_succ, List.set_cons_zero]; exact rfl)) ?_
  refine lw_calx (wan_none rfl) (implLess_ret _ _ _ _ _ _ _) hm (by (simp only [setD, List.set_cons_succ, List.set_cons_zero]; exact rfl)) ?_; clear hm; intro h hm
  refine lw_pu (wan_none rfl) (pu_assign (by (simp only [ev, List.getD_cons_succ, List.getD_cons_zero]; exact rfl))) (by (simp only [setD, List.set_cons_succ, List.set_cons_zero]; exact rfl)) ?_
  refine lw_nil ?_; refine hK _ _ ?_; clear hK K
  refine tw_ret1 Try.func3 Try.results3 (by (simp only [ev, List.getD_cons_succ, List.getD_cons_zero]; exact rfl)) ?_
  rotate_left 1
  refine tw_skip ?_
  refine tw_heldM (M := _) (hm.hld rfl (List.Sublist.cons _ (List.Sublist.cons_cons _ (List.Sublist.cons_cons _ (List.Sublist.cons_cons _ List.Sublist.slnil))))) (by kernel_rfl) rfl (fun K hK => ?_)
  refine aw_take 0 rfl (by kernel_rfl) (by kernel_rfl) (by kernel_rfl) (hm.hld rfl (List.Sublist.cons _ (List.Sublist.cons_cons _ (List.Sublist.cons_cons _ (List.Sublist.cons_cons _ List.Sublist.slnil))))) (wan_none rfl) (fun h hm => pu_move (by (simp only [ev, List.getD_cons_succ, List.getD_cons_zero]; exact rfl))) (by (simp only [setD, List.set_cons_succ, List.set_cons_zero]; exact rfl)) ?_
  refine aw_take 1 rfl (by kernel_rfl) (by kernel_rfl) (by kernel_rfl) (hm.hld rfl (List.Sublist.cons _ (List.Sublist.cons_cons _ (List.Sublist.cons_cons _ (List.Sublist.cons_cons _ List.Sublist.slnil))))) (wan_none rfl) (fun h hm => pu_move (by (simp only [ev, List.getD_cons_succ, List.getD_cons_zero]; exact rfl))) (by (simp only [setD, List.set_cons_succ, List.set_cons_zero]; exact rfl)) ?_
  refine aw_take 2 rfl (by kernel_rfl) (by kernel_rfl) (by kernel_rfl) (hm.hld rfl (List.Sublist.cons _ (List.Sublist.cons_cons _ (List.Sublist.cons_cons _ (List.Sublist.cons_cons _ List.Sublist.slnil))))) (wan_none rfl) (fun h hm => pu_indexAddr_arr (n := 1) rfl rfl (by omega)) (by (simp only [setD, List.set_cons_succ, List.set_cons_zero]; exact rfl)) ?_
  refine aw_take 3 rfl (by kernel_rfl) (by kernel_rfl) (by kernel_rfl) (hm.hld rfl (List.Sublist.cons _ (List.Sublist.cons_cons _ (List.Sublist.cons_cons _ (List.Sublist.cons_cons _ List.Sublist.slnil))))) (wan_none rfl) (fun h hm => pu_load rfl (hm.own (j := 2) rfl rfl)) (by (simp only [setD, List.set_cons_succ, List.set_cons_zero]; exact rfl)) ?_
  refine aw_take 4 rfl (by kernel_rfl) (by kernel_rfl) (by kernel_rfl) (hm.hld rfl (List.Sublist.cons _ (List.Sublist.cons_cons _ (List.Sublist.cons_cons _ (List.Sublist.cons_cons _ List.Sublist.slnil))))) (wan_none rfl) (fun h hm => pu_move (by (simp only [ev, List.getD_cons_succ, List.getD_cons_zero]; exact rfl))) (by (simp only [setD, List.set_cons_succ, List.set_cons_zero]; exact rfl)) ?_
  refine aw_take 5 rfl (by kernel_rfl) (by kernel_rfl) (by kernel_rfl) (hm.hld rfl (List.Sublist.cons _ (List.Sublist.cons_cons _ (List.Sublist.cons_cons _ (List.Sublist.cons_cons _ List.Sublist.slnil))))) (wan_none rfl) (fun h hm => pu_indexAddr_arr (n := 1) rfl rfl (by omega)) (by (simp only [setD, List.set_cons_succ, List.set_cons_zero]; exact rfl)) ?_
  refine aw_take 6 rfl (by kernel_rfl) (by kernel_rfl) (by kernel_rfl) (hm.hld rfl (List.Sublist.cons _ (List.Sublist.cons_cons _ (List.Sublist.cons_cons _ (List.Sublist.cons_cons _ List.Sublist.slnil))))) (wan_none rfl) (fun h hm => pu_load rfl (hm.own (j := 0) rfl rfl)) (by (simp only [setD, List.set_cons_succ, List.set_cons_zero]; exact rfl)) ?_
  first | refine aw_take 7 rfl (by kernel_rfl) (by kernel_rfl) (by kernel_rfl) (hm.hld rfl (List.Sublist.cons _ (List.Sublist.cons_cons _ (List.Sublist.cons_cons _ (List.Sublist.cons_cons _ List.Sublist.slnil))))) (wan_none rfl) (fun h hm => pu_addn rfl rfl (by omega)) (by (simp only [setD, List.set_cons_succ, List.set_cons_zero]; exact rfl)) ?_ | refine aw_take 7 rfl (by kernel_rfl) (by kernel_rfl) (by kernel_rfl) (hm.hld rfl (List.Sublist.cons _ (List.Sublist.cons_cons _ (List.Sublist.cons_cons _ (List.Sublist.cons_cons _ List.Sublist.slnil))))) (wan_none rfl) (fun h hm => pu_addi rfl rfl (by omega) (by omega)) (by (simp only [setD, List.set_cons_succ, List.set_cons_zero]; exact rfl)) ?_ | refine aw_take 7 rfl (by kernel_rfl) (by kernel_rfl) (by kernel_rfl) (hm.hld rfl (List.Sublist.cons _ (List.Sublist.cons_cons _ (List.Sublist.cons_cons _ (List.Sublist.cons_cons _ List.Sublist.slnil))))) (wan_none rfl) (fun h hm => pu_add rfl rfl) (by (simp only [setD, List.set_cons_succ, List.set_cons_zero]; exact rfl)) ?_
  refine aw_take 8 rfl (by kernel_rfl) (by kernel_rfl) (by kernel_rfl) (hm.hld rfl (List.Sublist.cons _ (List.Sublist.cons_cons _ (List.Sublist.cons_cons _ (List.Sublist.cons_cons _ List.Sublist.slnil))))) (wan_none rfl) (fun h hm => pu_indexAddr_arr (n := 1) rfl rfl (by omega)) (by (simp only [setD, List.set_cons_succ, List.set_cons_zero]; exact rfl)) ?_
  refine aw_step 9 rfl (by kernel_rfl) ?_
  refine lw_store_own (j := 0) (wan_none rfl) rfl (by (simp only [ev, List.getD_cons_succ, List.getD_cons_zero]; exact rfl)) rfl hm rfl (by simp) (by (simp only [List.set_cons_succ, List.set_cons_zero]; exact rfl)) (by (simp only [setD, List.set_cons_succ, List.set_cons_zero]; exact rfl)) ?_; clear hm; intro h hm
  refine lw_nil ⟨hm.hld rfl (List.Sublist.cons _ (List.Sublist.cons_cons _ (List.Sublist.cons_cons _ (List.Sublist.cons_cons _ List.Sublist.slnil)))), ?_⟩
  refine aw_done (by kernel_rfl) ?_; refine hK _ _ ?_; clear hK K
  refine tw_inBlock ?_
  refine tw_region (fun K hK => ?_)
  refine lw_pu (wan_none rfl) (pu_move (by (simp only [ev, List.getD_cons_succ, List.getD_cons_zero]; exact rfl))) (by (simp only [setD, List.set_cons_succ, List.set_cons_zero]; exact rfl)) ?_
  refine lw_pu (wan_none rfl) (pu_addn (m := 1) (n := 1) rfl rfl (by omega)) (by (simp only [setD, List.set_cons_succ, List.set_cons_zero]; exact rfl)) ?_
  refine lw_pu (wan_none rfl) (pu_assign (by (simp only [ev, List.getD_cons_succ, List.getD_cons_zero]; exact rfl))) (by (simp only [setD, List.set_cons_succ, List.set_cons_zero]; exact rfl)) ?_
  refine lw_nil ?_; refine hK _ _ ?_; clear hK K
  refine tw_inLoop ?_
  refine tw_seq ?_
  refine tw_seq ?_
  refine tw_region (fun K hK => ?_)
  refine lw_pu (wan_none rfl) (pu_move (by (simp only [ev, List.getD_cons_succ, List.getD_cons_zero]; exact rfl))) (by (simp only [setD, List.set_cons_succ, List.set_cons_zero]; exact rfl)) ?_
  refine lw_pu (wan_none rfl) (pu_true (pu_lss rfl rfl) (by omega)) (by (simp only [setD, List.set_cons_succ, List.set_cons_zero]; exact rfl)) ?_
  refine lw_nil ?_; refine hK _ _ ?_; clear hK K
  refine tw_cond_t rfl ?_
  refine tw_skip ?_
  refine tw_seq ?_
  refine tw_block ?_
  refine tw_seq ?_
  refine tw_seq ?_
  refine tw_region (fun K hK => ?_)
  refine lw_pu (wan_none rfl) (pu_move (by (simp only [ev, List.getD_cons_succ, List.getD_cons_zero]; exact rfl))) (by (simp only [setD, List.set_cons_succ, List.set_cons_zero]; exact rfl)) ?_
  refine lw_pu (wan_none rfl) (pu_indexAddr_arr (n := 2) rfl rfl (by omega)) (by (simp only [setD, List.set_cons_succ, List.set_cons_zero]; exact rfl)) ?_
  refine lw_pu (wan_none rfl) (pu_load rfl (hm.own (j := 3) rfl rfl)) (by (simp only [setD, List.set_cons_succ, List.set_cons_zero]; exact rfl)) ?_
  refine lw_pu (wan_none rfl) (pu_lss rfl rfl) (by (simp only [setD, List.set_cons_succ, List.set_cons_zero]; exact rfl)) ?_
  refine lw_pu (wan_none rfl) (pu_move (by (simp only [ev, List.getD_cons_succ, List.getD_cons_zero]; exact rfl))) (by (simp only [setD, List.set_cons_succ, List.set_cons_zero]; exact rfl)) ?_
  refine lw_split_d rfl rfl rfl (by (simp only [List.set_cons_succ, List.set_cons_zero]; exact rfl)) (by (simp only [List.set_cons_succ, List.set_cons_zero]; exact rfl)) (fun hq => ?_) (fun hq => ?_)
  refine lw_skip_b rfl rfl rfl (by (simp only [setD, List.set_cons_succ, List.set_cons_zero]; exact rfl)) ?_
  refine lw_skip_b rfl rfl rfl (by (simp only [setD, List.set_cons_succ, List.set_cons_zero]; exact rfl)) ?_
  refine lw_skip_b rfl rfl rfl (by (simp only [setD, List.set_cons_succ, List.set_cons_zero]; exact rfl)) ?_
  refine lw_skip_b rfl rfl rfl (by (simp only [setD, List.set_cons_succ, List.set_cons_zero]; exact rfl)) ?_
  refine lw_pu (wan_none rfl) (pu_pick_t rfl (by (simp only [ev, List.getD_cons_succ, List.getD_cons_zero]; exact rfl))) (by (simp only [setD, List.set_cons_succ, List.set_cons_zero]; exact rfl)) ?_
  refine lw_pu (wan_none rfl) (pu_move (by (simp only [ev, List.getD_cons_succ, List.getD_cons_zero]; exact rfl))) (by (simp only [setD, List.set_cons_succ, List.set_cons_zero]; exact rfl)) ?_
  refine lw_skip_b rfl rfl rfl (by (simp only [setD, List.set_cons_succ, List.set_cons_zero]; exact rfl)) ?_
  refine lw_skip_b rfl rfl rfl (by (simp only [setD, List.set_cons_succ, List.set_cons_zero]; exact rfl)) ?_
  refine lw_skip_b rfl rfl rfl (by (simp only [setD, List.set_cons_succ, List.set_cons_zero]; exact rfl)) ?_
  refine lw_skip_b rfl rfl rfl (by (simp only [setD, List.set_cons_succ, List.set_cons_zero]; exact rfl)) ?_
  refine lw_pu (wan_none rfl) (pu_pick_t rfl (by (simp only [ev, List.getD_cons_succ, List.getD_cons_zero]; exact rfl))) (by (simp only [setD, List.set_cons_succ, List.set_cons_zero]; exact rfl)) ?_
  refine lw_pu (wan_none rfl) (pu_move (by (simp only [ev, List.getD_cons_succ, List.getD_cons_zero]; exact rfl))) (by (simp only [setD, List.set_cons_succ, List.set_cons_zero]; exact rfl)) ?_
  refine lw_skip_b rfl rfl rfl (by (simp only [setD, List.set_cons_succ, List.set_cons_zero]; exact rfl)) ?_
  refine lw_skip_b rfl rfl rfl (by (simp only [setD, List.set_cons_succ, List.set_cons_zero]; exact rfl)) ?_
  refine lw_skip_b rfl rfl rfl (by (simp only [setD, List.set_cons_succ, List.set_cons_zero]; exact rfl)) ?_
  refine lw_skip_b rfl rfl rfl (by (simp only [setD, List.set_cons_succ, List.set_cons_zero]; exact rfl)) ?_
  refine lw_pu (wan_none rfl) (pu_pick_t rfl (by (simp only [ev, List.getD_cons_succ, List.getD_cons_zero]; exact rfl))) (by (simp only [setD, List.set_cons_succ, List.set_cons_zero]; exact rfl)) ?_
  refine lw_pu (wan_none rfl) (pu_move (by (simp only [ev, List.getD_cons_succ, List.getD_cons_zero]; exact rfl))) (by (simp only [setD, List.set_cons_succ, List.set_cons_zero]; exact rfl)) ?_
  refine lw_skip_b rfl rfl rfl (by (simp only [setD, List.set_cons_succ, List.set_cons_zero]; exact rfl)) ?_
  refine lw_skip_b rfl rfl rfl (by (simp only [setD, List.set_cons_succ, List.set_cons_zero]; exact rfl)) ?_
  refine lw_skip_b rfl rfl rfl (by (simp only [setD, List.set_cons_succ, List.set_cons_zero]; exact rfl)) ?_
  refine lw_skip_b rfl rfl rfl (by (simp only [setD, List.set_cons_succ, List.set_cons_zero]; exact rfl)) ?_
  refine lw_pu (wan_none rfl) (pu_pick_t rfl (by (simp only [ev, List.getD_cons_succ, List.getD_cons_zero]; exact rfl))) (by (simp only [setD, List.set_cons_succ, List.set_cons_zero]; exact rfl)) ?_
  refine lw_pu (wan_none rfl) (pu_move (by (simp only [ev, List.getD_cons_succ, List.getD_cons_zero]; exact rfl))) (by (simp only [setD, List.set_cons_succ, List.set_cons_zero]; exact rfl)) ?_
  refine lw_skip_b rfl rfl rfl (by (simp only [setD, List.set_cons_succ, List.set_cons_zero]; exact rfl)) ?_
  refine lw_skip_b rfl rfl rfl (by (simp only [setD, List.set_cons_succ, List.set_cons_zero]; exact rfl)) ?_
  refine lw_skip_b rfl rfl rfl (by (simp only [setD, List.set_cons_succ, List.set_cons_zero]; exact rfl)) ?_
  refine lw_skip_b rfl rfl rfl (by (simp only [setD, List.set_cons_succ, List.set_cons_zero]; exact rfl)) ?_
  refine lw_pu (wan_none rfl) (pu_pick_t rfl (by (simp only [ev, List.getD_cons_succ, List.getD_cons_zero]; exact rfl))) (by (simp only [setD, List.set_cons_succ, List.set_cons_zero]; exact rfl)) ?_
  refine lw_nil ?_; refine hK _ _ ?_; clear hK K
  refine tw_cond_t rfl ?_
  refine tw_seq ?_
  refine tw_region (fun K hK => ?_)
  refine lw_pu (wan_none rfl) (pu_build rfl rfl (by (simp only [put1, List.map_cons, List.map_nil, ev, List.getD_cons_succ, List.getD_cons_zero, List.set_cons_succ, List.set_cons_zero]; exact rfl))) (by (simp only [setD, List.set_cons_succ, List.set_cons_zero]; exact rfl)) ?_
  refine lw_pu (wan_none rfl) (pu_build rfl rfl (by (simp only [put1, List.map_cons, List.map_nil, ev, List.getD_cons_succ, List.getD_cons_zero, List.set_cons_succ, List.set_cons_zero]; exact rfl))) (by (simp only [setD, List.set_cons_succ, List.set_cons_zero]; exact rfl)) ?_
  refine lw_calx (wan_none rfl) (implLess_ret _ _ _ _ _ _ _) hm (by (simp only [setD, List.set_cons_succ, List.set_cons_zero]; exact rfl)) ?_; clear hm; intro h hm
  refine lw_pu (wan_none rfl) (pu_assign (by (simp only [ev, List.getD_cons_succ, List.getD_cons_zero]; exact rfl))) (by (simp only [setD, List.set_cons_succ, List.set_cons_zero]; exact rfl)) ?_
  refine lw_nil ?_; refine hK _ _ ?_; clear hK K
  refine tw_ret1 Try.func3 Try.results3 (by (simp only [ev, List.getD_cons_succ, List.getD_cons_zero]; exact rfl)) ?_
  rotate_left 1
  refine lw_pu (wan_some rfl rfl rfl) (pu_move (by (simp only [ev, List.getD_cons_succ, List.getD_cons_zero]; exact rfl))) (by (simp only [setD, List.set_cons_succ, List.set_cons_zero]; exact rfl)) ?_
  refine lw_pu (wan_some rfl rfl rfl) (pu_indexAddr_arr (n := 2) rfl rfl (by omega)) (by (simp only [setD, List.set_cons_succ, List.set_cons_zero]; exact rfl)) ?_
  refine lw_pu (wan_some rfl rfl rfl) (pu_load rfl (hm.own (j := 2) rfl rfl)) (by (simp only [setD, List.set_cons_succ, List.set_cons_zero]; exact rfl)) ?_
  refine lw_pu (wan_some rfl rfl rfl) (pu_lss rfl rfl) (by (simp only [setD, List.set_cons_succ, List.set_cons_zero]; exact rfl)) ?_
  refine lw_pu (wan_none rfl) (pu_pick_f rfl (by (simp only [ev, List.getD_cons_succ, List.getD_cons_zero]; exact rfl))) (by (simp only [setD, List.set_cons_succ, List.set_cons_zero]; exact rfl)) ?_
  refine lw_pu (wan_none rfl) (pu_move (by (simp only [ev, List.getD_cons_succ, List.getD_cons_zero]; exact rfl))) (by (simp only [setD, List.set_cons_succ, List.set_cons_zero]; exact rfl)) ?_
  refine lw_split_d rfl rfl rfl (by (simp only [List.set_cons_succ, List.set_cons_zero]; exact rfl)) (by (simp only [List.set_cons_succ, List.set_cons_zero]; exact rfl)) (fun hq => ?_) (fun hq => ?_)
  refine lw_skip_b rfl rfl rfl (by (simp only [setD, List.set_cons_succ, List.set_cons_zero]; exact rfl)) ?_
  refine lw_skip_b rfl rfl rfl (by (simp only [setD, List.set_cons_succ, List.set_cons_zero]; exact rfl)) ?_
  refine lw_skip_b rfl rfl rfl (by (simp only [setD, List.set_cons_succ, List.set_cons_zero]; exact rfl)) ?_
  refine lw_skip_b rfl rfl rfl (by (simp only [setD, List.set_cons_succ, List.set_cons_zero]; exact rfl)) ?_
  refine lw_pu (wan_none rfl) (pu_pick_t rfl (by (simp only [ev, List.getD_cons_succ, List.getD_cons_zero]; exact rfl))) (by (simp only [setD, List.set_cons_succ, List.set_cons_zero]; exact rfl)) ?_
  refine lw_pu (wan_none rfl) (pu_move (by (simp only [ev, List.getD_cons_succ, List.getD_cons_zero]; exact rfl))) (by (simp only [setD, List.set_cons_succ, List.set_cons_zero]; exact rfl)) ?_
  refine lw_skip_b rfl rfl rfl (by (simp only [setD, List.set_cons_succ, List.set_cons_zero]; exact rfl)) ?_
  refine lw_skip_b rfl rfl rfl (by (simp only [setD, List.set_cons_succ, List.set_cons_zero]; exact rfl)) ?_
  refine lw_skip_b rfl rfl rfl (by (simp only [setD, List.set_cons_succ, List.set_cons_zero]; exact rfl)) ?_
  refine lw_skip_b rfl rfl rfl (by (simp only [setD, List.set_cons_succ, List.set_cons_zero]; exact rfl)) ?_
  refine lw_pu (wan_none rfl) (pu_pick_t rfl (by (simp only [ev, List.getD_cons_succ, List.getD_cons_zero]; exact rfl))) (by (simp only [setD, List.set_cons_succ, List.set_cons_zero]; exact rfl)) ?_
  refine lw_pu (wan_none rfl) (pu_move (by (simp only [ev, List.getD_cons_succ, List.getD_cons_zero]; exact rfl))) (by (simp only [setD, List.set_cons_succ, List.set_cons_zero]; exact rfl)) ?_
  refine lw_skip_b rfl rfl rfl (by (simp only [setD, List.set_cons_succ, List.set_cons_zero]; exact rfl)) ?_
  refine lw_skip_b rfl rfl rfl (by (simp only [setD, List.set_cons_succ, List.set_cons_zero]; exact rfl)) ?_
  refine lw_skip_b rfl rfl rfl (by (simp only [setD, List.set_cons_succ, List.set_cons_zero]; exact rfl)) ?_
  refine lw_skip_b rfl rfl rfl (by (simp only [setD, List.set_cons_succ, List.set_cons_zero]; exact rfl)) ?_
  refine lw_pu (wan_none rfl) (pu_pick_t rfl (by (simp only [ev, List.getD_cons_succ, List.getD_cons_zero]; exact rfl))) (by (simp only [setD, List.set_cons_succ, List.set_cons_zero]; exact rfl)) ?_
  refine lw_pu (wan_none rfl) (pu_move (by (simp only [ev, List.getD_cons_succ, List.getD_cons_zero]; exact rfl))) (by (simp only [setD, List.set_cons_succ, List.set_cons_zero]; exact rfl)) ?_
  refine lw_skip_b rfl rfl rfl (by (simp only [setD, List.set_cons_succ, List.set_cons_zero]; exact rfl)) ?_
  refine lw_skip_b rfl rfl rfl (by (simp only [setD, List.set_cons_succ, List.set_cons_zero]; exact rfl)) ?_
  refine lw_skip_b rfl rfl rfl (by (simp only [setD, List.set_cons_succ, List.set_cons_zero]; exact rfl)) ?_
  refine lw_skip_b rfl rfl rfl (by (simp only [setD, List.set_cons_succ, List.set_cons_zero]; exact rfl)) ?_
  refine lw_pu (wan_none rfl) (pu_pick_t rfl (by (simp only [ev, List.getD_cons_succ, List.getD_cons_zero]; exact rfl))) (by (simp only [setD, List.set_cons_succ, List.set_cons_zero]; exact rfl)) ?_
  refine lw_nil ?_; refine hK _ _ ?_; clear hK K
  refine tw_cond_t rfl ?_
  refine tw_seq ?_
  refine tw_region (fun K hK => ?_)
  refine lw_pu (wan_none rfl) (pu_build rfl rfl (by (simp only [put1, List.map_cons, List.map_nil, ev, List.getD_cons_succ, List.getD_cons_zero, List.set_cons_succ, List.set_cons_zero]; exact rfl))) (by (simp only [setD, List.set_cons_succ, List.set_cons_zero]; exact rfl)) ?_
  refine lw_pu (wan_none rfl) (pu_build rfl rfl (by (simp only [put1, List.map_cons, List.map_nil, ev, List.getD_cons_succ, List.getD_cons_zero, List.set_cons_succ, List.set_cons_zero]; exact rfl))) (by (simp only [setD, List.set_cons_succ, List.set_cons_zero]; exact rfl)) ?_
  refine lw_calx (wan_none rfl) (implLess_ret _ _ _ _ _ _ _) hm (by (simp only [setD, List.set_cons_succ, List.set_cons_zero]; exact rfl)) ?_; clear hm; intro h hm
  refine lw_pu (wan_none rfl) (pu_assign (by (simp only [ev, List.getD_cons_succ, List.getD_cons_zero]; exact rfl))) (by (simp only [setD, List.set_cons_succ, List.set_cons_zero]; exact rfl)) ?_
  refine lw_nil ?_; refine hK _ _ ?_; clear hK K
  refine tw_ret1 Try.func3 Try.results3 (by (simp only [ev, List.getD_cons_succ, List.getD_cons_zero]; exact rfl)) ?_
  rotate_left 1
  refine lw_pu (wan_some rfl rfl rfl) (pu_move (by (simp only [ev, List.getD_cons_succ, List.getD_cons_zero]; exact rfl))) (by (simp only [setD, List.set_cons_succ, List.set_cons_zero]; exact rfl)) ?_
  refine lw_pu (wan_some rfl rfl rfl) (pu_indexAddr_arr (n := 2) rfl rfl (by omega)) (by (simp only [setD, List.set_cons_succ, List.set_cons_zero]; exact rfl)) ?_
  refine lw_pu (wan_some rfl rfl rfl) (pu_load rfl (hm.own (j := 1) rfl rfl)) (by (simp only [setD, List.set_cons_succ, List.set_cons_zero]; exact rfl)) ?_
  refine lw_pu (wan_some rfl rfl rfl) (pu_lss rfl rfl) (by (simp only [setD, List.set_cons_succ, List.set_cons_zero]; exact rfl)) ?_
  refine lw_pu (wan_none rfl) (pu_pick_f rfl (by (simp only [ev, List.getD_cons_succ, List.getD_cons_zero]; exact rfl))) (by (simp only [setD, List.set_cons_succ, List.set_cons_zero]; exact rfl)) ?_
  refine lw_pu (wan_none rfl) (pu_move (by (simp only [ev, List.getD_cons_succ, List.getD_cons_zero]; exact rfl))) (by (simp only [setD, List.set_cons_succ, List.set_cons_zero]; exact rfl)) ?_
  refine lw_split_d rfl rfl rfl (by (simp only [List.set_cons_succ, List.set_cons_zero]; exact rfl)) (by (simp only [List.set_cons_succ, List.set_cons_zero]; exact rfl)) (fun hq => ?_) (fun hq => ?_)
  refine lw_skip_b rfl rfl rfl (by (simp only [setD, List.set_cons_succ, List.set_cons_zero]; exact rfl)) ?_
  refine lw_skip_b rfl rfl rfl (by (simp only [setD, List.set_cons_succ, List.set_cons_zero]; exact rfl)) ?_
  refine lw_skip_b rfl rfl rfl (by (simp only [setD, List.set_cons_succ, List.set_cons_zero]; exact rfl)) ?_
  refine lw_skip_b rfl rfl rfl (by (simp only [setD, List.set_cons_succ, List.set_cons_zero]; exact rfl)) ?_
  refine lw_pu (wan_none rfl) (pu_pick_t rfl (by (simp only [ev, List.getD_cons_succ, List.getD_cons_zero]; exact rfl))) (by (simp only [setD, List.set_cons_succ, List.set_cons_zero]; exact rfl)) ?_
  refine lw_pu (wan_none rfl) (pu_move (by (simp only [ev, List.getD_cons_succ, List.getD_cons_zero]; exact rfl))) (by (simp only [setD, List.set_cons_succ, List.set_cons_zero]; exact rfl)) ?_
  refine lw_skip_b rfl rfl rfl (by (simp only [setD, List.set_cons_succ, List.set_cons_zero]; exact rfl)) ?_
  refine lw_skip_b rfl rfl rfl (by (simp only [setD, List.set_cons_succ, List.set_cons_zero]; exact rfl)) ?_
  refine lw_skip_b rfl rfl rfl (by (simp only [setD, List.set_cons_succ, List.set_cons_zero]; exact rfl)) ?_
  refine lw_skip_b rfl rfl rfl (by (simp only [setD, List.set_cons_succ, List.set_cons_zero]; exact rfl)) ?_
  refine lw_pu (wan_none rfl) (pu_pick_t rfl (by (simp only [ev, List.getD_cons_succ, List.getD_cons_zero]; exact rfl))) (by (simp only [setD, List.set_cons_succ, List.set_cons_zero]; exact rfl)) ?_
  refine lw_pu (wan_none rfl) (pu_move (by (simp only [ev, List.getD_cons_succ, List.getD_cons_zero]; exact rfl))) (by (simp only [setD, List.set_cons_succ, List.set_cons_zero]; exact rfl)) ?_
  refine lw_skip_b rfl rfl rfl (by (simp only [setD, List.set_cons_succ, List.set_cons_zero]; exact rfl)) ?_
  refine lw_skip_b rfl rfl rfl (by (simp only [setD, List.set_cons_succ, List.set_cons_zero]; exact rfl)) ?_
  refine lw_skip_b rfl rfl rfl (by (simp only [setD, List.set_cons_succ, List.set_cons_zero]; exact rfl)) ?_
  refine lw_skip_b rfl rfl rfl (by (simp only [setD, List.set_cons_succ, List.set_cons_zero]; exact rfl)) ?_
  refine lw_pu (wan_none rfl) (pu_pick_t rfl (by (simp only [ev, List.getD_cons_succ, List.getD_cons_zero]; exact rfl))) (by (simp only [setD, List.set_cons_succ, List.set_cons_zero]; exact rfl)) ?_
  refine lw_nil ?_; refine hK _ _ ?_; clear hK K
  refine tw_cond_t rfl ?_
  refine tw_seq ?_
  refine tw_region (fun K hK => ?_)
  refine lw_pu (wan_none rfl) (pu_build rfl rfl (by (simp only [put1, List.map_cons, List.map_nil, ev, List.getD_cons_succ, List.getD_cons_zero, List.set_cons_succ, List.set_cons_zero]; exact rfl))) (by (simp only [setD, List.set_cons_succ, List.set_cons_zero]; exact rfl)) ?_
  refine lw_pu (wan_none rfl) (pu_build rfl rfl (by (simp only [put1, List.map_cons, List.map_nil, ev, List.getD_cons_succ, List.getD_cons_zero, List.set_cons_succ, List.set_cons_zero]; exact rfl))) (by (simp only [setD, List.set_cons_succ, List.set_cons_zero]; exact rfl)) ?_
  refine lw_calx (wan_none rfl) (implLess_ret _ _ _ _ _ _ _) hm (by (simp only [setD, List.set_cons_succ, List.set_cons_zero]; exact rfl)) ?_; clear hm; intro h hm
  refine lw_pu (wan_none rfl) (pu_assign (by (simp only [ev, List.getD_cons_succ, List.getD_cons_zero]; exact rfl))) (by (simp only [setD, List.set_cons_succ, List.set_cons_zero]; exact rfl)) ?_
  refine lw_nil ?_; refine hK _ _ ?_; clear hK K
  refine tw_ret1 Try.func3 Try.results3 (by (simp only [ev, List.getD_cons_succ, List.getD_cons_zero]; exact rfl)) ?_
  rotate_left 1
  refine lw_pu (wan_some rfl rfl rfl) (pu_move (by (simp only [ev, List.getD_cons_succ, List.getD_cons_zero]; exact rfl))) (by (simp only [setD, List.set_cons_succ, List.set_cons_zero]; exact rfl)) ?_
  refine lw_pu (wan_some rfl rfl rfl) (pu_indexAddr_arr (n := 2) rfl rfl (by omega)) (by (simp only [setD, List.set_cons_succ, List.set_cons_zero]; exact rfl)) ?_
  refine lw_pu (wan_some rfl rfl rfl) (pu_load rfl (hm.own (j := 3) rfl rfl)) (by (simp only [setD, List.set_cons_succ, List.set_cons_zero]; exact rfl)) ?_
  refine lw_pu (wan_some rfl rfl rfl) (pu_gtr rfl rfl) (by (simp only [setD, List.set_cons_succ, List.set_cons_zero]; exact rfl)) ?_
  refine lw_pu (wan_none rfl) (pu_pick_f rfl (by (simp only [ev, List.getD_cons_succ, List.getD_cons_zero]; exact rfl))) (by (simp only [setD, List.set_cons_succ, List.set_cons_zero]; exact rfl)) ?_
  refine lw_pu (wan_none rfl) (pu_move (by (simp only [ev, List.getD_cons_succ, List.getD_cons_zero]; exact rfl))) (by (simp only [setD, List.set_cons_succ, List.set_cons_zero]; exact rfl)) ?_
  refine lw_split_d rfl rfl rfl (by (simp only [List.set_cons_succ, List.set_cons_zero]; exact rfl)) (by (simp only [List.set_cons_succ, List.set_cons_zero]; exact rfl)) (fun hq => ?_) (fun hq => ?_)
  refine lw_skip_b rfl rfl rfl (by (simp only [setD, List.set_cons_succ, List.set_cons_zero]; exact rfl)) ?_
  refine lw_skip_b rfl rfl rfl (by (simp only [setD, List.set_cons_succ, List.set_cons_zero]; exact rfl)) ?_
  refine lw_skip_b rfl rfl rfl (by (simp only [setD, List.set_cons_succ, List.set_cons_zero]; exact rfl)) ?_
  refine lw_skip_b rfl rfl rfl (by (simp only [setD, List.set_cons_succ, List.set_cons_zero]; exact rfl)) ?_
  refine lw_pu (wan_none rfl) (pu_pick_t rfl (by (simp only [ev, List.getD_cons_succ, List.getD_cons_zero]; exact rfl))) (by (simp only [setD, List.set_cons_succ, List.set_cons_zero]; exact rfl)) ?_
  refine lw_pu (wan_none rfl) (pu_move (by (simp only [ev, List.getD_cons_succ, List.getD_cons_zero]; exact rfl))) (by (simp only [setD, List.set_cons_succ, List.set_cons_zero]; exact rfl)) ?_
  refine lw_skip_b rfl rfl rfl (by (simp only [setD, List.set_cons_succ, List.set_cons_zero]; exact rfl)) ?_
  refine lw_skip_b rfl rfl rfl (by (simp only [setD, List.set_cons_succ, List.set_cons_zero]; exact rfl)) ?_
  refine lw_skip_b rfl rfl rfl (by (simp only [setD, List.set_cons_succ, List.set_cons_zero]; exact rfl)) ?_
  refine lw_skip_b rfl rfl rfl (by (simp only [setD, List.set_cons_succ, List.set_cons_zero]; exact rfl)) ?_
  refine lw_pu (wan_none rfl) (pu_pick_t rfl (by (simp only [ev, List.getD_cons_succ, List.getD_cons_zero]; exact rfl))) (by (simp only [setD, List.set_cons_succ, List.set_cons_zero]; exact rfl)) ?_
  refine lw_nil ?_; refine hK _ _ ?_; clear hK K
  refine tw_cond_t rfl ?_
  refine tw_seq ?_
  refine tw_region (fun K hK => ?_)
  refine lw_pu (wan_none rfl) (pu_build rfl rfl (by (simp only [put1, List.map_cons, List.map_nil, ev, List.getD_cons_succ, List.getD_cons_zero, List.set_cons_succ, List.set_cons_zero]; exact rfl))) (by (simp only [setD, List.set_cons_succ, List.set_cons_zero]; exact rfl)) ?_
  refine lw_pu (wan_none rfl) (pu_build rfl rfl (by (simp only [put1, List.map_cons, List.map_nil, ev, List.getD_cons_succ, List.getD_cons_zero, List.set_cons_succ, List.set_cons_zero]; exact rfl))) (by (simp only [setD, List.set_cons_succ, List.set_cons_zero]; exact rfl)) ?_
  refine lw_calx (wan_none rfl) (implLess_ret _ _ _ _ _ _ _) hm (by (simp only [setD, List.set_cons_succ, List.set_cons_zero]; exact rfl)) ?_; clear hm; intro h hm
  refine lw_pu (wan_none rfl) (pu_assign (by (simp only [ev, List.getD_cons_succ, List.getD_cons_zero]; exact rfl))) (by (simp only [setD, List.set_cons_succ, List.set_cons_zero]; exact rfl)) ?_
  refine lw_nil ?_; refine hK _ _ ?_; clear hK K
  refine tw_ret1 Try.func3 Try.results3 (by (simp only [ev, List.getD_cons_succ, List.getD_cons_zero]; exact rfl)) ?_
  rotate_left 1
  refine lw_pu (wan_some rfl rfl rfl) (pu_move (by (simp only [ev, List.getD_cons_succ, List.getD_cons_zero]; exact rfl))) (by (simp only [setD, List.set_cons_succ, List.set_cons_zero]; exact rfl)) ?_
  refine lw_pu (wan_some rfl rfl rfl) (pu_indexAddr_arr (n := 2) rfl rfl (by omega)) (by (simp only [setD, List.set_cons_succ, List.set_cons_zero]; exact rfl)) ?_
  refine lw_pu (wan_some rfl rfl rfl) (pu_load rfl (hm.own (j := 2) rfl rfl)) (by (simp only [setD, List.set_cons_succ, List.set_cons_zero]; exact rfl)) ?_
  refine lw_pu (wan_some rfl rfl rfl) (pu_gtr rfl rfl) (by (simp only [setD, List.set_cons_succ, List.set_cons_zero]; exact rfl)) ?_
  refine lw_pu (wan_none rfl) (pu_pick_f rfl (by (simp only [ev, List.getD_cons_succ, List.getD_cons_zero]; exact rfl))) (by (simp only [setD, List.set_cons_succ, List.set_cons_zero]; exact rfl)) ?_
  refine lw_pu (wan_none rfl) (pu_move (by (simp only [ev, List.getD_cons_succ, List.getD_cons_zero]; exact rfl))) (by (simp only [setD, List.set_cons_succ, List.set_cons_zero]; exact rfl)) ?_
  refine lw_split_d rfl rfl rfl (by (simp only [List.set_cons_succ, List.set_cons_zero]; exact rfl)) (by (simp only [List.set_cons_succ, List.set_cons_zero]; exact rfl)) (fun hq => ?_) (fun hq => ?_)
  refine lw_skip_b rfl rfl rfl (by (simp only [setD, List.set_cons_succ, List.set_cons_zero]; exact rfl)) ?_
  refine lw_skip_b rfl rfl rfl (by (simp only [setD, List.set_cons_succ, List.set_cons_zero]; exact rfl)) ?_
  refine lw_skip_b rfl rfl rfl (by (simp only [setD, List.set_cons_succ, List.set_cons_zero]; exact rfl)) ?_
  refine lw_skip_b rfl rfl rfl (by (simp only [setD, List.set_cons_succ, List.set_cons_zero]; exact rfl)) ?_
  refine lw_pu (wan_none rfl) (pu_pick_t rfl (by (simp only [ev, List.getD_cons_succ, List.getD_cons_zero]; exact rfl))) (by (simp only [setD, List.set_cons_succ, List.set_cons_zero]; exact rfl)) ?_
  refine lw_nil ?_; refine hK _ _ ?_; clear hK K
  refine tw_cond_t rfl ?_
  refine tw_seq ?_
  refine tw_region (fun K hK => ?_)
  refine lw_pu (wan_none rfl) (pu_build rfl rfl (by (simp only [put1, List.map_cons, List.map_nil, ev, List.getD_cons_succ, List.getD_cons_zero, List.set_cons_succ, List.set_cons_zero]; exact rfl))) (by (simp only [setD, List.set_cons_succ, List.set_cons_zero]; exact rfl)) ?_
  refine lw_pu (wan_none rfl) (pu_build rfl rfl (by (simp only [put1, List.map_cons, List.map_nil, ev, List.getD_cons_succ, List.getD_cons_zero, List.set_cons_succ, List.set_cons_zero]; exact rfl))) (by (simp only [setD, List.set_cons_succ, List.set_cons_zero]; exact rfl)) ?_
  refine lw_calx (wan_none rfl) (implLess_ret _ _ _ _ _ _ _) hm (by (simp only [setD, List.set_cons_succ, List.set_cons_zero]; exact rfl)) ?_; clear hm; intro h hm
  refine lw_pu (wan_none rfl) (pu_assign (by (simp only [ev, List.getD_cons_succ, List.getD_cons_zero]; exact rfl))) (by (simp only [setD, List.set_cons_succ, List.set_cons_zero]; exact rfl)) ?_
  refine lw_nil ?_; refine hK _ _ ?_; clear hK K
  refine tw_ret1 Try.func3 Try.results3 (by (simp only [ev, List.getD_cons_succ, List.getD_cons_zero]; exact rfl)) ?_
  rotate_left 1
  refine lw_pu (wan_some rfl rfl rfl) (pu_move (by (simp only [ev, List.getD_cons_succ, List.getD_cons_zero]; exact rfl))) (by (simp only [setD, List.set_cons_succ, List.set_cons_zero]; exact rfl)) ?_
  refine lw_pu (wan_some rfl rfl rfl) (pu_indexAddr_arr (n := 2) rfl rfl (by omega)) (by (simp only [setD, List.set_cons_succ, List.set_cons_zero]; exact rfl)) ?_
  refine lw_pu (wan_some rfl rfl rfl) (pu_load rfl (hm.own (j := 1) rfl rfl)) (by (simp only [setD, List.set_cons_succ, List.set_cons_zero]; exact rfl)) ?_
  refine lw_pu (wan_some rfl rfl rfl) (pu_gtr rfl rfl) (by (simp only [setD, List.set_cons_succ, List.set_cons_zero]; exact rfl)) ?_
  refine lw_pu (wan_none rfl) (pu_pick_f rfl (by (simp only [ev, List.getD_cons_succ, List.getD_cons_zero]; exact rfl))) (by (simp only [setD, List.set_cons_succ, List.set_cons_zero]; exact rfl)) ?_
  refine lw_nil ?_; refine hK _ _ ?_; clear hK K
  refine tw_cond_ds rfl (by (simp only [List.set_cons_succ, List.set_cons_zero]; exact rfl)) (by (simp only [List.set_cons_succ, List.set_cons_zero]; exact rfl)) (fun hq => ?_) (fun hq => ?_)
  refine tw_seq ?_
  refine tw_region (fun K hK => ?_)
  refine lw_pu (wan_none rfl) (pu_build rfl rfl (by (simp only [put1, List.map_cons, List.map_nil, ev, List.getD_cons_succ, List.getD_cons_zero, List.set_cons_succ, List.set_cons_zero]; exact rfl))) (by (simp only [setD, List.set_cons_succ, List.set_cons_zero]; exact rfl)) ?_
  refine lw_pu (wan_none rfl) (pu_build rfl rfl (by (simp only [put1, List.map_cons, List.map_nil, ev, List.getD_cons_succ, List.getD_cons_zero, List.set_cons_succ, List.set_cons_zero]; exact rfl))) (by (simp only [setD, List.set_cons_succ, List.set_cons_zero]; exact rfl)) ?_
  refine lw_calx (wan_none rfl) (implLess_ret _ _ _ _ _ _ _) hm (by (simp only [setD, List.set_cons_succ, List.set_cons_zero]; exact rfl)) ?_; clear hm; intro h hm
  refine lw_pu (wan_none rfl) (pu_assign (by (simp only [ev, List.getD_cons_succ, List.getD_cons_zero]; exact rfl))) (by (simp only [setD, List.set_cons_succ, List.set_cons_zero]; exact rfl)) ?_
  refine lw_nil ?_; refine hK _ _ ?_; clear hK K
  refine tw_ret1 Try.func3 Try.results3 (by (simp only [ev, List.getD_cons_succ, List.getD_cons_zero]; exact rfl)) ?_
  rotate_left 1
  refine tw_skip ?_
  refine tw_heldM (M := _) (hm.hld rfl (List.Sublist.cons _ (List.Sublist.cons_cons _ (List.Sublist.cons_cons _ (List.Sublist.cons_cons _ List.Sublist.slnil))))) (by kernel_rfl) rfl (fun K hK => ?_)
  refine aw_take 0 rfl (by kernel_rfl) (by kernel_rfl) (by kernel_rfl) (hm.hld rfl (List.Sublist.cons _ (List.Sublist.cons_cons _ (List.Sublist.cons_cons _ (List.Sublist.cons_cons _ List.Sublist.slnil))))) (wan_none rfl) (fun h hm => pu_move (by (simp only [ev, List.getD_cons_succ, List.getD_cons_zero]; exact rfl))) (by (simp only [setD, List.set_cons_succ, List.set_cons_zero]; exact rfl)) ?_
  refine aw_take 1 rfl (by kernel_rfl) (by kernel_rfl) (by kernel_rfl) (hm.hld rfl (List.Sublist.cons _ (List.Sublist.cons_cons _ (List.Sublist.cons_cons _ (List.Sublist.cons_cons _ List.Sublist.slnil))))) (wan_none rfl) (fun h hm => pu_move (by (simp only [ev, List.getD_cons_succ, List.getD_cons_zero]; exact rfl))) (by (simp only [setD, List.set_cons_succ, List.set_cons_zero]; exact rfl)) ?_
  refine aw_take 2 rfl (by kernel_rfl) (by kernel_rfl) (by kernel_rfl) (hm.hld rfl (List.Sublist.cons _ (List.Sublist.cons_cons _ (List.Sublist.cons_cons _ (List.Sublist.cons_cons _ List.Sublist.slnil))))) (wan_none rfl) (fun h hm => pu_indexAddr_arr (n := 2) rfl rfl (by omega)) (by (simp only [setD, List.set_cons_succ, List.set_cons_zero]; exact rfl)) ?_
  refine aw_take 3 rfl (by kernel_rfl) (by kernel_rfl) (by kernel_rfl) (hm.hld rfl (List.Sublist.cons _ (List.Sublist.cons_cons _ (List.Sublist.cons_cons _ (List.Sublist.cons_cons _ List.Sublist.slnil))))) (wan_none rfl) (fun h hm => pu_load rfl (hm.own (j := 2) rfl rfl)) (by (simp only [setD, List.set_cons_succ, List.set_cons_zero]; exact rfl)) ?_
  refine aw_take 4 rfl (by kernel_rfl) (by kernel_rfl) (by kernel_rfl) (hm.hld rfl (List.Sublist.cons _ (List.Sublist.cons_cons _ (List.Sublist.cons_cons _ (List.Sublist.cons_cons _ List.Sublist.slnil))))) (wan_none rfl) (fun h hm => pu_move (by (simp only [ev, List.getD_cons_succ, List.getD_cons_zero]; exact rfl))) (by (simp only [setD, List.set_cons_succ, List.set_cons_zero]; exact rfl)) ?_
  refine aw_take 5 rfl (by kernel_rfl) (by kernel_rfl) (by kernel_rfl) (hm.hld rfl (List.Sublist.cons _ (List.Sublist.cons_cons _ (List.Sublist.cons_cons _ (List.Sublist.cons_cons _ List.Sublist.slnil))))) (wan_none rfl) (fun h hm => pu_indexAddr_arr (n := 2) rfl rfl (by omega)) (by (simp only [setD, List.set_cons_succ, List.set_cons_zero]; exact rfl)) ?_
  refine aw_take 6 rfl (by kernel_rfl) (by kernel_rfl) (by kernel_rfl) (hm.hld rfl (List.Sublist.cons _ (List.Sublist.cons_cons _ (List.Sublist.cons_cons _ (List.Sublist.cons_cons _ List.Sublist.slnil))))) (wan_none rfl) (fun h hm => pu_load rfl (hm.own (j := 0) rfl rfl)) (by (simp only [setD, List.set_cons_succ, List.set_cons_zero]; exact rfl)) ?_
  first | refine aw_take 7 rfl (by kernel_rfl) (by kernel_rfl) (by kernel_rfl) (hm.hld rfl (List.Sublist.cons _ (List.Sublist.cons_cons _ (List.Sublist.cons_cons _ (List.Sublist.cons_cons _ List.Sublist.slnil))))) (wan_none rfl) (fun h hm => pu_addn rfl rfl (by omega)) (by (simp only [setD, List.set_cons_succ, List.set_cons_zero]; exact rfl)) ?_ | refine aw_take 7 rfl (by kernel_rfl) (by kernel_rfl) (by kernel_rfl) (hm.hld rfl (List.Sublist.cons _ (List.Sublist.cons_cons _ (List.Sublist.cons_cons _ (List.Sublist.cons_cons _ List.Sublist.slnil))))) (wan_none rfl) (fun h hm => pu_addi rfl rfl (by omega) (by omega)) (by (simp only [setD, List.set_cons_succ, List.set_cons_zero]; exact rfl)) ?_ | refine aw_take 7 rfl (by kernel_rfl) (by kernel_rfl) (by kernel_rfl) (hm.hld rfl (List.Sublist.cons _ (List.Sublist.cons_cons _ (List.Sublist.cons_cons _ (List.Sublist.cons_cons _ List.Sublist.slnil))))) (wan_none rfl) (fun h hm => pu_add rfl rfl) (by (simp only [setD, List.set_cons_succ, List.set_cons_zero]; exact rfl)) ?_
  refine aw_take 8 rfl (by kernel_rfl) (by kernel_rfl) (by kernel_rfl) (hm.hld rfl (List.Sublist.cons _ (List.Sublist.cons_cons _ (List.Sublist.cons_cons _ (List.Sublist.cons_cons _ List.Sublist.slnil))))) (wan_none rfl) (fun h hm => pu_indexAddr_arr (n := 2) rfl rfl (by omega)) (by (simp only [setD, List.set_cons_succ, List.set_cons_zero]; exact rfl)) ?_
  refine aw_step 9 rfl (by kernel_rfl) ?_
  refine lw_store_own (j := 0) (wan_none rfl) rfl (by (simp only [ev, List.getD_cons_succ, List.getD_cons_zero]; exact rfl)) rfl hm rfl (by simp) (by (simp only [List.set_cons_succ, List.set_cons_zero]; exact rfl)) (by (simp only [setD, List.set_cons_succ, List.set_cons_zero]; exact rfl)) ?_; clear hm; intro h hm
  refine lw_nil ⟨hm.hld rfl (List.Sublist.cons _ (List.Sublist.cons_cons _ (List.Sublist.cons_cons _ (List.Sublist.cons_cons _ List.Sublist.slnil)))), ?_⟩
  refine aw_done (by kernel_rfl) ?_; refine hK _ _ ?_; clear hK K
  refine tw_inBlock ?_
  refine tw_region (fun K hK => ?_)
  refine lw_pu (wan_none rfl) (pu_move (by (simp only [ev, List.getD_cons_succ, List.getD_cons_zero]; exact rfl))) (by (simp only [setD, List.set_cons_succ, List.set_cons_zero]; exact rfl)) ?_
  refine lw_pu (wan_none rfl) (pu_addn (m := 2) (n := 1) rfl rfl (by omega)) (by (simp only [setD, List.set_cons_succ, List.set_cons_zero]; exact rfl)) ?_
  refine lw_pu (wan_none rfl) (pu_assign (by (simp only [ev, List.getD_cons_succ, List.getD_cons_zero]; exact rfl))) (by (simp only [setD, List.set_cons_succ, List.set_cons_zero]; exact rfl)) ?_
  refine lw_nil ?_; refine hK _ _ ?_; clear hK K
  refine tw_inLoop ?_
  refine tw_seq ?_
  refine tw_seq ?_
  refine tw_region (fun K hK => ?_)
  refine lw_pu (wan_none rfl) (pu_move (by (simp only [ev, List.getD_cons_succ, List.getD_cons_zero]; exact rfl))) (by (simp only [setD, List.set_cons_succ, List.set_cons_zero]; exact rfl)) ?_
  refine lw_pu (wan_none rfl) (pu_false (pu_lss rfl rfl) (by omega)) (by (simp only [setD, List.set_cons_succ, List.set_cons_zero]; exact rfl)) ?_
  refine lw_nil ?_; refine hK _ _ ?_; clear hK K
  refine tw_cond_f rfl ?_
  refine tw_exit rfl ?_
  refine tw_seq ?_
  refine tw_region (fun K hK => ?_)
  refine lw_pu (wan_none rfl) (pu_loadAgg rfl rfl (hm.row (j := 3) rfl)) (by (simp only [setD, List.set_cons_succ, List.set_cons_zero]; exact rfl)) ?_
  refine lw_pu (wan_none rfl) (pu_loadAgg rfl rfl (hm.row (j := 2) rfl)) (by (simp only [setD, List.set_cons_succ, List.set_cons_zero]; exact rfl)) ?_
  refine lw_calx (wan_none rfl) (implLess_ret _ _ _ _ _ _ _) hm (by (simp only [setD, List.set_cons_succ, List.set_cons_zero]; exact rfl)) ?_; clear hm; intro h hm
  refine lw_pu (wan_none rfl) (pu_assign (by (simp only [ev, List.getD_cons_succ, List.getD_cons_zero]; exact rfl))) (by (simp only [setD, List.set_cons_succ, List.set_cons_zero]; exact rfl)) ?_
  refine lw_nil ?_; refine hK _ _ ?_; clear hK K
  refine tw_seq ?_
  refine tw_quietM hm (by kernel_rfl) (by kernel_rfl) (fun K hK => ?_)
  refine qw_pu (wan_none rfl) (fun h hm => pu_move (by (simp only [ev, List.getD_cons_succ, List.getD_cons_zero]; exact rfl))) (by (simp only [setD, List.set_cons_succ, List.set_cons_zero]; exact rfl)) ?_
  refine qw_pu (wan_none rfl) (fun h hm => pu_loadAgg rfl rfl (hm.row (j := 3) rfl)) (by (simp only [setD, List.set_cons_succ, List.set_cons_zero]; exact rfl)) ?_
  refine qw_pu (wan_none rfl) (fun h hm => pu_loadAgg rfl rfl (hm.row (j := 2) rfl)) (by (simp only [setD, List.set_cons_succ, List.set_cons_zero]; exact rfl)) ?_
  refine qw_calx (wan_none rfl) (fun h hm => specLess_ret _ _ _ _ _ _ _) (by (simp only [setD, List.set_cons_succ, List.set_cons_zero]; exact rfl)) ?_
  refine qw_pu (wan_none rfl) (fun h hm => pu_eqb rfl rfl) (by (simp only [setD, List.set_cons_succ, List.set_cons_zero]; exact rfl)) ?_
  refine qw_pu (wan_none rfl) (fun h hm => pu_move (by (simp only [ev, List.getD_cons_succ, List.getD_cons_zero]; exact rfl))) (by (simp only [setD, List.set_cons_succ, List.set_cons_zero]; exact rfl)) ?_
  refine qw_split_d rfl rfl rfl (by (simp only [List.set_cons_succ, List.set_cons_zero]; exact rfl)) (by (simp only [List.set_cons_succ, List.set_cons_zero]; exact rfl)) (fun hq => ?_) (fun hq => ?_)
  refine qw_pu (wan_some rfl rfl rfl) (fun h hm => pu_loadAgg rfl rfl (hm.row (j := 3) rfl)) (by (simp only [setD, List.set_cons_succ, List.set_cons_zero]; exact rfl)) ?_
  refine qw_pu (wan_some rfl rfl rfl) (fun h hm => pu_loadAgg rfl rfl (hm.row (j := 1) rfl)) (by (simp only [setD, List.set_cons_succ, List.set_cons_zero]; exact rfl)) ?_
  refine qw_calx (wan_some rfl rfl rfl) (fun h hm => implAdd_ret _ _ _ _ _ _ (by unfold Bd; omega) (by unfold Bd; omega) (by unfold Bd; omega) (by unfold Bd; omega) (by unfold Bd; omega) (by unfold Bd; omega) _) (by (simp only [setD, List.set_cons_succ, List.set_cons_zero]; exact rfl)) ?_
  refine qw_pu (wan_some rfl rfl rfl) (fun h hm => pu_loadAgg rfl rfl (hm.row (j := 0) rfl)) (by (simp only [setD, List.set_cons_succ, List.set_cons_zero]; exact rfl)) ?_
  refine qw_pu (wan_some rfl rfl rfl) (fun h hm => pu_eql_arr3 rfl rfl (by kernel_rfl)) (by (simp only [setD, List.set_cons_succ, List.set_cons_zero]; exact rfl)) ?_
  refine qw_pu (wan_none rfl) (fun h hm => pu_pick_t rfl (by (simp only [ev, List.getD_cons_succ, List.getD_cons_zero]; exact rfl))) (by (simp only [setD, List.set_cons_succ, List.set_cons_zero]; exact rfl)) ?_
  refine qw_pu (wan_none rfl) (fun h hm => pu_move (by (simp only [ev, List.getD_cons_succ, List.getD_cons_zero]; exact rfl))) (by (simp only [setD, List.set_cons_succ, List.set_cons_zero]; exact rfl)) ?_
  refine qw_split_d rfl rfl rfl (by (simp only [List.set_cons_succ, List.set_cons_zero]; exact rfl)) (by (simp only [List.set_cons_succ, List.set_cons_zero]; exact rfl)) (fun hq => ?_) (fun hq => ?_)
  refine qw_pu (wan_some rfl rfl rfl) (fun h hm => pu_loadAgg rfl rfl (hm.row (j := 3) rfl)) (by (simp only [setD, List.set_cons_succ, List.set_cons_zero]; exact rfl)) ?_
  refine qw_pu (wan_some rfl rfl rfl) (fun h hm => pu_loadAgg rfl rfl (hm.row (j := 1) rfl)) (by (simp only [setD, List.set_cons_succ, List.set_cons_zero]; exact rfl)) ?_
  refine qw_calx (wan_some rfl rfl rfl) (fun h hm => implAdd_ret _ _ _ _ _ _ (by unfold Bd; omega) (by unfold Bd; omega) (by unfold Bd; omega) (by unfold Bd; omega) (by unfold Bd; omega) (by unfold Bd; omega) _) (by (simp only [setD, List.set_cons_succ, List.set_cons_zero]; exact rfl)) ?_
  refine qw_pu (wan_some rfl rfl rfl) (fun h hm => pu_loadAgg rfl rfl (hm.row (j := 2) rfl)) (by (simp only [setD, List.set_cons_succ, List.set_cons_zero]; exact rfl)) ?_
  refine qw_pu (wan_some rfl rfl rfl) (fun h hm => pu_loadAgg rfl rfl (hm.row (j := 1) rfl)) (by (simp only [setD, List.set_cons_succ, List.set_cons_zero]; exact rfl)) ?_
  refine qw_calx (wan_some rfl rfl rfl) (fun h hm => implAdd_ret _ _ _ _ _ _ (by unfold Bd; omega) (by unfold Bd; omega) (by unfold Bd; omega) (by unfold Bd; omega) (by unfold Bd; omega) (by unfold Bd; omega) _) (by (simp only [setD, List.set_cons_succ, List.set_cons_zero]; exact rfl)) ?_
  refine qw_calx (wan_some rfl rfl rfl) (fun h hm => implLess_ret _ _ _ _ _ _ _) (by (simp only [setD, List.set_cons_succ, List.set_cons_zero]; exact rfl)) ?_
  refine qw_pu (wan_some rfl rfl rfl) (fun h hm => pu_move (by (simp only [ev, List.getD_cons_succ, List.getD_cons_zero]; exact rfl))) (by (simp only [setD, List.set_cons_succ, List.set_cons_zero]; exact rfl)) ?_
  refine qw_pu (wan_some rfl rfl rfl) (fun h hm => pu_eqb rfl rfl) (by (simp only [setD, List.set_cons_succ, List.set_cons_zero]; exact rfl)) ?_
  refine qw_pu (wan_none rfl) (fun h hm => pu_pick_t rfl (by (simp only [ev, List.getD_cons_succ, List.getD_cons_zero]; exact rfl))) (by (simp only [setD, List.set_cons_succ, List.set_cons_zero]; exact rfl)) ?_
  refine qw_pu (wan_none rfl) (fun h hm => pu_move (by (simp only [ev, List.getD_cons_succ, List.getD_cons_zero]; exact rfl))) (by (simp only [setD, List.set_cons_succ, List.set_cons_zero]; exact rfl)) ?_
  refine qw_split_d rfl rfl rfl (by (simp only [List.set_cons_succ, List.set_cons_zero]; exact rfl)) (by (simp only [List.set_cons_succ, List.set_cons_zero]; exact rfl)) (fun hq => ?_) (fun hq => ?_)
  refine qw_pu (wan_some rfl rfl rfl) (fun h hm => pu_build rfl rfl (by (simp only [put1, List.map_cons, List.map_nil, ev, List.getD_cons_succ, List.getD_cons_zero, List.set_cons_succ, List.set_cons_zero]; exact rfl))) (by (simp only [setD, List.set_cons_succ, List.set_cons_zero]; exact rfl)) ?_
  refine qw_pu (wan_some rfl rfl rfl) (fun h hm => pu_build rfl rfl (by (simp only [put1, List.map_cons, List.map_nil, ev, List.getD_cons_succ, List.getD_cons_zero, List.set_cons_succ, List.set_cons_zero]; exact rfl))) (by (simp only [setD, List.set_cons_succ, List.set_cons_zero]; exact rfl)) ?_
  refine qw_calx (wan_some rfl rfl rfl) (fun h hm => implLess_ret _ _ _ _ _ _ _) (by (simp only [setD, List.set_cons_succ, List.set_cons_zero]; exact rfl)) ?_
  refine qw_pu (wan_none rfl) (fun h hm => pu_pick_t rfl (by (simp only [ev, List.getD_cons_succ, List.getD_cons_zero]; exact rfl))) (by (simp only [setD, List.set_cons_succ, List.set_cons_zero]; exact rfl)) ?_
  refine qw_pu (wan_none rfl) (fun h hm => pu_assign (by (simp only [ev, List.getD_cons_succ, List.getD_cons_zero]; exact rfl))) (by (simp only [setD, List.set_cons_succ, List.set_cons_zero]; exact rfl)) ?_
  refine qw_nil ?_; refine hK _ ?_; clear hK K hm; intro h hm
  refine tw_ret1 Try.func3 Try.results3 (by (simp only [ev, List.getD_cons_succ, List.getD_cons_zero]; exact rfl)) ?_
  rotate_left 1
  refine qw_skip_b rfl rfl rfl (by (simp only [setD, List.set_cons_succ, List.set_cons_zero]; exact rfl)) ?_
  refine qw_skip_b rfl rfl rfl (by (simp only [setD, List.set_cons_succ, List.set_cons_zero]; exact rfl)) ?_
  refine qw_skip_b rfl rfl rfl (by (simp only [setD, List.set_cons_succ, List.set_cons_zero]; exact rfl)) ?_
  refine qw_pu (wan_none rfl) (fun h hm => pu_pick_f rfl (by (simp only [ev, List.getD_cons_succ, List.getD_cons_zero]; exact rfl))) (by (simp only [setD, List.set_cons_succ, List.set_cons_zero]; exact rfl)) ?_
  refine qw_pu (wan_none rfl) (fun h hm => pu_assign (by (simp only [ev, List.getD_cons_succ, List.getD_cons_zero]; exact rfl))) (by (simp only [setD, List.set_cons_succ, List.set_cons_zero]; exact rfl)) ?_
  refine qw_nil ?_; refine hK _ ?_; clear hK K hm; intro h hm
  refine tw_ret1 Try.func3 Try.results3 (by (simp only [ev, List.getD_cons_succ, List.getD_cons_zero]; exact rfl)) ?_
  rotate_left 1
  refine qw_skip_b rfl rfl rfl (by (simp only [setD, List.set_cons_succ, List.set_cons_zero]; exact rfl)) ?_
  refine qw_skip_b rfl rfl rfl (by (simp only [setD, List.set_cons_succ, List.set_cons_zero]; exact rfl)) ?_
  refine qw_skip_b rfl rfl rfl (by (simp only [setD, List.set_cons_succ, List.set_cons_zero]; exact rfl)) ?_
  refine qw_skip_b rfl rfl rfl (by (simp only [setD, List.set_cons_succ, List.set_cons_zero]; exact rfl)) ?_
  refine qw_skip_b rfl rfl rfl (by (simp only [setD, List.set_cons_succ, List.set_cons_zero]; exact rfl)) ?_
  refine qw_skip_b rfl rfl rfl (by (simp only [setD, List.set_cons_succ, List.set_cons_zero]; exact rfl)) ?_
  refine qw_skip_b rfl rfl rfl (by (simp only [setD, List.set_cons_succ, List.set_cons_zero]; exact rfl)) ?_
  refine qw_skip_b rfl rfl rfl (by (simp only [setD, List.set_cons_succ, List.set_cons_zero]; exact rfl)) ?_
  refine qw_skip_b rfl rfl rfl (by (simp only [setD, List.set_cons_succ, List.set_cons_zero]; exact rfl)) ?_
  refine qw_pu (wan_none rfl) (fun h hm => pu_pick_f rfl (by (simp only [ev, List.getD_cons_succ, List.getD_cons_zero]; exact rfl))) (by (simp only [setD, List.set_cons_succ, List.set_cons_zero]; exact rfl)) ?_
  refine qw_pu (wan_none rfl) (fun h hm => pu_move (by (simp only [ev, List.getD_cons_succ, List.getD_cons_zero]; exact rfl))) (by (simp only [setD, List.set_cons_succ, List.set_cons_zero]; exact rfl)) ?_
  refine qw_skip_b rfl rfl rfl (by (simp only [setD, List.set_cons_succ, List.set_cons_zero]; exact rfl)) ?_
  refine qw_skip_b rfl rfl rfl (by (simp only [setD, List.set_cons_succ, List.set_cons_zero]; exact rfl)) ?_
  refine qw_skip_b rfl rfl rfl (by (simp only [setD, List.set_cons_succ, List.set_cons_zero]; exact rfl)) ?_
  refine qw_pu (wan_none rfl) (fun h hm => pu_pick_f rfl (by (simp only [ev, List.getD_cons_succ, List.getD_cons_zero]; exact rfl))) (by (simp only [setD, List.set_cons_succ, List.set_cons_zero]; exact rfl)) ?_
  refine qw_pu (wan_none rfl) (fun h hm => pu_assign (by (simp only [ev, List.getD_cons_succ, List.getD_cons_zero]; exact rfl))) (by (simp only [setD, List.set_cons_succ, List.set_cons_zero]; exact rfl)) ?_
  refine qw_nil ?_; refine hK _ ?_; clear hK K hm; intro h hm
  refine tw_ret1 Try.func3 Try.results3 (by (simp only [ev, List.getD_cons_succ, List.getD_cons_zero]; exact rfl)) ?_
  rotate_left 1
  refine qw_skip_b rfl rfl rfl (by (simp only [setD, List.set_cons_succ, List.set_cons_zero]; exact rfl)) ?_
  refine qw_skip_b rfl rfl rfl (by (simp only [setD, List.set_cons_succ, List.set_cons_zero]; exact rfl)) ?_
  refine qw_skip_b rfl rfl rfl (by (simp only [setD, List.set_cons_succ, List.set_cons_zero]; exact rfl)) ?_
  refine qw_skip_b rfl rfl rfl (by (simp only [setD, List.set_cons_succ, List.set_cons_zero]; exact rfl)) ?_
  refine qw_skip_b rfl rfl rfl (by (simp only [setD, List.set_cons_succ, List.set_cons_zero]; exact rfl)) ?_
  refine qw_pu (wan_none rfl) (fun h hm => pu_pick_f rfl (by (simp only [ev, List.getD_cons_succ, List.getD_cons_zero]; exact rfl))) (by (simp only [setD, List.set_cons_succ, List.set_cons_zero]; exact rfl)) ?_
  refine qw_pu (wan_none rfl) (fun h hm => pu_move (by (simp only [ev, List.getD_cons_succ, List.getD_cons_zero]; exact rfl))) (by (simp only [setD, List.set_cons_succ, List.set_cons_zero]; exact rfl)) ?_
  refine qw_skip_b rfl rfl rfl (by (simp only [setD, List.set_cons_succ, List.set_cons_zero]; exact rfl)) ?_
  refine qw_skip_b rfl rfl rfl (by (simp only [setD, List.set_cons_succ, List.set_cons_zero]; exact rfl)) ?_
  refine qw_skip_b rfl rfl rfl (by (simp only [setD, List.set_cons_succ, List.set_cons_zero]; exact rfl)) ?_
  refine qw_skip_b rfl rfl rfl (by (simp only [setD, List.set_cons_succ, List.set_cons_zero]; exact rfl)) ?_
  refine qw_skip_b rfl rfl rfl (by (simp only [setD, List.set_cons_succ, List.set_cons_zero]; exact rfl)) ?_
  refine qw_skip_b rfl rfl rfl (by (simp only [setD, List.set_cons_succ, List.set_cons_zero]; exact rfl)) ?_
  refine qw_skip_b rfl rfl rfl (by (simp only [setD, List.set_cons_succ, List.set_cons_zero]; exact rfl)) ?_
  refine qw_skip_b rfl rfl rfl (by (simp only [setD, List.set_cons_succ, List.set_cons_zero]; exact rfl)) ?_
  refine qw_skip_b rfl rfl rfl (by (simp only [setD, List.set_cons_succ, List.set_cons_zero]; exact rfl)) ?_
  refine qw_pu (wan_none rfl) (fun h hm => pu_pick_f rfl (by (simp only [ev, List.getD_cons_succ, List.getD_cons_zero]; exact rfl))) (by (simp only [setD, List.set_cons_succ, List.set_cons_zero]; exact rfl)) ?_
  refine qw_pu (wan_none rfl) (fun h hm => pu_move (by (simp only [ev, List.getD_cons_succ, List.getD_cons_zero]; exact rfl))) (by (simp only [setD, List.set_cons_succ, List.set_cons_zero]; exact rfl)) ?_
  refine qw_skip_b rfl rfl rfl (by (simp only [setD, List.set_cons_succ, List.set_cons_zero]; exact rfl)) ?_
  refine qw_skip_b rfl rfl rfl (by (simp only [setD, List.set_cons_succ, List.set_cons_zero]; exact rfl)) ?_
  refine qw_skip_b rfl rfl rfl (by (simp only [setD, List.set_cons_succ, List.set_cons_zero]; exact rfl)) ?_
  refine qw_pu (wan_none rfl) (fun h hm => pu_pick_f rfl (by (simp only [ev, List.getD_cons_succ, List.getD_cons_zero]; exact rfl))) (by (simp only [setD, List.set_cons_succ, List.set_cons_zero]; exact rfl)) ?_
  refine qw_pu (wan_none rfl) (fun h hm => pu_assign (by (simp only [ev, List.getD_cons_succ, List.getD_cons_zero]; exact rfl))) (by (simp only [setD, List.set_cons_succ, List.set_cons_zero]; exact rfl)) ?_
  refine qw_nil ?_; refine hK _ ?_; clear hK K hm; intro h hm
  refine tw_ret1 Try.func3 Try.results3 (by (simp only [ev, List.getD_cons_succ, List.getD_cons_zero]; exact rfl)) ?_
  rotate_left 1
  -- left: ret | ret | ret | ret | ret | ret | ret | ret | ret | ret | ret | ret | ret | ret | ret | ret | ret | ret | ret | ret | ret | ret
  all_goals first
    | exact ⟨congrArg Value.bool (decide_eq_true (by unfold Lt3; omega)), hm.ext⟩
    | exact absurd rfl hq
    | exact absurd (decide_eq_decide.2 (by unfold Lt3; omega)) hq
    | exact absurd trivial hq
end Go.Proofs.Ytchhjooifjcnkaa.SpecificOrder
