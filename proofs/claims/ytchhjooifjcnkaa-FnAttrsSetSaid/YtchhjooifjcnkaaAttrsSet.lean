/-
  Setting an attribute of one element: what the package does, over its code.
-/
import Derived.Test.YtchhjooifjcnkaaFits
namespace Go.Proofs.Ytchhjooifjcnkaa.AttrsSet
open Go Go.Proofs K Fits

def hrow (a : At) : List Value := [bs [], bs a.1, bs a.2]
/-- An element without relatives. -/
def ncells (v : Value) : List Value := [.pointer none, .pointer none, .pointer none, .pointer none, .pointer none, .int .u32 3, .int .u32 0, bs [97], bs [], v]

set_option linter.unusedSimpArgs false
set_option linter.unusedVariables false
set_option maxRecDepth 10000
/-- What element hands back. -/
def Made (xs : List At) (v : Value) (L : List Blk) : Prop :=
  ∃ S Bs N q cp Lv, v = .tuple #[.pointer (some ⟨S, 0, none⟩), .pointer (some ⟨N, 0, none⟩)] ∧ SlO 3 86 q xs.length cp Lv (xs.map hrow) ∧
    L = (S, [.slice (some ⟨Bs, 0, none⟩) 1 1, .pointer none, .pointer none], 89) :: (Bs, [.pointer (some ⟨N, 0, none⟩)], 56) :: (N, ncells (.slice q xs.length cp), 84) :: Lv
theorem element_ret (xs : List At) (q : Option Addr) (cp : Nat) (h0 : Array Obj) (hmax : xs.length ≤ 2 ^ 31) (hr : SlR h0 2 q (xs.map row)) : Ret Try.prog 32 [.slice q xs.length cp] h0 fun v h => ∃ L, Made xs v L ∧ Mem h0 h [] L := by
  have hm := Mem.refl h0
  refine ret_of_tw (ρ := ((.slice q xs.length cp) :: undef :: undef :: undef :: undef :: undef :: undef :: undef :: undef :: undef :: undef :: undef :: undef :: undef :: undef :: undef :: undef :: undef :: undef :: undef :: undef :: undef :: undef :: undef :: undef :: undef :: undef :: undef :: undef :: undef :: undef :: undef :: undef :: undef :: undef :: [])) Try.func32 rfl rfl (fun E => ?_)
  refine tw_seq ?_
  refine tw_region (fun K hK => ?_)
  refine lw_pu (wan_none rfl) (pu_assign (by (simp only [ev, List.getD_cons_succ, List.getD_cons_zero]; exact rfl))) (by (simp only [setD, List.set_cons_succ, List.set_cons_zero]; exact rfl)) ?_
  refine lw_pu (wan_none rfl) (pu_assign (by (simp only [ev, List.getD_cons_succ, List.getD_cons_zero]; exact rfl))) (by (simp only [setD, List.set_cons_succ, List.set_cons_zero]; exact rfl)) ?_
  refine lw_nil ?_; refine hK _ _ ?_; clear hK K
  refine tw_seq ?_
  refine tw_region (fun K hK => ?_)
  refine lw_pu (wan_none rfl) (pu_build rfl rfl (by (simp only [put1, List.map_cons, List.map_nil, ev, List.getD_cons_succ, List.getD_cons_zero, List.set_cons_succ, List.set_cons_zero]; exact rfl))) (by (simp only [setD, List.set_cons_succ, List.set_cons_zero]; exact rfl)) ?_
  refine lw_box (wan_none rfl) (by (simp only [ev, List.getD_cons_succ, List.getD_cons_zero]; exact rfl)) rfl hm ?_; clear hm; intro b8 h hm; refine lw_norm (by (simp only [setD, List.set_cons_succ, List.set_cons_zero]; exact rfl)) ?_
  refine lw_pu (wan_none rfl) (pu_assign (by (simp only [ev, List.getD_cons_succ, List.getD_cons_zero]; exact rfl))) (by (simp only [setD, List.set_cons_succ, List.set_cons_zero]; exact rfl)) ?_
  refine lw_nil ?_; refine hK _ _ ?_; clear hK K
  refine tw_seq ?_
  refine tw_seq ?_
  refine tw_region (fun K hK => ?_)
  refine lw_pu (wan_none rfl) (pu_move (by (simp only [ev, List.getD_cons_succ, List.getD_cons_zero]; exact rfl))) (by (simp only [setD, List.set_cons_succ, List.set_cons_zero]; exact rfl)) ?_
  refine lw_pu (wan_none rfl) (pu_lensl rfl rfl) (by (simp only [setD, List.set_cons_succ, List.set_cons_zero]; exact rfl)) ?_
  refine lw_pu (wan_none rfl) (pu_move (by (simp only [ev, List.getD_cons_succ, List.getD_cons_zero]; exact rfl))) (by (simp only [setD, List.set_cons_succ, List.set_cons_zero]; exact rfl)) ?_
  refine lw_nil ?_; refine hK _ _ ?_; clear hK K
  refine tw_block ?_
  rotate_left 1
  -- left: loop
  refine tw_loopJ (X := Nat × Option Addr × Nat × List Blk) (fun x => xs.length - x.1) (fun x J => (.slice q xs.length cp :: J 1 :: J 2 :: J 3 :: .pointer (some ⟨b8, 0, none⟩) :: J 5 :: J 6 :: J 7 :: J 8 :: .slice q xs.length cp :: .int .i64 (xs.length : Int) :: .int .i64 (x.1 : Int) :: J 12 :: J 13 :: J 14 :: J 15 :: J 16 :: J 17 :: J 18 :: J 19 :: J 20 :: J 21 :: J 22 :: J 23 :: J 24 :: J 25 :: J 26 :: J 27 :: J 28 :: J 29 :: J 30 :: J 31 :: J 32 :: J 33 :: J 34 :: [])) (fun x h => Mem h0 h [] ((b8, ncells (.slice x.2.1 x.1 x.2.2.1), 84) :: x.2.2.2) ∧ x.1 ≤ xs.length ∧ SlO 3 86 x.2.1 x.1 x.2.2.1 x.2.2.2 ((xs.take x.1).map hrow)) (0, none, 0, []) rfl ⟨hm, by simp, by simpa using SlO.nil 3 _⟩ ?_
  clear hm
  rintro ⟨i, qa, ca, Lv⟩ J h ⟨hm, hi, hs⟩ IH
  simp only at hm hi hs
  refine tw_seq ?_
  refine tw_region (fun K hK => ?_)
  refine lw_pu (wan_none rfl) (pu_lss rfl rfl) (by (simp only [setD, List.set_cons_succ, List.set_cons_zero]; exact rfl)) ?_
  refine lw_nil ?_; refine hK _ _ ?_; clear hK K
  refine tw_seq ?_
  refine tw_cond_ds rfl (by (simp only [List.set_cons_succ, List.set_cons_zero]; exact rfl)) (by (simp only [List.set_cons_succ, List.set_cons_zero]; exact rfl)) (fun hq => ?_) (fun hq => ?_)
  refine tw_skip ?_
  refine tw_seq ?_
  refine tw_block ?_
  refine tw_seq ?_
  refine tw_region (fun K hK => ?_)
  rotate_left 1
  refine tw_exit rfl ?_
  refine tw_seq ?_
  refine tw_region (fun K hK => ?_)
  refine lw_pu (wan_none rfl) (pu_move (by (simp only [ev, List.getD_cons_succ, List.getD_cons_zero]; exact rfl))) (by (simp only [setD, List.set_cons_succ, List.set_cons_zero]; exact rfl)) ?_
  refine lw_buildSlice1 (wan_none rfl) (by exact rfl) (by (simp only [ev, List.getD_cons_succ, List.getD_cons_zero]; exact rfl)) (by exact rfl) (by exact rfl) (by decide) (by decide) hm ?_; clear hm; intro b31 h hm; refine lw_norm (by (simp only [setD, List.set_cons_succ, List.set_cons_zero]; exact rfl)) ?_
  refine lw_pu (wan_none rfl) (pu_build rfl rfl (by (simp only [put1, List.map_cons, List.map_nil, ev, List.getD_cons_succ, List.getD_cons_zero, List.set_cons_succ, List.set_cons_zero]; exact rfl))) (by (simp only [setD, List.set_cons_succ, List.set_cons_zero]; exact rfl)) ?_
  refine lw_box (wan_none rfl) (by (simp only [ev, List.getD_cons_succ, List.getD_cons_zero]; exact rfl)) rfl hm ?_; clear hm; intro b33 h hm; refine lw_norm (by (simp only [setD, List.set_cons_succ, List.set_cons_zero]; exact rfl)) ?_
  refine lw_pu (wan_none rfl) (pu_move (by (simp only [ev, List.getD_cons_succ, List.getD_cons_zero]; exact rfl))) (by (simp only [setD, List.set_cons_succ, List.set_cons_zero]; exact rfl)) ?_
  refine lw_pu (wan_none rfl) (pu_assign (by (simp only [ev, List.getD_cons_succ, List.getD_cons_zero]; exact rfl))) (by (simp only [setD, List.set_cons_succ, List.set_cons_zero]; exact rfl)) ?_
  refine lw_pu (wan_none rfl) (pu_assign (by (simp only [ev, List.getD_cons_succ, List.getD_cons_zero]; exact rfl))) (by (simp only [setD, List.set_cons_succ, List.set_cons_zero]; exact rfl)) ?_
  refine lw_nil ?_; refine hK _ _ ?_; clear hK K
  refine tw_ret2 Try.func32 Try.results32 (by (simp only [ev, List.getD_cons_succ, List.getD_cons_zero]; exact rfl)) (by (simp only [ev, List.getD_cons_succ, List.getD_cons_zero]; exact rfl)) ?_
  rotate_left 1
  -- left: region 4 op 0 | ret
  · obtain ⟨a, ha, hq', hc⟩ := hr.at (i := i) (by omega)
    have hc' : ∀ {h}, Ext h0 h → cellsFrom h (blk q) (offs q + i * 2) (row a) := fun he => he.cells hc
    first | refine lw_pu (wan_none rfl) (pu_indexAddrQ rfl rfl (by omega) (by assumption)) (by (simp only [setD, List.set_cons_succ, List.set_cons_zero]; exact rfl)) ?_ | refine lw_pu (wan_none rfl) (pu_indexAddr rfl rfl (by omega)) (by (simp only [setD, List.set_cons_succ, List.set_cons_zero]; exact rfl)) ?_
    refine lw_pu (wan_none rfl) (pu_loadAgg rfl rfl (hc' hm.ext)) (by (simp only [setD, List.set_cons_succ, List.set_cons_zero]; exact rfl)) ?_
    refine lw_alloc (wan_none rfl) rfl hm ?_; clear hm; intro b6 h hm; refine lw_norm (by (simp only [setD, List.set_cons_succ, List.set_cons_zero]; exact rfl)) ?_
    refine lw_storeAgg_own (j := 0) (wan_none rfl) rfl rfl rfl rfl hm rfl rfl (by (simp only [List.set_cons_succ, List.set_cons_zero]; exact rfl)) (by (simp only [setD, List.set_cons_succ, List.set_cons_zero]; exact rfl)) ?_; clear hm; intro h hm
    refine lw_nil ?_; refine hK _ _ ?_; clear hK K
    refine tw_heldM (M := _) (hm.hld rfl (List.Sublist.cons_cons _ (List.Sublist.cons _ (List.nil_sublist _)))) (by kernel_rfl) rfl (fun K hK => ?_)
    refine aw_take 0 rfl (by kernel_rfl) (by kernel_rfl) (by kernel_rfl) (hm.hld rfl (List.Sublist.cons_cons _ (List.Sublist.cons _ (List.nil_sublist _)))) (wan_none rfl) (fun h hm => pu_move (by (simp only [ev, List.getD_cons_succ, List.getD_cons_zero]; exact rfl))) (by (simp only [setD, List.set_cons_succ, List.set_cons_zero]; exact rfl)) ?_
    refine aw_take 1 rfl (by kernel_rfl) (by kernel_rfl) (by kernel_rfl) (hm.hld rfl (List.Sublist.cons_cons _ (List.Sublist.cons _ (List.nil_sublist _)))) (wan_none rfl) (fun h hm => pu_move (by (simp only [ev, List.getD_cons_succ, List.getD_cons_zero]; exact rfl))) (by (simp only [setD, List.set_cons_succ, List.set_cons_zero]; exact rfl)) ?_
    refine aw_take 2 rfl (by kernel_rfl) (by kernel_rfl) (by kernel_rfl) (hm.hld rfl (List.Sublist.cons_cons _ (List.Sublist.cons _ (List.nil_sublist _)))) (wan_none rfl) (fun h hm => pu_nilCheck_p rfl) (by (simp only [setD, List.set_cons_succ, List.set_cons_zero]; exact rfl)) ?_
    refine aw_take 3 rfl (by kernel_rfl) (by kernel_rfl) (by kernel_rfl) (hm.hld rfl (List.Sublist.cons_cons _ (List.Sublist.cons _ (List.nil_sublist _)))) (wan_none rfl) (fun h hm => pu_fieldAddr rfl (by exact fun w => siz _ w)) (by (simp only [setD, List.set_cons_succ, List.set_cons_zero]; exact rfl)) ?_
    refine aw_take 5 rfl (by kernel_rfl) (by kernel_rfl) (by kernel_rfl) (hm.hld rfl (List.Sublist.cons_cons _ (List.Sublist.cons _ (List.nil_sublist _)))) (wan_none rfl) (fun h hm => pu_fieldAddr rfl (by exact fun w => siz _ w)) (by (simp only [setD, List.set_cons_succ, List.set_cons_zero]; exact rfl)) ?_
    first | refine aw_take 6 rfl (by kernel_rfl) (by kernel_rfl) (by kernel_rfl) (hm.hld rfl (List.Sublist.cons_cons _ (List.Sublist.cons _ (List.nil_sublist _)))) (wan_none rfl) (fun h hm => pu_load rfl (hm.own (j := 0) rfl rfl)) (by (simp only [setD, List.set_cons_succ, List.set_cons_zero]; exact rfl)) ?_ | refine aw_take 6 rfl (by kernel_rfl) (by kernel_rfl) (by kernel_rfl) (hm.hld rfl (List.Sublist.cons_cons _ (List.Sublist.cons _ (List.nil_sublist _)))) (wan_none rfl) (fun h hm => pu_load rfl (hc' hm.ext)) (by (simp only [setD, List.set_cons_succ, List.set_cons_zero]; exact rfl)) ?_
    refine aw_take 7 rfl (by kernel_rfl) (by kernel_rfl) (by kernel_rfl) (hm.hld rfl (List.Sublist.cons_cons _ (List.Sublist.cons _ (List.nil_sublist _)))) (wan_none rfl) (fun h hm => pu_fieldAddr rfl (by exact fun w => siz _ w)) (by (simp only [setD, List.set_cons_succ, List.set_cons_zero]; exact rfl)) ?_
    first | refine aw_take 8 rfl (by kernel_rfl) (by kernel_rfl) (by kernel_rfl) (hm.hld rfl (List.Sublist.cons_cons _ (List.Sublist.cons _ (List.nil_sublist _)))) (wan_none rfl) (fun h hm => pu_load rfl (hm.own (j := 0) rfl rfl)) (by (simp only [setD, List.set_cons_succ, List.set_cons_zero]; exact rfl)) ?_ | refine aw_take 8 rfl (by kernel_rfl) (by kernel_rfl) (by kernel_rfl) (hm.hld rfl (List.Sublist.cons_cons _ (List.Sublist.cons _ (List.nil_sublist _)))) (wan_none rfl) (fun h hm => pu_load rfl (hc' hm.ext)) (by (simp only [setD, List.set_cons_succ, List.set_cons_zero]; exact rfl)) ?_
    refine aw_take 9 rfl (by kernel_rfl) (by kernel_rfl) (by kernel_rfl) (hm.hld rfl (List.Sublist.cons_cons _ (List.Sublist.cons _ (List.nil_sublist _)))) (wan_none rfl) (fun h hm => pu_build rfl rfl (by (simp only [put1, List.map_cons, List.map_nil, ev, List.getD_cons_succ, List.getD_cons_zero, List.set_cons_succ, List.set_cons_zero]; exact rfl))) (by (simp only [setD, List.set_cons_succ, List.set_cons_zero]; exact rfl)) ?_
    refine aw_two 4 10 rfl rfl (by kernel_rfl) ?_ ?_
    first | refine lw_pu (wan_none rfl) (pu_load rfl (hm.own (j := 1) rfl rfl)) (by (simp only [setD, List.set_cons_succ, List.set_cons_zero]; exact rfl)) ?_ | refine lw_pu (wan_none rfl) (pu_load rfl (hc' hm.ext)) (by (simp only [setD, List.set_cons_succ, List.set_cons_zero]; exact rfl)) ?_
    refine lw_nil ⟨hm.hld rfl (List.Sublist.cons_cons _ (List.Sublist.cons _ (List.nil_sublist _))), ?_⟩
    refine aw_step 10 rfl (by kernel_rfl) ?_
    refine lw_buildSlice1 (wan_none rfl) (by exact rfl) (by (simp only [ev, List.getD_cons_succ, List.getD_cons_zero]; exact rfl)) (by exact rfl) (by exact rfl) (by decide) (by decide) hm ?_; clear hm; intro b25 h hm; refine lw_norm (by (simp only [setD, List.set_cons_succ, List.set_cons_zero]; exact rfl)) ?_
    refine lw_nil ⟨hm.hld rfl (List.Sublist.cons _ (List.Sublist.cons_cons _ (List.Sublist.cons _ (List.nil_sublist _)))), ?_⟩
    refine aw_step 11 rfl (by kernel_rfl) ?_
    refine lw_append1t (L1 := [_, _, _]) (wan_none rfl) rfl rfl (by exact rfl) hm (by assumption) (by exact rfl) (hm.row (j := 0) rfl) (by exact rfl) (by simp [Value.oneCell']) (by decide) (by decide) (by omega) ?_; clear hm; intro q26 cp26 Lv26 h hs26 hm; (try simp only [List.cons_append, List.nil_append] at hm); refine lw_norm (by (simp only [setD, List.set_cons_succ, List.set_cons_zero]; exact rfl)) ?_
    refine lw_nil ⟨hm.hld rfl (List.Sublist.cons _ (List.Sublist.cons_cons _ (List.Sublist.cons _ (List.nil_sublist _)))), ?_⟩
    refine aw_take 12 rfl (by kernel_rfl) (by kernel_rfl) (by kernel_rfl) (hm.hld rfl (List.Sublist.cons _ (List.Sublist.cons_cons _ (List.Sublist.cons _ (List.nil_sublist _))))) (wan_none rfl) (fun h hm => pu_nilCheck_p rfl) (by (simp only [setD, List.set_cons_succ, List.set_cons_zero]; exact rfl)) ?_
    refine aw_take 13 rfl (by kernel_rfl) (by kernel_rfl) (by kernel_rfl) (hm.hld rfl (List.Sublist.cons _ (List.Sublist.cons_cons _ (List.Sublist.cons _ (List.nil_sublist _))))) (wan_none rfl) (fun h hm => pu_fieldAddr rfl (by exact fun w => siz _ w)) (by (simp only [setD, List.set_cons_succ, List.set_cons_zero]; exact rfl)) ?_
    refine aw_step 14 rfl (by kernel_rfl) ?_
    refine lw_store_own (j := 2) (wan_none rfl) rfl (by (simp only [ev, List.getD_cons_succ, List.getD_cons_zero]; exact rfl)) rfl hm rfl (by first | exact Nat.le_of_ble_eq_true rfl | simp) (by (simp only [List.set_cons_succ, List.set_cons_zero]; exact rfl)) (by (simp only [setD, List.set_cons_succ, List.set_cons_zero]; exact rfl)) ?_; clear hm; intro h hm
    refine lw_nil ⟨hm.hld rfl (List.Sublist.cons _ (List.Sublist.cons_cons _ (List.Sublist.cons _ (List.nil_sublist _)))), ?_⟩
    refine aw_done (by kernel_rfl) ?_; refine hK _ _ ?_; clear hK K
    refine tw_inBlock ?_
    refine tw_region (fun K hK => ?_)
    first | refine lw_pu (wan_none rfl) (pu_addn (n := 1) rfl rfl (by omega)) (by (simp only [setD, List.set_cons_succ, List.set_cons_zero]; exact rfl)) ?_ | refine lw_pu (wan_none rfl) (pu_addi rfl rfl (by omega) (by omega)) (by (simp only [setD, List.set_cons_succ, List.set_cons_zero]; exact rfl)) ?_ | refine lw_pu (wan_none rfl) (pu_add rfl rfl) (by (simp only [setD, List.set_cons_succ, List.set_cons_zero]; exact rfl)) ?_
    refine lw_pu (wan_none rfl) (pu_move (by (simp only [ev, List.getD_cons_succ, List.getD_cons_zero]; exact rfl))) (by (simp only [setD, List.set_cons_succ, List.set_cons_zero]; exact rfl)) ?_
    refine lw_nil ?_; refine hK _ _ ?_; clear hK K
    rotate_left 1
    refine lw_buildSlice1 (wan_none rfl) (by exact rfl) (by (simp only [ev, List.getD_cons_succ, List.getD_cons_zero]; exact rfl)) (by exact rfl) (by exact rfl) (by decide) (by decide) hm ?_; clear hm; intro b25 h hm; refine lw_norm (by (simp only [setD, List.set_cons_succ, List.set_cons_zero]; exact rfl)) ?_
    refine lw_nil ⟨hm.hld rfl (List.Sublist.cons _ (List.Sublist.cons_cons _ (List.Sublist.cons _ (List.nil_sublist _)))), ?_⟩
    refine aw_step 4 rfl (by kernel_rfl) ?_
    first | refine lw_pu (wan_none rfl) (pu_load rfl (hm.own (j := 2) rfl rfl)) (by (simp only [setD, List.set_cons_succ, List.set_cons_zero]; exact rfl)) ?_ | refine lw_pu (wan_none rfl) (pu_load rfl (hc' hm.ext)) (by (simp only [setD, List.set_cons_succ, List.set_cons_zero]; exact rfl)) ?_
    refine lw_nil ⟨hm.hld rfl (List.Sublist.cons _ (List.Sublist.cons_cons _ (List.Sublist.cons _ (List.nil_sublist _)))), ?_⟩
    refine aw_step 11 rfl (by kernel_rfl) ?_
    refine lw_append1t (L1 := [_, _, _]) (wan_none rfl) rfl rfl (by exact rfl) hm (by assumption) (by exact rfl) (hm.row (j := 0) rfl) (by exact rfl) (by simp [Value.oneCell']) (by decide) (by decide) (by omega) ?_; clear hm; intro q26 cp26 Lv26 h hs26 hm; (try simp only [List.cons_append, List.nil_append] at hm); refine lw_norm (by (simp only [setD, List.set_cons_succ, List.set_cons_zero]; exact rfl)) ?_
    refine lw_nil ⟨hm.hld rfl (List.Sublist.cons _ (List.Sublist.cons_cons _ (List.Sublist.cons _ (List.nil_sublist _)))), ?_⟩
    refine aw_take 12 rfl (by kernel_rfl) (by kernel_rfl) (by kernel_rfl) (hm.hld rfl (List.Sublist.cons _ (List.Sublist.cons_cons _ (List.Sublist.cons _ (List.nil_sublist _))))) (wan_none rfl) (fun h hm => pu_nilCheck_p rfl) (by (simp only [setD, List.set_cons_succ, List.set_cons_zero]; exact rfl)) ?_
    refine aw_take 13 rfl (by kernel_rfl) (by kernel_rfl) (by kernel_rfl) (hm.hld rfl (List.Sublist.cons _ (List.Sublist.cons_cons _ (List.Sublist.cons _ (List.nil_sublist _))))) (wan_none rfl) (fun h hm => pu_fieldAddr rfl (by exact fun w => siz _ w)) (by (simp only [setD, List.set_cons_succ, List.set_cons_zero]; exact rfl)) ?_
    refine aw_step 14 rfl (by kernel_rfl) ?_
    refine lw_store_own (j := 2) (wan_none rfl) rfl (by (simp only [ev, List.getD_cons_succ, List.getD_cons_zero]; exact rfl)) rfl hm rfl (by first | exact Nat.le_of_ble_eq_true rfl | simp) (by (simp only [List.set_cons_succ, List.set_cons_zero]; exact rfl)) (by (simp only [setD, List.set_cons_succ, List.set_cons_zero]; exact rfl)) ?_; clear hm; intro h hm
    refine lw_nil ⟨hm.hld rfl (List.Sublist.cons _ (List.Sublist.cons_cons _ (List.Sublist.cons _ (List.nil_sublist _)))), ?_⟩
    refine aw_done (by kernel_rfl) ?_; refine hK _ _ ?_; clear hK K
    refine tw_inBlock ?_
    refine tw_region (fun K hK => ?_)
    first | refine lw_pu (wan_none rfl) (pu_addn (n := 1) rfl rfl (by omega)) (by (simp only [setD, List.set_cons_succ, List.set_cons_zero]; exact rfl)) ?_ | refine lw_pu (wan_none rfl) (pu_addi rfl rfl (by omega) (by omega)) (by (simp only [setD, List.set_cons_succ, List.set_cons_zero]; exact rfl)) ?_ | refine lw_pu (wan_none rfl) (pu_add rfl rfl) (by (simp only [setD, List.set_cons_succ, List.set_cons_zero]; exact rfl)) ?_
    refine lw_pu (wan_none rfl) (pu_move (by (simp only [ev, List.getD_cons_succ, List.getD_cons_zero]; exact rfl))) (by (simp only [setD, List.set_cons_succ, List.set_cons_zero]; exact rfl)) ?_
    refine lw_nil ?_; refine hK _ _ ?_; clear hK K
    rotate_left 1
    -- left: round | round
    all_goals
      refine IH (i + 1, q26, cp26, Lv26) _ _ (by simp; omega) rfl ⟨hm.tl.tl, by simp; omega, ?_⟩
      have ht : List.map hrow (List.take (i + 1) xs) = List.map hrow (List.take i xs) ++ [hrow a] := by
        rw [List.take_add_one, ha, List.map_append]
        rfl
      show SlO 3 86 q26 (i + 1) cp26 Lv26 (List.map hrow (List.take (i + 1) xs))
      rw [ht]
      exact hs26
  · obtain rfl : i = xs.length := by omega
    rw [List.take_length] at hs
    exact ⟨_, ⟨b33, b31, b8, qa, ca, Lv, rfl, hs, rfl⟩, hm⟩

/-- Where a key is first. -/
def First (xs : List At) (key : List UInt8) (i : Nat) : Prop := (∃ a, xs[i]? = some a ∧ a.1 = key) ∧ ∀ j a, j < i → xs[j]? = some a → a.1 ≠ key
theorem getAttr_ret (xs : List At) (key : List UInt8) (N : Nat) (q : Option Addr) (cp : Nat) (h0 : Array Obj) (hmax : xs.length ≤ 2 ^ 32) (hN : cell h0 ⟨N, 9, none⟩ = some (.slice q xs.length cp)) (hr : SlR h0 3 q (xs.map hrow)) : Ret Try.prog 49 [bs key, .pointer (some ⟨N, 0, none⟩)] h0 fun v h => ((∃ i, First xs key i ∧ q = some ⟨blk q, offs q, none⟩ ∧ v = .pointer (some ⟨blk q, offs q + i * 3, none⟩)) ∨ (∀ a ∈ xs, a.1 ≠ key) ∧ v = .pointer none) ∧ Ext h0 h := by
  have hm := Mem.refl h0
  have hN' : ∀ {h}, Ext h0 h → cell h ⟨N, 9, none⟩ = some (.slice q xs.length cp) := fun he => he.cell hN
  refine ret_of_tw (ρ := ((bs key) :: (.pointer (some ⟨N, 0, none⟩)) :: undef :: undef :: undef :: undef :: undef :: undef :: undef :: undef :: undef :: undef :: undef :: undef :: undef :: undef :: undef :: undef :: undef :: undef :: undef :: undef :: undef :: undef :: undef :: undef :: undef :: undef :: undef :: undef :: [])) Try.func49 rfl rfl (fun E => ?_)
  refine tw_seq ?_
  refine tw_region (fun K hK => ?_)
  refine lw_pu (wan_none rfl) (pu_assign (by (simp only [ev, List.getD_cons_succ, List.getD_cons_zero]; exact rfl))) (by (simp only [setD, List.set_cons_succ, List.set_cons_zero]; exact rfl)) ?_
  refine lw_nil ?_; refine hK _ _ ?_; clear hK K
  refine tw_seq ?_
  refine tw_seq ?_
  refine tw_region (fun K hK => ?_)
  refine lw_pu (wan_none rfl) (pu_move (by (simp only [ev, List.getD_cons_succ, List.getD_cons_zero]; exact rfl))) (by (simp only [setD, List.set_cons_succ, List.set_cons_zero]; exact rfl)) ?_
  refine lw_pu (wan_none rfl) (pu_false (pu_eql_pt rfl rfl) (by simp)) (by (simp only [setD, List.set_cons_succ, List.set_cons_zero]; exact rfl)) ?_
  refine lw_nil ?_; refine hK _ _ ?_; clear hK K
  refine tw_cond_f rfl ?_
  refine tw_skip ?_
  refine tw_seq ?_
  refine tw_seq ?_
  refine tw_region (fun K hK => ?_)
  refine lw_pu (wan_none rfl) (pu_move (by (simp only [ev, List.getD_cons_succ, List.getD_cons_zero]; exact rfl))) (by (simp only [setD, List.set_cons_succ, List.set_cons_zero]; exact rfl)) ?_
  refine lw_pu (wan_none rfl) (pu_nilCheck_p rfl) (by (simp only [setD, List.set_cons_succ, List.set_cons_zero]; exact rfl)) ?_
  refine lw_pu (wan_none rfl) (pu_fieldAddr rfl (by exact fun w => siz _ w)) (by (simp only [setD, List.set_cons_succ, List.set_cons_zero]; exact rfl)) ?_
  refine lw_pu (wan_none rfl) (pu_load rfl (hN' hm.ext)) (by (simp only [setD, List.set_cons_succ, List.set_cons_zero]; exact rfl)) ?_
  refine lw_pu (wan_none rfl) (pu_lensl rfl rfl) (by (simp only [setD, List.set_cons_succ, List.set_cons_zero]; exact rfl)) ?_
  refine lw_pu (wan_none rfl) (pu_move (by (simp only [ev, List.getD_cons_succ, List.getD_cons_zero]; exact rfl))) (by (simp only [setD, List.set_cons_succ, List.set_cons_zero]; exact rfl)) ?_
  refine lw_nil ?_; refine hK _ _ ?_; clear hK K
  refine tw_block ?_
  rotate_left 1
  -- left: loop
  refine tw_loopJ (X := Nat) (fun i => xs.length - i) (fun i J => (bs key :: .pointer (some ⟨N, 0, none⟩) :: J 2 :: J 3 :: J 4 :: J 5 :: J 6 :: J 7 :: J 8 :: J 9 :: J 10 :: J 11 :: .slice q xs.length cp :: .int .i64 (xs.length : Int) :: .int .i64 (i : Int) :: J 15 :: J 16 :: J 17 :: J 18 :: J 19 :: J 20 :: J 21 :: J 22 :: J 23 :: J 24 :: J 25 :: J 26 :: J 27 :: J 28 :: J 29 :: [])) (fun i h => Mem h0 h [] [] ∧ i ≤ xs.length ∧ ∀ j (a : At), j < i → xs[j]? = some a → a.1 ≠ key) 0 rfl ⟨hm, by simp, fun _ _ h => absurd h (Nat.not_lt_zero _)⟩ ?_
  clear hm
  rintro i J h ⟨hm, hi, hne⟩ IH
  refine tw_seq ?_
  refine tw_region (fun K hK => ?_)
  refine lw_pu (wan_none rfl) (pu_lss rfl rfl) (by (simp only [setD, List.set_cons_succ, List.set_cons_zero]; exact rfl)) ?_
  refine lw_nil ?_; refine hK _ _ ?_; clear hK K
  refine tw_seq ?_
  refine tw_cond_ds rfl (by (simp only [List.set_cons_succ, List.set_cons_zero]; exact rfl)) (by (simp only [List.set_cons_succ, List.set_cons_zero]; exact rfl)) (fun hq => ?_) (fun hq => ?_)
  refine tw_skip ?_
  refine tw_seq ?_
  refine tw_block ?_
  refine tw_seq ?_
  refine tw_region (fun K hK => ?_)
  rotate_left 1
  refine tw_exit rfl ?_
  refine tw_seq ?_
  refine tw_region (fun K hK => ?_)
  refine lw_pu (wan_none rfl) (pu_assign (by (simp only [ev, List.getD_cons_succ, List.getD_cons_zero]; exact rfl))) (by (simp only [setD, List.set_cons_succ, List.set_cons_zero]; exact rfl)) ?_
  refine lw_nil ?_; refine hK _ _ ?_; clear hK K
  refine tw_ret1 Try.func49 Try.results49 (by (simp only [ev, List.getD_cons_succ, List.getD_cons_zero]; exact rfl)) ?_
  rotate_left 1
  -- left: region 5 op 0 | ret
  · obtain ⟨a, ha, hq', hc⟩ := hr.at (i := i) (by omega)
    have hc' : ∀ {h}, Ext h0 h → cellsFrom h (blk q) (offs q + i * 3) (hrow a) := fun he => he.cells hc
    refine lw_pu (wan_none rfl) (pu_move (by (simp only [ev, List.getD_cons_succ, List.getD_cons_zero]; exact rfl))) (by (simp only [setD, List.set_cons_succ, List.set_cons_zero]; exact rfl)) ?_
    first | refine lw_pu (wan_none rfl) (pu_indexAddrQ rfl rfl (by omega) (by assumption)) (by (simp only [setD, List.set_cons_succ, List.set_cons_zero]; exact rfl)) ?_ | refine lw_pu (wan_none rfl) (pu_indexAddr rfl rfl (by omega)) (by (simp only [setD, List.set_cons_succ, List.set_cons_zero]; exact rfl)) ?_
    first | refine lw_pu (wan_none rfl) (pu_loadAgg rfl rfl (hc' hm.ext)) (by (simp only [setD, List.set_cons_succ, List.set_cons_zero]; exact rfl)) ?_ | refine lw_pu (wan_none rfl) (pu_loadAgg rfl rfl (hN' hm.ext)) (by (simp only [setD, List.set_cons_succ, List.set_cons_zero]; exact rfl)) ?_
    refine lw_alloc (wan_none rfl) rfl hm ?_; clear hm; intro b6 h hm; refine lw_norm (by (simp only [setD, List.set_cons_succ, List.set_cons_zero]; exact rfl)) ?_
    refine lw_pu (wan_none rfl) (pu_assign (by (simp only [ev, List.getD_cons_succ, List.getD_cons_zero]; exact rfl))) (by (simp only [setD, List.set_cons_succ, List.set_cons_zero]; exact rfl)) ?_
    refine lw_storeAgg_own (j := 0) (wan_none rfl) rfl rfl rfl rfl hm rfl rfl (by (simp only [List.set_cons_succ, List.set_cons_zero]; exact rfl)) (by (simp only [setD, List.set_cons_succ, List.set_cons_zero]; exact rfl)) ?_; clear hm; intro h hm
    refine lw_nil ?_; refine hK _ _ ?_; clear hK K
    refine tw_seq ?_
    refine tw_region (fun K hK => ?_)
    refine lw_pu (wan_none rfl) (pu_fieldAddr rfl (by exact fun w => siz _ w)) (by (simp only [setD, List.set_cons_succ, List.set_cons_zero]; exact rfl)) ?_
    first | refine lw_pu (wan_none rfl) (pu_load rfl (hm.own (j := 0) rfl rfl)) (by (simp only [setD, List.set_cons_succ, List.set_cons_zero]; exact rfl)) ?_ | refine lw_pu (wan_none rfl) (pu_load rfl (hc' hm.ext)) (by (simp only [setD, List.set_cons_succ, List.set_cons_zero]; exact rfl)) ?_ | refine lw_pu (wan_none rfl) (pu_load rfl (hN' hm.ext)) (by (simp only [setD, List.set_cons_succ, List.set_cons_zero]; exact rfl)) ?_
    refine lw_pu (wan_none rfl) (pu_move (by (simp only [ev, List.getD_cons_succ, List.getD_cons_zero]; exact rfl))) (by (simp only [setD, List.set_cons_succ, List.set_cons_zero]; exact rfl)) ?_
    refine lw_pu (wan_none rfl) (pu_eqs rfl rfl) (by (simp only [setD, List.set_cons_succ, List.set_cons_zero]; exact rfl)) ?_
    refine lw_nil ?_; refine hK _ _ ?_; clear hK K
    refine tw_cond_ds rfl (by (simp only [List.set_cons_succ, List.set_cons_zero]; exact rfl)) (by (simp only [List.set_cons_succ, List.set_cons_zero]; exact rfl)) (fun hq => ?_) (fun hq => ?_)
    refine tw_seq ?_
    refine tw_region (fun K hK => ?_)
    refine lw_pu (wan_none rfl) (pu_move (by (simp only [ev, List.getD_cons_succ, List.getD_cons_zero]; exact rfl))) (by (simp only [setD, List.set_cons_succ, List.set_cons_zero]; exact rfl)) ?_
    refine lw_pu (wan_none rfl) (pu_nilCheck_p rfl) (by (simp only [setD, List.set_cons_succ, List.set_cons_zero]; exact rfl)) ?_
    refine lw_pu (wan_none rfl) (pu_fieldAddr rfl (by exact fun w => siz _ w)) (by (simp only [setD, List.set_cons_succ, List.set_cons_zero]; exact rfl)) ?_
    first | refine lw_pu (wan_none rfl) (pu_load rfl (hc' hm.ext)) (by (simp only [setD, List.set_cons_succ, List.set_cons_zero]; exact rfl)) ?_ | refine lw_pu (wan_none rfl) (pu_load rfl (hN' hm.ext)) (by (simp only [setD, List.set_cons_succ, List.set_cons_zero]; exact rfl)) ?_
    refine lw_pu (wan_none rfl) (pu_move (by (simp only [ev, List.getD_cons_succ, List.getD_cons_zero]; exact rfl))) (by (simp only [setD, List.set_cons_succ, List.set_cons_zero]; exact rfl)) ?_
    first | refine lw_pu (wan_none rfl) (pu_indexAddrQ rfl rfl (by omega) (by assumption)) (by (simp only [setD, List.set_cons_succ, List.set_cons_zero]; exact rfl)) ?_ | refine lw_pu (wan_none rfl) (pu_indexAddr rfl rfl (by omega)) (by (simp only [setD, List.set_cons_succ, List.set_cons_zero]; exact rfl)) ?_
    refine lw_pu (wan_none rfl) (pu_assign (by (simp only [ev, List.getD_cons_succ, List.getD_cons_zero]; exact rfl))) (by (simp only [setD, List.set_cons_succ, List.set_cons_zero]; exact rfl)) ?_
    refine lw_nil ?_; refine hK _ _ ?_; clear hK K
    refine tw_ret1 Try.func49 Try.results49 (by (simp only [ev, List.getD_cons_succ, List.getD_cons_zero]; exact rfl)) ?_
    rotate_left 1
    refine tw_skip ?_
    refine tw_inBlock ?_
    refine tw_region (fun K hK => ?_)
    first | refine lw_pu (wan_none rfl) (pu_addn (n := 1) rfl rfl (by omega)) (by (simp only [setD, List.set_cons_succ, List.set_cons_zero]; exact rfl)) ?_ | refine lw_pu (wan_none rfl) (pu_addi rfl rfl (by omega) (by omega)) (by (simp only [setD, List.set_cons_succ, List.set_cons_zero]; exact rfl)) ?_ | refine lw_pu (wan_none rfl) (pu_add rfl rfl) (by (simp only [setD, List.set_cons_succ, List.set_cons_zero]; exact rfl)) ?_
    refine lw_pu (wan_none rfl) (pu_move (by (simp only [ev, List.getD_cons_succ, List.getD_cons_zero]; exact rfl))) (by (simp only [setD, List.set_cons_succ, List.set_cons_zero]; exact rfl)) ?_
    refine lw_nil ?_; refine hK _ _ ?_; clear hK K
    rotate_left 1
    -- left: ret | round
    · exact ⟨.inl ⟨i, ⟨⟨a, ha, by assumption⟩, hne⟩, hq', rfl⟩, hm.ext⟩
    · exact IH (i + 1) _ _ (by omega) rfl ⟨hm.tl, by omega, fun j b h1 h2 => by
        rcases Nat.lt_or_ge j i with h3 | h3
        · exact hne j b h3 h2
        · (have h4 : j = i := by omega); subst h4; rw [ha] at h2; cases h2; assumption⟩
  · refine ⟨.inr ⟨fun a ha => ?_, rfl⟩, hm.ext⟩
    obtain ⟨j, hj⟩ := List.mem_iff_getElem?.1 ha
    exact hne j a (by have := (List.getElem?_eq_some_iff.1 hj).1; omega) hj

/-- What setting leaves. -/
def Put (xs : List At) (key val : List UInt8) (ys : List At) : Prop := (∃ i, First xs key i ∧ ys = xs.set i (key, val)) ∨ ((∀ a ∈ xs, a.1 ≠ key) ∧ ys = xs ++ [(key, val)])
abbrev Elem (S Bs N : Nat) (q : Option Addr) (n cp : Nat) (Lv : List Blk) : List Blk :=
  (S, [.slice (some ⟨Bs, 0, none⟩) 1 1, .pointer none, .pointer none], 89) :: (Bs, [.pointer (some ⟨N, 0, none⟩)], 56) :: (N, ncells (.slice q n cp), 84) :: Lv
theorem setAttr_ret {h0 h : Array Obj} {M : List Blk} (xs : List At) (key val : List UInt8) (S Bs N : Nat) (q : Option Addr) (cp : Nat) (Lv : List Blk) (hmax : xs.length ≤ 2 ^ 31) (hm : Mem h0 h M (Elem S Bs N q xs.length cp Lv)) (hs : SlO 3 86 q xs.length cp Lv (xs.map hrow)) :
    Ret Try.prog 33 [.pointer (some ⟨S, 0, none⟩), bs key, bs val] h fun v h' => ∃ ys q' cp' Lv', Put xs key val ys ∧ SlO 3 86 q' ys.length cp' Lv' (ys.map hrow) ∧ Mem h0 h' M (Elem S Bs N q' ys.length cp' Lv') := by
  unfold Elem at hm
  refine ret_of_tw (ρ := ((.pointer (some ⟨S, 0, none⟩)) :: (bs key) :: (bs val) :: undef :: undef :: undef :: undef :: undef :: undef :: undef :: undef :: undef :: undef :: undef :: undef :: undef :: undef :: undef :: undef :: undef :: undef :: undef :: undef :: undef :: undef :: undef :: undef :: undef :: undef :: undef :: undef :: undef :: undef :: undef :: undef :: undef :: undef :: undef :: undef :: undef :: undef :: undef :: [])) Try.func33 rfl rfl (fun E => ?_)
  refine tw_seq ?_
  refine tw_region (fun K hK => ?_)
  refine lw_pu (wan_none rfl) (pu_assign (by (simp only [ev, List.getD_cons_succ, List.getD_cons_zero]; exact rfl))) (by (simp only [setD, List.set_cons_succ, List.set_cons_zero]; exact rfl)) ?_
  refine lw_nil ?_; refine hK _ _ ?_; clear hK K
  refine tw_seq ?_
  refine tw_seq ?_
  refine tw_region (fun K hK => ?_)
  refine lw_pu (wan_none rfl) (pu_move (by (simp only [ev, List.getD_cons_succ, List.getD_cons_zero]; exact rfl))) (by (simp only [setD, List.set_cons_succ, List.set_cons_zero]; exact rfl)) ?_
  refine lw_pu (wan_none rfl) (pu_nilCheck_p rfl) (by (simp only [setD, List.set_cons_succ, List.set_cons_zero]; exact rfl)) ?_
  refine lw_pu (wan_none rfl) (pu_fieldAddr rfl (by exact fun w => siz _ w)) (by (simp only [setD, List.set_cons_succ, List.set_cons_zero]; exact rfl)) ?_
  first | refine lw_pu (wan_none rfl) (pu_load rfl (hm.own (j := 0) rfl rfl)) (by (simp only [setD, List.set_cons_succ, List.set_cons_zero]; exact rfl)) ?_ | refine lw_pu (wan_none rfl) (pu_load rfl (hm.own (j := 1) rfl rfl)) (by (simp only [setD, List.set_cons_succ, List.set_cons_zero]; exact rfl)) ?_
  refine lw_pu (wan_none rfl) (pu_lensl rfl rfl) (by (simp only [setD, List.set_cons_succ, List.set_cons_zero]; exact rfl)) ?_
  refine lw_pu (wan_none rfl) (pu_move (by (simp only [ev, List.getD_cons_succ, List.getD_cons_zero]; exact rfl))) (by (simp only [setD, List.set_cons_succ, List.set_cons_zero]; exact rfl)) ?_
  refine lw_nil ?_; refine hK _ _ ?_; clear hK K
  refine tw_block ?_
  refine tw_loop0 ?_
  refine tw_seq ?_
  refine tw_region (fun K hK => ?_)
  refine lw_pu (wan_none rfl) (pu_true (pu_lss rfl rfl) (by omega)) (by (simp only [setD, List.set_cons_succ, List.set_cons_zero]; exact rfl)) ?_
  refine lw_nil ?_; refine hK _ _ ?_; clear hK K
  refine tw_seq ?_
  refine tw_cond_t rfl ?_
  refine tw_skip ?_
  refine tw_seq ?_
  refine tw_block ?_
  refine tw_seq ?_
  refine tw_region (fun K hK => ?_)
  first | refine lw_pu (wan_none rfl) (pu_indexAddrQ (n := 0) rfl rfl (by omega) (by assumption)) (by (simp only [setD, List.set_cons_succ, List.set_cons_zero]; exact rfl)) ?_ | refine lw_pu (wan_none rfl) (pu_indexAddr (n := 0) rfl rfl (by omega)) (by (simp only [setD, List.set_cons_succ, List.set_cons_zero]; exact rfl)) ?_
  first | refine lw_pu (wan_none rfl) (pu_load rfl (hm.own (j := 0) rfl rfl)) (by (simp only [setD, List.set_cons_succ, List.set_cons_zero]; exact rfl)) ?_ | refine lw_pu (wan_none rfl) (pu_load rfl (hm.own (j := 1) rfl rfl)) (by (simp only [setD, List.set_cons_succ, List.set_cons_zero]; exact rfl)) ?_
  refine lw_pu (wan_none rfl) (pu_assign (by (simp only [ev, List.getD_cons_succ, List.getD_cons_zero]; exact rfl))) (by (simp only [setD, List.set_cons_succ, List.set_cons_zero]; exact rfl)) ?_
  refine lw_nil ?_; refine hK _ _ ?_; clear hK K
  refine tw_seq ?_
  refine tw_region (fun K hK => ?_)
  refine lw_pu (wan_none rfl) (pu_move (by (simp only [ev, List.getD_cons_succ, List.getD_cons_zero]; exact rfl))) (by (simp only [setD, List.set_cons_succ, List.set_cons_zero]; exact rfl)) ?_
  refine lw_pu (wan_none rfl) (pu_move (by (simp only [ev, List.getD_cons_succ, List.getD_cons_zero]; exact rfl))) (by (simp only [setD, List.set_cons_succ, List.set_cons_zero]; exact rfl)) ?_
  rotate_left 1
  -- left: region 4 op 2
  refine lw_cal (wan_none rfl) (getAttr_ret xs key N q cp _ (by omega) (hm.own (j := 2) rfl rfl) (hs.rd hm (fun p hp => List.mem_append_right _ (List.mem_cons_of_mem _ (List.mem_cons_of_mem _ (List.mem_cons_of_mem _ hp)))))) ?_
  rintro _ h1 ⟨(⟨i, hf, hq', rfl⟩ | ⟨hn, rfl⟩), he⟩
  · replace hm := hm.call he
    refine lw_norm (by (simp only [setD, List.set_cons_succ, List.set_cons_zero]; exact rfl)) ?_
    refine lw_pu (wan_none rfl) (pu_assign (by (simp only [ev, List.getD_cons_succ, List.getD_cons_zero]; exact rfl))) (by (simp only [setD, List.set_cons_succ, List.set_cons_zero]; exact rfl)) ?_
    refine lw_nil ?_; refine hK _ _ ?_; clear hK K
    refine tw_seq ?_
    refine tw_region (fun K hK => ?_)
    refine lw_pu (wan_none rfl) (pu_move (by (simp only [ev, List.getD_cons_succ, List.getD_cons_zero]; exact rfl))) (by (simp only [setD, List.set_cons_succ, List.set_cons_zero]; exact rfl)) ?_
    refine lw_pu (wan_none rfl) (pu_false (pu_eql_pt rfl rfl) (by simp)) (by (simp only [setD, List.set_cons_succ, List.set_cons_zero]; exact rfl)) ?_
    refine lw_nil ?_; refine hK _ _ ?_; clear hK K
    refine tw_cond_f rfl ?_
    refine tw_region (fun K hK => ?_)
    refine lw_pu (wan_none rfl) (pu_move (by (simp only [ev, List.getD_cons_succ, List.getD_cons_zero]; exact rfl))) (by (simp only [setD, List.set_cons_succ, List.set_cons_zero]; exact rfl)) ?_
    refine lw_pu (wan_none rfl) (pu_move (by (simp only [ev, List.getD_cons_succ, List.getD_cons_zero]; exact rfl))) (by (simp only [setD, List.set_cons_succ, List.set_cons_zero]; exact rfl)) ?_
    refine lw_pu (wan_none rfl) (pu_nilCheck_p rfl) (by (simp only [setD, List.set_cons_succ, List.set_cons_zero]; exact rfl)) ?_
    refine lw_pu (wan_none rfl) (pu_fieldAddr rfl (by exact fun w => siz _ w)) (by (simp only [setD, List.set_cons_succ, List.set_cons_zero]; exact rfl)) ?_
    rotate_left 1
    -- left: region 7 op 4
    have hf' := hf
    obtain ⟨⟨a, ha, hak⟩, -⟩ := hf'
    refine lw_store_row (i := i) (o := 2) (r := hrow a) (L1 := [_, _, _]) (wan_none rfl) rfl (by (simp only [ev, List.getD_cons_succ, List.getD_cons_zero]; exact rfl)) rfl hm hs (by exact rfl) (by rw [List.getElem?_map, ha]; rfl) (by decide) ?_
    clear hm
    intro Lv' h hs' hm
    simp only [List.cons_append, List.nil_append] at hm
    refine lw_norm (by (simp only [setD, List.set_cons_succ, List.set_cons_zero]; exact rfl)) ?_
    refine lw_nil ?_; refine hK _ _ ?_; clear hK K
    refine tw_inBlock ?_
    refine tw_region (fun K hK => ?_)
    refine lw_pu (wan_none rfl) (pu_addn (m := 0) (n := 1) rfl rfl (by omega)) (by (simp only [setD, List.set_cons_succ, List.set_cons_zero]; exact rfl)) ?_
    refine lw_pu (wan_none rfl) (pu_move (by (simp only [ev, List.getD_cons_succ, List.getD_cons_zero]; exact rfl))) (by (simp only [setD, List.set_cons_succ, List.set_cons_zero]; exact rfl)) ?_
    refine lw_nil ?_; refine hK _ _ ?_; clear hK K
    refine tw_inLoop ?_
    refine tw_seq ?_
    refine tw_region (fun K hK => ?_)
    refine lw_pu (wan_none rfl) (pu_false (pu_lss rfl rfl) (by omega)) (by (simp only [setD, List.set_cons_succ, List.set_cons_zero]; exact rfl)) ?_
    refine lw_nil ?_; refine hK _ _ ?_; clear hK K
    refine tw_seq ?_
    refine tw_cond_f rfl ?_
    refine tw_exit rfl ?_
    refine tw_seq ?_
    refine tw_region (fun K hK => ?_)
    refine lw_pu (wan_none rfl) (pu_move (by (simp only [ev, List.getD_cons_succ, List.getD_cons_zero]; exact rfl))) (by (simp only [setD, List.set_cons_succ, List.set_cons_zero]; exact rfl)) ?_
    refine lw_pu (wan_none rfl) (pu_assign (by (simp only [ev, List.getD_cons_succ, List.getD_cons_zero]; exact rfl))) (by (simp only [setD, List.set_cons_succ, List.set_cons_zero]; exact rfl)) ?_
    refine lw_nil ?_; refine hK _ _ ?_; clear hK K
    refine tw_ret1 Try.func33 Try.results33 (by (simp only [ev, List.getD_cons_succ, List.getD_cons_zero]; exact rfl)) ?_
    rotate_left 1
    -- left: ret
    have hmap : List.map hrow (xs.set i (key, val)) = (List.map hrow xs).set i ((hrow a).set 2 (bs val)) := by
      rw [List.map_set, ← hak]
      rfl
    refine ⟨xs.set i (key, val), q, cp, Lv', .inl ⟨i, hf, rfl⟩, ?_, ?_⟩
    · rw [hmap, List.length_set]
      exact hs'
    · rw [List.length_set]
      exact hm
  · replace hm := hm.call he
    refine lw_norm (by (simp only [setD, List.set_cons_succ, List.set_cons_zero]; exact rfl)) ?_
    refine lw_pu (wan_none rfl) (pu_assign (by (simp only [ev, List.getD_cons_succ, List.getD_cons_zero]; exact rfl))) (by (simp only [setD, List.set_cons_succ, List.set_cons_zero]; exact rfl)) ?_
    refine lw_nil ?_; refine hK _ _ ?_; clear hK K
    refine tw_seq ?_
    refine tw_region (fun K hK => ?_)
    refine lw_pu (wan_none rfl) (pu_move (by (simp only [ev, List.getD_cons_succ, List.getD_cons_zero]; exact rfl))) (by (simp only [setD, List.set_cons_succ, List.set_cons_zero]; exact rfl)) ?_
    refine lw_pu (wan_none rfl) (pu_true (pu_eql_pt rfl rfl) (by simp)) (by (simp only [setD, List.set_cons_succ, List.set_cons_zero]; exact rfl)) ?_
    refine lw_nil ?_; refine hK _ _ ?_; clear hK K
    refine tw_cond_t rfl ?_
    refine tw_region (fun K hK => ?_)
    refine lw_pu (wan_none rfl) (pu_move (by (simp only [ev, List.getD_cons_succ, List.getD_cons_zero]; exact rfl))) (by (simp only [setD, List.set_cons_succ, List.set_cons_zero]; exact rfl)) ?_
    refine lw_pu (wan_none rfl) (pu_move (by (simp only [ev, List.getD_cons_succ, List.getD_cons_zero]; exact rfl))) (by (simp only [setD, List.set_cons_succ, List.set_cons_zero]; exact rfl)) ?_
    refine lw_pu (wan_none rfl) (pu_nilCheck_p rfl) (by (simp only [setD, List.set_cons_succ, List.set_cons_zero]; exact rfl)) ?_
    refine lw_pu (wan_none rfl) (pu_fieldAddr rfl (by exact fun w => siz _ w)) (by (simp only [setD, List.set_cons_succ, List.set_cons_zero]; exact rfl)) ?_
    first | refine lw_pu (wan_none rfl) (pu_load rfl (hm.own (j := 2) rfl rfl)) (by (simp only [setD, List.set_cons_succ, List.set_cons_zero]; exact rfl)) ?_ | refine lw_pu (wan_none rfl) (pu_load rfl (hm.own (j := 0) rfl rfl)) (by (simp only [setD, List.set_cons_succ, List.set_cons_zero]; exact rfl)) ?_ | refine lw_pu (wan_none rfl) (pu_load rfl (hm.own (j := 1) rfl rfl)) (by (simp only [setD, List.set_cons_succ, List.set_cons_zero]; exact rfl)) ?_
    refine lw_pu (wan_none rfl) (pu_move (by (simp only [ev, List.getD_cons_succ, List.getD_cons_zero]; exact rfl))) (by (simp only [setD, List.set_cons_succ, List.set_cons_zero]; exact rfl)) ?_
    refine lw_pu (wan_none rfl) (pu_move (by (simp only [ev, List.getD_cons_succ, List.getD_cons_zero]; exact rfl))) (by (simp only [setD, List.set_cons_succ, List.set_cons_zero]; exact rfl)) ?_
    refine lw_pu (wan_none rfl) (pu_build rfl rfl (by (simp only [put1, List.map_cons, List.map_nil, ev, List.getD_cons_succ, List.getD_cons_zero, List.set_cons_succ, List.set_cons_zero]; exact rfl))) (by (simp only [setD, List.set_cons_succ, List.set_cons_zero]; exact rfl)) ?_
    refine lw_buildSlice1 (wan_none rfl) (by exact rfl) (by (simp only [ev, List.getD_cons_succ, List.getD_cons_zero]; exact rfl)) (by exact rfl) (by exact rfl) (by decide) (by decide) hm ?_; clear hm; intro b32 h hm; refine lw_norm (by (simp only [setD, List.set_cons_succ, List.set_cons_zero]; exact rfl)) ?_
    refine lw_append1t (L1 := [_, _, _, _]) (wan_none rfl) rfl rfl (by exact rfl) hm (by assumption) (by exact rfl) (hm.row (j := 0) rfl) (by exact rfl) (by simp [Value.oneCell']) (by decide) (by decide) (by omega) ?_; clear hm; intro q33 cp33 Lv33 h hs33 hm; (try simp only [List.cons_append, List.nil_append] at hm); refine lw_norm (by (simp only [setD, List.set_cons_succ, List.set_cons_zero]; exact rfl)) ?_
    refine lw_pu (wan_none rfl) (pu_nilCheck_p rfl) (by (simp only [setD, List.set_cons_succ, List.set_cons_zero]; exact rfl)) ?_
    refine lw_pu (wan_none rfl) (pu_fieldAddr rfl (by exact fun w => siz _ w)) (by (simp only [setD, List.set_cons_succ, List.set_cons_zero]; exact rfl)) ?_
    refine lw_store_own (j := 3) (wan_none rfl) rfl (by (simp only [ev, List.getD_cons_succ, List.getD_cons_zero]; exact rfl)) rfl hm rfl (by first | exact Nat.le_of_ble_eq_true rfl | simp) (by (simp only [List.set_cons_succ, List.set_cons_zero]; exact rfl)) (by (simp only [setD, List.set_cons_succ, List.set_cons_zero]; exact rfl)) ?_; clear hm; intro h hm
    refine lw_nil ?_; refine hK _ _ ?_; clear hK K
    refine tw_inBlock ?_
    refine tw_region (fun K hK => ?_)
    refine lw_pu (wan_none rfl) (pu_addn (m := 0) (n := 1) rfl rfl (by omega)) (by (simp only [setD, List.set_cons_succ, List.set_cons_zero]; exact rfl)) ?_
    refine lw_pu (wan_none rfl) (pu_move (by (simp only [ev, List.getD_cons_succ, List.getD_cons_zero]; exact rfl))) (by (simp only [setD, List.set_cons_succ, List.set_cons_zero]; exact rfl)) ?_
    refine lw_nil ?_; refine hK _ _ ?_; clear hK K
    refine tw_inLoop ?_
    refine tw_seq ?_
    refine tw_region (fun K hK => ?_)
    refine lw_pu (wan_none rfl) (pu_false (pu_lss rfl rfl) (by omega)) (by (simp only [setD, List.set_cons_succ, List.set_cons_zero]; exact rfl)) ?_
    refine lw_nil ?_; refine hK _ _ ?_; clear hK K
    refine tw_seq ?_
    refine tw_cond_f rfl ?_
    refine tw_exit rfl ?_
    refine tw_seq ?_
    refine tw_region (fun K hK => ?_)
    refine lw_pu (wan_none rfl) (pu_move (by (simp only [ev, List.getD_cons_succ, List.getD_cons_zero]; exact rfl))) (by (simp only [setD, List.set_cons_succ, List.set_cons_zero]; exact rfl)) ?_
    refine lw_pu (wan_none rfl) (pu_assign (by (simp only [ev, List.getD_cons_succ, List.getD_cons_zero]; exact rfl))) (by (simp only [setD, List.set_cons_succ, List.set_cons_zero]; exact rfl)) ?_
    refine lw_nil ?_; refine hK _ _ ?_; clear hK K
    refine tw_ret1 Try.func33 Try.results33 (by (simp only [ev, List.getD_cons_succ, List.getD_cons_zero]; exact rfl)) ?_
    rotate_left 1
    -- left: ret
    have hmap : List.map hrow (xs ++ [(key, val)]) = List.map hrow xs ++ [hrow (key, val)] := by simp
    refine ⟨xs ++ [(key, val)], q33, cp33, Lv33, .inr ⟨hn, rfl⟩, ?_, ?_⟩
    · rw [hmap, List.length_append]
      exact hs33
    · rw [List.length_append]
      exact hm.tl

/-- The node as data, of an element. -/
def Data (tag : List UInt8) (xs : List At) (v : Value) (L : List Blk) : Prop := ∃ q cp, v = .agg #[.int .i64 3, bs tag, bs [], .slice q xs.length cp, .int .i64 0] ∧ SlO 2 34 q xs.length cp L (xs.map row)
theorem kindOf_ret (xs : List At) (tag : List UInt8) (N : Nat) (q : Option Addr) (cp : Nat) (h0 : Array Obj) (hmax : xs.length ≤ 2 ^ 32) (hN5 : cell h0 ⟨N, 5, none⟩ = some (.int .u32 3)) (hN7 : cell h0 ⟨N, 7, none⟩ = some (bs tag)) (hN9 : cell h0 ⟨N, 9, none⟩ = some (.slice q xs.length cp)) (hr : SlR h0 3 q (xs.map hrow)) :
    Ret Try.prog 50 [.pointer (some ⟨N, 0, none⟩)] h0 fun v h => ∃ L, Data tag xs v L ∧ Mem h0 h [] L := by
  have hm := Mem.refl h0
  have hN5' : ∀ {h}, Ext h0 h → cell h ⟨N, 5, none⟩ = some (.int .u32 3) := fun he => he.cell hN5
  have hN7' : ∀ {h}, Ext h0 h → cell h ⟨N, 7, none⟩ = some (bs tag) := fun he => he.cell hN7
  have hN9' : ∀ {h}, Ext h0 h → cell h ⟨N, 9, none⟩ = some (.slice q xs.length cp) := fun he => he.cell hN9
  refine ret_of_tw (ρ := ((.pointer (some ⟨N, 0, none⟩)) :: undef :: undef :: undef :: undef :: undef :: undef :: undef :: undef :: undef :: undef :: undef :: undef :: undef :: undef :: undef :: undef :: undef :: undef :: undef :: undef :: undef :: undef :: undef :: undef :: undef :: undef :: undef :: undef :: undef :: undef :: undef :: undef :: undef :: undef :: undef :: undef :: undef :: undef :: undef :: undef :: undef :: undef :: undef :: undef :: undef :: undef :: undef :: undef :: undef :: undef :: undef :: undef :: undef :: undef :: undef :: undef :: undef :: undef :: undef :: undef :: undef :: undef :: [])) Try.func50 rfl rfl (fun E => ?_)
  refine tw_seq ?_
  refine tw_region (fun K hK => ?_)
  refine lw_alloc (wan_none rfl) rfl hm ?_; clear hm; intro b2 h hm; refine lw_norm (by (simp only [setD, List.set_cons_succ, List.set_cons_zero]; exact rfl)) ?_
  refine lw_nil ?_; refine hK _ _ ?_; clear hK K
  refine tw_seq ?_
  refine tw_seq ?_
  refine tw_region (fun K hK => ?_)
  refine lw_pu (wan_none rfl) (pu_move (by (simp only [ev, List.getD_cons_succ, List.getD_cons_zero]; exact rfl))) (by (simp only [setD, List.set_cons_succ, List.set_cons_zero]; exact rfl)) ?_
  refine lw_pu (wan_none rfl) (pu_nilCheck_p rfl) (by (simp only [setD, List.set_cons_succ, List.set_cons_zero]; exact rfl)) ?_
  refine lw_pu (wan_none rfl) (pu_fieldAddr rfl (by exact fun w => siz _ w)) (by (simp only [setD, List.set_cons_succ, List.set_cons_zero]; exact rfl)) ?_
  first | refine lw_pu (wan_none rfl) (pu_load rfl (hN5' hm.ext)) (by (simp only [setD, List.set_cons_succ, List.set_cons_zero]; exact rfl)) ?_ | refine lw_pu (wan_none rfl) (pu_load rfl (hN7' hm.ext)) (by (simp only [setD, List.set_cons_succ, List.set_cons_zero]; exact rfl)) ?_ | refine lw_pu (wan_none rfl) (pu_load rfl (hN9' hm.ext)) (by (simp only [setD, List.set_cons_succ, List.set_cons_zero]; exact rfl)) ?_
  refine lw_nil ?_; refine hK _ _ ?_; clear hK K
  refine tw_block ?_
  refine tw_seq ?_
  refine tw_region (fun K hK => ?_)
  refine lw_pu (wan_none rfl) (pu_false (pu_eql rfl rfl) (by omega)) (by (simp only [setD, List.set_cons_succ, List.set_cons_zero]; exact rfl)) ?_
  refine lw_pu (wan_none rfl) (pu_assign (by (simp only [ev, List.getD_cons_succ, List.getD_cons_zero]; exact rfl))) (by (simp only [setD, List.set_cons_succ, List.set_cons_zero]; exact rfl)) ?_
  refine lw_nil ?_; refine hK _ _ ?_; clear hK K
  refine tw_cond_f rfl ?_
  refine tw_seq ?_
  refine tw_region (fun K hK => ?_)
  refine lw_pu (wan_none rfl) (pu_false (pu_eql rfl rfl) (by omega)) (by (simp only [setD, List.set_cons_succ, List.set_cons_zero]; exact rfl)) ?_
  refine lw_pu (wan_none rfl) (pu_assign (by (simp only [ev, List.getD_cons_succ, List.getD_cons_zero]; exact rfl))) (by (simp only [setD, List.set_cons_succ, List.set_cons_zero]; exact rfl)) ?_
  refine lw_nil ?_; refine hK _ _ ?_; clear hK K
  refine tw_cond_f rfl ?_
  refine tw_seq ?_
  refine tw_region (fun K hK => ?_)
  refine lw_pu (wan_none rfl) (pu_false (pu_eql rfl rfl) (by omega)) (by (simp only [setD, List.set_cons_succ, List.set_cons_zero]; exact rfl)) ?_
  refine lw_pu (wan_none rfl) (pu_assign (by (simp only [ev, List.getD_cons_succ, List.getD_cons_zero]; exact rfl))) (by (simp only [setD, List.set_cons_succ, List.set_cons_zero]; exact rfl)) ?_
  refine lw_nil ?_; refine hK _ _ ?_; clear hK K
  refine tw_cond_f rfl ?_
  refine tw_seq ?_
  refine tw_region (fun K hK => ?_)
  refine lw_pu (wan_none rfl) (pu_false (pu_eql rfl rfl) (by omega)) (by (simp only [setD, List.set_cons_succ, List.set_cons_zero]; exact rfl)) ?_
  refine lw_pu (wan_none rfl) (pu_assign (by (simp only [ev, List.getD_cons_succ, List.getD_cons_zero]; exact rfl))) (by (simp only [setD, List.set_cons_succ, List.set_cons_zero]; exact rfl)) ?_
  refine lw_nil ?_; refine hK _ _ ?_; clear hK K
  refine tw_cond_f rfl ?_
  refine tw_seq ?_
  refine tw_region (fun K hK => ?_)
  refine lw_pu (wan_none rfl) (pu_true (pu_eql rfl rfl) (by omega)) (by (simp only [setD, List.set_cons_succ, List.set_cons_zero]; exact rfl)) ?_
  refine lw_pu (wan_none rfl) (pu_assign (by (simp only [ev, List.getD_cons_succ, List.getD_cons_zero]; exact rfl))) (by (simp only [setD, List.set_cons_succ, List.set_cons_zero]; exact rfl)) ?_
  refine lw_nil ?_; refine hK _ _ ?_; clear hK K
  refine tw_cond_t rfl ?_
  refine tw_seq ?_
  refine tw_region (fun K hK => ?_)
  refine lw_pu (wan_none rfl) (pu_move (by (simp only [ev, List.getD_cons_succ, List.getD_cons_zero]; exact rfl))) (by (simp only [setD, List.set_cons_succ, List.set_cons_zero]; exact rfl)) ?_
  refine lw_pu (wan_none rfl) (pu_nilCheck_p rfl) (by (simp only [setD, List.set_cons_succ, List.set_cons_zero]; exact rfl)) ?_
  refine lw_pu (wan_none rfl) (pu_fieldAddr rfl (by exact fun w => siz _ w)) (by (simp only [setD, List.set_cons_succ, List.set_cons_zero]; exact rfl)) ?_
  first | refine lw_pu (wan_none rfl) (pu_load rfl (hN5' hm.ext)) (by (simp only [setD, List.set_cons_succ, List.set_cons_zero]; exact rfl)) ?_ | refine lw_pu (wan_none rfl) (pu_load rfl (hN7' hm.ext)) (by (simp only [setD, List.set_cons_succ, List.set_cons_zero]; exact rfl)) ?_ | refine lw_pu (wan_none rfl) (pu_load rfl (hN9' hm.ext)) (by (simp only [setD, List.set_cons_succ, List.set_cons_zero]; exact rfl)) ?_
  refine lw_pu (wan_none rfl) (pu_build rfl rfl (by (simp only [put1, List.map_cons, List.map_nil, ev, List.getD_cons_succ, List.getD_cons_zero, List.set_cons_succ, List.set_cons_zero]; exact rfl))) (by (simp only [setD, List.set_cons_succ, List.set_cons_zero]; exact rfl)) ?_
  refine lw_alloc (wan_none rfl) rfl hm ?_; clear hm; intro b3 h hm; refine lw_norm (by (simp only [setD, List.set_cons_succ, List.set_cons_zero]; exact rfl)) ?_
  refine lw_storeAgg_own (j := 0) (wan_none rfl) rfl rfl rfl rfl hm rfl rfl (by (simp only [List.set_cons_succ, List.set_cons_zero]; exact rfl)) (by (simp only [setD, List.set_cons_succ, List.set_cons_zero]; exact rfl)) ?_; clear hm; intro h hm
  refine lw_nil ?_; refine hK _ _ ?_; clear hK K
  refine tw_seq ?_
  refine tw_seq ?_
  refine tw_region (fun K hK => ?_)
  refine lw_pu (wan_none rfl) (pu_move (by (simp only [ev, List.getD_cons_succ, List.getD_cons_zero]; exact rfl))) (by (simp only [setD, List.set_cons_succ, List.set_cons_zero]; exact rfl)) ?_
  refine lw_pu (wan_none rfl) (pu_nilCheck_p rfl) (by (simp only [setD, List.set_cons_succ, List.set_cons_zero]; exact rfl)) ?_
  refine lw_pu (wan_none rfl) (pu_fieldAddr rfl (by exact fun w => siz _ w)) (by (simp only [setD, List.set_cons_succ, List.set_cons_zero]; exact rfl)) ?_
  first | refine lw_pu (wan_none rfl) (pu_load rfl (hN5' hm.ext)) (by (simp only [setD, List.set_cons_succ, List.set_cons_zero]; exact rfl)) ?_ | refine lw_pu (wan_none rfl) (pu_load rfl (hN7' hm.ext)) (by (simp only [setD, List.set_cons_succ, List.set_cons_zero]; exact rfl)) ?_ | refine lw_pu (wan_none rfl) (pu_load rfl (hN9' hm.ext)) (by (simp only [setD, List.set_cons_succ, List.set_cons_zero]; exact rfl)) ?_
  refine lw_pu (wan_none rfl) (pu_lensl rfl rfl) (by (simp only [setD, List.set_cons_succ, List.set_cons_zero]; exact rfl)) ?_
  refine lw_pu (wan_none rfl) (pu_move (by (simp only [ev, List.getD_cons_succ, List.getD_cons_zero]; exact rfl))) (by (simp only [setD, List.set_cons_succ, List.set_cons_zero]; exact rfl)) ?_
  refine lw_nil ?_; refine hK _ _ ?_; clear hK K
  refine tw_block ?_
  rotate_left 1
  -- left: loop
  refine tw_loopJ (X := Nat × Option Addr × Nat × List Blk) (fun x => xs.length - x.1) (fun x J => (.pointer (some ⟨N, 0, none⟩) :: J 1 :: .pointer (some ⟨b2, 0, none⟩) :: .pointer (some ⟨b3, 0, none⟩) :: J 4 :: J 5 :: J 6 :: J 7 :: J 8 :: J 9 :: J 10 :: J 11 :: J 12 :: J 13 :: J 14 :: J 15 :: J 16 :: J 17 :: J 18 :: J 19 :: J 20 :: J 21 :: J 22 :: J 23 :: J 24 :: J 25 :: J 26 :: J 27 :: J 28 :: J 29 :: J 30 :: J 31 :: J 32 :: J 33 :: J 34 :: J 35 :: J 36 :: J 37 :: J 38 :: J 39 :: J 40 :: J 41 :: J 42 :: J 43 :: .slice q xs.length cp :: .int .i64 (xs.length : Int) :: .int .i64 (x.1 : Int) :: J 47 :: J 48 :: J 49 :: J 50 :: J 51 :: J 52 :: J 53 :: J 54 :: J 55 :: J 56 :: J 57 :: J 58 :: J 59 :: J 60 :: J 61 :: J 62 :: [])) (fun x h => Mem h0 h [] ((b3, [.int .i64 3, bs tag, bs [], .slice x.2.1 x.1 x.2.2.1, .int .i64 0], 45) :: (b2, [.int .i64 0, bs [], bs [], .slice none 0 0, .int .i64 0], 45) :: x.2.2.2) ∧ x.1 ≤ xs.length ∧ SlO 2 34 x.2.1 x.1 x.2.2.1 x.2.2.2 ((xs.take x.1).map row)) (0, none, 0, []) rfl ⟨hm, by simp, by simpa using SlO.nil 2 _⟩ ?_
  clear hm
  rintro ⟨i, qa, ca, Lv⟩ J h ⟨hm, hi, hs⟩ IH
  simp only at hm hi hs
  refine tw_seq ?_
  refine tw_region (fun K hK => ?_)
  refine lw_pu (wan_none rfl) (pu_lss rfl rfl) (by (simp only [setD, List.set_cons_succ, List.set_cons_zero]; exact rfl)) ?_
  refine lw_nil ?_; refine hK _ _ ?_; clear hK K
  refine tw_seq ?_
  refine tw_cond_ds rfl (by (simp only [List.set_cons_succ, List.set_cons_zero]; exact rfl)) (by (simp only [List.set_cons_succ, List.set_cons_zero]; exact rfl)) (fun hq => ?_) (fun hq => ?_)
  refine tw_skip ?_
  refine tw_seq ?_
  refine tw_block ?_
  refine tw_seq ?_
  refine tw_region (fun K hK => ?_)
  rotate_left 1
  refine tw_exit rfl ?_
  refine tw_seq ?_
  refine tw_region (fun K hK => ?_)
  refine lw_pu (wan_none rfl) (pu_loadAgg rfl rfl (hm.row (j := 0) rfl)) (by (simp only [setD, List.set_cons_succ, List.set_cons_zero]; exact rfl)) ?_
  refine lw_storeAgg_own (j := 1) (wan_none rfl) rfl rfl rfl rfl hm rfl rfl (by (simp only [List.set_cons_succ, List.set_cons_zero]; exact rfl)) (by (simp only [setD, List.set_cons_succ, List.set_cons_zero]; exact rfl)) ?_; clear hm; intro h hm
  refine lw_nil ?_; refine hK _ _ ?_; clear hK K
  refine tw_ret_cell Try.func50 Try.results50 rfl rfl (hm.row (j := 1) rfl) ?_
  rotate_left 1
  -- left: region 14 op 0 | ret
  · obtain ⟨a, ha, hq', hc⟩ := hr.at (i := i) (by omega)
    have hc' : ∀ {h}, Ext h0 h → cellsFrom h (blk q) (offs q + i * 3) (hrow a) := fun he => he.cells hc
    first | refine lw_pu (wan_none rfl) (pu_indexAddrQ rfl rfl (by omega) (by assumption)) (by (simp only [setD, List.set_cons_succ, List.set_cons_zero]; exact rfl)) ?_ | refine lw_pu (wan_none rfl) (pu_indexAddr rfl rfl (by omega)) (by (simp only [setD, List.set_cons_succ, List.set_cons_zero]; exact rfl)) ?_
    refine lw_pu (wan_none rfl) (pu_loadAgg rfl rfl (hc' hm.ext)) (by (simp only [setD, List.set_cons_succ, List.set_cons_zero]; exact rfl)) ?_
    refine lw_alloc (wan_none rfl) rfl hm ?_; clear hm; intro b5 h hm; refine lw_norm (by (simp only [setD, List.set_cons_succ, List.set_cons_zero]; exact rfl)) ?_
    refine lw_storeAgg_own (j := 0) (wan_none rfl) rfl rfl rfl rfl hm rfl rfl (by (simp only [List.set_cons_succ, List.set_cons_zero]; exact rfl)) (by (simp only [setD, List.set_cons_succ, List.set_cons_zero]; exact rfl)) ?_; clear hm; intro h hm
    refine lw_nil ?_; refine hK _ _ ?_; clear hK K
    refine tw_region (fun K hK => ?_)
    refine lw_pu (wan_none rfl) (pu_fieldAddr rfl (by exact fun w => siz _ w)) (by (simp only [setD, List.set_cons_succ, List.set_cons_zero]; exact rfl)) ?_
    first | refine lw_pu (wan_none rfl) (pu_load rfl (hm.own (j := 1) rfl rfl)) (by (simp only [setD, List.set_cons_succ, List.set_cons_zero]; exact rfl)) ?_ | refine lw_pu (wan_none rfl) (pu_load rfl (hc' hm.ext)) (by (simp only [setD, List.set_cons_succ, List.set_cons_zero]; exact rfl)) ?_
    refine lw_pu (wan_none rfl) (pu_fieldAddr rfl (by exact fun w => siz _ w)) (by (simp only [setD, List.set_cons_succ, List.set_cons_zero]; exact rfl)) ?_
    first | refine lw_pu (wan_none rfl) (pu_load rfl (hm.own (j := 0) rfl rfl)) (by (simp only [setD, List.set_cons_succ, List.set_cons_zero]; exact rfl)) ?_ | refine lw_pu (wan_none rfl) (pu_load rfl (hc' hm.ext)) (by (simp only [setD, List.set_cons_succ, List.set_cons_zero]; exact rfl)) ?_
    refine lw_pu (wan_none rfl) (pu_fieldAddr rfl (by exact fun w => siz _ w)) (by (simp only [setD, List.set_cons_succ, List.set_cons_zero]; exact rfl)) ?_
    first | refine lw_pu (wan_none rfl) (pu_load rfl (hm.own (j := 0) rfl rfl)) (by (simp only [setD, List.set_cons_succ, List.set_cons_zero]; exact rfl)) ?_ | refine lw_pu (wan_none rfl) (pu_load rfl (hc' hm.ext)) (by (simp only [setD, List.set_cons_succ, List.set_cons_zero]; exact rfl)) ?_
    refine lw_pu (wan_none rfl) (pu_build rfl rfl (by (simp only [put1, List.map_cons, List.map_nil, ev, List.getD_cons_succ, List.getD_cons_zero, List.set_cons_succ, List.set_cons_zero]; exact rfl))) (by (simp only [setD, List.set_cons_succ, List.set_cons_zero]; exact rfl)) ?_
    refine lw_buildSlice1 (wan_none rfl) (by exact rfl) (by (simp only [ev, List.getD_cons_succ, List.getD_cons_zero]; exact rfl)) (by exact rfl) (by exact rfl) (by decide) (by decide) hm ?_; clear hm; intro b57 h hm; refine lw_norm (by (simp only [setD, List.set_cons_succ, List.set_cons_zero]; exact rfl)) ?_
    refine lw_append1t (L1 := [_, _, _, _]) (wan_none rfl) rfl rfl (by exact rfl) hm (by assumption) (by exact rfl) (hm.row (j := 0) rfl) (by exact rfl) (by simp [Value.oneCell']) (by decide) (by decide) (by omega) ?_; clear hm; intro q58 cp58 Lv58 h hs58 hm; (try simp only [List.cons_append, List.nil_append] at hm); refine lw_norm (by (simp only [setD, List.set_cons_succ, List.set_cons_zero]; exact rfl)) ?_
    refine lw_pu (wan_none rfl) (pu_fieldAddr rfl (by exact fun w => siz _ w)) (by (simp only [setD, List.set_cons_succ, List.set_cons_zero]; exact rfl)) ?_
    refine lw_store_own (j := 2) (wan_none rfl) rfl (by (simp only [ev, List.getD_cons_succ, List.getD_cons_zero]; exact rfl)) rfl hm rfl (by first | exact Nat.le_of_ble_eq_true rfl | simp) (by (simp only [List.set_cons_succ, List.set_cons_zero]; exact rfl)) (by (simp only [setD, List.set_cons_succ, List.set_cons_zero]; exact rfl)) ?_; clear hm; intro h hm
    refine lw_nil ?_; refine hK _ _ ?_; clear hK K
    refine tw_inBlock ?_
    refine tw_region (fun K hK => ?_)
    first | refine lw_pu (wan_none rfl) (pu_addn (n := 1) rfl rfl (by omega)) (by (simp only [setD, List.set_cons_succ, List.set_cons_zero]; exact rfl)) ?_ | refine lw_pu (wan_none rfl) (pu_addi rfl rfl (by omega) (by omega)) (by (simp only [setD, List.set_cons_succ, List.set_cons_zero]; exact rfl)) ?_ | refine lw_pu (wan_none rfl) (pu_add rfl rfl) (by (simp only [setD, List.set_cons_succ, List.set_cons_zero]; exact rfl)) ?_
    refine lw_pu (wan_none rfl) (pu_move (by (simp only [ev, List.getD_cons_succ, List.getD_cons_zero]; exact rfl))) (by (simp only [setD, List.set_cons_succ, List.set_cons_zero]; exact rfl)) ?_
    refine lw_nil ?_; refine hK _ _ ?_; clear hK K
    rotate_left 1
    -- left: round
    all_goals
      refine IH (i + 1, q58, cp58, Lv58) _ _ (by simp; omega) rfl ⟨hm.tl.tl, by simp; omega, ?_⟩
      have ht : List.map row (List.take (i + 1) xs) = List.map row (List.take i xs) ++ [row a] := by
        rw [List.take_add_one, ha, List.map_append]
        rfl
      show SlO 2 34 q58 (i + 1) cp58 Lv58 (List.map row (List.take (i + 1) xs))
      rw [ht]
      exact hs58
  · obtain rfl : i = xs.length := by omega
    rw [List.take_length] at hs
    exact ⟨_, ⟨qa, ca, rfl, hs⟩, hm.tl.tl⟩

def Out (xs : List At) (v : Value) (L : List Blk) : Prop := ∃ q cp, v = .slice q xs.length cp ∧ SlO 2 34 q xs.length cp L (xs.map row)
theorem attrs_ret (xs : List At) (tag : List UInt8) (N : Nat) (q : Option Addr) (cp : Nat) (h0 : Array Obj) (hmax : xs.length ≤ 2 ^ 32) (hN5 : cell h0 ⟨N, 5, none⟩ = some (.int .u32 3)) (hN7 : cell h0 ⟨N, 7, none⟩ = some (bs tag)) (hN9 : cell h0 ⟨N, 9, none⟩ = some (.slice q xs.length cp)) (hr : SlR h0 3 q (xs.map hrow)) :
    Ret Try.prog 34 [.pointer (some ⟨N, 0, none⟩)] h0 fun v h => ∃ L, Out xs v L ∧ Mem h0 h [] L := by
  have hm := Mem.refl h0
  refine ret_of_tw (ρ := ((.pointer (some ⟨N, 0, none⟩)) :: undef :: undef :: undef :: undef :: undef :: [])) Try.func34 rfl rfl (fun E => ?_)
  refine tw_seq ?_
  refine tw_region (fun K hK => ?_)
  refine lw_pu (wan_none rfl) (pu_assign (by (simp only [ev, List.getD_cons_succ, List.getD_cons_zero]; exact rfl))) (by (simp only [setD, List.set_cons_succ, List.set_cons_zero]; exact rfl)) ?_
  refine lw_nil ?_; refine hK _ _ ?_; clear hK K
  refine tw_seq ?_
  refine tw_region (fun K hK => ?_)
  refine lw_pu (wan_none rfl) (pu_move (by (simp only [ev, List.getD_cons_succ, List.getD_cons_zero]; exact rfl))) (by (simp only [setD, List.set_cons_succ, List.set_cons_zero]; exact rfl)) ?_
  refine lw_calo (wan_none rfl) (kindOf_ret xs tag N q cp _ hmax hN5 hN7 hN9 hr) hm ?_; clear hm; rintro _ h Lv4 ⟨q1, cp1, rfl, hs⟩ hm; (try simp only [List.cons_append, List.nil_append] at hm); refine lw_norm (by (simp only [setD, List.set_cons_succ, List.set_cons_zero]; exact rfl)) ?_
  refine lw_pu (wan_none rfl) (pu_field rfl rfl) (by (simp only [setD, List.set_cons_succ, List.set_cons_zero]; exact rfl)) ?_
  refine lw_pu (wan_none rfl) (pu_assign (by (simp only [ev, List.getD_cons_succ, List.getD_cons_zero]; exact rfl))) (by (simp only [setD, List.set_cons_succ, List.set_cons_zero]; exact rfl)) ?_
  refine lw_nil ?_; refine hK _ _ ?_; clear hK K
  refine tw_ret1 Try.func34 Try.results34 (by (simp only [ev, List.getD_cons_succ, List.getD_cons_zero]; exact rfl)) ?_
  rotate_left 1
  -- left: ret
  exact ⟨_, ⟨q1, cp1, rfl, hs⟩, hm⟩

def OutPut (xs : List At) (key val : List UInt8) (v : Value) (L : List Blk) : Prop := ∃ ys, Put xs key val ys ∧ Out ys v L
theorem put_len {xs ys : List At} {key val : List UInt8} (h : Put xs key val ys) : ys.length ≤ xs.length + 1 := by
  rcases h with ⟨i, _, rfl⟩ | ⟨_, rfl⟩
  · rw [List.length_set]; omega
  · rw [List.length_append]; exact Nat.le_refl _
theorem attrsSet_ret (xs : List At) (key val : List UInt8) (q : Option Addr) (cp : Nat) (h0 : Array Obj) (hmax : xs.length ≤ 2 ^ 31) (hr : SlR h0 2 q (xs.map row)) :
    Ret Try.prog 16 [.slice q xs.length cp, bs key, bs val] h0 fun v h => ∃ L, OutPut xs key val v L ∧ Mem h0 h [] L := by
  have hm := Mem.refl h0
  refine ret_of_tw (ρ := ((.slice q xs.length cp) :: (bs key) :: (bs val) :: undef :: undef :: undef :: undef :: undef :: undef :: undef :: undef :: undef :: undef :: undef :: undef :: undef :: undef :: undef :: undef :: undef :: [])) Try.func16 rfl rfl (fun E => ?_)
  refine tw_seq ?_
  refine tw_region (fun K hK => ?_)
  refine lw_pu (wan_none rfl) (pu_assign (by (simp only [ev, List.getD_cons_succ, List.getD_cons_zero]; exact rfl))) (by (simp only [setD, List.set_cons_succ, List.set_cons_zero]; exact rfl)) ?_
  refine lw_nil ?_; refine hK _ _ ?_; clear hK K
  refine tw_seq ?_
  refine tw_region (fun K hK => ?_)
  refine lw_pu (wan_none rfl) (pu_move (by (simp only [ev, List.getD_cons_succ, List.getD_cons_zero]; exact rfl))) (by (simp only [setD, List.set_cons_succ, List.set_cons_zero]; exact rfl)) ?_
  refine lw_calo (wan_none rfl) (element_ret xs q cp _ hmax hr) hm ?_; clear hm; rintro _ h Lv11 ⟨S, Bs, N, q1, cp1, Lv, rfl, hs, rfl⟩ hm; (try simp only [List.cons_append, List.nil_append] at hm); refine lw_norm (by (simp only [setD, List.set_cons_succ, List.set_cons_zero]; exact rfl)) ?_
  refine lw_pu (wan_none rfl) (pu_move (by (simp only [ev, List.getD_cons_succ, List.getD_cons_zero]; exact rfl))) (by (simp only [setD, List.set_cons_succ, List.set_cons_zero]; exact rfl)) ?_
  refine lw_pu (wan_none rfl) (pu_extract rfl rfl) (by (simp only [setD, List.set_cons_succ, List.set_cons_zero]; exact rfl)) ?_
  refine lw_pu (wan_none rfl) (pu_extract rfl rfl) (by (simp only [setD, List.set_cons_succ, List.set_cons_zero]; exact rfl)) ?_
  refine lw_pu (wan_none rfl) (pu_assign (by (simp only [ev, List.getD_cons_succ, List.getD_cons_zero]; exact rfl))) (by (simp only [setD, List.set_cons_succ, List.set_cons_zero]; exact rfl)) ?_
  refine lw_pu (wan_none rfl) (pu_assign (by (simp only [ev, List.getD_cons_succ, List.getD_cons_zero]; exact rfl))) (by (simp only [setD, List.set_cons_succ, List.set_cons_zero]; exact rfl)) ?_
  refine lw_nil ?_; refine hK _ _ ?_; clear hK K
  refine tw_seq ?_
  rotate_left 1
  -- left: region 2
  refine tw_region (fun K hK => ?_)
  refine lw_pu (wan_none rfl) (pu_move (by (simp only [ev, List.getD_cons_succ, List.getD_cons_zero]; exact rfl))) (by (simp only [setD, List.set_cons_succ, List.set_cons_zero]; exact rfl)) ?_
  refine lw_pu (wan_none rfl) (pu_move (by (simp only [ev, List.getD_cons_succ, List.getD_cons_zero]; exact rfl))) (by (simp only [setD, List.set_cons_succ, List.set_cons_zero]; exact rfl)) ?_
  refine lw_pu (wan_none rfl) (pu_move (by (simp only [ev, List.getD_cons_succ, List.getD_cons_zero]; exact rfl))) (by (simp only [setD, List.set_cons_succ, List.set_cons_zero]; exact rfl)) ?_
  refine lw_cal (wan_none rfl) (setAttr_ret xs key val S Bs N q1 cp1 Lv hmax hm hs) ?_; clear hm hs; rintro _ h ⟨ys, q2, cp2, Lv2, hput, hs, hm⟩; refine lw_norm (by (simp only [setD, List.set_cons_succ, List.set_cons_zero]; exact rfl)) ?_
  refine lw_nil ?_; refine hK _ _ ?_; clear hK K
  refine tw_seq ?_
  rotate_left 1
  -- left: region 3
  have hl := put_len hput
  refine tw_region (fun K hK => ?_)
  refine lw_pu (wan_none rfl) (pu_move (by (simp only [ev, List.getD_cons_succ, List.getD_cons_zero]; exact rfl))) (by (simp only [setD, List.set_cons_succ, List.set_cons_zero]; exact rfl)) ?_
  refine lw_calo (wan_none rfl) (attrs_ret ys [97] N q2 cp2 _ (by omega) (hm.own (j := 2) rfl rfl) (hm.own (j := 2) rfl rfl) (hm.own (j := 2) rfl rfl) (hs.rd hm (fun p hp => List.mem_append_right _ (List.mem_cons_of_mem _ (List.mem_cons_of_mem _ (List.mem_cons_of_mem _ hp)))))) hm ?_; clear hm; rintro _ h Lv19 ⟨q3, cp3, rfl, hs3⟩ hm; (try simp only [List.cons_append, List.nil_append] at hm); refine lw_norm (by (simp only [setD, List.set_cons_succ, List.set_cons_zero]; exact rfl)) ?_
  refine lw_pu (wan_none rfl) (pu_assign (by (simp only [ev, List.getD_cons_succ, List.getD_cons_zero]; exact rfl))) (by (simp only [setD, List.set_cons_succ, List.set_cons_zero]; exact rfl)) ?_
  refine lw_nil ?_; refine hK _ _ ?_; clear hK K
  refine tw_ret1 Try.func16 Try.results16 (by (simp only [ev, List.getD_cons_succ, List.getD_cons_zero]; exact rfl)) ?_
  rotate_left 1
  -- left: ret
  refine ⟨_, ⟨ys, hput, ⟨q3, cp3, rfl, hs3⟩⟩, hm.sub ?_⟩
  exact (List.sublist_append_right _ _).cons _ |>.cons _ |>.cons _
end Go.Proofs.Ytchhjooifjcnkaa.AttrsSet
