/-
  The test of an+b, asked of one of some elements with one parent.
-/
import Derived.Test.YtnggneccdekofaaBrother
namespace Go.Proofs.Ytnggneccdekofaa.NthMatch
open Go Go.Proofs K HTree Counted Brother

set_option linter.unusedSimpArgs false
set_option linter.unusedVariables false
set_option maxRecDepth 10000
/-- The number of one among all, or those of its name, from the one end or the other. -/
def Num (xs : List Nm) (at_ : Nat) (ty la : Bool) : Nat := if la = true then Rc xs at_ (ty = true) at_ else cnt (Ty xs at_ (ty = true)) (at_ + 1)
set_option maxHeartbeats 4000000 in
theorem nth_ret (xs : List Nm) (p : Nat) (cs : List Nat) (σ : Nat → HN) (ids : List Nat) (at_ n : Nat) (a b : Int) (la ty : Bool) (h0 : Array Obj) (hmax : xs.length ≤ 200) (ha : a ≠ 0) (hb : -1000 ≤ b ∧ b ≤ 1000) (hf : Fam xs p cs σ ids) (hn : Nds h0 σ ids) (hat : cs[at_]? = some n) :
    Ret Try.prog 122 [.int .i64 a, .int .i64 b, .bool la, .bool ty, .pointer (some ⟨n, 0, none⟩)] h0 fun v h => (∃ (r : Bool) (m : Int), v = .bool r ∧ m = (Num xs at_ ty la : Int) ∧ (r = true ↔ (m - b).tmod a = 0 ∧ 0 ≤ (m - b).tdiv a)) ∧ Ext h0 h := by
  have hm := Mem.refl h0
  have hnn := hf.cin n (List.mem_of_getElem? hat)
  have hatl := (List.getElem?_eq_some_iff.1 hat).1
  have hl := hf.len
  have hnt : ∀ {h}, Ext h0 h → cell h ⟨n, 5, none⟩ = some (.int .u32 3) := fun he => (hn.ext he).cell hnn (by simp [HN.cells, (hf.dat at_ n hat).1])
  have hnp : ∀ {h}, Ext h0 h → cell h ⟨n, 0, none⟩ = some (.pointer (some ⟨p, 0, none⟩)) := fun he => (hn.ext he).cell hnn (by simp [HN.cells, hf.kin.par at_ n hat, pt])
  have hnd : ∀ {h}, Ext h0 h → cell h ⟨n, 7, none⟩ = some (bs (xs.getD at_ [])) := fun he => (hn.ext he).cell hnn (by simp [HN.cells, (hf.dat at_ n hat).2])
  have hpf : ∀ {h}, Ext h0 h → cell h ⟨p, 1, none⟩ = some (pt cs[0]?) := fun he => (hn.ext he).cell hf.pin (by simp [HN.cells, hf.kin.fst])
  have hA : cnt (Ty xs at_ (ty = true)) (at_ + 1) = cnt (Ty xs at_ (ty = true)) at_ + 1 := by
    show cnt _ at_ + _ = _
    rw [if_pos (show Ty xs at_ (ty = true) at_ from fun _ => rfl)]
  have hB := cnt_split xs at_ (ty = true) (by omega)
  have hC := cnt_le (Ty xs at_ (ty = true)) at_
  have hD := cnt_le (Ty xs at_ (ty = true)) xs.length
  refine ret_of_tw (ρ := ((.int .i64 a) :: (.int .i64 b) :: (.bool la) :: (.bool ty) :: (.pointer (some ⟨n, 0, none⟩)) :: undef :: undef :: undef :: undef :: undef :: undef :: undef :: undef :: undef :: undef :: undef :: undef :: undef :: undef :: undef :: undef :: undef :: undef :: undef :: undef :: undef :: undef :: undef :: undef :: undef :: undef :: undef :: undef :: undef :: undef :: undef :: undef :: undef :: undef :: undef :: undef :: undef :: undef :: undef :: undef :: undef :: undef :: undef :: undef :: undef :: undef :: undef :: undef :: undef :: undef :: undef :: undef :: undef :: undef :: undef :: undef :: undef :: undef :: undef :: undef :: undef :: undef :: undef :: undef :: undef :: undef :: undef :: undef :: undef :: undef :: undef :: undef :: undef :: undef :: undef :: undef :: undef :: undef :: undef :: undef :: undef :: undef :: [])) Try.func122 rfl rfl (fun E => ?_)
  refine tw_seq ?_
  refine tw_region (fun K hK => ?_)
  refine lw_pu (wan_none rfl) (pu_assign (by (simp only [ev, List.getD_cons_succ, List.getD_cons_zero]; exact rfl))) (by (simp only [setD, List.set_cons_succ, List.set_cons_zero]; exact rfl)) ?_
  refine lw_nil ?_; refine hK _ _ ?_; clear hK K
  refine tw_seq ?_
  refine tw_seq ?_
  refine tw_region (fun K hK => ?_)
  refine lw_pu (wan_none rfl) (pu_move (by (simp only [ev, List.getD_cons_succ, List.getD_cons_zero]; exact rfl))) (by (simp only [setD, List.set_cons_succ, List.set_cons_zero]; exact rfl)) ?_
  refine lw_pu (wan_none rfl) (pu_nilCheck_p rfl) (by (simp only [setD, List.set_cons_succ, List.set_cons_zero]; exact rfl)) ?_
  refine lw_pu (wan_none rfl) (pu_fieldAddr rfl (by exact fun w => siz _ w)) (by (simp only [setD, List.set_cons_succ, List.set_cons_zero]; exact rfl)) ?_
  first | refine lw_pu (wan_none rfl) (pu_load rfl (hnt hm.ext)) (by (simp only [setD, List.set_cons_succ, List.set_cons_zero]; exact rfl)) ?_ | refine lw_pu (wan_none rfl) (pu_load rfl (hnp hm.ext)) (by (simp only [setD, List.set_cons_succ, List.set_cons_zero]; exact rfl)) ?_ | refine lw_pu (wan_none rfl) (pu_load rfl (hpf hm.ext)) (by (simp only [setD, List.set_cons_succ, List.set_cons_zero]; exact rfl)) ?_
  refine lw_pu (wan_none rfl) (pu_false (pu_neq rfl rfl) (by omega)) (by (simp only [setD, List.set_cons_succ, List.set_cons_zero]; exact rfl)) ?_
  refine lw_nil ?_; refine hK _ _ ?_; clear hK K
  refine tw_cond_f rfl ?_
  refine tw_skip ?_
  refine tw_seq ?_
  refine tw_region (fun K hK => ?_)
  refine lw_pu (wan_none rfl) (pu_move (by (simp only [ev, List.getD_cons_succ, List.getD_cons_zero]; exact rfl))) (by (simp only [setD, List.set_cons_succ, List.set_cons_zero]; exact rfl)) ?_
  refine lw_pu (wan_none rfl) (pu_nilCheck_p rfl) (by (simp only [setD, List.set_cons_succ, List.set_cons_zero]; exact rfl)) ?_
  refine lw_pu (wan_none rfl) (pu_fieldAddr rfl (by exact fun w => siz _ w)) (by (simp only [setD, List.set_cons_succ, List.set_cons_zero]; exact rfl)) ?_
  first | refine lw_pu (wan_none rfl) (pu_load rfl (hnt hm.ext)) (by (simp only [setD, List.set_cons_succ, List.set_cons_zero]; exact rfl)) ?_ | refine lw_pu (wan_none rfl) (pu_load rfl (hnp hm.ext)) (by (simp only [setD, List.set_cons_succ, List.set_cons_zero]; exact rfl)) ?_ | refine lw_pu (wan_none rfl) (pu_load rfl (hpf hm.ext)) (by (simp only [setD, List.set_cons_succ, List.set_cons_zero]; exact rfl)) ?_
  refine lw_pu (wan_none rfl) (pu_assign (by (simp only [ev, List.getD_cons_succ, List.getD_cons_zero]; exact rfl))) (by (simp only [setD, List.set_cons_succ, List.set_cons_zero]; exact rfl)) ?_
  refine lw_nil ?_; refine hK _ _ ?_; clear hK K
  refine tw_seq ?_
  refine tw_seq ?_
  refine tw_region (fun K hK => ?_)
  refine lw_pu (wan_none rfl) (pu_move (by (simp only [ev, List.getD_cons_succ, List.getD_cons_zero]; exact rfl))) (by (simp only [setD, List.set_cons_succ, List.set_cons_zero]; exact rfl)) ?_
  refine lw_pu (wan_none rfl) (pu_false (pu_eql_pt rfl rfl) (by simp)) (by (simp only [setD, List.set_cons_succ, List.set_cons_zero]; exact rfl)) ?_
  refine lw_nil ?_; refine hK _ _ ?_; clear hK K
  refine tw_cond_f rfl ?_
  refine tw_skip ?_
  refine tw_seq ?_
  refine tw_region (fun K hK => ?_)
  refine lw_pu (wan_none rfl) (pu_assign (by (simp only [ev, List.getD_cons_succ, List.getD_cons_zero]; exact rfl))) (by (simp only [setD, List.set_cons_succ, List.set_cons_zero]; exact rfl)) ?_
  refine lw_nil ?_; refine hK _ _ ?_; clear hK K
  refine tw_seq ?_
  refine tw_region (fun K hK => ?_)
  refine lw_pu (wan_none rfl) (pu_assign (by (simp only [ev, List.getD_cons_succ, List.getD_cons_zero]; exact rfl))) (by (simp only [setD, List.set_cons_succ, List.set_cons_zero]; exact rfl)) ?_
  refine lw_nil ?_; refine hK _ _ ?_; clear hK K
  refine tw_seq ?_
  refine tw_seq ?_
  refine tw_region (fun K hK => ?_)
  refine lw_pu (wan_none rfl) (pu_move (by (simp only [ev, List.getD_cons_succ, List.getD_cons_zero]; exact rfl))) (by (simp only [setD, List.set_cons_succ, List.set_cons_zero]; exact rfl)) ?_
  refine lw_pu (wan_none rfl) (pu_nilCheck_p rfl) (by (simp only [setD, List.set_cons_succ, List.set_cons_zero]; exact rfl)) ?_
  refine lw_pu (wan_none rfl) (pu_fieldAddr rfl (by exact fun w => siz _ w)) (by (simp only [setD, List.set_cons_succ, List.set_cons_zero]; exact rfl)) ?_
  first | refine lw_pu (wan_none rfl) (pu_load rfl (hnt hm.ext)) (by (simp only [setD, List.set_cons_succ, List.set_cons_zero]; exact rfl)) ?_ | refine lw_pu (wan_none rfl) (pu_load rfl (hnp hm.ext)) (by (simp only [setD, List.set_cons_succ, List.set_cons_zero]; exact rfl)) ?_ | refine lw_pu (wan_none rfl) (pu_load rfl (hpf hm.ext)) (by (simp only [setD, List.set_cons_succ, List.set_cons_zero]; exact rfl)) ?_
  refine lw_pu (wan_none rfl) (pu_assign (by (simp only [ev, List.getD_cons_succ, List.getD_cons_zero]; exact rfl))) (by (simp only [setD, List.set_cons_succ, List.set_cons_zero]; exact rfl)) ?_
  refine lw_nil ?_; refine hK _ _ ?_; clear hK K
  refine tw_block ?_
  rotate_left 1
  -- left: loop
  refine tw_loopJ (X := Nat × Nat × Int × Option Addr) (fun x => xs.length + 1 - x.1) (fun x J => (.int .i64 a :: .int .i64 b :: .bool la :: .bool ty :: .pointer (some ⟨n, 0, none⟩) :: J 5 :: J 6 :: J 7 :: J 8 :: J 9 :: J 10 :: .pointer (some ⟨p, 0, none⟩) :: .int .i64 x.2.2.1 :: .int .i64 (x.2.1 : Int) :: .pointer x.2.2.2 :: J 15 :: J 16 :: J 17 :: J 18 :: J 19 :: J 20 :: J 21 :: J 22 :: J 23 :: J 24 :: J 25 :: J 26 :: J 27 :: J 28 :: J 29 :: J 30 :: J 31 :: J 32 :: J 33 :: J 34 :: J 35 :: J 36 :: J 37 :: J 38 :: J 39 :: J 40 :: J 41 :: J 42 :: J 43 :: J 44 :: J 45 :: J 46 :: J 47 :: J 48 :: J 49 :: J 50 :: J 51 :: J 52 :: J 53 :: J 54 :: J 55 :: J 56 :: J 57 :: J 58 :: J 59 :: J 60 :: J 61 :: J 62 :: J 63 :: J 64 :: J 65 :: J 66 :: J 67 :: J 68 :: J 69 :: J 70 :: J 71 :: J 72 :: J 73 :: J 74 :: J 75 :: J 76 :: J 77 :: J 78 :: J 79 :: J 80 :: J 81 :: J 82 :: J 83 :: J 84 :: J 85 :: J 86 :: [])) (fun x h => Mem h0 h [] [] ∧ x.1 ≤ xs.length ∧ x.2.1 = cnt (Ty xs at_ (ty = true)) x.1 ∧ x.2.2.1 = (if x.1 ≤ at_ then -1 else (cnt (Ty xs at_ (ty = true)) (at_ + 1) : Int)) ∧ (la = false → x.1 ≤ at_) ∧ x.2.2.2 = (cs[x.1]?).map fun b => ⟨b, 0, none⟩) (0, 0, -1, (cs[0]?).map fun b => ⟨b, 0, none⟩) rfl ⟨hm, by simp, rfl, by simp, by simp, rfl⟩ ?_
  clear hm
  rintro ⟨j, cv, iv, qq⟩ J h ⟨hm, hj, hcv, hiv, hla, hqq⟩ IH
  simp only at hm hj hcv hiv hla hqq
  have hcl := cnt_le (Ty xs at_ (ty = true)) j
  rw [← hcv] at hcl
  rcases Nat.lt_or_ge j xs.length with hjl | hjl
  · obtain ⟨c, hc⟩ : ∃ c, cs[j]? = some c := ⟨cs[j]'(by omega), List.getElem?_eq_getElem (by omega)⟩
    rw [hc] at hqq
    obtain rfl : qq = some ⟨c, 0, none⟩ := hqq
    have hcm := hf.cin c (List.mem_of_getElem? hc)
    have hct : ∀ {h}, Ext h0 h → cell h ⟨c, 5, none⟩ = some (.int .u32 3) := fun he => (hn.ext he).cell hcm (by simp [HN.cells, (hf.dat j c hc).1])
    have hcd : ∀ {h}, Ext h0 h → cell h ⟨c, 7, none⟩ = some (bs (xs.getD j [])) := fun he => (hn.ext he).cell hcm (by simp [HN.cells, (hf.dat j c hc).2])
    have hcn : ∀ {h}, Ext h0 h → cell h ⟨c, 4, none⟩ = some (pt cs[j + 1]?) := fun he => (hn.ext he).cell hcm (by simp [HN.cells, hf.kin.nxt j c hc])
    have hs : cnt (Ty xs at_ (ty = true)) (j + 1) = cnt (Ty xs at_ (ty = true)) j + if Ty xs at_ (ty = true) j then 1 else 0 := rfl
    rw [← hcv] at hs
    refine tw_seq ?_
    refine tw_seq ?_
    refine tw_region (fun K hK => ?_)
    refine lw_pu (wan_none rfl) (pu_move (by (simp only [ev, List.getD_cons_succ, List.getD_cons_zero]; exact rfl))) (by (simp only [setD, List.set_cons_succ, List.set_cons_zero]; exact rfl)) ?_
    refine lw_pu (wan_none rfl) (pu_true (pu_neq_pt rfl rfl) (by simp)) (by (simp only [setD, List.set_cons_succ, List.set_cons_zero]; exact rfl)) ?_
    refine lw_nil ?_; refine hK _ _ ?_; clear hK K
    refine tw_cond_t rfl ?_
    refine tw_skip ?_
    refine tw_seq ?_
    refine tw_block ?_
    refine tw_seq ?_
    refine tw_seq ?_
    refine tw_quietM hm (by kernel_rfl) (by kernel_rfl) (fun K hK => ?_)
    refine qw_pu (wan_none rfl) (fun h hm => pu_move (by (simp only [ev, List.getD_cons_succ, List.getD_cons_zero]; exact rfl))) (by (simp only [setD, List.set_cons_succ, List.set_cons_zero]; exact rfl)) ?_
    refine qw_pu (wan_none rfl) (fun h hm => pu_nilCheck_p rfl) (by (simp only [setD, List.set_cons_succ, List.set_cons_zero]; exact rfl)) ?_
    refine qw_pu (wan_none rfl) (fun h hm => pu_fieldAddr rfl (by exact fun w => siz _ w)) (by (simp only [setD, List.set_cons_succ, List.set_cons_zero]; exact rfl)) ?_
    first | refine qw_pu (wan_none rfl) (fun h hm => pu_load rfl (hct hm.ext)) (by (simp only [setD, List.set_cons_succ, List.set_cons_zero]; exact rfl)) ?_ | refine qw_pu (wan_none rfl) (fun h hm => pu_load rfl (hcd hm.ext)) (by (simp only [setD, List.set_cons_succ, List.set_cons_zero]; exact rfl)) ?_ | refine qw_pu (wan_none rfl) (fun h hm => pu_load rfl (hnd hm.ext)) (by (simp only [setD, List.set_cons_succ, List.set_cons_zero]; exact rfl)) ?_ | refine qw_pu (wan_none rfl) (fun h hm => pu_load rfl (hcn hm.ext)) (by (simp only [setD, List.set_cons_succ, List.set_cons_zero]; exact rfl)) ?_
    refine qw_pu (wan_none rfl) (fun h hm => pu_false (pu_neq rfl rfl) (by omega)) (by (simp only [setD, List.set_cons_succ, List.set_cons_zero]; exact rfl)) ?_
    refine qw_pu (wan_none rfl) (fun h hm => pu_move (by (simp only [ev, List.getD_cons_succ, List.getD_cons_zero]; exact rfl))) (by (simp only [setD, List.set_cons_succ, List.set_cons_zero]; exact rfl)) ?_
    refine qw_pu (wan_some rfl rfl rfl) (fun h hm => pu_move (by (simp only [ev, List.getD_cons_succ, List.getD_cons_zero]; exact rfl))) (by (simp only [setD, List.set_cons_succ, List.set_cons_zero]; exact rfl)) ?_
    refine qw_pu (wan_some rfl rfl rfl) (fun h hm => pu_move (by (simp only [ev, List.getD_cons_succ, List.getD_cons_zero]; exact rfl))) (by (simp only [setD, List.set_cons_succ, List.set_cons_zero]; exact rfl)) ?_
    first | refine qw_split_d rfl rfl rfl (by (simp only [List.set_cons_succ, List.set_cons_zero]; exact rfl)) (by (simp only [List.set_cons_succ, List.set_cons_zero]; exact rfl)) (fun hq => ?_) (fun hq => ?_) | refine qw_split_b rfl rfl rfl (by (simp only [List.set_cons_succ, List.set_cons_zero]; exact rfl)) (by (simp only [List.set_cons_succ, List.set_cons_zero]; exact rfl)) (fun hq => ?_) (fun hq => ?_)
    refine qw_pu (wan_some rfl rfl rfl) (fun h hm => pu_move (by (simp only [ev, List.getD_cons_succ, List.getD_cons_zero]; exact rfl))) (by (simp only [setD, List.set_cons_succ, List.set_cons_zero]; exact rfl)) ?_
    refine qw_pu (wan_some rfl rfl rfl) (fun h hm => pu_nilCheck_p rfl) (by (simp only [setD, List.set_cons_succ, List.set_cons_zero]; exact rfl)) ?_
    refine qw_pu (wan_some rfl rfl rfl) (fun h hm => pu_fieldAddr rfl (by exact fun w => siz _ w)) (by (simp only [setD, List.set_cons_succ, List.set_cons_zero]; exact rfl)) ?_
    first | refine qw_pu (wan_some rfl rfl rfl) (fun h hm => pu_load rfl (hct hm.ext)) (by (simp only [setD, List.set_cons_succ, List.set_cons_zero]; exact rfl)) ?_ | refine qw_pu (wan_some rfl rfl rfl) (fun h hm => pu_load rfl (hcd hm.ext)) (by (simp only [setD, List.set_cons_succ, List.set_cons_zero]; exact rfl)) ?_ | refine qw_pu (wan_some rfl rfl rfl) (fun h hm => pu_load rfl (hnd hm.ext)) (by (simp only [setD, List.set_cons_succ, List.set_cons_zero]; exact rfl)) ?_ | refine qw_pu (wan_some rfl rfl rfl) (fun h hm => pu_load rfl (hcn hm.ext)) (by (simp only [setD, List.set_cons_succ, List.set_cons_zero]; exact rfl)) ?_
    refine qw_pu (wan_some rfl rfl rfl) (fun h hm => pu_move (by (simp only [ev, List.getD_cons_succ, List.getD_cons_zero]; exact rfl))) (by (simp only [setD, List.set_cons_succ, List.set_cons_zero]; exact rfl)) ?_
    refine qw_pu (wan_some rfl rfl rfl) (fun h hm => pu_nilCheck_p rfl) (by (simp only [setD, List.set_cons_succ, List.set_cons_zero]; exact rfl)) ?_
    refine qw_pu (wan_some rfl rfl rfl) (fun h hm => pu_fieldAddr rfl (by exact fun w => siz _ w)) (by (simp only [setD, List.set_cons_succ, List.set_cons_zero]; exact rfl)) ?_
    first | refine qw_pu (wan_some rfl rfl rfl) (fun h hm => pu_load rfl (hct hm.ext)) (by (simp only [setD, List.set_cons_succ, List.set_cons_zero]; exact rfl)) ?_ | refine qw_pu (wan_some rfl rfl rfl) (fun h hm => pu_load rfl (hcd hm.ext)) (by (simp only [setD, List.set_cons_succ, List.set_cons_zero]; exact rfl)) ?_ | refine qw_pu (wan_some rfl rfl rfl) (fun h hm => pu_load rfl (hnd hm.ext)) (by (simp only [setD, List.set_cons_succ, List.set_cons_zero]; exact rfl)) ?_ | refine qw_pu (wan_some rfl rfl rfl) (fun h hm => pu_load rfl (hcn hm.ext)) (by (simp only [setD, List.set_cons_succ, List.set_cons_zero]; exact rfl)) ?_
    refine qw_pu (wan_some rfl rfl rfl) (fun h hm => pu_neqs rfl rfl) (by (simp only [setD, List.set_cons_succ, List.set_cons_zero]; exact rfl)) ?_
    refine qw_pu (wan_some rfl rfl rfl) (fun h hm => pu_pick_t rfl (by (simp only [ev, List.getD_cons_succ, List.getD_cons_zero]; exact rfl))) (by (simp only [setD, List.set_cons_succ, List.set_cons_zero]; exact rfl)) ?_
    refine qw_pu (wan_none rfl) (fun h hm => pu_pick_f rfl (by (simp only [ev, List.getD_cons_succ, List.getD_cons_zero]; exact rfl))) (by (simp only [setD, List.set_cons_succ, List.set_cons_zero]; exact rfl)) ?_
    refine qw_nil ?_; refine hK _ ?_; clear hK K hm; intro h hm
    refine tw_cond_ds rfl (by (simp only [List.set_cons_succ, List.set_cons_zero]; exact rfl)) (by (simp only [List.set_cons_succ, List.set_cons_zero]; exact rfl)) (fun hq => ?_) (fun hq => ?_)
    refine tw_exit rfl ?_
    refine tw_region (fun K hK => ?_)
    refine lw_pu (wan_none rfl) (pu_move (by (simp only [ev, List.getD_cons_succ, List.getD_cons_zero]; exact rfl))) (by (simp only [setD, List.set_cons_succ, List.set_cons_zero]; exact rfl)) ?_
    refine lw_pu (wan_none rfl) (pu_nilCheck_p rfl) (by (simp only [setD, List.set_cons_succ, List.set_cons_zero]; exact rfl)) ?_
    refine lw_pu (wan_none rfl) (pu_fieldAddr rfl (by exact fun w => siz _ w)) (by (simp only [setD, List.set_cons_succ, List.set_cons_zero]; exact rfl)) ?_
    first | refine lw_pu (wan_none rfl) (pu_load rfl (hct hm.ext)) (by (simp only [setD, List.set_cons_succ, List.set_cons_zero]; exact rfl)) ?_ | refine lw_pu (wan_none rfl) (pu_load rfl (hcd hm.ext)) (by (simp only [setD, List.set_cons_succ, List.set_cons_zero]; exact rfl)) ?_ | refine lw_pu (wan_none rfl) (pu_load rfl (hnd hm.ext)) (by (simp only [setD, List.set_cons_succ, List.set_cons_zero]; exact rfl)) ?_ | refine lw_pu (wan_none rfl) (pu_load rfl (hcn hm.ext)) (by (simp only [setD, List.set_cons_succ, List.set_cons_zero]; exact rfl)) ?_
    refine lw_pu (wan_none rfl) (pu_assign (by (simp only [ev, List.getD_cons_succ, List.getD_cons_zero]; exact rfl))) (by (simp only [setD, List.set_cons_succ, List.set_cons_zero]; exact rfl)) ?_
    refine lw_nil ?_; refine hK _ _ ?_; clear hK K
    rotate_left 1
    refine tw_skip ?_
    refine tw_seq ?_
    refine tw_region (fun K hK => ?_)
    refine lw_pu (wan_none rfl) (pu_move (by (simp only [ev, List.getD_cons_succ, List.getD_cons_zero]; exact rfl))) (by (simp only [setD, List.set_cons_succ, List.set_cons_zero]; exact rfl)) ?_
    first | refine lw_pu (wan_none rfl) (pu_addn (n := 1) rfl rfl (by omega)) (by (simp only [setD, List.set_cons_succ, List.set_cons_zero]; exact rfl)) ?_ | refine lw_pu (wan_none rfl) (pu_addi rfl rfl (by omega) (by omega)) (by (simp only [setD, List.set_cons_succ, List.set_cons_zero]; exact rfl)) ?_ | refine lw_pu (wan_none rfl) (pu_add rfl rfl) (by (simp only [setD, List.set_cons_succ, List.set_cons_zero]; exact rfl)) ?_
    refine lw_pu (wan_none rfl) (pu_assign (by (simp only [ev, List.getD_cons_succ, List.getD_cons_zero]; exact rfl))) (by (simp only [setD, List.set_cons_succ, List.set_cons_zero]; exact rfl)) ?_
    refine lw_nil ?_; refine hK _ _ ?_; clear hK K
    refine tw_seq ?_
    refine tw_region (fun K hK => ?_)
    refine lw_pu (wan_none rfl) (pu_move (by (simp only [ev, List.getD_cons_succ, List.getD_cons_zero]; exact rfl))) (by (simp only [setD, List.set_cons_succ, List.set_cons_zero]; exact rfl)) ?_
    refine lw_pu (wan_none rfl) (pu_move (by (simp only [ev, List.getD_cons_succ, List.getD_cons_zero]; exact rfl))) (by (simp only [setD, List.set_cons_succ, List.set_cons_zero]; exact rfl)) ?_
    first | refine lw_pu (wan_none rfl) (pu_eql_pp rfl rfl (hn.ext hm.ext c hcm) (hn.ext hm.ext c hcm) (by decide)) (by (simp only [setD, List.set_cons_succ, List.set_cons_zero]; exact rfl)) ?_ | refine lw_pu (wan_none rfl) (pu_eql_pp rfl rfl (hn.ext hm.ext c hcm) (hn.ext hm.ext n hnn) (by decide)) (by (simp only [setD, List.set_cons_succ, List.set_cons_zero]; exact rfl)) ?_ | refine lw_pu (wan_none rfl) (pu_eql_pp rfl rfl (hn.ext hm.ext n hnn) (hn.ext hm.ext c hcm) (by decide)) (by (simp only [setD, List.set_cons_succ, List.set_cons_zero]; exact rfl)) ?_ | refine lw_pu (wan_none rfl) (pu_eql_pp rfl rfl (hn.ext hm.ext n hnn) (hn.ext hm.ext n hnn) (by decide)) (by (simp only [setD, List.set_cons_succ, List.set_cons_zero]; exact rfl)) ?_
    refine lw_nil ?_; refine hK _ _ ?_; clear hK K
    refine tw_cond_ds rfl (by (simp only [List.set_cons_succ, List.set_cons_zero]; exact rfl)) (by (simp only [List.set_cons_succ, List.set_cons_zero]; exact rfl)) (fun hq => ?_) (fun hq => ?_)
    refine tw_seq ?_
    refine tw_region (fun K hK => ?_)
    refine lw_pu (wan_none rfl) (pu_move (by (simp only [ev, List.getD_cons_succ, List.getD_cons_zero]; exact rfl))) (by (simp only [setD, List.set_cons_succ, List.set_cons_zero]; exact rfl)) ?_
    refine lw_pu (wan_none rfl) (pu_assign (by (simp only [ev, List.getD_cons_succ, List.getD_cons_zero]; exact rfl))) (by (simp only [setD, List.set_cons_succ, List.set_cons_zero]; exact rfl)) ?_
    refine lw_nil ?_; refine hK _ _ ?_; clear hK K
    refine tw_seq ?_
    refine tw_region (fun K hK => ?_)
    refine lw_pu (wan_none rfl) (pu_move (by (simp only [ev, List.getD_cons_succ, List.getD_cons_zero]; exact rfl))) (by (simp only [setD, List.set_cons_succ, List.set_cons_zero]; exact rfl)) ?_
    first | refine lw_pu (wan_none rfl) (pu_notd rfl) (by (simp only [setD, List.set_cons_succ, List.set_cons_zero]; exact rfl)) ?_ | refine lw_pu (wan_none rfl) (pu_not rfl) (by (simp only [setD, List.set_cons_succ, List.set_cons_zero]; exact rfl)) ?_
    refine lw_nil ?_; refine hK _ _ ?_; clear hK K
    first | refine tw_cond_ds rfl (by (simp only [List.set_cons_succ, List.set_cons_zero]; exact rfl)) (by (simp only [List.set_cons_succ, List.set_cons_zero]; exact rfl)) (fun hq => ?_) (fun hq => ?_) | refine tw_cond_bs rfl (by (simp only [List.set_cons_succ, List.set_cons_zero]; exact rfl)) (by (simp only [List.set_cons_succ, List.set_cons_zero]; exact rfl)) (fun hq => ?_) (fun hq => ?_)
    refine tw_exit rfl ?_
    refine tw_seq ?_
    refine tw_seq ?_
    refine tw_region (fun K hK => ?_)
    refine lw_pu (wan_none rfl) (pu_move (by (simp only [ev, List.getD_cons_succ, List.getD_cons_zero]; exact rfl))) (by (simp only [setD, List.set_cons_succ, List.set_cons_zero]; exact rfl)) ?_
    refine lw_pu (wan_none rfl) (pu_eql rfl rfl) (by (simp only [setD, List.set_cons_succ, List.set_cons_zero]; exact rfl)) ?_
    refine lw_nil ?_; refine hK _ _ ?_; clear hK K
    refine tw_cond_ds rfl (by (simp only [List.set_cons_succ, List.set_cons_zero]; exact rfl)) (by (simp only [List.set_cons_succ, List.set_cons_zero]; exact rfl)) (fun hq => ?_) (fun hq => ?_)
    refine tw_seq ?_
    refine tw_region (fun K hK => ?_)
    refine lw_pu (wan_none rfl) (pu_assign (by (simp only [ev, List.getD_cons_succ, List.getD_cons_zero]; exact rfl))) (by (simp only [setD, List.set_cons_succ, List.set_cons_zero]; exact rfl)) ?_
    refine lw_nil ?_; refine hK _ _ ?_; clear hK K
    refine tw_ret1 Try.func122 Try.results122 (by (simp only [ev, List.getD_cons_succ, List.getD_cons_zero]; exact rfl)) ?_
    rotate_left 1
    refine tw_skip ?_
    refine tw_seq ?_
    refine tw_seq ?_
    refine tw_region (fun K hK => ?_)
    refine lw_pu (wan_none rfl) (pu_move (by (simp only [ev, List.getD_cons_succ, List.getD_cons_zero]; exact rfl))) (by (simp only [setD, List.set_cons_succ, List.set_cons_zero]; exact rfl)) ?_
    refine lw_nil ?_; refine hK _ _ ?_; clear hK K
    first | refine tw_cond_ds rfl (by (simp only [List.set_cons_succ, List.set_cons_zero]; exact rfl)) (by (simp only [List.set_cons_succ, List.set_cons_zero]; exact rfl)) (fun hq => ?_) (fun hq => ?_) | refine tw_cond_bs rfl (by (simp only [List.set_cons_succ, List.set_cons_zero]; exact rfl)) (by (simp only [List.set_cons_succ, List.set_cons_zero]; exact rfl)) (fun hq => ?_) (fun hq => ?_)
    refine tw_region (fun K hK => ?_)
    refine lw_pu (wan_none rfl) (pu_move (by (simp only [ev, List.getD_cons_succ, List.getD_cons_zero]; exact rfl))) (by (simp only [setD, List.set_cons_succ, List.set_cons_zero]; exact rfl)) ?_
    refine lw_pu (wan_none rfl) (pu_move (by (simp only [ev, List.getD_cons_succ, List.getD_cons_zero]; exact rfl))) (by (simp only [setD, List.set_cons_succ, List.set_cons_zero]; exact rfl)) ?_
    first | refine lw_pu (wan_none rfl) (pu_subn rfl rfl (by omega) (by omega)) (by (simp only [setD, List.set_cons_succ, List.set_cons_zero]; exact rfl)) ?_ | refine lw_pu (wan_none rfl) (pu_subi rfl rfl (by omega) (by omega)) (by (simp only [setD, List.set_cons_succ, List.set_cons_zero]; exact rfl)) ?_ | refine lw_pu (wan_none rfl) (pu_sub rfl rfl) (by (simp only [setD, List.set_cons_succ, List.set_cons_zero]; exact rfl)) ?_
    first | refine lw_pu (wan_none rfl) (pu_addn (n := 1) rfl rfl (by omega)) (by (simp only [setD, List.set_cons_succ, List.set_cons_zero]; exact rfl)) ?_ | refine lw_pu (wan_none rfl) (pu_addi rfl rfl (by omega) (by omega)) (by (simp only [setD, List.set_cons_succ, List.set_cons_zero]; exact rfl)) ?_ | refine lw_pu (wan_none rfl) (pu_add rfl rfl) (by (simp only [setD, List.set_cons_succ, List.set_cons_zero]; exact rfl)) ?_
    refine lw_pu (wan_none rfl) (pu_assign (by (simp only [ev, List.getD_cons_succ, List.getD_cons_zero]; exact rfl))) (by (simp only [setD, List.set_cons_succ, List.set_cons_zero]; exact rfl)) ?_
    refine lw_nil ?_; refine hK _ _ ?_; clear hK K
    refine tw_seq ?_
    refine tw_region (fun K hK => ?_)
    refine lw_pu (wan_none rfl) (pu_move (by (simp only [ev, List.getD_cons_succ, List.getD_cons_zero]; exact rfl))) (by (simp only [setD, List.set_cons_succ, List.set_cons_zero]; exact rfl)) ?_
    refine lw_pu (wan_none rfl) (pu_move (by (simp only [ev, List.getD_cons_succ, List.getD_cons_zero]; exact rfl))) (by (simp only [setD, List.set_cons_succ, List.set_cons_zero]; exact rfl)) ?_
    first | refine lw_pu (wan_none rfl) (pu_subn rfl rfl (by omega) (by omega)) (by (simp only [setD, List.set_cons_succ, List.set_cons_zero]; exact rfl)) ?_ | refine lw_pu (wan_none rfl) (pu_subi rfl rfl (by omega) (by omega)) (by (simp only [setD, List.set_cons_succ, List.set_cons_zero]; exact rfl)) ?_ | refine lw_pu (wan_none rfl) (pu_sub rfl rfl) (by (simp only [setD, List.set_cons_succ, List.set_cons_zero]; exact rfl)) ?_
    refine lw_pu (wan_none rfl) (pu_assign (by (simp only [ev, List.getD_cons_succ, List.getD_cons_zero]; exact rfl))) (by (simp only [setD, List.set_cons_succ, List.set_cons_zero]; exact rfl)) ?_
    refine lw_nil ?_; refine hK _ _ ?_; clear hK K
    refine tw_seq ?_
    refine tw_seq ?_
    refine tw_region (fun K hK => ?_)
    refine lw_pu (wan_none rfl) (pu_move (by (simp only [ev, List.getD_cons_succ, List.getD_cons_zero]; exact rfl))) (by (simp only [setD, List.set_cons_succ, List.set_cons_zero]; exact rfl)) ?_
    refine lw_pu (wan_none rfl) (pu_eql rfl rfl) (by (simp only [setD, List.set_cons_succ, List.set_cons_zero]; exact rfl)) ?_
    refine lw_nil ?_; refine hK _ _ ?_; clear hK K
    refine tw_cond_ds rfl (by (simp only [List.set_cons_succ, List.set_cons_zero]; exact rfl)) (by (simp only [List.set_cons_succ, List.set_cons_zero]; exact rfl)) (fun hq => ?_) (fun hq => ?_)
    refine tw_seq ?_
    refine tw_region (fun K hK => ?_)
    refine lw_pu (wan_none rfl) (pu_move (by (simp only [ev, List.getD_cons_succ, List.getD_cons_zero]; exact rfl))) (by (simp only [setD, List.set_cons_succ, List.set_cons_zero]; exact rfl)) ?_
    refine lw_pu (wan_none rfl) (pu_eql rfl rfl) (by (simp only [setD, List.set_cons_succ, List.set_cons_zero]; exact rfl)) ?_
    refine lw_pu (wan_none rfl) (pu_assign (by (simp only [ev, List.getD_cons_succ, List.getD_cons_zero]; exact rfl))) (by (simp only [setD, List.set_cons_succ, List.set_cons_zero]; exact rfl)) ?_
    refine lw_nil ?_; refine hK _ _ ?_; clear hK K
    refine tw_ret1 Try.func122 Try.results122 (by (simp only [ev, List.getD_cons_succ, List.getD_cons_zero]; exact rfl)) ?_
    rotate_left 1
    refine tw_skip ?_
    refine tw_seq ?_
    refine tw_region (fun K hK => ?_)
    refine lw_pu (wan_none rfl) (pu_move (by (simp only [ev, List.getD_cons_succ, List.getD_cons_zero]; exact rfl))) (by (simp only [setD, List.set_cons_succ, List.set_cons_zero]; exact rfl)) ?_
    refine lw_pu (wan_none rfl) (pu_move (by (simp only [ev, List.getD_cons_succ, List.getD_cons_zero]; exact rfl))) (by (simp only [setD, List.set_cons_succ, List.set_cons_zero]; exact rfl)) ?_
    first | refine lw_pu (wan_none rfl) (pu_remn rfl rfl (by omega)) (by (simp only [setD, List.set_cons_succ, List.set_cons_zero]; exact rfl)) ?_ | refine lw_pu (wan_none rfl) (pu_rem rfl rfl (by omega)) (by (simp only [setD, List.set_cons_succ, List.set_cons_zero]; exact rfl)) ?_
    refine lw_pu (wan_none rfl) (pu_eql rfl rfl) (by (simp only [setD, List.set_cons_succ, List.set_cons_zero]; exact rfl)) ?_
    refine lw_pu (wan_none rfl) (pu_move (by (simp only [ev, List.getD_cons_succ, List.getD_cons_zero]; exact rfl))) (by (simp only [setD, List.set_cons_succ, List.set_cons_zero]; exact rfl)) ?_
    refine lw_split_d rfl rfl rfl (by (simp only [List.set_cons_succ, List.set_cons_zero]; exact rfl)) (by (simp only [List.set_cons_succ, List.set_cons_zero]; exact rfl)) (fun hq => ?_) (fun hq => ?_)
    refine lw_pu (wan_some rfl rfl rfl) (pu_move (by (simp only [ev, List.getD_cons_succ, List.getD_cons_zero]; exact rfl))) (by (simp only [setD, List.set_cons_succ, List.set_cons_zero]; exact rfl)) ?_
    refine lw_pu (wan_some rfl rfl rfl) (pu_move (by (simp only [ev, List.getD_cons_succ, List.getD_cons_zero]; exact rfl))) (by (simp only [setD, List.set_cons_succ, List.set_cons_zero]; exact rfl)) ?_
    refine lw_pu (wan_some rfl rfl rfl) (pu_quo rfl rfl (by omega) (tdiv_lo (by omega) (by omega)) (tdiv_hi (by omega) (by omega))) (by (simp only [setD, List.set_cons_succ, List.set_cons_zero]; exact rfl)) ?_
    refine lw_pu (wan_some rfl rfl rfl) (pu_geq rfl rfl) (by (simp only [setD, List.set_cons_succ, List.set_cons_zero]; exact rfl)) ?_
    refine lw_pu (wan_none rfl) (pu_pick_t rfl (by (simp only [ev, List.getD_cons_succ, List.getD_cons_zero]; exact rfl))) (by (simp only [setD, List.set_cons_succ, List.set_cons_zero]; exact rfl)) ?_
    refine lw_pu (wan_none rfl) (pu_assign (by (simp only [ev, List.getD_cons_succ, List.getD_cons_zero]; exact rfl))) (by (simp only [setD, List.set_cons_succ, List.set_cons_zero]; exact rfl)) ?_
    refine lw_nil ?_; refine hK _ _ ?_; clear hK K
    refine tw_ret1 Try.func122 Try.results122 (by (simp only [ev, List.getD_cons_succ, List.getD_cons_zero]; exact rfl)) ?_
    rotate_left 1
    refine lw_skip_b rfl rfl rfl (by (simp only [setD, List.set_cons_succ, List.set_cons_zero]; exact rfl)) ?_
    refine lw_skip_b rfl rfl rfl (by (simp only [setD, List.set_cons_succ, List.set_cons_zero]; exact rfl)) ?_
    refine lw_skip_b rfl rfl rfl (by (simp only [setD, List.set_cons_succ, List.set_cons_zero]; exact rfl)) ?_
    refine lw_skip_b rfl rfl rfl (by (simp only [setD, List.set_cons_succ, List.set_cons_zero]; exact rfl)) ?_
    refine lw_pu (wan_none rfl) (pu_pick_f rfl (by (simp only [ev, List.getD_cons_succ, List.getD_cons_zero]; exact rfl))) (by (simp only [setD, List.set_cons_succ, List.set_cons_zero]; exact rfl)) ?_
    refine lw_pu (wan_none rfl) (pu_assign (by (simp only [ev, List.getD_cons_succ, List.getD_cons_zero]; exact rfl))) (by (simp only [setD, List.set_cons_succ, List.set_cons_zero]; exact rfl)) ?_
    refine lw_nil ?_; refine hK _ _ ?_; clear hK K
    refine tw_ret1 Try.func122 Try.results122 (by (simp only [ev, List.getD_cons_succ, List.getD_cons_zero]; exact rfl)) ?_
    rotate_left 1
    refine tw_skip ?_
    refine tw_seq ?_
    refine tw_region (fun K hK => ?_)
    refine lw_pu (wan_none rfl) (pu_move (by (simp only [ev, List.getD_cons_succ, List.getD_cons_zero]; exact rfl))) (by (simp only [setD, List.set_cons_succ, List.set_cons_zero]; exact rfl)) ?_
    refine lw_pu (wan_none rfl) (pu_move (by (simp only [ev, List.getD_cons_succ, List.getD_cons_zero]; exact rfl))) (by (simp only [setD, List.set_cons_succ, List.set_cons_zero]; exact rfl)) ?_
    first | refine lw_pu (wan_none rfl) (pu_subn rfl rfl (by omega) (by omega)) (by (simp only [setD, List.set_cons_succ, List.set_cons_zero]; exact rfl)) ?_ | refine lw_pu (wan_none rfl) (pu_subi rfl rfl (by omega) (by omega)) (by (simp only [setD, List.set_cons_succ, List.set_cons_zero]; exact rfl)) ?_ | refine lw_pu (wan_none rfl) (pu_sub rfl rfl) (by (simp only [setD, List.set_cons_succ, List.set_cons_zero]; exact rfl)) ?_
    refine lw_pu (wan_none rfl) (pu_assign (by (simp only [ev, List.getD_cons_succ, List.getD_cons_zero]; exact rfl))) (by (simp only [setD, List.set_cons_succ, List.set_cons_zero]; exact rfl)) ?_
    refine lw_nil ?_; refine hK _ _ ?_; clear hK K
    refine tw_seq ?_
    refine tw_seq ?_
    refine tw_region (fun K hK => ?_)
    refine lw_pu (wan_none rfl) (pu_move (by (simp only [ev, List.getD_cons_succ, List.getD_cons_zero]; exact rfl))) (by (simp only [setD, List.set_cons_succ, List.set_cons_zero]; exact rfl)) ?_
    refine lw_pu (wan_none rfl) (pu_eql rfl rfl) (by (simp only [setD, List.set_cons_succ, List.set_cons_zero]; exact rfl)) ?_
    refine lw_nil ?_; refine hK _ _ ?_; clear hK K
    refine tw_cond_ds rfl (by (simp only [List.set_cons_succ, List.set_cons_zero]; exact rfl)) (by (simp only [List.set_cons_succ, List.set_cons_zero]; exact rfl)) (fun hq => ?_) (fun hq => ?_)
    refine tw_seq ?_
    refine tw_region (fun K hK => ?_)
    refine lw_pu (wan_none rfl) (pu_move (by (simp only [ev, List.getD_cons_succ, List.getD_cons_zero]; exact rfl))) (by (simp only [setD, List.set_cons_succ, List.set_cons_zero]; exact rfl)) ?_
    refine lw_pu (wan_none rfl) (pu_eql rfl rfl) (by (simp only [setD, List.set_cons_succ, List.set_cons_zero]; exact rfl)) ?_
    refine lw_pu (wan_none rfl) (pu_assign (by (simp only [ev, List.getD_cons_succ, List.getD_cons_zero]; exact rfl))) (by (simp only [setD, List.set_cons_succ, List.set_cons_zero]; exact rfl)) ?_
    refine lw_nil ?_; refine hK _ _ ?_; clear hK K
    refine tw_ret1 Try.func122 Try.results122 (by (simp only [ev, List.getD_cons_succ, List.getD_cons_zero]; exact rfl)) ?_
    rotate_left 1
    refine tw_skip ?_
    refine tw_seq ?_
    refine tw_region (fun K hK => ?_)
    refine lw_pu (wan_none rfl) (pu_move (by (simp only [ev, List.getD_cons_succ, List.getD_cons_zero]; exact rfl))) (by (simp only [setD, List.set_cons_succ, List.set_cons_zero]; exact rfl)) ?_
    refine lw_pu (wan_none rfl) (pu_move (by (simp only [ev, List.getD_cons_succ, List.getD_cons_zero]; exact rfl))) (by (simp only [setD, List.set_cons_succ, List.set_cons_zero]; exact rfl)) ?_
    first | refine lw_pu (wan_none rfl) (pu_remn rfl rfl (by omega)) (by (simp only [setD, List.set_cons_succ, List.set_cons_zero]; exact rfl)) ?_ | refine lw_pu (wan_none rfl) (pu_rem rfl rfl (by omega)) (by (simp only [setD, List.set_cons_succ, List.set_cons_zero]; exact rfl)) ?_
    refine lw_pu (wan_none rfl) (pu_eql rfl rfl) (by (simp only [setD, List.set_cons_succ, List.set_cons_zero]; exact rfl)) ?_
    refine lw_pu (wan_none rfl) (pu_move (by (simp only [ev, List.getD_cons_succ, List.getD_cons_zero]; exact rfl))) (by (simp only [setD, List.set_cons_succ, List.set_cons_zero]; exact rfl)) ?_
    refine lw_split_d rfl rfl rfl (by (simp only [List.set_cons_succ, List.set_cons_zero]; exact rfl)) (by (simp only [List.set_cons_succ, List.set_cons_zero]; exact rfl)) (fun hq => ?_) (fun hq => ?_)
    refine lw_pu (wan_some rfl rfl rfl) (pu_move (by (simp only [ev, List.getD_cons_succ, List.getD_cons_zero]; exact rfl))) (by (simp only [setD, List.set_cons_succ, List.set_cons_zero]; exact rfl)) ?_
    refine lw_pu (wan_some rfl rfl rfl) (pu_move (by (simp only [ev, List.getD_cons_succ, List.getD_cons_zero]; exact rfl))) (by (simp only [setD, List.set_cons_succ, List.set_cons_zero]; exact rfl)) ?_
    refine lw_pu (wan_some rfl rfl rfl) (pu_quo rfl rfl (by omega) (tdiv_lo (by omega) (by omega)) (tdiv_hi (by omega) (by omega))) (by (simp only [setD, List.set_cons_succ, List.set_cons_zero]; exact rfl)) ?_
    refine lw_pu (wan_some rfl rfl rfl) (pu_geq rfl rfl) (by (simp only [setD, List.set_cons_succ, List.set_cons_zero]; exact rfl)) ?_
    refine lw_pu (wan_none rfl) (pu_pick_t rfl (by (simp only [ev, List.getD_cons_succ, List.getD_cons_zero]; exact rfl))) (by (simp only [setD, List.set_cons_succ, List.set_cons_zero]; exact rfl)) ?_
    refine lw_pu (wan_none rfl) (pu_assign (by (simp only [ev, List.getD_cons_succ, List.getD_cons_zero]; exact rfl))) (by (simp only [setD, List.set_cons_succ, List.set_cons_zero]; exact rfl)) ?_
    refine lw_nil ?_; refine hK _ _ ?_; clear hK K
    refine tw_ret1 Try.func122 Try.results122 (by (simp only [ev, List.getD_cons_succ, List.getD_cons_zero]; exact rfl)) ?_
    rotate_left 1
    refine lw_skip_b rfl rfl rfl (by (simp only [setD, List.set_cons_succ, List.set_cons_zero]; exact rfl)) ?_
    refine lw_skip_b rfl rfl rfl (by (simp only [setD, List.set_cons_succ, List.set_cons_zero]; exact rfl)) ?_
    refine lw_skip_b rfl rfl rfl (by (simp only [setD, List.set_cons_succ, List.set_cons_zero]; exact rfl)) ?_
    refine lw_skip_b rfl rfl rfl (by (simp only [setD, List.set_cons_succ, List.set_cons_zero]; exact rfl)) ?_
    refine lw_pu (wan_none rfl) (pu_pick_f rfl (by (simp only [ev, List.getD_cons_succ, List.getD_cons_zero]; exact rfl))) (by (simp only [setD, List.set_cons_succ, List.set_cons_zero]; exact rfl)) ?_
    refine lw_pu (wan_none rfl) (pu_assign (by (simp only [ev, List.getD_cons_succ, List.getD_cons_zero]; exact rfl))) (by (simp only [setD, List.set_cons_succ, List.set_cons_zero]; exact rfl)) ?_
    refine lw_nil ?_; refine hK _ _ ?_; clear hK K
    refine tw_ret1 Try.func122 Try.results122 (by (simp only [ev, List.getD_cons_succ, List.getD_cons_zero]; exact rfl)) ?_
    rotate_left 1
    refine tw_skip ?_
    refine tw_inBlock ?_
    refine tw_region (fun K hK => ?_)
    refine lw_pu (wan_none rfl) (pu_move (by (simp only [ev, List.getD_cons_succ, List.getD_cons_zero]; exact rfl))) (by (simp only [setD, List.set_cons_succ, List.set_cons_zero]; exact rfl)) ?_
    refine lw_pu (wan_none rfl) (pu_nilCheck_p rfl) (by (simp only [setD, List.set_cons_succ, List.set_cons_zero]; exact rfl)) ?_
    refine lw_pu (wan_none rfl) (pu_fieldAddr rfl (by exact fun w => siz _ w)) (by (simp only [setD, List.set_cons_succ, List.set_cons_zero]; exact rfl)) ?_
    first | refine lw_pu (wan_none rfl) (pu_load rfl (hct hm.ext)) (by (simp only [setD, List.set_cons_succ, List.set_cons_zero]; exact rfl)) ?_ | refine lw_pu (wan_none rfl) (pu_load rfl (hcd hm.ext)) (by (simp only [setD, List.set_cons_succ, List.set_cons_zero]; exact rfl)) ?_ | refine lw_pu (wan_none rfl) (pu_load rfl (hnd hm.ext)) (by (simp only [setD, List.set_cons_succ, List.set_cons_zero]; exact rfl)) ?_ | refine lw_pu (wan_none rfl) (pu_load rfl (hcn hm.ext)) (by (simp only [setD, List.set_cons_succ, List.set_cons_zero]; exact rfl)) ?_
    refine lw_pu (wan_none rfl) (pu_assign (by (simp only [ev, List.getD_cons_succ, List.getD_cons_zero]; exact rfl))) (by (simp only [setD, List.set_cons_succ, List.set_cons_zero]; exact rfl)) ?_
    refine lw_nil ?_; refine hK _ _ ?_; clear hK K
    rotate_left 1
    refine tw_skip ?_
    refine tw_inBlock ?_
    refine tw_region (fun K hK => ?_)
    refine lw_pu (wan_none rfl) (pu_move (by (simp only [ev, List.getD_cons_succ, List.getD_cons_zero]; exact rfl))) (by (simp only [setD, List.set_cons_succ, List.set_cons_zero]; exact rfl)) ?_
    refine lw_pu (wan_none rfl) (pu_nilCheck_p rfl) (by (simp only [setD, List.set_cons_succ, List.set_cons_zero]; exact rfl)) ?_
    refine lw_pu (wan_none rfl) (pu_fieldAddr rfl (by exact fun w => siz _ w)) (by (simp only [setD, List.set_cons_succ, List.set_cons_zero]; exact rfl)) ?_
    first | refine lw_pu (wan_none rfl) (pu_load rfl (hct hm.ext)) (by (simp only [setD, List.set_cons_succ, List.set_cons_zero]; exact rfl)) ?_ | refine lw_pu (wan_none rfl) (pu_load rfl (hcd hm.ext)) (by (simp only [setD, List.set_cons_succ, List.set_cons_zero]; exact rfl)) ?_ | refine lw_pu (wan_none rfl) (pu_load rfl (hnd hm.ext)) (by (simp only [setD, List.set_cons_succ, List.set_cons_zero]; exact rfl)) ?_ | refine lw_pu (wan_none rfl) (pu_load rfl (hcn hm.ext)) (by (simp only [setD, List.set_cons_succ, List.set_cons_zero]; exact rfl)) ?_
    refine lw_pu (wan_none rfl) (pu_assign (by (simp only [ev, List.getD_cons_succ, List.getD_cons_zero]; exact rfl))) (by (simp only [setD, List.set_cons_succ, List.set_cons_zero]; exact rfl)) ?_
    refine lw_nil ?_; refine hK _ _ ?_; clear hK K
    rotate_left 1
    refine qw_skip_b rfl rfl rfl (by (simp only [setD, List.set_cons_succ, List.set_cons_zero]; exact rfl)) ?_
    refine qw_skip_b rfl rfl rfl (by (simp only [setD, List.set_cons_succ, List.set_cons_zero]; exact rfl)) ?_
    refine qw_skip_b rfl rfl rfl (by (simp only [setD, List.set_cons_succ, List.set_cons_zero]; exact rfl)) ?_
    refine qw_skip_b rfl rfl rfl (by (simp only [setD, List.set_cons_succ, List.set_cons_zero]; exact rfl)) ?_
    refine qw_skip_b rfl rfl rfl (by (simp only [setD, List.set_cons_succ, List.set_cons_zero]; exact rfl)) ?_
    refine qw_skip_b rfl rfl rfl (by (simp only [setD, List.set_cons_succ, List.set_cons_zero]; exact rfl)) ?_
    refine qw_skip_b rfl rfl rfl (by (simp only [setD, List.set_cons_succ, List.set_cons_zero]; exact rfl)) ?_
    refine qw_skip_b rfl rfl rfl (by (simp only [setD, List.set_cons_succ, List.set_cons_zero]; exact rfl)) ?_
    refine qw_skip_b rfl rfl rfl (by (simp only [setD, List.set_cons_succ, List.set_cons_zero]; exact rfl)) ?_
    refine qw_pu (wan_some rfl rfl rfl) (fun h hm => pu_pick_f rfl (by (simp only [ev, List.getD_cons_succ, List.getD_cons_zero]; exact rfl))) (by (simp only [setD, List.set_cons_succ, List.set_cons_zero]; exact rfl)) ?_
    refine qw_pu (wan_none rfl) (fun h hm => pu_pick_f rfl (by (simp only [ev, List.getD_cons_succ, List.getD_cons_zero]; exact rfl))) (by (simp only [setD, List.set_cons_succ, List.set_cons_zero]; exact rfl)) ?_
    refine qw_nil ?_; refine hK _ ?_; clear hK K hm; intro h hm
    refine tw_cond_f rfl ?_
    refine tw_skip ?_
    refine tw_seq ?_
    refine tw_region (fun K hK => ?_)
    refine lw_pu (wan_none rfl) (pu_move (by (simp only [ev, List.getD_cons_succ, List.getD_cons_zero]; exact rfl))) (by (simp only [setD, List.set_cons_succ, List.set_cons_zero]; exact rfl)) ?_
    first | refine lw_pu (wan_none rfl) (pu_addn (n := 1) rfl rfl (by omega)) (by (simp only [setD, List.set_cons_succ, List.set_cons_zero]; exact rfl)) ?_ | refine lw_pu (wan_none rfl) (pu_addi rfl rfl (by omega) (by omega)) (by (simp only [setD, List.set_cons_succ, List.set_cons_zero]; exact rfl)) ?_ | refine lw_pu (wan_none rfl) (pu_add rfl rfl) (by (simp only [setD, List.set_cons_succ, List.set_cons_zero]; exact rfl)) ?_
    refine lw_pu (wan_none rfl) (pu_assign (by (simp only [ev, List.getD_cons_succ, List.getD_cons_zero]; exact rfl))) (by (simp only [setD, List.set_cons_succ, List.set_cons_zero]; exact rfl)) ?_
    refine lw_nil ?_; refine hK _ _ ?_; clear hK K
    refine tw_seq ?_
    refine tw_region (fun K hK => ?_)
    refine lw_pu (wan_none rfl) (pu_move (by (simp only [ev, List.getD_cons_succ, List.getD_cons_zero]; exact rfl))) (by (simp only [setD, List.set_cons_succ, List.set_cons_zero]; exact rfl)) ?_
    refine lw_pu (wan_none rfl) (pu_move (by (simp only [ev, List.getD_cons_succ, List.getD_cons_zero]; exact rfl))) (by (simp only [setD, List.set_cons_succ, List.set_cons_zero]; exact rfl)) ?_
    first | refine lw_pu (wan_none rfl) (pu_eql_pp rfl rfl (hn.ext hm.ext c hcm) (hn.ext hm.ext c hcm) (by decide)) (by (simp only [setD, List.set_cons_succ, List.set_cons_zero]; exact rfl)) ?_ | refine lw_pu (wan_none rfl) (pu_eql_pp rfl rfl (hn.ext hm.ext c hcm) (hn.ext hm.ext n hnn) (by decide)) (by (simp only [setD, List.set_cons_succ, List.set_cons_zero]; exact rfl)) ?_ | refine lw_pu (wan_none rfl) (pu_eql_pp rfl rfl (hn.ext hm.ext n hnn) (hn.ext hm.ext c hcm) (by decide)) (by (simp only [setD, List.set_cons_succ, List.set_cons_zero]; exact rfl)) ?_ | refine lw_pu (wan_none rfl) (pu_eql_pp rfl rfl (hn.ext hm.ext n hnn) (hn.ext hm.ext n hnn) (by decide)) (by (simp only [setD, List.set_cons_succ, List.set_cons_zero]; exact rfl)) ?_
    refine lw_nil ?_; refine hK _ _ ?_; clear hK K
    refine tw_cond_ds rfl (by (simp only [List.set_cons_succ, List.set_cons_zero]; exact rfl)) (by (simp only [List.set_cons_succ, List.set_cons_zero]; exact rfl)) (fun hq => ?_) (fun hq => ?_)
    refine tw_seq ?_
    refine tw_region (fun K hK => ?_)
    refine lw_pu (wan_none rfl) (pu_move (by (simp only [ev, List.getD_cons_succ, List.getD_cons_zero]; exact rfl))) (by (simp only [setD, List.set_cons_succ, List.set_cons_zero]; exact rfl)) ?_
    refine lw_pu (wan_none rfl) (pu_assign (by (simp only [ev, List.getD_cons_succ, List.getD_cons_zero]; exact rfl))) (by (simp only [setD, List.set_cons_succ, List.set_cons_zero]; exact rfl)) ?_
    refine lw_nil ?_; refine hK _ _ ?_; clear hK K
    refine tw_seq ?_
    refine tw_region (fun K hK => ?_)
    refine lw_pu (wan_none rfl) (pu_move (by (simp only [ev, List.getD_cons_succ, List.getD_cons_zero]; exact rfl))) (by (simp only [setD, List.set_cons_succ, List.set_cons_zero]; exact rfl)) ?_
    first | refine lw_pu (wan_none rfl) (pu_notd rfl) (by (simp only [setD, List.set_cons_succ, List.set_cons_zero]; exact rfl)) ?_ | refine lw_pu (wan_none rfl) (pu_not rfl) (by (simp only [setD, List.set_cons_succ, List.set_cons_zero]; exact rfl)) ?_
    refine lw_nil ?_; refine hK _ _ ?_; clear hK K
    first | refine tw_cond_ds rfl (by (simp only [List.set_cons_succ, List.set_cons_zero]; exact rfl)) (by (simp only [List.set_cons_succ, List.set_cons_zero]; exact rfl)) (fun hq => ?_) (fun hq => ?_) | refine tw_cond_bs rfl (by (simp only [List.set_cons_succ, List.set_cons_zero]; exact rfl)) (by (simp only [List.set_cons_succ, List.set_cons_zero]; exact rfl)) (fun hq => ?_) (fun hq => ?_)
    refine tw_exit rfl ?_
    refine tw_seq ?_
    refine tw_seq ?_
    refine tw_region (fun K hK => ?_)
    refine lw_pu (wan_none rfl) (pu_move (by (simp only [ev, List.getD_cons_succ, List.getD_cons_zero]; exact rfl))) (by (simp only [setD, List.set_cons_succ, List.set_cons_zero]; exact rfl)) ?_
    refine lw_pu (wan_none rfl) (pu_eql rfl rfl) (by (simp only [setD, List.set_cons_succ, List.set_cons_zero]; exact rfl)) ?_
    refine lw_nil ?_; refine hK _ _ ?_; clear hK K
    refine tw_cond_ds rfl (by (simp only [List.set_cons_succ, List.set_cons_zero]; exact rfl)) (by (simp only [List.set_cons_succ, List.set_cons_zero]; exact rfl)) (fun hq => ?_) (fun hq => ?_)
    refine tw_seq ?_
    refine tw_region (fun K hK => ?_)
    refine lw_pu (wan_none rfl) (pu_assign (by (simp only [ev, List.getD_cons_succ, List.getD_cons_zero]; exact rfl))) (by (simp only [setD, List.set_cons_succ, List.set_cons_zero]; exact rfl)) ?_
    refine lw_nil ?_; refine hK _ _ ?_; clear hK K
    refine tw_ret1 Try.func122 Try.results122 (by (simp only [ev, List.getD_cons_succ, List.getD_cons_zero]; exact rfl)) ?_
    rotate_left 1
    refine tw_skip ?_
    refine tw_seq ?_
    refine tw_seq ?_
    refine tw_region (fun K hK => ?_)
    refine lw_pu (wan_none rfl) (pu_move (by (simp only [ev, List.getD_cons_succ, List.getD_cons_zero]; exact rfl))) (by (simp only [setD, List.set_cons_succ, List.set_cons_zero]; exact rfl)) ?_
    refine lw_nil ?_; refine hK _ _ ?_; clear hK K
    first | refine tw_cond_ds rfl (by (simp only [List.set_cons_succ, List.set_cons_zero]; exact rfl)) (by (simp only [List.set_cons_succ, List.set_cons_zero]; exact rfl)) (fun hq => ?_) (fun hq => ?_) | refine tw_cond_bs rfl (by (simp only [List.set_cons_succ, List.set_cons_zero]; exact rfl)) (by (simp only [List.set_cons_succ, List.set_cons_zero]; exact rfl)) (fun hq => ?_) (fun hq => ?_)
    refine tw_region (fun K hK => ?_)
    refine lw_pu (wan_none rfl) (pu_move (by (simp only [ev, List.getD_cons_succ, List.getD_cons_zero]; exact rfl))) (by (simp only [setD, List.set_cons_succ, List.set_cons_zero]; exact rfl)) ?_
    refine lw_pu (wan_none rfl) (pu_move (by (simp only [ev, List.getD_cons_succ, List.getD_cons_zero]; exact rfl))) (by (simp only [setD, List.set_cons_succ, List.set_cons_zero]; exact rfl)) ?_
    first | refine lw_pu (wan_none rfl) (pu_subn rfl rfl (by omega) (by omega)) (by (simp only [setD, List.set_cons_succ, List.set_cons_zero]; exact rfl)) ?_ | refine lw_pu (wan_none rfl) (pu_subi rfl rfl (by omega) (by omega)) (by (simp only [setD, List.set_cons_succ, List.set_cons_zero]; exact rfl)) ?_ | refine lw_pu (wan_none rfl) (pu_sub rfl rfl) (by (simp only [setD, List.set_cons_succ, List.set_cons_zero]; exact rfl)) ?_
    first | refine lw_pu (wan_none rfl) (pu_addn (n := 1) rfl rfl (by omega)) (by (simp only [setD, List.set_cons_succ, List.set_cons_zero]; exact rfl)) ?_ | refine lw_pu (wan_none rfl) (pu_addi rfl rfl (by omega) (by omega)) (by (simp only [setD, List.set_cons_succ, List.set_cons_zero]; exact rfl)) ?_ | refine lw_pu (wan_none rfl) (pu_add rfl rfl) (by (simp only [setD, List.set_cons_succ, List.set_cons_zero]; exact rfl)) ?_
    refine lw_pu (wan_none rfl) (pu_assign (by (simp only [ev, List.getD_cons_succ, List.getD_cons_zero]; exact rfl))) (by (simp only [setD, List.set_cons_succ, List.set_cons_zero]; exact rfl)) ?_
    refine lw_nil ?_; refine hK _ _ ?_; clear hK K
    refine tw_seq ?_
    refine tw_region (fun K hK => ?_)
    refine lw_pu (wan_none rfl) (pu_move (by (simp only [ev, List.getD_cons_succ, List.getD_cons_zero]; exact rfl))) (by (simp only [setD, List.set_cons_succ, List.set_cons_zero]; exact rfl)) ?_
    refine lw_pu (wan_none rfl) (pu_move (by (simp only [ev, List.getD_cons_succ, List.getD_cons_zero]; exact rfl))) (by (simp only [setD, List.set_cons_succ, List.set_cons_zero]; exact rfl)) ?_
    first | refine lw_pu (wan_none rfl) (pu_subn rfl rfl (by omega) (by omega)) (by (simp only [setD, List.set_cons_succ, List.set_cons_zero]; exact rfl)) ?_ | refine lw_pu (wan_none rfl) (pu_subi rfl rfl (by omega) (by omega)) (by (simp only [setD, List.set_cons_succ, List.set_cons_zero]; exact rfl)) ?_ | refine lw_pu (wan_none rfl) (pu_sub rfl rfl) (by (simp only [setD, List.set_cons_succ, List.set_cons_zero]; exact rfl)) ?_
    refine lw_pu (wan_none rfl) (pu_assign (by (simp only [ev, List.getD_cons_succ, List.getD_cons_zero]; exact rfl))) (by (simp only [setD, List.set_cons_succ, List.set_cons_zero]; exact rfl)) ?_
    refine lw_nil ?_; refine hK _ _ ?_; clear hK K
    refine tw_seq ?_
    refine tw_seq ?_
    refine tw_region (fun K hK => ?_)
    refine lw_pu (wan_none rfl) (pu_move (by (simp only [ev, List.getD_cons_succ, List.getD_cons_zero]; exact rfl))) (by (simp only [setD, List.set_cons_succ, List.set_cons_zero]; exact rfl)) ?_
    refine lw_pu (wan_none rfl) (pu_eql rfl rfl) (by (simp only [setD, List.set_cons_succ, List.set_cons_zero]; exact rfl)) ?_
    refine lw_nil ?_; refine hK _ _ ?_; clear hK K
    refine tw_cond_ds rfl (by (simp only [List.set_cons_succ, List.set_cons_zero]; exact rfl)) (by (simp only [List.set_cons_succ, List.set_cons_zero]; exact rfl)) (fun hq => ?_) (fun hq => ?_)
    refine tw_seq ?_
    refine tw_region (fun K hK => ?_)
    refine lw_pu (wan_none rfl) (pu_move (by (simp only [ev, List.getD_cons_succ, List.getD_cons_zero]; exact rfl))) (by (simp only [setD, List.set_cons_succ, List.set_cons_zero]; exact rfl)) ?_
    refine lw_pu (wan_none rfl) (pu_eql rfl rfl) (by (simp only [setD, List.set_cons_succ, List.set_cons_zero]; exact rfl)) ?_
    refine lw_pu (wan_none rfl) (pu_assign (by (simp only [ev, List.getD_cons_succ, List.getD_cons_zero]; exact rfl))) (by (simp only [setD, List.set_cons_succ, List.set_cons_zero]; exact rfl)) ?_
    refine lw_nil ?_; refine hK _ _ ?_; clear hK K
    refine tw_ret1 Try.func122 Try.results122 (by (simp only [ev, List.getD_cons_succ, List.getD_cons_zero]; exact rfl)) ?_
    rotate_left 1
    refine tw_skip ?_
    refine tw_seq ?_
    refine tw_region (fun K hK => ?_)
    refine lw_pu (wan_none rfl) (pu_move (by (simp only [ev, List.getD_cons_succ, List.getD_cons_zero]; exact rfl))) (by (simp only [setD, List.set_cons_succ, List.set_cons_zero]; exact rfl)) ?_
    refine lw_pu (wan_none rfl) (pu_move (by (simp only [ev, List.getD_cons_succ, List.getD_cons_zero]; exact rfl))) (by (simp only [setD, List.set_cons_succ, List.set_cons_zero]; exact rfl)) ?_
    first | refine lw_pu (wan_none rfl) (pu_remn rfl rfl (by omega)) (by (simp only [setD, List.set_cons_succ, List.set_cons_zero]; exact rfl)) ?_ | refine lw_pu (wan_none rfl) (pu_rem rfl rfl (by omega)) (by (simp only [setD, List.set_cons_succ, List.set_cons_zero]; exact rfl)) ?_
    refine lw_pu (wan_none rfl) (pu_eql rfl rfl) (by (simp only [setD, List.set_cons_succ, List.set_cons_zero]; exact rfl)) ?_
    refine lw_pu (wan_none rfl) (pu_move (by (simp only [ev, List.getD_cons_succ, List.getD_cons_zero]; exact rfl))) (by (simp only [setD, List.set_cons_succ, List.set_cons_zero]; exact rfl)) ?_
    refine lw_split_d rfl rfl rfl (by (simp only [List.set_cons_succ, List.set_cons_zero]; exact rfl)) (by (simp only [List.set_cons_succ, List.set_cons_zero]; exact rfl)) (fun hq => ?_) (fun hq => ?_)
    refine lw_pu (wan_some rfl rfl rfl) (pu_move (by (simp only [ev, List.getD_cons_succ, List.getD_cons_zero]; exact rfl))) (by (simp only [setD, List.set_cons_succ, List.set_cons_zero]; exact rfl)) ?_
    refine lw_pu (wan_some rfl rfl rfl) (pu_move (by (simp only [ev, List.getD_cons_succ, List.getD_cons_zero]; exact rfl))) (by (simp only [setD, List.set_cons_succ, List.set_cons_zero]; exact rfl)) ?_
    refine lw_pu (wan_some rfl rfl rfl) (pu_quo rfl rfl (by omega) (tdiv_lo (by omega) (by omega)) (tdiv_hi (by omega) (by omega))) (by (simp only [setD, List.set_cons_succ, List.set_cons_zero]; exact rfl)) ?_
    refine lw_pu (wan_some rfl rfl rfl) (pu_geq rfl rfl) (by (simp only [setD, List.set_cons_succ, List.set_cons_zero]; exact rfl)) ?_
    refine lw_pu (wan_none rfl) (pu_pick_t rfl (by (simp only [ev, List.getD_cons_succ, List.getD_cons_zero]; exact rfl))) (by (simp only [setD, List.set_cons_succ, List.set_cons_zero]; exact rfl)) ?_
    refine lw_pu (wan_none rfl) (pu_assign (by (simp only [ev, List.getD_cons_succ, List.getD_cons_zero]; exact rfl))) (by (simp only [setD, List.set_cons_succ, List.set_cons_zero]; exact rfl)) ?_
    refine lw_nil ?_; refine hK _ _ ?_; clear hK K
    refine tw_ret1 Try.func122 Try.results122 (by (simp only [ev, List.getD_cons_succ, List.getD_cons_zero]; exact rfl)) ?_
    rotate_left 1
    refine lw_skip_b rfl rfl rfl (by (simp only [setD, List.set_cons_succ, List.set_cons_zero]; exact rfl)) ?_
    refine lw_skip_b rfl rfl rfl (by (simp only [setD, List.set_cons_succ, List.set_cons_zero]; exact rfl)) ?_
    refine lw_skip_b rfl rfl rfl (by (simp only [setD, List.set_cons_succ, List.set_cons_zero]; exact rfl)) ?_
    refine lw_skip_b rfl rfl rfl (by (simp only [setD, List.set_cons_succ, List.set_cons_zero]; exact rfl)) ?_
    refine lw_pu (wan_none rfl) (pu_pick_f rfl (by (simp only [ev, List.getD_cons_succ, List.getD_cons_zero]; exact rfl))) (by (simp only [setD, List.set_cons_succ, List.set_cons_zero]; exact rfl)) ?_
    refine lw_pu (wan_none rfl) (pu_assign (by (simp only [ev, List.getD_cons_succ, List.getD_cons_zero]; exact rfl))) (by (simp only [setD, List.set_cons_succ, List.set_cons_zero]; exact rfl)) ?_
    refine lw_nil ?_; refine hK _ _ ?_; clear hK K
    refine tw_ret1 Try.func122 Try.results122 (by (simp only [ev, List.getD_cons_succ, List.getD_cons_zero]; exact rfl)) ?_
    rotate_left 1
    refine tw_skip ?_
    refine tw_seq ?_
    refine tw_region (fun K hK => ?_)
    refine lw_pu (wan_none rfl) (pu_move (by (simp only [ev, List.getD_cons_succ, List.getD_cons_zero]; exact rfl))) (by (simp only [setD, List.set_cons_succ, List.set_cons_zero]; exact rfl)) ?_
    refine lw_pu (wan_none rfl) (pu_move (by (simp only [ev, List.getD_cons_succ, List.getD_cons_zero]; exact rfl))) (by (simp only [setD, List.set_cons_succ, List.set_cons_zero]; exact rfl)) ?_
    first | refine lw_pu (wan_none rfl) (pu_subn rfl rfl (by omega) (by omega)) (by (simp only [setD, List.set_cons_succ, List.set_cons_zero]; exact rfl)) ?_ | refine lw_pu (wan_none rfl) (pu_subi rfl rfl (by omega) (by omega)) (by (simp only [setD, List.set_cons_succ, List.set_cons_zero]; exact rfl)) ?_ | refine lw_pu (wan_none rfl) (pu_sub rfl rfl) (by (simp only [setD, List.set_cons_succ, List.set_cons_zero]; exact rfl)) ?_
    refine lw_pu (wan_none rfl) (pu_assign (by (simp only [ev, List.getD_cons_succ, List.getD_cons_zero]; exact rfl))) (by (simp only [setD, List.set_cons_succ, List.set_cons_zero]; exact rfl)) ?_
    refine lw_nil ?_; refine hK _ _ ?_; clear hK K
    refine tw_seq ?_
    refine tw_seq ?_
    refine tw_region (fun K hK => ?_)
    refine lw_pu (wan_none rfl) (pu_move (by (simp only [ev, List.getD_cons_succ, List.getD_cons_zero]; exact rfl))) (by (simp only [setD, List.set_cons_succ, List.set_cons_zero]; exact rfl)) ?_
    refine lw_pu (wan_none rfl) (pu_eql rfl rfl) (by (simp only [setD, List.set_cons_succ, List.set_cons_zero]; exact rfl)) ?_
    refine lw_nil ?_; refine hK _ _ ?_; clear hK K
    refine tw_cond_ds rfl (by (simp only [List.set_cons_succ, List.set_cons_zero]; exact rfl)) (by (simp only [List.set_cons_succ, List.set_cons_zero]; exact rfl)) (fun hq => ?_) (fun hq => ?_)
    refine tw_seq ?_
    refine tw_region (fun K hK => ?_)
    refine lw_pu (wan_none rfl) (pu_move (by (simp only [ev, List.getD_cons_succ, List.getD_cons_zero]; exact rfl))) (by (simp only [setD, List.set_cons_succ, List.set_cons_zero]; exact rfl)) ?_
    refine lw_pu (wan_none rfl) (pu_eql rfl rfl) (by (simp only [setD, List.set_cons_succ, List.set_cons_zero]; exact rfl)) ?_
    refine lw_pu (wan_none rfl) (pu_assign (by (simp only [ev, List.getD_cons_succ, List.getD_cons_zero]; exact rfl))) (by (simp only [setD, List.set_cons_succ, List.set_cons_zero]; exact rfl)) ?_
    refine lw_nil ?_; refine hK _ _ ?_; clear hK K
    refine tw_ret1 Try.func122 Try.results122 (by (simp only [ev, List.getD_cons_succ, List.getD_cons_zero]; exact rfl)) ?_
    rotate_left 1
    refine tw_skip ?_
    refine tw_seq ?_
    refine tw_region (fun K hK => ?_)
    refine lw_pu (wan_none rfl) (pu_move (by (simp only [ev, List.getD_cons_succ, List.getD_cons_zero]; exact rfl))) (by (simp only [setD, List.set_cons_succ, List.set_cons_zero]; exact rfl)) ?_
    refine lw_pu (wan_none rfl) (pu_move (by (simp only [ev, List.getD_cons_succ, List.getD_cons_zero]; exact rfl))) (by (simp only [setD, List.set_cons_succ, List.set_cons_zero]; exact rfl)) ?_
    first | refine lw_pu (wan_none rfl) (pu_remn rfl rfl (by omega)) (by (simp only [setD, List.set_cons_succ, List.set_cons_zero]; exact rfl)) ?_ | refine lw_pu (wan_none rfl) (pu_rem rfl rfl (by omega)) (by (simp only [setD, List.set_cons_succ, List.set_cons_zero]; exact rfl)) ?_
    refine lw_pu (wan_none rfl) (pu_eql rfl rfl) (by (simp only [setD, List.set_cons_succ, List.set_cons_zero]; exact rfl)) ?_
    refine lw_pu (wan_none rfl) (pu_move (by (simp only [ev, List.getD_cons_succ, List.getD_cons_zero]; exact rfl))) (by (simp only [setD, List.set_cons_succ, List.set_cons_zero]; exact rfl)) ?_
    refine lw_split_d rfl rfl rfl (by (simp only [List.set_cons_succ, List.set_cons_zero]; exact rfl)) (by (simp only [List.set_cons_succ, List.set_cons_zero]; exact rfl)) (fun hq => ?_) (fun hq => ?_)
    refine lw_pu (wan_some rfl rfl rfl) (pu_move (by (simp only [ev, List.getD_cons_succ, List.getD_cons_zero]; exact rfl))) (by (simp only [setD, List.set_cons_succ, List.set_cons_zero]; exact rfl)) ?_
    refine lw_pu (wan_some rfl rfl rfl) (pu_move (by (simp only [ev, List.getD_cons_succ, List.getD_cons_zero]; exact rfl))) (by (simp only [setD, List.set_cons_succ, List.set_cons_zero]; exact rfl)) ?_
    refine lw_pu (wan_some rfl rfl rfl) (pu_quo rfl rfl (by omega) (tdiv_lo (by omega) (by omega)) (tdiv_hi (by omega) (by omega))) (by (simp only [setD, List.set_cons_succ, List.set_cons_zero]; exact rfl)) ?_
    refine lw_pu (wan_some rfl rfl rfl) (pu_geq rfl rfl) (by (simp only [setD, List.set_cons_succ, List.set_cons_zero]; exact rfl)) ?_
    refine lw_pu (wan_none rfl) (pu_pick_t rfl (by (simp only [ev, List.getD_cons_succ, List.getD_cons_zero]; exact rfl))) (by (simp only [setD, List.set_cons_succ, List.set_cons_zero]; exact rfl)) ?_
    refine lw_pu (wan_none rfl) (pu_assign (by (simp only [ev, List.getD_cons_succ, List.getD_cons_zero]; exact rfl))) (by (simp only [setD, List.set_cons_succ, List.set_cons_zero]; exact rfl)) ?_
    refine lw_nil ?_; refine hK _ _ ?_; clear hK K
    refine tw_ret1 Try.func122 Try.results122 (by (simp only [ev, List.getD_cons_succ, List.getD_cons_zero]; exact rfl)) ?_
    rotate_left 1
    refine lw_skip_b rfl rfl rfl (by (simp only [setD, List.set_cons_succ, List.set_cons_zero]; exact rfl)) ?_
    refine lw_skip_b rfl rfl rfl (by (simp only [setD, List.set_cons_succ, List.set_cons_zero]; exact rfl)) ?_
    refine lw_skip_b rfl rfl rfl (by (simp only [setD, List.set_cons_succ, List.set_cons_zero]; exact rfl)) ?_
    refine lw_skip_b rfl rfl rfl (by (simp only [setD, List.set_cons_succ, List.set_cons_zero]; exact rfl)) ?_
    refine lw_pu (wan_none rfl) (pu_pick_f rfl (by (simp only [ev, List.getD_cons_succ, List.getD_cons_zero]; exact rfl))) (by (simp only [setD, List.set_cons_succ, List.set_cons_zero]; exact rfl)) ?_
    refine lw_pu (wan_none rfl) (pu_assign (by (simp only [ev, List.getD_cons_succ, List.getD_cons_zero]; exact rfl))) (by (simp only [setD, List.set_cons_succ, List.set_cons_zero]; exact rfl)) ?_
    refine lw_nil ?_; refine hK _ _ ?_; clear hK K
    refine tw_ret1 Try.func122 Try.results122 (by (simp only [ev, List.getD_cons_succ, List.getD_cons_zero]; exact rfl)) ?_
    rotate_left 1
    refine tw_skip ?_
    refine tw_inBlock ?_
    refine tw_region (fun K hK => ?_)
    refine lw_pu (wan_none rfl) (pu_move (by (simp only [ev, List.getD_cons_succ, List.getD_cons_zero]; exact rfl))) (by (simp only [setD, List.set_cons_succ, List.set_cons_zero]; exact rfl)) ?_
    refine lw_pu (wan_none rfl) (pu_nilCheck_p rfl) (by (simp only [setD, List.set_cons_succ, List.set_cons_zero]; exact rfl)) ?_
    refine lw_pu (wan_none rfl) (pu_fieldAddr rfl (by exact fun w => siz _ w)) (by (simp only [setD, List.set_cons_succ, List.set_cons_zero]; exact rfl)) ?_
    first | refine lw_pu (wan_none rfl) (pu_load rfl (hct hm.ext)) (by (simp only [setD, List.set_cons_succ, List.set_cons_zero]; exact rfl)) ?_ | refine lw_pu (wan_none rfl) (pu_load rfl (hcd hm.ext)) (by (simp only [setD, List.set_cons_succ, List.set_cons_zero]; exact rfl)) ?_ | refine lw_pu (wan_none rfl) (pu_load rfl (hnd hm.ext)) (by (simp only [setD, List.set_cons_succ, List.set_cons_zero]; exact rfl)) ?_ | refine lw_pu (wan_none rfl) (pu_load rfl (hcn hm.ext)) (by (simp only [setD, List.set_cons_succ, List.set_cons_zero]; exact rfl)) ?_
    refine lw_pu (wan_none rfl) (pu_assign (by (simp only [ev, List.getD_cons_succ, List.getD_cons_zero]; exact rfl))) (by (simp only [setD, List.set_cons_succ, List.set_cons_zero]; exact rfl)) ?_
    refine lw_nil ?_; refine hK _ _ ?_; clear hK K
    rotate_left 1
    refine tw_skip ?_
    refine tw_inBlock ?_
    refine tw_region (fun K hK => ?_)
    refine lw_pu (wan_none rfl) (pu_move (by (simp only [ev, List.getD_cons_succ, List.getD_cons_zero]; exact rfl))) (by (simp only [setD, List.set_cons_succ, List.set_cons_zero]; exact rfl)) ?_
    refine lw_pu (wan_none rfl) (pu_nilCheck_p rfl) (by (simp only [setD, List.set_cons_succ, List.set_cons_zero]; exact rfl)) ?_
    refine lw_pu (wan_none rfl) (pu_fieldAddr rfl (by exact fun w => siz _ w)) (by (simp only [setD, List.set_cons_succ, List.set_cons_zero]; exact rfl)) ?_
    first | refine lw_pu (wan_none rfl) (pu_load rfl (hct hm.ext)) (by (simp only [setD, List.set_cons_succ, List.set_cons_zero]; exact rfl)) ?_ | refine lw_pu (wan_none rfl) (pu_load rfl (hcd hm.ext)) (by (simp only [setD, List.set_cons_succ, List.set_cons_zero]; exact rfl)) ?_ | refine lw_pu (wan_none rfl) (pu_load rfl (hnd hm.ext)) (by (simp only [setD, List.set_cons_succ, List.set_cons_zero]; exact rfl)) ?_ | refine lw_pu (wan_none rfl) (pu_load rfl (hcn hm.ext)) (by (simp only [setD, List.set_cons_succ, List.set_cons_zero]; exact rfl)) ?_
    refine lw_pu (wan_none rfl) (pu_assign (by (simp only [ev, List.getD_cons_succ, List.getD_cons_zero]; exact rfl))) (by (simp only [setD, List.set_cons_succ, List.set_cons_zero]; exact rfl)) ?_
    refine lw_nil ?_; refine hK _ _ ?_; clear hK K
    rotate_left 1
    -- left: round | ret | ret | ret | ret | ret | ret | ret | round | round | ret | ret | ret | ret | ret | ret | ret | round | round
    all_goals first
      | (exfalso; omega)
      | (exfalso; have h1 : la = true := (by assumption); have h2 : (!la) = true := (by assumption); rw [h1] at h2; cases h2)
      | (have h2 : (!la) = false := (by assumption)
         have h9 : c = n := (by assumption)
         have hP : Ty xs at_ (ty = true) j := fun h => by first | assumption | (exact Decidable.not_not.1 (by assumption)) | (exfalso; have h2 : ty = false := (by assumption); rw [h] at h2; cases h2)
         rw [if_pos hP] at hs
         have hjn : j = at_ := nodup_at hf.nodup hc hat h9
         refine IH (j + 1, cv + 1, ((cv + 1 : Nat) : Int), (cs[j + 1]?).map fun b => ⟨b, 0, none⟩) _ _ (by simp; omega) rfl ⟨hm, by simp; omega, hs.symm, ?_, fun h => ?_, rfl⟩
         · show ((cv + 1 : Nat) : Int) = if j + 1 ≤ at_ then -1 else (cnt (Ty xs at_ (ty = true)) (at_ + 1) : Int)
           rw [if_neg (by omega), show at_ + 1 = j + 1 by omega, hs]
         · rw [h] at h2
           cases h2)
      | (have hP : Ty xs at_ (ty = true) j := fun h => by first | assumption | (exact Decidable.not_not.1 (by assumption)) | (exfalso; have h2 : ty = false := (by assumption); rw [h] at h2; cases h2)
         rw [if_pos hP] at hs
         first
           | (have hjn : j = at_ := nodup_at hf.nodup hc hat (by assumption)
              subst hjn
              first
                | exact IH (j + 1, cv + 1, ((cv + 1 : Nat) : Int), (cs[j + 1]?).map fun b => ⟨b, 0, none⟩) _ _ (by simp; omega) rfl ⟨hm, by simp; omega, hs.symm, by simp only; rw [if_neg (by omega), hs], fun h => by (have h2 : (!la) = false := by assumption); rw [h] at h2; cases h2, rfl⟩
                | (have hlf : la = false := by
                     have h2 : (!la) = true := by assumption
                     cases la with
                     | true => cases h2
                     | false => rfl
                   have hN : ((cv + 1 : Nat) : Int) = (Num xs j ty la : Int) := by
                     unfold Num
                     rw [hlf, if_neg (by simp), hs]
                   refine ⟨⟨_, ((cv + 1 : Nat) : Int), rfl, hN, ?_⟩, hm.ext⟩
                   first
                     | (rw [decide_eq_true_iff]; exact ⟨fun h => ⟨by assumption, h⟩, fun h => h.2⟩)
                     | exact ⟨fun h => (by cases h), fun h => absurd h.1 (by assumption)⟩))
           | (have hjn : j ≠ at_ := fun e => absurd (by subst e; exact Option.some.inj (hc.symm.trans hat)) (by assumption)
              exact IH (j + 1, cv + 1, iv, (cs[j + 1]?).map fun b => ⟨b, 0, none⟩) _ _ (by simp; omega) rfl ⟨hm, by simp; omega, hs.symm, by simp only; rw [hiv]; split <;> split <;> omega, fun h => by have := hla h; simp only; omega, rfl⟩))
      | (have hP : ¬ Ty xs at_ (ty = true) j := fun h => absurd (h (by assumption)) (by assumption)
         rw [if_neg hP] at hs
         have hjn : j ≠ at_ := fun e => hP (by subst e; exact fun _ => rfl)
         exact IH (j + 1, cv, iv, (cs[j + 1]?).map fun b => ⟨b, 0, none⟩) _ _ (by simp; omega) rfl ⟨hm, by simp; omega, hs.symm, by simp only; rw [hiv]; split <;> split <;> omega, fun h => by have := hla h; simp only; omega, rfl⟩)
  · obtain rfl : j = xs.length := by omega
    rw [List.getElem?_eq_none (by omega)] at hqq
    obtain rfl : qq = none := hqq
    have hlt : la = true := by
      cases la with
      | true => rfl
      | false => have := hla rfl; omega
    subst hlt
    rw [if_neg (by omega)] at hiv
    refine tw_seq ?_
    refine tw_seq ?_
    refine tw_region (fun K hK => ?_)
    refine lw_pu (wan_none rfl) (pu_move (by (simp only [ev, List.getD_cons_succ, List.getD_cons_zero]; exact rfl))) (by (simp only [setD, List.set_cons_succ, List.set_cons_zero]; exact rfl)) ?_
    refine lw_pu (wan_none rfl) (pu_false (pu_neq_pt rfl rfl) (by simp)) (by (simp only [setD, List.set_cons_succ, List.set_cons_zero]; exact rfl)) ?_
    refine lw_nil ?_; refine hK _ _ ?_; clear hK K
    refine tw_cond_f rfl ?_
    refine tw_exit rfl ?_
    refine tw_seq ?_
    refine tw_seq ?_
    refine tw_region (fun K hK => ?_)
    refine lw_pu (wan_none rfl) (pu_move (by (simp only [ev, List.getD_cons_succ, List.getD_cons_zero]; exact rfl))) (by (simp only [setD, List.set_cons_succ, List.set_cons_zero]; exact rfl)) ?_
    refine lw_pu (wan_none rfl) (pu_eql rfl rfl) (by (simp only [setD, List.set_cons_succ, List.set_cons_zero]; exact rfl)) ?_
    refine lw_nil ?_; refine hK _ _ ?_; clear hK K
    refine tw_cond_ds rfl (by (simp only [List.set_cons_succ, List.set_cons_zero]; exact rfl)) (by (simp only [List.set_cons_succ, List.set_cons_zero]; exact rfl)) (fun hq => ?_) (fun hq => ?_)
    refine tw_seq ?_
    refine tw_region (fun K hK => ?_)
    refine lw_pu (wan_none rfl) (pu_assign (by (simp only [ev, List.getD_cons_succ, List.getD_cons_zero]; exact rfl))) (by (simp only [setD, List.set_cons_succ, List.set_cons_zero]; exact rfl)) ?_
    refine lw_nil ?_; refine hK _ _ ?_; clear hK K
    refine tw_ret1 Try.func122 Try.results122 (by (simp only [ev, List.getD_cons_succ, List.getD_cons_zero]; exact rfl)) ?_
    rotate_left 1
    refine tw_skip ?_
    refine tw_seq ?_
    refine tw_seq ?_
    refine tw_region (fun K hK => ?_)
    refine lw_pu (wan_none rfl) (pu_move (by (simp only [ev, List.getD_cons_succ, List.getD_cons_zero]; exact rfl))) (by (simp only [setD, List.set_cons_succ, List.set_cons_zero]; exact rfl)) ?_
    refine lw_nil ?_; refine hK _ _ ?_; clear hK K
    refine tw_cond_t rfl ?_
    refine tw_region (fun K hK => ?_)
    refine lw_pu (wan_none rfl) (pu_move (by (simp only [ev, List.getD_cons_succ, List.getD_cons_zero]; exact rfl))) (by (simp only [setD, List.set_cons_succ, List.set_cons_zero]; exact rfl)) ?_
    refine lw_pu (wan_none rfl) (pu_move (by (simp only [ev, List.getD_cons_succ, List.getD_cons_zero]; exact rfl))) (by (simp only [setD, List.set_cons_succ, List.set_cons_zero]; exact rfl)) ?_
    first | refine lw_pu (wan_none rfl) (pu_subn rfl rfl (by omega) (by omega)) (by (simp only [setD, List.set_cons_succ, List.set_cons_zero]; exact rfl)) ?_ | refine lw_pu (wan_none rfl) (pu_subi rfl rfl (by omega) (by omega)) (by (simp only [setD, List.set_cons_succ, List.set_cons_zero]; exact rfl)) ?_ | refine lw_pu (wan_none rfl) (pu_sub rfl rfl) (by (simp only [setD, List.set_cons_succ, List.set_cons_zero]; exact rfl)) ?_
    first | refine lw_pu (wan_none rfl) (pu_addn (n := 1) rfl rfl (by omega)) (by (simp only [setD, List.set_cons_succ, List.set_cons_zero]; exact rfl)) ?_ | refine lw_pu (wan_none rfl) (pu_addi rfl rfl (by omega) (by omega)) (by (simp only [setD, List.set_cons_succ, List.set_cons_zero]; exact rfl)) ?_ | refine lw_pu (wan_none rfl) (pu_add rfl rfl) (by (simp only [setD, List.set_cons_succ, List.set_cons_zero]; exact rfl)) ?_
    refine lw_pu (wan_none rfl) (pu_assign (by (simp only [ev, List.getD_cons_succ, List.getD_cons_zero]; exact rfl))) (by (simp only [setD, List.set_cons_succ, List.set_cons_zero]; exact rfl)) ?_
    refine lw_nil ?_; refine hK _ _ ?_; clear hK K
    refine tw_seq ?_
    refine tw_region (fun K hK => ?_)
    refine lw_pu (wan_none rfl) (pu_move (by (simp only [ev, List.getD_cons_succ, List.getD_cons_zero]; exact rfl))) (by (simp only [setD, List.set_cons_succ, List.set_cons_zero]; exact rfl)) ?_
    refine lw_pu (wan_none rfl) (pu_move (by (simp only [ev, List.getD_cons_succ, List.getD_cons_zero]; exact rfl))) (by (simp only [setD, List.set_cons_succ, List.set_cons_zero]; exact rfl)) ?_
    first | refine lw_pu (wan_none rfl) (pu_subn rfl rfl (by omega) (by omega)) (by (simp only [setD, List.set_cons_succ, List.set_cons_zero]; exact rfl)) ?_ | refine lw_pu (wan_none rfl) (pu_subi rfl rfl (by omega) (by omega)) (by (simp only [setD, List.set_cons_succ, List.set_cons_zero]; exact rfl)) ?_ | refine lw_pu (wan_none rfl) (pu_sub rfl rfl) (by (simp only [setD, List.set_cons_succ, List.set_cons_zero]; exact rfl)) ?_
    refine lw_pu (wan_none rfl) (pu_assign (by (simp only [ev, List.getD_cons_succ, List.getD_cons_zero]; exact rfl))) (by (simp only [setD, List.set_cons_succ, List.set_cons_zero]; exact rfl)) ?_
    refine lw_nil ?_; refine hK _ _ ?_; clear hK K
    refine tw_seq ?_
    refine tw_seq ?_
    refine tw_region (fun K hK => ?_)
    refine lw_pu (wan_none rfl) (pu_move (by (simp only [ev, List.getD_cons_succ, List.getD_cons_zero]; exact rfl))) (by (simp only [setD, List.set_cons_succ, List.set_cons_zero]; exact rfl)) ?_
    refine lw_pu (wan_none rfl) (pu_eql rfl rfl) (by (simp only [setD, List.set_cons_succ, List.set_cons_zero]; exact rfl)) ?_
    refine lw_nil ?_; refine hK _ _ ?_; clear hK K
    refine tw_cond_ds rfl (by (simp only [List.set_cons_succ, List.set_cons_zero]; exact rfl)) (by (simp only [List.set_cons_succ, List.set_cons_zero]; exact rfl)) (fun hq => ?_) (fun hq => ?_)
    refine tw_seq ?_
    refine tw_region (fun K hK => ?_)
    refine lw_pu (wan_none rfl) (pu_move (by (simp only [ev, List.getD_cons_succ, List.getD_cons_zero]; exact rfl))) (by (simp only [setD, List.set_cons_succ, List.set_cons_zero]; exact rfl)) ?_
    refine lw_pu (wan_none rfl) (pu_eql rfl rfl) (by (simp only [setD, List.set_cons_succ, List.set_cons_zero]; exact rfl)) ?_
    refine lw_pu (wan_none rfl) (pu_assign (by (simp only [ev, List.getD_cons_succ, List.getD_cons_zero]; exact rfl))) (by (simp only [setD, List.set_cons_succ, List.set_cons_zero]; exact rfl)) ?_
    refine lw_nil ?_; refine hK _ _ ?_; clear hK K
    refine tw_ret1 Try.func122 Try.results122 (by (simp only [ev, List.getD_cons_succ, List.getD_cons_zero]; exact rfl)) ?_
    rotate_left 1
    refine tw_skip ?_
    refine tw_seq ?_
    refine tw_region (fun K hK => ?_)
    refine lw_pu (wan_none rfl) (pu_move (by (simp only [ev, List.getD_cons_succ, List.getD_cons_zero]; exact rfl))) (by (simp only [setD, List.set_cons_succ, List.set_cons_zero]; exact rfl)) ?_
    refine lw_pu (wan_none rfl) (pu_move (by (simp only [ev, List.getD_cons_succ, List.getD_cons_zero]; exact rfl))) (by (simp only [setD, List.set_cons_succ, List.set_cons_zero]; exact rfl)) ?_
    first | refine lw_pu (wan_none rfl) (pu_remn rfl rfl (by omega)) (by (simp only [setD, List.set_cons_succ, List.set_cons_zero]; exact rfl)) ?_ | refine lw_pu (wan_none rfl) (pu_rem rfl rfl (by omega)) (by (simp only [setD, List.set_cons_succ, List.set_cons_zero]; exact rfl)) ?_
    refine lw_pu (wan_none rfl) (pu_eql rfl rfl) (by (simp only [setD, List.set_cons_succ, List.set_cons_zero]; exact rfl)) ?_
    refine lw_pu (wan_none rfl) (pu_move (by (simp only [ev, List.getD_cons_succ, List.getD_cons_zero]; exact rfl))) (by (simp only [setD, List.set_cons_succ, List.set_cons_zero]; exact rfl)) ?_
    refine lw_split_d rfl rfl rfl (by (simp only [List.set_cons_succ, List.set_cons_zero]; exact rfl)) (by (simp only [List.set_cons_succ, List.set_cons_zero]; exact rfl)) (fun hq => ?_) (fun hq => ?_)
    refine lw_pu (wan_some rfl rfl rfl) (pu_move (by (simp only [ev, List.getD_cons_succ, List.getD_cons_zero]; exact rfl))) (by (simp only [setD, List.set_cons_succ, List.set_cons_zero]; exact rfl)) ?_
    refine lw_pu (wan_some rfl rfl rfl) (pu_move (by (simp only [ev, List.getD_cons_succ, List.getD_cons_zero]; exact rfl))) (by (simp only [setD, List.set_cons_succ, List.set_cons_zero]; exact rfl)) ?_
    refine lw_pu (wan_some rfl rfl rfl) (pu_quo rfl rfl (by omega) (tdiv_lo (by omega) (by omega)) (tdiv_hi (by omega) (by omega))) (by (simp only [setD, List.set_cons_succ, List.set_cons_zero]; exact rfl)) ?_
    refine lw_pu (wan_some rfl rfl rfl) (pu_geq rfl rfl) (by (simp only [setD, List.set_cons_succ, List.set_cons_zero]; exact rfl)) ?_
    refine lw_pu (wan_none rfl) (pu_pick_t rfl (by (simp only [ev, List.getD_cons_succ, List.getD_cons_zero]; exact rfl))) (by (simp only [setD, List.set_cons_succ, List.set_cons_zero]; exact rfl)) ?_
    refine lw_pu (wan_none rfl) (pu_assign (by (simp only [ev, List.getD_cons_succ, List.getD_cons_zero]; exact rfl))) (by (simp only [setD, List.set_cons_succ, List.set_cons_zero]; exact rfl)) ?_
    refine lw_nil ?_; refine hK _ _ ?_; clear hK K
    refine tw_ret1 Try.func122 Try.results122 (by (simp only [ev, List.getD_cons_succ, List.getD_cons_zero]; exact rfl)) ?_
    rotate_left 1
    refine lw_skip_b rfl rfl rfl (by (simp only [setD, List.set_cons_succ, List.set_cons_zero]; exact rfl)) ?_
    refine lw_skip_b rfl rfl rfl (by (simp only [setD, List.set_cons_succ, List.set_cons_zero]; exact rfl)) ?_
    refine lw_skip_b rfl rfl rfl (by (simp only [setD, List.set_cons_succ, List.set_cons_zero]; exact rfl)) ?_
    refine lw_skip_b rfl rfl rfl (by (simp only [setD, List.set_cons_succ, List.set_cons_zero]; exact rfl)) ?_
    refine lw_pu (wan_none rfl) (pu_pick_f rfl (by (simp only [ev, List.getD_cons_succ, List.getD_cons_zero]; exact rfl))) (by (simp only [setD, List.set_cons_succ, List.set_cons_zero]; exact rfl)) ?_
    refine lw_pu (wan_none rfl) (pu_assign (by (simp only [ev, List.getD_cons_succ, List.getD_cons_zero]; exact rfl))) (by (simp only [setD, List.set_cons_succ, List.set_cons_zero]; exact rfl)) ?_
    refine lw_nil ?_; refine hK _ _ ?_; clear hK K
    refine tw_ret1 Try.func122 Try.results122 (by (simp only [ev, List.getD_cons_succ, List.getD_cons_zero]; exact rfl)) ?_
    rotate_left 1
    -- left: ret | ret | ret | ret
    all_goals first
      | (exfalso; omega)
      | (have hN : (cv : Int) - iv + 1 = (Num xs at_ ty true : Int) := by
           unfold Num
           rw [if_pos rfl]
           omega
         refine ⟨⟨_, (cv : Int) - iv + 1, rfl, hN, ?_⟩, hm.ext⟩
         first
           | (rw [decide_eq_true_iff]; exact ⟨fun h => ⟨by assumption, h⟩, fun h => h.2⟩)
           | exact ⟨fun h => (by cases h), fun h => absurd h.1 (by assumption)⟩)
end Go.Proofs.Ytnggneccdekofaa.NthMatch
