/-
  Elements with one parent: how the package makes them, and how it counts them.
-/
import Derived.Test.YtnggneccdekofaaCounted
namespace Go.Proofs.Ytnggneccdekofaa.Brother
open Go Go.Proofs K HTree Counted

set_option linter.unusedSimpArgs false
set_option linter.unusedVariables false
set_option maxRecDepth 10000
/-- Elements with one parent, by their names. -/
structure Fam (xs : List Nm) (p : Nat) (cs : List Nat) (σ : Nat → HN) (ids : List Nat) : Prop where
  len : cs.length = xs.length
  kin : Kin σ p cs
  dat : ∀ (i b : Nat), cs[i]? = some b → (σ b).typ = 3 ∧ (σ b).dat = xs.getD i []
  pin : p ∈ ids
  cin : ∀ b ∈ cs, b ∈ ids
  nodup : cs.Nodup
def node (d : Nm) : HN := ⟨none, none, none, none, none, 3, 0, d, [], none, 0, 0⟩
theorem Fam.nil (p : Nat) (σ : Nat → HN) : Fam [] p [] (upd σ p (node [])) [p] :=
  ⟨rfl, ⟨by rw [upd_same]; rfl, by rw [upd_same]; rfl, fun i b h => by simp at h, fun i b h => by simp at h, fun i b h => by simp at h⟩, fun i b h => by simp at h, by simp, by simp, List.nodup_nil⟩
theorem Fam.add {xs : List Nm} {p c : Nat} {cs : List Nat} {σ : Nat → HN} {ids : List Nat} (hf : Fam xs p cs σ ids) (hc : c ∉ ids) (d : Nm) : Fam (xs ++ [d]) p (cs ++ [c]) (app (upd σ c (node d)) p c) (c :: ids) := by
  have hcs : c ∉ cs := fun h => hc (hf.cin c h)
  have hpc : p ≠ c := fun h => hc (h ▸ hf.pin)
  have hne : ∀ (i b : Nat), cs[i]? = some b → b ≠ c := fun i b h e => hcs (e ▸ List.mem_of_getElem? h)
  have hk : Kin (upd σ c (node d)) p cs := ⟨by rw [upd_other hpc]; exact hf.kin.fst, by rw [upd_other hpc]; exact hf.kin.lst, fun i b h => by rw [upd_other (hne i b h)]; exact hf.kin.par i b h, fun i b h => by rw [upd_other (hne i b h)]; exact hf.kin.nxt i b h, fun i b h => by rw [upd_other (hne i b h)]; exact hf.kin.prv i b h⟩
  refine ⟨by simp [hf.len], hk.app hcs hf.nodup (by rw [upd_same]; rfl), fun i b h => ?_, by simp [hf.pin], fun b hb => ?_, ?_⟩
  · rw [app_typ, app_dat]
    rcases Nat.lt_or_ge i cs.length with hi | hi
    · rw [List.getElem?_append_left hi] at h
      rw [upd_other (hne i b h), List.getD_eq_getElem?_getD, List.getElem?_append_left (by rw [← hf.len]; exact hi), ← List.getD_eq_getElem?_getD]
      exact hf.dat i b h
    · rw [List.getElem?_append_right hi] at h
      have h4 : i - cs.length = 0 := by
        have := (List.getElem?_eq_some_iff.1 h).1
        simp at this
        omega
      rw [h4] at h
      simp at h
      subst h
      have h5 : i = xs.length := by have := hf.len; omega
      subst h5
      rw [upd_same]
      simp [node]
  · rcases List.mem_append.1 hb with h | h
    · exact List.mem_cons_of_mem _ (hf.cin b h)
    · simp at h; subst h; simp
  · rw [List.nodup_append]
    exact ⟨hf.nodup, by simp, fun a ha b hb e => by simp at hb; subst hb; exact hcs (e ▸ ha)⟩

/-- What brother hands back. -/
def Bro (xs : List Nm) (at_ : Nat) (v : Value) (L : List Blk) : Prop := ∃ p cs σ ids n, Fam xs p cs σ ids ∧ L = blks σ ids ∧ cs[at_]? = some n ∧ v = .pointer (some ⟨n, 0, none⟩)
theorem brother_ret (xs : List Nm) (at_ : Nat) (hat : at_ < xs.length) (q : Option Addr) (cp : Nat) (h0 : Array Obj) (hmax : xs.length ≤ 200) (hr : SlR h0 1 q (xs.map srow)) : Ret Try.prog 86 [.slice q xs.length cp, .int .i64 (at_ : Int)] h0 fun v h => ∃ L, Bro xs at_ v L ∧ Mem h0 h [] L := by
  have hm := Mem.refl h0
  refine ret_of_tw (ρ := ((.slice q xs.length cp) :: (.int .i64 (at_ : Int)) :: undef :: undef :: undef :: undef :: undef :: undef :: undef :: undef :: undef :: undef :: undef :: undef :: undef :: undef :: undef :: undef :: undef :: undef :: undef :: undef :: undef :: undef :: undef :: undef :: undef :: undef :: undef :: undef :: undef :: [])) Try.func86 rfl rfl (fun E => ?_)
  refine tw_seq ?_
  refine tw_region (fun K hK => ?_)
  refine lw_pu (wan_none rfl) (pu_assign (by (simp only [ev, List.getD_cons_succ, List.getD_cons_zero]; exact rfl))) (by (simp only [setD, List.set_cons_succ, List.set_cons_zero]; exact rfl)) ?_
  refine lw_nil ?_; refine hK _ _ ?_; clear hK K
  refine tw_seq ?_
  refine tw_region (fun K hK => ?_)
  refine lw_pu (wan_none rfl) (pu_build rfl rfl (by (simp only [put1, List.map_cons, List.map_nil, ev, List.getD_cons_succ, List.getD_cons_zero, List.set_cons_succ, List.set_cons_zero]; exact rfl))) (by (simp only [setD, List.set_cons_succ, List.set_cons_zero]; exact rfl)) ?_
  refine lw_box (wan_none rfl) (by (simp only [ev, List.getD_cons_succ, List.getD_cons_zero]; exact rfl)) rfl hm ?_; clear hm; intro b11 h hm; refine lw_norm (by (simp only [setD, List.set_cons_succ, List.set_cons_zero]; exact rfl)) ?_
  refine lw_pu (wan_none rfl) (pu_assign (by (simp only [ev, List.getD_cons_succ, List.getD_cons_zero]; exact rfl))) (by (simp only [setD, List.set_cons_succ, List.set_cons_zero]; exact rfl)) ?_
  refine lw_nil ?_; refine hK _ _ ?_; clear hK K
  refine tw_seq ?_
  refine tw_region (fun K hK => ?_)
  refine lw_pu (wan_none rfl) (pu_assign (by (simp only [ev, List.getD_cons_succ, List.getD_cons_zero]; exact rfl))) (by (simp only [setD, List.set_cons_succ, List.set_cons_zero]; exact rfl)) ?_
  refine lw_nil ?_; refine hK _ _ ?_; clear hK K
  refine tw_seq ?_
  refine tw_seq ?_
  refine tw_region (fun K hK => ?_)
  refine lw_pu (wan_none rfl) (pu_move (by (simp only [ev, List.getD_cons_succ, List.getD_cons_zero]; exact rfl))) (by (simp only [setD, List.set_cons_succ, List.set_cons_zero]; exact rfl)) ?_
  refine lw_pu (wan_none rfl) (pu_lensl rfl rfl) (by (simp only [setD, List.set_cons_succ, List.set_cons_zero]; exact rfl)) ?_
  refine lw_pu (wan_none rfl) (pu_move (by (simp only [ev, List.getD_cons_succ, List.getD_cons_zero]; exact rfl))) (by (simp only [setD, List.set_cons_succ, List.set_cons_zero]; exact rfl)) ?_
  refine lw_nil ?_; refine hK _ _ ?_; clear hK K
  refine tw_block ?_
  rotate_left 1
  -- left: loop
  have hm1 := (Mem.node (σ := fun _ => node []) (ids := []) (R := []) (b := b11) (n := node []) hm).2
  clear hm
  refine tw_loopJ (X := Nat × List Nat × (Nat → HN) × List Nat × Option Addr) (fun x => xs.length - x.1) (fun x J => (.slice q xs.length cp :: .int .i64 (at_ : Int) :: J 2 :: J 3 :: J 4 :: .pointer (some ⟨b11, 0, none⟩) :: .pointer x.2.2.2.2 :: J 7 :: J 8 :: J 9 :: J 10 :: J 11 :: .slice q xs.length cp :: .int .i64 (xs.length : Int) :: .int .i64 (x.1 : Int) :: J 15 :: J 16 :: J 17 :: J 18 :: J 19 :: J 20 :: J 21 :: J 22 :: J 23 :: J 24 :: J 25 :: J 26 :: J 27 :: J 28 :: J 29 :: J 30 :: [])) (fun x h => Mem h0 h [] (blks x.2.2.1 x.2.2.2.1 ++ []) ∧ x.1 ≤ xs.length ∧ Fam (xs.take x.1) b11 x.2.1 x.2.2.1 x.2.2.2.1 ∧ (at_ < x.1 → ∃ n, x.2.1[at_]? = some n ∧ x.2.2.2.2 = some ⟨n, 0, none⟩)) (0, [], upd (fun _ => node []) b11 (node []), [b11], none) rfl ⟨hm1, by simp, by simpa using Fam.nil b11 _, fun h => absurd h (Nat.not_lt_zero _)⟩ ?_
  clear hm1
  rintro ⟨i, cs, σ, ids, out⟩ J h ⟨hm, hi, hf, ho⟩ IH
  simp only at hm hi hf ho
  have hlen := hf.len
  rw [List.length_take, Nat.min_eq_left hi] at hlen
  refine tw_seq ?_
  refine tw_region (fun K hK => ?_)
  refine lw_pu (wan_none rfl) (pu_lss rfl rfl) (by (simp only [setD, List.set_cons_succ, List.set_cons_zero]; exact rfl)) ?_
  refine lw_nil ?_; refine hK _ _ ?_; clear hK K
  refine tw_seq ?_
  refine tw_cond_ds rfl (by (simp only [List.set_cons_succ, List.set_cons_zero]; exact rfl)) (by (simp only [List.set_cons_succ, List.set_cons_zero]; exact rfl)) (fun hq => ?_) (fun hq => ?_)
  refine tw_skip ?_
  refine tw_seq ?_
  refine tw_block ?_
  refine tw_seq ?_
  refine tw_region (fun K hK => ?_)
  rotate_left 1
  refine tw_exit rfl ?_
  refine tw_seq ?_
  refine tw_region (fun K hK => ?_)
  refine lw_pu (wan_none rfl) (pu_move (by (simp only [ev, List.getD_cons_succ, List.getD_cons_zero]; exact rfl))) (by (simp only [setD, List.set_cons_succ, List.set_cons_zero]; exact rfl)) ?_
  refine lw_pu (wan_none rfl) (pu_assign (by (simp only [ev, List.getD_cons_succ, List.getD_cons_zero]; exact rfl))) (by (simp only [setD, List.set_cons_succ, List.set_cons_zero]; exact rfl)) ?_
  refine lw_nil ?_; refine hK _ _ ?_; clear hK K
  refine tw_ret1 Try.func86 Try.results86 (by (simp only [ev, List.getD_cons_succ, List.getD_cons_zero]; exact rfl)) ?_
  rotate_left 1
  -- left: region 5 op 0 | ret
  · obtain ⟨a, ha, hq', hc⟩ := hr.at (i := i) (by omega)
    have hc0 : ∀ {h}, Ext h0 h → cell h ⟨blk q, offs q + i * 1, none⟩ = some (bs a) := fun he => he.cell hc.1
    have htk : xs.take (i + 1) = xs.take i ++ [a] := by rw [List.take_add_one, ha]; rfl
    refine lw_pu (wan_none rfl) (pu_move (by (simp only [ev, List.getD_cons_succ, List.getD_cons_zero]; exact rfl))) (by (simp only [setD, List.set_cons_succ, List.set_cons_zero]; exact rfl)) ?_
    first | refine lw_pu (wan_none rfl) (pu_indexAddrQ rfl rfl (by omega) (by assumption)) (by (simp only [setD, List.set_cons_succ, List.set_cons_zero]; exact rfl)) ?_ | refine lw_pu (wan_none rfl) (pu_indexAddr rfl rfl (by omega)) (by (simp only [setD, List.set_cons_succ, List.set_cons_zero]; exact rfl)) ?_
    refine lw_pu (wan_none rfl) (pu_load rfl (hc0 hm.ext)) (by (simp only [setD, List.set_cons_succ, List.set_cons_zero]; exact rfl)) ?_
    refine lw_pu (wan_none rfl) (pu_assign (by (simp only [ev, List.getD_cons_succ, List.getD_cons_zero]; exact rfl))) (by (simp only [setD, List.set_cons_succ, List.set_cons_zero]; exact rfl)) ?_
    refine lw_pu (wan_none rfl) (pu_assign (by (simp only [ev, List.getD_cons_succ, List.getD_cons_zero]; exact rfl))) (by (simp only [setD, List.set_cons_succ, List.set_cons_zero]; exact rfl)) ?_
    refine lw_nil ?_; refine hK _ _ ?_; clear hK K
    refine tw_seq ?_
    refine tw_region (fun K hK => ?_)
    refine lw_pu (wan_none rfl) (pu_move (by (simp only [ev, List.getD_cons_succ, List.getD_cons_zero]; exact rfl))) (by (simp only [setD, List.set_cons_succ, List.set_cons_zero]; exact rfl)) ?_
    refine lw_pu (wan_none rfl) (pu_build rfl rfl (by (simp only [put1, List.map_cons, List.map_nil, ev, List.getD_cons_succ, List.getD_cons_zero, List.set_cons_succ, List.set_cons_zero]; exact rfl))) (by (simp only [setD, List.set_cons_succ, List.set_cons_zero]; exact rfl)) ?_
    refine lw_box (wan_none rfl) (by (simp only [ev, List.getD_cons_succ, List.getD_cons_zero]; exact rfl)) rfl hm ?_; clear hm; intro b21 h hm; refine lw_norm (by (simp only [setD, List.set_cons_succ, List.set_cons_zero]; exact rfl)) ?_
    refine lw_pu (wan_none rfl) (pu_assign (by (simp only [ev, List.getD_cons_succ, List.getD_cons_zero]; exact rfl))) (by (simp only [setD, List.set_cons_succ, List.set_cons_zero]; exact rfl)) ?_
    refine lw_nil ?_; refine hK _ _ ?_; clear hK K
    refine tw_seq ?_
    rotate_left 1
    -- left: region 7
    obtain ⟨hnew, hm2⟩ := Mem.node (n := node a) hm
    have hf2 := hf.add hnew a
    rw [← htk] at hf2
    refine tw_region (fun K hK => ?_)
    refine lw_pu (wan_none rfl) (pu_move (by (simp only [ev, List.getD_cons_succ, List.getD_cons_zero]; exact rfl))) (by (simp only [setD, List.set_cons_succ, List.set_cons_zero]; exact rfl)) ?_
    refine lw_pu (wan_none rfl) (pu_move (by (simp only [ev, List.getD_cons_succ, List.getD_cons_zero]; exact rfl))) (by (simp only [setD, List.set_cons_succ, List.set_cons_zero]; exact rfl)) ?_
    refine lw_cal (wan_none rfl) (app_ret hm2 (List.mem_cons_of_mem _ hf.pin) (List.mem_cons_self) (fun l hl => ?_) (by rw [upd_same]; rfl) (by rw [upd_same]; rfl) (by rw [upd_same]; rfl)) ?_; rotate_left 1; clear hm2 hm; intro _ h hm; refine lw_norm (by (simp only [setD, List.set_cons_succ, List.set_cons_zero]; exact rfl)) ?_
    refine lw_nil ?_; refine hK _ _ ?_; clear hK K
    refine tw_seq ?_
    refine tw_region (fun K hK => ?_)
    refine lw_pu (wan_none rfl) (pu_move (by (simp only [ev, List.getD_cons_succ, List.getD_cons_zero]; exact rfl))) (by (simp only [setD, List.set_cons_succ, List.set_cons_zero]; exact rfl)) ?_
    refine lw_pu (wan_none rfl) (pu_move (by (simp only [ev, List.getD_cons_succ, List.getD_cons_zero]; exact rfl))) (by (simp only [setD, List.set_cons_succ, List.set_cons_zero]; exact rfl)) ?_
    refine lw_pu (wan_none rfl) (pu_eql rfl rfl) (by (simp only [setD, List.set_cons_succ, List.set_cons_zero]; exact rfl)) ?_
    refine lw_nil ?_; refine hK _ _ ?_; clear hK K
    refine tw_cond_ds rfl (by (simp only [List.set_cons_succ, List.set_cons_zero]; exact rfl)) (by (simp only [List.set_cons_succ, List.set_cons_zero]; exact rfl)) (fun hq => ?_) (fun hq => ?_)
    refine tw_region (fun K hK => ?_)
    refine lw_pu (wan_none rfl) (pu_move (by (simp only [ev, List.getD_cons_succ, List.getD_cons_zero]; exact rfl))) (by (simp only [setD, List.set_cons_succ, List.set_cons_zero]; exact rfl)) ?_
    refine lw_pu (wan_none rfl) (pu_assign (by (simp only [ev, List.getD_cons_succ, List.getD_cons_zero]; exact rfl))) (by (simp only [setD, List.set_cons_succ, List.set_cons_zero]; exact rfl)) ?_
    refine lw_nil ?_; refine hK _ _ ?_; clear hK K
    refine tw_inBlock ?_
    refine tw_region (fun K hK => ?_)
    first | refine lw_pu (wan_none rfl) (pu_addn (n := 1) rfl rfl (by omega)) (by (simp only [setD, List.set_cons_succ, List.set_cons_zero]; exact rfl)) ?_ | refine lw_pu (wan_none rfl) (pu_addi rfl rfl (by omega) (by omega)) (by (simp only [setD, List.set_cons_succ, List.set_cons_zero]; exact rfl)) ?_ | refine lw_pu (wan_none rfl) (pu_add rfl rfl) (by (simp only [setD, List.set_cons_succ, List.set_cons_zero]; exact rfl)) ?_
    refine lw_pu (wan_none rfl) (pu_move (by (simp only [ev, List.getD_cons_succ, List.getD_cons_zero]; exact rfl))) (by (simp only [setD, List.set_cons_succ, List.set_cons_zero]; exact rfl)) ?_
    refine lw_nil ?_; refine hK _ _ ?_; clear hK K
    rotate_left 1
    refine tw_skip ?_
    refine tw_inBlock ?_
    refine tw_region (fun K hK => ?_)
    first | refine lw_pu (wan_none rfl) (pu_addn (n := 1) rfl rfl (by omega)) (by (simp only [setD, List.set_cons_succ, List.set_cons_zero]; exact rfl)) ?_ | refine lw_pu (wan_none rfl) (pu_addi rfl rfl (by omega) (by omega)) (by (simp only [setD, List.set_cons_succ, List.set_cons_zero]; exact rfl)) ?_ | refine lw_pu (wan_none rfl) (pu_add rfl rfl) (by (simp only [setD, List.set_cons_succ, List.set_cons_zero]; exact rfl)) ?_
    refine lw_pu (wan_none rfl) (pu_move (by (simp only [ev, List.getD_cons_succ, List.getD_cons_zero]; exact rfl))) (by (simp only [setD, List.set_cons_succ, List.set_cons_zero]; exact rfl)) ?_
    refine lw_nil ?_; refine hK _ _ ?_; clear hK K
    rotate_left 1
    -- left: round | round
    · have hpn : b11 ≠ b21 := fun e => hnew (e ▸ hf.pin)
      rw [upd_other hpn, hf.kin.lst] at hl
      exact List.mem_cons_of_mem _ (hf.cin l (List.mem_of_getElem? hl))
    · have hia : i = at_ := by omega
      refine IH (i + 1, cs ++ [b21], app (upd σ b21 (node a)) b11 b21, b21 :: ids, some ⟨b21, 0, none⟩) _ _ (by simp; omega) rfl ⟨hm, by simp; omega, hf2, fun _ => ⟨b21, ?_, rfl⟩⟩
      show (cs ++ [b21])[at_]? = some b21
      rw [List.getElem?_append_right (by omega), ← hia, hlen]
      simp
    · have hia : i ≠ at_ := by omega
      refine IH (i + 1, cs ++ [b21], app (upd σ b21 (node a)) b11 b21, b21 :: ids, out) _ _ (by simp; omega) rfl ⟨hm, by simp; omega, hf2, fun h1 => ?_⟩
      simp only at h1
      obtain ⟨n, h2, h3⟩ := ho (by omega)
      refine ⟨n, ?_, h3⟩
      show (cs ++ [b21])[at_]? = some n
      rw [List.getElem?_append_left (by omega)]
      exact h2
  · obtain rfl : i = xs.length := by omega
    obtain ⟨n, h2, h3⟩ := ho hat
    rw [List.take_length] at hf
    rw [List.append_nil] at hm
    exact ⟨_, ⟨b11, cs, σ, ids, n, hf, rfl, h2, by rw [h3]⟩, hm⟩

/-- What the memory tells of them, throughout a call that changes nothing. -/
structure Sees (xs : List Nm) (p : Nat) (cs : List Nat) (σ : Nat → HN) (ids : List Nat) (h0 : Array Obj) : Prop where
  fam : Fam xs p cs σ ids
  nds : Nds h0 σ ids
theorem last_kin {xs : List Nm} {p : Nat} {cs : List Nat} {σ : Nat → HN} {ids : List Nat} (hf : Fam xs p cs σ ids) : (σ p).lst = cs[cs.length - 1]? := hf.kin.lst

theorem nodup_at {l : List Nat} (hn : l.Nodup) {i j a b : Nat} (hi : l[i]? = some a) (hj : l[j]? = some b) (hab : a = b) : i = j := by
  obtain ⟨hi1, hi2⟩ := List.getElem?_eq_some_iff.1 hi
  obtain ⟨hj1, hj2⟩ := List.getElem?_eq_some_iff.1 hj
  exact (List.getElem_inj hn).1 (hi2.trans (hab.trans hj2.symm))
theorem simpleNth_ret (xs : List Nm) (p : Nat) (cs : List Nat) (σ : Nat → HN) (ids : List Nat) (at_ n : Nat) (b : Int) (ty : Bool) (h0 : Array Obj) (hmax : xs.length ≤ 200) (hf : Fam xs p cs σ ids) (hn : Nds h0 σ ids) (hat : cs[at_]? = some n) :
    Ret Try.prog 121 [.int .i64 b, .bool ty, .pointer (some ⟨n, 0, none⟩)] h0 fun v h => (∃ r : Bool, v = .bool r ∧ (r = true ↔ (cnt (Ty xs at_ (ty = true)) (at_ + 1) : Int) = b)) ∧ Ext h0 h := by
  have hm := Mem.refl h0
  have hnn := hf.cin n (List.mem_of_getElem? hat)
  have hnt : ∀ {h}, Ext h0 h → cell h ⟨n, 5, none⟩ = some (.int .u32 3) := fun he => (hn.ext he).cell hnn (by simp [HN.cells, (hf.dat at_ n hat).1])
  have hnp : ∀ {h}, Ext h0 h → cell h ⟨n, 0, none⟩ = some (.pointer (some ⟨p, 0, none⟩)) := fun he => (hn.ext he).cell hnn (by simp [HN.cells, hf.kin.par at_ n hat, pt])
  have hnd : ∀ {h}, Ext h0 h → cell h ⟨n, 7, none⟩ = some (bs (xs.getD at_ [])) := fun he => (hn.ext he).cell hnn (by simp [HN.cells, (hf.dat at_ n hat).2])
  have hpf : ∀ {h}, Ext h0 h → cell h ⟨p, 1, none⟩ = some (pt cs[0]?) := fun he => (hn.ext he).cell hf.pin (by simp [HN.cells, hf.kin.fst])
  refine ret_of_tw (ρ := ((.int .i64 b) :: (.bool ty) :: (.pointer (some ⟨n, 0, none⟩)) :: undef :: undef :: undef :: undef :: undef :: undef :: undef :: undef :: undef :: undef :: undef :: undef :: undef :: undef :: undef :: undef :: undef :: undef :: undef :: undef :: undef :: undef :: undef :: undef :: undef :: undef :: undef :: undef :: undef :: undef :: undef :: undef :: undef :: undef :: undef :: undef :: undef :: undef :: undef :: undef :: undef :: undef :: undef :: undef :: undef :: undef :: undef :: undef :: undef :: undef :: undef :: undef :: undef :: undef :: undef :: undef :: undef :: undef :: [])) Try.func121 rfl rfl (fun E => ?_)
  refine tw_seq ?_
  refine tw_region (fun K hK => ?_)
  refine lw_pu (wan_none rfl) (pu_assign (by (simp only [ev, List.getD_cons_succ, List.getD_cons_zero]; exact rfl))) (by (simp only [setD, List.set_cons_succ, List.set_cons_zero]; exact rfl)) ?_
  refine lw_nil ?_; refine hK _ _ ?_; clear hK K
  refine tw_seq ?_
  refine tw_seq ?_
  refine tw_region (fun K hK => ?_)
  refine lw_pu (wan_none rfl) (pu_move (by (simp only [ev, List.getD_cons_succ, List.getD_cons_zero]; exact rfl))) (by (simp only [setD, List.set_cons_succ, List.set_cons_zero]; exact rfl)) ?_
  refine lw_pu (wan_none rfl) (pu_nilCheck_p rfl) (by (simp only [setD, List.set_cons_succ, List.set_cons_zero]; exact rfl)) ?_
  refine lw_pu (wan_none rfl) (pu_fieldAddr rfl (by exact fun w => siz _ w)) (by (simp only [setD, List.set_cons_succ, List.set_cons_zero]; exact rfl)) ?_
  first | refine lw_pu (wan_none rfl) (pu_load rfl (hnt hm.ext)) (by (simp only [setD, List.set_cons_succ, List.set_cons_zero]; exact rfl)) ?_ | refine lw_pu (wan_none rfl) (pu_load rfl (hnp hm.ext)) (by (simp only [setD, List.set_cons_succ, List.set_cons_zero]; exact rfl)) ?_ | refine lw_pu (wan_none rfl) (pu_load rfl (hpf hm.ext)) (by (simp only [setD, List.set_cons_succ, List.set_cons_zero]; exact rfl)) ?_
  refine lw_pu (wan_none rfl) (pu_false (pu_neq rfl rfl) (by omega)) (by (simp only [setD, List.set_cons_succ, List.set_cons_zero]; exact rfl)) ?_
  refine lw_nil ?_; refine hK _ _ ?_; clear hK K
  refine tw_cond_f rfl ?_
  refine tw_skip ?_
  refine tw_seq ?_
  refine tw_region (fun K hK => ?_)
  refine lw_pu (wan_none rfl) (pu_move (by (simp only [ev, List.getD_cons_succ, List.getD_cons_zero]; exact rfl))) (by (simp only [setD, List.set_cons_succ, List.set_cons_zero]; exact rfl)) ?_
  refine lw_pu (wan_none rfl) (pu_nilCheck_p rfl) (by (simp only [setD, List.set_cons_succ, List.set_cons_zero]; exact rfl)) ?_
  refine lw_pu (wan_none rfl) (pu_fieldAddr rfl (by exact fun w => siz _ w)) (by (simp only [setD, List.set_cons_succ, List.set_cons_zero]; exact rfl)) ?_
  first | refine lw_pu (wan_none rfl) (pu_load rfl (hnt hm.ext)) (by (simp only [setD, List.set_cons_succ, List.set_cons_zero]; exact rfl)) ?_ | refine lw_pu (wan_none rfl) (pu_load rfl (hnp hm.ext)) (by (simp only [setD, List.set_cons_succ, List.set_cons_zero]; exact rfl)) ?_ | refine lw_pu (wan_none rfl) (pu_load rfl (hpf hm.ext)) (by (simp only [setD, List.set_cons_succ, List.set_cons_zero]; exact rfl)) ?_
  refine lw_pu (wan_none rfl) (pu_assign (by (simp only [ev, List.getD_cons_succ, List.getD_cons_zero]; exact rfl))) (by (simp only [setD, List.set_cons_succ, List.set_cons_zero]; exact rfl)) ?_
  refine lw_nil ?_; refine hK _ _ ?_; clear hK K
  refine tw_seq ?_
  refine tw_seq ?_
  refine tw_region (fun K hK => ?_)
  refine lw_pu (wan_none rfl) (pu_move (by (simp only [ev, List.getD_cons_succ, List.getD_cons_zero]; exact rfl))) (by (simp only [setD, List.set_cons_succ, List.set_cons_zero]; exact rfl)) ?_
  refine lw_pu (wan_none rfl) (pu_false (pu_eql_pt rfl rfl) (by simp)) (by (simp only [setD, List.set_cons_succ, List.set_cons_zero]; exact rfl)) ?_
  refine lw_nil ?_; refine hK _ _ ?_; clear hK K
  refine tw_cond_f rfl ?_
  refine tw_skip ?_
  refine tw_seq ?_
  refine tw_region (fun K hK => ?_)
  refine lw_pu (wan_none rfl) (pu_assign (by (simp only [ev, List.getD_cons_succ, List.getD_cons_zero]; exact rfl))) (by (simp only [setD, List.set_cons_succ, List.set_cons_zero]; exact rfl)) ?_
  refine lw_nil ?_; refine hK _ _ ?_; clear hK K
  refine tw_seq ?_
  refine tw_seq ?_
  refine tw_region (fun K hK => ?_)
  refine lw_pu (wan_none rfl) (pu_move (by (simp only [ev, List.getD_cons_succ, List.getD_cons_zero]; exact rfl))) (by (simp only [setD, List.set_cons_succ, List.set_cons_zero]; exact rfl)) ?_
  refine lw_pu (wan_none rfl) (pu_nilCheck_p rfl) (by (simp only [setD, List.set_cons_succ, List.set_cons_zero]; exact rfl)) ?_
  refine lw_pu (wan_none rfl) (pu_fieldAddr rfl (by exact fun w => siz _ w)) (by (simp only [setD, List.set_cons_succ, List.set_cons_zero]; exact rfl)) ?_
  first | refine lw_pu (wan_none rfl) (pu_load rfl (hnt hm.ext)) (by (simp only [setD, List.set_cons_succ, List.set_cons_zero]; exact rfl)) ?_ | refine lw_pu (wan_none rfl) (pu_load rfl (hnp hm.ext)) (by (simp only [setD, List.set_cons_succ, List.set_cons_zero]; exact rfl)) ?_ | refine lw_pu (wan_none rfl) (pu_load rfl (hpf hm.ext)) (by (simp only [setD, List.set_cons_succ, List.set_cons_zero]; exact rfl)) ?_
  refine lw_pu (wan_none rfl) (pu_assign (by (simp only [ev, List.getD_cons_succ, List.getD_cons_zero]; exact rfl))) (by (simp only [setD, List.set_cons_succ, List.set_cons_zero]; exact rfl)) ?_
  refine lw_nil ?_; refine hK _ _ ?_; clear hK K
  refine tw_block ?_
  rotate_left 1
  -- left: loop
  refine tw_loopJ (X := Nat × Option Addr) (fun x => at_ + 1 - x.1) (fun x J => (.int .i64 b :: .bool ty :: .pointer (some ⟨n, 0, none⟩) :: J 3 :: J 4 :: J 5 :: J 6 :: .pointer (some ⟨p, 0, none⟩) :: .int .i64 (cnt (Ty xs at_ (ty = true)) x.1 : Nat) :: .pointer x.2 :: J 10 :: J 11 :: J 12 :: J 13 :: J 14 :: J 15 :: J 16 :: J 17 :: J 18 :: J 19 :: J 20 :: J 21 :: J 22 :: J 23 :: J 24 :: J 25 :: J 26 :: J 27 :: J 28 :: J 29 :: J 30 :: J 31 :: J 32 :: J 33 :: J 34 :: J 35 :: J 36 :: J 37 :: J 38 :: J 39 :: J 40 :: J 41 :: J 42 :: J 43 :: J 44 :: J 45 :: J 46 :: J 47 :: J 48 :: J 49 :: J 50 :: J 51 :: J 52 :: J 53 :: J 54 :: J 55 :: J 56 :: J 57 :: J 58 :: J 59 :: J 60 :: [])) (fun x h => Mem h0 h [] [] ∧ x.1 ≤ at_ ∧ x.2 = (cs[x.1]?).map fun b => ⟨b, 0, none⟩) (0, (cs[0]?).map fun b => ⟨b, 0, none⟩) rfl ⟨hm, by simp, rfl⟩ ?_
  clear hm
  rintro ⟨j, qq⟩ J h ⟨hm, hj, hqq⟩ IH
  simp only at hm hj hqq
  have hatl := (List.getElem?_eq_some_iff.1 hat).1
  obtain ⟨c, hc⟩ : ∃ c, cs[j]? = some c := ⟨cs[j]'(by omega), List.getElem?_eq_getElem (by omega)⟩
  rw [hc] at hqq
  obtain rfl : qq = some ⟨c, 0, none⟩ := hqq
  have hcm := hf.cin c (List.mem_of_getElem? hc)
  have hct : ∀ {h}, Ext h0 h → cell h ⟨c, 5, none⟩ = some (.int .u32 3) := fun he => (hn.ext he).cell hcm (by simp [HN.cells, (hf.dat j c hc).1])
  have hcd : ∀ {h}, Ext h0 h → cell h ⟨c, 7, none⟩ = some (bs (xs.getD j [])) := fun he => (hn.ext he).cell hcm (by simp [HN.cells, (hf.dat j c hc).2])
  have hcn : ∀ {h}, Ext h0 h → cell h ⟨c, 4, none⟩ = some (pt cs[j + 1]?) := fun he => (hn.ext he).cell hcm (by simp [HN.cells, hf.kin.nxt j c hc])
  have hcl := cnt_le (Ty xs at_ (ty = true)) j
  have hs : cnt (Ty xs at_ (ty = true)) (j + 1) = cnt (Ty xs at_ (ty = true)) j + if Ty xs at_ (ty = true) j then 1 else 0 := rfl
  have hl := hf.len
  have hmono : j < at_ → cnt (Ty xs at_ (ty = true)) (j + 1) + 1 ≤ cnt (Ty xs at_ (ty = true)) (at_ + 1) := fun h => by
    have h1 : cnt (Ty xs at_ (ty = true)) (at_ + 1) = cnt (Ty xs at_ (ty = true)) at_ + 1 := by
      show cnt _ at_ + _ = _
      rw [if_pos (show Ty xs at_ (ty = true) at_ from fun _ => rfl)]
    have h2 := cnt_mono (Ty xs at_ (ty = true)) (m := j + 1) (n := at_) (by omega)
    omega
  generalize hcv : cnt (Ty xs at_ (ty = true)) j = cv at *
  refine tw_seq ?_
  refine tw_seq ?_
  refine tw_region (fun K hK => ?_)
  refine lw_pu (wan_none rfl) (pu_move (by (simp only [ev, List.getD_cons_succ, List.getD_cons_zero]; exact rfl))) (by (simp only [setD, List.set_cons_succ, List.set_cons_zero]; exact rfl)) ?_
  refine lw_pu (wan_none rfl) (pu_true (pu_neq_pt rfl rfl) (by simp)) (by (simp only [setD, List.set_cons_succ, List.set_cons_zero]; exact rfl)) ?_
  refine lw_nil ?_; refine hK _ _ ?_; clear hK K
  refine tw_cond_t rfl ?_
  refine tw_skip ?_
  refine tw_seq ?_
  refine tw_block ?_
  refine tw_seq ?_
  refine tw_seq ?_
  refine tw_quietM hm (by kernel_rfl) (by kernel_rfl) (fun K hK => ?_)
  refine qw_pu (wan_none rfl) (fun h hm => pu_move (by (simp only [ev, List.getD_cons_succ, List.getD_cons_zero]; exact rfl))) (by (simp only [setD, List.set_cons_succ, List.set_cons_zero]; exact rfl)) ?_
  refine qw_pu (wan_none rfl) (fun h hm => pu_nilCheck_p rfl) (by (simp only [setD, List.set_cons_succ, List.set_cons_zero]; exact rfl)) ?_
  refine qw_pu (wan_none rfl) (fun h hm => pu_fieldAddr rfl (by exact fun w => siz _ w)) (by (simp only [setD, List.set_cons_succ, List.set_cons_zero]; exact rfl)) ?_
  first | refine qw_pu (wan_none rfl) (fun h hm => pu_load rfl (hct hm.ext)) (by (simp only [setD, List.set_cons_succ, List.set_cons_zero]; exact rfl)) ?_ | refine qw_pu (wan_none rfl) (fun h hm => pu_load rfl (hcd hm.ext)) (by (simp only [setD, List.set_cons_succ, List.set_cons_zero]; exact rfl)) ?_ | refine qw_pu (wan_none rfl) (fun h hm => pu_load rfl (hnd hm.ext)) (by (simp only [setD, List.set_cons_succ, List.set_cons_zero]; exact rfl)) ?_ | refine qw_pu (wan_none rfl) (fun h hm => pu_load rfl (hcn hm.ext)) (by (simp only [setD, List.set_cons_succ, List.set_cons_zero]; exact rfl)) ?_
  refine qw_pu (wan_none rfl) (fun h hm => pu_false (pu_neq rfl rfl) (by omega)) (by (simp only [setD, List.set_cons_succ, List.set_cons_zero]; exact rfl)) ?_
  refine qw_pu (wan_none rfl) (fun h hm => pu_move (by (simp only [ev, List.getD_cons_succ, List.getD_cons_zero]; exact rfl))) (by (simp only [setD, List.set_cons_succ, List.set_cons_zero]; exact rfl)) ?_
  refine qw_pu (wan_some rfl rfl rfl) (fun h hm => pu_move (by (simp only [ev, List.getD_cons_succ, List.getD_cons_zero]; exact rfl))) (by (simp only [setD, List.set_cons_succ, List.set_cons_zero]; exact rfl)) ?_
  refine qw_pu (wan_some rfl rfl rfl) (fun h hm => pu_move (by (simp only [ev, List.getD_cons_succ, List.getD_cons_zero]; exact rfl))) (by (simp only [setD, List.set_cons_succ, List.set_cons_zero]; exact rfl)) ?_
  first | refine qw_split_d rfl rfl rfl (by (simp only [List.set_cons_succ, List.set_cons_zero]; exact rfl)) (by (simp only [List.set_cons_succ, List.set_cons_zero]; exact rfl)) (fun hq => ?_) (fun hq => ?_) | refine qw_split_b rfl rfl rfl (by (simp only [List.set_cons_succ, List.set_cons_zero]; exact rfl)) (by (simp only [List.set_cons_succ, List.set_cons_zero]; exact rfl)) (fun hq => ?_) (fun hq => ?_)
  refine qw_pu (wan_some rfl rfl rfl) (fun h hm => pu_move (by (simp only [ev, List.getD_cons_succ, List.getD_cons_zero]; exact rfl))) (by (simp only [setD, List.set_cons_succ, List.set_cons_zero]; exact rfl)) ?_
  refine qw_pu (wan_some rfl rfl rfl) (fun h hm => pu_nilCheck_p rfl) (by (simp only [setD, List.set_cons_succ, List.set_cons_zero]; exact rfl)) ?_
  refine qw_pu (wan_some rfl rfl rfl) (fun h hm => pu_fieldAddr rfl (by exact fun w => siz _ w)) (by (simp only [setD, List.set_cons_succ, List.set_cons_zero]; exact rfl)) ?_
  first | refine qw_pu (wan_some rfl rfl rfl) (fun h hm => pu_load rfl (hct hm.ext)) (by (simp only [setD, List.set_cons_succ, List.set_cons_zero]; exact rfl)) ?_ | refine qw_pu (wan_some rfl rfl rfl) (fun h hm => pu_load rfl (hcd hm.ext)) (by (simp only [setD, List.set_cons_succ, List.set_cons_zero]; exact rfl)) ?_ | refine qw_pu (wan_some rfl rfl rfl) (fun h hm => pu_load rfl (hnd hm.ext)) (by (simp only [setD, List.set_cons_succ, List.set_cons_zero]; exact rfl)) ?_ | refine qw_pu (wan_some rfl rfl rfl) (fun h hm => pu_load rfl (hcn hm.ext)) (by (simp only [setD, List.set_cons_succ, List.set_cons_zero]; exact rfl)) ?_
  refine qw_pu (wan_some rfl rfl rfl) (fun h hm => pu_move (by (simp only [ev, List.getD_cons_succ, List.getD_cons_zero]; exact rfl))) (by (simp only [setD, List.set_cons_succ, List.set_cons_zero]; exact rfl)) ?_
  refine qw_pu (wan_some rfl rfl rfl) (fun h hm => pu_nilCheck_p rfl) (by (simp only [setD, List.set_cons_succ, List.set_cons_zero]; exact rfl)) ?_
  refine qw_pu (wan_some rfl rfl rfl) (fun h hm => pu_fieldAddr rfl (by exact fun w => siz _ w)) (by (simp only [setD, List.set_cons_succ, List.set_cons_zero]; exact rfl)) ?_
  first | refine qw_pu (wan_some rfl rfl rfl) (fun h hm => pu_load rfl (hct hm.ext)) (by (simp only [setD, List.set_cons_succ, List.set_cons_zero]; exact rfl)) ?_ | refine qw_pu (wan_some rfl rfl rfl) (fun h hm => pu_load rfl (hcd hm.ext)) (by (simp only [setD, List.set_cons_succ, List.set_cons_zero]; exact rfl)) ?_ | refine qw_pu (wan_some rfl rfl rfl) (fun h hm => pu_load rfl (hnd hm.ext)) (by (simp only [setD, List.set_cons_succ, List.set_cons_zero]; exact rfl)) ?_ | refine qw_pu (wan_some rfl rfl rfl) (fun h hm => pu_load rfl (hcn hm.ext)) (by (simp only [setD, List.set_cons_succ, List.set_cons_zero]; exact rfl)) ?_
  refine qw_pu (wan_some rfl rfl rfl) (fun h hm => pu_neqs rfl rfl) (by (simp only [setD, List.set_cons_succ, List.set_cons_zero]; exact rfl)) ?_
  refine qw_pu (wan_some rfl rfl rfl) (fun h hm => pu_pick_t rfl (by (simp only [ev, List.getD_cons_succ, List.getD_cons_zero]; exact rfl))) (by (simp only [setD, List.set_cons_succ, List.set_cons_zero]; exact rfl)) ?_
  refine qw_pu (wan_none rfl) (fun h hm => pu_pick_f rfl (by (simp only [ev, List.getD_cons_succ, List.getD_cons_zero]; exact rfl))) (by (simp only [setD, List.set_cons_succ, List.set_cons_zero]; exact rfl)) ?_
  refine qw_nil ?_; refine hK _ ?_; clear hK K hm; intro h hm
  refine tw_cond_ds rfl (by (simp only [List.set_cons_succ, List.set_cons_zero]; exact rfl)) (by (simp only [List.set_cons_succ, List.set_cons_zero]; exact rfl)) (fun hq => ?_) (fun hq => ?_)
  refine tw_exit rfl ?_
  refine tw_region (fun K hK => ?_)
  refine lw_pu (wan_none rfl) (pu_move (by (simp only [ev, List.getD_cons_succ, List.getD_cons_zero]; exact rfl))) (by (simp only [setD, List.set_cons_succ, List.set_cons_zero]; exact rfl)) ?_
  refine lw_pu (wan_none rfl) (pu_nilCheck_p rfl) (by (simp only [setD, List.set_cons_succ, List.set_cons_zero]; exact rfl)) ?_
  refine lw_pu (wan_none rfl) (pu_fieldAddr rfl (by exact fun w => siz _ w)) (by (simp only [setD, List.set_cons_succ, List.set_cons_zero]; exact rfl)) ?_
  first | refine lw_pu (wan_none rfl) (pu_load rfl (hct hm.ext)) (by (simp only [setD, List.set_cons_succ, List.set_cons_zero]; exact rfl)) ?_ | refine lw_pu (wan_none rfl) (pu_load rfl (hcd hm.ext)) (by (simp only [setD, List.set_cons_succ, List.set_cons_zero]; exact rfl)) ?_ | refine lw_pu (wan_none rfl) (pu_load rfl (hnd hm.ext)) (by (simp only [setD, List.set_cons_succ, List.set_cons_zero]; exact rfl)) ?_ | refine lw_pu (wan_none rfl) (pu_load rfl (hcn hm.ext)) (by (simp only [setD, List.set_cons_succ, List.set_cons_zero]; exact rfl)) ?_
  refine lw_pu (wan_none rfl) (pu_assign (by (simp only [ev, List.getD_cons_succ, List.getD_cons_zero]; exact rfl))) (by (simp only [setD, List.set_cons_succ, List.set_cons_zero]; exact rfl)) ?_
  refine lw_nil ?_; refine hK _ _ ?_; clear hK K
  rotate_left 1
  refine tw_skip ?_
  refine tw_seq ?_
  refine tw_region (fun K hK => ?_)
  refine lw_pu (wan_none rfl) (pu_move (by (simp only [ev, List.getD_cons_succ, List.getD_cons_zero]; exact rfl))) (by (simp only [setD, List.set_cons_succ, List.set_cons_zero]; exact rfl)) ?_
  first | refine lw_pu (wan_none rfl) (pu_addn (n := 1) rfl rfl (by omega)) (by (simp only [setD, List.set_cons_succ, List.set_cons_zero]; exact rfl)) ?_ | refine lw_pu (wan_none rfl) (pu_addi rfl rfl (by omega) (by omega)) (by (simp only [setD, List.set_cons_succ, List.set_cons_zero]; exact rfl)) ?_ | refine lw_pu (wan_none rfl) (pu_add rfl rfl) (by (simp only [setD, List.set_cons_succ, List.set_cons_zero]; exact rfl)) ?_
  refine lw_pu (wan_none rfl) (pu_assign (by (simp only [ev, List.getD_cons_succ, List.getD_cons_zero]; exact rfl))) (by (simp only [setD, List.set_cons_succ, List.set_cons_zero]; exact rfl)) ?_
  refine lw_nil ?_; refine hK _ _ ?_; clear hK K
  refine tw_seq ?_
  refine tw_seq ?_
  refine tw_region (fun K hK => ?_)
  refine lw_pu (wan_none rfl) (pu_move (by (simp only [ev, List.getD_cons_succ, List.getD_cons_zero]; exact rfl))) (by (simp only [setD, List.set_cons_succ, List.set_cons_zero]; exact rfl)) ?_
  refine lw_pu (wan_none rfl) (pu_move (by (simp only [ev, List.getD_cons_succ, List.getD_cons_zero]; exact rfl))) (by (simp only [setD, List.set_cons_succ, List.set_cons_zero]; exact rfl)) ?_
  first | refine lw_pu (wan_none rfl) (pu_eql_pp rfl rfl (hn.ext hm.ext c hcm) (hn.ext hm.ext c hcm) (by decide)) (by (simp only [setD, List.set_cons_succ, List.set_cons_zero]; exact rfl)) ?_ | refine lw_pu (wan_none rfl) (pu_eql_pp rfl rfl (hn.ext hm.ext c hcm) (hn.ext hm.ext n hnn) (by decide)) (by (simp only [setD, List.set_cons_succ, List.set_cons_zero]; exact rfl)) ?_ | refine lw_pu (wan_none rfl) (pu_eql_pp rfl rfl (hn.ext hm.ext n hnn) (hn.ext hm.ext c hcm) (by decide)) (by (simp only [setD, List.set_cons_succ, List.set_cons_zero]; exact rfl)) ?_ | refine lw_pu (wan_none rfl) (pu_eql_pp rfl rfl (hn.ext hm.ext n hnn) (hn.ext hm.ext n hnn) (by decide)) (by (simp only [setD, List.set_cons_succ, List.set_cons_zero]; exact rfl)) ?_
  refine lw_nil ?_; refine hK _ _ ?_; clear hK K
  refine tw_cond_ds rfl (by (simp only [List.set_cons_succ, List.set_cons_zero]; exact rfl)) (by (simp only [List.set_cons_succ, List.set_cons_zero]; exact rfl)) (fun hq => ?_) (fun hq => ?_)
  refine tw_seq ?_
  refine tw_region (fun K hK => ?_)
  refine lw_pu (wan_none rfl) (pu_move (by (simp only [ev, List.getD_cons_succ, List.getD_cons_zero]; exact rfl))) (by (simp only [setD, List.set_cons_succ, List.set_cons_zero]; exact rfl)) ?_
  refine lw_pu (wan_none rfl) (pu_move (by (simp only [ev, List.getD_cons_succ, List.getD_cons_zero]; exact rfl))) (by (simp only [setD, List.set_cons_succ, List.set_cons_zero]; exact rfl)) ?_
  refine lw_pu (wan_none rfl) (pu_eql rfl rfl) (by (simp only [setD, List.set_cons_succ, List.set_cons_zero]; exact rfl)) ?_
  refine lw_pu (wan_none rfl) (pu_assign (by (simp only [ev, List.getD_cons_succ, List.getD_cons_zero]; exact rfl))) (by (simp only [setD, List.set_cons_succ, List.set_cons_zero]; exact rfl)) ?_
  refine lw_nil ?_; refine hK _ _ ?_; clear hK K
  refine tw_ret1 Try.func121 Try.results121 (by (simp only [ev, List.getD_cons_succ, List.getD_cons_zero]; exact rfl)) ?_
  rotate_left 1
  refine tw_skip ?_
  refine tw_seq ?_
  refine tw_region (fun K hK => ?_)
  refine lw_pu (wan_none rfl) (pu_move (by (simp only [ev, List.getD_cons_succ, List.getD_cons_zero]; exact rfl))) (by (simp only [setD, List.set_cons_succ, List.set_cons_zero]; exact rfl)) ?_
  refine lw_pu (wan_none rfl) (pu_move (by (simp only [ev, List.getD_cons_succ, List.getD_cons_zero]; exact rfl))) (by (simp only [setD, List.set_cons_succ, List.set_cons_zero]; exact rfl)) ?_
  refine lw_pu (wan_none rfl) (pu_geq rfl rfl) (by (simp only [setD, List.set_cons_succ, List.set_cons_zero]; exact rfl)) ?_
  refine lw_nil ?_; refine hK _ _ ?_; clear hK K
  refine tw_cond_ds rfl (by (simp only [List.set_cons_succ, List.set_cons_zero]; exact rfl)) (by (simp only [List.set_cons_succ, List.set_cons_zero]; exact rfl)) (fun hq => ?_) (fun hq => ?_)
  refine tw_seq ?_
  refine tw_region (fun K hK => ?_)
  refine lw_pu (wan_none rfl) (pu_assign (by (simp only [ev, List.getD_cons_succ, List.getD_cons_zero]; exact rfl))) (by (simp only [setD, List.set_cons_succ, List.set_cons_zero]; exact rfl)) ?_
  refine lw_nil ?_; refine hK _ _ ?_; clear hK K
  refine tw_ret1 Try.func121 Try.results121 (by (simp only [ev, List.getD_cons_succ, List.getD_cons_zero]; exact rfl)) ?_
  rotate_left 1
  refine tw_skip ?_
  refine tw_inBlock ?_
  refine tw_region (fun K hK => ?_)
  refine lw_pu (wan_none rfl) (pu_move (by (simp only [ev, List.getD_cons_succ, List.getD_cons_zero]; exact rfl))) (by (simp only [setD, List.set_cons_succ, List.set_cons_zero]; exact rfl)) ?_
  refine lw_pu (wan_none rfl) (pu_nilCheck_p rfl) (by (simp only [setD, List.set_cons_succ, List.set_cons_zero]; exact rfl)) ?_
  refine lw_pu (wan_none rfl) (pu_fieldAddr rfl (by exact fun w => siz _ w)) (by (simp only [setD, List.set_cons_succ, List.set_cons_zero]; exact rfl)) ?_
  first | refine lw_pu (wan_none rfl) (pu_load rfl (hct hm.ext)) (by (simp only [setD, List.set_cons_succ, List.set_cons_zero]; exact rfl)) ?_ | refine lw_pu (wan_none rfl) (pu_load rfl (hcd hm.ext)) (by (simp only [setD, List.set_cons_succ, List.set_cons_zero]; exact rfl)) ?_ | refine lw_pu (wan_none rfl) (pu_load rfl (hnd hm.ext)) (by (simp only [setD, List.set_cons_succ, List.set_cons_zero]; exact rfl)) ?_ | refine lw_pu (wan_none rfl) (pu_load rfl (hcn hm.ext)) (by (simp only [setD, List.set_cons_succ, List.set_cons_zero]; exact rfl)) ?_
  refine lw_pu (wan_none rfl) (pu_assign (by (simp only [ev, List.getD_cons_succ, List.getD_cons_zero]; exact rfl))) (by (simp only [setD, List.set_cons_succ, List.set_cons_zero]; exact rfl)) ?_
  refine lw_nil ?_; refine hK _ _ ?_; clear hK K
  rotate_left 1
  refine qw_skip_b rfl rfl rfl (by (simp only [setD, List.set_cons_succ, List.set_cons_zero]; exact rfl)) ?_
  refine qw_skip_b rfl rfl rfl (by (simp only [setD, List.set_cons_succ, List.set_cons_zero]; exact rfl)) ?_
  refine qw_skip_b rfl rfl rfl (by (simp only [setD, List.set_cons_succ, List.set_cons_zero]; exact rfl)) ?_
  refine qw_skip_b rfl rfl rfl (by (simp only [setD, List.set_cons_succ, List.set_cons_zero]; exact rfl)) ?_
  refine qw_skip_b rfl rfl rfl (by (simp only [setD, List.set_cons_succ, List.set_cons_zero]; exact rfl)) ?_
  refine qw_skip_b rfl rfl rfl (by (simp only [setD, List.set_cons_succ, List.set_cons_zero]; exact rfl)) ?_
  refine qw_skip_b rfl rfl rfl (by (simp only [setD, List.set_cons_succ, List.set_cons_zero]; exact rfl)) ?_
  refine qw_skip_b rfl rfl rfl (by (simp only [setD, List.set_cons_succ, List.set_cons_zero]; exact rfl)) ?_
  refine qw_skip_b rfl rfl rfl (by (simp only [setD, List.set_cons_succ, List.set_cons_zero]; exact rfl)) ?_
  refine qw_pu (wan_some rfl rfl rfl) (fun h hm => pu_pick_f rfl (by (simp only [ev, List.getD_cons_succ, List.getD_cons_zero]; exact rfl))) (by (simp only [setD, List.set_cons_succ, List.set_cons_zero]; exact rfl)) ?_
  refine qw_pu (wan_none rfl) (fun h hm => pu_pick_f rfl (by (simp only [ev, List.getD_cons_succ, List.getD_cons_zero]; exact rfl))) (by (simp only [setD, List.set_cons_succ, List.set_cons_zero]; exact rfl)) ?_
  refine qw_nil ?_; refine hK _ ?_; clear hK K hm; intro h hm
  refine tw_cond_f rfl ?_
  refine tw_skip ?_
  refine tw_seq ?_
  refine tw_region (fun K hK => ?_)
  refine lw_pu (wan_none rfl) (pu_move (by (simp only [ev, List.getD_cons_succ, List.getD_cons_zero]; exact rfl))) (by (simp only [setD, List.set_cons_succ, List.set_cons_zero]; exact rfl)) ?_
  first | refine lw_pu (wan_none rfl) (pu_addn (n := 1) rfl rfl (by omega)) (by (simp only [setD, List.set_cons_succ, List.set_cons_zero]; exact rfl)) ?_ | refine lw_pu (wan_none rfl) (pu_addi rfl rfl (by omega) (by omega)) (by (simp only [setD, List.set_cons_succ, List.set_cons_zero]; exact rfl)) ?_ | refine lw_pu (wan_none rfl) (pu_add rfl rfl) (by (simp only [setD, List.set_cons_succ, List.set_cons_zero]; exact rfl)) ?_
  refine lw_pu (wan_none rfl) (pu_assign (by (simp only [ev, List.getD_cons_succ, List.getD_cons_zero]; exact rfl))) (by (simp only [setD, List.set_cons_succ, List.set_cons_zero]; exact rfl)) ?_
  refine lw_nil ?_; refine hK _ _ ?_; clear hK K
  refine tw_seq ?_
  refine tw_seq ?_
  refine tw_region (fun K hK => ?_)
  refine lw_pu (wan_none rfl) (pu_move (by (simp only [ev, List.getD_cons_succ, List.getD_cons_zero]; exact rfl))) (by (simp only [setD, List.set_cons_succ, List.set_cons_zero]; exact rfl)) ?_
  refine lw_pu (wan_none rfl) (pu_move (by (simp only [ev, List.getD_cons_succ, List.getD_cons_zero]; exact rfl))) (by (simp only [setD, List.set_cons_succ, List.set_cons_zero]; exact rfl)) ?_
  first | refine lw_pu (wan_none rfl) (pu_eql_pp rfl rfl (hn.ext hm.ext c hcm) (hn.ext hm.ext c hcm) (by decide)) (by (simp only [setD, List.set_cons_succ, List.set_cons_zero]; exact rfl)) ?_ | refine lw_pu (wan_none rfl) (pu_eql_pp rfl rfl (hn.ext hm.ext c hcm) (hn.ext hm.ext n hnn) (by decide)) (by (simp only [setD, List.set_cons_succ, List.set_cons_zero]; exact rfl)) ?_ | refine lw_pu (wan_none rfl) (pu_eql_pp rfl rfl (hn.ext hm.ext n hnn) (hn.ext hm.ext c hcm) (by decide)) (by (simp only [setD, List.set_cons_succ, List.set_cons_zero]; exact rfl)) ?_ | refine lw_pu (wan_none rfl) (pu_eql_pp rfl rfl (hn.ext hm.ext n hnn) (hn.ext hm.ext n hnn) (by decide)) (by (simp only [setD, List.set_cons_succ, List.set_cons_zero]; exact rfl)) ?_
  refine lw_nil ?_; refine hK _ _ ?_; clear hK K
  refine tw_cond_ds rfl (by (simp only [List.set_cons_succ, List.set_cons_zero]; exact rfl)) (by (simp only [List.set_cons_succ, List.set_cons_zero]; exact rfl)) (fun hq => ?_) (fun hq => ?_)
  refine tw_seq ?_
  refine tw_region (fun K hK => ?_)
  refine lw_pu (wan_none rfl) (pu_move (by (simp only [ev, List.getD_cons_succ, List.getD_cons_zero]; exact rfl))) (by (simp only [setD, List.set_cons_succ, List.set_cons_zero]; exact rfl)) ?_
  refine lw_pu (wan_none rfl) (pu_move (by (simp only [ev, List.getD_cons_succ, List.getD_cons_zero]; exact rfl))) (by (simp only [setD, List.set_cons_succ, List.set_cons_zero]; exact rfl)) ?_
  refine lw_pu (wan_none rfl) (pu_eql rfl rfl) (by (simp only [setD, List.set_cons_succ, List.set_cons_zero]; exact rfl)) ?_
  refine lw_pu (wan_none rfl) (pu_assign (by (simp only [ev, List.getD_cons_succ, List.getD_cons_zero]; exact rfl))) (by (simp only [setD, List.set_cons_succ, List.set_cons_zero]; exact rfl)) ?_
  refine lw_nil ?_; refine hK _ _ ?_; clear hK K
  refine tw_ret1 Try.func121 Try.results121 (by (simp only [ev, List.getD_cons_succ, List.getD_cons_zero]; exact rfl)) ?_
  rotate_left 1
  refine tw_skip ?_
  refine tw_seq ?_
  refine tw_region (fun K hK => ?_)
  refine lw_pu (wan_none rfl) (pu_move (by (simp only [ev, List.getD_cons_succ, List.getD_cons_zero]; exact rfl))) (by (simp only [setD, List.set_cons_succ, List.set_cons_zero]; exact rfl)) ?_
  refine lw_pu (wan_none rfl) (pu_move (by (simp only [ev, List.getD_cons_succ, List.getD_cons_zero]; exact rfl))) (by (simp only [setD, List.set_cons_succ, List.set_cons_zero]; exact rfl)) ?_
  refine lw_pu (wan_none rfl) (pu_geq rfl rfl) (by (simp only [setD, List.set_cons_succ, List.set_cons_zero]; exact rfl)) ?_
  refine lw_nil ?_; refine hK _ _ ?_; clear hK K
  refine tw_cond_ds rfl (by (simp only [List.set_cons_succ, List.set_cons_zero]; exact rfl)) (by (simp only [List.set_cons_succ, List.set_cons_zero]; exact rfl)) (fun hq => ?_) (fun hq => ?_)
  refine tw_seq ?_
  refine tw_region (fun K hK => ?_)
  refine lw_pu (wan_none rfl) (pu_assign (by (simp only [ev, List.getD_cons_succ, List.getD_cons_zero]; exact rfl))) (by (simp only [setD, List.set_cons_succ, List.set_cons_zero]; exact rfl)) ?_
  refine lw_nil ?_; refine hK _ _ ?_; clear hK K
  refine tw_ret1 Try.func121 Try.results121 (by (simp only [ev, List.getD_cons_succ, List.getD_cons_zero]; exact rfl)) ?_
  rotate_left 1
  refine tw_skip ?_
  refine tw_inBlock ?_
  refine tw_region (fun K hK => ?_)
  refine lw_pu (wan_none rfl) (pu_move (by (simp only [ev, List.getD_cons_succ, List.getD_cons_zero]; exact rfl))) (by (simp only [setD, List.set_cons_succ, List.set_cons_zero]; exact rfl)) ?_
  refine lw_pu (wan_none rfl) (pu_nilCheck_p rfl) (by (simp only [setD, List.set_cons_succ, List.set_cons_zero]; exact rfl)) ?_
  refine lw_pu (wan_none rfl) (pu_fieldAddr rfl (by exact fun w => siz _ w)) (by (simp only [setD, List.set_cons_succ, List.set_cons_zero]; exact rfl)) ?_
  first | refine lw_pu (wan_none rfl) (pu_load rfl (hct hm.ext)) (by (simp only [setD, List.set_cons_succ, List.set_cons_zero]; exact rfl)) ?_ | refine lw_pu (wan_none rfl) (pu_load rfl (hcd hm.ext)) (by (simp only [setD, List.set_cons_succ, List.set_cons_zero]; exact rfl)) ?_ | refine lw_pu (wan_none rfl) (pu_load rfl (hnd hm.ext)) (by (simp only [setD, List.set_cons_succ, List.set_cons_zero]; exact rfl)) ?_ | refine lw_pu (wan_none rfl) (pu_load rfl (hcn hm.ext)) (by (simp only [setD, List.set_cons_succ, List.set_cons_zero]; exact rfl)) ?_
  refine lw_pu (wan_none rfl) (pu_assign (by (simp only [ev, List.getD_cons_succ, List.getD_cons_zero]; exact rfl))) (by (simp only [setD, List.set_cons_succ, List.set_cons_zero]; exact rfl)) ?_
  refine lw_nil ?_; refine hK _ _ ?_; clear hK K
  rotate_left 1
  -- left: round | ret | ret | round | ret | ret | round
  all_goals first
    | (have hP : Ty xs at_ (ty = true) j := fun h => by first | (exfalso; simp_all; done) | assumption | (exact Decidable.not_not.1 (by assumption))
       rw [if_pos hP] at hs
       first
         | (have hjn : j = at_ := nodup_at hf.nodup hc hat (by assumption)
            subst hjn
            refine ⟨⟨_, rfl, ?_⟩, hm.ext⟩
            rw [hs, decide_eq_true_iff])
         | (have hjn : j ≠ at_ := fun e => absurd (by subst e; exact Option.some.inj (hc.symm.trans hat)) (by assumption)
            have h9 := hmono (by omega)
            refine ⟨⟨false, rfl, ?_⟩, hm.ext⟩
            simp only [Bool.false_eq_true, false_iff]
            omega)
         | (have hjn : j ≠ at_ := fun e => absurd (by subst e; exact Option.some.inj (hc.symm.trans hat)) (by assumption)
            exact IH (j + 1, (cs[j + 1]?).map fun b => ⟨b, 0, none⟩) _ _ (by simp; omega) (by rw [hs]; exact rfl) ⟨hm, by simp; omega, rfl⟩))
    | (have hP : ¬ Ty xs at_ (ty = true) j := fun h => absurd (h (by assumption)) (by assumption)
       rw [if_neg hP] at hs
       have hjn : j ≠ at_ := fun e => hP (by subst e; exact fun _ => rfl)
       exact IH (j + 1, (cs[j + 1]?).map fun b => ⟨b, 0, none⟩) _ _ (by simp; omega) (by rw [hs]; exact rfl) ⟨hm, by simp; omega, rfl⟩)

theorem simpleLast_ret (xs : List Nm) (p : Nat) (cs : List Nat) (σ : Nat → HN) (ids : List Nat) (at_ n : Nat) (b : Int) (ty : Bool) (h0 : Array Obj) (hmax : xs.length ≤ 200) (hf : Fam xs p cs σ ids) (hn : Nds h0 σ ids) (hat : cs[at_]? = some n) :
    Ret Try.prog 120 [.int .i64 b, .bool ty, .pointer (some ⟨n, 0, none⟩)] h0 fun v h => (∃ r : Bool, v = .bool r ∧ (r = true ↔ (Rc xs at_ (ty = true) at_ : Int) = b)) ∧ Ext h0 h := by
  have hm := Mem.refl h0
  have hnn := hf.cin n (List.mem_of_getElem? hat)
  have hatl := (List.getElem?_eq_some_iff.1 hat).1
  have hl := hf.len
  have hnt : ∀ {h}, Ext h0 h → cell h ⟨n, 5, none⟩ = some (.int .u32 3) := fun he => (hn.ext he).cell hnn (by simp [HN.cells, (hf.dat at_ n hat).1])
  have hnp : ∀ {h}, Ext h0 h → cell h ⟨n, 0, none⟩ = some (.pointer (some ⟨p, 0, none⟩)) := fun he => (hn.ext he).cell hnn (by simp [HN.cells, hf.kin.par at_ n hat, pt])
  have hnd : ∀ {h}, Ext h0 h → cell h ⟨n, 7, none⟩ = some (bs (xs.getD at_ [])) := fun he => (hn.ext he).cell hnn (by simp [HN.cells, (hf.dat at_ n hat).2])
  have hpf : ∀ {h}, Ext h0 h → cell h ⟨p, 2, none⟩ = some (pt cs[cs.length - 1]?) := fun he => (hn.ext he).cell hf.pin (by simp [HN.cells, hf.kin.lst])
  refine ret_of_tw (ρ := ((.int .i64 b) :: (.bool ty) :: (.pointer (some ⟨n, 0, none⟩)) :: undef :: undef :: undef :: undef :: undef :: undef :: undef :: undef :: undef :: undef :: undef :: undef :: undef :: undef :: undef :: undef :: undef :: undef :: undef :: undef :: undef :: undef :: undef :: undef :: undef :: undef :: undef :: undef :: undef :: undef :: undef :: undef :: undef :: undef :: undef :: undef :: undef :: undef :: undef :: undef :: undef :: undef :: undef :: undef :: undef :: undef :: undef :: undef :: undef :: undef :: undef :: undef :: undef :: undef :: undef :: undef :: undef :: undef :: [])) Try.func120 rfl rfl (fun E => ?_)
  refine tw_seq ?_
  refine tw_region (fun K hK => ?_)
  refine lw_pu (wan_none rfl) (pu_assign (by (simp only [ev, List.getD_cons_succ, List.getD_cons_zero]; exact rfl))) (by (simp only [setD, List.set_cons_succ, List.set_cons_zero]; exact rfl)) ?_
  refine lw_nil ?_; refine hK _ _ ?_; clear hK K
  refine tw_seq ?_
  refine tw_seq ?_
  refine tw_region (fun K hK => ?_)
  refine lw_pu (wan_none rfl) (pu_move (by (simp only [ev, List.getD_cons_succ, List.getD_cons_zero]; exact rfl))) (by (simp only [setD, List.set_cons_succ, List.set_cons_zero]; exact rfl)) ?_
  refine lw_pu (wan_none rfl) (pu_nilCheck_p rfl) (by (simp only [setD, List.set_cons_succ, List.set_cons_zero]; exact rfl)) ?_
  refine lw_pu (wan_none rfl) (pu_fieldAddr rfl (by exact fun w => siz _ w)) (by (simp only [setD, List.set_cons_succ, List.set_cons_zero]; exact rfl)) ?_
  first | refine lw_pu (wan_none rfl) (pu_load rfl (hnt hm.ext)) (by (simp only [setD, List.set_cons_succ, List.set_cons_zero]; exact rfl)) ?_ | refine lw_pu (wan_none rfl) (pu_load rfl (hnp hm.ext)) (by (simp only [setD, List.set_cons_succ, List.set_cons_zero]; exact rfl)) ?_ | refine lw_pu (wan_none rfl) (pu_load rfl (hpf hm.ext)) (by (simp only [setD, List.set_cons_succ, List.set_cons_zero]; exact rfl)) ?_
  refine lw_pu (wan_none rfl) (pu_false (pu_neq rfl rfl) (by omega)) (by (simp only [setD, List.set_cons_succ, List.set_cons_zero]; exact rfl)) ?_
  refine lw_nil ?_; refine hK _ _ ?_; clear hK K
  refine tw_cond_f rfl ?_
  refine tw_skip ?_
  refine tw_seq ?_
  refine tw_region (fun K hK => ?_)
  refine lw_pu (wan_none rfl) (pu_move (by (simp only [ev, List.getD_cons_succ, List.getD_cons_zero]; exact rfl))) (by (simp only [setD, List.set_cons_succ, List.set_cons_zero]; exact rfl)) ?_
  refine lw_pu (wan_none rfl) (pu_nilCheck_p rfl) (by (simp only [setD, List.set_cons_succ, List.set_cons_zero]; exact rfl)) ?_
  refine lw_pu (wan_none rfl) (pu_fieldAddr rfl (by exact fun w => siz _ w)) (by (simp only [setD, List.set_cons_succ, List.set_cons_zero]; exact rfl)) ?_
  first | refine lw_pu (wan_none rfl) (pu_load rfl (hnt hm.ext)) (by (simp only [setD, List.set_cons_succ, List.set_cons_zero]; exact rfl)) ?_ | refine lw_pu (wan_none rfl) (pu_load rfl (hnp hm.ext)) (by (simp only [setD, List.set_cons_succ, List.set_cons_zero]; exact rfl)) ?_ | refine lw_pu (wan_none rfl) (pu_load rfl (hpf hm.ext)) (by (simp only [setD, List.set_cons_succ, List.set_cons_zero]; exact rfl)) ?_
  refine lw_pu (wan_none rfl) (pu_assign (by (simp only [ev, List.getD_cons_succ, List.getD_cons_zero]; exact rfl))) (by (simp only [setD, List.set_cons_succ, List.set_cons_zero]; exact rfl)) ?_
  refine lw_nil ?_; refine hK _ _ ?_; clear hK K
  refine tw_seq ?_
  refine tw_seq ?_
  refine tw_region (fun K hK => ?_)
  refine lw_pu (wan_none rfl) (pu_move (by (simp only [ev, List.getD_cons_succ, List.getD_cons_zero]; exact rfl))) (by (simp only [setD, List.set_cons_succ, List.set_cons_zero]; exact rfl)) ?_
  refine lw_pu (wan_none rfl) (pu_false (pu_eql_pt rfl rfl) (by simp)) (by (simp only [setD, List.set_cons_succ, List.set_cons_zero]; exact rfl)) ?_
  refine lw_nil ?_; refine hK _ _ ?_; clear hK K
  refine tw_cond_f rfl ?_
  refine tw_skip ?_
  refine tw_seq ?_
  refine tw_region (fun K hK => ?_)
  refine lw_pu (wan_none rfl) (pu_assign (by (simp only [ev, List.getD_cons_succ, List.getD_cons_zero]; exact rfl))) (by (simp only [setD, List.set_cons_succ, List.set_cons_zero]; exact rfl)) ?_
  refine lw_nil ?_; refine hK _ _ ?_; clear hK K
  refine tw_seq ?_
  refine tw_seq ?_
  refine tw_region (fun K hK => ?_)
  refine lw_pu (wan_none rfl) (pu_move (by (simp only [ev, List.getD_cons_succ, List.getD_cons_zero]; exact rfl))) (by (simp only [setD, List.set_cons_succ, List.set_cons_zero]; exact rfl)) ?_
  refine lw_pu (wan_none rfl) (pu_nilCheck_p rfl) (by (simp only [setD, List.set_cons_succ, List.set_cons_zero]; exact rfl)) ?_
  refine lw_pu (wan_none rfl) (pu_fieldAddr rfl (by exact fun w => siz _ w)) (by (simp only [setD, List.set_cons_succ, List.set_cons_zero]; exact rfl)) ?_
  first | refine lw_pu (wan_none rfl) (pu_load rfl (hnt hm.ext)) (by (simp only [setD, List.set_cons_succ, List.set_cons_zero]; exact rfl)) ?_ | refine lw_pu (wan_none rfl) (pu_load rfl (hnp hm.ext)) (by (simp only [setD, List.set_cons_succ, List.set_cons_zero]; exact rfl)) ?_ | refine lw_pu (wan_none rfl) (pu_load rfl (hpf hm.ext)) (by (simp only [setD, List.set_cons_succ, List.set_cons_zero]; exact rfl)) ?_
  refine lw_pu (wan_none rfl) (pu_assign (by (simp only [ev, List.getD_cons_succ, List.getD_cons_zero]; exact rfl))) (by (simp only [setD, List.set_cons_succ, List.set_cons_zero]; exact rfl)) ?_
  refine lw_nil ?_; refine hK _ _ ?_; clear hK K
  refine tw_block ?_
  rotate_left 1
  -- left: loop
  refine tw_loopJ (X := Nat × Nat × Option Addr) (fun x => x.1) (fun x J => (.int .i64 b :: .bool ty :: .pointer (some ⟨n, 0, none⟩) :: J 3 :: J 4 :: J 5 :: J 6 :: .pointer (some ⟨p, 0, none⟩) :: .int .i64 (x.2.1 : Int) :: .pointer x.2.2 :: J 10 :: J 11 :: J 12 :: J 13 :: J 14 :: J 15 :: J 16 :: J 17 :: J 18 :: J 19 :: J 20 :: J 21 :: J 22 :: J 23 :: J 24 :: J 25 :: J 26 :: J 27 :: J 28 :: J 29 :: J 30 :: J 31 :: J 32 :: J 33 :: J 34 :: J 35 :: J 36 :: J 37 :: J 38 :: J 39 :: J 40 :: J 41 :: J 42 :: J 43 :: J 44 :: J 45 :: J 46 :: J 47 :: J 48 :: J 49 :: J 50 :: J 51 :: J 52 :: J 53 :: J 54 :: J 55 :: J 56 :: J 57 :: J 58 :: J 59 :: J 60 :: [])) (fun x h => Mem h0 h [] [] ∧ at_ ≤ x.1 ∧ x.1 < xs.length ∧ x.2.1 = Rc xs at_ (ty = true) (x.1 + 1) ∧ x.2.1 ≤ 200 ∧ x.2.2 = (cs[x.1]?).map fun b => ⟨b, 0, none⟩) (cs.length - 1, 0, (cs[cs.length - 1]?).map fun b => ⟨b, 0, none⟩) rfl ⟨hm, by simp; omega, by simp; omega, by show 0 = _; rw [show cs.length - 1 + 1 = xs.length by omega, Rc_end], by simp, rfl⟩ ?_
  clear hm
  rintro ⟨j, cv, qq⟩ J h ⟨hm, hj, hjl, hcv, hcl, hqq⟩ IH
  simp only at hm hj hjl hcv hcl hqq
  obtain ⟨c, hc⟩ : ∃ c, cs[j]? = some c := ⟨cs[j]'(by omega), List.getElem?_eq_getElem (by omega)⟩
  rw [hc] at hqq
  obtain rfl : qq = some ⟨c, 0, none⟩ := hqq
  have hcm := hf.cin c (List.mem_of_getElem? hc)
  have hct : ∀ {h}, Ext h0 h → cell h ⟨c, 5, none⟩ = some (.int .u32 3) := fun he => (hn.ext he).cell hcm (by simp [HN.cells, (hf.dat j c hc).1])
  have hcd : ∀ {h}, Ext h0 h → cell h ⟨c, 7, none⟩ = some (bs (xs.getD j [])) := fun he => (hn.ext he).cell hcm (by simp [HN.cells, (hf.dat j c hc).2])
  have hcn : ∀ {h}, Ext h0 h → cell h ⟨c, 3, none⟩ = some (pt (if j = 0 then none else cs[j - 1]?)) := fun he => (hn.ext he).cell hcm (by simp [HN.cells, hf.kin.prv j c hc])
  have hs := Rc_step xs at_ (ty = true) hjl
  have hle : Rc xs at_ (ty = true) j ≤ 200 := Nat.le_trans (cnt_le _ _) (by omega)
  have hmono : at_ < j → Rc xs at_ (ty = true) j + 1 ≤ Rc xs at_ (ty = true) at_ := fun h => by
    have h1 := Rc_step xs at_ (ty = true) (j := at_) (by omega)
    rw [if_pos (show Ty xs at_ (ty = true) at_ from fun _ => rfl)] at h1
    have h2 := Rc_anti xs at_ (ty = true) (m := at_ + 1) (n := j) (by omega) (by omega)
    omega
  rw [← hcv] at hs
  refine tw_seq ?_
  refine tw_seq ?_
  refine tw_region (fun K hK => ?_)
  refine lw_pu (wan_none rfl) (pu_move (by (simp only [ev, List.getD_cons_succ, List.getD_cons_zero]; exact rfl))) (by (simp only [setD, List.set_cons_succ, List.set_cons_zero]; exact rfl)) ?_
  refine lw_pu (wan_none rfl) (pu_true (pu_neq_pt rfl rfl) (by simp)) (by (simp only [setD, List.set_cons_succ, List.set_cons_zero]; exact rfl)) ?_
  refine lw_nil ?_; refine hK _ _ ?_; clear hK K
  refine tw_cond_t rfl ?_
  refine tw_skip ?_
  refine tw_seq ?_
  refine tw_block ?_
  refine tw_seq ?_
  refine tw_seq ?_
  refine tw_quietM hm (by kernel_rfl) (by kernel_rfl) (fun K hK => ?_)
  refine qw_pu (wan_none rfl) (fun h hm => pu_move (by (simp only [ev, List.getD_cons_succ, List.getD_cons_zero]; exact rfl))) (by (simp only [setD, List.set_cons_succ, List.set_cons_zero]; exact rfl)) ?_
  refine qw_pu (wan_none rfl) (fun h hm => pu_nilCheck_p rfl) (by (simp only [setD, List.set_cons_succ, List.set_cons_zero]; exact rfl)) ?_
  refine qw_pu (wan_none rfl) (fun h hm => pu_fieldAddr rfl (by exact fun w => siz _ w)) (by (simp only [setD, List.set_cons_succ, List.set_cons_zero]; exact rfl)) ?_
  first | refine qw_pu (wan_none rfl) (fun h hm => pu_load rfl (hct hm.ext)) (by (simp only [setD, List.set_cons_succ, List.set_cons_zero]; exact rfl)) ?_ | refine qw_pu (wan_none rfl) (fun h hm => pu_load rfl (hcd hm.ext)) (by (simp only [setD, List.set_cons_succ, List.set_cons_zero]; exact rfl)) ?_ | refine qw_pu (wan_none rfl) (fun h hm => pu_load rfl (hnd hm.ext)) (by (simp only [setD, List.set_cons_succ, List.set_cons_zero]; exact rfl)) ?_ | refine qw_pu (wan_none rfl) (fun h hm => pu_load rfl (hcn hm.ext)) (by (simp only [setD, List.set_cons_succ, List.set_cons_zero]; exact rfl)) ?_
  refine qw_pu (wan_none rfl) (fun h hm => pu_false (pu_neq rfl rfl) (by omega)) (by (simp only [setD, List.set_cons_succ, List.set_cons_zero]; exact rfl)) ?_
  refine qw_pu (wan_none rfl) (fun h hm => pu_move (by (simp only [ev, List.getD_cons_succ, List.getD_cons_zero]; exact rfl))) (by (simp only [setD, List.set_cons_succ, List.set_cons_zero]; exact rfl)) ?_
  refine qw_pu (wan_some rfl rfl rfl) (fun h hm => pu_move (by (simp only [ev, List.getD_cons_succ, List.getD_cons_zero]; exact rfl))) (by (simp only [setD, List.set_cons_succ, List.set_cons_zero]; exact rfl)) ?_
  refine qw_pu (wan_some rfl rfl rfl) (fun h hm => pu_move (by (simp only [ev, List.getD_cons_succ, List.getD_cons_zero]; exact rfl))) (by (simp only [setD, List.set_cons_succ, List.set_cons_zero]; exact rfl)) ?_
  first | refine qw_split_d rfl rfl rfl (by (simp only [List.set_cons_succ, List.set_cons_zero]; exact rfl)) (by (simp only [List.set_cons_succ, List.set_cons_zero]; exact rfl)) (fun hq => ?_) (fun hq => ?_) | refine qw_split_b rfl rfl rfl (by (simp only [List.set_cons_succ, List.set_cons_zero]; exact rfl)) (by (simp only [List.set_cons_succ, List.set_cons_zero]; exact rfl)) (fun hq => ?_) (fun hq => ?_)
  refine qw_pu (wan_some rfl rfl rfl) (fun h hm => pu_move (by (simp only [ev, List.getD_cons_succ, List.getD_cons_zero]; exact rfl))) (by (simp only [setD, List.set_cons_succ, List.set_cons_zero]; exact rfl)) ?_
  refine qw_pu (wan_some rfl rfl rfl) (fun h hm => pu_nilCheck_p rfl) (by (simp only [setD, List.set_cons_succ, List.set_cons_zero]; exact rfl)) ?_
  refine qw_pu (wan_some rfl rfl rfl) (fun h hm => pu_fieldAddr rfl (by exact fun w => siz _ w)) (by (simp only [setD, List.set_cons_succ, List.set_cons_zero]; exact rfl)) ?_
  first | refine qw_pu (wan_some rfl rfl rfl) (fun h hm => pu_load rfl (hct hm.ext)) (by (simp only [setD, List.set_cons_succ, List.set_cons_zero]; exact rfl)) ?_ | refine qw_pu (wan_some rfl rfl rfl) (fun h hm => pu_load rfl (hcd hm.ext)) (by (simp only [setD, List.set_cons_succ, List.set_cons_zero]; exact rfl)) ?_ | refine qw_pu (wan_some rfl rfl rfl) (fun h hm => pu_load rfl (hnd hm.ext)) (by (simp only [setD, List.set_cons_succ, List.set_cons_zero]; exact rfl)) ?_ | refine qw_pu (wan_some rfl rfl rfl) (fun h hm => pu_load rfl (hcn hm.ext)) (by (simp only [setD, List.set_cons_succ, List.set_cons_zero]; exact rfl)) ?_
  refine qw_pu (wan_some rfl rfl rfl) (fun h hm => pu_move (by (simp only [ev, List.getD_cons_succ, List.getD_cons_zero]; exact rfl))) (by (simp only [setD, List.set_cons_succ, List.set_cons_zero]; exact rfl)) ?_
  refine qw_pu (wan_some rfl rfl rfl) (fun h hm => pu_nilCheck_p rfl) (by (simp only [setD, List.set_cons_succ, List.set_cons_zero]; exact rfl)) ?_
  refine qw_pu (wan_some rfl rfl rfl) (fun h hm => pu_fieldAddr rfl (by exact fun w => siz _ w)) (by (simp only [setD, List.set_cons_succ, List.set_cons_zero]; exact rfl)) ?_
  first | refine qw_pu (wan_some rfl rfl rfl) (fun h hm => pu_load rfl (hct hm.ext)) (by (simp only [setD, List.set_cons_succ, List.set_cons_zero]; exact rfl)) ?_ | refine qw_pu (wan_some rfl rfl rfl) (fun h hm => pu_load rfl (hcd hm.ext)) (by (simp only [setD, List.set_cons_succ, List.set_cons_zero]; exact rfl)) ?_ | refine qw_pu (wan_some rfl rfl rfl) (fun h hm => pu_load rfl (hnd hm.ext)) (by (simp only [setD, List.set_cons_succ, List.set_cons_zero]; exact rfl)) ?_ | refine qw_pu (wan_some rfl rfl rfl) (fun h hm => pu_load rfl (hcn hm.ext)) (by (simp only [setD, List.set_cons_succ, List.set_cons_zero]; exact rfl)) ?_
  refine qw_pu (wan_some rfl rfl rfl) (fun h hm => pu_neqs rfl rfl) (by (simp only [setD, List.set_cons_succ, List.set_cons_zero]; exact rfl)) ?_
  refine qw_pu (wan_some rfl rfl rfl) (fun h hm => pu_pick_t rfl (by (simp only [ev, List.getD_cons_succ, List.getD_cons_zero]; exact rfl))) (by (simp only [setD, List.set_cons_succ, List.set_cons_zero]; exact rfl)) ?_
  refine qw_pu (wan_none rfl) (fun h hm => pu_pick_f rfl (by (simp only [ev, List.getD_cons_succ, List.getD_cons_zero]; exact rfl))) (by (simp only [setD, List.set_cons_succ, List.set_cons_zero]; exact rfl)) ?_
  refine qw_nil ?_; refine hK _ ?_; clear hK K hm; intro h hm
  refine tw_cond_ds rfl (by (simp only [List.set_cons_succ, List.set_cons_zero]; exact rfl)) (by (simp only [List.set_cons_succ, List.set_cons_zero]; exact rfl)) (fun hq => ?_) (fun hq => ?_)
  refine tw_exit rfl ?_
  refine tw_region (fun K hK => ?_)
  refine lw_pu (wan_none rfl) (pu_move (by (simp only [ev, List.getD_cons_succ, List.getD_cons_zero]; exact rfl))) (by (simp only [setD, List.set_cons_succ, List.set_cons_zero]; exact rfl)) ?_
  refine lw_pu (wan_none rfl) (pu_nilCheck_p rfl) (by (simp only [setD, List.set_cons_succ, List.set_cons_zero]; exact rfl)) ?_
  refine lw_pu (wan_none rfl) (pu_fieldAddr rfl (by exact fun w => siz _ w)) (by (simp only [setD, List.set_cons_succ, List.set_cons_zero]; exact rfl)) ?_
  first | refine lw_pu (wan_none rfl) (pu_load rfl (hct hm.ext)) (by (simp only [setD, List.set_cons_succ, List.set_cons_zero]; exact rfl)) ?_ | refine lw_pu (wan_none rfl) (pu_load rfl (hcd hm.ext)) (by (simp only [setD, List.set_cons_succ, List.set_cons_zero]; exact rfl)) ?_ | refine lw_pu (wan_none rfl) (pu_load rfl (hnd hm.ext)) (by (simp only [setD, List.set_cons_succ, List.set_cons_zero]; exact rfl)) ?_ | refine lw_pu (wan_none rfl) (pu_load rfl (hcn hm.ext)) (by (simp only [setD, List.set_cons_succ, List.set_cons_zero]; exact rfl)) ?_
  refine lw_pu (wan_none rfl) (pu_assign (by (simp only [ev, List.getD_cons_succ, List.getD_cons_zero]; exact rfl))) (by (simp only [setD, List.set_cons_succ, List.set_cons_zero]; exact rfl)) ?_
  refine lw_nil ?_; refine hK _ _ ?_; clear hK K
  rotate_left 1
  refine tw_skip ?_
  refine tw_seq ?_
  refine tw_region (fun K hK => ?_)
  refine lw_pu (wan_none rfl) (pu_move (by (simp only [ev, List.getD_cons_succ, List.getD_cons_zero]; exact rfl))) (by (simp only [setD, List.set_cons_succ, List.set_cons_zero]; exact rfl)) ?_
  first | refine lw_pu (wan_none rfl) (pu_addn (n := 1) rfl rfl (by omega)) (by (simp only [setD, List.set_cons_succ, List.set_cons_zero]; exact rfl)) ?_ | refine lw_pu (wan_none rfl) (pu_addi rfl rfl (by omega) (by omega)) (by (simp only [setD, List.set_cons_succ, List.set_cons_zero]; exact rfl)) ?_ | refine lw_pu (wan_none rfl) (pu_add rfl rfl) (by (simp only [setD, List.set_cons_succ, List.set_cons_zero]; exact rfl)) ?_
  refine lw_pu (wan_none rfl) (pu_assign (by (simp only [ev, List.getD_cons_succ, List.getD_cons_zero]; exact rfl))) (by (simp only [setD, List.set_cons_succ, List.set_cons_zero]; exact rfl)) ?_
  refine lw_nil ?_; refine hK _ _ ?_; clear hK K
  refine tw_seq ?_
  refine tw_seq ?_
  refine tw_region (fun K hK => ?_)
  refine lw_pu (wan_none rfl) (pu_move (by (simp only [ev, List.getD_cons_succ, List.getD_cons_zero]; exact rfl))) (by (simp only [setD, List.set_cons_succ, List.set_cons_zero]; exact rfl)) ?_
  refine lw_pu (wan_none rfl) (pu_move (by (simp only [ev, List.getD_cons_succ, List.getD_cons_zero]; exact rfl))) (by (simp only [setD, List.set_cons_succ, List.set_cons_zero]; exact rfl)) ?_
  first | refine lw_pu (wan_none rfl) (pu_eql_pp rfl rfl (hn.ext hm.ext c hcm) (hn.ext hm.ext c hcm) (by decide)) (by (simp only [setD, List.set_cons_succ, List.set_cons_zero]; exact rfl)) ?_ | refine lw_pu (wan_none rfl) (pu_eql_pp rfl rfl (hn.ext hm.ext c hcm) (hn.ext hm.ext n hnn) (by decide)) (by (simp only [setD, List.set_cons_succ, List.set_cons_zero]; exact rfl)) ?_ | refine lw_pu (wan_none rfl) (pu_eql_pp rfl rfl (hn.ext hm.ext n hnn) (hn.ext hm.ext c hcm) (by decide)) (by (simp only [setD, List.set_cons_succ, List.set_cons_zero]; exact rfl)) ?_ | refine lw_pu (wan_none rfl) (pu_eql_pp rfl rfl (hn.ext hm.ext n hnn) (hn.ext hm.ext n hnn) (by decide)) (by (simp only [setD, List.set_cons_succ, List.set_cons_zero]; exact rfl)) ?_
  refine lw_nil ?_; refine hK _ _ ?_; clear hK K
  refine tw_cond_ds rfl (by (simp only [List.set_cons_succ, List.set_cons_zero]; exact rfl)) (by (simp only [List.set_cons_succ, List.set_cons_zero]; exact rfl)) (fun hq => ?_) (fun hq => ?_)
  refine tw_seq ?_
  refine tw_region (fun K hK => ?_)
  refine lw_pu (wan_none rfl) (pu_move (by (simp only [ev, List.getD_cons_succ, List.getD_cons_zero]; exact rfl))) (by (simp only [setD, List.set_cons_succ, List.set_cons_zero]; exact rfl)) ?_
  refine lw_pu (wan_none rfl) (pu_move (by (simp only [ev, List.getD_cons_succ, List.getD_cons_zero]; exact rfl))) (by (simp only [setD, List.set_cons_succ, List.set_cons_zero]; exact rfl)) ?_
  refine lw_pu (wan_none rfl) (pu_eql rfl rfl) (by (simp only [setD, List.set_cons_succ, List.set_cons_zero]; exact rfl)) ?_
  refine lw_pu (wan_none rfl) (pu_assign (by (simp only [ev, List.getD_cons_succ, List.getD_cons_zero]; exact rfl))) (by (simp only [setD, List.set_cons_succ, List.set_cons_zero]; exact rfl)) ?_
  refine lw_nil ?_; refine hK _ _ ?_; clear hK K
  refine tw_ret1 Try.func120 Try.results120 (by (simp only [ev, List.getD_cons_succ, List.getD_cons_zero]; exact rfl)) ?_
  rotate_left 1
  refine tw_skip ?_
  refine tw_seq ?_
  refine tw_region (fun K hK => ?_)
  refine lw_pu (wan_none rfl) (pu_move (by (simp only [ev, List.getD_cons_succ, List.getD_cons_zero]; exact rfl))) (by (simp only [setD, List.set_cons_succ, List.set_cons_zero]; exact rfl)) ?_
  refine lw_pu (wan_none rfl) (pu_move (by (simp only [ev, List.getD_cons_succ, List.getD_cons_zero]; exact rfl))) (by (simp only [setD, List.set_cons_succ, List.set_cons_zero]; exact rfl)) ?_
  refine lw_pu (wan_none rfl) (pu_geq rfl rfl) (by (simp only [setD, List.set_cons_succ, List.set_cons_zero]; exact rfl)) ?_
  refine lw_nil ?_; refine hK _ _ ?_; clear hK K
  refine tw_cond_ds rfl (by (simp only [List.set_cons_succ, List.set_cons_zero]; exact rfl)) (by (simp only [List.set_cons_succ, List.set_cons_zero]; exact rfl)) (fun hq => ?_) (fun hq => ?_)
  refine tw_seq ?_
  refine tw_region (fun K hK => ?_)
  refine lw_pu (wan_none rfl) (pu_assign (by (simp only [ev, List.getD_cons_succ, List.getD_cons_zero]; exact rfl))) (by (simp only [setD, List.set_cons_succ, List.set_cons_zero]; exact rfl)) ?_
  refine lw_nil ?_; refine hK _ _ ?_; clear hK K
  refine tw_ret1 Try.func120 Try.results120 (by (simp only [ev, List.getD_cons_succ, List.getD_cons_zero]; exact rfl)) ?_
  rotate_left 1
  refine tw_skip ?_
  refine tw_inBlock ?_
  refine tw_region (fun K hK => ?_)
  refine lw_pu (wan_none rfl) (pu_move (by (simp only [ev, List.getD_cons_succ, List.getD_cons_zero]; exact rfl))) (by (simp only [setD, List.set_cons_succ, List.set_cons_zero]; exact rfl)) ?_
  refine lw_pu (wan_none rfl) (pu_nilCheck_p rfl) (by (simp only [setD, List.set_cons_succ, List.set_cons_zero]; exact rfl)) ?_
  refine lw_pu (wan_none rfl) (pu_fieldAddr rfl (by exact fun w => siz _ w)) (by (simp only [setD, List.set_cons_succ, List.set_cons_zero]; exact rfl)) ?_
  first | refine lw_pu (wan_none rfl) (pu_load rfl (hct hm.ext)) (by (simp only [setD, List.set_cons_succ, List.set_cons_zero]; exact rfl)) ?_ | refine lw_pu (wan_none rfl) (pu_load rfl (hcd hm.ext)) (by (simp only [setD, List.set_cons_succ, List.set_cons_zero]; exact rfl)) ?_ | refine lw_pu (wan_none rfl) (pu_load rfl (hnd hm.ext)) (by (simp only [setD, List.set_cons_succ, List.set_cons_zero]; exact rfl)) ?_ | refine lw_pu (wan_none rfl) (pu_load rfl (hcn hm.ext)) (by (simp only [setD, List.set_cons_succ, List.set_cons_zero]; exact rfl)) ?_
  refine lw_pu (wan_none rfl) (pu_assign (by (simp only [ev, List.getD_cons_succ, List.getD_cons_zero]; exact rfl))) (by (simp only [setD, List.set_cons_succ, List.set_cons_zero]; exact rfl)) ?_
  refine lw_nil ?_; refine hK _ _ ?_; clear hK K
  rotate_left 1
  refine qw_skip_b rfl rfl rfl (by (simp only [setD, List.set_cons_succ, List.set_cons_zero]; exact rfl)) ?_
  refine qw_skip_b rfl rfl rfl (by (simp only [setD, List.set_cons_succ, List.set_cons_zero]; exact rfl)) ?_
  refine qw_skip_b rfl rfl rfl (by (simp only [setD, List.set_cons_succ, List.set_cons_zero]; exact rfl)) ?_
  refine qw_skip_b rfl rfl rfl (by (simp only [setD, List.set_cons_succ, List.set_cons_zero]; exact rfl)) ?_
  refine qw_skip_b rfl rfl rfl (by (simp only [setD, List.set_cons_succ, List.set_cons_zero]; exact rfl)) ?_
  refine qw_skip_b rfl rfl rfl (by (simp only [setD, List.set_cons_succ, List.set_cons_zero]; exact rfl)) ?_
  refine qw_skip_b rfl rfl rfl (by (simp only [setD, List.set_cons_succ, List.set_cons_zero]; exact rfl)) ?_
  refine qw_skip_b rfl rfl rfl (by (simp only [setD, List.set_cons_succ, List.set_cons_zero]; exact rfl)) ?_
  refine qw_skip_b rfl rfl rfl (by (simp only [setD, List.set_cons_succ, List.set_cons_zero]; exact rfl)) ?_
  refine qw_pu (wan_some rfl rfl rfl) (fun h hm => pu_pick_f rfl (by (simp only [ev, List.getD_cons_succ, List.getD_cons_zero]; exact rfl))) (by (simp only [setD, List.set_cons_succ, List.set_cons_zero]; exact rfl)) ?_
  refine qw_pu (wan_none rfl) (fun h hm => pu_pick_f rfl (by (simp only [ev, List.getD_cons_succ, List.getD_cons_zero]; exact rfl))) (by (simp only [setD, List.set_cons_succ, List.set_cons_zero]; exact rfl)) ?_
  refine qw_nil ?_; refine hK _ ?_; clear hK K hm; intro h hm
  refine tw_cond_f rfl ?_
  refine tw_skip ?_
  refine tw_seq ?_
  refine tw_region (fun K hK => ?_)
  refine lw_pu (wan_none rfl) (pu_move (by (simp only [ev, List.getD_cons_succ, List.getD_cons_zero]; exact rfl))) (by (simp only [setD, List.set_cons_succ, List.set_cons_zero]; exact rfl)) ?_
  first | refine lw_pu (wan_none rfl) (pu_addn (n := 1) rfl rfl (by omega)) (by (simp only [setD, List.set_cons_succ, List.set_cons_zero]; exact rfl)) ?_ | refine lw_pu (wan_none rfl) (pu_addi rfl rfl (by omega) (by omega)) (by (simp only [setD, List.set_cons_succ, List.set_cons_zero]; exact rfl)) ?_ | refine lw_pu (wan_none rfl) (pu_add rfl rfl) (by (simp only [setD, List.set_cons_succ, List.set_cons_zero]; exact rfl)) ?_
  refine lw_pu (wan_none rfl) (pu_assign (by (simp only [ev, List.getD_cons_succ, List.getD_cons_zero]; exact rfl))) (by (simp only [setD, List.set_cons_succ, List.set_cons_zero]; exact rfl)) ?_
  refine lw_nil ?_; refine hK _ _ ?_; clear hK K
  refine tw_seq ?_
  refine tw_seq ?_
  refine tw_region (fun K hK => ?_)
  refine lw_pu (wan_none rfl) (pu_move (by (simp only [ev, List.getD_cons_succ, List.getD_cons_zero]; exact rfl))) (by (simp only [setD, List.set_cons_succ, List.set_cons_zero]; exact rfl)) ?_
  refine lw_pu (wan_none rfl) (pu_move (by (simp only [ev, List.getD_cons_succ, List.getD_cons_zero]; exact rfl))) (by (simp only [setD, List.set_cons_succ, List.set_cons_zero]; exact rfl)) ?_
  first | refine lw_pu (wan_none rfl) (pu_eql_pp rfl rfl (hn.ext hm.ext c hcm) (hn.ext hm.ext c hcm) (by decide)) (by (simp only [setD, List.set_cons_succ, List.set_cons_zero]; exact rfl)) ?_ | refine lw_pu (wan_none rfl) (pu_eql_pp rfl rfl (hn.ext hm.ext c hcm) (hn.ext hm.ext n hnn) (by decide)) (by (simp only [setD, List.set_cons_succ, List.set_cons_zero]; exact rfl)) ?_ | refine lw_pu (wan_none rfl) (pu_eql_pp rfl rfl (hn.ext hm.ext n hnn) (hn.ext hm.ext c hcm) (by decide)) (by (simp only [setD, List.set_cons_succ, List.set_cons_zero]; exact rfl)) ?_ | refine lw_pu (wan_none rfl) (pu_eql_pp rfl rfl (hn.ext hm.ext n hnn) (hn.ext hm.ext n hnn) (by decide)) (by (simp only [setD, List.set_cons_succ, List.set_cons_zero]; exact rfl)) ?_
  refine lw_nil ?_; refine hK _ _ ?_; clear hK K
  refine tw_cond_ds rfl (by (simp only [List.set_cons_succ, List.set_cons_zero]; exact rfl)) (by (simp only [List.set_cons_succ, List.set_cons_zero]; exact rfl)) (fun hq => ?_) (fun hq => ?_)
  refine tw_seq ?_
  refine tw_region (fun K hK => ?_)
  refine lw_pu (wan_none rfl) (pu_move (by (simp only [ev, List.getD_cons_succ, List.getD_cons_zero]; exact rfl))) (by (simp only [setD, List.set_cons_succ, List.set_cons_zero]; exact rfl)) ?_
  refine lw_pu (wan_none rfl) (pu_move (by (simp only [ev, List.getD_cons_succ, List.getD_cons_zero]; exact rfl))) (by (simp only [setD, List.set_cons_succ, List.set_cons_zero]; exact rfl)) ?_
  refine lw_pu (wan_none rfl) (pu_eql rfl rfl) (by (simp only [setD, List.set_cons_succ, List.set_cons_zero]; exact rfl)) ?_
  refine lw_pu (wan_none rfl) (pu_assign (by (simp only [ev, List.getD_cons_succ, List.getD_cons_zero]; exact rfl))) (by (simp only [setD, List.set_cons_succ, List.set_cons_zero]; exact rfl)) ?_
  refine lw_nil ?_; refine hK _ _ ?_; clear hK K
  refine tw_ret1 Try.func120 Try.results120 (by (simp only [ev, List.getD_cons_succ, List.getD_cons_zero]; exact rfl)) ?_
  rotate_left 1
  refine tw_skip ?_
  refine tw_seq ?_
  refine tw_region (fun K hK => ?_)
  refine lw_pu (wan_none rfl) (pu_move (by (simp only [ev, List.getD_cons_succ, List.getD_cons_zero]; exact rfl))) (by (simp only [setD, List.set_cons_succ, List.set_cons_zero]; exact rfl)) ?_
  refine lw_pu (wan_none rfl) (pu_move (by (simp only [ev, List.getD_cons_succ, List.getD_cons_zero]; exact rfl))) (by (simp only [setD, List.set_cons_succ, List.set_cons_zero]; exact rfl)) ?_
  refine lw_pu (wan_none rfl) (pu_geq rfl rfl) (by (simp only [setD, List.set_cons_succ, List.set_cons_zero]; exact rfl)) ?_
  refine lw_nil ?_; refine hK _ _ ?_; clear hK K
  refine tw_cond_ds rfl (by (simp only [List.set_cons_succ, List.set_cons_zero]; exact rfl)) (by (simp only [List.set_cons_succ, List.set_cons_zero]; exact rfl)) (fun hq => ?_) (fun hq => ?_)
  refine tw_seq ?_
  refine tw_region (fun K hK => ?_)
  refine lw_pu (wan_none rfl) (pu_assign (by (simp only [ev, List.getD_cons_succ, List.getD_cons_zero]; exact rfl))) (by (simp only [setD, List.set_cons_succ, List.set_cons_zero]; exact rfl)) ?_
  refine lw_nil ?_; refine hK _ _ ?_; clear hK K
  refine tw_ret1 Try.func120 Try.results120 (by (simp only [ev, List.getD_cons_succ, List.getD_cons_zero]; exact rfl)) ?_
  rotate_left 1
  refine tw_skip ?_
  refine tw_inBlock ?_
  refine tw_region (fun K hK => ?_)
  refine lw_pu (wan_none rfl) (pu_move (by (simp only [ev, List.getD_cons_succ, List.getD_cons_zero]; exact rfl))) (by (simp only [setD, List.set_cons_succ, List.set_cons_zero]; exact rfl)) ?_
  refine lw_pu (wan_none rfl) (pu_nilCheck_p rfl) (by (simp only [setD, List.set_cons_succ, List.set_cons_zero]; exact rfl)) ?_
  refine lw_pu (wan_none rfl) (pu_fieldAddr rfl (by exact fun w => siz _ w)) (by (simp only [setD, List.set_cons_succ, List.set_cons_zero]; exact rfl)) ?_
  first | refine lw_pu (wan_none rfl) (pu_load rfl (hct hm.ext)) (by (simp only [setD, List.set_cons_succ, List.set_cons_zero]; exact rfl)) ?_ | refine lw_pu (wan_none rfl) (pu_load rfl (hcd hm.ext)) (by (simp only [setD, List.set_cons_succ, List.set_cons_zero]; exact rfl)) ?_ | refine lw_pu (wan_none rfl) (pu_load rfl (hnd hm.ext)) (by (simp only [setD, List.set_cons_succ, List.set_cons_zero]; exact rfl)) ?_ | refine lw_pu (wan_none rfl) (pu_load rfl (hcn hm.ext)) (by (simp only [setD, List.set_cons_succ, List.set_cons_zero]; exact rfl)) ?_
  refine lw_pu (wan_none rfl) (pu_assign (by (simp only [ev, List.getD_cons_succ, List.getD_cons_zero]; exact rfl))) (by (simp only [setD, List.set_cons_succ, List.set_cons_zero]; exact rfl)) ?_
  refine lw_nil ?_; refine hK _ _ ?_; clear hK K
  rotate_left 1
  -- left: round | ret | ret | round | ret | ret | round
  all_goals first
    | (have hP : Ty xs at_ (ty = true) j := fun h => by first | (exfalso; simp_all; done) | assumption | (exact Decidable.not_not.1 (by assumption))
       rw [if_pos hP] at hs
       first
         | (have hjn : j = at_ := nodup_at hf.nodup hc hat (by assumption)
            subst hjn
            refine ⟨⟨_, rfl, ?_⟩, hm.ext⟩
            rw [hs, decide_eq_true_iff])
         | (have hjn : j ≠ at_ := fun e => absurd (by subst e; exact Option.some.inj (hc.symm.trans hat)) (by assumption)
            have h9 := hmono (by omega)
            refine ⟨⟨false, rfl, ?_⟩, hm.ext⟩
            simp only [Bool.false_eq_true, false_iff]
            omega)
         | (have hjn : j ≠ at_ := fun e => absurd (by subst e; exact Option.some.inj (hc.symm.trans hat)) (by assumption)
            exact IH (j - 1, cv + 1, (if j = 0 then none else cs[j - 1]?).map fun b => ⟨b, 0, none⟩) _ _ (by simp; omega) rfl ⟨hm, by simp; omega, by simp; omega, by simp only; rw [show j - 1 + 1 = j by omega, hs], by simp; omega, by simp only; rw [if_neg (by omega)]⟩))
    | (have hP : ¬ Ty xs at_ (ty = true) j := fun h => absurd (h (by assumption)) (by assumption)
       rw [if_neg hP] at hs
       have hjn : j ≠ at_ := fun e => hP (by subst e; exact fun _ => rfl)
       exact IH (j - 1, cv, (if j = 0 then none else cs[j - 1]?).map fun b => ⟨b, 0, none⟩) _ _ (by simp; omega) rfl ⟨hm, by simp; omega, by simp; omega, by simp only; rw [show j - 1 + 1 = j by omega, hs, Nat.add_zero], by simp; omega, by simp only; rw [if_neg (by omega)]⟩)
end Go.Proofs.Ytnggneccdekofaa.Brother
