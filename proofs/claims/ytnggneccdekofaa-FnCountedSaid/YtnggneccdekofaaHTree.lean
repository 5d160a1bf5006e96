/-
  Nodes of documents in memory: all nodes that a call owns, as one map from blocks to nodes.
-/
import Derived.Test.YtnggneccdekofaaKTypes
namespace Go.Proofs.Ytnggneccdekofaa.HTree
open Go Go.Proofs K

structure HN where
  par : Option Nat
  fst : Option Nat
  lst : Option Nat
  prv : Option Nat
  nxt : Option Nat
  typ : Int
  atm : Int
  dat : List UInt8
  nsp : List UInt8
  aq : Option Addr
  an : Nat
  ac : Nat
def pt (o : Option Nat) : Value := .pointer (o.map fun b => ⟨b, 0, none⟩)
def HN.cells (n : HN) : List Value := [pt n.par, pt n.fst, pt n.lst, pt n.prv, pt n.nxt, .int .u32 n.typ, .int .u32 n.atm, bs n.dat, bs n.nsp, .slice n.aq n.an n.ac]
def blks (σ : Nat → HN) (ids : List Nat) : List Blk := ids.map fun b => (b, (σ b).cells, 133)
def upd (σ : Nat → HN) (b : Nat) (n : HN) : Nat → HN := fun x => if x = b then n else σ x
theorem upd_same (σ : Nat → HN) (b : Nat) (n : HN) : upd σ b n b = n := if_pos rfl
theorem upd_other {σ : Nat → HN} {b x : Nat} {n : HN} (h : x ≠ b) : upd σ b n x = σ x := if_neg h

section
variable {h0 h : Array Obj} {M R : List Blk} {σ : Nat → HN} {ids : List Nat} {b : Nat}
theorem nd_mem (hb : b ∈ ids) : (b, (σ b).cells, 133) ∈ M ++ (blks σ ids ++ R) :=
  List.mem_append_right _ (List.mem_append_left _ (List.mem_map.2 ⟨b, hb, rfl⟩))
theorem nd_row (hm : Mem h0 h M (blks σ ids ++ R)) (hb : b ∈ ids) : cellsFrom h b 0 (σ b).cells :=
  cells_of_row (σ b).cells [] [] 0 (by simpa using hm.at_ _ (nd_mem hb)) rfl
theorem nd_cell (hm : Mem h0 h M (blks σ ids ++ R)) (hb : b ∈ ids) {k : Nat} {v : Value} (hk : (σ b).cells[k]? = some v) : cell h ⟨b, k, none⟩ = some v := by
  have := cellsFrom_iff.1 (nd_row hm hb) k v hk
  simpa using this
theorem ids_nodup (hm : Mem h0 h M (blks σ ids ++ R)) : ids.Nodup := by
  have := hm.nodup
  rw [List.map_append, List.nodup_append, List.map_append, List.nodup_append] at this
  have h1 := this.2.1.1
  rw [blks, List.map_map] at h1
  exact (by simpa [Function.comp_def] using h1)
theorem set_blks {v : HN} : ∀ {ids : List Nat} {j : Nat}, ids.Nodup → ids[j]? = some b → (blks σ ids).set j (b, v.cells, 133) = blks (upd σ b v) ids
  | [], j, _, h => by simp at h
  | x :: ids, 0, hn, h => by
    simp at h
    subst h
    have h1 : blks (upd σ x v) ids = blks σ ids := List.map_congr_left fun y hy => by
      have : y ≠ x := fun e => (List.nodup_cons.1 hn).1 (e ▸ hy)
      rw [upd_other this]
    simp only [blks, List.map_cons, List.set_cons_zero, upd_same]
    exact congrArg _ h1.symm
  | x :: ids, j + 1, hn, h => by
    have hmem : b ∈ ids := List.mem_of_getElem? (by simpa using h)
    have hx : x ≠ b := fun e => (List.nodup_cons.1 hn).1 (e ▸ hmem)
    have h1 := set_blks (v := v) (ids := ids) (j := j) (List.nodup_cons.1 hn).2 (by simpa using h)
    simp only [blks, List.map_cons, List.set_cons_succ, upd_other hx] at h1 ⊢
    rw [h1]
variable {P : Program} {E : Env} {ops : List Oper} {K : List Value → Array Obj → Prop} {rest : List Oper} {ρ ρ' : List Value} {v : Value} {d : Option Tmp} {T ty : TypeId} {p : String} {af : Array Edge} {g : Option (Nat × Bool)} {x y : Operand}
theorem lw_store_nd [Siz P T 1] {k : Nat} {nn : HN} (hw : Wan ops ρ ⟨d, .store T x y, ty, p, af, g⟩) (hx : ev ρ x = .pointer (some ⟨b, k, none⟩)) (hy : ev ρ y = v) (hv : v.oneCell' = true) (hm : Mem h0 h M (blks σ ids ++ R)) (hb : b ∈ ids)
    (hk : k < 10) (hc : (σ b).cells.set k v = nn.cells) (hs : setD ρ d undef = ρ') (hkk : ∀ h, Mem h0 h M (blks (upd σ b nn) ids ++ R) → LW P E ops K rest ρ' h) : LW P E ops K (⟨d, .store T x y, ty, p, af, g⟩ :: rest) ρ h := by
  obtain ⟨j, hj⟩ := List.mem_iff_getElem?.1 hb
  have hjl : j < (blks σ ids).length := by
    have := (List.getElem?_eq_some_iff.1 hj).1
    simpa [blks] using this
  refine lw_store_own (j := j) (cs := (σ b).cells) (e := 133) hw hx hy hv hm ?_ hk rfl hs fun h hm' => hkk h ?_
  · rw [List.getElem?_append_left hjl]
    simp [blks, hj]
  · rw [hc, List.set_append_left _ _ hjl, set_blks (ids_nodup hm) hj] at hm'
    exact hm'
end

/-- What AppendChild makes of the nodes. -/
def app (σ : Nat → HN) (p c : Nat) : Nat → HN :=
  let s1 := match (σ p).lst with
    | some l => upd σ l { σ l with nxt := some c }
    | none => upd σ p { σ p with fst := some c }
  let s2 := upd s1 p { s1 p with lst := some c }
  let s3 := upd s2 c { s2 c with par := some p }
  upd s3 c { s3 c with prv := (σ p).lst }

set_option linter.unusedSimpArgs false
set_option linter.unusedVariables false
set_option maxRecDepth 10000
theorem app_ret {h0 h : Array Obj} {M R : List Blk} {σ : Nat → HN} {ids : List Nat} {p c : Nat} (hm : Mem h0 h M (blks σ ids ++ R)) (hp : p ∈ ids) (hc : c ∈ ids) (hl : ∀ l, (σ p).lst = some l → l ∈ ids) (h1 : (σ c).par = none) (h2 : (σ c).prv = none) (h3 : (σ c).nxt = none) :
    Ret Try.prog 123 [.pointer (some ⟨p, 0, none⟩), .pointer (some ⟨c, 0, none⟩)] h fun v h' => Mem h0 h' M (blks (app σ p c) ids ++ R) := by
  have hc0 : cell h ⟨c, 0, none⟩ = some (.pointer none) := nd_cell hm hc (by simp [HN.cells, h1, pt])
  have hc3 : cell h ⟨c, 3, none⟩ = some (.pointer none) := nd_cell hm hc (by simp [HN.cells, h2, pt])
  have hc4 : cell h ⟨c, 4, none⟩ = some (.pointer none) := nd_cell hm hc (by simp [HN.cells, h3, pt])
  have hp2 : cell h ⟨p, 2, none⟩ = some (pt (σ p).lst) := nd_cell hm hp rfl
  cases hlst : (σ p).lst with
  | none =>
    rw [hlst] at hp2
    change _ = some (Value.pointer none) at hp2
    refine ret_of_tw (ρ := ((.pointer (some ⟨p, 0, none⟩)) :: (.pointer (some ⟨c, 0, none⟩)) :: undef :: undef :: undef :: undef :: undef :: undef :: undef :: undef :: undef :: undef :: undef :: undef :: undef :: undef :: undef :: undef :: undef :: undef :: undef :: undef :: undef :: undef :: undef :: undef :: undef :: undef :: undef :: undef :: undef :: undef :: undef :: undef :: undef :: undef :: undef :: undef :: undef :: undef :: undef :: undef :: undef :: undef :: undef :: undef :: undef :: undef :: undef :: undef :: undef :: [])) Try.func123 rfl rfl (fun E => ?_)
    refine tw_seq ?_
    refine tw_seq ?_
    refine tw_region (fun K hK => ?_)
    refine lw_pu (wan_none rfl) (pu_move (by (simp only [ev, List.getD_cons_succ, List.getD_cons_zero]; exact rfl))) (by (simp only [setD, List.set_cons_succ, List.set_cons_zero]; exact rfl)) ?_
    refine lw_pu (wan_none rfl) (pu_nilCheck_p rfl) (by (simp only [setD, List.set_cons_succ, List.set_cons_zero]; exact rfl)) ?_
    refine lw_pu (wan_none rfl) (pu_fieldAddr rfl (by exact fun w => siz _ w)) (by (simp only [setD, List.set_cons_succ, List.set_cons_zero]; exact rfl)) ?_
    first | refine lw_pu (wan_none rfl) (pu_load rfl (hc0)) (by (simp only [setD, List.set_cons_succ, List.set_cons_zero]; exact rfl)) ?_ | refine lw_pu (wan_none rfl) (pu_load rfl (hc3)) (by (simp only [setD, List.set_cons_succ, List.set_cons_zero]; exact rfl)) ?_ | refine lw_pu (wan_none rfl) (pu_load rfl (hc4)) (by (simp only [setD, List.set_cons_succ, List.set_cons_zero]; exact rfl)) ?_ | refine lw_pu (wan_none rfl) (pu_load rfl (hp2)) (by (simp only [setD, List.set_cons_succ, List.set_cons_zero]; exact rfl)) ?_
    refine lw_pu (wan_none rfl) (pu_false (pu_neq_pt rfl rfl) (by simp)) (by (simp only [setD, List.set_cons_succ, List.set_cons_zero]; exact rfl)) ?_
    refine lw_pu (wan_none rfl) (pu_move (by (simp only [ev, List.getD_cons_succ, List.getD_cons_zero]; exact rfl))) (by (simp only [setD, List.set_cons_succ, List.set_cons_zero]; exact rfl)) ?_
    refine lw_pu (wan_some rfl rfl rfl) (pu_move (by (simp only [ev, List.getD_cons_succ, List.getD_cons_zero]; exact rfl))) (by (simp only [setD, List.set_cons_succ, List.set_cons_zero]; exact rfl)) ?_
    refine lw_pu (wan_some rfl rfl rfl) (pu_nilCheck_p rfl) (by (simp only [setD, List.set_cons_succ, List.set_cons_zero]; exact rfl)) ?_
    refine lw_pu (wan_some rfl rfl rfl) (pu_fieldAddr rfl (by exact fun w => siz _ w)) (by (simp only [setD, List.set_cons_succ, List.set_cons_zero]; exact rfl)) ?_
    first | refine lw_pu (wan_some rfl rfl rfl) (pu_load rfl (hc0)) (by (simp only [setD, List.set_cons_succ, List.set_cons_zero]; exact rfl)) ?_ | refine lw_pu (wan_some rfl rfl rfl) (pu_load rfl (hc3)) (by (simp only [setD, List.set_cons_succ, List.set_cons_zero]; exact rfl)) ?_ | refine lw_pu (wan_some rfl rfl rfl) (pu_load rfl (hc4)) (by (simp only [setD, List.set_cons_succ, List.set_cons_zero]; exact rfl)) ?_ | refine lw_pu (wan_some rfl rfl rfl) (pu_load rfl (hp2)) (by (simp only [setD, List.set_cons_succ, List.set_cons_zero]; exact rfl)) ?_
    refine lw_pu (wan_some rfl rfl rfl) (pu_false (pu_neq_pt rfl rfl) (by simp)) (by (simp only [setD, List.set_cons_succ, List.set_cons_zero]; exact rfl)) ?_
    refine lw_pu (wan_none rfl) (pu_pick_f rfl (by (simp only [ev, List.getD_cons_succ, List.getD_cons_zero]; exact rfl))) (by (simp only [setD, List.set_cons_succ, List.set_cons_zero]; exact rfl)) ?_
    refine lw_pu (wan_none rfl) (pu_move (by (simp only [ev, List.getD_cons_succ, List.getD_cons_zero]; exact rfl))) (by (simp only [setD, List.set_cons_succ, List.set_cons_zero]; exact rfl)) ?_
    refine lw_pu (wan_some rfl rfl rfl) (pu_move (by (simp only [ev, List.getD_cons_succ, List.getD_cons_zero]; exact rfl))) (by (simp only [setD, List.set_cons_succ, List.set_cons_zero]; exact rfl)) ?_
    refine lw_pu (wan_some rfl rfl rfl) (pu_nilCheck_p rfl) (by (simp only [setD, List.set_cons_succ, List.set_cons_zero]; exact rfl)) ?_
    refine lw_pu (wan_some rfl rfl rfl) (pu_fieldAddr rfl (by exact fun w => siz _ w)) (by (simp only [setD, List.set_cons_succ, List.set_cons_zero]; exact rfl)) ?_
    first | refine lw_pu (wan_some rfl rfl rfl) (pu_load rfl (hc0)) (by (simp only [setD, List.set_cons_succ, List.set_cons_zero]; exact rfl)) ?_ | refine lw_pu (wan_some rfl rfl rfl) (pu_load rfl (hc3)) (by (simp only [setD, List.set_cons_succ, List.set_cons_zero]; exact rfl)) ?_ | refine lw_pu (wan_some rfl rfl rfl) (pu_load rfl (hc4)) (by (simp only [setD, List.set_cons_succ, List.set_cons_zero]; exact rfl)) ?_ | refine lw_pu (wan_some rfl rfl rfl) (pu_load rfl (hp2)) (by (simp only [setD, List.set_cons_succ, List.set_cons_zero]; exact rfl)) ?_
    refine lw_pu (wan_some rfl rfl rfl) (pu_false (pu_neq_pt rfl rfl) (by simp)) (by (simp only [setD, List.set_cons_succ, List.set_cons_zero]; exact rfl)) ?_
    refine lw_pu (wan_none rfl) (pu_pick_f rfl (by (simp only [ev, List.getD_cons_succ, List.getD_cons_zero]; exact rfl))) (by (simp only [setD, List.set_cons_succ, List.set_cons_zero]; exact rfl)) ?_
    refine lw_nil ?_; refine hK _ _ ?_; clear hK K
    refine tw_cond_f rfl ?_
    refine tw_skip ?_
    refine tw_seq ?_
    refine tw_region (fun K hK => ?_)
    refine lw_pu (wan_none rfl) (pu_move (by (simp only [ev, List.getD_cons_succ, List.getD_cons_zero]; exact rfl))) (by (simp only [setD, List.set_cons_succ, List.set_cons_zero]; exact rfl)) ?_
    refine lw_pu (wan_none rfl) (pu_nilCheck_p rfl) (by (simp only [setD, List.set_cons_succ, List.set_cons_zero]; exact rfl)) ?_
    refine lw_pu (wan_none rfl) (pu_fieldAddr rfl (by exact fun w => siz _ w)) (by (simp only [setD, List.set_cons_succ, List.set_cons_zero]; exact rfl)) ?_
    first | refine lw_pu (wan_none rfl) (pu_load rfl (hc0)) (by (simp only [setD, List.set_cons_succ, List.set_cons_zero]; exact rfl)) ?_ | refine lw_pu (wan_none rfl) (pu_load rfl (hc3)) (by (simp only [setD, List.set_cons_succ, List.set_cons_zero]; exact rfl)) ?_ | refine lw_pu (wan_none rfl) (pu_load rfl (hc4)) (by (simp only [setD, List.set_cons_succ, List.set_cons_zero]; exact rfl)) ?_ | refine lw_pu (wan_none rfl) (pu_load rfl (hp2)) (by (simp only [setD, List.set_cons_succ, List.set_cons_zero]; exact rfl)) ?_
    refine lw_pu (wan_none rfl) (pu_assign (by (simp only [ev, List.getD_cons_succ, List.getD_cons_zero]; exact rfl))) (by (simp only [setD, List.set_cons_succ, List.set_cons_zero]; exact rfl)) ?_
    refine lw_nil ?_; refine hK _ _ ?_; clear hK K
    refine tw_seq ?_
    refine tw_seq ?_
    refine tw_region (fun K hK => ?_)
    refine lw_pu (wan_none rfl) (pu_move (by (simp only [ev, List.getD_cons_succ, List.getD_cons_zero]; exact rfl))) (by (simp only [setD, List.set_cons_succ, List.set_cons_zero]; exact rfl)) ?_
    refine lw_pu (wan_none rfl) (pu_false (pu_neq_pt rfl rfl) (by simp)) (by (simp only [setD, List.set_cons_succ, List.set_cons_zero]; exact rfl)) ?_
    refine lw_nil ?_; refine hK _ _ ?_; clear hK K
    refine tw_cond_f rfl ?_
    refine tw_region (fun K hK => ?_)
    refine lw_pu (wan_none rfl) (pu_move (by (simp only [ev, List.getD_cons_succ, List.getD_cons_zero]; exact rfl))) (by (simp only [setD, List.set_cons_succ, List.set_cons_zero]; exact rfl)) ?_
    refine lw_pu (wan_none rfl) (pu_move (by (simp only [ev, List.getD_cons_succ, List.getD_cons_zero]; exact rfl))) (by (simp only [setD, List.set_cons_succ, List.set_cons_zero]; exact rfl)) ?_
    refine lw_pu (wan_none rfl) (pu_nilCheck_p rfl) (by (simp only [setD, List.set_cons_succ, List.set_cons_zero]; exact rfl)) ?_
    refine lw_pu (wan_none rfl) (pu_fieldAddr rfl (by exact fun w => siz _ w)) (by (simp only [setD, List.set_cons_succ, List.set_cons_zero]; exact rfl)) ?_
    refine lw_store_nd (nn := { σ p with fst := some c }) (wan_none rfl) rfl (by (simp only [ev, List.getD_cons_succ, List.getD_cons_zero]; exact rfl)) rfl hm hp (by decide) rfl (by (simp only [setD, List.set_cons_succ, List.set_cons_zero]; exact rfl)) ?_; clear hm; intro h hm
    refine lw_nil ?_; refine hK _ _ ?_; clear hK K
    refine tw_seq ?_
    refine tw_region (fun K hK => ?_)
    refine lw_pu (wan_none rfl) (pu_move (by (simp only [ev, List.getD_cons_succ, List.getD_cons_zero]; exact rfl))) (by (simp only [setD, List.set_cons_succ, List.set_cons_zero]; exact rfl)) ?_
    refine lw_pu (wan_none rfl) (pu_move (by (simp only [ev, List.getD_cons_succ, List.getD_cons_zero]; exact rfl))) (by (simp only [setD, List.set_cons_succ, List.set_cons_zero]; exact rfl)) ?_
    refine lw_pu (wan_none rfl) (pu_nilCheck_p rfl) (by (simp only [setD, List.set_cons_succ, List.set_cons_zero]; exact rfl)) ?_
    refine lw_pu (wan_none rfl) (pu_fieldAddr rfl (by exact fun w => siz _ w)) (by (simp only [setD, List.set_cons_succ, List.set_cons_zero]; exact rfl)) ?_
    refine lw_store_nd (nn := { (upd σ p { σ p with fst := some c }) p with lst := some c }) (wan_none rfl) rfl (by (simp only [ev, List.getD_cons_succ, List.getD_cons_zero]; exact rfl)) rfl hm hp (by decide) rfl (by (simp only [setD, List.set_cons_succ, List.set_cons_zero]; exact rfl)) ?_; clear hm; intro h hm
    refine lw_nil ?_; refine hK _ _ ?_; clear hK K
    refine tw_seq ?_
    refine tw_region (fun K hK => ?_)
    refine lw_pu (wan_none rfl) (pu_move (by (simp only [ev, List.getD_cons_succ, List.getD_cons_zero]; exact rfl))) (by (simp only [setD, List.set_cons_succ, List.set_cons_zero]; exact rfl)) ?_
    refine lw_pu (wan_none rfl) (pu_move (by (simp only [ev, List.getD_cons_succ, List.getD_cons_zero]; exact rfl))) (by (simp only [setD, List.set_cons_succ, List.set_cons_zero]; exact rfl)) ?_
    refine lw_pu (wan_none rfl) (pu_nilCheck_p rfl) (by (simp only [setD, List.set_cons_succ, List.set_cons_zero]; exact rfl)) ?_
    refine lw_pu (wan_none rfl) (pu_fieldAddr rfl (by exact fun w => siz _ w)) (by (simp only [setD, List.set_cons_succ, List.set_cons_zero]; exact rfl)) ?_
    refine lw_store_nd (nn := { (upd (upd σ p { σ p with fst := some c }) p { (upd σ p { σ p with fst := some c }) p with lst := some c }) c with par := some p }) (wan_none rfl) rfl (by (simp only [ev, List.getD_cons_succ, List.getD_cons_zero]; exact rfl)) rfl hm hc (by decide) rfl (by (simp only [setD, List.set_cons_succ, List.set_cons_zero]; exact rfl)) ?_; clear hm; intro h hm
    refine lw_nil ?_; refine hK _ _ ?_; clear hK K
    refine tw_region (fun K hK => ?_)
    refine lw_pu (wan_none rfl) (pu_move (by (simp only [ev, List.getD_cons_succ, List.getD_cons_zero]; exact rfl))) (by (simp only [setD, List.set_cons_succ, List.set_cons_zero]; exact rfl)) ?_
    refine lw_pu (wan_none rfl) (pu_move (by (simp only [ev, List.getD_cons_succ, List.getD_cons_zero]; exact rfl))) (by (simp only [setD, List.set_cons_succ, List.set_cons_zero]; exact rfl)) ?_
    refine lw_pu (wan_none rfl) (pu_nilCheck_p rfl) (by (simp only [setD, List.set_cons_succ, List.set_cons_zero]; exact rfl)) ?_
    refine lw_pu (wan_none rfl) (pu_fieldAddr rfl (by exact fun w => siz _ w)) (by (simp only [setD, List.set_cons_succ, List.set_cons_zero]; exact rfl)) ?_
    refine lw_store_nd (nn := { (upd (upd (upd σ p { σ p with fst := some c }) p { (upd σ p { σ p with fst := some c }) p with lst := some c }) c { (upd (upd σ p { σ p with fst := some c }) p { (upd σ p { σ p with fst := some c }) p with lst := some c }) c with par := some p }) c with prv := none }) (wan_none rfl) rfl (by (simp only [ev, List.getD_cons_succ, List.getD_cons_zero]; exact rfl)) rfl hm hc (by decide) rfl (by (simp only [setD, List.set_cons_succ, List.set_cons_zero]; exact rfl)) ?_; clear hm; intro h hm
    refine lw_nil ?_; refine hK _ _ ?_; clear hK K
    refine tw_end0 Try.func123 Try.results123 ?_
    rotate_left 1
    -- left: end
    unfold app
    rw [hlst]
    exact hm
  | some l =>
    rw [hlst] at hp2
    change _ = some (Value.pointer (some ⟨l, 0, none⟩)) at hp2
    refine ret_of_tw (ρ := ((.pointer (some ⟨p, 0, none⟩)) :: (.pointer (some ⟨c, 0, none⟩)) :: undef :: undef :: undef :: undef :: undef :: undef :: undef :: undef :: undef :: undef :: undef :: undef :: undef :: undef :: undef :: undef :: undef :: undef :: undef :: undef :: undef :: undef :: undef :: undef :: undef :: undef :: undef :: undef :: undef :: undef :: undef :: undef :: undef :: undef :: undef :: undef :: undef :: undef :: undef :: undef :: undef :: undef :: undef :: undef :: undef :: undef :: undef :: undef :: undef :: [])) Try.func123 rfl rfl (fun E => ?_)
    refine tw_seq ?_
    refine tw_seq ?_
    refine tw_region (fun K hK => ?_)
    refine lw_pu (wan_none rfl) (pu_move (by (simp only [ev, List.getD_cons_succ, List.getD_cons_zero]; exact rfl))) (by (simp only [setD, List.set_cons_succ, List.set_cons_zero]; exact rfl)) ?_
    refine lw_pu (wan_none rfl) (pu_nilCheck_p rfl) (by (simp only [setD, List.set_cons_succ, List.set_cons_zero]; exact rfl)) ?_
    refine lw_pu (wan_none rfl) (pu_fieldAddr rfl (by exact fun w => siz _ w)) (by (simp only [setD, List.set_cons_succ, List.set_cons_zero]; exact rfl)) ?_
    first | refine lw_pu (wan_none rfl) (pu_load rfl (hc0)) (by (simp only [setD, List.set_cons_succ, List.set_cons_zero]; exact rfl)) ?_ | refine lw_pu (wan_none rfl) (pu_load rfl (hc3)) (by (simp only [setD, List.set_cons_succ, List.set_cons_zero]; exact rfl)) ?_ | refine lw_pu (wan_none rfl) (pu_load rfl (hc4)) (by (simp only [setD, List.set_cons_succ, List.set_cons_zero]; exact rfl)) ?_ | refine lw_pu (wan_none rfl) (pu_load rfl (hp2)) (by (simp only [setD, List.set_cons_succ, List.set_cons_zero]; exact rfl)) ?_
    refine lw_pu (wan_none rfl) (pu_false (pu_neq_pt rfl rfl) (by simp)) (by (simp only [setD, List.set_cons_succ, List.set_cons_zero]; exact rfl)) ?_
    refine lw_pu (wan_none rfl) (pu_move (by (simp only [ev, List.getD_cons_succ, List.getD_cons_zero]; exact rfl))) (by (simp only [setD, List.set_cons_succ, List.set_cons_zero]; exact rfl)) ?_
    refine lw_pu (wan_some rfl rfl rfl) (pu_move (by (simp only [ev, List.getD_cons_succ, List.getD_cons_zero]; exact rfl))) (by (simp only [setD, List.set_cons_succ, List.set_cons_zero]; exact rfl)) ?_
    refine lw_pu (wan_some rfl rfl rfl) (pu_nilCheck_p rfl) (by (simp only [setD, List.set_cons_succ, List.set_cons_zero]; exact rfl)) ?_
    refine lw_pu (wan_some rfl rfl rfl) (pu_fieldAddr rfl (by exact fun w => siz _ w)) (by (simp only [setD, List.set_cons_succ, List.set_cons_zero]; exact rfl)) ?_
    first | refine lw_pu (wan_some rfl rfl rfl) (pu_load rfl (hc0)) (by (simp only [setD, List.set_cons_succ, List.set_cons_zero]; exact rfl)) ?_ | refine lw_pu (wan_some rfl rfl rfl) (pu_load rfl (hc3)) (by (simp only [setD, List.set_cons_succ, List.set_cons_zero]; exact rfl)) ?_ | refine lw_pu (wan_some rfl rfl rfl) (pu_load rfl (hc4)) (by (simp only [setD, List.set_cons_succ, List.set_cons_zero]; exact rfl)) ?_ | refine lw_pu (wan_some rfl rfl rfl) (pu_load rfl (hp2)) (by (simp only [setD, List.set_cons_succ, List.set_cons_zero]; exact rfl)) ?_
    refine lw_pu (wan_some rfl rfl rfl) (pu_false (pu_neq_pt rfl rfl) (by simp)) (by (simp only [setD, List.set_cons_succ, List.set_cons_zero]; exact rfl)) ?_
    refine lw_pu (wan_none rfl) (pu_pick_f rfl (by (simp only [ev, List.getD_cons_succ, List.getD_cons_zero]; exact rfl))) (by (simp only [setD, List.set_cons_succ, List.set_cons_zero]; exact rfl)) ?_
    refine lw_pu (wan_none rfl) (pu_move (by (simp only [ev, List.getD_cons_succ, List.getD_cons_zero]; exact rfl))) (by (simp only [setD, List.set_cons_succ, List.set_cons_zero]; exact rfl)) ?_
    refine lw_pu (wan_some rfl rfl rfl) (pu_move (by (simp only [ev, List.getD_cons_succ, List.getD_cons_zero]; exact rfl))) (by (simp only [setD, List.set_cons_succ, List.set_cons_zero]; exact rfl)) ?_
    refine lw_pu (wan_some rfl rfl rfl) (pu_nilCheck_p rfl) (by (simp only [setD, List.set_cons_succ, List.set_cons_zero]; exact rfl)) ?_
    refine lw_pu (wan_some rfl rfl rfl) (pu_fieldAddr rfl (by exact fun w => siz _ w)) (by (simp only [setD, List.set_cons_succ, List.set_cons_zero]; exact rfl)) ?_
    first | refine lw_pu (wan_some rfl rfl rfl) (pu_load rfl (hc0)) (by (simp only [setD, List.set_cons_succ, List.set_cons_zero]; exact rfl)) ?_ | refine lw_pu (wan_some rfl rfl rfl) (pu_load rfl (hc3)) (by (simp only [setD, List.set_cons_succ, List.set_cons_zero]; exact rfl)) ?_ | refine lw_pu (wan_some rfl rfl rfl) (pu_load rfl (hc4)) (by (simp only [setD, List.set_cons_succ, List.set_cons_zero]; exact rfl)) ?_ | refine lw_pu (wan_some rfl rfl rfl) (pu_load rfl (hp2)) (by (simp only [setD, List.set_cons_succ, List.set_cons_zero]; exact rfl)) ?_
    refine lw_pu (wan_some rfl rfl rfl) (pu_false (pu_neq_pt rfl rfl) (by simp)) (by (simp only [setD, List.set_cons_succ, List.set_cons_zero]; exact rfl)) ?_
    refine lw_pu (wan_none rfl) (pu_pick_f rfl (by (simp only [ev, List.getD_cons_succ, List.getD_cons_zero]; exact rfl))) (by (simp only [setD, List.set_cons_succ, List.set_cons_zero]; exact rfl)) ?_
    refine lw_nil ?_; refine hK _ _ ?_; clear hK K
    refine tw_cond_f rfl ?_
    refine tw_skip ?_
    refine tw_seq ?_
    refine tw_region (fun K hK => ?_)
    refine lw_pu (wan_none rfl) (pu_move (by (simp only [ev, List.getD_cons_succ, List.getD_cons_zero]; exact rfl))) (by (simp only [setD, List.set_cons_succ, List.set_cons_zero]; exact rfl)) ?_
    refine lw_pu (wan_none rfl) (pu_nilCheck_p rfl) (by (simp only [setD, List.set_cons_succ, List.set_cons_zero]; exact rfl)) ?_
    refine lw_pu (wan_none rfl) (pu_fieldAddr rfl (by exact fun w => siz _ w)) (by (simp only [setD, List.set_cons_succ, List.set_cons_zero]; exact rfl)) ?_
    first | refine lw_pu (wan_none rfl) (pu_load rfl (hc0)) (by (simp only [setD, List.set_cons_succ, List.set_cons_zero]; exact rfl)) ?_ | refine lw_pu (wan_none rfl) (pu_load rfl (hc3)) (by (simp only [setD, List.set_cons_succ, List.set_cons_zero]; exact rfl)) ?_ | refine lw_pu (wan_none rfl) (pu_load rfl (hc4)) (by (simp only [setD, List.set_cons_succ, List.set_cons_zero]; exact rfl)) ?_ | refine lw_pu (wan_none rfl) (pu_load rfl (hp2)) (by (simp only [setD, List.set_cons_succ, List.set_cons_zero]; exact rfl)) ?_
    refine lw_pu (wan_none rfl) (pu_assign (by (simp only [ev, List.getD_cons_succ, List.getD_cons_zero]; exact rfl))) (by (simp only [setD, List.set_cons_succ, List.set_cons_zero]; exact rfl)) ?_
    refine lw_nil ?_; refine hK _ _ ?_; clear hK K
    refine tw_seq ?_
    refine tw_seq ?_
    refine tw_region (fun K hK => ?_)
    refine lw_pu (wan_none rfl) (pu_move (by (simp only [ev, List.getD_cons_succ, List.getD_cons_zero]; exact rfl))) (by (simp only [setD, List.set_cons_succ, List.set_cons_zero]; exact rfl)) ?_
    refine lw_pu (wan_none rfl) (pu_true (pu_neq_pt rfl rfl) (by simp)) (by (simp only [setD, List.set_cons_succ, List.set_cons_zero]; exact rfl)) ?_
    refine lw_nil ?_; refine hK _ _ ?_; clear hK K
    refine tw_cond_t rfl ?_
    refine tw_region (fun K hK => ?_)
    refine lw_pu (wan_none rfl) (pu_move (by (simp only [ev, List.getD_cons_succ, List.getD_cons_zero]; exact rfl))) (by (simp only [setD, List.set_cons_succ, List.set_cons_zero]; exact rfl)) ?_
    refine lw_pu (wan_none rfl) (pu_move (by (simp only [ev, List.getD_cons_succ, List.getD_cons_zero]; exact rfl))) (by (simp only [setD, List.set_cons_succ, List.set_cons_zero]; exact rfl)) ?_
    refine lw_pu (wan_none rfl) (pu_nilCheck_p rfl) (by (simp only [setD, List.set_cons_succ, List.set_cons_zero]; exact rfl)) ?_
    refine lw_pu (wan_none rfl) (pu_fieldAddr rfl (by exact fun w => siz _ w)) (by (simp only [setD, List.set_cons_succ, List.set_cons_zero]; exact rfl)) ?_
    refine lw_store_nd (nn := { σ l with nxt := some c }) (wan_none rfl) rfl (by (simp only [ev, List.getD_cons_succ, List.getD_cons_zero]; exact rfl)) rfl hm (hl l hlst) (by decide) rfl (by (simp only [setD, List.set_cons_succ, List.set_cons_zero]; exact rfl)) ?_; clear hm; intro h hm
    refine lw_nil ?_; refine hK _ _ ?_; clear hK K
    refine tw_seq ?_
    refine tw_region (fun K hK => ?_)
    refine lw_pu (wan_none rfl) (pu_move (by (simp only [ev, List.getD_cons_succ, List.getD_cons_zero]; exact rfl))) (by (simp only [setD, List.set_cons_succ, List.set_cons_zero]; exact rfl)) ?_
    refine lw_pu (wan_none rfl) (pu_move (by (simp only [ev, List.getD_cons_succ, List.getD_cons_zero]; exact rfl))) (by (simp only [setD, List.set_cons_succ, List.set_cons_zero]; exact rfl)) ?_
    refine lw_pu (wan_none rfl) (pu_nilCheck_p rfl) (by (simp only [setD, List.set_cons_succ, List.set_cons_zero]; exact rfl)) ?_
    refine lw_pu (wan_none rfl) (pu_fieldAddr rfl (by exact fun w => siz _ w)) (by (simp only [setD, List.set_cons_succ, List.set_cons_zero]; exact rfl)) ?_
    refine lw_store_nd (nn := { (upd σ l { σ l with nxt := some c }) p with lst := some c }) (wan_none rfl) rfl (by (simp only [ev, List.getD_cons_succ, List.getD_cons_zero]; exact rfl)) rfl hm hp (by decide) rfl (by (simp only [setD, List.set_cons_succ, List.set_cons_zero]; exact rfl)) ?_; clear hm; intro h hm
    refine lw_nil ?_; refine hK _ _ ?_; clear hK K
    refine tw_seq ?_
    refine tw_region (fun K hK => ?_)
    refine lw_pu (wan_none rfl) (pu_move (by (simp only [ev, List.getD_cons_succ, List.getD_cons_zero]; exact rfl))) (by (simp only [setD, List.set_cons_succ, List.set_cons_zero]; exact rfl)) ?_
    refine lw_pu (wan_none rfl) (pu_move (by (simp only [ev, List.getD_cons_succ, List.getD_cons_zero]; exact rfl))) (by (simp only [setD, List.set_cons_succ, List.set_cons_zero]; exact rfl)) ?_
    refine lw_pu (wan_none rfl) (pu_nilCheck_p rfl) (by (simp only [setD, List.set_cons_succ, List.set_cons_zero]; exact rfl)) ?_
    refine lw_pu (wan_none rfl) (pu_fieldAddr rfl (by exact fun w => siz _ w)) (by (simp only [setD, List.set_cons_succ, List.set_cons_zero]; exact rfl)) ?_
    refine lw_store_nd (nn := { (upd (upd σ l { σ l with nxt := some c }) p { (upd σ l { σ l with nxt := some c }) p with lst := some c }) c with par := some p }) (wan_none rfl) rfl (by (simp only [ev, List.getD_cons_succ, List.getD_cons_zero]; exact rfl)) rfl hm hc (by decide) rfl (by (simp only [setD, List.set_cons_succ, List.set_cons_zero]; exact rfl)) ?_; clear hm; intro h hm
    refine lw_nil ?_; refine hK _ _ ?_; clear hK K
    refine tw_region (fun K hK => ?_)
    refine lw_pu (wan_none rfl) (pu_move (by (simp only [ev, List.getD_cons_succ, List.getD_cons_zero]; exact rfl))) (by (simp only [setD, List.set_cons_succ, List.set_cons_zero]; exact rfl)) ?_
    refine lw_pu (wan_none rfl) (pu_move (by (simp only [ev, List.getD_cons_succ, List.getD_cons_zero]; exact rfl))) (by (simp only [setD, List.set_cons_succ, List.set_cons_zero]; exact rfl)) ?_
    refine lw_pu (wan_none rfl) (pu_nilCheck_p rfl) (by (simp only [setD, List.set_cons_succ, List.set_cons_zero]; exact rfl)) ?_
    refine lw_pu (wan_none rfl) (pu_fieldAddr rfl (by exact fun w => siz _ w)) (by (simp only [setD, List.set_cons_succ, List.set_cons_zero]; exact rfl)) ?_
    refine lw_store_nd (nn := { (upd (upd (upd σ l { σ l with nxt := some c }) p { (upd σ l { σ l with nxt := some c }) p with lst := some c }) c { (upd (upd σ l { σ l with nxt := some c }) p { (upd σ l { σ l with nxt := some c }) p with lst := some c }) c with par := some p }) c with prv := some l }) (wan_none rfl) rfl (by (simp only [ev, List.getD_cons_succ, List.getD_cons_zero]; exact rfl)) rfl hm hc (by decide) rfl (by (simp only [setD, List.set_cons_succ, List.set_cons_zero]; exact rfl)) ?_; clear hm; intro h hm
    refine lw_nil ?_; refine hK _ _ ?_; clear hK K
    refine tw_end0 Try.func123 Try.results123 ?_
    rotate_left 1
    -- left: end
    unfold app
    rw [hlst]
    exact hm

/-! The nodes as they lie in memory, whoever owns them. -/
def Nds (h : Array Obj) (σ : Nat → HN) (ids : List Nat) : Prop := ∀ b ∈ ids, h[b]? = some (.cells (σ b).cells.toArray 133 (0, 0))
theorem Nds.of_mem {h0 h : Array Obj} {M R : List Blk} {σ : Nat → HN} {ids : List Nat} (hm : Mem h0 h M (blks σ ids ++ R)) : Nds h σ ids := fun _ hb => hm.at_ _ (nd_mem hb)
theorem Nds.ext {h h' : Array Obj} {σ : Nat → HN} {ids : List Nat} (hn : Nds h σ ids) (he : Ext h h') : Nds h' σ ids := fun b hb => by
  have h1 := hn b hb
  rw [he.2 b (Array.getElem?_eq_some_iff.1 h1).1]
  exact h1
theorem Nds.cell {h : Array Obj} {σ : Nat → HN} {ids : List Nat} (hn : Nds h σ ids) {b k : Nat} {v : Value} (hb : b ∈ ids) (hk : (σ b).cells[k]? = some v) : K.cell h ⟨b, k, none⟩ = some v := by
  unfold K.cell
  rw [hn b hb]
  simpa using hk

/-- A new node. -/
theorem Mem.node {h0 h : Array Obj} {M R : List Blk} {σ : Nat → HN} {ids : List Nat} {b : Nat} {n : HN} (hm : Mem h0 h M ((b, n.cells, 133) :: (blks σ ids ++ R))) : b ∉ ids ∧ Mem h0 h M (blks (upd σ b n) (b :: ids) ++ R) := by
  have hb : b ∉ ids := fun hb => by
    have h1 := hm.nodup
    rw [List.map_append, List.nodup_append, List.map_cons, List.nodup_cons] at h1
    exact h1.2.1.1 (List.mem_map.2 ⟨(b, (σ b).cells, 133), List.mem_append_left _ (List.mem_map.2 ⟨b, hb, rfl⟩), rfl⟩)
  refine ⟨hb, ?_⟩
  have h1 : blks (upd σ b n) ids = blks σ ids := List.map_congr_left fun y hy => by
    have : y ≠ b := fun e => hb (e ▸ hy)
    rw [upd_other this]
  have h2 : blks (upd σ b n) (b :: ids) = (b, n.cells, 133) :: blks σ ids := by
    rw [← h1]
    simp only [blks, List.map_cons, upd_same]
  rw [h2]
  exact hm

/-! AppendChild, field by field. -/
theorem upd_f {α : Type} (f : HN → α) (σ : Nat → HN) (b x : Nat) (n : HN) : f (upd σ b n x) = if x = b then f n else f (σ x) := by
  unfold upd
  split <;> rfl
theorem app_par (σ : Nat → HN) (p c x : Nat) : (app σ p c x).par = if x = c then some p else (σ x).par := by
  cases hl : (σ p).lst with
  | none =>
    simp only [app, hl, upd_f HN.par]
    by_cases h1 : x = c <;> by_cases h2 : x = p <;> by_cases h3 : c = p <;> simp_all
  | some l =>
    simp only [app, hl, upd_f HN.par]
    by_cases h1 : x = c <;> by_cases h2 : x = p <;> by_cases h3 : c = p <;> by_cases h4 : x = l <;> by_cases h5 : c = l <;> by_cases h6 : p = l <;> simp_all
theorem app_lst (σ : Nat → HN) (p c x : Nat) : (app σ p c x).lst = if x = p then some c else (σ x).lst := by
  cases hl : (σ p).lst with
  | none =>
    simp only [app, hl, upd_f HN.lst]
    by_cases h1 : x = c <;> by_cases h2 : x = p <;> by_cases h3 : c = p <;> simp_all
  | some l =>
    simp only [app, hl, upd_f HN.lst]
    by_cases h1 : x = c <;> by_cases h2 : x = p <;> by_cases h3 : c = p <;> by_cases h4 : x = l <;> by_cases h5 : c = l <;> by_cases h6 : p = l <;> simp_all
theorem app_prv (σ : Nat → HN) (p c x : Nat) : (app σ p c x).prv = if x = c then (σ p).lst else (σ x).prv := by
  cases hl : (σ p).lst with
  | none =>
    simp only [app, hl, upd_f HN.prv]
    by_cases h1 : x = c <;> by_cases h2 : x = p <;> by_cases h3 : c = p <;> simp_all
  | some l =>
    simp only [app, hl, upd_f HN.prv]
    by_cases h1 : x = c <;> by_cases h2 : x = p <;> by_cases h3 : c = p <;> by_cases h4 : x = l <;> by_cases h5 : c = l <;> by_cases h6 : p = l <;> simp_all
theorem app_fst (σ : Nat → HN) (p c x : Nat) : (app σ p c x).fst = if x = p ∧ (σ p).lst = none then some c else (σ x).fst := by
  cases hl : (σ p).lst with
  | none =>
    simp only [app, hl, upd_f HN.fst]
    by_cases h1 : x = c <;> by_cases h2 : x = p <;> by_cases h3 : c = p <;> simp_all
  | some l =>
    simp only [app, hl, upd_f HN.fst]
    by_cases h1 : x = c <;> by_cases h2 : x = p <;> by_cases h3 : c = p <;> by_cases h4 : x = l <;> by_cases h5 : c = l <;> by_cases h6 : p = l <;> simp_all
theorem app_nxt (σ : Nat → HN) (p c x : Nat) : (app σ p c x).nxt = if some x = (σ p).lst then some c else (σ x).nxt := by
  cases hl : (σ p).lst with
  | none =>
    simp only [app, hl, upd_f HN.nxt]
    by_cases h1 : x = c <;> by_cases h2 : x = p <;> by_cases h3 : c = p <;> simp_all
  | some l =>
    simp only [app, hl, upd_f HN.nxt]
    by_cases h1 : x = c <;> by_cases h2 : x = p <;> by_cases h3 : c = p <;> by_cases h4 : x = l <;> by_cases h5 : c = l <;> by_cases h6 : p = l <;> simp_all
theorem app_typ (σ : Nat → HN) (p c x : Nat) : (app σ p c x).typ = (σ x).typ := by
  cases hl : (σ p).lst with
  | none =>
    simp only [app, hl, upd_f HN.typ]
    by_cases h1 : x = c <;> by_cases h2 : x = p <;> by_cases h3 : c = p <;> simp_all
  | some l =>
    simp only [app, hl, upd_f HN.typ]
    by_cases h1 : x = c <;> by_cases h2 : x = p <;> by_cases h3 : c = p <;> by_cases h4 : x = l <;> by_cases h5 : c = l <;> by_cases h6 : p = l <;> simp_all
theorem app_atm (σ : Nat → HN) (p c x : Nat) : (app σ p c x).atm = (σ x).atm := by
  cases hl : (σ p).lst with
  | none =>
    simp only [app, hl, upd_f HN.atm]
    by_cases h1 : x = c <;> by_cases h2 : x = p <;> by_cases h3 : c = p <;> simp_all
  | some l =>
    simp only [app, hl, upd_f HN.atm]
    by_cases h1 : x = c <;> by_cases h2 : x = p <;> by_cases h3 : c = p <;> by_cases h4 : x = l <;> by_cases h5 : c = l <;> by_cases h6 : p = l <;> simp_all
theorem app_dat (σ : Nat → HN) (p c x : Nat) : (app σ p c x).dat = (σ x).dat := by
  cases hl : (σ p).lst with
  | none =>
    simp only [app, hl, upd_f HN.dat]
    by_cases h1 : x = c <;> by_cases h2 : x = p <;> by_cases h3 : c = p <;> simp_all
  | some l =>
    simp only [app, hl, upd_f HN.dat]
    by_cases h1 : x = c <;> by_cases h2 : x = p <;> by_cases h3 : c = p <;> by_cases h4 : x = l <;> by_cases h5 : c = l <;> by_cases h6 : p = l <;> simp_all
theorem app_nsp (σ : Nat → HN) (p c x : Nat) : (app σ p c x).nsp = (σ x).nsp := by
  cases hl : (σ p).lst with
  | none =>
    simp only [app, hl, upd_f HN.nsp]
    by_cases h1 : x = c <;> by_cases h2 : x = p <;> by_cases h3 : c = p <;> simp_all
  | some l =>
    simp only [app, hl, upd_f HN.nsp]
    by_cases h1 : x = c <;> by_cases h2 : x = p <;> by_cases h3 : c = p <;> by_cases h4 : x = l <;> by_cases h5 : c = l <;> by_cases h6 : p = l <;> simp_all
theorem app_aq (σ : Nat → HN) (p c x : Nat) : (app σ p c x).aq = (σ x).aq := by
  cases hl : (σ p).lst with
  | none =>
    simp only [app, hl, upd_f HN.aq]
    by_cases h1 : x = c <;> by_cases h2 : x = p <;> by_cases h3 : c = p <;> simp_all
  | some l =>
    simp only [app, hl, upd_f HN.aq]
    by_cases h1 : x = c <;> by_cases h2 : x = p <;> by_cases h3 : c = p <;> by_cases h4 : x = l <;> by_cases h5 : c = l <;> by_cases h6 : p = l <;> simp_all
theorem app_an (σ : Nat → HN) (p c x : Nat) : (app σ p c x).an = (σ x).an := by
  cases hl : (σ p).lst with
  | none =>
    simp only [app, hl, upd_f HN.an]
    by_cases h1 : x = c <;> by_cases h2 : x = p <;> by_cases h3 : c = p <;> simp_all
  | some l =>
    simp only [app, hl, upd_f HN.an]
    by_cases h1 : x = c <;> by_cases h2 : x = p <;> by_cases h3 : c = p <;> by_cases h4 : x = l <;> by_cases h5 : c = l <;> by_cases h6 : p = l <;> simp_all
theorem app_ac (σ : Nat → HN) (p c x : Nat) : (app σ p c x).ac = (σ x).ac := by
  cases hl : (σ p).lst with
  | none =>
    simp only [app, hl, upd_f HN.ac]
    by_cases h1 : x = c <;> by_cases h2 : x = p <;> by_cases h3 : c = p <;> simp_all
  | some l =>
    simp only [app, hl, upd_f HN.ac]
    by_cases h1 : x = c <;> by_cases h2 : x = p <;> by_cases h3 : c = p <;> by_cases h4 : x = l <;> by_cases h5 : c = l <;> by_cases h6 : p = l <;> simp_all

/-- The kids of a node, in order. -/
structure Kin (σ : Nat → HN) (p : Nat) (l : List Nat) : Prop where
  fst : (σ p).fst = l[0]?
  lst : (σ p).lst = l[l.length - 1]?
  par : ∀ (i b : Nat), l[i]? = some b → (σ b).par = some p
  nxt : ∀ (i b : Nat), l[i]? = some b → (σ b).nxt = l[i + 1]?
  prv : ∀ (i b : Nat), l[i]? = some b → (σ b).prv = if i = 0 then none else l[i - 1]?
theorem Kin.app {σ : Nat → HN} {p c : Nat} {l : List Nat} (hk : Kin σ p l) (hc : c ∉ l) (hn : l.Nodup) (h3 : (σ c).nxt = none) : Kin (app σ p c) p (l ++ [c]) := by
  have hlast : ∀ (i b : Nat), l[i]? = some b → (some b = (σ p).lst ↔ i = l.length - 1) := fun i b hb => by
    rw [hk.lst, ← hb]
    have hi := (List.getElem?_eq_some_iff.1 hb).1
    constructor
    · intro he
      rw [List.getElem?_eq_getElem hi, List.getElem?_eq_getElem (by omega)] at he
      exact (List.getElem_inj hn).1 (Option.some.inj he)
    · rintro rfl
      rfl
  have hcl : some c ≠ (σ p).lst := fun he => by
    rw [hk.lst] at he
    exact hc (List.mem_of_getElem? he.symm)
  have split : ∀ (i b : Nat), (l ++ [c])[i]? = some b → (l[i]? = some b ∧ i < l.length ∧ b ≠ c) ∨ (i = l.length ∧ b = c) := fun i b hb => by
    rcases Nat.lt_or_ge i l.length with hi | hi
    · rw [List.getElem?_append_left hi] at hb
      exact .inl ⟨hb, hi, fun e => hc (e ▸ List.mem_of_getElem? hb)⟩
    · rw [List.getElem?_append_right hi] at hb
      have h4 : i - l.length = 0 := by
        have := (List.getElem?_eq_some_iff.1 hb).1
        simp at this
        omega
      rw [h4] at hb
      simp at hb
      exact .inr ⟨by omega, hb.symm⟩
  refine ⟨?_, ?_, fun i b hb => ?_, fun i b hb => ?_, fun i b hb => ?_⟩
  · rw [app_fst, hk.lst, hk.fst]
    cases l with
    | nil => simp
    | cons a l => simp
  · rw [app_lst]
    simp
  · rw [app_par]
    rcases split i b hb with ⟨h1, _, h2⟩ | ⟨_, h2⟩
    · rw [if_neg h2]; exact hk.par i b h1
    · rw [if_pos h2]
  · rw [app_nxt]
    rcases split i b hb with ⟨h1, hi, h2⟩ | ⟨hi, h2⟩
    · by_cases h4 : i = l.length - 1
      · rw [if_pos ((hlast i b h1).2 h4), List.getElem?_append_right (by omega), show i + 1 - l.length = 0 by omega]
        rfl
      · rw [if_neg (fun e => h4 ((hlast i b h1).1 e)), hk.nxt i b h1, List.getElem?_append_left (by omega)]
    · subst h2
      rw [if_neg hcl, h3, List.getElem?_eq_none (by simp; omega)]
  · rw [app_prv]
    rcases split i b hb with ⟨h1, hi, h2⟩ | ⟨hi, h2⟩
    · rw [if_neg h2, hk.prv i b h1]
      split
      · rfl
      · rw [List.getElem?_append_left (by omega)]
    · rw [if_pos h2, hk.lst, hi]
      split
      · rename_i h5
        rw [h5, List.getElem?_eq_none (by omega)]
      · rw [List.getElem?_append_left (by omega)]
/-- The kids of another node stay. -/
theorem Kin.keep {σ : Nat → HN} {p c q : Nat} {l : List Nat} (hk : Kin σ q l) (hq : q ≠ p) (hc : c ∉ l) (hl : ∀ x, (σ p).lst = some x → x ∉ l) : Kin (HTree.app σ p c) q l := by
  have hb : ∀ (i b : Nat), l[i]? = some b → b ≠ c ∧ some b ≠ (σ p).lst := fun i b h => ⟨fun e => hc (e ▸ List.mem_of_getElem? h), fun e => hl b e.symm (List.mem_of_getElem? h)⟩
  refine ⟨?_, ?_, fun i b h => ?_, fun i b h => ?_, fun i b h => ?_⟩
  · rw [app_fst, if_neg (fun e => hq e.1)]; exact hk.fst
  · rw [app_lst, if_neg hq]; exact hk.lst
  · rw [app_par, if_neg (hb i b h).1]; exact hk.par i b h
  · rw [app_nxt, if_neg (hb i b h).2]; exact hk.nxt i b h
  · rw [app_prv, if_neg (hb i b h).1]; exact hk.prv i b h
end Go.Proofs.Ytnggneccdekofaa.HTree
