/-
  What is known of the package's variables: an error, and a map of names.
-/
import Derived.Test.YtpedmnlpccngiaaDoorKArg
import Derived.Test.YtpedmnlpccngiaaDoorRows
set_option linter.unusedVariables false
set_option linter.unusedSimpArgs false
namespace Go.Proofs.YtpedmnlpccngiaaDoor.V
open Go

/-- What a package's variable holds: an error; a map of texts, each of which is true. -/
inductive GV | er | mp (l : List (List UInt8))
def voidD : List (Lit × DataW Unit) := match (Rows.laid_given_example_pub_bosquet_pub_net_html_voidElements : DataW Unit) with
  | .map es => es
  | _ => []
def voids : List (List UInt8) := voidD.filterMap fun x => match x.1 with
  | .string b => some b
  | _ => none
def GT : Nat → Option GV
  | 2 => some .er
  | 3 => some (.mp voids)
  | _ => none
/-- What is so of the memory that nobody changes: it holds what was laid at the start. -/
def Gl (m : Nat → Option Obj) : Prop := ∃ w : World, (∀ b o, w.heap[b]? = some o → m b = some o) ∧ laidMetH Tryd.prog Rows.fnRenderedRow.laid w
theorem Gl.mono {m m' : Nat → Option Obj} (h : Gl m) (hm : ∀ b o, m b = some o → m' b = some o) : Gl m' := by
  obtain ⟨w, h1, h2⟩ := h
  exact ⟨w, fun b o hb => hm b o (h1 b o hb), h2⟩
def GOK (m : Nat → Option Obj) (g : Nat) : GV → Prop
  | .er => ∃ T z u v, m g = some (.cells #[.iface u v] T z)
  | .mp l => ∃ T z b es c, m g = some (.cells #[.map (some b)] T z) ∧ m b = some (.map es c) ∧ (∀ x ∈ es.toList, ∃ k ∈ l, x.key = .string ⟨k.toArray⟩ ∧ x.val = .bool true) ∧ ∀ k ∈ l, ∃ x ∈ es.toList, x.key = .string ⟨k.toArray⟩
section
variable {P : Program} {w : World}
theorem laid_at : ∀ {l : List (String × DataW Unit)} {ps : List MemPlace} {i : Nat} {n : String} {d : DataW Unit}, DataW.LaidVars P w l ps → l[i]? = some (n, d) →
    ∃ g t cs fuel p, P.globalNamed n = some g ∧ (P.globals[g]?).map (·.type) = some t ∧ w.var? P n = some cs ∧ DataW.trod (fun _ => ()) P w 0 (fun _ => true) false fuel t cs.toList = some (d, p)
  | [], _, _, _, _, _, hi => by simp at hi
  | (n0, d0) :: l, ps, i, n, d, h, hi => by
    obtain ⟨g, t, cs, fuel, p, q, h1, h2, h3, h4, h5, _⟩ := h
    match i with
    | 0 =>
      obtain ⟨rfl, rfl⟩ : n0 = n ∧ d0 = d := by simpa using hi
      exact ⟨g, t, cs, fuel, p, h1, h2, h3, h4⟩
    | i + 1 => exact laid_at h5 (by simpa using hi)
theorem var_cells {n : String} {g : Nat} {cs : Array Value} (h : w.var? P n = some cs) (hg : P.globalNamed n = some g) : ∃ T z, w.heap[g]? = some (.cells cs T z) := by
  unfold World.var? at h
  rw [hg] at h
  simp only [Option.bind_some] at h
  split at h
  · rename_i c T z hc
    cases h
    exact ⟨T, z, hc⟩
  · cases h
theorem trod_iface {fuel : Nat} {t : TypeId} {ms : Array (String × TypeId)} {cs : List Value} {nm : String} {d : DataW Unit} {p : List MemPlace} (hu : P.underlying t = some (.interface ms)) (h : DataW.trod (fun _ => ()) P w 0 (fun _ => true) false fuel t cs = some (.iface nm d, p)) : ∃ u v, cs = [.iface u v] := by
  cases fuel with
  | zero => simp [DataW.trod] at h
  | succ fuel =>
    unfold DataW.trod at h
    rw [hu] at h
    split at h <;> first | exact ⟨_, _, rfl⟩ | (rename_i hx; cases hx) | skip
    all_goals first | (cases h; done) | simp_all
theorem mapM_mem {α β : Type} {f : α → Option β} : ∀ {l : List α} {ys : List β}, l.mapM f = some ys → (∀ x ∈ l, ∃ y ∈ ys, f x = some y) ∧ ∀ y ∈ ys, ∃ x ∈ l, f x = some y
  | [], ys, h => by
    simp at h
    subst h
    exact ⟨fun x hx => (by cases hx), fun y hy => (by cases hy)⟩
  | a :: l, ys, h => by
    rw [List.mapM_cons] at h
    obtain ⟨y, hy, h⟩ := Option.bind_eq_some_iff.1 h
    obtain ⟨zs, hz, h⟩ := Option.bind_eq_some_iff.1 h
    cases h
    obtain ⟨h1, h2⟩ := mapM_mem hz
    refine ⟨fun x hx => ?_, fun x hx => ?_⟩
    · rcases List.mem_cons.1 hx with rfl | hx
      · exact ⟨y, by simp, hy⟩
      · obtain ⟨b, q1, q2⟩ := h1 x hx
        exact ⟨b, by simp [q1], q2⟩
    · rcases List.mem_cons.1 hx with rfl | hx
      · exact ⟨a, by simp, hy⟩
      · obtain ⟨b, q1, q2⟩ := h2 x hx
        exact ⟨b, by simp [q1], q2⟩
theorem mem_insert {H : Type} {x y : Lit × DataW H} : ∀ {l : List (Lit × DataW H)}, y ∈ DataW.insert x l ↔ y = x ∨ y ∈ l
  | [] => by simp [DataW.insert]
  | z :: l => by
    simp only [DataW.insert]
    split
    · simp
    · rw [List.mem_cons, mem_insert (l := l), List.mem_cons]
      constructor
      · rintro (h | h | h)
        · exact .inr (.inl h)
        · exact .inl h
        · exact .inr (.inr h)
      · rintro (h | h | h)
        · exact .inr (.inl h)
        · exact .inl h
        · exact .inr (.inr h)
theorem mem_sorted {H : Type} {y : Lit × DataW H} : ∀ {l : List (Lit × DataW H)}, y ∈ l.foldr DataW.insert [] ↔ y ∈ l
  | [] => by simp
  | z :: l => by rw [List.foldr_cons, mem_insert, mem_sorted (l := l), List.mem_cons]
theorem trod_map {fuel : Nat} {t k e : TypeId} {cs : List Value} {ents : List (Lit × DataW Unit)} {p : List MemPlace} (hu : P.underlying t = some (.map k e)) (h : DataW.trod (fun _ => ()) P w 0 (fun _ => true) false fuel t cs = some (.map ents, p)) :
    ∃ b es c, cs = [.map (some b)] ∧ w.heap[b]? = some (.map es c) ∧ (∀ x ∈ es.toList, ∃ y ∈ ents, keyOf P k x.key = some y.1 ∧ x.val.formed P e = true ∧ ∃ fuel q, DataW.trod (fun _ => ()) P w 0 (fun _ => true) false fuel e x.val.cells.toList = some (y.2, q)) ∧ ∀ y ∈ ents, ∃ x ∈ es.toList, keyOf P k x.key = some y.1 := by
  cases fuel with
  | zero => simp [DataW.trod] at h
  | succ fuel =>
    unfold DataW.trod at h
    rw [hu] at h
    split at h
    all_goals first
      | (rename_i hx; cases hx; done)
      | (cases h; done)
      | skip
    rename_i k0 e0 b hx
    cases hx
    split at h
    · rename_i es c hb
      split at h
      · obtain ⟨en, h1, h⟩ := Option.bind_eq_some_iff.1 h
        simp only at h
        split at h
        · cases h
          obtain ⟨m1, m2⟩ := mapM_mem h1
          refine ⟨b, es, c, rfl, hb, fun x hx => ?_, fun y hy => ?_⟩
          · obtain ⟨y, hy, hxy⟩ := m1 x hx
            obtain ⟨key, hk, hxy⟩ := Option.bind_eq_some_iff.1 hxy
            split at hxy
            · rename_i hf
              obtain ⟨z, hz, rfl⟩ := Option.map_eq_some_iff.1 hxy
              exact ⟨(key, z.1), mem_sorted.2 (List.mem_map.2 ⟨_, hy, rfl⟩), hk, hf, _, _, hz⟩
            · cases hxy
          · obtain ⟨z, hz, rfl⟩ := List.mem_map.1 (mem_sorted.1 hy)
            obtain ⟨x, hx, hxy⟩ := m2 z hz
            obtain ⟨key, hk, hxy⟩ := Option.bind_eq_some_iff.1 hxy
            split at hxy
            · obtain ⟨q, hq, rfl⟩ := Option.map_eq_some_iff.1 hxy
              exact ⟨x, hx, hk⟩
            · cases hxy
        · cases h
      · cases h
    · cases h
theorem trod_bool {fuel : Nat} {t : TypeId} {cs : List Value} {b : Bool} {p : List MemPlace} (hu : P.underlying t = some .bool) (h : DataW.trod (fun _ => ()) P w 0 (fun _ => true) false fuel t cs = some (.lit (.bool b), p)) : cs = [.bool b] := by
  cases fuel with
  | zero => simp [DataW.trod] at h
  | succ fuel =>
    unfold DataW.trod at h
    rw [hu] at h
    split at h
    all_goals first
      | (rename_i hx; cases hx; done)
      | (cases h; rfl)
      | (cases h; done)
      | skip
theorem key_str {k : TypeId} {v : Value} {b : List UInt8} (hu : P.underlying k = some .string) (h : keyOf P k v = some (.string b)) : v = .string ⟨b.toArray⟩ := by
  unfold keyOf at h
  rw [hu] at h
  simp only [mapKey, hu] at h
  split at h
  all_goals first
    | (rename_i hx; cases hx; done)
    | skip
  all_goals first
    | (split at h
       · cases h
         simp
       · cases h)
    | (cases h; done)
    | skip
theorem formed_bool {e : TypeId} {v : Value} {b : Bool} (hu : P.underlying e = some .bool) (hf : v.formed P e = true) (h : v.cells.toList = [.bool b]) : v = .bool b := by
  cases v <;> simp_all [Value.formed, Value.cells]
end
theorem voids_ok : (voidD.all fun x => match x with
  | (.string _, .lit (.bool true)) => true
  | _ => false) = true := by decide +kernel
theorem void_at {y : Lit × DataW Unit} (h : y ∈ voidD) : ∃ b, y = (.string b, .lit (.bool true)) ∧ b ∈ voids := by
  have h1 := List.all_eq_true.1 voids_ok y h
  split at h1
  · rename_i b
    exact ⟨b, rfl, List.mem_filterMap.2 ⟨_, h, rfl⟩⟩
  · cases h1
theorem void_of {b : List UInt8} (h : b ∈ voids) : (Lit.string b, (DataW.lit (.bool true) : DataW Unit)) ∈ voidD := by
  obtain ⟨y, hy, h1⟩ := List.mem_filterMap.1 h
  obtain ⟨b', rfl, _⟩ := void_at hy
  cases h1
  exact hy
theorem arr_one {cs : Array Value} {v : Value} (h : cs.toList = [v]) : cs = #[v] := Array.ext' h
set_option maxRecDepth 100000 in
theorem gl_ok {m : Nat → Option Obj} {g : Nat} {v : GV} (hg : Gl m) (h : GT g = some v) : GOK m g v := by
  obtain ⟨w, hw, hl⟩ := hg
  have hf : (Rows.fnRenderedRow.laid.filter fun x => x.2.handleName?.isSome) = [] := by kernel_rfl
  unfold laidMetH at hl
  rw [hf] at hl
  obtain ⟨ps, hv, _⟩ := hl
  unfold GT at h
  split at h
  · cases h
    obtain ⟨g, t, cs, fuel, p, h1, h2, h3, h4⟩ := laid_at (i := 1) hv rfl
    obtain rfl : g = 2 := Option.some.inj (h1.symm.trans (by kernel_rfl))
    obtain rfl : t = 41 := Option.some.inj (h2.symm.trans (by kernel_rfl))
    obtain ⟨u, v, e⟩ := trod_iface Tryd.underlying41 h4
    obtain ⟨T, z, hc⟩ := var_cells h3 h1
    rw [arr_one e] at hc
    exact ⟨T, z, u, v, hw _ _ hc⟩
  · cases h
    obtain ⟨g, t, cs, fuel, p, h1, h2, h3, h4⟩ := laid_at (i := 2) hv rfl
    obtain rfl : g = 3 := Option.some.inj (h1.symm.trans (by kernel_rfl))
    obtain rfl : t = 119 := Option.some.inj (h2.symm.trans (by kernel_rfl))
    obtain ⟨b, es, c, e, hb, k1, k2⟩ := trod_map (ents := voidD) Tryd.underlying119 h4
    obtain ⟨T, z, hc⟩ := var_cells h3 h1
    rw [arr_one e] at hc
    refine ⟨T, z, b, es, c, hw _ _ hc, hw _ _ hb, fun x hx => ?_, fun k hk => ?_⟩
    · obtain ⟨y, hy, q1, q2, fu, q, q3⟩ := k1 x hx
      obtain ⟨b', rfl, hb'⟩ := void_at hy
      exact ⟨b', hb', key_str Tryd.underlying9 q1, formed_bool Tryd.underlying4 q2 (trod_bool Tryd.underlying4 q3)⟩
    · obtain ⟨x, hx, q1⟩ := k2 _ (void_of hk)
      exact ⟨x, hx, key_str Tryd.underlying9 q1⟩
  · cases h
end Go.Proofs.YtpedmnlpccngiaaDoor.V
