/-
  Plain facts and an evaluator for what a law needs.
-/
import Derived.Test.YtfjhibplplcjjaaGreatProg
import Derived.Test.YtfjhibplplcjjaaGreatQ3
set_option linter.unusedVariables false
set_option linter.unusedSimpArgs false
namespace Go.Proofs.YtfjhibplplcjjaaGreat.V
open Go Go.Proofs
theorem tiok {P : Program} {T : TypeId} {t : TI} {i : TypeInfo} (u : UndOK P T t.sh) (s : ∀ w, (sizeOf T).run P w = .ok t.size w) (a : ∀ w, (isAgg T).run P w = .ok t.agg w) (z : ∀ w, (zeroValue T).run P w = .ok t.zv w) (c : t.zv.cells.size = t.size) (f : ∀ w, (typeInfo T).run P w = .ok i w) (b : i.bytes = t.bytes) (e : t.el = some .attr → AttrEq P T) : TIok P T t := ⟨u, s, a, z, c, ⟨i, f, b⟩, e⟩
def TbAll (P : Program) : Nat → List (Option TI) → Prop
  | _, [] => True
  | k, none :: l => TbAll P (k + 1) l
  | k, some t :: l => TIok P k t ∧ TbAll P (k + 1) l
theorem tb_of {P : Program} : ∀ {l : List (Option TI)} {k : Nat}, TbAll P k l → ∀ (T : Nat) (t : TI), l[T]? = some (some t) → TIok P (k + T) t
  | [], _, _, T, t, h => by simp at h
  | none :: l, k, hl, T, t, h => by
    match T with
    | 0 => simp at h
    | T + 1 =>
      have := tb_of (k := k + 1) hl T t (by simpa using h)
      rwa [Nat.add_assoc, Nat.add_comm 1 T] at this
  | some t0 :: l, k, hl, T, t, h => by
    match T with
    | 0 => simp at h; subst h; exact hl.1
    | T + 1 =>
      have := tb_of (k := k + 1) hl.2 T t (by simpa using h)
      rwa [Nat.add_assoc, Nat.add_comm 1 T] at this
noncomputable def i0 : TI := ⟨.other, 1, Bool.false, (Value.tuple #[]), 0, none⟩
theorem k0 : TIok Tryz.prog 0 i0 := tiok (by exact trivial) Tryz.sizeOf0 Tryz.isAgg0 Tryz.zeroValue0 rfl Tryz.typeInfo0 rfl (fun h => by have h' : (none : Option E) = some .attr := h; cases h')
noncomputable def i1 : TI := ⟨.func, 1, Bool.false, Value.nilFunc, 8, none⟩
theorem k1 : TIok Tryz.prog 1 i1 := tiok (by exact ⟨_, _, _, Tryz.underlying1⟩) Tryz.sizeOf1 Tryz.isAgg1 Tryz.zeroValue1 rfl Tryz.typeInfo1 rfl (fun h => by have h' : (none : Option E) = some .attr := h; cases h')
noncomputable def i2 : TI := ⟨.int .i64, 1, Bool.false, (Value.int IntKind.i64 0), 8, none⟩
theorem k2 : TIok Tryz.prog 2 i2 := tiok (by exact Tryz.underlying2) Tryz.sizeOf2 Tryz.isAgg2 Tryz.zeroValue2 rfl Tryz.typeInfo2 rfl (fun h => by have h' : (none : Option E) = some .attr := h; cases h')
noncomputable def i3 : TI := ⟨.int .i64, 1, Bool.false, (Value.int IntKind.i64 0), 8, some .int⟩
theorem k3 : TIok Tryz.prog 3 i3 := tiok (by exact Tryz.underlying3) Tryz.sizeOf3 Tryz.isAgg3 Tryz.zeroValue3 rfl Tryz.typeInfo3 rfl (fun h => by have h' : (some .int : Option E) = some .attr := h; cases h')
noncomputable def i4 : TI := ⟨.bool, 1, Bool.false, (Value.bool Bool.false), 1, some .bool⟩
theorem k4 : TIok Tryz.prog 4 i4 := tiok (by exact Tryz.underlying4) Tryz.sizeOf4 Tryz.isAgg4 Tryz.zeroValue4 rfl Tryz.typeInfo4 rfl (fun h => by have h' : (some .bool : Option E) = some .attr := h; cases h')
noncomputable def i5 : TI := ⟨.int .u8, 1, Bool.false, (Value.int IntKind.u8 0), 1, some .u8⟩
theorem k5 : TIok Tryz.prog 5 i5 := tiok (by exact Tryz.underlying5) Tryz.sizeOf5 Tryz.isAgg5 Tryz.zeroValue5 rfl Tryz.typeInfo5 rfl (fun h => by have h' : (some .u8 : Option E) = some .attr := h; cases h')
noncomputable def i6 : TI := ⟨.int .u8, 1, Bool.false, (Value.int IntKind.u8 0), 1, none⟩
theorem k6 : TIok Tryz.prog 6 i6 := tiok (by exact Tryz.underlying6) Tryz.sizeOf6 Tryz.isAgg6 Tryz.zeroValue6 rfl Tryz.typeInfo6 rfl (fun h => by have h' : (none : Option E) = some .attr := h; cases h')
noncomputable def i7 : TI := ⟨.struct [(2, 0), (3, 1), (4, 2), (6, 3)], 4, Bool.true, (Value.agg #[Value.int IntKind.i64 0, Value.int IntKind.i64 0, Value.bool Bool.false, Value.int IntKind.u8 0]), 24, none⟩
theorem k7 : TIok Tryz.prog 7 i7 := tiok (by exact ⟨_, Tryz.underlying7, rfl⟩) Tryz.sizeOf7 Tryz.isAgg7 Tryz.zeroValue7 rfl Tryz.typeInfo7 rfl (fun h => by have h' : (none : Option E) = some .attr := h; cases h')
noncomputable def i8 : TI := ⟨.struct [(2, 0), (3, 1), (4, 2), (6, 3)], 4, Bool.true, (Value.agg #[Value.int IntKind.i64 0, Value.int IntKind.i64 0, Value.bool Bool.false, Value.int IntKind.u8 0]), 24, none⟩
theorem k8 : TIok Tryz.prog 8 i8 := tiok (by exact ⟨_, Tryz.underlying8, rfl⟩) Tryz.sizeOf8 Tryz.isAgg8 Tryz.zeroValue8 rfl Tryz.typeInfo8 rfl (fun h => by have h' : (none : Option E) = some .attr := h; cases h')
noncomputable def i9 : TI := ⟨.str, 1, Bool.false, (Value.string { data := #[] }), 16, some .str⟩
theorem k9 : TIok Tryz.prog 9 i9 := tiok (by exact Tryz.underlying9) Tryz.sizeOf9 Tryz.isAgg9 Tryz.zeroValue9 rfl Tryz.typeInfo9 rfl (fun h => by have h' : (some .str : Option E) = some .attr := h; cases h')
noncomputable def i10 : TI := ⟨.str, 1, Bool.false, (Value.string { data := #[] }), 16, none⟩
theorem k10 : TIok Tryz.prog 10 i10 := tiok (by exact Tryz.underlying10) Tryz.sizeOf10 Tryz.isAgg10 Tryz.zeroValue10 rfl Tryz.typeInfo10 rfl (fun h => by have h' : (none : Option E) = some .attr := h; cases h')
noncomputable def i11 : TI := ⟨.str, 1, Bool.false, (Value.string { data := #[] }), 16, none⟩
theorem k11 : TIok Tryz.prog 11 i11 := tiok (by exact Tryz.underlying11) Tryz.sizeOf11 Tryz.isAgg11 Tryz.zeroValue11 rfl Tryz.typeInfo11 rfl (fun h => by have h' : (none : Option E) = some .attr := h; cases h')
noncomputable def i12 : TI := ⟨.int .u64, 1, Bool.false, (Value.int IntKind.u64 0), 8, none⟩
theorem k12 : TIok Tryz.prog 12 i12 := tiok (by exact Tryz.underlying12) Tryz.sizeOf12 Tryz.isAgg12 Tryz.zeroValue12 rfl Tryz.typeInfo12 rfl (fun h => by have h' : (none : Option E) = some .attr := h; cases h')
noncomputable def i13 : TI := ⟨.struct [(9, 0), (12, 1)], 2, Bool.true, (Value.agg #[Value.string { data := #[] }, Value.int IntKind.u64 0]), 24, none⟩
theorem k13 : TIok Tryz.prog 13 i13 := tiok (by exact ⟨_, Tryz.underlying13, rfl⟩) Tryz.sizeOf13 Tryz.isAgg13 Tryz.zeroValue13 rfl Tryz.typeInfo13 rfl (fun h => by have h' : (none : Option E) = some .attr := h; cases h')
noncomputable def i14 : TI := ⟨.struct [(9, 0), (12, 1)], 2, Bool.true, (Value.agg #[Value.string { data := #[] }, Value.int IntKind.u64 0]), 24, none⟩
theorem k14 : TIok Tryz.prog 14 i14 := tiok (by exact ⟨_, Tryz.underlying14, rfl⟩) Tryz.sizeOf14 Tryz.isAgg14 Tryz.zeroValue14 rfl Tryz.typeInfo14 rfl (fun h => by have h' : (none : Option E) = some .attr := h; cases h')
noncomputable def i15 : TI := ⟨.ptr 119, 1, Bool.false, (Value.pointer Option.none), 8, none⟩
theorem k15 : TIok Tryz.prog 15 i15 := tiok (by exact Tryz.underlying15) Tryz.sizeOf15 Tryz.isAgg15 Tryz.zeroValue15 rfl Tryz.typeInfo15 rfl (fun h => by have h' : (none : Option E) = some .attr := h; cases h')
noncomputable def i16 : TI := ⟨.ptr 122, 1, Bool.false, (Value.pointer Option.none), 8, none⟩
theorem k16 : TIok Tryz.prog 16 i16 := tiok (by exact Tryz.underlying16) Tryz.sizeOf16 Tryz.isAgg16 Tryz.zeroValue16 rfl Tryz.typeInfo16 rfl (fun h => by have h' : (none : Option E) = some .attr := h; cases h')
noncomputable def i17 : TI := ⟨.ptr 130, 1, Bool.false, (Value.pointer Option.none), 8, none⟩
theorem k17 : TIok Tryz.prog 17 i17 := tiok (by exact Tryz.underlying17) Tryz.sizeOf17 Tryz.isAgg17 Tryz.zeroValue17 rfl Tryz.typeInfo17 rfl (fun h => by have h' : (none : Option E) = some .attr := h; cases h')
noncomputable def i18 : TI := ⟨.struct [(17, 0)], 1, Bool.true, (Value.agg #[Value.pointer Option.none]), 8, none⟩
theorem k18 : TIok Tryz.prog 18 i18 := tiok (by exact ⟨_, Tryz.underlying18, rfl⟩) Tryz.sizeOf18 Tryz.isAgg18 Tryz.zeroValue18 rfl Tryz.typeInfo18 rfl (fun h => by have h' : (none : Option E) = some .attr := h; cases h')
noncomputable def i19 : TI := ⟨.struct [(17, 0)], 1, Bool.true, (Value.agg #[Value.pointer Option.none]), 8, none⟩
theorem k19 : TIok Tryz.prog 19 i19 := tiok (by exact ⟨_, Tryz.underlying19, rfl⟩) Tryz.sizeOf19 Tryz.isAgg19 Tryz.zeroValue19 rfl Tryz.typeInfo19 rfl (fun h => by have h' : (none : Option E) = some .attr := h; cases h')
noncomputable def i20 : TI := ⟨.iface, 1, Bool.false, Value.nilIface, 16, none⟩
theorem k20 : TIok Tryz.prog 20 i20 := tiok (by exact ⟨_, Tryz.underlying20⟩) Tryz.sizeOf20 Tryz.isAgg20 Tryz.zeroValue20 rfl Tryz.typeInfo20 rfl (fun h => by have h' : (none : Option E) = some .attr := h; cases h')
noncomputable def i21 : TI := ⟨.int .i32, 1, Bool.false, (Value.int IntKind.i32 0), 4, some (.rc (.int .i32) [] 0)⟩
theorem k21 : TIok Tryz.prog 21 i21 := tiok (by exact Tryz.underlying21) Tryz.sizeOf21 Tryz.isAgg21 Tryz.zeroValue21 rfl Tryz.typeInfo21 rfl (fun h => by have h' : (some (.rc (.int .i32) [] 0) : Option E) = some .attr := h; cases h')
noncomputable def i22 : TI := ⟨.slice 35, 1, Bool.false, (Value.slice Option.none 0 0), 24, some (.rc .nodes [] 0)⟩
theorem k22 : TIok Tryz.prog 22 i22 := tiok (by exact Tryz.underlying22) Tryz.sizeOf22 Tryz.isAgg22 Tryz.zeroValue22 rfl Tryz.typeInfo22 rfl (fun h => by have h' : (some (.rc .nodes [] 0) : Option E) = some .attr := h; cases h')
noncomputable def i23 : TI := ⟨.slice 3, 1, Bool.false, (Value.slice Option.none 0 0), 24, some (.rc .ints [] 0)⟩
theorem k23 : TIok Tryz.prog 23 i23 := tiok (by exact Tryz.underlying23) Tryz.sizeOf23 Tryz.isAgg23 Tryz.zeroValue23 rfl Tryz.typeInfo23 rfl (fun h => by have h' : (some (.rc .ints [] 0) : Option E) = some .attr := h; cases h')
noncomputable def i24 : TI := ⟨.func, 1, Bool.false, Value.nilFunc, 8, none⟩
theorem k24 : TIok Tryz.prog 24 i24 := tiok (by exact ⟨_, _, _, Tryz.underlying24⟩) Tryz.sizeOf24 Tryz.isAgg24 Tryz.zeroValue24 rfl Tryz.typeInfo24 rfl (fun h => by have h' : (none : Option E) = some .attr := h; cases h')
noncomputable def i25 : TI := ⟨.func, 1, Bool.false, Value.nilFunc, 8, none⟩
theorem k25 : TIok Tryz.prog 25 i25 := tiok (by exact ⟨_, _, _, Tryz.underlying25⟩) Tryz.sizeOf25 Tryz.isAgg25 Tryz.zeroValue25 rfl Tryz.typeInfo25 rfl (fun h => by have h' : (none : Option E) = some .attr := h; cases h')
noncomputable def i26 : TI := ⟨.struct [(3, 0), (9, 1), (23, 2), (3, 3), (3, 4)], 5, Bool.true, (Value.agg #[Value.int IntKind.i64 0, Value.string { data := #[] }, Value.slice Option.none 0 0, Value.int IntKind.i64 0, Value.int IntKind.i64 0]), 64, none⟩
theorem k26 : TIok Tryz.prog 26 i26 := tiok (by exact ⟨_, Tryz.underlying26, rfl⟩) Tryz.sizeOf26 Tryz.isAgg26 Tryz.zeroValue26 rfl Tryz.typeInfo26 rfl (fun h => by have h' : (none : Option E) = some .attr := h; cases h')
noncomputable def i27 : TI := ⟨.struct [(3, 0), (9, 1), (23, 2), (3, 3), (3, 4)], 5, Bool.true, (Value.agg #[Value.int IntKind.i64 0, Value.string { data := #[] }, Value.slice Option.none 0 0, Value.int IntKind.i64 0, Value.int IntKind.i64 0]), 64, some (.rc (.int .i64) [.str, .ints, (.int .i64), (.int .i64)] 0)⟩
theorem k27 : TIok Tryz.prog 27 i27 := tiok (by exact ⟨_, Tryz.underlying27, rfl⟩) Tryz.sizeOf27 Tryz.isAgg27 Tryz.zeroValue27 rfl Tryz.typeInfo27 rfl (fun h => by have h' : (some (.rc (.int .i64) [.str, .ints, (.int .i64), (.int .i64)] 0) : Option E) = some .attr := h; cases h')
noncomputable def i28 : TI := ⟨.other, 1, Bool.false, (Value.tuple #[Value.slice Option.none 0 0, Value.bool Bool.false]), 0, none⟩
theorem k28 : TIok Tryz.prog 28 i28 := tiok (by exact trivial) Tryz.sizeOf28 Tryz.isAgg28 Tryz.zeroValue28 rfl Tryz.typeInfo28 rfl (fun h => by have h' : (none : Option E) = some .attr := h; cases h')
noncomputable def i29 : TI := ⟨.func, 1, Bool.false, Value.nilFunc, 8, none⟩
theorem k29 : TIok Tryz.prog 29 i29 := tiok (by exact ⟨_, _, _, Tryz.underlying29⟩) Tryz.sizeOf29 Tryz.isAgg29 Tryz.zeroValue29 rfl Tryz.typeInfo29 rfl (fun h => by have h' : (none : Option E) = some .attr := h; cases h')
noncomputable def i30 : TI := ⟨.func, 1, Bool.false, Value.nilFunc, 8, none⟩
theorem k30 : TIok Tryz.prog 30 i30 := tiok (by exact ⟨_, _, _, Tryz.underlying30⟩) Tryz.sizeOf30 Tryz.isAgg30 Tryz.zeroValue30 rfl Tryz.typeInfo30 rfl (fun h => by have h' : (none : Option E) = some .attr := h; cases h')
noncomputable def i31 : TI := ⟨.func, 1, Bool.false, Value.nilFunc, 8, none⟩
theorem k31 : TIok Tryz.prog 31 i31 := tiok (by exact ⟨_, _, _, Tryz.underlying31⟩) Tryz.sizeOf31 Tryz.isAgg31 Tryz.zeroValue31 rfl Tryz.typeInfo31 rfl (fun h => by have h' : (none : Option E) = some .attr := h; cases h')
noncomputable def i32 : TI := ⟨.func, 1, Bool.false, Value.nilFunc, 8, none⟩
theorem k32 : TIok Tryz.prog 32 i32 := tiok (by exact ⟨_, _, _, Tryz.underlying32⟩) Tryz.sizeOf32 Tryz.isAgg32 Tryz.zeroValue32 rfl Tryz.typeInfo32 rfl (fun h => by have h' : (none : Option E) = some .attr := h; cases h')
noncomputable def i33 : TI := ⟨.slice 48, 1, Bool.false, (Value.slice Option.none 0 0), 24, none⟩
theorem k33 : TIok Tryz.prog 33 i33 := tiok (by exact Tryz.underlying33) Tryz.sizeOf33 Tryz.isAgg33 Tryz.zeroValue33 rfl Tryz.typeInfo33 rfl (fun h => by have h' : (none : Option E) = some .attr := h; cases h')
noncomputable def i34 : TI := ⟨.struct [(3, 0), (9, 1), (9, 2), (33, 3), (3, 4)], 5, Bool.true, (Value.agg #[Value.int IntKind.i64 0, Value.string { data := #[] }, Value.string { data := #[] }, Value.slice Option.none 0 0, Value.int IntKind.i64 0]), 72, none⟩
theorem k34 : TIok Tryz.prog 34 i34 := tiok (by exact ⟨_, Tryz.underlying34, rfl⟩) Tryz.sizeOf34 Tryz.isAgg34 Tryz.zeroValue34 rfl Tryz.typeInfo34 rfl (fun h => by have h' : (none : Option E) = some .attr := h; cases h')
noncomputable def i35 : TI := ⟨.struct [(3, 0), (9, 1), (9, 2), (33, 3), (3, 4)], 5, Bool.true, (Value.agg #[Value.int IntKind.i64 0, Value.string { data := #[] }, Value.string { data := #[] }, Value.slice Option.none 0 0, Value.int IntKind.i64 0]), 72, some .node⟩
theorem k35 : TIok Tryz.prog 35 i35 := tiok (by exact ⟨_, Tryz.underlying35, rfl⟩) Tryz.sizeOf35 Tryz.isAgg35 Tryz.zeroValue35 rfl Tryz.typeInfo35 rfl (fun h => by have h' : (some .node : Option E) = some .attr := h; cases h')
noncomputable def i36 : TI := ⟨.func, 1, Bool.false, Value.nilFunc, 8, none⟩
theorem k36 : TIok Tryz.prog 36 i36 := tiok (by exact ⟨_, _, _, Tryz.underlying36⟩) Tryz.sizeOf36 Tryz.isAgg36 Tryz.zeroValue36 rfl Tryz.typeInfo36 rfl (fun h => by have h' : (none : Option E) = some .attr := h; cases h')
noncomputable def i37 : TI := ⟨.func, 1, Bool.false, Value.nilFunc, 8, none⟩
theorem k37 : TIok Tryz.prog 37 i37 := tiok (by exact ⟨_, _, _, Tryz.underlying37⟩) Tryz.sizeOf37 Tryz.isAgg37 Tryz.zeroValue37 rfl Tryz.typeInfo37 rfl (fun h => by have h' : (none : Option E) = some .attr := h; cases h')
noncomputable def i38 : TI := ⟨.func, 1, Bool.false, Value.nilFunc, 8, none⟩
theorem k38 : TIok Tryz.prog 38 i38 := tiok (by exact ⟨_, _, _, Tryz.underlying38⟩) Tryz.sizeOf38 Tryz.isAgg38 Tryz.zeroValue38 rfl Tryz.typeInfo38 rfl (fun h => by have h' : (none : Option E) = some .attr := h; cases h')
noncomputable def i39 : TI := ⟨.func, 1, Bool.false, Value.nilFunc, 8, none⟩
theorem k39 : TIok Tryz.prog 39 i39 := tiok (by exact ⟨_, _, _, Tryz.underlying39⟩) Tryz.sizeOf39 Tryz.isAgg39 Tryz.zeroValue39 rfl Tryz.typeInfo39 rfl (fun h => by have h' : (none : Option E) = some .attr := h; cases h')
noncomputable def i40 : TI := ⟨.func, 1, Bool.false, Value.nilFunc, 8, none⟩
theorem k40 : TIok Tryz.prog 40 i40 := tiok (by exact ⟨_, _, _, Tryz.underlying40⟩) Tryz.sizeOf40 Tryz.isAgg40 Tryz.zeroValue40 rfl Tryz.typeInfo40 rfl (fun h => by have h' : (none : Option E) = some .attr := h; cases h')
noncomputable def i41 : TI := ⟨.slice 27, 1, Bool.false, (Value.slice Option.none 0 0), 24, none⟩
theorem k41 : TIok Tryz.prog 41 i41 := tiok (by exact Tryz.underlying41) Tryz.sizeOf41 Tryz.isAgg41 Tryz.zeroValue41 rfl Tryz.typeInfo41 rfl (fun h => by have h' : (none : Option E) = some .attr := h; cases h')
noncomputable def i42 : TI := ⟨.slice 23, 1, Bool.false, (Value.slice Option.none 0 0), 24, none⟩
theorem k42 : TIok Tryz.prog 42 i42 := tiok (by exact Tryz.underlying42) Tryz.sizeOf42 Tryz.isAgg42 Tryz.zeroValue42 rfl Tryz.typeInfo42 rfl (fun h => by have h' : (none : Option E) = some .attr := h; cases h')
noncomputable def i43 : TI := ⟨.other, 1, Bool.false, (Value.tuple #[Value.slice Option.none 0 0, Value.bool Bool.false]), 0, none⟩
theorem k43 : TIok Tryz.prog 43 i43 := tiok (by exact trivial) Tryz.sizeOf43 Tryz.isAgg43 Tryz.zeroValue43 rfl Tryz.typeInfo43 rfl (fun h => by have h' : (none : Option E) = some .attr := h; cases h')
noncomputable def i44 : TI := ⟨.func, 1, Bool.false, Value.nilFunc, 8, none⟩
theorem k44 : TIok Tryz.prog 44 i44 := tiok (by exact ⟨_, _, _, Tryz.underlying44⟩) Tryz.sizeOf44 Tryz.isAgg44 Tryz.zeroValue44 rfl Tryz.typeInfo44 rfl (fun h => by have h' : (none : Option E) = some .attr := h; cases h')
noncomputable def i45 : TI := ⟨.func, 1, Bool.false, Value.nilFunc, 8, none⟩
theorem k45 : TIok Tryz.prog 45 i45 := tiok (by exact ⟨_, _, _, Tryz.underlying45⟩) Tryz.sizeOf45 Tryz.isAgg45 Tryz.zeroValue45 rfl Tryz.typeInfo45 rfl (fun h => by have h' : (none : Option E) = some .attr := h; cases h')
noncomputable def i46 : TI := ⟨.func, 1, Bool.false, Value.nilFunc, 8, none⟩
theorem k46 : TIok Tryz.prog 46 i46 := tiok (by exact ⟨_, _, _, Tryz.underlying46⟩) Tryz.sizeOf46 Tryz.isAgg46 Tryz.zeroValue46 rfl Tryz.typeInfo46 rfl (fun h => by have h' : (none : Option E) = some .attr := h; cases h')
noncomputable def i47 : TI := ⟨.struct [(9, 0), (9, 1)], 2, Bool.true, (Value.agg #[Value.string { data := #[] }, Value.string { data := #[] }]), 32, none⟩
theorem k47 : TIok Tryz.prog 47 i47 := tiok (by exact ⟨_, Tryz.underlying47, rfl⟩) Tryz.sizeOf47 Tryz.isAgg47 Tryz.zeroValue47 rfl Tryz.typeInfo47 rfl (fun h => by have h' : (none : Option E) = some .attr := h; cases h')
noncomputable def i48 : TI := ⟨.struct [(9, 0), (9, 1)], 2, Bool.true, (Value.agg #[Value.string { data := #[] }, Value.string { data := #[] }]), 32, some .attr⟩
theorem k48 : TIok Tryz.prog 48 i48 := tiok (by exact ⟨_, Tryz.underlying48, rfl⟩) Tryz.sizeOf48 Tryz.isAgg48 Tryz.zeroValue48 rfl Tryz.typeInfo48 rfl (fun _ => ⟨9, _, _, Tryz.underlying48, by decide, by decide, rfl, rfl, rfl, rfl, Tryz.underlying9, Tryz.isAgg9, by kernel_rfl, by kernel_rfl⟩)
noncomputable def i49 : TI := ⟨.func, 1, Bool.false, Value.nilFunc, 8, none⟩
theorem k49 : TIok Tryz.prog 49 i49 := tiok (by exact ⟨_, _, _, Tryz.underlying49⟩) Tryz.sizeOf49 Tryz.isAgg49 Tryz.zeroValue49 rfl Tryz.typeInfo49 rfl (fun h => by have h' : (none : Option E) = some .attr := h; cases h')
noncomputable def i50 : TI := ⟨.func, 1, Bool.false, Value.nilFunc, 8, none⟩
theorem k50 : TIok Tryz.prog 50 i50 := tiok (by exact ⟨_, _, _, Tryz.underlying50⟩) Tryz.sizeOf50 Tryz.isAgg50 Tryz.zeroValue50 rfl Tryz.typeInfo50 rfl (fun h => by have h' : (none : Option E) = some .attr := h; cases h')
noncomputable def i51 : TI := ⟨.func, 1, Bool.false, Value.nilFunc, 8, none⟩
theorem k51 : TIok Tryz.prog 51 i51 := tiok (by exact ⟨_, _, _, Tryz.underlying51⟩) Tryz.sizeOf51 Tryz.isAgg51 Tryz.zeroValue51 rfl Tryz.typeInfo51 rfl (fun h => by have h' : (none : Option E) = some .attr := h; cases h')
noncomputable def i52 : TI := ⟨.func, 1, Bool.false, Value.nilFunc, 8, none⟩
theorem k52 : TIok Tryz.prog 52 i52 := tiok (by exact ⟨_, _, _, Tryz.underlying52⟩) Tryz.sizeOf52 Tryz.isAgg52 Tryz.zeroValue52 rfl Tryz.typeInfo52 rfl (fun h => by have h' : (none : Option E) = some .attr := h; cases h')
noncomputable def i53 : TI := ⟨.func, 1, Bool.false, Value.nilFunc, 8, none⟩
theorem k53 : TIok Tryz.prog 53 i53 := tiok (by exact ⟨_, _, _, Tryz.underlying53⟩) Tryz.sizeOf53 Tryz.isAgg53 Tryz.zeroValue53 rfl Tryz.typeInfo53 rfl (fun h => by have h' : (none : Option E) = some .attr := h; cases h')
noncomputable def i54 : TI := ⟨.ptr 65, 1, Bool.false, (Value.pointer Option.none), 8, none⟩
theorem k54 : TIok Tryz.prog 54 i54 := tiok (by exact Tryz.underlying54) Tryz.sizeOf54 Tryz.isAgg54 Tryz.zeroValue54 rfl Tryz.typeInfo54 rfl (fun h => by have h' : (none : Option E) = some .attr := h; cases h')
noncomputable def i55 : TI := ⟨.slice 70, 1, Bool.false, (Value.slice Option.none 0 0), 24, some (.rc .nps [] 0)⟩
theorem k55 : TIok Tryz.prog 55 i55 := tiok (by exact Tryz.underlying55) Tryz.sizeOf55 Tryz.isAgg55 Tryz.zeroValue55 rfl Tryz.typeInfo55 rfl (fun h => by have h' : (some (.rc .nps [] 0) : Option E) = some .attr := h; cases h')
noncomputable def i56 : TI := ⟨.other, 1, Bool.false, (Value.tuple #[Value.pointer Option.none, Value.slice Option.none 0 0, Value.bool Bool.false]), 0, none⟩
theorem k56 : TIok Tryz.prog 56 i56 := tiok (by exact trivial) Tryz.sizeOf56 Tryz.isAgg56 Tryz.zeroValue56 rfl Tryz.typeInfo56 rfl (fun h => by have h' : (none : Option E) = some .attr := h; cases h')
noncomputable def i57 : TI := ⟨.func, 1, Bool.false, Value.nilFunc, 8, none⟩
theorem k57 : TIok Tryz.prog 57 i57 := tiok (by exact ⟨_, _, _, Tryz.underlying57⟩) Tryz.sizeOf57 Tryz.isAgg57 Tryz.zeroValue57 rfl Tryz.typeInfo57 rfl (fun h => by have h' : (none : Option E) = some .attr := h; cases h')
noncomputable def i58 : TI := ⟨.other, 1, Bool.false, (Value.tuple #[Value.slice Option.none 0 0, Value.bool Bool.false]), 0, none⟩
theorem k58 : TIok Tryz.prog 58 i58 := tiok (by exact trivial) Tryz.sizeOf58 Tryz.isAgg58 Tryz.zeroValue58 rfl Tryz.typeInfo58 rfl (fun h => by have h' : (none : Option E) = some .attr := h; cases h')
noncomputable def i59 : TI := ⟨.func, 1, Bool.false, Value.nilFunc, 8, none⟩
theorem k59 : TIok Tryz.prog 59 i59 := tiok (by exact ⟨_, _, _, Tryz.underlying59⟩) Tryz.sizeOf59 Tryz.isAgg59 Tryz.zeroValue59 rfl Tryz.typeInfo59 rfl (fun h => by have h' : (none : Option E) = some .attr := h; cases h')
noncomputable def i60 : TI := ⟨.func, 1, Bool.false, Value.nilFunc, 8, none⟩
theorem k60 : TIok Tryz.prog 60 i60 := tiok (by exact ⟨_, _, _, Tryz.underlying60⟩) Tryz.sizeOf60 Tryz.isAgg60 Tryz.zeroValue60 rfl Tryz.typeInfo60 rfl (fun h => by have h' : (none : Option E) = some .attr := h; cases h')
noncomputable def i61 : TI := ⟨.func, 1, Bool.false, Value.nilFunc, 8, none⟩
theorem k61 : TIok Tryz.prog 61 i61 := tiok (by exact ⟨_, _, _, Tryz.underlying61⟩) Tryz.sizeOf61 Tryz.isAgg61 Tryz.zeroValue61 rfl Tryz.typeInfo61 rfl (fun h => by have h' : (none : Option E) = some .attr := h; cases h')
noncomputable def i62 : TI := ⟨.func, 1, Bool.false, Value.nilFunc, 8, none⟩
theorem k62 : TIok Tryz.prog 62 i62 := tiok (by exact ⟨_, _, _, Tryz.underlying62⟩) Tryz.sizeOf62 Tryz.isAgg62 Tryz.zeroValue62 rfl Tryz.typeInfo62 rfl (fun h => by have h' : (none : Option E) = some .attr := h; cases h')
noncomputable def i63 : TI := ⟨.ptr 82, 1, Bool.false, (Value.pointer Option.none), 8, none⟩
theorem k63 : TIok Tryz.prog 63 i63 := tiok (by exact Tryz.underlying63) Tryz.sizeOf63 Tryz.isAgg63 Tryz.zeroValue63 rfl Tryz.typeInfo63 rfl (fun h => by have h' : (none : Option E) = some .attr := h; cases h')
noncomputable def i64 : TI := ⟨.struct [(55, 0), (63, 1), (54, 2)], 3, Bool.true, (Value.agg #[Value.slice Option.none 0 0, Value.pointer Option.none, Value.pointer Option.none]), 40, none⟩
theorem k64 : TIok Tryz.prog 64 i64 := tiok (by exact ⟨_, Tryz.underlying64, rfl⟩) Tryz.sizeOf64 Tryz.isAgg64 Tryz.zeroValue64 rfl Tryz.typeInfo64 rfl (fun h => by have h' : (none : Option E) = some .attr := h; cases h')
noncomputable def i65 : TI := ⟨.struct [(55, 0), (63, 1), (54, 2)], 3, Bool.true, (Value.agg #[Value.slice Option.none 0 0, Value.pointer Option.none, Value.pointer Option.none]), 40, some (.rc .nps [] 2)⟩
theorem k65 : TIok Tryz.prog 65 i65 := tiok (by exact ⟨_, Tryz.underlying65, rfl⟩) Tryz.sizeOf65 Tryz.isAgg65 Tryz.zeroValue65 rfl Tryz.typeInfo65 rfl (fun h => by have h' : (some (.rc .nps [] 2) : Option E) = some .attr := h; cases h')
noncomputable def i66 : TI := ⟨.func, 1, Bool.false, Value.nilFunc, 8, none⟩
theorem k66 : TIok Tryz.prog 66 i66 := tiok (by exact ⟨_, _, _, Tryz.underlying66⟩) Tryz.sizeOf66 Tryz.isAgg66 Tryz.zeroValue66 rfl Tryz.typeInfo66 rfl (fun h => by have h' : (none : Option E) = some .attr := h; cases h')
noncomputable def i67 : TI := ⟨.func, 1, Bool.false, Value.nilFunc, 8, none⟩
theorem k67 : TIok Tryz.prog 67 i67 := tiok (by exact ⟨_, _, _, Tryz.underlying67⟩) Tryz.sizeOf67 Tryz.isAgg67 Tryz.zeroValue67 rfl Tryz.typeInfo67 rfl (fun h => by have h' : (none : Option E) = some .attr := h; cases h')
noncomputable def i68 : TI := ⟨.func, 1, Bool.false, Value.nilFunc, 8, none⟩
theorem k68 : TIok Tryz.prog 68 i68 := tiok (by exact ⟨_, _, _, Tryz.underlying68⟩) Tryz.sizeOf68 Tryz.isAgg68 Tryz.zeroValue68 rfl Tryz.typeInfo68 rfl (fun h => by have h' : (none : Option E) = some .attr := h; cases h')
noncomputable def i69 : TI := ⟨.func, 1, Bool.false, Value.nilFunc, 8, none⟩
theorem k69 : TIok Tryz.prog 69 i69 := tiok (by exact ⟨_, _, _, Tryz.underlying69⟩) Tryz.sizeOf69 Tryz.isAgg69 Tryz.zeroValue69 rfl Tryz.typeInfo69 rfl (fun h => by have h' : (none : Option E) = some .attr := h; cases h')
noncomputable def i70 : TI := ⟨.ptr 94, 1, Bool.false, (Value.pointer Option.none), 8, some .np⟩
theorem k70 : TIok Tryz.prog 70 i70 := tiok (by exact Tryz.underlying70) Tryz.sizeOf70 Tryz.isAgg70 Tryz.zeroValue70 rfl Tryz.typeInfo70 rfl (fun h => by have h' : (some .np : Option E) = some .attr := h; cases h')
noncomputable def i71 : TI := ⟨.func, 1, Bool.false, Value.nilFunc, 8, none⟩
theorem k71 : TIok Tryz.prog 71 i71 := tiok (by exact ⟨_, _, _, Tryz.underlying71⟩) Tryz.sizeOf71 Tryz.isAgg71 Tryz.zeroValue71 rfl Tryz.typeInfo71 rfl (fun h => by have h' : (none : Option E) = some .attr := h; cases h')
noncomputable def i72 : TI := ⟨.func, 1, Bool.false, Value.nilFunc, 8, none⟩
theorem k72 : TIok Tryz.prog 72 i72 := tiok (by exact ⟨_, _, _, Tryz.underlying72⟩) Tryz.sizeOf72 Tryz.isAgg72 Tryz.zeroValue72 rfl Tryz.typeInfo72 rfl (fun h => by have h' : (none : Option E) = some .attr := h; cases h')
noncomputable def i73 : TI := ⟨.func, 1, Bool.false, Value.nilFunc, 8, none⟩
theorem k73 : TIok Tryz.prog 73 i73 := tiok (by exact ⟨_, _, _, Tryz.underlying73⟩) Tryz.sizeOf73 Tryz.isAgg73 Tryz.zeroValue73 rfl Tryz.typeInfo73 rfl (fun h => by have h' : (none : Option E) = some .attr := h; cases h')
noncomputable def i74 : TI := ⟨.func, 1, Bool.false, Value.nilFunc, 8, none⟩
theorem k74 : TIok Tryz.prog 74 i74 := tiok (by exact ⟨_, _, _, Tryz.underlying74⟩) Tryz.sizeOf74 Tryz.isAgg74 Tryz.zeroValue74 rfl Tryz.typeInfo74 rfl (fun h => by have h' : (none : Option E) = some .attr := h; cases h')
noncomputable def i75 : TI := ⟨.func, 1, Bool.false, Value.nilFunc, 8, none⟩
theorem k75 : TIok Tryz.prog 75 i75 := tiok (by exact ⟨_, _, _, Tryz.underlying75⟩) Tryz.sizeOf75 Tryz.isAgg75 Tryz.zeroValue75 rfl Tryz.typeInfo75 rfl (fun h => by have h' : (none : Option E) = some .attr := h; cases h')
noncomputable def i76 : TI := ⟨.other, 1, Bool.false, (Value.tuple #[Value.int IntKind.i64 0, Value.int IntKind.i64 0]), 0, none⟩
theorem k76 : TIok Tryz.prog 76 i76 := tiok (by exact trivial) Tryz.sizeOf76 Tryz.isAgg76 Tryz.zeroValue76 rfl Tryz.typeInfo76 rfl (fun h => by have h' : (none : Option E) = some .attr := h; cases h')
noncomputable def i77 : TI := ⟨.func, 1, Bool.false, Value.nilFunc, 8, none⟩
theorem k77 : TIok Tryz.prog 77 i77 := tiok (by exact ⟨_, _, _, Tryz.underlying77⟩) Tryz.sizeOf77 Tryz.isAgg77 Tryz.zeroValue77 rfl Tryz.typeInfo77 rfl (fun h => by have h' : (none : Option E) = some .attr := h; cases h')
noncomputable def i78 : TI := ⟨.func, 1, Bool.false, Value.nilFunc, 8, none⟩
theorem k78 : TIok Tryz.prog 78 i78 := tiok (by exact ⟨_, _, _, Tryz.underlying78⟩) Tryz.sizeOf78 Tryz.isAgg78 Tryz.zeroValue78 rfl Tryz.typeInfo78 rfl (fun h => by have h' : (none : Option E) = some .attr := h; cases h')
noncomputable def i79 : TI := ⟨.func, 1, Bool.false, Value.nilFunc, 8, none⟩
theorem k79 : TIok Tryz.prog 79 i79 := tiok (by exact ⟨_, _, _, Tryz.underlying79⟩) Tryz.sizeOf79 Tryz.isAgg79 Tryz.zeroValue79 rfl Tryz.typeInfo79 rfl (fun h => by have h' : (none : Option E) = some .attr := h; cases h')
noncomputable def i80 : TI := ⟨.func, 1, Bool.false, Value.nilFunc, 8, none⟩
theorem k80 : TIok Tryz.prog 80 i80 := tiok (by exact ⟨_, _, _, Tryz.underlying80⟩) Tryz.sizeOf80 Tryz.isAgg80 Tryz.zeroValue80 rfl Tryz.typeInfo80 rfl (fun h => by have h' : (none : Option E) = some .attr := h; cases h')
noncomputable def i81 : TI := ⟨.struct [(54, 0), (70, 1)], 2, Bool.true, (Value.agg #[Value.pointer Option.none, Value.pointer Option.none]), 16, none⟩
theorem k81 : TIok Tryz.prog 81 i81 := tiok (by exact ⟨_, Tryz.underlying81, rfl⟩) Tryz.sizeOf81 Tryz.isAgg81 Tryz.zeroValue81 rfl Tryz.typeInfo81 rfl (fun h => by have h' : (none : Option E) = some .attr := h; cases h')
noncomputable def i82 : TI := ⟨.struct [(54, 0), (70, 1)], 2, Bool.true, (Value.agg #[Value.pointer Option.none, Value.pointer Option.none]), 16, some (.rc .fsel [.np] 0)⟩
theorem k82 : TIok Tryz.prog 82 i82 := tiok (by exact ⟨_, Tryz.underlying82, rfl⟩) Tryz.sizeOf82 Tryz.isAgg82 Tryz.zeroValue82 rfl Tryz.typeInfo82 rfl (fun h => by have h' : (some (.rc .fsel [.np] 0) : Option E) = some .attr := h; cases h')
noncomputable def i83 : TI := ⟨.func, 1, Bool.false, Value.nilFunc, 8, none⟩
theorem k83 : TIok Tryz.prog 83 i83 := tiok (by exact ⟨_, _, _, Tryz.underlying83⟩) Tryz.sizeOf83 Tryz.isAgg83 Tryz.zeroValue83 rfl Tryz.typeInfo83 rfl (fun h => by have h' : (none : Option E) = some .attr := h; cases h')
noncomputable def i84 : TI := ⟨.func, 1, Bool.false, Value.nilFunc, 8, none⟩
theorem k84 : TIok Tryz.prog 84 i84 := tiok (by exact ⟨_, _, _, Tryz.underlying84⟩) Tryz.sizeOf84 Tryz.isAgg84 Tryz.zeroValue84 rfl Tryz.typeInfo84 rfl (fun h => by have h' : (none : Option E) = some .attr := h; cases h')
noncomputable def i85 : TI := ⟨.func, 1, Bool.false, Value.nilFunc, 8, none⟩
theorem k85 : TIok Tryz.prog 85 i85 := tiok (by exact ⟨_, _, _, Tryz.underlying85⟩) Tryz.sizeOf85 Tryz.isAgg85 Tryz.zeroValue85 rfl Tryz.typeInfo85 rfl (fun h => by have h' : (none : Option E) = some .attr := h; cases h')
noncomputable def i86 : TI := ⟨.func, 1, Bool.false, Value.nilFunc, 8, none⟩
theorem k86 : TIok Tryz.prog 86 i86 := tiok (by exact ⟨_, _, _, Tryz.underlying86⟩) Tryz.sizeOf86 Tryz.isAgg86 Tryz.zeroValue86 rfl Tryz.typeInfo86 rfl (fun h => by have h' : (none : Option E) = some .attr := h; cases h')
noncomputable def i87 : TI := ⟨.func, 1, Bool.false, Value.nilFunc, 8, none⟩
theorem k87 : TIok Tryz.prog 87 i87 := tiok (by exact ⟨_, _, _, Tryz.underlying87⟩) Tryz.sizeOf87 Tryz.isAgg87 Tryz.zeroValue87 rfl Tryz.typeInfo87 rfl (fun h => by have h' : (none : Option E) = some .attr := h; cases h')
noncomputable def i88 : TI := ⟨.map 70 4, 1, Bool.false, (Value.map Option.none), 8, none⟩
theorem k88 : TIok Tryz.prog 88 i88 := tiok (by exact Tryz.underlying88) Tryz.sizeOf88 Tryz.isAgg88 Tryz.zeroValue88 rfl Tryz.typeInfo88 rfl (fun h => by have h' : (none : Option E) = some .attr := h; cases h')
noncomputable def i89 : TI := ⟨.int .u32, 1, Bool.false, (Value.int IntKind.u32 0), 4, none⟩
theorem k89 : TIok Tryz.prog 89 i89 := tiok (by exact Tryz.underlying89) Tryz.sizeOf89 Tryz.isAgg89 Tryz.zeroValue89 rfl Tryz.typeInfo89 rfl (fun h => by have h' : (none : Option E) = some .attr := h; cases h')
noncomputable def i90 : TI := ⟨.int .u32, 1, Bool.false, (Value.int IntKind.u32 0), 4, none⟩
theorem k90 : TIok Tryz.prog 90 i90 := tiok (by exact Tryz.underlying90) Tryz.sizeOf90 Tryz.isAgg90 Tryz.zeroValue90 rfl Tryz.typeInfo90 rfl (fun h => by have h' : (none : Option E) = some .attr := h; cases h')
noncomputable def i91 : TI := ⟨.int .u32, 1, Bool.false, (Value.int IntKind.u32 0), 4, none⟩
theorem k91 : TIok Tryz.prog 91 i91 := tiok (by exact Tryz.underlying91) Tryz.sizeOf91 Tryz.isAgg91 Tryz.zeroValue91 rfl Tryz.typeInfo91 rfl (fun h => by have h' : (none : Option E) = some .attr := h; cases h')
noncomputable def i92 : TI := ⟨.slice 114, 1, Bool.false, (Value.slice Option.none 0 0), 24, some (.rc .hattrs [] 0)⟩
theorem k92 : TIok Tryz.prog 92 i92 := tiok (by exact Tryz.underlying92) Tryz.sizeOf92 Tryz.isAgg92 Tryz.zeroValue92 rfl Tryz.typeInfo92 rfl (fun h => by have h' : (some (.rc .hattrs [] 0) : Option E) = some .attr := h; cases h')
noncomputable def i93 : TI := ⟨.struct [(70, 0), (70, 1), (70, 2), (70, 3), (70, 4), (90, 5), (91, 6), (9, 7), (9, 8), (92, 9)], 10, Bool.true, (Value.agg #[Value.pointer Option.none, Value.pointer Option.none, Value.pointer Option.none, Value.pointer Option.none, Value.pointer Option.none, Value.int IntKind.u32 0, Value.int IntKind.u32 0, Value.string { data := #[] }, Value.string { data := #[] }, Value.slice Option.none 0 0]), 104, none⟩
theorem k93 : TIok Tryz.prog 93 i93 := tiok (by exact ⟨_, Tryz.underlying93, rfl⟩) Tryz.sizeOf93 Tryz.isAgg93 Tryz.zeroValue93 rfl Tryz.typeInfo93 rfl (fun h => by have h' : (none : Option E) = some .attr := h; cases h')
noncomputable def i94 : TI := ⟨.struct [(70, 0), (70, 1), (70, 2), (70, 3), (70, 4), (90, 5), (91, 6), (9, 7), (9, 8), (92, 9)], 10, Bool.true, (Value.agg #[Value.pointer Option.none, Value.pointer Option.none, Value.pointer Option.none, Value.pointer Option.none, Value.pointer Option.none, Value.int IntKind.u32 0, Value.int IntKind.u32 0, Value.string { data := #[] }, Value.string { data := #[] }, Value.slice Option.none 0 0]), 104, none⟩
theorem k94 : TIok Tryz.prog 94 i94 := tiok (by exact ⟨_, Tryz.underlying94, rfl⟩) Tryz.sizeOf94 Tryz.isAgg94 Tryz.zeroValue94 rfl Tryz.typeInfo94 rfl (fun h => by have h' : (none : Option E) = some .attr := h; cases h')
noncomputable def i95 : TI := ⟨.func, 1, Bool.false, Value.nilFunc, 8, none⟩
theorem k95 : TIok Tryz.prog 95 i95 := tiok (by exact ⟨_, _, _, Tryz.underlying95⟩) Tryz.sizeOf95 Tryz.isAgg95 Tryz.zeroValue95 rfl Tryz.typeInfo95 rfl (fun h => by have h' : (none : Option E) = some .attr := h; cases h')
noncomputable def i96 : TI := ⟨.func, 1, Bool.false, Value.nilFunc, 8, none⟩
theorem k96 : TIok Tryz.prog 96 i96 := tiok (by exact ⟨_, _, _, Tryz.underlying96⟩) Tryz.sizeOf96 Tryz.isAgg96 Tryz.zeroValue96 rfl Tryz.typeInfo96 rfl (fun h => by have h' : (none : Option E) = some .attr := h; cases h')
noncomputable def i97 : TI := ⟨.func, 1, Bool.false, Value.nilFunc, 8, none⟩
theorem k97 : TIok Tryz.prog 97 i97 := tiok (by exact ⟨_, _, _, Tryz.underlying97⟩) Tryz.sizeOf97 Tryz.isAgg97 Tryz.zeroValue97 rfl Tryz.typeInfo97 rfl (fun h => by have h' : (none : Option E) = some .attr := h; cases h')
noncomputable def i98 : TI := ⟨.int .i64, 1, Bool.false, (Value.int IntKind.i64 0), 8, none⟩
theorem k98 : TIok Tryz.prog 98 i98 := tiok (by exact Tryz.underlying98) Tryz.sizeOf98 Tryz.isAgg98 Tryz.zeroValue98 rfl Tryz.typeInfo98 rfl (fun h => by have h' : (none : Option E) = some .attr := h; cases h')
noncomputable def i99 : TI := ⟨.func, 1, Bool.false, Value.nilFunc, 8, none⟩
theorem k99 : TIok Tryz.prog 99 i99 := tiok (by exact ⟨_, _, _, Tryz.underlying99⟩) Tryz.sizeOf99 Tryz.isAgg99 Tryz.zeroValue99 rfl Tryz.typeInfo99 rfl (fun h => by have h' : (none : Option E) = some .attr := h; cases h')
noncomputable def i100 : TI := ⟨.func, 1, Bool.false, Value.nilFunc, 8, none⟩
theorem k100 : TIok Tryz.prog 100 i100 := tiok (by exact ⟨_, _, _, Tryz.underlying100⟩) Tryz.sizeOf100 Tryz.isAgg100 Tryz.zeroValue100 rfl Tryz.typeInfo100 rfl (fun h => by have h' : (none : Option E) = some .attr := h; cases h')
noncomputable def i101 : TI := ⟨.func, 1, Bool.false, Value.nilFunc, 8, none⟩
theorem k101 : TIok Tryz.prog 101 i101 := tiok (by exact ⟨_, _, _, Tryz.underlying101⟩) Tryz.sizeOf101 Tryz.isAgg101 Tryz.zeroValue101 rfl Tryz.typeInfo101 rfl (fun h => by have h' : (none : Option E) = some .attr := h; cases h')
noncomputable def i102 : TI := ⟨.func, 1, Bool.false, Value.nilFunc, 8, none⟩
theorem k102 : TIok Tryz.prog 102 i102 := tiok (by exact ⟨_, _, _, Tryz.underlying102⟩) Tryz.sizeOf102 Tryz.isAgg102 Tryz.zeroValue102 rfl Tryz.typeInfo102 rfl (fun h => by have h' : (none : Option E) = some .attr := h; cases h')
noncomputable def i103 : TI := ⟨.int .u64, 1, Bool.false, (Value.int IntKind.u64 0), 8, none⟩
theorem k103 : TIok Tryz.prog 103 i103 := tiok (by exact Tryz.underlying103) Tryz.sizeOf103 Tryz.isAgg103 Tryz.zeroValue103 rfl Tryz.typeInfo103 rfl (fun h => by have h' : (none : Option E) = some .attr := h; cases h')
noncomputable def i104 : TI := ⟨.func, 1, Bool.false, Value.nilFunc, 8, none⟩
theorem k104 : TIok Tryz.prog 104 i104 := tiok (by exact ⟨_, _, _, Tryz.underlying104⟩) Tryz.sizeOf104 Tryz.isAgg104 Tryz.zeroValue104 rfl Tryz.typeInfo104 rfl (fun h => by have h' : (none : Option E) = some .attr := h; cases h')
noncomputable def i105 : TI := ⟨.func, 1, Bool.false, Value.nilFunc, 8, none⟩
theorem k105 : TIok Tryz.prog 105 i105 := tiok (by exact ⟨_, _, _, Tryz.underlying105⟩) Tryz.sizeOf105 Tryz.isAgg105 Tryz.zeroValue105 rfl Tryz.typeInfo105 rfl (fun h => by have h' : (none : Option E) = some .attr := h; cases h')
noncomputable def i106 : TI := ⟨.func, 1, Bool.false, Value.nilFunc, 8, none⟩
theorem k106 : TIok Tryz.prog 106 i106 := tiok (by exact ⟨_, _, _, Tryz.underlying106⟩) Tryz.sizeOf106 Tryz.isAgg106 Tryz.zeroValue106 rfl Tryz.typeInfo106 rfl (fun h => by have h' : (none : Option E) = some .attr := h; cases h')
noncomputable def i107 : TI := ⟨.func, 1, Bool.false, Value.nilFunc, 8, none⟩
theorem k107 : TIok Tryz.prog 107 i107 := tiok (by exact ⟨_, _, _, Tryz.underlying107⟩) Tryz.sizeOf107 Tryz.isAgg107 Tryz.zeroValue107 rfl Tryz.typeInfo107 rfl (fun h => by have h' : (none : Option E) = some .attr := h; cases h')
noncomputable def i108 : TI := ⟨.iface, 1, Bool.false, Value.nilIface, 16, none⟩
theorem k108 : TIok Tryz.prog 108 i108 := tiok (by exact ⟨_, Tryz.underlying108⟩) Tryz.sizeOf108 Tryz.isAgg108 Tryz.zeroValue108 rfl Tryz.typeInfo108 rfl (fun h => by have h' : (none : Option E) = some .attr := h; cases h')
noncomputable def i109 : TI := ⟨.iface, 1, Bool.false, Value.nilIface, 16, none⟩
theorem k109 : TIok Tryz.prog 109 i109 := tiok (by exact ⟨_, Tryz.underlying109⟩) Tryz.sizeOf109 Tryz.isAgg109 Tryz.zeroValue109 rfl Tryz.typeInfo109 rfl (fun h => by have h' : (none : Option E) = some .attr := h; cases h')
noncomputable def i110 : TI := ⟨.func, 1, Bool.false, Value.nilFunc, 8, none⟩
theorem k110 : TIok Tryz.prog 110 i110 := tiok (by exact ⟨_, _, _, Tryz.underlying110⟩) Tryz.sizeOf110 Tryz.isAgg110 Tryz.zeroValue110 rfl Tryz.typeInfo110 rfl (fun h => by have h' : (none : Option E) = some .attr := h; cases h')
noncomputable def i111 : TI := ⟨.func, 1, Bool.false, Value.nilFunc, 8, none⟩
theorem k111 : TIok Tryz.prog 111 i111 := tiok (by exact ⟨_, _, _, Tryz.underlying111⟩) Tryz.sizeOf111 Tryz.isAgg111 Tryz.zeroValue111 rfl Tryz.typeInfo111 rfl (fun h => by have h' : (none : Option E) = some .attr := h; cases h')
noncomputable def i112 : TI := ⟨.func, 1, Bool.false, Value.nilFunc, 8, none⟩
theorem k112 : TIok Tryz.prog 112 i112 := tiok (by exact ⟨_, _, _, Tryz.underlying112⟩) Tryz.sizeOf112 Tryz.isAgg112 Tryz.zeroValue112 rfl Tryz.typeInfo112 rfl (fun h => by have h' : (none : Option E) = some .attr := h; cases h')
noncomputable def i113 : TI := ⟨.struct [(9, 0), (9, 1), (9, 2)], 3, Bool.true, (Value.agg #[Value.string { data := #[] }, Value.string { data := #[] }, Value.string { data := #[] }]), 48, none⟩
theorem k113 : TIok Tryz.prog 113 i113 := tiok (by exact ⟨_, Tryz.underlying113, rfl⟩) Tryz.sizeOf113 Tryz.isAgg113 Tryz.zeroValue113 rfl Tryz.typeInfo113 rfl (fun h => by have h' : (none : Option E) = some .attr := h; cases h')
noncomputable def i114 : TI := ⟨.struct [(9, 0), (9, 1), (9, 2)], 3, Bool.true, (Value.agg #[Value.string { data := #[] }, Value.string { data := #[] }, Value.string { data := #[] }]), 48, some .hattr⟩
theorem k114 : TIok Tryz.prog 114 i114 := tiok (by exact ⟨_, Tryz.underlying114, rfl⟩) Tryz.sizeOf114 Tryz.isAgg114 Tryz.zeroValue114 rfl Tryz.typeInfo114 rfl (fun h => by have h' : (some .hattr : Option E) = some .attr := h; cases h')
noncomputable def i115 : TI := ⟨.func, 1, Bool.false, Value.nilFunc, 8, none⟩
theorem k115 : TIok Tryz.prog 115 i115 := tiok (by exact ⟨_, _, _, Tryz.underlying115⟩) Tryz.sizeOf115 Tryz.isAgg115 Tryz.zeroValue115 rfl Tryz.typeInfo115 rfl (fun h => by have h' : (none : Option E) = some .attr := h; cases h')
noncomputable def i116 : TI := ⟨.func, 1, Bool.false, Value.nilFunc, 8, none⟩
theorem k116 : TIok Tryz.prog 116 i116 := tiok (by exact ⟨_, _, _, Tryz.underlying116⟩) Tryz.sizeOf116 Tryz.isAgg116 Tryz.zeroValue116 rfl Tryz.typeInfo116 rfl (fun h => by have h' : (none : Option E) = some .attr := h; cases h')
noncomputable def i117 : TI := ⟨.func, 1, Bool.false, Value.nilFunc, 8, none⟩
theorem k117 : TIok Tryz.prog 117 i117 := tiok (by exact ⟨_, _, _, Tryz.underlying117⟩) Tryz.sizeOf117 Tryz.isAgg117 Tryz.zeroValue117 rfl Tryz.typeInfo117 rfl (fun h => by have h' : (none : Option E) = some .attr := h; cases h')
noncomputable def i118 : TI := ⟨.struct [(17, 0), (17, 1), (17, 2), (9, 3)], 4, Bool.true, (Value.agg #[Value.pointer Option.none, Value.pointer Option.none, Value.pointer Option.none, Value.string { data := #[] }]), 40, none⟩
theorem k118 : TIok Tryz.prog 118 i118 := tiok (by exact ⟨_, Tryz.underlying118, rfl⟩) Tryz.sizeOf118 Tryz.isAgg118 Tryz.zeroValue118 rfl Tryz.typeInfo118 rfl (fun h => by have h' : (none : Option E) = some .attr := h; cases h')
noncomputable def i119 : TI := ⟨.struct [(17, 0), (17, 1), (17, 2), (9, 3)], 4, Bool.true, (Value.agg #[Value.pointer Option.none, Value.pointer Option.none, Value.pointer Option.none, Value.string { data := #[] }]), 40, none⟩
theorem k119 : TIok Tryz.prog 119 i119 := tiok (by exact ⟨_, Tryz.underlying119, rfl⟩) Tryz.sizeOf119 Tryz.isAgg119 Tryz.zeroValue119 rfl Tryz.typeInfo119 rfl (fun h => by have h' : (none : Option E) = some .attr := h; cases h')
noncomputable def i120 : TI := ⟨.other, 0, Bool.true, (Value.agg #[]), 0, none⟩
theorem k120 : TIok Tryz.prog 120 i120 := tiok (by exact trivial) Tryz.sizeOf120 Tryz.isAgg120 Tryz.zeroValue120 rfl Tryz.typeInfo120 rfl (fun h => by have h' : (none : Option E) = some .attr := h; cases h')
noncomputable def i121 : TI := ⟨.struct [(120, 0)], 0, Bool.true, (Value.agg #[]), 0, none⟩
theorem k121 : TIok Tryz.prog 121 i121 := tiok (by exact ⟨_, Tryz.underlying121, rfl⟩) Tryz.sizeOf121 Tryz.isAgg121 Tryz.zeroValue121 rfl Tryz.typeInfo121 rfl (fun h => by have h' : (none : Option E) = some .attr := h; cases h')
noncomputable def i122 : TI := ⟨.struct [(120, 0)], 0, Bool.true, (Value.agg #[]), 0, none⟩
theorem k122 : TIok Tryz.prog 122 i122 := tiok (by exact ⟨_, Tryz.underlying122, rfl⟩) Tryz.sizeOf122 Tryz.isAgg122 Tryz.zeroValue122 rfl Tryz.typeInfo122 rfl (fun h => by have h' : (none : Option E) = some .attr := h; cases h')
noncomputable def i123 : TI := ⟨.int .u8, 1, Bool.false, (Value.int IntKind.u8 0), 1, none⟩
theorem k123 : TIok Tryz.prog 123 i123 := tiok (by exact Tryz.underlying123) Tryz.sizeOf123 Tryz.isAgg123 Tryz.zeroValue123 rfl Tryz.typeInfo123 rfl (fun h => by have h' : (none : Option E) = some .attr := h; cases h')
noncomputable def i124 : TI := ⟨.int .u8, 1, Bool.false, (Value.int IntKind.u8 0), 1, none⟩
theorem k124 : TIok Tryz.prog 124 i124 := tiok (by exact Tryz.underlying124) Tryz.sizeOf124 Tryz.isAgg124 Tryz.zeroValue124 rfl Tryz.typeInfo124 rfl (fun h => by have h' : (none : Option E) = some .attr := h; cases h')
noncomputable def i125 : TI := ⟨.func, 1, Bool.false, Value.nilFunc, 8, none⟩
theorem k125 : TIok Tryz.prog 125 i125 := tiok (by exact ⟨_, _, _, Tryz.underlying125⟩) Tryz.sizeOf125 Tryz.isAgg125 Tryz.zeroValue125 rfl Tryz.typeInfo125 rfl (fun h => by have h' : (none : Option E) = some .attr := h; cases h')
noncomputable def i126 : TI := ⟨.ptr 5, 1, Bool.false, (Value.pointer Option.none), 8, none⟩
theorem k126 : TIok Tryz.prog 126 i126 := tiok (by exact Tryz.underlying126) Tryz.sizeOf126 Tryz.isAgg126 Tryz.zeroValue126 rfl Tryz.typeInfo126 rfl (fun h => by have h' : (none : Option E) = some .attr := h; cases h')
noncomputable def i127 : TI := ⟨.int .i32, 1, Bool.false, (Value.int IntKind.i32 0), 4, none⟩
theorem k127 : TIok Tryz.prog 127 i127 := tiok (by exact Tryz.underlying127) Tryz.sizeOf127 Tryz.isAgg127 Tryz.zeroValue127 rfl Tryz.typeInfo127 rfl (fun h => by have h' : (none : Option E) = some .attr := h; cases h')
noncomputable def i128 : TI := ⟨.int .i32, 1, Bool.false, (Value.int IntKind.i32 0), 4, none⟩
theorem k128 : TIok Tryz.prog 128 i128 := tiok (by exact Tryz.underlying128) Tryz.sizeOf128 Tryz.isAgg128 Tryz.zeroValue128 rfl Tryz.typeInfo128 rfl (fun h => by have h' : (none : Option E) = some .attr := h; cases h')
noncomputable def i129 : TI := ⟨.struct [(12, 0), (12, 1), (89, 2), (123, 3), (5, 4), (5, 5), (124, 6), (125, 7), (126, 8), (127, 9), (128, 10)], 11, Bool.true, (Value.agg #[Value.int IntKind.u64 0, Value.int IntKind.u64 0, Value.int IntKind.u32 0, Value.int IntKind.u8 0, Value.int IntKind.u8 0, Value.int IntKind.u8 0, Value.int IntKind.u8 0, Value.nilFunc, Value.pointer Option.none, Value.int IntKind.i32 0, Value.int IntKind.i32 0]), 48, none⟩
theorem k129 : TIok Tryz.prog 129 i129 := tiok (by exact ⟨_, Tryz.underlying129, rfl⟩) Tryz.sizeOf129 Tryz.isAgg129 Tryz.zeroValue129 rfl Tryz.typeInfo129 rfl (fun h => by have h' : (none : Option E) = some .attr := h; cases h')
noncomputable def i130 : TI := ⟨.struct [(12, 0), (12, 1), (89, 2), (123, 3), (5, 4), (5, 5), (124, 6), (125, 7), (126, 8), (127, 9), (128, 10)], 11, Bool.true, (Value.agg #[Value.int IntKind.u64 0, Value.int IntKind.u64 0, Value.int IntKind.u32 0, Value.int IntKind.u8 0, Value.int IntKind.u8 0, Value.int IntKind.u8 0, Value.int IntKind.u8 0, Value.nilFunc, Value.pointer Option.none, Value.int IntKind.i32 0, Value.int IntKind.i32 0]), 48, none⟩
theorem k130 : TIok Tryz.prog 130 i130 := tiok (by exact ⟨_, Tryz.underlying130, rfl⟩) Tryz.sizeOf130 Tryz.isAgg130 Tryz.zeroValue130 rfl Tryz.typeInfo130 rfl (fun h => by have h' : (none : Option E) = some .attr := h; cases h')
noncomputable def i131 : TI := ⟨.func, 1, Bool.false, Value.nilFunc, 8, none⟩
theorem k131 : TIok Tryz.prog 131 i131 := tiok (by exact ⟨_, _, _, Tryz.underlying131⟩) Tryz.sizeOf131 Tryz.isAgg131 Tryz.zeroValue131 rfl Tryz.typeInfo131 rfl (fun h => by have h' : (none : Option E) = some .attr := h; cases h')
noncomputable def i132 : TI := ⟨.func, 1, Bool.false, Value.nilFunc, 8, none⟩
theorem k132 : TIok Tryz.prog 132 i132 := tiok (by exact ⟨_, _, _, Tryz.underlying132⟩) Tryz.sizeOf132 Tryz.isAgg132 Tryz.zeroValue132 rfl Tryz.typeInfo132 rfl (fun h => by have h' : (none : Option E) = some .attr := h; cases h')
noncomputable def i133 : TI := ⟨.other, 1, Bool.false, (Value.pointer Option.none), 8, none⟩
theorem k133 : TIok Tryz.prog 133 i133 := tiok (by exact trivial) Tryz.sizeOf133 Tryz.isAgg133 Tryz.zeroValue133 rfl Tryz.typeInfo133 rfl (fun h => by have h' : (none : Option E) = some .attr := h; cases h')
noncomputable def i134 : TI := ⟨.func, 1, Bool.false, Value.nilFunc, 8, none⟩
theorem k134 : TIok Tryz.prog 134 i134 := tiok (by exact ⟨_, _, _, Tryz.underlying134⟩) Tryz.sizeOf134 Tryz.isAgg134 Tryz.zeroValue134 rfl Tryz.typeInfo134 rfl (fun h => by have h' : (none : Option E) = some .attr := h; cases h')
noncomputable def i135 : TI := ⟨.func, 1, Bool.false, Value.nilFunc, 8, none⟩
theorem k135 : TIok Tryz.prog 135 i135 := tiok (by exact ⟨_, _, _, Tryz.underlying135⟩) Tryz.sizeOf135 Tryz.isAgg135 Tryz.zeroValue135 rfl Tryz.typeInfo135 rfl (fun h => by have h' : (none : Option E) = some .attr := h; cases h')
noncomputable def tb : List (Option TI) := some i0 :: some i1 :: some i2 :: some i3 :: some i4 :: some i5 :: some i6 :: some i7 :: some i8 :: some i9 :: some i10 :: some i11 :: some i12 :: some i13 :: some i14 :: some i15 :: some i16 :: some i17 :: some i18 :: some i19 :: some i20 :: some i21 :: some i22 :: some i23 :: some i24 :: some i25 :: some i26 :: some i27 :: some i28 :: some i29 :: some i30 :: some i31 :: some i32 :: some i33 :: some i34 :: some i35 :: some i36 :: some i37 :: some i38 :: some i39 :: some i40 :: some i41 :: some i42 :: some i43 :: some i44 :: some i45 :: some i46 :: some i47 :: some i48 :: some i49 :: some i50 :: some i51 :: some i52 :: some i53 :: some i54 :: some i55 :: some i56 :: some i57 :: some i58 :: some i59 :: some i60 :: some i61 :: some i62 :: some i63 :: some i64 :: some i65 :: some i66 :: some i67 :: some i68 :: some i69 :: some i70 :: some i71 :: some i72 :: some i73 :: some i74 :: some i75 :: some i76 :: some i77 :: some i78 :: some i79 :: some i80 :: some i81 :: some i82 :: some i83 :: some i84 :: some i85 :: some i86 :: some i87 :: some i88 :: some i89 :: some i90 :: some i91 :: some i92 :: some i93 :: some i94 :: some i95 :: some i96 :: some i97 :: some i98 :: some i99 :: some i100 :: some i101 :: some i102 :: some i103 :: some i104 :: some i105 :: some i106 :: some i107 :: some i108 :: some i109 :: some i110 :: some i111 :: some i112 :: some i113 :: some i114 :: some i115 :: some i116 :: some i117 :: some i118 :: some i119 :: some i120 :: some i121 :: some i122 :: some i123 :: some i124 :: some i125 :: some i126 :: some i127 :: some i128 :: some i129 :: some i130 :: some i131 :: some i132 :: some i133 :: some i134 :: some i135 :: []
theorem tb_ok : TbOK Tryz.prog tb := fun T t h => by
  have := tb_of (P := Tryz.prog) (k := 0) (l := tb) (by exact ⟨k0, ⟨k1, ⟨k2, ⟨k3, ⟨k4, ⟨k5, ⟨k6, ⟨k7, ⟨k8, ⟨k9, ⟨k10, ⟨k11, ⟨k12, ⟨k13, ⟨k14, ⟨k15, ⟨k16, ⟨k17, ⟨k18, ⟨k19, ⟨k20, ⟨k21, ⟨k22, ⟨k23, ⟨k24, ⟨k25, ⟨k26, ⟨k27, ⟨k28, ⟨k29, ⟨k30, ⟨k31, ⟨k32, ⟨k33, ⟨k34, ⟨k35, ⟨k36, ⟨k37, ⟨k38, ⟨k39, ⟨k40, ⟨k41, ⟨k42, ⟨k43, ⟨k44, ⟨k45, ⟨k46, ⟨k47, ⟨k48, ⟨k49, ⟨k50, ⟨k51, ⟨k52, ⟨k53, ⟨k54, ⟨k55, ⟨k56, ⟨k57, ⟨k58, ⟨k59, ⟨k60, ⟨k61, ⟨k62, ⟨k63, ⟨k64, ⟨k65, ⟨k66, ⟨k67, ⟨k68, ⟨k69, ⟨k70, ⟨k71, ⟨k72, ⟨k73, ⟨k74, ⟨k75, ⟨k76, ⟨k77, ⟨k78, ⟨k79, ⟨k80, ⟨k81, ⟨k82, ⟨k83, ⟨k84, ⟨k85, ⟨k86, ⟨k87, ⟨k88, ⟨k89, ⟨k90, ⟨k91, ⟨k92, ⟨k93, ⟨k94, ⟨k95, ⟨k96, ⟨k97, ⟨k98, ⟨k99, ⟨k100, ⟨k101, ⟨k102, ⟨k103, ⟨k104, ⟨k105, ⟨k106, ⟨k107, ⟨k108, ⟨k109, ⟨k110, ⟨k111, ⟨k112, ⟨k113, ⟨k114, ⟨k115, ⟨k116, ⟨k117, ⟨k118, ⟨k119, ⟨k120, ⟨k121, ⟨k122, ⟨k123, ⟨k124, ⟨k125, ⟨k126, ⟨k127, ⟨k128, ⟨k129, ⟨k130, ⟨k131, ⟨k132, ⟨k133, ⟨k134, ⟨k135, trivial⟩⟩⟩⟩⟩⟩⟩⟩⟩⟩⟩⟩⟩⟩⟩⟩⟩⟩⟩⟩⟩⟩⟩⟩⟩⟩⟩⟩⟩⟩⟩⟩⟩⟩⟩⟩⟩⟩⟩⟩⟩⟩⟩⟩⟩⟩⟩⟩⟩⟩⟩⟩⟩⟩⟩⟩⟩⟩⟩⟩⟩⟩⟩⟩⟩⟩⟩⟩⟩⟩⟩⟩⟩⟩⟩⟩⟩⟩⟩⟩⟩⟩⟩⟩⟩⟩⟩⟩⟩⟩⟩⟩⟩⟩⟩⟩⟩⟩⟩⟩⟩⟩⟩⟩⟩⟩⟩⟩⟩⟩⟩⟩⟩⟩⟩⟩⟩⟩⟩⟩⟩⟩⟩⟩⟩⟩⟩⟩⟩⟩⟩⟩⟩⟩⟩⟩) T t h
  rwa [Nat.zero_add] at this
theorem mixed : Tryz.prog.follows .mixedOrders = true := by kernel_rfl
end Go.Proofs.YtfjhibplplcjjaaGreat.V
set_option linter.unusedVariables false
set_option linter.unusedSimpArgs false
namespace Go.Proofs.YtfjhibplplcjjaaGreat.V
open Go Go.Proofs
abbrev p_spec_Kids : Pt := [(0, .lst .node), (1, .int .i64)]
abbrev q_spec_Kids : Pt := [(0, .own .int 3)]
abbrev p_spec_Kids_0 : Pt := [(0, .lst .node), (1, .int .i64), (5, .own .int 3), (6, .int .i64)]
abbrev x_spec_Kids_0 : List (Xt × Pt) := [(.ex 0, [(5, .own .int 3)])]
noncomputable def m_spec_Kids_0 : Tup p_spec_Kids_0 → Option (Stp (Tup p_spec_Kids_0) (SumT (x_spec_Kids_0.map (·.2)))) := fun (x : List Node × Int × List Int × Int) => Option.bind (atI x.1 x.2.1) fun (v : Node) => bif decide (x.2.2.2 < IntKind.wrap .i64 (x.2.1 + Node.size v)) then Option.bind (appL x.2.2.1 [x.2.2.2]) fun (r : List Int) => Option.bind (atI x.1 x.2.2.2) fun (v : Node) => some (Stp.nx (x.1, x.2.1, r, IntKind.wrap .i64 (x.2.2.2 + Node.size v))) else some (Stp.out x.2.2.1)
noncomputable def m_spec_Kids : Tup p_spec_Kids → Option (Tup q_spec_Kids) := fun (x : List Node × Int) => Option.bind (loopO m_spec_Kids_0 (x.1, x.2, [], IntKind.wrap .i64 (x.2 + (1 : Int)))) fun (y : List Int) => some y
noncomputable def cx_spec_Kids : Cx := ⟨tb, lookE [], lookS []⟩
theorem ck_spec_Kids : CxOK Tryz.prog (cx_spec_Kids) := cx_ok tb_ok .nil
noncomputable def c_spec_Kids_0 : Code := loopAt (Go.Proofs.Tryz.f24.body.getD .skip) 0
noncomputable def l_spec_Kids_0 : LEnt := ⟨p_spec_Kids_0, x_spec_Kids_0, loopO (m_spec_Kids_0)⟩
theorem lo_spec_Kids_0 : LOK Tryz.prog 30 0 false (l_spec_Kids_0) c_spec_Kids_0 := loop_ok (body := m_spec_Kids_0) (L := lookL []) (ck_spec_Kids) mixed (ls_ok (l := []) (by kernel_rfl) .nil) (by intro x; kernel_rfl) (fun x y h => loopO_iff.1 h)
noncomputable def e_spec_Kids : Ent := ⟨0, p_spec_Kids, q_spec_Kids, m_spec_Kids⟩
theorem ok_spec_Kids : FnOK Tryz.prog 24 e_spec_Kids := fn_ok (L := lookL [(0, l_spec_Kids_0)]) ck_spec_Kids mixed Tryz.func24 rfl (by kernel_rfl) (by kernel_rfl) (ls_ok (l := [(0, c_spec_Kids_0)]) (by kernel_rfl) (.cons rfl (lo_spec_Kids_0) .nil)) (by intro x; kernel_rfl)
abbrev p_spec_Parent : Pt := [(0, .lst .node), (1, .int .i64)]
abbrev q_spec_Parent : Pt := [(0, .int .i64)]
abbrev p_spec_Parent_0 : Pt := [(0, .lst .node), (1, .int .i64), (5, .int .i64)]
abbrev x_spec_Parent_0 : List (Xt × Pt) := [(.ex 0, []), (.rt, [(4, .int .i64)])]
noncomputable def m_spec_Parent_0 : Tup p_spec_Parent_0 → Option (Stp (Tup p_spec_Parent_0) (SumT (x_spec_Parent_0.map (·.2)))) := fun (x : List Node × Int × Int) => bif decide ((0 : Int) ≤ x.2.2) then Option.bind (atI x.1 x.2.2) fun (v : Node) => bif decide (x.2.1 < IntKind.wrap .i64 (x.2.2 + Node.size v)) then some (Stp.out (Sum.inr x.2.2)) else some (Stp.nx (x.1, x.2.1, IntKind.wrap .i64 (x.2.2 - (1 : Int)))) else some (Stp.out (Sum.inl ()))
noncomputable def m_spec_Parent : Tup p_spec_Parent → Option (Tup q_spec_Parent) := fun (x : List Node × Int) => Option.bind (loopO m_spec_Parent_0 (x.1, x.2, IntKind.wrap .i64 (x.2 - (1 : Int)))) fun (y : PUnit ⊕ Int) => selim (fun (y : PUnit) => some (-1 : Int)) (fun (y : Int) => some y) y
noncomputable def cx_spec_Parent : Cx := ⟨tb, lookE [], lookS []⟩
theorem ck_spec_Parent : CxOK Tryz.prog (cx_spec_Parent) := cx_ok tb_ok .nil
noncomputable def c_spec_Parent_0 : Code := loopAt (Go.Proofs.Tryz.f26.body.getD .skip) 0
noncomputable def l_spec_Parent_0 : LEnt := ⟨p_spec_Parent_0, x_spec_Parent_0, loopO (m_spec_Parent_0)⟩
theorem lo_spec_Parent_0 : LOK Tryz.prog 22 0 false (l_spec_Parent_0) c_spec_Parent_0 := loop_ok (body := m_spec_Parent_0) (L := lookL []) (ck_spec_Parent) mixed (ls_ok (l := []) (by kernel_rfl) .nil) (by intro x; kernel_rfl) (fun x y h => loopO_iff.1 h)
noncomputable def e_spec_Parent : Ent := ⟨0, p_spec_Parent, q_spec_Parent, m_spec_Parent⟩
theorem ok_spec_Parent : FnOK Tryz.prog 26 e_spec_Parent := fn_ok (L := lookL [(0, l_spec_Parent_0)]) ck_spec_Parent mixed Tryz.func26 rfl (by kernel_rfl) (by kernel_rfl) (ls_ok (l := [(0, c_spec_Parent_0)]) (by kernel_rfl) (.cons rfl (lo_spec_Parent_0) .nil)) (by intro x; kernel_rfl)
abbrev p_spec_sized : Pt := [(0, .lst .node), (1, .int .i64), (2, .int .i64), (3, .int .i64)]
abbrev q_spec_sized : Pt := [(0, .bool)]
abbrev p_spec_sized_0 : Pt := [(0, .lst .node), (1, .int .i64), (3, .int .i64), (9, .int .i64), (10, .int .i64)]
abbrev x_spec_sized_0 : List (Xt × Pt) := [(.ex 0, []), (.rt, [(8, .bool)])]
noncomputable def m_spec_sized_0 (m_spec_sized : Tup p_spec_sized → Option (Tup q_spec_sized)) : Tup p_spec_sized_0 → Option (Stp (Tup p_spec_sized_0) (SumT (x_spec_sized_0.map (·.2)))) := fun (x : List Node × Int × Int × Int × Int) => bif decide (x.2.2.2.2 < IntKind.wrap .i64 (x.2.1 + x.2.2.2.1)) then Option.bind (m_spec_sized (x.1, x.2.2.2.2, IntKind.wrap .i64 (x.2.1 + x.2.2.2.1), IntKind.wrap .i64 (x.2.2.1 - (1 : Int)))) fun (r : Bool) => bif !r then some (Stp.out (Sum.inr false)) else Option.bind (atI x.1 x.2.2.2.2) fun (v : Node) => some (Stp.nx (x.1, x.2.1, x.2.2.1, x.2.2.2.1, IntKind.wrap .i64 (x.2.2.2.2 + Node.size v))) else some (Stp.out (Sum.inl ()))
noncomputable def b_spec_sized (m_spec_sized : Tup p_spec_sized → Option (Tup q_spec_sized)) : Tup p_spec_sized → Option (Tup q_spec_sized) := fun (x : List Node × Int × Int × Int) => Option.bind (atI x.1 x.2.1) fun (v : Node) => bif decide (x.2.2.2 = (0 : Int)) then some false else bif decide (Node.size v < (1 : Int)) then some false else bif decide (IntKind.wrap .i64 (x.2.2.1 - x.2.1) < Node.size v) then some false else Option.bind (loopO (m_spec_sized_0 m_spec_sized) (x.1, x.2.1, x.2.2.2, Node.size v, IntKind.wrap .i64 (x.2.1 + (1 : Int)))) fun (y : PUnit ⊕ Bool) => selim (fun (y : PUnit) => some true) (fun (y : Bool) => some y) y
noncomputable def m_spec_sized : Nat → Tup p_spec_sized → Option (Tup q_spec_sized)
  | 0 => fun _ => none
  | n + 1 => b_spec_sized (m_spec_sized n)
noncomputable def cx_spec_sized (n : Nat) : Cx := ⟨tb, lookE [(20, ⟨0, p_spec_sized, q_spec_sized, m_spec_sized n⟩)], lookS []⟩
theorem ck_spec_sized (n : Nat) (ih0 : FnOK Tryz.prog 20 ⟨0, p_spec_sized, q_spec_sized, m_spec_sized n⟩) : CxOK Tryz.prog (cx_spec_sized n) := cx_ok tb_ok (.cons ih0 Tryz.call20 .nil)
noncomputable def c_spec_sized_0 : Code := loopAt (Go.Proofs.Tryz.f20.body.getD .skip) 0
noncomputable def l_spec_sized_0 (n : Nat) : LEnt := ⟨p_spec_sized_0, x_spec_sized_0, loopO (m_spec_sized_0 (m_spec_sized n))⟩
theorem lo_spec_sized_0 (n : Nat) (ih0 : FnOK Tryz.prog 20 ⟨0, p_spec_sized, q_spec_sized, m_spec_sized n⟩) : LOK Tryz.prog 52 0 false (l_spec_sized_0 n) c_spec_sized_0 := loop_ok (body := m_spec_sized_0 (m_spec_sized n)) (L := lookL []) (ck_spec_sized n ih0) mixed (ls_ok (l := []) (by kernel_rfl) .nil) (by intro x; kernel_rfl) (fun x y h => loopO_iff.1 h)
theorem st_spec_sized (n : Nat) (ih0 : FnOK Tryz.prog 20 ⟨0, p_spec_sized, q_spec_sized, m_spec_sized n⟩) : FnOK Tryz.prog 20 ⟨0, p_spec_sized, q_spec_sized, m_spec_sized (n + 1)⟩ := fn_ok (ent := ⟨0, p_spec_sized, q_spec_sized, m_spec_sized (n + 1)⟩) (L := lookL [(0, l_spec_sized_0 n)]) (ck_spec_sized n ih0) mixed Tryz.func20 rfl (by kernel_rfl) (by kernel_rfl) (ls_ok (l := [(0, c_spec_sized_0)]) (by kernel_rfl) (.cons rfl (lo_spec_sized_0 n ih0) .nil)) (by intro x; kernel_rfl)
theorem ok0_spec_sized : ∀ n, FnOK Tryz.prog 20 ⟨0, p_spec_sized, q_spec_sized, m_spec_sized n⟩
  | 0 => fun x r h => by cases h
  | n + 1 => (fun ih => st_spec_sized n ih) (ok0_spec_sized n)
noncomputable def e_spec_sized : Ent := ⟨0, p_spec_sized, q_spec_sized, m_spec_sized big⟩
theorem ok_spec_sized : FnOK Tryz.prog 20 e_spec_sized := (ok0_spec_sized big)
abbrev p_laws_zzFits4 : Pt := [(0, .el .attr)]
abbrev q_laws_zzFits4 : Pt := [(0, .bool)]
noncomputable def m_laws_zzFits4 : Tup p_laws_zzFits4 → Option (Tup q_laws_zzFits4) := fun (x : Attr) => bif decide ((2147483647 : Int) < (↑(List.length (Attr.key x)) : Int)) then some false else bif decide ((2147483647 : Int) < (↑(List.length (Attr.val x)) : Int)) then some false else some true
noncomputable def cx_laws_zzFits4 : Cx := ⟨tb, lookE [], lookS []⟩
theorem ck_laws_zzFits4 : CxOK Tryz.prog (cx_laws_zzFits4) := cx_ok tb_ok .nil
noncomputable def e_laws_zzFits4 : Ent := ⟨0, p_laws_zzFits4, q_laws_zzFits4, m_laws_zzFits4⟩
theorem ok_laws_zzFits4 : FnOK Tryz.prog 35 e_laws_zzFits4 := fn_ok (L := lookL []) ck_laws_zzFits4 mixed Tryz.func35 rfl (by kernel_rfl) (by kernel_rfl) (ls_ok (l := []) (by kernel_rfl) .nil) (by intro x; kernel_rfl)
abbrev p_laws_zzFits3 : Pt := [(0, .lst .attr)]
abbrev q_laws_zzFits3 : Pt := [(0, .bool)]
abbrev p_laws_zzFits3_0 : Pt := [(8, .lst .attr), (9, .int .i64), (10, .int .i64)]
abbrev x_laws_zzFits3_0 : List (Xt × Pt) := [(.ex 0, []), (.rt, [(2, .bool)])]
noncomputable def m_laws_zzFits3_0 : Tup p_laws_zzFits3_0 → Option (Stp (Tup p_laws_zzFits3_0) (SumT (x_laws_zzFits3_0.map (·.2)))) := fun (x : List Attr × Int × Int) => bif decide (x.2.2 < x.2.1) then Option.bind (atI x.1 x.2.2) fun (v : Attr) => Option.bind (m_laws_zzFits4 { key := Attr.key v, val := Attr.val v }) fun (r : Bool) => bif !r then some (Stp.out (Sum.inr false)) else some (Stp.nx (x.1, x.2.1, IntKind.wrap .i64 (x.2.2 + (1 : Int)))) else some (Stp.out (Sum.inl ()))
noncomputable def m_laws_zzFits3 : Tup p_laws_zzFits3 → Option (Tup q_laws_zzFits3) := fun (x : List Attr) => bif decide ((2147483647 : Int) < (↑(List.length x) : Int)) then some false else Option.bind (loopO m_laws_zzFits3_0 (x, (↑(List.length x) : Int), (0 : Int))) fun (y : PUnit ⊕ Bool) => selim (fun (y : PUnit) => some true) (fun (y : Bool) => some y) y
noncomputable def cx_laws_zzFits3 : Cx := ⟨tb, lookE [(35, e_laws_zzFits4)], lookS []⟩
theorem ck_laws_zzFits3 : CxOK Tryz.prog (cx_laws_zzFits3) := cx_ok tb_ok (.cons ok_laws_zzFits4 Tryz.call35 .nil)
noncomputable def c_laws_zzFits3_0 : Code := loopAt (Go.Proofs.Tryz.f19.body.getD .skip) 0
noncomputable def l_laws_zzFits3_0 : LEnt := ⟨p_laws_zzFits3_0, x_laws_zzFits3_0, loopO (m_laws_zzFits3_0)⟩
theorem lo_laws_zzFits3_0 : LOK Tryz.prog 18 0 false (l_laws_zzFits3_0) c_laws_zzFits3_0 := loop_ok (body := m_laws_zzFits3_0) (L := lookL []) (ck_laws_zzFits3) mixed (ls_ok (l := []) (by kernel_rfl) .nil) (by intro x; kernel_rfl) (fun x y h => loopO_iff.1 h)
noncomputable def e_laws_zzFits3 : Ent := ⟨0, p_laws_zzFits3, q_laws_zzFits3, m_laws_zzFits3⟩
theorem ok_laws_zzFits3 : FnOK Tryz.prog 19 e_laws_zzFits3 := fn_ok (L := lookL [(0, l_laws_zzFits3_0)]) ck_laws_zzFits3 mixed Tryz.func19 rfl (by kernel_rfl) (by kernel_rfl) (ls_ok (l := [(0, c_laws_zzFits3_0)]) (by kernel_rfl) (.cons rfl (lo_laws_zzFits3_0) .nil)) (by intro x; kernel_rfl)
abbrev p_laws_zzFits2 : Pt := [(0, .el .node)]
abbrev q_laws_zzFits2 : Pt := [(0, .bool)]
noncomputable def m_laws_zzFits2 : Tup p_laws_zzFits2 → Option (Tup q_laws_zzFits2) := fun (x : Node) => bif decide ((2147483647 : Int) < (↑(List.length (Node.tag x)) : Int)) then some false else bif decide ((2147483647 : Int) < (↑(List.length (Node.text x)) : Int)) then some false else Option.bind (m_laws_zzFits3 (Node.attrs x)) fun (r : Bool) => bif !r then some false else some true
noncomputable def cx_laws_zzFits2 : Cx := ⟨tb, lookE [(19, e_laws_zzFits3)], lookS []⟩
theorem ck_laws_zzFits2 : CxOK Tryz.prog (cx_laws_zzFits2) := cx_ok tb_ok (.cons ok_laws_zzFits3 Tryz.call19 .nil)
noncomputable def e_laws_zzFits2 : Ent := ⟨0, p_laws_zzFits2, q_laws_zzFits2, m_laws_zzFits2⟩
theorem ok_laws_zzFits2 : FnOK Tryz.prog 10 e_laws_zzFits2 := fn_ok (L := lookL []) ck_laws_zzFits2 mixed Tryz.func10 rfl (by kernel_rfl) (by kernel_rfl) (ls_ok (l := []) (by kernel_rfl) .nil) (by intro x; kernel_rfl)
abbrev p_laws_zzFits1 : Pt := [(0, .lst .node)]
abbrev q_laws_zzFits1 : Pt := [(0, .bool)]
abbrev p_laws_zzFits1_0 : Pt := [(8, .lst .node), (9, .int .i64), (10, .int .i64)]
abbrev x_laws_zzFits1_0 : List (Xt × Pt) := [(.ex 0, []), (.rt, [(2, .bool)])]
noncomputable def m_laws_zzFits1_0 : Tup p_laws_zzFits1_0 → Option (Stp (Tup p_laws_zzFits1_0) (SumT (x_laws_zzFits1_0.map (·.2)))) := fun (x : List Node × Int × Int) => bif decide (x.2.2 < x.2.1) then Option.bind (atI x.1 x.2.2) fun (v : Node) => Option.bind (m_laws_zzFits2 { kind := Node.kind v, tag := Node.tag v, text := Node.text v, attrs := Node.attrs v, size := Node.size v }) fun (r : Bool) => bif !r then some (Stp.out (Sum.inr false)) else some (Stp.nx (x.1, x.2.1, IntKind.wrap .i64 (x.2.2 + (1 : Int)))) else some (Stp.out (Sum.inl ()))
noncomputable def m_laws_zzFits1 : Tup p_laws_zzFits1 → Option (Tup q_laws_zzFits1) := fun (x : List Node) => bif decide ((2147483647 : Int) < (↑(List.length x) : Int)) then some false else Option.bind (loopO m_laws_zzFits1_0 (x, (↑(List.length x) : Int), (0 : Int))) fun (y : PUnit ⊕ Bool) => selim (fun (y : PUnit) => some true) (fun (y : Bool) => some y) y
noncomputable def cx_laws_zzFits1 : Cx := ⟨tb, lookE [(10, e_laws_zzFits2)], lookS []⟩
theorem ck_laws_zzFits1 : CxOK Tryz.prog (cx_laws_zzFits1) := cx_ok tb_ok (.cons ok_laws_zzFits2 Tryz.call10 .nil)
noncomputable def c_laws_zzFits1_0 : Code := loopAt (Go.Proofs.Tryz.f4.body.getD .skip) 0
noncomputable def l_laws_zzFits1_0 : LEnt := ⟨p_laws_zzFits1_0, x_laws_zzFits1_0, loopO (m_laws_zzFits1_0)⟩
theorem lo_laws_zzFits1_0 : LOK Tryz.prog 18 0 false (l_laws_zzFits1_0) c_laws_zzFits1_0 := loop_ok (body := m_laws_zzFits1_0) (L := lookL []) (ck_laws_zzFits1) mixed (ls_ok (l := []) (by kernel_rfl) .nil) (by intro x; kernel_rfl) (fun x y h => loopO_iff.1 h)
noncomputable def e_laws_zzFits1 : Ent := ⟨0, p_laws_zzFits1, q_laws_zzFits1, m_laws_zzFits1⟩
theorem ok_laws_zzFits1 : FnOK Tryz.prog 4 e_laws_zzFits1 := fn_ok (L := lookL [(0, l_laws_zzFits1_0)]) ck_laws_zzFits1 mixed Tryz.func4 rfl (by kernel_rfl) (by kernel_rfl) (ls_ok (l := [(0, c_laws_zzFits1_0)]) (by kernel_rfl) (.cons rfl (lo_laws_zzFits1_0) .nil)) (by intro x; kernel_rfl)
abbrev p_spec_Name : Pt := [(0, .str)]
abbrev q_spec_Name : Pt := [(0, .bool)]
abbrev p_spec_Name_0 : Pt := [(0, .str), (3, .int .i64)]
abbrev x_spec_Name_0 : List (Xt × Pt) := [(.ex 0, []), (.rt, [(2, .bool)])]
noncomputable def m_spec_Name_0 : Tup p_spec_Name_0 → Option (Stp (Tup p_spec_Name_0) (SumT (x_spec_Name_0.map (·.2)))) := fun (x : List UInt8 × Int) => bif decide (x.2 < (↑(List.length x.1) : Int)) then Option.bind (atI x.1 x.2) fun (c : UInt8) => bif decide ((97 : Int) ≤ (↑(UInt8.toNat c) : Int)) then Option.bind (atI x.1 x.2) fun (c : UInt8) => bif decide ((↑(UInt8.toNat c) : Int) ≤ (122 : Int)) then some (Stp.nx (x.1, IntKind.wrap .i64 (x.2 + (1 : Int)))) else Option.bind (atI x.1 x.2) fun (c : UInt8) => bif decide ((48 : Int) ≤ (↑(UInt8.toNat c) : Int)) then Option.bind (atI x.1 x.2) fun (c : UInt8) => bif decide ((↑(UInt8.toNat c) : Int) ≤ (57 : Int)) then some (Stp.nx (x.1, IntKind.wrap .i64 (x.2 + (1 : Int)))) else Option.bind (atI x.1 x.2) fun (c : UInt8) => bif !decide ((↑(UInt8.toNat c) : Int) = (45 : Int)) then some (Stp.out (Sum.inr false)) else some (Stp.nx (x.1, IntKind.wrap .i64 (x.2 + (1 : Int)))) else Option.bind (atI x.1 x.2) fun (c : UInt8) => bif !decide ((↑(UInt8.toNat c) : Int) = (45 : Int)) then some (Stp.out (Sum.inr false)) else some (Stp.nx (x.1, IntKind.wrap .i64 (x.2 + (1 : Int)))) else Option.bind (atI x.1 x.2) fun (c : UInt8) => bif decide ((48 : Int) ≤ (↑(UInt8.toNat c) : Int)) then Option.bind (atI x.1 x.2) fun (c : UInt8) => bif decide ((↑(UInt8.toNat c) : Int) ≤ (57 : Int)) then some (Stp.nx (x.1, IntKind.wrap .i64 (x.2 + (1 : Int)))) else Option.bind (atI x.1 x.2) fun (c : UInt8) => bif !decide ((↑(UInt8.toNat c) : Int) = (45 : Int)) then some (Stp.out (Sum.inr false)) else some (Stp.nx (x.1, IntKind.wrap .i64 (x.2 + (1 : Int)))) else Option.bind (atI x.1 x.2) fun (c : UInt8) => bif !decide ((↑(UInt8.toNat c) : Int) = (45 : Int)) then some (Stp.out (Sum.inr false)) else some (Stp.nx (x.1, IntKind.wrap .i64 (x.2 + (1 : Int)))) else some (Stp.out (Sum.inl ()))
noncomputable def m_spec_Name : Tup p_spec_Name → Option (Tup q_spec_Name) := fun (x : List UInt8) => bif decide ((↑(List.length x) : Int) = (0 : Int)) then some false else bif decide ((40 : Int) < (↑(List.length x) : Int)) then some false else Option.bind (atI x (0 : Int)) fun (c : UInt8) => bif decide ((↑(UInt8.toNat c) : Int) < (97 : Int)) then some false else Option.bind (atI x (0 : Int)) fun (c : UInt8) => bif decide ((122 : Int) < (↑(UInt8.toNat c) : Int)) then some false else Option.bind (loopO m_spec_Name_0 (x, (1 : Int))) fun (y : PUnit ⊕ Bool) => selim (fun (y : PUnit) => some true) (fun (y : Bool) => some y) y
noncomputable def cx_spec_Name : Cx := ⟨tb, lookE [], lookS []⟩
theorem ck_spec_Name : CxOK Tryz.prog (cx_spec_Name) := cx_ok tb_ok .nil
noncomputable def c_spec_Name_0 : Code := loopAt (Go.Proofs.Tryz.f38.body.getD .skip) 0
noncomputable def l_spec_Name_0 : LEnt := ⟨p_spec_Name_0, x_spec_Name_0, loopO (m_spec_Name_0)⟩
theorem lo_spec_Name_0 : LOK Tryz.prog 57 0 false (l_spec_Name_0) c_spec_Name_0 := loop_ok (body := m_spec_Name_0) (L := lookL []) (ck_spec_Name) mixed (ls_ok (l := []) (by kernel_rfl) .nil) (by intro x; kernel_rfl) (fun x y h => loopO_iff.1 h)
noncomputable def e_spec_Name : Ent := ⟨0, p_spec_Name, q_spec_Name, m_spec_Name⟩
theorem ok_spec_Name : FnOK Tryz.prog 38 e_spec_Name := fn_ok (L := lookL [(0, l_spec_Name_0)]) ck_spec_Name mixed Tryz.func38 rfl (by kernel_rfl) (by kernel_rfl) (ls_ok (l := [(0, c_spec_Name_0)]) (by kernel_rfl) (.cons rfl (lo_spec_Name_0) .nil)) (by intro x; kernel_rfl)
abbrev p_spec_Point : Pt := [(0, .str), (1, .int .i64)]
abbrev q_spec_Point : Pt := [(0, .int .i64), (1, .int .i64)]
abbrev p_spec_Point_0 : Pt := [(0, .str), (1, .int .i64), (4, .int .i64), (7, .int .i64), (8, .int .i64), (9, .int .i64)]
abbrev x_spec_Point_0 : List (Xt × Pt) := [(.ex 1, [(4, .int .i64), (7, .int .i64), (8, .int .i64)]), (.rt, [(4, .int .i64), (5, .int .i64)])]
noncomputable def m_spec_Point_0 : Tup p_spec_Point_0 → Option (Stp (Tup p_spec_Point_0) (SumT (x_spec_Point_0.map (·.2)))) := fun (x : List UInt8 × Int × Int × Int × Int × Int) => bif decide (x.2.2.2.2.2 ≤ x.2.2.2.2.1) then Option.bind (atI x.1 (IntKind.wrap .i64 (x.2.1 + x.2.2.2.2.2))) fun (c : UInt8) => bif decide (IntKind.wrap .i64 (↑(UInt8.toNat c) : Int) < (128 : Int)) then some (Stp.out (Sum.inr ((0 : Int), (0 : Int)))) else bif decide ((192 : Int) ≤ IntKind.wrap .i64 (↑(UInt8.toNat c) : Int)) then some (Stp.out (Sum.inr ((0 : Int), (0 : Int)))) else Option.bind (shlI Go.IntKind.i64 x.2.2.1 (6 : Int)) fun (n : Int) => some (Stp.nx (x.1, x.2.1, IntKind.wrap .i64 (IntKind.wrap .i64 (n + IntKind.wrap .i64 (↑(UInt8.toNat c) : Int)) - (128 : Int)), x.2.2.2.1, x.2.2.2.2.1, IntKind.wrap .i64 (x.2.2.2.2.2 + (1 : Int)))) else some (Stp.out (Sum.inl (x.2.2.1, x.2.2.2.1, x.2.2.2.2.1)))
noncomputable def m_spec_Point : Tup p_spec_Point → Option (Tup q_spec_Point) := fun (x : List UInt8 × Int) => Option.bind (atI x.1 x.2) fun (c : UInt8) => bif decide (IntKind.wrap .i64 (↑(UInt8.toNat c) : Int) < (128 : Int)) then some (IntKind.wrap .i64 (↑(UInt8.toNat c) : Int), (1 : Int)) else bif decide ((192 : Int) ≤ IntKind.wrap .i64 (↑(UInt8.toNat c) : Int)) then bif decide (IntKind.wrap .i64 (↑(UInt8.toNat c) : Int) < (224 : Int)) then bif decide (IntKind.wrap .i64 ((↑(List.length x.1) : Int) - x.2) ≤ (1 : Int)) then some ((0 : Int), (0 : Int)) else Option.bind (loopO m_spec_Point_0 (x.1, x.2, IntKind.wrap .i64 (IntKind.wrap .i64 (↑(UInt8.toNat c) : Int) - (192 : Int)), (128 : Int), (1 : Int), (1 : Int))) fun (y : Int × Int × Int ⊕ Int × Int) => selim (fun (y : Int × Int × Int) => bif decide (y.1 < y.2.1) then some ((0 : Int), (0 : Int)) else bif decide ((1114111 : Int) < y.1) then some ((0 : Int), (0 : Int)) else bif decide ((55296 : Int) ≤ y.1) then bif decide (y.1 < (57344 : Int)) then some ((0 : Int), (0 : Int)) else some (y.1, IntKind.wrap .i64 (y.2.2 + (1 : Int))) else some (y.1, IntKind.wrap .i64 (y.2.2 + (1 : Int)))) (fun (y : Int × Int) => some (y.1, y.2)) y else bif decide ((224 : Int) ≤ IntKind.wrap .i64 (↑(UInt8.toNat c) : Int)) then bif decide (IntKind.wrap .i64 (↑(UInt8.toNat c) : Int) < (240 : Int)) then bif decide (IntKind.wrap .i64 ((↑(List.length x.1) : Int) - x.2) ≤ (2 : Int)) then some ((0 : Int), (0 : Int)) else Option.bind (loopO m_spec_Point_0 (x.1, x.2, IntKind.wrap .i64 (IntKind.wrap .i64 (↑(UInt8.toNat c) : Int) - (224 : Int)), (2048 : Int), (2 : Int), (1 : Int))) fun (y : Int × Int × Int ⊕ Int × Int) => selim (fun (y : Int × Int × Int) => bif decide (y.1 < y.2.1) then some ((0 : Int), (0 : Int)) else bif decide ((1114111 : Int) < y.1) then some ((0 : Int), (0 : Int)) else bif decide ((55296 : Int) ≤ y.1) then bif decide (y.1 < (57344 : Int)) then some ((0 : Int), (0 : Int)) else some (y.1, IntKind.wrap .i64 (y.2.2 + (1 : Int))) else some (y.1, IntKind.wrap .i64 (y.2.2 + (1 : Int)))) (fun (y : Int × Int) => some (y.1, y.2)) y else bif decide ((240 : Int) ≤ IntKind.wrap .i64 (↑(UInt8.toNat c) : Int)) then bif decide (IntKind.wrap .i64 (↑(UInt8.toNat c) : Int) < (248 : Int)) then bif decide (IntKind.wrap .i64 ((↑(List.length x.1) : Int) - x.2) ≤ (3 : Int)) then some ((0 : Int), (0 : Int)) else Option.bind (loopO m_spec_Point_0 (x.1, x.2, IntKind.wrap .i64 (IntKind.wrap .i64 (↑(UInt8.toNat c) : Int) - (240 : Int)), (65536 : Int), (3 : Int), (1 : Int))) fun (y : Int × Int × Int ⊕ Int × Int) => selim (fun (y : Int × Int × Int) => bif decide (y.1 < y.2.1) then some ((0 : Int), (0 : Int)) else bif decide ((1114111 : Int) < y.1) then some ((0 : Int), (0 : Int)) else bif decide ((55296 : Int) ≤ y.1) then bif decide (y.1 < (57344 : Int)) then some ((0 : Int), (0 : Int)) else some (y.1, IntKind.wrap .i64 (y.2.2 + (1 : Int))) else some (y.1, IntKind.wrap .i64 (y.2.2 + (1 : Int)))) (fun (y : Int × Int) => some (y.1, y.2)) y else some ((0 : Int), (0 : Int)) else some ((0 : Int), (0 : Int)) else bif decide ((240 : Int) ≤ IntKind.wrap .i64 (↑(UInt8.toNat c) : Int)) then bif decide (IntKind.wrap .i64 (↑(UInt8.toNat c) : Int) < (248 : Int)) then bif decide (IntKind.wrap .i64 ((↑(List.length x.1) : Int) - x.2) ≤ (3 : Int)) then some ((0 : Int), (0 : Int)) else Option.bind (loopO m_spec_Point_0 (x.1, x.2, IntKind.wrap .i64 (IntKind.wrap .i64 (↑(UInt8.toNat c) : Int) - (240 : Int)), (65536 : Int), (3 : Int), (1 : Int))) fun (y : Int × Int × Int ⊕ Int × Int) => selim (fun (y : Int × Int × Int) => bif decide (y.1 < y.2.1) then some ((0 : Int), (0 : Int)) else bif decide ((1114111 : Int) < y.1) then some ((0 : Int), (0 : Int)) else bif decide ((55296 : Int) ≤ y.1) then bif decide (y.1 < (57344 : Int)) then some ((0 : Int), (0 : Int)) else some (y.1, IntKind.wrap .i64 (y.2.2 + (1 : Int))) else some (y.1, IntKind.wrap .i64 (y.2.2 + (1 : Int)))) (fun (y : Int × Int) => some (y.1, y.2)) y else some ((0 : Int), (0 : Int)) else some ((0 : Int), (0 : Int)) else bif decide ((224 : Int) ≤ IntKind.wrap .i64 (↑(UInt8.toNat c) : Int)) then bif decide (IntKind.wrap .i64 (↑(UInt8.toNat c) : Int) < (240 : Int)) then bif decide (IntKind.wrap .i64 ((↑(List.length x.1) : Int) - x.2) ≤ (2 : Int)) then some ((0 : Int), (0 : Int)) else Option.bind (loopO m_spec_Point_0 (x.1, x.2, IntKind.wrap .i64 (IntKind.wrap .i64 (↑(UInt8.toNat c) : Int) - (224 : Int)), (2048 : Int), (2 : Int), (1 : Int))) fun (y : Int × Int × Int ⊕ Int × Int) => selim (fun (y : Int × Int × Int) => bif decide (y.1 < y.2.1) then some ((0 : Int), (0 : Int)) else bif decide ((1114111 : Int) < y.1) then some ((0 : Int), (0 : Int)) else bif decide ((55296 : Int) ≤ y.1) then bif decide (y.1 < (57344 : Int)) then some ((0 : Int), (0 : Int)) else some (y.1, IntKind.wrap .i64 (y.2.2 + (1 : Int))) else some (y.1, IntKind.wrap .i64 (y.2.2 + (1 : Int)))) (fun (y : Int × Int) => some (y.1, y.2)) y else bif decide ((240 : Int) ≤ IntKind.wrap .i64 (↑(UInt8.toNat c) : Int)) then bif decide (IntKind.wrap .i64 (↑(UInt8.toNat c) : Int) < (248 : Int)) then bif decide (IntKind.wrap .i64 ((↑(List.length x.1) : Int) - x.2) ≤ (3 : Int)) then some ((0 : Int), (0 : Int)) else Option.bind (loopO m_spec_Point_0 (x.1, x.2, IntKind.wrap .i64 (IntKind.wrap .i64 (↑(UInt8.toNat c) : Int) - (240 : Int)), (65536 : Int), (3 : Int), (1 : Int))) fun (y : Int × Int × Int ⊕ Int × Int) => selim (fun (y : Int × Int × Int) => bif decide (y.1 < y.2.1) then some ((0 : Int), (0 : Int)) else bif decide ((1114111 : Int) < y.1) then some ((0 : Int), (0 : Int)) else bif decide ((55296 : Int) ≤ y.1) then bif decide (y.1 < (57344 : Int)) then some ((0 : Int), (0 : Int)) else some (y.1, IntKind.wrap .i64 (y.2.2 + (1 : Int))) else some (y.1, IntKind.wrap .i64 (y.2.2 + (1 : Int)))) (fun (y : Int × Int) => some (y.1, y.2)) y else some ((0 : Int), (0 : Int)) else some ((0 : Int), (0 : Int)) else bif decide ((240 : Int) ≤ IntKind.wrap .i64 (↑(UInt8.toNat c) : Int)) then bif decide (IntKind.wrap .i64 (↑(UInt8.toNat c) : Int) < (248 : Int)) then bif decide (IntKind.wrap .i64 ((↑(List.length x.1) : Int) - x.2) ≤ (3 : Int)) then some ((0 : Int), (0 : Int)) else Option.bind (loopO m_spec_Point_0 (x.1, x.2, IntKind.wrap .i64 (IntKind.wrap .i64 (↑(UInt8.toNat c) : Int) - (240 : Int)), (65536 : Int), (3 : Int), (1 : Int))) fun (y : Int × Int × Int ⊕ Int × Int) => selim (fun (y : Int × Int × Int) => bif decide (y.1 < y.2.1) then some ((0 : Int), (0 : Int)) else bif decide ((1114111 : Int) < y.1) then some ((0 : Int), (0 : Int)) else bif decide ((55296 : Int) ≤ y.1) then bif decide (y.1 < (57344 : Int)) then some ((0 : Int), (0 : Int)) else some (y.1, IntKind.wrap .i64 (y.2.2 + (1 : Int))) else some (y.1, IntKind.wrap .i64 (y.2.2 + (1 : Int)))) (fun (y : Int × Int) => some (y.1, y.2)) y else some ((0 : Int), (0 : Int)) else some ((0 : Int), (0 : Int))
noncomputable def cx_spec_Point : Cx := ⟨tb, lookE [], lookS []⟩
theorem ck_spec_Point : CxOK Tryz.prog (cx_spec_Point) := cx_ok tb_ok .nil
noncomputable def c_spec_Point_0 : Code := loopAt (Go.Proofs.Tryz.f67.body.getD .skip) 0
noncomputable def l_spec_Point_0 : LEnt := ⟨p_spec_Point_0, x_spec_Point_0, loopO (m_spec_Point_0)⟩
theorem lo_spec_Point_0 : LOK Tryz.prog 92 0 false (l_spec_Point_0) c_spec_Point_0 := loop_ok (body := m_spec_Point_0) (L := lookL []) (ck_spec_Point) mixed (ls_ok (l := []) (by kernel_rfl) .nil) (by intro x; kernel_rfl) (fun x y h => loopO_iff.1 h)
noncomputable def e_spec_Point : Ent := ⟨0, p_spec_Point, q_spec_Point, m_spec_Point⟩
theorem ok_spec_Point : FnOK Tryz.prog 67 e_spec_Point := fn_ok (L := lookL [(1, l_spec_Point_0)]) ck_spec_Point mixed Tryz.func67 rfl (by kernel_rfl) (by kernel_rfl) (ls_ok (l := [(1, c_spec_Point_0)]) (by kernel_rfl) (.cons rfl (lo_spec_Point_0) .nil)) (by intro x; kernel_rfl)
abbrev p_spec_Plain : Pt := [(0, .str)]
abbrev q_spec_Plain : Pt := [(0, .bool)]
abbrev p_spec_Plain_0 : Pt := [(0, .str), (3, .int .i64)]
abbrev x_spec_Plain_0 : List (Xt × Pt) := [(.ex 0, []), (.rt, [(2, .bool)])]
noncomputable def m_spec_Plain_0 : Tup p_spec_Plain_0 → Option (Stp (Tup p_spec_Plain_0) (SumT (x_spec_Plain_0.map (·.2)))) := fun (x : List UInt8 × Int) => bif decide (x.2 < (↑(List.length x.1) : Int)) then Option.bind (m_spec_Point (x.1, x.2)) fun (r : Int × Int) => bif decide (r.2 = (0 : Int)) then some (Stp.out (Sum.inr false)) else bif decide (r.1 = (0 : Int)) then some (Stp.out (Sum.inr false)) else some (Stp.nx (x.1, IntKind.wrap .i64 (x.2 + r.2))) else some (Stp.out (Sum.inl ()))
noncomputable def m_spec_Plain : Tup p_spec_Plain → Option (Tup q_spec_Plain) := fun (x : List UInt8) => Option.bind (loopO m_spec_Plain_0 (x, (0 : Int))) fun (y : PUnit ⊕ Bool) => selim (fun (y : PUnit) => some true) (fun (y : Bool) => some y) y
noncomputable def cx_spec_Plain : Cx := ⟨tb, lookE [(67, e_spec_Point)], lookS []⟩
theorem ck_spec_Plain : CxOK Tryz.prog (cx_spec_Plain) := cx_ok tb_ok (.cons ok_spec_Point Tryz.call67 .nil)
noncomputable def c_spec_Plain_0 : Code := loopAt (Go.Proofs.Tryz.f36.body.getD .skip) 0
noncomputable def l_spec_Plain_0 : LEnt := ⟨p_spec_Plain_0, x_spec_Plain_0, loopO (m_spec_Plain_0)⟩
theorem lo_spec_Plain_0 : LOK Tryz.prog 25 0 false (l_spec_Plain_0) c_spec_Plain_0 := loop_ok (body := m_spec_Plain_0) (L := lookL []) (ck_spec_Plain) mixed (ls_ok (l := []) (by kernel_rfl) .nil) (by intro x; kernel_rfl) (fun x y h => loopO_iff.1 h)
noncomputable def e_spec_Plain : Ent := ⟨0, p_spec_Plain, q_spec_Plain, m_spec_Plain⟩
theorem ok_spec_Plain : FnOK Tryz.prog 36 e_spec_Plain := fn_ok (L := lookL [(0, l_spec_Plain_0)]) ck_spec_Plain mixed Tryz.func36 rfl (by kernel_rfl) (by kernel_rfl) (ls_ok (l := [(0, c_spec_Plain_0)]) (by kernel_rfl) (.cons rfl (lo_spec_Plain_0) .nil)) (by intro x; kernel_rfl)
abbrev p_spec_rightRoot : Pt := [(0, .lst .node)]
abbrev q_spec_rightRoot : Pt := [(0, .bool)]
abbrev p_spec_rightRoot_0 : Pt := [(0, .lst .node), (3, .own .int 3), (4, .bool), (5, .int .i64)]
abbrev x_spec_rightRoot_0 : List (Xt × Pt) := [(.ex 0, []), (.rt, [(2, .bool)])]
noncomputable def m_spec_rightRoot_0 : Tup p_spec_rightRoot_0 → Option (Stp (Tup p_spec_rightRoot_0) (SumT (x_spec_rightRoot_0.map (·.2)))) := fun (x : List Node × List Int × Bool × Int) => bif decide (x.2.2.2 < (↑(List.length x.2.1) : Int)) then Option.bind (atI x.2.1 x.2.2.2) fun (x_1 : Int) => Option.bind x.2.1[Int.toNat x.2.2.2]? fun (v : Int) => Option.bind (atI x.1 v) fun (v : Node) => bif decide (Node.kind v = (4 : Int)) then some (Stp.out (Sum.inr false)) else bif decide (Node.kind v = (2 : Int)) then bif x.2.2.1 then Option.bind (atI x.2.1 x.2.2.2) fun (x_2 : Int) => Option.bind x.2.1[Int.toNat x.2.2.2]? fun (v : Int) => Option.bind (atI x.1 v) fun (v : Node) => bif decide (Node.kind v = (2 : Int)) then some (Stp.out (Sum.inr false)) else some (Stp.nx (x.1, x.2.1, true, IntKind.wrap .i64 (x.2.2.2 + (1 : Int)))) else some (Stp.nx (x.1, x.2.1, true, IntKind.wrap .i64 (x.2.2.2 + (1 : Int)))) else bif decide (Node.kind v = (3 : Int)) then bif x.2.2.1 then Option.bind (atI x.2.1 x.2.2.2) fun (x_2 : Int) => Option.bind x.2.1[Int.toNat x.2.2.2]? fun (v : Int) => Option.bind (atI x.1 v) fun (v : Node) => bif decide (Node.kind v = (2 : Int)) then some (Stp.out (Sum.inr false)) else some (Stp.nx (x.1, x.2.1, true, IntKind.wrap .i64 (x.2.2.2 + (1 : Int)))) else some (Stp.nx (x.1, x.2.1, true, IntKind.wrap .i64 (x.2.2.2 + (1 : Int)))) else some (Stp.nx (x.1, x.2.1, x.2.2.1, IntKind.wrap .i64 (x.2.2.2 + (1 : Int)))) else some (Stp.out (Sum.inl ()))
noncomputable def m_spec_rightRoot : Tup p_spec_rightRoot → Option (Tup q_spec_rightRoot) := fun (x : List Node) => Option.bind (m_spec_Kids (x, (0 : Int))) fun (r : List Int) => Option.bind (loopO m_spec_rightRoot_0 (x, r, false, (0 : Int))) fun (y : PUnit ⊕ Bool) => selim (fun (y : PUnit) => some true) (fun (y : Bool) => some y) y
noncomputable def cx_spec_rightRoot : Cx := ⟨tb, lookE [(24, e_spec_Kids)], lookS []⟩
theorem ck_spec_rightRoot : CxOK Tryz.prog (cx_spec_rightRoot) := cx_ok tb_ok (.cons ok_spec_Kids Tryz.call24 .nil)
noncomputable def c_spec_rightRoot_0 : Code := loopAt (Go.Proofs.Tryz.f37.body.getD .skip) 0
noncomputable def l_spec_rightRoot_0 : LEnt := ⟨p_spec_rightRoot_0, x_spec_rightRoot_0, loopO (m_spec_rightRoot_0)⟩
theorem lo_spec_rightRoot_0 : LOK Tryz.prog 39 0 false (l_spec_rightRoot_0) c_spec_rightRoot_0 := loop_ok (body := m_spec_rightRoot_0) (L := lookL []) (ck_spec_rightRoot) mixed (ls_ok (l := []) (by kernel_rfl) .nil) (by intro x; kernel_rfl) (fun x y h => loopO_iff.1 h)
noncomputable def e_spec_rightRoot : Ent := ⟨0, p_spec_rightRoot, q_spec_rightRoot, m_spec_rightRoot⟩
theorem ok_spec_rightRoot : FnOK Tryz.prog 37 e_spec_rightRoot := fn_ok (L := lookL [(0, l_spec_rightRoot_0)]) ck_spec_rightRoot mixed Tryz.func37 rfl (by kernel_rfl) (by kernel_rfl) (ls_ok (l := [(0, c_spec_rightRoot_0)]) (by kernel_rfl) (.cons rfl (lo_spec_rightRoot_0) .nil)) (by intro x; kernel_rfl)
abbrev p_spec_Elements : Pt := [(0, .lst .node), (1, .int .i64)]
abbrev q_spec_Elements : Pt := [(0, .own .int 3)]
abbrev p_spec_Elements_0 : Pt := [(0, .lst .node), (5, .own .int 3), (6, .own .int 3), (7, .int .i64)]
abbrev x_spec_Elements_0 : List (Xt × Pt) := [(.ex 0, [(5, .own .int 3)])]
noncomputable def m_spec_Elements_0 : Tup p_spec_Elements_0 → Option (Stp (Tup p_spec_Elements_0) (SumT (x_spec_Elements_0.map (·.2)))) := fun (x : List Node × List Int × List Int × Int) => bif decide (x.2.2.2 < (↑(List.length x.2.2.1) : Int)) then Option.bind (atI x.2.2.1 x.2.2.2) fun (x_1 : Int) => Option.bind x.2.2.1[Int.toNat x.2.2.2]? fun (v : Int) => Option.bind (atI x.1 v) fun (v : Node) => bif decide (Node.kind v = (3 : Int)) then Option.bind (atI x.2.2.1 x.2.2.2) fun (x_2 : Int) => Option.bind x.2.2.1[Int.toNat x.2.2.2]? fun (v : Int) => Option.bind (appL x.2.1 [v]) fun (r : List Int) => some (Stp.nx (x.1, r, x.2.2.1, IntKind.wrap .i64 (x.2.2.2 + (1 : Int)))) else some (Stp.nx (x.1, x.2.1, x.2.2.1, IntKind.wrap .i64 (x.2.2.2 + (1 : Int)))) else some (Stp.out x.2.1)
noncomputable def m_spec_Elements : Tup p_spec_Elements → Option (Tup q_spec_Elements) := fun (x : List Node × Int) => Option.bind (m_spec_Kids (x.1, x.2)) fun (r : List Int) => Option.bind (loopO m_spec_Elements_0 (x.1, [], r, (0 : Int))) fun (y : List Int) => some y
noncomputable def cx_spec_Elements : Cx := ⟨tb, lookE [(24, e_spec_Kids)], lookS []⟩
theorem ck_spec_Elements : CxOK Tryz.prog (cx_spec_Elements) := cx_ok tb_ok (.cons ok_spec_Kids Tryz.call24 .nil)
noncomputable def c_spec_Elements_0 : Code := loopAt (Go.Proofs.Tryz.f25.body.getD .skip) 0
noncomputable def l_spec_Elements_0 : LEnt := ⟨p_spec_Elements_0, x_spec_Elements_0, loopO (m_spec_Elements_0)⟩
theorem lo_spec_Elements_0 : LOK Tryz.prog 34 0 false (l_spec_Elements_0) c_spec_Elements_0 := loop_ok (body := m_spec_Elements_0) (L := lookL []) (ck_spec_Elements) mixed (ls_ok (l := []) (by kernel_rfl) .nil) (by intro x; kernel_rfl) (fun x y h => loopO_iff.1 h)
noncomputable def e_spec_Elements : Ent := ⟨0, p_spec_Elements, q_spec_Elements, m_spec_Elements⟩
theorem ok_spec_Elements : FnOK Tryz.prog 25 e_spec_Elements := fn_ok (L := lookL [(0, l_spec_Elements_0)]) ck_spec_Elements mixed Tryz.func25 rfl (by kernel_rfl) (by kernel_rfl) (ls_ok (l := [(0, c_spec_Elements_0)]) (by kernel_rfl) (.cons rfl (lo_spec_Elements_0) .nil)) (by intro x; kernel_rfl)
abbrev p_spec_in : Pt := [(0, .lst .int), (1, .int .i64)]
abbrev q_spec_in : Pt := [(0, .bool)]
abbrev p_spec_in_0 : Pt := [(0, .lst .int), (1, .int .i64), (5, .int .i64)]
abbrev x_spec_in_0 : List (Xt × Pt) := [(.ex 0, []), (.rt, [(4, .bool)])]
noncomputable def m_spec_in_0 : Tup p_spec_in_0 → Option (Stp (Tup p_spec_in_0) (SumT (x_spec_in_0.map (·.2)))) := fun (x : List Int × Int × Int) => bif decide (x.2.2 < (↑(List.length x.1) : Int)) then Option.bind (atI x.1 x.2.2) fun (v : Int) => bif decide (v = x.2.1) then some (Stp.out (Sum.inr true)) else some (Stp.nx (x.1, x.2.1, IntKind.wrap .i64 (x.2.2 + (1 : Int)))) else some (Stp.out (Sum.inl ()))
noncomputable def m_spec_in : Tup p_spec_in → Option (Tup q_spec_in) := fun (x : List Int × Int) => Option.bind (loopO m_spec_in_0 (x.1, x.2, (0 : Int))) fun (y : PUnit ⊕ Bool) => selim (fun (y : PUnit) => some false) (fun (y : Bool) => some y) y
noncomputable def cx_spec_in : Cx := ⟨tb, lookE [], lookS []⟩
theorem ck_spec_in : CxOK Tryz.prog (cx_spec_in) := cx_ok tb_ok .nil
noncomputable def c_spec_in_0 : Code := loopAt (Go.Proofs.Tryz.f16.body.getD .skip) 0
noncomputable def l_spec_in_0 : LEnt := ⟨p_spec_in_0, x_spec_in_0, loopO (m_spec_in_0)⟩
theorem lo_spec_in_0 : LOK Tryz.prog 18 0 false (l_spec_in_0) c_spec_in_0 := loop_ok (body := m_spec_in_0) (L := lookL []) (ck_spec_in) mixed (ls_ok (l := []) (by kernel_rfl) .nil) (by intro x; kernel_rfl) (fun x y h => loopO_iff.1 h)
noncomputable def e_spec_in : Ent := ⟨0, p_spec_in, q_spec_in, m_spec_in⟩
theorem ok_spec_in : FnOK Tryz.prog 16 e_spec_in := fn_ok (L := lookL [(0, l_spec_in_0)]) ck_spec_in mixed Tryz.func16 rfl (by kernel_rfl) (by kernel_rfl) (ls_ok (l := [(0, c_spec_in_0)]) (by kernel_rfl) (.cons rfl (lo_spec_in_0) .nil)) (by intro x; kernel_rfl)
abbrev p_spec_once : Pt := [(0, .lst .int)]
abbrev q_spec_once : Pt := [(0, .own .int 3)]
abbrev p_spec_once_0 : Pt := [(0, .lst .int), (3, .own .int 3), (4, .int .i64)]
abbrev x_spec_once_0 : List (Xt × Pt) := [(.ex 0, [(3, .own .int 3)])]
noncomputable def m_spec_once_0 : Tup p_spec_once_0 → Option (Stp (Tup p_spec_once_0) (SumT (x_spec_once_0.map (·.2)))) := fun (x : List Int × List Int × Int) => bif decide (x.2.2 < (↑(List.length x.1) : Int)) then Option.bind (atI x.1 x.2.2) fun (v : Int) => Option.bind (m_spec_in (x.2.1, v)) fun (r : Bool) => bif !r then Option.bind (atI x.1 x.2.2) fun (v : Int) => Option.bind (appL x.2.1 [v]) fun (r : List Int) => some (Stp.nx (x.1, r, IntKind.wrap .i64 (x.2.2 + (1 : Int)))) else some (Stp.nx (x.1, x.2.1, IntKind.wrap .i64 (x.2.2 + (1 : Int)))) else some (Stp.out x.2.1)
noncomputable def m_spec_once : Tup p_spec_once → Option (Tup q_spec_once) := fun (x : List Int) => Option.bind (loopO m_spec_once_0 (x, [], (0 : Int))) fun (y : List Int) => some y
noncomputable def cx_spec_once : Cx := ⟨tb, lookE [(16, e_spec_in)], lookS []⟩
theorem ck_spec_once : CxOK Tryz.prog (cx_spec_once) := cx_ok tb_ok (.cons ok_spec_in Tryz.call16 .nil)
noncomputable def c_spec_once_0 : Code := loopAt (Go.Proofs.Tryz.f15.body.getD .skip) 0
noncomputable def l_spec_once_0 : LEnt := ⟨p_spec_once_0, x_spec_once_0, loopO (m_spec_once_0)⟩
theorem lo_spec_once_0 : LOK Tryz.prog 26 0 false (l_spec_once_0) c_spec_once_0 := loop_ok (body := m_spec_once_0) (L := lookL []) (ck_spec_once) mixed (ls_ok (l := []) (by kernel_rfl) .nil) (by intro x; kernel_rfl) (fun x y h => loopO_iff.1 h)
noncomputable def e_spec_once : Ent := ⟨0, p_spec_once, q_spec_once, m_spec_once⟩
theorem ok_spec_once : FnOK Tryz.prog 15 e_spec_once := fn_ok (L := lookL [(0, l_spec_once_0)]) ck_spec_once mixed Tryz.func15 rfl (by kernel_rfl) (by kernel_rfl) (ls_ok (l := [(0, c_spec_once_0)]) (by kernel_rfl) (.cons rfl (lo_spec_once_0) .nil)) (by intro x; kernel_rfl)
abbrev p_spec_SameOnce : Pt := [(0, .lst .int), (1, .lst .int)]
abbrev q_spec_SameOnce : Pt := [(0, .bool)]
abbrev p_spec_SameOnce_0 : Pt := [(0, .lst .int), (1, .lst .int), (5, .int .i64)]
abbrev x_spec_SameOnce_0 : List (Xt × Pt) := [(.ex 0, []), (.rt, [(4, .bool)])]
noncomputable def m_spec_SameOnce_0 : Tup p_spec_SameOnce_0 → Option (Stp (Tup p_spec_SameOnce_0) (SumT (x_spec_SameOnce_0.map (·.2)))) := fun (x : List Int × List Int × Int) => bif decide (x.2.2 < (↑(List.length x.1) : Int)) then Option.bind (atI x.1 x.2.2) fun (v : Int) => Option.bind (m_spec_in (x.2.1, v)) fun (r : Bool) => bif !r then some (Stp.out (Sum.inr false)) else some (Stp.nx (x.1, x.2.1, IntKind.wrap .i64 (x.2.2 + (1 : Int)))) else some (Stp.out (Sum.inl ()))
noncomputable def m_spec_SameOnce : Tup p_spec_SameOnce → Option (Tup q_spec_SameOnce) := fun (x : List Int × List Int) => bif decide ((↑(List.length x.1) : Int) ≠ (↑(List.length x.2) : Int)) then some false else Option.bind (m_spec_once x.1) fun (r : List Int) => bif decide ((↑(List.length r) : Int) ≠ (↑(List.length x.1) : Int)) then some false else Option.bind (loopO m_spec_SameOnce_0 (x.1, x.2, (0 : Int))) fun (y : PUnit ⊕ Bool) => selim (fun (y : PUnit) => some true) (fun (y : Bool) => some y) y
noncomputable def cx_spec_SameOnce : Cx := ⟨tb, lookE [(15, e_spec_once), (16, e_spec_in)], lookS []⟩
theorem ck_spec_SameOnce : CxOK Tryz.prog (cx_spec_SameOnce) := cx_ok tb_ok (.cons ok_spec_once Tryz.call15 (.cons ok_spec_in Tryz.call16 .nil))
noncomputable def c_spec_SameOnce_0 : Code := loopAt (Go.Proofs.Tryz.f8.body.getD .skip) 0
noncomputable def l_spec_SameOnce_0 : LEnt := ⟨p_spec_SameOnce_0, x_spec_SameOnce_0, loopO (m_spec_SameOnce_0)⟩
theorem lo_spec_SameOnce_0 : LOK Tryz.prog 32 0 false (l_spec_SameOnce_0) c_spec_SameOnce_0 := loop_ok (body := m_spec_SameOnce_0) (L := lookL []) (ck_spec_SameOnce) mixed (ls_ok (l := []) (by kernel_rfl) .nil) (by intro x; kernel_rfl) (fun x y h => loopO_iff.1 h)
noncomputable def e_spec_SameOnce : Ent := ⟨0, p_spec_SameOnce, q_spec_SameOnce, m_spec_SameOnce⟩
theorem ok_spec_SameOnce : FnOK Tryz.prog 8 e_spec_SameOnce := fn_ok (L := lookL [(0, l_spec_SameOnce_0)]) ck_spec_SameOnce mixed Tryz.func8 rfl (by kernel_rfl) (by kernel_rfl) (ls_ok (l := [(0, c_spec_SameOnce_0)]) (by kernel_rfl) (.cons rfl (lo_spec_SameOnce_0) .nil)) (by intro x; kernel_rfl)
abbrev p_spec_SameList : Pt := [(0, .lst .int), (1, .lst .int)]
abbrev q_spec_SameList : Pt := [(0, .bool)]
abbrev p_spec_SameList_0 : Pt := [(0, .lst .int), (1, .lst .int), (5, .int .i64)]
abbrev x_spec_SameList_0 : List (Xt × Pt) := [(.ex 0, []), (.rt, [(4, .bool)])]
noncomputable def m_spec_SameList_0 : Tup p_spec_SameList_0 → Option (Stp (Tup p_spec_SameList_0) (SumT (x_spec_SameList_0.map (·.2)))) := fun (x : List Int × List Int × Int) => bif decide (x.2.2 < (↑(List.length x.1) : Int)) then Option.bind (atI x.1 x.2.2) fun (v : Int) => Option.bind (atI x.2.1 x.2.2) fun (v_1 : Int) => bif decide (v ≠ v_1) then some (Stp.out (Sum.inr false)) else some (Stp.nx (x.1, x.2.1, IntKind.wrap .i64 (x.2.2 + (1 : Int)))) else some (Stp.out (Sum.inl ()))
noncomputable def m_spec_SameList : Tup p_spec_SameList → Option (Tup q_spec_SameList) := fun (x : List Int × List Int) => bif decide ((↑(List.length x.1) : Int) ≠ (↑(List.length x.2) : Int)) then some false else Option.bind (loopO m_spec_SameList_0 (x.1, x.2, (0 : Int))) fun (y : PUnit ⊕ Bool) => selim (fun (y : PUnit) => some true) (fun (y : Bool) => some y) y
noncomputable def cx_spec_SameList : Cx := ⟨tb, lookE [], lookS [(6, [(true, 0), (true, 1), (true, 2), (true, 3), (true, 4), (true, 5), (true, 6), (true, 7), (true, 8)])]⟩
theorem ck_spec_SameList : CxOK Tryz.prog (cx_spec_SameList) := cx_ok tb_ok .nil
noncomputable def c_spec_SameList_0 : Code := loopAt (Go.Proofs.Tryz.f9.body.getD .skip) 0
noncomputable def l_spec_SameList_0 : LEnt := ⟨p_spec_SameList_0, x_spec_SameList_0, loopO (m_spec_SameList_0)⟩
theorem lo_spec_SameList_0 : LOK Tryz.prog 26 0 false (l_spec_SameList_0) c_spec_SameList_0 := loop_ok (body := m_spec_SameList_0) (L := lookL []) (ck_spec_SameList) mixed (ls_ok (l := []) (by kernel_rfl) .nil) (by intro x; kernel_rfl) (fun x y h => loopO_iff.1 h)
noncomputable def e_spec_SameList : Ent := ⟨0, p_spec_SameList, q_spec_SameList, m_spec_SameList⟩
theorem ok_spec_SameList : FnOK Tryz.prog 9 e_spec_SameList := fn_ok (L := lookL [(0, l_spec_SameList_0)]) ck_spec_SameList mixed Tryz.func9 rfl (by kernel_rfl) (by kernel_rfl) (ls_ok (l := [(0, c_spec_SameList_0)]) (by kernel_rfl) (.cons rfl (lo_spec_SameList_0) .nil)) (by intro x; kernel_rfl)
end Go.Proofs.YtfjhibplplcjjaaGreat.V
set_option linter.unusedVariables false
set_option linter.unusedSimpArgs false
namespace Go.Proofs.YtfjhibplplcjjaaGreat.V
open Go Go.Proofs
abbrev p_spec_rightAttrs : Pt := [(0, .lst .attr)]
abbrev q_spec_rightAttrs : Pt := [(0, .bool)]
abbrev p_spec_rightAttrs_0_0 : Pt := [(0, .lst .attr), (3, .int .i64), (4, .int .i64)]
abbrev x_spec_rightAttrs_0_0 : List (Xt × Pt) := [(.ex 2, [(0, .lst .attr), (3, .int .i64)]), (.rt, [(2, .bool)])]
noncomputable def m_spec_rightAttrs_0_0 : Tup p_spec_rightAttrs_0_0 → Option (Stp (Tup p_spec_rightAttrs_0_0) (SumT (x_spec_rightAttrs_0_0.map (·.2)))) := fun (x : List Attr × Int × Int) => bif decide (x.2.2 < x.2.1) then Option.bind (atI x.1 x.2.2) fun (v : Attr) => Option.bind (atI x.1 x.2.1) fun (v_1 : Attr) => bif decide (Attr.key v = Attr.key v_1) then some (Stp.out (Sum.inr false)) else some (Stp.nx (x.1, x.2.1, IntKind.wrap .i64 (x.2.2 + (1 : Int)))) else some (Stp.out (Sum.inl (x.1, x.2.1)))
abbrev p_spec_rightAttrs_0 : Pt := [(0, .lst .attr), (3, .int .i64)]
abbrev x_spec_rightAttrs_0 : List (Xt × Pt) := [(.ex 0, []), (.rt, [(2, .bool)])]
noncomputable def m_spec_rightAttrs_0 : Tup p_spec_rightAttrs_0 → Option (Stp (Tup p_spec_rightAttrs_0) (SumT (x_spec_rightAttrs_0.map (·.2)))) := fun (x : List Attr × Int) => bif decide (x.2 < (↑(List.length x.1) : Int)) then Option.bind (atI x.1 x.2) fun (v : Attr) => Option.bind (m_spec_Name (Attr.key v)) fun (r : Bool) => bif !r then some (Stp.out (Sum.inr false)) else Option.bind (atI x.1 x.2) fun (v : Attr) => Option.bind (m_spec_Plain (Attr.val v)) fun (r : Bool) => bif !r then some (Stp.out (Sum.inr false)) else Option.bind (loopO m_spec_rightAttrs_0_0 (x.1, x.2, (0 : Int))) fun (y : List Attr × Int ⊕ Bool) => selim (fun (y : List Attr × Int) => some (Stp.nx (y.1, IntKind.wrap .i64 (y.2 + (1 : Int))))) (fun (y : Bool) => some (Stp.out (Sum.inr y))) y else some (Stp.out (Sum.inl ()))
noncomputable def m_spec_rightAttrs : Tup p_spec_rightAttrs → Option (Tup q_spec_rightAttrs) := fun (x : List Attr) => bif decide ((20 : Int) < (↑(List.length x) : Int)) then some false else Option.bind (loopO m_spec_rightAttrs_0 (x, (0 : Int))) fun (y : PUnit ⊕ Bool) => selim (fun (y : PUnit) => some true) (fun (y : Bool) => some y) y
noncomputable def cx_spec_rightAttrs : Cx := ⟨tb, lookE [(38, e_spec_Name), (36, e_spec_Plain)], lookS [(11, [(true, 0), (true, 1), (true, 2), (true, 3), (true, 4), (true, 5), (true, 6), (true, 7), (true, 8), (true, 9), (true, 10)])]⟩
theorem ck_spec_rightAttrs : CxOK Tryz.prog (cx_spec_rightAttrs) := cx_ok tb_ok (.cons ok_spec_Name Tryz.call38 (.cons ok_spec_Plain Tryz.call36 .nil))
noncomputable def c_spec_rightAttrs_0_0 : Code := loopAt (loopAt (Go.Proofs.Tryz.f39.body.getD .skip) 0) 0
noncomputable def l_spec_rightAttrs_0_0 : LEnt := ⟨p_spec_rightAttrs_0_0, x_spec_rightAttrs_0_0, loopO (m_spec_rightAttrs_0_0)⟩
theorem lo_spec_rightAttrs_0_0 : LOK Tryz.prog 46 0 false (l_spec_rightAttrs_0_0) c_spec_rightAttrs_0_0 := loop_ok (body := m_spec_rightAttrs_0_0) (L := lookL []) (ck_spec_rightAttrs) mixed (ls_ok (l := []) (by kernel_rfl) .nil) (by intro x; kernel_rfl) (fun x y h => loopO_iff.1 h)
noncomputable def c_spec_rightAttrs_0 : Code := loopAt (Go.Proofs.Tryz.f39.body.getD .skip) 0
noncomputable def l_spec_rightAttrs_0 : LEnt := ⟨p_spec_rightAttrs_0, x_spec_rightAttrs_0, loopO (m_spec_rightAttrs_0)⟩
theorem lo_spec_rightAttrs_0 : LOK Tryz.prog 46 0 false (l_spec_rightAttrs_0) c_spec_rightAttrs_0 := loop_ok (body := m_spec_rightAttrs_0) (L := lookL [(2, l_spec_rightAttrs_0_0)]) (ck_spec_rightAttrs) mixed (ls_ok (l := [(2, c_spec_rightAttrs_0_0)]) (by kernel_rfl) (.cons rfl (lo_spec_rightAttrs_0_0) .nil)) (by intro x; kernel_rfl) (fun x y h => loopO_iff.1 h)
noncomputable def e_spec_rightAttrs : Ent := ⟨0, p_spec_rightAttrs, q_spec_rightAttrs, m_spec_rightAttrs⟩
theorem ok_spec_rightAttrs : FnOK Tryz.prog 39 e_spec_rightAttrs := fn_ok (L := lookL [(0, l_spec_rightAttrs_0)]) ck_spec_rightAttrs mixed Tryz.func39 rfl (by kernel_rfl) (by kernel_rfl) (ls_ok (l := [(0, c_spec_rightAttrs_0)]) (by kernel_rfl) (.cons rfl (lo_spec_rightAttrs_0) .nil)) (by intro x; kernel_rfl)
abbrev p_spec_rightNode : Pt := [(0, .lst .node), (1, .int .i64)]
abbrev q_spec_rightNode : Pt := [(0, .bool)]
noncomputable def m_spec_rightNode : Tup p_spec_rightNode → Option (Tup q_spec_rightNode) := fun (x : List Node × Int) => Option.bind (atI x.1 x.2) fun (v : Node) => bif decide (Node.kind v ≠ (3 : Int)) then bif decide (Node.tag v ≠ Array.toList (ByteArray.data { data := #[] })) then some false else bif decide ((0 : Int) < (↑(List.length (Node.attrs v)) : Int)) then some false else Option.bind (m_spec_Plain (Node.text v)) fun (r : Bool) => bif !r then some false else bif decide (Node.kind v = (1 : Int)) then bif decide (x.2 = (0 : Int)) then bif decide (Node.text v = Array.toList (ByteArray.data { data := #[] })) then Option.bind (m_spec_rightRoot x.1) fun (r : Bool) => some r else some false else some false else bif decide (Node.kind v = (2 : Int)) then bif decide (Node.size v = (1 : Int)) then Option.bind (m_spec_Name (Node.text v)) fun (r : Bool) => bif r then Option.bind (m_spec_Parent (x.1, x.2)) fun (r : Int) => some (decide (r = (0 : Int))) else some false else some false else bif decide (Node.kind v = (4 : Int)) then some (decide (Node.size v = (1 : Int))) else bif decide (Node.kind v = (5 : Int)) then some (decide (Node.size v = (1 : Int))) else bif decide (Node.kind v = (3 : Int)) then bif decide (Node.text v = Array.toList (ByteArray.data { data := #[] })) then Option.bind (m_spec_Name (Node.tag v)) fun (r : Bool) => bif r then Option.bind (m_spec_rightAttrs (Node.attrs v)) fun (r : Bool) => some r else some false else some false else some false else Option.bind (m_spec_Plain (Node.text v)) fun (r : Bool) => bif !r then some false else bif decide (Node.kind v = (1 : Int)) then bif decide (x.2 = (0 : Int)) then bif decide (Node.text v = Array.toList (ByteArray.data { data := #[] })) then Option.bind (m_spec_rightRoot x.1) fun (r : Bool) => some r else some false else some false else bif decide (Node.kind v = (2 : Int)) then bif decide (Node.size v = (1 : Int)) then Option.bind (m_spec_Name (Node.text v)) fun (r : Bool) => bif r then Option.bind (m_spec_Parent (x.1, x.2)) fun (r : Int) => some (decide (r = (0 : Int))) else some false else some false else bif decide (Node.kind v = (4 : Int)) then some (decide (Node.size v = (1 : Int))) else bif decide (Node.kind v = (5 : Int)) then some (decide (Node.size v = (1 : Int))) else bif decide (Node.kind v = (3 : Int)) then bif decide (Node.text v = Array.toList (ByteArray.data { data := #[] })) then Option.bind (m_spec_Name (Node.tag v)) fun (r : Bool) => bif r then Option.bind (m_spec_rightAttrs (Node.attrs v)) fun (r : Bool) => some r else some false else some false else some false
noncomputable def cx_spec_rightNode : Cx := ⟨tb, lookE [(36, e_spec_Plain), (37, e_spec_rightRoot), (38, e_spec_Name), (26, e_spec_Parent), (39, e_spec_rightAttrs)], lookS []⟩
theorem ck_spec_rightNode : CxOK Tryz.prog (cx_spec_rightNode) := cx_ok tb_ok (.cons ok_spec_Plain Tryz.call36 (.cons ok_spec_rightRoot Tryz.call37 (.cons ok_spec_Name Tryz.call38 (.cons ok_spec_Parent Tryz.call26 (.cons ok_spec_rightAttrs Tryz.call39 .nil)))))
noncomputable def e_spec_rightNode : Ent := ⟨0, p_spec_rightNode, q_spec_rightNode, m_spec_rightNode⟩
theorem ok_spec_rightNode : FnOK Tryz.prog 21 e_spec_rightNode := fn_ok (L := lookL []) ck_spec_rightNode mixed Tryz.func21 rfl (by kernel_rfl) (by kernel_rfl) (ls_ok (l := []) (by kernel_rfl) .nil) (by intro x; kernel_rfl)
abbrev p_spec_Right : Pt := [(0, .lst .node)]
abbrev q_spec_Right : Pt := [(0, .bool)]
abbrev p_spec_Right_0_0 : Pt := [(0, .lst .node), (3, .int .i64), (4, .int .i64), (5, .int .i64)]
abbrev x_spec_Right_0_0 : List (Xt × Pt) := [(.ex 2, [(0, .lst .node), (3, .int .i64), (4, .int .i64)])]
noncomputable def m_spec_Right_0_0 : Tup p_spec_Right_0_0 → Option (Stp (Tup p_spec_Right_0_0) (SumT (x_spec_Right_0_0.map (·.2)))) := fun (x : List Node × Int × Int × Int) => Option.bind (atI x.1 x.2.2.1) fun (v : Node) => bif decide (x.2.2.2 < (↑(List.length (Node.attrs v)) : Int)) then bif decide (x.2.1 ≤ (4000 : Int)) then Option.bind (atI x.1 x.2.2.1) fun (v : Node) => Option.bind (atI (Node.attrs v) x.2.2.2) fun (v : Attr) => some (Stp.nx (x.1, IntKind.wrap .i64 (x.2.1 + if (4001 : Int) < (↑(List.length (Attr.val v)) : Int) then (4001 : Int) else (↑(List.length (Attr.val v)) : Int)), x.2.2.1, IntKind.wrap .i64 (x.2.2.2 + (1 : Int)))) else some (Stp.out (x.1, x.2.1, x.2.2.1)) else some (Stp.out (x.1, x.2.1, x.2.2.1))
abbrev p_spec_Right_0 : Pt := [(0, .lst .node), (3, .int .i64), (4, .int .i64)]
abbrev x_spec_Right_0 : List (Xt × Pt) := [(.ex 0, []), (.rt, [(2, .bool)])]
noncomputable def m_spec_Right_0 : Tup p_spec_Right_0 → Option (Stp (Tup p_spec_Right_0) (SumT (x_spec_Right_0.map (·.2)))) := fun (x : List Node × Int × Int) => bif decide (x.2.2 < (↑(List.length x.1) : Int)) then Option.bind (atI x.1 x.2.2) fun (v : Node) => Option.bind (loopO m_spec_Right_0_0 (x.1, IntKind.wrap .i64 (x.2.1 + if (4001 : Int) < (↑(List.length (Node.text v)) : Int) then (4001 : Int) else (↑(List.length (Node.text v)) : Int)), x.2.2, (0 : Int))) fun (y : List Node × Int × Int) => bif decide ((4000 : Int) < y.2.1) then some (Stp.out (Sum.inr false)) else Option.bind (m_spec_rightNode (y.1, y.2.2)) fun (r : Bool) => bif !r then some (Stp.out (Sum.inr false)) else some (Stp.nx (y.1, y.2.1, IntKind.wrap .i64 (y.2.2 + (1 : Int)))) else some (Stp.out (Sum.inl ()))
noncomputable def m_spec_Right : Tup p_spec_Right → Option (Tup q_spec_Right) := fun (x : List Node) => bif decide ((↑(List.length x) : Int) = (0 : Int)) then some false else bif decide ((200 : Int) < (↑(List.length x) : Int)) then some false else Option.bind (atI x (0 : Int)) fun (v : Node) => bif decide (Node.size v ≠ (↑(List.length x) : Int)) then some false else Option.bind (atI x (0 : Int)) fun (v : Node) => bif decide (Node.kind v ≠ (1 : Int)) then some false else Option.bind (m_spec_sized big (x, (0 : Int), (↑(List.length x) : Int), (40 : Int))) fun (r : Bool) => bif !r then some false else Option.bind (loopO m_spec_Right_0 (x, (0 : Int), (0 : Int))) fun (y : PUnit ⊕ Bool) => selim (fun (y : PUnit) => some true) (fun (y : Bool) => some y) y
noncomputable def cx_spec_Right : Cx := ⟨tb, lookE [(20, e_spec_sized), (21, e_spec_rightNode)], lookS []⟩
theorem ck_spec_Right : CxOK Tryz.prog (cx_spec_Right) := cx_ok tb_ok (.cons ok_spec_sized Tryz.call20 (.cons ok_spec_rightNode Tryz.call21 .nil))
noncomputable def c_spec_Right_0_0 : Code := loopAt (loopAt (Go.Proofs.Tryz.f11.body.getD .skip) 0) 0
noncomputable def l_spec_Right_0_0 : LEnt := ⟨p_spec_Right_0_0, x_spec_Right_0_0, loopO (m_spec_Right_0_0)⟩
theorem lo_spec_Right_0_0 : LOK Tryz.prog 87 0 false (l_spec_Right_0_0) c_spec_Right_0_0 := loop_ok (body := m_spec_Right_0_0) (L := lookL []) (ck_spec_Right) mixed (ls_ok (l := []) (by kernel_rfl) .nil) (by intro x; kernel_rfl) (fun x y h => loopO_iff.1 h)
noncomputable def c_spec_Right_0 : Code := loopAt (Go.Proofs.Tryz.f11.body.getD .skip) 0
noncomputable def l_spec_Right_0 : LEnt := ⟨p_spec_Right_0, x_spec_Right_0, loopO (m_spec_Right_0)⟩
theorem lo_spec_Right_0 : LOK Tryz.prog 87 0 false (l_spec_Right_0) c_spec_Right_0 := loop_ok (body := m_spec_Right_0) (L := lookL [(2, l_spec_Right_0_0)]) (ck_spec_Right) mixed (ls_ok (l := [(2, c_spec_Right_0_0)]) (by kernel_rfl) (.cons rfl (lo_spec_Right_0_0) .nil)) (by intro x; kernel_rfl) (fun x y h => loopO_iff.1 h)
noncomputable def e_spec_Right : Ent := ⟨0, p_spec_Right, q_spec_Right, m_spec_Right⟩
theorem ok_spec_Right : FnOK Tryz.prog 11 e_spec_Right := fn_ok (L := lookL [(0, l_spec_Right_0)]) ck_spec_Right mixed Tryz.func11 rfl (by kernel_rfl) (by kernel_rfl) (ls_ok (l := [(0, c_spec_Right_0)]) (by kernel_rfl) (.cons rfl (lo_spec_Right_0) .nil)) (by intro x; kernel_rfl)
abbrev p_spec_Order : Pt := [(0, .lst .node), (1, .lst .int)]
abbrev q_spec_Order : Pt := [(0, .bool)]
abbrev p_spec_Order_0 : Pt := [(0, .lst .node), (1, .lst .int), (5, .int .i64)]
abbrev x_spec_Order_0 : List (Xt × Pt) := [(.ex 0, []), (.rt, [(4, .bool)])]
noncomputable def m_spec_Order_0 : Tup p_spec_Order_0 → Option (Stp (Tup p_spec_Order_0) (SumT (x_spec_Order_0.map (·.2)))) := fun (x : List Node × List Int × Int) => bif decide (x.2.2 < (↑(List.length x.2.1) : Int)) then Option.bind (atI x.2.1 x.2.2) fun (v : Int) => bif decide (v < (0 : Int)) then some (Stp.out (Sum.inr false)) else Option.bind (atI x.2.1 x.2.2) fun (v : Int) => bif decide ((↑(List.length x.1) : Int) ≤ v) then some (Stp.out (Sum.inr false)) else bif decide ((0 : Int) < x.2.2) then Option.bind (atI x.2.1 x.2.2) fun (v : Int) => Option.bind (atI x.2.1 (IntKind.wrap .i64 (x.2.2 - (1 : Int)))) fun (v_1 : Int) => bif decide (v ≤ v_1) then some (Stp.out (Sum.inr false)) else some (Stp.nx (x.1, x.2.1, IntKind.wrap .i64 (x.2.2 + (1 : Int)))) else some (Stp.nx (x.1, x.2.1, IntKind.wrap .i64 (x.2.2 + (1 : Int)))) else some (Stp.out (Sum.inl ()))
noncomputable def m_spec_Order : Tup p_spec_Order → Option (Tup q_spec_Order) := fun (x : List Node × List Int) => Option.bind (loopO m_spec_Order_0 (x.1, x.2, (0 : Int))) fun (y : PUnit ⊕ Bool) => selim (fun (y : PUnit) => some true) (fun (y : Bool) => some y) y
noncomputable def cx_spec_Order : Cx := ⟨tb, lookE [], lookS [(4, [(true, 0), (true, 1), (true, 2), (true, 3), (true, 4), (true, 5), (true, 6), (true, 7), (true, 8), (true, 9), (true, 10), (true, 11), (true, 12), (true, 13), (true, 14), (true, 15), (true, 16), (true, 17), (true, 18), (true, 19), (true, 20), (true, 21), (true, 22), (true, 23), (true, 24), (true, 25), (true, 26), (true, 27), (true, 28), (true, 29)])]⟩
theorem ck_spec_Order : CxOK Tryz.prog (cx_spec_Order) := cx_ok tb_ok .nil
noncomputable def c_spec_Order_0 : Code := loopAt (Go.Proofs.Tryz.f12.body.getD .skip) 0
noncomputable def l_spec_Order_0 : LEnt := ⟨p_spec_Order_0, x_spec_Order_0, loopO (m_spec_Order_0)⟩
theorem lo_spec_Order_0 : LOK Tryz.prog 42 0 false (l_spec_Order_0) c_spec_Order_0 := loop_ok (body := m_spec_Order_0) (L := lookL []) (ck_spec_Order) mixed (ls_ok (l := []) (by kernel_rfl) .nil) (by intro x; kernel_rfl) (fun x y h => loopO_iff.1 h)
noncomputable def e_spec_Order : Ent := ⟨0, p_spec_Order, q_spec_Order, m_spec_Order⟩
theorem ok_spec_Order : FnOK Tryz.prog 12 e_spec_Order := fn_ok (L := lookL [(0, l_spec_Order_0)]) ck_spec_Order mixed Tryz.func12 rfl (by kernel_rfl) (by kernel_rfl) (ls_ok (l := [(0, c_spec_Order_0)]) (by kernel_rfl) (.cons rfl (lo_spec_Order_0) .nil)) (by intro x; kernel_rfl)
abbrev p_laws_isPlace : Pt := [(0, .lst .int), (1, .int .i64)]
abbrev q_laws_isPlace : Pt := [(0, .bool)]
abbrev p_laws_isPlace_0 : Pt := [(0, .lst .int), (1, .int .i64), (5, .int .i64)]
abbrev x_laws_isPlace_0 : List (Xt × Pt) := [(.ex 0, []), (.rt, [(4, .bool)])]
noncomputable def m_laws_isPlace_0 : Tup p_laws_isPlace_0 → Option (Stp (Tup p_laws_isPlace_0) (SumT (x_laws_isPlace_0.map (·.2)))) := fun (x : List Int × Int × Int) => bif decide (x.2.2 < (↑(List.length x.1) : Int)) then Option.bind (atI x.1 x.2.2) fun (v : Int) => bif decide (v = x.2.1) then some (Stp.out (Sum.inr true)) else some (Stp.nx (x.1, x.2.1, IntKind.wrap .i64 (x.2.2 + (1 : Int)))) else some (Stp.out (Sum.inl ()))
noncomputable def m_laws_isPlace : Tup p_laws_isPlace → Option (Tup q_laws_isPlace) := fun (x : List Int × Int) => Option.bind (loopO m_laws_isPlace_0 (x.1, x.2, (0 : Int))) fun (y : PUnit ⊕ Bool) => selim (fun (y : PUnit) => some false) (fun (y : Bool) => some y) y
noncomputable def cx_laws_isPlace : Cx := ⟨tb, lookE [], lookS []⟩
theorem ck_laws_isPlace : CxOK Tryz.prog (cx_laws_isPlace) := cx_ok tb_ok .nil
noncomputable def c_laws_isPlace_0 : Code := loopAt (Go.Proofs.Tryz.f22.body.getD .skip) 0
noncomputable def l_laws_isPlace_0 : LEnt := ⟨p_laws_isPlace_0, x_laws_isPlace_0, loopO (m_laws_isPlace_0)⟩
theorem lo_laws_isPlace_0 : LOK Tryz.prog 18 0 false (l_laws_isPlace_0) c_laws_isPlace_0 := loop_ok (body := m_laws_isPlace_0) (L := lookL []) (ck_laws_isPlace) mixed (ls_ok (l := []) (by kernel_rfl) .nil) (by intro x; kernel_rfl) (fun x y h => loopO_iff.1 h)
noncomputable def e_laws_isPlace : Ent := ⟨0, p_laws_isPlace, q_laws_isPlace, m_laws_isPlace⟩
theorem ok_laws_isPlace : FnOK Tryz.prog 22 e_laws_isPlace := fn_ok (L := lookL [(0, l_laws_isPlace_0)]) ck_laws_isPlace mixed Tryz.func22 rfl (by kernel_rfl) (by kernel_rfl) (ls_ok (l := [(0, c_laws_isPlace_0)]) (by kernel_rfl) (.cons rfl (lo_laws_isPlace_0) .nil)) (by intro x; kernel_rfl)
abbrev p_laws_elements : Pt := [(0, .lst .node), (1, .lst .int)]
abbrev q_laws_elements : Pt := [(0, .bool)]
abbrev p_laws_elements_0 : Pt := [(0, .lst .node), (1, .lst .int), (5, .int .i64)]
abbrev x_laws_elements_0 : List (Xt × Pt) := [(.ex 0, []), (.rt, [(4, .bool)])]
noncomputable def m_laws_elements_0 : Tup p_laws_elements_0 → Option (Stp (Tup p_laws_elements_0) (SumT (x_laws_elements_0.map (·.2)))) := fun (x : List Node × List Int × Int) => bif decide (x.2.2 < (↑(List.length x.2.1) : Int)) then Option.bind (atI x.2.1 x.2.2) fun (v : Int) => bif decide (v < (0 : Int)) then some (Stp.out (Sum.inr false)) else Option.bind (atI x.2.1 x.2.2) fun (v : Int) => bif decide ((↑(List.length x.1) : Int) ≤ v) then some (Stp.out (Sum.inr false)) else Option.bind (atI x.2.1 x.2.2) fun (v : Int) => Option.bind (atI x.1 v) fun (v : Node) => bif decide (Node.kind v ≠ (3 : Int)) then some (Stp.out (Sum.inr false)) else Option.bind (subL x.2.1 (0 : Int) x.2.2) fun (m : List Int) => Option.bind (atI x.2.1 x.2.2) fun (v : Int) => Option.bind (m_laws_isPlace (m, v)) fun (r : Bool) => bif r then some (Stp.out (Sum.inr false)) else some (Stp.nx (x.1, x.2.1, IntKind.wrap .i64 (x.2.2 + (1 : Int)))) else some (Stp.out (Sum.inl ()))
noncomputable def m_laws_elements : Tup p_laws_elements → Option (Tup q_laws_elements) := fun (x : List Node × List Int) => Option.bind (loopO m_laws_elements_0 (x.1, x.2, (0 : Int))) fun (y : PUnit ⊕ Bool) => selim (fun (y : PUnit) => some true) (fun (y : Bool) => some y) y
noncomputable def cx_laws_elements : Cx := ⟨tb, lookE [(22, e_laws_isPlace)], lookS [(4, [(true, 0), (true, 1), (true, 2), (true, 3), (true, 4), (true, 5), (true, 6), (true, 7), (true, 8), (true, 9), (true, 10), (true, 11), (true, 12), (true, 13), (true, 14), (true, 15), (true, 16), (true, 17), (true, 18), (true, 19), (true, 20), (true, 21), (true, 22), (true, 23), (true, 24), (true, 25), (true, 26), (true, 27), (true, 28), (true, 29), (true, 30), (true, 31), (true, 32), (false, 33), (true, 34)])]⟩
theorem ck_laws_elements : CxOK Tryz.prog (cx_laws_elements) := cx_ok tb_ok (.cons ok_laws_isPlace Tryz.call22 .nil)
noncomputable def c_laws_elements_0 : Code := loopAt (Go.Proofs.Tryz.f13.body.getD .skip) 0
noncomputable def l_laws_elements_0 : LEnt := ⟨p_laws_elements_0, x_laws_elements_0, loopO (m_laws_elements_0)⟩
theorem lo_laws_elements_0 : LOK Tryz.prog 47 0 false (l_laws_elements_0) c_laws_elements_0 := loop_ok (body := m_laws_elements_0) (L := lookL []) (ck_laws_elements) mixed (ls_ok (l := []) (by kernel_rfl) .nil) (by intro x; kernel_rfl) (fun x y h => loopO_iff.1 h)
noncomputable def e_laws_elements : Ent := ⟨0, p_laws_elements, q_laws_elements, m_laws_elements⟩
theorem ok_laws_elements : FnOK Tryz.prog 13 e_laws_elements := fn_ok (L := lookL [(0, l_laws_elements_0)]) ck_laws_elements mixed Tryz.func13 rfl (by kernel_rfl) (by kernel_rfl) (ls_ok (l := [(0, c_laws_elements_0)]) (by kernel_rfl) (.cons rfl (lo_laws_elements_0) .nil)) (by intro x; kernel_rfl)
abbrev p_laws_rising : Pt := [(0, .lst .node), (1, .lst .int)]
abbrev q_laws_rising : Pt := [(0, .bool)]
noncomputable def m_laws_rising : Tup p_laws_rising → Option (Tup q_laws_rising) := fun (x : List Node × List Int) => Option.bind (m_spec_Right x.1) fun (r : Bool) => bif r then Option.bind (m_spec_Order (x.1, x.2)) fun (r : Bool) => bif r then Option.bind (m_laws_elements (x.1, x.2)) fun (r : Bool) => some r else some false else some false
noncomputable def cx_laws_rising : Cx := ⟨tb, lookE [(11, e_spec_Right), (12, e_spec_Order), (13, e_laws_elements)], lookS []⟩
theorem ck_laws_rising : CxOK Tryz.prog (cx_laws_rising) := cx_ok tb_ok (.cons ok_spec_Right Tryz.call11 (.cons ok_spec_Order Tryz.call12 (.cons ok_laws_elements Tryz.call13 .nil)))
noncomputable def e_laws_rising : Ent := ⟨0, p_laws_rising, q_laws_rising, m_laws_rising⟩
theorem ok_laws_rising : FnOK Tryz.prog 5 e_laws_rising := fn_ok (L := lookL []) ck_laws_rising mixed Tryz.func5 rfl (by kernel_rfl) (by kernel_rfl) (ls_ok (l := []) (by kernel_rfl) .nil) (by intro x; kernel_rfl)
abbrev p_spec_BesideOf : Pt := [(0, .lst .node), (1, .int .i64), (2, .bool)]
abbrev q_spec_BesideOf : Pt := [(0, .own .int 3)]
abbrev p_spec_BesideOf_0 : Pt := [(1, .int .i64), (2, .bool), (8, .own .int 3), (9, .own .int 3), (10, .int .i64)]
abbrev x_spec_BesideOf_0 : List (Xt × Pt) := [(.ex 0, [(8, .own .int 3)])]
noncomputable def m_spec_BesideOf_0 : Tup p_spec_BesideOf_0 → Option (Stp (Tup p_spec_BesideOf_0) (SumT (x_spec_BesideOf_0.map (·.2)))) := fun (x : Int × Bool × List Int × List Int × Int) => bif decide (x.2.2.2.2 < (↑(List.length x.2.2.2.1) : Int)) then bif x.2.1 then Option.bind (atI x.2.2.2.1 x.2.2.2.2) fun (x_1 : Int) => Option.bind x.2.2.2.1[Int.toNat x.2.2.2.2]? fun (v : Int) => bif decide (x.1 < v) then Option.bind (atI x.2.2.2.1 x.2.2.2.2) fun (x_2 : Int) => Option.bind x.2.2.2.1[Int.toNat x.2.2.2.2]? fun (v : Int) => Option.bind (appL x.2.2.1 [v]) fun (r : List Int) => Option.bind (atI x.2.2.2.1 (IntKind.wrap .i64 (IntKind.wrap .i64 ((↑(List.length x.2.2.2.1) : Int) - (1 : Int)) - x.2.2.2.2))) fun (x_3 : Int) => Option.bind x.2.2.2.1[Int.toNat (IntKind.wrap .i64 (IntKind.wrap .i64 ((↑(List.length x.2.2.2.1) : Int) - (1 : Int)) - x.2.2.2.2))]? fun (v : Int) => bif !x.2.1 then bif decide (v < x.1) then Option.bind (appL r [v]) fun (r : List Int) => some (Stp.nx (x.1, x.2.1, r, x.2.2.2.1, IntKind.wrap .i64 (x.2.2.2.2 + (1 : Int)))) else some (Stp.nx (x.1, x.2.1, r, x.2.2.2.1, IntKind.wrap .i64 (x.2.2.2.2 + (1 : Int)))) else some (Stp.nx (x.1, x.2.1, r, x.2.2.2.1, IntKind.wrap .i64 (x.2.2.2.2 + (1 : Int)))) else Option.bind (atI x.2.2.2.1 (IntKind.wrap .i64 (IntKind.wrap .i64 ((↑(List.length x.2.2.2.1) : Int) - (1 : Int)) - x.2.2.2.2))) fun (x_2 : Int) => Option.bind x.2.2.2.1[Int.toNat (IntKind.wrap .i64 (IntKind.wrap .i64 ((↑(List.length x.2.2.2.1) : Int) - (1 : Int)) - x.2.2.2.2))]? fun (v : Int) => bif !x.2.1 then bif decide (v < x.1) then Option.bind (appL x.2.2.1 [v]) fun (r : List Int) => some (Stp.nx (x.1, x.2.1, r, x.2.2.2.1, IntKind.wrap .i64 (x.2.2.2.2 + (1 : Int)))) else some (Stp.nx (x.1, x.2.1, x.2.2.1, x.2.2.2.1, IntKind.wrap .i64 (x.2.2.2.2 + (1 : Int)))) else some (Stp.nx (x.1, x.2.1, x.2.2.1, x.2.2.2.1, IntKind.wrap .i64 (x.2.2.2.2 + (1 : Int)))) else Option.bind (atI x.2.2.2.1 (IntKind.wrap .i64 (IntKind.wrap .i64 ((↑(List.length x.2.2.2.1) : Int) - (1 : Int)) - x.2.2.2.2))) fun (x_1 : Int) => Option.bind x.2.2.2.1[Int.toNat (IntKind.wrap .i64 (IntKind.wrap .i64 ((↑(List.length x.2.2.2.1) : Int) - (1 : Int)) - x.2.2.2.2))]? fun (v : Int) => bif !x.2.1 then bif decide (v < x.1) then Option.bind (appL x.2.2.1 [v]) fun (r : List Int) => some (Stp.nx (x.1, x.2.1, r, x.2.2.2.1, IntKind.wrap .i64 (x.2.2.2.2 + (1 : Int)))) else some (Stp.nx (x.1, x.2.1, x.2.2.1, x.2.2.2.1, IntKind.wrap .i64 (x.2.2.2.2 + (1 : Int)))) else some (Stp.nx (x.1, x.2.1, x.2.2.1, x.2.2.2.1, IntKind.wrap .i64 (x.2.2.2.2 + (1 : Int)))) else some (Stp.out x.2.2.1)
noncomputable def m_spec_BesideOf : Tup p_spec_BesideOf → Option (Tup q_spec_BesideOf) := fun (x : List Node × Int × Bool) => Option.bind (m_spec_Parent (x.1, x.2.1)) fun (r : Int) => bif decide (r < (0 : Int)) then some [] else Option.bind (m_spec_Elements (x.1, r)) fun (r : List Int) => Option.bind (loopO m_spec_BesideOf_0 (x.2.1, x.2.2, [], r, (0 : Int))) fun (y : List Int) => some y
noncomputable def cx_spec_BesideOf : Cx := ⟨tb, lookE [(26, e_spec_Parent), (25, e_spec_Elements)], lookS []⟩
theorem ck_spec_BesideOf : CxOK Tryz.prog (cx_spec_BesideOf) := cx_ok tb_ok (.cons ok_spec_Parent Tryz.call26 (.cons ok_spec_Elements Tryz.call25 .nil))
noncomputable def c_spec_BesideOf_0 : Code := loopAt (Go.Proofs.Tryz.f29.body.getD .skip) 0
noncomputable def l_spec_BesideOf_0 : LEnt := ⟨p_spec_BesideOf_0, x_spec_BesideOf_0, loopO (m_spec_BesideOf_0)⟩
theorem lo_spec_BesideOf_0 : LOK Tryz.prog 62 0 false (l_spec_BesideOf_0) c_spec_BesideOf_0 := loop_ok (body := m_spec_BesideOf_0) (L := lookL []) (ck_spec_BesideOf) mixed (ls_ok (l := []) (by kernel_rfl) .nil) (by intro x; kernel_rfl) (fun x y h => loopO_iff.1 h)
noncomputable def e_spec_BesideOf : Ent := ⟨0, p_spec_BesideOf, q_spec_BesideOf, m_spec_BesideOf⟩
theorem ok_spec_BesideOf : FnOK Tryz.prog 29 e_spec_BesideOf := fn_ok (L := lookL [(0, l_spec_BesideOf_0)]) ck_spec_BesideOf mixed Tryz.func29 rfl (by kernel_rfl) (by kernel_rfl) (ls_ok (l := [(0, c_spec_BesideOf_0)]) (by kernel_rfl) (.cons rfl (lo_spec_BesideOf_0) .nil)) (by intro x; kernel_rfl)
abbrev p_spec_AboveOf : Pt := [(0, .lst .node), (1, .int .i64)]
abbrev q_spec_AboveOf : Pt := [(0, .own .int 3)]
abbrev p_spec_AboveOf_0 : Pt := [(0, .lst .node), (1, .int .i64), (5, .own .int 3)]
abbrev x_spec_AboveOf_0 : List (Xt × Pt) := [(.ex 0, [(5, .own .int 3)])]
noncomputable def m_spec_AboveOf_0 : Tup p_spec_AboveOf_0 → Option (Stp (Tup p_spec_AboveOf_0) (SumT (x_spec_AboveOf_0.map (·.2)))) := fun (x : List Node × Int × List Int) => bif decide ((0 : Int) ≤ x.2.1) then Option.bind (atI x.1 x.2.1) fun (v : Node) => bif decide (Node.kind v = (3 : Int)) then Option.bind (appL x.2.2 [x.2.1]) fun (r : List Int) => Option.bind (m_spec_Parent (x.1, x.2.1)) fun (r_1 : Int) => some (Stp.nx (x.1, r_1, r)) else Option.bind (m_spec_Parent (x.1, x.2.1)) fun (r : Int) => some (Stp.nx (x.1, r, x.2.2)) else some (Stp.out x.2.2)
noncomputable def m_spec_AboveOf : Tup p_spec_AboveOf → Option (Tup q_spec_AboveOf) := fun (x : List Node × Int) => Option.bind (m_spec_Parent (x.1, x.2)) fun (r : Int) => Option.bind (loopO m_spec_AboveOf_0 (x.1, r, [])) fun (y : List Int) => some y
noncomputable def cx_spec_AboveOf : Cx := ⟨tb, lookE [(26, e_spec_Parent)], lookS []⟩
theorem ck_spec_AboveOf : CxOK Tryz.prog (cx_spec_AboveOf) := cx_ok tb_ok (.cons ok_spec_Parent Tryz.call26 .nil)
noncomputable def c_spec_AboveOf_0 : Code := loopAt (Go.Proofs.Tryz.f27.body.getD .skip) 0
noncomputable def l_spec_AboveOf_0 : LEnt := ⟨p_spec_AboveOf_0, x_spec_AboveOf_0, loopO (m_spec_AboveOf_0)⟩
theorem lo_spec_AboveOf_0 : LOK Tryz.prog 25 0 false (l_spec_AboveOf_0) c_spec_AboveOf_0 := loop_ok (body := m_spec_AboveOf_0) (L := lookL []) (ck_spec_AboveOf) mixed (ls_ok (l := []) (by kernel_rfl) .nil) (by intro x; kernel_rfl) (fun x y h => loopO_iff.1 h)
noncomputable def e_spec_AboveOf : Ent := ⟨0, p_spec_AboveOf, q_spec_AboveOf, m_spec_AboveOf⟩
theorem ok_spec_AboveOf : FnOK Tryz.prog 27 e_spec_AboveOf := fn_ok (L := lookL [(0, l_spec_AboveOf_0)]) ck_spec_AboveOf mixed Tryz.func27 rfl (by kernel_rfl) (by kernel_rfl) (ls_ok (l := [(0, c_spec_AboveOf_0)]) (by kernel_rfl) (.cons rfl (lo_spec_AboveOf_0) .nil)) (by intro x; kernel_rfl)
abbrev p_spec_upTo : Pt := [(0, .lst .int), (1, .lst .int)]
abbrev q_spec_upTo : Pt := [(0, .lst .int)]
abbrev p_spec_upTo_0 : Pt := [(0, .lst .int), (1, .lst .int), (5, .int .i64)]
abbrev x_spec_upTo_0 : List (Xt × Pt) := [(.ex 0, [(0, .lst .int)]), (.rt, [(4, .lst .int)])]
noncomputable def m_spec_upTo_0 : Tup p_spec_upTo_0 → Option (Stp (Tup p_spec_upTo_0) (SumT (x_spec_upTo_0.map (·.2)))) := fun (x : List Int × List Int × Int) => bif decide (x.2.2 < (↑(List.length x.1) : Int)) then Option.bind (atI x.1 x.2.2) fun (v : Int) => Option.bind (m_spec_in (x.2.1, v)) fun (r : Bool) => bif r then Option.bind (subL x.1 (0 : Int) x.2.2) fun (m : List Int) => some (Stp.out (Sum.inr m)) else some (Stp.nx (x.1, x.2.1, IntKind.wrap .i64 (x.2.2 + (1 : Int)))) else some (Stp.out (Sum.inl x.1))
noncomputable def m_spec_upTo : Tup p_spec_upTo → Option (Tup q_spec_upTo) := fun (x : List Int × List Int) => Option.bind (loopO m_spec_upTo_0 (x.1, x.2, (0 : Int))) fun (y : List Int ⊕ List Int) => selim (fun (y : List Int) => some y) (fun (y : List Int) => some y) y
noncomputable def cx_spec_upTo : Cx := ⟨tb, lookE [(16, e_spec_in)], lookS []⟩
theorem ck_spec_upTo : CxOK Tryz.prog (cx_spec_upTo) := cx_ok tb_ok (.cons ok_spec_in Tryz.call16 .nil)
noncomputable def c_spec_upTo_0 : Code := loopAt (Go.Proofs.Tryz.f28.body.getD .skip) 0
noncomputable def l_spec_upTo_0 : LEnt := ⟨p_spec_upTo_0, x_spec_upTo_0, loopO (m_spec_upTo_0)⟩
theorem lo_spec_upTo_0 : LOK Tryz.prog 22 0 false (l_spec_upTo_0) c_spec_upTo_0 := loop_ok (body := m_spec_upTo_0) (L := lookL []) (ck_spec_upTo) mixed (ls_ok (l := []) (by kernel_rfl) .nil) (by intro x; kernel_rfl) (fun x y h => loopO_iff.1 h)
noncomputable def e_spec_upTo : Ent := ⟨0, p_spec_upTo, q_spec_upTo, m_spec_upTo⟩
theorem ok_spec_upTo : FnOK Tryz.prog 28 e_spec_upTo := fn_ok (L := lookL [(0, l_spec_upTo_0)]) ck_spec_upTo mixed Tryz.func28 rfl (by kernel_rfl) (by kernel_rfl) (ls_ok (l := [(0, c_spec_upTo_0)]) (by kernel_rfl) (.cons rfl (lo_spec_upTo_0) .nil)) (by intro x; kernel_rfl)
abbrev p_spec_atMost : Pt := [(0, .lst .int)]
abbrev q_spec_atMost : Pt := [(0, .lst .int)]
noncomputable def m_spec_atMost : Tup p_spec_atMost → Option (Tup q_spec_atMost) := fun (x : List Int) => Option.bind (subL x (0 : Int) (if (1 : Int) < (↑(List.length x) : Int) then (1 : Int) else (↑(List.length x) : Int))) fun (m : List Int) => some m
noncomputable def cx_spec_atMost : Cx := ⟨tb, lookE [], lookS []⟩
theorem ck_spec_atMost : CxOK Tryz.prog (cx_spec_atMost) := cx_ok tb_ok .nil
noncomputable def e_spec_atMost : Ent := ⟨0, p_spec_atMost, q_spec_atMost, m_spec_atMost⟩
theorem ok_spec_atMost : FnOK Tryz.prog 23 e_spec_atMost := fn_ok (L := lookL []) ck_spec_atMost mixed Tryz.func23 rfl (by kernel_rfl) (by kernel_rfl) (ls_ok (l := []) (by kernel_rfl) .nil) (by intro x; kernel_rfl)
abbrev p_spec_RelativesOf : Pt := [(0, .lst .node), (1, .int .i64), (2, .el (.rc (.int .i64) [.str, .ints, (.int .i64), (.int .i64)] 0))]
abbrev q_spec_RelativesOf : Pt := [(0, .lst .int), (1, .bool)]
noncomputable def m_spec_RelativesOf : Tup p_spec_RelativesOf → Option (Tup q_spec_RelativesOf) := fun (x : List Node × Int × Int × List UInt8 × List Int × Int × Int) => bif decide (x.2.2.1 = (20 : Int)) then bif decide (x.2.2.1 = (21 : Int)) then Option.bind (m_spec_Kids (x.1, x.2.1)) fun (r : List Int) => some (r, true) else Option.bind (m_spec_Elements (x.1, x.2.1)) fun (r : List Int) => some (r, true) else bif decide (x.2.2.1 = (21 : Int)) then bif decide (x.2.2.1 = (21 : Int)) then Option.bind (m_spec_Kids (x.1, x.2.1)) fun (r : List Int) => some (r, true) else Option.bind (m_spec_Elements (x.1, x.2.1)) fun (r : List Int) => some (r, true) else bif decide (x.2.2.1 = (22 : Int)) then Option.bind (m_spec_Parent (x.1, x.2.1)) fun (r : Int) => bif decide ((0 : Int) ≤ r) then Option.bind (atI x.1 r) fun (v : Node) => bif decide (Node.kind v = (3 : Int)) then some ([r], true) else some ([], true) else some ([], true) else bif decide (x.2.2.1 = (23 : Int)) then Option.bind (m_spec_AboveOf (x.1, x.2.1)) fun (r : List Int) => some (r, true) else bif decide (x.2.2.1 = (24 : Int)) then Option.bind (m_spec_AboveOf (x.1, x.2.1)) fun (r : List Int) => Option.bind (m_spec_upTo (r, x.2.2.2.2.1)) fun (r : List Int) => some (r, true) else bif decide (x.2.2.1 = (25 : Int)) then Option.bind (m_spec_BesideOf (x.1, x.2.1, decide (x.2.2.1 = (25 : Int)))) fun (r : List Int) => Option.bind (m_spec_atMost r) fun (r : List Int) => some (r, true) else bif decide (x.2.2.1 = (28 : Int)) then Option.bind (m_spec_BesideOf (x.1, x.2.1, decide (x.2.2.1 = (25 : Int)))) fun (r : List Int) => Option.bind (m_spec_atMost r) fun (r : List Int) => some (r, true) else bif decide (x.2.2.1 = (26 : Int)) then Option.bind (m_spec_BesideOf (x.1, x.2.1, decide (x.2.2.1 = (26 : Int)))) fun (r : List Int) => some (r, true) else bif decide (x.2.2.1 = (29 : Int)) then Option.bind (m_spec_BesideOf (x.1, x.2.1, decide (x.2.2.1 = (26 : Int)))) fun (r : List Int) => some (r, true) else bif decide (x.2.2.1 = (27 : Int)) then Option.bind (m_spec_BesideOf (x.1, x.2.1, decide (x.2.2.1 = (27 : Int)))) fun (r : List Int) => Option.bind (m_spec_upTo (r, x.2.2.2.2.1)) fun (r : List Int) => some (r, true) else bif decide (x.2.2.1 = (30 : Int)) then Option.bind (m_spec_BesideOf (x.1, x.2.1, decide (x.2.2.1 = (27 : Int)))) fun (r : List Int) => Option.bind (m_spec_upTo (r, x.2.2.2.2.1)) fun (r : List Int) => some (r, true) else bif decide (x.2.2.1 = (31 : Int)) then Option.bind (m_spec_BesideOf (x.1, x.2.1, false)) fun (r : List Int) => Option.bind (appL [] r) fun (r : List Int) => Option.bind (m_spec_BesideOf (x.1, x.2.1, true)) fun (r_1 : List Int) => Option.bind (appL r r_1) fun (r : List Int) => some (r, true) else some ([], false)
noncomputable def cx_spec_RelativesOf : Cx := ⟨tb, lookE [(24, e_spec_Kids), (25, e_spec_Elements), (26, e_spec_Parent), (27, e_spec_AboveOf), (28, e_spec_upTo), (29, e_spec_BesideOf), (23, e_spec_atMost)], lookS [(15, [(true, 0), (true, 1), (true, 3), (true, 4), (false, 2), (false, 5), (true, 6), (true, 7)]), (24, [(true, 0), (true, 1), (true, 2), (true, 3), (true, 4), (true, 6), (true, 7), (false, 5), (false, 8), (true, 9), (true, 10)])]⟩
theorem ck_spec_RelativesOf : CxOK Tryz.prog (cx_spec_RelativesOf) := cx_ok tb_ok (.cons ok_spec_Kids Tryz.call24 (.cons ok_spec_Elements Tryz.call25 (.cons ok_spec_Parent Tryz.call26 (.cons ok_spec_AboveOf Tryz.call27 (.cons ok_spec_upTo Tryz.call28 (.cons ok_spec_BesideOf Tryz.call29 (.cons ok_spec_atMost Tryz.call23 .nil)))))))
noncomputable def e_spec_RelativesOf : Ent := ⟨0, p_spec_RelativesOf, q_spec_RelativesOf, m_spec_RelativesOf⟩
theorem ok_spec_RelativesOf : FnOK Tryz.prog 17 e_spec_RelativesOf := fn_ok (L := lookL []) ck_spec_RelativesOf mixed Tryz.func17 rfl (by kernel_rfl) (by kernel_rfl) (ls_ok (l := []) (by kernel_rfl) .nil) (by intro x; kernel_rfl)
abbrev p_spec_parted : Pt := [(0, .lst .int), (1, .el (.rc (.int .i64) [.str, .ints, (.int .i64), (.int .i64)] 0))]
abbrev q_spec_parted : Pt := [(0, .lst .int), (1, .bool)]
noncomputable def m_spec_parted : Tup p_spec_parted → Option (Tup q_spec_parted) := fun (x : List Int × Int × List UInt8 × List Int × Int × Int) => bif decide (x.2.1 = (34 : Int)) then Option.bind (m_spec_atMost x.1) fun (r : List Int) => some (r, true) else bif decide (x.2.1 = (35 : Int)) then Option.bind (subL x.1 (if IntKind.wrap .i64 ((↑(List.length x.1) : Int) - (1 : Int)) < (0 : Int) then (0 : Int) else IntKind.wrap .i64 ((↑(List.length x.1) : Int) - (1 : Int))) (↑(List.length x.1) : Int)) fun (m : List Int) => some (m, true) else bif decide (x.2.1 = (36 : Int)) then bif decide (x.2.2.2.2.1 < (0 : Int)) then bif decide (IntKind.wrap .i64 (x.2.2.2.2.1 + (↑(List.length x.1) : Int)) < (0 : Int)) then some ([], true) else bif decide ((↑(List.length x.1) : Int) ≤ IntKind.wrap .i64 (x.2.2.2.2.1 + (↑(List.length x.1) : Int))) then some ([], true) else Option.bind (subL x.1 (IntKind.wrap .i64 (x.2.2.2.2.1 + (↑(List.length x.1) : Int))) (IntKind.wrap .i64 (IntKind.wrap .i64 (x.2.2.2.2.1 + (↑(List.length x.1) : Int)) + (1 : Int)))) fun (m : List Int) => some (m, true) else bif decide (x.2.2.2.2.1 < (0 : Int)) then some ([], true) else bif decide ((↑(List.length x.1) : Int) ≤ x.2.2.2.2.1) then some ([], true) else Option.bind (subL x.1 x.2.2.2.2.1 (IntKind.wrap .i64 (x.2.2.2.2.1 + (1 : Int)))) fun (m : List Int) => some (m, true) else bif decide (x.2.1 = (33 : Int)) then bif decide (x.2.2.2.2.1 < (0 : Int)) then bif decide (IntKind.wrap .i64 (x.2.2.2.2.1 + (↑(List.length x.1) : Int)) < (0 : Int)) then some ([], false) else bif decide ((↑(List.length x.1) : Int) < (↑(List.length x.1) : Int)) then some ([], false) else bif decide ((↑(List.length x.1) : Int) < IntKind.wrap .i64 (x.2.2.2.2.1 + (↑(List.length x.1) : Int))) then some ([], false) else Option.bind (subL x.1 (IntKind.wrap .i64 (x.2.2.2.2.1 + (↑(List.length x.1) : Int))) (↑(List.length x.1) : Int)) fun (m : List Int) => some (m, true) else bif decide (x.2.2.2.2.1 < (0 : Int)) then some ([], false) else bif decide ((↑(List.length x.1) : Int) < (↑(List.length x.1) : Int)) then some ([], false) else bif decide ((↑(List.length x.1) : Int) < x.2.2.2.2.1) then some ([], false) else Option.bind (subL x.1 x.2.2.2.2.1 (↑(List.length x.1) : Int)) fun (m : List Int) => some (m, true) else bif decide (x.2.2.2.2.1 < (0 : Int)) then bif decide (x.2.2.2.2.2 < (0 : Int)) then bif decide (IntKind.wrap .i64 (x.2.2.2.2.1 + (↑(List.length x.1) : Int)) < (0 : Int)) then some ([], false) else bif decide ((↑(List.length x.1) : Int) < IntKind.wrap .i64 (x.2.2.2.2.2 + (↑(List.length x.1) : Int))) then some ([], false) else bif decide (IntKind.wrap .i64 (x.2.2.2.2.2 + (↑(List.length x.1) : Int)) < IntKind.wrap .i64 (x.2.2.2.2.1 + (↑(List.length x.1) : Int))) then some ([], false) else Option.bind (subL x.1 (IntKind.wrap .i64 (x.2.2.2.2.1 + (↑(List.length x.1) : Int))) (IntKind.wrap .i64 (x.2.2.2.2.2 + (↑(List.length x.1) : Int)))) fun (m : List Int) => some (m, true) else bif decide (IntKind.wrap .i64 (x.2.2.2.2.1 + (↑(List.length x.1) : Int)) < (0 : Int)) then some ([], false) else bif decide ((↑(List.length x.1) : Int) < x.2.2.2.2.2) then some ([], false) else bif decide (x.2.2.2.2.2 < IntKind.wrap .i64 (x.2.2.2.2.1 + (↑(List.length x.1) : Int))) then some ([], false) else Option.bind (subL x.1 (IntKind.wrap .i64 (x.2.2.2.2.1 + (↑(List.length x.1) : Int))) x.2.2.2.2.2) fun (m : List Int) => some (m, true) else bif decide (x.2.2.2.2.2 < (0 : Int)) then bif decide (x.2.2.2.2.1 < (0 : Int)) then some ([], false) else bif decide ((↑(List.length x.1) : Int) < IntKind.wrap .i64 (x.2.2.2.2.2 + (↑(List.length x.1) : Int))) then some ([], false) else bif decide (IntKind.wrap .i64 (x.2.2.2.2.2 + (↑(List.length x.1) : Int)) < x.2.2.2.2.1) then some ([], false) else Option.bind (subL x.1 x.2.2.2.2.1 (IntKind.wrap .i64 (x.2.2.2.2.2 + (↑(List.length x.1) : Int)))) fun (m : List Int) => some (m, true) else bif decide (x.2.2.2.2.1 < (0 : Int)) then some ([], false) else bif decide ((↑(List.length x.1) : Int) < x.2.2.2.2.2) then some ([], false) else bif decide (x.2.2.2.2.2 < x.2.2.2.2.1) then some ([], false) else Option.bind (subL x.1 x.2.2.2.2.1 x.2.2.2.2.2) fun (m : List Int) => some (m, true)
noncomputable def cx_spec_parted : Cx := ⟨tb, lookE [(23, e_spec_atMost)], lookS [(2, [(true, 0), (true, 1), (true, 2), (true, 3), (true, 4), (true, 5)])]⟩
theorem ck_spec_parted : CxOK Tryz.prog (cx_spec_parted) := cx_ok tb_ok (.cons ok_spec_atMost Tryz.call23 .nil)
noncomputable def e_spec_parted : Ent := ⟨0, p_spec_parted, q_spec_parted, m_spec_parted⟩
theorem ok_spec_parted : FnOK Tryz.prog 14 e_spec_parted := fn_ok (L := lookL []) ck_spec_parted mixed Tryz.func14 rfl (by kernel_rfl) (by kernel_rfl) (ls_ok (l := []) (by kernel_rfl) .nil) (by intro x; kernel_rfl)
abbrev p_spec_Related : Pt := [(0, .lst .node), (1, .lst .int), (2, .el (.rc (.int .i64) [.str, .ints, (.int .i64), (.int .i64)] 0))]
abbrev q_spec_Related : Pt := [(0, .lst .int), (1, .bool)]
abbrev p_spec_Related_0 : Pt := [(1, .lst .int), (5, .blk (.rc (.int .i64) [.str, .ints, (.int .i64), (.int .i64)] 0) 27), (8, .own .int 3), (9, .int .i64)]
abbrev x_spec_Related_0 : List (Xt × Pt) := [(.ex 1, [(8, .own .int 3)])]
noncomputable def m_spec_Related_0 : Tup p_spec_Related_0 → Option (Stp (Tup p_spec_Related_0) (SumT (x_spec_Related_0.map (·.2)))) := fun (x : List Int × (Int × List UInt8 × List Int × Int × Int) × List Int × Int) => bif decide (x.2.2.2 < (↑(List.length x.1) : Int)) then Option.bind (atI x.1 x.2.2.2) fun (v : Int) => Option.bind (m_spec_in (x.2.1.2.2.1, v)) fun (r : Bool) => bif r then Option.bind (atI x.1 x.2.2.2) fun (v : Int) => Option.bind (appL x.2.2.1 [v]) fun (r : List Int) => some (Stp.nx (x.1, (x.2.1.1, x.2.1.2.1, x.2.1.2.2.1, x.2.1.2.2.2.1, x.2.1.2.2.2.2), r, IntKind.wrap .i64 (x.2.2.2 + (1 : Int)))) else some (Stp.nx (x.1, (x.2.1.1, x.2.1.2.1, x.2.1.2.2.1, x.2.1.2.2.2.1, x.2.1.2.2.2.2), x.2.2.1, IntKind.wrap .i64 (x.2.2.2 + (1 : Int)))) else some (Stp.out x.2.2.1)
abbrev p_spec_Related_1 : Pt := [(0, .lst .node), (1, .lst .int), (5, .blk (.rc (.int .i64) [.str, .ints, (.int .i64), (.int .i64)] 0) 27), (10, .own .int 3), (11, .int .i64)]
abbrev x_spec_Related_1 : List (Xt × Pt) := [(.ex 3, [(0, .lst .node), (5, .blk (.rc (.int .i64) [.str, .ints, (.int .i64), (.int .i64)] 0) 27), (10, .own .int 3)]), (.rt, [(6, .own .int 3), (7, .bool)])]
noncomputable def m_spec_Related_1 : Tup p_spec_Related_1 → Option (Stp (Tup p_spec_Related_1) (SumT (x_spec_Related_1.map (·.2)))) := fun (x : List Node × List Int × (Int × List UInt8 × List Int × Int × Int) × List Int × Int) => bif decide (x.2.2.2.2 < (↑(List.length x.2.1) : Int)) then Option.bind (atI x.2.1 x.2.2.2.2) fun (v : Int) => Option.bind (m_spec_RelativesOf (x.1, v, x.2.2.1.1, x.2.2.1.2.1, x.2.2.1.2.2.1, x.2.2.1.2.2.2.1, x.2.2.1.2.2.2.2)) fun (r : List Int × Bool) => bif !r.2 then some (Stp.out (Sum.inr ([], false))) else Option.bind (appL x.2.2.2.1 r.1) fun (r : List Int) => some (Stp.nx (x.1, x.2.1, (x.2.2.1.1, x.2.2.1.2.1, x.2.2.1.2.2.1, x.2.2.1.2.2.2.1, x.2.2.1.2.2.2.2), r, IntKind.wrap .i64 (x.2.2.2.2 + (1 : Int)))) else some (Stp.out (Sum.inl (x.1, (x.2.2.1.1, x.2.2.1.2.1, x.2.2.1.2.2.1, x.2.2.1.2.2.2.1, x.2.2.1.2.2.2.2), x.2.2.2.1)))
noncomputable def m_spec_Related : Tup p_spec_Related → Option (Tup q_spec_Related) := fun (x : List Node × List Int × Int × List UInt8 × List Int × Int × Int) => bif decide (x.2.2.1 = (32 : Int)) then Option.bind (m_spec_parted (x.2.1, x.2.2.1, x.2.2.2.1, x.2.2.2.2.1, x.2.2.2.2.2.1, x.2.2.2.2.2.2)) fun (r : List Int × Bool) => some (r.1, r.2) else bif decide (x.2.2.1 = (33 : Int)) then Option.bind (m_spec_parted (x.2.1, x.2.2.1, x.2.2.2.1, x.2.2.2.2.1, x.2.2.2.2.2.1, x.2.2.2.2.2.2)) fun (r : List Int × Bool) => some (r.1, r.2) else bif decide (x.2.2.1 = (34 : Int)) then Option.bind (m_spec_parted (x.2.1, x.2.2.1, x.2.2.2.1, x.2.2.2.2.1, x.2.2.2.2.2.1, x.2.2.2.2.2.2)) fun (r : List Int × Bool) => some (r.1, r.2) else bif decide (x.2.2.1 = (35 : Int)) then Option.bind (m_spec_parted (x.2.1, x.2.2.1, x.2.2.2.1, x.2.2.2.2.1, x.2.2.2.2.2.1, x.2.2.2.2.2.2)) fun (r : List Int × Bool) => some (r.1, r.2) else bif decide (x.2.2.1 = (36 : Int)) then Option.bind (m_spec_parted (x.2.1, x.2.2.1, x.2.2.2.1, x.2.2.2.2.1, x.2.2.2.2.2.1, x.2.2.2.2.2.2)) fun (r : List Int × Bool) => some (r.1, r.2) else bif decide (x.2.2.1 = (37 : Int)) then Option.bind (appL [] x.2.1) fun (r : List Int) => Option.bind (appL r x.2.2.2.2.1) fun (r : List Int) => Option.bind (m_spec_once r) fun (r : List Int) => some (r, true) else bif decide (x.2.2.1 = (38 : Int)) then Option.bind (appL [] x.2.1) fun (r : List Int) => Option.bind (appL r x.2.2.2.2.1) fun (r : List Int) => Option.bind (m_spec_once r) fun (r : List Int) => some (r, true) else bif decide (x.2.2.1 = (39 : Int)) then Option.bind (loopO m_spec_Related_0 (x.2.1, (x.2.2.1, x.2.2.2.1, x.2.2.2.2.1, x.2.2.2.2.2.1, x.2.2.2.2.2.2), [], (0 : Int))) fun (y : List Int) => some (y, true) else Option.bind (loopO m_spec_Related_1 (x.1, x.2.1, (x.2.2.1, x.2.2.2.1, x.2.2.2.2.1, x.2.2.2.2.2.1, x.2.2.2.2.2.2), [], (0 : Int))) fun (y : List Node × (Int × List UInt8 × List Int × Int × Int) × List Int ⊕ List Int × Bool) => selim (fun (y : List Node × (Int × List UInt8 × List Int × Int × Int) × List Int) => Option.bind (m_spec_RelativesOf (y.1, (0 : Int), y.2.1.1, y.2.1.2.1, y.2.1.2.2.1, y.2.1.2.2.2.1, y.2.1.2.2.2.2)) fun (r : List Int × Bool) => Option.bind (m_spec_once y.2.2) fun (r_1 : List Int) => some (r_1, r.2)) (fun (y : List Int × Bool) => some (y.1, y.2)) y
noncomputable def cx_spec_Related : Cx := ⟨tb, lookE [(14, e_spec_parted), (15, e_spec_once), (16, e_spec_in), (17, e_spec_RelativesOf)], lookS [(10, [(true, 1), (true, 3), (true, 4), (false, 0), (false, 2), (false, 5), (false, 6), (true, 7), (true, 8)]), (16, [(true, 0), (true, 1), (true, 2), (true, 3), (true, 4), (true, 5), (false, 6)]), (23, [(true, 0), (true, 1), (true, 2), (true, 3), (true, 4), (true, 5), (false, 6), (true, 7), (true, 8), (true, 9), (true, 10), (true, 11)])]⟩
theorem ck_spec_Related : CxOK Tryz.prog (cx_spec_Related) := cx_ok tb_ok (.cons ok_spec_parted Tryz.call14 (.cons ok_spec_once Tryz.call15 (.cons ok_spec_in Tryz.call16 (.cons ok_spec_RelativesOf Tryz.call17 .nil))))
noncomputable def c_spec_Related_0 : Code := loopAt (Go.Proofs.Tryz.f6.body.getD .skip) 0
noncomputable def l_spec_Related_0 : LEnt := ⟨p_spec_Related_0, x_spec_Related_0, loopO (m_spec_Related_0)⟩
theorem lo_spec_Related_0 : LOK Tryz.prog 92 0 false (l_spec_Related_0) c_spec_Related_0 := loop_ok (body := m_spec_Related_0) (L := lookL []) (ck_spec_Related) mixed (ls_ok (l := []) (by kernel_rfl) .nil) (by intro x; kernel_rfl) (fun x y h => loopO_iff.1 h)
noncomputable def c_spec_Related_1 : Code := loopAt (Go.Proofs.Tryz.f6.body.getD .skip) 1
noncomputable def l_spec_Related_1 : LEnt := ⟨p_spec_Related_1, x_spec_Related_1, loopO (m_spec_Related_1)⟩
theorem lo_spec_Related_1 : LOK Tryz.prog 92 0 false (l_spec_Related_1) c_spec_Related_1 := loop_ok (body := m_spec_Related_1) (L := lookL []) (ck_spec_Related) mixed (ls_ok (l := []) (by kernel_rfl) .nil) (by intro x; kernel_rfl) (fun x y h => loopO_iff.1 h)
noncomputable def e_spec_Related : Ent := ⟨0, p_spec_Related, q_spec_Related, m_spec_Related⟩
theorem ok_spec_Related : FnOK Tryz.prog 6 e_spec_Related := fn_ok (L := lookL [(1, l_spec_Related_0), (3, l_spec_Related_1)]) ck_spec_Related mixed Tryz.func6 rfl (by kernel_rfl) (by kernel_rfl) (ls_ok (l := [(1, c_spec_Related_0), (3, c_spec_Related_1)]) (by kernel_rfl) (.cons rfl (lo_spec_Related_0) (.cons rfl (lo_spec_Related_1) .nil))) (by intro x; kernel_rfl)
end Go.Proofs.YtfjhibplplcjjaaGreat.V
set_option linter.unusedVariables false
set_option linter.unusedSimpArgs false
namespace Go.Proofs.YtfjhibplplcjjaaGreat.V
open Go
theorem some_ex {α : Type} (a : α) : ∃ b, some a = some b := ⟨a, rfl⟩
def fits4 (a : Attr) : Bool := decide (a.key.length ≤ 2147483647) && decide (a.val.length ≤ 2147483647)
def fits3 (l : List Attr) : Bool := decide (l.length ≤ 2147483647) && l.all fits4
def fits2 (n : Node) : Bool := decide (n.tag.length ≤ 2147483647) && decide (n.text.length ≤ 2147483647) && fits3 n.attrs
def fits1 (t : List Node) : Bool := decide (t.length ≤ 2147483647) && t.all fits2
theorem zz4 (a : Attr) : m_laws_zzFits4 a = some (fits4 a) := by
  simp only [m_laws_zzFits4, cond_dec, fits4]
  split
  · rename_i h; rw [decide_eq_false (by omega)]; rfl
  · rename_i h
    split
    · rename_i h2; rw [decide_eq_false (p := a.val.length ≤ _) (by omega), Bool.and_false]
    · rename_i h2; rw [decide_eq_true (by omega), decide_eq_true (by omega)]; rfl
theorem zz3 (l : List Attr) : m_laws_zzFits3 l = some (fits3 l) := by
  simp only [m_laws_zzFits3, cond_dec, fits3]
  split
  · rw [decide_eq_false (by omega)]; rfl
  · rename_i hl
    have h := loop_all (body := m_laws_zzFits3_0) l fits4 (fun k => (l, (l.length : Int), (k : Int))) (.inl ()) (.inr false) (fun k v hv => by
      have hk := (List.getElem?_eq_some_iff.1 hv).1
      simp only [m_laws_zzFits3_0, cond_dec, atI_nat]
      rw [if_pos (by omega), hv, bind_some, show m_laws_zzFits4 { key := v.key, val := v.val } = some (fits4 v) from zz4 v, bind_some, not_cond, w64 (by omega) (by omega)]
      cases fits4 v <;> rfl) (by
      simp only [m_laws_zzFits3_0, cond_dec]
      rw [if_neg (by omega)]) 0 (Nat.zero_le _)
    rw [show loopO m_laws_zzFits3_0 (l, (l.length : Int), (0 : Int)) = _ from h, bind_some, decide_eq_true (by omega)]
    simp only [List.drop_zero, Bool.true_and]
    cases l.all fits4 <;> rfl
theorem zz2 (n : Node) : m_laws_zzFits2 n = some (fits2 n) := by
  simp only [m_laws_zzFits2, cond_dec, fits2, zz3, bind_some]
  split
  · rw [decide_eq_false (by omega)]; rfl
  · split
    · rw [decide_eq_false (p := n.text.length ≤ _) (by omega), Bool.and_false]; rfl
    · rw [decide_eq_true (by omega), decide_eq_true (by omega)]
      cases fits3 n.attrs <;> rfl
theorem zz1 (l : List Node) : m_laws_zzFits1 l = some (fits1 l) := by
  simp only [m_laws_zzFits1, cond_dec, fits1]
  split
  · rw [decide_eq_false (by omega)]; rfl
  · rename_i hl
    have h := loop_all (body := m_laws_zzFits1_0) l fits2 (fun k => (l, (l.length : Int), (k : Int))) (.inl ()) (.inr false) (fun k v hv => by
      have hk := (List.getElem?_eq_some_iff.1 hv).1
      simp only [m_laws_zzFits1_0, cond_dec, atI_nat]
      rw [if_pos (by omega), hv, bind_some, show m_laws_zzFits2 { kind := v.kind, tag := v.tag, text := v.text, attrs := v.attrs, size := v.size } = some (fits2 v) from zz2 v, bind_some, not_cond, w64 (by omega) (by omega)]
      cases fits2 v <;> rfl) (by
      simp only [m_laws_zzFits1_0, cond_dec]
      rw [if_neg (by omega)]) 0 (Nat.zero_le _)
    rw [show loopO m_laws_zzFits1_0 (l, (l.length : Int), (0 : Int)) = _ from h, bind_some, decide_eq_true (by omega)]
    simp only [List.drop_zero, Bool.true_and]
    cases l.all fits2 <;> rfl
theorem name_ex (s : List UInt8) (hs : s.length ≤ 2147483647) : ∃ b, m_spec_Name s = some b := by
  simp only [m_spec_Name, cond_dec, atI_zero]
  split
  · exact some_ex _
  · split
    · exact some_ex _
    · rename_i h1 h2
      obtain ⟨c, hc⟩ := get_lt (l := s) (k := 0) (by omega)
      rw [hc]
      simp only [bind_some]
      split
      · exact some_ex _
      · split
        · exact some_ex _
        · obtain ⟨b, h, _⟩ := loopO_up (body := m_spec_Name_0) (st := fun k => (s, ((k + 1 : Nat) : Int))) (s.length - 1) (fun _ => True) (fun k hk => by
            simp only [m_spec_Name_0, cond_dec, atI_nat]
            split
            · rename_i h3
              obtain ⟨v, hv⟩ := get_lt (l := s) (k := k + 1) (by omega)
              rw [hv]
              simp only [bind_some]
              rw [w64 (by omega) (by omega)]
              have hnx : ∀ (p : Prop) [Decidable p] (a b : Option (Stp (Tup p_spec_Name_0) (SumT (x_spec_Name_0.map (·.2))))), cond (!decide p) a b = if p then b else a := fun p _ a b => by by_cases h : p <;> simp [h]
              simp only [hnx]
              repeat' split
              all_goals first | exact .inl ⟨_, rfl, trivial⟩ | exact .inr ⟨by omega, rfl⟩
            · exact .inl ⟨_, rfl, trivial⟩) 0 (by omega)
          have h' : loopO m_spec_Name_0 (s, (1 : Int)) = some b := h
          rw [h', bind_some]
          cases b <;> exact some_ex _
theorem point0 (s : List UInt8) (a : Nat) (p least r : Int) (hr : 0 ≤ r) (h : (a : Int) + r < s.length) (hl : s.length ≤ 2147483647) : ∃ y, loopO m_spec_Point_0 (s, (a : Int), p, least, r, (1 : Int)) = some y ∧ (∀ a b c, y = .inl (a, b, c) → c = r) ∧ ∀ a b, y = .inr (a, b) → a = 0 ∧ b = 0 := by
  refine loopO_rule (body := m_spec_Point_0) (fun x => ∃ (p : Int) (k : Nat), x = (s, (a : Int), p, least, r, (k : Int)) ∧ 1 ≤ k ∧ (k : Int) ≤ r + 1) (fun _ y => (∀ a b c, y = .inl (a, b, c) → c = r) ∧ ∀ a b, y = .inr (a, b) → a = 0 ∧ b = 0) (fun x => (r + 1 - x.2.2.2.2.2).toNat) (fun x hx => ?_) _ ⟨p, 1, rfl, by omega, by omega⟩
  obtain ⟨p, k, rfl, h1, h2⟩ := hx
  simp only [m_spec_Point_0, cond_dec]
  split
  · rename_i h3
    rw [w64 (by omega) (by omega)]
    have e : (a : Int) + (k : Int) = ((a + k : Nat) : Int) := by omega
    rw [e, atI_nat]
    obtain ⟨c, hc⟩ := get_lt (l := s) (k := a + k) (by omega)
    rw [hc]
    simp only [bind_some]
    split
    · exact .inl ⟨_, rfl, (fun _ _ _ e => by cases e), fun _ _ e => by cases e; exact ⟨rfl, rfl⟩⟩
    · split
      · exact .inl ⟨_, rfl, (fun _ _ _ e => by cases e), fun _ _ e => by cases e; exact ⟨rfl, rfl⟩⟩
      · have hs : ∀ q : Int, shlI .i64 q 6 = some (IntKind.wrap .i64 (q * 2 ^ min (6 : Int).toNat IntKind.i64.bits)) := fun q => by simp [shlI]
        rw [hs]
        simp only [bind_some]
        refine .inr ⟨_, rfl, ⟨_, k + 1, by rw [w64 (n := (k : Int) + 1) (by omega) (by omega)]; rfl, by omega, by omega⟩, ?_, fun _ h => h⟩
        simp only
        rw [w64 (n := (k : Int) + 1) (by omega) (by omega)]
        omega
  · exact .inl ⟨_, rfl, (fun _ _ _ e => by cases e; rfl), fun _ _ e => by cases e⟩
def PtOK (s : List UInt8) (a : Nat) (o : Option (Int × Int)) : Prop := ∃ p n : Int, o = some (p, n) ∧ 0 ≤ n ∧ (a : Int) + n ≤ s.length
theorem ite_ok {α : Type} {P : α → Prop} {c : Prop} [Decidable c] {x y : α} (h1 : c → P x) (h2 : ¬ c → P y) : P (if c then x else y) := by by_cases h : c <;> simp [h, h1, h2]
theorem point_ok (s : List UInt8) (a : Nat) (ha : a < s.length) (hl : s.length ≤ 2147483647) : PtOK s a (m_spec_Point (s, (a : Int))) := by
  obtain ⟨c, hc⟩ := get_lt (l := s) (k := a) ha
  have fin : ∀ (p least r : Int), 0 ≤ r → (a : Int) + r < s.length → PtOK s a (Option.bind (loopO m_spec_Point_0 (s, (a : Int), p, least, r, (1 : Int))) fun (y : Int × Int × Int ⊕ Int × Int) => selim (fun (y : Int × Int × Int) => if y.1 < y.2.1 then some ((0 : Int), (0 : Int)) else if (1114111 : Int) < y.1 then some ((0 : Int), (0 : Int)) else if (55296 : Int) ≤ y.1 then if y.1 < (57344 : Int) then some ((0 : Int), (0 : Int)) else some (y.1, IntKind.wrap .i64 (y.2.2 + (1 : Int))) else some (y.1, IntKind.wrap .i64 (y.2.2 + (1 : Int)))) (fun (y : Int × Int) => some (y.1, y.2)) y) := fun p least r h1 h2 => by
    obtain ⟨y, g1, g2, g3⟩ := point0 s a p least r h1 h2 hl
    rw [g1, bind_some]
    rcases y with ⟨u, v, w⟩ | ⟨u, v⟩
    · obtain rfl := g2 _ _ _ rfl
      simp only [selim_l]
      rw [w64 (n := w + 1) (by omega) (by omega)]
      repeat' split
      all_goals first | exact ⟨_, _, rfl, by omega, by omega⟩
    · obtain ⟨rfl, rfl⟩ := g3 _ _ rfl
      exact ⟨_, _, rfl, by omega, by omega⟩
  simp only [m_spec_Point, cond_dec, atI_nat]
  rw [hc]
  simp only [bind_some]
  have e : IntKind.wrap .i64 ((s.length : Int) - (a : Int)) = (s.length : Int) - (a : Int) := w64 (by omega) (by omega)
  simp only [e]
  repeat' (refine ite_ok (P := PtOK s a) (fun _ => ?_) (fun _ => ?_))
  all_goals first | exact ⟨_, _, rfl, by omega, by omega⟩ | (refine fin _ _ _ ?_ ?_ <;> omega)
theorem point_ex (s : List UInt8) (a : Nat) (ha : a < s.length) (hl : s.length ≤ 2147483647) : ∃ p n : Int, m_spec_Point (s, (a : Int)) = some (p, n) ∧ 0 ≤ n ∧ (a : Int) + n ≤ s.length := point_ok s a ha hl
theorem plain_ex (s : List UInt8) (hl : s.length ≤ 2147483647) : ∃ b, m_spec_Plain s = some b := by
  simp only [m_spec_Plain]
  obtain ⟨b, h, _⟩ := loopO_rule (body := m_spec_Plain_0) (fun x => ∃ k : Nat, x = (s, (k : Int)) ∧ k ≤ s.length) (fun _ _ => True) (fun x => ((s.length : Int) - x.2).toNat) (fun x hx => by
    obtain ⟨k, rfl, hk⟩ := hx
    simp only [m_spec_Plain_0, cond_dec]
    split
    · rename_i h1
      obtain ⟨p, n, h2, h3, h4⟩ := point_ex s k (by omega) hl
      rw [h2, bind_some]
      simp only
      split
      · exact .inl ⟨_, rfl, trivial⟩
      · split
        · exact .inl ⟨_, rfl, trivial⟩
        · refine .inr ⟨_, rfl, ⟨k + n.toNat, ?_, by omega⟩, ?_, fun _ h => h⟩
          · rw [w64 (n := (k : Int) + n) (by omega) (by omega)]
            have e : (k : Int) + n = ((k + n.toNat : Nat) : Int) := by omega
            rw [e]
          · simp only
            rw [w64 (n := (k : Int) + n) (by omega) (by omega)]
            omega
    · exact .inl ⟨_, rfl, trivial⟩) (s, (0 : Int)) ⟨0, rfl, Nat.zero_le _⟩
  rw [h, bind_some]
  cases b <;> exact some_ex _
end Go.Proofs.YtfjhibplplcjjaaGreat.V
set_option linter.unusedVariables false
set_option linter.unusedSimpArgs false
namespace Go.Proofs.YtfjhibplplcjjaaGreat.V
open Go
def sz (t : List Node) (i : Nat) : Nat := match t[i]? with
  | some v => v.size.toNat
  | none => 0
theorem sz_some {t : List Node} {i : Nat} {v : Node} (h : t[i]? = some v) : sz t i = v.size.toNat := by simp [sz, h]
structure Lam (t : List Node) (lo hi : Nat) : Prop where
  ok : ∀ i, lo ≤ i → i < hi → ∃ v, t[i]? = some v ∧ v.size = (sz t i : Int) ∧ 1 ≤ sz t i ∧ i + sz t i ≤ hi
  nest : ∀ i j, lo ≤ i → i < hi → i < j → j < i + sz t i → j + sz t j ≤ i + sz t i
section
variable {t : List Node} {a b c : Nat}
theorem Lam.nil : Lam t a a := ⟨fun i h1 h2 => by omega, fun i j h1 h2 => by omega⟩
theorem Lam.app (h1 : Lam t a b) (h2 : Lam t b c) (hb : b ≤ c) : Lam t a c := by
  refine ⟨fun i hi hi' => ?_, fun i j hi hi' hj hj' => ?_⟩
  · by_cases h : i < b
    · obtain ⟨v, g1, g2, g3, g4⟩ := h1.ok i hi h
      exact ⟨v, g1, g2, g3, by omega⟩
    · exact h2.ok i (by omega) hi'
  · by_cases h : i < b
    · exact h1.nest i j hi h hj hj'
    · exact h2.nest i j (by omega) hi' hj hj'
theorem Lam.node {v : Node} (hv : t[a]? = some v) (hs : v.size = (sz t a : Int)) (h1 : 1 ≤ sz t a) (h : Lam t (a + 1) (a + sz t a)) : Lam t a (a + sz t a) := by
  refine ⟨fun i hi hi' => ?_, fun i j hi hi' hj hj' => ?_⟩
  · by_cases e : i = a
    · subst e; exact ⟨v, hv, hs, h1, Nat.le_refl _⟩
    · exact h.ok i (by omega) hi'
  · by_cases e : i = a
    · subst e
      obtain ⟨u, _, _, _, g⟩ := h.ok j (by omega) hj'
      exact g
    · exact h.nest i j (by omega) hi' hj hj'
theorem Lam.sub (h : Lam t a c) {i : Nat} (h1 : a ≤ i) (h2 : i < c) : Lam t i (i + sz t i) := by
  obtain ⟨v, _, _, _, g⟩ := h.ok i h1 h2
  refine ⟨fun j hj hj' => ?_, fun j k hj hj' hk hk' => h.nest j k (by omega) (by omega) hk hk'⟩
  obtain ⟨u, e1, e2, e3, _⟩ := h.ok j (by omega) (by omega)
  refine ⟨u, e1, e2, e3, ?_⟩
  by_cases e : j = i
  · subst e; omega
  · exact h.nest i j h1 h2 (by omega) hj'
end
theorem sized_ok (t : List Node) (ht : t.length ≤ 1000000) : ∀ (d n a e : Nat), d < n → d < 1000 → a < e → e ≤ t.length → ∃ b, m_spec_sized n (t, (a : Int), (e : Int), (d : Int)) = some b ∧ (b = true → ∃ v, t[a]? = some v ∧ v.size = (sz t a : Int) ∧ 1 ≤ sz t a ∧ a + sz t a ≤ e ∧ Lam t a (a + sz t a)) := by
  intro d
  induction d with
  | zero =>
    intro n a e hn _ ha he
    obtain ⟨m, rfl⟩ : ∃ m, n = m + 1 := ⟨n - 1, by omega⟩
    obtain ⟨v, hv⟩ := get_lt (l := t) (k := a) (by omega)
    simp only [m_spec_sized, b_spec_sized, cond_dec, atI_nat]
    rw [hv, bind_some]
    simp
  | succ d ih =>
    intro n a e hn hd ha he
    obtain ⟨m, rfl⟩ : ∃ m, n = m + 1 := ⟨n - 1, by omega⟩
    obtain ⟨v, hv⟩ := get_lt (l := t) (k := a) (by omega)
    simp only [m_spec_sized, b_spec_sized, cond_dec, atI_nat]
    rw [hv, bind_some]
    have hs := sz_some hv
    rw [if_neg (by omega)]
    split
    · exact ⟨_, rfl, fun h => by cases h⟩
    · rename_i h1
      rw [w64 (by omega) (by omega)]
      split
      · exact ⟨_, rfl, fun h => by cases h⟩
      · rename_i h2
        have hsz : v.size = (sz t a : Int) := by omega
        have hs1 : 1 ≤ sz t a := by omega
        have hs2 : a + sz t a ≤ e := by omega
        rw [hsz, w64 (n := (a : Int) + 1) (by omega) (by omega)]
        obtain ⟨y, hy, hq1, hq2⟩ := loopO_rule (body := m_spec_sized_0 (m_spec_sized m)) (fun x => ∃ k : Nat, x = (t, (a : Int), ((d + 1 : Nat) : Int), (sz t a : Int), (k : Int)) ∧ a < k ∧ k ≤ a + sz t a ∧ Lam t (a + 1) k)
          (fun _ y => (y = .inl () → Lam t (a + 1) (a + sz t a)) ∧ ∀ b, y = .inr b → b = false) (fun x => (((a + sz t a : Nat) : Int) - x.2.2.2.2).toNat) (fun x hx => by
            obtain ⟨k, rfl, hk1, hk2, hL⟩ := hx
            simp only [m_spec_sized_0, cond_dec, atI_nat]
            rw [w64 (n := (a : Int) + (sz t a : Int)) (by omega) (by omega)]
            split
            · rename_i h3
              obtain ⟨r, hr, hr'⟩ := ih m k (a + sz t a) (by omega) (by omega) (by omega) (by omega)
              have e1 : IntKind.wrap .i64 (((d + 1 : Nat) : Int) - 1) = (d : Int) := by rw [w64 (by omega) (by omega)]; omega
              have e2 : (a : Int) + (sz t a : Int) = ((a + sz t a : Nat) : Int) := by omega
              rw [e1, e2, hr, bind_some]
              cases r
              · exact .inl ⟨_, rfl, (fun h => by cases h), fun b h => by cases h; rfl⟩
              · obtain ⟨u, g1, g2, g3, g4, g5⟩ := hr' rfl
                rw [g1, bind_some]
                simp only [Bool.not_true, cond_false]
                rw [g2, w64 (n := (k : Int) + (sz t k : Int)) (by omega) (by omega)]
                refine .inr ⟨_, rfl, ⟨k + sz t k, ?_, by omega, by omega, hL.app g5 (by omega)⟩, ?_, fun _ h => h⟩
                · have e3 : (k : Int) + (sz t k : Int) = ((k + sz t k : Nat) : Int) := by omega
                  rw [e3]
                · simp only; omega
            · rename_i h3
              have : k = a + sz t a := by omega
              subst this
              exact .inl ⟨_, rfl, fun _ => hL, fun b h => by cases h⟩) (t, (a : Int), ((d + 1 : Nat) : Int), (sz t a : Int), (a : Int) + 1) ⟨a + 1, rfl, by omega, by omega, .nil⟩
        rw [hy, bind_some]
        rcases y with u | b
        · exact ⟨_, rfl, fun _ => ⟨v, rfl, hsz, hs1, hs2, Lam.node hv hsz hs1 (hq1 rfl)⟩⟩
        · obtain rfl := hq2 b rfl
          exact ⟨_, rfl, fun h => by cases h⟩
def kidsF (t : List Node) : Nat → Nat → Nat → List Nat
  | 0, _, _ => []
  | f + 1, k, hi => if k < hi then k :: kidsF t f (k + sz t k) hi else []
def kidsN (t : List Node) (a : Nat) : List Nat := kidsF t (sz t a) (a + 1) (a + sz t a)
def parF (t : List Node) (j : Nat) : Nat → Option Nat
  | 0 => none
  | i + 1 => if j < i + sz t i then some i else parF t j i
def par (t : List Node) (j : Nat) : Option Nat := parF t j j
theorem parF_some {t : List Node} {j i p : Nat} (h : parF t j i = some p) : p < i ∧ j < p + sz t p ∧ ∀ q, p < q → q < i → ¬ j < q + sz t q := by
  induction i with
  | zero => cases h
  | succ i ih =>
    simp only [parF] at h
    split at h
    · cases h
      exact ⟨by omega, by assumption, fun q h1 h2 => by omega⟩
    · rename_i hn
      obtain ⟨h1, h2, h3⟩ := ih h
      refine ⟨by omega, h2, fun q g1 g2 => ?_⟩
      by_cases e : q = i
      · subst e; exact hn
      · exact h3 q g1 (by omega)
theorem parF_none {t : List Node} {j i : Nat} (h : parF t j i = none) : ∀ q, q < i → ¬ j < q + sz t q := by
  induction i with
  | zero => intro q hq; omega
  | succ i ih =>
    simp only [parF] at h
    split at h
    · cases h
    · rename_i hn
      intro q hq
      by_cases e : q = i
      · subst e; exact hn
      · exact ih h q (by omega)
theorem par_some {t : List Node} {j p : Nat} (h : par t j = some p) : p < j ∧ j < p + sz t p ∧ ∀ q, p < q → q < j → ¬ j < q + sz t q := parF_some h
theorem parF_mk {t : List Node} {j p : Nat} : ∀ {i : Nat}, p < i → j < p + sz t p → (∀ q, p < q → q < i → ¬ j < q + sz t q) → parF t j i = some p
  | 0, h, _, _ => by omega
  | i + 1, h1, h2, h3 => by
    simp only [parF]
    by_cases e : p = i
    · subst e; rw [if_pos h2]
    · rw [if_neg (h3 i (by omega) (by omega)), parF_mk (by omega) h2 fun q g1 g2 => h3 q g1 (by omega)]
theorem par_mk {t : List Node} {j p : Nat} (h1 : p < j) (h2 : j < p + sz t p) (h3 : ∀ q, p < q → q < j → ¬ j < q + sz t q) : par t j = some p := parF_mk h1 h2 h3
def parI (t : List Node) (j : Nat) : Int := match par t j with
  | some p => (p : Int)
  | none => -1
theorem Kids_eq (t : List Node) (ht : t.length ≤ 1000000) {a : Nat} {lo hi : Nat} (hL : Lam t lo hi) (h1 : lo ≤ a) (h2 : a < hi) (hhi : hi ≤ t.length) : m_spec_Kids (t, (a : Int)) = some ((kidsN t a).map Int.ofNat) := by
  obtain ⟨v, hv, hvs, hv1, hv2⟩ := hL.ok a h1 h2
  simp only [m_spec_Kids]
  rw [w64 (n := (a : Int) + 1) (by omega) (by omega)]
  have key : ∀ f k (acc : List Int), a < k → k ≤ a + sz t a → a + sz t a ≤ k + f → acc.length + f ≤ 1000000 → loopO m_spec_Kids_0 (t, (a : Int), acc, (k : Int)) = some (acc ++ (kidsF t f k (a + sz t a)).map Int.ofNat) := by
    intro f
    induction f with
    | zero =>
      intro k acc g1 g2 g3 g4
      have hk : k = a + sz t a := by omega
      subst hk
      refine loopO_out ?_
      simp only [m_spec_Kids_0, cond_dec, atI_nat]
      rw [hv, bind_some, hvs, w64 (by omega) (by omega), if_neg (by omega)]
      simp [kidsF]
    | succ f ih =>
      intro k acc g1 g2 g3 g4
      by_cases hk : k < a + sz t a
      · obtain ⟨u, hu, hus, hu1, hu2⟩ := (hL.sub h1 h2).ok k (by omega) hk
        have step : m_spec_Kids_0 (t, (a : Int), acc, (k : Int)) = some (.nx (t, (a : Int), acc ++ [(k : Int)], ((k + sz t k : Nat) : Int))) := by
          simp only [m_spec_Kids_0, cond_dec, atI_nat]
          rw [hv, bind_some, hvs, w64 (by omega) (by omega), if_pos (by omega), appL_some (by simp; omega), bind_some, hu, bind_some, hus, w64 (by omega) (by omega)]
          rfl
        rw [loopO_nx step, ih (k + sz t k) _ (by omega) (by omega) (by omega) (by simp; omega)]
        simp only [kidsF, if_pos hk, List.map_cons, List.append_assoc, List.singleton_append]
        rfl
      · have hk : k = a + sz t a := by omega
        subst hk
        refine loopO_out ?_
        simp only [m_spec_Kids_0, cond_dec, atI_nat]
        rw [hv, bind_some, hvs, w64 (by omega) (by omega), if_neg (by omega)]
        simp [kidsF]
  have h := key (sz t a) (a + 1) [] (by omega) (by omega) (by omega) (by simp; omega)
  have e : ((a : Int) + 1) = ((a + 1 : Nat) : Int) := by omega
  rw [e, h, bind_some]
  simp [kidsN]
theorem Parent_eq (t : List Node) (ht : t.length ≤ 1000000) {a : Nat} {hi : Nat} (hL : Lam t 0 hi) (h2 : a < hi) (hhi : hi ≤ t.length) : m_spec_Parent (t, (a : Int)) = some (parI t a) := by
  simp only [m_spec_Parent]
  rw [w64 (n := (a : Int) - 1) (by omega) (by omega)]
  have key : ∀ i, i ≤ a → loopO m_spec_Parent_0 (t, (a : Int), (i : Int) - 1) = some (match parF t a i with | some p => .inr (p : Int) | none => .inl ()) := by
    intro i
    induction i with
    | zero =>
      intro _
      refine loopO_out ?_
      simp only [m_spec_Parent_0, cond_dec]
      rw [if_neg (by omega)]
      rfl
    | succ i ih =>
      intro hi'
      obtain ⟨u, hu, hus, hu1, hu2⟩ := hL.ok i (by omega) (by omega)
      have e : ((i + 1 : Nat) : Int) - 1 = (i : Int) := by omega
      rw [e]
      by_cases h : a < i + sz t i
      · refine loopO_out ?_
        simp only [m_spec_Parent_0, cond_dec, atI_nat]
        rw [if_pos (by omega), hu, bind_some, hus, w64 (by omega) (by omega), if_pos (by omega)]
        simp only [parF, if_pos h]
      · have step : m_spec_Parent_0 (t, (a : Int), (i : Int)) = some (.nx (t, (a : Int), (i : Int) - 1)) := by
          simp only [m_spec_Parent_0, cond_dec, atI_nat]
          rw [if_pos (by omega), hu, bind_some, hus, w64 (by omega) (by omega), if_neg (by omega), w64 (by omega) (by omega)]
        rw [loopO_nx step, ih (by omega)]
        simp only [parF, if_neg h]
  rw [key a (Nat.le_refl _), bind_some]
  unfold parI par
  cases parF t a a <;> rfl
end Go.Proofs.YtfjhibplplcjjaaGreat.V
set_option linter.unusedVariables false
set_option linter.unusedSimpArgs false
namespace Go.Proofs.YtfjhibplplcjjaaGreat.V
open Go
theorem fits_attr {l : List Attr} (h : fits3 l = true) {i : Nat} {a : Attr} (hi : l[i]? = some a) : a.key.length ≤ 2147483647 ∧ a.val.length ≤ 2147483647 := by
  simp only [fits3, Bool.and_eq_true, List.all_eq_true] at h
  have := h.2 a (List.mem_of_getElem? hi)
  simpa [fits4] using this
theorem fits_node {t : List Node} (h : fits1 t = true) {i : Nat} {v : Node} (hi : t[i]? = some v) : v.tag.length ≤ 2147483647 ∧ v.text.length ≤ 2147483647 ∧ fits3 v.attrs = true := by
  simp only [fits1, Bool.and_eq_true, List.all_eq_true] at h
  have := h.2 v (List.mem_of_getElem? hi)
  simp only [fits2, Bool.and_eq_true, decide_eq_true_eq] at this
  exact ⟨this.1.1, this.1.2, this.2⟩
structure UA (l : List Attr) : Prop where
  len : l.length ≤ 20
  nm : ∀ (i : Nat) (a : Attr), l[i]? = some a → m_spec_Name a.key = some true
  pl : ∀ (i : Nat) (a : Attr), l[i]? = some a → m_spec_Plain a.val = some true
  uq : ∀ (i j : Nat) (a b : Attr), j < i → l[i]? = some a → l[j]? = some b → b.key ≠ a.key
theorem rightAttrs_ex (l : List Attr) (hf : fits3 l = true) : ∃ b, m_spec_rightAttrs l = some b ∧ (b = true → UA l) := by
  simp only [m_spec_rightAttrs, cond_dec]
  split
  · exact ⟨_, rfl, fun h => by cases h⟩
  · rename_i hl
    obtain ⟨y, h, q1, q2⟩ := loopO_rule (body := m_spec_rightAttrs_0) (fun x => ∃ k : Nat, x = (l, (k : Int)) ∧ k ≤ l.length ∧ ∀ (i : Nat) (a : Attr), i < k → l[i]? = some a → m_spec_Name a.key = some true ∧ m_spec_Plain a.val = some true ∧ ∀ (j : Nat) (b : Attr), j < i → l[j]? = some b → b.key ≠ a.key) (fun _ y => (y = .inl () → UA l) ∧ ∀ b, y = .inr b → b = false) (fun x => ((l.length : Int) - x.2).toNat) (fun x hx => by
      obtain ⟨k, rfl, hk, hI⟩ := hx
      simp only [m_spec_rightAttrs_0, cond_dec, atI_nat]
      split
      · rename_i h1
        obtain ⟨v, hv⟩ := get_lt (l := l) (k := k) (by omega)
        obtain ⟨f1, f2⟩ := fits_attr hf hv
        obtain ⟨r, hr⟩ := name_ex v.key (by omega)
        obtain ⟨r', hr'⟩ := plain_ex v.val (by omega)
        rw [hv]
        simp only [bind_some]
        rw [hr, bind_some, not_cond]
        cases r
        · exact .inl ⟨_, rfl, (fun h => by cases h), fun b h => by cases h; rfl⟩
        · rw [if_pos rfl, hr', bind_some, not_cond]
          cases r'
          · exact .inl ⟨_, rfl, (fun h => by cases h), fun b h => by cases h; rfl⟩
          · rw [if_pos rfl]
            obtain ⟨z, hz, hq⟩ := loopO_rule (body := m_spec_rightAttrs_0_0) (fun x => ∃ j : Nat, x = (l, (k : Int), (j : Int)) ∧ j ≤ k ∧ ∀ (i : Nat) (b : Attr), i < j → l[i]? = some b → b.key ≠ v.key) (fun _ z => (z = .inl (l, (k : Int)) ∧ ∀ (i : Nat) (b : Attr), i < k → l[i]? = some b → b.key ≠ v.key) ∨ z = .inr false) (fun x => ((k : Int) - x.2.2).toNat) (fun x hx => by
              obtain ⟨j, rfl, hj, hJ⟩ := hx
              simp only [m_spec_rightAttrs_0_0, cond_dec, atI_nat]
              split
              · rename_i h2
                obtain ⟨u, hu⟩ := get_lt (l := l) (k := j) (by omega)
                rw [hu, hv]
                simp only [bind_some]
                split
                · exact .inl ⟨_, rfl, .inr rfl⟩
                · rename_i h3
                  refine .inr ⟨_, rfl, ⟨j + 1, by rw [w64 (by omega) (by omega)]; rfl, by omega, fun i b hi hb => ?_⟩, by simp only; rw [w64 (by omega) (by omega)]; omega, fun _ h => h⟩
                  by_cases e : i = j
                  · subst e; rw [hu] at hb; cases hb; exact h3
                  · exact hJ i b (by omega) hb
              · have : j = k := by omega
                subst this
                exact .inl ⟨_, rfl, .inl ⟨rfl, hJ⟩⟩) (l, (k : Int), (0 : Int)) ⟨0, rfl, Nat.zero_le _, fun i b hi => by omega⟩
            rw [show loopO m_spec_rightAttrs_0_0 (l, (k : Int), (0 : Int)) = some z from hz, bind_some]
            rcases hq with ⟨rfl, hz2⟩ | rfl
            · simp only [selim_l]
              rw [w64 (n := (k : Int) + 1) (by omega) (by omega)]
              refine .inr ⟨_, rfl, ⟨k + 1, rfl, by omega, fun i a hi ha => ?_⟩, by simp only; omega, fun _ h => h⟩
              by_cases e : i = k
              · subst e; rw [hv] at ha; cases ha; exact ⟨hr, hr', fun j b hj hb => hz2 j b hj hb⟩
              · exact hI i a (by omega) ha
            · exact .inl ⟨_, rfl, (fun h => by cases h), fun b h => by cases h; rfl⟩
      · have : k = l.length := by omega
        subst this
        exact .inl ⟨_, rfl, (fun _ => ⟨by omega, fun i a ha => (hI i a (List.getElem?_eq_some_iff.1 ha).1 ha).1, fun i a ha => (hI i a (List.getElem?_eq_some_iff.1 ha).1 ha).2.1, fun i j a b hj ha hb => (hI i a (List.getElem?_eq_some_iff.1 ha).1 ha).2.2 j b hj hb⟩), fun b h => by cases h⟩) (l, (0 : Int)) ⟨0, rfl, Nat.zero_le _, fun i a hi => by omega⟩
    rw [h, bind_some]
    rcases y with u | b
    · exact ⟨_, rfl, fun _ => q1 rfl⟩
    · obtain rfl := q2 b rfl
      exact ⟨_, rfl, fun h => by cases h⟩
theorem kidsF_mem {t : List Node} {lo hi c : Nat} (hL : Lam t lo hi) : ∀ {f k : Nat}, lo ≤ k → c ∈ kidsF t f k hi → k ≤ c ∧ c < hi
  | 0, _, _, h => by cases h
  | f + 1, k, hk, h => by
    simp only [kidsF] at h
    split at h
    · rcases List.mem_cons.1 h with rfl | h
      · exact ⟨Nat.le_refl _, by assumption⟩
      · obtain ⟨u, _, _, h1, h2⟩ := hL.ok k hk (by assumption)
        have := kidsF_mem hL (by omega) h
        omega
    · cases h
theorem kids_mem {t : List Node} {lo hi a c : Nat} (hL : Lam t lo hi) (h1 : lo ≤ a) (h2 : a < hi) (h : c ∈ kidsN t a) : a < c ∧ c < a + sz t a := by
  have hs := hL.sub h1 h2
  have := kidsF_mem (lo := a) hs (by omega) h
  omega
theorem kidsF_len {t : List Node} : ∀ {f k hi : Nat}, (kidsF t f k hi).length ≤ f
  | 0, _, _ => by simp [kidsF]
  | f + 1, k, hi => by
    simp only [kidsF]
    split
    · simp only [List.length_cons]; have := kidsF_len (t := t) (f := f) (k := k + sz t k) (hi := hi); omega
    · simp
theorem rightRoot_ex (t : List Node) (ht : t.length ≤ 1000000) (hL : Lam t 0 t.length) (h0 : 0 < t.length) : ∃ b, m_spec_rightRoot t = some b := by
  simp only [m_spec_rightRoot]
  rw [show m_spec_Kids (t, (0 : Int)) = _ from Kids_eq t ht (a := 0) hL (Nat.le_refl _) h0 (Nat.le_refl _), bind_some]
  have hlen : (kidsN t 0).length ≤ 1000000 := by
    have := kidsF_len (t := t) (f := sz t 0) (k := 0 + 1) (hi := 0 + sz t 0)
    obtain ⟨v, _, _, _, h⟩ := hL.ok 0 (Nat.le_refl _) h0
    unfold kidsN; omega
  obtain ⟨y, h, _⟩ := loopO_rule (body := m_spec_rightRoot_0) (fun x => ∃ (b : Bool) (k : Nat), x = (t, (kidsN t 0).map Int.ofNat, b, (k : Int)) ∧ k ≤ (kidsN t 0).length) (fun _ _ => True) (fun x => (((kidsN t 0).length : Int) - x.2.2.2).toNat) (fun x hx => by
    obtain ⟨b, k, rfl, hk⟩ := hx
    simp only [m_spec_rightRoot_0, cond_dec, atI_nat, Int.toNat_natCast]
    split
    · rename_i h1
      simp only [List.length_map] at h1
      obtain ⟨c, hc⟩ := get_lt (l := kidsN t 0) (k := k) (by omega)
      have hcm := kids_mem hL (Nat.le_refl _) h0 (List.mem_of_getElem? hc)
      obtain ⟨v, hv, _, _, h5⟩ := hL.ok 0 (Nat.le_refl _) h0
      have hcl : c < t.length := by omega
      obtain ⟨u, hu⟩ := get_lt (l := t) (k := c) hcl
      have e1 : ((kidsN t 0).map Int.ofNat)[k]? = some (c : Int) := by rw [List.getElem?_map, hc]; rfl
      have e2 : atI t (c : Int) = some u := by rw [atI_nat, hu]
      rw [e1]
      simp only [bind_some]
      rw [e2]
      simp only [bind_some]
      rw [w64 (n := (k : Int) + 1) (by omega) (by omega)]
      have nxt : ∀ b' : Bool, (∃ y, some (Stp.nx (B := SumT (x_spec_rightRoot_0.map (·.2))) (t, (kidsN t 0).map Int.ofNat, b', (k : Int) + 1)) = some (.nx y) ∧ (∃ (b : Bool) (k : Nat), y = (t, (kidsN t 0).map Int.ofNat, b, (k : Int)) ∧ k ≤ (kidsN t 0).length) ∧ (((kidsN t 0).length : Int) - y.2.2.2).toNat < (((kidsN t 0).length : Int) - (k : Int)).toNat ∧ ∀ b : SumT (x_spec_rightRoot_0.map (·.2)), True → True) := fun b' => ⟨_, rfl, ⟨b', k + 1, rfl, by omega⟩, by simp only; omega, fun _ h => h⟩
      cases b <;> simp only [cond_true, cond_false] <;> repeat' split
      all_goals first | exact .inl ⟨_, rfl, trivial⟩ | exact .inr (nxt _)
    · exact .inl ⟨_, rfl, trivial⟩) (t, (kidsN t 0).map Int.ofNat, false, (0 : Int)) ⟨false, 0, rfl, Nat.zero_le _⟩
  rw [h, bind_some]
  cases y <;> exact some_ex _
structure RN (t : List Node) (i : Nat) (v : Node) : Prop where
  kd : v.kind = 1 ∨ v.kind = 2 ∨ v.kind = 3 ∨ v.kind = 4 ∨ v.kind = 5
  k1 : v.kind = 1 → i = 0
  k2 : v.kind ≠ 3 → v.kind ≠ 1 → sz t i = 1
  k3 : v.kind = 3 → v.text = [] ∧ v.attrs.length ≤ 20 ∧ m_spec_Name v.tag = some true
  k4 : v.kind ≠ 3 → v.tag = [] ∧ v.attrs = []
  k5 : v.kind = 3 → UA v.attrs
  k6 : m_spec_Plain v.text = some true
  k7 : v.kind = 1 → v.text = []
def RNok (t : List Node) (i : Nat) (v : Node) (o : Option Bool) : Prop := ∃ b, o = some b ∧ (b = true → RN t i v)
theorem RNok.no {t : List Node} {i : Nat} {v : Node} : RNok t i v (some false) := ⟨_, rfl, fun h => by cases h⟩
theorem nil_bytes : Array.toList (ByteArray.data { data := #[] }) = [] := rfl
set_option maxHeartbeats 1000000 in
theorem rightNode_ex (t : List Node) (ht : t.length ≤ 1000000) (hf : fits1 t = true) (hL : Lam t 0 t.length) {i : Nat} {v : Node} (hv : t[i]? = some v) : RNok t i v (m_spec_rightNode (t, (i : Int))) := by
  have hi := (List.getElem?_eq_some_iff.1 hv).1
  obtain ⟨f1, f2, f3⟩ := fits_node hf hv
  obtain ⟨p, hp⟩ := plain_ex v.text (by omega)
  obtain ⟨rr, hrr⟩ := rightRoot_ex t ht hL (by omega)
  obtain ⟨nt, hnt⟩ := name_ex v.text (by omega)
  obtain ⟨nn, hnn⟩ := name_ex v.tag (by omega)
  obtain ⟨ra, hra, hra'⟩ := rightAttrs_ex v.attrs f3
  have hpar := Parent_eq t ht hL hi (Nat.le_refl _)
  obtain ⟨u, hu, hs, _, _⟩ := hL.ok i (Nat.zero_le _) hi
  have e : u = v := by rw [hv] at hu; cases hu; rfl
  subst e
  simp only [m_spec_rightNode, cond_dec, atI_nat, hv, bind_some, hp, hrr, hnt, hnn, hra, hpar, nil_bytes]
  have tail : (u.kind ≠ 3 → u.tag = [] ∧ u.attrs = []) → RNok t i u (bif !p then some false else if u.kind = 1 then if (i : Int) = 0 then if u.text = [] then some rr else some false else some false else if u.kind = 2 then if u.size = 1 then bif nt then some (decide (parI t i = 0)) else some false else some false else if u.kind = 4 then some (decide (u.size = 1)) else if u.kind = 5 then some (decide (u.size = 1)) else if u.kind = 3 then if u.text = [] then bif nn then some ra else some false else some false else some false) := fun hk => by
    rw [not_cond]
    refine ite_ok (P := RNok t i u) (fun hpl => ?_) (fun _ => .no)
    have hp6 : m_spec_Plain u.text = some true := by rw [hp, hpl]
    refine ite_ok (P := RNok t i u) (fun h1 => ?_) (fun h1 => ?_)
    · refine ite_ok (P := RNok t i u) (fun h2 => ?_) (fun _ => .no)
      refine ite_ok (P := RNok t i u) (fun h3 => ?_) (fun _ => .no)
      exact ⟨_, rfl, fun _ => ⟨.inl h1, fun _ => by omega, fun _ h => absurd h1 h, fun h => by omega, hk, fun h => by omega, hp6, fun _ => h3⟩⟩
    refine ite_ok (P := RNok t i u) (fun h2 => ?_) (fun h2 => ?_)
    · refine ite_ok (P := RNok t i u) (fun h3 => ?_) (fun _ => .no)
      cases nt
      · exact .no
      · exact ⟨_, rfl, fun _ => ⟨.inr (.inl h2), fun h => absurd h h1, fun _ _ => by omega, fun h => by omega, hk, fun h => by omega, hp6, fun h => absurd h h1⟩⟩
    refine ite_ok (P := RNok t i u) (fun h4 => ?_) (fun h4 => ?_)
    · exact ⟨_, rfl, fun hd => ⟨.inr (.inr (.inr (.inl h4))), fun h => absurd h h1, fun _ _ => by have := of_decide_eq_true hd; omega, fun h => by omega, hk, fun h => by omega, hp6, fun h => absurd h h1⟩⟩
    refine ite_ok (P := RNok t i u) (fun h5 => ?_) (fun h5 => ?_)
    · exact ⟨_, rfl, fun hd => ⟨.inr (.inr (.inr (.inr h5))), fun h => absurd h h1, fun _ _ => by have := of_decide_eq_true hd; omega, fun h => by omega, hk, fun h => by omega, hp6, fun h => absurd h h1⟩⟩
    refine ite_ok (P := RNok t i u) (fun h3 => ?_) (fun h3 => .no)
    refine ite_ok (P := RNok t i u) (fun h6 => ?_) (fun _ => .no)
    cases nn
    · exact .no
    · refine ⟨_, rfl, fun hd => ⟨.inr (.inr (.inl h3)), fun h => absurd h h1, fun h => absurd h3 h, fun _ => ⟨h6, (hra' hd).len, hnn⟩, hk, fun _ => hra' hd, hp6, fun h => absurd h h1⟩⟩
  refine ite_ok (P := RNok t i u) (fun h3 => ?_) (fun h3 => ?_)
  · refine ite_ok (P := RNok t i u) (fun _ => .no) (fun h4 => ?_)
    refine ite_ok (P := RNok t i u) (fun _ => .no) (fun h5 => ?_)
    refine tail fun _ => ⟨by simpa using h4, List.eq_nil_of_length_eq_zero (by omega)⟩
  · exact tail fun h => absurd h h3
structure RT (t : List Node) : Prop where
  pos : 0 < t.length
  len : t.length ≤ 200
  root : sz t 0 = t.length
  lam : Lam t 0 t.length
  k0 : ∃ v, t[0]? = some v ∧ v.kind = 1
  node : ∀ i v, t[i]? = some v → RN t i v
  txt : ∀ (i : Nat) (v : Node), t[i]? = some v → v.text.length ≤ 4000 ∧ ∀ (j : Nat) (a : Attr), v.attrs[j]? = some a → a.val.length ≤ 4000
theorem Right_ex (t : List Node) (hf : fits1 t = true) : ∃ b, m_spec_Right t = some b ∧ (b = true → RT t) := by
  simp only [m_spec_Right, cond_dec, atI_zero]
  by_cases h0 : (t.length : Int) = 0
  · rw [if_pos h0]; exact ⟨_, rfl, fun h => by cases h⟩
  · rw [if_neg h0]
    by_cases h200 : (200 : Int) < t.length
    · rw [if_pos h200]; exact ⟨_, rfl, fun h => by cases h⟩
    · rw [if_neg h200]
      obtain ⟨v, hv⟩ := get_lt (l := t) (k := 0) (by omega)
      rw [hv]
      simp only [bind_some]
      by_cases h1 : v.size ≠ t.length
      · rw [if_pos h1]; exact ⟨_, rfl, fun h => by cases h⟩
      · rw [if_neg h1]
        by_cases h2 : v.kind ≠ 1
        · rw [if_pos h2]; exact ⟨_, rfl, fun h => by cases h⟩
        · rw [if_neg h2]
          obtain ⟨b, hb, hb'⟩ := sized_ok t (by omega) 40 big 0 t.length (by unfold big; omega) (by omega) (by omega) (Nat.le_refl _)
          rw [show m_spec_sized big (t, (0 : Int), (t.length : Int), (40 : Int)) = some b from hb, bind_some, not_cond]
          cases b
          · exact ⟨_, rfl, fun h => by cases h⟩
          · rw [if_pos rfl]
            obtain ⟨v', g1, g2, g3, g4, g5⟩ := hb' rfl
            rw [hv] at g1
            cases g1
            have hsz : sz t 0 = t.length := by omega
            rw [hsz, Nat.zero_add] at g5
            obtain ⟨y, hy, q1, q2⟩ := loopO_rule (body := m_spec_Right_0) (fun x => ∃ (b : Int) (k : Nat), x = (t, b, (k : Int)) ∧ k ≤ t.length ∧ 0 ≤ b ∧ b ≤ 4000 ∧ ∀ j u, j < k → t[j]? = some u → RN t j u ∧ u.text.length ≤ 4000 ∧ ∀ (j : Nat) (a : Attr), u.attrs[j]? = some a → a.val.length ≤ 4000) (fun _ y => (y = .inl () → ∀ j u, t[j]? = some u → RN t j u ∧ u.text.length ≤ 4000 ∧ ∀ (j : Nat) (a : Attr), u.attrs[j]? = some a → a.val.length ≤ 4000) ∧ ∀ b, y = .inr b → b = false) (fun x => ((t.length : Int) - x.2.2).toNat) (fun x hx => by
              obtain ⟨by_, k, rfl, hk, hb1, hb2, hrn⟩ := hx
              simp only [m_spec_Right_0, cond_dec, atI_nat]
              split
              · rename_i h3
                obtain ⟨u, hu⟩ := get_lt (l := t) (k := k) (by omega)
                rw [hu, bind_some]
                have hb0 : ∃ b0 : Int, IntKind.wrap .i64 (by_ + if (4001 : Int) < (u.text.length : Int) then (4001 : Int) else (u.text.length : Int)) = b0 ∧ 0 ≤ b0 ∧ b0 ≤ 8001 ∧ (b0 ≤ 4000 → u.text.length ≤ 4000) := by
                  split
                  · exact ⟨_, rfl, by rw [w64 (by omega) (by omega)]; omega, by rw [w64 (by omega) (by omega)]; omega, by rw [w64 (by omega) (by omega)]; omega⟩
                  · exact ⟨_, rfl, by rw [w64 (by omega) (by omega)]; omega, by rw [w64 (by omega) (by omega)]; omega, by rw [w64 (by omega) (by omega)]; omega⟩
                obtain ⟨b0, hb0, c1, c2, c3⟩ := hb0
                rw [hb0]
                obtain ⟨_, _, f3⟩ := fits_node hf hu
                have hal : u.attrs.length ≤ 2147483647 := by simp only [fits3, Bool.and_eq_true, decide_eq_true_eq] at f3; exact f3.1
                obtain ⟨z, hz, ⟨b1, hz1, d1, d2, d3⟩⟩ := loopO_rule (body := m_spec_Right_0_0) (fun x => ∃ (b : Int) (j : Nat), x = (t, b, (k : Int), (j : Int)) ∧ j ≤ u.attrs.length ∧ 0 ≤ b ∧ b ≤ 8001 ∧ (b ≤ 4000 → u.text.length ≤ 4000 ∧ ∀ (i : Nat) (a : Attr), i < j → u.attrs[i]? = some a → a.val.length ≤ 4000)) (fun _ y => ∃ b : Int, y = (t, b, (k : Int)) ∧ 0 ≤ b ∧ b ≤ 8001 ∧ (b ≤ 4000 → u.text.length ≤ 4000 ∧ ∀ (i : Nat) (a : Attr), u.attrs[i]? = some a → a.val.length ≤ 4000)) (fun x => ((u.attrs.length : Int) - x.2.2.2).toNat) (fun x hx => by
                  obtain ⟨b2, j, rfl, hj, e1, e2, e3⟩ := hx
                  simp only [m_spec_Right_0_0, cond_dec, atI_nat, hu, bind_some]
                  split
                  · split
                    · rename_i h5 h6
                      obtain ⟨a, ha⟩ := get_lt (l := u.attrs) (k := j) (by omega)
                      rw [ha, bind_some, w64 (n := (j : Int) + 1) (by omega) (by omega)]
                      have nx : ∀ m : Int, 0 ≤ m → m ≤ 4001 → (m ≤ 4000 → a.val.length ≤ 4000) → (b2 + m ≤ 4000 → u.text.length ≤ 4000 ∧ ∀ (i : Nat) (a : Attr), i < j + 1 → u.attrs[i]? = some a → a.val.length ≤ 4000) := fun m m1 m2 m3 hm => by
                        obtain ⟨g1, g2⟩ := e3 (by omega)
                        refine ⟨g1, fun i a' hi ha' => ?_⟩
                        by_cases e : i = j
                        · subst e; rw [ha] at ha'; cases ha'; exact m3 (by omega)
                        · exact g2 i a' (by omega) ha'
                      split
                      · rw [w64 (by omega) (by omega)]
                        exact .inr ⟨_, rfl, ⟨_, j + 1, rfl, by omega, by omega, by omega, nx 4001 (by omega) (by omega) (by omega)⟩, by simp only; omega, fun _ h => h⟩
                      · rw [w64 (by omega) (by omega)]
                        exact .inr ⟨_, rfl, ⟨_, j + 1, rfl, by omega, by omega, by omega, nx _ (by omega) (by omega) (by omega)⟩, by simp only; omega, fun _ h => h⟩
                    · exact .inl ⟨_, rfl, _, rfl, e1, e2, fun h => by omega⟩
                  · have : j = u.attrs.length := by omega
                    subst this
                    exact .inl ⟨_, rfl, _, rfl, e1, e2, fun h => ⟨(e3 h).1, fun i a ha => (e3 h).2 i a (List.getElem?_eq_some_iff.1 ha).1 ha⟩⟩) (t, b0, (k : Int), (0 : Int)) ⟨b0, 0, rfl, Nat.zero_le _, c1, c2, fun h => ⟨c3 h, fun i a hi => by omega⟩⟩
                rw [hz, bind_some, hz1]
                simp only
                split
                · exact .inl ⟨_, rfl, (fun h => by cases h), fun b h => by cases h; rfl⟩
                · rename_i h4
                  obtain ⟨r, hr, hr'⟩ := rightNode_ex t (by omega) hf g5 hu
                  rw [hr, bind_some, not_cond, w64 (n := (k : Int) + 1) (by omega) (by omega)]
                  cases r
                  · exact .inl ⟨_, rfl, (fun h => by cases h), fun b h => by cases h; rfl⟩
                  · refine .inr ⟨_, rfl, ⟨b1, k + 1, rfl, by omega, by omega, by omega, fun j u' hj hu' => ?_⟩, by simp only; omega, fun _ h => h⟩
                    by_cases e : j = k
                    · subst e; rw [hu] at hu'; cases hu'; exact ⟨hr' rfl, d3 (by omega)⟩
                    · exact hrn j u' (by omega) hu'
              · rename_i h3
                refine .inl ⟨_, rfl, (fun _ j u hu => hrn j u ?_ hu), fun b h => by cases h⟩
                have := (List.getElem?_eq_some_iff.1 hu).1
                omega) (t, (0 : Int), (0 : Int)) ⟨0, 0, rfl, Nat.zero_le _, by omega, by omega, fun j u hj => by omega⟩
            rw [hy, bind_some]
            rcases y with w | b
            · exact ⟨_, rfl, fun _ => ⟨by omega, by omega, hsz, g5, ⟨v, hv, by omega⟩, fun j u hu => (q1 rfl j u hu).1, fun j u hu => (q1 rfl j u hu).2⟩⟩
            · obtain rfl := q2 b rfl
              exact ⟨_, rfl, fun h => by cases h⟩
end Go.Proofs.YtfjhibplplcjjaaGreat.V
set_option linter.unusedVariables false
set_option linter.unusedSimpArgs false
namespace Go.Proofs.YtfjhibplplcjjaaGreat.V
open Go
def kindN (t : List Node) (i : Nat) : Int := match t[i]? with
  | some v => v.kind
  | none => 0
theorem kind_some {t : List Node} {i : Nat} {v : Node} (h : t[i]? = some v) : kindN t i = v.kind := by simp [kindN, h]
def elems (t : List Node) (a : Nat) : List Nat := (kidsN t a).filter fun c => kindN t c == 3
end Go.Proofs.YtfjhibplplcjjaaGreat.V
set_option linter.unusedVariables false
set_option linter.unusedSimpArgs false
namespace Go.Proofs.YtfjhibplplcjjaaGreat.V
open Go Go.Proofs
abbrev p_impl_fits : Pt := [(0, .lst .node), (1, .int .i64), (2, .int .i64)]
abbrev q_impl_fits : Pt := [(0, .bool)]
abbrev p_impl_fits_0 : Pt := [(0, .lst .node), (1, .int .i64), (2, .int .i64)]
abbrev x_impl_fits_0 : List (Xt × Pt) := [(.ex 0, []), (.rt, [(6, .bool)])]
noncomputable def m_impl_fits_0 (m_impl_fits : Tup p_impl_fits → Option (Tup q_impl_fits)) : Tup p_impl_fits_0 → Option (Stp (Tup p_impl_fits_0) (SumT (x_impl_fits_0.map (·.2)))) := fun (x : List Node × Int × Int) => bif decide (x.2.1 < x.2.2) then Option.bind (atI x.1 x.2.1) fun (v : Node) => bif decide (Node.size v < (1 : Int)) then some (Stp.out (Sum.inr false)) else bif decide (IntKind.wrap .i64 (x.2.2 - x.2.1) < Node.size v) then some (Stp.out (Sum.inr false)) else bif decide (Node.kind v ≤ (1 : Int)) then some (Stp.out (Sum.inr false)) else bif decide ((5 : Int) < Node.kind v) then some (Stp.out (Sum.inr false)) else bif decide (Node.kind v ≠ (3 : Int)) then bif decide ((1 : Int) < Node.size v) then some (Stp.out (Sum.inr false)) else Option.bind (m_impl_fits (x.1, IntKind.wrap .i64 (x.2.1 + (1 : Int)), IntKind.wrap .i64 (x.2.1 + Node.size v))) fun (r : Bool) => bif !r then some (Stp.out (Sum.inr false)) else some (Stp.nx (x.1, IntKind.wrap .i64 (x.2.1 + Node.size v), x.2.2)) else Option.bind (m_impl_fits (x.1, IntKind.wrap .i64 (x.2.1 + (1 : Int)), IntKind.wrap .i64 (x.2.1 + Node.size v))) fun (r : Bool) => bif !r then some (Stp.out (Sum.inr false)) else some (Stp.nx (x.1, IntKind.wrap .i64 (x.2.1 + Node.size v), x.2.2)) else some (Stp.out (Sum.inl ()))
noncomputable def b_impl_fits (m_impl_fits : Tup p_impl_fits → Option (Tup q_impl_fits)) : Tup p_impl_fits → Option (Tup q_impl_fits) := fun (x : List Node × Int × Int) => Option.bind (loopO (m_impl_fits_0 m_impl_fits) (x.1, x.2.1, x.2.2)) fun (y : PUnit ⊕ Bool) => selim (fun (y : PUnit) => some true) (fun (y : Bool) => some y) y
noncomputable def m_impl_fits : Nat → Tup p_impl_fits → Option (Tup q_impl_fits)
  | 0 => fun _ => none
  | n + 1 => b_impl_fits (m_impl_fits n)
noncomputable def cx_impl_fits (n : Nat) : Cx := ⟨tb, lookE [(91, ⟨0, p_impl_fits, q_impl_fits, m_impl_fits n⟩)], lookS []⟩
theorem ck_impl_fits (n : Nat) (ih0 : FnOK Tryz.prog 91 ⟨0, p_impl_fits, q_impl_fits, m_impl_fits n⟩) : CxOK Tryz.prog (cx_impl_fits n) := cx_ok tb_ok (.cons ih0 Tryz.call91 .nil)
noncomputable def c_impl_fits_0 : Code := loopAt (Go.Proofs.Tryz.f91.body.getD .skip) 0
noncomputable def l_impl_fits_0 (n : Nat) : LEnt := ⟨p_impl_fits_0, x_impl_fits_0, loopO (m_impl_fits_0 (m_impl_fits n))⟩
theorem lo_impl_fits_0 (n : Nat) (ih0 : FnOK Tryz.prog 91 ⟨0, p_impl_fits, q_impl_fits, m_impl_fits n⟩) : LOK Tryz.prog 61 0 false (l_impl_fits_0 n) c_impl_fits_0 := loop_ok (body := m_impl_fits_0 (m_impl_fits n)) (L := lookL []) (ck_impl_fits n ih0) mixed (ls_ok (l := []) (by kernel_rfl) .nil) (by intro x; kernel_rfl) (fun x y h => loopO_iff.1 h)
theorem st_impl_fits (n : Nat) (ih0 : FnOK Tryz.prog 91 ⟨0, p_impl_fits, q_impl_fits, m_impl_fits n⟩) : FnOK Tryz.prog 91 ⟨0, p_impl_fits, q_impl_fits, m_impl_fits (n + 1)⟩ := fn_ok (ent := ⟨0, p_impl_fits, q_impl_fits, m_impl_fits (n + 1)⟩) (L := lookL [(0, l_impl_fits_0 n)]) (ck_impl_fits n ih0) mixed Tryz.func91 rfl (by kernel_rfl) (by kernel_rfl) (ls_ok (l := [(0, c_impl_fits_0)]) (by kernel_rfl) (.cons rfl (lo_impl_fits_0 n ih0) .nil)) (by intro x; kernel_rfl)
theorem ok0_impl_fits : ∀ n, FnOK Tryz.prog 91 ⟨0, p_impl_fits, q_impl_fits, m_impl_fits n⟩
  | 0 => fun x r h => by cases h
  | n + 1 => (fun ih => st_impl_fits n ih) (ok0_impl_fits n)
noncomputable def e_impl_fits : Ent := ⟨0, p_impl_fits, q_impl_fits, m_impl_fits big⟩
theorem ok_impl_fits : FnOK Tryz.prog 91 e_impl_fits := (ok0_impl_fits big)
abbrev p_impl_right : Pt := [(0, .lst .node)]
abbrev q_impl_right : Pt := [(0, .bool)]
noncomputable def m_impl_right : Tup p_impl_right → Option (Tup q_impl_right) := fun (x : List Node) => bif decide ((↑(List.length x) : Int) = (0 : Int)) then some false else Option.bind (atI x (0 : Int)) fun (v : Node) => bif decide (Node.size v ≠ (↑(List.length x) : Int)) then some false else Option.bind (atI x (0 : Int)) fun (v : Node) => bif decide (Node.kind v = (1 : Int)) then Option.bind (m_impl_fits big (x, (1 : Int), (↑(List.length x) : Int))) fun (r : Bool) => some r else Option.bind (m_impl_fits big (x, (0 : Int), (↑(List.length x) : Int))) fun (r : Bool) => some r
noncomputable def cx_impl_right : Cx := ⟨tb, lookE [(91, e_impl_fits)], lookS []⟩
theorem ck_impl_right : CxOK Tryz.prog (cx_impl_right) := cx_ok tb_ok (.cons ok_impl_fits Tryz.call91 .nil)
noncomputable def e_impl_right : Ent := ⟨0, p_impl_right, q_impl_right, m_impl_right⟩
theorem ok_impl_right : FnOK Tryz.prog 68 e_impl_right := fn_ok (L := lookL []) ck_impl_right mixed Tryz.func68 rfl (by kernel_rfl) (by kernel_rfl) (ls_ok (l := []) (by kernel_rfl) .nil) (by intro x; kernel_rfl)
abbrev p_impl_alone : Pt := [(0, .el .node), (NT, .ns .h 94 114)]
abbrev q_impl_alone : Pt := [(0, .np), (NT, .ns .h 94 114)]
abbrev p_impl_alone_0 : Pt := [(3, .np), (35, .lst .attr), (36, .int .i64), (37, .int .i64), (NT, .ns .h 94 114)]
abbrev x_impl_alone_0 : List (Xt × Pt) := [(.ex 1, [(3, .np), (NT, .ns .h 94 114)])]
noncomputable def m_impl_alone_0 : Tup p_impl_alone_0 → Option (Stp (Tup p_impl_alone_0) (SumT (x_impl_alone_0.map (·.2)))) := fun (x : Option Nat × List Attr × Int × Int × List HN) => bif decide (x.2.2.2.1 < x.2.2.1) then Option.bind (atI x.2.1 x.2.2.2.1) fun (v : Attr) => Option.bind x.1 fun (i : Nat) => Option.bind (some i) fun (i : Nat) => Option.bind x.2.2.2.2[i]? fun (h : HN) => Option.bind x.2.2.2.2[i]? fun (h : HN) => Option.bind (appL (HN.attrs h) [{ ns := [], key := Attr.key v, val := Attr.val v }]) fun (r : List HAttr) => Option.bind x.1 fun (i_1 : Nat) => Option.bind (some i_1) fun (i_2 : Nat) => Option.bind x.2.2.2.2[i_2]? fun (h : HN) => bif decide (i = i_2) then some (Stp.nx (x.1, x.2.1, x.2.2.1, IntKind.wrap .i64 (x.2.2.2.1 + (1 : Int)), List.set x.2.2.2.2 i_2 (HN.wa h r))) else none else some (Stp.out (x.1, x.2.2.2.2))
noncomputable def m_impl_alone : Tup p_impl_alone → Option (Tup q_impl_alone) := fun (x : Node × List HN) => bif decide (Node.kind x.1 = (1 : Int)) then some (some (List.length x.2), x.2 ++ [{ par := none, fst := none, lst := none, prv := none, nxt := none, ty := (2 : Int), atom := (0 : Int), data := [], ns := [], attrs := [] }]) else bif decide (Node.kind x.1 = (2 : Int)) then some (some (List.length x.2), x.2 ++ [{ par := none, fst := none, lst := none, prv := none, nxt := none, ty := (5 : Int), atom := (0 : Int), data := Node.text x.1, ns := [], attrs := [] }]) else bif decide (Node.kind x.1 = (4 : Int)) then some (some (List.length x.2), x.2 ++ [{ par := none, fst := none, lst := none, prv := none, nxt := none, ty := (1 : Int), atom := (0 : Int), data := Node.text x.1, ns := [], attrs := [] }]) else bif decide (Node.kind x.1 = (5 : Int)) then some (some (List.length x.2), x.2 ++ [{ par := none, fst := none, lst := none, prv := none, nxt := none, ty := (4 : Int), atom := (0 : Int), data := Node.text x.1, ns := [], attrs := [] }]) else Option.bind (loopO m_impl_alone_0 (some (List.length x.2), Node.attrs x.1, (↑(List.length (Node.attrs x.1)) : Int), (0 : Int), x.2 ++ [{ par := none, fst := none, lst := none, prv := none, nxt := none, ty := (3 : Int), atom := (0 : Int), data := Node.tag x.1, ns := [], attrs := [] }])) fun (y : Option Nat × List HN) => some (y.1, y.2)
noncomputable def cx_impl_alone : Cx := ⟨tb, lookE [], lookS [(14, [(true, 0), (true, 1), (true, 2), (true, 3), (true, 4), (true, 5), (true, 6), (true, 7), (true, 8), (true, 9), (false, 10), (false, 11), (true, 12), (true, 13), (false, 14)])]⟩
theorem ck_impl_alone : CxOK Tryz.prog (cx_impl_alone) := cx_ok tb_ok .nil
noncomputable def c_impl_alone_0 : Code := loopAt (Go.Proofs.Tryz.f92.body.getD .skip) 0
noncomputable def l_impl_alone_0 : LEnt := ⟨p_impl_alone_0, x_impl_alone_0, loopO (m_impl_alone_0)⟩
theorem lo_impl_alone_0 : LOK Tryz.prog 57 0 true (l_impl_alone_0) c_impl_alone_0 := loop_ok (body := m_impl_alone_0) (L := lookL []) (ck_impl_alone) mixed (ls_ok (l := []) (by kernel_rfl) .nil) (by intro x; kernel_rfl) (fun x y h => loopO_iff.1 h)
noncomputable def e_impl_alone : Ent := ⟨0, p_impl_alone, q_impl_alone, m_impl_alone⟩
theorem ok_impl_alone : FnOK Tryz.prog 92 e_impl_alone := fn_ok (L := lookL [(1, l_impl_alone_0)]) ck_impl_alone mixed Tryz.func92 rfl (by kernel_rfl) (by kernel_rfl) (ls_ok (l := [(1, c_impl_alone_0)]) (by kernel_rfl) (.cons rfl (lo_impl_alone_0) .nil)) (by intro x; kernel_rfl)
abbrev p_html_Node_AppendChild : Pt := [(0, .np), (1, .np), (NT, .ns .h 94 114)]
abbrev q_html_Node_AppendChild : Pt := [(NT, .ns .h 94 114)]
noncomputable def m_html_Node_AppendChild : Tup p_html_Node_AppendChild → Option (Tup q_html_Node_AppendChild) := fun (x : Option Nat × Option Nat × List HN) => Option.bind x.2.1 fun (i : Nat) => Option.bind (some i) fun (i : Nat) => Option.bind x.2.2[i]? fun (h : HN) => bif !Option.isNone (HN.par h) then none else Option.bind x.2.1 fun (i : Nat) => Option.bind (some i) fun (i : Nat) => Option.bind x.2.2[i]? fun (h : HN) => bif !Option.isNone (HN.prv h) then none else Option.bind x.2.1 fun (i : Nat) => Option.bind (some i) fun (i : Nat) => Option.bind x.2.2[i]? fun (h : HN) => bif !Option.isNone (HN.nxt h) then none else Option.bind x.1 fun (i : Nat) => Option.bind (some i) fun (i : Nat) => Option.bind x.2.2[i]? fun (h : HN) => bif !Option.isNone (HN.lst h) then Option.bind (HN.lst h) fun (i : Nat) => Option.bind (some i) fun (i : Nat) => Option.bind x.2.2[i]? fun (h_1 : HN) => Option.bind x.1 fun (i_1 : Nat) => Option.bind (some i_1) fun (i_2 : Nat) => Option.bind (List.set x.2.2 i { h_1 with nxt := x.2.1 })[i_2]? fun (h_2 : HN) => Option.bind x.2.1 fun (i_3 : Nat) => Option.bind (some i_3) fun (i_4 : Nat) => Option.bind (List.set (List.set x.2.2 i { h_1 with nxt := x.2.1 }) i_2 { h_2 with lst := x.2.1 })[i_4]? fun (h_3 : HN) => Option.bind x.2.1 fun (i_5 : Nat) => Option.bind (some i_5) fun (i_6 : Nat) => Option.bind (List.set (List.set (List.set x.2.2 i { h_1 with nxt := x.2.1 }) i_2 { h_2 with lst := x.2.1 }) i_4 { h_3 with par := x.1 })[i_6]? fun (h_4 : HN) => some (List.set (List.set (List.set (List.set x.2.2 i { h_1 with nxt := x.2.1 }) i_2 { h_2 with lst := x.2.1 }) i_4 { h_3 with par := x.1 }) i_6 { h_4 with prv := HN.lst h }) else Option.bind x.1 fun (i : Nat) => Option.bind (some i) fun (i : Nat) => Option.bind x.2.2[i]? fun (h_1 : HN) => Option.bind x.1 fun (i_1 : Nat) => Option.bind (some i_1) fun (i_2 : Nat) => Option.bind (List.set x.2.2 i { h_1 with fst := x.2.1 })[i_2]? fun (h_2 : HN) => Option.bind x.2.1 fun (i_3 : Nat) => Option.bind (some i_3) fun (i_4 : Nat) => Option.bind (List.set (List.set x.2.2 i { h_1 with fst := x.2.1 }) i_2 { h_2 with lst := x.2.1 })[i_4]? fun (h_3 : HN) => Option.bind x.2.1 fun (i_5 : Nat) => Option.bind (some i_5) fun (i_6 : Nat) => Option.bind (List.set (List.set (List.set x.2.2 i { h_1 with fst := x.2.1 }) i_2 { h_2 with lst := x.2.1 }) i_4 { h_3 with par := x.1 })[i_6]? fun (h_4 : HN) => some (List.set (List.set (List.set (List.set x.2.2 i { h_1 with fst := x.2.1 }) i_2 { h_2 with lst := x.2.1 }) i_4 { h_3 with par := x.1 }) i_6 { h_4 with prv := HN.lst h })
noncomputable def cx_html_Node_AppendChild : Cx := ⟨tb, lookE [], lookS []⟩
theorem ck_html_Node_AppendChild : CxOK Tryz.prog (cx_html_Node_AppendChild) := cx_ok tb_ok .nil
noncomputable def e_html_Node_AppendChild : Ent := ⟨0, p_html_Node_AppendChild, q_html_Node_AppendChild, m_html_Node_AppendChild⟩
theorem ok_html_Node_AppendChild : FnOK Tryz.prog 93 e_html_Node_AppendChild := fn_ok (L := lookL []) ck_html_Node_AppendChild mixed Tryz.func93 rfl (by kernel_rfl) (by kernel_rfl) (ls_ok (l := []) (by kernel_rfl) .nil) (by intro x; kernel_rfl)
abbrev p_impl_grow : Pt := [(0, .lst .node), (1, .int .i64), (2, .own .np 70), (NT, .ns .h 94 114)]
abbrev q_impl_grow : Pt := [(1002, .own .np 70), (NT, .ns .h 94 114)]
abbrev p_impl_grow_0 : Pt := [(0, .lst .node), (1, .int .i64), (2, .own .np 70), (6, .int .i64), (NT, .ns .h 94 114)]
abbrev x_impl_grow_0 : List (Xt × Pt) := [(.ex 0, [(2, .own .np 70), (NT, .ns .h 94 114)])]
noncomputable def m_impl_grow_0 (m_impl_grow : Tup p_impl_grow → Option (Tup q_impl_grow)) : Tup p_impl_grow_0 → Option (Stp (Tup p_impl_grow_0) (SumT (x_impl_grow_0.map (·.2)))) := fun (x : List Node × Int × List (Option Nat) × Int × List HN) => Option.bind (atI x.1 x.2.1) fun (v : Node) => bif decide (x.2.2.2.1 < IntKind.wrap .i64 (x.2.1 + Node.size v)) then Option.bind (m_impl_grow (x.1, x.2.2.2.1, x.2.2.1, x.2.2.2.2)) fun (r : List (Option Nat) × List HN) => Option.bind (atI r.1 x.2.1) fun (x_1 : Option Nat) => Option.bind r.1[Int.toNat x.2.1]? fun (v : Option Nat) => Option.bind (atI r.1 x.2.2.2.1) fun (x_2 : Option Nat) => Option.bind r.1[Int.toNat x.2.2.2.1]? fun (v_1 : Option Nat) => Option.bind (m_html_Node_AppendChild (v, v_1, r.2)) fun (r_1 : List HN) => Option.bind (atI x.1 x.2.2.2.1) fun (v : Node) => some (Stp.nx (x.1, x.2.1, r.1, IntKind.wrap .i64 (x.2.2.2.1 + Node.size v), r_1)) else some (Stp.out (x.2.2.1, x.2.2.2.2))
noncomputable def b_impl_grow (m_impl_grow : Tup p_impl_grow → Option (Tup q_impl_grow)) : Tup p_impl_grow → Option (Tup q_impl_grow) := fun (x : List Node × Int × List (Option Nat) × List HN) => Option.bind (atI x.1 x.2.1) fun (v : Node) => Option.bind (m_impl_alone ({ kind := Node.kind v, tag := Node.tag v, text := Node.text v, attrs := Node.attrs v, size := Node.size v }, x.2.2.2)) fun (r : Option Nat × List HN) => Option.bind (atI x.2.2.1 x.2.1) fun (x_1 : Option Nat) => Option.bind x.2.2.1[Int.toNat x.2.1]? fun (v : Option Nat) => Option.bind (loopO (m_impl_grow_0 m_impl_grow) (x.1, x.2.1, List.set x.2.2.1 (Int.toNat x.2.1) r.1, IntKind.wrap .i64 (x.2.1 + (1 : Int)), r.2)) fun (y : List (Option Nat) × List HN) => some (y.1, y.2)
noncomputable def m_impl_grow : Nat → Tup p_impl_grow → Option (Tup q_impl_grow)
  | 0 => fun _ => none
  | n + 1 => b_impl_grow (m_impl_grow n)
noncomputable def cx_impl_grow (n : Nat) : Cx := ⟨tb, lookE [(92, e_impl_alone), (69, ⟨2003, p_impl_grow, q_impl_grow, m_impl_grow n⟩), (93, e_html_Node_AppendChild)], lookS [(5, [(true, 0), (true, 1), (true, 2), (true, 3), (true, 4), (true, 5), (true, 6), (true, 7), (false, 8)])]⟩
theorem ck_impl_grow (n : Nat) (ih0 : FnOK Tryz.prog 69 ⟨2003, p_impl_grow, q_impl_grow, m_impl_grow n⟩) : CxOK Tryz.prog (cx_impl_grow n) := cx_ok tb_ok (.cons ok_impl_alone Tryz.call92 (.cons ih0 Tryz.call69 (.cons ok_html_Node_AppendChild Tryz.call93 .nil)))
noncomputable def c_impl_grow_0 : Code := loopAt (Go.Proofs.Tryz.f69.body.getD .skip) 0
noncomputable def l_impl_grow_0 (n : Nat) : LEnt := ⟨p_impl_grow_0, x_impl_grow_0, loopO (m_impl_grow_0 (m_impl_grow n))⟩
theorem lo_impl_grow_0 (n : Nat) (ih0 : FnOK Tryz.prog 69 ⟨2003, p_impl_grow, q_impl_grow, m_impl_grow n⟩) : LOK Tryz.prog 46 2003 true (l_impl_grow_0 n) c_impl_grow_0 := loop_ok (body := m_impl_grow_0 (m_impl_grow n)) (L := lookL []) (ck_impl_grow n ih0) mixed (ls_ok (l := []) (by kernel_rfl) .nil) (by intro x; kernel_rfl) (fun x y h => loopO_iff.1 h)
theorem st_impl_grow (n : Nat) (ih0 : FnOK Tryz.prog 69 ⟨2003, p_impl_grow, q_impl_grow, m_impl_grow n⟩) : FnOK Tryz.prog 69 ⟨2003, p_impl_grow, q_impl_grow, m_impl_grow (n + 1)⟩ := fn_ok (ent := ⟨2003, p_impl_grow, q_impl_grow, m_impl_grow (n + 1)⟩) (L := lookL [(0, l_impl_grow_0 n)]) (ck_impl_grow n ih0) mixed Tryz.func69 rfl (by kernel_rfl) (by kernel_rfl) (ls_ok (l := [(0, c_impl_grow_0)]) (by kernel_rfl) (.cons rfl (lo_impl_grow_0 n ih0) .nil)) (by intro x; kernel_rfl)
theorem ok0_impl_grow : ∀ n, FnOK Tryz.prog 69 ⟨2003, p_impl_grow, q_impl_grow, m_impl_grow n⟩
  | 0 => fun x r h => by cases h
  | n + 1 => (fun ih => st_impl_grow n ih) (ok0_impl_grow n)
noncomputable def e_impl_grow : Ent := ⟨2003, p_impl_grow, q_impl_grow, m_impl_grow big⟩
theorem ok_impl_grow : FnOK Tryz.prog 69 e_impl_grow := (ok0_impl_grow big)
abbrev p_impl_grown : Pt := [(0, .lst .node), (NT, .ns .h 94 114)]
abbrev q_impl_grown : Pt := [(0, .own .np 70), (1, .bool), (NT, .ns .h 94 114)]
noncomputable def m_impl_grown : Tup p_impl_grown → Option (Tup q_impl_grown) := fun (x : List Node × List HN) => Option.bind (m_impl_right x.1) fun (r : Bool) => bif !r then some ([], false, x.2) else bif decide ((↑(List.length x.1) : Int) ≤ (↑(List.length x.1) : Int) ∧ (0 : Int) ≤ (↑(List.length x.1) : Int) ∧ (↑(List.length x.1) : Int) ≤ (1048576 : Int)) then Option.bind (m_impl_grow big (x.1, (0 : Int), List.replicate (Int.toNat (↑(List.length x.1) : Int)) none, x.2)) fun (r : List (Option Nat) × List HN) => some (r.1, true, r.2) else none
noncomputable def cx_impl_grown : Cx := ⟨tb, lookE [(68, e_impl_right), (69, e_impl_grow)], lookS []⟩
theorem ck_impl_grown : CxOK Tryz.prog (cx_impl_grown) := cx_ok tb_ok (.cons ok_impl_right Tryz.call68 (.cons ok_impl_grow Tryz.call69 .nil))
noncomputable def e_impl_grown : Ent := ⟨0, p_impl_grown, q_impl_grown, m_impl_grown⟩
theorem ok_impl_grown : FnOK Tryz.prog 40 e_impl_grown := fn_ok (L := lookL []) ck_impl_grown mixed Tryz.func40 rfl (by kernel_rfl) (by kernel_rfl) (ls_ok (l := []) (by kernel_rfl) .nil) (by intro x; kernel_rfl)
abbrev p_impl_these : Pt := [(0, .lst .np), (1, .lst .int)]
abbrev q_impl_these : Pt := [(0, .own .np 70), (1, .bool)]
abbrev p_impl_these_0 : Pt := [(0, .lst .np), (6, .own .np 70), (9, .lst .int), (10, .int .i64), (11, .int .i64)]
abbrev x_impl_these_0 : List (Xt × Pt) := [(.ex 0, [(6, .own .np 70)]), (.rt, [(4, .own .np 70), (5, .bool)])]
noncomputable def m_impl_these_0 : Tup p_impl_these_0 → Option (Stp (Tup p_impl_these_0) (SumT (x_impl_these_0.map (·.2)))) := fun (x : List (Option Nat) × List (Option Nat) × List Int × Int × Int) => bif decide (x.2.2.2.2 < x.2.2.2.1) then Option.bind (atI x.2.2.1 x.2.2.2.2) fun (v : Int) => bif decide (v < (0 : Int)) then some (Stp.out (Sum.inr ([], false))) else bif decide ((↑(List.length x.1) : Int) ≤ v) then some (Stp.out (Sum.inr ([], false))) else Option.bind (atI x.1 v) fun (v : Option Nat) => Option.bind (appL x.2.1 [v]) fun (r : List (Option Nat)) => some (Stp.nx (x.1, r, x.2.2.1, x.2.2.2.1, IntKind.wrap .i64 (x.2.2.2.2 + (1 : Int)))) else some (Stp.out (Sum.inl x.2.1))
noncomputable def m_impl_these : Tup p_impl_these → Option (Tup q_impl_these) := fun (x : List (Option Nat) × List Int) => Option.bind (loopO m_impl_these_0 (x.1, [], x.2, (↑(List.length x.2) : Int), (0 : Int))) fun (y : List (Option Nat) ⊕ List (Option Nat) × Bool) => selim (fun (y : List (Option Nat)) => some (y, true)) (fun (y : List (Option Nat) × Bool) => some (y.1, y.2)) y
noncomputable def cx_impl_these : Cx := ⟨tb, lookE [], lookS []⟩
theorem ck_impl_these : CxOK Tryz.prog (cx_impl_these) := cx_ok tb_ok .nil
noncomputable def c_impl_these_0 : Code := loopAt (Go.Proofs.Tryz.f31.body.getD .skip) 0
noncomputable def l_impl_these_0 : LEnt := ⟨p_impl_these_0, x_impl_these_0, loopO (m_impl_these_0)⟩
theorem lo_impl_these_0 : LOK Tryz.prog 32 0 false (l_impl_these_0) c_impl_these_0 := loop_ok (body := m_impl_these_0) (L := lookL []) (ck_impl_these) mixed (ls_ok (l := []) (by kernel_rfl) .nil) (by intro x; kernel_rfl) (fun x y h => loopO_iff.1 h)
noncomputable def e_impl_these : Ent := ⟨0, p_impl_these, q_impl_these, m_impl_these⟩
theorem ok_impl_these : FnOK Tryz.prog 31 e_impl_these := fn_ok (L := lookL [(0, l_impl_these_0)]) ck_impl_these mixed Tryz.func31 rfl (by kernel_rfl) (by kernel_rfl) (ls_ok (l := [(0, c_impl_these_0)]) (by kernel_rfl) (.cons rfl (lo_impl_these_0) .nil)) (by intro x; kernel_rfl)
abbrev p_impl_placeOf : Pt := [(0, .lst .np), (1, .np)]
abbrev q_impl_placeOf : Pt := [(0, .int .i64)]
abbrev p_impl_placeOf_0 : Pt := [(0, .lst .np), (1, .np), (7, .int .i64), (8, .int .i64)]
abbrev x_impl_placeOf_0 : List (Xt × Pt) := [(.ex 0, []), (.rt, [(4, .int .i64)])]
noncomputable def m_impl_placeOf_0 : Tup p_impl_placeOf_0 → Option (Stp (Tup p_impl_placeOf_0) (SumT (x_impl_placeOf_0.map (·.2)))) := fun (x : List (Option Nat) × Option Nat × Int × Int) => bif decide (x.2.2.2 < x.2.2.1) then Option.bind (atI x.1 x.2.2.2) fun (v : Option Nat) => bif decide (v = x.2.1) then some (Stp.out (Sum.inr x.2.2.2)) else some (Stp.nx (x.1, x.2.1, x.2.2.1, IntKind.wrap .i64 (x.2.2.2 + (1 : Int)))) else some (Stp.out (Sum.inl ()))
noncomputable def m_impl_placeOf : Tup p_impl_placeOf → Option (Tup q_impl_placeOf) := fun (x : List (Option Nat) × Option Nat) => Option.bind (loopO m_impl_placeOf_0 (x.1, x.2, (↑(List.length x.1) : Int), (0 : Int))) fun (y : PUnit ⊕ Int) => selim (fun (y : PUnit) => some (-1 : Int)) (fun (y : Int) => some y) y
noncomputable def cx_impl_placeOf : Cx := ⟨tb, lookE [], lookS []⟩
theorem ck_impl_placeOf : CxOK Tryz.prog (cx_impl_placeOf) := cx_ok tb_ok .nil
noncomputable def c_impl_placeOf_0 : Code := loopAt (Go.Proofs.Tryz.f66.body.getD .skip) 0
noncomputable def l_impl_placeOf_0 : LEnt := ⟨p_impl_placeOf_0, x_impl_placeOf_0, loopO (m_impl_placeOf_0)⟩
theorem lo_impl_placeOf_0 : LOK Tryz.prog 19 0 false (l_impl_placeOf_0) c_impl_placeOf_0 := loop_ok (body := m_impl_placeOf_0) (L := lookL []) (ck_impl_placeOf) mixed (ls_ok (l := []) (by kernel_rfl) .nil) (by intro x; kernel_rfl) (fun x y h => loopO_iff.1 h)
noncomputable def e_impl_placeOf : Ent := ⟨0, p_impl_placeOf, q_impl_placeOf, m_impl_placeOf⟩
theorem ok_impl_placeOf : FnOK Tryz.prog 66 e_impl_placeOf := fn_ok (L := lookL [(0, l_impl_placeOf_0)]) ck_impl_placeOf mixed Tryz.func66 rfl (by kernel_rfl) (by kernel_rfl) (ls_ok (l := [(0, c_impl_placeOf_0)]) (by kernel_rfl) (.cons rfl (lo_impl_placeOf_0) .nil)) (by intro x; kernel_rfl)
abbrev p_impl_placesOf : Pt := [(0, .lst .np), (1, .lst .np)]
abbrev q_impl_placesOf : Pt := [(0, .own .int 3)]
abbrev p_impl_placesOf_0 : Pt := [(0, .lst .np), (5, .own .int 3), (8, .lst .np), (9, .int .i64), (10, .int .i64)]
abbrev x_impl_placesOf_0 : List (Xt × Pt) := [(.ex 0, [(5, .own .int 3)])]
noncomputable def m_impl_placesOf_0 : Tup p_impl_placesOf_0 → Option (Stp (Tup p_impl_placesOf_0) (SumT (x_impl_placesOf_0.map (·.2)))) := fun (x : List (Option Nat) × List Int × List (Option Nat) × Int × Int) => bif decide (x.2.2.2.2 < x.2.2.2.1) then Option.bind (atI x.2.2.1 x.2.2.2.2) fun (v : Option Nat) => Option.bind (m_impl_placeOf (x.1, v)) fun (r : Int) => Option.bind (appL x.2.1 [r]) fun (r : List Int) => some (Stp.nx (x.1, r, x.2.2.1, x.2.2.2.1, IntKind.wrap .i64 (x.2.2.2.2 + (1 : Int)))) else some (Stp.out x.2.1)
noncomputable def m_impl_placesOf : Tup p_impl_placesOf → Option (Tup q_impl_placesOf) := fun (x : List (Option Nat) × List (Option Nat)) => Option.bind (loopO m_impl_placesOf_0 (x.1, [], x.2, (↑(List.length x.2) : Int), (0 : Int))) fun (y : List Int) => some y
noncomputable def cx_impl_placesOf : Cx := ⟨tb, lookE [(66, e_impl_placeOf)], lookS []⟩
theorem ck_impl_placesOf : CxOK Tryz.prog (cx_impl_placesOf) := cx_ok tb_ok (.cons ok_impl_placeOf Tryz.call66 .nil)
noncomputable def c_impl_placesOf_0 : Code := loopAt (Go.Proofs.Tryz.f34.body.getD .skip) 0
noncomputable def l_impl_placesOf_0 : LEnt := ⟨p_impl_placesOf_0, x_impl_placesOf_0, loopO (m_impl_placesOf_0)⟩
theorem lo_impl_placesOf_0 : LOK Tryz.prog 22 0 false (l_impl_placesOf_0) c_impl_placesOf_0 := loop_ok (body := m_impl_placesOf_0) (L := lookL []) (ck_impl_placesOf) mixed (ls_ok (l := []) (by kernel_rfl) .nil) (by intro x; kernel_rfl) (fun x y h => loopO_iff.1 h)
noncomputable def e_impl_placesOf : Ent := ⟨0, p_impl_placesOf, q_impl_placesOf, m_impl_placesOf⟩
theorem ok_impl_placesOf : FnOK Tryz.prog 34 e_impl_placesOf := fn_ok (L := lookL [(0, l_impl_placesOf_0)]) ck_impl_placesOf mixed Tryz.func34 rfl (by kernel_rfl) (by kernel_rfl) (ls_ok (l := [(0, c_impl_placesOf_0)]) (by kernel_rfl) (.cons rfl (lo_impl_placesOf_0) .nil)) (by intro x; kernel_rfl)
end Go.Proofs.YtfjhibplplcjjaaGreat.V
set_option linter.unusedVariables false
set_option linter.unusedSimpArgs false
namespace Go.Proofs.YtfjhibplplcjjaaGreat.V
open Go
def hattr (a : Attr) : HAttr := ⟨[], a.key, a.val⟩
def base (v : Node) : HN :=
  if v.kind = 1 then ⟨none, none, none, none, none, 2, 0, [], [], []⟩
  else if v.kind = 2 then ⟨none, none, none, none, none, 5, 0, v.text, [], []⟩
  else if v.kind = 4 then ⟨none, none, none, none, none, 1, 0, v.text, [], []⟩
  else if v.kind = 5 then ⟨none, none, none, none, none, 4, 0, v.text, [], []⟩
  else ⟨none, none, none, none, none, 3, 0, v.tag, [], v.attrs.map hattr⟩
theorem alone_eq (v : Node) (hs : List HN) (ha : v.attrs.length ≤ 2147483647) : m_impl_alone (v, hs) = some (some hs.length, hs ++ [base v]) := by
  simp only [m_impl_alone, cond_dec, base]
  split
  · rfl
  split
  · rfl
  split
  · rfl
  split
  · rfl
  have key : ∀ m k, v.attrs.length - k = m → k ≤ v.attrs.length → loopO m_impl_alone_0 (some hs.length, v.attrs, (v.attrs.length : Int), (k : Int), hs ++ [⟨none, none, none, none, none, 3, 0, v.tag, [], (v.attrs.take k).map hattr⟩]) = some (some hs.length, hs ++ [⟨none, none, none, none, none, 3, 0, v.tag, [], v.attrs.map hattr⟩]) := by
    intro m
    induction m with
    | zero =>
      intro k hm hk
      refine loopO_out ?_
      simp only [m_impl_alone_0, cond_dec]
      rw [if_neg (by omega), List.take_of_length_le (by omega)]
    | succ m ih =>
      intro k hm hk
      obtain ⟨a, hA⟩ := get_lt (l := v.attrs) (k := k) (by omega)
      have hg : ∀ e : HN, (hs ++ [e])[hs.length]? = some e := fun e => by simp
      have step : m_impl_alone_0 (some hs.length, v.attrs, (v.attrs.length : Int), (k : Int), hs ++ [⟨none, none, none, none, none, 3, 0, v.tag, [], (v.attrs.take k).map hattr⟩]) = some (.nx (some hs.length, v.attrs, (v.attrs.length : Int), ((k + 1 : Nat) : Int), hs ++ [⟨none, none, none, none, none, 3, 0, v.tag, [], (v.attrs.take (k + 1)).map hattr⟩])) := by
        simp only [m_impl_alone_0, cond_dec, atI_nat]
        rw [if_pos (by omega), hA]
        simp only [bind_some, hg]
        rw [appL_some (by simp; omega)]
        simp only [bind_some, hg, if_true]
        rw [w64 (by omega) (by omega), List.set_append_right _ _ (Nat.le_refl _)]
        have e2 : v.attrs.take (k + 1) = v.attrs.take k ++ [a] := by rw [List.take_add_one, hA]; rfl
        rw [e2]
        simp [hattr, HN.wa]
      rw [loopO_nx step]
      exact ih (k + 1) (by omega) (by omega)
  have h := key v.attrs.length 0 (by omega) (Nat.zero_le _)
  have h' : loopO m_impl_alone_0 (some hs.length, v.attrs, (v.attrs.length : Int), (0 : Int), hs ++ [⟨none, none, none, none, none, 3, 0, v.tag, [], []⟩]) = _ := h
  rw [h', bind_some]
theorem append_none {S : List HN} {p c : Nat} {hp hc : HN} (hne : p ≠ c) (h1 : S[p]? = some hp) (h2 : S[c]? = some hc) (g1 : hc.par = none) (g2 : hc.prv = none) (g3 : hc.nxt = none) (g4 : hp.lst = none) :
    m_html_Node_AppendChild (some p, some c, S) = some ((S.set p { hp with fst := some c, lst := some c }).set c { hc with par := some p, prv := none }) := by
  obtain ⟨hlp, e1⟩ := List.getElem?_eq_some_iff.1 h1
  obtain ⟨hlc, e2⟩ := List.getElem?_eq_some_iff.1 h2
  simp only [m_html_Node_AppendChild, bind_some, h1, h2, g1, g2, g3, g4, Option.isNone_none, Bool.not_true, cond_false]
  simp [List.getElem?_set, hlp, hlc, hne, hne.symm, h2, List.set_set, g4, e1, e2, g1, g2, g3]
theorem append_some {S : List HN} {p c l : Nat} {hp hc hl : HN} (hne : p ≠ c) (hlp' : l ≠ p) (hlc' : l ≠ c) (h1 : S[p]? = some hp) (h2 : S[c]? = some hc) (h3 : S[l]? = some hl) (g1 : hc.par = none) (g2 : hc.prv = none) (g3 : hc.nxt = none) (g4 : hp.lst = some l) :
    m_html_Node_AppendChild (some p, some c, S) = some (((S.set l { hl with nxt := some c }).set p { hp with lst := some c }).set c { hc with par := some p, prv := some l }) := by
  obtain ⟨hlp, e1⟩ := List.getElem?_eq_some_iff.1 h1
  obtain ⟨hlc, e2⟩ := List.getElem?_eq_some_iff.1 h2
  obtain ⟨hll, e3⟩ := List.getElem?_eq_some_iff.1 h3
  simp only [m_html_Node_AppendChild, bind_some, h1, h2, g1, g2, g3, g4, Option.isNone_none, Bool.not_true, cond_false, Option.isNone_some, Bool.not_false, cond_true, h3]
  simp [List.getElem?_set, hlp, hlc, hll, hne, hne.symm, hlp', hlp'.symm, hlc', hlc'.symm, h1, h2, h3, List.set_set, g4, e1, e2, e3, g1, g2, g3]
def lastF (t : List Node) (p : Nat) : Nat → Option Nat
  | 0 => none
  | e + 1 => if par t e = some p then some e else lastF t p e
theorem lastF_some {t : List Node} {p c : Nat} : ∀ {e : Nat}, lastF t p e = some c → c < e ∧ par t c = some p ∧ ∀ c', c < c' → c' < e → par t c' ≠ some p
  | 0, h => by cases h
  | e + 1, h => by
    simp only [lastF] at h
    split at h
    · cases h
      exact ⟨by omega, by assumption, fun c' h1 h2 => by omega⟩
    · rename_i hn
      obtain ⟨h1, h2, h3⟩ := lastF_some h
      refine ⟨by omega, h2, fun c' g1 g2 => ?_⟩
      by_cases e' : c' = e
      · subst e'; exact hn
      · exact h3 c' g1 (by omega)
theorem lastF_none {t : List Node} {p : Nat} : ∀ {e : Nat}, lastF t p e = none → ∀ c, c < e → par t c ≠ some p
  | 0, _, c, hc => by omega
  | e + 1, h, c, hc => by
    simp only [lastF] at h
    split at h
    · cases h
    · rename_i hn
      by_cases e' : c = e
      · subst e'; exact hn
      · exact lastF_none h c (by omega)
theorem lastF_skip {t : List Node} {p e : Nat} : ∀ {e' : Nat}, e ≤ e' → (∀ c, e ≤ c → c < e' → par t c ≠ some p) → lastF t p e' = lastF t p e
  | 0, h, _ => by have : e = 0 := by omega
                  subst this; rfl
  | e' + 1, h, hc => by
    by_cases h2 : e = e' + 1
    · subst h2; rfl
    · simp only [lastF]
      rw [if_neg (hc e' (by omega) (by omega))]
      exact lastF_skip (by omega) fun c g1 g2 => hc c g1 (by omega)
theorem lastF_mk {t : List Node} {p c : Nat} {e : Nat} (h1 : c < e) (h2 : par t c = some p) (h3 : ∀ c', c < c' → c' < e → par t c' ≠ some p) : lastF t p e = some c := by
  rw [lastF_skip (e := c + 1) (by omega) fun c' g1 g2 => h3 c' (by omega) g2]
  simp [lastF, h2]
def nxtF (t : List Node) (i e : Nat) : Option Nat := match par t i with
  | some p => if i + sz t i < e ∧ i + sz t i < p + sz t p then some (i + sz t i) else none
  | none => none
def prvF (t : List Node) (i : Nat) : Option Nat := match par t i with
  | some p => lastF t p i
  | none => none
def bs0 (t : List Node) (i : Nat) : HN := match t[i]? with
  | some v => base v
  | none => base ⟨0, [], [], [], 0⟩
def rc (t : List Node) (a e i : Nat) : HN :=
  ⟨if i = a then none else par t i, if i + 1 < e ∧ 1 < sz t i then some (i + 1) else none, lastF t i e, if i = a then none else prvF t i, if i = a then none else nxtF t i e, (bs0 t i).ty, (bs0 t i).atom, (bs0 t i).data, (bs0 t i).ns, (bs0 t i).attrs⟩
def fillL (l : List (Option Nat)) (a e : Nat) : List (Option Nat) := l.mapIdx fun i x => if a ≤ i ∧ i < e then some i else x
theorem fillL_get {l : List (Option Nat)} {a e i : Nat} : (fillL l a e)[i]? = (l[i]?).map fun x => if a ≤ i ∧ i < e then some i else x := by simp [fillL, List.getElem?_mapIdx]
theorem fillL_len {l : List (Option Nat)} {a e : Nat} : (fillL l a e).length = l.length := by simp [fillL]
def stp (t : List Node) (a e : Nat) : List HN := (List.range' a (e - a)).map (rc t a e)
theorem stp_len {t : List Node} {a e : Nat} : (stp t a e).length = e - a := by simp [stp]
theorem stp_get {t : List Node} {a e i : Nat} (h : i < e - a) : (stp t a e)[i]? = some (rc t a e (a + i)) := by
  unfold stp
  rw [List.getElem?_map, List.getElem?_range' h]
  simp
theorem app_get {hs : List HN} {t : List Node} {a e i : Nat} (hl : hs.length = a) (h1 : a ≤ i) (h2 : i < e) : (hs ++ stp t a e)[i]? = some (rc t a e i) := by
  rw [List.getElem?_append_right (by omega), stp_get (by omega)]
  congr 2
  omega
section
variable {t : List Node} {a k l i : Nat}
def Ch (t : List Node) (a k : Nat) : Prop := ∀ q, a < q → q < k → q + sz t q ≤ k
theorem Ch.par (h : Ch t a k) (h1 : a < k) (h2 : k < a + sz t a) : par t k = some a := par_mk h1 h2 fun q g1 g2 => by have := h q g1 g2; omega
theorem Ch.of_par (h : V.par t k = some a) : Ch t a k := fun q g1 g2 => by have := (par_some h).2.2 q g1 g2; omega
theorem Ch.next (hL : Lam t a (a + sz t a)) (h : Ch t a k) (h1 : a < k) (h2 : k < a + sz t a) : Ch t a (k + sz t k) := fun q g1 g2 => by
  obtain ⟨v, _, _, hk, _⟩ := hL.ok k (by omega) h2
  by_cases e : q < k
  · have := h q g1 e; omega
  · by_cases e2 : q = k
    · subst e2; omega
    · exact hL.nest k q (by omega) h2 (by omega) g2
theorem par_in (hL : Lam t a (a + sz t a)) (h1 : a < i) (h2 : i < a + sz t a) : ∃ p, par t i = some p ∧ a ≤ p ∧ p < i := by
  cases h : par t i with
  | none => have := parF_none h a h1; omega
  | some p =>
    obtain ⟨g1, g2, g3⟩ := par_some h
    refine ⟨p, rfl, ?_, g1⟩
    rcases Nat.lt_or_ge p a with h4 | h4
    · exact absurd (by omega) (g3 a h4 h1)
    · exact h4
theorem last_end (hL : Lam t a (a + sz t a)) (h : Ch t a k) (h2 : k ≤ a + sz t a) (hl : lastF t a k = some l) : a < l ∧ l < k ∧ l + sz t l = k := by
  obtain ⟨g1, g2, g3⟩ := lastF_some hl
  obtain ⟨g4, g5, _⟩ := par_some g2
  refine ⟨g4, g1, ?_⟩
  have h3 := h l g4 g1
  rcases Nat.lt_or_ge (l + sz t l) k with h4 | h4
  · obtain ⟨v, _, _, hk, _⟩ := hL.ok l (by omega) g5
    have hc := (Ch.of_par g2).next hL g4 g5
    exact absurd (hc.par (by omega) (by omega)) (g3 _ (by omega) h4)
  · omega
theorem last_none (hL : Lam t a (a + sz t a)) (h1 : a < k) (h2 : k ≤ a + sz t a) (hl : lastF t a k = none) : k = a + 1 := by
  rcases Nat.lt_or_ge (a + 1) k with h4 | h4
  · have hc : Ch t a (a + 1) := fun q g1 g2 => by omega
    exact absurd (hc.par (by omega) (by omega)) (lastF_none hl _ h4)
  · omega
theorem rc_in (hL : Lam t a (a + sz t a)) (hC : Ch t a k) (h1 : a < k) (h2 : k < a + sz t a) (hi : a < i) (hik : i < k) (hl : lastF t a k ≠ some i) : rc t a (k + sz t k) i = rc t a k i := by
  have hi2 := hC i hi hik
  obtain ⟨v, _, _, hk, _⟩ := hL.ok k (by omega) h2
  unfold rc
  have e1 : lastF t i (k + sz t k) = lastF t i k := lastF_skip (by omega) fun c g1 g2 e => by
    have := (par_some e).2.1; omega
  have e2 : (i + 1 < k + sz t k ∧ 1 < sz t i) = (i + 1 < k ∧ 1 < sz t i) := by
    apply propext
    constructor
    · rintro ⟨_, g⟩; exact ⟨by omega, g⟩
    · rintro ⟨g0, g⟩; exact ⟨by omega, g⟩
  have e3 : nxtF t i (k + sz t k) = nxtF t i k := by
    unfold nxtF
    obtain ⟨p, hp, hp1, hp2⟩ := par_in hL hi (by omega)
    rw [hp]
    simp only
    have : (i + sz t i < k + sz t k ∧ i + sz t i < p + sz t p) = (i + sz t i < k ∧ i + sz t i < p + sz t p) := by
      apply propext
      constructor
      · rintro ⟨_, g⟩
        refine ⟨?_, g⟩
        rcases Nat.lt_or_ge (i + sz t i) k with h4 | h4
        · exact h4
        · exfalso
          have hik2 : i + sz t i = k := by omega
          have hpa : p = a := by
            rcases Nat.lt_or_ge a p with h5 | h5
            · have := hC p h5 (by omega); omega
            · omega
          subst hpa
          refine hl (lastF_mk hik hp fun c' g1 g2 e => ?_)
          exact (par_some e).2.2 i (by omega) g1 (by omega)
      · rintro ⟨g0, g⟩; exact ⟨by omega, g⟩
    simp only [this]
  rw [e1, e3]
  simp only [e2]
end
theorem link_eq {t : List Node} {a k : Nat} {hs : List HN} (hhs : hs.length = a) (hL : Lam t a (a + sz t a)) (hC : Ch t a k) (h1 : a < k) (h2 : k < a + sz t a) :
    m_html_Node_AppendChild (some a, some k, (hs ++ stp t a k) ++ stp t k (k + sz t k)) = some (hs ++ stp t a (k + sz t k)) := by
  obtain ⟨v, hv, hvs, hk1, hk2⟩ := hL.ok k (by omega) h2
  have hkl : (hs ++ stp t a k).length = k := by rw [List.length_append, stp_len]; omega
  have gk : ∀ i, k ≤ i → i < k + sz t k → ((hs ++ stp t a k) ++ stp t k (k + sz t k))[i]? = some (rc t k (k + sz t k) i) := fun i g1 g2 => app_get hkl g1 g2
  have ga : ∀ i, a ≤ i → i < k → ((hs ++ stp t a k) ++ stp t k (k + sz t k))[i]? = some (rc t a k i) := fun i g1 g2 => by
    rw [List.getElem?_append_left (by omega)]; exact app_get hhs g1 g2
  have gh : ∀ i, i < a → ((hs ++ stp t a k) ++ stp t k (k + sz t k))[i]? = hs[i]? := fun i g => by
    rw [List.getElem?_append_left (by omega), List.getElem?_append_left (by omega)]
  have go : ∀ i, k + sz t k ≤ i → ((hs ++ stp t a k) ++ stp t k (k + sz t k))[i]? = none := fun i g => List.getElem?_eq_none (by rw [List.length_append, hkl, stp_len]; omega)
  have gh' : ∀ i, i < a → (hs ++ stp t a (k + sz t k))[i]? = hs[i]? := fun i g => List.getElem?_append_left (by omega)
  have go' : ∀ i, k + sz t k ≤ i → (hs ++ stp t a (k + sz t k))[i]? = none := fun i g => List.getElem?_eq_none (by rw [List.length_append, stp_len]; omega)
  have hpk := hC.par h1 h2
  have hc1 : (rc t k (k + sz t k) k).par = none := by simp [rc]
  have hc2 : (rc t k (k + sz t k) k).prv = none := by simp [rc]
  have hc3 : (rc t k (k + sz t k) k).nxt = none := by simp [rc]
  have hnk : nxtF t k (k + sz t k) = none := by unfold nxtF; rw [hpk]; simp
  have hla : lastF t a (k + sz t k) = some k := lastF_mk (by omega) hpk fun c g1 g2 e => (par_some e).2.2 k h1 g1 (by omega)
  have hnew : ∀ i, k < i → i < k + sz t k → rc t k (k + sz t k) i = rc t a (k + sz t k) i := fun i g1 g2 => by
    unfold rc
    simp only [if_neg (show ¬ i = k by omega), if_neg (show ¬ i = a by omega)]
  generalize hS : (hs ++ stp t a k) ++ stp t k (k + sz t k) = S at *
  have hlen : S.length = k + sz t k := by rw [← hS, List.length_append, hkl, stp_len]; omega
  cases hl : lastF t a k with
  | none =>
    obtain rfl := last_none hL h1 (by omega) hl
    rw [append_none (by omega) (ga a (Nat.le_refl _) (by omega)) (gk (a + 1) (Nat.le_refl _) (by omega)) hc1 hc2 hc3 (by simp [rc, hl])]
    congr 1
    apply List.ext_getElem?
    intro i
    rw [List.getElem?_set, List.getElem?_set]
    simp only [List.length_set, hlen]
    by_cases e1 : a + 1 = i
    · subst e1
      rw [if_pos rfl, if_pos (by omega), app_get hhs (by omega) (by omega)]
      congr 1
      unfold rc
      simp only [hpk, prvF, hl, hnk]
      simp
    · rw [if_neg e1]
      by_cases e2 : a = i
      · subst e2
        rw [if_pos rfl, if_pos (by omega), app_get hhs (by omega) (by omega)]
        congr 1
        unfold rc
        rw [hla]
        have : 1 < sz t a := by omega
        simp [this]
        omega
      · rw [if_neg e2]
        rcases Nat.lt_or_ge i a with g | g
        · rw [gh i g, gh' i g]
        · rcases Nat.lt_or_ge i (a + 1 + sz t (a + 1)) with g2 | g2
          · rw [gk i (by omega) g2, app_get hhs (by omega) g2, hnew i (by omega) g2]
          · rw [go i g2, go' i g2]
  | some l =>
    obtain ⟨l1, l2, l3⟩ := last_end hL hC (by omega) hl
    obtain ⟨l4, l5, _⟩ := lastF_some hl
    rw [append_some (by omega) (by omega) (by omega) (ga a (Nat.le_refl _) (by omega)) (gk k (Nat.le_refl _) (by omega)) (ga l (by omega) l2) hc1 hc2 hc3 (by simp [rc, hl])]
    congr 1
    apply List.ext_getElem?
    intro i
    rw [List.getElem?_set, List.getElem?_set, List.getElem?_set]
    simp only [List.length_set, hlen]
    by_cases e1 : k = i
    · subst e1
      rw [if_pos rfl, if_pos (by omega), app_get hhs (by omega) (by omega)]
      congr 1
      unfold rc
      simp only [if_neg (show ¬ k = a by omega), hpk, prvF, hl, hnk]
      simp
    · rw [if_neg e1]
      by_cases e2 : a = i
      · subst e2
        rw [if_pos rfl, if_pos (by omega), app_get hhs (by omega) (by omega)]
        congr 1
        unfold rc
        rw [hla]
        have : 1 < sz t a := by omega
        have h3 : a + 1 < k := by omega
        have h4 : a + 1 < k + sz t k := by omega
        simp [this, h3, h4]
      · rw [if_neg e2]
        by_cases e3 : l = i
        · subst e3
          rw [if_pos rfl, if_pos (by omega), app_get hhs (by omega) (by omega)]
          congr 1
          have hn : nxtF t l (k + sz t k) = some k := by
            unfold nxtF; rw [l5]; simp only
            rw [if_pos ⟨by omega, by omega⟩, l3]
          have q1 : lastF t l (k + sz t k) = lastF t l k := lastF_skip (by omega) fun c g1 g2 e => by
            have := (par_some e).2.1; omega
          have q2 : (l + 1 < k + sz t k ∧ 1 < sz t l) = (l + 1 < k ∧ 1 < sz t l) := by
            apply propext
            constructor
            · rintro ⟨_, g⟩; exact ⟨by omega, g⟩
            · rintro ⟨g0, g⟩; exact ⟨by omega, g⟩
          unfold rc
          rw [hn, q1]
          simp only [q2, if_neg (show ¬ l = a by omega)]
        · rw [if_neg e3]
          rcases Nat.lt_or_ge i a with g | g
          · rw [gh i g, gh' i g]
          · rcases Nat.lt_or_ge i k with g1 | g1
            · rw [ga i g g1, app_get hhs g (by omega), rc_in hL hC h1 h2 (by omega) g1 (by rw [hl]; intro e; cases e; exact e3 rfl)]
            · rcases Nat.lt_or_ge i (k + sz t k) with g2 | g2
              · rw [gk i g1 g2, app_get hhs g g2, hnew i (by omega) g2]
              · rw [go i g2, go' i g2]
theorem grow_eq (t : List Node) (ht : t.length ≤ 1000000) (hat : ∀ (i : Nat) (v : Node), t[i]? = some v → v.attrs.length ≤ 2147483647) : ∀ (n a : Nat) (l : List (Option Nat)) (hs : List HN), sz t a ≤ n → Lam t a (a + sz t a) → 1 ≤ sz t a → a + sz t a ≤ t.length → l.length = t.length → hs.length = a →
    m_impl_grow n (t, (a : Int), l, hs) = some (fillL l a (a + sz t a), hs ++ stp t a (a + sz t a)) := by
  intro n
  induction n with
  | zero => intro a l hs h1 _ h2; omega
  | succ n ih =>
    intro a l hs hn hL hs1 hat2 hl hhs
    obtain ⟨v, hv, hvs, _, _⟩ := hL.ok a (Nat.le_refl _) (by omega)
    obtain ⟨x, hx⟩ := get_lt (l := l) (k := a) (by omega)
    simp only [m_impl_grow, b_impl_grow, atI_nat, Int.toNat_natCast]
    rw [hv, bind_some, show m_impl_alone ({ kind := v.kind, tag := v.tag, text := v.text, attrs := v.attrs, size := v.size }, hs) = _ from alone_eq v hs (hat a v hv), bind_some, hx]
    simp only [bind_some]
    rw [w64 (n := (a : Int) + 1) (by omega) (by omega)]
    have key : ∀ m k, a + sz t a - k = m → a < k → k ≤ a + sz t a → Ch t a k → loopO (m_impl_grow_0 (m_impl_grow n)) (t, (a : Int), fillL l a k, (k : Int), hs ++ stp t a k) = some (fillL l a (a + sz t a), hs ++ stp t a (a + sz t a)) := by
      intro m
      induction m using Nat.strongRecOn with
      | ind m ihm =>
        intro k hm g1 g2 hC
        by_cases hk : k < a + sz t a
        · obtain ⟨u, hu, hus, hu1, hu2⟩ := hL.ok k (by omega) hk
          have hLk := hL.sub (i := k) (by omega) hk
          have hgr := ih k (fillL l a k) (hs ++ stp t a k) (by omega) hLk hu1 (by omega) (by rw [fillL_len, hl]) (by rw [List.length_append, stp_len]; omega)
          have hff : fillL (fillL l a k) k (k + sz t k) = fillL l a (k + sz t k) := by
            apply List.ext_getElem?
            intro i
            rw [fillL_get, fillL_get, fillL_get, Option.map_map]
            congr 1
            funext y
            simp only [Function.comp]
            by_cases c1 : k ≤ i ∧ i < k + sz t k
            · rw [if_pos c1, if_pos ⟨by omega, c1.2⟩]
            · rw [if_neg c1]
              by_cases c2 : a ≤ i ∧ i < k
              · rw [if_pos c2, if_pos ⟨c2.1, by omega⟩]
              · rw [if_neg c2, if_neg (by omega)]
          have ga : (fillL l a (k + sz t k))[a]? = some (some a) := by
            rw [fillL_get, hx]; simp; omega
          obtain ⟨y, hy⟩ := get_lt (l := l) (k := k) (by omega)
          have gk : (fillL l a (k + sz t k))[k]? = some (some k) := by
            rw [fillL_get, hy]; simp; omega
          have step : m_impl_grow_0 (m_impl_grow n) (t, (a : Int), fillL l a k, (k : Int), hs ++ stp t a k) = some (.nx (t, (a : Int), fillL l a (k + sz t k), ((k + sz t k : Nat) : Int), hs ++ stp t a (k + sz t k))) := by
            simp only [m_impl_grow_0, cond_dec, atI_nat, Int.toNat_natCast]
            rw [hv, bind_some, hvs, w64 (n := (a : Int) + (sz t a : Int)) (by omega) (by omega), if_pos (by omega), hgr, bind_some]
            simp only
            rw [hff, ga, bind_some, bind_some, gk, bind_some, bind_some, link_eq hhs hL hC g1 hk, bind_some, hu, bind_some, hus, w64 (n := (k : Int) + (sz t k : Int)) (by omega) (by omega)]
            rfl
          rw [loopO_nx step]
          exact ihm (a + sz t a - (k + sz t k)) (by omega) (k + sz t k) rfl (by omega) (by omega) (hC.next hL g1 hk)
        · have : k = a + sz t a := by omega
          subst this
          refine loopO_out ?_
          simp only [m_impl_grow_0, cond_dec, atI_nat]
          rw [hv, bind_some, hvs, w64 (n := (a : Int) + (sz t a : Int)) (by omega) (by omega), if_neg (by omega)]
    have h := key _ (a + 1) rfl (by omega) (by omega) (fun q g1 g2 => by omega)
    have e1 : l.set a (some hs.length) = fillL l a (a + 1) := by
      apply List.ext_getElem?
      intro i
      rw [fillL_get, List.getElem?_set]
      by_cases c : a = i
      · subst c; rw [if_pos rfl, if_pos (by omega), hx, hhs]; simp
      · rw [if_neg c]
        cases l[i]? with
        | none => rfl
        | some z => simp; omega
    have e2 : [base v] = stp t a (a + 1) := by
      have hln : lastF t a (a + 1) = none := by
        cases h3 : lastF t a (a + 1) with
        | none => rfl
        | some c =>
          obtain ⟨q1, q2, _⟩ := lastF_some h3
          have := (par_some q2).1
          omega
      have hsub : a + 1 - a = 1 := by omega
      have hb : base v = ⟨none, none, none, none, none, (base v).ty, (base v).atom, (base v).data, (base v).ns, (base v).attrs⟩ := by
        unfold base
        repeat' split
        all_goals rfl
      rw [hb]
      simp [stp, hsub, rc, bs0, hv, hln]
    have e3 : ((a : Int) + 1) = ((a + 1 : Nat) : Int) := by omega
    rw [e1, e2, e3, h, bind_some]
def store (t : List Node) : List HN := stp t 0 t.length
def ptrs (t : List Node) : List (Option Nat) := (List.range t.length).map some
theorem fits_eq (t : List Node) (ht : t.length ≤ 1000000) (hn : ∀ i v, t[i]? = some v → RN t i v) : ∀ (n a e : Nat), 1 ≤ a → a ≤ e → e - a < n → Lam t a e → e ≤ t.length → m_impl_fits n (t, (a : Int), (e : Int)) = some true := by
  intro n
  induction n with
  | zero => intro a e _ _ h; omega
  | succ n ih =>
    intro a e ha hae hne hL he
    simp only [m_impl_fits, b_impl_fits]
    have key : ∀ m k, e - k = m → a ≤ k → k ≤ e → Lam t k e → loopO (m_impl_fits_0 (m_impl_fits n)) (t, (k : Int), (e : Int)) = some (.inl ()) := by
      intro m
      induction m using Nat.strongRecOn with
      | ind m ihm =>
        intro k hm g1 g2 hLk
        by_cases hk : k < e
        · obtain ⟨v, hv, hvs, hv1, hv2⟩ := hLk.ok k (Nat.le_refl _) hk
          have hr := hn k v hv
          have hs := hLk.sub (i := k) (Nat.le_refl _) hk
          have hs' : Lam t (k + 1) (k + sz t k) := ⟨fun i h1 h2 => hs.ok i (by omega) h2, fun i j h1 h2 => hs.nest i j (by omega) h2⟩
          have hsub := ih (k + 1) (k + sz t k) (by omega) (by omega) (by omega) hs' (by omega)
          have hLn : Lam t (k + sz t k) e := ⟨fun i h1 h2 => hLk.ok i (by omega) h2, fun i j h1 h2 => hLk.nest i j (by omega) h2⟩
          have hk1 : v.kind ≠ 1 := fun h => by have := hr.k1 h; omega
          have hkd := hr.kd
          have step : m_impl_fits_0 (m_impl_fits n) (t, (k : Int), (e : Int)) = some (.nx (t, ((k + sz t k : Nat) : Int), (e : Int))) := by
            simp only [m_impl_fits_0, cond_dec, atI_nat]
            rw [if_pos (by omega), hv, bind_some, hvs, w64 (n := (e : Int) - (k : Int)) (by omega) (by omega), if_neg (by omega), if_neg (by omega), if_neg (by omega), if_neg (by omega), w64 (n := (k : Int) + 1) (by omega) (by omega), w64 (n := (k : Int) + (sz t k : Int)) (by omega) (by omega)]
            have hc : m_impl_fits n (t, (k : Int) + 1, (k : Int) + (sz t k : Int)) = some true := hsub
            rw [hc]
            simp only [bind_some]
            by_cases h3 : v.kind ≠ 3
            · have := hr.k2 h3 hk1
              rw [if_pos h3, if_neg (by omega)]
              rfl
            · rw [if_neg h3]; rfl
          rw [loopO_nx step]
          exact ihm (e - (k + sz t k)) (by omega) (k + sz t k) rfl (by omega) (by omega) hLn
        · refine loopO_out ?_
          simp only [m_impl_fits_0, cond_dec]
          rw [if_neg (by omega)]
    rw [key _ a rfl (Nat.le_refl _) hae hL, bind_some]
    rfl
theorem right_eq (t : List Node) (hR : RT t) : m_impl_right t = some true := by
  obtain ⟨v, hv, hk⟩ := hR.k0
  obtain ⟨u, hu, hus, _, _⟩ := hR.lam.ok 0 (Nat.le_refl _) hR.pos
  rw [hv] at hu
  cases hu
  have h1 := hR.pos
  have h2 := hR.len
  have h3 := hR.root
  simp only [m_impl_right, cond_dec, atI_zero]
  rw [if_neg (by omega), hv]
  simp only [bind_some]
  rw [if_neg (by omega), if_pos hk, show m_impl_fits big (t, (1 : Int), (t.length : Int)) = some true from fits_eq t (by omega) hR.node big 1 t.length (Nat.le_refl _) (by omega) (by unfold big; omega) ⟨fun i h1 h2 => hR.lam.ok i (by omega) h2, fun i j h1 h2 => hR.lam.nest i j (by omega) h2⟩ (Nat.le_refl _)]
  rfl
theorem grown_eq (t : List Node) (hf : fits1 t = true) (hR : RT t) : m_impl_grown (t, []) = some (ptrs t, true, store t) := by
  have h1 := hR.pos
  have h2 := hR.len
  have h3 := hR.root
  have hL : Lam t 0 (0 + sz t 0) := by rw [h3, Nat.zero_add]; exact hR.lam
  have hat : ∀ (i : Nat) (v : Node), t[i]? = some v → v.attrs.length ≤ 2147483647 := fun i v hv => by
    have := (fits_node hf hv).2.2
    simp only [fits3, Bool.and_eq_true, decide_eq_true_eq] at this
    exact this.1
  have h := grow_eq t (by omega) hat big 0 (List.replicate t.length none) [] (by unfold big; omega) hL (by omega) (by omega) (by simp) rfl
  simp only [m_impl_grown, right_eq t hR, bind_some, not_cond, cond_dec]
  rw [if_pos trivial, if_pos ⟨by omega, by omega, by omega⟩, Int.toNat_natCast, show m_impl_grow big (t, (0 : Int), List.replicate t.length none, []) = _ from h, bind_some]
  have e : fillL (List.replicate t.length none) 0 (0 + sz t 0) = ptrs t := by
    apply List.ext_getElem?
    intro i
    rw [fillL_get, List.getElem?_replicate]
    unfold ptrs
    rw [List.getElem?_map]
    by_cases hi : i < t.length
    · rw [List.getElem?_range hi, if_pos hi, Option.map_some, if_pos ⟨Nat.zero_le _, by omega⟩]; rfl
    · rw [List.getElem?_eq_none (l := List.range t.length) (by simp; omega), if_neg hi]; rfl
  rw [e]
  simp [store, h3]
theorem ptrs_get {t : List Node} {i : Nat} (h : i < t.length) : (ptrs t)[i]? = some (some i) := by
  unfold ptrs
  rw [List.getElem?_map, List.getElem?_range h]
  rfl
theorem ptrs_len (t : List Node) : (ptrs t).length = t.length := by simp [ptrs]
end Go.Proofs.YtfjhibplplcjjaaGreat.V
set_option linter.unusedVariables false
set_option linter.unusedSimpArgs false
namespace Go.Proofs.YtfjhibplplcjjaaGreat.V
open Go Go.Proofs
abbrev p_goquery_newSingleSelection : Pt := [(0, .np), (1, .any)]
abbrev q_goquery_newSingleSelection : Pt := [(0, .fp (.rc .nps [] 2))]
noncomputable def m_goquery_newSingleSelection : Tup p_goquery_newSingleSelection → Option (Tup q_goquery_newSingleSelection) := fun (x : Option Nat × PUnit) => some [x.1]
noncomputable def cx_goquery_newSingleSelection : Cx := ⟨tb, lookE [], lookS []⟩
theorem ck_goquery_newSingleSelection : CxOK Tryz.prog (cx_goquery_newSingleSelection) := cx_ok tb_ok .nil
noncomputable def e_goquery_newSingleSelection : Ent := ⟨0, p_goquery_newSingleSelection, q_goquery_newSingleSelection, m_goquery_newSingleSelection⟩
theorem ok_goquery_newSingleSelection : FnOK Tryz.prog 103 e_goquery_newSingleSelection := fn_ok (L := lookL []) ck_goquery_newSingleSelection mixed Tryz.func103 rfl (by kernel_rfl) (by kernel_rfl) (ls_ok (l := []) (by kernel_rfl) .nil) (by intro x; kernel_rfl)
abbrev p_goquery_newDocument : Pt := [(0, .np)]
abbrev q_goquery_newDocument : Pt := [(0, .fp (.rc .fsel [.np] 0))]
noncomputable def m_goquery_newDocument : Tup p_goquery_newDocument → Option (Tup q_goquery_newDocument) := fun (x : Option Nat) => Option.bind (m_goquery_newSingleSelection (x, ())) fun (r : List (Option Nat)) => some (r, x)
noncomputable def cx_goquery_newDocument : Cx := ⟨tb, lookE [(103, e_goquery_newSingleSelection)], lookS []⟩
theorem ck_goquery_newDocument : CxOK Tryz.prog (cx_goquery_newDocument) := cx_ok tb_ok (.cons ok_goquery_newSingleSelection Tryz.call103 .nil)
noncomputable def e_goquery_newDocument : Ent := ⟨0, p_goquery_newDocument, q_goquery_newDocument, m_goquery_newDocument⟩
theorem ok_goquery_newDocument : FnOK Tryz.prog 94 e_goquery_newDocument := fn_ok (L := lookL []) ck_goquery_newDocument mixed Tryz.func94 rfl (by kernel_rfl) (by kernel_rfl) (ls_ok (l := []) (by kernel_rfl) .nil) (by intro x; kernel_rfl)
abbrev p_goquery_NewDocumentFromNode : Pt := [(0, .np)]
abbrev q_goquery_NewDocumentFromNode : Pt := [(0, .fp (.rc .fsel [.np] 0))]
noncomputable def m_goquery_NewDocumentFromNode : Tup p_goquery_NewDocumentFromNode → Option (Tup q_goquery_NewDocumentFromNode) := fun (x : Option Nat) => Option.bind (m_goquery_newDocument x) fun (r : List (Option Nat) × Option Nat) => some (r.1, r.2)
noncomputable def cx_goquery_NewDocumentFromNode : Cx := ⟨tb, lookE [(94, e_goquery_newDocument)], lookS []⟩
theorem ck_goquery_NewDocumentFromNode : CxOK Tryz.prog (cx_goquery_NewDocumentFromNode) := cx_ok tb_ok (.cons ok_goquery_newDocument Tryz.call94 .nil)
noncomputable def e_goquery_NewDocumentFromNode : Ent := ⟨0, p_goquery_NewDocumentFromNode, q_goquery_NewDocumentFromNode, m_goquery_NewDocumentFromNode⟩
theorem ok_goquery_NewDocumentFromNode : FnOK Tryz.prog 70 e_goquery_NewDocumentFromNode := fn_ok (L := lookL []) ck_goquery_NewDocumentFromNode mixed Tryz.func70 rfl (by kernel_rfl) (by kernel_rfl) (ls_ok (l := []) (by kernel_rfl) .nil) (by intro x; kernel_rfl)
abbrev p_goquery_newEmptySelection : Pt := [(0, .any)]
abbrev q_goquery_newEmptySelection : Pt := [(0, .fp (.rc .nil [] 2))]
noncomputable def m_goquery_newEmptySelection : Tup p_goquery_newEmptySelection → Option (Tup q_goquery_newEmptySelection) := fun (x : PUnit) => some ()
noncomputable def cx_goquery_newEmptySelection : Cx := ⟨tb, lookE [], lookS []⟩
theorem ck_goquery_newEmptySelection : CxOK Tryz.prog (cx_goquery_newEmptySelection) := cx_ok tb_ok .nil
noncomputable def e_goquery_newEmptySelection : Ent := ⟨0, p_goquery_newEmptySelection, q_goquery_newEmptySelection, m_goquery_newEmptySelection⟩
theorem ok_goquery_newEmptySelection : FnOK Tryz.prog 79 e_goquery_newEmptySelection := fn_ok (L := lookL []) ck_goquery_newEmptySelection mixed Tryz.func79 rfl (by kernel_rfl) (by kernel_rfl) (ls_ok (l := []) (by kernel_rfl) .nil) (by intro x; kernel_rfl)
abbrev p_goquery_pushStack : Pt := [(0, .fp (.rc .nps [] 2)), (1, .lst .np)]
abbrev q_goquery_pushStack : Pt := [(0, .fp (.rc .nps [] 2))]
noncomputable def m_goquery_pushStack : Tup p_goquery_pushStack → Option (Tup q_goquery_pushStack) := fun (x : List (Option Nat) × List (Option Nat)) => some x.2
noncomputable def cx_goquery_pushStack : Cx := ⟨tb, lookE [], lookS []⟩
theorem ck_goquery_pushStack : CxOK Tryz.prog (cx_goquery_pushStack) := cx_ok tb_ok .nil
noncomputable def e_goquery_pushStack : Ent := ⟨0, p_goquery_pushStack, q_goquery_pushStack, m_goquery_pushStack⟩
theorem ok_goquery_pushStack : FnOK Tryz.prog 72 e_goquery_pushStack := fn_ok (L := lookL []) ck_goquery_pushStack mixed Tryz.func72 rfl (by kernel_rfl) (by kernel_rfl) (ls_ok (l := []) (by kernel_rfl) .nil) (by intro x; kernel_rfl)
abbrev p_goquery_Selection_Slice : Pt := [(0, .fp (.rc .nps [] 2)), (1, .int .i64), (2, .int .i64)]
abbrev q_goquery_Selection_Slice : Pt := [(0, .fp (.rc .nps [] 2))]
noncomputable def m_goquery_Selection_Slice : Tup p_goquery_Selection_Slice → Option (Tup q_goquery_Selection_Slice) := fun (x : List (Option Nat) × Int × Int) => bif decide (x.2.1 < (0 : Int)) then bif decide (x.2.2 = (9223372036854775807 : Int)) then Option.bind (subL x.1 (IntKind.wrap .i64 (x.2.1 + (↑(List.length x.1) : Int))) (↑(List.length x.1) : Int)) fun (m : List (Option Nat)) => Option.bind (m_goquery_pushStack (x.1, m)) fun (r : List (Option Nat)) => some r else bif decide (x.2.2 < (0 : Int)) then Option.bind (subL x.1 (IntKind.wrap .i64 (x.2.1 + (↑(List.length x.1) : Int))) (IntKind.wrap .i64 (x.2.2 + (↑(List.length x.1) : Int)))) fun (m : List (Option Nat)) => Option.bind (m_goquery_pushStack (x.1, m)) fun (r : List (Option Nat)) => some r else Option.bind (subL x.1 (IntKind.wrap .i64 (x.2.1 + (↑(List.length x.1) : Int))) x.2.2) fun (m : List (Option Nat)) => Option.bind (m_goquery_pushStack (x.1, m)) fun (r : List (Option Nat)) => some r else bif decide (x.2.2 = (9223372036854775807 : Int)) then Option.bind (subL x.1 x.2.1 (↑(List.length x.1) : Int)) fun (m : List (Option Nat)) => Option.bind (m_goquery_pushStack (x.1, m)) fun (r : List (Option Nat)) => some r else bif decide (x.2.2 < (0 : Int)) then Option.bind (subL x.1 x.2.1 (IntKind.wrap .i64 (x.2.2 + (↑(List.length x.1) : Int)))) fun (m : List (Option Nat)) => Option.bind (m_goquery_pushStack (x.1, m)) fun (r : List (Option Nat)) => some r else Option.bind (subL x.1 x.2.1 x.2.2) fun (m : List (Option Nat)) => Option.bind (m_goquery_pushStack (x.1, m)) fun (r : List (Option Nat)) => some r
noncomputable def cx_goquery_Selection_Slice : Cx := ⟨tb, lookE [(72, e_goquery_pushStack)], lookS []⟩
theorem ck_goquery_Selection_Slice : CxOK Tryz.prog (cx_goquery_Selection_Slice) := cx_ok tb_ok (.cons ok_goquery_pushStack Tryz.call72 .nil)
noncomputable def e_goquery_Selection_Slice : Ent := ⟨0, p_goquery_Selection_Slice, q_goquery_Selection_Slice, m_goquery_Selection_Slice⟩
theorem ok_goquery_Selection_Slice : FnOK Tryz.prog 95 e_goquery_Selection_Slice := fn_ok (L := lookL []) ck_goquery_Selection_Slice mixed Tryz.func95 rfl (by kernel_rfl) (by kernel_rfl) (ls_ok (l := []) (by kernel_rfl) .nil) (by intro x; kernel_rfl)
abbrev p_goquery_Selection_Eq_nil : Pt := [(0, .fp (.rc .nps [] 2)), (1, .int .i64)]
abbrev q_goquery_Selection_Eq_nil : Pt := [(0, .fp (.rc .nil [] 2))]
noncomputable def m_goquery_Selection_Eq_nil : Tup p_goquery_Selection_Eq_nil → Option (Tup q_goquery_Selection_Eq_nil) := fun (x : List (Option Nat) × Int) => bif decide (x.2 < (0 : Int)) then bif decide ((↑(List.length x.1) : Int) ≤ IntKind.wrap .i64 (x.2 + (↑(List.length x.1) : Int))) then Option.bind (m_goquery_newEmptySelection ()) fun (r : PUnit) => some () else bif decide (IntKind.wrap .i64 (x.2 + (↑(List.length x.1) : Int)) < (0 : Int)) then Option.bind (m_goquery_newEmptySelection ()) fun (r : PUnit) => some () else Option.bind (m_goquery_Selection_Slice (x.1, IntKind.wrap .i64 (x.2 + (↑(List.length x.1) : Int)), IntKind.wrap .i64 (IntKind.wrap .i64 (x.2 + (↑(List.length x.1) : Int)) + (1 : Int)))) fun (r : List (Option Nat)) => none else bif decide ((↑(List.length x.1) : Int) ≤ x.2) then Option.bind (m_goquery_newEmptySelection ()) fun (r : PUnit) => some () else bif decide (x.2 < (0 : Int)) then Option.bind (m_goquery_newEmptySelection ()) fun (r : PUnit) => some () else Option.bind (m_goquery_Selection_Slice (x.1, x.2, IntKind.wrap .i64 (x.2 + (1 : Int)))) fun (r : List (Option Nat)) => none
noncomputable def cx_goquery_Selection_Eq_nil : Cx := ⟨tb, lookE [(79, e_goquery_newEmptySelection), (95, e_goquery_Selection_Slice)], lookS []⟩
theorem ck_goquery_Selection_Eq_nil : CxOK Tryz.prog (cx_goquery_Selection_Eq_nil) := cx_ok tb_ok (.cons ok_goquery_newEmptySelection Tryz.call79 (.cons ok_goquery_Selection_Slice Tryz.call95 .nil))
noncomputable def e_goquery_Selection_Eq_nil : Ent := ⟨0, p_goquery_Selection_Eq_nil, q_goquery_Selection_Eq_nil, m_goquery_Selection_Eq_nil⟩
theorem ok_goquery_Selection_Eq_nil : FnOK Tryz.prog 71 e_goquery_Selection_Eq_nil := fn_ok (L := lookL []) ck_goquery_Selection_Eq_nil mixed Tryz.func71 rfl (by kernel_rfl) (by kernel_rfl) (ls_ok (l := []) (by kernel_rfl) .nil) (by intro x; kernel_rfl)
abbrev p_goquery_indexInSlice : Pt := [(0, .lst .np), (1, .np)]
abbrev q_goquery_indexInSlice : Pt := [(0, .int .i64)]
abbrev p_goquery_indexInSlice_0 : Pt := [(1, .np), (9, .lst .np), (10, .int .i64), (11, .int .i64)]
abbrev x_goquery_indexInSlice_0 : List (Xt × Pt) := [(.ex 0, []), (.rt, [(4, .int .i64)])]
noncomputable def m_goquery_indexInSlice_0 : Tup p_goquery_indexInSlice_0 → Option (Stp (Tup p_goquery_indexInSlice_0) (SumT (x_goquery_indexInSlice_0.map (·.2)))) := fun (x : Option Nat × List (Option Nat) × Int × Int) => bif decide (x.2.2.2 < x.2.2.1) then Option.bind (atI x.2.1 x.2.2.2) fun (v : Option Nat) => bif decide (v = x.1) then some (Stp.out (Sum.inr x.2.2.2)) else some (Stp.nx (x.1, x.2.1, x.2.2.1, IntKind.wrap .i64 (x.2.2.2 + (1 : Int)))) else some (Stp.out (Sum.inl ()))
noncomputable def m_goquery_indexInSlice : Tup p_goquery_indexInSlice → Option (Tup q_goquery_indexInSlice) := fun (x : List (Option Nat) × Option Nat) => bif !Option.isNone x.2 then Option.bind (loopO m_goquery_indexInSlice_0 (x.2, x.1, (↑(List.length x.1) : Int), (0 : Int))) fun (y : PUnit ⊕ Int) => selim (fun (y : PUnit) => some (-1 : Int)) (fun (y : Int) => some y) y else some (-1 : Int)
noncomputable def cx_goquery_indexInSlice : Cx := ⟨tb, lookE [], lookS []⟩
theorem ck_goquery_indexInSlice : CxOK Tryz.prog (cx_goquery_indexInSlice) := cx_ok tb_ok .nil
noncomputable def c_goquery_indexInSlice_0 : Code := loopAt (Go.Proofs.Tryz.f104.body.getD .skip) 0
noncomputable def l_goquery_indexInSlice_0 : LEnt := ⟨p_goquery_indexInSlice_0, x_goquery_indexInSlice_0, loopO (m_goquery_indexInSlice_0)⟩
theorem lo_goquery_indexInSlice_0 : LOK Tryz.prog 21 0 false (l_goquery_indexInSlice_0) c_goquery_indexInSlice_0 := loop_ok (body := m_goquery_indexInSlice_0) (L := lookL []) (ck_goquery_indexInSlice) mixed (ls_ok (l := []) (by kernel_rfl) .nil) (by intro x; kernel_rfl) (fun x y h => loopO_iff.1 h)
noncomputable def e_goquery_indexInSlice : Ent := ⟨0, p_goquery_indexInSlice, q_goquery_indexInSlice, m_goquery_indexInSlice⟩
theorem ok_goquery_indexInSlice : FnOK Tryz.prog 104 e_goquery_indexInSlice := fn_ok (L := lookL [(0, l_goquery_indexInSlice_0)]) ck_goquery_indexInSlice mixed Tryz.func104 rfl (by kernel_rfl) (by kernel_rfl) (ls_ok (l := [(0, c_goquery_indexInSlice_0)]) (by kernel_rfl) (.cons rfl (lo_goquery_indexInSlice_0) .nil)) (by intro x; kernel_rfl)
abbrev p_goquery_isInSlice : Pt := [(0, .lst .np), (1, .np)]
abbrev q_goquery_isInSlice : Pt := [(0, .bool)]
noncomputable def m_goquery_isInSlice : Tup p_goquery_isInSlice → Option (Tup q_goquery_isInSlice) := fun (x : List (Option Nat) × Option Nat) => Option.bind (m_goquery_indexInSlice (x.1, x.2)) fun (r : Int) => some (decide ((-1 : Int) < r))
noncomputable def cx_goquery_isInSlice : Cx := ⟨tb, lookE [(104, e_goquery_indexInSlice)], lookS []⟩
theorem ck_goquery_isInSlice : CxOK Tryz.prog (cx_goquery_isInSlice) := cx_ok tb_ok (.cons ok_goquery_indexInSlice Tryz.call104 .nil)
noncomputable def e_goquery_isInSlice : Ent := ⟨0, p_goquery_isInSlice, q_goquery_isInSlice, m_goquery_isInSlice⟩
theorem ok_goquery_isInSlice : FnOK Tryz.prog 96 e_goquery_isInSlice := fn_ok (L := lookL []) ck_goquery_isInSlice mixed Tryz.func96 rfl (by kernel_rfl) (by kernel_rfl) (ls_ok (l := []) (by kernel_rfl) .nil) (by intro x; kernel_rfl)
abbrev p_goquery_appendWithoutDuplicates_small : Pt := [(0, .own .np 70), (1, .lst .np), (2, .mnil)]
abbrev q_goquery_appendWithoutDuplicates_small : Pt := [(0, .own .np 70)]
abbrev p_goquery_appendWithoutDuplicates_small_0 : Pt := [(0, .own .np 70), (23, .lst .np), (24, .int .i64), (25, .int .i64)]
abbrev x_goquery_appendWithoutDuplicates_small_0 : List (Xt × Pt) := [(.ex 0, [(0, .own .np 70)])]
noncomputable def m_goquery_appendWithoutDuplicates_small_0 : Tup p_goquery_appendWithoutDuplicates_small_0 → Option (Stp (Tup p_goquery_appendWithoutDuplicates_small_0) (SumT (x_goquery_appendWithoutDuplicates_small_0.map (·.2)))) := fun (x : List (Option Nat) × List (Option Nat) × Int × Int) => bif decide (x.2.2.2 < x.2.2.1) then Option.bind (atI x.2.1 x.2.2.2) fun (v : Option Nat) => Option.bind (m_goquery_isInSlice (x.1, v)) fun (r : Bool) => bif !r then Option.bind (appL x.1 [v]) fun (r : List (Option Nat)) => some (Stp.nx (r, x.2.1, x.2.2.1, IntKind.wrap .i64 (x.2.2.2 + (1 : Int)))) else some (Stp.nx (x.1, x.2.1, x.2.2.1, IntKind.wrap .i64 (x.2.2.2 + (1 : Int)))) else some (Stp.out x.1)
abbrev p_goquery_appendWithoutDuplicates_small_1 : Pt := [(0, .own .np 70), (1, .lst .np), (2, .mnil), (47, .al 0), (48, .int .i64), (49, .int .i64)]
abbrev x_goquery_appendWithoutDuplicates_small_1 : List (Xt × Pt) := [(.ex 2, [(0, .own .np 70), (1, .lst .np), (2, .mnil)])]
noncomputable def m_goquery_appendWithoutDuplicates_small_1 : Tup p_goquery_appendWithoutDuplicates_small_1 → Option (Stp (Tup p_goquery_appendWithoutDuplicates_small_1) (SumT (x_goquery_appendWithoutDuplicates_small_1.map (·.2)))) := fun (x : List (Option Nat) × List (Option Nat) × PUnit × PUnit × Int × Int) => bif decide (x.2.2.2.2.2 < x.2.2.2.2.1) then Option.bind (atI x.1 x.2.2.2.2.2) fun (x_1 : Option Nat) => Option.bind x.1[Int.toNat x.2.2.2.2.2]? fun (v : Option Nat) => none else some (Stp.out (x.1, x.2.1, ()))
abbrev p_goquery_appendWithoutDuplicates_small_2 : Pt := [(0, .own .np 70), (2, .mnil), (56, .lst .np), (57, .int .i64), (58, .int .i64)]
abbrev x_goquery_appendWithoutDuplicates_small_2 : List (Xt × Pt) := [(.ex 4, [(0, .own .np 70)])]
noncomputable def m_goquery_appendWithoutDuplicates_small_2 : Tup p_goquery_appendWithoutDuplicates_small_2 → Option (Stp (Tup p_goquery_appendWithoutDuplicates_small_2) (SumT (x_goquery_appendWithoutDuplicates_small_2.map (·.2)))) := fun (x : List (Option Nat) × PUnit × List (Option Nat) × Int × Int) => bif decide (x.2.2.2.2 < x.2.2.2.1) then Option.bind (atI x.2.2.1 x.2.2.2.2) fun (v : Option Nat) => Option.bind (appL x.1 [v]) fun (r : List (Option Nat)) => none else some (Stp.out x.1)
noncomputable def m_goquery_appendWithoutDuplicates_small : Tup p_goquery_appendWithoutDuplicates_small → Option (Tup q_goquery_appendWithoutDuplicates_small) := fun (x : List (Option Nat) × List (Option Nat) × PUnit) => bif decide (IntKind.wrap .i64 ((↑(List.length x.1) : Int) + (↑(List.length x.2.1) : Int)) < (1000 : Int)) then Option.bind (loopO m_goquery_appendWithoutDuplicates_small_0 (x.1, x.2.1, (↑(List.length x.2.1) : Int), (0 : Int))) fun (y : List (Option Nat)) => some y else none
noncomputable def cx_goquery_appendWithoutDuplicates_small : Cx := ⟨tb, lookE [(96, e_goquery_isInSlice)], lookS []⟩
theorem ck_goquery_appendWithoutDuplicates_small : CxOK Tryz.prog (cx_goquery_appendWithoutDuplicates_small) := cx_ok tb_ok (.cons ok_goquery_isInSlice Tryz.call96 .nil)
noncomputable def c_goquery_appendWithoutDuplicates_small_0 : Code := loopAt (Go.Proofs.Tryz.f82.body.getD .skip) 0
noncomputable def l_goquery_appendWithoutDuplicates_small_0 : LEnt := ⟨p_goquery_appendWithoutDuplicates_small_0, x_goquery_appendWithoutDuplicates_small_0, loopO (m_goquery_appendWithoutDuplicates_small_0)⟩
theorem lo_goquery_appendWithoutDuplicates_small_0 : LOK Tryz.prog 74 0 false (l_goquery_appendWithoutDuplicates_small_0) c_goquery_appendWithoutDuplicates_small_0 := loop_ok (body := m_goquery_appendWithoutDuplicates_small_0) (L := lookL []) (ck_goquery_appendWithoutDuplicates_small) mixed (ls_ok (l := []) (by kernel_rfl) .nil) (by intro x; kernel_rfl) (fun x y h => loopO_iff.1 h)
noncomputable def c_goquery_appendWithoutDuplicates_small_1 : Code := loopAt (Go.Proofs.Tryz.f82.body.getD .skip) 1
noncomputable def l_goquery_appendWithoutDuplicates_small_1 : LEnt := ⟨p_goquery_appendWithoutDuplicates_small_1, x_goquery_appendWithoutDuplicates_small_1, loopO (m_goquery_appendWithoutDuplicates_small_1)⟩
theorem lo_goquery_appendWithoutDuplicates_small_1 : LOK Tryz.prog 74 0 false (l_goquery_appendWithoutDuplicates_small_1) c_goquery_appendWithoutDuplicates_small_1 := loop_ok (body := m_goquery_appendWithoutDuplicates_small_1) (L := lookL []) (ck_goquery_appendWithoutDuplicates_small) mixed (ls_ok (l := []) (by kernel_rfl) .nil) (by intro x; kernel_rfl) (fun x y h => loopO_iff.1 h)
noncomputable def c_goquery_appendWithoutDuplicates_small_2 : Code := loopAt (Go.Proofs.Tryz.f82.body.getD .skip) 2
noncomputable def l_goquery_appendWithoutDuplicates_small_2 : LEnt := ⟨p_goquery_appendWithoutDuplicates_small_2, x_goquery_appendWithoutDuplicates_small_2, loopO (m_goquery_appendWithoutDuplicates_small_2)⟩
theorem lo_goquery_appendWithoutDuplicates_small_2 : LOK Tryz.prog 74 0 false (l_goquery_appendWithoutDuplicates_small_2) c_goquery_appendWithoutDuplicates_small_2 := loop_ok (body := m_goquery_appendWithoutDuplicates_small_2) (L := lookL []) (ck_goquery_appendWithoutDuplicates_small) mixed (ls_ok (l := []) (by kernel_rfl) .nil) (by intro x; kernel_rfl) (fun x y h => loopO_iff.1 h)
noncomputable def e_goquery_appendWithoutDuplicates_small : Ent := ⟨0, p_goquery_appendWithoutDuplicates_small, q_goquery_appendWithoutDuplicates_small, m_goquery_appendWithoutDuplicates_small⟩
theorem ok_goquery_appendWithoutDuplicates_small : FnOK Tryz.prog 82 e_goquery_appendWithoutDuplicates_small := fn_ok (L := lookL [(0, l_goquery_appendWithoutDuplicates_small_0), (2, l_goquery_appendWithoutDuplicates_small_1), (4, l_goquery_appendWithoutDuplicates_small_2)]) ck_goquery_appendWithoutDuplicates_small mixed Tryz.func82 rfl (by kernel_rfl) (by kernel_rfl) (ls_ok (l := [(0, c_goquery_appendWithoutDuplicates_small_0), (2, c_goquery_appendWithoutDuplicates_small_1), (4, c_goquery_appendWithoutDuplicates_small_2)]) (by kernel_rfl) (.cons rfl (lo_goquery_appendWithoutDuplicates_small_0) (.cons rfl (lo_goquery_appendWithoutDuplicates_small_1) (.cons rfl (lo_goquery_appendWithoutDuplicates_small_2) .nil)))) (by intro x; kernel_rfl)
end Go.Proofs.YtfjhibplplcjjaaGreat.V
set_option linter.unusedVariables false
set_option linter.unusedSimpArgs false
namespace Go.Proofs.YtfjhibplplcjjaaGreat.V
open Go
theorem loop_find {X B α : Type} {body : X → Option (Stp X B)} (l : List α) (p : α → Bool) (st : Nat → X) (no : B) (yes : Nat → B)
    (hs : ∀ k v, l[k]? = some v → body (st k) = some (if p v then .out (yes k) else .nx (st (k + 1)))) (he : body (st l.length) = some (.out no)) :
    loopO body (st 0) = some (match l.findIdx? p with | some i => yes i | none => no) := by
  have key : ∀ m k, l.length - k = m → k ≤ l.length → loopO body (st k) = some (match (l.drop k).findIdx? p with | some i => yes (k + i) | none => no) := by
    intro m
    induction m with
    | zero =>
      intro k hm hk
      have : k = l.length := by omega
      subst this
      rw [loopO_out he, List.drop_length]
      rfl
    | succ m ih =>
      intro k hm hk
      obtain ⟨v, hv⟩ := get_lt (l := l) (k := k) (by omega)
      have hd : l.drop k = v :: l.drop (k + 1) := by
        obtain ⟨h1, h2⟩ := List.getElem?_eq_some_iff.1 hv
        rw [← h2]
        exact List.drop_eq_getElem_cons h1
      have h := hs k v hv
      rw [hd, List.findIdx?_cons]
      cases hp : p v with
      | true =>
        rw [hp] at h
        rw [loopO_out h]
        simp
      | false =>
        rw [hp] at h
        rw [loopO_nx h, ih (k + 1) (by omega) (by omega)]
        simp only [Bool.false_eq_true, if_false]
        cases (l.drop (k + 1)).findIdx? p with
        | none => rfl
        | some i => simp only [Option.map_some]; rw [show k + 1 + i = k + (i + 1) by omega]
  have h := key l.length 0 (by omega) (Nat.zero_le _)
  rw [h, List.drop_zero]
  cases l.findIdx? p with
  | none => rfl
  | some i => simp
structure Asc (t : List Node) (l : List Int) : Prop where
  bd : ∀ (i : Nat) (v : Int), l[i]? = some v → 0 ≤ v ∧ v < t.length
  up : ∀ (i : Nat) (v w : Int), l[i]? = some v → l[i + 1]? = some w → v < w
theorem order_ex (t : List Node) (l : List Int) (hl : l.length ≤ 2147483647) : ∃ b, m_spec_Order (t, l) = some b ∧ (b = true → Asc t l) := by
  simp only [m_spec_Order]
  obtain ⟨y, h, q1, q2⟩ := loopO_rule (body := m_spec_Order_0) (fun x => ∃ k : Nat, x = (t, l, (k : Int)) ∧ k ≤ l.length ∧ (∀ (i : Nat) (v : Int), i < k → l[i]? = some v → 0 ≤ v ∧ v < t.length) ∧ ∀ (i : Nat) (v w : Int), i + 1 < k → l[i]? = some v → l[i + 1]? = some w → v < w) (fun _ y => (y = .inl () → Asc t l) ∧ ∀ b, y = .inr b → b = false) (fun x => ((l.length : Int) - x.2.2).toNat) (fun x hx => by
    obtain ⟨k, rfl, hk, h1, h2⟩ := hx
    simp only [m_spec_Order_0, cond_dec, atI_nat]
    split
    · rename_i h3
      obtain ⟨v, hv⟩ := get_lt (l := l) (k := k) (by omega)
      rw [hv]
      simp only [bind_some]
      split
      · exact .inl ⟨_, rfl, (fun h => by cases h), fun b h => by cases h; rfl⟩
      · split
        · exact .inl ⟨_, rfl, (fun h => by cases h), fun b h => by cases h; rfl⟩
        · rename_i h4 h5
          have n1 : ∀ (i : Nat) (u : Int), i < k + 1 → l[i]? = some u → 0 ≤ u ∧ u < t.length := fun i u hi hu => by
            by_cases e : i = k
            · subst e; rw [hv] at hu; cases hu; omega
            · exact h1 i u (by omega) hu
          rw [w64 (n := (k : Int) + 1) (by omega) (by omega)]
          split
          · rename_i h6
            obtain ⟨j, rfl⟩ : ∃ j, k = j + 1 := ⟨k - 1, by omega⟩
            obtain ⟨u, hu⟩ := get_lt (l := l) (k := j) (by omega)
            have e : IntKind.wrap .i64 (((j + 1 : Nat) : Int) - 1) = (j : Int) := by rw [w64 (by omega) (by omega)]; omega
            rw [e, atI_nat, hu, bind_some]
            split
            · exact .inl ⟨_, rfl, (fun h => by cases h), fun b h => by cases h; rfl⟩
            · refine .inr ⟨_, rfl, ⟨j + 1 + 1, rfl, by omega, n1, fun i a b hi ha hb => ?_⟩, by simp only; omega, fun _ h => h⟩
              by_cases e : i = j
              · subst e; rw [hu] at ha; rw [hv] at hb; cases ha; cases hb; omega
              · exact h2 i a b (by omega) ha hb
          · have : k = 0 := by omega
            subst this
            exact .inr ⟨_, rfl, ⟨0 + 1, rfl, by omega, n1, fun i a b hi => by omega⟩, by simp only; omega, fun _ h => h⟩
    · have : k = l.length := by omega
      subst this
      exact .inl ⟨_, rfl, (fun _ => ⟨fun i v hv => h1 i v (List.getElem?_eq_some_iff.1 hv).1 hv, fun i v w hv hw => h2 i v w (List.getElem?_eq_some_iff.1 hw).1 hv hw⟩), fun b h => by cases h⟩) (t, l, (0 : Int)) ⟨0, rfl, Nat.zero_le _, fun i v hi => by omega, fun i v w hi => by omega⟩
  rw [h, bind_some]
  rcases y with u | b
  · exact ⟨_, rfl, fun _ => q1 rfl⟩
  · obtain rfl := q2 b rfl
    exact ⟨_, rfl, fun h => by cases h⟩
section
variable {t : List Node} {l : List Int}
theorem Asc.lt (h : Asc t l) : ∀ {j i : Nat} {v w : Int}, i < j → l[i]? = some v → l[j]? = some w → v < w := by
  intro j
  induction j with
  | zero => intro i v w hi; omega
  | succ j ih =>
    intro i v w hi hv hw
    have hj := (List.getElem?_eq_some_iff.1 hw).1
    obtain ⟨u, hu⟩ := get_lt (l := l) (k := j) (by omega)
    have h1 := h.up j u w hu hw
    by_cases e : i = j
    · subst e; rw [hv] at hu; cases hu; exact h1
    · have := ih (by omega) hv hu; omega
theorem Asc.ge (h : Asc t l) : ∀ {i : Nat} {v : Int}, l[i]? = some v → (i : Int) ≤ v := by
  intro i
  induction i with
  | zero => intro v hv; exact (h.bd 0 v hv).1
  | succ i ih =>
    intro v hv
    have hj := (List.getElem?_eq_some_iff.1 hv).1
    obtain ⟨u, hu⟩ := get_lt (l := l) (k := i) (by omega)
    have h1 := h.up i u v hu hv
    have := ih hu
    omega
theorem Asc.len (h : Asc t l) : l.length ≤ t.length := by
  rcases Nat.eq_zero_or_pos l.length with h0 | h0
  · omega
  · obtain ⟨v, hv⟩ := get_lt (l := l) (k := l.length - 1) (by omega)
    have h1 := h.ge hv
    have h2 := (h.bd _ _ hv).2
    omega
end
def pts (l : List Int) : List (Option Nat) := l.map fun v => some v.toNat
theorem pts_get {l : List Int} {i : Nat} : (pts l)[i]? = (l[i]?).map fun v => some v.toNat := by simp [pts]
theorem pts_len (l : List Int) : (pts l).length = l.length := by simp [pts]
theorem these_eq (t : List Node) (l : List Int) (hl : l.length ≤ 2147483647) (h : ∀ (i : Nat) (v : Int), l[i]? = some v → 0 ≤ v ∧ v < t.length) : m_impl_these (ptrs t, l) = some (pts l, true) := by
  simp only [m_impl_these]
  have key : ∀ m k, l.length - k = m → k ≤ l.length → loopO m_impl_these_0 (ptrs t, pts (l.take k), l, (l.length : Int), (k : Int)) = some (.inl (pts l)) := by
    intro m
    induction m with
    | zero =>
      intro k hm hk
      refine loopO_out ?_
      simp only [m_impl_these_0, cond_dec]
      rw [if_neg (by omega), List.take_of_length_le (by omega)]
    | succ m ih =>
      intro k hm hk
      obtain ⟨v, hv⟩ := get_lt (l := l) (k := k) (by omega)
      obtain ⟨h1, h2⟩ := h k v hv
      obtain ⟨a, rfl⟩ := Int.eq_ofNat_of_zero_le h1
      have hlen : (pts (l.take k)).length = k := by rw [pts_len, List.length_take]; omega
      have step : m_impl_these_0 (ptrs t, pts (l.take k), l, (l.length : Int), (k : Int)) = some (.nx (ptrs t, pts (l.take (k + 1)), l, (l.length : Int), ((k + 1 : Nat) : Int))) := by
        simp only [m_impl_these_0, cond_dec, atI_nat]
        rw [if_pos (by omega), hv]
        simp only [bind_some, ptrs_len]
        rw [if_neg (by omega), if_neg (by omega), atI_nat, ptrs_get (by omega), bind_some, appL_some (by rw [hlen]; simp; omega), bind_some, w64 (by omega) (by omega), List.take_add_one, hv]
        simp [pts]
      rw [loopO_nx step]
      exact ih (k + 1) (by omega) (by omega)
  rw [show loopO m_impl_these_0 (ptrs t, [], l, (l.length : Int), (0 : Int)) = _ from key l.length 0 (by omega) (Nat.zero_le _), bind_some]
  rfl
def pos (l : List (Option Nat)) (v : Option Nat) : Int := match l.findIdx? (fun x => decide (x = v)) with
  | some i => (i : Int)
  | none => -1
theorem indexIn_eq (l : List (Option Nat)) (n : Nat) (hl : l.length ≤ 2147483647) : m_goquery_indexInSlice (l, some n) = some (pos l (some n)) := by
  simp only [m_goquery_indexInSlice, Option.isNone_some, Bool.not_false, cond_true]
  have h := loop_find (body := m_goquery_indexInSlice_0) l (fun x => decide (x = some n)) (fun k => (some n, l, (l.length : Int), (k : Int))) (.inl ()) (fun k => .inr (k : Int)) (fun k v hv => by
    have hk := (List.getElem?_eq_some_iff.1 hv).1
    simp only [m_goquery_indexInSlice_0, cond_dec, atI_nat]
    rw [if_pos (by omega), hv, bind_some, w64 (by omega) (by omega)]
    by_cases e : v = some n
    · rw [if_pos e]; simp [e]
    · rw [if_neg e]; simp [e]) (by
    simp only [m_goquery_indexInSlice_0, cond_dec]
    rw [if_neg (by omega)])
  rw [show loopO m_goquery_indexInSlice_0 (some n, l, (l.length : Int), (0 : Int)) = _ from h, bind_some]
  unfold pos
  cases l.findIdx? (fun x => decide (x = some n)) <;> rfl
theorem placeOf_eq (l : List (Option Nat)) (v : Option Nat) (hl : l.length ≤ 2147483647) : m_impl_placeOf (l, v) = some (pos l v) := by
  simp only [m_impl_placeOf]
  have h := loop_find (body := m_impl_placeOf_0) l (fun x => decide (x = v)) (fun k => (l, v, (l.length : Int), (k : Int))) (.inl ()) (fun k => .inr (k : Int)) (fun k u hv => by
    have hk := (List.getElem?_eq_some_iff.1 hv).1
    simp only [m_impl_placeOf_0, cond_dec, atI_nat]
    rw [if_pos (by omega), hv, bind_some, w64 (by omega) (by omega)]
    by_cases e : u = v
    · rw [if_pos e]; simp [e]
    · rw [if_neg e]; simp [e]) (by
    simp only [m_impl_placeOf_0, cond_dec]
    rw [if_neg (by omega)])
  rw [show loopO m_impl_placeOf_0 (l, v, (l.length : Int), (0 : Int)) = _ from h, bind_some]
  unfold pos
  cases l.findIdx? (fun x => decide (x = v)) <;> rfl
theorem pos_some {l : List (Option Nat)} {v : Option Nat} {i : Nat} (h : l[i]? = some v) (hn : ∀ j, j < i → l[j]? ≠ some v) : pos l v = (i : Int) := by
  unfold pos
  obtain ⟨hi, he⟩ := List.getElem?_eq_some_iff.1 h
  have : l.findIdx? (fun x => decide (x = v)) = some i := by
    rw [List.findIdx?_eq_some_iff_getElem]
    refine ⟨hi, by simp [he], fun j hj => ?_⟩
    have := hn j hj
    rw [List.getElem?_eq_getElem (by omega)] at this
    simpa using this
  rw [this]
theorem pos_none {l : List (Option Nat)} {v : Option Nat} (h : v ∉ l) : pos l v = -1 := by
  unfold pos
  have : l.findIdx? (fun x => decide (x = v)) = none := by
    rw [List.findIdx?_eq_none_iff]
    intro x hx
    have : x ≠ v := fun e => h (e ▸ hx)
    simpa using this
  rw [this]
theorem pos_mem {l : List (Option Nat)} {v : Option Nat} : -1 < pos l v ↔ v ∈ l := by
  constructor
  · intro h
    apply Decidable.byContradiction
    intro hn
    rw [pos_none hn] at h
    omega
  · intro h
    unfold pos
    cases hf : l.findIdx? (fun x => decide (x = v)) with
    | none =>
      rw [List.findIdx?_eq_none_iff] at hf
      have := hf v h
      simp at this
    | some i => simp only; omega
theorem pos_ptrs {t : List Node} {a : Nat} (h : a < t.length) : pos (ptrs t) (some a) = (a : Int) := pos_some (ptrs_get h) fun j hj => by
  rw [ptrs_get (by omega)]
  simp
  omega
theorem isIn_eq (l : List (Option Nat)) (n : Nat) (hl : l.length ≤ 2147483647) : m_goquery_isInSlice (l, some n) = some (decide (some n ∈ l)) := by
  simp only [m_goquery_isInSlice, indexIn_eq l n hl, bind_some]
  congr 1
  rw [decide_eq_decide]
  exact pos_mem
theorem appSmall_eq (l : List Int) (hl : l.length < 1000) (hn : ∀ (i j : Nat) (v w : Int), i < j → l[i]? = some v → l[j]? = some w → v.toNat ≠ w.toNat) : m_goquery_appendWithoutDuplicates_small ([], pts l, ()) = some (pts l) := by
  simp only [m_goquery_appendWithoutDuplicates_small, cond_dec, List.length_nil, pts_len]
  rw [w64 (by omega) (by omega), if_pos (by omega)]
  have key : ∀ m k, l.length - k = m → k ≤ l.length → loopO m_goquery_appendWithoutDuplicates_small_0 (pts (l.take k), pts l, (l.length : Int), (k : Int)) = some (pts l) := by
    intro m
    induction m with
    | zero =>
      intro k hm hk
      refine loopO_out ?_
      simp only [m_goquery_appendWithoutDuplicates_small_0, cond_dec]
      rw [if_neg (by omega), List.take_of_length_le (by omega)]
    | succ m ih =>
      intro k hm hk
      obtain ⟨v, hv⟩ := get_lt (l := l) (k := k) (by omega)
      have hlen : (pts (l.take k)).length = k := by rw [pts_len, List.length_take]; omega
      have hnot : some v.toNat ∉ pts (l.take k) := fun hm => by
        obtain ⟨i, hi⟩ := List.mem_iff_getElem?.1 hm
        rw [pts_get] at hi
        cases hu : (l.take k)[i]? with
        | none => rw [hu] at hi; cases hi
        | some u =>
          rw [hu] at hi
          have hik : i < k := by
            have := (List.getElem?_eq_some_iff.1 hu).1
            rw [List.length_take] at this; omega
          rw [List.getElem?_take, if_pos hik] at hu
          have := hn i k u v hik hu hv
          simp at hi
          exact this hi
      have step : m_goquery_appendWithoutDuplicates_small_0 (pts (l.take k), pts l, (l.length : Int), (k : Int)) = some (.nx (pts (l.take (k + 1)), pts l, (l.length : Int), ((k + 1 : Nat) : Int))) := by
        simp only [m_goquery_appendWithoutDuplicates_small_0, cond_dec, atI_nat]
        rw [if_pos (by omega), pts_get, hv]
        simp only [Option.map_some, bind_some]
        rw [isIn_eq _ _ (by omega), bind_some, decide_eq_false hnot]
        simp only [Bool.not_false, cond_true]
        rw [appL_some (by rw [hlen]; simp; omega), bind_some, w64 (by omega) (by omega), List.take_add_one, hv]
        simp [pts]
      rw [loopO_nx step]
      exact ih (k + 1) (by omega) (by omega)
  rw [show loopO m_goquery_appendWithoutDuplicates_small_0 ([], pts l, (l.length : Int), (0 : Int)) = _ from key l.length 0 (by omega) (Nat.zero_le _), bind_some]
end Go.Proofs.YtfjhibplplcjjaaGreat.V
set_option linter.unusedVariables false
set_option linter.unusedSimpArgs false
namespace Go.Proofs.YtfjhibplplcjjaaGreat.V
open Go
theorem in_eq (l : List Int) (v : Int) (hl : l.length ≤ 2147483647) : m_spec_in (l, v) = some (decide (v ∈ l)) := by
  simp only [m_spec_in]
  have h := loop_all (body := m_spec_in_0) l (fun x => !decide (x = v)) (fun k => (l, v, (k : Int))) (.inl ()) (.inr true) (fun k u hu => by
    have hk := (List.getElem?_eq_some_iff.1 hu).1
    simp only [m_spec_in_0, cond_dec, atI_nat]
    rw [if_pos (by omega), hu, bind_some, w64 (by omega) (by omega)]
    by_cases e : u = v
    · rw [if_pos e, decide_eq_true e]; rfl
    · rw [if_neg e, decide_eq_false e]; rfl) (by
    simp only [m_spec_in_0, cond_dec]
    rw [if_neg (by omega)]) 0 (Nat.zero_le _)
  rw [show loopO m_spec_in_0 (l, v, (0 : Int)) = _ from h, bind_some, List.drop_zero]
  have e : (l.all fun x => !decide (x = v)) = !decide (v ∈ l) := by
    rw [Bool.eq_iff_iff]
    simp only [List.all_eq_true, Bool.not_eq_true', decide_eq_false_iff_not]
    constructor
    · intro h hv; exact h v hv rfl
    · intro h x hx e; exact h (e ▸ hx)
  rw [e]
  cases decide (v ∈ l) <;> rfl
theorem sameList_refl (l : List Int) (hl : l.length ≤ 2147483647) : m_spec_SameList (l, l) = some true := by
  simp only [m_spec_SameList, cond_dec]
  rw [if_neg (by simp)]
  have h := loop_all (body := m_spec_SameList_0) l (fun _ => true) (fun k => (l, l, (k : Int))) (.inl ()) (.inr false) (fun k u hu => by
    have hk := (List.getElem?_eq_some_iff.1 hu).1
    simp only [m_spec_SameList_0, cond_dec, atI_nat]
    rw [if_pos (by omega), hu]
    simp only [bind_some]
    rw [if_neg (by simp), w64 (by omega) (by omega)]
    rfl) (by
    simp only [m_spec_SameList_0, cond_dec]
    rw [if_neg (by omega)]) 0 (Nat.zero_le _)
  rw [show loopO m_spec_SameList_0 (l, l, (0 : Int)) = _ from h, bind_some]
  simp [selim_l]
theorem placesOf_eq (t : List Node) (ht : t.length ≤ 1000000) (l : List Int) (hl : l.length ≤ 1000000) (h : ∀ v ∈ l, 0 ≤ v ∧ v < t.length) : m_impl_placesOf (ptrs t, pts l) = some l := by
  simp only [m_impl_placesOf, pts_len]
  have key : ∀ m k, l.length - k = m → k ≤ l.length → loopO m_impl_placesOf_0 (ptrs t, l.take k, pts l, (l.length : Int), (k : Int)) = some l := by
    intro m
    induction m with
    | zero =>
      intro k hm hk
      refine loopO_out ?_
      simp only [m_impl_placesOf_0, cond_dec]
      rw [if_neg (by omega), List.take_of_length_le (by omega)]
    | succ m ih =>
      intro k hm hk
      obtain ⟨v, hv⟩ := get_lt (l := l) (k := k) (by omega)
      obtain ⟨b1, b2⟩ := h v (List.mem_of_getElem? hv)
      obtain ⟨a, rfl⟩ := Int.eq_ofNat_of_zero_le b1
      have step : m_impl_placesOf_0 (ptrs t, l.take k, pts l, (l.length : Int), (k : Int)) = some (.nx (ptrs t, l.take (k + 1), pts l, (l.length : Int), ((k + 1 : Nat) : Int))) := by
        simp only [m_impl_placesOf_0, cond_dec, atI_nat]
        rw [if_pos (by omega), pts_get, hv]
        simp only [Option.map_some, bind_some, Int.toNat_natCast]
        rw [placeOf_eq _ _ (by rw [ptrs_len]; omega), bind_some, pos_ptrs (by omega), appL_some (by simp; omega), bind_some, w64 (by omega) (by omega), List.take_add_one, hv]
        rfl
      rw [loopO_nx step]
      exact ih (k + 1) (by omega) (by omega)
  rw [show loopO m_impl_placesOf_0 (ptrs t, [], pts l, (l.length : Int), (0 : Int)) = _ from key l.length 0 (by omega) (Nat.zero_le _), bind_some]
theorem asc_nodup {t : List Node} {w : List Int} (hW : Asc t w) : w.Nodup := by
  rw [List.Nodup, List.pairwise_iff_getElem]
  intro i j hi hj hij e
  have := hW.lt hij (List.getElem?_eq_getElem hi) (List.getElem?_eq_getElem hj)
  omega
end Go.Proofs.YtfjhibplplcjjaaGreat.V
