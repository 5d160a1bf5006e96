/-
  The types of the translation, as a table (written by a program).
-/
import Derived.Test.YtpedmnlpccngiaaDoorKFresh
import Derived.Test.YtpedmnlpccngiaaDoorProg
set_option linter.unusedVariables false
set_option linter.unusedSimpArgs false
namespace Go.Proofs.YtpedmnlpccngiaaDoor.V
open Go Go.Proofs
theorem tiok {P : Program} {T : TypeId} {t : TI} {i : TypeInfo} (u : UndOK P T t.sh) (s : ∀ w, (sizeOf T).run P w = .ok t.size w) (a : ∀ w, (isAgg T).run P w = .ok t.agg w) (z : ∀ w, (zeroValue T).run P w = .ok t.zv w) (c : t.zv.cells.size = t.size) (f : ∀ w, (typeInfo T).run P w = .ok i w) (b : i.bytes = t.bytes) (e : t.el = some .attr → AttrEq P T) (e2 : t.el = some .sel → SelEq P T) : TIok P T t := ⟨u, s, a, z, c, ⟨i, f, b⟩, e, e2⟩
def TbAll (P : Program) : Nat → List (Option TI) → Prop
  | _, [] => True
  | k, none :: l => TbAll P (k + 1) l
  | k, some t :: l => TIok P k t ∧ TbAll P (k + 1) l
theorem tb_of {P : Program} : ∀ {l : List (Option TI)} {k : Nat}, TbAll P k l → ∀ (T : Nat) (t : TI), l[T]? = some (some t) → TIok P (k + T) t
  | [], _, _, T, t, h => by simp at h
  | none :: l, k, hl, T, t, h => by
    match T with
    | 0 => simp at h
    | T + 1 =>
      have := tb_of (k := k + 1) hl T t (by simpa using h)
      rwa [Nat.add_assoc, Nat.add_comm 1 T] at this
  | some t0 :: l, k, hl, T, t, h => by
    match T with
    | 0 => simp at h; subst h; exact hl.1
    | T + 1 =>
      have := tb_of (k := k + 1) hl.2 T t (by simpa using h)
      rwa [Nat.add_assoc, Nat.add_comm 1 T] at this
noncomputable def i0 : TI := ⟨.other, 1, Bool.false, (Value.tuple #[]), 0, none⟩
theorem k0 : TIok Tryd.prog 0 i0 := tiok (by exact trivial) Tryd.sizeOf0 Tryd.isAgg0 Tryd.zeroValue0 rfl Tryd.typeInfo0 rfl (fun h => by have h' : (none : Option E) = some .attr := h; cases h') (fun h => by have h' : (none : Option E) = some .sel := h; cases h')
noncomputable def i1 : TI := ⟨.func, 1, Bool.false, Value.nilFunc, 8, none⟩
theorem k1 : TIok Tryd.prog 1 i1 := tiok (by exact ⟨_, _, _, Tryd.underlying1⟩) Tryd.sizeOf1 Tryd.isAgg1 Tryd.zeroValue1 rfl Tryd.typeInfo1 rfl (fun h => by have h' : (none : Option E) = some .attr := h; cases h') (fun h => by have h' : (none : Option E) = some .sel := h; cases h')
noncomputable def i2 : TI := ⟨.int .i64, 1, Bool.false, (Value.int IntKind.i64 0), 8, none⟩
theorem k2 : TIok Tryd.prog 2 i2 := tiok (by exact Tryd.underlying2) Tryd.sizeOf2 Tryd.isAgg2 Tryd.zeroValue2 rfl Tryd.typeInfo2 rfl (fun h => by have h' : (none : Option E) = some .attr := h; cases h') (fun h => by have h' : (none : Option E) = some .sel := h; cases h')
noncomputable def i3 : TI := ⟨.int .i64, 1, Bool.false, (Value.int IntKind.i64 0), 8, some .int⟩
theorem k3 : TIok Tryd.prog 3 i3 := tiok (by exact Tryd.underlying3) Tryd.sizeOf3 Tryd.isAgg3 Tryd.zeroValue3 rfl Tryd.typeInfo3 rfl (fun h => by have h' : (some .int : Option E) = some .attr := h; cases h') (fun h => by have h' : (some .int : Option E) = some .sel := h; cases h')
noncomputable def i4 : TI := ⟨.bool, 1, Bool.false, (Value.bool Bool.false), 1, some .bool⟩
theorem k4 : TIok Tryd.prog 4 i4 := tiok (by exact Tryd.underlying4) Tryd.sizeOf4 Tryd.isAgg4 Tryd.zeroValue4 rfl Tryd.typeInfo4 rfl (fun h => by have h' : (some .bool : Option E) = some .attr := h; cases h') (fun h => by have h' : (some .bool : Option E) = some .sel := h; cases h')
noncomputable def i5 : TI := ⟨.int .u8, 1, Bool.false, (Value.int IntKind.u8 0), 1, some .u8⟩
theorem k5 : TIok Tryd.prog 5 i5 := tiok (by exact Tryd.underlying5) Tryd.sizeOf5 Tryd.isAgg5 Tryd.zeroValue5 rfl Tryd.typeInfo5 rfl (fun h => by have h' : (some .u8 : Option E) = some .attr := h; cases h') (fun h => by have h' : (some .u8 : Option E) = some .sel := h; cases h')
noncomputable def i6 : TI := ⟨.int .u8, 1, Bool.false, (Value.int IntKind.u8 0), 1, none⟩
theorem k6 : TIok Tryd.prog 6 i6 := tiok (by exact Tryd.underlying6) Tryd.sizeOf6 Tryd.isAgg6 Tryd.zeroValue6 rfl Tryd.typeInfo6 rfl (fun h => by have h' : (none : Option E) = some .attr := h; cases h') (fun h => by have h' : (none : Option E) = some .sel := h; cases h')
noncomputable def i7 : TI := ⟨.struct [(2, 0), (3, 1), (4, 2), (6, 3)], 4, Bool.true, (Value.agg #[Value.int IntKind.i64 0, Value.int IntKind.i64 0, Value.bool Bool.false, Value.int IntKind.u8 0]), 24, none⟩
theorem k7 : TIok Tryd.prog 7 i7 := tiok (by exact ⟨_, Tryd.underlying7, rfl⟩) Tryd.sizeOf7 Tryd.isAgg7 Tryd.zeroValue7 rfl Tryd.typeInfo7 rfl (fun h => by have h' : (none : Option E) = some .attr := h; cases h') (fun h => by have h' : (none : Option E) = some .sel := h; cases h')
noncomputable def i8 : TI := ⟨.struct [(2, 0), (3, 1), (4, 2), (6, 3)], 4, Bool.true, (Value.agg #[Value.int IntKind.i64 0, Value.int IntKind.i64 0, Value.bool Bool.false, Value.int IntKind.u8 0]), 24, none⟩
theorem k8 : TIok Tryd.prog 8 i8 := tiok (by exact ⟨_, Tryd.underlying8, rfl⟩) Tryd.sizeOf8 Tryd.isAgg8 Tryd.zeroValue8 rfl Tryd.typeInfo8 rfl (fun h => by have h' : (none : Option E) = some .attr := h; cases h') (fun h => by have h' : (none : Option E) = some .sel := h; cases h')
noncomputable def i9 : TI := ⟨.str, 1, Bool.false, (Value.string { data := #[] }), 16, some .str⟩
theorem k9 : TIok Tryd.prog 9 i9 := tiok (by exact Tryd.underlying9) Tryd.sizeOf9 Tryd.isAgg9 Tryd.zeroValue9 rfl Tryd.typeInfo9 rfl (fun h => by have h' : (some .str : Option E) = some .attr := h; cases h') (fun h => by have h' : (some .str : Option E) = some .sel := h; cases h')
noncomputable def i10 : TI := ⟨.str, 1, Bool.false, (Value.string { data := #[] }), 16, none⟩
theorem k10 : TIok Tryd.prog 10 i10 := tiok (by exact Tryd.underlying10) Tryd.sizeOf10 Tryd.isAgg10 Tryd.zeroValue10 rfl Tryd.typeInfo10 rfl (fun h => by have h' : (none : Option E) = some .attr := h; cases h') (fun h => by have h' : (none : Option E) = some .sel := h; cases h')
noncomputable def i11 : TI := ⟨.str, 1, Bool.false, (Value.string { data := #[] }), 16, none⟩
theorem k11 : TIok Tryd.prog 11 i11 := tiok (by exact Tryd.underlying11) Tryd.sizeOf11 Tryd.isAgg11 Tryd.zeroValue11 rfl Tryd.typeInfo11 rfl (fun h => by have h' : (none : Option E) = some .attr := h; cases h') (fun h => by have h' : (none : Option E) = some .sel := h; cases h')
noncomputable def i12 : TI := ⟨.int .u64, 1, Bool.false, (Value.int IntKind.u64 0), 8, none⟩
theorem k12 : TIok Tryd.prog 12 i12 := tiok (by exact Tryd.underlying12) Tryd.sizeOf12 Tryd.isAgg12 Tryd.zeroValue12 rfl Tryd.typeInfo12 rfl (fun h => by have h' : (none : Option E) = some .attr := h; cases h') (fun h => by have h' : (none : Option E) = some .sel := h; cases h')
noncomputable def i13 : TI := ⟨.struct [(9, 0), (12, 1)], 2, Bool.true, (Value.agg #[Value.string { data := #[] }, Value.int IntKind.u64 0]), 24, none⟩
theorem k13 : TIok Tryd.prog 13 i13 := tiok (by exact ⟨_, Tryd.underlying13, rfl⟩) Tryd.sizeOf13 Tryd.isAgg13 Tryd.zeroValue13 rfl Tryd.typeInfo13 rfl (fun h => by have h' : (none : Option E) = some .attr := h; cases h') (fun h => by have h' : (none : Option E) = some .sel := h; cases h')
noncomputable def i14 : TI := ⟨.struct [(9, 0), (12, 1)], 2, Bool.true, (Value.agg #[Value.string { data := #[] }, Value.int IntKind.u64 0]), 24, none⟩
theorem k14 : TIok Tryd.prog 14 i14 := tiok (by exact ⟨_, Tryd.underlying14, rfl⟩) Tryd.sizeOf14 Tryd.isAgg14 Tryd.zeroValue14 rfl Tryd.typeInfo14 rfl (fun h => by have h' : (none : Option E) = some .attr := h; cases h') (fun h => by have h' : (none : Option E) = some .sel := h; cases h')
noncomputable def i15 : TI := ⟨.ptr 125, 1, Bool.false, (Value.pointer Option.none), 8, none⟩
theorem k15 : TIok Tryd.prog 15 i15 := tiok (by exact Tryd.underlying15) Tryd.sizeOf15 Tryd.isAgg15 Tryd.zeroValue15 rfl Tryd.typeInfo15 rfl (fun h => by have h' : (none : Option E) = some .attr := h; cases h') (fun h => by have h' : (none : Option E) = some .sel := h; cases h')
noncomputable def i16 : TI := ⟨.ptr 128, 1, Bool.false, (Value.pointer Option.none), 8, none⟩
theorem k16 : TIok Tryd.prog 16 i16 := tiok (by exact Tryd.underlying16) Tryd.sizeOf16 Tryd.isAgg16 Tryd.zeroValue16 rfl Tryd.typeInfo16 rfl (fun h => by have h' : (none : Option E) = some .attr := h; cases h') (fun h => by have h' : (none : Option E) = some .sel := h; cases h')
noncomputable def i17 : TI := ⟨.ptr 135, 1, Bool.false, (Value.pointer Option.none), 8, none⟩
theorem k17 : TIok Tryd.prog 17 i17 := tiok (by exact Tryd.underlying17) Tryd.sizeOf17 Tryd.isAgg17 Tryd.zeroValue17 rfl Tryd.typeInfo17 rfl (fun h => by have h' : (none : Option E) = some .attr := h; cases h') (fun h => by have h' : (none : Option E) = some .sel := h; cases h')
noncomputable def i18 : TI := ⟨.struct [(17, 0)], 1, Bool.true, (Value.agg #[Value.pointer Option.none]), 8, none⟩
theorem k18 : TIok Tryd.prog 18 i18 := tiok (by exact ⟨_, Tryd.underlying18, rfl⟩) Tryd.sizeOf18 Tryd.isAgg18 Tryd.zeroValue18 rfl Tryd.typeInfo18 rfl (fun h => by have h' : (none : Option E) = some .attr := h; cases h') (fun h => by have h' : (none : Option E) = some .sel := h; cases h')
noncomputable def i19 : TI := ⟨.struct [(17, 0)], 1, Bool.true, (Value.agg #[Value.pointer Option.none]), 8, none⟩
theorem k19 : TIok Tryd.prog 19 i19 := tiok (by exact ⟨_, Tryd.underlying19, rfl⟩) Tryd.sizeOf19 Tryd.isAgg19 Tryd.zeroValue19 rfl Tryd.typeInfo19 rfl (fun h => by have h' : (none : Option E) = some .attr := h; cases h') (fun h => by have h' : (none : Option E) = some .sel := h; cases h')
noncomputable def i20 : TI := ⟨.iface, 1, Bool.false, Value.nilIface, 16, none⟩
theorem k20 : TIok Tryd.prog 20 i20 := tiok (by exact ⟨_, Tryd.underlying20⟩) Tryd.sizeOf20 Tryd.isAgg20 Tryd.zeroValue20 rfl Tryd.typeInfo20 rfl (fun h => by have h' : (none : Option E) = some .attr := h; cases h') (fun h => by have h' : (none : Option E) = some .sel := h; cases h')
noncomputable def i21 : TI := ⟨.int .i32, 1, Bool.false, (Value.int IntKind.i32 0), 4, some (.rc (.int .i32) [] 0)⟩
theorem k21 : TIok Tryd.prog 21 i21 := tiok (by exact Tryd.underlying21) Tryd.sizeOf21 Tryd.isAgg21 Tryd.zeroValue21 rfl Tryd.typeInfo21 rfl (fun h => by have h' : (some (.rc (.int .i32) [] 0) : Option E) = some .attr := h; cases h') (fun h => by have h' : (some (.rc (.int .i32) [] 0) : Option E) = some .sel := h; cases h')
noncomputable def i22 : TI := ⟨.slice 33, 1, Bool.false, (Value.slice Option.none 0 0), 24, some (.rc .nodes [] 0)⟩
theorem k22 : TIok Tryd.prog 22 i22 := tiok (by exact Tryd.underlying22) Tryd.sizeOf22 Tryd.isAgg22 Tryd.zeroValue22 rfl Tryd.typeInfo22 rfl (fun h => by have h' : (some (.rc .nodes [] 0) : Option E) = some .attr := h; cases h') (fun h => by have h' : (some (.rc .nodes [] 0) : Option E) = some .sel := h; cases h')
noncomputable def i23 : TI := ⟨.slice 3, 1, Bool.false, (Value.slice Option.none 0 0), 24, some (.rc .ints [] 0)⟩
theorem k23 : TIok Tryd.prog 23 i23 := tiok (by exact Tryd.underlying23) Tryd.sizeOf23 Tryd.isAgg23 Tryd.zeroValue23 rfl Tryd.typeInfo23 rfl (fun h => by have h' : (some (.rc .ints [] 0) : Option E) = some .attr := h; cases h') (fun h => by have h' : (some (.rc .ints [] 0) : Option E) = some .sel := h; cases h')
noncomputable def i24 : TI := ⟨.func, 1, Bool.false, Value.nilFunc, 8, none⟩
theorem k24 : TIok Tryd.prog 24 i24 := tiok (by exact ⟨_, _, _, Tryd.underlying24⟩) Tryd.sizeOf24 Tryd.isAgg24 Tryd.zeroValue24 rfl Tryd.typeInfo24 rfl (fun h => by have h' : (none : Option E) = some .attr := h; cases h') (fun h => by have h' : (none : Option E) = some .sel := h; cases h')
noncomputable def i25 : TI := ⟨.func, 1, Bool.false, Value.nilFunc, 8, none⟩
theorem k25 : TIok Tryd.prog 25 i25 := tiok (by exact ⟨_, _, _, Tryd.underlying25⟩) Tryd.sizeOf25 Tryd.isAgg25 Tryd.zeroValue25 rfl Tryd.typeInfo25 rfl (fun h => by have h' : (none : Option E) = some .attr := h; cases h') (fun h => by have h' : (none : Option E) = some .sel := h; cases h')
noncomputable def i26 : TI := ⟨.other, 1, Bool.false, (Value.tuple #[Value.string { data := #[] }, Value.bool Bool.false]), 0, none⟩
theorem k26 : TIok Tryd.prog 26 i26 := tiok (by exact trivial) Tryd.sizeOf26 Tryd.isAgg26 Tryd.zeroValue26 rfl Tryd.typeInfo26 rfl (fun h => by have h' : (none : Option E) = some .attr := h; cases h') (fun h => by have h' : (none : Option E) = some .sel := h; cases h')
noncomputable def i27 : TI := ⟨.func, 1, Bool.false, Value.nilFunc, 8, none⟩
theorem k27 : TIok Tryd.prog 27 i27 := tiok (by exact ⟨_, _, _, Tryd.underlying27⟩) Tryd.sizeOf27 Tryd.isAgg27 Tryd.zeroValue27 rfl Tryd.typeInfo27 rfl (fun h => by have h' : (none : Option E) = some .attr := h; cases h') (fun h => by have h' : (none : Option E) = some .sel := h; cases h')
noncomputable def i28 : TI := ⟨.func, 1, Bool.false, Value.nilFunc, 8, none⟩
theorem k28 : TIok Tryd.prog 28 i28 := tiok (by exact ⟨_, _, _, Tryd.underlying28⟩) Tryd.sizeOf28 Tryd.isAgg28 Tryd.zeroValue28 rfl Tryd.typeInfo28 rfl (fun h => by have h' : (none : Option E) = some .attr := h; cases h') (fun h => by have h' : (none : Option E) = some .sel := h; cases h')
noncomputable def i29 : TI := ⟨.func, 1, Bool.false, Value.nilFunc, 8, none⟩
theorem k29 : TIok Tryd.prog 29 i29 := tiok (by exact ⟨_, _, _, Tryd.underlying29⟩) Tryd.sizeOf29 Tryd.isAgg29 Tryd.zeroValue29 rfl Tryd.typeInfo29 rfl (fun h => by have h' : (none : Option E) = some .attr := h; cases h') (fun h => by have h' : (none : Option E) = some .sel := h; cases h')
noncomputable def i30 : TI := ⟨.func, 1, Bool.false, Value.nilFunc, 8, none⟩
theorem k30 : TIok Tryd.prog 30 i30 := tiok (by exact ⟨_, _, _, Tryd.underlying30⟩) Tryd.sizeOf30 Tryd.isAgg30 Tryd.zeroValue30 rfl Tryd.typeInfo30 rfl (fun h => by have h' : (none : Option E) = some .attr := h; cases h') (fun h => by have h' : (none : Option E) = some .sel := h; cases h')
noncomputable def i31 : TI := ⟨.slice 48, 1, Bool.false, (Value.slice Option.none 0 0), 24, none⟩
theorem k31 : TIok Tryd.prog 31 i31 := tiok (by exact Tryd.underlying31) Tryd.sizeOf31 Tryd.isAgg31 Tryd.zeroValue31 rfl Tryd.typeInfo31 rfl (fun h => by have h' : (none : Option E) = some .attr := h; cases h') (fun h => by have h' : (none : Option E) = some .sel := h; cases h')
noncomputable def i32 : TI := ⟨.struct [(3, 0), (9, 1), (9, 2), (31, 3), (3, 4)], 5, Bool.true, (Value.agg #[Value.int IntKind.i64 0, Value.string { data := #[] }, Value.string { data := #[] }, Value.slice Option.none 0 0, Value.int IntKind.i64 0]), 72, none⟩
theorem k32 : TIok Tryd.prog 32 i32 := tiok (by exact ⟨_, Tryd.underlying32, rfl⟩) Tryd.sizeOf32 Tryd.isAgg32 Tryd.zeroValue32 rfl Tryd.typeInfo32 rfl (fun h => by have h' : (none : Option E) = some .attr := h; cases h') (fun h => by have h' : (none : Option E) = some .sel := h; cases h')
noncomputable def i33 : TI := ⟨.struct [(3, 0), (9, 1), (9, 2), (31, 3), (3, 4)], 5, Bool.true, (Value.agg #[Value.int IntKind.i64 0, Value.string { data := #[] }, Value.string { data := #[] }, Value.slice Option.none 0 0, Value.int IntKind.i64 0]), 72, some .node⟩
theorem k33 : TIok Tryd.prog 33 i33 := tiok (by exact ⟨_, Tryd.underlying33, rfl⟩) Tryd.sizeOf33 Tryd.isAgg33 Tryd.zeroValue33 rfl Tryd.typeInfo33 rfl (fun h => by have h' : (some .node : Option E) = some .attr := h; cases h') (fun h => by have h' : (some .node : Option E) = some .sel := h; cases h')
noncomputable def i34 : TI := ⟨.func, 1, Bool.false, Value.nilFunc, 8, none⟩
theorem k34 : TIok Tryd.prog 34 i34 := tiok (by exact ⟨_, _, _, Tryd.underlying34⟩) Tryd.sizeOf34 Tryd.isAgg34 Tryd.zeroValue34 rfl Tryd.typeInfo34 rfl (fun h => by have h' : (none : Option E) = some .attr := h; cases h') (fun h => by have h' : (none : Option E) = some .sel := h; cases h')
noncomputable def i35 : TI := ⟨.func, 1, Bool.false, Value.nilFunc, 8, none⟩
theorem k35 : TIok Tryd.prog 35 i35 := tiok (by exact ⟨_, _, _, Tryd.underlying35⟩) Tryd.sizeOf35 Tryd.isAgg35 Tryd.zeroValue35 rfl Tryd.typeInfo35 rfl (fun h => by have h' : (none : Option E) = some .attr := h; cases h') (fun h => by have h' : (none : Option E) = some .sel := h; cases h')
noncomputable def i36 : TI := ⟨.ptr 89, 1, Bool.false, (Value.pointer Option.none), 8, none⟩
theorem k36 : TIok Tryd.prog 36 i36 := tiok (by exact Tryd.underlying36) Tryd.sizeOf36 Tryd.isAgg36 Tryd.zeroValue36 rfl Tryd.typeInfo36 rfl (fun h => by have h' : (none : Option E) = some .attr := h; cases h') (fun h => by have h' : (none : Option E) = some .sel := h; cases h')
noncomputable def i37 : TI := ⟨.slice 65, 1, Bool.false, (Value.slice Option.none 0 0), 24, some (.rc .nps [] 0)⟩
theorem k37 : TIok Tryd.prog 37 i37 := tiok (by exact Tryd.underlying37) Tryd.sizeOf37 Tryd.isAgg37 Tryd.zeroValue37 rfl Tryd.typeInfo37 rfl (fun h => by have h' : (some (.rc .nps [] 0) : Option E) = some .attr := h; cases h') (fun h => by have h' : (some (.rc .nps [] 0) : Option E) = some .sel := h; cases h')
noncomputable def i38 : TI := ⟨.other, 1, Bool.false, (Value.tuple #[Value.pointer Option.none, Value.slice Option.none 0 0, Value.bool Bool.false]), 0, none⟩
theorem k38 : TIok Tryd.prog 38 i38 := tiok (by exact trivial) Tryd.sizeOf38 Tryd.isAgg38 Tryd.zeroValue38 rfl Tryd.typeInfo38 rfl (fun h => by have h' : (none : Option E) = some .attr := h; cases h') (fun h => by have h' : (none : Option E) = some .sel := h; cases h')
noncomputable def i39 : TI := ⟨.func, 1, Bool.false, Value.nilFunc, 8, none⟩
theorem k39 : TIok Tryd.prog 39 i39 := tiok (by exact ⟨_, _, _, Tryd.underlying39⟩) Tryd.sizeOf39 Tryd.isAgg39 Tryd.zeroValue39 rfl Tryd.typeInfo39 rfl (fun h => by have h' : (none : Option E) = some .attr := h; cases h') (fun h => by have h' : (none : Option E) = some .sel := h; cases h')
noncomputable def i40 : TI := ⟨.iface, 1, Bool.false, Value.nilIface, 16, none⟩
theorem k40 : TIok Tryd.prog 40 i40 := tiok (by exact ⟨_, Tryd.underlying40⟩) Tryd.sizeOf40 Tryd.isAgg40 Tryd.zeroValue40 rfl Tryd.typeInfo40 rfl (fun h => by have h' : (none : Option E) = some .attr := h; cases h') (fun h => by have h' : (none : Option E) = some .sel := h; cases h')
noncomputable def i41 : TI := ⟨.iface, 1, Bool.false, Value.nilIface, 16, none⟩
theorem k41 : TIok Tryd.prog 41 i41 := tiok (by exact ⟨_, Tryd.underlying41⟩) Tryd.sizeOf41 Tryd.isAgg41 Tryd.zeroValue41 rfl Tryd.typeInfo41 rfl (fun h => by have h' : (none : Option E) = some .attr := h; cases h') (fun h => by have h' : (none : Option E) = some .sel := h; cases h')
noncomputable def i42 : TI := ⟨.other, 1, Bool.false, (Value.tuple #[Value.string { data := #[] }, Value.nilIface]), 0, none⟩
theorem k42 : TIok Tryd.prog 42 i42 := tiok (by exact trivial) Tryd.sizeOf42 Tryd.isAgg42 Tryd.zeroValue42 rfl Tryd.typeInfo42 rfl (fun h => by have h' : (none : Option E) = some .attr := h; cases h') (fun h => by have h' : (none : Option E) = some .sel := h; cases h')
noncomputable def i43 : TI := ⟨.func, 1, Bool.false, Value.nilFunc, 8, none⟩
theorem k43 : TIok Tryd.prog 43 i43 := tiok (by exact ⟨_, _, _, Tryd.underlying43⟩) Tryd.sizeOf43 Tryd.isAgg43 Tryd.zeroValue43 rfl Tryd.typeInfo43 rfl (fun h => by have h' : (none : Option E) = some .attr := h; cases h') (fun h => by have h' : (none : Option E) = some .sel := h; cases h')
noncomputable def i44 : TI := ⟨.func, 1, Bool.false, Value.nilFunc, 8, none⟩
theorem k44 : TIok Tryd.prog 44 i44 := tiok (by exact ⟨_, _, _, Tryd.underlying44⟩) Tryd.sizeOf44 Tryd.isAgg44 Tryd.zeroValue44 rfl Tryd.typeInfo44 rfl (fun h => by have h' : (none : Option E) = some .attr := h; cases h') (fun h => by have h' : (none : Option E) = some .sel := h; cases h')
noncomputable def i45 : TI := ⟨.func, 1, Bool.false, Value.nilFunc, 8, none⟩
theorem k45 : TIok Tryd.prog 45 i45 := tiok (by exact ⟨_, _, _, Tryd.underlying45⟩) Tryd.sizeOf45 Tryd.isAgg45 Tryd.zeroValue45 rfl Tryd.typeInfo45 rfl (fun h => by have h' : (none : Option E) = some .attr := h; cases h') (fun h => by have h' : (none : Option E) = some .sel := h; cases h')
noncomputable def i46 : TI := ⟨.func, 1, Bool.false, Value.nilFunc, 8, none⟩
theorem k46 : TIok Tryd.prog 46 i46 := tiok (by exact ⟨_, _, _, Tryd.underlying46⟩) Tryd.sizeOf46 Tryd.isAgg46 Tryd.zeroValue46 rfl Tryd.typeInfo46 rfl (fun h => by have h' : (none : Option E) = some .attr := h; cases h') (fun h => by have h' : (none : Option E) = some .sel := h; cases h')
noncomputable def i47 : TI := ⟨.struct [(9, 0), (9, 1)], 2, Bool.true, (Value.agg #[Value.string { data := #[] }, Value.string { data := #[] }]), 32, none⟩
theorem k47 : TIok Tryd.prog 47 i47 := tiok (by exact ⟨_, Tryd.underlying47, rfl⟩) Tryd.sizeOf47 Tryd.isAgg47 Tryd.zeroValue47 rfl Tryd.typeInfo47 rfl (fun h => by have h' : (none : Option E) = some .attr := h; cases h') (fun h => by have h' : (none : Option E) = some .sel := h; cases h')
noncomputable def i48 : TI := ⟨.struct [(9, 0), (9, 1)], 2, Bool.true, (Value.agg #[Value.string { data := #[] }, Value.string { data := #[] }]), 32, some .attr⟩
theorem k48 : TIok Tryd.prog 48 i48 := tiok (by exact ⟨_, Tryd.underlying48, rfl⟩) Tryd.sizeOf48 Tryd.isAgg48 Tryd.zeroValue48 rfl Tryd.typeInfo48 rfl (fun _ => ⟨9, _, _, Tryd.underlying48, by decide, by decide, rfl, rfl, rfl, rfl, Tryd.underlying9, Tryd.isAgg9, by kernel_rfl, by kernel_rfl⟩) (fun h => by have h' : (some .attr : Option E) = some .sel := h; cases h')
noncomputable def i49 : TI := ⟨.func, 1, Bool.false, Value.nilFunc, 8, none⟩
theorem k49 : TIok Tryd.prog 49 i49 := tiok (by exact ⟨_, _, _, Tryd.underlying49⟩) Tryd.sizeOf49 Tryd.isAgg49 Tryd.zeroValue49 rfl Tryd.typeInfo49 rfl (fun h => by have h' : (none : Option E) = some .attr := h; cases h') (fun h => by have h' : (none : Option E) = some .sel := h; cases h')
noncomputable def i50 : TI := ⟨.other, 1, Bool.false, (Value.tuple #[Value.slice Option.none 0 0, Value.bool Bool.false]), 0, none⟩
theorem k50 : TIok Tryd.prog 50 i50 := tiok (by exact trivial) Tryd.sizeOf50 Tryd.isAgg50 Tryd.zeroValue50 rfl Tryd.typeInfo50 rfl (fun h => by have h' : (none : Option E) = some .attr := h; cases h') (fun h => by have h' : (none : Option E) = some .sel := h; cases h')
noncomputable def i51 : TI := ⟨.func, 1, Bool.false, Value.nilFunc, 8, none⟩
theorem k51 : TIok Tryd.prog 51 i51 := tiok (by exact ⟨_, _, _, Tryd.underlying51⟩) Tryd.sizeOf51 Tryd.isAgg51 Tryd.zeroValue51 rfl Tryd.typeInfo51 rfl (fun h => by have h' : (none : Option E) = some .attr := h; cases h') (fun h => by have h' : (none : Option E) = some .sel := h; cases h')
noncomputable def i52 : TI := ⟨.func, 1, Bool.false, Value.nilFunc, 8, none⟩
theorem k52 : TIok Tryd.prog 52 i52 := tiok (by exact ⟨_, _, _, Tryd.underlying52⟩) Tryd.sizeOf52 Tryd.isAgg52 Tryd.zeroValue52 rfl Tryd.typeInfo52 rfl (fun h => by have h' : (none : Option E) = some .attr := h; cases h') (fun h => by have h' : (none : Option E) = some .sel := h; cases h')
noncomputable def i53 : TI := ⟨.ptr 56, 1, Bool.false, (Value.pointer Option.none), 8, none⟩
theorem k53 : TIok Tryd.prog 53 i53 := tiok (by exact Tryd.underlying53) Tryd.sizeOf53 Tryd.isAgg53 Tryd.zeroValue53 rfl Tryd.typeInfo53 rfl (fun h => by have h' : (none : Option E) = some .attr := h; cases h') (fun h => by have h' : (none : Option E) = some .sel := h; cases h')
noncomputable def i54 : TI := ⟨.slice 5, 1, Bool.false, (Value.slice Option.none 0 0), 24, none⟩
theorem k54 : TIok Tryd.prog 54 i54 := tiok (by exact Tryd.underlying54) Tryd.sizeOf54 Tryd.isAgg54 Tryd.zeroValue54 rfl Tryd.typeInfo54 rfl (fun h => by have h' : (none : Option E) = some .attr := h; cases h') (fun h => by have h' : (none : Option E) = some .sel := h; cases h')
noncomputable def i55 : TI := ⟨.struct [(53, 0), (54, 1)], 2, Bool.true, (Value.agg #[Value.pointer Option.none, Value.slice Option.none 0 0]), 32, none⟩
theorem k55 : TIok Tryd.prog 55 i55 := tiok (by exact ⟨_, Tryd.underlying55, rfl⟩) Tryd.sizeOf55 Tryd.isAgg55 Tryd.zeroValue55 rfl Tryd.typeInfo55 rfl (fun h => by have h' : (none : Option E) = some .attr := h; cases h') (fun h => by have h' : (none : Option E) = some .sel := h; cases h')
noncomputable def i56 : TI := ⟨.struct [(53, 0), (54, 1)], 2, Bool.true, (Value.agg #[Value.pointer Option.none, Value.slice Option.none 0 0]), 32, none⟩
theorem k56 : TIok Tryd.prog 56 i56 := tiok (by exact ⟨_, Tryd.underlying56, rfl⟩) Tryd.sizeOf56 Tryd.isAgg56 Tryd.zeroValue56 rfl Tryd.typeInfo56 rfl (fun h => by have h' : (none : Option E) = some .attr := h; cases h') (fun h => by have h' : (none : Option E) = some .sel := h; cases h')
noncomputable def i57 : TI := ⟨.func, 1, Bool.false, Value.nilFunc, 8, none⟩
theorem k57 : TIok Tryd.prog 57 i57 := tiok (by exact ⟨_, _, _, Tryd.underlying57⟩) Tryd.sizeOf57 Tryd.isAgg57 Tryd.zeroValue57 rfl Tryd.typeInfo57 rfl (fun h => by have h' : (none : Option E) = some .attr := h; cases h') (fun h => by have h' : (none : Option E) = some .sel := h; cases h')
noncomputable def i58 : TI := ⟨.func, 1, Bool.false, Value.nilFunc, 8, none⟩
theorem k58 : TIok Tryd.prog 58 i58 := tiok (by exact ⟨_, _, _, Tryd.underlying58⟩) Tryd.sizeOf58 Tryd.isAgg58 Tryd.zeroValue58 rfl Tryd.typeInfo58 rfl (fun h => by have h' : (none : Option E) = some .attr := h; cases h') (fun h => by have h' : (none : Option E) = some .sel := h; cases h')
noncomputable def i59 : TI := ⟨.func, 1, Bool.false, Value.nilFunc, 8, none⟩
theorem k59 : TIok Tryd.prog 59 i59 := tiok (by exact ⟨_, _, _, Tryd.underlying59⟩) Tryd.sizeOf59 Tryd.isAgg59 Tryd.zeroValue59 rfl Tryd.typeInfo59 rfl (fun h => by have h' : (none : Option E) = some .attr := h; cases h') (fun h => by have h' : (none : Option E) = some .sel := h; cases h')
noncomputable def i60 : TI := ⟨.func, 1, Bool.false, Value.nilFunc, 8, none⟩
theorem k60 : TIok Tryd.prog 60 i60 := tiok (by exact ⟨_, _, _, Tryd.underlying60⟩) Tryd.sizeOf60 Tryd.isAgg60 Tryd.zeroValue60 rfl Tryd.typeInfo60 rfl (fun h => by have h' : (none : Option E) = some .attr := h; cases h') (fun h => by have h' : (none : Option E) = some .sel := h; cases h')
noncomputable def i61 : TI := ⟨.func, 1, Bool.false, Value.nilFunc, 8, none⟩
theorem k61 : TIok Tryd.prog 61 i61 := tiok (by exact ⟨_, _, _, Tryd.underlying61⟩) Tryd.sizeOf61 Tryd.isAgg61 Tryd.zeroValue61 rfl Tryd.typeInfo61 rfl (fun h => by have h' : (none : Option E) = some .attr := h; cases h') (fun h => by have h' : (none : Option E) = some .sel := h; cases h')
noncomputable def i62 : TI := ⟨.func, 1, Bool.false, Value.nilFunc, 8, none⟩
theorem k62 : TIok Tryd.prog 62 i62 := tiok (by exact ⟨_, _, _, Tryd.underlying62⟩) Tryd.sizeOf62 Tryd.isAgg62 Tryd.zeroValue62 rfl Tryd.typeInfo62 rfl (fun h => by have h' : (none : Option E) = some .attr := h; cases h') (fun h => by have h' : (none : Option E) = some .sel := h; cases h')
noncomputable def i63 : TI := ⟨.ptr 68, 1, Bool.false, (Value.pointer Option.none), 8, none⟩
theorem k63 : TIok Tryd.prog 63 i63 := tiok (by exact Tryd.underlying63) Tryd.sizeOf63 Tryd.isAgg63 Tryd.zeroValue63 rfl Tryd.typeInfo63 rfl (fun h => by have h' : (none : Option E) = some .attr := h; cases h') (fun h => by have h' : (none : Option E) = some .sel := h; cases h')
noncomputable def i64 : TI := ⟨.func, 1, Bool.false, Value.nilFunc, 8, none⟩
theorem k64 : TIok Tryd.prog 64 i64 := tiok (by exact ⟨_, _, _, Tryd.underlying64⟩) Tryd.sizeOf64 Tryd.isAgg64 Tryd.zeroValue64 rfl Tryd.typeInfo64 rfl (fun h => by have h' : (none : Option E) = some .attr := h; cases h') (fun h => by have h' : (none : Option E) = some .sel := h; cases h')
noncomputable def i65 : TI := ⟨.ptr 105, 1, Bool.false, (Value.pointer Option.none), 8, some .np⟩
theorem k65 : TIok Tryd.prog 65 i65 := tiok (by exact Tryd.underlying65) Tryd.sizeOf65 Tryd.isAgg65 Tryd.zeroValue65 rfl Tryd.typeInfo65 rfl (fun h => by have h' : (some .np : Option E) = some .attr := h; cases h') (fun h => by have h' : (some .np : Option E) = some .sel := h; cases h')
noncomputable def i66 : TI := ⟨.func, 1, Bool.false, Value.nilFunc, 8, none⟩
theorem k66 : TIok Tryd.prog 66 i66 := tiok (by exact ⟨_, _, _, Tryd.underlying66⟩) Tryd.sizeOf66 Tryd.isAgg66 Tryd.zeroValue66 rfl Tryd.typeInfo66 rfl (fun h => by have h' : (none : Option E) = some .attr := h; cases h') (fun h => by have h' : (none : Option E) = some .sel := h; cases h')
noncomputable def i67 : TI := ⟨.struct [(36, 0), (65, 1)], 2, Bool.true, (Value.agg #[Value.pointer Option.none, Value.pointer Option.none]), 16, none⟩
theorem k67 : TIok Tryd.prog 67 i67 := tiok (by exact ⟨_, Tryd.underlying67, rfl⟩) Tryd.sizeOf67 Tryd.isAgg67 Tryd.zeroValue67 rfl Tryd.typeInfo67 rfl (fun h => by have h' : (none : Option E) = some .attr := h; cases h') (fun h => by have h' : (none : Option E) = some .sel := h; cases h')
noncomputable def i68 : TI := ⟨.struct [(36, 0), (65, 1)], 2, Bool.true, (Value.agg #[Value.pointer Option.none, Value.pointer Option.none]), 16, some (.rc .fsel [.np] 0)⟩
theorem k68 : TIok Tryd.prog 68 i68 := tiok (by exact ⟨_, Tryd.underlying68, rfl⟩) Tryd.sizeOf68 Tryd.isAgg68 Tryd.zeroValue68 rfl Tryd.typeInfo68 rfl (fun h => by have h' : (some (.rc .fsel [.np] 0) : Option E) = some .attr := h; cases h') (fun h => by have h' : (some (.rc .fsel [.np] 0) : Option E) = some .sel := h; cases h')
noncomputable def i69 : TI := ⟨.func, 1, Bool.false, Value.nilFunc, 8, none⟩
theorem k69 : TIok Tryd.prog 69 i69 := tiok (by exact ⟨_, _, _, Tryd.underlying69⟩) Tryd.sizeOf69 Tryd.isAgg69 Tryd.zeroValue69 rfl Tryd.typeInfo69 rfl (fun h => by have h' : (none : Option E) = some .attr := h; cases h') (fun h => by have h' : (none : Option E) = some .sel := h; cases h')
noncomputable def i70 : TI := ⟨.iface, 1, Bool.false, Value.nilIface, 16, none⟩
theorem k70 : TIok Tryd.prog 70 i70 := tiok (by exact ⟨_, Tryd.underlying70⟩) Tryd.sizeOf70 Tryd.isAgg70 Tryd.zeroValue70 rfl Tryd.typeInfo70 rfl (fun h => by have h' : (none : Option E) = some .attr := h; cases h') (fun h => by have h' : (none : Option E) = some .sel := h; cases h')
noncomputable def i71 : TI := ⟨.iface, 1, Bool.false, Value.nilIface, 16, none⟩
theorem k71 : TIok Tryd.prog 71 i71 := tiok (by exact ⟨_, Tryd.underlying71⟩) Tryd.sizeOf71 Tryd.isAgg71 Tryd.zeroValue71 rfl Tryd.typeInfo71 rfl (fun h => by have h' : (none : Option E) = some .attr := h; cases h') (fun h => by have h' : (none : Option E) = some .sel := h; cases h')
noncomputable def i72 : TI := ⟨.func, 1, Bool.false, Value.nilFunc, 8, none⟩
theorem k72 : TIok Tryd.prog 72 i72 := tiok (by exact ⟨_, _, _, Tryd.underlying72⟩) Tryd.sizeOf72 Tryd.isAgg72 Tryd.zeroValue72 rfl Tryd.typeInfo72 rfl (fun h => by have h' : (none : Option E) = some .attr := h; cases h') (fun h => by have h' : (none : Option E) = some .sel := h; cases h')
noncomputable def i73 : TI := ⟨.func, 1, Bool.false, Value.nilFunc, 8, none⟩
theorem k73 : TIok Tryd.prog 73 i73 := tiok (by exact ⟨_, _, _, Tryd.underlying73⟩) Tryd.sizeOf73 Tryd.isAgg73 Tryd.zeroValue73 rfl Tryd.typeInfo73 rfl (fun h => by have h' : (none : Option E) = some .attr := h; cases h') (fun h => by have h' : (none : Option E) = some .sel := h; cases h')
noncomputable def i74 : TI := ⟨.func, 1, Bool.false, Value.nilFunc, 8, none⟩
theorem k74 : TIok Tryd.prog 74 i74 := tiok (by exact ⟨_, _, _, Tryd.underlying74⟩) Tryd.sizeOf74 Tryd.isAgg74 Tryd.zeroValue74 rfl Tryd.typeInfo74 rfl (fun h => by have h' : (none : Option E) = some .attr := h; cases h') (fun h => by have h' : (none : Option E) = some .sel := h; cases h')
noncomputable def i75 : TI := ⟨.ptr 5, 1, Bool.false, (Value.pointer Option.none), 8, none⟩
theorem k75 : TIok Tryd.prog 75 i75 := tiok (by exact Tryd.underlying75) Tryd.sizeOf75 Tryd.isAgg75 Tryd.zeroValue75 rfl Tryd.typeInfo75 rfl (fun h => by have h' : (none : Option E) = some .attr := h; cases h') (fun h => by have h' : (none : Option E) = some .sel := h; cases h')
noncomputable def i76 : TI := ⟨.other, 1, Bool.false, (Value.tuple #[Value.int IntKind.i64 0, Value.int IntKind.i64 0]), 0, none⟩
theorem k76 : TIok Tryd.prog 76 i76 := tiok (by exact trivial) Tryd.sizeOf76 Tryd.isAgg76 Tryd.zeroValue76 rfl Tryd.typeInfo76 rfl (fun h => by have h' : (none : Option E) = some .attr := h; cases h') (fun h => by have h' : (none : Option E) = some .sel := h; cases h')
noncomputable def i77 : TI := ⟨.func, 1, Bool.false, Value.nilFunc, 8, none⟩
theorem k77 : TIok Tryd.prog 77 i77 := tiok (by exact ⟨_, _, _, Tryd.underlying77⟩) Tryd.sizeOf77 Tryd.isAgg77 Tryd.zeroValue77 rfl Tryd.typeInfo77 rfl (fun h => by have h' : (none : Option E) = some .attr := h; cases h') (fun h => by have h' : (none : Option E) = some .sel := h; cases h')
noncomputable def i78 : TI := ⟨.func, 1, Bool.false, Value.nilFunc, 8, none⟩
theorem k78 : TIok Tryd.prog 78 i78 := tiok (by exact ⟨_, _, _, Tryd.underlying78⟩) Tryd.sizeOf78 Tryd.isAgg78 Tryd.zeroValue78 rfl Tryd.typeInfo78 rfl (fun h => by have h' : (none : Option E) = some .attr := h; cases h') (fun h => by have h' : (none : Option E) = some .sel := h; cases h')
noncomputable def i79 : TI := ⟨.func, 1, Bool.false, Value.nilFunc, 8, none⟩
theorem k79 : TIok Tryd.prog 79 i79 := tiok (by exact ⟨_, _, _, Tryd.underlying79⟩) Tryd.sizeOf79 Tryd.isAgg79 Tryd.zeroValue79 rfl Tryd.typeInfo79 rfl (fun h => by have h' : (none : Option E) = some .attr := h; cases h') (fun h => by have h' : (none : Option E) = some .sel := h; cases h')
noncomputable def i81 : TI := ⟨.struct [(5, 0), (5, 1)], 2, Bool.true, (Value.agg #[Value.int IntKind.u8 0, Value.int IntKind.u8 0]), 2, none⟩
theorem k81 : TIok Tryd.prog 81 i81 := tiok (by exact ⟨_, Tryd.underlying81, rfl⟩) Tryd.sizeOf81 Tryd.isAgg81 Tryd.zeroValue81 rfl Tryd.typeInfo81 rfl (fun h => by have h' : (none : Option E) = some .attr := h; cases h') (fun h => by have h' : (none : Option E) = some .sel := h; cases h')
noncomputable def i82 : TI := ⟨.struct [(5, 0), (5, 1)], 2, Bool.true, (Value.agg #[Value.int IntKind.u8 0, Value.int IntKind.u8 0]), 2, none⟩
theorem k82 : TIok Tryd.prog 82 i82 := tiok (by exact ⟨_, Tryd.underlying82, rfl⟩) Tryd.sizeOf82 Tryd.isAgg82 Tryd.zeroValue82 rfl Tryd.typeInfo82 rfl (fun h => by have h' : (none : Option E) = some .attr := h; cases h') (fun h => by have h' : (none : Option E) = some .sel := h; cases h')
noncomputable def i83 : TI := ⟨.other, 32, Bool.true, (Value.agg #[Value.int IntKind.u8 0, Value.int IntKind.u8 0, Value.int IntKind.u8 0, Value.int IntKind.u8 0, Value.int IntKind.u8 0, Value.int IntKind.u8 0, Value.int IntKind.u8 0, Value.int IntKind.u8 0, Value.int IntKind.u8 0, Value.int IntKind.u8 0, Value.int IntKind.u8 0, Value.int IntKind.u8 0, Value.int IntKind.u8 0, Value.int IntKind.u8 0, Value.int IntKind.u8 0, Value.int IntKind.u8 0, Value.int IntKind.u8 0, Value.int IntKind.u8 0, Value.int IntKind.u8 0, Value.int IntKind.u8 0, Value.int IntKind.u8 0, Value.int IntKind.u8 0, Value.int IntKind.u8 0, Value.int IntKind.u8 0, Value.int IntKind.u8 0, Value.int IntKind.u8 0, Value.int IntKind.u8 0, Value.int IntKind.u8 0, Value.int IntKind.u8 0, Value.int IntKind.u8 0, Value.int IntKind.u8 0, Value.int IntKind.u8 0]), 32, none⟩
theorem k83 : TIok Tryd.prog 83 i83 := tiok (by exact trivial) Tryd.sizeOf83 Tryd.isAgg83 Tryd.zeroValue83 rfl Tryd.typeInfo83 rfl (fun h => by have h' : (none : Option E) = some .attr := h; cases h') (fun h => by have h' : (none : Option E) = some .sel := h; cases h')
noncomputable def i84 : TI := ⟨.int .u64, 1, Bool.false, (Value.int IntKind.u64 0), 8, none⟩
theorem k84 : TIok Tryd.prog 84 i84 := tiok (by exact Tryd.underlying84) Tryd.sizeOf84 Tryd.isAgg84 Tryd.zeroValue84 rfl Tryd.typeInfo84 rfl (fun h => by have h' : (none : Option E) = some .attr := h; cases h') (fun h => by have h' : (none : Option E) = some .sel := h; cases h')
noncomputable def i85 : TI := ⟨.func, 1, Bool.false, Value.nilFunc, 8, none⟩
theorem k85 : TIok Tryd.prog 85 i85 := tiok (by exact ⟨_, _, _, Tryd.underlying85⟩) Tryd.sizeOf85 Tryd.isAgg85 Tryd.zeroValue85 rfl Tryd.typeInfo85 rfl (fun h => by have h' : (none : Option E) = some .attr := h; cases h') (fun h => by have h' : (none : Option E) = some .sel := h; cases h')
noncomputable def i86 : TI := ⟨.func, 1, Bool.false, Value.nilFunc, 8, none⟩
theorem k86 : TIok Tryd.prog 86 i86 := tiok (by exact ⟨_, _, _, Tryd.underlying86⟩) Tryd.sizeOf86 Tryd.isAgg86 Tryd.zeroValue86 rfl Tryd.typeInfo86 rfl (fun h => by have h' : (none : Option E) = some .attr := h; cases h') (fun h => by have h' : (none : Option E) = some .sel := h; cases h')
noncomputable def i87 : TI := ⟨.func, 1, Bool.false, Value.nilFunc, 8, none⟩
theorem k87 : TIok Tryd.prog 87 i87 := tiok (by exact ⟨_, _, _, Tryd.underlying87⟩) Tryd.sizeOf87 Tryd.isAgg87 Tryd.zeroValue87 rfl Tryd.typeInfo87 rfl (fun h => by have h' : (none : Option E) = some .attr := h; cases h') (fun h => by have h' : (none : Option E) = some .sel := h; cases h')
noncomputable def i88 : TI := ⟨.struct [(37, 0), (63, 1), (36, 2)], 3, Bool.true, (Value.agg #[Value.slice Option.none 0 0, Value.pointer Option.none, Value.pointer Option.none]), 40, none⟩
theorem k88 : TIok Tryd.prog 88 i88 := tiok (by exact ⟨_, Tryd.underlying88, rfl⟩) Tryd.sizeOf88 Tryd.isAgg88 Tryd.zeroValue88 rfl Tryd.typeInfo88 rfl (fun h => by have h' : (none : Option E) = some .attr := h; cases h') (fun h => by have h' : (none : Option E) = some .sel := h; cases h')
noncomputable def i89 : TI := ⟨.struct [(37, 0), (63, 1), (36, 2)], 3, Bool.true, (Value.agg #[Value.slice Option.none 0 0, Value.pointer Option.none, Value.pointer Option.none]), 40, some (.rc .nps [] 2)⟩
theorem k89 : TIok Tryd.prog 89 i89 := tiok (by exact ⟨_, Tryd.underlying89, rfl⟩) Tryd.sizeOf89 Tryd.isAgg89 Tryd.zeroValue89 rfl Tryd.typeInfo89 rfl (fun h => by have h' : (some (.rc .nps [] 2) : Option E) = some .attr := h; cases h') (fun h => by have h' : (some (.rc .nps [] 2) : Option E) = some .sel := h; cases h')
noncomputable def i90 : TI := ⟨.func, 1, Bool.false, Value.nilFunc, 8, none⟩
theorem k90 : TIok Tryd.prog 90 i90 := tiok (by exact ⟨_, _, _, Tryd.underlying90⟩) Tryd.sizeOf90 Tryd.isAgg90 Tryd.zeroValue90 rfl Tryd.typeInfo90 rfl (fun h => by have h' : (none : Option E) = some .attr := h; cases h') (fun h => by have h' : (none : Option E) = some .sel := h; cases h')
noncomputable def i91 : TI := ⟨.func, 1, Bool.false, Value.nilFunc, 8, none⟩
theorem k91 : TIok Tryd.prog 91 i91 := tiok (by exact ⟨_, _, _, Tryd.underlying91⟩) Tryd.sizeOf91 Tryd.isAgg91 Tryd.zeroValue91 rfl Tryd.typeInfo91 rfl (fun h => by have h' : (none : Option E) = some .attr := h; cases h') (fun h => by have h' : (none : Option E) = some .sel := h; cases h')
noncomputable def i92 : TI := ⟨.func, 1, Bool.false, Value.nilFunc, 8, none⟩
theorem k92 : TIok Tryd.prog 92 i92 := tiok (by exact ⟨_, _, _, Tryd.underlying92⟩) Tryd.sizeOf92 Tryd.isAgg92 Tryd.zeroValue92 rfl Tryd.typeInfo92 rfl (fun h => by have h' : (none : Option E) = some .attr := h; cases h') (fun h => by have h' : (none : Option E) = some .sel := h; cases h')
noncomputable def i93 : TI := ⟨.func, 1, Bool.false, Value.nilFunc, 8, none⟩
theorem k93 : TIok Tryd.prog 93 i93 := tiok (by exact ⟨_, _, _, Tryd.underlying93⟩) Tryd.sizeOf93 Tryd.isAgg93 Tryd.zeroValue93 rfl Tryd.typeInfo93 rfl (fun h => by have h' : (none : Option E) = some .attr := h; cases h') (fun h => by have h' : (none : Option E) = some .sel := h; cases h')
noncomputable def i94 : TI := ⟨.iface, 1, Bool.false, Value.nilIface, 16, none⟩
theorem k94 : TIok Tryd.prog 94 i94 := tiok (by exact ⟨_, Tryd.underlying94⟩) Tryd.sizeOf94 Tryd.isAgg94 Tryd.zeroValue94 rfl Tryd.typeInfo94 rfl (fun h => by have h' : (none : Option E) = some .attr := h; cases h') (fun h => by have h' : (none : Option E) = some .sel := h; cases h')
noncomputable def i95 : TI := ⟨.iface, 1, Bool.false, Value.nilIface, 16, none⟩
theorem k95 : TIok Tryd.prog 95 i95 := tiok (by exact ⟨_, Tryd.underlying95⟩) Tryd.sizeOf95 Tryd.isAgg95 Tryd.zeroValue95 rfl Tryd.typeInfo95 rfl (fun h => by have h' : (none : Option E) = some .attr := h; cases h') (fun h => by have h' : (none : Option E) = some .sel := h; cases h')
noncomputable def i96 : TI := ⟨.other, 1, Bool.false, (Value.tuple #[Value.nilIface, Value.bool Bool.false]), 0, none⟩
theorem k96 : TIok Tryd.prog 96 i96 := tiok (by exact trivial) Tryd.sizeOf96 Tryd.isAgg96 Tryd.zeroValue96 rfl Tryd.typeInfo96 rfl (fun h => by have h' : (none : Option E) = some .attr := h; cases h') (fun h => by have h' : (none : Option E) = some .sel := h; cases h')
noncomputable def i97 : TI := ⟨.func, 1, Bool.false, Value.nilFunc, 8, none⟩
theorem k97 : TIok Tryd.prog 97 i97 := tiok (by exact ⟨_, _, _, Tryd.underlying97⟩) Tryd.sizeOf97 Tryd.isAgg97 Tryd.zeroValue97 rfl Tryd.typeInfo97 rfl (fun h => by have h' : (none : Option E) = some .attr := h; cases h') (fun h => by have h' : (none : Option E) = some .sel := h; cases h')
noncomputable def i98 : TI := ⟨.func, 1, Bool.false, Value.nilFunc, 8, none⟩
theorem k98 : TIok Tryd.prog 98 i98 := tiok (by exact ⟨_, _, _, Tryd.underlying98⟩) Tryd.sizeOf98 Tryd.isAgg98 Tryd.zeroValue98 rfl Tryd.typeInfo98 rfl (fun h => by have h' : (none : Option E) = some .attr := h; cases h') (fun h => by have h' : (none : Option E) = some .sel := h; cases h')
noncomputable def i99 : TI := ⟨.int .u64, 1, Bool.false, (Value.int IntKind.u64 0), 8, none⟩
theorem k99 : TIok Tryd.prog 99 i99 := tiok (by exact Tryd.underlying99) Tryd.sizeOf99 Tryd.isAgg99 Tryd.zeroValue99 rfl Tryd.typeInfo99 rfl (fun h => by have h' : (none : Option E) = some .attr := h; cases h') (fun h => by have h' : (none : Option E) = some .sel := h; cases h')
noncomputable def i100 : TI := ⟨.int .u32, 1, Bool.false, (Value.int IntKind.u32 0), 4, none⟩
theorem k100 : TIok Tryd.prog 100 i100 := tiok (by exact Tryd.underlying100) Tryd.sizeOf100 Tryd.isAgg100 Tryd.zeroValue100 rfl Tryd.typeInfo100 rfl (fun h => by have h' : (none : Option E) = some .attr := h; cases h') (fun h => by have h' : (none : Option E) = some .sel := h; cases h')
noncomputable def i101 : TI := ⟨.int .u32, 1, Bool.false, (Value.int IntKind.u32 0), 4, none⟩
theorem k101 : TIok Tryd.prog 101 i101 := tiok (by exact Tryd.underlying101) Tryd.sizeOf101 Tryd.isAgg101 Tryd.zeroValue101 rfl Tryd.typeInfo101 rfl (fun h => by have h' : (none : Option E) = some .attr := h; cases h') (fun h => by have h' : (none : Option E) = some .sel := h; cases h')
noncomputable def i102 : TI := ⟨.int .u32, 1, Bool.false, (Value.int IntKind.u32 0), 4, none⟩
theorem k102 : TIok Tryd.prog 102 i102 := tiok (by exact Tryd.underlying102) Tryd.sizeOf102 Tryd.isAgg102 Tryd.zeroValue102 rfl Tryd.typeInfo102 rfl (fun h => by have h' : (none : Option E) = some .attr := h; cases h') (fun h => by have h' : (none : Option E) = some .sel := h; cases h')
noncomputable def i103 : TI := ⟨.slice 107, 1, Bool.false, (Value.slice Option.none 0 0), 24, some (.rc .hattrs [] 0)⟩
theorem k103 : TIok Tryd.prog 103 i103 := tiok (by exact Tryd.underlying103) Tryd.sizeOf103 Tryd.isAgg103 Tryd.zeroValue103 rfl Tryd.typeInfo103 rfl (fun h => by have h' : (some (.rc .hattrs [] 0) : Option E) = some .attr := h; cases h') (fun h => by have h' : (some (.rc .hattrs [] 0) : Option E) = some .sel := h; cases h')
noncomputable def i104 : TI := ⟨.struct [(65, 0), (65, 1), (65, 2), (65, 3), (65, 4), (101, 5), (102, 6), (9, 7), (9, 8), (103, 9)], 10, Bool.true, (Value.agg #[Value.pointer Option.none, Value.pointer Option.none, Value.pointer Option.none, Value.pointer Option.none, Value.pointer Option.none, Value.int IntKind.u32 0, Value.int IntKind.u32 0, Value.string { data := #[] }, Value.string { data := #[] }, Value.slice Option.none 0 0]), 104, none⟩
theorem k104 : TIok Tryd.prog 104 i104 := tiok (by exact ⟨_, Tryd.underlying104, rfl⟩) Tryd.sizeOf104 Tryd.isAgg104 Tryd.zeroValue104 rfl Tryd.typeInfo104 rfl (fun h => by have h' : (none : Option E) = some .attr := h; cases h') (fun h => by have h' : (none : Option E) = some .sel := h; cases h')
noncomputable def i105 : TI := ⟨.struct [(65, 0), (65, 1), (65, 2), (65, 3), (65, 4), (101, 5), (102, 6), (9, 7), (9, 8), (103, 9)], 10, Bool.true, (Value.agg #[Value.pointer Option.none, Value.pointer Option.none, Value.pointer Option.none, Value.pointer Option.none, Value.pointer Option.none, Value.int IntKind.u32 0, Value.int IntKind.u32 0, Value.string { data := #[] }, Value.string { data := #[] }, Value.slice Option.none 0 0]), 104, none⟩
theorem k105 : TIok Tryd.prog 105 i105 := tiok (by exact ⟨_, Tryd.underlying105, rfl⟩) Tryd.sizeOf105 Tryd.isAgg105 Tryd.zeroValue105 rfl Tryd.typeInfo105 rfl (fun h => by have h' : (none : Option E) = some .attr := h; cases h') (fun h => by have h' : (none : Option E) = some .sel := h; cases h')
noncomputable def i106 : TI := ⟨.struct [(9, 0), (9, 1), (9, 2)], 3, Bool.true, (Value.agg #[Value.string { data := #[] }, Value.string { data := #[] }, Value.string { data := #[] }]), 48, none⟩
theorem k106 : TIok Tryd.prog 106 i106 := tiok (by exact ⟨_, Tryd.underlying106, rfl⟩) Tryd.sizeOf106 Tryd.isAgg106 Tryd.zeroValue106 rfl Tryd.typeInfo106 rfl (fun h => by have h' : (none : Option E) = some .attr := h; cases h') (fun h => by have h' : (none : Option E) = some .sel := h; cases h')
noncomputable def i107 : TI := ⟨.struct [(9, 0), (9, 1), (9, 2)], 3, Bool.true, (Value.agg #[Value.string { data := #[] }, Value.string { data := #[] }, Value.string { data := #[] }]), 48, some .hattr⟩
theorem k107 : TIok Tryd.prog 107 i107 := tiok (by exact ⟨_, Tryd.underlying107, rfl⟩) Tryd.sizeOf107 Tryd.isAgg107 Tryd.zeroValue107 rfl Tryd.typeInfo107 rfl (fun h => by have h' : (some .hattr : Option E) = some .attr := h; cases h') (fun h => by have h' : (some .hattr : Option E) = some .sel := h; cases h')
noncomputable def i108 : TI := ⟨.func, 1, Bool.false, Value.nilFunc, 8, none⟩
theorem k108 : TIok Tryd.prog 108 i108 := tiok (by exact ⟨_, _, _, Tryd.underlying108⟩) Tryd.sizeOf108 Tryd.isAgg108 Tryd.zeroValue108 rfl Tryd.typeInfo108 rfl (fun h => by have h' : (none : Option E) = some .attr := h; cases h') (fun h => by have h' : (none : Option E) = some .sel := h; cases h')
noncomputable def i109 : TI := ⟨.map 65 4, 1, Bool.false, (Value.map Option.none), 8, none⟩
theorem k109 : TIok Tryd.prog 109 i109 := tiok (by exact Tryd.underlying109) Tryd.sizeOf109 Tryd.isAgg109 Tryd.zeroValue109 rfl Tryd.typeInfo109 rfl (fun h => by have h' : (none : Option E) = some .attr := h; cases h') (fun h => by have h' : (none : Option E) = some .sel := h; cases h')
noncomputable def i110 : TI := ⟨.func, 1, Bool.false, Value.nilFunc, 8, none⟩
theorem k110 : TIok Tryd.prog 110 i110 := tiok (by exact ⟨_, _, _, Tryd.underlying110⟩) Tryd.sizeOf110 Tryd.isAgg110 Tryd.zeroValue110 rfl Tryd.typeInfo110 rfl (fun h => by have h' : (none : Option E) = some .attr := h; cases h') (fun h => by have h' : (none : Option E) = some .sel := h; cases h')
noncomputable def i111 : TI := ⟨.ptr 113, 1, Bool.false, (Value.pointer Option.none), 8, none⟩
theorem k111 : TIok Tryd.prog 111 i111 := tiok (by exact Tryd.underlying111) Tryd.sizeOf111 Tryd.isAgg111 Tryd.zeroValue111 rfl Tryd.typeInfo111 rfl (fun h => by have h' : (none : Option E) = some .attr := h; cases h') (fun h => by have h' : (none : Option E) = some .sel := h; cases h')
noncomputable def i112 : TI := ⟨.struct [(9, 0)], 1, Bool.true, (Value.agg #[Value.string { data := #[] }]), 16, none⟩
theorem k112 : TIok Tryd.prog 112 i112 := tiok (by exact ⟨_, Tryd.underlying112, rfl⟩) Tryd.sizeOf112 Tryd.isAgg112 Tryd.zeroValue112 rfl Tryd.typeInfo112 rfl (fun h => by have h' : (none : Option E) = some .attr := h; cases h') (fun h => by have h' : (none : Option E) = some .sel := h; cases h')
noncomputable def i113 : TI := ⟨.struct [(9, 0)], 1, Bool.true, (Value.agg #[Value.string { data := #[] }]), 16, none⟩
theorem k113 : TIok Tryd.prog 113 i113 := tiok (by exact ⟨_, Tryd.underlying113, rfl⟩) Tryd.sizeOf113 Tryd.isAgg113 Tryd.zeroValue113 rfl Tryd.typeInfo113 rfl (fun h => by have h' : (none : Option E) = some .attr := h; cases h') (fun h => by have h' : (none : Option E) = some .sel := h; cases h')
noncomputable def i114 : TI := ⟨.func, 1, Bool.false, Value.nilFunc, 8, none⟩
theorem k114 : TIok Tryd.prog 114 i114 := tiok (by exact ⟨_, _, _, Tryd.underlying114⟩) Tryd.sizeOf114 Tryd.isAgg114 Tryd.zeroValue114 rfl Tryd.typeInfo114 rfl (fun h => by have h' : (none : Option E) = some .attr := h; cases h') (fun h => by have h' : (none : Option E) = some .sel := h; cases h')
noncomputable def i115 : TI := ⟨.func, 1, Bool.false, Value.nilFunc, 8, none⟩
theorem k115 : TIok Tryd.prog 115 i115 := tiok (by exact ⟨_, _, _, Tryd.underlying115⟩) Tryd.sizeOf115 Tryd.isAgg115 Tryd.zeroValue115 rfl Tryd.typeInfo115 rfl (fun h => by have h' : (none : Option E) = some .attr := h; cases h') (fun h => by have h' : (none : Option E) = some .sel := h; cases h')
noncomputable def i116 : TI := ⟨.other, 1, Bool.false, (Value.tuple #[Value.int IntKind.i64 0, Value.nilIface]), 0, none⟩
theorem k116 : TIok Tryd.prog 116 i116 := tiok (by exact trivial) Tryd.sizeOf116 Tryd.isAgg116 Tryd.zeroValue116 rfl Tryd.typeInfo116 rfl (fun h => by have h' : (none : Option E) = some .attr := h; cases h') (fun h => by have h' : (none : Option E) = some .sel := h; cases h')
noncomputable def i117 : TI := ⟨.func, 1, Bool.false, Value.nilFunc, 8, none⟩
theorem k117 : TIok Tryd.prog 117 i117 := tiok (by exact ⟨_, _, _, Tryd.underlying117⟩) Tryd.sizeOf117 Tryd.isAgg117 Tryd.zeroValue117 rfl Tryd.typeInfo117 rfl (fun h => by have h' : (none : Option E) = some .attr := h; cases h') (fun h => by have h' : (none : Option E) = some .sel := h; cases h')
noncomputable def i118 : TI := ⟨.func, 1, Bool.false, Value.nilFunc, 8, none⟩
theorem k118 : TIok Tryd.prog 118 i118 := tiok (by exact ⟨_, _, _, Tryd.underlying118⟩) Tryd.sizeOf118 Tryd.isAgg118 Tryd.zeroValue118 rfl Tryd.typeInfo118 rfl (fun h => by have h' : (none : Option E) = some .attr := h; cases h') (fun h => by have h' : (none : Option E) = some .sel := h; cases h')
noncomputable def i119 : TI := ⟨.map 9 4, 1, Bool.false, (Value.map Option.none), 8, none⟩
theorem k119 : TIok Tryd.prog 119 i119 := tiok (by exact Tryd.underlying119) Tryd.sizeOf119 Tryd.isAgg119 Tryd.zeroValue119 rfl Tryd.typeInfo119 rfl (fun h => by have h' : (none : Option E) = some .attr := h; cases h') (fun h => by have h' : (none : Option E) = some .sel := h; cases h')
noncomputable def i120 : TI := ⟨.func, 1, Bool.false, Value.nilFunc, 8, none⟩
theorem k120 : TIok Tryd.prog 120 i120 := tiok (by exact ⟨_, _, _, Tryd.underlying120⟩) Tryd.sizeOf120 Tryd.isAgg120 Tryd.zeroValue120 rfl Tryd.typeInfo120 rfl (fun h => by have h' : (none : Option E) = some .attr := h; cases h') (fun h => by have h' : (none : Option E) = some .sel := h; cases h')
noncomputable def i121 : TI := ⟨.func, 1, Bool.false, Value.nilFunc, 8, none⟩
theorem k121 : TIok Tryd.prog 121 i121 := tiok (by exact ⟨_, _, _, Tryd.underlying121⟩) Tryd.sizeOf121 Tryd.isAgg121 Tryd.zeroValue121 rfl Tryd.typeInfo121 rfl (fun h => by have h' : (none : Option E) = some .attr := h; cases h') (fun h => by have h' : (none : Option E) = some .sel := h; cases h')
noncomputable def i122 : TI := ⟨.func, 1, Bool.false, Value.nilFunc, 8, none⟩
theorem k122 : TIok Tryd.prog 122 i122 := tiok (by exact ⟨_, _, _, Tryd.underlying122⟩) Tryd.sizeOf122 Tryd.isAgg122 Tryd.zeroValue122 rfl Tryd.typeInfo122 rfl (fun h => by have h' : (none : Option E) = some .attr := h; cases h') (fun h => by have h' : (none : Option E) = some .sel := h; cases h')
noncomputable def i123 : TI := ⟨.func, 1, Bool.false, Value.nilFunc, 8, none⟩
theorem k123 : TIok Tryd.prog 123 i123 := tiok (by exact ⟨_, _, _, Tryd.underlying123⟩) Tryd.sizeOf123 Tryd.isAgg123 Tryd.zeroValue123 rfl Tryd.typeInfo123 rfl (fun h => by have h' : (none : Option E) = some .attr := h; cases h') (fun h => by have h' : (none : Option E) = some .sel := h; cases h')
noncomputable def i124 : TI := ⟨.struct [(17, 0), (17, 1), (17, 2), (9, 3)], 4, Bool.true, (Value.agg #[Value.pointer Option.none, Value.pointer Option.none, Value.pointer Option.none, Value.string { data := #[] }]), 40, none⟩
theorem k124 : TIok Tryd.prog 124 i124 := tiok (by exact ⟨_, Tryd.underlying124, rfl⟩) Tryd.sizeOf124 Tryd.isAgg124 Tryd.zeroValue124 rfl Tryd.typeInfo124 rfl (fun h => by have h' : (none : Option E) = some .attr := h; cases h') (fun h => by have h' : (none : Option E) = some .sel := h; cases h')
noncomputable def i125 : TI := ⟨.struct [(17, 0), (17, 1), (17, 2), (9, 3)], 4, Bool.true, (Value.agg #[Value.pointer Option.none, Value.pointer Option.none, Value.pointer Option.none, Value.string { data := #[] }]), 40, none⟩
theorem k125 : TIok Tryd.prog 125 i125 := tiok (by exact ⟨_, Tryd.underlying125, rfl⟩) Tryd.sizeOf125 Tryd.isAgg125 Tryd.zeroValue125 rfl Tryd.typeInfo125 rfl (fun h => by have h' : (none : Option E) = some .attr := h; cases h') (fun h => by have h' : (none : Option E) = some .sel := h; cases h')
noncomputable def i126 : TI := ⟨.other, 0, Bool.true, (Value.agg #[]), 0, none⟩
theorem k126 : TIok Tryd.prog 126 i126 := tiok (by exact trivial) Tryd.sizeOf126 Tryd.isAgg126 Tryd.zeroValue126 rfl Tryd.typeInfo126 rfl (fun h => by have h' : (none : Option E) = some .attr := h; cases h') (fun h => by have h' : (none : Option E) = some .sel := h; cases h')
noncomputable def i127 : TI := ⟨.struct [(126, 0)], 0, Bool.true, (Value.agg #[]), 0, none⟩
theorem k127 : TIok Tryd.prog 127 i127 := tiok (by exact ⟨_, Tryd.underlying127, rfl⟩) Tryd.sizeOf127 Tryd.isAgg127 Tryd.zeroValue127 rfl Tryd.typeInfo127 rfl (fun h => by have h' : (none : Option E) = some .attr := h; cases h') (fun h => by have h' : (none : Option E) = some .sel := h; cases h')
noncomputable def i128 : TI := ⟨.struct [(126, 0)], 0, Bool.true, (Value.agg #[]), 0, none⟩
theorem k128 : TIok Tryd.prog 128 i128 := tiok (by exact ⟨_, Tryd.underlying128, rfl⟩) Tryd.sizeOf128 Tryd.isAgg128 Tryd.zeroValue128 rfl Tryd.typeInfo128 rfl (fun h => by have h' : (none : Option E) = some .attr := h; cases h') (fun h => by have h' : (none : Option E) = some .sel := h; cases h')
noncomputable def i129 : TI := ⟨.int .u8, 1, Bool.false, (Value.int IntKind.u8 0), 1, none⟩
theorem k129 : TIok Tryd.prog 129 i129 := tiok (by exact Tryd.underlying129) Tryd.sizeOf129 Tryd.isAgg129 Tryd.zeroValue129 rfl Tryd.typeInfo129 rfl (fun h => by have h' : (none : Option E) = some .attr := h; cases h') (fun h => by have h' : (none : Option E) = some .sel := h; cases h')
noncomputable def i130 : TI := ⟨.int .u8, 1, Bool.false, (Value.int IntKind.u8 0), 1, none⟩
theorem k130 : TIok Tryd.prog 130 i130 := tiok (by exact Tryd.underlying130) Tryd.sizeOf130 Tryd.isAgg130 Tryd.zeroValue130 rfl Tryd.typeInfo130 rfl (fun h => by have h' : (none : Option E) = some .attr := h; cases h') (fun h => by have h' : (none : Option E) = some .sel := h; cases h')
noncomputable def i131 : TI := ⟨.func, 1, Bool.false, Value.nilFunc, 8, none⟩
theorem k131 : TIok Tryd.prog 131 i131 := tiok (by exact ⟨_, _, _, Tryd.underlying131⟩) Tryd.sizeOf131 Tryd.isAgg131 Tryd.zeroValue131 rfl Tryd.typeInfo131 rfl (fun h => by have h' : (none : Option E) = some .attr := h; cases h') (fun h => by have h' : (none : Option E) = some .sel := h; cases h')
noncomputable def i132 : TI := ⟨.int .i32, 1, Bool.false, (Value.int IntKind.i32 0), 4, none⟩
theorem k132 : TIok Tryd.prog 132 i132 := tiok (by exact Tryd.underlying132) Tryd.sizeOf132 Tryd.isAgg132 Tryd.zeroValue132 rfl Tryd.typeInfo132 rfl (fun h => by have h' : (none : Option E) = some .attr := h; cases h') (fun h => by have h' : (none : Option E) = some .sel := h; cases h')
noncomputable def i133 : TI := ⟨.int .i32, 1, Bool.false, (Value.int IntKind.i32 0), 4, none⟩
theorem k133 : TIok Tryd.prog 133 i133 := tiok (by exact Tryd.underlying133) Tryd.sizeOf133 Tryd.isAgg133 Tryd.zeroValue133 rfl Tryd.typeInfo133 rfl (fun h => by have h' : (none : Option E) = some .attr := h; cases h') (fun h => by have h' : (none : Option E) = some .sel := h; cases h')
noncomputable def i134 : TI := ⟨.struct [(12, 0), (12, 1), (100, 2), (129, 3), (5, 4), (5, 5), (130, 6), (131, 7), (75, 8), (132, 9), (133, 10)], 11, Bool.true, (Value.agg #[Value.int IntKind.u64 0, Value.int IntKind.u64 0, Value.int IntKind.u32 0, Value.int IntKind.u8 0, Value.int IntKind.u8 0, Value.int IntKind.u8 0, Value.int IntKind.u8 0, Value.nilFunc, Value.pointer Option.none, Value.int IntKind.i32 0, Value.int IntKind.i32 0]), 48, none⟩
theorem k134 : TIok Tryd.prog 134 i134 := tiok (by exact ⟨_, Tryd.underlying134, rfl⟩) Tryd.sizeOf134 Tryd.isAgg134 Tryd.zeroValue134 rfl Tryd.typeInfo134 rfl (fun h => by have h' : (none : Option E) = some .attr := h; cases h') (fun h => by have h' : (none : Option E) = some .sel := h; cases h')
noncomputable def i135 : TI := ⟨.struct [(12, 0), (12, 1), (100, 2), (129, 3), (5, 4), (5, 5), (130, 6), (131, 7), (75, 8), (132, 9), (133, 10)], 11, Bool.true, (Value.agg #[Value.int IntKind.u64 0, Value.int IntKind.u64 0, Value.int IntKind.u32 0, Value.int IntKind.u8 0, Value.int IntKind.u8 0, Value.int IntKind.u8 0, Value.int IntKind.u8 0, Value.nilFunc, Value.pointer Option.none, Value.int IntKind.i32 0, Value.int IntKind.i32 0]), 48, none⟩
theorem k135 : TIok Tryd.prog 135 i135 := tiok (by exact ⟨_, Tryd.underlying135, rfl⟩) Tryd.sizeOf135 Tryd.isAgg135 Tryd.zeroValue135 rfl Tryd.typeInfo135 rfl (fun h => by have h' : (none : Option E) = some .attr := h; cases h') (fun h => by have h' : (none : Option E) = some .sel := h; cases h')
noncomputable def i136 : TI := ⟨.other, 1, Bool.false, (Value.pointer Option.none), 8, none⟩
theorem k136 : TIok Tryd.prog 136 i136 := tiok (by exact trivial) Tryd.sizeOf136 Tryd.isAgg136 Tryd.zeroValue136 rfl Tryd.typeInfo136 rfl (fun h => by have h' : (none : Option E) = some .attr := h; cases h') (fun h => by have h' : (none : Option E) = some .sel := h; cases h')
noncomputable def i137 : TI := ⟨.func, 1, Bool.false, Value.nilFunc, 8, none⟩
theorem k137 : TIok Tryd.prog 137 i137 := tiok (by exact ⟨_, _, _, Tryd.underlying137⟩) Tryd.sizeOf137 Tryd.isAgg137 Tryd.zeroValue137 rfl Tryd.typeInfo137 rfl (fun h => by have h' : (none : Option E) = some .attr := h; cases h') (fun h => by have h' : (none : Option E) = some .sel := h; cases h')
noncomputable def i138 : TI := ⟨.func, 1, Bool.false, Value.nilFunc, 8, none⟩
theorem k138 : TIok Tryd.prog 138 i138 := tiok (by exact ⟨_, _, _, Tryd.underlying138⟩) Tryd.sizeOf138 Tryd.isAgg138 Tryd.zeroValue138 rfl Tryd.typeInfo138 rfl (fun h => by have h' : (none : Option E) = some .attr := h; cases h') (fun h => by have h' : (none : Option E) = some .sel := h; cases h')
noncomputable def i139 : TI := ⟨.func, 1, Bool.false, Value.nilFunc, 8, none⟩
theorem k139 : TIok Tryd.prog 139 i139 := tiok (by exact ⟨_, _, _, Tryd.underlying139⟩) Tryd.sizeOf139 Tryd.isAgg139 Tryd.zeroValue139 rfl Tryd.typeInfo139 rfl (fun h => by have h' : (none : Option E) = some .attr := h; cases h') (fun h => by have h' : (none : Option E) = some .sel := h; cases h')
noncomputable def i140 : TI := ⟨.func, 1, Bool.false, Value.nilFunc, 8, none⟩
theorem k140 : TIok Tryd.prog 140 i140 := tiok (by exact ⟨_, _, _, Tryd.underlying140⟩) Tryd.sizeOf140 Tryd.isAgg140 Tryd.zeroValue140 rfl Tryd.typeInfo140 rfl (fun h => by have h' : (none : Option E) = some .attr := h; cases h') (fun h => by have h' : (none : Option E) = some .sel := h; cases h')
noncomputable def i141 : TI := ⟨.func, 1, Bool.false, Value.nilFunc, 8, none⟩
theorem k141 : TIok Tryd.prog 141 i141 := tiok (by exact ⟨_, _, _, Tryd.underlying141⟩) Tryd.sizeOf141 Tryd.isAgg141 Tryd.zeroValue141 rfl Tryd.typeInfo141 rfl (fun h => by have h' : (none : Option E) = some .attr := h; cases h') (fun h => by have h' : (none : Option E) = some .sel := h; cases h')
noncomputable def tb : List (Option TI) := some i0 :: some i1 :: some i2 :: some i3 :: some i4 :: some i5 :: some i6 :: some i7 :: some i8 :: some i9 :: some i10 :: some i11 :: some i12 :: some i13 :: some i14 :: some i15 :: some i16 :: some i17 :: some i18 :: some i19 :: some i20 :: some i21 :: some i22 :: some i23 :: some i24 :: some i25 :: some i26 :: some i27 :: some i28 :: some i29 :: some i30 :: some i31 :: some i32 :: some i33 :: some i34 :: some i35 :: some i36 :: some i37 :: some i38 :: some i39 :: some i40 :: some i41 :: some i42 :: some i43 :: some i44 :: some i45 :: some i46 :: some i47 :: some i48 :: some i49 :: some i50 :: some i51 :: some i52 :: some i53 :: some i54 :: some i55 :: some i56 :: some i57 :: some i58 :: some i59 :: some i60 :: some i61 :: some i62 :: some i63 :: some i64 :: some i65 :: some i66 :: some i67 :: some i68 :: some i69 :: some i70 :: some i71 :: some i72 :: some i73 :: some i74 :: some i75 :: some i76 :: some i77 :: some i78 :: some i79 :: none :: some i81 :: some i82 :: some i83 :: some i84 :: some i85 :: some i86 :: some i87 :: some i88 :: some i89 :: some i90 :: some i91 :: some i92 :: some i93 :: some i94 :: some i95 :: some i96 :: some i97 :: some i98 :: some i99 :: some i100 :: some i101 :: some i102 :: some i103 :: some i104 :: some i105 :: some i106 :: some i107 :: some i108 :: some i109 :: some i110 :: some i111 :: some i112 :: some i113 :: some i114 :: some i115 :: some i116 :: some i117 :: some i118 :: some i119 :: some i120 :: some i121 :: some i122 :: some i123 :: some i124 :: some i125 :: some i126 :: some i127 :: some i128 :: some i129 :: some i130 :: some i131 :: some i132 :: some i133 :: some i134 :: some i135 :: some i136 :: some i137 :: some i138 :: some i139 :: some i140 :: some i141 :: []
theorem tb_ok : TbOK Tryd.prog tb := fun T t h => by
  have := tb_of (P := Tryd.prog) (k := 0) (l := tb) (by exact ⟨k0, ⟨k1, ⟨k2, ⟨k3, ⟨k4, ⟨k5, ⟨k6, ⟨k7, ⟨k8, ⟨k9, ⟨k10, ⟨k11, ⟨k12, ⟨k13, ⟨k14, ⟨k15, ⟨k16, ⟨k17, ⟨k18, ⟨k19, ⟨k20, ⟨k21, ⟨k22, ⟨k23, ⟨k24, ⟨k25, ⟨k26, ⟨k27, ⟨k28, ⟨k29, ⟨k30, ⟨k31, ⟨k32, ⟨k33, ⟨k34, ⟨k35, ⟨k36, ⟨k37, ⟨k38, ⟨k39, ⟨k40, ⟨k41, ⟨k42, ⟨k43, ⟨k44, ⟨k45, ⟨k46, ⟨k47, ⟨k48, ⟨k49, ⟨k50, ⟨k51, ⟨k52, ⟨k53, ⟨k54, ⟨k55, ⟨k56, ⟨k57, ⟨k58, ⟨k59, ⟨k60, ⟨k61, ⟨k62, ⟨k63, ⟨k64, ⟨k65, ⟨k66, ⟨k67, ⟨k68, ⟨k69, ⟨k70, ⟨k71, ⟨k72, ⟨k73, ⟨k74, ⟨k75, ⟨k76, ⟨k77, ⟨k78, ⟨k79, ⟨k81, ⟨k82, ⟨k83, ⟨k84, ⟨k85, ⟨k86, ⟨k87, ⟨k88, ⟨k89, ⟨k90, ⟨k91, ⟨k92, ⟨k93, ⟨k94, ⟨k95, ⟨k96, ⟨k97, ⟨k98, ⟨k99, ⟨k100, ⟨k101, ⟨k102, ⟨k103, ⟨k104, ⟨k105, ⟨k106, ⟨k107, ⟨k108, ⟨k109, ⟨k110, ⟨k111, ⟨k112, ⟨k113, ⟨k114, ⟨k115, ⟨k116, ⟨k117, ⟨k118, ⟨k119, ⟨k120, ⟨k121, ⟨k122, ⟨k123, ⟨k124, ⟨k125, ⟨k126, ⟨k127, ⟨k128, ⟨k129, ⟨k130, ⟨k131, ⟨k132, ⟨k133, ⟨k134, ⟨k135, ⟨k136, ⟨k137, ⟨k138, ⟨k139, ⟨k140, ⟨k141, trivial⟩⟩⟩⟩⟩⟩⟩⟩⟩⟩⟩⟩⟩⟩⟩⟩⟩⟩⟩⟩⟩⟩⟩⟩⟩⟩⟩⟩⟩⟩⟩⟩⟩⟩⟩⟩⟩⟩⟩⟩⟩⟩⟩⟩⟩⟩⟩⟩⟩⟩⟩⟩⟩⟩⟩⟩⟩⟩⟩⟩⟩⟩⟩⟩⟩⟩⟩⟩⟩⟩⟩⟩⟩⟩⟩⟩⟩⟩⟩⟩⟩⟩⟩⟩⟩⟩⟩⟩⟩⟩⟩⟩⟩⟩⟩⟩⟩⟩⟩⟩⟩⟩⟩⟩⟩⟩⟩⟩⟩⟩⟩⟩⟩⟩⟩⟩⟩⟩⟩⟩⟩⟩⟩⟩⟩⟩⟩⟩⟩⟩⟩⟩⟩⟩⟩⟩⟩⟩⟩⟩⟩) T t h
  rwa [Nat.zero_add] at this
def mth : List (TypeId × String × FuncId) := [(53, "WriteString", 93), (53, "WriteByte", 92)]
def ast : List (TypeId × TypeId) := [(53, 95)]
theorem mth_ok : ∀ q ∈ mth, MtOK Tryd.prog q.1 q.2.1 q.2.2 := by
  intro q hq
  simp only [mth, List.mem_cons, List.not_mem_nil, or_false] at hq
  rcases hq with rfl | rfl
  · exact ⟨_, _, _, Tryd.typeInfo53, rfl, rfl, rfl, Tryd.underlying53⟩
  · exact ⟨_, _, _, Tryd.typeInfo53, rfl, rfl, rfl, Tryd.underlying53⟩
theorem ast_ok : ∀ q ∈ ast, AsOK Tryd.prog q.1 q.2 := by
  intro q hq
  simp only [ast, List.mem_cons, List.not_mem_nil, or_false] at hq
  rcases hq with rfl
  · exact ⟨_, _, Tryd.typeInfo53, Tryd.underlying95, by kernel_rfl⟩
theorem if_ok : (∀ q ∈ mth, MtOK Tryd.prog q.1 q.2.1 q.2.2) ∧ ∀ q ∈ ast, AsOK Tryd.prog q.1 q.2 := ⟨mth_ok, ast_ok⟩
theorem mixed : Tryd.prog.follows .mixedOrders = true := by kernel_rfl
end Go.Proofs.YtpedmnlpccngiaaDoor.V
