/-
  The types of the translation, as a table (written by a program).
-/
import Derived.Test.YtfmlpodcldhgdaaKFresh
import Derived.Test.YtfmlpodcldhgdaaProg
set_option linter.unusedVariables false
set_option linter.unusedSimpArgs false
namespace Go.Proofs.Ytfmlpodcldhgdaa.V
open Go Go.Proofs
theorem tiok {P : Program} {T : TypeId} {t : TI} {i : TypeInfo} (u : UndOK P T t.sh) (s : ∀ w, (sizeOf T).run P w = .ok t.size w) (a : ∀ w, (isAgg T).run P w = .ok t.agg w) (z : ∀ w, (zeroValue T).run P w = .ok t.zv w) (c : t.zv.cells.size = t.size) (f : ∀ w, (typeInfo T).run P w = .ok i w) (b : i.bytes = t.bytes) (e : t.el = some .attr → AttrEq P T) : TIok P T t := ⟨u, s, a, z, c, ⟨i, f, b⟩, e⟩
def TbAll (P : Program) : Nat → List (Option TI) → Prop
  | _, [] => True
  | k, none :: l => TbAll P (k + 1) l
  | k, some t :: l => TIok P k t ∧ TbAll P (k + 1) l
theorem tb_of {P : Program} : ∀ {l : List (Option TI)} {k : Nat}, TbAll P k l → ∀ (T : Nat) (t : TI), l[T]? = some (some t) → TIok P (k + T) t
  | [], _, _, T, t, h => by simp at h
  | none :: l, k, hl, T, t, h => by
    match T with
    | 0 => simp at h
    | T + 1 =>
      have := tb_of (k := k + 1) hl T t (by simpa using h)
      rwa [Nat.add_assoc, Nat.add_comm 1 T] at this
  | some t0 :: l, k, hl, T, t, h => by
    match T with
    | 0 => simp at h; subst h; exact hl.1
    | T + 1 =>
      have := tb_of (k := k + 1) hl.2 T t (by simpa using h)
      rwa [Nat.add_assoc, Nat.add_comm 1 T] at this
noncomputable def i0 : TI := ⟨.other, 1, Bool.false, (Value.tuple #[]), 0, none⟩
theorem k0 : TIok Try.prog 0 i0 := tiok (by exact trivial) Try.sizeOf0 Try.isAgg0 Try.zeroValue0 rfl Try.typeInfo0 rfl (fun h => by have h' : (none : Option E) = some .attr := h; cases h')
noncomputable def i1 : TI := ⟨.func, 1, Bool.false, Value.nilFunc, 8, none⟩
theorem k1 : TIok Try.prog 1 i1 := tiok (by exact ⟨_, _, _, Try.underlying1⟩) Try.sizeOf1 Try.isAgg1 Try.zeroValue1 rfl Try.typeInfo1 rfl (fun h => by have h' : (none : Option E) = some .attr := h; cases h')
noncomputable def i2 : TI := ⟨.int .i64, 1, Bool.false, (Value.int IntKind.i64 0), 8, none⟩
theorem k2 : TIok Try.prog 2 i2 := tiok (by exact Try.underlying2) Try.sizeOf2 Try.isAgg2 Try.zeroValue2 rfl Try.typeInfo2 rfl (fun h => by have h' : (none : Option E) = some .attr := h; cases h')
noncomputable def i3 : TI := ⟨.int .i64, 1, Bool.false, (Value.int IntKind.i64 0), 8, some .int⟩
theorem k3 : TIok Try.prog 3 i3 := tiok (by exact Try.underlying3) Try.sizeOf3 Try.isAgg3 Try.zeroValue3 rfl Try.typeInfo3 rfl (fun h => by have h' : (some .int : Option E) = some .attr := h; cases h')
noncomputable def i4 : TI := ⟨.bool, 1, Bool.false, (Value.bool Bool.false), 1, some .bool⟩
theorem k4 : TIok Try.prog 4 i4 := tiok (by exact Try.underlying4) Try.sizeOf4 Try.isAgg4 Try.zeroValue4 rfl Try.typeInfo4 rfl (fun h => by have h' : (some .bool : Option E) = some .attr := h; cases h')
noncomputable def i5 : TI := ⟨.int .u8, 1, Bool.false, (Value.int IntKind.u8 0), 1, some .u8⟩
theorem k5 : TIok Try.prog 5 i5 := tiok (by exact Try.underlying5) Try.sizeOf5 Try.isAgg5 Try.zeroValue5 rfl Try.typeInfo5 rfl (fun h => by have h' : (some .u8 : Option E) = some .attr := h; cases h')
noncomputable def i6 : TI := ⟨.int .u8, 1, Bool.false, (Value.int IntKind.u8 0), 1, none⟩
theorem k6 : TIok Try.prog 6 i6 := tiok (by exact Try.underlying6) Try.sizeOf6 Try.isAgg6 Try.zeroValue6 rfl Try.typeInfo6 rfl (fun h => by have h' : (none : Option E) = some .attr := h; cases h')
noncomputable def i7 : TI := ⟨.struct [(2, 0), (3, 1), (4, 2), (6, 3)], 4, Bool.true, (Value.agg #[Value.int IntKind.i64 0, Value.int IntKind.i64 0, Value.bool Bool.false, Value.int IntKind.u8 0]), 24, none⟩
theorem k7 : TIok Try.prog 7 i7 := tiok (by exact ⟨_, Try.underlying7, rfl⟩) Try.sizeOf7 Try.isAgg7 Try.zeroValue7 rfl Try.typeInfo7 rfl (fun h => by have h' : (none : Option E) = some .attr := h; cases h')
noncomputable def i8 : TI := ⟨.struct [(2, 0), (3, 1), (4, 2), (6, 3)], 4, Bool.true, (Value.agg #[Value.int IntKind.i64 0, Value.int IntKind.i64 0, Value.bool Bool.false, Value.int IntKind.u8 0]), 24, none⟩
theorem k8 : TIok Try.prog 8 i8 := tiok (by exact ⟨_, Try.underlying8, rfl⟩) Try.sizeOf8 Try.isAgg8 Try.zeroValue8 rfl Try.typeInfo8 rfl (fun h => by have h' : (none : Option E) = some .attr := h; cases h')
noncomputable def i9 : TI := ⟨.str, 1, Bool.false, (Value.string { data := #[] }), 16, some .str⟩
theorem k9 : TIok Try.prog 9 i9 := tiok (by exact Try.underlying9) Try.sizeOf9 Try.isAgg9 Try.zeroValue9 rfl Try.typeInfo9 rfl (fun h => by have h' : (some .str : Option E) = some .attr := h; cases h')
noncomputable def i10 : TI := ⟨.str, 1, Bool.false, (Value.string { data := #[] }), 16, none⟩
theorem k10 : TIok Try.prog 10 i10 := tiok (by exact Try.underlying10) Try.sizeOf10 Try.isAgg10 Try.zeroValue10 rfl Try.typeInfo10 rfl (fun h => by have h' : (none : Option E) = some .attr := h; cases h')
noncomputable def i11 : TI := ⟨.str, 1, Bool.false, (Value.string { data := #[] }), 16, none⟩
theorem k11 : TIok Try.prog 11 i11 := tiok (by exact Try.underlying11) Try.sizeOf11 Try.isAgg11 Try.zeroValue11 rfl Try.typeInfo11 rfl (fun h => by have h' : (none : Option E) = some .attr := h; cases h')
noncomputable def i12 : TI := ⟨.int .u64, 1, Bool.false, (Value.int IntKind.u64 0), 8, none⟩
theorem k12 : TIok Try.prog 12 i12 := tiok (by exact Try.underlying12) Try.sizeOf12 Try.isAgg12 Try.zeroValue12 rfl Try.typeInfo12 rfl (fun h => by have h' : (none : Option E) = some .attr := h; cases h')
noncomputable def i13 : TI := ⟨.struct [(9, 0), (12, 1)], 2, Bool.true, (Value.agg #[Value.string { data := #[] }, Value.int IntKind.u64 0]), 24, none⟩
theorem k13 : TIok Try.prog 13 i13 := tiok (by exact ⟨_, Try.underlying13, rfl⟩) Try.sizeOf13 Try.isAgg13 Try.zeroValue13 rfl Try.typeInfo13 rfl (fun h => by have h' : (none : Option E) = some .attr := h; cases h')
noncomputable def i14 : TI := ⟨.struct [(9, 0), (12, 1)], 2, Bool.true, (Value.agg #[Value.string { data := #[] }, Value.int IntKind.u64 0]), 24, none⟩
theorem k14 : TIok Try.prog 14 i14 := tiok (by exact ⟨_, Try.underlying14, rfl⟩) Try.sizeOf14 Try.isAgg14 Try.zeroValue14 rfl Try.typeInfo14 rfl (fun h => by have h' : (none : Option E) = some .attr := h; cases h')
noncomputable def i15 : TI := ⟨.ptr 188, 1, Bool.false, (Value.pointer Option.none), 8, none⟩
theorem k15 : TIok Try.prog 15 i15 := tiok (by exact Try.underlying15) Try.sizeOf15 Try.isAgg15 Try.zeroValue15 rfl Try.typeInfo15 rfl (fun h => by have h' : (none : Option E) = some .attr := h; cases h')
noncomputable def i16 : TI := ⟨.ptr 191, 1, Bool.false, (Value.pointer Option.none), 8, none⟩
theorem k16 : TIok Try.prog 16 i16 := tiok (by exact Try.underlying16) Try.sizeOf16 Try.isAgg16 Try.zeroValue16 rfl Try.typeInfo16 rfl (fun h => by have h' : (none : Option E) = some .attr := h; cases h')
noncomputable def i17 : TI := ⟨.ptr 198, 1, Bool.false, (Value.pointer Option.none), 8, none⟩
theorem k17 : TIok Try.prog 17 i17 := tiok (by exact Try.underlying17) Try.sizeOf17 Try.isAgg17 Try.zeroValue17 rfl Try.typeInfo17 rfl (fun h => by have h' : (none : Option E) = some .attr := h; cases h')
noncomputable def i18 : TI := ⟨.struct [(17, 0)], 1, Bool.true, (Value.agg #[Value.pointer Option.none]), 8, none⟩
theorem k18 : TIok Try.prog 18 i18 := tiok (by exact ⟨_, Try.underlying18, rfl⟩) Try.sizeOf18 Try.isAgg18 Try.zeroValue18 rfl Try.typeInfo18 rfl (fun h => by have h' : (none : Option E) = some .attr := h; cases h')
noncomputable def i19 : TI := ⟨.struct [(17, 0)], 1, Bool.true, (Value.agg #[Value.pointer Option.none]), 8, none⟩
theorem k19 : TIok Try.prog 19 i19 := tiok (by exact ⟨_, Try.underlying19, rfl⟩) Try.sizeOf19 Try.isAgg19 Try.zeroValue19 rfl Try.typeInfo19 rfl (fun h => by have h' : (none : Option E) = some .attr := h; cases h')
noncomputable def i20 : TI := ⟨.iface, 1, Bool.false, Value.nilIface, 16, none⟩
theorem k20 : TIok Try.prog 20 i20 := tiok (by exact ⟨_, Try.underlying20⟩) Try.sizeOf20 Try.isAgg20 Try.zeroValue20 rfl Try.typeInfo20 rfl (fun h => by have h' : (none : Option E) = some .attr := h; cases h')
noncomputable def i21 : TI := ⟨.int .i32, 1, Bool.false, (Value.int IntKind.i32 0), 4, some (.rc (.int .i32) [] 0)⟩
theorem k21 : TIok Try.prog 21 i21 := tiok (by exact Try.underlying21) Try.sizeOf21 Try.isAgg21 Try.zeroValue21 rfl Try.typeInfo21 rfl (fun h => by have h' : (some (.rc (.int .i32) [] 0) : Option E) = some .attr := h; cases h')
noncomputable def i22 : TI := ⟨.slice 44, 1, Bool.false, (Value.slice Option.none 0 0), 24, some (.rc .nodes [] 0)⟩
theorem k22 : TIok Try.prog 22 i22 := tiok (by exact Try.underlying22) Try.sizeOf22 Try.isAgg22 Try.zeroValue22 rfl Try.typeInfo22 rfl (fun h => by have h' : (some (.rc .nodes [] 0) : Option E) = some .attr := h; cases h')
noncomputable def i23 : TI := ⟨.slice 3, 1, Bool.false, (Value.slice Option.none 0 0), 24, some (.rc .ints [] 0)⟩
theorem k23 : TIok Try.prog 23 i23 := tiok (by exact Try.underlying23) Try.sizeOf23 Try.isAgg23 Try.zeroValue23 rfl Try.typeInfo23 rfl (fun h => by have h' : (some (.rc .ints [] 0) : Option E) = some .attr := h; cases h')
noncomputable def i24 : TI := ⟨.func, 1, Bool.false, Value.nilFunc, 8, none⟩
theorem k24 : TIok Try.prog 24 i24 := tiok (by exact ⟨_, _, _, Try.underlying24⟩) Try.sizeOf24 Try.isAgg24 Try.zeroValue24 rfl Try.typeInfo24 rfl (fun h => by have h' : (none : Option E) = some .attr := h; cases h')
noncomputable def i25 : TI := ⟨.func, 1, Bool.false, Value.nilFunc, 8, none⟩
theorem k25 : TIok Try.prog 25 i25 := tiok (by exact ⟨_, _, _, Try.underlying25⟩) Try.sizeOf25 Try.isAgg25 Try.zeroValue25 rfl Try.typeInfo25 rfl (fun h => by have h' : (none : Option E) = some .attr := h; cases h')
noncomputable def i26 : TI := ⟨.other, 1, Bool.false, (Value.tuple #[Value.string { data := #[] }, Value.bool Bool.false]), 0, none⟩
theorem k26 : TIok Try.prog 26 i26 := tiok (by exact trivial) Try.sizeOf26 Try.isAgg26 Try.zeroValue26 rfl Try.typeInfo26 rfl (fun h => by have h' : (none : Option E) = some .attr := h; cases h')
noncomputable def i27 : TI := ⟨.func, 1, Bool.false, Value.nilFunc, 8, none⟩
theorem k27 : TIok Try.prog 27 i27 := tiok (by exact ⟨_, _, _, Try.underlying27⟩) Try.sizeOf27 Try.isAgg27 Try.zeroValue27 rfl Try.typeInfo27 rfl (fun h => by have h' : (none : Option E) = some .attr := h; cases h')
noncomputable def i28 : TI := ⟨.func, 1, Bool.false, Value.nilFunc, 8, none⟩
theorem k28 : TIok Try.prog 28 i28 := tiok (by exact ⟨_, _, _, Try.underlying28⟩) Try.sizeOf28 Try.isAgg28 Try.zeroValue28 rfl Try.typeInfo28 rfl (fun h => by have h' : (none : Option E) = some .attr := h; cases h')
noncomputable def i29 : TI := ⟨.slice 22, 1, Bool.false, (Value.slice Option.none 0 0), 24, none⟩
theorem k29 : TIok Try.prog 29 i29 := tiok (by exact Try.underlying29) Try.sizeOf29 Try.isAgg29 Try.zeroValue29 rfl Try.typeInfo29 rfl (fun h => by have h' : (none : Option E) = some .attr := h; cases h')
noncomputable def i30 : TI := ⟨.other, 1, Bool.false, (Value.tuple #[Value.slice Option.none 0 0, Value.bool Bool.false]), 0, none⟩
theorem k30 : TIok Try.prog 30 i30 := tiok (by exact trivial) Try.sizeOf30 Try.isAgg30 Try.zeroValue30 rfl Try.typeInfo30 rfl (fun h => by have h' : (none : Option E) = some .attr := h; cases h')
noncomputable def i31 : TI := ⟨.func, 1, Bool.false, Value.nilFunc, 8, none⟩
theorem k31 : TIok Try.prog 31 i31 := tiok (by exact ⟨_, _, _, Try.underlying31⟩) Try.sizeOf31 Try.isAgg31 Try.zeroValue31 rfl Try.typeInfo31 rfl (fun h => by have h' : (none : Option E) = some .attr := h; cases h')
noncomputable def i32 : TI := ⟨.func, 1, Bool.false, Value.nilFunc, 8, none⟩
theorem k32 : TIok Try.prog 32 i32 := tiok (by exact ⟨_, _, _, Try.underlying32⟩) Try.sizeOf32 Try.isAgg32 Try.zeroValue32 rfl Try.typeInfo32 rfl (fun h => by have h' : (none : Option E) = some .attr := h; cases h')
noncomputable def i33 : TI := ⟨.func, 1, Bool.false, Value.nilFunc, 8, none⟩
theorem k33 : TIok Try.prog 33 i33 := tiok (by exact ⟨_, _, _, Try.underlying33⟩) Try.sizeOf33 Try.isAgg33 Try.zeroValue33 rfl Try.typeInfo33 rfl (fun h => by have h' : (none : Option E) = some .attr := h; cases h')
noncomputable def i34 : TI := ⟨.func, 1, Bool.false, Value.nilFunc, 8, none⟩
theorem k34 : TIok Try.prog 34 i34 := tiok (by exact ⟨_, _, _, Try.underlying34⟩) Try.sizeOf34 Try.isAgg34 Try.zeroValue34 rfl Try.typeInfo34 rfl (fun h => by have h' : (none : Option E) = some .attr := h; cases h')
noncomputable def i35 : TI := ⟨.slice 9, 1, Bool.false, (Value.slice Option.none 0 0), 24, some (.rc .strs [] 0)⟩
theorem k35 : TIok Try.prog 35 i35 := tiok (by exact Try.underlying35) Try.sizeOf35 Try.isAgg35 Try.zeroValue35 rfl Try.typeInfo35 rfl (fun h => by have h' : (some (.rc .strs [] 0) : Option E) = some .attr := h; cases h')
noncomputable def i36 : TI := ⟨.struct [(3, 0), (23, 1), (23, 2), (9, 3), (9, 4), (35, 5)], 6, Bool.true, (Value.agg #[Value.int IntKind.i64 0, Value.slice Option.none 0 0, Value.slice Option.none 0 0, Value.string { data := #[] }, Value.string { data := #[] }, Value.slice Option.none 0 0]), 112, none⟩
theorem k36 : TIok Try.prog 36 i36 := tiok (by exact ⟨_, Try.underlying36, rfl⟩) Try.sizeOf36 Try.isAgg36 Try.zeroValue36 rfl Try.typeInfo36 rfl (fun h => by have h' : (none : Option E) = some .attr := h; cases h')
noncomputable def i37 : TI := ⟨.struct [(3, 0), (23, 1), (23, 2), (9, 3), (9, 4), (35, 5)], 6, Bool.true, (Value.agg #[Value.int IntKind.i64 0, Value.slice Option.none 0 0, Value.slice Option.none 0 0, Value.string { data := #[] }, Value.string { data := #[] }, Value.slice Option.none 0 0]), 112, some (.rc (.int .i64) [.ints, .ints, .str, .str, .strs] 0)⟩
theorem k37 : TIok Try.prog 37 i37 := tiok (by exact ⟨_, Try.underlying37, rfl⟩) Try.sizeOf37 Try.isAgg37 Try.zeroValue37 rfl Try.typeInfo37 rfl (fun h => by have h' : (some (.rc (.int .i64) [.ints, .ints, .str, .str, .strs] 0) : Option E) = some .attr := h; cases h')
noncomputable def i38 : TI := ⟨.func, 1, Bool.false, Value.nilFunc, 8, none⟩
theorem k38 : TIok Try.prog 38 i38 := tiok (by exact ⟨_, _, _, Try.underlying38⟩) Try.sizeOf38 Try.isAgg38 Try.zeroValue38 rfl Try.typeInfo38 rfl (fun h => by have h' : (none : Option E) = some .attr := h; cases h')
noncomputable def i39 : TI := ⟨.other, 1, Bool.false, (Value.tuple #[Value.slice Option.none 0 0, Value.slice Option.none 0 0, Value.bool Bool.false]), 0, none⟩
theorem k39 : TIok Try.prog 39 i39 := tiok (by exact trivial) Try.sizeOf39 Try.isAgg39 Try.zeroValue39 rfl Try.typeInfo39 rfl (fun h => by have h' : (none : Option E) = some .attr := h; cases h')
noncomputable def i40 : TI := ⟨.func, 1, Bool.false, Value.nilFunc, 8, none⟩
theorem k40 : TIok Try.prog 40 i40 := tiok (by exact ⟨_, _, _, Try.underlying40⟩) Try.sizeOf40 Try.isAgg40 Try.zeroValue40 rfl Try.typeInfo40 rfl (fun h => by have h' : (none : Option E) = some .attr := h; cases h')
noncomputable def i41 : TI := ⟨.func, 1, Bool.false, Value.nilFunc, 8, none⟩
theorem k41 : TIok Try.prog 41 i41 := tiok (by exact ⟨_, _, _, Try.underlying41⟩) Try.sizeOf41 Try.isAgg41 Try.zeroValue41 rfl Try.typeInfo41 rfl (fun h => by have h' : (none : Option E) = some .attr := h; cases h')
noncomputable def i42 : TI := ⟨.slice 61, 1, Bool.false, (Value.slice Option.none 0 0), 24, none⟩
theorem k42 : TIok Try.prog 42 i42 := tiok (by exact Try.underlying42) Try.sizeOf42 Try.isAgg42 Try.zeroValue42 rfl Try.typeInfo42 rfl (fun h => by have h' : (none : Option E) = some .attr := h; cases h')
noncomputable def i43 : TI := ⟨.struct [(3, 0), (9, 1), (9, 2), (42, 3), (3, 4)], 5, Bool.true, (Value.agg #[Value.int IntKind.i64 0, Value.string { data := #[] }, Value.string { data := #[] }, Value.slice Option.none 0 0, Value.int IntKind.i64 0]), 72, none⟩
theorem k43 : TIok Try.prog 43 i43 := tiok (by exact ⟨_, Try.underlying43, rfl⟩) Try.sizeOf43 Try.isAgg43 Try.zeroValue43 rfl Try.typeInfo43 rfl (fun h => by have h' : (none : Option E) = some .attr := h; cases h')
noncomputable def i44 : TI := ⟨.struct [(3, 0), (9, 1), (9, 2), (42, 3), (3, 4)], 5, Bool.true, (Value.agg #[Value.int IntKind.i64 0, Value.string { data := #[] }, Value.string { data := #[] }, Value.slice Option.none 0 0, Value.int IntKind.i64 0]), 72, some .node⟩
theorem k44 : TIok Try.prog 44 i44 := tiok (by exact ⟨_, Try.underlying44, rfl⟩) Try.sizeOf44 Try.isAgg44 Try.zeroValue44 rfl Try.typeInfo44 rfl (fun h => by have h' : (some .node : Option E) = some .attr := h; cases h')
noncomputable def i45 : TI := ⟨.func, 1, Bool.false, Value.nilFunc, 8, none⟩
theorem k45 : TIok Try.prog 45 i45 := tiok (by exact ⟨_, _, _, Try.underlying45⟩) Try.sizeOf45 Try.isAgg45 Try.zeroValue45 rfl Try.typeInfo45 rfl (fun h => by have h' : (none : Option E) = some .attr := h; cases h')
noncomputable def i46 : TI := ⟨.func, 1, Bool.false, Value.nilFunc, 8, none⟩
theorem k46 : TIok Try.prog 46 i46 := tiok (by exact ⟨_, _, _, Try.underlying46⟩) Try.sizeOf46 Try.isAgg46 Try.zeroValue46 rfl Try.typeInfo46 rfl (fun h => by have h' : (none : Option E) = some .attr := h; cases h')
noncomputable def i47 : TI := ⟨.other, 1, Bool.false, (Value.tuple #[Value.slice Option.none 0 0, Value.int IntKind.i64 0]), 0, none⟩
theorem k47 : TIok Try.prog 47 i47 := tiok (by exact trivial) Try.sizeOf47 Try.isAgg47 Try.zeroValue47 rfl Try.typeInfo47 rfl (fun h => by have h' : (none : Option E) = some .attr := h; cases h')
noncomputable def i48 : TI := ⟨.func, 1, Bool.false, Value.nilFunc, 8, none⟩
theorem k48 : TIok Try.prog 48 i48 := tiok (by exact ⟨_, _, _, Try.underlying48⟩) Try.sizeOf48 Try.isAgg48 Try.zeroValue48 rfl Try.typeInfo48 rfl (fun h => by have h' : (none : Option E) = some .attr := h; cases h')
noncomputable def i49 : TI := ⟨.func, 1, Bool.false, Value.nilFunc, 8, none⟩
theorem k49 : TIok Try.prog 49 i49 := tiok (by exact ⟨_, _, _, Try.underlying49⟩) Try.sizeOf49 Try.isAgg49 Try.zeroValue49 rfl Try.typeInfo49 rfl (fun h => by have h' : (none : Option E) = some .attr := h; cases h')
noncomputable def i50 : TI := ⟨.func, 1, Bool.false, Value.nilFunc, 8, none⟩
theorem k50 : TIok Try.prog 50 i50 := tiok (by exact ⟨_, _, _, Try.underlying50⟩) Try.sizeOf50 Try.isAgg50 Try.zeroValue50 rfl Try.typeInfo50 rfl (fun h => by have h' : (none : Option E) = some .attr := h; cases h')
noncomputable def i51 : TI := ⟨.func, 1, Bool.false, Value.nilFunc, 8, none⟩
theorem k51 : TIok Try.prog 51 i51 := tiok (by exact ⟨_, _, _, Try.underlying51⟩) Try.sizeOf51 Try.isAgg51 Try.zeroValue51 rfl Try.typeInfo51 rfl (fun h => by have h' : (none : Option E) = some .attr := h; cases h')
noncomputable def i52 : TI := ⟨.func, 1, Bool.false, Value.nilFunc, 8, none⟩
theorem k52 : TIok Try.prog 52 i52 := tiok (by exact ⟨_, _, _, Try.underlying52⟩) Try.sizeOf52 Try.isAgg52 Try.zeroValue52 rfl Try.typeInfo52 rfl (fun h => by have h' : (none : Option E) = some .attr := h; cases h')
noncomputable def i53 : TI := ⟨.func, 1, Bool.false, Value.nilFunc, 8, none⟩
theorem k53 : TIok Try.prog 53 i53 := tiok (by exact ⟨_, _, _, Try.underlying53⟩) Try.sizeOf53 Try.isAgg53 Try.zeroValue53 rfl Try.typeInfo53 rfl (fun h => by have h' : (none : Option E) = some .attr := h; cases h')
noncomputable def i54 : TI := ⟨.func, 1, Bool.false, Value.nilFunc, 8, none⟩
theorem k54 : TIok Try.prog 54 i54 := tiok (by exact ⟨_, _, _, Try.underlying54⟩) Try.sizeOf54 Try.isAgg54 Try.zeroValue54 rfl Try.typeInfo54 rfl (fun h => by have h' : (none : Option E) = some .attr := h; cases h')
noncomputable def i55 : TI := ⟨.func, 1, Bool.false, Value.nilFunc, 8, none⟩
theorem k55 : TIok Try.prog 55 i55 := tiok (by exact ⟨_, _, _, Try.underlying55⟩) Try.sizeOf55 Try.isAgg55 Try.zeroValue55 rfl Try.typeInfo55 rfl (fun h => by have h' : (none : Option E) = some .attr := h; cases h')
noncomputable def i56 : TI := ⟨.func, 1, Bool.false, Value.nilFunc, 8, none⟩
theorem k56 : TIok Try.prog 56 i56 := tiok (by exact ⟨_, _, _, Try.underlying56⟩) Try.sizeOf56 Try.isAgg56 Try.zeroValue56 rfl Try.typeInfo56 rfl (fun h => by have h' : (none : Option E) = some .attr := h; cases h')
noncomputable def i57 : TI := ⟨.func, 1, Bool.false, Value.nilFunc, 8, none⟩
theorem k57 : TIok Try.prog 57 i57 := tiok (by exact ⟨_, _, _, Try.underlying57⟩) Try.sizeOf57 Try.isAgg57 Try.zeroValue57 rfl Try.typeInfo57 rfl (fun h => by have h' : (none : Option E) = some .attr := h; cases h')
noncomputable def i58 : TI := ⟨.func, 1, Bool.false, Value.nilFunc, 8, none⟩
theorem k58 : TIok Try.prog 58 i58 := tiok (by exact ⟨_, _, _, Try.underlying58⟩) Try.sizeOf58 Try.isAgg58 Try.zeroValue58 rfl Try.typeInfo58 rfl (fun h => by have h' : (none : Option E) = some .attr := h; cases h')
noncomputable def i59 : TI := ⟨.func, 1, Bool.false, Value.nilFunc, 8, none⟩
theorem k59 : TIok Try.prog 59 i59 := tiok (by exact ⟨_, _, _, Try.underlying59⟩) Try.sizeOf59 Try.isAgg59 Try.zeroValue59 rfl Try.typeInfo59 rfl (fun h => by have h' : (none : Option E) = some .attr := h; cases h')
noncomputable def i60 : TI := ⟨.struct [(9, 0), (9, 1)], 2, Bool.true, (Value.agg #[Value.string { data := #[] }, Value.string { data := #[] }]), 32, none⟩
theorem k60 : TIok Try.prog 60 i60 := tiok (by exact ⟨_, Try.underlying60, rfl⟩) Try.sizeOf60 Try.isAgg60 Try.zeroValue60 rfl Try.typeInfo60 rfl (fun h => by have h' : (none : Option E) = some .attr := h; cases h')
noncomputable def i61 : TI := ⟨.struct [(9, 0), (9, 1)], 2, Bool.true, (Value.agg #[Value.string { data := #[] }, Value.string { data := #[] }]), 32, some .attr⟩
theorem k61 : TIok Try.prog 61 i61 := tiok (by exact ⟨_, Try.underlying61, rfl⟩) Try.sizeOf61 Try.isAgg61 Try.zeroValue61 rfl Try.typeInfo61 rfl (fun _ => ⟨9, _, _, Try.underlying61, by decide, by decide, rfl, rfl, rfl, rfl, Try.underlying9, Try.isAgg9, by kernel_rfl, by kernel_rfl⟩)
noncomputable def i62 : TI := ⟨.func, 1, Bool.false, Value.nilFunc, 8, none⟩
theorem k62 : TIok Try.prog 62 i62 := tiok (by exact ⟨_, _, _, Try.underlying62⟩) Try.sizeOf62 Try.isAgg62 Try.zeroValue62 rfl Try.typeInfo62 rfl (fun h => by have h' : (none : Option E) = some .attr := h; cases h')
noncomputable def i63 : TI := ⟨.func, 1, Bool.false, Value.nilFunc, 8, none⟩
theorem k63 : TIok Try.prog 63 i63 := tiok (by exact ⟨_, _, _, Try.underlying63⟩) Try.sizeOf63 Try.isAgg63 Try.zeroValue63 rfl Try.typeInfo63 rfl (fun h => by have h' : (none : Option E) = some .attr := h; cases h')
noncomputable def i64 : TI := ⟨.func, 1, Bool.false, Value.nilFunc, 8, none⟩
theorem k64 : TIok Try.prog 64 i64 := tiok (by exact ⟨_, _, _, Try.underlying64⟩) Try.sizeOf64 Try.isAgg64 Try.zeroValue64 rfl Try.typeInfo64 rfl (fun h => by have h' : (none : Option E) = some .attr := h; cases h')
noncomputable def i65 : TI := ⟨.func, 1, Bool.false, Value.nilFunc, 8, none⟩
theorem k65 : TIok Try.prog 65 i65 := tiok (by exact ⟨_, _, _, Try.underlying65⟩) Try.sizeOf65 Try.isAgg65 Try.zeroValue65 rfl Try.typeInfo65 rfl (fun h => by have h' : (none : Option E) = some .attr := h; cases h')
noncomputable def i66 : TI := ⟨.func, 1, Bool.false, Value.nilFunc, 8, none⟩
theorem k66 : TIok Try.prog 66 i66 := tiok (by exact ⟨_, _, _, Try.underlying66⟩) Try.sizeOf66 Try.isAgg66 Try.zeroValue66 rfl Try.typeInfo66 rfl (fun h => by have h' : (none : Option E) = some .attr := h; cases h')
noncomputable def i67 : TI := ⟨.ptr 74, 1, Bool.false, (Value.pointer Option.none), 8, none⟩
theorem k67 : TIok Try.prog 67 i67 := tiok (by exact Try.underlying67) Try.sizeOf67 Try.isAgg67 Try.zeroValue67 rfl Try.typeInfo67 rfl (fun h => by have h' : (none : Option E) = some .attr := h; cases h')
noncomputable def i68 : TI := ⟨.slice 76, 1, Bool.false, (Value.slice Option.none 0 0), 24, some (.rc .nps [] 0)⟩
theorem k68 : TIok Try.prog 68 i68 := tiok (by exact Try.underlying68) Try.sizeOf68 Try.isAgg68 Try.zeroValue68 rfl Try.typeInfo68 rfl (fun h => by have h' : (some (.rc .nps [] 0) : Option E) = some .attr := h; cases h')
noncomputable def i69 : TI := ⟨.other, 1, Bool.false, (Value.tuple #[Value.pointer Option.none, Value.slice Option.none 0 0, Value.bool Bool.false]), 0, none⟩
theorem k69 : TIok Try.prog 69 i69 := tiok (by exact trivial) Try.sizeOf69 Try.isAgg69 Try.zeroValue69 rfl Try.typeInfo69 rfl (fun h => by have h' : (none : Option E) = some .attr := h; cases h')
noncomputable def i70 : TI := ⟨.func, 1, Bool.false, Value.nilFunc, 8, none⟩
theorem k70 : TIok Try.prog 70 i70 := tiok (by exact ⟨_, _, _, Try.underlying70⟩) Try.sizeOf70 Try.isAgg70 Try.zeroValue70 rfl Try.typeInfo70 rfl (fun h => by have h' : (none : Option E) = some .attr := h; cases h')
noncomputable def i71 : TI := ⟨.func, 1, Bool.false, Value.nilFunc, 8, none⟩
theorem k71 : TIok Try.prog 71 i71 := tiok (by exact ⟨_, _, _, Try.underlying71⟩) Try.sizeOf71 Try.isAgg71 Try.zeroValue71 rfl Try.typeInfo71 rfl (fun h => by have h' : (none : Option E) = some .attr := h; cases h')
noncomputable def i72 : TI := ⟨.ptr 137, 1, Bool.false, (Value.pointer Option.none), 8, none⟩
theorem k72 : TIok Try.prog 72 i72 := tiok (by exact Try.underlying72) Try.sizeOf72 Try.isAgg72 Try.zeroValue72 rfl Try.typeInfo72 rfl (fun h => by have h' : (none : Option E) = some .attr := h; cases h')
noncomputable def i73 : TI := ⟨.struct [(68, 0), (72, 1), (67, 2)], 3, Bool.true, (Value.agg #[Value.slice Option.none 0 0, Value.pointer Option.none, Value.pointer Option.none]), 40, none⟩
theorem k73 : TIok Try.prog 73 i73 := tiok (by exact ⟨_, Try.underlying73, rfl⟩) Try.sizeOf73 Try.isAgg73 Try.zeroValue73 rfl Try.typeInfo73 rfl (fun h => by have h' : (none : Option E) = some .attr := h; cases h')
noncomputable def i74 : TI := ⟨.struct [(68, 0), (72, 1), (67, 2)], 3, Bool.true, (Value.agg #[Value.slice Option.none 0 0, Value.pointer Option.none, Value.pointer Option.none]), 40, some (.rc .nps [] 2)⟩
theorem k74 : TIok Try.prog 74 i74 := tiok (by exact ⟨_, Try.underlying74, rfl⟩) Try.sizeOf74 Try.isAgg74 Try.zeroValue74 rfl Try.typeInfo74 rfl (fun h => by have h' : (some (.rc .nps [] 2) : Option E) = some .attr := h; cases h')
noncomputable def i75 : TI := ⟨.func, 1, Bool.false, Value.nilFunc, 8, none⟩
theorem k75 : TIok Try.prog 75 i75 := tiok (by exact ⟨_, _, _, Try.underlying75⟩) Try.sizeOf75 Try.isAgg75 Try.zeroValue75 rfl Try.typeInfo75 rfl (fun h => by have h' : (none : Option E) = some .attr := h; cases h')
noncomputable def i76 : TI := ⟨.ptr 126, 1, Bool.false, (Value.pointer Option.none), 8, some .np⟩
theorem k76 : TIok Try.prog 76 i76 := tiok (by exact Try.underlying76) Try.sizeOf76 Try.isAgg76 Try.zeroValue76 rfl Try.typeInfo76 rfl (fun h => by have h' : (some .np : Option E) = some .attr := h; cases h')
noncomputable def i77 : TI := ⟨.func, 1, Bool.false, Value.nilFunc, 8, none⟩
theorem k77 : TIok Try.prog 77 i77 := tiok (by exact ⟨_, _, _, Try.underlying77⟩) Try.sizeOf77 Try.isAgg77 Try.zeroValue77 rfl Try.typeInfo77 rfl (fun h => by have h' : (none : Option E) = some .attr := h; cases h')
noncomputable def i78 : TI := ⟨.func, 1, Bool.false, Value.nilFunc, 8, none⟩
theorem k78 : TIok Try.prog 78 i78 := tiok (by exact ⟨_, _, _, Try.underlying78⟩) Try.sizeOf78 Try.isAgg78 Try.zeroValue78 rfl Try.typeInfo78 rfl (fun h => by have h' : (none : Option E) = some .attr := h; cases h')
noncomputable def i79 : TI := ⟨.func, 1, Bool.false, Value.nilFunc, 8, none⟩
theorem k79 : TIok Try.prog 79 i79 := tiok (by exact ⟨_, _, _, Try.underlying79⟩) Try.sizeOf79 Try.isAgg79 Try.zeroValue79 rfl Try.typeInfo79 rfl (fun h => by have h' : (none : Option E) = some .attr := h; cases h')
noncomputable def i80 : TI := ⟨.slice 37, 1, Bool.false, (Value.slice Option.none 0 0), 24, none⟩
theorem k80 : TIok Try.prog 80 i80 := tiok (by exact Try.underlying80) Try.sizeOf80 Try.isAgg80 Try.zeroValue80 rfl Try.typeInfo80 rfl (fun h => by have h' : (none : Option E) = some .attr := h; cases h')
noncomputable def i81 : TI := ⟨.ptr 87, 1, Bool.false, (Value.pointer Option.none), 8, none⟩
theorem k81 : TIok Try.prog 81 i81 := tiok (by exact Try.underlying81) Try.sizeOf81 Try.isAgg81 Try.zeroValue81 rfl Try.typeInfo81 rfl (fun h => by have h' : (none : Option E) = some .attr := h; cases h')
noncomputable def i82 : TI := ⟨.other, 1, Bool.false, (Value.tuple #[Value.pointer Option.none, Value.pointer Option.none, Value.bool Bool.false]), 0, none⟩
theorem k82 : TIok Try.prog 82 i82 := tiok (by exact trivial) Try.sizeOf82 Try.isAgg82 Try.zeroValue82 rfl Try.typeInfo82 rfl (fun h => by have h' : (none : Option E) = some .attr := h; cases h')
noncomputable def i83 : TI := ⟨.func, 1, Bool.false, Value.nilFunc, 8, none⟩
theorem k83 : TIok Try.prog 83 i83 := tiok (by exact ⟨_, _, _, Try.underlying83⟩) Try.sizeOf83 Try.isAgg83 Try.zeroValue83 rfl Try.typeInfo83 rfl (fun h => by have h' : (none : Option E) = some .attr := h; cases h')
noncomputable def i84 : TI := ⟨.other, 1, Bool.false, (Value.tuple #[Value.slice Option.none 0 0, Value.bool Bool.false]), 0, none⟩
theorem k84 : TIok Try.prog 84 i84 := tiok (by exact trivial) Try.sizeOf84 Try.isAgg84 Try.zeroValue84 rfl Try.typeInfo84 rfl (fun h => by have h' : (none : Option E) = some .attr := h; cases h')
noncomputable def i85 : TI := ⟨.func, 1, Bool.false, Value.nilFunc, 8, none⟩
theorem k85 : TIok Try.prog 85 i85 := tiok (by exact ⟨_, _, _, Try.underlying85⟩) Try.sizeOf85 Try.isAgg85 Try.zeroValue85 rfl Try.typeInfo85 rfl (fun h => by have h' : (none : Option E) = some .attr := h; cases h')
noncomputable def i86 : TI := ⟨.struct [(68, 0), (67, 1)], 2, Bool.true, (Value.agg #[Value.slice Option.none 0 0, Value.pointer Option.none]), 32, none⟩
theorem k86 : TIok Try.prog 86 i86 := tiok (by exact ⟨_, Try.underlying86, rfl⟩) Try.sizeOf86 Try.isAgg86 Try.zeroValue86 rfl Try.typeInfo86 rfl (fun h => by have h' : (none : Option E) = some .attr := h; cases h')
noncomputable def i87 : TI := ⟨.struct [(68, 0), (67, 1)], 2, Bool.true, (Value.agg #[Value.slice Option.none 0 0, Value.pointer Option.none]), 32, some (.rc .nps [.fnil] 0)⟩
theorem k87 : TIok Try.prog 87 i87 := tiok (by exact ⟨_, Try.underlying87, rfl⟩) Try.sizeOf87 Try.isAgg87 Try.zeroValue87 rfl Try.typeInfo87 rfl (fun h => by have h' : (some (.rc .nps [.fnil] 0) : Option E) = some .attr := h; cases h')
noncomputable def i88 : TI := ⟨.func, 1, Bool.false, Value.nilFunc, 8, none⟩
theorem k88 : TIok Try.prog 88 i88 := tiok (by exact ⟨_, _, _, Try.underlying88⟩) Try.sizeOf88 Try.isAgg88 Try.zeroValue88 rfl Try.typeInfo88 rfl (fun h => by have h' : (none : Option E) = some .attr := h; cases h')
noncomputable def i89 : TI := ⟨.other, 1, Bool.false, (Value.tuple #[Value.slice Option.none 0 0, Value.slice Option.none 0 0]), 0, none⟩
theorem k89 : TIok Try.prog 89 i89 := tiok (by exact trivial) Try.sizeOf89 Try.isAgg89 Try.zeroValue89 rfl Try.typeInfo89 rfl (fun h => by have h' : (none : Option E) = some .attr := h; cases h')
noncomputable def i90 : TI := ⟨.func, 1, Bool.false, Value.nilFunc, 8, none⟩
theorem k90 : TIok Try.prog 90 i90 := tiok (by exact ⟨_, _, _, Try.underlying90⟩) Try.sizeOf90 Try.isAgg90 Try.zeroValue90 rfl Try.typeInfo90 rfl (fun h => by have h' : (none : Option E) = some .attr := h; cases h')
noncomputable def i91 : TI := ⟨.func, 1, Bool.false, Value.nilFunc, 8, none⟩
theorem k91 : TIok Try.prog 91 i91 := tiok (by exact ⟨_, _, _, Try.underlying91⟩) Try.sizeOf91 Try.isAgg91 Try.zeroValue91 rfl Try.typeInfo91 rfl (fun h => by have h' : (none : Option E) = some .attr := h; cases h')
noncomputable def i92 : TI := ⟨.func, 1, Bool.false, Value.nilFunc, 8, none⟩
theorem k92 : TIok Try.prog 92 i92 := tiok (by exact ⟨_, _, _, Try.underlying92⟩) Try.sizeOf92 Try.isAgg92 Try.zeroValue92 rfl Try.typeInfo92 rfl (fun h => by have h' : (none : Option E) = some .attr := h; cases h')
noncomputable def i93 : TI := ⟨.func, 1, Bool.false, Value.nilFunc, 8, none⟩
theorem k93 : TIok Try.prog 93 i93 := tiok (by exact ⟨_, _, _, Try.underlying93⟩) Try.sizeOf93 Try.isAgg93 Try.zeroValue93 rfl Try.typeInfo93 rfl (fun h => by have h' : (none : Option E) = some .attr := h; cases h')
noncomputable def i94 : TI := ⟨.func, 1, Bool.false, Value.nilFunc, 8, none⟩
theorem k94 : TIok Try.prog 94 i94 := tiok (by exact ⟨_, _, _, Try.underlying94⟩) Try.sizeOf94 Try.isAgg94 Try.zeroValue94 rfl Try.typeInfo94 rfl (fun h => by have h' : (none : Option E) = some .attr := h; cases h')
noncomputable def i95 : TI := ⟨.func, 1, Bool.false, Value.nilFunc, 8, none⟩
theorem k95 : TIok Try.prog 95 i95 := tiok (by exact ⟨_, _, _, Try.underlying95⟩) Try.sizeOf95 Try.isAgg95 Try.zeroValue95 rfl Try.typeInfo95 rfl (fun h => by have h' : (none : Option E) = some .attr := h; cases h')
noncomputable def i96 : TI := ⟨.func, 1, Bool.false, Value.nilFunc, 8, none⟩
theorem k96 : TIok Try.prog 96 i96 := tiok (by exact ⟨_, _, _, Try.underlying96⟩) Try.sizeOf96 Try.isAgg96 Try.zeroValue96 rfl Try.typeInfo96 rfl (fun h => by have h' : (none : Option E) = some .attr := h; cases h')
noncomputable def i97 : TI := ⟨.func, 1, Bool.false, Value.nilFunc, 8, none⟩
theorem k97 : TIok Try.prog 97 i97 := tiok (by exact ⟨_, _, _, Try.underlying97⟩) Try.sizeOf97 Try.isAgg97 Try.zeroValue97 rfl Try.typeInfo97 rfl (fun h => by have h' : (none : Option E) = some .attr := h; cases h')
noncomputable def i98 : TI := ⟨.ptr 101, 1, Bool.false, (Value.pointer Option.none), 8, none⟩
theorem k98 : TIok Try.prog 98 i98 := tiok (by exact Try.underlying98) Try.sizeOf98 Try.isAgg98 Try.zeroValue98 rfl Try.typeInfo98 rfl (fun h => by have h' : (none : Option E) = some .attr := h; cases h')
noncomputable def i99 : TI := ⟨.slice 5, 1, Bool.false, (Value.slice Option.none 0 0), 24, none⟩
theorem k99 : TIok Try.prog 99 i99 := tiok (by exact Try.underlying99) Try.sizeOf99 Try.isAgg99 Try.zeroValue99 rfl Try.typeInfo99 rfl (fun h => by have h' : (none : Option E) = some .attr := h; cases h')
noncomputable def i100 : TI := ⟨.struct [(98, 0), (99, 1)], 2, Bool.true, (Value.agg #[Value.pointer Option.none, Value.slice Option.none 0 0]), 32, none⟩
theorem k100 : TIok Try.prog 100 i100 := tiok (by exact ⟨_, Try.underlying100, rfl⟩) Try.sizeOf100 Try.isAgg100 Try.zeroValue100 rfl Try.typeInfo100 rfl (fun h => by have h' : (none : Option E) = some .attr := h; cases h')
noncomputable def i101 : TI := ⟨.struct [(98, 0), (99, 1)], 2, Bool.true, (Value.agg #[Value.pointer Option.none, Value.slice Option.none 0 0]), 32, none⟩
theorem k101 : TIok Try.prog 101 i101 := tiok (by exact ⟨_, Try.underlying101, rfl⟩) Try.sizeOf101 Try.isAgg101 Try.zeroValue101 rfl Try.typeInfo101 rfl (fun h => by have h' : (none : Option E) = some .attr := h; cases h')
noncomputable def i102 : TI := ⟨.func, 1, Bool.false, Value.nilFunc, 8, none⟩
theorem k102 : TIok Try.prog 102 i102 := tiok (by exact ⟨_, _, _, Try.underlying102⟩) Try.sizeOf102 Try.isAgg102 Try.zeroValue102 rfl Try.typeInfo102 rfl (fun h => by have h' : (none : Option E) = some .attr := h; cases h')
noncomputable def i103 : TI := ⟨.func, 1, Bool.false, Value.nilFunc, 8, none⟩
theorem k103 : TIok Try.prog 103 i103 := tiok (by exact ⟨_, _, _, Try.underlying103⟩) Try.sizeOf103 Try.isAgg103 Try.zeroValue103 rfl Try.typeInfo103 rfl (fun h => by have h' : (none : Option E) = some .attr := h; cases h')
noncomputable def i104 : TI := ⟨.func, 1, Bool.false, Value.nilFunc, 8, none⟩
theorem k104 : TIok Try.prog 104 i104 := tiok (by exact ⟨_, _, _, Try.underlying104⟩) Try.sizeOf104 Try.isAgg104 Try.zeroValue104 rfl Try.typeInfo104 rfl (fun h => by have h' : (none : Option E) = some .attr := h; cases h')
noncomputable def i105 : TI := ⟨.other, 1, Bool.false, (Value.tuple #[Value.slice Option.none 0 0, Value.slice Option.none 0 0]), 0, none⟩
theorem k105 : TIok Try.prog 105 i105 := tiok (by exact trivial) Try.sizeOf105 Try.isAgg105 Try.zeroValue105 rfl Try.typeInfo105 rfl (fun h => by have h' : (none : Option E) = some .attr := h; cases h')
noncomputable def i106 : TI := ⟨.func, 1, Bool.false, Value.nilFunc, 8, none⟩
theorem k106 : TIok Try.prog 106 i106 := tiok (by exact ⟨_, _, _, Try.underlying106⟩) Try.sizeOf106 Try.isAgg106 Try.zeroValue106 rfl Try.typeInfo106 rfl (fun h => by have h' : (none : Option E) = some .attr := h; cases h')
noncomputable def i107 : TI := ⟨.ptr 112, 1, Bool.false, (Value.pointer Option.none), 8, none⟩
theorem k107 : TIok Try.prog 107 i107 := tiok (by exact Try.underlying107) Try.sizeOf107 Try.isAgg107 Try.zeroValue107 rfl Try.typeInfo107 rfl (fun h => by have h' : (none : Option E) = some .attr := h; cases h')
noncomputable def i108 : TI := ⟨.func, 1, Bool.false, Value.nilFunc, 8, none⟩
theorem k108 : TIok Try.prog 108 i108 := tiok (by exact ⟨_, _, _, Try.underlying108⟩) Try.sizeOf108 Try.isAgg108 Try.zeroValue108 rfl Try.typeInfo108 rfl (fun h => by have h' : (none : Option E) = some .attr := h; cases h')
noncomputable def i109 : TI := ⟨.func, 1, Bool.false, Value.nilFunc, 8, none⟩
theorem k109 : TIok Try.prog 109 i109 := tiok (by exact ⟨_, _, _, Try.underlying109⟩) Try.sizeOf109 Try.isAgg109 Try.zeroValue109 rfl Try.typeInfo109 rfl (fun h => by have h' : (none : Option E) = some .attr := h; cases h')
noncomputable def i110 : TI := ⟨.slice 113, 1, Bool.false, (Value.slice Option.none 0 0), 24, some (.rc .nps [] 0)⟩
theorem k110 : TIok Try.prog 110 i110 := tiok (by exact Try.underlying110) Try.sizeOf110 Try.isAgg110 Try.zeroValue110 rfl Try.typeInfo110 rfl (fun h => by have h' : (some (.rc .nps [] 0) : Option E) = some .attr := h; cases h')
noncomputable def i111 : TI := ⟨.struct [(110, 0), (3, 1), (4, 2)], 3, Bool.true, (Value.agg #[Value.slice Option.none 0 0, Value.int IntKind.i64 0, Value.bool Bool.false]), 40, none⟩
theorem k111 : TIok Try.prog 111 i111 := tiok (by exact ⟨_, Try.underlying111, rfl⟩) Try.sizeOf111 Try.isAgg111 Try.zeroValue111 rfl Try.typeInfo111 rfl (fun h => by have h' : (none : Option E) = some .attr := h; cases h')
noncomputable def i112 : TI := ⟨.struct [(110, 0), (3, 1), (4, 2)], 3, Bool.true, (Value.agg #[Value.slice Option.none 0 0, Value.int IntKind.i64 0, Value.bool Bool.false]), 40, none⟩
theorem k112 : TIok Try.prog 112 i112 := tiok (by exact ⟨_, Try.underlying112, rfl⟩) Try.sizeOf112 Try.isAgg112 Try.zeroValue112 rfl Try.typeInfo112 rfl (fun h => by have h' : (none : Option E) = some .attr := h; cases h')
noncomputable def i113 : TI := ⟨.ptr 146, 1, Bool.false, (Value.pointer Option.none), 8, some .np⟩
theorem k113 : TIok Try.prog 113 i113 := tiok (by exact Try.underlying113) Try.sizeOf113 Try.isAgg113 Try.zeroValue113 rfl Try.typeInfo113 rfl (fun h => by have h' : (some .np : Option E) = some .attr := h; cases h')
noncomputable def i114 : TI := ⟨.func, 1, Bool.false, Value.nilFunc, 8, none⟩
theorem k114 : TIok Try.prog 114 i114 := tiok (by exact ⟨_, _, _, Try.underlying114⟩) Try.sizeOf114 Try.isAgg114 Try.zeroValue114 rfl Try.typeInfo114 rfl (fun h => by have h' : (none : Option E) = some .attr := h; cases h')
noncomputable def i115 : TI := ⟨.other, 1, Bool.false, (Value.tuple #[Value.pointer Option.none, Value.bool Bool.false]), 0, none⟩
theorem k115 : TIok Try.prog 115 i115 := tiok (by exact trivial) Try.sizeOf115 Try.isAgg115 Try.zeroValue115 rfl Try.typeInfo115 rfl (fun h => by have h' : (none : Option E) = some .attr := h; cases h')
noncomputable def i116 : TI := ⟨.func, 1, Bool.false, Value.nilFunc, 8, none⟩
theorem k116 : TIok Try.prog 116 i116 := tiok (by exact ⟨_, _, _, Try.underlying116⟩) Try.sizeOf116 Try.isAgg116 Try.zeroValue116 rfl Try.typeInfo116 rfl (fun h => by have h' : (none : Option E) = some .attr := h; cases h')
noncomputable def i117 : TI := ⟨.func, 1, Bool.false, Value.nilFunc, 8, none⟩
theorem k117 : TIok Try.prog 117 i117 := tiok (by exact ⟨_, _, _, Try.underlying117⟩) Try.sizeOf117 Try.isAgg117 Try.zeroValue117 rfl Try.typeInfo117 rfl (fun h => by have h' : (none : Option E) = some .attr := h; cases h')
noncomputable def i118 : TI := ⟨.func, 1, Bool.false, Value.nilFunc, 8, none⟩
theorem k118 : TIok Try.prog 118 i118 := tiok (by exact ⟨_, _, _, Try.underlying118⟩) Try.sizeOf118 Try.isAgg118 Try.zeroValue118 rfl Try.typeInfo118 rfl (fun h => by have h' : (none : Option E) = some .attr := h; cases h')
noncomputable def i119 : TI := ⟨.func, 1, Bool.false, Value.nilFunc, 8, none⟩
theorem k119 : TIok Try.prog 119 i119 := tiok (by exact ⟨_, _, _, Try.underlying119⟩) Try.sizeOf119 Try.isAgg119 Try.zeroValue119 rfl Try.typeInfo119 rfl (fun h => by have h' : (none : Option E) = some .attr := h; cases h')
noncomputable def i120 : TI := ⟨.func, 1, Bool.false, Value.nilFunc, 8, none⟩
theorem k120 : TIok Try.prog 120 i120 := tiok (by exact ⟨_, _, _, Try.underlying120⟩) Try.sizeOf120 Try.isAgg120 Try.zeroValue120 rfl Try.typeInfo120 rfl (fun h => by have h' : (none : Option E) = some .attr := h; cases h')
noncomputable def i121 : TI := ⟨.int .u32, 1, Bool.false, (Value.int IntKind.u32 0), 4, none⟩
theorem k121 : TIok Try.prog 121 i121 := tiok (by exact Try.underlying121) Try.sizeOf121 Try.isAgg121 Try.zeroValue121 rfl Try.typeInfo121 rfl (fun h => by have h' : (none : Option E) = some .attr := h; cases h')
noncomputable def i122 : TI := ⟨.int .u32, 1, Bool.false, (Value.int IntKind.u32 0), 4, none⟩
theorem k122 : TIok Try.prog 122 i122 := tiok (by exact Try.underlying122) Try.sizeOf122 Try.isAgg122 Try.zeroValue122 rfl Try.typeInfo122 rfl (fun h => by have h' : (none : Option E) = some .attr := h; cases h')
noncomputable def i123 : TI := ⟨.int .u32, 1, Bool.false, (Value.int IntKind.u32 0), 4, none⟩
theorem k123 : TIok Try.prog 123 i123 := tiok (by exact Try.underlying123) Try.sizeOf123 Try.isAgg123 Try.zeroValue123 rfl Try.typeInfo123 rfl (fun h => by have h' : (none : Option E) = some .attr := h; cases h')
noncomputable def i124 : TI := ⟨.slice 168, 1, Bool.false, (Value.slice Option.none 0 0), 24, some (.rc .hattrs [] 0)⟩
theorem k124 : TIok Try.prog 124 i124 := tiok (by exact Try.underlying124) Try.sizeOf124 Try.isAgg124 Try.zeroValue124 rfl Try.typeInfo124 rfl (fun h => by have h' : (some (.rc .hattrs [] 0) : Option E) = some .attr := h; cases h')
noncomputable def i125 : TI := ⟨.struct [(76, 0), (76, 1), (76, 2), (76, 3), (76, 4), (122, 5), (123, 6), (9, 7), (9, 8), (124, 9)], 10, Bool.true, (Value.agg #[Value.pointer Option.none, Value.pointer Option.none, Value.pointer Option.none, Value.pointer Option.none, Value.pointer Option.none, Value.int IntKind.u32 0, Value.int IntKind.u32 0, Value.string { data := #[] }, Value.string { data := #[] }, Value.slice Option.none 0 0]), 104, none⟩
theorem k125 : TIok Try.prog 125 i125 := tiok (by exact ⟨_, Try.underlying125, rfl⟩) Try.sizeOf125 Try.isAgg125 Try.zeroValue125 rfl Try.typeInfo125 rfl (fun h => by have h' : (none : Option E) = some .attr := h; cases h')
noncomputable def i126 : TI := ⟨.struct [(76, 0), (76, 1), (76, 2), (76, 3), (76, 4), (122, 5), (123, 6), (9, 7), (9, 8), (124, 9)], 10, Bool.true, (Value.agg #[Value.pointer Option.none, Value.pointer Option.none, Value.pointer Option.none, Value.pointer Option.none, Value.pointer Option.none, Value.int IntKind.u32 0, Value.int IntKind.u32 0, Value.string { data := #[] }, Value.string { data := #[] }, Value.slice Option.none 0 0]), 104, none⟩
theorem k126 : TIok Try.prog 126 i126 := tiok (by exact ⟨_, Try.underlying126, rfl⟩) Try.sizeOf126 Try.isAgg126 Try.zeroValue126 rfl Try.typeInfo126 rfl (fun h => by have h' : (none : Option E) = some .attr := h; cases h')
noncomputable def i127 : TI := ⟨.func, 1, Bool.false, Value.nilFunc, 8, none⟩
theorem k127 : TIok Try.prog 127 i127 := tiok (by exact ⟨_, _, _, Try.underlying127⟩) Try.sizeOf127 Try.isAgg127 Try.zeroValue127 rfl Try.typeInfo127 rfl (fun h => by have h' : (none : Option E) = some .attr := h; cases h')
noncomputable def i128 : TI := ⟨.func, 1, Bool.false, Value.nilFunc, 8, none⟩
theorem k128 : TIok Try.prog 128 i128 := tiok (by exact ⟨_, _, _, Try.underlying128⟩) Try.sizeOf128 Try.isAgg128 Try.zeroValue128 rfl Try.typeInfo128 rfl (fun h => by have h' : (none : Option E) = some .attr := h; cases h')
noncomputable def i129 : TI := ⟨.func, 1, Bool.false, Value.nilFunc, 8, none⟩
theorem k129 : TIok Try.prog 129 i129 := tiok (by exact ⟨_, _, _, Try.underlying129⟩) Try.sizeOf129 Try.isAgg129 Try.zeroValue129 rfl Try.typeInfo129 rfl (fun h => by have h' : (none : Option E) = some .attr := h; cases h')
noncomputable def i130 : TI := ⟨.func, 1, Bool.false, Value.nilFunc, 8, none⟩
theorem k130 : TIok Try.prog 130 i130 := tiok (by exact ⟨_, _, _, Try.underlying130⟩) Try.sizeOf130 Try.isAgg130 Try.zeroValue130 rfl Try.typeInfo130 rfl (fun h => by have h' : (none : Option E) = some .attr := h; cases h')
noncomputable def i131 : TI := ⟨.other, 1, Bool.false, (Value.tuple #[Value.int IntKind.i64 0, Value.int IntKind.i64 0]), 0, none⟩
theorem k131 : TIok Try.prog 131 i131 := tiok (by exact trivial) Try.sizeOf131 Try.isAgg131 Try.zeroValue131 rfl Try.typeInfo131 rfl (fun h => by have h' : (none : Option E) = some .attr := h; cases h')
noncomputable def i132 : TI := ⟨.func, 1, Bool.false, Value.nilFunc, 8, none⟩
theorem k132 : TIok Try.prog 132 i132 := tiok (by exact ⟨_, _, _, Try.underlying132⟩) Try.sizeOf132 Try.isAgg132 Try.zeroValue132 rfl Try.typeInfo132 rfl (fun h => by have h' : (none : Option E) = some .attr := h; cases h')
noncomputable def i133 : TI := ⟨.func, 1, Bool.false, Value.nilFunc, 8, none⟩
theorem k133 : TIok Try.prog 133 i133 := tiok (by exact ⟨_, _, _, Try.underlying133⟩) Try.sizeOf133 Try.isAgg133 Try.zeroValue133 rfl Try.typeInfo133 rfl (fun h => by have h' : (none : Option E) = some .attr := h; cases h')
noncomputable def i134 : TI := ⟨.func, 1, Bool.false, Value.nilFunc, 8, none⟩
theorem k134 : TIok Try.prog 134 i134 := tiok (by exact ⟨_, _, _, Try.underlying134⟩) Try.sizeOf134 Try.isAgg134 Try.zeroValue134 rfl Try.typeInfo134 rfl (fun h => by have h' : (none : Option E) = some .attr := h; cases h')
noncomputable def i135 : TI := ⟨.func, 1, Bool.false, Value.nilFunc, 8, none⟩
theorem k135 : TIok Try.prog 135 i135 := tiok (by exact ⟨_, _, _, Try.underlying135⟩) Try.sizeOf135 Try.isAgg135 Try.zeroValue135 rfl Try.typeInfo135 rfl (fun h => by have h' : (none : Option E) = some .attr := h; cases h')
noncomputable def i136 : TI := ⟨.struct [(67, 0), (76, 1)], 2, Bool.true, (Value.agg #[Value.pointer Option.none, Value.pointer Option.none]), 16, none⟩
theorem k136 : TIok Try.prog 136 i136 := tiok (by exact ⟨_, Try.underlying136, rfl⟩) Try.sizeOf136 Try.isAgg136 Try.zeroValue136 rfl Try.typeInfo136 rfl (fun h => by have h' : (none : Option E) = some .attr := h; cases h')
noncomputable def i137 : TI := ⟨.struct [(67, 0), (76, 1)], 2, Bool.true, (Value.agg #[Value.pointer Option.none, Value.pointer Option.none]), 16, some (.rc .fsel [.np] 0)⟩
theorem k137 : TIok Try.prog 137 i137 := tiok (by exact ⟨_, Try.underlying137, rfl⟩) Try.sizeOf137 Try.isAgg137 Try.zeroValue137 rfl Try.typeInfo137 rfl (fun h => by have h' : (some (.rc .fsel [.np] 0) : Option E) = some .attr := h; cases h')
noncomputable def i138 : TI := ⟨.iface, 1, Bool.false, Value.nilIface, 16, none⟩
theorem k138 : TIok Try.prog 138 i138 := tiok (by exact ⟨_, Try.underlying138⟩) Try.sizeOf138 Try.isAgg138 Try.zeroValue138 rfl Try.typeInfo138 rfl (fun h => by have h' : (none : Option E) = some .attr := h; cases h')
noncomputable def i139 : TI := ⟨.iface, 1, Bool.false, Value.nilIface, 16, none⟩
theorem k139 : TIok Try.prog 139 i139 := tiok (by exact ⟨_, Try.underlying139⟩) Try.sizeOf139 Try.isAgg139 Try.zeroValue139 rfl Try.typeInfo139 rfl (fun h => by have h' : (none : Option E) = some .attr := h; cases h')
noncomputable def i140 : TI := ⟨.other, 1, Bool.false, (Value.tuple #[Value.int IntKind.i64 0, Value.nilIface]), 0, none⟩
theorem k140 : TIok Try.prog 140 i140 := tiok (by exact trivial) Try.sizeOf140 Try.isAgg140 Try.zeroValue140 rfl Try.typeInfo140 rfl (fun h => by have h' : (none : Option E) = some .attr := h; cases h')
noncomputable def i141 : TI := ⟨.func, 1, Bool.false, Value.nilFunc, 8, none⟩
theorem k141 : TIok Try.prog 141 i141 := tiok (by exact ⟨_, _, _, Try.underlying141⟩) Try.sizeOf141 Try.isAgg141 Try.zeroValue141 rfl Try.typeInfo141 rfl (fun h => by have h' : (none : Option E) = some .attr := h; cases h')
noncomputable def i142 : TI := ⟨.ptr 5, 1, Bool.false, (Value.pointer Option.none), 8, none⟩
theorem k142 : TIok Try.prog 142 i142 := tiok (by exact Try.underlying142) Try.sizeOf142 Try.isAgg142 Try.zeroValue142 rfl Try.typeInfo142 rfl (fun h => by have h' : (none : Option E) = some .attr := h; cases h')
noncomputable def i143 : TI := ⟨.func, 1, Bool.false, Value.nilFunc, 8, none⟩
theorem k143 : TIok Try.prog 143 i143 := tiok (by exact ⟨_, _, _, Try.underlying143⟩) Try.sizeOf143 Try.isAgg143 Try.zeroValue143 rfl Try.typeInfo143 rfl (fun h => by have h' : (none : Option E) = some .attr := h; cases h')
noncomputable def i144 : TI := ⟨.func, 1, Bool.false, Value.nilFunc, 8, none⟩
theorem k144 : TIok Try.prog 144 i144 := tiok (by exact ⟨_, _, _, Try.underlying144⟩) Try.sizeOf144 Try.isAgg144 Try.zeroValue144 rfl Try.typeInfo144 rfl (fun h => by have h' : (none : Option E) = some .attr := h; cases h')
noncomputable def i145 : TI := ⟨.struct [(3, 0), (44, 1), (113, 6), (110, 7)], 8, Bool.true, (Value.agg #[Value.int IntKind.i64 0, Value.int IntKind.i64 0, Value.string { data := #[] }, Value.string { data := #[] }, Value.slice Option.none 0 0, Value.int IntKind.i64 0, Value.pointer Option.none, Value.slice Option.none 0 0]), 112, none⟩
theorem k145 : TIok Try.prog 145 i145 := tiok (by exact ⟨_, Try.underlying145, rfl⟩) Try.sizeOf145 Try.isAgg145 Try.zeroValue145 rfl Try.typeInfo145 rfl (fun h => by have h' : (none : Option E) = some .attr := h; cases h')
noncomputable def i146 : TI := ⟨.struct [(3, 0), (44, 1), (113, 6), (110, 7)], 8, Bool.true, (Value.agg #[Value.int IntKind.i64 0, Value.int IntKind.i64 0, Value.string { data := #[] }, Value.string { data := #[] }, Value.slice Option.none 0 0, Value.int IntKind.i64 0, Value.pointer Option.none, Value.slice Option.none 0 0]), 112, none⟩
theorem k146 : TIok Try.prog 146 i146 := tiok (by exact ⟨_, Try.underlying146, rfl⟩) Try.sizeOf146 Try.isAgg146 Try.zeroValue146 rfl Try.typeInfo146 rfl (fun h => by have h' : (none : Option E) = some .attr := h; cases h')
noncomputable def i147 : TI := ⟨.other, 1, Bool.false, (Value.tuple #[Value.slice Option.none 0 0, Value.bool Bool.false]), 0, none⟩
theorem k147 : TIok Try.prog 147 i147 := tiok (by exact trivial) Try.sizeOf147 Try.isAgg147 Try.zeroValue147 rfl Try.typeInfo147 rfl (fun h => by have h' : (none : Option E) = some .attr := h; cases h')
noncomputable def i148 : TI := ⟨.func, 1, Bool.false, Value.nilFunc, 8, none⟩
theorem k148 : TIok Try.prog 148 i148 := tiok (by exact ⟨_, _, _, Try.underlying148⟩) Try.sizeOf148 Try.isAgg148 Try.zeroValue148 rfl Try.typeInfo148 rfl (fun h => by have h' : (none : Option E) = some .attr := h; cases h')
noncomputable def i149 : TI := ⟨.func, 1, Bool.false, Value.nilFunc, 8, none⟩
theorem k149 : TIok Try.prog 149 i149 := tiok (by exact ⟨_, _, _, Try.underlying149⟩) Try.sizeOf149 Try.isAgg149 Try.zeroValue149 rfl Try.typeInfo149 rfl (fun h => by have h' : (none : Option E) = some .attr := h; cases h')
noncomputable def i150 : TI := ⟨.func, 1, Bool.false, Value.nilFunc, 8, none⟩
theorem k150 : TIok Try.prog 150 i150 := tiok (by exact ⟨_, _, _, Try.underlying150⟩) Try.sizeOf150 Try.isAgg150 Try.zeroValue150 rfl Try.typeInfo150 rfl (fun h => by have h' : (none : Option E) = some .attr := h; cases h')
noncomputable def i151 : TI := ⟨.func, 1, Bool.false, Value.nilFunc, 8, none⟩
theorem k151 : TIok Try.prog 151 i151 := tiok (by exact ⟨_, _, _, Try.underlying151⟩) Try.sizeOf151 Try.isAgg151 Try.zeroValue151 rfl Try.typeInfo151 rfl (fun h => by have h' : (none : Option E) = some .attr := h; cases h')
noncomputable def i152 : TI := ⟨.func, 1, Bool.false, Value.nilFunc, 8, none⟩
theorem k152 : TIok Try.prog 152 i152 := tiok (by exact ⟨_, _, _, Try.underlying152⟩) Try.sizeOf152 Try.isAgg152 Try.zeroValue152 rfl Try.typeInfo152 rfl (fun h => by have h' : (none : Option E) = some .attr := h; cases h')
noncomputable def i153 : TI := ⟨.func, 1, Bool.false, Value.nilFunc, 8, none⟩
theorem k153 : TIok Try.prog 153 i153 := tiok (by exact ⟨_, _, _, Try.underlying153⟩) Try.sizeOf153 Try.isAgg153 Try.zeroValue153 rfl Try.typeInfo153 rfl (fun h => by have h' : (none : Option E) = some .attr := h; cases h')
noncomputable def i154 : TI := ⟨.func, 1, Bool.false, Value.nilFunc, 8, none⟩
theorem k154 : TIok Try.prog 154 i154 := tiok (by exact ⟨_, _, _, Try.underlying154⟩) Try.sizeOf154 Try.isAgg154 Try.zeroValue154 rfl Try.typeInfo154 rfl (fun h => by have h' : (none : Option E) = some .attr := h; cases h')
noncomputable def i155 : TI := ⟨.func, 1, Bool.false, Value.nilFunc, 8, none⟩
theorem k155 : TIok Try.prog 155 i155 := tiok (by exact ⟨_, _, _, Try.underlying155⟩) Try.sizeOf155 Try.isAgg155 Try.zeroValue155 rfl Try.typeInfo155 rfl (fun h => by have h' : (none : Option E) = some .attr := h; cases h')
noncomputable def i156 : TI := ⟨.func, 1, Bool.false, Value.nilFunc, 8, none⟩
theorem k156 : TIok Try.prog 156 i156 := tiok (by exact ⟨_, _, _, Try.underlying156⟩) Try.sizeOf156 Try.isAgg156 Try.zeroValue156 rfl Try.typeInfo156 rfl (fun h => by have h' : (none : Option E) = some .attr := h; cases h')
noncomputable def i157 : TI := ⟨.func, 1, Bool.false, Value.nilFunc, 8, none⟩
theorem k157 : TIok Try.prog 157 i157 := tiok (by exact ⟨_, _, _, Try.underlying157⟩) Try.sizeOf157 Try.isAgg157 Try.zeroValue157 rfl Try.typeInfo157 rfl (fun h => by have h' : (none : Option E) = some .attr := h; cases h')
noncomputable def i158 : TI := ⟨.func, 1, Bool.false, Value.nilFunc, 8, none⟩
theorem k158 : TIok Try.prog 158 i158 := tiok (by exact ⟨_, _, _, Try.underlying158⟩) Try.sizeOf158 Try.isAgg158 Try.zeroValue158 rfl Try.typeInfo158 rfl (fun h => by have h' : (none : Option E) = some .attr := h; cases h')
noncomputable def i159 : TI := ⟨.func, 1, Bool.false, Value.nilFunc, 8, none⟩
theorem k159 : TIok Try.prog 159 i159 := tiok (by exact ⟨_, _, _, Try.underlying159⟩) Try.sizeOf159 Try.isAgg159 Try.zeroValue159 rfl Try.typeInfo159 rfl (fun h => by have h' : (none : Option E) = some .attr := h; cases h')
noncomputable def i160 : TI := ⟨.func, 1, Bool.false, Value.nilFunc, 8, none⟩
theorem k160 : TIok Try.prog 160 i160 := tiok (by exact ⟨_, _, _, Try.underlying160⟩) Try.sizeOf160 Try.isAgg160 Try.zeroValue160 rfl Try.typeInfo160 rfl (fun h => by have h' : (none : Option E) = some .attr := h; cases h')
noncomputable def i161 : TI := ⟨.func, 1, Bool.false, Value.nilFunc, 8, none⟩
theorem k161 : TIok Try.prog 161 i161 := tiok (by exact ⟨_, _, _, Try.underlying161⟩) Try.sizeOf161 Try.isAgg161 Try.zeroValue161 rfl Try.typeInfo161 rfl (fun h => by have h' : (none : Option E) = some .attr := h; cases h')
noncomputable def i162 : TI := ⟨.int .i64, 1, Bool.false, (Value.int IntKind.i64 0), 8, none⟩
theorem k162 : TIok Try.prog 162 i162 := tiok (by exact Try.underlying162) Try.sizeOf162 Try.isAgg162 Try.zeroValue162 rfl Try.typeInfo162 rfl (fun h => by have h' : (none : Option E) = some .attr := h; cases h')
noncomputable def i163 : TI := ⟨.int .u64, 1, Bool.false, (Value.int IntKind.u64 0), 8, none⟩
theorem k163 : TIok Try.prog 163 i163 := tiok (by exact Try.underlying163) Try.sizeOf163 Try.isAgg163 Try.zeroValue163 rfl Try.typeInfo163 rfl (fun h => by have h' : (none : Option E) = some .attr := h; cases h')
noncomputable def i164 : TI := ⟨.func, 1, Bool.false, Value.nilFunc, 8, none⟩
theorem k164 : TIok Try.prog 164 i164 := tiok (by exact ⟨_, _, _, Try.underlying164⟩) Try.sizeOf164 Try.isAgg164 Try.zeroValue164 rfl Try.typeInfo164 rfl (fun h => by have h' : (none : Option E) = some .attr := h; cases h')
noncomputable def i165 : TI := ⟨.func, 1, Bool.false, Value.nilFunc, 8, none⟩
theorem k165 : TIok Try.prog 165 i165 := tiok (by exact ⟨_, _, _, Try.underlying165⟩) Try.sizeOf165 Try.isAgg165 Try.zeroValue165 rfl Try.typeInfo165 rfl (fun h => by have h' : (none : Option E) = some .attr := h; cases h')
noncomputable def i166 : TI := ⟨.func, 1, Bool.false, Value.nilFunc, 8, none⟩
theorem k166 : TIok Try.prog 166 i166 := tiok (by exact ⟨_, _, _, Try.underlying166⟩) Try.sizeOf166 Try.isAgg166 Try.zeroValue166 rfl Try.typeInfo166 rfl (fun h => by have h' : (none : Option E) = some .attr := h; cases h')
noncomputable def i167 : TI := ⟨.struct [(9, 0), (9, 1), (9, 2)], 3, Bool.true, (Value.agg #[Value.string { data := #[] }, Value.string { data := #[] }, Value.string { data := #[] }]), 48, none⟩
theorem k167 : TIok Try.prog 167 i167 := tiok (by exact ⟨_, Try.underlying167, rfl⟩) Try.sizeOf167 Try.isAgg167 Try.zeroValue167 rfl Try.typeInfo167 rfl (fun h => by have h' : (none : Option E) = some .attr := h; cases h')
noncomputable def i168 : TI := ⟨.struct [(9, 0), (9, 1), (9, 2)], 3, Bool.true, (Value.agg #[Value.string { data := #[] }, Value.string { data := #[] }, Value.string { data := #[] }]), 48, some .hattr⟩
theorem k168 : TIok Try.prog 168 i168 := tiok (by exact ⟨_, Try.underlying168, rfl⟩) Try.sizeOf168 Try.isAgg168 Try.zeroValue168 rfl Try.typeInfo168 rfl (fun h => by have h' : (some .hattr : Option E) = some .attr := h; cases h')
noncomputable def i169 : TI := ⟨.func, 1, Bool.false, Value.nilFunc, 8, none⟩
theorem k169 : TIok Try.prog 169 i169 := tiok (by exact ⟨_, _, _, Try.underlying169⟩) Try.sizeOf169 Try.isAgg169 Try.zeroValue169 rfl Try.typeInfo169 rfl (fun h => by have h' : (none : Option E) = some .attr := h; cases h')
noncomputable def i170 : TI := ⟨.func, 1, Bool.false, Value.nilFunc, 8, none⟩
theorem k170 : TIok Try.prog 170 i170 := tiok (by exact ⟨_, _, _, Try.underlying170⟩) Try.sizeOf170 Try.isAgg170 Try.zeroValue170 rfl Try.typeInfo170 rfl (fun h => by have h' : (none : Option E) = some .attr := h; cases h')
noncomputable def i171 : TI := ⟨.func, 1, Bool.false, Value.nilFunc, 8, none⟩
theorem k171 : TIok Try.prog 171 i171 := tiok (by exact ⟨_, _, _, Try.underlying171⟩) Try.sizeOf171 Try.isAgg171 Try.zeroValue171 rfl Try.typeInfo171 rfl (fun h => by have h' : (none : Option E) = some .attr := h; cases h')
noncomputable def i172 : TI := ⟨.func, 1, Bool.false, Value.nilFunc, 8, none⟩
theorem k172 : TIok Try.prog 172 i172 := tiok (by exact ⟨_, _, _, Try.underlying172⟩) Try.sizeOf172 Try.isAgg172 Try.zeroValue172 rfl Try.typeInfo172 rfl (fun h => by have h' : (none : Option E) = some .attr := h; cases h')
noncomputable def i173 : TI := ⟨.slice 110, 1, Bool.false, (Value.slice Option.none 0 0), 24, none⟩
theorem k173 : TIok Try.prog 173 i173 := tiok (by exact Try.underlying173) Try.sizeOf173 Try.isAgg173 Try.zeroValue173 rfl Try.typeInfo173 rfl (fun h => by have h' : (none : Option E) = some .attr := h; cases h')
noncomputable def i174 : TI := ⟨.func, 1, Bool.false, Value.nilFunc, 8, none⟩
theorem k174 : TIok Try.prog 174 i174 := tiok (by exact ⟨_, _, _, Try.underlying174⟩) Try.sizeOf174 Try.isAgg174 Try.zeroValue174 rfl Try.typeInfo174 rfl (fun h => by have h' : (none : Option E) = some .attr := h; cases h')
noncomputable def i175 : TI := ⟨.ptr 44, 1, Bool.false, (Value.pointer Option.none), 8, none⟩
theorem k175 : TIok Try.prog 175 i175 := tiok (by exact Try.underlying175) Try.sizeOf175 Try.isAgg175 Try.zeroValue175 rfl Try.typeInfo175 rfl (fun h => by have h' : (none : Option E) = some .attr := h; cases h')
noncomputable def i176 : TI := ⟨.func, 1, Bool.false, Value.nilFunc, 8, none⟩
theorem k176 : TIok Try.prog 176 i176 := tiok (by exact ⟨_, _, _, Try.underlying176⟩) Try.sizeOf176 Try.isAgg176 Try.zeroValue176 rfl Try.typeInfo176 rfl (fun h => by have h' : (none : Option E) = some .attr := h; cases h')
noncomputable def i177 : TI := ⟨.func, 1, Bool.false, Value.nilFunc, 8, none⟩
theorem k177 : TIok Try.prog 177 i177 := tiok (by exact ⟨_, _, _, Try.underlying177⟩) Try.sizeOf177 Try.isAgg177 Try.zeroValue177 rfl Try.typeInfo177 rfl (fun h => by have h' : (none : Option E) = some .attr := h; cases h')
noncomputable def i178 : TI := ⟨.func, 1, Bool.false, Value.nilFunc, 8, none⟩
theorem k178 : TIok Try.prog 178 i178 := tiok (by exact ⟨_, _, _, Try.underlying178⟩) Try.sizeOf178 Try.isAgg178 Try.zeroValue178 rfl Try.typeInfo178 rfl (fun h => by have h' : (none : Option E) = some .attr := h; cases h')
noncomputable def i179 : TI := ⟨.map 76 4, 1, Bool.false, (Value.map Option.none), 8, none⟩
theorem k179 : TIok Try.prog 179 i179 := tiok (by exact Try.underlying179) Try.sizeOf179 Try.isAgg179 Try.zeroValue179 rfl Try.typeInfo179 rfl (fun h => by have h' : (none : Option E) = some .attr := h; cases h')
noncomputable def i180 : TI := ⟨.func, 1, Bool.false, Value.nilFunc, 8, none⟩
theorem k180 : TIok Try.prog 180 i180 := tiok (by exact ⟨_, _, _, Try.underlying180⟩) Try.sizeOf180 Try.isAgg180 Try.zeroValue180 rfl Try.typeInfo180 rfl (fun h => by have h' : (none : Option E) = some .attr := h; cases h')
noncomputable def i181 : TI := ⟨.func, 1, Bool.false, Value.nilFunc, 8, none⟩
theorem k181 : TIok Try.prog 181 i181 := tiok (by exact ⟨_, _, _, Try.underlying181⟩) Try.sizeOf181 Try.isAgg181 Try.zeroValue181 rfl Try.typeInfo181 rfl (fun h => by have h' : (none : Option E) = some .attr := h; cases h')
noncomputable def i182 : TI := ⟨.func, 1, Bool.false, Value.nilFunc, 8, none⟩
theorem k182 : TIok Try.prog 182 i182 := tiok (by exact ⟨_, _, _, Try.underlying182⟩) Try.sizeOf182 Try.isAgg182 Try.zeroValue182 rfl Try.typeInfo182 rfl (fun h => by have h' : (none : Option E) = some .attr := h; cases h')
noncomputable def i183 : TI := ⟨.func, 1, Bool.false, Value.nilFunc, 8, none⟩
theorem k183 : TIok Try.prog 183 i183 := tiok (by exact ⟨_, _, _, Try.underlying183⟩) Try.sizeOf183 Try.isAgg183 Try.zeroValue183 rfl Try.typeInfo183 rfl (fun h => by have h' : (none : Option E) = some .attr := h; cases h')
noncomputable def i184 : TI := ⟨.other, 1, Bool.false, (Value.pointer Option.none), 8, none⟩
theorem k184 : TIok Try.prog 184 i184 := tiok (by exact trivial) Try.sizeOf184 Try.isAgg184 Try.zeroValue184 rfl Try.typeInfo184 rfl (fun h => by have h' : (none : Option E) = some .attr := h; cases h')
noncomputable def i185 : TI := ⟨.func, 1, Bool.false, Value.nilFunc, 8, none⟩
theorem k185 : TIok Try.prog 185 i185 := tiok (by exact ⟨_, _, _, Try.underlying185⟩) Try.sizeOf185 Try.isAgg185 Try.zeroValue185 rfl Try.typeInfo185 rfl (fun h => by have h' : (none : Option E) = some .attr := h; cases h')
noncomputable def i186 : TI := ⟨.func, 1, Bool.false, Value.nilFunc, 8, none⟩
theorem k186 : TIok Try.prog 186 i186 := tiok (by exact ⟨_, _, _, Try.underlying186⟩) Try.sizeOf186 Try.isAgg186 Try.zeroValue186 rfl Try.typeInfo186 rfl (fun h => by have h' : (none : Option E) = some .attr := h; cases h')
noncomputable def i187 : TI := ⟨.struct [(17, 0), (17, 1), (17, 2), (9, 3)], 4, Bool.true, (Value.agg #[Value.pointer Option.none, Value.pointer Option.none, Value.pointer Option.none, Value.string { data := #[] }]), 40, none⟩
theorem k187 : TIok Try.prog 187 i187 := tiok (by exact ⟨_, Try.underlying187, rfl⟩) Try.sizeOf187 Try.isAgg187 Try.zeroValue187 rfl Try.typeInfo187 rfl (fun h => by have h' : (none : Option E) = some .attr := h; cases h')
noncomputable def i188 : TI := ⟨.struct [(17, 0), (17, 1), (17, 2), (9, 3)], 4, Bool.true, (Value.agg #[Value.pointer Option.none, Value.pointer Option.none, Value.pointer Option.none, Value.string { data := #[] }]), 40, none⟩
theorem k188 : TIok Try.prog 188 i188 := tiok (by exact ⟨_, Try.underlying188, rfl⟩) Try.sizeOf188 Try.isAgg188 Try.zeroValue188 rfl Try.typeInfo188 rfl (fun h => by have h' : (none : Option E) = some .attr := h; cases h')
noncomputable def i189 : TI := ⟨.other, 0, Bool.true, (Value.agg #[]), 0, none⟩
theorem k189 : TIok Try.prog 189 i189 := tiok (by exact trivial) Try.sizeOf189 Try.isAgg189 Try.zeroValue189 rfl Try.typeInfo189 rfl (fun h => by have h' : (none : Option E) = some .attr := h; cases h')
noncomputable def i190 : TI := ⟨.struct [(189, 0)], 0, Bool.true, (Value.agg #[]), 0, none⟩
theorem k190 : TIok Try.prog 190 i190 := tiok (by exact ⟨_, Try.underlying190, rfl⟩) Try.sizeOf190 Try.isAgg190 Try.zeroValue190 rfl Try.typeInfo190 rfl (fun h => by have h' : (none : Option E) = some .attr := h; cases h')
noncomputable def i191 : TI := ⟨.struct [(189, 0)], 0, Bool.true, (Value.agg #[]), 0, none⟩
theorem k191 : TIok Try.prog 191 i191 := tiok (by exact ⟨_, Try.underlying191, rfl⟩) Try.sizeOf191 Try.isAgg191 Try.zeroValue191 rfl Try.typeInfo191 rfl (fun h => by have h' : (none : Option E) = some .attr := h; cases h')
noncomputable def i192 : TI := ⟨.int .u8, 1, Bool.false, (Value.int IntKind.u8 0), 1, none⟩
theorem k192 : TIok Try.prog 192 i192 := tiok (by exact Try.underlying192) Try.sizeOf192 Try.isAgg192 Try.zeroValue192 rfl Try.typeInfo192 rfl (fun h => by have h' : (none : Option E) = some .attr := h; cases h')
noncomputable def i193 : TI := ⟨.int .u8, 1, Bool.false, (Value.int IntKind.u8 0), 1, none⟩
theorem k193 : TIok Try.prog 193 i193 := tiok (by exact Try.underlying193) Try.sizeOf193 Try.isAgg193 Try.zeroValue193 rfl Try.typeInfo193 rfl (fun h => by have h' : (none : Option E) = some .attr := h; cases h')
noncomputable def i194 : TI := ⟨.func, 1, Bool.false, Value.nilFunc, 8, none⟩
theorem k194 : TIok Try.prog 194 i194 := tiok (by exact ⟨_, _, _, Try.underlying194⟩) Try.sizeOf194 Try.isAgg194 Try.zeroValue194 rfl Try.typeInfo194 rfl (fun h => by have h' : (none : Option E) = some .attr := h; cases h')
noncomputable def i195 : TI := ⟨.int .i32, 1, Bool.false, (Value.int IntKind.i32 0), 4, none⟩
theorem k195 : TIok Try.prog 195 i195 := tiok (by exact Try.underlying195) Try.sizeOf195 Try.isAgg195 Try.zeroValue195 rfl Try.typeInfo195 rfl (fun h => by have h' : (none : Option E) = some .attr := h; cases h')
noncomputable def i196 : TI := ⟨.int .i32, 1, Bool.false, (Value.int IntKind.i32 0), 4, none⟩
theorem k196 : TIok Try.prog 196 i196 := tiok (by exact Try.underlying196) Try.sizeOf196 Try.isAgg196 Try.zeroValue196 rfl Try.typeInfo196 rfl (fun h => by have h' : (none : Option E) = some .attr := h; cases h')
noncomputable def i197 : TI := ⟨.struct [(12, 0), (12, 1), (121, 2), (192, 3), (5, 4), (5, 5), (193, 6), (194, 7), (142, 8), (195, 9), (196, 10)], 11, Bool.true, (Value.agg #[Value.int IntKind.u64 0, Value.int IntKind.u64 0, Value.int IntKind.u32 0, Value.int IntKind.u8 0, Value.int IntKind.u8 0, Value.int IntKind.u8 0, Value.int IntKind.u8 0, Value.nilFunc, Value.pointer Option.none, Value.int IntKind.i32 0, Value.int IntKind.i32 0]), 48, none⟩
theorem k197 : TIok Try.prog 197 i197 := tiok (by exact ⟨_, Try.underlying197, rfl⟩) Try.sizeOf197 Try.isAgg197 Try.zeroValue197 rfl Try.typeInfo197 rfl (fun h => by have h' : (none : Option E) = some .attr := h; cases h')
noncomputable def i198 : TI := ⟨.struct [(12, 0), (12, 1), (121, 2), (192, 3), (5, 4), (5, 5), (193, 6), (194, 7), (142, 8), (195, 9), (196, 10)], 11, Bool.true, (Value.agg #[Value.int IntKind.u64 0, Value.int IntKind.u64 0, Value.int IntKind.u32 0, Value.int IntKind.u8 0, Value.int IntKind.u8 0, Value.int IntKind.u8 0, Value.int IntKind.u8 0, Value.nilFunc, Value.pointer Option.none, Value.int IntKind.i32 0, Value.int IntKind.i32 0]), 48, none⟩
theorem k198 : TIok Try.prog 198 i198 := tiok (by exact ⟨_, Try.underlying198, rfl⟩) Try.sizeOf198 Try.isAgg198 Try.zeroValue198 rfl Try.typeInfo198 rfl (fun h => by have h' : (none : Option E) = some .attr := h; cases h')
noncomputable def i199 : TI := ⟨.func, 1, Bool.false, Value.nilFunc, 8, none⟩
theorem k199 : TIok Try.prog 199 i199 := tiok (by exact ⟨_, _, _, Try.underlying199⟩) Try.sizeOf199 Try.isAgg199 Try.zeroValue199 rfl Try.typeInfo199 rfl (fun h => by have h' : (none : Option E) = some .attr := h; cases h')
noncomputable def i200 : TI := ⟨.func, 1, Bool.false, Value.nilFunc, 8, none⟩
theorem k200 : TIok Try.prog 200 i200 := tiok (by exact ⟨_, _, _, Try.underlying200⟩) Try.sizeOf200 Try.isAgg200 Try.zeroValue200 rfl Try.typeInfo200 rfl (fun h => by have h' : (none : Option E) = some .attr := h; cases h')
noncomputable def i201 : TI := ⟨.func, 1, Bool.false, Value.nilFunc, 8, none⟩
theorem k201 : TIok Try.prog 201 i201 := tiok (by exact ⟨_, _, _, Try.underlying201⟩) Try.sizeOf201 Try.isAgg201 Try.zeroValue201 rfl Try.typeInfo201 rfl (fun h => by have h' : (none : Option E) = some .attr := h; cases h')
noncomputable def i202 : TI := ⟨.func, 1, Bool.false, Value.nilFunc, 8, none⟩
theorem k202 : TIok Try.prog 202 i202 := tiok (by exact ⟨_, _, _, Try.underlying202⟩) Try.sizeOf202 Try.isAgg202 Try.zeroValue202 rfl Try.typeInfo202 rfl (fun h => by have h' : (none : Option E) = some .attr := h; cases h')
noncomputable def tb : List (Option TI) := some i0 :: some i1 :: some i2 :: some i3 :: some i4 :: some i5 :: some i6 :: some i7 :: some i8 :: some i9 :: some i10 :: some i11 :: some i12 :: some i13 :: some i14 :: some i15 :: some i16 :: some i17 :: some i18 :: some i19 :: some i20 :: some i21 :: some i22 :: some i23 :: some i24 :: some i25 :: some i26 :: some i27 :: some i28 :: some i29 :: some i30 :: some i31 :: some i32 :: some i33 :: some i34 :: some i35 :: some i36 :: some i37 :: some i38 :: some i39 :: some i40 :: some i41 :: some i42 :: some i43 :: some i44 :: some i45 :: some i46 :: some i47 :: some i48 :: some i49 :: some i50 :: some i51 :: some i52 :: some i53 :: some i54 :: some i55 :: some i56 :: some i57 :: some i58 :: some i59 :: some i60 :: some i61 :: some i62 :: some i63 :: some i64 :: some i65 :: some i66 :: some i67 :: some i68 :: some i69 :: some i70 :: some i71 :: some i72 :: some i73 :: some i74 :: some i75 :: some i76 :: some i77 :: some i78 :: some i79 :: some i80 :: some i81 :: some i82 :: some i83 :: some i84 :: some i85 :: some i86 :: some i87 :: some i88 :: some i89 :: some i90 :: some i91 :: some i92 :: some i93 :: some i94 :: some i95 :: some i96 :: some i97 :: some i98 :: some i99 :: some i100 :: some i101 :: some i102 :: some i103 :: some i104 :: some i105 :: some i106 :: some i107 :: some i108 :: some i109 :: some i110 :: some i111 :: some i112 :: some i113 :: some i114 :: some i115 :: some i116 :: some i117 :: some i118 :: some i119 :: some i120 :: some i121 :: some i122 :: some i123 :: some i124 :: some i125 :: some i126 :: some i127 :: some i128 :: some i129 :: some i130 :: some i131 :: some i132 :: some i133 :: some i134 :: some i135 :: some i136 :: some i137 :: some i138 :: some i139 :: some i140 :: some i141 :: some i142 :: some i143 :: some i144 :: some i145 :: some i146 :: some i147 :: some i148 :: some i149 :: some i150 :: some i151 :: some i152 :: some i153 :: some i154 :: some i155 :: some i156 :: some i157 :: some i158 :: some i159 :: some i160 :: some i161 :: some i162 :: some i163 :: some i164 :: some i165 :: some i166 :: some i167 :: some i168 :: some i169 :: some i170 :: some i171 :: some i172 :: some i173 :: some i174 :: some i175 :: some i176 :: some i177 :: some i178 :: some i179 :: some i180 :: some i181 :: some i182 :: some i183 :: some i184 :: some i185 :: some i186 :: some i187 :: some i188 :: some i189 :: some i190 :: some i191 :: some i192 :: some i193 :: some i194 :: some i195 :: some i196 :: some i197 :: some i198 :: some i199 :: some i200 :: some i201 :: some i202 :: []
theorem tb_ok : TbOK Try.prog tb := fun T t h => by
  have := tb_of (P := Try.prog) (k := 0) (l := tb) (by exact ⟨k0, ⟨k1, ⟨k2, ⟨k3, ⟨k4, ⟨k5, ⟨k6, ⟨k7, ⟨k8, ⟨k9, ⟨k10, ⟨k11, ⟨k12, ⟨k13, ⟨k14, ⟨k15, ⟨k16, ⟨k17, ⟨k18, ⟨k19, ⟨k20, ⟨k21, ⟨k22, ⟨k23, ⟨k24, ⟨k25, ⟨k26, ⟨k27, ⟨k28, ⟨k29, ⟨k30, ⟨k31, ⟨k32, ⟨k33, ⟨k34, ⟨k35, ⟨k36, ⟨k37, ⟨k38, ⟨k39, ⟨k40, ⟨k41, ⟨k42, ⟨k43, ⟨k44, ⟨k45, ⟨k46, ⟨k47, ⟨k48, ⟨k49, ⟨k50, ⟨k51, ⟨k52, ⟨k53, ⟨k54, ⟨k55, ⟨k56, ⟨k57, ⟨k58, ⟨k59, ⟨k60, ⟨k61, ⟨k62, ⟨k63, ⟨k64, ⟨k65, ⟨k66, ⟨k67, ⟨k68, ⟨k69, ⟨k70, ⟨k71, ⟨k72, ⟨k73, ⟨k74, ⟨k75, ⟨k76, ⟨k77, ⟨k78, ⟨k79, ⟨k80, ⟨k81, ⟨k82, ⟨k83, ⟨k84, ⟨k85, ⟨k86, ⟨k87, ⟨k88, ⟨k89, ⟨k90, ⟨k91, ⟨k92, ⟨k93, ⟨k94, ⟨k95, ⟨k96, ⟨k97, ⟨k98, ⟨k99, ⟨k100, ⟨k101, ⟨k102, ⟨k103, ⟨k104, ⟨k105, ⟨k106, ⟨k107, ⟨k108, ⟨k109, ⟨k110, ⟨k111, ⟨k112, ⟨k113, ⟨k114, ⟨k115, ⟨k116, ⟨k117, ⟨k118, ⟨k119, ⟨k120, ⟨k121, ⟨k122, ⟨k123, ⟨k124, ⟨k125, ⟨k126, ⟨k127, ⟨k128, ⟨k129, ⟨k130, ⟨k131, ⟨k132, ⟨k133, ⟨k134, ⟨k135, ⟨k136, ⟨k137, ⟨k138, ⟨k139, ⟨k140, ⟨k141, ⟨k142, ⟨k143, ⟨k144, ⟨k145, ⟨k146, ⟨k147, ⟨k148, ⟨k149, ⟨k150, ⟨k151, ⟨k152, ⟨k153, ⟨k154, ⟨k155, ⟨k156, ⟨k157, ⟨k158, ⟨k159, ⟨k160, ⟨k161, ⟨k162, ⟨k163, ⟨k164, ⟨k165, ⟨k166, ⟨k167, ⟨k168, ⟨k169, ⟨k170, ⟨k171, ⟨k172, ⟨k173, ⟨k174, ⟨k175, ⟨k176, ⟨k177, ⟨k178, ⟨k179, ⟨k180, ⟨k181, ⟨k182, ⟨k183, ⟨k184, ⟨k185, ⟨k186, ⟨k187, ⟨k188, ⟨k189, ⟨k190, ⟨k191, ⟨k192, ⟨k193, ⟨k194, ⟨k195, ⟨k196, ⟨k197, ⟨k198, ⟨k199, ⟨k200, ⟨k201, ⟨k202, trivial⟩⟩⟩⟩⟩⟩⟩⟩⟩⟩⟩⟩⟩⟩⟩⟩⟩⟩⟩⟩⟩⟩⟩⟩⟩⟩⟩⟩⟩⟩⟩⟩⟩⟩⟩⟩⟩⟩⟩⟩⟩⟩⟩⟩⟩⟩⟩⟩⟩⟩⟩⟩⟩⟩⟩⟩⟩⟩⟩⟩⟩⟩⟩⟩⟩⟩⟩⟩⟩⟩⟩⟩⟩⟩⟩⟩⟩⟩⟩⟩⟩⟩⟩⟩⟩⟩⟩⟩⟩⟩⟩⟩⟩⟩⟩⟩⟩⟩⟩⟩⟩⟩⟩⟩⟩⟩⟩⟩⟩⟩⟩⟩⟩⟩⟩⟩⟩⟩⟩⟩⟩⟩⟩⟩⟩⟩⟩⟩⟩⟩⟩⟩⟩⟩⟩⟩⟩⟩⟩⟩⟩⟩⟩⟩⟩⟩⟩⟩⟩⟩⟩⟩⟩⟩⟩⟩⟩⟩⟩⟩⟩⟩⟩⟩⟩⟩⟩⟩⟩⟩⟩⟩⟩⟩⟩⟩⟩⟩⟩⟩⟩⟩⟩⟩⟩⟩⟩⟩⟩⟩⟩⟩⟩⟩⟩⟩⟩⟩⟩⟩⟩⟩⟩) T t h
  rwa [Nat.zero_add] at this
theorem mixed : Try.prog.follows .mixedOrders = true := by kernel_rfl
end Go.Proofs.Ytfmlpodcldhgdaa.V
