/-
  Plain facts and an evaluator for what a law needs.
-/
import Derived.Test.YtcbmbmfenhoflaaProg
import Derived.Lib.UnsafeStr
import Derived.Lib.Walk
import Derived.Laws.Externs
import Derived.Lib.Builder
import Derived.RegionTactic
import Derived.Lib.MakeNoZero
import Derived.Laws.IdiomCopy
import Derived.Test.YtcbmbmfenhoflaaB3
set_option linter.unusedVariables false
set_option linter.unusedSimpArgs false
namespace Go.Proofs.Ytcbmbmfenhoflaa.V
open Go Go.Proofs
theorem tiok {P : Program} {T : TypeId} {t : TI} {i : TypeInfo} (u : UndOK P T t.sh) (s : ∀ w, (sizeOf T).run P w = .ok t.size w) (a : ∀ w, (isAgg T).run P w = .ok t.agg w) (z : ∀ w, (zeroValue T).run P w = .ok t.zv w) (c : t.zv.cells.size = t.size) (f : ∀ w, (typeInfo T).run P w = .ok i w) (b : i.bytes = t.bytes) (e : t.el = some .attr → AttrEq P T) : TIok P T t := ⟨u, s, a, z, c, ⟨i, f, b⟩, e⟩
def TbAll (P : Program) : Nat → List (Option TI) → Prop
  | _, [] => True
  | k, none :: l => TbAll P (k + 1) l
  | k, some t :: l => TIok P k t ∧ TbAll P (k + 1) l
theorem tb_of {P : Program} : ∀ {l : List (Option TI)} {k : Nat}, TbAll P k l → ∀ (T : Nat) (t : TI), l[T]? = some (some t) → TIok P (k + T) t
  | [], _, _, T, t, h => by simp at h
  | none :: l, k, hl, T, t, h => by
    match T with
    | 0 => simp at h
    | T + 1 =>
      have := tb_of (k := k + 1) hl T t (by simpa using h)
      rwa [Nat.add_assoc, Nat.add_comm 1 T] at this
  | some t0 :: l, k, hl, T, t, h => by
    match T with
    | 0 => simp at h; subst h; exact hl.1
    | T + 1 =>
      have := tb_of (k := k + 1) hl.2 T t (by simpa using h)
      rwa [Nat.add_assoc, Nat.add_comm 1 T] at this
noncomputable def i0 : TI := ⟨.other, 1, Bool.false, (Value.tuple #[]), 0, none⟩
theorem k0 : TIok Try.prog 0 i0 := tiok (by exact trivial) Try.sizeOf0 Try.isAgg0 Try.zeroValue0 rfl Try.typeInfo0 rfl (fun h => by have h' : (none : Option E) = some .attr := h; cases h')
noncomputable def i1 : TI := ⟨.func, 1, Bool.false, Value.nilFunc, 8, none⟩
theorem k1 : TIok Try.prog 1 i1 := tiok (by exact ⟨_, _, _, Try.underlying1⟩) Try.sizeOf1 Try.isAgg1 Try.zeroValue1 rfl Try.typeInfo1 rfl (fun h => by have h' : (none : Option E) = some .attr := h; cases h')
noncomputable def i2 : TI := ⟨.int .i64, 1, Bool.false, (Value.int IntKind.i64 0), 8, none⟩
theorem k2 : TIok Try.prog 2 i2 := tiok (by exact Try.underlying2) Try.sizeOf2 Try.isAgg2 Try.zeroValue2 rfl Try.typeInfo2 rfl (fun h => by have h' : (none : Option E) = some .attr := h; cases h')
noncomputable def i3 : TI := ⟨.int .i64, 1, Bool.false, (Value.int IntKind.i64 0), 8, some .int⟩
theorem k3 : TIok Try.prog 3 i3 := tiok (by exact Try.underlying3) Try.sizeOf3 Try.isAgg3 Try.zeroValue3 rfl Try.typeInfo3 rfl (fun h => by have h' : (some .int : Option E) = some .attr := h; cases h')
noncomputable def i4 : TI := ⟨.bool, 1, Bool.false, (Value.bool Bool.false), 1, some .bool⟩
theorem k4 : TIok Try.prog 4 i4 := tiok (by exact Try.underlying4) Try.sizeOf4 Try.isAgg4 Try.zeroValue4 rfl Try.typeInfo4 rfl (fun h => by have h' : (some .bool : Option E) = some .attr := h; cases h')
noncomputable def i5 : TI := ⟨.int .u8, 1, Bool.false, (Value.int IntKind.u8 0), 1, some .u8⟩
theorem k5 : TIok Try.prog 5 i5 := tiok (by exact Try.underlying5) Try.sizeOf5 Try.isAgg5 Try.zeroValue5 rfl Try.typeInfo5 rfl (fun h => by have h' : (some .u8 : Option E) = some .attr := h; cases h')
noncomputable def i6 : TI := ⟨.int .u8, 1, Bool.false, (Value.int IntKind.u8 0), 1, none⟩
theorem k6 : TIok Try.prog 6 i6 := tiok (by exact Try.underlying6) Try.sizeOf6 Try.isAgg6 Try.zeroValue6 rfl Try.typeInfo6 rfl (fun h => by have h' : (none : Option E) = some .attr := h; cases h')
noncomputable def i7 : TI := ⟨.struct [(2, 0), (3, 1), (4, 2), (6, 3)], 4, Bool.true, (Value.agg #[Value.int IntKind.i64 0, Value.int IntKind.i64 0, Value.bool Bool.false, Value.int IntKind.u8 0]), 24, none⟩
theorem k7 : TIok Try.prog 7 i7 := tiok (by exact ⟨_, Try.underlying7, rfl⟩) Try.sizeOf7 Try.isAgg7 Try.zeroValue7 rfl Try.typeInfo7 rfl (fun h => by have h' : (none : Option E) = some .attr := h; cases h')
noncomputable def i8 : TI := ⟨.struct [(2, 0), (3, 1), (4, 2), (6, 3)], 4, Bool.true, (Value.agg #[Value.int IntKind.i64 0, Value.int IntKind.i64 0, Value.bool Bool.false, Value.int IntKind.u8 0]), 24, none⟩
theorem k8 : TIok Try.prog 8 i8 := tiok (by exact ⟨_, Try.underlying8, rfl⟩) Try.sizeOf8 Try.isAgg8 Try.zeroValue8 rfl Try.typeInfo8 rfl (fun h => by have h' : (none : Option E) = some .attr := h; cases h')
noncomputable def i9 : TI := ⟨.str, 1, Bool.false, (Value.string { data := #[] }), 16, some .str⟩
theorem k9 : TIok Try.prog 9 i9 := tiok (by exact Try.underlying9) Try.sizeOf9 Try.isAgg9 Try.zeroValue9 rfl Try.typeInfo9 rfl (fun h => by have h' : (some .str : Option E) = some .attr := h; cases h')
noncomputable def i10 : TI := ⟨.str, 1, Bool.false, (Value.string { data := #[] }), 16, none⟩
theorem k10 : TIok Try.prog 10 i10 := tiok (by exact Try.underlying10) Try.sizeOf10 Try.isAgg10 Try.zeroValue10 rfl Try.typeInfo10 rfl (fun h => by have h' : (none : Option E) = some .attr := h; cases h')
noncomputable def i11 : TI := ⟨.str, 1, Bool.false, (Value.string { data := #[] }), 16, none⟩
theorem k11 : TIok Try.prog 11 i11 := tiok (by exact Try.underlying11) Try.sizeOf11 Try.isAgg11 Try.zeroValue11 rfl Try.typeInfo11 rfl (fun h => by have h' : (none : Option E) = some .attr := h; cases h')
noncomputable def i12 : TI := ⟨.int .u64, 1, Bool.false, (Value.int IntKind.u64 0), 8, none⟩
theorem k12 : TIok Try.prog 12 i12 := tiok (by exact Try.underlying12) Try.sizeOf12 Try.isAgg12 Try.zeroValue12 rfl Try.typeInfo12 rfl (fun h => by have h' : (none : Option E) = some .attr := h; cases h')
noncomputable def i13 : TI := ⟨.struct [(9, 0), (12, 1)], 2, Bool.true, (Value.agg #[Value.string { data := #[] }, Value.int IntKind.u64 0]), 24, none⟩
theorem k13 : TIok Try.prog 13 i13 := tiok (by exact ⟨_, Try.underlying13, rfl⟩) Try.sizeOf13 Try.isAgg13 Try.zeroValue13 rfl Try.typeInfo13 rfl (fun h => by have h' : (none : Option E) = some .attr := h; cases h')
noncomputable def i14 : TI := ⟨.struct [(9, 0), (12, 1)], 2, Bool.true, (Value.agg #[Value.string { data := #[] }, Value.int IntKind.u64 0]), 24, none⟩
theorem k14 : TIok Try.prog 14 i14 := tiok (by exact ⟨_, Try.underlying14, rfl⟩) Try.sizeOf14 Try.isAgg14 Try.zeroValue14 rfl Try.typeInfo14 rfl (fun h => by have h' : (none : Option E) = some .attr := h; cases h')
noncomputable def i15 : TI := ⟨.ptr 128, 1, Bool.false, (Value.pointer Option.none), 8, none⟩
theorem k15 : TIok Try.prog 15 i15 := tiok (by exact Try.underlying15) Try.sizeOf15 Try.isAgg15 Try.zeroValue15 rfl Try.typeInfo15 rfl (fun h => by have h' : (none : Option E) = some .attr := h; cases h')
noncomputable def i16 : TI := ⟨.ptr 131, 1, Bool.false, (Value.pointer Option.none), 8, none⟩
theorem k16 : TIok Try.prog 16 i16 := tiok (by exact Try.underlying16) Try.sizeOf16 Try.isAgg16 Try.zeroValue16 rfl Try.typeInfo16 rfl (fun h => by have h' : (none : Option E) = some .attr := h; cases h')
noncomputable def i17 : TI := ⟨.ptr 139, 1, Bool.false, (Value.pointer Option.none), 8, none⟩
theorem k17 : TIok Try.prog 17 i17 := tiok (by exact Try.underlying17) Try.sizeOf17 Try.isAgg17 Try.zeroValue17 rfl Try.typeInfo17 rfl (fun h => by have h' : (none : Option E) = some .attr := h; cases h')
noncomputable def i18 : TI := ⟨.struct [(17, 0)], 1, Bool.true, (Value.agg #[Value.pointer Option.none]), 8, none⟩
theorem k18 : TIok Try.prog 18 i18 := tiok (by exact ⟨_, Try.underlying18, rfl⟩) Try.sizeOf18 Try.isAgg18 Try.zeroValue18 rfl Try.typeInfo18 rfl (fun h => by have h' : (none : Option E) = some .attr := h; cases h')
noncomputable def i19 : TI := ⟨.struct [(17, 0)], 1, Bool.true, (Value.agg #[Value.pointer Option.none]), 8, none⟩
theorem k19 : TIok Try.prog 19 i19 := tiok (by exact ⟨_, Try.underlying19, rfl⟩) Try.sizeOf19 Try.isAgg19 Try.zeroValue19 rfl Try.typeInfo19 rfl (fun h => by have h' : (none : Option E) = some .attr := h; cases h')
noncomputable def i20 : TI := ⟨.iface, 1, Bool.false, Value.nilIface, 16, none⟩
theorem k20 : TIok Try.prog 20 i20 := tiok (by exact ⟨_, Try.underlying20⟩) Try.sizeOf20 Try.isAgg20 Try.zeroValue20 rfl Try.typeInfo20 rfl (fun h => by have h' : (none : Option E) = some .attr := h; cases h')
noncomputable def i21 : TI := ⟨.int .i32, 1, Bool.false, (Value.int IntKind.i32 0), 4, some (.rc (.int .i32) [] 0)⟩
theorem k21 : TIok Try.prog 21 i21 := tiok (by exact Try.underlying21) Try.sizeOf21 Try.isAgg21 Try.zeroValue21 rfl Try.typeInfo21 rfl (fun h => by have h' : (some (.rc (.int .i32) [] 0) : Option E) = some .attr := h; cases h')
noncomputable def i22 : TI := ⟨.slice 41, 1, Bool.false, (Value.slice Option.none 0 0), 24, some (.rc .nodes [] 0)⟩
theorem k22 : TIok Try.prog 22 i22 := tiok (by exact Try.underlying22) Try.sizeOf22 Try.isAgg22 Try.zeroValue22 rfl Try.typeInfo22 rfl (fun h => by have h' : (some (.rc .nodes [] 0) : Option E) = some .attr := h; cases h')
noncomputable def i23 : TI := ⟨.slice 3, 1, Bool.false, (Value.slice Option.none 0 0), 24, some (.rc .ints [] 0)⟩
theorem k23 : TIok Try.prog 23 i23 := tiok (by exact Try.underlying23) Try.sizeOf23 Try.isAgg23 Try.zeroValue23 rfl Try.typeInfo23 rfl (fun h => by have h' : (some (.rc .ints [] 0) : Option E) = some .attr := h; cases h')
noncomputable def i24 : TI := ⟨.func, 1, Bool.false, Value.nilFunc, 8, none⟩
theorem k24 : TIok Try.prog 24 i24 := tiok (by exact ⟨_, _, _, Try.underlying24⟩) Try.sizeOf24 Try.isAgg24 Try.zeroValue24 rfl Try.typeInfo24 rfl (fun h => by have h' : (none : Option E) = some .attr := h; cases h')
noncomputable def i25 : TI := ⟨.func, 1, Bool.false, Value.nilFunc, 8, none⟩
theorem k25 : TIok Try.prog 25 i25 := tiok (by exact ⟨_, _, _, Try.underlying25⟩) Try.sizeOf25 Try.isAgg25 Try.zeroValue25 rfl Try.typeInfo25 rfl (fun h => by have h' : (none : Option E) = some .attr := h; cases h')
noncomputable def i26 : TI := ⟨.other, 1, Bool.false, (Value.tuple #[Value.string { data := #[] }, Value.bool Bool.false]), 0, none⟩
theorem k26 : TIok Try.prog 26 i26 := tiok (by exact trivial) Try.sizeOf26 Try.isAgg26 Try.zeroValue26 rfl Try.typeInfo26 rfl (fun h => by have h' : (none : Option E) = some .attr := h; cases h')
noncomputable def i27 : TI := ⟨.func, 1, Bool.false, Value.nilFunc, 8, none⟩
theorem k27 : TIok Try.prog 27 i27 := tiok (by exact ⟨_, _, _, Try.underlying27⟩) Try.sizeOf27 Try.isAgg27 Try.zeroValue27 rfl Try.typeInfo27 rfl (fun h => by have h' : (none : Option E) = some .attr := h; cases h')
noncomputable def i28 : TI := ⟨.func, 1, Bool.false, Value.nilFunc, 8, none⟩
theorem k28 : TIok Try.prog 28 i28 := tiok (by exact ⟨_, _, _, Try.underlying28⟩) Try.sizeOf28 Try.isAgg28 Try.zeroValue28 rfl Try.typeInfo28 rfl (fun h => by have h' : (none : Option E) = some .attr := h; cases h')
noncomputable def i29 : TI := ⟨.slice 45, 1, Bool.false, (Value.slice Option.none 0 0), 24, none⟩
theorem k29 : TIok Try.prog 29 i29 := tiok (by exact Try.underlying29) Try.sizeOf29 Try.isAgg29 Try.zeroValue29 rfl Try.typeInfo29 rfl (fun h => by have h' : (none : Option E) = some .attr := h; cases h')
noncomputable def i30 : TI := ⟨.slice 9, 1, Bool.false, (Value.slice Option.none 0 0), 24, some (.rc .strs [] 0)⟩
theorem k30 : TIok Try.prog 30 i30 := tiok (by exact Try.underlying30) Try.sizeOf30 Try.isAgg30 Try.zeroValue30 rfl Try.typeInfo30 rfl (fun h => by have h' : (some (.rc .strs [] 0) : Option E) = some .attr := h; cases h')
noncomputable def i31 : TI := ⟨.func, 1, Bool.false, Value.nilFunc, 8, none⟩
theorem k31 : TIok Try.prog 31 i31 := tiok (by exact ⟨_, _, _, Try.underlying31⟩) Try.sizeOf31 Try.isAgg31 Try.zeroValue31 rfl Try.typeInfo31 rfl (fun h => by have h' : (none : Option E) = some .attr := h; cases h')
noncomputable def i32 : TI := ⟨.func, 1, Bool.false, Value.nilFunc, 8, none⟩
theorem k32 : TIok Try.prog 32 i32 := tiok (by exact ⟨_, _, _, Try.underlying32⟩) Try.sizeOf32 Try.isAgg32 Try.zeroValue32 rfl Try.typeInfo32 rfl (fun h => by have h' : (none : Option E) = some .attr := h; cases h')
noncomputable def i33 : TI := ⟨.func, 1, Bool.false, Value.nilFunc, 8, none⟩
theorem k33 : TIok Try.prog 33 i33 := tiok (by exact ⟨_, _, _, Try.underlying33⟩) Try.sizeOf33 Try.isAgg33 Try.zeroValue33 rfl Try.typeInfo33 rfl (fun h => by have h' : (none : Option E) = some .attr := h; cases h')
noncomputable def i34 : TI := ⟨.func, 1, Bool.false, Value.nilFunc, 8, none⟩
theorem k34 : TIok Try.prog 34 i34 := tiok (by exact ⟨_, _, _, Try.underlying34⟩) Try.sizeOf34 Try.isAgg34 Try.zeroValue34 rfl Try.typeInfo34 rfl (fun h => by have h' : (none : Option E) = some .attr := h; cases h')
noncomputable def i35 : TI := ⟨.func, 1, Bool.false, Value.nilFunc, 8, none⟩
theorem k35 : TIok Try.prog 35 i35 := tiok (by exact ⟨_, _, _, Try.underlying35⟩) Try.sizeOf35 Try.isAgg35 Try.zeroValue35 rfl Try.typeInfo35 rfl (fun h => by have h' : (none : Option E) = some .attr := h; cases h')
noncomputable def i36 : TI := ⟨.func, 1, Bool.false, Value.nilFunc, 8, none⟩
theorem k36 : TIok Try.prog 36 i36 := tiok (by exact ⟨_, _, _, Try.underlying36⟩) Try.sizeOf36 Try.isAgg36 Try.zeroValue36 rfl Try.typeInfo36 rfl (fun h => by have h' : (none : Option E) = some .attr := h; cases h')
noncomputable def i37 : TI := ⟨.func, 1, Bool.false, Value.nilFunc, 8, none⟩
theorem k37 : TIok Try.prog 37 i37 := tiok (by exact ⟨_, _, _, Try.underlying37⟩) Try.sizeOf37 Try.isAgg37 Try.zeroValue37 rfl Try.typeInfo37 rfl (fun h => by have h' : (none : Option E) = some .attr := h; cases h')
noncomputable def i38 : TI := ⟨.func, 1, Bool.false, Value.nilFunc, 8, none⟩
theorem k38 : TIok Try.prog 38 i38 := tiok (by exact ⟨_, _, _, Try.underlying38⟩) Try.sizeOf38 Try.isAgg38 Try.zeroValue38 rfl Try.typeInfo38 rfl (fun h => by have h' : (none : Option E) = some .attr := h; cases h')
noncomputable def i39 : TI := ⟨.func, 1, Bool.false, Value.nilFunc, 8, none⟩
theorem k39 : TIok Try.prog 39 i39 := tiok (by exact ⟨_, _, _, Try.underlying39⟩) Try.sizeOf39 Try.isAgg39 Try.zeroValue39 rfl Try.typeInfo39 rfl (fun h => by have h' : (none : Option E) = some .attr := h; cases h')
noncomputable def i40 : TI := ⟨.struct [(3, 0), (9, 1), (9, 2), (29, 3), (3, 4)], 5, Bool.true, (Value.agg #[Value.int IntKind.i64 0, Value.string { data := #[] }, Value.string { data := #[] }, Value.slice Option.none 0 0, Value.int IntKind.i64 0]), 72, none⟩
theorem k40 : TIok Try.prog 40 i40 := tiok (by exact ⟨_, Try.underlying40, rfl⟩) Try.sizeOf40 Try.isAgg40 Try.zeroValue40 rfl Try.typeInfo40 rfl (fun h => by have h' : (none : Option E) = some .attr := h; cases h')
noncomputable def i41 : TI := ⟨.struct [(3, 0), (9, 1), (9, 2), (29, 3), (3, 4)], 5, Bool.true, (Value.agg #[Value.int IntKind.i64 0, Value.string { data := #[] }, Value.string { data := #[] }, Value.slice Option.none 0 0, Value.int IntKind.i64 0]), 72, some .node⟩
theorem k41 : TIok Try.prog 41 i41 := tiok (by exact ⟨_, Try.underlying41, rfl⟩) Try.sizeOf41 Try.isAgg41 Try.zeroValue41 rfl Try.typeInfo41 rfl (fun h => by have h' : (some .node : Option E) = some .attr := h; cases h')
noncomputable def i42 : TI := ⟨.func, 1, Bool.false, Value.nilFunc, 8, none⟩
theorem k42 : TIok Try.prog 42 i42 := tiok (by exact ⟨_, _, _, Try.underlying42⟩) Try.sizeOf42 Try.isAgg42 Try.zeroValue42 rfl Try.typeInfo42 rfl (fun h => by have h' : (none : Option E) = some .attr := h; cases h')
noncomputable def i43 : TI := ⟨.func, 1, Bool.false, Value.nilFunc, 8, none⟩
theorem k43 : TIok Try.prog 43 i43 := tiok (by exact ⟨_, _, _, Try.underlying43⟩) Try.sizeOf43 Try.isAgg43 Try.zeroValue43 rfl Try.typeInfo43 rfl (fun h => by have h' : (none : Option E) = some .attr := h; cases h')
noncomputable def i44 : TI := ⟨.struct [(9, 0), (9, 1)], 2, Bool.true, (Value.agg #[Value.string { data := #[] }, Value.string { data := #[] }]), 32, none⟩
theorem k44 : TIok Try.prog 44 i44 := tiok (by exact ⟨_, Try.underlying44, rfl⟩) Try.sizeOf44 Try.isAgg44 Try.zeroValue44 rfl Try.typeInfo44 rfl (fun h => by have h' : (none : Option E) = some .attr := h; cases h')
noncomputable def i45 : TI := ⟨.struct [(9, 0), (9, 1)], 2, Bool.true, (Value.agg #[Value.string { data := #[] }, Value.string { data := #[] }]), 32, some .attr⟩
theorem k45 : TIok Try.prog 45 i45 := tiok (by exact ⟨_, Try.underlying45, rfl⟩) Try.sizeOf45 Try.isAgg45 Try.zeroValue45 rfl Try.typeInfo45 rfl (fun _ => ⟨9, _, _, Try.underlying45, by decide, by decide, rfl, rfl, rfl, rfl, Try.underlying9, Try.isAgg9, by kernel_rfl, by kernel_rfl⟩)
noncomputable def i46 : TI := ⟨.func, 1, Bool.false, Value.nilFunc, 8, none⟩
theorem k46 : TIok Try.prog 46 i46 := tiok (by exact ⟨_, _, _, Try.underlying46⟩) Try.sizeOf46 Try.isAgg46 Try.zeroValue46 rfl Try.typeInfo46 rfl (fun h => by have h' : (none : Option E) = some .attr := h; cases h')
noncomputable def i47 : TI := ⟨.func, 1, Bool.false, Value.nilFunc, 8, none⟩
theorem k47 : TIok Try.prog 47 i47 := tiok (by exact ⟨_, _, _, Try.underlying47⟩) Try.sizeOf47 Try.isAgg47 Try.zeroValue47 rfl Try.typeInfo47 rfl (fun h => by have h' : (none : Option E) = some .attr := h; cases h')
noncomputable def i48 : TI := ⟨.func, 1, Bool.false, Value.nilFunc, 8, none⟩
theorem k48 : TIok Try.prog 48 i48 := tiok (by exact ⟨_, _, _, Try.underlying48⟩) Try.sizeOf48 Try.isAgg48 Try.zeroValue48 rfl Try.typeInfo48 rfl (fun h => by have h' : (none : Option E) = some .attr := h; cases h')
noncomputable def i49 : TI := ⟨.func, 1, Bool.false, Value.nilFunc, 8, none⟩
theorem k49 : TIok Try.prog 49 i49 := tiok (by exact ⟨_, _, _, Try.underlying49⟩) Try.sizeOf49 Try.isAgg49 Try.zeroValue49 rfl Try.typeInfo49 rfl (fun h => by have h' : (none : Option E) = some .attr := h; cases h')
noncomputable def i50 : TI := ⟨.ptr 74, 1, Bool.false, (Value.pointer Option.none), 8, none⟩
theorem k50 : TIok Try.prog 50 i50 := tiok (by exact Try.underlying50) Try.sizeOf50 Try.isAgg50 Try.zeroValue50 rfl Try.typeInfo50 rfl (fun h => by have h' : (none : Option E) = some .attr := h; cases h')
noncomputable def i51 : TI := ⟨.slice 58, 1, Bool.false, (Value.slice Option.none 0 0), 24, some (.rc .nps [] 0)⟩
theorem k51 : TIok Try.prog 51 i51 := tiok (by exact Try.underlying51) Try.sizeOf51 Try.isAgg51 Try.zeroValue51 rfl Try.typeInfo51 rfl (fun h => by have h' : (some (.rc .nps [] 0) : Option E) = some .attr := h; cases h')
noncomputable def i52 : TI := ⟨.other, 1, Bool.false, (Value.tuple #[Value.pointer Option.none, Value.slice Option.none 0 0, Value.bool Bool.false]), 0, none⟩
theorem k52 : TIok Try.prog 52 i52 := tiok (by exact trivial) Try.sizeOf52 Try.isAgg52 Try.zeroValue52 rfl Try.typeInfo52 rfl (fun h => by have h' : (none : Option E) = some .attr := h; cases h')
noncomputable def i53 : TI := ⟨.func, 1, Bool.false, Value.nilFunc, 8, none⟩
theorem k53 : TIok Try.prog 53 i53 := tiok (by exact ⟨_, _, _, Try.underlying53⟩) Try.sizeOf53 Try.isAgg53 Try.zeroValue53 rfl Try.typeInfo53 rfl (fun h => by have h' : (none : Option E) = some .attr := h; cases h')
noncomputable def i54 : TI := ⟨.func, 1, Bool.false, Value.nilFunc, 8, none⟩
theorem k54 : TIok Try.prog 54 i54 := tiok (by exact ⟨_, _, _, Try.underlying54⟩) Try.sizeOf54 Try.isAgg54 Try.zeroValue54 rfl Try.typeInfo54 rfl (fun h => by have h' : (none : Option E) = some .attr := h; cases h')
noncomputable def i55 : TI := ⟨.func, 1, Bool.false, Value.nilFunc, 8, none⟩
theorem k55 : TIok Try.prog 55 i55 := tiok (by exact ⟨_, _, _, Try.underlying55⟩) Try.sizeOf55 Try.isAgg55 Try.zeroValue55 rfl Try.typeInfo55 rfl (fun h => by have h' : (none : Option E) = some .attr := h; cases h')
noncomputable def i56 : TI := ⟨.func, 1, Bool.false, Value.nilFunc, 8, none⟩
theorem k56 : TIok Try.prog 56 i56 := tiok (by exact ⟨_, _, _, Try.underlying56⟩) Try.sizeOf56 Try.isAgg56 Try.zeroValue56 rfl Try.typeInfo56 rfl (fun h => by have h' : (none : Option E) = some .attr := h; cases h')
noncomputable def i57 : TI := ⟨.func, 1, Bool.false, Value.nilFunc, 8, none⟩
theorem k57 : TIok Try.prog 57 i57 := tiok (by exact ⟨_, _, _, Try.underlying57⟩) Try.sizeOf57 Try.isAgg57 Try.zeroValue57 rfl Try.typeInfo57 rfl (fun h => by have h' : (none : Option E) = some .attr := h; cases h')
noncomputable def i58 : TI := ⟨.ptr 82, 1, Bool.false, (Value.pointer Option.none), 8, some .np⟩
theorem k58 : TIok Try.prog 58 i58 := tiok (by exact Try.underlying58) Try.sizeOf58 Try.isAgg58 Try.zeroValue58 rfl Try.typeInfo58 rfl (fun h => by have h' : (some .np : Option E) = some .attr := h; cases h')
noncomputable def i59 : TI := ⟨.other, 1, Bool.false, (Value.tuple #[Value.pointer Option.none, Value.pointer Option.none]), 0, none⟩
theorem k59 : TIok Try.prog 59 i59 := tiok (by exact trivial) Try.sizeOf59 Try.isAgg59 Try.zeroValue59 rfl Try.typeInfo59 rfl (fun h => by have h' : (none : Option E) = some .attr := h; cases h')
noncomputable def i60 : TI := ⟨.func, 1, Bool.false, Value.nilFunc, 8, none⟩
theorem k60 : TIok Try.prog 60 i60 := tiok (by exact ⟨_, _, _, Try.underlying60⟩) Try.sizeOf60 Try.isAgg60 Try.zeroValue60 rfl Try.typeInfo60 rfl (fun h => by have h' : (none : Option E) = some .attr := h; cases h')
noncomputable def i61 : TI := ⟨.func, 1, Bool.false, Value.nilFunc, 8, none⟩
theorem k61 : TIok Try.prog 61 i61 := tiok (by exact ⟨_, _, _, Try.underlying61⟩) Try.sizeOf61 Try.isAgg61 Try.zeroValue61 rfl Try.typeInfo61 rfl (fun h => by have h' : (none : Option E) = some .attr := h; cases h')
noncomputable def i62 : TI := ⟨.func, 1, Bool.false, Value.nilFunc, 8, none⟩
theorem k62 : TIok Try.prog 62 i62 := tiok (by exact ⟨_, _, _, Try.underlying62⟩) Try.sizeOf62 Try.isAgg62 Try.zeroValue62 rfl Try.typeInfo62 rfl (fun h => by have h' : (none : Option E) = some .attr := h; cases h')
noncomputable def i63 : TI := ⟨.func, 1, Bool.false, Value.nilFunc, 8, none⟩
theorem k63 : TIok Try.prog 63 i63 := tiok (by exact ⟨_, _, _, Try.underlying63⟩) Try.sizeOf63 Try.isAgg63 Try.zeroValue63 rfl Try.typeInfo63 rfl (fun h => by have h' : (none : Option E) = some .attr := h; cases h')
noncomputable def i64 : TI := ⟨.func, 1, Bool.false, Value.nilFunc, 8, none⟩
theorem k64 : TIok Try.prog 64 i64 := tiok (by exact ⟨_, _, _, Try.underlying64⟩) Try.sizeOf64 Try.isAgg64 Try.zeroValue64 rfl Try.typeInfo64 rfl (fun h => by have h' : (none : Option E) = some .attr := h; cases h')
noncomputable def i65 : TI := ⟨.other, 1, Bool.false, (Value.tuple #[Value.slice Option.none 0 0, Value.bool Bool.false]), 0, none⟩
theorem k65 : TIok Try.prog 65 i65 := tiok (by exact trivial) Try.sizeOf65 Try.isAgg65 Try.zeroValue65 rfl Try.typeInfo65 rfl (fun h => by have h' : (none : Option E) = some .attr := h; cases h')
noncomputable def i66 : TI := ⟨.func, 1, Bool.false, Value.nilFunc, 8, none⟩
theorem k66 : TIok Try.prog 66 i66 := tiok (by exact ⟨_, _, _, Try.underlying66⟩) Try.sizeOf66 Try.isAgg66 Try.zeroValue66 rfl Try.typeInfo66 rfl (fun h => by have h' : (none : Option E) = some .attr := h; cases h')
noncomputable def i67 : TI := ⟨.func, 1, Bool.false, Value.nilFunc, 8, none⟩
theorem k67 : TIok Try.prog 67 i67 := tiok (by exact ⟨_, _, _, Try.underlying67⟩) Try.sizeOf67 Try.isAgg67 Try.zeroValue67 rfl Try.typeInfo67 rfl (fun h => by have h' : (none : Option E) = some .attr := h; cases h')
noncomputable def i68 : TI := ⟨.ptr 71, 1, Bool.false, (Value.pointer Option.none), 8, none⟩
theorem k68 : TIok Try.prog 68 i68 := tiok (by exact Try.underlying68) Try.sizeOf68 Try.isAgg68 Try.zeroValue68 rfl Try.typeInfo68 rfl (fun h => by have h' : (none : Option E) = some .attr := h; cases h')
noncomputable def i69 : TI := ⟨.slice 5, 1, Bool.false, (Value.slice Option.none 0 0), 24, none⟩
theorem k69 : TIok Try.prog 69 i69 := tiok (by exact Try.underlying69) Try.sizeOf69 Try.isAgg69 Try.zeroValue69 rfl Try.typeInfo69 rfl (fun h => by have h' : (none : Option E) = some .attr := h; cases h')
noncomputable def i70 : TI := ⟨.struct [(68, 0), (69, 1)], 2, Bool.true, (Value.agg #[Value.pointer Option.none, Value.slice Option.none 0 0]), 32, none⟩
theorem k70 : TIok Try.prog 70 i70 := tiok (by exact ⟨_, Try.underlying70, rfl⟩) Try.sizeOf70 Try.isAgg70 Try.zeroValue70 rfl Try.typeInfo70 rfl (fun h => by have h' : (none : Option E) = some .attr := h; cases h')
noncomputable def i71 : TI := ⟨.struct [(68, 0), (69, 1)], 2, Bool.true, (Value.agg #[Value.pointer Option.none, Value.slice Option.none 0 0]), 32, none⟩
theorem k71 : TIok Try.prog 71 i71 := tiok (by exact ⟨_, Try.underlying71, rfl⟩) Try.sizeOf71 Try.isAgg71 Try.zeroValue71 rfl Try.typeInfo71 rfl (fun h => by have h' : (none : Option E) = some .attr := h; cases h')
noncomputable def i72 : TI := ⟨.ptr 102, 1, Bool.false, (Value.pointer Option.none), 8, none⟩
theorem k72 : TIok Try.prog 72 i72 := tiok (by exact Try.underlying72) Try.sizeOf72 Try.isAgg72 Try.zeroValue72 rfl Try.typeInfo72 rfl (fun h => by have h' : (none : Option E) = some .attr := h; cases h')
noncomputable def i73 : TI := ⟨.struct [(51, 0), (72, 1), (50, 2)], 3, Bool.true, (Value.agg #[Value.slice Option.none 0 0, Value.pointer Option.none, Value.pointer Option.none]), 40, none⟩
theorem k73 : TIok Try.prog 73 i73 := tiok (by exact ⟨_, Try.underlying73, rfl⟩) Try.sizeOf73 Try.isAgg73 Try.zeroValue73 rfl Try.typeInfo73 rfl (fun h => by have h' : (none : Option E) = some .attr := h; cases h')
noncomputable def i74 : TI := ⟨.struct [(51, 0), (72, 1), (50, 2)], 3, Bool.true, (Value.agg #[Value.slice Option.none 0 0, Value.pointer Option.none, Value.pointer Option.none]), 40, some (.rc .nps [] 2)⟩
theorem k74 : TIok Try.prog 74 i74 := tiok (by exact ⟨_, Try.underlying74, rfl⟩) Try.sizeOf74 Try.isAgg74 Try.zeroValue74 rfl Try.typeInfo74 rfl (fun h => by have h' : (some (.rc .nps [] 2) : Option E) = some .attr := h; cases h')
noncomputable def i75 : TI := ⟨.func, 1, Bool.false, Value.nilFunc, 8, none⟩
theorem k75 : TIok Try.prog 75 i75 := tiok (by exact ⟨_, _, _, Try.underlying75⟩) Try.sizeOf75 Try.isAgg75 Try.zeroValue75 rfl Try.typeInfo75 rfl (fun h => by have h' : (none : Option E) = some .attr := h; cases h')
noncomputable def i76 : TI := ⟨.func, 1, Bool.false, Value.nilFunc, 8, none⟩
theorem k76 : TIok Try.prog 76 i76 := tiok (by exact ⟨_, _, _, Try.underlying76⟩) Try.sizeOf76 Try.isAgg76 Try.zeroValue76 rfl Try.typeInfo76 rfl (fun h => by have h' : (none : Option E) = some .attr := h; cases h')
noncomputable def i77 : TI := ⟨.int .u32, 1, Bool.false, (Value.int IntKind.u32 0), 4, none⟩
theorem k77 : TIok Try.prog 77 i77 := tiok (by exact Try.underlying77) Try.sizeOf77 Try.isAgg77 Try.zeroValue77 rfl Try.typeInfo77 rfl (fun h => by have h' : (none : Option E) = some .attr := h; cases h')
noncomputable def i78 : TI := ⟨.int .u32, 1, Bool.false, (Value.int IntKind.u32 0), 4, none⟩
theorem k78 : TIok Try.prog 78 i78 := tiok (by exact Try.underlying78) Try.sizeOf78 Try.isAgg78 Try.zeroValue78 rfl Try.typeInfo78 rfl (fun h => by have h' : (none : Option E) = some .attr := h; cases h')
noncomputable def i79 : TI := ⟨.int .u32, 1, Bool.false, (Value.int IntKind.u32 0), 4, none⟩
theorem k79 : TIok Try.prog 79 i79 := tiok (by exact Try.underlying79) Try.sizeOf79 Try.isAgg79 Try.zeroValue79 rfl Try.typeInfo79 rfl (fun h => by have h' : (none : Option E) = some .attr := h; cases h')
noncomputable def i80 : TI := ⟨.slice 84, 1, Bool.false, (Value.slice Option.none 0 0), 24, some (.rc .hattrs [] 0)⟩
theorem k80 : TIok Try.prog 80 i80 := tiok (by exact Try.underlying80) Try.sizeOf80 Try.isAgg80 Try.zeroValue80 rfl Try.typeInfo80 rfl (fun h => by have h' : (some (.rc .hattrs [] 0) : Option E) = some .attr := h; cases h')
noncomputable def i81 : TI := ⟨.struct [(58, 0), (58, 1), (58, 2), (58, 3), (58, 4), (78, 5), (79, 6), (9, 7), (9, 8), (80, 9)], 10, Bool.true, (Value.agg #[Value.pointer Option.none, Value.pointer Option.none, Value.pointer Option.none, Value.pointer Option.none, Value.pointer Option.none, Value.int IntKind.u32 0, Value.int IntKind.u32 0, Value.string { data := #[] }, Value.string { data := #[] }, Value.slice Option.none 0 0]), 104, none⟩
theorem k81 : TIok Try.prog 81 i81 := tiok (by exact ⟨_, Try.underlying81, rfl⟩) Try.sizeOf81 Try.isAgg81 Try.zeroValue81 rfl Try.typeInfo81 rfl (fun h => by have h' : (none : Option E) = some .attr := h; cases h')
noncomputable def i82 : TI := ⟨.struct [(58, 0), (58, 1), (58, 2), (58, 3), (58, 4), (78, 5), (79, 6), (9, 7), (9, 8), (80, 9)], 10, Bool.true, (Value.agg #[Value.pointer Option.none, Value.pointer Option.none, Value.pointer Option.none, Value.pointer Option.none, Value.pointer Option.none, Value.int IntKind.u32 0, Value.int IntKind.u32 0, Value.string { data := #[] }, Value.string { data := #[] }, Value.slice Option.none 0 0]), 104, none⟩
theorem k82 : TIok Try.prog 82 i82 := tiok (by exact ⟨_, Try.underlying82, rfl⟩) Try.sizeOf82 Try.isAgg82 Try.zeroValue82 rfl Try.typeInfo82 rfl (fun h => by have h' : (none : Option E) = some .attr := h; cases h')
noncomputable def i83 : TI := ⟨.struct [(9, 0), (9, 1), (9, 2)], 3, Bool.true, (Value.agg #[Value.string { data := #[] }, Value.string { data := #[] }, Value.string { data := #[] }]), 48, none⟩
theorem k83 : TIok Try.prog 83 i83 := tiok (by exact ⟨_, Try.underlying83, rfl⟩) Try.sizeOf83 Try.isAgg83 Try.zeroValue83 rfl Try.typeInfo83 rfl (fun h => by have h' : (none : Option E) = some .attr := h; cases h')
noncomputable def i84 : TI := ⟨.struct [(9, 0), (9, 1), (9, 2)], 3, Bool.true, (Value.agg #[Value.string { data := #[] }, Value.string { data := #[] }, Value.string { data := #[] }]), 48, some .hattr⟩
theorem k84 : TIok Try.prog 84 i84 := tiok (by exact ⟨_, Try.underlying84, rfl⟩) Try.sizeOf84 Try.isAgg84 Try.zeroValue84 rfl Try.typeInfo84 rfl (fun h => by have h' : (some .hattr : Option E) = some .attr := h; cases h')
noncomputable def i85 : TI := ⟨.func, 1, Bool.false, Value.nilFunc, 8, none⟩
theorem k85 : TIok Try.prog 85 i85 := tiok (by exact ⟨_, _, _, Try.underlying85⟩) Try.sizeOf85 Try.isAgg85 Try.zeroValue85 rfl Try.typeInfo85 rfl (fun h => by have h' : (none : Option E) = some .attr := h; cases h')
noncomputable def i86 : TI := ⟨.ptr 84, 1, Bool.false, (Value.pointer Option.none), 8, none⟩
theorem k86 : TIok Try.prog 86 i86 := tiok (by exact Try.underlying86) Try.sizeOf86 Try.isAgg86 Try.zeroValue86 rfl Try.typeInfo86 rfl (fun h => by have h' : (none : Option E) = some .attr := h; cases h')
noncomputable def i87 : TI := ⟨.other, 1, Bool.false, (Value.tuple #[Value.string { data := #[] }, Value.pointer Option.none]), 0, none⟩
theorem k87 : TIok Try.prog 87 i87 := tiok (by exact trivial) Try.sizeOf87 Try.isAgg87 Try.zeroValue87 rfl Try.typeInfo87 rfl (fun h => by have h' : (none : Option E) = some .attr := h; cases h')
noncomputable def i88 : TI := ⟨.func, 1, Bool.false, Value.nilFunc, 8, none⟩
theorem k88 : TIok Try.prog 88 i88 := tiok (by exact ⟨_, _, _, Try.underlying88⟩) Try.sizeOf88 Try.isAgg88 Try.zeroValue88 rfl Try.typeInfo88 rfl (fun h => by have h' : (none : Option E) = some .attr := h; cases h')
noncomputable def i89 : TI := ⟨.func, 1, Bool.false, Value.nilFunc, 8, none⟩
theorem k89 : TIok Try.prog 89 i89 := tiok (by exact ⟨_, _, _, Try.underlying89⟩) Try.sizeOf89 Try.isAgg89 Try.zeroValue89 rfl Try.typeInfo89 rfl (fun h => by have h' : (none : Option E) = some .attr := h; cases h')
noncomputable def i90 : TI := ⟨.func, 1, Bool.false, Value.nilFunc, 8, none⟩
theorem k90 : TIok Try.prog 90 i90 := tiok (by exact ⟨_, _, _, Try.underlying90⟩) Try.sizeOf90 Try.isAgg90 Try.zeroValue90 rfl Try.typeInfo90 rfl (fun h => by have h' : (none : Option E) = some .attr := h; cases h')
noncomputable def i91 : TI := ⟨.func, 1, Bool.false, Value.nilFunc, 8, none⟩
theorem k91 : TIok Try.prog 91 i91 := tiok (by exact ⟨_, _, _, Try.underlying91⟩) Try.sizeOf91 Try.isAgg91 Try.zeroValue91 rfl Try.typeInfo91 rfl (fun h => by have h' : (none : Option E) = some .attr := h; cases h')
noncomputable def i92 : TI := ⟨.func, 1, Bool.false, Value.nilFunc, 8, none⟩
theorem k92 : TIok Try.prog 92 i92 := tiok (by exact ⟨_, _, _, Try.underlying92⟩) Try.sizeOf92 Try.isAgg92 Try.zeroValue92 rfl Try.typeInfo92 rfl (fun h => by have h' : (none : Option E) = some .attr := h; cases h')
noncomputable def i93 : TI := ⟨.func, 1, Bool.false, Value.nilFunc, 8, none⟩
theorem k93 : TIok Try.prog 93 i93 := tiok (by exact ⟨_, _, _, Try.underlying93⟩) Try.sizeOf93 Try.isAgg93 Try.zeroValue93 rfl Try.typeInfo93 rfl (fun h => by have h' : (none : Option E) = some .attr := h; cases h')
noncomputable def i94 : TI := ⟨.other, 1, Bool.false, (Value.tuple #[Value.int IntKind.i64 0, Value.int IntKind.i64 0]), 0, none⟩
theorem k94 : TIok Try.prog 94 i94 := tiok (by exact trivial) Try.sizeOf94 Try.isAgg94 Try.zeroValue94 rfl Try.typeInfo94 rfl (fun h => by have h' : (none : Option E) = some .attr := h; cases h')
noncomputable def i95 : TI := ⟨.func, 1, Bool.false, Value.nilFunc, 8, none⟩
theorem k95 : TIok Try.prog 95 i95 := tiok (by exact ⟨_, _, _, Try.underlying95⟩) Try.sizeOf95 Try.isAgg95 Try.zeroValue95 rfl Try.typeInfo95 rfl (fun h => by have h' : (none : Option E) = some .attr := h; cases h')
noncomputable def i96 : TI := ⟨.func, 1, Bool.false, Value.nilFunc, 8, none⟩
theorem k96 : TIok Try.prog 96 i96 := tiok (by exact ⟨_, _, _, Try.underlying96⟩) Try.sizeOf96 Try.isAgg96 Try.zeroValue96 rfl Try.typeInfo96 rfl (fun h => by have h' : (none : Option E) = some .attr := h; cases h')
noncomputable def i97 : TI := ⟨.func, 1, Bool.false, Value.nilFunc, 8, none⟩
theorem k97 : TIok Try.prog 97 i97 := tiok (by exact ⟨_, _, _, Try.underlying97⟩) Try.sizeOf97 Try.isAgg97 Try.zeroValue97 rfl Try.typeInfo97 rfl (fun h => by have h' : (none : Option E) = some .attr := h; cases h')
noncomputable def i98 : TI := ⟨.func, 1, Bool.false, Value.nilFunc, 8, none⟩
theorem k98 : TIok Try.prog 98 i98 := tiok (by exact ⟨_, _, _, Try.underlying98⟩) Try.sizeOf98 Try.isAgg98 Try.zeroValue98 rfl Try.typeInfo98 rfl (fun h => by have h' : (none : Option E) = some .attr := h; cases h')
noncomputable def i99 : TI := ⟨.func, 1, Bool.false, Value.nilFunc, 8, none⟩
theorem k99 : TIok Try.prog 99 i99 := tiok (by exact ⟨_, _, _, Try.underlying99⟩) Try.sizeOf99 Try.isAgg99 Try.zeroValue99 rfl Try.typeInfo99 rfl (fun h => by have h' : (none : Option E) = some .attr := h; cases h')
noncomputable def i100 : TI := ⟨.func, 1, Bool.false, Value.nilFunc, 8, none⟩
theorem k100 : TIok Try.prog 100 i100 := tiok (by exact ⟨_, _, _, Try.underlying100⟩) Try.sizeOf100 Try.isAgg100 Try.zeroValue100 rfl Try.typeInfo100 rfl (fun h => by have h' : (none : Option E) = some .attr := h; cases h')
noncomputable def i101 : TI := ⟨.struct [(50, 0), (58, 1)], 2, Bool.true, (Value.agg #[Value.pointer Option.none, Value.pointer Option.none]), 16, none⟩
theorem k101 : TIok Try.prog 101 i101 := tiok (by exact ⟨_, Try.underlying101, rfl⟩) Try.sizeOf101 Try.isAgg101 Try.zeroValue101 rfl Try.typeInfo101 rfl (fun h => by have h' : (none : Option E) = some .attr := h; cases h')
noncomputable def i102 : TI := ⟨.struct [(50, 0), (58, 1)], 2, Bool.true, (Value.agg #[Value.pointer Option.none, Value.pointer Option.none]), 16, some (.rc .fsel [.np] 0)⟩
theorem k102 : TIok Try.prog 102 i102 := tiok (by exact ⟨_, Try.underlying102, rfl⟩) Try.sizeOf102 Try.isAgg102 Try.zeroValue102 rfl Try.typeInfo102 rfl (fun h => by have h' : (some (.rc .fsel [.np] 0) : Option E) = some .attr := h; cases h')
noncomputable def i103 : TI := ⟨.func, 1, Bool.false, Value.nilFunc, 8, none⟩
theorem k103 : TIok Try.prog 103 i103 := tiok (by exact ⟨_, _, _, Try.underlying103⟩) Try.sizeOf103 Try.isAgg103 Try.zeroValue103 rfl Try.typeInfo103 rfl (fun h => by have h' : (none : Option E) = some .attr := h; cases h')
noncomputable def i104 : TI := ⟨.iface, 1, Bool.false, Value.nilIface, 16, none⟩
theorem k104 : TIok Try.prog 104 i104 := tiok (by exact ⟨_, Try.underlying104⟩) Try.sizeOf104 Try.isAgg104 Try.zeroValue104 rfl Try.typeInfo104 rfl (fun h => by have h' : (none : Option E) = some .attr := h; cases h')
noncomputable def i105 : TI := ⟨.iface, 1, Bool.false, Value.nilIface, 16, none⟩
theorem k105 : TIok Try.prog 105 i105 := tiok (by exact ⟨_, Try.underlying105⟩) Try.sizeOf105 Try.isAgg105 Try.zeroValue105 rfl Try.typeInfo105 rfl (fun h => by have h' : (none : Option E) = some .attr := h; cases h')
noncomputable def i106 : TI := ⟨.other, 1, Bool.false, (Value.tuple #[Value.int IntKind.i64 0, Value.nilIface]), 0, none⟩
theorem k106 : TIok Try.prog 106 i106 := tiok (by exact trivial) Try.sizeOf106 Try.isAgg106 Try.zeroValue106 rfl Try.typeInfo106 rfl (fun h => by have h' : (none : Option E) = some .attr := h; cases h')
noncomputable def i107 : TI := ⟨.func, 1, Bool.false, Value.nilFunc, 8, none⟩
theorem k107 : TIok Try.prog 107 i107 := tiok (by exact ⟨_, _, _, Try.underlying107⟩) Try.sizeOf107 Try.isAgg107 Try.zeroValue107 rfl Try.typeInfo107 rfl (fun h => by have h' : (none : Option E) = some .attr := h; cases h')
noncomputable def i108 : TI := ⟨.ptr 5, 1, Bool.false, (Value.pointer Option.none), 8, none⟩
theorem k108 : TIok Try.prog 108 i108 := tiok (by exact Try.underlying108) Try.sizeOf108 Try.isAgg108 Try.zeroValue108 rfl Try.typeInfo108 rfl (fun h => by have h' : (none : Option E) = some .attr := h; cases h')
noncomputable def i109 : TI := ⟨.func, 1, Bool.false, Value.nilFunc, 8, none⟩
theorem k109 : TIok Try.prog 109 i109 := tiok (by exact ⟨_, _, _, Try.underlying109⟩) Try.sizeOf109 Try.isAgg109 Try.zeroValue109 rfl Try.typeInfo109 rfl (fun h => by have h' : (none : Option E) = some .attr := h; cases h')
noncomputable def i110 : TI := ⟨.func, 1, Bool.false, Value.nilFunc, 8, none⟩
theorem k110 : TIok Try.prog 110 i110 := tiok (by exact ⟨_, _, _, Try.underlying110⟩) Try.sizeOf110 Try.isAgg110 Try.zeroValue110 rfl Try.typeInfo110 rfl (fun h => by have h' : (none : Option E) = some .attr := h; cases h')
noncomputable def i111 : TI := ⟨.func, 1, Bool.false, Value.nilFunc, 8, none⟩
theorem k111 : TIok Try.prog 111 i111 := tiok (by exact ⟨_, _, _, Try.underlying111⟩) Try.sizeOf111 Try.isAgg111 Try.zeroValue111 rfl Try.typeInfo111 rfl (fun h => by have h' : (none : Option E) = some .attr := h; cases h')
noncomputable def i112 : TI := ⟨.int .u64, 1, Bool.false, (Value.int IntKind.u64 0), 8, none⟩
theorem k112 : TIok Try.prog 112 i112 := tiok (by exact Try.underlying112) Try.sizeOf112 Try.isAgg112 Try.zeroValue112 rfl Try.typeInfo112 rfl (fun h => by have h' : (none : Option E) = some .attr := h; cases h')
noncomputable def i113 : TI := ⟨.func, 1, Bool.false, Value.nilFunc, 8, none⟩
theorem k113 : TIok Try.prog 113 i113 := tiok (by exact ⟨_, _, _, Try.underlying113⟩) Try.sizeOf113 Try.isAgg113 Try.zeroValue113 rfl Try.typeInfo113 rfl (fun h => by have h' : (none : Option E) = some .attr := h; cases h')
noncomputable def i114 : TI := ⟨.func, 1, Bool.false, Value.nilFunc, 8, none⟩
theorem k114 : TIok Try.prog 114 i114 := tiok (by exact ⟨_, _, _, Try.underlying114⟩) Try.sizeOf114 Try.isAgg114 Try.zeroValue114 rfl Try.typeInfo114 rfl (fun h => by have h' : (none : Option E) = some .attr := h; cases h')
noncomputable def i115 : TI := ⟨.func, 1, Bool.false, Value.nilFunc, 8, none⟩
theorem k115 : TIok Try.prog 115 i115 := tiok (by exact ⟨_, _, _, Try.underlying115⟩) Try.sizeOf115 Try.isAgg115 Try.zeroValue115 rfl Try.typeInfo115 rfl (fun h => by have h' : (none : Option E) = some .attr := h; cases h')
noncomputable def i116 : TI := ⟨.func, 1, Bool.false, Value.nilFunc, 8, none⟩
theorem k116 : TIok Try.prog 116 i116 := tiok (by exact ⟨_, _, _, Try.underlying116⟩) Try.sizeOf116 Try.isAgg116 Try.zeroValue116 rfl Try.typeInfo116 rfl (fun h => by have h' : (none : Option E) = some .attr := h; cases h')
noncomputable def i117 : TI := ⟨.func, 1, Bool.false, Value.nilFunc, 8, none⟩
theorem k117 : TIok Try.prog 117 i117 := tiok (by exact ⟨_, _, _, Try.underlying117⟩) Try.sizeOf117 Try.isAgg117 Try.zeroValue117 rfl Try.typeInfo117 rfl (fun h => by have h' : (none : Option E) = some .attr := h; cases h')
noncomputable def i118 : TI := ⟨.func, 1, Bool.false, Value.nilFunc, 8, none⟩
theorem k118 : TIok Try.prog 118 i118 := tiok (by exact ⟨_, _, _, Try.underlying118⟩) Try.sizeOf118 Try.isAgg118 Try.zeroValue118 rfl Try.typeInfo118 rfl (fun h => by have h' : (none : Option E) = some .attr := h; cases h')
noncomputable def i119 : TI := ⟨.func, 1, Bool.false, Value.nilFunc, 8, none⟩
theorem k119 : TIok Try.prog 119 i119 := tiok (by exact ⟨_, _, _, Try.underlying119⟩) Try.sizeOf119 Try.isAgg119 Try.zeroValue119 rfl Try.typeInfo119 rfl (fun h => by have h' : (none : Option E) = some .attr := h; cases h')
noncomputable def i120 : TI := ⟨.func, 1, Bool.false, Value.nilFunc, 8, none⟩
theorem k120 : TIok Try.prog 120 i120 := tiok (by exact ⟨_, _, _, Try.underlying120⟩) Try.sizeOf120 Try.isAgg120 Try.zeroValue120 rfl Try.typeInfo120 rfl (fun h => by have h' : (none : Option E) = some .attr := h; cases h')
noncomputable def i121 : TI := ⟨.map 58 4, 1, Bool.false, (Value.map Option.none), 8, none⟩
theorem k121 : TIok Try.prog 121 i121 := tiok (by exact Try.underlying121) Try.sizeOf121 Try.isAgg121 Try.zeroValue121 rfl Try.typeInfo121 rfl (fun h => by have h' : (none : Option E) = some .attr := h; cases h')
noncomputable def i122 : TI := ⟨.func, 1, Bool.false, Value.nilFunc, 8, none⟩
theorem k122 : TIok Try.prog 122 i122 := tiok (by exact ⟨_, _, _, Try.underlying122⟩) Try.sizeOf122 Try.isAgg122 Try.zeroValue122 rfl Try.typeInfo122 rfl (fun h => by have h' : (none : Option E) = some .attr := h; cases h')
noncomputable def i123 : TI := ⟨.other, 1, Bool.false, (Value.pointer Option.none), 8, none⟩
theorem k123 : TIok Try.prog 123 i123 := tiok (by exact trivial) Try.sizeOf123 Try.isAgg123 Try.zeroValue123 rfl Try.typeInfo123 rfl (fun h => by have h' : (none : Option E) = some .attr := h; cases h')
noncomputable def i124 : TI := ⟨.func, 1, Bool.false, Value.nilFunc, 8, none⟩
theorem k124 : TIok Try.prog 124 i124 := tiok (by exact ⟨_, _, _, Try.underlying124⟩) Try.sizeOf124 Try.isAgg124 Try.zeroValue124 rfl Try.typeInfo124 rfl (fun h => by have h' : (none : Option E) = some .attr := h; cases h')
noncomputable def i125 : TI := ⟨.func, 1, Bool.false, Value.nilFunc, 8, none⟩
theorem k125 : TIok Try.prog 125 i125 := tiok (by exact ⟨_, _, _, Try.underlying125⟩) Try.sizeOf125 Try.isAgg125 Try.zeroValue125 rfl Try.typeInfo125 rfl (fun h => by have h' : (none : Option E) = some .attr := h; cases h')
noncomputable def i126 : TI := ⟨.func, 1, Bool.false, Value.nilFunc, 8, none⟩
theorem k126 : TIok Try.prog 126 i126 := tiok (by exact ⟨_, _, _, Try.underlying126⟩) Try.sizeOf126 Try.isAgg126 Try.zeroValue126 rfl Try.typeInfo126 rfl (fun h => by have h' : (none : Option E) = some .attr := h; cases h')
noncomputable def i127 : TI := ⟨.struct [(17, 0), (17, 1), (17, 2), (9, 3)], 4, Bool.true, (Value.agg #[Value.pointer Option.none, Value.pointer Option.none, Value.pointer Option.none, Value.string { data := #[] }]), 40, none⟩
theorem k127 : TIok Try.prog 127 i127 := tiok (by exact ⟨_, Try.underlying127, rfl⟩) Try.sizeOf127 Try.isAgg127 Try.zeroValue127 rfl Try.typeInfo127 rfl (fun h => by have h' : (none : Option E) = some .attr := h; cases h')
noncomputable def i128 : TI := ⟨.struct [(17, 0), (17, 1), (17, 2), (9, 3)], 4, Bool.true, (Value.agg #[Value.pointer Option.none, Value.pointer Option.none, Value.pointer Option.none, Value.string { data := #[] }]), 40, none⟩
theorem k128 : TIok Try.prog 128 i128 := tiok (by exact ⟨_, Try.underlying128, rfl⟩) Try.sizeOf128 Try.isAgg128 Try.zeroValue128 rfl Try.typeInfo128 rfl (fun h => by have h' : (none : Option E) = some .attr := h; cases h')
noncomputable def i129 : TI := ⟨.other, 0, Bool.true, (Value.agg #[]), 0, none⟩
theorem k129 : TIok Try.prog 129 i129 := tiok (by exact trivial) Try.sizeOf129 Try.isAgg129 Try.zeroValue129 rfl Try.typeInfo129 rfl (fun h => by have h' : (none : Option E) = some .attr := h; cases h')
noncomputable def i130 : TI := ⟨.struct [(129, 0)], 0, Bool.true, (Value.agg #[]), 0, none⟩
theorem k130 : TIok Try.prog 130 i130 := tiok (by exact ⟨_, Try.underlying130, rfl⟩) Try.sizeOf130 Try.isAgg130 Try.zeroValue130 rfl Try.typeInfo130 rfl (fun h => by have h' : (none : Option E) = some .attr := h; cases h')
noncomputable def i131 : TI := ⟨.struct [(129, 0)], 0, Bool.true, (Value.agg #[]), 0, none⟩
theorem k131 : TIok Try.prog 131 i131 := tiok (by exact ⟨_, Try.underlying131, rfl⟩) Try.sizeOf131 Try.isAgg131 Try.zeroValue131 rfl Try.typeInfo131 rfl (fun h => by have h' : (none : Option E) = some .attr := h; cases h')
noncomputable def i132 : TI := ⟨.func, 1, Bool.false, Value.nilFunc, 8, none⟩
theorem k132 : TIok Try.prog 132 i132 := tiok (by exact ⟨_, _, _, Try.underlying132⟩) Try.sizeOf132 Try.isAgg132 Try.zeroValue132 rfl Try.typeInfo132 rfl (fun h => by have h' : (none : Option E) = some .attr := h; cases h')
noncomputable def i133 : TI := ⟨.int .u8, 1, Bool.false, (Value.int IntKind.u8 0), 1, none⟩
theorem k133 : TIok Try.prog 133 i133 := tiok (by exact Try.underlying133) Try.sizeOf133 Try.isAgg133 Try.zeroValue133 rfl Try.typeInfo133 rfl (fun h => by have h' : (none : Option E) = some .attr := h; cases h')
noncomputable def i134 : TI := ⟨.int .u8, 1, Bool.false, (Value.int IntKind.u8 0), 1, none⟩
theorem k134 : TIok Try.prog 134 i134 := tiok (by exact Try.underlying134) Try.sizeOf134 Try.isAgg134 Try.zeroValue134 rfl Try.typeInfo134 rfl (fun h => by have h' : (none : Option E) = some .attr := h; cases h')
noncomputable def i135 : TI := ⟨.func, 1, Bool.false, Value.nilFunc, 8, none⟩
theorem k135 : TIok Try.prog 135 i135 := tiok (by exact ⟨_, _, _, Try.underlying135⟩) Try.sizeOf135 Try.isAgg135 Try.zeroValue135 rfl Try.typeInfo135 rfl (fun h => by have h' : (none : Option E) = some .attr := h; cases h')
noncomputable def i136 : TI := ⟨.int .i32, 1, Bool.false, (Value.int IntKind.i32 0), 4, none⟩
theorem k136 : TIok Try.prog 136 i136 := tiok (by exact Try.underlying136) Try.sizeOf136 Try.isAgg136 Try.zeroValue136 rfl Try.typeInfo136 rfl (fun h => by have h' : (none : Option E) = some .attr := h; cases h')
noncomputable def i137 : TI := ⟨.int .i32, 1, Bool.false, (Value.int IntKind.i32 0), 4, none⟩
theorem k137 : TIok Try.prog 137 i137 := tiok (by exact Try.underlying137) Try.sizeOf137 Try.isAgg137 Try.zeroValue137 rfl Try.typeInfo137 rfl (fun h => by have h' : (none : Option E) = some .attr := h; cases h')
noncomputable def i138 : TI := ⟨.struct [(12, 0), (12, 1), (77, 2), (133, 3), (5, 4), (5, 5), (134, 6), (135, 7), (108, 8), (136, 9), (137, 10)], 11, Bool.true, (Value.agg #[Value.int IntKind.u64 0, Value.int IntKind.u64 0, Value.int IntKind.u32 0, Value.int IntKind.u8 0, Value.int IntKind.u8 0, Value.int IntKind.u8 0, Value.int IntKind.u8 0, Value.nilFunc, Value.pointer Option.none, Value.int IntKind.i32 0, Value.int IntKind.i32 0]), 48, none⟩
theorem k138 : TIok Try.prog 138 i138 := tiok (by exact ⟨_, Try.underlying138, rfl⟩) Try.sizeOf138 Try.isAgg138 Try.zeroValue138 rfl Try.typeInfo138 rfl (fun h => by have h' : (none : Option E) = some .attr := h; cases h')
noncomputable def i139 : TI := ⟨.struct [(12, 0), (12, 1), (77, 2), (133, 3), (5, 4), (5, 5), (134, 6), (135, 7), (108, 8), (136, 9), (137, 10)], 11, Bool.true, (Value.agg #[Value.int IntKind.u64 0, Value.int IntKind.u64 0, Value.int IntKind.u32 0, Value.int IntKind.u8 0, Value.int IntKind.u8 0, Value.int IntKind.u8 0, Value.int IntKind.u8 0, Value.nilFunc, Value.pointer Option.none, Value.int IntKind.i32 0, Value.int IntKind.i32 0]), 48, none⟩
theorem k139 : TIok Try.prog 139 i139 := tiok (by exact ⟨_, Try.underlying139, rfl⟩) Try.sizeOf139 Try.isAgg139 Try.zeroValue139 rfl Try.typeInfo139 rfl (fun h => by have h' : (none : Option E) = some .attr := h; cases h')
noncomputable def i140 : TI := ⟨.func, 1, Bool.false, Value.nilFunc, 8, none⟩
theorem k140 : TIok Try.prog 140 i140 := tiok (by exact ⟨_, _, _, Try.underlying140⟩) Try.sizeOf140 Try.isAgg140 Try.zeroValue140 rfl Try.typeInfo140 rfl (fun h => by have h' : (none : Option E) = some .attr := h; cases h')
noncomputable def i141 : TI := ⟨.func, 1, Bool.false, Value.nilFunc, 8, none⟩
theorem k141 : TIok Try.prog 141 i141 := tiok (by exact ⟨_, _, _, Try.underlying141⟩) Try.sizeOf141 Try.isAgg141 Try.zeroValue141 rfl Try.typeInfo141 rfl (fun h => by have h' : (none : Option E) = some .attr := h; cases h')
noncomputable def i142 : TI := ⟨.func, 1, Bool.false, Value.nilFunc, 8, none⟩
theorem k142 : TIok Try.prog 142 i142 := tiok (by exact ⟨_, _, _, Try.underlying142⟩) Try.sizeOf142 Try.isAgg142 Try.zeroValue142 rfl Try.typeInfo142 rfl (fun h => by have h' : (none : Option E) = some .attr := h; cases h')
noncomputable def i143 : TI := ⟨.func, 1, Bool.false, Value.nilFunc, 8, none⟩
theorem k143 : TIok Try.prog 143 i143 := tiok (by exact ⟨_, _, _, Try.underlying143⟩) Try.sizeOf143 Try.isAgg143 Try.zeroValue143 rfl Try.typeInfo143 rfl (fun h => by have h' : (none : Option E) = some .attr := h; cases h')
noncomputable def tb : List (Option TI) := some i0 :: some i1 :: some i2 :: some i3 :: some i4 :: some i5 :: some i6 :: some i7 :: some i8 :: some i9 :: some i10 :: some i11 :: some i12 :: some i13 :: some i14 :: some i15 :: some i16 :: some i17 :: some i18 :: some i19 :: some i20 :: some i21 :: some i22 :: some i23 :: some i24 :: some i25 :: some i26 :: some i27 :: some i28 :: some i29 :: some i30 :: some i31 :: some i32 :: some i33 :: some i34 :: some i35 :: some i36 :: some i37 :: some i38 :: some i39 :: some i40 :: some i41 :: some i42 :: some i43 :: some i44 :: some i45 :: some i46 :: some i47 :: some i48 :: some i49 :: some i50 :: some i51 :: some i52 :: some i53 :: some i54 :: some i55 :: some i56 :: some i57 :: some i58 :: some i59 :: some i60 :: some i61 :: some i62 :: some i63 :: some i64 :: some i65 :: some i66 :: some i67 :: some i68 :: some i69 :: some i70 :: some i71 :: some i72 :: some i73 :: some i74 :: some i75 :: some i76 :: some i77 :: some i78 :: some i79 :: some i80 :: some i81 :: some i82 :: some i83 :: some i84 :: some i85 :: some i86 :: some i87 :: some i88 :: some i89 :: some i90 :: some i91 :: some i92 :: some i93 :: some i94 :: some i95 :: some i96 :: some i97 :: some i98 :: some i99 :: some i100 :: some i101 :: some i102 :: some i103 :: some i104 :: some i105 :: some i106 :: some i107 :: some i108 :: some i109 :: some i110 :: some i111 :: some i112 :: some i113 :: some i114 :: some i115 :: some i116 :: some i117 :: some i118 :: some i119 :: some i120 :: some i121 :: some i122 :: some i123 :: some i124 :: some i125 :: some i126 :: some i127 :: some i128 :: some i129 :: some i130 :: some i131 :: some i132 :: some i133 :: some i134 :: some i135 :: some i136 :: some i137 :: some i138 :: some i139 :: some i140 :: some i141 :: some i142 :: some i143 :: []
theorem tb_ok : TbOK Try.prog tb := fun T t h => by
  have := tb_of (P := Try.prog) (k := 0) (l := tb) (by exact ⟨k0, ⟨k1, ⟨k2, ⟨k3, ⟨k4, ⟨k5, ⟨k6, ⟨k7, ⟨k8, ⟨k9, ⟨k10, ⟨k11, ⟨k12, ⟨k13, ⟨k14, ⟨k15, ⟨k16, ⟨k17, ⟨k18, ⟨k19, ⟨k20, ⟨k21, ⟨k22, ⟨k23, ⟨k24, ⟨k25, ⟨k26, ⟨k27, ⟨k28, ⟨k29, ⟨k30, ⟨k31, ⟨k32, ⟨k33, ⟨k34, ⟨k35, ⟨k36, ⟨k37, ⟨k38, ⟨k39, ⟨k40, ⟨k41, ⟨k42, ⟨k43, ⟨k44, ⟨k45, ⟨k46, ⟨k47, ⟨k48, ⟨k49, ⟨k50, ⟨k51, ⟨k52, ⟨k53, ⟨k54, ⟨k55, ⟨k56, ⟨k57, ⟨k58, ⟨k59, ⟨k60, ⟨k61, ⟨k62, ⟨k63, ⟨k64, ⟨k65, ⟨k66, ⟨k67, ⟨k68, ⟨k69, ⟨k70, ⟨k71, ⟨k72, ⟨k73, ⟨k74, ⟨k75, ⟨k76, ⟨k77, ⟨k78, ⟨k79, ⟨k80, ⟨k81, ⟨k82, ⟨k83, ⟨k84, ⟨k85, ⟨k86, ⟨k87, ⟨k88, ⟨k89, ⟨k90, ⟨k91, ⟨k92, ⟨k93, ⟨k94, ⟨k95, ⟨k96, ⟨k97, ⟨k98, ⟨k99, ⟨k100, ⟨k101, ⟨k102, ⟨k103, ⟨k104, ⟨k105, ⟨k106, ⟨k107, ⟨k108, ⟨k109, ⟨k110, ⟨k111, ⟨k112, ⟨k113, ⟨k114, ⟨k115, ⟨k116, ⟨k117, ⟨k118, ⟨k119, ⟨k120, ⟨k121, ⟨k122, ⟨k123, ⟨k124, ⟨k125, ⟨k126, ⟨k127, ⟨k128, ⟨k129, ⟨k130, ⟨k131, ⟨k132, ⟨k133, ⟨k134, ⟨k135, ⟨k136, ⟨k137, ⟨k138, ⟨k139, ⟨k140, ⟨k141, ⟨k142, ⟨k143, trivial⟩⟩⟩⟩⟩⟩⟩⟩⟩⟩⟩⟩⟩⟩⟩⟩⟩⟩⟩⟩⟩⟩⟩⟩⟩⟩⟩⟩⟩⟩⟩⟩⟩⟩⟩⟩⟩⟩⟩⟩⟩⟩⟩⟩⟩⟩⟩⟩⟩⟩⟩⟩⟩⟩⟩⟩⟩⟩⟩⟩⟩⟩⟩⟩⟩⟩⟩⟩⟩⟩⟩⟩⟩⟩⟩⟩⟩⟩⟩⟩⟩⟩⟩⟩⟩⟩⟩⟩⟩⟩⟩⟩⟩⟩⟩⟩⟩⟩⟩⟩⟩⟩⟩⟩⟩⟩⟩⟩⟩⟩⟩⟩⟩⟩⟩⟩⟩⟩⟩⟩⟩⟩⟩⟩⟩⟩⟩⟩⟩⟩⟩⟩⟩⟩⟩⟩⟩⟩⟩⟩⟩⟩⟩⟩) T t h
  rwa [Nat.zero_add] at this
theorem mixed : Try.prog.follows .mixedOrders = true := by kernel_rfl
end Go.Proofs.Ytcbmbmfenhoflaa.V
set_option linter.unusedVariables false
set_option linter.unusedSimpArgs false
namespace Go.Proofs.Ytcbmbmfenhoflaa.V
open Go Go.Proofs
abbrev p_laws_zzFits4 : Pt := [(0, .el .attr)]
abbrev q_laws_zzFits4 : Pt := [(0, .bool)]
noncomputable def m_laws_zzFits4 : Tup p_laws_zzFits4 → Option (Tup q_laws_zzFits4) := fun (x : Attr) => bif decide ((2147483647 : Int) < (↑(List.length (Attr.key x)) : Int)) then some false else bif decide ((2147483647 : Int) < (↑(List.length (Attr.val x)) : Int)) then some false else some true
noncomputable def cx_laws_zzFits4 : Cx := ⟨tb, lookE [], lookS []⟩
theorem ck_laws_zzFits4 : CxOK Try.prog (cx_laws_zzFits4) := cx_ok tb_ok .nil
noncomputable def e_laws_zzFits4 : Ent := ⟨0, p_laws_zzFits4, q_laws_zzFits4, m_laws_zzFits4⟩
theorem ok_laws_zzFits4 : FnOK Try.prog 32 e_laws_zzFits4 := fn_ok (L := lookL []) ck_laws_zzFits4 mixed Try.func32 rfl (by kernel_rfl) (by kernel_rfl) (ls_ok (l := []) (by kernel_rfl) .nil) (by intro x; kernel_rfl)
abbrev p_laws_zzFits3 : Pt := [(0, .lst .attr)]
abbrev q_laws_zzFits3 : Pt := [(0, .bool)]
abbrev p_laws_zzFits3_0 : Pt := [(8, .lst .attr), (9, .int .i64), (10, .int .i64)]
abbrev x_laws_zzFits3_0 : List (Xt × Pt) := [(.ex 0, []), (.rt, [(2, .bool)])]
noncomputable def m_laws_zzFits3_0 : Tup p_laws_zzFits3_0 → Option (Stp (Tup p_laws_zzFits3_0) (SumT (x_laws_zzFits3_0.map (·.2)))) := fun (x : List Attr × Int × Int) => bif decide (x.2.2 < x.2.1) then Option.bind (atI x.1 x.2.2) fun (v : Attr) => Option.bind (m_laws_zzFits4 { key := Attr.key v, val := Attr.val v }) fun (r : Bool) => bif !r then some (Stp.out (Sum.inr false)) else some (Stp.nx (x.1, x.2.1, IntKind.wrap .i64 (x.2.2 + (1 : Int)))) else some (Stp.out (Sum.inl ()))
noncomputable def m_laws_zzFits3 : Tup p_laws_zzFits3 → Option (Tup q_laws_zzFits3) := fun (x : List Attr) => bif decide ((2147483647 : Int) < (↑(List.length x) : Int)) then some false else Option.bind (loopO m_laws_zzFits3_0 (x, (↑(List.length x) : Int), (0 : Int))) fun (y : PUnit ⊕ Bool) => selim (fun (y : PUnit) => some true) (fun (y : Bool) => some y) y
noncomputable def cx_laws_zzFits3 : Cx := ⟨tb, lookE [(32, e_laws_zzFits4)], lookS []⟩
theorem ck_laws_zzFits3 : CxOK Try.prog (cx_laws_zzFits3) := cx_ok tb_ok (.cons ok_laws_zzFits4 Try.call32 .nil)
noncomputable def c_laws_zzFits3_0 : Code := loopAt (Go.Proofs.Try.f11.body.getD .skip) 0
noncomputable def l_laws_zzFits3_0 : LEnt := ⟨p_laws_zzFits3_0, x_laws_zzFits3_0, loopO (m_laws_zzFits3_0)⟩
theorem lo_laws_zzFits3_0 : LOK Try.prog 18 0 false (l_laws_zzFits3_0) c_laws_zzFits3_0 := loop_ok (body := m_laws_zzFits3_0) (L := lookL []) (ck_laws_zzFits3) mixed (ls_ok (l := []) (by kernel_rfl) .nil) (by intro x; kernel_rfl) (fun x y h => loopO_iff.1 h)
noncomputable def e_laws_zzFits3 : Ent := ⟨0, p_laws_zzFits3, q_laws_zzFits3, m_laws_zzFits3⟩
theorem ok_laws_zzFits3 : FnOK Try.prog 11 e_laws_zzFits3 := fn_ok (L := lookL [(0, l_laws_zzFits3_0)]) ck_laws_zzFits3 mixed Try.func11 rfl (by kernel_rfl) (by kernel_rfl) (ls_ok (l := [(0, c_laws_zzFits3_0)]) (by kernel_rfl) (.cons rfl (lo_laws_zzFits3_0) .nil)) (by intro x; kernel_rfl)
abbrev p_spec_space : Pt := [(0, .int .u8)]
abbrev q_spec_space : Pt := [(0, .bool)]
noncomputable def m_spec_space : Tup p_spec_space → Option (Tup q_spec_space) := fun (x : Int) => bif decide (x = (32 : Int)) then some true else bif decide (x = (9 : Int)) then some true else bif decide (x = (10 : Int)) then some true else bif decide (x = (13 : Int)) then some true else some (decide (x = (12 : Int)))
noncomputable def cx_spec_space : Cx := ⟨tb, lookE [], lookS []⟩
theorem ck_spec_space : CxOK Try.prog (cx_spec_space) := cx_ok tb_ok .nil
noncomputable def e_spec_space : Ent := ⟨0, p_spec_space, q_spec_space, m_spec_space⟩
theorem ok_spec_space : FnOK Try.prog 47 e_spec_space := fn_ok (L := lookL []) ck_spec_space mixed Try.func47 rfl (by kernel_rfl) (by kernel_rfl) (ls_ok (l := []) (by kernel_rfl) .nil) (by intro x; kernel_rfl)
abbrev p_spec_WordsOf : Pt := [(0, .str)]
abbrev q_spec_WordsOf : Pt := [(0, .own .str 9)]
abbrev p_spec_WordsOf_0 : Pt := [(0, .str), (3, .own .str 9), (4, .int .i64), (5, .int .i64)]
abbrev x_spec_WordsOf_0 : List (Xt × Pt) := [(.ex 0, [(3, .own .str 9)])]
noncomputable def m_spec_WordsOf_0 : Tup p_spec_WordsOf_0 → Option (Stp (Tup p_spec_WordsOf_0) (SumT (x_spec_WordsOf_0.map (·.2)))) := fun (x : List UInt8 × List (List UInt8) × Int × Int) => bif decide (x.2.2.2 ≤ (↑(List.length x.1) : Int)) then bif decide (x.2.2.2 < (↑(List.length x.1) : Int)) then Option.bind (atI x.1 x.2.2.2) fun (c : UInt8) => Option.bind (m_spec_space (↑(UInt8.toNat c) : Int)) fun (r : Bool) => bif !r then some (Stp.nx (x.1, x.2.1, x.2.2.1, IntKind.wrap .i64 (x.2.2.2 + (1 : Int)))) else bif decide (x.2.2.1 < x.2.2.2) then Option.bind (subL x.1 x.2.2.1 x.2.2.2) fun (m : List UInt8) => Option.bind (appL x.2.1 [m]) fun (r : List (List UInt8)) => some (Stp.nx (x.1, r, IntKind.wrap .i64 (x.2.2.2 + (1 : Int)), IntKind.wrap .i64 (x.2.2.2 + (1 : Int)))) else some (Stp.nx (x.1, x.2.1, IntKind.wrap .i64 (x.2.2.2 + (1 : Int)), IntKind.wrap .i64 (x.2.2.2 + (1 : Int)))) else bif decide (x.2.2.1 < x.2.2.2) then Option.bind (subL x.1 x.2.2.1 x.2.2.2) fun (m : List UInt8) => Option.bind (appL x.2.1 [m]) fun (r : List (List UInt8)) => some (Stp.nx (x.1, r, IntKind.wrap .i64 (x.2.2.2 + (1 : Int)), IntKind.wrap .i64 (x.2.2.2 + (1 : Int)))) else some (Stp.nx (x.1, x.2.1, IntKind.wrap .i64 (x.2.2.2 + (1 : Int)), IntKind.wrap .i64 (x.2.2.2 + (1 : Int)))) else some (Stp.out x.2.1)
noncomputable def m_spec_WordsOf : Tup p_spec_WordsOf → Option (Tup q_spec_WordsOf) := fun (x : List UInt8) => Option.bind (loopO m_spec_WordsOf_0 (x, [], (0 : Int), (0 : Int))) fun (y : List (List UInt8)) => some y
noncomputable def cx_spec_WordsOf : Cx := ⟨tb, lookE [(47, e_spec_space)], lookS []⟩
theorem ck_spec_WordsOf : CxOK Try.prog (cx_spec_WordsOf) := cx_ok tb_ok (.cons ok_spec_space Try.call47 .nil)
noncomputable def c_spec_WordsOf_0 : Code := loopAt (Go.Proofs.Try.f37.body.getD .skip) 0
noncomputable def l_spec_WordsOf_0 : LEnt := ⟨p_spec_WordsOf_0, x_spec_WordsOf_0, loopO (m_spec_WordsOf_0)⟩
theorem lo_spec_WordsOf_0 : LOK Try.prog 36 0 false (l_spec_WordsOf_0) c_spec_WordsOf_0 := loop_ok (body := m_spec_WordsOf_0) (L := lookL []) (ck_spec_WordsOf) mixed (ls_ok (l := []) (by kernel_rfl) .nil) (by intro x; kernel_rfl) (fun x y h => loopO_iff.1 h)
noncomputable def e_spec_WordsOf : Ent := ⟨0, p_spec_WordsOf, q_spec_WordsOf, m_spec_WordsOf⟩
theorem ok_spec_WordsOf : FnOK Try.prog 37 e_spec_WordsOf := fn_ok (L := lookL [(0, l_spec_WordsOf_0)]) ck_spec_WordsOf mixed Try.func37 rfl (by kernel_rfl) (by kernel_rfl) (ls_ok (l := [(0, c_spec_WordsOf_0)]) (by kernel_rfl) (.cons rfl (lo_spec_WordsOf_0) .nil)) (by intro x; kernel_rfl)
abbrev p_spec_Word : Pt := [(0, .str), (1, .str)]
abbrev q_spec_Word : Pt := [(0, .bool)]
abbrev p_spec_Word_0 : Pt := [(1, .str), (5, .own .str 9), (6, .int .i64)]
abbrev x_spec_Word_0 : List (Xt × Pt) := [(.ex 0, []), (.rt, [(4, .bool)])]
noncomputable def m_spec_Word_0 : Tup p_spec_Word_0 → Option (Stp (Tup p_spec_Word_0) (SumT (x_spec_Word_0.map (·.2)))) := fun (x : List UInt8 × List (List UInt8) × Int) => bif decide (x.2.2 < (↑(List.length x.2.1) : Int)) then Option.bind (atI x.2.1 x.2.2) fun (x_1 : List UInt8) => Option.bind x.2.1[Int.toNat x.2.2]? fun (v : List UInt8) => bif decide (v = x.1) then some (Stp.out (Sum.inr true)) else some (Stp.nx (x.1, x.2.1, IntKind.wrap .i64 (x.2.2 + (1 : Int)))) else some (Stp.out (Sum.inl ()))
noncomputable def m_spec_Word : Tup p_spec_Word → Option (Tup q_spec_Word) := fun (x : List UInt8 × List UInt8) => Option.bind (m_spec_WordsOf x.1) fun (r : List (List UInt8)) => Option.bind (loopO m_spec_Word_0 (x.2, r, (0 : Int))) fun (y : PUnit ⊕ Bool) => selim (fun (y : PUnit) => some false) (fun (y : Bool) => some y) y
noncomputable def cx_spec_Word : Cx := ⟨tb, lookE [(37, e_spec_WordsOf)], lookS []⟩
theorem ck_spec_Word : CxOK Try.prog (cx_spec_Word) := cx_ok tb_ok (.cons ok_spec_WordsOf Try.call37 .nil)
noncomputable def c_spec_Word_0 : Code := loopAt (Go.Proofs.Try.f17.body.getD .skip) 0
noncomputable def l_spec_Word_0 : LEnt := ⟨p_spec_Word_0, x_spec_Word_0, loopO (m_spec_Word_0)⟩
theorem lo_spec_Word_0 : LOK Try.prog 21 0 false (l_spec_Word_0) c_spec_Word_0 := loop_ok (body := m_spec_Word_0) (L := lookL []) (ck_spec_Word) mixed (ls_ok (l := []) (by kernel_rfl) .nil) (by intro x; kernel_rfl) (fun x y h => loopO_iff.1 h)
noncomputable def e_spec_Word : Ent := ⟨0, p_spec_Word, q_spec_Word, m_spec_Word⟩
theorem ok_spec_Word : FnOK Try.prog 17 e_spec_Word := fn_ok (L := lookL [(0, l_spec_Word_0)]) ck_spec_Word mixed Try.func17 rfl (by kernel_rfl) (by kernel_rfl) (ls_ok (l := [(0, c_spec_Word_0)]) (by kernel_rfl) (.cons rfl (lo_spec_Word_0) .nil)) (by intro x; kernel_rfl)
abbrev p_spec_Attr : Pt := [(0, .el .node), (1, .str)]
abbrev q_spec_Attr : Pt := [(0, .str), (1, .bool)]
abbrev p_spec_Attr_0 : Pt := [(1, .str), (2, .blk .node 41), (6, .int .i64)]
abbrev x_spec_Attr_0 : List (Xt × Pt) := [(.ex 0, []), (.rt, [(4, .str), (5, .bool)])]
noncomputable def m_spec_Attr_0 : Tup p_spec_Attr_0 → Option (Stp (Tup p_spec_Attr_0) (SumT (x_spec_Attr_0.map (·.2)))) := fun (x : List UInt8 × Node × Int) => bif decide (x.2.2 < (↑(List.length (Node.attrs x.2.1)) : Int)) then Option.bind (atI (Node.attrs x.2.1) x.2.2) fun (v : Attr) => bif decide (Attr.key v = x.1) then Option.bind (atI (Node.attrs x.2.1) x.2.2) fun (v : Attr) => some (Stp.out (Sum.inr (Attr.val v, true))) else some (Stp.nx (x.1, { kind := Node.kind x.2.1, tag := Node.tag x.2.1, text := Node.text x.2.1, attrs := Node.attrs x.2.1, size := Node.size x.2.1 }, IntKind.wrap .i64 (x.2.2 + (1 : Int)))) else some (Stp.out (Sum.inl ()))
noncomputable def m_spec_Attr : Tup p_spec_Attr → Option (Tup q_spec_Attr) := fun (x : Node × List UInt8) => Option.bind (loopO m_spec_Attr_0 (x.2, { kind := Node.kind x.1, tag := Node.tag x.1, text := Node.text x.1, attrs := Node.attrs x.1, size := Node.size x.1 }, (0 : Int))) fun (y : PUnit ⊕ List UInt8 × Bool) => selim (fun (y : PUnit) => some ([], false)) (fun (y : List UInt8 × Bool) => some (y.1, y.2)) y
noncomputable def cx_spec_Attr : Cx := ⟨tb, lookE [], lookS []⟩
theorem ck_spec_Attr : CxOK Try.prog (cx_spec_Attr) := cx_ok tb_ok .nil
noncomputable def c_spec_Attr_0 : Code := loopAt (Go.Proofs.Try.f36.body.getD .skip) 0
noncomputable def l_spec_Attr_0 : LEnt := ⟨p_spec_Attr_0, x_spec_Attr_0, loopO (m_spec_Attr_0)⟩
theorem lo_spec_Attr_0 : LOK Try.prog 28 0 false (l_spec_Attr_0) c_spec_Attr_0 := loop_ok (body := m_spec_Attr_0) (L := lookL []) (ck_spec_Attr) mixed (ls_ok (l := []) (by kernel_rfl) .nil) (by intro x; kernel_rfl) (fun x y h => loopO_iff.1 h)
noncomputable def e_spec_Attr : Ent := ⟨0, p_spec_Attr, q_spec_Attr, m_spec_Attr⟩
theorem ok_spec_Attr : FnOK Try.prog 36 e_spec_Attr := fn_ok (L := lookL [(0, l_spec_Attr_0)]) ck_spec_Attr mixed Try.func36 rfl (by kernel_rfl) (by kernel_rfl) (ls_ok (l := [(0, c_spec_Attr_0)]) (by kernel_rfl) (.cons rfl (lo_spec_Attr_0) .nil)) (by intro x; kernel_rfl)
end Go.Proofs.Ytcbmbmfenhoflaa.V
set_option linter.unusedVariables false
set_option linter.unusedSimpArgs false
namespace Go.Proofs.Ytcbmbmfenhoflaa.V
open Go Go.Proofs
end Go.Proofs.Ytcbmbmfenhoflaa.V
set_option linter.unusedVariables false
set_option linter.unusedSimpArgs false
namespace Go.Proofs.Ytcbmbmfenhoflaa.V
open Go
def fits4 (a : Attr) : Bool := decide (a.key.length ≤ 2147483647) && decide (a.val.length ≤ 2147483647)
def fits3 (l : List Attr) : Bool := decide (l.length ≤ 2147483647) && l.all fits4
theorem zz4 (a : Attr) : m_laws_zzFits4 a = some (fits4 a) := by
  simp only [m_laws_zzFits4, cond_dec, fits4]
  split
  · rename_i h; rw [decide_eq_false (by omega)]; rfl
  · rename_i h
    split
    · rename_i h2; rw [decide_eq_false (p := a.val.length ≤ _) (by omega), Bool.and_false]
    · rename_i h2; rw [decide_eq_true (by omega), decide_eq_true (by omega)]; rfl
theorem zz3 (l : List Attr) : m_laws_zzFits3 l = some (fits3 l) := by
  simp only [m_laws_zzFits3, cond_dec, fits3]
  split
  · rw [decide_eq_false (by omega)]; rfl
  · rename_i hl
    have h := loop_all (body := m_laws_zzFits3_0) l fits4 (fun k => (l, (l.length : Int), (k : Int))) (.inl ()) (.inr false) (fun k v hv => by
      have hk := (List.getElem?_eq_some_iff.1 hv).1
      simp only [m_laws_zzFits3_0, cond_dec, atI_nat]
      rw [if_pos (by omega), hv, bind_some, show m_laws_zzFits4 { key := v.key, val := v.val } = some (fits4 v) from zz4 v, bind_some, not_cond, w64 (by omega) (by omega)]
      cases fits4 v <;> rfl) (by
      simp only [m_laws_zzFits3_0, cond_dec]
      rw [if_neg (by omega)]) 0 (Nat.zero_le _)
    rw [show loopO m_laws_zzFits3_0 (l, (l.length : Int), (0 : Int)) = _ from h, bind_some, decide_eq_true (by omega)]
    simp only [List.drop_zero, Bool.true_and]
    cases l.all fits4 <;> rfl
end Go.Proofs.Ytcbmbmfenhoflaa.V
set_option linter.unusedVariables false
set_option linter.unusedSimpArgs false
namespace Go.Proofs.Ytcbmbmfenhoflaa.V
open Go
theorem subL_nat' {α : Type} (l : List α) {lo hi : Nat} (h1 : lo ≤ hi) (h2 : hi ≤ l.length) : subL l (lo : Int) (hi : Int) = some ((l.take hi).drop lo) := by
  unfold subL
  rw [if_pos (by omega)]
  rfl
theorem getb (l : List UInt8) (k : Nat) : (ByteArray.mk l.toArray).get! k = (l[k]?).getD 0 := by
  simp [ByteArray.get!, Array.getD_eq_getD_getElem?, Array.getElem!_eq_getD]
  rfl
theorem dec8_low {l : List UInt8} {i : Nat} {c : UInt8} (h : l[i]? = some c) (hc : c.toNat < 128) : dec8 l i = (c.toNat, 1) := by
  simp only [dec8, Utf8.decode, Nat.add_zero, getb, h, Option.getD_some]
  rw [if_pos hc]
def isSp (c : UInt8) : Bool := decide (c.toNat = 32) || decide (c.toNat = 9) || decide (c.toNat = 10) || decide (c.toNat = 13) || decide (c.toNat = 12)
def pcs : List UInt8 → List (List UInt8)
  | [] => [[]]
  | c :: s => if isSp c then [] :: pcs s else match pcs s with
    | p :: ps => (c :: p) :: ps
    | [] => [[c]]
theorem pcs_cons_ne (c : UInt8) (s : List UInt8) : pcs s ≠ [] := by
  cases s with
  | nil => simp [pcs]
  | cons c s =>
    simp only [pcs]
    split
    · simp
    · split <;> simp
theorem pcs_flat : ∀ {w : List UInt8}, (∀ c ∈ w, isSp c = false) → pcs w = [w]
  | [], _ => rfl
  | c :: w, h => by
    simp only [pcs]
    rw [h c (by simp), pcs_flat (w := w) fun d hd => h d (by simp [hd])]
    simp
theorem pcs_app : ∀ {w r : List UInt8} {c : UInt8}, (∀ c ∈ w, isSp c = false) → isSp c = true → pcs (w ++ c :: r) = w :: pcs r
  | [], r, c, _, hc => by simp [pcs, hc]
  | d :: w, r, c, h, hc => by
    simp only [List.cons_append, pcs]
    rw [h d (by simp), pcs_app (w := w) (fun d hd => h d (by simp [hd])) hc]
    simp
def wordsL (s : List UInt8) : List (List UInt8) := (pcs s).filter fun p => !p.isEmpty
theorem wordsL_flat {w : List UInt8} (h : ∀ c ∈ w, isSp c = false) : wordsL w = if w = [] then [] else [w] := by
  unfold wordsL
  rw [pcs_flat h]
  cases w <;> simp
theorem wordsL_app {w r : List UInt8} {c : UInt8} (h : ∀ c ∈ w, isSp c = false) (hc : isSp c = true) : wordsL (w ++ c :: r) = (if w = [] then [] else [w]) ++ wordsL r := by
  unfold wordsL
  rw [pcs_app h hc]
  cases w <;> simp
theorem mem_wordsL {s w : List UInt8} (hw : w ≠ []) : w ∈ wordsL s ↔ w ∈ pcs s := by
  unfold wordsL
  rw [List.mem_filter]
  cases w with
  | nil => exact absurd rfl hw
  | cons c w => simp
theorem wordsL_len : ∀ (s : List UInt8), (wordsL s).length ≤ s.length
  | s => by
    have key : ∀ s : List UInt8, (pcs s).length ≤ s.length + 1 ∧ ((pcs s).filter fun p => !p.isEmpty).length ≤ s.length ∧ (((pcs s).tail).filter fun p => !p.isEmpty).length + 1 ≤ s.length + 1 := by
      intro s
      induction s with
      | nil => simp [pcs]
      | cons c s ih =>
        obtain ⟨h1, h2, h3⟩ := ih
        simp only [pcs]
        split
        · refine ⟨by simp; omega, by simp; omega, by simp; omega⟩
        · split
          · rename_i p ps hp
            rw [hp] at h1 h2 h3
            simp only [List.tail_cons] at h3
            refine ⟨by simp at h1 ⊢; omega, by simp; omega, by simp; omega⟩
          · rename_i hp; exact absurd hp (pcs_cons_ne c s)
    exact (key s).2.1
theorem space_eq (c : UInt8) : m_spec_space ((c.toNat : Int)) = some (isSp c) := by
  simp only [m_spec_space, cond_dec, isSp]
  by_cases h1 : c.toNat = 32
  · rw [if_pos (by omega)]; simp [h1]
  · rw [if_neg (by omega)]
    by_cases h2 : c.toNat = 9
    · rw [if_pos (by omega)]; simp [h2]
    · rw [if_neg (by omega)]
      by_cases h3 : c.toNat = 10
      · rw [if_pos (by omega)]; simp [h3]
      · rw [if_neg (by omega)]
        by_cases h4 : c.toNat = 13
        · rw [if_pos (by omega)]; simp [h4]
        · rw [if_neg (by omega)]
          have : ((c.toNat : Int) = 12) ↔ c.toNat = 12 := by omega
          simp [h1, h2, h3, h4, this]
theorem words_eq (s : List UInt8) (hs : s.length ≤ 2147483647) : m_spec_WordsOf s = some (wordsL s) := by
  simp only [m_spec_WordsOf]
  have key : ∀ m i fr out, s.length + 1 - i = m → fr ≤ i → i ≤ s.length → (∀ c ∈ (s.take i).drop fr, isSp c = false) → out.length + s.length + 1 - fr ≤ s.length + 1 → loopO m_spec_WordsOf_0 (s, out, (fr : Int), (i : Int)) = some (out ++ wordsL (s.drop fr)) := by
    intro m
    induction m with
    | zero => intro i fr out hm h1 h2; omega
    | succ m ih =>
      intro i fr out hm h1 h2 hw ho
      have hsub : subL s (fr : Int) (i : Int) = some ((s.take i).drop fr) := subL_nat' s h1 h2
      have hwl : ((s.take i).drop fr).length = i - fr := by simp; omega
      have happ : appL out [(s.take i).drop fr] = some (out ++ [(s.take i).drop fr]) := appL_some (by simp; omega)
      have hne : (s.take i).drop fr = [] ↔ ¬ fr < i := by rw [← List.length_eq_zero_iff, hwl]; omega
      by_cases hi : i < s.length
      · obtain ⟨c, hc⟩ := get_lt hi
        have hsplit : s.drop fr = (s.take i).drop fr ++ c :: s.drop (i + 1) := by
          have e1 : s = s.take i ++ s.drop i := (List.take_append_drop i s).symm
          have e2 : s.drop i = c :: s.drop (i + 1) := by
            obtain ⟨a1, a2⟩ := List.getElem?_eq_some_iff.1 hc
            rw [← a2]; exact List.drop_eq_getElem_cons a1
          have e3 : s.drop fr = (s.take i).drop fr ++ s.drop i := by
            conv => lhs; rw [e1]
            rw [List.drop_append_of_le_length (by simp; omega)]
          rw [e3, e2]
        cases hsp : isSp c with
        | false =>
          have step : m_spec_WordsOf_0 (s, out, (fr : Int), (i : Int)) = some (.nx (s, out, (fr : Int), ((i + 1 : Nat) : Int))) := by
            simp only [m_spec_WordsOf_0, cond_dec, atI_nat]
            rw [if_pos (by omega), if_pos (by omega), hc, bind_some, space_eq, bind_some, hsp, w64 (by omega) (by omega)]
            rfl
          rw [loopO_nx step]
          refine ih (i + 1) fr out (by omega) (by omega) (by omega) (fun d hd => ?_) ho
          rw [List.take_add_one, hc, List.drop_append_of_le_length (by simp; omega)] at hd
          simp at hd
          rcases hd with hd | rfl
          · exact hw d hd
          · exact hsp
        | true =>
          by_cases hf : fr < i
          · have step : m_spec_WordsOf_0 (s, out, (fr : Int), (i : Int)) = some (.nx (s, out ++ [(s.take i).drop fr], ((i + 1 : Nat) : Int), ((i + 1 : Nat) : Int))) := by
              simp only [m_spec_WordsOf_0, cond_dec, atI_nat]
              rw [if_pos (by omega), if_pos (by omega), hc, bind_some, space_eq, bind_some, hsp]
              simp only [Bool.not_true, cond_false]
              rw [if_pos (by omega), hsub, bind_some, happ, bind_some, w64 (by omega) (by omega)]
              rfl
            rw [loopO_nx step, ih (i + 1) (i + 1) _ (by omega) (by omega) (by omega) (by simp) (by simp; omega), hsplit, wordsL_app hw hsp, if_neg (fun e => (hne.1 e) hf)]
            simp
          · have step : m_spec_WordsOf_0 (s, out, (fr : Int), (i : Int)) = some (.nx (s, out, ((i + 1 : Nat) : Int), ((i + 1 : Nat) : Int))) := by
              simp only [m_spec_WordsOf_0, cond_dec, atI_nat]
              rw [if_pos (by omega), if_pos (by omega), hc, bind_some, space_eq, bind_some, hsp]
              simp only [Bool.not_true, cond_false]
              rw [if_neg (by omega), w64 (by omega) (by omega)]
              rfl
            rw [loopO_nx step, ih (i + 1) (i + 1) _ (by omega) (by omega) (by omega) (by simp) (by omega), hsplit, wordsL_app hw hsp, if_pos (hne.2 hf)]
            simp
      · obtain rfl : i = s.length := by omega
        rw [List.take_length] at hw hsub happ hne
        have out1 : ∀ o : List (List UInt8), m_spec_WordsOf_0 (s, o, ((s.length + 1 : Nat) : Int), ((s.length + 1 : Nat) : Int)) = some (.out o) := fun o => by
          simp only [m_spec_WordsOf_0, cond_dec]
          rw [if_neg (by omega)]
        by_cases hf : fr < s.length
        · have step : m_spec_WordsOf_0 (s, out, (fr : Int), (s.length : Int)) = some (.nx (s, out ++ [s.drop fr], ((s.length + 1 : Nat) : Int), ((s.length + 1 : Nat) : Int))) := by
            simp only [m_spec_WordsOf_0, cond_dec, atI_nat]
            rw [if_pos (by omega), if_neg (by omega), if_pos (by omega), hsub, bind_some, happ, bind_some, w64 (by omega) (by omega)]
            rfl
          rw [loopO_nx step, loopO_out (out1 _), wordsL_flat hw, if_neg (fun e => (hne.1 e) hf)]
        · have step : m_spec_WordsOf_0 (s, out, (fr : Int), (s.length : Int)) = some (.nx (s, out, ((s.length + 1 : Nat) : Int), ((s.length + 1 : Nat) : Int))) := by
            simp only [m_spec_WordsOf_0, cond_dec, atI_nat]
            rw [if_pos (by omega), if_neg (by omega), if_neg (by omega), w64 (by omega) (by omega)]
            rfl
          rw [loopO_nx step, loopO_out (out1 _), wordsL_flat hw, if_pos (hne.2 hf), List.append_nil]
  rw [show loopO m_spec_WordsOf_0 (s, [], (0 : Int), (0 : Int)) = _ from key (s.length + 1) 0 0 [] (by omega) (by omega) (by omega) (by simp) (by simp)]
  simp
theorem word_eq (s w : List UInt8) (hs : s.length ≤ 2147483647) (hw : w ≠ []) : m_spec_Word (s, w) = some (decide (w ∈ pcs s)) := by
  simp only [m_spec_Word]
  rw [words_eq s hs, bind_some]
  have hl := wordsL_len s
  have h := loop_all (body := m_spec_Word_0) (wordsL s) (fun p => !decide (p = w)) (fun k => (w, wordsL s, (k : Int))) (.inl ()) (.inr true) (fun k v hv => by
    have hk := (List.getElem?_eq_some_iff.1 hv).1
    simp only [m_spec_Word_0, cond_dec, atI_nat, Int.toNat_natCast]
    rw [if_pos (by omega), hv]
    simp only [bind_some]
    by_cases e : v = w
    · rw [if_pos e]; simp [e]
    · rw [if_neg e, w64 (by omega) (by omega)]; simp [e]) (by
    simp only [m_spec_Word_0, cond_dec]
    rw [if_neg (by omega)]) 0 (Nat.zero_le _)
  rw [show loopO m_spec_Word_0 (w, wordsL s, (0 : Int)) = _ from h, bind_some, List.drop_zero]
  by_cases hm : w ∈ pcs s
  · rw [if_neg, decide_eq_true hm]
    · rfl
    · rw [List.all_eq_true]
      intro hh
      have := hh w ((mem_wordsL hw).2 hm)
      simp at this
  · rw [if_pos, decide_eq_false hm]
    · rfl
    · rw [List.all_eq_true]
      intro p hp
      have : p ≠ w := fun e => hm ((mem_wordsL hw).1 (e ▸ hp))
      simp [this]
end Go.Proofs.Ytcbmbmfenhoflaa.V
set_option linter.unusedVariables false
set_option linter.unusedSimpArgs false
namespace Go.Proofs.Ytcbmbmfenhoflaa.V
open Go
theorem wordsL_cat : ∀ {a r : List UInt8} {x : UInt8}, isSp x = true → wordsL (a ++ x :: r) = wordsL a ++ wordsL r := by
  intro a
  induction hn : a.length using Nat.strongRecOn generalizing a with
  | _ n ih =>
    intro r x hx
    by_cases h : ∃ c ∈ a, isSp c = true
    ·
      obtain ⟨w, c, b, rfl, hw, hc⟩ : ∃ w c b, a = w ++ c :: b ∧ (∀ d ∈ w, isSp d = false) ∧ isSp c = true := by
        clear ih hn
        induction a with
        | nil => obtain ⟨c, hc, _⟩ := h; cases hc
        | cons d a ih =>
          by_cases hd : isSp d = true
          · exact ⟨[], d, a, rfl, by simp, hd⟩
          · obtain ⟨c, hc, h2⟩ := h
            rcases List.mem_cons.1 hc with rfl | hc
            · exact absurd h2 hd
            · obtain ⟨w, c', b, rfl, h3, h4⟩ := ih ⟨c, hc, h2⟩
              refine ⟨d :: w, c', b, rfl, fun e he => ?_, h4⟩
              rcases List.mem_cons.1 he with rfl | he
              · simpa using hd
              · exact h3 e he
      rw [List.append_assoc, List.cons_append, wordsL_app hw hc, wordsL_app hw hc, ih b.length (by rw [← hn]; simp; omega) rfl hx, List.append_assoc]
    · have hw : ∀ c ∈ a, isSp c = false := fun c hc => by
        cases hb : isSp c with
        | false => rfl
        | true => exact absurd ⟨c, hc, hb⟩ h
      rw [wordsL_app hw hx, wordsL_flat hw]
theorem wordsL_nil : wordsL [] = [] := by simp [wordsL, pcs]
theorem wordsL_one {c : List UInt8} (h0 : c ≠ []) (h : ∀ x ∈ c, isSp x = false) : wordsL c = [c] := by
  rw [wordsL_flat h, if_neg h0]
theorem wordsL_front {r : List UInt8} {x : UInt8} (hx : isSp x = true) : wordsL (x :: r) = wordsL r := by
  have := wordsL_cat (a := []) (r := r) hx
  rwa [wordsL_nil] at this
theorem wordsL_back {a : List UInt8} {x : UInt8} (hx : isSp x = true) : wordsL (a ++ [x]) = wordsL a := by
  rw [wordsL_cat hx, wordsL_nil, List.append_nil]
theorem wordsL_spF : ∀ {a r : List UInt8}, (∀ x ∈ a, isSp x = true) → wordsL (a ++ r) = wordsL r
  | [], _, _ => rfl
  | x :: a, r, h => by rw [List.cons_append, wordsL_front (h x (by simp)), wordsL_spF fun y hy => h y (by simp [hy])]
theorem wordsL_spB {a : List UInt8} : ∀ {b : List UInt8}, (∀ x ∈ b, isSp x = true) → wordsL (a ++ b) = wordsL a
  | [], _ => by rw [List.append_nil]
  | x :: b, h => by rw [wordsL_cat (h x (by simp))]; rw [show wordsL b = [] by have := wordsL_spF (a := b) (r := []) fun y hy => h y (by simp [hy]); rwa [List.append_nil, wordsL_nil] at this, List.append_nil]
theorem wordsL_at : ∀ {s w : List UInt8}, w ∈ wordsL s → w ≠ [] ∧ (∀ c ∈ w, isSp c = false) ∧ ∃ a b, s = a ++ w ++ b ∧ (a = [] ∨ ∃ a' x, a = a' ++ [x] ∧ isSp x = true) ∧ (b = [] ∨ ∃ x b', b = x :: b' ∧ isSp x = true) := by
  intro s
  induction hn : s.length using Nat.strongRecOn generalizing s with
  | _ n ih =>
    intro w hw
    by_cases h : ∃ c ∈ s, isSp c = true
    · obtain ⟨v, c, b, rfl, hv, hc⟩ : ∃ w c b, s = w ++ c :: b ∧ (∀ d ∈ w, isSp d = false) ∧ isSp c = true := by
        clear ih hn hw
        induction s with
        | nil => obtain ⟨c, hc, _⟩ := h; cases hc
        | cons d a ih =>
          by_cases hd : isSp d = true
          · exact ⟨[], d, a, rfl, by simp, hd⟩
          · obtain ⟨c, hc, h2⟩ := h
            rcases List.mem_cons.1 hc with rfl | hc
            · exact absurd h2 hd
            · obtain ⟨w, c', b, rfl, h3, h4⟩ := ih ⟨c, hc, h2⟩
              refine ⟨d :: w, c', b, rfl, fun e he => ?_, h4⟩
              rcases List.mem_cons.1 he with rfl | he
              · simpa using hd
              · exact h3 e he
      rw [wordsL_app hv hc, List.mem_append] at hw
      rcases hw with hw | hw
      · by_cases hv0 : v = []
        · rw [if_pos hv0] at hw; cases hw
        · rw [if_neg hv0] at hw
          obtain rfl : w = v := by simpa using hw
          exact ⟨hv0, hv, [], c :: b, by simp, .inl rfl, .inr ⟨c, b, rfl, hc⟩⟩
      · obtain ⟨h1, h2, a, b', rfl, h3, h4⟩ := ih b.length (by rw [← hn]; simp; omega) rfl hw
        refine ⟨h1, h2, v ++ c :: a, b', by simp, .inr ?_, h4⟩
        rcases h3 with rfl | ⟨a', x, rfl, hx⟩
        · exact ⟨v, c, rfl, hc⟩
        · exact ⟨v ++ c :: a', x, by simp, hx⟩
    · have hv : ∀ c ∈ s, isSp c = false := fun c hc => by
        cases hb : isSp c with
        | false => rfl
        | true => exact absurd ⟨c, hc, hb⟩ h
      rw [wordsL_flat hv] at hw
      by_cases h0 : s = []
      · rw [if_pos h0] at hw; cases hw
      · rw [if_neg h0] at hw
        obtain rfl : w = s := by simpa using hw
        exact ⟨h0, hv, [], [], by simp, .inl rfl, .inl rfl⟩
theorem wordsL_mid {a w b : List UInt8} {x y : UInt8} (hx : isSp x = true) (hy : isSp y = true) (h0 : w ≠ []) (h : ∀ c ∈ w, isSp c = false) : wordsL (a ++ x :: (w ++ y :: b)) = wordsL a ++ w :: wordsL b := by
  rw [wordsL_cat hx, wordsL_cat hy, wordsL_one h0 h]
  rfl
def Inf (s m : List UInt8) : Prop := ∃ a b, s = a ++ m ++ b
def Blk32 (s : List UInt8) : Prop := ∀ c ∈ s, isSp c = true → c = 32
theorem sp32 : isSp 32 = true := by decide
theorem inf_word {s c : List UInt8} (h0 : c ≠ []) (hc : ∀ x ∈ c, isSp x = false) (hs : Blk32 s) (h1 : ∃ r, s = 32 :: r) (h2 : ∃ r, s = r ++ [32]) : Inf s (32 :: (c ++ [32])) ↔ c ∈ wordsL s := by
  constructor
  · rintro ⟨a, b, rfl⟩
    have : a ++ 32 :: (c ++ [32]) ++ b = a ++ 32 :: (c ++ 32 :: b) := by simp
    rw [this, wordsL_mid sp32 sp32 h0 hc]
    simp
  · intro h
    obtain ⟨_, _, a, b, rfl, h3, h4⟩ := wordsL_at h
    have ha : ∃ a', a = a' ++ [32] := by
      rcases h3 with rfl | ⟨a', x, rfl, hx⟩
      · obtain ⟨r, hr⟩ := h1
        cases c with
        | nil => exact absurd rfl h0
        | cons d c =>
          simp at hr
          have := hc d (by simp)
          rw [hr.1, sp32] at this
          cases this
      · exact ⟨a', by rw [hs x (by simp) hx]⟩
    have hb : ∃ b', b = 32 :: b' := by
      rcases h4 with rfl | ⟨x, b', rfl, hx⟩
      · obtain ⟨r, hr⟩ := h2
        rw [List.append_nil] at hr
        have h5 : (a ++ c).getLast? = some 32 := by rw [hr]; simp
        have h6 : c.getLast? = some 32 := by
          cases hcl : c.getLast? with
          | none => exact absurd (List.getLast?_eq_none_iff.1 hcl) h0
          | some z =>
            rw [List.getLast?_append, hcl] at h5
            simpa using h5
        have := hc 32 (List.mem_of_getLast? h6)
        rw [sp32] at this
        cases this
      · exact ⟨b', by rw [hs x (by simp) hx]⟩
    obtain ⟨a', rfl⟩ := ha
    obtain ⟨b', rfl⟩ := hb
    exact ⟨a', b', by simp⟩
end Go.Proofs.Ytcbmbmfenhoflaa.V
set_option linter.unusedVariables false
set_option linter.unusedSimpArgs false
namespace Go.Proofs.Ytcbmbmfenhoflaa.V
open Go Go.Proofs
abbrev p_spec_isWord : Pt := [(0, .lst .str), (1, .str)]
abbrev q_spec_isWord : Pt := [(0, .bool)]
abbrev p_spec_isWord_0 : Pt := [(0, .lst .str), (1, .str), (5, .int .i64)]
abbrev x_spec_isWord_0 : List (Xt × Pt) := [(.ex 0, []), (.rt, [(4, .bool)])]
noncomputable def m_spec_isWord_0 : Tup p_spec_isWord_0 → Option (Stp (Tup p_spec_isWord_0) (SumT (x_spec_isWord_0.map (·.2)))) := fun (x : List (List UInt8) × List UInt8 × Int) => bif decide (x.2.2 < (↑(List.length x.1) : Int)) then Option.bind (atI x.1 x.2.2) fun (v : List UInt8) => bif decide (v = x.2.1) then some (Stp.out (Sum.inr true)) else some (Stp.nx (x.1, x.2.1, IntKind.wrap .i64 (x.2.2 + (1 : Int)))) else some (Stp.out (Sum.inl ()))
noncomputable def m_spec_isWord : Tup p_spec_isWord → Option (Tup q_spec_isWord) := fun (x : List (List UInt8) × List UInt8) => Option.bind (loopO m_spec_isWord_0 (x.1, x.2, (0 : Int))) fun (y : PUnit ⊕ Bool) => selim (fun (y : PUnit) => some false) (fun (y : Bool) => some y) y
noncomputable def cx_spec_isWord : Cx := ⟨tb, lookE [], lookS []⟩
theorem ck_spec_isWord : CxOK Try.prog (cx_spec_isWord) := cx_ok tb_ok .nil
noncomputable def c_spec_isWord_0 : Code := loopAt (Go.Proofs.Try.f53.body.getD .skip) 0
noncomputable def l_spec_isWord_0 : LEnt := ⟨p_spec_isWord_0, x_spec_isWord_0, loopO (m_spec_isWord_0)⟩
theorem lo_spec_isWord_0 : LOK Try.prog 18 0 false (l_spec_isWord_0) c_spec_isWord_0 := loop_ok (body := m_spec_isWord_0) (L := lookL []) (ck_spec_isWord) mixed (ls_ok (l := []) (by kernel_rfl) .nil) (by intro x; kernel_rfl) (fun x y h => loopO_iff.1 h)
noncomputable def e_spec_isWord : Ent := ⟨0, p_spec_isWord, q_spec_isWord, m_spec_isWord⟩
theorem ok_spec_isWord : FnOK Try.prog 53 e_spec_isWord := fn_ok (L := lookL [(0, l_spec_isWord_0)]) ck_spec_isWord mixed Try.func53 rfl (by kernel_rfl) (by kernel_rfl) (ls_ok (l := [(0, c_spec_isWord_0)]) (by kernel_rfl) (.cons rfl (lo_spec_isWord_0) .nil)) (by intro x; kernel_rfl)
abbrev p_spec_Words : Pt := [(0, .str)]
abbrev q_spec_Words : Pt := [(0, .own .str 9)]
abbrev p_spec_Words_0 : Pt := [(0, .str), (3, .own .str 9), (4, .int .i64), (5, .int .i64)]
abbrev x_spec_Words_0 : List (Xt × Pt) := [(.ex 0, [(3, .own .str 9)])]
noncomputable def m_spec_Words_0 : Tup p_spec_Words_0 → Option (Stp (Tup p_spec_Words_0) (SumT (x_spec_Words_0.map (·.2)))) := fun (x : List UInt8 × List (List UInt8) × Int × Int) => bif decide (x.2.2.2 ≤ (↑(List.length x.1) : Int)) then bif decide (x.2.2.2 < (↑(List.length x.1) : Int)) then Option.bind (atI x.1 x.2.2.2) fun (c : UInt8) => bif decide ((↑(UInt8.toNat c) : Int) ≠ (32 : Int)) then Option.bind (atI x.1 x.2.2.2) fun (c : UInt8) => bif decide ((↑(UInt8.toNat c) : Int) ≠ (9 : Int)) then Option.bind (atI x.1 x.2.2.2) fun (c : UInt8) => bif decide ((↑(UInt8.toNat c) : Int) ≠ (10 : Int)) then Option.bind (atI x.1 x.2.2.2) fun (c : UInt8) => bif decide ((↑(UInt8.toNat c) : Int) ≠ (12 : Int)) then Option.bind (atI x.1 x.2.2.2) fun (c : UInt8) => bif decide ((↑(UInt8.toNat c) : Int) ≠ (13 : Int)) then some (Stp.nx (x.1, x.2.1, x.2.2.1, IntKind.wrap .i64 (x.2.2.2 + (1 : Int)))) else bif decide (x.2.2.1 < x.2.2.2) then Option.bind (subL x.1 x.2.2.1 x.2.2.2) fun (m : List UInt8) => Option.bind (appL x.2.1 [m]) fun (r : List (List UInt8)) => some (Stp.nx (x.1, r, IntKind.wrap .i64 (x.2.2.2 + (1 : Int)), IntKind.wrap .i64 (x.2.2.2 + (1 : Int)))) else some (Stp.nx (x.1, x.2.1, IntKind.wrap .i64 (x.2.2.2 + (1 : Int)), IntKind.wrap .i64 (x.2.2.2 + (1 : Int)))) else bif decide (x.2.2.1 < x.2.2.2) then Option.bind (subL x.1 x.2.2.1 x.2.2.2) fun (m : List UInt8) => Option.bind (appL x.2.1 [m]) fun (r : List (List UInt8)) => some (Stp.nx (x.1, r, IntKind.wrap .i64 (x.2.2.2 + (1 : Int)), IntKind.wrap .i64 (x.2.2.2 + (1 : Int)))) else some (Stp.nx (x.1, x.2.1, IntKind.wrap .i64 (x.2.2.2 + (1 : Int)), IntKind.wrap .i64 (x.2.2.2 + (1 : Int)))) else bif decide (x.2.2.1 < x.2.2.2) then Option.bind (subL x.1 x.2.2.1 x.2.2.2) fun (m : List UInt8) => Option.bind (appL x.2.1 [m]) fun (r : List (List UInt8)) => some (Stp.nx (x.1, r, IntKind.wrap .i64 (x.2.2.2 + (1 : Int)), IntKind.wrap .i64 (x.2.2.2 + (1 : Int)))) else some (Stp.nx (x.1, x.2.1, IntKind.wrap .i64 (x.2.2.2 + (1 : Int)), IntKind.wrap .i64 (x.2.2.2 + (1 : Int)))) else bif decide (x.2.2.1 < x.2.2.2) then Option.bind (subL x.1 x.2.2.1 x.2.2.2) fun (m : List UInt8) => Option.bind (appL x.2.1 [m]) fun (r : List (List UInt8)) => some (Stp.nx (x.1, r, IntKind.wrap .i64 (x.2.2.2 + (1 : Int)), IntKind.wrap .i64 (x.2.2.2 + (1 : Int)))) else some (Stp.nx (x.1, x.2.1, IntKind.wrap .i64 (x.2.2.2 + (1 : Int)), IntKind.wrap .i64 (x.2.2.2 + (1 : Int)))) else bif decide (x.2.2.1 < x.2.2.2) then Option.bind (subL x.1 x.2.2.1 x.2.2.2) fun (m : List UInt8) => Option.bind (appL x.2.1 [m]) fun (r : List (List UInt8)) => some (Stp.nx (x.1, r, IntKind.wrap .i64 (x.2.2.2 + (1 : Int)), IntKind.wrap .i64 (x.2.2.2 + (1 : Int)))) else some (Stp.nx (x.1, x.2.1, IntKind.wrap .i64 (x.2.2.2 + (1 : Int)), IntKind.wrap .i64 (x.2.2.2 + (1 : Int)))) else bif decide (x.2.2.1 < x.2.2.2) then Option.bind (subL x.1 x.2.2.1 x.2.2.2) fun (m : List UInt8) => Option.bind (appL x.2.1 [m]) fun (r : List (List UInt8)) => some (Stp.nx (x.1, r, IntKind.wrap .i64 (x.2.2.2 + (1 : Int)), IntKind.wrap .i64 (x.2.2.2 + (1 : Int)))) else some (Stp.nx (x.1, x.2.1, IntKind.wrap .i64 (x.2.2.2 + (1 : Int)), IntKind.wrap .i64 (x.2.2.2 + (1 : Int)))) else some (Stp.out x.2.1)
noncomputable def m_spec_Words : Tup p_spec_Words → Option (Tup q_spec_Words) := fun (x : List UInt8) => Option.bind (loopO m_spec_Words_0 (x, [], (0 : Int), (0 : Int))) fun (y : List (List UInt8)) => some y
abbrev p_spec_Words_l : Pt := [(0, .str)]
abbrev q_spec_Words_l : Pt := [(0, .lst .str)]
abbrev p_spec_Words_l_0 : Pt := [(0, .str), (3, .own .str 9), (4, .int .i64), (5, .int .i64)]
abbrev x_spec_Words_l_0 : List (Xt × Pt) := [(.ex 0, [(3, .own .str 9)])]
noncomputable def m_spec_Words_l_0 : Tup p_spec_Words_l_0 → Option (Stp (Tup p_spec_Words_l_0) (SumT (x_spec_Words_l_0.map (·.2)))) := fun (x : List UInt8 × List (List UInt8) × Int × Int) => bif decide (x.2.2.2 ≤ (↑(List.length x.1) : Int)) then bif decide (x.2.2.2 < (↑(List.length x.1) : Int)) then Option.bind (atI x.1 x.2.2.2) fun (c : UInt8) => bif decide ((↑(UInt8.toNat c) : Int) ≠ (32 : Int)) then Option.bind (atI x.1 x.2.2.2) fun (c : UInt8) => bif decide ((↑(UInt8.toNat c) : Int) ≠ (9 : Int)) then Option.bind (atI x.1 x.2.2.2) fun (c : UInt8) => bif decide ((↑(UInt8.toNat c) : Int) ≠ (10 : Int)) then Option.bind (atI x.1 x.2.2.2) fun (c : UInt8) => bif decide ((↑(UInt8.toNat c) : Int) ≠ (12 : Int)) then Option.bind (atI x.1 x.2.2.2) fun (c : UInt8) => bif decide ((↑(UInt8.toNat c) : Int) ≠ (13 : Int)) then some (Stp.nx (x.1, x.2.1, x.2.2.1, IntKind.wrap .i64 (x.2.2.2 + (1 : Int)))) else bif decide (x.2.2.1 < x.2.2.2) then Option.bind (subL x.1 x.2.2.1 x.2.2.2) fun (m : List UInt8) => Option.bind (appL x.2.1 [m]) fun (r : List (List UInt8)) => some (Stp.nx (x.1, r, IntKind.wrap .i64 (x.2.2.2 + (1 : Int)), IntKind.wrap .i64 (x.2.2.2 + (1 : Int)))) else some (Stp.nx (x.1, x.2.1, IntKind.wrap .i64 (x.2.2.2 + (1 : Int)), IntKind.wrap .i64 (x.2.2.2 + (1 : Int)))) else bif decide (x.2.2.1 < x.2.2.2) then Option.bind (subL x.1 x.2.2.1 x.2.2.2) fun (m : List UInt8) => Option.bind (appL x.2.1 [m]) fun (r : List (List UInt8)) => some (Stp.nx (x.1, r, IntKind.wrap .i64 (x.2.2.2 + (1 : Int)), IntKind.wrap .i64 (x.2.2.2 + (1 : Int)))) else some (Stp.nx (x.1, x.2.1, IntKind.wrap .i64 (x.2.2.2 + (1 : Int)), IntKind.wrap .i64 (x.2.2.2 + (1 : Int)))) else bif decide (x.2.2.1 < x.2.2.2) then Option.bind (subL x.1 x.2.2.1 x.2.2.2) fun (m : List UInt8) => Option.bind (appL x.2.1 [m]) fun (r : List (List UInt8)) => some (Stp.nx (x.1, r, IntKind.wrap .i64 (x.2.2.2 + (1 : Int)), IntKind.wrap .i64 (x.2.2.2 + (1 : Int)))) else some (Stp.nx (x.1, x.2.1, IntKind.wrap .i64 (x.2.2.2 + (1 : Int)), IntKind.wrap .i64 (x.2.2.2 + (1 : Int)))) else bif decide (x.2.2.1 < x.2.2.2) then Option.bind (subL x.1 x.2.2.1 x.2.2.2) fun (m : List UInt8) => Option.bind (appL x.2.1 [m]) fun (r : List (List UInt8)) => some (Stp.nx (x.1, r, IntKind.wrap .i64 (x.2.2.2 + (1 : Int)), IntKind.wrap .i64 (x.2.2.2 + (1 : Int)))) else some (Stp.nx (x.1, x.2.1, IntKind.wrap .i64 (x.2.2.2 + (1 : Int)), IntKind.wrap .i64 (x.2.2.2 + (1 : Int)))) else bif decide (x.2.2.1 < x.2.2.2) then Option.bind (subL x.1 x.2.2.1 x.2.2.2) fun (m : List UInt8) => Option.bind (appL x.2.1 [m]) fun (r : List (List UInt8)) => some (Stp.nx (x.1, r, IntKind.wrap .i64 (x.2.2.2 + (1 : Int)), IntKind.wrap .i64 (x.2.2.2 + (1 : Int)))) else some (Stp.nx (x.1, x.2.1, IntKind.wrap .i64 (x.2.2.2 + (1 : Int)), IntKind.wrap .i64 (x.2.2.2 + (1 : Int)))) else bif decide (x.2.2.1 < x.2.2.2) then Option.bind (subL x.1 x.2.2.1 x.2.2.2) fun (m : List UInt8) => Option.bind (appL x.2.1 [m]) fun (r : List (List UInt8)) => some (Stp.nx (x.1, r, IntKind.wrap .i64 (x.2.2.2 + (1 : Int)), IntKind.wrap .i64 (x.2.2.2 + (1 : Int)))) else some (Stp.nx (x.1, x.2.1, IntKind.wrap .i64 (x.2.2.2 + (1 : Int)), IntKind.wrap .i64 (x.2.2.2 + (1 : Int)))) else some (Stp.out x.2.1)
noncomputable def m_spec_Words_l : Tup p_spec_Words_l → Option (Tup q_spec_Words_l) := fun (x : List UInt8) => Option.bind (loopO m_spec_Words_l_0 (x, [], (0 : Int), (0 : Int))) fun (y : List (List UInt8)) => some y
noncomputable def cx_spec_Words_l : Cx := ⟨tb, lookE [], lookS []⟩
theorem ck_spec_Words_l : CxOK Try.prog (cx_spec_Words_l) := cx_ok tb_ok .nil
noncomputable def c_spec_Words_l_0 : Code := loopAt (Go.Proofs.Try.f16.body.getD .skip) 0
noncomputable def l_spec_Words_l_0 : LEnt := ⟨p_spec_Words_l_0, x_spec_Words_l_0, loopO (m_spec_Words_l_0)⟩
theorem lo_spec_Words_l_0 : LOK Try.prog 59 0 false (l_spec_Words_l_0) c_spec_Words_l_0 := loop_ok (body := m_spec_Words_l_0) (L := lookL []) (ck_spec_Words_l) mixed (ls_ok (l := []) (by kernel_rfl) .nil) (by intro x; kernel_rfl) (fun x y h => loopO_iff.1 h)
noncomputable def e_spec_Words_l : Ent := ⟨0, p_spec_Words_l, q_spec_Words_l, m_spec_Words_l⟩
theorem ok_spec_Words_l : FnOK Try.prog 16 e_spec_Words_l := fn_ok (L := lookL [(0, l_spec_Words_l_0)]) ck_spec_Words_l mixed Try.func16 rfl (by kernel_rfl) (by kernel_rfl) (ls_ok (l := [(0, c_spec_Words_l_0)]) (by kernel_rfl) (.cons rfl (lo_spec_Words_l_0) .nil)) (by intro x; kernel_rfl)
abbrev p_spec_SimpleClass : Pt := [(0, .str)]
abbrev q_spec_SimpleClass : Pt := [(0, .bool)]
abbrev p_spec_SimpleClass_0 : Pt := [(0, .str), (3, .int .i64)]
abbrev x_spec_SimpleClass_0 : List (Xt × Pt) := [(.ex 0, [(0, .str)]), (.rt, [(2, .bool)])]
noncomputable def m_spec_SimpleClass_0 : Tup p_spec_SimpleClass_0 → Option (Stp (Tup p_spec_SimpleClass_0) (SumT (x_spec_SimpleClass_0.map (·.2)))) := fun (x : List UInt8 × Int) => bif decide (x.2 < (↑(List.length x.1) : Int)) then Option.bind (atI x.1 x.2) fun (c : UInt8) => bif decide ((↑(UInt8.toNat c) : Int) = (12 : Int)) then some (Stp.out (Sum.inr false)) else Option.bind (atI x.1 x.2) fun (c : UInt8) => bif decide ((↑(UInt8.toNat c) : Int) = (11 : Int)) then some (Stp.out (Sum.inr false)) else Option.bind (atI x.1 x.2) fun (c : UInt8) => bif decide ((128 : Int) ≤ (↑(UInt8.toNat c) : Int)) then some (Stp.out (Sum.inr false)) else some (Stp.nx (x.1, IntKind.wrap .i64 (x.2 + (1 : Int)))) else some (Stp.out (Sum.inl x.1))
abbrev p_spec_SimpleClass_1 : Pt := [(4, .lst .str), (5, .int .i64)]
abbrev x_spec_SimpleClass_1 : List (Xt × Pt) := [(.ex 2, []), (.rt, [(2, .bool)])]
noncomputable def m_spec_SimpleClass_1 : Tup p_spec_SimpleClass_1 → Option (Stp (Tup p_spec_SimpleClass_1) (SumT (x_spec_SimpleClass_1.map (·.2)))) := fun (x : List (List UInt8) × Int) => bif decide (x.2 < (↑(List.length x.1) : Int)) then Option.bind (subL x.1 (0 : Int) x.2) fun (m : List (List UInt8)) => Option.bind (atI x.1 x.2) fun (v : List UInt8) => Option.bind (m_spec_isWord (m, v)) fun (r : Bool) => bif r then some (Stp.out (Sum.inr false)) else some (Stp.nx (x.1, IntKind.wrap .i64 (x.2 + (1 : Int)))) else some (Stp.out (Sum.inl ()))
noncomputable def m_spec_SimpleClass : Tup p_spec_SimpleClass → Option (Tup q_spec_SimpleClass) := fun (x : List UInt8) => Option.bind (loopO m_spec_SimpleClass_0 (x, (0 : Int))) fun (y : List UInt8 ⊕ Bool) => selim (fun (y : List UInt8) => Option.bind (m_spec_Words_l y) fun (r : List (List UInt8)) => Option.bind (loopO m_spec_SimpleClass_1 (r, (0 : Int))) fun (y : PUnit ⊕ Bool) => selim (fun (y : PUnit) => some true) (fun (y : Bool) => some y) y) (fun (y : Bool) => some y) y
noncomputable def cx_spec_SimpleClass : Cx := ⟨tb, lookE [(16, e_spec_Words_l), (53, e_spec_isWord)], lookS [(10, [(true, 0), (true, 1), (true, 2), (true, 3), (true, 4), (true, 5), (true, 6), (false, 7)])]⟩
theorem ck_spec_SimpleClass : CxOK Try.prog (cx_spec_SimpleClass) := cx_ok tb_ok (.cons ok_spec_Words_l Try.call16 (.cons ok_spec_isWord Try.call53 .nil))
noncomputable def c_spec_SimpleClass_0 : Code := loopAt (Go.Proofs.Try.f33.body.getD .skip) 0
noncomputable def l_spec_SimpleClass_0 : LEnt := ⟨p_spec_SimpleClass_0, x_spec_SimpleClass_0, loopO (m_spec_SimpleClass_0)⟩
theorem lo_spec_SimpleClass_0 : LOK Try.prog 44 0 false (l_spec_SimpleClass_0) c_spec_SimpleClass_0 := loop_ok (body := m_spec_SimpleClass_0) (L := lookL []) (ck_spec_SimpleClass) mixed (ls_ok (l := []) (by kernel_rfl) .nil) (by intro x; kernel_rfl) (fun x y h => loopO_iff.1 h)
noncomputable def c_spec_SimpleClass_1 : Code := loopAt (Go.Proofs.Try.f33.body.getD .skip) 1
noncomputable def l_spec_SimpleClass_1 : LEnt := ⟨p_spec_SimpleClass_1, x_spec_SimpleClass_1, loopO (m_spec_SimpleClass_1)⟩
theorem lo_spec_SimpleClass_1 : LOK Try.prog 44 0 false (l_spec_SimpleClass_1) c_spec_SimpleClass_1 := loop_ok (body := m_spec_SimpleClass_1) (L := lookL []) (ck_spec_SimpleClass) mixed (ls_ok (l := []) (by kernel_rfl) .nil) (by intro x; kernel_rfl) (fun x y h => loopO_iff.1 h)
noncomputable def e_spec_SimpleClass : Ent := ⟨0, p_spec_SimpleClass, q_spec_SimpleClass, m_spec_SimpleClass⟩
theorem ok_spec_SimpleClass : FnOK Try.prog 33 e_spec_SimpleClass := fn_ok (L := lookL [(0, l_spec_SimpleClass_0), (2, l_spec_SimpleClass_1)]) ck_spec_SimpleClass mixed Try.func33 rfl (by kernel_rfl) (by kernel_rfl) (ls_ok (l := [(0, c_spec_SimpleClass_0), (2, c_spec_SimpleClass_1)]) (by kernel_rfl) (.cons rfl (lo_spec_SimpleClass_0) (.cons rfl (lo_spec_SimpleClass_1) .nil))) (by intro x; kernel_rfl)
abbrev p_spec_Printable : Pt := [(0, .str)]
abbrev q_spec_Printable : Pt := [(0, .bool)]
abbrev p_spec_Printable_0 : Pt := [(0, .str), (3, .int .i64)]
abbrev x_spec_Printable_0 : List (Xt × Pt) := [(.ex 0, [(0, .str)]), (.rt, [(2, .bool)])]
noncomputable def m_spec_Printable_0 : Tup p_spec_Printable_0 → Option (Stp (Tup p_spec_Printable_0) (SumT (x_spec_Printable_0.map (·.2)))) := fun (x : List UInt8 × Int) => bif decide (x.2 < (↑(List.length x.1) : Int)) then Option.bind (atI x.1 x.2) fun (c : UInt8) => bif decide ((↑(UInt8.toNat c) : Int) ≤ (32 : Int)) then some (Stp.out (Sum.inr false)) else Option.bind (atI x.1 x.2) fun (c : UInt8) => bif decide ((126 : Int) < (↑(UInt8.toNat c) : Int)) then some (Stp.out (Sum.inr false)) else some (Stp.nx (x.1, IntKind.wrap .i64 (x.2 + (1 : Int)))) else some (Stp.out (Sum.inl x.1))
noncomputable def m_spec_Printable : Tup p_spec_Printable → Option (Tup q_spec_Printable) := fun (x : List UInt8) => Option.bind (loopO m_spec_Printable_0 (x, (0 : Int))) fun (y : List UInt8 ⊕ Bool) => selim (fun (y : List UInt8) => some (decide (y ≠ Array.toList (ByteArray.data { data := #[] })))) (fun (y : Bool) => some y) y
noncomputable def cx_spec_Printable : Cx := ⟨tb, lookE [], lookS []⟩
theorem ck_spec_Printable : CxOK Try.prog (cx_spec_Printable) := cx_ok tb_ok .nil
noncomputable def c_spec_Printable_0 : Code := loopAt (Go.Proofs.Try.f34.body.getD .skip) 0
noncomputable def l_spec_Printable_0 : LEnt := ⟨p_spec_Printable_0, x_spec_Printable_0, loopO (m_spec_Printable_0)⟩
theorem lo_spec_Printable_0 : LOK Try.prog 22 0 false (l_spec_Printable_0) c_spec_Printable_0 := loop_ok (body := m_spec_Printable_0) (L := lookL []) (ck_spec_Printable) mixed (ls_ok (l := []) (by kernel_rfl) .nil) (by intro x; kernel_rfl) (fun x y h => loopO_iff.1 h)
noncomputable def e_spec_Printable : Ent := ⟨0, p_spec_Printable, q_spec_Printable, m_spec_Printable⟩
theorem ok_spec_Printable : FnOK Try.prog 34 e_spec_Printable := fn_ok (L := lookL [(0, l_spec_Printable_0)]) ck_spec_Printable mixed Try.func34 rfl (by kernel_rfl) (by kernel_rfl) (ls_ok (l := [(0, c_spec_Printable_0)]) (by kernel_rfl) (.cons rfl (lo_spec_Printable_0) .nil)) (by intro x; kernel_rfl)
abbrev p_laws_joined7 : Pt := [(0, .lst .str)]
abbrev q_laws_joined7 : Pt := [(0, .str)]
abbrev p_laws_joined7_0 : Pt := [(0, .lst .str), (3, .str), (4, .int .i64)]
abbrev x_laws_joined7_0 : List (Xt × Pt) := [(.ex 0, [(3, .str)])]
noncomputable def m_laws_joined7_0 : Tup p_laws_joined7_0 → Option (Stp (Tup p_laws_joined7_0) (SumT (x_laws_joined7_0.map (·.2)))) := fun (x : List (List UInt8) × List UInt8 × Int) => bif decide (x.2.2 < (↑(List.length x.1) : Int)) then Option.bind (atI x.1 x.2.2) fun (v : List UInt8) => Option.bind (catS [(32 : UInt8)] v) fun (r : List UInt8) => Option.bind (catS x.2.1 r) fun (r : List UInt8) => some (Stp.nx (x.1, r, IntKind.wrap .i64 (x.2.2 + (1 : Int)))) else some (Stp.out x.2.1)
noncomputable def m_laws_joined7 : Tup p_laws_joined7 → Option (Tup q_laws_joined7) := fun (x : List (List UInt8)) => Option.bind (loopO m_laws_joined7_0 (x, [], (0 : Int))) fun (y : List UInt8) => some y
noncomputable def cx_laws_joined7 : Cx := ⟨tb, lookE [], lookS []⟩
theorem ck_laws_joined7 : CxOK Try.prog (cx_laws_joined7) := cx_ok tb_ok .nil
noncomputable def c_laws_joined7_0 : Code := loopAt (Go.Proofs.Try.f35.body.getD .skip) 0
noncomputable def l_laws_joined7_0 : LEnt := ⟨p_laws_joined7_0, x_laws_joined7_0, loopO (m_laws_joined7_0)⟩
theorem lo_laws_joined7_0 : LOK Try.prog 19 0 false (l_laws_joined7_0) c_laws_joined7_0 := loop_ok (body := m_laws_joined7_0) (L := lookL []) (ck_laws_joined7) mixed (ls_ok (l := []) (by kernel_rfl) .nil) (by intro x; kernel_rfl) (fun x y h => loopO_iff.1 h)
noncomputable def e_laws_joined7 : Ent := ⟨0, p_laws_joined7, q_laws_joined7, m_laws_joined7⟩
theorem ok_laws_joined7 : FnOK Try.prog 35 e_laws_joined7 := fn_ok (L := lookL [(0, l_laws_joined7_0)]) ck_laws_joined7 mixed Try.func35 rfl (by kernel_rfl) (by kernel_rfl) (ls_ok (l := [(0, c_laws_joined7_0)]) (by kernel_rfl) (.cons rfl (lo_laws_joined7_0) .nil)) (by intro x; kernel_rfl)
abbrev p_laws_val7 : Pt := [(0, .lst .attr), (1, .str)]
abbrev q_laws_val7 : Pt := [(0, .str), (1, .bool)]
noncomputable def m_laws_val7 : Tup p_laws_val7 → Option (Tup q_laws_val7) := fun (x : List Attr × List UInt8) => Option.bind (m_spec_Attr ({ kind := (0 : Int), tag := [], text := [], attrs := x.1, size := (0 : Int) }, x.2)) fun (r : List UInt8 × Bool) => some (r.1, r.2)
noncomputable def cx_laws_val7 : Cx := ⟨tb, lookE [(36, e_spec_Attr)], lookS []⟩
theorem ck_laws_val7 : CxOK Try.prog (cx_laws_val7) := cx_ok tb_ok (.cons ok_spec_Attr Try.call36 .nil)
noncomputable def e_laws_val7 : Ent := ⟨0, p_laws_val7, q_laws_val7, m_laws_val7⟩
theorem ok_laws_val7 : FnOK Try.prog 15 e_laws_val7 := fn_ok (L := lookL []) ck_laws_val7 mixed Try.func15 rfl (by kernel_rfl) (by kernel_rfl) (ls_ok (l := []) (by kernel_rfl) .nil) (by intro x; kernel_rfl)
abbrev p_laws_attrs7 : Pt := [(0, .lst .attr)]
abbrev q_laws_attrs7 : Pt := [(0, .bool)]
abbrev p_laws_attrs7_0_0 : Pt := [(0, .lst .attr), (3, .int .i64), (4, .int .i64)]
abbrev x_laws_attrs7_0_0 : List (Xt × Pt) := [(.ex 2, [(0, .lst .attr), (3, .int .i64)]), (.rt, [(2, .bool)])]
noncomputable def m_laws_attrs7_0_0 : Tup p_laws_attrs7_0_0 → Option (Stp (Tup p_laws_attrs7_0_0) (SumT (x_laws_attrs7_0_0.map (·.2)))) := fun (x : List Attr × Int × Int) => bif decide (x.2.2 < x.2.1) then Option.bind (atI x.1 x.2.2) fun (v : Attr) => Option.bind (atI x.1 x.2.1) fun (v_1 : Attr) => bif decide (Attr.key v = Attr.key v_1) then some (Stp.out (Sum.inr false)) else some (Stp.nx (x.1, x.2.1, IntKind.wrap .i64 (x.2.2 + (1 : Int)))) else some (Stp.out (Sum.inl (x.1, x.2.1)))
abbrev p_laws_attrs7_0 : Pt := [(0, .lst .attr), (3, .int .i64)]
abbrev x_laws_attrs7_0 : List (Xt × Pt) := [(.ex 0, []), (.rt, [(2, .bool)])]
noncomputable def m_laws_attrs7_0 : Tup p_laws_attrs7_0 → Option (Stp (Tup p_laws_attrs7_0) (SumT (x_laws_attrs7_0.map (·.2)))) := fun (x : List Attr × Int) => bif decide (x.2 < (↑(List.length x.1) : Int)) then Option.bind (atI x.1 x.2) fun (v : Attr) => bif decide ((200 : Int) < (↑(List.length (Attr.key v)) : Int)) then some (Stp.out (Sum.inr false)) else Option.bind (atI x.1 x.2) fun (v : Attr) => bif decide ((200 : Int) < (↑(List.length (Attr.val v)) : Int)) then some (Stp.out (Sum.inr false)) else Option.bind (atI x.1 x.2) fun (v : Attr) => bif decide (Attr.key v = Array.toList (ByteArray.data { data := #[(99 : UInt8), (108 : UInt8), (97 : UInt8), (115 : UInt8), (115 : UInt8)] })) then Option.bind (atI x.1 x.2) fun (v : Attr) => Option.bind (m_spec_SimpleClass (Attr.val v)) fun (r : Bool) => bif !r then some (Stp.out (Sum.inr false)) else Option.bind (loopO m_laws_attrs7_0_0 (x.1, x.2, (0 : Int))) fun (y : List Attr × Int ⊕ Bool) => selim (fun (y : List Attr × Int) => some (Stp.nx (y.1, IntKind.wrap .i64 (y.2 + (1 : Int))))) (fun (y : Bool) => some (Stp.out (Sum.inr y))) y else Option.bind (loopO m_laws_attrs7_0_0 (x.1, x.2, (0 : Int))) fun (y : List Attr × Int ⊕ Bool) => selim (fun (y : List Attr × Int) => some (Stp.nx (y.1, IntKind.wrap .i64 (y.2 + (1 : Int))))) (fun (y : Bool) => some (Stp.out (Sum.inr y))) y else some (Stp.out (Sum.inl ()))
noncomputable def m_laws_attrs7 : Tup p_laws_attrs7 → Option (Tup q_laws_attrs7) := fun (x : List Attr) => bif decide ((12 : Int) < (↑(List.length x) : Int)) then some false else Option.bind (loopO m_laws_attrs7_0 (x, (0 : Int))) fun (y : PUnit ⊕ Bool) => selim (fun (y : PUnit) => some true) (fun (y : Bool) => some y) y
noncomputable def cx_laws_attrs7 : Cx := ⟨tb, lookE [(33, e_spec_SimpleClass)], lookS [(11, [(true, 0), (true, 1), (true, 2), (true, 3), (true, 4), (true, 5), (true, 6), (true, 7), (true, 8), (true, 9), (true, 10)])]⟩
theorem ck_laws_attrs7 : CxOK Try.prog (cx_laws_attrs7) := cx_ok tb_ok (.cons ok_spec_SimpleClass Try.call33 .nil)
noncomputable def c_laws_attrs7_0_0 : Code := loopAt (loopAt (Go.Proofs.Try.f13.body.getD .skip) 0) 0
noncomputable def l_laws_attrs7_0_0 : LEnt := ⟨p_laws_attrs7_0_0, x_laws_attrs7_0_0, loopO (m_laws_attrs7_0_0)⟩
theorem lo_laws_attrs7_0_0 : LOK Try.prog 63 0 false (l_laws_attrs7_0_0) c_laws_attrs7_0_0 := loop_ok (body := m_laws_attrs7_0_0) (L := lookL []) (ck_laws_attrs7) mixed (ls_ok (l := []) (by kernel_rfl) .nil) (by intro x; kernel_rfl) (fun x y h => loopO_iff.1 h)
noncomputable def c_laws_attrs7_0 : Code := loopAt (Go.Proofs.Try.f13.body.getD .skip) 0
noncomputable def l_laws_attrs7_0 : LEnt := ⟨p_laws_attrs7_0, x_laws_attrs7_0, loopO (m_laws_attrs7_0)⟩
theorem lo_laws_attrs7_0 : LOK Try.prog 63 0 false (l_laws_attrs7_0) c_laws_attrs7_0 := loop_ok (body := m_laws_attrs7_0) (L := lookL [(2, l_laws_attrs7_0_0)]) (ck_laws_attrs7) mixed (ls_ok (l := [(2, c_laws_attrs7_0_0)]) (by kernel_rfl) (.cons rfl (lo_laws_attrs7_0_0) .nil)) (by intro x; kernel_rfl) (fun x y h => loopO_iff.1 h)
noncomputable def e_laws_attrs7 : Ent := ⟨0, p_laws_attrs7, q_laws_attrs7, m_laws_attrs7⟩
theorem ok_laws_attrs7 : FnOK Try.prog 13 e_laws_attrs7 := fn_ok (L := lookL [(0, l_laws_attrs7_0)]) ck_laws_attrs7 mixed Try.func13 rfl (by kernel_rfl) (by kernel_rfl) (ls_ok (l := [(0, c_laws_attrs7_0)]) (by kernel_rfl) (.cons rfl (lo_laws_attrs7_0) .nil)) (by intro x; kernel_rfl)
abbrev p_laws_classes7 : Pt := [(0, .lst .str)]
abbrev q_laws_classes7 : Pt := [(0, .bool)]
abbrev p_laws_classes7_0 : Pt := [(0, .lst .str), (3, .int .i64)]
abbrev x_laws_classes7_0 : List (Xt × Pt) := [(.ex 0, [(0, .lst .str)]), (.rt, [(2, .bool)])]
noncomputable def m_laws_classes7_0 : Tup p_laws_classes7_0 → Option (Stp (Tup p_laws_classes7_0) (SumT (x_laws_classes7_0.map (·.2)))) := fun (x : List (List UInt8) × Int) => bif decide (x.2 < (↑(List.length x.1) : Int)) then Option.bind (atI x.1 x.2) fun (v : List UInt8) => Option.bind (m_spec_Printable v) fun (r : Bool) => bif !r then some (Stp.out (Sum.inr false)) else Option.bind (atI x.1 x.2) fun (v : List UInt8) => bif decide ((40 : Int) < (↑(List.length v) : Int)) then some (Stp.out (Sum.inr false)) else Option.bind (subL x.1 (0 : Int) x.2) fun (m : List (List UInt8)) => Option.bind (m_laws_joined7 m) fun (r : List UInt8) => Option.bind (atI x.1 x.2) fun (v : List UInt8) => Option.bind (m_spec_Word (r, v)) fun (r : Bool) => bif r then some (Stp.out (Sum.inr false)) else some (Stp.nx (x.1, IntKind.wrap .i64 (x.2 + (1 : Int)))) else some (Stp.out (Sum.inl x.1))
noncomputable def m_laws_classes7 : Tup p_laws_classes7 → Option (Tup q_laws_classes7) := fun (x : List (List UInt8)) => Option.bind (loopO m_laws_classes7_0 (x, (0 : Int))) fun (y : List (List UInt8) ⊕ Bool) => selim (fun (y : List (List UInt8)) => bif decide ((0 : Int) < (↑(List.length y) : Int)) then some (decide ((↑(List.length y) : Int) ≤ (8 : Int))) else some false) (fun (y : Bool) => some y) y
noncomputable def cx_laws_classes7 : Cx := ⟨tb, lookE [(34, e_spec_Printable), (35, e_laws_joined7), (17, e_spec_Word)], lookS [(4, [(true, 0), (true, 1), (true, 2), (true, 3), (false, 4), (true, 5), (true, 6), (true, 7), (true, 8), (true, 9), (true, 10), (true, 11), (true, 12), (true, 13), (true, 14), (true, 15), (true, 16), (true, 17), (true, 19), (true, 20), (true, 21), (true, 22), (false, 18), (false, 23), (true, 24)])]⟩
theorem ck_laws_classes7 : CxOK Try.prog (cx_laws_classes7) := cx_ok tb_ok (.cons ok_spec_Printable Try.call34 (.cons ok_laws_joined7 Try.call35 (.cons ok_spec_Word Try.call17 .nil)))
noncomputable def c_laws_classes7_0 : Code := loopAt (Go.Proofs.Try.f14.body.getD .skip) 0
noncomputable def l_laws_classes7_0 : LEnt := ⟨p_laws_classes7_0, x_laws_classes7_0, loopO (m_laws_classes7_0)⟩
theorem lo_laws_classes7_0 : LOK Try.prog 43 0 false (l_laws_classes7_0) c_laws_classes7_0 := loop_ok (body := m_laws_classes7_0) (L := lookL []) (ck_laws_classes7) mixed (ls_ok (l := []) (by kernel_rfl) .nil) (by intro x; kernel_rfl) (fun x y h => loopO_iff.1 h)
noncomputable def e_laws_classes7 : Ent := ⟨0, p_laws_classes7, q_laws_classes7, m_laws_classes7⟩
theorem ok_laws_classes7 : FnOK Try.prog 14 e_laws_classes7 := fn_ok (L := lookL [(0, l_laws_classes7_0)]) ck_laws_classes7 mixed Try.func14 rfl (by kernel_rfl) (by kernel_rfl) (ls_ok (l := [(0, c_laws_classes7_0)]) (by kernel_rfl) (.cons rfl (lo_laws_classes7_0) .nil)) (by intro x; kernel_rfl)
end Go.Proofs.Ytcbmbmfenhoflaa.V
set_option linter.unusedVariables false
set_option linter.unusedSimpArgs false
namespace Go.Proofs.Ytcbmbmfenhoflaa.V
open Go Go.Proofs
abbrev p_goquery_zzIndex : Pt := [(0, .str), (1, .str)]
abbrev q_goquery_zzIndex : Pt := [(0, .int .i64)]
abbrev p_goquery_zzIndex_0 : Pt := [(0, .str), (1, .str), (5, .int .i64)]
abbrev x_goquery_zzIndex_0 : List (Xt × Pt) := [(.ex 0, []), (.rt, [(4, .int .i64)])]
noncomputable def m_goquery_zzIndex_0 : Tup p_goquery_zzIndex_0 → Option (Stp (Tup p_goquery_zzIndex_0) (SumT (x_goquery_zzIndex_0.map (·.2)))) := fun (x : List UInt8 × List UInt8 × Int) => bif decide (IntKind.wrap .i64 (x.2.2 + (↑(List.length x.2.1) : Int)) ≤ (↑(List.length x.1) : Int)) then Option.bind (subL x.1 x.2.2 (IntKind.wrap .i64 (x.2.2 + (↑(List.length x.2.1) : Int)))) fun (m : List UInt8) => bif decide (m = x.2.1) then some (Stp.out (Sum.inr x.2.2)) else some (Stp.nx (x.1, x.2.1, IntKind.wrap .i64 (x.2.2 + (1 : Int)))) else some (Stp.out (Sum.inl ()))
noncomputable def m_goquery_zzIndex : Tup p_goquery_zzIndex → Option (Tup q_goquery_zzIndex) := fun (x : List UInt8 × List UInt8) => Option.bind (loopO m_goquery_zzIndex_0 (x.1, x.2, (0 : Int))) fun (y : PUnit ⊕ Int) => selim (fun (y : PUnit) => some (-1 : Int)) (fun (y : Int) => some y) y
noncomputable def cx_goquery_zzIndex : Cx := ⟨tb, lookE [], lookS []⟩
theorem ck_goquery_zzIndex : CxOK Try.prog (cx_goquery_zzIndex) := cx_ok tb_ok .nil
noncomputable def c_goquery_zzIndex_0 : Code := loopAt (Go.Proofs.Try.f77.body.getD .skip) 0
noncomputable def l_goquery_zzIndex_0 : LEnt := ⟨p_goquery_zzIndex_0, x_goquery_zzIndex_0, loopO (m_goquery_zzIndex_0)⟩
theorem lo_goquery_zzIndex_0 : LOK Try.prog 25 0 false (l_goquery_zzIndex_0) c_goquery_zzIndex_0 := loop_ok (body := m_goquery_zzIndex_0) (L := lookL []) (ck_goquery_zzIndex) mixed (ls_ok (l := []) (by kernel_rfl) .nil) (by intro x; kernel_rfl) (fun x y h => loopO_iff.1 h)
noncomputable def e_goquery_zzIndex : Ent := ⟨0, p_goquery_zzIndex, q_goquery_zzIndex, m_goquery_zzIndex⟩
theorem ok_goquery_zzIndex : FnOK Try.prog 77 e_goquery_zzIndex := fn_ok (L := lookL [(0, l_goquery_zzIndex_0)]) ck_goquery_zzIndex mixed Try.func77 rfl (by kernel_rfl) (by kernel_rfl) (ls_ok (l := [(0, c_goquery_zzIndex_0)]) (by kernel_rfl) (.cons rfl (lo_goquery_zzIndex_0) .nil)) (by intro x; kernel_rfl)
abbrev p_goquery_zzContains : Pt := [(0, .str), (1, .str)]
abbrev q_goquery_zzContains : Pt := [(0, .bool)]
noncomputable def m_goquery_zzContains : Tup p_goquery_zzContains → Option (Tup q_goquery_zzContains) := fun (x : List UInt8 × List UInt8) => Option.bind (m_goquery_zzIndex (x.1, x.2)) fun (r : Int) => some (decide ((0 : Int) ≤ r))
noncomputable def cx_goquery_zzContains : Cx := ⟨tb, lookE [(77, e_goquery_zzIndex)], lookS []⟩
theorem ck_goquery_zzContains : CxOK Try.prog (cx_goquery_zzContains) := cx_ok tb_ok (.cons ok_goquery_zzIndex Try.call77 .nil)
noncomputable def e_goquery_zzContains : Ent := ⟨0, p_goquery_zzContains, q_goquery_zzContains, m_goquery_zzContains⟩
theorem ok_goquery_zzContains : FnOK Try.prog 58 e_goquery_zzContains := fn_ok (L := lookL []) ck_goquery_zzContains mixed Try.func58 rfl (by kernel_rfl) (by kernel_rfl) (ls_ok (l := []) (by kernel_rfl) .nil) (by intro x; kernel_rfl)
abbrev p_goquery_zzIsSpace : Pt := [(0, .int .i32)]
abbrev q_goquery_zzIsSpace : Pt := [(0, .bool)]
noncomputable def m_goquery_zzIsSpace : Tup p_goquery_zzIsSpace → Option (Tup q_goquery_zzIsSpace) := fun (x : Int) => bif decide (x = (9 : Int)) then some true else bif decide (x = (10 : Int)) then some true else bif decide (x = (11 : Int)) then some true else bif decide (x = (12 : Int)) then some true else bif decide (x = (13 : Int)) then some true else bif decide (x = (32 : Int)) then some true else bif decide (x = (133 : Int)) then some true else bif decide (x = (160 : Int)) then some true else bif decide (x = (5760 : Int)) then some true else bif decide (x = (8232 : Int)) then some true else bif decide (x = (8233 : Int)) then some true else bif decide (x = (8239 : Int)) then some true else bif decide (x = (8287 : Int)) then some true else bif decide (x = (12288 : Int)) then some true else bif decide ((8192 : Int) ≤ x) then some (decide (x ≤ (8202 : Int))) else some false
noncomputable def cx_goquery_zzIsSpace : Cx := ⟨tb, lookE [], lookS []⟩
theorem ck_goquery_zzIsSpace : CxOK Try.prog (cx_goquery_zzIsSpace) := cx_ok tb_ok .nil
noncomputable def e_goquery_zzIsSpace : Ent := ⟨0, p_goquery_zzIsSpace, q_goquery_zzIsSpace, m_goquery_zzIsSpace⟩
theorem ok_goquery_zzIsSpace : FnOK Try.prog 74 e_goquery_zzIsSpace := fn_ok (L := lookL []) ck_goquery_zzIsSpace mixed Try.func74 rfl (by kernel_rfl) (by kernel_rfl) (ls_ok (l := []) (by kernel_rfl) .nil) (by intro x; kernel_rfl)
abbrev p_goquery_zzTrimSpace : Pt := [(0, .str)]
abbrev q_goquery_zzTrimSpace : Pt := [(0, .str)]
abbrev p_goquery_zzTrimSpace_0_0 : Pt := [(0, .str), (3, .int .i64), (4, .int .i64), (10, .sit)]
abbrev x_goquery_zzTrimSpace_0_0 : List (Xt × Pt) := [(.ex 2, [(0, .str), (3, .int .i64), (4, .int .i64), (10, .sit)])]
noncomputable def m_goquery_zzTrimSpace_0_0 : Tup p_goquery_zzTrimSpace_0_0 → Option (Stp (Tup p_goquery_zzTrimSpace_0_0) (SumT (x_goquery_zzTrimSpace_0_0.map (·.2)))) := fun (x : List UInt8 × Int × Int × List UInt8 × Nat) => bif decide (x.2.2.1 < (↑(List.length x.1) : Int)) then Option.bind (atI x.1 x.2.2.1) fun (c : UInt8) => bif decide ((128 : Int) ≤ (↑(UInt8.toNat c) : Int)) then Option.bind (atI x.1 x.2.2.1) fun (c : UInt8) => bif decide ((↑(UInt8.toNat c) : Int) < (192 : Int)) then some (Stp.nx (x.1, x.2.1, IntKind.wrap .i64 (x.2.2.1 + (1 : Int)), x.2.2.2.1, x.2.2.2.2)) else some (Stp.out (x.1, x.2.1, x.2.2.1, x.2.2.2.1, x.2.2.2.2)) else some (Stp.out (x.1, x.2.1, x.2.2.1, x.2.2.2.1, x.2.2.2.2)) else some (Stp.out (x.1, x.2.1, x.2.2.1, x.2.2.2.1, x.2.2.2.2))
abbrev p_goquery_zzTrimSpace_0 : Pt := [(0, .str), (3, .int .i64), (4, .int .i64), (10, .sit)]
abbrev x_goquery_zzTrimSpace_0 : List (Xt × Pt) := [(.ex 0, [(0, .str), (3, .int .i64), (4, .int .i64)])]
noncomputable def m_goquery_zzTrimSpace_0 : Tup p_goquery_zzTrimSpace_0 → Option (Stp (Tup p_goquery_zzTrimSpace_0) (SumT (x_goquery_zzTrimSpace_0.map (·.2)))) := fun (x : List UInt8 × Int × Int × List UInt8 × Nat) => bif decide (x.2.2.2.2 < List.length x.2.2.2.1) then Option.bind (m_goquery_zzIsSpace (↑(Prod.fst (dec8 x.2.2.2.1 x.2.2.2.2)) : Int)) fun (r : Bool) => bif !r then Option.bind (loopO m_goquery_zzTrimSpace_0_0 (x.1, if (↑x.2.2.2.2 : Int) < x.2.1 then (↑x.2.2.2.2 : Int) else x.2.1, IntKind.wrap .i64 ((↑x.2.2.2.2 : Int) + (1 : Int)), x.2.2.2.1, x.2.2.2.2 + Prod.snd (dec8 x.2.2.2.1 x.2.2.2.2))) fun (y : List UInt8 × Int × Int × List UInt8 × Nat) => some (Stp.nx (y.1, y.2.1, y.2.2.1, y.2.2.2.1, y.2.2.2.2)) else some (Stp.nx (x.1, x.2.1, x.2.2.1, x.2.2.2.1, x.2.2.2.2 + Prod.snd (dec8 x.2.2.2.1 x.2.2.2.2))) else some (Stp.out (x.1, x.2.1, x.2.2.1))
noncomputable def m_goquery_zzTrimSpace : Tup p_goquery_zzTrimSpace → Option (Tup q_goquery_zzTrimSpace) := fun (x : List UInt8) => Option.bind (loopO m_goquery_zzTrimSpace_0 (x, (↑(List.length x) : Int), (0 : Int), x, (0 : Nat))) fun (y : List UInt8 × Int × Int) => bif decide (y.2.2 ≤ y.2.1) then some [] else Option.bind (subL y.1 y.2.1 y.2.2) fun (m : List UInt8) => some m
noncomputable def cx_goquery_zzTrimSpace : Cx := ⟨tb, lookE [(74, e_goquery_zzIsSpace)], lookS []⟩
theorem ck_goquery_zzTrimSpace : CxOK Try.prog (cx_goquery_zzTrimSpace) := cx_ok tb_ok (.cons ok_goquery_zzIsSpace Try.call74 .nil)
noncomputable def c_goquery_zzTrimSpace_0_0 : Code := loopAt (loopAt (Go.Proofs.Try.f54.body.getD .skip) 0) 0
noncomputable def l_goquery_zzTrimSpace_0_0 : LEnt := ⟨p_goquery_zzTrimSpace_0_0, x_goquery_zzTrimSpace_0_0, loopO (m_goquery_zzTrimSpace_0_0)⟩
theorem lo_goquery_zzTrimSpace_0_0 : LOK Try.prog 48 0 false (l_goquery_zzTrimSpace_0_0) c_goquery_zzTrimSpace_0_0 := loop_ok (body := m_goquery_zzTrimSpace_0_0) (L := lookL []) (ck_goquery_zzTrimSpace) mixed (ls_ok (l := []) (by kernel_rfl) .nil) (by intro x; kernel_rfl) (fun x y h => loopO_iff.1 h)
noncomputable def c_goquery_zzTrimSpace_0 : Code := loopAt (Go.Proofs.Try.f54.body.getD .skip) 0
noncomputable def l_goquery_zzTrimSpace_0 : LEnt := ⟨p_goquery_zzTrimSpace_0, x_goquery_zzTrimSpace_0, loopO (m_goquery_zzTrimSpace_0)⟩
theorem lo_goquery_zzTrimSpace_0 : LOK Try.prog 48 0 false (l_goquery_zzTrimSpace_0) c_goquery_zzTrimSpace_0 := loop_ok (body := m_goquery_zzTrimSpace_0) (L := lookL [(2, l_goquery_zzTrimSpace_0_0)]) (ck_goquery_zzTrimSpace) mixed (ls_ok (l := [(2, c_goquery_zzTrimSpace_0_0)]) (by kernel_rfl) (.cons rfl (lo_goquery_zzTrimSpace_0_0) .nil)) (by intro x; kernel_rfl) (fun x y h => loopO_iff.1 h)
noncomputable def e_goquery_zzTrimSpace : Ent := ⟨0, p_goquery_zzTrimSpace, q_goquery_zzTrimSpace, m_goquery_zzTrimSpace⟩
theorem ok_goquery_zzTrimSpace : FnOK Try.prog 54 e_goquery_zzTrimSpace := fn_ok (L := lookL [(0, l_goquery_zzTrimSpace_0)]) ck_goquery_zzTrimSpace mixed Try.func54 rfl (by kernel_rfl) (by kernel_rfl) (ls_ok (l := [(0, c_goquery_zzTrimSpace_0)]) (by kernel_rfl) (.cons rfl (lo_goquery_zzTrimSpace_0) .nil)) (by intro x; kernel_rfl)
abbrev p_goquery_zzFields : Pt := [(0, .str)]
abbrev q_goquery_zzFields : Pt := [(0, .own .str 9)]
abbrev p_goquery_zzFields_0 : Pt := [(0, .str), (3, .own .str 9), (4, .int .i64), (8, .sit)]
abbrev x_goquery_zzFields_0 : List (Xt × Pt) := [(.ex 0, [(0, .str), (3, .own .str 9), (4, .int .i64)])]
noncomputable def m_goquery_zzFields_0 : Tup p_goquery_zzFields_0 → Option (Stp (Tup p_goquery_zzFields_0) (SumT (x_goquery_zzFields_0.map (·.2)))) := fun (x : List UInt8 × List (List UInt8) × Int × List UInt8 × Nat) => bif decide (x.2.2.2.2 < List.length x.2.2.2.1) then Option.bind (m_goquery_zzIsSpace (↑(Prod.fst (dec8 x.2.2.2.1 x.2.2.2.2)) : Int)) fun (r : Bool) => bif r then bif decide ((0 : Int) ≤ x.2.2.1) then Option.bind (subL x.1 x.2.2.1 (↑x.2.2.2.2 : Int)) fun (m : List UInt8) => Option.bind (appL x.2.1 [m]) fun (r : List (List UInt8)) => some (Stp.nx (x.1, r, (-1 : Int), x.2.2.2.1, x.2.2.2.2 + Prod.snd (dec8 x.2.2.2.1 x.2.2.2.2))) else some (Stp.nx (x.1, x.2.1, (-1 : Int), x.2.2.2.1, x.2.2.2.2 + Prod.snd (dec8 x.2.2.2.1 x.2.2.2.2))) else bif decide (x.2.2.1 < (0 : Int)) then some (Stp.nx (x.1, x.2.1, (↑x.2.2.2.2 : Int), x.2.2.2.1, x.2.2.2.2 + Prod.snd (dec8 x.2.2.2.1 x.2.2.2.2))) else some (Stp.nx (x.1, x.2.1, x.2.2.1, x.2.2.2.1, x.2.2.2.2 + Prod.snd (dec8 x.2.2.2.1 x.2.2.2.2))) else some (Stp.out (x.1, x.2.1, x.2.2.1))
noncomputable def m_goquery_zzFields : Tup p_goquery_zzFields → Option (Tup q_goquery_zzFields) := fun (x : List UInt8) => Option.bind (loopO m_goquery_zzFields_0 (x, [], (-1 : Int), x, (0 : Nat))) fun (y : List UInt8 × List (List UInt8) × Int) => bif decide ((0 : Int) ≤ y.2.2) then Option.bind (subL y.1 y.2.2 (↑(List.length y.1) : Int)) fun (m : List UInt8) => Option.bind (appL y.2.1 [m]) fun (r : List (List UInt8)) => some r else some y.2.1
noncomputable def cx_goquery_zzFields : Cx := ⟨tb, lookE [(74, e_goquery_zzIsSpace)], lookS []⟩
theorem ck_goquery_zzFields : CxOK Try.prog (cx_goquery_zzFields) := cx_ok tb_ok (.cons ok_goquery_zzIsSpace Try.call74 .nil)
noncomputable def c_goquery_zzFields_0 : Code := loopAt (Go.Proofs.Try.f76.body.getD .skip) 0
noncomputable def l_goquery_zzFields_0 : LEnt := ⟨p_goquery_zzFields_0, x_goquery_zzFields_0, loopO (m_goquery_zzFields_0)⟩
theorem lo_goquery_zzFields_0 : LOK Try.prog 36 0 false (l_goquery_zzFields_0) c_goquery_zzFields_0 := loop_ok (body := m_goquery_zzFields_0) (L := lookL []) (ck_goquery_zzFields) mixed (ls_ok (l := []) (by kernel_rfl) .nil) (by intro x; kernel_rfl) (fun x y h => loopO_iff.1 h)
noncomputable def e_goquery_zzFields : Ent := ⟨0, p_goquery_zzFields, q_goquery_zzFields, m_goquery_zzFields⟩
theorem ok_goquery_zzFields : FnOK Try.prog 76 e_goquery_zzFields := fn_ok (L := lookL [(0, l_goquery_zzFields_0)]) ck_goquery_zzFields mixed Try.func76 rfl (by kernel_rfl) (by kernel_rfl) (ls_ok (l := [(0, c_goquery_zzFields_0)]) (by kernel_rfl) (.cons rfl (lo_goquery_zzFields_0) .nil)) (by intro x; kernel_rfl)
abbrev p_goquery_zzReplaceAll : Pt := [(0, .str), (1, .str), (2, .str)]
abbrev q_goquery_zzReplaceAll : Pt := [(0, .str)]
abbrev p_goquery_zzReplaceAll_0 : Pt := [(0, .str), (1, .str), (2, .str), (7, .own .u8 5)]
abbrev x_goquery_zzReplaceAll_0 : List (Xt × Pt) := [(.rt, [(6, .str)])]
noncomputable def m_goquery_zzReplaceAll_0 : Tup p_goquery_zzReplaceAll_0 → Option (Stp (Tup p_goquery_zzReplaceAll_0) (SumT (x_goquery_zzReplaceAll_0.map (·.2)))) := fun (x : List UInt8 × List UInt8 × List UInt8 × List UInt8) => Option.bind (m_goquery_zzIndex (x.1, x.2.1)) fun (r : Int) => bif decide (r < (0 : Int)) then Option.bind (appL x.2.2.2 x.1) fun (r : List UInt8) => Option.bind (castE E.u8 E.u8 r) fun (xs : List UInt8) => some (Stp.out xs) else Option.bind (subL x.1 (0 : Int) r) fun (m : List UInt8) => Option.bind (appL x.2.2.2 m) fun (r_1 : List UInt8) => Option.bind (appL r_1 x.2.2.1) fun (r_2 : List UInt8) => Option.bind (subL x.1 (IntKind.wrap .i64 (r + (↑(List.length x.2.1) : Int))) (↑(List.length x.1) : Int)) fun (m : List UInt8) => some (Stp.nx (m, x.2.1, x.2.2.1, r_2))
noncomputable def m_goquery_zzReplaceAll : Tup p_goquery_zzReplaceAll → Option (Tup q_goquery_zzReplaceAll) := fun (x : List UInt8 × List UInt8 × List UInt8) => Option.bind (loopO m_goquery_zzReplaceAll_0 (x.1, x.2.1, x.2.2, [])) fun (y : List UInt8) => some y
noncomputable def cx_goquery_zzReplaceAll : Cx := ⟨tb, lookE [(77, e_goquery_zzIndex)], lookS []⟩
theorem ck_goquery_zzReplaceAll : CxOK Try.prog (cx_goquery_zzReplaceAll) := cx_ok tb_ok (.cons ok_goquery_zzIndex Try.call77 .nil)
noncomputable def c_goquery_zzReplaceAll_0 : Code := loopAt (Go.Proofs.Try.f64.body.getD .skip) 0
noncomputable def l_goquery_zzReplaceAll_0 : LEnt := ⟨p_goquery_zzReplaceAll_0, x_goquery_zzReplaceAll_0, loopO (m_goquery_zzReplaceAll_0)⟩
theorem lo_goquery_zzReplaceAll_0 : LOK Try.prog 31 0 false (l_goquery_zzReplaceAll_0) c_goquery_zzReplaceAll_0 := loop_ok (body := m_goquery_zzReplaceAll_0) (L := lookL []) (ck_goquery_zzReplaceAll) mixed (ls_ok (l := []) (by kernel_rfl) .nil) (by intro x; kernel_rfl) (fun x y h => loopO_iff.1 h)
noncomputable def e_goquery_zzReplaceAll : Ent := ⟨0, p_goquery_zzReplaceAll, q_goquery_zzReplaceAll, m_goquery_zzReplaceAll⟩
theorem ok_goquery_zzReplaceAll : FnOK Try.prog 64 e_goquery_zzReplaceAll := fn_ok (L := lookL [(0, l_goquery_zzReplaceAll_0)]) ck_goquery_zzReplaceAll mixed Try.func64 rfl (by kernel_rfl) (by kernel_rfl) (ls_ok (l := [(0, c_goquery_zzReplaceAll_0)]) (by kernel_rfl) (.cons rfl (lo_goquery_zzReplaceAll_0) .nil)) (by intro x; kernel_rfl)
abbrev p_goquery_zzClassTrim : Pt := [(0, .str)]
abbrev q_goquery_zzClassTrim : Pt := [(0, .str)]
abbrev p_goquery_zzClassTrim_0 : Pt := [(3, .own .u8 5), (8, .al 3), (9, .int .i64), (10, .int .i64)]
abbrev x_goquery_zzClassTrim_0 : List (Xt × Pt) := [(.ex 0, [(3, .own .u8 5)])]
noncomputable def m_goquery_zzClassTrim_0 : Tup p_goquery_zzClassTrim_0 → Option (Stp (Tup p_goquery_zzClassTrim_0) (SumT (x_goquery_zzClassTrim_0.map (·.2)))) := fun (x : List UInt8 × PUnit × Int × Int) => bif decide (x.2.2.2 < x.2.2.1) then Option.bind (atI x.1 x.2.2.2) fun (x_1 : UInt8) => Option.bind x.1[Int.toNat x.2.2.2]? fun (v : UInt8) => bif decide ((↑(UInt8.toNat v) : Int) = (9 : Int)) then Option.bind (atI x.1 x.2.2.2) fun (x_2 : UInt8) => Option.bind x.1[Int.toNat x.2.2.2]? fun (v : UInt8) => Option.bind (byteI (32 : Int)) fun (v : UInt8) => some (Stp.nx (List.set x.1 (Int.toNat x.2.2.2) v, (), x.2.2.1, IntKind.wrap .i64 (x.2.2.2 + (1 : Int)))) else bif decide ((↑(UInt8.toNat v) : Int) = (13 : Int)) then Option.bind (atI x.1 x.2.2.2) fun (x_2 : UInt8) => Option.bind x.1[Int.toNat x.2.2.2]? fun (v : UInt8) => Option.bind (byteI (32 : Int)) fun (v : UInt8) => some (Stp.nx (List.set x.1 (Int.toNat x.2.2.2) v, (), x.2.2.1, IntKind.wrap .i64 (x.2.2.2 + (1 : Int)))) else bif decide ((↑(UInt8.toNat v) : Int) = (10 : Int)) then Option.bind (atI x.1 x.2.2.2) fun (x_2 : UInt8) => Option.bind x.1[Int.toNat x.2.2.2]? fun (v : UInt8) => Option.bind (byteI (32 : Int)) fun (v : UInt8) => some (Stp.nx (List.set x.1 (Int.toNat x.2.2.2) v, (), x.2.2.1, IntKind.wrap .i64 (x.2.2.2 + (1 : Int)))) else some (Stp.nx (x.1, (), x.2.2.1, IntKind.wrap .i64 (x.2.2.2 + (1 : Int)))) else some (Stp.out x.1)
noncomputable def m_goquery_zzClassTrim : Tup p_goquery_zzClassTrim → Option (Tup q_goquery_zzClassTrim) := fun (x : List UInt8) => Option.bind (loopO m_goquery_zzClassTrim_0 (x, (), (↑(List.length x) : Int), (0 : Int))) fun (y : List UInt8) => Option.bind (castE E.u8 E.u8 y) fun (xs : List UInt8) => some xs
noncomputable def cx_goquery_zzClassTrim : Cx := ⟨tb, lookE [], lookS []⟩
theorem ck_goquery_zzClassTrim : CxOK Try.prog (cx_goquery_zzClassTrim) := cx_ok tb_ok .nil
noncomputable def c_goquery_zzClassTrim_0 : Code := loopAt (Go.Proofs.Try.f62.body.getD .skip) 0
noncomputable def l_goquery_zzClassTrim_0 : LEnt := ⟨p_goquery_zzClassTrim_0, x_goquery_zzClassTrim_0, loopO (m_goquery_zzClassTrim_0)⟩
theorem lo_goquery_zzClassTrim_0 : LOK Try.prog 31 0 false (l_goquery_zzClassTrim_0) c_goquery_zzClassTrim_0 := loop_ok (body := m_goquery_zzClassTrim_0) (L := lookL []) (ck_goquery_zzClassTrim) mixed (ls_ok (l := []) (by kernel_rfl) .nil) (by intro x; kernel_rfl) (fun x y h => loopO_iff.1 h)
noncomputable def e_goquery_zzClassTrim : Ent := ⟨0, p_goquery_zzClassTrim, q_goquery_zzClassTrim, m_goquery_zzClassTrim⟩
theorem ok_goquery_zzClassTrim : FnOK Try.prog 62 e_goquery_zzClassTrim := fn_ok (L := lookL [(0, l_goquery_zzClassTrim_0)]) ck_goquery_zzClassTrim mixed Try.func62 rfl (by kernel_rfl) (by kernel_rfl) (ls_ok (l := [(0, c_goquery_zzClassTrim_0)]) (by kernel_rfl) (.cons rfl (lo_goquery_zzClassTrim_0) .nil)) (by intro x; kernel_rfl)
abbrev p_goquery_getClassesSlice : Pt := [(0, .str)]
abbrev q_goquery_getClassesSlice : Pt := [(0, .own .str 9)]
noncomputable def m_goquery_getClassesSlice : Tup p_goquery_getClassesSlice → Option (Tup q_goquery_getClassesSlice) := fun (x : List UInt8) => Option.bind (m_goquery_zzFields x) fun (r : List (List UInt8)) => some r
noncomputable def cx_goquery_getClassesSlice : Cx := ⟨tb, lookE [(76, e_goquery_zzFields)], lookS []⟩
theorem ck_goquery_getClassesSlice : CxOK Try.prog (cx_goquery_getClassesSlice) := cx_ok tb_ok (.cons ok_goquery_zzFields Try.call76 .nil)
noncomputable def e_goquery_getClassesSlice : Ent := ⟨0, p_goquery_getClassesSlice, q_goquery_getClassesSlice, m_goquery_getClassesSlice⟩
theorem ok_goquery_getClassesSlice : FnOK Try.prog 56 e_goquery_getClassesSlice := fn_ok (L := lookL []) ck_goquery_getClassesSlice mixed Try.func56 rfl (by kernel_rfl) (by kernel_rfl) (ls_ok (l := []) (by kernel_rfl) .nil) (by intro x; kernel_rfl)
end Go.Proofs.Ytcbmbmfenhoflaa.V
set_option linter.unusedVariables false
set_option linter.unusedSimpArgs false
namespace Go.Proofs.Ytcbmbmfenhoflaa.V
open Go
theorem subL_n {α : Type} (l : List α) {lo hi : Nat} (h1 : lo ≤ hi) (h2 : hi ≤ l.length) : subL l (lo : Int) (hi : Int) = some ((l.take hi).drop lo) := subL_nat' l h1 h2
theorem catS_ok {l m : List UInt8} (h : l.length + m.length ≤ 9223372036854775807) : catS l m = some (l ++ m) := by simp [catS, h]
theorem castE_id {e : E} (xs : List e.T) : castE e e xs = some xs := by
  unfold castE
  rw [dif_pos rfl]
theorem drop_cons {α : Type} {l : List α} {k : Nat} {v : α} (h : l[k]? = some v) : l.drop k = v :: l.drop (k + 1) := by
  obtain ⟨h1, h2⟩ := List.getElem?_eq_some_iff.1 h
  rw [← h2]
  exact List.drop_eq_getElem_cons h1
theorem index_eq (s m : List UInt8) (hs : s.length ≤ 2147483647) (hm : m.length ≤ 2147483647) : ∃ r : Int, m_goquery_zzIndex (s, m) = some r ∧ ((r = -1 ∧ ¬ Inf s m) ∨ ∃ a b, s = a ++ m ++ b ∧ r = (a.length : Int) ∧ 0 ≤ r) := by
  simp only [m_goquery_zzIndex]
  have key : ∀ n k, s.length + 1 - k = n → k ≤ s.length + 1 → (∀ a b, s = a ++ m ++ b → k ≤ a.length) → ∃ y, loopO m_goquery_zzIndex_0 (s, m, (k : Int)) = some y ∧ ((y = .inl () ∧ ¬ Inf s m) ∨ ∃ a b, s = a ++ m ++ b ∧ y = .inr (a.length : Int)) := by
    intro n
    induction n with
    | zero =>
      intro k hk h1 h2
      refine ⟨.inl (), loopO_out ?_, .inl ⟨rfl, fun ⟨a, b, e⟩ => ?_⟩⟩
      · simp only [m_goquery_zzIndex_0, cond_dec]
        rw [w64 (by omega) (by omega), if_neg (by omega)]
      · have := h2 a b e
        have hl := congrArg List.length e
        simp at hl
        omega
    | succ n ih =>
      intro k hk h1 h2
      have hw : IntKind.wrap .i64 ((k : Int) + (m.length : Int)) = ((k + m.length : Nat) : Int) := by rw [w64 (by omega) (by omega)]; omega
      by_cases hle : k + m.length ≤ s.length
      · have hsub : subL s (k : Int) (((k + m.length : Nat)) : Int) = some ((s.take (k + m.length)).drop k) := subL_n s (by omega) hle
        by_cases e : (s.take (k + m.length)).drop k = m
        · refine ⟨.inr (k : Int), loopO_out ?_, .inr ⟨s.take k, s.drop (k + m.length), ?_, by rw [List.length_take, Nat.min_eq_left (by omega)]⟩⟩
          · simp only [m_goquery_zzIndex_0, cond_dec]
            rw [hw, if_pos (by omega), hsub, bind_some, if_pos e]
          · have h3 : s.take (k + m.length) = s.take k ++ m := by
              conv => lhs; rw [← List.take_append_drop k (s.take (k + m.length))]
              rw [e, List.take_take, Nat.min_eq_left (by omega)]
            rw [← h3, List.take_append_drop]
        · have step : m_goquery_zzIndex_0 (s, m, (k : Int)) = some (.nx (s, m, ((k + 1 : Nat) : Int))) := by
            simp only [m_goquery_zzIndex_0, cond_dec]
            rw [hw, if_pos (by omega), hsub, bind_some, if_neg e, w64 (n := (k : Int) + 1) (by omega) (by omega)]
            rfl
          rw [loopO_nx step]
          refine ih (k + 1) (by omega) (by omega) fun a b he => ?_
          have := h2 a b he
          rcases Nat.lt_or_ge k a.length with h | h
          · exact h
          · have ha : a.length = k := by omega
            exfalso
            apply e
            rw [he, List.take_append_of_le_length (by simp; omega), List.take_of_length_le (by simp; omega), List.drop_append_of_le_length (by omega), List.drop_of_length_le (by omega)]
            rfl
      · refine ⟨.inl (), loopO_out ?_, .inl ⟨rfl, fun ⟨a, b, e⟩ => ?_⟩⟩
        · simp only [m_goquery_zzIndex_0, cond_dec]
          rw [hw, if_neg (by omega)]
        · have := h2 a b e
          have hl := congrArg List.length e
          simp at hl
          omega
  obtain ⟨y, hy, hq⟩ := key (s.length + 1) 0 (by omega) (by omega) (fun _ _ _ => Nat.zero_le _)
  rw [show loopO m_goquery_zzIndex_0 (s, m, (0 : Int)) = some y from hy, bind_some]
  rcases hq with ⟨rfl, h⟩ | ⟨a, b, h, rfl⟩
  · exact ⟨-1, rfl, .inl ⟨rfl, h⟩⟩
  · exact ⟨_, rfl, .inr ⟨a, b, h, rfl, by omega⟩⟩
theorem contains_eq (s m : List UInt8) (hs : s.length ≤ 2147483647) (hm : m.length ≤ 2147483647) : ∃ b, m_goquery_zzContains (s, m) = some b ∧ (b = true ↔ Inf s m) := by
  simp only [m_goquery_zzContains]
  obtain ⟨r, hr, h⟩ := index_eq s m hs hm
  rw [hr, bind_some]
  refine ⟨_, rfl, ?_⟩
  rw [decide_eq_true_eq]
  rcases h with ⟨rfl, h⟩ | ⟨a, b, h, rfl, h2⟩
  · exact ⟨fun h => by omega, fun h' => absurd h' h⟩
  · exact ⟨fun _ => ⟨a, b, h⟩, fun _ => h2⟩
def tr1 (c : UInt8) : UInt8 := if c.toNat = 9 ∨ c.toNat = 13 ∨ c.toNat = 10 then 32 else c
theorem byte32 : byteI (32 : Int) = some (32 : UInt8) := by decide
theorem classTrim_eq (s : List UInt8) (hs : s.length ≤ 2147483647) : m_goquery_zzClassTrim s = some (s.map tr1) := by
  simp only [m_goquery_zzClassTrim]
  have key : ∀ n k, s.length - k = n → k ≤ s.length → loopO m_goquery_zzClassTrim_0 ((s.take k).map tr1 ++ s.drop k, (), (s.length : Int), (k : Int)) = some (s.map tr1) := by
    intro n
    induction n with
    | zero =>
      intro k hk h1
      have : k = s.length := by omega
      subst this
      refine loopO_out ?_
      simp only [m_goquery_zzClassTrim_0, cond_dec]
      rw [if_neg (by omega)]
      simp
    | succ n ih =>
      intro k hk h1
      obtain ⟨c, hc⟩ := get_lt (l := s) (k := k) (by omega)
      have hget : ((s.take k).map tr1 ++ s.drop k)[k]? = some c := by
        rw [List.getElem?_append_right (by simp; omega), List.length_map, List.length_take, Nat.min_eq_left h1, Nat.sub_self, drop_cons hc]
        rfl
      have hset : ∀ x, ((s.take k).map tr1 ++ s.drop k).set k x = (s.take k).map tr1 ++ x :: s.drop (k + 1) := fun x => by
        rw [List.set_append_right _ _ (by simp; omega), List.length_map, List.length_take, Nat.min_eq_left h1, Nat.sub_self, drop_cons hc]
        rfl
      have htk : (s.take (k + 1)).map tr1 = (s.take k).map tr1 ++ [tr1 c] := by rw [List.take_add_one, hc]; simp
      have step : m_goquery_zzClassTrim_0 ((s.take k).map tr1 ++ s.drop k, (), (s.length : Int), (k : Int)) = some (.nx ((s.take (k + 1)).map tr1 ++ s.drop (k + 1), (), (s.length : Int), ((k + 1 : Nat) : Int))) := by
        simp only [m_goquery_zzClassTrim_0, cond_dec, atI_nat, Int.toNat_natCast, hget, bind_some, byte32, hset]
        rw [if_pos (by omega), w64 (by omega) (by omega), htk]
        have e1 : ((k : Int) + 1) = ((k + 1 : Nat) : Int) := by omega
        rw [e1]
        by_cases h9 : c.toNat = 9
        · rw [if_pos (by omega)]
          have : tr1 c = 32 := by simp [tr1, h9]
          rw [this]; simp
        · rw [if_neg (by omega)]
          by_cases h13 : c.toNat = 13
          · rw [if_pos (by omega)]
            have : tr1 c = 32 := by simp [tr1, h13]
            rw [this]; simp
          · rw [if_neg (by omega)]
            by_cases h10 : c.toNat = 10
            · rw [if_pos (by omega)]
              have : tr1 c = 32 := by simp [tr1, h10]
              rw [this]; simp
            · rw [if_neg (by omega)]
              have : tr1 c = c := by simp [tr1, h9, h13, h10]
              rw [this, drop_cons hc]; simp
      rw [loopO_nx step, ih (k + 1) (by omega) (by omega)]
  have h0 := key s.length 0 (by omega) (Nat.zero_le _)
  rw [List.take_zero, List.drop_zero, List.map_nil, List.nil_append] at h0
  rw [show loopO m_goquery_zzClassTrim_0 (s, (), (s.length : Int), (0 : Int)) = _ from h0, bind_some, castE_id]
  rfl
def wsp (c : UInt8) : Bool := decide (9 ≤ c.toNat ∧ c.toNat ≤ 13 ∨ c.toNat = 32)
theorem isSpace_lo {c : UInt8} (h : c.toNat < 128) : m_goquery_zzIsSpace ((c.toNat : Nat) : Int) = some (wsp c) := by
  have key : ∀ n : Fin 128, m_goquery_zzIsSpace ((n.val : Nat) : Int) = some (decide (9 ≤ n.val ∧ n.val ≤ 13 ∨ n.val = 32)) := by
    decide +kernel
  exact key ⟨c.toNat, h⟩
def NV (s : List UInt8) : Prop := ∀ c ∈ s, c.toNat < 128 ∧ c.toNat ≠ 11
theorem wsp_sp {c : UInt8} (h : c.toNat ≠ 11) : wsp c = isSp c := by
  rw [Bool.eq_iff_iff]
  simp only [wsp, isSp, Bool.or_eq_true, decide_eq_true_eq]
  omega
theorem dec8_at {s : List UInt8} {k : Nat} {c : UInt8} (hc : s[k]? = some c) (h : c.toNat < 128) : dec8 s k = (c.toNat, 1) := dec8_low hc h
theorem isSpace_nv {s : List UInt8} (hs : NV s) {k : Nat} {c : UInt8} (hc : s[k]? = some c) : m_goquery_zzIsSpace ((c.toNat : Nat) : Int) = some (isSp c) := by
  have h := hs c (List.mem_of_getElem? hc)
  rw [isSpace_lo h.1, wsp_sp h.2]
def allSp (s : List UInt8) : Prop := ∀ x ∈ s, isSp x = true
theorem trim_eq (s : List UInt8) (hl : s.length ≤ 2147483647) (hs : NV s) : ∃ t a b : List UInt8, m_goquery_zzTrimSpace s = some t ∧ s = a ++ t ++ b ∧ allSp a ∧ allSp b := by
  simp only [m_goquery_zzTrimSpace]
  have key : ∀ n (k fr to : Nat), s.length - k = n → k ≤ s.length → (fr = s.length ∧ to = 0 ∧ allSp (s.take k) ∨ fr < to ∧ to ≤ k ∧ allSp (s.take fr) ∧ allSp ((s.take k).drop to)) →
      ∃ fr' to' : Nat, loopO m_goquery_zzTrimSpace_0 (s, (fr : Int), (to : Int), s, k) = some (s, (fr' : Int), (to' : Int)) ∧ (fr' = s.length ∧ to' = 0 ∧ allSp s ∨ fr' < to' ∧ to' ≤ s.length ∧ allSp (s.take fr') ∧ allSp (s.drop to')) := by
    intro n
    induction n with
    | zero =>
      intro k fr to hk h1 h2
      have : k = s.length := by omega
      subst this
      rw [List.take_length] at h2
      refine ⟨fr, to, loopO_out ?_, h2⟩
      simp only [m_goquery_zzTrimSpace_0, cond_dec]
      rw [if_neg (by omega)]
    | succ n ih =>
      intro k fr to hk h1 h2
      obtain ⟨c, hc⟩ := get_lt (l := s) (k := k) (by omega)
      have hlo := (hs c (List.mem_of_getElem? hc)).1
      have htk : s.take (k + 1) = s.take k ++ [c] := by rw [List.take_add_one, hc]; simp
      cases hsp : isSp c with
      | true =>
        have step : m_goquery_zzTrimSpace_0 (s, (fr : Int), (to : Int), s, k) = some (.nx (s, (fr : Int), (to : Int), s, k + 1)) := by
          simp only [m_goquery_zzTrimSpace_0, cond_dec, dec8_at hc hlo, isSpace_nv hs hc, bind_some, hsp, Bool.not_true, cond_false]
          rw [if_pos (by omega)]
        rw [loopO_nx step]
        refine ih (k + 1) fr to (by omega) (by omega) ?_
        rw [htk]
        rcases h2 with ⟨a, b, h⟩ | ⟨a, b, h, h'⟩
        · exact .inl ⟨a, b, fun x hx => by
            rcases List.mem_append.1 hx with hx | hx
            · exact h x hx
            · rw [List.mem_singleton.1 hx]; exact hsp⟩
        · refine .inr ⟨a, by omega, h, fun x hx => ?_⟩
          rw [List.drop_append_of_le_length (by simp; omega)] at hx
          rcases List.mem_append.1 hx with hx | hx
          · exact h' x hx
          · rw [List.mem_singleton.1 hx]; exact hsp
      | false =>
        have inner : ∀ f : Int, loopO m_goquery_zzTrimSpace_0_0 (s, f, ((k + 1 : Nat) : Int), s, k + 1) = some (s, f, ((k + 1 : Nat) : Int), s, k + 1) := fun f => by
          refine loopO_out ?_
          simp only [m_goquery_zzTrimSpace_0_0, cond_dec, atI_nat]
          by_cases hlt : k + 1 < s.length
          · obtain ⟨d, hd⟩ := get_lt hlt
            have hdl := (hs d (List.mem_of_getElem? hd)).1
            rw [if_pos (by omega), hd, bind_some, if_neg (by omega)]
          · rw [if_neg (by omega)]
        have hfr : (if ((k : Nat) : Int) < (fr : Int) then ((k : Nat) : Int) else (fr : Int)) = ((min k fr : Nat) : Int) := by split <;> omega
        have step : m_goquery_zzTrimSpace_0 (s, (fr : Int), (to : Int), s, k) = some (.nx (s, ((min k fr : Nat) : Int), ((k + 1 : Nat) : Int), s, k + 1)) := by
          simp only [m_goquery_zzTrimSpace_0, cond_dec, dec8_at hc hlo, isSpace_nv hs hc, bind_some, hsp, Bool.not_false, cond_true, hfr]
          rw [if_pos (by omega), w64 (by omega) (by omega)]
          have e1 : ((k : Int) + 1) = ((k + 1 : Nat) : Int) := by omega
          rw [e1, inner, bind_some]
        rw [loopO_nx step]
        refine ih (k + 1) (min k fr) (k + 1) (by omega) (by omega) (.inr ⟨by omega, Nat.le_refl _, ?_, ?_⟩)
        · rcases h2 with ⟨a, b, h⟩ | ⟨a, b, h, h'⟩
          · rw [Nat.min_eq_left (by omega)]; exact h
          · rw [Nat.min_eq_right (by omega)]; exact h
        · rw [List.drop_of_length_le (by simp; omega)]
          intro x hx; cases hx
  obtain ⟨fr, to, hq, h2⟩ := key s.length 0 s.length 0 (by omega) (Nat.zero_le _) (.inl ⟨rfl, rfl, by intro x hx; simp at hx⟩)
  rw [show loopO m_goquery_zzTrimSpace_0 (s, (s.length : Int), (0 : Int), s, (0 : Nat)) = _ from hq, bind_some]
  simp only [cond_dec]
  rcases h2 with ⟨rfl, rfl, h⟩ | ⟨h1, h2, h3, h4⟩
  · rw [if_pos (by omega)]
    exact ⟨[], s, [], rfl, by rw [List.append_nil, List.append_nil], h, fun x hx => by cases hx⟩
  · rw [if_neg (by omega), subL_n s (by omega) h2, bind_some]
    refine ⟨_, s.take fr, s.drop to, rfl, ?_, h3, h4⟩
    have : s.take fr ++ (s.take to).drop fr = s.take to := by
      conv => rhs; rw [← List.take_append_drop fr (s.take to)]
      rw [List.take_take, Nat.min_eq_left (by omega)]
    rw [this, List.take_append_drop]
theorem trim_words {s t a b : List UInt8} (h : s = a ++ t ++ b) (ha : allSp a) (hb : allSp b) : wordsL s = wordsL t := by
  rw [h, List.append_assoc, wordsL_spF ha, wordsL_spB hb]
theorem fields_eq (s : List UInt8) (hl : s.length ≤ 2147483647) (hs : NV s) : m_goquery_zzFields s = some (wordsL s) := by
  simp only [m_goquery_zzFields]
  have key : ∀ n (k : Nat) (fr : Int) (out : List (List UInt8)), s.length - k = n → k ≤ s.length → out.length ≤ k → (fr = -1 ∨ ∃ f : Nat, fr = (f : Int) ∧ f < k ∧ ∀ c ∈ (s.take k).drop f, isSp c = false) →
      ∃ out' fr', loopO m_goquery_zzFields_0 (s, out, fr, s, k) = some (s, out', fr') ∧ out'.length ≤ s.length ∧ ((fr' = -1 ∧ out' = out ++ wordsL (s.drop (if fr < 0 then k else fr.toNat))) ∨ ∃ f : Nat, fr' = (f : Int) ∧ f < s.length ∧ out' ++ [s.drop f] = out ++ wordsL (s.drop (if fr < 0 then k else fr.toNat))) := by
    intro n
    induction n with
    | zero =>
      intro k fr out hk h1 ho h2
      have : k = s.length := by omega
      subst this
      refine ⟨out, fr, loopO_out ?_, ho, ?_⟩
      · simp only [m_goquery_zzFields_0, cond_dec]
        rw [if_neg (by omega)]
      · rcases h2 with rfl | ⟨f, rfl, hf, h⟩
        · left
          rw [if_pos (by decide), List.drop_length, wordsL_nil]
          simp
        · right
          refine ⟨f, rfl, hf, ?_⟩
          rw [if_neg (by omega), Int.toNat_natCast]
          rw [List.take_length] at h
          rw [wordsL_one (by intro e; have := congrArg List.length e; simp at this; omega) h]
    | succ n ih =>
      intro k fr out hk h1 ho h2
      obtain ⟨c, hc⟩ := get_lt (l := s) (k := k) (by omega)
      have hlo := (hs c (List.mem_of_getElem? hc)).1
      have htk : s.take (k + 1) = s.take k ++ [c] := by rw [List.take_add_one, hc]; simp
      have hdk := drop_cons hc
      cases hsp : isSp c with
      | true =>
        rcases h2 with rfl | ⟨f, rfl, hf, h⟩
        · have step : m_goquery_zzFields_0 (s, out, -1, s, k) = some (.nx (s, out, -1, s, k + 1)) := by
            simp only [m_goquery_zzFields_0, cond_dec, dec8_at hc hlo, isSpace_nv hs hc, bind_some, hsp, cond_true]
            rw [if_pos (by omega), if_neg (by decide)]
          obtain ⟨out', fr', g1, g2, g3⟩ := ih (k + 1) (-1) out (by omega) (by omega) (by omega) (.inl rfl)
          rw [loopO_nx step]
          rw [if_pos (by decide)] at g3 ⊢
          rw [hdk, wordsL_front hsp]
          exact ⟨out', fr', g1, g2, g3⟩
        · have hsub : subL s (f : Int) (k : Int) = some ((s.take k).drop f) := subL_n s (by omega) (by omega)
          have step : m_goquery_zzFields_0 (s, out, (f : Int), s, k) = some (.nx (s, out ++ [(s.take k).drop f], -1, s, k + 1)) := by
            simp only [m_goquery_zzFields_0, cond_dec, dec8_at hc hlo, isSpace_nv hs hc, bind_some, hsp, cond_true]
            rw [if_pos (by omega), if_pos (by omega), hsub, bind_some, appL_some (by simp; omega), bind_some]
          obtain ⟨out', fr', g1, g2, g3⟩ := ih (k + 1) (-1) (out ++ [(s.take k).drop f]) (by omega) (by omega) (by simp; omega) (.inl rfl)
          rw [loopO_nx step]
          rw [if_pos (by decide)] at g3
          rw [if_neg (by omega), Int.toNat_natCast]
          have hsplit : s.drop f = (s.take k).drop f ++ c :: s.drop (k + 1) := by
            conv => lhs; rw [← List.take_append_drop k s]
            rw [List.drop_append_of_le_length (by simp; omega), hdk]
          have hne : (s.take k).drop f ≠ [] := by intro e; have := congrArg List.length e; simp at this; omega
          rw [hsplit, wordsL_app h hsp, if_neg hne]
          rw [List.append_assoc] at g3
          exact ⟨out', fr', g1, g2, g3⟩
      | false =>
        rcases h2 with rfl | ⟨f, rfl, hf, h⟩
        · have step : m_goquery_zzFields_0 (s, out, -1, s, k) = some (.nx (s, out, (k : Int), s, k + 1)) := by
            simp only [m_goquery_zzFields_0, cond_dec, dec8_at hc hlo, isSpace_nv hs hc, bind_some, hsp, cond_false]
            rw [if_pos (by omega), if_pos (by decide)]
          obtain ⟨out', fr', g1, g2, g3⟩ := ih (k + 1) (k : Int) out (by omega) (by omega) (by omega) (.inr ⟨k, rfl, by omega, fun d hd => by
            rw [htk, List.drop_append_of_le_length (by simp; omega), List.drop_of_length_le (by simp; omega)] at hd
            have : d = c := by simpa using hd
            rw [this]; exact hsp⟩)
          rw [loopO_nx step]
          rw [if_neg (by omega), Int.toNat_natCast] at g3
          rw [if_pos (by decide)]
          exact ⟨out', fr', g1, g2, g3⟩
        · have step : m_goquery_zzFields_0 (s, out, (f : Int), s, k) = some (.nx (s, out, (f : Int), s, k + 1)) := by
            simp only [m_goquery_zzFields_0, cond_dec, dec8_at hc hlo, isSpace_nv hs hc, bind_some, hsp, cond_false]
            rw [if_pos (by omega), if_neg (by omega)]
          obtain ⟨out', fr', g1, g2, g3⟩ := ih (k + 1) (f : Int) out (by omega) (by omega) (by omega) (.inr ⟨f, rfl, by omega, fun d hd => by
            rw [htk, List.drop_append_of_le_length (by simp; omega)] at hd
            rcases List.mem_append.1 hd with hd | hd
            · exact h d hd
            · rw [List.mem_singleton.1 hd]; exact hsp⟩)
          rw [loopO_nx step]
          exact ⟨out', fr', g1, g2, g3⟩
  obtain ⟨out', fr', g1, g2, g3⟩ := key s.length 0 (-1) [] (by omega) (Nat.zero_le _) (Nat.zero_le _) (.inl rfl)
  rw [show loopO m_goquery_zzFields_0 (s, [], (-1 : Int), s, (0 : Nat)) = _ from g1, bind_some]
  rw [if_pos (by decide), List.drop_zero, List.nil_append] at g3
  simp only [cond_dec]
  rcases g3 with ⟨rfl, rfl⟩ | ⟨f, rfl, hf, h⟩
  · rw [if_neg (by decide)]
  · rw [if_pos (by omega), subL_n s (by omega) (Nat.le_refl _), bind_some, List.take_length, appL_some (by simp; omega), bind_some, h]
theorem replace_eq (s m : List UInt8) (hl : s.length ≤ 2147483647) (hm : m.length ≤ 2147483647) (h1 : ∀ a b, s = a ++ m ++ b → ¬ Inf b m) : (¬ Inf s m ∧ m_goquery_zzReplaceAll (s, m, [(32 : UInt8)]) = some s) ∨ ∃ a b : List UInt8, s = a ++ m ++ b ∧ m_goquery_zzReplaceAll (s, m, [(32 : UInt8)]) = some (a ++ 32 :: b) := by
  have last : ∀ (r out : List UInt8), r.length + out.length ≤ 2147483648 → r.length ≤ 2147483647 → ¬ Inf r m → loopO m_goquery_zzReplaceAll_0 (r, m, [(32 : UInt8)], out) = some (out ++ r) := fun r out hr hr2 hn => by
    refine loopO_out ?_
    obtain ⟨i, hi, h⟩ := index_eq r m hr2 hm
    simp only [m_goquery_zzReplaceAll_0, hi, bind_some, cond_dec]
    rcases h with ⟨rfl, _⟩ | ⟨a, b, h, _, _⟩
    · rw [if_pos (by decide), appL_some (by omega), bind_some, castE_id]
      rfl
    · exact absurd ⟨a, b, h⟩ hn
  obtain ⟨i, hi, h⟩ := index_eq s m hl hm
  simp only [m_goquery_zzReplaceAll]
  rcases h with ⟨rfl, hn⟩ | ⟨a, b, h, rfl, h0⟩
  · left
    refine ⟨hn, ?_⟩
    rw [last s [] (by simp; omega) hl hn]
    rfl
  · right
    refine ⟨a, b, h, ?_⟩
    have hlen := congrArg List.length h
    simp at hlen
    have s1 : subL s (0 : Int) (a.length : Int) = some a := by
      have := subL_n s (lo := 0) (hi := a.length) (Nat.zero_le _) (by omega)
      rw [show ((0 : Nat) : Int) = 0 from rfl] at this
      rw [this, List.drop_zero, h, List.append_assoc, List.take_left]
    have s2 : subL s (((a.length + m.length : Nat)) : Int) (s.length : Int) = some b := by
      rw [subL_n s (by omega) (Nat.le_refl _), List.take_length, h, List.drop_left' (by simp)]
    have step : m_goquery_zzReplaceAll_0 (s, m, [(32 : UInt8)], []) = some (.nx (b, m, [(32 : UInt8)], a ++ [32])) := by
      simp only [m_goquery_zzReplaceAll_0, hi, bind_some, cond_dec]
      rw [if_neg (by omega), s1, bind_some, appL_some (by simp; omega), bind_some, List.nil_append, appL_some (by simp; omega), bind_some, w64 (by omega) (by omega)]
      have e : ((a.length : Int) + (m.length : Int)) = ((a.length + m.length : Nat) : Int) := by omega
      rw [e, s2, bind_some]
    rw [loopO_nx step, last b (a ++ [32]) (by simp; omega) (by omega) (h1 a b h)]
    simp
end Go.Proofs.Ytcbmbmfenhoflaa.V
set_option linter.unusedVariables false
set_option linter.unusedSimpArgs false
namespace Go.Proofs.Ytcbmbmfenhoflaa.V
open Go Go.Proofs
end Go.Proofs.Ytcbmbmfenhoflaa.V
set_option linter.unusedVariables false
set_option linter.unusedSimpArgs false
namespace Go.Proofs.Ytcbmbmfenhoflaa.V
open Go K
set_option maxHeartbeats 2000000
set_option maxRecDepth 100000
def Sam (h : Array Obj) (G : Nat → Prop) (h' : Array Obj) : Prop := ∀ b, b < h.size → ¬ G b → h'[b]? = h[b]?
theorem at_drew {E : K.Env} {h : Array Obj} {w : World} (hw : At E h w) : At E h w.drew := hw
theorem at_freeze {E : K.Env} {h : Array Obj} {w : World} (hw : At E h w) (g n : Nat) : ∃ h', At E h' (w.freeze ⟨g, 0, none⟩ n) ∧ Sam h (· = g) h' := by
  unfold World.freeze
  split
  · exact ⟨h, hw, fun _ _ _ => rfl⟩
  · refine ⟨_, ⟨rfl, hw.2.1, hw.2.2.1, hw.2.2.2⟩, fun b _ hb => ?_⟩
    rw [← hw.1]
    simp only [Array.getElem?_modify]
    rw [if_neg (fun e => hb e.symm)]
theorem at_alloc {E : K.Env} {h : Array Obj} {w : World} (hw : At E h w) (o : Obj) : ∃ h', At E h' (w.alloc o) ∧ Sam h (fun _ => False) h' := by
  refine ⟨_, ⟨rfl, hw.2.1, hw.2.2.1, hw.2.2.2⟩, fun b hb _ => ?_⟩
  show (w.heap.push o)[b]? = _
  rw [hw.1, Array.getElem?_push, if_neg (by omega)]
theorem string_row {B g cap n : Nat} {p : Value} {cur : Array Value} {T0 : TypeId} {z0 z : Nat × Nat} {E : K.Env} {h : Array Obj} (w : World) (l : List UInt8) (hw : At E h w) (h0 : l ≠ []) (hn : n = l.length)
    (hb : h[B]? = some (.cells #[p, .slice (some ⟨g, 0, none⟩) n cap] T0 z0)) (hg : h[g]? = some (.cells cur 5 z)) (hc : n ≤ cap) (hcm : n ≤ 9223372036854775807) (hcs : cap ≤ cur.size) (hcell : ∀ (j : Nat) (x : UInt8), l[j]? = some x → cur[j]? = some (Value.int .u8 x.toNat)) :
    Calls Try.prog 52 #[.pointer (some ⟨B, 0, none⟩)] w fun e w' => e = .returned (bs l) ∧ ∃ h', At E h' w' ∧ Sam h (· = g) h' := by
  subst hn
  have hl0 : l.length ≠ 0 := by simpa using h0
  have hbk : w.heap[B]? = some (.cells #[p, .slice (some ⟨g, 0, none⟩) l.length cap] T0 z0) := by rw [hw.1]; exact hb
  have hgk : w.heap[g]? = some (.cells cur 5 z) := by rw [hw.1]; exact hg
  have c1 : w.drew.cell? ⟨B, 1, none⟩ = some (.slice (some ⟨g, 0, none⟩) l.length cap) := by
    have : w.drew.heap[B]? = some (.cells #[p, .slice (some ⟨g, 0, none⟩) l.length cap] T0 z0) := hbk
    rw [Lib.cell_of_heap this]; rfl
  have hSD : (Builtin.unsafeSliceData_ #[69] 108 #[.slice (some ⟨g, 0, none⟩) l.length cap]).run Try.prog w.drew = .ok (.pointer (some ⟨g, 0, none⟩)) w.drew :=
    Lib.run_unsafeSliceData_row _ _ _ _ _ _ (by omega)
  have hUS : (Builtin.unsafeString_ #[108, 3] 9 #[.pointer (some ⟨g, 0, none⟩), .int .i64 l.length]).run Try.prog w.drew = .ok (.string ⟨l.toArray⟩) (w.drew.freeze ⟨g, 0, none⟩ l.length) := by
    refine Lib.run_unsafeString_row w.drew 108 3 9 5 Try.underlying108 (by kernel_rfl) g cur.size (by have hg' : w.drew.heap[g]? = some (.cells cur 5 z) := hgk; simp [World.shape?, hg']) l h0 (by omega) (by omega) ?_
    intro j x hx
    have hg' : w.drew.heap[g]? = some (.cells cur 5 z) := hgk
    have e : ((⟨g, 0, none⟩ : Addr).add j) = ⟨g, j, none⟩ ∨ j = 0 := by
      unfold Addr.add
      by_cases hj : j = 0
      · exact .inr hj
      · left; simp [hj]
    have := hcell j x hx
    rcases e with e | rfl
    · rw [e, Lib.cell_of_heap hg']; exact this
    · have e0 : ((⟨g, 0, none⟩ : Addr).add 0) = ⟨g, 0, none⟩ := rfl
      rw [e0, Lib.cell_of_heap hg']; exact this
  go_enter Try.func52, Try.ntmps52
  go_wp2
  go_region
  all_goals (go_wp2; go_ret; exact ⟨rfl, at_freeze (at_drew hw) g l.length⟩)
theorem string_no {B cap : Nat} {q : Option Addr} {p : Value} {T0 : TypeId} {z0 : Nat × Nat} {E : K.Env} {h : Array Obj} (w : World) (hw : At E h w)
    (hb : h[B]? = some (.cells #[p, .slice q 0 cap] T0 z0)) (v : Option Addr) (hSD : (Builtin.unsafeSliceData_ #[69] 108 #[.slice q 0 cap]).run Try.prog w.drew = .ok (.pointer v) w.drew) :
    Calls Try.prog 52 #[.pointer (some ⟨B, 0, none⟩)] w fun e w' => e = .returned (bs []) ∧ ∃ h', At E h' w' ∧ Sam h (fun _ => False) h' := by
  have hbk : w.heap[B]? = some (.cells #[p, .slice q 0 cap] T0 z0) := by rw [hw.1]; exact hb
  have c1 : w.drew.cell? ⟨B, 1, none⟩ = some (.slice q 0 cap) := by
    have : w.drew.heap[B]? = some (.cells #[p, .slice q 0 cap] T0 z0) := hbk
    rw [Lib.cell_of_heap this]; rfl
  have hUS := fun (W : World) (q : Option Addr) => Lib.run_unsafeString_none (P := Try.prog) W 108 3 9 q
  go_enter Try.func52, Try.ntmps52
  go_wp2
  go_region
  all_goals (go_wp2; go_ret; exact ⟨rfl, h, at_drew hw, fun _ _ _ => rfl⟩)
theorem string_zero {B g : Nat} {p : Value} {cur : Array Value} {T0 : TypeId} {z0 z : Nat × Nat} {E : K.Env} {h : Array Obj} (w : World) (hw : At E h w)
    (hb : h[B]? = some (.cells #[p, .slice (some ⟨g, 0, none⟩) 0 0] T0 z0)) (hg : h[g]? = some (.cells cur 5 z)) :
    Calls Try.prog 52 #[.pointer (some ⟨B, 0, none⟩)] w fun e w' => e = .returned (bs []) ∧ ∃ h', At E h' w' ∧ Sam h (fun _ => False) h' := by
  have hbk : w.heap[B]? = some (.cells #[p, .slice (some ⟨g, 0, none⟩) 0 0] T0 z0) := by rw [hw.1]; exact hb
  have hgk : w.heap[g]? = some (.cells cur 5 z) := by rw [hw.1]; exact hg
  have hlt : B < w.heap.size := (Array.getElem?_eq_some_iff.1 hbk).1
  have hUS := fun (W : World) (q : Option Addr) => Lib.run_unsafeString_none (P := Try.prog) W 108 3 9 q
  have c1 : w.drew.cell? ⟨B, 1, none⟩ = some (.slice (some ⟨g, 0, none⟩) 0 0) := by
    have : w.drew.heap[B]? = some (.cells #[p, .slice (some ⟨g, 0, none⟩) 0 0] T0 z0) := hbk
    rw [Lib.cell_of_heap this]; rfl
  have hSD : (Builtin.unsafeSliceData_ #[69] 108 #[.slice (some ⟨g, 0, none⟩) 0 0]).run Try.prog w.drew = .ok (.pointer (some ⟨w.drew.heap.size, 0, none⟩)) (w.drew.alloc (.view ⟨g, 0, none⟩ 5)) :=
    Lib.run_unsafeSliceData_zero w.drew _ _ 5 Try.underlying108 ⟨g, 0, none⟩ 0 (5, cur.size) (by have hg' : w.drew.heap[g]? = some (.cells cur 5 z) := hgk; simp [World.shape?, hg'])
  have c2 : (w.drew.alloc (.view ⟨g, 0, none⟩ 5)).cell? ⟨B, 1, none⟩ = some (.slice (some ⟨g, 0, none⟩) 0 0) := by
    have : (w.drew.alloc (.view ⟨g, 0, none⟩ 5)).heap[B]? = _ := (Lib.alloc_old w.drew _ B hlt).trans hbk
    rw [Lib.cell_of_heap this]; rfl
  have c3 : (w.alloc (.view ⟨g, 0, none⟩ 5)).drew.cell? ⟨B, 1, none⟩ = some (.slice (some ⟨g, 0, none⟩) 0 0) := c2
  have c0 : w.cell? ⟨B, 1, none⟩ = some (.slice (some ⟨g, 0, none⟩) 0 0) := c1
  go_enter Try.func52, Try.ntmps52
  go_wp2
  go_region
  all_goals (go_wp2; go_ret; exact ⟨rfl, at_alloc (at_drew hw) _⟩)
theorem check_used {B : Nat} {c1 : Value} {T0 : TypeId} {z0 : Nat × Nat} {E : K.Env} {h : Array Obj} (w : World) (hw : At E h w)
    (hb : h[B]? = some (.cells #[.pointer (some ⟨B, 0, none⟩), c1] T0 z0)) :
    Calls Try.prog 86 #[.pointer (some ⟨B, 0, none⟩)] w fun e w' => e = .returned (.tuple #[]) ∧ w' = w := by
  have hbk : w.heap[B]? = some (.cells #[.pointer (some ⟨B, 0, none⟩), c1] T0 z0) := by rw [hw.1]; exact hb
  have h0 : w.cell? ⟨B, 0, none⟩ = some (.pointer (some ⟨B, 0, none⟩)) := by rw [Lib.cell_of_heap hbk]; rfl
  obtain ⟨j, hj, hjs⟩ : ∃ j, Try.prog.info? 71 = some j ∧ j.size = 2 := Option.map_eq_some_iff.1 (by kernel_rfl : (Try.prog.info? 71).map (·.size) = some 2)
  go_enter Try.func86, Try.ntmps86
  go_wp2
  rw [Lib.run_neq_ptr_same w _ Try.underlying68 hj]
  go_wp2
  go_end0
  exact ⟨rfl, rfl⟩
theorem check_new {B : Nat} {c1 : Value} {E : K.Env} {h : Array Obj} (w : World) (hw : At E h w)
    {z0 : Nat × Nat} (hb : h[B]? = some (.cells #[.pointer none, c1] 71 z0)) (hz : ¬ (z0.1 ≤ 0 ∧ 0 < z0.2)) :
    Calls Try.prog 86 #[.pointer (some ⟨B, 0, none⟩)] w fun e w' => e = .returned (.tuple #[]) ∧ w' = w.setCell ⟨B, 0, none⟩ (.pointer (some ⟨B, 0, none⟩)) := by
  have hbk : w.heap[B]? = some (.cells #[.pointer none, c1] 71 z0) := by rw [hw.1]; exact hb
  have h0 : w.cell? ⟨B, 0, none⟩ = some (.pointer none) := by rw [Lib.cell_of_heap hbk]; rfl
  have hsh : w.shape? B = some (71, 2) := by simp [World.shape?, hbk]
  have hfz : w.frozen? ⟨B, 0, none⟩ = false := by
    simp only [World.frozen?, hbk]
    cases hq : (decide (z0.1 ≤ 0) && decide (0 < z0.2)) with
    | false => rfl
    | true => exact absurd (by simpa using hq) hz
  obtain ⟨j, hj, hjs⟩ : ∃ j, Try.prog.info? 71 = some j ∧ j.size = 2 := Option.map_eq_some_iff.1 (by kernel_rfl : (Try.prog.info? 71).map (·.size) = some 2)
  go_enter Try.func86, Try.ntmps86
  go_wp2
  rw [Lib.run_to_unsafe w ⟨B, 0, none⟩ Try.underlying68 Try.underlying123 hj (by rw [hjs]; decide) hsh (Nat.zero_lt_succ 1)]
  simp only [Result.andThen]
  rw [Oper.upon_value]
  go_wp2
  rw [run_callFunc_extern Try.func90 (by kernel_rfl) (by kernel_rfl) (by kernel_rfl) (e := Extern.AbiNoEscape.same) (by kernel_rfl)]
  rw [Lib.run_noEscape]
  simp only [Result.andThen]
  rw [Oper.upon_value]
  go_wp2
  rw [Lib.run_from_unsafe w ⟨B, 0, none⟩ Try.underlying123 Try.underlying68 hj hsh (by kernel_rfl)]
  simp only [Result.andThen]
  rw [Oper.upon_value]
  go_wp2
  go_end0
  exact ⟨rfl, rfl⟩
abbrev p_strings_Builder_copyCheck : Pt := [(0, .blkx 71 [.self, .own]), (2000000001, .hown 0 1 .u8 5)]
abbrev q_strings_Builder_copyCheck : Pt := [(1000, .blkx 71 [.self, .own]), (2000064001, .hown 1000 1 .u8 5)]
noncomputable def m_strings_Builder_copyCheck : Tup p_strings_Builder_copyCheck → Option (Tup q_strings_Builder_copyCheck) := fun (x : (Bool × Unit) × List UInt8) => some ((true, ()), x.2)
noncomputable def e_strings_Builder_copyCheck : Ent := ⟨1, p_strings_Builder_copyCheck, q_strings_Builder_copyCheck, m_strings_Builder_copyCheck⟩
theorem at_set {E : K.Env} {h : Array Obj} {w : World} {B : Nat} {c0 c1 v : Value} {T : TypeId} {z : Nat × Nat} (hw : At E h w) (hb : h[B]? = some (.cells #[c0, c1] T z)) : ∃ h', At E h' (w.setCell ⟨B, 0, none⟩ v) ∧ (∀ b, b ≠ B → h'[b]? = h[b]?) ∧ h'[B]? = some (.cells #[v, c1] T z) := by
  refine ⟨_, ⟨rfl, hw.2.1, hw.2.2.1, hw.2.2.2⟩, fun b hbB => ?_, ?_⟩
  · rw [← hw.1]
    simp only [World.setCell, Array.getElem?_modify]
    rw [if_neg (fun e => hbB e.symm)]
  · rw [← hw.1] at hb
    simp only [World.setCell, Array.getElem?_modify, hb]
    simp
theorem build_inv {F : Frz} {ι : Gh} {b : Bool} {v : Value} {T : TypeId} (h : M1 F ι 0 (.blkx T [.self, .own]) ((b, ()) : Bool × Unit) v) : ∃ B c1, (ι 0).1 = .pointer (some ⟨B, 0, none⟩) ∧ v = .pointer (some ⟨B, 0, none⟩) ∧ c1 = (ι 2000000001).1 ∧ (ι 0).2 = [(B, [if b then .pointer (some ⟨B, 0, none⟩) else .pointer none, c1], BT.c T)] := by
  obtain ⟨⟨B, g1, g2⟩, hO⟩ := h
  obtain ⟨B', cs, a1, a2, a3⟩ := hO (0, .cells T [.opb 0 b, .own (subT 0 1)]) (by simp [mk1, fxEnc, FX.enc])
  rw [g1] at a1
  cases a1
  cases a3 with
  | cons h0 t =>
    cases t with
    | cons h1 t =>
      cases t
      obtain ⟨B2, k1, k2⟩ := h0
      rw [g1] at k1
      cases k1
      subst k2
      exact ⟨B, _, g1, g2, h1, a2⟩
theorem ok_strings_Builder_copyCheck : FnOK Try.prog 86 e_strings_Builder_copyCheck := by
  intro x r hr F ι h L0 vargs hlen hM hH
  obtain ⟨⟨b, ⟨⟩⟩, xs⟩ := x
  have hr : some (((true, ()), xs) : (Bool × Unit) × List UInt8) = some r := hr
  obtain rfl := Option.some.inj hr
  obtain ⟨h1, h2⟩ := hM
  obtain ⟨B, c1, g1, g2, g3, g4⟩ := build_inv (b := b) h1
  have hv : vargs = [.pointer (some ⟨B, 0, none⟩)] := by
    match vargs, hlen, g2 with
    | [v], _, g2 => exact congrArg (fun y => [y]) g2
  subst hv
  have hH : Hp h F ((ι 0).2 ++ ((ι 2000000001).2 ++ [] ++ L0)) := by
    have := hH
    simp only [lv, e_strings_Builder_copyCheck, mkOw, mk1, List.flatMap_append, List.flatMap_cons, List.flatMap_nil, List.append_nil, List.append_assoc] at this
    simpa using this
  rw [g4] at hH
  obtain ⟨fz, hz, hb⟩ := hH.own _ (List.mem_append_left _ (List.mem_singleton.2 rfl))
  have key : ∀ (c0 : Value), c0 = .pointer (some ⟨B, 0, none⟩) → ∀ h', Hp h' F ((B, [c0, c1], BT.c 71) :: ((ι 2000000001).2 ++ [] ++ L0)) → Res F ι e_strings_Builder_copyCheck (((true, ()), xs) : (Bool × Unit) × List UInt8) L0 (.tuple #[]) h' := by
    intro c0 hc0 h' hH'
    refine ⟨F, fun k => if k = 1000 then (.pointer (some ⟨B, 0, none⟩), [(B, [c0, c1], BT.c 71)]) else if k = 2000064001 then ι 2000000001 else ι k, [], .refl F, fun _ => rfl, rfl, ⟨⟨⟨B, rfl, ?_⟩, fun q hq => ?_⟩, ⟨trivial, fun q hq => ?_⟩⟩, rfl, ?_, ?_⟩
    · exact g1
    · simp only [mk1, List.mem_singleton] at hq
      subst hq
      refine ⟨B, [c0, c1], rfl, rfl, .cons ⟨B, rfl, hc0⟩ (.cons ?_ .nil)⟩
      exact g3
    · obtain ⟨_, h4⟩ := h2
      obtain ⟨q', n, cp, rows, k1, k2, k3⟩ := h4 (2000000001, .rows .u8 5 xs) (by simp [mk1])
      simp only [mk1, List.mem_singleton] at hq
      subst hq
      exact ⟨q', n, cp, rows, k1, k2, k3⟩
    · simp only [lv, e_strings_Builder_copyCheck, mkOw, mk1, List.flatMap_append, List.flatMap_cons, List.flatMap_nil, List.append_nil, List.append_assoc]
      simpa using hH'
    · intro k hk h5 h6 h7
      have hk : k = 1000 ∨ k = 2000064001 := by simpa [e_strings_Builder_copyCheck] using hk
      rcases hk with rfl | rfl
      · exact g1.symm
      · exact absurd h7 (by decide)
  refine ⟨fun E w hw => ?_⟩
  cases b with
  | true =>
    refine (check_used w hw (c1 := c1) (by simpa using hb)).mono ?_
    rintro e w' ⟨rfl, rfl⟩
    exact ⟨_, rfl, h, hw, key _ rfl h (by simpa using hH)⟩
  | false =>
    have hb' : h[B]? = some (.cells #[.pointer none, c1] 71 fz) := by simpa using hb
    refine (check_new w hw hb' (hz 0 (by simp))).mono ?_
    rintro e w' ⟨rfl, rfl⟩
    obtain ⟨h', k1, k2, k3⟩ := at_set (v := .pointer (some ⟨B, 0, none⟩)) hw hb'
    refine ⟨_, rfl, h', k1, key _ rfl h' ?_⟩
    exact hH.put (j := 0) (cs' := [.pointer (some ⟨B, 0, none⟩), c1]) rfl k2 (by simpa using hb') hz k3
abbrev p_strings_Builder_String : Pt := [(0, .blkx 71 [.self, .own]), (2000000001, .hown 0 1 .u8 5)]
abbrev q_strings_Builder_String : Pt := [(0, .str)]
noncomputable def m_strings_Builder_String : Tup p_strings_Builder_String → Option (Tup q_strings_Builder_String) := fun (x : (Bool × Unit) × List UInt8) => bif Nat.ble x.2.length 2147483648 then some x.2 else none
noncomputable def e_strings_Builder_String : Ent := ⟨0, p_strings_Builder_String, q_strings_Builder_String, m_strings_Builder_String⟩
theorem Hp.sam {h h' : Array Obj} {F : Frz} {L L1 : List Blk} {G : Nat → Prop} (hm : Hp h F (L1 ++ L)) (hs : Sam h G h') (hG : ∀ b, G b → F.m b = none ∧ (∀ p ∈ L, p.1 ≠ b) ∧ ¬ F.lv b) : Hp h' F L := by
  have hm2 : Hp h F L := hm.sub (List.sublist_append_right _ _)
  refine ⟨fun b o hb => ?_, fun p hp => ?_, hm2.sep, hm2.nodup, fun b hb => ?_⟩
  · have h1 := hm.frz b o hb
    rw [hs b (hm.flt hb) (fun hg => by rw [(hG b hg).1] at hb; cases hb)]
    exact h1
  · rw [hs p.1 (hm2.lt hp) (fun hg => (hG _ hg).2.1 p hp rfl)]
    exact hm2.own p hp
  · obtain ⟨cs, T, h1, h2⟩ := hm.live b hb
    refine ⟨cs, T, ?_, h2⟩
    rw [hs b (Array.getElem?_eq_some_iff.1 h1).1 (fun hg => (hG b hg).2.2 hb)]
    exact h1
theorem rows_u8 {F : Frz} : ∀ {xs : List UInt8} {rows : List (List Value)}, F2 (fun (x : E.u8.T) r => Rd F (E.u8.enc x) r) xs rows → rows.flatten = xs.map byteV
  | _, _, .nil => rfl
  | x :: _, _, .cons h t => by
    have h : Rd F [.int .u8 (x.toNat : Int)] _ := h
    obtain ⟨v9, vs9, rfl, g1, g2⟩ := h.inv_cons
    cases g2
    rw [Rd.int_inv g1, List.flatten_cons, rows_u8 t]
    rfl
theorem ok_strings_Builder_String : FnOK Try.prog 52 e_strings_Builder_String := by
  intro x r hr F ι h L0 vargs hlen hM hH
  obtain ⟨⟨b, ⟨⟩⟩, xs⟩ := x
  have hr : (bif Nat.ble (List.length (α := UInt8) xs) 2147483648 then some xs else none : Option (List UInt8)) = some r := hr
  cases hle0 : Nat.ble (List.length (α := UInt8) xs) 2147483648 with
  | false => rw [hle0] at hr; cases hr
  | true =>
  rw [hle0] at hr
  rw [Nat.ble_eq] at hle0
  obtain rfl := Option.some.inj hr
  obtain ⟨h1, h2⟩ := hM
  obtain ⟨B, c1, g1, g2, g3, g4⟩ := build_inv (b := b) h1
  have hv : vargs = [.pointer (some ⟨B, 0, none⟩)] := by
    match vargs, hlen, g2 with
    | [v], _, g2 => exact congrArg (fun y => [y]) g2
  subst hv
  have hH : Hp h F ((ι 0).2 ++ ((ι 2000000001).2 ++ [] ++ L0)) := by
    have := hH
    simp only [lv, e_strings_Builder_String, mkOw, mk1, List.flatMap_append, List.flatMap_cons, List.flatMap_nil, List.append_nil, List.append_assoc] at this
    simpa using this
  rw [g4] at hH
  obtain ⟨fz, hz, hb⟩ := hH.own _ (List.mem_append_left _ (List.mem_singleton.2 rfl))
  obtain ⟨_, h4⟩ := h2
  obtain ⟨q', n, cp, rows, k1, k2, k3⟩ := h4 (2000000001, .rows .u8 5 xs) (by simp [mk1])
  have k1 : (ι 2000000001).1 = .slice q' n cp := k1
  have hfl := rows_u8 k3
  have hn : n = xs.length := by rw [k2.len, ← forall2_len k3]
  rw [k1] at g3
  subst g3
  have hb : h[B]? = some (.cells #[if b then .pointer (some ⟨B, 0, none⟩) else .pointer none, .slice q' n cp] 71 fz) := hb
  have key : ∀ h', Hp h' F L0 → Res F ι e_strings_Builder_String (xs : List UInt8) L0 (bs xs) h' := fun h' hH' =>
    ⟨F, ι, [bs xs], .refl F, fun _ => rfl, rfl, ⟨.str .nil, fun q hq => by simp [mk1] at hq⟩, rfl, by simpa [lv, e_strings_Builder_String, mkOw, mk1] using hH', fun k hk h5 _ _ => by
      have hk : k = 0 := by simpa [e_strings_Builder_String] using hk
      omega⟩
  have hHs : Hp h F L0 := hH.sub (by rw [List.append_nil, ← List.append_assoc]; exact List.sublist_append_right _ _)
  refine ⟨fun E w hw => ?_⟩
  rcases k2.sh with ⟨he, hL, hv⟩ | ⟨g, n', cap, spare, he, hL, hn', hc, hle⟩
  · cases he
    obtain rfl : xs = [] := List.length_eq_zero_iff.1 hn.symm
    refine (string_no w hw hb none rfl).mono ?_
    rintro e w' ⟨rfl, h', hA, hs⟩
    exact ⟨_, rfl, h', hA, key h' ((show Hp h F ([] ++ L0) from hHs).sam hs fun b hb => hb.elim)⟩
  · cases he
    have hL : (ι 2000000001).2 = [(g, rows.flatten ++ spare, BT.c 5)] := hL
    rw [hL] at hH
    have hHg : Hp h F ((g, rows.flatten ++ spare, BT.c 5) :: L0) := hH.sub (by simp)
    obtain ⟨z, hz', hg⟩ := hHg.own _ (List.mem_cons_self ..)
    have hg : h[g]? = some (.cells (rows.flatten ++ spare).toArray 5 z) := hg
    by_cases h0 : xs = []
    · subst h0
      obtain rfl : n = 0 := hn
      by_cases hc0 : cp = 0
      · subst hc0
        refine (string_zero w hw hb hg).mono ?_
        rintro e w' ⟨rfl, h', hA, hs⟩
        exact ⟨_, rfl, h', hA, key h' ((show Hp h F ([] ++ L0) from hHs).sam hs fun b hb => hb.elim)⟩
      · refine (string_no w hw hb _ (Lib.run_unsafeSliceData_row _ _ _ _ _ _ hc0)).mono ?_
        rintro e w' ⟨rfl, h', hA, hs⟩
        exact ⟨_, rfl, h', hA, key h' ((show Hp h F ([] ++ L0) from hHs).sam hs fun b hb => hb.elim)⟩
    · refine (string_row w xs hw h0 hn hb hg hle (by have : n = List.length (α := UInt8) xs := hn; omega) (by rw [List.size_toArray, List.length_append]; have hc : cp * 1 = rows.flatten.length + spare.length := hc; omega) fun j x hx => ?_).mono ?_
      · rw [hfl]
        have hj := (List.getElem?_eq_some_iff.1 hx).1
        rw [List.getElem?_toArray, List.getElem?_append_left (by simpa using hj), List.getElem?_map, hx]
        rfl
      · rintro e w' ⟨rfl, h', hA, hs⟩
        refine ⟨_, rfl, h', hA, key h' ((show Hp h F ([_] ++ L0) from hHg).sam hs fun b hb => ?_)⟩
        subst hb
        refine ⟨hHg.sep _ (List.mem_cons_self ..), fun p hp e => ?_, fun hlv => ?_⟩
        · have := hHg.nodup
          rw [List.map_cons, List.nodup_cons] at this
          exact this.1 (List.mem_map.2 ⟨p, hp, e⟩)
        · obtain ⟨cs, T, l1, l2⟩ := hHg.live _ hlv
          rw [hg] at l1
          cases l1
          exact l2 rfl
end Go.Proofs.Ytcbmbmfenhoflaa.V
set_option linter.unusedVariables false
set_option linter.unusedSimpArgs false
namespace Go.Proofs.Ytcbmbmfenhoflaa.V
open Go K
set_option maxHeartbeats 2000000
set_option maxRecDepth 1000000
theorem at_set1 {E : K.Env} {h : Array Obj} {w : World} {B : Nat} {c0 c1 v : Value} {T : TypeId} {z : Nat × Nat} (hw : At E h w) (hb : h[B]? = some (.cells #[c0, c1] T z)) : ∃ h', At E h' (w.setCell ⟨B, 1, none⟩ v) ∧ (∀ b, b ≠ B → h'[b]? = h[b]?) ∧ h'[B]? = some (.cells #[c0, v] T z) ∧ h'.size = h.size := by
  refine ⟨_, ⟨rfl, hw.2.1, hw.2.2.1, hw.2.2.2⟩, fun b hbB => ?_, ?_, ?_⟩
  · rw [← hw.1]
    simp only [World.setCell, Array.getElem?_modify]
    rw [if_neg (fun e => hbB e.symm)]
  · rw [← hw.1] at hb
    simp only [World.setCell, Array.getElem?_modify, hb]
    simp
  · rw [← hw.1]
    simp [World.setCell]
theorem at_push {E : K.Env} {h : Array Obj} {w : World} (hw : At E h w) (o : Obj) : At E (h.push o) (w.alloc o) := by
  refine ⟨?_, hw.2.1, hw.2.2.1, hw.2.2.2⟩
  show w.heap.push o = _
  rw [hw.1]
def Grown (h : Array Obj) (B : Nat) (T0 : TypeId) (z : Nat × Nat) (h' : Array Obj) : Prop :=
  ∃ cs : Array Value, h'[B]? = some (.cells #[.pointer (some ⟨B, 0, none⟩), .slice (some ⟨h.size, 0, none⟩) 0 cs.size] T0 z) ∧ h'[h.size]? = some (.cells cs 5 (0, 0)) ∧ ∀ b, b ≠ B → b < h.size → h'[b]? = h[b]?
theorem grow_new {B n : Nat} {T0 : TypeId} {z : Nat × Nat} {E : K.Env} {h : Array Obj} (w : World) (hw : At E h w) (hb : h[B]? = some (.cells #[.pointer (some ⟨B, 0, none⟩), .slice none 0 0] T0 z)) (hz : ¬ (z.1 ≤ 1 ∧ 1 < z.2)) (hn : n ≤ 281474976710656) :
    Calls Try.prog 87 #[.pointer (some ⟨B, 0, none⟩), .int .i64 n] w fun e w' => e = .returned (.tuple #[]) ∧ ∃ h', At E h' w' ∧ Grown h B T0 z h' := by
  have hbk : w.heap[B]? = some (.cells #[.pointer (some ⟨B, 0, none⟩), .slice none 0 0] T0 z) := by rw [hw.1]; exact hb
  have hlt : B < w.heap.size := (Array.getElem?_eq_some_iff.1 hbk).1
  obtain ⟨cs, hrun, hle, _⟩ := Lib.run_makeNoZero (P := Try.prog) w.drew #[3] 69 5 Try.underlying69 n hn
  have hw9 : IntKind.i64.wrap (IntKind.i64.wrap 0 + (n : Int)) = n := by
    rw [IntKind.wrap_i64, IntKind.wrap_i64]
    omega
  have hcall : (callFunc 91 #[.int .i64 (IntKind.i64.wrap (IntKind.i64.wrap 0 + (n : Int)))]).run Try.prog w.drew = .ok (.value (.slice (some ⟨w.drew.heap.size, 0, none⟩) n cs.size)) (w.drew.drew.drew.alloc (.cells cs 5)) := by
    rw [hw9, run_callFunc_extern Try.func91 (by kernel_rfl) (by kernel_rfl) (by kernel_rfl) (e := Extern.BytealgMakeNoZero.makeNoZero #[3] #[69]) (by kernel_rfl), hrun]
    rfl
  have c1 : w.drew.cell? ⟨B, 1, none⟩ = some (.slice none 0 0) := by
    have : w.drew.heap[B]? = _ := hbk
    rw [Lib.cell_of_heap this]; rfl
  have hb2 : (w.alloc (.cells cs 5)).heap[B]? = _ := (Lib.alloc_old w _ B hlt).trans hbk
  have c2 : (w.alloc (.cells cs 5)).cell? ⟨B, 1, none⟩ = some (.slice none 0 0) := by rw [Lib.cell_of_heap hb2]; rfl
  have f2 : (w.alloc (.cells cs 5)).frozen? ⟨B, 1, none⟩ = false := by
    simp only [World.frozen?, hb2]
    cases hq : (decide (z.1 ≤ 1) && decide (1 < z.2)) with
    | false => rfl
    | true => exact absurd (by simpa using hq) hz
  have hcopy : ∀ W : World, (Builtin.copy_ #[69, 69] 3 #[.slice (some ⟨w.heap.size, 0, none⟩) 0 cs.size, .slice none 0 0]).run Try.prog W = .ok (goInt 0) W :=
    fun W => run_copy_none W 69 69 3 5 _ _ 0 cs.size 0 0 Try.underlying69 (by kernel_rfl) rfl
  clear hw9
  have hfin : ∃ h', At E h' ((w.setCell ⟨B, 1, none⟩ (.slice (some ⟨w.heap.size, 0, none⟩) 0 cs.size)).alloc (.cells cs 5)).drew.drew.drew ∧ Grown h B T0 z h' := by
    have hB : B < h.size := by rw [← hw.1]; exact hlt
    obtain ⟨h1, k1, k2, k3, k4⟩ := at_set1 (v := .slice (some ⟨w.heap.size, 0, none⟩) 0 cs.size) hw hb
    refine ⟨_, at_drew (at_drew (at_drew (at_push k1 (.cells cs 5 (0, 0))))), cs, ?_, ?_, fun b hbB hbl => ?_⟩
    · rw [Array.getElem?_push, if_neg (by omega), k3, hw.1]
    · rw [← k4]; simp
    · rw [Array.getElem?_push, if_neg (by omega)]; exact k2 b hbB
  go_enter Try.func87, Try.ntmps87
  go_wp2
  go_region
  all_goals (go_wp2; go_end0; exact ⟨rfl, hfin⟩)
end Go.Proofs.Ytcbmbmfenhoflaa.V
set_option linter.unusedVariables false
set_option linter.unusedSimpArgs false
namespace Go.Proofs.Ytcbmbmfenhoflaa.V
open Go K
set_option maxHeartbeats 2000000
set_option maxRecDepth 1000000
theorem Grow_new {B n : Nat} {z : Nat × Nat} {E : K.Env} {h : Array Obj} (w : World) (hw : At E h w) (hb : h[B]? = some (.cells #[.pointer none, .slice none 0 0] 71 z)) (hz0 : ¬ (z.1 ≤ 0 ∧ 0 < z.2)) (hz : ¬ (z.1 ≤ 1 ∧ 1 < z.2)) (hn : n ≤ 281474976710656) :
    Calls Try.prog 75 #[.pointer (some ⟨B, 0, none⟩), .int .i64 n] w fun e w' => e = .returned (.tuple #[]) ∧ ∃ h1 h', At E h' w' ∧ (∀ b, b ≠ B → h1[b]? = h[b]?) ∧ h1.size = h.size ∧ h1[B]? = some (.cells #[.pointer (some ⟨B, 0, none⟩), .slice none 0 0] 71 z) ∧ (h' = h1 ∨ Grown h1 B 71 z h') := by
  obtain ⟨h1, a1, a2, a3⟩ := at_set (v := .pointer (some ⟨B, 0, none⟩)) hw hb
  have a4 : h1.size = h.size := by rw [← a1.1, ← hw.1]; simp [World.setCell]
  have hbk1 : (w.setCell ⟨B, 0, none⟩ (.pointer (some ⟨B, 0, none⟩))).heap[B]? = some (.cells #[.pointer (some ⟨B, 0, none⟩), .slice none 0 0] 71 z) := by rw [a1.1]; exact a3
  have c1 : (w.setCell ⟨B, 0, none⟩ (.pointer (some ⟨B, 0, none⟩))).cell? ⟨B, 1, none⟩ = some (.slice none 0 0) := by rw [Lib.cell_of_heap hbk1]; rfl
  have c1' : (w.setCell ⟨B, 0, none⟩ (.pointer (some ⟨B, 0, none⟩))).drew.cell? ⟨B, 1, none⟩ = some (.slice none 0 0) := c1
  go_enter Try.func75, Try.ntmps75
  go_wp2_with (go_at_call 86; refine (check_new w hw hb hz0).mono ?_; rintro e w' ⟨rfl, rfl⟩)
  go_region
  all_goals go_wp2_with (go_at_call 87; refine (grow_new _ (at_drew a1) a3 hz hn).mono ?_; rintro e w' ⟨rfl, h', b1, b2⟩)
  all_goals first
    | (go_end0; exact ⟨rfl, h1, h', b1, a2, a4, a3, .inr b2⟩)
    | (go_end0; exact ⟨rfl, h1, h1, at_drew a1, a2, a4, a3, .inl rfl⟩)
abbrev p_strings_Builder_Grow : Pt := [(0, .blkx 71 [.fl .pnil, .fl .nil]), (1, .int .i64)]
abbrev q_strings_Builder_Grow : Pt := [(1000, .blkx 71 [.self, .own]), (2000064001, .hown 1000 1 .u8 5)]
noncomputable def m_strings_Builder_Grow : Tup p_strings_Builder_Grow → Option (Tup q_strings_Builder_Grow) := fun (x : (Unit × Unit) × Int) => bif decide (0 ≤ x.2 ∧ x.2 ≤ 281474976710656) then some ((true, ()), []) else none
noncomputable def e_strings_Builder_Grow : Ent := ⟨1, p_strings_Builder_Grow, q_strings_Builder_Grow, m_strings_Builder_Grow⟩
theorem Hp.grown {h h' : Array Obj} {F : Frz} {L0 : List Blk} {B : Nat} {cs0 cs1 : List Value} {T T1 : TypeId} {z : Nat × Nat} {c : Array Value} (hm : Hp h F ((B, cs0, BT.c T) :: L0)) (h0 : h[B]? = some (.cells cs0.toArray T z)) (hz : fzok z cs1.length) (h1 : h'[B]? = some (.cells cs1.toArray T z)) (h2 : h'[h.size]? = some (.cells c T1 (0, 0))) (h3 : ∀ b, b ≠ B → b < h.size → h'[b]? = h[b]?) : Hp h' F ((B, cs1, BT.c T) :: ((h.size, c.toList, BT.c T1) :: L0)) := by
  have hB : B < h.size := (Array.getElem?_eq_some_iff.1 h0).1
  have hnd := hm.nodup
  rw [List.map_cons, List.nodup_cons] at hnd
  refine ⟨fun b o hb => ?_, fun p hp => ?_, fun p hp => ?_, ?_, fun b hb => ?_⟩
  · have hne : b ≠ B := fun e => by
      subst e
      have := hm.sep _ (List.mem_cons_self ..)
      rw [show F.m b = none from this] at hb
      cases hb
    rw [h3 b hne (hm.flt hb)]
    exact hm.frz b o hb
  · rcases List.mem_cons.1 hp with rfl | hp
    · exact ⟨z, hz, h1⟩
    · rcases List.mem_cons.1 hp with rfl | hp
      · exact .mk (by simpa using h2)
      · have hp' : p ∈ (B, cs0, BT.c T) :: L0 := List.mem_cons_of_mem _ hp
        rw [h3 p.1 (fun e => hnd.1 (List.mem_map.2 ⟨p, hp, e⟩)) (hm.lt hp')]
        exact hm.own p hp'
  · rcases List.mem_cons.1 hp with rfl | hp
    · exact hm.sep (B, cs0, BT.c T) (List.mem_cons_self ..)
    · rcases List.mem_cons.1 hp with rfl | hp
      · cases hb : F.m h.size with
        | none => rfl
        | some o => have := hm.flt hb; omega
      · exact hm.sep p (List.mem_cons_of_mem _ hp)
  · rw [List.map_cons, List.map_cons, List.nodup_cons, List.nodup_cons]
    refine ⟨fun hin => ?_, fun hin => ?_, hnd.2⟩
    · rcases List.mem_cons.1 hin with e | hin
      · have e : B = h.size := e
        omega
      · exact hnd.1 hin
    · obtain ⟨q, hq, he⟩ := List.mem_map.1 hin
      have := hm.lt (List.mem_cons_of_mem (B, cs0, BT.c T) hq)
      have he : q.1 = h.size := he
      omega
  · obtain ⟨cs, T9, l1, l2⟩ := hm.live b hb
    by_cases e : b = B
    · subst e
      rw [h0] at l1
      cases l1
      exact ⟨_, _, h1, l2⟩
    · exact ⟨cs, T9, by rw [h3 b e (Array.getElem?_eq_some_iff.1 l1).1]; exact l1, l2⟩
theorem ok_strings_Builder_Grow : FnOK Try.prog 75 e_strings_Builder_Grow := by
  intro x r hr F ι h L0 vargs hlen hM hH
  obtain ⟨⟨⟨⟩, ⟨⟩⟩, n⟩ := x
  have hr : (bif decide (0 ≤ (n : Int) ∧ (n : Int) ≤ 281474976710656) then some ((true, ()), []) else none : Option ((Bool × Unit) × List UInt8)) = some r := hr
  cases hd : decide (0 ≤ (n : Int) ∧ (n : Int) ≤ 281474976710656) with
  | false => rw [hd] at hr; cases hr
  | true =>
  rw [hd] at hr
  obtain rfl := Option.some.inj hr
  have hd := of_decide_eq_true hd
  obtain ⟨m, hm⟩ := Int.eq_ofNat_of_zero_le hd.1
  obtain ⟨⟨⟨B, g1, g2⟩, hO⟩, h2, _⟩ := hM
  obtain ⟨B', cs, a1, a2, a3⟩ := hO (0, .cells 71 [.pnil, .nil]) (by simp [mk1, fxEnc, FX.enc, Fl.enc])
  rw [g1] at a1
  cases a1
  cases a3 with
  | cons h0 t =>
  cases t with
  | cons h1 t =>
  cases t
  rename_i c0 c1
  have h0 : c0 = .pointer none := Rd.pnil_inv h0
  have h1 : c1 = .slice none 0 0 := Rd.nil_inv h1
  subst h0 h1
  have hv : vargs = [.pointer (some ⟨B, 0, none⟩), .int .i64 (m : Int)] := by
    match vargs, hlen, g2, h2 with
    | [v, u], _, g2, h2 =>
      have g2 : v = .pointer (some ⟨B, 0, none⟩) := g2
      have h2 : u = .int .i64 n := Rd.int_inv h2
      rw [g2, h2, show (n : Int) = m from hm]
  subst hv
  have hH : Hp h F ((ι 0).2 ++ L0) := by
    have := hH
    simp only [lv, e_strings_Builder_Grow, mkOw, mk1, List.flatMap_append, List.flatMap_cons, List.flatMap_nil, List.append_nil, List.append_assoc] at this
    simpa using this
  have a2 : (ι 0).2 = [(B, [.pointer none, .slice none 0 0], BT.c 71)] := a2
  rw [a2] at hH
  obtain ⟨fz, hz, hb⟩ := hH.own _ (List.mem_append_left _ (List.mem_singleton.2 rfl))
  have key : ∀ (sl : Value) (Lv : List Blk) (h' : Array Obj), (∃ q cap, sl = .slice q 0 cap ∧ SlO 1 5 q 0 cap Lv []) → Hp h' F ((B, [.pointer (some ⟨B, 0, none⟩), sl], BT.c 71) :: (Lv ++ L0)) → Res F ι e_strings_Builder_Grow (((true, ()), []) : (Bool × Unit) × List UInt8) L0 (.tuple #[]) h' := by
    intro sl Lv h' ⟨q, cap, hsl, hSl⟩ hH'
    refine ⟨F, fun k => if k = 1000 then (.pointer (some ⟨B, 0, none⟩), [(B, [.pointer (some ⟨B, 0, none⟩), sl], BT.c 71)]) else if k = 2000064001 then (sl, Lv) else ι k, [], .refl F, fun _ => rfl, rfl, ⟨⟨⟨B, rfl, ?_⟩, fun q hq => ?_⟩, ⟨trivial, fun q hq => ?_⟩⟩, rfl, ?_, ?_⟩
    · exact g1
    · simp only [mk1, List.mem_singleton] at hq
      subst hq
      exact ⟨B, [.pointer (some ⟨B, 0, none⟩), sl], rfl, rfl, .cons ⟨B, rfl, rfl⟩ (.cons rfl .nil)⟩
    · simp only [mk1, List.mem_singleton] at hq
      subst hq
      exact ⟨_, 0, cap, [], hsl, hSl, .nil⟩
    · simp only [lv, e_strings_Builder_Grow, mkOw, mk1, List.flatMap_append, List.flatMap_cons, List.flatMap_nil, List.append_nil, List.append_assoc]
      simpa using hH'
    · intro k hk h5 h6 h7
      have hk : k = 1000 ∨ k = 2000064001 := by simpa [e_strings_Builder_Grow] using hk
      rcases hk with rfl | rfl
      · exact g1.symm
      · exact absurd h7 (by decide)
  refine ⟨fun E w hw => ?_⟩
  have hb' : h[B]? = some (.cells #[.pointer none, .slice none 0 0] 71 fz) := hb
  refine (Grow_new (n := m) w hw hb' (hz 0 (by simp)) (hz 1 (by simp)) (by have h9 := hd.2; rw [show (n : Int) = m from hm] at h9; exact Int.ofNat_le.1 h9)).mono ?_
  rintro e w' ⟨rfl, h1, h', b1, b2, b3, b4, b5⟩
  refine ⟨_, rfl, h', b1, ?_⟩
  have hput : Hp h1 F ((B, [.pointer (some ⟨B, 0, none⟩), .slice none 0 0], BT.c 71) :: L0) := hH.put (j := 0) (cs' := [.pointer (some ⟨B, 0, none⟩), .slice none 0 0]) rfl b2 hb' hz b4
  rcases b5 with rfl | ⟨cs, d1, d2, d3⟩
  · exact key _ [] _ ⟨none, 0, rfl, SlO.nil _ _⟩ hput
  · refine key _ [(h1.size, cs.toList, BT.c 5)] _ ⟨some ⟨h1.size, 0, none⟩, cs.size, rfl, ⟨.inr ⟨h1.size, 0, cs.size, cs.toList, rfl, rfl, rfl, by simp, Nat.zero_le _⟩, rfl, by simp⟩⟩ ?_
    exact hput.grown (z := fz) (cs1 := [.pointer (some ⟨B, 0, none⟩), .slice (some ⟨h1.size, 0, none⟩) 0 cs.size]) b4 hz d1 d2 d3
end Go.Proofs.Ytcbmbmfenhoflaa.V
set_option linter.unusedVariables false
set_option linter.unusedSimpArgs false
namespace Go.Proofs.Ytcbmbmfenhoflaa.V
open Go Go.Proofs
end Go.Proofs.Ytcbmbmfenhoflaa.V
set_option linter.unusedVariables false
set_option linter.unusedSimpArgs false
namespace Go.Proofs.Ytcbmbmfenhoflaa.V
open Go Go.Proofs
abbrev p_strings_Builder_WriteString : Pt := [(0, .blkx 71 [.self, .own]), (1, .str), (2000000001, .hown 0 1 .u8 5)]
abbrev q_strings_Builder_WriteString : Pt := [(0, .int .i64), (1, .err), (1000, .blkx 71 [.self, .own]), (2000064001, .hown 1000 1 .u8 5)]
noncomputable def m_strings_Builder_WriteString : Tup p_strings_Builder_WriteString → Option (Tup q_strings_Builder_WriteString) := fun (x : (Bool × PUnit) × List UInt8 × List UInt8) => Option.bind (m_strings_Builder_copyCheck ((x.1.1, ()), x.2.2)) fun (r : (Bool × PUnit) × List UInt8) => Option.bind (appL r.2 x.2.1) fun (r_1 : List UInt8) => some ((↑(List.length x.2.1) : Int), false, (r.1.1, ()), r_1)
noncomputable def cx_strings_Builder_WriteString : Cx := ⟨tb, lookE [(86, e_strings_Builder_copyCheck)], lookS []⟩
theorem ck_strings_Builder_WriteString : CxOK Try.prog (cx_strings_Builder_WriteString) := cx_ok tb_ok (.cons ok_strings_Builder_copyCheck Try.call86 .nil)
noncomputable def e_strings_Builder_WriteString : Ent := ⟨1, p_strings_Builder_WriteString, q_strings_Builder_WriteString, m_strings_Builder_WriteString⟩
theorem ok_strings_Builder_WriteString : FnOK Try.prog 73 e_strings_Builder_WriteString := fn_ok (L := lookL []) ck_strings_Builder_WriteString mixed Try.func73 rfl (by kernel_rfl) (by kernel_rfl) (ls_ok (l := []) (by kernel_rfl) .nil) (by intro x; kernel_rfl)
end Go.Proofs.Ytcbmbmfenhoflaa.V
set_option linter.unusedVariables false
set_option linter.unusedSimpArgs false
namespace Go.Proofs.Ytcbmbmfenhoflaa.V
open Go Go.Proofs
abbrev p_strings_Join : Pt := [(0, .lst .str), (1, .str)]
abbrev q_strings_Join : Pt := [(0, .str)]
abbrev p_strings_Join_0 : Pt := [(0, .lst .str), (1, .str), (5, .int .i64), (39, .lst .str), (40, .int .i64), (41, .int .i64)]
abbrev x_strings_Join_0 : List (Xt × Pt) := [(.ex 1, [(0, .lst .str), (1, .str), (5, .int .i64)])]
noncomputable def m_strings_Join_0 : Tup p_strings_Join_0 → Option (Stp (Tup p_strings_Join_0) (SumT (x_strings_Join_0.map (·.2)))) := fun (x : List (List UInt8) × List UInt8 × Int × List (List UInt8) × Int × Int) => bif decide (x.2.2.2.2.2 < x.2.2.2.2.1) then Option.bind (atI x.2.2.2.1 x.2.2.2.2.2) fun (v : List UInt8) => bif decide (IntKind.wrap .i64 ((9223372036854775807 : Int) - x.2.2.1) < (↑(List.length v) : Int)) then none else some (Stp.nx (x.1, x.2.1, IntKind.wrap .i64 (x.2.2.1 + (↑(List.length v) : Int)), x.2.2.2.1, x.2.2.2.2.1, IntKind.wrap .i64 (x.2.2.2.2.2 + (1 : Int)))) else some (Stp.out (x.1, x.2.1, x.2.2.1))
abbrev p_strings_Join_1 : Pt := [(1, .str), (8, .blkx 71 [.self, .own]), (63, .lst .str), (64, .int .i64), (65, .int .i64), (2000000513, .hown 8 1 .u8 5)]
abbrev x_strings_Join_1 : List (Xt × Pt) := [(.ex 3, [(8, .blkx 71 [.self, .own]), (2000000513, .hown 8 1 .u8 5)])]
noncomputable def m_strings_Join_1 : Tup p_strings_Join_1 → Option (Stp (Tup p_strings_Join_1) (SumT (x_strings_Join_1.map (·.2)))) := fun (x : List UInt8 × (Bool × PUnit) × List (List UInt8) × Int × Int × List UInt8) => bif decide (x.2.2.2.2.1 < x.2.2.2.1) then Option.bind (atI x.2.2.1 x.2.2.2.2.1) fun (v : List UInt8) => Option.bind (m_strings_Builder_WriteString ((x.2.1.1, ()), x.1, x.2.2.2.2.2)) fun (r : Int × Bool × (Bool × PUnit) × List UInt8) => Option.bind (m_strings_Builder_WriteString ((r.2.2.1.1, ()), v, r.2.2.2)) fun (r : Int × Bool × (Bool × PUnit) × List UInt8) => some (Stp.nx (x.1, (r.2.2.1.1, ()), x.2.2.1, x.2.2.2.1, IntKind.wrap .i64 (x.2.2.2.2.1 + (1 : Int)), r.2.2.2)) else some (Stp.out ((x.2.1.1, ()), x.2.2.2.2.2))
noncomputable def m_strings_Join : Tup p_strings_Join → Option (Tup q_strings_Join) := fun (x : List (List UInt8) × List UInt8) => bif decide ((↑(List.length x.1) : Int) = (0 : Int)) then some [] else bif decide ((↑(List.length x.1) : Int) = (1 : Int)) then Option.bind (atI x.1 (0 : Int)) fun (v : List UInt8) => some v else bif decide ((0 : Int) < (↑(List.length x.2) : Int)) then Option.bind (divI Go.IntKind.i64 (9223372036854775807 : Int) (IntKind.wrap .i64 ((↑(List.length x.1) : Int) - (1 : Int)))) fun (n : Int) => bif decide (n ≤ (↑(List.length x.2) : Int)) then none else Option.bind (loopO m_strings_Join_0 (x.1, x.2, IntKind.wrap .i64 ((0 : Int) + IntKind.wrap .i64 ((↑(List.length x.2) : Int) * IntKind.wrap .i64 ((↑(List.length x.1) : Int) - (1 : Int)))), x.1, (↑(List.length x.1) : Int), (0 : Int))) fun (y : List (List UInt8) × List UInt8 × Int) => Option.bind (m_strings_Builder_Grow (((), ()), y.2.2)) fun (r : (Bool × PUnit) × List UInt8) => Option.bind (atI y.1 (0 : Int)) fun (v : List UInt8) => Option.bind (m_strings_Builder_WriteString ((r.1.1, ()), v, r.2)) fun (r : Int × Bool × (Bool × PUnit) × List UInt8) => Option.bind (subL y.1 (1 : Int) (↑(List.length y.1) : Int)) fun (m : List (List UInt8)) => Option.bind (loopO m_strings_Join_1 (y.2.1, (r.2.2.1.1, ()), m, (↑(List.length m) : Int), (0 : Int), r.2.2.2)) fun (y : (Bool × PUnit) × List UInt8) => Option.bind (m_strings_Builder_String ((y.1.1, ()), y.2)) fun (r : List UInt8) => some r else Option.bind (loopO m_strings_Join_0 (x.1, x.2, (0 : Int), x.1, (↑(List.length x.1) : Int), (0 : Int))) fun (y : List (List UInt8) × List UInt8 × Int) => Option.bind (m_strings_Builder_Grow (((), ()), y.2.2)) fun (r : (Bool × PUnit) × List UInt8) => Option.bind (atI y.1 (0 : Int)) fun (v : List UInt8) => Option.bind (m_strings_Builder_WriteString ((r.1.1, ()), v, r.2)) fun (r : Int × Bool × (Bool × PUnit) × List UInt8) => Option.bind (subL y.1 (1 : Int) (↑(List.length y.1) : Int)) fun (m : List (List UInt8)) => Option.bind (loopO m_strings_Join_1 (y.2.1, (r.2.2.1.1, ()), m, (↑(List.length m) : Int), (0 : Int), r.2.2.2)) fun (y : (Bool × PUnit) × List UInt8) => Option.bind (m_strings_Builder_String ((y.1.1, ()), y.2)) fun (r : List UInt8) => some r
noncomputable def cx_strings_Join : Cx := ⟨tb, lookE [(75, e_strings_Builder_Grow), (73, e_strings_Builder_WriteString), (52, e_strings_Builder_String)], lookS []⟩
theorem ck_strings_Join : CxOK Try.prog (cx_strings_Join) := cx_ok tb_ok (.cons ok_strings_Builder_Grow Try.call75 (.cons ok_strings_Builder_WriteString Try.call73 (.cons ok_strings_Builder_String Try.call52 .nil)))
noncomputable def c_strings_Join_0 : Code := loopAt (Go.Proofs.Try.f55.body.getD .skip) 0
noncomputable def l_strings_Join_0 : LEnt := ⟨p_strings_Join_0, x_strings_Join_0, loopO (m_strings_Join_0)⟩
theorem lo_strings_Join_0 : LOK Try.prog 75 0 false (l_strings_Join_0) c_strings_Join_0 := loop_ok (body := m_strings_Join_0) (L := lookL []) (ck_strings_Join) mixed (ls_ok (l := []) (by kernel_rfl) .nil) (by intro x; kernel_rfl) (fun x y h => loopO_iff.1 h)
noncomputable def c_strings_Join_1 : Code := loopAt (Go.Proofs.Try.f55.body.getD .skip) 1
noncomputable def l_strings_Join_1 : LEnt := ⟨p_strings_Join_1, x_strings_Join_1, loopO (m_strings_Join_1)⟩
theorem lo_strings_Join_1 : LOK Try.prog 75 0 false (l_strings_Join_1) c_strings_Join_1 := loop_ok (body := m_strings_Join_1) (L := lookL []) (ck_strings_Join) mixed (ls_ok (l := []) (by kernel_rfl) .nil) (by intro x; kernel_rfl) (fun x y h => loopO_iff.1 h)
noncomputable def e_strings_Join : Ent := ⟨0, p_strings_Join, q_strings_Join, m_strings_Join⟩
theorem ok_strings_Join : FnOK Try.prog 55 e_strings_Join := fn_ok (L := lookL [(1, l_strings_Join_0), (3, l_strings_Join_1)]) ck_strings_Join mixed Try.func55 rfl (by kernel_rfl) (by kernel_rfl) (ls_ok (l := [(1, c_strings_Join_0), (3, c_strings_Join_1)]) (by kernel_rfl) (.cons rfl (lo_strings_Join_0) (.cons rfl (lo_strings_Join_1) .nil))) (by intro x; kernel_rfl)
abbrev p_goquery_getAttributePtr : Pt := [(0, .str), (1, .np), (NT, .ns .h 82 84)]
abbrev q_goquery_getAttributePtr : Pt := [(0, .nap), (NT, .ns .h 82 84)]
abbrev p_goquery_getAttributePtr_0 : Pt := [(0, .str), (1, .np), (12, .nal), (13, .int .i64), (14, .int .i64), (NT, .ns .h 82 84)]
abbrev x_goquery_getAttributePtr_0 : List (Xt × Pt) := [(.ex 0, [(NT, .ns .h 82 84)]), (.rt, [(4, .nap), (NT, .ns .h 82 84)])]
noncomputable def m_goquery_getAttributePtr_0 : Tup p_goquery_getAttributePtr_0 → Option (Stp (Tup p_goquery_getAttributePtr_0) (SumT (x_goquery_getAttributePtr_0.map (·.2)))) := fun (x : List UInt8 × Option Nat × Nat × Int × Int × List HN) => bif decide (x.2.2.2.2.1 < x.2.2.2.1) then Option.bind x.2.2.2.2.2[x.2.2.1]? fun (h : HN) => Option.bind (atI (HN.attrs h) x.2.2.2.2.1) fun (x_1 : HAttr) => Option.bind x.2.2.2.2.2[x.2.2.1]? fun (h : HN) => Option.bind (HN.attrs h)[Int.toNat x.2.2.2.2.1]? fun (a : HAttr) => bif decide (HAttr.key a = x.1) then Option.bind x.2.1 fun (i : Nat) => Option.bind (some i) fun (i : Nat) => Option.bind x.2.2.2.2.2[i]? fun (h : HN) => Option.bind x.2.2.2.2.2[i]? fun (h : HN) => Option.bind (atI (HN.attrs h) x.2.2.2.2.1) fun (x_2 : HAttr) => some (Stp.out (Sum.inr (some (i, Int.toNat x.2.2.2.2.1), x.2.2.2.2.2))) else some (Stp.nx (x.1, x.2.1, x.2.2.1, x.2.2.2.1, IntKind.wrap .i64 (x.2.2.2.2.1 + (1 : Int)), x.2.2.2.2.2)) else some (Stp.out (Sum.inl x.2.2.2.2.2))
noncomputable def m_goquery_getAttributePtr : Tup p_goquery_getAttributePtr → Option (Tup q_goquery_getAttributePtr) := fun (x : List UInt8 × Option Nat × List HN) => bif Option.isNone x.2.1 then some (none, x.2.2) else Option.bind x.2.1 fun (i : Nat) => Option.bind (some i) fun (i : Nat) => Option.bind x.2.2[i]? fun (h : HN) => Option.bind x.2.2[i]? fun (h : HN) => Option.bind (loopO m_goquery_getAttributePtr_0 (x.1, x.2.1, i, (↑(List.length (HN.attrs h)) : Int), (0 : Int), x.2.2)) fun (y : List HN ⊕ Option (Nat × Nat) × List HN) => selim (fun (y : List HN) => some (none, y)) (fun (y : Option (Nat × Nat) × List HN) => some (y.1, y.2)) y
noncomputable def cx_goquery_getAttributePtr : Cx := ⟨tb, lookE [], lookS []⟩
theorem ck_goquery_getAttributePtr : CxOK Try.prog (cx_goquery_getAttributePtr) := cx_ok tb_ok .nil
noncomputable def c_goquery_getAttributePtr_0 : Code := loopAt (Go.Proofs.Try.f61.body.getD .skip) 0
noncomputable def l_goquery_getAttributePtr_0 : LEnt := ⟨p_goquery_getAttributePtr_0, x_goquery_getAttributePtr_0, loopO (m_goquery_getAttributePtr_0)⟩
theorem lo_goquery_getAttributePtr_0 : LOK Try.prog 30 0 true (l_goquery_getAttributePtr_0) c_goquery_getAttributePtr_0 := loop_ok (body := m_goquery_getAttributePtr_0) (L := lookL []) (ck_goquery_getAttributePtr) mixed (ls_ok (l := []) (by kernel_rfl) .nil) (by intro x; kernel_rfl) (fun x y h => loopO_iff.1 h)
noncomputable def e_goquery_getAttributePtr : Ent := ⟨0, p_goquery_getAttributePtr, q_goquery_getAttributePtr, m_goquery_getAttributePtr⟩
theorem ok_goquery_getAttributePtr : FnOK Try.prog 61 e_goquery_getAttributePtr := fn_ok (L := lookL [(0, l_goquery_getAttributePtr_0)]) ck_goquery_getAttributePtr mixed Try.func61 rfl (by kernel_rfl) (by kernel_rfl) (ls_ok (l := [(0, c_goquery_getAttributePtr_0)]) (by kernel_rfl) (.cons rfl (lo_goquery_getAttributePtr_0) .nil)) (by intro x; kernel_rfl)
abbrev p_goquery_removeAttr : Pt := [(0, .np), (1, .str), (NT, .ns .h 82 84)]
abbrev q_goquery_removeAttr : Pt := [(NT, .ns .h 82 84)]
abbrev p_goquery_removeAttr_0 : Pt := [(0, .np), (1, .str), (9, .nal), (10, .int .i64), (11, .int .i64), (NT, .ns .h 82 84)]
abbrev x_goquery_removeAttr_0 : List (Xt × Pt) := [(.ex 0, [(NT, .ns .h 82 84)]), (.rt, [(NT, .ns .h 82 84)])]
noncomputable def m_goquery_removeAttr_0 : Tup p_goquery_removeAttr_0 → Option (Stp (Tup p_goquery_removeAttr_0) (SumT (x_goquery_removeAttr_0.map (·.2)))) := fun (x : Option Nat × List UInt8 × Nat × Int × Int × List HN) => bif decide (x.2.2.2.2.1 < x.2.2.2.1) then Option.bind x.2.2.2.2.2[x.2.2.1]? fun (h : HN) => Option.bind (atI (HN.attrs h) x.2.2.2.2.1) fun (x_1 : HAttr) => Option.bind x.2.2.2.2.2[x.2.2.1]? fun (h : HN) => Option.bind (HN.attrs h)[Int.toNat x.2.2.2.2.1]? fun (a : HAttr) => bif decide (HAttr.key a = x.2.1) then Option.bind x.1 fun (i : Nat) => Option.bind (some i) fun (i : Nat) => Option.bind x.2.2.2.2.2[i]? fun (h : HN) => Option.bind x.1 fun (i_1 : Nat) => Option.bind (some i_1) fun (i_2 : Nat) => Option.bind x.2.2.2.2.2[i_2]? fun (h : HN) => Option.bind x.1 fun (i_3 : Nat) => Option.bind (some i_3) fun (i_4 : Nat) => Option.bind x.2.2.2.2.2[i_4]? fun (h : HN) => Option.bind x.2.2.2.2.2[i_4]? fun (h : HN) => Option.bind x.1 fun (i_5 : Nat) => Option.bind (some i_5) fun (i_6 : Nat) => Option.bind x.2.2.2.2.2[i_6]? fun (h_1 : HN) => Option.bind x.1 fun (i_7 : Nat) => Option.bind (some i_7) fun (i_8 : Nat) => Option.bind x.2.2.2.2.2[i_8]? fun (h_2 : HN) => Option.bind x.2.2.2.2.2[i_8]? fun (h_3 : HN) => Option.bind x.2.2.2.2.2[i_6]? fun (h_4 : HN) => Option.bind (atI (HN.attrs h_4) (IntKind.wrap .i64 ((↑(List.length (HN.attrs h_3)) : Int) - (1 : Int)))) fun (x_2 : HAttr) => Option.bind x.2.2.2.2.2[i_6]? fun (h_5 : HN) => Option.bind (HN.attrs h_5)[Int.toNat (IntKind.wrap .i64 ((↑(List.length (HN.attrs h_3)) : Int) - (1 : Int)))]? fun (a : HAttr) => Option.bind x.1 fun (i_9 : Nat) => Option.bind (some i_9) fun (i_10 : Nat) => Option.bind x.2.2.2.2.2[i_10]? fun (h_6 : HN) => Option.bind x.1 fun (i_11 : Nat) => Option.bind (some i_11) fun (i_12 : Nat) => Option.bind x.2.2.2.2.2[i_12]? fun (h_7 : HN) => Option.bind x.2.2.2.2.2[i_12]? fun (h_8 : HN) => Option.bind x.2.2.2.2.2[i_10]? fun (n : HN) => Option.bind (subL (HN.attrs n) (0 : Int) (IntKind.wrap .i64 ((↑(List.length (HN.attrs h_8)) : Int) - (1 : Int)))) fun (x_3 : List HAttr) => Option.bind x.2.2.2.2.2[i]? fun (h_9 : HN) => Option.bind (atI (HN.attrs h_9) x.2.2.2.2.1) fun (x_4 : HAttr) => Option.bind x.2.2.2.2.2[i]? fun (h_10 : HN) => Option.bind (HN.attrs h_10)[Int.toNat x.2.2.2.2.1]? fun (v : HAttr) => Option.bind (List.set x.2.2.2.2.2 i (HN.wa h_10 (List.set (HN.attrs h_10) (Int.toNat x.2.2.2.2.1) { ns := HAttr.ns a, key := HAttr.key a, val := HAttr.val a })))[i_2]? fun (h_11 : HN) => Option.bind (atI (HN.attrs h_11) (IntKind.wrap .i64 ((↑(List.length (HN.attrs h)) : Int) - (1 : Int)))) fun (x_5 : HAttr) => Option.bind (List.set x.2.2.2.2.2 i (HN.wa h_10 (List.set (HN.attrs h_10) (Int.toNat x.2.2.2.2.1) { ns := HAttr.ns a, key := HAttr.key a, val := HAttr.val a })))[i_2]? fun (h_12 : HN) => Option.bind (HN.attrs h_12)[Int.toNat (IntKind.wrap .i64 ((↑(List.length (HN.attrs h)) : Int) - (1 : Int)))]? fun (v : HAttr) => Option.bind x.1 fun (i_13 : Nat) => Option.bind (some i_13) fun (i_14 : Nat) => bif decide (i_10 = i_14) then Option.bind (List.set (List.set x.2.2.2.2.2 i (HN.wa h_10 (List.set (HN.attrs h_10) (Int.toNat x.2.2.2.2.1) { ns := HAttr.ns a, key := HAttr.key a, val := HAttr.val a }))) i_2 (HN.wa h_12 (List.set (HN.attrs h_12) (Int.toNat (IntKind.wrap .i64 ((↑(List.length (HN.attrs h)) : Int) - (1 : Int)))) { ns := [], key := [], val := [] })))[i_14]? fun (h_13 : HN) => some (Stp.out (Sum.inr (List.set (List.set (List.set x.2.2.2.2.2 i (HN.wa h_10 (List.set (HN.attrs h_10) (Int.toNat x.2.2.2.2.1) { ns := HAttr.ns a, key := HAttr.key a, val := HAttr.val a }))) i_2 (HN.wa h_12 (List.set (HN.attrs h_12) (Int.toNat (IntKind.wrap .i64 ((↑(List.length (HN.attrs h)) : Int) - (1 : Int)))) { ns := [], key := [], val := [] }))) i_14 (HN.wa h_13 (List.take (Int.toNat (IntKind.wrap .i64 ((↑(List.length (HN.attrs h_8)) : Int) - (1 : Int)))) (HN.attrs h_13)))))) else none else some (Stp.nx (x.1, x.2.1, x.2.2.1, x.2.2.2.1, IntKind.wrap .i64 (x.2.2.2.2.1 + (1 : Int)), x.2.2.2.2.2)) else some (Stp.out (Sum.inl x.2.2.2.2.2))
noncomputable def m_goquery_removeAttr : Tup p_goquery_removeAttr → Option (Tup q_goquery_removeAttr) := fun (x : Option Nat × List UInt8 × List HN) => Option.bind x.1 fun (i : Nat) => Option.bind (some i) fun (i : Nat) => Option.bind x.2.2[i]? fun (h : HN) => Option.bind x.2.2[i]? fun (h : HN) => Option.bind (loopO m_goquery_removeAttr_0 (x.1, x.2.1, i, (↑(List.length (HN.attrs h)) : Int), (0 : Int), x.2.2)) fun (y : List HN ⊕ List HN) => selim (fun (y : List HN) => some y) (fun (y : List HN) => some y) y
noncomputable def cx_goquery_removeAttr : Cx := ⟨tb, lookE [], lookS [(4, [(true, 0), (true, 1), (true, 2), (true, 3), (true, 4), (true, 5), (true, 6), (true, 7), (true, 8), (true, 9), (true, 10), (true, 11), (true, 12), (true, 13), (true, 14), (true, 15), (true, 16), (true, 17), (true, 18), (true, 19), (true, 20), (true, 21), (true, 22), (true, 23), (true, 24), (true, 25), (true, 26), (true, 27), (true, 28), (true, 29), (true, 30), (true, 31), (true, 32), (true, 33), (true, 34), (true, 35), (true, 36), (true, 37), (true, 38), (true, 39), (true, 40), (false, 41), (true, 42), (false, 43), (true, 44), (true, 45), (false, 46)])]⟩
theorem ck_goquery_removeAttr : CxOK Try.prog (cx_goquery_removeAttr) := cx_ok tb_ok .nil
noncomputable def c_goquery_removeAttr_0 : Code := loopAt (Go.Proofs.Try.f63.body.getD .skip) 0
noncomputable def l_goquery_removeAttr_0 : LEnt := ⟨p_goquery_removeAttr_0, x_goquery_removeAttr_0, loopO (m_goquery_removeAttr_0)⟩
theorem lo_goquery_removeAttr_0 : LOK Try.prog 65 0 true (l_goquery_removeAttr_0) c_goquery_removeAttr_0 := loop_ok (body := m_goquery_removeAttr_0) (L := lookL []) (ck_goquery_removeAttr) mixed (ls_ok (l := []) (by kernel_rfl) .nil) (by intro x; kernel_rfl) (fun x y h => loopO_iff.1 h)
noncomputable def e_goquery_removeAttr : Ent := ⟨0, p_goquery_removeAttr, q_goquery_removeAttr, m_goquery_removeAttr⟩
theorem ok_goquery_removeAttr : FnOK Try.prog 63 e_goquery_removeAttr := fn_ok (L := lookL [(0, l_goquery_removeAttr_0)]) ck_goquery_removeAttr mixed Try.func63 rfl (by kernel_rfl) (by kernel_rfl) (ls_ok (l := [(0, c_goquery_removeAttr_0)]) (by kernel_rfl) (.cons rfl (lo_goquery_removeAttr_0) .nil)) (by intro x; kernel_rfl)
abbrev p_goquery_getClassesAndAttr : Pt := [(0, .np), (NT, .ns .h 82 84)]
abbrev q_goquery_getClassesAndAttr : Pt := [(0, .str), (1, .nap), (NT, .ns .h 82 84)]
noncomputable def m_goquery_getClassesAndAttr : Tup p_goquery_getClassesAndAttr → Option (Tup q_goquery_getClassesAndAttr) := fun (x : Option Nat × List HN) => Option.bind x.1 fun (i : Nat) => Option.bind (some i) fun (i : Nat) => Option.bind x.2[i]? fun (h : HN) => bif decide (HN.ty h = (3 : Int)) then Option.bind (m_goquery_getAttributePtr ([(99 : UInt8), (108 : UInt8), (97 : UInt8), (115 : UInt8), (115 : UInt8)], x.1, x.2)) fun (r : Option (Nat × Nat) × List HN) => bif Option.isNone r.1 then Option.bind x.1 fun (i : Nat) => Option.bind (some i) fun (i : Nat) => Option.bind r.2[i]? fun (h : HN) => Option.bind r.2[i]? fun (h : HN) => Option.bind (appL (HN.attrs h) [{ ns := [], key := [(99 : UInt8), (108 : UInt8), (97 : UInt8), (115 : UInt8), (115 : UInt8)], val := [] }]) fun (r_1 : List HAttr) => Option.bind x.1 fun (i_1 : Nat) => Option.bind (some i_1) fun (i_2 : Nat) => Option.bind r.2[i_2]? fun (h : HN) => bif decide (i = i_2) then Option.bind x.1 fun (i : Nat) => Option.bind (some i) fun (i : Nat) => Option.bind (List.set r.2 i_2 (HN.wa h r_1))[i]? fun (h_1 : HN) => Option.bind x.1 fun (i_3 : Nat) => Option.bind (some i_3) fun (i_4 : Nat) => Option.bind (List.set r.2 i_2 (HN.wa h r_1))[i_4]? fun (h_2 : HN) => Option.bind (List.set r.2 i_2 (HN.wa h r_1))[i_4]? fun (h_3 : HN) => Option.bind (List.set r.2 i_2 (HN.wa h r_1))[i]? fun (h_4 : HN) => Option.bind (atI (HN.attrs h_4) (IntKind.wrap .i64 ((↑(List.length (HN.attrs h_3)) : Int) - (1 : Int)))) fun (x : HAttr) => Option.bind (List.set r.2 i_2 (HN.wa h r_1))[i]? fun (h_5 : HN) => Option.bind (HN.attrs h_5)[Int.toNat (IntKind.wrap .i64 ((↑(List.length (HN.attrs h_3)) : Int) - (1 : Int)))]? fun (a : HAttr) => Option.bind (catS [(32 : UInt8)] (HAttr.val a)) fun (r_2 : List UInt8) => Option.bind (catS r_2 [(32 : UInt8)]) fun (r_3 : List UInt8) => Option.bind (m_goquery_zzClassTrim r_3) fun (r_4 : List UInt8) => some (r_4, some (i, Int.toNat (IntKind.wrap .i64 ((↑(List.length (HN.attrs h_3)) : Int) - (1 : Int)))), List.set r.2 i_2 (HN.wa h r_1)) else none else bif Option.isNone r.1 then some ([(32 : UInt8)], r.1, r.2) else Option.bind r.1 fun (q : Nat × Nat) => Option.bind r.2[q.1]? fun (h : HN) => Option.bind (HN.attrs h)[q.2]? fun (a : HAttr) => Option.bind (catS [(32 : UInt8)] (HAttr.val a)) fun (r_1 : List UInt8) => Option.bind (catS r_1 [(32 : UInt8)]) fun (r_2 : List UInt8) => Option.bind (m_goquery_zzClassTrim r_2) fun (r_3 : List UInt8) => some (r_3, r.1, r.2) else some ([(32 : UInt8)], none, x.2)
noncomputable def cx_goquery_getClassesAndAttr : Cx := ⟨tb, lookE [(61, e_goquery_getAttributePtr), (62, e_goquery_zzClassTrim)], lookS [(5, [(true, 0), (true, 1), (true, 2), (true, 3), (true, 4), (true, 5), (true, 6), (true, 7), (true, 8), (true, 9), (true, 10), (true, 11)])]⟩
theorem ck_goquery_getClassesAndAttr : CxOK Try.prog (cx_goquery_getClassesAndAttr) := cx_ok tb_ok (.cons ok_goquery_getAttributePtr Try.call61 (.cons ok_goquery_zzClassTrim Try.call62 .nil))
noncomputable def e_goquery_getClassesAndAttr : Ent := ⟨0, p_goquery_getClassesAndAttr, q_goquery_getClassesAndAttr, m_goquery_getClassesAndAttr⟩
theorem ok_goquery_getClassesAndAttr : FnOK Try.prog 57 e_goquery_getClassesAndAttr := fn_ok (L := lookL []) ck_goquery_getClassesAndAttr mixed Try.func57 rfl (by kernel_rfl) (by kernel_rfl) (ls_ok (l := []) (by kernel_rfl) .nil) (by intro x; kernel_rfl)
abbrev p_goquery_setClasses : Pt := [(0, .np), (1, .nap), (2, .str), (NT, .ns .h 82 84)]
abbrev q_goquery_setClasses : Pt := [(NT, .ns .h 82 84)]
noncomputable def m_goquery_setClasses : Tup p_goquery_setClasses → Option (Tup q_goquery_setClasses) := fun (x : Option Nat × Option (Nat × Nat) × List UInt8 × List HN) => Option.bind (m_goquery_zzTrimSpace x.2.2.1) fun (r : List UInt8) => bif decide (r = Array.toList (ByteArray.data { data := #[] })) then Option.bind (m_goquery_removeAttr (x.1, [(99 : UInt8), (108 : UInt8), (97 : UInt8), (115 : UInt8), (115 : UInt8)], x.2.2.2)) fun (r : List HN) => some r else Option.bind x.2.1 fun (q : Nat × Nat) => Option.bind x.2.2.2[q.1]? fun (h : HN) => Option.bind (HN.attrs h)[q.2]? fun (v : HAttr) => some (List.set x.2.2.2 q.1 (HN.wa h (List.set (HN.attrs h) q.2 { ns := HAttr.ns v, key := HAttr.key v, val := r })))
noncomputable def cx_goquery_setClasses : Cx := ⟨tb, lookE [(54, e_goquery_zzTrimSpace), (63, e_goquery_removeAttr)], lookS []⟩
theorem ck_goquery_setClasses : CxOK Try.prog (cx_goquery_setClasses) := cx_ok tb_ok (.cons ok_goquery_zzTrimSpace Try.call54 (.cons ok_goquery_removeAttr Try.call63 .nil))
noncomputable def e_goquery_setClasses : Ent := ⟨0, p_goquery_setClasses, q_goquery_setClasses, m_goquery_setClasses⟩
theorem ok_goquery_setClasses : FnOK Try.prog 59 e_goquery_setClasses := fn_ok (L := lookL []) ck_goquery_setClasses mixed Try.func59 rfl (by kernel_rfl) (by kernel_rfl) (ls_ok (l := []) (by kernel_rfl) .nil) (by intro x; kernel_rfl)
abbrev p_goquery_Selection_HasClass : Pt := [(0, .fp (.rc .nps [] 2)), (1, .str), (NT, .ns .h 82 84)]
abbrev q_goquery_Selection_HasClass : Pt := [(0, .bool), (NT, .ns .h 82 84)]
abbrev p_goquery_Selection_HasClass_0 : Pt := [(1, .str), (5, .str), (17, .lst .np), (18, .int .i64), (19, .int .i64), (NT, .ns .h 82 84)]
abbrev x_goquery_Selection_HasClass_0 : List (Xt × Pt) := [(.ex 0, [(NT, .ns .h 82 84)]), (.rt, [(4, .bool), (NT, .ns .h 82 84)])]
noncomputable def m_goquery_Selection_HasClass_0 : Tup p_goquery_Selection_HasClass_0 → Option (Stp (Tup p_goquery_Selection_HasClass_0) (SumT (x_goquery_Selection_HasClass_0.map (·.2)))) := fun (x : List UInt8 × List UInt8 × List (Option Nat) × Int × Int × List HN) => bif decide (x.2.2.2.2.1 < x.2.2.2.1) then Option.bind (atI x.2.2.1 x.2.2.2.2.1) fun (v : Option Nat) => Option.bind v fun (i : Nat) => Option.bind (some i) fun (i : Nat) => Option.bind x.2.2.2.2.2[i]? fun (h : HN) => bif decide (HN.ty h ≠ (3 : Int)) then some (Stp.nx (x.1, x.2.1, x.2.2.1, x.2.2.2.1, IntKind.wrap .i64 (x.2.2.2.2.1 + (1 : Int)), x.2.2.2.2.2)) else Option.bind (m_goquery_getAttributePtr ([(99 : UInt8), (108 : UInt8), (97 : UInt8), (115 : UInt8), (115 : UInt8)], v, x.2.2.2.2.2)) fun (r : Option (Nat × Nat) × List HN) => bif !Option.isNone r.1 then Option.bind r.1 fun (q : Nat × Nat) => Option.bind r.2[q.1]? fun (h : HN) => Option.bind (HN.attrs h)[q.2]? fun (a : HAttr) => Option.bind (m_goquery_zzContains (HAttr.val a, x.2.1)) fun (r_1 : Bool) => bif !r_1 then some (Stp.nx (x.1, x.2.1, x.2.2.1, x.2.2.2.1, IntKind.wrap .i64 (x.2.2.2.2.1 + (1 : Int)), r.2)) else Option.bind r.1 fun (q : Nat × Nat) => Option.bind r.2[q.1]? fun (h : HN) => Option.bind (HN.attrs h)[q.2]? fun (a : HAttr) => Option.bind (m_goquery_zzClassTrim (HAttr.val a)) fun (r_2 : List UInt8) => Option.bind (catS [(32 : UInt8)] r_2) fun (r_3 : List UInt8) => Option.bind (catS r_3 [(32 : UInt8)]) fun (r_4 : List UInt8) => Option.bind (m_goquery_zzContains (r_4, x.1)) fun (r_5 : Bool) => bif r_5 then some (Stp.out (Sum.inr (true, r.2))) else some (Stp.nx (x.1, x.2.1, x.2.2.1, x.2.2.2.1, IntKind.wrap .i64 (x.2.2.2.2.1 + (1 : Int)), r.2)) else some (Stp.nx (x.1, x.2.1, x.2.2.1, x.2.2.2.1, IntKind.wrap .i64 (x.2.2.2.2.1 + (1 : Int)), r.2)) else some (Stp.out (Sum.inl x.2.2.2.2.2))
noncomputable def m_goquery_Selection_HasClass : Tup p_goquery_Selection_HasClass → Option (Tup q_goquery_Selection_HasClass) := fun (x : List (Option Nat) × List UInt8 × List HN) => Option.bind (catS [(32 : UInt8)] x.2.1) fun (r : List UInt8) => Option.bind (catS r [(32 : UInt8)]) fun (r : List UInt8) => Option.bind (loopO m_goquery_Selection_HasClass_0 (r, x.2.1, x.1, (↑(List.length x.1) : Int), (0 : Int), x.2.2)) fun (y : List HN ⊕ Bool × List HN) => selim (fun (y : List HN) => some (false, y)) (fun (y : Bool × List HN) => some (y.1, y.2)) y
noncomputable def cx_goquery_Selection_HasClass : Cx := ⟨tb, lookE [(61, e_goquery_getAttributePtr), (58, e_goquery_zzContains), (62, e_goquery_zzClassTrim)], lookS []⟩
theorem ck_goquery_Selection_HasClass : CxOK Try.prog (cx_goquery_Selection_HasClass) := cx_ok tb_ok (.cons ok_goquery_getAttributePtr Try.call61 (.cons ok_goquery_zzContains Try.call58 (.cons ok_goquery_zzClassTrim Try.call62 .nil)))
noncomputable def c_goquery_Selection_HasClass_0 : Code := loopAt (Go.Proofs.Try.f41.body.getD .skip) 0
noncomputable def l_goquery_Selection_HasClass_0 : LEnt := ⟨p_goquery_Selection_HasClass_0, x_goquery_Selection_HasClass_0, loopO (m_goquery_Selection_HasClass_0)⟩
theorem lo_goquery_Selection_HasClass_0 : LOK Try.prog 50 0 true (l_goquery_Selection_HasClass_0) c_goquery_Selection_HasClass_0 := loop_ok (body := m_goquery_Selection_HasClass_0) (L := lookL []) (ck_goquery_Selection_HasClass) mixed (ls_ok (l := []) (by kernel_rfl) .nil) (by intro x; kernel_rfl) (fun x y h => loopO_iff.1 h)
noncomputable def e_goquery_Selection_HasClass : Ent := ⟨0, p_goquery_Selection_HasClass, q_goquery_Selection_HasClass, m_goquery_Selection_HasClass⟩
theorem ok_goquery_Selection_HasClass : FnOK Try.prog 41 e_goquery_Selection_HasClass := fn_ok (L := lookL [(0, l_goquery_Selection_HasClass_0)]) ck_goquery_Selection_HasClass mixed Try.func41 rfl (by kernel_rfl) (by kernel_rfl) (ls_ok (l := [(0, c_goquery_Selection_HasClass_0)]) (by kernel_rfl) (.cons rfl (lo_goquery_Selection_HasClass_0) .nil)) (by intro x; kernel_rfl)
abbrev p_goquery_Selection_AddClass : Pt := [(0, .fp (.rc .nps [] 2)), (1, .lst .str), (NT, .ns .h 82 84)]
abbrev q_goquery_Selection_AddClass : Pt := [(0, .any), (NT, .ns .h 82 84)]
abbrev p_goquery_Selection_AddClass_0_0 : Pt := [(0, .fp (.rc .nps [] 2)), (6, .own .str 9), (8, .np), (9, .str), (10, .nap), (24, .lst .np), (25, .int .i64), (26, .int .i64), (35, .al 6), (36, .int .i64), (37, .int .i64), (NT, .ns .h 82 84)]
abbrev x_goquery_Selection_AddClass_0_0 : List (Xt × Pt) := [(.ex 2, [(0, .fp (.rc .nps [] 2)), (6, .own .str 9), (8, .np), (9, .str), (10, .nap), (24, .lst .np), (25, .int .i64), (26, .int .i64), (NT, .ns .h 82 84)])]
noncomputable def m_goquery_Selection_AddClass_0_0 : Tup p_goquery_Selection_AddClass_0_0 → Option (Stp (Tup p_goquery_Selection_AddClass_0_0) (SumT (x_goquery_Selection_AddClass_0_0.map (·.2)))) := fun (x : List (Option Nat) × List (List UInt8) × Option Nat × List UInt8 × Option (Nat × Nat) × List (Option Nat) × Int × Int × PUnit × Int × Int × List HN) => bif decide (x.2.2.2.2.2.2.2.2.2.2.1 < x.2.2.2.2.2.2.2.2.2.1) then Option.bind (atI x.2.1 x.2.2.2.2.2.2.2.2.2.2.1) fun (x_1 : List UInt8) => Option.bind x.2.1[Int.toNat x.2.2.2.2.2.2.2.2.2.2.1]? fun (v : List UInt8) => Option.bind (catS [(32 : UInt8)] v) fun (r : List UInt8) => Option.bind (catS r [(32 : UInt8)]) fun (r : List UInt8) => Option.bind (m_goquery_zzContains (x.2.2.2.1, r)) fun (r : Bool) => bif !r then Option.bind (catS v [(32 : UInt8)]) fun (r : List UInt8) => Option.bind (catS x.2.2.2.1 r) fun (r : List UInt8) => some (Stp.nx (x.1, x.2.1, x.2.2.1, r, x.2.2.2.2.1, x.2.2.2.2.2.1, x.2.2.2.2.2.2.1, x.2.2.2.2.2.2.2.1, (), x.2.2.2.2.2.2.2.2.2.1, IntKind.wrap .i64 (x.2.2.2.2.2.2.2.2.2.2.1 + (1 : Int)), x.2.2.2.2.2.2.2.2.2.2.2)) else some (Stp.nx (x.1, x.2.1, x.2.2.1, x.2.2.2.1, x.2.2.2.2.1, x.2.2.2.2.2.1, x.2.2.2.2.2.2.1, x.2.2.2.2.2.2.2.1, (), x.2.2.2.2.2.2.2.2.2.1, IntKind.wrap .i64 (x.2.2.2.2.2.2.2.2.2.2.1 + (1 : Int)), x.2.2.2.2.2.2.2.2.2.2.2)) else some (Stp.out (x.1, x.2.1, x.2.2.1, x.2.2.2.1, x.2.2.2.2.1, x.2.2.2.2.2.1, x.2.2.2.2.2.2.1, x.2.2.2.2.2.2.2.1, x.2.2.2.2.2.2.2.2.2.2.2))
abbrev p_goquery_Selection_AddClass_0 : Pt := [(0, .fp (.rc .nps [] 2)), (6, .own .str 9), (24, .lst .np), (25, .int .i64), (26, .int .i64), (NT, .ns .h 82 84)]
abbrev x_goquery_Selection_AddClass_0 : List (Xt × Pt) := [(.ex 0, [(0, .fp (.rc .nps [] 2)), (NT, .ns .h 82 84)])]
noncomputable def m_goquery_Selection_AddClass_0 : Tup p_goquery_Selection_AddClass_0 → Option (Stp (Tup p_goquery_Selection_AddClass_0) (SumT (x_goquery_Selection_AddClass_0.map (·.2)))) := fun (x : List (Option Nat) × List (List UInt8) × List (Option Nat) × Int × Int × List HN) => bif decide (x.2.2.2.2.1 < x.2.2.2.1) then Option.bind (atI x.2.2.1 x.2.2.2.2.1) fun (v : Option Nat) => Option.bind (m_goquery_getClassesAndAttr (v, x.2.2.2.2.2)) fun (r : List UInt8 × Option (Nat × Nat) × List HN) => Option.bind (loopO m_goquery_Selection_AddClass_0_0 (x.1, x.2.1, v, r.1, r.2.1, x.2.2.1, x.2.2.2.1, x.2.2.2.2.1, (), (↑(List.length x.2.1) : Int), (0 : Int), r.2.2)) fun (y : List (Option Nat) × List (List UInt8) × Option Nat × List UInt8 × Option (Nat × Nat) × List (Option Nat) × Int × Int × List HN) => Option.bind (m_goquery_setClasses (y.2.2.1, y.2.2.2.2.1, y.2.2.2.1, y.2.2.2.2.2.2.2.2)) fun (r : List HN) => some (Stp.nx (y.1, y.2.1, y.2.2.2.2.2.1, y.2.2.2.2.2.2.1, IntKind.wrap .i64 (y.2.2.2.2.2.2.2.1 + (1 : Int)), r)) else some (Stp.out (x.1, x.2.2.2.2.2))
noncomputable def m_goquery_Selection_AddClass : Tup p_goquery_Selection_AddClass → Option (Tup q_goquery_Selection_AddClass) := fun (x : List (Option Nat) × List (List UInt8) × List HN) => Option.bind (m_strings_Join (x.2.1, [(32 : UInt8)])) fun (r : List UInt8) => Option.bind (m_goquery_zzTrimSpace r) fun (r : List UInt8) => bif decide (r = Array.toList (ByteArray.data { data := #[] })) then some ((), x.2.2) else Option.bind (m_goquery_getClassesSlice r) fun (r : List (List UInt8)) => Option.bind (loopO m_goquery_Selection_AddClass_0 (x.1, r, x.1, (↑(List.length x.1) : Int), (0 : Int), x.2.2)) fun (y : List (Option Nat) × List HN) => some ((), y.2)
noncomputable def cx_goquery_Selection_AddClass : Cx := ⟨tb, lookE [(55, e_strings_Join), (54, e_goquery_zzTrimSpace), (56, e_goquery_getClassesSlice), (57, e_goquery_getClassesAndAttr), (58, e_goquery_zzContains), (59, e_goquery_setClasses)], lookS []⟩
theorem ck_goquery_Selection_AddClass : CxOK Try.prog (cx_goquery_Selection_AddClass) := cx_ok tb_ok (.cons ok_strings_Join Try.call55 (.cons ok_goquery_zzTrimSpace Try.call54 (.cons ok_goquery_getClassesSlice Try.call56 (.cons ok_goquery_getClassesAndAttr Try.call57 (.cons ok_goquery_zzContains Try.call58 (.cons ok_goquery_setClasses Try.call59 .nil))))))
noncomputable def c_goquery_Selection_AddClass_0_0 : Code := loopAt (loopAt (Go.Proofs.Try.f39.body.getD .skip) 0) 0
noncomputable def l_goquery_Selection_AddClass_0_0 : LEnt := ⟨p_goquery_Selection_AddClass_0_0, x_goquery_Selection_AddClass_0_0, loopO (m_goquery_Selection_AddClass_0_0)⟩
theorem lo_goquery_Selection_AddClass_0_0 : LOK Try.prog 58 0 true (l_goquery_Selection_AddClass_0_0) c_goquery_Selection_AddClass_0_0 := loop_ok (body := m_goquery_Selection_AddClass_0_0) (L := lookL []) (ck_goquery_Selection_AddClass) mixed (ls_ok (l := []) (by kernel_rfl) .nil) (by intro x; kernel_rfl) (fun x y h => loopO_iff.1 h)
noncomputable def c_goquery_Selection_AddClass_0 : Code := loopAt (Go.Proofs.Try.f39.body.getD .skip) 0
noncomputable def l_goquery_Selection_AddClass_0 : LEnt := ⟨p_goquery_Selection_AddClass_0, x_goquery_Selection_AddClass_0, loopO (m_goquery_Selection_AddClass_0)⟩
theorem lo_goquery_Selection_AddClass_0 : LOK Try.prog 58 0 true (l_goquery_Selection_AddClass_0) c_goquery_Selection_AddClass_0 := loop_ok (body := m_goquery_Selection_AddClass_0) (L := lookL [(2, l_goquery_Selection_AddClass_0_0)]) (ck_goquery_Selection_AddClass) mixed (ls_ok (l := [(2, c_goquery_Selection_AddClass_0_0)]) (by kernel_rfl) (.cons rfl (lo_goquery_Selection_AddClass_0_0) .nil)) (by intro x; kernel_rfl) (fun x y h => loopO_iff.1 h)
noncomputable def e_goquery_Selection_AddClass : Ent := ⟨0, p_goquery_Selection_AddClass, q_goquery_Selection_AddClass, m_goquery_Selection_AddClass⟩
theorem ok_goquery_Selection_AddClass : FnOK Try.prog 39 e_goquery_Selection_AddClass := fn_ok (L := lookL [(0, l_goquery_Selection_AddClass_0)]) ck_goquery_Selection_AddClass mixed Try.func39 rfl (by kernel_rfl) (by kernel_rfl) (ls_ok (l := [(0, c_goquery_Selection_AddClass_0)]) (by kernel_rfl) (.cons rfl (lo_goquery_Selection_AddClass_0) .nil)) (by intro x; kernel_rfl)
abbrev p_goquery_Selection_RemoveClass : Pt := [(0, .fp (.rc .nps [] 2)), (1, .lst .str), (NT, .ns .h 82 84)]
abbrev q_goquery_Selection_RemoveClass : Pt := [(0, .any), (NT, .ns .h 82 84)]
abbrev p_goquery_Selection_RemoveClass_0_0 : Pt := [(0, .fp (.rc .nps [] 2)), (5, .own .str 9), (7, .bool), (9, .np), (10, .str), (11, .nap), (26, .lst .np), (27, .int .i64), (28, .int .i64), (40, .al 5), (41, .int .i64), (42, .int .i64), (NT, .ns .h 82 84)]
abbrev x_goquery_Selection_RemoveClass_0_0 : List (Xt × Pt) := [(.ex 2, [(0, .fp (.rc .nps [] 2)), (5, .own .str 9), (7, .bool), (9, .np), (10, .str), (11, .nap), (26, .lst .np), (27, .int .i64), (28, .int .i64), (NT, .ns .h 82 84)])]
noncomputable def m_goquery_Selection_RemoveClass_0_0 : Tup p_goquery_Selection_RemoveClass_0_0 → Option (Stp (Tup p_goquery_Selection_RemoveClass_0_0) (SumT (x_goquery_Selection_RemoveClass_0_0.map (·.2)))) := fun (x : List (Option Nat) × List (List UInt8) × Bool × Option Nat × List UInt8 × Option (Nat × Nat) × List (Option Nat) × Int × Int × PUnit × Int × Int × List HN) => bif decide (x.2.2.2.2.2.2.2.2.2.2.2.1 < x.2.2.2.2.2.2.2.2.2.2.1) then Option.bind (atI x.2.1 x.2.2.2.2.2.2.2.2.2.2.2.1) fun (x_1 : List UInt8) => Option.bind x.2.1[Int.toNat x.2.2.2.2.2.2.2.2.2.2.2.1]? fun (v : List UInt8) => Option.bind (catS [(32 : UInt8)] v) fun (r : List UInt8) => Option.bind (catS r [(32 : UInt8)]) fun (r : List UInt8) => Option.bind (m_goquery_zzReplaceAll (x.2.2.2.2.1, r, [(32 : UInt8)])) fun (r : List UInt8) => some (Stp.nx (x.1, x.2.1, x.2.2.1, x.2.2.2.1, r, x.2.2.2.2.2.1, x.2.2.2.2.2.2.1, x.2.2.2.2.2.2.2.1, x.2.2.2.2.2.2.2.2.1, (), x.2.2.2.2.2.2.2.2.2.2.1, IntKind.wrap .i64 (x.2.2.2.2.2.2.2.2.2.2.2.1 + (1 : Int)), x.2.2.2.2.2.2.2.2.2.2.2.2)) else some (Stp.out (x.1, x.2.1, x.2.2.1, x.2.2.2.1, x.2.2.2.2.1, x.2.2.2.2.2.1, x.2.2.2.2.2.2.1, x.2.2.2.2.2.2.2.1, x.2.2.2.2.2.2.2.2.1, x.2.2.2.2.2.2.2.2.2.2.2.2))
abbrev p_goquery_Selection_RemoveClass_0 : Pt := [(0, .fp (.rc .nps [] 2)), (5, .own .str 9), (7, .bool), (26, .lst .np), (27, .int .i64), (28, .int .i64), (NT, .ns .h 82 84)]
abbrev x_goquery_Selection_RemoveClass_0 : List (Xt × Pt) := [(.ex 0, [(0, .fp (.rc .nps [] 2)), (NT, .ns .h 82 84)])]
noncomputable def m_goquery_Selection_RemoveClass_0 : Tup p_goquery_Selection_RemoveClass_0 → Option (Stp (Tup p_goquery_Selection_RemoveClass_0) (SumT (x_goquery_Selection_RemoveClass_0.map (·.2)))) := fun (x : List (Option Nat) × List (List UInt8) × Bool × List (Option Nat) × Int × Int × List HN) => bif decide (x.2.2.2.2.2.1 < x.2.2.2.2.1) then Option.bind (atI x.2.2.2.1 x.2.2.2.2.2.1) fun (v : Option Nat) => bif x.2.2.1 then Option.bind (m_goquery_removeAttr (v, [(99 : UInt8), (108 : UInt8), (97 : UInt8), (115 : UInt8), (115 : UInt8)], x.2.2.2.2.2.2)) fun (r : List HN) => some (Stp.nx (x.1, x.2.1, x.2.2.1, x.2.2.2.1, x.2.2.2.2.1, IntKind.wrap .i64 (x.2.2.2.2.2.1 + (1 : Int)), r)) else Option.bind (m_goquery_getClassesAndAttr (v, x.2.2.2.2.2.2)) fun (r : List UInt8 × Option (Nat × Nat) × List HN) => Option.bind (loopO m_goquery_Selection_RemoveClass_0_0 (x.1, x.2.1, x.2.2.1, v, r.1, r.2.1, x.2.2.2.1, x.2.2.2.2.1, x.2.2.2.2.2.1, (), (↑(List.length x.2.1) : Int), (0 : Int), r.2.2)) fun (y : List (Option Nat) × List (List UInt8) × Bool × Option Nat × List UInt8 × Option (Nat × Nat) × List (Option Nat) × Int × Int × List HN) => Option.bind (m_goquery_setClasses (y.2.2.2.1, y.2.2.2.2.2.1, y.2.2.2.2.1, y.2.2.2.2.2.2.2.2.2)) fun (r : List HN) => some (Stp.nx (y.1, y.2.1, y.2.2.1, y.2.2.2.2.2.2.1, y.2.2.2.2.2.2.2.1, IntKind.wrap .i64 (y.2.2.2.2.2.2.2.2.1 + (1 : Int)), r)) else some (Stp.out (x.1, x.2.2.2.2.2.2))
noncomputable def m_goquery_Selection_RemoveClass : Tup p_goquery_Selection_RemoveClass → Option (Tup q_goquery_Selection_RemoveClass) := fun (x : List (Option Nat) × List (List UInt8) × List HN) => Option.bind (m_strings_Join (x.2.1, [(32 : UInt8)])) fun (r : List UInt8) => Option.bind (m_goquery_zzTrimSpace r) fun (r : List UInt8) => bif !decide (r = Array.toList (ByteArray.data { data := #[] })) then Option.bind (m_goquery_getClassesSlice r) fun (r_1 : List (List UInt8)) => Option.bind (loopO m_goquery_Selection_RemoveClass_0 (x.1, r_1, decide (r = Array.toList (ByteArray.data { data := #[] })), x.1, (↑(List.length x.1) : Int), (0 : Int), x.2.2)) fun (y : List (Option Nat) × List HN) => some ((), y.2) else Option.bind (loopO m_goquery_Selection_RemoveClass_0 (x.1, [], decide (r = Array.toList (ByteArray.data { data := #[] })), x.1, (↑(List.length x.1) : Int), (0 : Int), x.2.2)) fun (y : List (Option Nat) × List HN) => some ((), y.2)
noncomputable def cx_goquery_Selection_RemoveClass : Cx := ⟨tb, lookE [(55, e_strings_Join), (54, e_goquery_zzTrimSpace), (56, e_goquery_getClassesSlice), (63, e_goquery_removeAttr), (57, e_goquery_getClassesAndAttr), (64, e_goquery_zzReplaceAll), (59, e_goquery_setClasses)], lookS []⟩
theorem ck_goquery_Selection_RemoveClass : CxOK Try.prog (cx_goquery_Selection_RemoveClass) := cx_ok tb_ok (.cons ok_strings_Join Try.call55 (.cons ok_goquery_zzTrimSpace Try.call54 (.cons ok_goquery_getClassesSlice Try.call56 (.cons ok_goquery_removeAttr Try.call63 (.cons ok_goquery_getClassesAndAttr Try.call57 (.cons ok_goquery_zzReplaceAll Try.call64 (.cons ok_goquery_setClasses Try.call59 .nil)))))))
noncomputable def c_goquery_Selection_RemoveClass_0_0 : Code := loopAt (loopAt (Go.Proofs.Try.f42.body.getD .skip) 0) 0
noncomputable def l_goquery_Selection_RemoveClass_0_0 : LEnt := ⟨p_goquery_Selection_RemoveClass_0_0, x_goquery_Selection_RemoveClass_0_0, loopO (m_goquery_Selection_RemoveClass_0_0)⟩
theorem lo_goquery_Selection_RemoveClass_0_0 : LOK Try.prog 58 0 true (l_goquery_Selection_RemoveClass_0_0) c_goquery_Selection_RemoveClass_0_0 := loop_ok (body := m_goquery_Selection_RemoveClass_0_0) (L := lookL []) (ck_goquery_Selection_RemoveClass) mixed (ls_ok (l := []) (by kernel_rfl) .nil) (by intro x; kernel_rfl) (fun x y h => loopO_iff.1 h)
noncomputable def c_goquery_Selection_RemoveClass_0 : Code := loopAt (Go.Proofs.Try.f42.body.getD .skip) 0
noncomputable def l_goquery_Selection_RemoveClass_0 : LEnt := ⟨p_goquery_Selection_RemoveClass_0, x_goquery_Selection_RemoveClass_0, loopO (m_goquery_Selection_RemoveClass_0)⟩
theorem lo_goquery_Selection_RemoveClass_0 : LOK Try.prog 58 0 true (l_goquery_Selection_RemoveClass_0) c_goquery_Selection_RemoveClass_0 := loop_ok (body := m_goquery_Selection_RemoveClass_0) (L := lookL [(2, l_goquery_Selection_RemoveClass_0_0)]) (ck_goquery_Selection_RemoveClass) mixed (ls_ok (l := [(2, c_goquery_Selection_RemoveClass_0_0)]) (by kernel_rfl) (.cons rfl (lo_goquery_Selection_RemoveClass_0_0) .nil)) (by intro x; kernel_rfl) (fun x y h => loopO_iff.1 h)
noncomputable def e_goquery_Selection_RemoveClass : Ent := ⟨0, p_goquery_Selection_RemoveClass, q_goquery_Selection_RemoveClass, m_goquery_Selection_RemoveClass⟩
theorem ok_goquery_Selection_RemoveClass : FnOK Try.prog 42 e_goquery_Selection_RemoveClass := fn_ok (L := lookL [(0, l_goquery_Selection_RemoveClass_0)]) ck_goquery_Selection_RemoveClass mixed Try.func42 rfl (by kernel_rfl) (by kernel_rfl) (ls_ok (l := [(0, c_goquery_Selection_RemoveClass_0)]) (by kernel_rfl) (.cons rfl (lo_goquery_Selection_RemoveClass_0) .nil)) (by intro x; kernel_rfl)
end Go.Proofs.Ytcbmbmfenhoflaa.V
set_option linter.unusedVariables false
set_option linter.unusedSimpArgs false
namespace Go.Proofs.Ytcbmbmfenhoflaa.V
open Go Go.Proofs
abbrev p_impl_element : Pt := [(0, .lst .attr), (NT, .ns .h 82 84)]
abbrev q_impl_element : Pt := [(0, .fp (.rc .nps [] 2)), (1, .np), (NT, .ns .h 82 84)]
abbrev p_impl_element_0 : Pt := [(4, .np), (9, .lst .attr), (10, .int .i64), (11, .int .i64), (NT, .ns .h 82 84)]
abbrev x_impl_element_0 : List (Xt × Pt) := [(.ex 0, [(4, .np), (NT, .ns .h 82 84)])]
noncomputable def m_impl_element_0 : Tup p_impl_element_0 → Option (Stp (Tup p_impl_element_0) (SumT (x_impl_element_0.map (·.2)))) := fun (x : Option Nat × List Attr × Int × Int × List HN) => bif decide (x.2.2.2.1 < x.2.2.1) then Option.bind (atI x.2.1 x.2.2.2.1) fun (v : Attr) => Option.bind x.1 fun (i : Nat) => Option.bind (some i) fun (i : Nat) => Option.bind x.2.2.2.2[i]? fun (h : HN) => Option.bind x.2.2.2.2[i]? fun (h : HN) => Option.bind (appL (HN.attrs h) [{ ns := [], key := Attr.key v, val := Attr.val v }]) fun (r : List HAttr) => Option.bind x.1 fun (i_1 : Nat) => Option.bind (some i_1) fun (i_2 : Nat) => Option.bind x.2.2.2.2[i_2]? fun (h : HN) => bif decide (i = i_2) then some (Stp.nx (x.1, x.2.1, x.2.2.1, IntKind.wrap .i64 (x.2.2.2.1 + (1 : Int)), List.set x.2.2.2.2 i_2 (HN.wa h r))) else none else some (Stp.out (x.1, x.2.2.2.2))
noncomputable def m_impl_element : Tup p_impl_element → Option (Tup q_impl_element) := fun (x : List Attr × List HN) => Option.bind (loopO m_impl_element_0 (some (List.length x.2), x.1, (↑(List.length x.1) : Int), (0 : Int), x.2 ++ [{ par := none, fst := none, lst := none, prv := none, nxt := none, ty := (3 : Int), atom := (0 : Int), data := [(97 : UInt8)], ns := [], attrs := [] }])) fun (y : Option Nat × List HN) => some ([y.1], y.1, y.2)
noncomputable def cx_impl_element : Cx := ⟨tb, lookE [], lookS [(5, [(true, 0), (true, 1), (true, 2), (true, 3), (true, 4), (true, 5), (true, 6), (true, 7), (true, 8), (true, 9), (false, 10), (false, 11), (true, 12), (true, 13), (false, 14)])]⟩
theorem ck_impl_element : CxOK Try.prog (cx_impl_element) := cx_ok tb_ok .nil
noncomputable def c_impl_element_0 : Code := loopAt (Go.Proofs.Try.f38.body.getD .skip) 0
noncomputable def l_impl_element_0 : LEnt := ⟨p_impl_element_0, x_impl_element_0, loopO (m_impl_element_0)⟩
theorem lo_impl_element_0 : LOK Try.prog 35 0 true (l_impl_element_0) c_impl_element_0 := loop_ok (body := m_impl_element_0) (L := lookL []) (ck_impl_element) mixed (ls_ok (l := []) (by kernel_rfl) .nil) (by intro x; kernel_rfl) (fun x y h => loopO_iff.1 h)
noncomputable def e_impl_element : Ent := ⟨0, p_impl_element, q_impl_element, m_impl_element⟩
theorem ok_impl_element : FnOK Try.prog 38 e_impl_element := fn_ok (L := lookL [(0, l_impl_element_0)]) ck_impl_element mixed Try.func38 rfl (by kernel_rfl) (by kernel_rfl) (ls_ok (l := [(0, c_impl_element_0)]) (by kernel_rfl) (.cons rfl (lo_impl_element_0) .nil)) (by intro x; kernel_rfl)
abbrev p_impl_kindOf : Pt := [(0, .np), (NT, .ns .h 82 84)]
abbrev q_impl_kindOf : Pt := [(0, .el .node), (NT, .ns .h 82 84)]
abbrev p_impl_kindOf_0 : Pt := [(2, .blk .node 41), (3, .blkx 41 [.fl (.int .i64), .fl .str, .fl .str, .own, .fl (.int .i64)]), (44, .nal), (45, .int .i64), (46, .int .i64), (NT, .ns .h 82 84), (2000000195, .hown 3 3 .attr 45)]
abbrev x_impl_kindOf_0 : List (Xt × Pt) := [(.ex 1, [(2, .blk .node 41), (3, .blkx 41 [.fl (.int .i64), .fl .str, .fl .str, .own, .fl (.int .i64)]), (NT, .ns .h 82 84), (2000000195, .hown 3 3 .attr 45)])]
noncomputable def m_impl_kindOf_0 : Tup p_impl_kindOf_0 → Option (Stp (Tup p_impl_kindOf_0) (SumT (x_impl_kindOf_0.map (·.2)))) := fun (x : Node × (Int × List UInt8 × List UInt8 × PUnit × Int) × Nat × Int × Int × List HN × List Attr) => bif decide (x.2.2.2.2.1 < x.2.2.2.1) then Option.bind x.2.2.2.2.2.1[x.2.2.1]? fun (h : HN) => Option.bind (atI (HN.attrs h) x.2.2.2.2.1) fun (x_1 : HAttr) => Option.bind x.2.2.2.2.2.1[x.2.2.1]? fun (h : HN) => Option.bind (HN.attrs h)[Int.toNat x.2.2.2.2.1]? fun (a : HAttr) => Option.bind (appL x.2.2.2.2.2.2 [{ key := HAttr.key a, val := HAttr.val a }]) fun (r : List Attr) => some (Stp.nx ({ kind := Node.kind x.1, tag := Node.tag x.1, text := Node.text x.1, attrs := Node.attrs x.1, size := Node.size x.1 }, (x.2.1.1, x.2.1.2.1, x.2.1.2.2.1, (), x.2.1.2.2.2.2), x.2.2.1, x.2.2.2.1, IntKind.wrap .i64 (x.2.2.2.2.1 + (1 : Int)), x.2.2.2.2.2.1, r)) else some (Stp.out ({ kind := Node.kind x.1, tag := Node.tag x.1, text := Node.text x.1, attrs := Node.attrs x.1, size := Node.size x.1 }, (x.2.1.1, x.2.1.2.1, x.2.1.2.2.1, (), x.2.1.2.2.2.2), x.2.2.2.2.2.1, x.2.2.2.2.2.2))
noncomputable def m_impl_kindOf : Tup p_impl_kindOf → Option (Tup q_impl_kindOf) := fun (x : Option Nat × List HN) => Option.bind x.1 fun (i : Nat) => Option.bind (some i) fun (i : Nat) => Option.bind x.2[i]? fun (h : HN) => bif decide (HN.ty h = (2 : Int)) then some ({ kind := (1 : Int), tag := [], text := [], attrs := [], size := (0 : Int) }, x.2) else bif decide (HN.ty h = (5 : Int)) then Option.bind x.1 fun (i : Nat) => Option.bind (some i) fun (i : Nat) => Option.bind x.2[i]? fun (h : HN) => some ({ kind := (2 : Int), tag := [], text := HN.data h, attrs := [], size := (0 : Int) }, x.2) else bif decide (HN.ty h = (1 : Int)) then Option.bind x.1 fun (i : Nat) => Option.bind (some i) fun (i : Nat) => Option.bind x.2[i]? fun (h : HN) => some ({ kind := (4 : Int), tag := [], text := HN.data h, attrs := [], size := (0 : Int) }, x.2) else bif decide (HN.ty h = (4 : Int)) then Option.bind x.1 fun (i : Nat) => Option.bind (some i) fun (i : Nat) => Option.bind x.2[i]? fun (h : HN) => some ({ kind := (5 : Int), tag := [], text := HN.data h, attrs := [], size := (0 : Int) }, x.2) else bif decide (HN.ty h = (3 : Int)) then Option.bind x.1 fun (i : Nat) => Option.bind (some i) fun (i : Nat) => Option.bind x.2[i]? fun (h : HN) => Option.bind x.1 fun (i : Nat) => Option.bind (some i) fun (i : Nat) => Option.bind x.2[i]? fun (h_1 : HN) => Option.bind x.2[i]? fun (h_2 : HN) => Option.bind (loopO m_impl_kindOf_0 ({ kind := (0 : Int), tag := [], text := [], attrs := [], size := (0 : Int) }, ((3 : Int), HN.data h, [], (), (0 : Int)), i, (↑(List.length (HN.attrs h_2)) : Int), (0 : Int), x.2, [])) fun (y : Node × (Int × List UInt8 × List UInt8 × PUnit × Int) × List HN × List Attr) => some ({ kind := y.2.1.1, tag := y.2.1.2.1, text := y.2.1.2.2.1, attrs := y.2.2.2, size := y.2.1.2.2.2.2 }, y.2.2.1) else some ({ kind := (0 : Int), tag := [], text := [], attrs := [], size := (0 : Int) }, x.2)
noncomputable def cx_impl_kindOf : Cx := ⟨tb, lookE [], lookS []⟩
theorem ck_impl_kindOf : CxOK Try.prog (cx_impl_kindOf) := cx_ok tb_ok .nil
noncomputable def c_impl_kindOf_0 : Code := loopAt (Go.Proofs.Try.f60.body.getD .skip) 0
noncomputable def l_impl_kindOf_0 : LEnt := ⟨p_impl_kindOf_0, x_impl_kindOf_0, loopO (m_impl_kindOf_0)⟩
theorem lo_impl_kindOf_0 : LOK Try.prog 63 0 true (l_impl_kindOf_0) c_impl_kindOf_0 := loop_ok (body := m_impl_kindOf_0) (L := lookL []) (ck_impl_kindOf) mixed (ls_ok (l := []) (by kernel_rfl) .nil) (by intro x; kernel_rfl) (fun x y h => loopO_iff.1 h)
noncomputable def e_impl_kindOf : Ent := ⟨0, p_impl_kindOf, q_impl_kindOf, m_impl_kindOf⟩
theorem ok_impl_kindOf : FnOK Try.prog 60 e_impl_kindOf := fn_ok (L := lookL [(1, l_impl_kindOf_0)]) ck_impl_kindOf mixed Try.func60 rfl (by kernel_rfl) (by kernel_rfl) (ls_ok (l := [(1, c_impl_kindOf_0)]) (by kernel_rfl) (.cons rfl (lo_impl_kindOf_0) .nil)) (by intro x; kernel_rfl)
abbrev p_impl_attrs : Pt := [(0, .np), (NT, .ns .h 82 84)]
abbrev q_impl_attrs : Pt := [(0, .lst .attr), (NT, .ns .h 82 84)]
noncomputable def m_impl_attrs : Tup p_impl_attrs → Option (Tup q_impl_attrs) := fun (x : Option Nat × List HN) => Option.bind (m_impl_kindOf (x.1, x.2)) fun (r : Node × List HN) => some (Node.attrs r.1, r.2)
noncomputable def cx_impl_attrs : Cx := ⟨tb, lookE [(60, e_impl_kindOf)], lookS []⟩
theorem ck_impl_attrs : CxOK Try.prog (cx_impl_attrs) := cx_ok tb_ok (.cons ok_impl_kindOf Try.call60 .nil)
noncomputable def e_impl_attrs : Ent := ⟨0, p_impl_attrs, q_impl_attrs, m_impl_attrs⟩
theorem ok_impl_attrs : FnOK Try.prog 40 e_impl_attrs := fn_ok (L := lookL []) ck_impl_attrs mixed Try.func40 rfl (by kernel_rfl) (by kernel_rfl) (ls_ok (l := []) (by kernel_rfl) .nil) (by intro x; kernel_rfl)
abbrev p_impl_AttrsAdded : Pt := [(0, .lst .attr), (1, .lst .str), (NT, .ns .h 82 84)]
abbrev q_impl_AttrsAdded : Pt := [(0, .lst .attr), (NT, .ns .h 82 84)]
noncomputable def m_impl_AttrsAdded : Tup p_impl_AttrsAdded → Option (Tup q_impl_AttrsAdded) := fun (x : List Attr × List (List UInt8) × List HN) => Option.bind (m_impl_element (x.1, x.2.2)) fun (r : List (Option Nat) × Option Nat × List HN) => Option.bind (m_goquery_Selection_AddClass (r.1, x.2.1, r.2.2)) fun (r_1 : PUnit × List HN) => Option.bind (m_impl_attrs (r.2.1, r_1.2)) fun (r : List Attr × List HN) => some (r.1, r.2)
noncomputable def cx_impl_AttrsAdded : Cx := ⟨tb, lookE [(38, e_impl_element), (39, e_goquery_Selection_AddClass), (40, e_impl_attrs)], lookS []⟩
theorem ck_impl_AttrsAdded : CxOK Try.prog (cx_impl_AttrsAdded) := cx_ok tb_ok (.cons ok_impl_element Try.call38 (.cons ok_goquery_Selection_AddClass Try.call39 (.cons ok_impl_attrs Try.call40 .nil)))
noncomputable def e_impl_AttrsAdded : Ent := ⟨0, p_impl_AttrsAdded, q_impl_AttrsAdded, m_impl_AttrsAdded⟩
theorem ok_impl_AttrsAdded : FnOK Try.prog 18 e_impl_AttrsAdded := fn_ok (L := lookL []) ck_impl_AttrsAdded mixed Try.func18 rfl (by kernel_rfl) (by kernel_rfl) (ls_ok (l := []) (by kernel_rfl) .nil) (by intro x; kernel_rfl)
abbrev p_impl_AttrsAdded_f : Pt := [(0, .lst .attr), (1, .lst .str)]
abbrev q_impl_AttrsAdded_f : Pt := [(0, .lst .attr)]
noncomputable def m_impl_AttrsAdded_f : Tup p_impl_AttrsAdded_f → Option (Tup q_impl_AttrsAdded_f) := frT 0 p_impl_AttrsAdded_f q_impl_AttrsAdded_f .h 82 84 (m_impl_AttrsAdded)
noncomputable def e_impl_AttrsAdded_f : Ent := ⟨0, p_impl_AttrsAdded_f, q_impl_AttrsAdded_f, m_impl_AttrsAdded_f⟩
theorem ok_impl_AttrsAdded_f : FnOK Try.prog 18 e_impl_AttrsAdded_f := fresh_ok (np := 0) (p := p_impl_AttrsAdded_f) (q := q_impl_AttrsAdded_f) (m := m_impl_AttrsAdded) ok_impl_AttrsAdded (by kernel_rfl) (by kernel_rfl)
abbrev p_impl_AttrsTaken : Pt := [(0, .lst .attr), (1, .lst .str), (NT, .ns .h 82 84)]
abbrev q_impl_AttrsTaken : Pt := [(0, .lst .attr), (NT, .ns .h 82 84)]
noncomputable def m_impl_AttrsTaken : Tup p_impl_AttrsTaken → Option (Tup q_impl_AttrsTaken) := fun (x : List Attr × List (List UInt8) × List HN) => Option.bind (m_impl_element (x.1, x.2.2)) fun (r : List (Option Nat) × Option Nat × List HN) => Option.bind (m_goquery_Selection_RemoveClass (r.1, x.2.1, r.2.2)) fun (r_1 : PUnit × List HN) => Option.bind (m_impl_attrs (r.2.1, r_1.2)) fun (r : List Attr × List HN) => some (r.1, r.2)
noncomputable def cx_impl_AttrsTaken : Cx := ⟨tb, lookE [(38, e_impl_element), (42, e_goquery_Selection_RemoveClass), (40, e_impl_attrs)], lookS []⟩
theorem ck_impl_AttrsTaken : CxOK Try.prog (cx_impl_AttrsTaken) := cx_ok tb_ok (.cons ok_impl_element Try.call38 (.cons ok_goquery_Selection_RemoveClass Try.call42 (.cons ok_impl_attrs Try.call40 .nil)))
noncomputable def e_impl_AttrsTaken : Ent := ⟨0, p_impl_AttrsTaken, q_impl_AttrsTaken, m_impl_AttrsTaken⟩
theorem ok_impl_AttrsTaken : FnOK Try.prog 22 e_impl_AttrsTaken := fn_ok (L := lookL []) ck_impl_AttrsTaken mixed Try.func22 rfl (by kernel_rfl) (by kernel_rfl) (ls_ok (l := []) (by kernel_rfl) .nil) (by intro x; kernel_rfl)
abbrev p_impl_AttrsTaken_f : Pt := [(0, .lst .attr), (1, .lst .str)]
abbrev q_impl_AttrsTaken_f : Pt := [(0, .lst .attr)]
noncomputable def m_impl_AttrsTaken_f : Tup p_impl_AttrsTaken_f → Option (Tup q_impl_AttrsTaken_f) := frT 0 p_impl_AttrsTaken_f q_impl_AttrsTaken_f .h 82 84 (m_impl_AttrsTaken)
noncomputable def e_impl_AttrsTaken_f : Ent := ⟨0, p_impl_AttrsTaken_f, q_impl_AttrsTaken_f, m_impl_AttrsTaken_f⟩
theorem ok_impl_AttrsTaken_f : FnOK Try.prog 22 e_impl_AttrsTaken_f := fresh_ok (np := 0) (p := p_impl_AttrsTaken_f) (q := q_impl_AttrsTaken_f) (m := m_impl_AttrsTaken) ok_impl_AttrsTaken (by kernel_rfl) (by kernel_rfl)
abbrev p_impl_AttrsClass : Pt := [(0, .lst .attr), (1, .str), (NT, .ns .h 82 84)]
abbrev q_impl_AttrsClass : Pt := [(0, .bool), (NT, .ns .h 82 84)]
noncomputable def m_impl_AttrsClass : Tup p_impl_AttrsClass → Option (Tup q_impl_AttrsClass) := fun (x : List Attr × List UInt8 × List HN) => Option.bind (m_impl_element (x.1, x.2.2)) fun (r : List (Option Nat) × Option Nat × List HN) => Option.bind (m_goquery_Selection_HasClass (r.1, x.2.1, r.2.2)) fun (r : Bool × List HN) => some (r.1, r.2)
noncomputable def cx_impl_AttrsClass : Cx := ⟨tb, lookE [(38, e_impl_element), (41, e_goquery_Selection_HasClass)], lookS []⟩
theorem ck_impl_AttrsClass : CxOK Try.prog (cx_impl_AttrsClass) := cx_ok tb_ok (.cons ok_impl_element Try.call38 (.cons ok_goquery_Selection_HasClass Try.call41 .nil))
noncomputable def e_impl_AttrsClass : Ent := ⟨0, p_impl_AttrsClass, q_impl_AttrsClass, m_impl_AttrsClass⟩
theorem ok_impl_AttrsClass : FnOK Try.prog 21 e_impl_AttrsClass := fn_ok (L := lookL []) ck_impl_AttrsClass mixed Try.func21 rfl (by kernel_rfl) (by kernel_rfl) (ls_ok (l := []) (by kernel_rfl) .nil) (by intro x; kernel_rfl)
abbrev p_impl_AttrsClass_f : Pt := [(0, .lst .attr), (1, .str)]
abbrev q_impl_AttrsClass_f : Pt := [(0, .bool)]
noncomputable def m_impl_AttrsClass_f : Tup p_impl_AttrsClass_f → Option (Tup q_impl_AttrsClass_f) := frT 0 p_impl_AttrsClass_f q_impl_AttrsClass_f .h 82 84 (m_impl_AttrsClass)
noncomputable def e_impl_AttrsClass_f : Ent := ⟨0, p_impl_AttrsClass_f, q_impl_AttrsClass_f, m_impl_AttrsClass_f⟩
theorem ok_impl_AttrsClass_f : FnOK Try.prog 21 e_impl_AttrsClass_f := fresh_ok (np := 0) (p := p_impl_AttrsClass_f) (q := q_impl_AttrsClass_f) (m := m_impl_AttrsClass) ok_impl_AttrsClass (by kernel_rfl) (by kernel_rfl)
end Go.Proofs.Ytcbmbmfenhoflaa.V
set_option linter.unusedVariables false
set_option linter.unusedSimpArgs false
namespace Go.Proofs.Ytcbmbmfenhoflaa.V
open Go
def classA : List UInt8 := [(99 : UInt8), (108 : UInt8), (97 : UInt8), (115 : UInt8), (115 : UInt8)]
def ha (a : Attr) : HAttr := ⟨[], a.key, a.val⟩
def ah (a : HAttr) : Attr := ⟨a.key, a.val⟩
def EL (xa : List HAttr) : HN := ⟨none, none, none, none, none, 3, 0, [97], [], xa⟩
theorem el_get (xa : List HAttr) : ([EL xa] : List HN)[0]? = some (EL xa) := rfl
theorem el_set (xa bs : List HAttr) : List.set [EL xa] 0 (HN.wa (EL xa) bs) = [EL bs] := rfl
theorem element_eq (l : List Attr) (h : l.length ≤ 1000) : m_impl_element (l, []) = some ([some 0], some 0, [EL (l.map ha)]) := by
  simp only [m_impl_element]
  have key : ∀ n k, l.length - k = n → k ≤ l.length → loopO m_impl_element_0 (some 0, l, (l.length : Int), (k : Int), [EL ((l.take k).map ha)]) = some (some 0, [EL (l.map ha)]) := by
    intro n
    induction n with
    | zero =>
      intro k hk h1
      have : k = l.length := by omega
      subst this
      refine loopO_out ?_
      simp only [m_impl_element_0, cond_dec]
      rw [if_neg (by omega), List.take_length]
    | succ n ih =>
      intro k hk h1
      obtain ⟨a, hka⟩ := get_lt (l := l) (k := k) (by omega)
      have htk : (l.take (k + 1)).map ha = (l.take k).map ha ++ [ha a] := by rw [List.take_add_one, hka]; simp
      have step : m_impl_element_0 (some 0, l, (l.length : Int), (k : Int), [EL ((l.take k).map ha)]) = some (.nx (some 0, l, (l.length : Int), ((k + 1 : Nat) : Int), [EL ((l.take (k + 1)).map ha)])) := by
        simp only [m_impl_element_0, cond_dec, atI_nat, hka, bind_some, el_get]
        have : (EL ((l.take k).map ha)).attrs = (l.take k).map ha := rfl
        rw [if_pos (by omega), this, appL_some (by simp; omega), bind_some, if_pos trivial, w64 (by omega) (by omega), htk]
        rfl
      rw [loopO_nx step, ih (k + 1) (by omega) (by omega)]
  have h0 := key l.length 0 (by omega) (Nat.zero_le _)
  rw [show loopO m_impl_element_0 (some ([] : List HN).length, l, (l.length : Int), (0 : Int), [] ++ [{ par := none, fst := none, lst := none, prv := none, nxt := none, ty := (3 : Int), atom := (0 : Int), data := [(97 : UInt8)], ns := [], attrs := [] }]) = _ from h0]
  rfl
theorem attrs_eq (xa : List HAttr) (h : xa.length ≤ 1000) : m_impl_attrs (some 0, [EL xa]) = some (xa.map ah, [EL xa]) := by
  simp only [m_impl_attrs, m_impl_kindOf, bind_some, el_get, cond_dec]
  have ty : (EL xa).ty = 3 := rfl
  have at9 : (EL xa).attrs = xa := rfl
  have dt : (EL xa).data = [97] := rfl
  rw [ty, at9, dt, if_neg (by decide), if_neg (by decide), if_neg (by decide), if_neg (by decide), if_pos rfl]
  have key : ∀ n k, xa.length - k = n → k ≤ xa.length → loopO m_impl_kindOf_0 ((⟨0, [], [], [], 0⟩ : Node), ((3 : Int), ([97] : List UInt8), ([] : List UInt8), (), (0 : Int)), (0 : Nat), (xa.length : Int), (k : Int), [EL xa], (xa.take k).map ah) = some ((⟨0, [], [], [], 0⟩ : Node), ((3 : Int), ([97] : List UInt8), ([] : List UInt8), (), (0 : Int)), [EL xa], xa.map ah) := by
    intro n
    induction n with
    | zero =>
      intro k hk h1
      have : k = xa.length := by omega
      subst this
      refine loopO_out ?_
      simp only [m_impl_kindOf_0, cond_dec]
      rw [if_neg (by omega), List.take_length]
    | succ n ih =>
      intro k hk h1
      obtain ⟨a, hka⟩ := get_lt (l := xa) (k := k) (by omega)
      have htk : (xa.take (k + 1)).map ah = (xa.take k).map ah ++ [ah a] := by rw [List.take_add_one, hka]; simp
      have step : m_impl_kindOf_0 ((⟨0, [], [], [], 0⟩ : Node), ((3 : Int), ([97] : List UInt8), ([] : List UInt8), (), (0 : Int)), (0 : Nat), (xa.length : Int), (k : Int), [EL xa], (xa.take k).map ah) = some (.nx ((⟨0, [], [], [], 0⟩ : Node), ((3 : Int), ([97] : List UInt8), ([] : List UInt8), (), (0 : Int)), (0 : Nat), (xa.length : Int), ((k + 1 : Nat) : Int), [EL xa], (xa.take (k + 1)).map ah)) := by
        simp only [m_impl_kindOf_0, cond_dec, bind_some, el_get, at9, atI_nat, Int.toNat_natCast, hka]
        rw [if_pos (by omega), w64 (by omega) (by omega), htk, appL_some (by simp; omega), bind_some]
        rfl
      rw [loopO_nx step, ih (k + 1) (by omega) (by omega)]
  have h0 := key xa.length 0 (by omega) (Nat.zero_le _)
  rw [show loopO m_impl_kindOf_0 ((⟨0, [], [], [], 0⟩ : Node), ((3 : Int), ([97] : List UInt8), ([] : List UInt8), (), (0 : Int)), (0 : Nat), (xa.length : Int), (0 : Int), [EL xa], []) = _ from h0]
  rfl
theorem ptr_eq (xa : List HAttr) (k : List UInt8) (h : xa.length ≤ 1000) : m_goquery_getAttributePtr (k, some 0, [EL xa]) = some ((xa.findIdx? fun a => decide (a.key = k)).map fun j => ((0 : Nat), j), [EL xa]) := by
  have at9 : (EL xa).attrs = xa := rfl
  simp only [m_goquery_getAttributePtr, Option.isNone_some, cond_false, bind_some, el_get, at9]
  have key : ∀ n i, xa.length - i = n → i ≤ xa.length → loopO m_goquery_getAttributePtr_0 (k, some 0, (0 : Nat), (xa.length : Int), (i : Int), [EL xa]) = some (match (xa.drop i).findIdx? (fun a => decide (a.key = k)) with | some j => .inr (some (0, i + j), [EL xa]) | none => .inl [EL xa]) := by
    intro n
    induction n with
    | zero =>
      intro i hi h1
      have : i = xa.length := by omega
      subst this
      refine loopO_out ?_
      simp only [m_goquery_getAttributePtr_0, cond_dec]
      rw [if_neg (by omega), List.drop_length]
      rfl
    | succ n ih =>
      intro i hi h1
      obtain ⟨a, hia⟩ := get_lt (l := xa) (k := i) (by omega)
      rw [drop_cons hia, List.findIdx?_cons]
      by_cases e : a.key = k
      · rw [decide_eq_true e, if_pos rfl]
        refine loopO_out ?_
        simp only [m_goquery_getAttributePtr_0, cond_dec, bind_some, el_get, at9, atI_nat, Int.toNat_natCast, hia]
        rw [if_pos (by omega), if_pos e]
        rfl
      · rw [decide_eq_false e, if_neg (by decide)]
        have step : m_goquery_getAttributePtr_0 (k, some 0, (0 : Nat), (xa.length : Int), (i : Int), [EL xa]) = some (.nx (k, some 0, (0 : Nat), (xa.length : Int), ((i + 1 : Nat) : Int), [EL xa])) := by
          simp only [m_goquery_getAttributePtr_0, cond_dec, bind_some, el_get, at9, atI_nat, Int.toNat_natCast, hia]
          rw [if_pos (by omega), if_neg e, w64 (by omega) (by omega)]
          rfl
        rw [loopO_nx step, ih (i + 1) (by omega) (by omega)]
        cases (xa.drop (i + 1)).findIdx? (fun a => decide (a.key = k)) with
        | none => rfl
        | some j => simp only [Option.map_some]; rw [show i + 1 + j = i + (j + 1) by omega]
  have h0 := key xa.length 0 (by omega) (Nat.zero_le _)
  rw [show loopO m_goquery_getAttributePtr_0 (k, some 0, (0 : Nat), (xa.length : Int), (0 : Int), [EL xa]) = _ from h0, bind_some, List.drop_zero]
  cases xa.findIdx? (fun a => decide (a.key = k)) with
  | none => rfl
  | some j => simp [selim_r]
def joinW : List (List UInt8) → List UInt8
  | [] => []
  | a :: r => a ++ r.flatMap fun b => 32 :: b
theorem write_ok (b : Bool) (s acc : List UInt8) (h : acc.length + s.length ≤ 2147483648) : m_strings_Builder_WriteString ((b, ()), s, acc) = some ((s.length : Int), false, (true, ()), acc ++ s) := by
  simp only [m_strings_Builder_WriteString, m_strings_Builder_copyCheck, bind_some]
  rw [appL_some h, bind_some]
theorem flat_le {r : List (List UInt8)} (hl : ∀ c ∈ r, c.length ≤ 40) : (r.flatMap fun b => (32 : UInt8) :: b).length ≤ 41 * r.length := by
  induction r with
  | nil => simp
  | cons a r ih =>
    have h1 := hl a (by simp)
    have h2 := ih fun c hc => hl c (by simp [hc])
    rw [List.flatMap_cons, List.length_append, List.length_cons, List.length_cons]
    omega
theorem join_len {l : List (List UInt8)} (hl : ∀ c ∈ l, c.length ≤ 40) : (joinW l).length ≤ 41 * l.length := by
  cases l with
  | nil => simp [joinW]
  | cons a r =>
    have h1 := hl a (by simp)
    have h2 := flat_le (r := r) fun c hc => hl c (by simp [hc])
    rw [joinW, List.length_append, List.length_cons]
    omega
theorem join_eq (l : List (List UInt8)) (h8 : l.length ≤ 8) (hl : ∀ c ∈ l, c.length ≤ 40) : m_strings_Join (l, [(32 : UInt8)]) = some (joinW l) := by
  simp only [m_strings_Join, cond_dec]
  match l, h8, hl with
  | [], _, _ => rfl
  | [a], _, _ => simp [atI_zero, joinW]
  | a :: b :: r, h8, hl =>
    have hlen : (a :: b :: r).length = r.length + 2 := rfl
    have h1 : List.length [(32 : UInt8)] = 1 := rfl
    rw [hlen, h1, if_neg (by omega), if_neg (by omega), if_pos (by decide)]
    have hd : ∃ n : Int, divI IntKind.i64 (9223372036854775807 : Int) (IntKind.wrap .i64 (((r.length + 2 : Nat) : Int) - (1 : Int))) = some n ∧ 1 < n := by
      rw [w64 (by omega) (by omega)]
      have hr : r.length = 0 ∨ r.length = 1 ∨ r.length = 2 ∨ r.length = 3 ∨ r.length = 4 ∨ r.length = 5 ∨ r.length = 6 := by simp at h8; omega
      rcases hr with h | h | h | h | h | h | h <;> (rw [h]; exact ⟨_, rfl, by decide⟩)
    obtain ⟨n, hn, hn1⟩ := hd
    rw [hn, bind_some, if_neg (by omega)]
    have hw : IntKind.wrap .i64 ((0 : Int) + IntKind.wrap .i64 (((1 : Nat) : Int) * IntKind.wrap .i64 (((r.length + 2 : Nat) : Int) - (1 : Int)))) = ((r.length + 1 : Nat) : Int) := by
      rw [w64 (n := ((r.length + 2 : Nat) : Int) - 1) (by omega) (by omega), w64 (n := ((1 : Nat) : Int) * _) (by omega) (by omega), w64 (by omega) (by omega)]
      omega
    rw [hw]
    have sum : ∀ m k N : Nat, (a :: b :: r).length - k = m → k ≤ (a :: b :: r).length → N ≤ 1000 + 40 * k → ∃ N' : Nat, loopO m_strings_Join_0 (a :: b :: r, [(32 : UInt8)], (N : Int), a :: b :: r, ((r.length + 2 : Nat) : Int), (k : Int)) = some (a :: b :: r, [(32 : UInt8)], (N' : Int)) ∧ N' ≤ 2000 := by
      intro m
      induction m with
      | zero =>
        intro k N hk h2 h3
        refine ⟨N, loopO_out ?_, by omega⟩
        simp only [m_strings_Join_0, cond_dec]
        rw [if_neg (by omega)]
      | succ m ih =>
        intro k N hk h2 h3
        obtain ⟨c, hc⟩ := get_lt (l := a :: b :: r) (k := k) (by omega)
        have hcl := hl c (List.mem_of_getElem? hc)
        have step : m_strings_Join_0 (a :: b :: r, [(32 : UInt8)], (N : Int), a :: b :: r, ((r.length + 2 : Nat) : Int), (k : Int)) = some (.nx (a :: b :: r, [(32 : UInt8)], ((N + c.length : Nat) : Int), a :: b :: r, ((r.length + 2 : Nat) : Int), ((k + 1 : Nat) : Int))) := by
          simp only [m_strings_Join_0, cond_dec, atI_nat, hc, bind_some]
          rw [if_pos (by omega), w64 (n := 9223372036854775807 - _) (by omega) (by omega), if_neg (by omega), w64 (n := (N : Int) + _) (by omega) (by omega), w64 (n := (k : Int) + 1) (by omega) (by omega)]
          rfl
        rw [loopO_nx step]
        exact ih (k + 1) (N + c.length) (by omega) (by omega) (by omega)
    obtain ⟨N, hN, hN2⟩ := sum (r.length + 2) 0 (r.length + 1) (by rw [hlen]; rfl) (Nat.zero_le _) (by simp at h8; omega)
    rw [show loopO m_strings_Join_0 (a :: b :: r, [(32 : UInt8)], ((r.length + 1 : Nat) : Int), a :: b :: r, ((r.length + 2 : Nat) : Int), (0 : Int)) = _ from hN, bind_some]
    have hG : m_strings_Builder_Grow (((), ()), (N : Int)) = some ((true, ()), []) := by
      simp only [m_strings_Builder_Grow]
      rw [decide_eq_true (by omega)]
      rfl
    have ha0 : a.length ≤ 40 := hl a (by simp)
    simp only
    rw [hG, bind_some, atI_zero]
    simp only [List.getElem?_cons_zero, bind_some]
    rw [write_ok _ _ _ (by simp; omega), bind_some]
    have hsub : subL (a :: b :: r) (1 : Int) ((r.length + 2 : Nat) : Int) = some (b :: r) := by
      have := subL_n (a :: b :: r) (lo := 1) (hi := r.length + 2) (by omega) (by rw [hlen]; exact Nat.le_refl _)
      rw [show ((1 : Nat) : Int) = 1 from rfl] at this
      rw [this, List.take_of_length_le (by rw [hlen]; exact Nat.le_refl _)]
      rfl
    simp only
    rw [hlen, hsub, bind_some]
    have hl2 : ∀ c ∈ b :: r, c.length ≤ 40 := fun c hc => hl c (by simp [List.mem_cons.1 hc])
    have wr : ∀ m k : Nat, ∀ (bb : Bool) (acc : List UInt8), (b :: r).length - k = m → k ≤ (b :: r).length → acc.length ≤ 100 + 41 * k → ∃ bb', loopO m_strings_Join_1 ([(32 : UInt8)], (bb, ()), b :: r, ((b :: r).length : Int), (k : Int), acc) = some ((bb', ()), acc ++ ((b :: r).drop k).flatMap fun b => 32 :: b) := by
      intro m
      induction m with
      | zero =>
        intro k bb acc hk h2 h3
        refine ⟨bb, loopO_out ?_⟩
        simp only [m_strings_Join_1, cond_dec]
        rw [if_neg (by omega), List.drop_eq_nil_of_le (by omega)]
        simp
      | succ m ih =>
        intro k bb acc hk h2 h3
        obtain ⟨c, hc⟩ := get_lt (l := b :: r) (k := k) (by omega)
        have hcl := hl2 c (List.mem_of_getElem? hc)
        have h9 : (b :: r).length ≤ 8 := by simp at h8 ⊢; omega
        have step : m_strings_Join_1 ([(32 : UInt8)], (bb, ()), b :: r, ((b :: r).length : Int), (k : Int), acc) = some (.nx ([(32 : UInt8)], (true, ()), b :: r, ((b :: r).length : Int), ((k + 1 : Nat) : Int), acc ++ [32] ++ c)) := by
          simp only [m_strings_Join_1, cond_dec, atI_nat, hc, bind_some]
          rw [if_pos (by omega), write_ok _ _ _ (by simp; omega), bind_some]
          simp only
          rw [write_ok _ _ _ (by simp; omega), bind_some, w64 (n := (k : Int) + 1) (by omega) (by omega)]
          rfl
        obtain ⟨bb', hb⟩ := ih (k + 1) true (acc ++ [32] ++ c) (by omega) (by omega) (by simp; omega)
        refine ⟨bb', ?_⟩
        rw [loopO_nx step, hb, drop_cons hc, List.flatMap_cons]
        simp
    obtain ⟨bb', hb⟩ := wr (r.length + 1) 0 true ([] ++ a) (by simp) (Nat.zero_le _) (by simp; omega)
    rw [show loopO m_strings_Join_1 ([(32 : UInt8)], (true, ()), b :: r, ((b :: r).length : Int), (0 : Int), [] ++ a) = _ from hb, bind_some]
    have hfl := flat_le hl2
    have hj : [] ++ a ++ ((b :: r).drop 0).flatMap (fun b => (32 : UInt8) :: b) = joinW (a :: b :: r) := by simp [joinW]
    simp only
    rw [hj]
    have hjl := join_len hl
    simp only [m_strings_Builder_String]
    have : Nat.ble (joinW (a :: b :: r)).length 2147483648 = true := by rw [Nat.ble_eq]; simp at h8 hjl; omega
    rw [this]
    rfl
theorem join_words : ∀ {l : List (List UInt8)}, (∀ c ∈ l, c ≠ [] ∧ ∀ x ∈ c, isSp x = false) → wordsL (joinW l) = l
  | [], _ => by simp [joinW, wordsL_nil]
  | [a], h => by
    have := h a (by simp)
    simp [joinW, wordsL_one this.1 this.2]
  | a :: b :: r, h => by
    have h1 := h a (by simp)
    have : joinW (a :: b :: r) = a ++ 32 :: joinW (b :: r) := by simp [joinW]
    rw [this, wordsL_app h1.2 sp32, if_neg h1.1, join_words fun c hc => h c (by simp [List.mem_cons.1 hc])]
    rfl
end Go.Proofs.Ytcbmbmfenhoflaa.V
set_option linter.unusedVariables false
set_option linter.unusedSimpArgs false
namespace Go.Proofs.Ytcbmbmfenhoflaa.V
open Go
def fk (ks : List (List UInt8)) (k : List UInt8) : Option Nat := ks.findIdx? fun x => decide (x = k)
theorem fk_some {ks : List (List UInt8)} {k : List UInt8} {j : Nat} : fk ks k = some j ↔ ks[j]? = some k ∧ ∀ i, i < j → ks[i]? ≠ some k := by
  unfold fk
  rw [List.findIdx?_eq_some_iff_getElem]
  constructor
  · rintro ⟨h1, h2, h3⟩
    have h2 := of_decide_eq_true h2
    refine ⟨by rw [List.getElem?_eq_getElem h1, h2], fun i hi e => ?_⟩
    obtain ⟨h4, h5⟩ := List.getElem?_eq_some_iff.1 e
    exact h3 i hi (by simp [h5])
  · rintro ⟨h1, h2⟩
    obtain ⟨h3, h4⟩ := List.getElem?_eq_some_iff.1 h1
    refine ⟨h3, by simp [h4], fun i hi e => ?_⟩
    have e := of_decide_eq_true e
    exact h2 i hi (by rw [List.getElem?_eq_getElem (by omega), e])
theorem fk_none {ks : List (List UInt8)} {k : List UInt8} : fk ks k = none ↔ k ∉ ks := by
  unfold fk
  rw [List.findIdx?_eq_none_iff]
  constructor
  · intro h hk
    have := h k hk
    simp at this
  · intro h x hx
    simp only [decide_eq_false_iff_not]
    exact fun e => h (e ▸ hx)
def vl (xa : List Attr) (k : List UInt8) : Option (List UInt8) := (fk (xa.map (·.key)) k).bind fun j => (xa[j]?).map (·.val)
theorem vl_some {xa : List Attr} {k : List UInt8} {j : Nat} {a : Attr} (h : fk (xa.map (·.key)) k = some j) (ha : xa[j]? = some a) : vl xa k = some a.val := by
  simp [vl, h, ha]
theorem vl_ex {xa : List Attr} {k v : List UInt8} (h : vl xa k = some v) : ∃ j a, fk (xa.map (·.key)) k = some j ∧ xa[j]? = some a ∧ a.val = v ∧ a.key = k := by
  unfold vl at h
  obtain ⟨j, hj, h⟩ := Option.bind_eq_some_iff.1 h
  obtain ⟨a, ha, h⟩ := Option.map_eq_some_iff.1 h
  refine ⟨j, a, hj, ha, h, ?_⟩
  have := (fk_some.1 hj).1
  rw [List.getElem?_map, ha] at this
  simpa using this
theorem vl_none {xa : List Attr} {k : List UInt8} : vl xa k = none ↔ fk (xa.map (·.key)) k = none := by
  unfold vl
  cases h : fk (xa.map (·.key)) k with
  | none => simp
  | some j =>
    have := (fk_some.1 h).1
    rw [List.getElem?_map] at this
    obtain ⟨a, ha, _⟩ := Option.map_eq_some_iff.1 this
    simp [ha]
theorem attr_vl (xa : List Attr) (k : List UInt8) (h : xa.length ≤ 1000) : m_laws_val7 (xa, k) = some (match vl xa k with | some v => (v, true) | none => ([], false)) := by
  simp only [m_laws_val7, m_spec_Attr]
  have key : ∀ n i, xa.length - i = n → i ≤ xa.length → (∀ j, j < i → (xa.map (·.key))[j]? ≠ some k) → loopO m_spec_Attr_0 (k, (⟨0, [], [], xa, 0⟩ : Node), (i : Int)) = some (match vl xa k with | some v => .inr (v, true) | none => .inl ()) := by
    intro n
    induction n with
    | zero =>
      intro i hi h1 h2
      have : i = xa.length := by omega
      subst this
      refine loopO_out ?_
      have hn : vl xa k = none := by
        rw [vl_none, fk_none]
        intro hk
        obtain ⟨j, hj⟩ := List.mem_iff_getElem?.1 hk
        have := (List.getElem?_eq_some_iff.1 hj).1
        exact h2 j (by simpa using this) hj
      simp only [m_spec_Attr_0, cond_dec]
      rw [if_neg (by omega), hn]
    | succ n ih =>
      intro i hi h1 h2
      obtain ⟨a, hia⟩ := get_lt (l := xa) (k := i) (by omega)
      by_cases e : a.key = k
      · have hv : vl xa k = some a.val := vl_some (fk_some.2 ⟨by rw [List.getElem?_map, hia, ← e]; rfl, h2⟩) hia
        refine loopO_out ?_
        simp only [m_spec_Attr_0, cond_dec, atI_nat, hia, bind_some]
        rw [if_pos (by omega), if_pos e, hv]
      · have step : m_spec_Attr_0 (k, (⟨0, [], [], xa, 0⟩ : Node), (i : Int)) = some (.nx (k, (⟨0, [], [], xa, 0⟩ : Node), ((i + 1 : Nat) : Int))) := by
          simp only [m_spec_Attr_0, cond_dec, atI_nat, hia, bind_some]
          rw [if_pos (by omega), if_neg e, w64 (by omega) (by omega)]
          rfl
        rw [loopO_nx step]
        refine ih (i + 1) (by omega) (by omega) fun j hj hk => ?_
        rcases Nat.lt_succ_iff_lt_or_eq.1 hj with hj | rfl
        · exact h2 j hj hk
        · rw [List.getElem?_map, hia] at hk
          exact e (by simpa using hk)
  have h0 := key xa.length 0 (by omega) (Nat.zero_le _) (fun j hj => by omega)
  rw [show loopO m_spec_Attr_0 (k, (⟨0, [], [], xa, 0⟩ : Node), (0 : Int)) = _ from h0, bind_some]
  cases vl xa k <;> rfl
theorem ah_key (xa : List HAttr) : (xa.map ah).map (·.key) = xa.map (·.key) := by simp [ah]
theorem fi_fk (xa : List HAttr) (k : List UInt8) : (xa.findIdx? fun a => decide (a.key = k)) = fk (xa.map (·.key)) k := by
  unfold fk
  rw [List.findIdx?_map]
  rfl
structure Wr (xa xb : List HAttr) (t : List UInt8) : Prop where
  cls : vl (xb.map ah) classA = some t
  oth : ∀ k, k ≠ classA → vl (xb.map ah) k = vl (xa.map ah) k
  len : xb.length ≤ xa.length + 1
structure Ens (xa xb : List HAttr) (j : Nat) (v : List UInt8) : Prop where
  first : fk (xb.map (·.key)) classA = some j
  val : ∃ a, xb[j]? = some a ∧ a.val = v
  oth : ∀ k, k ≠ classA → vl (xb.map ah) k = vl (xa.map ah) k
  len : xb.length ≤ xa.length + 1
theorem Ens.put {xa xb : List HAttr} {j : Nat} {v t : List UInt8} (h : Ens xa xb j v) {a : HAttr} (ha : xb[j]? = some a) : Wr xa (xb.set j ⟨a.ns, a.key, t⟩) t := by
  have hk : (xb.set j ⟨a.ns, a.key, t⟩).map (·.key) = xb.map (·.key) := by
    rw [List.map_set]
    apply List.ext_getElem?
    intro i
    by_cases e : j = i
    · subst e
      have hl := (List.getElem?_eq_some_iff.1 ha).1
      rw [List.getElem?_set_self (by simpa using hl), List.getElem?_map, ha]
      rfl
    · rw [List.getElem?_set_ne e]
  have hl := (List.getElem?_eq_some_iff.1 ha).1
  refine ⟨?_, fun k hk9 => ?_, by rw [List.length_set]; exact h.len⟩
  · have := vl_some (xa := (xb.set j ⟨a.ns, a.key, t⟩).map ah) (k := classA) (j := j) (a := ⟨a.key, t⟩) (by rw [ah_key, hk]; exact h.first) (by rw [List.getElem?_map, List.getElem?_set_self hl]; rfl)
    exact this
  · rw [← h.oth k hk9]
    unfold vl
    rw [ah_key, ah_key, hk]
    cases hf : fk (xb.map (·.key)) k with
    | none => rfl
    | some i =>
      have hij : j ≠ i := fun e => by
        subst e
        have h1 := (fk_some.1 hf).1
        have h2 := (fk_some.1 h.first).1
        rw [h1] at h2
        exact hk9 (Option.some.inj h2)
      simp only [bind_some, List.getElem?_map]
      rw [List.getElem?_set_ne hij]
theorem gca_eq (xa : List HAttr) (v : List UInt8) (hl : xa.length ≤ 100) (hv : (vl (xa.map ah) classA).getD [] = v) (hvl : v.length ≤ 100000) :
    ∃ xb j, m_goquery_getClassesAndAttr (some 0, [EL xa]) = some ((32 :: (v ++ [32])).map tr1, some (0, j), [EL xb]) ∧ Ens xa xb j v ∧ (vl (xa.map ah) classA = none → xb = xa ++ [⟨[], classA, []⟩] ∧ j = xa.length) ∧ (vl (xa.map ah) classA ≠ none → xb = xa) := by
  have at9 : ∀ y, (EL y).attrs = y := fun _ => rfl
  have ty : (EL xa).ty = 3 := rfl
  have hp : m_goquery_getAttributePtr ([(99 : UInt8), (108 : UInt8), (97 : UInt8), (115 : UInt8), (115 : UInt8)], some 0, [EL xa]) = _ := ptr_eq xa classA (by omega)
  rw [fi_fk] at hp
  have tail : ∀ (w : List UInt8), w = v → (catS [(32 : UInt8)] w).bind (fun r => (catS r [(32 : UInt8)]).bind fun r => m_goquery_zzClassTrim r) = some ((32 :: (v ++ [32])).map tr1) := fun w hw => by
    subst hw
    rw [catS_ok (by simp; omega), bind_some, catS_ok (by simp; omega), bind_some, classTrim_eq _ (by simp; omega)]
    rfl
  cases hf : fk (xa.map (·.key)) classA with
  | some j =>
    rw [hf] at hp
    have hg := (fk_some.1 hf).1
    rw [List.getElem?_map] at hg
    obtain ⟨a, hja, hkey⟩ := Option.map_eq_some_iff.1 hg
    have hval : vl (xa.map ah) classA = some a.val := vl_some (a := ah a) (by rw [ah_key]; exact hf) (by rw [List.getElem?_map, hja]; rfl)
    rw [hval] at hv
    have hv : a.val = v := hv
    refine ⟨xa, j, ?_, ⟨hf, ⟨a, hja, hv⟩, fun _ _ => rfl, by omega⟩, ⟨fun h => (by rw [hval] at h; cases h), fun _ => rfl⟩⟩
    simp only [m_goquery_getClassesAndAttr, bind_some, el_get, cond_dec]
    rw [ty, if_pos rfl, hp, bind_some]
    simp only [Option.map_some, Option.isNone_some, cond_false, bind_some, el_get, at9, hja]
    have := tail a.val hv
    rw [catS_ok (by rw [hv]; simp; omega), bind_some, catS_ok (by rw [hv]; simp; omega), bind_some] at this ⊢
    rw [this, bind_some]
  | none =>
    rw [hf] at hp
    have hnone : vl (xa.map ah) classA = none := by rw [vl_none, ah_key]; exact hf
    rw [hnone] at hv
    have hv : v = [] := hv.symm
    subst hv
    have hlast : (xa ++ [(⟨[], classA, []⟩ : HAttr)])[xa.length]? = some ⟨[], classA, []⟩ := by simp
    refine ⟨xa ++ [⟨[], classA, []⟩], xa.length, ?_, ⟨?_, ⟨_, hlast, rfl⟩, fun k hk => ?_, by simp⟩, fun _ => ⟨rfl, rfl⟩, fun h => absurd hnone h⟩
    · simp only [m_goquery_getClassesAndAttr, bind_some, el_get, cond_dec]
      rw [ty, if_pos rfl, hp, bind_some]
      simp only [Option.map_none, Option.isNone_none, cond_true, bind_some, el_get, at9]
      rw [appL_some (by simp; omega), bind_some, if_pos trivial]
      simp only [el_set, el_get, bind_some, at9]
      have hw : IntKind.wrap .i64 (((xa ++ [(⟨[], [(99 : UInt8), (108 : UInt8), (97 : UInt8), (115 : UInt8), (115 : UInt8)], []⟩ : HAttr)]).length : Int) - (1 : Int)) = ((xa.length : Nat) : Int) := by rw [w64 (by simp only [List.length_append, List.length_cons, List.length_nil]; omega) (by simp only [List.length_append, List.length_cons, List.length_nil]; omega)]; simp only [List.length_append, List.length_cons, List.length_nil]; omega
      have hlast' : (xa ++ [(⟨[], [(99 : UInt8), (108 : UInt8), (97 : UInt8), (115 : UInt8), (115 : UInt8)], []⟩ : HAttr)])[xa.length]? = some ⟨[], classA, []⟩ := hlast
      rw [hw, atI_nat, Int.toNat_natCast, hlast', bind_some, bind_some]
      have := tail [] rfl
      rw [catS_ok (by simp), bind_some, catS_ok (by simp), bind_some] at this ⊢
      rw [this, bind_some]
      rfl
    · rw [fk_some]
      refine ⟨by rw [List.getElem?_map, hlast]; rfl, fun i hi e => ?_⟩
      rw [List.getElem?_map, List.getElem?_append_left hi, ← List.getElem?_map] at e
      exact (fk_none.1 hf) (List.mem_of_getElem? e)
    · unfold vl
      rw [ah_key, ah_key]
      have : fk ((xa ++ [(⟨[], classA, []⟩ : HAttr)]).map (·.key)) k = fk (xa.map (·.key)) k := by
        cases h : fk (xa.map (·.key)) k with
        | none =>
          rw [fk_none] at h ⊢
          simp only [List.map_append, List.map_cons, List.map_nil, List.mem_append, List.mem_singleton, not_or]
          exact ⟨h, hk⟩
        | some i =>
          obtain ⟨h1, h2⟩ := fk_some.1 h
          have hi := (List.getElem?_eq_some_iff.1 h1).1
          rw [fk_some, List.map_append]
          refine ⟨by rw [List.getElem?_append_left hi]; exact h1, fun i' hi' => ?_⟩
          rw [List.getElem?_append_left (by omega)]
          exact h2 i' hi'
      rw [this]
      cases h : fk (xa.map (·.key)) k with
      | none => rfl
      | some i =>
        have h1 := (fk_some.1 h).1
        have hi := (List.getElem?_eq_some_iff.1 h1).1
        simp only [bind_some, List.getElem?_map]
        rw [List.getElem?_append_left (by simpa using hi)]
end Go.Proofs.Ytcbmbmfenhoflaa.V
set_option linter.unusedVariables false
set_option linter.unusedSimpArgs false
namespace Go.Proofs.Ytcbmbmfenhoflaa.V
open Go
theorem nil_byt : Array.toList (ByteArray.data { data := #[] }) = [] := rfl
structure NW (c : List UInt8) : Prop where
  ne : c ≠ []
  sp : ∀ x ∈ c, isSp x = false
  nv : NV c
  len : c.length ≤ 40
structure Cur (s : List UInt8) : Prop where
  nv : NV s
  blk : Blk32 s
  front : ∃ r, s = 32 :: r
  back : ∃ r, s = r ++ [32]
def addW (ws : List (List UInt8)) : List (List UInt8) → List (List UInt8)
  | [] => ws
  | c :: cs => addW (if c ∈ ws then ws else ws ++ [c]) cs
theorem nv32 : (32 : UInt8).toNat < 128 ∧ (32 : UInt8).toNat ≠ 11 := by decide
theorem Cur.add {s c : List UInt8} (h : Cur s) (hc : NW c) : Cur (s ++ (c ++ [32])) ∧ wordsL (s ++ (c ++ [32])) = wordsL s ++ [c] := by
  obtain ⟨r, hr⟩ := h.front
  obtain ⟨q, hq⟩ := h.back
  refine ⟨⟨fun x hx => ?_, fun x hx hs => ?_, ⟨r ++ (c ++ [32]), by rw [hr]; rfl⟩, ⟨s ++ c, by simp⟩⟩, ?_⟩
  · rcases List.mem_append.1 hx with hx | hx
    · exact h.nv x hx
    · rcases List.mem_append.1 hx with hx | hx
      · exact hc.nv x hx
      · rw [List.mem_singleton.1 hx]; exact nv32
  · rcases List.mem_append.1 hx with hx | hx
    · exact h.blk x hx hs
    · rcases List.mem_append.1 hx with hx | hx
      · rw [hc.sp x hx] at hs; cases hs
      · exact List.mem_singleton.1 hx
  · have e : s ++ (c ++ [32]) = q ++ 32 :: (c ++ [32]) := by rw [hq]; simp
    rw [e, wordsL_cat sp32, wordsL_back sp32, wordsL_one hc.ne hc.sp]
    rw [hq, wordsL_back sp32]
theorem cur_of {v : List UInt8} (hv : NV v) (h12 : ∀ c ∈ v, c.toNat ≠ 12) : Cur ((32 :: (v ++ [32])).map tr1) ∧ wordsL ((32 :: (v ++ [32])).map tr1) = wordsL v := by
  have t32 : tr1 32 = 32 := by decide
  have hmap : (32 :: (v ++ [32])).map tr1 = 32 :: (v.map tr1 ++ [32]) := by simp [t32]
  have nv1 : ∀ c : UInt8, c.toNat < 128 ∧ c.toNat ≠ 11 → (tr1 c).toNat < 128 ∧ (tr1 c).toNat ≠ 11 := fun c hc => by
    unfold tr1
    split
    · exact nv32
    · exact hc
  have b1 : ∀ c : UInt8, c.toNat ≠ 12 → isSp (tr1 c) = true → tr1 c = 32 := fun c hc hs => by
    unfold tr1 at hs ⊢
    split at hs
    · rename_i h; rw [if_pos h]
    · rename_i h
      rw [if_neg h]
      simp only [isSp, Bool.or_eq_true, decide_eq_true_eq] at hs
      apply UInt8.toNat_inj.1
      have : (32 : UInt8).toNat = 32 := rfl
      omega
  refine ⟨⟨fun x hx => ?_, fun x hx hs => ?_, ⟨_, hmap⟩, ⟨32 :: v.map tr1, by rw [hmap]; rfl⟩⟩, ?_⟩
  · rw [hmap] at hx
    rcases List.mem_cons.1 hx with rfl | hx
    · exact nv32
    · rcases List.mem_append.1 hx with hx | hx
      · obtain ⟨c, hc, rfl⟩ := List.mem_map.1 hx
        exact nv1 c (hv c hc)
      · rw [List.mem_singleton.1 hx]; exact nv32
  · rw [hmap] at hx
    rcases List.mem_cons.1 hx with rfl | hx
    · rfl
    · rcases List.mem_append.1 hx with hx | hx
      · obtain ⟨c, hc, rfl⟩ := List.mem_map.1 hx
        exact b1 c (h12 c hc) hs
      · exact List.mem_singleton.1 hx
  · rw [hmap, wordsL_front sp32, wordsL_back sp32]
    have key : ∀ n (v : List UInt8), v.length = n → wordsL (v.map tr1) = wordsL v := by
      intro n
      induction n using Nat.strongRecOn with
      | _ n ih =>
        intro v hn
        have spt : ∀ c : UInt8, isSp (tr1 c) = isSp c := fun c => by
          unfold tr1
          split
          · rename_i h
            have : isSp c = true := by
              simp only [isSp, Bool.or_eq_true, decide_eq_true_eq]
              omega
            rw [this]; decide
          · rfl
        have same : ∀ c : UInt8, isSp c = false → tr1 c = c := fun c hc => by
          unfold tr1
          rw [if_neg]
          intro h
          have : isSp c = true := by
            simp only [isSp, Bool.or_eq_true, decide_eq_true_eq]
            omega
          rw [this] at hc; cases hc
        by_cases h : ∃ c ∈ v, isSp c = true
        · obtain ⟨w, c, b, rfl, hw, hc⟩ : ∃ w c b, v = w ++ c :: b ∧ (∀ d ∈ w, isSp d = false) ∧ isSp c = true := by
            clear ih hn
            induction v with
            | nil => obtain ⟨c, hc, _⟩ := h; cases hc
            | cons d a ih =>
              by_cases hd : isSp d = true
              · exact ⟨[], d, a, rfl, by simp, hd⟩
              · obtain ⟨c, hc, h2⟩ := h
                rcases List.mem_cons.1 hc with rfl | hc
                · exact absurd h2 hd
                · obtain ⟨w, c', b, rfl, h3, h4⟩ := ih ⟨c, hc, h2⟩
                  refine ⟨d :: w, c', b, rfl, fun e he => ?_, h4⟩
                  rcases List.mem_cons.1 he with rfl | he
                  · simpa using hd
                  · exact h3 e he
          have hmw : w.map tr1 = w := by
            conv => rhs; rw [← List.map_id w]
            exact List.map_congr_left fun d hd => same d (hw d hd)
          rw [List.map_append, List.map_cons, hmw, wordsL_app hw (by rw [spt]; exact hc), wordsL_app hw hc, ih b.length (by rw [← hn]; simp; omega) b rfl]
        · have hmw : v.map tr1 = v := by
            conv => rhs; rw [← List.map_id v]
            refine List.map_congr_left fun d hd => same d ?_
            cases hb : isSp d with
            | false => rfl
            | true => exact absurd ⟨d, hd, hb⟩ h
          rw [hmw]
    exact key _ v rfl
theorem contains_cur {s c : List UInt8} (h : Cur s) (hc : NW c) (hl : s.length ≤ 2147483647) : m_goquery_zzContains (s, 32 :: (c ++ [32])) = some (decide (c ∈ wordsL s)) := by
  obtain ⟨b, hb, hi⟩ := contains_eq s (32 :: (c ++ [32])) hl (by have := hc.len; simp; omega)
  rw [hb]
  have := inf_word hc.ne hc.sp h.blk h.front h.back
  rw [this] at hi
  congr 1
  rw [Bool.eq_iff_iff, decide_eq_true_eq]
  exact hi
theorem pad_ok {c : List UInt8} (hc : NW c) : (catS [(32 : UInt8)] c) = some (32 :: c) ∧ catS (32 :: c) [(32 : UInt8)] = some (32 :: (c ++ [32])) ∧ catS c [(32 : UInt8)] = some (c ++ [32]) := by
  have := hc.len
  exact ⟨catS_ok (by simp; omega), catS_ok (by simp; omega), catS_ok (by simp; omega)⟩
theorem add_loop (B : Nat) (hB : B ≤ 100000) (N1 N2 : List (Option Nat)) (ia ib : Int) (j : Nat) (S : List HN) (cs : List (List UInt8)) (h8 : cs.length ≤ 8) (hcs : ∀ c ∈ cs, NW c) : ∀ m k (cur : List UInt8), cs.length - k = m → k ≤ cs.length → Cur cur → cur.length ≤ B + 41 * k →
    ∃ cur' : List UInt8, loopO m_goquery_Selection_AddClass_0_0 (N1, cs, some 0, cur, some (0, j), N2, ia, ib, (), (cs.length : Int), (k : Int), S) = some (N1, cs, some 0, cur', some (0, j), N2, ia, ib, S) ∧ Cur cur' ∧ cur'.length ≤ B + 41 * cs.length ∧ wordsL cur' = addW (wordsL cur) (cs.drop k) := by
  intro m
  induction m with
  | zero =>
    intro k cur hk h1 h2 h3
    refine ⟨cur, loopO_out ?_, h2, by omega, ?_⟩
    · simp only [m_goquery_Selection_AddClass_0_0, cond_dec]
      rw [if_neg (by omega)]
    · rw [List.drop_eq_nil_of_le (by omega)]
      rfl
  | succ m ih =>
    intro k cur hk h1 h2 h3
    obtain ⟨c, hc⟩ := get_lt (l := cs) (k := k) (by omega)
    have hw := hcs c (List.mem_of_getElem? hc)
    obtain ⟨p1, p2, p3⟩ := pad_ok hw
    have hcl := hw.len
    have hcon := contains_cur h2 hw (by omega)
    rw [drop_cons hc]
    by_cases hin : c ∈ wordsL cur
    · rw [decide_eq_true hin] at hcon
      have step : m_goquery_Selection_AddClass_0_0 (N1, cs, some 0, cur, some (0, j), N2, ia, ib, (), (cs.length : Int), (k : Int), S) = some (.nx (N1, cs, some 0, cur, some (0, j), N2, ia, ib, (), (cs.length : Int), ((k + 1 : Nat) : Int), S)) := by
        simp only [m_goquery_Selection_AddClass_0_0, cond_dec, atI_nat, Int.toNat_natCast, hc, bind_some, p1, p2, hcon, Bool.not_true, cond_false]
        rw [if_pos (by omega), w64 (by omega) (by omega)]
        rfl
      obtain ⟨cur', g1, g2, g3, g4⟩ := ih (k + 1) cur (by omega) (by omega) h2 (by omega)
      refine ⟨cur', ?_, g2, g3, ?_⟩
      · rw [loopO_nx step, g1]
      · rw [g4, addW, if_pos hin]
    · rw [decide_eq_false hin] at hcon
      have step : m_goquery_Selection_AddClass_0_0 (N1, cs, some 0, cur, some (0, j), N2, ia, ib, (), (cs.length : Int), (k : Int), S) = some (.nx (N1, cs, some 0, cur ++ (c ++ [32]), some (0, j), N2, ia, ib, (), (cs.length : Int), ((k + 1 : Nat) : Int), S)) := by
        simp only [m_goquery_Selection_AddClass_0_0, cond_dec, atI_nat, Int.toNat_natCast, hc, bind_some, p1, p2, p3, hcon, Bool.not_false, cond_true]
        rw [if_pos (by omega), w64 (by omega) (by omega), catS_ok (by simp; omega), bind_some]
        rfl
      obtain ⟨a1, a2⟩ := h2.add hw
      obtain ⟨cur', g1, g2, g3, g4⟩ := ih (k + 1) (cur ++ (c ++ [32])) (by omega) (by omega) a1 (by simp; omega)
      refine ⟨cur', ?_, g2, g3, ?_⟩
      · rw [loopO_nx step, g1]
      · rw [g4, addW, if_neg hin, a2]
theorem NV.mid {a t b : List UInt8} (h : NV (a ++ t ++ b)) : NV t := fun x hx => h x (by simp [hx])
theorem nv_join : ∀ {l : List (List UInt8)}, (∀ c ∈ l, NW c) → NV (joinW l)
  | [], _ => fun x hx => by simp [joinW] at hx
  | [a], h => fun x hx => by
    have hx : x ∈ a := by simpa [joinW] using hx
    exact (h a (by simp)).nv x hx
  | a :: b :: r, h => fun x hx => by
    have e : joinW (a :: b :: r) = a ++ 32 :: joinW (b :: r) := by simp [joinW]
    rw [e] at hx
    rcases List.mem_append.1 hx with hx | hx
    · exact (h a (by simp)).nv x hx
    · rcases List.mem_cons.1 hx with rfl | hx
      · exact nv32
      · exact nv_join (l := b :: r) (fun c hc => h c (by simp [List.mem_cons.1 hc])) x hx
theorem addW_ne {ws cs : List (List UInt8)} (h : ws ≠ [] ∨ cs ≠ []) : addW ws cs ≠ [] := by
  induction cs generalizing ws with
  | nil =>
    rcases h with h | h
    · exact h
    · exact absurd rfl h
  | cons c cs ih =>
    rw [addW]
    refine ih (.inl ?_)
    split
    · rename_i hc
      intro e
      rw [e] at hc
      cases hc
    · simp
theorem addClass_eq (xa : List HAttr) (cs : List (List UInt8)) (v : List UInt8) (hl : xa.length ≤ 100) (hv : (vl (xa.map ah) classA).getD [] = v) (hvl : v.length ≤ 9000) (hnv : NV v) (h12 : ∀ c ∈ v, c.toNat ≠ 12) (h0 : cs ≠ []) (h8 : cs.length ≤ 8) (hcs : ∀ c ∈ cs, NW c) :
    ∃ (xc : List HAttr) (t : List UInt8), m_goquery_Selection_AddClass ([some 0], cs, [EL xa]) = some ((), [EL xc]) ∧ Wr xa xc t ∧ NV t ∧ (∀ c ∈ t, c.toNat ≠ 12) ∧ t.length ≤ v.length + 2 + 41 * cs.length ∧ wordsL t = addW (wordsL v) cs := by
  have hl40 : ∀ c ∈ cs, c.length ≤ 40 := fun c hc => (hcs c hc).len
  have hjw := join_words (l := cs) fun c hc => ⟨(hcs c hc).ne, (hcs c hc).sp⟩
  have hjl := join_len hl40
  obtain ⟨t0, a0, b0, ht0, hs0, ha0, hb0⟩ := trim_eq (joinW cs) (by omega) (nv_join hcs)
  have hw0 : wordsL t0 = cs := by rw [← trim_words hs0 ha0 hb0]; exact hjw
  have ht0n : t0 ≠ [] := fun e => by rw [e, wordsL_nil] at hw0; exact h0 hw0.symm
  have ht0l : t0.length ≤ 1000 := by
    have := congrArg List.length hs0
    simp at this
    omega
  have hf0 : m_goquery_getClassesSlice t0 = some cs := by
    simp only [m_goquery_getClassesSlice]
    rw [fields_eq t0 (by omega) (NV.mid (by rw [← hs0]; exact nv_join hcs)), bind_some, hw0]
  obtain ⟨xb, j, hg, hE, _, _⟩ := gca_eq xa v hl hv (by omega)
  obtain ⟨c1, c2⟩ := cur_of hnv h12
  obtain ⟨cur', g1, g2, g3, g4⟩ := add_loop (v.length + 2) (by omega) [some 0] [some 0] 1 0 j [EL xb] cs h8 hcs cs.length 0 _ (by omega) (Nat.zero_le _) c1 (by simp)
  rw [List.drop_zero, c2] at g4
  obtain ⟨t, a, b, ht, hs, hta, htb⟩ := trim_eq cur' (by omega) g2.nv
  have hwt : wordsL t = addW (wordsL v) cs := by rw [← trim_words hs hta htb]; exact g4
  have htn : t ≠ [] := fun e => by
    rw [e, wordsL_nil] at hwt
    exact addW_ne (.inr h0) hwt.symm
  obtain ⟨y, hy, _⟩ := hE.val
  refine ⟨xb.set j ⟨y.ns, y.key, t⟩, t, ?_, hE.put hy, NV.mid (by rw [← hs]; exact g2.nv), fun c hc h => ?_, ?_, hwt⟩
  · simp only [m_goquery_Selection_AddClass, join_eq cs h8 hl40, bind_some, ht0, nil_byt, cond_dec]
    rw [if_neg ht0n, hf0, bind_some]
    have hset : m_goquery_setClasses (some 0, some (0, j), cur', [EL xb]) = some [EL (xb.set j ⟨y.ns, y.key, t⟩)] := by
      have at9 : (EL xb).attrs = xb := rfl
      simp only [m_goquery_setClasses, ht, bind_some, nil_byt, cond_dec]
      rw [if_neg htn]
      simp only [el_get, bind_some, at9, hy, el_set]
    have step : m_goquery_Selection_AddClass_0 ([some 0], cs, [some 0], 1, 0, [EL xa]) = some (.nx ([some 0], cs, [some 0], 1, 1, [EL (xb.set j ⟨y.ns, y.key, t⟩)])) := by
      simp only [m_goquery_Selection_AddClass_0, cond_dec, atI_zero, List.getElem?_cons_zero, bind_some, hg]
      rw [if_pos (by decide), show loopO m_goquery_Selection_AddClass_0_0 ([some 0], cs, some 0, (32 :: (v ++ [32])).map tr1, some (0, j), [some 0], 1, 0, (), (cs.length : Int), (0 : Int), [EL xb]) = _ from g1, bind_some]
      simp only [hset, bind_some]
      rfl
    have stop : m_goquery_Selection_AddClass_0 ([some 0], cs, [some 0], 1, 1, [EL (xb.set j ⟨y.ns, y.key, t⟩)]) = some (.out ([some 0], [EL (xb.set j ⟨y.ns, y.key, t⟩)])) := by
      simp only [m_goquery_Selection_AddClass_0, cond_dec]
      rw [if_neg (by decide)]
    have : loopO m_goquery_Selection_AddClass_0 ([some 0], cs, [some 0], ((List.length [some 0] : Nat) : Int), (0 : Int), [EL xa]) = some ([some 0], [EL (xb.set j ⟨y.ns, y.key, t⟩)]) := by
      show loopO m_goquery_Selection_AddClass_0 ([some 0], cs, [some 0], 1, 0, [EL xa]) = _
      rw [loopO_nx step, loopO_out stop]
    rw [this]
    rfl
  · have := g2.blk c (by rw [hs]; simp [hc]) (by simp [isSp, h])
    rw [this] at h
    exact absurd h (by decide)
  · have := congrArg List.length hs
    simp at this
    omega
theorem ha_ah (l : List Attr) : (l.map ha).map ah = l := by
  rw [List.map_map]
  conv => rhs; rw [← List.map_id l]
  exact List.map_congr_left fun a _ => by cases a; rfl
theorem addedf (l : List Attr) (cs : List (List UInt8)) : m_impl_AttrsAdded_f (l, cs) = (m_impl_AttrsAdded (l, cs, [])).map fun r => r.1 := rfl
theorem added_eq (l : List Attr) (cs : List (List UInt8)) (v : List UInt8) (hl : l.length ≤ 100) (hv : (vl l classA).getD [] = v) (hvl : v.length ≤ 9000) (hnv : NV v) (h12 : ∀ c ∈ v, c.toNat ≠ 12) (h0 : cs ≠ []) (h8 : cs.length ≤ 8) (hcs : ∀ c ∈ cs, NW c) :
    ∃ (out : List Attr) (t : List UInt8), m_impl_AttrsAdded_f (l, cs) = some out ∧ vl out classA = some t ∧ (∀ k, k ≠ classA → vl out k = vl l k) ∧ out.length ≤ l.length + 1 ∧ NV t ∧ (∀ c ∈ t, c.toNat ≠ 12) ∧ t.length ≤ v.length + 2 + 41 * cs.length ∧ wordsL t = addW (wordsL v) cs := by
  obtain ⟨xc, t, h1, h2, h3, h4, h5, h6⟩ := addClass_eq (l.map ha) cs v (by simpa using hl) (by rw [ha_ah]; exact hv) hvl hnv h12 h0 h8 hcs
  have hlen := h2.len
  rw [List.length_map] at hlen
  refine ⟨xc.map ah, t, ?_, h2.cls, fun k hk => by rw [h2.oth k hk, ha_ah], by simpa using hlen, h3, h4, h5, h6⟩
  rw [addedf]
  simp only [m_impl_AttrsAdded, element_eq l (by omega), bind_some, h1, attrs_eq xc (by omega)]
  rfl
end Go.Proofs.Ytcbmbmfenhoflaa.V
