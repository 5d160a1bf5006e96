/-
  Plain facts and an evaluator for what a law needs.
-/
import Derived.Test.YtkmigbicabfodaaGreatProg
import Derived.Test.YtkmigbicabfodaaGreatQ3
set_option linter.unusedVariables false
set_option linter.unusedSimpArgs false
namespace Go.Proofs.YtkmigbicabfodaaGreat.V
open Go Go.Proofs
theorem tiok {P:Program} {T:TypeId} {t:TI} {i:TypeInfo} (u:UndOK P T t.sh) (s:∀ w,(sizeOf T).run P w = .ok t.size w) (a:∀ w,(isAgg T).run P w = .ok t.agg w) (z:∀ w,(zeroValue T).run P w = .ok t.zv w) (c:t.zv.cells.size=t.size) (f:∀ w,(typeInfo T).run P w = .ok i w) (b:i.bytes=t.bytes) (e:t.el=some .attr→AttrEq P T) (e2:t.el=some .sel→SelEq P T):TIok P T t:=⟨u,s,a,z,c,⟨i,f,b⟩,e,e2⟩
def TbAll (P:Program):Nat→List (Option TI)→Prop
 | _,[]=>True
 | k,none::l=>TbAll P (k+1) l
 | k,some t::l=>TIok P k t∧TbAll P (k+1) l
theorem tb_of {P:Program}:∀ {l:List (Option TI)} {k:Nat},TbAll P k l→∀ (T:Nat) (t:TI),l[T]?=some (some t)→TIok P (k+T) t
 | [],_,_,T,t,h=>by simp at h
 | none::l,k,hl,T,t,h=>by
  match T with
  | 0=>simp at h
  | T+1 =>
   have:=tb_of (k:=k+1) hl T t (by simpa using h)
   rwa [Nat.add_assoc,Nat.add_comm 1 T] at this
 | some t0::l,k,hl,T,t,h=>by
  match T with
  | 0=>simp at h; subst h; exact hl.1
  | T+1 =>
   have:=tb_of (k:=k+1) hl.2 T t (by simpa using h)
   rwa [Nat.add_assoc,Nat.add_comm 1 T] at this
noncomputable def i0:TI:=⟨.other,1,Bool.false,(Value.tuple #[]),0,none⟩
theorem k0:TIok Tryz.prog 0 i0:=tiok (by exact trivial) Tryz.sizeOf0 Tryz.isAgg0 Tryz.zeroValue0 rfl Tryz.typeInfo0 rfl (fun h=>by have h':(none:Option E)=some .attr:=h; cases h') (fun h=>by have h':(none:Option E)=some .sel:=h; cases h')
noncomputable def i1:TI:=⟨.func,1,Bool.false,Value.nilFunc,8,none⟩
theorem k1:TIok Tryz.prog 1 i1:=tiok (by exact ⟨_,_,_,Tryz.underlying1⟩) Tryz.sizeOf1 Tryz.isAgg1 Tryz.zeroValue1 rfl Tryz.typeInfo1 rfl (fun h=>by have h':(none:Option E)=some .attr:=h; cases h') (fun h=>by have h':(none:Option E)=some .sel:=h; cases h')
noncomputable def i2:TI:=⟨.int .i64,1,Bool.false,(Value.int IntKind.i64 0),8,none⟩
theorem k2:TIok Tryz.prog 2 i2:=tiok (by exact Tryz.underlying2) Tryz.sizeOf2 Tryz.isAgg2 Tryz.zeroValue2 rfl Tryz.typeInfo2 rfl (fun h=>by have h':(none:Option E)=some .attr:=h; cases h') (fun h=>by have h':(none:Option E)=some .sel:=h; cases h')
noncomputable def i3:TI:=⟨.int .i64,1,Bool.false,(Value.int IntKind.i64 0),8,some .int⟩
theorem k3:TIok Tryz.prog 3 i3:=tiok (by exact Tryz.underlying3) Tryz.sizeOf3 Tryz.isAgg3 Tryz.zeroValue3 rfl Tryz.typeInfo3 rfl (fun h=>by have h':(some .int:Option E)=some .attr:=h; cases h') (fun h=>by have h':(some .int:Option E)=some .sel:=h; cases h')
noncomputable def i4:TI:=⟨.bool,1,Bool.false,(Value.bool Bool.false),1,some .bool⟩
theorem k4:TIok Tryz.prog 4 i4:=tiok (by exact Tryz.underlying4) Tryz.sizeOf4 Tryz.isAgg4 Tryz.zeroValue4 rfl Tryz.typeInfo4 rfl (fun h=>by have h':(some .bool:Option E)=some .attr:=h; cases h') (fun h=>by have h':(some .bool:Option E)=some .sel:=h; cases h')
noncomputable def i5:TI:=⟨.int .u8,1,Bool.false,(Value.int IntKind.u8 0),1,some .u8⟩
theorem k5:TIok Tryz.prog 5 i5:=tiok (by exact Tryz.underlying5) Tryz.sizeOf5 Tryz.isAgg5 Tryz.zeroValue5 rfl Tryz.typeInfo5 rfl (fun h=>by have h':(some .u8:Option E)=some .attr:=h; cases h') (fun h=>by have h':(some .u8:Option E)=some .sel:=h; cases h')
noncomputable def i6:TI:=⟨.int .u8,1,Bool.false,(Value.int IntKind.u8 0),1,none⟩
theorem k6:TIok Tryz.prog 6 i6:=tiok (by exact Tryz.underlying6) Tryz.sizeOf6 Tryz.isAgg6 Tryz.zeroValue6 rfl Tryz.typeInfo6 rfl (fun h=>by have h':(none:Option E)=some .attr:=h; cases h') (fun h=>by have h':(none:Option E)=some .sel:=h; cases h')
noncomputable def i7:TI:=⟨.struct [(2,0),(3,1),(4,2),(6,3)],4,Bool.true,(Value.agg #[Value.int IntKind.i64 0,Value.int IntKind.i64 0,Value.bool Bool.false,Value.int IntKind.u8 0]),24,none⟩
theorem k7:TIok Tryz.prog 7 i7:=tiok (by exact ⟨_,Tryz.underlying7,rfl⟩) Tryz.sizeOf7 Tryz.isAgg7 Tryz.zeroValue7 rfl Tryz.typeInfo7 rfl (fun h=>by have h':(none:Option E)=some .attr:=h; cases h') (fun h=>by have h':(none:Option E)=some .sel:=h; cases h')
noncomputable def i8:TI:=⟨.struct [(2,0),(3,1),(4,2),(6,3)],4,Bool.true,(Value.agg #[Value.int IntKind.i64 0,Value.int IntKind.i64 0,Value.bool Bool.false,Value.int IntKind.u8 0]),24,none⟩
theorem k8:TIok Tryz.prog 8 i8:=tiok (by exact ⟨_,Tryz.underlying8,rfl⟩) Tryz.sizeOf8 Tryz.isAgg8 Tryz.zeroValue8 rfl Tryz.typeInfo8 rfl (fun h=>by have h':(none:Option E)=some .attr:=h; cases h') (fun h=>by have h':(none:Option E)=some .sel:=h; cases h')
noncomputable def i9:TI:=⟨.str,1,Bool.false,(Value.string { data:=#[] }),16,some .str⟩
theorem k9:TIok Tryz.prog 9 i9:=tiok (by exact Tryz.underlying9) Tryz.sizeOf9 Tryz.isAgg9 Tryz.zeroValue9 rfl Tryz.typeInfo9 rfl (fun h=>by have h':(some .str:Option E)=some .attr:=h; cases h') (fun h=>by have h':(some .str:Option E)=some .sel:=h; cases h')
noncomputable def i10:TI:=⟨.str,1,Bool.false,(Value.string { data:=#[] }),16,none⟩
theorem k10:TIok Tryz.prog 10 i10:=tiok (by exact Tryz.underlying10) Tryz.sizeOf10 Tryz.isAgg10 Tryz.zeroValue10 rfl Tryz.typeInfo10 rfl (fun h=>by have h':(none:Option E)=some .attr:=h; cases h') (fun h=>by have h':(none:Option E)=some .sel:=h; cases h')
noncomputable def i11:TI:=⟨.str,1,Bool.false,(Value.string { data:=#[] }),16,none⟩
theorem k11:TIok Tryz.prog 11 i11:=tiok (by exact Tryz.underlying11) Tryz.sizeOf11 Tryz.isAgg11 Tryz.zeroValue11 rfl Tryz.typeInfo11 rfl (fun h=>by have h':(none:Option E)=some .attr:=h; cases h') (fun h=>by have h':(none:Option E)=some .sel:=h; cases h')
noncomputable def i12:TI:=⟨.int .u64,1,Bool.false,(Value.int IntKind.u64 0),8,none⟩
theorem k12:TIok Tryz.prog 12 i12:=tiok (by exact Tryz.underlying12) Tryz.sizeOf12 Tryz.isAgg12 Tryz.zeroValue12 rfl Tryz.typeInfo12 rfl (fun h=>by have h':(none:Option E)=some .attr:=h; cases h') (fun h=>by have h':(none:Option E)=some .sel:=h; cases h')
noncomputable def i13:TI:=⟨.struct [(9,0),(12,1)],2,Bool.true,(Value.agg #[Value.string { data:=#[] },Value.int IntKind.u64 0]),24,none⟩
theorem k13:TIok Tryz.prog 13 i13:=tiok (by exact ⟨_,Tryz.underlying13,rfl⟩) Tryz.sizeOf13 Tryz.isAgg13 Tryz.zeroValue13 rfl Tryz.typeInfo13 rfl (fun h=>by have h':(none:Option E)=some .attr:=h; cases h') (fun h=>by have h':(none:Option E)=some .sel:=h; cases h')
noncomputable def i14:TI:=⟨.struct [(9,0),(12,1)],2,Bool.true,(Value.agg #[Value.string { data:=#[] },Value.int IntKind.u64 0]),24,none⟩
theorem k14:TIok Tryz.prog 14 i14:=tiok (by exact ⟨_,Tryz.underlying14,rfl⟩) Tryz.sizeOf14 Tryz.isAgg14 Tryz.zeroValue14 rfl Tryz.typeInfo14 rfl (fun h=>by have h':(none:Option E)=some .attr:=h; cases h') (fun h=>by have h':(none:Option E)=some .sel:=h; cases h')
noncomputable def i15:TI:=⟨.ptr 148,1,Bool.false,(Value.pointer Option.none),8,none⟩
theorem k15:TIok Tryz.prog 15 i15:=tiok (by exact Tryz.underlying15) Tryz.sizeOf15 Tryz.isAgg15 Tryz.zeroValue15 rfl Tryz.typeInfo15 rfl (fun h=>by have h':(none:Option E)=some .attr:=h; cases h') (fun h=>by have h':(none:Option E)=some .sel:=h; cases h')
noncomputable def i16:TI:=⟨.ptr 151,1,Bool.false,(Value.pointer Option.none),8,none⟩
theorem k16:TIok Tryz.prog 16 i16:=tiok (by exact Tryz.underlying16) Tryz.sizeOf16 Tryz.isAgg16 Tryz.zeroValue16 rfl Tryz.typeInfo16 rfl (fun h=>by have h':(none:Option E)=some .attr:=h; cases h') (fun h=>by have h':(none:Option E)=some .sel:=h; cases h')
noncomputable def i17:TI:=⟨.ptr 159,1,Bool.false,(Value.pointer Option.none),8,none⟩
theorem k17:TIok Tryz.prog 17 i17:=tiok (by exact Tryz.underlying17) Tryz.sizeOf17 Tryz.isAgg17 Tryz.zeroValue17 rfl Tryz.typeInfo17 rfl (fun h=>by have h':(none:Option E)=some .attr:=h; cases h') (fun h=>by have h':(none:Option E)=some .sel:=h; cases h')
noncomputable def i18:TI:=⟨.struct [(17,0)],1,Bool.true,(Value.agg #[Value.pointer Option.none]),8,none⟩
theorem k18:TIok Tryz.prog 18 i18:=tiok (by exact ⟨_,Tryz.underlying18,rfl⟩) Tryz.sizeOf18 Tryz.isAgg18 Tryz.zeroValue18 rfl Tryz.typeInfo18 rfl (fun h=>by have h':(none:Option E)=some .attr:=h; cases h') (fun h=>by have h':(none:Option E)=some .sel:=h; cases h')
noncomputable def i19:TI:=⟨.struct [(17,0)],1,Bool.true,(Value.agg #[Value.pointer Option.none]),8,none⟩
theorem k19:TIok Tryz.prog 19 i19:=tiok (by exact ⟨_,Tryz.underlying19,rfl⟩) Tryz.sizeOf19 Tryz.isAgg19 Tryz.zeroValue19 rfl Tryz.typeInfo19 rfl (fun h=>by have h':(none:Option E)=some .attr:=h; cases h') (fun h=>by have h':(none:Option E)=some .sel:=h; cases h')
noncomputable def i20:TI:=⟨.iface,1,Bool.false,Value.nilIface,16,none⟩
theorem k20:TIok Tryz.prog 20 i20:=tiok (by exact ⟨_,Tryz.underlying20⟩) Tryz.sizeOf20 Tryz.isAgg20 Tryz.zeroValue20 rfl Tryz.typeInfo20 rfl (fun h=>by have h':(none:Option E)=some .attr:=h; cases h') (fun h=>by have h':(none:Option E)=some .sel:=h; cases h')
noncomputable def i21:TI:=⟨.int .i32,1,Bool.false,(Value.int IntKind.i32 0),4,some (.rc (.int .i32) [] 0)⟩
theorem k21:TIok Tryz.prog 21 i21:=tiok (by exact Tryz.underlying21) Tryz.sizeOf21 Tryz.isAgg21 Tryz.zeroValue21 rfl Tryz.typeInfo21 rfl (fun h=>by have h':(some (.rc (.int .i32) [] 0):Option E)=some .attr:=h; cases h') (fun h=>by have h':(some (.rc (.int .i32) [] 0):Option E)=some .sel:=h; cases h')
noncomputable def i22:TI:=⟨.slice 39,1,Bool.false,(Value.slice Option.none 0 0),24,some (.rc .nodes [] 0)⟩
theorem k22:TIok Tryz.prog 22 i22:=tiok (by exact Tryz.underlying22) Tryz.sizeOf22 Tryz.isAgg22 Tryz.zeroValue22 rfl Tryz.typeInfo22 rfl (fun h=>by have h':(some (.rc .nodes [] 0):Option E)=some .attr:=h; cases h') (fun h=>by have h':(some (.rc .nodes [] 0):Option E)=some .sel:=h; cases h')
noncomputable def i23:TI:=⟨.func,1,Bool.false,Value.nilFunc,8,none⟩
theorem k23:TIok Tryz.prog 23 i23:=tiok (by exact ⟨_,_,_,Tryz.underlying23⟩) Tryz.sizeOf23 Tryz.isAgg23 Tryz.zeroValue23 rfl Tryz.typeInfo23 rfl (fun h=>by have h':(none:Option E)=some .attr:=h; cases h') (fun h=>by have h':(none:Option E)=some .sel:=h; cases h')
noncomputable def i24:TI:=⟨.func,1,Bool.false,Value.nilFunc,8,none⟩
theorem k24:TIok Tryz.prog 24 i24:=tiok (by exact ⟨_,_,_,Tryz.underlying24⟩) Tryz.sizeOf24 Tryz.isAgg24 Tryz.zeroValue24 rfl Tryz.typeInfo24 rfl (fun h=>by have h':(none:Option E)=some .attr:=h; cases h') (fun h=>by have h':(none:Option E)=some .sel:=h; cases h')
noncomputable def i25:TI:=⟨.slice 3,1,Bool.false,(Value.slice Option.none 0 0),24,some (.rc .ints [] 0)⟩
theorem k25:TIok Tryz.prog 25 i25:=tiok (by exact Tryz.underlying25) Tryz.sizeOf25 Tryz.isAgg25 Tryz.zeroValue25 rfl Tryz.typeInfo25 rfl (fun h=>by have h':(some (.rc .ints [] 0):Option E)=some .attr:=h; cases h') (fun h=>by have h':(some (.rc .ints [] 0):Option E)=some .sel:=h; cases h')
noncomputable def i26:TI:=⟨.slice 9,1,Bool.false,(Value.slice Option.none 0 0),24,some (.rc .strs [] 0)⟩
theorem k26:TIok Tryz.prog 26 i26:=tiok (by exact Tryz.underlying26) Tryz.sizeOf26 Tryz.isAgg26 Tryz.zeroValue26 rfl Tryz.typeInfo26 rfl (fun h=>by have h':(some (.rc .strs [] 0):Option E)=some .attr:=h; cases h') (fun h=>by have h':(some (.rc .strs [] 0):Option E)=some .sel:=h; cases h')
noncomputable def i27:TI:=⟨.struct [(3,0),(25,1),(25,2),(9,3),(9,4),(26,5)],6,Bool.true,(Value.agg #[Value.int IntKind.i64 0,Value.slice Option.none 0 0,Value.slice Option.none 0 0,Value.string { data:=#[] },Value.string { data:=#[] },Value.slice Option.none 0 0]),112,none⟩
theorem k27:TIok Tryz.prog 27 i27:=tiok (by exact ⟨_,Tryz.underlying27,rfl⟩) Tryz.sizeOf27 Tryz.isAgg27 Tryz.zeroValue27 rfl Tryz.typeInfo27 rfl (fun h=>by have h':(none:Option E)=some .attr:=h; cases h') (fun h=>by have h':(none:Option E)=some .sel:=h; cases h')
noncomputable def i28:TI:=⟨.struct [(3,0),(25,1),(25,2),(9,3),(9,4),(26,5)],6,Bool.true,(Value.agg #[Value.int IntKind.i64 0,Value.slice Option.none 0 0,Value.slice Option.none 0 0,Value.string { data:=#[] },Value.string { data:=#[] },Value.slice Option.none 0 0]),112,some (.rc (.int .i64) [.ints, .ints, .str, .str, .strs] 0)⟩
theorem k28:TIok Tryz.prog 28 i28:=tiok (by exact ⟨_,Tryz.underlying28,rfl⟩) Tryz.sizeOf28 Tryz.isAgg28 Tryz.zeroValue28 rfl Tryz.typeInfo28 rfl (fun h=>by have h':(some (.rc (.int .i64) [.ints, .ints, .str, .str, .strs] 0):Option E)=some .attr:=h; cases h') (fun h=>by have h':(some (.rc (.int .i64) [.ints, .ints, .str, .str, .strs] 0):Option E)=some .sel:=h; cases h')
noncomputable def i29:TI:=⟨.func,1,Bool.false,Value.nilFunc,8,none⟩
theorem k29:TIok Tryz.prog 29 i29:=tiok (by exact ⟨_,_,_,Tryz.underlying29⟩) Tryz.sizeOf29 Tryz.isAgg29 Tryz.zeroValue29 rfl Tryz.typeInfo29 rfl (fun h=>by have h':(none:Option E)=some .attr:=h; cases h') (fun h=>by have h':(none:Option E)=some .sel:=h; cases h')
noncomputable def i30:TI:=⟨.other,1,Bool.false,(Value.tuple #[Value.slice Option.none 0 0,Value.slice Option.none 0 0,Value.bool Bool.false]),0,none⟩
theorem k30:TIok Tryz.prog 30 i30:=tiok (by exact trivial) Tryz.sizeOf30 Tryz.isAgg30 Tryz.zeroValue30 rfl Tryz.typeInfo30 rfl (fun h=>by have h':(none:Option E)=some .attr:=h; cases h') (fun h=>by have h':(none:Option E)=some .sel:=h; cases h')
noncomputable def i31:TI:=⟨.func,1,Bool.false,Value.nilFunc,8,none⟩
theorem k31:TIok Tryz.prog 31 i31:=tiok (by exact ⟨_,_,_,Tryz.underlying31⟩) Tryz.sizeOf31 Tryz.isAgg31 Tryz.zeroValue31 rfl Tryz.typeInfo31 rfl (fun h=>by have h':(none:Option E)=some .attr:=h; cases h') (fun h=>by have h':(none:Option E)=some .sel:=h; cases h')
noncomputable def i32:TI:=⟨.func,1,Bool.false,Value.nilFunc,8,none⟩
theorem k32:TIok Tryz.prog 32 i32:=tiok (by exact ⟨_,_,_,Tryz.underlying32⟩) Tryz.sizeOf32 Tryz.isAgg32 Tryz.zeroValue32 rfl Tryz.typeInfo32 rfl (fun h=>by have h':(none:Option E)=some .attr:=h; cases h') (fun h=>by have h':(none:Option E)=some .sel:=h; cases h')
noncomputable def i33:TI:=⟨.func,1,Bool.false,Value.nilFunc,8,none⟩
theorem k33:TIok Tryz.prog 33 i33:=tiok (by exact ⟨_,_,_,Tryz.underlying33⟩) Tryz.sizeOf33 Tryz.isAgg33 Tryz.zeroValue33 rfl Tryz.typeInfo33 rfl (fun h=>by have h':(none:Option E)=some .attr:=h; cases h') (fun h=>by have h':(none:Option E)=some .sel:=h; cases h')
noncomputable def i34:TI:=⟨.func,1,Bool.false,Value.nilFunc,8,none⟩
theorem k34:TIok Tryz.prog 34 i34:=tiok (by exact ⟨_,_,_,Tryz.underlying34⟩) Tryz.sizeOf34 Tryz.isAgg34 Tryz.zeroValue34 rfl Tryz.typeInfo34 rfl (fun h=>by have h':(none:Option E)=some .attr:=h; cases h') (fun h=>by have h':(none:Option E)=some .sel:=h; cases h')
noncomputable def i35:TI:=⟨.func,1,Bool.false,Value.nilFunc,8,none⟩
theorem k35:TIok Tryz.prog 35 i35:=tiok (by exact ⟨_,_,_,Tryz.underlying35⟩) Tryz.sizeOf35 Tryz.isAgg35 Tryz.zeroValue35 rfl Tryz.typeInfo35 rfl (fun h=>by have h':(none:Option E)=some .attr:=h; cases h') (fun h=>by have h':(none:Option E)=some .sel:=h; cases h')
noncomputable def i36:TI:=⟨.func,1,Bool.false,Value.nilFunc,8,none⟩
theorem k36:TIok Tryz.prog 36 i36:=tiok (by exact ⟨_,_,_,Tryz.underlying36⟩) Tryz.sizeOf36 Tryz.isAgg36 Tryz.zeroValue36 rfl Tryz.typeInfo36 rfl (fun h=>by have h':(none:Option E)=some .attr:=h; cases h') (fun h=>by have h':(none:Option E)=some .sel:=h; cases h')
noncomputable def i37:TI:=⟨.slice 89,1,Bool.false,(Value.slice Option.none 0 0),24,none⟩
theorem k37:TIok Tryz.prog 37 i37:=tiok (by exact Tryz.underlying37) Tryz.sizeOf37 Tryz.isAgg37 Tryz.zeroValue37 rfl Tryz.typeInfo37 rfl (fun h=>by have h':(none:Option E)=some .attr:=h; cases h') (fun h=>by have h':(none:Option E)=some .sel:=h; cases h')
noncomputable def i38:TI:=⟨.struct [(3,0),(9,1),(9,2),(37,3),(3,4)],5,Bool.true,(Value.agg #[Value.int IntKind.i64 0,Value.string { data:=#[] },Value.string { data:=#[] },Value.slice Option.none 0 0,Value.int IntKind.i64 0]),72,none⟩
theorem k38:TIok Tryz.prog 38 i38:=tiok (by exact ⟨_,Tryz.underlying38,rfl⟩) Tryz.sizeOf38 Tryz.isAgg38 Tryz.zeroValue38 rfl Tryz.typeInfo38 rfl (fun h=>by have h':(none:Option E)=some .attr:=h; cases h') (fun h=>by have h':(none:Option E)=some .sel:=h; cases h')
noncomputable def i39:TI:=⟨.struct [(3,0),(9,1),(9,2),(37,3),(3,4)],5,Bool.true,(Value.agg #[Value.int IntKind.i64 0,Value.string { data:=#[] },Value.string { data:=#[] },Value.slice Option.none 0 0,Value.int IntKind.i64 0]),72,some .node⟩
theorem k39:TIok Tryz.prog 39 i39:=tiok (by exact ⟨_,Tryz.underlying39,rfl⟩) Tryz.sizeOf39 Tryz.isAgg39 Tryz.zeroValue39 rfl Tryz.typeInfo39 rfl (fun h=>by have h':(some .node:Option E)=some .attr:=h; cases h') (fun h=>by have h':(some .node:Option E)=some .sel:=h; cases h')
noncomputable def i40:TI:=⟨.func,1,Bool.false,Value.nilFunc,8,none⟩
theorem k40:TIok Tryz.prog 40 i40:=tiok (by exact ⟨_,_,_,Tryz.underlying40⟩) Tryz.sizeOf40 Tryz.isAgg40 Tryz.zeroValue40 rfl Tryz.typeInfo40 rfl (fun h=>by have h':(none:Option E)=some .attr:=h; cases h') (fun h=>by have h':(none:Option E)=some .sel:=h; cases h')
noncomputable def i41:TI:=⟨.func,1,Bool.false,Value.nilFunc,8,none⟩
theorem k41:TIok Tryz.prog 41 i41:=tiok (by exact ⟨_,_,_,Tryz.underlying41⟩) Tryz.sizeOf41 Tryz.isAgg41 Tryz.zeroValue41 rfl Tryz.typeInfo41 rfl (fun h=>by have h':(none:Option E)=some .attr:=h; cases h') (fun h=>by have h':(none:Option E)=some .sel:=h; cases h')
noncomputable def i42:TI:=⟨.slice 28,1,Bool.false,(Value.slice Option.none 0 0),24,none⟩
theorem k42:TIok Tryz.prog 42 i42:=tiok (by exact Tryz.underlying42) Tryz.sizeOf42 Tryz.isAgg42 Tryz.zeroValue42 rfl Tryz.typeInfo42 rfl (fun h=>by have h':(none:Option E)=some .attr:=h; cases h') (fun h=>by have h':(none:Option E)=some .sel:=h; cases h')
noncomputable def i43:TI:=⟨.ptr 49,1,Bool.false,(Value.pointer Option.none),8,none⟩
theorem k43:TIok Tryz.prog 43 i43:=tiok (by exact Tryz.underlying43) Tryz.sizeOf43 Tryz.isAgg43 Tryz.zeroValue43 rfl Tryz.typeInfo43 rfl (fun h=>by have h':(none:Option E)=some .attr:=h; cases h') (fun h=>by have h':(none:Option E)=some .sel:=h; cases h')
noncomputable def i44:TI:=⟨.ptr 76,1,Bool.false,(Value.pointer Option.none),8,none⟩
theorem k44:TIok Tryz.prog 44 i44:=tiok (by exact Tryz.underlying44) Tryz.sizeOf44 Tryz.isAgg44 Tryz.zeroValue44 rfl Tryz.typeInfo44 rfl (fun h=>by have h':(none:Option E)=some .attr:=h; cases h') (fun h=>by have h':(none:Option E)=some .sel:=h; cases h')
noncomputable def i45:TI:=⟨.other,1,Bool.false,(Value.tuple #[Value.pointer Option.none,Value.pointer Option.none,Value.bool Bool.false]),0,none⟩
theorem k45:TIok Tryz.prog 45 i45:=tiok (by exact trivial) Tryz.sizeOf45 Tryz.isAgg45 Tryz.zeroValue45 rfl Tryz.typeInfo45 rfl (fun h=>by have h':(none:Option E)=some .attr:=h; cases h') (fun h=>by have h':(none:Option E)=some .sel:=h; cases h')
noncomputable def i46:TI:=⟨.func,1,Bool.false,Value.nilFunc,8,none⟩
theorem k46:TIok Tryz.prog 46 i46:=tiok (by exact ⟨_,_,_,Tryz.underlying46⟩) Tryz.sizeOf46 Tryz.isAgg46 Tryz.zeroValue46 rfl Tryz.typeInfo46 rfl (fun h=>by have h':(none:Option E)=some .attr:=h; cases h') (fun h=>by have h':(none:Option E)=some .sel:=h; cases h')
noncomputable def i47:TI:=⟨.slice 51,1,Bool.false,(Value.slice Option.none 0 0),24,some (.rc .nps [] 0)⟩
theorem k47:TIok Tryz.prog 47 i47:=tiok (by exact Tryz.underlying47) Tryz.sizeOf47 Tryz.isAgg47 Tryz.zeroValue47 rfl Tryz.typeInfo47 rfl (fun h=>by have h':(some (.rc .nps [] 0):Option E)=some .attr:=h; cases h') (fun h=>by have h':(some (.rc .nps [] 0):Option E)=some .sel:=h; cases h')
noncomputable def i48:TI:=⟨.struct [(47,0),(44,1)],2,Bool.true,(Value.agg #[Value.slice Option.none 0 0,Value.pointer Option.none]),32,none⟩
theorem k48:TIok Tryz.prog 48 i48:=tiok (by exact ⟨_,Tryz.underlying48,rfl⟩) Tryz.sizeOf48 Tryz.isAgg48 Tryz.zeroValue48 rfl Tryz.typeInfo48 rfl (fun h=>by have h':(none:Option E)=some .attr:=h; cases h') (fun h=>by have h':(none:Option E)=some .sel:=h; cases h')
noncomputable def i49:TI:=⟨.struct [(47,0),(44,1)],2,Bool.true,(Value.agg #[Value.slice Option.none 0 0,Value.pointer Option.none]),32,some (.rc .nps [.fnil] 0)⟩
theorem k49:TIok Tryz.prog 49 i49:=tiok (by exact ⟨_,Tryz.underlying49,rfl⟩) Tryz.sizeOf49 Tryz.isAgg49 Tryz.zeroValue49 rfl Tryz.typeInfo49 rfl (fun h=>by have h':(some (.rc .nps [.fnil] 0):Option E)=some .attr:=h; cases h') (fun h=>by have h':(some (.rc .nps [.fnil] 0):Option E)=some .sel:=h; cases h')
noncomputable def i50:TI:=⟨.func,1,Bool.false,Value.nilFunc,8,none⟩
theorem k50:TIok Tryz.prog 50 i50:=tiok (by exact ⟨_,_,_,Tryz.underlying50⟩) Tryz.sizeOf50 Tryz.isAgg50 Tryz.zeroValue50 rfl Tryz.typeInfo50 rfl (fun h=>by have h':(none:Option E)=some .attr:=h; cases h') (fun h=>by have h':(none:Option E)=some .sel:=h; cases h')
noncomputable def i51:TI:=⟨.ptr 82,1,Bool.false,(Value.pointer Option.none),8,some .np⟩
theorem k51:TIok Tryz.prog 51 i51:=tiok (by exact Tryz.underlying51) Tryz.sizeOf51 Tryz.isAgg51 Tryz.zeroValue51 rfl Tryz.typeInfo51 rfl (fun h=>by have h':(some .np:Option E)=some .attr:=h; cases h') (fun h=>by have h':(some .np:Option E)=some .sel:=h; cases h')
noncomputable def i52:TI:=⟨.other,1,Bool.false,(Value.tuple #[Value.slice Option.none 0 0,Value.slice Option.none 0 0]),0,none⟩
theorem k52:TIok Tryz.prog 52 i52:=tiok (by exact trivial) Tryz.sizeOf52 Tryz.isAgg52 Tryz.zeroValue52 rfl Tryz.typeInfo52 rfl (fun h=>by have h':(none:Option E)=some .attr:=h; cases h') (fun h=>by have h':(none:Option E)=some .sel:=h; cases h')
noncomputable def i53:TI:=⟨.func,1,Bool.false,Value.nilFunc,8,none⟩
theorem k53:TIok Tryz.prog 53 i53:=tiok (by exact ⟨_,_,_,Tryz.underlying53⟩) Tryz.sizeOf53 Tryz.isAgg53 Tryz.zeroValue53 rfl Tryz.typeInfo53 rfl (fun h=>by have h':(none:Option E)=some .attr:=h; cases h') (fun h=>by have h':(none:Option E)=some .sel:=h; cases h')
noncomputable def i54:TI:=⟨.func,1,Bool.false,Value.nilFunc,8,none⟩
theorem k54:TIok Tryz.prog 54 i54:=tiok (by exact ⟨_,_,_,Tryz.underlying54⟩) Tryz.sizeOf54 Tryz.isAgg54 Tryz.zeroValue54 rfl Tryz.typeInfo54 rfl (fun h=>by have h':(none:Option E)=some .attr:=h; cases h') (fun h=>by have h':(none:Option E)=some .sel:=h; cases h')
noncomputable def i55:TI:=⟨.func,1,Bool.false,Value.nilFunc,8,none⟩
theorem k55:TIok Tryz.prog 55 i55:=tiok (by exact ⟨_,_,_,Tryz.underlying55⟩) Tryz.sizeOf55 Tryz.isAgg55 Tryz.zeroValue55 rfl Tryz.typeInfo55 rfl (fun h=>by have h':(none:Option E)=some .attr:=h; cases h') (fun h=>by have h':(none:Option E)=some .sel:=h; cases h')
noncomputable def i56:TI:=⟨.ptr 61,1,Bool.false,(Value.pointer Option.none),8,none⟩
theorem k56:TIok Tryz.prog 56 i56:=tiok (by exact Tryz.underlying56) Tryz.sizeOf56 Tryz.isAgg56 Tryz.zeroValue56 rfl Tryz.typeInfo56 rfl (fun h=>by have h':(none:Option E)=some .attr:=h; cases h') (fun h=>by have h':(none:Option E)=some .sel:=h; cases h')
noncomputable def i57:TI:=⟨.func,1,Bool.false,Value.nilFunc,8,none⟩
theorem k57:TIok Tryz.prog 57 i57:=tiok (by exact ⟨_,_,_,Tryz.underlying57⟩) Tryz.sizeOf57 Tryz.isAgg57 Tryz.zeroValue57 rfl Tryz.typeInfo57 rfl (fun h=>by have h':(none:Option E)=some .attr:=h; cases h') (fun h=>by have h':(none:Option E)=some .sel:=h; cases h')
noncomputable def i58:TI:=⟨.func,1,Bool.false,Value.nilFunc,8,none⟩
theorem k58:TIok Tryz.prog 58 i58:=tiok (by exact ⟨_,_,_,Tryz.underlying58⟩) Tryz.sizeOf58 Tryz.isAgg58 Tryz.zeroValue58 rfl Tryz.typeInfo58 rfl (fun h=>by have h':(none:Option E)=some .attr:=h; cases h') (fun h=>by have h':(none:Option E)=some .sel:=h; cases h')
noncomputable def i59:TI:=⟨.slice 62,1,Bool.false,(Value.slice Option.none 0 0),24,some (.rc .nps [] 0)⟩
theorem k59:TIok Tryz.prog 59 i59:=tiok (by exact Tryz.underlying59) Tryz.sizeOf59 Tryz.isAgg59 Tryz.zeroValue59 rfl Tryz.typeInfo59 rfl (fun h=>by have h':(some (.rc .nps [] 0):Option E)=some .attr:=h; cases h') (fun h=>by have h':(some (.rc .nps [] 0):Option E)=some .sel:=h; cases h')
noncomputable def i60:TI:=⟨.struct [(59,0),(3,1),(4,2)],3,Bool.true,(Value.agg #[Value.slice Option.none 0 0,Value.int IntKind.i64 0,Value.bool Bool.false]),40,none⟩
theorem k60:TIok Tryz.prog 60 i60:=tiok (by exact ⟨_,Tryz.underlying60,rfl⟩) Tryz.sizeOf60 Tryz.isAgg60 Tryz.zeroValue60 rfl Tryz.typeInfo60 rfl (fun h=>by have h':(none:Option E)=some .attr:=h; cases h') (fun h=>by have h':(none:Option E)=some .sel:=h; cases h')
noncomputable def i61:TI:=⟨.struct [(59,0),(3,1),(4,2)],3,Bool.true,(Value.agg #[Value.slice Option.none 0 0,Value.int IntKind.i64 0,Value.bool Bool.false]),40,none⟩
theorem k61:TIok Tryz.prog 61 i61:=tiok (by exact ⟨_,Tryz.underlying61,rfl⟩) Tryz.sizeOf61 Tryz.isAgg61 Tryz.zeroValue61 rfl Tryz.typeInfo61 rfl (fun h=>by have h':(none:Option E)=some .attr:=h; cases h') (fun h=>by have h':(none:Option E)=some .sel:=h; cases h')
noncomputable def i62:TI:=⟨.ptr 93,1,Bool.false,(Value.pointer Option.none),8,some .np⟩
theorem k62:TIok Tryz.prog 62 i62:=tiok (by exact Tryz.underlying62) Tryz.sizeOf62 Tryz.isAgg62 Tryz.zeroValue62 rfl Tryz.typeInfo62 rfl (fun h=>by have h':(some .np:Option E)=some .attr:=h; cases h') (fun h=>by have h':(some .np:Option E)=some .sel:=h; cases h')
noncomputable def i63:TI:=⟨.func,1,Bool.false,Value.nilFunc,8,none⟩
theorem k63:TIok Tryz.prog 63 i63:=tiok (by exact ⟨_,_,_,Tryz.underlying63⟩) Tryz.sizeOf63 Tryz.isAgg63 Tryz.zeroValue63 rfl Tryz.typeInfo63 rfl (fun h=>by have h':(none:Option E)=some .attr:=h; cases h') (fun h=>by have h':(none:Option E)=some .sel:=h; cases h')
noncomputable def i64:TI:=⟨.other,1,Bool.false,(Value.tuple #[Value.pointer Option.none,Value.bool Bool.false]),0,none⟩
theorem k64:TIok Tryz.prog 64 i64:=tiok (by exact trivial) Tryz.sizeOf64 Tryz.isAgg64 Tryz.zeroValue64 rfl Tryz.typeInfo64 rfl (fun h=>by have h':(none:Option E)=some .attr:=h; cases h') (fun h=>by have h':(none:Option E)=some .sel:=h; cases h')
noncomputable def i65:TI:=⟨.func,1,Bool.false,Value.nilFunc,8,none⟩
theorem k65:TIok Tryz.prog 65 i65:=tiok (by exact ⟨_,_,_,Tryz.underlying65⟩) Tryz.sizeOf65 Tryz.isAgg65 Tryz.zeroValue65 rfl Tryz.typeInfo65 rfl (fun h=>by have h':(none:Option E)=some .attr:=h; cases h') (fun h=>by have h':(none:Option E)=some .sel:=h; cases h')
noncomputable def i66:TI:=⟨.other,1,Bool.false,(Value.tuple #[Value.slice Option.none 0 0,Value.bool Bool.false]),0,none⟩
theorem k66:TIok Tryz.prog 66 i66:=tiok (by exact trivial) Tryz.sizeOf66 Tryz.isAgg66 Tryz.zeroValue66 rfl Tryz.typeInfo66 rfl (fun h=>by have h':(none:Option E)=some .attr:=h; cases h') (fun h=>by have h':(none:Option E)=some .sel:=h; cases h')
noncomputable def i67:TI:=⟨.func,1,Bool.false,Value.nilFunc,8,none⟩
theorem k67:TIok Tryz.prog 67 i67:=tiok (by exact ⟨_,_,_,Tryz.underlying67⟩) Tryz.sizeOf67 Tryz.isAgg67 Tryz.zeroValue67 rfl Tryz.typeInfo67 rfl (fun h=>by have h':(none:Option E)=some .attr:=h; cases h') (fun h=>by have h':(none:Option E)=some .sel:=h; cases h')
noncomputable def i68:TI:=⟨.func,1,Bool.false,Value.nilFunc,8,none⟩
theorem k68:TIok Tryz.prog 68 i68:=tiok (by exact ⟨_,_,_,Tryz.underlying68⟩) Tryz.sizeOf68 Tryz.isAgg68 Tryz.zeroValue68 rfl Tryz.typeInfo68 rfl (fun h=>by have h':(none:Option E)=some .attr:=h; cases h') (fun h=>by have h':(none:Option E)=some .sel:=h; cases h')
noncomputable def i69:TI:=⟨.other,1,Bool.false,(Value.tuple #[Value.slice Option.none 0 0,Value.slice Option.none 0 0]),0,none⟩
theorem k69:TIok Tryz.prog 69 i69:=tiok (by exact trivial) Tryz.sizeOf69 Tryz.isAgg69 Tryz.zeroValue69 rfl Tryz.typeInfo69 rfl (fun h=>by have h':(none:Option E)=some .attr:=h; cases h') (fun h=>by have h':(none:Option E)=some .sel:=h; cases h')
noncomputable def i70:TI:=⟨.func,1,Bool.false,Value.nilFunc,8,none⟩
theorem k70:TIok Tryz.prog 70 i70:=tiok (by exact ⟨_,_,_,Tryz.underlying70⟩) Tryz.sizeOf70 Tryz.isAgg70 Tryz.zeroValue70 rfl Tryz.typeInfo70 rfl (fun h=>by have h':(none:Option E)=some .attr:=h; cases h') (fun h=>by have h':(none:Option E)=some .sel:=h; cases h')
noncomputable def i71:TI:=⟨.func,1,Bool.false,Value.nilFunc,8,none⟩
theorem k71:TIok Tryz.prog 71 i71:=tiok (by exact ⟨_,_,_,Tryz.underlying71⟩) Tryz.sizeOf71 Tryz.isAgg71 Tryz.zeroValue71 rfl Tryz.typeInfo71 rfl (fun h=>by have h':(none:Option E)=some .attr:=h; cases h') (fun h=>by have h':(none:Option E)=some .sel:=h; cases h')
noncomputable def i72:TI:=⟨.func,1,Bool.false,Value.nilFunc,8,none⟩
theorem k72:TIok Tryz.prog 72 i72:=tiok (by exact ⟨_,_,_,Tryz.underlying72⟩) Tryz.sizeOf72 Tryz.isAgg72 Tryz.zeroValue72 rfl Tryz.typeInfo72 rfl (fun h=>by have h':(none:Option E)=some .attr:=h; cases h') (fun h=>by have h':(none:Option E)=some .sel:=h; cases h')
noncomputable def i73:TI:=⟨.func,1,Bool.false,Value.nilFunc,8,none⟩
theorem k73:TIok Tryz.prog 73 i73:=tiok (by exact ⟨_,_,_,Tryz.underlying73⟩) Tryz.sizeOf73 Tryz.isAgg73 Tryz.zeroValue73 rfl Tryz.typeInfo73 rfl (fun h=>by have h':(none:Option E)=some .attr:=h; cases h') (fun h=>by have h':(none:Option E)=some .sel:=h; cases h')
noncomputable def i74:TI:=⟨.ptr 104,1,Bool.false,(Value.pointer Option.none),8,none⟩
theorem k74:TIok Tryz.prog 74 i74:=tiok (by exact Tryz.underlying74) Tryz.sizeOf74 Tryz.isAgg74 Tryz.zeroValue74 rfl Tryz.typeInfo74 rfl (fun h=>by have h':(none:Option E)=some .attr:=h; cases h') (fun h=>by have h':(none:Option E)=some .sel:=h; cases h')
noncomputable def i75:TI:=⟨.struct [(47,0),(74,1),(44,2)],3,Bool.true,(Value.agg #[Value.slice Option.none 0 0,Value.pointer Option.none,Value.pointer Option.none]),40,none⟩
theorem k75:TIok Tryz.prog 75 i75:=tiok (by exact ⟨_,Tryz.underlying75,rfl⟩) Tryz.sizeOf75 Tryz.isAgg75 Tryz.zeroValue75 rfl Tryz.typeInfo75 rfl (fun h=>by have h':(none:Option E)=some .attr:=h; cases h') (fun h=>by have h':(none:Option E)=some .sel:=h; cases h')
noncomputable def i76:TI:=⟨.struct [(47,0),(74,1),(44,2)],3,Bool.true,(Value.agg #[Value.slice Option.none 0 0,Value.pointer Option.none,Value.pointer Option.none]),40,some (.rc .nps [] 2)⟩
theorem k76:TIok Tryz.prog 76 i76:=tiok (by exact ⟨_,Tryz.underlying76,rfl⟩) Tryz.sizeOf76 Tryz.isAgg76 Tryz.zeroValue76 rfl Tryz.typeInfo76 rfl (fun h=>by have h':(some (.rc .nps [] 2):Option E)=some .attr:=h; cases h') (fun h=>by have h':(some (.rc .nps [] 2):Option E)=some .sel:=h; cases h')
noncomputable def i77:TI:=⟨.int .u32,1,Bool.false,(Value.int IntKind.u32 0),4,none⟩
theorem k77:TIok Tryz.prog 77 i77:=tiok (by exact Tryz.underlying77) Tryz.sizeOf77 Tryz.isAgg77 Tryz.zeroValue77 rfl Tryz.typeInfo77 rfl (fun h=>by have h':(none:Option E)=some .attr:=h; cases h') (fun h=>by have h':(none:Option E)=some .sel:=h; cases h')
noncomputable def i78:TI:=⟨.int .u32,1,Bool.false,(Value.int IntKind.u32 0),4,none⟩
theorem k78:TIok Tryz.prog 78 i78:=tiok (by exact Tryz.underlying78) Tryz.sizeOf78 Tryz.isAgg78 Tryz.zeroValue78 rfl Tryz.typeInfo78 rfl (fun h=>by have h':(none:Option E)=some .attr:=h; cases h') (fun h=>by have h':(none:Option E)=some .sel:=h; cases h')
noncomputable def i79:TI:=⟨.int .u32,1,Bool.false,(Value.int IntKind.u32 0),4,none⟩
theorem k79:TIok Tryz.prog 79 i79:=tiok (by exact Tryz.underlying79) Tryz.sizeOf79 Tryz.isAgg79 Tryz.zeroValue79 rfl Tryz.typeInfo79 rfl (fun h=>by have h':(none:Option E)=some .attr:=h; cases h') (fun h=>by have h':(none:Option E)=some .sel:=h; cases h')
noncomputable def i80:TI:=⟨.slice 135,1,Bool.false,(Value.slice Option.none 0 0),24,some (.rc .hattrs [] 0)⟩
theorem k80:TIok Tryz.prog 80 i80:=tiok (by exact Tryz.underlying80) Tryz.sizeOf80 Tryz.isAgg80 Tryz.zeroValue80 rfl Tryz.typeInfo80 rfl (fun h=>by have h':(some (.rc .hattrs [] 0):Option E)=some .attr:=h; cases h') (fun h=>by have h':(some (.rc .hattrs [] 0):Option E)=some .sel:=h; cases h')
noncomputable def i81:TI:=⟨.struct [(51,0),(51,1),(51,2),(51,3),(51,4),(78,5),(79,6),(9,7),(9,8),(80,9)],10,Bool.true,(Value.agg #[Value.pointer Option.none,Value.pointer Option.none,Value.pointer Option.none,Value.pointer Option.none,Value.pointer Option.none,Value.int IntKind.u32 0,Value.int IntKind.u32 0,Value.string { data:=#[] },Value.string { data:=#[] },Value.slice Option.none 0 0]),104,none⟩
theorem k81:TIok Tryz.prog 81 i81:=tiok (by exact ⟨_,Tryz.underlying81,rfl⟩) Tryz.sizeOf81 Tryz.isAgg81 Tryz.zeroValue81 rfl Tryz.typeInfo81 rfl (fun h=>by have h':(none:Option E)=some .attr:=h; cases h') (fun h=>by have h':(none:Option E)=some .sel:=h; cases h')
noncomputable def i82:TI:=⟨.struct [(51,0),(51,1),(51,2),(51,3),(51,4),(78,5),(79,6),(9,7),(9,8),(80,9)],10,Bool.true,(Value.agg #[Value.pointer Option.none,Value.pointer Option.none,Value.pointer Option.none,Value.pointer Option.none,Value.pointer Option.none,Value.int IntKind.u32 0,Value.int IntKind.u32 0,Value.string { data:=#[] },Value.string { data:=#[] },Value.slice Option.none 0 0]),104,none⟩
theorem k82:TIok Tryz.prog 82 i82:=tiok (by exact ⟨_,Tryz.underlying82,rfl⟩) Tryz.sizeOf82 Tryz.isAgg82 Tryz.zeroValue82 rfl Tryz.typeInfo82 rfl (fun h=>by have h':(none:Option E)=some .attr:=h; cases h') (fun h=>by have h':(none:Option E)=some .sel:=h; cases h')
noncomputable def i83:TI:=⟨.func,1,Bool.false,Value.nilFunc,8,none⟩
theorem k83:TIok Tryz.prog 83 i83:=tiok (by exact ⟨_,_,_,Tryz.underlying83⟩) Tryz.sizeOf83 Tryz.isAgg83 Tryz.zeroValue83 rfl Tryz.typeInfo83 rfl (fun h=>by have h':(none:Option E)=some .attr:=h; cases h') (fun h=>by have h':(none:Option E)=some .sel:=h; cases h')
noncomputable def i84:TI:=⟨.func,1,Bool.false,Value.nilFunc,8,none⟩
theorem k84:TIok Tryz.prog 84 i84:=tiok (by exact ⟨_,_,_,Tryz.underlying84⟩) Tryz.sizeOf84 Tryz.isAgg84 Tryz.zeroValue84 rfl Tryz.typeInfo84 rfl (fun h=>by have h':(none:Option E)=some .attr:=h; cases h') (fun h=>by have h':(none:Option E)=some .sel:=h; cases h')
noncomputable def i85:TI:=⟨.func,1,Bool.false,Value.nilFunc,8,none⟩
theorem k85:TIok Tryz.prog 85 i85:=tiok (by exact ⟨_,_,_,Tryz.underlying85⟩) Tryz.sizeOf85 Tryz.isAgg85 Tryz.zeroValue85 rfl Tryz.typeInfo85 rfl (fun h=>by have h':(none:Option E)=some .attr:=h; cases h') (fun h=>by have h':(none:Option E)=some .sel:=h; cases h')
noncomputable def i86:TI:=⟨.func,1,Bool.false,Value.nilFunc,8,none⟩
theorem k86:TIok Tryz.prog 86 i86:=tiok (by exact ⟨_,_,_,Tryz.underlying86⟩) Tryz.sizeOf86 Tryz.isAgg86 Tryz.zeroValue86 rfl Tryz.typeInfo86 rfl (fun h=>by have h':(none:Option E)=some .attr:=h; cases h') (fun h=>by have h':(none:Option E)=some .sel:=h; cases h')
noncomputable def i87:TI:=⟨.func,1,Bool.false,Value.nilFunc,8,none⟩
theorem k87:TIok Tryz.prog 87 i87:=tiok (by exact ⟨_,_,_,Tryz.underlying87⟩) Tryz.sizeOf87 Tryz.isAgg87 Tryz.zeroValue87 rfl Tryz.typeInfo87 rfl (fun h=>by have h':(none:Option E)=some .attr:=h; cases h') (fun h=>by have h':(none:Option E)=some .sel:=h; cases h')
noncomputable def i88:TI:=⟨.struct [(9,0),(9,1)],2,Bool.true,(Value.agg #[Value.string { data:=#[] },Value.string { data:=#[] }]),32,none⟩
theorem k88:TIok Tryz.prog 88 i88:=tiok (by exact ⟨_,Tryz.underlying88,rfl⟩) Tryz.sizeOf88 Tryz.isAgg88 Tryz.zeroValue88 rfl Tryz.typeInfo88 rfl (fun h=>by have h':(none:Option E)=some .attr:=h; cases h') (fun h=>by have h':(none:Option E)=some .sel:=h; cases h')
noncomputable def i89:TI:=⟨.struct [(9,0),(9,1)],2,Bool.true,(Value.agg #[Value.string { data:=#[] },Value.string { data:=#[] }]),32,some .attr⟩
theorem k89:TIok Tryz.prog 89 i89:=tiok (by exact ⟨_,Tryz.underlying89,rfl⟩) Tryz.sizeOf89 Tryz.isAgg89 Tryz.zeroValue89 rfl Tryz.typeInfo89 rfl (fun _=>⟨9,_,_,Tryz.underlying89,by decide,by decide,rfl,rfl,rfl,rfl,Tryz.underlying9,Tryz.isAgg9,by kernel_rfl,by kernel_rfl⟩) (fun h=>by have h':(some .attr:Option E)=some .sel:=h; cases h')
noncomputable def i90:TI:=⟨.func,1,Bool.false,Value.nilFunc,8,none⟩
theorem k90:TIok Tryz.prog 90 i90:=tiok (by exact ⟨_,_,_,Tryz.underlying90⟩) Tryz.sizeOf90 Tryz.isAgg90 Tryz.zeroValue90 rfl Tryz.typeInfo90 rfl (fun h=>by have h':(none:Option E)=some .attr:=h; cases h') (fun h=>by have h':(none:Option E)=some .sel:=h; cases h')
noncomputable def i91:TI:=⟨.func,1,Bool.false,Value.nilFunc,8,none⟩
theorem k91:TIok Tryz.prog 91 i91:=tiok (by exact ⟨_,_,_,Tryz.underlying91⟩) Tryz.sizeOf91 Tryz.isAgg91 Tryz.zeroValue91 rfl Tryz.typeInfo91 rfl (fun h=>by have h':(none:Option E)=some .attr:=h; cases h') (fun h=>by have h':(none:Option E)=some .sel:=h; cases h')
noncomputable def i92:TI:=⟨.struct [(3,0),(39,1),(62,6),(59,7)],8,Bool.true,(Value.agg #[Value.int IntKind.i64 0,Value.int IntKind.i64 0,Value.string { data:=#[] },Value.string { data:=#[] },Value.slice Option.none 0 0,Value.int IntKind.i64 0,Value.pointer Option.none,Value.slice Option.none 0 0]),112,none⟩
theorem k92:TIok Tryz.prog 92 i92:=tiok (by exact ⟨_,Tryz.underlying92,rfl⟩) Tryz.sizeOf92 Tryz.isAgg92 Tryz.zeroValue92 rfl Tryz.typeInfo92 rfl (fun h=>by have h':(none:Option E)=some .attr:=h; cases h') (fun h=>by have h':(none:Option E)=some .sel:=h; cases h')
noncomputable def i93:TI:=⟨.struct [(3,0),(39,1),(62,6),(59,7)],8,Bool.true,(Value.agg #[Value.int IntKind.i64 0,Value.int IntKind.i64 0,Value.string { data:=#[] },Value.string { data:=#[] },Value.slice Option.none 0 0,Value.int IntKind.i64 0,Value.pointer Option.none,Value.slice Option.none 0 0]),112,none⟩
theorem k93:TIok Tryz.prog 93 i93:=tiok (by exact ⟨_,Tryz.underlying93,rfl⟩) Tryz.sizeOf93 Tryz.isAgg93 Tryz.zeroValue93 rfl Tryz.typeInfo93 rfl (fun h=>by have h':(none:Option E)=some .attr:=h; cases h') (fun h=>by have h':(none:Option E)=some .sel:=h; cases h')
noncomputable def i94:TI:=⟨.other,1,Bool.false,(Value.tuple #[Value.slice Option.none 0 0,Value.bool Bool.false]),0,none⟩
theorem k94:TIok Tryz.prog 94 i94:=tiok (by exact trivial) Tryz.sizeOf94 Tryz.isAgg94 Tryz.zeroValue94 rfl Tryz.typeInfo94 rfl (fun h=>by have h':(none:Option E)=some .attr:=h; cases h') (fun h=>by have h':(none:Option E)=some .sel:=h; cases h')
noncomputable def i95:TI:=⟨.func,1,Bool.false,Value.nilFunc,8,none⟩
theorem k95:TIok Tryz.prog 95 i95:=tiok (by exact ⟨_,_,_,Tryz.underlying95⟩) Tryz.sizeOf95 Tryz.isAgg95 Tryz.zeroValue95 rfl Tryz.typeInfo95 rfl (fun h=>by have h':(none:Option E)=some .attr:=h; cases h') (fun h=>by have h':(none:Option E)=some .sel:=h; cases h')
noncomputable def i96:TI:=⟨.func,1,Bool.false,Value.nilFunc,8,none⟩
theorem k96:TIok Tryz.prog 96 i96:=tiok (by exact ⟨_,_,_,Tryz.underlying96⟩) Tryz.sizeOf96 Tryz.isAgg96 Tryz.zeroValue96 rfl Tryz.typeInfo96 rfl (fun h=>by have h':(none:Option E)=some .attr:=h; cases h') (fun h=>by have h':(none:Option E)=some .sel:=h; cases h')
noncomputable def i97:TI:=⟨.func,1,Bool.false,Value.nilFunc,8,none⟩
theorem k97:TIok Tryz.prog 97 i97:=tiok (by exact ⟨_,_,_,Tryz.underlying97⟩) Tryz.sizeOf97 Tryz.isAgg97 Tryz.zeroValue97 rfl Tryz.typeInfo97 rfl (fun h=>by have h':(none:Option E)=some .attr:=h; cases h') (fun h=>by have h':(none:Option E)=some .sel:=h; cases h')
noncomputable def i98:TI:=⟨.func,1,Bool.false,Value.nilFunc,8,none⟩
theorem k98:TIok Tryz.prog 98 i98:=tiok (by exact ⟨_,_,_,Tryz.underlying98⟩) Tryz.sizeOf98 Tryz.isAgg98 Tryz.zeroValue98 rfl Tryz.typeInfo98 rfl (fun h=>by have h':(none:Option E)=some .attr:=h; cases h') (fun h=>by have h':(none:Option E)=some .sel:=h; cases h')
noncomputable def i99:TI:=⟨.func,1,Bool.false,Value.nilFunc,8,none⟩
theorem k99:TIok Tryz.prog 99 i99:=tiok (by exact ⟨_,_,_,Tryz.underlying99⟩) Tryz.sizeOf99 Tryz.isAgg99 Tryz.zeroValue99 rfl Tryz.typeInfo99 rfl (fun h=>by have h':(none:Option E)=some .attr:=h; cases h') (fun h=>by have h':(none:Option E)=some .sel:=h; cases h')
noncomputable def i100:TI:=⟨.func,1,Bool.false,Value.nilFunc,8,none⟩
theorem k100:TIok Tryz.prog 100 i100:=tiok (by exact ⟨_,_,_,Tryz.underlying100⟩) Tryz.sizeOf100 Tryz.isAgg100 Tryz.zeroValue100 rfl Tryz.typeInfo100 rfl (fun h=>by have h':(none:Option E)=some .attr:=h; cases h') (fun h=>by have h':(none:Option E)=some .sel:=h; cases h')
noncomputable def i101:TI:=⟨.func,1,Bool.false,Value.nilFunc,8,none⟩
theorem k101:TIok Tryz.prog 101 i101:=tiok (by exact ⟨_,_,_,Tryz.underlying101⟩) Tryz.sizeOf101 Tryz.isAgg101 Tryz.zeroValue101 rfl Tryz.typeInfo101 rfl (fun h=>by have h':(none:Option E)=some .attr:=h; cases h') (fun h=>by have h':(none:Option E)=some .sel:=h; cases h')
noncomputable def i102:TI:=⟨.func,1,Bool.false,Value.nilFunc,8,none⟩
theorem k102:TIok Tryz.prog 102 i102:=tiok (by exact ⟨_,_,_,Tryz.underlying102⟩) Tryz.sizeOf102 Tryz.isAgg102 Tryz.zeroValue102 rfl Tryz.typeInfo102 rfl (fun h=>by have h':(none:Option E)=some .attr:=h; cases h') (fun h=>by have h':(none:Option E)=some .sel:=h; cases h')
noncomputable def i103:TI:=⟨.struct [(44,0),(51,1)],2,Bool.true,(Value.agg #[Value.pointer Option.none,Value.pointer Option.none]),16,none⟩
theorem k103:TIok Tryz.prog 103 i103:=tiok (by exact ⟨_,Tryz.underlying103,rfl⟩) Tryz.sizeOf103 Tryz.isAgg103 Tryz.zeroValue103 rfl Tryz.typeInfo103 rfl (fun h=>by have h':(none:Option E)=some .attr:=h; cases h') (fun h=>by have h':(none:Option E)=some .sel:=h; cases h')
noncomputable def i104:TI:=⟨.struct [(44,0),(51,1)],2,Bool.true,(Value.agg #[Value.pointer Option.none,Value.pointer Option.none]),16,some (.rc .fsel [.np] 0)⟩
theorem k104:TIok Tryz.prog 104 i104:=tiok (by exact ⟨_,Tryz.underlying104,rfl⟩) Tryz.sizeOf104 Tryz.isAgg104 Tryz.zeroValue104 rfl Tryz.typeInfo104 rfl (fun h=>by have h':(some (.rc .fsel [.np] 0):Option E)=some .attr:=h; cases h') (fun h=>by have h':(some (.rc .fsel [.np] 0):Option E)=some .sel:=h; cases h')
noncomputable def i105:TI:=⟨.func,1,Bool.false,Value.nilFunc,8,none⟩
theorem k105:TIok Tryz.prog 105 i105:=tiok (by exact ⟨_,_,_,Tryz.underlying105⟩) Tryz.sizeOf105 Tryz.isAgg105 Tryz.zeroValue105 rfl Tryz.typeInfo105 rfl (fun h=>by have h':(none:Option E)=some .attr:=h; cases h') (fun h=>by have h':(none:Option E)=some .sel:=h; cases h')
noncomputable def i106:TI:=⟨.func,1,Bool.false,Value.nilFunc,8,none⟩
theorem k106:TIok Tryz.prog 106 i106:=tiok (by exact ⟨_,_,_,Tryz.underlying106⟩) Tryz.sizeOf106 Tryz.isAgg106 Tryz.zeroValue106 rfl Tryz.typeInfo106 rfl (fun h=>by have h':(none:Option E)=some .attr:=h; cases h') (fun h=>by have h':(none:Option E)=some .sel:=h; cases h')
noncomputable def i107:TI:=⟨.func,1,Bool.false,Value.nilFunc,8,none⟩
theorem k107:TIok Tryz.prog 107 i107:=tiok (by exact ⟨_,_,_,Tryz.underlying107⟩) Tryz.sizeOf107 Tryz.isAgg107 Tryz.zeroValue107 rfl Tryz.typeInfo107 rfl (fun h=>by have h':(none:Option E)=some .attr:=h; cases h') (fun h=>by have h':(none:Option E)=some .sel:=h; cases h')
noncomputable def i108:TI:=⟨.func,1,Bool.false,Value.nilFunc,8,none⟩
theorem k108:TIok Tryz.prog 108 i108:=tiok (by exact ⟨_,_,_,Tryz.underlying108⟩) Tryz.sizeOf108 Tryz.isAgg108 Tryz.zeroValue108 rfl Tryz.typeInfo108 rfl (fun h=>by have h':(none:Option E)=some .attr:=h; cases h') (fun h=>by have h':(none:Option E)=some .sel:=h; cases h')
noncomputable def i109:TI:=⟨.func,1,Bool.false,Value.nilFunc,8,none⟩
theorem k109:TIok Tryz.prog 109 i109:=tiok (by exact ⟨_,_,_,Tryz.underlying109⟩) Tryz.sizeOf109 Tryz.isAgg109 Tryz.zeroValue109 rfl Tryz.typeInfo109 rfl (fun h=>by have h':(none:Option E)=some .attr:=h; cases h') (fun h=>by have h':(none:Option E)=some .sel:=h; cases h')
noncomputable def i110:TI:=⟨.func,1,Bool.false,Value.nilFunc,8,none⟩
theorem k110:TIok Tryz.prog 110 i110:=tiok (by exact ⟨_,_,_,Tryz.underlying110⟩) Tryz.sizeOf110 Tryz.isAgg110 Tryz.zeroValue110 rfl Tryz.typeInfo110 rfl (fun h=>by have h':(none:Option E)=some .attr:=h; cases h') (fun h=>by have h':(none:Option E)=some .sel:=h; cases h')
noncomputable def i111:TI:=⟨.func,1,Bool.false,Value.nilFunc,8,none⟩
theorem k111:TIok Tryz.prog 111 i111:=tiok (by exact ⟨_,_,_,Tryz.underlying111⟩) Tryz.sizeOf111 Tryz.isAgg111 Tryz.zeroValue111 rfl Tryz.typeInfo111 rfl (fun h=>by have h':(none:Option E)=some .attr:=h; cases h') (fun h=>by have h':(none:Option E)=some .sel:=h; cases h')
noncomputable def i112:TI:=⟨.func,1,Bool.false,Value.nilFunc,8,none⟩
theorem k112:TIok Tryz.prog 112 i112:=tiok (by exact ⟨_,_,_,Tryz.underlying112⟩) Tryz.sizeOf112 Tryz.isAgg112 Tryz.zeroValue112 rfl Tryz.typeInfo112 rfl (fun h=>by have h':(none:Option E)=some .attr:=h; cases h') (fun h=>by have h':(none:Option E)=some .sel:=h; cases h')
noncomputable def i113:TI:=⟨.func,1,Bool.false,Value.nilFunc,8,none⟩
theorem k113:TIok Tryz.prog 113 i113:=tiok (by exact ⟨_,_,_,Tryz.underlying113⟩) Tryz.sizeOf113 Tryz.isAgg113 Tryz.zeroValue113 rfl Tryz.typeInfo113 rfl (fun h=>by have h':(none:Option E)=some .attr:=h; cases h') (fun h=>by have h':(none:Option E)=some .sel:=h; cases h')
noncomputable def i114:TI:=⟨.func,1,Bool.false,Value.nilFunc,8,none⟩
theorem k114:TIok Tryz.prog 114 i114:=tiok (by exact ⟨_,_,_,Tryz.underlying114⟩) Tryz.sizeOf114 Tryz.isAgg114 Tryz.zeroValue114 rfl Tryz.typeInfo114 rfl (fun h=>by have h':(none:Option E)=some .attr:=h; cases h') (fun h=>by have h':(none:Option E)=some .sel:=h; cases h')
noncomputable def i115:TI:=⟨.func,1,Bool.false,Value.nilFunc,8,none⟩
theorem k115:TIok Tryz.prog 115 i115:=tiok (by exact ⟨_,_,_,Tryz.underlying115⟩) Tryz.sizeOf115 Tryz.isAgg115 Tryz.zeroValue115 rfl Tryz.typeInfo115 rfl (fun h=>by have h':(none:Option E)=some .attr:=h; cases h') (fun h=>by have h':(none:Option E)=some .sel:=h; cases h')
noncomputable def i116:TI:=⟨.func,1,Bool.false,Value.nilFunc,8,none⟩
theorem k116:TIok Tryz.prog 116 i116:=tiok (by exact ⟨_,_,_,Tryz.underlying116⟩) Tryz.sizeOf116 Tryz.isAgg116 Tryz.zeroValue116 rfl Tryz.typeInfo116 rfl (fun h=>by have h':(none:Option E)=some .attr:=h; cases h') (fun h=>by have h':(none:Option E)=some .sel:=h; cases h')
noncomputable def i117:TI:=⟨.func,1,Bool.false,Value.nilFunc,8,none⟩
theorem k117:TIok Tryz.prog 117 i117:=tiok (by exact ⟨_,_,_,Tryz.underlying117⟩) Tryz.sizeOf117 Tryz.isAgg117 Tryz.zeroValue117 rfl Tryz.typeInfo117 rfl (fun h=>by have h':(none:Option E)=some .attr:=h; cases h') (fun h=>by have h':(none:Option E)=some .sel:=h; cases h')
noncomputable def i118:TI:=⟨.slice 59,1,Bool.false,(Value.slice Option.none 0 0),24,none⟩
theorem k118:TIok Tryz.prog 118 i118:=tiok (by exact Tryz.underlying118) Tryz.sizeOf118 Tryz.isAgg118 Tryz.zeroValue118 rfl Tryz.typeInfo118 rfl (fun h=>by have h':(none:Option E)=some .attr:=h; cases h') (fun h=>by have h':(none:Option E)=some .sel:=h; cases h')
noncomputable def i119:TI:=⟨.func,1,Bool.false,Value.nilFunc,8,none⟩
theorem k119:TIok Tryz.prog 119 i119:=tiok (by exact ⟨_,_,_,Tryz.underlying119⟩) Tryz.sizeOf119 Tryz.isAgg119 Tryz.zeroValue119 rfl Tryz.typeInfo119 rfl (fun h=>by have h':(none:Option E)=some .attr:=h; cases h') (fun h=>by have h':(none:Option E)=some .sel:=h; cases h')
noncomputable def i120:TI:=⟨.ptr 39,1,Bool.false,(Value.pointer Option.none),8,none⟩
theorem k120:TIok Tryz.prog 120 i120:=tiok (by exact Tryz.underlying120) Tryz.sizeOf120 Tryz.isAgg120 Tryz.zeroValue120 rfl Tryz.typeInfo120 rfl (fun h=>by have h':(none:Option E)=some .attr:=h; cases h') (fun h=>by have h':(none:Option E)=some .sel:=h; cases h')
noncomputable def i121:TI:=⟨.func,1,Bool.false,Value.nilFunc,8,none⟩
theorem k121:TIok Tryz.prog 121 i121:=tiok (by exact ⟨_,_,_,Tryz.underlying121⟩) Tryz.sizeOf121 Tryz.isAgg121 Tryz.zeroValue121 rfl Tryz.typeInfo121 rfl (fun h=>by have h':(none:Option E)=some .attr:=h; cases h') (fun h=>by have h':(none:Option E)=some .sel:=h; cases h')
noncomputable def i122:TI:=⟨.func,1,Bool.false,Value.nilFunc,8,none⟩
theorem k122:TIok Tryz.prog 122 i122:=tiok (by exact ⟨_,_,_,Tryz.underlying122⟩) Tryz.sizeOf122 Tryz.isAgg122 Tryz.zeroValue122 rfl Tryz.typeInfo122 rfl (fun h=>by have h':(none:Option E)=some .attr:=h; cases h') (fun h=>by have h':(none:Option E)=some .sel:=h; cases h')
noncomputable def i123:TI:=⟨.other,1,Bool.false,(Value.tuple #[Value.string { data:=#[] },Value.bool Bool.false]),0,none⟩
theorem k123:TIok Tryz.prog 123 i123:=tiok (by exact trivial) Tryz.sizeOf123 Tryz.isAgg123 Tryz.zeroValue123 rfl Tryz.typeInfo123 rfl (fun h=>by have h':(none:Option E)=some .attr:=h; cases h') (fun h=>by have h':(none:Option E)=some .sel:=h; cases h')
noncomputable def i124:TI:=⟨.func,1,Bool.false,Value.nilFunc,8,none⟩
theorem k124:TIok Tryz.prog 124 i124:=tiok (by exact ⟨_,_,_,Tryz.underlying124⟩) Tryz.sizeOf124 Tryz.isAgg124 Tryz.zeroValue124 rfl Tryz.typeInfo124 rfl (fun h=>by have h':(none:Option E)=some .attr:=h; cases h') (fun h=>by have h':(none:Option E)=some .sel:=h; cases h')
noncomputable def i125:TI:=⟨.func,1,Bool.false,Value.nilFunc,8,none⟩
theorem k125:TIok Tryz.prog 125 i125:=tiok (by exact ⟨_,_,_,Tryz.underlying125⟩) Tryz.sizeOf125 Tryz.isAgg125 Tryz.zeroValue125 rfl Tryz.typeInfo125 rfl (fun h=>by have h':(none:Option E)=some .attr:=h; cases h') (fun h=>by have h':(none:Option E)=some .sel:=h; cases h')
noncomputable def i126:TI:=⟨.func,1,Bool.false,Value.nilFunc,8,none⟩
theorem k126:TIok Tryz.prog 126 i126:=tiok (by exact ⟨_,_,_,Tryz.underlying126⟩) Tryz.sizeOf126 Tryz.isAgg126 Tryz.zeroValue126 rfl Tryz.typeInfo126 rfl (fun h=>by have h':(none:Option E)=some .attr:=h; cases h') (fun h=>by have h':(none:Option E)=some .sel:=h; cases h')
noncomputable def i127:TI:=⟨.func,1,Bool.false,Value.nilFunc,8,none⟩
theorem k127:TIok Tryz.prog 127 i127:=tiok (by exact ⟨_,_,_,Tryz.underlying127⟩) Tryz.sizeOf127 Tryz.isAgg127 Tryz.zeroValue127 rfl Tryz.typeInfo127 rfl (fun h=>by have h':(none:Option E)=some .attr:=h; cases h') (fun h=>by have h':(none:Option E)=some .sel:=h; cases h')
noncomputable def i128:TI:=⟨.func,1,Bool.false,Value.nilFunc,8,none⟩
theorem k128:TIok Tryz.prog 128 i128:=tiok (by exact ⟨_,_,_,Tryz.underlying128⟩) Tryz.sizeOf128 Tryz.isAgg128 Tryz.zeroValue128 rfl Tryz.typeInfo128 rfl (fun h=>by have h':(none:Option E)=some .attr:=h; cases h') (fun h=>by have h':(none:Option E)=some .sel:=h; cases h')
noncomputable def i129:TI:=⟨.map 51 4,1,Bool.false,(Value.map Option.none),8,none⟩
theorem k129:TIok Tryz.prog 129 i129:=tiok (by exact Tryz.underlying129) Tryz.sizeOf129 Tryz.isAgg129 Tryz.zeroValue129 rfl Tryz.typeInfo129 rfl (fun h=>by have h':(none:Option E)=some .attr:=h; cases h') (fun h=>by have h':(none:Option E)=some .sel:=h; cases h')
noncomputable def i130:TI:=⟨.func,1,Bool.false,Value.nilFunc,8,none⟩
theorem k130:TIok Tryz.prog 130 i130:=tiok (by exact ⟨_,_,_,Tryz.underlying130⟩) Tryz.sizeOf130 Tryz.isAgg130 Tryz.zeroValue130 rfl Tryz.typeInfo130 rfl (fun h=>by have h':(none:Option E)=some .attr:=h; cases h') (fun h=>by have h':(none:Option E)=some .sel:=h; cases h')
noncomputable def i131:TI:=⟨.func,1,Bool.false,Value.nilFunc,8,none⟩
theorem k131:TIok Tryz.prog 131 i131:=tiok (by exact ⟨_,_,_,Tryz.underlying131⟩) Tryz.sizeOf131 Tryz.isAgg131 Tryz.zeroValue131 rfl Tryz.typeInfo131 rfl (fun h=>by have h':(none:Option E)=some .attr:=h; cases h') (fun h=>by have h':(none:Option E)=some .sel:=h; cases h')
noncomputable def i132:TI:=⟨.int .i64,1,Bool.false,(Value.int IntKind.i64 0),8,none⟩
theorem k132:TIok Tryz.prog 132 i132:=tiok (by exact Tryz.underlying132) Tryz.sizeOf132 Tryz.isAgg132 Tryz.zeroValue132 rfl Tryz.typeInfo132 rfl (fun h=>by have h':(none:Option E)=some .attr:=h; cases h') (fun h=>by have h':(none:Option E)=some .sel:=h; cases h')
noncomputable def i133:TI:=⟨.func,1,Bool.false,Value.nilFunc,8,none⟩
theorem k133:TIok Tryz.prog 133 i133:=tiok (by exact ⟨_,_,_,Tryz.underlying133⟩) Tryz.sizeOf133 Tryz.isAgg133 Tryz.zeroValue133 rfl Tryz.typeInfo133 rfl (fun h=>by have h':(none:Option E)=some .attr:=h; cases h') (fun h=>by have h':(none:Option E)=some .sel:=h; cases h')
noncomputable def i134:TI:=⟨.struct [(9,0),(9,1),(9,2)],3,Bool.true,(Value.agg #[Value.string { data:=#[] },Value.string { data:=#[] },Value.string { data:=#[] }]),48,none⟩
theorem k134:TIok Tryz.prog 134 i134:=tiok (by exact ⟨_,Tryz.underlying134,rfl⟩) Tryz.sizeOf134 Tryz.isAgg134 Tryz.zeroValue134 rfl Tryz.typeInfo134 rfl (fun h=>by have h':(none:Option E)=some .attr:=h; cases h') (fun h=>by have h':(none:Option E)=some .sel:=h; cases h')
noncomputable def i135:TI:=⟨.struct [(9,0),(9,1),(9,2)],3,Bool.true,(Value.agg #[Value.string { data:=#[] },Value.string { data:=#[] },Value.string { data:=#[] }]),48,some .hattr⟩
theorem k135:TIok Tryz.prog 135 i135:=tiok (by exact ⟨_,Tryz.underlying135,rfl⟩) Tryz.sizeOf135 Tryz.isAgg135 Tryz.zeroValue135 rfl Tryz.typeInfo135 rfl (fun h=>by have h':(some .hattr:Option E)=some .attr:=h; cases h') (fun h=>by have h':(some .hattr:Option E)=some .sel:=h; cases h')
noncomputable def i136:TI:=⟨.other,1,Bool.false,(Value.tuple #[Value.int IntKind.i64 0,Value.int IntKind.i64 0]),0,none⟩
theorem k136:TIok Tryz.prog 136 i136:=tiok (by exact trivial) Tryz.sizeOf136 Tryz.isAgg136 Tryz.zeroValue136 rfl Tryz.typeInfo136 rfl (fun h=>by have h':(none:Option E)=some .attr:=h; cases h') (fun h=>by have h':(none:Option E)=some .sel:=h; cases h')
noncomputable def i137:TI:=⟨.func,1,Bool.false,Value.nilFunc,8,none⟩
theorem k137:TIok Tryz.prog 137 i137:=tiok (by exact ⟨_,_,_,Tryz.underlying137⟩) Tryz.sizeOf137 Tryz.isAgg137 Tryz.zeroValue137 rfl Tryz.typeInfo137 rfl (fun h=>by have h':(none:Option E)=some .attr:=h; cases h') (fun h=>by have h':(none:Option E)=some .sel:=h; cases h')
noncomputable def i138:TI:=⟨.func,1,Bool.false,Value.nilFunc,8,none⟩
theorem k138:TIok Tryz.prog 138 i138:=tiok (by exact ⟨_,_,_,Tryz.underlying138⟩) Tryz.sizeOf138 Tryz.isAgg138 Tryz.zeroValue138 rfl Tryz.typeInfo138 rfl (fun h=>by have h':(none:Option E)=some .attr:=h; cases h') (fun h=>by have h':(none:Option E)=some .sel:=h; cases h')
noncomputable def i139:TI:=⟨.func,1,Bool.false,Value.nilFunc,8,none⟩
theorem k139:TIok Tryz.prog 139 i139:=tiok (by exact ⟨_,_,_,Tryz.underlying139⟩) Tryz.sizeOf139 Tryz.isAgg139 Tryz.zeroValue139 rfl Tryz.typeInfo139 rfl (fun h=>by have h':(none:Option E)=some .attr:=h; cases h') (fun h=>by have h':(none:Option E)=some .sel:=h; cases h')
noncomputable def i140:TI:=⟨.func,1,Bool.false,Value.nilFunc,8,none⟩
theorem k140:TIok Tryz.prog 140 i140:=tiok (by exact ⟨_,_,_,Tryz.underlying140⟩) Tryz.sizeOf140 Tryz.isAgg140 Tryz.zeroValue140 rfl Tryz.typeInfo140 rfl (fun h=>by have h':(none:Option E)=some .attr:=h; cases h') (fun h=>by have h':(none:Option E)=some .sel:=h; cases h')
noncomputable def i141:TI:=⟨.func,1,Bool.false,Value.nilFunc,8,none⟩
theorem k141:TIok Tryz.prog 141 i141:=tiok (by exact ⟨_,_,_,Tryz.underlying141⟩) Tryz.sizeOf141 Tryz.isAgg141 Tryz.zeroValue141 rfl Tryz.typeInfo141 rfl (fun h=>by have h':(none:Option E)=some .attr:=h; cases h') (fun h=>by have h':(none:Option E)=some .sel:=h; cases h')
noncomputable def i142:TI:=⟨.func,1,Bool.false,Value.nilFunc,8,none⟩
theorem k142:TIok Tryz.prog 142 i142:=tiok (by exact ⟨_,_,_,Tryz.underlying142⟩) Tryz.sizeOf142 Tryz.isAgg142 Tryz.zeroValue142 rfl Tryz.typeInfo142 rfl (fun h=>by have h':(none:Option E)=some .attr:=h; cases h') (fun h=>by have h':(none:Option E)=some .sel:=h; cases h')
noncomputable def i143:TI:=⟨.func,1,Bool.false,Value.nilFunc,8,none⟩
theorem k143:TIok Tryz.prog 143 i143:=tiok (by exact ⟨_,_,_,Tryz.underlying143⟩) Tryz.sizeOf143 Tryz.isAgg143 Tryz.zeroValue143 rfl Tryz.typeInfo143 rfl (fun h=>by have h':(none:Option E)=some .attr:=h; cases h') (fun h=>by have h':(none:Option E)=some .sel:=h; cases h')
noncomputable def i144:TI:=⟨.int .u64,1,Bool.false,(Value.int IntKind.u64 0),8,none⟩
theorem k144:TIok Tryz.prog 144 i144:=tiok (by exact Tryz.underlying144) Tryz.sizeOf144 Tryz.isAgg144 Tryz.zeroValue144 rfl Tryz.typeInfo144 rfl (fun h=>by have h':(none:Option E)=some .attr:=h; cases h') (fun h=>by have h':(none:Option E)=some .sel:=h; cases h')
noncomputable def i145:TI:=⟨.func,1,Bool.false,Value.nilFunc,8,none⟩
theorem k145:TIok Tryz.prog 145 i145:=tiok (by exact ⟨_,_,_,Tryz.underlying145⟩) Tryz.sizeOf145 Tryz.isAgg145 Tryz.zeroValue145 rfl Tryz.typeInfo145 rfl (fun h=>by have h':(none:Option E)=some .attr:=h; cases h') (fun h=>by have h':(none:Option E)=some .sel:=h; cases h')
noncomputable def i146:TI:=⟨.func,1,Bool.false,Value.nilFunc,8,none⟩
theorem k146:TIok Tryz.prog 146 i146:=tiok (by exact ⟨_,_,_,Tryz.underlying146⟩) Tryz.sizeOf146 Tryz.isAgg146 Tryz.zeroValue146 rfl Tryz.typeInfo146 rfl (fun h=>by have h':(none:Option E)=some .attr:=h; cases h') (fun h=>by have h':(none:Option E)=some .sel:=h; cases h')
noncomputable def i147:TI:=⟨.struct [(17,0),(17,1),(17,2),(9,3)],4,Bool.true,(Value.agg #[Value.pointer Option.none,Value.pointer Option.none,Value.pointer Option.none,Value.string { data:=#[] }]),40,none⟩
theorem k147:TIok Tryz.prog 147 i147:=tiok (by exact ⟨_,Tryz.underlying147,rfl⟩) Tryz.sizeOf147 Tryz.isAgg147 Tryz.zeroValue147 rfl Tryz.typeInfo147 rfl (fun h=>by have h':(none:Option E)=some .attr:=h; cases h') (fun h=>by have h':(none:Option E)=some .sel:=h; cases h')
noncomputable def i148:TI:=⟨.struct [(17,0),(17,1),(17,2),(9,3)],4,Bool.true,(Value.agg #[Value.pointer Option.none,Value.pointer Option.none,Value.pointer Option.none,Value.string { data:=#[] }]),40,none⟩
theorem k148:TIok Tryz.prog 148 i148:=tiok (by exact ⟨_,Tryz.underlying148,rfl⟩) Tryz.sizeOf148 Tryz.isAgg148 Tryz.zeroValue148 rfl Tryz.typeInfo148 rfl (fun h=>by have h':(none:Option E)=some .attr:=h; cases h') (fun h=>by have h':(none:Option E)=some .sel:=h; cases h')
noncomputable def i149:TI:=⟨.other,0,Bool.true,(Value.agg #[]),0,none⟩
theorem k149:TIok Tryz.prog 149 i149:=tiok (by exact trivial) Tryz.sizeOf149 Tryz.isAgg149 Tryz.zeroValue149 rfl Tryz.typeInfo149 rfl (fun h=>by have h':(none:Option E)=some .attr:=h; cases h') (fun h=>by have h':(none:Option E)=some .sel:=h; cases h')
noncomputable def i150:TI:=⟨.struct [(149,0)],0,Bool.true,(Value.agg #[]),0,none⟩
theorem k150:TIok Tryz.prog 150 i150:=tiok (by exact ⟨_,Tryz.underlying150,rfl⟩) Tryz.sizeOf150 Tryz.isAgg150 Tryz.zeroValue150 rfl Tryz.typeInfo150 rfl (fun h=>by have h':(none:Option E)=some .attr:=h; cases h') (fun h=>by have h':(none:Option E)=some .sel:=h; cases h')
noncomputable def i151:TI:=⟨.struct [(149,0)],0,Bool.true,(Value.agg #[]),0,none⟩
theorem k151:TIok Tryz.prog 151 i151:=tiok (by exact ⟨_,Tryz.underlying151,rfl⟩) Tryz.sizeOf151 Tryz.isAgg151 Tryz.zeroValue151 rfl Tryz.typeInfo151 rfl (fun h=>by have h':(none:Option E)=some .attr:=h; cases h') (fun h=>by have h':(none:Option E)=some .sel:=h; cases h')
noncomputable def i152:TI:=⟨.int .u8,1,Bool.false,(Value.int IntKind.u8 0),1,none⟩
theorem k152:TIok Tryz.prog 152 i152:=tiok (by exact Tryz.underlying152) Tryz.sizeOf152 Tryz.isAgg152 Tryz.zeroValue152 rfl Tryz.typeInfo152 rfl (fun h=>by have h':(none:Option E)=some .attr:=h; cases h') (fun h=>by have h':(none:Option E)=some .sel:=h; cases h')
noncomputable def i153:TI:=⟨.int .u8,1,Bool.false,(Value.int IntKind.u8 0),1,none⟩
theorem k153:TIok Tryz.prog 153 i153:=tiok (by exact Tryz.underlying153) Tryz.sizeOf153 Tryz.isAgg153 Tryz.zeroValue153 rfl Tryz.typeInfo153 rfl (fun h=>by have h':(none:Option E)=some .attr:=h; cases h') (fun h=>by have h':(none:Option E)=some .sel:=h; cases h')
noncomputable def i154:TI:=⟨.func,1,Bool.false,Value.nilFunc,8,none⟩
theorem k154:TIok Tryz.prog 154 i154:=tiok (by exact ⟨_,_,_,Tryz.underlying154⟩) Tryz.sizeOf154 Tryz.isAgg154 Tryz.zeroValue154 rfl Tryz.typeInfo154 rfl (fun h=>by have h':(none:Option E)=some .attr:=h; cases h') (fun h=>by have h':(none:Option E)=some .sel:=h; cases h')
noncomputable def i155:TI:=⟨.ptr 5,1,Bool.false,(Value.pointer Option.none),8,none⟩
theorem k155:TIok Tryz.prog 155 i155:=tiok (by exact Tryz.underlying155) Tryz.sizeOf155 Tryz.isAgg155 Tryz.zeroValue155 rfl Tryz.typeInfo155 rfl (fun h=>by have h':(none:Option E)=some .attr:=h; cases h') (fun h=>by have h':(none:Option E)=some .sel:=h; cases h')
noncomputable def i156:TI:=⟨.int .i32,1,Bool.false,(Value.int IntKind.i32 0),4,none⟩
theorem k156:TIok Tryz.prog 156 i156:=tiok (by exact Tryz.underlying156) Tryz.sizeOf156 Tryz.isAgg156 Tryz.zeroValue156 rfl Tryz.typeInfo156 rfl (fun h=>by have h':(none:Option E)=some .attr:=h; cases h') (fun h=>by have h':(none:Option E)=some .sel:=h; cases h')
noncomputable def i157:TI:=⟨.int .i32,1,Bool.false,(Value.int IntKind.i32 0),4,none⟩
theorem k157:TIok Tryz.prog 157 i157:=tiok (by exact Tryz.underlying157) Tryz.sizeOf157 Tryz.isAgg157 Tryz.zeroValue157 rfl Tryz.typeInfo157 rfl (fun h=>by have h':(none:Option E)=some .attr:=h; cases h') (fun h=>by have h':(none:Option E)=some .sel:=h; cases h')
noncomputable def i158:TI:=⟨.struct [(12,0),(12,1),(77,2),(152,3),(5,4),(5,5),(153,6),(154,7),(155,8),(156,9),(157,10)],11,Bool.true,(Value.agg #[Value.int IntKind.u64 0,Value.int IntKind.u64 0,Value.int IntKind.u32 0,Value.int IntKind.u8 0,Value.int IntKind.u8 0,Value.int IntKind.u8 0,Value.int IntKind.u8 0,Value.nilFunc,Value.pointer Option.none,Value.int IntKind.i32 0,Value.int IntKind.i32 0]),48,none⟩
theorem k158:TIok Tryz.prog 158 i158:=tiok (by exact ⟨_,Tryz.underlying158,rfl⟩) Tryz.sizeOf158 Tryz.isAgg158 Tryz.zeroValue158 rfl Tryz.typeInfo158 rfl (fun h=>by have h':(none:Option E)=some .attr:=h; cases h') (fun h=>by have h':(none:Option E)=some .sel:=h; cases h')
noncomputable def i159:TI:=⟨.struct [(12,0),(12,1),(77,2),(152,3),(5,4),(5,5),(153,6),(154,7),(155,8),(156,9),(157,10)],11,Bool.true,(Value.agg #[Value.int IntKind.u64 0,Value.int IntKind.u64 0,Value.int IntKind.u32 0,Value.int IntKind.u8 0,Value.int IntKind.u8 0,Value.int IntKind.u8 0,Value.int IntKind.u8 0,Value.nilFunc,Value.pointer Option.none,Value.int IntKind.i32 0,Value.int IntKind.i32 0]),48,none⟩
theorem k159:TIok Tryz.prog 159 i159:=tiok (by exact ⟨_,Tryz.underlying159,rfl⟩) Tryz.sizeOf159 Tryz.isAgg159 Tryz.zeroValue159 rfl Tryz.typeInfo159 rfl (fun h=>by have h':(none:Option E)=some .attr:=h; cases h') (fun h=>by have h':(none:Option E)=some .sel:=h; cases h')
noncomputable def i160:TI:=⟨.func,1,Bool.false,Value.nilFunc,8,none⟩
theorem k160:TIok Tryz.prog 160 i160:=tiok (by exact ⟨_,_,_,Tryz.underlying160⟩) Tryz.sizeOf160 Tryz.isAgg160 Tryz.zeroValue160 rfl Tryz.typeInfo160 rfl (fun h=>by have h':(none:Option E)=some .attr:=h; cases h') (fun h=>by have h':(none:Option E)=some .sel:=h; cases h')
noncomputable def i161:TI:=⟨.func,1,Bool.false,Value.nilFunc,8,none⟩
theorem k161:TIok Tryz.prog 161 i161:=tiok (by exact ⟨_,_,_,Tryz.underlying161⟩) Tryz.sizeOf161 Tryz.isAgg161 Tryz.zeroValue161 rfl Tryz.typeInfo161 rfl (fun h=>by have h':(none:Option E)=some .attr:=h; cases h') (fun h=>by have h':(none:Option E)=some .sel:=h; cases h')
noncomputable def i162:TI:=⟨.other,1,Bool.false,(Value.pointer Option.none),8,none⟩
theorem k162:TIok Tryz.prog 162 i162:=tiok (by exact trivial) Tryz.sizeOf162 Tryz.isAgg162 Tryz.zeroValue162 rfl Tryz.typeInfo162 rfl (fun h=>by have h':(none:Option E)=some .attr:=h; cases h') (fun h=>by have h':(none:Option E)=some .sel:=h; cases h')
noncomputable def i163:TI:=⟨.func,1,Bool.false,Value.nilFunc,8,none⟩
theorem k163:TIok Tryz.prog 163 i163:=tiok (by exact ⟨_,_,_,Tryz.underlying163⟩) Tryz.sizeOf163 Tryz.isAgg163 Tryz.zeroValue163 rfl Tryz.typeInfo163 rfl (fun h=>by have h':(none:Option E)=some .attr:=h; cases h') (fun h=>by have h':(none:Option E)=some .sel:=h; cases h')
noncomputable def i164:TI:=⟨.func,1,Bool.false,Value.nilFunc,8,none⟩
theorem k164:TIok Tryz.prog 164 i164:=tiok (by exact ⟨_,_,_,Tryz.underlying164⟩) Tryz.sizeOf164 Tryz.isAgg164 Tryz.zeroValue164 rfl Tryz.typeInfo164 rfl (fun h=>by have h':(none:Option E)=some .attr:=h; cases h') (fun h=>by have h':(none:Option E)=some .sel:=h; cases h')
noncomputable def tb:List (Option TI):=some i0::some i1::some i2::some i3::some i4::some i5::some i6::some i7::some i8::some i9::some i10::some i11::some i12::some i13::some i14::some i15::some i16::some i17::some i18::some i19::some i20::some i21::some i22::some i23::some i24::some i25::some i26::some i27::some i28::some i29::some i30::some i31::some i32::some i33::some i34::some i35::some i36::some i37::some i38::some i39::some i40::some i41::some i42::some i43::some i44::some i45::some i46::some i47::some i48::some i49::some i50::some i51::some i52::some i53::some i54::some i55::some i56::some i57::some i58::some i59::some i60::some i61::some i62::some i63::some i64::some i65::some i66::some i67::some i68::some i69::some i70::some i71::some i72::some i73::some i74::some i75::some i76::some i77::some i78::some i79::some i80::some i81::some i82::some i83::some i84::some i85::some i86::some i87::some i88::some i89::some i90::some i91::some i92::some i93::some i94::some i95::some i96::some i97::some i98::some i99::some i100::some i101::some i102::some i103::some i104::some i105::some i106::some i107::some i108::some i109::some i110::some i111::some i112::some i113::some i114::some i115::some i116::some i117::some i118::some i119::some i120::some i121::some i122::some i123::some i124::some i125::some i126::some i127::some i128::some i129::some i130::some i131::some i132::some i133::some i134::some i135::some i136::some i137::some i138::some i139::some i140::some i141::some i142::some i143::some i144::some i145::some i146::some i147::some i148::some i149::some i150::some i151::some i152::some i153::some i154::some i155::some i156::some i157::some i158::some i159::some i160::some i161::some i162::some i163::some i164::[]
theorem tb_ok:TbOK Tryz.prog tb:=fun T t h=>by
 have:=tb_of (P:=Tryz.prog) (k:=0) (l:=tb) (by exact ⟨k0,⟨k1,⟨k2,⟨k3,⟨k4,⟨k5,⟨k6,⟨k7,⟨k8,⟨k9,⟨k10,⟨k11,⟨k12,⟨k13,⟨k14,⟨k15,⟨k16,⟨k17,⟨k18,⟨k19,⟨k20,⟨k21,⟨k22,⟨k23,⟨k24,⟨k25,⟨k26,⟨k27,⟨k28,⟨k29,⟨k30,⟨k31,⟨k32,⟨k33,⟨k34,⟨k35,⟨k36,⟨k37,⟨k38,⟨k39,⟨k40,⟨k41,⟨k42,⟨k43,⟨k44,⟨k45,⟨k46,⟨k47,⟨k48,⟨k49,⟨k50,⟨k51,⟨k52,⟨k53,⟨k54,⟨k55,⟨k56,⟨k57,⟨k58,⟨k59,⟨k60,⟨k61,⟨k62,⟨k63,⟨k64,⟨k65,⟨k66,⟨k67,⟨k68,⟨k69,⟨k70,⟨k71,⟨k72,⟨k73,⟨k74,⟨k75,⟨k76,⟨k77,⟨k78,⟨k79,⟨k80,⟨k81,⟨k82,⟨k83,⟨k84,⟨k85,⟨k86,⟨k87,⟨k88,⟨k89,⟨k90,⟨k91,⟨k92,⟨k93,⟨k94,⟨k95,⟨k96,⟨k97,⟨k98,⟨k99,⟨k100,⟨k101,⟨k102,⟨k103,⟨k104,⟨k105,⟨k106,⟨k107,⟨k108,⟨k109,⟨k110,⟨k111,⟨k112,⟨k113,⟨k114,⟨k115,⟨k116,⟨k117,⟨k118,⟨k119,⟨k120,⟨k121,⟨k122,⟨k123,⟨k124,⟨k125,⟨k126,⟨k127,⟨k128,⟨k129,⟨k130,⟨k131,⟨k132,⟨k133,⟨k134,⟨k135,⟨k136,⟨k137,⟨k138,⟨k139,⟨k140,⟨k141,⟨k142,⟨k143,⟨k144,⟨k145,⟨k146,⟨k147,⟨k148,⟨k149,⟨k150,⟨k151,⟨k152,⟨k153,⟨k154,⟨k155,⟨k156,⟨k157,⟨k158,⟨k159,⟨k160,⟨k161,⟨k162,⟨k163,⟨k164,trivial⟩⟩⟩⟩⟩⟩⟩⟩⟩⟩⟩⟩⟩⟩⟩⟩⟩⟩⟩⟩⟩⟩⟩⟩⟩⟩⟩⟩⟩⟩⟩⟩⟩⟩⟩⟩⟩⟩⟩⟩⟩⟩⟩⟩⟩⟩⟩⟩⟩⟩⟩⟩⟩⟩⟩⟩⟩⟩⟩⟩⟩⟩⟩⟩⟩⟩⟩⟩⟩⟩⟩⟩⟩⟩⟩⟩⟩⟩⟩⟩⟩⟩⟩⟩⟩⟩⟩⟩⟩⟩⟩⟩⟩⟩⟩⟩⟩⟩⟩⟩⟩⟩⟩⟩⟩⟩⟩⟩⟩⟩⟩⟩⟩⟩⟩⟩⟩⟩⟩⟩⟩⟩⟩⟩⟩⟩⟩⟩⟩⟩⟩⟩⟩⟩⟩⟩⟩⟩⟩⟩⟩⟩⟩⟩⟩⟩⟩⟩⟩⟩⟩⟩⟩⟩⟩⟩⟩⟩⟩⟩⟩⟩⟩⟩⟩) T t h
 rwa [Nat.zero_add] at this
def mth:List (TypeId×String×FuncId):=[]
def ast:List (TypeId×TypeId):=[]
theorem mth_ok:∀ q∈mth,MtOK Tryz.prog q.1 q.2.1 q.2.2:=by
 intro q hq
 simp [mth] at hq
theorem ast_ok:∀ q∈ast,AsOK Tryz.prog q.1 q.2:=by
 intro q hq
 simp [ast] at hq
theorem if_ok:(∀ q∈mth,MtOK Tryz.prog q.1 q.2.1 q.2.2)∧∀ q∈ast,AsOK Tryz.prog q.1 q.2:=⟨mth_ok,ast_ok⟩
theorem mixed:Tryz.prog.follows .mixedOrders=true:=by kernel_rfl
end Go.Proofs.YtkmigbicabfodaaGreat.V
set_option linter.unusedVariables false
set_option linter.unusedSimpArgs false
namespace Go.Proofs.YtkmigbicabfodaaGreat.V
open Go Go.Proofs
abbrev p_spec_Kids:Pt:=[(0, .lst .node),(1, .int .i64)]
abbrev q_spec_Kids:Pt:=[(0, .own .int 3)]
abbrev p_spec_Kids_0:Pt:=[(0, .lst .node),(1, .int .i64),(5, .own .int 3),(6, .int .i64)]
abbrev x_spec_Kids_0:List (Xt×Pt):=[(.ex 0,[(5, .own .int 3)])]
noncomputable def m_spec_Kids_0:Tup p_spec_Kids_0→Option (Stp (Tup p_spec_Kids_0) (SumT (x_spec_Kids_0.map (·.2)))):=fun (x:List Node×Int×List Int×Int)=>Option.bind (atI x.1 x.2.1) fun (v:Node)=>bif decide (x.2.2.2<IntKind.wrap .i64 (x.2.1+Node.size v)) then Option.bind (appL x.2.2.1 [x.2.2.2]) fun (r:List Int)=>Option.bind (atI x.1 x.2.2.2) fun (v:Node)=>some (Stp.nx (x.1,x.2.1,r,IntKind.wrap .i64 (x.2.2.2+Node.size v))) else some (Stp.out x.2.2.1)
noncomputable def m_spec_Kids:Tup p_spec_Kids→Option (Tup q_spec_Kids):=fun (x:List Node×Int)=>Option.bind (loopO m_spec_Kids_0 (x.1,x.2,[],IntKind.wrap .i64 (x.2+(1:Int)))) fun (y:List Int)=>some y
noncomputable def cx_spec_Kids:Cx:=⟨tb,lookE [],lookS [],mth,ast⟩
theorem ck_spec_Kids:CxOK Tryz.prog (cx_spec_Kids):=cx_ok tb_ok if_ok .nil
noncomputable def c_spec_Kids_0:Code:=loopAt (Go.Proofs.Tryz.f9.body.getD .skip) 0
noncomputable def l_spec_Kids_0:LEnt:=⟨p_spec_Kids_0,x_spec_Kids_0,loopO (m_spec_Kids_0)⟩
theorem lo_spec_Kids_0:LOK Tryz.prog 30 0 false (l_spec_Kids_0) c_spec_Kids_0:=loop_ok (body:=m_spec_Kids_0) (L:=lookL []) (ck_spec_Kids) mixed (ls_ok (l:=[]) (by kernel_rfl) .nil) (by intro x; kernel_rfl) (fun x y h=>loopO_iff.1 h)
noncomputable def e_spec_Kids:Ent:=⟨0,p_spec_Kids,q_spec_Kids,m_spec_Kids⟩
theorem ok_spec_Kids:FnOK Tryz.prog 9 e_spec_Kids:=fn_ok (L:=lookL [(0,l_spec_Kids_0)]) ck_spec_Kids mixed Tryz.func9 rfl (by kernel_rfl) (by kernel_rfl) (ls_ok (l:=[(0,c_spec_Kids_0)]) (by kernel_rfl) (.cons rfl (lo_spec_Kids_0) .nil)) (by intro x; kernel_rfl)
abbrev p_spec_Parent:Pt:=[(0, .lst .node),(1, .int .i64)]
abbrev q_spec_Parent:Pt:=[(0, .int .i64)]
abbrev p_spec_Parent_0:Pt:=[(0, .lst .node),(1, .int .i64),(5, .int .i64)]
abbrev x_spec_Parent_0:List (Xt×Pt):=[(.ex 0,[]),(.rt,[(4, .int .i64)])]
noncomputable def m_spec_Parent_0:Tup p_spec_Parent_0→Option (Stp (Tup p_spec_Parent_0) (SumT (x_spec_Parent_0.map (·.2)))):=fun (x:List Node×Int×Int)=>bif decide ((0:Int)≤x.2.2) then Option.bind (atI x.1 x.2.2) fun (v:Node)=>bif decide (x.2.1<IntKind.wrap .i64 (x.2.2+Node.size v)) then some (Stp.out (Sum.inr x.2.2)) else some (Stp.nx (x.1,x.2.1,IntKind.wrap .i64 (x.2.2 - (1:Int)))) else some (Stp.out (Sum.inl ()))
noncomputable def m_spec_Parent:Tup p_spec_Parent→Option (Tup q_spec_Parent):=fun (x:List Node×Int)=>Option.bind (loopO m_spec_Parent_0 (x.1,x.2,IntKind.wrap .i64 (x.2 - (1:Int)))) fun (y:PUnit ⊕ Int)=>selim (fun (y:PUnit)=>some (-1:Int)) (fun (y:Int)=>some y) y
noncomputable def cx_spec_Parent:Cx:=⟨tb,lookE [],lookS [],mth,ast⟩
theorem ck_spec_Parent:CxOK Tryz.prog (cx_spec_Parent):=cx_ok tb_ok if_ok .nil
noncomputable def c_spec_Parent_0:Code:=loopAt (Go.Proofs.Tryz.f66.body.getD .skip) 0
noncomputable def l_spec_Parent_0:LEnt:=⟨p_spec_Parent_0,x_spec_Parent_0,loopO (m_spec_Parent_0)⟩
theorem lo_spec_Parent_0:LOK Tryz.prog 22 0 false (l_spec_Parent_0) c_spec_Parent_0:=loop_ok (body:=m_spec_Parent_0) (L:=lookL []) (ck_spec_Parent) mixed (ls_ok (l:=[]) (by kernel_rfl) .nil) (by intro x; kernel_rfl) (fun x y h=>loopO_iff.1 h)
noncomputable def e_spec_Parent:Ent:=⟨0,p_spec_Parent,q_spec_Parent,m_spec_Parent⟩
theorem ok_spec_Parent:FnOK Tryz.prog 66 e_spec_Parent:=fn_ok (L:=lookL [(0,l_spec_Parent_0)]) ck_spec_Parent mixed Tryz.func66 rfl (by kernel_rfl) (by kernel_rfl) (ls_ok (l:=[(0,c_spec_Parent_0)]) (by kernel_rfl) (.cons rfl (lo_spec_Parent_0) .nil)) (by intro x; kernel_rfl)
abbrev p_spec_sized:Pt:=[(0, .lst .node),(1, .int .i64),(2, .int .i64),(3, .int .i64)]
abbrev q_spec_sized:Pt:=[(0, .bool)]
abbrev p_spec_sized_0:Pt:=[(0, .lst .node),(1, .int .i64),(3, .int .i64),(9, .int .i64),(10, .int .i64)]
abbrev x_spec_sized_0:List (Xt×Pt):=[(.ex 0,[]),(.rt,[(8, .bool)])]
noncomputable def m_spec_sized_0 (m_spec_sized:Tup p_spec_sized→Option (Tup q_spec_sized)):Tup p_spec_sized_0→Option (Stp (Tup p_spec_sized_0) (SumT (x_spec_sized_0.map (·.2)))):=fun (x:List Node×Int×Int×Int×Int)=>bif decide (x.2.2.2.2<IntKind.wrap .i64 (x.2.1+x.2.2.2.1)) then Option.bind (m_spec_sized (x.1,x.2.2.2.2,IntKind.wrap .i64 (x.2.1+x.2.2.2.1),IntKind.wrap .i64 (x.2.2.1 - (1:Int)))) fun (r:Bool)=>bif !r then some (Stp.out (Sum.inr false)) else Option.bind (atI x.1 x.2.2.2.2) fun (v:Node)=>some (Stp.nx (x.1,x.2.1,x.2.2.1,x.2.2.2.1,IntKind.wrap .i64 (x.2.2.2.2+Node.size v))) else some (Stp.out (Sum.inl ()))
noncomputable def b_spec_sized (m_spec_sized:Tup p_spec_sized→Option (Tup q_spec_sized)):Tup p_spec_sized→Option (Tup q_spec_sized):=fun (x:List Node×Int×Int×Int)=>Option.bind (atI x.1 x.2.1) fun (v:Node)=>bif decide (x.2.2.2=(0:Int)) then some false else bif decide (Node.size v<(1:Int)) then some false else bif decide (IntKind.wrap .i64 (x.2.2.1 - x.2.1)<Node.size v) then some false else Option.bind (loopO (m_spec_sized_0 m_spec_sized) (x.1,x.2.1,x.2.2.2,Node.size v,IntKind.wrap .i64 (x.2.1+(1:Int)))) fun (y:PUnit ⊕ Bool)=>selim (fun (y:PUnit)=>some true) (fun (y:Bool)=>some y) y
noncomputable def m_spec_sized:Nat→Tup p_spec_sized→Option (Tup q_spec_sized)
 | 0=>fun _=>none
 | n+1=>b_spec_sized (m_spec_sized n)
noncomputable def cx_spec_sized (n:Nat):Cx:=⟨tb,lookE [(39,⟨0,p_spec_sized,q_spec_sized,m_spec_sized n⟩)],lookS [],mth,ast⟩
theorem ck_spec_sized (n:Nat) (ih0:FnOK Tryz.prog 39 ⟨0,p_spec_sized,q_spec_sized,m_spec_sized n⟩):CxOK Tryz.prog (cx_spec_sized n):=cx_ok tb_ok if_ok (.cons ih0 Tryz.call39 .nil)
noncomputable def c_spec_sized_0:Code:=loopAt (Go.Proofs.Tryz.f39.body.getD .skip) 0
noncomputable def l_spec_sized_0 (n:Nat):LEnt:=⟨p_spec_sized_0,x_spec_sized_0,loopO (m_spec_sized_0 (m_spec_sized n))⟩
theorem lo_spec_sized_0 (n:Nat) (ih0:FnOK Tryz.prog 39 ⟨0,p_spec_sized,q_spec_sized,m_spec_sized n⟩):LOK Tryz.prog 52 0 false (l_spec_sized_0 n) c_spec_sized_0:=loop_ok (body:=m_spec_sized_0 (m_spec_sized n)) (L:=lookL []) (ck_spec_sized n ih0) mixed (ls_ok (l:=[]) (by kernel_rfl) .nil) (by intro x; kernel_rfl) (fun x y h=>loopO_iff.1 h)
theorem st_spec_sized (n:Nat) (ih0:FnOK Tryz.prog 39 ⟨0,p_spec_sized,q_spec_sized,m_spec_sized n⟩):FnOK Tryz.prog 39 ⟨0,p_spec_sized,q_spec_sized,m_spec_sized (n+1)⟩:=fn_ok (ent:=⟨0,p_spec_sized,q_spec_sized,m_spec_sized (n+1)⟩) (L:=lookL [(0,l_spec_sized_0 n)]) (ck_spec_sized n ih0) mixed Tryz.func39 rfl (by kernel_rfl) (by kernel_rfl) (ls_ok (l:=[(0,c_spec_sized_0)]) (by kernel_rfl) (.cons rfl (lo_spec_sized_0 n ih0) .nil)) (by intro x; kernel_rfl)
theorem ok0_spec_sized:∀ n,FnOK Tryz.prog 39 ⟨0,p_spec_sized,q_spec_sized,m_spec_sized n⟩
 | 0=>fun x r h=>by cases h
 | n+1=>(fun ih=>st_spec_sized n ih) (ok0_spec_sized n)
noncomputable def e_spec_sized:Ent:=⟨0,p_spec_sized,q_spec_sized,m_spec_sized big⟩
theorem ok_spec_sized:FnOK Tryz.prog 39 e_spec_sized:=(ok0_spec_sized big)
abbrev p_laws_zzFits4:Pt:=[(0, .el .attr)]
abbrev q_laws_zzFits4:Pt:=[(0, .bool)]
noncomputable def m_laws_zzFits4:Tup p_laws_zzFits4→Option (Tup q_laws_zzFits4):=fun (x:Attr)=>bif decide ((2147483647:Int)<(↑(List.length (Attr.key x)):Int)) then some false else bif decide ((2147483647:Int)<(↑(List.length (Attr.val x)):Int)) then some false else some true
noncomputable def cx_laws_zzFits4:Cx:=⟨tb,lookE [],lookS [],mth,ast⟩
theorem ck_laws_zzFits4:CxOK Tryz.prog (cx_laws_zzFits4):=cx_ok tb_ok if_ok .nil
noncomputable def e_laws_zzFits4:Ent:=⟨0,p_laws_zzFits4,q_laws_zzFits4,m_laws_zzFits4⟩
theorem ok_laws_zzFits4:FnOK Tryz.prog 40 e_laws_zzFits4:=fn_ok (L:=lookL []) ck_laws_zzFits4 mixed Tryz.func40 rfl (by kernel_rfl) (by kernel_rfl) (ls_ok (l:=[]) (by kernel_rfl) .nil) (by intro x; kernel_rfl)
abbrev p_laws_zzFits3:Pt:=[(0, .lst .attr)]
abbrev q_laws_zzFits3:Pt:=[(0, .bool)]
abbrev p_laws_zzFits3_0:Pt:=[(8, .lst .attr),(9, .int .i64),(10, .int .i64)]
abbrev x_laws_zzFits3_0:List (Xt×Pt):=[(.ex 0,[]),(.rt,[(2, .bool)])]
noncomputable def m_laws_zzFits3_0:Tup p_laws_zzFits3_0→Option (Stp (Tup p_laws_zzFits3_0) (SumT (x_laws_zzFits3_0.map (·.2)))):=fun (x:List Attr×Int×Int)=>bif decide (x.2.2<x.2.1) then Option.bind (atI x.1 x.2.2) fun (v:Attr)=>Option.bind (m_laws_zzFits4 { key:=Attr.key v,val:=Attr.val v }) fun (r:Bool)=>bif !r then some (Stp.out (Sum.inr false)) else some (Stp.nx (x.1,x.2.1,IntKind.wrap .i64 (x.2.2+(1:Int)))) else some (Stp.out (Sum.inl ()))
noncomputable def m_laws_zzFits3:Tup p_laws_zzFits3→Option (Tup q_laws_zzFits3):=fun (x:List Attr)=>bif decide ((2147483647:Int)<(↑(List.length x):Int)) then some false else Option.bind (loopO m_laws_zzFits3_0 (x,(↑(List.length x):Int),(0:Int))) fun (y:PUnit ⊕ Bool)=>selim (fun (y:PUnit)=>some true) (fun (y:Bool)=>some y) y
noncomputable def cx_laws_zzFits3:Cx:=⟨tb,lookE [(40,e_laws_zzFits4)],lookS [],mth,ast⟩
theorem ck_laws_zzFits3:CxOK Tryz.prog (cx_laws_zzFits3):=cx_ok tb_ok if_ok (.cons ok_laws_zzFits4 Tryz.call40 .nil)
noncomputable def c_laws_zzFits3_0:Code:=loopAt (Go.Proofs.Tryz.f21.body.getD .skip) 0
noncomputable def l_laws_zzFits3_0:LEnt:=⟨p_laws_zzFits3_0,x_laws_zzFits3_0,loopO (m_laws_zzFits3_0)⟩
theorem lo_laws_zzFits3_0:LOK Tryz.prog 18 0 false (l_laws_zzFits3_0) c_laws_zzFits3_0:=loop_ok (body:=m_laws_zzFits3_0) (L:=lookL []) (ck_laws_zzFits3) mixed (ls_ok (l:=[]) (by kernel_rfl) .nil) (by intro x; kernel_rfl) (fun x y h=>loopO_iff.1 h)
noncomputable def e_laws_zzFits3:Ent:=⟨0,p_laws_zzFits3,q_laws_zzFits3,m_laws_zzFits3⟩
theorem ok_laws_zzFits3:FnOK Tryz.prog 21 e_laws_zzFits3:=fn_ok (L:=lookL [(0,l_laws_zzFits3_0)]) ck_laws_zzFits3 mixed Tryz.func21 rfl (by kernel_rfl) (by kernel_rfl) (ls_ok (l:=[(0,c_laws_zzFits3_0)]) (by kernel_rfl) (.cons rfl (lo_laws_zzFits3_0) .nil)) (by intro x; kernel_rfl)
abbrev p_laws_zzFits2:Pt:=[(0, .el .node)]
abbrev q_laws_zzFits2:Pt:=[(0, .bool)]
noncomputable def m_laws_zzFits2:Tup p_laws_zzFits2→Option (Tup q_laws_zzFits2):=fun (x:Node)=>bif decide ((2147483647:Int)<(↑(List.length (Node.tag x)):Int)) then some false else bif decide ((2147483647:Int)<(↑(List.length (Node.text x)):Int)) then some false else Option.bind (m_laws_zzFits3 (Node.attrs x)) fun (r:Bool)=>bif !r then some false else some true
noncomputable def cx_laws_zzFits2:Cx:=⟨tb,lookE [(21,e_laws_zzFits3)],lookS [],mth,ast⟩
theorem ck_laws_zzFits2:CxOK Tryz.prog (cx_laws_zzFits2):=cx_ok tb_ok if_ok (.cons ok_laws_zzFits3 Tryz.call21 .nil)
noncomputable def e_laws_zzFits2:Ent:=⟨0,p_laws_zzFits2,q_laws_zzFits2,m_laws_zzFits2⟩
theorem ok_laws_zzFits2:FnOK Tryz.prog 13 e_laws_zzFits2:=fn_ok (L:=lookL []) ck_laws_zzFits2 mixed Tryz.func13 rfl (by kernel_rfl) (by kernel_rfl) (ls_ok (l:=[]) (by kernel_rfl) .nil) (by intro x; kernel_rfl)
abbrev p_laws_zzFits1:Pt:=[(0, .lst .node)]
abbrev q_laws_zzFits1:Pt:=[(0, .bool)]
abbrev p_laws_zzFits1_0:Pt:=[(8, .lst .node),(9, .int .i64),(10, .int .i64)]
abbrev x_laws_zzFits1_0:List (Xt×Pt):=[(.ex 0,[]),(.rt,[(2, .bool)])]
noncomputable def m_laws_zzFits1_0:Tup p_laws_zzFits1_0→Option (Stp (Tup p_laws_zzFits1_0) (SumT (x_laws_zzFits1_0.map (·.2)))):=fun (x:List Node×Int×Int)=>bif decide (x.2.2<x.2.1) then Option.bind (atI x.1 x.2.2) fun (v:Node)=>Option.bind (m_laws_zzFits2 { kind:=Node.kind v,tag:=Node.tag v,text:=Node.text v,attrs:=Node.attrs v,size:=Node.size v }) fun (r:Bool)=>bif !r then some (Stp.out (Sum.inr false)) else some (Stp.nx (x.1,x.2.1,IntKind.wrap .i64 (x.2.2+(1:Int)))) else some (Stp.out (Sum.inl ()))
noncomputable def m_laws_zzFits1:Tup p_laws_zzFits1→Option (Tup q_laws_zzFits1):=fun (x:List Node)=>bif decide ((2147483647:Int)<(↑(List.length x):Int)) then some false else Option.bind (loopO m_laws_zzFits1_0 (x,(↑(List.length x):Int),(0:Int))) fun (y:PUnit ⊕ Bool)=>selim (fun (y:PUnit)=>some true) (fun (y:Bool)=>some y) y
noncomputable def cx_laws_zzFits1:Cx:=⟨tb,lookE [(13,e_laws_zzFits2)],lookS [],mth,ast⟩
theorem ck_laws_zzFits1:CxOK Tryz.prog (cx_laws_zzFits1):=cx_ok tb_ok if_ok (.cons ok_laws_zzFits2 Tryz.call13 .nil)
noncomputable def c_laws_zzFits1_0:Code:=loopAt (Go.Proofs.Tryz.f4.body.getD .skip) 0
noncomputable def l_laws_zzFits1_0:LEnt:=⟨p_laws_zzFits1_0,x_laws_zzFits1_0,loopO (m_laws_zzFits1_0)⟩
theorem lo_laws_zzFits1_0:LOK Tryz.prog 18 0 false (l_laws_zzFits1_0) c_laws_zzFits1_0:=loop_ok (body:=m_laws_zzFits1_0) (L:=lookL []) (ck_laws_zzFits1) mixed (ls_ok (l:=[]) (by kernel_rfl) .nil) (by intro x; kernel_rfl) (fun x y h=>loopO_iff.1 h)
noncomputable def e_laws_zzFits1:Ent:=⟨0,p_laws_zzFits1,q_laws_zzFits1,m_laws_zzFits1⟩
theorem ok_laws_zzFits1:FnOK Tryz.prog 4 e_laws_zzFits1:=fn_ok (L:=lookL [(0,l_laws_zzFits1_0)]) ck_laws_zzFits1 mixed Tryz.func4 rfl (by kernel_rfl) (by kernel_rfl) (ls_ok (l:=[(0,c_laws_zzFits1_0)]) (by kernel_rfl) (.cons rfl (lo_laws_zzFits1_0) .nil)) (by intro x; kernel_rfl)
abbrev p_spec_Name:Pt:=[(0, .str)]
abbrev q_spec_Name:Pt:=[(0, .bool)]
abbrev p_spec_Name_0:Pt:=[(0, .str),(3, .int .i64)]
abbrev x_spec_Name_0:List (Xt×Pt):=[(.ex 0,[]),(.rt,[(2, .bool)])]
noncomputable def m_spec_Name_0:Tup p_spec_Name_0→Option (Stp (Tup p_spec_Name_0) (SumT (x_spec_Name_0.map (·.2)))):=fun (x:List UInt8×Int)=>bif decide (x.2<(↑(List.length x.1):Int)) then Option.bind (atI x.1 x.2) fun (c:UInt8)=>bif decide ((97:Int)≤(↑(UInt8.toNat c):Int)) then Option.bind (atI x.1 x.2) fun (c:UInt8)=>bif decide ((↑(UInt8.toNat c):Int)≤(122:Int)) then some (Stp.nx (x.1,IntKind.wrap .i64 (x.2+(1:Int)))) else Option.bind (atI x.1 x.2) fun (c:UInt8)=>bif decide ((48:Int)≤(↑(UInt8.toNat c):Int)) then Option.bind (atI x.1 x.2) fun (c:UInt8)=>bif decide ((↑(UInt8.toNat c):Int)≤(57:Int)) then some (Stp.nx (x.1,IntKind.wrap .i64 (x.2+(1:Int)))) else Option.bind (atI x.1 x.2) fun (c:UInt8)=>bif !decide ((↑(UInt8.toNat c):Int)=(45:Int)) then some (Stp.out (Sum.inr false)) else some (Stp.nx (x.1,IntKind.wrap .i64 (x.2+(1:Int)))) else Option.bind (atI x.1 x.2) fun (c:UInt8)=>bif !decide ((↑(UInt8.toNat c):Int)=(45:Int)) then some (Stp.out (Sum.inr false)) else some (Stp.nx (x.1,IntKind.wrap .i64 (x.2+(1:Int)))) else Option.bind (atI x.1 x.2) fun (c:UInt8)=>bif decide ((48:Int)≤(↑(UInt8.toNat c):Int)) then Option.bind (atI x.1 x.2) fun (c:UInt8)=>bif decide ((↑(UInt8.toNat c):Int)≤(57:Int)) then some (Stp.nx (x.1,IntKind.wrap .i64 (x.2+(1:Int)))) else Option.bind (atI x.1 x.2) fun (c:UInt8)=>bif !decide ((↑(UInt8.toNat c):Int)=(45:Int)) then some (Stp.out (Sum.inr false)) else some (Stp.nx (x.1,IntKind.wrap .i64 (x.2+(1:Int)))) else Option.bind (atI x.1 x.2) fun (c:UInt8)=>bif !decide ((↑(UInt8.toNat c):Int)=(45:Int)) then some (Stp.out (Sum.inr false)) else some (Stp.nx (x.1,IntKind.wrap .i64 (x.2+(1:Int)))) else some (Stp.out (Sum.inl ()))
noncomputable def m_spec_Name:Tup p_spec_Name→Option (Tup q_spec_Name):=fun (x:List UInt8)=>bif decide ((↑(List.length x):Int)=(0:Int)) then some false else bif decide ((40:Int)<(↑(List.length x):Int)) then some false else Option.bind (atI x (0:Int)) fun (c:UInt8)=>bif decide ((↑(UInt8.toNat c):Int)<(97:Int)) then some false else Option.bind (atI x (0:Int)) fun (c:UInt8)=>bif decide ((122:Int)<(↑(UInt8.toNat c):Int)) then some false else Option.bind (loopO m_spec_Name_0 (x,(1:Int))) fun (y:PUnit ⊕ Bool)=>selim (fun (y:PUnit)=>some true) (fun (y:Bool)=>some y) y
noncomputable def cx_spec_Name:Cx:=⟨tb,lookE [],lookS [],mth,ast⟩
theorem ck_spec_Name:CxOK Tryz.prog (cx_spec_Name):=cx_ok tb_ok if_ok .nil
noncomputable def c_spec_Name_0:Code:=loopAt (Go.Proofs.Tryz.f65.body.getD .skip) 0
noncomputable def l_spec_Name_0:LEnt:=⟨p_spec_Name_0,x_spec_Name_0,loopO (m_spec_Name_0)⟩
theorem lo_spec_Name_0:LOK Tryz.prog 57 0 false (l_spec_Name_0) c_spec_Name_0:=loop_ok (body:=m_spec_Name_0) (L:=lookL []) (ck_spec_Name) mixed (ls_ok (l:=[]) (by kernel_rfl) .nil) (by intro x; kernel_rfl) (fun x y h=>loopO_iff.1 h)
noncomputable def e_spec_Name:Ent:=⟨0,p_spec_Name,q_spec_Name,m_spec_Name⟩
theorem ok_spec_Name:FnOK Tryz.prog 65 e_spec_Name:=fn_ok (L:=lookL [(0,l_spec_Name_0)]) ck_spec_Name mixed Tryz.func65 rfl (by kernel_rfl) (by kernel_rfl) (ls_ok (l:=[(0,c_spec_Name_0)]) (by kernel_rfl) (.cons rfl (lo_spec_Name_0) .nil)) (by intro x; kernel_rfl)
abbrev p_spec_Point:Pt:=[(0, .str),(1, .int .i64)]
abbrev q_spec_Point:Pt:=[(0, .int .i64),(1, .int .i64)]
abbrev p_spec_Point_0:Pt:=[(0, .str),(1, .int .i64),(4, .int .i64),(7, .int .i64),(8, .int .i64),(9, .int .i64)]
abbrev x_spec_Point_0:List (Xt×Pt):=[(.ex 1,[(4, .int .i64),(7, .int .i64),(8, .int .i64)]),(.rt,[(4, .int .i64),(5, .int .i64)])]
noncomputable def m_spec_Point_0:Tup p_spec_Point_0→Option (Stp (Tup p_spec_Point_0) (SumT (x_spec_Point_0.map (·.2)))):=fun (x:List UInt8×Int×Int×Int×Int×Int)=>bif decide (x.2.2.2.2.2≤x.2.2.2.2.1) then Option.bind (atI x.1 (IntKind.wrap .i64 (x.2.1+x.2.2.2.2.2))) fun (c:UInt8)=>bif decide (IntKind.wrap .i64 (↑(UInt8.toNat c):Int)<(128:Int)) then some (Stp.out (Sum.inr ((0:Int),(0:Int)))) else bif decide ((192:Int)≤IntKind.wrap .i64 (↑(UInt8.toNat c):Int)) then some (Stp.out (Sum.inr ((0:Int),(0:Int)))) else Option.bind (shlI Go.IntKind.i64 x.2.2.1 (6:Int)) fun (n:Int)=>some (Stp.nx (x.1,x.2.1,IntKind.wrap .i64 (IntKind.wrap .i64 (n+IntKind.wrap .i64 (↑(UInt8.toNat c):Int)) - (128:Int)),x.2.2.2.1,x.2.2.2.2.1,IntKind.wrap .i64 (x.2.2.2.2.2+(1:Int)))) else some (Stp.out (Sum.inl (x.2.2.1,x.2.2.2.1,x.2.2.2.2.1)))
noncomputable def m_spec_Point:Tup p_spec_Point→Option (Tup q_spec_Point):=fun (x:List UInt8×Int)=>Option.bind (atI x.1 x.2) fun (c:UInt8)=>bif decide (IntKind.wrap .i64 (↑(UInt8.toNat c):Int)<(128:Int)) then some (IntKind.wrap .i64 (↑(UInt8.toNat c):Int),(1:Int)) else bif decide ((192:Int)≤IntKind.wrap .i64 (↑(UInt8.toNat c):Int)) then bif decide (IntKind.wrap .i64 (↑(UInt8.toNat c):Int)<(224:Int)) then bif decide (IntKind.wrap .i64 ((↑(List.length x.1):Int) - x.2)≤(1:Int)) then some ((0:Int),(0:Int)) else Option.bind (loopO m_spec_Point_0 (x.1,x.2,IntKind.wrap .i64 (IntKind.wrap .i64 (↑(UInt8.toNat c):Int) - (192:Int)),(128:Int),(1:Int),(1:Int))) fun (y:Int×Int×Int ⊕ Int×Int)=>selim (fun (y:Int×Int×Int)=>bif decide (y.1<y.2.1) then some ((0:Int),(0:Int)) else bif decide ((1114111:Int)<y.1) then some ((0:Int),(0:Int)) else bif decide ((55296:Int)≤y.1) then bif decide (y.1<(57344:Int)) then some ((0:Int),(0:Int)) else some (y.1,IntKind.wrap .i64 (y.2.2+(1:Int))) else some (y.1,IntKind.wrap .i64 (y.2.2+(1:Int)))) (fun (y:Int×Int)=>some (y.1,y.2)) y else bif decide ((224:Int)≤IntKind.wrap .i64 (↑(UInt8.toNat c):Int)) then bif decide (IntKind.wrap .i64 (↑(UInt8.toNat c):Int)<(240:Int)) then bif decide (IntKind.wrap .i64 ((↑(List.length x.1):Int) - x.2)≤(2:Int)) then some ((0:Int),(0:Int)) else Option.bind (loopO m_spec_Point_0 (x.1,x.2,IntKind.wrap .i64 (IntKind.wrap .i64 (↑(UInt8.toNat c):Int) - (224:Int)),(2048:Int),(2:Int),(1:Int))) fun (y:Int×Int×Int ⊕ Int×Int)=>selim (fun (y:Int×Int×Int)=>bif decide (y.1<y.2.1) then some ((0:Int),(0:Int)) else bif decide ((1114111:Int)<y.1) then some ((0:Int),(0:Int)) else bif decide ((55296:Int)≤y.1) then bif decide (y.1<(57344:Int)) then some ((0:Int),(0:Int)) else some (y.1,IntKind.wrap .i64 (y.2.2+(1:Int))) else some (y.1,IntKind.wrap .i64 (y.2.2+(1:Int)))) (fun (y:Int×Int)=>some (y.1,y.2)) y else bif decide ((240:Int)≤IntKind.wrap .i64 (↑(UInt8.toNat c):Int)) then bif decide (IntKind.wrap .i64 (↑(UInt8.toNat c):Int)<(248:Int)) then bif decide (IntKind.wrap .i64 ((↑(List.length x.1):Int) - x.2)≤(3:Int)) then some ((0:Int),(0:Int)) else Option.bind (loopO m_spec_Point_0 (x.1,x.2,IntKind.wrap .i64 (IntKind.wrap .i64 (↑(UInt8.toNat c):Int) - (240:Int)),(65536:Int),(3:Int),(1:Int))) fun (y:Int×Int×Int ⊕ Int×Int)=>selim (fun (y:Int×Int×Int)=>bif decide (y.1<y.2.1) then some ((0:Int),(0:Int)) else bif decide ((1114111:Int)<y.1) then some ((0:Int),(0:Int)) else bif decide ((55296:Int)≤y.1) then bif decide (y.1<(57344:Int)) then some ((0:Int),(0:Int)) else some (y.1,IntKind.wrap .i64 (y.2.2+(1:Int))) else some (y.1,IntKind.wrap .i64 (y.2.2+(1:Int)))) (fun (y:Int×Int)=>some (y.1,y.2)) y else some ((0:Int),(0:Int)) else some ((0:Int),(0:Int)) else bif decide ((240:Int)≤IntKind.wrap .i64 (↑(UInt8.toNat c):Int)) then bif decide (IntKind.wrap .i64 (↑(UInt8.toNat c):Int)<(248:Int)) then bif decide (IntKind.wrap .i64 ((↑(List.length x.1):Int) - x.2)≤(3:Int)) then some ((0:Int),(0:Int)) else Option.bind (loopO m_spec_Point_0 (x.1,x.2,IntKind.wrap .i64 (IntKind.wrap .i64 (↑(UInt8.toNat c):Int) - (240:Int)),(65536:Int),(3:Int),(1:Int))) fun (y:Int×Int×Int ⊕ Int×Int)=>selim (fun (y:Int×Int×Int)=>bif decide (y.1<y.2.1) then some ((0:Int),(0:Int)) else bif decide ((1114111:Int)<y.1) then some ((0:Int),(0:Int)) else bif decide ((55296:Int)≤y.1) then bif decide (y.1<(57344:Int)) then some ((0:Int),(0:Int)) else some (y.1,IntKind.wrap .i64 (y.2.2+(1:Int))) else some (y.1,IntKind.wrap .i64 (y.2.2+(1:Int)))) (fun (y:Int×Int)=>some (y.1,y.2)) y else some ((0:Int),(0:Int)) else some ((0:Int),(0:Int)) else bif decide ((224:Int)≤IntKind.wrap .i64 (↑(UInt8.toNat c):Int)) then bif decide (IntKind.wrap .i64 (↑(UInt8.toNat c):Int)<(240:Int)) then bif decide (IntKind.wrap .i64 ((↑(List.length x.1):Int) - x.2)≤(2:Int)) then some ((0:Int),(0:Int)) else Option.bind (loopO m_spec_Point_0 (x.1,x.2,IntKind.wrap .i64 (IntKind.wrap .i64 (↑(UInt8.toNat c):Int) - (224:Int)),(2048:Int),(2:Int),(1:Int))) fun (y:Int×Int×Int ⊕ Int×Int)=>selim (fun (y:Int×Int×Int)=>bif decide (y.1<y.2.1) then some ((0:Int),(0:Int)) else bif decide ((1114111:Int)<y.1) then some ((0:Int),(0:Int)) else bif decide ((55296:Int)≤y.1) then bif decide (y.1<(57344:Int)) then some ((0:Int),(0:Int)) else some (y.1,IntKind.wrap .i64 (y.2.2+(1:Int))) else some (y.1,IntKind.wrap .i64 (y.2.2+(1:Int)))) (fun (y:Int×Int)=>some (y.1,y.2)) y else bif decide ((240:Int)≤IntKind.wrap .i64 (↑(UInt8.toNat c):Int)) then bif decide (IntKind.wrap .i64 (↑(UInt8.toNat c):Int)<(248:Int)) then bif decide (IntKind.wrap .i64 ((↑(List.length x.1):Int) - x.2)≤(3:Int)) then some ((0:Int),(0:Int)) else Option.bind (loopO m_spec_Point_0 (x.1,x.2,IntKind.wrap .i64 (IntKind.wrap .i64 (↑(UInt8.toNat c):Int) - (240:Int)),(65536:Int),(3:Int),(1:Int))) fun (y:Int×Int×Int ⊕ Int×Int)=>selim (fun (y:Int×Int×Int)=>bif decide (y.1<y.2.1) then some ((0:Int),(0:Int)) else bif decide ((1114111:Int)<y.1) then some ((0:Int),(0:Int)) else bif decide ((55296:Int)≤y.1) then bif decide (y.1<(57344:Int)) then some ((0:Int),(0:Int)) else some (y.1,IntKind.wrap .i64 (y.2.2+(1:Int))) else some (y.1,IntKind.wrap .i64 (y.2.2+(1:Int)))) (fun (y:Int×Int)=>some (y.1,y.2)) y else some ((0:Int),(0:Int)) else some ((0:Int),(0:Int)) else bif decide ((240:Int)≤IntKind.wrap .i64 (↑(UInt8.toNat c):Int)) then bif decide (IntKind.wrap .i64 (↑(UInt8.toNat c):Int)<(248:Int)) then bif decide (IntKind.wrap .i64 ((↑(List.length x.1):Int) - x.2)≤(3:Int)) then some ((0:Int),(0:Int)) else Option.bind (loopO m_spec_Point_0 (x.1,x.2,IntKind.wrap .i64 (IntKind.wrap .i64 (↑(UInt8.toNat c):Int) - (240:Int)),(65536:Int),(3:Int),(1:Int))) fun (y:Int×Int×Int ⊕ Int×Int)=>selim (fun (y:Int×Int×Int)=>bif decide (y.1<y.2.1) then some ((0:Int),(0:Int)) else bif decide ((1114111:Int)<y.1) then some ((0:Int),(0:Int)) else bif decide ((55296:Int)≤y.1) then bif decide (y.1<(57344:Int)) then some ((0:Int),(0:Int)) else some (y.1,IntKind.wrap .i64 (y.2.2+(1:Int))) else some (y.1,IntKind.wrap .i64 (y.2.2+(1:Int)))) (fun (y:Int×Int)=>some (y.1,y.2)) y else some ((0:Int),(0:Int)) else some ((0:Int),(0:Int))
noncomputable def cx_spec_Point:Cx:=⟨tb,lookE [],lookS [],mth,ast⟩
theorem ck_spec_Point:CxOK Tryz.prog (cx_spec_Point):=cx_ok tb_ok if_ok .nil
noncomputable def c_spec_Point_0:Code:=loopAt (Go.Proofs.Tryz.f91.body.getD .skip) 0
noncomputable def l_spec_Point_0:LEnt:=⟨p_spec_Point_0,x_spec_Point_0,loopO (m_spec_Point_0)⟩
theorem lo_spec_Point_0:LOK Tryz.prog 92 0 false (l_spec_Point_0) c_spec_Point_0:=loop_ok (body:=m_spec_Point_0) (L:=lookL []) (ck_spec_Point) mixed (ls_ok (l:=[]) (by kernel_rfl) .nil) (by intro x; kernel_rfl) (fun x y h=>loopO_iff.1 h)
noncomputable def e_spec_Point:Ent:=⟨0,p_spec_Point,q_spec_Point,m_spec_Point⟩
theorem ok_spec_Point:FnOK Tryz.prog 91 e_spec_Point:=fn_ok (L:=lookL [(1,l_spec_Point_0)]) ck_spec_Point mixed Tryz.func91 rfl (by kernel_rfl) (by kernel_rfl) (ls_ok (l:=[(1,c_spec_Point_0)]) (by kernel_rfl) (.cons rfl (lo_spec_Point_0) .nil)) (by intro x; kernel_rfl)
abbrev p_spec_Plain:Pt:=[(0, .str)]
abbrev q_spec_Plain:Pt:=[(0, .bool)]
abbrev p_spec_Plain_0:Pt:=[(0, .str),(3, .int .i64)]
abbrev x_spec_Plain_0:List (Xt×Pt):=[(.ex 0,[]),(.rt,[(2, .bool)])]
noncomputable def m_spec_Plain_0:Tup p_spec_Plain_0→Option (Stp (Tup p_spec_Plain_0) (SumT (x_spec_Plain_0.map (·.2)))):=fun (x:List UInt8×Int)=>bif decide (x.2<(↑(List.length x.1):Int)) then Option.bind (m_spec_Point (x.1,x.2)) fun (r:Int×Int)=>bif decide (r.2=(0:Int)) then some (Stp.out (Sum.inr false)) else bif decide (r.1=(0:Int)) then some (Stp.out (Sum.inr false)) else some (Stp.nx (x.1,IntKind.wrap .i64 (x.2+r.2))) else some (Stp.out (Sum.inl ()))
noncomputable def m_spec_Plain:Tup p_spec_Plain→Option (Tup q_spec_Plain):=fun (x:List UInt8)=>Option.bind (loopO m_spec_Plain_0 (x,(0:Int))) fun (y:PUnit ⊕ Bool)=>selim (fun (y:PUnit)=>some true) (fun (y:Bool)=>some y) y
noncomputable def cx_spec_Plain:Cx:=⟨tb,lookE [(91,e_spec_Point)],lookS [],mth,ast⟩
theorem ck_spec_Plain:CxOK Tryz.prog (cx_spec_Plain):=cx_ok tb_ok if_ok (.cons ok_spec_Point Tryz.call91 .nil)
noncomputable def c_spec_Plain_0:Code:=loopAt (Go.Proofs.Tryz.f63.body.getD .skip) 0
noncomputable def l_spec_Plain_0:LEnt:=⟨p_spec_Plain_0,x_spec_Plain_0,loopO (m_spec_Plain_0)⟩
theorem lo_spec_Plain_0:LOK Tryz.prog 25 0 false (l_spec_Plain_0) c_spec_Plain_0:=loop_ok (body:=m_spec_Plain_0) (L:=lookL []) (ck_spec_Plain) mixed (ls_ok (l:=[]) (by kernel_rfl) .nil) (by intro x; kernel_rfl) (fun x y h=>loopO_iff.1 h)
noncomputable def e_spec_Plain:Ent:=⟨0,p_spec_Plain,q_spec_Plain,m_spec_Plain⟩
theorem ok_spec_Plain:FnOK Tryz.prog 63 e_spec_Plain:=fn_ok (L:=lookL [(0,l_spec_Plain_0)]) ck_spec_Plain mixed Tryz.func63 rfl (by kernel_rfl) (by kernel_rfl) (ls_ok (l:=[(0,c_spec_Plain_0)]) (by kernel_rfl) (.cons rfl (lo_spec_Plain_0) .nil)) (by intro x; kernel_rfl)
abbrev p_spec_rightRoot:Pt:=[(0, .lst .node)]
abbrev q_spec_rightRoot:Pt:=[(0, .bool)]
abbrev p_spec_rightRoot_0:Pt:=[(0, .lst .node),(3, .own .int 3),(4, .bool),(5, .int .i64)]
abbrev x_spec_rightRoot_0:List (Xt×Pt):=[(.ex 0,[]),(.rt,[(2, .bool)])]
noncomputable def m_spec_rightRoot_0:Tup p_spec_rightRoot_0→Option (Stp (Tup p_spec_rightRoot_0) (SumT (x_spec_rightRoot_0.map (·.2)))):=fun (x:List Node×List Int×Bool×Int)=>bif decide (x.2.2.2<(↑(List.length x.2.1):Int)) then Option.bind (atI x.2.1 x.2.2.2) fun (x_1:Int)=>Option.bind x.2.1[Int.toNat x.2.2.2]? fun (v:Int)=>Option.bind (atI x.1 v) fun (v:Node)=>bif decide (Node.kind v=(4:Int)) then some (Stp.out (Sum.inr false)) else bif decide (Node.kind v=(2:Int)) then bif x.2.2.1 then Option.bind (atI x.2.1 x.2.2.2) fun (x_2:Int)=>Option.bind x.2.1[Int.toNat x.2.2.2]? fun (v:Int)=>Option.bind (atI x.1 v) fun (v:Node)=>bif decide (Node.kind v=(2:Int)) then some (Stp.out (Sum.inr false)) else some (Stp.nx (x.1,x.2.1,true,IntKind.wrap .i64 (x.2.2.2+(1:Int)))) else some (Stp.nx (x.1,x.2.1,true,IntKind.wrap .i64 (x.2.2.2+(1:Int)))) else bif decide (Node.kind v=(3:Int)) then bif x.2.2.1 then Option.bind (atI x.2.1 x.2.2.2) fun (x_2:Int)=>Option.bind x.2.1[Int.toNat x.2.2.2]? fun (v:Int)=>Option.bind (atI x.1 v) fun (v:Node)=>bif decide (Node.kind v=(2:Int)) then some (Stp.out (Sum.inr false)) else some (Stp.nx (x.1,x.2.1,true,IntKind.wrap .i64 (x.2.2.2+(1:Int)))) else some (Stp.nx (x.1,x.2.1,true,IntKind.wrap .i64 (x.2.2.2+(1:Int)))) else some (Stp.nx (x.1,x.2.1,x.2.2.1,IntKind.wrap .i64 (x.2.2.2+(1:Int)))) else some (Stp.out (Sum.inl ()))
noncomputable def m_spec_rightRoot:Tup p_spec_rightRoot→Option (Tup q_spec_rightRoot):=fun (x:List Node)=>Option.bind (m_spec_Kids (x,(0:Int))) fun (r:List Int)=>Option.bind (loopO m_spec_rightRoot_0 (x,r,false,(0:Int))) fun (y:PUnit ⊕ Bool)=>selim (fun (y:PUnit)=>some true) (fun (y:Bool)=>some y) y
noncomputable def cx_spec_rightRoot:Cx:=⟨tb,lookE [(9,e_spec_Kids)],lookS [],mth,ast⟩
theorem ck_spec_rightRoot:CxOK Tryz.prog (cx_spec_rightRoot):=cx_ok tb_ok if_ok (.cons ok_spec_Kids Tryz.call9 .nil)
noncomputable def c_spec_rightRoot_0:Code:=loopAt (Go.Proofs.Tryz.f64.body.getD .skip) 0
noncomputable def l_spec_rightRoot_0:LEnt:=⟨p_spec_rightRoot_0,x_spec_rightRoot_0,loopO (m_spec_rightRoot_0)⟩
theorem lo_spec_rightRoot_0:LOK Tryz.prog 39 0 false (l_spec_rightRoot_0) c_spec_rightRoot_0:=loop_ok (body:=m_spec_rightRoot_0) (L:=lookL []) (ck_spec_rightRoot) mixed (ls_ok (l:=[]) (by kernel_rfl) .nil) (by intro x; kernel_rfl) (fun x y h=>loopO_iff.1 h)
noncomputable def e_spec_rightRoot:Ent:=⟨0,p_spec_rightRoot,q_spec_rightRoot,m_spec_rightRoot⟩
theorem ok_spec_rightRoot:FnOK Tryz.prog 64 e_spec_rightRoot:=fn_ok (L:=lookL [(0,l_spec_rightRoot_0)]) ck_spec_rightRoot mixed Tryz.func64 rfl (by kernel_rfl) (by kernel_rfl) (ls_ok (l:=[(0,c_spec_rightRoot_0)]) (by kernel_rfl) (.cons rfl (lo_spec_rightRoot_0) .nil)) (by intro x; kernel_rfl)
end Go.Proofs.YtkmigbicabfodaaGreat.V
set_option linter.unusedVariables false
set_option linter.unusedSimpArgs false
namespace Go.Proofs.YtkmigbicabfodaaGreat.V
open Go Go.Proofs
abbrev p_spec_rightAttrs:Pt:=[(0, .lst .attr)]
abbrev q_spec_rightAttrs:Pt:=[(0, .bool)]
abbrev p_spec_rightAttrs_0_0:Pt:=[(0, .lst .attr),(3, .int .i64),(4, .int .i64)]
abbrev x_spec_rightAttrs_0_0:List (Xt×Pt):=[(.ex 2,[(0, .lst .attr),(3, .int .i64)]),(.rt,[(2, .bool)])]
noncomputable def m_spec_rightAttrs_0_0:Tup p_spec_rightAttrs_0_0→Option (Stp (Tup p_spec_rightAttrs_0_0) (SumT (x_spec_rightAttrs_0_0.map (·.2)))):=fun (x:List Attr×Int×Int)=>bif decide (x.2.2<x.2.1) then Option.bind (atI x.1 x.2.2) fun (v:Attr)=>Option.bind (atI x.1 x.2.1) fun (v_1:Attr)=>bif decide (Attr.key v=Attr.key v_1) then some (Stp.out (Sum.inr false)) else some (Stp.nx (x.1,x.2.1,IntKind.wrap .i64 (x.2.2+(1:Int)))) else some (Stp.out (Sum.inl (x.1,x.2.1)))
abbrev p_spec_rightAttrs_0:Pt:=[(0, .lst .attr),(3, .int .i64)]
abbrev x_spec_rightAttrs_0:List (Xt×Pt):=[(.ex 0,[]),(.rt,[(2, .bool)])]
noncomputable def m_spec_rightAttrs_0:Tup p_spec_rightAttrs_0→Option (Stp (Tup p_spec_rightAttrs_0) (SumT (x_spec_rightAttrs_0.map (·.2)))):=fun (x:List Attr×Int)=>bif decide (x.2<(↑(List.length x.1):Int)) then Option.bind (atI x.1 x.2) fun (v:Attr)=>Option.bind (m_spec_Name (Attr.key v)) fun (r:Bool)=>bif !r then some (Stp.out (Sum.inr false)) else Option.bind (atI x.1 x.2) fun (v:Attr)=>Option.bind (m_spec_Plain (Attr.val v)) fun (r:Bool)=>bif !r then some (Stp.out (Sum.inr false)) else Option.bind (loopO m_spec_rightAttrs_0_0 (x.1,x.2,(0:Int))) fun (y:List Attr×Int ⊕ Bool)=>selim (fun (y:List Attr×Int)=>some (Stp.nx (y.1,IntKind.wrap .i64 (y.2+(1:Int))))) (fun (y:Bool)=>some (Stp.out (Sum.inr y))) y else some (Stp.out (Sum.inl ()))
noncomputable def m_spec_rightAttrs:Tup p_spec_rightAttrs→Option (Tup q_spec_rightAttrs):=fun (x:List Attr)=>bif decide ((20:Int)<(↑(List.length x):Int)) then some false else Option.bind (loopO m_spec_rightAttrs_0 (x,(0:Int))) fun (y:PUnit ⊕ Bool)=>selim (fun (y:PUnit)=>some true) (fun (y:Bool)=>some y) y
noncomputable def cx_spec_rightAttrs:Cx:=⟨tb,lookE [(65,e_spec_Name),(63,e_spec_Plain)],lookS [(11,[(true,0),(true,1),(true,2),(true,3),(true,4),(true,5),(true,6),(true,7),(true,8),(true,9),(true,10)])],mth,ast⟩
theorem ck_spec_rightAttrs:CxOK Tryz.prog (cx_spec_rightAttrs):=cx_ok tb_ok if_ok (.cons ok_spec_Name Tryz.call65 (.cons ok_spec_Plain Tryz.call63 .nil))
noncomputable def c_spec_rightAttrs_0_0:Code:=loopAt (loopAt (Go.Proofs.Tryz.f67.body.getD .skip) 0) 0
noncomputable def l_spec_rightAttrs_0_0:LEnt:=⟨p_spec_rightAttrs_0_0,x_spec_rightAttrs_0_0,loopO (m_spec_rightAttrs_0_0)⟩
theorem lo_spec_rightAttrs_0_0:LOK Tryz.prog 46 0 false (l_spec_rightAttrs_0_0) c_spec_rightAttrs_0_0:=loop_ok (body:=m_spec_rightAttrs_0_0) (L:=lookL []) (ck_spec_rightAttrs) mixed (ls_ok (l:=[]) (by kernel_rfl) .nil) (by intro x; kernel_rfl) (fun x y h=>loopO_iff.1 h)
noncomputable def c_spec_rightAttrs_0:Code:=loopAt (Go.Proofs.Tryz.f67.body.getD .skip) 0
noncomputable def l_spec_rightAttrs_0:LEnt:=⟨p_spec_rightAttrs_0,x_spec_rightAttrs_0,loopO (m_spec_rightAttrs_0)⟩
theorem lo_spec_rightAttrs_0:LOK Tryz.prog 46 0 false (l_spec_rightAttrs_0) c_spec_rightAttrs_0:=loop_ok (body:=m_spec_rightAttrs_0) (L:=lookL [(2,l_spec_rightAttrs_0_0)]) (ck_spec_rightAttrs) mixed (ls_ok (l:=[(2,c_spec_rightAttrs_0_0)]) (by kernel_rfl) (.cons rfl (lo_spec_rightAttrs_0_0) .nil)) (by intro x; kernel_rfl) (fun x y h=>loopO_iff.1 h)
noncomputable def e_spec_rightAttrs:Ent:=⟨0,p_spec_rightAttrs,q_spec_rightAttrs,m_spec_rightAttrs⟩
theorem ok_spec_rightAttrs:FnOK Tryz.prog 67 e_spec_rightAttrs:=fn_ok (L:=lookL [(0,l_spec_rightAttrs_0)]) ck_spec_rightAttrs mixed Tryz.func67 rfl (by kernel_rfl) (by kernel_rfl) (ls_ok (l:=[(0,c_spec_rightAttrs_0)]) (by kernel_rfl) (.cons rfl (lo_spec_rightAttrs_0) .nil)) (by intro x; kernel_rfl)
abbrev p_spec_rightNode:Pt:=[(0, .lst .node),(1, .int .i64)]
abbrev q_spec_rightNode:Pt:=[(0, .bool)]
noncomputable def m_spec_rightNode:Tup p_spec_rightNode→Option (Tup q_spec_rightNode):=fun (x:List Node×Int)=>Option.bind (atI x.1 x.2) fun (v:Node)=>bif decide (Node.kind v≠(3:Int)) then bif decide (Node.tag v≠Array.toList (ByteArray.data { data:=#[] })) then some false else bif decide ((0:Int)<(↑(List.length (Node.attrs v)):Int)) then some false else Option.bind (m_spec_Plain (Node.text v)) fun (r:Bool)=>bif !r then some false else bif decide (Node.kind v=(1:Int)) then bif decide (x.2=(0:Int)) then bif decide (Node.text v=Array.toList (ByteArray.data { data:=#[] })) then Option.bind (m_spec_rightRoot x.1) fun (r:Bool)=>some r else some false else some false else bif decide (Node.kind v=(2:Int)) then bif decide (Node.size v=(1:Int)) then Option.bind (m_spec_Name (Node.text v)) fun (r:Bool)=>bif r then Option.bind (m_spec_Parent (x.1,x.2)) fun (r:Int)=>some (decide (r=(0:Int))) else some false else some false else bif decide (Node.kind v=(4:Int)) then some (decide (Node.size v=(1:Int))) else bif decide (Node.kind v=(5:Int)) then some (decide (Node.size v=(1:Int))) else bif decide (Node.kind v=(3:Int)) then bif decide (Node.text v=Array.toList (ByteArray.data { data:=#[] })) then Option.bind (m_spec_Name (Node.tag v)) fun (r:Bool)=>bif r then Option.bind (m_spec_rightAttrs (Node.attrs v)) fun (r:Bool)=>some r else some false else some false else some false else Option.bind (m_spec_Plain (Node.text v)) fun (r:Bool)=>bif !r then some false else bif decide (Node.kind v=(1:Int)) then bif decide (x.2=(0:Int)) then bif decide (Node.text v=Array.toList (ByteArray.data { data:=#[] })) then Option.bind (m_spec_rightRoot x.1) fun (r:Bool)=>some r else some false else some false else bif decide (Node.kind v=(2:Int)) then bif decide (Node.size v=(1:Int)) then Option.bind (m_spec_Name (Node.text v)) fun (r:Bool)=>bif r then Option.bind (m_spec_Parent (x.1,x.2)) fun (r:Int)=>some (decide (r=(0:Int))) else some false else some false else bif decide (Node.kind v=(4:Int)) then some (decide (Node.size v=(1:Int))) else bif decide (Node.kind v=(5:Int)) then some (decide (Node.size v=(1:Int))) else bif decide (Node.kind v=(3:Int)) then bif decide (Node.text v=Array.toList (ByteArray.data { data:=#[] })) then Option.bind (m_spec_Name (Node.tag v)) fun (r:Bool)=>bif r then Option.bind (m_spec_rightAttrs (Node.attrs v)) fun (r:Bool)=>some r else some false else some false else some false
noncomputable def cx_spec_rightNode:Cx:=⟨tb,lookE [(63,e_spec_Plain),(64,e_spec_rightRoot),(65,e_spec_Name),(66,e_spec_Parent),(67,e_spec_rightAttrs)],lookS [],mth,ast⟩
theorem ck_spec_rightNode:CxOK Tryz.prog (cx_spec_rightNode):=cx_ok tb_ok if_ok (.cons ok_spec_Plain Tryz.call63 (.cons ok_spec_rightRoot Tryz.call64 (.cons ok_spec_Name Tryz.call65 (.cons ok_spec_Parent Tryz.call66 (.cons ok_spec_rightAttrs Tryz.call67 .nil)))))
noncomputable def e_spec_rightNode:Ent:=⟨0,p_spec_rightNode,q_spec_rightNode,m_spec_rightNode⟩
theorem ok_spec_rightNode:FnOK Tryz.prog 41 e_spec_rightNode:=fn_ok (L:=lookL []) ck_spec_rightNode mixed Tryz.func41 rfl (by kernel_rfl) (by kernel_rfl) (ls_ok (l:=[]) (by kernel_rfl) .nil) (by intro x; kernel_rfl)
abbrev p_spec_Right:Pt:=[(0, .lst .node)]
abbrev q_spec_Right:Pt:=[(0, .bool)]
abbrev p_spec_Right_0_0:Pt:=[(0, .lst .node),(3, .int .i64),(4, .int .i64),(5, .int .i64)]
abbrev x_spec_Right_0_0:List (Xt×Pt):=[(.ex 2,[(0, .lst .node),(3, .int .i64),(4, .int .i64)])]
noncomputable def m_spec_Right_0_0:Tup p_spec_Right_0_0→Option (Stp (Tup p_spec_Right_0_0) (SumT (x_spec_Right_0_0.map (·.2)))):=fun (x:List Node×Int×Int×Int)=>Option.bind (atI x.1 x.2.2.1) fun (v:Node)=>bif decide (x.2.2.2<(↑(List.length (Node.attrs v)):Int)) then bif decide (x.2.1≤(4000:Int)) then Option.bind (atI x.1 x.2.2.1) fun (v:Node)=>Option.bind (atI (Node.attrs v) x.2.2.2) fun (v:Attr)=>some (Stp.nx (x.1,IntKind.wrap .i64 (x.2.1+if (4001:Int)<(↑(List.length (Attr.val v)):Int) then (4001:Int) else (↑(List.length (Attr.val v)):Int)),x.2.2.1,IntKind.wrap .i64 (x.2.2.2+(1:Int)))) else some (Stp.out (x.1,x.2.1,x.2.2.1)) else some (Stp.out (x.1,x.2.1,x.2.2.1))
abbrev p_spec_Right_0:Pt:=[(0, .lst .node),(3, .int .i64),(4, .int .i64)]
abbrev x_spec_Right_0:List (Xt×Pt):=[(.ex 0,[]),(.rt,[(2, .bool)])]
noncomputable def m_spec_Right_0:Tup p_spec_Right_0→Option (Stp (Tup p_spec_Right_0) (SumT (x_spec_Right_0.map (·.2)))):=fun (x:List Node×Int×Int)=>bif decide (x.2.2<(↑(List.length x.1):Int)) then Option.bind (atI x.1 x.2.2) fun (v:Node)=>Option.bind (loopO m_spec_Right_0_0 (x.1,IntKind.wrap .i64 (x.2.1+if (4001:Int)<(↑(List.length (Node.text v)):Int) then (4001:Int) else (↑(List.length (Node.text v)):Int)),x.2.2,(0:Int))) fun (y:List Node×Int×Int)=>bif decide ((4000:Int)<y.2.1) then some (Stp.out (Sum.inr false)) else Option.bind (m_spec_rightNode (y.1,y.2.2)) fun (r:Bool)=>bif !r then some (Stp.out (Sum.inr false)) else some (Stp.nx (y.1,y.2.1,IntKind.wrap .i64 (y.2.2+(1:Int)))) else some (Stp.out (Sum.inl ()))
noncomputable def m_spec_Right:Tup p_spec_Right→Option (Tup q_spec_Right):=fun (x:List Node)=>bif decide ((↑(List.length x):Int)=(0:Int)) then some false else bif decide ((200:Int)<(↑(List.length x):Int)) then some false else Option.bind (atI x (0:Int)) fun (v:Node)=>bif decide (Node.size v≠(↑(List.length x):Int)) then some false else Option.bind (atI x (0:Int)) fun (v:Node)=>bif decide (Node.kind v≠(1:Int)) then some false else Option.bind (m_spec_sized big (x,(0:Int),(↑(List.length x):Int),(40:Int))) fun (r:Bool)=>bif !r then some false else Option.bind (loopO m_spec_Right_0 (x,(0:Int),(0:Int))) fun (y:PUnit ⊕ Bool)=>selim (fun (y:PUnit)=>some true) (fun (y:Bool)=>some y) y
noncomputable def cx_spec_Right:Cx:=⟨tb,lookE [(39,e_spec_sized),(41,e_spec_rightNode)],lookS [],mth,ast⟩
theorem ck_spec_Right:CxOK Tryz.prog (cx_spec_Right):=cx_ok tb_ok if_ok (.cons ok_spec_sized Tryz.call39 (.cons ok_spec_rightNode Tryz.call41 .nil))
noncomputable def c_spec_Right_0_0:Code:=loopAt (loopAt (Go.Proofs.Tryz.f22.body.getD .skip) 0) 0
noncomputable def l_spec_Right_0_0:LEnt:=⟨p_spec_Right_0_0,x_spec_Right_0_0,loopO (m_spec_Right_0_0)⟩
theorem lo_spec_Right_0_0:LOK Tryz.prog 87 0 false (l_spec_Right_0_0) c_spec_Right_0_0:=loop_ok (body:=m_spec_Right_0_0) (L:=lookL []) (ck_spec_Right) mixed (ls_ok (l:=[]) (by kernel_rfl) .nil) (by intro x; kernel_rfl) (fun x y h=>loopO_iff.1 h)
noncomputable def c_spec_Right_0:Code:=loopAt (Go.Proofs.Tryz.f22.body.getD .skip) 0
noncomputable def l_spec_Right_0:LEnt:=⟨p_spec_Right_0,x_spec_Right_0,loopO (m_spec_Right_0)⟩
theorem lo_spec_Right_0:LOK Tryz.prog 87 0 false (l_spec_Right_0) c_spec_Right_0:=loop_ok (body:=m_spec_Right_0) (L:=lookL [(2,l_spec_Right_0_0)]) (ck_spec_Right) mixed (ls_ok (l:=[(2,c_spec_Right_0_0)]) (by kernel_rfl) (.cons rfl (lo_spec_Right_0_0) .nil)) (by intro x; kernel_rfl) (fun x y h=>loopO_iff.1 h)
noncomputable def e_spec_Right:Ent:=⟨0,p_spec_Right,q_spec_Right,m_spec_Right⟩
theorem ok_spec_Right:FnOK Tryz.prog 22 e_spec_Right:=fn_ok (L:=lookL [(0,l_spec_Right_0)]) ck_spec_Right mixed Tryz.func22 rfl (by kernel_rfl) (by kernel_rfl) (ls_ok (l:=[(0,c_spec_Right_0)]) (by kernel_rfl) (.cons rfl (lo_spec_Right_0) .nil)) (by intro x; kernel_rfl)
abbrev p_spec_SameList:Pt:=[(0, .lst .int),(1, .lst .int)]
abbrev q_spec_SameList:Pt:=[(0, .bool)]
abbrev p_spec_SameList_0:Pt:=[(0, .lst .int),(1, .lst .int),(5, .int .i64)]
abbrev x_spec_SameList_0:List (Xt×Pt):=[(.ex 0,[]),(.rt,[(4, .bool)])]
noncomputable def m_spec_SameList_0:Tup p_spec_SameList_0→Option (Stp (Tup p_spec_SameList_0) (SumT (x_spec_SameList_0.map (·.2)))):=fun (x:List Int×List Int×Int)=>bif decide (x.2.2<(↑(List.length x.1):Int)) then Option.bind (atI x.1 x.2.2) fun (v:Int)=>Option.bind (atI x.2.1 x.2.2) fun (v_1:Int)=>bif decide (v≠v_1) then some (Stp.out (Sum.inr false)) else some (Stp.nx (x.1,x.2.1,IntKind.wrap .i64 (x.2.2+(1:Int)))) else some (Stp.out (Sum.inl ()))
noncomputable def m_spec_SameList:Tup p_spec_SameList→Option (Tup q_spec_SameList):=fun (x:List Int×List Int)=>bif decide ((↑(List.length x.1):Int)≠(↑(List.length x.2):Int)) then some false else Option.bind (loopO m_spec_SameList_0 (x.1,x.2,(0:Int))) fun (y:PUnit ⊕ Bool)=>selim (fun (y:PUnit)=>some true) (fun (y:Bool)=>some y) y
noncomputable def cx_spec_SameList:Cx:=⟨tb,lookE [],lookS [(6,[(true,0),(true,1),(true,2),(true,3),(true,4),(true,5),(true,6),(true,7),(true,8)])],mth,ast⟩
theorem ck_spec_SameList:CxOK Tryz.prog (cx_spec_SameList):=cx_ok tb_ok if_ok .nil
noncomputable def c_spec_SameList_0:Code:=loopAt (Go.Proofs.Tryz.f12.body.getD .skip) 0
noncomputable def l_spec_SameList_0:LEnt:=⟨p_spec_SameList_0,x_spec_SameList_0,loopO (m_spec_SameList_0)⟩
theorem lo_spec_SameList_0:LOK Tryz.prog 26 0 false (l_spec_SameList_0) c_spec_SameList_0:=loop_ok (body:=m_spec_SameList_0) (L:=lookL []) (ck_spec_SameList) mixed (ls_ok (l:=[]) (by kernel_rfl) .nil) (by intro x; kernel_rfl) (fun x y h=>loopO_iff.1 h)
noncomputable def e_spec_SameList:Ent:=⟨0,p_spec_SameList,q_spec_SameList,m_spec_SameList⟩
theorem ok_spec_SameList:FnOK Tryz.prog 12 e_spec_SameList:=fn_ok (L:=lookL [(0,l_spec_SameList_0)]) ck_spec_SameList mixed Tryz.func12 rfl (by kernel_rfl) (by kernel_rfl) (ls_ok (l:=[(0,c_spec_SameList_0)]) (by kernel_rfl) (.cons rfl (lo_spec_SameList_0) .nil)) (by intro x; kernel_rfl)
end Go.Proofs.YtkmigbicabfodaaGreat.V
set_option linter.unusedVariables false
set_option linter.unusedSimpArgs false
namespace Go.Proofs.YtkmigbicabfodaaGreat.V
open Go
theorem some_ex {α:Type} (a:α):∃ b,some a=some b:=⟨a,rfl⟩
def fits4 (a:Attr):Bool:=decide (a.key.length≤2147483647) && decide (a.val.length≤2147483647)
def fits3 (l:List Attr):Bool:=decide (l.length≤2147483647) && l.all fits4
def fits2 (n:Node):Bool:=decide (n.tag.length≤2147483647) && decide (n.text.length≤2147483647) && fits3 n.attrs
def fits1 (t:List Node):Bool:=decide (t.length≤2147483647) && t.all fits2
theorem zz4 (a:Attr):m_laws_zzFits4 a=some (fits4 a):=by
 simp only [m_laws_zzFits4,cond_dec,fits4]
 split
 ·rename_i h; rw [decide_eq_false (by omega)]; rfl
 ·rename_i h
  split
  ·rename_i h2; rw [decide_eq_false (p:=a.val.length≤_) (by omega),Bool.and_false]
  ·rename_i h2; rw [decide_eq_true (by omega),decide_eq_true (by omega)]; rfl
theorem zz3 (l:List Attr):m_laws_zzFits3 l=some (fits3 l):=by
 simp only [m_laws_zzFits3,cond_dec,fits3]
 split
 ·rw [decide_eq_false (by omega)]; rfl
 ·rename_i hl
  have h:=loop_all (body:=m_laws_zzFits3_0) l fits4 (fun k=>(l,(l.length:Int),(k:Int))) (.inl ()) (.inr false) (fun k v hv=>by
   have hk:=(List.getElem?_eq_some_iff.1 hv).1
   simp only [m_laws_zzFits3_0,cond_dec,atI_nat]
   rw [if_pos (by omega),hv,bind_some,show m_laws_zzFits4 { key:=v.key,val:=v.val }=some (fits4 v) from zz4 v,bind_some,not_cond,w64 (by omega) (by omega)]
   cases fits4 v <;> rfl) (by
   simp only [m_laws_zzFits3_0,cond_dec]
   rw [if_neg (by omega)]) 0 (Nat.zero_le _)
  rw [show loopO m_laws_zzFits3_0 (l,(l.length:Int),(0:Int))=_ from h,bind_some,decide_eq_true (by omega)]
  simp only [List.drop_zero,Bool.true_and]
  cases l.all fits4 <;> rfl
theorem zz2 (n:Node):m_laws_zzFits2 n=some (fits2 n):=by
 simp only [m_laws_zzFits2,cond_dec,fits2,zz3,bind_some]
 split
 ·rw [decide_eq_false (by omega)]; rfl
 ·split
  ·rw [decide_eq_false (p:=n.text.length≤_) (by omega),Bool.and_false]; rfl
  ·rw [decide_eq_true (by omega),decide_eq_true (by omega)]
   cases fits3 n.attrs <;> rfl
theorem zz1 (l:List Node):m_laws_zzFits1 l=some (fits1 l):=by
 simp only [m_laws_zzFits1,cond_dec,fits1]
 split
 ·rw [decide_eq_false (by omega)]; rfl
 ·rename_i hl
  have h:=loop_all (body:=m_laws_zzFits1_0) l fits2 (fun k=>(l,(l.length:Int),(k:Int))) (.inl ()) (.inr false) (fun k v hv=>by
   have hk:=(List.getElem?_eq_some_iff.1 hv).1
   simp only [m_laws_zzFits1_0,cond_dec,atI_nat]
   rw [if_pos (by omega),hv,bind_some,show m_laws_zzFits2 { kind:=v.kind,tag:=v.tag,text:=v.text,attrs:=v.attrs,size:=v.size }=some (fits2 v) from zz2 v,bind_some,not_cond,w64 (by omega) (by omega)]
   cases fits2 v <;> rfl) (by
   simp only [m_laws_zzFits1_0,cond_dec]
   rw [if_neg (by omega)]) 0 (Nat.zero_le _)
  rw [show loopO m_laws_zzFits1_0 (l,(l.length:Int),(0:Int))=_ from h,bind_some,decide_eq_true (by omega)]
  simp only [List.drop_zero,Bool.true_and]
  cases l.all fits2 <;> rfl
theorem name_ex (s:List UInt8) (hs:s.length≤2147483647):∃ b,m_spec_Name s=some b:=by
 simp only [m_spec_Name,cond_dec,atI_zero]
 split
 ·exact some_ex _
 ·split
  ·exact some_ex _
  ·rename_i h1 h2
   obtain ⟨c,hc⟩:=get_lt (l:=s) (k:=0) (by omega)
   rw [hc]
   simp only [bind_some]
   split
   ·exact some_ex _
   ·split
    ·exact some_ex _
    ·obtain ⟨b,h,_⟩:=loopO_up (body:=m_spec_Name_0) (st:=fun k=>(s,((k+1:Nat):Int))) (s.length - 1) (fun _=>True) (fun k hk=>by
      simp only [m_spec_Name_0,cond_dec,atI_nat]
      split
      ·rename_i h3
       obtain ⟨v,hv⟩:=get_lt (l:=s) (k:=k+1) (by omega)
       rw [hv]
       simp only [bind_some]
       rw [w64 (by omega) (by omega)]
       have hnx:∀ (p:Prop) [Decidable p] (a b:Option (Stp (Tup p_spec_Name_0) (SumT (x_spec_Name_0.map (·.2))))),cond (!decide p) a b=if p then b else a:=fun p _ a b=>by by_cases h:p <;> simp [h]
       simp only [hnx]
       repeat' split
       all_goals first | exact .inl ⟨_,rfl,trivial⟩ | exact .inr ⟨by omega,rfl⟩
      ·exact .inl ⟨_,rfl,trivial⟩) 0 (by omega)
     have h':loopO m_spec_Name_0 (s,(1:Int))=some b:=h
     rw [h',bind_some]
     cases b <;> exact some_ex _
theorem point0 (s:List UInt8) (a:Nat) (p least r:Int) (hr:0≤r) (h:(a:Int)+r<s.length) (hl:s.length≤2147483647):∃ y,loopO m_spec_Point_0 (s,(a:Int),p,least,r,(1:Int))=some y∧(∀ a b c,y = .inl (a,b,c)→c=r)∧∀ a b,y = .inr (a,b)→a=0∧b=0:=by
 refine loopO_rule (body:=m_spec_Point_0) (fun x=>∃ (p:Int) (k:Nat),x=(s,(a:Int),p,least,r,(k:Int))∧1≤k∧(k:Int)≤r+1) (fun _ y=>(∀ a b c,y = .inl (a,b,c)→c=r)∧∀ a b,y = .inr (a,b)→a=0∧b=0) (fun x=>(r+1 - x.2.2.2.2.2).toNat) (fun x hx=>?_) _ ⟨p,1,rfl,by omega,by omega⟩
 obtain ⟨p,k,rfl,h1,h2⟩:=hx
 simp only [m_spec_Point_0,cond_dec]
 split
 ·rename_i h3
  rw [w64 (by omega) (by omega)]
  have e:(a:Int)+(k:Int)=((a+k:Nat):Int):=by omega
  rw [e,atI_nat]
  obtain ⟨c,hc⟩:=get_lt (l:=s) (k:=a+k) (by omega)
  rw [hc]
  simp only [bind_some]
  split
  ·exact .inl ⟨_,rfl,(fun _ _ _ e=>by cases e),fun _ _ e=>by cases e; exact ⟨rfl,rfl⟩⟩
  ·split
   ·exact .inl ⟨_,rfl,(fun _ _ _ e=>by cases e),fun _ _ e=>by cases e; exact ⟨rfl,rfl⟩⟩
   ·have hs:∀ q:Int,shlI .i64 q 6=some (IntKind.wrap .i64 (q*2 ^ min (6:Int).toNat IntKind.i64.bits)):=fun q=>by simp [shlI]
    rw [hs]
    simp only [bind_some]
    refine .inr ⟨_,rfl,⟨_,k+1,by rw [w64 (n:=(k:Int)+1) (by omega) (by omega)]; rfl,by omega,by omega⟩,?_,fun _ h=>h⟩
    simp only
    rw [w64 (n:=(k:Int)+1) (by omega) (by omega)]
    omega
 ·exact .inl ⟨_,rfl,(fun _ _ _ e=>by cases e; rfl),fun _ _ e=>by cases e⟩
def PtOK (s:List UInt8) (a:Nat) (o:Option (Int×Int)):Prop:=∃ p n:Int,o=some (p,n)∧0≤n∧(a:Int)+n≤s.length
theorem ite_ok {α:Type} {P:α→Prop} {c:Prop} [Decidable c] {x y:α} (h1:c→P x) (h2:¬ c→P y):P (if c then x else y):=by by_cases h:c <;> simp [h,h1,h2]
theorem point_ok (s:List UInt8) (a:Nat) (ha:a<s.length) (hl:s.length≤2147483647):PtOK s a (m_spec_Point (s,(a:Int))):=by
 obtain ⟨c,hc⟩:=get_lt (l:=s) (k:=a) ha
 have fin:∀ (p least r:Int),0≤r→(a:Int)+r<s.length→PtOK s a (Option.bind (loopO m_spec_Point_0 (s,(a:Int),p,least,r,(1:Int))) fun (y:Int×Int×Int ⊕ Int×Int)=>selim (fun (y:Int×Int×Int)=>if y.1<y.2.1 then some ((0:Int),(0:Int)) else if (1114111:Int)<y.1 then some ((0:Int),(0:Int)) else if (55296:Int)≤y.1 then if y.1<(57344:Int) then some ((0:Int),(0:Int)) else some (y.1,IntKind.wrap .i64 (y.2.2+(1:Int))) else some (y.1,IntKind.wrap .i64 (y.2.2+(1:Int)))) (fun (y:Int×Int)=>some (y.1,y.2)) y):=fun p least r h1 h2=>by
  obtain ⟨y,g1,g2,g3⟩:=point0 s a p least r h1 h2 hl
  rw [g1,bind_some]
  rcases y with ⟨u,v,w⟩ | ⟨u,v⟩
  ·obtain rfl:=g2 _ _ _ rfl
   simp only [selim_l]
   rw [w64 (n:=w+1) (by omega) (by omega)]
   repeat' split
   all_goals first | exact ⟨_,_,rfl,by omega,by omega⟩
  ·obtain ⟨rfl,rfl⟩:=g3 _ _ rfl
   exact ⟨_,_,rfl,by omega,by omega⟩
 simp only [m_spec_Point,cond_dec,atI_nat]
 rw [hc]
 simp only [bind_some]
 have e:IntKind.wrap .i64 ((s.length:Int) - (a:Int))=(s.length:Int) - (a:Int):=w64 (by omega) (by omega)
 simp only [e]
 repeat' (refine ite_ok (P:=PtOK s a) (fun _=>?_) (fun _=>?_))
 all_goals first | exact ⟨_,_,rfl,by omega,by omega⟩ | (refine fin _ _ _ ?_ ?_ <;> omega)
theorem point_ex (s:List UInt8) (a:Nat) (ha:a<s.length) (hl:s.length≤2147483647):∃ p n:Int,m_spec_Point (s,(a:Int))=some (p,n)∧0≤n∧(a:Int)+n≤s.length:=point_ok s a ha hl
theorem plain_ex (s:List UInt8) (hl:s.length≤2147483647):∃ b,m_spec_Plain s=some b:=by
 simp only [m_spec_Plain]
 obtain ⟨b,h,_⟩:=loopO_rule (body:=m_spec_Plain_0) (fun x=>∃ k:Nat,x=(s,(k:Int))∧k≤s.length) (fun _ _=>True) (fun x=>((s.length:Int) - x.2).toNat) (fun x hx=>by
  obtain ⟨k,rfl,hk⟩:=hx
  simp only [m_spec_Plain_0,cond_dec]
  split
  ·rename_i h1
   obtain ⟨p,n,h2,h3,h4⟩:=point_ex s k (by omega) hl
   rw [h2,bind_some]
   simp only
   split
   ·exact .inl ⟨_,rfl,trivial⟩
   ·split
    ·exact .inl ⟨_,rfl,trivial⟩
    ·refine .inr ⟨_,rfl,⟨k+n.toNat,?_,by omega⟩,?_,fun _ h=>h⟩
     ·rw [w64 (n:=(k:Int)+n) (by omega) (by omega)]
      have e:(k:Int)+n=((k+n.toNat:Nat):Int):=by omega
      rw [e]
     ·simp only
      rw [w64 (n:=(k:Int)+n) (by omega) (by omega)]
      omega
  ·exact .inl ⟨_,rfl,trivial⟩) (s,(0:Int)) ⟨0,rfl,Nat.zero_le _⟩
 rw [h,bind_some]
 cases b <;> exact some_ex _
end Go.Proofs.YtkmigbicabfodaaGreat.V
set_option linter.unusedVariables false
set_option linter.unusedSimpArgs false
namespace Go.Proofs.YtkmigbicabfodaaGreat.V
open Go
def sz (t:List Node) (i:Nat):Nat:=match t[i]? with
 | some v=>v.size.toNat
 | none=>0
theorem sz_some {t:List Node} {i:Nat} {v:Node} (h:t[i]?=some v):sz t i=v.size.toNat:=by simp [sz,h]
structure Lam (t:List Node) (lo hi:Nat):Prop where
 ok:∀ i,lo≤i→i<hi→∃ v,t[i]?=some v∧v.size=(sz t i:Int)∧1≤sz t i∧i+sz t i≤hi
 nest:∀ i j,lo≤i→i<hi→i<j→j<i+sz t i→j+sz t j≤i+sz t i
section
variable {t:List Node} {a b c:Nat}
theorem Lam.nil:Lam t a a:=⟨fun i h1 h2=>by omega,fun i j h1 h2=>by omega⟩
theorem Lam.app (h1:Lam t a b) (h2:Lam t b c) (hb:b≤c):Lam t a c:=by
 refine ⟨fun i hi hi'=>?_,fun i j hi hi' hj hj'=>?_⟩
 ·by_cases h:i<b
  ·obtain ⟨v,g1,g2,g3,g4⟩:=h1.ok i hi h
   exact ⟨v,g1,g2,g3,by omega⟩
  ·exact h2.ok i (by omega) hi'
 ·by_cases h:i<b
  ·exact h1.nest i j hi h hj hj'
  ·exact h2.nest i j (by omega) hi' hj hj'
theorem Lam.node {v:Node} (hv:t[a]?=some v) (hs:v.size=(sz t a:Int)) (h1:1≤sz t a) (h:Lam t (a+1) (a+sz t a)):Lam t a (a+sz t a):=by
 refine ⟨fun i hi hi'=>?_,fun i j hi hi' hj hj'=>?_⟩
 ·by_cases e:i=a
  ·subst e; exact ⟨v,hv,hs,h1,Nat.le_refl _⟩
  ·exact h.ok i (by omega) hi'
 ·by_cases e:i=a
  ·subst e
   obtain ⟨u,_,_,_,g⟩:=h.ok j (by omega) hj'
   exact g
  ·exact h.nest i j (by omega) hi' hj hj'
theorem Lam.sub (h:Lam t a c) {i:Nat} (h1:a≤i) (h2:i<c):Lam t i (i+sz t i):=by
 obtain ⟨v,_,_,_,g⟩:=h.ok i h1 h2
 refine ⟨fun j hj hj'=>?_,fun j k hj hj' hk hk'=>h.nest j k (by omega) (by omega) hk hk'⟩
 obtain ⟨u,e1,e2,e3,_⟩:=h.ok j (by omega) (by omega)
 refine ⟨u,e1,e2,e3,?_⟩
 by_cases e:j=i
 ·subst e; omega
 ·exact h.nest i j h1 h2 (by omega) hj'
end
theorem sized_ok (t:List Node) (ht:t.length≤1000000):∀ (d n a e:Nat),d<n→d<1000→a<e→e≤t.length→∃ b,m_spec_sized n (t,(a:Int),(e:Int),(d:Int))=some b∧(b=true→∃ v,t[a]?=some v∧v.size=(sz t a:Int)∧1≤sz t a∧a+sz t a≤e∧Lam t a (a+sz t a)):=by
 intro d
 induction d with
 | zero =>
  intro n a e hn _ ha he
  obtain ⟨m,rfl⟩:∃ m,n=m+1:=⟨n - 1,by omega⟩
  obtain ⟨v,hv⟩:=get_lt (l:=t) (k:=a) (by omega)
  simp only [m_spec_sized,b_spec_sized,cond_dec,atI_nat]
  rw [hv,bind_some]
  simp
 | succ d ih =>
  intro n a e hn hd ha he
  obtain ⟨m,rfl⟩:∃ m,n=m+1:=⟨n - 1,by omega⟩
  obtain ⟨v,hv⟩:=get_lt (l:=t) (k:=a) (by omega)
  simp only [m_spec_sized,b_spec_sized,cond_dec,atI_nat]
  rw [hv,bind_some]
  have hs:=sz_some hv
  rw [if_neg (by omega)]
  split
  ·exact ⟨_,rfl,fun h=>by cases h⟩
  ·rename_i h1
   rw [w64 (by omega) (by omega)]
   split
   ·exact ⟨_,rfl,fun h=>by cases h⟩
   ·rename_i h2
    have hsz:v.size=(sz t a:Int):=by omega
    have hs1:1≤sz t a:=by omega
    have hs2:a+sz t a≤e:=by omega
    rw [hsz,w64 (n:=(a:Int)+1) (by omega) (by omega)]
    obtain ⟨y,hy,hq1,hq2⟩:=loopO_rule (body:=m_spec_sized_0 (m_spec_sized m)) (fun x=>∃ k:Nat,x=(t,(a:Int),((d+1:Nat):Int),(sz t a:Int),(k:Int))∧a<k∧k≤a+sz t a∧Lam t (a+1) k)
     (fun _ y=>(y = .inl ()→Lam t (a+1) (a+sz t a))∧∀ b,y = .inr b→b=false) (fun x=>(((a+sz t a:Nat):Int) - x.2.2.2.2).toNat) (fun x hx=>by
      obtain ⟨k,rfl,hk1,hk2,hL⟩:=hx
      simp only [m_spec_sized_0,cond_dec,atI_nat]
      rw [w64 (n:=(a:Int)+(sz t a:Int)) (by omega) (by omega)]
      split
      ·rename_i h3
       obtain ⟨r,hr,hr'⟩:=ih m k (a+sz t a) (by omega) (by omega) (by omega) (by omega)
       have e1:IntKind.wrap .i64 (((d+1:Nat):Int) - 1)=(d:Int):=by rw [w64 (by omega) (by omega)]; omega
       have e2:(a:Int)+(sz t a:Int)=((a+sz t a:Nat):Int):=by omega
       rw [e1,e2,hr,bind_some]
       cases r
       ·exact .inl ⟨_,rfl,(fun h=>by cases h),fun b h=>by cases h; rfl⟩
       ·obtain ⟨u,g1,g2,g3,g4,g5⟩:=hr' rfl
        rw [g1,bind_some]
        simp only [Bool.not_true,cond_false]
        rw [g2,w64 (n:=(k:Int)+(sz t k:Int)) (by omega) (by omega)]
        refine .inr ⟨_,rfl,⟨k+sz t k,?_,by omega,by omega,hL.app g5 (by omega)⟩,?_,fun _ h=>h⟩
        ·have e3:(k:Int)+(sz t k:Int)=((k+sz t k:Nat):Int):=by omega
         rw [e3]
        ·simp only; omega
      ·rename_i h3
       have:k=a+sz t a:=by omega
       subst this
       exact .inl ⟨_,rfl,fun _=>hL,fun b h=>by cases h⟩) (t,(a:Int),((d+1:Nat):Int),(sz t a:Int),(a:Int)+1) ⟨a+1,rfl,by omega,by omega, .nil⟩
    rw [hy,bind_some]
    rcases y with u | b
    ·exact ⟨_,rfl,fun _=>⟨v,rfl,hsz,hs1,hs2,Lam.node hv hsz hs1 (hq1 rfl)⟩⟩
    ·obtain rfl:=hq2 b rfl
     exact ⟨_,rfl,fun h=>by cases h⟩
def kidsF (t:List Node):Nat→Nat→Nat→List Nat
 | 0,_,_=>[]
 | f+1,k,hi=>if k<hi then k::kidsF t f (k+sz t k) hi else []
def kidsN (t:List Node) (a:Nat):List Nat:=kidsF t (sz t a) (a+1) (a+sz t a)
def parF (t:List Node) (j:Nat):Nat→Option Nat
 | 0=>none
 | i+1=>if j<i+sz t i then some i else parF t j i
def par (t:List Node) (j:Nat):Option Nat:=parF t j j
theorem parF_some {t:List Node} {j i p:Nat} (h:parF t j i=some p):p<i∧j<p+sz t p∧∀ q,p<q→q<i→¬ j<q+sz t q:=by
 induction i with
 | zero=>cases h
 | succ i ih =>
  simp only [parF] at h
  split at h
  ·cases h
   exact ⟨by omega,by assumption,fun q h1 h2=>by omega⟩
  ·rename_i hn
   obtain ⟨h1,h2,h3⟩:=ih h
   refine ⟨by omega,h2,fun q g1 g2=>?_⟩
   by_cases e:q=i
   ·subst e; exact hn
   ·exact h3 q g1 (by omega)
theorem parF_none {t:List Node} {j i:Nat} (h:parF t j i=none):∀ q,q<i→¬ j<q+sz t q:=by
 induction i with
 | zero=>intro q hq; omega
 | succ i ih =>
  simp only [parF] at h
  split at h
  ·cases h
  ·rename_i hn
   intro q hq
   by_cases e:q=i
   ·subst e; exact hn
   ·exact ih h q (by omega)
theorem par_some {t:List Node} {j p:Nat} (h:par t j=some p):p<j∧j<p+sz t p∧∀ q,p<q→q<j→¬ j<q+sz t q:=parF_some h
theorem parF_mk {t:List Node} {j p:Nat}:∀ {i:Nat},p<i→j<p+sz t p→(∀ q,p<q→q<i→¬ j<q+sz t q)→parF t j i=some p
 | 0,h,_,_=>by omega
 | i+1,h1,h2,h3=>by
  simp only [parF]
  by_cases e:p=i
  ·subst e; rw [if_pos h2]
  ·rw [if_neg (h3 i (by omega) (by omega)),parF_mk (by omega) h2 fun q g1 g2=>h3 q g1 (by omega)]
theorem par_mk {t:List Node} {j p:Nat} (h1:p<j) (h2:j<p+sz t p) (h3:∀ q,p<q→q<j→¬ j<q+sz t q):par t j=some p:=parF_mk h1 h2 h3
def parI (t:List Node) (j:Nat):Int:=match par t j with
 | some p=>(p:Int)
 | none => -1
theorem Kids_eq (t:List Node) (ht:t.length≤1000000) {a:Nat} {lo hi:Nat} (hL:Lam t lo hi) (h1:lo≤a) (h2:a<hi) (hhi:hi≤t.length):m_spec_Kids (t,(a:Int))=some ((kidsN t a).map Int.ofNat):=by
 obtain ⟨v,hv,hvs,hv1,hv2⟩:=hL.ok a h1 h2
 simp only [m_spec_Kids]
 rw [w64 (n:=(a:Int)+1) (by omega) (by omega)]
 have key:∀ f k (acc:List Int),a<k→k≤a+sz t a→a+sz t a≤k+f→acc.length+f≤1000000→loopO m_spec_Kids_0 (t,(a:Int),acc,(k:Int))=some (acc++(kidsF t f k (a+sz t a)).map Int.ofNat):=by
  intro f
  induction f with
  | zero =>
   intro k acc g1 g2 g3 g4
   have hk:k=a+sz t a:=by omega
   subst hk
   refine loopO_out ?_
   simp only [m_spec_Kids_0,cond_dec,atI_nat]
   rw [hv,bind_some,hvs,w64 (by omega) (by omega),if_neg (by omega)]
   simp [kidsF]
  | succ f ih =>
   intro k acc g1 g2 g3 g4
   by_cases hk:k<a+sz t a
   ·obtain ⟨u,hu,hus,hu1,hu2⟩:=(hL.sub h1 h2).ok k (by omega) hk
    have step:m_spec_Kids_0 (t,(a:Int),acc,(k:Int))=some (.nx (t,(a:Int),acc++[(k:Int)],((k+sz t k:Nat):Int))):=by
     simp only [m_spec_Kids_0,cond_dec,atI_nat]
     rw [hv,bind_some,hvs,w64 (by omega) (by omega),if_pos (by omega),appL_some (by simp; omega),bind_some,hu,bind_some,hus,w64 (by omega) (by omega)]
     rfl
    rw [loopO_nx step,ih (k+sz t k) _ (by omega) (by omega) (by omega) (by simp; omega)]
    simp only [kidsF,if_pos hk,List.map_cons,List.append_assoc,List.singleton_append]
    rfl
   ·have hk:k=a+sz t a:=by omega
    subst hk
    refine loopO_out ?_
    simp only [m_spec_Kids_0,cond_dec,atI_nat]
    rw [hv,bind_some,hvs,w64 (by omega) (by omega),if_neg (by omega)]
    simp [kidsF]
 have h:=key (sz t a) (a+1) [] (by omega) (by omega) (by omega) (by simp; omega)
 have e:((a:Int)+1)=((a+1:Nat):Int):=by omega
 rw [e,h,bind_some]
 simp [kidsN]
theorem Parent_eq (t:List Node) (ht:t.length≤1000000) {a:Nat} {hi:Nat} (hL:Lam t 0 hi) (h2:a<hi) (hhi:hi≤t.length):m_spec_Parent (t,(a:Int))=some (parI t a):=by
 simp only [m_spec_Parent]
 rw [w64 (n:=(a:Int) - 1) (by omega) (by omega)]
 have key:∀ i,i≤a→loopO m_spec_Parent_0 (t,(a:Int),(i:Int) - 1)=some (match parF t a i with | some p => .inr (p:Int) | none => .inl ()):=by
  intro i
  induction i with
  | zero =>
   intro _
   refine loopO_out ?_
   simp only [m_spec_Parent_0,cond_dec]
   rw [if_neg (by omega)]
   rfl
  | succ i ih =>
   intro hi'
   obtain ⟨u,hu,hus,hu1,hu2⟩:=hL.ok i (by omega) (by omega)
   have e:((i+1:Nat):Int) - 1=(i:Int):=by omega
   rw [e]
   by_cases h:a<i+sz t i
   ·refine loopO_out ?_
    simp only [m_spec_Parent_0,cond_dec,atI_nat]
    rw [if_pos (by omega),hu,bind_some,hus,w64 (by omega) (by omega),if_pos (by omega)]
    simp only [parF,if_pos h]
   ·have step:m_spec_Parent_0 (t,(a:Int),(i:Int))=some (.nx (t,(a:Int),(i:Int) - 1)):=by
     simp only [m_spec_Parent_0,cond_dec,atI_nat]
     rw [if_pos (by omega),hu,bind_some,hus,w64 (by omega) (by omega),if_neg (by omega),w64 (by omega) (by omega)]
    rw [loopO_nx step,ih (by omega)]
    simp only [parF,if_neg h]
 rw [key a (Nat.le_refl _),bind_some]
 unfold parI par
 cases parF t a a <;> rfl
end Go.Proofs.YtkmigbicabfodaaGreat.V
set_option linter.unusedVariables false
set_option linter.unusedSimpArgs false
namespace Go.Proofs.YtkmigbicabfodaaGreat.V
open Go
theorem fits_attr {l:List Attr} (h:fits3 l=true) {i:Nat} {a:Attr} (hi:l[i]?=some a):a.key.length≤2147483647∧a.val.length≤2147483647:=by
 simp only [fits3,Bool.and_eq_true,List.all_eq_true] at h
 have:=h.2 a (List.mem_of_getElem? hi)
 simpa [fits4] using this
theorem fits_node {t:List Node} (h:fits1 t=true) {i:Nat} {v:Node} (hi:t[i]?=some v):v.tag.length≤2147483647∧v.text.length≤2147483647∧fits3 v.attrs=true:=by
 simp only [fits1,Bool.and_eq_true,List.all_eq_true] at h
 have:=h.2 v (List.mem_of_getElem? hi)
 simp only [fits2,Bool.and_eq_true,decide_eq_true_eq] at this
 exact ⟨this.1.1,this.1.2,this.2⟩
structure UA (l:List Attr):Prop where
 len:l.length≤20
 nm:∀ (i:Nat) (a:Attr),l[i]?=some a→m_spec_Name a.key=some true
 pl:∀ (i:Nat) (a:Attr),l[i]?=some a→m_spec_Plain a.val=some true
 uq:∀ (i j:Nat) (a b:Attr),j<i→l[i]?=some a→l[j]?=some b→b.key≠a.key
theorem rightAttrs_ex (l:List Attr) (hf:fits3 l=true):∃ b,m_spec_rightAttrs l=some b∧(b=true→UA l):=by
 simp only [m_spec_rightAttrs,cond_dec]
 split
 ·exact ⟨_,rfl,fun h=>by cases h⟩
 ·rename_i hl
  obtain ⟨y,h,q1,q2⟩:=loopO_rule (body:=m_spec_rightAttrs_0) (fun x=>∃ k:Nat,x=(l,(k:Int))∧k≤l.length∧∀ (i:Nat) (a:Attr),i<k→l[i]?=some a→m_spec_Name a.key=some true∧m_spec_Plain a.val=some true∧∀ (j:Nat) (b:Attr),j<i→l[j]?=some b→b.key≠a.key) (fun _ y=>(y = .inl ()→UA l)∧∀ b,y = .inr b→b=false) (fun x=>((l.length:Int) - x.2).toNat) (fun x hx=>by
   obtain ⟨k,rfl,hk,hI⟩:=hx
   simp only [m_spec_rightAttrs_0,cond_dec,atI_nat]
   split
   ·rename_i h1
    obtain ⟨v,hv⟩:=get_lt (l:=l) (k:=k) (by omega)
    obtain ⟨f1,f2⟩:=fits_attr hf hv
    obtain ⟨r,hr⟩:=name_ex v.key (by omega)
    obtain ⟨r',hr'⟩:=plain_ex v.val (by omega)
    rw [hv]
    simp only [bind_some]
    rw [hr,bind_some,not_cond]
    cases r
    ·exact .inl ⟨_,rfl,(fun h=>by cases h),fun b h=>by cases h; rfl⟩
    ·rw [if_pos rfl,hr',bind_some,not_cond]
     cases r'
     ·exact .inl ⟨_,rfl,(fun h=>by cases h),fun b h=>by cases h; rfl⟩
     ·rw [if_pos rfl]
      obtain ⟨z,hz,hq⟩:=loopO_rule (body:=m_spec_rightAttrs_0_0) (fun x=>∃ j:Nat,x=(l,(k:Int),(j:Int))∧j≤k∧∀ (i:Nat) (b:Attr),i<j→l[i]?=some b→b.key≠v.key) (fun _ z=>(z = .inl (l,(k:Int))∧∀ (i:Nat) (b:Attr),i<k→l[i]?=some b→b.key≠v.key)∨z = .inr false) (fun x=>((k:Int) - x.2.2).toNat) (fun x hx=>by
       obtain ⟨j,rfl,hj,hJ⟩:=hx
       simp only [m_spec_rightAttrs_0_0,cond_dec,atI_nat]
       split
       ·rename_i h2
        obtain ⟨u,hu⟩:=get_lt (l:=l) (k:=j) (by omega)
        rw [hu,hv]
        simp only [bind_some]
        split
        ·exact .inl ⟨_,rfl, .inr rfl⟩
        ·rename_i h3
         refine .inr ⟨_,rfl,⟨j+1,by rw [w64 (by omega) (by omega)]; rfl,by omega,fun i b hi hb=>?_⟩,by simp only; rw [w64 (by omega) (by omega)]; omega,fun _ h=>h⟩
         by_cases e:i=j
         ·subst e; rw [hu] at hb; cases hb; exact h3
         ·exact hJ i b (by omega) hb
       ·have:j=k:=by omega
        subst this
        exact .inl ⟨_,rfl, .inl ⟨rfl,hJ⟩⟩) (l,(k:Int),(0:Int)) ⟨0,rfl,Nat.zero_le _,fun i b hi=>by omega⟩
      rw [show loopO m_spec_rightAttrs_0_0 (l,(k:Int),(0:Int))=some z from hz,bind_some]
      rcases hq with ⟨rfl,hz2⟩ | rfl
      ·simp only [selim_l]
       rw [w64 (n:=(k:Int)+1) (by omega) (by omega)]
       refine .inr ⟨_,rfl,⟨k+1,rfl,by omega,fun i a hi ha=>?_⟩,by simp only; omega,fun _ h=>h⟩
       by_cases e:i=k
       ·subst e; rw [hv] at ha; cases ha; exact ⟨hr,hr',fun j b hj hb=>hz2 j b hj hb⟩
       ·exact hI i a (by omega) ha
      ·exact .inl ⟨_,rfl,(fun h=>by cases h),fun b h=>by cases h; rfl⟩
   ·have:k=l.length:=by omega
    subst this
    exact .inl ⟨_,rfl,(fun _=>⟨by omega,fun i a ha=>(hI i a (List.getElem?_eq_some_iff.1 ha).1 ha).1,fun i a ha=>(hI i a (List.getElem?_eq_some_iff.1 ha).1 ha).2.1,fun i j a b hj ha hb=>(hI i a (List.getElem?_eq_some_iff.1 ha).1 ha).2.2 j b hj hb⟩),fun b h=>by cases h⟩) (l,(0:Int)) ⟨0,rfl,Nat.zero_le _,fun i a hi=>by omega⟩
  rw [h,bind_some]
  rcases y with u | b
  ·exact ⟨_,rfl,fun _=>q1 rfl⟩
  ·obtain rfl:=q2 b rfl
   exact ⟨_,rfl,fun h=>by cases h⟩
theorem kidsF_mem {t:List Node} {lo hi c:Nat} (hL:Lam t lo hi):∀ {f k:Nat},lo≤k→c∈kidsF t f k hi→k≤c∧c<hi
 | 0,_,_,h=>by cases h
 | f+1,k,hk,h=>by
  simp only [kidsF] at h
  split at h
  ·rcases List.mem_cons.1 h with rfl | h
   ·exact ⟨Nat.le_refl _,by assumption⟩
   ·obtain ⟨u,_,_,h1,h2⟩:=hL.ok k hk (by assumption)
    have:=kidsF_mem hL (by omega) h
    omega
  ·cases h
theorem kids_mem {t:List Node} {lo hi a c:Nat} (hL:Lam t lo hi) (h1:lo≤a) (h2:a<hi) (h:c∈kidsN t a):a<c∧c<a+sz t a:=by
 have hs:=hL.sub h1 h2
 have:=kidsF_mem (lo:=a) hs (by omega) h
 omega
theorem kidsF_len {t:List Node}:∀ {f k hi:Nat},(kidsF t f k hi).length≤f
 | 0,_,_=>by simp [kidsF]
 | f+1,k,hi=>by
  simp only [kidsF]
  split
  ·simp only [List.length_cons]; have:=kidsF_len (t:=t) (f:=f) (k:=k+sz t k) (hi:=hi); omega
  ·simp
theorem rightRoot_ex (t:List Node) (ht:t.length≤1000000) (hL:Lam t 0 t.length) (h0:0<t.length):∃ b,m_spec_rightRoot t=some b:=by
 simp only [m_spec_rightRoot]
 rw [show m_spec_Kids (t,(0:Int))=_ from Kids_eq t ht (a:=0) hL (Nat.le_refl _) h0 (Nat.le_refl _),bind_some]
 have hlen:(kidsN t 0).length≤1000000:=by
  have:=kidsF_len (t:=t) (f:=sz t 0) (k:=0+1) (hi:=0+sz t 0)
  obtain ⟨v,_,_,_,h⟩:=hL.ok 0 (Nat.le_refl _) h0
  unfold kidsN; omega
 obtain ⟨y,h,_⟩:=loopO_rule (body:=m_spec_rightRoot_0) (fun x=>∃ (b:Bool) (k:Nat),x=(t,(kidsN t 0).map Int.ofNat,b,(k:Int))∧k≤(kidsN t 0).length) (fun _ _=>True) (fun x=>(((kidsN t 0).length:Int) - x.2.2.2).toNat) (fun x hx=>by
  obtain ⟨b,k,rfl,hk⟩:=hx
  simp only [m_spec_rightRoot_0,cond_dec,atI_nat,Int.toNat_natCast]
  split
  ·rename_i h1
   simp only [List.length_map] at h1
   obtain ⟨c,hc⟩:=get_lt (l:=kidsN t 0) (k:=k) (by omega)
   have hcm:=kids_mem hL (Nat.le_refl _) h0 (List.mem_of_getElem? hc)
   obtain ⟨v,hv,_,_,h5⟩:=hL.ok 0 (Nat.le_refl _) h0
   have hcl:c<t.length:=by omega
   obtain ⟨u,hu⟩:=get_lt (l:=t) (k:=c) hcl
   have e1:((kidsN t 0).map Int.ofNat)[k]?=some (c:Int):=by rw [List.getElem?_map,hc]; rfl
   have e2:atI t (c:Int)=some u:=by rw [atI_nat,hu]
   rw [e1]
   simp only [bind_some]
   rw [e2]
   simp only [bind_some]
   rw [w64 (n:=(k:Int)+1) (by omega) (by omega)]
   have nxt:∀ b':Bool,(∃ y,some (Stp.nx (B:=SumT (x_spec_rightRoot_0.map (·.2))) (t,(kidsN t 0).map Int.ofNat,b',(k:Int)+1))=some (.nx y)∧(∃ (b:Bool) (k:Nat),y=(t,(kidsN t 0).map Int.ofNat,b,(k:Int))∧k≤(kidsN t 0).length)∧(((kidsN t 0).length:Int) - y.2.2.2).toNat<(((kidsN t 0).length:Int) - (k:Int)).toNat∧∀ b:SumT (x_spec_rightRoot_0.map (·.2)),True→True):=fun b'=>⟨_,rfl,⟨b',k+1,rfl,by omega⟩,by simp only; omega,fun _ h=>h⟩
   cases b <;> simp only [cond_true,cond_false] <;> repeat' split
   all_goals first | exact .inl ⟨_,rfl,trivial⟩ | exact .inr (nxt _)
  ·exact .inl ⟨_,rfl,trivial⟩) (t,(kidsN t 0).map Int.ofNat,false,(0:Int)) ⟨false,0,rfl,Nat.zero_le _⟩
 rw [h,bind_some]
 cases y <;> exact some_ex _
structure RN (t:List Node) (i:Nat) (v:Node):Prop where
 kd:v.kind=1∨v.kind=2∨v.kind=3∨v.kind=4∨v.kind=5
 k1:v.kind=1→i=0
 k2:v.kind≠3→v.kind≠1→sz t i=1
 k3:v.kind=3→v.text=[]∧v.attrs.length≤20∧m_spec_Name v.tag=some true
 k4:v.kind≠3→v.tag=[]∧v.attrs=[]
 k5:v.kind=3→UA v.attrs
 k6:m_spec_Plain v.text=some true
 k7:v.kind=1→v.text=[]
def RNok (t:List Node) (i:Nat) (v:Node) (o:Option Bool):Prop:=∃ b,o=some b∧(b=true→RN t i v)
theorem RNok.no {t:List Node} {i:Nat} {v:Node}:RNok t i v (some false):=⟨_,rfl,fun h=>by cases h⟩
theorem nil_bytes:Array.toList (ByteArray.data { data:=#[] })=[]:=rfl
set_option maxHeartbeats 1000000 in
theorem rightNode_ex (t:List Node) (ht:t.length≤1000000) (hf:fits1 t=true) (hL:Lam t 0 t.length) {i:Nat} {v:Node} (hv:t[i]?=some v):RNok t i v (m_spec_rightNode (t,(i:Int))):=by
 have hi:=(List.getElem?_eq_some_iff.1 hv).1
 obtain ⟨f1,f2,f3⟩:=fits_node hf hv
 obtain ⟨p,hp⟩:=plain_ex v.text (by omega)
 obtain ⟨rr,hrr⟩:=rightRoot_ex t ht hL (by omega)
 obtain ⟨nt,hnt⟩:=name_ex v.text (by omega)
 obtain ⟨nn,hnn⟩:=name_ex v.tag (by omega)
 obtain ⟨ra,hra,hra'⟩:=rightAttrs_ex v.attrs f3
 have hpar:=Parent_eq t ht hL hi (Nat.le_refl _)
 obtain ⟨u,hu,hs,_,_⟩:=hL.ok i (Nat.zero_le _) hi
 have e:u=v:=by rw [hv] at hu; cases hu; rfl
 subst e
 simp only [m_spec_rightNode,cond_dec,atI_nat,hv,bind_some,hp,hrr,hnt,hnn,hra,hpar,nil_bytes]
 have tail:(u.kind≠3→u.tag=[]∧u.attrs=[])→RNok t i u (bif !p then some false else if u.kind=1 then if (i:Int)=0 then if u.text=[] then some rr else some false else some false else if u.kind=2 then if u.size=1 then bif nt then some (decide (parI t i=0)) else some false else some false else if u.kind=4 then some (decide (u.size=1)) else if u.kind=5 then some (decide (u.size=1)) else if u.kind=3 then if u.text=[] then bif nn then some ra else some false else some false else some false):=fun hk=>by
  rw [not_cond]
  refine ite_ok (P:=RNok t i u) (fun hpl=>?_) (fun _ => .no)
  have hp6:m_spec_Plain u.text=some true:=by rw [hp,hpl]
  refine ite_ok (P:=RNok t i u) (fun h1=>?_) (fun h1=>?_)
  ·refine ite_ok (P:=RNok t i u) (fun h2=>?_) (fun _ => .no)
   refine ite_ok (P:=RNok t i u) (fun h3=>?_) (fun _ => .no)
   exact ⟨_,rfl,fun _=>⟨.inl h1,fun _=>by omega,fun _ h=>absurd h1 h,fun h=>by omega,hk,fun h=>by omega,hp6,fun _=>h3⟩⟩
  refine ite_ok (P:=RNok t i u) (fun h2=>?_) (fun h2=>?_)
  ·refine ite_ok (P:=RNok t i u) (fun h3=>?_) (fun _ => .no)
   cases nt
   ·exact .no
   ·exact ⟨_,rfl,fun _=>⟨.inr (.inl h2),fun h=>absurd h h1,fun _ _=>by omega,fun h=>by omega,hk,fun h=>by omega,hp6,fun h=>absurd h h1⟩⟩
  refine ite_ok (P:=RNok t i u) (fun h4=>?_) (fun h4=>?_)
  ·exact ⟨_,rfl,fun hd=>⟨.inr (.inr (.inr (.inl h4))),fun h=>absurd h h1,fun _ _=>by have:=of_decide_eq_true hd; omega,fun h=>by omega,hk,fun h=>by omega,hp6,fun h=>absurd h h1⟩⟩
  refine ite_ok (P:=RNok t i u) (fun h5=>?_) (fun h5=>?_)
  ·exact ⟨_,rfl,fun hd=>⟨.inr (.inr (.inr (.inr h5))),fun h=>absurd h h1,fun _ _=>by have:=of_decide_eq_true hd; omega,fun h=>by omega,hk,fun h=>by omega,hp6,fun h=>absurd h h1⟩⟩
  refine ite_ok (P:=RNok t i u) (fun h3=>?_) (fun h3 => .no)
  refine ite_ok (P:=RNok t i u) (fun h6=>?_) (fun _ => .no)
  cases nn
  ·exact .no
  ·refine ⟨_,rfl,fun hd=>⟨.inr (.inr (.inl h3)),fun h=>absurd h h1,fun h=>absurd h3 h,fun _=>⟨h6,(hra' hd).len,hnn⟩,hk,fun _=>hra' hd,hp6,fun h=>absurd h h1⟩⟩
 refine ite_ok (P:=RNok t i u) (fun h3=>?_) (fun h3=>?_)
 ·refine ite_ok (P:=RNok t i u) (fun _ => .no) (fun h4=>?_)
  refine ite_ok (P:=RNok t i u) (fun _ => .no) (fun h5=>?_)
  refine tail fun _=>⟨by simpa using h4,List.eq_nil_of_length_eq_zero (by omega)⟩
 ·exact tail fun h=>absurd h h3
structure RT (t:List Node):Prop where
 pos:0<t.length
 len:t.length≤200
 root:sz t 0=t.length
 lam:Lam t 0 t.length
 k0:∃ v,t[0]?=some v∧v.kind=1
 node:∀ i v,t[i]?=some v→RN t i v
 txt:∀ (i:Nat) (v:Node),t[i]?=some v→v.text.length≤4000∧∀ (j:Nat) (a:Attr),v.attrs[j]?=some a→a.val.length≤4000
theorem Right_ex (t:List Node) (hf:fits1 t=true):∃ b,m_spec_Right t=some b∧(b=true→RT t):=by
 simp only [m_spec_Right,cond_dec,atI_zero]
 by_cases h0:(t.length:Int)=0
 ·rw [if_pos h0]; exact ⟨_,rfl,fun h=>by cases h⟩
 ·rw [if_neg h0]
  by_cases h200:(200:Int)<t.length
  ·rw [if_pos h200]; exact ⟨_,rfl,fun h=>by cases h⟩
  ·rw [if_neg h200]
   obtain ⟨v,hv⟩:=get_lt (l:=t) (k:=0) (by omega)
   rw [hv]
   simp only [bind_some]
   by_cases h1:v.size≠t.length
   ·rw [if_pos h1]; exact ⟨_,rfl,fun h=>by cases h⟩
   ·rw [if_neg h1]
    by_cases h2:v.kind≠1
    ·rw [if_pos h2]; exact ⟨_,rfl,fun h=>by cases h⟩
    ·rw [if_neg h2]
     obtain ⟨b,hb,hb'⟩:=sized_ok t (by omega) 40 big 0 t.length (by unfold big; omega) (by omega) (by omega) (Nat.le_refl _)
     rw [show m_spec_sized big (t,(0:Int),(t.length:Int),(40:Int))=some b from hb,bind_some,not_cond]
     cases b
     ·exact ⟨_,rfl,fun h=>by cases h⟩
     ·rw [if_pos rfl]
      obtain ⟨v',g1,g2,g3,g4,g5⟩:=hb' rfl
      rw [hv] at g1
      cases g1
      have hsz:sz t 0=t.length:=by omega
      rw [hsz,Nat.zero_add] at g5
      obtain ⟨y,hy,q1,q2⟩:=loopO_rule (body:=m_spec_Right_0) (fun x=>∃ (b:Int) (k:Nat),x=(t,b,(k:Int))∧k≤t.length∧0≤b∧b≤4000∧∀ j u,j<k→t[j]?=some u→RN t j u∧u.text.length≤4000∧∀ (j:Nat) (a:Attr),u.attrs[j]?=some a→a.val.length≤4000) (fun _ y=>(y = .inl ()→∀ j u,t[j]?=some u→RN t j u∧u.text.length≤4000∧∀ (j:Nat) (a:Attr),u.attrs[j]?=some a→a.val.length≤4000)∧∀ b,y = .inr b→b=false) (fun x=>((t.length:Int) - x.2.2).toNat) (fun x hx=>by
       obtain ⟨by_,k,rfl,hk,hb1,hb2,hrn⟩:=hx
       simp only [m_spec_Right_0,cond_dec,atI_nat]
       split
       ·rename_i h3
        obtain ⟨u,hu⟩:=get_lt (l:=t) (k:=k) (by omega)
        rw [hu,bind_some]
        have hb0:∃ b0:Int,IntKind.wrap .i64 (by_+if (4001:Int)<(u.text.length:Int) then (4001:Int) else (u.text.length:Int))=b0∧0≤b0∧b0≤8001∧(b0≤4000→u.text.length≤4000):=by
         split
         ·exact ⟨_,rfl,by rw [w64 (by omega) (by omega)]; omega,by rw [w64 (by omega) (by omega)]; omega,by rw [w64 (by omega) (by omega)]; omega⟩
         ·exact ⟨_,rfl,by rw [w64 (by omega) (by omega)]; omega,by rw [w64 (by omega) (by omega)]; omega,by rw [w64 (by omega) (by omega)]; omega⟩
        obtain ⟨b0,hb0,c1,c2,c3⟩:=hb0
        rw [hb0]
        obtain ⟨_,_,f3⟩:=fits_node hf hu
        have hal:u.attrs.length≤2147483647:=by simp only [fits3,Bool.and_eq_true,decide_eq_true_eq] at f3; exact f3.1
        obtain ⟨z,hz,⟨b1,hz1,d1,d2,d3⟩⟩:=loopO_rule (body:=m_spec_Right_0_0) (fun x=>∃ (b:Int) (j:Nat),x=(t,b,(k:Int),(j:Int))∧j≤u.attrs.length∧0≤b∧b≤8001∧(b≤4000→u.text.length≤4000∧∀ (i:Nat) (a:Attr),i<j→u.attrs[i]?=some a→a.val.length≤4000)) (fun _ y=>∃ b:Int,y=(t,b,(k:Int))∧0≤b∧b≤8001∧(b≤4000→u.text.length≤4000∧∀ (i:Nat) (a:Attr),u.attrs[i]?=some a→a.val.length≤4000)) (fun x=>((u.attrs.length:Int) - x.2.2.2).toNat) (fun x hx=>by
         obtain ⟨b2,j,rfl,hj,e1,e2,e3⟩:=hx
         simp only [m_spec_Right_0_0,cond_dec,atI_nat,hu,bind_some]
         split
         ·split
          ·rename_i h5 h6
           obtain ⟨a,ha⟩:=get_lt (l:=u.attrs) (k:=j) (by omega)
           rw [ha,bind_some,w64 (n:=(j:Int)+1) (by omega) (by omega)]
           have nx:∀ m:Int,0≤m→m≤4001→(m≤4000→a.val.length≤4000)→(b2+m≤4000→u.text.length≤4000∧∀ (i:Nat) (a:Attr),i<j+1→u.attrs[i]?=some a→a.val.length≤4000):=fun m m1 m2 m3 hm=>by
            obtain ⟨g1,g2⟩:=e3 (by omega)
            refine ⟨g1,fun i a' hi ha'=>?_⟩
            by_cases e:i=j
            ·subst e; rw [ha] at ha'; cases ha'; exact m3 (by omega)
            ·exact g2 i a' (by omega) ha'
           split
           ·rw [w64 (by omega) (by omega)]
            exact .inr ⟨_,rfl,⟨_,j+1,rfl,by omega,by omega,by omega,nx 4001 (by omega) (by omega) (by omega)⟩,by simp only; omega,fun _ h=>h⟩
           ·rw [w64 (by omega) (by omega)]
            exact .inr ⟨_,rfl,⟨_,j+1,rfl,by omega,by omega,by omega,nx _ (by omega) (by omega) (by omega)⟩,by simp only; omega,fun _ h=>h⟩
          ·exact .inl ⟨_,rfl,_,rfl,e1,e2,fun h=>by omega⟩
         ·have:j=u.attrs.length:=by omega
          subst this
          exact .inl ⟨_,rfl,_,rfl,e1,e2,fun h=>⟨(e3 h).1,fun i a ha=>(e3 h).2 i a (List.getElem?_eq_some_iff.1 ha).1 ha⟩⟩) (t,b0,(k:Int),(0:Int)) ⟨b0,0,rfl,Nat.zero_le _,c1,c2,fun h=>⟨c3 h,fun i a hi=>by omega⟩⟩
        rw [hz,bind_some,hz1]
        simp only
        split
        ·exact .inl ⟨_,rfl,(fun h=>by cases h),fun b h=>by cases h; rfl⟩
        ·rename_i h4
         obtain ⟨r,hr,hr'⟩:=rightNode_ex t (by omega) hf g5 hu
         rw [hr,bind_some,not_cond,w64 (n:=(k:Int)+1) (by omega) (by omega)]
         cases r
         ·exact .inl ⟨_,rfl,(fun h=>by cases h),fun b h=>by cases h; rfl⟩
         ·refine .inr ⟨_,rfl,⟨b1,k+1,rfl,by omega,by omega,by omega,fun j u' hj hu'=>?_⟩,by simp only; omega,fun _ h=>h⟩
          by_cases e:j=k
          ·subst e; rw [hu] at hu'; cases hu'; exact ⟨hr' rfl,d3 (by omega)⟩
          ·exact hrn j u' (by omega) hu'
       ·rename_i h3
        refine .inl ⟨_,rfl,(fun _ j u hu=>hrn j u ?_ hu),fun b h=>by cases h⟩
        have:=(List.getElem?_eq_some_iff.1 hu).1
        omega) (t,(0:Int),(0:Int)) ⟨0,0,rfl,Nat.zero_le _,by omega,by omega,fun j u hj=>by omega⟩
      rw [hy,bind_some]
      rcases y with w | b
      ·exact ⟨_,rfl,fun _=>⟨by omega,by omega,hsz,g5,⟨v,hv,by omega⟩,fun j u hu=>(q1 rfl j u hu).1,fun j u hu=>(q1 rfl j u hu).2⟩⟩
      ·obtain rfl:=q2 b rfl
       exact ⟨_,rfl,fun h=>by cases h⟩
end Go.Proofs.YtkmigbicabfodaaGreat.V
set_option linter.unusedVariables false
set_option linter.unusedSimpArgs false
namespace Go.Proofs.YtkmigbicabfodaaGreat.V
open Go
def kindN (t:List Node) (i:Nat):Int:=match t[i]? with
 | some v=>v.kind
 | none=>0
def elems (t:List Node) (a:Nat):List Nat:=(kidsN t a).filter fun c=>kindN t c == 3
end Go.Proofs.YtkmigbicabfodaaGreat.V
set_option linter.unusedVariables false
set_option linter.unusedSimpArgs false
namespace Go.Proofs.YtkmigbicabfodaaGreat.V
open Go Go.Proofs
abbrev p_impl_fits:Pt:=[(0, .lst .node),(1, .int .i64),(2, .int .i64)]
abbrev q_impl_fits:Pt:=[(0, .bool)]
abbrev p_impl_fits_0:Pt:=[(0, .lst .node),(1, .int .i64),(2, .int .i64)]
abbrev x_impl_fits_0:List (Xt×Pt):=[(.ex 0,[]),(.rt,[(6, .bool)])]
noncomputable def m_impl_fits_0 (m_impl_fits:Tup p_impl_fits→Option (Tup q_impl_fits)):Tup p_impl_fits_0→Option (Stp (Tup p_impl_fits_0) (SumT (x_impl_fits_0.map (·.2)))):=fun (x:List Node×Int×Int)=>bif decide (x.2.1<x.2.2) then Option.bind (atI x.1 x.2.1) fun (v:Node)=>bif decide (Node.size v<(1:Int)) then some (Stp.out (Sum.inr false)) else bif decide (IntKind.wrap .i64 (x.2.2 - x.2.1)<Node.size v) then some (Stp.out (Sum.inr false)) else bif decide (Node.kind v≤(1:Int)) then some (Stp.out (Sum.inr false)) else bif decide ((5:Int)<Node.kind v) then some (Stp.out (Sum.inr false)) else bif decide (Node.kind v≠(3:Int)) then bif decide ((1:Int)<Node.size v) then some (Stp.out (Sum.inr false)) else Option.bind (m_impl_fits (x.1,IntKind.wrap .i64 (x.2.1+(1:Int)),IntKind.wrap .i64 (x.2.1+Node.size v))) fun (r:Bool)=>bif !r then some (Stp.out (Sum.inr false)) else some (Stp.nx (x.1,IntKind.wrap .i64 (x.2.1+Node.size v),x.2.2)) else Option.bind (m_impl_fits (x.1,IntKind.wrap .i64 (x.2.1+(1:Int)),IntKind.wrap .i64 (x.2.1+Node.size v))) fun (r:Bool)=>bif !r then some (Stp.out (Sum.inr false)) else some (Stp.nx (x.1,IntKind.wrap .i64 (x.2.1+Node.size v),x.2.2)) else some (Stp.out (Sum.inl ()))
noncomputable def b_impl_fits (m_impl_fits:Tup p_impl_fits→Option (Tup q_impl_fits)):Tup p_impl_fits→Option (Tup q_impl_fits):=fun (x:List Node×Int×Int)=>Option.bind (loopO (m_impl_fits_0 m_impl_fits) (x.1,x.2.1,x.2.2)) fun (y:PUnit ⊕ Bool)=>selim (fun (y:PUnit)=>some true) (fun (y:Bool)=>some y) y
noncomputable def m_impl_fits:Nat→Tup p_impl_fits→Option (Tup q_impl_fits)
 | 0=>fun _=>none
 | n+1=>b_impl_fits (m_impl_fits n)
noncomputable def cx_impl_fits (n:Nat):Cx:=⟨tb,lookE [(94,⟨0,p_impl_fits,q_impl_fits,m_impl_fits n⟩)],lookS [],mth,ast⟩
theorem ck_impl_fits (n:Nat) (ih0:FnOK Tryz.prog 94 ⟨0,p_impl_fits,q_impl_fits,m_impl_fits n⟩):CxOK Tryz.prog (cx_impl_fits n):=cx_ok tb_ok if_ok (.cons ih0 Tryz.call94 .nil)
noncomputable def c_impl_fits_0:Code:=loopAt (Go.Proofs.Tryz.f94.body.getD .skip) 0
noncomputable def l_impl_fits_0 (n:Nat):LEnt:=⟨p_impl_fits_0,x_impl_fits_0,loopO (m_impl_fits_0 (m_impl_fits n))⟩
theorem lo_impl_fits_0 (n:Nat) (ih0:FnOK Tryz.prog 94 ⟨0,p_impl_fits,q_impl_fits,m_impl_fits n⟩):LOK Tryz.prog 61 0 false (l_impl_fits_0 n) c_impl_fits_0:=loop_ok (body:=m_impl_fits_0 (m_impl_fits n)) (L:=lookL []) (ck_impl_fits n ih0) mixed (ls_ok (l:=[]) (by kernel_rfl) .nil) (by intro x; kernel_rfl) (fun x y h=>loopO_iff.1 h)
theorem st_impl_fits (n:Nat) (ih0:FnOK Tryz.prog 94 ⟨0,p_impl_fits,q_impl_fits,m_impl_fits n⟩):FnOK Tryz.prog 94 ⟨0,p_impl_fits,q_impl_fits,m_impl_fits (n+1)⟩:=fn_ok (ent:=⟨0,p_impl_fits,q_impl_fits,m_impl_fits (n+1)⟩) (L:=lookL [(0,l_impl_fits_0 n)]) (ck_impl_fits n ih0) mixed Tryz.func94 rfl (by kernel_rfl) (by kernel_rfl) (ls_ok (l:=[(0,c_impl_fits_0)]) (by kernel_rfl) (.cons rfl (lo_impl_fits_0 n ih0) .nil)) (by intro x; kernel_rfl)
theorem ok0_impl_fits:∀ n,FnOK Tryz.prog 94 ⟨0,p_impl_fits,q_impl_fits,m_impl_fits n⟩
 | 0=>fun x r h=>by cases h
 | n+1=>(fun ih=>st_impl_fits n ih) (ok0_impl_fits n)
noncomputable def e_impl_fits:Ent:=⟨0,p_impl_fits,q_impl_fits,m_impl_fits big⟩
theorem ok_impl_fits:FnOK Tryz.prog 94 e_impl_fits:=(ok0_impl_fits big)
abbrev p_impl_right:Pt:=[(0, .lst .node)]
abbrev q_impl_right:Pt:=[(0, .bool)]
noncomputable def m_impl_right:Tup p_impl_right→Option (Tup q_impl_right):=fun (x:List Node)=>bif decide ((↑(List.length x):Int)=(0:Int)) then some false else Option.bind (atI x (0:Int)) fun (v:Node)=>bif decide (Node.size v≠(↑(List.length x):Int)) then some false else Option.bind (atI x (0:Int)) fun (v:Node)=>bif decide (Node.kind v=(1:Int)) then Option.bind (m_impl_fits big (x,(1:Int),(↑(List.length x):Int))) fun (r:Bool)=>some r else Option.bind (m_impl_fits big (x,(0:Int),(↑(List.length x):Int))) fun (r:Bool)=>some r
noncomputable def cx_impl_right:Cx:=⟨tb,lookE [(94,e_impl_fits)],lookS [],mth,ast⟩
theorem ck_impl_right:CxOK Tryz.prog (cx_impl_right):=cx_ok tb_ok if_ok (.cons ok_impl_fits Tryz.call94 .nil)
noncomputable def e_impl_right:Ent:=⟨0,p_impl_right,q_impl_right,m_impl_right⟩
theorem ok_impl_right:FnOK Tryz.prog 82 e_impl_right:=fn_ok (L:=lookL []) ck_impl_right mixed Tryz.func82 rfl (by kernel_rfl) (by kernel_rfl) (ls_ok (l:=[]) (by kernel_rfl) .nil) (by intro x; kernel_rfl)
abbrev p_impl_alone:Pt:=[(0, .el .node),(NT, .ns .h 82 135)]
abbrev q_impl_alone:Pt:=[(0, .np),(NT, .ns .h 82 135)]
abbrev p_impl_alone_0:Pt:=[(3, .np),(35, .lst .attr),(36, .int .i64),(37, .int .i64),(NT, .ns .h 82 135)]
abbrev x_impl_alone_0:List (Xt×Pt):=[(.ex 1,[(3, .np),(NT, .ns .h 82 135)])]
noncomputable def m_impl_alone_0:Tup p_impl_alone_0→Option (Stp (Tup p_impl_alone_0) (SumT (x_impl_alone_0.map (·.2)))):=fun (x:Option Nat×List Attr×Int×Int×List HN)=>bif decide (x.2.2.2.1<x.2.2.1) then Option.bind (atI x.2.1 x.2.2.2.1) fun (v:Attr)=>Option.bind x.1 fun (i:Nat)=>Option.bind (some i) fun (i:Nat)=>Option.bind x.2.2.2.2[i]? fun (h:HN)=>Option.bind x.2.2.2.2[i]? fun (h:HN)=>Option.bind (appL (HN.attrs h) [{ ns:=[],key:=Attr.key v,val:=Attr.val v }]) fun (r:List HAttr)=>Option.bind x.1 fun (i_1:Nat)=>Option.bind (some i_1) fun (i_2:Nat)=>Option.bind x.2.2.2.2[i_2]? fun (h:HN)=>bif decide (i=i_2) then some (Stp.nx (x.1,x.2.1,x.2.2.1,IntKind.wrap .i64 (x.2.2.2.1+(1:Int)),List.set x.2.2.2.2 i_2 (HN.wa h r))) else none else some (Stp.out (x.1,x.2.2.2.2))
noncomputable def m_impl_alone:Tup p_impl_alone→Option (Tup q_impl_alone):=fun (x:Node×List HN)=>bif decide (Node.kind x.1=(1:Int)) then some (some (List.length x.2),x.2++[{ par:=none,fst:=none,lst:=none,prv:=none,nxt:=none,ty:=(2:Int),atom:=(0:Int),data:=[],ns:=[],attrs:=[] }]) else bif decide (Node.kind x.1=(2:Int)) then some (some (List.length x.2),x.2++[{ par:=none,fst:=none,lst:=none,prv:=none,nxt:=none,ty:=(5:Int),atom:=(0:Int),data:=Node.text x.1,ns:=[],attrs:=[] }]) else bif decide (Node.kind x.1=(4:Int)) then some (some (List.length x.2),x.2++[{ par:=none,fst:=none,lst:=none,prv:=none,nxt:=none,ty:=(1:Int),atom:=(0:Int),data:=Node.text x.1,ns:=[],attrs:=[] }]) else bif decide (Node.kind x.1=(5:Int)) then some (some (List.length x.2),x.2++[{ par:=none,fst:=none,lst:=none,prv:=none,nxt:=none,ty:=(4:Int),atom:=(0:Int),data:=Node.text x.1,ns:=[],attrs:=[] }]) else Option.bind (loopO m_impl_alone_0 (some (List.length x.2),Node.attrs x.1,(↑(List.length (Node.attrs x.1)):Int),(0:Int),x.2++[{ par:=none,fst:=none,lst:=none,prv:=none,nxt:=none,ty:=(3:Int),atom:=(0:Int),data:=Node.tag x.1,ns:=[],attrs:=[] }])) fun (y:Option Nat×List HN)=>some (y.1,y.2)
noncomputable def cx_impl_alone:Cx:=⟨tb,lookE [],lookS [(14,[(true,0),(true,1),(true,2),(true,3),(true,4),(true,5),(true,6),(true,7),(true,8),(true,9),(false,10),(false,11),(true,12),(true,13),(false,14)])],mth,ast⟩
theorem ck_impl_alone:CxOK Tryz.prog (cx_impl_alone):=cx_ok tb_ok if_ok .nil
noncomputable def c_impl_alone_0:Code:=loopAt (Go.Proofs.Tryz.f95.body.getD .skip) 0
noncomputable def l_impl_alone_0:LEnt:=⟨p_impl_alone_0,x_impl_alone_0,loopO (m_impl_alone_0)⟩
theorem lo_impl_alone_0:LOK Tryz.prog 57 0 true (l_impl_alone_0) c_impl_alone_0:=loop_ok (body:=m_impl_alone_0) (L:=lookL []) (ck_impl_alone) mixed (ls_ok (l:=[]) (by kernel_rfl) .nil) (by intro x; kernel_rfl) (fun x y h=>loopO_iff.1 h)
noncomputable def e_impl_alone:Ent:=⟨0,p_impl_alone,q_impl_alone,m_impl_alone⟩
theorem ok_impl_alone:FnOK Tryz.prog 95 e_impl_alone:=fn_ok (L:=lookL [(1,l_impl_alone_0)]) ck_impl_alone mixed Tryz.func95 rfl (by kernel_rfl) (by kernel_rfl) (ls_ok (l:=[(1,c_impl_alone_0)]) (by kernel_rfl) (.cons rfl (lo_impl_alone_0) .nil)) (by intro x; kernel_rfl)
abbrev p_html_Node_AppendChild:Pt:=[(0, .np),(1, .np),(NT, .ns .h 82 135)]
abbrev q_html_Node_AppendChild:Pt:=[(NT, .ns .h 82 135)]
noncomputable def m_html_Node_AppendChild:Tup p_html_Node_AppendChild→Option (Tup q_html_Node_AppendChild):=fun (x:Option Nat×Option Nat×List HN)=>Option.bind x.2.1 fun (i:Nat)=>Option.bind (some i) fun (i:Nat)=>Option.bind x.2.2[i]? fun (h:HN)=>bif !Option.isNone (HN.par h) then none else Option.bind x.2.1 fun (i:Nat)=>Option.bind (some i) fun (i:Nat)=>Option.bind x.2.2[i]? fun (h:HN)=>bif !Option.isNone (HN.prv h) then none else Option.bind x.2.1 fun (i:Nat)=>Option.bind (some i) fun (i:Nat)=>Option.bind x.2.2[i]? fun (h:HN)=>bif !Option.isNone (HN.nxt h) then none else Option.bind x.1 fun (i:Nat)=>Option.bind (some i) fun (i:Nat)=>Option.bind x.2.2[i]? fun (h:HN)=>bif !Option.isNone (HN.lst h) then Option.bind (HN.lst h) fun (i:Nat)=>Option.bind (some i) fun (i:Nat)=>Option.bind x.2.2[i]? fun (h_1:HN)=>Option.bind x.1 fun (i_1:Nat)=>Option.bind (some i_1) fun (i_2:Nat)=>Option.bind (List.set x.2.2 i { h_1 with nxt:=x.2.1 })[i_2]? fun (h_2:HN)=>Option.bind x.2.1 fun (i_3:Nat)=>Option.bind (some i_3) fun (i_4:Nat)=>Option.bind (List.set (List.set x.2.2 i { h_1 with nxt:=x.2.1 }) i_2 { h_2 with lst:=x.2.1 })[i_4]? fun (h_3:HN)=>Option.bind x.2.1 fun (i_5:Nat)=>Option.bind (some i_5) fun (i_6:Nat)=>Option.bind (List.set (List.set (List.set x.2.2 i { h_1 with nxt:=x.2.1 }) i_2 { h_2 with lst:=x.2.1 }) i_4 { h_3 with par:=x.1 })[i_6]? fun (h_4:HN)=>some (List.set (List.set (List.set (List.set x.2.2 i { h_1 with nxt:=x.2.1 }) i_2 { h_2 with lst:=x.2.1 }) i_4 { h_3 with par:=x.1 }) i_6 { h_4 with prv:=HN.lst h }) else Option.bind x.1 fun (i:Nat)=>Option.bind (some i) fun (i:Nat)=>Option.bind x.2.2[i]? fun (h_1:HN)=>Option.bind x.1 fun (i_1:Nat)=>Option.bind (some i_1) fun (i_2:Nat)=>Option.bind (List.set x.2.2 i { h_1 with fst:=x.2.1 })[i_2]? fun (h_2:HN)=>Option.bind x.2.1 fun (i_3:Nat)=>Option.bind (some i_3) fun (i_4:Nat)=>Option.bind (List.set (List.set x.2.2 i { h_1 with fst:=x.2.1 }) i_2 { h_2 with lst:=x.2.1 })[i_4]? fun (h_3:HN)=>Option.bind x.2.1 fun (i_5:Nat)=>Option.bind (some i_5) fun (i_6:Nat)=>Option.bind (List.set (List.set (List.set x.2.2 i { h_1 with fst:=x.2.1 }) i_2 { h_2 with lst:=x.2.1 }) i_4 { h_3 with par:=x.1 })[i_6]? fun (h_4:HN)=>some (List.set (List.set (List.set (List.set x.2.2 i { h_1 with fst:=x.2.1 }) i_2 { h_2 with lst:=x.2.1 }) i_4 { h_3 with par:=x.1 }) i_6 { h_4 with prv:=HN.lst h })
noncomputable def cx_html_Node_AppendChild:Cx:=⟨tb,lookE [],lookS [],mth,ast⟩
theorem ck_html_Node_AppendChild:CxOK Tryz.prog (cx_html_Node_AppendChild):=cx_ok tb_ok if_ok .nil
noncomputable def e_html_Node_AppendChild:Ent:=⟨0,p_html_Node_AppendChild,q_html_Node_AppendChild,m_html_Node_AppendChild⟩
theorem ok_html_Node_AppendChild:FnOK Tryz.prog 62 e_html_Node_AppendChild:=fn_ok (L:=lookL []) ck_html_Node_AppendChild mixed Tryz.func62 rfl (by kernel_rfl) (by kernel_rfl) (ls_ok (l:=[]) (by kernel_rfl) .nil) (by intro x; kernel_rfl)
abbrev p_impl_grow:Pt:=[(0, .lst .node),(1, .int .i64),(2, .own .np 51),(NT, .ns .h 82 135)]
abbrev q_impl_grow:Pt:=[(1002, .own .np 51),(NT, .ns .h 82 135)]
abbrev p_impl_grow_0:Pt:=[(0, .lst .node),(1, .int .i64),(2, .own .np 51),(6, .int .i64),(NT, .ns .h 82 135)]
abbrev x_impl_grow_0:List (Xt×Pt):=[(.ex 0,[(2, .own .np 51),(NT, .ns .h 82 135)])]
noncomputable def m_impl_grow_0 (m_impl_grow:Tup p_impl_grow→Option (Tup q_impl_grow)):Tup p_impl_grow_0→Option (Stp (Tup p_impl_grow_0) (SumT (x_impl_grow_0.map (·.2)))):=fun (x:List Node×Int×List (Option Nat)×Int×List HN)=>Option.bind (atI x.1 x.2.1) fun (v:Node)=>bif decide (x.2.2.2.1<IntKind.wrap .i64 (x.2.1+Node.size v)) then Option.bind (m_impl_grow (x.1,x.2.2.2.1,x.2.2.1,x.2.2.2.2)) fun (r:List (Option Nat)×List HN)=>Option.bind (atI r.1 x.2.1) fun (x_1:Option Nat)=>Option.bind r.1[Int.toNat x.2.1]? fun (v:Option Nat)=>Option.bind (atI r.1 x.2.2.2.1) fun (x_2:Option Nat)=>Option.bind r.1[Int.toNat x.2.2.2.1]? fun (v_1:Option Nat)=>Option.bind (m_html_Node_AppendChild (v,v_1,r.2)) fun (r_1:List HN)=>Option.bind (atI x.1 x.2.2.2.1) fun (v:Node)=>some (Stp.nx (x.1,x.2.1,r.1,IntKind.wrap .i64 (x.2.2.2.1+Node.size v),r_1)) else some (Stp.out (x.2.2.1,x.2.2.2.2))
noncomputable def b_impl_grow (m_impl_grow:Tup p_impl_grow→Option (Tup q_impl_grow)):Tup p_impl_grow→Option (Tup q_impl_grow):=fun (x:List Node×Int×List (Option Nat)×List HN)=>Option.bind (atI x.1 x.2.1) fun (v:Node)=>Option.bind (m_impl_alone ({ kind:=Node.kind v,tag:=Node.tag v,text:=Node.text v,attrs:=Node.attrs v,size:=Node.size v },x.2.2.2)) fun (r:Option Nat×List HN)=>Option.bind (atI x.2.2.1 x.2.1) fun (x_1:Option Nat)=>Option.bind x.2.2.1[Int.toNat x.2.1]? fun (v:Option Nat)=>Option.bind (loopO (m_impl_grow_0 m_impl_grow) (x.1,x.2.1,List.set x.2.2.1 (Int.toNat x.2.1) r.1,IntKind.wrap .i64 (x.2.1+(1:Int)),r.2)) fun (y:List (Option Nat)×List HN)=>some (y.1,y.2)
noncomputable def m_impl_grow:Nat→Tup p_impl_grow→Option (Tup q_impl_grow)
 | 0=>fun _=>none
 | n+1=>b_impl_grow (m_impl_grow n)
noncomputable def cx_impl_grow (n:Nat):Cx:=⟨tb,lookE [(95,e_impl_alone),(83,⟨2003,p_impl_grow,q_impl_grow,m_impl_grow n⟩),(62,e_html_Node_AppendChild)],lookS [(5,[(true,0),(true,1),(true,2),(true,3),(true,4),(true,5),(true,6),(true,7),(false,8)])],mth,ast⟩
theorem ck_impl_grow (n:Nat) (ih0:FnOK Tryz.prog 83 ⟨2003,p_impl_grow,q_impl_grow,m_impl_grow n⟩):CxOK Tryz.prog (cx_impl_grow n):=cx_ok tb_ok if_ok (.cons ok_impl_alone Tryz.call95 (.cons ih0 Tryz.call83 (.cons ok_html_Node_AppendChild Tryz.call62 .nil)))
noncomputable def c_impl_grow_0:Code:=loopAt (Go.Proofs.Tryz.f83.body.getD .skip) 0
noncomputable def l_impl_grow_0 (n:Nat):LEnt:=⟨p_impl_grow_0,x_impl_grow_0,loopO (m_impl_grow_0 (m_impl_grow n))⟩
theorem lo_impl_grow_0 (n:Nat) (ih0:FnOK Tryz.prog 83 ⟨2003,p_impl_grow,q_impl_grow,m_impl_grow n⟩):LOK Tryz.prog 46 2003 true (l_impl_grow_0 n) c_impl_grow_0:=loop_ok (body:=m_impl_grow_0 (m_impl_grow n)) (L:=lookL []) (ck_impl_grow n ih0) mixed (ls_ok (l:=[]) (by kernel_rfl) .nil) (by intro x; kernel_rfl) (fun x y h=>loopO_iff.1 h)
theorem st_impl_grow (n:Nat) (ih0:FnOK Tryz.prog 83 ⟨2003,p_impl_grow,q_impl_grow,m_impl_grow n⟩):FnOK Tryz.prog 83 ⟨2003,p_impl_grow,q_impl_grow,m_impl_grow (n+1)⟩:=fn_ok (ent:=⟨2003,p_impl_grow,q_impl_grow,m_impl_grow (n+1)⟩) (L:=lookL [(0,l_impl_grow_0 n)]) (ck_impl_grow n ih0) mixed Tryz.func83 rfl (by kernel_rfl) (by kernel_rfl) (ls_ok (l:=[(0,c_impl_grow_0)]) (by kernel_rfl) (.cons rfl (lo_impl_grow_0 n ih0) .nil)) (by intro x; kernel_rfl)
theorem ok0_impl_grow:∀ n,FnOK Tryz.prog 83 ⟨2003,p_impl_grow,q_impl_grow,m_impl_grow n⟩
 | 0=>fun x r h=>by cases h
 | n+1=>(fun ih=>st_impl_grow n ih) (ok0_impl_grow n)
noncomputable def e_impl_grow:Ent:=⟨2003,p_impl_grow,q_impl_grow,m_impl_grow big⟩
theorem ok_impl_grow:FnOK Tryz.prog 83 e_impl_grow:=(ok0_impl_grow big)
abbrev p_impl_grown:Pt:=[(0, .lst .node),(NT, .ns .h 82 135)]
abbrev q_impl_grown:Pt:=[(0, .own .np 51),(1, .bool),(NT, .ns .h 82 135)]
noncomputable def m_impl_grown:Tup p_impl_grown→Option (Tup q_impl_grown):=fun (x:List Node×List HN)=>Option.bind (m_impl_right x.1) fun (r:Bool)=>bif !r then some ([],false,x.2) else bif decide ((↑(List.length x.1):Int)≤(↑(List.length x.1):Int)∧(0:Int)≤(↑(List.length x.1):Int)∧(↑(List.length x.1):Int)≤(1048576:Int)) then Option.bind (m_impl_grow big (x.1,(0:Int),List.replicate (Int.toNat (↑(List.length x.1):Int)) none,x.2)) fun (r:List (Option Nat)×List HN)=>some (r.1,true,r.2) else none
noncomputable def cx_impl_grown:Cx:=⟨tb,lookE [(82,e_impl_right),(83,e_impl_grow)],lookS [],mth,ast⟩
theorem ck_impl_grown:CxOK Tryz.prog (cx_impl_grown):=cx_ok tb_ok if_ok (.cons ok_impl_right Tryz.call82 (.cons ok_impl_grow Tryz.call83 .nil))
noncomputable def e_impl_grown:Ent:=⟨0,p_impl_grown,q_impl_grown,m_impl_grown⟩
theorem ok_impl_grown:FnOK Tryz.prog 49 e_impl_grown:=fn_ok (L:=lookL []) ck_impl_grown mixed Tryz.func49 rfl (by kernel_rfl) (by kernel_rfl) (ls_ok (l:=[]) (by kernel_rfl) .nil) (by intro x; kernel_rfl)
abbrev p_impl_these:Pt:=[(0, .lst .np),(1, .lst .int)]
abbrev q_impl_these:Pt:=[(0, .own .np 51),(1, .bool)]
abbrev p_impl_these_0:Pt:=[(0, .lst .np),(6, .own .np 51),(9, .lst .int),(10, .int .i64),(11, .int .i64)]
abbrev x_impl_these_0:List (Xt×Pt):=[(.ex 0,[(6, .own .np 51)]),(.rt,[(4, .own .np 51),(5, .bool)])]
noncomputable def m_impl_these_0:Tup p_impl_these_0→Option (Stp (Tup p_impl_these_0) (SumT (x_impl_these_0.map (·.2)))):=fun (x:List (Option Nat)×List (Option Nat)×List Int×Int×Int)=>bif decide (x.2.2.2.2<x.2.2.2.1) then Option.bind (atI x.2.2.1 x.2.2.2.2) fun (v:Int)=>bif decide (v<(0:Int)) then some (Stp.out (Sum.inr ([],false))) else bif decide ((↑(List.length x.1):Int)≤v) then some (Stp.out (Sum.inr ([],false))) else Option.bind (atI x.1 v) fun (v:Option Nat)=>Option.bind (appL x.2.1 [v]) fun (r:List (Option Nat))=>some (Stp.nx (x.1,r,x.2.2.1,x.2.2.2.1,IntKind.wrap .i64 (x.2.2.2.2+(1:Int)))) else some (Stp.out (Sum.inl x.2.1))
noncomputable def m_impl_these:Tup p_impl_these→Option (Tup q_impl_these):=fun (x:List (Option Nat)×List Int)=>Option.bind (loopO m_impl_these_0 (x.1,[],x.2,(↑(List.length x.2):Int),(0:Int))) fun (y:List (Option Nat) ⊕ List (Option Nat)×Bool)=>selim (fun (y:List (Option Nat))=>some (y,true)) (fun (y:List (Option Nat)×Bool)=>some (y.1,y.2)) y
noncomputable def cx_impl_these:Cx:=⟨tb,lookE [],lookS [],mth,ast⟩
theorem ck_impl_these:CxOK Tryz.prog (cx_impl_these):=cx_ok tb_ok if_ok .nil
noncomputable def c_impl_these_0:Code:=loopAt (Go.Proofs.Tryz.f27.body.getD .skip) 0
noncomputable def l_impl_these_0:LEnt:=⟨p_impl_these_0,x_impl_these_0,loopO (m_impl_these_0)⟩
theorem lo_impl_these_0:LOK Tryz.prog 32 0 false (l_impl_these_0) c_impl_these_0:=loop_ok (body:=m_impl_these_0) (L:=lookL []) (ck_impl_these) mixed (ls_ok (l:=[]) (by kernel_rfl) .nil) (by intro x; kernel_rfl) (fun x y h=>loopO_iff.1 h)
noncomputable def e_impl_these:Ent:=⟨0,p_impl_these,q_impl_these,m_impl_these⟩
theorem ok_impl_these:FnOK Tryz.prog 27 e_impl_these:=fn_ok (L:=lookL [(0,l_impl_these_0)]) ck_impl_these mixed Tryz.func27 rfl (by kernel_rfl) (by kernel_rfl) (ls_ok (l:=[(0,c_impl_these_0)]) (by kernel_rfl) (.cons rfl (lo_impl_these_0) .nil)) (by intro x; kernel_rfl)
abbrev p_impl_placeOf:Pt:=[(0, .lst .np),(1, .np)]
abbrev q_impl_placeOf:Pt:=[(0, .int .i64)]
abbrev p_impl_placeOf_0:Pt:=[(0, .lst .np),(1, .np),(7, .int .i64),(8, .int .i64)]
abbrev x_impl_placeOf_0:List (Xt×Pt):=[(.ex 0,[]),(.rt,[(4, .int .i64)])]
noncomputable def m_impl_placeOf_0:Tup p_impl_placeOf_0→Option (Stp (Tup p_impl_placeOf_0) (SumT (x_impl_placeOf_0.map (·.2)))):=fun (x:List (Option Nat)×Option Nat×Int×Int)=>bif decide (x.2.2.2<x.2.2.1) then Option.bind (atI x.1 x.2.2.2) fun (v:Option Nat)=>bif decide (v=x.2.1) then some (Stp.out (Sum.inr x.2.2.2)) else some (Stp.nx (x.1,x.2.1,x.2.2.1,IntKind.wrap .i64 (x.2.2.2+(1:Int)))) else some (Stp.out (Sum.inl ()))
noncomputable def m_impl_placeOf:Tup p_impl_placeOf→Option (Tup q_impl_placeOf):=fun (x:List (Option Nat)×Option Nat)=>Option.bind (loopO m_impl_placeOf_0 (x.1,x.2,(↑(List.length x.1):Int),(0:Int))) fun (y:PUnit ⊕ Int)=>selim (fun (y:PUnit)=>some (-1:Int)) (fun (y:Int)=>some y) y
noncomputable def cx_impl_placeOf:Cx:=⟨tb,lookE [],lookS [],mth,ast⟩
theorem ck_impl_placeOf:CxOK Tryz.prog (cx_impl_placeOf):=cx_ok tb_ok if_ok .nil
noncomputable def c_impl_placeOf_0:Code:=loopAt (Go.Proofs.Tryz.f60.body.getD .skip) 0
noncomputable def l_impl_placeOf_0:LEnt:=⟨p_impl_placeOf_0,x_impl_placeOf_0,loopO (m_impl_placeOf_0)⟩
theorem lo_impl_placeOf_0:LOK Tryz.prog 19 0 false (l_impl_placeOf_0) c_impl_placeOf_0:=loop_ok (body:=m_impl_placeOf_0) (L:=lookL []) (ck_impl_placeOf) mixed (ls_ok (l:=[]) (by kernel_rfl) .nil) (by intro x; kernel_rfl) (fun x y h=>loopO_iff.1 h)
noncomputable def e_impl_placeOf:Ent:=⟨0,p_impl_placeOf,q_impl_placeOf,m_impl_placeOf⟩
theorem ok_impl_placeOf:FnOK Tryz.prog 60 e_impl_placeOf:=fn_ok (L:=lookL [(0,l_impl_placeOf_0)]) ck_impl_placeOf mixed Tryz.func60 rfl (by kernel_rfl) (by kernel_rfl) (ls_ok (l:=[(0,c_impl_placeOf_0)]) (by kernel_rfl) (.cons rfl (lo_impl_placeOf_0) .nil)) (by intro x; kernel_rfl)
abbrev p_impl_placesOf:Pt:=[(0, .lst .np),(1, .lst .np)]
abbrev q_impl_placesOf:Pt:=[(0, .own .int 3)]
abbrev p_impl_placesOf_0:Pt:=[(0, .lst .np),(5, .own .int 3),(8, .lst .np),(9, .int .i64),(10, .int .i64)]
abbrev x_impl_placesOf_0:List (Xt×Pt):=[(.ex 0,[(5, .own .int 3)])]
noncomputable def m_impl_placesOf_0:Tup p_impl_placesOf_0→Option (Stp (Tup p_impl_placesOf_0) (SumT (x_impl_placesOf_0.map (·.2)))):=fun (x:List (Option Nat)×List Int×List (Option Nat)×Int×Int)=>bif decide (x.2.2.2.2<x.2.2.2.1) then Option.bind (atI x.2.2.1 x.2.2.2.2) fun (v:Option Nat)=>Option.bind (m_impl_placeOf (x.1,v)) fun (r:Int)=>Option.bind (appL x.2.1 [r]) fun (r:List Int)=>some (Stp.nx (x.1,r,x.2.2.1,x.2.2.2.1,IntKind.wrap .i64 (x.2.2.2.2+(1:Int)))) else some (Stp.out x.2.1)
noncomputable def m_impl_placesOf:Tup p_impl_placesOf→Option (Tup q_impl_placesOf):=fun (x:List (Option Nat)×List (Option Nat))=>Option.bind (loopO m_impl_placesOf_0 (x.1,[],x.2,(↑(List.length x.2):Int),(0:Int))) fun (y:List Int)=>some y
noncomputable def cx_impl_placesOf:Cx:=⟨tb,lookE [(60,e_impl_placeOf)],lookS [],mth,ast⟩
theorem ck_impl_placesOf:CxOK Tryz.prog (cx_impl_placesOf):=cx_ok tb_ok if_ok (.cons ok_impl_placeOf Tryz.call60 .nil)
noncomputable def c_impl_placesOf_0:Code:=loopAt (Go.Proofs.Tryz.f31.body.getD .skip) 0
noncomputable def l_impl_placesOf_0:LEnt:=⟨p_impl_placesOf_0,x_impl_placesOf_0,loopO (m_impl_placesOf_0)⟩
theorem lo_impl_placesOf_0:LOK Tryz.prog 22 0 false (l_impl_placesOf_0) c_impl_placesOf_0:=loop_ok (body:=m_impl_placesOf_0) (L:=lookL []) (ck_impl_placesOf) mixed (ls_ok (l:=[]) (by kernel_rfl) .nil) (by intro x; kernel_rfl) (fun x y h=>loopO_iff.1 h)
noncomputable def e_impl_placesOf:Ent:=⟨0,p_impl_placesOf,q_impl_placesOf,m_impl_placesOf⟩
theorem ok_impl_placesOf:FnOK Tryz.prog 31 e_impl_placesOf:=fn_ok (L:=lookL [(0,l_impl_placesOf_0)]) ck_impl_placesOf mixed Tryz.func31 rfl (by kernel_rfl) (by kernel_rfl) (ls_ok (l:=[(0,c_impl_placesOf_0)]) (by kernel_rfl) (.cons rfl (lo_impl_placesOf_0) .nil)) (by intro x; kernel_rfl)
end Go.Proofs.YtkmigbicabfodaaGreat.V
set_option linter.unusedVariables false
set_option linter.unusedSimpArgs false
namespace Go.Proofs.YtkmigbicabfodaaGreat.V
open Go
def hattr (a:Attr):HAttr:=⟨[],a.key,a.val⟩
def base (v:Node):HN :=
 if v.kind=1 then ⟨none,none,none,none,none,2,0,[],[],[]⟩
 else if v.kind=2 then ⟨none,none,none,none,none,5,0,v.text,[],[]⟩
 else if v.kind=4 then ⟨none,none,none,none,none,1,0,v.text,[],[]⟩
 else if v.kind=5 then ⟨none,none,none,none,none,4,0,v.text,[],[]⟩
 else ⟨none,none,none,none,none,3,0,v.tag,[],v.attrs.map hattr⟩
theorem alone_eq (v:Node) (hs:List HN) (ha:v.attrs.length≤2147483647):m_impl_alone (v,hs)=some (some hs.length,hs++[base v]):=by
 simp only [m_impl_alone,cond_dec,base]
 split
 ·rfl
 split
 ·rfl
 split
 ·rfl
 split
 ·rfl
 have key:∀ m k,v.attrs.length - k=m→k≤v.attrs.length→loopO m_impl_alone_0 (some hs.length,v.attrs,(v.attrs.length:Int),(k:Int),hs++[⟨none,none,none,none,none,3,0,v.tag,[],(v.attrs.take k).map hattr⟩])=some (some hs.length,hs++[⟨none,none,none,none,none,3,0,v.tag,[],v.attrs.map hattr⟩]):=by
  intro m
  induction m with
  | zero =>
   intro k hm hk
   refine loopO_out ?_
   simp only [m_impl_alone_0,cond_dec]
   rw [if_neg (by omega),List.take_of_length_le (by omega)]
  | succ m ih =>
   intro k hm hk
   obtain ⟨a,hA⟩:=get_lt (l:=v.attrs) (k:=k) (by omega)
   have hg:∀ e:HN,(hs++[e])[hs.length]?=some e:=fun e=>by simp
   have step:m_impl_alone_0 (some hs.length,v.attrs,(v.attrs.length:Int),(k:Int),hs++[⟨none,none,none,none,none,3,0,v.tag,[],(v.attrs.take k).map hattr⟩])=some (.nx (some hs.length,v.attrs,(v.attrs.length:Int),((k+1:Nat):Int),hs++[⟨none,none,none,none,none,3,0,v.tag,[],(v.attrs.take (k+1)).map hattr⟩])):=by
    simp only [m_impl_alone_0,cond_dec,atI_nat]
    rw [if_pos (by omega),hA]
    simp only [bind_some,hg]
    rw [appL_some (by simp; omega)]
    simp only [bind_some,hg,if_true]
    rw [w64 (by omega) (by omega),List.set_append_right _ _ (Nat.le_refl _)]
    have e2:v.attrs.take (k+1)=v.attrs.take k++[a]:=by rw [List.take_add_one,hA]; rfl
    rw [e2]
    simp [hattr,HN.wa]
   rw [loopO_nx step]
   exact ih (k+1) (by omega) (by omega)
 have h:=key v.attrs.length 0 (by omega) (Nat.zero_le _)
 have h':loopO m_impl_alone_0 (some hs.length,v.attrs,(v.attrs.length:Int),(0:Int),hs++[⟨none,none,none,none,none,3,0,v.tag,[],[]⟩])=_:=h
 rw [h',bind_some]
theorem append_none {S:List HN} {p c:Nat} {hp hc:HN} (hne:p≠c) (h1:S[p]?=some hp) (h2:S[c]?=some hc) (g1:hc.par=none) (g2:hc.prv=none) (g3:hc.nxt=none) (g4:hp.lst=none) :
  m_html_Node_AppendChild (some p,some c,S)=some ((S.set p { hp with fst:=some c,lst:=some c }).set c { hc with par:=some p,prv:=none }):=by
 obtain ⟨hlp,e1⟩:=List.getElem?_eq_some_iff.1 h1
 obtain ⟨hlc,e2⟩:=List.getElem?_eq_some_iff.1 h2
 simp only [m_html_Node_AppendChild,bind_some,h1,h2,g1,g2,g3,g4,Option.isNone_none,Bool.not_true,cond_false]
 simp [List.getElem?_set,hlp,hlc,hne,hne.symm,h2,List.set_set,g4,e1,e2,g1,g2,g3]
theorem append_some {S:List HN} {p c l:Nat} {hp hc hl:HN} (hne:p≠c) (hlp':l≠p) (hlc':l≠c) (h1:S[p]?=some hp) (h2:S[c]?=some hc) (h3:S[l]?=some hl) (g1:hc.par=none) (g2:hc.prv=none) (g3:hc.nxt=none) (g4:hp.lst=some l) :
  m_html_Node_AppendChild (some p,some c,S)=some (((S.set l { hl with nxt:=some c }).set p { hp with lst:=some c }).set c { hc with par:=some p,prv:=some l }):=by
 obtain ⟨hlp,e1⟩:=List.getElem?_eq_some_iff.1 h1
 obtain ⟨hlc,e2⟩:=List.getElem?_eq_some_iff.1 h2
 obtain ⟨hll,e3⟩:=List.getElem?_eq_some_iff.1 h3
 simp only [m_html_Node_AppendChild,bind_some,h1,h2,g1,g2,g3,g4,Option.isNone_none,Bool.not_true,cond_false,Option.isNone_some,Bool.not_false,cond_true,h3]
 simp [List.getElem?_set,hlp,hlc,hll,hne,hne.symm,hlp',hlp'.symm,hlc',hlc'.symm,h1,h2,h3,List.set_set,g4,e1,e2,e3,g1,g2,g3]
def lastF (t:List Node) (p:Nat):Nat→Option Nat
 | 0=>none
 | e+1=>if par t e=some p then some e else lastF t p e
theorem lastF_some {t:List Node} {p c:Nat}:∀ {e:Nat},lastF t p e=some c→c<e∧par t c=some p∧∀ c',c<c'→c'<e→par t c'≠some p
 | 0,h=>by cases h
 | e+1,h=>by
  simp only [lastF] at h
  split at h
  ·cases h
   exact ⟨by omega,by assumption,fun c' h1 h2=>by omega⟩
  ·rename_i hn
   obtain ⟨h1,h2,h3⟩:=lastF_some h
   refine ⟨by omega,h2,fun c' g1 g2=>?_⟩
   by_cases e':c'=e
   ·subst e'; exact hn
   ·exact h3 c' g1 (by omega)
theorem lastF_none {t:List Node} {p:Nat}:∀ {e:Nat},lastF t p e=none→∀ c,c<e→par t c≠some p
 | 0,_,c,hc=>by omega
 | e+1,h,c,hc=>by
  simp only [lastF] at h
  split at h
  ·cases h
  ·rename_i hn
   by_cases e':c=e
   ·subst e'; exact hn
   ·exact lastF_none h c (by omega)
theorem lastF_skip {t:List Node} {p e:Nat}:∀ {e':Nat},e≤e'→(∀ c,e≤c→c<e'→par t c≠some p)→lastF t p e'=lastF t p e
 | 0,h,_=>by
  have:e=0:=by omega
  subst this; rfl
 | e'+1,h,hc=>by
  by_cases h2:e=e'+1
  ·subst h2; rfl
  ·simp only [lastF]
   rw [if_neg (hc e' (by omega) (by omega))]
   exact lastF_skip (by omega) fun c g1 g2=>hc c g1 (by omega)
theorem lastF_mk {t:List Node} {p c:Nat} {e:Nat} (h1:c<e) (h2:par t c=some p) (h3:∀ c',c<c'→c'<e→par t c'≠some p):lastF t p e=some c:=by
 rw [lastF_skip (e:=c+1) (by omega) fun c' g1 g2=>h3 c' (by omega) g2]
 simp [lastF,h2]
def nxtF (t:List Node) (i e:Nat):Option Nat:=match par t i with
 | some p=>if i+sz t i<e∧i+sz t i<p+sz t p then some (i+sz t i) else none
 | none=>none
def prvF (t:List Node) (i:Nat):Option Nat:=match par t i with
 | some p=>lastF t p i
 | none=>none
def bs0 (t:List Node) (i:Nat):HN:=match t[i]? with
 | some v=>base v
 | none=>base ⟨0,[],[],[],0⟩
def rc (t:List Node) (a e i:Nat):HN :=
 ⟨if i=a then none else par t i,if i+1<e∧1<sz t i then some (i+1) else none,lastF t i e,if i=a then none else prvF t i,if i=a then none else nxtF t i e,(bs0 t i).ty,(bs0 t i).atom,(bs0 t i).data,(bs0 t i).ns,(bs0 t i).attrs⟩
def fillL (l:List (Option Nat)) (a e:Nat):List (Option Nat):=l.mapIdx fun i x=>if a≤i∧i<e then some i else x
theorem fillL_get {l:List (Option Nat)} {a e i:Nat}:(fillL l a e)[i]?=(l[i]?).map fun x=>if a≤i∧i<e then some i else x:=by simp [fillL,List.getElem?_mapIdx]
theorem fillL_len {l:List (Option Nat)} {a e:Nat}:(fillL l a e).length=l.length:=by simp [fillL]
def stp (t:List Node) (a e:Nat):List HN:=(List.range' a (e - a)).map (rc t a e)
theorem stp_len {t:List Node} {a e:Nat}:(stp t a e).length=e - a:=by simp [stp]
theorem stp_get {t:List Node} {a e i:Nat} (h:i<e - a):(stp t a e)[i]?=some (rc t a e (a+i)):=by
 unfold stp
 rw [List.getElem?_map,List.getElem?_range' h]
 simp
theorem app_get {hs:List HN} {t:List Node} {a e i:Nat} (hl:hs.length=a) (h1:a≤i) (h2:i<e):(hs++stp t a e)[i]?=some (rc t a e i):=by
 rw [List.getElem?_append_right (by omega),stp_get (by omega)]
 congr 2
 omega
section
variable {t:List Node} {a k l i:Nat}
def Ch (t:List Node) (a k:Nat):Prop:=∀ q,a<q→q<k→q+sz t q≤k
theorem Ch.par (h:Ch t a k) (h1:a<k) (h2:k<a+sz t a):par t k=some a:=par_mk h1 h2 fun q g1 g2=>by have:=h q g1 g2; omega
theorem Ch.of_par (h:V.par t k=some a):Ch t a k:=fun q g1 g2=>by have:=(par_some h).2.2 q g1 g2; omega
theorem Ch.next (hL:Lam t a (a+sz t a)) (h:Ch t a k) (h1:a<k) (h2:k<a+sz t a):Ch t a (k+sz t k):=fun q g1 g2=>by
 obtain ⟨v,_,_,hk,_⟩:=hL.ok k (by omega) h2
 by_cases e:q<k
 ·have:=h q g1 e; omega
 ·by_cases e2:q=k
  ·subst e2; omega
  ·exact hL.nest k q (by omega) h2 (by omega) g2
theorem par_in (hL:Lam t a (a+sz t a)) (h1:a<i) (h2:i<a+sz t a):∃ p,par t i=some p∧a≤p∧p<i:=by
 cases h:par t i with
 | none=>have:=parF_none h a h1; omega
 | some p =>
  obtain ⟨g1,g2,g3⟩:=par_some h
  refine ⟨p,rfl,?_,g1⟩
  rcases Nat.lt_or_ge p a with h4 | h4
  ·exact absurd (by omega) (g3 a h4 h1)
  ·exact h4
theorem last_end (hL:Lam t a (a+sz t a)) (h:Ch t a k) (h2:k≤a+sz t a) (hl:lastF t a k=some l):a<l∧l<k∧l+sz t l=k:=by
 obtain ⟨g1,g2,g3⟩:=lastF_some hl
 obtain ⟨g4,g5,_⟩:=par_some g2
 refine ⟨g4,g1,?_⟩
 have h3:=h l g4 g1
 rcases Nat.lt_or_ge (l+sz t l) k with h4 | h4
 ·obtain ⟨v,_,_,hk,_⟩:=hL.ok l (by omega) g5
  have hc:=(Ch.of_par g2).next hL g4 g5
  exact absurd (hc.par (by omega) (by omega)) (g3 _ (by omega) h4)
 ·omega
theorem last_none (hL:Lam t a (a+sz t a)) (h1:a<k) (h2:k≤a+sz t a) (hl:lastF t a k=none):k=a+1:=by
 rcases Nat.lt_or_ge (a+1) k with h4 | h4
 ·have hc:Ch t a (a+1):=fun q g1 g2=>by omega
  exact absurd (hc.par (by omega) (by omega)) (lastF_none hl _ h4)
 ·omega
theorem rc_in (hL:Lam t a (a+sz t a)) (hC:Ch t a k) (h1:a<k) (h2:k<a+sz t a) (hi:a<i) (hik:i<k) (hl:lastF t a k≠some i):rc t a (k+sz t k) i=rc t a k i:=by
 have hi2:=hC i hi hik
 obtain ⟨v,_,_,hk,_⟩:=hL.ok k (by omega) h2
 unfold rc
 have e1:lastF t i (k+sz t k)=lastF t i k:=lastF_skip (by omega) fun c g1 g2 e=>by
  have:=(par_some e).2.1; omega
 have e2:(i+1<k+sz t k∧1<sz t i)=(i+1<k∧1<sz t i):=by
  apply propext
  constructor
  ·rintro ⟨_,g⟩; exact ⟨by omega,g⟩
  ·rintro ⟨g0,g⟩; exact ⟨by omega,g⟩
 have e3:nxtF t i (k+sz t k)=nxtF t i k:=by
  unfold nxtF
  obtain ⟨p,hp,hp1,hp2⟩:=par_in hL hi (by omega)
  rw [hp]
  simp only
  have:(i+sz t i<k+sz t k∧i+sz t i<p+sz t p)=(i+sz t i<k∧i+sz t i<p+sz t p):=by
   apply propext
   constructor
   ·rintro ⟨_,g⟩
    refine ⟨?_,g⟩
    rcases Nat.lt_or_ge (i+sz t i) k with h4 | h4
    ·exact h4
    ·exfalso
     have hik2:i+sz t i=k:=by omega
     have hpa:p=a:=by
      rcases Nat.lt_or_ge a p with h5 | h5
      ·have:=hC p h5 (by omega); omega
      ·omega
     subst hpa
     refine hl (lastF_mk hik hp fun c' g1 g2 e=>?_)
     exact (par_some e).2.2 i (by omega) g1 (by omega)
   ·rintro ⟨g0,g⟩; exact ⟨by omega,g⟩
  simp only [this]
 rw [e1,e3]
 simp only [e2]
end
theorem link_eq {t:List Node} {a k:Nat} {hs:List HN} (hhs:hs.length=a) (hL:Lam t a (a+sz t a)) (hC:Ch t a k) (h1:a<k) (h2:k<a+sz t a) :
  m_html_Node_AppendChild (some a,some k,(hs++stp t a k)++stp t k (k+sz t k))=some (hs++stp t a (k+sz t k)):=by
 obtain ⟨v,hv,hvs,hk1,hk2⟩:=hL.ok k (by omega) h2
 have hkl:(hs++stp t a k).length=k:=by rw [List.length_append,stp_len]; omega
 have gk:∀ i,k≤i→i<k+sz t k→((hs++stp t a k)++stp t k (k+sz t k))[i]?=some (rc t k (k+sz t k) i):=fun i g1 g2=>app_get hkl g1 g2
 have ga:∀ i,a≤i→i<k→((hs++stp t a k)++stp t k (k+sz t k))[i]?=some (rc t a k i):=fun i g1 g2=>by
  rw [List.getElem?_append_left (by omega)]; exact app_get hhs g1 g2
 have gh:∀ i,i<a→((hs++stp t a k)++stp t k (k+sz t k))[i]?=hs[i]?:=fun i g=>by
  rw [List.getElem?_append_left (by omega),List.getElem?_append_left (by omega)]
 have go:∀ i,k+sz t k≤i→((hs++stp t a k)++stp t k (k+sz t k))[i]?=none:=fun i g=>List.getElem?_eq_none (by rw [List.length_append,hkl,stp_len]; omega)
 have gh':∀ i,i<a→(hs++stp t a (k+sz t k))[i]?=hs[i]?:=fun i g=>List.getElem?_append_left (by omega)
 have go':∀ i,k+sz t k≤i→(hs++stp t a (k+sz t k))[i]?=none:=fun i g=>List.getElem?_eq_none (by rw [List.length_append,stp_len]; omega)
 have hpk:=hC.par h1 h2
 have hc1:(rc t k (k+sz t k) k).par=none:=by simp [rc]
 have hc2:(rc t k (k+sz t k) k).prv=none:=by simp [rc]
 have hc3:(rc t k (k+sz t k) k).nxt=none:=by simp [rc]
 have hnk:nxtF t k (k+sz t k)=none:=by unfold nxtF; rw [hpk]; simp
 have hla:lastF t a (k+sz t k)=some k:=lastF_mk (by omega) hpk fun c g1 g2 e=>(par_some e).2.2 k h1 g1 (by omega)
 have hnew:∀ i,k<i→i<k+sz t k→rc t k (k+sz t k) i=rc t a (k+sz t k) i:=fun i g1 g2=>by
  unfold rc
  simp only [if_neg (show ¬ i=k by omega),if_neg (show ¬ i=a by omega)]
 generalize hS:(hs++stp t a k)++stp t k (k+sz t k)=S at *
 have hlen:S.length=k+sz t k:=by rw [← hS,List.length_append,hkl,stp_len]; omega
 cases hl:lastF t a k with
 | none =>
  obtain rfl:=last_none hL h1 (by omega) hl
  rw [append_none (by omega) (ga a (Nat.le_refl _) (by omega)) (gk (a+1) (Nat.le_refl _) (by omega)) hc1 hc2 hc3 (by simp [rc,hl])]
  congr 1
  apply List.ext_getElem?
  intro i
  rw [List.getElem?_set,List.getElem?_set]
  simp only [List.length_set,hlen]
  by_cases e1:a+1=i
  ·subst e1
   rw [if_pos rfl,if_pos (by omega),app_get hhs (by omega) (by omega)]
   congr 1
   unfold rc
   simp only [hpk,prvF,hl,hnk]
   simp
  ·rw [if_neg e1]
   by_cases e2:a=i
   ·subst e2
    rw [if_pos rfl,if_pos (by omega),app_get hhs (by omega) (by omega)]
    congr 1
    unfold rc
    rw [hla]
    have:1<sz t a:=by omega
    simp [this]
    omega
   ·rw [if_neg e2]
    rcases Nat.lt_or_ge i a with g | g
    ·rw [gh i g,gh' i g]
    ·rcases Nat.lt_or_ge i (a+1+sz t (a+1)) with g2 | g2
     ·rw [gk i (by omega) g2,app_get hhs (by omega) g2,hnew i (by omega) g2]
     ·rw [go i g2,go' i g2]
 | some l =>
  obtain ⟨l1,l2,l3⟩:=last_end hL hC (by omega) hl
  obtain ⟨l4,l5,_⟩:=lastF_some hl
  rw [append_some (by omega) (by omega) (by omega) (ga a (Nat.le_refl _) (by omega)) (gk k (Nat.le_refl _) (by omega)) (ga l (by omega) l2) hc1 hc2 hc3 (by simp [rc,hl])]
  congr 1
  apply List.ext_getElem?
  intro i
  rw [List.getElem?_set,List.getElem?_set,List.getElem?_set]
  simp only [List.length_set,hlen]
  by_cases e1:k=i
  ·subst e1
   rw [if_pos rfl,if_pos (by omega),app_get hhs (by omega) (by omega)]
   congr 1
   unfold rc
   simp only [if_neg (show ¬ k=a by omega),hpk,prvF,hl,hnk]
   simp
  ·rw [if_neg e1]
   by_cases e2:a=i
   ·subst e2
    rw [if_pos rfl,if_pos (by omega),app_get hhs (by omega) (by omega)]
    congr 1
    unfold rc
    rw [hla]
    have:1<sz t a:=by omega
    have h3:a+1<k:=by omega
    have h4:a+1<k+sz t k:=by omega
    simp [this,h3,h4]
   ·rw [if_neg e2]
    by_cases e3:l=i
    ·subst e3
     rw [if_pos rfl,if_pos (by omega),app_get hhs (by omega) (by omega)]
     congr 1
     have hn:nxtF t l (k+sz t k)=some k:=by
      unfold nxtF; rw [l5]; simp only
      rw [if_pos ⟨by omega,by omega⟩,l3]
     have q1:lastF t l (k+sz t k)=lastF t l k:=lastF_skip (by omega) fun c g1 g2 e=>by
      have:=(par_some e).2.1; omega
     have q2:(l+1<k+sz t k∧1<sz t l)=(l+1<k∧1<sz t l):=by
      apply propext
      constructor
      ·rintro ⟨_,g⟩; exact ⟨by omega,g⟩
      ·rintro ⟨g0,g⟩; exact ⟨by omega,g⟩
     unfold rc
     rw [hn,q1]
     simp only [q2,if_neg (show ¬ l=a by omega)]
    ·rw [if_neg e3]
     rcases Nat.lt_or_ge i a with g | g
     ·rw [gh i g,gh' i g]
     ·rcases Nat.lt_or_ge i k with g1 | g1
      ·rw [ga i g g1,app_get hhs g (by omega),rc_in hL hC h1 h2 (by omega) g1 (by rw [hl]; intro e; cases e; exact e3 rfl)]
      ·rcases Nat.lt_or_ge i (k+sz t k) with g2 | g2
       ·rw [gk i g1 g2,app_get hhs g g2,hnew i (by omega) g2]
       ·rw [go i g2,go' i g2]
theorem grow_eq (t:List Node) (ht:t.length≤1000000) (hat:∀ (i:Nat) (v:Node),t[i]?=some v→v.attrs.length≤2147483647):∀ (n a:Nat) (l:List (Option Nat)) (hs:List HN),sz t a≤n→Lam t a (a+sz t a)→1≤sz t a→a+sz t a≤t.length→l.length=t.length→hs.length=a →
  m_impl_grow n (t,(a:Int),l,hs)=some (fillL l a (a+sz t a),hs++stp t a (a+sz t a)):=by
 intro n
 induction n with
 | zero=>intro a l hs h1 _ h2; omega
 | succ n ih =>
  intro a l hs hn hL hs1 hat2 hl hhs
  obtain ⟨v,hv,hvs,_,_⟩:=hL.ok a (Nat.le_refl _) (by omega)
  obtain ⟨x,hx⟩:=get_lt (l:=l) (k:=a) (by omega)
  simp only [m_impl_grow,b_impl_grow,atI_nat,Int.toNat_natCast]
  rw [hv,bind_some,show m_impl_alone ({ kind:=v.kind,tag:=v.tag,text:=v.text,attrs:=v.attrs,size:=v.size },hs)=_ from alone_eq v hs (hat a v hv),bind_some,hx]
  simp only [bind_some]
  rw [w64 (n:=(a:Int)+1) (by omega) (by omega)]
  have key:∀ m k,a+sz t a - k=m→a<k→k≤a+sz t a→Ch t a k→loopO (m_impl_grow_0 (m_impl_grow n)) (t,(a:Int),fillL l a k,(k:Int),hs++stp t a k)=some (fillL l a (a+sz t a),hs++stp t a (a+sz t a)):=by
   intro m
   induction m using Nat.strongRecOn with
   | ind m ihm =>
    intro k hm g1 g2 hC
    by_cases hk:k<a+sz t a
    ·obtain ⟨u,hu,hus,hu1,hu2⟩:=hL.ok k (by omega) hk
     have hLk:=hL.sub (i:=k) (by omega) hk
     have hgr:=ih k (fillL l a k) (hs++stp t a k) (by omega) hLk hu1 (by omega) (by rw [fillL_len,hl]) (by rw [List.length_append,stp_len]; omega)
     have hff:fillL (fillL l a k) k (k+sz t k)=fillL l a (k+sz t k):=by
      apply List.ext_getElem?
      intro i
      rw [fillL_get,fillL_get,fillL_get,Option.map_map]
      congr 1
      funext y
      simp only [Function.comp]
      by_cases c1:k≤i∧i<k+sz t k
      ·rw [if_pos c1,if_pos ⟨by omega,c1.2⟩]
      ·rw [if_neg c1]
       by_cases c2:a≤i∧i<k
       ·rw [if_pos c2,if_pos ⟨c2.1,by omega⟩]
       ·rw [if_neg c2,if_neg (by omega)]
     have ga:(fillL l a (k+sz t k))[a]?=some (some a):=by
      rw [fillL_get,hx]; simp; omega
     obtain ⟨y,hy⟩:=get_lt (l:=l) (k:=k) (by omega)
     have gk:(fillL l a (k+sz t k))[k]?=some (some k):=by
      rw [fillL_get,hy]; simp; omega
     have step:m_impl_grow_0 (m_impl_grow n) (t,(a:Int),fillL l a k,(k:Int),hs++stp t a k)=some (.nx (t,(a:Int),fillL l a (k+sz t k),((k+sz t k:Nat):Int),hs++stp t a (k+sz t k))):=by
      simp only [m_impl_grow_0,cond_dec,atI_nat,Int.toNat_natCast]
      rw [hv,bind_some,hvs,w64 (n:=(a:Int)+(sz t a:Int)) (by omega) (by omega),if_pos (by omega),hgr,bind_some]
      simp only
      rw [hff,ga,bind_some,bind_some,gk,bind_some,bind_some,link_eq hhs hL hC g1 hk,bind_some,hu,bind_some,hus,w64 (n:=(k:Int)+(sz t k:Int)) (by omega) (by omega)]
      rfl
     rw [loopO_nx step]
     exact ihm (a+sz t a - (k+sz t k)) (by omega) (k+sz t k) rfl (by omega) (by omega) (hC.next hL g1 hk)
    ·have:k=a+sz t a:=by omega
     subst this
     refine loopO_out ?_
     simp only [m_impl_grow_0,cond_dec,atI_nat]
     rw [hv,bind_some,hvs,w64 (n:=(a:Int)+(sz t a:Int)) (by omega) (by omega),if_neg (by omega)]
  have h:=key _ (a+1) rfl (by omega) (by omega) (fun q g1 g2=>by omega)
  have e1:l.set a (some hs.length)=fillL l a (a+1):=by
   apply List.ext_getElem?
   intro i
   rw [fillL_get,List.getElem?_set]
   by_cases c:a=i
   ·subst c; rw [if_pos rfl,if_pos (by omega),hx,hhs]; simp
   ·rw [if_neg c]
    cases l[i]? with
    | none=>rfl
    | some z=>simp; omega
  have e2:[base v]=stp t a (a+1):=by
   have hln:lastF t a (a+1)=none:=by
    cases h3:lastF t a (a+1) with
    | none=>rfl
    | some c =>
     obtain ⟨q1,q2,_⟩:=lastF_some h3
     have:=(par_some q2).1
     omega
   have hsub:a+1 - a=1:=by omega
   have hb:base v=⟨none,none,none,none,none,(base v).ty,(base v).atom,(base v).data,(base v).ns,(base v).attrs⟩:=by
    unfold base
    repeat' split
    all_goals rfl
   rw [hb]
   simp [stp,hsub,rc,bs0,hv,hln]
  have e3:((a:Int)+1)=((a+1:Nat):Int):=by omega
  rw [e1,e2,e3,h,bind_some]
def store (t:List Node):List HN:=stp t 0 t.length
def ptrs (t:List Node):List (Option Nat):=(List.range t.length).map some
theorem fits_eq (t:List Node) (ht:t.length≤1000000) (hn:∀ i v,t[i]?=some v→RN t i v):∀ (n a e:Nat),1≤a→a≤e→e - a<n→Lam t a e→e≤t.length→m_impl_fits n (t,(a:Int),(e:Int))=some true:=by
 intro n
 induction n with
 | zero=>intro a e _ _ h; omega
 | succ n ih =>
  intro a e ha hae hne hL he
  simp only [m_impl_fits,b_impl_fits]
  have key:∀ m k,e - k=m→a≤k→k≤e→Lam t k e→loopO (m_impl_fits_0 (m_impl_fits n)) (t,(k:Int),(e:Int))=some (.inl ()):=by
   intro m
   induction m using Nat.strongRecOn with
   | ind m ihm =>
    intro k hm g1 g2 hLk
    by_cases hk:k<e
    ·obtain ⟨v,hv,hvs,hv1,hv2⟩:=hLk.ok k (Nat.le_refl _) hk
     have hr:=hn k v hv
     have hs:=hLk.sub (i:=k) (Nat.le_refl _) hk
     have hs':Lam t (k+1) (k+sz t k):=⟨fun i h1 h2=>hs.ok i (by omega) h2,fun i j h1 h2=>hs.nest i j (by omega) h2⟩
     have hsub:=ih (k+1) (k+sz t k) (by omega) (by omega) (by omega) hs' (by omega)
     have hLn:Lam t (k+sz t k) e:=⟨fun i h1 h2=>hLk.ok i (by omega) h2,fun i j h1 h2=>hLk.nest i j (by omega) h2⟩
     have hk1:v.kind≠1:=fun h=>by have:=hr.k1 h; omega
     have hkd:=hr.kd
     have step:m_impl_fits_0 (m_impl_fits n) (t,(k:Int),(e:Int))=some (.nx (t,((k+sz t k:Nat):Int),(e:Int))):=by
      simp only [m_impl_fits_0,cond_dec,atI_nat]
      rw [if_pos (by omega),hv,bind_some,hvs,w64 (n:=(e:Int) - (k:Int)) (by omega) (by omega),if_neg (by omega),if_neg (by omega),if_neg (by omega),if_neg (by omega),w64 (n:=(k:Int)+1) (by omega) (by omega),w64 (n:=(k:Int)+(sz t k:Int)) (by omega) (by omega)]
      have hc:m_impl_fits n (t,(k:Int)+1,(k:Int)+(sz t k:Int))=some true:=hsub
      rw [hc]
      simp only [bind_some]
      by_cases h3:v.kind≠3
      ·have:=hr.k2 h3 hk1
       rw [if_pos h3,if_neg (by omega)]
       rfl
      ·rw [if_neg h3]; rfl
     rw [loopO_nx step]
     exact ihm (e - (k+sz t k)) (by omega) (k+sz t k) rfl (by omega) (by omega) hLn
    ·refine loopO_out ?_
     simp only [m_impl_fits_0,cond_dec]
     rw [if_neg (by omega)]
  rw [key _ a rfl (Nat.le_refl _) hae hL,bind_some]
  rfl
theorem right_eq (t:List Node) (hR:RT t):m_impl_right t=some true:=by
 obtain ⟨v,hv,hk⟩:=hR.k0
 obtain ⟨u,hu,hus,_,_⟩:=hR.lam.ok 0 (Nat.le_refl _) hR.pos
 rw [hv] at hu
 cases hu
 have h1:=hR.pos
 have h2:=hR.len
 have h3:=hR.root
 simp only [m_impl_right,cond_dec,atI_zero]
 rw [if_neg (by omega),hv]
 simp only [bind_some]
 rw [if_neg (by omega),if_pos hk,show m_impl_fits big (t,(1:Int),(t.length:Int))=some true from fits_eq t (by omega) hR.node big 1 t.length (Nat.le_refl _) (by omega) (by unfold big; omega) ⟨fun i h1 h2=>hR.lam.ok i (by omega) h2,fun i j h1 h2=>hR.lam.nest i j (by omega) h2⟩ (Nat.le_refl _)]
 rfl
theorem grown_eq (t:List Node) (hf:fits1 t=true) (hR:RT t):m_impl_grown (t,[])=some (ptrs t,true,store t):=by
 have h1:=hR.pos
 have h2:=hR.len
 have h3:=hR.root
 have hL:Lam t 0 (0+sz t 0):=by rw [h3,Nat.zero_add]; exact hR.lam
 have hat:∀ (i:Nat) (v:Node),t[i]?=some v→v.attrs.length≤2147483647:=fun i v hv=>by
  have:=(fits_node hf hv).2.2
  simp only [fits3,Bool.and_eq_true,decide_eq_true_eq] at this
  exact this.1
 have h:=grow_eq t (by omega) hat big 0 (List.replicate t.length none) [] (by unfold big; omega) hL (by omega) (by omega) (by simp) rfl
 simp only [m_impl_grown,right_eq t hR,bind_some,not_cond,cond_dec]
 rw [if_pos trivial,if_pos ⟨by omega,by omega,by omega⟩,Int.toNat_natCast,show m_impl_grow big (t,(0:Int),List.replicate t.length none,[])=_ from h,bind_some]
 have e:fillL (List.replicate t.length none) 0 (0+sz t 0)=ptrs t:=by
  apply List.ext_getElem?
  intro i
  rw [fillL_get,List.getElem?_replicate]
  unfold ptrs
  rw [List.getElem?_map]
  by_cases hi:i<t.length
  ·rw [List.getElem?_range hi,if_pos hi,Option.map_some,if_pos ⟨Nat.zero_le _,by omega⟩]; rfl
  ·rw [List.getElem?_eq_none (l:=List.range t.length) (by simp; omega),if_neg hi]; rfl
 rw [e]
 simp [store,h3]
theorem store_get {t:List Node} {i:Nat} (h:i<t.length):(store t)[i]?=some (rc t 0 t.length i):=by
 have:=stp_get (t:=t) (a:=0) (e:=t.length) (i:=i) (by omega)
 rwa [Nat.zero_add] at this
theorem ptrs_get {t:List Node} {i:Nat} (h:i<t.length):(ptrs t)[i]?=some (some i):=by
 unfold ptrs
 rw [List.getElem?_map,List.getElem?_range h]
 rfl
theorem ptrs_len (t:List Node):(ptrs t).length=t.length:=by simp [ptrs]
end Go.Proofs.YtkmigbicabfodaaGreat.V
set_option linter.unusedVariables false
set_option linter.unusedSimpArgs false
namespace Go.Proofs.YtkmigbicabfodaaGreat.V
open Go
theorem rc_par {t:List Node} {e i:Nat}:(rc t 0 e i).par=par t i:=by
 simp only [rc]
 by_cases h:i=0
 ·subst h
  simp [par,parF]
 ·rw [if_neg h]
theorem kidsF_head {t:List Node} {hi:Nat}:∀ {f k:Nat},hi≤k+f→(kidsF t f k hi)[0]?=if k<hi then some k else none
 | 0,k,h=>by rw [if_neg (by omega)]; rfl
 | f+1,k,h=>by
  simp only [kidsF]
  split <;> rfl
theorem kidsF_next {t:List Node} {lo hi:Nat} (hL:Lam t lo hi):∀ {f k j c:Nat},lo≤k→hi≤k+f→(kidsF t f k hi)[j]?=some c→(kidsF t f k hi)[j+1]?=if c+sz t c<hi then some (c+sz t c) else none
 | 0,k,j,c,_,h,hc=>by simp [kidsF] at hc
 | f+1,k,j,c,hk,h,hc=>by
  simp only [kidsF] at hc ⊢
  split at hc
  ·rename_i hlt
   rw [if_pos hlt]
   obtain ⟨_,_,_,h1,_⟩:=hL.ok k hk hlt
   cases j with
   | zero =>
    simp only [List.getElem?_cons_zero,Option.some.injEq] at hc
    subst hc
    rw [List.getElem?_cons_succ]
    exact kidsF_head (by omega)
   | succ j =>
    rw [List.getElem?_cons_succ] at hc ⊢
    exact kidsF_next hL (by omega) (by omega) hc
  ·simp at hc
theorem kidsF_sorted {t:List Node} {lo hi:Nat} (hL:Lam t lo hi):∀ {f k:Nat},lo≤k→(kidsF t f k hi).Pairwise (·<·)
 | 0,k,_=>List.Pairwise.nil
 | f+1,k,hk=>by
  simp only [kidsF]
  split
  ·rename_i hlt
   obtain ⟨_,_,_,h1,_⟩:=hL.ok k hk hlt
   refine List.Pairwise.cons (fun c hc=>?_) (kidsF_sorted hL (by omega))
   have:=(kidsF_mem hL (by omega) hc).1
   omega
  ·exact List.Pairwise.nil
section
variable {t:List Node} {p:Nat}
theorem Ch.one:Ch t p (p+1):=fun q g1 g2=>by omega
theorem kidsF_ch (hL:Lam t p (p+sz t p)):∀ {f k c:Nat},p<k→Ch t p k→c∈kidsF t f k (p+sz t p)→par t c=some p
 | 0,k,c,_,_,hc=>by simp [kidsF] at hc
 | f+1,k,c,hk,hC,hc=>by
  simp only [kidsF] at hc
  split at hc
  ·rename_i hlt
   obtain ⟨_,_,_,h1,_⟩:=hL.ok k (by omega) hlt
   rcases List.mem_cons.1 hc with e | hc
   ·subst e; exact hC.par hk hlt
   ·exact kidsF_ch hL (by omega) (Ch.next hL hC hk hlt) hc
  ·simp at hc
theorem kidsF_in (hL:Lam t p (p+sz t p)) {a:Nat} (ha:par t a=some p):∀ {f k:Nat},p<k→k≤a→p+sz t p≤k+f→a∈kidsF t f k (p+sz t p)
 | 0,k,hk,hka,hf=>by have:=(par_some ha).2.1; omega
 | f+1,k,hk,hka,hf=>by
  have h2:=(par_some ha).2.1
  simp only [kidsF]
  rw [if_pos (by omega)]
  by_cases e:a=k
  ·subst e; exact List.mem_cons_self
  ·obtain ⟨_,_,_,h1,_⟩:=hL.ok k (by omega) (by omega)
   have:=(Ch.of_par ha) k hk (by omega)
   exact List.mem_cons_of_mem _ (kidsF_in hL ha (by omega) this (by omega))
theorem kids_par (hL:Lam t p (p+sz t p)) {c:Nat} (hc:c∈kidsN t p):par t c=some p:=kidsF_ch hL (by omega) Ch.one hc
theorem kids_in (hL:Lam t p (p+sz t p)) {a:Nat} (ha:par t a=some p):a∈kidsN t p:=kidsF_in hL ha (by omega) (par_some ha).1 (by omega)
theorem kids_sorted (hL:Lam t p (p+sz t p)):(kidsN t p).Pairwise (·<·):=kidsF_sorted hL (by omega)
theorem kids_get_lt (hL:Lam t p (p+sz t p)) {i j c d:Nat} (hij:i<j) (hc:(kidsN t p)[i]?=some c) (hd:(kidsN t p)[j]?=some d):c<d:=by
 obtain ⟨h1,e1⟩:=List.getElem?_eq_some_iff.1 hc
 obtain ⟨h2,e2⟩:=List.getElem?_eq_some_iff.1 hd
 have:=List.pairwise_iff_getElem.1 (kids_sorted hL) i j h1 h2 hij
 omega
theorem kid_fst (hL:Lam t p (p+sz t p)) {e:Nat} (he:p+sz t p≤e):(rc t 0 e p).fst=(kidsN t p)[0]?:=by
 have h0:(kidsN t p)[0]?=_:=kidsF_head (t:=t) (f:=sz t p) (k:=p+1) (hi:=p+sz t p) (by omega)
 rw [h0]
 simp only [rc]
 by_cases h:p+1<p+sz t p
 ·rw [if_pos h,if_pos ⟨by omega,by omega⟩]
 ·rw [if_neg h,if_neg (by omega)]
theorem kid_nxt (hL:Lam t p (p+sz t p)) {e:Nat} (he:p+sz t p≤e) {j c:Nat} (hc:(kidsN t p)[j]?=some c):(rc t 0 e c).nxt=(kidsN t p)[j+1]?:=by
 have hp:=kids_par hL (List.mem_of_getElem? hc)
 have h1:=par_some hp
 have hn:(kidsN t p)[j+1]?=_:=kidsF_next (t:=t) (f:=sz t p) (k:=p+1) hL (by omega) (by omega) hc
 rw [hn]
 simp only [rc,nxtF,hp]
 rw [if_neg (by omega)]
 by_cases h:c+sz t c<p+sz t p
 ·rw [if_pos h,if_pos ⟨by omega,h⟩]
 ·rw [if_neg h,if_neg (by omega)]
theorem lastF_kid (hL:Lam t p (p+sz t p)) {e c:Nat} (hce:c<e) (hc:c∈kidsN t p) (hno:∀ d∈kidsN t p,d<e→d≤c):lastF t p e=some c :=
 lastF_mk hce (kids_par hL hc) fun d h1 h2 h3=>by have:=hno d (kids_in hL h3) h2; omega
theorem kid_lst (hL:Lam t p (p+sz t p)) {e:Nat} (he:p+sz t p≤e):(rc t 0 e p).lst=(kidsN t p)[(kidsN t p).length - 1]?:=by
 simp only [rc]
 cases hK:(kidsN t p)[(kidsN t p).length - 1]? with
 | none =>
  have hnil:(kidsN t p).length=0:=by
   have:=List.getElem?_eq_none_iff.1 hK
   omega
  cases hl:lastF t p e with
  | none=>rfl
  | some c =>
   have:=kids_in hL (lastF_some hl).2.1
   rw [List.length_eq_zero_iff.1 hnil] at this
   cases this
 | some c =>
  have hm:=List.mem_of_getElem? hK
  have h1:=par_some (kids_par hL hm)
  refine lastF_kid hL (by omega) hm fun d hd _=>?_
  obtain ⟨i,hi⟩:=List.mem_iff_getElem?.1 hd
  have hlt:=(List.getElem?_eq_some_iff.1 hi).1
  by_cases e:i=(kidsN t p).length - 1
  ·subst e; rw [hi] at hK; cases hK; omega
  ·have:=kids_get_lt hL (by omega:i<(kidsN t p).length - 1) hi hK
   omega
theorem kid_prv (hL:Lam t p (p+sz t p)) {e:Nat} {j c:Nat} (hc:(kidsN t p)[j]?=some c):(rc t 0 e c).prv=if j=0 then none else (kidsN t p)[j - 1]?:=by
 have hp:=kids_par hL (List.mem_of_getElem? hc)
 have h1:=par_some hp
 have hjl:=(List.getElem?_eq_some_iff.1 hc).1
 simp only [rc,prvF,hp]
 rw [if_neg (by omega)]
 have le:∀ d∈kidsN t p,d<c→∃ i,i<j∧(kidsN t p)[i]?=some d:=fun d hd hdc=>by
  obtain ⟨i,hi⟩:=List.mem_iff_getElem?.1 hd
  refine ⟨i,?_,hi⟩
  rcases Nat.lt_trichotomy i j with h | h | h
  ·exact h
  ·subst h; rw [hi] at hc; cases hc; omega
  ·have:=kids_get_lt hL h hc hi; omega
 split
 ·rename_i h0
  cases hl:lastF t p c with
  | none=>rfl
  | some d =>
   obtain ⟨g1,g2,_⟩:=lastF_some hl
   obtain ⟨i,hi,_⟩:=le d (kids_in hL g2) g1
   omega
 ·rename_i h0
  obtain ⟨d,hd⟩:=get_lt (l:=kidsN t p) (k:=j - 1) (by omega)
  rw [hd]
  refine lastF_kid hL (kids_get_lt hL (by omega) hd hc) (List.mem_of_getElem? hd) fun x hx hxc=>?_
  obtain ⟨i,hi,hi2⟩:=le x hx hxc
  by_cases e:i=j - 1
  ·subst e; rw [hd] at hi2; cases hi2; omega
  ·have:=kids_get_lt hL (by omega:i<j - 1) hi2 hd
   omega
end
end Go.Proofs.YtkmigbicabfodaaGreat.V
set_option linter.unusedVariables false
set_option linter.unusedSimpArgs false
namespace Go.Proofs.YtkmigbicabfodaaGreat.V
open Go
def nxtL:List Nat→Nat→Option Nat
 | [],_=>none
 | a::l,c=>if a=c then l.head? else nxtL l c
def prvL (l:List Nat) (c:Nat):Option Nat:=nxtL l.reverse c
section
variable {A B l:List Nat} {a b c j:Nat}
theorem nxtL_skip (h:j∉A):nxtL (A++B) j=nxtL B j:=by
 induction A with
 | nil=>rfl
 | cons a A ih =>
  simp only [List.mem_cons,not_or] at h
  simp only [List.cons_append,nxtL,if_neg (Ne.symm h.1),ih h.2]
theorem nxtL_at (h:c∉A):nxtL (A++c::B) c=B.head?:=by rw [nxtL_skip h]; simp [nxtL]
theorem nxtL_front (h:j∈A) (hl:A.getLast?≠some j):nxtL (A++B) j=nxtL A j:=by
 induction A with
 | nil=>cases h
 | cons a A ih =>
  cases A with
  | nil =>
   simp only [List.mem_singleton] at h
   subst h
   simp at hl
  | cons b A =>
   simp only [List.cons_append,nxtL]
   by_cases e:a=j
   ·simp [e]
   ·simp only [if_neg e]
    rcases List.mem_cons.1 h with h | h
    ·exact absurd h.symm e
    ·exact ih h (by simpa [List.getLast?_cons_cons] using hl)
theorem nxtL_last (hn:(A++[a]).Nodup):nxtL (A++[a]++B) a=B.head?:=by
 rw [List.append_assoc]
 refine nxtL_at fun h=>?_
 rw [List.nodup_append] at hn
 exact hn.2.2 a h a (by simp) rfl
theorem nxtL_back (h:j∉A) (hj:j≠c):nxtL (A++c::B) j=nxtL (A++B) j:=by
 rw [nxtL_skip h,nxtL_skip h]
 simp [nxtL,Ne.symm hj]
theorem prvL_at (h:c∉B):prvL (A++c::B) c=A.getLast?:=by
 unfold prvL
 rw [List.reverse_append,List.reverse_cons,List.append_assoc]
 rw [show [c]++A.reverse=c::A.reverse from rfl,nxtL_at (by simpa using h)]
 simp
theorem prvL_front (h:j∉B) (hj:j≠c):prvL (A++c::B) j=prvL (A++B) j:=by
 unfold prvL
 rw [List.reverse_append,List.reverse_cons,List.append_assoc,List.reverse_append]
 exact nxtL_back (by simpa using h) hj
theorem prvL_back (h:j∈B) (hl:B.head?≠some j):prvL (A++B) j=prvL B j:=by
 unfold prvL
 rw [List.reverse_append]
 exact nxtL_front (by simpa using h) (by simpa using hl)
theorem prvL_first (hn:(b::B).Nodup):prvL (A++b::B) b=A.getLast?:=prvL_at (List.nodup_cons.1 hn).1
theorem nxtL_mid (hj:j∈A) (hl:A.getLast?≠some j):nxtL (A++c::B) j=nxtL (A++B) j:=by rw [nxtL_front hj hl,nxtL_front hj hl]
theorem prvL_mid (hj:j∈B) (hl:B.head?≠some j):prvL (A++c::B) j=prvL (A++B) j:=by
 rw [show A++c::B=(A++[c])++B by simp,prvL_back hj hl,prvL_back hj hl]
end
def tab {α:Type} (m:Nat) (f:Nat→α):List α:=(List.range m).map f
def upd {α:Type} (f:Nat→α) (i:Nat) (v:α):Nat→α:=fun j=>if j=i then v else f j
section
variable {α:Type} {m i j:Nat} {f g:Nat→α} {v:α}
theorem tab_len:(tab m f).length=m:=by simp [tab]
theorem tab_get (h:i<m):(tab m f)[i]?=some (f i):=by simp [tab,h]
theorem tab_set (h:i<m):(tab m f).set i v=tab m (upd f i v):=by
 apply List.ext_getElem?
 intro j
 by_cases e:i=j
 ·subst e
  rw [List.getElem?_set_self (by rw [tab_len]; exact h),tab_get h]
  simp [upd]
 ·rw [List.getElem?_set_ne e]
  by_cases hj:j<m
  ·rw [tab_get hj,tab_get hj]; simp [upd,Ne.symm e]
  ·rw [List.getElem?_eq_none (by rw [tab_len]; omega),List.getElem?_eq_none (by rw [tab_len]; omega)]
theorem tab_ext (h:∀ i,i<m→f i=g i):tab m f=tab m g:=by
 unfold tab
 exact List.map_congr_left fun i hi=>h i (by simpa using hi)
theorem tab_snoc:tab m f++[v]=tab (m+1) (upd f m v):=by
 unfold tab
 rw [List.range_succ,List.map_append]
 have:(List.range m).map f=(List.range m).map (upd f m v):=List.map_congr_left fun i hi=>by
  have:i≠m:=by have:=List.mem_range.1 hi; omega
  simp [upd,this]
 rw [this]
 simp [upd]
theorem upd_same:upd f i v i=v:=by simp [upd]
theorem upd_ne (h:j≠i):upd f i v j=f j:=by simp [upd,h]
end
structure Fo where
 m:Nat
 up:Nat→Option Nat
 kids:Nat→List Nat
def Fo.mk1 (F:Fo) (L:Nat→HN) (i:Nat):HN :=
 ⟨F.up i,(F.kids i).head?,(F.kids i).getLast?,(F.up i).bind fun p=>prvL (F.kids p) i,(F.up i).bind fun p=>nxtL (F.kids p) i,(L i).ty,(L i).atom,(L i).data,(L i).ns,(L i).attrs⟩
def Fo.st (F:Fo) (L:Nat→HN):List HN:=tab F.m (F.mk1 L)
structure Fo.ok (F:Fo):Prop where
 kid:∀ {p c:Nat},c∈F.kids p→F.up c=some p∧c<F.m
 up:∀ {c p:Nat},F.up c=some p→p<F.m∧c∈F.kids p
 nd:∀ p,(F.kids p).Nodup
 irr:∀ c,F.up c≠some c
def Fo.setK (F:Fo) (p:Nat) (l:List Nat) (c:Nat) (u:Option Nat):Fo:=⟨F.m,fun i=>if i=c then u else F.up i,fun i=>if i=p then l else F.kids i⟩
section
variable {F G:Fo} {L:Nat→HN} {p c i j:Nat} {A B:List Nat}
theorem Fo.get (h:i<F.m):(F.st L)[i]?=some (F.mk1 L i):=tab_get h
theorem Fo.ok.lt (h:F.ok) (hu:F.up c=some p):c<F.m∧p<F.m:=⟨(h.kid (h.up hu).2).2,(h.up hu).1⟩
structure Sp (F G:Fo) (p c:Nat) (A B:List Nat):Prop where
 okF:F.ok
 hp:p<F.m
 hc:c<F.m
 u:F.up c=some p
 k:F.kids p=A++c::B
 g:G=F.setK p (A++B) c none
theorem Sp.nd (h:Sp F G p c A B):(A++c::B).Nodup:=h.k ▸ h.okF.nd p
theorem Sp.pc (h:Sp F G p c A B):p≠c:=fun e=>h.okF.irr c (by rw [h.u,e])
theorem Sp.cA (h:Sp F G p c A B):c∉A:=fun hc=>by
 have:=h.nd
 rw [List.nodup_append] at this
 exact this.2.2 c hc c (by simp) rfl
theorem Sp.cB (h:Sp F G p c A B):c∉B:=by
 have:=h.nd
 rw [List.nodup_append,List.nodup_cons] at this
 exact this.2.1.1
theorem Sp.nA (h:Sp F G p c A B):A.Nodup:=(List.nodup_append.1 h.nd).1
theorem Sp.nB (h:Sp F G p c A B):B.Nodup:=(List.nodup_cons.1 (List.nodup_append.1 h.nd).2.1).2
theorem Sp.AB (h:Sp F G p c A B) (hj:j∈A):j∉B:=fun hb=>(List.nodup_append.1 h.nd).2.2 j hj j (by simp [hb]) rfl
theorem Sp.kid (h:Sp F G p c A B) (hj:j∈A∨j∈B):F.up j=some p∧j<F.m∧j≠p∧j≠c:=by
 have h1:j∈F.kids p:=by rw [h.k]; rcases hj with hj | hj <;> simp [hj]
 have h2:=h.okF.kid h1
 refine ⟨h2.1,h2.2,fun e=>h.okF.irr j (by rw [h2.1,e]),fun e=>?_⟩
 subst e
 rcases hj with hj | hj
 ·exact h.cA hj
 ·exact h.cB hj
theorem Sp.other (h:Sp F G p c A B) (hj:j≠c) (hp:j≠p) (ha:A.getLast?≠some j) (hb:B.head?≠some j):G.mk1 L j=F.mk1 L j:=by
 rw [h.g]
 simp only [Fo.mk1,Fo.setK,if_neg hj,if_neg hp]
 cases hu:F.up j with
 | none=>rfl
 | some q =>
  simp only [Option.bind_some]
  by_cases e:q=p
  ·subst e
   simp only [if_true]
   have hm:=(h.okF.up hu).2
   rw [h.k]
   rw [h.k] at hm
   have hm2:j∈A∨j∈B:=by simpa [hj] using hm
   rcases hm2 with hm | hm
   ·rw [nxtL_mid hm ha,prvL_front (h.AB hm) hj]
   ·rw [prvL_mid hm hb,nxtL_back (fun ha=>h.AB ha hm) hj]
  ·simp only [if_neg e]
theorem Sp.at_c (h:Sp F G p c A B):G.mk1 L c=⟨none,(F.kids c).head?,(F.kids c).getLast?,none,none,(L c).ty,(L c).atom,(L c).data,(L c).ns,(L c).attrs⟩:=by
 rw [h.g]
 simp [Fo.mk1,Fo.setK,Ne.symm h.pc]
theorem Sp.f_c (h:Sp F G p c A B):F.mk1 L c=⟨some p,(F.kids c).head?,(F.kids c).getLast?,A.getLast?,B.head?,(L c).ty,(L c).atom,(L c).data,(L c).ns,(L c).attrs⟩:=by
 simp [Fo.mk1,h.u,h.k,nxtL_at h.cA,prvL_at h.cB]
theorem Sp.f_p (h:Sp F G p c A B):(F.mk1 L p).fst=(A++[c]).head?∧(F.mk1 L p).lst=(c::B).getLast?:=by
 have e1:F.kids p=(A++[c])++B:=by rw [h.k]; simp
 constructor
 ·simp only [Fo.mk1,e1]
  cases A <;> rfl
 ·simp only [Fo.mk1,h.k]
  rw [List.getLast?_append]
  cases hB:(c::B).getLast? with
  | none=>simp at hB
  | some x=>rfl
theorem Sp.at_p (h:Sp F G p c A B):G.mk1 L p=⟨(F.mk1 L p).par,(A++B).head?,(A++B).getLast?,(F.mk1 L p).prv,(F.mk1 L p).nxt,(F.mk1 L p).ty,(F.mk1 L p).atom,(F.mk1 L p).data,(F.mk1 L p).ns,(F.mk1 L p).attrs⟩:=by
 rw [h.g]
 simp only [Fo.mk1,Fo.setK,if_neg h.pc,if_true]
 cases hu:F.up p with
 | none=>rfl
 | some q =>
  have hq:q≠p:=fun e=>h.okF.irr p (by rw [hu,e])
  simp only [Option.bind_some,if_neg hq]
theorem Sp.at_a {A:List Nat} {a:Nat} (h:Sp F G p c (A++[a]) B):G.mk1 L a=⟨(F.mk1 L a).par,(F.mk1 L a).fst,(F.mk1 L a).lst,(F.mk1 L a).prv,B.head?,(F.mk1 L a).ty,(F.mk1 L a).atom,(F.mk1 L a).data,(F.mk1 L a).ns,(F.mk1 L a).attrs⟩:=by
 obtain ⟨hu,hm,hp,hc⟩:=h.kid (j:=a) (.inl (by simp))
 rw [h.g]
 simp only [Fo.mk1,Fo.setK,if_neg hc,if_neg hp,hu,Option.bind_some,if_true,h.k]
 rw [nxtL_last h.nA,prvL_front (h.AB (by simp)) hc]
theorem Sp.at_b {B:List Nat} {b:Nat} (h:Sp F G p c A (b::B)):G.mk1 L b=⟨(F.mk1 L b).par,(F.mk1 L b).fst,(F.mk1 L b).lst,A.getLast?,(F.mk1 L b).nxt,(F.mk1 L b).ty,(F.mk1 L b).atom,(F.mk1 L b).data,(F.mk1 L b).ns,(F.mk1 L b).attrs⟩:=by
 obtain ⟨hu,hm,hp,hc⟩:=h.kid (j:=b) (.inr (by simp))
 rw [h.g]
 simp only [Fo.mk1,Fo.setK,if_neg hc,if_neg hp,hu,Option.bind_some,if_true,h.k]
 rw [prvL_first h.nB,nxtL_back (fun ha=>h.AB ha (by simp)) hc]
theorem Sp.f_a {A:List Nat} {a:Nat} (h:Sp F G p c (A++[a]) B):(F.mk1 L a).nxt=some c:=by
 obtain ⟨hu,hm,hp,hc⟩:=h.kid (j:=a) (.inl (by simp))
 simp only [Fo.mk1,hu,Option.bind_some,h.k]
 rw [nxtL_last h.nA]; rfl
theorem Sp.f_b {B:List Nat} {b:Nat} (h:Sp F G p c A (b::B)):(F.mk1 L b).prv=some c:=by
 obtain ⟨hu,hm,hp,hc⟩:=h.kid (j:=b) (.inr (by simp))
 simp only [Fo.mk1,hu,Option.bind_some,h.k]
 rw [show A++c::b::B=(A++[c])++b::B by simp,prvL_first h.nB]; simp
end
end Go.Proofs.YtkmigbicabfodaaGreat.V
set_option linter.unusedVariables false
set_option linter.unusedSimpArgs false
namespace Go.Proofs.YtkmigbicabfodaaGreat.V
open Go Go.Proofs
abbrev p_goquery_newSingleSelection:Pt:=[(0, .np),(1, .any)]
abbrev q_goquery_newSingleSelection:Pt:=[(0, .fp (.rc .nps [] 2))]
noncomputable def m_goquery_newSingleSelection:Tup p_goquery_newSingleSelection→Option (Tup q_goquery_newSingleSelection):=fun (x:Option Nat×PUnit)=>some [x.1]
noncomputable def cx_goquery_newSingleSelection:Cx:=⟨tb,lookE [],lookS [],mth,ast⟩
theorem ck_goquery_newSingleSelection:CxOK Tryz.prog (cx_goquery_newSingleSelection):=cx_ok tb_ok if_ok .nil
noncomputable def e_goquery_newSingleSelection:Ent:=⟨0,p_goquery_newSingleSelection,q_goquery_newSingleSelection,m_goquery_newSingleSelection⟩
theorem ok_goquery_newSingleSelection:FnOK Tryz.prog 37 e_goquery_newSingleSelection:=fn_ok (L:=lookL []) ck_goquery_newSingleSelection mixed Tryz.func37 rfl (by kernel_rfl) (by kernel_rfl) (ls_ok (l:=[]) (by kernel_rfl) .nil) (by intro x; kernel_rfl)
abbrev p_goquery_newDocument:Pt:=[(0, .np)]
abbrev q_goquery_newDocument:Pt:=[(0, .fp (.rc .fsel [.np] 0))]
noncomputable def m_goquery_newDocument:Tup p_goquery_newDocument→Option (Tup q_goquery_newDocument):=fun (x:Option Nat)=>Option.bind (m_goquery_newSingleSelection (x,())) fun (r:List (Option Nat))=>some (r,x)
noncomputable def cx_goquery_newDocument:Cx:=⟨tb,lookE [(37,e_goquery_newSingleSelection)],lookS [],mth,ast⟩
theorem ck_goquery_newDocument:CxOK Tryz.prog (cx_goquery_newDocument):=cx_ok tb_ok if_ok (.cons ok_goquery_newSingleSelection Tryz.call37 .nil)
noncomputable def e_goquery_newDocument:Ent:=⟨0,p_goquery_newDocument,q_goquery_newDocument,m_goquery_newDocument⟩
theorem ok_goquery_newDocument:FnOK Tryz.prog 84 e_goquery_newDocument:=fn_ok (L:=lookL []) ck_goquery_newDocument mixed Tryz.func84 rfl (by kernel_rfl) (by kernel_rfl) (ls_ok (l:=[]) (by kernel_rfl) .nil) (by intro x; kernel_rfl)
abbrev p_goquery_NewDocumentFromNode:Pt:=[(0, .np)]
abbrev q_goquery_NewDocumentFromNode:Pt:=[(0, .fp (.rc .fsel [.np] 0))]
noncomputable def m_goquery_NewDocumentFromNode:Tup p_goquery_NewDocumentFromNode→Option (Tup q_goquery_NewDocumentFromNode):=fun (x:Option Nat)=>Option.bind (m_goquery_newDocument x) fun (r:List (Option Nat)×Option Nat)=>some (r.1,r.2)
noncomputable def cx_goquery_NewDocumentFromNode:Cx:=⟨tb,lookE [(84,e_goquery_newDocument)],lookS [],mth,ast⟩
theorem ck_goquery_NewDocumentFromNode:CxOK Tryz.prog (cx_goquery_NewDocumentFromNode):=cx_ok tb_ok if_ok (.cons ok_goquery_newDocument Tryz.call84 .nil)
noncomputable def e_goquery_NewDocumentFromNode:Ent:=⟨0,p_goquery_NewDocumentFromNode,q_goquery_NewDocumentFromNode,m_goquery_NewDocumentFromNode⟩
theorem ok_goquery_NewDocumentFromNode:FnOK Tryz.prog 50 e_goquery_NewDocumentFromNode:=fn_ok (L:=lookL []) ck_goquery_NewDocumentFromNode mixed Tryz.func50 rfl (by kernel_rfl) (by kernel_rfl) (ls_ok (l:=[]) (by kernel_rfl) .nil) (by intro x; kernel_rfl)
abbrev p_goquery_newEmptySelection:Pt:=[(0, .any)]
abbrev q_goquery_newEmptySelection:Pt:=[(0, .fp (.rc .nil [] 2))]
noncomputable def m_goquery_newEmptySelection:Tup p_goquery_newEmptySelection→Option (Tup q_goquery_newEmptySelection):=fun (x:PUnit)=>some ()
noncomputable def cx_goquery_newEmptySelection:Cx:=⟨tb,lookE [],lookS [],mth,ast⟩
theorem ck_goquery_newEmptySelection:CxOK Tryz.prog (cx_goquery_newEmptySelection):=cx_ok tb_ok if_ok .nil
noncomputable def e_goquery_newEmptySelection:Ent:=⟨0,p_goquery_newEmptySelection,q_goquery_newEmptySelection,m_goquery_newEmptySelection⟩
theorem ok_goquery_newEmptySelection:FnOK Tryz.prog 85 e_goquery_newEmptySelection:=fn_ok (L:=lookL []) ck_goquery_newEmptySelection mixed Tryz.func85 rfl (by kernel_rfl) (by kernel_rfl) (ls_ok (l:=[]) (by kernel_rfl) .nil) (by intro x; kernel_rfl)
abbrev p_goquery_pushStack:Pt:=[(0, .fp (.rc .nps [] 2)),(1, .lst .np)]
abbrev q_goquery_pushStack:Pt:=[(0, .fp (.rc .nps [] 2))]
noncomputable def m_goquery_pushStack:Tup p_goquery_pushStack→Option (Tup q_goquery_pushStack):=fun (x:List (Option Nat)×List (Option Nat))=>some x.2
noncomputable def cx_goquery_pushStack:Cx:=⟨tb,lookE [],lookS [],mth,ast⟩
theorem ck_goquery_pushStack:CxOK Tryz.prog (cx_goquery_pushStack):=cx_ok tb_ok if_ok .nil
noncomputable def e_goquery_pushStack:Ent:=⟨0,p_goquery_pushStack,q_goquery_pushStack,m_goquery_pushStack⟩
theorem ok_goquery_pushStack:FnOK Tryz.prog 52 e_goquery_pushStack:=fn_ok (L:=lookL []) ck_goquery_pushStack mixed Tryz.func52 rfl (by kernel_rfl) (by kernel_rfl) (ls_ok (l:=[]) (by kernel_rfl) .nil) (by intro x; kernel_rfl)
abbrev p_goquery_Selection_Slice:Pt:=[(0, .fp (.rc .nps [] 2)),(1, .int .i64),(2, .int .i64)]
abbrev q_goquery_Selection_Slice:Pt:=[(0, .fp (.rc .nps [] 2))]
noncomputable def m_goquery_Selection_Slice:Tup p_goquery_Selection_Slice→Option (Tup q_goquery_Selection_Slice):=fun (x:List (Option Nat)×Int×Int)=>bif decide (x.2.1<(0:Int)) then bif decide (x.2.2=(9223372036854775807:Int)) then Option.bind (subL x.1 (IntKind.wrap .i64 (x.2.1+(↑(List.length x.1):Int))) (↑(List.length x.1):Int)) fun (m:List (Option Nat))=>Option.bind (m_goquery_pushStack (x.1,m)) fun (r:List (Option Nat))=>some r else bif decide (x.2.2<(0:Int)) then Option.bind (subL x.1 (IntKind.wrap .i64 (x.2.1+(↑(List.length x.1):Int))) (IntKind.wrap .i64 (x.2.2+(↑(List.length x.1):Int)))) fun (m:List (Option Nat))=>Option.bind (m_goquery_pushStack (x.1,m)) fun (r:List (Option Nat))=>some r else Option.bind (subL x.1 (IntKind.wrap .i64 (x.2.1+(↑(List.length x.1):Int))) x.2.2) fun (m:List (Option Nat))=>Option.bind (m_goquery_pushStack (x.1,m)) fun (r:List (Option Nat))=>some r else bif decide (x.2.2=(9223372036854775807:Int)) then Option.bind (subL x.1 x.2.1 (↑(List.length x.1):Int)) fun (m:List (Option Nat))=>Option.bind (m_goquery_pushStack (x.1,m)) fun (r:List (Option Nat))=>some r else bif decide (x.2.2<(0:Int)) then Option.bind (subL x.1 x.2.1 (IntKind.wrap .i64 (x.2.2+(↑(List.length x.1):Int)))) fun (m:List (Option Nat))=>Option.bind (m_goquery_pushStack (x.1,m)) fun (r:List (Option Nat))=>some r else Option.bind (subL x.1 x.2.1 x.2.2) fun (m:List (Option Nat))=>Option.bind (m_goquery_pushStack (x.1,m)) fun (r:List (Option Nat))=>some r
noncomputable def cx_goquery_Selection_Slice:Cx:=⟨tb,lookE [(52,e_goquery_pushStack)],lookS [],mth,ast⟩
theorem ck_goquery_Selection_Slice:CxOK Tryz.prog (cx_goquery_Selection_Slice):=cx_ok tb_ok if_ok (.cons ok_goquery_pushStack Tryz.call52 .nil)
noncomputable def e_goquery_Selection_Slice:Ent:=⟨0,p_goquery_Selection_Slice,q_goquery_Selection_Slice,m_goquery_Selection_Slice⟩
theorem ok_goquery_Selection_Slice:FnOK Tryz.prog 86 e_goquery_Selection_Slice:=fn_ok (L:=lookL []) ck_goquery_Selection_Slice mixed Tryz.func86 rfl (by kernel_rfl) (by kernel_rfl) (ls_ok (l:=[]) (by kernel_rfl) .nil) (by intro x; kernel_rfl)
abbrev p_goquery_Selection_Eq_nil:Pt:=[(0, .fp (.rc .nps [] 2)),(1, .int .i64)]
abbrev q_goquery_Selection_Eq_nil:Pt:=[(0, .fp (.rc .nil [] 2))]
noncomputable def m_goquery_Selection_Eq_nil:Tup p_goquery_Selection_Eq_nil→Option (Tup q_goquery_Selection_Eq_nil):=fun (x:List (Option Nat)×Int)=>bif decide (x.2<(0:Int)) then bif decide ((↑(List.length x.1):Int)≤IntKind.wrap .i64 (x.2+(↑(List.length x.1):Int))) then Option.bind (m_goquery_newEmptySelection ()) fun (r:PUnit)=>some () else bif decide (IntKind.wrap .i64 (x.2+(↑(List.length x.1):Int))<(0:Int)) then Option.bind (m_goquery_newEmptySelection ()) fun (r:PUnit)=>some () else Option.bind (m_goquery_Selection_Slice (x.1,IntKind.wrap .i64 (x.2+(↑(List.length x.1):Int)),IntKind.wrap .i64 (IntKind.wrap .i64 (x.2+(↑(List.length x.1):Int))+(1:Int)))) fun (r:List (Option Nat))=>none else bif decide ((↑(List.length x.1):Int)≤x.2) then Option.bind (m_goquery_newEmptySelection ()) fun (r:PUnit)=>some () else bif decide (x.2<(0:Int)) then Option.bind (m_goquery_newEmptySelection ()) fun (r:PUnit)=>some () else Option.bind (m_goquery_Selection_Slice (x.1,x.2,IntKind.wrap .i64 (x.2+(1:Int)))) fun (r:List (Option Nat))=>none
noncomputable def cx_goquery_Selection_Eq_nil:Cx:=⟨tb,lookE [(85,e_goquery_newEmptySelection),(86,e_goquery_Selection_Slice)],lookS [],mth,ast⟩
theorem ck_goquery_Selection_Eq_nil:CxOK Tryz.prog (cx_goquery_Selection_Eq_nil):=cx_ok tb_ok if_ok (.cons ok_goquery_newEmptySelection Tryz.call85 (.cons ok_goquery_Selection_Slice Tryz.call86 .nil))
noncomputable def e_goquery_Selection_Eq_nil:Ent:=⟨0,p_goquery_Selection_Eq_nil,q_goquery_Selection_Eq_nil,m_goquery_Selection_Eq_nil⟩
theorem ok_goquery_Selection_Eq_nil:FnOK Tryz.prog 51 e_goquery_Selection_Eq_nil:=fn_ok (L:=lookL []) ck_goquery_Selection_Eq_nil mixed Tryz.func51 rfl (by kernel_rfl) (by kernel_rfl) (ls_ok (l:=[]) (by kernel_rfl) .nil) (by intro x; kernel_rfl)
abbrev p_goquery_indexInSlice:Pt:=[(0, .lst .np),(1, .np)]
abbrev q_goquery_indexInSlice:Pt:=[(0, .int .i64)]
abbrev p_goquery_indexInSlice_0:Pt:=[(1, .np),(9, .lst .np),(10, .int .i64),(11, .int .i64)]
abbrev x_goquery_indexInSlice_0:List (Xt×Pt):=[(.ex 0,[]),(.rt,[(4, .int .i64)])]
noncomputable def m_goquery_indexInSlice_0:Tup p_goquery_indexInSlice_0→Option (Stp (Tup p_goquery_indexInSlice_0) (SumT (x_goquery_indexInSlice_0.map (·.2)))):=fun (x:Option Nat×List (Option Nat)×Int×Int)=>bif decide (x.2.2.2<x.2.2.1) then Option.bind (atI x.2.1 x.2.2.2) fun (v:Option Nat)=>bif decide (v=x.1) then some (Stp.out (Sum.inr x.2.2.2)) else some (Stp.nx (x.1,x.2.1,x.2.2.1,IntKind.wrap .i64 (x.2.2.2+(1:Int)))) else some (Stp.out (Sum.inl ()))
noncomputable def m_goquery_indexInSlice:Tup p_goquery_indexInSlice→Option (Tup q_goquery_indexInSlice):=fun (x:List (Option Nat)×Option Nat)=>bif !Option.isNone x.2 then Option.bind (loopO m_goquery_indexInSlice_0 (x.2,x.1,(↑(List.length x.1):Int),(0:Int))) fun (y:PUnit ⊕ Int)=>selim (fun (y:PUnit)=>some (-1:Int)) (fun (y:Int)=>some y) y else some (-1:Int)
noncomputable def cx_goquery_indexInSlice:Cx:=⟨tb,lookE [],lookS [],mth,ast⟩
theorem ck_goquery_indexInSlice:CxOK Tryz.prog (cx_goquery_indexInSlice):=cx_ok tb_ok if_ok .nil
noncomputable def c_goquery_indexInSlice_0:Code:=loopAt (Go.Proofs.Tryz.f96.body.getD .skip) 0
noncomputable def l_goquery_indexInSlice_0:LEnt:=⟨p_goquery_indexInSlice_0,x_goquery_indexInSlice_0,loopO (m_goquery_indexInSlice_0)⟩
theorem lo_goquery_indexInSlice_0:LOK Tryz.prog 21 0 false (l_goquery_indexInSlice_0) c_goquery_indexInSlice_0:=loop_ok (body:=m_goquery_indexInSlice_0) (L:=lookL []) (ck_goquery_indexInSlice) mixed (ls_ok (l:=[]) (by kernel_rfl) .nil) (by intro x; kernel_rfl) (fun x y h=>loopO_iff.1 h)
noncomputable def e_goquery_indexInSlice:Ent:=⟨0,p_goquery_indexInSlice,q_goquery_indexInSlice,m_goquery_indexInSlice⟩
theorem ok_goquery_indexInSlice:FnOK Tryz.prog 96 e_goquery_indexInSlice:=fn_ok (L:=lookL [(0,l_goquery_indexInSlice_0)]) ck_goquery_indexInSlice mixed Tryz.func96 rfl (by kernel_rfl) (by kernel_rfl) (ls_ok (l:=[(0,c_goquery_indexInSlice_0)]) (by kernel_rfl) (.cons rfl (lo_goquery_indexInSlice_0) .nil)) (by intro x; kernel_rfl)
abbrev p_goquery_isInSlice:Pt:=[(0, .lst .np),(1, .np)]
abbrev q_goquery_isInSlice:Pt:=[(0, .bool)]
noncomputable def m_goquery_isInSlice:Tup p_goquery_isInSlice→Option (Tup q_goquery_isInSlice):=fun (x:List (Option Nat)×Option Nat)=>Option.bind (m_goquery_indexInSlice (x.1,x.2)) fun (r:Int)=>some (decide ((-1:Int)<r))
noncomputable def cx_goquery_isInSlice:Cx:=⟨tb,lookE [(96,e_goquery_indexInSlice)],lookS [],mth,ast⟩
theorem ck_goquery_isInSlice:CxOK Tryz.prog (cx_goquery_isInSlice):=cx_ok tb_ok if_ok (.cons ok_goquery_indexInSlice Tryz.call96 .nil)
noncomputable def e_goquery_isInSlice:Ent:=⟨0,p_goquery_isInSlice,q_goquery_isInSlice,m_goquery_isInSlice⟩
theorem ok_goquery_isInSlice:FnOK Tryz.prog 87 e_goquery_isInSlice:=fn_ok (L:=lookL []) ck_goquery_isInSlice mixed Tryz.func87 rfl (by kernel_rfl) (by kernel_rfl) (ls_ok (l:=[]) (by kernel_rfl) .nil) (by intro x; kernel_rfl)
abbrev p_goquery_appendWithoutDuplicates_small:Pt:=[(0, .own .np 51),(1, .lst .np),(2, .mnil)]
abbrev q_goquery_appendWithoutDuplicates_small:Pt:=[(0, .own .np 51)]
abbrev p_goquery_appendWithoutDuplicates_small_0:Pt:=[(0, .own .np 51),(23, .lst .np),(24, .int .i64),(25, .int .i64)]
abbrev x_goquery_appendWithoutDuplicates_small_0:List (Xt×Pt):=[(.ex 0,[(0, .own .np 51)])]
noncomputable def m_goquery_appendWithoutDuplicates_small_0:Tup p_goquery_appendWithoutDuplicates_small_0→Option (Stp (Tup p_goquery_appendWithoutDuplicates_small_0) (SumT (x_goquery_appendWithoutDuplicates_small_0.map (·.2)))):=fun (x:List (Option Nat)×List (Option Nat)×Int×Int)=>bif decide (x.2.2.2<x.2.2.1) then Option.bind (atI x.2.1 x.2.2.2) fun (v:Option Nat)=>Option.bind (m_goquery_isInSlice (x.1,v)) fun (r:Bool)=>bif !r then Option.bind (appL x.1 [v]) fun (r:List (Option Nat))=>some (Stp.nx (r,x.2.1,x.2.2.1,IntKind.wrap .i64 (x.2.2.2+(1:Int)))) else some (Stp.nx (x.1,x.2.1,x.2.2.1,IntKind.wrap .i64 (x.2.2.2+(1:Int)))) else some (Stp.out x.1)
abbrev p_goquery_appendWithoutDuplicates_small_1:Pt:=[(0, .own .np 51),(1, .lst .np),(2, .mnil),(47, .al 0),(48, .int .i64),(49, .int .i64)]
abbrev x_goquery_appendWithoutDuplicates_small_1:List (Xt×Pt):=[(.ex 2,[(0, .own .np 51),(1, .lst .np),(2, .mnil)])]
noncomputable def m_goquery_appendWithoutDuplicates_small_1:Tup p_goquery_appendWithoutDuplicates_small_1→Option (Stp (Tup p_goquery_appendWithoutDuplicates_small_1) (SumT (x_goquery_appendWithoutDuplicates_small_1.map (·.2)))):=fun (x:List (Option Nat)×List (Option Nat)×PUnit×PUnit×Int×Int)=>bif decide (x.2.2.2.2.2<x.2.2.2.2.1) then Option.bind (atI x.1 x.2.2.2.2.2) fun (x_1:Option Nat)=>Option.bind x.1[Int.toNat x.2.2.2.2.2]? fun (v:Option Nat)=>none else some (Stp.out (x.1,x.2.1,()))
abbrev p_goquery_appendWithoutDuplicates_small_2:Pt:=[(0, .own .np 51),(2, .mnil),(56, .lst .np),(57, .int .i64),(58, .int .i64)]
abbrev x_goquery_appendWithoutDuplicates_small_2:List (Xt×Pt):=[(.ex 4,[(0, .own .np 51)])]
noncomputable def m_goquery_appendWithoutDuplicates_small_2:Tup p_goquery_appendWithoutDuplicates_small_2→Option (Stp (Tup p_goquery_appendWithoutDuplicates_small_2) (SumT (x_goquery_appendWithoutDuplicates_small_2.map (·.2)))):=fun (x:List (Option Nat)×PUnit×List (Option Nat)×Int×Int)=>bif decide (x.2.2.2.2<x.2.2.2.1) then Option.bind (atI x.2.2.1 x.2.2.2.2) fun (v:Option Nat)=>Option.bind (appL x.1 [v]) fun (r:List (Option Nat))=>none else some (Stp.out x.1)
noncomputable def m_goquery_appendWithoutDuplicates_small:Tup p_goquery_appendWithoutDuplicates_small→Option (Tup q_goquery_appendWithoutDuplicates_small):=fun (x:List (Option Nat)×List (Option Nat)×PUnit)=>bif decide (IntKind.wrap .i64 ((↑(List.length x.1):Int)+(↑(List.length x.2.1):Int))<(1000:Int)) then Option.bind (loopO m_goquery_appendWithoutDuplicates_small_0 (x.1,x.2.1,(↑(List.length x.2.1):Int),(0:Int))) fun (y:List (Option Nat))=>some y else none
noncomputable def cx_goquery_appendWithoutDuplicates_small:Cx:=⟨tb,lookE [(87,e_goquery_isInSlice)],lookS [],mth,ast⟩
theorem ck_goquery_appendWithoutDuplicates_small:CxOK Tryz.prog (cx_goquery_appendWithoutDuplicates_small):=cx_ok tb_ok if_ok (.cons ok_goquery_isInSlice Tryz.call87 .nil)
noncomputable def c_goquery_appendWithoutDuplicates_small_0:Code:=loopAt (Go.Proofs.Tryz.f53.body.getD .skip) 0
noncomputable def l_goquery_appendWithoutDuplicates_small_0:LEnt:=⟨p_goquery_appendWithoutDuplicates_small_0,x_goquery_appendWithoutDuplicates_small_0,loopO (m_goquery_appendWithoutDuplicates_small_0)⟩
theorem lo_goquery_appendWithoutDuplicates_small_0:LOK Tryz.prog 74 0 false (l_goquery_appendWithoutDuplicates_small_0) c_goquery_appendWithoutDuplicates_small_0:=loop_ok (body:=m_goquery_appendWithoutDuplicates_small_0) (L:=lookL []) (ck_goquery_appendWithoutDuplicates_small) mixed (ls_ok (l:=[]) (by kernel_rfl) .nil) (by intro x; kernel_rfl) (fun x y h=>loopO_iff.1 h)
noncomputable def c_goquery_appendWithoutDuplicates_small_1:Code:=loopAt (Go.Proofs.Tryz.f53.body.getD .skip) 1
noncomputable def l_goquery_appendWithoutDuplicates_small_1:LEnt:=⟨p_goquery_appendWithoutDuplicates_small_1,x_goquery_appendWithoutDuplicates_small_1,loopO (m_goquery_appendWithoutDuplicates_small_1)⟩
theorem lo_goquery_appendWithoutDuplicates_small_1:LOK Tryz.prog 74 0 false (l_goquery_appendWithoutDuplicates_small_1) c_goquery_appendWithoutDuplicates_small_1:=loop_ok (body:=m_goquery_appendWithoutDuplicates_small_1) (L:=lookL []) (ck_goquery_appendWithoutDuplicates_small) mixed (ls_ok (l:=[]) (by kernel_rfl) .nil) (by intro x; kernel_rfl) (fun x y h=>loopO_iff.1 h)
noncomputable def c_goquery_appendWithoutDuplicates_small_2:Code:=loopAt (Go.Proofs.Tryz.f53.body.getD .skip) 2
noncomputable def l_goquery_appendWithoutDuplicates_small_2:LEnt:=⟨p_goquery_appendWithoutDuplicates_small_2,x_goquery_appendWithoutDuplicates_small_2,loopO (m_goquery_appendWithoutDuplicates_small_2)⟩
theorem lo_goquery_appendWithoutDuplicates_small_2:LOK Tryz.prog 74 0 false (l_goquery_appendWithoutDuplicates_small_2) c_goquery_appendWithoutDuplicates_small_2:=loop_ok (body:=m_goquery_appendWithoutDuplicates_small_2) (L:=lookL []) (ck_goquery_appendWithoutDuplicates_small) mixed (ls_ok (l:=[]) (by kernel_rfl) .nil) (by intro x; kernel_rfl) (fun x y h=>loopO_iff.1 h)
noncomputable def e_goquery_appendWithoutDuplicates_small:Ent:=⟨0,p_goquery_appendWithoutDuplicates_small,q_goquery_appendWithoutDuplicates_small,m_goquery_appendWithoutDuplicates_small⟩
theorem ok_goquery_appendWithoutDuplicates_small:FnOK Tryz.prog 53 e_goquery_appendWithoutDuplicates_small:=fn_ok (L:=lookL [(0,l_goquery_appendWithoutDuplicates_small_0),(2,l_goquery_appendWithoutDuplicates_small_1),(4,l_goquery_appendWithoutDuplicates_small_2)]) ck_goquery_appendWithoutDuplicates_small mixed Tryz.func53 rfl (by kernel_rfl) (by kernel_rfl) (ls_ok (l:=[(0,c_goquery_appendWithoutDuplicates_small_0),(2,c_goquery_appendWithoutDuplicates_small_1),(4,c_goquery_appendWithoutDuplicates_small_2)]) (by kernel_rfl) (.cons rfl (lo_goquery_appendWithoutDuplicates_small_0) (.cons rfl (lo_goquery_appendWithoutDuplicates_small_1) (.cons rfl (lo_goquery_appendWithoutDuplicates_small_2) .nil)))) (by intro x; kernel_rfl)
abbrev p_goquery_Selection_AddNodes_nil:Pt:=[(0, .fp (.rc .nil [] 2)),(1, .lst .np)]
abbrev q_goquery_Selection_AddNodes_nil:Pt:=[(0, .fp (.rc .nps [] 2))]
noncomputable def m_goquery_Selection_AddNodes_nil:Tup p_goquery_Selection_AddNodes_nil→Option (Tup q_goquery_Selection_AddNodes_nil):=fun (x:PUnit×List (Option Nat))=>Option.bind (m_goquery_appendWithoutDuplicates_small ([],x.2,())) fun (r:List (Option Nat))=>Option.bind (m_goquery_pushStack ([],r)) fun (r:List (Option Nat))=>some r
noncomputable def cx_goquery_Selection_AddNodes_nil:Cx:=⟨tb,lookE [(53,e_goquery_appendWithoutDuplicates_small),(52,e_goquery_pushStack)],lookS [],mth,ast⟩
theorem ck_goquery_Selection_AddNodes_nil:CxOK Tryz.prog (cx_goquery_Selection_AddNodes_nil):=cx_ok tb_ok if_ok (.cons ok_goquery_appendWithoutDuplicates_small Tryz.call53 (.cons ok_goquery_pushStack Tryz.call52 .nil))
noncomputable def e_goquery_Selection_AddNodes_nil:Ent:=⟨0,p_goquery_Selection_AddNodes_nil,q_goquery_Selection_AddNodes_nil,m_goquery_Selection_AddNodes_nil⟩
theorem ok_goquery_Selection_AddNodes_nil:FnOK Tryz.prog 28 e_goquery_Selection_AddNodes_nil:=fn_ok (L:=lookL []) ck_goquery_Selection_AddNodes_nil mixed Tryz.func28 rfl (by kernel_rfl) (by kernel_rfl) (ls_ok (l:=[]) (by kernel_rfl) .nil) (by intro x; kernel_rfl)
end Go.Proofs.YtkmigbicabfodaaGreat.V
set_option linter.unusedVariables false
set_option linter.unusedSimpArgs false
namespace Go.Proofs.YtkmigbicabfodaaGreat.V
open Go Go.Proofs
abbrev p_html_Node_InsertBefore:Pt:=[(0, .np),(1, .np),(2, .np),(NT, .ns .h 82 135)]
abbrev q_html_Node_InsertBefore:Pt:=[(NT, .ns .h 82 135)]
noncomputable def m_html_Node_InsertBefore:Tup p_html_Node_InsertBefore→Option (Tup q_html_Node_InsertBefore):=fun (x:Option Nat×Option Nat×Option Nat×List HN)=>Option.bind x.2.1 fun (i:Nat)=>Option.bind (some i) fun (i:Nat)=>Option.bind x.2.2.2[i]? fun (h:HN)=>bif !Option.isNone (HN.par h) then none else Option.bind x.2.1 fun (i:Nat)=>Option.bind (some i) fun (i:Nat)=>Option.bind x.2.2.2[i]? fun (h:HN)=>bif !Option.isNone (HN.prv h) then none else Option.bind x.2.1 fun (i:Nat)=>Option.bind (some i) fun (i:Nat)=>Option.bind x.2.2.2[i]? fun (h:HN)=>bif !Option.isNone (HN.nxt h) then none else bif !Option.isNone x.2.2.1 then Option.bind x.2.2.1 fun (i:Nat)=>Option.bind (some i) fun (i:Nat)=>Option.bind x.2.2.2[i]? fun (h:HN)=>bif !Option.isNone (HN.prv h) then Option.bind (HN.prv h) fun (i:Nat)=>Option.bind (some i) fun (i:Nat)=>Option.bind x.2.2.2[i]? fun (h_1:HN)=>bif !Option.isNone x.2.2.1 then Option.bind x.2.2.1 fun (i_1:Nat)=>Option.bind (some i_1) fun (i_2:Nat)=>Option.bind (List.set x.2.2.2 i { h_1 with nxt:=x.2.1 })[i_2]? fun (h_2:HN)=>Option.bind x.2.1 fun (i_3:Nat)=>Option.bind (some i_3) fun (i_4:Nat)=>Option.bind (List.set (List.set x.2.2.2 i { h_1 with nxt:=x.2.1 }) i_2 { h_2 with prv:=x.2.1 })[i_4]? fun (h_3:HN)=>Option.bind x.2.1 fun (i_5:Nat)=>Option.bind (some i_5) fun (i_6:Nat)=>Option.bind (List.set (List.set (List.set x.2.2.2 i { h_1 with nxt:=x.2.1 }) i_2 { h_2 with prv:=x.2.1 }) i_4 { h_3 with par:=x.1 })[i_6]? fun (h_4:HN)=>Option.bind x.2.1 fun (i_7:Nat)=>Option.bind (some i_7) fun (i_8:Nat)=>Option.bind (List.set (List.set (List.set (List.set x.2.2.2 i { h_1 with nxt:=x.2.1 }) i_2 { h_2 with prv:=x.2.1 }) i_4 { h_3 with par:=x.1 }) i_6 { h_4 with prv:=HN.prv h })[i_8]? fun (h_5:HN)=>some (List.set (List.set (List.set (List.set (List.set x.2.2.2 i { h_1 with nxt:=x.2.1 }) i_2 { h_2 with prv:=x.2.1 }) i_4 { h_3 with par:=x.1 }) i_6 { h_4 with prv:=HN.prv h }) i_8 { h_5 with nxt:=x.2.2.1 }) else Option.bind x.1 fun (i_1:Nat)=>Option.bind (some i_1) fun (i_2:Nat)=>Option.bind (List.set x.2.2.2 i { h_1 with nxt:=x.2.1 })[i_2]? fun (h_2:HN)=>Option.bind x.2.1 fun (i_3:Nat)=>Option.bind (some i_3) fun (i_4:Nat)=>Option.bind (List.set (List.set x.2.2.2 i { h_1 with nxt:=x.2.1 }) i_2 { h_2 with lst:=x.2.1 })[i_4]? fun (h_3:HN)=>Option.bind x.2.1 fun (i_5:Nat)=>Option.bind (some i_5) fun (i_6:Nat)=>Option.bind (List.set (List.set (List.set x.2.2.2 i { h_1 with nxt:=x.2.1 }) i_2 { h_2 with lst:=x.2.1 }) i_4 { h_3 with par:=x.1 })[i_6]? fun (h_4:HN)=>Option.bind x.2.1 fun (i_7:Nat)=>Option.bind (some i_7) fun (i_8:Nat)=>Option.bind (List.set (List.set (List.set (List.set x.2.2.2 i { h_1 with nxt:=x.2.1 }) i_2 { h_2 with lst:=x.2.1 }) i_4 { h_3 with par:=x.1 }) i_6 { h_4 with prv:=HN.prv h })[i_8]? fun (h_5:HN)=>some (List.set (List.set (List.set (List.set (List.set x.2.2.2 i { h_1 with nxt:=x.2.1 }) i_2 { h_2 with lst:=x.2.1 }) i_4 { h_3 with par:=x.1 }) i_6 { h_4 with prv:=HN.prv h }) i_8 { h_5 with nxt:=x.2.2.1 }) else Option.bind x.1 fun (i:Nat)=>Option.bind (some i) fun (i:Nat)=>Option.bind x.2.2.2[i]? fun (h_1:HN)=>bif !Option.isNone x.2.2.1 then Option.bind x.2.2.1 fun (i_1:Nat)=>Option.bind (some i_1) fun (i_2:Nat)=>Option.bind (List.set x.2.2.2 i { h_1 with fst:=x.2.1 })[i_2]? fun (h_2:HN)=>Option.bind x.2.1 fun (i_3:Nat)=>Option.bind (some i_3) fun (i_4:Nat)=>Option.bind (List.set (List.set x.2.2.2 i { h_1 with fst:=x.2.1 }) i_2 { h_2 with prv:=x.2.1 })[i_4]? fun (h_3:HN)=>Option.bind x.2.1 fun (i_5:Nat)=>Option.bind (some i_5) fun (i_6:Nat)=>Option.bind (List.set (List.set (List.set x.2.2.2 i { h_1 with fst:=x.2.1 }) i_2 { h_2 with prv:=x.2.1 }) i_4 { h_3 with par:=x.1 })[i_6]? fun (h_4:HN)=>Option.bind x.2.1 fun (i_7:Nat)=>Option.bind (some i_7) fun (i_8:Nat)=>Option.bind (List.set (List.set (List.set (List.set x.2.2.2 i { h_1 with fst:=x.2.1 }) i_2 { h_2 with prv:=x.2.1 }) i_4 { h_3 with par:=x.1 }) i_6 { h_4 with prv:=HN.prv h })[i_8]? fun (h_5:HN)=>some (List.set (List.set (List.set (List.set (List.set x.2.2.2 i { h_1 with fst:=x.2.1 }) i_2 { h_2 with prv:=x.2.1 }) i_4 { h_3 with par:=x.1 }) i_6 { h_4 with prv:=HN.prv h }) i_8 { h_5 with nxt:=x.2.2.1 }) else Option.bind x.1 fun (i_1:Nat)=>Option.bind (some i_1) fun (i_2:Nat)=>Option.bind (List.set x.2.2.2 i { h_1 with fst:=x.2.1 })[i_2]? fun (h_2:HN)=>Option.bind x.2.1 fun (i_3:Nat)=>Option.bind (some i_3) fun (i_4:Nat)=>Option.bind (List.set (List.set x.2.2.2 i { h_1 with fst:=x.2.1 }) i_2 { h_2 with lst:=x.2.1 })[i_4]? fun (h_3:HN)=>Option.bind x.2.1 fun (i_5:Nat)=>Option.bind (some i_5) fun (i_6:Nat)=>Option.bind (List.set (List.set (List.set x.2.2.2 i { h_1 with fst:=x.2.1 }) i_2 { h_2 with lst:=x.2.1 }) i_4 { h_3 with par:=x.1 })[i_6]? fun (h_4:HN)=>Option.bind x.2.1 fun (i_7:Nat)=>Option.bind (some i_7) fun (i_8:Nat)=>Option.bind (List.set (List.set (List.set (List.set x.2.2.2 i { h_1 with fst:=x.2.1 }) i_2 { h_2 with lst:=x.2.1 }) i_4 { h_3 with par:=x.1 }) i_6 { h_4 with prv:=HN.prv h })[i_8]? fun (h_5:HN)=>some (List.set (List.set (List.set (List.set (List.set x.2.2.2 i { h_1 with fst:=x.2.1 }) i_2 { h_2 with lst:=x.2.1 }) i_4 { h_3 with par:=x.1 }) i_6 { h_4 with prv:=HN.prv h }) i_8 { h_5 with nxt:=x.2.2.1 }) else Option.bind x.1 fun (i:Nat)=>Option.bind (some i) fun (i:Nat)=>Option.bind x.2.2.2[i]? fun (h:HN)=>bif !Option.isNone (HN.lst h) then Option.bind (HN.lst h) fun (i:Nat)=>Option.bind (some i) fun (i:Nat)=>Option.bind x.2.2.2[i]? fun (h_1:HN)=>Option.bind x.1 fun (i_1:Nat)=>Option.bind (some i_1) fun (i_2:Nat)=>Option.bind (List.set x.2.2.2 i { h_1 with nxt:=x.2.1 })[i_2]? fun (h_2:HN)=>Option.bind x.2.1 fun (i_3:Nat)=>Option.bind (some i_3) fun (i_4:Nat)=>Option.bind (List.set (List.set x.2.2.2 i { h_1 with nxt:=x.2.1 }) i_2 { h_2 with lst:=x.2.1 })[i_4]? fun (h_3:HN)=>Option.bind x.2.1 fun (i_5:Nat)=>Option.bind (some i_5) fun (i_6:Nat)=>Option.bind (List.set (List.set (List.set x.2.2.2 i { h_1 with nxt:=x.2.1 }) i_2 { h_2 with lst:=x.2.1 }) i_4 { h_3 with par:=x.1 })[i_6]? fun (h_4:HN)=>Option.bind x.2.1 fun (i_7:Nat)=>Option.bind (some i_7) fun (i_8:Nat)=>Option.bind (List.set (List.set (List.set (List.set x.2.2.2 i { h_1 with nxt:=x.2.1 }) i_2 { h_2 with lst:=x.2.1 }) i_4 { h_3 with par:=x.1 }) i_6 { h_4 with prv:=HN.lst h })[i_8]? fun (h_5:HN)=>some (List.set (List.set (List.set (List.set (List.set x.2.2.2 i { h_1 with nxt:=x.2.1 }) i_2 { h_2 with lst:=x.2.1 }) i_4 { h_3 with par:=x.1 }) i_6 { h_4 with prv:=HN.lst h }) i_8 { h_5 with nxt:=none }) else Option.bind x.1 fun (i:Nat)=>Option.bind (some i) fun (i:Nat)=>Option.bind x.2.2.2[i]? fun (h_1:HN)=>Option.bind x.1 fun (i_1:Nat)=>Option.bind (some i_1) fun (i_2:Nat)=>Option.bind (List.set x.2.2.2 i { h_1 with fst:=x.2.1 })[i_2]? fun (h_2:HN)=>Option.bind x.2.1 fun (i_3:Nat)=>Option.bind (some i_3) fun (i_4:Nat)=>Option.bind (List.set (List.set x.2.2.2 i { h_1 with fst:=x.2.1 }) i_2 { h_2 with lst:=x.2.1 })[i_4]? fun (h_3:HN)=>Option.bind x.2.1 fun (i_5:Nat)=>Option.bind (some i_5) fun (i_6:Nat)=>Option.bind (List.set (List.set (List.set x.2.2.2 i { h_1 with fst:=x.2.1 }) i_2 { h_2 with lst:=x.2.1 }) i_4 { h_3 with par:=x.1 })[i_6]? fun (h_4:HN)=>Option.bind x.2.1 fun (i_7:Nat)=>Option.bind (some i_7) fun (i_8:Nat)=>Option.bind (List.set (List.set (List.set (List.set x.2.2.2 i { h_1 with fst:=x.2.1 }) i_2 { h_2 with lst:=x.2.1 }) i_4 { h_3 with par:=x.1 }) i_6 { h_4 with prv:=HN.lst h })[i_8]? fun (h_5:HN)=>some (List.set (List.set (List.set (List.set (List.set x.2.2.2 i { h_1 with fst:=x.2.1 }) i_2 { h_2 with lst:=x.2.1 }) i_4 { h_3 with par:=x.1 }) i_6 { h_4 with prv:=HN.lst h }) i_8 { h_5 with nxt:=none })
noncomputable def cx_html_Node_InsertBefore:Cx:=⟨tb,lookE [],lookS [],mth,ast⟩
theorem ck_html_Node_InsertBefore:CxOK Tryz.prog (cx_html_Node_InsertBefore):=cx_ok tb_ok if_ok .nil
noncomputable def e_html_Node_InsertBefore:Ent:=⟨0,p_html_Node_InsertBefore,q_html_Node_InsertBefore,m_html_Node_InsertBefore⟩
theorem ok_html_Node_InsertBefore:FnOK Tryz.prog 34 e_html_Node_InsertBefore:=fn_ok (L:=lookL []) ck_html_Node_InsertBefore mixed Tryz.func34 rfl (by kernel_rfl) (by kernel_rfl) (ls_ok (l:=[]) (by kernel_rfl) .nil) (by intro x; kernel_rfl)
abbrev p_html_Node_RemoveChild:Pt:=[(0, .np),(1, .np),(NT, .ns .h 82 135)]
abbrev q_html_Node_RemoveChild:Pt:=[(NT, .ns .h 82 135)]
noncomputable def m_html_Node_RemoveChild:Tup p_html_Node_RemoveChild→Option (Tup q_html_Node_RemoveChild):=fun (x:Option Nat×Option Nat×List HN)=>Option.bind x.2.1 fun (i:Nat)=>Option.bind (some i) fun (i:Nat)=>Option.bind x.2.2[i]? fun (h:HN)=>bif !decide (HN.par h=x.1) then none else Option.bind x.1 fun (i:Nat)=>Option.bind (some i) fun (i:Nat)=>Option.bind x.2.2[i]? fun (h:HN)=>bif decide (HN.fst h=x.2.1) then Option.bind x.2.1 fun (i:Nat)=>Option.bind (some i) fun (i:Nat)=>Option.bind x.2.2[i]? fun (h:HN)=>Option.bind x.1 fun (i:Nat)=>Option.bind (some i) fun (i:Nat)=>Option.bind x.2.2[i]? fun (h_1:HN)=>Option.bind x.2.1 fun (i_1:Nat)=>Option.bind (some i_1) fun (i_2:Nat)=>Option.bind (List.set x.2.2 i { h_1 with fst:=HN.nxt h })[i_2]? fun (h_2:HN)=>bif !Option.isNone (HN.nxt h_2) then Option.bind x.2.1 fun (i_3:Nat)=>Option.bind (some i_3) fun (i_4:Nat)=>Option.bind (List.set x.2.2 i { h_1 with fst:=HN.nxt h })[i_4]? fun (h_3:HN)=>Option.bind x.2.1 fun (i_5:Nat)=>Option.bind (some i_5) fun (i_6:Nat)=>Option.bind (List.set x.2.2 i { h_1 with fst:=HN.nxt h })[i_6]? fun (h_4:HN)=>Option.bind (HN.nxt h_3) fun (i_7:Nat)=>Option.bind (some i_7) fun (i_8:Nat)=>Option.bind (List.set x.2.2 i { h_1 with fst:=HN.nxt h })[i_8]? fun (h_5:HN)=>Option.bind x.1 fun (i_9:Nat)=>Option.bind (some i_9) fun (i_10:Nat)=>Option.bind (List.set (List.set x.2.2 i { h_1 with fst:=HN.nxt h }) i_8 { h_5 with prv:=HN.prv h_4 })[i_10]? fun (h_6:HN)=>bif decide (HN.lst h_6=x.2.1) then Option.bind x.2.1 fun (i_11:Nat)=>Option.bind (some i_11) fun (i_12:Nat)=>Option.bind (List.set (List.set x.2.2 i { h_1 with fst:=HN.nxt h }) i_8 { h_5 with prv:=HN.prv h_4 })[i_12]? fun (h_7:HN)=>Option.bind x.1 fun (i_13:Nat)=>Option.bind (some i_13) fun (i_14:Nat)=>Option.bind (List.set (List.set x.2.2 i { h_1 with fst:=HN.nxt h }) i_8 { h_5 with prv:=HN.prv h_4 })[i_14]? fun (h_8:HN)=>Option.bind x.2.1 fun (i_15:Nat)=>Option.bind (some i_15) fun (i_16:Nat)=>Option.bind (List.set (List.set (List.set x.2.2 i { h_1 with fst:=HN.nxt h }) i_8 { h_5 with prv:=HN.prv h_4 }) i_14 { h_8 with lst:=HN.prv h_7 })[i_16]? fun (h_9:HN)=>bif !Option.isNone (HN.prv h_9) then Option.bind x.2.1 fun (i_17:Nat)=>Option.bind (some i_17) fun (i_18:Nat)=>Option.bind (List.set (List.set (List.set x.2.2 i { h_1 with fst:=HN.nxt h }) i_8 { h_5 with prv:=HN.prv h_4 }) i_14 { h_8 with lst:=HN.prv h_7 })[i_18]? fun (h_10:HN)=>Option.bind x.2.1 fun (i_19:Nat)=>Option.bind (some i_19) fun (i_20:Nat)=>Option.bind (List.set (List.set (List.set x.2.2 i { h_1 with fst:=HN.nxt h }) i_8 { h_5 with prv:=HN.prv h_4 }) i_14 { h_8 with lst:=HN.prv h_7 })[i_20]? fun (h_11:HN)=>Option.bind (HN.prv h_10) fun (i_21:Nat)=>Option.bind (some i_21) fun (i_22:Nat)=>Option.bind (List.set (List.set (List.set x.2.2 i { h_1 with fst:=HN.nxt h }) i_8 { h_5 with prv:=HN.prv h_4 }) i_14 { h_8 with lst:=HN.prv h_7 })[i_22]? fun (h_12:HN)=>Option.bind x.2.1 fun (i_23:Nat)=>Option.bind (some i_23) fun (i_24:Nat)=>Option.bind (List.set (List.set (List.set (List.set x.2.2 i { h_1 with fst:=HN.nxt h }) i_8 { h_5 with prv:=HN.prv h_4 }) i_14 { h_8 with lst:=HN.prv h_7 }) i_22 { h_12 with nxt:=HN.nxt h_11 })[i_24]? fun (h_13:HN)=>Option.bind x.2.1 fun (i_25:Nat)=>Option.bind (some i_25) fun (i_26:Nat)=>Option.bind (List.set (List.set (List.set (List.set (List.set x.2.2 i { h_1 with fst:=HN.nxt h }) i_8 { h_5 with prv:=HN.prv h_4 }) i_14 { h_8 with lst:=HN.prv h_7 }) i_22 { h_12 with nxt:=HN.nxt h_11 }) i_24 { h_13 with par:=none })[i_26]? fun (h_14:HN)=>Option.bind x.2.1 fun (i_27:Nat)=>Option.bind (some i_27) fun (i_28:Nat)=>Option.bind (List.set (List.set (List.set (List.set (List.set (List.set x.2.2 i { h_1 with fst:=HN.nxt h }) i_8 { h_5 with prv:=HN.prv h_4 }) i_14 { h_8 with lst:=HN.prv h_7 }) i_22 { h_12 with nxt:=HN.nxt h_11 }) i_24 { h_13 with par:=none }) i_26 { h_14 with prv:=none })[i_28]? fun (h_15:HN)=>some (List.set (List.set (List.set (List.set (List.set (List.set (List.set x.2.2 i { h_1 with fst:=HN.nxt h }) i_8 { h_5 with prv:=HN.prv h_4 }) i_14 { h_8 with lst:=HN.prv h_7 }) i_22 { h_12 with nxt:=HN.nxt h_11 }) i_24 { h_13 with par:=none }) i_26 { h_14 with prv:=none }) i_28 { h_15 with nxt:=none }) else Option.bind x.2.1 fun (i_17:Nat)=>Option.bind (some i_17) fun (i_18:Nat)=>Option.bind (List.set (List.set (List.set x.2.2 i { h_1 with fst:=HN.nxt h }) i_8 { h_5 with prv:=HN.prv h_4 }) i_14 { h_8 with lst:=HN.prv h_7 })[i_18]? fun (h_10:HN)=>Option.bind x.2.1 fun (i_19:Nat)=>Option.bind (some i_19) fun (i_20:Nat)=>Option.bind (List.set (List.set (List.set (List.set x.2.2 i { h_1 with fst:=HN.nxt h }) i_8 { h_5 with prv:=HN.prv h_4 }) i_14 { h_8 with lst:=HN.prv h_7 }) i_18 { h_10 with par:=none })[i_20]? fun (h_11:HN)=>Option.bind x.2.1 fun (i_21:Nat)=>Option.bind (some i_21) fun (i_22:Nat)=>Option.bind (List.set (List.set (List.set (List.set (List.set x.2.2 i { h_1 with fst:=HN.nxt h }) i_8 { h_5 with prv:=HN.prv h_4 }) i_14 { h_8 with lst:=HN.prv h_7 }) i_18 { h_10 with par:=none }) i_20 { h_11 with prv:=none })[i_22]? fun (h_12:HN)=>some (List.set (List.set (List.set (List.set (List.set (List.set x.2.2 i { h_1 with fst:=HN.nxt h }) i_8 { h_5 with prv:=HN.prv h_4 }) i_14 { h_8 with lst:=HN.prv h_7 }) i_18 { h_10 with par:=none }) i_20 { h_11 with prv:=none }) i_22 { h_12 with nxt:=none }) else Option.bind x.2.1 fun (i_11:Nat)=>Option.bind (some i_11) fun (i_12:Nat)=>Option.bind (List.set (List.set x.2.2 i { h_1 with fst:=HN.nxt h }) i_8 { h_5 with prv:=HN.prv h_4 })[i_12]? fun (h_7:HN)=>bif !Option.isNone (HN.prv h_7) then Option.bind x.2.1 fun (i_13:Nat)=>Option.bind (some i_13) fun (i_14:Nat)=>Option.bind (List.set (List.set x.2.2 i { h_1 with fst:=HN.nxt h }) i_8 { h_5 with prv:=HN.prv h_4 })[i_14]? fun (h_8:HN)=>Option.bind x.2.1 fun (i_15:Nat)=>Option.bind (some i_15) fun (i_16:Nat)=>Option.bind (List.set (List.set x.2.2 i { h_1 with fst:=HN.nxt h }) i_8 { h_5 with prv:=HN.prv h_4 })[i_16]? fun (h_9:HN)=>Option.bind (HN.prv h_8) fun (i_17:Nat)=>Option.bind (some i_17) fun (i_18:Nat)=>Option.bind (List.set (List.set x.2.2 i { h_1 with fst:=HN.nxt h }) i_8 { h_5 with prv:=HN.prv h_4 })[i_18]? fun (h_10:HN)=>Option.bind x.2.1 fun (i_19:Nat)=>Option.bind (some i_19) fun (i_20:Nat)=>Option.bind (List.set (List.set (List.set x.2.2 i { h_1 with fst:=HN.nxt h }) i_8 { h_5 with prv:=HN.prv h_4 }) i_18 { h_10 with nxt:=HN.nxt h_9 })[i_20]? fun (h_11:HN)=>Option.bind x.2.1 fun (i_21:Nat)=>Option.bind (some i_21) fun (i_22:Nat)=>Option.bind (List.set (List.set (List.set (List.set x.2.2 i { h_1 with fst:=HN.nxt h }) i_8 { h_5 with prv:=HN.prv h_4 }) i_18 { h_10 with nxt:=HN.nxt h_9 }) i_20 { h_11 with par:=none })[i_22]? fun (h_12:HN)=>Option.bind x.2.1 fun (i_23:Nat)=>Option.bind (some i_23) fun (i_24:Nat)=>Option.bind (List.set (List.set (List.set (List.set (List.set x.2.2 i { h_1 with fst:=HN.nxt h }) i_8 { h_5 with prv:=HN.prv h_4 }) i_18 { h_10 with nxt:=HN.nxt h_9 }) i_20 { h_11 with par:=none }) i_22 { h_12 with prv:=none })[i_24]? fun (h_13:HN)=>some (List.set (List.set (List.set (List.set (List.set (List.set x.2.2 i { h_1 with fst:=HN.nxt h }) i_8 { h_5 with prv:=HN.prv h_4 }) i_18 { h_10 with nxt:=HN.nxt h_9 }) i_20 { h_11 with par:=none }) i_22 { h_12 with prv:=none }) i_24 { h_13 with nxt:=none }) else Option.bind x.2.1 fun (i_13:Nat)=>Option.bind (some i_13) fun (i_14:Nat)=>Option.bind (List.set (List.set x.2.2 i { h_1 with fst:=HN.nxt h }) i_8 { h_5 with prv:=HN.prv h_4 })[i_14]? fun (h_8:HN)=>Option.bind x.2.1 fun (i_15:Nat)=>Option.bind (some i_15) fun (i_16:Nat)=>Option.bind (List.set (List.set (List.set x.2.2 i { h_1 with fst:=HN.nxt h }) i_8 { h_5 with prv:=HN.prv h_4 }) i_14 { h_8 with par:=none })[i_16]? fun (h_9:HN)=>Option.bind x.2.1 fun (i_17:Nat)=>Option.bind (some i_17) fun (i_18:Nat)=>Option.bind (List.set (List.set (List.set (List.set x.2.2 i { h_1 with fst:=HN.nxt h }) i_8 { h_5 with prv:=HN.prv h_4 }) i_14 { h_8 with par:=none }) i_16 { h_9 with prv:=none })[i_18]? fun (h_10:HN)=>some (List.set (List.set (List.set (List.set (List.set x.2.2 i { h_1 with fst:=HN.nxt h }) i_8 { h_5 with prv:=HN.prv h_4 }) i_14 { h_8 with par:=none }) i_16 { h_9 with prv:=none }) i_18 { h_10 with nxt:=none }) else Option.bind x.1 fun (i_3:Nat)=>Option.bind (some i_3) fun (i_4:Nat)=>Option.bind (List.set x.2.2 i { h_1 with fst:=HN.nxt h })[i_4]? fun (h_3:HN)=>bif decide (HN.lst h_3=x.2.1) then Option.bind x.2.1 fun (i_5:Nat)=>Option.bind (some i_5) fun (i_6:Nat)=>Option.bind (List.set x.2.2 i { h_1 with fst:=HN.nxt h })[i_6]? fun (h_4:HN)=>Option.bind x.1 fun (i_7:Nat)=>Option.bind (some i_7) fun (i_8:Nat)=>Option.bind (List.set x.2.2 i { h_1 with fst:=HN.nxt h })[i_8]? fun (h_5:HN)=>Option.bind x.2.1 fun (i_9:Nat)=>Option.bind (some i_9) fun (i_10:Nat)=>Option.bind (List.set (List.set x.2.2 i { h_1 with fst:=HN.nxt h }) i_8 { h_5 with lst:=HN.prv h_4 })[i_10]? fun (h_6:HN)=>bif !Option.isNone (HN.prv h_6) then Option.bind x.2.1 fun (i_11:Nat)=>Option.bind (some i_11) fun (i_12:Nat)=>Option.bind (List.set (List.set x.2.2 i { h_1 with fst:=HN.nxt h }) i_8 { h_5 with lst:=HN.prv h_4 })[i_12]? fun (h_7:HN)=>Option.bind x.2.1 fun (i_13:Nat)=>Option.bind (some i_13) fun (i_14:Nat)=>Option.bind (List.set (List.set x.2.2 i { h_1 with fst:=HN.nxt h }) i_8 { h_5 with lst:=HN.prv h_4 })[i_14]? fun (h_8:HN)=>Option.bind (HN.prv h_7) fun (i_15:Nat)=>Option.bind (some i_15) fun (i_16:Nat)=>Option.bind (List.set (List.set x.2.2 i { h_1 with fst:=HN.nxt h }) i_8 { h_5 with lst:=HN.prv h_4 })[i_16]? fun (h_9:HN)=>Option.bind x.2.1 fun (i_17:Nat)=>Option.bind (some i_17) fun (i_18:Nat)=>Option.bind (List.set (List.set (List.set x.2.2 i { h_1 with fst:=HN.nxt h }) i_8 { h_5 with lst:=HN.prv h_4 }) i_16 { h_9 with nxt:=HN.nxt h_8 })[i_18]? fun (h_10:HN)=>Option.bind x.2.1 fun (i_19:Nat)=>Option.bind (some i_19) fun (i_20:Nat)=>Option.bind (List.set (List.set (List.set (List.set x.2.2 i { h_1 with fst:=HN.nxt h }) i_8 { h_5 with lst:=HN.prv h_4 }) i_16 { h_9 with nxt:=HN.nxt h_8 }) i_18 { h_10 with par:=none })[i_20]? fun (h_11:HN)=>Option.bind x.2.1 fun (i_21:Nat)=>Option.bind (some i_21) fun (i_22:Nat)=>Option.bind (List.set (List.set (List.set (List.set (List.set x.2.2 i { h_1 with fst:=HN.nxt h }) i_8 { h_5 with lst:=HN.prv h_4 }) i_16 { h_9 with nxt:=HN.nxt h_8 }) i_18 { h_10 with par:=none }) i_20 { h_11 with prv:=none })[i_22]? fun (h_12:HN)=>some (List.set (List.set (List.set (List.set (List.set (List.set x.2.2 i { h_1 with fst:=HN.nxt h }) i_8 { h_5 with lst:=HN.prv h_4 }) i_16 { h_9 with nxt:=HN.nxt h_8 }) i_18 { h_10 with par:=none }) i_20 { h_11 with prv:=none }) i_22 { h_12 with nxt:=none }) else Option.bind x.2.1 fun (i_11:Nat)=>Option.bind (some i_11) fun (i_12:Nat)=>Option.bind (List.set (List.set x.2.2 i { h_1 with fst:=HN.nxt h }) i_8 { h_5 with lst:=HN.prv h_4 })[i_12]? fun (h_7:HN)=>Option.bind x.2.1 fun (i_13:Nat)=>Option.bind (some i_13) fun (i_14:Nat)=>Option.bind (List.set (List.set (List.set x.2.2 i { h_1 with fst:=HN.nxt h }) i_8 { h_5 with lst:=HN.prv h_4 }) i_12 { h_7 with par:=none })[i_14]? fun (h_8:HN)=>Option.bind x.2.1 fun (i_15:Nat)=>Option.bind (some i_15) fun (i_16:Nat)=>Option.bind (List.set (List.set (List.set (List.set x.2.2 i { h_1 with fst:=HN.nxt h }) i_8 { h_5 with lst:=HN.prv h_4 }) i_12 { h_7 with par:=none }) i_14 { h_8 with prv:=none })[i_16]? fun (h_9:HN)=>some (List.set (List.set (List.set (List.set (List.set x.2.2 i { h_1 with fst:=HN.nxt h }) i_8 { h_5 with lst:=HN.prv h_4 }) i_12 { h_7 with par:=none }) i_14 { h_8 with prv:=none }) i_16 { h_9 with nxt:=none }) else Option.bind x.2.1 fun (i_5:Nat)=>Option.bind (some i_5) fun (i_6:Nat)=>Option.bind (List.set x.2.2 i { h_1 with fst:=HN.nxt h })[i_6]? fun (h_4:HN)=>bif !Option.isNone (HN.prv h_4) then Option.bind x.2.1 fun (i_7:Nat)=>Option.bind (some i_7) fun (i_8:Nat)=>Option.bind (List.set x.2.2 i { h_1 with fst:=HN.nxt h })[i_8]? fun (h_5:HN)=>Option.bind x.2.1 fun (i_9:Nat)=>Option.bind (some i_9) fun (i_10:Nat)=>Option.bind (List.set x.2.2 i { h_1 with fst:=HN.nxt h })[i_10]? fun (h_6:HN)=>Option.bind (HN.prv h_5) fun (i_11:Nat)=>Option.bind (some i_11) fun (i_12:Nat)=>Option.bind (List.set x.2.2 i { h_1 with fst:=HN.nxt h })[i_12]? fun (h_7:HN)=>Option.bind x.2.1 fun (i_13:Nat)=>Option.bind (some i_13) fun (i_14:Nat)=>Option.bind (List.set (List.set x.2.2 i { h_1 with fst:=HN.nxt h }) i_12 { h_7 with nxt:=HN.nxt h_6 })[i_14]? fun (h_8:HN)=>Option.bind x.2.1 fun (i_15:Nat)=>Option.bind (some i_15) fun (i_16:Nat)=>Option.bind (List.set (List.set (List.set x.2.2 i { h_1 with fst:=HN.nxt h }) i_12 { h_7 with nxt:=HN.nxt h_6 }) i_14 { h_8 with par:=none })[i_16]? fun (h_9:HN)=>Option.bind x.2.1 fun (i_17:Nat)=>Option.bind (some i_17) fun (i_18:Nat)=>Option.bind (List.set (List.set (List.set (List.set x.2.2 i { h_1 with fst:=HN.nxt h }) i_12 { h_7 with nxt:=HN.nxt h_6 }) i_14 { h_8 with par:=none }) i_16 { h_9 with prv:=none })[i_18]? fun (h_10:HN)=>some (List.set (List.set (List.set (List.set (List.set x.2.2 i { h_1 with fst:=HN.nxt h }) i_12 { h_7 with nxt:=HN.nxt h_6 }) i_14 { h_8 with par:=none }) i_16 { h_9 with prv:=none }) i_18 { h_10 with nxt:=none }) else Option.bind x.2.1 fun (i_7:Nat)=>Option.bind (some i_7) fun (i_8:Nat)=>Option.bind (List.set x.2.2 i { h_1 with fst:=HN.nxt h })[i_8]? fun (h_5:HN)=>Option.bind x.2.1 fun (i_9:Nat)=>Option.bind (some i_9) fun (i_10:Nat)=>Option.bind (List.set (List.set x.2.2 i { h_1 with fst:=HN.nxt h }) i_8 { h_5 with par:=none })[i_10]? fun (h_6:HN)=>Option.bind x.2.1 fun (i_11:Nat)=>Option.bind (some i_11) fun (i_12:Nat)=>Option.bind (List.set (List.set (List.set x.2.2 i { h_1 with fst:=HN.nxt h }) i_8 { h_5 with par:=none }) i_10 { h_6 with prv:=none })[i_12]? fun (h_7:HN)=>some (List.set (List.set (List.set (List.set x.2.2 i { h_1 with fst:=HN.nxt h }) i_8 { h_5 with par:=none }) i_10 { h_6 with prv:=none }) i_12 { h_7 with nxt:=none }) else Option.bind x.2.1 fun (i:Nat)=>Option.bind (some i) fun (i:Nat)=>Option.bind x.2.2[i]? fun (h:HN)=>bif !Option.isNone (HN.nxt h) then Option.bind x.2.1 fun (i:Nat)=>Option.bind (some i) fun (i:Nat)=>Option.bind x.2.2[i]? fun (h:HN)=>Option.bind x.2.1 fun (i:Nat)=>Option.bind (some i) fun (i:Nat)=>Option.bind x.2.2[i]? fun (h_1:HN)=>Option.bind (HN.nxt h) fun (i:Nat)=>Option.bind (some i) fun (i:Nat)=>Option.bind x.2.2[i]? fun (h:HN)=>Option.bind x.1 fun (i_1:Nat)=>Option.bind (some i_1) fun (i_2:Nat)=>Option.bind (List.set x.2.2 i { h with prv:=HN.prv h_1 })[i_2]? fun (h_2:HN)=>bif decide (HN.lst h_2=x.2.1) then Option.bind x.2.1 fun (i_3:Nat)=>Option.bind (some i_3) fun (i_4:Nat)=>Option.bind (List.set x.2.2 i { h with prv:=HN.prv h_1 })[i_4]? fun (h_3:HN)=>Option.bind x.1 fun (i_5:Nat)=>Option.bind (some i_5) fun (i_6:Nat)=>Option.bind (List.set x.2.2 i { h with prv:=HN.prv h_1 })[i_6]? fun (h_4:HN)=>Option.bind x.2.1 fun (i_7:Nat)=>Option.bind (some i_7) fun (i_8:Nat)=>Option.bind (List.set (List.set x.2.2 i { h with prv:=HN.prv h_1 }) i_6 { h_4 with lst:=HN.prv h_3 })[i_8]? fun (h_5:HN)=>bif !Option.isNone (HN.prv h_5) then Option.bind x.2.1 fun (i_9:Nat)=>Option.bind (some i_9) fun (i_10:Nat)=>Option.bind (List.set (List.set x.2.2 i { h with prv:=HN.prv h_1 }) i_6 { h_4 with lst:=HN.prv h_3 })[i_10]? fun (h_6:HN)=>Option.bind x.2.1 fun (i_11:Nat)=>Option.bind (some i_11) fun (i_12:Nat)=>Option.bind (List.set (List.set x.2.2 i { h with prv:=HN.prv h_1 }) i_6 { h_4 with lst:=HN.prv h_3 })[i_12]? fun (h_7:HN)=>Option.bind (HN.prv h_6) fun (i_13:Nat)=>Option.bind (some i_13) fun (i_14:Nat)=>Option.bind (List.set (List.set x.2.2 i { h with prv:=HN.prv h_1 }) i_6 { h_4 with lst:=HN.prv h_3 })[i_14]? fun (h_8:HN)=>Option.bind x.2.1 fun (i_15:Nat)=>Option.bind (some i_15) fun (i_16:Nat)=>Option.bind (List.set (List.set (List.set x.2.2 i { h with prv:=HN.prv h_1 }) i_6 { h_4 with lst:=HN.prv h_3 }) i_14 { h_8 with nxt:=HN.nxt h_7 })[i_16]? fun (h_9:HN)=>Option.bind x.2.1 fun (i_17:Nat)=>Option.bind (some i_17) fun (i_18:Nat)=>Option.bind (List.set (List.set (List.set (List.set x.2.2 i { h with prv:=HN.prv h_1 }) i_6 { h_4 with lst:=HN.prv h_3 }) i_14 { h_8 with nxt:=HN.nxt h_7 }) i_16 { h_9 with par:=none })[i_18]? fun (h_10:HN)=>Option.bind x.2.1 fun (i_19:Nat)=>Option.bind (some i_19) fun (i_20:Nat)=>Option.bind (List.set (List.set (List.set (List.set (List.set x.2.2 i { h with prv:=HN.prv h_1 }) i_6 { h_4 with lst:=HN.prv h_3 }) i_14 { h_8 with nxt:=HN.nxt h_7 }) i_16 { h_9 with par:=none }) i_18 { h_10 with prv:=none })[i_20]? fun (h_11:HN)=>some (List.set (List.set (List.set (List.set (List.set (List.set x.2.2 i { h with prv:=HN.prv h_1 }) i_6 { h_4 with lst:=HN.prv h_3 }) i_14 { h_8 with nxt:=HN.nxt h_7 }) i_16 { h_9 with par:=none }) i_18 { h_10 with prv:=none }) i_20 { h_11 with nxt:=none }) else Option.bind x.2.1 fun (i_9:Nat)=>Option.bind (some i_9) fun (i_10:Nat)=>Option.bind (List.set (List.set x.2.2 i { h with prv:=HN.prv h_1 }) i_6 { h_4 with lst:=HN.prv h_3 })[i_10]? fun (h_6:HN)=>Option.bind x.2.1 fun (i_11:Nat)=>Option.bind (some i_11) fun (i_12:Nat)=>Option.bind (List.set (List.set (List.set x.2.2 i { h with prv:=HN.prv h_1 }) i_6 { h_4 with lst:=HN.prv h_3 }) i_10 { h_6 with par:=none })[i_12]? fun (h_7:HN)=>Option.bind x.2.1 fun (i_13:Nat)=>Option.bind (some i_13) fun (i_14:Nat)=>Option.bind (List.set (List.set (List.set (List.set x.2.2 i { h with prv:=HN.prv h_1 }) i_6 { h_4 with lst:=HN.prv h_3 }) i_10 { h_6 with par:=none }) i_12 { h_7 with prv:=none })[i_14]? fun (h_8:HN)=>some (List.set (List.set (List.set (List.set (List.set x.2.2 i { h with prv:=HN.prv h_1 }) i_6 { h_4 with lst:=HN.prv h_3 }) i_10 { h_6 with par:=none }) i_12 { h_7 with prv:=none }) i_14 { h_8 with nxt:=none }) else Option.bind x.2.1 fun (i_3:Nat)=>Option.bind (some i_3) fun (i_4:Nat)=>Option.bind (List.set x.2.2 i { h with prv:=HN.prv h_1 })[i_4]? fun (h_3:HN)=>bif !Option.isNone (HN.prv h_3) then Option.bind x.2.1 fun (i_5:Nat)=>Option.bind (some i_5) fun (i_6:Nat)=>Option.bind (List.set x.2.2 i { h with prv:=HN.prv h_1 })[i_6]? fun (h_4:HN)=>Option.bind x.2.1 fun (i_7:Nat)=>Option.bind (some i_7) fun (i_8:Nat)=>Option.bind (List.set x.2.2 i { h with prv:=HN.prv h_1 })[i_8]? fun (h_5:HN)=>Option.bind (HN.prv h_4) fun (i_9:Nat)=>Option.bind (some i_9) fun (i_10:Nat)=>Option.bind (List.set x.2.2 i { h with prv:=HN.prv h_1 })[i_10]? fun (h_6:HN)=>Option.bind x.2.1 fun (i_11:Nat)=>Option.bind (some i_11) fun (i_12:Nat)=>Option.bind (List.set (List.set x.2.2 i { h with prv:=HN.prv h_1 }) i_10 { h_6 with nxt:=HN.nxt h_5 })[i_12]? fun (h_7:HN)=>Option.bind x.2.1 fun (i_13:Nat)=>Option.bind (some i_13) fun (i_14:Nat)=>Option.bind (List.set (List.set (List.set x.2.2 i { h with prv:=HN.prv h_1 }) i_10 { h_6 with nxt:=HN.nxt h_5 }) i_12 { h_7 with par:=none })[i_14]? fun (h_8:HN)=>Option.bind x.2.1 fun (i_15:Nat)=>Option.bind (some i_15) fun (i_16:Nat)=>Option.bind (List.set (List.set (List.set (List.set x.2.2 i { h with prv:=HN.prv h_1 }) i_10 { h_6 with nxt:=HN.nxt h_5 }) i_12 { h_7 with par:=none }) i_14 { h_8 with prv:=none })[i_16]? fun (h_9:HN)=>some (List.set (List.set (List.set (List.set (List.set x.2.2 i { h with prv:=HN.prv h_1 }) i_10 { h_6 with nxt:=HN.nxt h_5 }) i_12 { h_7 with par:=none }) i_14 { h_8 with prv:=none }) i_16 { h_9 with nxt:=none }) else Option.bind x.2.1 fun (i_5:Nat)=>Option.bind (some i_5) fun (i_6:Nat)=>Option.bind (List.set x.2.2 i { h with prv:=HN.prv h_1 })[i_6]? fun (h_4:HN)=>Option.bind x.2.1 fun (i_7:Nat)=>Option.bind (some i_7) fun (i_8:Nat)=>Option.bind (List.set (List.set x.2.2 i { h with prv:=HN.prv h_1 }) i_6 { h_4 with par:=none })[i_8]? fun (h_5:HN)=>Option.bind x.2.1 fun (i_9:Nat)=>Option.bind (some i_9) fun (i_10:Nat)=>Option.bind (List.set (List.set (List.set x.2.2 i { h with prv:=HN.prv h_1 }) i_6 { h_4 with par:=none }) i_8 { h_5 with prv:=none })[i_10]? fun (h_6:HN)=>some (List.set (List.set (List.set (List.set x.2.2 i { h with prv:=HN.prv h_1 }) i_6 { h_4 with par:=none }) i_8 { h_5 with prv:=none }) i_10 { h_6 with nxt:=none }) else Option.bind x.1 fun (i:Nat)=>Option.bind (some i) fun (i:Nat)=>Option.bind x.2.2[i]? fun (h:HN)=>bif decide (HN.lst h=x.2.1) then Option.bind x.2.1 fun (i:Nat)=>Option.bind (some i) fun (i:Nat)=>Option.bind x.2.2[i]? fun (h:HN)=>Option.bind x.1 fun (i:Nat)=>Option.bind (some i) fun (i:Nat)=>Option.bind x.2.2[i]? fun (h_1:HN)=>Option.bind x.2.1 fun (i_1:Nat)=>Option.bind (some i_1) fun (i_2:Nat)=>Option.bind (List.set x.2.2 i { h_1 with lst:=HN.prv h })[i_2]? fun (h_2:HN)=>bif !Option.isNone (HN.prv h_2) then Option.bind x.2.1 fun (i_3:Nat)=>Option.bind (some i_3) fun (i_4:Nat)=>Option.bind (List.set x.2.2 i { h_1 with lst:=HN.prv h })[i_4]? fun (h_3:HN)=>Option.bind x.2.1 fun (i_5:Nat)=>Option.bind (some i_5) fun (i_6:Nat)=>Option.bind (List.set x.2.2 i { h_1 with lst:=HN.prv h })[i_6]? fun (h_4:HN)=>Option.bind (HN.prv h_3) fun (i_7:Nat)=>Option.bind (some i_7) fun (i_8:Nat)=>Option.bind (List.set x.2.2 i { h_1 with lst:=HN.prv h })[i_8]? fun (h_5:HN)=>Option.bind x.2.1 fun (i_9:Nat)=>Option.bind (some i_9) fun (i_10:Nat)=>Option.bind (List.set (List.set x.2.2 i { h_1 with lst:=HN.prv h }) i_8 { h_5 with nxt:=HN.nxt h_4 })[i_10]? fun (h_6:HN)=>Option.bind x.2.1 fun (i_11:Nat)=>Option.bind (some i_11) fun (i_12:Nat)=>Option.bind (List.set (List.set (List.set x.2.2 i { h_1 with lst:=HN.prv h }) i_8 { h_5 with nxt:=HN.nxt h_4 }) i_10 { h_6 with par:=none })[i_12]? fun (h_7:HN)=>Option.bind x.2.1 fun (i_13:Nat)=>Option.bind (some i_13) fun (i_14:Nat)=>Option.bind (List.set (List.set (List.set (List.set x.2.2 i { h_1 with lst:=HN.prv h }) i_8 { h_5 with nxt:=HN.nxt h_4 }) i_10 { h_6 with par:=none }) i_12 { h_7 with prv:=none })[i_14]? fun (h_8:HN)=>some (List.set (List.set (List.set (List.set (List.set x.2.2 i { h_1 with lst:=HN.prv h }) i_8 { h_5 with nxt:=HN.nxt h_4 }) i_10 { h_6 with par:=none }) i_12 { h_7 with prv:=none }) i_14 { h_8 with nxt:=none }) else Option.bind x.2.1 fun (i_3:Nat)=>Option.bind (some i_3) fun (i_4:Nat)=>Option.bind (List.set x.2.2 i { h_1 with lst:=HN.prv h })[i_4]? fun (h_3:HN)=>Option.bind x.2.1 fun (i_5:Nat)=>Option.bind (some i_5) fun (i_6:Nat)=>Option.bind (List.set (List.set x.2.2 i { h_1 with lst:=HN.prv h }) i_4 { h_3 with par:=none })[i_6]? fun (h_4:HN)=>Option.bind x.2.1 fun (i_7:Nat)=>Option.bind (some i_7) fun (i_8:Nat)=>Option.bind (List.set (List.set (List.set x.2.2 i { h_1 with lst:=HN.prv h }) i_4 { h_3 with par:=none }) i_6 { h_4 with prv:=none })[i_8]? fun (h_5:HN)=>some (List.set (List.set (List.set (List.set x.2.2 i { h_1 with lst:=HN.prv h }) i_4 { h_3 with par:=none }) i_6 { h_4 with prv:=none }) i_8 { h_5 with nxt:=none }) else Option.bind x.2.1 fun (i:Nat)=>Option.bind (some i) fun (i:Nat)=>Option.bind x.2.2[i]? fun (h:HN)=>bif !Option.isNone (HN.prv h) then Option.bind x.2.1 fun (i:Nat)=>Option.bind (some i) fun (i:Nat)=>Option.bind x.2.2[i]? fun (h:HN)=>Option.bind x.2.1 fun (i:Nat)=>Option.bind (some i) fun (i:Nat)=>Option.bind x.2.2[i]? fun (h_1:HN)=>Option.bind (HN.prv h) fun (i:Nat)=>Option.bind (some i) fun (i:Nat)=>Option.bind x.2.2[i]? fun (h:HN)=>Option.bind x.2.1 fun (i_1:Nat)=>Option.bind (some i_1) fun (i_2:Nat)=>Option.bind (List.set x.2.2 i { h with nxt:=HN.nxt h_1 })[i_2]? fun (h_2:HN)=>Option.bind x.2.1 fun (i_3:Nat)=>Option.bind (some i_3) fun (i_4:Nat)=>Option.bind (List.set (List.set x.2.2 i { h with nxt:=HN.nxt h_1 }) i_2 { h_2 with par:=none })[i_4]? fun (h_3:HN)=>Option.bind x.2.1 fun (i_5:Nat)=>Option.bind (some i_5) fun (i_6:Nat)=>Option.bind (List.set (List.set (List.set x.2.2 i { h with nxt:=HN.nxt h_1 }) i_2 { h_2 with par:=none }) i_4 { h_3 with prv:=none })[i_6]? fun (h_4:HN)=>some (List.set (List.set (List.set (List.set x.2.2 i { h with nxt:=HN.nxt h_1 }) i_2 { h_2 with par:=none }) i_4 { h_3 with prv:=none }) i_6 { h_4 with nxt:=none }) else Option.bind x.2.1 fun (i:Nat)=>Option.bind (some i) fun (i:Nat)=>Option.bind x.2.2[i]? fun (h:HN)=>Option.bind x.2.1 fun (i_1:Nat)=>Option.bind (some i_1) fun (i_2:Nat)=>Option.bind (List.set x.2.2 i { h with par:=none })[i_2]? fun (h_1:HN)=>Option.bind x.2.1 fun (i_3:Nat)=>Option.bind (some i_3) fun (i_4:Nat)=>Option.bind (List.set (List.set x.2.2 i { h with par:=none }) i_2 { h_1 with prv:=none })[i_4]? fun (h_2:HN)=>some (List.set (List.set (List.set x.2.2 i { h with par:=none }) i_2 { h_1 with prv:=none }) i_4 { h_2 with nxt:=none })
noncomputable def cx_html_Node_RemoveChild:Cx:=⟨tb,lookE [],lookS [(5,[(true,0),(true,1),(true,2),(true,3),(true,4),(true,5),(true,6),(true,7),(true,8),(true,9),(false,10)]),(9,[(true,0),(true,1),(true,2),(true,3),(true,4),(true,5),(true,6),(true,7),(true,8),(true,9),(false,10)])],mth,ast⟩
theorem ck_html_Node_RemoveChild:CxOK Tryz.prog (cx_html_Node_RemoveChild):=cx_ok tb_ok if_ok .nil
noncomputable def e_html_Node_RemoveChild:Ent:=⟨0,p_html_Node_RemoveChild,q_html_Node_RemoveChild,m_html_Node_RemoveChild⟩
theorem ok_html_Node_RemoveChild:FnOK Tryz.prog 35 e_html_Node_RemoveChild:=fn_ok (L:=lookL []) ck_html_Node_RemoveChild mixed Tryz.func35 rfl (by kernel_rfl) (by kernel_rfl) (ls_ok (l:=[]) (by kernel_rfl) .nil) (by intro x; kernel_rfl)
abbrev p_goquery_cloneNode:Pt:=[(0, .np),(NT, .ns .h 82 135)]
abbrev q_goquery_cloneNode:Pt:=[(0, .np),(NT, .ns .h 82 135)]
abbrev p_goquery_cloneNode_0:Pt:=[(3, .np),(4, .np),(NT, .ns .h 82 135)]
abbrev x_goquery_cloneNode_0:List (Xt×Pt):=[(.ex 0,[(3, .np),(NT, .ns .h 82 135)])]
noncomputable def m_goquery_cloneNode_0 (m_goquery_cloneNode:Tup p_goquery_cloneNode→Option (Tup q_goquery_cloneNode)):Tup p_goquery_cloneNode_0→Option (Stp (Tup p_goquery_cloneNode_0) (SumT (x_goquery_cloneNode_0.map (·.2)))):=fun (x:Option Nat×Option Nat×List HN)=>bif !Option.isNone x.2.1 then Option.bind (m_goquery_cloneNode (x.2.1,x.2.2)) fun (r:Option Nat×List HN)=>Option.bind (m_html_Node_AppendChild (x.1,r.1,r.2)) fun (r:List HN)=>Option.bind x.2.1 fun (i:Nat)=>Option.bind (some i) fun (i:Nat)=>Option.bind r[i]? fun (h:HN)=>some (Stp.nx (x.1,HN.nxt h,r)) else some (Stp.out (x.1,x.2.2))
noncomputable def b_goquery_cloneNode (m_goquery_cloneNode:Tup p_goquery_cloneNode→Option (Tup q_goquery_cloneNode)):Tup p_goquery_cloneNode→Option (Tup q_goquery_cloneNode):=fun (x:Option Nat×List HN)=>Option.bind x.1 fun (i:Nat)=>Option.bind (some i) fun (i:Nat)=>Option.bind x.2[i]? fun (h:HN)=>Option.bind x.1 fun (i:Nat)=>Option.bind (some i) fun (i:Nat)=>Option.bind x.2[i]? fun (h_1:HN)=>Option.bind x.1 fun (i:Nat)=>Option.bind (some i) fun (i:Nat)=>Option.bind x.2[i]? fun (h_2:HN)=>Option.bind x.1 fun (i:Nat)=>Option.bind (some i) fun (i:Nat)=>Option.bind x.2[i]? fun (h_3:HN)=>Option.bind x.2[i]? fun (h_4:HN)=>bif decide ((↑(List.length (HN.attrs h_4)):Int)≤(↑(List.length (HN.attrs h_4)):Int)∧(0:Int)≤(↑(List.length (HN.attrs h_4)):Int)∧(↑(List.length (HN.attrs h_4)):Int)≤(1048576:Int)) then Option.bind (some (List.length x.2)) fun (i:Nat)=>Option.bind (some i) fun (i:Nat)=>Option.bind (x.2++[{ par:=none,fst:=none,lst:=none,prv:=none,nxt:=none,ty:=HN.ty h,atom:=HN.atom h_1,data:=HN.data h_2,ns:=[],attrs:=List.replicate (Int.toNat (↑(List.length (HN.attrs h_4)):Int)) { ns:=[],key:=[],val:=[] } }])[i]? fun (h_5:HN)=>Option.bind x.1 fun (i_1:Nat)=>Option.bind (some i_1) fun (i_2:Nat)=>Option.bind (x.2++[{ par:=none,fst:=none,lst:=none,prv:=none,nxt:=none,ty:=HN.ty h,atom:=HN.atom h_1,data:=HN.data h_2,ns:=[],attrs:=List.replicate (Int.toNat (↑(List.length (HN.attrs h_4)):Int)) { ns:=[],key:=[],val:=[] } }])[i_2]? fun (h_6:HN)=>Option.bind (x.2++[{ par:=none,fst:=none,lst:=none,prv:=none,nxt:=none,ty:=HN.ty h,atom:=HN.atom h_1,data:=HN.data h_2,ns:=[],attrs:=List.replicate (Int.toNat (↑(List.length (HN.attrs h_4)):Int)) { ns:=[],key:=[],val:=[] } }])[i]? fun (h_7:HN)=>Option.bind (x.2++[{ par:=none,fst:=none,lst:=none,prv:=none,nxt:=none,ty:=HN.ty h,atom:=HN.atom h_1,data:=HN.data h_2,ns:=[],attrs:=List.replicate (Int.toNat (↑(List.length (HN.attrs h_4)):Int)) { ns:=[],key:=[],val:=[] } }])[i_2]? fun (h_8:HN)=>Option.bind x.1 fun (i_3:Nat)=>Option.bind (some i_3) fun (i_4:Nat)=>Option.bind (List.set (x.2++[{ par:=none,fst:=none,lst:=none,prv:=none,nxt:=none,ty:=HN.ty h,atom:=HN.atom h_1,data:=HN.data h_2,ns:=[],attrs:=List.replicate (Int.toNat (↑(List.length (HN.attrs h_4)):Int)) { ns:=[],key:=[],val:=[] } }]) i (HN.wa h_7 (List.take (Min.min (List.length (HN.attrs h_8)) (List.length (HN.attrs h_7))) (HN.attrs h_8)++List.drop (Min.min (List.length (HN.attrs h_8)) (List.length (HN.attrs h_7))) (HN.attrs h_7))))[i_4]? fun (h_9:HN)=>Option.bind (loopO (m_goquery_cloneNode_0 m_goquery_cloneNode) (some (List.length x.2),HN.fst h_9,List.set (x.2++[{ par:=none,fst:=none,lst:=none,prv:=none,nxt:=none,ty:=HN.ty h,atom:=HN.atom h_1,data:=HN.data h_2,ns:=[],attrs:=List.replicate (Int.toNat (↑(List.length (HN.attrs h_4)):Int)) { ns:=[],key:=[],val:=[] } }]) i (HN.wa h_7 (List.take (Min.min (List.length (HN.attrs h_8)) (List.length (HN.attrs h_7))) (HN.attrs h_8)++List.drop (Min.min (List.length (HN.attrs h_8)) (List.length (HN.attrs h_7))) (HN.attrs h_7))))) fun (y:Option Nat×List HN)=>some (y.1,y.2) else none
noncomputable def m_goquery_cloneNode:Nat→Tup p_goquery_cloneNode→Option (Tup q_goquery_cloneNode)
 | 0=>fun _=>none
 | n+1=>b_goquery_cloneNode (m_goquery_cloneNode n)
noncomputable def cx_goquery_cloneNode (n:Nat):Cx:=⟨tb,lookE [(33,⟨0,p_goquery_cloneNode,q_goquery_cloneNode,m_goquery_cloneNode n⟩),(62,e_html_Node_AppendChild)],lookS [(1,[(true,0),(true,1),(true,2),(true,3),(true,4),(true,5),(true,6),(true,7),(true,8),(true,9),(true,10),(true,11),(true,12),(true,13),(true,14),(true,15),(true,16),(false,17),(true,18),(false,19),(true,20)]),(2,[(true,0),(true,1),(true,2),(true,3),(true,4),(true,5),(true,6),(true,7),(false,8)])],mth,ast⟩
theorem ck_goquery_cloneNode (n:Nat) (ih0:FnOK Tryz.prog 33 ⟨0,p_goquery_cloneNode,q_goquery_cloneNode,m_goquery_cloneNode n⟩):CxOK Tryz.prog (cx_goquery_cloneNode n):=cx_ok tb_ok if_ok (.cons ih0 Tryz.call33 (.cons ok_html_Node_AppendChild Tryz.call62 .nil))
noncomputable def c_goquery_cloneNode_0:Code:=loopAt (Go.Proofs.Tryz.f33.body.getD .skip) 0
noncomputable def l_goquery_cloneNode_0 (n:Nat):LEnt:=⟨p_goquery_cloneNode_0,x_goquery_cloneNode_0,loopO (m_goquery_cloneNode_0 (m_goquery_cloneNode n))⟩
theorem lo_goquery_cloneNode_0 (n:Nat) (ih0:FnOK Tryz.prog 33 ⟨0,p_goquery_cloneNode,q_goquery_cloneNode,m_goquery_cloneNode n⟩):LOK Tryz.prog 49 0 true (l_goquery_cloneNode_0 n) c_goquery_cloneNode_0:=loop_ok (body:=m_goquery_cloneNode_0 (m_goquery_cloneNode n)) (L:=lookL []) (ck_goquery_cloneNode n ih0) mixed (ls_ok (l:=[]) (by kernel_rfl) .nil) (by intro x; kernel_rfl) (fun x y h=>loopO_iff.1 h)
theorem st_goquery_cloneNode (n:Nat) (ih0:FnOK Tryz.prog 33 ⟨0,p_goquery_cloneNode,q_goquery_cloneNode,m_goquery_cloneNode n⟩):FnOK Tryz.prog 33 ⟨0,p_goquery_cloneNode,q_goquery_cloneNode,m_goquery_cloneNode (n+1)⟩:=fn_ok (ent:=⟨0,p_goquery_cloneNode,q_goquery_cloneNode,m_goquery_cloneNode (n+1)⟩) (L:=lookL [(0,l_goquery_cloneNode_0 n)]) (ck_goquery_cloneNode n ih0) mixed Tryz.func33 rfl (by kernel_rfl) (by kernel_rfl) (ls_ok (l:=[(0,c_goquery_cloneNode_0)]) (by kernel_rfl) (.cons rfl (lo_goquery_cloneNode_0 n ih0) .nil)) (by intro x; kernel_rfl)
theorem ok0_goquery_cloneNode:∀ n,FnOK Tryz.prog 33 ⟨0,p_goquery_cloneNode,q_goquery_cloneNode,m_goquery_cloneNode n⟩
 | 0=>fun x r h=>by cases h
 | n+1=>(fun ih=>st_goquery_cloneNode n ih) (ok0_goquery_cloneNode n)
noncomputable def e_goquery_cloneNode:Ent:=⟨0,p_goquery_cloneNode,q_goquery_cloneNode,m_goquery_cloneNode big⟩
theorem ok_goquery_cloneNode:FnOK Tryz.prog 33 e_goquery_cloneNode:=(ok0_goquery_cloneNode big)
abbrev p_impl_kindOf:Pt:=[(0, .np),(NT, .ns .h 82 135)]
abbrev q_impl_kindOf:Pt:=[(0, .el .node),(NT, .ns .h 82 135)]
abbrev p_impl_kindOf_0:Pt:=[(2, .blk .node 39),(3, .blkx 39 [.fl (.int .i64), .fl .str, .fl .str, .own, .fl (.int .i64)]),(44, .nal),(45, .int .i64),(46, .int .i64),(NT, .ns .h 82 135),(2000000195, .hown 3 3 .attr 89)]
abbrev x_impl_kindOf_0:List (Xt×Pt):=[(.ex 1,[(2, .blk .node 39),(3, .blkx 39 [.fl (.int .i64), .fl .str, .fl .str, .own, .fl (.int .i64)]),(NT, .ns .h 82 135),(2000000195, .hown 3 3 .attr 89)])]
noncomputable def m_impl_kindOf_0:Tup p_impl_kindOf_0→Option (Stp (Tup p_impl_kindOf_0) (SumT (x_impl_kindOf_0.map (·.2)))):=fun (x:Node×(Int×List UInt8×List UInt8×PUnit×Int)×Nat×Int×Int×List HN×List Attr)=>bif decide (x.2.2.2.2.1<x.2.2.2.1) then Option.bind x.2.2.2.2.2.1[x.2.2.1]? fun (h:HN)=>Option.bind (atI (HN.attrs h) x.2.2.2.2.1) fun (x_1:HAttr)=>Option.bind x.2.2.2.2.2.1[x.2.2.1]? fun (h:HN)=>Option.bind (HN.attrs h)[Int.toNat x.2.2.2.2.1]? fun (a:HAttr)=>Option.bind (appL x.2.2.2.2.2.2 [{ key:=HAttr.key a,val:=HAttr.val a }]) fun (r:List Attr)=>some (Stp.nx ({ kind:=Node.kind x.1,tag:=Node.tag x.1,text:=Node.text x.1,attrs:=Node.attrs x.1,size:=Node.size x.1 },(x.2.1.1,x.2.1.2.1,x.2.1.2.2.1,(),x.2.1.2.2.2.2),x.2.2.1,x.2.2.2.1,IntKind.wrap .i64 (x.2.2.2.2.1+(1:Int)),x.2.2.2.2.2.1,r)) else some (Stp.out ({ kind:=Node.kind x.1,tag:=Node.tag x.1,text:=Node.text x.1,attrs:=Node.attrs x.1,size:=Node.size x.1 },(x.2.1.1,x.2.1.2.1,x.2.1.2.2.1,(),x.2.1.2.2.2.2),x.2.2.2.2.2.1,x.2.2.2.2.2.2))
noncomputable def m_impl_kindOf:Tup p_impl_kindOf→Option (Tup q_impl_kindOf):=fun (x:Option Nat×List HN)=>Option.bind x.1 fun (i:Nat)=>Option.bind (some i) fun (i:Nat)=>Option.bind x.2[i]? fun (h:HN)=>bif decide (HN.ty h=(2:Int)) then some ({ kind:=(1:Int),tag:=[],text:=[],attrs:=[],size:=(0:Int) },x.2) else bif decide (HN.ty h=(5:Int)) then Option.bind x.1 fun (i:Nat)=>Option.bind (some i) fun (i:Nat)=>Option.bind x.2[i]? fun (h:HN)=>some ({ kind:=(2:Int),tag:=[],text:=HN.data h,attrs:=[],size:=(0:Int) },x.2) else bif decide (HN.ty h=(1:Int)) then Option.bind x.1 fun (i:Nat)=>Option.bind (some i) fun (i:Nat)=>Option.bind x.2[i]? fun (h:HN)=>some ({ kind:=(4:Int),tag:=[],text:=HN.data h,attrs:=[],size:=(0:Int) },x.2) else bif decide (HN.ty h=(4:Int)) then Option.bind x.1 fun (i:Nat)=>Option.bind (some i) fun (i:Nat)=>Option.bind x.2[i]? fun (h:HN)=>some ({ kind:=(5:Int),tag:=[],text:=HN.data h,attrs:=[],size:=(0:Int) },x.2) else bif decide (HN.ty h=(3:Int)) then Option.bind x.1 fun (i:Nat)=>Option.bind (some i) fun (i:Nat)=>Option.bind x.2[i]? fun (h:HN)=>Option.bind x.1 fun (i:Nat)=>Option.bind (some i) fun (i:Nat)=>Option.bind x.2[i]? fun (h_1:HN)=>Option.bind x.2[i]? fun (h_2:HN)=>Option.bind (loopO m_impl_kindOf_0 ({ kind:=(0:Int),tag:=[],text:=[],attrs:=[],size:=(0:Int) },((3:Int),HN.data h,[],(),(0:Int)),i,(↑(List.length (HN.attrs h_2)):Int),(0:Int),x.2,[])) fun (y:Node×(Int×List UInt8×List UInt8×PUnit×Int)×List HN×List Attr)=>some ({ kind:=y.2.1.1,tag:=y.2.1.2.1,text:=y.2.1.2.2.1,attrs:=y.2.2.2,size:=y.2.1.2.2.2.2 },y.2.2.1) else some ({ kind:=(0:Int),tag:=[],text:=[],attrs:=[],size:=(0:Int) },x.2)
noncomputable def cx_impl_kindOf:Cx:=⟨tb,lookE [],lookS [],mth,ast⟩
theorem ck_impl_kindOf:CxOK Tryz.prog (cx_impl_kindOf):=cx_ok tb_ok if_ok .nil
noncomputable def c_impl_kindOf_0:Code:=loopAt (Go.Proofs.Tryz.f59.body.getD .skip) 0
noncomputable def l_impl_kindOf_0:LEnt:=⟨p_impl_kindOf_0,x_impl_kindOf_0,loopO (m_impl_kindOf_0)⟩
theorem lo_impl_kindOf_0:LOK Tryz.prog 63 0 true (l_impl_kindOf_0) c_impl_kindOf_0:=loop_ok (body:=m_impl_kindOf_0) (L:=lookL []) (ck_impl_kindOf) mixed (ls_ok (l:=[]) (by kernel_rfl) .nil) (by intro x; kernel_rfl) (fun x y h=>loopO_iff.1 h)
noncomputable def e_impl_kindOf:Ent:=⟨0,p_impl_kindOf,q_impl_kindOf,m_impl_kindOf⟩
theorem ok_impl_kindOf:FnOK Tryz.prog 59 e_impl_kindOf:=fn_ok (L:=lookL [(1,l_impl_kindOf_0)]) ck_impl_kindOf mixed Tryz.func59 rfl (by kernel_rfl) (by kernel_rfl) (ls_ok (l:=[(1,c_impl_kindOf_0)]) (by kernel_rfl) (.cons rfl (lo_impl_kindOf_0) .nil)) (by intro x; kernel_rfl)
abbrev p_impl_taken:Pt:=[(0, .np),(1, .own .node 39),(2, .own .np 51),(NT, .ns .h 82 135)]
abbrev q_impl_taken:Pt:=[(0, .own .node 39),(1, .own .np 51),(NT, .ns .h 82 135)]
abbrev p_impl_taken_0:Pt:=[(1, .own .node 39),(2, .own .np 51),(8, .int .i64),(9, .np),(NT, .ns .h 82 135)]
abbrev x_impl_taken_0:List (Xt×Pt):=[(.ex 0,[(1, .own .node 39),(2, .own .np 51),(8, .int .i64),(NT, .ns .h 82 135)])]
noncomputable def m_impl_taken_0 (m_impl_taken:Tup p_impl_taken→Option (Tup q_impl_taken)):Tup p_impl_taken_0→Option (Stp (Tup p_impl_taken_0) (SumT (x_impl_taken_0.map (·.2)))):=fun (x:List Node×List (Option Nat)×Int×Option Nat×List HN)=>bif !Option.isNone x.2.2.2.1 then Option.bind (m_impl_taken (x.2.2.2.1,x.1,x.2.1,x.2.2.2.2)) fun (r:List Node×List (Option Nat)×List HN)=>Option.bind x.2.2.2.1 fun (i:Nat)=>Option.bind (some i) fun (i:Nat)=>Option.bind r.2.2[i]? fun (h:HN)=>some (Stp.nx (r.1,r.2.1,x.2.2.1,HN.nxt h,r.2.2)) else some (Stp.out (x.1,x.2.1,x.2.2.1,x.2.2.2.2))
noncomputable def b_impl_taken (m_impl_taken:Tup p_impl_taken→Option (Tup q_impl_taken)):Tup p_impl_taken→Option (Tup q_impl_taken):=fun (x:Option Nat×List Node×List (Option Nat)×List HN)=>Option.bind (m_impl_kindOf (x.1,x.2.2.2)) fun (r:Node×List HN)=>Option.bind (appL x.2.1 [{ kind:=Node.kind r.1,tag:=Node.tag r.1,text:=Node.text r.1,attrs:=Node.attrs r.1,size:=Node.size r.1 }]) fun (r_1:List Node)=>Option.bind (appL x.2.2.1 [x.1]) fun (r_2:List (Option Nat))=>Option.bind x.1 fun (i:Nat)=>Option.bind (some i) fun (i:Nat)=>Option.bind r.2[i]? fun (h:HN)=>Option.bind (loopO (m_impl_taken_0 m_impl_taken) (r_1,r_2,(↑(List.length x.2.1):Int),HN.fst h,r.2)) fun (y:List Node×List (Option Nat)×Int×List HN)=>Option.bind (atI y.1 y.2.2.1) fun (x:Node)=>Option.bind y.1[Int.toNat y.2.2.1]? fun (v:Node)=>some (List.set y.1 (Int.toNat y.2.2.1) { v with size:=IntKind.wrap .i64 ((↑(List.length y.1):Int) - y.2.2.1) },y.2.1,y.2.2.2)
noncomputable def m_impl_taken:Nat→Tup p_impl_taken→Option (Tup q_impl_taken)
 | 0=>fun _=>none
 | n+1=>b_impl_taken (m_impl_taken n)
noncomputable def cx_impl_taken (n:Nat):Cx:=⟨tb,lookE [(59,e_impl_kindOf),(30,⟨0,p_impl_taken,q_impl_taken,m_impl_taken n⟩)],lookS [],mth,ast⟩
theorem ck_impl_taken (n:Nat) (ih0:FnOK Tryz.prog 30 ⟨0,p_impl_taken,q_impl_taken,m_impl_taken n⟩):CxOK Tryz.prog (cx_impl_taken n):=cx_ok tb_ok if_ok (.cons ok_impl_kindOf Tryz.call59 (.cons ih0 Tryz.call30 .nil))
noncomputable def c_impl_taken_0:Code:=loopAt (Go.Proofs.Tryz.f30.body.getD .skip) 0
noncomputable def l_impl_taken_0 (n:Nat):LEnt:=⟨p_impl_taken_0,x_impl_taken_0,loopO (m_impl_taken_0 (m_impl_taken n))⟩
theorem lo_impl_taken_0 (n:Nat) (ih0:FnOK Tryz.prog 30 ⟨0,p_impl_taken,q_impl_taken,m_impl_taken n⟩):LOK Tryz.prog 48 0 true (l_impl_taken_0 n) c_impl_taken_0:=loop_ok (body:=m_impl_taken_0 (m_impl_taken n)) (L:=lookL []) (ck_impl_taken n ih0) mixed (ls_ok (l:=[]) (by kernel_rfl) .nil) (by intro x; kernel_rfl) (fun x y h=>loopO_iff.1 h)
theorem st_impl_taken (n:Nat) (ih0:FnOK Tryz.prog 30 ⟨0,p_impl_taken,q_impl_taken,m_impl_taken n⟩):FnOK Tryz.prog 30 ⟨0,p_impl_taken,q_impl_taken,m_impl_taken (n+1)⟩:=fn_ok (ent:=⟨0,p_impl_taken,q_impl_taken,m_impl_taken (n+1)⟩) (L:=lookL [(0,l_impl_taken_0 n)]) (ck_impl_taken n ih0) mixed Tryz.func30 rfl (by kernel_rfl) (by kernel_rfl) (ls_ok (l:=[(0,c_impl_taken_0)]) (by kernel_rfl) (.cons rfl (lo_impl_taken_0 n ih0) .nil)) (by intro x; kernel_rfl)
theorem ok0_impl_taken:∀ n,FnOK Tryz.prog 30 ⟨0,p_impl_taken,q_impl_taken,m_impl_taken n⟩
 | 0=>fun x r h=>by cases h
 | n+1=>(fun ih=>st_impl_taken n ih) (ok0_impl_taken n)
noncomputable def e_impl_taken:Ent:=⟨0,p_impl_taken,q_impl_taken,m_impl_taken big⟩
theorem ok_impl_taken:FnOK Tryz.prog 30 e_impl_taken:=(ok0_impl_taken big)
abbrev p_impl_world_ends:Pt:=[(0, .fp (.rc .nps [.fnil] 0)),(NT, .ns .h 82 135)]
abbrev q_impl_world_ends:Pt:=[(0, .own .node 39),(1, .own .int 3),(NT, .ns .h 82 135)]
noncomputable def m_impl_world_ends:Tup p_impl_world_ends→Option (Tup q_impl_world_ends):=fun (x:(List (Option Nat)×PUnit)×List HN)=>Option.bind (atI x.1.1 (0:Int)) fun (v:Option Nat)=>Option.bind (m_impl_taken big (v,[],[],x.2)) fun (r:List Node×List (Option Nat)×List HN)=>Option.bind (m_impl_placesOf (r.2.1,x.1.1)) fun (r_1:List Int)=>some (r.1,r_1,r.2.2)
noncomputable def cx_impl_world_ends:Cx:=⟨tb,lookE [(30,e_impl_taken),(31,e_impl_placesOf)],lookS [],mth,ast⟩
theorem ck_impl_world_ends:CxOK Tryz.prog (cx_impl_world_ends):=cx_ok tb_ok if_ok (.cons ok_impl_taken Tryz.call30 (.cons ok_impl_placesOf Tryz.call31 .nil))
noncomputable def e_impl_world_ends:Ent:=⟨0,p_impl_world_ends,q_impl_world_ends,m_impl_world_ends⟩
theorem ok_impl_world_ends:FnOK Tryz.prog 17 e_impl_world_ends:=fn_ok (L:=lookL []) ck_impl_world_ends mixed Tryz.func17 rfl (by kernel_rfl) (by kernel_rfl) (ls_ok (l:=[]) (by kernel_rfl) .nil) (by intro x; kernel_rfl)
abbrev p_impl_begun:Pt:=[(0, .lst .node),(NT, .ns .h 82 135)]
abbrev q_impl_begun:Pt:=[(0, .fp (.rc .nps [.fnil] 0)),(1, .bool),(NT, .ns .h 82 135)]
noncomputable def m_impl_begun:Tup p_impl_begun→Option (Tup q_impl_begun):=fun (x:List Node×List HN)=>Option.bind (m_impl_grown (x.1,x.2)) fun (r:List (Option Nat)×Bool×List HN)=>bif !r.2.1 then none else Option.bind (atI r.1 (0:Int)) fun (x:Option Nat)=>Option.bind r.1[Int.toNat (0:Int)]? fun (v:Option Nat)=>Option.bind (m_goquery_NewDocumentFromNode v) fun (r_1:List (Option Nat)×Option Nat)=>Option.bind (m_goquery_Selection_Eq_nil (r_1.1,(1:Int))) fun (r_2:PUnit)=>some ((r.1,()),true,r.2.2)
noncomputable def cx_impl_begun:Cx:=⟨tb,lookE [(49,e_impl_grown),(50,e_goquery_NewDocumentFromNode),(51,e_goquery_Selection_Eq_nil)],lookS [],mth,ast⟩
theorem ck_impl_begun:CxOK Tryz.prog (cx_impl_begun):=cx_ok tb_ok if_ok (.cons ok_impl_grown Tryz.call49 (.cons ok_goquery_NewDocumentFromNode Tryz.call50 (.cons ok_goquery_Selection_Eq_nil Tryz.call51 .nil)))
noncomputable def e_impl_begun:Ent:=⟨0,p_impl_begun,q_impl_begun,m_impl_begun⟩
theorem ok_impl_begun:FnOK Tryz.prog 26 e_impl_begun:=fn_ok (L:=lookL []) ck_impl_begun mixed Tryz.func26 rfl (by kernel_rfl) (by kernel_rfl) (ls_ok (l:=[]) (by kernel_rfl) .nil) (by intro x; kernel_rfl)
abbrev p_impl_selected:Pt:=[(0, .lst .node),(1, .lst .int),(NT, .ns .h 82 135)]
abbrev q_impl_selected:Pt:=[(0, .fp (.rc .nps [.fnil] 0)),(1, .fp (.rc .nps [] 2)),(2, .bool),(NT, .ns .h 82 135)]
noncomputable def m_impl_selected:Tup p_impl_selected→Option (Tup q_impl_selected):=fun (x:List Node×List Int×List HN)=>Option.bind (m_impl_begun (x.1,x.2.2)) fun (r:(List (Option Nat)×PUnit)×Bool×List HN)=>bif !r.2.1 then none else Option.bind (m_impl_these (r.1.1,x.2.1)) fun (r_1:List (Option Nat)×Bool)=>bif !r_1.2 then none else Option.bind (m_goquery_Selection_AddNodes_nil ((),r_1.1)) fun (r_2:List (Option Nat))=>some ((r.1.1,()),r_2,true,r.2.2)
noncomputable def cx_impl_selected:Cx:=⟨tb,lookE [(26,e_impl_begun),(27,e_impl_these),(28,e_goquery_Selection_AddNodes_nil)],lookS [],mth,ast⟩
theorem ck_impl_selected:CxOK Tryz.prog (cx_impl_selected):=cx_ok tb_ok if_ok (.cons ok_impl_begun Tryz.call26 (.cons ok_impl_these Tryz.call27 (.cons ok_goquery_Selection_AddNodes_nil Tryz.call28 .nil)))
noncomputable def e_impl_selected:Ent:=⟨0,p_impl_selected,q_impl_selected,m_impl_selected⟩
theorem ok_impl_selected:FnOK Tryz.prog 15 e_impl_selected:=fn_ok (L:=lookL []) ck_impl_selected mixed Tryz.func15 rfl (by kernel_rfl) (by kernel_rfl) (ls_ok (l:=[]) (by kernel_rfl) .nil) (by intro x; kernel_rfl)
end Go.Proofs.YtkmigbicabfodaaGreat.V
