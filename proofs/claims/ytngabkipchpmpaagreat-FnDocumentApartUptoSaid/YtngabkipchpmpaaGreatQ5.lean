/-
  Plain facts and an evaluator for what a law needs.
-/
import Derived.Test.YtngabkipchpmpaaGreatQ4
set_option linter.unusedVariables false
set_option linter.unusedSimpArgs false
namespace Go.Proofs.YtngabkipchpmpaaGreat.V
open Go Go.Proofs
noncomputable def bL:MF [(0,aFS)] [(0,aKI)]:=λ(x:aLO)=>some (↑(List.length x):Int)
theorem qs:aE Tryz.prog 134 (eN 0 bL):=have k:=cx [] .nil;fz k Tryz.func134
noncomputable def aQ:MF [(0,aFS)] [(0,aKI)]:=λ(x:aLO)=>(bL x).bind λ(r:Int)=>some r
theorem dO:aE Tryz.prog 125 (eN 0 aQ):=have k:=cx [] (es qs Tryz.call134 .nil);fz k Tryz.func125
noncomputable def aJ:MF [(0,.np),(1,.np),aNH] [aNH]:=λ(x:Option Nat×Option Nat×List HN)=>(aN (x.1,x.2.1,x.2.2)).bind λ(r:List HN)=>some r
theorem mZ:aE Tryz.prog 103 (eN 0 aJ):=have k:=cx [] (es jS Tryz.call70 .nil);fz k Tryz.func103
noncomputable def fX:ML [(0,aFS),(1,aLN),(3,.mq 103 []),(9,aKI),(10,aKI),(11,aKI),aNH] [(.ex 0,[(0,aFS),(1,aLN),(3,.mq 103 []),(9,aKI),aNH])]:=λ(x:aLO×aLO×PUnit×Int×Int×Int×List HN)=>bif decide (x.2.2.2.2.1<x.2.2.2.2.2.1) then (bl x.2.1 x.2.2.2.2.2.1).bind λv=>(bl x.2.1 x.2.2.2.2.1).bind λv=>(bl x.2.1 x.2.2.2.2.1).bind λv=>none else some (ai.out (x.1,x.2.1,(),x.2.2.2.1,x.2.2.2.2.2.2))
noncomputable def aq:ML [(0,aFS),(1,aLN),(3,.mq 103 []),(9,aKI),(12,aKI),(13,.np),(47,aLN),(48,aKI),(49,aKI),(54,aLN),(55,aKI),(56,aKI),aNH] [(.ex 4,[(0,aFS),(1,aLN),(3,.mq 103 []),(9,aKI),(47,aLN),(48,aKI),(49,aKI),aNH])]:=λ(x:aLO×aLO×PUnit×Int×Int×Option Nat×aLO×Int×Int×aLO×Int×Int×List HN)=>bif decide (x.2.2.2.2.2.2.2.2.2.2.2.1<x.2.2.2.2.2.2.2.2.2.2.1) then (bl x.2.2.2.2.2.2.2.2.2.1 x.2.2.2.2.2.2.2.2.2.2.2.1).bind λv=>bif decide (x.2.2.2.2.1≠x.2.2.2.1) then (ak lY (v,x.2.2.2.2.2.2.2.2.2.2.2.2)).bind λ(r:Option Nat×List HN)=>(aJ (x.2.2.2.2.2.1,r.1,r.2)).bind λ(r:List HN)=>some (ai.nx (x.1,x.2.1,(),x.2.2.2.1,x.2.2.2.2.1,x.2.2.2.2.2.1,x.2.2.2.2.2.2.1,x.2.2.2.2.2.2.2.1,x.2.2.2.2.2.2.2.2.1,x.2.2.2.2.2.2.2.2.2.1,x.2.2.2.2.2.2.2.2.2.2.1,IntKind.wrap .i64 (x.2.2.2.2.2.2.2.2.2.2.2.1+(1:Int)),r)) else v.bind λi=>(some i).bind λi=>x.2.2.2.2.2.2.2.2.2.2.2.2[i]?.bind λh=>bif !Option.isNone (HN.par h) then v.bind λi=>(some i).bind λi=>x.2.2.2.2.2.2.2.2.2.2.2.2[i]?.bind λh=>(aO (HN.par h,v,x.2.2.2.2.2.2.2.2.2.2.2.2)).bind λ(r:List HN)=>(aJ (x.2.2.2.2.2.1,v,r)).bind λ(r:List HN)=>some (ai.nx (x.1,x.2.1,(),x.2.2.2.1,x.2.2.2.2.1,x.2.2.2.2.2.1,x.2.2.2.2.2.2.1,x.2.2.2.2.2.2.2.1,x.2.2.2.2.2.2.2.2.1,x.2.2.2.2.2.2.2.2.2.1,x.2.2.2.2.2.2.2.2.2.2.1,IntKind.wrap .i64 (x.2.2.2.2.2.2.2.2.2.2.2.1+(1:Int)),r)) else (aJ (x.2.2.2.2.2.1,v,x.2.2.2.2.2.2.2.2.2.2.2.2)).bind λ(r:List HN)=>some (ai.nx (x.1,x.2.1,(),x.2.2.2.1,x.2.2.2.2.1,x.2.2.2.2.2.1,x.2.2.2.2.2.2.1,x.2.2.2.2.2.2.2.1,x.2.2.2.2.2.2.2.2.1,x.2.2.2.2.2.2.2.2.2.1,x.2.2.2.2.2.2.2.2.2.2.1,IntKind.wrap .i64 (x.2.2.2.2.2.2.2.2.2.2.2.1+(1:Int)),r)) else some (ai.out (x.1,x.2.1,(),x.2.2.2.1,x.2.2.2.2.2.2.1,x.2.2.2.2.2.2.2.1,x.2.2.2.2.2.2.2.2.1,x.2.2.2.2.2.2.2.2.2.2.2.2))
noncomputable def ax:ML [(0,aFS),(1,aLN),(3,.mq 103 []),(9,aKI),(47,aLN),(48,aKI),(49,aKI),aNH] [(.ex 2,[(0,aFS),aNH])]:=λ(x:aLO×aLO×PUnit×Int×aLO×Int×Int×List HN)=>bif decide (x.2.2.2.2.2.2.1<x.2.2.2.2.2.1) then (bl x.2.2.2.2.1 x.2.2.2.2.2.2.1).bind λv=>(ab aq (x.1,x.2.1,(),x.2.2.2.1,x.2.2.2.2.2.2.1,v,x.2.2.2.2.1,x.2.2.2.2.2.1,x.2.2.2.2.2.2.1,x.2.1,(↑(List.length x.2.1):Int),(0:Int),x.2.2.2.2.2.2.2)).bind λ(y:aLO×aLO×PUnit×Int×aLO×Int×Int×List HN)=>some (ai.nx (y.1,y.2.1,(),y.2.2.2.1,y.2.2.2.2.1,y.2.2.2.2.2.1,IntKind.wrap .i64 (y.2.2.2.2.2.2.1+(1:Int)),y.2.2.2.2.2.2.2)) else some (ai.out (x.1,x.2.2.2.2.2.2.2))
noncomputable def cS:MF [(0,aFS),(1,aLN),(2,.bool),(3,.mq 103 []),aNH] [(0,.any),aNH]:=λ(x:aLO×aLO×Bool×PUnit×List HN)=>(aQ x.1).bind λ(r:Int)=>bif x.2.2.1 then (ab fX (x.1,x.2.1,(),IntKind.wrap .i64 (r - (1:Int)),(0:Int),IntKind.wrap .i64 ((↑(List.length x.2.1):Int) - (1:Int)),x.2.2.2.2)).bind λ(y:aLO×aLO×PUnit×Int×List HN)=>(ab ax (y.1,y.2.1,(),y.2.2.2.1,y.1,(↑(List.length y.1):Int),(0:Int),y.2.2.2.2)).bind λ(y:aLO×List HN)=>some ((),y.2) else (ab ax (x.1,x.2.1,(),IntKind.wrap .i64 (r - (1:Int)),x.1,(↑(List.length x.1):Int),(0:Int),x.2.2.2.2)).bind λ(y:aLO×List HN)=>some ((),y.2)
theorem kY:aE Tryz.prog 102 (eN 0 cS):=have k:=cx [(6,[(true,0),(true,1),(true,2),(true,3),(true,4),(true,5),(true,6),(true,7),(true,8),(true,9),(true,10),(true,11),(true,12),(false,13),(true,14),(false,15)])] (es dO Tryz.call125 (es eL Tryz.call37 (es dr Tryz.call108 (es mZ Tryz.call103 .nil))));fk k Tryz.func102 [(0,0,lN fX),(2,1,lN ax)] (.cons rfl (lz k) (.cons rfl (lk k [(4,0,lN aq)] (.cons rfl (lz k) .nil)) .nil))
noncomputable def bG:MF [(0,aFS),(1,aLN),aNH] [(0,.any),aNH]:=λ(x:aLO×aLO×List HN)=>(cS (x.1,x.2.1,false,(),x.2.2)).bind λ(r:PUnit×List HN)=>some ((),r.2)
theorem fD:aE Tryz.prog 80 (eN 0 bG):=have k:=cx [] (es kY Tryz.call102 .nil);fz k Tryz.func80
noncomputable def aR:MF [(0,.np),(1,.np),aNH] [aNH]:=λ(x:Option Nat×Option Nat×List HN)=>x.1.bind λi=>(some i).bind λi=>x.2.2[i]?.bind λh=>(bo (x.1,x.2.1,HN.fst h,x.2.2)).bind λ(r:List HN)=>some r
theorem mL:aE Tryz.prog 104 (eN 0 aR):=have k:=cx [] (es gz Tryz.call105 .nil);fz k Tryz.func104
noncomputable def aS:ML [(0,aFS),(1,.own .np 53),(3,.mq 104 []),(9,aKI),(10,aKI),(11,aKI),aNH] [(.ex 0,[(0,aFS),(1,.own .np 53),(3,.mq 104 []),(9,aKI),aNH])]:=λ(x:aLO×aLO×PUnit×Int×Int×Int×List HN)=>bif decide (x.2.2.2.2.1<x.2.2.2.2.2.1) then (bl x.2.1 x.2.2.2.2.2.1).bind λsv=>x.2.1[Int.toNat x.2.2.2.2.2.1]?.bind λv=>(bl x.2.1 x.2.2.2.2.1).bind λIJ=>x.2.1[Int.toNat x.2.2.2.2.1]?.bind λz_=>(bl x.2.1 x.2.2.2.2.1).bind λZf=>x.2.1[Int.toNat x.2.2.2.2.1]?.bind λX0=>(bl (List.set x.2.1 (Int.toNat x.2.2.2.2.1) v) x.2.2.2.2.2.1).bind λx_4=>(List.set x.2.1 (Int.toNat x.2.2.2.2.1) v)[Int.toNat x.2.2.2.2.2.1]?.bind λX1=>some (ai.nx (x.1,List.set (List.set x.2.1 (Int.toNat x.2.2.2.2.1) v) (Int.toNat x.2.2.2.2.2.1) z_,(),x.2.2.2.1,IntKind.wrap .i64 (x.2.2.2.2.1+(1:Int)),IntKind.wrap .i64 (x.2.2.2.2.2.1 - (1:Int)),x.2.2.2.2.2.2)) else some (ai.out (x.1,x.2.1,(),x.2.2.2.1,x.2.2.2.2.2.2))
noncomputable def bB:ML [(0,aFS),(1,.own .np 53),(3,.mq 104 []),(9,aKI),(12,aKI),(13,.np),(47,aLN),(48,aKI),(49,aKI),(54,.al 1),(55,aKI),(56,aKI),aNH] [(.ex 4,[(0,aFS),(1,.own .np 53),(3,.mq 104 []),(9,aKI),(47,aLN),(48,aKI),(49,aKI),aNH])]:=λ(x:aLO×aLO×PUnit×Int×Int×Option Nat×aLO×Int×Int×PUnit×Int×Int×List HN)=>bif decide (x.2.2.2.2.2.2.2.2.2.2.2.1<x.2.2.2.2.2.2.2.2.2.2.1) then (bl x.2.1 x.2.2.2.2.2.2.2.2.2.2.2.1).bind λsv=>x.2.1[Int.toNat x.2.2.2.2.2.2.2.2.2.2.2.1]?.bind λv=>bif decide (x.2.2.2.2.1≠x.2.2.2.1) then (ak lY (v,x.2.2.2.2.2.2.2.2.2.2.2.2)).bind λ(r:Option Nat×List HN)=>(aR (x.2.2.2.2.2.1,r.1,r.2)).bind λ(r:List HN)=>some (ai.nx (x.1,x.2.1,(),x.2.2.2.1,x.2.2.2.2.1,x.2.2.2.2.2.1,x.2.2.2.2.2.2.1,x.2.2.2.2.2.2.2.1,x.2.2.2.2.2.2.2.2.1,(),x.2.2.2.2.2.2.2.2.2.2.1,IntKind.wrap .i64 (x.2.2.2.2.2.2.2.2.2.2.2.1+(1:Int)),r)) else v.bind λi=>(some i).bind λi=>x.2.2.2.2.2.2.2.2.2.2.2.2[i]?.bind λh=>bif !Option.isNone (HN.par h) then v.bind λi=>(some i).bind λi=>x.2.2.2.2.2.2.2.2.2.2.2.2[i]?.bind λh=>(aO (HN.par h,v,x.2.2.2.2.2.2.2.2.2.2.2.2)).bind λ(r:List HN)=>(aR (x.2.2.2.2.2.1,v,r)).bind λ(r:List HN)=>some (ai.nx (x.1,x.2.1,(),x.2.2.2.1,x.2.2.2.2.1,x.2.2.2.2.2.1,x.2.2.2.2.2.2.1,x.2.2.2.2.2.2.2.1,x.2.2.2.2.2.2.2.2.1,(),x.2.2.2.2.2.2.2.2.2.2.1,IntKind.wrap .i64 (x.2.2.2.2.2.2.2.2.2.2.2.1+(1:Int)),r)) else (aR (x.2.2.2.2.2.1,v,x.2.2.2.2.2.2.2.2.2.2.2.2)).bind λ(r:List HN)=>some (ai.nx (x.1,x.2.1,(),x.2.2.2.1,x.2.2.2.2.1,x.2.2.2.2.2.1,x.2.2.2.2.2.2.1,x.2.2.2.2.2.2.2.1,x.2.2.2.2.2.2.2.2.1,(),x.2.2.2.2.2.2.2.2.2.2.1,IntKind.wrap .i64 (x.2.2.2.2.2.2.2.2.2.2.2.1+(1:Int)),r)) else some (ai.out (x.1,x.2.1,(),x.2.2.2.1,x.2.2.2.2.2.2.1,x.2.2.2.2.2.2.2.1,x.2.2.2.2.2.2.2.2.1,x.2.2.2.2.2.2.2.2.2.2.2.2))
noncomputable def ba:ML [(0,aFS),(1,.own .np 53),(3,.mq 104 []),(9,aKI),(47,aLN),(48,aKI),(49,aKI),aNH] [(.ex 2,[(0,aFS),aNH])]:=λ(x:aLO×aLO×PUnit×Int×aLO×Int×Int×List HN)=>bif decide (x.2.2.2.2.2.2.1<x.2.2.2.2.2.1) then (bl x.2.2.2.2.1 x.2.2.2.2.2.2.1).bind λv=>(ab bB (x.1,x.2.1,(),x.2.2.2.1,x.2.2.2.2.2.2.1,v,x.2.2.2.2.1,x.2.2.2.2.2.1,x.2.2.2.2.2.2.1,(),(↑(List.length x.2.1):Int),(0:Int),x.2.2.2.2.2.2.2)).bind λ(y:aLO×aLO×PUnit×Int×aLO×Int×Int×List HN)=>some (ai.nx (y.1,y.2.1,(),y.2.2.2.1,y.2.2.2.2.1,y.2.2.2.2.2.1,IntKind.wrap .i64 (y.2.2.2.2.2.2.1+(1:Int)),y.2.2.2.2.2.2.2)) else some (ai.out (x.1,x.2.2.2.2.2.2.2))
noncomputable def ew:MF [(0,aFS),(1,.own .np 53),(2,.bool),(3,.mq 104 []),aNH] [(0,.any),aNH]:=λ(x:aLO×aLO×Bool×PUnit×List HN)=>(aQ x.1).bind λ(r:Int)=>bif x.2.2.1 then (ab aS (x.1,x.2.1,(),IntKind.wrap .i64 (r - (1:Int)),(0:Int),IntKind.wrap .i64 ((↑(List.length x.2.1):Int) - (1:Int)),x.2.2.2.2)).bind λ(y:aLO×aLO×PUnit×Int×List HN)=>(ab ba (y.1,y.2.1,(),y.2.2.2.1,y.1,(↑(List.length y.1):Int),(0:Int),y.2.2.2.2)).bind λ(y:aLO×List HN)=>some ((),y.2) else (ab ba (x.1,x.2.1,(),IntKind.wrap .i64 (r - (1:Int)),x.1,(↑(List.length x.1):Int),(0:Int),x.2.2.2.2)).bind λ(y:aLO×List HN)=>some ((),y.2)
theorem kZ:aE Tryz.prog 102 (eN 0 ew):=have k:=cx [(6,[(true,0),(true,1),(true,2),(true,3),(true,4),(true,5),(true,6),(true,7),(true,8),(true,9),(true,10),(true,11),(true,12),(false,13),(true,14),(false,15)])] (es dO Tryz.call125 (es eL Tryz.call37 (es dr Tryz.call108 (es mL Tryz.call104 .nil))));fk k Tryz.func102 [(0,0,lN aS),(2,1,lN ba)] (.cons rfl (lz k) (.cons rfl (lk k [(4,0,lN bB)] (.cons rfl (lz k) .nil)) .nil))
noncomputable def dX:MF [(0,aFS),(1,.own .np 53),aNH] [(0,.any),aNH]:=λ(x:aLO×aLO×List HN)=>(ew (x.1,x.2.1,true,(),x.2.2)).bind λ(r:PUnit×List HN)=>some ((),r.2)
theorem mM:aE Tryz.prog 81 (eN 0 dX):=have k:=cx [] (es kZ Tryz.call102 .nil);fz k Tryz.func81
noncomputable def a8:MF [(0,.np),(1,.np),aNH] [aNH]:=λ(x:Option Nat×Option Nat×List HN)=>x.1.bind λi=>(some i).bind λi=>x.2.2[i]?.bind λh=>bif !Option.isNone (HN.par h) then x.1.bind λi=>(some i).bind λi=>x.2.2[i]?.bind λh=>x.1.bind λi=>(some i).bind λi=>x.2.2[i]?.bind λbR=>(bo (HN.par h,x.2.1,HN.aX bR,x.2.2)).bind λ(r:List HN)=>some r else some x.2.2
theorem nz:aE Tryz.prog 106 (eN 0 a8):=have k:=cx [(1,[(true,0),(true,1),(true,2),(true,3),(true,4),(true,5),(true,6),(true,7),(true,8),(false,9)])] (es gz Tryz.call105 .nil);fz k Tryz.func106
noncomputable def aT:ML [(0,aFS),(1,.own .np 53),(3,.mq 106 []),(9,aKI),(10,aKI),(11,aKI),aNH] [(.ex 0,[(0,aFS),(1,.own .np 53),(3,.mq 106 []),(9,aKI),aNH])]:=λ(x:aLO×aLO×PUnit×Int×Int×Int×List HN)=>bif decide (x.2.2.2.2.1<x.2.2.2.2.2.1) then (bl x.2.1 x.2.2.2.2.2.1).bind λsv=>x.2.1[Int.toNat x.2.2.2.2.2.1]?.bind λv=>(bl x.2.1 x.2.2.2.2.1).bind λIJ=>x.2.1[Int.toNat x.2.2.2.2.1]?.bind λz_=>(bl x.2.1 x.2.2.2.2.1).bind λZf=>x.2.1[Int.toNat x.2.2.2.2.1]?.bind λX0=>(bl (List.set x.2.1 (Int.toNat x.2.2.2.2.1) v) x.2.2.2.2.2.1).bind λx_4=>(List.set x.2.1 (Int.toNat x.2.2.2.2.1) v)[Int.toNat x.2.2.2.2.2.1]?.bind λX1=>some (ai.nx (x.1,List.set (List.set x.2.1 (Int.toNat x.2.2.2.2.1) v) (Int.toNat x.2.2.2.2.2.1) z_,(),x.2.2.2.1,IntKind.wrap .i64 (x.2.2.2.2.1+(1:Int)),IntKind.wrap .i64 (x.2.2.2.2.2.1 - (1:Int)),x.2.2.2.2.2.2)) else some (ai.out (x.1,x.2.1,(),x.2.2.2.1,x.2.2.2.2.2.2))
noncomputable def bC:ML [(0,aFS),(1,.own .np 53),(3,.mq 106 []),(9,aKI),(12,aKI),(13,.np),(47,aLN),(48,aKI),(49,aKI),(54,.al 1),(55,aKI),(56,aKI),aNH] [(.ex 4,[(0,aFS),(1,.own .np 53),(3,.mq 106 []),(9,aKI),(47,aLN),(48,aKI),(49,aKI),aNH])]:=λ(x:aLO×aLO×PUnit×Int×Int×Option Nat×aLO×Int×Int×PUnit×Int×Int×List HN)=>bif decide (x.2.2.2.2.2.2.2.2.2.2.2.1<x.2.2.2.2.2.2.2.2.2.2.1) then (bl x.2.1 x.2.2.2.2.2.2.2.2.2.2.2.1).bind λsv=>x.2.1[Int.toNat x.2.2.2.2.2.2.2.2.2.2.2.1]?.bind λv=>bif decide (x.2.2.2.2.1≠x.2.2.2.1) then (ak lY (v,x.2.2.2.2.2.2.2.2.2.2.2.2)).bind λ(r:Option Nat×List HN)=>(a8 (x.2.2.2.2.2.1,r.1,r.2)).bind λ(r:List HN)=>some (ai.nx (x.1,x.2.1,(),x.2.2.2.1,x.2.2.2.2.1,x.2.2.2.2.2.1,x.2.2.2.2.2.2.1,x.2.2.2.2.2.2.2.1,x.2.2.2.2.2.2.2.2.1,(),x.2.2.2.2.2.2.2.2.2.2.1,IntKind.wrap .i64 (x.2.2.2.2.2.2.2.2.2.2.2.1+(1:Int)),r)) else v.bind λi=>(some i).bind λi=>x.2.2.2.2.2.2.2.2.2.2.2.2[i]?.bind λh=>bif !Option.isNone (HN.par h) then v.bind λi=>(some i).bind λi=>x.2.2.2.2.2.2.2.2.2.2.2.2[i]?.bind λh=>(aO (HN.par h,v,x.2.2.2.2.2.2.2.2.2.2.2.2)).bind λ(r:List HN)=>(a8 (x.2.2.2.2.2.1,v,r)).bind λ(r:List HN)=>some (ai.nx (x.1,x.2.1,(),x.2.2.2.1,x.2.2.2.2.1,x.2.2.2.2.2.1,x.2.2.2.2.2.2.1,x.2.2.2.2.2.2.2.1,x.2.2.2.2.2.2.2.2.1,(),x.2.2.2.2.2.2.2.2.2.2.1,IntKind.wrap .i64 (x.2.2.2.2.2.2.2.2.2.2.2.1+(1:Int)),r)) else (a8 (x.2.2.2.2.2.1,v,x.2.2.2.2.2.2.2.2.2.2.2.2)).bind λ(r:List HN)=>some (ai.nx (x.1,x.2.1,(),x.2.2.2.1,x.2.2.2.2.1,x.2.2.2.2.2.1,x.2.2.2.2.2.2.1,x.2.2.2.2.2.2.2.1,x.2.2.2.2.2.2.2.2.1,(),x.2.2.2.2.2.2.2.2.2.2.1,IntKind.wrap .i64 (x.2.2.2.2.2.2.2.2.2.2.2.1+(1:Int)),r)) else some (ai.out (x.1,x.2.1,(),x.2.2.2.1,x.2.2.2.2.2.2.1,x.2.2.2.2.2.2.2.1,x.2.2.2.2.2.2.2.2.1,x.2.2.2.2.2.2.2.2.2.2.2.2))
noncomputable def bc:ML [(0,aFS),(1,.own .np 53),(3,.mq 106 []),(9,aKI),(47,aLN),(48,aKI),(49,aKI),aNH] [(.ex 2,[(0,aFS),aNH])]:=λ(x:aLO×aLO×PUnit×Int×aLO×Int×Int×List HN)=>bif decide (x.2.2.2.2.2.2.1<x.2.2.2.2.2.1) then (bl x.2.2.2.2.1 x.2.2.2.2.2.2.1).bind λv=>(ab bC (x.1,x.2.1,(),x.2.2.2.1,x.2.2.2.2.2.2.1,v,x.2.2.2.2.1,x.2.2.2.2.2.1,x.2.2.2.2.2.2.1,(),(↑(List.length x.2.1):Int),(0:Int),x.2.2.2.2.2.2.2)).bind λ(y:aLO×aLO×PUnit×Int×aLO×Int×Int×List HN)=>some (ai.nx (y.1,y.2.1,(),y.2.2.2.1,y.2.2.2.2.1,y.2.2.2.2.2.1,IntKind.wrap .i64 (y.2.2.2.2.2.2.1+(1:Int)),y.2.2.2.2.2.2.2)) else some (ai.out (x.1,x.2.2.2.2.2.2.2))
noncomputable def ey:MF [(0,aFS),(1,.own .np 53),(2,.bool),(3,.mq 106 []),aNH] [(0,.any),aNH]:=λ(x:aLO×aLO×Bool×PUnit×List HN)=>(aQ x.1).bind λ(r:Int)=>bif x.2.2.1 then (ab aT (x.1,x.2.1,(),IntKind.wrap .i64 (r - (1:Int)),(0:Int),IntKind.wrap .i64 ((↑(List.length x.2.1):Int) - (1:Int)),x.2.2.2.2)).bind λ(y:aLO×aLO×PUnit×Int×List HN)=>(ab bc (y.1,y.2.1,(),y.2.2.2.1,y.1,(↑(List.length y.1):Int),(0:Int),y.2.2.2.2)).bind λ(y:aLO×List HN)=>some ((),y.2) else (ab bc (x.1,x.2.1,(),IntKind.wrap .i64 (r - (1:Int)),x.1,(↑(List.length x.1):Int),(0:Int),x.2.2.2.2)).bind λ(y:aLO×List HN)=>some ((),y.2)
theorem k_:aE Tryz.prog 102 (eN 0 ey):=have k:=cx [(6,[(true,0),(true,1),(true,2),(true,3),(true,4),(true,5),(true,6),(true,7),(true,8),(true,9),(true,10),(true,11),(true,12),(false,13),(true,14),(false,15)])] (es dO Tryz.call125 (es eL Tryz.call37 (es dr Tryz.call108 (es nz Tryz.call106 .nil))));fk k Tryz.func102 [(0,0,lN aT),(2,1,lN bc)] (.cons rfl (lz k) (.cons rfl (lk k [(4,0,lN bC)] (.cons rfl (lz k) .nil)) .nil))
noncomputable def dh:MF [(0,aFS),(1,.own .np 53),aNH] [(0,.any),aNH]:=λ(x:aLO×aLO×List HN)=>(ey (x.1,x.2.1,true,(),x.2.2)).bind λ(r:PUnit×List HN)=>some ((),r.2)
theorem ju:aE Tryz.prog 82 (eN 0 dh):=have k:=cx [] (es k_ Tryz.call102 .nil);fz k Tryz.func82
noncomputable def aW:MF [(0,.np),(1,.np),aNH] [aNH]:=λ(x:Option Nat×Option Nat×List HN)=>x.1.bind λi=>(some i).bind λi=>x.2.2[i]?.bind λh=>bif !Option.isNone (HN.par h) then x.1.bind λi=>(some i).bind λi=>x.2.2[i]?.bind λh=>(bo (HN.par h,x.2.1,x.1,x.2.2)).bind λ(r:List HN)=>some r else some x.2.2
theorem m4:aE Tryz.prog 107 (eN 0 aW):=have k:=cx [] (es gz Tryz.call105 .nil);fz k Tryz.func107
noncomputable def fY:ML [(0,aFS),(1,aLN),(3,.mq 107 []),(9,aKI),(10,aKI),(11,aKI),aNH] [(.ex 0,[(0,aFS),(1,aLN),(3,.mq 107 []),(9,aKI),aNH])]:=λ(x:aLO×aLO×PUnit×Int×Int×Int×List HN)=>bif decide (x.2.2.2.2.1<x.2.2.2.2.2.1) then (bl x.2.1 x.2.2.2.2.2.1).bind λv=>(bl x.2.1 x.2.2.2.2.1).bind λv=>(bl x.2.1 x.2.2.2.2.1).bind λv=>none else some (ai.out (x.1,x.2.1,(),x.2.2.2.1,x.2.2.2.2.2.2))
noncomputable def bD:ML [(0,aFS),(1,aLN),(3,.mq 107 []),(9,aKI),(12,aKI),(13,.np),(47,aLN),(48,aKI),(49,aKI),(54,aLN),(55,aKI),(56,aKI),aNH] [(.ex 4,[(0,aFS),(1,aLN),(3,.mq 107 []),(9,aKI),(47,aLN),(48,aKI),(49,aKI),aNH])]:=λ(x:aLO×aLO×PUnit×Int×Int×Option Nat×aLO×Int×Int×aLO×Int×Int×List HN)=>bif decide (x.2.2.2.2.2.2.2.2.2.2.2.1<x.2.2.2.2.2.2.2.2.2.2.1) then (bl x.2.2.2.2.2.2.2.2.2.1 x.2.2.2.2.2.2.2.2.2.2.2.1).bind λv=>bif decide (x.2.2.2.2.1≠x.2.2.2.1) then (ak lY (v,x.2.2.2.2.2.2.2.2.2.2.2.2)).bind λ(r:Option Nat×List HN)=>(aW (x.2.2.2.2.2.1,r.1,r.2)).bind λ(r:List HN)=>some (ai.nx (x.1,x.2.1,(),x.2.2.2.1,x.2.2.2.2.1,x.2.2.2.2.2.1,x.2.2.2.2.2.2.1,x.2.2.2.2.2.2.2.1,x.2.2.2.2.2.2.2.2.1,x.2.2.2.2.2.2.2.2.2.1,x.2.2.2.2.2.2.2.2.2.2.1,IntKind.wrap .i64 (x.2.2.2.2.2.2.2.2.2.2.2.1+(1:Int)),r)) else v.bind λi=>(some i).bind λi=>x.2.2.2.2.2.2.2.2.2.2.2.2[i]?.bind λh=>bif !Option.isNone (HN.par h) then v.bind λi=>(some i).bind λi=>x.2.2.2.2.2.2.2.2.2.2.2.2[i]?.bind λh=>(aO (HN.par h,v,x.2.2.2.2.2.2.2.2.2.2.2.2)).bind λ(r:List HN)=>(aW (x.2.2.2.2.2.1,v,r)).bind λ(r:List HN)=>some (ai.nx (x.1,x.2.1,(),x.2.2.2.1,x.2.2.2.2.1,x.2.2.2.2.2.1,x.2.2.2.2.2.2.1,x.2.2.2.2.2.2.2.1,x.2.2.2.2.2.2.2.2.1,x.2.2.2.2.2.2.2.2.2.1,x.2.2.2.2.2.2.2.2.2.2.1,IntKind.wrap .i64 (x.2.2.2.2.2.2.2.2.2.2.2.1+(1:Int)),r)) else (aW (x.2.2.2.2.2.1,v,x.2.2.2.2.2.2.2.2.2.2.2.2)).bind λ(r:List HN)=>some (ai.nx (x.1,x.2.1,(),x.2.2.2.1,x.2.2.2.2.1,x.2.2.2.2.2.1,x.2.2.2.2.2.2.1,x.2.2.2.2.2.2.2.1,x.2.2.2.2.2.2.2.2.1,x.2.2.2.2.2.2.2.2.2.1,x.2.2.2.2.2.2.2.2.2.2.1,IntKind.wrap .i64 (x.2.2.2.2.2.2.2.2.2.2.2.1+(1:Int)),r)) else some (ai.out (x.1,x.2.1,(),x.2.2.2.1,x.2.2.2.2.2.2.1,x.2.2.2.2.2.2.2.1,x.2.2.2.2.2.2.2.2.1,x.2.2.2.2.2.2.2.2.2.2.2.2))
noncomputable def bd:ML [(0,aFS),(1,aLN),(3,.mq 107 []),(9,aKI),(47,aLN),(48,aKI),(49,aKI),aNH] [(.ex 2,[(0,aFS),aNH])]:=λ(x:aLO×aLO×PUnit×Int×aLO×Int×Int×List HN)=>bif decide (x.2.2.2.2.2.2.1<x.2.2.2.2.2.1) then (bl x.2.2.2.2.1 x.2.2.2.2.2.2.1).bind λv=>(ab bD (x.1,x.2.1,(),x.2.2.2.1,x.2.2.2.2.2.2.1,v,x.2.2.2.2.1,x.2.2.2.2.2.1,x.2.2.2.2.2.2.1,x.2.1,(↑(List.length x.2.1):Int),(0:Int),x.2.2.2.2.2.2.2)).bind λ(y:aLO×aLO×PUnit×Int×aLO×Int×Int×List HN)=>some (ai.nx (y.1,y.2.1,(),y.2.2.2.1,y.2.2.2.2.1,y.2.2.2.2.2.1,IntKind.wrap .i64 (y.2.2.2.2.2.2.1+(1:Int)),y.2.2.2.2.2.2.2)) else some (ai.out (x.1,x.2.2.2.2.2.2.2))
noncomputable def eA:MF [(0,aFS),(1,aLN),(2,.bool),(3,.mq 107 []),aNH] [(0,.any),aNH]:=λ(x:aLO×aLO×Bool×PUnit×List HN)=>(aQ x.1).bind λ(r:Int)=>bif x.2.2.1 then (ab fY (x.1,x.2.1,(),IntKind.wrap .i64 (r - (1:Int)),(0:Int),IntKind.wrap .i64 ((↑(List.length x.2.1):Int) - (1:Int)),x.2.2.2.2)).bind λ(y:aLO×aLO×PUnit×Int×List HN)=>(ab bd (y.1,y.2.1,(),y.2.2.2.1,y.1,(↑(List.length y.1):Int),(0:Int),y.2.2.2.2)).bind λ(y:aLO×List HN)=>some ((),y.2) else (ab bd (x.1,x.2.1,(),IntKind.wrap .i64 (r - (1:Int)),x.1,(↑(List.length x.1):Int),(0:Int),x.2.2.2.2)).bind λ(y:aLO×List HN)=>some ((),y.2)
theorem la:aE Tryz.prog 102 (eN 0 eA):=have k:=cx [(6,[(true,0),(true,1),(true,2),(true,3),(true,4),(true,5),(true,6),(true,7),(true,8),(true,9),(true,10),(true,11),(true,12),(false,13),(true,14),(false,15)])] (es dO Tryz.call125 (es eL Tryz.call37 (es dr Tryz.call108 (es m4 Tryz.call107 .nil))));fk k Tryz.func102 [(0,0,lN fY),(2,1,lN bd)] (.cons rfl (lz k) (.cons rfl (lk k [(4,0,lN bD)] (.cons rfl (lz k) .nil)) .nil))
noncomputable def ed:MF [(0,aFS),(1,aLN),aNH] [(0,.any),aNH]:=λ(x:aLO×aLO×List HN)=>(eA (x.1,x.2.1,false,(),x.2.2)).bind λ(r:PUnit×List HN)=>some ((),r.2)
theorem m5:aE Tryz.prog 83 (eN 0 ed):=have k:=cx [] (es la Tryz.call102 .nil);fz k Tryz.func83
noncomputable def bU:ML [(0,aFS),(8,aLN),(9,aKI),(10,aKI),aNH] [(.ex 0,[(0,aFS),aNH])]:=λ(x:aLO×aLO×Int×Int×List HN)=>bif decide (x.2.2.2.1<x.2.2.1) then (bl x.2.1 x.2.2.2.1).bind λv=>v.bind λi=>(some i).bind λi=>x.2.2.2.2[i]?.bind λh=>bif !Option.isNone (HN.par h) then v.bind λi=>(some i).bind λi=>x.2.2.2.2[i]?.bind λh=>(aO (HN.par h,v,x.2.2.2.2)).bind λ(r:List HN)=>some (ai.nx (x.1,x.2.1,x.2.2.1,IntKind.wrap .i64 (x.2.2.2.1+(1:Int)),r)) else some (ai.nx (x.1,x.2.1,x.2.2.1,IntKind.wrap .i64 (x.2.2.2.1+(1:Int)),x.2.2.2.2)) else some (ai.out (x.1,x.2.2.2.2))
noncomputable def c7:MF [(0,aFS),aNH] [(0,.any),aNH]:=λ(x:aLO×List HN)=>(ab bU (x.1,x.1,(↑(List.length x.1):Int),(0:Int),x.2)).bind λ(y:aLO×List HN)=>some ((),y.2)
theorem kx:aE Tryz.prog 85 (eN 0 c7):=have k:=cx [] (es dr Tryz.call108 .nil);fk k Tryz.func85 [(0,0,lN bU)] (.cons rfl (lz k) .nil)
noncomputable def bE:MF [(0,aFS),(1,.own .np 53),aNH] [(0,.any),aNH]:=λ(x:aLO×aLO×List HN)=>(dh (x.1,x.2.1,x.2.2)).bind λ(r:PUnit×List HN)=>(c7 (x.1,r.2)).bind λ(r:PUnit×List HN)=>some ((),r.2)
theorem gI:aE Tryz.prog 84 (eN 0 bE):=have k:=cx [] (es ju Tryz.call82 (es kx Tryz.call85 .nil));fz k Tryz.func84
noncomputable def cU:ML [(0,aFS),(3,aKI),(6,.np),(14,aLN),(15,aKI),(16,aKI),aNH] [(.ex 2,[(0,aFS),(3,aKI),(14,aLN),(15,aKI),(16,aKI),aNH])]:=λ(x:aLO×Int×Option Nat×aLO×Int×Int×List HN)=>bif !Option.isNone x.2.2.1 then x.2.2.1.bind λi=>(some i).bind λi=>x.2.2.2.2.2.2[i]?.bind λh=>some (ai.nx (x.1,IntKind.wrap .i64 (x.2.1+(1:Int)),HN.aX h,x.2.2.2.1,x.2.2.2.2.1,x.2.2.2.2.2.1,x.2.2.2.2.2.2)) else some (ai.out (x.1,x.2.1,x.2.2.2.1,x.2.2.2.2.1,x.2.2.2.2.2.1,x.2.2.2.2.2.2))
noncomputable def cG:ML [(0,aFS),(3,aKI),(14,aLN),(15,aKI),(16,aKI),aNH] [(.ex 0,[(0,aFS),(3,aKI),aNH])]:=λ(x:aLO×Int×aLO×Int×Int×List HN)=>bif decide (x.2.2.2.2.1<x.2.2.2.1) then (bl x.2.2.1 x.2.2.2.2.1).bind λv=>v.bind λi=>(some i).bind λi=>x.2.2.2.2.2[i]?.bind λh=>(ab cU (x.1,x.2.1,HN.fst h,x.2.2.1,x.2.2.2.1,x.2.2.2.2.1,x.2.2.2.2.2)).bind λ(y:aLO×Int×aLO×Int×Int×List HN)=>some (ai.nx (y.1,y.2.1,y.2.2.1,y.2.2.2.1,IntKind.wrap .i64 (y.2.2.2.2.1+(1:Int)),y.2.2.2.2.2)) else some (ai.out (x.1,x.2.1,x.2.2.2.2.2))
noncomputable def cV:ML [(0,aFS),(7,.own .np 53),(9,.np),(10,.np),(38,aLN),(39,aKI),(40,aKI),aNH] [(.ex 6,[(0,aFS),(7,.own .np 53),(38,aLN),(39,aKI),(40,aKI),aNH])]:=λ(x:aLO×aLO×Option Nat×Option Nat×aLO×Int×Int×List HN)=>bif !Option.isNone x.2.2.2.1 then (aO (x.2.2.1,x.2.2.2.1,x.2.2.2.2.2.2.2)).bind λ(r:List HN)=>(eC x.2.1 [x.2.2.2.1]).bind λ(eQ:aLO)=>x.2.2.1.bind λi=>(some i).bind λi=>r[i]?.bind λh=>some (ai.nx (x.1,eQ,x.2.2.1,HN.fst h,x.2.2.2.2.1,x.2.2.2.2.2.1,x.2.2.2.2.2.2.1,r)) else some (ai.out (x.1,x.2.1,x.2.2.2.2.1,x.2.2.2.2.2.1,x.2.2.2.2.2.2.1,x.2.2.2.2.2.2.2))
noncomputable def cH:ML [(0,aFS),(7,.own .np 53),(38,aLN),(39,aKI),(40,aKI),aNH] [(.ex 4,[(0,aFS),(7,.own .np 53),aNH])]:=λ(x:aLO×aLO×aLO×Int×Int×List HN)=>bif decide (x.2.2.2.2.1<x.2.2.2.1) then (bl x.2.2.1 x.2.2.2.2.1).bind λv=>v.bind λi=>(some i).bind λi=>x.2.2.2.2.2[i]?.bind λh=>(ab cV (x.1,x.2.1,v,HN.fst h,x.2.2.1,x.2.2.2.1,x.2.2.2.2.1,x.2.2.2.2.2)).bind λ(y:aLO×aLO×aLO×Int×Int×List HN)=>some (ai.nx (y.1,y.2.1,y.2.2.1,y.2.2.2.1,IntKind.wrap .i64 (y.2.2.2.2.1+(1:Int)),y.2.2.2.2.2)) else some (ai.out (x.1,x.2.1,x.2.2.2.2.2))
noncomputable def gB:MF [(0,aFS),aNH] [(0,.any),aNH]:=λ(x:aLO×List HN)=>(ab cG (x.1,(0:Int),x.1,(↑(List.length x.1):Int),(0:Int),x.2)).bind λ(y:aLO×Int×List HN)=>bif decide ((0:Int)<=y.2.1/\(0:Int)<=(0:Int)/\y.2.1<=(1048576:Int)) then (ab cH (y.1,List.replicate (Int.toNat (0:Int)) none,y.1,(↑(List.length y.1):Int),(0:Int),y.2.2)).bind λ(y:aLO×aLO×List HN)=>(bk (y.1,y.2.1)).bind λ(r:aLO)=>some ((),y.2.2) else none
theorem re:aE Tryz.prog 86 (eN 0 gB):=have k:=cx [] (es dr Tryz.call108 (es gU Tryz.call72 .nil));fk k Tryz.func86 [(0,0,lN cG),(4,1,lN cH)] (.cons rfl (lk k [(2,0,lN cU)] (.cons rfl (lz k) .nil)) (.cons rfl (lk k [(6,0,lN cV)] (.cons rfl (lz k) .nil)) .nil))
noncomputable def cO:MF [(0,aFS),(1,aFS),aNH] [(0,.any),aNH]:=λ(x:aLO×aLO×List HN)=>(bG (x.1,x.2.1,x.2.2)).bind λ(r:PUnit×List HN)=>some ((),r.2)
theorem mw:aE Tryz.prog 130 (eN 0 cO):=have k:=cx [] (es fD Tryz.call80 .nil);fz k Tryz.func130
noncomputable def cI:ML [(3,.np),(gZ,.mz .h)] [(.ex 0,[(3,.np),(gZ,.mz .h)])]:=λ(x:Option Nat×List HN)=>bif !Option.isNone x.1 then x.1.bind λi=>(some i).bind λi=>x.2[i]?.bind λh=>bif decide (HN.ty h≠(3:Int)) then x.1.bind λi=>(some i).bind λi=>x.2[i]?.bind λh=>some (ai.nx (HN.aX h,x.2)) else some (ai.out (x.1,x.2)) else some (ai.out (x.1,x.2))
noncomputable def dP:MF [(0,.np),(gZ,.mz .h)] [(0,.np)]:=λ(x:Option Nat×List HN)=>x.1.bind λi=>(some i).bind λi=>x.2[i]?.bind λh=>(ab cI (HN.fst h,x.2)).bind λ(y:Option Nat×List HN)=>some y.1
theorem rf:aE Tryz.prog 129 (eN 0 dP):=have k:=cx [] .nil;fk k Tryz.func129 [(0,0,lN cI)] (.cons rfl (lz k) .nil)
noncomputable def bn:ML [(0,.np),(1,.fp .int),(2,.fp .np),(3,.fp .np),(5,.np),(gZ,.mz .h)] [(.rt,[(5,.np),(gZ,.mz .h)])]:=λ(x:Option Nat×Int×Option Nat×Option Nat×Option Nat×List HN)=>bif decide (x.2.1=(0:Int)) then bif Option.isNone x.1 then x.2.2.1.bind λi=>(some i).bind λi=>x.2.2.2.2.2[i]?.bind λh=>bif decide (HN.fst h=x.2.2.2.1) then bif !Option.isNone x.2.2.2.1 then x.2.2.2.1.bind λi=>(some i).bind λi=>x.2.2.2.2.2[i]?.bind λh=>bif Option.isNone (HN.aX h) then some (ai.out (HN.aX h,x.2.2.2.2.2)) else (HN.aX h).bind λi=>(some i).bind λi=>x.2.2.2.2.2[i]?.bind λbR=>bif decide (HN.ty bR=(3:Int)) then some (ai.out (HN.aX h,x.2.2.2.2.2)) else bif decide (x.2.1=(4:Int)) then some (ai.out (HN.aX h,x.2.2.2.2.2)) else some (ai.nx (HN.aX h,x.2.1,x.2.2.1,x.2.2.2.1,HN.aX h,x.2.2.2.2.2)) else bif Option.isNone (HN.fst h) then some (ai.out (HN.fst h,x.2.2.2.2.2)) else (HN.fst h).bind λi=>(some i).bind λi=>x.2.2.2.2.2[i]?.bind λbR=>bif decide (HN.ty bR=(3:Int)) then some (ai.out (HN.fst h,x.2.2.2.2.2)) else bif decide (x.2.1=(4:Int)) then some (ai.out (HN.fst h,x.2.2.2.2.2)) else some (ai.nx (HN.fst h,x.2.1,x.2.2.1,x.2.2.2.1,HN.fst h,x.2.2.2.2.2)) else bif Option.isNone (HN.fst h) then some (ai.out (HN.fst h,x.2.2.2.2.2)) else (HN.fst h).bind λi=>(some i).bind λi=>x.2.2.2.2.2[i]?.bind λbR=>bif decide (HN.ty bR=(3:Int)) then some (ai.out (HN.fst h,x.2.2.2.2.2)) else bif decide (x.2.1=(4:Int)) then some (ai.out (HN.fst h,x.2.2.2.2.2)) else some (ai.nx (HN.fst h,x.2.1,x.2.2.1,x.2.2.2.1,HN.fst h,x.2.2.2.2.2)) else x.1.bind λi=>(some i).bind λi=>x.2.2.2.2.2[i]?.bind λh=>bif decide (HN.aX h=x.2.2.2.1) then bif !Option.isNone x.2.2.2.1 then x.2.2.2.1.bind λi=>(some i).bind λi=>x.2.2.2.2.2[i]?.bind λh=>bif Option.isNone (HN.aX h) then some (ai.out (HN.aX h,x.2.2.2.2.2)) else (HN.aX h).bind λi=>(some i).bind λi=>x.2.2.2.2.2[i]?.bind λbR=>bif decide (HN.ty bR=(3:Int)) then some (ai.out (HN.aX h,x.2.2.2.2.2)) else bif decide (x.2.1=(4:Int)) then some (ai.out (HN.aX h,x.2.2.2.2.2)) else some (ai.nx (HN.aX h,x.2.1,x.2.2.1,x.2.2.2.1,HN.aX h,x.2.2.2.2.2)) else bif Option.isNone (HN.aX h) then some (ai.out (HN.aX h,x.2.2.2.2.2)) else (HN.aX h).bind λi=>(some i).bind λi=>x.2.2.2.2.2[i]?.bind λbR=>bif decide (HN.ty bR=(3:Int)) then some (ai.out (HN.aX h,x.2.2.2.2.2)) else bif decide (x.2.1=(4:Int)) then some (ai.out (HN.aX h,x.2.2.2.2.2)) else some (ai.nx (HN.aX h,x.2.1,x.2.2.1,x.2.2.2.1,HN.aX h,x.2.2.2.2.2)) else bif Option.isNone (HN.aX h) then some (ai.out (HN.aX h,x.2.2.2.2.2)) else (HN.aX h).bind λi=>(some i).bind λi=>x.2.2.2.2.2[i]?.bind λbR=>bif decide (HN.ty bR=(3:Int)) then some (ai.out (HN.aX h,x.2.2.2.2.2)) else bif decide (x.2.1=(4:Int)) then some (ai.out (HN.aX h,x.2.2.2.2.2)) else some (ai.nx (HN.aX h,x.2.1,x.2.2.1,x.2.2.2.1,HN.aX h,x.2.2.2.2.2)) else bif decide (x.2.1=(4:Int)) then bif Option.isNone x.1 then x.2.2.1.bind λi=>(some i).bind λi=>x.2.2.2.2.2[i]?.bind λh=>bif decide (HN.fst h=x.2.2.2.1) then bif !Option.isNone x.2.2.2.1 then x.2.2.2.1.bind λi=>(some i).bind λi=>x.2.2.2.2.2[i]?.bind λh=>bif Option.isNone (HN.aX h) then some (ai.out (HN.aX h,x.2.2.2.2.2)) else (HN.aX h).bind λi=>(some i).bind λi=>x.2.2.2.2.2[i]?.bind λbR=>bif decide (HN.ty bR=(3:Int)) then some (ai.out (HN.aX h,x.2.2.2.2.2)) else bif decide (x.2.1=(4:Int)) then some (ai.out (HN.aX h,x.2.2.2.2.2)) else some (ai.nx (HN.aX h,x.2.1,x.2.2.1,x.2.2.2.1,HN.aX h,x.2.2.2.2.2)) else bif Option.isNone (HN.fst h) then some (ai.out (HN.fst h,x.2.2.2.2.2)) else (HN.fst h).bind λi=>(some i).bind λi=>x.2.2.2.2.2[i]?.bind λbR=>bif decide (HN.ty bR=(3:Int)) then some (ai.out (HN.fst h,x.2.2.2.2.2)) else bif decide (x.2.1=(4:Int)) then some (ai.out (HN.fst h,x.2.2.2.2.2)) else some (ai.nx (HN.fst h,x.2.1,x.2.2.1,x.2.2.2.1,HN.fst h,x.2.2.2.2.2)) else bif Option.isNone (HN.fst h) then some (ai.out (HN.fst h,x.2.2.2.2.2)) else (HN.fst h).bind λi=>(some i).bind λi=>x.2.2.2.2.2[i]?.bind λbR=>bif decide (HN.ty bR=(3:Int)) then some (ai.out (HN.fst h,x.2.2.2.2.2)) else bif decide (x.2.1=(4:Int)) then some (ai.out (HN.fst h,x.2.2.2.2.2)) else some (ai.nx (HN.fst h,x.2.1,x.2.2.1,x.2.2.2.1,HN.fst h,x.2.2.2.2.2)) else x.1.bind λi=>(some i).bind λi=>x.2.2.2.2.2[i]?.bind λh=>bif decide (HN.aX h=x.2.2.2.1) then bif !Option.isNone x.2.2.2.1 then x.2.2.2.1.bind λi=>(some i).bind λi=>x.2.2.2.2.2[i]?.bind λh=>bif Option.isNone (HN.aX h) then some (ai.out (HN.aX h,x.2.2.2.2.2)) else (HN.aX h).bind λi=>(some i).bind λi=>x.2.2.2.2.2[i]?.bind λbR=>bif decide (HN.ty bR=(3:Int)) then some (ai.out (HN.aX h,x.2.2.2.2.2)) else bif decide (x.2.1=(4:Int)) then some (ai.out (HN.aX h,x.2.2.2.2.2)) else some (ai.nx (HN.aX h,x.2.1,x.2.2.1,x.2.2.2.1,HN.aX h,x.2.2.2.2.2)) else bif Option.isNone (HN.aX h) then some (ai.out (HN.aX h,x.2.2.2.2.2)) else (HN.aX h).bind λi=>(some i).bind λi=>x.2.2.2.2.2[i]?.bind λbR=>bif decide (HN.ty bR=(3:Int)) then some (ai.out (HN.aX h,x.2.2.2.2.2)) else bif decide (x.2.1=(4:Int)) then some (ai.out (HN.aX h,x.2.2.2.2.2)) else some (ai.nx (HN.aX h,x.2.1,x.2.2.1,x.2.2.2.1,HN.aX h,x.2.2.2.2.2)) else bif Option.isNone (HN.aX h) then some (ai.out (HN.aX h,x.2.2.2.2.2)) else (HN.aX h).bind λi=>(some i).bind λi=>x.2.2.2.2.2[i]?.bind λbR=>bif decide (HN.ty bR=(3:Int)) then some (ai.out (HN.aX h,x.2.2.2.2.2)) else bif decide (x.2.1=(4:Int)) then some (ai.out (HN.aX h,x.2.2.2.2.2)) else some (ai.nx (HN.aX h,x.2.1,x.2.2.1,x.2.2.2.1,HN.aX h,x.2.2.2.2.2)) else bif decide (x.2.1=(-1:Int)) then bif Option.isNone x.1 then x.2.2.2.1.bind λi=>(some i).bind λi=>x.2.2.2.2.2[i]?.bind λh=>bif Option.isNone (HN.aY h) then some (ai.out (HN.aY h,x.2.2.2.2.2)) else (HN.aY h).bind λi=>(some i).bind λi=>x.2.2.2.2.2[i]?.bind λbR=>bif decide (HN.ty bR=(3:Int)) then some (ai.out (HN.aY h,x.2.2.2.2.2)) else bif decide (x.2.1=(4:Int)) then some (ai.out (HN.aY h,x.2.2.2.2.2)) else some (ai.nx (HN.aY h,x.2.1,x.2.2.1,x.2.2.2.1,HN.aY h,x.2.2.2.2.2)) else x.1.bind λi=>(some i).bind λi=>x.2.2.2.2.2[i]?.bind λh=>bif Option.isNone (HN.aY h) then some (ai.out (HN.aY h,x.2.2.2.2.2)) else (HN.aY h).bind λi=>(some i).bind λi=>x.2.2.2.2.2[i]?.bind λbR=>bif decide (HN.ty bR=(3:Int)) then some (ai.out (HN.aY h,x.2.2.2.2.2)) else bif decide (x.2.1=(4:Int)) then some (ai.out (HN.aY h,x.2.2.2.2.2)) else some (ai.nx (HN.aY h,x.2.1,x.2.2.1,x.2.2.2.1,HN.aY h,x.2.2.2.2.2)) else bif decide (x.2.1=(-2:Int)) then bif Option.isNone x.1 then x.2.2.2.1.bind λi=>(some i).bind λi=>x.2.2.2.2.2[i]?.bind λh=>bif Option.isNone (HN.aY h) then some (ai.out (HN.aY h,x.2.2.2.2.2)) else (HN.aY h).bind λi=>(some i).bind λi=>x.2.2.2.2.2[i]?.bind λbR=>bif decide (HN.ty bR=(3:Int)) then some (ai.out (HN.aY h,x.2.2.2.2.2)) else bif decide (x.2.1=(4:Int)) then some (ai.out (HN.aY h,x.2.2.2.2.2)) else some (ai.nx (HN.aY h,x.2.1,x.2.2.1,x.2.2.2.1,HN.aY h,x.2.2.2.2.2)) else x.1.bind λi=>(some i).bind λi=>x.2.2.2.2.2[i]?.bind λh=>bif Option.isNone (HN.aY h) then some (ai.out (HN.aY h,x.2.2.2.2.2)) else (HN.aY h).bind λi=>(some i).bind λi=>x.2.2.2.2.2[i]?.bind λbR=>bif decide (HN.ty bR=(3:Int)) then some (ai.out (HN.aY h,x.2.2.2.2.2)) else bif decide (x.2.1=(4:Int)) then some (ai.out (HN.aY h,x.2.2.2.2.2)) else some (ai.nx (HN.aY h,x.2.1,x.2.2.1,x.2.2.2.1,HN.aY h,x.2.2.2.2.2)) else bif decide (x.2.1=(-3:Int)) then bif Option.isNone x.1 then x.2.2.2.1.bind λi=>(some i).bind λi=>x.2.2.2.2.2[i]?.bind λh=>bif Option.isNone (HN.aY h) then some (ai.out (HN.aY h,x.2.2.2.2.2)) else (HN.aY h).bind λi=>(some i).bind λi=>x.2.2.2.2.2[i]?.bind λbR=>bif decide (HN.ty bR=(3:Int)) then some (ai.out (HN.aY h,x.2.2.2.2.2)) else bif decide (x.2.1=(4:Int)) then some (ai.out (HN.aY h,x.2.2.2.2.2)) else some (ai.nx (HN.aY h,x.2.1,x.2.2.1,x.2.2.2.1,HN.aY h,x.2.2.2.2.2)) else x.1.bind λi=>(some i).bind λi=>x.2.2.2.2.2[i]?.bind λh=>bif Option.isNone (HN.aY h) then some (ai.out (HN.aY h,x.2.2.2.2.2)) else (HN.aY h).bind λi=>(some i).bind λi=>x.2.2.2.2.2[i]?.bind λbR=>bif decide (HN.ty bR=(3:Int)) then some (ai.out (HN.aY h,x.2.2.2.2.2)) else bif decide (x.2.1=(4:Int)) then some (ai.out (HN.aY h,x.2.2.2.2.2)) else some (ai.nx (HN.aY h,x.2.1,x.2.2.1,x.2.2.2.1,HN.aY h,x.2.2.2.2.2)) else bif decide (x.2.1=(1:Int)) then bif Option.isNone x.1 then x.2.2.2.1.bind λi=>(some i).bind λi=>x.2.2.2.2.2[i]?.bind λh=>bif Option.isNone (HN.aX h) then some (ai.out (HN.aX h,x.2.2.2.2.2)) else (HN.aX h).bind λi=>(some i).bind λi=>x.2.2.2.2.2[i]?.bind λbR=>bif decide (HN.ty bR=(3:Int)) then some (ai.out (HN.aX h,x.2.2.2.2.2)) else bif decide (x.2.1=(4:Int)) then some (ai.out (HN.aX h,x.2.2.2.2.2)) else some (ai.nx (HN.aX h,x.2.1,x.2.2.1,x.2.2.2.1,HN.aX h,x.2.2.2.2.2)) else x.1.bind λi=>(some i).bind λi=>x.2.2.2.2.2[i]?.bind λh=>bif Option.isNone (HN.aX h) then some (ai.out (HN.aX h,x.2.2.2.2.2)) else (HN.aX h).bind λi=>(some i).bind λi=>x.2.2.2.2.2[i]?.bind λbR=>bif decide (HN.ty bR=(3:Int)) then some (ai.out (HN.aX h,x.2.2.2.2.2)) else bif decide (x.2.1=(4:Int)) then some (ai.out (HN.aX h,x.2.2.2.2.2)) else some (ai.nx (HN.aX h,x.2.1,x.2.2.1,x.2.2.2.1,HN.aX h,x.2.2.2.2.2)) else bif decide (x.2.1=(2:Int)) then bif Option.isNone x.1 then x.2.2.2.1.bind λi=>(some i).bind λi=>x.2.2.2.2.2[i]?.bind λh=>bif Option.isNone (HN.aX h) then some (ai.out (HN.aX h,x.2.2.2.2.2)) else (HN.aX h).bind λi=>(some i).bind λi=>x.2.2.2.2.2[i]?.bind λbR=>bif decide (HN.ty bR=(3:Int)) then some (ai.out (HN.aX h,x.2.2.2.2.2)) else bif decide (x.2.1=(4:Int)) then some (ai.out (HN.aX h,x.2.2.2.2.2)) else some (ai.nx (HN.aX h,x.2.1,x.2.2.1,x.2.2.2.1,HN.aX h,x.2.2.2.2.2)) else x.1.bind λi=>(some i).bind λi=>x.2.2.2.2.2[i]?.bind λh=>bif Option.isNone (HN.aX h) then some (ai.out (HN.aX h,x.2.2.2.2.2)) else (HN.aX h).bind λi=>(some i).bind λi=>x.2.2.2.2.2[i]?.bind λbR=>bif decide (HN.ty bR=(3:Int)) then some (ai.out (HN.aX h,x.2.2.2.2.2)) else bif decide (x.2.1=(4:Int)) then some (ai.out (HN.aX h,x.2.2.2.2.2)) else some (ai.nx (HN.aX h,x.2.1,x.2.2.1,x.2.2.2.1,HN.aX h,x.2.2.2.2.2)) else bif decide (x.2.1=(3:Int)) then bif Option.isNone x.1 then x.2.2.2.1.bind λi=>(some i).bind λi=>x.2.2.2.2.2[i]?.bind λh=>bif Option.isNone (HN.aX h) then some (ai.out (HN.aX h,x.2.2.2.2.2)) else (HN.aX h).bind λi=>(some i).bind λi=>x.2.2.2.2.2[i]?.bind λbR=>bif decide (HN.ty bR=(3:Int)) then some (ai.out (HN.aX h,x.2.2.2.2.2)) else bif decide (x.2.1=(4:Int)) then some (ai.out (HN.aX h,x.2.2.2.2.2)) else some (ai.nx (HN.aX h,x.2.1,x.2.2.1,x.2.2.2.1,HN.aX h,x.2.2.2.2.2)) else x.1.bind λi=>(some i).bind λi=>x.2.2.2.2.2[i]?.bind λh=>bif Option.isNone (HN.aX h) then some (ai.out (HN.aX h,x.2.2.2.2.2)) else (HN.aX h).bind λi=>(some i).bind λi=>x.2.2.2.2.2[i]?.bind λbR=>bif decide (HN.ty bR=(3:Int)) then some (ai.out (HN.aX h,x.2.2.2.2.2)) else bif decide (x.2.1=(4:Int)) then some (ai.out (HN.aX h,x.2.2.2.2.2)) else some (ai.nx (HN.aX h,x.2.1,x.2.2.1,x.2.2.2.1,HN.aX h,x.2.2.2.2.2)) else none
noncomputable def ah:MF [(0,.np),(1,.fp .int),(2,.fp .np),(3,.fp .np),(gZ,.mz .h)] [(0,.np)]:=λ(x:Option Nat×Int×Option Nat×Option Nat×List HN)=>(ab bn (x.1,x.2.1,x.2.2.1,x.2.2.2.1,none,x.2.2.2.2)).bind λ(y:Option Nat×List HN)=>some y.1
theorem lF:aE Tryz.prog 143 (eN 0 ah):=have k:=cx [] .nil;fk k Tryz.func143 [(0,0,lN bn)] (.cons rfl (lz k) .nil)
noncomputable def aA:ML [(3,.vR),(5,.fp .int),(9,.mq 143 [.int,.np,.np]),(10,aKI),(11,.np),(gZ,.mz .h)] [(.ex 1,[(3,.vR),(5,.fp .int),(9,.mq 143 [.int,.np,.np]),(10,aKI),(gZ,.mz .h)])]:=λ(x:PUnit×Int×(Int×Option Nat×Option Nat)×Int×Option Nat×List HN)=>bif !Option.isNone x.2.2.2.2.1 then (ah (x.2.2.2.2.1,x.2.2.1.1,x.2.2.1.2.1,x.2.2.1.2.2,x.2.2.2.2.2)).bind λ(r:Option Nat)=>some (ai.nx ((),x.2.1,(x.2.2.1.1,x.2.2.1.2.1,x.2.2.1.2.2),IntKind.wrap .i64 (x.2.2.2.1+(1:Int)),r,x.2.2.2.2.2)) else some (ai.out ((),x.2.1,(x.2.2.1.1,x.2.2.1.2.1,x.2.2.1.2.2),x.2.2.2.1,x.2.2.2.2.2))
noncomputable def av:ML [(3,.vR),(5,.fp .int),(8,.own .np 53),(9,.mq 143 [.int,.np,.np]),(12,.np),(gZ,.mz .h)] [(.ex 3,[(8,.own .np 53),(gZ,.mz .h)]),(.rt,[(8,.own .np 53),(gZ,.mz .h)])]:=λ(x:PUnit×Int×aLO×(Int×Option Nat×Option Nat)×Option Nat×List HN)=>bif !Option.isNone x.2.2.2.2.1 then bif decide (x.2.1=(3:Int)) then none else bif decide (x.2.1=(-3:Int)) then none else (eC x.2.2.1 [x.2.2.2.2.1]).bind λ(r:aLO)=>bif decide (x.2.1=(1:Int)) then some (ai.out (Sum.inr (r,x.2.2.2.2.2))) else bif decide (x.2.1=(-1:Int)) then some (ai.out (Sum.inr (r,x.2.2.2.2.2))) else (ah (x.2.2.2.2.1,x.2.2.2.1.1,x.2.2.2.1.2.1,x.2.2.2.1.2.2,x.2.2.2.2.2)).bind λ(eQ:Option Nat)=>some (ai.nx ((),x.2.1,r,(x.2.2.2.1.1,x.2.2.2.1.2.1,x.2.2.2.1.2.2),eQ,x.2.2.2.2.2)) else some (ai.out (Sum.inl (x.2.2.1,x.2.2.2.2.2)))
noncomputable def di:MF [(0,.np),(1,aKI),(2,.np),(3,.vR),(gZ,.mz .h)] [(0,.own .np 53)]:=λ(x:Option Nat×Int×Option Nat×PUnit×List HN)=>bif decide (x.2.1=(0:Int)) then (ah (none,x.2.1,x.1,x.2.2.1,x.2.2.2.2)).bind λ(r:Option Nat)=>(ab aA ((),x.2.1,(x.2.1,x.1,x.2.2.1),(0:Int),r,x.2.2.2.2)).bind λ(y:PUnit×Int×(Int×Option Nat×Option Nat)×Int×List HN)=>bif decide ((0:Int)<=y.2.2.2.1/\(0:Int)<=(0:Int)/\y.2.2.2.1<=(1048576:Int)) then (ah (none,y.2.2.1.1,y.2.2.1.2.1,y.2.2.1.2.2,y.2.2.2.2)).bind λ(r:Option Nat)=>(ab av ((),y.2.1,List.replicate (Int.toNat (0:Int)) none,(y.2.2.1.1,y.2.2.1.2.1,y.2.2.1.2.2),r,y.2.2.2.2)).bind λ(y:aLO×List HN ⊕ aLO×List HN)=>bu (λ(y:aLO×List HN)=>some y.1) (λ(y:aLO×List HN)=>some y.1) y else none else bif decide (x.2.1=(4:Int)) then (ah (none,x.2.1,x.1,x.2.2.1,x.2.2.2.2)).bind λ(r:Option Nat)=>(ab aA ((),x.2.1,(x.2.1,x.1,x.2.2.1),(0:Int),r,x.2.2.2.2)).bind λ(y:PUnit×Int×(Int×Option Nat×Option Nat)×Int×List HN)=>bif decide ((0:Int)<=y.2.2.2.1/\(0:Int)<=(0:Int)/\y.2.2.2.1<=(1048576:Int)) then (ah (none,y.2.2.1.1,y.2.2.1.2.1,y.2.2.1.2.2,y.2.2.2.2)).bind λ(r:Option Nat)=>(ab av ((),y.2.1,List.replicate (Int.toNat (0:Int)) none,(y.2.2.1.1,y.2.2.1.2.1,y.2.2.1.2.2),r,y.2.2.2.2)).bind λ(y:aLO×List HN ⊕ aLO×List HN)=>bu (λ(y:aLO×List HN)=>some y.1) (λ(y:aLO×List HN)=>some y.1) y else none else bif decide (x.2.1=(-2:Int)) then (ah (none,x.2.1,x.1,x.2.2.1,x.2.2.2.2)).bind λ(r:Option Nat)=>(ab aA ((),x.2.1,(x.2.1,x.1,x.2.2.1),(0:Int),r,x.2.2.2.2)).bind λ(y:PUnit×Int×(Int×Option Nat×Option Nat)×Int×List HN)=>bif decide ((0:Int)<=y.2.2.2.1/\(0:Int)<=(0:Int)/\y.2.2.2.1<=(1048576:Int)) then (ah (none,y.2.2.1.1,y.2.2.1.2.1,y.2.2.1.2.2,y.2.2.2.2)).bind λ(r:Option Nat)=>(ab av ((),y.2.1,List.replicate (Int.toNat (0:Int)) none,(y.2.2.1.1,y.2.2.1.2.1,y.2.2.1.2.2),r,y.2.2.2.2)).bind λ(y:aLO×List HN ⊕ aLO×List HN)=>bu (λ(y:aLO×List HN)=>some y.1) (λ(y:aLO×List HN)=>some y.1) y else none else bif decide (x.2.1=(2:Int)) then (ah (none,x.2.1,x.1,x.2.2.1,x.2.2.2.2)).bind λ(r:Option Nat)=>(ab aA ((),x.2.1,(x.2.1,x.1,x.2.2.1),(0:Int),r,x.2.2.2.2)).bind λ(y:PUnit×Int×(Int×Option Nat×Option Nat)×Int×List HN)=>bif decide ((0:Int)<=y.2.2.2.1/\(0:Int)<=(0:Int)/\y.2.2.2.1<=(1048576:Int)) then (ah (none,y.2.2.1.1,y.2.2.1.2.1,y.2.2.1.2.2,y.2.2.2.2)).bind λ(r:Option Nat)=>(ab av ((),y.2.1,List.replicate (Int.toNat (0:Int)) none,(y.2.2.1.1,y.2.2.1.2.1,y.2.2.1.2.2),r,y.2.2.2.2)).bind λ(y:aLO×List HN ⊕ aLO×List HN)=>bu (λ(y:aLO×List HN)=>some y.1) (λ(y:aLO×List HN)=>some y.1) y else none else (ah (none,x.2.1,x.1,x.2.2.1,x.2.2.2.2)).bind λ(r:Option Nat)=>(ab av ((),x.2.1,[],(x.2.1,x.1,x.2.2.1),r,x.2.2.2.2)).bind λ(y:aLO×List HN ⊕ aLO×List HN)=>bu (λ(y:aLO×List HN)=>some y.1) (λ(y:aLO×List HN)=>some y.1) y
theorem lG:aE Tryz.prog 137 (eN 0 di):=have k:=cx [] (es lF Tryz.call143 .nil);fk k Tryz.func137 [(1,0,lN aA),(3,1,lN av)] (.cons rfl (lz k) (.cons rfl (lz k) .nil))
noncomputable def fv:MF [(0,aKI),(1,.np),(2,.fp .int),(gZ,.mz .h)] [(0,.own .np 53)]:=λ(x:Int×Option Nat×Int×List HN)=>(di (x.2.1,x.2.2.1,none,(),x.2.2.2)).bind λ(r:aLO)=>some r
theorem ky:aE Tryz.prog 136 (eN 0 fv):=have k:=cx [] (es lG Tryz.call137 .nil);fz k Tryz.func136
noncomputable def mo:ML [(1,.mq 136 [.int]),(4,.own .np 53),(5,.mp),(23,aLN),(24,aKI),(25,aKI),(gZ,.mz .h)] [(.ex 1,[(4,.own .np 53),(gZ,.mz .h)])]:=λ(x:Int×aLO×List (Option Nat×Bool)×aLO×Int×Int×List HN)=>bif decide (x.2.2.2.2.2.1<x.2.2.2.2.1) then (bl x.2.2.2.1 x.2.2.2.2.2.1).bind λv=>(fv (x.2.2.2.2.2.1,v,x.1,x.2.2.2.2.2.2)).bind λ(r:aLO)=>bif decide ((0:Int)<(↑(List.length r):Int)) then (iF (x.2.1,r,x.2.2.1)).bind λ(r:aLO×List (Option Nat×Bool))=>some (ai.nx (x.1,r.1,r.2,x.2.2.2.1,x.2.2.2.2.1,IntKind.wrap .i64 (x.2.2.2.2.2.1+(1:Int)),x.2.2.2.2.2.2)) else some (ai.nx (x.1,x.2.1,x.2.2.1,x.2.2.2.1,x.2.2.2.2.1,IntKind.wrap .i64 (x.2.2.2.2.2.1+(1:Int)),x.2.2.2.2.2.2)) else some (ai.out (x.2.1,x.2.2.2.2.2.2))
noncomputable def kr:MF [(0,aLN),(1,.mq 136 [.int]),(gZ,.mz .h)] [(0,.own .np 53)]:=λ(x:aLO×Int×List HN)=>bif decide ((↑(List.length x.1):Int)=(0:Int)) then some [] else bif decide ((↑(List.length x.1):Int)=(1:Int)) then (bl x.1 (0:Int)).bind λv=>(fv ((0:Int),v,x.2.1,x.2.2)).bind λ(r:aLO)=>some r else (ab mo (x.2.1,[],[],x.1,(↑(List.length x.1):Int),(0:Int),x.2.2)).bind λ(y:aLO×List HN)=>some y.1
theorem r_:aE Tryz.prog 135 (eN 0 kr):=have k:=cx [] (es ml Tryz.call73 (es ky Tryz.call136 .nil));fk k Tryz.func135 [(1,0,lN mo)] (.cons rfl (lz k) .nil)
noncomputable def eP:MF [(0,aLN),(1,aKI),(gZ,.mz .h)] [(0,.own .np 53)]:=λ(x:aLO×Int×List HN)=>(kr (x.1,x.2.1,x.2.2)).bind λ(r:aLO)=>some r
theorem lB:aE Tryz.prog 127 (eN 0 eP):=have k:=cx [] (es r_ Tryz.call135 (es ky Tryz.call136 .nil));fz k Tryz.func127
noncomputable def iz:MF [(0,aFS),aNH] [(0,aFS),aNH]:=λ(x:aLO×List HN)=>(eP (x.1,(4:Int),x.2)).bind λ(r:aLO)=>(bk (x.1,r)).bind λ(r:aLO)=>some (r,x.2)
theorem pz:aE Tryz.prog 113 (eN 0 iz):=have k:=cx [] (es lB Tryz.call127 (es gU Tryz.call72 .nil));fz k Tryz.func113
noncomputable def lp:MF [(0,aFS),(1,.own .np 53)] [(0,.dA 65 [.own,.fl .any,.fl .any]),(2000000000,.dI 0 0 .np 53)]:=λ(x:aLO×aLO)=>some (((),(),()),x.2)
theorem s_:aE Tryz.prog 72 (eN 0 lp):=have k:=cx [(1000065,[])] .nil;fz k Tryz.func72
noncomputable def gH:MF [(0,aFS),aNH] [(0,.dA 65 [.own,.fl .any,.fl .any]),(2000000000,.dI 0 0 .np 53),aNH]:=λ(x:aLO×List HN)=>(eP (x.1,(4:Int),x.2)).bind λ(r:aLO)=>(lp (x.1,r)).bind λ(r:(PUnit×PUnit×PUnit)×aLO)=>some (((),(),()),r.2,x.2)
theorem og:aE Tryz.prog 113 (eN 0 gH):=have k:=cx [] (es lB Tryz.call127 (es s_ Tryz.call72 .nil));fz k Tryz.func113
noncomputable def bM:ML [(3,.own .np 53),(4,.mp),(11,aLN),(12,aKI),(13,aKI),(gZ,.mz .h)] [(.ex 0,[(3,.own .np 53),(gZ,.mz .h)])]:=λ(x:aLO×List (Option Nat×Bool)×aLO×Int×Int×List HN)=>bif decide (x.2.2.2.2.1<x.2.2.2.1) then (bl x.2.2.1 x.2.2.2.2.1).bind λv=>v.bind λi=>(some i).bind λi=>x.2.2.2.2.2[i]?.bind λh=>bif Option.isNone (HN.par h) then some (ai.nx (x.1,x.2.1,x.2.2.1,x.2.2.2.1,IntKind.wrap .i64 (x.2.2.2.2.1+(1:Int)),x.2.2.2.2.2)) else (HN.par h).bind λi=>(some i).bind λi=>x.2.2.2.2.2[i]?.bind λbR=>bif decide (HN.ty bR≠(3:Int)) then some (ai.nx (x.1,x.2.1,x.2.2.1,x.2.2.2.1,IntKind.wrap .i64 (x.2.2.2.2.1+(1:Int)),x.2.2.2.2.2)) else bif yX x.2.1 (HN.par h) then some (ai.nx (x.1,x.2.1,x.2.2.1,x.2.2.2.1,IntKind.wrap .i64 (x.2.2.2.2.1+(1:Int)),x.2.2.2.2.2)) else (eC x.1 [HN.par h]).bind λ(r:aLO)=>some (ai.nx (r,yY x.2.1 (HN.par h) true,x.2.2.1,x.2.2.2.1,IntKind.wrap .i64 (x.2.2.2.2.1+(1:Int)),x.2.2.2.2.2)) else some (ai.out (x.1,x.2.2.2.2.2))
noncomputable def gP:MF [(0,aLN),(gZ,.mz .h)] [(0,.own .np 53)]:=λ(x:aLO×List HN)=>(ab bM ([],[],x.1,(↑(List.length x.1):Int),(0:Int),x.2)).bind λ(y:aLO×List HN)=>some y.1
theorem ru:aE Tryz.prog 126 (eN 0 gP):=have k:=cx [] .nil;fk k Tryz.func126 [(0,0,lN bM)] (.cons rfl (lz k) .nil)
noncomputable def jo:MF [(0,aFS),aNH] [(0,aFS),aNH]:=λ(x:aLO×List HN)=>(gP (x.1,x.2)).bind λ(r:aLO)=>(bk (x.1,r)).bind λ(r:aLO)=>some (r,x.2)
theorem qt:aE Tryz.prog 109 (eN 0 jo):=have k:=cx [] (es ru Tryz.call126 (es gU Tryz.call72 .nil));fz k Tryz.func109
noncomputable def dY:MF [(0,aFS),(1,.dA 65 [.own,.fl .any,.fl .any]),(2000000064,.dI 1 0 .np 53),aNH] [(0,.any),aNH]:=λ(x:aLO×(PUnit×PUnit×PUnit)×aLO×List HN)=>(bE (x.1,x.2.2.1,x.2.2.2)).bind λ(r:PUnit×List HN)=>some ((),r.2)
theorem kv:aE Tryz.prog 112 (eN 0 dY):=have k:=cx [] (es gI Tryz.call84 .nil);fz k Tryz.func112
noncomputable def bf:MF [(0,aKI),(1,aFS),aNH] [aNH]:=λ(x:Int×aLO×List HN)=>(bl x.2.1 (0:Int)).bind λv=>v.bind λi=>(some i).bind λi=>x.2.2[i]?.bind λh=>bif decide (HN.data h≠Array.toList (ByteArray.data { data:=#[(98:UInt8),(111:UInt8),(100:UInt8),(121:UInt8)] })) then (gH (x.2.1,x.2.2)).bind λ(r:(PUnit×PUnit×PUnit)×aLO×List HN)=>(dY (x.2.1,((),(),()),r.2.1,r.2.2)).bind λ(r:PUnit×List HN)=>some r.2 else some x.2.2
theorem oh:aE Tryz.prog 111 (eN 0 bf):=have k:=cx [] (es og Tryz.call113 (es kv Tryz.call112 .nil));fz k Tryz.func111
noncomputable def dL:ML [(0,aFS),(1,.mq 111 []),(10,aLN),(11,aKI),(12,aKI),aNH] [(.ex 0,[(0,aFS),aNH])]:=λ(x:aLO×PUnit×aLO×Int×Int×List HN)=>bif decide (x.2.2.2.2.1<x.2.2.2.1) then (bl x.2.2.1 x.2.2.2.2.1).bind λv=>(aM (v,())).bind λ(r:aLO)=>(bf (x.2.2.2.2.1,r,x.2.2.2.2.2)).bind λ(r:List HN)=>some (ai.nx (x.1,(),x.2.2.1,x.2.2.2.1,IntKind.wrap .i64 (x.2.2.2.2.1+(1:Int)),r)) else some (ai.out (x.1,x.2.2.2.2.2))
noncomputable def fQ:MF [(0,aFS),(1,.mq 111 []),aNH] [(0,.any),aNH]:=λ(x:aLO×PUnit×List HN)=>(ab dL (x.1,(),x.1,(↑(List.length x.1):Int),(0:Int),x.2.2)).bind λ(y:aLO×List HN)=>some ((),y.2)
theorem pQ:aE Tryz.prog 110 (eN 0 fQ):=have k:=cx [] (es dJ Tryz.call71 (es oh Tryz.call111 .nil));fk k Tryz.func110 [(0,0,lN dL)] (.cons rfl (lz k) .nil)
noncomputable def d_:MF [(0,aFS),aNH] [(0,.any),aNH]:=λ(x:aLO×List HN)=>(jo (x.1,x.2)).bind λ(r:aLO×List HN)=>(fQ (r.1,(),r.2)).bind λ(r:PUnit×List HN)=>some ((),r.2)
theorem pB:aE Tryz.prog 87 (eN 0 d_):=have k:=cx [] (es qt Tryz.call109 (es pQ Tryz.call110 .nil));fz k Tryz.func87
noncomputable def bg:ML [(0,aFS),(5,.np),(7,.np),aNH] [(.ex 0,[(0,aFS),(5,.np),aNH])]:=λ(x:aLO×Option Nat×Option Nat×List HN)=>bif !Option.isNone x.2.2.1 then (dP (x.2.2.1,x.2.2.2)).bind λ(r:Option Nat)=>some (ai.nx (x.1,x.2.2.1,r,x.2.2.2)) else some (ai.out (x.1,x.2.1,x.2.2.2))
noncomputable def aK:MF [(0,aFS),(1,.np),aNH] [(0,.any),aNH]:=λ(x:aLO×Option Nat×List HN)=>(aQ x.1).bind λ(r:Int)=>bif decide (r=(0:Int)) then some ((),x.2.2) else (ak lY (x.2.1,x.2.2)).bind λ(r:Option Nat×List HN)=>(bl x.1 (0:Int)).bind λv=>v.bind λi=>(some i).bind λi=>r.2[i]?.bind λh=>bif !Option.isNone (HN.par h) then v.bind λi=>(some i).bind λi=>r.2[i]?.bind λh=>(bo (HN.par h,r.1,v,r.2)).bind λ(eQ:List HN)=>v.bind λi=>(some i).bind λi=>eQ[i]?.bind λh=>(aO (HN.par h,v,eQ)).bind λ(tL:List HN)=>(dP (r.1,tL)).bind λ(Pb:Option Nat)=>(ab bg (x.1,r.1,Pb,tL)).bind λ(y:aLO×Option Nat×List HN)=>(aM (y.2.1,())).bind λ(r:aLO)=>(cO (r,y.1,y.2.2)).bind λ(r:PUnit×List HN)=>some ((),r.2) else (dP (r.1,r.2)).bind λ(eQ:Option Nat)=>(ab bg (x.1,r.1,eQ,r.2)).bind λ(y:aLO×Option Nat×List HN)=>(aM (y.2.1,())).bind λ(r:aLO)=>(cO (r,y.1,y.2.2)).bind λ(r:PUnit×List HN)=>some ((),r.2)
theorem jJ:aE Tryz.prog 115 (eN 0 aK):=have k:=cx [] (es dO Tryz.call125 (es eL Tryz.call37 (es gz Tryz.call105 (es dr Tryz.call108 (es rf Tryz.call129 (es dJ Tryz.call71 (es mw Tryz.call130 .nil)))))));fk k Tryz.func115 [(0,0,lN bg)] (.cons rfl (lz k) .nil)
noncomputable def dj:MF [(0,aFS),(1,aLN),aNH] [(0,.any),aNH]:=λ(x:aLO×aLO×List HN)=>bif decide ((0:Int)<(↑(List.length x.2.1):Int)) then (bl x.2.1 (0:Int)).bind λv=>(aK (x.1,v,x.2.2)).bind λ(r:PUnit×List HN)=>some ((),r.2) else some ((),x.2.2)
theorem jv:aE Tryz.prog 139 (eN 0 dj):=have k:=cx [] (es jJ Tryz.call115 .nil);fz k Tryz.func139
noncomputable def eK:MF [(0,aKI),(1,aFS),(2,.fp (.rc .eV [] 0)),aNH] [aNH]:=λ(x:Int×aLO×aLO×List HN)=>(dj (x.2.1,x.2.2.1,x.2.2.2)).bind λ(r:PUnit×List HN)=>some r.2
theorem jK:aE Tryz.prog 138 (eN 0 eK):=have k:=cx [] (es jv Tryz.call139 .nil);fz k Tryz.func138
noncomputable def dM:ML [(0,aFS),(1,.mq 138 [(.rc .eV [] 0)]),(10,aLN),(11,aKI),(12,aKI),aNH] [(.ex 0,[(0,aFS),aNH])]:=λ(x:aLO×aLO×aLO×Int×Int×List HN)=>bif decide (x.2.2.2.2.1<x.2.2.2.1) then (bl x.2.2.1 x.2.2.2.2.1).bind λv=>(aM (v,())).bind λ(r:aLO)=>(eK (x.2.2.2.2.1,r,x.2.1,x.2.2.2.2.2)).bind λ(r:List HN)=>some (ai.nx (x.1,x.2.1,x.2.2.1,x.2.2.2.1,IntKind.wrap .i64 (x.2.2.2.2.1+(1:Int)),r)) else some (ai.out (x.1,x.2.2.2.2.2))
noncomputable def iN:MF [(0,aFS),(1,.mq 138 [(.rc .eV [] 0)]),aNH] [(0,.any),aNH]:=λ(x:aLO×aLO×List HN)=>(ab dM (x.1,x.2.1,x.1,(↑(List.length x.1):Int),(0:Int),x.2.2)).bind λ(y:aLO×List HN)=>some ((),y.2)
theorem pR:aE Tryz.prog 110 (eN 0 iN):=have k:=cx [] (es dJ Tryz.call71 (es jK Tryz.call138 .nil));fk k Tryz.func110 [(0,0,lN dM)] (.cons rfl (lz k) .nil)
noncomputable def gX:MF [(0,aFS),(1,aLN),aNH] [(0,.any),aNH]:=λ(x:aLO×aLO×List HN)=>(iN (x.1,x.2.1,x.2.2)).bind λ(r:PUnit×List HN)=>some ((),r.2)
theorem oN:aE Tryz.prog 128 (eN 0 gX):=have k:=cx [] (es pR Tryz.call110 (es jK Tryz.call138 .nil));fz k Tryz.func128
noncomputable def fx:MF [(0,aFS),(1,.np),aNH] [(0,.any),aNH]:=λ(x:aLO×Option Nat×List HN)=>(gX (x.1,[x.2.1],x.2.2)).bind λ(r:PUnit×List HN)=>some ((),r.2)
theorem pC:aE Tryz.prog 114 (eN 0 fx):=have k:=cx [] (es oN Tryz.call128 .nil);fz k Tryz.func114
noncomputable def aL:MF [(0,aKI),(1,aFS),(2,.fp (.rc .eV [] 0)),aNH] [aNH]:=λ(x:Int×aLO×aLO×List HN)=>(iz (x.2.1,x.2.2.2)).bind λ(r:aLO×List HN)=>(aQ r.1).bind λ(eQ:Int)=>bif decide ((0:Int)<eQ) then (dj (r.1,x.2.2.1,r.2)).bind λ(r:PUnit×List HN)=>some r.2 else (bl x.2.2.1 (0:Int)).bind λv=>(ak lY (v,r.2)).bind λ(r:Option Nat×List HN)=>(bG (x.2.1,[r.1],r.2)).bind λ(r:PUnit×List HN)=>some r.2
theorem ie:aE Tryz.prog 140 (eN 0 aL):=have k:=cx [] (es pz Tryz.call113 (es dO Tryz.call125 (es jv Tryz.call139 (es eL Tryz.call37 (es fD Tryz.call80 .nil)))));fz k Tryz.func140
noncomputable def eb:ML [(0,aFS),(1,.mq 140 [(.rc .eV [] 0)]),(10,aLN),(11,aKI),(12,aKI),aNH] [(.ex 0,[(0,aFS),aNH])]:=λ(x:aLO×aLO×aLO×Int×Int×List HN)=>bif decide (x.2.2.2.2.1<x.2.2.2.1) then (bl x.2.2.1 x.2.2.2.2.1).bind λv=>(aM (v,())).bind λ(r:aLO)=>(aL (x.2.2.2.2.1,r,x.2.1,x.2.2.2.2.2)).bind λ(r:List HN)=>some (ai.nx (x.1,x.2.1,x.2.2.1,x.2.2.2.1,IntKind.wrap .i64 (x.2.2.2.2.1+(1:Int)),r)) else some (ai.out (x.1,x.2.2.2.2.2))
noncomputable def jq:MF [(0,aFS),(1,.mq 140 [(.rc .eV [] 0)]),aNH] [(0,.any),aNH]:=λ(x:aLO×aLO×List HN)=>(ab eb (x.1,x.2.1,x.1,(↑(List.length x.1):Int),(0:Int),x.2.2)).bind λ(y:aLO×List HN)=>some ((),y.2)
theorem qu:aE Tryz.prog 110 (eN 0 jq):=have k:=cx [] (es dJ Tryz.call71 (es ie Tryz.call140 .nil));fk k Tryz.func110 [(0,0,lN eb)] (.cons rfl (lz k) .nil)
noncomputable def fE:MF [(0,aFS),(1,aLN),aNH] [(0,.any),aNH]:=λ(x:aLO×aLO×List HN)=>bif decide ((↑(List.length x.2.1):Int)=(0:Int)) then some ((),x.2.2) else (jq (x.1,x.2.1,x.2.2)).bind λ(r:PUnit×List HN)=>some ((),r.2)
theorem mN:aE Tryz.prog 131 (eN 0 fE):=have k:=cx [] (es qu Tryz.call110 (es ie Tryz.call140 .nil));fz k Tryz.func131
noncomputable def ee:MF [(0,aFS),(1,.np),aNH] [(0,.any),aNH]:=λ(x:aLO×Option Nat×List HN)=>(fE (x.1,[x.2.1],x.2.2)).bind λ(r:PUnit×List HN)=>some ((),r.2)
theorem m6:aE Tryz.prog 116 (eN 0 ee):=have k:=cx [] (es mN Tryz.call131 .nil);fz k Tryz.func116
noncomputable def mm:MF [(0,aFS),(1,.el (.rc (.int .i64) [.ints,.ints,.str,.str,.strs] 0)),(2,.np),aNH] [(0,.bool),aNH]:=λ(x:aLO×(Int×List Int×List Int×aBt×aBt×aWd)×Option Nat×List HN)=>bif decide (x.2.1.1=(9:Int)) then (fx (x.1,x.2.2.1,x.2.2.2)).bind λ(r:PUnit×List HN)=>some (true,r.2) else bif decide (x.2.1.1=(10:Int)) then (aK (x.1,x.2.2.1,x.2.2.2)).bind λ(r:PUnit×List HN)=>some (true,r.2) else bif decide (x.2.1.1=(11:Int)) then (ee (x.1,x.2.2.1,x.2.2.2)).bind λ(r:PUnit×List HN)=>some (true,r.2) else some (false,x.2.2.2)
theorem Dj:aE Tryz.prog 88 (eN 0 mm):=have k:=cx [] (es pC Tryz.call114 (es jJ Tryz.call115 (es m6 Tryz.call116 .nil)));fz k Tryz.func88
noncomputable def fy:MF [(0,aFS),(1,.el (.rc (.int .i64) [.ints,.ints,.str,.str,.strs] 0)),(2,.own .np 53),aNH] [(0,.bool),aNH]:=λ(x:aLO×(Int×List Int×List Int×aBt×aBt×aWd)×aLO×List HN)=>bif decide (x.2.1.1=(1:Int)) then (bG (x.1,x.2.2.1,x.2.2.2)).bind λ(r:PUnit×List HN)=>some (true,r.2) else bif decide (x.2.1.1=(2:Int)) then (dX (x.1,x.2.2.1,x.2.2.2)).bind λ(r:PUnit×List HN)=>some (true,r.2) else bif decide (x.2.1.1=(3:Int)) then (dh (x.1,x.2.2.1,x.2.2.2)).bind λ(r:PUnit×List HN)=>some (true,r.2) else bif decide (x.2.1.1=(4:Int)) then (ed (x.1,x.2.2.1,x.2.2.2)).bind λ(r:PUnit×List HN)=>some (true,r.2) else bif decide (x.2.1.1=(5:Int)) then (bE (x.1,x.2.2.1,x.2.2.2)).bind λ(r:PUnit×List HN)=>some (true,r.2) else bif decide (x.2.1.1=(6:Int)) then (c7 (x.1,x.2.2.2)).bind λ(r:PUnit×List HN)=>some (true,r.2) else bif decide (x.2.1.1=(7:Int)) then (gB (x.1,x.2.2.2)).bind λ(r:PUnit×List HN)=>some (true,r.2) else bif decide (x.2.1.1=(8:Int)) then (d_ (x.1,x.2.2.2)).bind λ(r:PUnit×List HN)=>some (true,r.2) else bif decide ((↑(List.length x.2.2.1):Int)=(1:Int)) then (bl x.2.2.1 (0:Int)).bind λsv=>x.2.2.1[Int.toNat (0:Int)]?.bind λv=>(mm (x.1,(x.2.1.1,x.2.1.2.1,x.2.1.2.2.1,x.2.1.2.2.2.1,x.2.1.2.2.2.2.1,x.2.1.2.2.2.2.2),v,x.2.2.2)).bind λ(r:Bool×List HN)=>some (r.1,r.2) else some (false,x.2.2.2)
theorem Dk:aE Tryz.prog 44 (eN 0 fy):=have k:=cx [(2,[(true,0),(true,1),(true,2),(true,3),(true,4),(true,5),(true,6),(true,7),(true,8),(false,9),(true,10),(true,11)])] (es fD Tryz.call80 (es mM Tryz.call81 (es ju Tryz.call82 (es m5 Tryz.call83 (es gI Tryz.call84 (es kx Tryz.call85 (es re Tryz.call86 (es pB Tryz.call87 (es Dj Tryz.call88 .nil)))))))));fz k Tryz.func44
noncomputable def cJ:ML [(0,.fp (.rc .eV [.I3] 0)),(12,.aB (.rc (.int .i64) [.ints,.ints,.str,.str,.strs] 0)),(13,aKI),(14,aKI),aNH] [(.ex 0,[aNH]),(.rt,[(4,.bool),aNH])]:=λ(x:(aLO×PUnit)×List (Int×List Int×List Int×aBt×aBt×aWd)×Int×Int×List HN)=>bif decide (x.2.2.2.1<x.2.2.1) then (bl x.2.1 x.2.2.2.1).bind λ(v:Int×List Int×List Int×aBt×aBt×aWd)=>(nR (x.1.1,v.2.1)).bind λ(r:aLO×Bool)=>(nR (x.1.1,v.2.2.1)).bind λ(eQ:aLO×Bool)=>bif !r.2 then some (ai.out (Sum.inr (false,x.2.2.2.2))) else bif !eQ.2 then some (ai.out (Sum.inr (false,x.2.2.2.2))) else (eD ((),r.1)).bind λ(r:aLO)=>(e_ (r,(v.1,v.2.1,v.2.2.1,v.2.2.2.1,v.2.2.2.2.1,v.2.2.2.2.2),x.2.2.2.2)).bind λ(tL:Bool×List HN)=>bif !tL.1 then (fy (r,(v.1,v.2.1,v.2.2.1,v.2.2.2.1,v.2.2.2.2.1,v.2.2.2.2.2),eQ.1,tL.2)).bind λ(r:Bool×List HN)=>bif !r.1 then some (ai.out (Sum.inr (false,r.2))) else some (ai.nx ((x.1.1,()),x.2.1,x.2.2.1,IntKind.wrap .i64 (x.2.2.2.1+(1:Int)),r.2)) else some (ai.nx ((x.1.1,()),x.2.1,x.2.2.1,IntKind.wrap .i64 (x.2.2.2.1+(1:Int)),tL.2)) else some (ai.out (Sum.inl x.2.2.2.2))
noncomputable def cc:MF [(0,.fp (.rc .eV [.I3] 0)),(1,.aB (.rc (.int .i64) [.ints,.ints,.str,.str,.strs] 0)),aNH] [(0,.bool),aNH]:=λ(x:(aLO×PUnit)×List (Int×List Int×List Int×aBt×aBt×aWd)×List HN)=>(ab cJ ((x.1.1,()),x.2.1,(↑(List.length x.2.1):Int),(0:Int),x.2.2)).bind λ(y:List HN ⊕ Bool×List HN)=>bu (λ(y:List HN)=>some (true,y)) (λ(y:Bool×List HN)=>some (y.1,y.2)) y
theorem tY:aE Tryz.prog 20 (eN 0 cc):=have k:=cx [(4,[(true,0),(true,1),(true,2),(true,3),(true,4),(true,5),(false,6),(true,7),(true,8),(true,9),(true,10),(true,11)]),(5,[(true,0),(true,1),(true,2),(true,3),(true,4),(true,5),(false,6),(true,7),(true,8),(true,9),(true,10),(true,11)])] (es Df Tryz.call41 (es ny Tryz.call42 (es AO Tryz.call43 (es Dk Tryz.call44 .nil))));fk k Tryz.func20 [(0,0,lN cJ)] (.cons rfl (lz k) .nil)
noncomputable def fN:MF [(0,.aB .node),(1,.aB (.rc (.int .i64) [.ints,.ints,.str,.str,.strs] 0)),(2,.aB (.rc (.int .i64) [.ints,.ints,.str,.str,.strs] 0)),aNH] [(0,.aB .node),(1,.aB .node),(2,.bool),aNH]:=λ(x:List Node×List (Int×List Int×List Int×aBt×aBt×aWd)×List (Int×List Int×List Int×aBt×aBt×aWd)×List HN)=>(ql (x.1,x.2.2.2)).bind λ(r:aLO×Bool×List HN)=>bif !r.2.1 then some ([],[],false,r.2.2) else (bl r.1 (0:Int)).bind λsv=>r.1[Int.toNat (0:Int)]?.bind λv=>(gT v).bind λ(eQ:aLO×Option Nat)=>(kj ((eQ.1,eQ.2),r.2.2)).bind λ(tL:(aLO×Option Nat)×List HN)=>(dD (eQ.1,(1:Int))).bind λ(Pb:PUnit)=>both ((dD (tL.1.1,(1:Int))).bind λ(r_4:PUnit)=>(bl tL.1.1 (0:Int)).bind λv=>(bK lY (v,[],[],tL.2)).bind λ(Pg:List Node×aLO×List HN)=>(cc ((r.1,()),x.2.1,Pg.2.2)).bind λ(TB:Bool×List HN)=>bif !TB.1 then some ([],[],false,TB.2) else (cc ((Pg.2.1,()),x.2.2.1,TB.2)).bind λ(TC:Bool×List HN)=>bif !TC.1 then some ([],[],false,TC.2) else (db ((r.1,()),TC.2)).bind λ(r:List Node×List Int×List HN)=>(db ((Pg.2.1,()),r.2.2)).bind λ(TD:List Node×List Int×List HN)=>some (r.1,TD.1,true,TD.2.2)) ((dD (tL.1.1,(1:Int))).bind λ(r_4:PUnit)=>both ((bl tL.1.1 (0:Int)).bind λv=>(bK lY (v,[],[],tL.2)).bind λ(Pg:List Node×aLO×List HN)=>(cc ((r.1,()),x.2.1,Pg.2.2)).bind λ(TB:Bool×List HN)=>bif !TB.1 then some ([],[],false,TB.2) else (cc ((Pg.2.1,()),x.2.2.1,TB.2)).bind λ(TC:Bool×List HN)=>bif !TC.1 then some ([],[],false,TC.2) else (db ((r.1,()),TC.2)).bind λ(r:List Node×List Int×List HN)=>(db ((Pg.2.1,()),r.2.2)).bind λ(TD:List Node×List Int×List HN)=>some (r.1,TD.1,true,TD.2.2)) ((bl tL.1.1 (0:Int)).bind λv=>(bK lY (v,[],[],tL.2)).bind λ(Pg:List Node×aLO×List HN)=>(cc ((r.1,()),x.2.1,Pg.2.2)).bind λ(TB:Bool×List HN)=>bif !TB.1 then some ([],[],false,TB.2) else (cc ((Pg.2.1,()),x.2.2.1,TB.2)).bind λ(TC:Bool×List HN)=>bif !TC.1 then some ([],[],false,TC.2) else (db ((r.1,()),TC.2)).bind λ(r:List Node×List Int×List HN)=>(db ((Pg.2.1,()),r.2.2)).bind λ(TD:List Node×List Int×List HN)=>some (r.1,TD.1,true,TD.2.2)))
theorem tZ:aE Tryz.prog 7 (eN 0 fN):=have k:=cx [(6,[(true,0),(true,1),(true,2),(true,3),(true,4),(true,8),(true,9),(true,10),(true,11),(false,5),(true,6),(false,6000007),(false,12),(true,13),(true,15),(false,14),(true,16),(false,12),(true,13),(false,4000007),(true,15),(false,14),(true,16),(false,14),(false,7),(true,15),(true,16)])] (es De Tryz.call15 (es oI Tryz.call16 (es r9 Tryz.call17 (es qo Tryz.call18 (es wW Tryz.call19 (es tY Tryz.call20 (es xA Tryz.call21 .nil)))))));fz k Tryz.func7
abbrev iO:Pt:=[(0, .aB .node),(1, .aB (.rc (.int .i64) [.ints, .ints, .str, .str, .strs] 0)),(2, .aB (.rc (.int .i64) [.ints, .ints, .str, .str, .strs] 0))]
abbrev iP:Pt:=[(0, .aB .node),(1, .aB .node),(2, .bool)]
noncomputable def kP:er iO->Option (er iP):=Zd 0 iO iP .h 93 123 (fN)
noncomputable def tc:vT:=⟨0,iO,iP,kP⟩
theorem sD:aE Tryz.prog 7 tc:=HH (np:=0) (p:=iO) (q:=iP) (m:=fN) tZ (by kernel_rfl) (by kernel_rfl)
noncomputable def ig:ML [(2,.lb .node 35),(3,.lb .node 35),(5,aKI),(9,.own .str 9),(10,.own .str 9),(11,aKI)] [(.ex 2,[(2,.lb .node 35),(3,.lb .node 35),(5,aKI)]),(.rt,[(4,.bool)])]:=λ(x:Node×Node×Int×aWd×aWd×Int)=>bif decide (x.2.2.2.2.2<(↑(List.length x.2.2.2.1):Int)) then (bl x.2.2.2.1 x.2.2.2.2.2).bind λsv=>x.2.2.2.1[Int.toNat x.2.2.2.2.2]?.bind λv=>(jW (x.2.2.2.2.1,v)).bind λ(r:Bool)=>bif !r then some (ai.out (Sum.inr false)) else some (ai.nx ({ kind:=Node.kind x.1,tag:=Node.tag x.1,text:=Node.text x.1,attrs:=Node.attrs x.1,size:=Node.size x.1 },{ kind:=Node.kind x.2.1,tag:=Node.tag x.2.1,text:=Node.text x.2.1,attrs:=Node.attrs x.2.1,size:=Node.size x.2.1 },x.2.2.1,x.2.2.2.1,x.2.2.2.2.1,IntKind.wrap .i64 (x.2.2.2.2.2+(1:Int)))) else some (ai.out (Sum.inl ({ kind:=Node.kind x.1,tag:=Node.tag x.1,text:=Node.text x.1,attrs:=Node.attrs x.1,size:=Node.size x.1 },{ kind:=Node.kind x.2.1,tag:=Node.tag x.2.1,text:=Node.text x.2.1,attrs:=Node.attrs x.2.1,size:=Node.size x.2.1 },x.2.2.1)))
noncomputable def iA:ML [(2,.lb .node 35),(3,.lb .node 35),(5,aKI)] [(.ex 0,[]),(.rt,[(4,.bool)])]:=λ(x:Node×Node×Int)=>bif decide (x.2.2<(↑(List.length (Node.attrs x.1)):Int)) then (bl (Node.attrs x.1) x.2.2).bind λv=>bif decide (Attr.key v=Array.toList (ByteArray.data { data:=#[(99:UInt8),(108:UInt8),(97:UInt8),(115:UInt8),(115:UInt8)] })) then (jE ({ kind:=Node.kind x.2.1,tag:=Node.tag x.2.1,text:=Node.text x.2.1,attrs:=Node.attrs x.2.1,size:=Node.size x.2.1 },[(99:UInt8),(108:UInt8),(97:UInt8),(115:UInt8),(115:UInt8)])).bind λ(r:aBt×Bool)=>(kH (Attr.val v)).bind λ(eQ:aWd)=>(kH r.1).bind λ(r:aWd)=>(ab ig ({ kind:=Node.kind x.1,tag:=Node.tag x.1,text:=Node.text x.1,attrs:=Node.attrs x.1,size:=Node.size x.1 },{ kind:=Node.kind x.2.1,tag:=Node.tag x.2.1,text:=Node.text x.2.1,attrs:=Node.attrs x.2.1,size:=Node.size x.2.1 },x.2.2,eQ,r,(0:Int))).bind λ(y:Node×Node×Int ⊕ Bool)=>bu (λ(y:Node×Node×Int)=>some (ai.nx ({ kind:=Node.kind y.1,tag:=Node.tag y.1,text:=Node.text y.1,attrs:=Node.attrs y.1,size:=Node.size y.1 },{ kind:=Node.kind y.2.1,tag:=Node.tag y.2.1,text:=Node.text y.2.1,attrs:=Node.attrs y.2.1,size:=Node.size y.2.1 },IntKind.wrap .i64 (y.2.2+(1:Int))))) (λ(y:Bool)=>some (ai.out (Sum.inr y))) y else (jE ({ kind:=Node.kind x.2.1,tag:=Node.tag x.2.1,text:=Node.text x.2.1,attrs:=Node.attrs x.2.1,size:=Node.size x.2.1 },Attr.key v)).bind λ(r:aBt×Bool)=>bif !r.2 then some (ai.out (Sum.inr false)) else bif decide (r.1≠Attr.val v) then some (ai.out (Sum.inr false)) else some (ai.nx ({ kind:=Node.kind x.1,tag:=Node.tag x.1,text:=Node.text x.1,attrs:=Node.attrs x.1,size:=Node.size x.1 },{ kind:=Node.kind x.2.1,tag:=Node.tag x.2.1,text:=Node.text x.2.1,attrs:=Node.attrs x.2.1,size:=Node.size x.2.1 },IntKind.wrap .i64 (x.2.2+(1:Int)))) else some (ai.out (Sum.inl ()))
noncomputable def mO:MF [(0,.el .node),(1,.el .node)] [(0,.bool)]:=λ(x:Node×Node)=>(ab iA ({ kind:=Node.kind x.1,tag:=Node.tag x.1,text:=Node.text x.1,attrs:=Node.attrs x.1,size:=Node.size x.1 },{ kind:=Node.kind x.2,tag:=Node.tag x.2,text:=Node.text x.2,attrs:=Node.attrs x.2,size:=Node.size x.2 },(0:Int))).bind λ(y:PUnit ⊕ Bool)=>bu (λ(y:PUnit)=>some true) (λ(y:Bool)=>some y) y
theorem Cd:aE Tryz.prog 22 (eN 0 mO):=have k:=cx [] (es yq Tryz.call46 (es wX Tryz.call47 (es qZ Tryz.call48 .nil)));fk k Tryz.func22 [(0,0,lN iA)] (.cons rfl (lk k [(2,0,lN ig)] (.cons rfl (lz k) .nil)) .nil)
noncomputable def gg:ML [(0,.aB .node),(1,.aB .node),(5,aKI)] [(.ex 0,[]),(.rt,[(4,.bool)])]:=λ(x:List Node×List Node×Int)=>bif decide (x.2.2<(↑(List.length x.1):Int)) then (bl x.1 x.2.2).bind λv=>(bl x.2.1 x.2.2).bind λz_=>bif decide (Node.kind v≠Node.kind z_) then some (ai.out (Sum.inr false)) else (bl x.1 x.2.2).bind λv=>(bl x.2.1 x.2.2).bind λX0=>bif decide (Node.tag v≠Node.tag X0) then some (ai.out (Sum.inr false)) else (bl x.1 x.2.2).bind λv=>(bl x.2.1 x.2.2).bind λX1=>bif decide (Node.text v≠Node.text X1) then some (ai.out (Sum.inr false)) else (bl x.1 x.2.2).bind λv=>(bl x.2.1 x.2.2).bind λv_4=>bif decide (Node.size v≠Node.size v_4) then some (ai.out (Sum.inr false)) else (bl x.1 x.2.2).bind λv=>(bl x.2.1 x.2.2).bind λX4=>(mO ({ kind:=Node.kind v,tag:=Node.tag v,text:=Node.text v,attrs:=Node.attrs v,size:=Node.size v },{ kind:=Node.kind X4,tag:=Node.tag X4,text:=Node.text X4,attrs:=Node.attrs X4,size:=Node.size X4 })).bind λ(r:Bool)=>bif !r then some (ai.out (Sum.inr false)) else (bl x.2.1 x.2.2).bind λv=>(bl x.1 x.2.2).bind λX5=>(mO ({ kind:=Node.kind v,tag:=Node.tag v,text:=Node.text v,attrs:=Node.attrs v,size:=Node.size v },{ kind:=Node.kind X5,tag:=Node.tag X5,text:=Node.text X5,attrs:=Node.attrs X5,size:=Node.size X5 })).bind λ(r:Bool)=>bif !r then some (ai.out (Sum.inr false)) else some (ai.nx (x.1,x.2.1,IntKind.wrap .i64 (x.2.2+(1:Int)))) else some (ai.out (Sum.inl ()))
noncomputable def ij:MF [(0,.aB .node),(1,.aB .node)] [(0,.bool)]:=λ(x:List Node×List Node)=>bif decide ((↑(List.length x.1):Int)≠(↑(List.length x.2):Int)) then some false else (ab gg (x.1,x.2,(0:Int))).bind λ(y:PUnit ⊕ Bool)=>bu (λ(y:PUnit)=>some true) (λ(y:Bool)=>some y) y
theorem xD:aE Tryz.prog 8 (eN 0 ij):=have k:=cx [(6,[(true,0),(true,1),(true,2),(true,3),(true,4),(true,5),(true,6),(true,7),(true,8),(true,9),(true,10),(true,11),(true,12),(true,13),(true,14),(true,15),(true,16),(true,17),(true,18),(true,19),(true,20),(true,21),(true,22),(true,23),(true,24),(true,25),(true,26),(true,27),(true,28),(true,29),(true,30),(true,31),(true,32),(true,33),(true,34),(true,35),(true,36),(true,37),(true,38),(true,39),(true,40),(true,41),(true,42),(true,43),(true,44),(true,45),(true,46),(true,47),(true,48),(true,49),(true,50),(true,51),(true,52),(true,53),(true,54),(true,55),(true,56),(true,57),(true,58),(false,59),(true,60),(true,61),(true,62),(true,63),(true,64),(true,65),(true,66),(true,67),(true,68),(true,69),(true,70),(false,71),(true,72),(true,73)])] (es Cd Tryz.call22 .nil);fk k Tryz.func8 [(0,0,lN gg)] (.cons rfl (lz k) .nil)
noncomputable def iQ:MF [(0,.aB .node),(1,.aB (.rc (.int .i64) [.ints,.ints,.str,.str,.strs] 0)),(2,.aB (.rc (.int .i64) [.ints,.ints,.str,.str,.strs] 0))] [(0,.bool)]:=λ(x:List Node×List (Int×List Int×List Int×aBt×aBt×aWd)×List (Int×List Int×List Int×aBt×aBt×aWd))=>(nM x.1).bind λ(r:Bool)=>bif !r then some true else (lQ x.2.1).bind λ(r:Bool)=>bif !r then some true else (lQ x.2.2).bind λ(r:Bool)=>bif !r then some true else bif decide ((4:Int)<(↑(List.length x.2.1):Int)) then some true else bif decide ((4:Int)<(↑(List.length x.2.2):Int)) then some true else (kN (x.1,x.2.1)).bind λ(r:List Node×List Int×Bool)=>(kN (x.1,x.2.2)).bind λ(eQ:List Node×List Int×Bool)=>bif !r.2.2 then some true else bif !eQ.2.2 then some true else (kP (x.1,x.2.1,x.2.2)).bind λ(tL:List Node×List Node×Bool)=>bif tL.2.2 then (ij (tL.1,r.1)).bind λ(r:Bool)=>bif r then (ij (tL.2.1,eQ.1)).bind λ(r:Bool)=>some r else some false else some false
noncomputable def td:vT:=eN 0 iQ
theorem sE:aE Tryz.prog 3 (eN 0 iQ):=have k:=cx [] (es AG Tryz.call4 (es AI Tryz.call5 (es wq Tryz.call6 (es sD Tryz.call7 (es xD Tryz.call8 .nil)))));fz k Tryz.func3
end Go.Proofs.YtngabkipchpmpaaGreat.V
namespace Go.Proofs.YtngabkipchpmpaaGreat.V
open Go
theorem tf {α:Type}(a:α):∃ b,some a=some b:=⟨a,rfl⟩
def Ac (a:Attr):Bool:=decide (a.key.length<=2147483647) && decide (a.val.length<=2147483647)
def w7 (l:List Attr):Bool:=decide (l.length<=2147483647) && l.all Ac
def Ad (n:Node):Bool:=decide (n.tag.length<=2147483647) && decide (n.text.length<=2147483647) && w7 n.attrs
def w8 (t:List Node):Bool:=decide (t.length<=2147483647) && t.all Ad
theorem zz4 (a:Attr):lO a=some (Ac a):=by
 simp only [lO,aa,Ac];split
 ·rename_i h;rw [decide_eq_false (by omega)];rfl
 ·rename_i h;split
  ·rename_i h2;rw [decide_eq_false (p:=a.val.length<=_) (by omega),Bool.and_false]
  ·rename_i h2;rw [decide_eq_true (by omega),decide_eq_true (by omega)];rfl
theorem zz3 (l:List Attr):nL l=some (w7 l):=by
 simp only [nL,aa,w7];split
 ·rw [decide_eq_false (by omega)];rfl
 ·rename_i hl;have h:=B8 (body:=iT) l Ac (λk=>(l,(l.length:Int),(k:Int))) (.inl ()) (.inr false) (λk v hv=>by
   have hk:=(List.getElem?_eq_some_iff.1 hv).1;simp only [iT,aa,ad];rw [if_pos (by omega),hv,bind_some,show lO { key:=v.key,val:=v.val }=some (Ac v) from zz4 v,bind_some,pk,cD (by omega) (by omega)];cases Ac v <;> rfl) (by
   simp only [iT,aa];rw [if_neg (by omega)]) 0 (Nat.zero_le _)
  rw [show ab iT (l,(l.length:Int),(0:Int))=_ from h,bind_some,decide_eq_true (by omega)];simp only [List.drop_zero,Bool.true_and];cases l.all Ac <;> rfl
theorem zz2 (n:Node):lP n=some (Ad n):=by
 simp only [lP,aa,Ad,zz3,bind_some];split
 ·rw [decide_eq_false (by omega)];rfl
 ·split
  ·rw [decide_eq_false (p:=n.text.length<=_) (by omega),Bool.and_false];rfl
  ·rw [decide_eq_true (by omega),decide_eq_true (by omega)];cases w7 n.attrs <;> rfl
theorem zz1 (l:List Node):nM l=some (w8 l):=by
 simp only [nM,aa,w8];split
 ·rw [decide_eq_false (by omega)];rfl
 ·rename_i hl;have h:=B8 (body:=iU) l Ad (λk=>(l,(l.length:Int),(k:Int))) (.inl ()) (.inr false) (λk v hv=>by
   have hk:=(List.getElem?_eq_some_iff.1 hv).1;simp only [iU,aa,ad];rw [if_pos (by omega),hv,bind_some,show lP { kind:=v.kind,tag:=v.tag,text:=v.text,attrs:=v.attrs,size:=v.size }=some (Ad v) from zz2 v,bind_some,pk,cD (by omega) (by omega)];cases Ad v <;> rfl) (by
   simp only [iU,aa];rw [if_neg (by omega)]) 0 (Nat.zero_le _)
  rw [show ab iU (l,(l.length:Int),(0:Int))=_ from h,bind_some,decide_eq_true (by omega)];simp only [List.drop_zero,Bool.true_and];cases l.all Ad <;> rfl
theorem Bi (s:List UInt8)(hs:s.length<=2147483647):∃ b,fI s=some b:=by
 simp only [fI,aa,pj];split
 ·exact tf _
 ·split
  ·exact tf _
  ·rename_i h1 h2;obtain⟨c,hc⟩:=ay (l:=s) (k:=0) (by omega);rw [hc];simp only [bind_some];split
   ·exact tf _
   ·split
    ·exact tf _
    ·obtain⟨b,h,_⟩:=O9 (body:=mG) (st:=λk=>(s,((k+1:Nat):Int))) (s.length - 1) (λ_=>True) (λk hk=>by
      simp only [mG,aa,ad];split
      ·rename_i h3;obtain⟨v,hv⟩:=ay (l:=s) (k:=k+1) (by omega);rw [hv];simp only [bind_some];rw [cD (by omega) (by omega)];have II:∀ (p:Prop) [Decidable p] (a b:Option (ai (er C9) (rj (C_.map (·.2))))),cond (!decide p) a b=if p then b else a:=λp _ a b=>by by_cases h:p <;> simp [h]
       simp only [II]
       repeat' split
       all_goals first | exact .inl ⟨_,rfl,trivial⟩ | exact .inr ⟨by omega,rfl⟩
      ·exact .inl ⟨_,rfl,trivial⟩) 0 (by omega)
     have h':ab mG (s,(1:Int))=some b:=h;rw [h',bind_some];cases b <;> exact tf _
theorem Vu (s:List UInt8)(a:Nat)(p least r:Int)(hr:0<=r)(h:(a:Int)+r<s.length)(hl:s.length<=2147483647):∃ y,ab dZ (s,(a:Int),p,least,r,(1:Int))=some y/\(∀ a b c,y = .inl (a,b,c)->c=r)/\∀ a b,y = .inr (a,b)->a=0/\b=0:=by
 refine je (body:=dZ) (λx=>∃ (p:Int) (k:Nat),x=(s,(a:Int),p,least,r,(k:Int))/\1<=k/\(k:Int)<=r+1) (λ_ y=>(∀ a b c,y = .inl (a,b,c)->c=r)/\∀ a b,y = .inr (a,b)->a=0/\b=0) (λx=>(r+1 - x.2.2.2.2.2).toNat) (λx hx=>?_) _ ⟨p,1,rfl,by omega,by omega⟩;obtain⟨p,k,rfl,h1,h2⟩:=hx;simp only [dZ,aa];split
 ·rename_i h3;rw [cD (by omega) (by omega)];have e:(a:Int)+(k:Int)=((a+k:Nat):Int):=by omega
  rw [e,ad];obtain⟨c,hc⟩:=ay (l:=s) (k:=a+k) (by omega);rw [hc];simp only [bind_some];split
  ·exact .inl ⟨_,rfl,(λ_ _ _ e=>by cases e),λ_ _ e=>by cases e;exact⟨rfl,rfl⟩⟩
  ·split
   ·exact .inl ⟨_,rfl,(λ_ _ _ e=>by cases e),λ_ _ e=>by cases e;exact⟨rfl,rfl⟩⟩
   ·have hs:∀ q:Int,Oa .i64 q 6=some (IntKind.wrap .i64 (q*2 ^ min (6:Int).toNat IntKind.i64.bits)):=λq=>by simp [Oa]
    rw [hs];simp only [bind_some];refine .inr ⟨_,rfl,⟨_,k+1,by rw [cD (n:=(k:Int)+1) (by omega) (by omega)];rfl,by omega,by omega⟩,?_,λ_ h=>h⟩;simp only;rw [cD (n:=(k:Int)+1) (by omega) (by omega)];omega
 ·exact .inl ⟨_,rfl,(λ_ _ _ e=>by cases e;rfl),λ_ _ e=>by cases e⟩
def Vv (s:List UInt8)(a:Nat)(o:Option (Int×Int)):Prop:=∃ p n:Int,o=some (p,n)/\0<=n/\(a:Int)+n<=s.length
theorem n8 {α:Type}{P:α->Prop}{c:Prop}[Decidable c]{x y:α}(h1:c->P x)(h2:¬ c->P y):P (if c then x else y):=by by_cases h:c <;> simp [h,h1,h2]
theorem Ph (s:List UInt8)(a:Nat)(ha:a<s.length)(hl:s.length<=2147483647):Vv s a (nO (s,(a:Int))):=by
 obtain⟨c,hc⟩:=ay (l:=s) (k:=a) ha;have fin:∀ (p least r:Int),0<=r->(a:Int)+r<s.length->Vv s a (Option.bind (ab dZ (s,(a:Int),p,least,r,(1:Int))) λ(y:Int×Int×Int ⊕ Int×Int)=>bu (λ(y:Int×Int×Int)=>if y.1<y.2.1 then some ((0:Int),(0:Int)) else if (1114111:Int)<y.1 then some ((0:Int),(0:Int)) else if (55296:Int)<=y.1 then if y.1<(57344:Int) then some ((0:Int),(0:Int)) else some (y.1,IntKind.wrap .i64 (y.2.2+(1:Int))) else some (y.1,IntKind.wrap .i64 (y.2.2+(1:Int)))) (λ(y:Int×Int)=>some (y.1,y.2)) y):=λp least r h1 h2=>by
  obtain⟨y,g1,g2,g3⟩:=Vu s a p least r h1 h2 hl;rw [g1,bind_some];rcases y with⟨u,v,w⟩ | ⟨u,v⟩
  ·obtain rfl:=g2 _ _ _ rfl;simp only [oW];rw [cD (n:=w+1) (by omega) (by omega)]
   repeat' split
   all_goals first | exact⟨_,_,rfl,by omega,by omega⟩
  ·obtain⟨rfl,rfl⟩:=g3 _ _ rfl;exact⟨_,_,rfl,by omega,by omega⟩
 simp only [nO,aa,ad];rw [hc];simp only [bind_some];have e:IntKind.wrap .i64 ((s.length:Int) - (a:Int))=(s.length:Int) - (a:Int):=cD (by omega) (by omega);simp only [e]
 repeat' (refine n8 (P:=Vv s a) (λ_=>?_) (λ_=>?_))
 all_goals first | exact⟨_,_,rfl,by omega,by omega⟩ | (refine fin _ _ _ ?_ ?_ <;> omega)
theorem Pj (s:List UInt8)(a:Nat)(ha:a<s.length)(hl:s.length<=2147483647):∃ p n:Int,nO (s,(a:Int))=some (p,n)/\0<=n/\(a:Int)+n<=s.length:=Ph s a ha hl
theorem HO (s:List UInt8)(hl:s.length<=2147483647):∃ b,gM s=some b:=by
 simp only [gM];obtain⟨b,h,_⟩:=je (body:=nP) (λx=>∃ k:Nat,x=(s,(k:Int))/\k<=s.length) (λ_ _=>True) (λx=>((s.length:Int) - x.2).toNat) (λx hx=>by
  obtain⟨k,rfl,hk⟩:=hx;simp only [nP,aa];split
  ·rename_i h1;obtain⟨p,n,h2,h3,h4⟩:=Pj s k (by omega) hl;rw [h2,bind_some];simp only;split
   ·exact .inl ⟨_,rfl,trivial⟩
   ·split
    ·exact .inl ⟨_,rfl,trivial⟩
    ·refine .inr ⟨_,rfl,⟨k+n.toNat,?_,by omega⟩,?_,λ_ h=>h⟩
     ·rw [cD (n:=(k:Int)+n) (by omega) (by omega)];have e:(k:Int)+n=((k+n.toNat:Nat):Int):=by omega
      rw [e]
     ·simp only;rw [cD (n:=(k:Int)+n) (by omega) (by omega)];omega
  ·exact .inl ⟨_,rfl,trivial⟩) (s,(0:Int)) ⟨0,rfl,Nat.zero_le _⟩
 rw [h,bind_some];cases b <;> exact tf _
def sz (t:List Node)(i:Nat):Nat:=match t[i]? with
 | some v=>v.size.toNat
 | none=>0
theorem R0 {t:List Node}{i:Nat}{v:Node}(h:t[i]?=some v):sz t i=v.size.toNat:=by simp [sz,h]
structure qv (t:List Node)(lo hi:Nat):Prop where
 ok:∀ i,lo<=i->i<hi->∃ v,t[i]?=some v/\v.size=(sz t i:Int)/\1<=sz t i/\i+sz t i<=hi
 nest:∀ i j,lo<=i->i<hi->i<j->j<i+sz t i->j+sz t j<=i+sz t i
section
variable {t:List Node}{a b c:Nat}
theorem qv.nil:qv t a a:=⟨λi h1 h2=>by omega,λi j h1 h2=>by omega⟩
theorem qv.app (h1:qv t a b)(h2:qv t b c)(hb:b<=c):qv t a c:=by
 refine⟨λi hi j5=>?_,λi j hi j5 hj No=>?_⟩
 ·by_cases h:i<b
  ·obtain⟨v,g1,g2,g3,g4⟩:=h1.ok i hi h;exact⟨v,g1,g2,g3,by omega⟩
  ·exact h2.ok i (by omega) j5
 ·by_cases h:i<b
  ·exact h1.nest i j hi h hj No
  ·exact h2.nest i j (by omega) j5 hj No
theorem qv.node {v:Node}(hv:t[a]?=some v)(hs:v.size=(sz t a:Int))(h1:1<=sz t a)(h:qv t (a+1) (a+sz t a)):qv t a (a+sz t a):=by
 refine⟨λi hi j5=>?_,λi j hi j5 hj No=>?_⟩
 ·by_cases e:i=a
  ·subst e;exact⟨v,hv,hs,h1,Nat.le_refl _⟩
  ·exact h.ok i (by omega) j5
 ·by_cases e:i=a
  ·subst e;obtain⟨u,_,_,_,g⟩:=h.ok j (by omega) No;exact g
  ·exact h.nest i j (by omega) j5 hj No
theorem qv.sub (h:qv t a c){i:Nat}(h1:a<=i)(h2:i<c):qv t i (i+sz t i):=by
 obtain⟨v,_,_,_,g⟩:=h.ok i h1 h2;refine⟨λj hj No=>?_,λj k hj No hk Jg=>h.nest j k (by omega) (by omega) hk Jg⟩;obtain⟨u,e1,e2,e3,_⟩:=h.ok j (by omega) (by omega);refine⟨u,e1,e2,e3,?_⟩
 by_cases e:j=i
 ·subst e;omega
 ·exact h.nest i j h1 h2 (by omega) No
end
theorem Pk (t:List Node)(ht:t.length<=1000000):∀ (d n a e:Nat),d<n->d<1000->a<e->e<=t.length->∃ b,bY n (t,(a:Int),(e:Int),(d:Int))=some b/\(b=true->∃ v,t[a]?=some v/\v.size=(sz t a:Int)/\1<=sz t a/\a+sz t a<=e/\qv t a (a+sz t a)):=by
 intro d
 induction d with
 | zero =>
  intro n a e hn _ ha he;obtain⟨m,rfl⟩:∃ m,n=m+1:=⟨n - 1,by omega⟩;obtain⟨v,hv⟩:=ay (l:=t) (k:=a) (by omega);simp only [bY,sZ,aa,ad];rw [hv,bind_some];simp
 | succ d ih =>
  intro n a e hn hd ha he;obtain⟨m,rfl⟩:∃ m,n=m+1:=⟨n - 1,by omega⟩;obtain⟨v,hv⟩:=ay (l:=t) (k:=a) (by omega);simp only [bY,sZ,aa,ad];rw [hv,bind_some];have hs:=R0 hv;rw [if_neg (by omega)];split
  ·exact⟨_,rfl,λh=>by cases h⟩
  ·rename_i h1;rw [cD (by omega) (by omega)];split
   ·exact⟨_,rfl,λh=>by cases h⟩
   ·rename_i h2;have qF:v.size=(sz t a:Int):=by omega
    have qQ:1<=sz t a:=by omega
    have tN:a+sz t a<=e:=by omega
    rw [qF,cD (n:=(a:Int)+1) (by omega) (by omega)];obtain⟨y,hy,Vg,E6⟩:=je (body:=lM (bY m)) (λx=>∃ k:Nat,x=(t,(a:Int),((d+1:Nat):Int),(sz t a:Int),(k:Int))/\a<k/\k<=a+sz t a/\qv t (a+1) k)
     (λ_ y=>(y = .inl ()->qv t (a+1) (a+sz t a))/\∀ b,y = .inr b->b=false) (λx=>(((a+sz t a:Nat):Int) - x.2.2.2.2).toNat) (λx hx=>by
      obtain⟨k,rfl,rG,Nw,hL⟩:=hx;simp only [lM,aa,ad];rw [cD (n:=(a:Int)+(sz t a:Int)) (by omega) (by omega)];split
      ·rename_i h3;obtain⟨r,hr,yQ⟩:=ih m k (a+sz t a) (by omega) (by omega) (by omega) (by omega);have e1:IntKind.wrap .i64 (((d+1:Nat):Int) - 1)=(d:Int):=by rw [cD (by omega) (by omega)];omega
       have e2:(a:Int)+(sz t a:Int)=((a+sz t a:Nat):Int):=by omega
       rw [e1,e2,hr,bind_some];cases r
       ·exact .inl ⟨_,rfl,(λh=>by cases h),λb h=>by cases h;rfl⟩
       ·obtain⟨u,g1,g2,g3,g4,g5⟩:=yQ rfl;rw [g1,bind_some];simp only [Bool.not_true,cond_false];rw [g2,cD (n:=(k:Int)+(sz t k:Int)) (by omega) (by omega)];refine .inr ⟨_,rfl,⟨k+sz t k,?_,by omega,by omega,hL.app g5 (by omega)⟩,?_,λ_ h=>h⟩
        ·have e3:(k:Int)+(sz t k:Int)=((k+sz t k:Nat):Int):=by omega
         rw [e3]
        ·simp only;omega
      ·rename_i h3
       have:k=a+sz t a:=by omega
       subst this;exact .inl ⟨_,rfl,λ_=>hL,λb h=>by cases h⟩) (t,(a:Int),((d+1:Nat):Int),(sz t a:Int),(a:Int)+1) ⟨a+1,rfl,by omega,by omega, .nil⟩
    rw [hy,bind_some];rcases y with u | b
    ·exact⟨_,rfl,λ_=>⟨v,rfl,qF,qQ,tN,qv.node hv qF qQ (Vg rfl)⟩⟩
    ·obtain rfl:=E6 b rfl;exact⟨_,rfl,λh=>by cases h⟩
def jr (t:List Node):Nat->Nat->Nat->List Nat
 | 0,_,_=>[]
 | f+1,k,hi=>if k<hi then k::jr t f (k+sz t k) hi else []
def cZ (t:List Node)(a:Nat):List Nat:=jr t (sz t a) (a+1) (a+sz t a)
def zw (t:List Node)(j:Nat):Nat->Option Nat
 | 0=>none
 | i+1=>if j<i+sz t i then some i else zw t j i
def par (t:List Node)(j:Nat):Option Nat:=zw t j j
theorem My {t:List Node}{j i p:Nat}(h:zw t j i=some p):p<i/\j<p+sz t p/\∀ q,p<q->q<i->¬ j<q+sz t q:=by
 induction i with
 | zero=>cases h
 | succ i ih =>
  simp only [zw] at h
  split at h
  ·cases h;exact⟨by omega,by assumption,λq h1 h2=>by omega⟩
  ·rename_i hn;obtain⟨h1,h2,h3⟩:=ih h;refine⟨by omega,h2,λq g1 g2=>?_⟩
   by_cases e:q=i
   ·subst e;exact hn
   ·exact h3 q g1 (by omega)
theorem D9 {t:List Node}{j i:Nat}(h:zw t j i=none):∀ q,q<i->¬ j<q+sz t q:=by
 induction i with
 | zero=>intro q hq;omega
 | succ i ih =>
  simp only [zw] at h
  split at h
  ·cases h
  ·rename_i hn;intro q hq
   by_cases e:q=i
   ·subst e;exact hn
   ·exact ih h q (by omega)
theorem fO {t:List Node}{j p:Nat}(h:par t j=some p):p<j/\j<p+sz t p/\∀ q,p<q->q<j->¬ j<q+sz t q:=My h
theorem KS {t:List Node}{j p:Nat}:∀ {i:Nat},p<i->j<p+sz t p->(∀ q,p<q->q<i->¬ j<q+sz t q)->zw t j i=some p
 | 0,h,_,_=>by omega
 | i+1,h1,h2,h3=>by
  simp only [zw]
  by_cases e:p=i
  ·subst e;rw [if_pos h2]
  ·rw [if_neg (h3 i (by omega) (by omega)),KS (by omega) h2 λq g1 g2=>h3 q g1 (by omega)]
theorem Vw {t:List Node}{j p:Nat}(h1:p<j)(h2:j<p+sz t p)(h3:∀ q,p<q->q<j->¬ j<q+sz t q):par t j=some p:=KS h1 h2 h3
def Vx (t:List Node)(j:Nat):Int:=match par t j with
 | some p=>(p:Int)
 | none => -1
theorem R1 (t:List Node)(ht:t.length<=1000000){a:Nat}{lo hi:Nat}(hL:qv t lo hi)(h1:lo<=a)(h2:a<hi)(CZ:hi<=t.length):pn (t,(a:Int))=some ((cZ t a).map Int.ofNat):=by
 obtain⟨v,hv,Nx,hv1,hv2⟩:=hL.ok a h1 h2;simp only [pn];rw [cD (n:=(a:Int)+1) (by omega) (by omega)];have key:∀ f k (acc:List Int),a<k->k<=a+sz t a->a+sz t a<=k+f->acc.length+f<=1000000->ab jQ (t,(a:Int),acc,(k:Int))=some (acc++(jr t f k (a+sz t a)).map Int.ofNat):=by
  intro f
  induction f with
  | zero =>
   intro k acc g1 g2 g3 g4;have hk:k=a+sz t a:=by omega
   subst hk;refine ae ?_;simp only [jQ,aa,ad];rw [hv,bind_some,Nx,cD (by omega) (by omega),if_neg (by omega)];simp [jr]
  | succ f ih =>
   intro k acc g1 g2 g3 g4
   by_cases hk:k<a+sz t a
   ·obtain⟨u,hu,Vy,hu1,Zh⟩:=(hL.sub h1 h2).ok k (by omega) hk;have step:jQ (t,(a:Int),acc,(k:Int))=some (.nx (t,(a:Int),acc++[(k:Int)],((k+sz t k:Nat):Int))):=by simp only [jQ,aa,ad];rw [hv,bind_some,Nx,cD (by omega) (by omega),if_pos (by omega),a6 (by simp;omega),bind_some,hu,bind_some,Vy,cD (by omega) (by omega)];rfl
    rw [aj step,ih (k+sz t k) _ (by omega) (by omega) (by omega) (by simp;omega)];simp only [jr,if_pos hk,List.map_cons,List.append_assoc,List.singleton_append];rfl
   ·have hk:k=a+sz t a:=by omega
    subst hk;refine ae ?_;simp only [jQ,aa,ad];rw [hv,bind_some,Nx,cD (by omega) (by omega),if_neg (by omega)];simp [jr]
 have h:=key (sz t a) (a+1) [] (by omega) (by omega) (by omega) (by simp;omega);have e:((a:Int)+1)=((a+1:Nat):Int):=by omega
 rw [e,h,bind_some];simp [cZ]
theorem Mz (t:List Node)(ht:t.length<=1000000){a:Nat}{hi:Nat}(hL:qv t 0 hi)(h2:a<hi)(CZ:hi<=t.length):mF (t,(a:Int))=some (Vx t a):=by
 simp only [mF];rw [cD (n:=(a:Int) - 1) (by omega) (by omega)];have key:∀ i,i<=a->ab im (t,(a:Int),(i:Int) - 1)=some (match zw t a i with | some p => .inr (p:Int) | none => .inl ()):=by
  intro i
  induction i with
  | zero =>
   intro _;refine ae ?_;simp only [im,aa];rw [if_neg (by omega)];rfl
  | succ i ih =>
   intro j5;obtain⟨u,hu,Vy,hu1,Zh⟩:=hL.ok i (by omega) (by omega);have e:((i+1:Nat):Int) - 1=(i:Int):=by omega
   rw [e]
   by_cases h:a<i+sz t i
   ·refine ae ?_;simp only [im,aa,ad];rw [if_pos (by omega),hu,bind_some,Vy,cD (by omega) (by omega),if_pos (by omega)];simp only [zw,if_pos h]
   ·have step:im (t,(a:Int),(i:Int))=some (.nx (t,(a:Int),(i:Int) - 1)):=by simp only [im,aa,ad];rw [if_pos (by omega),hu,bind_some,Vy,cD (by omega) (by omega),if_neg (by omega),cD (by omega) (by omega)]
    rw [aj step,ih (by omega)];simp only [zw,if_neg h]
 rw [key a (Nat.le_refl _),bind_some];unfold Vx par;cases zw t a a <;> rfl
theorem MA {l:List Attr}(h:w7 l=true){i:Nat}{a:Attr}(hi:l[i]?=some a):a.key.length<=2147483647/\a.val.length<=2147483647:=by
 simp only [w7,Bool.and_eq_true,List.all_eq_true] at h
 have:=h.2 a (List.mem_of_getElem? hi)
 simpa [Ac] using this
theorem zx {t:List Node}(h:w8 t=true){i:Nat}{v:Node}(hi:t[i]?=some v):v.tag.length<=2147483647/\v.text.length<=2147483647/\w7 v.attrs=true:=by
 simp only [w8,Bool.and_eq_true,List.all_eq_true] at h
 have:=h.2 v (List.mem_of_getElem? hi)
 simp only [Ad,Bool.and_eq_true,decide_eq_true_eq] at this;exact⟨this.1.1,this.1.2,this.2⟩
structure UA (l:List Attr):Prop where
 len:l.length<=20
 nm:∀ (i:Nat) (a:Attr),l[i]?=some a->fI a.key=some true
 pl:∀ (i:Nat) (a:Attr),l[i]?=some a->gM a.val=some true
 uq:∀ (i j:Nat) (a b:Attr),j<i->l[i]?=some a->l[j]?=some b->b.key≠a.key
theorem Dl (l:List Attr)(hf:w7 l=true):∃ b,jD l=some b/\(b=true->UA l):=by
 simp only [jD,aa];split
 ·exact⟨_,rfl,λh=>by cases h⟩
 ·rename_i hl;obtain⟨y,h,q1,q2⟩:=je (body:=j8) (λx=>∃ k:Nat,x=(l,(k:Int))/\k<=l.length/\∀ (i:Nat) (a:Attr),i<k->l[i]?=some a->fI a.key=some true/\gM a.val=some true/\∀ (j:Nat) (b:Attr),j<i->l[j]?=some b->b.key≠a.key) (λ_ y=>(y = .inl ()->UA l)/\∀ b,y = .inr b->b=false) (λx=>((l.length:Int) - x.2).toNat) (λx hx=>by
   obtain⟨k,rfl,hk,hI⟩:=hx;simp only [j8,aa,ad];split
   ·rename_i h1;obtain⟨v,hv⟩:=ay (l:=l) (k:=k) (by omega);obtain⟨f1,f2⟩:=MA hf hv;obtain⟨r,hr⟩:=Bi v.key (by omega);obtain⟨r',yQ⟩:=HO v.val (by omega);rw [hv];simp only [bind_some];rw [hr,bind_some,pk];cases r
    ·exact .inl ⟨_,rfl,(λh=>by cases h),λb h=>by cases h;rfl⟩
    ·rw [if_pos rfl,yQ,bind_some,pk];cases r'
     ·exact .inl ⟨_,rfl,(λh=>by cases h),λb h=>by cases h;rfl⟩
     ·rw [if_pos rfl];obtain⟨z,hz,hq⟩:=je (body:=gC) (λx=>∃ j:Nat,x=(l,(k:Int),(j:Int))/\j<=k/\∀ (i:Nat) (b:Attr),i<j->l[i]?=some b->b.key≠v.key) (λ_ z=>(z = .inl (l,(k:Int))/\∀ (i:Nat) (b:Attr),i<k->l[i]?=some b->b.key≠v.key)∨z = .inr false) (λx=>((k:Int) - x.2.2).toNat) (λx hx=>by
       obtain⟨j,rfl,hj,hJ⟩:=hx;simp only [gC,aa,ad];split
       ·rename_i h2;obtain⟨u,hu⟩:=ay (l:=l) (k:=j) (by omega);rw [hu,hv];simp only [bind_some];split
        ·exact .inl ⟨_,rfl, .inr rfl⟩
        ·rename_i h3;refine .inr ⟨_,rfl,⟨j+1,by rw [cD (by omega) (by omega)];rfl,by omega,λi b hi hb=>?_⟩,by simp only;rw [cD (by omega) (by omega)];omega,λ_ h=>h⟩
         by_cases e:i=j
         ·subst e;rw [hu] at hb;cases hb;exact h3
         ·exact hJ i b (by omega) hb
       ·have:j=k:=by omega
        subst this;exact .inl ⟨_,rfl, .inl ⟨rfl,hJ⟩⟩) (l,(k:Int),(0:Int)) ⟨0,rfl,Nat.zero_le _,λi b hi=>by omega⟩
      rw [show ab gC (l,(k:Int),(0:Int))=some z from hz,bind_some];rcases hq with⟨rfl,XP⟩ | rfl
      ·simp only [oW];rw [cD (n:=(k:Int)+1) (by omega) (by omega)];refine .inr ⟨_,rfl,⟨k+1,rfl,by omega,λi a hi ha=>?_⟩,by simp only;omega,λ_ h=>h⟩
       by_cases e:i=k
       ·subst e;rw [hv] at ha;cases ha;exact⟨hr,yQ,λj b hj hb=>XP j b hj hb⟩
       ·exact hI i a (by omega) ha
      ·exact .inl ⟨_,rfl,(λh=>by cases h),λb h=>by cases h;rfl⟩
   ·have:k=l.length:=by omega
    subst this;exact .inl ⟨_,rfl,(λ_=>⟨by omega,λi a ha=>(hI i a (List.getElem?_eq_some_iff.1 ha).1 ha).1,λi a ha=>(hI i a (List.getElem?_eq_some_iff.1 ha).1 ha).2.1,λi j a b hj ha hb=>(hI i a (List.getElem?_eq_some_iff.1 ha).1 ha).2.2 j b hj hb⟩),λb h=>by cases h⟩) (l,(0:Int)) ⟨0,rfl,Nat.zero_le _,λi a hi=>by omega⟩
  rw [h,bind_some];rcases y with u | b
  ·exact⟨_,rfl,λ_=>q1 rfl⟩
  ·obtain rfl:=q2 b rfl;exact⟨_,rfl,λh=>by cases h⟩
theorem zy {t:List Node}{lo hi c:Nat}(hL:qv t lo hi):∀ {f k:Nat},lo<=k->c∈jr t f k hi->k<=c/\c<hi
 | 0,_,_,h=>by cases h
 | f+1,k,hk,h=>by
  simp only [jr] at h
  split at h
  ·rcases List.mem_cons.1 h with rfl | h
   ·exact⟨Nat.le_refl _,by assumption⟩
   ·obtain⟨u,_,_,h1,h2⟩:=hL.ok k hk (by assumption)
    have:=zy hL (by omega) h
    omega
  ·cases h
theorem HP {t:List Node}{lo hi a c:Nat}(hL:qv t lo hi)(h1:lo<=a)(h2:a<hi)(h:c∈cZ t a):a<c/\c<a+sz t a:=by
 have hs:=hL.sub h1 h2
 have:=zy (lo:=a) hs (by omega) h
 omega
theorem D_ {t:List Node}:∀ {f k hi:Nat},(jr t f k hi).length<=f
 | 0,_,_=>by simp [jr]
 | f+1,k,hi=>by
  simp only [jr];split
  ·simp only [List.length_cons];have:=D_ (t:=t) (f:=f) (k:=k+sz t k) (hi:=hi);omega
  ·simp
theorem Fq (t:List Node)(ht:t.length<=1000000)(hL:qv t 0 t.length)(h0:0<t.length):∃ b,ki t=some b:=by
 simp only [ki];rw [show pn (t,(0:Int))=_ from R1 t ht (a:=0) hL (Nat.le_refl _) h0 (Nat.le_refl _),bind_some];have hlen:(cZ t 0).length<=1000000:=by
  have:=D_ (t:=t) (f:=sz t 0) (k:=0+1) (hi:=0+sz t 0)
  obtain⟨v,_,_,_,h⟩:=hL.ok 0 (Nat.le_refl _) h0;unfold cZ;omega
 obtain⟨y,h,_⟩:=je (body:=kE) (λx=>∃ (b:Bool) (k:Nat),x=(t,(cZ t 0).map Int.ofNat,b,(k:Int))/\k<=(cZ t 0).length) (λ_ _=>True) (λx=>(((cZ t 0).length:Int) - x.2.2.2).toNat) (λx hx=>by
  obtain⟨b,k,rfl,hk⟩:=hx;simp only [kE,aa,ad,Int.toNat_natCast];split
  ·rename_i h1;simp only [List.length_map] at h1;obtain⟨c,hc⟩:=ay (l:=cZ t 0) (k:=k) (by omega);have qq:=HP hL (Nat.le_refl _) h0 (List.mem_of_getElem? hc);obtain⟨v,hv,_,_,h5⟩:=hL.ok 0 (Nat.le_refl _) h0;have l6:c<t.length:=by omega
   obtain⟨u,hu⟩:=ay (l:=t) (k:=c) l6;have e1:((cZ t 0).map Int.ofNat)[k]?=some (c:Int):=by rw [List.getElem?_map,hc];rfl
   have e2:bl t (c:Int)=some u:=by rw [ad,hu]
   rw [e1];simp only [bind_some];rw [e2];simp only [bind_some];rw [cD (n:=(k:Int)+1) (by omega) (by omega)];have aX:∀ b':Bool,(∃ y,some (ai.nx (B:=rj (qW.map (·.2))) (t,(cZ t 0).map Int.ofNat,b',(k:Int)+1))=some (.nx y)/\(∃ (b:Bool) (k:Nat),y=(t,(cZ t 0).map Int.ofNat,b,(k:Int))/\k<=(cZ t 0).length)/\(((cZ t 0).length:Int) - y.2.2.2).toNat<(((cZ t 0).length:Int) - (k:Int)).toNat/\∀ b:rj (qW.map (·.2)),True->True):=λb'=>⟨_,rfl,⟨b',k+1,rfl,by omega⟩,by simp only;omega,λ_ h=>h⟩
   cases b <;> simp only [cond_true,cond_false] <;> repeat' split
   all_goals first | exact .inl ⟨_,rfl,trivial⟩ | exact .inr (aX _)
  ·exact .inl ⟨_,rfl,trivial⟩) (t,(cZ t 0).map Int.ofNat,false,(0:Int)) ⟨false,0,rfl,Nat.zero_le _⟩
 rw [h,bind_some];cases y <;> exact tf _
structure RN (t:List Node)(i:Nat)(v:Node):Prop where
 kd:v.kind=1∨v.kind=2∨v.kind=3∨v.kind=4∨v.kind=5
 k1:v.kind=1->i=0
 k2:v.kind≠3->v.kind≠1->sz t i=1
 k3:v.kind=3->v.text=[]/\v.attrs.length<=20/\fI v.tag=some true
 k4:v.kind≠3->v.tag=[]/\v.attrs=[]
 k5:v.kind=3->UA v.attrs
 k6:gM v.text=some true
 k7:v.kind=1->v.text=[]
def u9 (t:List Node)(i:Nat)(v:Node)(o:Option Bool):Prop:=∃ b,o=some b/\(b=true->RN t i v)
theorem u9.no {t:List Node}{i:Nat}{v:Node}:u9 t i v (some false):=⟨_,rfl,λh=>by cases h⟩
theorem MB:Array.toList (ByteArray.data { data:=#[] })=[]:=rfl
set_option maxHeartbeats 1000000 in
theorem Fs (t:List Node)(ht:t.length<=1000000)(hf:w8 t=true)(hL:qv t 0 t.length){i:Nat}{v:Node}(hv:t[i]?=some v):u9 t i v (mb (t,(i:Int))):=by
 have hi:=(List.getElem?_eq_some_iff.1 hv).1;obtain⟨f1,f2,f3⟩:=zx hf hv;obtain⟨p,hp⟩:=HO v.text (by omega);obtain⟨rr,xR⟩:=Fq t ht hL (by omega);obtain⟨nt,QP⟩:=Bi v.text (by omega);obtain⟨nn,Zi⟩:=Bi v.tag (by omega);obtain⟨ra,Xw,X6⟩:=Dl v.attrs f3;have t_:=Mz t ht hL hi (Nat.le_refl _);obtain⟨u,hu,hs,_,_⟩:=hL.ok i (Nat.zero_le _) hi;have e:u=v:=by rw [hv] at hu;cases hu;rfl
 subst e;simp only [mb,aa,ad,hv,bind_some,hp,xR,QP,Zi,Xw,t_,MB];have tail:(u.kind≠3->u.tag=[]/\u.attrs=[])->u9 t i u (bif !p then some false else if u.kind=1 then if (i:Int)=0 then if u.text=[] then some rr else some false else some false else if u.kind=2 then if u.size=1 then bif nt then some (decide (Vx t i=0)) else some false else some false else if u.kind=4 then some (decide (u.size=1)) else if u.kind=5 then some (decide (u.size=1)) else if u.kind=3 then if u.text=[] then bif nn then some ra else some false else some false else some false):=λhk=>by
  rw [pk];refine n8 (P:=u9 t i u) (λtJ=>?_) (λ_ => .no);have X7:gM u.text=some true:=by rw [hp,tJ]
  refine n8 (P:=u9 t i u) (λh1=>?_) (λh1=>?_)
  ·refine n8 (P:=u9 t i u) (λh2=>?_) (λ_ => .no);refine n8 (P:=u9 t i u) (λh3=>?_) (λ_ => .no);exact⟨_,rfl,λ_=>⟨.inl h1,λ_=>by omega,λ_ h=>absurd h1 h,λh=>by omega,hk,λh=>by omega,X7,λ_=>h3⟩⟩
  refine n8 (P:=u9 t i u) (λh2=>?_) (λh2=>?_)
  ·refine n8 (P:=u9 t i u) (λh3=>?_) (λ_ => .no);cases nt
   ·exact .no
   ·exact⟨_,rfl,λ_=>⟨.inr (.inl h2),λh=>absurd h h1,λ_ _=>by omega,λh=>by omega,hk,λh=>by omega,X7,λh=>absurd h h1⟩⟩
  refine n8 (P:=u9 t i u) (λh4=>?_) (λh4=>?_)
  ·exact⟨_,rfl,λhd=>⟨.inr (.inr (.inr (.inl h4))),λh=>absurd h h1,λ_ _=>by have:=of_decide_eq_true hd;omega,λh=>by omega,hk,λh=>by omega,X7,λh=>absurd h h1⟩⟩
  refine n8 (P:=u9 t i u) (λh5=>?_) (λh5=>?_)
  ·exact⟨_,rfl,λhd=>⟨.inr (.inr (.inr (.inr h5))),λh=>absurd h h1,λ_ _=>by have:=of_decide_eq_true hd;omega,λh=>by omega,hk,λh=>by omega,X7,λh=>absurd h h1⟩⟩
  refine n8 (P:=u9 t i u) (λh3=>?_) (λh3 => .no);refine n8 (P:=u9 t i u) (λh6=>?_) (λ_ => .no);cases nn
  ·exact .no
  ·refine⟨_,rfl,λhd=>⟨.inr (.inr (.inl h3)),λh=>absurd h h1,λh=>absurd h3 h,λ_=>⟨h6,(X6 hd).len,Zi⟩,hk,λ_=>X6 hd,X7,λh=>absurd h h1⟩⟩
 refine n8 (P:=u9 t i u) (λh3=>?_) (λh3=>?_)
 ·refine n8 (P:=u9 t i u) (λ_ => .no) (λh4=>?_);refine n8 (P:=u9 t i u) (λ_ => .no) (λh5=>?_);refine tail λ_=>⟨by simpa using h4,List.eq_nil_of_length_eq_zero (by omega)⟩
 ·exact tail λh=>absurd h h3
structure RT (t:List Node):Prop where
 pos:0<t.length
 len:t.length<=200
 root:sz t 0=t.length
 lam:qv t 0 t.length
 k0:∃ v,t[0]?=some v/\v.kind=1
 node:∀ i v,t[i]?=some v->RN t i v
 txt:∀ (i:Nat) (v:Node),t[i]?=some v->v.text.length<=4000/\∀ (j:Nat) (a:Attr),v.attrs[j]?=some a->a.val.length<=4000
theorem Pm (t:List Node)(hf:w8 t=true):∃ b,qj t=some b/\(b=true->RT t):=by
 simp only [qj,aa,pj]
 by_cases h0:(t.length:Int)=0
 ·rw [if_pos h0];exact⟨_,rfl,λh=>by cases h⟩
 ·rw [if_neg h0]
  by_cases X8:(200:Int)<t.length
  ·rw [if_pos X8];exact⟨_,rfl,λh=>by cases h⟩
  ·rw [if_neg X8];obtain⟨v,hv⟩:=ay (l:=t) (k:=0) (by omega);rw [hv];simp only [bind_some]
   by_cases h1:v.size≠t.length
   ·rw [if_pos h1];exact⟨_,rfl,λh=>by cases h⟩
   ·rw [if_neg h1]
    by_cases h2:v.kind≠1
    ·rw [if_pos h2];exact⟨_,rfl,λh=>by cases h⟩
    ·rw [if_neg h2];obtain⟨b,hb,Dy⟩:=Pk t (by omega) 40 lY 0 t.length (by unfold lY;omega) (by omega) (by omega) (Nat.le_refl _);rw [show bY lY (t,(0:Int),(t.length:Int),(40:Int))=some b from hb,bind_some,pk];cases b
     ·exact⟨_,rfl,λh=>by cases h⟩
     ·rw [if_pos rfl];obtain⟨v',g1,g2,g3,g4,g5⟩:=Dy rfl;rw [hv] at g1;cases g1;have qF:sz t 0=t.length:=by omega
      rw [qF,Nat.zero_add] at g5;obtain⟨y,hy,q1,q2⟩:=je (body:=nQ) (λx=>∃ (b:Int) (k:Nat),x=(t,b,(k:Int))/\k<=t.length/\0<=b/\b<=4000/\∀ j u,j<k->t[j]?=some u->RN t j u/\u.text.length<=4000/\∀ (j:Nat) (a:Attr),u.attrs[j]?=some a->a.val.length<=4000) (λ_ y=>(y = .inl ()->∀ j u,t[j]?=some u->RN t j u/\u.text.length<=4000/\∀ (j:Nat) (a:Attr),u.attrs[j]?=some a->a.val.length<=4000)/\∀ b,y = .inr b->b=false) (λx=>((t.length:Int) - x.2.2).toNat) (λx hx=>by
       obtain⟨Rs,k,rfl,hk,CM,Bd,hrn⟩:=hx;simp only [nQ,aa,ad];split
       ·rename_i h3;obtain⟨u,hu⟩:=ay (l:=t) (k:=k) (by omega);rw [hu,bind_some];have UW:∃ b0:Int,IntKind.wrap .i64 (Rs+if (4001:Int)<(u.text.length:Int) then (4001:Int) else (u.text.length:Int))=b0/\0<=b0/\b0<=8001/\(b0<=4000->u.text.length<=4000):=by
         split
         ·exact⟨_,rfl,by rw [cD (by omega) (by omega)];omega,by rw [cD (by omega) (by omega)];omega,by rw [cD (by omega) (by omega)];omega⟩
         ·exact⟨_,rfl,by rw [cD (by omega) (by omega)];omega,by rw [cD (by omega) (by omega)];omega,by rw [cD (by omega) (by omega)];omega⟩
        obtain⟨b0,UW,c1,c2,c3⟩:=UW;rw [UW];obtain⟨_,_,f3⟩:=zx hf hu;have Wj:u.attrs.length<=2147483647:=by simp only [w7,Bool.and_eq_true,decide_eq_true_eq] at f3;exact f3.1
        obtain⟨z,hz,⟨b1,XO,d1,d2,d3⟩⟩:=je (body:=mc) (λx=>∃ (b:Int) (j:Nat),x=(t,b,(k:Int),(j:Int))/\j<=u.attrs.length/\0<=b/\b<=8001/\(b<=4000->u.text.length<=4000/\∀ (i:Nat) (a:Attr),i<j->u.attrs[i]?=some a->a.val.length<=4000)) (λ_ y=>∃ b:Int,y=(t,b,(k:Int))/\0<=b/\b<=8001/\(b<=4000->u.text.length<=4000/\∀ (i:Nat) (a:Attr),u.attrs[i]?=some a->a.val.length<=4000)) (λx=>((u.attrs.length:Int) - x.2.2.2).toNat) (λx hx=>by
         obtain⟨b2,j,rfl,hj,e1,e2,e3⟩:=hx;simp only [mc,aa,ad,hu,bind_some];split
         ·split
          ·rename_i h5 h6;obtain⟨a,ha⟩:=ay (l:=u.attrs) (k:=j) (by omega);rw [ha,bind_some,cD (n:=(j:Int)+1) (by omega) (by omega)];have nx:∀ m:Int,0<=m->m<=4001->(m<=4000->a.val.length<=4000)->(b2+m<=4000->u.text.length<=4000/\∀ (i:Nat) (a:Attr),i<j+1->u.attrs[i]?=some a->a.val.length<=4000):=λm m1 m2 m3 hm=>by
            obtain⟨g1,g2⟩:=e3 (by omega);refine⟨g1,λi a' hi IF=>?_⟩
            by_cases e:i=j
            ·subst e;rw [ha] at IF;cases IF;exact m3 (by omega)
            ·exact g2 i a' (by omega) IF
           split
           ·rw [cD (by omega) (by omega)];exact .inr ⟨_,rfl,⟨_,j+1,rfl,by omega,by omega,by omega,nx 4001 (by omega) (by omega) (by omega)⟩,by simp only;omega,λ_ h=>h⟩
           ·rw [cD (by omega) (by omega)];exact .inr ⟨_,rfl,⟨_,j+1,rfl,by omega,by omega,by omega,nx _ (by omega) (by omega) (by omega)⟩,by simp only;omega,λ_ h=>h⟩
          ·exact .inl ⟨_,rfl,_,rfl,e1,e2,λh=>by omega⟩
         ·have:j=u.attrs.length:=by omega
          subst this;exact .inl ⟨_,rfl,_,rfl,e1,e2,λh=>⟨(e3 h).1,λi a ha=>(e3 h).2 i a (List.getElem?_eq_some_iff.1 ha).1 ha⟩⟩) (t,b0,(k:Int),(0:Int)) ⟨b0,0,rfl,Nat.zero_le _,c1,c2,λh=>⟨c3 h,λi a hi=>by omega⟩⟩
        rw [hz,bind_some,XO];simp only;split
        ·exact .inl ⟨_,rfl,(λh=>by cases h),λb h=>by cases h;rfl⟩
        ·rename_i h4;obtain⟨r,hr,yQ⟩:=Fs t (by omega) hf g5 hu;rw [hr,bind_some,pk,cD (n:=(k:Int)+1) (by omega) (by omega)];cases r
         ·exact .inl ⟨_,rfl,(λh=>by cases h),λb h=>by cases h;rfl⟩
         ·refine .inr ⟨_,rfl,⟨b1,k+1,rfl,by omega,by omega,by omega,λj u' hj JB=>?_⟩,by simp only;omega,λ_ h=>h⟩
          by_cases e:j=k
          ·subst e;rw [hu] at JB;cases JB;exact⟨yQ rfl,d3 (by omega)⟩
          ·exact hrn j u' (by omega) JB
       ·rename_i h3;refine .inl ⟨_,rfl,(λ_ j u hu=>hrn j u ?_ hu),λb h=>by cases h⟩
        have:=(List.getElem?_eq_some_iff.1 hu).1
        omega) (t,(0:Int),(0:Int)) ⟨0,0,rfl,Nat.zero_le _,by omega,by omega,λj u hj=>by omega⟩
      rw [hy,bind_some];rcases y with w | b
      ·exact⟨_,rfl,λ_=>⟨by omega,by omega,qF,g5,⟨v,hv,by omega⟩,λj u hu=>(q1 rfl j u hu).1,λj u hu=>(q1 rfl j u hu).2⟩⟩
      ·obtain rfl:=q2 b rfl;exact⟨_,rfl,λh=>by cases h⟩
def X9 (t:List Node)(i:Nat):Int:=match t[i]? with
 | some v=>v.kind
 | none=>0
def elems (t:List Node)(a:Nat):List Nat:=(cZ t a).filter λc=>X9 t c == 3
def nE (a:Attr):cr:=⟨[],a.key,a.val⟩
def base (v:Node):HN :=
 if v.kind=1 then ⟨none,none,none,none,none,2,0,[],[],[]⟩
 else if v.kind=2 then ⟨none,none,none,none,none,5,0,v.text,[],[]⟩
 else if v.kind=4 then ⟨none,none,none,none,none,1,0,v.text,[],[]⟩
 else if v.kind=5 then ⟨none,none,none,none,none,4,0,v.text,[],[]⟩
 else ⟨none,none,none,none,none,3,0,v.tag,[],v.attrs.map nE⟩
theorem Pn (v:Node)(hs:List HN)(ha:v.attrs.length<=2147483647):me (v,hs)=some (some hs.length,hs++[base v]):=by
 simp only [me,aa,base];split
 ·rfl
 split
 ·rfl
 split
 ·rfl
 split
 ·rfl
 have key:∀ m k,v.attrs.length - k=m->k<=v.attrs.length->ab jf (some hs.length,v.attrs,(v.attrs.length:Int),(k:Int),hs++[⟨none,none,none,none,none,3,0,v.tag,[],(v.attrs.take k).map nE⟩])=some (some hs.length,hs++[⟨none,none,none,none,none,3,0,v.tag,[],v.attrs.map nE⟩]):=by
  intro m
  induction m with
  | zero =>
   intro k hm hk;refine ae ?_;simp only [jf,aa];rw [if_neg (by omega),List.take_of_length_le (by omega)]
  | succ m ih =>
   intro k hm hk;obtain⟨a,hA⟩:=ay (l:=v.attrs) (k:=k) (by omega);have hg:∀ e:HN,(hs++[e])[hs.length]?=some e:=λe=>by simp
   have step:jf (some hs.length,v.attrs,(v.attrs.length:Int),(k:Int),hs++[⟨none,none,none,none,none,3,0,v.tag,[],(v.attrs.take k).map nE⟩])=some (.nx (some hs.length,v.attrs,(v.attrs.length:Int),((k+1:Nat):Int),hs++[⟨none,none,none,none,none,3,0,v.tag,[],(v.attrs.take (k+1)).map nE⟩])):=by
    simp only [jf,aa,ad];rw [if_pos (by omega),hA];simp only [bind_some,hg];rw [a6 (by simp;omega)];simp only [bind_some,hg,if_true];rw [cD (by omega) (by omega),List.set_append_right _ _ (Nat.le_refl _)];have e2:v.attrs.take (k+1)=v.attrs.take k++[a]:=by rw [List.take_add_one,hA];rfl
    rw [e2];simp [nE,HN.wa]
   rw [aj step];exact ih (k+1) (by omega) (by omega)
 have h:=key v.attrs.length 0 (by omega) (Nat.zero_le _);have h':ab jf (some hs.length,v.attrs,(v.attrs.length:Int),(0:Int),hs++[⟨none,none,none,none,none,3,0,v.tag,[],[]⟩])=_:=h;rw [h',bind_some]
theorem HQ {S:List HN}{p c:Nat}{hp hc:HN}(eH:p≠c)(h1:S[p]?=some hp)(h2:S[c]?=some hc)(g1:hc.par=none)(g2:hc.aY=none)(g3:hc.aX=none)(g4:hp.aB=none) :
  aN (some p,some c,S)=some ((S.set p { hp with fst:=some c,aB:=some c }).set c { hc with par:=some p,aY:=none }):=by
 obtain⟨hlp,e1⟩:=List.getElem?_eq_some_iff.1 h1;obtain⟨hlc,e2⟩:=List.getElem?_eq_some_iff.1 h2;simp only [aN,bind_some,h1,h2,g1,g2,g3,g4,Option.isNone_none,Bool.not_true,cond_false];simp [List.getElem?_set,hlp,hlc,eH,eH.symm,h2,List.set_set,g4,e1,e2,g1,g2,g3]
theorem HR {S:List HN}{p c l:Nat}{hp hc hl:HN}(eH:p≠c)(X_:l≠p)(Ya:l≠c)(h1:S[p]?=some hp)(h2:S[c]?=some hc)(h3:S[l]?=some hl)(g1:hc.par=none)(g2:hc.aY=none)(g3:hc.aX=none)(g4:hp.aB=some l) :
  aN (some p,some c,S)=some (((S.set l { hl with aX:=some c }).set p { hp with aB:=some c }).set c { hc with par:=some p,aY:=some l }):=by
 obtain⟨hlp,e1⟩:=List.getElem?_eq_some_iff.1 h1;obtain⟨hlc,e2⟩:=List.getElem?_eq_some_iff.1 h2;obtain⟨Gw,e3⟩:=List.getElem?_eq_some_iff.1 h3;simp only [aN,bind_some,h1,h2,g1,g2,g3,g4,Option.isNone_none,Bool.not_true,cond_false,Option.isNone_some,Bool.not_false,cond_true,h3];simp [List.getElem?_set,hlp,hlc,Gw,eH,eH.symm,X_,X_.symm,Ya,Ya.symm,h1,h2,h3,List.set_set,g4,e1,e2,e3,g1,g2,g3]
def kz (t:List Node)(p:Nat):Nat->Option Nat
 | 0=>none
 | e+1=>if par t e=some p then some e else kz t p e
theorem oO {t:List Node}{p c:Nat}:∀ {e:Nat},kz t p e=some c->c<e/\par t c=some p/\∀ c',c<c'->c'<e->par t c'≠some p
 | 0,h=>by cases h
 | e+1,h=>by
  simp only [kz] at h
  split at h
  ·cases h;exact⟨by omega,by assumption,λc' h1 h2=>by omega⟩
  ·rename_i hn;obtain⟨h1,h2,h3⟩:=oO h;refine⟨by omega,h2,λc' g1 g2=>?_⟩
   by_cases e':c'=e
   ·subst e';exact hn
   ·exact h3 c' g1 (by omega)
theorem Ce {t:List Node}{p:Nat}:∀ {e:Nat},kz t p e=none->∀ c,c<e->par t c≠some p
 | 0,_,c,hc=>by omega
 | e+1,h,c,hc=>by
  simp only [kz] at h
  split at h
  ·cases h
  ·rename_i hn
   by_cases e':c=e
   ·subst e';exact hn
   ·exact Ce h c (by omega)
theorem th {t:List Node}{p e:Nat}:∀ {e':Nat},e<=e'->(∀ c,e<=c->c<e'->par t c≠some p)->kz t p e'=kz t p e
 | 0,h,_=>by
  have:e=0:=by omega
  subst this;rfl
 | e'+1,h,hc=>by
  by_cases h2:e=e'+1
  ·subst h2;rfl
  ·simp only [kz];rw [if_neg (hc e' (by omega) (by omega))];exact th (by omega) λc g1 g2=>hc c g1 (by omega)
theorem Cf {t:List Node}{p c:Nat}{e:Nat}(h1:c<e)(h2:par t c=some p)(h3:∀ c',c<c'->c'<e->par t c'≠some p):kz t p e=some c:=by rw [th (e:=c+1) (by omega) λc' g1 g2=>h3 c' (by omega) g2];simp [kz,h2]
def Dm (t:List Node)(i e:Nat):Option Nat:=match par t i with
 | some p=>if i+sz t i<e/\i+sz t i<p+sz t p then some (i+sz t i) else none
 | none=>none
def Po (t:List Node)(i:Nat):Option Nat:=match par t i with
 | some p=>kz t p i
 | none=>none
def yS (t:List Node)(i:Nat):HN:=match t[i]? with
 | some v=>base v
 | none=>base ⟨0,[],[],[],0⟩
def rc (t:List Node)(a e i:Nat):HN :=
 ⟨if i=a then none else par t i,if i+1<e/\1<sz t i then some (i+1) else none,kz t i e,if i=a then none else Po t i,if i=a then none else Dm t i e,(yS t i).ty,(yS t i).atom,(yS t i).data,(yS t i).ns,(yS t i).attrs⟩
def pD (l:List (Option Nat))(a e:Nat):List (Option Nat):=l.mapIdx λi x=>if a<=i/\i<e then some i else x
theorem oP {l:List (Option Nat)}{a e i:Nat}:(pD l a e)[i]?=(l[i]?).map λx=>if a<=i/\i<e then some i else x:=by simp [pD,List.getElem?_mapIdx]
theorem MC {l:List (Option Nat)}{a e:Nat}:(pD l a e).length=l.length:=by simp [pD]
def xS (t:List Node)(a e:Nat):List HN:=(List.range' a (e - a)).map (rc t a e)
theorem vG {t:List Node}{a e:Nat}:(xS t a e).length=e - a:=by simp [xS]
theorem KT {t:List Node}{a e i:Nat}(h:i<e - a):(xS t a e)[i]?=some (rc t a e (a+i)):=by unfold xS;rw [List.getElem?_map,List.getElem?_range' h];simp
theorem oX {hs:List HN}{t:List Node}{a e i:Nat}(hl:hs.length=a)(h1:a<=i)(h2:i<e):(hs++xS t a e)[i]?=some (rc t a e i):=by
 rw [List.getElem?_append_right (by omega),KT (by omega)]
 congr 2
 omega
section
variable {t:List Node}{a k l i:Nat}
def Ch (t:List Node)(a k:Nat):Prop:=∀ q,a<q->q<k->q+sz t q<=k
theorem Ch.par (h:Ch t a k)(h1:a<k)(h2:k<a+sz t a):par t k=some a:=Vw h1 h2 λq g1 g2=>by have:=h q g1 g2;omega
theorem Ch.Pp (h:V.par t k=some a):Ch t a k:=λq g1 g2=>by have:=(fO h).2.2 q g1 g2;omega
theorem Ch.next (hL:qv t a (a+sz t a))(h:Ch t a k)(h1:a<k)(h2:k<a+sz t a):Ch t a (k+sz t k):=λq g1 g2=>by
 obtain⟨v,_,_,hk,_⟩:=hL.ok k (by omega) h2
 by_cases e:q<k
 ·have:=h q g1 e;omega
 ·by_cases e2:q=k
  ·subst e2;omega
  ·exact hL.nest k q (by omega) h2 (by omega) g2
theorem Vz (hL:qv t a (a+sz t a))(h1:a<i)(h2:i<a+sz t a):∃ p,par t i=some p/\a<=p/\p<i:=by
 cases h:par t i with
 | none=>have:=D9 h a h1;omega
 | some p =>
  obtain⟨g1,g2,g3⟩:=fO h;refine⟨p,rfl,?_,g1⟩;rcases Nat.lt_or_ge p a with h4 | h4
  ·exact absurd (by omega) (g3 a h4 h1)
  ·exact h4
theorem Pq (hL:qv t a (a+sz t a))(h:Ch t a k)(h2:k<=a+sz t a)(hl:kz t a k=some l):a<l/\l<k/\l+sz t l=k:=by
 obtain⟨g1,g2,g3⟩:=oO hl;obtain⟨g4,g5,_⟩:=fO g2;refine⟨g4,g1,?_⟩;have h3:=h l g4 g1;rcases Nat.lt_or_ge (l+sz t l) k with h4 | h4
 ·obtain⟨v,_,_,hk,_⟩:=hL.ok l (by omega) g5;have hc:=(Ch.Pp g2).next hL g4 g5;exact absurd (hc.par (by omega) (by omega)) (g3 _ (by omega) h4)
 ·omega
theorem MD (hL:qv t a (a+sz t a))(h1:a<k)(h2:k<=a+sz t a)(hl:kz t a k=none):k=a+1:=by
 rcases Nat.lt_or_ge (a+1) k with h4 | h4
 ·have hc:Ch t a (a+1):=λq g1 g2=>by omega
  exact absurd (hc.par (by omega) (by omega)) (Ce hl _ h4)
 ·omega
theorem Yb (hL:qv t a (a+sz t a))(hC:Ch t a k)(h1:a<k)(h2:k<a+sz t a)(hi:a<i)(U0:i<k)(hl:kz t a k≠some i):rc t a (k+sz t k) i=rc t a k i:=by
 have Bf:=hC i hi U0;obtain⟨v,_,_,hk,_⟩:=hL.ok k (by omega) h2;unfold rc;have e1:kz t i (k+sz t k)=kz t i k:=th (by omega) λc g1 g2 e=>by have:=(fO e).2.1;omega
 have e2:(i+1<k+sz t k/\1<sz t i)=(i+1<k/\1<sz t i):=by
  apply propext;constructor
  ·rintro ⟨_,g⟩;exact⟨by omega,g⟩
  ·rintro ⟨g0,g⟩;exact⟨by omega,g⟩
 have e3:Dm t i (k+sz t k)=Dm t i k:=by
  unfold Dm;obtain⟨p,hp,DQ,Mw⟩:=Vz hL hi (by omega);rw [hp];simp only
  have:(i+sz t i<k+sz t k/\i+sz t i<p+sz t p)=(i+sz t i<k/\i+sz t i<p+sz t p):=by
   apply propext;constructor
   ·rintro ⟨_,g⟩
    refine⟨?_,g⟩;rcases Nat.lt_or_ge (i+sz t i) k with h4 | h4
    ·exact h4
    ·exfalso
     have adJ:i+sz t i=k:=by omega
     have KU:p=a:=by
      rcases Nat.lt_or_ge a p with h5 | h5
      ·have:=hC p h5 (by omega);omega
      ·omega
     subst KU;refine hl (Cf U0 hp λc' g1 g2 e=>?_);exact (fO e).2.2 i (by omega) g1 (by omega)
   ·rintro ⟨g0,g⟩;exact⟨by omega,g⟩
  simp only [this]
 rw [e1,e3];simp only [e2]
end
theorem R3 {t:List Node}{a k:Nat}{hs:List HN}(Nz:hs.length=a)(hL:qv t a (a+sz t a))(hC:Ch t a k)(h1:a<k)(h2:k<a+sz t a) :
  aN (some a,some k,(hs++xS t a k)++xS t k (k+sz t k))=some (hs++xS t a (k+sz t k)):=by
 obtain⟨v,hv,Nx,rG,Nw⟩:=hL.ok k (by omega) h2;have vH:(hs++xS t a k).length=k:=by rw [List.length_append,vG];omega
 have gk:∀ i,k<=i->i<k+sz t k->((hs++xS t a k)++xS t k (k+sz t k))[i]?=some (rc t k (k+sz t k) i):=λi g1 g2=>oX vH g1 g2
 have ga:∀ i,a<=i->i<k->((hs++xS t a k)++xS t k (k+sz t k))[i]?=some (rc t a k i):=λi g1 g2=>by rw [List.getElem?_append_left (by omega)];exact oX Nz g1 g2
 have gh:∀ i,i<a->((hs++xS t a k)++xS t k (k+sz t k))[i]?=hs[i]?:=λi g=>by rw [List.getElem?_append_left (by omega),List.getElem?_append_left (by omega)]
 have go:∀ i,k+sz t k<=i->((hs++xS t a k)++xS t k (k+sz t k))[i]?=none:=λi g=>List.getElem?_eq_none (by rw [List.length_append,vH,vG];omega)
 have gh':∀ i,i<a->(hs++xS t a (k+sz t k))[i]?=hs[i]?:=λi g=>List.getElem?_append_left (by omega)
 have go':∀ i,k+sz t k<=i->(hs++xS t a (k+sz t k))[i]?=none:=λi g=>List.getElem?_eq_none (by rw [List.length_append,vG];omega)
 have Ws:=hC.par h1 h2;have tF:(rc t k (k+sz t k) k).par=none:=by simp [rc]
 have o8:(rc t k (k+sz t k) k).aY=none:=by simp [rc]
 have KA:(rc t k (k+sz t k) k).aX=none:=by simp [rc]
 have hnk:Dm t k (k+sz t k)=none:=by unfold Dm;rw [Ws];simp
 have Y0:kz t a (k+sz t k)=some k:=Cf (by omega) Ws λc g1 g2 e=>(fO e).2.2 k h1 g1 (by omega)
 have Hq:∀ i,k<i->i<k+sz t k->rc t k (k+sz t k) i=rc t a (k+sz t k) i:=λi g1 g2=>by unfold rc;simp only [if_neg (show ¬ i=k by omega),if_neg (show ¬ i=a by omega)]
 generalize hS:(hs++xS t a k)++xS t k (k+sz t k)=S at *;have hlen:S.length=k+sz t k:=by rw [<- hS,List.length_append,vH,vG];omega
 cases hl:kz t a k with
 | none =>
  obtain rfl:=MD hL h1 (by omega) hl;rw [HQ (by omega) (ga a (Nat.le_refl _) (by omega)) (gk (a+1) (Nat.le_refl _) (by omega)) tF o8 KA (by simp [rc,hl])]
  congr 1
  apply List.ext_getElem?;intro i;rw [List.getElem?_set,List.getElem?_set];simp only [List.length_set,hlen]
  by_cases e1:a+1=i
  ·subst e1;rw [if_pos rfl,if_pos (by omega),oX Nz (by omega) (by omega)]
   congr 1
   unfold rc;simp only [Ws,Po,hl,hnk];simp
  ·rw [if_neg e1]
   by_cases e2:a=i
   ·subst e2;rw [if_pos rfl,if_pos (by omega),oX Nz (by omega) (by omega)]
    congr 1
    unfold rc;rw [Y0]
    have:1<sz t a:=by omega
    simp [this];omega
   ·rw [if_neg e2];rcases Nat.lt_or_ge i a with g | g
    ·rw [gh i g,gh' i g]
    ·rcases Nat.lt_or_ge i (a+1+sz t (a+1)) with g2 | g2
     ·rw [gk i (by omega) g2,oX Nz (by omega) g2,Hq i (by omega) g2]
     ·rw [go i g2,go' i g2]
 | some l =>
  obtain⟨l1,l2,l3⟩:=Pq hL hC (by omega) hl;obtain⟨l4,l5,_⟩:=oO hl;rw [HR (by omega) (by omega) (by omega) (ga a (Nat.le_refl _) (by omega)) (gk k (Nat.le_refl _) (by omega)) (ga l (by omega) l2) tF o8 KA (by simp [rc,hl])]
  congr 1
  apply List.ext_getElem?;intro i;rw [List.getElem?_set,List.getElem?_set,List.getElem?_set];simp only [List.length_set,hlen]
  by_cases e1:k=i
  ·subst e1;rw [if_pos rfl,if_pos (by omega),oX Nz (by omega) (by omega)]
   congr 1
   unfold rc;simp only [if_neg (show ¬ k=a by omega),Ws,Po,hl,hnk];simp
  ·rw [if_neg e1]
   by_cases e2:a=i
   ·subst e2;rw [if_pos rfl,if_pos (by omega),oX Nz (by omega) (by omega)]
    congr 1
    unfold rc;rw [Y0]
    have:1<sz t a:=by omega
    have h3:a+1<k:=by omega
    have h4:a+1<k+sz t k:=by omega
    simp [this,h3,h4]
   ·rw [if_neg e2]
    by_cases e3:l=i
    ·subst e3;rw [if_pos rfl,if_pos (by omega),oX Nz (by omega) (by omega)]
     congr 1
     have hn:Dm t l (k+sz t k)=some k:=by unfold Dm;rw [l5];simp only;rw [if_pos ⟨by omega,by omega⟩,l3]
     have q1:kz t l (k+sz t k)=kz t l k:=th (by omega) λc g1 g2 e=>by have:=(fO e).2.1;omega
     have q2:(l+1<k+sz t k/\1<sz t l)=(l+1<k/\1<sz t l):=by
      apply propext;constructor
      ·rintro ⟨_,g⟩;exact⟨by omega,g⟩
      ·rintro ⟨g0,g⟩;exact⟨by omega,g⟩
     unfold rc;rw [hn,q1];simp only [q2,if_neg (show ¬ l=a by omega)]
    ·rw [if_neg e3];rcases Nat.lt_or_ge i a with g | g
     ·rw [gh i g,gh' i g]
     ·rcases Nat.lt_or_ge i k with g1 | g1
      ·rw [ga i g g1,oX Nz g (by omega),Yb hL hC h1 h2 (by omega) g1 (by rw [hl];intro e;cases e;exact e3 rfl)]
      ·rcases Nat.lt_or_ge i (k+sz t k) with g2 | g2
       ·rw [gk i g1 g2,oX Nz g g2,Hq i (by omega) g2]
       ·rw [go i g2,go' i g2]
theorem R4 (t:List Node)(ht:t.length<=1000000)(mC:∀ (i:Nat) (v:Node),t[i]?=some v->v.attrs.length<=2147483647):∀ (n a:Nat) (l:List (Option Nat)) (hs:List HN),sz t a<=n->qv t a (a+sz t a)->1<=sz t a->a+sz t a<=t.length->l.length=t.length->hs.length=a ->
  cL n (t,(a:Int),l,hs)=some (pD l a (a+sz t a),hs++xS t a (a+sz t a)):=by
 intro n
 induction n with
 | zero=>intro a l hs h1 _ h2;omega
 | succ n ih =>
  intro a l hs hn hL qQ Yc hl Nz;obtain⟨v,hv,Nx,_,_⟩:=hL.ok a (Nat.le_refl _) (by omega);obtain⟨x,hx⟩:=ay (l:=l) (k:=a) (by omega);simp only [cL,Ab,ad,Int.toNat_natCast];rw [hv,bind_some,show me ({ kind:=v.kind,tag:=v.tag,text:=v.text,attrs:=v.attrs,size:=v.size },hs)=_ from Pn v hs (mC a v hv),bind_some,hx];simp only [bind_some];rw [cD (n:=(a:Int)+1) (by omega) (by omega)];have key:∀ m k,a+sz t a - k=m->a<k->k<=a+sz t a->Ch t a k->ab (jT (cL n)) (t,(a:Int),pD l a k,(k:Int),hs++xS t a k)=some (pD l a (a+sz t a),hs++xS t a (a+sz t a)):=by
   intro m
   induction m using Nat.strongRecOn with
   | ind m ihm =>
    intro k hm g1 g2 hC
    by_cases hk:k<a+sz t a
    ·obtain⟨u,hu,Vy,hu1,Zh⟩:=hL.ok k (by omega) hk;have Wt:=hL.sub (i:=k) (by omega) hk;have R5:=ih k (pD l a k) (hs++xS t a k) (by omega) Wt hu1 (by omega) (by rw [MC,hl]) (by rw [List.length_append,vG];omega);have R6:pD (pD l a k) k (k+sz t k)=pD l a (k+sz t k):=by
      apply List.ext_getElem?;intro i;rw [oP,oP,oP,Option.map_map]
      congr 1
      funext y;simp only [Function.comp]
      by_cases c1:k<=i/\i<k+sz t k
      ·rw [if_pos c1,if_pos ⟨by omega,c1.2⟩]
      ·rw [if_neg c1]
       by_cases c2:a<=i/\i<k
       ·rw [if_pos c2,if_pos ⟨c2.1,by omega⟩]
       ·rw [if_neg c2,if_neg (by omega)]
     have ga:(pD l a (k+sz t k))[a]?=some (some a):=by rw [oP,hx];simp;omega
     obtain⟨y,hy⟩:=ay (l:=l) (k:=k) (by omega);have gk:(pD l a (k+sz t k))[k]?=some (some k):=by rw [oP,hy];simp;omega
     have step:jT (cL n) (t,(a:Int),pD l a k,(k:Int),hs++xS t a k)=some (.nx (t,(a:Int),pD l a (k+sz t k),((k+sz t k:Nat):Int),hs++xS t a (k+sz t k))):=by simp only [jT,aa,ad,Int.toNat_natCast];rw [hv,bind_some,Nx,cD (n:=(a:Int)+(sz t a:Int)) (by omega) (by omega),if_pos (by omega),R5,bind_some];simp only;rw [R6,ga,bind_some,bind_some,gk,bind_some,bind_some,R3 Nz hL hC g1 hk,bind_some,hu,bind_some,Vy,cD (n:=(k:Int)+(sz t k:Int)) (by omega) (by omega)];rfl
     rw [aj step];exact ihm (a+sz t a - (k+sz t k)) (by omega) (k+sz t k) rfl (by omega) (by omega) (hC.next hL g1 hk)
    ·have:k=a+sz t a:=by omega
     subst this;refine ae ?_;simp only [jT,aa,ad];rw [hv,bind_some,Nx,cD (n:=(a:Int)+(sz t a:Int)) (by omega) (by omega),if_neg (by omega)]
  have h:=key _ (a+1) rfl (by omega) (by omega) (λq g1 g2=>by omega);have e1:l.set a (some hs.length)=pD l a (a+1):=by
   apply List.ext_getElem?;intro i;rw [oP,List.getElem?_set]
   by_cases c:a=i
   ·subst c;rw [if_pos rfl,if_pos (by omega),hx,Nz];simp
   ·rw [if_neg c];cases l[i]? with
    | none=>rfl
    | some z=>simp;omega
  have e2:[base v]=xS t a (a+1):=by
   have Hh:kz t a (a+1)=none:=by
    cases h3:kz t a (a+1) with
    | none=>rfl
    | some c =>
     obtain⟨q1,q2,_⟩:=oO h3
     have:=(fO q2).1
     omega
   have iC:a+1 - a=1:=by omega
   have hb:base v=⟨none,none,none,none,none,(base v).ty,(base v).atom,(base v).data,(base v).ns,(base v).attrs⟩:=by
    unfold base
    repeat' split
    all_goals rfl
   rw [hb];simp [xS,iC,rc,yS,hv,Hh]
  have e3:((a:Int)+1)=((a+1:Nat):Int):=by omega
  rw [e1,e2,e3,h,bind_some]
def store (t:List Node):List HN:=xS t 0 t.length
def zz (t:List Node):List (Option Nat):=(List.range t.length).map some
theorem R7 (t:List Node)(ht:t.length<=1000000)(hn:∀ i v,t[i]?=some v->RN t i v):∀ (n a e:Nat),1<=a->a<=e->e - a<n->qv t a e->e<=t.length->bT n (t,(a:Int),(e:Int))=some true:=by
 intro n
 induction n with
 | zero=>intro a e _ _ h;omega
 | succ n ih =>
  intro a e ha hae eH hL he;simp only [bT,Aa];have key:∀ m k,e - k=m->a<=k->k<=e->qv t k e->ab (jR (bT n)) (t,(k:Int),(e:Int))=some (.inl ()):=by
   intro m
   induction m using Nat.strongRecOn with
   | ind m ihm =>
    intro k hm g1 g2 Wt
    by_cases hk:k<e
    ·obtain⟨v,hv,Nx,hv1,hv2⟩:=Wt.ok k (Nat.le_refl _) hk;have hr:=hn k v hv;have hs:=Wt.sub (i:=k) (Nat.le_refl _) hk;have xm:qv t (k+1) (k+sz t k):=⟨λi h1 h2=>hs.ok i (by omega) h2,λi j h1 h2=>hs.nest i j (by omega) h2⟩;have iC:=ih (k+1) (k+sz t k) (by omega) (by omega) (by omega) xm (by omega);have hLn:qv t (k+sz t k) e:=⟨λi h1 h2=>Wt.ok i (by omega) h2,λi j h1 h2=>Wt.nest i j (by omega) h2⟩;have rG:v.kind≠1:=λh=>by have:=hr.k1 h;omega
     have JC:=hr.kd;have step:jR (bT n) (t,(k:Int),(e:Int))=some (.nx (t,((k+sz t k:Nat):Int),(e:Int))):=by
      simp only [jR,aa,ad];rw [if_pos (by omega),hv,bind_some,Nx,cD (n:=(e:Int) - (k:Int)) (by omega) (by omega),if_neg (by omega),if_neg (by omega),if_neg (by omega),if_neg (by omega),cD (n:=(k:Int)+1) (by omega) (by omega),cD (n:=(k:Int)+(sz t k:Int)) (by omega) (by omega)];have hc:bT n (t,(k:Int)+1,(k:Int)+(sz t k:Int))=some true:=iC;rw [hc];simp only [bind_some]
      by_cases h3:v.kind≠3
      ·have:=hr.k2 h3 rG
       rw [if_pos h3,if_neg (by omega)];rfl
      ·rw [if_neg h3];rfl
     rw [aj step];exact ihm (e - (k+sz t k)) (by omega) (k+sz t k) rfl (by omega) (by omega) hLn
    ·refine ae ?_;simp only [jR,aa];rw [if_neg (by omega)]
  rw [key _ a rfl (Nat.le_refl _) hae hL,bind_some];rfl
theorem Pr (t:List Node)(hR:RT t):qk t=some true:=by obtain⟨v,hv,hk⟩:=hR.k0;obtain⟨u,hu,Vy,_,_⟩:=hR.lam.ok 0 (Nat.le_refl _) hR.pos;rw [hv] at hu;cases hu;have h1:=hR.pos;have h2:=hR.len;have h3:=hR.root;simp only [qk,aa,pj];rw [if_neg (by omega),hv];simp only [bind_some];rw [if_neg (by omega),if_pos hk,show bT lY (t,(1:Int),(t.length:Int))=some true from R7 t (by omega) hR.node lY 1 t.length (Nat.le_refl _) (by omega) (by unfold lY;omega) ⟨λi h1 h2=>hR.lam.ok i (by omega) h2,λi j h1 h2=>hR.lam.nest i j (by omega) h2⟩ (Nat.le_refl _)];rfl
theorem Ps (t:List Node)(hf:w8 t=true)(hR:RT t):ql (t,[])=some (zz t,true,store t):=by
 have h1:=hR.pos;have h2:=hR.len;have h3:=hR.root;have hL:qv t 0 (0+sz t 0):=by rw [h3,Nat.zero_add];exact hR.lam
 have mC:∀ (i:Nat) (v:Node),t[i]?=some v->v.attrs.length<=2147483647:=λi v hv=>by
  have:=(zx hf hv).2.2
  simp only [w7,Bool.and_eq_true,decide_eq_true_eq] at this;exact this.1
 have h:=R4 t (by omega) mC lY 0 (List.replicate t.length none) [] (by unfold lY;omega) hL (by omega) (by omega) (by simp) rfl;simp only [ql,Pr t hR,bind_some,pk,aa];rw [if_pos trivial,if_pos ⟨by omega,by omega,by omega⟩,Int.toNat_natCast,show cL lY (t,(0:Int),List.replicate t.length none,[])=_ from h,bind_some];have e:pD (List.replicate t.length none) 0 (0+sz t 0)=zz t:=by
  apply List.ext_getElem?;intro i;rw [oP,List.getElem?_replicate];unfold zz;rw [List.getElem?_map]
  by_cases hi:i<t.length
  ·rw [List.getElem?_range hi,if_pos hi,Option.map_some,if_pos ⟨Nat.zero_le _,by omega⟩];rfl
  ·rw [List.getElem?_eq_none (l:=List.range t.length) (by simp;omega),if_neg hi];rfl
 rw [e];simp [store,h3]
theorem ME {t:List Node}{i:Nat}(h:i<t.length):(store t)[i]?=some (rc t 0 t.length i):=by
 have:=KT (t:=t) (a:=0) (e:=t.length) (i:=i) (by omega)
 rwa [Nat.zero_add] at this
theorem HS {t:List Node}{i:Nat}(h:i<t.length):(zz t)[i]?=some (some i):=by unfold zz;rw [List.getElem?_map,List.getElem?_range h];rfl
theorem VA {t:List Node}{e i:Nat}:(rc t 0 e i).par=par t i:=by
 simp only [rc]
 by_cases h:i=0
 ·subst h;simp [par,zw]
 ·rw [if_neg h]
theorem Cg {t:List Node}{hi:Nat}:∀ {f k:Nat},hi<=k+f->(jr t f k hi)[0]?=if k<hi then some k else none
 | 0,k,h=>by rw [if_neg (by omega)];rfl
 | f+1,k,h=>by
  simp only [jr]
  split <;> rfl
theorem Ci {t:List Node}{lo hi:Nat}(hL:qv t lo hi):∀ {f k j c:Nat},lo<=k->hi<=k+f->(jr t f k hi)[j]?=some c->(jr t f k hi)[j+1]?=if c+sz t c<hi then some (c+sz t c) else none
 | 0,k,j,c,_,h,hc=>by simp [jr] at hc
 | f+1,k,j,c,hk,h,hc=>by
  simp only [jr] at hc ⊢
  split at hc
  ·rename_i jC;rw [if_pos jC];obtain⟨_,_,_,h1,_⟩:=hL.ok k hk jC;cases j with
   | zero =>
    simp only [List.getElem?_cons_zero,Option.some.injEq] at hc;subst hc;rw [List.getElem?_cons_succ];exact Cg (by omega)
   | succ j =>
    rw [List.getElem?_cons_succ] at hc ⊢;exact Ci hL (by omega) (by omega) hc
  ·simp at hc
theorem yu {t:List Node}{lo hi:Nat}(hL:qv t lo hi):∀ {f k:Nat},lo<=k->(jr t f k hi).Pairwise (·<·)
 | 0,k,_=>List.Pairwise.nil
 | f+1,k,hk=>by
  simp only [jr];split
  ·rename_i jC;obtain⟨_,_,_,h1,_⟩:=hL.ok k hk jC;refine List.Pairwise.cons (λc hc=>?_) (yu hL (by omega))
   have:=(zy hL (by omega) hc).1
   omega
  ·exact List.Pairwise.nil
section
variable {t:List Node}{p:Nat}
theorem Ch.one:Ch t p (p+1):=λq g1 g2=>by omega
theorem HT (hL:qv t p (p+sz t p)):∀ {f k c:Nat},p<k->Ch t p k->c∈jr t f k (p+sz t p)->par t c=some p
 | 0,k,c,_,_,hc=>by simp [jr] at hc
 | f+1,k,c,hk,hC,hc=>by
  simp only [jr] at hc
  split at hc
  ·rename_i jC;obtain⟨_,_,_,h1,_⟩:=hL.ok k (by omega) jC;rcases List.mem_cons.1 hc with e | hc
   ·subst e;exact hC.par hk jC
   ·exact HT hL (by omega) (Ch.next hL hC hk jC) hc
  ·simp at hc
theorem HU (hL:qv t p (p+sz t p)){a:Nat}(ha:par t a=some p):∀ {f k:Nat},p<k->k<=a->p+sz t p<=k+f->a∈jr t f k (p+sz t p)
 | 0,k,hk,hka,hf=>by have:=(fO ha).2.1;omega
 | f+1,k,hk,hka,hf=>by
  have h2:=(fO ha).2.1;simp only [jr];rw [if_pos (by omega)]
  by_cases e:a=k
  ·subst e;exact List.mem_cons_self
  ·obtain⟨_,_,_,h1,_⟩:=hL.ok k (by omega) (by omega)
   have:=(Ch.Pp ha) k hk (by omega)
   exact List.mem_cons_of_mem _ (HU hL ha (by omega) this (by omega))
theorem sF (hL:qv t p (p+sz t p)){c:Nat}(hc:c∈cZ t p):par t c=some p:=HT hL (by omega) Ch.one hc
theorem tj (hL:qv t p (p+sz t p)){a:Nat}(ha:par t a=some p):a∈cZ t p:=HU hL ha (by omega) (fO ha).1 (by omega)
theorem rL (hL:qv t p (p+sz t p)):(cZ t p).Pairwise (·<·):=yu hL (by omega)
theorem rM (hL:qv t p (p+sz t p)){i j c d:Nat}(NX:i<j)(hc:(cZ t p)[i]?=some c)(hd:(cZ t p)[j]?=some d):c<d:=by
 obtain⟨h1,e1⟩:=List.getElem?_eq_some_iff.1 hc;obtain⟨h2,e2⟩:=List.getElem?_eq_some_iff.1 hd
 have:=List.pairwise_iff_getElem.1 (rL hL) i j h1 h2 NX
 omega
theorem R8 (hL:qv t p (p+sz t p)){e:Nat}(he:p+sz t p<=e):(rc t 0 e p).fst=(cZ t p)[0]?:=by
 have h0:(cZ t p)[0]?=_:=Cg (t:=t) (f:=sz t p) (k:=p+1) (hi:=p+sz t p) (by omega);rw [h0];simp only [rc]
 by_cases h:p+1<p+sz t p
 ·rw [if_pos h,if_pos ⟨by omega,by omega⟩]
 ·rw [if_neg h,if_neg (by omega)]
theorem R9 (hL:qv t p (p+sz t p)){e:Nat}(he:p+sz t p<=e){j c:Nat}(hc:(cZ t p)[j]?=some c):(rc t 0 e c).aX=(cZ t p)[j+1]?:=by
 have hp:=sF hL (List.mem_of_getElem? hc);have h1:=fO hp;have hn:(cZ t p)[j+1]?=_:=Ci (t:=t) (f:=sz t p) (k:=p+1) hL (by omega) (by omega) hc;rw [hn];simp only [rc,Dm,hp];rw [if_neg (by omega)]
 by_cases h:c+sz t c<p+sz t p
 ·rw [if_pos h,if_pos ⟨by omega,h⟩]
 ·rw [if_neg h,if_neg (by omega)]
theorem Ea (hL:qv t p (p+sz t p)){e c:Nat}(Xd:c<e)(hc:c∈cZ t p)(N5:∀ d∈cZ t p,d<e->d<=c):kz t p e=some c :=
 Cf Xd (sF hL hc) λd h1 h2 h3=>by have:=N5 d (tj hL h3) h2;omega
theorem R_ (hL:qv t p (p+sz t p)){e:Nat}(he:p+sz t p<=e):(rc t 0 e p).aB=(cZ t p)[(cZ t p).length - 1]?:=by
 simp only [rc];cases hK:(cZ t p)[(cZ t p).length - 1]? with
 | none =>
  have OE:(cZ t p).length=0:=by
   have:=List.getElem?_eq_none_iff.1 hK
   omega
  cases hl:kz t p e with
  | none=>rfl
  | some c =>
   have:=tj hL (oO hl).2.1
   rw [List.length_eq_zero_iff.1 OE] at this;cases this
 | some c =>
  have hm:=List.mem_of_getElem? hK;have h1:=fO (sF hL hm);refine Ea hL (by omega) hm λd hd _=>?_
  obtain⟨i,hi⟩:=List.mem_iff_getElem?.1 hd;have jC:=(List.getElem?_eq_some_iff.1 hi).1
  by_cases e:i=(cZ t p).length - 1
  ·subst e;rw [hi] at hK;cases hK;omega
  ·have:=rM hL (by omega:i<(cZ t p).length - 1) hi hK
   omega
theorem Sa (hL:qv t p (p+sz t p)){e:Nat}{j c:Nat}(hc:(cZ t p)[j]?=some c):(rc t 0 e c).aY=if j=0 then none else (cZ t p)[j - 1]?:=by
 have hp:=sF hL (List.mem_of_getElem? hc);have h1:=fO hp;have GA:=(List.getElem?_eq_some_iff.1 hc).1;simp only [rc,Po,hp];rw [if_neg (by omega)];have le:∀ d∈cZ t p,d<c->∃ i,i<j/\(cZ t p)[i]?=some d:=λd hd hdc=>by
  obtain⟨i,hi⟩:=List.mem_iff_getElem?.1 hd;refine⟨i,?_,hi⟩;rcases Nat.lt_trichotomy i j with h | h | h
  ·exact h
  ·subst h;rw [hi] at hc;cases hc;omega
  ·have:=rM hL h hc hi;omega
 split
 ·rename_i h0;cases hl:kz t p c with
  | none=>rfl
  | some d =>
   obtain⟨g1,g2,_⟩:=oO hl;obtain⟨i,hi,_⟩:=le d (tj hL g2) g1;omega
 ·rename_i h0;obtain⟨d,hd⟩:=ay (l:=cZ t p) (k:=j - 1) (by omega);rw [hd];refine Ea hL (rM hL (by omega) hd hc) (List.mem_of_getElem? hd) λx hx hxc=>?_
  obtain⟨i,hi,Bf⟩:=le x hx hxc
  by_cases e:i=j - 1
  ·subst e;rw [hd] at Bf;cases Bf;omega
  ·have:=rM hL (by omega:i<j - 1) Bf hd
   omega
end
def sb:List Nat->Nat->Option Nat
 | [],_=>none
 | a::l,c=>if a=c then l.head? else sb l c
def yv (l:List Nat)(c:Nat):Option Nat:=sb l.reverse c
section
variable {A B l:List Nat}{a b c j:Nat}
theorem zA (h:j∉A):sb (A++B) j=sb B j:=by
 induction A with
 | nil=>rfl
 | cons a A ih =>
  simp only [List.mem_cons,not_or] at h;simp only [List.cons_append,sb,if_neg (Ne.symm h.1),ih h.2]
theorem Ft (h:c∉A):sb (A++c::B) c=B.head?:=by rw [zA h];simp [sb]
theorem xE (h:j∈A)(hl:A.getLast?≠some j):sb (A++B) j=sb A j:=by
 induction A with
 | nil=>cases h
 | cons a A ih =>
  cases A with
  | nil =>
   simp only [List.mem_singleton] at h;subst h;simp at hl
  | cons b A =>
   simp only [List.cons_append,sb]
   by_cases e:a=j
   ·simp [e]
   ·simp only [if_neg e];rcases List.mem_cons.1 h with h | h
    ·exact absurd h.symm e
    ·exact ih h (by simpa [List.getLast?_cons_cons] using hl)
theorem Eb (hn:(A++[a]).Nodup):sb (A++[a]++B) a=B.head?:=by
 rw [List.append_assoc];refine Ft λh=>?_
 rw [List.nodup_append] at hn;exact hn.2.2 a h a (by simp) rfl
theorem zB (h:j∉A)(hj:j≠c):sb (A++c::B) j=sb (A++B) j:=by rw [zA h,zA h];simp [sb,Ne.symm hj]
theorem KV (h:c∉B):yv (A++c::B) c=A.getLast?:=by unfold yv;rw [List.reverse_append,List.reverse_cons,List.append_assoc];rw [show [c]++A.reverse=c::A.reverse from rfl,Ft (by simpa using h)];simp
theorem Cj (h:j∉B)(hj:j≠c):yv (A++c::B) j=yv (A++B) j:=by unfold yv;rw [List.reverse_append,List.reverse_cons,List.append_assoc,List.reverse_append];exact zB (by simpa using h) hj
theorem Ec (h:j∈B)(hl:B.head?≠some j):yv (A++B) j=yv B j:=by unfold yv;rw [List.reverse_append];exact xE (by simpa using h) (by simpa using hl)
theorem Ck (hn:(b::B).Nodup):yv (A++b::B) b=A.getLast?:=KV (List.nodup_cons.1 hn).1
theorem Pv (hj:j∈A)(hl:A.getLast?≠some j):sb (A++c::B) j=sb (A++B) j:=by rw [xE hj hl,xE hj hl]
theorem Pw (hj:j∈B)(hl:B.head?≠some j):yv (A++c::B) j=yv (A++B) j:=by rw [show A++c::B=(A++[c])++B by simp,Ec hj hl,Ec hj hl]
end
def Ed {α:Type}(m:Nat)(f:Nat->α):List α:=(List.range m).map f
def dq {α:Type}(f:Nat->α)(i:Nat)(v:α):Nat->α:=λj=>if j=i then v else f j
section
variable {α:Type}{m i j:Nat}{f g:Nat->α}{v:α}
theorem tm:(Ed m f).length=m:=by simp [Ed]
theorem dp (h:i<m):(Ed m f)[i]?=some (f i):=by simp [Ed,h]
theorem cz (h:i<m):(Ed m f).set i v=Ed m (dq f i v):=by
 apply List.ext_getElem?;intro j
 by_cases e:i=j
 ·subst e;rw [List.getElem?_set_self (by rw [tm];exact h),dp h];simp [dq]
 ·rw [List.getElem?_set_ne e]
  by_cases hj:j<m
  ·rw [dp hj,dp hj];simp [dq,Ne.symm e]
  ·rw [List.getElem?_eq_none (by rw [tm];omega),List.getElem?_eq_none (by rw [tm];omega)]
theorem gQ (h:∀ i,i<m->f i=g i):Ed m f=Ed m g:=by unfold Ed;exact List.map_congr_left λi hi=>h i (by simpa using hi)
theorem Cm:Ed m f++[v]=Ed (m+1) (dq f m v):=by
 unfold Ed;rw [List.range_succ,List.map_append]
 have:(List.range m).map f=(List.range m).map (dq f m v):=List.map_congr_left λi hi=>by
  have:i≠m:=by have:=List.mem_range.1 hi;omega
  simp [dq,this]
 rw [this];simp [dq]
theorem ao:dq f i v i=v:=by simp [dq]
theorem bJ (h:j≠i):dq f i v j=f j:=by simp [dq,h]
end
structure Fo where
 m:Nat
 up:Nat->Option Nat
 kids:Nat->List Nat
def Fo.a7 (F:Fo)(L:Nat->HN)(i:Nat):HN :=
 ⟨F.up i,(F.kids i).head?,(F.kids i).getLast?,(F.up i).bind λp=>yv (F.kids p) i,(F.up i).bind λp=>sb (F.kids p) i,(L i).ty,(L i).atom,(L i).data,(L i).ns,(L i).attrs⟩
def Fo.st (F:Fo)(L:Nat->HN):List HN:=Ed F.m (F.a7 L)
structure Fo.ok (F:Fo):Prop where
 iG:∀ {p c:Nat},c∈F.kids p->F.up c=some p/\c<F.m
 up:∀ {c p:Nat},F.up c=some p->p<F.m/\c∈F.kids p
 nd:∀ p,(F.kids p).Nodup
 Wu:∀ c,F.up c≠some c
def Fo.eG (F:Fo)(p:Nat)(l:List Nat)(c:Nat)(u:Option Nat):Fo:=⟨F.m,λi=>if i=c then u else F.up i,λi=>if i=p then l else F.kids i⟩
section
variable {F G:Fo}{L:Nat->HN}{p c i j:Nat}{A B:List Nat}
theorem Fo.get (h:i<F.m):(F.st L)[i]?=some (F.a7 L i):=dp h
theorem Fo.ok.lt (h:F.ok)(hu:F.up c=some p):c<F.m/\p<F.m:=⟨(h.iG (h.up hu).2).2,(h.up hu).1⟩
structure Sp (F G:Fo)(p c:Nat)(A B:List Nat):Prop where
 okF:F.ok
 hp:p<F.m
 hc:c<F.m
 u:F.up c=some p
 k:F.kids p=A++c::B
 g:G=F.eG p (A++B) c none
theorem Sp.nd (h:Sp F G p c A B):(A++c::B).Nodup:=h.k ▸ h.okF.nd p
theorem Sp.pc (h:Sp F G p c A B):p≠c:=λe=>h.okF.Wu c (by rw [h.u,e])
theorem Sp.cA (h:Sp F G p c A B):c∉A:=λhc=>by
 have:=h.nd
 rw [List.nodup_append] at this;exact this.2.2 c hc c (by simp) rfl
theorem Sp.cB (h:Sp F G p c A B):c∉B:=by
 have:=h.nd
 rw [List.nodup_append,List.nodup_cons] at this;exact this.2.1.1
theorem Sp.nA (h:Sp F G p c A B):A.Nodup:=(List.nodup_append.1 h.nd).1
theorem Sp.nB (h:Sp F G p c A B):B.Nodup:=(List.nodup_cons.1 (List.nodup_append.1 h.nd).2.1).2
theorem Sp.AB (h:Sp F G p c A B)(hj:j∈A):j∉B:=λhb=>(List.nodup_append.1 h.nd).2.2 j hj j (by simp [hb]) rfl
theorem Sp.iG (h:Sp F G p c A B)(hj:j∈A∨j∈B):F.up j=some p/\j<F.m/\j≠p/\j≠c:=by
 have h1:j∈F.kids p:=by rw [h.k];rcases hj with hj | hj <;> simp [hj]
 have h2:=h.okF.iG h1;refine⟨h2.1,h2.2,λe=>h.okF.Wu j (by rw [h2.1,e]),λe=>?_⟩;subst e;rcases hj with hj | hj
 ·exact h.cA hj
 ·exact h.cB hj
theorem Sp.other (h:Sp F G p c A B)(hj:j≠c)(hp:j≠p)(ha:A.getLast?≠some j)(hb:B.head?≠some j):G.a7 L j=F.a7 L j:=by
 rw [h.g];simp only [Fo.a7,Fo.eG,if_neg hj,if_neg hp];cases hu:F.up j with
 | none=>rfl
 | some q =>
  simp only [Option.bind_some]
  by_cases e:q=p
  ·subst e;simp only [if_true];have hm:=(h.okF.up hu).2;rw [h.k];rw [h.k] at hm;have vn:j∈A∨j∈B:=by simpa [hj] using hm
   rcases vn with hm | hm
   ·rw [Pv hm ha,Cj (h.AB hm) hj]
   ·rw [Pw hm hb,zB (λha=>h.AB ha hm) hj]
  ·simp only [if_neg e]
theorem Sp.MG (h:Sp F G p c A B):G.a7 L c=⟨none,(F.kids c).head?,(F.kids c).getLast?,none,none,(L c).ty,(L c).atom,(L c).data,(L c).ns,(L c).attrs⟩:=by rw [h.g];simp [Fo.a7,Fo.eG,Ne.symm h.pc]
theorem Sp.f_c (h:Sp F G p c A B):F.a7 L c=⟨some p,(F.kids c).head?,(F.kids c).getLast?,A.getLast?,B.head?,(L c).ty,(L c).atom,(L c).data,(L c).ns,(L c).attrs⟩:=by simp [Fo.a7,h.u,h.k,Ft h.cA,KV h.cB]
theorem Sp.f_p (h:Sp F G p c A B):(F.a7 L p).fst=(A++[c]).head?/\(F.a7 L p).aB=(c::B).getLast?:=by
 have e1:F.kids p=(A++[c])++B:=by rw [h.k];simp
 constructor
 ·simp only [Fo.a7,e1];cases A <;> rfl
 ·simp only [Fo.a7,h.k];rw [List.getLast?_append];cases hB:(c::B).getLast? with
  | none=>simp at hB
  | some x=>rfl
theorem Sp.JD (h:Sp F G p c A B):G.a7 L p=⟨(F.a7 L p).par,(A++B).head?,(A++B).getLast?,(F.a7 L p).aY,(F.a7 L p).aX,(F.a7 L p).ty,(F.a7 L p).atom,(F.a7 L p).data,(F.a7 L p).ns,(F.a7 L p).attrs⟩:=by
 rw [h.g];simp only [Fo.a7,Fo.eG,if_neg h.pc,if_true];cases hu:F.up p with
 | none=>rfl
 | some q =>
  have hq:q≠p:=λe=>h.okF.Wu p (by rw [hu,e])
  simp only [Option.bind_some,if_neg hq]
theorem Sp.Px {A:List Nat}{a:Nat}(h:Sp F G p c (A++[a]) B):G.a7 L a=⟨(F.a7 L a).par,(F.a7 L a).fst,(F.a7 L a).aB,(F.a7 L a).aY,B.head?,(F.a7 L a).ty,(F.a7 L a).atom,(F.a7 L a).data,(F.a7 L a).ns,(F.a7 L a).attrs⟩:=by obtain⟨hu,hm,hp,hc⟩:=h.iG (j:=a) (.inl (by simp));rw [h.g];simp only [Fo.a7,Fo.eG,if_neg hc,if_neg hp,hu,Option.bind_some,if_true,h.k];rw [Eb h.nA,Cj (h.AB (by simp)) hc]
theorem Sp.Py {B:List Nat}{b:Nat}(h:Sp F G p c A (b::B)):G.a7 L b=⟨(F.a7 L b).par,(F.a7 L b).fst,(F.a7 L b).aB,A.getLast?,(F.a7 L b).aX,(F.a7 L b).ty,(F.a7 L b).atom,(F.a7 L b).data,(F.a7 L b).ns,(F.a7 L b).attrs⟩:=by obtain⟨hu,hm,hp,hc⟩:=h.iG (j:=b) (.inr (by simp));rw [h.g];simp only [Fo.a7,Fo.eG,if_neg hc,if_neg hp,hu,Option.bind_some,if_true,h.k];rw [Ck h.nB,zB (λha=>h.AB ha (by simp)) hc]
theorem Sp.Zj {A:List Nat}{a:Nat}(h:Sp F G p c (A++[a]) B):(F.a7 L a).aX=some c:=by obtain⟨hu,hm,hp,hc⟩:=h.iG (j:=a) (.inl (by simp));simp only [Fo.a7,hu,Option.bind_some,h.k];rw [Eb h.nA];rfl
theorem Sp.Zk {B:List Nat}{b:Nat}(h:Sp F G p c A (b::B)):(F.a7 L b).aY=some c:=by obtain⟨hu,hm,hp,hc⟩:=h.iG (j:=b) (.inr (by simp));simp only [Fo.a7,hu,Option.bind_some,h.k];rw [show A++c::b::B=(A++[c])++b::B by simp,Ck h.nB];simp
end
section
variable {F G:Fo}{L:Nat->HN}{p c:Nat}{A B:List Nat}
theorem MH (h:Sp F G p c A B):aO (some p,some c,(F.st L))=some (G.st L):=by
 have hG:(G.st L)=Ed F.m (G.a7 L):=by rw [h.g];rfl
 have tn:=h.pc;have pb:=Ne.symm tn;have fc:=h.f_c (L:=L);have fp:=h.f_p (L:=L);rw [hG];rcases List.eq_nil_or_concat A with rfl | ⟨A',a,rfl⟩
 ·cases B with
  | nil =>
   have e1:(F.a7 L p).fst=some c:=fp.1;have e2:(F.a7 L p).aB=some c:=fp.2;simp only [aO,bind_some,Fo.st,dp h.hp,dp h.hc,cz h.hp,cz h.hc,fc,dq,e1,e2,tn,pb,if_true,if_false,decide_true,cond_true,cond_false,Option.isNone_none,Option.isNone_some,Bool.not_true,Bool.not_false,List.head?_nil,List.getLast?_nil];refine congrArg some (gQ λj hj=>?_)
   by_cases g1:j=c
   ·subst g1;simp only [dq,h.MG,if_true,if_false,tn,pb]
   by_cases g2:j=p
   ·subst g2;simp only [dq,h.JD,if_true,if_false,tn,pb];rfl
   simp only [dq,if_neg g1,if_neg g2];exact (h.other g1 g2 (by simp) (by simp)).symm
  | cons b B =>
   obtain⟨_,Pz,Fu,Fv⟩:=h.iG (j:=b) (.inr (by simp));have PA:=Ne.symm Fu;have PB:=Ne.symm Fv;have e1:(F.a7 L p).fst=some c:=fp.1;have e2:(F.a7 L p).aB≠some c:=by rw [fp.2,List.getLast?_cons_cons];intro e;exact h.cB (List.mem_of_getLast? e)
   have fb:=h.Zk (L:=L);simp only [aO,bind_some,Fo.st,dp h.hp,dp h.hc,dp Pz,cz h.hp,cz h.hc,cz Pz,fc,dq,e1,e2,tn,pb,Fu,Fv,PA,PB,if_true,if_false,decide_true,decide_false,cond_true,cond_false,Option.isNone_none,Option.isNone_some,Bool.not_true,Bool.not_false,List.head?_nil,List.getLast?_nil,List.head?_cons];refine congrArg some (gQ λj hj=>?_)
   by_cases g1:j=c
   ·subst g1;simp only [dq,h.MG,if_true,if_false,tn,pb,Fv,PB]
   by_cases g2:j=p
   ·subst g2;simp only [dq,h.JD,if_true,if_false,tn,pb,Fu,PA,fp.2];rfl
   by_cases g3:j=b
   ·subst g3;simp only [dq,h.Py,if_true,if_false,Fu,Fv,List.getLast?_nil]
   simp only [dq,if_neg g1,if_neg g2,if_neg g3];exact (h.other g1 g2 (by simp) (by simpa using Ne.symm g3)).symm
 ·have hA:=h.iG (j:=a) (.inl (by simp));simp only [List.concat_eq_append] at h fc fp hA;obtain⟨_,NB,w9,Ee⟩:=hA;have KU:=Ne.symm w9;have C4:=Ne.symm Ee;have e1:(F.a7 L p).fst≠some c:=by
   rw [fp.1];intro e;refine h.cA ?_;cases A' with
   | nil=>simp at e;simp [e]
   | cons x A'=>simp at e;simp [e]
  have e3:(A'++[a]).getLast?=some a:=by simp
  have fa:=h.Zj (L:=L);cases B with
  | nil =>
   have e2:(F.a7 L p).aB=some c:=fp.2;rw [e3] at fc;simp only [aO,bind_some,Fo.st,dp h.hp,dp h.hc,dp NB,cz h.hp,cz h.hc,cz NB,fc,dq,e1,e2,e3,tn,pb,w9,Ee,KU,C4,if_true,if_false,decide_true,decide_false,cond_true,cond_false,Option.isNone_none,Option.isNone_some,Bool.not_true,Bool.not_false,List.head?_nil,List.getLast?_nil,List.head?_cons];refine congrArg some (gQ λj hj=>?_)
   by_cases g1:j=c
   ·subst g1;simp only [dq,h.MG,if_true,if_false,tn,pb,Ee,C4]
   by_cases g2:j=p
   ·subst g2;simp only [dq,h.JD,if_true,if_false,tn,pb,w9,KU,fp.1,List.append_nil,e3];cases A' <;> rfl
   by_cases g3:j=a
   ·subst g3;simp only [dq,h.Px,if_true,if_false,w9,Ee,List.head?_nil]
   simp only [dq,if_neg g1,if_neg g2,if_neg g3];exact (h.other g1 g2 (by simpa using Ne.symm g3) (by simp)).symm
  | cons b B =>
   obtain⟨_,Pz,Fu,Fv⟩:=h.iG (j:=b) (.inr (by simp));have PA:=Ne.symm Fu;have PB:=Ne.symm Fv;have p_:a≠b:=λe=>h.AB (j:=a) (by simp) (by simp [e])
   have Yd:=Ne.symm p_;have e2:(F.a7 L p).aB≠some c:=by rw [fp.2,List.getLast?_cons_cons];intro e;exact h.cB (List.mem_of_getLast? e)
   have fb:=h.Zk (L:=L);rw [e3] at fc;simp only [aO,bind_some,Fo.st,dp h.hp,dp h.hc,dp NB,dp Pz,cz h.hp,cz h.hc,cz NB,cz Pz,fc,dq,e1,e2,e3,tn,pb,w9,Ee,KU,C4,Fu,Fv,PA,PB,p_,Yd,if_true,if_false,decide_true,decide_false,cond_true,cond_false,Option.isNone_none,Option.isNone_some,Bool.not_true,Bool.not_false,List.head?_nil,List.getLast?_nil,List.head?_cons];refine congrArg some (gQ λj hj=>?_)
   by_cases g1:j=c
   ·subst g1;simp only [dq,h.MG,if_true,if_false,tn,pb,Ee,C4,Fv,PB]
   by_cases g2:j=p
   ·subst g2;simp only [dq,h.JD,if_true,if_false,tn,pb,w9,KU,Fu,PA];have q1:(A'++[a]++b::B).head?=(F.a7 L j).fst:=by rw [fp.1];cases A' <;> rfl
    have q2:(A'++[a]++b::B).getLast?=(F.a7 L j).aB:=by
     rw [fp.2,List.getLast?_cons_cons,List.getLast?_append];cases hB:(b::B).getLast? with
     | none=>simp at hB
     | some x=>rfl
    rw [q1,q2]
   by_cases g3:j=a
   ·subst g3;simp only [dq,h.Px,if_true,if_false,w9,Ee,p_,List.head?_cons]
   by_cases g4:j=b
   ·subst g4;simp only [dq,h.Py,if_true,if_false,Fu,Fv,Yd,e3]
   simp only [dq,if_neg g1,if_neg g2,if_neg g3,if_neg g4];exact (h.other g1 g2 (by simpa using Ne.symm g3) (by simpa using Ne.symm g4)).symm
theorem insert_eq (h:Sp F G p c A B):bo (some p,some c,B.head?,(G.st L))=some (F.st L):=by
 have hG:(G.st L)=Ed F.m (G.a7 L):=by rw [h.g];rfl
 have tn:=h.pc;have pb:=Ne.symm tn;have fc:=h.f_c (L:=L);have fp:=h.f_p (L:=L);have gc:=h.MG (L:=L);have gp:=h.JD (L:=L);have hF:(F.st L)=Ed F.m (F.a7 L):=rfl;rw [hG,hF];rcases List.eq_nil_or_concat A with rfl | ⟨A',a,rfl⟩
 ·cases B with
  | nil =>
   simp only [List.append_nil,List.nil_append,List.head?_nil,List.getLast?_nil] at gp;simp only [bo,bind_some,dp h.hp,dp h.hc,cz h.hp,cz h.hc,gc,gp,dq,tn,pb,if_true,if_false,cond_true,cond_false,Option.isNone_none,Option.isNone_some,Bool.not_true,Bool.not_false,List.head?_nil,List.getLast?_nil];refine congrArg some (gQ λj hj=>?_)
   by_cases g1:j=c
   ·subst g1;simp only [dq,fc,if_true,if_false,tn,pb,List.getLast?_nil,List.head?_nil]
   by_cases g2:j=p
   ·subst g2;simp only [dq,if_true,if_false,tn,pb];have q1:some c=(F.a7 L j).fst:=by rw [fp.1];rfl
    have q2:some c=(F.a7 L j).aB:=by rw [fp.2];rfl
    rw (occs := .pos [1]) [q1];rw (occs := .pos [1]) [q2]
   simp only [dq,if_neg g1,if_neg g2];exact (h.other g1 g2 (by simp) (by simp))
  | cons b B =>
   obtain⟨_,Pz,Fu,Fv⟩:=h.iG (j:=b) (.inr (by simp));have PA:=Ne.symm Fu;have PB:=Ne.symm Fv;have gb:=h.Py (L:=L);simp only [List.nil_append,List.head?_cons,List.getLast?_nil] at gp gb;simp only [bo,bind_some,dp h.hp,dp h.hc,dp Pz,cz h.hp,cz h.hc,cz Pz,gc,gp,gb,dq,tn,pb,Fu,Fv,PA,PB,if_true,if_false,cond_true,cond_false,Option.isNone_none,Option.isNone_some,Bool.not_true,Bool.not_false,List.head?_cons,List.getLast?_nil];refine congrArg some (gQ λj hj=>?_)
   by_cases g1:j=c
   ·subst g1;simp only [dq,fc,if_true,if_false,tn,pb,Fv,PB,List.getLast?_nil,List.head?_cons]
   by_cases g2:j=p
   ·subst g2;simp only [dq,if_true,if_false,tn,pb,Fu,PA];have q1:some c=(F.a7 L j).fst:=by rw [fp.1];rfl
    have q2:(b::B).getLast?=(F.a7 L j).aB:=by rw [fp.2,List.getLast?_cons_cons]
    rw [q1,q2]
   by_cases g3:j=b
   ·subst g3;simp only [dq,if_true,if_false,Fu,Fv];rw [<- h.Zk]
   simp only [dq,if_neg g1,if_neg g2,if_neg g3];exact (h.other g1 g2 (by simp) (by simpa using Ne.symm g3))
 ·have hA:=h.iG (j:=a) (.inl (by simp));simp only [List.concat_eq_append] at h fc fp hA gc gp;obtain⟨_,NB,w9,Ee⟩:=hA;have KU:=Ne.symm w9;have C4:=Ne.symm Ee;have e3:(A'++[a]).getLast?=some a:=by simp
  have q1:∀ B:List Nat,(A'++[a]++B).head?=(F.a7 L p).fst:=λB=>by rw [fp.1];cases A' <;> rfl
  have ga:=h.Px (L:=L);cases B with
  | nil =>
   simp only [List.append_nil,e3,List.head?_nil] at gp ga;simp only [bo,bind_some,dp h.hp,dp h.hc,dp NB,cz h.hp,cz h.hc,cz NB,gc,gp,ga,dq,e3,tn,pb,w9,Ee,KU,C4,if_true,if_false,cond_true,cond_false,Option.isNone_none,Option.isNone_some,Bool.not_true,Bool.not_false,List.head?_nil];refine congrArg some (gQ λj hj=>?_)
   by_cases g1:j=c
   ·subst g1;simp only [dq,fc,if_true,if_false,tn,pb,Ee,C4,e3,List.head?_nil]
   by_cases g2:j=p
   ·subst g2;simp only [dq,if_true,if_false,tn,pb,w9,KU];have q2:some c=(F.a7 L j).aB:=by rw [fp.2];rfl
    have q3:=q1 [];rw [List.append_nil] at q3;rw [q3,q2]
   by_cases g3:j=a
   ·subst g3;simp only [dq,if_true,if_false,w9,Ee];rw [<- h.Zj]
   simp only [dq,if_neg g1,if_neg g2,if_neg g3];exact (h.other g1 g2 (by simpa using Ne.symm g3) (by simp))
  | cons b B =>
   obtain⟨_,Pz,Fu,Fv⟩:=h.iG (j:=b) (.inr (by simp));have PA:=Ne.symm Fu;have PB:=Ne.symm Fv;have p_:a≠b:=λe=>h.AB (j:=a) (by simp) (by simp [e])
   have Yd:=Ne.symm p_;have gb:=h.Py (L:=L);simp only [e3,List.head?_cons] at ga gb;simp only [bo,bind_some,dp h.hp,dp h.hc,dp NB,dp Pz,cz h.hp,cz h.hc,cz NB,cz Pz,gc,gp,ga,gb,dq,e3,tn,pb,w9,Ee,KU,C4,Fu,Fv,PA,PB,p_,Yd,if_true,if_false,cond_true,cond_false,Option.isNone_none,Option.isNone_some,Bool.not_true,Bool.not_false,List.head?_cons];refine congrArg some (gQ λj hj=>?_)
   by_cases g1:j=c
   ·subst g1;simp only [dq,fc,if_true,if_false,tn,pb,Ee,C4,Fv,PB,e3,List.head?_cons]
   by_cases g2:j=p
   ·subst g2;simp only [dq,gp,if_true,if_false,tn,pb,w9,KU,Fu,PA];have q2:(A'++[a]++b::B).getLast?=(F.a7 L j).aB:=by
     rw [fp.2,List.getLast?_cons_cons,List.getLast?_append];cases hB:(b::B).getLast? with
     | none=>simp at hB
     | some x=>rfl
    rw [q1,q2]
   by_cases g3:j=a
   ·subst g3;simp only [dq,if_true,if_false,w9,Ee,p_];rw [<- h.Zj]
   by_cases g4:j=b
   ·subst g4;simp only [dq,if_true,if_false,Fu,Fv,Yd];rw [<- h.Zk]
   simp only [dq,if_neg g1,if_neg g2,if_neg g3,if_neg g4];exact (h.other g1 g2 (by simpa using Ne.symm g3) (by simpa using Ne.symm g4))
theorem append_eq (h:Sp F G p c A []):aN (some p,some c,(G.st L))=some (F.st L):=by
 have hG:(G.st L)=Ed F.m (G.a7 L):=by rw [h.g];rfl
 have tn:=h.pc;have pb:=Ne.symm tn;have fc:=h.f_c (L:=L);have fp:=h.f_p (L:=L);have gc:=h.MG (L:=L);have gp:=h.JD (L:=L);have hF:(F.st L)=Ed F.m (F.a7 L):=rfl;rw [hG,hF];rcases List.eq_nil_or_concat A with rfl | ⟨A',a,rfl⟩
 ·simp only [List.append_nil,List.head?_nil,List.getLast?_nil] at gp;simp only [aN,bind_some,dp h.hp,dp h.hc,cz h.hp,cz h.hc,gc,gp,dq,tn,pb,if_true,if_false,cond_true,cond_false,Option.isNone_none,Option.isNone_some,Bool.not_true,Bool.not_false];refine congrArg some (gQ λj hj=>?_)
  by_cases g1:j=c
  ·subst g1;simp only [dq,fc,if_true,if_false,tn,pb,List.getLast?_nil,List.head?_nil]
  by_cases g2:j=p
  ·subst g2;simp only [dq,if_true,if_false,tn,pb];have q1:some c=(F.a7 L j).fst:=by rw [fp.1];rfl
   have q2:some c=(F.a7 L j).aB:=by rw [fp.2];rfl
   rw (occs := .pos [1]) [q1];rw (occs := .pos [1]) [q2]
  simp only [dq,if_neg g1,if_neg g2];exact (h.other g1 g2 (by simp) (by simp))
 ·have hA:=h.iG (j:=a) (.inl (by simp));simp only [List.concat_eq_append] at h fc fp hA gc gp;obtain⟨_,NB,w9,Ee⟩:=hA;have KU:=Ne.symm w9;have C4:=Ne.symm Ee;have e3:(A'++[a]).getLast?=some a:=by simp
  have q1:(A'++[a]).head?=(F.a7 L p).fst:=by rw [fp.1];cases A' <;> rfl
  have ga:=h.Px (L:=L);simp only [List.append_nil,e3,List.head?_nil] at gp ga;simp only [aN,bind_some,dp h.hp,dp h.hc,dp NB,cz h.hp,cz h.hc,cz NB,gc,gp,ga,dq,e3,tn,pb,w9,Ee,KU,C4,if_true,if_false,cond_true,cond_false,Option.isNone_none,Option.isNone_some,Bool.not_true,Bool.not_false,List.head?_nil];refine congrArg some (gQ λj hj=>?_)
  by_cases g1:j=c
  ·subst g1;simp only [dq,fc,if_true,if_false,tn,pb,Ee,C4,e3,List.head?_nil]
  by_cases g2:j=p
  ·subst g2;simp only [dq,if_true,if_false,tn,pb,w9,KU];have q2:some c=(F.a7 L j).aB:=by rw [fp.2];rfl
   rw [q1,q2]
  by_cases g3:j=a
  ·subst g3;simp only [dq,if_true,if_false,w9,Ee];rw [<- h.Zj]
  simp only [dq,if_neg g1,if_neg g2,if_neg g3];exact (h.other g1 g2 (by simpa using Ne.symm g3) (by simp))
end
theorem Fo.ext' {F G:Fo}(h1:F.m=G.m)(h2:∀ i,F.up i=G.up i)(h3:∀ i,F.kids i=G.kids i):F=G:=by cases F;cases G;simp only at h1 h2 h3;subst h1;rw [funext h2,funext h3]
section
variable {F G:Fo}{L:Nat->HN}{p c i j:Nat}{A B:List Nat}
theorem Sp.ins (hG:G.ok)(hp:p<G.m)(hc:c<G.m)(hu:G.up c=none)(tn:p≠c)(hk:G.kids p=A++B):Sp (G.eG p (A++c::B) c (some p)) G p c A B:=by
 have hn:∀ q,c∉G.kids q:=λq h=>by have:=(hG.iG h).1;rw [hu] at this;cases this
 refine⟨⟨λ{q x} hx=>?_,λ{x q} hx=>?_,λq=>?_,λx=>?_⟩,hp,hc,by simp [Fo.eG],by simp [Fo.eG],?_⟩
 ·simp only [Fo.eG] at hx ⊢
  by_cases e:q=p
  ·rw [if_pos e] at hx
   by_cases e2:x=c
   ·rw [if_pos e2,e,e2];exact⟨rfl,hc⟩
   ·rw [if_neg e2]
    have:x∈G.kids p:=by rw [hk];simpa [e2] using hx
    rw [e];exact hG.iG this
  ·rw [if_neg e] at hx;have e2:x≠c:=λe2=>hn q (e2 ▸ hx)
   rw [if_neg e2];exact hG.iG hx
 ·simp only [Fo.eG] at hx ⊢
  by_cases e2:x=c
  ·rw [if_pos e2] at hx;obtain rfl:p=q:=Option.some.inj hx;exact⟨hp,by rw [if_pos rfl,e2];simp⟩
  ·rw [if_neg e2] at hx;obtain⟨h1,h2⟩:=hG.up hx;refine⟨h1,?_⟩
   by_cases e:q=p
   ·rw [if_pos e];rw [e,hk] at h2;rcases List.mem_append.1 h2 with h | h <;> simp [h]
   ·rw [if_neg e];exact h2
 ·simp only [Fo.eG]
  by_cases e:q=p
  ·rw [if_pos e];have h1:=hG.nd p;have h2:=hn p;rw [hk] at h1 h2;rw [List.nodup_append] at h1 ⊢;simp only [List.mem_append,not_or] at h2;refine⟨h1.1,List.nodup_cons.2 ⟨h2.2,h1.2.1⟩,λa ha b hb e3=>?_⟩;rcases List.mem_cons.1 hb with hb | hb
   ·exact h2.1 (by rw [<- hb,<- e3];exact ha)
   ·exact h1.2.2 a ha b hb e3
  ·rw [if_neg e];exact hG.nd q
 ·simp only [Fo.eG]
  by_cases e:x=c
  ·rw [if_pos e];intro h;exact tn (by rw [<- e];exact Option.some.inj h)
  ·rw [if_neg e];exact hG.Wu x
 ·refine Fo.ext' rfl (λi=>?_) (λi=>?_)
  ·simp only [Fo.eG]
   by_cases e:i=c
   ·rw [if_pos e,e,hu]
   ·rw [if_neg e,if_neg e]
  ·simp only [Fo.eG]
   by_cases e:i=p
   ·rw [if_pos e,e,hk]
   ·rw [if_neg e,if_neg e]
def Fo.add (F:Fo):Fo:=⟨F.m+1,λi=>if i=F.m then none else F.up i,λi=>if i=F.m then [] else F.kids i⟩
theorem Fo.ok.add (h:F.ok):F.add.ok:=by
 refine⟨λ{q x} hx=>?_,λ{x q} hx=>?_,λq=>?_,λx=>?_⟩
 ·simp only [Fo.add] at hx ⊢
  by_cases e:q=F.m
  ·rw [if_pos e] at hx;cases hx
  ·rw [if_neg e] at hx
   have:=h.iG hx
   rw [if_neg (by omega)];exact⟨this.1,by omega⟩
 ·simp only [Fo.add] at hx ⊢
  by_cases e:x=F.m
  ·rw [if_pos e] at hx;cases hx
  ·rw [if_neg e] at hx
   have:=h.up hx
   rw [if_neg (by omega)];exact⟨by omega,this.2⟩
 ·simp only [Fo.add]
  by_cases e:q=F.m
  ·rw [if_pos e];exact List.nodup_nil
  ·rw [if_neg e];exact h.nd q
 ·simp only [Fo.add]
  by_cases e:x=F.m
  ·rw [if_pos e];intro h;cases h
  ·rw [if_neg e];exact h.Wu x
theorem Fo.Fw (h:F.ok){b:HN}(hi:i<F.m):F.add.a7 (dq L F.m b) i=F.a7 L i:=by
 have e:i≠F.m:=by omega
 simp only [Fo.a7,Fo.add,if_neg e,bJ e];cases hu:F.up i with
 | none=>rfl
 | some q =>
  have:=(h.up hu).1
  have e2:q≠F.m:=by omega
  simp only [Option.bind_some,if_neg e2]
theorem Fo.VB (h:F.ok){b:HN}:F.st L++[⟨none,none,none,none,none,b.ty,b.atom,b.data,b.ns,b.attrs⟩]=F.add.st (dq L F.m b):=by
 unfold Fo.st;rw [Cm];refine gQ λj hj=>?_
 by_cases e:j=F.m
 ·subst e;rw [ao];simp [Fo.a7,Fo.add,ao]
 ·have:j<F.m:=by omega
  rw [bJ e,Fo.Fw h this]
end
def Sb (a b:HN):Prop:=a.ty=b.ty/\a.atom=b.atom/\a.data=b.data/\a.ns=[]/\a.attrs=b.attrs
def Cp (F:Fo)(L:Nat->HN)(K:Nat->List Nat)(B:Nat->HN)(lo hi:Nat):Nat->Nat->Nat->Prop
 | 0,_,_=>False
 | n+1,c,x=>(lo<=c/\c<hi)/\Sb (L c) (B x)/\F2 (Cp F L K B lo hi n) (F.kids c) (K x)
def Ht (K:Nat->List Nat):Nat->Nat->Prop
 | 0,_=>False
 | n+1,x=>∀ y∈K x,Ht K n y
def lW (K:Nat->List Nat):Nat->Nat->Nat
 | 0,_=>0
 | n+1,x=>1+((K x).map (lW K n)).sum
theorem F2.imp {α β:Type}{R S:α->β->Prop}:∀ {l:List α} {m:List β},(∀ a b,a∈l->b∈m->R a b->S a b)->F2 R l m->F2 S l m
 | _,_,_, .nil => .nil
 | _,_,hi, .cons h t => .cons (hi _ _ (by simp) (by simp) h) (F2.imp (λa b ha hb=>hi a b (by simp [ha]) (by simp [hb])) t)
section
variable {F G:Fo}{L M:Nat->HN}{K:Nat->List Nat}{B:Nat->HN}{lo hi TE j5:Nat}
theorem Cp.mono (Bb:TE<=lo)(CZ:hi<=j5)(hk:∀ i,lo<=i->i<hi->G.kids i=F.kids i/\M i=L i):∀ {n c x:Nat},Cp F L K B lo hi n c x->Cp G M K B TE j5 n c x
 | 0,_,_,h=>h
 | n+1,c,x,⟨⟨h1,h2⟩,h3,h4⟩=>by obtain⟨e1,e2⟩:=hk c h1 h2;refine⟨⟨by omega,by omega⟩,by rw [e2];exact h3,?_⟩;rw [e1];exact h4.imp λa b _ _ h=>Cp.mono Bb CZ hk h
structure Ext (F:Fo)(L:Nat->HN)(G:Fo)(M:Nat->HN):Prop where
 ok:G.ok
 m:F.m<=G.m
 fe:∀ i,i<F.m->G.up i=F.up i/\G.kids i=F.kids i/\M i=L i
 rN:∀ i,F.m<=i->i<G.m->(M i).attrs.length<=1000000
 inc:∀ i,F.m<=i->∀ y∈G.kids i,i<y
theorem Ext.trans {H:Fo}{N:Nat->HN}(h:Ext F L G M)(h':Ext G M H N):Ext F L H N:=⟨h'.ok,Nat.le_trans h.m h'.m,λi hi=>by
 obtain⟨a,b,c⟩:=h.fe i hi;obtain⟨a',b',c'⟩:=h'.fe i (Nat.lt_of_lt_of_le hi h.m);exact⟨a'.trans a,b'.trans b,c'.trans c⟩,λi h1 h2=>by
 by_cases e:i<G.m
 ·rw [(h'.fe i e).2.2];exact h.rN i h1 e
 ·exact h'.rN i (by omega) h2,λi h1 y hy=>by
 by_cases e:i<G.m
 ·rw [(h'.fe i e).2.1] at hy;exact h.inc i h1 y hy
 ·exact h'.inc i (by omega) y hy⟩
theorem pE:∀ {l:List Nat} {j c:Nat},l.Nodup->l[j]?=some c->sb l c=l[j+1]?
 | [],_,_,_,h=>by simp at h
 | a::l,0,c,_,h=>by simp at h;subst h;simp [sb,List.head?_eq_getElem?]
 | a::l,j+1,c,hn,h=>by
  have h':l[j]?=some c:=by simpa using h
  have eH:a≠c:=λe=>(List.nodup_cons.1 hn).1 (by rw [e];exact List.mem_of_getElem? h')
  simp only [sb,if_neg eH,pE (List.nodup_cons.1 hn).2 h',List.getElem?_cons_succ]
theorem JE {c k:Nat}(hG:G.ok)(hc:c<G.m)(hk:k<G.m)(hu:G.up k=none)(KW:c≠k):aN (some c,some k,G.st L)=some ((G.eG c (G.kids c++[k]) k (some c)).st L)/\(G.eG c (G.kids c++[k]) k (some c)).ok:=by have h:=Sp.ins (A:=G.kids c) (B:=[]) hG hc hk hu KW (by simp);exact⟨append_eq h,h.okF⟩
end
def pX (a:cr):Attr:=⟨a.key,a.val⟩
def kn (h:HN):Node :=
 if h.ty=2 then ⟨1,[],[],[],0⟩ else if h.ty=5 then ⟨2,[],h.data,[],0⟩ else if h.ty=1 then ⟨4,[],h.data,[],0⟩ else if h.ty=4 then ⟨5,[],h.data,[],0⟩
 else if h.ty=3 then ⟨3,h.data,[],h.attrs.map pX,0⟩ else ⟨0,[],[],[],0⟩
def cd (K:Nat->List Nat):Nat->Nat->List Nat
 | 0,_=>[]
 | n+1,x=>x::(K x).flatMap (cd K n)
def bH (K:Nat->List Nat)(N:Nat->Node):Nat->Nat->List Node
 | 0,_=>[]
 | n+1,x=>⟨(N x).kind,(N x).tag,(N x).text,(N x).attrs,1+(((K x).flatMap (bH K N n)).length:Nat)⟩::(K x).flatMap (bH K N n)
section
variable {F:Fo}{L:Nat->HN}
theorem MI {i:Nat}(hi:i<F.m)(ha:(L i).attrs.length<=1000000):mH (some i,F.st L)=some (kn (L i),F.st L):=by
 have hg:=Fo.get (F:=F) (L:=L) hi;have Sc:(F.a7 L i).ty=(L i).ty:=rfl;have hda:(F.a7 L i).data=(L i).data:=rfl;have mC:(F.a7 L i).attrs=(L i).attrs:=rfl;simp only [mH,bind_some,hg,Sc,hda,mC,aa,kn];split
 ·rfl
 split
 ·rfl
 split
 ·rfl
 split
 ·rfl
 split
 ·have key:∀ d j,(L i).attrs.length - j=d->j<=(L i).attrs.length->ab iu (⟨0,[],[],[],0⟩,(3,(L i).data,[],(),0),i,((L i).attrs.length:Int),(j:Int),F.st L,((L i).attrs.take j).map pX)=some (⟨0,[],[],[],0⟩,(3,(L i).data,[],(),0),F.st L,(L i).attrs.map pX):=by
   intro d
   induction d with
   | zero =>
    intro j hd hj;refine ae ?_;simp only [iu,aa];rw [if_neg (by omega),List.take_of_length_le (by omega)]
   | succ d ih =>
    intro j hd hj;obtain⟨a,hA⟩:=ay (l:=(L i).attrs) (k:=j) (by omega);have step:iu (⟨0,[],[],[],0⟩,(3,(L i).data,[],(),0),i,((L i).attrs.length:Int),(j:Int),F.st L,((L i).attrs.take j).map pX)=some (.nx (⟨0,[],[],[],0⟩,(3,(L i).data,[],(),0),i,((L i).attrs.length:Int),((j+1:Nat):Int),F.st L,((L i).attrs.take (j+1)).map pX)):=by
     simp only [iu,aa,hg,bind_some,mC,ad,hA,Int.toNat_natCast];rw [if_pos (by omega),a6 (by simp;omega),bind_some,cD (by omega) (by omega)];have e2:(L i).attrs.take (j+1)=(L i).attrs.take j++[a]:=by rw [List.take_add_one,hA];rfl
     rw [e2];simp [pX]
    rw [aj step];exact ih (j+1) (by omega) (by omega)
  have h:=key (L i).attrs.length 0 (by omega) (Nat.zero_le _);have h':ab iu (⟨0,[],[],[],0⟩,(3,(L i).data,[],(),0),i,((L i).attrs.length:Int),(0:Int),F.st L,[])=_:=h;rw [h',bind_some]
 ·rfl
theorem oQ {K:Nat->List Nat}{N:Nat->Node}:∀ (n x:Nat),(bH K N n x).length=(cd K n x).length
 | 0,_=>rfl
 | n+1,x=>by simp only [bH,cd,List.length_cons,List.length_flatMap];rw [show (bH K N n)=λy=>bH K N n y from rfl];simp only [oQ n]
theorem oY {K:Nat->List Nat}:∀ (n x:Nat),(cd K n x).length=lW K n x
 | 0,_=>rfl
 | n+1,x=>by simp only [cd,lW,List.length_cons,List.length_flatMap];rw [show lW K n=λy=>lW K n y from rfl];simp only [<- oY n];omega
theorem Cn (hF:F.ok)(ha:∀ i,i<F.m->(L i).attrs.length<=1000000):∀ (n x:Nat) (T:List Node) (P:List (Option Nat)),x<F.m->Ht F.kids n x->T.length+(cd F.kids n x).length<=1000000->P.length+(cd F.kids n x).length<=1000000 ->
  bK n (some x,T,P,F.st L)=some (T++bH F.kids (λi=>kn (L i)) n x,P++(cd F.kids n x).map some,F.st L)
 | 0,_,_,_,_,h,_,_=>h.elim
 | n+1,x,T,P,hx,hh,hT,hP=>by
  have hg:=Fo.get (F:=F) (L:=L) hx;have VC:(F.a7 L x).fst=(F.kids x)[0]?:=by simp only [Fo.a7,List.head?_eq_getElem?]
  simp only [cd,List.length_cons,List.length_flatMap] at hT hP
  let nd:=kn (L x)
  have key:∀ d j,(F.kids x).length - j=d->j<=(F.kids x).length->ab (jh (bK n)) (T++[nd]++((F.kids x).take j).flatMap (bH F.kids (λi=>kn (L i)) n),P++[some x]++(((F.kids x).take j).flatMap (cd F.kids n)).map some,(T.length:Int),(F.kids x)[j]?,F.st L)
    = some (T++[nd]++(F.kids x).flatMap (bH F.kids (λi=>kn (L i)) n),P++[some x]++((F.kids x).flatMap (cd F.kids n)).map some,(T.length:Int),F.st L):=by
   intro d
   induction d with
   | zero =>
    intro j hd hj
    have:j=(F.kids x).length:=by omega
    subst this;refine ae ?_;simp [jh]
   | succ d ih =>
    intro j hd hj;obtain⟨y,hy⟩:=ay (l:=F.kids x) (k:=j) (by omega);have MJ:=List.mem_of_getElem? hy;obtain⟨hu,Sd⟩:=hF.iG MJ;have e1:(F.kids x).take (j+1)=(F.kids x).take j++[y]:=by rw [List.take_add_one,hy];rfl
    have II:(F.a7 L y).aX=(F.kids x)[j+1]?:=by simp only [Fo.a7,hu,Option.bind_some];exact pE (hF.nd x) hy
    have AQ:(((F.kids x).take (j+1)).map λy=>(cd F.kids n y).length).sum<=((F.kids x).map λy=>(cd F.kids n y).length).sum:=by
     have h1:F.kids x=(F.kids x).take (j+1)++(F.kids x).drop (j+1):=(List.take_append_drop _ _).symm
     conv=>rhs;rw [h1]
     rw [List.map_append,List.sum_append];omega
    rw [e1,List.map_append,List.sum_append] at AQ;simp only [List.map_cons,List.map_nil,List.sum_cons,List.sum_nil] at AQ;have QR:(((F.kids x).take j).flatMap (bH F.kids (λi=>kn (L i)) n)).length=(((F.kids x).take j).map λy=>(cd F.kids n y).length).sum:=by
     rw [List.length_flatMap]
     congr 1
     exact List.map_congr_left λy _=>oQ n y
    have step:jh (bK n) (T++[nd]++((F.kids x).take j).flatMap (bH F.kids (λi=>kn (L i)) n),P++[some x]++(((F.kids x).take j).flatMap (cd F.kids n)).map some,(T.length:Int),(F.kids x)[j]?,F.st L)
      = some (.nx (T++[nd]++((F.kids x).take (j+1)).flatMap (bH F.kids (λi=>kn (L i)) n),P++[some x]++(((F.kids x).take (j+1)).flatMap (cd F.kids n)).map some,(T.length:Int),(F.kids x)[j+1]?,F.st L)):=by
     simp only [jh,hy,Option.isNone_some,Bool.not_false,cond_true];rw [Cn hF ha n y _ _ Sd (hh y MJ) (by simp only [List.length_append,List.length_cons,List.length_nil,QR];omega) (by simp only [List.length_append,List.length_cons,List.length_nil,List.length_map,List.length_flatMap];omega)];simp only [bind_some];rw [Fo.get Sd,bind_some,II,e1];simp only [List.flatMap_append,List.flatMap_cons,List.flatMap_nil,List.append_nil,List.map_append,List.append_assoc]
    rw [aj step];exact ih (j+1) (by omega) (by omega)
  have h0:=key (F.kids x).length 0 (by omega) (Nat.zero_le _);simp only [List.take_zero,List.flatMap_nil,List.map_nil,List.append_nil] at h0;have QR:((F.kids x).flatMap (bH F.kids (λi=>kn (L i)) n)).length=((F.kids x).map λy=>(cd F.kids n y).length).sum:=by
   rw [List.length_flatMap]
   congr 1
   exact List.map_congr_left λy _=>oQ n y
  show s8 (bK n) (some x,T,P,F.st L)=_;simp only [s8,MI hx (ha x hx),bind_some];rw [a6 (by simp;omega),bind_some,a6 (by simp;omega),bind_some];rw [hg,bind_some,VC,h0,bind_some];have Fy:(T++[nd]++(F.kids x).flatMap (bH F.kids (λi=>kn (L i)) n))[T.length]?=some nd:=by simp
  simp only [ad,Int.toNat_natCast,Fy,bind_some];have tM:∀ v:Node,(T++[nd]++(F.kids x).flatMap (bH F.kids (λi=>kn (L i)) n)).set T.length v=T++v::(F.kids x).flatMap (bH F.kids (λi=>kn (L i)) n):=λv=>by rw [List.append_assoc,List.set_append_right _ _ (Nat.le_refl _)];simp
  rw [tM,cD (by simp only [List.length_append,List.length_cons,List.length_nil,QR];omega) (by simp only [List.length_append,List.length_cons,List.length_nil,QR];omega)];simp only [bH,cd,List.map_cons,List.append_assoc,List.singleton_append];have qF:((T++nd::(F.kids x).flatMap (bH F.kids (λi=>kn (L i)) n)).length:Int) - (T.length:Int)=1+(((F.kids x).flatMap (bH F.kids (λi=>kn (L i)) n)).length:Nat):=by simp only [List.length_append,List.length_cons];omega
  rw [qF]
end
def FT (t:List Node):Fo:=⟨t.length,λi=>if i<t.length then par t i else none,λi=>if i<t.length then cZ t i else []⟩
section
variable {t:List Node}
theorem RT.L (hR:RT t){p:Nat}(hp:p<t.length):qv t p (p+sz t p):=hR.lam.sub (Nat.zero_le _) hp
theorem RT.le (hR:RT t){p:Nat}(hp:p<t.length):p+sz t p<=t.length:=by obtain⟨_,_,_,_,h⟩:=hR.lam.ok p (Nat.zero_le _) hp;exact h
theorem RT.Zl (hR:RT t){p:Nat}(hp:p<t.length):1<=sz t p:=by obtain⟨_,_,_,h,_⟩:=hR.lam.ok p (Nat.zero_le _) hp;exact h
theorem KX (hR:RT t):(FT t).ok:=by
 refine⟨λ{p c} hc=>?_,λ{c p} hu=>?_,λp=>?_,λc=>?_⟩
 ·simp only [FT] at hc ⊢
  by_cases hp:p<t.length
  ·rw [if_pos hp] at hc;have h1:=HP (hR.L hp) (Nat.le_refl _) (by have:=hR.Zl hp;omega) hc;have h2:=hR.le hp;rw [if_pos (by omega)];exact⟨sF (hR.L hp) hc,by omega⟩
  ·rw [if_neg hp] at hc;cases hc
 ·simp only [FT] at hu ⊢
  by_cases hc:c<t.length
  ·rw [if_pos hc] at hu;have h1:=fO hu;have hp:p<t.length:=by omega
   rw [if_pos hp];exact⟨hp,tj (hR.L hp) hu⟩
  ·rw [if_neg hc] at hu;cases hu
 ·simp only [FT]
  by_cases hp:p<t.length
  ·rw [if_pos hp];exact (rL (hR.L hp)).imp λh=>Nat.ne_of_lt h
  ·rw [if_neg hp];exact List.nodup_nil
 ·simp only [FT]
  by_cases hc:c<t.length
  ·rw [if_pos hc];intro h
   have:=fO h
   omega
  ·rw [if_neg hc];intro h;cases h
theorem HV (l:List Nat):l.getLast?=l[l.length - 1]?:=by rw [List.getLast?_eq_getElem?]
theorem PC (hR:RT t):store t=(FT t).st (yS t):=by
 apply List.ext_getElem?;intro i
 by_cases hi:i<t.length
 ·rw [ME hi,Fo.get (F:=FT t) hi]
  congr 1
  have hL:=hR.L hi;have hle:=hR.le hi;have hk:(FT t).kids i=cZ t i:=if_pos hi;have hu:(FT t).up i=par t i:=if_pos hi;have e1:(rc t 0 t.length i).par=par t i:=VA;have e2:=R8 hL hle;have e3:=R_ hL hle;have e4:(rc t 0 t.length i).aY=(par t i).bind λp=>yv ((FT t).kids p) i:=by
   cases hp:par t i with
   | none =>
    simp only [rc,Po,hp,Option.bind_none]
    split <;> rfl
   | some p =>
    have tJ:p<t.length:=by have:=fO hp;omega
    have NC:(FT t).kids p=cZ t p:=if_pos tJ;have hm:=tj (hR.L tJ) hp;obtain⟨j,hj⟩:=List.mem_iff_getElem?.1 hm;have hn:(cZ t p).Nodup:=(rL (hR.L tJ)).imp λh=>Nat.ne_of_lt h
    rw [Sa (hR.L tJ) hj];simp only [Option.bind_some,NC];have GA:=(List.getElem?_eq_some_iff.1 hj).1;unfold yv;have aaU:(cZ t p).reverse[(cZ t p).length - 1 - j]?=some i:=by rw [List.getElem?_reverse (by omega)];rw [show (cZ t p).length - 1 - ((cZ t p).length - 1 - j)=j by omega];exact hj
    rw [pE ((List.reverse_perm _).nodup_iff.2 hn) aaU]
    by_cases h0:j=0
    ·subst h0;rw [if_pos rfl,List.getElem?_eq_none (by simp;omega)]
    ·rw [if_neg h0,List.getElem?_reverse (by omega)]
     congr 1
     omega
  have e5:(rc t 0 t.length i).aX=(par t i).bind λp=>sb ((FT t).kids p) i:=by
   cases hp:par t i with
   | none =>
    simp only [rc,Dm,hp,Option.bind_none]
    split <;> rfl
   | some p =>
    have tJ:p<t.length:=by have:=fO hp;omega
    have NC:(FT t).kids p=cZ t p:=if_pos tJ;have hm:=tj (hR.L tJ) hp;obtain⟨j,hj⟩:=List.mem_iff_getElem?.1 hm;have hn:(cZ t p).Nodup:=(rL (hR.L tJ)).imp λh=>Nat.ne_of_lt h
    rw [R9 (hR.L tJ) (hR.le tJ) hj];simp only [Option.bind_some,NC];rw [pE hn hj]
  have h6:rc t 0 t.length i=⟨(rc t 0 t.length i).par,(rc t 0 t.length i).fst,(rc t 0 t.length i).aB,(rc t 0 t.length i).aY,(rc t 0 t.length i).aX,(yS t i).ty,(yS t i).atom,(yS t i).data,(yS t i).ns,(yS t i).attrs⟩:=rfl;rw [h6,e1,e2,e3,e4,e5];simp only [Fo.a7,hu,hk,List.head?_eq_getElem?,HV]
 ·rw [List.getElem?_eq_none (by rw [store,vG];omega),List.getElem?_eq_none (by show (Ed _ _).length<=i;rw [tm];exact Nat.le_of_not_lt hi)]
theorem MK (l:List Attr):(l.map nE).map pX=l:=by rw [List.map_map];exact (List.map_congr_left λa _=>rfl).trans (List.map_id l)
theorem Se {v:Node}{i:Nat}(h:RN t i v):kn (base v)=⟨v.kind,v.tag,v.text,v.attrs,0⟩:=by
 rcases h.kd with k | k | k | k | k
 ·have h4:=h.k4 (by omega);have h7:=h.k7 k;simp [base,kn,k,h4,h7]
 ·have h4:=h.k4 (by omega);simp [base,kn,k,h4]
 ·have h3:=h.k3 k;have hm:=MK v.attrs;rw [List.map_map] at hm;simp [base,kn,k,h3.1,hm]
 ·have h4:=h.k4 (by omega);simp [base,kn,k,h4]
 ·have h4:=h.k4 (by omega);simp [base,kn,k,h4]
theorem VD (hR:RT t){i:Nat}{v:Node}(hv:t[i]?=some v):kn (yS t i)=⟨v.kind,v.tag,v.text,v.attrs,0⟩:=by simp only [yS,hv];exact Se (hR.node i v hv)
theorem zC (hR:RT t)(i:Nat):(yS t i).attrs.length<=20:=by
 simp only [yS];cases hv:t[i]? with
 | none=>simp [base]
 | some v =>
  simp only [base];split
  ·simp
  split
  ·simp
  split
  ·simp
  split
  ·simp
  ·have hk:=(hR.node i v hv).kd
   have:=(hR.node i v hv).k3 (by omega)
   simpa using this.2.1
theorem HW (hR:RT t):∀ (n x:Nat),x<t.length->sz t x<=n->cd (FT t).kids n x=List.range' x (sz t x)
 | 0,x,hx,h=>by have:=hR.Zl hx;omega
 | n+1,x,hx,h=>by
  have hk:(FT t).kids x=cZ t x:=if_pos hx;have h1:=hR.Zl hx;have h2:=hR.le hx;simp only [cd,hk];have key:∀ f k,x<k->x+sz t x<=k+f->k<=x+sz t x->(jr t f k (x+sz t x)).flatMap (cd (FT t).kids n)=List.range' k (x+sz t x - k):=by
   intro f
   induction f with
   | zero =>
    intro k rG Nw Zm;rw [show x+sz t x - k=0 by omega];rfl
   | succ f ih =>
    intro k rG Nw Zm;simp only [jr]
    by_cases jC:k<x+sz t x
    ·rw [if_pos jC,List.flatMap_cons];obtain⟨_,_,_,g1,g2⟩:=(hR.L hx).ok k (by omega) jC;rw [HW hR n k (by omega) (by omega),ih (k+sz t k) (by omega) (by omega) (by omega),List.range'_append_1]
     congr 1
     omega
    ·rw [if_neg jC,show x+sz t x - k=0 by omega];rfl
  unfold cZ;rw [key (sz t x) (x+1) (by omega) (by omega) (by omega)];rw [show sz t x=(x+sz t x - (x+1))+1 by omega,List.range'_succ]
  congr 2
  omega
end
def Fo.jw (F:Fo)(P:Nat->Int×Node)(Z:Nat->Bool)(i:Nat):KN:=⟨(P i).1,(P i).2,F.up i,(F.kids i).map some,Z i⟩
def Fo.aZ (F:Fo)(P:Nat->Int×Node)(Z:Nat->Bool):List KN:=Ed F.m (F.jw P Z)
def Z0:Nat->Bool:=λ_=>false
def Zn (t:List Node)(i:Nat):Node:=(t[i]?).getD ⟨0,[],[],[],0⟩
def P0 (t:List Node)(i:Nat):Int×Node:=((i:Int),Zn t i)
def Fo.xF (F:Fo)(p:Nat)(l:List Nat):Fo:=⟨F.m,λi=>if i∈l then some p else F.up i,λi=>if i=p then F.kids p++l else F.kids i⟩
def FZ (k:Nat):Fo:=⟨k,λ_=>none,λ_=>[]⟩
def GF (t:List Node)(k:Nat):Fo:=⟨t.length,λi=>(par t i).bind λp=>if p<k then some p else none,λi=>if i<k then cZ t i else []⟩
section
variable {F G:Fo}{P:Nat->Int×Node}{Z:Nat->Bool}{t:List Node}{i p c:Nat}{l:List Nat}
theorem Fo.mx (h:i<F.m):(F.aZ P Z)[i]?=some (F.jw P Z i):=dp h
theorem Fo.aaV:(F.aZ P Z).length=F.m:=tm
theorem HX:F.xF p []=F:=by
 cases F;simp only [Fo.xF,List.not_mem_nil,if_false,List.append_nil]
 congr 1
 funext i
 split <;> simp [*]
theorem MM:(F.xF p [c]).xF p l=F.xF p (c::l):=by
 simp only [Fo.xF,if_true]
 congr 1
 ·funext i
  by_cases h:i∈l
  ·simp [h]
  ·simp [h]
 ·funext i;split
  ·simp
  ·rfl
theorem Fz (h:F.m=G.m)(h1:∀ i,i<F.m->F.up i=G.up i)(h2:∀ i,i<F.m->F.kids i=G.kids i):F.aZ P Z=G.aZ P Z:=by unfold Fo.aZ;rw [<- h];exact gQ λi hi=>by simp only [Fo.jw,h1 i hi,h2 i hi]
end
theorem VE {t:List Node}(hR:RT t)(a:Int)(b:Bool):∀ d k:Nat,t.length - k=d->k<=t.length ->
  ab ji (t,((),a,b),(k:Int),(FZ k).aZ (P0 t) Z0,(List.range k).map some)=some (t,((),a,b),(FZ t.length).aZ (P0 t) Z0,(List.range t.length).map some):=by
 have hlen:=hR.len;intro d
 induction d with
 | zero =>
  intro k hd hk;obtain rfl:k=t.length:=by omega
  refine ae ?_;simp only [ji,aa];rw [if_neg (by omega)]
 | succ d ih =>
  intro k hd hk;obtain⟨v,hv⟩:=ay (l:=t) (k:=k) (by omega);have mC:v.attrs.length<=20:=by
   have hN:=hR.node k v hv;rcases hN.kd with h | h | h | h | h
   ·have:=hN.k4 (by omega);rw [this.2];simp
   ·have:=hN.k4 (by omega);rw [this.2];simp
   ·exact (hN.k3 h).2.1
   ·have:=hN.k4 (by omega);rw [this.2];simp
   ·have:=hN.k4 (by omega);rw [this.2];simp
  have step:ji (t,((),a,b),(k:Int),(FZ k).aZ (P0 t) Z0,(List.range k).map some)=some (.nx (t,((),a,b),((k+1:Nat):Int),(FZ (k+1)).aZ (P0 t) Z0,(List.range (k+1)).map some)):=by
   have hl:((FZ k).aZ (P0 t) Z0).length=k:=Fo.aaV;have hg:∀ e:KN,((FZ k).aZ (P0 t) Z0++[e])[k]?=some e:=λe=>by rw [List.getElem?_append_right (by omega),hl];simp
   simp only [ji,aa,ad,hv,bind_some,hl];rw [if_pos (by omega),a6 (by simp;omega)];simp only [bind_some,hg];rw [a6 (by simp;omega)];simp only [bind_some];rw [cD (by omega) (by omega),List.set_append_right _ _ (by omega),hl];simp only [Nat.sub_self,List.set_cons_zero,List.nil_append];have e1:(FZ k).aZ (P0 t) Z0++[⟨(k:Int),v,none,[],false⟩]=(FZ (k+1)).aZ (P0 t) Z0:=by
    unfold Fo.aZ;rw [show (FZ k).m=k from rfl,Cm];refine gQ λi hi=>?_
    by_cases e:i=k
    ·subst e;simp only [dq,if_true,Fo.jw,FZ,P0,Zn,hv];rfl
    ·simp only [dq,if_neg e];rfl
   have e2:(List.range k).map some++[some k]=(List.range (k+1)).map some:=by rw [List.range_succ];simp
   rw [e2];have e3:=e1;cases v;simp only at e3 ⊢;rw [e3];rfl
  rw [aj step];exact ih (k+1) (by omega) (by omega)
theorem Sf {t:List Node}(hR:RT t)(a:Int)(b:Bool){k:Nat}(hk:k<t.length):∀ (f c:Nat) (F:Fo),F.m=t.length->k<c->c<=k+sz t k->k+sz t k<=c+f->(F.kids k).length+f<=1000 ->
  ab gF (t,((),a,b),(k:Int),(c:Int),F.aZ (P0 t) Z0,(List.range t.length).map some)=some (t,((),a,b),(k:Int),(F.xF k (jr t f c (k+sz t k))).aZ (P0 t) Z0,(List.range t.length).map some):=by
 have hlen:=hR.len;have hle:=hR.le hk;obtain⟨v,hv,Nx,_,_⟩:=hR.lam.ok k (Nat.zero_le _) hk;intro f
 induction f with
 | zero =>
  intro c F hm h1 h2 h3 h4;refine ae ?_;simp only [gF,aa,ad,hv,bind_some];rw [cD (by omega) (by omega),if_neg (by omega),jr,HX]
 | succ f ih =>
  intro c F hm h1 h2 h3 h4
  by_cases hc:c<k+sz t k
  ·obtain⟨w,hw,hws,QI,hw2⟩:=(hR.L hk).ok c (by omega) hc;have hr:∀ i,i<t.length->((List.range t.length).map some)[i]?=some (some i):=λi hi=>by simp [hi]
   have TF:(F.aZ (P0 t) Z0)[c]?=some (F.jw (P0 t) Z0 c):=Fo.mx (by omega);have Wp:∀ e:KN,((F.aZ (P0 t) Z0).set c e)[k]?=some (F.jw (P0 t) Z0 k):=λe=>by rw [List.getElem?_set_ne (by omega)];exact Fo.mx (by omega)
   have step:gF (t,((),a,b),(k:Int),(c:Int),F.aZ (P0 t) Z0,(List.range t.length).map some)=some (.nx (t,((),a,b),(k:Int),((c+sz t c:Nat):Int),(F.xF k [c]).aZ (P0 t) Z0,(List.range t.length).map some)):=by
    simp only [gF,aa,ad,hv,hw,bind_some,Int.toNat_natCast,hr c (by omega),hr k (by omega),TF,Wp];rw [cD (by omega) (by omega),if_pos (by omega),a6 (by simp [Fo.jw];omega)];simp only [bind_some];rw [if_pos trivial,hws,cD (by omega) (by omega)];have e:((F.aZ (P0 t) Z0).set c ⟨(F.jw (P0 t) Z0 c).pl,(F.jw (P0 t) Z0 c).n,some k,(F.jw (P0 t) Z0 c).kids,false⟩).set k ((F.jw (P0 t) Z0 k).wk ((F.jw (P0 t) Z0 k).kids++[some c]))=(F.xF k [c]).aZ (P0 t) Z0:=by
     unfold Fo.aZ;rw [cz (by omega),cz (by omega)];refine gQ λi hi=>?_
     by_cases e1:i=k
     ·subst e1
      have:i≠c:=by omega
      simp [dq,Fo.jw,Fo.xF,KN.wk,this,Z0]
     ·by_cases e2:i=c
      ·subst e2;simp [dq,e1,Fo.jw,Fo.xF,Z0]
      ·simp [dq,e1,e2,Fo.jw,Fo.xF]
    have ez:∀ i,(F.jw (P0 t) Z0 i).z=false:=λ_=>rfl
    simp only [ez,cond_false];rw [e];rfl
   have h':=ih (c+sz t c) (F.xF k [c]) hm (by omega) (by omega) (by omega) (by simp [Fo.xF];omega);rw [aj step,h',MM,jr,if_pos hc]
  ·refine ae ?_;simp only [gF,aa,ad,hv,bind_some];rw [cD (by omega) (by omega),if_neg (by omega),jr,if_neg hc,HX]
theorem VF {t:List Node}(hR:RT t)(a:Int)(b:Bool):∀ d k:Nat,t.length - k=d->k<=t.length ->
  ab jk (t,((),a,b),(k:Int),(GF t k).aZ (P0 t) Z0,(List.range t.length).map some)=some (((),a,b),(FT t).aZ (P0 t) Z0,(List.range t.length).map some):=by
 have hlen:=hR.len;intro d
 induction d with
 | zero =>
  intro k hd hk;obtain rfl:k=t.length:=by omega
  refine ae ?_;simp only [jk,aa];rw [if_neg (by omega)];have e:(GF t t.length).aZ (P0 t) Z0=(FT t).aZ (P0 t) Z0:=Fz rfl (λi hi=>by
   have j5:i<t.length:=hi;simp only [GF,FT,if_pos j5];cases h:par t i with
   | none=>rfl
   | some p=>have:=fO h;simp only [Option.bind_some];rw [if_pos (by omega)]) (λi hi=>rfl)
  rw [e]
 | succ d ih =>
  intro k hd hk;have Jg:k<t.length:=by omega
  have hle:=hR.le Jg;have h1:=hR.Zl Jg;have step:jk (t,((),a,b),(k:Int),(GF t k).aZ (P0 t) Z0,(List.range t.length).map some)=some (.nx (t,((),a,b),((k+1:Nat):Int),(GF t (k+1)).aZ (P0 t) Z0,(List.range t.length).map some)):=by
   have h:=Sf hR a b Jg (sz t k) (k+1) (GF t k) rfl (by omega) (by omega) (by omega) (by simp [GF];omega);have e:((GF t k).xF k (jr t (sz t k) (k+1) (k+sz t k))).aZ (P0 t) Z0=(GF t (k+1)).aZ (P0 t) Z0:=Fz rfl (λi hi=>by
    show (if i∈cZ t k then some k else ((par t i).bind λp=>if p<k then some p else none))=((par t i).bind λp=>if p<k+1 then some p else none)
    by_cases hm:i∈cZ t k
    ·rw [if_pos hm,sF (hR.L Jg) hm];simp
    ·rw [if_neg hm];cases hp:par t i with
     | none=>rfl
     | some p =>
      have:p≠k:=λe=>hm (tj (hR.L Jg) (e ▸ hp))
      simp only [Option.bind_some]
      by_cases hl:p<k
      ·rw [if_pos hl,if_pos (by omega)]
      ·rw [if_neg hl,if_neg (by omega)]) (λi hi=>by
    show (if i=k then (if k<k then cZ t k else [])++cZ t k else if i<k then cZ t i else [])=if i<k+1 then cZ t i else []
    by_cases e1:i=k
    ·subst e1;simp
    ·rw [if_neg e1]
     by_cases hl:i<k
     ·rw [if_pos hl,if_pos (by omega)]
     ·rw [if_neg hl,if_neg (by omega)])
   simp only [jk,aa];rw [if_pos (by omega),cD (by omega) (by omega)];rw [show ((k:Int)+1)=((k+1:Nat):Int) by omega,h,e];simp only [bind_some];rw [cD (by omega) (by omega)];rfl
  rw [aj step];exact ih (k+1) (by omega) (by omega)
theorem PD {t:List Node}(hR:RT t):qp (t,[])=some (((),(t.length:Int),false),(List.range t.length).map some,(FT t).aZ (P0 t) Z0):=by
 simp only [qp];have h0:=VE hR (t.length:Int) false t.length 0 (by omega) (Nat.zero_le _);have e0:(FZ 0).aZ (P0 t) Z0=[]:=rfl;rw [e0] at h0;have VG:ab ji (t,((),(t.length:Int),false),(0:Int),[],[])=_:=h0;rw [VG,bind_some];have h1:=VF hR (t.length:Int) false t.length 0 (by omega) (Nat.zero_le _);have e1:(GF t 0).aZ (P0 t) Z0=(FZ t.length).aZ (P0 t) Z0:=Fz rfl (λi hi=>by simp only [GF,FZ];cases par t i <;> rfl) (λi hi=>rfl)
 rw [e1] at h1;have CQ:ab jk (t,((),(t.length:Int),false),(0:Int),(FZ t.length).aZ (P0 t) Z0,(List.range t.length).map some)=_:=h1;rw [CQ,bind_some]
section
variable {F G:Fo}{P:Nat->Int×Node}{Z:Nat->Bool}{p c:Nat}{A B:List Nat}
theorem oR {α:Type}(l:List α){lo hi:Nat}(h1:lo<=hi)(h2:hi<=l.length):gn l (lo:Int) (hi:Int)=some ((l.take hi).drop lo):=by unfold gn;rw [if_pos (by omega)];rfl
theorem xG {α:Type}{l:List α}{n:Nat}(hn:n<=l.length):gn l 0 (n:Int)=some (l.take n):=by have h:=oR l (lo:=0) (hi:=n) (Nat.zero_le _) hn;simpa using h
theorem u_ (h:Sp F G p c A B)(hl:(F.kids p).length<=1000000):dc (some c,F.aZ P Z)=some (A.length:Int):=by
 have gc:(F.aZ P Z)[c]?=some (F.jw P Z c):=Fo.mx h.hc;have gp:(F.aZ P Z)[p]?=some (F.jw P Z p):=Fo.mx h.hp;have uc:(F.jw P Z c).up=some p:=h.u;have kp:(F.jw P Z p).kids=(A++c::B).map some:=by show (F.kids p).map some=_;rw [h.k]
 rw [h.k] at hl;simp only [List.length_append,List.length_cons] at hl;have key:∀ d k:Nat,A.length - k=d->k<=A.length->ab eW (some c,(k:Int),F.aZ P Z)=some (.inr ((A.length:Int),F.aZ P Z)):=by
  intro d
  induction d with
  | zero =>
   intro k hd hk;obtain rfl:k=A.length:=by omega
   refine ae ?_;simp only [eW,aa,bind_some,gc,uc,gp,kp,ad];rw [if_pos (by simp;omega)];simp
  | succ d ih =>
   intro k hd hk;obtain⟨a,ha⟩:=ay (l:=A) (k:=k) (by omega);have hg:((A++c::B).map some)[k]?=some (some a):=by rw [List.getElem?_map,List.getElem?_append_left (by omega),ha];rfl
   have eH:¬ some a=some c:=λe=>h.cA (by
    have:=List.mem_of_getElem? ha
    rwa [Option.some.inj e] at this)
   have step:eW (some c,(k:Int),F.aZ P Z)=some (.nx (some c,((k+1:Nat):Int),F.aZ P Z)):=by simp only [eW,aa,bind_some,gc,uc,gp,kp,ad,hg];rw [if_pos (by simp;omega),if_neg eH,cD (by omega) (by omega)];rfl
   rw [aj step];exact ih (k+1) (by omega) (by omega)
 have h0:ab eW (some c,(0:Int),F.aZ P Z)=_:=key A.length 0 (by omega) (Nat.zero_le _);simp only [dc,bind_some,gc,uc,Option.isNone_some,cond_false,h0];rfl
theorem JF (hc:c<F.m)(hu:F.up c=none):dc (some c,F.aZ P Z)=some (-1:Int):=by have gc:(F.aZ P Z)[c]?=some (F.jw P Z c):=Fo.mx hc;have uc:(F.jw P Z c).up=none:=hu;simp only [dc,bind_some,gc,uc,Option.isNone_none,cond_true]
theorem yw (hc:c<F.m)(hu:F.up c=none):cP (some c,F.aZ P Z)=some (F.aZ P Z):=by simp only [cP,JF hc hu,bind_some,aa];rw [if_pos (by omega)]
theorem PE (h:Sp F G p c A B)(hl:(F.kids p).length<=1000000):cP (some c,F.aZ P Z)=some (G.aZ P (dq Z p false)):=by
 have gc:(F.aZ P Z)[c]?=some (F.jw P Z c):=Fo.mx h.hc;have gp:(F.aZ P Z)[p]?=some (F.jw P Z p):=Fo.mx h.hp;have uc:(F.jw P Z c).up=some p:=h.u;have kp:(F.jw P Z p).kids=(A++c::B).map some:=by show (F.kids p).map some=_;rw [h.k]
 have ND:=hl;rw [h.k] at ND;simp only [List.length_append,List.length_cons] at ND;have gs:∀ e:KN,((F.aZ P Z).set p e)[c]?=some (F.jw P Z c):=λe=>by rw [List.getElem?_set_ne h.pc];exact gc
 have hlen:(((A++c::B).map some).length:Int)=((A.length+1+B.length:Nat):Int):=by simp;omega
 have s1:gn ((A++c::B).map some) 0 (A.length:Int)=some (A.map some):=by rw [xG (by simp)];simp
 have s2:gn ((A++c::B).map some) ((A.length+1:Nat):Int) ((A.length+1+B.length:Nat):Int)=some (B.map some):=by
  rw [oR _ (by omega) (by simp;omega)]
  congr 1
  rw [List.take_of_length_le (by simp;omega),<- List.map_drop]
  congr 1
  rw [show A++c::B=(A++[c])++B by simp,List.drop_left' (by simp)]
 have d1:List.drop (Int.toNat 0) (List.take (Int.toNat (A.length:Int)) ((A++c::B).map some))=A.map some:=by simp
 have d2:List.drop (Int.toNat ((A.length+1:Nat):Int)) (List.take (Int.toNat ((A.length+1+B.length:Nat):Int)) ((A++c::B).map some))=B.map some:=by
  rw [Int.toNat_natCast,Int.toNat_natCast,List.take_of_length_le (by simp;omega),<- List.map_drop]
  congr 1
  rw [show A++c::B=(A++[c])++B by simp,List.drop_left' (by simp)]
 simp only [cP,u_ h hl,bind_some,aa];rw [if_neg (by omega)];rw [show (A.length:Int)+1=((A.length+1:Nat):Int) by omega,cD (by omega) (by omega)];simp only [bind_some,gc,uc,gp,kp,hlen,s1,s2,d1,d2,gs];rw [a6 (by simp;omega)];simp only [bind_some];rw [a6 (by simp;omega)];simp only [bind_some,gs]
 congr 1
 unfold Fo.aZ;rw [cz h.hp,cz h.hc];rw [h.g];refine gQ λi hi=>?_
 by_cases e1:i=c
 ·subst e1;simp [dq,Fo.jw,Fo.eG,Ne.symm h.pc]
 ·by_cases e2:i=p
  ·subst e2;simp [dq,e1,Fo.jw,Fo.eG,KN.wk]
  ·simp [dq,e1,e2,Fo.jw,Fo.eG]
end
theorem aaW (l:List UInt8)(k:Nat):(ByteArray.mk l.toArray).get! k=(l[k]?).getD 0:=by simp [ByteArray.get!,Array.getD_eq_getD_getElem?,Array.getElem!_eq_getD];rfl
theorem PF {l:List UInt8}{i:Nat}{c:UInt8}(h:l[i]?=some c)(hc:c.toNat<128):uo l i=(c.toNat,1):=by simp only [uo,Utf8.decode,Nat.add_zero,aaW,h,Option.getD_some];rw [if_pos hc]
def eB (c:UInt8):Bool:=decide (c.toNat=32) || decide (c.toNat=9) || decide (c.toNat=10) || decide (c.toNat=13) || decide (c.toNat=12)
def Dn:List UInt8->List (List UInt8)
 | []=>[[]]
 | c::s=>if eB c then []::Dn s else match Dn s with
  | p::ps=>(c::p)::ps
  | []=>[[c]]
theorem Ae (c:UInt8)(s:List UInt8):Dn s≠[]:=by
 cases s with
 | nil=>simp [Dn]
 | cons c s =>
  simp only [Dn];split
  ·simp
  ·split <;> simp
theorem HY:∀ {w:List UInt8},(∀ c∈w,eB c=false)->Dn w=[w]
 | [],_=>rfl
 | c::w,h=>by simp only [Dn];rw [h c (by simp),HY (w:=w) λd hd=>h d (by simp [hd])];simp
theorem KY:∀ {w r:List UInt8} {c:UInt8},(∀ c∈w,eB c=false)->eB c=true->Dn (w++c::r)=w::Dn r
 | [],r,c,_,hc=>by simp [Dn,hc]
 | d::w,r,c,h,hc=>by simp only [List.cons_append,Dn];rw [h d (by simp),KY (w:=w) (λd hd=>h d (by simp [hd])) hc];simp
def aC (s:List UInt8):List (List UInt8):=(Dn s).filter λp=>!p.isEmpty
theorem pF {w:List UInt8}(h:∀ c∈w,eB c=false):aC w=if w=[] then [] else [w]:=by unfold aC;rw [HY h];cases w <;> simp
theorem jX {w r:List UInt8}{c:UInt8}(h:∀ c∈w,eB c=false)(hc:eB c=true):aC (w++c::r)=(if w=[] then [] else [w])++aC r:=by unfold aC;rw [KY h hc];cases w <;> simp
theorem xH:∀ (s:List UInt8),(aC s).length<=s.length
 | s=>by
  have key:∀ s:List UInt8,(Dn s).length<=s.length+1/\((Dn s).filter λp=>!p.isEmpty).length<=s.length/\(((Dn s).tail).filter λp=>!p.isEmpty).length+1<=s.length+1:=by
   intro s
   induction s with
   | nil=>simp [Dn]
   | cons c s ih =>
    obtain⟨h1,h2,h3⟩:=ih;simp only [Dn];split
    ·refine⟨by simp;omega,by simp;omega,by simp;omega⟩
    ·split
     ·rename_i p ps hp;rw [hp] at h1 h2 h3;simp only [List.tail_cons] at h3;refine⟨by simp at h1 ⊢;omega,by simp;omega,by simp;omega⟩
     ·rename_i hp;exact absurd hp (Ae c s)
  exact (key s).2.1
theorem Co {s:List UInt8}{out:List (List UInt8)}{fr i:Nat}{c:UInt8}(hi:i<s.length)(hc:s[i]?=some c):cQ (s,out,(fr:Int),(i:Int)) =
  if eB c=true then (if (fr:Int)<(i:Int) then Option.bind (gn s (fr:Int) (i:Int)) λm=>Option.bind (eC out [m]) λr=>some (.nx (s,r,IntKind.wrap .i64 ((i:Int)+1),IntKind.wrap .i64 ((i:Int)+1))) else some (.nx (s,out,IntKind.wrap .i64 ((i:Int)+1),IntKind.wrap .i64 ((i:Int)+1)))) else some (.nx (s,out,(fr:Int),IntKind.wrap .i64 ((i:Int)+1))):=by
 simp only [cQ,aa,ad,hc,bind_some];rw [if_pos (by omega),if_pos (by omega)]
 by_cases h1:c.toNat=32
 ·rw [if_neg (by omega),if_pos (c:=eB c=true) (by simp [eB,h1])]
 rw [if_pos (by omega)]
 by_cases h2:c.toNat=9
 ·rw [if_neg (by omega),if_pos (c:=eB c=true) (by simp [eB,h2])]
 rw [if_pos (by omega)]
 by_cases h3:c.toNat=10
 ·rw [if_neg (by omega),if_pos (c:=eB c=true) (by simp [eB,h3])]
 rw [if_pos (by omega)]
 by_cases h4:c.toNat=12
 ·rw [if_neg (by omega),if_pos (c:=eB c=true) (by simp [eB,h4])]
 rw [if_pos (by omega)]
 by_cases h5:c.toNat=13
 ·rw [if_neg (by omega),if_pos (c:=eB c=true) (by simp [eB,h5])]
 rw [if_pos (by omega),if_neg (c:=eB c=true) (by simp [eB,h1,h2,h3,h4,h5])]
theorem yx (s:List UInt8)(hs:s.length<=2147483647):kH s=some (aC s):=by
 simp only [kH];have key:∀ m i fr out,s.length+1 - i=m->fr<=i->i<=s.length->(∀ c∈(s.take i).drop fr,eB c=false)->out.length+s.length+1 - fr<=s.length+1->ab cQ (s,out,(fr:Int),(i:Int))=some (out++aC (s.drop fr)):=by
  intro m
  induction m with
  | zero=>intro i fr out hm h1 h2;omega
  | succ m ih =>
   intro i fr out hm h1 h2 hw ho;have iC:gn s (fr:Int) (i:Int)=some ((s.take i).drop fr):=oR s h1 h2;have VH:((s.take i).drop fr).length=i - fr:=by simp;omega
   have AR:eC out [(s.take i).drop fr]=some (out++[(s.take i).drop fr]):=a6 (by simp;omega);have eH:(s.take i).drop fr=[]↔¬ fr<i:=by rw [<- List.length_eq_zero_iff,VH];omega
   by_cases hi:i<s.length
   ·obtain⟨c,hc⟩:=ay hi;have qP:s.drop fr=(s.take i).drop fr++c::s.drop (i+1):=by
     have e1:s=s.take i++s.drop i:=(List.take_append_drop i s).symm;have e2:s.drop i=c::s.drop (i+1):=by obtain⟨a1,a2⟩:=List.getElem?_eq_some_iff.1 hc;rw [<- a2];exact List.drop_eq_getElem_cons a1
     have e3:s.drop fr=(s.take i).drop fr++s.drop i:=by
      conv=>lhs;rw [e1]
      rw [List.drop_append_of_le_length (by simp;omega)]
     rw [e3,e2]
    cases lC:eB c with
    | false =>
     have step:cQ (s,out,(fr:Int),(i:Int))=some (.nx (s,out,(fr:Int),((i+1:Nat):Int))):=by rw [Co hi hc,lC,if_neg (by decide),cD (by omega) (by omega)];rfl
     rw [aj step];refine ih (i+1) fr out (by omega) (by omega) (by omega) (λd hd=>?_) ho;rw [List.take_add_one,hc,List.drop_append_of_le_length (by simp;omega)] at hd;simp at hd;rcases hd with hd | rfl
     ·exact hw d hd
     ·exact lC
    | true =>
     by_cases hf:fr<i
     ·have step:cQ (s,out,(fr:Int),(i:Int))=some (.nx (s,out++[(s.take i).drop fr],((i+1:Nat):Int),((i+1:Nat):Int))):=by rw [Co hi hc,lC,if_pos rfl,if_pos (by omega),iC,bind_some,AR,bind_some,cD (by omega) (by omega)];rfl
      rw [aj step,ih (i+1) (i+1) _ (by omega) (by omega) (by omega) (by simp) (by simp;omega),qP,jX hw lC,if_neg (λe=>(eH.1 e) hf)];simp
     ·have step:cQ (s,out,(fr:Int),(i:Int))=some (.nx (s,out,((i+1:Nat):Int),((i+1:Nat):Int))):=by rw [Co hi hc,lC,if_pos rfl,if_neg (by omega),cD (by omega) (by omega)];rfl
      rw [aj step,ih (i+1) (i+1) _ (by omega) (by omega) (by omega) (by simp) (by omega),qP,jX hw lC,if_pos (eH.2 hf)];simp
   ·obtain rfl:i=s.length:=by omega
    rw [List.take_length] at hw iC AR eH;have VI:∀ o:List (List UInt8),cQ (s,o,((s.length+1:Nat):Int),((s.length+1:Nat):Int))=some (.out o):=λo=>by simp only [cQ,aa];rw [if_neg (by omega)]
    by_cases hf:fr<s.length
    ·have step:cQ (s,out,(fr:Int),(s.length:Int))=some (.nx (s,out++[s.drop fr],((s.length+1:Nat):Int),((s.length+1:Nat):Int))):=by simp only [cQ,aa,ad];rw [if_pos (by omega),if_neg (by omega),if_pos (by omega),iC,bind_some,AR,bind_some,cD (by omega) (by omega)];rfl
     rw [aj step,ae (VI _),pF hw,if_neg (λe=>(eH.1 e) hf)]
    ·have step:cQ (s,out,(fr:Int),(s.length:Int))=some (.nx (s,out,((s.length+1:Nat):Int),((s.length+1:Nat):Int))):=by simp only [cQ,aa,ad];rw [if_pos (by omega),if_neg (by omega),if_neg (by omega),cD (by omega) (by omega)];rfl
     rw [aj step,ae (VI _),pF hw,if_pos (eH.2 hf),List.append_nil]
 rw [show ab cQ (s,[],(0:Int),(0:Int))=_ from key (s.length+1) 0 0 [] (by omega) (by omega) (by omega) (by simp) (by simp)];simp
theorem m7:∀ {a r:List UInt8} {x:UInt8},eB x=true->aC (a++x::r)=aC a++aC r:=by
 intro a
 induction hn:a.length using Nat.strongRecOn generalizing a with
 | _ n ih =>
  intro r x hx
  by_cases h:∃ c∈a,eB c=true
  ·
   obtain⟨w,c,b,rfl,hw,hc⟩:∃ w c b,a=w++c::b/\(∀ d∈w,eB d=false)/\eB c=true:=by
    clear ih hn
    induction a with
    | nil=>obtain⟨c,hc,_⟩:=h;cases hc
    | cons d a ih =>
     by_cases hd:eB d=true
     ·exact⟨[],d,a,rfl,by simp,hd⟩
     ·obtain⟨c,hc,h2⟩:=h;rcases List.mem_cons.1 hc with rfl | hc
      ·exact absurd h2 hd
      ·obtain⟨w,c',b,rfl,h3,h4⟩:=ih ⟨c,hc,h2⟩;refine⟨d::w,c',b,rfl,λe he=>?_,h4⟩;rcases List.mem_cons.1 he with rfl | he
       ·simpa using hd
       ·exact h3 e he
   rw [List.append_assoc,List.cons_append,jX hw hc,jX hw hc,ih b.length (by rw [<- hn];simp;omega) rfl hx,List.append_assoc]
  ·have hw:∀ c∈a,eB c=false:=λc hc=>by
    cases hb:eB c with
    | false=>rfl
    | true=>exact absurd ⟨c,hc,hb⟩ h
   rw [jX hw hx,pF hw]
theorem oS:aC []=[]:=by simp [aC,Dn]
theorem tp {c:List UInt8}(h0:c≠[])(h:∀ x∈c,eB x=false):aC c=[c]:=by rw [pF h,if_neg h0]
theorem tq {r:List UInt8}{x:UInt8}(hx:eB x=true):aC (x::r)=aC r:=by
 have:=m7 (a:=[]) (r:=r) hx
 rwa [oS] at this
theorem va {a:List UInt8}{x:UInt8}(hx:eB x=true):aC (a++[x])=aC a:=by rw [m7 hx,oS,List.append_nil]
theorem xI:∀ {a r:List UInt8},(∀ x∈a,eB x=true)->aC (a++r)=aC r
 | [],_,_=>rfl
 | x::a,r,h=>by rw [List.cons_append,tq (h x (by simp)),xI λy hy=>h y (by simp [hy])]
theorem JG {a:List UInt8}:∀ {b:List UInt8},(∀ x∈b,eB x=true)->aC (a++b)=aC a
 | [],_=>by rw [List.append_nil]
 | x::b,h=>by rw [m7 (h x (by simp))];rw [show aC b=[] by have:=xI (a:=b) (r:=[]) λy hy=>h y (by simp [hy]);rwa [List.append_nil,oS] at this,List.append_nil]
theorem zD:∀ {s w:List UInt8},w∈aC s->w≠[]/\(∀ c∈w,eB c=false)/\∃ a b,s=a++w++b/\(a=[]∨∃ a' x,a=a'++[x]/\eB x=true)/\(b=[]∨∃ x b',b=x::b'/\eB x=true):=by
 intro s
 induction hn:s.length using Nat.strongRecOn generalizing s with
 | _ n ih =>
  intro w hw
  by_cases h:∃ c∈s,eB c=true
  ·obtain⟨v,c,b,rfl,hv,hc⟩:∃ w c b,s=w++c::b/\(∀ d∈w,eB d=false)/\eB c=true:=by
    clear ih hn hw
    induction s with
    | nil=>obtain⟨c,hc,_⟩:=h;cases hc
    | cons d a ih =>
     by_cases hd:eB d=true
     ·exact⟨[],d,a,rfl,by simp,hd⟩
     ·obtain⟨c,hc,h2⟩:=h;rcases List.mem_cons.1 hc with rfl | hc
      ·exact absurd h2 hd
      ·obtain⟨w,c',b,rfl,h3,h4⟩:=ih ⟨c,hc,h2⟩;refine⟨d::w,c',b,rfl,λe he=>?_,h4⟩;rcases List.mem_cons.1 he with rfl | he
       ·simpa using hd
       ·exact h3 e he
   rw [jX hv hc,List.mem_append] at hw;rcases hw with hw | hw
   ·by_cases hv0:v=[]
    ·rw [if_pos hv0] at hw;cases hw
    ·rw [if_neg hv0] at hw;obtain rfl:w=v:=by simpa using hw
     exact⟨hv0,hv,[],c::b,by simp, .inl rfl, .inr ⟨c,b,rfl,hc⟩⟩
   ·obtain⟨h1,h2,a,b',rfl,h3,h4⟩:=ih b.length (by rw [<- hn];simp;omega) rfl hw;refine⟨h1,h2,v++c::a,b',by simp, .inr ?_,h4⟩;rcases h3 with rfl | ⟨a',x,rfl,hx⟩
    ·exact⟨v,c,rfl,hc⟩
    ·exact⟨v++c::a',x,by simp,hx⟩
  ·have hv:∀ c∈s,eB c=false:=λc hc=>by
    cases hb:eB c with
    | false=>rfl
    | true=>exact absurd ⟨c,hc,hb⟩ h
   rw [pF hv] at hw
   by_cases h0:s=[]
   ·rw [if_pos h0] at hw;cases hw
   ·rw [if_neg h0] at hw;obtain rfl:w=s:=by simpa using hw
    exact⟨h0,hv,[],[],by simp, .inl rfl, .inl rfl⟩
theorem xJ {a w b:List UInt8}{x y:UInt8}(hx:eB x=true)(hy:eB y=true)(h0:w≠[])(h:∀ c∈w,eB c=false):aC (a++x::(w++y::b))=aC a++w::aC b:=by rw [m7 hx,m7 hy,tp h0 h];rfl
def Gm (s m:List UInt8):Prop:=∃ a b,s=a++m++b
def TG (s:List UInt8):Prop:=∀ c∈s,eB c=true->c=32
theorem xK:eB 32=true:=by decide
theorem HZ {s c:List UInt8}(h0:c≠[])(hc:∀ x∈c,eB x=false)(hs:TG s)(h1:∃ r,s=32::r)(h2:∃ r,s=r++[32]):Gm s (32::(c++[32]))↔c∈aC s:=by
 constructor
 ·rintro ⟨a,b,rfl⟩
  have:a++32::(c++[32])++b=a++32::(c++32::b):=by simp
  rw [this,xJ xK xK h0 hc];simp
 ·intro h;obtain⟨_,_,a,b,rfl,h3,h4⟩:=zD h;have ha:∃ a',a=a'++[32]:=by
   rcases h3 with rfl | ⟨a',x,rfl,hx⟩
   ·obtain⟨r,hr⟩:=h1;cases c with
    | nil=>exact absurd rfl h0
    | cons d c =>
     simp at hr
     have:=hc d (by simp)
     rw [hr.1,xK] at this;cases this
   ·exact⟨a',by rw [hs x (by simp) hx]⟩
  have hb:∃ b',b=32::b':=by
   rcases h4 with rfl | ⟨x,b',rfl,hx⟩
   ·obtain⟨r,hr⟩:=h2;rw [List.append_nil] at hr;have h5:(a++c).getLast?=some 32:=by rw [hr];simp
    have h6:c.getLast?=some 32:=by
     cases l6:c.getLast? with
     | none=>exact absurd (List.getLast?_eq_none_iff.1 l6) h0
     | some z =>
      rw [List.getLast?_append,l6] at h5;simpa using h5
    have:=hc 32 (List.mem_of_getLast? h6)
    rw [xK] at this;cases this
   ·exact⟨b',by rw [hs x (by simp) hx]⟩
  obtain⟨a',rfl⟩:=ha;obtain⟨b',rfl⟩:=hb;exact⟨a',b',by simp⟩
theorem vb {α:Type}(l:List α){lo hi:Nat}(h1:lo<=hi)(h2:hi<=l.length):gn l (lo:Int) (hi:Int)=some ((l.take hi).drop lo):=oR l h1 h2
theorem j_ {l m:List UInt8}(h:l.length+m.length<=9223372036854775807):mr l m=some (l++m):=by simp [mr,h]
theorem H0 {e:E}(xs:List e.T):lq e e xs=some xs:=by unfold lq;rw [dif_pos rfl]
theorem drop_cons {α:Type}{l:List α}{k:Nat}{v:α}(h:l[k]?=some v):l.drop k=v::l.drop (k+1):=by obtain⟨h1,h2⟩:=List.getElem?_eq_some_iff.1 h;rw [<- h2];exact List.drop_eq_getElem_cons h1
theorem Cq (s m:List UInt8)(hs:s.length<=2147483647)(hm:m.length<=2147483647):∃ r:Int,jI (s,m)=some r/\((r = -1/\¬ Gm s m)∨∃ a b,s=a++m++b/\r=(a.length:Int)/\0<=r):=by
 simp only [jI];have key:∀ n k,s.length+1 - k=n->k<=s.length+1->(∀ a b,s=a++m++b->k<=a.length)->∃ y,ab dC (s,m,(k:Int))=some y/\((y = .inl ()/\¬ Gm s m)∨∃ a b,s=a++m++b/\y = .inr (a.length:Int)):=by
  intro n
  induction n with
  | zero =>
   intro k hk h1 h2;refine⟨.inl (),ae ?_, .inl ⟨rfl,λ⟨a,b,e⟩=>?_⟩⟩
   ·simp only [dC,aa];rw [cD (by omega) (by omega),if_neg (by omega)]
   ·have:=h2 a b e
    have hl:=congrArg List.length e;simp at hl;omega
  | succ n ih =>
   intro k hk h1 h2;have hw:IntKind.wrap .i64 ((k:Int)+(m.length:Int))=((k+m.length:Nat):Int):=by rw [cD (by omega) (by omega)];omega
   by_cases hle:k+m.length<=s.length
   ·have iC:gn s (k:Int) (((k+m.length:Nat)):Int)=some ((s.take (k+m.length)).drop k):=vb s (by omega) hle
    by_cases e:(s.take (k+m.length)).drop k=m
    ·refine⟨.inr (k:Int),ae ?_, .inr ⟨s.take k,s.drop (k+m.length),?_,by rw [List.length_take,Nat.min_eq_left (by omega)]⟩⟩
     ·simp only [dC,aa];rw [hw,if_pos (by omega),iC,bind_some,if_pos e]
     ·have h3:s.take (k+m.length)=s.take k++m:=by
       conv=>lhs;rw [<- List.take_append_drop k (s.take (k+m.length))]
       rw [e,List.take_take,Nat.min_eq_left (by omega)]
      rw [<- h3,List.take_append_drop]
    ·have step:dC (s,m,(k:Int))=some (.nx (s,m,((k+1:Nat):Int))):=by simp only [dC,aa];rw [hw,if_pos (by omega),iC,bind_some,if_neg e,cD (n:=(k:Int)+1) (by omega) (by omega)];rfl
     rw [aj step];refine ih (k+1) (by omega) (by omega) λa b he=>?_
     have:=h2 a b he
     rcases Nat.lt_or_ge k a.length with h | h
     ·exact h
     ·have ha:a.length=k:=by omega
      exfalso
      apply e;rw [he,List.take_append_of_le_length (by simp;omega),List.take_of_length_le (by simp;omega),List.drop_append_of_le_length (by omega),List.drop_of_length_le (by omega)];rfl
   ·refine⟨.inl (),ae ?_, .inl ⟨rfl,λ⟨a,b,e⟩=>?_⟩⟩
    ·simp only [dC,aa];rw [hw,if_neg (by omega)]
    ·have:=h2 a b e
     have hl:=congrArg List.length e;simp at hl;omega
 obtain⟨y,hy,hq⟩:=key (s.length+1) 0 (by omega) (by omega) (λ_ _ _=>Nat.zero_le _);rw [show ab dC (s,m,(0:Int))=some y from hy,bind_some];rcases hq with⟨rfl,h⟩ | ⟨a,b,h,rfl⟩
 ·exact⟨-1,rfl, .inl ⟨rfl,h⟩⟩
 ·exact⟨_,rfl, .inr ⟨a,b,h,rfl,by omega⟩⟩
theorem contains_eq (s m:List UInt8)(hs:s.length<=2147483647)(hm:m.length<=2147483647):∃ b,fK (s,m)=some b/\(b=true↔Gm s m):=by
 simp only [fK];obtain⟨r,hr,h⟩:=Cq s m hs hm;rw [hr,bind_some];refine⟨_,rfl,?_⟩;rw [decide_eq_true_eq];rcases h with⟨rfl,h⟩ | ⟨a,b,h,rfl,h2⟩
 ·exact⟨λh=>by omega,λh'=>absurd h' h⟩
 ·exact⟨λ_=>⟨a,b,h⟩,λ_=>h2⟩
def sL (c:UInt8):UInt8:=if c.toNat=9∨c.toNat=13∨c.toNat=10 then 32 else c
theorem VJ:zR (32:Int)=some (32:UInt8):=by decide
theorem FA (s:List UInt8)(hs:s.length<=2147483647):eY s=some (s.map sL):=by
 simp only [eY];have key:∀ n k,s.length - k=n->k<=s.length->ab dF ((s.take k).map sL++s.drop k,(),(s.length:Int),(k:Int))=some (s.map sL):=by
  intro n
  induction n with
  | zero =>
   intro k hk h1
   have:k=s.length:=by omega
   subst this;refine ae ?_;simp only [dF,aa];rw [if_neg (by omega)];simp
  | succ n ih =>
   intro k hk h1;obtain⟨c,hc⟩:=ay (l:=s) (k:=k) (by omega);have Fy:((s.take k).map sL++s.drop k)[k]?=some c:=by rw [List.getElem?_append_right (by simp;omega),List.length_map,List.length_take,Nat.min_eq_left h1,Nat.sub_self,drop_cons hc];rfl
   have tM:∀ x,((s.take k).map sL++s.drop k).set k x=(s.take k).map sL++x::s.drop (k+1):=λx=>by rw [List.set_append_right _ _ (by simp;omega),List.length_map,List.length_take,Nat.min_eq_left h1,Nat.sub_self,drop_cons hc];rfl
   have IK:(s.take (k+1)).map sL=(s.take k).map sL++[sL c]:=by rw [List.take_add_one,hc];simp
   have step:dF ((s.take k).map sL++s.drop k,(),(s.length:Int),(k:Int))=some (.nx ((s.take (k+1)).map sL++s.drop (k+1),(),(s.length:Int),((k+1:Nat):Int))):=by
    simp only [dF,aa,ad,Int.toNat_natCast,Fy,bind_some,VJ,tM];rw [if_pos (by omega),cD (by omega) (by omega),IK];have e1:((k:Int)+1)=((k+1:Nat):Int):=by omega
    rw [e1]
    by_cases h9:c.toNat=9
    ·rw [if_pos (by omega)]
     have:sL c=32:=by simp [sL,h9]
     rw [this];simp
    ·rw [if_neg (by omega)]
     by_cases h13:c.toNat=13
     ·rw [if_pos (by omega)]
      have:sL c=32:=by simp [sL,h13]
      rw [this];simp
     ·rw [if_neg (by omega)]
      by_cases Mo:c.toNat=10
      ·rw [if_pos (by omega)]
       have:sL c=32:=by simp [sL,Mo]
       rw [this];simp
      ·rw [if_neg (by omega)]
       have:sL c=c:=by simp [sL,h9,h13,Mo]
       rw [this,drop_cons hc];simp
   rw [aj step,ih (k+1) (by omega) (by omega)]
 have h0:=key s.length 0 (by omega) (Nat.zero_le _);rw [List.take_zero,List.drop_zero,List.map_nil,List.nil_append] at h0;rw [show ab dF (s,(),(s.length:Int),(0:Int))=_ from h0,bind_some,H0];rfl
def wsp (c:UInt8):Bool:=decide (9<=c.toNat/\c.toNat<=13∨c.toNat=32)
theorem JH {c:UInt8}(h:c.toNat<128):f_ ((c.toNat:Nat):Int)=some (wsp c):=by
 have key:∀ n:Fin 128,f_ ((n.val:Nat):Int)=some (decide (9<=n.val/\n.val<=13∨n.val=32)):=by decide +kernel
 exact key ⟨c.toNat,h⟩
def NV (s:List UInt8):Prop:=∀ c∈s,c.toNat<128/\c.toNat≠11
theorem VK {c:UInt8}(h:c.toNat≠11):wsp c=eB c:=by rw [Bool.eq_iff_iff];simp only [wsp,eB,Bool.or_eq_true,decide_eq_true_eq];omega
theorem vI {s:List UInt8}{k:Nat}{c:UInt8}(hc:s[k]?=some c)(h:c.toNat<128):uo s k=(c.toNat,1):=PF hc h
theorem oT {s:List UInt8}(hs:NV s){k:Nat}{c:UInt8}(hc:s[k]?=some c):f_ ((c.toNat:Nat):Int)=some (eB c):=by have h:=hs c (List.mem_of_getElem? hc);rw [JH h.1,VK h.2]
def w_ (s:List UInt8):Prop:=∀ x∈s,eB x=true
theorem KZ (s:List UInt8)(hl:s.length<=2147483647)(hs:NV s):∃ t a b:List UInt8,cR s=some t/\s=a++t++b/\w_ a/\w_ b:=by
 simp only [cR];have key:∀ n (k fr to:Nat),s.length - k=n->k<=s.length->(fr=s.length/\to=0/\w_ (s.take k)∨fr<to/\to<=k/\w_ (s.take fr)/\w_ ((s.take k).drop to)) ->
   ∃ H2 Ye:Nat,ab cf (s,(fr:Int),(to:Int),s,k)=some (s,(H2:Int),(Ye:Int))/\(H2=s.length/\Ye=0/\w_ s∨H2<Ye/\Ye<=s.length/\w_ (s.take H2)/\w_ (s.drop Ye)):=by
  intro n
  induction n with
  | zero =>
   intro k fr to hk h1 h2
   have:k=s.length:=by omega
   subst this;rw [List.take_length] at h2;refine⟨fr,to,ae ?_,h2⟩;simp only [cf,aa];rw [if_neg (by omega)]
  | succ n ih =>
   intro k fr to hk h1 h2;obtain⟨c,hc⟩:=ay (l:=s) (k:=k) (by omega);have Bb:=(hs c (List.mem_of_getElem? hc)).1;have IK:s.take (k+1)=s.take k++[c]:=by rw [List.take_add_one,hc];simp
   cases lC:eB c with
   | true =>
    have step:cf (s,(fr:Int),(to:Int),s,k)=some (.nx (s,(fr:Int),(to:Int),s,k+1)):=by simp only [cf,aa,vI hc Bb,oT hs hc,bind_some,lC,Bool.not_true,cond_false];rw [if_pos (by omega)]
    rw [aj step];refine ih (k+1) fr to (by omega) (by omega) ?_;rw [IK];rcases h2 with⟨a,b,h⟩ | ⟨a,b,h,h'⟩
    ·exact .inl ⟨a,b,λx hx=>by
      rcases List.mem_append.1 hx with hx | hx
      ·exact h x hx
      ·rw [List.mem_singleton.1 hx];exact lC⟩
    ·refine .inr ⟨a,by omega,h,λx hx=>?_⟩;rw [List.drop_append_of_le_length (by simp;omega)] at hx;rcases List.mem_append.1 hx with hx | hx
     ·exact h' x hx
     ·rw [List.mem_singleton.1 hx];exact lC
   | false =>
    have inner:∀ f:Int,ab gA (s,f,((k+1:Nat):Int),s,k+1)=some (s,f,((k+1:Nat):Int),s,k+1):=λf=>by
     refine ae ?_;simp only [gA,aa,ad]
     by_cases jC:k+1<s.length
     ·obtain⟨d,hd⟩:=ay jC;have TH:=(hs d (List.mem_of_getElem? hd)).1;rw [if_pos (by omega),hd,bind_some,if_neg (by omega)]
     ·rw [if_neg (by omega)]
    have XH:(if ((k:Nat):Int)<(fr:Int) then ((k:Nat):Int) else (fr:Int))=((min k fr:Nat):Int):=by split <;> omega
    have step:cf (s,(fr:Int),(to:Int),s,k)=some (.nx (s,((min k fr:Nat):Int),((k+1:Nat):Int),s,k+1)):=by
     simp only [cf,aa,vI hc Bb,oT hs hc,bind_some,lC,Bool.not_false,cond_true,XH];rw [if_pos (by omega),cD (by omega) (by omega)];have e1:((k:Int)+1)=((k+1:Nat):Int):=by omega
     rw [e1,inner,bind_some]
    rw [aj step];refine ih (k+1) (min k fr) (k+1) (by omega) (by omega) (.inr ⟨by omega,Nat.le_refl _,?_,?_⟩)
    ·rcases h2 with⟨a,b,h⟩ | ⟨a,b,h,h'⟩
     ·rw [Nat.min_eq_left (by omega)];exact h
     ·rw [Nat.min_eq_right (by omega)];exact h
    ·rw [List.drop_of_length_le (by simp;omega)];intro x hx;cases hx
 obtain⟨fr,to,hq,h2⟩:=key s.length 0 s.length 0 (by omega) (Nat.zero_le _) (.inl ⟨rfl,rfl,by intro x hx;simp at hx⟩);rw [show ab cf (s,(s.length:Int),(0:Int),s,(0:Nat))=_ from hq,bind_some];simp only [aa];rcases h2 with⟨rfl,rfl,h⟩ | ⟨h1,h2,h3,h4⟩
 ·rw [if_pos (by omega)];exact⟨[],s,[],rfl,by rw [List.append_nil,List.append_nil],h,λx hx=>by cases hx⟩
 ·rw [if_neg (by omega),vb s (by omega) h2,bind_some];refine⟨_,s.take fr,s.drop to,rfl,?_,h3,h4⟩
  have:s.take fr++(s.take to).drop fr=s.take to:=by
   conv=>rhs;rw [<- List.take_append_drop fr (s.take to)]
   rw [List.take_take,Nat.min_eq_left (by omega)]
  rw [this,List.take_append_drop]
theorem Cr {s t a b:List UInt8}(h:s=a++t++b)(ha:w_ a)(hb:w_ b):aC s=aC t:=by rw [h,List.append_assoc,xI ha,JG hb]
theorem MN (s:List UInt8)(hl:s.length<=2147483647)(hs:NV s):kO s=some (aC s):=by
 simp only [kO];have key:∀ n (k:Nat) (fr:Int) (out:List (List UInt8)),s.length - k=n->k<=s.length->out.length<=k->(fr = -1∨∃ f:Nat,fr=(f:Int)/\f<k/\∀ c∈(s.take k).drop f,eB c=false) ->
   ∃ zE H2,ab bA (s,out,fr,s,k)=some (s,zE,H2)/\zE.length<=s.length/\((H2 = -1/\zE=out++aC (s.drop (if fr<0 then k else fr.toNat)))∨∃ f:Nat,H2=(f:Int)/\f<s.length/\zE++[s.drop f]=out++aC (s.drop (if fr<0 then k else fr.toNat))):=by
  intro n
  induction n with
  | zero =>
   intro k fr out hk h1 ho h2
   have:k=s.length:=by omega
   subst this;refine⟨out,fr,ae ?_,ho,?_⟩
   ·simp only [bA,aa];rw [if_neg (by omega)]
   ·rcases h2 with rfl | ⟨f,rfl,hf,h⟩
    ·left;rw [if_pos (by decide),List.drop_length,oS];simp
    ·right;refine⟨f,rfl,hf,?_⟩;rw [if_neg (by omega),Int.toNat_natCast];rw [List.take_length] at h;rw [tp (by intro e;have:=congrArg List.length e;simp at this;omega) h]
  | succ n ih =>
   intro k fr out hk h1 ho h2;obtain⟨c,hc⟩:=ay (l:=s) (k:=k) (by omega);have Bb:=(hs c (List.mem_of_getElem? hc)).1;have IK:s.take (k+1)=s.take k++[c]:=by rw [List.take_add_one,hc];simp
   have hdk:=drop_cons hc;cases lC:eB c with
   | true =>
    rcases h2 with rfl | ⟨f,rfl,hf,h⟩
    ·have step:bA (s,out,-1,s,k)=some (.nx (s,out,-1,s,k+1)):=by simp only [bA,aa,vI hc Bb,oT hs hc,bind_some,lC,cond_true];rw [if_pos (by omega),if_neg (by decide)]
     obtain⟨zE,H2,g1,g2,g3⟩:=ih (k+1) (-1) out (by omega) (by omega) (by omega) (.inl rfl);rw [aj step];rw [if_pos (by decide)] at g3 ⊢;rw [hdk,tq lC];exact⟨zE,H2,g1,g2,g3⟩
    ·have iC:gn s (f:Int) (k:Int)=some ((s.take k).drop f):=vb s (by omega) (by omega);have step:bA (s,out,(f:Int),s,k)=some (.nx (s,out++[(s.take k).drop f],-1,s,k+1)):=by simp only [bA,aa,vI hc Bb,oT hs hc,bind_some,lC,cond_true];rw [if_pos (by omega),if_pos (by omega),iC,bind_some,a6 (by simp;omega),bind_some]
     obtain⟨zE,H2,g1,g2,g3⟩:=ih (k+1) (-1) (out++[(s.take k).drop f]) (by omega) (by omega) (by simp;omega) (.inl rfl);rw [aj step];rw [if_pos (by decide)] at g3;rw [if_neg (by omega),Int.toNat_natCast];have qP:s.drop f=(s.take k).drop f++c::s.drop (k+1):=by
      conv=>lhs;rw [<- List.take_append_drop k s]
      rw [List.drop_append_of_le_length (by simp;omega),hdk]
     have eH:(s.take k).drop f≠[]:=by intro e;have:=congrArg List.length e;simp at this;omega
     rw [qP,jX h lC,if_neg eH];rw [List.append_assoc] at g3;exact⟨zE,H2,g1,g2,g3⟩
   | false =>
    rcases h2 with rfl | ⟨f,rfl,hf,h⟩
    ·have step:bA (s,out,-1,s,k)=some (.nx (s,out,(k:Int),s,k+1)):=by simp only [bA,aa,vI hc Bb,oT hs hc,bind_some,lC,cond_false];rw [if_pos (by omega),if_pos (by decide)]
     obtain⟨zE,H2,g1,g2,g3⟩:=ih (k+1) (k:Int) out (by omega) (by omega) (by omega) (.inr ⟨k,rfl,by omega,λd hd=>by
      rw [IK,List.drop_append_of_le_length (by simp;omega),List.drop_of_length_le (by simp;omega)] at hd
      have:d=c:=by simpa using hd
      rw [this];exact lC⟩)
     rw [aj step];rw [if_neg (by omega),Int.toNat_natCast] at g3;rw [if_pos (by decide)];exact⟨zE,H2,g1,g2,g3⟩
    ·have step:bA (s,out,(f:Int),s,k)=some (.nx (s,out,(f:Int),s,k+1)):=by simp only [bA,aa,vI hc Bb,oT hs hc,bind_some,lC,cond_false];rw [if_pos (by omega),if_neg (by omega)]
     obtain⟨zE,H2,g1,g2,g3⟩:=ih (k+1) (f:Int) out (by omega) (by omega) (by omega) (.inr ⟨f,rfl,by omega,λd hd=>by
      rw [IK,List.drop_append_of_le_length (by simp;omega)] at hd;rcases List.mem_append.1 hd with hd | hd
      ·exact h d hd
      ·rw [List.mem_singleton.1 hd];exact lC⟩)
     rw [aj step];exact⟨zE,H2,g1,g2,g3⟩
 obtain⟨zE,H2,g1,g2,g3⟩:=key s.length 0 (-1) [] (by omega) (Nat.zero_le _) (Nat.zero_le _) (.inl rfl);rw [show ab bA (s,[],(-1:Int),s,(0:Nat))=_ from g1,bind_some];rw [if_pos (by decide),List.drop_zero,List.nil_append] at g3;simp only [aa];rcases g3 with⟨rfl,rfl⟩ | ⟨f,rfl,hf,h⟩
 ·rw [if_neg (by decide)]
 ·rw [if_pos (by omega),vb s (by omega) (Nat.le_refl _),bind_some,List.take_length,a6 (by simp;omega),bind_some,h]
theorem JJ (s m:List UInt8)(hl:s.length<=2147483647)(hm:m.length<=2147483647)(h1:∀ a b,s=a++m++b->¬ Gm b m):(¬ Gm s m/\dW (s,m,[(32:UInt8)])=some s)∨∃ a b:List UInt8,s=a++m++b/\dW (s,m,[(32:UInt8)])=some (a++32::b):=by
 have last:∀ (r out:List UInt8),r.length+out.length<=2147483648->r.length<=2147483647->¬ Gm r m->ab eo (r,m,[(32:UInt8)],out)=some (out++r):=λr out hr BG hn=>by
  refine ae ?_;obtain⟨i,hi,h⟩:=Cq r m BG hm;simp only [eo,hi,bind_some,aa];rcases h with⟨rfl,_⟩ | ⟨a,b,h,_,_⟩
  ·rw [if_pos (by decide),a6 (by omega),bind_some,H0];rfl
  ·exact absurd ⟨a,b,h⟩ hn
 obtain⟨i,hi,h⟩:=Cq s m hl hm;simp only [dW];rcases h with⟨rfl,hn⟩ | ⟨a,b,h,rfl,h0⟩
 ·left;refine⟨hn,?_⟩;rw [last s [] (by simp;omega) hl hn];rfl
 ·right;refine⟨a,b,h,?_⟩;have hlen:=congrArg List.length h;simp at hlen;have s1:gn s (0:Int) (a.length:Int)=some a:=by
   have:=vb s (lo:=0) (hi:=a.length) (Nat.zero_le _) (by omega)
   rw [show ((0:Nat):Int)=0 from rfl] at this;rw [this,List.drop_zero,h,List.append_assoc,List.take_left]
  have s2:gn s (((a.length+m.length:Nat)):Int) (s.length:Int)=some b:=by rw [vb s (by omega) (Nat.le_refl _),List.take_length,h,List.drop_left' (by simp)]
  have step:eo (s,m,[(32:UInt8)],[])=some (.nx (b,m,[(32:UInt8)],a++[32])):=by
   simp only [eo,hi,bind_some,aa];rw [if_neg (by omega),s1,bind_some,a6 (by simp;omega),bind_some,List.nil_append,a6 (by simp;omega),bind_some,cD (by omega) (by omega)];have e:((a.length:Int)+(m.length:Int))=((a.length+m.length:Nat):Int):=by omega
   rw [e,s2,bind_some]
  rw [aj step,last b (a++[32]) (by simp;omega) (by omega) (h1 a b h)];simp
theorem MO (s:List UInt8)(hs:s.length<=2147483647):nU s=some (aC s):=by
 have:=yx s hs
 simp only [kH] at this;simp only [nU];exact this
theorem tr:Array.toList (ByteArray.data { data:=#[] })=[]:=rfl
theorem FB (v:List UInt8)(hl:v.length<=2147483647):∃ b,mg v=some b/\(b=true->v≠[]/\∀ c∈v,33<=c.toNat/\c.toNat<=126):=by
 simp only [mg];obtain⟨y,hy,q1,q2⟩:=je (body:=kG) (λx=>∃ k:Nat,x=(v,(k:Int))/\k<=v.length/\∀ (i:Nat) (c:UInt8),i<k->v[i]?=some c->33<=c.toNat/\c.toNat<=126) (λ_ y=>(∀ z,y = .inl z->z=v/\∀ (i:Nat) (c:UInt8),v[i]?=some c->33<=c.toNat/\c.toNat<=126)/\∀ b,y = .inr b->b=false) (λx=>((v.length:Int) - x.2).toNat) (λx hx=>by
  obtain⟨k,rfl,hk,h⟩:=hx;simp only [kG,aa,ad];split
  ·obtain⟨c,hc⟩:=ay (l:=v) (k:=k) (by omega);rw [hc];simp only [bind_some];split
   ·exact .inl ⟨_,rfl,(λz h=>by cases h),λb h=>by cases h;rfl⟩
   ·split
    ·exact .inl ⟨_,rfl,(λz h=>by cases h),λb h=>by cases h;rfl⟩
    ·rw [cD (by omega) (by omega)];refine .inr ⟨_,rfl,⟨k+1,rfl,by omega,λi d hi hd=>?_⟩,by simp only;omega,λ_ h=>h⟩;rcases Nat.lt_succ_iff_lt_or_eq.1 hi with hi | rfl
     ·exact h i d hi hd
     ·rw [hc] at hd;cases hd;omega
  ·exact .inl ⟨_,rfl,(λz hz=>by cases hz;exact⟨rfl,λi c hc=>h i c (by have:=(List.getElem?_eq_some_iff.1 hc).1;omega) hc⟩),λb h=>by cases h⟩) (v,(0:Int)) ⟨0,rfl,Nat.zero_le _,λi c hi=>by omega⟩
 rw [hy,bind_some];rcases y with z | b
 ·obtain⟨rfl,yi⟩:=q1 z rfl;simp only [oW,tr];refine⟨_,rfl,λh=>⟨of_decide_eq_true h,λc hc=>?_⟩⟩;obtain⟨i,hi⟩:=List.mem_iff_getElem?.1 hc;exact yi i c hi
 ·obtain rfl:=q2 b rfl;exact⟨false,rfl,λh=>by cases h⟩
theorem vJ (l:List (List UInt8))(w:List UInt8)(hl:l.length<=2147483647):jW (l,w)=some (decide (w∈l)):=by
 simp only [jW];have h:=B8 (body:=jB) l (λp=>!decide (p=w)) (λk=>(l,w,(k:Int))) (.inl ()) (.inr true) (λk v hv=>by
  have hk:=(List.getElem?_eq_some_iff.1 hv).1;simp only [jB,aa,ad,hv,bind_some];rw [if_pos (by omega)]
  by_cases e:v=w
  ·rw [if_pos e];simp [e]
  ·rw [if_neg e,cD (by omega) (by omega)];simp [e]) (by
  simp only [jB,aa];rw [if_neg (by omega)]) 0 (Nat.zero_le _)
 rw [show ab jB (l,w,(0:Int))=_ from h,bind_some,List.drop_zero]
 by_cases hm:w∈l
 ·rw [if_neg,decide_eq_true hm]
  ·rfl
  ·rw [List.all_eq_true];intro hh
   have:=hh w hm
   simp at this
 ·rw [if_pos,decide_eq_false hm]
  ·rfl
  ·rw [List.all_eq_true];intro p hp
   have:p≠w:=λe=>hm (e ▸ hp)
   simp [this]
structure SC (v:List UInt8):Prop where
 nv:NV v
 ff:∀ c∈v,c.toNat≠12
 nd:(aC v).Nodup
theorem JK {l:List (List UInt8)}:(∀ (i:Nat) (w:List UInt8),l[i]?=some w->w∉l.take i)->l.Nodup:=by
 intro h;refine List.pairwise_iff_getElem.2 λi j hi hj NX e=>?_
 refine h j l[j] (List.getElem?_eq_getElem hj) ?_;have h2:(l.take j)[i]?=some l[j]:=by rw [List.getElem?_take,if_pos NX,List.getElem?_eq_getElem hi,e]
 exact List.mem_of_getElem? h2
theorem MQ (v:List UInt8)(hl:v.length<=2147483647):∃ b,gE v=some b/\(b=true->SC v):=by
 simp only [gE];obtain⟨y,hy,q1,q2⟩:=je (body:=jF) (λx=>∃ k:Nat,x=(v,(k:Int))/\k<=v.length/\∀ (i:Nat) (c:UInt8),i<k->v[i]?=some c->c.toNat<128/\c.toNat≠11/\c.toNat≠12) (λ_ y=>(∀ z,y = .inl z->z=v/\∀ (i:Nat) (c:UInt8),v[i]?=some c->c.toNat<128/\c.toNat≠11/\c.toNat≠12)/\∀ b,y = .inr b->b=false) (λx=>((v.length:Int) - x.2).toNat) (λx hx=>by
  obtain⟨k,rfl,hk,h⟩:=hx;simp only [jF,aa,ad];split
  ·obtain⟨c,hc⟩:=ay (l:=v) (k:=k) (by omega);rw [hc];simp only [bind_some];split
   ·exact .inl ⟨_,rfl,(λz h=>by cases h),λb h=>by cases h;rfl⟩
   ·split
    ·exact .inl ⟨_,rfl,(λz h=>by cases h),λb h=>by cases h;rfl⟩
    ·split
     ·exact .inl ⟨_,rfl,(λz h=>by cases h),λb h=>by cases h;rfl⟩
     ·rw [cD (by omega) (by omega)];refine .inr ⟨_,rfl,⟨k+1,rfl,by omega,λi d hi hd=>?_⟩,by simp only;omega,λ_ h=>h⟩;rcases Nat.lt_succ_iff_lt_or_eq.1 hi with hi | rfl
      ·exact h i d hi hd
      ·rw [hc] at hd;cases hd;omega
  ·exact .inl ⟨_,rfl,(λz hz=>by cases hz;exact⟨rfl,λi c hc=>h i c (by have:=(List.getElem?_eq_some_iff.1 hc).1;omega) hc⟩),λb h=>by cases h⟩) (v,(0:Int)) ⟨0,rfl,Nat.zero_le _,λi c hi=>by omega⟩
 rw [hy,bind_some];rcases y with z | b
 ·obtain⟨rfl,yi⟩:=q1 z rfl;simp only [oW];rw [MO z hl,bind_some];have VH:=xH z;generalize hW:aC z=W at *;obtain⟨y2,Gp,r1,r2⟩:=je (body:=jG) (λx=>∃ k:Nat,x=(W,(k:Int))/\k<=W.length/\∀ (i:Nat) (w:List UInt8),i<k->W[i]?=some w->w∉W.take i) (λ_ y=>(y = .inl ()->∀ (i:Nat) (w:List UInt8),W[i]?=some w->w∉W.take i)/\∀ b,y = .inr b->b=false) (λx=>((W.length:Int) - x.2).toNat) (λx hx=>by
   obtain⟨k,rfl,hk,h⟩:=hx;simp only [jG,aa,ad];split
   ·obtain⟨w,hw⟩:=ay (l:=W) (k:=k) (by omega);have iC:gn W (0:Int) (k:Int)=some (W.take k):=by
     have:=vb W (lo:=0) (hi:=k) (Nat.zero_le _) hk
     rw [show ((0:Nat):Int)=0 from rfl] at this;rw [this,List.drop_zero]
    rw [iC,hw];simp only [bind_some];rw [vJ _ _ (by rw [List.length_take];omega),bind_some]
    by_cases hm:w∈W.take k
    ·rw [decide_eq_true hm];exact .inl ⟨_,rfl,(λh=>by cases h),λb h=>by cases h;rfl⟩
    ·rw [decide_eq_false hm];simp only [cond_false];rw [cD (by omega) (by omega)];refine .inr ⟨_,rfl,⟨k+1,rfl,by omega,λi d hi hd=>?_⟩,by simp only;omega,λ_ h=>h⟩;rcases Nat.lt_succ_iff_lt_or_eq.1 hi with hi | rfl
     ·exact h i d hi hd
     ·rw [hw] at hd;cases hd;exact hm
   ·exact .inl ⟨_,rfl,(λ_ i w hw=>h i w (by have:=(List.getElem?_eq_some_iff.1 hw).1;omega) hw),λb h=>by cases h⟩) (W,(0:Int)) ⟨0,rfl,Nat.zero_le _,λi w hi=>by omega⟩
  rw [Gp,bind_some];rcases y2 with u | b
  ·refine⟨true,rfl,λ_=>⟨λc hc=>?_,λc hc=>?_,by rw [hW];exact JK (r1 rfl)⟩⟩
   ·obtain⟨i,hi⟩:=List.mem_iff_getElem?.1 hc
    have:=yi i c hi
    exact⟨this.1,this.2.1⟩
   ·obtain⟨i,hi⟩:=List.mem_iff_getElem?.1 hc;exact (yi i c hi).2.2
  ·obtain rfl:=r2 b rfl;exact⟨false,rfl,λh=>by cases h⟩
 ·obtain rfl:=q2 b rfl;exact⟨false,rfl,λh=>by cases h⟩
def cA:List UInt8:=[(99:UInt8),(108:UInt8),(97:UInt8),(115:UInt8),(115:UInt8)]
def UK (l:List Attr):Prop:=(l.map (·.key)).Nodup
def vl:List Attr->List UInt8->Option (List UInt8)
 | [],_=>none
 | a::l,k=>if a.key=k then some a.val else vl l k
def wA (k v:List UInt8):List Attr->List Attr
 | []=>[⟨k,v⟩]
 | a::l=>if a.key=k then ⟨k,v⟩::l else a::wA k v l
def oA (k:List UInt8)(l:List Attr):List Attr:=l.filter λa=>!decide (a.key=k)
section
variable {k k' v:List UInt8}{l m:List Attr}{a:Attr}
theorem vK:∀ {l:List Attr},vl l k=none↔k∉l.map (·.key)
 | []=>by simp [vl]
 | a::l=>by
  rw [vl,List.map_cons,List.mem_cons]
  by_cases e:a.key=k
  ·rw [if_pos e];simp [e]
  ·rw [if_neg e,vK];exact⟨λh h2=>h2.elim (λh3=>e h3.symm) h,λh h2=>h (.inr h2)⟩
theorem FC:∀ {l:List Attr},UK l->(vl l k=some v↔(⟨k,v⟩:Attr)∈l)
 | [],_=>by simp [vl]
 | a::l,h=>by
  obtain⟨h1,h2⟩:=List.nodup_cons.1 (show (a.key::l.map (·.key)).Nodup from h);rw [vl,List.mem_cons]
  by_cases e:a.key=k
  ·rw [if_pos e];constructor
   ·intro h;left;cases h;cases e;rfl
   ·rintro (h | h)
    ·cases h;rfl
    ·exact absurd (List.mem_map.2 ⟨_,h,e.symm⟩) h1
  ·rw [if_neg e,FC h2];constructor
   ·exact .inr
   ·rintro (h | h)
    ·cases h;exact absurd rfl e
    ·exact h
theorem K1 (h:UK l)(hp:l.Perm m):vl m k=vl l k:=by have hm:UK m:=(hp.map _).nodup_iff.1 h;apply Option.ext;intro v;rw [FC hm,FC h];exact hp.mem_iff.symm
theorem yy:∀ {l:List Attr},vl (wA k v l) k'=if k'=k then some v else vl l k'
 | []=>by
  simp only [wA,vl]
  by_cases e:k'=k
  ·rw [if_pos e,if_pos e.symm]
  ·rw [if_neg e,if_neg (λh=>e h.symm)]
 | a::l=>by
  rw [wA]
  by_cases e:a.key=k
  ·rw [if_pos e,vl,vl]
   by_cases e2:k'=k
   ·rw [if_pos e2,if_pos e2.symm]
   ·rw [if_neg e2,if_neg (λh=>e2 h.symm),if_neg (λh=>e2 (h.symm.trans e))]
  ·rw [if_neg e,vl,vl,yy]
   by_cases e2:a.key=k'
   ·rw [if_pos e2,if_pos e2,if_neg (λh=>e (e2.trans h))]
   ·rw [if_neg e2,if_neg e2]
theorem K3:∀ {l:List Attr},(wA k v l).map (·.key)=if k∈l.map (·.key) then l.map (·.key) else l.map (·.key)++[k]
 | []=>rfl
 | a::l=>by
  rw [wA]
  by_cases e:a.key=k
  ·rw [if_pos e,List.map_cons,List.map_cons,e,if_pos (by simp)]
  ·rw [if_neg e,List.map_cons,List.map_cons,K3]
   have:(k∈a.key::l.map (·.key))↔k∈l.map (·.key):=by rw [List.mem_cons];exact⟨λh=>h.elim (λh2=>absurd h2.symm e) id, .inr⟩
   by_cases h:k∈l.map (·.key)
   ·rw [if_pos h,if_pos (this.2 h)]
   ·rw [if_neg h,if_neg (λh2=>h (this.1 h2))];rfl
theorem H3 (h:UK l):UK (wA k v l):=by
 unfold UK;rw [K3]
 by_cases e:k∈l.map (·.key)
 ·rw [if_pos e];exact h
 ·rw [if_neg e,List.nodup_append];exact⟨h,by simp,λx hx y hy=>by rw [List.mem_singleton.1 hy];exact λe2=>e (e2 ▸ hx)⟩
theorem vc (k v:List UInt8):∀ (l:List Attr),(wA k v l).length<=l.length+1
 | []=>Nat.le_refl _
 | a::l=>by
  rw [wA];split
  ·simp
  ·have:=vc k v l;simp;omega
theorem JL (h:k∉l.map (·.key)):wA k v l=l++[⟨k,v⟩]:=by
 induction l with
 | nil=>rfl
 | cons a l ih =>
  rw [List.map_cons,List.mem_cons] at h;rw [wA,if_neg (λe=>h (.inl e.symm)),ih (λe=>h (.inr e))];rfl
theorem PG:∀ {l:List Attr} {i:Nat} {a:Attr},l[i]?=some a->a.key=k->(∀ b∈l.take i,b.key≠k)->wA k v l=l.set i ⟨k,v⟩
 | [],_,_,h,_,_=>by simp at h
 | b::l,0,a,h,e,_=>by cases Option.some.inj h;rw [wA,if_pos e];rfl
 | b::l,i+1,a,h,e,hn=>by rw [wA,if_neg (hn b (by simp)),PG (l:=l) (i:=i) h e λc hc=>hn c (by simp [hc])];rfl
theorem Cs:∀ {l:List Attr},vl (oA k l) k'=if k'=k then none else vl l k'
 | []=>by simp [oA,vl]
 | a::l=>by
  have ih:=Cs (l:=l);unfold oA at *;rw [List.filter_cons,vl]
  by_cases e:a.key=k
  ·rw [if_neg (by simp [e]),ih]
   by_cases e2:k'=k
   ·rw [if_pos e2,if_pos e2]
   ·rw [if_neg e2,if_neg e2,if_neg (λh=>e2 (h.symm.trans e))]
  ·rw [if_pos (by simp [e]),vl,ih]
   by_cases e2:a.key=k'
   ·rw [if_pos e2,if_pos e2,if_neg (λh=>e (e2.trans h))]
   ·rw [if_neg e2,if_neg e2]
theorem H4 (h:UK l):UK (oA k l):=h.sublist (List.filter_sublist.map _)
theorem PH:(oA k l).length<=l.length:=List.length_filter_le _ _
theorem K4 {α:Type}[DecidableEq α]:∀ {l m:List α},l.Nodup->(∀ x∈l,x∈m)->l.length<=m.length
 | [],_,_,_=>Nat.zero_le _
 | a::l,m,h,hs=>by
  obtain⟨h1,h2⟩:=List.nodup_cons.1 h;have hm:=hs a (by simp)
  have:=K4 (l:=l) (m:=m.erase a) h2 λx hx=>(List.mem_erase_of_ne (λ(e:x=a)=>h1 (e ▸ hx))).2 (hs x (by simp [hx]))
  rw [List.length_erase_of_mem hm] at this
  have:=List.length_pos_of_mem hm
  simp;omega
theorem VL (h:UK m)(hs:∀ k,vl l k=none->vl m k=none):m.length<=l.length:=by
 have:=K4 (l:=m.map (·.key)) (m:=l.map (·.key)) (show (m.map (·.key)).Nodup from h) λk hk=>by apply Classical.byContradiction;intro hn;exact vK.1 (hs k (vK.2 hn)) hk
 simpa using this
end
section
variable {k v:List UInt8}
theorem K5 (u:Node)(k:List UInt8)(h:u.attrs.length<=1000000):jE (u,k)=some (match vl u.attrs k with | some v=>(v,true) | none=>([],false)):=by
 simp only [jE];have key:∀ n i,u.attrs.length - i=n->i<=u.attrs.length->ab jV (k,u,(i:Int))=some (match vl (u.attrs.drop i) k with | some v => .inr (v,true) | none => .inl ()):=by
  intro n
  induction n with
  | zero =>
   intro i hi h1
   have:i=u.attrs.length:=by omega
   subst this;rw [List.drop_length,vl];refine ae ?_;simp only [jV,aa];rw [if_neg (by omega)]
  | succ n ih =>
   intro i hi h1;obtain⟨a,ha⟩:=ay (l:=u.attrs) (k:=i) (by omega);rw [drop_cons ha,vl]
   by_cases e:a.key=k
   ·rw [if_pos e];refine ae ?_;simp only [jV,aa,ad,ha,bind_some];rw [if_pos (by omega),if_pos e]
   ·rw [if_neg e,<- ih (i+1) (by omega) (by omega)];refine aj ?_;simp only [jV,aa,ad,ha,bind_some];rw [if_pos (by omega),if_neg e,cD (by omega) (by omega)];rfl
 have h0:=key u.attrs.length 0 (by omega) (Nat.zero_le _);rw [show ab jV (k,⟨u.kind,u.tag,u.text,u.attrs,u.size⟩,(0:Int))=_ from h0,bind_some,List.drop_zero];cases vl u.attrs k <;> rfl
theorem Af (xs:List Attr)(k v:List UInt8)(hl:xs.length<=1000000):ix (xs,k,v)=some (wA k v xs):=by
 simp only [ix];rw [a6 (by simp;omega),bind_some,List.nil_append];have key:∀ n i,xs.length - i=n->i<=xs.length->(∀ b∈xs.take i,b.key≠k)->(∃ j,ab dH (k,v,xs,(i:Int))=some (.inr (wA k v xs))/\j=0)∨ab dH (k,v,xs,(i:Int))=some (.inl (k,v,xs))/\∀ b∈xs,b.key≠k:=by
  intro n
  induction n with
  | zero =>
   intro i hi h1 h2;right;rw [List.take_of_length_le (by omega)] at h2;refine⟨ae ?_,h2⟩;simp only [dH,aa];rw [if_neg (by omega)]
  | succ n ih =>
   intro i hi h1 h2;obtain⟨a,ha⟩:=ay (l:=xs) (k:=i) (by omega)
   by_cases e:a.key=k
   ·left;refine⟨0,ae ?_,rfl⟩;simp only [dH,aa,ad,Int.toNat_natCast,ha,bind_some];rw [if_pos (by omega),if_pos e,PG ha e h2,e]
   ·have step:dH (k,v,xs,(i:Int))=some (.nx (k,v,xs,((i+1:Nat):Int))):=by simp only [dH,aa,ad,Int.toNat_natCast,ha,bind_some];rw [if_pos (by omega),if_neg e,cD (by omega) (by omega)];rfl
    rw [aj step];refine ih (i+1) (by omega) (by omega) λb hb=>?_
    rw [List.take_add_one,ha,List.mem_append] at hb;rcases hb with hb | hb
    ·exact h2 b hb
    ·rw [List.mem_singleton.1 hb];exact e
 rcases key xs.length 0 (by omega) (Nat.zero_le _) (by simp) with⟨_,h,_⟩ | ⟨h,hn⟩
 ·rw [show ab dH (k,v,xs,(0:Int))=_ from h];rfl
 ·rw [show ab dH (k,v,xs,(0:Int))=_ from h];simp only [bind_some,oW];rw [a6 (by simp;omega),bind_some,JL];intro hm;obtain⟨b,hb,e⟩:=List.mem_map.1 hm;exact hn b hb e
theorem Ct (xs:List Attr)(k:List UInt8)(hl:xs.length<=1000000):kK (xs,k)=some (oA k xs):=by
 simp only [kK];have key:∀ n i (out:List Attr),xs.length - i=n->i<=xs.length->out.length<=i->ab dg (xs,k,out,(i:Int))=some (out++oA k (xs.drop i)):=by
  intro n
  induction n with
  | zero =>
   intro i out hi h1 h2;rw [List.drop_eq_nil_of_le (by omega)];refine ae ?_;simp only [dg,aa,oA,List.filter_nil,List.append_nil];rw [if_neg (by omega)]
  | succ n ih =>
   intro i out hi h1 h2;obtain⟨a,ha⟩:=ay (l:=xs) (k:=i) (by omega);rw [drop_cons ha]
   by_cases e:a.key=k
   ·have step:dg (xs,k,out,(i:Int))=some (.nx (xs,k,out,((i+1:Nat):Int))):=by simp only [dg,aa,ad,ha,bind_some,ne_eq];rw [if_pos (by omega),if_neg (λh=>h e),cD (by omega) (by omega)];rfl
    rw [aj step,ih (i+1) out (by omega) (by omega) (by omega)];simp [oA,e]
   ·have step:dg (xs,k,out,(i:Int))=some (.nx (xs,k,out++[a],((i+1:Nat):Int))):=by simp only [dg,aa,ad,ha,bind_some,ne_eq];rw [if_pos (by omega),if_pos e,a6 (by simp;omega),bind_some,cD (by omega) (by omega)];rfl
    rw [aj step,ih (i+1) _ (by omega) (by omega) (by simp;omega)];simp [oA,e]
 rw [show ab dg (xs,k,[],(0:Int))=_ from key xs.length 0 [] (by omega) (Nat.zero_le _) (Nat.zero_le _),bind_some];simp
end
structure PI (xa:List cr)(k:List UInt8)(j:Nat)(a:cr):Prop where
 get:xa[j]?=some a
 key:a.key=k
 fst:∀ b∈xa.take j,b.key≠k
def aH (xa:List cr):List Attr:=xa.map pX
theorem VM (xa:List cr):(aH xa).map (·.key)=xa.map (·.key):=by simp [aH,pX]
theorem sd (xa:List cr):(aH xa).length=xa.length:=by simp [aH]
theorem TJ:∀ {l:List Attr} {i:Nat} {a:Attr} {k:List UInt8},l[i]?=some a->a.key=k->(∀ b∈l.take i,b.key≠k)->vl l k=some a.val
 | [],_,_,_,h,_,_=>by simp at h
 | b::l,0,a,_,h,e,_=>by cases Option.some.inj h;rw [vl,if_pos e]
 | b::l,i+1,a,_,h,e,hn=>by rw [vl,if_neg (hn b (by simp))];exact TJ (l:=l) (i:=i) h e λc hc=>hn c (by simp [hc])
section
variable {S:List HN}{c j:Nat}{h:HN}{k v:List UInt8}{a:cr}{xa:List cr}
theorem PI.mp (h:PI xa k j a):(aH xa)[j]?=some (pX a)/\(pX a).key=k/\∀ b∈(aH xa).take j,b.key≠k:=by refine⟨by rw [aH,List.getElem?_map,h.get];rfl,h.key,λb hb=>?_⟩;rw [aH,<- List.map_take] at hb;obtain⟨y,hy,rfl⟩:=List.mem_map.1 hb;exact h.fst y hy
theorem PI.set (h:PI xa k j a)(v:List UInt8):aH (xa.set j ⟨a.ns,a.key,v⟩)=wA k v (aH xa):=by obtain⟨h1,h2,h3⟩:=h.mp;rw [PG h1 h2 h3,aH,List.map_set,<- h.key];rfl
theorem PI.vl (h:PI xa k j a):vl (aH xa) k=some a.val:=by obtain⟨h1,h2,h3⟩:=h.mp;exact TJ h1 h2 h3
theorem PJ (h:∀ b∈xa,b.key≠k):vl (aH xa) k=none:=by rw [vK,VM];intro hm;obtain⟨b,hb,e⟩:=List.mem_map.1 hm;exact h b hb e
theorem take_one {α:Type}{l:List α}{i:Nat}{a:α}{p:α->Prop}(h:l[i]?=some a)(h1:∀ b∈l.take i,p b)(h2:p a):∀ b∈l.take (i+1),p b:=λb hb=>by
 rw [List.take_add_one,h,List.mem_append] at hb;rcases hb with hb | hb
 ·exact h1 b hb
 ·rw [List.mem_singleton.1 hb];exact h2
theorem PK (hg:S[c]?=some h)(k:List UInt8)(hl:h.attrs.length<=1000000):(∃ j a,PI h.attrs k j a/\ct (k,some c,S)=some (some (c,j),S))∨(∀ b∈h.attrs,b.key≠k)/\ct (k,some c,S)=some (none,S):=by
 simp only [ct,Option.isNone_some,cond_false,bind_some,hg];have key:∀ n i,h.attrs.length - i=n->i<=h.attrs.length->(∀ b∈h.attrs.take i,b.key≠k)->(∃ j a,PI h.attrs k j a/\ab bj (k,some c,c,(h.attrs.length:Int),(i:Int),S)=some (.inr (some (c,j),S)))∨(∀ b∈h.attrs,b.key≠k)/\ab bj (k,some c,c,(h.attrs.length:Int),(i:Int),S)=some (.inl S):=by
  intro n
  induction n with
  | zero =>
   intro i hi h1 h2;rw [List.take_of_length_le (by omega)] at h2;refine .inr ⟨h2,ae ?_⟩;simp only [bj,aa];rw [if_neg (by omega)]
  | succ n ih =>
   intro i hi h1 h2;obtain⟨a,Sg⟩:=ay (l:=h.attrs) (k:=i) (by omega)
   by_cases e:a.key=k
   ·refine .inl ⟨i,a,⟨Sg,e,h2⟩,ae ?_⟩;simp only [bj,aa,bind_some,hg,ad,Int.toNat_natCast,Sg];rw [if_pos (by omega),if_pos e]
   ·have step:bj (k,some c,c,(h.attrs.length:Int),(i:Int),S)=some (.nx (k,some c,c,(h.attrs.length:Int),((i+1:Nat):Int),S)):=by simp only [bj,aa,bind_some,hg,ad,Int.toNat_natCast,Sg];rw [if_pos (by omega),if_neg e,cD (by omega) (by omega)];rfl
    rw [aj step];exact ih (i+1) (by omega) (by omega) (take_one Sg h2 e)
 rcases key h.attrs.length 0 (by omega) (Nat.zero_le _) (by simp) with⟨j,a,h1,h2⟩ | ⟨h1,h2⟩
 ·exact .inl ⟨j,a,h1,by rw [show ab bj (k,some c,c,(h.attrs.length:Int),(0:Int),S)=_ from h2];rfl⟩
 ·exact .inr ⟨h1,by rw [show ab bj (k,some c,c,(h.attrs.length:Int),(0:Int),S)=_ from h2];rfl⟩
theorem PL {α:Type}{A B:List α}{x y z:α}(hz:(A++x::B)[(A++x::B).length - 1]?=some z):((((A++x::B).set A.length z).set ((A++x::B).length - 1) y).take ((A++x::B).length - 1)).Perm (A++B):=by
 rcases List.eq_nil_or_concat B with rfl | ⟨C,w,rfl⟩
 ·simp
 ·rw [List.concat_eq_append] at hz ⊢;have e:(A++x::(C++[w])).length - 1=(A++x::C).length:=by simp
  have e2:A++x::(C++[w])=(A++x::C)++[w]:=by simp
  rw [e] at hz ⊢;rw [e2] at hz ⊢;rw [List.getElem?_append_right (Nat.le_refl _),Nat.sub_self] at hz;obtain rfl:w=z:=Option.some.inj hz;have e3:((A++x::C)++[w]).set A.length w=(A++w::C)++[w]:=by simp [List.set_append]
  have e4:(A++x::C).length=(A++w::C).length:=by simp
  rw [e3,e4,List.set_append_right _ _ (Nat.le_refl _),List.take_left' rfl];exact List.Perm.append_left A ((List.perm_append_singleton w C).symm)
theorem PM {A B:List Attr}{x:Attr}(hu:UK (A++x::B))(hx:x.key=k):oA k (A++x::B)=A++B:=by
 unfold UK at hu;rw [List.map_append,List.map_cons,List.nodup_append] at hu;obtain⟨_,h2,h3⟩:=hu;obtain⟨h4,_⟩:=List.nodup_cons.1 h2;unfold oA;rw [List.filter_append,List.filter_cons,if_neg (by simp [hx])]
 congr 1
 ·refine List.filter_eq_self.2 λb hb=>?_
  have:=h3 b.key (List.mem_map.2 ⟨b,hb,rfl⟩) x.key (by simp)
  rw [hx] at this;simpa using this
 ·refine List.filter_eq_self.2 λb hb=>?_
  have:b.key≠k:=λe=>h4 (List.mem_map.2 ⟨b,hb,e.trans hx.symm⟩)
  simpa using this
theorem Bq (hg:S[c]?=some h):S.set c h=S:=by
 apply List.ext_getElem?;intro i
 by_cases e:c=i
 ·subst e;rw [List.getElem?_set_self (List.getElem?_eq_some_iff.1 hg).1,hg]
 ·rw [List.getElem?_set_ne e]
theorem Eg (hg:S[c]?=some h)(k:List UInt8)(hl:h.attrs.length<=1000001)(hu:UK (aH h.attrs)):∃ zs,eO (some c,k,S)=some (S.set c (h.wa zs))/\(oA k (aH h.attrs)).Perm (aH zs):=by
 have l6:=(List.getElem?_eq_some_iff.1 hg).1;simp only [eO,bind_some,hg];have key:∀ n i,h.attrs.length - i=n->i<=h.attrs.length->(∀ b∈h.attrs.take i,b.key≠k)->(∃ zs,ab b7 (some c,k,c,(h.attrs.length:Int),(i:Int),S)=some (.inr (S.set c (h.wa zs)))/\(oA k (aH h.attrs)).Perm (aH zs))∨(∀ b∈h.attrs,b.key≠k)/\ab b7 (some c,k,c,(h.attrs.length:Int),(i:Int),S)=some (.inl S):=by
  intro n
  induction n with
  | zero =>
   intro i hi h1 h2;rw [List.take_of_length_le (by omega)] at h2;refine .inr ⟨h2,ae ?_⟩;simp only [b7,aa];rw [if_neg (by omega)]
  | succ n ih =>
   intro i hi h1 h2;obtain⟨a,Sg⟩:=ay (l:=h.attrs) (k:=i) (by omega)
   by_cases e:a.key=k
   ·obtain⟨z,hz⟩:=ay (l:=h.attrs) (k:=h.attrs.length - 1) (by omega);have hw:IntKind.wrap .i64 ((h.attrs.length:Int) - (1:Int))=((h.attrs.length - 1:Nat):Int):=by rw [cD (by omega) (by omega)];omega
    have hs:gn h.attrs (0:Int) ((h.attrs.length - 1:Nat):Int)=some (h.attrs.take (h.attrs.length - 1)):=xG (by omega);obtain⟨y,hy⟩:=ay (l:=h.attrs.set i ⟨z.ns,z.key,z.val⟩) (k:=h.attrs.length - 1) (by simp;omega);have g1:∀ x:HN,(S.set c x)[c]?=some x:=λx=>List.getElem?_set_self l6
    have g2:∀ x y:HN,((S.set c x).set c y)[c]?=some y:=λx y=>List.getElem?_set_self (by simpa using l6)
    have at9:∀ x,(h.wa x).attrs=x:=λ_=>rfl
    refine .inl ⟨((h.attrs.set i ⟨z.ns,z.key,z.val⟩).set (h.attrs.length - 1) ⟨[],[],[]⟩).take (h.attrs.length - 1),ae ?_,?_⟩
    ·simp only [b7,aa,bind_some,hg,hw,ad,Int.toNat_natCast,Sg,hz,hs,g1,g2,at9,hy];rw [if_pos (by omega),if_pos e,if_pos trivial];simp only [List.set_set,HN.wa]
    ·have lC:h.attrs=h.attrs.take i++a::h.attrs.drop (i+1):=by rw [<- drop_cons Sg,List.take_append_drop]
     have K6:(h.attrs.take i).length=i:=by rw [List.length_take];omega
     have hp:=PL (A:=h.attrs.take i) (B:=h.attrs.drop (i+1)) (x:=a) (y:=⟨[],[],[]⟩) (z:=z) (by rw [<- lC];exact hz);rw [<- lC,K6] at hp;have e2:oA k (aH h.attrs)=aH (h.attrs.take i++h.attrs.drop (i+1)):=by
      rw [lC] at hu;have e3:∀ (A B:List cr),aH (A++B)=aH A++aH B:=λA B=>by simp [aH]
      have e4:∀ (B:List cr),aH (a::B)=pX a::aH B:=λB=>rfl
      rw [e3,e4] at hu
      conv=>lhs;rw [lC]
      rw [e3,e4,PM hu e,e3]
     rw [e2];exact (hp.map pX).symm
   ·have step:b7 (some c,k,c,(h.attrs.length:Int),(i:Int),S)=some (.nx (some c,k,c,(h.attrs.length:Int),((i+1:Nat):Int),S)):=by simp only [b7,aa,bind_some,hg,ad,Int.toNat_natCast,Sg];rw [if_pos (by omega),if_neg e,cD (by omega) (by omega)];rfl
    rw [aj step];exact ih (i+1) (by omega) (by omega) (take_one Sg h2 e)
 rcases key h.attrs.length 0 (by omega) (Nat.zero_le _) (by simp) with⟨zs,h1,h2⟩ | ⟨h1,h2⟩
 ·exact⟨zs,by rw [show ab b7 (some c,k,c,(h.attrs.length:Int),(0:Int),S)=_ from h1];rfl,h2⟩
 ·refine⟨h.attrs,by rw [show ab b7 (some c,k,c,(h.attrs.length:Int),(0:Int),S)=_ from h2,show h.wa h.attrs=h from rfl,Bq hg];rfl,?_⟩;rw [show oA k (aH h.attrs)=aH h.attrs from List.filter_eq_self.2 λb hb=>by
   obtain⟨y,hy,rfl⟩:=List.mem_map.1 hb
   have:¬ (pX y).key=k:=h1 y hy
   simp only [this,decide_false,Bool.not_false]]
def cl (l:List Attr):List UInt8:=(vl l cA).getD []
theorem JM (hg:S[c]?=some h)(h3:h.ty=3)(hl:h.attrs.length<=1000000)(hv:(cl (aH h.attrs)).length<=2000000000) :
  ∃ xb j a,cF (some c,S)=some ((32::(cl (aH h.attrs)++[32])).map sL,some (c,j),S.set c (h.wa xb))/\PI xb cA j a/\(aH xb=aH h.attrs∨vl (aH h.attrs) cA=none/\aH xb=wA cA [] (aH h.attrs)):=by
 have l6:=(List.getElem?_eq_some_iff.1 hg).1;have tail:∀ (w:List UInt8),w=cl (aH h.attrs)->(mr [(32:UInt8)] w).bind (λr=>(mr r [(32:UInt8)]).bind λr=>eY r)=some ((32::(cl (aH h.attrs)++[32])).map sL):=λw hw=>by subst hw;rw [j_ (by simp;omega),bind_some,j_ (by simp;omega),bind_some,FA _ (by simp;omega)];rfl
 rcases PK hg cA hl with⟨j,a,ha,hp⟩ | ⟨hn,hp⟩
 ·have Az:a.val=cl (aH h.attrs):=by rw [cl,ha.vl];rfl
  refine⟨h.attrs,j,a,?_,ha, .inl rfl⟩;rw [show h.wa h.attrs=h from rfl,Bq hg];have hp:ct ([(99:UInt8),(108:UInt8),(97:UInt8),(115:UInt8),(115:UInt8)],some c,S)=_:=hp;simp only [cF,bind_some,hg,aa];rw [h3,if_pos rfl,hp,bind_some];simp only [Option.isNone_some,cond_false,bind_some,hg,ha.get]
  have:=tail a.val Az
  rw [j_ (by rw [Az];simp;omega),bind_some,j_ (by rw [Az];simp;omega),bind_some] at this ⊢;rw [this,bind_some]
 ·have BL:vl (aH h.attrs) cA=none:=PJ hn;have Tj:cl (aH h.attrs)=[]:=by rw [cl,BL];rfl
  have TK:(h.attrs++[(⟨[],cA,[]⟩:cr)])[h.attrs.length]?=some ⟨[],cA,[]⟩:=by simp
  have g1:∀ x:HN,(S.set c x)[c]?=some x:=λx=>List.getElem?_set_self l6
  have at9:∀ x,(h.wa x).attrs=x:=λ_=>rfl
  refine⟨h.attrs++[⟨[],cA,[]⟩],h.attrs.length,⟨[],cA,[]⟩,?_,⟨TK,rfl,λb hb=>?_⟩, .inr ⟨BL,?_⟩⟩
  ·have hp:ct ([(99:UInt8),(108:UInt8),(97:UInt8),(115:UInt8),(115:UInt8)],some c,S)=_:=hp;simp only [cF,bind_some,hg,aa];rw [h3,if_pos rfl,hp,bind_some];simp only [Option.isNone_none,cond_true,bind_some,hg];rw [a6 (by simp;omega),bind_some,if_pos trivial];simp only [g1,bind_some,at9];have hw:IntKind.wrap .i64 (((h.attrs++[(⟨[],[(99:UInt8),(108:UInt8),(97:UInt8),(115:UInt8),(115:UInt8)],[]⟩:cr)]).length:Int) - (1:Int))=((h.attrs.length:Nat):Int):=by rw [cD (by simp only [List.length_append,List.length_cons,List.length_nil];omega) (by simp only [List.length_append,List.length_cons,List.length_nil];omega)];simp only [List.length_append,List.length_cons,List.length_nil];omega
   have VN:(h.attrs++[(⟨[],[(99:UInt8),(108:UInt8),(97:UInt8),(115:UInt8),(115:UInt8)],[]⟩:cr)])[h.attrs.length]?=some ⟨[],cA,[]⟩:=TK;rw [hw,ad,Int.toNat_natCast,VN,bind_some,bind_some]
   have:=tail [] Tj.symm
   rw [j_ (by simp),bind_some,j_ (by simp),bind_some] at this ⊢;rw [this,bind_some];rfl
  ·rw [List.take_left' rfl] at hb;exact hn b hb
  ·rw [JL (vK.1 BL)];simp [aH,pX]
theorem Sj (hg:S[c]?=some h)(ha:PI h.attrs cA j a)(hl:h.attrs.length<=1000001)(hu:UK (aH h.attrs)){cur t:List UInt8}(ht:cR cur=some t) :
  ∃ zs,dK (some c,some (c,j),cur,S)=some (S.set c (h.wa zs))/\UK (aH zs)/\∀ k,vl (aH zs) k=if k=cA then (if t=[] then none else some t) else vl (aH h.attrs) k:=by
 by_cases e:t=[]
 ·subst e;obtain⟨zs,h1,h2⟩:=Eg hg cA hl hu;refine⟨zs,?_,(h2.map _).nodup_iff.1 (H4 hu),λk=>?_⟩
  ·simp only [dK,ht,bind_some,tr,aa];rw [if_pos trivial,show eO (some c,[(99:UInt8),(108:UInt8),(97:UInt8),(115:UInt8),(115:UInt8)],S)=_ from h1];rfl
  ·rw [K1 (H4 hu) h2,Cs,if_pos rfl]
 ·refine⟨h.attrs.set j ⟨a.ns,a.key,t⟩,?_,?_,λk=>?_⟩
  ·simp only [dK,ht,bind_some,tr,aa];rw [if_neg e];simp only [hg,bind_some,ha.get]
  ·rw [ha.set];exact H3 hu
  ·rw [ha.set,yy,if_neg e]
end
end Go.Proofs.YtngabkipchpmpaaGreat.V
