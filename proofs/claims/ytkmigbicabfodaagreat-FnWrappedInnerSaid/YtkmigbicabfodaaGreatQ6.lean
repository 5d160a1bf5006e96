/-
  Plain facts and an evaluator for what a law needs.
-/
import Derived.Test.YtkmigbicabfodaaGreatQ5
set_option linter.unusedVariables false
set_option linter.unusedSimpArgs false
namespace Go.Proofs.YtkmigbicabfodaaGreat.V
open Go Go.Proofs
abbrev p_goquery_appendWithoutDuplicates_mp:Pt:=[(0, .own .np 51),(1, .lst .np),(2, .mp)]
abbrev q_goquery_appendWithoutDuplicates_mp:Pt:=[(0, .own .np 51),(1002, .mp)]
abbrev p_goquery_appendWithoutDuplicates_mp_0:Pt:=[(0, .own .np 51),(2, .mp),(23, .lst .np),(24, .int .i64),(25, .int .i64)]
abbrev x_goquery_appendWithoutDuplicates_mp_0:List (Xt×Pt):=[(.ex 0,[(0, .own .np 51),(2, .mp)])]
noncomputable def m_goquery_appendWithoutDuplicates_mp_0:Tup p_goquery_appendWithoutDuplicates_mp_0→Option (Stp (Tup p_goquery_appendWithoutDuplicates_mp_0) (SumT (x_goquery_appendWithoutDuplicates_mp_0.map (·.2)))):=fun (x:List (Option Nat)×List (Option Nat×Bool)×List (Option Nat)×Int×Int)=>bif decide (x.2.2.2.2<x.2.2.2.1) then Option.bind (atI x.2.2.1 x.2.2.2.2) fun (v:Option Nat)=>Option.bind (m_goquery_isInSlice (x.1,v)) fun (r:Bool)=>bif !r then Option.bind (appL x.1 [v]) fun (r:List (Option Nat))=>some (Stp.nx (r,x.2.1,x.2.2.1,x.2.2.2.1,IntKind.wrap .i64 (x.2.2.2.2+(1:Int)))) else some (Stp.nx (x.1,x.2.1,x.2.2.1,x.2.2.2.1,IntKind.wrap .i64 (x.2.2.2.2+(1:Int)))) else some (Stp.out (x.1,x.2.1))
abbrev p_goquery_appendWithoutDuplicates_mp_1:Pt:=[(0, .own .np 51),(1, .lst .np),(2, .mp),(47, .al 0),(48, .int .i64),(49, .int .i64)]
abbrev x_goquery_appendWithoutDuplicates_mp_1:List (Xt×Pt):=[(.ex 2,[(0, .own .np 51),(1, .lst .np),(2, .mp)])]
noncomputable def m_goquery_appendWithoutDuplicates_mp_1:Tup p_goquery_appendWithoutDuplicates_mp_1→Option (Stp (Tup p_goquery_appendWithoutDuplicates_mp_1) (SumT (x_goquery_appendWithoutDuplicates_mp_1.map (·.2)))):=fun (x:List (Option Nat)×List (Option Nat)×List (Option Nat×Bool)×PUnit×Int×Int)=>bif decide (x.2.2.2.2.2<x.2.2.2.2.1) then Option.bind (atI x.1 x.2.2.2.2.2) fun (x_1:Option Nat)=>Option.bind x.1[Int.toNat x.2.2.2.2.2]? fun (v:Option Nat)=>some (Stp.nx (x.1,x.2.1,mput x.2.2.1 v true,(),x.2.2.2.2.1,IntKind.wrap .i64 (x.2.2.2.2.2+(1:Int)))) else some (Stp.out (x.1,x.2.1,x.2.2.1))
abbrev p_goquery_appendWithoutDuplicates_mp_2:Pt:=[(0, .own .np 51),(2, .mp),(56, .lst .np),(57, .int .i64),(58, .int .i64)]
abbrev x_goquery_appendWithoutDuplicates_mp_2:List (Xt×Pt):=[(.ex 4,[(0, .own .np 51),(2, .mp)])]
noncomputable def m_goquery_appendWithoutDuplicates_mp_2:Tup p_goquery_appendWithoutDuplicates_mp_2→Option (Stp (Tup p_goquery_appendWithoutDuplicates_mp_2) (SumT (x_goquery_appendWithoutDuplicates_mp_2.map (·.2)))):=fun (x:List (Option Nat)×List (Option Nat×Bool)×List (Option Nat)×Int×Int)=>bif decide (x.2.2.2.2<x.2.2.2.1) then Option.bind (atI x.2.2.1 x.2.2.2.2) fun (v:Option Nat)=>bif !mget x.2.1 v then Option.bind (appL x.1 [v]) fun (r:List (Option Nat))=>some (Stp.nx (r,mput x.2.1 v true,x.2.2.1,x.2.2.2.1,IntKind.wrap .i64 (x.2.2.2.2+(1:Int)))) else some (Stp.nx (x.1,x.2.1,x.2.2.1,x.2.2.2.1,IntKind.wrap .i64 (x.2.2.2.2+(1:Int)))) else some (Stp.out (x.1,x.2.1))
noncomputable def m_goquery_appendWithoutDuplicates_mp:Tup p_goquery_appendWithoutDuplicates_mp→Option (Tup q_goquery_appendWithoutDuplicates_mp):=fun (x:List (Option Nat)×List (Option Nat)×List (Option Nat×Bool))=>Option.bind (loopO m_goquery_appendWithoutDuplicates_mp_2 (x.1,x.2.2,x.2.1,(↑(List.length x.2.1):Int),(0:Int))) fun (y:List (Option Nat)×List (Option Nat×Bool))=>some (y.1,y.2)
noncomputable def cx_goquery_appendWithoutDuplicates_mp:Cx:=⟨tb,lookE [(87,e_goquery_isInSlice)],lookS [],mth,ast⟩
theorem ck_goquery_appendWithoutDuplicates_mp:CxOK Tryz.prog (cx_goquery_appendWithoutDuplicates_mp):=cx_ok tb_ok if_ok (.cons ok_goquery_isInSlice Tryz.call87 .nil)
noncomputable def c_goquery_appendWithoutDuplicates_mp_0:Code:=loopAt (Go.Proofs.Tryz.f53.body.getD .skip) 0
noncomputable def l_goquery_appendWithoutDuplicates_mp_0:LEnt:=⟨p_goquery_appendWithoutDuplicates_mp_0,x_goquery_appendWithoutDuplicates_mp_0,loopO (m_goquery_appendWithoutDuplicates_mp_0)⟩
theorem lo_goquery_appendWithoutDuplicates_mp_0:LOK Tryz.prog 74 2003 false (l_goquery_appendWithoutDuplicates_mp_0) c_goquery_appendWithoutDuplicates_mp_0:=loop_ok (body:=m_goquery_appendWithoutDuplicates_mp_0) (L:=lookL []) (ck_goquery_appendWithoutDuplicates_mp) mixed (ls_ok (l:=[]) (by kernel_rfl) .nil) (by intro x; kernel_rfl) (fun x y h=>loopO_iff.1 h)
noncomputable def c_goquery_appendWithoutDuplicates_mp_1:Code:=loopAt (Go.Proofs.Tryz.f53.body.getD .skip) 1
noncomputable def l_goquery_appendWithoutDuplicates_mp_1:LEnt:=⟨p_goquery_appendWithoutDuplicates_mp_1,x_goquery_appendWithoutDuplicates_mp_1,loopO (m_goquery_appendWithoutDuplicates_mp_1)⟩
theorem lo_goquery_appendWithoutDuplicates_mp_1:LOK Tryz.prog 74 2003 false (l_goquery_appendWithoutDuplicates_mp_1) c_goquery_appendWithoutDuplicates_mp_1:=loop_ok (body:=m_goquery_appendWithoutDuplicates_mp_1) (L:=lookL []) (ck_goquery_appendWithoutDuplicates_mp) mixed (ls_ok (l:=[]) (by kernel_rfl) .nil) (by intro x; kernel_rfl) (fun x y h=>loopO_iff.1 h)
noncomputable def c_goquery_appendWithoutDuplicates_mp_2:Code:=loopAt (Go.Proofs.Tryz.f53.body.getD .skip) 2
noncomputable def l_goquery_appendWithoutDuplicates_mp_2:LEnt:=⟨p_goquery_appendWithoutDuplicates_mp_2,x_goquery_appendWithoutDuplicates_mp_2,loopO (m_goquery_appendWithoutDuplicates_mp_2)⟩
theorem lo_goquery_appendWithoutDuplicates_mp_2:LOK Tryz.prog 74 2003 false (l_goquery_appendWithoutDuplicates_mp_2) c_goquery_appendWithoutDuplicates_mp_2:=loop_ok (body:=m_goquery_appendWithoutDuplicates_mp_2) (L:=lookL []) (ck_goquery_appendWithoutDuplicates_mp) mixed (ls_ok (l:=[]) (by kernel_rfl) .nil) (by intro x; kernel_rfl) (fun x y h=>loopO_iff.1 h)
noncomputable def e_goquery_appendWithoutDuplicates_mp:Ent:=⟨2003,p_goquery_appendWithoutDuplicates_mp,q_goquery_appendWithoutDuplicates_mp,m_goquery_appendWithoutDuplicates_mp⟩
theorem ok_goquery_appendWithoutDuplicates_mp:FnOK Tryz.prog 53 e_goquery_appendWithoutDuplicates_mp:=fn_ok (L:=lookL [(0,l_goquery_appendWithoutDuplicates_mp_0),(2,l_goquery_appendWithoutDuplicates_mp_1),(4,l_goquery_appendWithoutDuplicates_mp_2)]) ck_goquery_appendWithoutDuplicates_mp mixed Tryz.func53 rfl (by kernel_rfl) (by kernel_rfl) (ls_ok (l:=[(0,c_goquery_appendWithoutDuplicates_mp_0),(2,c_goquery_appendWithoutDuplicates_mp_1),(4,c_goquery_appendWithoutDuplicates_mp_2)]) (by kernel_rfl) (.cons rfl (lo_goquery_appendWithoutDuplicates_mp_0) (.cons rfl (lo_goquery_appendWithoutDuplicates_mp_1) (.cons rfl (lo_goquery_appendWithoutDuplicates_mp_2) .nil)))) (by intro x; kernel_rfl)
end Go.Proofs.YtkmigbicabfodaaGreat.V
set_option linter.unusedVariables false
set_option linter.unusedSimpArgs false
namespace Go.Proofs.YtkmigbicabfodaaGreat.V
open Go Go.Proofs
abbrev p_goquery_Selection_Length:Pt:=[(0, .fp (.rc .nps [] 2))]
abbrev q_goquery_Selection_Length:Pt:=[(0, .int .i64)]
noncomputable def m_goquery_Selection_Length:Tup p_goquery_Selection_Length→Option (Tup q_goquery_Selection_Length):=fun (x:List (Option Nat))=>some (↑(List.length x):Int)
noncomputable def cx_goquery_Selection_Length:Cx:=⟨tb,lookE [],lookS [],mth,ast⟩
theorem ck_goquery_Selection_Length:CxOK Tryz.prog (cx_goquery_Selection_Length):=cx_ok tb_ok if_ok .nil
noncomputable def e_goquery_Selection_Length:Ent:=⟨0,p_goquery_Selection_Length,q_goquery_Selection_Length,m_goquery_Selection_Length⟩
theorem ok_goquery_Selection_Length:FnOK Tryz.prog 61 e_goquery_Selection_Length:=fn_ok (L:=lookL []) ck_goquery_Selection_Length mixed Tryz.func61 rfl (by kernel_rfl) (by kernel_rfl) (ls_ok (l:=[]) (by kernel_rfl) .nil) (by intro x; kernel_rfl)
abbrev p_goquery_Selection_Size:Pt:=[(0, .fp (.rc .nps [] 2))]
abbrev q_goquery_Selection_Size:Pt:=[(0, .int .i64)]
noncomputable def m_goquery_Selection_Size:Tup p_goquery_Selection_Size→Option (Tup q_goquery_Selection_Size):=fun (x:List (Option Nat))=>Option.bind (m_goquery_Selection_Length x) fun (r:Int)=>some r
noncomputable def cx_goquery_Selection_Size:Cx:=⟨tb,lookE [(61,e_goquery_Selection_Length)],lookS [],mth,ast⟩
theorem ck_goquery_Selection_Size:CxOK Tryz.prog (cx_goquery_Selection_Size):=cx_ok tb_ok if_ok (.cons ok_goquery_Selection_Length Tryz.call61 .nil)
noncomputable def e_goquery_Selection_Size:Ent:=⟨0,p_goquery_Selection_Size,q_goquery_Selection_Size,m_goquery_Selection_Size⟩
theorem ok_goquery_Selection_Size:FnOK Tryz.prog 32 e_goquery_Selection_Size:=fn_ok (L:=lookL []) ck_goquery_Selection_Size mixed Tryz.func32 rfl (by kernel_rfl) (by kernel_rfl) (ls_ok (l:=[]) (by kernel_rfl) .nil) (by intro x; kernel_rfl)
abbrev p_goquery_Selection_AppendNodes_1:Pt:=[(0, .np),(1, .np),(NT, .ns .h 82 135)]
abbrev q_goquery_Selection_AppendNodes_1:Pt:=[(NT, .ns .h 82 135)]
noncomputable def m_goquery_Selection_AppendNodes_1:Tup p_goquery_Selection_AppendNodes_1→Option (Tup q_goquery_Selection_AppendNodes_1):=fun (x:Option Nat×Option Nat×List HN)=>Option.bind (m_html_Node_AppendChild (x.1,x.2.1,x.2.2)) fun (r:List HN)=>some r
noncomputable def cx_goquery_Selection_AppendNodes_1:Cx:=⟨tb,lookE [(62,e_html_Node_AppendChild)],lookS [],mth,ast⟩
theorem ck_goquery_Selection_AppendNodes_1:CxOK Tryz.prog (cx_goquery_Selection_AppendNodes_1):=cx_ok tb_ok if_ok (.cons ok_html_Node_AppendChild Tryz.call62 .nil)
noncomputable def e_goquery_Selection_AppendNodes_1:Ent:=⟨0,p_goquery_Selection_AppendNodes_1,q_goquery_Selection_AppendNodes_1,m_goquery_Selection_AppendNodes_1⟩
theorem ok_goquery_Selection_AppendNodes_1:FnOK Tryz.prog 90 e_goquery_Selection_AppendNodes_1:=fn_ok (L:=lookL []) ck_goquery_Selection_AppendNodes_1 mixed Tryz.func90 rfl (by kernel_rfl) (by kernel_rfl) (ls_ok (l:=[]) (by kernel_rfl) .nil) (by intro x; kernel_rfl)
abbrev p_goquery_Selection_manipulateNodes_appl:Pt:=[(0, .fp (.rc .nps [] 2)),(1, .lst .np),(2, .bool),(3, .clo 90 []),(NT, .ns .h 82 135)]
abbrev q_goquery_Selection_manipulateNodes_appl:Pt:=[(0, .any),(NT, .ns .h 82 135)]
abbrev p_goquery_Selection_manipulateNodes_appl_0:Pt:=[(0, .fp (.rc .nps [] 2)),(1, .lst .np),(3, .clo 90 []),(9, .int .i64),(10, .int .i64),(11, .int .i64),(NT, .ns .h 82 135)]
abbrev x_goquery_Selection_manipulateNodes_appl_0:List (Xt×Pt):=[(.ex 0,[(0, .fp (.rc .nps [] 2)),(1, .lst .np),(3, .clo 90 []),(9, .int .i64),(NT, .ns .h 82 135)])]
noncomputable def m_goquery_Selection_manipulateNodes_appl_0:Tup p_goquery_Selection_manipulateNodes_appl_0→Option (Stp (Tup p_goquery_Selection_manipulateNodes_appl_0) (SumT (x_goquery_Selection_manipulateNodes_appl_0.map (·.2)))):=fun (x:List (Option Nat)×List (Option Nat)×PUnit×Int×Int×Int×List HN)=>bif decide (x.2.2.2.2.1<x.2.2.2.2.2.1) then Option.bind (atI x.2.1 x.2.2.2.2.2.1) fun (v:Option Nat)=>Option.bind (atI x.2.1 x.2.2.2.2.1) fun (v:Option Nat)=>Option.bind (atI x.2.1 x.2.2.2.2.1) fun (v:Option Nat)=>none else some (Stp.out (x.1,x.2.1,(),x.2.2.2.1,x.2.2.2.2.2.2))
abbrev p_goquery_Selection_manipulateNodes_appl_1_0:Pt:=[(0, .fp (.rc .nps [] 2)),(1, .lst .np),(3, .clo 90 []),(9, .int .i64),(12, .int .i64),(13, .np),(47, .lst .np),(48, .int .i64),(49, .int .i64),(54, .lst .np),(55, .int .i64),(56, .int .i64),(NT, .ns .h 82 135)]
abbrev x_goquery_Selection_manipulateNodes_appl_1_0:List (Xt×Pt):=[(.ex 4,[(0, .fp (.rc .nps [] 2)),(1, .lst .np),(3, .clo 90 []),(9, .int .i64),(47, .lst .np),(48, .int .i64),(49, .int .i64),(NT, .ns .h 82 135)])]
noncomputable def m_goquery_Selection_manipulateNodes_appl_1_0:Tup p_goquery_Selection_manipulateNodes_appl_1_0→Option (Stp (Tup p_goquery_Selection_manipulateNodes_appl_1_0) (SumT (x_goquery_Selection_manipulateNodes_appl_1_0.map (·.2)))):=fun (x:List (Option Nat)×List (Option Nat)×PUnit×Int×Int×Option Nat×List (Option Nat)×Int×Int×List (Option Nat)×Int×Int×List HN)=>bif decide (x.2.2.2.2.2.2.2.2.2.2.2.1<x.2.2.2.2.2.2.2.2.2.2.1) then Option.bind (atI x.2.2.2.2.2.2.2.2.2.1 x.2.2.2.2.2.2.2.2.2.2.2.1) fun (v:Option Nat)=>bif decide (x.2.2.2.2.1≠x.2.2.2.1) then Option.bind (m_goquery_cloneNode big (v,x.2.2.2.2.2.2.2.2.2.2.2.2)) fun (r:Option Nat×List HN)=>Option.bind (m_goquery_Selection_AppendNodes_1 (x.2.2.2.2.2.1,r.1,r.2)) fun (r:List HN)=>some (Stp.nx (x.1,x.2.1,(),x.2.2.2.1,x.2.2.2.2.1,x.2.2.2.2.2.1,x.2.2.2.2.2.2.1,x.2.2.2.2.2.2.2.1,x.2.2.2.2.2.2.2.2.1,x.2.2.2.2.2.2.2.2.2.1,x.2.2.2.2.2.2.2.2.2.2.1,IntKind.wrap .i64 (x.2.2.2.2.2.2.2.2.2.2.2.1+(1:Int)),r)) else Option.bind v fun (i:Nat)=>Option.bind (some i) fun (i:Nat)=>Option.bind x.2.2.2.2.2.2.2.2.2.2.2.2[i]? fun (h:HN)=>bif !Option.isNone (HN.par h) then Option.bind v fun (i:Nat)=>Option.bind (some i) fun (i:Nat)=>Option.bind x.2.2.2.2.2.2.2.2.2.2.2.2[i]? fun (h:HN)=>Option.bind (m_html_Node_RemoveChild (HN.par h,v,x.2.2.2.2.2.2.2.2.2.2.2.2)) fun (r:List HN)=>Option.bind (m_goquery_Selection_AppendNodes_1 (x.2.2.2.2.2.1,v,r)) fun (r:List HN)=>some (Stp.nx (x.1,x.2.1,(),x.2.2.2.1,x.2.2.2.2.1,x.2.2.2.2.2.1,x.2.2.2.2.2.2.1,x.2.2.2.2.2.2.2.1,x.2.2.2.2.2.2.2.2.1,x.2.2.2.2.2.2.2.2.2.1,x.2.2.2.2.2.2.2.2.2.2.1,IntKind.wrap .i64 (x.2.2.2.2.2.2.2.2.2.2.2.1+(1:Int)),r)) else Option.bind (m_goquery_Selection_AppendNodes_1 (x.2.2.2.2.2.1,v,x.2.2.2.2.2.2.2.2.2.2.2.2)) fun (r:List HN)=>some (Stp.nx (x.1,x.2.1,(),x.2.2.2.1,x.2.2.2.2.1,x.2.2.2.2.2.1,x.2.2.2.2.2.2.1,x.2.2.2.2.2.2.2.1,x.2.2.2.2.2.2.2.2.1,x.2.2.2.2.2.2.2.2.2.1,x.2.2.2.2.2.2.2.2.2.2.1,IntKind.wrap .i64 (x.2.2.2.2.2.2.2.2.2.2.2.1+(1:Int)),r)) else some (Stp.out (x.1,x.2.1,(),x.2.2.2.1,x.2.2.2.2.2.2.1,x.2.2.2.2.2.2.2.1,x.2.2.2.2.2.2.2.2.1,x.2.2.2.2.2.2.2.2.2.2.2.2))
abbrev p_goquery_Selection_manipulateNodes_appl_1:Pt:=[(0, .fp (.rc .nps [] 2)),(1, .lst .np),(3, .clo 90 []),(9, .int .i64),(47, .lst .np),(48, .int .i64),(49, .int .i64),(NT, .ns .h 82 135)]
abbrev x_goquery_Selection_manipulateNodes_appl_1:List (Xt×Pt):=[(.ex 2,[(0, .fp (.rc .nps [] 2)),(NT, .ns .h 82 135)])]
noncomputable def m_goquery_Selection_manipulateNodes_appl_1:Tup p_goquery_Selection_manipulateNodes_appl_1→Option (Stp (Tup p_goquery_Selection_manipulateNodes_appl_1) (SumT (x_goquery_Selection_manipulateNodes_appl_1.map (·.2)))):=fun (x:List (Option Nat)×List (Option Nat)×PUnit×Int×List (Option Nat)×Int×Int×List HN)=>bif decide (x.2.2.2.2.2.2.1<x.2.2.2.2.2.1) then Option.bind (atI x.2.2.2.2.1 x.2.2.2.2.2.2.1) fun (v:Option Nat)=>Option.bind (loopO m_goquery_Selection_manipulateNodes_appl_1_0 (x.1,x.2.1,(),x.2.2.2.1,x.2.2.2.2.2.2.1,v,x.2.2.2.2.1,x.2.2.2.2.2.1,x.2.2.2.2.2.2.1,x.2.1,(↑(List.length x.2.1):Int),(0:Int),x.2.2.2.2.2.2.2)) fun (y:List (Option Nat)×List (Option Nat)×PUnit×Int×List (Option Nat)×Int×Int×List HN)=>some (Stp.nx (y.1,y.2.1,(),y.2.2.2.1,y.2.2.2.2.1,y.2.2.2.2.2.1,IntKind.wrap .i64 (y.2.2.2.2.2.2.1+(1:Int)),y.2.2.2.2.2.2.2)) else some (Stp.out (x.1,x.2.2.2.2.2.2.2))
noncomputable def m_goquery_Selection_manipulateNodes_appl:Tup p_goquery_Selection_manipulateNodes_appl→Option (Tup q_goquery_Selection_manipulateNodes_appl):=fun (x:List (Option Nat)×List (Option Nat)×Bool×PUnit×List HN)=>Option.bind (m_goquery_Selection_Size x.1) fun (r:Int)=>bif x.2.2.1 then Option.bind (loopO m_goquery_Selection_manipulateNodes_appl_0 (x.1,x.2.1,(),IntKind.wrap .i64 (r - (1:Int)),(0:Int),IntKind.wrap .i64 ((↑(List.length x.2.1):Int) - (1:Int)),x.2.2.2.2)) fun (y:List (Option Nat)×List (Option Nat)×PUnit×Int×List HN)=>Option.bind (loopO m_goquery_Selection_manipulateNodes_appl_1 (y.1,y.2.1,(),y.2.2.2.1,y.1,(↑(List.length y.1):Int),(0:Int),y.2.2.2.2)) fun (y:List (Option Nat)×List HN)=>some ((),y.2) else Option.bind (loopO m_goquery_Selection_manipulateNodes_appl_1 (x.1,x.2.1,(),IntKind.wrap .i64 (r - (1:Int)),x.1,(↑(List.length x.1):Int),(0:Int),x.2.2.2.2)) fun (y:List (Option Nat)×List HN)=>some ((),y.2)
noncomputable def cx_goquery_Selection_manipulateNodes_appl:Cx:=⟨tb,lookE [(32,e_goquery_Selection_Size),(33,e_goquery_cloneNode),(35,e_html_Node_RemoveChild),(90,e_goquery_Selection_AppendNodes_1)],lookS [(6,[(true,0),(true,1),(true,2),(true,3),(true,4),(true,5),(true,6),(true,7),(true,8),(true,9),(true,10),(true,11),(true,12),(false,13),(true,14),(false,15)])],mth,ast⟩
theorem ck_goquery_Selection_manipulateNodes_appl:CxOK Tryz.prog (cx_goquery_Selection_manipulateNodes_appl):=cx_ok tb_ok if_ok (.cons ok_goquery_Selection_Size Tryz.call32 (.cons ok_goquery_cloneNode Tryz.call33 (.cons ok_html_Node_RemoveChild Tryz.call35 (.cons ok_goquery_Selection_AppendNodes_1 Tryz.call90 .nil))))
noncomputable def c_goquery_Selection_manipulateNodes_appl_0:Code:=loopAt (Go.Proofs.Tryz.f89.body.getD .skip) 0
noncomputable def l_goquery_Selection_manipulateNodes_appl_0:LEnt:=⟨p_goquery_Selection_manipulateNodes_appl_0,x_goquery_Selection_manipulateNodes_appl_0,loopO (m_goquery_Selection_manipulateNodes_appl_0)⟩
theorem lo_goquery_Selection_manipulateNodes_appl_0:LOK Tryz.prog 86 0 true (l_goquery_Selection_manipulateNodes_appl_0) c_goquery_Selection_manipulateNodes_appl_0:=loop_ok (body:=m_goquery_Selection_manipulateNodes_appl_0) (L:=lookL []) (ck_goquery_Selection_manipulateNodes_appl) mixed (ls_ok (l:=[]) (by kernel_rfl) .nil) (by intro x; kernel_rfl) (fun x y h=>loopO_iff.1 h)
noncomputable def c_goquery_Selection_manipulateNodes_appl_1_0:Code:=loopAt (loopAt (Go.Proofs.Tryz.f89.body.getD .skip) 1) 0
noncomputable def l_goquery_Selection_manipulateNodes_appl_1_0:LEnt:=⟨p_goquery_Selection_manipulateNodes_appl_1_0,x_goquery_Selection_manipulateNodes_appl_1_0,loopO (m_goquery_Selection_manipulateNodes_appl_1_0)⟩
theorem lo_goquery_Selection_manipulateNodes_appl_1_0:LOK Tryz.prog 86 0 true (l_goquery_Selection_manipulateNodes_appl_1_0) c_goquery_Selection_manipulateNodes_appl_1_0:=loop_ok (body:=m_goquery_Selection_manipulateNodes_appl_1_0) (L:=lookL []) (ck_goquery_Selection_manipulateNodes_appl) mixed (ls_ok (l:=[]) (by kernel_rfl) .nil) (by intro x; kernel_rfl) (fun x y h=>loopO_iff.1 h)
noncomputable def c_goquery_Selection_manipulateNodes_appl_1:Code:=loopAt (Go.Proofs.Tryz.f89.body.getD .skip) 1
noncomputable def l_goquery_Selection_manipulateNodes_appl_1:LEnt:=⟨p_goquery_Selection_manipulateNodes_appl_1,x_goquery_Selection_manipulateNodes_appl_1,loopO (m_goquery_Selection_manipulateNodes_appl_1)⟩
theorem lo_goquery_Selection_manipulateNodes_appl_1:LOK Tryz.prog 86 0 true (l_goquery_Selection_manipulateNodes_appl_1) c_goquery_Selection_manipulateNodes_appl_1:=loop_ok (body:=m_goquery_Selection_manipulateNodes_appl_1) (L:=lookL [(4,l_goquery_Selection_manipulateNodes_appl_1_0)]) (ck_goquery_Selection_manipulateNodes_appl) mixed (ls_ok (l:=[(4,c_goquery_Selection_manipulateNodes_appl_1_0)]) (by kernel_rfl) (.cons rfl (lo_goquery_Selection_manipulateNodes_appl_1_0) .nil)) (by intro x; kernel_rfl) (fun x y h=>loopO_iff.1 h)
noncomputable def e_goquery_Selection_manipulateNodes_appl:Ent:=⟨0,p_goquery_Selection_manipulateNodes_appl,q_goquery_Selection_manipulateNodes_appl,m_goquery_Selection_manipulateNodes_appl⟩
theorem ok_goquery_Selection_manipulateNodes_appl:FnOK Tryz.prog 89 e_goquery_Selection_manipulateNodes_appl:=fn_ok (L:=lookL [(0,l_goquery_Selection_manipulateNodes_appl_0),(2,l_goquery_Selection_manipulateNodes_appl_1)]) ck_goquery_Selection_manipulateNodes_appl mixed Tryz.func89 rfl (by kernel_rfl) (by kernel_rfl) (ls_ok (l:=[(0,c_goquery_Selection_manipulateNodes_appl_0),(2,c_goquery_Selection_manipulateNodes_appl_1)]) (by kernel_rfl) (.cons rfl (lo_goquery_Selection_manipulateNodes_appl_0) (.cons rfl (lo_goquery_Selection_manipulateNodes_appl_1) .nil))) (by intro x; kernel_rfl)
abbrev p_goquery_Selection_AppendNodes_l:Pt:=[(0, .fp (.rc .nps [] 2)),(1, .lst .np),(NT, .ns .h 82 135)]
abbrev q_goquery_Selection_AppendNodes_l:Pt:=[(0, .any),(NT, .ns .h 82 135)]
noncomputable def m_goquery_Selection_AppendNodes_l:Tup p_goquery_Selection_AppendNodes_l→Option (Tup q_goquery_Selection_AppendNodes_l):=fun (x:List (Option Nat)×List (Option Nat)×List HN)=>Option.bind (m_goquery_Selection_manipulateNodes_appl (x.1,x.2.1,false,(),x.2.2)) fun (r:PUnit×List HN)=>some ((),r.2)
noncomputable def cx_goquery_Selection_AppendNodes_l:Cx:=⟨tb,lookE [(89,e_goquery_Selection_manipulateNodes_appl)],lookS [],mth,ast⟩
theorem ck_goquery_Selection_AppendNodes_l:CxOK Tryz.prog (cx_goquery_Selection_AppendNodes_l):=cx_ok tb_ok if_ok (.cons ok_goquery_Selection_manipulateNodes_appl Tryz.call89 .nil)
noncomputable def e_goquery_Selection_AppendNodes_l:Ent:=⟨0,p_goquery_Selection_AppendNodes_l,q_goquery_Selection_AppendNodes_l,m_goquery_Selection_AppendNodes_l⟩
theorem ok_goquery_Selection_AppendNodes_l:FnOK Tryz.prog 58 e_goquery_Selection_AppendNodes_l:=fn_ok (L:=lookL []) ck_goquery_Selection_AppendNodes_l mixed Tryz.func58 rfl (by kernel_rfl) (by kernel_rfl) (ls_ok (l:=[]) (by kernel_rfl) .nil) (by intro x; kernel_rfl)
abbrev p_goquery_Selection_AppendSelection:Pt:=[(0, .fp (.rc .nps [] 2)),(1, .fp (.rc .nps [] 2)),(NT, .ns .h 82 135)]
abbrev q_goquery_Selection_AppendSelection:Pt:=[(0, .any),(NT, .ns .h 82 135)]
noncomputable def m_goquery_Selection_AppendSelection:Tup p_goquery_Selection_AppendSelection→Option (Tup q_goquery_Selection_AppendSelection):=fun (x:List (Option Nat)×List (Option Nat)×List HN)=>Option.bind (m_goquery_Selection_AppendNodes_l (x.1,x.2.1,x.2.2)) fun (r:PUnit×List HN)=>some ((),r.2)
noncomputable def cx_goquery_Selection_AppendSelection:Cx:=⟨tb,lookE [(58,e_goquery_Selection_AppendNodes_l)],lookS [],mth,ast⟩
theorem ck_goquery_Selection_AppendSelection:CxOK Tryz.prog (cx_goquery_Selection_AppendSelection):=cx_ok tb_ok if_ok (.cons ok_goquery_Selection_AppendNodes_l Tryz.call58 .nil)
noncomputable def e_goquery_Selection_AppendSelection:Ent:=⟨0,p_goquery_Selection_AppendSelection,q_goquery_Selection_AppendSelection,m_goquery_Selection_AppendSelection⟩
theorem ok_goquery_Selection_AppendSelection:FnOK Tryz.prog 38 e_goquery_Selection_AppendSelection:=fn_ok (L:=lookL []) ck_goquery_Selection_AppendSelection mixed Tryz.func38 rfl (by kernel_rfl) (by kernel_rfl) (ls_ok (l:=[]) (by kernel_rfl) .nil) (by intro x; kernel_rfl)
abbrev p_goquery_getFirstChildEl:Pt:=[(0, .np),(NTR, .nsr .h)]
abbrev q_goquery_getFirstChildEl:Pt:=[(0, .np)]
abbrev p_goquery_getFirstChildEl_0:Pt:=[(3, .np),(NTR, .nsr .h)]
abbrev x_goquery_getFirstChildEl_0:List (Xt×Pt):=[(.ex 0,[(3, .np),(NTR, .nsr .h)])]
noncomputable def m_goquery_getFirstChildEl_0:Tup p_goquery_getFirstChildEl_0→Option (Stp (Tup p_goquery_getFirstChildEl_0) (SumT (x_goquery_getFirstChildEl_0.map (·.2)))):=fun (x:Option Nat×List HN)=>bif !Option.isNone x.1 then Option.bind x.1 fun (i:Nat)=>Option.bind (some i) fun (i:Nat)=>Option.bind x.2[i]? fun (h:HN)=>bif decide (HN.ty h≠(3:Int)) then Option.bind x.1 fun (i:Nat)=>Option.bind (some i) fun (i:Nat)=>Option.bind x.2[i]? fun (h:HN)=>some (Stp.nx (HN.nxt h,x.2)) else some (Stp.out (x.1,x.2)) else some (Stp.out (x.1,x.2))
noncomputable def m_goquery_getFirstChildEl:Tup p_goquery_getFirstChildEl→Option (Tup q_goquery_getFirstChildEl):=fun (x:Option Nat×List HN)=>Option.bind x.1 fun (i:Nat)=>Option.bind (some i) fun (i:Nat)=>Option.bind x.2[i]? fun (h:HN)=>Option.bind (loopO m_goquery_getFirstChildEl_0 (HN.fst h,x.2)) fun (y:Option Nat×List HN)=>some y.1
noncomputable def cx_goquery_getFirstChildEl:Cx:=⟨tb,lookE [],lookS [],mth,ast⟩
theorem ck_goquery_getFirstChildEl:CxOK Tryz.prog (cx_goquery_getFirstChildEl):=cx_ok tb_ok if_ok .nil
noncomputable def c_goquery_getFirstChildEl_0:Code:=loopAt (Go.Proofs.Tryz.f36.body.getD .skip) 0
noncomputable def l_goquery_getFirstChildEl_0:LEnt:=⟨p_goquery_getFirstChildEl_0,x_goquery_getFirstChildEl_0,loopO (m_goquery_getFirstChildEl_0)⟩
theorem lo_goquery_getFirstChildEl_0:LOK Tryz.prog 22 0 false (l_goquery_getFirstChildEl_0) c_goquery_getFirstChildEl_0:=loop_ok (body:=m_goquery_getFirstChildEl_0) (L:=lookL []) (ck_goquery_getFirstChildEl) mixed (ls_ok (l:=[]) (by kernel_rfl) .nil) (by intro x; kernel_rfl) (fun x y h=>loopO_iff.1 h)
noncomputable def e_goquery_getFirstChildEl:Ent:=⟨0,p_goquery_getFirstChildEl,q_goquery_getFirstChildEl,m_goquery_getFirstChildEl⟩
theorem ok_goquery_getFirstChildEl:FnOK Tryz.prog 36 e_goquery_getFirstChildEl:=fn_ok (L:=lookL [(0,l_goquery_getFirstChildEl_0)]) ck_goquery_getFirstChildEl mixed Tryz.func36 rfl (by kernel_rfl) (by kernel_rfl) (ls_ok (l:=[(0,c_goquery_getFirstChildEl_0)]) (by kernel_rfl) (.cons rfl (lo_goquery_getFirstChildEl_0) .nil)) (by intro x; kernel_rfl)
abbrev p_goquery_getChildrenWithSiblingType_1:Pt:=[(0, .np),(1, .fp .int),(2, .fp .np),(3, .fp .np),(NTR, .nsr .h)]
abbrev q_goquery_getChildrenWithSiblingType_1:Pt:=[(0, .np)]
abbrev p_goquery_getChildrenWithSiblingType_1_0:Pt:=[(0, .np),(1, .fp .int),(2, .fp .np),(3, .fp .np),(5, .np),(NTR, .nsr .h)]
abbrev x_goquery_getChildrenWithSiblingType_1_0:List (Xt×Pt):=[(.rt,[(5, .np),(NTR, .nsr .h)])]
noncomputable def m_goquery_getChildrenWithSiblingType_1_0:Tup p_goquery_getChildrenWithSiblingType_1_0→Option (Stp (Tup p_goquery_getChildrenWithSiblingType_1_0) (SumT (x_goquery_getChildrenWithSiblingType_1_0.map (·.2)))):=fun (x:Option Nat×Int×Option Nat×Option Nat×Option Nat×List HN)=>bif decide (x.2.1=(0:Int)) then bif Option.isNone x.1 then Option.bind x.2.2.1 fun (i:Nat)=>Option.bind (some i) fun (i:Nat)=>Option.bind x.2.2.2.2.2[i]? fun (h:HN)=>bif decide (HN.fst h=x.2.2.2.1) then bif !Option.isNone x.2.2.2.1 then Option.bind x.2.2.2.1 fun (i:Nat)=>Option.bind (some i) fun (i:Nat)=>Option.bind x.2.2.2.2.2[i]? fun (h:HN)=>bif Option.isNone (HN.nxt h) then some (Stp.out (HN.nxt h,x.2.2.2.2.2)) else Option.bind (HN.nxt h) fun (i:Nat)=>Option.bind (some i) fun (i:Nat)=>Option.bind x.2.2.2.2.2[i]? fun (h_1:HN)=>bif decide (HN.ty h_1=(3:Int)) then some (Stp.out (HN.nxt h,x.2.2.2.2.2)) else bif decide (x.2.1=(4:Int)) then some (Stp.out (HN.nxt h,x.2.2.2.2.2)) else some (Stp.nx (HN.nxt h,x.2.1,x.2.2.1,x.2.2.2.1,HN.nxt h,x.2.2.2.2.2)) else bif Option.isNone (HN.fst h) then some (Stp.out (HN.fst h,x.2.2.2.2.2)) else Option.bind (HN.fst h) fun (i:Nat)=>Option.bind (some i) fun (i:Nat)=>Option.bind x.2.2.2.2.2[i]? fun (h_1:HN)=>bif decide (HN.ty h_1=(3:Int)) then some (Stp.out (HN.fst h,x.2.2.2.2.2)) else bif decide (x.2.1=(4:Int)) then some (Stp.out (HN.fst h,x.2.2.2.2.2)) else some (Stp.nx (HN.fst h,x.2.1,x.2.2.1,x.2.2.2.1,HN.fst h,x.2.2.2.2.2)) else bif Option.isNone (HN.fst h) then some (Stp.out (HN.fst h,x.2.2.2.2.2)) else Option.bind (HN.fst h) fun (i:Nat)=>Option.bind (some i) fun (i:Nat)=>Option.bind x.2.2.2.2.2[i]? fun (h_1:HN)=>bif decide (HN.ty h_1=(3:Int)) then some (Stp.out (HN.fst h,x.2.2.2.2.2)) else bif decide (x.2.1=(4:Int)) then some (Stp.out (HN.fst h,x.2.2.2.2.2)) else some (Stp.nx (HN.fst h,x.2.1,x.2.2.1,x.2.2.2.1,HN.fst h,x.2.2.2.2.2)) else Option.bind x.1 fun (i:Nat)=>Option.bind (some i) fun (i:Nat)=>Option.bind x.2.2.2.2.2[i]? fun (h:HN)=>bif decide (HN.nxt h=x.2.2.2.1) then bif !Option.isNone x.2.2.2.1 then Option.bind x.2.2.2.1 fun (i:Nat)=>Option.bind (some i) fun (i:Nat)=>Option.bind x.2.2.2.2.2[i]? fun (h:HN)=>bif Option.isNone (HN.nxt h) then some (Stp.out (HN.nxt h,x.2.2.2.2.2)) else Option.bind (HN.nxt h) fun (i:Nat)=>Option.bind (some i) fun (i:Nat)=>Option.bind x.2.2.2.2.2[i]? fun (h_1:HN)=>bif decide (HN.ty h_1=(3:Int)) then some (Stp.out (HN.nxt h,x.2.2.2.2.2)) else bif decide (x.2.1=(4:Int)) then some (Stp.out (HN.nxt h,x.2.2.2.2.2)) else some (Stp.nx (HN.nxt h,x.2.1,x.2.2.1,x.2.2.2.1,HN.nxt h,x.2.2.2.2.2)) else bif Option.isNone (HN.nxt h) then some (Stp.out (HN.nxt h,x.2.2.2.2.2)) else Option.bind (HN.nxt h) fun (i:Nat)=>Option.bind (some i) fun (i:Nat)=>Option.bind x.2.2.2.2.2[i]? fun (h_1:HN)=>bif decide (HN.ty h_1=(3:Int)) then some (Stp.out (HN.nxt h,x.2.2.2.2.2)) else bif decide (x.2.1=(4:Int)) then some (Stp.out (HN.nxt h,x.2.2.2.2.2)) else some (Stp.nx (HN.nxt h,x.2.1,x.2.2.1,x.2.2.2.1,HN.nxt h,x.2.2.2.2.2)) else bif Option.isNone (HN.nxt h) then some (Stp.out (HN.nxt h,x.2.2.2.2.2)) else Option.bind (HN.nxt h) fun (i:Nat)=>Option.bind (some i) fun (i:Nat)=>Option.bind x.2.2.2.2.2[i]? fun (h_1:HN)=>bif decide (HN.ty h_1=(3:Int)) then some (Stp.out (HN.nxt h,x.2.2.2.2.2)) else bif decide (x.2.1=(4:Int)) then some (Stp.out (HN.nxt h,x.2.2.2.2.2)) else some (Stp.nx (HN.nxt h,x.2.1,x.2.2.1,x.2.2.2.1,HN.nxt h,x.2.2.2.2.2)) else bif decide (x.2.1=(4:Int)) then bif Option.isNone x.1 then Option.bind x.2.2.1 fun (i:Nat)=>Option.bind (some i) fun (i:Nat)=>Option.bind x.2.2.2.2.2[i]? fun (h:HN)=>bif decide (HN.fst h=x.2.2.2.1) then bif !Option.isNone x.2.2.2.1 then Option.bind x.2.2.2.1 fun (i:Nat)=>Option.bind (some i) fun (i:Nat)=>Option.bind x.2.2.2.2.2[i]? fun (h:HN)=>bif Option.isNone (HN.nxt h) then some (Stp.out (HN.nxt h,x.2.2.2.2.2)) else Option.bind (HN.nxt h) fun (i:Nat)=>Option.bind (some i) fun (i:Nat)=>Option.bind x.2.2.2.2.2[i]? fun (h_1:HN)=>bif decide (HN.ty h_1=(3:Int)) then some (Stp.out (HN.nxt h,x.2.2.2.2.2)) else bif decide (x.2.1=(4:Int)) then some (Stp.out (HN.nxt h,x.2.2.2.2.2)) else some (Stp.nx (HN.nxt h,x.2.1,x.2.2.1,x.2.2.2.1,HN.nxt h,x.2.2.2.2.2)) else bif Option.isNone (HN.fst h) then some (Stp.out (HN.fst h,x.2.2.2.2.2)) else Option.bind (HN.fst h) fun (i:Nat)=>Option.bind (some i) fun (i:Nat)=>Option.bind x.2.2.2.2.2[i]? fun (h_1:HN)=>bif decide (HN.ty h_1=(3:Int)) then some (Stp.out (HN.fst h,x.2.2.2.2.2)) else bif decide (x.2.1=(4:Int)) then some (Stp.out (HN.fst h,x.2.2.2.2.2)) else some (Stp.nx (HN.fst h,x.2.1,x.2.2.1,x.2.2.2.1,HN.fst h,x.2.2.2.2.2)) else bif Option.isNone (HN.fst h) then some (Stp.out (HN.fst h,x.2.2.2.2.2)) else Option.bind (HN.fst h) fun (i:Nat)=>Option.bind (some i) fun (i:Nat)=>Option.bind x.2.2.2.2.2[i]? fun (h_1:HN)=>bif decide (HN.ty h_1=(3:Int)) then some (Stp.out (HN.fst h,x.2.2.2.2.2)) else bif decide (x.2.1=(4:Int)) then some (Stp.out (HN.fst h,x.2.2.2.2.2)) else some (Stp.nx (HN.fst h,x.2.1,x.2.2.1,x.2.2.2.1,HN.fst h,x.2.2.2.2.2)) else Option.bind x.1 fun (i:Nat)=>Option.bind (some i) fun (i:Nat)=>Option.bind x.2.2.2.2.2[i]? fun (h:HN)=>bif decide (HN.nxt h=x.2.2.2.1) then bif !Option.isNone x.2.2.2.1 then Option.bind x.2.2.2.1 fun (i:Nat)=>Option.bind (some i) fun (i:Nat)=>Option.bind x.2.2.2.2.2[i]? fun (h:HN)=>bif Option.isNone (HN.nxt h) then some (Stp.out (HN.nxt h,x.2.2.2.2.2)) else Option.bind (HN.nxt h) fun (i:Nat)=>Option.bind (some i) fun (i:Nat)=>Option.bind x.2.2.2.2.2[i]? fun (h_1:HN)=>bif decide (HN.ty h_1=(3:Int)) then some (Stp.out (HN.nxt h,x.2.2.2.2.2)) else bif decide (x.2.1=(4:Int)) then some (Stp.out (HN.nxt h,x.2.2.2.2.2)) else some (Stp.nx (HN.nxt h,x.2.1,x.2.2.1,x.2.2.2.1,HN.nxt h,x.2.2.2.2.2)) else bif Option.isNone (HN.nxt h) then some (Stp.out (HN.nxt h,x.2.2.2.2.2)) else Option.bind (HN.nxt h) fun (i:Nat)=>Option.bind (some i) fun (i:Nat)=>Option.bind x.2.2.2.2.2[i]? fun (h_1:HN)=>bif decide (HN.ty h_1=(3:Int)) then some (Stp.out (HN.nxt h,x.2.2.2.2.2)) else bif decide (x.2.1=(4:Int)) then some (Stp.out (HN.nxt h,x.2.2.2.2.2)) else some (Stp.nx (HN.nxt h,x.2.1,x.2.2.1,x.2.2.2.1,HN.nxt h,x.2.2.2.2.2)) else bif Option.isNone (HN.nxt h) then some (Stp.out (HN.nxt h,x.2.2.2.2.2)) else Option.bind (HN.nxt h) fun (i:Nat)=>Option.bind (some i) fun (i:Nat)=>Option.bind x.2.2.2.2.2[i]? fun (h_1:HN)=>bif decide (HN.ty h_1=(3:Int)) then some (Stp.out (HN.nxt h,x.2.2.2.2.2)) else bif decide (x.2.1=(4:Int)) then some (Stp.out (HN.nxt h,x.2.2.2.2.2)) else some (Stp.nx (HN.nxt h,x.2.1,x.2.2.1,x.2.2.2.1,HN.nxt h,x.2.2.2.2.2)) else bif decide (x.2.1=(-1:Int)) then bif Option.isNone x.1 then Option.bind x.2.2.2.1 fun (i:Nat)=>Option.bind (some i) fun (i:Nat)=>Option.bind x.2.2.2.2.2[i]? fun (h:HN)=>bif Option.isNone (HN.prv h) then some (Stp.out (HN.prv h,x.2.2.2.2.2)) else Option.bind (HN.prv h) fun (i:Nat)=>Option.bind (some i) fun (i:Nat)=>Option.bind x.2.2.2.2.2[i]? fun (h_1:HN)=>bif decide (HN.ty h_1=(3:Int)) then some (Stp.out (HN.prv h,x.2.2.2.2.2)) else bif decide (x.2.1=(4:Int)) then some (Stp.out (HN.prv h,x.2.2.2.2.2)) else some (Stp.nx (HN.prv h,x.2.1,x.2.2.1,x.2.2.2.1,HN.prv h,x.2.2.2.2.2)) else Option.bind x.1 fun (i:Nat)=>Option.bind (some i) fun (i:Nat)=>Option.bind x.2.2.2.2.2[i]? fun (h:HN)=>bif Option.isNone (HN.prv h) then some (Stp.out (HN.prv h,x.2.2.2.2.2)) else Option.bind (HN.prv h) fun (i:Nat)=>Option.bind (some i) fun (i:Nat)=>Option.bind x.2.2.2.2.2[i]? fun (h_1:HN)=>bif decide (HN.ty h_1=(3:Int)) then some (Stp.out (HN.prv h,x.2.2.2.2.2)) else bif decide (x.2.1=(4:Int)) then some (Stp.out (HN.prv h,x.2.2.2.2.2)) else some (Stp.nx (HN.prv h,x.2.1,x.2.2.1,x.2.2.2.1,HN.prv h,x.2.2.2.2.2)) else bif decide (x.2.1=(-2:Int)) then bif Option.isNone x.1 then Option.bind x.2.2.2.1 fun (i:Nat)=>Option.bind (some i) fun (i:Nat)=>Option.bind x.2.2.2.2.2[i]? fun (h:HN)=>bif Option.isNone (HN.prv h) then some (Stp.out (HN.prv h,x.2.2.2.2.2)) else Option.bind (HN.prv h) fun (i:Nat)=>Option.bind (some i) fun (i:Nat)=>Option.bind x.2.2.2.2.2[i]? fun (h_1:HN)=>bif decide (HN.ty h_1=(3:Int)) then some (Stp.out (HN.prv h,x.2.2.2.2.2)) else bif decide (x.2.1=(4:Int)) then some (Stp.out (HN.prv h,x.2.2.2.2.2)) else some (Stp.nx (HN.prv h,x.2.1,x.2.2.1,x.2.2.2.1,HN.prv h,x.2.2.2.2.2)) else Option.bind x.1 fun (i:Nat)=>Option.bind (some i) fun (i:Nat)=>Option.bind x.2.2.2.2.2[i]? fun (h:HN)=>bif Option.isNone (HN.prv h) then some (Stp.out (HN.prv h,x.2.2.2.2.2)) else Option.bind (HN.prv h) fun (i:Nat)=>Option.bind (some i) fun (i:Nat)=>Option.bind x.2.2.2.2.2[i]? fun (h_1:HN)=>bif decide (HN.ty h_1=(3:Int)) then some (Stp.out (HN.prv h,x.2.2.2.2.2)) else bif decide (x.2.1=(4:Int)) then some (Stp.out (HN.prv h,x.2.2.2.2.2)) else some (Stp.nx (HN.prv h,x.2.1,x.2.2.1,x.2.2.2.1,HN.prv h,x.2.2.2.2.2)) else bif decide (x.2.1=(-3:Int)) then bif Option.isNone x.1 then Option.bind x.2.2.2.1 fun (i:Nat)=>Option.bind (some i) fun (i:Nat)=>Option.bind x.2.2.2.2.2[i]? fun (h:HN)=>bif Option.isNone (HN.prv h) then some (Stp.out (HN.prv h,x.2.2.2.2.2)) else Option.bind (HN.prv h) fun (i:Nat)=>Option.bind (some i) fun (i:Nat)=>Option.bind x.2.2.2.2.2[i]? fun (h_1:HN)=>bif decide (HN.ty h_1=(3:Int)) then some (Stp.out (HN.prv h,x.2.2.2.2.2)) else bif decide (x.2.1=(4:Int)) then some (Stp.out (HN.prv h,x.2.2.2.2.2)) else some (Stp.nx (HN.prv h,x.2.1,x.2.2.1,x.2.2.2.1,HN.prv h,x.2.2.2.2.2)) else Option.bind x.1 fun (i:Nat)=>Option.bind (some i) fun (i:Nat)=>Option.bind x.2.2.2.2.2[i]? fun (h:HN)=>bif Option.isNone (HN.prv h) then some (Stp.out (HN.prv h,x.2.2.2.2.2)) else Option.bind (HN.prv h) fun (i:Nat)=>Option.bind (some i) fun (i:Nat)=>Option.bind x.2.2.2.2.2[i]? fun (h_1:HN)=>bif decide (HN.ty h_1=(3:Int)) then some (Stp.out (HN.prv h,x.2.2.2.2.2)) else bif decide (x.2.1=(4:Int)) then some (Stp.out (HN.prv h,x.2.2.2.2.2)) else some (Stp.nx (HN.prv h,x.2.1,x.2.2.1,x.2.2.2.1,HN.prv h,x.2.2.2.2.2)) else bif decide (x.2.1=(1:Int)) then bif Option.isNone x.1 then Option.bind x.2.2.2.1 fun (i:Nat)=>Option.bind (some i) fun (i:Nat)=>Option.bind x.2.2.2.2.2[i]? fun (h:HN)=>bif Option.isNone (HN.nxt h) then some (Stp.out (HN.nxt h,x.2.2.2.2.2)) else Option.bind (HN.nxt h) fun (i:Nat)=>Option.bind (some i) fun (i:Nat)=>Option.bind x.2.2.2.2.2[i]? fun (h_1:HN)=>bif decide (HN.ty h_1=(3:Int)) then some (Stp.out (HN.nxt h,x.2.2.2.2.2)) else bif decide (x.2.1=(4:Int)) then some (Stp.out (HN.nxt h,x.2.2.2.2.2)) else some (Stp.nx (HN.nxt h,x.2.1,x.2.2.1,x.2.2.2.1,HN.nxt h,x.2.2.2.2.2)) else Option.bind x.1 fun (i:Nat)=>Option.bind (some i) fun (i:Nat)=>Option.bind x.2.2.2.2.2[i]? fun (h:HN)=>bif Option.isNone (HN.nxt h) then some (Stp.out (HN.nxt h,x.2.2.2.2.2)) else Option.bind (HN.nxt h) fun (i:Nat)=>Option.bind (some i) fun (i:Nat)=>Option.bind x.2.2.2.2.2[i]? fun (h_1:HN)=>bif decide (HN.ty h_1=(3:Int)) then some (Stp.out (HN.nxt h,x.2.2.2.2.2)) else bif decide (x.2.1=(4:Int)) then some (Stp.out (HN.nxt h,x.2.2.2.2.2)) else some (Stp.nx (HN.nxt h,x.2.1,x.2.2.1,x.2.2.2.1,HN.nxt h,x.2.2.2.2.2)) else bif decide (x.2.1=(2:Int)) then bif Option.isNone x.1 then Option.bind x.2.2.2.1 fun (i:Nat)=>Option.bind (some i) fun (i:Nat)=>Option.bind x.2.2.2.2.2[i]? fun (h:HN)=>bif Option.isNone (HN.nxt h) then some (Stp.out (HN.nxt h,x.2.2.2.2.2)) else Option.bind (HN.nxt h) fun (i:Nat)=>Option.bind (some i) fun (i:Nat)=>Option.bind x.2.2.2.2.2[i]? fun (h_1:HN)=>bif decide (HN.ty h_1=(3:Int)) then some (Stp.out (HN.nxt h,x.2.2.2.2.2)) else bif decide (x.2.1=(4:Int)) then some (Stp.out (HN.nxt h,x.2.2.2.2.2)) else some (Stp.nx (HN.nxt h,x.2.1,x.2.2.1,x.2.2.2.1,HN.nxt h,x.2.2.2.2.2)) else Option.bind x.1 fun (i:Nat)=>Option.bind (some i) fun (i:Nat)=>Option.bind x.2.2.2.2.2[i]? fun (h:HN)=>bif Option.isNone (HN.nxt h) then some (Stp.out (HN.nxt h,x.2.2.2.2.2)) else Option.bind (HN.nxt h) fun (i:Nat)=>Option.bind (some i) fun (i:Nat)=>Option.bind x.2.2.2.2.2[i]? fun (h_1:HN)=>bif decide (HN.ty h_1=(3:Int)) then some (Stp.out (HN.nxt h,x.2.2.2.2.2)) else bif decide (x.2.1=(4:Int)) then some (Stp.out (HN.nxt h,x.2.2.2.2.2)) else some (Stp.nx (HN.nxt h,x.2.1,x.2.2.1,x.2.2.2.1,HN.nxt h,x.2.2.2.2.2)) else bif decide (x.2.1=(3:Int)) then bif Option.isNone x.1 then Option.bind x.2.2.2.1 fun (i:Nat)=>Option.bind (some i) fun (i:Nat)=>Option.bind x.2.2.2.2.2[i]? fun (h:HN)=>bif Option.isNone (HN.nxt h) then some (Stp.out (HN.nxt h,x.2.2.2.2.2)) else Option.bind (HN.nxt h) fun (i:Nat)=>Option.bind (some i) fun (i:Nat)=>Option.bind x.2.2.2.2.2[i]? fun (h_1:HN)=>bif decide (HN.ty h_1=(3:Int)) then some (Stp.out (HN.nxt h,x.2.2.2.2.2)) else bif decide (x.2.1=(4:Int)) then some (Stp.out (HN.nxt h,x.2.2.2.2.2)) else some (Stp.nx (HN.nxt h,x.2.1,x.2.2.1,x.2.2.2.1,HN.nxt h,x.2.2.2.2.2)) else Option.bind x.1 fun (i:Nat)=>Option.bind (some i) fun (i:Nat)=>Option.bind x.2.2.2.2.2[i]? fun (h:HN)=>bif Option.isNone (HN.nxt h) then some (Stp.out (HN.nxt h,x.2.2.2.2.2)) else Option.bind (HN.nxt h) fun (i:Nat)=>Option.bind (some i) fun (i:Nat)=>Option.bind x.2.2.2.2.2[i]? fun (h_1:HN)=>bif decide (HN.ty h_1=(3:Int)) then some (Stp.out (HN.nxt h,x.2.2.2.2.2)) else bif decide (x.2.1=(4:Int)) then some (Stp.out (HN.nxt h,x.2.2.2.2.2)) else some (Stp.nx (HN.nxt h,x.2.1,x.2.2.1,x.2.2.2.1,HN.nxt h,x.2.2.2.2.2)) else none
noncomputable def m_goquery_getChildrenWithSiblingType_1:Tup p_goquery_getChildrenWithSiblingType_1→Option (Tup q_goquery_getChildrenWithSiblingType_1):=fun (x:Option Nat×Int×Option Nat×Option Nat×List HN)=>Option.bind (loopO m_goquery_getChildrenWithSiblingType_1_0 (x.1,x.2.1,x.2.2.1,x.2.2.2.1,none,x.2.2.2.2)) fun (y:Option Nat×List HN)=>some y.1
noncomputable def cx_goquery_getChildrenWithSiblingType_1:Cx:=⟨tb,lookE [],lookS [],mth,ast⟩
theorem ck_goquery_getChildrenWithSiblingType_1:CxOK Tryz.prog (cx_goquery_getChildrenWithSiblingType_1):=cx_ok tb_ok if_ok .nil
noncomputable def c_goquery_getChildrenWithSiblingType_1_0:Code:=loopAt (Go.Proofs.Tryz.f100.body.getD .skip) 0
noncomputable def l_goquery_getChildrenWithSiblingType_1_0:LEnt:=⟨p_goquery_getChildrenWithSiblingType_1_0,x_goquery_getChildrenWithSiblingType_1_0,loopO (m_goquery_getChildrenWithSiblingType_1_0)⟩
theorem lo_goquery_getChildrenWithSiblingType_1_0:LOK Tryz.prog 85 0 false (l_goquery_getChildrenWithSiblingType_1_0) c_goquery_getChildrenWithSiblingType_1_0:=loop_ok (body:=m_goquery_getChildrenWithSiblingType_1_0) (L:=lookL []) (ck_goquery_getChildrenWithSiblingType_1) mixed (ls_ok (l:=[]) (by kernel_rfl) .nil) (by intro x; kernel_rfl) (fun x y h=>loopO_iff.1 h)
noncomputable def e_goquery_getChildrenWithSiblingType_1:Ent:=⟨0,p_goquery_getChildrenWithSiblingType_1,q_goquery_getChildrenWithSiblingType_1,m_goquery_getChildrenWithSiblingType_1⟩
theorem ok_goquery_getChildrenWithSiblingType_1:FnOK Tryz.prog 100 e_goquery_getChildrenWithSiblingType_1:=fn_ok (L:=lookL [(0,l_goquery_getChildrenWithSiblingType_1_0)]) ck_goquery_getChildrenWithSiblingType_1 mixed Tryz.func100 rfl (by kernel_rfl) (by kernel_rfl) (ls_ok (l:=[(0,c_goquery_getChildrenWithSiblingType_1_0)]) (by kernel_rfl) (.cons rfl (lo_goquery_getChildrenWithSiblingType_1_0) .nil)) (by intro x; kernel_rfl)
abbrev p_goquery_getChildrenWithSiblingType_n:Pt:=[(0, .np),(1, .int .i64),(2, .np),(3, .fnl),(NTR, .nsr .h)]
abbrev q_goquery_getChildrenWithSiblingType_n:Pt:=[(0, .own .np 51)]
abbrev p_goquery_getChildrenWithSiblingType_n_0:Pt:=[(3, .fnl),(5, .fp .int),(9, .clo 100 [.int, .np, .np]),(10, .int .i64),(11, .np),(NTR, .nsr .h)]
abbrev x_goquery_getChildrenWithSiblingType_n_0:List (Xt×Pt):=[(.ex 1,[(3, .fnl),(5, .fp .int),(9, .clo 100 [.int, .np, .np]),(10, .int .i64),(NTR, .nsr .h)])]
noncomputable def m_goquery_getChildrenWithSiblingType_n_0:Tup p_goquery_getChildrenWithSiblingType_n_0→Option (Stp (Tup p_goquery_getChildrenWithSiblingType_n_0) (SumT (x_goquery_getChildrenWithSiblingType_n_0.map (·.2)))):=fun (x:PUnit×Int×(Int×Option Nat×Option Nat)×Int×Option Nat×List HN)=>bif !Option.isNone x.2.2.2.2.1 then Option.bind (m_goquery_getChildrenWithSiblingType_1 (x.2.2.2.2.1,x.2.2.1.1,x.2.2.1.2.1,x.2.2.1.2.2,x.2.2.2.2.2)) fun (r:Option Nat)=>some (Stp.nx ((),x.2.1,(x.2.2.1.1,x.2.2.1.2.1,x.2.2.1.2.2),IntKind.wrap .i64 (x.2.2.2.1+(1:Int)),r,x.2.2.2.2.2)) else some (Stp.out ((),x.2.1,(x.2.2.1.1,x.2.2.1.2.1,x.2.2.1.2.2),x.2.2.2.1,x.2.2.2.2.2))
abbrev p_goquery_getChildrenWithSiblingType_n_1:Pt:=[(3, .fnl),(5, .fp .int),(8, .own .np 51),(9, .clo 100 [.int, .np, .np]),(12, .np),(NTR, .nsr .h)]
abbrev x_goquery_getChildrenWithSiblingType_n_1:List (Xt×Pt):=[(.ex 3,[(8, .own .np 51),(NTR, .nsr .h)]),(.rt,[(8, .own .np 51),(NTR, .nsr .h)])]
noncomputable def m_goquery_getChildrenWithSiblingType_n_1:Tup p_goquery_getChildrenWithSiblingType_n_1→Option (Stp (Tup p_goquery_getChildrenWithSiblingType_n_1) (SumT (x_goquery_getChildrenWithSiblingType_n_1.map (·.2)))):=fun (x:PUnit×Int×List (Option Nat)×(Int×Option Nat×Option Nat)×Option Nat×List HN)=>bif !Option.isNone x.2.2.2.2.1 then bif decide (x.2.1=(3:Int)) then none else bif decide (x.2.1=(-3:Int)) then none else Option.bind (appL x.2.2.1 [x.2.2.2.2.1]) fun (r:List (Option Nat))=>bif decide (x.2.1=(1:Int)) then some (Stp.out (Sum.inr (r,x.2.2.2.2.2))) else bif decide (x.2.1=(-1:Int)) then some (Stp.out (Sum.inr (r,x.2.2.2.2.2))) else Option.bind (m_goquery_getChildrenWithSiblingType_1 (x.2.2.2.2.1,x.2.2.2.1.1,x.2.2.2.1.2.1,x.2.2.2.1.2.2,x.2.2.2.2.2)) fun (r_1:Option Nat)=>some (Stp.nx ((),x.2.1,r,(x.2.2.2.1.1,x.2.2.2.1.2.1,x.2.2.2.1.2.2),r_1,x.2.2.2.2.2)) else some (Stp.out (Sum.inl (x.2.2.1,x.2.2.2.2.2)))
noncomputable def m_goquery_getChildrenWithSiblingType_n:Tup p_goquery_getChildrenWithSiblingType_n→Option (Tup q_goquery_getChildrenWithSiblingType_n):=fun (x:Option Nat×Int×Option Nat×PUnit×List HN)=>bif decide (x.2.1=(0:Int)) then Option.bind (m_goquery_getChildrenWithSiblingType_1 (none,x.2.1,x.1,x.2.2.1,x.2.2.2.2)) fun (r:Option Nat)=>Option.bind (loopO m_goquery_getChildrenWithSiblingType_n_0 ((),x.2.1,(x.2.1,x.1,x.2.2.1),(0:Int),r,x.2.2.2.2)) fun (y:PUnit×Int×(Int×Option Nat×Option Nat)×Int×List HN)=>bif decide ((0:Int)≤y.2.2.2.1∧(0:Int)≤(0:Int)∧y.2.2.2.1≤(1048576:Int)) then Option.bind (m_goquery_getChildrenWithSiblingType_1 (none,y.2.2.1.1,y.2.2.1.2.1,y.2.2.1.2.2,y.2.2.2.2)) fun (r:Option Nat)=>Option.bind (loopO m_goquery_getChildrenWithSiblingType_n_1 ((),y.2.1,List.replicate (Int.toNat (0:Int)) none,(y.2.2.1.1,y.2.2.1.2.1,y.2.2.1.2.2),r,y.2.2.2.2)) fun (y:List (Option Nat)×List HN ⊕ List (Option Nat)×List HN)=>selim (fun (y:List (Option Nat)×List HN)=>some y.1) (fun (y:List (Option Nat)×List HN)=>some y.1) y else none else bif decide (x.2.1=(4:Int)) then Option.bind (m_goquery_getChildrenWithSiblingType_1 (none,x.2.1,x.1,x.2.2.1,x.2.2.2.2)) fun (r:Option Nat)=>Option.bind (loopO m_goquery_getChildrenWithSiblingType_n_0 ((),x.2.1,(x.2.1,x.1,x.2.2.1),(0:Int),r,x.2.2.2.2)) fun (y:PUnit×Int×(Int×Option Nat×Option Nat)×Int×List HN)=>bif decide ((0:Int)≤y.2.2.2.1∧(0:Int)≤(0:Int)∧y.2.2.2.1≤(1048576:Int)) then Option.bind (m_goquery_getChildrenWithSiblingType_1 (none,y.2.2.1.1,y.2.2.1.2.1,y.2.2.1.2.2,y.2.2.2.2)) fun (r:Option Nat)=>Option.bind (loopO m_goquery_getChildrenWithSiblingType_n_1 ((),y.2.1,List.replicate (Int.toNat (0:Int)) none,(y.2.2.1.1,y.2.2.1.2.1,y.2.2.1.2.2),r,y.2.2.2.2)) fun (y:List (Option Nat)×List HN ⊕ List (Option Nat)×List HN)=>selim (fun (y:List (Option Nat)×List HN)=>some y.1) (fun (y:List (Option Nat)×List HN)=>some y.1) y else none else bif decide (x.2.1=(-2:Int)) then Option.bind (m_goquery_getChildrenWithSiblingType_1 (none,x.2.1,x.1,x.2.2.1,x.2.2.2.2)) fun (r:Option Nat)=>Option.bind (loopO m_goquery_getChildrenWithSiblingType_n_0 ((),x.2.1,(x.2.1,x.1,x.2.2.1),(0:Int),r,x.2.2.2.2)) fun (y:PUnit×Int×(Int×Option Nat×Option Nat)×Int×List HN)=>bif decide ((0:Int)≤y.2.2.2.1∧(0:Int)≤(0:Int)∧y.2.2.2.1≤(1048576:Int)) then Option.bind (m_goquery_getChildrenWithSiblingType_1 (none,y.2.2.1.1,y.2.2.1.2.1,y.2.2.1.2.2,y.2.2.2.2)) fun (r:Option Nat)=>Option.bind (loopO m_goquery_getChildrenWithSiblingType_n_1 ((),y.2.1,List.replicate (Int.toNat (0:Int)) none,(y.2.2.1.1,y.2.2.1.2.1,y.2.2.1.2.2),r,y.2.2.2.2)) fun (y:List (Option Nat)×List HN ⊕ List (Option Nat)×List HN)=>selim (fun (y:List (Option Nat)×List HN)=>some y.1) (fun (y:List (Option Nat)×List HN)=>some y.1) y else none else bif decide (x.2.1=(2:Int)) then Option.bind (m_goquery_getChildrenWithSiblingType_1 (none,x.2.1,x.1,x.2.2.1,x.2.2.2.2)) fun (r:Option Nat)=>Option.bind (loopO m_goquery_getChildrenWithSiblingType_n_0 ((),x.2.1,(x.2.1,x.1,x.2.2.1),(0:Int),r,x.2.2.2.2)) fun (y:PUnit×Int×(Int×Option Nat×Option Nat)×Int×List HN)=>bif decide ((0:Int)≤y.2.2.2.1∧(0:Int)≤(0:Int)∧y.2.2.2.1≤(1048576:Int)) then Option.bind (m_goquery_getChildrenWithSiblingType_1 (none,y.2.2.1.1,y.2.2.1.2.1,y.2.2.1.2.2,y.2.2.2.2)) fun (r:Option Nat)=>Option.bind (loopO m_goquery_getChildrenWithSiblingType_n_1 ((),y.2.1,List.replicate (Int.toNat (0:Int)) none,(y.2.2.1.1,y.2.2.1.2.1,y.2.2.1.2.2),r,y.2.2.2.2)) fun (y:List (Option Nat)×List HN ⊕ List (Option Nat)×List HN)=>selim (fun (y:List (Option Nat)×List HN)=>some y.1) (fun (y:List (Option Nat)×List HN)=>some y.1) y else none else Option.bind (m_goquery_getChildrenWithSiblingType_1 (none,x.2.1,x.1,x.2.2.1,x.2.2.2.2)) fun (r:Option Nat)=>Option.bind (loopO m_goquery_getChildrenWithSiblingType_n_1 ((),x.2.1,[],(x.2.1,x.1,x.2.2.1),r,x.2.2.2.2)) fun (y:List (Option Nat)×List HN ⊕ List (Option Nat)×List HN)=>selim (fun (y:List (Option Nat)×List HN)=>some y.1) (fun (y:List (Option Nat)×List HN)=>some y.1) y
noncomputable def cx_goquery_getChildrenWithSiblingType_n:Cx:=⟨tb,lookE [(100,e_goquery_getChildrenWithSiblingType_1)],lookS [],mth,ast⟩
theorem ck_goquery_getChildrenWithSiblingType_n:CxOK Tryz.prog (cx_goquery_getChildrenWithSiblingType_n):=cx_ok tb_ok if_ok (.cons ok_goquery_getChildrenWithSiblingType_1 Tryz.call100 .nil)
noncomputable def c_goquery_getChildrenWithSiblingType_n_0:Code:=loopAt (Go.Proofs.Tryz.f99.body.getD .skip) 0
noncomputable def l_goquery_getChildrenWithSiblingType_n_0:LEnt:=⟨p_goquery_getChildrenWithSiblingType_n_0,x_goquery_getChildrenWithSiblingType_n_0,loopO (m_goquery_getChildrenWithSiblingType_n_0)⟩
theorem lo_goquery_getChildrenWithSiblingType_n_0:LOK Tryz.prog 57 0 false (l_goquery_getChildrenWithSiblingType_n_0) c_goquery_getChildrenWithSiblingType_n_0:=loop_ok (body:=m_goquery_getChildrenWithSiblingType_n_0) (L:=lookL []) (ck_goquery_getChildrenWithSiblingType_n) mixed (ls_ok (l:=[]) (by kernel_rfl) .nil) (by intro x; kernel_rfl) (fun x y h=>loopO_iff.1 h)
noncomputable def c_goquery_getChildrenWithSiblingType_n_1:Code:=loopAt (Go.Proofs.Tryz.f99.body.getD .skip) 1
noncomputable def l_goquery_getChildrenWithSiblingType_n_1:LEnt:=⟨p_goquery_getChildrenWithSiblingType_n_1,x_goquery_getChildrenWithSiblingType_n_1,loopO (m_goquery_getChildrenWithSiblingType_n_1)⟩
theorem lo_goquery_getChildrenWithSiblingType_n_1:LOK Tryz.prog 57 0 false (l_goquery_getChildrenWithSiblingType_n_1) c_goquery_getChildrenWithSiblingType_n_1:=loop_ok (body:=m_goquery_getChildrenWithSiblingType_n_1) (L:=lookL []) (ck_goquery_getChildrenWithSiblingType_n) mixed (ls_ok (l:=[]) (by kernel_rfl) .nil) (by intro x; kernel_rfl) (fun x y h=>loopO_iff.1 h)
noncomputable def e_goquery_getChildrenWithSiblingType_n:Ent:=⟨0,p_goquery_getChildrenWithSiblingType_n,q_goquery_getChildrenWithSiblingType_n,m_goquery_getChildrenWithSiblingType_n⟩
theorem ok_goquery_getChildrenWithSiblingType_n:FnOK Tryz.prog 99 e_goquery_getChildrenWithSiblingType_n:=fn_ok (L:=lookL [(1,l_goquery_getChildrenWithSiblingType_n_0),(3,l_goquery_getChildrenWithSiblingType_n_1)]) ck_goquery_getChildrenWithSiblingType_n mixed Tryz.func99 rfl (by kernel_rfl) (by kernel_rfl) (ls_ok (l:=[(1,c_goquery_getChildrenWithSiblingType_n_0),(3,c_goquery_getChildrenWithSiblingType_n_1)]) (by kernel_rfl) (.cons rfl (lo_goquery_getChildrenWithSiblingType_n_0) (.cons rfl (lo_goquery_getChildrenWithSiblingType_n_1) .nil))) (by intro x; kernel_rfl)
abbrev p_goquery_getChildrenNodes_1:Pt:=[(0, .int .i64),(1, .np),(2, .fp .int),(NTR, .nsr .h)]
abbrev q_goquery_getChildrenNodes_1:Pt:=[(0, .own .np 51)]
noncomputable def m_goquery_getChildrenNodes_1:Tup p_goquery_getChildrenNodes_1→Option (Tup q_goquery_getChildrenNodes_1):=fun (x:Int×Option Nat×Int×List HN)=>Option.bind (m_goquery_getChildrenWithSiblingType_n (x.2.1,x.2.2.1,none,(),x.2.2.2)) fun (r:List (Option Nat))=>some r
noncomputable def cx_goquery_getChildrenNodes_1:Cx:=⟨tb,lookE [(99,e_goquery_getChildrenWithSiblingType_n)],lookS [],mth,ast⟩
theorem ck_goquery_getChildrenNodes_1:CxOK Tryz.prog (cx_goquery_getChildrenNodes_1):=cx_ok tb_ok if_ok (.cons ok_goquery_getChildrenWithSiblingType_n Tryz.call99 .nil)
noncomputable def e_goquery_getChildrenNodes_1:Ent:=⟨0,p_goquery_getChildrenNodes_1,q_goquery_getChildrenNodes_1,m_goquery_getChildrenNodes_1⟩
theorem ok_goquery_getChildrenNodes_1:FnOK Tryz.prog 98 e_goquery_getChildrenNodes_1:=fn_ok (L:=lookL []) ck_goquery_getChildrenNodes_1 mixed Tryz.func98 rfl (by kernel_rfl) (by kernel_rfl) (ls_ok (l:=[]) (by kernel_rfl) .nil) (by intro x; kernel_rfl)
abbrev p_goquery_mapNodes_kids:Pt:=[(0, .lst .np),(1, .clo 98 [.int]),(NTR, .nsr .h)]
abbrev q_goquery_mapNodes_kids:Pt:=[(0, .own .np 51)]
abbrev p_goquery_mapNodes_kids_0:Pt:=[(1, .clo 98 [.int]),(4, .own .np 51),(5, .mp),(23, .lst .np),(24, .int .i64),(25, .int .i64),(NTR, .nsr .h)]
abbrev x_goquery_mapNodes_kids_0:List (Xt×Pt):=[(.ex 1,[(4, .own .np 51),(NTR, .nsr .h)])]
noncomputable def m_goquery_mapNodes_kids_0:Tup p_goquery_mapNodes_kids_0→Option (Stp (Tup p_goquery_mapNodes_kids_0) (SumT (x_goquery_mapNodes_kids_0.map (·.2)))):=fun (x:Int×List (Option Nat)×List (Option Nat×Bool)×List (Option Nat)×Int×Int×List HN)=>bif decide (x.2.2.2.2.2.1<x.2.2.2.2.1) then Option.bind (atI x.2.2.2.1 x.2.2.2.2.2.1) fun (v:Option Nat)=>Option.bind (m_goquery_getChildrenNodes_1 (x.2.2.2.2.2.1,v,x.1,x.2.2.2.2.2.2)) fun (r:List (Option Nat))=>bif decide ((0:Int)<(↑(List.length r):Int)) then Option.bind (m_goquery_appendWithoutDuplicates_mp (x.2.1,r,x.2.2.1)) fun (r:List (Option Nat)×List (Option Nat×Bool))=>some (Stp.nx (x.1,r.1,r.2,x.2.2.2.1,x.2.2.2.2.1,IntKind.wrap .i64 (x.2.2.2.2.2.1+(1:Int)),x.2.2.2.2.2.2)) else some (Stp.nx (x.1,x.2.1,x.2.2.1,x.2.2.2.1,x.2.2.2.2.1,IntKind.wrap .i64 (x.2.2.2.2.2.1+(1:Int)),x.2.2.2.2.2.2)) else some (Stp.out (x.2.1,x.2.2.2.2.2.2))
noncomputable def m_goquery_mapNodes_kids:Tup p_goquery_mapNodes_kids→Option (Tup q_goquery_mapNodes_kids):=fun (x:List (Option Nat)×Int×List HN)=>bif decide ((↑(List.length x.1):Int)=(0:Int)) then some [] else bif decide ((↑(List.length x.1):Int)=(1:Int)) then Option.bind (atI x.1 (0:Int)) fun (v:Option Nat)=>Option.bind (m_goquery_getChildrenNodes_1 ((0:Int),v,x.2.1,x.2.2)) fun (r:List (Option Nat))=>some r else Option.bind (loopO m_goquery_mapNodes_kids_0 (x.2.1,[],[],x.1,(↑(List.length x.1):Int),(0:Int),x.2.2)) fun (y:List (Option Nat)×List HN)=>some y.1
noncomputable def cx_goquery_mapNodes_kids:Cx:=⟨tb,lookE [(53,e_goquery_appendWithoutDuplicates_mp),(98,e_goquery_getChildrenNodes_1)],lookS [],mth,ast⟩
theorem ck_goquery_mapNodes_kids:CxOK Tryz.prog (cx_goquery_mapNodes_kids):=cx_ok tb_ok if_ok (.cons ok_goquery_appendWithoutDuplicates_mp Tryz.call53 (.cons ok_goquery_getChildrenNodes_1 Tryz.call98 .nil))
noncomputable def c_goquery_mapNodes_kids_0:Code:=loopAt (Go.Proofs.Tryz.f97.body.getD .skip) 0
noncomputable def l_goquery_mapNodes_kids_0:LEnt:=⟨p_goquery_mapNodes_kids_0,x_goquery_mapNodes_kids_0,loopO (m_goquery_mapNodes_kids_0)⟩
theorem lo_goquery_mapNodes_kids_0:LOK Tryz.prog 43 0 false (l_goquery_mapNodes_kids_0) c_goquery_mapNodes_kids_0:=loop_ok (body:=m_goquery_mapNodes_kids_0) (L:=lookL []) (ck_goquery_mapNodes_kids) mixed (ls_ok (l:=[]) (by kernel_rfl) .nil) (by intro x; kernel_rfl) (fun x y h=>loopO_iff.1 h)
noncomputable def e_goquery_mapNodes_kids:Ent:=⟨0,p_goquery_mapNodes_kids,q_goquery_mapNodes_kids,m_goquery_mapNodes_kids⟩
theorem ok_goquery_mapNodes_kids:FnOK Tryz.prog 97 e_goquery_mapNodes_kids:=fn_ok (L:=lookL [(1,l_goquery_mapNodes_kids_0)]) ck_goquery_mapNodes_kids mixed Tryz.func97 rfl (by kernel_rfl) (by kernel_rfl) (ls_ok (l:=[(1,c_goquery_mapNodes_kids_0)]) (by kernel_rfl) (.cons rfl (lo_goquery_mapNodes_kids_0) .nil)) (by intro x; kernel_rfl)
abbrev p_goquery_getChildrenNodes:Pt:=[(0, .lst .np),(1, .int .i64),(NTR, .nsr .h)]
abbrev q_goquery_getChildrenNodes:Pt:=[(0, .own .np 51)]
noncomputable def m_goquery_getChildrenNodes:Tup p_goquery_getChildrenNodes→Option (Tup q_goquery_getChildrenNodes):=fun (x:List (Option Nat)×Int×List HN)=>Option.bind (m_goquery_mapNodes_kids (x.1,x.2.1,x.2.2)) fun (r:List (Option Nat))=>some r
noncomputable def cx_goquery_getChildrenNodes:Cx:=⟨tb,lookE [(97,e_goquery_mapNodes_kids),(98,e_goquery_getChildrenNodes_1)],lookS [],mth,ast⟩
theorem ck_goquery_getChildrenNodes:CxOK Tryz.prog (cx_goquery_getChildrenNodes):=cx_ok tb_ok if_ok (.cons ok_goquery_mapNodes_kids Tryz.call97 (.cons ok_goquery_getChildrenNodes_1 Tryz.call98 .nil))
noncomputable def e_goquery_getChildrenNodes:Ent:=⟨0,p_goquery_getChildrenNodes,q_goquery_getChildrenNodes,m_goquery_getChildrenNodes⟩
theorem ok_goquery_getChildrenNodes:FnOK Tryz.prog 88 e_goquery_getChildrenNodes:=fn_ok (L:=lookL []) ck_goquery_getChildrenNodes mixed Tryz.func88 rfl (by kernel_rfl) (by kernel_rfl) (ls_ok (l:=[]) (by kernel_rfl) .nil) (by intro x; kernel_rfl)
abbrev p_goquery_Selection_Contents:Pt:=[(0, .fp (.rc .nps [] 2)),(NT, .ns .h 82 135)]
abbrev q_goquery_Selection_Contents:Pt:=[(0, .fp (.rc .nps [] 2)),(NT, .ns .h 82 135)]
noncomputable def m_goquery_Selection_Contents:Tup p_goquery_Selection_Contents→Option (Tup q_goquery_Selection_Contents):=fun (x:List (Option Nat)×List HN)=>Option.bind (m_goquery_getChildrenNodes (x.1,(4:Int),x.2)) fun (r:List (Option Nat))=>Option.bind (m_goquery_pushStack (x.1,r)) fun (r:List (Option Nat))=>some (r,x.2)
noncomputable def cx_goquery_Selection_Contents:Cx:=⟨tb,lookE [(88,e_goquery_getChildrenNodes),(52,e_goquery_pushStack)],lookS [],mth,ast⟩
theorem ck_goquery_Selection_Contents:CxOK Tryz.prog (cx_goquery_Selection_Contents):=cx_ok tb_ok if_ok (.cons ok_goquery_getChildrenNodes Tryz.call88 (.cons ok_goquery_pushStack Tryz.call52 .nil))
noncomputable def e_goquery_Selection_Contents:Ent:=⟨0,p_goquery_Selection_Contents,q_goquery_Selection_Contents,m_goquery_Selection_Contents⟩
theorem ok_goquery_Selection_Contents:FnOK Tryz.prog 56 e_goquery_Selection_Contents:=fn_ok (L:=lookL []) ck_goquery_Selection_Contents mixed Tryz.func56 rfl (by kernel_rfl) (by kernel_rfl) (ls_ok (l:=[]) (by kernel_rfl) .nil) (by intro x; kernel_rfl)
abbrev p_goquery_Selection_WrapAllNode:Pt:=[(0, .fp (.rc .nps [] 2)),(1, .np),(NT, .ns .h 82 135)]
abbrev q_goquery_Selection_WrapAllNode:Pt:=[(0, .any),(NT, .ns .h 82 135)]
abbrev p_goquery_Selection_WrapAllNode_0:Pt:=[(0, .fp (.rc .nps [] 2)),(5, .np),(7, .np),(NT, .ns .h 82 135)]
abbrev x_goquery_Selection_WrapAllNode_0:List (Xt×Pt):=[(.ex 0,[(0, .fp (.rc .nps [] 2)),(5, .np),(NT, .ns .h 82 135)])]
noncomputable def m_goquery_Selection_WrapAllNode_0:Tup p_goquery_Selection_WrapAllNode_0→Option (Stp (Tup p_goquery_Selection_WrapAllNode_0) (SumT (x_goquery_Selection_WrapAllNode_0.map (·.2)))):=fun (x:List (Option Nat)×Option Nat×Option Nat×List HN)=>bif !Option.isNone x.2.2.1 then Option.bind (m_goquery_getFirstChildEl (x.2.2.1,x.2.2.2)) fun (r:Option Nat)=>some (Stp.nx (x.1,x.2.2.1,r,x.2.2.2)) else some (Stp.out (x.1,x.2.1,x.2.2.2))
noncomputable def m_goquery_Selection_WrapAllNode:Tup p_goquery_Selection_WrapAllNode→Option (Tup q_goquery_Selection_WrapAllNode):=fun (x:List (Option Nat)×Option Nat×List HN)=>Option.bind (m_goquery_Selection_Size x.1) fun (r:Int)=>bif decide (r=(0:Int)) then some ((),x.2.2) else Option.bind (m_goquery_cloneNode big (x.2.1,x.2.2)) fun (r:Option Nat×List HN)=>Option.bind (atI x.1 (0:Int)) fun (v:Option Nat)=>Option.bind v fun (i:Nat)=>Option.bind (some i) fun (i:Nat)=>Option.bind r.2[i]? fun (h:HN)=>bif !Option.isNone (HN.par h) then Option.bind v fun (i:Nat)=>Option.bind (some i) fun (i:Nat)=>Option.bind r.2[i]? fun (h:HN)=>Option.bind (m_html_Node_InsertBefore (HN.par h,r.1,v,r.2)) fun (r_1:List HN)=>Option.bind v fun (i:Nat)=>Option.bind (some i) fun (i:Nat)=>Option.bind r_1[i]? fun (h:HN)=>Option.bind (m_html_Node_RemoveChild (HN.par h,v,r_1)) fun (r_2:List HN)=>Option.bind (m_goquery_getFirstChildEl (r.1,r_2)) fun (r_3:Option Nat)=>Option.bind (loopO m_goquery_Selection_WrapAllNode_0 (x.1,r.1,r_3,r_2)) fun (y:List (Option Nat)×Option Nat×List HN)=>Option.bind (m_goquery_newSingleSelection (y.2.1,())) fun (r:List (Option Nat))=>Option.bind (m_goquery_Selection_AppendSelection (r,y.1,y.2.2)) fun (r:PUnit×List HN)=>some ((),r.2) else Option.bind (m_goquery_getFirstChildEl (r.1,r.2)) fun (r_1:Option Nat)=>Option.bind (loopO m_goquery_Selection_WrapAllNode_0 (x.1,r.1,r_1,r.2)) fun (y:List (Option Nat)×Option Nat×List HN)=>Option.bind (m_goquery_newSingleSelection (y.2.1,())) fun (r:List (Option Nat))=>Option.bind (m_goquery_Selection_AppendSelection (r,y.1,y.2.2)) fun (r:PUnit×List HN)=>some ((),r.2)
noncomputable def cx_goquery_Selection_WrapAllNode:Cx:=⟨tb,lookE [(32,e_goquery_Selection_Size),(33,e_goquery_cloneNode),(34,e_html_Node_InsertBefore),(35,e_html_Node_RemoveChild),(36,e_goquery_getFirstChildEl),(37,e_goquery_newSingleSelection),(38,e_goquery_Selection_AppendSelection)],lookS [],mth,ast⟩
theorem ck_goquery_Selection_WrapAllNode:CxOK Tryz.prog (cx_goquery_Selection_WrapAllNode):=cx_ok tb_ok if_ok (.cons ok_goquery_Selection_Size Tryz.call32 (.cons ok_goquery_cloneNode Tryz.call33 (.cons ok_html_Node_InsertBefore Tryz.call34 (.cons ok_html_Node_RemoveChild Tryz.call35 (.cons ok_goquery_getFirstChildEl Tryz.call36 (.cons ok_goquery_newSingleSelection Tryz.call37 (.cons ok_goquery_Selection_AppendSelection Tryz.call38 .nil)))))))
noncomputable def c_goquery_Selection_WrapAllNode_0:Code:=loopAt (Go.Proofs.Tryz.f18.body.getD .skip) 0
noncomputable def l_goquery_Selection_WrapAllNode_0:LEnt:=⟨p_goquery_Selection_WrapAllNode_0,x_goquery_Selection_WrapAllNode_0,loopO (m_goquery_Selection_WrapAllNode_0)⟩
theorem lo_goquery_Selection_WrapAllNode_0:LOK Tryz.prog 54 0 true (l_goquery_Selection_WrapAllNode_0) c_goquery_Selection_WrapAllNode_0:=loop_ok (body:=m_goquery_Selection_WrapAllNode_0) (L:=lookL []) (ck_goquery_Selection_WrapAllNode) mixed (ls_ok (l:=[]) (by kernel_rfl) .nil) (by intro x; kernel_rfl) (fun x y h=>loopO_iff.1 h)
noncomputable def e_goquery_Selection_WrapAllNode:Ent:=⟨0,p_goquery_Selection_WrapAllNode,q_goquery_Selection_WrapAllNode,m_goquery_Selection_WrapAllNode⟩
theorem ok_goquery_Selection_WrapAllNode:FnOK Tryz.prog 18 e_goquery_Selection_WrapAllNode:=fn_ok (L:=lookL [(0,l_goquery_Selection_WrapAllNode_0)]) ck_goquery_Selection_WrapAllNode mixed Tryz.func18 rfl (by kernel_rfl) (by kernel_rfl) (ls_ok (l:=[(0,c_goquery_Selection_WrapAllNode_0)]) (by kernel_rfl) (.cons rfl (lo_goquery_Selection_WrapAllNode_0) .nil)) (by intro x; kernel_rfl)
abbrev p_goquery_Selection_wrapAllNodes:Pt:=[(0, .fp (.rc .nps [] 2)),(1, .lst .np),(NT, .ns .h 82 135)]
abbrev q_goquery_Selection_wrapAllNodes:Pt:=[(0, .any),(NT, .ns .h 82 135)]
noncomputable def m_goquery_Selection_wrapAllNodes:Tup p_goquery_Selection_wrapAllNodes→Option (Tup q_goquery_Selection_wrapAllNodes):=fun (x:List (Option Nat)×List (Option Nat)×List HN)=>bif decide ((0:Int)<(↑(List.length x.2.1):Int)) then Option.bind (atI x.2.1 (0:Int)) fun (v:Option Nat)=>Option.bind (m_goquery_Selection_WrapAllNode (x.1,v,x.2.2)) fun (r:PUnit×List HN)=>some ((),r.2) else some ((),x.2.2)
noncomputable def cx_goquery_Selection_wrapAllNodes:Cx:=⟨tb,lookE [(18,e_goquery_Selection_WrapAllNode)],lookS [],mth,ast⟩
theorem ck_goquery_Selection_wrapAllNodes:CxOK Tryz.prog (cx_goquery_Selection_wrapAllNodes):=cx_ok tb_ok if_ok (.cons ok_goquery_Selection_WrapAllNode Tryz.call18 .nil)
noncomputable def e_goquery_Selection_wrapAllNodes:Ent:=⟨0,p_goquery_Selection_wrapAllNodes,q_goquery_Selection_wrapAllNodes,m_goquery_Selection_wrapAllNodes⟩
theorem ok_goquery_Selection_wrapAllNodes:FnOK Tryz.prog 57 e_goquery_Selection_wrapAllNodes:=fn_ok (L:=lookL []) ck_goquery_Selection_wrapAllNodes mixed Tryz.func57 rfl (by kernel_rfl) (by kernel_rfl) (ls_ok (l:=[]) (by kernel_rfl) .nil) (by intro x; kernel_rfl)
abbrev p_goquery_Selection_wrapInnerNodes_1:Pt:=[(0, .int .i64),(1, .fp (.rc .nps [] 2)),(2, .fp (.rc .nps [] 0)),(NT, .ns .h 82 135)]
abbrev q_goquery_Selection_wrapInnerNodes_1:Pt:=[(NT, .ns .h 82 135)]
noncomputable def m_goquery_Selection_wrapInnerNodes_1:Tup p_goquery_Selection_wrapInnerNodes_1→Option (Tup q_goquery_Selection_wrapInnerNodes_1):=fun (x:Int×List (Option Nat)×List (Option Nat)×List HN)=>Option.bind (m_goquery_Selection_Contents (x.2.1,x.2.2.2)) fun (r:List (Option Nat)×List HN)=>Option.bind (m_goquery_Selection_Size r.1) fun (r_1:Int)=>bif decide ((0:Int)<r_1) then Option.bind (m_goquery_Selection_wrapAllNodes (r.1,x.2.2.1,r.2)) fun (r:PUnit×List HN)=>some r.2 else Option.bind (atI x.2.2.1 (0:Int)) fun (v:Option Nat)=>Option.bind (m_goquery_cloneNode big (v,r.2)) fun (r:Option Nat×List HN)=>Option.bind (m_goquery_Selection_AppendNodes_l (x.2.1,[r.1],r.2)) fun (r:PUnit×List HN)=>some r.2
noncomputable def cx_goquery_Selection_wrapInnerNodes_1:Cx:=⟨tb,lookE [(56,e_goquery_Selection_Contents),(32,e_goquery_Selection_Size),(57,e_goquery_Selection_wrapAllNodes),(33,e_goquery_cloneNode),(58,e_goquery_Selection_AppendNodes_l)],lookS [],mth,ast⟩
theorem ck_goquery_Selection_wrapInnerNodes_1:CxOK Tryz.prog (cx_goquery_Selection_wrapInnerNodes_1):=cx_ok tb_ok if_ok (.cons ok_goquery_Selection_Contents Tryz.call56 (.cons ok_goquery_Selection_Size Tryz.call32 (.cons ok_goquery_Selection_wrapAllNodes Tryz.call57 (.cons ok_goquery_cloneNode Tryz.call33 (.cons ok_goquery_Selection_AppendNodes_l Tryz.call58 .nil)))))
noncomputable def e_goquery_Selection_wrapInnerNodes_1:Ent:=⟨0,p_goquery_Selection_wrapInnerNodes_1,q_goquery_Selection_wrapInnerNodes_1,m_goquery_Selection_wrapInnerNodes_1⟩
theorem ok_goquery_Selection_wrapInnerNodes_1:FnOK Tryz.prog 55 e_goquery_Selection_wrapInnerNodes_1:=fn_ok (L:=lookL []) ck_goquery_Selection_wrapInnerNodes_1 mixed Tryz.func55 rfl (by kernel_rfl) (by kernel_rfl) (ls_ok (l:=[]) (by kernel_rfl) .nil) (by intro x; kernel_rfl)
abbrev p_goquery_Selection_Each_w:Pt:=[(0, .fp (.rc .nps [] 2)),(1, .clo 55 [(.rc .nps [] 0)]),(NT, .ns .h 82 135)]
abbrev q_goquery_Selection_Each_w:Pt:=[(0, .any),(NT, .ns .h 82 135)]
abbrev p_goquery_Selection_Each_w_0:Pt:=[(0, .fp (.rc .nps [] 2)),(1, .clo 55 [(.rc .nps [] 0)]),(10, .lst .np),(11, .int .i64),(12, .int .i64),(NT, .ns .h 82 135)]
abbrev x_goquery_Selection_Each_w_0:List (Xt×Pt):=[(.ex 0,[(0, .fp (.rc .nps [] 2)),(NT, .ns .h 82 135)])]
noncomputable def m_goquery_Selection_Each_w_0:Tup p_goquery_Selection_Each_w_0→Option (Stp (Tup p_goquery_Selection_Each_w_0) (SumT (x_goquery_Selection_Each_w_0.map (·.2)))):=fun (x:List (Option Nat)×List (Option Nat)×List (Option Nat)×Int×Int×List HN)=>bif decide (x.2.2.2.2.1<x.2.2.2.1) then Option.bind (atI x.2.2.1 x.2.2.2.2.1) fun (v:Option Nat)=>Option.bind (m_goquery_newSingleSelection (v,())) fun (r:List (Option Nat))=>Option.bind (m_goquery_Selection_wrapInnerNodes_1 (x.2.2.2.2.1,r,x.2.1,x.2.2.2.2.2)) fun (r:List HN)=>some (Stp.nx (x.1,x.2.1,x.2.2.1,x.2.2.2.1,IntKind.wrap .i64 (x.2.2.2.2.1+(1:Int)),r)) else some (Stp.out (x.1,x.2.2.2.2.2))
noncomputable def m_goquery_Selection_Each_w:Tup p_goquery_Selection_Each_w→Option (Tup q_goquery_Selection_Each_w):=fun (x:List (Option Nat)×List (Option Nat)×List HN)=>Option.bind (loopO m_goquery_Selection_Each_w_0 (x.1,x.2.1,x.1,(↑(List.length x.1):Int),(0:Int),x.2.2)) fun (y:List (Option Nat)×List HN)=>some ((),y.2)
noncomputable def cx_goquery_Selection_Each_w:Cx:=⟨tb,lookE [(37,e_goquery_newSingleSelection),(55,e_goquery_Selection_wrapInnerNodes_1)],lookS [],mth,ast⟩
theorem ck_goquery_Selection_Each_w:CxOK Tryz.prog (cx_goquery_Selection_Each_w):=cx_ok tb_ok if_ok (.cons ok_goquery_newSingleSelection Tryz.call37 (.cons ok_goquery_Selection_wrapInnerNodes_1 Tryz.call55 .nil))
noncomputable def c_goquery_Selection_Each_w_0:Code:=loopAt (Go.Proofs.Tryz.f54.body.getD .skip) 0
noncomputable def l_goquery_Selection_Each_w_0:LEnt:=⟨p_goquery_Selection_Each_w_0,x_goquery_Selection_Each_w_0,loopO (m_goquery_Selection_Each_w_0)⟩
theorem lo_goquery_Selection_Each_w_0:LOK Tryz.prog 28 0 true (l_goquery_Selection_Each_w_0) c_goquery_Selection_Each_w_0:=loop_ok (body:=m_goquery_Selection_Each_w_0) (L:=lookL []) (ck_goquery_Selection_Each_w) mixed (ls_ok (l:=[]) (by kernel_rfl) .nil) (by intro x; kernel_rfl) (fun x y h=>loopO_iff.1 h)
noncomputable def e_goquery_Selection_Each_w:Ent:=⟨0,p_goquery_Selection_Each_w,q_goquery_Selection_Each_w,m_goquery_Selection_Each_w⟩
theorem ok_goquery_Selection_Each_w:FnOK Tryz.prog 54 e_goquery_Selection_Each_w:=fn_ok (L:=lookL [(0,l_goquery_Selection_Each_w_0)]) ck_goquery_Selection_Each_w mixed Tryz.func54 rfl (by kernel_rfl) (by kernel_rfl) (ls_ok (l:=[(0,c_goquery_Selection_Each_w_0)]) (by kernel_rfl) (.cons rfl (lo_goquery_Selection_Each_w_0) .nil)) (by intro x; kernel_rfl)
abbrev p_goquery_Selection_wrapInnerNodes:Pt:=[(0, .fp (.rc .nps [] 2)),(1, .lst .np),(NT, .ns .h 82 135)]
abbrev q_goquery_Selection_wrapInnerNodes:Pt:=[(0, .any),(NT, .ns .h 82 135)]
noncomputable def m_goquery_Selection_wrapInnerNodes:Tup p_goquery_Selection_wrapInnerNodes→Option (Tup q_goquery_Selection_wrapInnerNodes):=fun (x:List (Option Nat)×List (Option Nat)×List HN)=>bif decide ((↑(List.length x.2.1):Int)=(0:Int)) then some ((),x.2.2) else Option.bind (m_goquery_Selection_Each_w (x.1,x.2.1,x.2.2)) fun (r:PUnit×List HN)=>some ((),r.2)
noncomputable def cx_goquery_Selection_wrapInnerNodes:Cx:=⟨tb,lookE [(54,e_goquery_Selection_Each_w),(55,e_goquery_Selection_wrapInnerNodes_1)],lookS [],mth,ast⟩
theorem ck_goquery_Selection_wrapInnerNodes:CxOK Tryz.prog (cx_goquery_Selection_wrapInnerNodes):=cx_ok tb_ok if_ok (.cons ok_goquery_Selection_Each_w Tryz.call54 (.cons ok_goquery_Selection_wrapInnerNodes_1 Tryz.call55 .nil))
noncomputable def e_goquery_Selection_wrapInnerNodes:Ent:=⟨0,p_goquery_Selection_wrapInnerNodes,q_goquery_Selection_wrapInnerNodes,m_goquery_Selection_wrapInnerNodes⟩
theorem ok_goquery_Selection_wrapInnerNodes:FnOK Tryz.prog 29 e_goquery_Selection_wrapInnerNodes:=fn_ok (L:=lookL []) ck_goquery_Selection_wrapInnerNodes mixed Tryz.func29 rfl (by kernel_rfl) (by kernel_rfl) (ls_ok (l:=[]) (by kernel_rfl) .nil) (by intro x; kernel_rfl)
abbrev p_goquery_Selection_WrapInnerNode:Pt:=[(0, .fp (.rc .nps [] 2)),(1, .np),(NT, .ns .h 82 135)]
abbrev q_goquery_Selection_WrapInnerNode:Pt:=[(0, .any),(NT, .ns .h 82 135)]
noncomputable def m_goquery_Selection_WrapInnerNode:Tup p_goquery_Selection_WrapInnerNode→Option (Tup q_goquery_Selection_WrapInnerNode):=fun (x:List (Option Nat)×Option Nat×List HN)=>Option.bind (m_goquery_Selection_wrapInnerNodes (x.1,[x.2.1],x.2.2)) fun (r:PUnit×List HN)=>some ((),r.2)
noncomputable def cx_goquery_Selection_WrapInnerNode:Cx:=⟨tb,lookE [(29,e_goquery_Selection_wrapInnerNodes)],lookS [],mth,ast⟩
theorem ck_goquery_Selection_WrapInnerNode:CxOK Tryz.prog (cx_goquery_Selection_WrapInnerNode):=cx_ok tb_ok if_ok (.cons ok_goquery_Selection_wrapInnerNodes Tryz.call29 .nil)
noncomputable def e_goquery_Selection_WrapInnerNode:Ent:=⟨0,p_goquery_Selection_WrapInnerNode,q_goquery_Selection_WrapInnerNode,m_goquery_Selection_WrapInnerNode⟩
theorem ok_goquery_Selection_WrapInnerNode:FnOK Tryz.prog 16 e_goquery_Selection_WrapInnerNode:=fn_ok (L:=lookL []) ck_goquery_Selection_WrapInnerNode mixed Tryz.func16 rfl (by kernel_rfl) (by kernel_rfl) (ls_ok (l:=[]) (by kernel_rfl) .nil) (by intro x; kernel_rfl)
abbrev p_impl_WrapInnerOf:Pt:=[(0, .lst .node),(1, .lst .int),(2, .int .i64),(NT, .ns .h 82 135)]
abbrev q_impl_WrapInnerOf:Pt:=[(0, .lst .node),(1, .lst .int),(2, .bool),(NT, .ns .h 82 135)]
noncomputable def m_impl_WrapInnerOf:Tup p_impl_WrapInnerOf→Option (Tup q_impl_WrapInnerOf):=fun (x:List Node×List Int×Int×List HN)=>Option.bind (m_impl_selected (x.1,x.2.1,x.2.2.2)) fun (r:(List (Option Nat)×PUnit)×List (Option Nat)×Bool×List HN)=>bif !r.2.2.1 then some ([],[],false,r.2.2.2) else bif decide (x.2.2.1<(0:Int)) then some ([],[],false,r.2.2.2) else bif decide ((↑(List.length r.1.1):Int)≤x.2.2.1) then some ([],[],false,r.2.2.2) else Option.bind (atI r.1.1 x.2.2.1) fun (v:Option Nat)=>Option.bind (m_goquery_Selection_WrapInnerNode (r.2.1,v,r.2.2.2)) fun (r_1:PUnit×List HN)=>Option.bind (m_impl_world_ends ((r.1.1,()),r_1.2)) fun (r:List Node×List Int×List HN)=>some (r.1,r.2.1,true,r.2.2)
noncomputable def cx_impl_WrapInnerOf:Cx:=⟨tb,lookE [(15,e_impl_selected),(16,e_goquery_Selection_WrapInnerNode),(17,e_impl_world_ends)],lookS [],mth,ast⟩
theorem ck_impl_WrapInnerOf:CxOK Tryz.prog (cx_impl_WrapInnerOf):=cx_ok tb_ok if_ok (.cons ok_impl_selected Tryz.call15 (.cons ok_goquery_Selection_WrapInnerNode Tryz.call16 (.cons ok_impl_world_ends Tryz.call17 .nil)))
noncomputable def e_impl_WrapInnerOf:Ent:=⟨0,p_impl_WrapInnerOf,q_impl_WrapInnerOf,m_impl_WrapInnerOf⟩
theorem ok_impl_WrapInnerOf:FnOK Tryz.prog 7 e_impl_WrapInnerOf:=fn_ok (L:=lookL []) ck_impl_WrapInnerOf mixed Tryz.func7 rfl (by kernel_rfl) (by kernel_rfl) (ls_ok (l:=[]) (by kernel_rfl) .nil) (by intro x; kernel_rfl)
abbrev p_impl_WrapInnerOf_f:Pt:=[(0, .lst .node),(1, .lst .int),(2, .int .i64)]
abbrev q_impl_WrapInnerOf_f:Pt:=[(0, .lst .node),(1, .lst .int),(2, .bool)]
noncomputable def m_impl_WrapInnerOf_f:Tup p_impl_WrapInnerOf_f→Option (Tup q_impl_WrapInnerOf_f):=frT 0 p_impl_WrapInnerOf_f q_impl_WrapInnerOf_f .h 82 135 (m_impl_WrapInnerOf)
noncomputable def e_impl_WrapInnerOf_f:Ent:=⟨0,p_impl_WrapInnerOf_f,q_impl_WrapInnerOf_f,m_impl_WrapInnerOf_f⟩
theorem ok_impl_WrapInnerOf_f:FnOK Tryz.prog 7 e_impl_WrapInnerOf_f:=fresh_ok (np:=0) (p:=p_impl_WrapInnerOf_f) (q:=q_impl_WrapInnerOf_f) (m:=m_impl_WrapInnerOf) ok_impl_WrapInnerOf (by kernel_rfl) (by kernel_rfl)
abbrev p_impl_WrapAllOf:Pt:=[(0, .lst .node),(1, .lst .int),(2, .int .i64),(NT, .ns .h 82 135)]
abbrev q_impl_WrapAllOf:Pt:=[(0, .lst .node),(1, .lst .int),(2, .bool),(NT, .ns .h 82 135)]
noncomputable def m_impl_WrapAllOf:Tup p_impl_WrapAllOf→Option (Tup q_impl_WrapAllOf):=fun (x:List Node×List Int×Int×List HN)=>Option.bind (m_impl_selected (x.1,x.2.1,x.2.2.2)) fun (r:(List (Option Nat)×PUnit)×List (Option Nat)×Bool×List HN)=>bif !r.2.2.1 then some ([],[],false,r.2.2.2) else bif decide (x.2.2.1<(0:Int)) then some ([],[],false,r.2.2.2) else bif decide ((↑(List.length r.1.1):Int)≤x.2.2.1) then some ([],[],false,r.2.2.2) else Option.bind (atI r.1.1 x.2.2.1) fun (v:Option Nat)=>Option.bind (m_goquery_Selection_WrapAllNode (r.2.1,v,r.2.2.2)) fun (r_1:PUnit×List HN)=>Option.bind (m_impl_world_ends ((r.1.1,()),r_1.2)) fun (r:List Node×List Int×List HN)=>some (r.1,r.2.1,true,r.2.2)
noncomputable def cx_impl_WrapAllOf:Cx:=⟨tb,lookE [(15,e_impl_selected),(18,e_goquery_Selection_WrapAllNode),(17,e_impl_world_ends)],lookS [],mth,ast⟩
theorem ck_impl_WrapAllOf:CxOK Tryz.prog (cx_impl_WrapAllOf):=cx_ok tb_ok if_ok (.cons ok_impl_selected Tryz.call15 (.cons ok_goquery_Selection_WrapAllNode Tryz.call18 (.cons ok_impl_world_ends Tryz.call17 .nil)))
noncomputable def e_impl_WrapAllOf:Ent:=⟨0,p_impl_WrapAllOf,q_impl_WrapAllOf,m_impl_WrapAllOf⟩
theorem ok_impl_WrapAllOf:FnOK Tryz.prog 8 e_impl_WrapAllOf:=fn_ok (L:=lookL []) ck_impl_WrapAllOf mixed Tryz.func8 rfl (by kernel_rfl) (by kernel_rfl) (ls_ok (l:=[]) (by kernel_rfl) .nil) (by intro x; kernel_rfl)
abbrev p_impl_WrapAllOf_f:Pt:=[(0, .lst .node),(1, .lst .int),(2, .int .i64)]
abbrev q_impl_WrapAllOf_f:Pt:=[(0, .lst .node),(1, .lst .int),(2, .bool)]
noncomputable def m_impl_WrapAllOf_f:Tup p_impl_WrapAllOf_f→Option (Tup q_impl_WrapAllOf_f):=frT 0 p_impl_WrapAllOf_f q_impl_WrapAllOf_f .h 82 135 (m_impl_WrapAllOf)
noncomputable def e_impl_WrapAllOf_f:Ent:=⟨0,p_impl_WrapAllOf_f,q_impl_WrapAllOf_f,m_impl_WrapAllOf_f⟩
theorem ok_impl_WrapAllOf_f:FnOK Tryz.prog 8 e_impl_WrapAllOf_f:=fresh_ok (np:=0) (p:=p_impl_WrapAllOf_f) (q:=q_impl_WrapAllOf_f) (m:=m_impl_WrapAllOf) ok_impl_WrapAllOf (by kernel_rfl) (by kernel_rfl)
end Go.Proofs.YtkmigbicabfodaaGreat.V
set_option linter.unusedVariables false
set_option linter.unusedSimpArgs false
namespace Go.Proofs.YtkmigbicabfodaaGreat.V
open Go
section
variable {F:Fo} {L:Nat→HN} {p:Nat}
theorem it_first (hF:F.ok) (hp:p<F.m):m_goquery_getChildrenWithSiblingType_1 (none,4,some p,none,F.st L)=some (F.kids p)[0]?:=by
 have hg:=Fo.get (F:=F) (L:=L) hp
 have hf:(F.mk1 L p).fst=(F.kids p)[0]?:=by simp only [Fo.mk1,List.head?_eq_getElem?]
 have step:m_goquery_getChildrenWithSiblingType_1_0 (none,4,some p,none,none,F.st L)=some (.out ((F.kids p)[0]?,F.st L)):=by
  simp only [m_goquery_getChildrenWithSiblingType_1_0,cond_dec,bind_some,hg,hf,Option.isNone_none,cond_true,Bool.not_true,cond_false]
  rw [if_neg (by decide),if_pos trivial]
  cases hk:(F.kids p)[0]? with
  | none=>simp
  | some c =>
   have hc:=(hF.kid (List.mem_of_getElem? hk)).2
   have hgc:=Fo.get (F:=F) (L:=L) hc
   rw [if_neg (by simp)]
   simp only [Option.isNone_some,cond_false,bind_some,hgc]
   split <;> rfl
 simp only [m_goquery_getChildrenWithSiblingType_1,loopO_out step,bind_some]
theorem it_next (hF:F.ok) {j c:Nat} (hc:(F.kids p)[j]?=some c):m_goquery_getChildrenWithSiblingType_1 (some c,4,some p,none,F.st L)=some (F.kids p)[j+1]?:=by
 obtain ⟨hu,hcm⟩:=hF.kid (List.mem_of_getElem? hc)
 have hg:=Fo.get (F:=F) (L:=L) hcm
 have hf:(F.mk1 L c).nxt=(F.kids p)[j+1]?:=by
  simp only [Fo.mk1,hu,Option.bind_some]
  exact nxtL_get (hF.nd p) hc
 have step:m_goquery_getChildrenWithSiblingType_1_0 (some c,4,some p,none,none,F.st L)=some (.out ((F.kids p)[j+1]?,F.st L)):=by
  simp only [m_goquery_getChildrenWithSiblingType_1_0,cond_dec,bind_some,hg,hf,Option.isNone_none,Option.isNone_some,cond_true,Bool.not_true,cond_false]
  rw [if_neg (by decide),if_pos trivial]
  cases hk:(F.kids p)[j+1]? with
  | none=>simp
  | some d =>
   have hd:=(hF.kid (List.mem_of_getElem? hk)).2
   have hgd:=Fo.get (F:=F) (L:=L) hd
   rw [if_neg (by simp)]
   simp only [Option.isNone_some,cond_false,bind_some,hgd]
   split <;> rfl
 simp only [m_goquery_getChildrenWithSiblingType_1,loopO_out step,bind_some]
theorem child_eq (hF:F.ok) (hp:p<F.m) (hl:(F.kids p).length≤1000):m_goquery_getChildrenWithSiblingType_n (some p,4,none,(),F.st L)=some ((F.kids p).map some):=by
 have count:∀ d j:Nat,(F.kids p).length - j=d→j≤(F.kids p).length→loopO m_goquery_getChildrenWithSiblingType_n_0 ((),4,(4,some p,none),(j:Int),(F.kids p)[j]?,F.st L)=some ((),4,(4,some p,none),((F.kids p).length:Int),F.st L):=by
  intro d
  induction d with
  | zero =>
   intro j hd hj
   obtain rfl:j=(F.kids p).length:=by omega
   refine loopO_out ?_
   have:(F.kids p)[(F.kids p).length]?=none:=by simp
   simp only [m_goquery_getChildrenWithSiblingType_n_0,this,Option.isNone_none,Bool.not_true,cond_false]
  | succ d ih =>
   intro j hd hj
   obtain ⟨c,hc⟩:=get_lt (l:=F.kids p) (k:=j) (by omega)
   have step:m_goquery_getChildrenWithSiblingType_n_0 ((),4,(4,some p,none),(j:Int),(F.kids p)[j]?,F.st L)=some (.nx ((),4,(4,some p,none),((j+1:Nat):Int),(F.kids p)[j+1]?,F.st L)):=by
    simp only [m_goquery_getChildrenWithSiblingType_n_0,hc,Option.isNone_some,Bool.not_false,cond_true,it_next hF hc,bind_some]
    rw [w64 (by omega) (by omega)]
    rfl
   rw [loopO_nx step]
   exact ih (j+1) (by omega) (by omega)
 have coll:∀ d j:Nat,(F.kids p).length - j=d→j≤(F.kids p).length→loopO m_goquery_getChildrenWithSiblingType_n_1 ((),4,((F.kids p).take j).map some,(4,some p,none),(F.kids p)[j]?,F.st L)=some (.inl ((F.kids p).map some,F.st L)):=by
  intro d
  induction d with
  | zero =>
   intro j hd hj
   obtain rfl:j=(F.kids p).length:=by omega
   refine loopO_out ?_
   have:(F.kids p)[(F.kids p).length]?=none:=by simp
   simp only [m_goquery_getChildrenWithSiblingType_n_1,this,Option.isNone_none,Bool.not_true,cond_false,List.take_length]
  | succ d ih =>
   intro j hd hj
   obtain ⟨c,hc⟩:=get_lt (l:=F.kids p) (k:=j) (by omega)
   have step:m_goquery_getChildrenWithSiblingType_n_1 ((),4,((F.kids p).take j).map some,(4,some p,none),(F.kids p)[j]?,F.st L)=some (.nx ((),4,((F.kids p).take (j+1)).map some,(4,some p,none),(F.kids p)[j+1]?,F.st L)):=by
    simp only [m_goquery_getChildrenWithSiblingType_n_1,hc,Option.isNone_some,Bool.not_false,cond_true,cond_dec,it_next hF hc]
    rw [if_neg (by decide),if_neg (by decide),appL_some (by simp; omega),bind_some,if_neg (by decide),if_neg (by decide),bind_some,List.take_add_one,hc]
    simp
   rw [loopO_nx step]
   exact ih (j+1) (by omega) (by omega)
 have c0:=count (F.kids p).length 0 rfl (Nat.zero_le _)
 have c0':loopO m_goquery_getChildrenWithSiblingType_n_0 ((),4,(4,some p,none),(0:Int),(F.kids p)[0]?,F.st L)=_:=c0
 have l0:=coll (F.kids p).length 0 rfl (Nat.zero_le _)
 have l0':loopO m_goquery_getChildrenWithSiblingType_n_1 ((),4,List.replicate (Int.toNat 0) none,(4,some p,none),(F.kids p)[0]?,F.st L)=_:=l0
 simp only [m_goquery_getChildrenWithSiblingType_n,cond_dec]
 rw [if_neg (by decide),if_pos trivial]
 simp only [it_first hF hp,bind_some,c0',l0']
 rw [if_pos ⟨by omega,by omega,by omega⟩]
 simp only [it_first hF hp,bind_some,l0',selim]
theorem children_eq (hF:F.ok) (hp:p<F.m) (hl:(F.kids p).length≤1000):m_goquery_getChildrenNodes ([some p],4,F.st L)=some ((F.kids p).map some):=by
 have e:atI ([some p]:List (Option Nat)) 0=some (some p):=rfl
 simp only [m_goquery_getChildrenNodes,m_goquery_mapNodes_kids,m_goquery_getChildrenNodes_1,cond_dec,e,bind_some,child_eq hF hp hl]
 rw [if_neg (by simp),if_pos (by simp)]
 rfl
end
end Go.Proofs.YtkmigbicabfodaaGreat.V
set_option linter.unusedVariables false
set_option linter.unusedSimpArgs false
namespace Go.Proofs.YtkmigbicabfodaaGreat.V
open Go
theorem rem_off {F:Fo} {L:Nat→HN} {c q:Nat} (hF:F.ok) (hu:F.up c=some q):m_html_Node_RemoveChild (some q,some c,F.st L)=some ((F.off [c]).st L):=by
 obtain ⟨A,B,h⟩:=sp_of hF hu
 exact remove_eq h
section
variable {G:Fo} {M:Nat→HN} {x to:Nat} {l:List Nat}
theorem firstEl_eq (hG:G.ok) (hx:x<G.m):m_goquery_getFirstChildEl (some x,G.st M)=some ((G.kids x).find? fun c=>decide ((M c).ty=3)):=by
 have hg:=Fo.get (F:=G) (L:=M) hx
 have key:∀ d j,(G.kids x).length - j=d→j≤(G.kids x).length→loopO m_goquery_getFirstChildEl_0 ((G.kids x)[j]?,G.st M)=some (((G.kids x).drop j).find? fun c=>decide ((M c).ty=3),G.st M):=by
  intro d
  induction d with
  | zero =>
   intro j hd hj
   obtain rfl:j=(G.kids x).length:=by omega
   refine loopO_out ?_
   simp only [m_goquery_getFirstChildEl_0,List.drop_length,List.find?_nil]
   rw [List.getElem?_eq_none (Nat.le_refl _)]
   rfl
  | succ d ih =>
   intro j hd hj
   obtain ⟨c,hc⟩:=get_lt (l:=G.kids x) (k:=j) (by omega)
   obtain ⟨hu,hm⟩:=hG.kid (List.mem_of_getElem? hc)
   have hdr:(G.kids x).drop j=c::(G.kids x).drop (j+1):=by
    obtain ⟨hlt,he⟩:=List.getElem?_eq_some_iff.1 hc
    rw [List.drop_eq_getElem_cons hlt,he]
   have hgc:=Fo.get (F:=G) (L:=M) hm
   have hty:(G.mk1 M c).ty=(M c).ty:=rfl
   have hnx:(G.mk1 M c).nxt=(G.kids x)[j+1]?:=by
    simp only [Fo.mk1,hu,Option.bind_some]
    exact nxtL_get (hG.nd x) hc
   by_cases e:(M c).ty=3
   ·refine loopO_out ?_
    simp only [m_goquery_getFirstChildEl_0,hc,Option.isNone_some,Bool.not_false,cond_true,bind_some,hgc,hty,cond_dec]
    rw [if_neg (by simp [e]),hdr,List.find?_cons_of_pos (by simp [e])]
   ·have step:m_goquery_getFirstChildEl_0 ((G.kids x)[j]?,G.st M)=some (.nx ((G.kids x)[j+1]?,G.st M)):=by
     simp only [m_goquery_getFirstChildEl_0,hc,Option.isNone_some,Bool.not_false,cond_true,bind_some,hgc,hty,cond_dec,hnx]
     rw [if_pos e]
    rw [loopO_nx step,ih (j+1) (by omega) (by omega),hdr,List.find?_cons_of_neg (by simp [e])]
 have h0:=key _ 0 rfl (Nat.zero_le _)
 have hf:(G.mk1 M x).fst=(G.kids x)[0]?:=by simp only [Fo.mk1,List.head?_eq_getElem?]
 simp only [m_goquery_getFirstChildEl,bind_some,hg,hf,h0,List.drop_zero]
theorem appl_in (hG:G.ok) (hto:to<G.m) (h1:∀ d∈l,d<G.m∧to≠d∧d∉G.kids to) (h2:l.Nodup) (hl:l.length≤1000000) (s s':List (Option Nat)) (nn i':Int) :
  ∀ d j,l.length - j=d→j≤l.length→loopO m_goquery_Selection_manipulateNodes_appl_1_0 (s,l.map some,(),0,0,some to,s',nn,i',l.map some,(l.length:Int),(j:Int),(mvE G to (l.take j)).st M)=some (s,l.map some,(),0,s',nn,i',(mvE G to l).st M):=by
 intro d
 induction d with
 | zero =>
  intro j hd hj
  obtain rfl:j=l.length:=by omega
  rw [List.take_length]
  refine loopO_out ?_
  simp only [m_goquery_Selection_manipulateNodes_appl_1_0,cond_dec]
  rw [if_neg (by omega)]
 | succ d ih =>
  intro j hd hj
  obtain ⟨c,hc⟩:=get_lt (l:=l) (k:=j) (by omega)
  have e1:l.take (j+1)=l.take j++[c]:=by rw [List.take_add_one,hc]; rfl
  have hsub:∀ d∈l.take j++[c],d∈l:=fun d hd=>by rw [← e1] at hd; exact List.mem_of_mem_take hd
  have hnd:(l.take j++[c]).Nodup:=by rw [← e1]; exact h2.sublist (List.take_sublist _ _)
  have hsp:=mvE_sp hG hto (fun d hd=>h1 d (hsub d hd)) hnd
  have hokj:(mvE G to (l.take j)).ok:=mvE_ok hG hto (fun d hd=>h1 d (hsub d (by simp [hd]))) (List.nodup_append.1 hnd).1
  have hcm:c<G.m:=(h1 c (hsub c (by simp))).1
  have hcg:(l.map some)[j]?=some (some c):=by rw [List.getElem?_map,hc]; rfl
  have hgc:((mvE G to (l.take j)).st M)[c]?=some ((mvE G to (l.take j)).mk1 M c):=Fo.get hcm
  have happ:=append_eq (L:=M) hsp
  have step:m_goquery_Selection_manipulateNodes_appl_1_0 (s,l.map some,(),0,0,some to,s',nn,i',l.map some,(l.length:Int),(j:Int),(mvE G to (l.take j)).st M)=some (.nx (s,l.map some,(),0,0,some to,s',nn,i',l.map some,(l.length:Int),((j+1:Nat):Int),(mvE G to (l.take (j+1))).st M)):=by
   simp only [m_goquery_Selection_manipulateNodes_appl_1_0,cond_dec,atI_nat,hcg,bind_some,hgc]
   rw [if_pos (by omega),if_neg (by simp)]
   cases hu:(mvE G to (l.take j)).up c with
   | none =>
    have hpar:((mvE G to (l.take j)).mk1 M c).par=none:=hu
    simp only [hpar,Option.isNone_none,Bool.not_true,cond_false,m_goquery_Selection_AppendNodes_1]
    rw [off_none hokj hu] at happ
    rw [happ,bind_some,bind_some,e1,w64 (by omega) (by omega)]
    rfl
   | some q =>
    have hpar:((mvE G to (l.take j)).mk1 M c).par=some q:=hu
    simp only [hpar,Option.isNone_some,Bool.not_false,cond_true,m_goquery_Selection_AppendNodes_1]
    rw [rem_off hokj hu,bind_some,happ,bind_some,bind_some,e1,w64 (by omega) (by omega)]
    rfl
  rw [loopO_nx step]
  exact ih (j+1) (by omega) (by omega)
theorem appendSel_eq (hG:G.ok) (hto:to<G.m) (h1:∀ d∈l,d<G.m∧to≠d∧d∉G.kids to) (h2:l.Nodup) (hl:l.length≤1000000):m_goquery_Selection_AppendSelection ([some to],l.map some,G.st M)=some ((),(mvE G to l).st M):=by
 have hin:=appl_in (M:=M) hG hto h1 h2 hl [some to] [some to] 1 0 l.length 0 (by omega) (Nat.zero_le _)
 rw [List.take_zero,mvE_nil] at hin
 have hll:(((l.map (some:Nat→Option Nat)).length:Nat):Int)=(l.length:Int):=by simp
 have step:m_goquery_Selection_manipulateNodes_appl_1 ([some to],l.map some,(),0,[some to],1,0,G.st M)=some (.nx ([some to],l.map some,(),0,[some to],1,1,(mvE G to l).st M)):=by
  simp only [m_goquery_Selection_manipulateNodes_appl_1,cond_dec,hll]
  rw [if_pos (by omega)]
  have e:atI ([some to]:List (Option Nat)) 0=some (some to):=rfl
  have hin':loopO m_goquery_Selection_manipulateNodes_appl_1_0 ([some to],l.map some,(),0,0,some to,[some to],1,0,l.map some,(l.length:Int),(0:Int),G.st M)=some ([some to],l.map some,(),0,[some to],1,0,(mvE G to l).st M):=hin
  rw [e,bind_some,hin',bind_some]
  rfl
 have hout:loopO m_goquery_Selection_manipulateNodes_appl_1 ([some to],l.map some,(),0,[some to],1,0,G.st M)=some ([some to],(mvE G to l).st M):=by
  rw [loopO_nx step]
  refine loopO_out ?_
  simp only [m_goquery_Selection_manipulateNodes_appl_1,cond_dec]
  rw [if_neg (by omega)]
 have e1:IntKind.wrap .i64 ((([some to]:List (Option Nat)).length:Int) - 1)=0:=by rw [w64 (by simp) (by simp)]; rfl
 have e2:(([some to]:List (Option Nat)).length:Int)=1:=rfl
 simp only [m_goquery_Selection_AppendSelection,m_goquery_Selection_AppendNodes_l,m_goquery_Selection_manipulateNodes_appl,m_goquery_Selection_Size,m_goquery_Selection_Length,bind_some,cond_false]
 rw [e1,e2,hout,bind_some]
 rfl
end
end Go.Proofs.YtkmigbicabfodaaGreat.V
set_option linter.unusedVariables false
set_option linter.unusedSimpArgs false
namespace Go.Proofs.YtkmigbicabfodaaGreat.V
open Go
structure QOk (Q:Int×Node→HN→Prop):Prop where
 el:∀ a x,Q a x→(a.2.kind=3↔x.ty=3)
 cp:∀ a b x y,Q a x→b=(-1,a.2)→cpl y x→Q b y
section
variable {Q:Int×Node→HN→Prop} {D:Nat→Prop} {φ:Nat→Nat} {F F1 G G1:Fo} {P P1:Nat→Int×Node} {M M1:Nat→HN} {w to:Nat} {l:List Nat}
theorem Sim.grow (h:Sim Q D φ F P G M) (hx:ExS F P F1 P1):Sim Q D φ F1 P1 G M:=by
 have o:=fun i hi=>hx.old i (h.dm i hi)
 refine ⟨hx.ok,h.okG,fun i hi=>Nat.lt_of_lt_of_le (h.dm i hi) hx.m,h.gm,h.inj,fun i hi c hc=>?_,fun i hi p hp=>?_,fun i hi=>?_,fun i hi=>?_,fun i hi=>?_⟩
 ·rw [(o i hi).2.1] at hc; exact h.dk i hi c hc
 ·rw [(o i hi).1] at hp; exact h.du i hi p hp
 ·rw [(o i hi).2.1]; exact h.kids i hi
 ·rw [(o i hi).1]; exact h.up i hi
 ·rw [(o i hi).2.2]; exact h.lab i hi
theorem Sim.mvE (h:Sim Q D φ F P G M) (hto:D to) (hl:∀ c∈l,D c∧to≠c∧c∉F.kids to) (hn:l.Nodup):Sim Q D φ (mvE F to l) P (mvE G (φ to) (l.map φ)) M:=by
 have h1:=h.off (l:=l) fun c hc=>(hl c hc).1
 have hk:(F.off l).kids to=F.kids to++[]:=by
  simp only [Fo.off,List.append_nil]
  refine List.filter_eq_self.2 fun j hj=>?_
  have:j∉l:=fun hm=>(hl j hm).2.2 hj
  simpa using this
 have h2:=h1.hang hto hk (fun c hc=>⟨(hl c hc).1,by simp [Fo.off,hc],(hl c hc).2.1⟩) hn
 have e:(F.kids to).map φ=G.kids (φ to):=(h.kids to hto).symm
 rw [e] at h2
 exact h2
theorem Sim.ht (h:Sim Q D φ F P G M):∀ {n x:Nat},D x→Ht F.kids n x→Ht G.kids n (φ x)
 | 0,_,_,hh=>hh
 | n+1,x,hx,hh=>fun y hy=>by
  rw [h.kids x hx] at hy
  obtain ⟨c,hc,rfl⟩:=List.mem_map.1 hy
  exact h.ht (h.dk x hx c hc) (hh c hc)
theorem Sim.szK (h:Sim Q D φ F P G M):∀ {n x:Nat},D x→szK G.kids n (φ x)=szK F.kids n x
 | 0,_,_=>rfl
 | n+1,x,hx=>by
  simp only [Go.Proofs.YtkmigbicabfodaaGreat.V.szK,h.kids x hx,List.map_map]
  congr 2
  exact List.map_congr_left fun c hc=>h.szK (h.dk x hx c hc)
theorem find_filt {e:Nat→Bool}:∀ {l:List Nat},l.find? e=(l.filter e).head?
 | []=>rfl
 | a::l=>by
  rw [List.find?_cons,List.filter_cons]
  cases e a with
  | true=>rfl
  | false=>exact find_filt
theorem inner_loop (h:Sim Q D φ F P G M) (hQ:QOk Q) (s:List (Option Nat)) {x:Nat} {r:Option Nat} (hi:Inm F.kids (elB P) x r):∀ to,r=some to→D x→loopO m_goquery_Selection_WrapAllNode_0 (s,some (φ x),(G.kids (φ x)).find? (fun c=>decide ((M c).ty=3)),G.st M)=some (s,some (φ to),G.st M):=by
 have hf:∀ x,D x→(G.kids (φ x)).find? (fun c=>decide ((M c).ty=3))=((F.kids x).filter (elB P)).head?.map φ:=fun x hx=>by
  rw [h.kids x hx,find_filt,List.filter_map,List.head?_map]
  congr 2
  refine List.filter_congr fun c hc=>?_
  have:=hQ.el _ _ (h.lab c (h.dk x hx c hc))
  simp only [Function.comp,elB,this]
 induction hi with
 | stop hs =>
  intro to e hx
  cases e
  rw [hf _ hx,hs]
  refine loopO_out ?_
  simp only [m_goquery_Selection_WrapAllNode_0,List.head?_nil,Option.map_none,Option.isNone_none,Bool.not_true,cond_false]
 | many=>intro to e; cases e
 | @down x y r hs _ ih =>
  intro to e hx
  have hy:y∈F.kids x:=by
   have:y∈(F.kids x).filter (elB P):=by rw [hs]; simp
   exact (List.mem_filter.1 this).1
  have hyD:=h.dk x hx y hy
  have hfe:=firstEl_eq (M:=M) h.okG (h.gm y hyD)
  have step:m_goquery_Selection_WrapAllNode_0 (s,some (φ x),some (φ y),G.st M)=some (.nx (s,some (φ y),(G.kids (φ y)).find? (fun c=>decide ((M c).ty=3)),G.st M)):=by
   simp only [m_goquery_Selection_WrapAllNode_0,Option.isNone_some,Bool.not_false,cond_true,hfe,bind_some]
  rw [hf x hx,hs]
  show loopO m_goquery_Selection_WrapAllNode_0 (s,some (φ x),some (φ y),G.st M)=_
  rw [loopO_nx step]
  exact ih to e hyD
end
theorem mvE_off {F:Fo} {to first:Nat} {l:List Nat} (hf:first∈l) (hk:first∉F.kids to):mvE (F.off [first]) to l=mvE F to l:=by
 unfold mvE
 have e:(F.off [first]).off l=F.off l:=by
  rw [off_off]
  refine Fo.ext rfl (fun i=>?_) (fun i=>?_)
  ·simp only [Fo.off,List.mem_append,List.mem_singleton]
   by_cases e1:i=first
   ·subst e1; simp [hf]
   ·simp [e1]
  ·simp only [Fo.off,List.mem_append,List.mem_singleton]
   congr 1
   funext j
   by_cases e1:j=first
   ·subst e1; simp [hf]
   ·simp [e1]
 have e2:(F.off [first]).kids to=F.kids to:=by
  simp only [Fo.off]
  refine List.filter_eq_self.2 fun j hj=>?_
  have:j≠first:=fun e=>hk (e ▸ hj)
  simpa using this
 rw [e,e2]
structure Bes (Q:Int×Node→HN→Prop) (φ:Nat→Nat) (F:Fo) (P:Nat→Int×Node) (G:Fo) (M:Nat→HN):Prop where
 sim:Sim Q (fun i=>i<F.m) φ F P G M
 at_:∀ i,i<G.m→(M i).attrs.length≤1000000
theorem Sim.iff {Q:Int×Node→HN→Prop} {D D':Nat→Prop} {φ:Nat→Nat} {F G:Fo} {P:Nat→Int×Node} {M:Nat→HN} (h:Sim Q D φ F P G M) (hd:∀ i,D' i↔D i):Sim Q D' φ F P G M:=by
 have:D'=D:=funext fun i=>propext (hd i)
 rw [this]; exact h
theorem wrapall_eq {Q:Int×Node→HN→Prop} {φ:Nat→Nat} {F F' G:Fo} {P P':Nat→Int×Node} {M:Nat→HN} {w:Nat} {l:List Nat} (hQ:QOk Q) (h:Bes Q φ F P G M) (hI:WI F P w) (hg:WG F l) (hr:Wr w l F P F' P') :
  ∃ G' M' φ',m_goquery_Selection_WrapAllNode ((l.map φ).map some,some (φ w),G.st M)=some ((),G'.st M')∧Bes Q φ' F' P' G' M'∧(∀ i,i<F.m→φ' i=φ i)∧G'.m=G.m+(F'.m - F.m)∧(∀ j,j<G.m→(∀ i,i<F.m→φ i≠j)→G'.kids j=G.kids j∧G'.up j=G.up j∧M' j=M j):=by
 obtain ⟨F1,first,rest,p,A,B,to,hc,rfl,hu,hk,hin,rfl⟩:=hr
 obtain ⟨n,hb,hn⟩:=big_ge
 obtain ⟨hn1,hn2⟩:=hc.n
 rw [hb] at hn1 hn2
 have hm:=hI.m
 have hlen:=hg.len
 have hff:=hg.lt first (by simp)
 have hlt:F.m<F1.m:=by
  cases n with
  | zero=>exact hn1.elim
  | succ n=>exact hn1.1.2
 have hpt:Pt1 F P w first p A B F1 P':=⟨hI.ok,hI.rk,hI.hw,hff,hc.ext,hc.up,hlt,hu,hk⟩
 have hpm:=hpt.pm
 have S:=h.sim
 have okG:=S.okG
 have hht:=S.ht hI.hw (ht_all hI.ok hI.rk (n:=n) hI.hw (by omega))
 obtain ⟨G1,M1,c1,c2,c3,c4,c5,c6⟩:=clone_eq (K:=G.kids) (B:=M) (m0:=G.m) (fun i _ y hy=>(okG.kid hy).2) (fun i _=>okG.nd i) h.at_ n (φ w) G M okG (Nat.le_refl _) (fun i _=>⟨rfl,rfl⟩) (S.gm w hI.hw) hht
 rw [S.szK hI.hw] at c4 c6
 have hsz:szK F.kids n w=F1.m - F.m:=by
  have e1:=congrArg List.length hn2
  rw [List.length_range'] at e1
  rw [← e1,← nodesF_len (N:=fun i=>(P' i).2)]
  have key:∀ {n c x:Nat},CpR F1 (RcS P' fun y=>(P y).2) F.kids F.m F1.m n c x→(nodesF F1.kids (fun i=>(P' i).2) n c).length=szK F.kids n x:=by
   intro n
   induction n with
   | zero=>intro c x h; exact h.elim
   | succ n ih =>
    intro c x ⟨_,_,h4⟩
    have:∀ {l m:List Nat},F2 (CpR F1 (RcS P' fun y=>(P y).2) F.kids F.m F1.m n) l m→(l.flatMap (nodesF F1.kids (fun i=>(P' i).2) n)).length=(m.map (szK F.kids n)).sum:=by
     intro l m hl
     induction hl with
     | nil=>rfl
     | cons h t ih2=>rw [List.flatMap_cons,List.length_append,ih h,ih2,List.map_cons,List.sum_cons]
    simp only [nodesF,szK,List.length_cons,this h4]
    omega
  exact (key hn1).symm
 rw [hsz] at c4 c6
 have hshp:Shp F1.kids G1.kids (fun c d=>Q (P' c) (M1 d)) n F.m G.m:=by
  refine shp_of (T:=fun y=>y<F.m) (φ:=φ) (fun y hy=>⟨S.kids y hy,fun z hz=>(hI.ok.kid hz).2⟩) (fun c y d hy hcy hcd=>?_) hI.hw hn1 c5
  exact hQ.cp _ _ _ _ (S.lab y hy) hcy hcd
 have S1:=(S.grow hc.ext).copy (a:=F.m) (s:=F1.m - F.m) (by omega) (fun i h1 _ h2=>by omega) hc.up hn2 c2.ok c2.m c2.old c3 c4 c6 hshp (fun c d _ _ h=>h)
 have S1':Sim Q (fun i=>i<F1.m) (phC φ F.m (F1.m - F.m) G.m) F1 P' G1 M1:=S1.iff fun i=>by omega
 generalize hφ:phC φ F.m (F1.m - F.m) G.m=φ1 at S1'
 have hφo:∀ i,i<F.m→φ1 i=φ i:=fun i hi=>by rw [← hφ]; exact if_neg (by omega)
 have hφn:φ1 F.m=G.m:=by rw [← hφ]; unfold phC; rw [if_pos ⟨by omega,by omega⟩]; omega
 have hpF1:p<F1.m:=by omega
 have hpne:p≠F.m:=by omega
 have S2:=S1'.hang hpF1 hk (l:=[F.m]) (fun c hc2=>by rw [List.mem_singleton.1 hc2]; exact ⟨hlt,hc.up,hpne⟩) (by simp)
 rw [List.map_cons,List.map_nil,hφn,List.map_cons] at S2
 have hkG1:G1.kids (φ1 p)=A.map φ1++φ1 first::B.map φ1:=by rw [S1'.kids p hpF1,hk,List.map_append,List.map_cons]
 have hpG1:φ1 p<G1.m:=S1'.gm p hpF1
 have hne1:φ1 p≠G.m:=by rw [hφo p hpm.2]; have:=S.gm p hpm.2; omega
 have hs0:=hang_sp (F:=G1) (p:=φ1 p) (c:=G.m) (A:=A.map φ1) (l:=[]) (B:=φ1 first::B.map φ1) (by rw [hang_nil hkG1]; exact c2.ok) hpG1 (by omega) c3 hne1 (by simp)
 rw [hang_nil hkG1] at hs0
 have hs2:Sp (G1.hang (φ1 p) (A.map φ1) [G.m] (φ1 first::B.map φ1)) G1 (φ1 p) G.m (A.map φ1) (φ1 first::B.map φ1):=by simpa using hs0
 have hins:=insert_eq (L:=M1) hs2
 generalize hG2:G1.hang (φ1 p) (A.map φ1) [G.m] (φ1 first::B.map φ1)=G2 at S2 hs2 hins
 generalize hF2:F1.hang p A [F.m] (first::B)=F2 at *
 have hF2m:F2.m=F1.m:=by rw [← hF2]; rfl
 have hfl:first<F1.m:=by omega
 have hu2:F2.up first=some p:=by
  have e:first≠F.m:=by omega
  rw [← hF2]
  simp only [Fo.hang,List.mem_singleton,if_neg e]
  exact hu
 have huG2:G2.up (φ1 first)=some (φ1 p):=by rw [S2.up first hfl,hu2]; rfl
 have huG1:G1.up (φ1 first)=some (φ1 p):=by rw [S1'.up first hfl,hu]; rfl
 have hrem:=rem_off (L:=M1) S2.okG huG2
 have S3:=S2.off (l:=[first]) (fun c hc2=>by rw [List.mem_singleton.1 hc2]; exact hfl)
 rw [List.map_cons,List.map_nil] at S3
 have hge:=hpt.ge (e:=elB P') (x:=F.m) (r:=some to) (by rw [hF2]; exact hin) (Nat.le_refl _) hlt to rfl
 have htok:∀ d∈first::rest,d<F1.m∧to≠d∧d∉F2.kids to:=fun d hd=>by rw [← hF2]; exact hpt.tok (l:=first::rest) hge.1 hg.lt d hd
 have hin3:Inm (F2.off [first]).kids (elB P') F.m (some to):=by
  refine Inm.congr (T:=fun y=>F.m≤y) (fun y hy=>?_) (Nat.le_refl _) hin
  have hyp:y≠p:=by omega
  have hky:F2.kids y=F1.kids y:=by rw [← hF2]; exact hpt.kids2 hyp
  refine ⟨?_,fun z hz=>⟨?_,rfl⟩⟩
  ·simp only [Fo.off]
   refine List.filter_eq_self.2 fun j hj=>?_
   rw [hky] at hj
   have:=hc.ext.inc y hy j hj
   have:j≠first:=by omega
   simpa using this
  ·rw [hky] at hz
   have:=hc.ext.inc y hy z hz
   omega
 have hfe:=firstEl_eq (G:=G2.off [φ1 first]) (M:=M1) S3.okG (x:=G.m) (by have:=S3.gm F.m hlt; rw [hφn] at this; exact this)
 have hinn:=inner_loop S3 hQ (((first::rest).map φ).map some) hin3 to rfl hlt
 rw [hφn] at hinn
 have htoD:to<F1.m:=hge.2
 have hk3:∀ d∈first::rest,d∉(F2.off [first]).kids to:=fun d hd h2=>(htok d hd).2.2 (List.mem_filter.1 h2).1
 have S4:=S3.mvE (to:=to) (l:=first::rest) htoD (fun c hc2=>⟨(htok c hc2).1,(htok c hc2).2.1,hk3 c hc2⟩) hg.nd
 have hmap:(first::rest).map φ1=(first::rest).map φ:=List.map_congr_left fun c hc2=>hφo c (hg.lt c hc2)
 have hll:((first::rest).map φ).length≤1000000:=by simp at hlen ⊢; omega
 have happ:=appendSel_eq (G:=G2.off [φ1 first]) (M:=M1) (to:=φ1 to) (l:=(first::rest).map φ) S3.okG (S3.gm to htoD) (fun d hd=>by
  rw [← hmap] at hd
  obtain ⟨c,hc2,rfl⟩:=List.mem_map.1 hd
  refine ⟨S3.gm c (htok c hc2).1,fun e=>(htok c hc2).2.1 (S3.inj to c htoD (htok c hc2).1 e),fun hk2=>?_⟩
  rw [S3.kids to htoD,S3.mem (htok c hc2).1 fun z hz=>S3.dk to htoD z hz] at hk2
  exact hk3 c hc2 hk2) (by rw [← hmap]; exact S3.nodup (fun c hc2=>(htok c hc2).1) hg.nd) hll
 rw [mvE_off (by simp) (htok first (by simp)).2.2,hmap] at S4
 refine ⟨_,M1,φ1,?_,⟨S4.iff fun i=>by show i<F2.m↔i<F1.m; rw [hF2m],fun i hi=>?_⟩,hφo,?_,fun j hj hne=>?_⟩
 ·have hat:atI (((first::rest).map φ).map some) (0:Int)=some (some (φ1 first)):=by
   rw [hφo first hff]; rfl
  have g1:=Fo.get (F:=G1) (L:=M1) (S1'.gm first hfl)
  have hp1:(G1.mk1 M1 (φ1 first)).par=some (φ1 p):=huG1
  have g2:=Fo.get (F:=G2) (L:=M1) (S2.gm first hfl)
  have hp2:(G2.mk1 M1 (φ1 first)).par=some (φ1 p):=huG2
  have hins':m_html_Node_InsertBefore (some (φ1 p),some G.m,some (φ1 first),G1.st M1)=some (G2.st M1):=hins
  simp only [m_goquery_Selection_WrapAllNode,m_goquery_Selection_Size,m_goquery_Selection_Length,bind_some,cond_dec]
  rw [if_neg (by simp; omega),hb,c1,bind_some]
  simp only [hat,bind_some,g1,hp1,Option.isNone_some,Bool.not_false,cond_true]
  simp only [hins',g2,bind_some,hp2,hrem,hfe,hinn,m_goquery_newSingleSelection,happ]
 ·by_cases e:i<G.m
  ·rw [(c2.old i e).2.2]; exact h.at_ i e
  ·have hG2m:G2.m=G1.m:=by rw [← hG2]; rfl
   have hi':i<G2.m:=hi
   exact c2.lab i (by omega) (by omega)
 ·have hG2m:G2.m=G1.m:=by rw [← hG2]; rfl
  show G2.m=G.m+(F2.m - F.m)
  omega
 ·have hjp:j≠φ1 p:=fun e=>hne p hpm.2 (by rw [← hφo p hpm.2]; exact e.symm)
  have hjt:j≠φ1 to:=fun e=>by
   have hto1:φ1 to=G.m+(to - F.m):=by rw [← hφ]; exact if_pos ⟨by omega,by omega⟩
   omega
  have hjl:∀ c∈first::rest,j≠φ c:=fun c hc2 e=>hne c (hg.lt c hc2) e.symm
  have hjG:j≠G.m:=by omega
  obtain ⟨o1,o2,o3⟩:=c2.old j hj
  have hjm:j∉(first::rest).map φ:=fun hm=>by
   obtain ⟨c,hc2,e⟩:=List.mem_map.1 hm
   exact hjl c hc2 e.symm
  have hjf:j≠φ1 first:=by rw [hφo first hff]; exact hjl first (by simp)
  refine ⟨?_,?_,o3⟩
  ·rw [← hG2]
   simp only [mvE,Fo.hang,Fo.off,if_neg hjt,if_neg hjp,o2]
   rw [List.filter_filter]
   refine List.filter_eq_self.2 fun z hz=>?_
   have hzu:=(okG.kid hz).1
   have:∀ c∈first::rest,z≠φ c:=fun c hc2 e=>by
    subst e
    have hcm:=hg.lt c hc2
    rw [S.up c hcm] at hzu
    cases hq:F.up c with
    | none=>rw [hq] at hzu; cases hzu
    | some q =>
     rw [hq] at hzu
     exact hne q (hI.ok.up hq).1 (Option.some.inj hzu)
   have h1:z∉(first::rest).map φ:=fun hm=>by
    obtain ⟨c,hc2,e⟩:=List.mem_map.1 hm
    exact this c hc2 e.symm
   have h2:z≠φ1 first:=by rw [hφo first hff]; exact this first (by simp)
   simp [h2,h1]
   simpa using h1
  ·rw [← hG2]
   simp only [mvE,Fo.hang,Fo.off,if_neg hjm,List.mem_singleton,if_neg hjf,if_neg hjG,o1]
end Go.Proofs.YtkmigbicabfodaaGreat.V
set_option linter.unusedVariables false
set_option linter.unusedSimpArgs false
namespace Go.Proofs.YtkmigbicabfodaaGreat.V
open Go
section
variable {Q:Int×Node→HN→Prop} {φ:Nat→Nat} {F F' G:Fo} {P P':Nat→Int×Node} {M:Nat→HN} {w x:Nat}
theorem inner1 (hQ:QOk Q) (h:Bes Q φ F P G M) (hG:G.m≤1000) (hI:WI F P w) (hx:x<F.m) (hne:F.kids x≠[]) (hr:Wr w (F.kids x) F P F' P') (i:Int) :
  ∃ G' M' φ',m_goquery_Selection_wrapInnerNodes_1 (i,[some (φ x)],[some (φ w)],G.st M)=some (G'.st M')∧Bes Q φ' F' P' G' M'∧(∀ i,i<F.m→φ' i=φ i)∧G'.m=G.m+(F'.m - F.m)∧(∀ j,j<G.m→(∀ i,i<F.m→φ i≠j)→G'.kids j=G.kids j∧G'.up j=G.up j∧M' j=M j):=by
 have S:=h.sim
 have hg:WG F (F.kids x):=⟨hne,hI.ok.nd x,fun c hc=>(hI.ok.kid hc).2,fun c hc=>⟨x,(hI.ok.kid hc).1⟩⟩
 obtain ⟨G',M',φ',e1,e2,e3,e4,e5⟩:=wrapall_eq hQ h hI hg hr
 refine ⟨G',M',φ',?_,e2,e3,e4,e5⟩
 have hch:=children_eq (L:=M) S.okG (S.gm x hx) (Nat.le_trans (kids_len S.okG _) hG)
 rw [S.kids x hx] at hch
 have hlen:0<(((F.kids x).map φ).map (some:Nat→Option Nat)).length:=by
  simp only [List.length_map]
  exact List.length_pos_iff.2 hne
 have hat:atI ([some (φ w)]:List (Option Nat)) (0:Int)=some (some (φ w)):=rfl
 simp only [m_goquery_Selection_wrapInnerNodes_1,m_goquery_Selection_Contents,hch,m_goquery_pushStack,bind_some,m_goquery_Selection_Size,m_goquery_Selection_Length,cond_dec]
 rw [if_pos (by omega)]
 simp only [m_goquery_Selection_wrapAllNodes,cond_dec]
 rw [if_pos (by simp)]
 simp only [hat,bind_some,e1]
theorem Wr.grow {l:List Nat} (h:Wr w l F P F' P'):F.m≤F'.m:=by
 obtain ⟨F1,first,rest,p,A,B,to,hc,rfl,hu,hk,hin,rfl⟩:=h
 exact hc.ext.m
end
theorem each_w {Q:Int×Node→HN→Prop} (hQ:QOk Q) {w:Nat} {onl:List Nat} {K0:Nat→List Nat} {φ0:Nat→Nat} (hnd:onl.Nodup) (hl:onl.length≤1000000) (hK:∀ x∈onl,K0 x≠[]∧w∉K0 x) (N:Nat) (hN:N≤1000) :
  ∀ (d j:Nat) (F:Fo) (P:Nat→Int×Node) (G:Fo) (M:Nat→HN) (φ:Nat→Nat) (F':Fo) (P':Nat→Int×Node),onl.length - j=d→j≤onl.length→WCh w ((onl.drop j).map K0) F P F' P'→WI F P w→Bes Q φ F P G M→G.m+(F'.m - F.m)≤N →
   (∀ x∈onl,x<F.m∧φ x=φ0 x)→φ w=φ0 w→(∀ x∈onl.drop j,x<F.m∧F.kids x=K0 x∧¬ Anc F w x) →
   ∃ G' M' φ',loopO m_goquery_Selection_Each_w_0 ((onl.map φ0).map some,[some (φ0 w)],(onl.map φ0).map some,(onl.length:Int),(j:Int),G.st M)=some ((onl.map φ0).map some,G'.st M')∧Bes Q φ' F' P' G' M'∧(∀ i,i<F.m→φ' i=φ i)∧G'.m≤N:=by
 intro d
 induction d with
 | zero =>
  intro j F P G M φ F' P' hd hj hch hI hB hm _ _ _
  obtain rfl:j=onl.length:=by omega
  rw [List.drop_length,List.map_nil] at hch
  cases hch
  refine ⟨G,M,φ,loopO_out ?_,hB,fun _ _=>rfl,by omega⟩
  simp only [m_goquery_Selection_Each_w_0,cond_dec]
  rw [if_neg (by omega)]
 | succ d ih =>
  intro j F P G M φ F' P' hd hj hch hI hB hm hφ hφw hx
  obtain ⟨x,hxj⟩:=get_lt (l:=onl) (k:=j) (by omega)
  have hxm:=List.mem_of_getElem? hxj
  have hdr:onl.drop j=x::onl.drop (j+1):=by
   obtain ⟨hlt,he⟩:=List.getElem?_eq_some_iff.1 hxj
   rw [List.drop_eq_getElem_cons hlt,he]
  rw [hdr,List.map_cons] at hch
  obtain ⟨F1,P1,hr,hI1,ht⟩:∃ F1 P1,Wr w (K0 x) F P F1 P1∧WI F1 P1 w∧WCh w ((onl.drop (j+1)).map K0) F1 P1 F' P':=by
   cases hch with | cons h hi t=>exact ⟨_,_,h,hi,t⟩
  obtain ⟨hx1,hx2,hx3⟩:=hx x (by rw [hdr]; simp)
  obtain ⟨hk1,hk2⟩:=hK x hxm
  rw [← hx2] at hr hk1 hk2
  have hg1:=hr.grow
  have hg2:=ht.le
  obtain ⟨G1,M1,φ1,e1,e2,e3,e4,_⟩:=inner1 hQ hB (by omega) hI hx1 hk1 hr (j:Int)
  have hlt:∀ c∈F.kids x,c<F.m∧¬ Anc F w c:=fun c hc=>⟨(hI.ok.kid hc).2,fun ha=>by
   have hu:=(hI.ok.kid hc).1
   cases ha with
   | self=>exact hk2 hc
   | up h t=>rw [hu] at h; cases h; exact hx3 t⟩
  have hf:=wr_facts hI.ok hI.rk hI.hw (fun c hc=>(hlt c hc).1) hr
  obtain ⟨_,hkp⟩:=wr_keep hI.ok hI.rk hI.hw hlt hI1.ok hr
  have hndj:=(List.drop_sublist j onl).nodup hnd
  rw [hdr,List.nodup_cons] at hndj
  have hgl:((onl.map φ0).map some)[j]?=some (some (φ x)):=by rw [List.getElem?_map,List.getElem?_map,hxj,(hφ x hxm).2]; rfl
  rw [hφw] at e1
  have step:m_goquery_Selection_Each_w_0 ((onl.map φ0).map some,[some (φ0 w)],(onl.map φ0).map some,(onl.length:Int),(j:Int),G.st M)=some (.nx ((onl.map φ0).map some,[some (φ0 w)],(onl.map φ0).map some,(onl.length:Int),((j+1:Nat):Int),G1.st M1)):=by
   simp only [m_goquery_Selection_Each_w_0,cond_dec,atI_nat,hgl,bind_some,m_goquery_newSingleSelection,e1]
   rw [if_pos (by omega),w64 (by omega) (by omega)]
   rfl
  have hA:∀ z∈onl,z<F1.m∧φ1 z=φ0 z:=fun z hz=>by
   obtain ⟨z1,z2⟩:=hφ z hz
   exact ⟨by omega,(e3 z z1).trans z2⟩
  have hB2:∀ z∈onl.drop (j+1),z<F1.m∧F1.kids z=K0 z∧¬ Anc F1 w z:=fun z hz=>by
   obtain ⟨z1,z2,z3⟩:=hx z (by rw [hdr]; simp [hz])
   have hzx:z≠x:=fun e=>hndj.1 (e ▸ hz)
   refine ⟨by omega,?_,fun ha=>z3 (hkp z ha).2⟩
   rw [hf.kids z z1 fun c hc hu=>by rw [(hI.ok.kid hc).1] at hu; cases hu; exact hzx rfl]
   exact z2
  obtain ⟨G',M',φ',q1,q2,q3,q4⟩:=ih (j+1) F1 P1 G1 M1 φ1 F' P' (by omega) (by omega) ht hI1 e2 (by omega) hA (by rw [e3 w hI.hw]; exact hφw) hB2
  exact ⟨G',M',φ',by rw [loopO_nx step]; exact q1,q2,fun i hi=>(q3 i (by omega)).trans (e3 i hi),q4⟩
end Go.Proofs.YtkmigbicabfodaaGreat.V
set_option linter.unusedVariables false
set_option linter.unusedSimpArgs false
namespace Go.Proofs.YtkmigbicabfodaaGreat.V
open Go
theorem putP_get {P:Nat→Int×Node} {T:Nat}:∀ {l:List Nat} {k:Nat} {A:List Int},A.length=T→l.Nodup→(∀ z∈l,(z<T∧(P z).1=(z:Int))∨(P z).1 = -1∧T≤z)→∀ i,i<T→(putP P l k A)[i]?=if i∈l then some ((k+l.idxOf i:Nat):Int) else A[i]?
 | [],_,_,_,_,_,i,_=>by simp [putP]
 | z::l,k,A,hA,hn,hP,i,hi=>by
  have hn2:=List.nodup_cons.1 hn
  simp only [putP]
  have hget:(if 0≤(P z).1∧(P z).1<(A.length:Int) then A.set (P z).1.toNat (k:Int) else A)[i]?=if i=z then some (k:Int) else A[i]?:=by
   rcases hP z (by simp) with ⟨h1,h2⟩ | ⟨h1,h2⟩
   ·rw [if_pos (by rw [h2]; omega),h2,Int.toNat_natCast]
    by_cases e:i=z
    ·subst e
     rw [if_pos rfl,List.getElem?_set_self (by omega)]
    ·rw [if_neg e,List.getElem?_set_ne (fun h=>e h.symm)]
   ·rw [if_neg (fun h=>by omega),if_neg (by omega)]
  have hlen:(if 0≤(P z).1∧(P z).1<(A.length:Int) then A.set (P z).1.toNat (k:Int) else A).length=T:=by split <;> simp [hA]
  rw [putP_get (l:=l) (k:=k+1) hlen hn2.2 (fun w hw=>hP w (by simp [hw])) i hi,hget]
  by_cases e:i=z
  ·subst e
   rw [if_neg hn2.1,if_pos rfl,if_pos List.mem_cons_self]
   simp
  ·have e1:(z == i)=false:=by simpa using fun h=>e h.symm
   rw [if_neg e,List.idxOf_cons,e1]
   by_cases e2:i∈l
   ·rw [if_pos e2,if_pos (List.mem_cons_of_mem _ e2)]
    congr 2
    show k+1+l.idxOf i=k+(l.idxOf i+1)
    omega
   ·rw [if_neg e2,if_neg (fun h=>(List.mem_cons.1 h).elim e e2)]
theorem putP_all {P:Nat→Int×Node} {T:Nat} {l:List Nat} (hn:l.Nodup) (hP:∀ z∈l,(z<T∧(P z).1=(z:Int))∨(P z).1 = -1∧T≤z):putP P l 0 (List.replicate T (-1))=(List.range T).map (posL l):=by
 refine List.ext_getElem? fun i=>?_
 by_cases hi:i<T
 ·rw [putP_get (T:=T) (by simp) hn hP i hi,List.getElem?_map,List.getElem?_range hi]
  simp only [Option.map_some,posL]
  by_cases e:i∈l
  ·rw [if_pos e,if_pos e]; simp
  ·rw [if_neg e,if_neg e,List.getElem?_replicate,if_pos hi]
 ·rw [List.getElem?_eq_none (by rw [putP_len]; simp; omega),List.getElem?_eq_none (by simp; omega)]
theorem sameList_rf (l:List Int) (hl:l.length≤2147483647):m_spec_SameList (l,l)=some true:=by
 simp only [m_spec_SameList,cond_dec]
 first | rw [if_neg (fun h=>h rfl)] | rw [if_neg (fun h=>h trivial)] | rw [if_neg not_false]
 have h:=loop_all (body:=m_spec_SameList_0) l (fun _=>true) (fun k=>(l,l,(k:Int))) (.inl ()) (.inr false) (fun k u hu=>by
  have hk:=(List.getElem?_eq_some_iff.1 hu).1
  simp only [m_spec_SameList_0,cond_dec,atI_nat]
  rw [if_pos (by omega),hu]
  simp only [bind_some]
  rw [if_neg (by simp),w64 (by omega) (by omega)]
  rfl) (by
  simp only [m_spec_SameList_0,cond_dec]
  rw [if_neg (by omega)]) 0 (Nat.zero_le _)
 rw [show loopO m_spec_SameList_0 (l,l,(0:Int))=_ from h,bind_some]
 simp [selim_l]
theorem nodes_attrs' {F:Fo} {N:Nat→Node} (hF:F.ok):∀ (m y:Nat),y<F.m→∀ v∈nodesF F.kids N m y,∃ i,i<F.m∧v.attrs=(N i).attrs
 | 0,_,_,v,h=>by cases h
 | m+1,y,hy,v,h=>by
  simp only [nodesF] at h
  rcases List.mem_cons.1 h with rfl | h
  ·exact ⟨y,hy,rfl⟩
  ·obtain ⟨z,hz0,hz⟩:=List.mem_flatMap.1 h
   exact nodes_attrs' hF m z (hF.kid hz0).2 v hz
def Qx (a:Int×Node) (x:HN):Prop:=kn x=⟨a.2.kind,a.2.tag,a.2.text,a.2.attrs,0⟩
theorem kn_kind (x:HN):(kn x).kind=3↔x.ty=3:=by
 unfold kn
 repeat' split
 all_goals simp_all
theorem qx_ok:QOk Qx:=by
 refine ⟨fun a x h=>?_,fun a b x y h hb hc=>?_⟩
 ·have h:kn x=_:=h
  rw [← kn_kind,h]
 ·subst hb
  have h:kn x=_:=h
  show kn y=_
  rw [kn_cpl hc,h]
section
variable {D:Nat→Prop} {φ:Nat→Nat} {F G:Fo} {P:Nat→Int×Node} {M:Nat→HN} {t:List Node}
theorem Sim.nodes (h:Sim Qx D φ F P G M):∀ (n x:Nat),D x→nodesF G.kids (fun i=>kn (M i)) n (φ x)=nodesF F.kids (fun i=>(P i).2) n x
 | 0,_,_=>rfl
 | n+1,x,hx=>by
  have hf:(G.kids (φ x)).flatMap (nodesF G.kids (fun i=>kn (M i)) n)=(F.kids x).flatMap (nodesF F.kids (fun i=>(P i).2) n):=by
   rw [h.kids x hx,List.flatMap_map]
   have:∀ l:List Nat,(∀ c∈l,D c)→l.flatMap (fun a=>nodesF G.kids (fun i=>kn (M i)) n (φ a))=l.flatMap (nodesF F.kids (fun i=>(P i).2) n):=fun l=>by
    induction l with
    | nil=>intro _; rfl
    | cons a l ih=>intro hl; rw [List.flatMap_cons,List.flatMap_cons,h.nodes n a (hl a (by simp)),ih fun c hc=>hl c (by simp [hc])]
   exact this _ (h.dk x hx)
  have hl:kn (M (φ x))=_:=h.lab x hx
  simp only [nodesF,hf,hl]
theorem Sim.ids {Q:Int×Node→HN→Prop} (h:Sim Q D φ F P G M):∀ (n x:Nat),D x→idsF G.kids n (φ x)=(idsF F.kids n x).map φ
 | 0,_,_=>rfl
 | n+1,x,hx=>by
  have:∀ l:List Nat,(∀ c∈l,D c)→l.flatMap (fun a=>idsF G.kids n (φ a))=(l.flatMap (idsF F.kids n)).map φ:=fun l=>by
   induction l with
   | nil=>intro _; rfl
   | cons a l ih=>intro hl; rw [List.flatMap_cons,List.flatMap_cons,List.map_append,h.ids n a (hl a (by simp)),ih fun c hc=>hl c (by simp [hc])]
  simp only [idsF,h.kids x hx,List.flatMap_map,this _ (h.dk x hx),List.map_cons]
theorem posL_map {l:List Nat} {i:Nat} (hi:φ i=i) (hinj:∀ z∈l,φ z=φ i→z=i):posL (l.map φ) i=posL l i:=by
 have h1:∀ l:List Nat,(∀ z∈l,φ z=φ i→z=i)→((i∈l.map φ↔i∈l)∧(l.map φ).idxOf i=l.idxOf i):=fun l=>by
  induction l with
  | nil=>intro _; simp
  | cons a l ih =>
   intro h
   obtain ⟨g1,g2⟩:=ih fun z hz=>h z (by simp [hz])
   by_cases e:a=i
   ·subst e
    rw [List.map_cons,hi]
    simp
   ·have e2:φ a≠i:=fun e3=>e (h a (by simp) (by rw [e3,hi]))
    refine ⟨?_,?_⟩
    ·rw [List.map_cons,List.mem_cons,List.mem_cons,g1]
     simp [Ne.symm e,Ne.symm e2]
    ·have b1:(a == i)=false:=by simpa using e
     have b2:(φ a == i)=false:=by simpa using e2
     rw [List.map_cons,List.idxOf_cons,List.idxOf_cons,b1,b2,g2]
 obtain ⟨g1,g2⟩:=h1 l hinj
 unfold posL
 by_cases e:i∈l
 ·rw [if_pos e,if_pos (g1.2 e),g2]
 ·rw [if_neg e,if_neg fun h=>e (g1.1 h)]
theorem bes0 (hR:RT t):Bes Qx (fun i=>i) (FT t) (P0 t) (FT t) (bs0 t):=by
 have hok:=FT_ok hR
 refine ⟨⟨hok,hok,fun _ h=>h,fun _ h=>h,fun _ _ _ _ h=>h,fun i hi c hc=>(hok.kid hc).2,fun i hi p hp=>(hok.up hp).1,fun i _=>by simp,fun i _=>by cases (FT t).up i <;> rfl,fun i hi=>?_⟩,fun i hi=>by have:=bs0_attrs hR i; omega⟩
 obtain ⟨v,hv⟩:=get_lt (l:=t) (k:=i) hi
 have hn:(P0 t i).2=v:=by simp [P0,nd0,hv]
 show kn (bs0 t i)=_
 rw [hn,kn_bs0 hR hv]
end
theorem WCh.lab {w:Nat} {gs:List (List Nat)} {F F':Fo} {P P':Nat→Int×Node} (h:WCh w gs F P F' P'):WI F P w→(∀ l∈gs,∀ c∈l,c<F.m)→(∀ U:Node→Prop,(∀ i,i<F.m→U (P i).2)→∀ i,i<F'.m→U (P' i).2)∧(∀ i,i<F.m→P' i=P i)∧∀ i,F.m≤i→i<F'.m→(P' i).1 = -1:=by
 induction h with
 | nil=>exact fun _ _=>⟨fun U hU=>hU,fun _ _=>rfl,fun i h1 h2=>by omega⟩
 | @cons l gs F F1 F2 P P1 P2 h hi t ih =>
  intro hI hl
  have hf:=wr_facts hI.ok hI.rk hI.hw (hl l (by simp)) h
  have hg:=h.grow
  obtain ⟨a,b,c⟩:=ih hi fun l' hl' d hd=>by have:=hl l' (by simp [hl']) d hd; omega
  refine ⟨fun U hU=>a U (hf.lab U hU),fun i hi=>(b i (by omega)).trans (hf.old i hi),fun i h1 h2=>?_⟩
  by_cases e:i<F1.m
  ·rw [b i e]; exact hf.neg i h1 e
  ·exact c i (by omega) h2
theorem ends_w {t:List Node} (hR:RT t) {φ':Nat→Nat} {F' G':Fo} {P':Nat→Int×Node} {M':Nat→HN} (q2:Bes Qx φ' F' P' G' M') (hF:F'.ok) (hrk:Rk F') (hm6:F'.m≤600) (hle:t.length≤F'.m) (hφ:∀ i,i<t.length→φ' i=i) (L2:∀ i,i<t.length→P' i=P0 t i) (L3:∀ i,t.length≤i→i<F'.m→(P' i).1 = -1) {n:Nat} (hb:big=n) (hn:1000000≤n) :
  m_impl_world_ends ((ptrs t,()),G'.st M')=some (nodesF F'.kids (fun i=>(P' i).2) n 0,putP P' (idsF F'.kids n 0) 0 (List.replicate t.length (-1)),G'.st M'):=by
 have hlen:=hR.len
 have hpos:=hR.pos
 have S:=q2.sim
 have h0:0<F'.m:=by omega
 have hht:=ht_all hF hrk (n:=n) h0 (by omega)
 have hhG:=S.ht h0 hht
 obtain ⟨r,hr⟩:=hrk.down hF
 have hil:=ids_len hF hr n h0
 have hid0:=S.ids n 0 h0
 have hnd0:=S.nodes n 0 h0
 rw [hφ 0 hpos] at hhG hid0 hnd0
 have hptrs:ptrs t=(List.range t.length).map some:=rfl
 have hGm:0<G'.m:=by have:=S.gm 0 h0; rw [hφ 0 hpos] at this; exact this
 have hends:=ends_eq (L:=M') S.okG q2.at_ hb (m:=List.range t.length) (r:=0) (by simp [hpos]) hGm hhG (by rw [hid0,List.length_map]; omega) (by simp; omega)
 have hput:putP P' (idsF F'.kids n 0) 0 (List.replicate t.length (-1))=(List.range t.length).map (posL (idsF G'.kids n 0)):=by
  rw [putP_all (ids_nodup hF hr n 0) fun z hz=>?_,hid0]
  ·refine List.map_congr_left fun i hi=>?_
   have hi':i<t.length:=List.mem_range.1 hi
   exact (posL_map (hφ i hi') fun z hz e=>S.inj z i (ids_lt hF n 0 h0 z hz) (by show i<F'.m; omega) e).symm
  ·have hzm:=ids_lt hF n 0 h0 z hz
   by_cases e:z<t.length
   ·exact .inl ⟨e,by rw [L2 z e]; rfl⟩
   ·exact .inr ⟨L3 z (by omega) hzm,by omega⟩
 rw [hptrs,hends,hnd0,hput]
theorem wrapInnerOf_eq {t:List Node} (hf:fits1 t=true) {on:List Int} {o:Int} {out:List Node} {at':List Int} (h:WAns t on o out at'):(∃ S,m_impl_WrapInnerOf (t,on,o,[])=some (out,at',true,S))∧(∀ U:List Attr→Prop,(∀ i,i<t.length→U (P0 t i).2.attrs)→∀ v∈out,U v.attrs)∧out.length≤600∧at'.length=t.length:=by
 obtain ⟨hR,onl,w,F',P',rfl,rfl,hch,hI',hsu,hw,hon,hnd,hout⟩:=h
 obtain ⟨n,hb,hn⟩:=big_ge
 obtain ⟨rfl,rfl⟩:=hout n hb
 have hlen:=hR.len
 have hpos:=hR.pos
 have hds:Ds t onl:=⟨fun c hc=>(hon c hc).2,hnd⟩
 have hll:=hds.len hlen
 have hok:=FT_ok hR
 have hle:=hch.le
 have hle:t.length≤F'.m:=hle
 have hm6:=hI'.m
 have hB:=bes0 hR
 have hI:=hsu.wi
 have hkt:∀ x∈onl,x<t.length∧(FT t).kids x=(FT t).kids x∧¬ Anc (FT t) w x:=fun x hx=>⟨(hon x hx).2,rfl,(hsu.on x hx).2.1⟩
 obtain ⟨G',M',φ',q1,q2,q3,q4⟩:=each_w (φ0:=fun i=>i) (K0:=(FT t).kids) qx_ok hnd (by omega) (fun x hx=>⟨(hsu.on x hx).1.ne,fun hm=>(hsu.on x hx).1.na (.up (hok.kid hm).1 .self)⟩) 1000 (Nat.le_refl _) onl.length 0 (FT t) (P0 t) (FT t) (bs0 t) (fun i=>i) F' P' (by omega) (Nat.zero_le _) hch hI hB (by show t.length+(F'.m - t.length)≤1000; omega) (fun x hx=>⟨(hon x hx).2,rfl⟩) rfl hkt
 have hid:onl.map (fun i=>i)=onl:=List.map_id' onl
 rw [hid] at q1
 have q1':loopO m_goquery_Selection_Each_w_0 (onl.map some,[some w],onl.map some,(((onl.map (some:Nat→Option Nat)).length:Nat):Int),(0:Int),(FT t).st (bs0 t))=some (onl.map some,G'.st M'):=by rw [List.length_map]; exact q1
 have hgl:=hch.lab hI fun l hl c hc=>by
  obtain ⟨x,_,rfl⟩:=List.mem_map.1 hl
  exact (hok.kid hc).2
 obtain ⟨L1,L2,L3⟩:=hgl
 have h0:0<F'.m:=by omega
 obtain ⟨r,hr⟩:=hI'.rk.down hI'.ok
 have hil:=ids_len hI'.ok hr n h0
 have hends:=ends_w hR q2 hI'.ok hI'.rk hm6 hle (fun i hi=>q3 i hi) L2 (fun i h1 h2=>L3 i h1 h2) hb hn
 have hptrs:ptrs t=(List.range t.length).map some:=rfl
 have hw2:(w:Int)<((ptrs t).length:Int):=by rw [hptrs]; simp; omega
 have hat:atI (ptrs t) (w:Int)=some (some w):=by
  rw [atI_nat,hptrs,List.getElem?_map,List.getElem?_range hw.2]; rfl
 refine ⟨⟨G'.st M',?_⟩,fun U hU v hv=>?_,?_,?_⟩
 ·simp only [m_impl_WrapInnerOf,selected_eq hf hR hds,bind_some,Bool.not_true,cond_false,cond_dec]
  rw [if_neg (by omega),if_neg (by omega),store_st hR]
  simp only [hat,bind_some,m_goquery_Selection_WrapInnerNode,m_goquery_Selection_wrapInnerNodes,cond_dec]
  rw [if_neg (by simp)]
  simp only [m_goquery_Selection_Each_w,q1',bind_some]
  rw [hends,bind_some]
 ·obtain ⟨i,hi,e⟩:=nodes_attrs' hI'.ok n 0 h0 v hv
  rw [e]
  exact L1 (fun n=>U n.attrs) (fun i hi=>hU i hi) i hi
 ·rw [nodesF_len]; omega
 ·rw [putP_len]; simp
end Go.Proofs.YtkmigbicabfodaaGreat.V
set_option linter.unusedVariables false
set_option linter.unusedSimpArgs false
namespace Go.Proofs.YtkmigbicabfodaaGreat.V
open Go Go.Proofs
abbrev p_spec_sameNode:Pt:=[(0, .el .node),(1, .el .node)]
abbrev q_spec_sameNode:Pt:=[(0, .bool)]
abbrev p_spec_sameNode_0:Pt:=[(2, .blk .node 39),(3, .blk .node 39),(5, .int .i64)]
abbrev x_spec_sameNode_0:List (Xt×Pt):=[(.ex 0,[]),(.rt,[(4, .bool)])]
noncomputable def m_spec_sameNode_0:Tup p_spec_sameNode_0→Option (Stp (Tup p_spec_sameNode_0) (SumT (x_spec_sameNode_0.map (·.2)))):=fun (x:Node×Node×Int)=>bif decide (x.2.2<(↑(List.length (Node.attrs x.1)):Int)) then Option.bind (atI (Node.attrs x.1) x.2.2) fun (v:Attr)=>Option.bind (atI (Node.attrs x.2.1) x.2.2) fun (v_1:Attr)=>bif !decide (Prod.fst (Attr.key v,Attr.val v)=Prod.fst (Attr.key v_1,Attr.val v_1)∧Prod.snd (Attr.key v,Attr.val v)=Prod.snd (Attr.key v_1,Attr.val v_1)) then some (Stp.out (Sum.inr false)) else some (Stp.nx ({ kind:=Node.kind x.1,tag:=Node.tag x.1,text:=Node.text x.1,attrs:=Node.attrs x.1,size:=Node.size x.1 },{ kind:=Node.kind x.2.1,tag:=Node.tag x.2.1,text:=Node.text x.2.1,attrs:=Node.attrs x.2.1,size:=Node.size x.2.1 },IntKind.wrap .i64 (x.2.2+(1:Int)))) else some (Stp.out (Sum.inl ()))
noncomputable def m_spec_sameNode:Tup p_spec_sameNode→Option (Tup q_spec_sameNode):=fun (x:Node×Node)=>bif decide (Node.kind x.1≠Node.kind x.2) then some false else bif decide (Node.tag x.1≠Node.tag x.2) then some false else bif decide (Node.text x.1≠Node.text x.2) then some false else bif decide (Node.size x.1≠Node.size x.2) then some false else bif decide ((↑(List.length (Node.attrs x.1)):Int)≠(↑(List.length (Node.attrs x.2)):Int)) then some false else Option.bind (loopO m_spec_sameNode_0 ({ kind:=Node.kind x.1,tag:=Node.tag x.1,text:=Node.text x.1,attrs:=Node.attrs x.1,size:=Node.size x.1 },{ kind:=Node.kind x.2,tag:=Node.tag x.2,text:=Node.text x.2,attrs:=Node.attrs x.2,size:=Node.size x.2 },(0:Int))) fun (y:PUnit ⊕ Bool)=>selim (fun (y:PUnit)=>some true) (fun (y:Bool)=>some y) y
noncomputable def cx_spec_sameNode:Cx:=⟨tb,lookE [],lookS [(6,[(true,0),(true,1),(true,2),(true,3),(true,4),(true,5),(true,6),(true,7),(true,8),(true,9),(true,10)])],mth,ast⟩
theorem ck_spec_sameNode:CxOK Tryz.prog (cx_spec_sameNode):=cx_ok tb_ok if_ok .nil
noncomputable def c_spec_sameNode_0:Code:=loopAt (Go.Proofs.Tryz.f20.body.getD .skip) 0
noncomputable def l_spec_sameNode_0:LEnt:=⟨p_spec_sameNode_0,x_spec_sameNode_0,loopO (m_spec_sameNode_0)⟩
theorem lo_spec_sameNode_0:LOK Tryz.prog 59 0 false (l_spec_sameNode_0) c_spec_sameNode_0:=loop_ok (body:=m_spec_sameNode_0) (L:=lookL []) (ck_spec_sameNode) mixed (ls_ok (l:=[]) (by kernel_rfl) .nil) (by intro x; kernel_rfl) (fun x y h=>loopO_iff.1 h)
noncomputable def e_spec_sameNode:Ent:=⟨0,p_spec_sameNode,q_spec_sameNode,m_spec_sameNode⟩
theorem ok_spec_sameNode:FnOK Tryz.prog 20 e_spec_sameNode:=fn_ok (L:=lookL [(0,l_spec_sameNode_0)]) ck_spec_sameNode mixed Tryz.func20 rfl (by kernel_rfl) (by kernel_rfl) (ls_ok (l:=[(0,c_spec_sameNode_0)]) (by kernel_rfl) (.cons rfl (lo_spec_sameNode_0) .nil)) (by intro x; kernel_rfl)
abbrev p_spec_SameTree:Pt:=[(0, .lst .node),(1, .lst .node)]
abbrev q_spec_SameTree:Pt:=[(0, .bool)]
abbrev p_spec_SameTree_0:Pt:=[(0, .lst .node),(1, .lst .node),(5, .int .i64)]
abbrev x_spec_SameTree_0:List (Xt×Pt):=[(.ex 0,[]),(.rt,[(4, .bool)])]
noncomputable def m_spec_SameTree_0:Tup p_spec_SameTree_0→Option (Stp (Tup p_spec_SameTree_0) (SumT (x_spec_SameTree_0.map (·.2)))):=fun (x:List Node×List Node×Int)=>bif decide (x.2.2<(↑(List.length x.1):Int)) then Option.bind (atI x.1 x.2.2) fun (v:Node)=>Option.bind (atI x.2.1 x.2.2) fun (v_1:Node)=>Option.bind (m_spec_sameNode ({ kind:=Node.kind v,tag:=Node.tag v,text:=Node.text v,attrs:=Node.attrs v,size:=Node.size v },{ kind:=Node.kind v_1,tag:=Node.tag v_1,text:=Node.text v_1,attrs:=Node.attrs v_1,size:=Node.size v_1 })) fun (r:Bool)=>bif !r then some (Stp.out (Sum.inr false)) else some (Stp.nx (x.1,x.2.1,IntKind.wrap .i64 (x.2.2+(1:Int)))) else some (Stp.out (Sum.inl ()))
noncomputable def m_spec_SameTree:Tup p_spec_SameTree→Option (Tup q_spec_SameTree):=fun (x:List Node×List Node)=>bif decide ((↑(List.length x.1):Int)≠(↑(List.length x.2):Int)) then some false else Option.bind (loopO m_spec_SameTree_0 (x.1,x.2,(0:Int))) fun (y:PUnit ⊕ Bool)=>selim (fun (y:PUnit)=>some true) (fun (y:Bool)=>some y) y
noncomputable def cx_spec_SameTree:Cx:=⟨tb,lookE [(20,e_spec_sameNode)],lookS [(6,[(true,0),(true,1),(true,2),(true,3),(true,4),(true,5),(true,6),(true,7),(false,8),(true,9)])],mth,ast⟩
theorem ck_spec_SameTree:CxOK Tryz.prog (cx_spec_SameTree):=cx_ok tb_ok if_ok (.cons ok_spec_sameNode Tryz.call20 .nil)
noncomputable def c_spec_SameTree_0:Code:=loopAt (Go.Proofs.Tryz.f11.body.getD .skip) 0
noncomputable def l_spec_SameTree_0:LEnt:=⟨p_spec_SameTree_0,x_spec_SameTree_0,loopO (m_spec_SameTree_0)⟩
theorem lo_spec_SameTree_0:LOK Tryz.prog 27 0 false (l_spec_SameTree_0) c_spec_SameTree_0:=loop_ok (body:=m_spec_SameTree_0) (L:=lookL []) (ck_spec_SameTree) mixed (ls_ok (l:=[]) (by kernel_rfl) .nil) (by intro x; kernel_rfl) (fun x y h=>loopO_iff.1 h)
noncomputable def e_spec_SameTree:Ent:=⟨0,p_spec_SameTree,q_spec_SameTree,m_spec_SameTree⟩
theorem ok_spec_SameTree:FnOK Tryz.prog 11 e_spec_SameTree:=fn_ok (L:=lookL [(0,l_spec_SameTree_0)]) ck_spec_SameTree mixed Tryz.func11 rfl (by kernel_rfl) (by kernel_rfl) (ls_ok (l:=[(0,c_spec_SameTree_0)]) (by kernel_rfl) (.cons rfl (lo_spec_SameTree_0) .nil)) (by intro x; kernel_rfl)
abbrev p_spec_Shaped:Pt:=[(0, .lst .node)]
abbrev q_spec_Shaped:Pt:=[(0, .bool)]
abbrev p_spec_Shaped_0:Pt:=[(0, .lst .node),(3, .int .i64)]
abbrev x_spec_Shaped_0:List (Xt×Pt):=[(.ex 0,[(0, .lst .node)]),(.rt,[(2, .bool)])]
noncomputable def m_spec_Shaped_0:Tup p_spec_Shaped_0→Option (Stp (Tup p_spec_Shaped_0) (SumT (x_spec_Shaped_0.map (·.2)))):=fun (x:List Node×Int)=>bif decide (x.2<(↑(List.length x.1):Int)) then Option.bind (atI x.1 x.2) fun (v:Node)=>bif decide (Node.size v<(1:Int)) then some (Stp.out (Sum.inr false)) else bif decide (IntKind.wrap .i64 ((↑(List.length x.1):Int) - x.2)<Node.size v) then some (Stp.out (Sum.inr false)) else bif decide ((0:Int)<x.2) then bif decide (Node.kind v=(1:Int)) then some (Stp.out (Sum.inr false)) else bif decide (Node.kind v<(1:Int)) then some (Stp.out (Sum.inr false)) else bif decide ((5:Int)<Node.kind v) then some (Stp.out (Sum.inr false)) else bif decide ((1:Int)<Node.size v) then bif decide (Node.kind v≠(1:Int)) then bif decide (Node.kind v≠(3:Int)) then some (Stp.out (Sum.inr false)) else some (Stp.nx (x.1,IntKind.wrap .i64 (x.2+(1:Int)))) else some (Stp.nx (x.1,IntKind.wrap .i64 (x.2+(1:Int)))) else some (Stp.nx (x.1,IntKind.wrap .i64 (x.2+(1:Int)))) else bif decide (Node.kind v<(1:Int)) then some (Stp.out (Sum.inr false)) else bif decide ((5:Int)<Node.kind v) then some (Stp.out (Sum.inr false)) else bif decide ((1:Int)<Node.size v) then bif decide (Node.kind v≠(1:Int)) then bif decide (Node.kind v≠(3:Int)) then some (Stp.out (Sum.inr false)) else some (Stp.nx (x.1,IntKind.wrap .i64 (x.2+(1:Int)))) else some (Stp.nx (x.1,IntKind.wrap .i64 (x.2+(1:Int)))) else some (Stp.nx (x.1,IntKind.wrap .i64 (x.2+(1:Int)))) else some (Stp.out (Sum.inl x.1))
noncomputable def m_spec_Shaped:Tup p_spec_Shaped→Option (Tup q_spec_Shaped):=fun (x:List Node)=>bif decide ((↑(List.length x):Int)=(0:Int)) then some false else Option.bind (atI x (0:Int)) fun (v:Node)=>bif decide (Node.kind v≠(1:Int)) then some false else Option.bind (atI x (0:Int)) fun (v:Node)=>bif decide (Node.size v≠(↑(List.length x):Int)) then some false else Option.bind (loopO m_spec_Shaped_0 (x,(0:Int))) fun (y:List Node ⊕ Bool)=>selim (fun (y:List Node)=>Option.bind (m_spec_sized big (y,(0:Int),(↑(List.length y):Int),(2000:Int))) fun (r:Bool)=>some r) (fun (y:Bool)=>some y) y
noncomputable def cx_spec_Shaped:Cx:=⟨tb,lookE [(39,e_spec_sized)],lookS [],mth,ast⟩
theorem ck_spec_Shaped:CxOK Tryz.prog (cx_spec_Shaped):=cx_ok tb_ok if_ok (.cons ok_spec_sized Tryz.call39 .nil)
noncomputable def c_spec_Shaped_0:Code:=loopAt (Go.Proofs.Tryz.f19.body.getD .skip) 0
noncomputable def l_spec_Shaped_0:LEnt:=⟨p_spec_Shaped_0,x_spec_Shaped_0,loopO (m_spec_Shaped_0)⟩
theorem lo_spec_Shaped_0:LOK Tryz.prog 82 0 false (l_spec_Shaped_0) c_spec_Shaped_0:=loop_ok (body:=m_spec_Shaped_0) (L:=lookL []) (ck_spec_Shaped) mixed (ls_ok (l:=[]) (by kernel_rfl) .nil) (by intro x; kernel_rfl) (fun x y h=>loopO_iff.1 h)
noncomputable def e_spec_Shaped:Ent:=⟨0,p_spec_Shaped,q_spec_Shaped,m_spec_Shaped⟩
theorem ok_spec_Shaped:FnOK Tryz.prog 19 e_spec_Shaped:=fn_ok (L:=lookL [(0,l_spec_Shaped_0)]) ck_spec_Shaped mixed Tryz.func19 rfl (by kernel_rfl) (by kernel_rfl) (ls_ok (l:=[(0,c_spec_Shaped_0)]) (by kernel_rfl) (.cons rfl (lo_spec_Shaped_0) .nil)) (by intro x; kernel_rfl)
end Go.Proofs.YtkmigbicabfodaaGreat.V
set_option linter.unusedVariables false
set_option linter.unusedSimpArgs false
namespace Go.Proofs.YtkmigbicabfodaaGreat.V
open Go
theorem sized_true (t:List Node) (ht:t.length≤1000000):∀ (d n a e:Nat),d<n→d≤1000000→a+sz t a≤e→e≤t.length→Lam t a (a+sz t a)→1≤sz t a→sz t a≤d→m_spec_sized n (t,(a:Int),(e:Int),(d:Int))=some true:=by
 intro d
 induction d with
 | zero=>intro n a e _ _ _ _ _ h1 h2; omega
 | succ d ih =>
  intro n a e hn hd hae he hL h1 h2
  obtain ⟨m,rfl⟩:∃ m,n=m+1:=⟨n - 1,by omega⟩
  obtain ⟨v,hv,hvs,_,_⟩:=hL.ok a (Nat.le_refl _) (by omega)
  have key:∀ f k,a<k→k≤a+sz t a→a+sz t a - k≤f→loopO (m_spec_sized_0 (m_spec_sized m)) (t,(a:Int),((d+1:Nat):Int),(sz t a:Int),(k:Int))=some (.inl ()):=by
   intro f
   induction f with
   | zero =>
    intro k k1 k2 k3
    refine loopO_out ?_
    simp only [m_spec_sized_0,cond_dec]
    rw [w64 (n:=(a:Int)+(sz t a:Int)) (by omega) (by omega),if_neg (by omega)]
   | succ f ih2 =>
    intro k k1 k2 k3
    by_cases hk:k<a+sz t a
    ·obtain ⟨u,hu,hus,hu1,hu2⟩:=hL.ok k (by omega) hk
     have hs:=ih m k (a+sz t a) (by omega) (by omega) hu2 (by omega) (hL.sub (by omega) hk) hu1 (by omega)
     have e1:IntKind.wrap .i64 (((d+1:Nat):Int) - 1)=(d:Int):=by rw [w64 (by omega) (by omega)]; omega
     have e2:IntKind.wrap .i64 ((a:Int)+(sz t a:Int))=((a+sz t a:Nat):Int):=by rw [w64 (by omega) (by omega)]; omega
     have step:m_spec_sized_0 (m_spec_sized m) (t,(a:Int),((d+1:Nat):Int),(sz t a:Int),(k:Int))=some (.nx (t,(a:Int),((d+1:Nat):Int),(sz t a:Int),((k+sz t k:Nat):Int))):=by
      simp only [m_spec_sized_0,cond_dec,atI_nat,e1,e2,hs,hu,bind_some,hus]
      rw [if_pos (by omega),w64 (by omega) (by omega)]
      simp
     rw [loopO_nx step]
     exact ih2 (k+sz t k) (by omega) (by omega) (by omega)
    ·refine loopO_out ?_
     simp only [m_spec_sized_0,cond_dec]
     rw [w64 (n:=(a:Int)+(sz t a:Int)) (by omega) (by omega),if_neg (by omega)]
  have h0:=key (sz t a) (a+1) (by omega) (by omega) (by omega)
  have h0':loopO (m_spec_sized_0 (m_spec_sized m)) (t,(a:Int),((d+1:Nat):Int),(sz t a:Int),(a:Int)+1)=some (.inl ()):=h0
  show b_spec_sized (m_spec_sized m) _=_
  simp only [b_spec_sized,cond_dec,atI_nat,hv,bind_some,hvs]
  rw [if_neg (by omega),if_neg (by omega),w64 (n:=(e:Int) - (a:Int)) (by omega) (by omega),if_neg (by omega),w64 (n:=(a:Int)+1) (by omega) (by omega),h0',bind_some]
  rfl
structure Shd (t:List Node):Prop where
 pos:0<t.length
 len:t.length≤1000
 root:sz t 0=t.length
 lam:Lam t 0 t.length
 k0:∃ v:Node,t[0]?=some v∧v.kind=1
 kd:∀ (i:Nat) (v:Node),t[i]?=some v→v.kind=1∨v.kind=2∨v.kind=3∨v.kind=4∨v.kind=5
 k1:∀ (i:Nat) (v:Node),t[i]?=some v→v.kind=1→i=0
 k2:∀ (i:Nat) (v:Node),t[i]?=some v→v.kind≠3→v.kind≠1→sz t i=1
theorem Shd_eq {t:List Node} (hR:Shd t):m_spec_Shaped t=some true:=by
 have hlen:=hR.len
 have hpos:=hR.pos
 obtain ⟨n,hb,hn⟩:=big_ge
 obtain ⟨v,hv,hv1⟩:=hR.k0
 have hv0:v.size=(t.length:Int):=by
  obtain ⟨u,hu,hus,_,_⟩:=hR.lam.ok 0 (Nat.le_refl _) hpos
  rw [hv] at hu
  cases hu
  rw [hus,hR.root]
 obtain ⟨y,h1,h2⟩:=loopO_rule (body:=m_spec_Shaped_0) (fun x=>∃ k:Nat,x=(t,(k:Int))∧k≤t.length) (fun _ y=>y = .inl t) (fun x=>((t.length:Int) - x.2).toNat) (fun x hx=>by
  obtain ⟨k,rfl,hk⟩:=hx
  simp only [m_spec_Shaped_0,cond_dec,atI_nat]
  by_cases hkl:k<t.length
  ·obtain ⟨u,hu,hus,hu1,hu2⟩:=hR.lam.ok k (Nat.zero_le _) hkl
   have hk1:=hR.k1 k u hu
   have hk2:=hR.k2 k u hu
   have hkd:=hR.kd k u hu
   have hnx:(some (.nx (t,IntKind.wrap .i64 ((k:Int)+1))):Option (Stp (List Node×Int) (List Node ⊕ Bool)))=some (.nx (t,((k+1:Nat):Int))):=by rw [w64 (by omega) (by omega)]; rfl
   refine .inr ⟨(t,((k+1:Nat):Int)),?_,⟨k+1,rfl,by omega⟩,by simp only; omega,fun _ h=>h⟩
   rw [if_pos (by omega),hu,bind_some,hus,if_neg (by omega),w64 (n:=(t.length:Int) - (k:Int)) (by omega) (by omega),if_neg (by omega)]
   by_cases e0:(0:Int)<(k:Int)
   ·rw [if_pos e0,if_neg (fun h=>by have:=hk1 h; omega),if_neg (by omega),if_neg (by omega)]
    by_cases e1:(1:Int)<(sz t k:Int)
    ·rw [if_pos e1]
     by_cases e2:u.kind=1
     ·have:=hk1 e2; omega
     ·rw [if_pos e2]
      by_cases e3:u.kind=3
      ·rw [if_neg (by simp [e3])]; exact hnx
      ·have:=hk2 e3 e2; omega
    ·rw [if_neg e1]; exact hnx
   ·rw [if_neg e0,if_neg (by omega),if_neg (by omega)]
    by_cases e1:(1:Int)<(sz t k:Int)
    ·rw [if_pos e1]
     by_cases e2:u.kind=1
     ·rw [if_neg (by simp [e2])]; exact hnx
     ·rw [if_pos e2]
      by_cases e3:u.kind=3
      ·rw [if_neg (by simp [e3])]; exact hnx
      ·have:=hk2 e3 e2; omega
    ·rw [if_neg e1]; exact hnx
  ·rw [if_neg (by omega)]
   exact .inl ⟨_,rfl,rfl⟩) (t,((0:Nat):Int)) ⟨0,rfl,Nat.zero_le _⟩
 subst h2
 have h1':loopO m_spec_Shaped_0 (t,(0:Int))=some (.inl t):=h1
 have hs:=sized_true t (by omega) 2000 n 0 t.length (by omega) (by omega) (by rw [hR.root]; omega) (Nat.le_refl _) (by rw [hR.root,Nat.zero_add]; exact hR.lam) (by rw [hR.root]; exact hpos) (by rw [hR.root]; omega)
 have hs':m_spec_sized n (t,(0:Int),(t.length:Int),(2000:Int))=some true:=hs
 simp only [m_spec_Shaped,cond_dec,atI_zero,hv,bind_some,h1',hb]
 rw [if_neg (by omega),if_neg (by simp [hv1]),if_neg (by simp [hv0])]
 simp only [selim,hs',bind_some]
structure Dc (F:Fo) (P:Nat→Int×Node):Prop where
 ok:F.ok
 rk:Rk F
 m:F.m≤600
 pos:0<F.m
 k0:(P 0).2.kind=1
 k1:∀ i,i<F.m→(P i).2.kind=1→i=0
 kd:∀ i,i<F.m→(P i).2.kind=1∨(P i).2.kind=2∨(P i).2.kind=3∨(P i).2.kind=4∨(P i).2.kind=5
 leaf:∀ z,F.kids z≠[]→(P z).2.kind=3∨(P z).2.kind=1
 top:F.up 0=none
 conn:∀ z,z<F.m→z≠0→∃ p,F.up z=some p
section
variable {F:Fo} {P:Nat→Int×Node} {n:Nat}
theorem Dc.ht (h:Dc F P) (hn:1000000≤n) (x:Nat):Ht F.kids n x:=by
 have:=h.m
 by_cases e:x<F.m
 ·exact ht_all h.ok h.rk e (by omega)
 ·obtain ⟨m,rfl⟩:∃ m,n=m+1:=⟨n - 1,by omega⟩
  intro y hy
  exact absurd (h.ok.up (h.ok.kid hy).1).1 e
theorem Dc.reach (h:Dc F P) (hn:1000000≤n):∀ z,z<F.m→z∈idsF F.kids n 0:=by
 obtain ⟨r,hr⟩:=h.rk
 have key:∀ d z,r z≤d→z<F.m→z∈idsF F.kids n 0:=by
  intro d
  induction d with
  | zero =>
   intro z hz hzm
   by_cases e:z=0
   ·subst e; rw [ids_fix (h.ht hn) 0]; exact List.mem_cons_self
   ·obtain ⟨p,hp⟩:=h.conn z hzm e
    have:=hr z p hp
    omega
  | succ d ih =>
   intro z hz hzm
   by_cases e:z=0
   ·subst e; rw [ids_fix (h.ht hn) 0]; exact List.mem_cons_self
   ·obtain ⟨p,hp⟩:=h.conn z hzm e
    have h1:=hr z p hp
    obtain ⟨h2,h3⟩:=h.ok.up hp
    exact kid_in (h.ht hn) (ih p (by omega) h2) h3
 exact fun z hz=>key (r z) z (Nat.le_refl _) hz
theorem Dc.len (h:Dc F P) (hn:1000000≤n):(nodesF F.kids (fun i=>(P i).2) n 0).length=F.m:=by
 rw [nodesF_len]
 obtain ⟨r,hr⟩:=h.rk.down h.ok
 have h1:=ids_len h.ok hr n h.pos
 have h2:=(List.nodup_range (n:=F.m)).length_le_of_subset (l₂:=idsF F.kids n 0) (fun z hz=>h.reach hn z (List.mem_range.1 hz))
 rw [List.length_range] at h2
 omega
theorem Dc.shd (h:Dc F P) (hn:1000000≤n):Shd (nodesF F.kids (fun i=>(P i).2) n 0):=by
 have hl:=h.len hn
 have hm:=h.m
 have hp:=h.pos
 have hh:=h.ht hn
 have h0:Oc F.kids (fun i=>(P i).2) n 0 0 0 := .refl
 obtain ⟨r,hr⟩:=h.rk.down h.ok
 have hnd:=ids_nodup h.ok hr n 0
 have at_:∀ (i:Nat) (v:Node),(nodesF F.kids (fun i=>(P i).2) n 0)[i]?=some v→∃ z,Oc F.kids (fun i=>(P i).2) n 0 i z∧z<F.m∧v.kind=(P z).2.kind:=fun i v hv=>by
  obtain ⟨z,hz⟩:=oc_at hh (List.getElem?_eq_some_iff.1 hv).1
  refine ⟨z,hz,ids_lt h.ok n 0 hp z (hz.mem hh),?_⟩
  rw [hz.nd hh] at hv
  cases hv
  rfl
 refine ⟨by omega,by omega,?_,?_,?_,fun i v hv=>?_,fun i v hv hk=>?_,fun i v hv h3 h1=>?_⟩
 ·exact h0.sz hh
 ·exact fl_lam hh 0
 ·exact ⟨_,h0.nd hh,h.k0⟩
 ·obtain ⟨z,_,hz2,hz3⟩:=at_ i v hv
  rw [hz3]; exact h.kd z hz2
 ·obtain ⟨z,hz,hz2,hz3⟩:=at_ i v hv
  have:=h.k1 z hz2 (by rw [← hz3]; exact hk)
  subst this
  rw [← idxOf_at hnd (hz.id hh),idxOf_at hnd (h0.id hh)]
 ·obtain ⟨z,hz,hz2,hz3⟩:=at_ i v hv
  rw [hz.sz hh,nodes_fix hh z]
  have:F.kids z=[]:=by
   cases hK:F.kids z with
   | nil=>rfl
   | cons c l =>
    rcases h.leaf z (by rw [hK]; simp) with e | e
    ·exact absurd (hz3.trans e) h3
    ·exact absurd (hz3.trans e) h1
  rw [this]
  rfl
end
theorem Inm.el {K:Nat→List Nat} {e:Nat→Bool} {x:Nat} {r:Option Nat} (h:Inm K e x r):∀ to,r=some to→to=x∨e to=true:=by
 induction h with
 | stop=>intro to h; cases h; exact .inl rfl
 | many=>intro to h; cases h
 | @down x y r hd _ ih =>
  intro to h
  have hy:y∈(K x).filter e:=by rw [hd]; simp
  rcases ih to h with rfl | h1
  ·exact .inr (List.mem_filter.1 hy).2
  ·exact .inr h1
theorem idy_of_cpR {F1:Fo} {R:Nat→Nat→Prop} {K:Nat→List Nat} {lo hi:Nat}:∀ {n c x y:Nat},CpR F1 R K lo hi n c x→y∈idsF F1.kids n c→∃ z∈idsF K n x,R y z∧(F1.kids y≠[]→K z≠[])
 | 0,_,_,_,h,_=>h.elim
 | n+1,c,x,y,⟨_,h3,h4⟩,hy=>by
  simp only [idsF,List.mem_cons,List.mem_flatMap] at hy
  rcases hy with rfl | ⟨c',hc',hy⟩
  ·refine ⟨x,by simp [idsF],h3,fun hne he=>?_⟩
   rw [he] at h4
   cases hk:F1.kids y with
   | nil=>exact hne hk
   | cons a l=>rw [hk] at h4; cases h4
  ·obtain ⟨x',hx',h5⟩:=h4.mem_l hc'
   obtain ⟨z,hz,hr⟩:=idy_of_cpR h5 hy
   exact ⟨z,by simp only [idsF,List.mem_cons,List.mem_flatMap]; exact .inr ⟨x',hx',hz⟩,hr⟩
theorem Dc.wr {F F':Fo} {P P':Nat→Int×Node} {w:Nat} {l:List Nat} (h:Dc F P) (hw:w<F.m) (hwk:(P w).2.kind=3) (hl:∀ c∈l,c<F.m) (hst:∀ c∈l,∃ p,F.up c=some p) (hr:Wr w l F P F' P') (hok:F'.ok) (hrk:Rk F') (hm:F'.m≤600):Dc F' P':=by
 have hf:=wr_facts h.ok h.rk hw hl hr
 have hg:=hr.grow
 have h0:=h.pos
 obtain ⟨F1,first,rest,p,A,B,to,hc,rfl,hu,hk,hin,rfl⟩:=hr
 obtain ⟨n,hb,hn⟩:=big_ge
 obtain ⟨hn1,hn2⟩:=hc.n
 rw [hb] at hn1 hn2
 have hlt:F.m<F1.m:=by
  cases n with
  | zero=>exact hn1.elim
  | succ n=>exact hn1.1.2
 have hpt:Pt1 F P w first p A B F1 P':=⟨h.ok,h.rk,hw,hl first (by simp),hc.ext,hc.up,hlt,hu,hk⟩
 have hge:=hpt.ge hin (Nat.le_refl _) hlt to rfl
 have hpm:=hpt.pm
 have hblk:∀ i,F.m≤i→i<F1.m→∃ z∈idsF F.kids n w,P' i=(-1,(P z).2)∧(F1.kids i≠[]→F.kids z≠[]):=fun i h1 h2=>by
  have:i∈idsF F1.kids n F.m:=by rw [hn2]; simp; omega
  exact idy_of_cpR hn1 this
 have hz0:∀ z∈idsF F.kids n w,z≠0:=fun z hz e=>by
  subst e
  rcases ids_parent hz with e | ⟨q,_,hq⟩
  ·rw [← e,h.k0] at hwk; omega
  ·have:=(h.ok.kid hq).1
   rw [h.top] at this; cases this
 have hto3:(P' to).2.kind=3:=by
  rcases hin.el to rfl with e | e
  ·obtain ⟨z,hz,hz1,_⟩:=hblk F.m (Nat.le_refl _) hlt
   have:CpR F1 (RcS P' fun y=>(P y).2) F.kids F.m F1.m n F.m w:=hn1
   rw [e]
   cases n with
   | zero=>exact this.elim
   | succ n =>
    have h2:P' F.m=(-1,(P w).2):=this.2.1
    rw [h2]; exact hwk
  ·simpa [elB] using e
 refine ⟨hok,hrk,hm,by omega,by rw [hf.old 0 h0]; exact h.k0,fun i (hi:i<F1.m) hk1=>?_,fun i hi=>hf.lab (fun v=>v.kind=1∨v.kind=2∨v.kind=3∨v.kind=4∨v.kind=5) h.kd i hi,fun z hz=>?_,?_,fun z (hz:z<F1.m) hz0'=>?_⟩
 ·by_cases e:i<F.m
  ·rw [hf.old i e] at hk1; exact h.k1 i e hk1
  ·obtain ⟨z,hz,hz1,_⟩:=hblk i (by omega) hi
   rw [hz1] at hk1
   exact absurd (h.k1 z (ids_lt h.ok n w hw z hz) hk1) (hz0 z hz)
 ·by_cases e1:z=to
  ·subst e1; exact .inl hto3
  ·have hz':(mvE (F1.hang p A [F.m] (first::B)) to (first::rest)).kids z=((F1.hang p A [F.m] (first::B)).kids z).filter fun j=>decide (j∉first::rest):=by
    simp only [mvE,Fo.hang,Fo.off,if_neg e1]
   rw [hz'] at hz
   have hz2:(F1.hang p A [F.m] (first::B)).kids z≠[]:=fun e=>hz (by rw [e]; rfl)
   by_cases e2:z=p
   ·subst e2
    rw [hf.old z hpm.2]
    refine h.leaf z fun e=>?_
    have:=(h.ok.up hpm.1).2
    rw [e] at this; cases this
   ·rw [hpt.kids2 e2] at hz2
    by_cases e3:z<F.m
    ·rw [(hc.ext.old z e3).2.1] at hz2
     rw [hf.old z e3]; exact h.leaf z hz2
    ·have e4:z<F1.m:=by
      cases hkz:F1.kids z with
      | nil=>exact absurd hkz hz2
      | cons a l=>exact (hc.ext.ok.up (hc.ext.ok.kid (p:=z) (c:=a) (by rw [hkz]; simp)).1).1
     obtain ⟨y,hy,hy1,hy2⟩:=hblk z (by omega) e4
     rw [hy1]
     exact h.leaf y (hy2 hz2)
 ·rw [hpt.up3 h0]
  have:0∉first::rest:=fun hm0=>by
   obtain ⟨q,hq⟩:=hst 0 hm0
   rw [h.top] at hq; cases hq
  rw [if_neg this]; exact h.top
 ·by_cases e:z<F.m
  ·exact hf.up z e (h.conn z e hz0')
  ·have e1:z∉first::rest:=fun hm0=>e (hl z hm0)
   simp only [mvE,Fo.hang,Fo.off,if_neg e1,List.mem_singleton]
   by_cases e2:z=F.m
   ·rw [if_pos e2]; exact ⟨p,rfl⟩
   ·rw [if_neg e2]
    have:z∈idsF F1.kids n F.m:=by rw [hn2]; simp; omega
    rcases ids_parent this with e3 | ⟨q,_,hq⟩
    ·exact absurd e3 e2
    ·exact ⟨q,(hc.ext.ok.kid hq).1⟩
end Go.Proofs.YtkmigbicabfodaaGreat.V
set_option linter.unusedVariables false
set_option linter.unusedSimpArgs false
namespace Go.Proofs.YtkmigbicabfodaaGreat.V
open Go
theorem sameNode_refl (v:Node) (ha:v.attrs.length≤1000000):m_spec_sameNode (v,v)=some true:=by
 have key:∀ d j,v.attrs.length - j=d→j≤v.attrs.length→loopO m_spec_sameNode_0 (v,v,(j:Int))=some (.inl ()):=by
  intro d
  induction d with
  | zero =>
   intro j hd hj
   refine loopO_out ?_
   simp only [m_spec_sameNode_0,cond_dec]
   rw [if_neg (by omega)]
  | succ d ih =>
   intro j hd hj
   obtain ⟨a,hA⟩:=get_lt (l:=v.attrs) (k:=j) (by omega)
   have step:m_spec_sameNode_0 (v,v,(j:Int))=some (.nx (v,v,((j+1:Nat):Int))):=by
    simp only [m_spec_sameNode_0,cond_dec,atI_nat,hA,bind_some]
    rw [if_pos (by omega)]
    simp only [and_self,decide_true,Bool.not_true,cond_false]
    rw [w64 (by omega) (by omega)]
    rfl
   rw [loopO_nx step]
   exact ih (j+1) (by omega) (by omega)
 have h:=key v.attrs.length 0 (by omega) (Nat.zero_le _)
 have h':loopO m_spec_sameNode_0 (v,v,(0:Int))=some (.inl ()):=h
 simp only [m_spec_sameNode,ne_eq,not_true,decide_false,cond_false]
 rw [h']
 rfl
theorem sameTree_refl (l:List Node) (hl:l.length≤1000000) (ha:∀ (i:Nat) (v:Node),l[i]?=some v→v.attrs.length≤1000000):m_spec_SameTree (l,l)=some true:=by
 have key:∀ d j,l.length - j=d→j≤l.length→loopO m_spec_SameTree_0 (l,l,(j:Int))=some (.inl ()):=by
  intro d
  induction d with
  | zero =>
   intro j hd hj
   refine loopO_out ?_
   simp only [m_spec_SameTree_0,cond_dec]
   rw [if_neg (by omega)]
  | succ d ih =>
   intro j hd hj
   obtain ⟨v,hv⟩:=get_lt (l:=l) (k:=j) (by omega)
   have step:m_spec_SameTree_0 (l,l,(j:Int))=some (.nx (l,l,((j+1:Nat):Int))):=by
    simp only [m_spec_SameTree_0,cond_dec,atI_nat,hv,bind_some]
    rw [if_pos (by omega)]
    have:=sameNode_refl v (ha j v hv)
    rw [this]
    simp only [bind_some,Bool.not_true,cond_false]
    rw [w64 (by omega) (by omega)]
    rfl
   rw [loopO_nx step]
   exact ih (j+1) (by omega) (by omega)
 have h:=key l.length 0 (by omega) (Nat.zero_le _)
 have h':loopO m_spec_SameTree_0 (l,l,(0:Int))=some (.inl ()):=h
 simp only [m_spec_SameTree,ne_eq,not_true,decide_false,cond_false]
 rw [h',bind_some]
 rfl
end Go.Proofs.YtkmigbicabfodaaGreat.V
set_option linter.unusedVariables false
set_option linter.unusedSimpArgs false
namespace Go.Proofs.YtkmigbicabfodaaGreat.V
open Go Go.Proofs
abbrev p_laws_step7:Pt:=[(0, .int .i64),(1, .lst .int),(2, .lst .int)]
abbrev q_laws_step7:Pt:=[(0, .el (.rc (.int .i64) [.ints, .ints, .str, .str, .strs] 0))]
noncomputable def m_laws_step7:Tup p_laws_step7→Option (Tup q_laws_step7):=fun (x:Int×List Int×List Int)=>some (x.1,x.2.1,x.2.2,[],[],[])
noncomputable def cx_laws_step7:Cx:=⟨tb,lookE [],lookS [],mth,ast⟩
theorem ck_laws_step7:CxOK Tryz.prog (cx_laws_step7):=cx_ok tb_ok if_ok .nil
noncomputable def e_laws_step7:Ent:=⟨0,p_laws_step7,q_laws_step7,m_laws_step7⟩
theorem ok_laws_step7:FnOK Tryz.prog 6 e_laws_step7:=fn_ok (L:=lookL []) ck_laws_step7 mixed Tryz.func6 rfl (by kernel_rfl) (by kernel_rfl) (ls_ok (l:=[]) (by kernel_rfl) .nil) (by intro x; kernel_rfl)
abbrev p_laws_sure7_w:Pt:=[(0, .lst .node),(1, .el (.rc (.int .i64) [.ints, .ints, .str, .str, .strs] 0))]
abbrev q_laws_sure7_w:Pt:=[(0, .bool)]
noncomputable def m_laws_sure7_w:Tup p_laws_sure7_w→Option (Tup q_laws_sure7_w):=fun (x:List Node×Int×List Int×List Int×List UInt8×List UInt8×List (List UInt8))=>Option.bind (m_spec_Changed_w_f (x.1,[(x.2.1,x.2.2.1,x.2.2.2.1,x.2.2.2.2.1,x.2.2.2.2.2.1,x.2.2.2.2.2.2)])) fun (r:List Node×List Int×Bool)=>some r.2.2
noncomputable def cx_laws_sure7_w:Cx:=⟨tb,lookE [(14,e_spec_Changed_w_f)],lookS [],mth,ast⟩
theorem ck_laws_sure7_w:CxOK Tryz.prog (cx_laws_sure7_w):=cx_ok tb_ok if_ok (.cons ok_spec_Changed_w_f Tryz.call14 .nil)
noncomputable def e_laws_sure7_w:Ent:=⟨0,p_laws_sure7_w,q_laws_sure7_w,m_laws_sure7_w⟩
theorem ok_laws_sure7_w:FnOK Tryz.prog 5 e_laws_sure7_w:=fn_ok (L:=lookL []) ck_laws_sure7_w mixed Tryz.func5 rfl (by kernel_rfl) (by kernel_rfl) (ls_ok (l:=[]) (by kernel_rfl) .nil) (by intro x; kernel_rfl)
abbrev p_laws_told7:Pt:=[(0, .lst .node),(1, .lst .node),(2, .lst .int),(3, .bool)]
abbrev q_laws_told7:Pt:=[(0, .bool)]
noncomputable def m_laws_told7:Tup p_laws_told7→Option (Tup q_laws_told7):=fun (x:List Node×List Node×List Int×Bool)=>bif x.2.2.2 then bif decide ((↑(List.length x.2.2.1):Int)=(↑(List.length x.1):Int)) then Option.bind (m_spec_Shaped x.2.1) fun (r:Bool)=>some r else some false else some false
noncomputable def cx_laws_told7:Cx:=⟨tb,lookE [(19,e_spec_Shaped)],lookS [],mth,ast⟩
theorem ck_laws_told7:CxOK Tryz.prog (cx_laws_told7):=cx_ok tb_ok if_ok (.cons ok_spec_Shaped Tryz.call19 .nil)
noncomputable def e_laws_told7:Ent:=⟨0,p_laws_told7,q_laws_told7,m_laws_told7⟩
theorem ok_laws_told7:FnOK Tryz.prog 10 e_laws_told7:=fn_ok (L:=lookL []) ck_laws_told7 mixed Tryz.func10 rfl (by kernel_rfl) (by kernel_rfl) (ls_ok (l:=[]) (by kernel_rfl) .nil) (by intro x; kernel_rfl)
abbrev p_laws_FnWrappedInner:Pt:=[(0, .lst .node),(1, .int .i64),(2, .int .i64)]
abbrev q_laws_FnWrappedInner:Pt:=[(0, .bool)]
noncomputable def m_laws_FnWrappedInner:Tup p_laws_FnWrappedInner→Option (Tup q_laws_FnWrappedInner):=fun (x:List Node×Int×Int)=>Option.bind (m_laws_zzFits1 x.1) fun (r:Bool)=>bif !r then some true else Option.bind (m_laws_step7 ((11:Int),[x.2.1],[x.2.2])) fun (r:Int×List Int×List Int×List UInt8×List UInt8×List (List UInt8))=>Option.bind (m_laws_sure7_w (x.1,r.1,r.2.1,r.2.2.1,r.2.2.2.1,r.2.2.2.2.1,r.2.2.2.2.2)) fun (r:Bool)=>bif !r then some true else Option.bind (m_impl_WrapInnerOf_f (x.1,[x.2.1],x.2.2)) fun (r:List Node×List Int×Bool)=>Option.bind (m_spec_Kids (x.1,x.2.1)) fun (r_1:List Int)=>Option.bind (m_impl_WrapAllOf_f (x.1,r_1,x.2.2)) fun (r_2:List Node×List Int×Bool)=>Option.bind (m_laws_told7 (x.1,r.1,r.2.1,r.2.2)) fun (r_3:Bool)=>bif r_3 then bif r_2.2.2 then bif decide ((↑(List.length x.1):Int)<(↑(List.length r.1):Int)) then Option.bind (m_spec_SameTree (r.1,r_2.1)) fun (r_4:Bool)=>bif r_4 then Option.bind (m_spec_SameList (r.2.1,r_2.2.1)) fun (r:Bool)=>some r else some false else some false else some false else some false
noncomputable def cx_laws_FnWrappedInner:Cx:=⟨tb,lookE [(4,e_laws_zzFits1),(6,e_laws_step7),(5,e_laws_sure7_w),(7,e_impl_WrapInnerOf_f),(9,e_spec_Kids),(8,e_impl_WrapAllOf_f),(10,e_laws_told7),(11,e_spec_SameTree),(12,e_spec_SameList)],lookS [],mth,ast⟩
theorem ck_laws_FnWrappedInner:CxOK Tryz.prog (cx_laws_FnWrappedInner):=cx_ok tb_ok if_ok (.cons ok_laws_zzFits1 Tryz.call4 (.cons ok_laws_step7 Tryz.call6 (.cons ok_laws_sure7_w Tryz.call5 (.cons ok_impl_WrapInnerOf_f Tryz.call7 (.cons ok_spec_Kids Tryz.call9 (.cons ok_impl_WrapAllOf_f Tryz.call8 (.cons ok_laws_told7 Tryz.call10 (.cons ok_spec_SameTree Tryz.call11 (.cons ok_spec_SameList Tryz.call12 .nil)))))))))
noncomputable def e_laws_FnWrappedInner:Ent:=⟨0,p_laws_FnWrappedInner,q_laws_FnWrappedInner,m_laws_FnWrappedInner⟩
theorem ok_laws_FnWrappedInner:FnOK Tryz.prog 3 e_laws_FnWrappedInner:=fn_ok (L:=lookL []) ck_laws_FnWrappedInner mixed Tryz.func3 rfl (by kernel_rfl) (by kernel_rfl) (ls_ok (l:=[]) (by kernel_rfl) .nil) (by intro x; kernel_rfl)
end Go.Proofs.YtkmigbicabfodaaGreat.V
set_option linter.unusedVariables false
set_option linter.unusedSimpArgs false
namespace Go.Proofs.YtkmigbicabfodaaGreat.V
open Go
theorem dc0 {t:List Node} (hR:RT t):Dc (FT t) (P0 t):=by
 have hlen:=hR.len
 have hpos:=hR.pos
 have hlab:∀ i,i<t.length→∃ v,t[i]?=some v∧(P0 t i).2=v:=fun i hi=>by
  obtain ⟨v,hv⟩:=get_lt (l:=t) (k:=i) hi
  exact ⟨v,hv,by simp [P0,nd0,hv]⟩
 refine ⟨FT_ok hR,FT_rk,by show t.length≤600; omega,hpos,?_,fun i hi hk=>?_,fun i hi=>?_,fun z hz=>?_,?_,fun z hz h0=>?_⟩
 ·obtain ⟨v,hv,hl⟩:=hlab 0 hpos
  obtain ⟨u,hu,hk⟩:=hR.k0
  rw [hv] at hu
  cases hu
  rw [hl]; exact hk
 ·obtain ⟨v,hv,hl⟩:=hlab i hi
  rw [hl] at hk
  exact (hR.node i v hv).k1 hk
 ·obtain ⟨v,hv,hl⟩:=hlab i hi
  rw [hl]
  exact (hR.node i v hv).kd
 ·have hzl:z<t.length:=by
   by_cases e:z<t.length
   ·exact e
   ·exact absurd (if_neg e) hz
  obtain ⟨v,hv,hl⟩:=hlab z hzl
  rw [hl]
  by_cases h3:v.kind=3
  ·exact .inl h3
  ·by_cases h1:v.kind=1
   ·exact .inr h1
   ·have h2:=(hR.node z v hv).k2 h3 h1
    have hk:(FT t).kids z=kidsN t z:=if_pos hzl
    rw [hk] at hz
    obtain ⟨u,hu,hus,_,_⟩:=hR.lam.ok z (Nat.zero_le _) hzl
    rw [hv] at hu
    cases hu
    have hs:sz t z=1:=by omega
    refine absurd ?_ hz
    unfold kidsN
    rw [hs]
    simp [kidsF]
 ·show (if 0<t.length then par t 0 else none)=none
  rw [if_pos hpos]; rfl
 ·have hzl:z<t.length:=hz
  show ∃ p,(if z<t.length then par t z else none)=some p
  rw [if_pos hzl]
  cases hp:par t z with
  | some p=>exact ⟨p,rfl⟩
  | none =>
   have:=parF_none hp 0 (by omega)
   have h1:=hR.root
   omega
theorem fn_wrappedInner (t:List Node) (o w:Int):m_laws_FnWrappedInner (t,o,w)=some true:=by
 simp only [m_laws_FnWrappedInner,zz1,bind_some,m_laws_step7,cond_dec]
 cases hf:fits1 t with
 | false=>rfl
 | true =>
  simp only [Bool.not_true,cond_false]
  obtain ⟨out,at',b,h1,h2⟩:=changedW (t:=t) (on:=[o]) (o:=w) hf (by simp)
  have hs:m_laws_sure7_w (t,11,[o],[w],[],[],[])=some b:=by simp only [m_laws_sure7_w,h1,bind_some]
  rw [hs,bind_some]
  cases b with
  | false=>rfl
  | true =>
   have hA:=h2 rfl
   obtain ⟨⟨S,hS⟩,hu,hol,hal⟩:=wrapInnerOf_eq hf hA
   have hi':m_impl_WrapInnerOf_f (t,[o],w)=some (out,at',true):=by
    show (m_impl_WrapInnerOf (t,[o],w,[])).map _=_
    rw [hS]; rfl
   obtain ⟨hR,onl,wn,F',P',e1,rfl,hch,hI',hsu,hw,hon,hnd,hout⟩:=hA
   obtain ⟨n,hb,hn⟩:=big_ge
   obtain ⟨rfl,rfl⟩:=hout n hb
   have hlen:=hR.len
   have hpos:=hR.pos
   have hok:=FT_ok hR
   obtain ⟨x,rfl⟩:∃ x,onl=[x]:=by
    have:onl.length=1:=by
     have:=congrArg List.length e1
     simpa [intsN] using this.symm
    exact List.length_eq_one_iff.1 this
   have ho:o=(x:Int):=by
    simp only [intsN,List.map_cons,List.map_nil,List.cons.injEq,and_true] at e1
    exact e1
   subst ho
   have hx:=hon x (by simp)
   have hI:=hsu.wi
   obtain ⟨hwo,hna,_⟩:=hsu.on x (by simp)
   obtain ⟨F1,P1,hr,hI1,ht⟩:∃ F1 P1,Wr wn ((FT t).kids x) (FT t) (P0 t) F1 P1∧WI F1 P1 wn∧WCh wn [] F1 P1 F' P':=by
    cases hch with | cons h hi t=>exact ⟨_,_,h,hi,t⟩
   cases ht
   have hk:(FT t).kids x=kidsN t x:=if_pos hx.2
   have hlt:∀ c∈(FT t).kids x,c<(FT t).m:=fun c hc=>(hok.kid hc).2
   have hst:∀ c∈(FT t).kids x,∃ p,(FT t).up c=some p:=fun c hc=>⟨x,(hok.kid hc).1⟩
   have hg:WG (FT t) ((FT t).kids x):=⟨hwo.ne,hok.nd x,hlt,hst⟩
   have hds:Ds t (kidsN t x):=⟨fun c hc=>hlt c (by rw [hk]; exact hc),by rw [← hk]; exact hok.nd x⟩
   have hKids:m_spec_Kids (t,(x:Int))=some (intsN (kidsN t x)):=Kids_eq t (by omega) hR.lam (Nat.zero_le _) hx.2 (Nat.le_refl _)
   obtain ⟨G',M',φ',q1,q2,q3,q4,_⟩:=wrapall_eq qx_ok (bes0 hR) hI hg hr
   have hf1:=wr_facts hok FT_rk hw.2 hlt hr
   have hle:t.length≤F'.m:=hr.grow
   have hends:=ends_w hR q2 hI1.ok hI1.rk hI1.m hle (fun i hi=>q3 i hi) (fun i hi=>hf1.old i hi) (fun i h1 h2=>hf1.neg i h1 h2) hb hn
   have hmap:((FT t).kids x).map (fun i=>i)=kidsN t x:=by rw [hk]; exact List.map_id' _
   rw [hmap] at q1
   have hptrs:ptrs t=(List.range t.length).map some:=rfl
   have hw2:(wn:Int)<((ptrs t).length:Int):=by rw [hptrs]; simp; omega
   have hat:atI (ptrs t) (wn:Int)=some (some wn):=by
    rw [atI_nat,hptrs,List.getElem?_map,List.getElem?_range hw.2]; rfl
   have hall:m_impl_WrapAllOf_f (t,intsN (kidsN t x),(wn:Int))=some (nodesF F'.kids (fun i=>(P' i).2) n 0,putP P' (idsF F'.kids n 0) 0 (List.replicate t.length (-1)),true):=by
    have:∃ S,m_impl_WrapAllOf (t,intsN (kidsN t x),(wn:Int),[])=some (nodesF F'.kids (fun i=>(P' i).2) n 0,putP P' (idsF F'.kids n 0) 0 (List.replicate t.length (-1)),true,S):=by
     refine ⟨G'.st M',?_⟩
     simp only [m_impl_WrapAllOf,selected_eq hf hR hds,bind_some,Bool.not_true,cond_false,cond_dec]
     rw [if_neg (by omega),if_neg (by omega),store_st hR]
     simp only [hat,bind_some,q1,hends]
    obtain ⟨S,hS⟩:=this
    show (m_impl_WrapAllOf (t,intsN (kidsN t x),(wn:Int),[])).map _=_
    rw [hS]; rfl
   have hD:=(dc0 hR).wr hw.2 hsu.kd hlt hst hr hI1.ok hI1.rk hI1.m
   have hshd:=hD.shd hn
   have hnl:=hD.len hn
   have hgt:t.length<F'.m:=by
    obtain ⟨F1,first,rest,p,A,B,to,hc,_,_,_,_,rfl⟩:=hr
    obtain ⟨hn1,_⟩:=hc.n
    rw [hb] at hn1
    have:(FT t).m<F1.m:=by
     cases n with
     | zero=>exact hn1.elim
     | succ n=>exact hn1.1.2
    exact this
   have htold:m_laws_told7 (t,nodesF F'.kids (fun i=>(P' i).2) n 0,putP P' (idsF F'.kids n 0) 0 (List.replicate t.length (-1)),true)=some true:=by
    simp only [m_laws_told7,cond_dec,cond_true]
    rw [if_pos (by omega),Shd_eq hshd,bind_some]
   have hst':=sameTree_refl (nodesF F'.kids (fun i=>(P' i).2) n 0) (by omega) (fun i v hv=>hu (fun l=>l.length≤1000000) (fun i hi=>hI.at_ i hi) v (List.mem_of_getElem? hv))
   have hsl:=sameList_rf (putP P' (idsF F'.kids n 0) 0 (List.replicate t.length (-1))) (by omega)
   simp only [Bool.not_true,cond_false,hi',bind_some,hKids,hall,htold,cond_true]
   rw [if_pos (by omega)]
   simp only [hst',bind_some,cond_true,hsl]
end Go.Proofs.YtkmigbicabfodaaGreat.V
