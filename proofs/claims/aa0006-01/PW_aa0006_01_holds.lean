import PyProof.Rows.All
import Wide.All
import OpenK.AllK
import Wide.FinOn
import KE.KSortAsk
import KE.KSortTup
import PyProof.SliceList
import PyProof.EvalArms
import Lean
import PySem.Challenge.RW_aa0006_01
set_option Elab.async false
set_option maxRecDepth 100000
set_option maxHeartbeats 8000000
set_option linter.unusedVariables false
set_option tactic.hygienic false
set_option linter.all false
open And renaming intro→tL
open Array renaming length_toList→yS,getElem?_eq_getElem→vj,getD_eq_getD_getElem?→uh,getElem?_toList→XH,empty_append→VO,eq_empty_of_size_eq_zero→TN,mem_toList_iff→lF,ext_getElem?→rA,toList_push→rR,toList_inj→CD,any_toList→CE
open Bool renaming and_eq_true→zk,and_eq_true_iff→yt,or_eq_true→wj,or_eq_false_iff→vr,eq_iff_iff→tC,not_eq_false'→ZN,false_ne_true→ZO,false_eq_true→ZP,and_false→WB,and_true→fh,not_eq_true'→CC,false_and→Hv
open Eq renaming mpr→zw
open Exists renaming imp→th
open False renaming elim→qC
open ForInStep renaming yield→qB
open Int renaming toNat_natCast→wI,fmod_nonneg_of_pos→wT,fmod_lt_of_pos→tK,natCast_nonneg→Uo
open List renaming mem_singleton→zd,length_map→zj,mem_cons→zn,mem_append→zv,append_assoc→zA,mem_map→zB,getElem?_eq_getElem→zC,mem_append_right→zD,length_append→zG,mem_of_getElem?→zH,all_eq_true→zJ,length_cons→zS,range→zT,map_cons→zU,map_append→yc,lookup_cons→yd,getElem?_eq_some_iff→yi,map_map→yp,filterMap_cons→yr,getElem?_append_left→yu,append_nil→yB,getElem?_map→yF,length_range→yM,getD_eq_getElem?_getD→yP,map_congr_left→yT,not_mem_nil→yV,range'→yZ,flatMap_cons→y0,getElem?_append_right→xa,length_reverse→xo,size_toArray→xG,length→xH,mem_reverse→xU,mem_append_left→xV,take_of_length_le→x9,replicate→wa,mem_map_of_mem→we,nil_append→wh,toArray→wu,nodup_nil→wC,mem_range→wD,getElem?_toArray→vd,contains_iff_mem→ve,mem_iff_getElem→vq,eq_nil_of_length_eq_zero→vP,length_singleton→ug,nodup_append→uw,range_eq_range'→uI,getElem?_append→uJ,mem_flatMap→uX,map→tg,nodup_cons→tB,lookup_append→tE,filterMap_map→tG,push_toArray→qe,getElem?_set_self→qf,drop_eq_nil_of_le→qg,length_drop→qD,getElem?_set_ne→qW,filter_append→ZL,filterMap_nil→ZM,map_reverse→YJ,length_eq_zero_iff→YK,getElem_mem→YL,cons_append→YM,any_eq_true→YN,filter_eq_nil_iff→Xu,length_nil→XE,forIn_cons→XF,find?_cons→XG,filterMap_eq_map→XZ,range'_append_1→Wx,mem_cons_of_mem→Wy,map_id→Wz,drop_zero→WA,flatMap_append→Vk,mem_cons_self→V5,flatMap→UN,filter_cons→TT,range_succ→aj,length_eraseIdx_of_lt→cy,forIn_nil→cz,length_filterMap_le→ff,filterMap_cons_some→fg,range_succ_eq_map→jr,getElem?_eq_none→lE,getElem?_range'→lP,takeWhile_cons→rx,getElem?_range→ry,filter_eq_self→rz,map_filterMap→rO,length_range'→rP,find?_toArray→rQ,ext_getElem?→CB,mem_toArray→DK,length_take→DL,mem_filter→He,drop_left→Ht,drop_drop→Hu
open List.cons renaming injEq→lQ
open Nat renaming le_of_eq→ze,sub_add_cancel→zh,le_antisymm→zE,mul_le_mul_left→zF,le_refl→zX,lt_of_lt_of_le→yq,le_trans→yv,lt_irrefl→yI,lt_of_le_of_lt→xj,eq_of_beq_eq_true→xq,le_of_not_lt→xy,zero_le→wk,beq→wm,lt_of_not_le→wX,le_add_right→wY,le_of_ble_eq_true→vg,le_add_left→vp,zero_add→vx,le_succ→vz,le_of_lt→vA,ne_of_lt→vY,add_le_add→uS,le_of_succ_le→qp,sub_le→qQ,lt_succ_self→qR,mul_le_mul_right→Zl,not_lt_of_le→Xc,not_succ_le_self→Vf,not_lt→Un,lt_or_ge→TM,not_le_of_lt→Qy,succ_mul→lz,sub_zero→lA,sub_self→lB,lt_trans→lC,le_of_succ_le_succ→lD,add_le_add_left→rN,lt_succ_of_lt→DJ,succ_ne_zero→G9,succ_le_succ→Ha,min_le_right→Hb,min_eq_right→Hc,strongRecOn→Hr,min_le_left→Hs
open Ne renaming symm→uF
open Option renaming bind_eq_some_iff→zl,map_eq_some_iff→yz,isNone_iff_eq_none→xg,map→lO,getD_some→rL,bind_some→rM
open Option.some renaming inj→zf
open Or renaming elim→lN
open PUnit renaming unit→yO
open PyProof.Rows renaming seqObj→xw,Attribute_name→YI,listUpdate_at→XD,get?_update_seq→Vj,split_le→Um,listItems_at→b8,tail_any→lu,bubble→lx
open PySem renaming wpAny_bind→zb,Shared→zg,Value→zi,Params→zp,wpAny→zr,model→zu,sizeLine_eq→zy,Addr→zI,wpAny_execs_cons→zO,eval→zR,wpAny_holding→zV,World→ya,DictEntry→yE,wpAny_call→yL,keywordEach→yN,wpAny_newObj_type→yQ,foldedSetIterable→yR,Stmt→yX,Around→y1,codeAny→y4,wpAny_standAt→xi,cellsFrom→xF,Obj→xK,starEach→xL,execs→xN,Heap→xO,wpAny_truthy_bool→xQ,backToKw→xS,codeAny_of_tree→xZ,wpAny_of_eq→x8,wpAny_isTrue_Compare1→wy,builtinLookup_eq_fast→wz,wpAny_mono→wE,wpAny_setState_of→wR,wpAny_Call_Name_kw→vm,codeAny_call_builtin→vG,behindInMarks→vK,spliced→vR,wpAny_askSetting→vU,newFunctionEnv→vV,entryFor_of_tree→vW,backTo→vX,typeLookup→ut,typeLookup_type→uD,SetTable→uE,swapsWith→uH,codeAny_call_function→uP,wpAny_Assign_Name→uV,Program→uW,wpAny_setField→ta,sliceBounds→td,relabel→tw,exec→tx,checkBuiltinCall→tz,Keyword→tA,wpAny_setEntries_of→tI,cStatics→tX,Comprehension→tZ,wpAny_execs_nil→qb,pickOrder→qr,Scope→qv,wpAny_Return_some→qL,compTurn→qM,bindArgs→qN,plainObj_wpAny_Assign_Attribute→Zk,wpAny_call_entry→Zn,typeOf→Zo,Result→Zr,methodCallPos→ZA,Pos→ZJ,FuncData→ZK,evalAll→Ys,wpAny_fieldsOf→YD,methodCallForm→YE,isSubtype_type→YF,entryFor→YG,codeAny_call_builtin_code→Xb,allTrue→Xr,wpAny_comprehension_free→Xz,pyIter→XA,wpAny_callSpecial?_slot→Ws,treeTable→Wt,storeName→Wu,isSubtype→Wv,getAttr→W7,codeAny_func→W8,closureFor→W9,callFunction→Va,BindsTo→Ve,wpAny_updateSeq→Vh,Sem→VL,wpAny_loadName_local→Ud,wpAny_alloc→Ue,slicePicked→Uf,setField→Ug,pyNext→Uh,argsOk→Ui,strValues→UI,callAny→UJ,Builtin→UM,wpAny_attempt→TP,attributeBase→TQ,wpAny_setField_rec→Qs,typeIs_str→Qt,sysModules→Qu,qualnameIn→Qv,Flow→Qw,Env→Qx,wpAny_assign_Name→b0,relayAll→b5,wpAny_isInstance→eQ,slicePick→eR,getMethod→eS,findBy→eT,Thread→eU,unsupported→eW,mainGlobals→eX,interactive→eY,claimMargin→eZ,Model→fb,theTreesLotGoes→gY,pushCells_keeps→gZ,ElemsOf→jq,wpAny_tryCatch→k5,wpAny_seqItems→k6,wpAny_runValue→k7,wpAny_newTuple→k8,wpAny_Name→k9,wpAny_Compare1→la,table→lb,setEntries→lc,fieldsOf→lg,cellOf→lh,swappedStores→rt,arm_eval_Call→ru,pushCells→rJ,wpAny_mkText→Cq,standAt→Cr,leaving→Cs,codeAny_compStart_list→Ct,clipAt→Cu,wpAny_noted→GY,wpAny_letGo→GZ,wpAny_BinOp→G0,wants→G1,dictEntries→G2,bindSpecial→G3,NameKind→G5
open PySem.Around renaming under_plainId→vk
open PySem.BindsTo renaming of_defaults→uR,of_eq→qx
open PySem.Builtin.Deque renaming clear→ai
open PySem.Builtin.Frozenset renaming sizeOf→G6,newClass→G7,isAnySet→G8
open PySem.Builtin.Int renaming intBits→cx
open PySem.Builtin.List renaming listExtendWith→wB,listSameRef→UL,listItems→TS
open PySem.Builtin.Range renaming rangeSize→UK,small→ah
open PySem.Builtin.Str renaming occurrences→vn,partsBetween→Zt
open PySem.Calls renaming spliced_cons→uv,Constant_str→Yt,spliced_nil→Xs,Name_function_global→Ul
open PySem.Code renaming quiet_builtin→xR,isCreation→XB
open PySem.Env renaming blockKind→g9
open PySem.Expr renaming Name→g6
open PySem.Heap renaming get?_push_of_some→zq,get?_push_size→zx,get?_update_self→zP,lt_size→zY,SameBut→yo,size_push→xu,get?_update_other→qd,get?_none_of_le→Ww,get?_push_ne→CA,size_update→DI
open PySem.Heap.SameBut renaming update→zW
open PySem.Keeper renaming boundFrame→V4,machine→ag,frame→fc
open PySem.Manifest.Receiver renaming self→VM,none→VN
open PySem.NameKind renaming free→yY,cell→wK
open PySem.Obj renaming mapSeq→yj,data_mapFields→y5,isFreed_of_fields→vf,mapDictKeys→Zs,putName→YA,cls_mapFields→TK,putSet→Cy,putNameByArray→Cz
open PySem.PyData renaming keyHash→zz
open PySem.ScopeKind renaming function→g5
open PySem.Sem renaming wp_bind'→wS,wp→qP,wp_mono→Yz,wp_pure'→lr
open PySem.SetTable renaming grown→uf
open PySem.Shared renaming TypeIs→qA,mk→rK
open PySem.Sre renaming inSet→wH,Seen→vc,isWord→Z4,forSearch→YH
open PySem.Sre.M renaming admitted→vH,attemptFrom→Uk,say→TJ,step→b7,attemptAt→DH
open PySem.Str renaming ofString→za,length_append→ye,empty→ym,ext'→Vc,cps_append→Vd,length→Cw
open PySem.StrLaws renaming partsBetween_eq→cw,occ_length_le→e6,glued_eq_join→e9,split_free→lp,join_split→lq,partsFrom→lM
open PySem.Txt renaming split→yy,slice→xc,replace→x4,join→wc,startswith→vL,strip→qO,slice_le→ll
open PySem.Unicode renaming isSpace→u9
open PySem.Value renaming ref→yJ,type→yK,none→xn,isStrOf→vZ,str→tD,builtin→Vi
open PySem.W renaming emptyDict→xf,instObj→xx,Looks→xD,looks_findIn→uu,Frag→uQ,dictOf→tJ,SharedT→qc,looks_field→qt,findIn→Zp,callWith_of→ZH,absHeap→Vb,plainGet_of→Uj,kas_rev→b6,opening→jp,plainGet→lj,bind_fn→Cv
open PySem.W.Fast renaming sEq→zZ,sEq_iff→yk
open PySem.W.Looks renaming of_peek→wq,of_pure→te,ld→tY
open PySem.W.SharedT renaming abs→Hq
open PySem.W.WShape renaming hasItems→TR
open PySem.W.WTm renaming holds→G4
open PySem.callAny renaming viaDunder→lL
open PySem.pickOrder renaming go→W6
open PySem PySem.W PyProof.Rows PySem.Calls
namespace Mine.Internal
local macro_rules |`(⋯)=>`(by kernel_rfl)
section
universe u
@[elab_as_elim] theorem zc{α:Sort u}{a:α}{M:α→Prop}{b:α}(h:a=b)(k:M b):M a:=zw (congrArg M h) k
@[elab_as_elim] theorem xv{α:Sort u}{a:α}{M:α→Prop}{b:α}(h:b=a)(k:M b):M a:=Eq.mp (congrArg M h) k
theorem nS{α:Type u}{a:α}{G:Prop}(h:none=some a):G:=nomatch h
theorem Sn{α:Type u}{a:α}{G:Prop}(h:some a=none):G:=nomatch h
theorem tF{G:Prop}(h:true=false):G:=nomatch h
theorem fT{G:Prop}(h:false=true):G:=nomatch h
theorem nC{α:Type u}{a:α}{l:List α}{G:Prop}(h:[]=a::l):G:=nomatch h
theorem cN{α:Type u}{a:α}{l:List α}{G:Prop}(h:a::l=[]):G:=nomatch h
theorem mN{α:Type u}{a:α}{G:Prop}(h:a∈([]:List α)):G:=nomatch h
universe u0 u1 u2
theorem zK{p0 p1:Prop}{G:Prop}(h:p0∧p1)(k:p0→p1→G):G:=by obtain⟨a0,a1⟩:=h;exact k a0 a1
theorem yU{p0 p1 p2:Prop}{G:Prop}(h:p0∧p1∧p2)(k:p0→p1→p2→G):G:=by obtain⟨a0,a1,a2⟩:=h;exact k a0 a1 a2
theorem Qi{p0 p1 p2 p3:Prop}{G:Prop}(h:p0∧p1∧p2∧p3)(k:p0→p1→p2→p3→G):G:=by obtain⟨a0,a1,a2,a3⟩:=h;exact k a0 a1 a2 a3
theorem Kq{p0 p1 p2 p3 p4:Prop}{G:Prop}(h:p0∧p1∧p2∧p3∧p4)(k:p0→p1→p2→p3→p4→G):G:=by obtain⟨a0,a1,a2,a3,a4⟩:=h;exact k a0 a1 a2 a3 a4
theorem NY{p0 p1 p2 p3 p4 p5:Prop}{G:Prop}(h:p0∧p1∧p2∧p3∧p4∧p5)(k:p0→p1→p2→p3→p4→p5→G):G:=by obtain⟨a0,a1,a2,a3,a4,a5⟩:=h;exact k a0 a1 a2 a3 a4 a5
theorem yf{α0:Sort u0}{p0:α0→Prop}{G:Prop}(h:∃x0,p0 x0)(k:∀x0,p0 x0→G):G:=by obtain⟨a0,a1⟩:=h;exact k a0 a1
theorem zt{α0:Sort u0}{p0 p1:α0→Prop}{G:Prop}(h:∃x0,p0 x0∧p1 x0)(k:∀x0,p0 x0→p1 x0→G):G:=by obtain⟨a0,a1,a2⟩:=h;exact k a0 a1 a2
theorem wO{α0:Sort u0}{p0 p1 p2:α0→Prop}{G:Prop}(h:∃x0,p0 x0∧p1 x0∧p2 x0)(k:∀x0,p0 x0→p1 x0→p2 x0→G):G:=by obtain⟨a0,a1,a2,a3⟩:=h;exact k a0 a1 a2 a3
theorem VE{α0:Sort u0}{p0 p1 p2 p3:α0→Prop}{G:Prop}(h:∃x0,p0 x0∧p1 x0∧p2 x0∧p3 x0)(k:∀x0,p0 x0→p1 x0→p2 x0→p3 x0→G):G:=by obtain⟨a0,a1,a2,a3,a4⟩:=h;exact k a0 a1 a2 a3 a4
theorem kO{α0:Sort u0}{p0 p1 p2 p3 p4:α0→Prop}{G:Prop}(h:∃x0,p0 x0∧p1 x0∧p2 x0∧p3 x0∧p4 x0)(k:∀x0,p0 x0→p1 x0→p2 x0→p3 x0→p4 x0→G):G:=by obtain⟨a0,a1,a2,a3,a4,a5⟩:=h;exact k a0 a1 a2 a3 a4 a5
theorem Y5{α0:Sort u0}{α1:Sort u1}{p0:α0→α1→Prop}{G:Prop}(h:∃x0 x1,p0 x0 x1)(k:∀x0 x1,p0 x0 x1→G):G:=by obtain⟨a0,a1,a2⟩:=h;exact k a0 a1 a2
theorem yW{α0:Sort u0}{α1:Sort u1}{p0 p1:α0→α1→Prop}{G:Prop}(h:∃x0 x1,p0 x0 x1∧p1 x0 x1)(k:∀x0 x1,p0 x0 x1→p1 x0 x1→G):G:=by obtain⟨a0,a1,a2,a3⟩:=h;exact k a0 a1 a2 a3
theorem xk{α0:Sort u0}{α1:Sort u1}{p0 p1 p2:α0→α1→Prop}{G:Prop}(h:∃x0 x1,p0 x0 x1∧p1 x0 x1∧p2 x0 x1)(k:∀x0 x1,p0 x0 x1→p1 x0 x1→p2 x0 x1→G):G:=by obtain⟨a0,a1,a2,a3,a4⟩:=h;exact k a0 a1 a2 a3 a4
theorem x7{α0:Sort u0}{α1:Sort u1}{p0 p1 p2 p3:α0→α1→Prop}{G:Prop}(h:∃x0 x1,p0 x0 x1∧p1 x0 x1∧p2 x0 x1∧p3 x0 x1)(k:∀x0 x1,p0 x0 x1→p1 x0 x1→p2 x0 x1→p3 x0 x1→G):G:=by obtain⟨a0,a1,a2,a3,a4,a5⟩:=h;exact k a0 a1 a2 a3 a4 a5
theorem xd{α0:Sort u0}{α1:Sort u1}{α2:Sort u2}{p0:α0→α1→α2→Prop}{G:Prop}(h:∃x0 x1 x2,p0 x0 x1 x2)(k:∀x0 x1 x2,p0 x0 x1 x2→G):G:=by obtain⟨a0,a1,a2,a3⟩:=h;exact k a0 a1 a2 a3
theorem Qh{α0:Sort u0}{α1:Sort u1}{α2:Sort u2}{p0 p1:α0→α1→α2→Prop}{G:Prop}(h:∃x0 x1 x2,p0 x0 x1 x2∧p1 x0 x1 x2)(k:∀x0 x1 x2,p0 x0 x1 x2→p1 x0 x1 x2→G):G:=by obtain⟨a0,a1,a2,a3,a4⟩:=h;exact k a0 a1 a2 a3 a4
theorem VD{α0:Sort u0}{α1:Sort u1}{α2:Sort u2}{p0 p1 p2:α0→α1→α2→Prop}{G:Prop}(h:∃x0 x1 x2,p0 x0 x1 x2∧p1 x0 x1 x2∧p2 x0 x1 x2)(k:∀x0 x1 x2,p0 x0 x1 x2→p1 x0 x1 x2→p2 x0 x1 x2→G):G:=by obtain⟨a0,a1,a2,a3,a4,a5⟩:=h;exact k a0 a1 a2 a3 a4 a5
theorem Wj{α0:Sort u0}{α1:Sort u1}{α2:Sort u2}{p0 p1 p2 p3:α0→α1→α2→Prop}{G:Prop}(h:∃x0 x1 x2,p0 x0 x1 x2∧p1 x0 x1 x2∧p2 x0 x1 x2∧p3 x0 x1 x2)(k:∀x0 x1 x2,p0 x0 x1 x2→p1 x0 x1 x2→p2 x0 x1 x2→p3 x0 x1 x2→G):G:=by obtain⟨a0,a1,a2,a3,a4,a5,a6⟩:=h;exact k a0 a1 a2 a3 a4 a5 a6
end
section
set_option genSizeOfSpec false in
set_option genInjectivity false in
inductive Lx|v(i:Nat)|k (n:Nat)|a (x y:Lx)|m (x y:Lx)|r (x y:Lx)|s (x:Lx)
noncomputable def Lx.e(l:List Nat):Lx→Nat
 |v i=>l.getD i 0
 |k n=>n
 |a x y=>x.e l+y.e l
 |m x y=>x.e l*y.e l
 |r x y=>x.e l*y.e l
 |s x=>x.e l+1
noncomputable def a9:Nat→Nat→Lx×Nat
 |0,c=>(.k 0,c)
 |n+1,c =>
  bif wm (c%16) 0 then(.a (a9 n (c/16)).1 (a9 n (a9 n (c/16)).2).1,(a9 n (a9 n (c/16)).2).2)
  else bif wm (c%16) 1 then(.m (a9 n (c/16)).1 (a9 n (a9 n (c/16)).2).1,(a9 n (a9 n (c/16)).2).2)
  else bif wm (c%16) 2 then(.s (a9 n (c/16)).1,(a9 n (c/16)).2)
  else bif wm (c%16) 3 then(.k (c/256%16^(c/16%16)),c/256/16^(c/16%16))
  else bif wm (c%16) 4 then(.r (a9 n (c/16)).1 (a9 n (a9 n (c/16)).2).1,(a9 n (a9 n (c/16)).2).2)
  else(.v (c%16-5),c/16)
noncomputable def Nk(c:Nat):Nat→Nat
 |0=>c
 |n+1=>(a9 20 (Nk c n)).2
noncomputable def dL(c i:Nat):Lx:=(a9 20 (Nk c i)).1
noncomputable def Qk:List Nat→List Nat→Nat
 |c::p,x::l=>c*x+Qk p l
 |_,_=>0
noncomputable def Lb:List Nat→List Nat→List Nat
 |a::p,b::q=>(a+b)::Lb p q
 |[],q=>q
 |p,[]=>p
noncomputable def IE(c:Nat):List Nat→List Nat
 |a::p=>(c*a)::IE c p
 |[]=>[]
noncomputable def LF:Nat→List Nat
 |0=>[1]
 |n+1=>0::LF n
noncomputable def LL:List Nat→List Nat→Bool
 |a::p,b::q=>Nat.ble a b&&LL p q
 |[],_=>true
 |a::p,[]=>wm a 0&&LL p []
noncomputable def Mx:List Nat→Bool
 |[_]=>true
 |_=>false
noncomputable def MS:List Nat→Nat
 |a::_=>a
 |_=>0
noncomputable def Lx.n:Lx→List Nat
 |v i=>LF (i+1)
 |k n=>[n]
 |a x y=>Lb x.n y.n
 |m x y=>IE (MS y.n) x.n
 |r x y=>IE (MS x.n) y.n
 |s x=>Lb x.n [1]
noncomputable def Lx.w:Lx→Bool
 |a x y=>x.w&&y.w
 |m x y=>x.w&&(y.w&&Mx y.n)
 |r x y=>y.w&&(x.w&&Mx x.n)
 |s x=>x.w
 |_=>true
theorem Dq(l:List Nat):∀p q,Qk (Lb p q) l=Qk p l+Qk q l:=by
 induction l with
 |nil=>intro p q;cases p<;>cases q<;>rfl
 |cons x l ih =>
  intro p q
  cases p with
  |nil=>exact(vx _).symm
  |cons a p=>cases q with
   |nil=>rfl
   |cons b q =>
    show(a+b)*x+Qk (Lb p q) l=a*x+Qk p l+(b*x+Qk q l)
    rw[ih,Nat.add_mul];exact Nat.add_add_add_comm ..
theorem Do(c:Nat)(l:List Nat):∀p,Qk (IE c p) l=c*Qk p l:=by
 induction l with
 |nil=>intro p;cases p<;>rfl
 |cons x l ih =>
  intro p
  cases p with
  |nil=>rfl
  |cons a p =>
   show c*a*x+Qk (IE c p) l=c*(a*x+Qk p l)
   rw[ih,Nat.mul_add,Nat.mul_assoc]
theorem Kr:∀i (l:List Nat),Qk (LF i) l=l.getD i 0:=by
 intro i
 induction i with
 |zero=>intro l;cases l with
  |nil=>rfl
  |cons x l=>show 1*x+Qk [] l=x;rw[Nat.one_mul];cases l<;>rfl
 |succ i ih=>intro l;cases l with
  |nil=>rfl
  |cons x l=>show 0*x+Qk (LF i) l=_;rw[Nat.zero_mul,vx,ih];rfl
theorem Kt(l:List Nat):∀p q,LL p q=true→Qk p l≤Qk q l:=by
 induction l with
 |nil=>intro p q _;cases p<;>exact wk _
 |cons x l ih =>
  intro p q h
  cases p with
  |nil=>exact wk _
  |cons a p=>cases q with
   |nil =>
    have h:=yt.mp h
    have e:=xq h.1
    have i:=ih p [] h.2
    show a*x+Qk p l≤0
    rw[e,Nat.zero_mul,vx]
    cases l<;>exact i
   |cons b q =>
    have h:=yt.mp h
    exact uS (Zl _ (vg h.1)) (ih p q h.2)
theorem FP(l:List Nat)(c:Nat):Qk [c] (1::l)=c:=(congrArg (c*1+·) (by cases l<;>rfl:Qk [] l=0)).trans (Nat.mul_one c)
theorem Dp(l p:List Nat)(h:Mx p=true):MS p=Qk p (1::l):=by
 cases p with
 |nil=>exact fT h
 |cons a p=>cases p with
  |nil=>exact(FP l a).symm
  |cons b p=>exact fT h
theorem Ks(l:List Nat)(x:Lx):x.w=true→Qk x.n (1::l)=x.e l:=by
 induction x with
 |v i=>intro _;exact Kr (i+1) (1::l)
 |k n=>intro _;exact FP l n
 |a x y ix iy=>intro h;have h:=yt.mp h;exact(Dq ..).trans (by rw[ix h.1,iy h.2];rfl)
 |m x y ix iy =>
  intro h
  have h:=yt.mp h
  have g:=yt.mp h.2
  refine(Do ..).trans ?_
  rw[Dp l _ g.2,iy g.1,ix h.1]
  exact Nat.mul_comm ..
 |r x y ix iy =>
  intro h
  have h:=yt.mp h
  have g:=yt.mp h.2
  refine(Do ..).trans ?_
  rw[Dp l _ g.2,ix g.1,iy h.1]
  rfl
 |s x ix=>intro h;exact(Dq ..).trans (by rw[ix h,FP];rfl)
noncomputable def Hl(x y:Lx):Bool:=x.w&&(y.w&&LL x.n y.n)
theorem ey{x y:Lx}(l:List Nat)(h:Hl x y=true):x.e l≤y.e l:=by
 have h:=yt.mp h
 have h2:=yt.mp h.2
 have:=Kt (1::l) _ _ h2.2
 rw[Ks l x h.1,Ks l y h2.1]at this
 exact this
theorem LR{x y p q:Nat}(a:x+q≤y+p)(h:p≤q):x≤y:=Nat.le_of_add_le_add_right (yv a (rN h y))
theorem Tg(c:Nat)(l:List Nat)(o:Hl (dL c 0) (dL c 1)=true):(dL c 0).e l≤(dL c 1).e l:=ey l o
theorem zN(c:Nat)(l:List Nat)(h1:(dL c 2).e l≤(dL c 3).e l)(o:Hl (.a (dL c 0) (dL c 3)) (.a (dL c 1) (dL c 2))=true):(dL c 0).e l≤(dL c 1).e l:=LR (ey l o) h1
theorem vB(c:Nat)(l:List Nat)(h1:(dL c 2).e l≤(dL c 3).e l)(h2:(dL c 4).e l≤(dL c 5).e l)(o:Hl (.a (dL c 0) (.a (dL c 3) (dL c 5))) (.a (dL c 1) (.a (dL c 2) (dL c 4)))=true):(dL c 0).e l≤(dL c 1).e l:=LR (ey l o) (uS h1 h2)
theorem dz(c:Nat)(l:List Nat)(h1:(dL c 2).e l≤(dL c 3).e l)(h2:(dL c 4).e l≤(dL c 5).e l)(h3:(dL c 6).e l≤(dL c 7).e l)(o:Hl (.a (dL c 0) (.a (dL c 3) (.a (dL c 5) (dL c 7)))) (.a (dL c 1) (.a (dL c 2) (.a (dL c 4) (dL c 6))))=true):(dL c 0).e l≤(dL c 1).e l:=LR (ey l o) (uS h1 (uS h2 h3))
theorem Oa(c:Nat)(l:List Nat)(h1:(dL c 2).e l≤(dL c 3).e l)(h2:(dL c 4).e l≤(dL c 5).e l)(h3:(dL c 6).e l≤(dL c 7).e l)(h4:(dL c 8).e l≤(dL c 9).e l)(o:Hl (.a (dL c 0) (.a (dL c 3) (.a (dL c 5) (.a (dL c 7) (dL c 9))))) (.a (dL c 1) (.a (dL c 2) (.a (dL c 4) (.a (dL c 6) (dL c 8)))))=true):(dL c 0).e l≤(dL c 1).e l:=LR (ey l o) (uS h1 (uS h2 (uS h3 h4)))
end
section
open PySem.W.Fast
noncomputable def bz(F:qc→eU→Option qc)(p:uW)(w:ya)(s:qc)(t:eU):Option qc:=
 match tw3805553451399329143 t with
  |some l=>(match l with
   |[]=>some s
   |_::_=>none)
  |none=>match tw10156331382660048174 (tw11892475500146522536 tw14364793385576792824) p w s t with
   |some st=>F st.1 st.2
   |none=>none
noncomputable def UD(p:uW)(w:ya):Nat→qc→eU→Option qc
 |0,_,_=>none
 |n+1,s,t=>bz (fun s t=>UD p w n s t) p w s t
theorem Qb:∀{n:Nat} {s s':qc} {t:eU},UD p w n s t=some s'→importEnds Wt p w n s.abs t=some s'.abs:=by
 intro l0
 induction l0 with
 |zero =>
  intro _ _ _ h
  exact nS h
 |succ n ih =>
  intro s s' t h
  replace h:bz (UD p w n) p w s t=_:=h
  delta bz at h
  rw[←te3805553451399329143,←te10156331382660048174,←te11892475500146522536,←te14364793385576792824]at h
  unfold importEnds
  cases ht:t.atExitBegin with
  |some l =>
   rw[ht]at h
   cases l with
   |nil=>(replace h:=zf h;subst h);rfl
   |cons a b=>exact nS h
  |none =>
   rw[ht]at h
   cases hs:stepT (denote Wt) p w s t with
   |none=>rw[hs]at h;exact nS h
   |some r =>
    obtain⟨s₂,t₂⟩:=r
    rw[hs]at h
    dsimp only at h ⊢
    exact zc (stepT_spec hs) (ih h)
noncomputable def aA(F:qc→eU→Option qc)(p:uW)(w:ya)(n₀:Nat)(ann:Option zi)(s:qc)(t:eU):Option qc:=
 match through t with
  |true=>some s
  |false=>match tw6613529449190102663 n₀ ann t with
   |false=>none
   |true=>match tw10156331382660048174 (tw11892475500146522536 tw14364793385576792824) p w s t with
    |some st=>F st.1 st.2
    |none=>none
noncomputable def Uq(p:uW)(w:ya)(n₀:Nat)(ann:Option zi):Nat→qc→eU→Option qc
 |0,_,_=>none
 |n+1,s,t=>aA (fun s t=>Uq p w n₀ ann n s t) p w n₀ ann s t
theorem TV:∀{n:Nat} {s s':qc} {t:eU},Uq p w n₀ ann n s t=some s'→topRun Wt p w n₀ ann n s.abs t=some s'.abs:=by
 intro l0
 induction l0 with
 |zero =>
  intro _ _ _ h
  exact nS h
 |succ n ih =>
  intro s s' t h
  replace h:aA (Uq p w n₀ ann n) p w n₀ ann s t=_:=h
  delta aA at h
  rw[←te6613529449190102663,←te10156331382660048174,←te11892475500146522536,←te14364793385576792824]at h
  unfold topRun
  cases ht:through t with
  |true=>rw[ht]at h;(replace h:=zf h;subst h);rfl
  |false =>
   rw[ht]at h
   cases hk:stepOk n₀ ann t with
   |false=>rw[hk]at h;exact nS h
   |true =>
    rw[hk]at h
    cases hs:stepT (denote Wt) p w s t with
    |none=>rw[hs]at h;exact nS h
    |some r =>
     obtain⟨s₂,t₂⟩:=r
     rw[hs]at h
     dsimp only at h ⊢
     exact zc (stepT_spec hs) (ih h)
noncomputable def TC:List xK→BT→Nat→Option BT
 |[],T,_=>some T
 |o::r,T,n=>match((T.ins n o).get n).isSome with
  |true=>TC r (T.ins n o) (n+1)
  |false=>none
theorem eB{o:xK}:TC (o::r) T n=match((T.ins n o).get n).isSome with
  |true=>TC r (T.ins n o) (n+1)
  |false=>none:=rfl
theorem bP:∀{l:List xK} {T T':BT} {n:Nat},TC l T n=some T' →
  Vb T' (n+l.length) life=⟨(Vb T n life).objs++l.toArray,life⟩:=by
 intro l0
 induction l0 with
 |nil =>
  intro T T' n h
  (replace h:=zf h;subst h);simp[Vb]
 |cons o r ih =>
  intro T T' n h
  rw[eB]at h
  cases hg:((T.ins n o).get n).isSome with
  |false=>rw[hg]at h;exact nS h
  |true =>
   rw[hg]at h
   have ih:=(ih h)
   refine zc (show n+(o::r).length=n+1+r.length by simp;(exact Eq.symm (Nat.succ_add_eq_add_succ n r.length))) (zc ih (zc (absHeap_ins hg) ?_))
   simp[Heap.push]
theorem jD(p:uW):(start p).1=Hq ⟨.nil,0,{},(start p).1.gens,(start p).1.drawn,(start p).1.toks,(start p).1.os⟩:=by
 refine(?_:rK _ _ _ _ _=rK (Vb .nil 0 {}) _ _ _ _)
 have:Vb .nil 0 {}=({}:xO):=by simp[Vb,BT.list]
 refine zc this ?_;rfl
noncomputable def CY(p q:uW)(loose mods:List Str)(Xt:zg→Bool)(Yf:zg→α)(g0:Bool)(N:Nat)(w:ya):=
 (UD (jp p) w N ⟨.nil,0,{},(tw1435165496053646825 (jp p)).1.gens,(tw1435165496053646825 (jp p)).1.drawn,(tw1435165496053646825 (jp p)).1.toks,(tw1435165496053646825 (jp p)).1.os⟩ (tw1435165496053646825 (jp p)).2).bind fun sA =>
 (tw14289696077712309145 p sA.abs).bind fun s₀=>(TC s₀.heap.objs.toList .nil 0).bind fun T=>bif s₀.heap.isNs eX&&s₀.gens.size==0 then
  (Uq p w s₀.heap.objs.size (tw8920871248978507458 s₀.heap eX "__annotations__") N ⟨T,s₀.heap.objs.size,s₀.heap.life,s₀.gens,s₀.drawn,s₀.toks,s₀.os⟩ (topStub p)).bind fun sB =>
   bif staticsOk mods s₀.heap sB.abs.heap&&namesBound p sB.abs.heap&&gensDone sB.abs&&laidKept s₀.heap sB.abs.heap then some (tw4187177175401517315 q loose mods Xt g0 sB.abs,Yf sB.abs)else none else none
theorem eE{b:Bool}{x:Option α}{y:α}(h:(bif b then x else none)=some y):b=true∧x=some y:=by
 cases b
 ·exact nS h
 ·exact⟨rfl,h⟩
theorem AH(h:∀w,CY p q loose (importedModules p.main.body) Xt Yf g0 N w=some (openGood q loose,Ya w)):LeftO p q loose Xt Yf Ya N g0:=by
 intro w
 have h:=h w
 unfold CY at h
 rw[←te1435165496053646825,←te14289696077712309145,←te4187177175401517315,←te8920871248978507458]at h
 refine zt (zl.mp h) fun sA hA h=>?_
 refine zt (zl.mp h) fun s₀ h0 h=>?_
 refine zt (zl.mp h) fun T hT h=>?_
 refine zK (eE h) fun hns h=>?_
 refine zt (zl.mp h) fun sB hB h=>?_
 refine zK (eE h) fun hok h=>?_
 have i1:=Qb hA
 have b1:=bP (life:=s₀.heap.life) hT
 have i2:=TV hB
 have e0:Hq ⟨T,s₀.heap.objs.size,s₀.heap.life,s₀.gens,s₀.drawn,s₀.toks,s₀.os⟩=s₀:=by
  have:Vb T s₀.heap.objs.size s₀.heap.life=s₀.heap:=by
   have b2:Vb T (0+s₀.heap.objs.toList.length) s₀.heap.life=⟨#[]++s₀.heap.objs.toList.toArray,s₀.heap.life⟩:=b1
   rw[vx,yS]at b2
   refine zc b2 ?_
   simp
  refine(?_:rK (Vb T s₀.heap.objs.size s₀.heap.life) s₀.gens s₀.drawn s₀.toks s₀.os=s₀)
  exact zc this rfl
 rw[e0]at i2
 have f:fencedOpening Wt p w N=some s₀:=by
  unfold fencedOpening
  refine zc (jD ..) (zc i1 ?_)
  exact h0
 have tf:topFrom Wt p w N s₀=some sB.abs:=by
  unfold topFrom
  refine zc hns (zc i2 ?_)
  show(match staticsOk (importedModules p.main.body) s₀.heap sB.abs.heap&&namesBound p sB.abs.heap&&gensDone sB.abs&&laidKept s₀.heap sB.abs.heap with
   |true=>some sB.abs
   |false=>none)=_
  exact zc hok rfl
 unfold openEnds
 refine zc f ((?_:lO _ (topFrom Wt p w N s₀)=_))
 exact zc tf h
end
section
noncomputable def XM:zi→Option zI
 |.ref a=>some a
 |_=>none
theorem Za(h:XM v=some a):v=.ref a:=by cases v<;>cases h;rfl
noncomputable def cI:zi→Option (Str×Nat)
 |.str s t=>some (s,t)
 |_=>none
theorem hZ(h:cI v=some p):v=.str p.1 p.2:=by cases v<;>cases h;rfl
noncomputable def u8(v:zi):Bool:=match v with
 |.none=>true
 |.type n=>n == "frame" || n == "dict" || n == "cell"
 |_=>false
structure Rho where
 ob:List zI
 op:List zI
def yH(X:List zI)(h h':xO):Prop:=∀a o,a∉X→h.get? a=some o→u8 o.cls=false→h'.get? a=some o
theorem yH.refl(X:List zI)(h:xO):yH X h h:=fun U U U e U=>e
theorem yH.trans(x:yH X h h')(y:yH X h' h''):yH X h h'':=fun a o n e m=>y a o n (x a o n e m) m
theorem yH.of_all(x:∀a o,h.get? a=some o→h'.get? a=some o):yH X h h':=fun a o U e U=>x a o e
inductive AV where
 |none
 |bool (b:Bool)
 |int (i:Int)
 |str (s:Str)
 |glob (v:zi)
 |list (l:List AV)
 |tup (l:List AV)
 |obj (i:Nat)
 |rng (n:Int)
 |dq
 |ext (P:xO→zi→Prop)
mutual
def y2(ρ:Rho)(h:xO):AV→zi→Prop
 |.none,v=>v=.none
 |.bool b,v=>v=.bool b
 |.int i,v=>∃t,v=.int i t
 |.str s,v=>∃t,v=.str s t
 |.glob g,v=>v=g
 |.list l,v=>∃a vs,v=.ref a∧a∉ρ.op∧h.IsList a ⟨vs⟩∧ConL ρ h l vs
 |.tup l,v=>∃a vs,v=.ref a∧a∉ρ.op∧h.IsTuple a ⟨vs⟩∧ConL ρ h l vs
 |.obj i,v=>∃a,ρ.ob[i]?=some a∧v=.ref a
 |.rng n,v=>∃a t u w,v=.ref a∧a∉ρ.op∧h.get? a=some {cls:=.type "range",data:=.fields #[.int 0 t,.int n u,.int 1 w]}
 |.dq,v=>∃a k,v=.ref a∧a∉ρ.op∧h.get? a=some {cls:=.type "collections.deque",data:=.fields #[.none,rawInt k]}
 |.ext P,v=>∀h',yH ρ.op h h'→P h' v
def ConL(ρ:Rho)(h:xO):List AV→List zi→Prop
 |[],vs=>vs=[]
 |a::l,vs=>∃v r,vs=v::r∧y2 ρ h a v∧ConL ρ h l r
end
section
variable {ρ:Rho} {h:xO} {v:zi}
theorem uo(c:y2 ρ h (.int i) v):∃t,v=.int i t:=c
theorem xm(c:y2 ρ h (.str i) v):∃t,v=.str i t:=c
theorem uc(c:y2 ρ h .none v):v=.none:=c
theorem WZ(c:y2 ρ h (.bool b) v):v=.bool b:=c
theorem wo(c:y2 ρ h (.glob g) v):v=g:=c
theorem gE(c:∃t,v=.int i t):y2 ρ h (.int i) v:=c
theorem Hk:ConL ρ h (a::l) vs=(∃v r,vs=v::r∧y2 ρ h a v∧ConL ρ h l r):=rfl
theorem Kz:ConL ρ h [] vs=(vs=[]):=rfl
theorem xY(c:y2 ρ h (.list l) v):∃a vs,v=.ref a∧a∉ρ.op∧h.IsList a ⟨vs⟩∧ConL ρ h l vs:=c
theorem Zw(c:y2 ρ h (.tup l) v):∃a vs,v=.ref a∧a∉ρ.op∧h.IsTuple a ⟨vs⟩∧ConL ρ h l vs:=c
theorem V1(c:∃a vs,v=.ref a∧a∉ρ.op∧h.IsList a ⟨vs⟩∧ConL ρ h l vs):y2 ρ h (.list l) v:=c
theorem gB(c:∃a vs,v=.ref a∧a∉ρ.op∧h.IsTuple a ⟨vs⟩∧ConL ρ h l vs):y2 ρ h (.tup l) v:=c
theorem Bs(c:y2 ρ h (.rng n) v):∃a t u w,v=.ref a∧a∉ρ.op∧h.get? a=some {cls:=.type "range",data:=.fields #[.int 0 t,.int n u,.int 1 w]}:=c
theorem gC(c:∃a t u w,v=.ref a∧a∉ρ.op∧h.get? a=some {cls:=.type "range",data:=.fields #[.int 0 t,.int n u,.int 1 w]}):y2 ρ h (.rng n) v:=c
theorem FU(c:y2 ρ h .dq v):∃a k,v=.ref a∧a∉ρ.op∧h.get? a=some {cls:=.type "collections.deque",data:=.fields #[.none,rawInt k]}:=c
theorem Q6(c:∃a k,v=.ref a∧a∉ρ.op∧h.get? a=some {cls:=.type "collections.deque",data:=.fields #[.none,rawInt k]}):y2 ρ h .dq v:=c
theorem ub(c:∃a,ρ.ob[i]?=some a∧v=.ref a):y2 ρ h (.obj i) v:=c
theorem gF(c:∀h',yH ρ.op h h'→P h' v):y2 ρ h (.ext P) v:=c
theorem uq(c:ConL ρ h (a::l) vs):∃v r,vs=v::r∧y2 ρ h a v∧ConL ρ h l r:=c
theorem qJ(c:∃v r,vs=v::r∧y2 ρ h a v∧ConL ρ h l r):ConL ρ h (a::l) vs:=c
end
structure Mv(ob ob' X Y:List zI)(h h':xO):Prop where
 ob:∀(i:Nat) (a:zI),ob[i]?=some a→ob'[i]?=some a
 mv:∀a o,a∉X→h.get? a=some o→u8 o.cls=false→a∉Y∧h'.get? a=some o
mutual
theorem y2.map(m:Mv ob ob' X Y h h'):∀{a:AV} {v:zi},y2 ⟨ob,X⟩ h a v→y2 ⟨ob',Y⟩ h' a v
 |.none,_,c=>c
 |.bool _,_,c=>c
 |.int _,_,c=>c
 |.str _,_,c=>c
 |.glob _,_,c=>c
 |.obj i,_,c=>ub (th (fun a h=>⟨m.ob i a h.1,h.2⟩) c)
 |.list l,_,c=>by
  refine x7 (xY c) fun a vs e no z4 hc=>?_;obtain⟨o,g,k,r⟩:=z4
  have q:=m.mv a o no g (by refine zc k ?_;rfl)
  exact V1 ⟨a,vs,e,q.1,⟨o,q.2,k,r⟩,ConL.map m hc⟩
 |.tup l,_,c=>by
  refine x7 (Zw c) fun a vs e no z4 hc=>?_;obtain⟨o,g,k,r⟩:=z4
  have q:=m.mv a o no g (by refine zc k ?_;rfl)
  exact gB ⟨a,vs,e,q.1,⟨o,q.2,k,r⟩,ConL.map m hc⟩
 |.rng n,_,c=>gC (th (fun U=>th fun U=>th fun U=>th fun U h=>⟨h.1,m.mv _ _ h.2.1 h.2.2 rfl⟩) (Bs c))
 |.dq,_,c=>Q6 (th (fun U=>th fun U h=>⟨h.1,m.mv _ _ h.2.1 h.2.2 rfl⟩) (FU c))
 |.ext P,_,c=>gF fun h'' y=>c h'' fun a o no e mu=>(m.mv a o no e mu).elim fun n g=>y a o n g mu
theorem ConL.map(m:Mv ob ob' X Y h h'):∀{l:List AV} {vs:List zi},ConL ⟨ob,X⟩ h l vs→ConL ⟨ob',Y⟩ h' l vs
 |[],_,c=>c
 |_::_,_,c=>qJ (th (fun U=>th fun U q=>⟨q.1,q.2.1.map m,q.2.2.map m⟩) (uq c))
end
theorem Mv.mono{ρ:Rho}{h h':xO}(x:yH ρ.op h h'):Mv ρ.ob ρ.ob ρ.op ρ.op h h':=⟨fun U U e=>e,fun a o n e m=>⟨n,x a o n e m⟩⟩
theorem y2.mono(x:yH ρ.op h h')(c:y2 ρ h a v):y2 ρ h' a v:=y2.map (Mv.mono x) c
theorem ConL.mono(x:yH ρ.op h h')(c:ConL ρ h l vs):ConL ρ h' l vs:=ConL.map (Mv.mono x) c
theorem ConL.length:∀{l:List AV} {vs:List zi},ConL ρ h l vs→vs.length=l.length
 |[],_,c=>by subst c;rfl
 |a::l,_,c=>by
  refine xk c fun v r z2 z3 hr=>?_;clear c;subst z2;clear z3
  exact zc zS (zc zS (zc hr.length rfl))
theorem ConL.append:∀{l l':List AV} {vs vs':List zi},ConL ρ h l vs→ConL ρ h l' vs'→ConL ρ h (l++l') (vs++vs'):=by
 intro l0
 induction l0 with
 |nil =>
  intro _ _ _ c c'
  subst c;exact c'
 |cons a l ih =>
  intro _ _ _ c c'
  refine xk c fun v r z2 hv hr=>?_;clear c;subst z2
  refine(?_:ConL ρ h (a::(l++_)) (v::(r++_)))
  exact⟨v,_,rfl,hv,(ih hr c')⟩
theorem ConL.get:∀{l:List AV} {vs:List zi},ConL ρ h l vs→∀{i:Nat} {a:AV},l[i]?=some a→∃v,vs[i]?=some v∧y2 ρ h a v:=by
 intro l0
 induction l0 with
 |nil =>
  intro _ _ i _ e
  simp at e
 |cons a l ih =>
  intro _ c i b e
  refine xk c fun v r z2 hv hr=>?_;clear c;subst z2
  cases i with
  |zero=>simp at e;subst e;exact⟨v,rfl,hv⟩
  |succ i=>simp at e;exact(ih hr e)
theorem yH.open(hb:∀b∈Y,h.get? b=none)(x:yH (Y++X) h h'):yH X h h':=fun a o n e m =>
 x a o (fun q=>by
  rcases zv.mp q with q|q
  ·rw[hb a q]at e;exact nS e
  ·exact n q) e m
theorem yH.close(hs:∀a∈X,a∈Y)(x:yH X h h'):yH Y h h':=fun a o n e m=>x a o (fun q=>n (hs a q)) e m
theorem y2.open(hb:∀b∈Y,h.get? b=none)(c:y2 ⟨ob,X⟩ h a v):y2 ⟨ob,Y++X⟩ h a v:=
 y2.map ⟨fun U U e=>e,fun a o n e U=>⟨fun q=>(zv.mp q).elim (fun q=>by rw[hb a q]at e;exact nS e) n,e⟩⟩ c
theorem y2.close(hs:∀a∈X,a∈Y)(c:y2 ⟨ob,Y⟩ h a v):y2 ⟨ob,X⟩ h a v:=y2.map ⟨fun U U e=>e,fun a U n e U=>⟨fun q=>n (hs a q),e⟩⟩ c
theorem ConL.close(hs:∀a∈X,a∈Y)(c:ConL ⟨ob,Y⟩ h l vs):ConL ⟨ob,X⟩ h l vs:=ConL.map ⟨fun U U e=>e,fun a U n e U=>⟨fun q=>n (hs a q),e⟩⟩ c
noncomputable def lk(x:Str):List (Str×α)→Option α
 |[]=>none
 |p::r=>bif zZ x p.1 then some p.2 else lk x r
theorem wQ{r:List (Str×α)}:lk x (p::r)=bif zZ x p.1 then some p.2 else lk x r:=rfl
theorem vE(x:Str):∀l:List (Str×α),lk x l=l.lookup x:=by
 intro l0
 induction l0 with
 |nil =>
  exact rfl
 |cons p r ih =>
  refine(?_:(bif zZ x p.1 then some p.2 else lk x r)=_)
  refine zc (ih) (zc yd (zc (show zZ x p.1=(x==p.1)by rw[tC,yk,beq_iff_eq]) ?_))
  cases x==p.1<;>rfl
end
section
noncomputable abbrev pw:uW:=PySem.Challenge.pw_aa0006_01
inductive AObj where
 |inst (C:zI) (fs:List (Str×AV))
 |dict (fs:List (Str×AV))
def vC(w:ya)(ρ:Rho)(h:xO):List (Str×AV)→List yE→Prop
 |[],es=>es=[]
 |p::fs,es=>∃t v r,es=⟨zz w.params p.1,.str p.1 t,v⟩::r∧y2 ρ h p.2 v∧vC w ρ h fs r
def qn(w:ya)(ρ:Rho)(h:xO)(a d:zI):AObj→Prop
 |.inst C fs=>h.get? a=some ⟨.ref C,some d,.plain,#[]⟩∧∃es n,h.get? d=some (tJ es n)∧vC w ρ h fs es
 |.dict fs=>a=d∧∃es n,h.get? d=some (tJ es n)∧vC w ρ h fs es
theorem vC.mono(x:yH ρ.op h h'):∀{fs:List (Str×AV)} {es:List yE},vC w ρ h fs es→vC w ρ h' fs es:=by
 intro l0
 induction l0 with
 |nil =>
  intro _ c
  exact c
 |cons p fs ih =>
  rintro _ ⟨t,v,r,e,hc,hr⟩
  exact⟨t,v,r,e,hc.mono x,(ih hr)⟩
structure Cx where
 w:ya
 A:y1
 env:Qx
 B:xO
 ρ:Rho
 δ:List zI
 oc:List zI
 fs:List zI
def uG(x:Cx)(a:zI):Prop:=a=x.env.locals∨a∈x.oc∨a∈x.δ
def Cf(x:Cx)(fr:List (Str×AV))(h:xO):Prop:=
 (∃mm,h.Ns x.env.locals mm∧∀n av,x.env.kindOf n=some .local→lk n fr=some av→∃v,mm n=some v∧y2 x.ρ h av v) ∧
 (∀n av,(x.env.kindOf n=some .cell∨x.env.kindOf n=some .free)→lk n fr=some av→∃c v,x.env.cells.lookup n=some c∧h.get? c=some {cls:=.type "cell",data:=.cell (some v)}∧y2 x.ρ h av v) ∧
 (∀n,(x.env.kindOf n=some .cell∨x.env.kindOf n=some .free)→∃c vo,x.env.cells.lookup n=some c∧h.get? c=some {cls:=.type "cell",data:=.cell vo})
noncomputable def um(o:xK):Bool:=match o.cls with
 |.type n=>n == "frame"
 |_=>false
def tu(o o':xK):Prop:=o'=o∨(um o=true∧∃sl,o'={o with slots:=sl})
theorem tu.refl(o:xK):tu o o:=.inl rfl
theorem tu.trans(x:tu a b)(y:tu b c):tu a c:=by
 rcases x with rfl|⟨h,sl,rfl⟩
 ·exact y
 ·rcases y with rfl|⟨h',sl',rfl⟩
  ·exact .inr ⟨h,sl,rfl⟩
  ·exact .inr ⟨h,sl',rfl⟩
theorem tu.eq(x:tu a b)(h:um a=false):b=a:=by
 rcases x with e|⟨h',-⟩
 ·exact e
 ·rw[h]at h';exact fT h'
theorem tu.data(x:tu a b):b.data=a.data:=by
 rcases x with rfl|⟨-,sl,rfl⟩<;>rfl
theorem tu.cls(x:tu a b):b.cls=a.cls:=by
 rcases x with rfl|⟨-,sl,rfl⟩<;>rfl
theorem WS(h:b.cls=a.cls):um b=um a:=by unfold um;exact zc h rfl
theorem WR(h:u8 o.cls=false):um o=false:=by
 unfold um
 generalize o.cls=c at h
 cases c with
 |type n=>exact(vr.mp (vr.mp h).1).1
 |_=>rfl
def gS(h:xO):Prop:=∃mc,h.Ns tX mc∧(mc "sys.recursionlimit" = none∧mc "thirdparty.any" = none)
theorem gS.no(x:gS h):h.NoLimit:=let⟨mc,p,q⟩:=x;⟨mc,p,q.1⟩
theorem gS.sameBut(x:gS h)(hs:yo a h h')(ha:tX≠a):gS h':=let⟨mc,p,q⟩:=x;⟨mc,p.sameBut hs ha,q⟩
theorem gS.keeps(x:gS h)(hk:∀b o,h.get? b=some o→h'.get? b=some o):gS h':=let⟨mc,p,q⟩:=x;⟨mc,p.keeps hk,q⟩
structure St(x:Cx)(fr:List (Str×AV))(H:List AObj)(s:zg):Prop where
 base:∀a o,x.B.get? a=some o→s.heap.get? a=some o
 apart:∀a,uG x a→x.B.get? a=none∧a≠tX
 kinds:∀a,uG x a→∃o,s.heap.get? a=some o∧u8 o.cls=true
 frame:Cf x fr s.heap
 objs:∀(i:Nat) (o:AObj),H[i]?=some o→∃a d,x.ρ.ob[i]?=some a∧x.δ[i]?=some d∧qn x.w x.ρ s.heap a d o
 lim:gS s.heap
 nodup:x.δ.Nodup
 own:x.env.locals∉x.δ∧∀c∈x.env.cells.map (·.2),c∉x.δ∧c≠x.env.locals
 cnod:(x.env.cells.map (·.2)).Nodup
 opn:∀a∈x.ρ.op,∃o,s.heap.get? a=some o
 ocs:∀c∈x.oc,c∈x.env.cells.map (·.2)
 ol:x.ρ.ob.length≤H.length
 cex:∀c∈x.env.cells.map (·.2),∃o,s.heap.get? c=some o
 frs:∀L∈x.fs,x.B.get? L=none∧L∉x.δ∧∃o es ep,s.heap.get? L=some o∧um o=true∧o.data=.dict es ep
structure Kept(x:Cx)(s s':zg):Prop where
 rest:∃h t d,s'={s with heap:=h,toks:=t,drawn:=d}
 keep:∀a o,s.heap.get? a=some o→¬uG x a→∃o',s'.heap.get? a=some o'∧tu o o'
theorem St.of_heap(S:St x fr H s)(h:s'.heap=s.heap):St x fr H s':=
 ⟨fun a o e=>h▸S.base a o e,S.apart,fun a t=>h▸S.kinds a t,h▸S.frame,fun i o e=>h▸S.objs i o e,h▸S.lim,S.nodup,S.own,S.cnod,fun a q=>h▸S.opn a q,S.ocs,S.ol,fun c q=>h▸S.cex c q,fun L q=>h▸S.frs L q⟩
theorem St.big(S:St x fr H s):tX<s.heap.objs.size:=let⟨_,p,_⟩:=S.lim;p.lt
theorem Kept.keepN(K:Kept x s s')(e:s.heap.get? a=some o)(n:¬uG x a)(h:um o=false):s'.heap.get? a=some o:=by
 refine zt (K.keep a o e n) fun o' e' q=>?_
 rw[q.eq h]at e';exact e'
theorem Kept.refl(x:Cx)(s:zg):Kept x s s:=⟨⟨_,_,_,rfl⟩,fun U o e U=>⟨o,e,.refl o⟩⟩
theorem Kept.trans(a:Kept x s s')(b:Kept x s' s''):Kept x s s'':=
 ⟨by(refine xd a.rest fun h t d z3=>?_;subst z3);(refine xd b.rest fun h' t' d' z3=>?_;subst z3);exact⟨h',t',d',rfl⟩,fun c o e n=>by
  exact zt (a.keep c o e n) fun o1 e1 q1=>zt (b.keep c o1 e1 n) fun o2 e2 q2=>⟨o2,e2,q1.trans q2⟩⟩
theorem St.nonMut(S:St x fr H s)(K:Kept x s s'):yH x.ρ.op s.heap s'.heap:=fun a o U e m =>
 K.keepN e (fun t=>by
  refine zt (S.kinds a t) fun o' h' m'=>?_
  rw[e]at h';(replace h':=zf h';subst h');rw[m]at m';exact fT m') (WR m)
structure Ext(s s':zg):Prop where
 rest:∃h t d,s'={s with heap:=h,toks:=t,drawn:=d}
 keep:∀a o,s.heap.get? a=some o→s'.heap.get? a=some o
theorem Ext.refl(s:zg):Ext s s:=⟨⟨_,_,_,rfl⟩,fun U U e=>e⟩
theorem Ext.toks(s:zg)(t:Nat):Ext s {s with toks:=t}:=⟨⟨_,_,_,rfl⟩,fun U U e=>e⟩
theorem Ext.push(s:zg)(o:xK)(t:Nat):Ext s {s with heap:=s.heap.push o,toks:=t}:=⟨⟨_,_,_,rfl⟩,fun U U e=>zq _ e⟩
theorem Ext.trans(a:Ext s s')(b:Ext s' s''):Ext s s'':=
 ⟨by(refine xd a.rest fun h t d z3=>?_;subst z3);(refine xd b.rest fun h' t' d' z3=>?_;subst z3);exact⟨h',t',d',rfl⟩,fun c o e=>b.keep c o (a.keep c o e)⟩
theorem Ext.kept(a:Ext s s')(x:Cx):Kept x s s':=⟨a.rest,fun c o e U=>⟨o,a.keep c o e,.refl o⟩⟩
theorem Ext.nonMut(a:Ext s s'):yH X s.heap s'.heap:=fun c o U e U=>a.keep c o e
theorem Ext.heap(k:∀b o,s.heap.get? b=some o→h'.get? b=some o):Ext s {s with heap:=h',toks:=t}:=⟨⟨_,_,_,rfl⟩,k⟩
theorem qn.ext(k:∀b o,h.get? b=some o→h'.get? b=some o):∀{o:AObj},qn w ρ h a d o→qn w ρ h' a d o
 |.inst _ _,⟨x,es,n,y,z⟩=>⟨k _ _ x,es,n,k _ _ y,z.mono fun b o U e U=>k b o e⟩
 |.dict _,⟨x,es,n,y,z⟩=>⟨x,es,n,k _ _ y,z.mono fun b o U e U=>k b o e⟩
theorem Cf.ext(k:∀b o,h.get? b=some o→h'.get? b=some o)(F:Cf x fr h):Cf x fr h':=by
 refine yU F fun z0 c c2=>?_;obtain⟨mm,n,f⟩:=z0
 have nm:yH x.ρ.op h h':=fun b o U e U=>k b o e
 refine⟨⟨mm,n.keeps k,fun y av e q=>?_⟩,fun y av e q=>?_,fun y e=>?_⟩
 ·refine zt (f y av e q) fun v a b=>?_;exact⟨v,a,b.mono nm⟩
 ·refine xk (c y av e q) fun cc v a b d=>?_;exact⟨cc,v,a,k _ _ b,d.mono nm⟩
 ·refine yW (c2 y e) fun cc v a b=>?_;exact⟨cc,v,a,k _ _ b⟩
theorem St.ext(S:St x fr H s)(K:Ext s s'):St x fr H s' where
 base a o e:=K.keep a o (S.base a o e)
 apart:=S.apart
 kinds a t:=let⟨o,h,m⟩:=S.kinds a t;⟨o,K.keep a o h,m⟩
 frame:=S.frame.ext K.keep
 objs i o e:=let⟨a,d,p,q,r⟩:=S.objs i o e;⟨a,d,p,q,r.ext K.keep⟩
 lim:=S.lim.keeps K.keep
 nodup:=S.nodup
 own:=S.own
 cnod:=S.cnod
 opn a q:=let⟨o,h⟩:=S.opn a q;⟨o,K.keep a o h⟩
 ocs:=S.ocs
 ol:=S.ol
 cex c q:=let⟨o,h⟩:=S.cex c q;⟨o,K.keep c o h⟩
 frs L q:=let⟨a,b,o,es,ep,h,r⟩:=S.frs L q;⟨a,b,o,es,ep,K.keep L o h,r⟩
def zL(x:Cx)(fr:List (Str×AV))(H:List AObj)(t:VL zi)(k:AV→List AObj→Prop):Prop:=
 ∀s,St x fr H s→∀(Q:zi→zg→Prop) (E:zi→zg→Prop),(∀v a H' s',k a H'→y2 x.ρ s'.heap a v→St x fr H' s'→Kept x s s'→Q v s')→zr (zu pw x.w) x.A t Q E s
def xe(x:Cx)(fr:List (Str×AV))(H:List AObj)(t:VL Bool)(k:Bool→List AObj→Prop):Prop:=
 ∀s,St x fr H s→∀(Q:Bool→zg→Prop) (E:zi→zg→Prop),(∀b H' s',k b H'→St x fr H' s'→Kept x s s'→Q b s')→zr (zu pw x.w) x.A t Q E s
section
variable {x:Cx} {fr:List (Str×AV)} {H:List AObj} {k:AV→List AObj→Prop}
theorem zL.const_none(h:k .none H):zL x fr H (zR (.Constant .none q pos) x.env) k:=
 fun s S Q U f=>wpAny_pure (f .none .none H s h (by rfl) S (Kept.refl _ _))
theorem zL.const_bool(h:k (.bool b) H):zL x fr H (zR (.Constant (.bool b) q pos) x.env) k:=
 fun s S Q U f=>wpAny_pure (f (.bool b) (.bool b) H s h (by rfl) S (Kept.refl _ _))
theorem zL.const_int(h:k (.int i) H):zL x fr H (zR (.Constant (.int i) q pos) x.env) k:=
 fun s S Q U f=>wpAny_Constant_int (f _ (.int i) H _ h (by exact⟨_,rfl⟩) (S.ext (Ext.toks s _)) ((Ext.toks s _).kept x))
theorem zL.const_str(h:k (.str i) H):zL x fr H (zR (.Constant (.str i) q pos) x.env) k:=
 fun s S Q U f=>Yt (f _ (.str i) H _ h (by exact⟨_,rfl⟩) (S.ext (Ext.toks s _)) ((Ext.toks s _).kept x))
theorem zL.name_local(hk:x.env.scope.kind=.function)(hl:x.env.kindOf n=some .local)(e:lk n fr=some av)(hd:(n==("__debug__" : Str))=false)(h:k av H):
  zL x fr H (zR (.Name n pos) x.env) k:=fun s S Q E f=>by
 refine yU S.frame fun z0 z1 z2=>?_;obtain⟨mm,hn,g⟩:=z0;clear z1;clear z2
 exact zt (g n av hl e) fun v hv c=>k9 (Ud hk hl hn hv (f v av H s h c S (Kept.refl _ _))) hd
theorem zL.name_cell(hk:x.env.scope.kind=.function)(hl:x.env.kindOf n=some .cell∨x.env.kindOf n=some .free)(e:lk n fr=some av)(hd:(n==("__debug__" : Str))=false)(hc:(n==("__classdict__" : Str))=false)(h:k av H):
  zL x fr H (zR (.Name n pos) x.env) k:=fun s S Q E f=>by
 exact xk (S.frame.2.1 n av hl e) fun c v hc1 hc2 cn=>k9 (hl.elim (fun hl=>PySem.wpAny_loadName_cell hk hl hc1 ⟨_,hc2,rfl⟩ (f v av H s h cn S (Kept.refl _ _))) fun hl=>PySem.wpAny_loadName_free hk hl hc1 ⟨_,hc2,rfl⟩ (f v av H s h cn S (Kept.refl _ _)) hc) hd
end
end
section
theorem bk:ut (.type "collections.deque") "__bool__" = pure none:=by refine zc (uD ..) (zc wz ?_);kernel_rfl
theorem qY:Slot "collections.deque" "__len__" "collections.deque.__len__" :=
 .of (owner := "collections.deque") (n := "__len__") (by refine zc (uD ..) (zc wz ?_);kernel_rfl) (by decide +kernel) (by decide +kernel) (by decide +kernel)
  (by first|exact .inl (by decide +kernel)|exact .inr (by decide +kernel)) (by refine zc (YF ..) ?_;kernel_rfl)
theorem V8:YG lb "collections.deque.__len__" = some Builtin.«collections.deque.__len__»:=entryFor_of_fast ⋯
theorem TG(a:zi):Ui "collections.deque.__len__" ⟨[a],[]⟩:=by unfold Ui;kernel_rfl
section
variable {prog:uW} {w:ya} {A:y1} {E:zi→zg→Prop} {s:zg} {a:zI} {k:Int}
theorem Ti{Q:zi→zg→Prop}(hl:s.heap.get? a=some {cls:=.type "collections.deque",data:=.fields #[.none,rawInt k]})(h:Q (.int 0 (s.toks+1)) {s with toks:=s.toks+1+1}):zr (zu prog w) A (Builtin.«len» ⟨[.ref a],[]⟩) (fun fin s'=>∃r,fin=.done (.ret r)∧Q r s') E s:=by
 have hT:s.TypeIs (.ref a) "collections.deque" := ⟨_,hl,rfl⟩
 unfold Builtin.«len»
 refine zb (m:=oneArg "len" _) (wpAny_pure ?_)
 refine zb (m:=callSpecial? (.ref a) (za "__len__")) (Ws (name:=za "__len__") hT qY
  (Zn qY hT V8 ?_ (TG _)))
 unfold Builtin.«collections.deque.__len__»
 refine zb (m:=slotArgs "__len__" 0 ⟨[yJ a],[]⟩) (x8 (a:=(yJ a,[])) (by rfl) ?_)
 unfold Builtin.Deque.size lg
 refine zb (zb (zb (wpAny_load hl (wpAny_pure (wpAny_pure ?_)))))
 refine zb (wpAny_mkInt (wpAny_pure ⟨_,rfl,?_⟩))
 refine zb (zV (wpAny_pure ?_))
 refine zb (GZ ?_)
 refine(?_:zr _ _ (if((0:Nat):Int)<0 then _ else _) _ _ _)
 refine zc (if_neg (by omega)) ((?_:zr _ _ (if((0:Nat):Int) ≥ 2^63 then _ else _) _ _ _))
 exact zc (if_neg (by omega)) (zb (wpAny_mkInt (wpAny_pure ⟨_,rfl,h⟩)))
theorem ay{Q:Bool→zg→Prop}(hl:s.heap.get? a=some {cls:=.type "collections.deque",data:=.fields #[.none,rawInt k]})(h:Q false {s with toks:=s.toks+1+1}):zr (zu prog w) A (truthy (.ref a)) Q E s:=by
 have hT:s.TypeIs (.ref a) "collections.deque" := ⟨_,hl,rfl⟩
 have key:zr (zu prog w) A (runValue (.builtin "len" ⟨[.ref a],[]⟩)) (fun r s'=>r=.int 0 (s.toks+1)∧Q false s') E s:=by
  refine k7 (codeAny_builtin entry_len ?_)
  refine zc (vk plain_len _) ?_
  exact wE (Ti (Q:=fun r s'=>r=.int 0 (s.toks+1)∧Q false s') hl ⟨rfl,h⟩)
   (fun fin s' h'=>by(refine zt h' fun r z1 hq=>?_;clear h';subst z1);exact hq) fun U U e=>e
 unfold truthy
 refine zb (wpAny_callSpecial?_none (name:=za "__bool__") hT bk ?_)
 refine zb (wpAny_specialOf (name:=za "__len__") hT qY.lookup ?_)
 exact zb (wE key (fun r s' h'=>by(refine zK h' fun z0 hq=>?_;clear h';subst z0);exact wpAny_pure hq) fun U U e=>e)
end
end
section
def yD(c:Bool)(X:Prop):Prop:=match c with
 |true=>X
 |false=>False
theorem yg(h:yD c X):c=true∧X:=by
 cases c with
 |true=>exact⟨rfl,h⟩
 |false=>exact h.elim
theorem y7(e:c=true)(h:X):yD c X:=by subst e;exact h
section
variable {ρ:Rho}
theorem Zd(i:Int)(t:Tok):y2 ρ h (.int i) (.int i t):=by exact⟨t,rfl⟩
theorem vO(i:Str)(t:Tok):y2 ρ h (.str i) (.str i t):=by exact⟨t,rfl⟩
theorem Zv(b:Bool):y2 ρ h (.bool b) (.bool b):=by rfl
theorem Yh:y2 ρ h .none .none:=by rfl
theorem Uz(v:zi):y2 ρ h (.glob v) v:=by rfl
theorem Yi(no:a∉ρ.op)(e:h.get? a=some {cls:=.type "list",data:=.seq ⟨vs⟩ n})(c:ConL ρ h l vs):y2 ρ h (.list l) (.ref a):=by exact⟨a,vs,rfl,no,⟨_,e,rfl,n,rfl⟩,c⟩
theorem IX(no:a∉ρ.op)(e:h.IsList a ⟨vs⟩)(c:ConL ρ h l vs):y2 ρ h (.list l) (.ref a):=by exact⟨a,vs,rfl,no,e,c⟩
theorem oh(no:a∉ρ.op)(e:h.get? a=some {cls:=.type "tuple",data:=.seq ⟨vs⟩ n})(c:ConL ρ h l vs):y2 ρ h (.tup l) (.ref a):=by exact⟨a,vs,rfl,no,⟨_,e,rfl,n,rfl⟩,c⟩
end
def xW(o:Option α)(f:α→Prop):Prop:=match o with
 |some a=>f a
 |none=>False
theorem xz(h:xW o f):∃a,o=some a∧f a:=by
 cases o with
 |none=>exact h.elim
 |some a=>exact⟨a,rfl,h⟩
def bf(l:List α)(f:α→Prop):Prop:=match l with
 |[]=>False
 |a::r=>(match r with
  |[]=>f a
  |_::_=>False)
theorem qF(h:bf l f):∃a,l=[a]∧f a:=by
 cases l with
 |nil=>exact h.elim
 |cons a r=>cases r with
  |nil=>exact⟨a,rfl,h⟩
  |cons _ _=>exact h.elim
def ZE(o:Option AObj)(f:zI→List (Str×AV)→Prop):Prop:=match o with
 |none=>False
 |some o=>(match o with
  |.inst C fs=>f C fs
  |.dict _=>False)
theorem qT(h:ZE o f):∃C fs,o=some (.inst C fs)∧f C fs:=by
 cases o with
 |none=>exact h.elim
 |some o=>cases o with
  |inst C fs=>exact⟨C,fs,rfl,h⟩
  |dict _=>exact h.elim
def ds(l:List α)(P:Prop):Prop:=match l with
 |[]=>P
 |_::_=>False
theorem Xj(h:ds l P):l=[]∧P:=by
 cases l with
 |nil=>exact⟨rfl,h⟩
 |cons _ _=>exact h.elim
def fP(a:AV)(f:Nat→Prop):Prop:=match a with
 |.obj i=>f i
 |_=>False
theorem Xi(h:fP a f):∃i,a=.obj i∧f i:=by
 cases a with
 |obj i=>exact⟨i,rfl,h⟩
 |_=>exact h.elim
def ZV(a:AV)(f:Int→Prop):Prop:=match a with
 |.int i=>f i
 |_=>False
def Zc(a:AV)(f:Str→Prop):Prop:=match a with
 |.str i=>f i
 |_=>False
def bg(a:AV)(f:List AV→Prop):Prop:=match a with
 |.list i=>f i
 |_=>False
def bh(a:AV)(f:zi→Prop):Prop:=match a with
 |.glob i=>f i
 |_=>False
def fO(a:AV)(f:Option Str→Prop):Prop:=match a with
 |.str i=>f (some i)
 |.none=>f none
 |_=>False
def Yb(a b:AV)(f:Int→Int→Prop):Prop:=ZV a fun i=>ZV b fun j=>f i j
def nQ(a b:AV)(f:Str→Str→Prop):Prop:=Zc a fun i=>Zc b fun j=>f i j
section
variable {ρ:Rho} {a b:AV} {va vb:zi} {hp:xO}
theorem WK(h:ZV a f):∃i,a=.int i∧f i:=by
 cases a with
 |int i=>exact⟨i,rfl,h⟩
 |_=>exact h.elim
theorem U4(h:Zc a f):∃i,a=.str i∧f i:=by
 cases a with
 |str i=>exact⟨i,rfl,h⟩
 |_=>exact h.elim
theorem ul(h:ZV a f)(c:y2 ρ hp a va):∃i t,va=.int i t∧f i:=by
 refine zt (WK h) fun i z1 h=>?_;subst z1
 exact(uo c).elim fun t e=>⟨i,t,e,h⟩
theorem u6(h:Zc a f)(c:y2 ρ hp a va):∃i t,va=.str i t∧f i:=by
 refine zt (U4 h) fun i z1 h=>?_;subst z1
 exact(xm c).elim fun t e=>⟨i,t,e,h⟩
theorem Vo(h:bg a f):∃l,a=.list l∧f l:=by
 cases a with
 |list l=>exact⟨l,rfl,h⟩
 |_=>exact h.elim
theorem Wf(h:bh a f)(c:y2 ρ hp a va):f va:=by
 cases a with
 |glob g=>refine zc (wo c) ?_;exact h
 |_=>exact h.elim
theorem U5(h:fO a f)(c:y2 ρ hp a va):(∃i t,va=.str i t∧f (some i))∨(va=.none∧f none):=by
 cases a with
 |str i=>refine yf (xm c) fun t e=>?_;exact .inl ⟨i,t,e,h⟩
 |none=>exact .inr ⟨uc c,h⟩
 |_=>exact h.elim
theorem v8(h:Yb a b f)(ca:y2 ρ hp a va)(cb:y2 ρ hp b vb):∃i t j u,va=.int i t∧vb=.int j u∧f i j:=by
 exact yW (ul h ca) fun i t e h=>yW (ul h cb) fun j u e' h=>⟨i,t,j,u,e,e',h⟩
theorem We(h:nQ a b f)(ca:y2 ρ hp a va)(cb:y2 ρ hp b vb):∃i t j u,va=.str i t∧vb=.str j u∧f i j:=by
 exact yW (u6 h ca) fun i t e h=>yW (u6 h cb) fun j u e' h=>⟨i,t,j,u,e,e',h⟩
end
def Ua(op:Operator)(a b:AV)(k:AV→Prop):Prop:=
 match op with
 |.Add=>(match a with
  |.int a=>ZV b fun b=>k (.int (a+b))
  |.str a=>Zc b fun b=>a.length+b.length≤sizeLine∧k (.str (a++b))
  |.list a=>bg b fun b=>a.length+b.length≤sizeLine∧k (.list (a++b))
  |_=>False)
 |.Sub=>Yb a b fun a b=>k (.int (a-b))
 |.FloorDiv=>Yb a b fun a b=>yD (decide (b≠0)&&decide (b.natAbs<1073741824)) (k (.int (a.fdiv b)))
 |.Mod=>Yb a b fun a b=>yD (decide (b≠0)) (k (.int (a.fmod b)))
 |.Pow=>Yb a b fun a n=>(0≤n∧(cx a:Int)*n≤2^27)∧k (.int (a^n.toNat))
 |_=>False
noncomputable def tj(a b:Str):Bool:=a.cps.toList==b.cps.toList
theorem ZS:tj a b=true↔a=b:=by
 unfold tj
 rw[beq_iff_eq]
 exact⟨fun h=>Vc (CD.mp h),fun h=>by exact zc h rfl⟩
noncomputable def po(y:Str):List AV→Option Bool
 |[]=>some false
 |a::r=>(match a with
  |.str s=>(po y r).map fun b=>tj s y||b
  |_=>none)
def JV(y:Str)(b:AV)(k:Bool→Prop):Prop:=match b with
 |.str x=>k (Txt.contains x y)
 |.tup l=>xW (po y l) k
 |_=>False
def Nv(a:AV)(k:Bool→Prop):Prop:=match a with
 |.none=>k true
 |.bool _|.int _|.str _|.list _|.tup _|.obj _=>k false
 |_=>False
def MQ(a b:AV)(k:Bool→Prop):Prop:=match b with
 |.none=>Nv a k
 |.glob w=>bh a fun v=>yD (plainIs v w) (k (v==w))
 |_=>False
def Nx(a:Str)(k:Bool→Prop)(b:Option Str):Prop:=match b with
 |some b=>k (tj a b)
 |none=>k false
def M4(a b:AV)(k:Bool→Prop):Prop:=match a with
 |.int a=>ZV b fun b=>k (a==b)
 |.str a=>fO b (Nx a k)
 |.none=>fO b fun b=>k b.isNone
 |_=>False
def bM(op:CmpOp)(a b:AV)(k:Bool→Prop):Prop:=
 match op with
 |.Eq=>M4 a b k
 |.NotEq=>M4 a b fun c=>k (!c)
 |.Lt=>Yb a b fun a b=>k (decide (a<b))
 |.LtE=>Yb a b fun a b=>k (decide (a≤b))
 |.Gt=>Yb a b fun a b=>k (decide (a>b))
 |.GtE=>Yb a b fun a b=>k (decide (a ≥ b))
 |.In=>Zc a fun y=>JV y b k
 |.NotIn=>nQ a b fun y x=>k (!Txt.contains x y)
 |.Is=>MQ a b k
 |.IsNot=>MQ a b fun c=>k (!c)
def YP(a:AV)(k:Bool→Prop):Prop:=
 match a with
 |.none=>k false
 |.bool b=>k b
 |.int i=>k (i != 0)
 |.str s=>yD (decide (s.length≤sizeLine)) (k ((s.length:Int) != 0))
 |.list l=>yD (decide (l.length≤sizeLine)) (k (!l.isEmpty))
 |.dq=>k false
 |_=>False
section
variable {w:ya} {A:y1} {E:zi→zg→Prop} {s:zg} {ρ:Rho} {a b:AV} {va vb:zi}
theorem VT:(sizeLine:Int)<2^63:=by refine zc zy ?_;decide
theorem Zi{h:xO}{X:List zI}(o:∀a∈X,∃o,h.get? a=some o):h.objs.size∉X:=fun q=>by
 exact yf (o _ q) fun ob e=>absurd (zY e) (yI _)
theorem sS{x y:Str}(h:x.length=0):x++y=y:=by
 have:x=ym:=Vc (TN h)
 exact zc this (zc (Str.empty_append ..) rfl)
theorem B6{x y:Str}(h:y.length=0):x++y=x:=Vc (by exact zc (Vd ..) (zc (TN h) (zc Array.append_empty rfl)))
theorem Wo(hop:∀a∈ρ.op,∃o,s.heap.get? a=some o){op:Operator}{k:AV→Prop}{Q:zi→zg→Prop}(h:Ua op a b k)(ca:y2 ρ s.heap a va)(cb:y2 ρ s.heap b vb)(f:∀v c s',k c→y2 ρ s'.heap c v→Ext s s'→Q v s'):zr (zu pw w) A (binaryOp op va vb) Q E s:=by
 cases op with
 |Add =>
  cases a with
  |int i =>
   (refine yf (uo ca) fun t z1=>?_;subst z1);(refine yW (ul h cb) fun j u z2 h=>?_;subst z2)
   exact PySem.P.add_int (f _ _ _ h (Zd _ _) (Ext.toks _ _))
  |str x =>
   (refine yf (xm ca) fun t z1=>?_;subst z1);(refine yW (u6 h cb) fun y u z2 h=>?_;subst z2)
   refine PySem.P.add_str ?_
   by_cases e:x.length=0
   ·refine zc (if_pos (by simpa using e)) ?_
    rw[sS e]at h
    exact f _ _ _ h.2 (vO _ _) (Ext.refl _)
   ·refine zc (if_neg (by simpa using e)) ?_
    by_cases e':y.length=0
    ·refine zc (if_pos (by simpa using e')) ?_
     rw[B6 e']at h
     exact f _ _ _ h.2 (vO _ _) (Ext.refl _)
    ·refine zc (if_neg (by simpa using e')) ?_
     exact⟨by refine zc (ye ..) ?_;exact h.1,f _ _ _ h.2 (vO _ _) (Ext.toks _ _)⟩
  |list l =>
   refine zt (Vo h) fun r z1 h=>?_;subst z1
   (refine x7 (xY ca) fun p vs z2 z3 z4 cl=>?_;subst z2;clear z3;obtain⟨⟨_,dd,_,sl⟩,ho,rfl,n,rfl⟩:=z4);(refine x7 (xY cb) fun q ws z2 z3 z4 cr=>?_;subst z2;clear z3;obtain⟨⟨_,dd2,_,sl2⟩,ho2,rfl,n2,rfl⟩:=z4)
   have nm:yH ρ.op s.heap (s.heap.push {cls:=.type "list",data:=.seq (⟨vs⟩++⟨ws⟩)}):=fun a o U e U=>zq _ e
   refine concat_meets ⟨_,ho,rfl⟩ ⟨_,ho2,rfl⟩ noFill_list_add seq_list_add PySem.F.slot_list_add PySem.F.entry_list_add (PySem.F.args_list_add_2 _ _) (list_addW p q ⟨vs⟩ ⟨ws⟩ n n2 dd dd2 sl sl2 ?_) ⟨ho,ho2,f _ _ _ h.2 (Yi (n:=0) (vs:=vs++ws) (Zi hop) ?_ ((cl.append cr).mono nm)) (Ext.push _ _ _)⟩
   ·refine(?_:vs.length+ws.length≤_)
    refine zc cl.length (zc cr.length ?_);exact h.1
   ·refine zc (zx _ rfl) ?_;simp
  |_=>exact h.elim
 |Sub =>
  refine xd (v8 h ca cb) fun i t j z3=>?_;refine wO z3 fun u z5 z6 h=>?_;clear z3;subst z5;subst z6
  exact PySem.P.sub_int (f _ _ _ h (Zd _ _) (Ext.toks _ _))
 |FloorDiv =>
  refine xd (v8 h ca cb) fun i t j z3=>?_;refine wO z3 fun u z5 z6 h=>?_;clear z3;subst z5;subst z6
  refine zK (yg h) fun h1 h2=>?_
  have h1:=yt.mp h1
  exact floordiv_int (of_decide_eq_true h1.1) (f _ _ _ h2 (Zd _ _) (Ext.toks _ _)) (.inl (PyProof.noPylong_small (of_decide_eq_true h1.2)))
 |Mod =>
  refine xd (v8 h ca cb) fun i t j z3=>?_;refine wO z3 fun u z5 z6 h=>?_;clear z3;subst z5;subst z6
  exact zK (yg h) fun h1 h2=>mod_int' (of_decide_eq_true h1) (f _ _ _ h2 (Zd _ _) (Ext.toks _ _))
 |Pow =>
  refine xd (v8 h ca cb) fun i t j z3=>?_;refine wO z3 fun u z5 z6 h=>?_;clear z3;subst z5;subst z6
  exact pow_int h.1.1 h.1.2 (f _ _ _ h.2 (Zd _ _) (Ext.toks _ _))
 |_=>exact h.elim
theorem gm:∀{l:List AV} {vs:List zi} {b:Bool},po y l=some b→ConL ρ h l vs→∃ss,StrsAre vs ss∧ss.any (·==y)=b:=by
 intro l0
 induction l0 with
 |nil =>
  intro _ _ e c
  subst c;(replace e:=zf e;subst e);exact⟨[],.nil,rfl⟩
 |cons a l ih =>
  intro _ b e c
  refine xk c fun v r z2 hv hr=>?_;clear c;subst z2
  cases a with
  |str s =>
   refine yf (xm hv) fun t z1=>?_;subst z1
   refine zt (yz.mp e) fun b' e' z2=>?_;subst z2
   refine zt ((ih e' hr)) fun ss h1 h2=>⟨s::ss,.cons s t h1,?_⟩
   refine zc List.any_cons (zc h2 ?_)
   congr 1
   rw[tC,ZS,beq_iff_eq]
  |_=>exact nS e
theorem A5(h:Nv a k)(ca:y2 ρ s.heap a va):(va=.none∧k true)∨(va≠.none∧k false):=by
 cases a with
 |none=>exact .inl ⟨uc ca,h⟩
 |bool b=>exact .inr ⟨fun z=>(by rw[WZ ca]at z;cases z),h⟩
 |int i=>refine yf (uo ca) fun t e=>?_;exact .inr ⟨fun z=>(by rw[e]at z;cases z),h⟩
 |str i=>refine yf (xm ca) fun t e=>?_;exact .inr ⟨fun z=>(by rw[e]at z;cases z),h⟩
 |list l=>(refine yW (xY ca) fun p vs e z3=>?_;clear z3);exact .inr ⟨fun z=>(by rw[e]at z;cases z),h⟩
 |tup l=>(refine yW (Zw ca) fun p vs e z3=>?_;clear z3);exact .inr ⟨fun z=>(by rw[e]at z;cases z),h⟩
 |obj i=>(refine zt ca fun p z1 e=>?_;clear ca;clear z1);exact .inr ⟨fun z=>(by rw[e]at z;cases z),h⟩
 |_=>exact h.elim
theorem i5(h:MQ a b k)(ca:y2 ρ s.heap a va)(cb:y2 ρ s.heap b vb):(vb=.none∧((va=.none∧k true)∨(va≠.none∧k false)))∨(plainIs va vb=true∧k (va==vb)):=by
 cases b with
 |none=>exact .inl ⟨uc cb,A5 h ca⟩
 |glob w =>
  exact zc (wo cb) (.inr (yg (Wf h ca)))
 |_=>exact h.elim
theorem jc(h:M4 a b k)(ca:y2 ρ s.heap a va)(cb:y2 ρ s.heap b vb):(∃i t j u,va=.int i t∧vb=.int j u∧k (i==j))∨(∃i t j u,va=.str i t∧vb=.str j u∧k (tj i j)) ∨
  (∃i t,va=.str i t∧vb=.none∧k false)∨(∃i t,va=.none∧vb=.str i t∧k false)∨(va=.none∧vb=.none∧k true):=by
 cases a with
 |int i=>refine yf (uo ca) fun t e=>?_;refine yW (ul h cb) fun j u e' h=>?_;exact .inl ⟨i,t,j,u,e,e',h⟩
 |str i =>
  refine yf (xm ca) fun t e=>?_
  rcases U5 (f:=Nx i k) h cb with⟨j,u,e',h⟩|⟨e',h⟩
  ·exact .inr (.inl ⟨i,t,j,u,e,e',h⟩)
  ·exact .inr (.inr (.inl ⟨i,t,e,e',h⟩))
 |none =>
  rcases U5 (f:=fun b=>k b.isNone) h cb with⟨j,u,e',h⟩|⟨e',h⟩
  ·exact .inr (.inr (.inr (.inl ⟨j,u,uc ca,e',h⟩)))
  ·exact .inr (.inr (.inr (.inr ⟨uc ca,e',h⟩)))
 |_=>exact h.elim
theorem tR(h:bM op a b k)(ca:y2 ρ s.heap a va)(cb:y2 ρ s.heap b vb)(f:∀c,k c→Q (.bool c) s):zr (zu pw w) A (compareOp op va vb) Q E s:=by
 cases op with
 |Eq =>
  rcases jc h ca cb with⟨i,t,j,u,rfl,rfl,h⟩|⟨i,t,j,u,rfl,rfl,h⟩|⟨i,t,rfl,rfl,h⟩|⟨i,t,rfl,rfl,h⟩|⟨rfl,rfl,h⟩
  ·exact PySem.P.eq_int (f _ h)
  ·exact PySem.P.eq_str (f _ h)
  ·exact EqNone.eq_str_none (f _ h)
  ·exact EqNone.eq_none_str (f _ h)
  ·exact EqNone.eq_none_none (f _ h)
 |NotEq =>
  rcases jc (k:=fun c=>k (!c)) h ca cb with⟨i,t,j,u,rfl,rfl,h⟩|⟨i,t,j,u,rfl,rfl,h⟩|⟨i,t,rfl,rfl,h⟩|⟨i,t,rfl,rfl,h⟩|⟨rfl,rfl,h⟩
  ·exact PySem.P.ne_int (f _ h)
  ·exact PySem.P.ne_str (f _ h)
  ·exact EqNone.ne_str_none (f _ h)
  ·exact EqNone.ne_none_str (f _ h)
  ·exact EqNone.ne_none_none (f _ h)
 |Lt=>(refine xd (v8 h ca cb) fun i t j z3=>?_;refine wO z3 fun u z5 z6 h=>?_;clear z3;subst z5;subst z6);exact PySem.P.lt_int (f _ h)
 |LtE=>(refine xd (v8 h ca cb) fun i t j z3=>?_;refine wO z3 fun u z5 z6 h=>?_;clear z3;subst z5;subst z6);exact PySem.P.le_int (f _ h)
 |Gt=>(refine xd (v8 h ca cb) fun i t j z3=>?_;refine wO z3 fun u z5 z6 h=>?_;clear z3;subst z5;subst z6);exact PySem.P.gt_int (f _ h)
 |GtE=>(refine xd (v8 h ca cb) fun i t j z3=>?_;refine wO z3 fun u z5 z6 h=>?_;clear z3;subst z5;subst z6);exact PySem.P.ge_int (f _ h)
 |In =>
  refine yW (u6 h ca) fun y t z2 h=>?_;subst z2
  cases b with
  |str x=>(refine yf (xm cb) fun u z1=>?_;subst z1);exact PySem.P.in_str (f _ h)
  |tup l =>
   refine x7 (Zw cb) fun p vs z2 z3 hp cl=>?_;subst z2;clear z3
   exact zt (xz h) fun c e h=>zt (gm e cl) fun ss h1 h2=>in_tuple_strs hp h1 (by refine zc h2 ?_;exact f _ h)
  |_=>exact h.elim
 |NotIn=>(refine xd (We h ca cb) fun i t j z3=>?_;refine wO z3 fun u z5 z6 h=>?_;clear z3;subst z5;subst z6);exact PySem.P.notIn_str (f _ h)
 |Is =>
  rcases i5 h ca cb with⟨rfl,⟨rfl,h⟩|⟨e,h⟩⟩|⟨e,h⟩
  ·exact is_none_gen (f _ h)
  ·exact is_none_ne e (f _ h)
  ·exact wpAny_is_plain e (f _ h)
 |IsNot =>
  rcases i5 (k:=fun c=>k (!c)) h ca cb with⟨rfl,⟨rfl,h⟩|⟨e,h⟩⟩|⟨e,h⟩
  ·exact isnot_none_gen (f _ h)
  ·exact isnot_none_ne e (f _ h)
  ·exact wpAny_isNot_plain e (f _ h)
theorem az(h:YP a k)(ca:y2 ρ s.heap a va)(f:∀c s',k c→Ext s s'→Q c s'):zr (zu pw w) A (truthy va) Q E s:=by
 have hz:=VT
 cases a with
 |none=>cases uc ca;exact wpAny_pure (f _ _ h (Ext.refl _))
 |bool b=>cases WZ ca;exact wpAny_pure (f _ _ h (Ext.refl _))
 |int i=>(refine yf (uo ca) fun t z1=>?_;subst z1);exact PySem.P.truthy_int (f _ _ h (Ext.refl _))
 |str x =>
  refine yf (xm ca) fun t z1=>?_;subst z1
  refine zK (yg h) fun h1 h2=>?_
  have h1:=of_decide_eq_true h1
  exact PySem.P.truthy_str (by omega) (f _ _ h2 (Ext.toks _ _))
 |list l =>
  refine x7 (xY ca) fun p vs z2 z3 hl cl=>?_;subst z2;clear z3
  refine zK (yg h) fun h1 h2=>?_
  have h1:=of_decide_eq_true h1
  refine wpAny_truthy_list hl (by show(vs.length:Int)<_;refine zc cl.length ?_;omega) ?_
  have e:(⟨vs⟩:Array zi).isEmpty=l.isEmpty:=by
   have:=cl.length
   cases vs with
   |nil=>cases l with
    |nil=>rfl
    |cons _ _=>cases this
   |cons _ _=>cases l with
    |nil=>cases this
    |cons _ _=>rfl
  exact zc e (f _ _ h2 (Ext.toks _ _))
 |dq =>
  refine xk ca fun a k z2 z3 hl=>?_;clear ca;subst z2;clear z3
  exact ay hl (f _ _ h (Ext.toks _ _))
 |_=>exact h.elim
end
end
section
def IU(a:AV)(k:AV→Prop):Prop:=match a with
 |.int i=>k (.int (-i))
 |_=>False
def rf(s:zg)(h':xO):Prop:=(∀b o,s.heap.get? b=some o→h'.get? b=some o)∧s.heap.objs.size≤h'.objs.size
theorem Hf(s:zg):KeptH (rf s):=fun _ ob ⟨a,b⟩=>⟨fun c o e=>zq ob (a c o e),by refine zc (xu ..) ?_;(exact Nat.le_add_right_of_le b)⟩
theorem rf.refl(s:zg):rf s s.heap:=⟨fun U U e=>e,zX _⟩
theorem rf.ext(o:rf s h'):Ext s {s with heap:=h',toks:=t}:=Ext.heap o.1
section
variable {x:Cx} {fr:List (Str×AV)} {H:List AObj} {k:AV→List AObj→Prop} {kb:Bool→List AObj→Prop}
theorem zL.mono(h:zL x fr H t k)(i:∀a H',k a H'→k' a H'):zL x fr H t k':=
 fun s S Q E f=>h s S Q E fun v a H' s' q=>f v a H' s' (i _ _ q)
theorem xe.mono(h:xe x fr H t kb)(i:∀a H',kb a H'→k' a H'):xe x fr H t k':=
 fun s S Q E f=>h s S Q E fun b H' s' q=>f b H' s' (i _ _ q)
theorem zL.binop(h:zL x fr H (zR l x.env) fun a H1=>zL x fr H1 (zR r x.env) fun b H2=>Ua op a b fun c=>k c H2):zL x fr H (zR (.BinOp l op r pos) x.env) k:=
 fun s S U E f=>G0 (h s S _ E fun U U U s1 h1 c1 S1 K1=>h1 s1 S1 _ E fun U U H2 U h2 c2 S2 K2 =>
  Wo S2.opn h2 (c1.mono (S1.nonMut K2)) c2 fun v c s3 h3 c3 X3=>f v c H2 s3 h3 c3 (S2.ext X3) (K1.trans (K2.trans (X3.kept x))))
theorem zL.compare(hb:vK op r=false)(h:zL x fr H (zR l x.env) fun a H1=>zL x fr H1 (zR r x.env) fun b H2=>bM op a b fun c=>k (.bool c) H2):zL x fr H (zR (.Compare l [op] [r] pos) x.env) k:=
 fun s S U E f=>la (h s S _ E fun U U U s1 h1 c1 S1 K1=>h1 s1 S1 _ E fun U U H2 s2 h2 c2 S2 K2 =>
  tR h2 (c1.mono (S1.nonMut K2)) c2 fun c h3=>f _ (.bool c) H2 s2 h3 (Zv c) S2 (K1.trans K2)) hb
theorem xe.compare(hb:vK op r=false)(h:zL x fr H (zR l x.env) fun a H1=>zL x fr H1 (zR r x.env) fun b H2=>bM op a b fun c=>kb c H2):xe x fr H (isTrue (.Compare l [op] [r] pos) x.env whole) kb:=
 fun s S U E f=>wy (h s S _ E fun U U U s1 h1 c1 S1 K1=>h1 s1 S1 _ E fun U U H2 s2 h2 c2 S2 K2 =>
  tR h2 (c1.mono (S1.nonMut K2)) c2 fun c h3=>xQ (f c H2 s2 h3 S2 (K1.trans K2))) hb
theorem xe.plain(he:∀env whole,isTrue e env whole=(do let v ←whole;Cr e.pos;holding [v] (truthy v)))(h:zL x fr H (zR e x.env) fun a H1=>YP a fun c=>kb c H1):xe x fr H (isTrue e x.env (zR e x.env)) kb:=fun s S Q E f=>by
 exact zc (he ..) (zb (h s S _ E fun U U H1 s1 h1 c1 S1 K1=>zb (xi (zV (az h1 c1 fun c s2 h2 X2=>f c H1 s2 h2 (S1.ext X2) (K1.trans (X2.kept x)))))))
theorem xe.not(h:xe x fr H (isTrue e x.env (zR e x.env)) fun b H1=>kb (!b) H1):xe x fr H (isTrue (.UnaryOp .Not e pos) x.env whole) kb:=fun s S Q E f=>by
 exact zb (h s S _ E fun b H1 s1 h1 S1 K1=>wpAny_pure (f _ H1 s1 h1 S1 K1))
theorem xe.allTrue_nil(h:kb (op==.And) H):xe x fr H (Xr op [] x.env) kb:=fun s S U U f=>wpAny_pure (f _ H s h S (Kept.refl _ _))
theorem xe.allTrue_and(h:xe x fr H (isTrue e x.env (zR e x.env)) fun b H1=>(b=false→kb false H1)∧(b=true→xe x fr H1 (Xr .And rest x.env) kb)):xe x fr H (Xr .And (e::rest) x.env) kb:=fun s S Q E f=>by
 show zr _ _ (do
  match BoolOp.And,←isTrue e x.env (zR e x.env)with
  |.And,false=>pure false
  |.Or,true=>pure true
  |_,_=>Xr .And rest x.env) _ _ _
 refine zb (h s S _ E fun b H1 s1 h1 S1 K1=>?_)
 cases b with
 |false=>exact wpAny_pure (f _ H1 s1 (h1.1 rfl) S1 K1)
 |true=>exact h1.2 rfl s1 S1 Q E fun c H2 s2 h2 S2 K2=>f c H2 s2 h2 S2 (K1.trans K2)
theorem xe.allTrue_or(h:xe x fr H (isTrue e x.env (zR e x.env)) fun b H1=>(b=true→kb true H1)∧(b=false→xe x fr H1 (Xr .Or rest x.env) kb)):xe x fr H (Xr .Or (e::rest) x.env) kb:=fun s S Q E f=>by
 show zr _ _ (do
  match BoolOp.Or,←isTrue e x.env (zR e x.env)with
  |.And,false=>pure false
  |.Or,true=>pure true
  |_,_=>Xr .Or rest x.env) _ _ _
 refine zb (h s S _ E fun b H1 s1 h1 S1 K1=>?_)
 cases b with
 |true=>exact wpAny_pure (f _ H1 s1 (h1.1 rfl) S1 K1)
 |false=>exact h1.2 rfl s1 S1 Q E fun c H2 s2 h2 S2 K2=>f c H2 s2 h2 S2 (K1.trans K2)
theorem xe.boolop(h:xe x fr H (Xr op es x.env) kb):xe x fr H (isTrue (.BoolOp op es pos) x.env whole) kb:=h
theorem zL.ifexp(h:xe x fr H (isTrue t x.env (zR t x.env)) fun c H1=>(c=true→zL x fr H1 (zR b x.env) k)∧(c=false→zL x fr H1 (zR o x.env) k)):zL x fr H (zR (.IfExp t b o pos) x.env) k:=fun s S Q E f=>by
 refine zb (h s S _ E fun c H1 s1 h1 S1 K1=>?_)
 cases c with
 |true=>exact h1.1 rfl s1 S1 Q E fun v a H2 s2 h2 c2 S2 K2=>f v a H2 s2 h2 c2 S2 (K1.trans K2)
 |false=>exact h1.2 rfl s1 S1 Q E fun v a H2 s2 h2 c2 S2 K2=>f v a H2 s2 h2 c2 S2 (K1.trans K2)
theorem zL.neg(h:zL x fr H (zR e x.env) fun a H1=>IU a fun c=>k c H1):zL x fr H (zR (.UnaryOp .USub e pos) x.env) k:=fun s S Q E f=>by
 refine zb (h s S _ E fun v a H1 s1 h1 c1 S1 K1=>zb (xi (zV ?_)))
 dsimp only at h1
 cases a with
 |int i =>
  refine yf (uo c1) fun t z1=>?_;subst z1
  exact PySem.P.neg_int (f _ _ H1 _ h1 (Zd _ _) (S1.ext (Ext.toks _ _)) (K1.trans ((Ext.toks _ _).kept x)))
 |_=>exact h1.elim
theorem zL.name_glob(hg:x.B.Ns x.env.globals mg)(hv:mg n=some v)(hk:x.env.scope.kind=.function)(hx:x.env.kindOf n=some .globalImplicit)(hd:(n==("__debug__" : Str))=false)(h:k (.glob v) H):
  zL x fr H (zR (.Name n pos) x.env) k:=fun s S Q E f =>
 Ul hk hx (loadGlobal_global (hg.keeps S.base) hv (f v _ H s h (Uz v) S (Kept.refl _ _))) hd
theorem zL.name_builtin(hg:x.B.Ns x.env.globals mg)(hn:mg n=none)(hb:x.B.Ns x.env.builtins mb)(hv:mb n=some v)(hk:x.env.scope.kind=.function)(hx:x.env.kindOf n=some .globalImplicit)(hd:(n==("__debug__" : Str))=false)(h:k (.glob v) H):
  zL x fr H (zR (.Name n pos) x.env) k:=fun s S Q E f =>
 Ul hk hx (loadGlobal_builtin (hg.keeps S.base) hn (hb.keeps S.base) hv (f v _ H s h (Uz v) S (Kept.refl _ _))) hd
def w9(x:Cx)(fr:List (Str×AV))(H:List AObj)(t:VL (List zi))(k:List AV→List AObj→Prop):Prop:=
 ∀s,St x fr H s→∀(Q:List zi→zg→Prop) (E:zi→zg→Prop),(∀vs l H' s',k l H'→ConL x.ρ s'.heap l vs→St x fr H' s'→Kept x s s'→Q vs s')→zr (zu pw x.w) x.A t Q E s
theorem w9.nil(h:kl [] H):w9 x fr H (vR []) kl:=fun s S U U f=>Xs (f _ [] H s h (rfl) S (Kept.refl _ _))
theorem w9.cons(h:zL x fr H t fun a H1=>w9 x fr H1 (vR r) fun l H2=>kl (a::l) H2):w9 x fr H (vR ((false,t)::r)) kl:=fun s S U E f =>
 uv (h s S _ E fun v a H1 s1 h1 c1 S1 K1=>h1 s1 S1 _ E fun vs l H2 s2 h2 c2 S2 K2=>f (v::vs) (a::l) H2 s2 h2 (qJ ⟨v,vs,rfl,c1.mono (S1.nonMut K2),c2⟩) S2 (K1.trans K2))
theorem zL.list(h:w9 x fr H (vR (vX pos (xL es x.env))) fun l H1=>l.length≤sizeLine∧k (.list l) H1):zL x fr H (zR (.List es pos) x.env) k:=fun s S Q E f =>
 List_ (h s S _ E fun vs l H1 s1 h1 c1 S1 K1=>yQ
  (have X:=Ext.push s1 {cls:=.type "list",data:=.seq vs.toArray} s1.toks
   f _ _ H1 _ h1.2 (Yi (n:=0) (vs:=vs) (Zi S1.opn) (zx _ rfl) (c1.mono X.nonMut)) (S1.ext X) (K1.trans (X.kept x)))
  (by show vs.toArray.size≤sizeLine;refine zc xG (zc c1.length ?_);exact h1.1))
theorem zL.tuple(h:w9 x fr H (vR (vX pos (xL es x.env))) fun l H1=>l.length≤sizeLine∧k (.tup l) H1):zL x fr H (zR (.Tuple es q pos) x.env) k:=fun s S Q E f =>
 Tuple_ (h s S _ E fun vs l H1 s1 h1 c1 S1 K1=>yQ
  (have X:=Ext.push s1 {cls:=.type "tuple",data:=.seq vs.toArray} s1.toks
   f _ _ H1 _ h1.2 (oh (n:=0) (vs:=vs) (Zi S1.opn) (zx _ rfl) (c1.mono X.nonMut)) (S1.ext X) (K1.trans (X.kept x)))
  (by show vs.toArray.size≤sizeLine;refine zc xG (zc c1.length ?_);exact h1.1))
end
end
section
noncomputable def xA(K:uQ)(C:zI)(n:Str):Bool:=
 lj K C n&&hasDictIn K C&&(match Zp K (.ref C) n with|some at'=>noGet K at'|none=>false) &&
 (Zp K (.ref C) "__setattr__" == some (some (.builtin "object.__setattr__")))&&plainOver K C&&(takerIn K C n==some none)
noncomputable def xp(n:Str)(av:AV):List (Str×AV)→List (Str×AV)
 |[]=>[(n,av)]
 |p::r=>bif zZ n p.1 then(n,av)::r else p::xp n av r
theorem ZQ:xp n av (p::r)=bif zZ n p.1 then(n,av)::r else p::xp n av r:=rfl
theorem uj{a b:Str}(h:zZ a b=false):a≠b:=fun e=>by rw[←yk,h]at e;exact fT e
theorem Xl{a n:Str}{t:Tok}:(tD a t).isStr n=decide (a=n):=by
 unfold Value.isStr
 by_cases h:a=n
 ·simp[h]
 ·simp[h]
set_option tactic.hygienic true in
theorem vC.look{w:ya}{ρ:Rho}{h:xO}{n:Str}{av:AV}:∀{fs:List (Str×AV)} {es:List yE},vC w ρ h fs es→lk n fs=some av →
  ∃v,getL n es=some (some v)∧y2 ρ h av v:=by
 intro l0
 induction l0 with
 |nil =>
  intro _ _ e
  exact nS e
 |cons p fs ih =>
  rintro _ ⟨t,v,r,rfl,hc,hr⟩ e
  rw[wQ]at e
  unfold getL
  refine zc XG ?_
  refine zc Xl ?_
  cases hq:zZ n p.1 with
  |true =>
   rw[hq]at e
   replace e:=zf e;subst e
   rw[yk]at hq
   subst hq
   exact⟨v,by simp,hc⟩
  |false =>
   rw[hq]at e
   have hne:¬p.1=n:=fun z=>uj hq z.symm
   refine zt ((ih hr e)) fun u hu hc'=>⟨u,?_,hc'⟩
   refine zc (decide_eq_false hne) ?_
   dsimp only
   unfold getL at hu
   split at hu
   ·rename_i en he;refine zc he ?_;exact hu
   ·split at hu<;>cases hu
theorem vC.noRef{w:ya}{ρ:Rho}{h:xO}:∀{fs:List (Str×AV)} {es:List yE},vC w ρ h fs es→es.any (·.refKey)=false
 |[],_,e=>by cases e;rfl
 |p::fs,_,⟨t,v,r,rfl,hc,hr⟩=>by refine zc List.any_cons (zc hr.noRef ?_);rfl
theorem vC.lookNone{w:ya}{ρ:Rho}{h:xO}{n:Str}:∀{fs:List (Str×AV)} {es:List yE},vC w ρ h fs es→lk n fs=none→es.find? (·.key.isStr n)=none:=by
 intro l0
 induction l0 with
 |nil =>
  intro _ e _
  cases e;rfl
 |cons p fs ih =>
  rintro _ ⟨t,v,r,rfl,hc,hr⟩ e
  rw[wQ]at e
  refine zc XG ?_
  refine zc Xl ?_
  cases hq:zZ n p.1 with
  |true=>rw[hq]at e;exact Sn e
  |false =>
   rw[hq]at e
   have hne:¬p.1=n:=fun z=>uj hq z.symm
   exact zc (decide_eq_false hne) (ih hr e)
theorem vC.length{w:ya}{ρ:Rho}{h:xO}:∀{fs:List (Str×AV)} {es:List yE},vC w ρ h fs es→es.length=fs.length
 |[],_,e=>by cases e;rfl
 |p::fs,_,⟨t,v,r,rfl,hc,hr⟩=>by exact zc zS (zc zS (zc hr.length rfl))
theorem vC.put{w:ya}{ρ:Rho}{h:xO}{n:Str}{av:AV}{v:zi}{t:Tok}(c:y2 ρ h av v):∀{fs:List (Str×AV)} {es:List yE},vC w ρ h fs es →
  vC w ρ h (xp n av fs) (putL n (zz w.params n) (.str n t) v es)
 |[],_,e=>by cases e;exact⟨t,v,[],rfl,c,rfl⟩
 |p::fs,_,⟨t',v',r,rfl,hc,hr⟩=>by
  unfold xp putL
  dsimp only
  refine zc Xl ?_
  cases hq:zZ n p.1 with
  |true =>
   rw[yk]at hq
   subst hq
   simp only[decide_true,if_true]
   exact⟨t',v,r,rfl,c,hr⟩
  |false =>
   have hne:¬p.1=n:=fun z=>uj hq z.symm
   simp only[hne,decide_false,ZP,if_false]
   exact⟨t',v',_,rfl,hc,hr.put c⟩
theorem Eg(n:Str)(av:AV):∀fs:List (Str×AV),(xp n av fs).length≤fs.length+1:=by
 intro l0
 induction l0 with
 |nil =>
  simp[xp]
 |cons p r ih =>
  refine zc ZQ ?_
  cases zZ n p.1 with
  |true=>simp
  |false=>simp;exact ih
theorem dc(name:Str)(hsh:Int)(key v:zi):∀es:List yE,(putL name hsh key v es).length≤es.length+1:=by
 intro l0
 induction l0 with
 |nil =>
  simp[putL]
 |cons e r ih =>
  unfold putL
  split
  ·simp
  ·simp;exact ih
section
variable {w:ya} {A:y1} {E:zi→zg→Prop} {s:zg} {K:uQ} {C X0 d:zI} {n:Str} {es:List yE} {q:Nat} {v:zi}
theorem ZW(h1:s.heap.get? X0=some ⟨.ref C,some d,.plain,#[]⟩)(h2:s.heap.get? d=some (tJ es q)):InstAt s.heap X0 ⟨.ref C,some d,.plain,#[]⟩ C (some (tJ es q)):=
 ⟨h1,rfl,rfl,h2⟩
set_option tactic.hygienic true in
theorem dO{expr:Bool}{Q:zi→zg→Prop}(X:K.In s.heap)(h1:s.heap.get? X0=some ⟨.ref C,some d,.plain,#[]⟩)(h2:s.heap.get? d=some (tJ es q))(hp:xA K C n=true)(hl:getL n es=some (some v))(hv:handedIn v=true)(h:Q v {s with toks:=s.toks+1}):zr (zu pw w) A (W7 (.ref X0) n expr) Q E s:=by
 unfold xA at hp
 simp only[zk]at hp
 refine zK hp fun z0 p6=>?_;clear hp;obtain⟨⟨⟨⟨p1,p2⟩,p3⟩,p4⟩,p5⟩:=z0
 split at p3
 ·rename_i at' ha
  exact get_value X (ZW h1 h2) (Uj p1).1 (findObj_own p2 ha p3 hl) hv h
 ·exact fT p3
theorem mV{Q:Unit→zg→Prop}(X:K.In s.heap)(h1:s.heap.get? X0=some ⟨.ref C,some d,.plain,#[]⟩)(h2:s.heap.get? d=some (tJ es q))(hp:xA K C n=true)(hr:es.any (·.refKey)=false)(hz:es.length≤999)(h:Q () {s with heap:=s.heap.update d (YA n (zz w.params n) (.str n (s.toks+1)) v),toks:=s.toks+2}):zr (zu pw w) A (setAttr (.ref X0) n v) Q E s:=by
 unfold xA at hp
 simp only[zk,beq_iff_eq]at hp
 refine zK hp fun z0 p6=>?_;obtain⟨⟨⟨⟨p1,p2⟩,p3⟩,p4⟩,p5⟩:=z0
 have I:=ZW h1 h2
 refine set_plain X I p4 (osa_open (s:={s with toks:=s.toks+1}) X I p5 p6 fun b=>zt (any_some p2) fun cd hc hd'=>zb (wpAny_pure (zb (zb (wpAny_loadPart h1 (zb (Looks.here (s:={s with toks:=s.toks+1}) (looks_clsIn (M:=zu pw w) X hc) ?_)))))))
 refine zc hd' (wpAny_pure (a:=some d) (zb (wpAny_pure (zb ?_))))
 refine zb (zb (vU (wpAny_pure (zb (Cq (zb (wpAny_loadPart h2 ?_)))))))
 dsimp only
 have c:(!(⟨es⟩:Array yE).any (·.key.isStr n)&&(⟨es⟩:Array yE).any (·.refKey))=false:=by
  exact xv CE (xv CE (zc hr (zc (WB ..) rfl)))
 refine zc (aRefKeyMayBeTheName_at ..) (zc c ?_)
 have e:=putName_dict n (zz w.params n) (.str n (s.toks+1)) v es q
 have g:(s.heap.update d (YA n (zz w.params n) (.str n (s.toks+1)) v)).get? d=some (tJ (putL n (zz w.params n) (.str n (s.toks+1)) v es) (putN n es q)):=
  (zP _ h2 (by refine zc e ?_;rfl)).trans (congrArg some e)
 refine wpAny_updatePart h2 (zb (wpAny_lookBehind (o:=tJ (putL n (zz w.params n) (.str n (s.toks+1)) v es) (putN n es q)) g ?_ ?_))
 ·exact pastItsLine_dict (by refine zc xG (zc zy ?_);have:=dc n (zz w.params n) (.str n (s.toks+1)) v es;exact vB 0x1136053e733611310000007305 [(putL n (zz w.params n) (tD n (s.toks+1)) v es).length,es.length] hz this rfl)
 ·exact wpAny_pure h
end
end
section
theorem getElem?_inj:∀{l:List zI},l.Nodup→∀{i j:Nat} {d:zI},l[i]?=some d→l[j]?=some d→i=j
 |[],_,_,_,_,h,_=>by simp at h
 |a::l,nd,i,j,d,hi,hj=>by
  rw[tB]at nd
  cases i with
  |zero =>
   cases j with
   |zero=>rfl
   |succ j =>
    simp at hi hj
    subst hi
    exact absurd (zH hj) nd.1
  |succ i =>
   cases j with
   |zero =>
    simp at hi hj
    subst hj
    exact absurd (zH hi) nd.1
   |succ j =>
    simp at hi hj
    exact zc (getElem?_inj nd.2 hi hj) rfl
theorem xb:∀{l:List (Str×Addr)},l.lookup n=some q→q∈l.map (·.2):=by
 intro l0
 induction l0 with
 |nil =>
  intro h
  simp at h
 |cons p l ih =>
  intro h
  rw[yd]at h
  split at h
  ·(replace h:=zf h;subst h);simp
  ·refine zc zU ?_;exact .tail _ ((ih h))
section
variable {x:Cx} {fr:List (Str×AV)} {H:List AObj} {s:zg} {t:zI} {h':xO} {o':xK} {tk:Nat}
theorem St.nonMut1(S:St x fr H s)(ht:uG x t)(sb:yo t s.heap h'):yH x.ρ.op s.heap h':=fun a o U e m=>by
 have:a≠t:=by
  rintro rfl
  refine zt (S.kinds a ht) fun o2 h2 m2=>?_
  rw[e]at h2;(replace h2:=zf h2;subst h2);rw[m]at m2;exact fT m2
 refine zc (sb.2 a this) ?_;exact e
theorem St.kept1(ht:uG x t)(sb:yo t s.heap h'):Kept x s {s with heap:=h',toks:=tk}:=
 ⟨⟨_,_,_,rfl⟩,fun a o e n=>⟨o,by refine xv e ?_;exact sb.2 a (fun z=>n (z▸ht)),.refl o⟩⟩
theorem St.base1(S:St x fr H s)(ht:uG x t)(sb:yo t s.heap h'):∀a o,x.B.get? a=some o→h'.get? a=some o:=fun a o e=>by
 refine zc (sb.2 a (fun z=>by rw[z,(S.apart t ht).1]at e;cases e)) ?_;exact S.base a o e
theorem St.kinds1(S:St x fr H s)(sb:yo t s.heap h')(ho:h'.get? t=some o')(hm:u8 o'.cls=true):∀a,uG x a→∃o,h'.get? a=some o∧u8 o.cls=true:=fun a ha=>by
 by_cases e:a=t
 ·subst e;exact⟨o',ho,hm⟩
 ·exact zt (S.kinds a ha) fun o h m=>⟨o,by refine zc (sb.2 a e) ?_;exact h,m⟩
theorem St.lim1(S:St x fr H s)(ht:uG x t)(sb:yo t s.heap h'):gS h':=S.lim.sameBut sb (fun e=>(S.apart t ht).2 e.symm)
theorem St.opn1(S:St x fr H s)(sb:yo t s.heap h')(ho:h'.get? t=some o'):∀a∈x.ρ.op,∃o,h'.get? a=some o:=fun a q=>by
 by_cases e:a=t
 ·subst e;exact⟨o',ho⟩
 ·refine yf (S.opn a q) fun o h=>?_;exact⟨o,by refine zc (sb.2 a e) ?_;exact h⟩
theorem St.cex1(S:St x fr H s)(sb:yo t s.heap h')(ho:h'.get? t=some o'):∀a∈x.env.cells.map (·.2),∃o,h'.get? a=some o:=fun a q=>by
 by_cases e:a=t
 ·subst e;exact⟨o',ho⟩
 ·refine yf (S.cex a q) fun o h=>?_;exact⟨o,by refine zc (sb.2 a e) ?_;exact h⟩
theorem St.frs1(S:St x fr H s)(sb:yo t s.heap h')(ht:t∉x.fs):∀L∈x.fs,x.B.get? L=none∧L∉x.δ∧∃o es ep,h'.get? L=some o∧um o=true∧o.data=.dict es ep:=fun L q=>by
 refine yU (S.frs L q) fun a b z2=>?_;refine Qh z2 fun o es ep h r=>?_;clear z2
 exact⟨a,b,o,es,ep,by refine zc (sb.2 L (fun z=>ht (z▸q))) ?_;exact h,r⟩
theorem St.fix1(S:St x fr H s)(ht:uG x t)(sb:yo t s.heap h')(e:s.heap.get? a=some o)(m:u8 o.cls=false):h'.get? a=some o:=by
 have:a≠t:=by
  rintro rfl
  refine zt (S.kinds a ht) fun o2 h2 m2=>?_
  rw[e]at h2;(replace h2:=zf h2;subst h2);rw[m]at m2;exact fT m2
 refine zc (sb.2 a this) ?_;exact e
theorem St.setObj(S:St x fr H s)(hi:H[i]?=some o)(ha:x.ρ.ob[i]?=some a)(hd:x.δ[i]?=some t)(sb:yo t s.heap h')(ho:h'.get? t=some o')(hm:u8 o'.cls=true)(hn:qn x.w x.ρ h' a t o2):St x fr (H.set i o2) {s with heap:=h',toks:=tk}:=by
 have htm:t∈x.δ:=zH hd
 have ht:uG x t:=.inr (.inr htm)
 have nm:=S.nonMut1 ht sb
 refine yU S.frame fun z0 c c2=>?_;obtain⟨mm,n,f⟩:=z0
 have ln:x.env.locals≠t:=fun e=>S.own.1 (e▸htm)
 have cn:∀q∈x.env.cells.map (·.2),q≠t:=fun q hq e=>(S.own.2 q hq).1 (e▸htm)
 have cl:∀{n q},x.env.cells.lookup n=some q→q≠t:=fun{n q} e=>cn q (xb e)
 refine⟨S.base1 ht sb,S.apart,S.kinds1 sb ho hm,⟨⟨mm,n.sameBut sb ln,fun y av e q=>?_⟩,fun y av e q=>?_,fun y e=>?_⟩,fun j p e=>?_,S.lim1 ht sb,S.nodup,S.own,S.cnod,S.opn1 sb ho,S.ocs,by refine zc List.length_set ?_;exact S.ol,S.cex1 sb ho,S.frs1 sb (fun q=>(S.frs t q).2.1 htm)⟩
 ·refine zt (f y av e q) fun v p r=>?_;exact⟨v,p,r.mono nm⟩
 ·exact xk (c y av e q) fun cc v p b d=>⟨cc,v,p,by refine zc (sb.2 cc (cl p)) ?_;exact b,d.mono nm⟩
 ·exact yW (c2 y e) fun cc v p b=>⟨cc,v,p,by refine zc (sb.2 cc (cl p)) ?_;exact b⟩
 ·by_cases hij:i=j
  ·subst hij
   have:o2=p:=by
    have hl:=(yi.mp hi).1
    rw[qf hl]at e
    exact zf e
   subst this
   exact⟨a,t,ha,hd,hn⟩
  ·rw[qW hij]at e
   refine xk (S.objs j p e) fun b d p1 p2 p3=>⟨b,d,p1,p2,?_⟩
   have hdt:d≠t:=fun z=>hij (getElem?_inj S.nodup hd (z▸p2))
   cases p with
   |inst C fs =>
    refine zK p3 fun q1 z1=>?_;clear p3;refine yW z1 fun es n' q2 q3=>?_;clear z1
    exact⟨S.fix1 ht sb q1 rfl,es,n',by refine zc (sb.2 d hdt) ?_;exact q2,q3.mono nm⟩
   |dict fs =>
    refine zK p3 fun q1 z1=>?_;refine yW z1 fun es n' q2 q3=>?_;clear z1
    exact⟨q1,es,n',by refine zc (sb.2 d hdt) ?_;exact q2,q3.mono nm⟩
end
end
section
theorem Th:∀{fr:List (Str×AV)},lk y (xp n av fr)=if y=n then some av else lk y fr
 |[]=>by
  unfold xp lk lk
  cases h:zZ y n with
  |true=>rw[yk]at h;simp[h]
  |false=>simp[uj h]
 |p::r=>by
  refine zc ZQ ?_
  cases h:zZ n p.1 with
  |true =>
   rw[yk]at h
   refine(?_:lk y ((n,av)::r)=_)
   unfold lk
   dsimp only
   cases h2:zZ y n with
   |true=>rw[yk]at h2;simp[h2]
   |false =>
    have:=uj h2
    refine zc (if_neg this) (xv h (zc h2 ?_))
    rfl
  |false =>
   refine(?_:lk y (p::xp n av r)=_)
   unfold lk
   refine zc Th ?_
   cases h2:zZ y p.1 with
   |true =>
    rw[yk]at h2
    have:¬y=n:=fun e=>uj h (by exact xv e (zc h2 rfl))
    simp only[if_neg this]
   |false=>rfl
section
variable {x:Cx} {fr:List (Str×AV)} {H:List AObj}
theorem St.storeLocal(S:St x fr H s){mm:Str→Option zi}(hl:x.env.kindOf n=some .local)(f:∀y av,x.env.kindOf y=some .local→lk y fr=some av→∃v,mm y=some v∧y2 x.ρ s.heap av v)(hn:h'.Ns x.env.locals (fun y=>if y=n then some v else mm y))(sb:yo x.env.locals s.heap h')(ho:∃o',h'.get? x.env.locals=some o'∧u8 o'.cls=true∧∀o,s.heap.get? x.env.locals=some o→o'.cls=o.cls)(c:y2 x.ρ s.heap av v):
  St x (xp n av fr) H {s with heap:=h',toks:=tk}:=by
 have ht:uG x x.env.locals:=.inl rfl
 have nm:=S.nonMut1 ht sb
 refine wO ho fun o' ho hm hcl=>yU S.frame fun z0 c1 c2=>?_;clear z0
 have cn:∀q∈x.env.cells.map (·.2),q≠x.env.locals:=fun q hq=>(S.own.2 q hq).2
 refine⟨S.base1 ht sb,S.apart,S.kinds1 sb ho hm,⟨⟨_,hn,fun y av' e q=>?_⟩,fun y av' e q=>?_,fun y e=>?_⟩,fun j p e=>?_,S.lim1 ht sb,S.nodup,S.own,S.cnod,S.opn1 sb ho,S.ocs,S.ol,S.cex1 sb ho,fun L q=>?_⟩
 ·rw[Th]at q
  by_cases hy:y=n
  ·rw[if_pos hy]at q
   replace q:=zf q;subst q
   exact⟨v,by simp[hy],c.mono nm⟩
  ·rw[if_neg hy]at q
   exact zt (f y av' e q) fun u p r=>⟨u,by simp[hy,p],r.mono nm⟩
 ·rw[Th]at q
  have hy:¬y=n:=fun z=>by rw[z,hl]at e;rcases e with e|e<;>cases e
  rw[if_neg hy]at q
  exact xk (c1 y av' e q) fun cc u p b d=>⟨cc,u,p,by refine zc (sb.2 cc (cn _ (xb p))) ?_;exact b,d.mono nm⟩
 ·exact yW (c2 y e) fun cc u p b=>⟨cc,u,p,by refine zc (sb.2 cc (cn _ (xb p))) ?_;exact b⟩
 ·refine xk (S.objs j p e) fun b d p1 p2 p3=>⟨b,d,p1,p2,?_⟩
  have hd:d≠x.env.locals:=fun z=>S.own.1 (z▸zH p2)
  cases p with
  |inst C fs =>
   refine zK p3 fun q1 z1=>?_;clear p3;refine yW z1 fun es n' q2 q3=>?_;clear z1
   exact⟨S.fix1 ht sb q1 rfl,es,n',by refine zc (sb.2 d hd) ?_;exact q2,q3.mono nm⟩
  |dict fs =>
   refine zK p3 fun q1 z1=>?_;clear p3;refine yW z1 fun es n' q2 q3=>?_;clear z1
   exact⟨q1,es,n',by refine zc (sb.2 d hd) ?_;exact q2,q3.mono nm⟩
 ·refine yU (S.frs L q) fun a b z2=>?_;refine VD z2 fun o es ep h r1 r2=>?_;clear z2
  by_cases z:L=x.env.locals
  ·subst z
   refine VD hn fun o2 es2 ep2 h2 d2 z5=>?_;clear hn;clear z5
   rw[ho]at h2;(replace h2:=zf h2;subst h2)
   exact⟨a,b,o',es2,ep2,ho,by refine zc (WS (hcl o h)) ?_;exact r1,d2⟩
  ·exact⟨a,b,o,es,ep,by refine zc (sb.2 L z) ?_;exact h,r1,r2⟩
def N8(x:Cx)(fr:List (Str×AV))(H:List AObj)(t:VL Unit)(k:List (Str×AV)→List AObj→Prop):Prop:=
 ∀s,St x fr H s→∀(Q:Unit→zg→Prop) (E:zi→zg→Prop),(∀fr' H' s',k fr' H'→St x fr' H' s'→Kept x s s'→Q () s')→zr (zu pw x.w) x.A t Q E s
theorem db(n:Str)(hs:Int)(key v:zi)(o:xK):(YA n hs key v o).cls=o.cls:=by
 refine zc Obj.putName_eq ?_
 obtain⟨c,d,dt,sl⟩:=o
 cases dt<;>try rfl
 unfold Cz
 dsimp only
 split<;>rfl
theorem bc(n:Str)(hs:Int)(key v:zi)(o:xK)(h:o.isFreed=false):(YA n hs key v o).isFreed=false:=by
 refine zc Obj.putName_eq ?_
 obtain⟨c,d,dt,sl⟩:=o
 cases dt<;>try exact h
 unfold Cz
 dsimp only
 split<;>rfl
theorem an(hn:s.heap.Ns a m)(ho:s.heap.get? a=some o)(hQ:∀h',h'.Ns a (fun y=>if y=name then some v else m y)→yo a s.heap h'→(∃o',h'.get? a=some o'∧o'.cls=o.cls)→Q () {s with heap:=h',toks:=s.toks+1}):zr M A (nsSet a name v) Q E s:=fun Γ p U=>by
 have key:=Sem.wp_nsSet M Γ (fun e U s'=>E e s') p s hn name v (fun U U s'=>s'.heap.Ns a (fun y=>if y=name then some v else m y)) fun h' x U=>x
 refine Wj hn fun o₂ es ep ho₂ hd hk hm=>?_;clear hn
 rw[ho]at ho₂;(replace ho₂:=zf ho₂;subst ho₂)
 have hany:es.any (·.refKey)=false:=by
  rw[Array.any_eq_false'];intro e he;refine Y5 (hk e he) fun n t h=>?_;simp[DictEntry.refKey,h]
 simp only[nsSet,strHash,wS,Sem.wp_cmd_ask,lr,Sem.wp_cmd_mkText]at key ⊢
 rw[Sem.wp_loadPart_of M Γ (fun e U s'=>E e s') p {s with toks:=s.toks+1} (o:=o) _ ho]at key ⊢
 simp only[hd,aRefKeyMayBeTheName_eq,aRefKeyMayBeTheNameByArray,hany,WB,ZP,if_false,Sem.wp_cmd_updatePart]at key ⊢
 refine⟨by refine zc ho ?_;rfl,hQ _ key.2 (zW ..) ⟨_,zP _ ho (bc _ _ _ _ _ ?_),db _ _ _ _ _⟩⟩
 exact Obj.isFreed_of_dict hd
theorem VR{k:List (Str×AV)→List AObj→Prop}(hk:x.env.scope.kind=.function)(hl:x.env.kindOf n=some .local)(h:k (xp n av fr) H)(S:St x fr H s)(c:y2 x.ρ s.heap av v){Q:Unit→zg→Prop}{E:zi→zg→Prop}(f:∀fr' H' s',k fr' H'→St x fr' H' s'→Kept x s s'→Q () s'):
  zr (zu pw x.w) x.A (Wu x.env n v) Q E s:=by
 refine yU S.frame fun z0 z1 z2=>?_;obtain⟨mm,hn,g⟩:=z0;clear z1;clear z2
 refine zt (S.kinds _ (.inl rfl)) fun oL hoL hmL=>?_
 have hp:(x.env.scope.kind==.class||(x.env.scope.kind==.module&&x.env.locals != x.env.globals))=false:=by refine zc hk ?_;rfl
 rw[storeName_local hl hp]
 exact an hn hoL fun h' hn' sb ho'=>zt ho' fun o' ho' hc=>f _ H _ h (S.storeLocal hl g hn' sb ⟨o',ho',by refine zc hc ?_;exact hmL,fun o e=>by rw[hoL]at e;(replace e:=zf e;subst e);exact hc⟩ c) (St.kept1 (.inl rfl) sb)
end
end
section
theorem vD:∀{l:List (Str×Addr)},l.lookup n=some q→(n,q)∈l:=by
 intro l0
 induction l0 with
 |nil =>
  intro h
  simp at h
 |cons p l ih =>
  intro h
  rw[yd]at h
  split at h
  ·rename_i e
   replace h:=zf h;subst h
   have:n=p.1:=by simpa using e
   refine zc this ?_;exact .head _
  ·exact .tail _ ((ih h))
theorem ij:∀{l:List (Str×Addr)},(l.map (·.2)).Nodup→(n,q)∈l→(y,q)∈l→n=y:=by
 intro l0
 induction l0 with
 |nil =>
  intro _ h _
  cases h
 |cons p l ih =>
  intro nd h h'
  rw[zU,tB]at nd
  cases h with
  |head=>cases h' with
   |head=>rfl
   |tail _ h'=>exact absurd (we (f:=(·.2)) h') nd.1
  |tail _ h=>cases h' with
   |head=>exact absurd (we (f:=(·.2)) h) nd.1
   |tail _ h'=>exact(ih nd.2 h h')
inductive AFlow where
 |next
 |brk
 |cont
 |ret (a:AV)
def gW(ρ:Rho)(h:xO):AFlow→Qw→Prop
 |.next,f=>f=.next
 |.brk,f=>f=.brk
 |.cont,f=>f=.cont
 |.ret a,f=>∃v,f=.ret v∧y2 ρ h a v
def zQ(x:Cx)(fr:List (Str×AV))(H:List AObj)(t:VL Qw)(k:AFlow→List (Str×AV)→List AObj→Prop):Prop:=
 ∀s,St x fr H s→∀(Q:Qw→zg→Prop) (E:zi→zg→Prop),(∀f a fr' H' s',k a fr' H'→gW x.ρ s'.heap a f→St x fr' H' s'→Kept x s s'→Q f s')→zr (zu pw x.w) x.A t Q E s
theorem zQ.eq(e:a=b)(h:zQ x fr H (tx b x.env) k):zQ x fr H (tx a x.env) k:=e▸h
theorem zQ.eqs(e:a=b)(h:zQ x fr H (xN b x.env) k):zQ x fr H (xN a x.env) k:=e▸h
section
variable {x:Cx} {fr:List (Str×AV)} {H:List AObj} {k:AFlow→List (Str×AV)→List AObj→Prop}
theorem fv(hw:∀c,x.env.cells.lookup n=some c→c∈x.oc){kk:List (Str×AV)→List AObj→Prop}(hk:x.env.scope.kind=.function)(hl:x.env.kindOf n=some .cell∨x.env.kindOf n=some .free)(h:kk (xp n av fr) H)(S:St x fr H s)(c:y2 x.ρ s.heap av v){Q:Unit→zg→Prop}{E:zi→zg→Prop}(f:∀fr' H' s',kk fr' H'→St x fr' H' s'→Kept x s s'→Q () s'):
  zr (zu pw x.w) x.A (Wu x.env n v) Q E s:=by
 refine yU S.frame fun z0 c1 c2=>?_;obtain⟨mm,hn,g⟩:=z0
 refine yW (c2 n hl) fun ca vo hc ho=>?_
 have hcm:=xb hc
 have ht:uG x ca:=.inr (.inl (hw _ hc))
 have e:Wu x.env n v=cellSet ca (some v):=by
  have hco:lh x.env n=pure ca:=by unfold lh;exact zc hc rfl
  have hks:(x.env.scope.kind==.class)=false:=by refine zc hk ?_;rfl
  have hne:(x.env.kindOf n==some .globalImplicit)=false:=by rcases hl with hl|hl<;>refine zc hl ?_<;>rfl
  unfold Wu
  refine zc hne (zc (Hv ..) (zc (if_neg ZO) ?_))
  rcases hl with hl|hl
  ·refine zc hl ?_;dsimp only;refine zc hks (zc hco ?_);rfl
  ·refine zc hl ?_;dsimp only;refine zc hks (zc hco ?_);rfl
 refine zc e (zb (wpAny_load ho ?_))
 refine wpAny_update ho ?_
 have sb:yo ca s.heap (s.heap.update ca fun o=>{o with data:=.cell (some v)}):=zW ..
 have hnew:(s.heap.update ca fun o=>{o with data:=.cell (some v)}).get? ca=some {cls:=.type "cell",data:=.cell (some v)}:=zP _ ho rfl
 have nm:=S.nonMut1 ht sb
 have hL:x.env.locals≠ca:=fun z=>(S.own.2 ca hcm).2 z.symm
 have cl:∀{y q},x.env.cells.lookup y=some q→y≠n→q≠ca:=fun{y q} e hy z=>hy (ij S.cnod (vD (z▸e)) (vD hc))
 refine f _ H {s with heap:=_} h ?_ (St.kept1 ht sb)
 refine⟨S.base1 ht sb,S.apart,S.kinds1 sb hnew rfl,⟨⟨mm,hn.sameBut sb hL,fun y av' e q=>?_⟩,fun y av' e q=>?_,fun y e=>?_⟩,fun j p e=>?_,S.lim1 ht sb,S.nodup,S.own,S.cnod,S.opn1 sb hnew,S.ocs,S.ol,S.cex1 sb hnew,S.frs1 sb (fun q=>by
  refine yU (S.frs ca q) fun z0 z1 z2=>?_;clear z0;clear z1;refine VD z2 fun o es ep h r z8=>?_;clear z2;clear z8
  rw[ho]at h;(replace h:=zf h;subst h);exact fT r)⟩
 ·rw[Th]at q
  have hy:¬y=n:=fun z=>by rw[z]at e;rcases hl with hl|hl<;>rw[hl]at e<;>cases e
  rw[if_neg hy]at q
  exact zt (g y av' e q) fun u p r=>⟨u,p,r.mono nm⟩
 ·rw[Th]at q
  by_cases hy:y=n
  ·rw[if_pos hy]at q
   replace q:=zf q;subst q
   subst hy
   exact⟨ca,v,hc,hnew,c.mono nm⟩
  ·rw[if_neg hy]at q
   exact xk (c1 y av' e q) fun cc u p b d=>⟨cc,u,p,by refine zc (sb.2 cc (cl p hy)) ?_;exact b,d.mono nm⟩
 ·by_cases hy:y=n
  ·subst hy;exact⟨ca,some v,hc,hnew⟩
  ·exact yW (c2 y e) fun cc u p b=>⟨cc,u,p,by refine zc (sb.2 cc (cl p hy)) ?_;exact b⟩
 ·refine xk (S.objs j p e) fun b d p1 p2 p3=>⟨b,d,p1,p2,?_⟩
  have hd:d≠ca:=fun z=>(S.own.2 ca hcm).1 (z▸zH p2)
  cases p with
  |inst C fs =>
   refine zK p3 fun q1 z1=>?_;clear p3;refine yW z1 fun es n' q2 q3=>?_;clear z1
   exact⟨S.fix1 ht sb q1 rfl,es,n',by refine zc (sb.2 d hd) ?_;exact q2,q3.mono nm⟩
  |dict fs =>
   refine zK p3 fun q1 z1=>?_;refine yW z1 fun es n' q2 q3=>?_;clear z1
   exact⟨q1,es,n',by refine zc (sb.2 d hd) ?_;exact q2,q3.mono nm⟩
theorem wv{kk:List (Str×AV)→List AObj→Prop}(hk:x.env.scope.kind=.function)(hl:x.env.kindOf n=some .local∨(x.env.kindOf n=some .cell∧∀c,x.env.cells.lookup n=some c→c∈x.oc))(h:kk (xp n av fr) H)(S:St x fr H s)(c:y2 x.ρ s.heap av v){Q:Unit→zg→Prop}{E:zi→zg→Prop}(f:∀fr' H' s',kk fr' H'→St x fr' H' s'→Kept x s s'→Q () s'):
  zr (zu pw x.w) x.A (Wu x.env n v) Q E s:=by
 refine lN hl (fun hl=>?_) fun hl=>?_
 ·exact VR hk hl h S c f
 ·exact fv hl.2 hk (.inl hl.1) h S c f
theorem zQ.nil(h:k .next fr H):zQ x fr H (xN [] x.env) k:=fun s S U U f=>qb (f .next .next fr H s h rfl S (Kept.refl _ _))
theorem zQ.cons{st:yX}{rest:List yX}(h:zQ x fr H (tx st x.env) fun a fr1 H1=>match a with|.next=>zQ x fr1 H1 (xN rest x.env) k|a=>k a fr1 H1):zQ x fr H (xN (st::rest) x.env) k:=fun s S Q E f =>
 zO (h s S _ E fun fl a fr1 H1 s1 h1 c1 S1 K1=>by
  cases a with
  |next=>cases c1;exact h1 s1 S1 Q E fun fl a fr2 H2 s2 h2 c2 S2 K2=>f fl a fr2 H2 s2 h2 c2 S2 (K1.trans K2)
  |brk=>cases c1;exact f _ _ fr1 H1 s1 h1 rfl S1 K1
  |cont=>cases c1;exact f _ _ fr1 H1 s1 h1 rfl S1 K1
  |ret av=>(refine zt c1 fun v z1 c=>?_;clear c1;subst z1);exact f _ _ fr1 H1 s1 h1 ⟨v,rfl,c⟩ S1 K1)
theorem zQ.assign_name(hk:x.env.scope.kind=.function)(hl:x.env.kindOf n=some .local∨(x.env.kindOf n=some .cell∧∀c,x.env.cells.lookup n=some c→c∈x.oc))(hs:uH e (some (.Name n p)) pos.line x.env=pure false)(h:zL x fr H (zR e x.env) fun a H1=>k .next (xp n a fr) H1):zQ x fr H (tx (.Assign [.Name n p] e pos) x.env) k:=fun s S U E f =>
 uV (h s S _ E fun U a H1 s1 h1 c1 S1 K1=>wv (kk:=fun fr2 H2=>k .next fr2 H2) hk hl h1 S1 c1 fun fr2 H2 s2 h2 S2 K2=>f .next .next fr2 H2 s2 h2 rfl S2 (K1.trans K2)) hs
theorem zQ.ret(h:zL x fr H (zR e x.env) fun a H1=>k (.ret a) fr H1):zQ x fr H (tx (.Return (some e) pos) x.env) k:=fun s S U E f =>
 qL (h s S _ E fun v a H1 s1 h1 c1 S1 K1=>f (.ret v) (.ret a) fr H1 s1 h1 ⟨v,rfl,c1⟩ S1 K1)
theorem zQ.brk(h:k .brk fr H):zQ x fr H (tx (.Break pos) x.env) k:=fun s S U U f=>zb (xi (wpAny_pure (f .brk .brk fr H s h rfl S (Kept.refl _ _))))
theorem zQ.cont(h:k .cont fr H):zQ x fr H (tx (.Continue pos) x.env) k:=fun s S U U f=>zb (xi (wpAny_pure (f .cont .cont fr H s h rfl S (Kept.refl _ _))))
theorem zQ.if_(h:xe x fr H (isTrue t x.env (zR t x.env)) fun c H1=>(c=true→zQ x fr H1 (xN b x.env) k)∧(c=false→zQ x fr H1 (xN o x.env) k)):zQ x fr H (tx (.If t b o pos) x.env) k:=fun s S Q E f =>
 wpAny_If (h s S _ E fun c H1 s1 h1 S1 K1=>by
  cases c with
  |true=>exact h1.1 rfl s1 S1 Q E fun fl a fr2 H2 s2 h2 c2 S2 K2=>f fl a fr2 H2 s2 h2 c2 S2 (K1.trans K2)
  |false=>exact h1.2 rfl s1 S1 Q E fun fl a fr2 H2 s2 h2 c2 S2 K2=>f fl a fr2 H2 s2 h2 c2 S2 (K1.trans K2))
theorem zQ.expr(hi:eY x.env=false)(hs:uH e none pos.line x.env=pure false)(h:zL x fr H (zR e x.env) fun U H1=>k .next fr H1):zQ x fr H (tx (.Expr e pos) x.env) k:=fun s S U E f =>
 wpAny_Expr_any (h s S _ E fun U U H1 s1 h1 U S1 K1=>f .next .next fr H1 s1 h1 rfl S1 K1) hi hs
theorem zQ.mono(h:zQ x fr H t k)(i:∀a fr' H',k a fr' H'→k' a fr' H'):zQ x fr H t k':=
 fun s S Q E f=>h s S Q E fun v a fr' H' s' q=>f v a fr' H' s' (i _ _ _ q)
noncomputable def fK:AV→Bool
 |.glob v=>handedIn v
 |.ext _=>false
 |_=>true
abbrev bd(a:AV):Prop:=fK a=true
def cR(T:zI→Str→Bool)(o:AV)(n:Str)(v:AV)(H:List AObj)(k:List AObj→Prop):Prop:=
 fP o fun i=>ZE H[i]? fun C fs=>yD (T C n&&decide (fs.length≤999)) (k (H.set i (.inst C (xp n v fs))))
def dQ(T:zI→Str→Bool)(o:AV)(n:Str)(H:List AObj)(k:AV→Prop):Prop:=
 fP o fun i=>ZE H[i]? fun C fs=>xW (lk n fs) fun av=>yD (T C n&&fK av) (k av)
theorem qI(c:y2 ρ h (.obj i) v):∃a,ρ.ob[i]?=some a∧v=.ref a:=by exact c
theorem QV(c:y2 ρ h av v)(e:bd av):handedIn v=true:=by
 cases av with
 |none=>cases uc c;rfl
 |bool b=>cases WZ c;rfl
 |int i=>(refine yf (uo c) fun t z1=>?_;subst z1);rfl
 |str i=>(refine yf (xm c) fun t z1=>?_;subst z1);rfl
 |glob g=>refine zc (wo c) ?_;exact e
 |dq=>(refine xk c fun a k z2 z3 z4=>?_;clear c;subst z2;clear z3;clear z4);rfl
 |rng n=>(refine xd c fun a t u z3=>?_;clear c;refine wO z3 fun w z5 z6 z7=>?_;clear z3;subst z5;clear z6;clear z7);rfl
 |list l=>(refine x7 (xY c) fun a vs z2 z3 z4 z5=>?_;subst z2;clear z3;clear z4;clear z5);rfl
 |tup l=>(refine x7 (Zw c) fun a vs z2 z3 z4 z5=>?_;subst z2;clear z3;clear z4;clear z5);rfl
 |obj i=>(refine zt (qI c) fun a z1 z2=>?_;clear z1;subst z2);rfl
 |ext P=>exact fT e
variable {K:uQ} {T:zI→Str→Bool}
theorem Wb(X:K.In x.B)(hT:∀C n,T C n=true→xA K C n=true)(h:cR T o n v H kk)(S:St x fr H s)(co:y2 x.ρ s.heap o vo)(cv:y2 x.ρ s.heap v vv)(f:∀H' s',kk H'→St x fr H' s'→Kept x s s'→Q () s'):zr (zu pw x.w) x.A (setAttr vo n vv) Q E s:=by
 refine zt (Xi h) fun i z1 h=>?_;subst z1
 ·refine zt (qI co) fun a' ha' z2=>?_;subst z2
  refine yW (qT h) fun C fs hi h=>?_
  ·refine x7 (S.objs _ _ hi) fun a d ha hd h1 z5=>?_;refine yW z5 fun es q h2 h3=>?_;clear z5
   rw[ha']at ha;(replace ha:=zf ha;subst ha)
   refine zK (yg h) fun g1 g2=>?_
   rw[zk,decide_eq_true_eq]at g1
   refine mV (X.keeps S.base) h1 h2 (hT _ _ g1.1) h3.noRef (by refine zc h3.length ?_;exact g1.2) ?_
   have sb:yo d s.heap (s.heap.update d (YA n (zz x.w.params n) (.str n (s.toks+1)) vv)):=zW ..
   have e:=putName_dict n (zz x.w.params n) (.str n (s.toks+1)) vv es q
   have g:(s.heap.update d (YA n (zz x.w.params n) (.str n (s.toks+1)) vv)).get? d=some (tJ (putL n (zz x.w.params n) (.str n (s.toks+1)) vv es) (putN n es q)):=
    (zP _ h2 (by refine zc e ?_;rfl)).trans (congrArg some e)
   have ht:uG x d:=.inr (.inr (zH hd))
   have nm:=S.nonMut1 ht sb
   exact f _ _ g2 (S.setObj hi ha' hd sb g rfl ⟨S.fix1 ht sb h1 rfl,_,_,g,(h3.mono nm).put (cv.mono nm)⟩) (St.kept1 ht sb)
theorem Wg(X:K.In x.B)(hT:∀C n,T C n=true→xA K C n=true)(h:dQ T o n H kk)(S:St x fr H s)(co:y2 x.ρ s.heap o vo)(f:∀v a s',kk a→y2 x.ρ s'.heap a v→Ext s s'→Q v s'):zr (zu pw x.w) x.A (W7 vo n ex) Q E s:=by
 refine zt (Xi h) fun i z1 h=>?_;subst z1
 refine zt (qI co) fun a' ha' z2=>?_;subst z2
 refine yW (qT h) fun C fs hi h=>zt (xz h) fun av hl h=>x7 (S.objs _ _ hi) fun a d ha hd h1 z5=>?_;refine yW z5 fun es q h2 h3=>?_;clear z5
 rw[ha']at ha;(replace ha:=zf ha;subst ha)
 refine zt (h3.look hl) fun u hu cu=>zK (yg h) fun g1 g2=>?_
 have g1:=yt.mp g1
 exact dO (X.keeps S.base) h1 h2 (hT _ _ g1.1) hu (QV cu g1.2) (f u av _ g2 cu (Ext.toks s _))
theorem zL.attr(X:K.In x.B)(hT:∀C n,T C n=true→xA K C n=true){n attr:Str}{np pos:ZJ}{ke:AV→List AObj→Prop}(h:zL x fr H (zR (.Name n np) x.env) fun o H1=>dQ T o attr H1 fun a=>ke a H1):zL x fr H (zR (.Attribute (.Name n np) attr pos) x.env) ke:=fun s S U E f =>
 YI (h s S _ E fun U o H1 s1 h1 c1 S1 K1=>Wg X hT h1 S1 c1 fun v a s2 h2 c2 X2=>f v a H1 s2 h2 c2 (S1.ext X2) (K1.trans (X2.kept x)))
theorem zQ.assign_attr(X:K.In x.B)(hT:∀C n,T C n=true→xA K C n=true)(hs:uH e (some (.Attribute o attr p)) pos.line x.env=pure false)(h:zL x fr H (zR e x.env) fun v H1=>zL x fr H1 (zR o x.env) fun o H2=>cR T o attr v H2 fun H3=>k .next fr H3):zQ x fr H (tx (.Assign [.Attribute o attr p] e pos) x.env) k:=fun s S U E f =>
 Zk (h s S _ E fun U U U s1 h1 c1 S1 K1=>h1 s1 S1 _ E fun U U U s2 h2 c2 S2 K2=>Wb X hT h2 S2 c2 (c1.mono (S1.nonMut K2)) fun H3 s3 h3 S3 K3=>f .next .next fr H3 s3 h3 rfl S3 (K1.trans (K2.trans K3))) hs
def pe(op:Operator)(a b:AV)(k:AV→Prop):Prop:=
 match op with
 |.Add=>(match a with
  |.int a=>ZV b fun b=>k (.int (a+b))
  |.str a=>Zc b fun b=>a.length+b.length≤sizeLine∧k (.str (a++b))
  |_=>False)
 |_=>False
theorem gg(h:pe op a b kk)(ca:y2 ρ s.heap a va)(cb:y2 ρ s.heap b vb)(f:∀v c s',kk c→y2 ρ s'.heap c v→Ext s s'→Q v s'):zr (zu pw x.w) A (inplaceOp op va vb) Q E s:=by
 cases op with
 |Add =>
  cases a with
  |int i =>
   (refine yf (uo ca) fun t z1=>?_;subst z1);(refine yW (ul h cb) fun j u z2 h=>?_;subst z2)
   exact PySem.P.iadd_int (f _ _ _ h (Zd _ _) (Ext.toks _ _))
  |str i =>
   (refine yf (xm ca) fun t z1=>?_;subst z1);(refine yW (u6 h cb) fun j u z2 h=>?_;subst z2)
   exact SB.iadd (fun t' q=>f _ _ _ h.2 (vO _ _) (Ext.toks _ _)) h.1
  |_=>exact h.elim
 |_=>exact h.elim
theorem zQ.aug_attr(X:K.In x.B)(hT:∀C n,T C n=true→xA K C n=true)(h:zL x fr H (zR o x.env) fun o H1=>dQ T o attr H1 fun old=>zL x fr H1 (zR e x.env) fun v H2=>pe op old v fun new=>cR T o attr new H2 fun H3=>k .next fr H3):
  zQ x fr H (tx (.AugAssign (.Attribute o attr p) op e pos) x.env) k:=fun s S U E f =>
 wpAny_AugAssign_AttributeAny (h s S _ E fun U o H1 s1 h1 c1 S1 K1=>Wg X hT h1 S1 c1 fun U old s2 h2 c2 X2=>h2 s2 (S1.ext X2) _ E fun U v H2 s3 h3 c3 S3 K3 =>
  gg h3 (c2.mono ((S1.ext X2).nonMut K3)) c3 fun U new s4 h4 c4 X4=>Wb X hT h4 (S3.ext X4) ((c1.mono X2.nonMut).mono (((S1.ext X2).nonMut K3).trans X4.nonMut)) c4 fun H3 s5 h5 S5 K5 =>
   f .next .next fr H3 s5 h5 rfl S5 (K1.trans ((X2.kept x).trans (K3.trans ((X4.kept x).trans K5)))))
end
end
section
noncomputable def Cx.at'(x:Cx)(A:y1)(env:Qx)(oc more:List zI)(fs:List zI:=x.fs):Cx:={x with A:=A,env:=env,oc:=oc,ρ:=⟨x.ρ.ob,more++x.ρ.op⟩,fs:=fs}
structure Chg(x:Cx)(s s':zg):Prop where
 rest:∃h t d,s'={s with heap:=h,toks:=t,drawn:=d}
 keep:∀a o,s.heap.get? a=some o→a∉x.δ→∃o',s'.heap.get? a=some o'∧tu o o'
theorem Chg.keepN{x:Cx}{s s':zg}(K:Chg x s s'){a:zI}{o:xK}(e:s.heap.get? a=some o)(n:a∉x.δ)(h:um o=false):s'.heap.get? a=some o:=by
 refine zt (K.keep a o e n) fun o' e' q=>?_
 rw[q.eq h]at e';exact e'
theorem Chg.refl(x:Cx)(s:zg):Chg x s s:=⟨⟨_,_,_,rfl⟩,fun U o e U=>⟨o,e,.refl o⟩⟩
theorem Chg.trans{x:Cx}{s s' s'':zg}(a:Chg x s s')(b:Chg x s' s''):Chg x s s'':=
 ⟨by(refine xd a.rest fun h t d z3=>?_;subst z3);(refine xd b.rest fun h' t' d' z3=>?_;subst z3);exact⟨h',t',d',rfl⟩,fun c o e n=>by
  exact zt (a.keep c o e n) fun o1 e1 q1=>zt (b.keep c o1 e1 n) fun o2 e2 q2=>⟨o2,e2,q1.trans q2⟩⟩
theorem Chg.kept{x:Cx}{s s':zg}(a:Chg x s s'):Kept x s s':=⟨a.rest,fun c o e n=>a.keep c o e fun q=>n (.inr (.inr q))⟩
theorem Ext.chg{s s':zg}(a:Ext s s')(x:Cx):Chg x s s':=⟨a.rest,fun c o e U=>⟨o,a.keep c o e,.refl o⟩⟩
theorem Chg.of_kept{x:Cx}{s s1 s':zg}{A:y1}{env:Qx}{oc more fs:List zI}(a:Chg x s s1)(K:Kept (x.at' A env oc more fs) s1 s')(n1:s.heap.get? env.locals=none)(n2:∀c∈oc,s.heap.get? c=none):Chg x s s':=
 ⟨by(refine xd a.rest fun h t d z3=>?_;subst z3);(refine xd K.rest fun h' t' d' z3=>?_;subst z3);exact⟨h',t',d',rfl⟩,fun c o e n=>by
  refine zt (a.keep c o e n) fun o1 e1 q1=>zt (K.keep c o1 e1 fun t=>by
   rcases t with t|t|t
   ·rw[show c=env.locals from t,n1]at e;cases e
   ·rw[n2 c t]at e;cases e
   ·exact n t) fun o2 e2 q2=>?_
  exact⟨o2,e2,q1.trans q2⟩⟩
theorem vC.close{w:ya}{ob X Y:List zI}{h:xO}(hs:∀a∈X,a∈Y):∀{fs:List (Str×AV)} {es:List yE},vC w ⟨ob,Y⟩ h fs es→vC w ⟨ob,X⟩ h fs es
 |[],_,c=>c
 |p::fs,_,⟨t,v,r,e,hc,hr⟩=>⟨t,v,r,e,hc.close hs,hr.close hs⟩
theorem vC.open{w:ya}{ob X Y:List zI}{h:xO}(hb:∀b∈Y,h.get? b=none):∀{fs:List (Str×AV)} {es:List yE},vC w ⟨ob,X⟩ h fs es→vC w ⟨ob,Y++X⟩ h fs es
 |[],_,c=>c
 |p::fs,_,⟨t,v,r,e,hc,hr⟩=>⟨t,v,r,e,hc.open hb,hr.open hb⟩
theorem qn.close{w:ya}{ob X Y:List zI}{h:xO}{a d:zI}(hs:∀a∈X,a∈Y):∀{o:AObj},qn w ⟨ob,Y⟩ h a d o→qn w ⟨ob,X⟩ h a d o
 |.inst _ _,⟨x,es,n,y,z⟩=>⟨x,es,n,y,z.close hs⟩
 |.dict _,⟨x,es,n,y,z⟩=>⟨x,es,n,y,z.close hs⟩
theorem qn.open{w:ya}{ob X Y:List zI}{h:xO}{a d:zI}(hb:∀b∈Y,h.get? b=none):∀{o:AObj},qn w ⟨ob,X⟩ h a d o→qn w ⟨ob,Y++X⟩ h a d o
 |.inst _ _,⟨x,es,n,y,z⟩=>⟨x,es,n,y,z.open hb⟩
 |.dict _,⟨x,es,n,y,z⟩=>⟨x,es,n,y,z.open hb⟩
theorem Zx{h h':xO}{a:zI}{m:Str→Option zi}(n:h.Ns a m)(e:∀o,h.get? a=some o→h'.get? a=some o):h'.Ns a m:=
 let⟨o,es,ep,ho,r⟩:=n;⟨o,es,ep,e o ho,r⟩
theorem W5{h h':xO}{a:zI}{m:Str→Option zi}(n:h.Ns a m)(e:∀o,h.get? a=some o→∃o',h'.get? a=some o'∧tu o o'):h'.Ns a m:=
 let⟨o,es,ep,ho,hd,r⟩:=n;let⟨o',h,q⟩:=e o ho;⟨o',es,ep,h,q.data.trans hd,r⟩
theorem St.back{x:Cx}{fr fr':List (Str×AV)}{H H':List AObj}{s s':zg}{A:y1}{env:Qx}{oc more fs:List zI}(S:St x fr H s)(S':St (x.at' A env oc more fs) fr' H' s')(C:Chg x s s'):St x fr H' s':=by
 have nm:yH x.ρ.op s.heap s'.heap:=S.nonMut C.kept
 have hs:∀a∈x.ρ.op,a∈more++x.ρ.op:=fun a q=>zD _ q
 refine yU S.frame fun z0 c1 c2=>?_;obtain⟨mm,n,f⟩:=z0
 have cl:∀{n q},x.env.cells.lookup n=some q→q∉x.δ:=fun{n q} e=>(S.own.2 _ (xb e)).1
 refine⟨S'.base,S.apart,fun a t=>?_,⟨⟨mm,W5 n fun o e=>C.keep _ _ e S.own.1,fun y av e q=>?_⟩,fun y av e q=>?_,fun y e=>?_⟩,fun i o e=>?_,S'.lim,S.nodup,S.own,S.cnod,fun a q=>S'.opn a (hs a q),S.ocs,S'.ol,fun c q=>?_,fun L q=>?_⟩
 ·rcases t with t|t|t
  ·exact zt (S.kinds a (.inl t)) fun o h m=>zt (C.keep a o h (t▸S.own.1)) fun o' h' r=>⟨o',h',by refine zc r.cls ?_;exact m⟩
  ·exact zt (S.kinds a (.inr (.inl t))) fun o h m=>zt (C.keep a o h (S.own.2 a (S.ocs a t)).1) fun o' h' r=>⟨o',h',by refine zc r.cls ?_;exact m⟩
  ·exact S'.kinds a (.inr (.inr t))
 ·refine zt (f y av e q) fun v p r=>?_;exact⟨v,p,r.mono nm⟩
 ·refine xk (c1 y av e q) fun cc v p b d=>?_;exact⟨cc,v,p,C.keepN b (cl p) rfl,d.mono nm⟩
 ·refine yW (c2 y e) fun cc v p b=>?_;exact⟨cc,v,p,C.keepN b (cl p) rfl⟩
 ·exact xk (S'.objs i o e) fun a d p q r=>⟨a,d,p,q,r.close hs⟩
 ·refine yf (S.cex c q) fun o h=>zt (C.keep c o h (S.own.2 c q).1) fun o' h' z2=>?_;clear z2
  exact⟨o',h'⟩
 ·refine yU (S.frs L q) fun a b z2=>?_;refine VD z2 fun o es ep h r1 r2=>?_;clear z2
  exact zt (C.keep L o h b) fun o' h' r=>⟨a,b,o',es,ep,h',by refine zc (WS r.cls) ?_;exact r1,r.data.trans r2⟩
theorem xt:∀(names:List (Str×NameKind)) (n:Nat) (acc:List (Str×Addr)),xF n names acc=xF n names []++acc
 |[],_,_=>rfl
 |(name,kind)::r,n,acc=>by
  unfold xF
  split
  ·refine zc (xt r (n+1) ((name,n)::acc)) (zc (xt r (n+1) [(name,n)]) (zc (zA ..) ?_));rfl
  ·exact xt r n acc
theorem ZG:∀(names:List (Str×NameKind)) (h:xO) {n:Str} {c:zI},(n,c)∈xF h.objs.size names []→(rJ h names).get? c=some {cls:=.type "cell",data:=.cell none}∧h.objs.size≤c∧(n,wK)∈names
 |[],_,_,_,h=>by cases h
 |(name,kind)::r,h,n,c,hm=>by
  unfold xF at hm
  unfold rJ
  split at hm
  ·rename_i hk
   refine zc (if_pos hk) ?_
   rw[xt]at hm
   rcases zv.mp hm with hm|hm
   ·have:=ZG r (h.push {cls:=.type "cell",data:=.cell none}) (n:=n) (c:=c) (by refine zc (xu ..) ?_;exact hm)
    rw[xu]at this
    exact⟨this.1,zN 1628655717 [h.objs.size,c] this.2.1 rfl,.tail _ this.2.2⟩
   ·cases hm with
    |head=>exact⟨gZ _ _ _ _ (zx _ rfl),zX _,by refine zc (show kind=.cell by simpa using hk) ?_;exact .head _⟩
    |tail _ hm=>cases hm
  ·rename_i hk
   exact zc (if_neg hk) (yU (ZG r h hm) fun p q t=>⟨p,q,.tail _ t⟩)
theorem ur:∀(names:List (Str×NameKind)) (n:Nat) {c:zI},c∈(xF n names []).map (·.2)→n≤c
 |[],_,_,h=>by cases h
 |(name,kind)::r,n,c,hm=>by
  unfold xF at hm
  split at hm
  ·rw[xt,yc]at hm
   rcases zv.mp hm with hm|hm
   ·exact qp (ur r (n+1) hm)
   ·simp at hm;exact ze hm.symm
  ·exact ur r n hm
theorem qy:∀(names:List (Str×NameKind)) (n:Nat),((xF n names []).map (·.2)).Nodup
 |[],_=>wC
 |(name,kind)::r,n=>by
  unfold xF
  split
  ·refine zc (xt ..) (zc yc ?_)
   refine uw.mpr ⟨qy r (n+1),by simp,fun a ha b hb e=>?_⟩
   have:=ur r (n+1) ha
   simp at hb
   rw[e,hb]at this
   exact absurd this (Vf n)
  ·exact qy r n
theorem t9:∀(names:List (Str×NameKind)) (n:Nat) {x:Str},(x,wK)∈names→∃c,(xF n names []).lookup x=some c
 |[],_,_,h=>by cases h
 |(name,kind)::r,n,x,h=>by
  unfold xF
  split
  ·rename_i hk
   refine zc (xt ..) (zc tE ?_)
   cases h with
   |head=>cases q:(xF (n+1) r []).lookup name with
    |none=>exact⟨n,by refine zc yd ?_;simp⟩
    |some c=>exact⟨c,rfl⟩
   |tail _ h =>
    exact yf (t9 r (n+1) h) fun c e=>⟨c,by refine zc e ?_;rfl⟩
  ·rename_i hk
   cases h with
   |head=>exact absurd rfl hk
   |tail _ h=>exact t9 r n h
structure Capt(ρ:Rho)(δ:List zI)(h:xO)(names:List (Str×NameKind))(cl:List (Str×Addr))(frc:List (Str×AV)):Prop where
 all:∀n,names.lookup n=some .free→∃c vo,cl.lookup n=some c∧h.get? c=some {cls:=.type "cell",data:=.cell vo}
 val:∀n av,lk n frc=some av→names.lookup n=some .free∧∃c v,cl.lookup n=some c∧h.get? c=some {cls:=.type "cell",data:=.cell (some v)}∧y2 ρ h av v
 far:∀c∈cl.map (·.2),c∉δ∧∃o,h.get? c=some o
 nd:(cl.map (·.2)).Nodup
theorem wG{n:Str}{q:G5}:∀{l:List (Str×NameKind)},l.lookup n=some q→(n,q)∈l:=by
 intro l0
 induction l0 with
 |nil =>
  intro h
  simp at h
 |cons p l ih =>
  intro h
  rw[yd]at h
  split at h
  ·rename_i e
   replace h:=zf h;subst h
   have:n=p.1:=by simpa using e
   refine zc this ?_;exact .head _
  ·exact .tail _ ((ih h))
theorem Capt.nil{ρ:Rho}{δ:List zI}{h:xO}{names:List (Str×NameKind)}(hn:names.all (fun p=>p.2 != .free)=true):Capt ρ δ h names [] [] where
 all n e:=by
  rw[zJ]at hn
  have:=hn _ (wG e)
  exact fT this
 val _ _ e:=by exact nS e
 far _ h:=by cases h
 nd:=wC
variable {x:Cx} {fr:List (Str×AV)} {H:List AObj}
theorem St.enter{s:zg}(S:St x fr H s){names:List (Str×NameKind)}{cl:List (Str×Addr)}{frc:List (Str×AV)}{A:y1}{env:Qx}{tn:String}(C:Capt x.ρ x.δ s.heap names cl frc)(hT:u8 (.type tn)=true)(hcons:∀p∈names,names.lookup p.1=some p.2)(hs:env.scope.names=names)(hl:env.locals=s.heap.objs.size)(hc:env.cells=xF (s.heap.objs.size+1) names cl){fs:List zI}(hfs:fs=x.fs∨(fs=env.locals::x.fs∧tn = "frame")):
  let h1:=rJ (s.heap.push {cls:=.type tn,data:=.dict #[]}) names
  let oc:=(xF (s.heap.objs.size+1) names []).map (·.2)
  St (x.at' A env oc [] fs) frc H {s with heap:=h1}∧Ext s {s with heap:=h1}∧s.heap.get? env.locals=none∧∀c∈oc,s.heap.get? c=none:=by
 intro h1 oc
 have kp:∀a o,s.heap.get? a=some o→h1.get? a=some o:=fun a o e=>gZ _ _ _ _ (zq _ e)
 have none_of:∀{a:zI},s.heap.objs.size≤a→s.heap.get? a=none:=fun{a} q=>by
  cases e:s.heap.get? a with
  |none=>rfl
  |some o=>exact absurd (zY e) (Un.mpr q)
 have X:Ext s {s with heap:=h1}:=⟨⟨_,_,_,rfl⟩,kp⟩
 have n1:s.heap.get? env.locals=none:=none_of (ze hl.symm)
 have n2:∀c∈oc,s.heap.get? c=none:=fun c q=>none_of (qp (ur _ _ q))
 have Lo:h1.get? env.locals=some {cls:=.type tn,data:=.dict #[]}:=by refine zc hl ?_;exact gZ _ _ _ _ (zx _ rfl)
 have sz:(s.heap.push {cls:=.type tn,data:=.dict #[]}).objs.size=s.heap.objs.size+1:=xu ..
 have co:∀{n c},(n,c)∈xF (s.heap.objs.size+1) names []→h1.get? c=some {cls:=.type "cell",data:=.cell none}∧s.heap.objs.size+1≤c∧(n,wK)∈names:=fun{n c} q=>by
  have:=ZG names (s.heap.push {cls:=.type tn,data:=.dict #[]}) (n:=n) (c:=c) (by refine zc sz ?_;exact q)
  rw[sz]at this;exact this
 have dl:∀d∈x.δ,d<s.heap.objs.size:=fun d q=>by
  (refine zt (S.kinds d (.inr (.inr q))) fun o e z2=>?_;clear z2);exact zY e
 have nb:∀{a},s.heap.get? a=none→x.B.get? a=none:=fun{a} q=>by
  cases e:x.B.get? a with
  |none=>rfl
  |some o=>rw[S.base a o e]at q;exact Sn q
 have nm:yH x.ρ.op s.heap h1:=.of_all kp
 have hk:∀y,env.kindOf y=names.lookup y:=fun y=>by show env.scope.names.lookup y=_;exact zc hs rfl
 have free_new:∀{y},names.lookup y=some .free→(xF (s.heap.objs.size+1) names []).lookup y=none:=fun{y} e=>by
  cases q:(xF (s.heap.objs.size+1) names []).lookup y with
  |none=>rfl
  |some c =>
   have:=hcons _ (co (vD q)).2.2
   rw[e]at this;cases this
 have lkf:∀{y},names.lookup y=some .free→env.cells.lookup y=cl.lookup y:=fun{y} e=>by
  refine zc hc (zc (xt ..) (zc tE (zc (free_new e) ?_)));rfl
 have cm:env.cells.map (·.2)=oc++cl.map (·.2):=by exact zc hc (zc (xt ..) (zc yc rfl))
 refine⟨⟨fun a o e=>kp a o (S.base a o e),fun a t=>?_,fun a t=>?_,⟨⟨fun U=>none,?_,fun y av e q=>?_⟩,fun y av e q=>?_,fun y e=>?_⟩,fun i o e=>?_,S.lim.keeps kp,S.nodup,⟨?_,fun c q=>?_⟩,?_,fun a q=>?_,fun c q=>?_,S.ol,fun c q=>?_,fun L q=>?_⟩,X,n1,n2⟩
 ·rcases t with t|t|t
  ·refine zc (show a=env.locals from t) ?_
   exact⟨nb n1,by refine zc hl ?_;exact Nat.ne_of_gt S.big⟩
  ·exact⟨nb (n2 a t),Nat.ne_of_gt (yq S.big (qp (ur _ _ t)))⟩
  ·exact S.apart a (.inr (.inr t))
 ·rcases t with t|t|t
  ·exact zc (show a=env.locals from t) ⟨_,Lo,hT⟩
  ·refine zt (zB.mp t) fun z0 q e=>?_;obtain⟨n,c⟩:=z0
   subst e
   exact⟨_,(co q).1,rfl⟩
  ·exact zt (S.kinds a (.inr (.inr t))) fun o e m=>⟨o,kp _ _ e,m⟩
 ·exact⟨_,#[],0,Lo,rfl,fun U he=>by simp at he,fun U=>rfl⟩
 ·have:=(C.val y av q).1
  have e:env.kindOf y=some .local:=e
  rw[hk,this]at e;cases e
 ·refine zK (C.val y av q) fun a z1=>?_;refine xk z1 fun c v p b d=>?_;clear z1
  exact⟨c,v,(lkf a).trans p,kp _ _ b,d.mono nm⟩
 ·have e:env.kindOf y=some .cell∨env.kindOf y=some .free:=e
  rw[hk]at e
  rcases e with e|e
  ·exact yf (t9 names (s.heap.objs.size+1) (wG e)) fun c q=>⟨c,none,by refine zc hc (zc (xt ..) (zc tE (zc q ?_)));rfl,(co (vD q)).1⟩
  ·exact yW (C.all y e) fun c vo p b=>⟨c,vo,(lkf e).trans p,kp _ _ b⟩
 ·exact xk (S.objs i o e) fun a d p q r=>⟨a,d,p,q,r.ext kp⟩
 ·intro q
  have:=dl _ q
  rw[show(x.at' A env oc [] fs).env.locals=s.heap.objs.size from hl]at this
  exact yI _ this
 ·have q:c∈env.cells.map (·.2):=q
  rw[cm]at q
  rcases zv.mp q with q|q
  ·have:=ur _ _ q
   exact⟨fun z=>absurd (lC (Nat.lt_of_succ_le this) (dl c z)) (yI _),fun z=>by
    have z:c=env.locals:=z
    rw[z,hl]at this
    exact absurd this (Vf _)⟩
  ·refine zK (C.far c q) fun a z1=>?_;refine yf z1 fun o b=>?_;clear z1
   exact⟨a,fun z=>by
    have z:c=env.locals:=z
    rw[z,n1]at b;exact nS b⟩
 ·refine(?_:(env.cells.map (·.2)).Nodup)
  refine zc cm (uw.mpr ⟨qy _ _,C.nd,fun a ha b hb e=>?_⟩)
  refine zK (C.far b hb) fun z0 z1=>?_;clear z0;refine yf z1 fun o q=>?_;clear z1
  rw[←e,n2 a ha]at q;exact nS q
 ·exact yf (S.opn a q) fun o e=>⟨o,kp _ _ e⟩
 ·refine(?_:c∈env.cells.map (·.2))
  refine zc cm ?_;exact xV _ q
 ·have q:c∈env.cells.map (·.2):=q
  rw[cm]at q
  rcases zv.mp q with q|q
  ·refine zt (zB.mp q) fun z0 q' e=>?_;obtain⟨n,c⟩:=z0
   subst e
   exact⟨_,(co q').1⟩
  ·refine zK (C.far c q) fun z0 z1=>?_;clear z0;refine yf z1 fun o b=>?_;clear z1
   exact⟨o,kp _ _ b⟩
 ·have old:∀L∈x.fs,x.B.get? L=none∧L∉x.δ∧∃o es ep,h1.get? L=some o∧um o=true∧o.data=.dict es ep:=fun L q=>by
   refine yU (S.frs L q) fun a b z2=>?_;refine Qh z2 fun o es ep h r=>?_;clear z2
   exact⟨a,b,o,es,ep,kp _ _ h,r⟩
  rcases hfs with rfl|⟨rfl,rfl⟩
  ·exact old L q
  ·have q:L∈env.locals::x.fs:=q
   rcases zn.mp q with rfl|q
   ·refine⟨nb n1,fun z=>?_,_,_,_,Lo,rfl,rfl⟩
    have:=dl _ z
    rw[hl]at this
    exact yI _ this
   ·exact old L q
end
section
def Zj(ρ:Rho)(h:xO):List (Str×AV)→List (Str×Value)→Prop
 |[],bs=>bs=[]
 |p::l,bs=>∃v r,bs=(p.1,v)::r∧y2 ρ h p.2 v∧Zj ρ h l r
theorem Zj.mono(x:yH ρ.op h h'):∀{l:List (Str×AV)} {bs:List (Str×Value)},Zj ρ h l bs→Zj ρ h' l bs:=by
 intro l0
 induction l0 with
 |nil =>
  intro _ c
  exact c
 |cons _ _ ih =>
  rintro _ ⟨v,r,e,hc,hr⟩
  exact⟨v,r,e,hc.mono x,(ih hr)⟩
noncomputable def vI:List (Str×AV)→List (Str×AV)→List (Str×AV)
 |fr,[]=>fr
 |fr,p::l=>vI (xp p.1 p.2 fr) l
theorem St.reA{x:Cx}{fr:List (Str×AV)}{H:List AObj}{s:zg}{A A':y1}{env:Qx}{oc more fs:List zI}(S:St (x.at' A env oc more fs) fr H s):St (x.at' A' env oc more fs) fr H s:=
 ⟨S.base,S.apart,S.kinds,S.frame,S.objs,S.lim,S.nodup,S.own,S.cnod,S.opn,S.ocs,S.ol,S.cex,S.frs⟩
theorem St.self(S:St x fr H s):St (x.at' x.A x.env x.oc []) fr H s:=S
noncomputable def Ny(around:Option Qx)(b:zI):zI:=match around with|some o=>o.builtins|none=>b
structure EnvOk(scope:qv)(globals builtins:zI)(env:Qx)(oc:List zI):Prop where
 sc:env.scope=scope
 gl:env.globals=globals
 bi:env.builtins=builtins
 own:∀n c,scope.names.lookup n=some .cell→env.cells.lookup n=some c→c∈oc
noncomputable def Bc(around:Option Qx)(L:zI)(fs:List zI):List zI:=match around with
 |some _=>fs
 |none=>L::fs
theorem am(hk:x.env.scope.kind=.function)(f:Str×Value→PUnit→VL (ForInStep PUnit))(hf:∀n v u,f (n,v) u=(do Wu x.env n v;pure (.yield ⟨⟩))):
  ∀(bavs:List (Str×AV)) (binds:List (Str×Value)) (fr:List (Str×AV)) (H:List AObj) (s:zg) (Q:PUnit→zg→Prop),Zj x.ρ s.heap bavs binds →
   (∀p∈bavs,x.env.kindOf p.1=some .local∨(x.env.kindOf p.1=some .cell∧∀c,x.env.cells.lookup p.1=some c→c∈x.oc))→St x fr H s →
   (∀s',St x (vI fr bavs) H s'→Kept x s s'→Q ⟨⟩ s')→zr (zu pw x.w) x.A (forIn binds ⟨⟩ f) Q E s:=by
 intro l0
 induction l0 with
 |nil =>
  intro _ fr H s Q c _ S h
  cases c
  refine zc cz ?_;exact wpAny_pure (h s S (Kept.refl _ _))
 |cons p l ih =>
  rintro _ fr H s Q ⟨v,r,e,hc,hr⟩ hl S h
  subst e
  refine zc (XF ..) (zc (hf ..) ?_)
  refine zb (zb (wv (kk:=fun fr' H'=>fr'=xp p.1 p.2 fr∧H'=H) hk (hl p (.head _)) ⟨rfl,rfl⟩ S hc fun fr' H' s' hh S' K'=>wpAny_pure ?_))
  refine zK hh fun z0 z1=>?_;clear hh;subst z0;subst z1
  exact(ih r _ H' s' Q (hr.mono (S.nonMut K')) (fun q hq=>hl q (.tail _ hq)) S' fun s'' S'' K''=>h s'' S'' (K'.trans K''))
section
variable {x:Cx} {fr:List (Str×AV)} {H:List AObj} {s:zg} {E:zi→zg→Prop}
theorem u5(S:St x fr H s){scope:qv}{globals:zI}{closure:List (Str×Addr)}{binds:List (Str×Value)}{bavs frc:List (Str×AV)}{qual:Str}{func:Option zI}{code:zi}{around:Option Qx}{builtins:zI}{Q:Qx→zg→Prop}(C:Capt x.ρ x.δ s.heap scope.names closure frc)(hcons:∀p∈scope.names,scope.names.lookup p.1=some p.2)(hk:scope.kind=.function)(hB:Zj x.ρ s.heap bavs binds)(hl:∀p∈bavs,scope.names.lookup p.1=some .local∨scope.names.lookup p.1=some .cell)(hQ:∀env oc s1,env=newEnv scope s.heap.objs.size globals (xF (s.heap.objs.size+1) scope.names closure) qual func code around builtins→EnvOk scope globals (Ny around builtins) env oc →
   (∀A,St (x.at' A env oc [] (Bc around env.locals x.fs)) (vI frc bavs) H s1)→Chg x s s1→s.heap.get? env.locals=none→(∀c∈oc,s.heap.get? c=none)→s1.heap.NoLimit→(∀c∈env.cells.map (·.2),c∈oc∨c∈closure.map (·.2))→Q env s1):
  zr (zu pw x.w) x.A (vV scope globals closure binds qual func code around builtins) Q E s:=by
 have key:∀(env:Qx) (tn:String),(Bc around env.locals x.fs=x.fs∨(Bc around env.locals x.fs=env.locals::x.fs∧tn = "frame"))→env=newEnv scope s.heap.objs.size globals (xF (s.heap.objs.size+1) scope.names closure) qual func code around builtins→u8 (.type tn)=true →
   zr (zu pw x.w) x.A (do {for (name,v)in binds do {Wu env name v};return env}) Q E {s with heap:=rJ (s.heap.push {cls:=.type tn,data:=.dict #[]}) scope.names}:=by
  intro env tn hfs he hT
  have hs:env.scope=scope:=by refine zc he ?_;cases around<;>rfl
  have hlo:env.locals=s.heap.objs.size:=by refine zc he ?_;cases around<;>rfl
  have hc:env.cells=xF (s.heap.objs.size+1) scope.names closure:=by refine zc he ?_;cases around<;>rfl
  have hg:env.globals=globals:=by refine zc he ?_;cases around<;>rfl
  have hb:env.builtins=(Ny around builtins):=by refine zc he ?_;cases around<;>rfl
  refine Qi (S.enter (A:=x.A) (env:=env) (tn:=tn) C hT hcons (by rw[hs]) hlo hc hfs) fun S1 X1 n1 n2=>?_
  have ho:∀n c,scope.names.lookup n=some .cell→env.cells.lookup n=some c→c∈(xF (s.heap.objs.size+1) scope.names []).map (·.2):=fun n c e q=>by
   refine yf (t9 scope.names (s.heap.objs.size+1) (wG e)) fun c' e'=>?_
   rw[hc,xt,tE,e']at q
   have:c'=c:=zf q
   refine xv this ?_;exact xb e'
  refine zb (am (x:=x.at' x.A env _ [] (Bc around env.locals x.fs)) (by show env.scope.kind=_;refine zc hs ?_;exact hk) _ (fun U U U=>rfl) bavs binds frc H _ _ (hB.mono (X1.nonMut)) (fun p hp=>?_) S1 fun s' S' K'=>wpAny_pure ?_)
  ·refine(?_:env.scope.names.lookup p.1=_∨(env.scope.names.lookup p.1=_∧_))
   refine zc hs ?_
   rcases hl p hp with h|h
   ·exact .inl h
   ·exact .inr ⟨h,fun c q=>ho _ _ h q⟩
  ·exact hQ env _ s' he ⟨hs,hg,hb,ho⟩ (fun A=>S'.reA) (Chg.of_kept (X1.chg x) K' n1 n2) n1 n2 S'.lim.no fun c q=>by
    rw[hc,xt,yc]at q
    exact zv.mp q
 unfold vV
 refine zb (Ue ?_)
 refine zb (wpAny_layCells _ (fun name kind cells=>by cases hkc:kind==wK<;>simp[hkc]) _ _ _ _ ?_)
 refine zc (show({s with heap:=s.heap.push {cls:=.type (if around.isSome then "dict" else "frame"),data:=.dict #[]}}:zg).heap.objs.size=s.heap.objs.size+1 from xu ..) ?_
 cases around with
 |none=>exact key _ "frame" (.inr ⟨rfl,rfl⟩) rfl rfl
 |some outer=>exact key _ "dict" (.inl rfl) rfl rfl
theorem qU(S:St x fr H s){f:zI}{fo:xK}{fd:ZK}{body:List yX}{args:Args}{binds:List (Str×Value)}{bavs frc:List (Str×AV)}{R:Zr→zg→Prop}(ho:s.heap.get? f=some fo)(hd:fo.data=.func fd)(hcd:s.heap.CodeRec fd.code fd.qualname)(hb:fd.body=.stmts body)(hbind:Ve s fd args binds)(hB:Zj x.ρ s.heap bavs binds)(C:Capt x.ρ x.δ s.heap fd.scope.names fd.closure frc)(hcons:∀p∈fd.scope.names,fd.scope.names.lookup p.1=some p.2)(hl:∀p∈bavs,fd.scope.names.lookup p.1=some .local∨fd.scope.names.lookup p.1=some .cell)(hco:fd.scope.isCoroutine=false)(hgen:fd.scope.isGenerator=false)(hk:fd.scope.kind=.function)(room:x.A.depth<recursionLimit)(h:∀env oc s1,EnvOk fd.scope fd.globals fd.builtins env oc→env.frame=some env.locals→St (x.at' (x.A.deeper env) env oc [] (env.locals::x.fs)) (vI frc bavs) H s1→Chg x s s1→s.heap.get? env.locals=none→(∀c∈oc,s.heap.get? c=none) →
   zr (zu pw x.w) (x.A.deeper env) (xN body env) (fun fl s'=>R (.ok (.ret (match fl with|.ret v=>v|_=>.none))) s')
    (fun e s'=>zr (zu pw x.w) (x.A.deeper env) (Cs env e) (fun U s''=>R (.error e) s'') (fun e' s''=>R (.error e') s'') s') s1):
  y4 (zu pw x.w) x.A (.call (.ref f) args) R s:=by
 refine uP room ho hd hco hgen hb hcd (hbind _ _ _ _ ?_)
 refine u5 (x:={x with A:=x.A.in1}) (fr:=fr) (H:=H) ⟨S.base,S.apart,S.kinds,S.frame,S.objs,S.lim,S.nodup,S.own,S.cnod,S.opn,S.ocs,S.ol,S.cex,S.frs⟩ C hcons hk hB hl fun env oc s1 e0 he S1 c1 n1 n2 hlim U=>⟨hlim,W8 ?_⟩
 exact h env oc s1 he (by refine zc e0 ?_;rfl) ⟨(S1 _).base,(S1 x.A).apart,(S1 x.A).kinds,(S1 x.A).frame,(S1 x.A).objs,(S1 x.A).lim,(S1 x.A).nodup,(S1 x.A).own,(S1 x.A).cnod,(S1 x.A).opn,(S1 x.A).ocs,(S1 x.A).ol,(S1 x.A).cex,(S1 x.A).frs⟩ ⟨c1.rest,c1.keep⟩ n1 n2
theorem jh(S:St x fr H s)(ho:s.heap.get? f=some fo)(hd:fo.data=.func fd)(hcd:s.heap.CodeRec fd.code fd.qualname)(hb:fd.body=.stmts body)(hbind:Ve s fd args binds)(hB:Zj x.ρ s.heap bavs binds)(C:Capt x.ρ x.δ s.heap fd.scope.names fd.closure frc)(hcons:∀p∈fd.scope.names,fd.scope.names.lookup p.1=some p.2)(hl:∀p∈bavs,fd.scope.names.lookup p.1=some .local∨fd.scope.names.lookup p.1=some .cell)(hco:fd.scope.isCoroutine=false)(hgen:fd.scope.isGenerator=false)(hk:fd.scope.kind=.function)(room:x.A.depth<recursionLimit)(h:∀env oc s1,EnvOk fd.scope fd.globals fd.builtins env oc→env.frame=some env.locals→St (x.at' (x.A.deeper env) env oc [] (env.locals::x.fs)) (vI frc bavs) H s1→Chg x s s1→s.heap.get? env.locals=none→(∀c∈oc,s.heap.get? c=none) →
   zr (zu pw x.w) (x.A.deeper env) (xN body env) (fun fl s'=>Q (match fl with|.ret v=>v|_=>.none) s')
    (fun e s'=>zr (zu pw x.w) (x.A.deeper env) (Cs env e) (fun U s''=>E e s'') (fun e' s''=>E e' s'') s') s1):
  zr (zu pw x.w) x.A (call (.ref f) args.pos args.kw) Q E s:=yL (qU S ho hd hcd hb hbind hB C hcons hl hco hgen hk room h)
noncomputable def Wc:AFlow→AV
 |.ret a=>a
 |_=>.none
theorem cW(c:gW ρ h a f):y2 ρ h (Wc a) (match(generalizing:=false) f with|.ret v=>v|_=>.none):=by
 cases a with
 |next=>cases c;exact Yh
 |brk=>cases c;exact Yh
 |cont=>cases c;exact Yh
 |ret a=>obtain⟨v,rfl,c⟩:=c;exact c
theorem LT(S:St x fr H s){k:AV→List AObj→Prop}{Q:zi→zg→Prop}(ho:s.heap.get? f=some fo)(hd:fo.data=.func fd)(hcd:s.heap.CodeRec fd.code fd.qualname)(hb:fd.body=.stmts body)(hbind:Ve s fd args binds)(hB:Zj x.ρ s.heap bavs binds)(C:Capt x.ρ x.δ s.heap fd.scope.names fd.closure frc)(hcons:∀p∈fd.scope.names,fd.scope.names.lookup p.1=some p.2)(hl:∀p∈bavs,fd.scope.names.lookup p.1=some .local∨fd.scope.names.lookup p.1=some .cell)(hco:fd.scope.isCoroutine=false)(hgen:fd.scope.isGenerator=false)(hk:fd.scope.kind=.function)(room:x.A.depth<recursionLimit)(h:∀env oc,EnvOk fd.scope fd.globals fd.builtins env oc→env.frame=some env.locals→zQ (x.at' (x.A.deeper env) env oc [] (env.locals::x.fs)) (vI frc bavs) H (xN body env) fun a U H'=>k (Wc a) H')(g:∀v a H' s',k a H'→y2 x.ρ s'.heap a v→St x fr H' s'→Kept x s s'→Q v s'):zr (zu pw x.w) x.A (call (.ref f) args.pos args.kw) Q E s:=
 jh S ho hd hcd hb hbind hB C hcons hl hco hgen hk room fun env oc s1 he hf S1 c1 n1 n2 =>
  h env oc he hf s1 S1 _ _ fun fl a fr' H' s' q cf S' K' =>
   have c2:Chg x s s':=Chg.of_kept c1 K' n1 n2
   g _ _ H' s' q (cW cf) (S.back S' c2) c2.kept
end
end
section
def It(x:Cx)(I:zI)(l:List AV)(h:xO):Prop:=
 ∃(fp:List zI) (n i:Nat) (P:Nat→zi→Prop) (W:Nat→xO→Prop),(∀A:y1,A.handled=none→Walks pw x.w A I fp [I] n P W)∧W i h∧i+l.length=n ∧
  (∀i h,W i h→∃o,h.get? I=some o∧um o=false)∧(∀b∈fp,b=I∨(b∉x.ρ.op∧∃o,h.get? b=some o∧u8 o.cls=false)) ∧
  (∀j a,l[j]?=some a→∀v,P (i+j) v→y2 x.ρ h a v)
theorem It.mono(T:It x I l h)(nm:yH x.ρ.op h h')(hI:∀o,h.get? I=some o→h'.get? I=some o):It x I l h':=by
 refine xd T fun fp n i z3=>?_;clear T;refine x7 z3 fun P W w wi e z9=>?_;clear z3;refine yU z9 fun ho f c=>?_;clear z9
 refine⟨fp,n,i,P,W,w,(w {} rfl).frame i h h' wi fun b hb o' e'=>?_,e,ho,fun b hb=>?_,fun j a q v p=>(c j a q v p).mono nm⟩
 ·rcases f b hb with rfl|⟨no,o2,h2,m⟩
  ·exact hI _ e'
  ·rw[h2]at e';(replace e':=zf e';subst e');exact nm _ _ no h2 m
 ·rcases f b hb with rfl|⟨no,o2,h2,m⟩
  ·exact .inl rfl
  ·exact .inr ⟨no,o2,nm _ _ no h2 m,m⟩
theorem It.obj(T:It x I l h):∀o,h.get? I=some o→um o=false:=fun o e=>by
 refine xd T fun fp n i z3=>?_;clear T;refine x7 z3 fun P W w wi e' z9=>?_;clear z3;refine yU z9 fun ho f c=>?_;clear z9
 refine zt (ho _ _ wi) fun o' e2 q=>?_
 rw[e]at e2;(replace e2:=zf e2;subst e2);exact q
section
variable {x:Cx} {A:y1} {E:zi→zg→Prop} {s:zg} {I:zI} {l:List AV} {a:AV}
theorem It.next(T:It x I (a::l) s.heap)(hop:I∈x.ρ.op)(hh:A.handled=none)(h:∀v h' tk,y2 x.ρ h' a v→It x I l h'→(∀b o,b≠I→s.heap.get? b=some o→h'.get? b=some o)→(∃o,h'.get? I=some o)→Q (some v) {s with heap:=h',toks:=tk}):zr (zu pw x.w) A (Uh (.ref I)) Q E s:=by
 refine xd T fun fp n i z3=>?_;refine x7 z3 fun P W w wi e z9=>?_;clear z3;refine yU z9 fun ho f c=>?_;clear z9
 refine(w A hh).item i s Q E (by simp at e;exact zN 6671007286866 [i,n,l.length] (ze e) rfl) wi fun v h' tk p wi' k=>?_
 have k':∀b o,b≠I→s.heap.get? b=some o→h'.get? b=some o:=fun b o q=>k b o (by simpa using q)
 have nm:yH x.ρ.op s.heap h':=fun b o n q U=>k' b o (fun z=>n (z▸hop)) q
 refine h v h' tk ((c 0 a rfl v p).mono nm) ⟨fp,n,i+1,P,W,w,wi',by simp at e;exact zE (zN 0x7113605076113500 [i,l.length,n] (ze e) rfl) (zN 0x1137060571136005 [n,i,l.length] (ze e.symm) rfl),ho,fun b hb=>?_,fun j b q u p'=>?_⟩ k' (let⟨o,q,_⟩:=ho _ _ wi';⟨o,q⟩)
 ·rcases f b hb with rfl|⟨no,o2,h2,m⟩
  ·exact .inl rfl
  ·exact .inr ⟨no,o2,nm _ _ no h2 m,m⟩
 ·exact(c (j+1) b (by exact q) u (by refine zc (show i+(j+1)=i+1+j by exact zE (Tg 0x61135001136050 [i,j] rfl) (Tg 4844469808608512 [i,j] rfl)) ?_;exact p')).mono nm
theorem It.last(T:It x I [] s.heap)(hh:A.handled=none)(h:∀h' tk,(∀b o,b≠I→s.heap.get? b=some o→h'.get? b=some o)→Q none {s with heap:=h',toks:=tk}):zr (zu pw x.w) A (Uh (.ref I)) Q E s:=by
 refine xd T fun fp n i z3=>?_;clear T;refine x7 z3 fun P W w wi e z9=>?_;clear z3;refine yU z9 fun ho f c=>?_;clear z9
 have:i=n:=by simpa using e
 subst this
 exact(w A hh).done s Q E wi fun h' tk k=>h h' tk fun b o q=>k b o (by simpa using q)
theorem It.self(T:It x I l s.heap)(hh:A.handled=none)(h:Q (.ref I) s):zr (zu pw x.w) A (XA (.ref I)) Q E s:=by
 refine xd T fun fp n i z3=>?_;refine x7 z3 fun P W w wi e z9=>?_;clear z3;refine yU z9 fun ho f c=>?_;clear z9
 exact(w A hh).self i s Q E wi h
end
structure Far(x:Cx)(a:zI):Prop where
 lo:a≠x.env.locals
 ce:a∉x.env.cells.map (·.2)
 de:a∉x.δ
 ob:a∉x.ρ.ob
 ba:x.B.get? a=none
 st:a≠tX
 fr:a∉x.fs
section
variable {x:Cx} {fr:List (Str×AV)} {H:List AObj} {s:zg} {a:zI}
theorem St.obAt(S:St x fr H s)(h:a∈x.ρ.ob):∃o,s.heap.get? a=some o:=by
 obtain⟨i,hi,e⟩:=vq.mp h
 refine xk (S.objs i (H[i]'(yq hi S.ol)) (zC _)) fun b d p q r=>?_
 rw[zC hi,e]at p
 replace p:=zf p;subst p
 cases z:(H[i]'(yq hi S.ol))with
 |inst C fs=>rw[z]at r;exact⟨_,r.1⟩
 |dict fs=>rw[z]at r;(refine zK r fun z0 z1=>?_;clear r;subst z0;refine yW z1 fun es n y z5=>?_;clear z1;clear z5);exact⟨_,y⟩
theorem St.far(S:St x fr H s)(h:s.heap.get? a=none):Far x a where
 lo e:=by(refine zt (S.kinds _ (.inl rfl)) fun o q z2=>?_;clear z2);rw[e,q]at h;exact Sn h
 ce e:=by refine yf (S.cex _ e) fun o q=>?_;rw[q]at h;exact Sn h
 de e:=by(refine zt (S.kinds _ (.inr (.inr e))) fun o q z2=>?_;clear z2);rw[q]at h;exact Sn h
 ob e:=by refine yf (S.obAt e) fun o q=>?_;rw[q]at h;exact Sn h
 ba:=by
  cases e:x.B.get? a with
  |none=>rfl
  |some o=>rw[S.base a o e]at h;exact Sn h
 st e:=by(refine zt S.lim fun U z1 U=>?_;obtain⟨o,_,_,q,_⟩:=z1);rw[e,q]at h;exact Sn h
 fr e:=by(refine yU (S.frs _ e) fun z0 z1 z2=>?_;clear z0;clear z1;refine Qh z2 fun o U U q z7=>?_;clear z2;clear z7);rw[q]at h;exact Sn h
theorem St.other(S:St x fr H s)(hop:a∈x.ρ.op)(F:Far x a)(nt:¬uG x a)(k:∀b o,b≠a→s.heap.get? b=some o→h'.get? b=some o)(ex:∃o,h'.get? a=some o):St x fr H {s with heap:=h',toks:=tk}:=by
 have nm:yH x.ρ.op s.heap h':=fun b o n q U=>k b o (fun z=>n (z▸hop)) q
 refine yU S.frame fun z0 c1 c2=>?_;obtain⟨mm,n,f⟩:=z0
 have cl:∀{n q},x.env.cells.lookup n=some q→q≠a:=fun{n q} e z=>F.ce (z▸xb e)
 refine⟨fun b o e=>k b o (fun z=>by rw[z,F.ba]at e;exact nS e) (S.base b o e),S.apart,fun b t=>?_,⟨⟨mm,Zx n fun o e=>k _ _ (uF F.lo) e,fun y av e q=>?_⟩,fun y av e q=>?_,fun y e=>?_⟩,fun i o e=>?_,?_,S.nodup,S.own,S.cnod,fun b q=>?_,S.ocs,S.ol,fun c q=>?_,fun L q=>by
  refine yU (S.frs L q) fun c1 c2 z2=>?_;refine Qh z2 fun o es ep h r=>?_;clear z2
  exact⟨c1,c2,o,es,ep,k L o (fun z=>F.fr (z▸q)) h,r⟩⟩
 ·exact zt (S.kinds b t) fun o h m=>⟨o,k b o (fun z=>nt (z▸t)) h,m⟩
 ·refine zt (f y av e q) fun v p r=>?_;exact⟨v,p,r.mono nm⟩
 ·refine xk (c1 y av e q) fun cc v p b d=>?_;exact⟨cc,v,p,k _ _ (cl p) b,d.mono nm⟩
 ·refine yW (c2 y e) fun cc v p b=>?_;exact⟨cc,v,p,k _ _ (cl p) b⟩
 ·refine xk (S.objs i o e) fun b d p q r=>?_
  have hb:b≠a:=fun z=>F.ob (z▸zH p)
  have hd:d≠a:=fun z=>F.de (z▸zH q)
  refine⟨b,d,p,q,?_⟩
  cases o with
  |inst C fs=>(refine zK r fun r1 z1=>?_;clear r;refine yW z1 fun es n' r2 r3=>?_;clear z1);exact⟨k _ _ hb r1,es,n',k _ _ hd r2,r3.mono nm⟩
  |dict fs=>(refine zK r fun r1 z1=>?_;clear r;refine yW z1 fun es n' r2 r3=>?_;clear z1);exact⟨r1,es,n',k _ _ hd r2,r3.mono nm⟩
 ·refine zt S.lim fun mc p q=>?_;exact⟨mc,Zx p fun o e=>k _ _ (uF F.st) e,q⟩
 ·by_cases z:b=a
  ·subst z;exact ex
  ·refine yf (S.opn b q) fun o h=>?_;exact⟨o,k b o z h⟩
 ·refine yf (S.cex c q) fun o h=>?_;exact⟨o,k c o (fun z=>F.ce (z▸q)) h⟩
theorem St.openE(S:St x fr H s)(X:Ext s s')(Y:List zI)(hn:∀b∈Y,s.heap.get? b=none)(ex:∀b∈Y,∃o,s'.heap.get? b=some o):St (x.at' x.A x.env x.oc Y) fr H s':=by
 have nm:yH (Y++x.ρ.op) s.heap s'.heap:=.of_all X.keep
 refine yU S.frame fun z0 c1 c2=>?_;obtain⟨mm,n,f⟩:=z0
 refine⟨fun b o e=>X.keep _ _ (S.base b o e),S.apart,fun b t=>?_,⟨⟨mm,n.keeps X.keep,fun y av e q=>?_⟩,fun y av e q=>?_,fun y e=>?_⟩,fun i o e=>?_,S.lim.keeps X.keep,S.nodup,S.own,S.cnod,fun b q=>?_,S.ocs,S.ol,fun c q=>?_,fun L q=>by
  refine yU (S.frs L q) fun c1 c2 z2=>?_;refine Qh z2 fun o es ep h r=>?_;clear z2
  exact⟨c1,c2,o,es,ep,X.keep L o h,r⟩⟩
 ·exact zt (S.kinds b t) fun o h m=>⟨o,X.keep b o h,m⟩
 ·refine zt (f y av e q) fun v p r=>?_;exact⟨v,p,(r.open hn).mono nm⟩
 ·refine xk (c1 y av e q) fun cc v p b d=>?_;exact⟨cc,v,p,X.keep _ _ b,(d.open hn).mono nm⟩
 ·refine yW (c2 y e) fun cc v p b=>?_;exact⟨cc,v,p,X.keep _ _ b⟩
 ·refine xk (S.objs i o e) fun b d p q r=>⟨b,d,p,q,?_⟩
  have r:=r.open hn
  cases o with
  |inst C fs=>(refine zK r fun r1 z1=>?_;refine yW z1 fun es n' r2 r3=>?_;clear z1);exact⟨X.keep _ _ r1,es,n',X.keep _ _ r2,r3.mono nm⟩
  |dict fs=>(refine zK r fun r1 z1=>?_;refine yW z1 fun es n' r2 r3=>?_;clear z1);exact⟨r1,es,n',X.keep _ _ r2,r3.mono nm⟩
 ·rcases zv.mp q with q|q
  ·exact ex b q
  ·refine yf (S.opn b q) fun o h=>?_;exact⟨o,X.keep b o h⟩
 ·refine yf (S.cex c q) fun o h=>?_;exact⟨o,X.keep c o h⟩
theorem St.closeE(S:St (x.at' x.A x.env x.oc Y) fr H s):St x fr H s:=by
 have hs:∀a∈x.ρ.op,a∈Y++x.ρ.op:=fun a q=>zD _ q
 refine yU S.frame fun z0 c1 c2=>?_;obtain⟨mm,n,f⟩:=z0
 refine⟨S.base,S.apart,S.kinds,⟨⟨mm,n,fun y av e q=>?_⟩,fun y av e q=>?_,c2⟩,fun i o e=>?_,S.lim,S.nodup,S.own,S.cnod,fun b q=>S.opn b (hs b q),S.ocs,S.ol,S.cex,S.frs⟩
 ·refine zt (f y av e q) fun v p r=>?_;exact⟨v,p,r.close hs⟩
 ·refine xk (c1 y av e q) fun cc v p b d=>?_;exact⟨cc,v,p,b,d.close hs⟩
 ·exact xk (S.objs i o e) fun b d p q r=>⟨b,d,p,q,r.close hs⟩
theorem St.drop(S:St (x.at' x.A x.env x.oc [a]) fr H s)(F:Far x a)(nt:¬uG x a)(na:a∉x.ρ.op)(k:∀b o,b≠a→s.heap.get? b=some o→h'.get? b=some o):St x fr H {s with heap:=h',toks:=tk}:=by
 have nm:yH ([a]++x.ρ.op) s.heap h':=fun b o n q U=>k b o (fun z=>n (by refine zc z ?_;exact .head _)) q
 have hs:∀b∈x.ρ.op,b∈[a]++x.ρ.op:=fun b q=>zD _ q
 refine yU S.frame fun z0 c1 c2=>?_;obtain⟨mm,n,f⟩:=z0
 have cl:∀{n q},x.env.cells.lookup n=some q→q≠a:=fun{n q} e z=>F.ce (z▸xb e)
 refine⟨fun b o e=>k b o (fun z=>by rw[z]at e;have e:x.B.get? a=some o:=e;rw[F.ba]at e;exact nS e) (S.base b o e),S.apart,fun b t=>?_,⟨⟨mm,Zx n fun o e=>k _ _ (uF F.lo) e,fun y av e q=>?_⟩,fun y av e q=>?_,fun y e=>?_⟩,fun i o e=>?_,?_,S.nodup,S.own,S.cnod,fun b q=>?_,S.ocs,S.ol,fun c q=>?_,fun L q=>by
  refine yU (S.frs L q) fun c1 c2 z2=>?_;refine Qh z2 fun o es ep h r=>?_;clear z2
  exact⟨c1,c2,o,es,ep,k L o (fun z=>F.fr (z▸q)) h,r⟩⟩
 ·exact zt (S.kinds b t) fun o h m=>⟨o,k b o (fun z=>nt (z▸t)) h,m⟩
 ·refine zt (f y av e q) fun v p r=>?_;exact⟨v,p,(r.mono nm).close hs⟩
 ·refine xk (c1 y av e q) fun cc v p b d=>?_;exact⟨cc,v,p,k _ _ (cl p) b,(d.mono nm).close hs⟩
 ·refine yW (c2 y e) fun cc v p b=>?_;exact⟨cc,v,p,k _ _ (cl p) b⟩
 ·refine xk (S.objs i o e) fun b d p q r=>?_
  have hb:b≠a:=fun z=>F.ob (z▸zH p)
  have hd:d≠a:=fun z=>F.de (z▸zH q)
  refine⟨b,d,p,q,?_⟩
  cases o with
  |inst C fs=>(refine zK r fun r1 z1=>?_;refine yW z1 fun es n' r2 r3=>?_;clear z1);exact⟨k _ _ hb r1,es,n',k _ _ hd r2,(r3.mono nm).close hs⟩
  |dict fs=>(refine zK r fun r1 z1=>?_;refine yW z1 fun es n' r2 r3=>?_;clear z1);exact⟨r1,es,n',k _ _ hd r2,(r3.mono nm).close hs⟩
 ·refine zt S.lim fun mc p q=>?_;exact⟨mc,Zx p fun o e=>k _ _ (uF F.st) e,q⟩
 ·refine yf (S.opn b (hs b q)) fun o h=>?_;exact⟨o,k b o (fun z=>na (z▸q)) h⟩
 ·refine yf (S.cex c q) fun o h=>?_;exact⟨o,k c o (fun z=>F.ce (z▸q)) h⟩
end
end
section
noncomputable abbrev Cx.wi(x:Cx)(Y:List zI):Cx:=x.at' x.A x.env x.oc Y
noncomputable def WE(ifs:List Expr)(env:Qx):VL Bool:=forIn ifs true fun c r=>if r=true then do let ok ←isTrue c env (zR c env);pure (qB ok)else pure (qB r)
def Yy(h:xO)(acc:zI)(vs:List zi):Prop:=∃m,h.get? acc=some {cls:=.type "list",data:=.seq ⟨vs⟩ m}
structure KeptX(x:Cx)(Y:List zI)(s s':zg):Prop where
 rest:∃h t d,s'={s with heap:=h,toks:=t,drawn:=d}
 keep:∀a o,s.heap.get? a=some o→¬uG x a→a∉Y→∃o',s'.heap.get? a=some o'∧tu o o'
theorem KeptX.trans(a:KeptX x Y s s')(b:KeptX x Y s' s''):KeptX x Y s s'':=
 ⟨by(refine xd a.rest fun h t d z3=>?_;subst z3);(refine xd b.rest fun h' t' d' z3=>?_;subst z3);exact⟨h',t',d',rfl⟩,fun c o e n m=>by
  exact zt (a.keep c o e n m) fun o1 e1 q1=>zt (b.keep c o1 e1 n m) fun o2 e2 q2=>⟨o2,e2,q1.trans q2⟩⟩
theorem KeptX.keepN(K:KeptX x Y s s')(e:s.heap.get? a=some o)(n:¬uG x a)(m:a∉Y)(h:um o=false):s'.heap.get? a=some o:=by
 refine zt (K.keep a o e n m) fun o' e' q=>?_
 rw[q.eq h]at e';exact e'
theorem Kept.x{x:Cx}{Y:List zI}{s s':zg}(a:Kept x s s'):KeptX x Y s s':=⟨a.rest,fun c o e n U=>a.keep c o e n⟩
structure AccOk(x:Cx)(acc:zI):Prop where
 op:acc∈x.ρ.op
 far:Far x acc
 nt:¬uG x acc
def u4(x:Cx)(acc:zI)(e:Expr)(d n:Nat)(l:List AV)(fr:List (Str×AV))(H:List AObj)(k:List AV→List (Str×AV)→List AObj→Prop):Prop:=
 ∀s I vs,Far x I→¬uG x I→I∉x.ρ.op→AccOk x acc→vs.length=n→Yy s.heap acc vs→St (x.wi [I]) fr H s→It (x.wi [I]) I l s.heap→x.A.handled=none →
  ∀R:Zr→zg→Prop,(∀out ws fr' H' s',k out fr' H'→ConL x.ρ s'.heap out ws→St x fr' H' s'→Yy s'.heap acc (vs++ws)→KeptX x [I,acc] s s'→R (.ok .next) s') →
   y4 (zu pw x.w) x.A (.compLoop e d (.ref I) (.ref acc) x.env) R s
section
variable {x:Cx} {acc:zI} {n:Nat} {l:List AV} {a:AV} {fr:List (Str×AV)} {H:List AObj} {k:List AV→List (Str×AV)→List AObj→Prop} {elt iter i0 t0:Expr} {ifs ifs0:List Expr} {scope:qv} {pos tp:ZJ} {t:Str}
theorem St.nonMutX(S:St x fr H s)(K:KeptX x Y s s')(hY:∀a∈Y,a∈X):yH X s.heap s'.heap:=fun a o n e m =>
 K.keepN e (fun t=>by
  refine zt (S.kinds a t) fun o' h' m'=>?_
  rw[e]at h';(replace h':=zf h';subst h');rw[m]at m';exact fT m') (fun q=>n (hY a q)) (WR m)
noncomputable def VQ(e:Expr)(d:Nat)(t:Str)(tp ip:ZJ)(ifs:List Expr)(it acc:zi)(env:Qx)(body:VL Fin):VL Fin:=do
 Cr ip
 match ←Uh it with
 |none=>pure (.done .next)
 |some v =>
  letOwnedTupleGo (.Name t tp) it v
  assign (.Name t tp) env v
  let mut ok:=true
  for c in ifs do
   if ok then ok ←isTrue c env (zR c env)
  if ok then body
  else again (.compLoop e d it acc env)
noncomputable def dZ(e:Expr)(d:Nat)(elt:Expr)(it acc:zi)(env:Qx):VL Fin:=do
 (do let _ ←call (.builtin "list.append") [acc,←zR elt env])
 again (.compLoop e d it acc env)
noncomputable def CU(e:Expr)(d:Nat)(iter:Expr)(it acc:zi)(env:Qx):VL Fin:=do
 let x ←zR iter env
 Cr iter.pos
 let x ←yR iter env x
 let _ ←runOwn (.compStart e (d+1) (←holding [x] (XA x)) acc env) env
 again (.compLoop e d it acc env)
theorem cE(elt iter:Expr)(ifs:List Expr)(scope:qv)(pos:ZJ)(it acc:zi)(env:Qx):
  qM (.ListComp elt [⟨.Name t tp,iter,ifs,0⟩] scope pos) 0 it acc env=VQ (.ListComp elt [⟨.Name t tp,iter,ifs,0⟩] scope pos) 0 t tp iter.pos ifs it acc env (dZ (.ListComp elt [⟨.Name t tp,iter,ifs,0⟩] scope pos) 0 elt it acc env):=by rfl
theorem my(elt iter t0 i0:Expr)(ifs0 ifs:List Expr)(scope:qv)(pos:ZJ)(it acc:zi)(env:Qx):
  qM (.ListComp elt [⟨t0,i0,ifs0,0⟩,⟨.Name t tp,iter,ifs,0⟩] scope pos) 1 it acc env =
   VQ (.ListComp elt [⟨t0,i0,ifs0,0⟩,⟨.Name t tp,iter,ifs,0⟩] scope pos) 1 t tp iter.pos ifs it acc env (dZ (.ListComp elt [⟨t0,i0,ifs0,0⟩,⟨.Name t tp,iter,ifs,0⟩] scope pos) 1 elt it acc env):=by rfl
theorem mx(elt iter t1 i1:Expr)(ifs1 ifs:List Expr)(scope:qv)(pos:ZJ)(it acc:zi)(env:Qx):
  qM (.ListComp elt [⟨.Name t tp,iter,ifs,0⟩,⟨t1,i1,ifs1,0⟩] scope pos) 0 it acc env =
   VQ (.ListComp elt [⟨.Name t tp,iter,ifs,0⟩,⟨t1,i1,ifs1,0⟩] scope pos) 0 t tp iter.pos ifs it acc env (CU (.ListComp elt [⟨.Name t tp,iter,ifs,0⟩,⟨t1,i1,ifs1,0⟩] scope pos) 0 i1 it acc env):=by rfl
variable {gens:List tZ} {d:Nat} {ip:ZJ} {body:zi→zi→Qx→VL Fin}
theorem u4.nil(hturn:∀it acc env,qM (.ListComp elt gens scope pos) d it acc env=VQ (.ListComp elt gens scope pos) d t tp ip ifs it acc env (body it acc env))(h:k [] fr H):u4 x acc (.ListComp elt gens scope pos) d n [] fr H k:=by
 intro s I vs F nt no ao hn ha S T hh R f
 refine xZ ?_
 refine(?_:zr _ x.A ((qM (.ListComp elt gens scope pos) d _ _ _).onRaise (fun y=>do noteFrame y x.env;gY y)) _ _ s)
 refine GY (zc (hturn ..) (zb (xi (zb (T.last hh fun h' tk kk=>wpAny_pure ?_)))))
 have ne:acc≠I:=fun z=>no (z▸ao.op)
 refine f [] [] fr H _ h (by rfl) (S.drop F nt no kk) ?_ ⟨⟨_,_,_,rfl⟩,fun b o e U m=>⟨o,kk b o (fun z=>m (by refine zc z ?_;exact .head _)) e,.refl o⟩⟩
 exact zc (yB ..) (yf ha fun m e=>⟨m,kk _ _ ne e⟩)
theorem u4.turn(hturn:∀it acc env,qM (.ListComp elt gens scope pos) d it acc env=VQ (.ListComp elt gens scope pos) d t tp ip ifs it acc env (body it acc env))(hk:x.env.scope.kind=.function)(hl:x.env.kindOf t=some .local∨(x.env.kindOf t=some .cell∧∀c,x.env.cells.lookup t=some c→c∈x.oc))(h:∀I,Far x I→xe (x.wi [I]) (xp t a fr) H (WE ifs x.env) fun ok H1=>(ok=false→u4 x acc (.ListComp elt gens scope pos) d n l (xp t a fr) H1 k) ∧
   (ok=true→∀s vs,Far x I→¬uG x I→I∉x.ρ.op→AccOk x acc→vs.length=n→Yy s.heap acc vs→St (x.wi [I]) (xp t a fr) H1 s→It (x.wi [I]) I l s.heap→x.A.handled=none →
    ∀R:Zr→zg→Prop,(∀out ws fr' H' s',k out fr' H'→ConL x.ρ s'.heap out ws→St x fr' H' s'→Yy s'.heap acc (vs++ws)→KeptX x [I,acc] s s'→R (.ok .next) s') →
     ∀E',zr (zu pw x.w) x.A (body (.ref I) (.ref acc) x.env) (fun fin s'=>match fin with
      |.done f=>R (.ok f) s'
      |.again c'=>c'.quiet=true∧y4 (zu pw x.w) x.A c' R s') E' s)):
  u4 x acc (.ListComp elt gens scope pos) d n (a::l) fr H k:=by
 intro s I vs F nt no ao hn ha S T hh R f
 have ne:acc≠I:=fun z=>no (z▸ao.op)
 refine xZ ?_
 refine(?_:zr _ x.A ((qM (.ListComp elt gens scope pos) d _ _ _).onRaise (fun y=>do noteFrame y x.env;gY y)) _ _ s)
 refine GY (zc (hturn ..) (zb (xi (zb (T.next (.head _) hh fun v h1 tk c1 T1 k1 e1=>?_)))))
 have F':Far (x.wi [I]) I:=⟨F.lo,F.ce,F.de,F.ob,F.ba,F.st,F.fr⟩
 have S1:St (x.wi [I]) fr H {s with heap:=h1,toks:=tk}:=S.other (.head _) F' nt k1 e1
 refine zb (x8 (a:=()) rfl (zb (b0 (wv (x:=x.wi [I]) (kk:=fun fr2 H2=>fr2=xp t a fr∧H2=H) hk hl ⟨rfl,rfl⟩ S1 c1 fun fr2 H2 s2 q S2 K2=>?_))))
 refine zK q fun z0 z1=>?_;clear q;subst z0;subst z1
 refine zb (h I F s2 S2 _ _ fun ok H1 s3 q S3 K3=>?_)
 have K13:Kept (x.wi [I]) {s with heap:=h1,toks:=tk} s3:=K2.trans K3
 have a3:Yy s3.heap acc vs:=by
  refine yf ha fun m e=>?_;clear ha
  exact⟨m,K13.keepN (k1 _ _ ne e) ao.nt rfl⟩
 have T3:It (x.wi [I]) I l s3.heap:=T1.mono (S1.nonMut K13) fun o e=>K13.keepN e nt (T1.obj o e)
 have kx:KeptX x [I,acc] s s3:=⟨by(refine xd K13.rest fun h t d z3=>?_;subst z3);exact⟨h,t,d,rfl⟩,fun b o e n m=>K13.keep _ _ (k1 b o (fun z=>m (by refine zc z ?_;exact .head _)) e) n⟩
 cases ok with
 |false =>
  exact wpAny_pure ⟨rfl,q.1 rfl s3 I vs F nt no ao hn a3 S3 T3 hh R fun out ws fr' H' s' q1 q2 q3 q4 q5=>f out ws fr' H' s' q1 q2 q3 q4 (kx.trans q5)⟩
 |true =>
  exact q.2 rfl s3 vs F nt no ao hn a3 S3 T3 hh R (fun out ws fr' H' s' q1 q2 q3 q4 q5=>f out ws fr' H' s' q1 q2 q3 q4 (kx.trans q5)) _
theorem u4.emit(hturn:∀it acc env,qM (.ListComp elt gens scope pos) d it acc env=VQ (.ListComp elt gens scope pos) d t tp ip ifs it acc env (dZ (.ListComp elt gens scope pos) d elt it acc env))(hk:x.env.scope.kind=.function)(hl:x.env.kindOf t=some .local∨(x.env.kindOf t=some .cell∧∀c,x.env.cells.lookup t=some c→c∈x.oc))(hn:n≤sizeLine)(h:∀I,Far x I→xe (x.wi [I]) (xp t a fr) H (WE ifs x.env) fun ok H1=>(ok=false→u4 x acc (.ListComp elt gens scope pos) d n l (xp t a fr) H1 k) ∧
   (ok=true→zL (x.wi [I]) (xp t a fr) H1 (zR elt x.env) fun v H2=>u4 x acc (.ListComp elt gens scope pos) d (n+1) l (xp t a fr) H2 fun out=>k (v::out))):
  u4 x acc (.ListComp elt gens scope pos) d n (a::l) fr H k:=by
 refine u4.turn hturn hk hl fun I F0=>(h I F0).mono fun ok H1 q=>⟨q.1,fun e s vs F nt no ao hvn ha S T hh R f E'=>?_⟩
 have ne:acc≠I:=fun z=>no (z▸ao.op)
 refine zb (zb (q.2 e s S _ _ fun v b H2 s2 q2 c2 S2 K2=>?_))
 refine yf ha fun m ea=>?_;clear ha
 have ea2:=K2.keepN ea ao.nt rfl
 refine zb (append_at ea2 (fun h3 sb e3=>wpAny_pure (wpAny_pure ⟨rfl,?_⟩)) (by show vs.length≤_;refine zc hvn ?_;exact hn))
 have k3:∀b o,b≠acc→s2.heap.get? b=some o→h3.get? b=some o:=fun b o n e=>by refine zc (sb.2 b n) ?_;exact e
 have ao':acc∈(x.wi [I]).ρ.op:=zD _ ao.op
 have F':Far (x.wi [I]) acc:=⟨ao.far.lo,ao.far.ce,ao.far.de,ao.far.ob,ao.far.ba,ao.far.st,ao.far.fr⟩
 have S3:St (x.wi [I]) (xp t a fr) H2 {s2 with heap:=h3}:=S2.other ao' F' ao.nt k3 ⟨_,e3⟩
 have nm3:yH (x.wi [I]).ρ.op s2.heap h3:=fun b o n e U=>k3 b o (fun z=>n (z▸ao')) e
 have T3:It (x.wi [I]) I l h3:=(T.mono (S.nonMut K2) fun o e=>K2.keepN e nt (T.obj o e)).mono nm3 fun o e=>k3 _ _ (uF ne) e
 have c3:y2 (x.wi [I]).ρ h3 b v:=c2.mono nm3
 refine q2 {s2 with heap:=h3} I (vs++[v]) F nt no ao (by simp[hvn]) ⟨m+1,by exact zc e3 (zc (qe ..) rfl)⟩ S3 T3 hh R fun out ws fr' H' s' q3 q4 q5 q6 q7=>?_
 have nm4:yH (x.wi [I]).ρ.op h3 s'.heap:=S3.nonMutX ⟨q7.rest,q7.keep⟩ fun b hb=>by
  rcases zn.mp hb with rfl|hb
  ·exact .head _
  ·refine zc (zd.mp hb) ?_;exact ao'
 refine f (b::out) (v::ws) fr' H' s' q3 (by exact⟨v,ws,rfl,(c3.mono nm4).close fun b q=>zD _ q,q4⟩) q5 (by rw[zA]at q6;exact q6) ?_
 have kA:KeptX x [I,acc] s s2:=⟨K2.rest,fun b o e n U=>K2.keep _ _ e n⟩
 have kB:KeptX x [I,acc] s2 {s2 with heap:=h3}:=⟨⟨_,_,_,rfl⟩,fun b o e U m=>⟨o,k3 b o (fun z=>m (by refine zc z ?_;exact .tail _ (.head _))) e,.refl o⟩⟩
 exact(kA.trans kB).trans q7
end
noncomputable def u3:AV→Option (List AV)
 |.list l=>some l
 |.tup l=>some l
 |.str s=>some (s.cps.toList.map fun c=>.str ⟨#[c]⟩)
 |.rng n=>some ((zT n.toNat).map fun i:Nat=>.int (i:Int))
 |_=>none
def uZ:AV→Prop
 |.rng n=>0≤n∧n<2^62
 |_=>True
theorem It.mk{x:Cx}{I:zI}{l:List AV}{s:zg}{o:xK}{fp:List zI}{P:Nat→zi→Prop}{W:Nat→xO→Prop}(w:∀A:y1,A.handled=none→Walks pw x.w A I fp [I] l.length P W)(wi:W 0 (s.heap.push o))(hI:I=s.heap.objs.size)(ho:∀i h,W i h→∃o,h.get? I=some o∧um o=false)(f:∀b∈fp,b=I∨(b∉x.ρ.op∧∃o,s.heap.get? b=some o∧u8 o.cls=false))(c:∀j a,l[j]?=some a→∀v,P j v→y2 x.ρ s.heap a v):
  ∀Y,(∀b∈Y,s.heap.get? b=none)→It (x.wi Y) I l (s.heap.push o):=fun Y hY=>by
 have nm:yH (x.wi Y).ρ.op s.heap (s.heap.push o):=.of_all fun b o e=>zq _ e
 refine⟨fp,l.length,0,P,W,w,wi,by simp,ho,fun b hb=>?_,fun j a q v p=>((c j a q v (by simpa using p)).open hY).mono nm⟩
 rcases f b hb with rfl|⟨no,o2,h2,m⟩
 ·exact .inl rfl
 ·refine .inr ⟨fun q=>?_,o2,zq _ h2,m⟩
  rcases zv.mp q with q|q
  ·rw[hY b q]at h2;exact nS h2
  ·exact no q
theorem ConL.at:∀{l:List AV} {vs:List zi},ConL ρ h l vs→∀{i:Nat} {a:AV} {v:zi},l[i]?=some a→vs[i]?=some v→y2 ρ h a v:=fun c i a v e e'=>by
 refine zt (c.get e) fun u hu cu=>?_
 rw[e']at hu;(replace hu:=zf hu;subst hu);exact cu
theorem uk{x:Cx}{a:AV}{l:List AV}{v:zi}{s:zg}{A:y1}{E:zi→zg→Prop}{Q:zi→zg→Prop}(hi:u3 a=some l)(hok:uZ a)(c:y2 x.ρ s.heap a v)(h:∀I s',Ext s s'→s.heap.get? I=none→(∃o,s'.heap.get? I=some o)→(∀Y,(∀b∈Y,s.heap.get? b=none)→It (x.wi Y) I l s'.heap)→Q (.ref I) s'):zr (zu pw x.w) A (XA v) Q E s:=by
 have none_size:s.heap.get? s.heap.objs.size=none:=by
  cases e:s.heap.get? s.heap.objs.size with
  |none=>rfl
  |some o=>exact absurd (zY e) (yI _)
 have lt_ne:∀{b o},s.heap.get? b=some o→b≠s.heap.objs.size:=fun e=>vY (zY e)
 cases a with
 |list l' =>
  cases hi
  obtain⟨p,vs,rfl,no,hL,cl⟩:=xY c
  obtain⟨ob,hp,hcl,n,hdt⟩:=id hL
  refine wpAny_pyIter_list hL (h _ _ (Ext.push s _ s.toks) none_size ⟨_,zx _ rfl⟩ (It.mk (fp:=[s.heap.objs.size,p]) (P:=fun i v=>(⟨vs⟩:Array zi)[i]?=some v) (W:=fun i h=>h.IsListIter s.heap.objs.size p i∧h.IsList p ⟨vs⟩) (fun A hA=>?_) ⟨⟨_,zx _ rfl,rfl,rfl⟩,⟨ob,zq _ hp,hcl,n,hdt⟩⟩ rfl (fun i h st=>?_) (fun b hb=>?_) fun j a q v p=>?_))
  ·have:=Walks.list (prog:=pw) (w:=x.w) hA s.heap.objs.size p (lt_ne hp) ⟨vs⟩
   rw[show(⟨vs⟩:Array zi).size=l.length from cl.length]at this
   exact this
  ·(refine zK st fun z0 U=>?_;clear st;obtain⟨o,e,c,_⟩:=z0);exact⟨o,e,by unfold um;refine zc c ?_;decide⟩
  ·rcases zn.mp hb with rfl|hb
   ·exact .inl rfl
   ·refine zc (zd.mp hb) ?_;exact .inr ⟨no,_,hp,by refine zc hcl ?_;rfl⟩
  ·exact cl.at q (by simpa using p)
 |tup l' =>
  cases hi
  obtain⟨p,vs,rfl,no,hL,cl⟩:=Zw c
  obtain⟨ob,hp,hcl,n,hdt⟩:=id hL
  refine wpAny_pyIter_tuple hL (h _ _ (Ext.push s _ s.toks) none_size ⟨_,zx _ rfl⟩ (It.mk (fp:=[s.heap.objs.size,p]) (P:=fun i v=>(⟨vs⟩:Array zi)[i]?=some v) (W:=fun i h=>h.IsTupleIter s.heap.objs.size p i∧h.IsTuple p ⟨vs⟩) (fun A hA=>?_) ⟨⟨_,zx _ rfl,rfl,rfl⟩,⟨ob,zq _ hp,hcl,n,hdt⟩⟩ rfl (fun i h st=>?_) (fun b hb=>?_) fun j a q v p=>?_))
  ·have:=Walks.tuple (prog:=pw) (w:=x.w) hA s.heap.objs.size p (lt_ne hp) ⟨vs⟩
   rw[show(⟨vs⟩:Array zi).size=l.length from cl.length]at this
   exact this
  ·(refine zK st fun z0 U=>?_;clear st;obtain⟨o,e,c,_⟩:=z0);exact⟨o,e,by unfold um;refine zc c ?_;decide⟩
  ·rcases zn.mp hb with rfl|hb
   ·exact .inl rfl
   ·refine zc (zd.mp hb) ?_;exact .inr ⟨no,_,hp,by refine zc hcl ?_;rfl⟩
  ·exact cl.at q (by simpa using p)
 |str y =>
  replace hi:=zf hi;subst hi
  refine yf (xm c) fun t z1=>?_;subst z1
  have e2:∀{j:Nat} {a:AV} {v:zi},(y.cps.toList.map fun c=>AV.str ⟨#[c]⟩)[j]?=some a→SignAt y j v→y2 x.ρ s.heap a v:=fun{j a v} q p=>by
   refine yW p fun c u e z3=>?_;clear p;subst z3
   rw[yF,XH,e]at q
   replace q:=zf q;subst q
   exact vO _ _
  cases ha:y.cps.all (·<128)
  ·refine wpAny_pyIter_wide ha (h _ _ (Ext.push s _ s.toks) none_size ⟨_,zx _ rfl⟩ (It.mk (fp:=[s.heap.objs.size]) (P:=SignAt y) (W:=fun i h=>h.IsStrIter s.heap.objs.size "str_iterator" y t i) (fun A hA=>?_) ⟨_,zx _ rfl,rfl,rfl⟩ rfl (fun i h st=>?_) (fun b hb=>.inl (zd.mp hb)) fun j a q v p=>e2 q p))
   ·have:=Walks.strWide (prog:=pw) (w:=x.w) hA s.heap.objs.size y t
    rw[show y.cps.size=(y.cps.toList.map fun c=>AV.str ⟨#[c]⟩).length by simp]at this
    exact this
   ·(refine wO st fun o e c U=>?_;clear st);exact⟨o,e,by unfold um;refine zc c ?_;decide⟩
  ·refine wpAny_pyIter_ascii ha (h _ _ (Ext.push s _ s.toks) none_size ⟨_,zx _ rfl⟩ (It.mk (fp:=[s.heap.objs.size]) (P:=SignAt y) (W:=fun i h=>h.IsStrIter s.heap.objs.size "str_ascii_iterator" y t i) (fun A hA=>?_) ⟨_,zx _ rfl,rfl,rfl⟩ rfl (fun i h st=>?_) (fun b hb=>.inl (zd.mp hb)) fun j a q v p=>e2 q p))
   ·have:=Walks.strAscii (prog:=pw) (w:=x.w) hA s.heap.objs.size y t
    rw[show y.cps.size=(y.cps.toList.map fun c=>AV.str ⟨#[c]⟩).length by simp]at this
    exact this
   ·(refine wO st fun o e c U=>?_;clear st);exact⟨o,e,by unfold um;refine zc c ?_;decide⟩
 |rng n =>
  replace hi:=zf hi;subst hi
  refine xd c fun p t u z3=>?_;clear c;refine wO z3 fun w z5 no hp=>?_;clear z3;subst z5
  refine zK hok fun h0 hn=>?_;clear hok
  have hz:UK 0 n 1=n:=by
   unfold UK
   simp only[show(1:Int)>0 by decide,if_true]
   split
   ·omega
   ·omega
  have hsm:ah 0 n 1=true:=by
   unfold ah
   refine zc hz ?_
   unfold Builtin.Range.rangeFitsLong
   simp only[show(1:Int)>0 by decide,if_true]
   have a1:decide (-(2^63:Int)≤n)=true:=by simp;omega
   have a2:decide (n<2^63)=true:=by simp;omega
   refine zc (show n+(1-1)=n by omega) (zc a1 (zc a2 ?_))
   simp
  have ln:((zT n.toNat).map fun i:Nat=>AV.int (i:Int)).length=n.toNat:=by simp
  refine wpAny_pyIter_range hp hsm (h _ _ (Ext.push s _ s.toks) none_size ⟨_,zx _ rfl⟩ (It.mk (fp:=[s.heap.objs.size]) (P:=fun i v=>∃t,v=.int (0+(i:Int)*1) t) (W:=fun i h=>IsRangeIter h s.heap.objs.size (0+(i:Nat)*1) ((n.toNat:Int)-(i:Nat)) 1) (fun A hA=>?_) ?_ rfl (fun i h st=>⟨_,st,rfl⟩) (fun b hb=>.inl (zd.mp hb)) fun j a q v p=>?_))
  ·refine zc ln ?_;exact Walks.range hA _ 0 1 n.toNat
  ·refine(?_:(s.heap.push _).get? _=_)
   refine zc (zx _ rfl) (zc hz ?_)
   have:max n 0=n:=by(exact Int.max_eq_left h0)
   simp[this]
  ·refine yf p fun t z1=>?_;clear p;subst z1
   rw[yF]at q
   refine zt (yz.mp q) fun m hm z2=>?_;subst z2
   have:m=j:=by
    rw[ry]at hm
    ·exact(zf hm).symm
    ·rcases TM j n.toNat with z|z
     ·exact z
     ·rw[lE (by simpa using z)]at hm;exact nS hm
   subst this
   exact zc (show(0:Int)+(m:Int)*1=m by omega) (Zd _ _)
 |_=>exact nS hi
end
section
theorem Wl{elt target iter ifs g0 scope pos it acc env}(h0:y4 (zu prog w) A (.compLoop (.ListComp elt [g0,⟨target,iter,ifs,0⟩] scope pos) 1 it acc env) R s)(h:zr (zu prog w) A (XA it) (fun it' s'=>y4 (zu prog w) A (.compLoop (.ListComp elt [g0,⟨target,iter,ifs,0⟩] scope pos) 1 it' acc env) R s')
   (notedBy (zu prog w) A env fun x s'=>R (.error x) s') s):
  y4 (zu prog w) A (.compStart (.ListComp elt [g0,⟨target,iter,ifs,0⟩] scope pos) 1 it acc env) R s:=by
 refine xZ (wpAny_notedAt ?_)
 unfold compStart
 refine zb (vU (wpAny_ite ?_))
 split
 ·exact wpAny_pure (tL rfl h0)
 ·refine zb (wpAny_rule ?_)
  exact zb (xi (zb (wE h (fun it' s' h'=>wpAny_pure (tL rfl h')) fun U U x=>x)))
section
variable {x:Cx} {acc:zI} {n:Nat} {l:List AV} {a:AV} {fr:List (Str×AV)} {H:List AObj} {k:List AV→List (Str×AV)→List AObj→Prop} {elt iter t1 i1:Expr} {ifs ifs1:List Expr} {scope:qv} {pos tp:ZJ} {t:Str}
theorem AccOk.wi(a:AccOk x acc):AccOk (x.wi Y) acc:=⟨zD _ a.op,⟨a.far.lo,a.far.ce,a.far.de,a.far.ob,a.far.ba,a.far.st,a.far.fr⟩,a.nt⟩
theorem Far.wi{x:Cx}{a:zI}{Y:List zI}(F:Far x a):Far (x.wi Y) a:=⟨F.lo,F.ce,F.de,F.ob,F.ba,F.st,F.fr⟩
theorem St.notTch{x:Cx}{fr:List (Str×AV)}{H:List AObj}{s:zg}{a:zI}(S:St x fr H s)(h:s.heap.get? a=none):¬uG x a:=fun t=>by
 (refine zt (S.kinds _ t) fun o q z2=>?_;clear z2);rw[q]at h;exact Sn h
theorem St.notOp{x:Cx}{fr:List (Str×AV)}{H:List AObj}{s:zg}{a:zI}(S:St x fr H s)(h:s.heap.get? a=none):a∉x.ρ.op:=fun t=>by
 refine yf (S.opn _ t) fun o q=>?_;rw[q]at h;exact Sn h
theorem u4.nest(hs:∀v,yR i1 x.env v=pure v)(hk:x.env.scope.kind=.function)(hl:x.env.kindOf t=some .local∨(x.env.kindOf t=some .cell∧∀c,x.env.cells.lookup t=some c→c∈x.oc))(h:∀I,Far x I→xe (x.wi [I]) (xp t a fr) H (WE ifs x.env) fun ok H1=>(ok=false→u4 x acc (.ListComp elt [⟨.Name t tp,iter,ifs,0⟩,⟨t1,i1,ifs1,0⟩] scope pos) 0 n l (xp t a fr) H1 k) ∧
   (ok=true→zL (x.wi [I]) (xp t a fr) H1 (zR i1 x.env) fun a2 H2=>∃l2,u3 a2=some l2∧uZ a2 ∧
    u4 (x.wi [I]) acc (.ListComp elt [⟨.Name t tp,iter,ifs,0⟩,⟨t1,i1,ifs1,0⟩] scope pos) 1 n l2 (xp t a fr) H2 fun out fr2 H3 =>
     u4 x acc (.ListComp elt [⟨.Name t tp,iter,ifs,0⟩,⟨t1,i1,ifs1,0⟩] scope pos) 0 (n+out.length) l fr2 H3 fun out2=>k (out++out2))):
  u4 x acc (.ListComp elt [⟨.Name t tp,iter,ifs,0⟩,⟨t1,i1,ifs1,0⟩] scope pos) 0 n (a::l) fr H k:=by
 refine u4.turn (mx elt iter t1 i1 ifs1 ifs scope pos) hk hl fun I F0=>(h I F0).mono fun ok H1 q=>⟨q.1,fun e s vs F nt no ao hvn ha S T hh R f E'=>?_⟩
 have ne:acc≠I:=fun z=>no (z▸ao.op)
 unfold CU
 refine zb (q.2 e s S _ _ fun v a2 H2 s2 q2 c2 S2 K2=>zb (xi (zb (x8 (hs v) (zb (zV ?_))))))
 refine wO q2 fun l2 i2 ok2 q3=>?_;clear q2
 refine uk (x:=x.wi [I]) i2 ok2 c2 fun I2 s3 X3 n2 e3 T3=>?_
 have S3:St ((x.wi [I]).wi [I2]) (xp t a fr) H2 s3:=S2.openE X3 [I2] (fun b hb=>by refine zc (zd.mp hb) ?_;exact n2) fun b hb=>by refine zc (zd.mp hb) ?_;exact e3
 have T3:=T3 [I2] fun b hb=>by refine zc (zd.mp hb) ?_;exact n2
 refine yf ha fun m ea=>?_;clear ha
 have a3:Yy s3.heap acc vs:=⟨m,X3.keep _ _ (K2.keepN ea ao.nt rfl)⟩
 have F2:=S2.far n2
 have t2:=S2.notTch n2
 have o2:=S2.notOp n2
 have loop:∀R2:Zr→zg→Prop,(∀out ws fr' H' s',(u4 x acc (.ListComp elt [⟨.Name t tp,iter,ifs,0⟩,⟨t1,i1,ifs1,0⟩] scope pos) 0 (n+out.length) l fr' H' fun out2=>k (out++out2))→ConL (x.wi [I]).ρ s'.heap out ws→St (x.wi [I]) fr' H' s'→Yy s'.heap acc (vs++ws)→KeptX (x.wi [I]) [I2,acc] s3 s'→R2 (.ok .next) s') →
   y4 (zu pw x.w) x.A (.compLoop (.ListComp elt [⟨.Name t tp,iter,ifs,0⟩,⟨t1,i1,ifs1,0⟩] scope pos) 1 (.ref I2) (.ref acc) x.env) R2 s3:=fun R2 g =>
  q3 s3 I2 vs F2 t2 o2 ao.wi hvn a3 S3 T3 hh R2 g
 have fin:∀Q:Qw→zg→Prop,(∀out ws fr' H' s',(u4 x acc (.ListComp elt [⟨.Name t tp,iter,ifs,0⟩,⟨t1,i1,ifs1,0⟩] scope pos) 0 (n+out.length) l fr' H' fun out2=>k (out++out2))→ConL (x.wi [I]).ρ s'.heap out ws→St (x.wi [I]) fr' H' s'→Yy s'.heap acc (vs++ws)→KeptX (x.wi [I]) [I2,acc] s3 s'→Q .next s') →
   zr (zu pw x.w) x.A (runOwn (.compStart (.ListComp elt [⟨.Name t tp,iter,ifs,0⟩,⟨t1,i1,ifs1,0⟩] scope pos) (0+1) (.ref I2) (.ref acc) x.env) x.env) Q E' s3:=fun Q g=>by
  refine wpAny_runOwn ?_
  exact Wl (loop _ fun out ws fr' H' s' p1 p2 p3 p4 p5=>g out ws fr' H' s' p1 p2 p3 p4 p5)
   (It.self (x:=(x.wi [I]).wi [I2]) T3 hh (loop _ fun out ws fr' H' s' p1 p2 p3 p4 p5=>g out ws fr' H' s' p1 p2 p3 p4 p5))
 refine zb (fin _ fun out ws fr2 H3 s4 p1 p2 p3 p4 p5=>wpAny_pure ⟨rfl,?_⟩)
 have k24:∀b o,s2.heap.get? b=some o→¬uG x b→b≠acc→∃o',s4.heap.get? b=some o'∧tu o o':=fun b o e n m=>p5.keep b o (X3.keep _ _ e) n fun q=>by
  rcases zn.mp q with q|q
  ·rw[q,n2]at e;exact nS e
  ·exact m (zd.mp q)
 have k24N:∀{b o},s2.heap.get? b=some o→¬uG x b→b≠acc→um o=false→s4.heap.get? b=some o:=fun{b o} e n m h=>by
  refine zt (k24 b o e n m) fun o' e' q=>?_
  rw[q.eq h]at e';exact e'
 have nm:yH (x.wi [I]).ρ.op s2.heap s4.heap:=fun b o n e m=>k24N e (fun t=>by
  refine zt (S2.kinds b t) fun o' h' m'=>?_
  rw[e]at h';(replace h':=zf h';subst h');rw[m]at m';exact fT m') (fun z=>n (by refine zc z ?_;exact zD _ ao.op)) (WR m)
 have T4:It (x.wi [I]) I l s4.heap:=(T.mono (S.nonMut K2) fun o e=>K2.keepN e nt (T.obj o e)).mono nm fun o e=>k24N e nt (uF ne) ((T.mono (S.nonMut K2) fun o e=>K2.keepN e nt (T.obj o e)).obj o e)
 have k4:KeptX x [I,acc] s s4:=
  ⟨by refine xd K2.rest fun h t d e=>?_;refine xd X3.rest fun h' t' d' e'=>?_;refine xd p5.rest fun h'' t'' d'' e''=>?_;refine zc e'' (zc e' (zc e ?_));exact⟨h'',t'',d'',rfl⟩,
   fun b o e n m=>by
    exact zt (K2.keep b o e n) fun o1 e1 q1=>zt (k24 b o1 e1 n fun z=>m (by rw[z];exact .tail _ (.head _))) fun o2 e2 q2=>⟨o2,e2,q1.trans q2⟩⟩
 refine p1 s4 I (vs++ws) F nt no ao (by exact zc zG (zc hvn (zc p2.length rfl))) p4 p3 T4 hh R fun out2 ws2 fr' H' s' r1 r2 r3 r4 r5=>?_
 have nm5:yH (x.wi [I]).ρ.op s4.heap s'.heap:=p3.nonMutX ⟨r5.rest,r5.keep⟩ fun b hb=>by
  rcases zn.mp hb with rfl|hb
  ·exact .head _
  ·refine zc (zd.mp hb) ?_;exact zD _ ao.op
 refine f (out++out2) (ws++ws2) fr' H' s' r1 (((p2.mono nm5).close fun b q=>zD _ q).append r2) r3 (by rw[zA]at r4;exact r4) (k4.trans r5)
end
end
section
noncomputable def uN(cells:List (Str×Addr)):List (Str×NameKind)→List (Str×Addr)→List (Str×Addr)
 |[],acc=>acc
 |(n,k)::r,acc=>if k==.free then uN cells r ((n,(cells.lookup n).getD 0)::acc)else uN cells r acc
theorem Xm(h:(k==yY)=true):uN cells ((n,k)::r) acc=uN cells r ((n,(cells.lookup n).getD 0)::acc):=if_pos h
theorem Xn(h:¬(k==yY)=true):uN cells ((n,k)::r) acc=uN cells r acc:=if_neg h
theorem TD{k:G5}(h:(k==yY)=true):k=.free:=by cases k<;>first|rfl|exact fT h
theorem Tz(h:∀p∈scope.names,p.2=.free→∃c,env.cells.lookup p.1=some c):W9 scope env=pure (uN env.cells scope.names []):=by
 unfold W9
 generalize scope.names=names at h
 have key:∀(names:List (Str×NameKind)) (acc:List (Str×Addr)),(∀p∈names,p.2=.free→∃c,env.cells.lookup p.1=some c) →
   (forIn names acc fun(x:Str×NameKind) (r:List (Str×Addr))=>(if(x.2==yY)=true then do let a ←lh env x.1;pure (qB ((x.1,a)::r))else pure (qB r):VL (ForInStep (List (Str×Addr)))))=pure (uN env.cells names acc):=by
  intro names
  induction names with
  |nil=>intro acc _;rfl
  |cons p r ih =>
   intro acc h
   obtain⟨n,k⟩:=p
   refine zc (XF ..) ?_
   by_cases hk:(k==yY)=true
   ·refine zc (if_pos hk) (zc (Xm hk) ?_)
    refine yf (h (n,k) (.head _) (TD hk)) fun c e=>?_
    have hc:lh env n=pure c:=by unfold lh;exact zc e rfl
    refine zc hc (zc e ?_)
    exact ih _ fun p hp=>h p (.tail _ hp)
   ·refine zc (if_neg hk) (zc (Xn hk) ?_)
    exact ih _ fun p hp=>h p (.tail _ hp)
 have:=key names [] h
 simp only[this]
 rfl
theorem VH(cells:List (Str×Addr))(names:List (Str×NameKind)):∀(acc:List (Str×Addr)),uN cells names acc=uN cells names []++acc:=by
 induction names with
 |nil=>intro acc;rfl
 |cons p r ih =>
  intro acc
  obtain⟨n,k⟩:=p
  by_cases hk:(k==yY)=true
  ·refine zc (Xm hk) (zc (Xm hk) (zc (ih (_::acc)) (zc (ih [_]) (zc (zA ..) ?_))));rfl
  ·refine zc (Xn hk) (zc (Xn hk) ?_);exact ih acc
theorem tT{names:List (Str×NameKind)}(hc:∀p∈names,p.2=.free→∃c,cells.lookup p.1=some c)(h:(n,c)∈uN cells names []):(n,yY)∈names∧cells.lookup n=some c:=by
 induction names with
 |nil=>exact mN h
 |cons p r ih =>
  obtain⟨m,k⟩:=p
  have ih:=ih fun p hp=>hc p (.tail _ hp)
  by_cases hk:(k==yY)=true
  ·rw[Xm hk,VH]at h
   refine lN (zv.mp h) (fun h=>zK (ih h) fun a b=>⟨.tail _ a,b⟩) fun h=>?_
   cases zd.mp h
   have hk:=TD hk
   exact yf (hc _ (.head _) hk) fun c e=>⟨by refine zc hk ?_;exact .head _,by refine zc e ?_;rfl⟩
  ·rw[Xn hk]at h
   exact zK (ih h) fun a b=>⟨.tail _ a,b⟩
theorem aa{names:List (Str×NameKind)}(h:(n,yY)∈names):∃c,(uN cells names []).lookup n=some c:=by
 induction names with
 |nil=>exact mN h
 |cons p r ih =>
  obtain⟨m,k⟩:=p
  by_cases hk:(k==yY)=true
  ·refine zc (Xm hk) (zc (VH ..) (zc tE ?_))
   cases h with
   |head=>cases q:(uN cells r []).lookup n with
    |none=>exact⟨_,by refine zc yd ?_;simp;rfl⟩
    |some c=>exact⟨c,rfl⟩
   |tail _ h=>exact yf (ih h) fun c e=>⟨c,by refine zc e ?_;rfl⟩
  ·refine zc (Xn hk) ?_
   cases h with
   |head=>exact absurd rfl hk
   |tail _ h=>exact ih h
theorem V2(hn:(cells.map (·.2)).Nodup){names:List (Str×NameKind)}(hc:∀p∈names,p.2=.free→∃c,cells.lookup p.1=some c)(nd:(names.map (·.1)).Nodup):((uN cells names []).map (·.2)).Nodup:=by
 induction names with
 |nil=>exact wC
 |cons p r ih =>
  obtain⟨m,k⟩:=p
  rw[zU,tB]at nd
  have ih:=ih (fun p hp=>hc p (.tail _ hp)) nd.2
  by_cases hk:(k==yY)=true
  ·refine zc (Xm hk) (zc (VH ..) (zc yc ?_))
   refine uw.mpr ⟨ih,tB.mpr ⟨yV,wC⟩,fun a ha b hb e=>?_⟩
   have hb:=zd.mp hb
   refine yf (hc (m,k) (.head _) (TD hk)) fun c ec=>?_
   rw[ec]at hb
   have hb:b=c:=hb
   refine zt (zB.mp ha) fun z0 hm z2=>?_;obtain⟨n,c'⟩:=z0;subst z2
   refine zK (tT (fun p hp=>hc p (.tail _ hp)) hm) fun f1 f2=>?_
   have:n=m:=ij hn (vD f2) (by refine zc (show c'=c from e.trans hb) ?_;exact vD ec)
   exact nd.1 (by refine xv this ?_;exact we (f:=(·.1)) f1)
  ·refine zc (Xn hk) ?_
   exact ih
noncomputable def gc:Option G5→Bool
 |some .free=>true
 |_=>false
noncomputable def wf(names:List (Str×NameKind)):List (Str×AV)→List (Str×AV)
 |[]=>[]
 |p::r=>bif gc (lk p.1 names)then p::wf names r else wf names r
theorem kR:wf names (p::r)=bif gc (lk p.1 names)then p::wf names r else wf names r:=rfl
theorem jg:∀{fr:List (Str×AV)},lk n (wf names fr)=some av→names.lookup n=some .free∧lk n fr=some av:=by
 intro l0
 induction l0 with
 |nil =>
  intro h
  exact nS h
 |cons p r ih =>
  intro h
  rw[kR]at h
  cases hf:gc (lk p.1 names)with
  |true =>
   rw[hf]at h
   change lk n (p::wf names r)=_ at h
   rw[wQ]at h ⊢
   cases q:zZ n p.1 with
   |true =>
    rw[q]at h
    rw[yk]at q
    refine⟨?_,h⟩
    refine zc q (xv (vE ..) ?_)
    cases z:lk p.1 names with
    |none=>rw[z]at hf;exact fT hf
    |some kk=>rw[z]at hf;cases kk<;>first|rfl|exact fT hf
   |false =>
    rw[q]at h
    exact(ih h)
  |false =>
   rw[hf]at h
   refine zK ((ih h)) fun a b=>⟨a,?_⟩
   refine zc wQ ?_
   cases q:zZ n p.1 with
   |true =>
    rw[yk]at q
    rw[q,←vE]at a
    rw[a]at hf;exact tF hf
   |false=>exact b
structure Sub(x:Cx)(scope:qv)(x':Cx)(acc:zI):Prop where
 eq:∃env oc,x'=x.at' x.A env oc [acc]
 sc:x'.env.scope=tw scope x.env
 gl:x'.env.globals=x.env.globals
 bi:x'.env.builtins=x.env.builtins
 own:∀n c,scope.names.lookup n=some .cell→x'.env.cells.lookup n=some c→c∈x'.oc
theorem St.rescope(S:St x fr H s)(h1:∀n,sc.names.lookup n=some .local→x.env.kindOf n=some .local)(h2:∀n,(sc.names.lookup n=some .cell∨sc.names.lookup n=some .free)→(x.env.kindOf n=some .cell∨x.env.kindOf n=some .free)):St {x with env:={x.env with scope:=sc}} fr H s:=by
 refine yU S.frame fun z0 c1 c2=>?_;obtain⟨mm,n,f⟩:=z0
 exact⟨S.base,S.apart,S.kinds,⟨⟨mm,n,fun y av e q=>f y av (h1 y e) q⟩,fun y av e q=>c1 y av (h2 y e) q,fun y e=>c2 y (h2 y e)⟩,S.objs,S.lim,S.nodup,S.own,S.cnod,S.opn,S.ocs,S.ol,S.cex,S.frs⟩
theorem XL:(tw scope env).names.lookup n=some .local→scope.names.lookup n=some .local:=by
 unfold tw
 dsimp only
 generalize scope.names=names
 induction names with
 |nil=>intro h;exact nS h
 |cons p r ih =>
  obtain⟨m,k⟩:=p
  refine zc zU ?_
  dsimp only
  intro h
  cases q:n==m with
  |true =>
   split at h
   ·rw[yd,q]at h;cases h
   ·rw[yd,q]at h;refine zc yd (zc q ?_);exact h
  |false =>
   refine zc yd (zc q ?_)
   split at h
   ·rw[yd,q]at h;exact ih h
   ·rw[yd,q]at h;exact ih h
theorem WI:((tw scope env).names.lookup n=some .cell∨(tw scope env).names.lookup n=some .free)→(scope.names.lookup n=some .cell∨scope.names.lookup n=some .free):=by
 unfold tw
 dsimp only
 generalize scope.names=names
 induction names with
 |nil=>intro h;rcases h with h|h<;>exact nS h
 |cons p r ih =>
  obtain⟨m,k⟩:=p
  refine zc zU ?_
  dsimp only
  intro h
  cases q:n==m with
  |true =>
   refine zc yd (zc q ?_)
   split at h
   ·rename_i hc
    rw[zk,zk]at hc
    exact .inr (by exact zc (show k=.free by simpa using hc.1.1) rfl)
   ·rw[yd,q]at h;exact h
  |false =>
   refine zc yd (zc q ?_)
   split at h
   ·rw[yd,q]at h;exact ih h
   ·rw[yd,q]at h;exact ih h
theorem St.otherMut(S:St x fr H s)(F:Far x a)(nt:¬uG x a)(na:a∉x.ρ.op)(hm:∀o,s.heap.get? a=some o→u8 o.cls=true)(k:∀b o,b≠a→s.heap.get? b=some o→h'.get? b=some o):St x fr H {s with heap:=h',toks:=tk}:=by
 have nm:yH x.ρ.op s.heap h':=fun b o n q m=>k b o (fun z=>by rw[z]at q;rw[hm o q]at m;exact tF m) q
 refine yU S.frame fun z0 c1 c2=>?_;obtain⟨mm,n,f⟩:=z0
 have cl:∀{n q},x.env.cells.lookup n=some q→q≠a:=fun{n q} e z=>F.ce (z▸xb e)
 refine⟨fun b o e=>k b o (fun z=>by rw[z,F.ba]at e;exact nS e) (S.base b o e),S.apart,fun b t=>?_,⟨⟨mm,Zx n fun o e=>k _ _ (uF F.lo) e,fun y av e q=>?_⟩,fun y av e q=>?_,fun y e=>?_⟩,fun i o e=>?_,?_,S.nodup,S.own,S.cnod,fun b q=>?_,S.ocs,S.ol,fun c q=>?_,fun L q=>by
  refine yU (S.frs L q) fun c1 c2 z2=>?_;refine Qh z2 fun o es ep h r=>?_;clear z2
  exact⟨c1,c2,o,es,ep,k L o (fun z=>F.fr (z▸q)) h,r⟩⟩
 ·exact zt (S.kinds b t) fun o h m=>⟨o,k b o (fun z=>nt (z▸t)) h,m⟩
 ·refine zt (f y av e q) fun v p r=>?_;exact⟨v,p,r.mono nm⟩
 ·refine xk (c1 y av e q) fun cc v p b d=>?_;exact⟨cc,v,p,k _ _ (cl p) b,d.mono nm⟩
 ·refine yW (c2 y e) fun cc v p b=>?_;exact⟨cc,v,p,k _ _ (cl p) b⟩
 ·refine xk (S.objs i o e) fun b d p q r=>?_
  have hb:b≠a:=fun z=>F.ob (z▸zH p)
  have hd:d≠a:=fun z=>F.de (z▸zH q)
  refine⟨b,d,p,q,?_⟩
  cases o with
  |inst C fs=>(refine zK r fun r1 z1=>?_;refine yW z1 fun es n' r2 r3=>?_;clear z1);exact⟨k _ _ hb r1,es,n',k _ _ hd r2,r3.mono nm⟩
  |dict fs=>(refine zK r fun r1 z1=>?_;refine yW z1 fun es n' r2 r3=>?_;clear z1);exact⟨r1,es,n',k _ _ hd r2,r3.mono nm⟩
 ·refine zt S.lim fun mc p q=>?_;exact⟨mc,Zx p fun o e=>k _ _ (uF F.st) e,q⟩
 ·refine yf (S.opn b q) fun o h=>?_;exact⟨o,k b o (fun z=>na (z▸q)) h⟩
 ·refine yf (S.cex c q) fun o h=>?_;exact⟨o,k c o (fun z=>F.ce (z▸q)) h⟩
end
section
structure CompOk(x:Cx)(scope:qv):Prop where
 kind:scope.kind=.function
 cons:∀p∈scope.names,scope.names.lookup p.1=some p.2
 nd:(scope.names.map (·.1)).Nodup
 clos:∀p∈scope.names,p.2=.free→(x.env.kindOf p.1=some .cell∨x.env.kindOf p.1=some .free)
section
variable {x:Cx} {fr:List (Str×AV)} {H:List AObj} {elt t0 iter:Expr} {ifs:List Expr} {rest:List tZ} {scope:qv} {pos:ZJ}
theorem Q8(S:St x fr H s)(O:CompOk x scope){kk:List AV→List AObj→Prop}{E:zi→zg→Prop}(c:y2 x.ρ s.heap a v)(hi:u3 a=some l)(hok:uZ a)(hh:x.A.handled=none)(h:∀x' acc,Sub x scope x' acc→u4 x' acc (.ListComp elt (⟨t0,iter,ifs,0⟩::rest) scope pos) 0 0 l (wf scope.names fr) H fun out U H2=>kk out H2){R:zi→zI→Zr→zg→Prop}(fin:∀acc L m s' out H',kk out H'→St x fr H' s'→y2 x.ρ s'.heap (.list out) (.ref acc)→Chg x s s'→s.heap.get? L=none→s'.heap.Ns L m→(∀o,s'.heap.get? L=some o→u8 o.cls=true)→R (.ref acc) L (.ok .next) s'):
  zr (zu pw x.w) x.A (XA v) (fun it s₂=>zr (zu pw x.w) x.A (newList []) (fun acc s₃ =>
   zr (zu pw x.w) x.A (vV scope x.env.globals (uN x.env.cells scope.names []) [] x.env.qual none .none (some x.env)) (fun cenv s₄ =>
    y4 (zu pw x.w) x.A (.compStart (.ListComp elt (⟨t0,iter,ifs,0⟩::rest) scope pos) 0 it acc {cenv with scope:=tw scope x.env}) (R acc cenv.locals) s₄) E s₃) E s₂) E s:=by
 refine uk hi hok c fun I s2 X2 n2 e2 T2=>?_
 have sz:∀{h:xO},h.get? h.objs.size=none:=fun{h}=>by
  cases e:h.get? h.objs.size with
  |none=>rfl
  |some o=>exact absurd (zY e) (yI _)
 refine yQ ?_ (by size_fits)
 let acc:=s2.heap.objs.size
 let s3:zg:={s2 with heap:=s2.heap.push {cls:=.type "list",data:=.seq ([]:List zi).toArray}}
 have X3:Ext s2 s3:=Ext.push s2 _ s2.toks
 have X13:=X2.trans X3
 have na:s.heap.get? acc=none:=by
  cases e:s.heap.get? acc with
  |none=>rfl
  |some o=>have:=X2.keep _ _ e;rw[sz]at this;exact nS this
 have ea:s3.heap.get? acc=some {cls:=.type "list",data:=.seq ⟨[]⟩}:=zx _ rfl
 have ne:I≠acc:=fun z=>by(refine yf e2 fun o e=>?_;clear e2);rw[z,sz]at e;exact nS e
 have hY:∀b∈[I,acc],s.heap.get? b=none:=fun b hb=>by
  rcases zn.mp hb with rfl|hb
  ·exact n2
  ·refine zc (zd.mp hb) ?_;exact na
 have S3:St (x.wi [I,acc]) fr H s3:=S.openE X13 [I,acc] hY fun b hb=>by
  rcases zn.mp hb with rfl|hb
  ·(refine yf e2 fun o e=>?_;clear e2);exact⟨o,X3.keep _ _ e⟩
  ·refine zc (zd.mp hb) ?_;exact⟨_,ea⟩
 have T3:It (x.wi [I,acc]) I l s3.heap:=(T2 _ hY).mono X3.nonMut fun o e=>X3.keep _ _ e
 have hcl:∀p∈scope.names,p.2=.free→∃c,x.env.cells.lookup p.1=some c:=fun p hp e=>by
  refine yU S.frame fun z0 z1 c2=>?_;clear z0;clear z1
  refine yW (c2 p.1 (O.clos p hp e)) fun c vo q z3=>?_;clear z3
  exact⟨c,q⟩
 have C:Capt (x.wi [I,acc]).ρ (x.wi [I,acc]).δ s3.heap scope.names (uN x.env.cells scope.names []) (wf scope.names fr):=by
  refine yU S3.frame fun z0 c1 c2=>?_;clear z0
  have lkc:∀{n},scope.names.lookup n=some .free→(uN x.env.cells scope.names []).lookup n=x.env.cells.lookup n:=fun{n} e=>by
   exact yf (aa (cells:=x.env.cells) (wG e)) fun c q=>zc q (zc ((tT hcl (vD q)).2) rfl)
  refine⟨fun n e=>?_,fun n av e=>?_,fun c hc=>?_,V2 S.cnod hcl O.nd⟩
  ·exact yW (c2 n (O.clos _ (wG e) rfl)) fun c vo q r=>⟨c,vo,(lkc e).trans q,r⟩
  ·exact zK (jg e) fun q r=>xk (c1 n av (O.clos _ (wG q) rfl) r) fun c v p1 p2 p3=>⟨q,c,v,(lkc q).trans p1,p2,p3⟩
  ·refine zt (zB.mp hc) fun z0 hm z2=>?_;obtain⟨n,c⟩:=z0;subst z2
   exact zK (tT hcl hm) fun q r=>⟨(S.own.2 c (xb r)).1,S3.cex c (xb r)⟩
 refine u5 (x:=x.wi [I,acc]) S3 (bavs:=[]) C O.cons O.kind rfl (fun p hp=>by cases hp) fun env oc s4 he eo S4 C4 n4 n5 lim4 cm=>?_
 have S4:=S4 x.A
 let env':Qx:={env with scope:=tw scope x.env}
 let x':Cx:=x.at' x.A env' oc [acc]
 have hsub:Sub x scope x' acc:=⟨⟨env',oc,rfl⟩,rfl,eo.gl,by show env.builtins=_;refine zc eo.bi ?_;rfl,fun n c e q=>eo.own n c e q⟩
 have S4':St (x'.wi [I]) (wf scope.names fr) H s4:=S4.rescope (sc:=tw scope x.env) (fun n e=>by show env.scope.names.lookup n=_;refine zc eo.sc ?_;exact XL e) fun n e=>by show env.scope.names.lookup n=_∨env.scope.names.lookup n=_;refine zc eo.sc ?_;exact WI e
 have k34:∀b o,s3.heap.get? b=some o→b∉x.δ→∃o',s4.heap.get? b=some o'∧tu o o':=C4.keep
 have S3n:yH (x.wi [I,acc]).ρ.op s3.heap s4.heap:=S3.nonMut C4.kept
 have farI:Far x I:=S.far n2
 have farA:Far x acc:=S.far na
 have e3I:∃o,s3.heap.get? I=some o:=by(refine yf e2 fun o e=>?_;clear e2);exact⟨o,X3.keep _ _ e⟩
 have nL:∀b,(∃o,s3.heap.get? b=some o)→b≠env.locals∧b∉oc:=fun b ⟨o,e⟩=>⟨fun z=>(by rw[z,n4]at e;exact nS e),fun z=>(by rw[n5 b z]at e;exact nS e)⟩
 have cells_eq:∀b,b∈env.cells.map (·.2)→b∈oc∨b∈x.env.cells.map (·.2):=fun b hb=>by
  rcases cm b hb with q|q
  ·exact .inl q
  ·refine zt (zB.mp q) fun z0 hm z2=>?_;obtain⟨n,c⟩:=z0;subst z2
   exact .inr (xb (tT hcl hm).2)
 have far':∀b,Far x b→(∃o,s3.heap.get? b=some o)→Far x' b:=fun b F ex=>⟨(nL b ex).1,fun q=>(cells_eq b q).elim (nL b ex).2 F.ce,F.de,F.ob,F.ba,F.st,F.fr⟩
 have nt':∀b,b∉x.δ→(∃o,s3.heap.get? b=some o)→¬uG x' b:=fun b d ex t=>by
  rcases t with t|t|t
  ·exact(nL b ex).1 t
  ·exact(nL b ex).2 t
  ·exact d t
 have T4:It (x'.wi [I]) I l s4.heap:=T3.mono S3n fun o e=>C4.keepN e farI.de (T3.obj o e)
 have acc4:Yy s4.heap acc []:=⟨_,C4.keepN ea farA.de rfl⟩
 have noI:I∉x'.ρ.op:=fun q=>by
  rcases zn.mp q with q|q
  ·exact ne q
  ·exact S.notOp n2 q
 have loop:y4 (zu pw x.w) x.A (.compLoop (.ListComp elt (⟨t0,iter,ifs,0⟩::rest) scope pos) 0 (.ref I) (.ref acc) env') (R (.ref acc) env.locals) s4:=by
  refine h x' acc hsub s4 I [] (far' I farI e3I) (nt' I farI.de e3I) noI ⟨.head _,far' acc farA ⟨_,ea⟩,nt' acc farA.de ⟨_,ea⟩⟩ rfl acc4 S4' T4 hh _ fun out ws fr' H' s' q1 q2 q3 q4 q5=>?_
  have ch:Chg x s s':=⟨by refine xd X13.rest fun h t d e=>?_;refine xd C4.rest fun h' t' d' e'=>?_;refine xd q5.rest fun h'' t'' d'' e''=>?_;refine zc e'' (zc e' (zc e ?_));exact⟨h'',t'',d'',rfl⟩,
   fun b o e d=>by
    refine zt (k34 _ _ (X13.keep _ _ e) d) fun o1 e1 r1=>zt (q5.keep b o1 e1 (nt' b d ⟨o,X13.keep _ _ e⟩) fun q=>by
     rcases zn.mp q with q|q
     ·rw[q,n2]at e;cases e
     ·rw[zd.mp q,na]at e;cases e) fun o2 e2 r2=>?_
    exact⟨o2,e2,r1.trans r2⟩⟩
  have Sb:St x fr H' s':=S.back q3 ch
  refine yf q4 fun m em=>?_;clear q4
  have nloc:s.heap.get? env.locals=none:=by
   cases e:s.heap.get? env.locals with
   |none=>rfl
   |some o=>rw[X13.keep _ _ e]at n4;exact Sn n4
  refine yU q3.frame fun z0 z1 z2=>?_;obtain⟨mm,hn,-⟩:=z0;clear z1;clear z2
  refine zt (q3.kinds _ (.inl rfl)) fun oL hL mL=>fin acc env.locals mm s' out H' q1 Sb (Yi (S.notOp na) em (q2.close fun b q=>zD _ q)) ch nloc hn fun o e=>?_
  have:s'.heap.get? env.locals=some oL:=hL
  rw[e]at this;(replace this:=zf this;subst this);exact mL
 exact Ct loop (It.self (x:=x'.wi [I]) T4 hh loop)
end
end
section
set_option tactic.hygienic true
section
variable {x:Cx} {fr:List (Str×AV)} {H:List AObj} {elt t0 iter:Expr} {ifs:List Expr} {rest:List tZ} {scope:qv} {pos:ZJ}
theorem Wk(O:CompOk x scope):∀p∈scope.names,p.2=.local→scope.names.lookup p.1=some .local:=fun p hp e=>by refine xv e ?_;exact O.cons p hp
theorem VG(S:St x fr H s)(O:CompOk x scope):W9 scope x.env=pure (uN x.env.cells scope.names []):=Tz fun p hp e=>by
 refine yU S.frame fun z0 z1 c2=>?_;clear z0;clear z1
 refine yW (c2 p.1 (O.clos p hp e)) fun c vo q z3=>?_;clear z3
 exact⟨c,q⟩
theorem zL.comp(O:CompOk x scope)(hs:∀v,yR iter x.env v=pure v)(hh:x.A.handled=none)(h:zL x fr H (zR iter x.env) fun a H1=>∃l,u3 a=some l∧uZ a∧∀x' acc,Sub x scope x' acc →
   u4 x' acc (.ListComp elt (⟨t0,iter,ifs,0⟩::rest) scope pos) 0 0 l (wf scope.names fr) H1 fun out _ H2=>k (.list out) H2):
  zL x fr H (zR (.ListComp elt (⟨t0,iter,ifs,0⟩::rest) scope pos) x.env) k:=by
 intro s S Q E f
 refine zc (eval_ListComp ..) (Xz (use:=none) rfl hs (VG S O) O.kind (Wk O) (h s S _ E fun v a H1 s1 q c1 S1 K1=>?_))
 refine wO q fun l hi hok q=>Q8 S1 O c1 hi hok hh q fun acc L m s' out H' q1 S' c' C' nL hn hm=>⟨m,hn,fun h' sb=>?_⟩
 have k':∀b o,b≠L→s'.heap.get? b=some o→h'.get? b=some o:=fun b o n e=>by refine zc (sb.2 b n) ?_;exact e
 have S2:St x fr H' {s' with heap:=h'}:=S'.otherMut (S1.far nL) (S1.notTch nL) (S1.notOp nL) hm k'
 refine f _ _ H' _ q1 (c'.mono fun b o n q m=>k' b o (fun z=>by rw[z]at q;rw[hm o q]at m;exact tF m) q) S2 (K1.trans ?_)
 exact Chg.kept ⟨by refine xd C'.rest fun h t d e=>?_;refine zc e ?_;exact⟨h',t,d,rfl⟩,fun b o e n=>by
  exact zt (C'.keep b o e n) fun o' e' q=>⟨o',k' b o' (fun z=>by rw[z,nL]at e;exact nS e) e',q⟩⟩
theorem zQ.assign_comp(O:CompOk x scope)(hs:∀v,yR iter x.env v=pure v)(hh:x.A.handled=none)(hsw:uH (.ListComp elt (⟨t0,iter,ifs,0⟩::rest) scope pos) (some (.Name y py)) spos.line x.env=pure true)(hk:x.env.scope.kind=.function)(hl:x.env.kindOf y=some .local)(h:zL x fr H (zR iter x.env) fun a H1=>∃l,u3 a=some l∧uZ a∧∀x' acc,Sub x scope x' acc →
   u4 x' acc (.ListComp elt (⟨t0,iter,ifs,0⟩::rest) scope pos) 0 0 l (wf scope.names fr) H1 fun out _ H2=>k .next (xp y (.list out) fr) H2):
  zQ x fr H (tx (.Assign [.Name y py] (.ListComp elt (⟨t0,iter,ifs,0⟩::rest) scope pos) spos) x.env) k:=by
 intro s S Q E f
 refine zc (exec_Assign_Name_used _ _ _ _ hsw) (zb (xi (zb ?_)))
 refine zb (wE (Xz (use:=some (assign (.Name y py) x.env)) (Q:=fun _ s'=>Q .next s') rfl hs (VG S O) O.kind (Wk O)
  (h s S _ E fun v a H1 s1 q c1 S1 K1=>?_)) (fun _ s' hq=>wpAny_pure (wpAny_pure hq)) fun _ _ e=>e)
 refine wO q fun l hi hok q=>Q8 S1 O c1 hi hok hh q fun acc L m s' out H' q1 S' c' C' nL hn hm=>b0 (VR (k:=fun fr2 H2=>fr2=xp y (.list out) fr∧H2=H') hk hl ⟨rfl,rfl⟩ S' c' fun fr2 H2 s2 e S2 K2=>?_)
 refine zK e fun z0 z1=>?_;clear e;subst z0;subst z1
 have nt:=S1.notTch nL
 have kL:∀o,s'.heap.get? L=some o→∃o',s2.heap.get? L=some o'∧tu o o':=fun o e=>K2.keep L o e nt
 have hm2:∀o,s2.heap.get? L=some o→u8 o.cls=true:=fun o e=>by
  refine Qh hn fun o' es ep e' z4=>?_;clear hn;clear z4
  refine zt (kL o' e') fun o2 e2 q=>?_
  rw[e2]at e;(replace e:=zf e;subst e);refine zc q.cls ?_;exact hm _ e'
 refine⟨m,W5 hn kL,fun h' sb=>?_⟩
 have k':∀b o,b≠L→s2.heap.get? b=some o→h'.get? b=some o:=fun b o n e=>by refine zc (sb.2 b n) ?_;exact e
 have S3:St x (xp y (.list out) fr) H2 {s2 with heap:=h'}:=S2.otherMut (S1.far nL) nt (S1.notOp nL) hm2 k'
 exact f .next .next _ _ _ q1 rfl S3 (K1.trans ⟨by refine xd K2.rest fun h t d e=>?_;refine xd C'.rest fun h2 t2 d2 e2=>?_;refine zc e (zc e2 ?_);exact⟨h',t,d,rfl⟩,
  fun b o e n=>by
   exact zt (C'.kept.keep b o e n) fun o1 e1 r1=>zt (K2.keep b o1 e1 n) fun o2 e2 r2=>⟨o2,k' b o2 (fun z=>by rw[z,nL]at e;exact nS e) e2,r1.trans r2⟩⟩)
end
end
section
abbrev y3:=List (Str×AV)
abbrev Hp:=List AObj
abbrev yG:=List AV→List (Str×AV)→Hp→(AV→Hp→Prop)→Prop
def y9(x:Cx)(f:zi)(S:yG):Prop:=
 ∀fr H avs kvs k,S avs kvs H k→∀s,St x fr H s→∀vs kws,ConL x.ρ s.heap avs vs→Zj x.ρ s.heap kvs kws →
  ∀(Q:zi→zg→Prop) (E:zi→zg→Prop),(∀v a H' s',k a H'→y2 x.ρ s'.heap a v→St x fr H' s'→Kept x s s'→Q v s')→zr (zu pw x.w) x.A (call f vs kws) Q E s
set_option backward.match.sparseCases false in
noncomputable def Vn:Expr→Bool
 |.Starred _ _=>false
 |_=>true
theorem uL(h:Vn e=true):xL (e::rest) env=(false,zR e env)::xL rest env:=by
 cases e<;>first|rfl|exact fT h
section
variable {x:Cx} {fr:y3} {H:Hp}
theorem w9.args_nil(h:k [] H):w9 x fr H (vR (vX pos (xL [] x.env))) k:=w9.nil h
theorem w9.args_cons(hu:Vn e=true)(h:zL x fr H (zR e x.env) fun a H1=>w9 x fr H1 (vR (vX pos (xL rest x.env))) fun l H2=>k (a::l) H2):w9 x fr H (vR (vX pos (xL (e::rest) x.env))) k:=by
 exact zc (uL hu) (w9.cons h)
theorem w9.kws_nil(h:k [] H):w9 x fr H (Ys ((xS pos (yN [] x.env)).map (·.2))) k:=fun s S U U f=>kwAll_nil (f _ [] H s h (by rfl) S (Kept.refl _ _))
theorem w9.kws_cons(h:zL x fr H (zR e x.env) fun a H1=>w9 x fr H1 (Ys ((xS pos (yN rest x.env)).map (·.2))) fun l H2=>k (a::l) H2):
  w9 x fr H (Ys ((xS pos (yN (⟨some name,e,p⟩::rest) x.env)).map (·.2))) k:=fun s S U E f =>
 kwAll_cons (h s S _ E fun v a H1 s1 h1 c1 S1 K1=>h1 s1 S1 _ E fun vs l H2 s2 h2 c2 S2 K2=>f (v::vs) (a::l) H2 s2 h2 (by exact⟨v,vs,rfl,c1.mono (S1.nonMut K2),c2⟩) S2 (K1.trans K2))
noncomputable def uU:List tA→List Str
 |[]=>[]
 |⟨some n,_,_⟩::r=>n::uU r
 |⟨none,_,_⟩::r=>uU r
noncomputable def to:List tA→Bool
 |[]=>true
 |⟨some _,_,_⟩::r=>to r
 |⟨none,_,_⟩::_=>false
theorem u7:∀{kws:List tA},to kws=true→(xS pos (yN kws env)).all (·.1.isSome)=true∧(xS pos (yN kws env)).any (·.1.isNone)=false∧(xS pos (yN kws env)).filterMap (·.1)=uU kws
 |[],_=>⟨rfl,rfl,rfl⟩
 |⟨some n,v,p⟩::r,h=>by
  refine yU (u7 (pos:=pos) (env:=env) (kws:=r) h) fun a b c=>⟨?_,?_,?_⟩
  ·show(true&&(xS pos (yN r env)).all (·.1.isSome))=true;refine zc a ?_;rfl
  ·show(false||(xS pos (yN r env)).any (·.1.isNone))=false;refine zc b ?_;rfl
  ·show n::(xS pos (yN r env)).filterMap (·.1)=_;refine zc c ?_;rfl
 |⟨none,v,p⟩::r,h=>by exact fT h
noncomputable def xP:List Expr→Bool
 |[]=>true
 |e::r=>Vn e&&xP r
theorem vM:∀{args:List Expr},xP args=true→(vX pos (xL args env)).any (·.1)=false∧(vX pos (xL args env)).all (fun x=>!x.1)=true:=by
 intro l0
 induction l0 with
 |nil =>
  intro _
  exact⟨rfl,rfl⟩
 |cons e r ih =>
  intro h
  unfold xP at h
  rw[zk]at h
  refine zK ((ih h.2)) fun a b=>zc (uL h.1) ?_
  exact⟨by show(false||(vX pos (xL r env)).any (·.1))=false;refine zc a ?_;rfl,by refine zc b ?_;rfl⟩
theorem w8(ha:xP args=true)(hk:to kws=true)(h:zr M A (vR (vX pos (xL args env))) (fun vs s₁=>zr M A (Ys ((xS pos (yN kws env)).map (·.2))) (fun ks s₂=>Q ⟨vs,(uU kws).zip ks⟩ s₂) E s₁) E s):
  zr M A (evalArgs f true (vX pos (xL args env)) (xS pos (yN kws env))) Q E s:=by
 refine yU (u7 (pos:=pos) (env:=env) hk) fun a b c=>?_
 cases args with
 |nil =>
  exact evalArgs_kw2_nil a (zc c (fun Γ p hΓ=>h Γ p hΓ Γ p hΓ))
 |cons e r =>
  unfold xP at ha
  rw[zk]at ha
  refine evalArgs_kw2 a ?_ (uL ha.1)
  exact zc c h
noncomputable def qi(K:uQ):zi→Bool
 |.ref a=>keepIn K (.ref a)
 |_=>true
theorem Xk{M:fb}{K:uQ}{f:zi}(hk:qi K f=true)(h:xO)(X:K.In h):∃k,(k=fc∨k=ag∨k=V4)∧xD M h (keeperOf f) k:=by
 cases f with
 |ref a=>exact keeps_K (show keepIn K (.ref a)=true from hk) h X
 |_=>exact⟨.machine,.inr (.inl rfl),te rfl⟩
theorem Zj.zip:∀{ns:List Str} {avs:List AV} {vs:List zi},ConL ρ h avs vs→Zj ρ h (ns.zip avs) (ns.zip vs)
 |[],_,_,_=>rfl
 |_::_,[],_,c=>by subst c;rfl
 |n::ns,a::avs,_,c=>by
  refine xk c fun v r z2 hc hr=>?_;clear c;subst z2
  exact⟨v,_,rfl,hc,Zj.zip hr⟩
theorem Y9{K:uQ}(X:K.In x.B){f:zi}(hk:qi K f=true){S:yG}(hS:y9 x f S){pos:ZJ}{args:List Expr}{kws:List tA}(ha:xP args=true)(hkw:to kws=true){first:List zi}{favs:List AV}{k:AV→Hp→Prop}(h:w9 x fr H (vR (vX pos (xL args x.env))) fun avs H1=>w9 x fr H1 (Ys ((xS pos (yN kws x.env)).map (·.2))) fun kvs H2=>S (favs++avs) ((uU kws).zip kvs) H2 k){s:zg}(Z:St x fr H s)(cf:ConL x.ρ s.heap favs first){Q:zi→zg→Prop}{E:zi→zg→Prop}(g:∀v a H' s',k a H'→y2 x.ρ s'.heap a v→St x fr H' s'→Kept x s s'→Q v s'):
  zr (zu pw x.w) x.A (callWith pos f first (vX pos (xL args x.env)) (xS pos (yN kws x.env))) Q E s:=by
 refine ZH (P:=K.In) (by refine zc ((vM ha).1) (zc ((u7 hkw).2.1) ?_);rfl) (Xk hk) (w8 ha hkw (h s Z _ _ fun vs avs H1 s1 h1 c1 S1 K1=>h1 s1 S1 _ _ fun ks kvs H2 s2 h2 c2 S2 K2=>⟨X.keeps S2.base,?_⟩))
 exact hS fr H2 _ _ k h2 s2 S2 _ _ (((cf.mono (Z.nonMut K1)).mono (S1.nonMut K2)).append (c1.mono (S1.nonMut K2))) (Zj.zip c2) Q E fun v a H' s' q1 q2 q3 q4=>g v a H' s' q1 q2 q3 (K1.trans (K2.trans q4))
theorem zL.call{K:uQ}(X:K.In x.B){f:zi}(hk:qi K f=true){S:yG}(hS:y9 x f S){n:Str}{np pos:ZJ}{args:List Expr}{kws:List tA}(ha:xP args=true)(hkw:to kws=true){k:AV→Hp→Prop}(h:zL x fr H (zR (.Name n np) x.env) fun a H0=>a=.glob f∧w9 x fr H0 (vR (vX pos (xL args x.env))) fun avs H1=>w9 x fr H1 (Ys ((xS pos (yN kws x.env)).map (·.2))) fun kvs H2=>S avs ((uU kws).zip kvs) H2 k):
  zL x fr H (zR (.Call (.Name n np) args kws pos) x.env) k:=fun s Z Q E g=>by
 refine vm (h s Z _ E fun v a H0 s0 h0 c0 S0 K0=>?_)
 obtain⟨rfl,h0⟩:=h0
 have:=wo c0
 subst this
 exact Y9 X hk hS ha hkw (favs:=[]) (first:=[]) h0 S0 (by rfl) fun v a H' s' q1 q2 q3 q4=>g v a H' s' q1 q2 q3 (K0.trans q4)
theorem zL.method{K:uQ}(X:K.In x.B){o:Expr}{m:Str}{ap pos:ZJ}{args:List Expr}{kws:List tA}(ha:xP args=true)(hkw:to kws=true){k:AV→Hp→Prop}(hb:TQ o m x.env (zR o x.env)=zR o x.env)(hn:decide (args.length+kws.length+(if kws.isEmpty then 0 else 1)<30)=true)(hl:(ap.endLine==pos.line)=true)(h:zL x fr H (zR o x.env) fun a H0=>∃f favs S,qi K f=true∧y9 x f S∧(∀s v,St x fr H0 s→y2 x.ρ s.heap a v→∀pl (Q:zi×List zi→zg→Prop) E,(∀first s',ConL x.ρ s'.heap favs first→Ext s s'→Q (f,first) s')→zr (zu pw x.w) x.A (eS v m pl) Q E s) ∧
   w9 x fr H0 (vR (vX pos (xL args x.env))) fun avs H1=>w9 x fr H1 (Ys ((xS pos (yN kws x.env)).map (·.2))) fun kvs H2=>S (favs++avs) ((uU kws).zip kvs) H2 k):
  zL x fr H (zR (.Call (.Attribute o m ap) args kws pos) x.env) k:=fun s Z Q E g=>by
 refine zc (ru ..) (zc hb ?_)
 refine zb (h s Z _ E fun v a H0 s0 h0 c0 S0 K0=>zb (xi ?_))
 refine Wj h0 fun f favs S hk hS hm h0=>?_
 have hform:YE (args.length+kws.length) (vX pos (xL args x.env)) (xS pos (yN kws x.env))=true:=by
  unfold YE
  refine zc ((vM ha).2) (zc ((u7 hkw).1) ?_)
  have e:(xS pos (yN kws x.env)).isEmpty=kws.isEmpty:=by
   cases kws with
   |nil=>rfl
   |cons a r=>cases a;rfl
  exact zc e hn
 unfold methodCall
 refine zc hform (zb (zV (hm s0 v S0 c0 _ _ E fun first s1 c1 X1=>?_)))
 have hpos:ZA true o x.env ap pos=pure pos:=by unfold ZA;simp[hl]
 refine zb (x8 hpos ?_)
 exact Y9 X hk hS ha hkw (favs:=favs) (first:=first) h0 (S0.ext X1) c1 fun v a H' s' q1 q2 q3 q4=>g v a H' s' q1 q2 q3 (K0.trans ((X1.kept x).trans q4))
theorem Qd{m:Str}{id:String}(slot:Slot "str" m id)(ty:Zo (.builtin id)=pure (.type "method_descriptor")){y:Str}:∀s v,St x fr H s→y2 x.ρ s.heap (.str y) v→∀pl (Q:zi×List zi→zg→Prop) E,
  (∀first s',ConL x.ρ s'.heap [.str y] first→Ext s s'→Q (.builtin id,first) s')→zr (zu pw x.w) x.A (eS v m pl) Q E s:=fun s v U c pl Q E f=>by
 refine yf (xm c) fun t z1=>?_;subst z1
 refine getMethod_builtin (T := "str") (Qt _ _ _) F.plainAttrs_str slot ty (fun U e=>nomatch e) (f _ s ?_ (Ext.refl s))
 exact⟨_,[],rfl,c,by rfl⟩
noncomputable def wJ(K:uQ)(C:zI)(m:Str):Option zI:=
 bif lj K C m then((Zp K (.ref C) m).bind fun o=>o.bind XM).bind fun f=>bif isFn K (.ref f)then some f else none else none
set_option tactic.hygienic true in
theorem Qe{K:uQ}(X:K.In x.B){m:Str}{C f:zI}{i:Nat}{fs:List (Str×AV)}(hi:H[i]?=some (.inst C fs))(hm:wJ K C m=some f)(hl:lk m fs=none):∀s v,St x fr H s→y2 x.ρ s.heap (.obj i) v→∀pl (Q:zi×List zi→zg→Prop) E,
  (∀first s',ConL x.ρ s'.heap [.obj i] first→Ext s s'→Q (.ref f,first) s')→zr (zu pw x.w) x.A (eS v m pl) Q E s:=fun s v Z c pl Q E g=>by
 refine zt (qI c) fun a' ha' z2=>?_;subst z2
 refine x7 (Z.objs _ _ hi) fun a d ha hd h1 z5=>?_;refine yW z5 fun es q h2 h3=>?_;clear z5
 rw[ha']at ha;(replace ha:=zf ha;subst ha)
 unfold wJ at hm
 cases hg:lj K C m with
 |false=>rw[hg]at hm;exact nS hm
 |true =>
  rw[hg]at hm
  refine zt (zl.mp hm) fun f' hf hm=>?_
  ·refine zt (zl.mp hf) fun o hf hv=>zt (zl.mp hv) fun v' hv' hv=>?_
   subst hv'
   cases Za hv
   cases hfn:isFn K (.ref f')with
   |false=>rw[hfn]at hm;exact nS hm
   |true =>
    rw[hfn]at hm
    replace hm:=zf hm;subst hm
    refine method_fn (X.keeps Z.base) (ZW h1 h2) (Uj hg).1 (Uj hg).2 hf (beq_iff_eq.mp hfn) ?_ (g _ s ?_ (Ext.refl s))
    ·refine(?_:(lookIn m (tJ es q)).map _=_)
     refine zc (lookIn_dict ..) ?_
     unfold getL
     refine zc (h3.lookNone hl) (zc h3.noRef ?_)
     rfl
    ·exact qJ ⟨_,[],rfl,c,rfl⟩
end
end
section
def VA(o i:AV)(k:AV→Prop):Prop:=
 match o with
 |.list l=>ZV i fun i=>yD (decide (0≤i)&&decide (i<2^63)) (xW l[i.toNat]? k)
 |.tup l=>ZV i fun i=>yD (decide (0≤i)&&decide (i<2^63)) (xW l[i.toNat]? k)
 |_=>False
noncomputable def Yu(l:List AV)(lo hi st:Option Int):List AV:=
 (sliceRange (td lo hi st l.length).1 (td lo hi st l.length).2.1 (td lo hi st l.length).2.2).filterMap (l[·]?)
def UY(o:AV)(lo hi st:Option Int)(k:AV→Prop):Prop:=
 match o with
 |.str x=>yD (st.isNone&&decide (x.length≤sizeLine)) (k (.str (xc x lo hi)))
 |.list l=>yD (decide (st≠some 0)&&decide (l.length≤sizeLine)) (k (.list (Yu l lo hi st)))
 |_=>False
def iz(a:AV)(k:Option Int→Prop):Prop:=
 match a with
 |.int i=>k (some i)
 |.none=>k none
 |_=>False
theorem WF(slice:Expr)(o i:zi):∃ops,subscripted slice false o i=operate ops (getItem o i):=by
 cases slice with
 |Slice l u st p=>cases st<;>exact⟨_,rfl⟩
 |_=>exact⟨_,rfl⟩
theorem ConL.filterMap(c:ConL ρ h l vs):∀is:List Nat,ConL ρ h (is.filterMap (l[·]?)) (is.filterMap (vs[·]?)):=by
 intro l0
 induction l0 with
 |nil =>
  rfl
 |cons i is ih =>
  have ih:=ih
  refine zc yr (zc yr ?_)
  cases e:l[i]? with
  |none =>
   have:vs[i]?=none:=by
    rw[List.getElem?_eq_none_iff]at e ⊢
    refine zc c.length ?_;exact e
   refine zc this ?_;exact ih
  |some a =>
   exact zt (c.get e) fun v hv cv=>zc hv ⟨v,_,rfl,cv,ih⟩
theorem nE(c:ConL ρ h l vs)(lo hi st:Option Int):ConL ρ h (Yu l lo hi st) (eR ⟨vs⟩ lo hi st).toList:=by
 have e:(eR ⟨vs⟩ lo hi st).toList=(sliceRange (td lo hi st l.length).1 (td lo hi st l.length).2.1 (td lo hi st l.length).2.2).filterMap (vs[·]?):=by
  simp[eR,c.length]
 exact zc e (c.filterMap _)
theorem aW(h0:0≤i)(h:i.toNat<n):seqIndex? i n=some i.toNat:=by
 unfold seqIndex?
 simp only[show¬i<0 by omega,if_false]
 simp
 omega
section
variable {x:Cx} {fr:y3} {H:Hp} {k:AV→Hp→Prop}
theorem gr(h:VA o i kk)(co:y2 x.ρ s.heap o vo)(ci:y2 x.ρ s.heap i vi)(f:∀v a,kk a→y2 x.ρ s.heap a v→Q v s):
  zr (zu pw x.w) A (subscriptTail value slice vo vi) Q E s:=by
 cases o with
 |list l =>
  (refine x7 (xY co) fun p vs z2 z3 hl cl=>?_;subst z2;clear z3);(refine yW (ul h ci) fun i t z2 h=>?_;subst z2)
  refine zK (yg h) fun h01 h=>?_
  rw[zk,decide_eq_true_eq,decide_eq_true_eq]at h01
  refine zK h01 fun h0 h1=>?_;clear h01
  refine zt (xz h) fun a e h=>?_
  ·exact zt (cl.get e) fun v hv cv=>yf (WF slice (.ref p) (.int i t)) fun ops ho=>lu hl.typeIs slot_list_getitem.lookup (wpAny_getItem_list hl h0 h1 (x:=v) (by simpa using hv) (f v a h cv)) ho
 |tup l =>
  (refine x7 (Zw co) fun p vs z2 z3 hl cl=>?_;subst z2;clear z3);(refine yW (ul h ci) fun i t z2 h=>?_;subst z2)
  refine zK (yg h) fun h01 h=>?_
  rw[zk,decide_eq_true_eq,decide_eq_true_eq]at h01
  refine zK h01 fun h0 h1=>zt (xz h) fun a e h=>?_
  ·refine zt (cl.get e) fun v hv cv=>?_
   have hl:PyProof.Rows.IsTup s.heap p ⟨vs⟩:=hl
   refine yf (WF slice (.ref p) (.int i t)) fun ops ho=>wO (id hl) fun ob hp hcl z3=>?_;clear z3
   refine lu (T := "tuple") ⟨_,hp,hcl⟩ F.slot_tuple_getitem.lookup (PyProof.Rows.getItem_tuple hl (by omega) h1 (aW h0 ?_) (x:=v) (by simpa using hv) (f v a h cv)) ho
   exact(yi.mp hv).1
 |_=>exact h.elim
theorem zL.index(h:zL x fr H (zR value x.env) fun o H1=>zL x fr H1 (zR slice x.env) fun i H2=>VA o i fun a=>k a H2):zL x fr H (zR (.Subscript value slice pos) x.env) k:=fun s S U E f =>
 Subscript_ (h s S _ E fun U U U s1 h1 c1 S1 K1=>h1 s1 S1 _ E fun U U H2 s2 h2 c2 S2 K2=>gr h2 (c1.mono (S1.nonMut K2)) c2 fun v a q c=>f v a H2 s2 q c S2 (K1.trans K2))
def bV(x:Cx)(fr:y3)(H:Hp)(e:Option Expr)(k:Option Int→Hp→Prop):Prop:=
 match e with
 |none=>k none H
 |some e=>zL x fr H (zR e x.env) fun a H1=>iz a fun o=>k o H1
theorem bV.run(h:bV x fr H e kp):∀s,St x fr H s→∀(Q:zi→zg→Prop) (E:zi→zg→Prop),(∀v o H' s',kp o H'→IsPart v o→St x fr H' s'→Kept x s s'→Q v s')→zr (zu pw x.w) x.A (valueOrNone (evalOpt e x.env)) Q E s:=by
 intro s S Q E f
 cases e with
 |none=>exact wpAny_pure (f .none none H s h .none S (Kept.refl _ _))
 |some e =>
  refine h s S Q E fun v a H1 s1 h1 c1 S1 K1=>?_
  cases a with
  |int i=>(refine yf (uo c1) fun t z1=>?_;subst z1);exact f _ _ H1 s1 h1 (.int _ _) S1 K1
  |none=>cases uc c1;exact f _ _ H1 s1 h1 .none S1 K1
  |_=>exact h1.elim
theorem IsPart.str(p:IsPart v o):∃q:Option (Int×Tok),v=partValue q∧q.map (·.1)=o:=by
 cases p with
 |none=>exact⟨none,rfl,rfl⟩
 |int i t=>exact⟨some (i,t),rfl,rfl⟩
theorem zL.slice{value:Expr}{lo hi st:Option Expr}{p pos:ZJ}(h:zL x fr H (zR value x.env) fun o H1=>bV x fr H1 lo fun l H2=>bV x fr H2 hi fun u H3=>bV x fr H3 st fun t H4=>UY o l u t fun a=>k a H4):
  zL x fr H (zR (.Subscript value (.Slice lo hi st p) pos) x.env) k:=fun s S Q E f=>by
 refine Subscript_ (h s S _ E fun vo o H1 s1 h1 c1 S1 K1=>?_)
 refine zc (arm_eval_Slice ..) (zb (h1.run s1 S1 _ E fun vl l H2 s2 h2 p2 S2 K2=>zb (zV (h2.run s2 S2 _ E fun vu u H3 s3 h3 p3 S3 K3=>zb (zV (h3.run s3 S3 _ E fun vt t H4 s4 h4 p4 S4 K4=>?_))))))
 refine yQ ?_ (by size_fits)
 have c4:y2 x.ρ s4.heap o vo:=((c1.mono (S1.nonMut K2)).mono (S2.nonMut K3)).mono (S3.nonMut K4)
 have K14:=K1.trans (K2.trans (K3.trans K4))
 have X5:Ext s4 {s4 with heap:=s4.heap.push {cls:=.type "slice",data:=.fields [vl,vu,vt].toArray}}:=Ext.push s4 _ s4.toks
 cases o with
 |str y =>
  refine yf (xm c4) fun tk z1=>?_;subst z1
  refine zK (yg h4) fun hz h5=>?_
  rw[zk,decide_eq_true_eq,xg]at hz
  obtain⟨rfl,hz⟩:=hz
  obtain⟨ql,rfl,e1⟩:=IsPart.str p2
  obtain⟨qu,rfl,e2⟩:=IsPart.str p3
  cases p4
  obtain⟨ops,ho⟩:=WF (.Slice lo hi st p) (.str y tk) (.ref s4.heap.objs.size)
  have hs:({s4 with heap:=s4.heap.push {cls:=.type "slice",data:=.fields [partValue ql,partValue qu,xn].toArray}}:zg).heap.IsSlice s4.heap.objs.size ql qu none:=⟨_,zx _ rfl,rfl,rfl⟩
  refine lu (Qt _ _ _) F.slot_str_getitem.lookup (wpAny_getItem_str_slice hs rfl (post_val_or_str (c:=(((none:Option (Int×Tok)).map (·.1)).getD 1==1&&(Uf y ql qu none).length==y.length)=true) ⟨?_,fun t' kk=>?_⟩)) ho
  ·have:=ll y l u
   unfold xc at this
   unfold Uf
   rw[e1,e2]
   exact yv this hz
  ·have e:(if(((none:Option (Int×Tok)).map (·.1)).getD 1==1&&(Uf y ql qu none).length==y.length)=true then y else⟨((Uf y ql qu none).filterMap (y.cps[·]?)).toArray⟩)=xc y l u:=by
    unfold xc Uf
    refine zc e1 (zc e2 ?_);rfl
   exact zc e (f _ _ H4 _ h5 (vO _ _) ((S4.ext X5).ext (Ext.toks _ kk)) (K14.trans ((X5.trans (Ext.toks _ kk)).kept x)))
 |list l' =>
  refine x7 (xY c4) fun q vs z2 z3 hl cl=>?_;subst z2;clear z3
  refine zK (yg h4) fun hz h5=>?_
  rw[zk,decide_eq_true_eq,decide_eq_true_eq]at hz
  refine zK hz fun h0 hz=>yf (WF (.Slice lo hi st p) (.ref q) (.ref s4.heap.objs.size)) fun ops ho=>wO (id hl) fun ob hp hcl z3=>?_;clear z3
  have S5:=S4.ext X5
  refine lu (T := "list") ⟨_,X5.keep _ _ hp,hcl⟩ slot_list_getitem.lookup (wpAny_getItem_list_slice (hl.push _) (Heap.IsSliceOf.new ..) p2 p3 p4 h0 ?_ (by show vs.length≤_;refine zc cl.length ?_;exact hz)) ho
  have X6:=Ext.push {s4 with heap:=s4.heap.push {cls:=.type "slice",data:=.fields [vl,vu,vt].toArray}} {cls:=.type "list",data:=.seq (eR ⟨vs⟩ l u t)} s4.toks
  exact f _ _ H4 _ h5 (Yi (n:=0) (vs:=(eR ⟨vs⟩ l u t).toList) (Zi S5.opn) (zx _ rfl) (((nE cl l u t).mono X5.nonMut).mono X6.nonMut)) (S5.ext X6) (K14.trans ((X5.trans X6).kept x))
 |_=>exact h4.elim
noncomputable def fJ(K:uQ)(C:zI)(n:Str):Option zI:=
 bif lj K C n&&hasDictIn K C then((Zp K (.ref C) n).bind fun x=>x.bind XM).bind fun p=>bif specialIn K (.ref p) "__get__" == some (some (.builtin "property.__get__"))&&(takesIn K (.ref p)==some true)then(recIn K p "property").bind fun l=>l[0]?.bind XM else none else none
end
end
section
structure Room(n:Nat)(A:y1):Prop where
 hh:A.handled=none
 de:A.depth≤n
 un:A.units≤1+10*n
theorem Room.in1(r:Room n A):Room (n+1) A.in1:=⟨r.hh,Nat.le_succ_of_le r.de,by show A.units+1≤_;have:=r.un;exact zN 0x6a1341130511360a134113011350 [A.units,n] this rfl⟩
theorem Room.deeper(r:Room n A):Room (n+1) (A.deeper env):=⟨r.hh,Ha r.de,by show A.units+3≤_;have:=r.un;exact zN 0x6a1341130511360a134113031350 [A.units,n] this rfl⟩
theorem Room.mono(r:Room n A)(h:n≤m):Room m A:=⟨r.hh,yv r.de h,by have:=r.un;exact vB 0x7a134113056a1347a1346a13411305 [A.units,m,n] (zF 10 h) this rfl⟩
noncomputable def Cx.wA(x:Cx)(A:y1):Cx:={x with A:=A}
theorem St.wA(S:St x fr H s):St (x.wA A) fr H s:=
 ⟨S.base,S.apart,S.kinds,S.frame,S.objs,S.lim,S.nodup,S.own,S.cnod,S.opn,S.ocs,S.ol,S.cex,S.frs⟩
theorem St.unA(S:St (x.wA A) fr H s):St x fr H s:=
 ⟨S.base,S.apart,S.kinds,S.frame,S.objs,S.lim,S.nodup,S.own,S.cnod,S.opn,S.ocs,S.ol,S.cex,S.frs⟩
section
variable {x:Cx} {fr:y3} {H:Hp} {k:AV→Hp→Prop} {K:uQ}
def tW(x:Cx)(f:zi)(S:yG):Prop:=
 ∀fr H avs kvs k,S avs kvs H k→∀s,St x fr H s→∀vs kws,ConL x.ρ s.heap avs vs→Zj x.ρ s.heap kvs kws →
  ∀R:Zr→zg→Prop,(∀v a H' s',k a H'→y2 x.ρ s'.heap a v→St x fr H' s'→Kept x s s'→R (.ok (.ret v)) s')→y4 (zu pw x.w) x.A (.call f ⟨vs,kws⟩) R s
theorem tW.call(h:tW x f S):y9 x f S:=fun fr H avs kvs k hs s Z vs kws c1 c2 Q E g=>yL (h fr H avs kvs k hs s Z vs kws c1 c2 _ g)
def rd(x:Cx)(C:zI)(n:Str)(S:yG):Prop:=
 ∀(fr:y3) (H:Hp) (i:Nat) (fs:List (Str×AV)) (kk:AV→Hp→Prop),H[i]?=some (.inst C fs)→S [.obj i] [] H kk→∀s,St x fr H s→∀vo,y2 x.ρ s.heap (.obj i) vo→∀(ex:Bool) (Q:zi→zg→Prop) (E:zi→zg→Prop),
  (∀v a H' s',kk a H'→y2 x.ρ s'.heap a v→St x fr H' s'→Kept x s s'→Q v s')→zr (zu pw x.w) x.A (W7 vo n ex) Q E s
theorem df(X:K.In x.B){kk:AV→Hp→Prop}(hi:H[i]?=some (.inst C fs))(hp:fJ K C n=some f)(hS:tW (x.wA x.A.in1) (.ref f) S)(h:S [.obj i] [] H fun a H1=>bd a∧kk a H1)(Z:St x fr H s)(co:y2 x.ρ s.heap (.obj i) vo){Q:zi→zg→Prop}{E:zi→zg→Prop}(g:∀v a H' s',kk a H'→y2 x.ρ s'.heap a v→St x fr H' s'→Kept x s s'→Q v s'):zr (zu pw x.w) x.A (W7 vo n ex) Q E s:=by
 refine zt (qI co) fun a' ha' z2=>?_;subst z2
 refine x7 (Z.objs _ _ hi) fun a d ha hd h1 z5=>?_;refine yW z5 fun es q h2 h3=>?_;clear z5
 rw[ha']at ha;(replace ha:=zf ha;subst ha)
 unfold fJ at hp
 cases e1:(lj K C n&&hasDictIn K C)with
 |false=>rw[e1]at hp;exact nS hp
 |true =>
  rw[e1]at hp
  dsimp only[cond_true]at hp
  rw[zk]at e1
  refine zt (zl.mp hp) fun p hf hp=>zt (zl.mp hf) fun y hf hy=>zt (zl.mp hy) fun v z1 hv=>?_;subst z1
  cases Za hv
  ·cases e2:(specialIn K (.ref p) "__get__" == some (some (.builtin "property.__get__"))&&(takesIn K (.ref p)==some true))with
   |false=>rw[e2]at hp;exact nS hp
   |true =>
    rw[e2]at hp
    dsimp only[cond_true]at hp
    rw[zk]at e2
    refine zt (zl.mp hp) fun l hr hp=>zt (zl.mp hp) fun u hu hp=>?_
    cases Za hp
    cases l with
    |nil=>exact nS hu
    |cons u r =>
     cases hu
     have XK:=X.keeps Z.base
     have hc:(clsIn K C).isSome=true:=by refine zt (any_some e1.2) fun cd hc U=>?_;refine zc hc ?_;rfl
     refine get_bind XK (ZW h1 h2) (Uj e1.1).1 (findObj_data hc hf (beq_iff_eq.mp e2.1) (beq_iff_eq.mp e2.2)) (Uj e1.1).2 ?_
     have Z1:St (x.wA x.A.in1) fr H {s with toks:=s.toks+1}:=(Z.ext (Ext.toks s _)).wA
     refine yL (prop_get (s:={s with toks:=s.toks+1}) XK hr (hS fr H [.obj i] [] _ h _ Z1 [.ref a'] [] (qJ ⟨_,[],rfl,co,rfl⟩) rfl _ fun v b H' s' q1 q2 q3 q4=>?_))
     have hv:=QV q2 q1.1
     show zr _ _ (handedOut v) _ _ _
     refine zc (handedOut_of hv) ?_
     exact wpAny_pure (g v b H' s' q1.2 q2 q3.unA ⟨by refine xd q4.rest fun h t d e=>?_;refine zc e ?_;exact⟨h,t,d,rfl⟩,fun c o e n=>q4.keep c o e n⟩)
end
end
section
structure Stat where
 kinds:List (Str×NameKind)
 wr:List Str
 gl:List (Str×Value)
 K:uQ
 T:zI→Str→Bool
 F:zi→Option yG
 M:zI→Str→Option zI
 P:zI→Str→Option yG
 SM:List (Str×String)
def tH(c:Bool)(X Y:Prop):Prop:=match c with
 |true=>X
 |false=>Y
theorem wZ(h:tH c X Y):(c=true→X)∧(c=false→Y):=by
 cases c with
 |true=>exact⟨fun U=>h,nofun⟩
 |false=>exact⟨nofun,fun U=>h⟩
structure Evs where
 e:Expr→y3→Hp→(AV→Hp→Prop)→Prop
 b:Expr→y3→Hp→(Bool→Hp→Prop)→Prop
 l:List Expr→y3→Hp→(List AV→Hp→Prop)→Prop
 w:List tA→y3→Hp→(List AV→Hp→Prop)→Prop
 t:BoolOp→List Expr→y3→Hp→(Bool→Hp→Prop)→Prop
 o:Option Expr→y3→Hp→(Option Int→Hp→Prop)→Prop
 s:List yX→y3→Hp→(AFlow→y3→Hp→Prop)→Prop
noncomputable def hX:Evs:=⟨fun U U U U=>False,fun U U U U=>False,fun U U U U=>False,fun U U U U=>False,fun U U U U U=>False,fun U U U U=>False,fun U U U U=>False⟩
set_option backward.match.sparseCases false in
noncomputable def pb:Expr→Bool
 |.Name _ _=>true
 |_=>false
theorem kr(h:pb e=true):∃n p,e=.Name n p:=by
 cases e<;>first|exact⟨_,_,rfl⟩|exact fT h
set_option backward.match.sparseCases false in
noncomputable def pd:Expr→Bool
 |.Call _ _ _ _=>true
 |_=>false
set_option backward.match.sparseCases false in
noncomputable def Ut:Expr→Option (Option Expr×Option Expr×Option Expr×Pos)
 |.Slice lo hi st p=>some (lo,hi,st,p)
 |_=>none
theorem fF{e:Expr}{lo hi st:Option Expr}{p:ZJ}(h:Ut e=some (lo,hi,st,p)):e=.Slice lo hi st p:=by
 cases e<;>cases h
 rfl
def Dv(D:Stat)(o:AV)(n:Str)(H:Hp)(k:AV→Hp→Prop):Prop:=
 match o with
 |.obj i=>ZE H[i]? fun C U=>(match D.P C n with
  |some S=>S [.obj i] [] H k
  |none=>dQ D.T o n H fun a=>k a H)
 |_=>False
def QR(D:Stat)(o:AV)(n:Str)(H:Hp)(k:zi→Prop):Prop:=
 match o with
 |.str _=>xW (lk n D.SM) fun id=>k (.builtin id)
 |.obj i=>ZE H[i]? fun C fs=>xW (D.M C n) fun f=>yD (lk n fs).isNone (k (.ref f))
 |_=>False
def W2(D:Stat)(f:zi)(avs:List AV)(kvs:List (Str×AV))(H:Hp)(k:AV→Hp→Prop):Prop:=xW (D.F f) fun S=>S avs kvs H k
def IV(D:Stat)(n:Str)(fr:y3)(k:AV→Prop):Prop:=xW (lk n D.kinds) fun kd=>match kd with
 |.local=>xW (lk n fr) k
 |.cell=>xW (lk n fr) k
 |.free=>xW (lk n fr) k
 |.globalImplicit=>xW (lk n D.gl) fun v=>k (.glob v)
 |_=>False
noncomputable def DQ(D:Stat)(n:Str):Bool:=match lk n D.kinds with
 |none=>false
 |some kd=>(match kd with
  |.local=>true
  |.cell=>D.wr.contains n
  |_=>false)
theorem rS(h:DQ D n=true):lk n D.kinds=some .local∨(lk n D.kinds=some .cell∧D.wr.contains n=true):=by
 unfold DQ at h
 cases e:lk n D.kinds with
 |none=>rw[e]at h;exact fT h
 |some kd =>
  rw[e]at h
  cases kd with
  |«local»=>exact .inl rfl
  |cell=>exact .inr ⟨rfl,h⟩
  |_=>exact fT h
def Ix(V:Evs)(o:Option (Option Expr×Option Expr×Option Expr×Pos))(v s:Expr)(fr:y3)(H:Hp)(k:AV→Hp→Prop):Prop:=match o with
 |some (lo,hi,st,_)=>V.e v fr H fun a H1=>V.o lo fr H1 fun l H2=>V.o hi fr H2 fun u H3=>V.o st fr H3 fun t H4=>UY a l u t fun c=>k c H4
 |none=>V.e v fr H fun a H1=>V.e s fr H1 fun i H2=>VA a i fun c=>k c H2
set_option backward.match.sparseCases false in
def ie(D:Stat)(V:Evs)(ex:Expr)(fr:y3)(H:Hp)(k:AV→Hp→Prop):Prop:=
 match ex with
 |.Constant c _ _=>(match c with
  |.none=>k .none H
  |.bool b=>k (.bool b) H
  |.int i=>k (.int i) H
  |.str s=>k (.str s) H
  |_=>False)
 |.Name n _=>IV D n fr fun a=>k a H
 |.BinOp l op r _=>V.e l fr H fun a H1=>V.e r fr H1 fun b H2=>Ua op a b fun c=>k c H2
 |.UnaryOp op e _=>(match op with
  |.USub=>V.e e fr H fun a H1=>IU a fun c=>k c H1
  |_=>False)
 |.IfExp t b o _=>V.b t fr H fun c H1=>tH c (V.e b fr H1 k) (V.e o fr H1 k)
 |.Compare l ops rs _=>bf ops fun op=>bf rs fun r=>yD (!behindInMarks op r) (V.e l fr H fun a H1=>V.e r fr H1 fun b H2=>bM op a b fun c=>k (.bool c) H2)
 |.List es _=>yD (xP es) (V.l es fr H fun l H1=>yD (decide (l.length≤sizeLine)) (k (.list l) H1))
 |.Tuple es _ _=>yD (xP es) (V.l es fr H fun l H1=>yD (decide (l.length≤sizeLine)) (k (.tup l) H1))
 |.Attribute o n _=>yD (pb o) (V.e o fr H fun a H1=>Dv D a n H1 k)
 |.Subscript v s _=>Ix V (Ut s) v s fr H k
 |.Call f args kws pos=>yD (xP args&&to kws) (match f with
  |.Name _ _=>V.e f fr H fun a H1=>bh a fun g=>yD (qi D.K g) (V.l args fr H1 fun avs H2=>V.w kws fr H2 fun kvs H3=>W2 D g avs ((uU kws).zip kvs) H3 k)
  |.Attribute o m ap=>yD (decide (args.length+kws.length+(if kws.isEmpty then 0 else 1)<30)&&(ap.endLine==pos.line)) (yD (!pd o) (V.e o fr H fun a H1=>QR D a m H1 fun g=>yD (qi D.K g) (V.l args fr H1 fun avs H2=>V.w kws fr H2 fun kvs H3=>W2 D g (a::avs) ((uU kws).zip kvs) H3 k)))
  |_=>False)
 |_=>False
set_option backward.match.sparseCases false in
def ii(V:Evs)(ex:Expr)(fr:y3)(H:Hp)(k:Bool→Hp→Prop):Prop:=
 match ex with
 |.UnaryOp op e _=>(match op with
  |.Not=>V.b e fr H fun c H1=>k (!c) H1
  |_=>False)
 |.BoolOp op es _=>V.t op es fr H k
 |.Compare l ops rs _=>bf ops fun op=>bf rs fun r=>yD (!behindInMarks op r) (V.e l fr H fun a H1=>V.e r fr H1 fun b H2=>bM op a b fun c=>k c H2)
 |.Name _ _=>V.e ex fr H fun a H1=>YP a fun c=>k c H1
 |.Attribute _ _ _=>V.e ex fr H fun a H1=>YP a fun c=>k c H1
 |.Call _ _ _ _=>V.e ex fr H fun a H1=>YP a fun c=>k c H1
 |.Constant _ _ _=>V.e ex fr H fun a H1=>YP a fun c=>k c H1
 |_=>False
def ic(V:Evs)(es:List Expr)(fr:y3)(H:Hp)(k:List AV→Hp→Prop):Prop:=
 match es with
 |[]=>k [] H
 |e::r=>V.e e fr H fun a H1=>V.l r fr H1 fun l H2=>k (a::l) H2
def h9(V:Evs)(es:List tA)(fr:y3)(H:Hp)(k:List AV→Hp→Prop):Prop:=
 match es with
 |[]=>k [] H
 |⟨_,e,_⟩::r=>V.e e fr H fun a H1=>V.w r fr H1 fun l H2=>k (a::l) H2
def stepT(V:Evs)(op:BoolOp)(es:List Expr)(fr:y3)(H:Hp)(k:Bool→Hp→Prop):Prop:=
 match es with
 |[]=>(match op with
  |.And=>k true H
  |.Or=>k false H)
 |e::r=>(match op with
  |.And=>V.b e fr H fun c H1=>tH c (V.t .And r fr H1 k) (k false H1)
  |.Or=>V.b e fr H fun c H1=>tH c (k true H1) (V.t .Or r fr H1 k))
def ib(V:Evs)(e:Option Expr)(fr:y3)(H:Hp)(k:Option Int→Hp→Prop):Prop:=
 match e with
 |none=>k none H
 |some e=>V.e e fr H fun a H1=>iz a fun o=>k o H1
set_option backward.match.sparseCases false in
noncomputable def U8:Expr→Bool
 |.ListComp _ _ _ _=>false
 |.SetComp _ _ _ _=>false
 |.DictComp _ _ _ _ _=>false
 |_=>true
set_option backward.match.sparseCases false in
def mQ(D:Stat)(V:Evs)(ss:List yX)(fr:y3)(H:Hp)(k:AFlow→y3→Hp→Prop):Prop:=
 match ss with
 |[]=>k .next fr H
 |st::r=>(match st with
  |.Expr e _=>yD (U8 e) (V.e e fr H fun U H1=>V.s r fr H1 k)
  |.Assign ts e _=>yD (U8 e) (bf ts fun t=>match t with
   |.Name n _=>yD (DQ D n) (V.e e fr H fun a H1=>V.s r (xp n a fr) H1 k)
   |.Attribute o n _=>V.e e fr H fun v H1=>V.e o fr H1 fun a H2=>cR D.T a n v H2 fun H3=>V.s r fr H3 k
   |_=>False)
  |.AugAssign t op e _=>(match t with
   |.Attribute o n _=>V.e o fr H fun a H1=>dQ D.T a n H1 fun old=>V.e e fr H1 fun v H2=>pe op old v fun new=>cR D.T a n new H2 fun H3=>V.s r fr H3 k
   |_=>False)
  |.If t b o _=>V.b t fr H fun c H1=>tH c
    (V.s b fr H1 fun f fr2 H2=>match f with
     |.next=>V.s r fr2 H2 k
     |f=>k f fr2 H2)
    (V.s o fr H1 fun f fr2 H2=>match f with
     |.next=>V.s r fr2 H2 k
     |f=>k f fr2 H2)
  |.Return e _=>(match e with
   |some e=>V.e e fr H fun a H1=>k (.ret a) fr H1
   |none=>k (.ret .none) fr H)
  |.Break _=>k .brk fr H
  |.Continue _=>k .cont fr H
  |.Pass _=>V.s r fr H k
  |_=>False)
noncomputable def CP(D:Stat)(V:Evs):Evs:=⟨ie D V,ii V,ic V,h9 V,stepT V,ib V,mQ D V⟩
noncomputable def ev(D:Stat):Nat→Evs
 |0=>hX
 |n+1=>CP D (ev D n)
structure Fits(D:Stat)(x:Cx):Prop where
 fn:x.env.scope.kind=.function
 names:x.env.scope.names=D.kinds
 nodbg:lk "__debug__" D.kinds=none∧lk "__classdict__" D.kinds=none
 wr:∀n,D.wr.contains n=true→∀c,x.env.cells.lookup n=some c→c∈x.oc
 gl:∀n v,lk n D.gl=some v→(∃mg,x.B.Ns x.env.globals mg∧mg n=some v)∨(∃mg mb,x.B.Ns x.env.globals mg∧mg n=none∧x.B.Ns x.env.builtins mb∧mb n=some v)
 K:D.K.In x.B
 T:∀C n,D.T C n=true→xA D.K C n=true
 F:∀v S,D.F v=some S→y9 x v S
 M:∀C n f,D.M C n=some f→wJ D.K C n=some f
 P:∀C n S,D.P C n=some S→rd x C n S
 SM:∀n id,lk n D.SM=some id→Slot "str" n id∧Zo (.builtin id)=pure (.type "method_descriptor")
 quiet:eY x.env=false
structure Sound(D:Stat)(x:Cx)(V:Evs):Prop where
 e:∀ex fr H k,V.e ex fr H k→zL x fr H (zR ex x.env) k
 b:∀ex fr H k,V.b ex fr H k→xe x fr H (isTrue ex x.env (zR ex x.env)) k
 l:∀es fr H k pos,xP es=true→V.l es fr H k→w9 x fr H (vR (vX pos (xL es x.env))) k
 w:∀ks fr H k pos,to ks=true→V.w ks fr H k→w9 x fr H (Ys ((xS pos (yN ks x.env)).map (·.2))) k
 t:∀op es fr H k,V.t op es fr H k→xe x fr H (Xr op es x.env) k
 o:∀e fr H k,V.o e fr H k→bV x fr H e k
 s:∀ss fr H k,V.s ss fr H k→zQ x fr H (xN ss x.env) k
theorem YS(D:Stat)(x:Cx):Sound D x hX:=⟨fun U U U U h=>h.elim,fun U U U U h=>h.elim,fun U U U U U U h=>h.elim,fun U U U U U U h=>h.elim,fun U U U U U h=>h.elim,fun U U U U h=>h.elim,fun U U U U h=>h.elim⟩
end
section
section
variable {D:Stat} {x:Cx} {V:Evs}
theorem xl(Z:Fits D x)(n:Str):x.env.kindOf n=lk n D.kinds:=by
 refine zc (vE ..) (xv Z.names ?_);rfl
theorem Yc(Z:Fits D x)(h:lk n D.kinds=some kd):(n==("__debug__" : Str))=false∧(n==("__classdict__" : Str))=false:=by
 refine⟨?_,?_⟩
 ·cases e:n==("__debug__" : Str)with
  |false=>rfl
  |true=>rw[beq_iff_eq.mp e,Z.nodbg.1]at h;exact nS h
 ·cases e:n==("__classdict__" : Str)with
  |false=>rfl
  |true=>rw[beq_iff_eq.mp e,Z.nodbg.2]at h;exact nS h
theorem zL.attrD(Z:Fits D x){fr:y3}{H:Hp}{n attr:Str}{np pos:ZJ}{ke:AV→Hp→Prop}(h:zL x fr H (zR (.Name n np) x.env) fun o H1=>Dv D o attr H1 ke):zL x fr H (zR (.Attribute (.Name n np) attr pos) x.env) ke:=fun s S U E f =>
 YI (h s S _ E fun v o H1 s1 h1 c1 S1 K1=>by
  cases o with
  |obj i =>
   refine yW (qT h1) fun C fs hi h1=>?_
   cases hp:D.P C attr with
   |some S' =>
    rw[hp]at h1
    exact Z.P _ _ _ hp fr H1 i fs ke hi h1 s1 S1 v c1 _ _ _ fun v a H2 s2 h2 c2 S2 K2=>f v a H2 s2 h2 c2 S2 (K1.trans K2)
   |none =>
    rw[hp]at h1
    exact Wg Z.K Z.T h1 S1 c1 fun v a s2 h2 c2 X2=>f v a H1 s2 h2 c2 (S1.ext X2) (K1.trans (X2.kept x))
  |_=>exact h1.elim)
theorem Xx(h:pd o=false):TQ o m env (zR o env)=zR o env:=by
 cases o<;>first|cases h;done|rfl
theorem TB(Z:Fits D x):y9 x f fun avs kvs H k=>W2 D f avs kvs H k:=fun fr H avs kvs k h=>by
 exact zt (xz h) fun S e h=>Z.F _ _ e fr H avs kvs k h
theorem QJ(h:cR T o n v H k)(i:∀H',k H'→k' H'):cR T o n v H k':=by
 refine zt (Xi h) fun j z1 h=>?_;subst z1
 refine yW (qT h) fun C fs e h=>(?_:ZE H[j]? _)
 exact zc e (y7 (yg h).1 (i _ (yg h).2))
theorem kI(h:dQ T o n H k)(i:∀a,k a→k' a):dQ T o n H k':=by
 refine zt (Xi h) fun j z1 h=>?_;subst z1
 refine yW (qT h) fun C fs e h=>zt (xz h) fun a e' h=>(?_:ZE H[j]? _)
 refine zc e ((?_:xW (lk n fs) _))
 exact zc e' (y7 (yg h).1 (i _ (yg h).2))
theorem kt(h:pe op a b k)(i:∀a,k a→k' a):pe op a b k':=by
 cases op with
 |Add =>
  cases a with
  |int x=>(refine zt (WK h) fun y z1 h=>?_;subst z1);exact i _ h
  |str x=>(refine zt (U4 h) fun y z1 h=>?_;subst z1);exact⟨h.1,i _ h.2⟩
  |_=>exact h.elim
 |_=>exact h.elim
theorem zQ.ret_none(h:k (.ret .none) fr H):zQ x fr H (tx (.Return none pos) x.env) k:=fun s S U U f =>
 wpAny_Return_none (f (.ret .none) (.ret .none) fr H s h ⟨.none,rfl,Yh⟩ S (Kept.refl _ _))
theorem ac(h:bV x fr H e k)(i:∀o H',k o H'→k' o H'):bV x fr H e k':=by
 cases e with
 |none=>exact i _ _ h
 |some e =>
  refine zL.mono h fun a H' q=>?_
  cases a with
  |int x=>exact i _ _ q
  |none=>exact i _ _ q
  |_=>exact q.elim
theorem Z0(h:w9 x fr H t k)(i:∀a H',k a H'→k' a H'):w9 x fr H t k':=
 fun s S Q E f=>h s S Q E fun v a H' s' q=>f v a H' s' (i _ _ q)
theorem aQ(Z:Fits D x)(N:Sound D x V):∀ex fr H k,ie D V ex fr H k→zL x fr H (zR ex x.env) k:=by
 intro ex fr H k h
 cases ex with
 |Constant c q pos =>
  cases c with
  |none=>exact zL.const_none h
  |bool b=>exact zL.const_bool h
  |int i=>exact zL.const_int h
  |str s=>exact zL.const_str h
  |_=>exact h.elim
 |Name n pos =>
  refine zt (xz h) fun kd hk h=>?_
  cases kd with
  |«local» =>
   exact zt (xz h) fun a e h=>zL.name_local Z.fn ((xl Z n).trans hk) e (Yc Z hk).1 h
  |cell =>
   exact zt (xz h) fun a e h=>zL.name_cell Z.fn (.inl ((xl Z n).trans hk)) e (Yc Z hk).1 (Yc Z hk).2 h
  |free =>
   exact zt (xz h) fun a e h=>zL.name_cell Z.fn (.inr ((xl Z n).trans hk)) e (Yc Z hk).1 (Yc Z hk).2 h
  |globalImplicit =>
   refine zt (xz h) fun v e h=>?_
   rcases Z.gl n v e with⟨mg,g1,g2⟩|⟨mg,mb,g1,g2,g3,g4⟩
   ·exact zL.name_glob g1 g2 Z.fn ((xl Z n).trans hk) (Yc Z hk).1 h
   ·exact zL.name_builtin g1 g2 g3 g4 Z.fn ((xl Z n).trans hk) (Yc Z hk).1 h
  |_=>exact h.elim
 |BinOp l op r pos=>exact zL.binop ((N.e _ _ _ _ h).mono fun a H1 h1=>N.e _ _ _ _ h1)
 |UnaryOp op e pos =>
  cases op with
  |USub=>exact zL.neg (N.e _ _ _ _ h)
  |_=>exact h.elim
 |IfExp t b o pos=>exact zL.ifexp ((N.b _ _ _ _ h).mono fun c H1 h1=>⟨fun e=>N.e _ _ _ _ ((wZ h1).1 e),fun e=>N.e _ _ _ _ ((wZ h1).2 e)⟩)
 |Compare l ops rs pos =>
  refine zt (qF h) fun op z1 h=>?_;subst z1
  refine zt (qF h) fun r z1 h=>?_;subst z1
  exact zK (yg h) fun h1 h2=>zL.compare (by simpa using h1) ((N.e _ _ _ _ h2).mono fun a H1 h1=>N.e _ _ _ _ h1)
 |List es pos=>refine zK (yg h) fun h1 h2=>?_;exact zL.list (Z0 (N.l _ _ _ _ _ h1 h2) fun l H1 q=>⟨of_decide_eq_true (yg q).1,(yg q).2⟩)
 |Tuple es q pos=>refine zK (yg h) fun h1 h2=>?_;exact zL.tuple (Z0 (N.l _ _ _ _ _ h1 h2) fun l H1 q=>⟨of_decide_eq_true (yg q).1,(yg q).2⟩)
 |Attribute o n pos =>
  refine zK (yg h) fun hn h=>Y5 (kr hn) fun m p z2=>?_;subst z2
  exact zL.attrD Z (N.e _ _ _ _ h)
 |Subscript v s pos =>
  cases hs:Ut s with
  |some q =>
   obtain⟨lo,hi,st,p⟩:=q
   obtain rfl:=fF hs
   exact zL.slice ((N.e _ _ _ _ h).mono fun a H1 h1=>ac (N.o _ _ _ _ h1) fun l H2 h2=>ac (N.o _ _ _ _ h2) fun u H3 h3=>N.o _ _ _ _ h3)
  |none =>
   have h:Ix V (Ut s) v s fr H k:=h
   rw[hs]at h
   exact zL.index ((N.e _ _ _ _ h).mono fun a H1 h1=>N.e _ _ _ _ h1)
 |Call f args kws pos =>
  refine zK (yg h) fun h0 h=>?_
  have h0:=yt.mp h0
  cases f with
  |Name n np =>
   intro s S Q E g
   refine vm (N.e _ _ _ _ h s S _ E fun v a H0 s0 q0 c0 S0 K0=>?_)
   have q0:=yg (Wf q0 c0)
   exact Y9 Z.K q0.1 (TB Z) h0.1 h0.2 (favs:=[]) (first:=[]) (Z0 (N.l _ _ _ _ _ h0.1 q0.2) fun l H1 h1=>N.w _ _ _ _ _ h0.2 h1) S0 (by rfl) fun v a H' s' q1 q2 q3 q4=>g v a H' s' q1 q2 q3 (K0.trans q4)
  |Attribute o m ap =>
   refine zK (yg h) fun hn h=>?_
   have hn:=yt.mp hn
   refine zK (yg h) fun ho h=>zL.method Z.K h0.1 h0.2 (Xx (by simpa using ho)) hn.1 hn.2 ((N.e _ _ _ _ h).mono fun a H1 q=>?_)
   cases a with
   |str y =>
    refine zt (xz q) fun id hid q=>zK (Z.SM _ _ hid) fun sl ty=>?_
    have q:=yg q
    exact⟨.builtin id,[.str y],_,q.1,TB Z,Qd sl ty,Z0 (N.l _ _ _ _ _ h0.1 q.2) fun l H1 h1=>N.w _ _ _ _ _ h0.2 h1⟩
   |obj i =>
    refine yW (qT q) fun C fs hi q=>zt (xz q) fun f hf q=>zK (yg q) fun hl q=>?_
    have q:=yg q
    exact⟨.ref f,[.obj i],_,q.1,TB Z,Qe Z.K hi (Z.M _ _ _ hf) (xg.mp hl),Z0 (N.l _ _ _ _ _ h0.1 q.2) fun l H1 h1=>N.w _ _ _ _ _ h0.2 h1⟩
   |_=>exact q.elim
  |_=>exact h.elim
 |_=>exact h.elim
theorem aR(N:Sound D x V):∀ex fr H k,ii V ex fr H k→xe x fr H (isTrue ex x.env (zR ex x.env)) k:=by
 intro ex fr H k h
 cases ex with
 |UnaryOp op e pos =>
  cases op with
  |Not=>exact xe.not (N.b _ _ _ _ h)
  |_=>exact h.elim
 |BoolOp op es pos=>exact xe.boolop (N.t _ _ _ _ _ h)
 |Compare l ops rs pos =>
  refine zt (qF h) fun op z1 h=>?_;subst z1
  refine zt (qF h) fun r z1 h=>?_;subst z1
  exact zK (yg h) fun h1 h2=>xe.compare (by simpa using h1) ((N.e _ _ _ _ h2).mono fun a H1 h1=>N.e _ _ _ _ h1)
 |Name n pos=>exact xe.plain (fun U U=>rfl) (N.e _ _ _ _ h)
 |Attribute o n pos=>exact xe.plain (fun U U=>rfl) (N.e _ _ _ _ h)
 |Call f as ks pos=>exact xe.plain (fun U U=>rfl) (N.e _ _ _ _ h)
 |Constant c q pos=>exact xe.plain (fun U U=>rfl) (N.e _ _ _ _ h)
 |_=>exact h.elim
theorem aO(N:Sound D x V):∀es fr H k pos,xP es=true→ic V es fr H k→w9 x fr H (vR (vX pos (xL es x.env))) k:=by
 intro es fr H k pos hp h
 cases es with
 |nil=>exact w9.args_nil h
 |cons e r =>
  unfold xP at hp
  rw[zk]at hp
  exact w9.args_cons hp.1 ((N.e _ _ _ _ h).mono fun a H1 h1=>N.l _ _ _ _ _ hp.2 h1)
theorem aK(N:Sound D x V):∀ks fr H k pos,to ks=true→h9 V ks fr H k→w9 x fr H (Ys ((xS pos (yN ks x.env)).map (·.2))) k:=by
 intro ks fr H k pos hp h
 cases ks with
 |nil=>exact w9.kws_nil h
 |cons e r =>
  obtain⟨n,e,p⟩:=e
  cases n with
  |none=>exact fT hp
  |some n=>exact w9.kws_cons ((N.e _ _ _ _ h).mono fun a H1 h1=>N.w _ _ _ _ _ hp h1)
theorem aL(N:Sound D x V):∀op es fr H k,stepT V op es fr H k→xe x fr H (Xr op es x.env) k:=by
 intro op es fr H k h
 cases es with
 |nil=>cases op with
  |And=>exact xe.allTrue_nil h
  |Or=>exact xe.allTrue_nil h
 |cons e r=>cases op with
  |And=>exact xe.allTrue_and ((N.b _ _ _ _ h).mono fun c H1 h1=>⟨(wZ h1).2,fun e=>N.t _ _ _ _ _ ((wZ h1).1 e)⟩)
  |Or=>exact xe.allTrue_or ((N.b _ _ _ _ h).mono fun c H1 h1=>⟨(wZ h1).1,fun e=>N.t _ _ _ _ _ ((wZ h1).2 e)⟩)
theorem aN(N:Sound D x V):∀e fr H k,ib V e fr H k→bV x fr H e k:=by
 intro e fr H k h
 cases e with
 |none=>exact h
 |some e=>exact N.e _ _ _ _ h
theorem vJ(h:U8 e=true):uH e t l env=pure false:=by
 cases e<;>first|rfl|exact fT h
theorem zQ.pass(h:k .next fr H):zQ x fr H (tx (.Pass pos) x.env) k:=fun s S U U f=>zb (xi (wpAny_pure (f .next .next fr H s h rfl S (Kept.refl _ _))))
theorem aM(Z:Fits D x)(N:Sound D x V):∀ss fr H k,mQ D V ss fr H k→zQ x fr H (xN ss x.env) k:=by
 intro ss fr H k h
 cases ss with
 |nil=>exact zQ.nil h
 |cons st r =>
  refine zQ.cons ?_
  cases st with
  |Expr e pos=>exact zQ.expr Z.quiet (vJ (yg h).1) ((N.e _ _ _ _ (yg h).2).mono fun a H1 h1=>N.s _ _ _ _ h1)
  |Assign ts e pos =>
   refine zK (yg h) fun hc h=>zt (qF h) fun t z1 h=>?_;subst z1
   cases t with
   |Name n np =>
    refine zK (yg h) fun hw h=>zQ.assign_name Z.fn ?_ (vJ hc) ((N.e _ _ _ _ h).mono fun a H1 h1=>N.s _ _ _ _ h1)
    exact(rS hw).imp (fun hk=>(xl Z n).trans hk) fun hk=>⟨(xl Z n).trans hk.1,Z.wr n hk.2⟩
   |Attribute o n p=>exact zQ.assign_attr Z.K Z.T (vJ hc) ((N.e _ _ _ _ h).mono fun a H1 h1=>(N.e _ _ _ _ h1).mono fun b H2 h2=>QJ h2 fun H3 h3=>N.s _ _ _ _ h3)
   |_=>exact h.elim
  |AugAssign t op e pos =>
   cases t with
   |Attribute o n p=>exact zQ.aug_attr Z.K Z.T ((N.e _ _ _ _ h).mono fun a H1 h1=>kI h1 fun old h2=>(N.e _ _ _ _ h2).mono fun b H2 h3=>kt h3 fun c h4=>QJ h4 fun H3 h5=>N.s _ _ _ _ h5)
   |_=>exact h.elim
  |If t b o pos =>
   refine zQ.if_ ((N.b _ _ _ _ h).mono fun c H1 h1=>⟨fun e=>?_,fun e=>?_⟩)
   ·refine(N.s _ _ _ _ ((wZ h1).1 e)).mono fun f fr2 H2 h2=>?_
    cases f with
    |next=>exact N.s _ _ _ _ h2
    |_=>exact h2
   ·refine(N.s _ _ _ _ ((wZ h1).2 e)).mono fun f fr2 H2 h2=>?_
    cases f with
    |next=>exact N.s _ _ _ _ h2
    |_=>exact h2
  |Return e pos =>
   cases e with
   |some e=>exact zQ.ret (N.e _ _ _ _ h)
   |none=>exact zQ.ret_none h
  |Break pos=>exact zQ.brk h
  |Continue pos=>exact zQ.cont h
  |Pass pos=>exact zQ.pass (N.s _ _ _ _ h)
  |_=>exact h.elim
theorem fC(Z:Fits D x)(N:Sound D x V):Sound D x (CP D V):=⟨aQ Z N,aR N,aO N,aK N,aL N,aN N,aM Z N⟩
theorem yl(Z:Fits D x):∀n,Sound D x (ev D n):=by
 intro l0
 induction l0 with
 |zero =>
  exact YS D x
 |succ n ih =>
  exact fC Z (ih)
end
end
section
section
variable {x:Cx} {fr:y3} {H:Hp} {kb:Bool→Hp→Prop}
theorem xe.isnot_refs(hb:vK .IsNot r=false)(hx:a=b∨(a≠b∧∃oa ob,x.B.get? a=some oa∧x.B.get? b=some ob∧oa.cls≠.type "tuple"))(h:zL x fr H (zR l x.env) fun v H1=>v=.glob (.ref a)∧zL x fr H1 (zR r x.env) fun w H2=>w=.glob (.ref b)∧kb (!(wm a b)) H2):xe x fr H (isTrue (.Compare l [.IsNot] [r] pos) x.env whole) kb:=
 fun s S U E f=>wy (h s S _ E fun v U H1 s1 h1 c1 S1 K1=>by
  obtain⟨rfl,h1⟩:=h1
  obtain rfl:=wo c1
  refine h1 s1 S1 _ E fun w U H2 s2 h2 c2 S2 K2=>?_
  obtain⟨rfl,h2⟩:=h2
  obtain rfl:=wo c2
  rcases hx with rfl|⟨ne,oa,ob,ha,hb',hc⟩
  ·rw[show wm a a=true from Nat.beq_refl a]at h2
   exact wpAny_isNot_ref_self (xQ (f _ H2 s2 h2 S2 (K1.trans K2)))
  ·rw[show wm a b=false by cases e:wm a b with|false=>rfl|true=>exact absurd (xq e) ne]at h2
   exact wpAny_isNot_ref_other ne (S2.base _ _ ha) (S2.base _ _ hb') hc (xQ (f _ H2 s2 h2 S2 (K1.trans K2)))) hb
end
end
section
noncomputable def ww:Array Nat:=#[14,17,4,1,1,21,9,0,604043296,1,0,0,0,0,0,8,4,0,13,14,21,9,0,604043296,1,0,0,0,0,0,8,4,0,1]
noncomputable def eD(i c:Nat):Bool:=decide (c<256)&&(ww.getD (i+(1+c/32)) 0).testBit (c%32)
noncomputable def uM(c:Nat):Bool:=eD 6 c||Z4 c
theorem KP(c:Nat):eD 21 c=eD 6 c:=by
 unfold eD
 by_cases h:c<256
 ·have hq:c/32<8:=by omega
  have all:∀q<8,ww.getD (21+(1+q)) 0=ww.getD (6+(1+q)) 0:=by decide
  exact zc (all _ hq) rfl
 ·refine zc (decide_eq_false h) ?_;rfl
theorem dM{i:Nat}{c:Nat}{seen:vc}{n:Nat}(h1:∀s,wH ww c (n+4) i true s=wH ww c (n+3) (i+1) false (s.add 21))(h2:∀s,wH ww c (n+3) (i+1) false s=if eD (i+1) c=true then .ok (false,s.add 9)else wH ww c (n+2) (i+10) false (s.add 9))(h3:∀s,wH ww c (n+2) (i+10) false s=if Z4 c=true then .ok (false,(s.add 8).add 59)else wH ww c (n+1) (i+12) false ((s.add 8).add 59))(hb:eD (i+1) c=eD 6 c)(h4:∀s,wH ww c (n+1) (i+12) false s=.ok (true,s.add 0)):∃seen',wH ww c (n+4) i true seen=.ok (!uM c,seen'):=by
 refine zc (h1 ..) (zc (h2 ..) (zc hb ?_))
 unfold uM
 cases e:eD 6 c with
 |true=>refine zc (if_pos rfl) ?_;exact⟨_,rfl⟩
 |false =>
  refine zc (if_neg (by decide)) (zc (h3 ..) ?_)
  cases e2:Z4 c with
  |true=>refine zc (if_pos rfl) ?_;exact⟨_,rfl⟩
  |false=>refine zc (if_neg (by decide)) (zc (h4 ..) ?_);exact⟨_,rfl⟩
theorem Na(c:Nat):Sre.category 4 c=.ok (Z4 c):=by
 refine(?_:Except.map (· != (4%2==1)) (.ok (Z4 c))=_)
 cases Z4 c<;>rfl
theorem eA(h:wH ww c (n+2) i false s=(do if ←Sre.category 4 c then pure (false,(s.add 8).add 59)else wH ww c (n+1) (i+2) false ((s.add 8).add 59))):
  wH ww c (n+2) i false s=if Z4 c=true then .ok (false,(s.add 8).add 59)else wH ww c (n+1) (i+2) false ((s.add 8).add 59):=by
 refine zc h (zc (Na ..) ?_);rfl
theorem Fk(c:Nat)(seen:vc):∃seen',wH ww c ww.size 5 true seen=.ok (!uM c,seen'):=
 dM (i:=5) (n:=30) (fun U=>⋯) (fun U=>⋯) (fun U=>eA ⋯) rfl fun U=>⋯
theorem A8(c:Nat)(seen:vc):∃seen',wH ww c ww.size 20 true seen=.ok (!uM c,seen'):=
 dM (i:=20) (n:=30) (fun U=>⋯) (fun U=>⋯) (fun U=>eA ⋯) (KP c) fun U=>⋯
theorem jl{seen:vc}(h:s ≥ m.lim):vH m (f+1) s seen=.ok (none,seen):=if_pos h
theorem p7{seen seen':vc}(hs:¬s ≥ m.lim)(e:wH m.code (m.text.getD s 0) m.code.size 5 true seen=.ok (b,seen')):vH m (f+1) s seen=bif b then .ok (some s,seen')else vH m f (s+1) seen':=by
 refine(if_neg hs).trans ?_
 refine zc e ?_
 cases b<;>rfl
theorem eL(hc:m.code=ww)(hl:m.lim=m.text.size):∀(fuel s:Nat) (seen:vc),m.lim≤s+fuel →
  ((∀c∈m.text.toList.drop s,uM c=true)∧∃seen',vH m (fuel+1) s seen=.ok (none,seen'))∨∃s' seen',s'<m.lim∧s≤s'∧uM (m.text.getD s' 0)=false∧vH m (fuel+1) s seen=.ok (some s',seen'):=by
 intro l0
 induction l0 with
 |zero =>
  intro s seen h
  exact .inl ⟨fun c hx=>(by rw[qg (by refine zc yS ?_;exact vB 5201425765 [m.text.size,s,m.lim] (ze hl.symm) h rfl)]at hx;cases hx),seen,jl (zN 20317541 [m.lim,s] h rfl)⟩
 |succ fuel ih =>
  intro s seen h
  by_cases hs:s ≥ m.lim
  ·exact .inl ⟨fun c hx=>by(rw[qg (by refine zc yS ?_;exact vB 6780261 [m.text.size,s,m.lim] (ze hl.symm) hs rfl)]at hx;cases hx),seen,jl hs⟩
  ·refine yf (Fk (m.text.getD s 0) seen) fun seen' e=>?_
   have hs':s<m.text.size:=vB 1965454930 [s,m.text.size,m.lim] (ze hl) (wX hs) rfl
   have hd:m.text.toList.drop s=m.text.getD s 0::m.text.toList.drop (s+1):=by
    refine zc (List.drop_eq_getElem_cons (by rw[yS];exact hs')) ?_
    congr 1
    refine zc (Array.getElem_toList ..) ?_
    simp[Array.getD,hs']
   cases sf:uM (m.text.getD s 0)with
   |true =>
    rw[sf]at e
    have st:∀f,vH m (f+1) s seen=vH m f (s+1) seen':=fun f=>by
     exact p7 hs (zc hc e)
    refine zc (st ..) (zc hd ?_)
    refine lN (ih (s+1) seen' (zN 0x1137060571136005 [m.lim,s,fuel] h rfl)) (fun z=>.inl ⟨fun c hx=>lN (zn.mp hx) (fun q=>zc q sf) (z.1 c),z.2⟩) fun z=>?_
    refine xk z fun s' seen2 a b z=>?_
    exact .inr ⟨s',seen2,a,zN 1628655717 [s,s'] b rfl,z⟩
   |false =>
    rw[sf]at e
    refine .inr ⟨s,seen',zN 6628946 [s,m.lim] (wX hs) rfl,zX _,sf,?_⟩
    exact p7 hs (zc hc e)
end
section
open Sre
theorem sU{text:Array Nat}{lim start ls pos handed:Nat}{om:Bool}{marks:Array (Option Nat)}{lm li:Int}{loops:Array Sre.Loop}{inner:Option Nat}{frames:List Sre.Frame}{weight:Nat}{seen:vc}(hl:pos<lim)(hu:uM (text.getD pos 0)=false):
  ∃seen',b7 ⟨ww,text,lim,start,ls,false,false,18,pos,handed,om,marks,lm,li,loops,inner,frames,weight,none,seen,none⟩=⟨ww,text,lim,start,ls,false,false,33,pos+1,handed,om,marks,lm,li,loops,inner,frames,weight,none,seen',none⟩:=by
 have e0:b7 ⟨ww,text,lim,start,ls,false,false,18,pos,handed,om,marks,lm,li,loops,inner,frames,weight,none,seen,none⟩=(if pos ≥ lim then(TJ ⟨ww,text,lim,start,ls,false,false,18,pos,handed,om,marks,lm,li,loops,inner,frames,weight,none,seen.add 13,none⟩ false)else match wH ww (text.getD pos 0) ww.size 20 true (seen.add 13)with
   |.error why=>Sre.M.stick ⟨ww,text,lim,start,ls,false,false,18,pos,handed,om,marks,lm,li,loops,inner,frames,weight,none,seen.add 13,none⟩ why
   |.ok (false,seen')=>TJ ⟨ww,text,lim,start,ls,false,false,18,pos,handed,om,marks,lm,li,loops,inner,frames,weight,none,seen',none⟩ false
   |.ok (true,seen')=>⟨ww,text,lim,start,ls,false,false,33,pos+1,handed,om,marks,lm,li,loops,inner,frames,weight,none,seen',none⟩):=⋯
 refine yf (A8 (text.getD pos 0) (seen.add 13)) fun seen' e=>?_
 rw[hu]at e
 refine zc e0 (zc (if_neg (Qy (zN 6628946 [pos,lim] hl rfl))) (zc e ?_))
 exact⟨seen',rfl⟩
theorem sT{text:Array Nat}{lim start ls pos handed:Nat}{om:Bool}{marks:Array (Option Nat)}{lm li:Int}{loops:Array Sre.Loop}{inner:Option Nat}{frames:List Sre.Frame}{weight:Nat}{seen:vc}:
  b7 ⟨ww,text,lim,start,ls,false,false,33,pos,handed,om,marks,lm,li,loops,inner,frames,weight,none,seen,none⟩=⟨ww,text,lim,start,ls,false,false,33,pos,pos,om,marks,lm,li,loops,inner,frames,weight,some true,seen.add 1,none⟩:=by
 have e0:b7 ⟨ww,text,lim,start,ls,false,false,33,pos,handed,om,marks,lm,li,loops,inner,frames,weight,none,seen,none⟩=(if(om&&(false||false))=true then TJ ⟨ww,text,lim,start,ls,false,false,33,pos,handed,om,marks,lm,li,loops,inner,frames,weight,none,seen.add 1,none⟩ false else
   ⟨ww,text,lim,start,ls,false,false,33,pos,pos,om,marks,lm,li,loops,inner,frames,weight,some true,seen.add 1,none⟩):=⋯
 exact zc e0 (zc (if_neg (by cases om<;>decide)) rfl)
theorem cU(text:Array Nat):(text.toList.all uM=true∧∃m,(YH ww text 0 0 text.size false).runFor 4=m∧m.outcome=some .failed) ∨
  (text.toList.all uM=false∧∃m,(YH ww text 0 0 text.size false).runFor 4=m∧m.outcome=some .matched):=by
 by_cases hz:text.size=0
 ·refine .inl ⟨?_,_,rfl,?_⟩
  ·refine zc (show text.toList=[] from vP (by rw[yS];exact hz)) ?_;rfl
  ·refine zc hz ?_;kernel_rfl
 ·have hs:YH ww text 0 0 text.size false=Uk ⟨ww,text,text.size,0,text.size,false,false,18,0,0,true,#[],-1,-1,#[],none,[],0,none,({}:vc).add 14,none⟩ 0 true:=by
   have:YH ww text 0 0 text.size false=(if(0>text.size||text.size-0<1)=true then TJ ⟨ww,text,text.size,0,0,false,false,18,0,0,true,#[],-1,-1,#[],none,[],0,none,({}:vc).add 14,none⟩ false else Uk ⟨ww,text,text.size,0,text.size,false,false,18,0,0,true,#[],-1,-1,#[],none,[],0,none,({}:vc).add 14,none⟩ 0 true):=⋯
   exact zc this (zc (if_neg (by rw[wj,decide_eq_true_iff,decide_eq_true_iff];omega)) rfl)
  have ha:Uk ⟨ww,text,text.size,0,text.size,false,false,18,0,0,true,#[],-1,-1,#[],none,[],0,none,({}:vc).add 14,none⟩ 0 true =
    (match vH ⟨ww,text,text.size,0,text.size,false,false,18,0,0,true,#[],-1,-1,#[],none,[],0,none,({}:vc).add 14,none⟩ (text.size+1-0) 0 (({}:vc).add 14)with
    |.ok (some s,seen)=>DH ⟨ww,text,text.size,0,text.size,false,false,18,0,0,true,#[],-1,-1,#[],none,[],0,none,seen,none⟩ s true
    |.ok (none,seen)=>TJ ⟨ww,text,text.size,0,text.size,false,false,18,0,0,true,#[],-1,-1,#[],none,[],0,none,seen,none⟩ false
    |.error why=>Sre.M.stick ⟨ww,text,text.size,0,text.size,false,false,18,0,0,true,#[],-1,-1,#[],none,[],0,none,({}:vc).add 14,none⟩ why):=⋯
  refine zc hs (zc ha ?_)
  rcases eL (m:=⟨ww,text,text.size,0,text.size,false,false,18,0,0,true,#[],-1,-1,#[],none,[],0,none,({}:vc).add 14,none⟩) rfl rfl text.size 0 (({}:vc).add 14) (by exact Tg 5247749 [text.size] rfl)with⟨a,seen',e⟩|⟨s',seen',a,b,c,e⟩
  ·refine .inl ⟨?_,?_⟩
   ·rw[zJ];exact fun c hc=>a c hc
   ·refine zc (show text.size+1-0=text.size+1 from rfl) (zc e ?_)
    exact⟨_,rfl,⋯⟩
  ·refine .inr ⟨?_,?_⟩
   ·rw[List.all_eq_false]
    have hs':s'<text.size:=a
    exact⟨text.getD s' 0,by simp[Array.getD,hs'],by refine zc c ?_;decide⟩
   ·refine zc (show text.size+1-0=text.size+1 from rfl) (zc e ?_)
    dsimp only
    have e1:∀(m:Sre.M),m.outcome=none→∀n,m.runFor (n+1)=m.step.runFor n:=fun m h n=>by rw[Sre.M.runFor,h];rfl
    have e0:DH ⟨ww,text,text.size,0,text.size,false,false,18,0,0,true,#[],-1,-1,#[],none,[],0,none,seen',none⟩ s' true =
     ⟨ww,text,text.size,s',text.size,false,false,18,s',s',true,#[],-1,-1,#[],none,[{wait:=.nextStart,pc:=18,pos:=s',outermost:=true}],1,none,seen',none⟩:=⋯
    refine yf (sU (text:=text) (lim:=text.size) (start:=s') (ls:=text.size) (pos:=s') (handed:=s') (om:=true) (marks:=#[]) (lm:=-1) (li:=-1) (loops:=#[]) (inner:=none) (frames:=[{wait:=.nextStart,pc:=18,pos:=s',outermost:=true}]) (weight:=1) (seen:=seen') a c) fun seen2 e2=>⟨_,rfl,?_⟩
    refine zc e0 ?_;rw[e1 _ rfl];refine zc e2 ?_;rw[e1 _ rfl];refine zc sT ?_
    kernel_rfl
end
section
noncomputable def wx:List Expr→Nat→Expr
 |[],_=>.Constant .none 0 default
 |e::_,0=>e
 |_::r,n+1=>wx r n
set_option backward.match.sparseCases false in
noncomputable def xE:Expr→List Expr
 |.BoolOp _ es _=>es
 |.BinOp l _ r _=>[l,r]
 |.Lambda _ b _ _=>[b]
 |.IfExp t _ o _=>[t,o]
 |.Dict ks vs _=>vs++ks.filterMap id
 |.ListComp e _ _ _=>[e]
 |.Compare l _ rs _=>l::rs
 |.Call f as _ _=>f::as
 |.Attribute o _ _=>[o]
 |.Subscript o i _=>[o,i]
 |.Tuple es _ _=>es
 |_=>[]
noncomputable def XQ:Arguments:=⟨[],[],none,[],[],none,[]⟩
noncomputable def dp:qv:=⟨.function,[],false,false,[]⟩
set_option backward.match.sparseCases false in
noncomputable def xM:Expr→List tZ×List tA×Nat×Scope×Arguments
 |.Lambda a _ s _=>([],[],0,s,a)
 |.ListComp _ g s _=>(g,[],0,s,XQ)
 |.Call _ _ k _=>([],k,0,dp,XQ)
 |.Constant _ k _=>([],[],k,dp,XQ)
 |.Tuple _ k _=>([],[],k,dp,XQ)
 |_=>([],[],0,dp,XQ)
noncomputable def Bu(e:Expr)(n:Nat):tZ:=(xM e).1.getD n ⟨wx [] 0,wx [] 0,[],0⟩
set_option backward.match.sparseCases false in
noncomputable def xT:yX→List Expr
 |.ClassDef _ b _ _ _ _ _ _ _ _ _=>b
 |.Return e _=>e.toList
 |.Assign ts e _=>e::ts
 |.For t i _ _ _=>[t,i]
 |.While t _ _ _=>[t]
 |.If t _ _ _=>[t]
 |.Raise e _ _=>e.toList
 |_=>[]
set_option backward.match.sparseCases false in
noncomputable def xB:yX→List yX×List yX×Scope×Arguments×List Str
 |.FunctionDef _ a b _ _ _ s _ _ _=>(b,[],s,a,[])
 |.ClassDef _ _ _ b _ _ s _ _ t _=>(b,[],s,XQ,t)
 |.For _ _ b o _=>(b,o,dp,XQ,[])
 |.While _ b o _=>(b,o,dp,XQ,[])
 |.If _ b o _=>(b,o,dp,XQ,[])
 |_=>([],[],dp,XQ,[])
noncomputable def zm:List yX→Nat→yX
 |[],_=>.Pass ⟨0,0,0,0⟩
 |s::_,0=>s
 |_::r,n+1=>zm r n
noncomputable def x6(s:yX):List yX:=(xB s).1
noncomputable def Ky(s:yX):Arguments:=(xB s).2.2.2.1
noncomputable def wt(s:yX):List yX:=(xB s).1
noncomputable def bK(s:yX):qv:=(xB s).2.2.1
noncomputable abbrev vS(n:String)(t:Nat):zi:=.str (za n) t
noncomputable abbrev dE(P:zp)(n:String)(t:Nat)(v:zi):yE:=⟨zz P (za n),.str (za n) t,v⟩
noncomputable abbrev oD(es:Array yE)(n:Nat):xK:={cls:=.type "dict",dict:=none,data:=.dict es n,slots:=#[]}
noncomputable abbrev oF(c:String)(vs:Array zi):xK:={cls:=.type c,dict:=none,data:=.fields vs,slots:=#[]}
noncomputable abbrev V7(n q:String)(s:yX)(d m c:zi):xK:={cls:=.type "function",dict:=none,data:=.func {name:=za n,qualname:=za q,params:=Ky s,body:=.stmts (wt s),scope:=bK s,globals:=3,closure:=[],defaults:=d,kwdefaults:=.none,doc:=.none,pyModule:=m,annotations:=none,code:=c,closureTuple:=.none,builtins:=0},slots:=#[]}
noncomputable def Fe(P:zp):xK:=oD #[dE P "__name__" 1 (vS "builtins" 160),dE P "__doc__" 2 (.builtin "builtins.__doc__:str#opaque"),dE P "__package__" 3 (.builtin "builtins.__package__:str#opaque"),dE P "__loader__" 4 (.builtin "builtins.__loader__:shared#opaque"),dE P "__spec__" 5 (.builtin "builtins.__spec__#opaque"),dE P "__build_class__" 6 (.builtin "__build_class__"),dE P "__import__" 7 (.builtin "__import__"),dE P "abs" 8 (.builtin "abs"),dE P "all" 9 (.builtin "all"),dE P "any" 10 (.builtin "any"),dE P "ascii" 11 (.builtin "ascii"),dE P "bin" 12 (.builtin "bin"),dE P "breakpoint" 13 (.builtin "breakpoint"),dE P "callable" 14 (.builtin "callable"),dE P "chr" 15 (.builtin "chr"),dE P "compile" 16 (.builtin "compile"),dE P "delattr" 17 (.builtin "delattr"),dE P "dir" 18 (.builtin "dir"),dE P "divmod" 19 (.builtin "divmod"),dE P "eval" 20 (.builtin "eval"),dE P "exec" 21 (.builtin "exec"),dE P "format" 22 (.builtin "format"),dE P "getattr" 23 (.builtin "getattr"),dE P "globals" 24 (.builtin "globals"),dE P "hasattr" 25 (.builtin "hasattr"),dE P "hash" 26 (.builtin "hash"),dE P "hex" 27 (.builtin "hex"),dE P "id" 28 (.builtin "id"),dE P "input" 29 (.builtin "input"),dE P "isinstance" 30 (.builtin "isinstance"),dE P "issubclass" 31 (.builtin "issubclass"),dE P "iter" 32 (.builtin "iter"),dE P "aiter" 33 (.builtin "aiter"),dE P "len" 34 (.builtin "len"),dE P "locals" 35 (.builtin "locals"),dE P "max" 36 (.builtin "max"),dE P "min" 37 (.builtin "min"),dE P "next" 38 (.builtin "next"),dE P "anext" 39 (.builtin "anext"),dE P "oct" 40 (.builtin "oct"),dE P "ord" 41 (.builtin "ord"),dE P "pow" 42 (.builtin "pow"),dE P "print" 43 (.builtin "print"),dE P "repr" 44 (.builtin "repr"),dE P "round" 45 (.builtin "round"),dE P "setattr" 46 (.builtin "setattr"),dE P "sorted" 47 (.builtin "sorted"),dE P "sum" 48 (.builtin "sum"),dE P "vars" 49 (.builtin "vars"),dE P "None" 50 .none,⟨zz P (za "Ellipsis"),(vS "Ellipsis" 51),.ellipsis⟩,⟨zz P (za "NotImplemented"),(vS "NotImplemented" 52),.notImplemented⟩,dE P "False" 53 (.bool false),dE P "True" 54 (.bool true),dE P "bool" 55 (.type "bool"),dE P "memoryview" 56 (.type "memoryview"),dE P "bytearray" 57 (.type "bytearray"),dE P "bytes" 58 (.type "bytes"),dE P "classmethod" 59 (.type "classmethod"),dE P "complex" 60 (.type "complex"),dE P "dict" 61 (.type "dict"),dE P "enumerate" 62 (.type "enumerate"),dE P "filter" 63 (.type "filter"),dE P "float" 64 (.type "float"),dE P "frozenset" 65 (.type "frozenset"),dE P "property" 66 (.type "property"),dE P "int" 67 (.type "int"),dE P "list" 68 (.type "list"),dE P "map" 69 (.type "map"),dE P "object" 70 (.type "object"),dE P "range" 71 (.type "range"),dE P "reversed" 72 (.type "reversed"),dE P "set" 73 (.type "set"),dE P "slice" 74 (.type "slice"),dE P "staticmethod" 75 (.type "staticmethod"),dE P "str" 76 (.type "str"),dE P "super" 77 (.type "super"),dE P "tuple" 78 (.type "tuple"),dE P "type" 79 (.type "type"),dE P "zip" 80 (.type "zip"),dE P "__debug__" 81 (.bool true),dE P "BaseException" 82 (.type "BaseException"),dE P "BaseExceptionGroup" 83 (.type "BaseExceptionGroup"),dE P "Exception" 84 (.type "Exception"),dE P "GeneratorExit" 85 (.type "GeneratorExit"),dE P "KeyboardInterrupt" 86 (.type "KeyboardInterrupt"),dE P "SystemExit" 87 (.type "SystemExit"),dE P "ArithmeticError" 88 (.type "ArithmeticError"),dE P "AssertionError" 89 (.type "AssertionError"),dE P "AttributeError" 90 (.type "AttributeError"),dE P "BufferError" 91 (.type "BufferError"),dE P "EOFError" 92 (.type "EOFError"),dE P "ImportError" 93 (.type "ImportError"),dE P "LookupError" 94 (.type "LookupError"),dE P "MemoryError" 95 (.type "MemoryError"),dE P "NameError" 96 (.type "NameError"),dE P "OSError" 97 (.type "OSError"),dE P "ReferenceError" 98 (.type "ReferenceError"),dE P "RuntimeError" 99 (.type "RuntimeError"),dE P "StopAsyncIteration" 100 (.type "StopAsyncIteration"),dE P "StopIteration" 101 (.type "StopIteration"),dE P "SyntaxError" 102 (.type "SyntaxError"),dE P "SystemError" 103 (.type "SystemError"),dE P "TypeError" 104 (.type "TypeError"),dE P "ValueError" 105 (.type "ValueError"),dE P "Warning" 106 (.type "Warning"),dE P "FloatingPointError" 107 (.type "FloatingPointError"),dE P "OverflowError" 108 (.type "OverflowError"),dE P "ZeroDivisionError" 109 (.type "ZeroDivisionError"),dE P "BytesWarning" 110 (.type "BytesWarning"),dE P "DeprecationWarning" 111 (.type "DeprecationWarning"),dE P "EncodingWarning" 112 (.type "EncodingWarning"),dE P "FutureWarning" 113 (.type "FutureWarning"),dE P "ImportWarning" 114 (.type "ImportWarning"),dE P "PendingDeprecationWarning" 115 (.type "PendingDeprecationWarning"),dE P "ResourceWarning" 116 (.type "ResourceWarning"),dE P "RuntimeWarning" 117 (.type "RuntimeWarning"),dE P "SyntaxWarning" 118 (.type "SyntaxWarning"),dE P "UnicodeWarning" 119 (.type "UnicodeWarning"),dE P "UserWarning" 120 (.type "UserWarning"),dE P "BlockingIOError" 121 (.type "BlockingIOError"),dE P "ChildProcessError" 122 (.type "ChildProcessError"),dE P "ConnectionError" 123 (.type "ConnectionError"),dE P "FileExistsError" 124 (.type "FileExistsError"),dE P "FileNotFoundError" 125 (.type "FileNotFoundError"),dE P "InterruptedError" 126 (.type "InterruptedError"),dE P "IsADirectoryError" 127 (.type "IsADirectoryError"),dE P "NotADirectoryError" 128 (.type "NotADirectoryError"),dE P "PermissionError" 129 (.type "PermissionError"),dE P "ProcessLookupError" 130 (.type "ProcessLookupError"),dE P "TimeoutError" 131 (.type "TimeoutError"),dE P "IndentationError" 132 (.type "IndentationError"),dE P "_IncompleteInputError" 133 (.type "_IncompleteInputError"),dE P "IndexError" 134 (.type "IndexError"),dE P "KeyError" 135 (.type "KeyError"),dE P "ModuleNotFoundError" 136 (.type "ModuleNotFoundError"),dE P "NotImplementedError" 137 (.type "NotImplementedError"),dE P "PythonFinalizationError" 138 (.type "PythonFinalizationError"),dE P "RecursionError" 139 (.type "RecursionError"),dE P "UnboundLocalError" 140 (.type "UnboundLocalError"),dE P "UnicodeError" 141 (.type "UnicodeError"),dE P "BrokenPipeError" 142 (.type "BrokenPipeError"),dE P "ConnectionAbortedError" 143 (.type "ConnectionAbortedError"),dE P "ConnectionRefusedError" 144 (.type "ConnectionRefusedError"),dE P "ConnectionResetError" 145 (.type "ConnectionResetError"),dE P "TabError" 146 (.type "TabError"),dE P "UnicodeDecodeError" 147 (.type "UnicodeDecodeError"),dE P "UnicodeEncodeError" 148 (.type "UnicodeEncodeError"),dE P "UnicodeTranslateError" 149 (.type "UnicodeTranslateError"),dE P "ExceptionGroup" 150 (.type "ExceptionGroup"),dE P "EnvironmentError" 151 (.type "OSError"),dE P "IOError" 152 (.type "OSError"),dE P "open" 153 (.builtin "open"),dE P "quit" 154 (.builtin "builtins.quit#opaque"),dE P "exit" 155 (.builtin "builtins.exit#opaque"),dE P "copyright" 156 (.builtin "builtins.copyright#opaque"),dE P "credits" 157 (.builtin "builtins.credits#opaque"),dE P "license" 158 (.builtin "builtins.license#opaque"),dE P "help" 159 (.builtin "builtins.help#opaque")] 159
noncomputable def rC(P:zp):xK:=oD #[dE P "__name__" 165 (vS "law_aa0006_01" 1366),dE P "__doc__" 166 .none,dE P "__package__" 167 .none,dE P "__loader__" 168 (.builtin "__main__.__loader__#opaque"),dE P "__spec__" 169 .none,dE P "__annotations__" 170 (.ref 6),dE P "__builtins__" 171 (.ref 4),dE P "__file__" 173 (vS "/claim/cut.py" 172),dE P "__cached__" 174 .none,dE P "_sre" 275 (.ref 12),dE P "deque" 317 (.type "collections.deque"),dE P "_wall" 330 (.ref 44),dE P "_twin_re_1" 370 (.ref 49),dE P "_whence" 380 (.ref 56),dE P "_index" 388 (.ref 63),dE P "UnsupportedOperation" 410 (.ref 73),dE P "IOBase" 442 (.ref 93),dE P "BufferedIOBase" 460 (.ref 108),dE P "TextIOBase" 478 (.ref 120),dE P "BytesIO" 740 (.ref 350),dE P "StringIO" 1027 (.ref 597),dE P "_kind" 1038 (.ref 606),dE P "_fspath" 1047 (.ref 613),dE P "_check_arg_types" 1057 (.ref 620),dE P "isabs" 1064 (.ref 627),dE P "join" 1075 (.ref 634),dE P "_c_path" 1088 (.ref 641),dE P "_shelf_fresh" 1095 (.ref 648),dE P "_splitroot" 1104 (.ref 655),dE P "dirname" 1114 (.ref 662),dE P "_normpath" 1129 (.ref 669),dE P "normpath" 1137 (.ref 676),dE P "shlex" 1278 (.ref 767),dE P "split" 1288 (.ref 779),dE P "_find_unsafe" 1290 (.ref 780),dE P "quote" 1297 (.ref 787),dE P "cmp_to_key" 1308 (.ref 794),dE P "_initial_missing" 1309 (.ref 795),dE P "reduce" 1321 (.ref 803),dE P "sep" 1323 (vS "/" 1322),dE P "_Ignore" 1365 (.ref 826),dE P "_law_name" 1373 (.ref 835),dE P "_law_names" 1380 (.ref 842),dE P "_law_words" 1388 (.ref 849),dE P "_law_spelled" 1394 (.ref 854),dE P "_law_step" 1400 (.ref 859),dE P "_law_due" 1406 (.ref 864),dE P "law" 1412 (.ref 869)] 48
noncomputable def MK(P:zp):xK:=oD #[dE P "__module__" 418 (vS "io" 423),dE P "__firstlineno__" 422 (.int (22) 421),dE P "__new__" 433 (.ref 94),dE P "__static_attributes__" 434 (.ref 91),dE P "__dict__" 437 (.ref 95),dE P "__weakref__" 439 (.ref 96),dE P "__doc__" 440 .none] 4
noncomputable def MJ(P:zp):xK:={cls:=.type "type",dict:=none,data:=.cls {name:=(za "IOBase"),bases:=[.type "object"],mro:=[.ref 93,.type "object"],ns:=92,qualname:=(za "IOBase"),hasDict:=true,slotNames:=[],subclasses:=[.ref 108,.ref 120],abstract:=false,collection:=none,hasDel:=false},slots:=#[none,none,(some (vS "IOBase" 411)),(some (vS "IOBase" 419)),(some (.none)),(some (.bool true))]}
noncomputable def JN(P:zp):xK:=oD #[dE P "__module__" 468 (vS "io" 473),dE P "__firstlineno__" 472 (.int (31) 471),dE P "__static_attributes__" 475 (.ref 118),dE P "__doc__" 476 .none] 2
noncomputable def JM(P:zp):xK:={cls:=.type "type",dict:=none,data:=.cls {name:=(za "TextIOBase"),bases:=[.ref 93],mro:=[.ref 120,.ref 93,.type "object"],ns:=119,qualname:=(za "TextIOBase"),hasDict:=true,slotNames:=[],subclasses:=[.ref 597],abstract:=false,collection:=none,hasDel:=false},slots:=#[(some (.ref 111)),none,(some (vS "TextIOBase" 461)),(some (vS "TextIOBase" 469)),(some (.none)),(some (.bool true))]}
noncomputable def JG(P:zp):xK:=oD #[dE P "__module__" 748 (vS "_io" 753),dE P "__firstlineno__" 752 (.int (203) 751),dE P "__init__" 765 (.ref 367),dE P "_StringIO__translated" 774 (.ref 374),dE P "_StringIO__check" 781 (.ref 381),dE P "_StringIO__check_dot" 788 (.ref 388),dE P "_StringIO__line" 803 (.ref 395),dE P "closed" 811 (.ref 403),dE P "line_buffering" 819 (.ref 411),dE P "newlines" 827 (.ref 419),dE P "encoding" 835 (.ref 427),dE P "errors" 843 (.ref 435),dE P "close" 850 (.ref 442),dE P "__enter__" 857 (.ref 449),dE P "__exit__" 865 (.ref 456),dE P "readable" 872 (.ref 463),dE P "writable" 879 (.ref 470),dE P "seekable" 886 (.ref 477),dE P "isatty" 893 (.ref 484),dE P "flush" 900 (.ref 491),dE P "fileno" 907 (.ref 498),dE P "detach" 914 (.ref 505),dE P "getvalue" 921 (.ref 512),dE P "tell" 928 (.ref 519),dE P "seek" 938 (.ref 527),dE P "truncate" 946 (.ref 535),dE P "read" 958 (.ref 543),dE P "readline" 968 (.ref 551),dE P "readlines" 978 (.ref 559),dE P "__iter__" 985 (.ref 566),dE P "__next__" 993 (.ref 573),dE P "write" 1005 (.ref 580),dE P "writelines" 1013 (.ref 587),dE P "__repr__" 1020 (.ref 594),dE P "__static_attributes__" 1024 (.ref 595),dE P "__doc__" 1025 .none] 2
noncomputable def oW(P:zp):xK:={cls:=.type "type",dict:=none,data:=.cls {name:=(za "StringIO"),bases:=[.ref 120],mro:=[.ref 597,.ref 120,.ref 93,.type "object"],ns:=596,qualname:=(za "StringIO"),hasDict:=true,slotNames:=[],subclasses:=[],abstract:=false,collection:=none,hasDel:=false},slots:=#[(some (.ref 353)),none,(some (vS "StringIO" 741)),(some (vS "StringIO" 749)),(some (.none)),(some (.bool true))]}
noncomputable def Jy(P:zp):xK:=oD #[dE P "__module__" 1147 (vS "cpy313.shlex" 1138),dE P "__firstlineno__" 1151 (.int (517) 1150),dE P "__init__" 1163 (.ref 691),dE P "punctuation_chars" 1171 (.ref 699),dE P "push_token" 1179 (.ref 706),dE P "push_source" 1188 (.ref 714),dE P "pop_source" 1195 (.ref 721),dE P "get_token" 1207 (.ref 728),dE P "read_token" 1218 (.ref 735),dE P "sourcehook" 1226 (.ref 742),dE P "error_leader" 1235 (.ref 750),dE P "__iter__" 1242 (.ref 757),dE P "__next__" 1250 (.ref 764),dE P "__static_attributes__" 1271 (.ref 765),dE P "__dict__" 1273 (.ref 768),dE P "__weakref__" 1275 (.ref 769),dE P "__doc__" 1276 .none] 4
noncomputable def Jx(P:zp):xK:={cls:=.type "type",dict:=none,data:=.cls {name:=(za "shlex"),bases:=[.type "object"],mro:=[.ref 767,.type "object"],ns:=766,qualname:=(za "shlex"),hasDict:=true,slotNames:=[],subclasses:=[],abstract:=false,collection:=none,hasDel:=false},slots:=#[none,none,(some (vS "shlex" 1140)),(some (vS "shlex" 1148)),(some (.builtin "object.__new__")),(some (.bool true))]}
noncomputable def Jq(P:zp):xK:=oD #[dE P "__module__" 1333 (vS "cpy313.trace" 1324),dE P "__firstlineno__" 1337 (.int (825) 1336),dE P "__init__" 1343 (.ref 816),dE P "names" 1354 (.ref 823),dE P "__static_attributes__" 1358 (.ref 824),dE P "__dict__" 1360 (.ref 827),dE P "__weakref__" 1362 (.ref 828),dE P "__doc__" 1363 .none] 4
noncomputable def Jp(P:zp):xK:={cls:=.type "type",dict:=none,data:=.cls {name:=(za "_Ignore"),bases:=[.type "object"],mro:=[.ref 826,.type "object"],ns:=825,qualname:=(za "_Ignore"),hasDict:=true,slotNames:=[],subclasses:=[],abstract:=false,collection:=none,hasDel:=false},slots:=#[none,none,(some (vS "_Ignore" 1326)),(some (vS "_Ignore" 1334)),(some (.builtin "object.__new__")),(some (.bool true))]}
noncomputable def JI(P:zp):xK:=oF "re.Pattern" #[(vS "[^\\w@%+=:,./-]" 332),.int (256) 369,.int (0) 0,.none,.none,.ref 48,.int (0) 0]
noncomputable def C7(P:zp):xK:=oF "builtin_function_or_method" #[.builtin "re.Pattern.search",.ref 49]
noncomputable def C0(P:zp):xK:={cls:=.type "object",dict:=none,data:=.plain,slots:=#[]}
noncomputable def AP(P:zp):xK:=V7 "_index" "_index" (zm pw.main.body 6) .none (vS "io" 371) (.ref 62)
noncomputable def MM(P:zp):xK:=oF "code" #[(vS "_index" 381),(vS "_index" 382),(vS "/claim/cut.py" 383),.int (13) 0,.int (2) 0,.int (0) 0,.int (0) 0,.int (3) 0,.ref 57,.bool true,.int (318) 0,.ref 58,.none,.ref 59,.ref 60,.ref 61,.int (386) 0,.int (13) 0,(vS "/claim/cut.py" 387)]
noncomputable def bx(P:zp):xK:=V7 "__new__" "IOBase.__new__" (zm (x6 (zm pw.main.body 8)) 1) .none (vS "io" 371) (.ref 89)
noncomputable def ML(P:zp):xK:=oF "code" #[(vS "__new__" 425),(vS "IOBase.__new__" 426),(vS "/claim/cut.py" 427),.int (25) 0,.int (1) 0,.int (1) 0,.int (0) 0,.int (15) 0,.ref 84,.bool true,.int (318) 0,.ref 85,.none,.ref 86,.ref 87,.ref 88,.int (431) 0,.int (25) 0,(vS "/claim/cut.py" 432)]
noncomputable def MI(P:zp):xK:=oF "staticmethod" #[.ref 90]
noncomputable def i3(P:zp):xK:=V7 "__init__" "StringIO.__init__" (zm (x6 (zm pw.main.body 12)) 1) (.ref 360) (vS "io" 371) (.ref 366)
noncomputable def JL(P:zp):xK:=oF "code" #[(vS "__init__" 757),(vS "StringIO.__init__" 758),(vS "/claim/cut.py" 759),.int (206) 0,.int (3) 0,.int (0) 0,.int (0) 0,.int (3) 0,.ref 361,.bool true,.int (318) 0,.ref 362,.none,.ref 363,.ref 364,.ref 365,.int (763) 0,.int (206) 0,(vS "/claim/cut.py" 764)]
noncomputable def Db(P:zp):xK:={cls:=.type "tuple",dict:=none,data:=.seq #[(vS "" 755),(vS "\n" 756)] 0,slots:=#[]}
noncomputable def iZ(P:zp):xK:=V7 "__translated" "StringIO.__translated" (zm (x6 (zm pw.main.body 12)) 2) .none (vS "io" 371) (.ref 373)
noncomputable def JK(P:zp):xK:=oF "code" #[(vS "__translated" 766),(vS "StringIO.__translated" 767),(vS "/claim/cut.py" 768),.int (219) 0,.int (2) 0,.int (0) 0,.int (0) 0,.int (3) 0,.ref 368,.bool true,.int (318) 0,.ref 369,.none,.ref 370,.ref 371,.ref 372,.int (772) 0,.int (219) 0,(vS "/claim/cut.py" 773)]
noncomputable def iY(P:zp):xK:=V7 "__check" "StringIO.__check" (zm (x6 (zm pw.main.body 12)) 3) .none (vS "io" 371) (.ref 380)
noncomputable def JJ(P:zp):xK:=oF "code" #[(vS "__check" 775),(vS "StringIO.__check" 776),(vS "/claim/cut.py" 777),.int (227) 0,.int (1) 0,.int (0) 0,.int (0) 0,.int (3) 0,.ref 375,.bool true,.int (318) 0,.ref 376,.none,.ref 377,.ref 378,.ref 379,.int (779) 0,.int (227) 0,(vS "/claim/cut.py" 780)]
noncomputable def iX(P:zp):xK:=V7 "read" "StringIO.read" (zm (x6 (zm pw.main.body 12)) 25) (.ref 536) (vS "io" 371) (.ref 542)
noncomputable def JH(P:zp):xK:=oF "code" #[(vS "read" 949),(vS "StringIO.read" 950),(vS "/claim/cut.py" 951),.int (349) 0,.int (2) 0,.int (2) 0,.int (0) 0,.int (3) 0,.ref 537,.bool true,.int (318) 0,.ref 538,.none,.ref 539,.ref 540,.ref 541,.int (956) 0,.int (349) 0,(vS "/claim/cut.py" 957)]
noncomputable def Da(P:zp):xK:={cls:=.type "tuple",dict:=none,data:=.seq #[.int (-1) 948] 0,slots:=#[]}
noncomputable def WP(P:zp):xK:=V7 "__init__" "shlex.__init__" (zm (x6 (zm pw.main.body 26)) 0) (.ref 684) (vS "cpy313.shlex" 1138) (.ref 690)
noncomputable def JF(P:zp):xK:=oF "code" #[(vS "__init__" 1152),(vS "shlex.__init__" 1153),(vS "/claim/cut.py" 1154),.int (519) 0,.int (5) 0,.int (0) 0,.int (0) 0,.int (3) 0,.ref 685,.bool true,.int (318) 0,.ref 686,.none,.ref 687,.ref 688,.ref 689,.int (1161) 0,.int (519) 0,(vS "/claim/cut.py" 1162)]
noncomputable def C9(P:zp):xK:={cls:=.type "tuple",dict:=none,data:=.seq #[.none,.none,.bool false,.bool false] 0,slots:=#[]}
noncomputable def iW(P:zp):xK:=V7 "punctuation_chars" "shlex.punctuation_chars" (zm (x6 (zm pw.main.body 26)) 1) .none (vS "cpy313.shlex" 1138) (.ref 697)
noncomputable def JE(P:zp):xK:=oF "code" #[(vS "punctuation_chars" 1164),(vS "shlex.punctuation_chars" 1165),(vS "/claim/cut.py" 1166),.int (560) 0,.int (1) 0,.int (0) 0,.int (0) 0,.int (3) 0,.ref 692,.bool true,.int (318) 0,.ref 693,.none,.ref 694,.ref 695,.ref 696,.int (1168) 0,.int (560) 0,(vS "/claim/cut.py" 1169)]
noncomputable def JD(P:zp):xK:=oF "property" #[.ref 698,.none,.none,.none,(vS "punctuation_chars" 1171),.bool false]
noncomputable def iV(P:zp):xK:=V7 "get_token" "shlex.get_token" (zm (x6 (zm pw.main.body 26)) 5) .none (vS "cpy313.shlex" 1138) (.ref 727)
noncomputable def JC(P:zp):xK:=oF "code" #[(vS "get_token" 1196),(vS "shlex.get_token" 1197),(vS "/claim/cut.py" 1198),.int (587) 0,.int (1) 0,.int (0) 0,.int (0) 0,.int (3) 0,.ref 722,.bool true,.int (318) 0,.ref 723,.none,.ref 724,.ref 725,.ref 726,.int (1205) 0,.int (587) 0,(vS "/claim/cut.py" 1206)]
noncomputable def dJ(P:zp):xK:=V7 "read_token" "shlex.read_token" (zm (x6 (zm pw.main.body 26)) 6) .none (vS "cpy313.shlex" 1138) (.ref 734)
noncomputable def JB(P:zp):xK:=oF "code" #[(vS "read_token" 1208),(vS "shlex.read_token" 1209),(vS "/claim/cut.py" 1210),.int (614) 0,.int (1) 0,.int (0) 0,.int (0) 0,.int (3) 0,.ref 729,.bool true,.int (318) 0,.ref 730,.none,.ref 731,.ref 732,.ref 733,.int (1216) 0,.int (614) 0,(vS "/claim/cut.py" 1217)]
noncomputable def iU(P:zp):xK:=V7 "__iter__" "shlex.__iter__" (zm (x6 (zm pw.main.body 26)) 9) .none (vS "cpy313.shlex" 1138) (.ref 756)
noncomputable def JA(P:zp):xK:=oF "code" #[(vS "__iter__" 1236),(vS "shlex.__iter__" 1237),(vS "/claim/cut.py" 1238),.int (761) 0,.int (1) 0,.int (0) 0,.int (0) 0,.int (3) 0,.ref 751,.bool true,.int (318) 0,.ref 752,.none,.ref 753,.ref 754,.ref 755,.int (1240) 0,.int (761) 0,(vS "/claim/cut.py" 1241)]
noncomputable def VY(P:zp):xK:=V7 "__next__" "shlex.__next__" (zm (x6 (zm pw.main.body 26)) 10) .none (vS "cpy313.shlex" 1138) (.ref 763)
noncomputable def Jz(P:zp):xK:=oF "code" #[(vS "__next__" 1243),(vS "shlex.__next__" 1244),(vS "/claim/cut.py" 1245),.int (764) 0,.int (1) 0,.int (0) 0,.int (0) 0,.int (3) 0,.ref 758,.bool true,.int (318) 0,.ref 759,.none,.ref 760,.ref 761,.ref 762,.int (1248) 0,.int (764) 0,(vS "/claim/cut.py" 1249)]
noncomputable def WO(P:zp):xK:=V7 "split" "split" (zm pw.main.body 27) (.ref 772) (vS "cpy313.shlex" 1138) (.ref 778)
noncomputable def Jw(P:zp):xK:=oF "code" #[(vS "split" 1279),(vS "split" 1280),(vS "/claim/cut.py" 1281),.int (769) 0,.int (3) 0,.int (0) 0,.int (0) 0,.int (3) 0,.ref 773,.bool true,.int (318) 0,.ref 774,.none,.ref 775,.ref 776,.ref 777,.int (1286) 0,.int (769) 0,(vS "/claim/cut.py" 1287)]
noncomputable def C8(P:zp):xK:={cls:=.type "tuple",dict:=none,data:=.seq #[.bool false,.bool true] 0,slots:=#[]}
noncomputable def iT(P:zp):xK:=V7 "quote" "quote" (zm pw.main.body 29) .none (vS "cpy313.shlex" 1138) (.ref 786)
noncomputable def Jv(P:zp):xK:=oF "code" #[(vS "quote" 1291),(vS "quote" 1292),(vS "/claim/cut.py" 1293),.int (778) 0,.int (1) 0,.int (0) 0,.int (0) 0,.int (3) 0,.ref 781,.bool true,.int (318) 0,.ref 782,.none,.ref 783,.ref 784,.ref 785,.int (1295) 0,.int (778) 0,(vS "/claim/cut.py" 1296)]
noncomputable def Zf(P:zp):xK:=V7 "cmp_to_key" "cmp_to_key" (zm pw.main.body 31) .none (vS "cpy313.functools" 1298) (.ref 793)
noncomputable def C5(P:zp):xK:=oF "code" #[(vS "cmp_to_key" 1300),(vS "cmp_to_key" 1301),(vS "/claim/cut.py" 1302),.int (785) 0,.int (1) 0,.int (0) 0,.int (0) 0,.int (3) 0,.ref 788,.bool true,.int (318) 0,.ref 789,.none,.ref 790,.ref 791,.ref 792,.int (1306) 0,.int (785) 0,(vS "/claim/cut.py" 1307)]
noncomputable def iS(P:zp):xK:=V7 "reduce" "reduce" (zm pw.main.body 33) (.ref 796) (vS "cpy313.functools" 1298) (.ref 802)
noncomputable def Jt(P:zp):xK:=oF "code" #[(vS "reduce" 1310),(vS "reduce" 1311),(vS "/claim/cut.py" 1312),.int (811) 0,.int (3) 0,.int (0) 0,.int (0) 0,.int (3) 0,.ref 797,.bool true,.int (318) 0,.ref 798,.none,.ref 799,.ref 800,.ref 801,.int (1319) 0,.int (811) 0,(vS "/claim/cut.py" 1320)]
noncomputable def CZ(P:zp):xK:={cls:=.type "tuple",dict:=none,data:=.seq #[.ref 795] 0,slots:=#[]}
noncomputable def WN(P:zp):xK:=V7 "__init__" "_Ignore.__init__" (zm (x6 (zm pw.main.body 36)) 0) (.ref 811) (vS "cpy313.trace" 1324) (.ref 815)
noncomputable def Js(P:zp):xK:=oF "code" #[(vS "__init__" 1338),(vS "_Ignore.__init__" 1339),(vS "/claim/cut.py" 1340),.int (827) 0,.int (3) 0,.int (0) 0,.int (0) 0,.int (3) 0,.ref 812,.bool true,.int (318) 0,.ref 813,.none,.none,.none,.ref 814,.int (1341) 0,.int (827) 0,(vS "/claim/cut.py" 1342)]
noncomputable def oT(P:zp):xK:={cls:=.type "tuple",dict:=none,data:=.seq #[.none,.none] 0,slots:=#[]}
noncomputable def iR(P:zp):xK:=V7 "names" "_Ignore.names" (zm (x6 (zm pw.main.body 36)) 1) .none (vS "cpy313.trace" 1324) (.ref 822)
noncomputable def Jr(P:zp):xK:=oF "code" #[(vS "names" 1344),(vS "_Ignore.names" 1345),(vS "/claim/cut.py" 1346),.int (832) 0,.int (3) 0,.int (0) 0,.int (0) 0,.int (3) 0,.ref 817,.bool true,.int (318) 0,.ref 818,.none,.ref 819,.ref 820,.ref 821,.int (1352) 0,.int (832) 0,(vS "/claim/cut.py" 1353)]
noncomputable def QT(P:zp):xK:=V7 "_law_name" "_law_name" (zm pw.main.body 38) .none (vS "law_aa0006_01" 1366) (.ref 834)
noncomputable def Jo(P:zp):xK:=oF "code" #[(vS "_law_name" 1368),(vS "_law_name" 1369),(vS "/claim/cut.py" 1370),.int (852) 0,.int (1) 0,.int (0) 0,.int (0) 0,.int (3) 0,.ref 831,.bool true,.int (318) 0,.ref 832,.none,.none,.none,.ref 833,.int (1371) 0,.int (852) 0,(vS "/claim/cut.py" 1372)]
noncomputable def iQ(P:zp):xK:=V7 "_law_names" "_law_names" (zm pw.main.body 39) .none (vS "law_aa0006_01" 1366) (.ref 841)
noncomputable def Jn(P:zp):xK:=oF "code" #[(vS "_law_names" 1374),(vS "_law_names" 1375),(vS "/claim/cut.py" 1376),.int (854) 0,.int (1) 0,.int (0) 0,.int (0) 0,.int (3) 0,.ref 836,.bool true,.int (318) 0,.ref 837,.none,.ref 838,.ref 839,.ref 840,.int (1378) 0,.int (854) 0,(vS "/claim/cut.py" 1379)]
noncomputable def iP(P:zp):xK:=V7 "_law_words" "_law_words" (zm pw.main.body 40) .none (vS "law_aa0006_01" 1366) (.ref 848)
noncomputable def Jm(P:zp):xK:=oF "code" #[(vS "_law_words" 1381),(vS "_law_words" 1382),(vS "/claim/cut.py" 1383),.int (856) 0,.int (1) 0,.int (0) 0,.int (0) 0,.int (3) 0,.ref 843,.bool true,.int (318) 0,.ref 844,.none,.ref 845,.ref 846,.ref 847,.int (1386) 0,.int (856) 0,(vS "/claim/cut.py" 1387)]
noncomputable def iN(P:zp):xK:=V7 "_law_spelled" "_law_spelled" (zm pw.main.body 41) .none (vS "law_aa0006_01" 1366) (.ref 853)
noncomputable def Jl(P:zp):xK:=oF "code" #[(vS "_law_spelled" 1389),(vS "_law_spelled" 1390),(vS "/claim/cut.py" 1391),.int (859) 0,.int (1) 0,.int (0) 0,.int (0) 0,.int (3) 0,.ref 850,.bool true,.int (318) 0,.ref 851,.none,.none,.none,.ref 852,.int (1392) 0,.int (859) 0,(vS "/claim/cut.py" 1393)]
noncomputable def iM(P:zp):xK:=V7 "_law_step" "_law_step" (zm pw.main.body 42) .none (vS "law_aa0006_01" 1366) (.ref 858)
noncomputable def Jk(P:zp):xK:=oF "code" #[(vS "_law_step" 1395),(vS "_law_step" 1396),(vS "/claim/cut.py" 1397),.int (862) 0,.int (2) 0,.int (0) 0,.int (0) 0,.int (3) 0,.ref 855,.bool true,.int (318) 0,.ref 856,.none,.none,.none,.ref 857,.int (1398) 0,.int (862) 0,(vS "/claim/cut.py" 1399)]
noncomputable def iL(P:zp):xK:=V7 "_law_due" "_law_due" (zm pw.main.body 43) .none (vS "law_aa0006_01" 1366) (.ref 863)
noncomputable def Jj(P:zp):xK:=oF "code" #[(vS "_law_due" 1401),(vS "_law_due" 1402),(vS "/claim/cut.py" 1403),.int (868) 0,.int (2) 0,.int (0) 0,.int (0) 0,.int (3) 0,.ref 860,.bool true,.int (318) 0,.ref 861,.none,.none,.none,.ref 862,.int (1404) 0,.int (868) 0,(vS "/claim/cut.py" 1405)]
noncomputable def VX(P:zp):xK:=V7 "law" "law" (zm pw.main.body 44) .none (vS "law_aa0006_01" 1366) (.ref 868)
noncomputable def oR(P:zp):xK:=oF "code" #[(vS "law" 1407),(vS "law" 1408),(vS "/claim/cut.py" 1409),.int (871) 0,.int (1) 0,.int (0) 0,.int (0) 0,.int (3) 0,.ref 865,.bool true,.int (318) 0,.ref 866,.none,.none,.none,.ref 867,.int (1410) 0,.int (871) 0,(vS "/claim/cut.py" 1411)]
noncomputable def Dc(P:zp):xK:={cls:=.type "type",dict:=none,data:=.cls {name:=(za "BytesIO"),bases:=[.ref 108],mro:=[.ref 350,.ref 108,.ref 93,.type "object"],ns:=349,qualname:=(za "BytesIO"),hasDict:=true,slotNames:=[],subclasses:=[],abstract:=false,collection:=none,hasDel:=false},slots:=#[(some (.ref 123)),none,(some (vS "BytesIO" 479)),(some (vS "BytesIO" 487)),(some (.none)),(some (.bool true))]}
noncomputable def MN(P:zp):xK:={cls:=.type "tuple",dict:=none,data:=.seq #[.int (14) 0,.int (17) 0,.int (4) 0,.int (1) 0,.int (1) 0,.int (21) 0,.int (9) 0,.int (0) 0,.int (604043296) 0,.int (1) 0,.int (0) 0,.int (0) 0,.int (0) 0,.int (0) 0,.int (0) 0,.int (8) 0,.int (4) 0,.int (0) 0,.int (13) 0,.int (14) 0,.int (21) 0,.int (9) 0,.int (0) 0,.int (604043296) 0,.int (1) 0,.int (0) 0,.int (0) 0,.int (0) 0,.int (0) 0,.int (0) 0,.int (8) 0,.int (4) 0,.int (0) 0,.int (1) 0] 0,slots:=#[]}
noncomputable def MO(P:zp):xK:=oD #[dE P "builtins" 162 (.ref 4),dE P "__main__" 163 (.ref 5),dE P "_sre" 244 (.ref 12),dE P "_collections" 292 (.ref 30)] 4
noncomputable def Nu(P:zp):xK:={cls:=.type "module",dict:=(some (0)),data:=.plain,slots:=#[]}
noncomputable def KF(P:zp):uQ:=[(0,Fe P),(3,rC P),(92,MK P),(93,MJ P),(119,JN P),(120,JM P),(596,JG P),(597,oW P),(766,Jy P),(767,Jx P),(825,Jq P),(826,Jp P),(49,JI P),(780,C7 P),(795,C0 P),(350,Dc P),(48,MN P),(63,AP P),(62,MM P),(90,bx P),(89,ML P),(94,MI P),(367,i3 P),(366,JL P),(360,Db P),(374,iZ P),(373,JK P),(381,iY P),(380,JJ P),(543,iX P),(542,JH P),(536,Da P),(691,WP P),(690,JF P),(684,C9 P),(698,iW P),(697,JE P),(699,JD P),(728,iV P),(727,JC P),(735,dJ P),(734,JB P),(757,iU P),(756,JA P),(764,VY P),(763,Jz P),(779,WO P),(778,Jw P),(772,C8 P),(787,iT P),(786,Jv P),(794,Zf P),(793,C5 P),(803,iS P),(802,Jt P),(796,CZ P),(816,WN P),(815,Js P),(811,oT P),(823,iR P),(822,Jr P),(835,QT P),(834,Jo P),(842,iQ P),(841,Jn P),(849,iP P),(848,Jm P),(854,iN P),(853,Jl P),(859,iM P),(858,Jk P),(864,iL P),(863,Jj P),(869,VX P),(868,oR P),(1,MO P),(4,Nu P)]
noncomputable def KA:List zI:=[0,3,92,93,119,120,596,597,766,767,825,826,49,780,795,350,48,63,62,90,89,94,367,366,360,374,373,381,380,543,542,536,691,690,684,698,697,699,728,727,735,734,757,756,764,763,779,778,772,787,786,794,793,803,802,796,816,815,811,823,822,835,834,842,841,849,848,854,853,859,858,864,863,869,868,1,4]
end
section
noncomputable def kc(n:Str):List Str→Bool
 |[]=>false
 |m::r=>bif zZ n m then true else kc n r
theorem Te:∀{l:List Str},kc n l=true→n∈l:=by
 intro l0
 induction l0 with
 |nil =>
  intro h
  exact fT h
 |cons m r ih =>
  intro h
  unfold kc at h
  cases e:zZ n m with
  |true=>rw[yk]at e;refine zc e ?_;exact .head _
  |false=>rw[e]at h;exact .tail _ ((ih h))
noncomputable def Li:List Str:=[za "instream",za "infile",za "posix",za "eof",za "commenters",za "wordchars",za "whitespace",za "whitespace_split",za "quotes",za "escape",za "escapedquotes",za "state",za "pushback",za "lineno",za "debug",za "token",za "filestack",za "source",za "_punctuation_chars"]
noncomputable def Lj:List Str:=[za "_StringIO__newline",za "_StringIO__buf",za "_StringIO__pos"]
noncomputable def Lh:List Str:=[za "_mods",za "_dirs",za "_ignore"]
theorem Gf(h:(bif c then x else y)=z):(c=true∧x=z)∨y=z:=by
 cases c with
 |true=>exact .inl ⟨rfl,h⟩
 |false=>exact .inr h
theorem VJ{α:Type}{P:Nat→Prop}{C N:Nat}{x y z:α}(h:(bif wm C N then x else y)=z)(h1:x=z→P N)(h2:y=z→P C):P C:=by
 rcases Gf h with⟨e,h⟩|h
 ·exact xq e▸h1 h
 ·exact h2 h
noncomputable def DT(C:zI)(n:Str):Bool:=bif wm C 767 then kc n Li else bif wm C 597 then kc n Lj else bif wm C 826 then kc n Lh else false
theorem Lp(P:zp):Li.all (xA (KF P) 767)=true:=⋯
theorem Lq(P:zp):Lj.all (xA (KF P) 597)=true:=⋯
theorem Ln(P:zp):Lh.all (xA (KF P) 826)=true:=⋯
theorem TI(P:zp)(C:zI)(n:Str)(h:DT C n=true):xA (KF P) C n=true:=by
 exact VJ (P:=fun C=>xA (KF P) C n=true) h (fun h=>zJ.mp (Lp P) _ (Te h)) fun h=>VJ (P:=fun C=>xA (KF P) C n=true) h (fun h=>zJ.mp (Lq P) _ (Te h)) fun h=>VJ (P:=fun C=>xA (KF P) C n=true) h (fun h=>zJ.mp (Ln P) _ (Te h)) fun h=>by exact fT h
noncomputable def Lf:List (Str×Addr):=[(za "get_token",728),(za "read_token",735)]
noncomputable def Lg:List (Str×Addr):=[(za "_StringIO__translated",374),(za "_StringIO__check",381),(za "read",543)]
noncomputable def Le:List (Str×Addr):=[(za "names",823)]
noncomputable def DM(C:zI)(n:Str):Option zI:=bif wm C 767 then lk n Lf else bif wm C 597 then lk n Lg else bif wm C 826 then lk n Le else none
theorem oy{α β:Type}(f:Str→α→Bool){n:Str}{a:α}:∀{l:List (Str×α)},lk n l=some a→l.all (fun p=>f p.1 p.2)=true→f n a=true:=by
 intro l0
 induction l0 with
 |nil =>
  intro h _
  exact nS h
 |cons p r ih =>
  intro h e
  rw[List.all_cons,zk]at e
  rw[wQ]at h
  cases q:zZ n p.1 with
  |true=>rw[q]at h;rw[yk]at q;(replace h:=zf h;subst h);refine zc q ?_;exact e.1
  |false=>rw[q]at h;exact(ih h e.2)
theorem Lv(P:zp):Lf.all (fun p=>wJ (KF P) 767 p.1==some p.2)=true:=⋯
theorem Lw(P:zp):Lg.all (fun p=>wJ (KF P) 597 p.1==some p.2)=true:=⋯
theorem Lu(P:zp):Le.all (fun p=>wJ (KF P) 826 p.1==some p.2)=true:=⋯
theorem Ls(P:zp)(C:zI)(n:Str)(f:zI)(h:DM C n=some f):wJ (KF P) C n=some f:=by
 have k:∀{C l},lk n l=some f→l.all (fun p=>wJ (KF P) C p.1==some p.2)=true→wJ (KF P) C n=some f:=fun{C l} h e=>beq_iff_eq.mp (oy (β:=Unit) (fun n f=>wJ (KF P) C n==some f) h e)
 exact VJ (P:=fun C=>wJ (KF P) C n=some f) h (fun h=>k h (Lv P)) fun h=>VJ (P:=fun C=>wJ (KF P) C n=some f) h (fun h=>k h (Lw P)) fun h=>VJ (P:=fun C=>wJ (KF P) C n=some f) h (fun h=>k h (Lu P)) fun h=>by exact nS h
noncomputable def DS:List (Str×String):=[(za "join", "str.join"),(za "split", "str.split"),(za "strip", "str.strip"),(za "replace", "str.replace"),(za "startswith", "str.startswith")]
theorem ow{α:Type}{n:Str}{a:α}{P:Str→α→Prop}:∀{l:List (Str×α)},(∀p∈l,P p.1 p.2)→lk n l=some a→P n a:=by
 intro l0
 induction l0 with
 |nil =>
  intro _ h
  exact nS h
 |cons p r ih =>
  intro e h
  rw[wQ]at h
  cases q:zZ n p.1 with
  |true=>rw[q]at h;rw[yk]at q;(replace h:=zf h;subst h);refine zc q ?_;exact e p (.head _)
  |false=>rw[q]at h;exact(ih (fun p hp=>e p (.tail _ hp)) h)
theorem Lr(n:Str)(id:String)(h:lk n DS=some id):Slot "str" n id∧Zo (.builtin id)=pure (.type "method_descriptor"):=by
 refine ow (P:=fun n id=>Slot "str" n id∧Zo (.builtin id)=pure (.type "method_descriptor")) (fun p hp=>?_) h
 unfold DS at hp
 simp only[zn,yV,or_false]at hp
 rcases hp with rfl|rfl|rfl|rfl|rfl
 ·exact⟨F.slot_str_join,F.type_str_join⟩
 ·exact⟨F.slot_str_split,F.type_str_split⟩
 ·exact⟨F.slot_str_strip,F.type_str_strip⟩
 ·exact⟨F.slot_str_replace,F.type_str_replace⟩
 ·exact⟨F.slot_str_startswith,F.type_str_startswith⟩
noncomputable def Wh(o:xK):List yE:=match o.data with
 |.dict es _=>es.toList
 |_=>[]
noncomputable def b9:List yE→Str→Option zi
 |[],_=>none
 |e::r,n=>(cI e.key).elim (b9 r n) fun p=>bif zZ n p.1 then some e.val else b9 r n
noncomputable def LE(a b:zi):Bool:=match a with
 |.ref i=>(match b with
  |.ref j=>wm i j
  |_=>false)
 |.builtin i=>(match b with
  |.builtin j=>decide (i=j)
  |_=>false)
 |.type i=>(match b with
  |.type j=>decide (i=j)
  |_=>false)
 |_=>false
theorem fm(h:LE a b=true):a=b:=by
 cases a with
 |ref i=>cases b with
  |ref j=>exact congrArg _ (xq h)
  |_=>exact fT h
 |builtin i=>cases b with
  |builtin j=>exact congrArg _ (of_decide_eq_true h)
  |_=>exact fT h
 |type i=>cases b with
  |type j=>exact congrArg _ (of_decide_eq_true h)
  |_=>exact fT h
 |_=>exact fT h
noncomputable def GL:List (Str×Value):=[(za "_index",.ref 63),(za "StringIO",.ref 597),(za "BytesIO",.ref 350),(za "shlex",.ref 767),(za "split",.ref 779),(za "_find_unsafe",.ref 780),(za "quote",.ref 787),(za "cmp_to_key",.ref 794),(za "_initial_missing",.ref 795),(za "reduce",.ref 803),(za "_Ignore",.ref 826),
 (za "_law_name",.ref 835),(za "_law_names",.ref 842),(za "_law_words",.ref 849),(za "_law_spelled",.ref 854),(za "_law_step",.ref 859),(za "_law_due",.ref 864),(za "deque",.type "collections.deque"),
 (za "len",.builtin "len"),(za "type",.type "type"),(za "int",.type "int"),(za "bool",.type "bool"),(za "str",.type "str"),(za "isinstance",.builtin "isinstance"),(za "range",.type "range"),(za "set",.type "set"),(za "iter",.builtin "iter"),(za "list",.type "list"),(za "sum",.builtin "sum"),(za "sorted",.builtin "sorted"),(za "object",.type "object"),(za "StopIteration",.type "StopIteration")]
noncomputable def JW(P:zp)(n:Str)(v:zi):Bool:=(b9 (Wh (rC P)) n).elim ((b9 (Wh (Fe P)) n).elim false fun u=>LE u v) fun u=>LE u v
theorem JX(P:zp):GL.all (fun p=>JW P p.1 p.2)=true:=⋯
theorem dn(n:Str):∀es:List yE,(es.find? fun e=>e.key.isStr n).map (·.val)=b9 es n:=by
 intro l0
 induction l0 with
 |nil =>
  exact rfl
 |cons e r ih =>
  show _=(cI e.key).elim (b9 r n) fun p=>bif zZ n p.1 then some e.val else b9 r n
  refine zc XG (xv (ih) ?_)
  obtain⟨h,key,v⟩:=e
  cases key with
  |str s t =>
   show _=bif zZ n s then some v else _
   refine zc Xl ?_
   cases q:zZ n s with
   |true=>rw[yk]at q;refine zc q ?_;simp
   |false =>
    have hne:¬s=n:=fun z=>uj q z.symm
    refine zc (decide_eq_false hne) ?_;rfl
  |_=>rfl
theorem j0(es:Array yE)(n:Str):nsFind es n=b9 es.toList n:=by
 unfold nsFind eT
 exact xv (dn ..) (xv Array.find?_toList rfl)
theorem nZ{h:xO}{a:zI}{o:xK}{es:Array yE}{q:Nat}(e:h.get? a=some o)(hd:o.data=.dict es q)(hk:es.toList.all (fun e=>(cI e.key).isSome)=true):h.Ns a (b9 (Wh o)):=by
 refine⟨o,es,q,e,hd,fun en he=>?_,fun n=>?_⟩
 ·have:=zJ.mp hk en (lF.mpr he)
  exact yf (Option.isSome_iff_exists.mp this) fun p q=>⟨_,_,hZ q⟩
 ·refine zc (j0 ..) ?_;unfold Wh;exact zc hd rfl
end
section
structure Base(n:Nat)(x:Cx):Prop where
 K:(KF x.w.params).In x.B
 room:Room n x.A
 link:∃envs,x.A.frames=some envs∧envs.map (·.frame)=x.fs.map some∧∀e∈envs,e.scope.kind≠.module
theorem Base.mono(B:Base n x)(h:n≤m):Base m x:=⟨B.K,B.room.mono h,B.link⟩
theorem Base.in1(B:Base n x):Base (n+1) (x.wA x.A.in1):=⟨B.K,B.room.in1,B.link⟩
theorem Base.deeper(B:Base n x)(hf:env.frame=some L)(hk:env.scope.kind≠.module):Base (n+1) (x.at' (x.A.deeper env) env oc more (L::x.fs)):=⟨B.K,B.room.deeper,by
 refine wO B.link fun envs e1 e2 e3=>⟨env::envs,by show x.A.frames.map (env::·)=_;refine zc e1 ?_;rfl,by show env.frame::_=_::_;refine zc hf ?_;exact congrArg _ e2,fun e he=>?_⟩
 rcases zn.mp he with rfl|he
 ·exact hk
 ·exact e3 e he⟩
theorem Base.same(B:Base n x):Base n (x.at' x.A env oc more):=⟨B.K,B.room,B.link⟩
theorem oY:(KF P).lookup 3=some (rC P):=⋯
theorem Fd:(KF P).lookup 0=some (Fe P):=⋯
theorem oX:(Wh (rC P)).all (fun e=>(cI e.key).isSome)=true:=⋯
theorem Fb:(Wh (Fe P)).all (fun e=>(cI e.key).isSome)=true:=⋯
theorem Base.mg(B:Base n x):x.B.Ns 3 (b9 (Wh (rC x.w.params))):=nZ (B.K _ _ oY) rfl oX
theorem Base.mb(B:Base n x):x.B.Ns 0 (b9 (Wh (Fe x.w.params))):=nZ (B.K _ _ Fd) rfl Fb
def uz(x:Cx)(F:zi→Option yG):Prop:=∀v S,F v=some S→y9 x v S
def Yp(x:Cx)(DP:zI→Str→Option yG):Prop:=∀C n S,DP C n=some S→rd x C n S
noncomputable def Ze(P:zp)(kinds:List (Str×NameKind))(wr:List Str)(F:zi→Option yG)(DP:zI→Str→Option yG):Stat:=⟨kinds,wr,GL,KF P,DT,F,DM,DP,DS⟩
theorem Yj(B:Base n x)(hk:x.env.scope.kind=.function)(hn:x.env.scope.names=kinds)(hd:((lk "__debug__" kinds).isNone&&(lk "__classdict__" kinds).isNone)=true)(hw:∀n,wr.contains n=true→∀c,x.env.cells.lookup n=some c→c∈x.oc)(hg:x.env.globals=3)(hb:x.env.builtins=0)(hF:uz x F)(hP:Yp x DP):
  Fits (Ze x.w.params kinds wr F DP) x where
 fn:=hk
 names:=hn
 nodbg:=by rw[zk,xg,xg]at hd;exact hd
 wr:=hw
 gl m v e:=by
  have g:JW x.w.params m v=true:=oy (β:=Unit) (JW x.w.params) e (JX x.w.params)
  refine zc hg (zc hb ?_)
  cases e1:b9 (Wh (rC x.w.params)) m with
  |some u=>unfold JW at g;rw[e1]at g;exact .inl ⟨_,B.mg,by exact zc e1 (zc (fm g) rfl)⟩
  |none =>
   unfold JW at g;rw[e1]at g
   cases e2:b9 (Wh (Fe x.w.params)) m with
   |some u=>rw[e2]at g;exact .inr ⟨_,_,B.mg,e1,B.mb,by exact zc e2 (zc (fm g) rfl)⟩
   |none=>rw[e2]at g;exact fT g
 K:=B.K
 T:=TI _
 F:=hF
 M:=Ls _
 P:=hP
 SM:=Lr
 quiet:=by unfold eY;refine zc hk ?_;rfl
noncomputable def FC:Data→Option (Array zi)
 |.fields vs=>some vs
 |_=>none
theorem Bf(h:FC d=some vs):d=.fields vs:=by cases d<;>cases h;rfl
noncomputable def gH(K:uQ)(cd:zi)(q:Str):Bool:=((XM cd).bind fun c=>(K.lookup c).bind fun o=>(FC o.data).bind fun vs=>vs.toList[1]?.bind cI).elim false fun p=>zZ p.1 q
theorem ud{K:uQ}{h:xO}(X:K.In h){cd:zi}{q:Str}(e:gH K cd q=true):h.CodeRec cd q:=by
 unfold gH at e
 cases e0:((XM cd).bind fun c=>(K.lookup c).bind fun o=>(FC o.data).bind fun vs=>vs.toList[1]?.bind cI)with
 |none=>rw[e0]at e;exact fT e
 |some p =>
  rw[e0]at e
  have e:zZ p.1 q=true:=e
  rw[yk]at e
  refine zt (zl.mp e0) fun c h1 g1=>zt (zl.mp g1) fun o h2 g2=>zt (zl.mp g2) fun vs h3 g3=>zt (zl.mp g3) fun v h4 g4=>⟨c,o,vs,p.2,Za h1,X _ _ h2,Bf h3,?_⟩
  exact xv XH (zc h4 (zc (hZ g4) (zc e rfl)))
structure FnIs(P:zp)(f:zI)(fd:ZK)(body:List yX):Prop where
 at_:∃fo,(KF P).lookup f=some fo∧fo.data=.func fd
 code:gH (KF P) fd.code fd.qualname=true
 body:fd.body=.stmts body
 co:fd.scope.isCoroutine=false
 gen:fd.scope.isGenerator=false
 kind:fd.scope.kind=.function
 gl:fd.globals=3
 bi:fd.builtins=0
 clos:fd.closure=[]
 names:(fd.scope.names.all (fun p=>lk p.1 fd.scope.names==some p.2)&&fd.scope.names.all (fun p=>p.2 != .free)&&(lk "__debug__" fd.scope.names).isNone&&(lk "__classdict__" fd.scope.names).isNone)=true
def V3(x:Cx)(fd:ZK)(avs:List AV)(kvs:List (Str×AV))(bavs:List (Str×AV)):Prop:=
 ∀s fr H vs kws,St x fr H s→ConL x.ρ s.heap avs vs→Zj x.ρ s.heap kvs kws→∃binds,Ve s fd ⟨vs,kws⟩ binds∧Zj x.ρ s.heap bavs binds
theorem Td{n:Nat}{x:Cx}(B:Base n x)(hn:n<990){f:zI}{fd:ZK}{body:List yX}(I:FnIs x.w.params f fd body){wr:List Str}{F:zi→Option yG}{DP:zI→Str→Option yG}(hwr:wr.all (fun m=>lk m fd.scope.names==some .cell)=true)(hF:∀x',Base (n+1) x'→x'.w=x.w→uz x' F)(hP:∀x',Base (n+1) x'→x'.w=x.w→Yp x' DP){S:yG}(hS:∀avs kvs H k,S avs kvs H k→∃bavs,V3 x fd avs kvs bavs∧bavs.all (fun p=>lk p.1 fd.scope.names==some .local||lk p.1 fd.scope.names==some .cell)=true ∧
   ∀x',Base (n+1) x'→Fits (Ze x.w.params fd.scope.names wr F DP) x'→x'.w=x.w→zQ x' (vI [] bavs) H (xN body x'.env) fun a U H'=>k (Wc a) H'):tW x (.ref f) S:=by
 intro fr H avs kvs k h s Z vs kws c1 c2 R g
 refine wO (hS avs kvs H k h) fun bavs hb hl hv=>zt (hb s fr H vs kws Z c1 c2) fun binds b1 b2=>zt I.at_ fun fo ho hd=>?_
 have XK:=B.K.keeps Z.base
 have nm:=I.names
 rw[zk,zk,zk]at nm
 refine zK nm fun z0 n4=>?_;obtain⟨⟨n1,n2⟩,n3⟩:=z0
 have cons:∀p∈fd.scope.names,fd.scope.names.lookup p.1=some p.2:=fun p hp=>by
  have:=zJ.mp n1 p hp
  rw[beq_iff_eq,vE]at this;exact this
 refine qU (x:=x) Z (args:=⟨vs,kws⟩) (XK _ _ ho) hd (ud XK I.code) I.body b1 b2 (by refine zc I.clos ?_;exact Capt.nil n2) cons (fun p hp=>?_) I.co I.gen I.kind (xj B.room.de (by show n<1000;exact zN 0x3de33523e83352 [n] hn rfl)) fun env oc s1 eo hf S1 C1 m1 m2=>?_
 ·have:=zJ.mp hl p hp
  rw[wj,beq_iff_eq,beq_iff_eq,vE]at this
  exact this
 ·have Bx:Base (n+1) (x.at' (x.A.deeper env) env oc [] (env.locals::x.fs)):=B.deeper hf (by refine zc eo.sc (zc I.kind ?_);decide)
  have Ft:Fits (Ze x.w.params fd.scope.names wr F DP) (x.at' (x.A.deeper env) env oc [] (env.locals::x.fs)):=Yj Bx (by show env.scope.kind=_;refine zc eo.sc ?_;exact I.kind) (by show env.scope.names=_;exact zc eo.sc rfl) (by refine zc n3 (zc n4 ?_);rfl)
   (fun m hm c hc=>by
    have hm:m∈wr:=by simpa using hm
    have:=zJ.mp hwr m hm
    rw[beq_iff_eq,vE]at this
    exact eo.own m c this hc) (by show env.globals=_;refine zc eo.gl ?_;exact I.gl) (by show env.builtins=_;refine zc eo.bi ?_;exact I.bi) (hF _ Bx rfl) (hP _ Bx rfl)
  refine hv _ Bx Ft rfl s1 S1 _ _ fun fl a fr' H' s' q cf S' K'=>?_
  have c2:Chg x s s':=Chg.of_kept C1 K' m1 m2
  exact g _ _ H' s' q (cW cf) (St.back Z S' c2) c2.kept
theorem bq(B:Base n x)(hn:n<990)(I:FnIs x.w.params f fd body)(hwr:wr.all (fun m=>lk m fd.scope.names==some .cell)=true)(hF:∀x',Base (n+1) x'→x'.w=x.w→uz x' F)(hP:∀x',Base (n+1) x'→x'.w=x.w→Yp x' DP)(hS:∀avs kvs H k,S avs kvs H k→∃bavs,V3 x fd avs kvs bavs∧bavs.all (fun p=>lk p.1 fd.scope.names==some .local||lk p.1 fd.scope.names==some .cell)=true ∧
   (ev (Ze x.w.params fd.scope.names wr F DP) fuel).s body (vI [] bavs) H fun a U H'=>k (Wc a) H'):tW x (.ref f) S:=
 Td B hn I hwr hF hP fun avs kvs H k h=>by
  exact wO (hS avs kvs H k h) fun bavs h1 h2 h3=>⟨bavs,h1,h2,fun x' U Ft U=>(yl Ft fuel).s body _ _ _ h3⟩
end
section
noncomputable def X9:List AV→Option (List Str)
 |[]=>some []
 |a::r=>(match a with
  |.str s=>(X9 r).map (s::·)
  |_=>none)
theorem fu:∀{l:List AV} {ss:List Str} {vs:List zi},X9 l=some ss→ConL ρ h l vs→∃ps:List (Str×Tok),vs=UI ps∧ps.map (·.1)=ss:=by
 intro l0
 induction l0 with
 |nil =>
  intro _ _ e c
  subst c;(replace e:=zf e;subst e);exact⟨[],rfl,rfl⟩
 |cons a l ih =>
  intro _ _ e c
  refine xk c fun v r z2 hv hr=>?_;clear c;subst z2
  cases a with
  |str s =>
   refine yf (xm hv) fun t z1=>?_;subst z1
   refine zt (yz.mp e) fun ss' e' z2=>?_;subst z2
   refine zt ((ih e' hr)) fun ps z1 h2=>?_;subst z1
   exact⟨(s,t)::ps,rfl,by exact zc zU (zc h2 rfl)⟩
  |_=>exact nS e
theorem eu:∀{ps:List (Str×Tok)},ConL ρ h ((ps.map (·.1)).map .str) (UI ps)
 |[]=>by rfl
 |(s,t)::ps=>by
  refine(?_:ConL ρ h (.str s::(ps.map (·.1)).map .str) (.str s t::UI ps))
  exact⟨_,_,rfl,vO s t,eu⟩
def eG(avs:List AV)(kvs:List (Str×AV))(f:AV→Prop):Prop:=match kvs with
 |[]=>bf avs f
 |_::_=>False
def gQ(avs:List AV)(kvs:List (Str×AV))(f:AV→AV→Prop):Prop:=match avs with
 |[]=>False
 |a::r=>eG r kvs (f a)
theorem ZZ(z:eG avs kvs f)(c1:ConL ρ h avs vs)(c2:Zj ρ h kvs kws):∃a v,vs=[v]∧kws=[]∧y2 ρ h a v∧f a:=by
 cases kvs with
 |cons _ _=>exact z.elim
 |nil =>
  refine zt (qF z) fun a z1 z=>?_;subst z1
  cases c2
  (refine xk c1 fun v r z2 cv cr=>?_;clear c1;subst z2);subst cr
  exact⟨a,v,rfl,rfl,cv,z⟩
theorem W3(z:gQ avs kvs f)(c1:ConL ρ h avs vs)(c2:Zj ρ h kvs kws):∃a v b u,vs=[v,u]∧kws=[]∧y2 ρ h a v∧y2 ρ h b u∧f a b:=by
 cases avs with
 |nil=>exact z.elim
 |cons a r =>
  (refine xk c1 fun v r z2 cv cr=>?_;clear c1;subst z2)
  refine x7 (ZZ z cr c2) fun b u z2 z3 cb z=>?_;subst z2;subst z3
  exact⟨a,v,b,u,rfl,rfl,cv,cb,z⟩
theorem B5(z:eG avs kvs f):∃a,avs=[a]∧kvs=[]∧f a:=by
 cases kvs with
 |cons _ _=>exact z.elim
 |nil=>refine zt (qF z) fun a e z=>?_;exact⟨a,e,rfl,z⟩
theorem B4(z:gQ avs kvs f):∃a b,avs=[a,b]∧kvs=[]∧f a b:=by
 cases avs with
 |nil=>exact z.elim
 |cons a r=>obtain⟨b,rfl,e,z⟩:=B5 z;exact⟨a,b,rfl,e,z⟩
def NN(a:AV)(f:String→Prop):Prop:=match a with
 |.int _=>f "int"
 |.str _=>f "str"
 |_=>False
def MG(a:AV)(f:Nat→Prop):Prop:=match a with
 |.str s=>yD (decide (s.length≤sizeLine)) (f s.length)
 |.list l=>yD (decide (l.length≤sizeLine)) (f l.length)
 |_=>False
def CM:yG:=fun avs kvs H k=>eG avs kvs fun a=>NN a fun t=>k (.glob (.type t)) H
def JU:yG:=fun avs kvs H k=>eG avs kvs fun a=>ZV a fun i=>k (.int i) H
def bw:yG:=fun avs kvs H k=>eG avs kvs fun a=>MG a fun n=>k (.int n) H
def JR:yG:=fun avs kvs H k=>gQ avs kvs fun a b=>Zc a fun U=>bh b fun v=>yD (LE v (.type "str")) (k (.bool true) H)
def Wd:yG:=fun avs kvs H k=>eG avs kvs fun a=>ZV a fun n=>k (.rng n) H
def YY:yG:=fun avs kvs H k=>gQ avs kvs fun a b=>Zc a fun x=>bg b fun l=>xW (X9 l) fun ss=>JoinOk x ss=true∧k (.str (wc x ss)) H
def ZD:yG:=fun avs kvs H k=>gQ avs kvs fun a b=>Zc a fun x=>Zc b fun y=>(x.length≤sizeLine∧(Zt x (vn x y 0 x.length (x.length+1)) y.length).length≤sizeLine)∧yD (!(y.length==0)) (k (.list ((yy x y).map .str)) H)
def mO:yG:=fun avs kvs H k=>eG avs kvs fun a=>Zc a fun x=>x.length≤sizeLine∧k (.str (qO x)) H
def Us:yG:=fun avs kvs H k=>gQ avs kvs fun a b=>Zc a fun x=>Zc b fun y=>k (.bool (vL x y)) H
noncomputable def I0(b:String):List (String×yG)→Option yG
 |[]=>none
 |p::r=>bif b==p.1 then some p.2 else I0 b r
inductive AllB(x:Cx)(f:String→zi):List (String×yG)→Prop
 |nil:AllB x f []
 |cons {b:String} {S:yG} {r:List (String×yG)}:y9 x (f b) S→AllB x f r→AllB x f ((b,S)::r)
theorem fU:∀{l:List (String×yG)},AllB x f l→I0 b l=some S→y9 x (f b) S
 |[],_,e=>by exact nS e
 |(n,T)::r,.cons a c,e=>by
  have e:(bif b==n then some T else I0 b r)=some S:=e
  cases h:b==n with
  |true=>rw[h]at e;(replace e:=zf e;subst e);refine zc (beq_iff_eq.mp h) ?_;exact a
  |false=>rw[h]at e;exact fU c e
noncomputable def FB:zi→Option yG:=fun v=>match v with
 |.type T=>I0 T [("type",CM),("int",JU),("range",Wd)]
 |.builtin b=>I0 b [("len",bw),("isinstance",JR),("str.join",YY),("str.split",ZD),("str.strip",mO),("str.startswith",Us)]
 |_=>none
section
open Builtin.Str
theorem fA(hy:(y.length==0)=false)(hq:∀l k,l.map (·.1)=yy x y→Q (.ref s.heap.objs.size) {s with heap:=s.heap.push {cls:=.type "list",data:=.seq (UI l).toArray},toks:=k})(hsz:x.length≤sizeLine)(hsz2:(partsBetween x (occurrences x y 0 x.length (x.length+1)) y.length).length≤sizeLine):
  zr (zu prog w) A (call (.builtin "str.split") [.str x t,.str y u]) Q E s:=by
 cases h1:(decide (x.length<y.length)||decide (strKind x<strKind y))
 ·cases hf:(occurrences x y 0 x.length (x.length+1)).isEmpty
  ·refine call_meets PySem.F.slot_str_split (Qt _ _ _) PySem.F.entry_str_split (PySem.F.args_str_split_2 _ _) (meets_str_split_sep x y t u h1 hy hf hsz hsz2) ?_
   show G1 Q E _ {s with toks:=_,heap:=s.heap.push {cls:=.type "list",data:=.seq (strsFrom s.toks (partsBetween x (occurrences x y 0 x.length (x.length+1)) y.length)).toArray}}
   exact zc (strsFrom_eq ..) (hq (numbered s.toks _) _ ((numbered_texts _ _).trans ((if_neg (ne_true_of_eq_false h1)).trans (if_neg (ne_true_of_eq_false hf))).symm))
  ·exact call_meets PySem.F.slot_str_split (Qt _ _ _) PySem.F.entry_str_split (PySem.F.args_str_split_2 _ _) (meets_str_split_not_found x y t u h1 hy hf)
    (hq [(x,t)] _ ((if_neg (ne_true_of_eq_false h1)).trans (if_pos hf)).symm)
 ·exact call_meets PySem.F.slot_str_split (Qt _ _ _) PySem.F.entry_str_split (PySem.F.args_str_split_2 _ _) (meets_str_split_cannot_occur x y t u h1)
   (hq [(x,t)] _ (if_pos h1).symm)
variable {x:Cx}
theorem sI:y9 x (.type "type") CM:=fun fr H avs kvs k h s S vs kws c1 c2 Q E g=>by
 refine x7 (ZZ h c1 c2) fun a v z2 z3 cv h=>?_;subst z2;subst z3
 cases a with
 |int i=>(refine yf (uo cv) fun t z1=>?_;subst z1);exact call_type_of (Tx := "int") rfl (by decide +kernel) (g _ _ H s h (Uz _) S (Kept.refl _ _))
 |str i=>(refine yf (xm cv) fun t z1=>?_;subst z1);exact call_type_of (Tx := "str") rfl (by decide +kernel) (g _ _ H s h (Uz _) S (Kept.refl _ _))
 |_=>exact h.elim
theorem Fj:y9 x (.type "int") JU:=fun fr H avs kvs k h s S vs kws c1 c2 Q E g=>by
 refine x7 (ZZ h c1 c2) fun a v z2 z3 cv h=>?_;subst z2;subst z3
 refine yW (ul h cv) fun i t z2 h=>?_;subst z2
 exact call_int_int (g _ _ H s h (Zd _ _) S (Kept.refl _ _))
theorem E8:y9 x (.builtin "len") bw:=fun fr H avs kvs k h s S vs kws c1 c2 Q E g=>by
 have hz:=VT
 refine x7 (ZZ h c1 c2) fun a v z2 z3 cv h=>?_;subst z2;subst z3
 cases a with
 |str i =>
  refine yf (xm cv) fun t z1=>?_;subst z1
  refine zK (yg h) fun h1 h2=>?_
  have h1:=of_decide_eq_true h1
  exact PySem.P.len_str (by omega) (g _ _ H _ h2 (Zd _ _) (S.ext (Ext.toks _ _)) ((Ext.toks _ _).kept x))
 |list l =>
  refine x7 (xY cv) fun p vs z2 z3 hl cl=>?_;subst z2;clear z3
  refine zK (yg h) fun h1 h2=>?_
  have h1:=of_decide_eq_true h1
  have e:(⟨vs⟩:Array zi).size=_:=cl.length
  refine call_len_list hl (by refine zc e ?_;omega) ?_
  exact zc e (g _ _ H _ h2 (Zd _ _) (S.ext (Ext.toks _ _)) ((Ext.toks _ _).kept x))
 |_=>exact h.elim
theorem Fh:y9 x (.builtin "isinstance") JR:=fun fr H avs kvs k h s S vs kws c1 c2 Q E g=>by
 refine xd (W3 h c1 c2) fun a v b z3=>?_;refine kO z3 fun u z5 z6 ca cb h=>?_;clear z3;subst z5;subst z6
 refine yW (u6 h ca) fun i t z2 h=>?_;subst z2
 exact zK (yg (Wf h cb)) fun h1 h2=>zc (fm h1) (IsiPair.str_str (g _ _ H _ h2 (Zv _) S (Kept.refl _ _)))
theorem nf:y9 x (.type "range") Wd:=fun fr H avs kvs k h s S vs kws c1 c2 Q E g=>by
 refine x7 (ZZ h c1 c2) fun a v z2 z3 cv h=>?_;subst z2;subst z3
 refine yW (ul h cv) fun i t z2 h=>?_;subst z2
 refine call_range_1 (g _ _ H _ h ?_ (S.ext (Ext.push s _ _)) ((Ext.push s _ _).kept x))
 exact⟨_,_,_,_,rfl,Zi S.opn,zx _ rfl⟩
theorem AY:y9 x (.builtin "str.join") YY:=fun fr H avs kvs k h s S vs kws c1 c2 Q E g=>by
 refine xd (W3 h c1 c2) fun a v b z3=>?_;refine kO z3 fun u z5 z6 ca cb h=>?_;clear z3;subst z5;subst z6
 refine yW (u6 h ca) fun i t z2 h=>?_;subst z2
 refine zt (Vo h) fun l z1 h=>?_;subst z1
 refine wO (xz h) fun ss e h1 h2=>x7 (xY cb) fun p vs z2 z3 hl cl=>?_;subst z2;clear z3
 refine zt (fu e cl) fun ps z1 h3=>?_;subst z1
 exact SC.join hl h3 h1 fun t' kk=>g _ _ H _ h2 (vO _ _) (S.ext (Ext.toks _ _)) ((Ext.toks _ _).kept x)
theorem mR:y9 x (.builtin "str.split") ZD:=fun fr H avs kvs k h s S vs kws c1 c2 Q E g=>by
 refine xd (W3 h c1 c2) fun a v b z3=>?_;refine kO z3 fun u z5 z6 ca cb h=>?_;clear z3;subst z5;subst z6
 refine xd (We h ca cb) fun i t j z3=>?_;refine VE z3 fun r z5 z6 z7 h=>?_;clear z3;subst z5;subst z6;obtain⟨z1,z2⟩:=z7
 refine zK (yg h) fun h1 h2=>fA (by simpa using h1) (fun l kk e=>?_) z1 z2
 have X:=Ext.push s {cls:=.type "list",data:=.seq (UI l).toArray} kk
 refine g _ _ H _ h2 (Yi (n:=0) (vs:=UI l) (Zi S.opn) (zx _ rfl) ?_) (S.ext X) (X.kept x)
 refine xv e ?_;exact eu
theorem mM:y9 x (.builtin "str.strip") mO:=fun fr H avs kvs k h s S vs kws c1 c2 Q E g=>by
 refine x7 (ZZ h c1 c2) fun a v z2 z3 cv h=>?_;subst z2;subst z3
 refine yW (u6 h cv) fun i t z2 h=>?_;subst z2
 exact SC.strip (fun t' kk=>g _ _ H _ h.2 (vO _ _) (S.ext (Ext.toks _ _)) ((Ext.toks _ _).kept x)) h.1
theorem jB:y9 x (.builtin "str.startswith") Us:=fun fr H avs kvs k h s S vs kws c1 c2 Q E g=>by
 refine xd (W3 h c1 c2) fun a v b z3=>?_;refine kO z3 fun u z5 z6 ca cb h=>?_;clear z3;subst z5;subst z6
 refine xd (We h ca cb) fun i t j z3=>?_;refine wO z3 fun r z5 z6 h=>?_;clear z3;subst z5;subst z6
 exact SC.startswith (g _ _ H _ h (Zv _) S (Kept.refl _ _))
theorem uO:uz x FB:=fun v S e=>by
 cases v with
 |type T=>refine fU (f:=.type) ?_ e;exact .cons sI (.cons Fj (.cons nf .nil))
 |builtin b=>refine fU (f:=.builtin) ?_ e;exact .cons E8 (.cons Fh (.cons AY (.cons mR (.cons mM (.cons jB .nil)))))
 |_=>exact nS e
theorem xX:Yp x fun U U=>none:=fun U U U e=>by exact nS e
theorem AZ{x:Str}{ss:List Str}{H:Hp}{k:AV→Hp→Prop}(e:X9 (ss.map .str)=some ss)(h:JoinOk x ss=true)(g:k (.str (wc x ss)) H):YY [.str x,.list (ss.map .str)] [] H k:=by
 refine(?_:xW (X9 (ss.map .str)) _)
 exact zc e ⟨h,g⟩
end
noncomputable def pa(b:zI)(v:zi):Bool:=(XM v).elim false (wm · b)
theorem o9(h:pa b v=true):v=.ref b:=by
 unfold pa at h
 cases h2:XM v with
 |none=>rw[h2]at h;exact fT h
 |some a=>rw[h2]at h;exact(Za h2).trans (congrArg _ (xq h))
noncomputable def typeIs(n:String):zi→Bool
 |.type m=>m==n
 |_=>false
theorem QD(h:typeIs n v=true):v=.type n:=by cases v<;>first|cases h;done|(exact zc (beq_iff_eq.mp h) rfl)
noncomputable def Du(n:String):zi→Bool
 |.builtin m=>m==n
 |_=>false
theorem pV(h:Du n v=true):v=.builtin n:=by cases v<;>first|cases h;done|(exact zc (beq_iff_eq.mp h) rfl)
noncomputable def mE(c:zi→Bool)(S:yG)(F:zi→Option yG)(v:zi):Option yG:=bif c v then some S else F v
theorem aD(hc:∀v,c v=true→v=u)(hS:y9 x u S)(hF:uz x F):uz x (mE c S F):=fun v S' e=>by
 unfold mE at e
 cases h:c v with
 |true =>
  rw[h]at e
  replace e:=zf e
  subst e
  exact zc (hc _ h) hS
 |false=>rw[h]at e;exact hF _ _ e
noncomputable def Qo(b:zI):yG→(zi→Option yG)→zi→Option yG:=mE (pa b)
theorem ue(hS:y9 x (.ref b) S)(hF:uz x F):uz x (Qo b S F):=aD (fun U=>o9) hS hF
noncomputable def GS(T:String):yG→(zi→Option yG)→zi→Option yG:=mE (typeIs T)
theorem gU(hS:y9 x (.type T) S)(hF:uz x F):uz x (GS T S F):=aD (fun U=>QD) hS hF
noncomputable def NC(T:String):yG→(zi→Option yG)→zi→Option yG:=mE (Du T)
theorem GT(hS:y9 x (.builtin T) S)(hF:uz x F):uz x (NC T S F):=aD (fun U=>pV) hS hF
end
section
noncomputable def wU(o:xK):ZK:=match o.data with
 |.func f=>f
 |_=>default
theorem tU(hb:∀v1,qN fd ⟨[v1],[]⟩=pure [(n1,v1)]):V3 x fd [a1] [] [(n1,a1)]:=fun s fr H vs kws S c1 c2=>by
 cases c2
 (refine xk (uq c1) fun v r z2 cv cr=>?_;clear c1;subst z2);replace cr:_=[]:=cr;subst cr
 exact⟨_,qx (hb v),⟨v,[],rfl,cv,rfl⟩⟩
theorem bQ(hb:∀v1 v2,qN fd ⟨[v1,v2],[]⟩=pure [(n1,v1),(n2,v2)]):V3 x fd [a1,a2] [] [(n1,a1),(n2,a2)]:=fun s fr H vs kws S c1 c2=>by
 cases c2
 (refine xk (uq c1) fun v r z2 cv cr=>?_;clear c1;subst z2);obtain⟨v',r,rfl,cv',cr⟩:=uq cr;replace cr:_=[]:=cr;subst cr
 exact⟨_,qx (hb v v'),⟨v,_,rfl,cv,⟨v',_,rfl,cv',rfl⟩⟩⟩
theorem MW(P:zp):FnIs P 63 (wU (AP P)) (wt (zm pw.main.body 6)):=⟨⟨AP P,⋯,rfl⟩,⋯,rfl,⋯,⋯,⋯,rfl,rfl,rfl,⋯⟩
def pn:yG:=fun avs kvs H k=>gQ avs kvs fun a b=>ZV a fun i=>Zc b fun U=>yD (decide (i=1)) (k (.int 1) H)
theorem pj(P:zp)(w:Str)(H:Hp)(k:AV→Hp→Prop):
  (ev (Ze P (wU (AP P)).scope.names [] FB fun U U=>none) 20).s (wt (zm pw.main.body 6)) (vI [] [(za "n",.int 1),(za "what",.str w)]) H (fun a U H'=>k (Wc a) H')=k (.int 1) H:=⋯
theorem pk(B:Base n x)(hn:n<980):tW x (.ref 63) pn:=by
 refine bq B (by exact yq (by assumption) (by decide)) (MW _) (wr:=[]) (F:=FB) (DP:=fun U U=>none) (fuel:=20) rfl (fun U U U=>uO) (fun U U U=>xX) fun avs kvs H k h=>xk (B4 h) fun a b z2 z3 h3=>?_;subst z2;subst z3
 refine zt (WK h3) fun i z1 h4=>?_;subst z1
 refine zt (U4 h4) fun w z1 h5=>?_;subst z1
 refine zK (yg h5) fun h1 h2=>?_
 have:=of_decide_eq_true h1
 subst this
 exact⟨_,bQ (n1:=za "n") (n2:=za "what") (fun v1 v2=>⋯),⋯,by refine zw (pj ..) ?_;exact h2⟩
end
section
noncomputable def LN(b:Str)(p:Int):List (Str×AV):=[(za "_StringIO__newline",.str (za "\n")),(za "_StringIO__buf",.str b),(za "_StringIO__pos",.int p)]
noncomputable abbrev xr(b:Str)(p:Int):AObj:=.inst 597 (LN b p)
theorem Km(P:zp):FnIs P 381 (wU (iY P)) (wt (zm (x6 (zm pw.main.body 12)) 3)):=⟨⟨iY P,⋯,rfl⟩,⋯,rfl,⋯,⋯,⋯,rfl,rfl,rfl,⋯⟩
noncomputable def pY:AV→AV→Bool
 |.none,b=>(match b with|.none=>true|_=>false)
 |.bool a,b=>(match b with|.bool b=>a==b|_=>false)
 |.int a,b=>(match b with|.int b=>decide (a=b)|_=>false)
 |.str a,b=>(match b with|.str b=>zZ a b|_=>false)
 |.obj a,b=>(match b with|.obj b=>wm a b|_=>false)
 |.dq,b=>(match b with|.dq=>true|_=>false)
 |_,_=>false
theorem B3(h:pY a b=true):a=b:=by
 cases a<;>try cases h
 ·cases b<;>first|rfl|exact fT h
 ·cases b<;>first|(exact zc (beq_iff_eq.mp h) rfl)|exact fT h
 ·cases b<;>first|(exact zc (of_decide_eq_true h) rfl)|exact fT h
 ·cases b<;>first|(exact zc (yk.mp h) rfl)|exact fT h
 ·cases b<;>first|(exact zc (xq h) rfl)|exact fT h
 ·cases b<;>first|rfl|exact fT h
noncomputable def VZ:List (Str×Option AV)→List (Str×AV)→Option (List AV)
 |[],l=>bif l.isEmpty then some []else none
 |q::r,l=>match l with
  |[]=>none
  |p::l=>bif zZ p.1 q.1 then(match q.2 with
   |some v=>bif pY p.2 v then VZ r l else none
   |none=>(VZ r l).map (p.2::·))else none
noncomputable def pA:List (Str×Option AV)→List AV→List (Str×AV)
 |[],_=>[]
 |q::r,l=>match q.2 with
  |some v=>(q.1,v)::pA r l
  |none=>match l with
   |[]=>[]
   |a::l=>(q.1,a)::pA r l
theorem WT:∀{r:List (Str×Option AV)} {fs:List (Str×AV)} {l:List AV},VZ r fs=some l→fs=pA r l
 |[],fs,l,h=>by
  cases fs with
  |nil=>rfl
  |cons a b=>exact nS h
 |(n,v)::r,fs,l,h=>by
  cases fs with
  |nil=>exact nS h
  |cons p fs =>
   have h:(bif zZ p.1 n then(match v with
    |some v=>bif pY p.2 v then VZ r fs else none
    |none=>(VZ r fs).map (p.2::·))else none)=some l:=h
   cases e:zZ p.1 n with
   |false=>rw[e]at h;exact nS h
   |true =>
    rw[e]at h
    have e:=yk.mp e
    cases v with
    |some v =>
     have h:(bif pY p.2 v then VZ r fs else none)=some l:=h
     cases e':pY p.2 v with
     |false=>rw[e']at h;exact nS h
     |true =>
      rw[e']at h
      exact(congr (congrArg _ (Prod.ext e (B3 e'))) (WT h):p::fs=(n,v)::pA r l)
    |none =>
     refine zt (yz.mp h) fun l' h' z2=>?_;subst z2
     exact(congr (congrArg _ (Prod.ext e rfl)) (WT h'):p::fs=(n,p.2)::pA r l')
noncomputable def Hm:AV→Option Int
 |.int i=>some i
 |_=>none
noncomputable def La:AV→Option Str
 |.str i=>some i
 |_=>none
theorem TE(h:Hm a=some i):a=.int i:=by cases a<;>cases h;rfl
theorem bR(h:La a=some i):a=.str i:=by cases a<;>cases h;rfl
noncomputable def EM:List AV→Option AV
 |[a]=>some a
 |_=>none
theorem Ap(h:EM l=some a):l=[a]:=by
 cases l with
 |nil=>exact nS h
 |cons b l=>cases l with
  |nil=>exact congrArg (fun x=>[x]) (zf h)
  |cons c l=>exact nS h
def EP(f:AV→Option β)(avs:List AV)(P:β→Prop):Prop:=((EM avs).bind f).elim False P
theorem U7{β:Type}{f:AV→Option β}{mk:β→AV}(hf:∀{a b},f a=some b→a=mk b){P:β→Prop}(h:EP f avs P):∃b,avs=[mk b]∧P b:=by
 unfold EP at h
 cases e:(EM avs).bind f with
 |none=>rw[e]at h;exact h.elim
 |some b =>
  rw[e]at h
  exact zt (zl.mp e) fun a h1 h2=>⟨b,(Ap h1).trans (congrArg (fun x=>[x]) (hf h2)),h⟩
noncomputable def NU:List (Str×Option AV):=[(za "_StringIO__newline",some (.str (za "\n"))),(za "_StringIO__buf",none),(za "_StringIO__pos",none)]
noncomputable def JT(fs:List (Str×AV)):Option (Str×Int):=(VZ NU fs).bind fun l=>(La (l.getD 0 .none)).bind fun b=>(Hm (l.getD 1 .none)).map fun p=>(b,p)
theorem I4:∀{l:List AV} {b:Str} {p:Int},l.getD 0 .none=.str b→l.getD 1 .none=.int p→∃r,l=.str b::.int p::r
 |[],_,_,h,_=>by cases h
 |[a],_,_,_,h=>by cases h
 |a::c::r,_,_,h,h'=>⟨r,by refine xv h (xv h' ?_);rfl⟩
theorem pg(h:JT fs=some (b,p)):fs=LN b p:=by
 refine zt (zl.mp h) fun l h1 h=>zt (zl.mp h) fun b' h2 h=>zt (yz.mp h) fun p' h3 h=>?_
 cases h
 refine yf (I4 (bR h2) (TE h3)) fun r z1=>?_;subst z1
 exact WT h1
def nR(i:Nat)(avs:List AV)(f:List AV→Prop):Prop:=match avs with
 |[]=>False
 |a::r=>(match a with
  |.obj j=>yD (wm j i) (f r)
  |_=>False)
theorem dj(h:nR i avs f):∃r,avs=.obj i::r∧f r:=by
 cases avs with
 |nil=>exact h.elim
 |cons a r=>cases a with
  |obj j =>
   exact zK (yg h) fun h1 h2=>⟨r,by exact zc (xq h1) rfl,h2⟩
  |_=>exact h.elim
def EO(H:Hp)(f:AObj→AObj→Prop):Prop:=match H with
 |[]=>False
 |o::r=>bf r (f o)
theorem iC(h:EO H f):∃o p,H=[o,p]∧f o p:=by
 cases H with
 |nil=>exact h.elim
 |cons o r=>(refine zt (qF h) fun p z1 h=>?_;subst z1);exact⟨o,p,rfl,h⟩
def iD(C:zI)(o:AObj)(f:List (Str×AV)→Prop):Prop:=match o with
 |.inst D fs=>yD (wm D C) (f fs)
 |.dict _=>False
theorem U6(h:iD C o f):∃fs,o=.inst C fs∧f fs:=by
 cases o with
 |inst D fs =>
  exact zK (yg h) fun h1 h2=>⟨fs,by exact zc (xq h1) rfl,h2⟩
 |dict _=>exact h.elim
def EN(avs:List AV)(H:Hp)(g:List AV→AObj→Str→Int→Prop):Prop:=nR 1 avs fun r=>EO H fun o p=>iD 597 p fun fs=>xW (JT fs) fun e=>g r o e.1 e.2
theorem iB(h:EN avs H g):∃r o b p,avs=.obj 1::r∧H=[o,xr b p]∧g r o b p:=by
 refine zt (dj h) fun r z1 h=>?_;subst z1
 refine yW (iC h) fun o p z2 h=>?_;subst z2
 refine zt (U6 h) fun fs z1 h=>?_;subst z1
 exact zt (xz h) fun e q h=>⟨r,o,e.1,e.2,rfl,by exact zc (pg q) rfl,h⟩
def pO:yG:=fun avs kvs H k=>ds kvs (EN avs H fun r U U U=>ds r (k .none H))
theorem pM(P:zp)(o:AObj)(b:Str)(p:Int)(k:AV→Hp→Prop):
  (ev (Ze P (wU (iY P)).scope.names [] FB fun U U=>none) 20).s (wt (zm (x6 (zm pw.main.body 12)) 3)) (vI [] [(za "self",.obj 1)]) [o,xr b p] (fun a U H'=>k (Wc a) H')=k .none [o,xr b p]:=⋯
theorem pN(B:Base n x)(hn:n<980):tW x (.ref 381) pO:=by
 refine bq B (by exact yq (by assumption) (by decide)) (Km _) (wr:=[]) (F:=FB) (DP:=fun U U=>none) (fuel:=20) rfl (fun U U U=>uO) (fun U U U=>xX) fun avs kvs H k h=>zK (Xj h) fun z0 h1=>?_;subst z0
 refine xd (iB h1) fun r o b z3=>?_;refine wO z3 fun p z5 z6 h2=>?_;clear z3;subst z5;subst z6
 refine zK (Xj h2) fun z0 h3=>?_;subst z0
 exact⟨_,tU (n1:=za "self") (fun v1=>⋯),⋯,by refine zw (pM ..) ?_;exact h3⟩
theorem Kl(P:zp):FnIs P 543 (wU (iX P)) (wt (zm (x6 (zm pw.main.body 12)) 25)):=⟨⟨iX P,⋯,rfl⟩,⋯,rfl,⋯,⋯,⋯,rfl,rfl,rfl,⋯⟩
noncomputable def F1:zi→Option yG:=Qo 63 pn (Qo 381 pO FB)
theorem DA(B:Base n x)(hn:n<980):uz x F1:=ue (pk B hn).call (ue (pN B hn).call uO)
def iw(o:AObj)(b:Str)(p:Int)(k:AV→Hp→Prop)(q:Int):Prop:=
 yD ((none:Option Int).isNone&&decide (b.length≤sizeLine)) ((xc b (some p) (some q)).length+(za " ").length≤sizeLine ∧
  yD ((none:Option Int).isNone&&decide ((xc b (some p) (some q)++za " ").length≤sizeLine)) (k (.str (xc (xc b (some p) (some q)++za " ") none (some (-1)))) [o,xr b q]))
theorem Af(P:zp)(o:AObj)(b:Str)(p:Int)(k:AV→Hp→Prop):
  (ev (Ze P (wU (iX P)).scope.names [] F1 fun U U=>none) 40).s (wt (zm (x6 (zm pw.main.body 12)) 25)) (vI [] [(za "self",.obj 1),(za "size",.int 1)]) [o,xr b p] (fun a U H'=>k (Wc a) H') =
   yD (decide (b.length≤sizeLine)) (tH (decide (p ≥ (b.length:Int))) (k (.str (za "")) [o,xr b p]) (tH (decide (p+1<(b.length:Int))) (iw o b p k (p+1)) (iw o b p k b.length))):=⋯
end
section
noncomputable def Y7(b:Str)(p:Nat):Str:=⟨((b.cps.toList.drop p).take 1).toArray⟩
theorem v9(b:Str):b.length=b.cps.toList.length:=by simp[Cw]
theorem pQ(b:Str)(p:Nat):(Y7 b p).length≤1:=by
 unfold Y7
 refine zc (v9 ..) ?_
 simp[DL]
 exact zN 288690485 [min 1 (b.cps.size-p)] (Hs ..) rfl
theorem jL{b:Str}{p:Nat}{q:Int}(h:p<b.length)(hq:q=p+1):xc b (some (p:Int)) (some q)=Y7 b p:=by
 subst hq
 have:=slice_closes (x:=b) (i:=p) (j:=p+1) ⟨by omega,by omega,by refine xv (v9 ..) ?_;omega⟩
 refine zc (beq_iff_eq.mp this) ?_
 congr 2
 congr 1
 omega
theorem fE(c:Str):xc (c++za " ") none (some (-1))=c:=by
 have hl:(c++za " ").length=c.length+1:=by refine zc (ye ..) ?_;rfl
 have:=slice_closes_to_neg (x:=c++za " ") (j:=-1) (k:=c.length) (by omega) (by refine zc hl ?_;omega) (by refine zc hl ?_;omega)
 refine zc (beq_iff_eq.mp this) ?_
 have e:(c++za " ").cps.toList=c.cps.toList++[32]:=by refine zc (Vd ..) (zc Array.toList_append ?_);rfl
 refine zc e ?_
 apply Vc
 simp[Cw]
theorem jj(B:Base n x)(hK:(KF x.w.params).lookup T=some o)(hd:fd.defaults=.ref T)(hs:o.data=.seq items m)(hb:∀v1 v2,∃k,qN fd ⟨[v1,v2],[]⟩=(seqItems? fd.defaults >>= k)∧k (some items)=pure ((n1,v1)::(n2,v2)::ex))(he:∀ρ h,Zj ρ h exa ex):V3 x fd [a1,a2] [] ((n1,a1)::(n2,a2)::exa):=fun s fr H vs kws S c1 c2=>by
 cases c2
 (refine xk c1 fun v r z2 cv cr=>?_;clear c1;subst z2);obtain⟨v',r,rfl,cv',cr⟩:=cr;subst cr
 exact zt (hb v v') fun k h1 h2=>⟨_,uR hd (B.K.keeps S.base _ _ hK) hs h1 h2,⟨v,_,rfl,cv,⟨v',_,rfl,cv',he _ _⟩⟩⟩
def CS:yG:=fun avs kvs H k=>ds kvs (EN avs H fun r o b p=>bf r fun a=>ZV a fun n=>yD (decide (n=1)) ((0≤p∧p≤b.length∧b.length<sizeLine)∧k (.str (Y7 b p.toNat)) [o,xr b (min (p+1) b.length)]))
theorem cZ(hb:b.length<sizeLine)(h0:0≤p)(hp:p<b.length)(hq:q=p+1)(h:k (.str (Y7 b p.toNat)) [o,xr b q]):iw o b p k q:=by
 have e:xc b (some p) (some q)=Y7 b p.toNat:=by
  have:=jL (b:=b) (p:=p.toNat) (q:=q) (by omega) (by omega)
  rw[show((p.toNat:Nat):Int)=p by omega]at this
  exact this
 have hz:sizeLine=16777216:=zy
 have l1:=pQ b p.toNat
 have l2:(Y7 b p.toNat++za " ").length=(Y7 b p.toNat).length+1:=by refine zc (ye ..) ?_;rfl
 unfold iw
 rw[e,fE]
 refine y7 ?_ ⟨?_,y7 ?_ h⟩
 ·simp;omega
 ·show _+1≤_;omega
 ·rw[l2];simp;omega
theorem Ag(B:Base n x)(hn:n<970):tW x (.ref 543) CS:=by
 refine bq B (by exact zN 0x3ca33523de3352 [n] hn rfl) (Kl _) (wr:=[]) (F:=F1) (DP:=fun U U=>none) (fuel:=40) rfl (fun U B' U=>DA B' (by exact zN 0x3ca33523d433113502 [n] hn rfl)) (fun U U U=>xX) fun avs kvs H k h=>?_
 ·refine zK (Xj h) fun z0 g1=>?_;subst z0
  refine xd (iB g1) fun r o b z3=>?_;refine wO z3 fun p z5 z6 g2=>?_;clear z3;subst z5;subst z6
  refine zt (qF g2) fun a z1 g3=>?_;subst z1
  ·refine zt (WK g3) fun m z1 g=>?_;subst z1
   clear g1 g2 g3 h
   refine yU (yg g) fun h1 z1 h2=>?_;obtain⟨h0,hp,hb⟩:=z1
   have:=of_decide_eq_true h1
   subst this
   refine⟨_,jj B (T:=536) (o:=Da x.w.params) (items:=#[.int (-1) 948]) (m:=0) (n1:=za "self") (n2:=za "size") (ex:=[]) (exa:=[]) ⋯ rfl rfl
    (fun v1 v2=>⟨_,by with_unfolding_all rfl,⋯⟩) (fun U U=>rfl),⋯,?_⟩
   refine zw (Af ..) ?_
   refine y7 (by simp;omega) ?_
   by_cases e:p ≥ (b.length:Int)
   ·refine zc (decide_eq_true e) ?_
    have e1:Y7 b p.toNat=za "" := by
     unfold Y7
     refine zc (qg (by rw[←v9];omega)) ?_;rfl
    have e2:min (p+1) (b.length:Int)=p:=by omega
    rw[e1,e2]at h2
    exact h2
   ·refine zc (decide_eq_false e) ?_
    by_cases e2:p+1<(b.length:Int)
    ·refine zc (decide_eq_true e2) ?_
     rw[show min (p+1) (b.length:Int)=p+1 by omega]at h2
     exact cZ hb h0 (by omega) rfl h2
    ·refine zc (decide_eq_false e2) ?_
     rw[show min (p+1) (b.length:Int)=b.length by omega]at h2
     exact cZ hb h0 (by omega) (by omega) h2
end
section
noncomputable def CF:Str:=za "abcdfeghijklmnopqrstuvwxyzABCDEFGHIJKLMNOPQRSTUVWXYZ0123456789_ßàáâãäåæçèéêëìíîïðñòóôõöøùúûüýþÿÀÁÂÃÄÅÆÇÈÉÊËÌÍÎÏÐÑÒÓÔÕÖØÙÚÛÜÝÞ"
noncomputable def fV(cm:Str)(sp:Bool)(st:AV)(ln:Int)(tok:Str):List (Str×AV):=
 [(za "instream",.obj 1),(za "infile",.none),(za "posix",.bool true),(za "eof",.none),(za "commenters",.str cm),(za "wordchars",.str CF),
  (za "whitespace",.str (za " \t\r\n")),(za "whitespace_split",.bool sp),(za "quotes",.str (za "'\"")),(za "escape",.str (za "\\")),(za "escapedquotes",.str (za "\"")),
  (za "state",st),(za "pushback",.dq),(za "lineno",.int ln),(za "debug",.int 0),(za "token",.str tok),(za "filestack",.dq),(za "source",.none),(za "_punctuation_chars",.str (za ""))]
noncomputable abbrev AE(st:AV)(ln:Int)(tok:Str):List (Str×AV):=fV (za "") true st ln tok
noncomputable abbrev yn(st:AV)(ln:Int)(tok:Str):AObj:=.inst 767 (AE st ln tok)
noncomputable def MF:List (Str×Option AV):=
 [(za "instream",some (.obj 1)),(za "infile",some .none),(za "posix",some (.bool true)),(za "eof",some .none),(za "commenters",some (.str (za ""))),(za "wordchars",some (.str CF)),
  (za "whitespace",some (.str (za " \t\r\n"))),(za "whitespace_split",some (.bool true)),(za "quotes",some (.str (za "'\""))),(za "escape",some (.str (za "\\"))),(za "escapedquotes",some (.str (za "\""))),
  (za "state",none),(za "pushback",some .dq),(za "lineno",none),(za "debug",some (.int 0)),(za "token",none),(za "filestack",some .dq),(za "source",some .none),(za "_punctuation_chars",some (.str (za "")))]
noncomputable def AG(fs:List (Str×AV)):Option (AV×Int×Str):=(VZ MF fs).bind fun l=>match l with
 |[]=>none
 |st::l=>(Hm (l.getD 0 .none)).bind fun ln=>(La (l.getD 1 .none)).map fun tok=>(st,ln,tok)
theorem E6:∀{l:List AV} {b:Int} {p:Str},l.getD 0 .none=.int b→l.getD 1 .none=.str p→∃r,l=.int b::.str p::r
 |[],_,_,h,_=>by cases h
 |[a],_,_,_,h=>by cases h
 |a::c::r,_,_,h,h'=>⟨r,by refine xv h (xv h' ?_);rfl⟩
theorem AF{fs:List (Str×AV)}{st:AV}{ln:Int}{tok:Str}(h:AG fs=some (st,ln,tok)):fs=AE st ln tok:=by
 refine zt (zl.mp h) fun l h1 h=>?_
 cases l with
 |nil=>exact nS h
 |cons a l =>
  refine zt (zl.mp h) fun b' h2 h=>zt (yz.mp h) fun p' h3 h=>?_
  cases h
  refine yf (E6 (TE h2) (bR h3)) fun r z1=>?_;subst z1
  exact WT h1
theorem ko(st:AV)(ln:Int)(tok:Str):AG (AE st ln tok)=some (st,ln,tok):=⋯
theorem pf(b:Str)(p:Int):JT (LN b p)=some (b,p):=⋯
def iA(avs:List AV)(H:Hp)(g:List AV→AV→Int→Str→Str→Int→Prop):Prop:=nR 0 avs fun r=>EO H fun o p=>iD 767 o fun fs=>iD 597 p fun gs=>xW (AG fs) fun d=>xW (JT gs) fun e=>g r d.1 d.2.1 d.2.2 e.1 e.2
theorem dm{avs:List AV}{H:Hp}{g:List AV→AV→Int→Str→Str→Int→Prop}(h:iA avs H g):∃r st ln tok b p,avs=.obj 0::r∧H=[yn st ln tok,xr b p]∧g r st ln tok b p:=by
 refine zt (dj h) fun r z1 h=>?_;subst z1
 refine yW (iC h) fun o p z2 h=>?_;subst z2
 refine zt (U6 h) fun fs z1 h=>?_;subst z1
 refine zt (U6 h) fun gs z1 h=>?_;subst z1
 exact zt (xz h) fun d q h=>zt (xz h) fun e q' h=>⟨r,d.1,d.2.1,d.2.2,e.1,e.2,rfl,by exact zc (AF q) (zc (pg q') rfl),h⟩
theorem nT{r:List AV}{st:AV}{ln:Int}{tok b:Str}{p:Int}{g:List AV→AV→Int→Str→Str→Int→Prop}(h:g r st ln tok b p):iA (.obj 0::r) [yn st ln tok,xr b p] g:=by
 refine(?_:xW (AG (AE st ln tok)) (fun d=>xW (JT (LN b p)) fun e=>g r d.1 d.2.1 d.2.2 e.1 e.2))
 refine zc (ko ..) (zc (pf ..) ?_)
 exact h
theorem Kj(P:zp):FnIs P 698 (wU (iW P)) (wt (zm (x6 (zm pw.main.body 26)) 1)):=⟨⟨iW P,⋯,rfl⟩,⋯,rfl,⋯,⋯,⋯,rfl,rfl,rfl,⋯⟩
def nB:yG:=fun avs kvs H k=>ds kvs (iA avs H fun r U U U U U=>ds r (k (.str (za "")) H))
theorem nz(P:zp)(st:AV)(ln:Int)(tok b:Str)(p:Int)(k:AV→Hp→Prop):
  (ev (Ze P (wU (iW P)).scope.names [] FB fun U U=>none) 20).s (wt (zm (x6 (zm pw.main.body 26)) 1)) (vI [] [(za "self",.obj 0)]) [yn st ln tok,xr b p] (fun a U H'=>k (Wc a) H')=k (.str (za "")) [yn st ln tok,xr b p]:=⋯
theorem nA(B:Base n x)(hn:n<980):tW x (.ref 698) nB:=by
 refine bq B (zN 0x3d433523de3352 [n] hn rfl) (Kj _) (wr:=[]) (F:=FB) (DP:=fun U U=>none) (fuel:=20) rfl (fun U U U=>uO) (fun U U U=>xX) fun avs kvs H k h=>zK (Xj h) fun z0 h1=>?_;subst z0
 refine xd (dm h1) fun r st ln z3=>?_;refine VD z3 fun tok b p z7 z8 h2=>?_;clear z3;subst z7;subst z8
 refine zK (Xj h2) fun z0 h3=>?_;subst z0
 exact⟨_,tU (n1:=za "self") (fun v1=>⋯),⋯,by refine zw (nz ..) ?_;exact h3⟩
noncomputable def DP:zI→Str→Option yG:=fun C n=>bif wm C 767&&zZ n (za "punctuation_chars")then some nB else none
theorem Aj(P:zp):fJ (KF P) 767 (za "punctuation_chars")=some 698:=⋯
theorem ae{n:Nat}{x:Cx}(B:Base n x)(hn:n<970):Yp x DP:=fun C m S e=>by
 unfold DP at e
 cases h:(wm C 767&&zZ m (za "punctuation_chars"))with
 |false=>rw[h]at e;exact nS e
 |true =>
  rw[h]at e
  replace e:=zf e;subst e
  rw[zk,yk]at h
  have hC:=xq h.1
  refine zK h fun z0 z1=>?_;clear h;clear z0;subst z1
  subst hC
  intro fr H i fs kk hi h s Z vo co ex Q E g
  refine df B.K hi (Aj _) (nA B.in1 (zN 0x3ca33523d433113502 [n] hn rfl)) ?_ Z co g
  have h:iA [.obj i] H fun r U U U U U=>ds r (kk (.str (za "")) H):=h
  refine xd (dm h) fun r st ln z3=>?_;refine VD z3 fun tok b p e1 z8 g=>?_;clear z3;subst z8
  refine zK (Xj g) fun z0 g1=>?_;subst z0
  exact zc e1 (nT (r:=[]) (st:=st) (ln:=ln) (tok:=tok) (b:=b) (p:=p) (g:=fun r U U U U U=>ds r (bd (.str (za ""))∧kk (.str (za "")) [yn st ln tok,xr b p])) ⟨rfl,g1⟩)
end
section
theorem zQ.while_(I:Nat→y3→Hp→Prop)(h:∀n fr H,I n fr H→xe x fr H (isTrue t x.env (zR t x.env)) fun c H1 =>
   (c=true→zQ x fr H1 (xN b x.env) fun f fr2 H2=>match f with
    |.next=>∃m,m<n∧I m fr2 H2
    |.cont=>∃m,m<n∧I m fr2 H2
    |.brk=>k .next fr2 H2
    |.ret a=>k (.ret a) fr2 H2)∧(c=false→zQ x fr H1 (xN o x.env) k))(hI:I n fr H):zQ x fr H (tx (.While t b o pos) x.env) k:=fun s S Q E f=>by
 refine wpAny_While (codeAny_whileLoop (fun n s'=>∃fr' H',I n fr' H'∧St x fr' H' s'∧Kept x s s') (fun n s' ⟨fr',H',i,S',K'⟩=>?_) n ⟨fr,H,hI,S,Kept.refl _ _⟩)
 refine h n fr' H' i s' S' _ _ fun c H1 s1 q S1 K1=>?_
 cases c with
 |true =>
  refine zw (if_pos rfl) (q.1 rfl s1 S1 _ _ fun fl a fr2 H2 s2 q2 c2 S2 K2=>?_)
  have KK:=K'.trans (K1.trans K2)
  cases a with
  |next=>cases c2;(refine zt q2 fun m hm i2=>?_;clear q2);exact⟨m,hm,fr2,H2,i2,S2,KK⟩
  |cont=>cases c2;(refine zt q2 fun m hm i2=>?_;clear q2);exact⟨m,hm,fr2,H2,i2,S2,KK⟩
  |brk=>cases c2;exact f .next .next fr2 H2 s2 q2 rfl S2 KK
  |ret a=>(refine zt c2 fun v z1 cv=>?_;clear c2;subst z1);exact f (.ret v) (.ret a) fr2 H2 s2 q2 ⟨v,rfl,cv⟩ S2 KK
 |false =>
  exact zw (if_neg (by decide)) (q.2 rfl s1 S1 _ _ fun fl a fr2 H2 s2 q2 c2 S2 K2=>f fl a fr2 H2 s2 q2 c2 S2 (K'.trans (K1.trans K2)))
noncomputable def rH:List yX:=wt (zm (x6 (zm pw.main.body 26)) 6)
noncomputable def HC(s:yX):List yX:=(xB s).1
noncomputable def LV:List yX:=HC (zm rH 2)
noncomputable def Vg:List yX:=match LV with
 |[]=>[]
 |_::r=>r
noncomputable def Hn:List yX:=match LV with
 |[]=>[]
 |s::_=>[s]
noncomputable def F2:zi→Option yG:=Qo 543 CS F1
theorem eO(B:Base n x)(hn:n<970):uz x F2:=ue (Ag B hn).call (DA B (zN 0x3ca33523d43352 [n] hn rfl))
noncomputable def XX(P:zp):Stat:=Ze P (wU (dJ P)).scope.names [] F2 DP
noncomputable abbrev sq(c:Nat):Str:=⟨#[c]⟩
noncomputable abbrev Hi(q:Bool)(es:Str):y3:=[(za "self",.obj 0),(za "quoted",.bool q),(za "escapedstate",.str es)]
noncomputable abbrev t4(q:Bool)(es nc:Str):y3:=[(za "self",.obj 0),(za "quoted",.bool q),(za "escapedstate",.str es),(za "nextchar",.str nc)]
noncomputable def vT:List Nat:=[45,105,103,110,111,114,101,109,100,117,108,61,115,116,99,97,98,46,44,35]
section
variable (P:zp) (q:Bool) (es tok b nc:Str) (ln p:Int) (st:AV) (k:AFlow→y3→Hp→Prop)
theorem CR:(ev (XX P) 60).s Hn (Hi q es) [yn st ln tok,xr b p] k=((0≤p∧p≤b.length∧b.length<sizeLine)∧k .next (t4 q es (Y7 b p.toNat)) [yn st ln tok,xr b (min (p+1) b.length)]):=⋯
theorem IH:(ev (XX P) 60).s Hn (t4 q es nc) [yn st ln tok,xr b p] k=((0≤p∧p≤b.length∧b.length<sizeLine)∧k .next (t4 q es (Y7 b p.toNat)) [yn st ln tok,xr b (min (p+1) b.length)]):=⋯
theorem Eu:(ev (XX P) 60).s Vg (t4 q es ⟨#[]⟩) [yn (.str (sq 32)) ln tok,xr b p] k=k .brk (t4 q es ⟨#[]⟩) [yn .none ln tok,xr b p]:=⋯
theorem Iy:(ev (XX P) 60).s Vg (t4 false es (sq 32)) [yn (.str (sq 32)) ln (za ""),xr b p] k=k .cont (t4 false es (sq 32)) [yn (.str (sq 32)) ln (za ""),xr b p]:=⋯
theorem IB:(ev (XX P) 60).s Vg (t4 q es (sq 92)) [yn (.str (sq 32)) ln tok,xr b p] k=k .next (t4 q (sq 97) (sq 92)) [yn (.str (sq 92)) ln tok,xr b p]:=⋯
theorem IA:(ev (XX P) 60).s Vg (t4 q es (sq 39)) [yn (.str (sq 32)) ln tok,xr b p] k=k .next (t4 q es (sq 39)) [yn (.str (sq 39)) ln tok,xr b p]:=⋯
theorem Iz:(ev (XX P) 60).s Vg (t4 q es (sq 34)) [yn (.str (sq 32)) ln tok,xr b p] k=k .next (t4 q es (sq 34)) [yn (.str (sq 34)) ln tok,xr b p]:=⋯
theorem Et(hc:c∈vT):(ev (XX P) 60).s Vg (t4 q es (sq c)) [yn (.str (sq 32)) ln tok,xr b p] k=k .next (t4 q es (sq c)) [yn (.str (sq 97)) ln (sq c),xr b p]:=by
 unfold vT at hc
 simp only[zn,yV,or_false]at hc
 rcases hc with rfl|rfl|rfl|rfl|rfl|rfl|rfl|rfl|rfl|rfl|rfl|rfl|rfl|rfl|rfl|rfl|rfl|rfl|rfl|rfl<;>kernel_rfl
theorem DV:(ev (XX P) 60).s Vg (t4 q es ⟨#[]⟩) [yn (.str (sq 97)) ln tok,xr b p] k=k .brk (t4 q es ⟨#[]⟩) [yn .none ln tok,xr b p]:=⋯
theorem Hy:(ev (XX P) 60).s Vg (t4 q es (sq 32)) [yn (.str (sq 97)) ln tok,xr b p] k =
  yD (decide (tok.length≤sizeLine)) (tH ((tok.length:Int) != 0) (k .brk (t4 q es (sq 32)) [yn (.str (sq 32)) ln tok,xr b p]) (tH q (k .brk (t4 q es (sq 32)) [yn (.str (sq 32)) ln tok,xr b p]) (k .cont (t4 q es (sq 32)) [yn (.str (sq 32)) ln tok,xr b p]))):=⋯
theorem HB:(ev (XX P) 60).s Vg (t4 q es (sq 92)) [yn (.str (sq 97)) ln tok,xr b p] k=k .next (t4 q (sq 97) (sq 92)) [yn (.str (sq 92)) ln tok,xr b p]:=⋯
theorem HA:(ev (XX P) 60).s Vg (t4 q es (sq 39)) [yn (.str (sq 97)) ln tok,xr b p] k=k .next (t4 q es (sq 39)) [yn (.str (sq 39)) ln tok,xr b p]:=⋯
theorem Hz:(ev (XX P) 60).s Vg (t4 q es (sq 34)) [yn (.str (sq 97)) ln tok,xr b p] k=k .next (t4 q es (sq 34)) [yn (.str (sq 34)) ln tok,xr b p]:=⋯
theorem DU(hc:c∈vT):(ev (XX P) 60).s Vg (t4 q es (sq c)) [yn (.str (sq 97)) ln tok,xr b p] k=(tok.length+(sq c).length≤sizeLine∧k .next (t4 q es (sq c)) [yn (.str (sq 97)) ln (tok++sq c),xr b p]):=by
 unfold vT at hc
 simp only[zn,yV,or_false]at hc
 rcases hc with rfl|rfl|rfl|rfl|rfl|rfl|rfl|rfl|rfl|rfl|rfl|rfl|rfl|rfl|rfl|rfl|rfl|rfl|rfl|rfl<;>kernel_rfl
theorem IG:(ev (XX P) 60).s Vg (t4 q es (sq 39)) [yn (.str (sq 39)) ln tok,xr b p] k=k .next (t4 true es (sq 39)) [yn (.str (sq 97)) ln tok,xr b p]:=⋯
theorem Ez(hc:c∈32::34::92::vT):(ev (XX P) 60).s Vg (t4 q es (sq c)) [yn (.str (sq 39)) ln tok,xr b p] k=(tok.length+(sq c).length≤sizeLine∧k .next (t4 true es (sq c)) [yn (.str (sq 39)) ln (tok++sq c),xr b p]):=by
 unfold vT at hc
 simp only[zn,yV,or_false]at hc
 rcases hc with rfl|rfl|rfl|rfl|rfl|rfl|rfl|rfl|rfl|rfl|rfl|rfl|rfl|rfl|rfl|rfl|rfl|rfl|rfl|rfl|rfl|rfl|rfl<;>kernel_rfl
theorem IF:(ev (XX P) 60).s Vg (t4 q es (sq 34)) [yn (.str (sq 34)) ln tok,xr b p] k=k .next (t4 true es (sq 34)) [yn (.str (sq 97)) ln tok,xr b p]:=⋯
theorem Ex(hc:c∈32::39::vT):(ev (XX P) 60).s Vg (t4 q es (sq c)) [yn (.str (sq 34)) ln tok,xr b p] k=(tok.length+(sq c).length≤sizeLine∧k .next (t4 true es (sq c)) [yn (.str (sq 34)) ln (tok++sq c),xr b p]):=by
 unfold vT at hc
 simp only[zn,yV,or_false]at hc
 rcases hc with rfl|rfl|rfl|rfl|rfl|rfl|rfl|rfl|rfl|rfl|rfl|rfl|rfl|rfl|rfl|rfl|rfl|rfl|rfl|rfl|rfl|rfl<;>kernel_rfl
theorem Gb(hc:c∈32::34::39::92::vT):(ev (XX P) 60).s Vg (t4 q (sq 97) (sq c)) [yn (.str (sq 92)) ln tok,xr b p] k=(tok.length+(sq c).length≤sizeLine∧k .next (t4 q (sq 97) (sq c)) [yn (.str (sq 97)) ln (tok++sq c),xr b p]):=by
 unfold vT at hc
 simp only[zn,yV,or_false]at hc
 rcases hc with rfl|rfl|rfl|rfl|rfl|rfl|rfl|rfl|rfl|rfl|rfl|rfl|rfl|rfl|rfl|rfl|rfl|rfl|rfl|rfl|rfl|rfl|rfl|rfl<;>kernel_rfl
theorem ER:(ev (XX P) 60).s Vg (t4 q es ⟨#[]⟩) [yn .none ln tok,xr b p] k=k .brk (t4 q es ⟨#[]⟩) [yn .none ln (za ""),xr b p]:=⋯
end
end
section
inductive LS where
 |sp|wd|s1|s2|bs
 deriving DecidableEq
noncomputable def yx:LS→Bool→List Nat→List Nat→Option (Bool×List Nat×List Nat×Bool)
 |.sp,q,t,[]=>some (q,t,[],true)
 |.wd,q,t,[]=>some (q,t,[],true)
 |.s1,_,_,[]=>none
 |.s2,_,_,[]=>none
 |.bs,_,_,[]=>none
 |.sp,q,t,c::r=>if c=32 then(if q=false∧t=[]then yx .sp q t r else none)else if c=92 then yx .bs q t r else if c=39 then yx .s1 q t r else if c=34 then yx .s2 q t r else
   if c∈vT then yx .wd q [c] r else none
 |.wd,q,t,c::r=>if c=32 then(if t≠[]∨q=true then some (q,t,r,false)else none)else if c=92 then yx .bs q t r else if c=39 then yx .s1 q t r else if c=34 then yx .s2 q t r else
   if c∈vT then yx .wd q (t++[c]) r else none
 |.s1,_,t,c::r=>if c=39 then yx .wd true t r else if c∈32::34::92::vT then yx .s1 true (t++[c]) r else none
 |.s2,_,t,c::r=>if c=34 then yx .wd true t r else if c∈32::39::vT then yx .s2 true (t++[c]) r else none
 |.bs,q,t,c::r=>if c∈32::34::39::92::vT then yx .wd q (t++[c]) r else none
noncomputable def LK:LS→AV
 |.sp=>.str (sq 32)
 |.wd=>.str (sq 97)
 |.s1=>.str (sq 39)
 |.s2=>.str (sq 34)
 |.bs=>.str (sq 92)
noncomputable abbrev tS(t:List Nat):Str:=⟨t.toArray⟩
theorem aF(t:List Nat)(c:Nat):tS t++sq c=tS (t++[c]):=Vc (by refine zc (Vd ..) ?_;simp)
theorem v0(t:List Nat):(tS t).length=t.length:=by simp[Cw]
theorem ez(h:b.cps.toList.drop p=[]):Y7 b p=⟨#[]⟩:=by unfold Y7;refine zc h ?_;rfl
theorem kQ(h:b.cps.toList.drop p=c::r):Y7 b p=sq c:=by unfold Y7;refine zc h ?_;rfl
structure LexEnd(b:Str)(ln:Int)(q':Bool)(t' rest:List Nat)(e:Bool)(fr:y3)(H:Hp):Prop where
 fr:∃es nc,fr=t4 q' es nc
 H:H=[yn (bif e then .none else .str (sq 32)) ln (tS t'),xr b (b.length-rest.length:Nat)]
inductive LexInv(b:Str)(ln:Int)(R:Bool×List Nat×List Nat×Bool)(n:Nat)(fr:y3)(H:Hp):Prop
 |mk (ls:LS) (q:Bool) (es:Str) (t:List Nat) (p:Nat) (_:fr=Hi q es∨∃nc,fr=t4 q es nc) (_:H=[yn (LK ls) ln (tS t),xr b (p:Nat)]) (_:p≤b.length) (_:b.length<sizeLine) (_:yx ls q t (b.cps.toList.drop p)=some R) (_:n=b.length-p+1)
  (_:t.length+(b.length-p)≤sizeLine) (_:ls=.bs→es=sq 97):LexInv b ln R n fr H
theorem pD{b:Str}{p:Nat}{c:Nat}{r:List Nat}(h:b.cps.toList.drop p=c::r):p<b.length∧b.cps.toList.drop (p+1)=r∧r.length=b.length-(p+1):=by
 have hl:(b.cps.toList.drop p).length=b.length-p:=by exact zc qD (xv (v9 ..) rfl)
 rw[h]at hl
 simp at hl
 refine⟨by omega,?_,by omega⟩
 refine xv Hu (zc h ?_);rfl
def Mg(b:Str)(ln:Int)(R:Bool×List Nat×List Nat×Bool)(n:Nat):AFlow→y3→Hp→Prop
 |.next=>fun fr H=>∃m,m<n∧LexInv b ln R m fr H
 |.cont=>fun fr H=>∃m,m<n∧LexInv b ln R m fr H
 |.brk=>LexEnd b ln R.1 R.2.1 R.2.2.1 R.2.2.2
 |.ret _=>fun U U=>False
section
variable {P:zp} {b:Str} {ln p:Int} {q:Bool} {es:Str} {t r:List Nat} {c:Nat} {R:Bool×List Nat×List Nat×Bool} {K:AFlow→y3→Hp→Prop} {N:y3→Hp→Prop}
theorem WM:yx .sp q t (c::r)=if c=32 then(if q=false∧t=[]then yx .sp q t r else none)else if c=92 then yx .bs q t r else if c=39 then yx .s1 q t r else if c=34 then yx .s2 q t r else if c∈vT then yx .wd q [c] r else none:=rfl
theorem Yk:yx .wd q t (c::r)=if c=32 then(if t≠[]∨q=true then some (q,t,r,false)else none)else if c=92 then yx .bs q t r else if c=39 then yx .s1 q t r else if c=34 then yx .s2 q t r else if c∈vT then yx .wd q (t++[c]) r else none:=rfl
theorem UB:yx .s1 q t (c::r)=if c=39 then yx .wd true t r else if c∈32::34::92::vT then yx .s1 true (t++[c]) r else none:=rfl
theorem UA:yx .s2 q t (c::r)=if c=34 then yx .wd true t r else if c∈32::39::vT then yx .s2 true (t++[c]) r else none:=rfl
theorem bu:yx .bs q t (c::r)=if c∈32::34::39::92::vT then yx .wd q (t++[c]) r else none:=rfl
theorem wb{α:Type}{P:Prop}[Decidable P]{a b:Option α}{x:α}(h:(if P then a else b)=some x):(P∧a=some x)∨(¬P∧b=some x):=by
 by_cases e:P
 ·rw[if_pos e]at h;exact .inl ⟨e,h⟩
 ·rw[if_neg e]at h;exact .inr ⟨e,h⟩
variable (nx:∀ls q2 es2 t2,yx ls q2 t2 r=some R→t2.length≤t.length+1→(ls=.bs→es2=sq 97)→N (t4 q2 es2 (sq c)) [yn (LK ls) ln (tS t2),xr b p])
include nx
theorem sL(hr:yx .sp q t (c::r)=some R)(h1:K .next=N)(h2:K .cont=N):(ev (XX P) 60).s Vg (t4 q es (sq c)) [yn (.str (sq 32)) ln (tS t),xr b p] K:=by
 rw[WM]at hr
 rcases wb hr with⟨e0,g⟩|⟨-,hr⟩
 ·subst e0
  rcases wb g with⟨e1,g⟩|⟨-,g⟩
  ·refine zK e1 fun eq et=>?_;clear e1
   subst eq et
   refine zc (show tS []=za "" from rfl) (zw (Iy P es b ln p K) (zc h2 ?_))
   exact nx .sp _ _ [] g (wk _) nofun
  ·exact nS g
 rcases wb hr with⟨e0,g⟩|⟨-,hr⟩
 ·subst e0;refine zw (IB ..) (zc h1 ?_);exact nx .bs _ _ _ g (vz _) fun U=>rfl
 rcases wb hr with⟨e0,g⟩|⟨-,hr⟩
 ·subst e0;refine zw (IA ..) (zc h1 ?_);exact nx .s1 _ _ _ g (vz _) nofun
 rcases wb hr with⟨e0,g⟩|⟨-,hr⟩
 ·subst e0;refine zw (Iz ..) (zc h1 ?_);exact nx .s2 _ _ _ g (vz _) nofun
 rcases wb hr with⟨hc,g⟩|⟨-,hr⟩
 ·refine zw (Et _ _ _ _ _ _ _ _ hc) (zc h1 ?_);exact nx .wd _ _ [c] g (vp _ _) nofun
 ·exact nS hr
theorem sK(hr:yx .wd q t (c::r)=some R)(h1:K .next=N)(hl:t.length+1≤sizeLine)(fin:R=(q,t,r,false)→K .brk (t4 q es (sq 32)) [yn (.str (sq 32)) ln (tS t),xr b p]):
  (ev (XX P) 60).s Vg (t4 q es (sq c)) [yn (.str (sq 97)) ln (tS t),xr b p] K:=by
 rw[Yk]at hr
 rcases wb hr with⟨e0,g⟩|⟨-,hr⟩
 ·subst e0
  rcases wb g with⟨e,g⟩|⟨-,g⟩
  ·have fin:=fin (zf g).symm
   refine zw (Hy ..) (zc (v0 ..) ?_)
   refine y7 (decide_eq_true (qp hl)) ?_
   by_cases z:t=[]
   ·subst z
    have hq:q=true:=e.resolve_left fun h=>h rfl
    subst hq
    exact fin
   ·exact zc (show((t.length:Int) != 0)=true by simp[z]) fin
  ·exact nS g
 rcases wb hr with⟨e0,g⟩|⟨-,hr⟩
 ·subst e0;refine zw (HB ..) (zc h1 ?_);exact nx .bs _ _ _ g (vz _) fun U=>rfl
 rcases wb hr with⟨e0,g⟩|⟨-,hr⟩
 ·subst e0;refine zw (HA ..) (zc h1 ?_);exact nx .s1 _ _ _ g (vz _) nofun
 rcases wb hr with⟨e0,g⟩|⟨-,hr⟩
 ·subst e0;refine zw (Hz ..) (zc h1 ?_);exact nx .s2 _ _ _ g (vz _) nofun
 rcases wb hr with⟨hc,g⟩|⟨-,hr⟩
 ·refine zw (DU _ _ _ _ _ _ _ _ hc) (zc (aF ..) (zc h1 (zc (v0 ..) ?_)));exact⟨hl,nx .wd _ _ _ g (by refine zc zG ?_;exact zX _) nofun⟩
 ·exact nS hr
theorem sN(hr:yx .s1 q t (c::r)=some R)(h1:K .next=N)(hl:t.length+1≤sizeLine):(ev (XX P) 60).s Vg (t4 q es (sq c)) [yn (.str (sq 39)) ln (tS t),xr b p] K:=by
 rw[UB]at hr
 rcases wb hr with⟨e0,g⟩|⟨-,hr⟩
 ·subst e0;refine zw (IG ..) (zc h1 ?_);exact nx .wd _ _ _ g (vz _) nofun
 rcases wb hr with⟨hc,g⟩|⟨-,hr⟩
 ·refine zw (Ez _ _ _ _ _ _ _ _ hc) (zc (aF ..) (zc h1 (zc (v0 ..) ?_)));exact⟨hl,nx .s1 _ _ _ g (by refine zc zG ?_;exact zX _) nofun⟩
 ·exact nS hr
theorem sM(hr:yx .s2 q t (c::r)=some R)(h1:K .next=N)(hl:t.length+1≤sizeLine):(ev (XX P) 60).s Vg (t4 q es (sq c)) [yn (.str (sq 34)) ln (tS t),xr b p] K:=by
 rw[UA]at hr
 rcases wb hr with⟨e0,g⟩|⟨-,hr⟩
 ·subst e0;refine zw (IF ..) (zc h1 ?_);exact nx .wd _ _ _ g (vz _) nofun
 rcases wb hr with⟨hc,g⟩|⟨-,hr⟩
 ·refine zw (Ex _ _ _ _ _ _ _ _ hc) (zc (aF ..) (zc h1 (zc (v0 ..) ?_)));exact⟨hl,nx .s2 _ _ _ g (by refine zc zG ?_;exact zX _) nofun⟩
 ·exact nS hr
theorem sO(hr:yx .bs q t (c::r)=some R)(h1:K .next=N)(hl:t.length+1≤sizeLine):(ev (XX P) 60).s Vg (t4 q (sq 97) (sq c)) [yn (.str (sq 92)) ln (tS t),xr b p] K:=by
 rw[bu]at hr
 rcases wb hr with⟨hc,g⟩|⟨-,hr⟩
 ·refine zw (Gb _ _ _ _ _ _ _ hc) (zc (aF ..) (zc h1 (zc (v0 ..) ?_)));exact⟨hl,nx .wd _ _ _ g (by refine zc zG ?_;exact zX _) nofun⟩
 ·exact nS hr
end
theorem Ab{D:Stat}{P:zp}(hD:D=XX P){b:Str}{ln:Int}{q':Bool}{t' rest:List Nat}{e:Bool}{n:Nat}{fr:y3}{H:Hp}(I:LexInv b ln (q',t',rest,e) n fr H):
  (ev D 60).s Hn fr H fun f fr1 H1=>match f with
   |.next=>(ev D 60).s Vg fr1 H1 (Mg b ln (q',t',rest,e) n)
   |_=>False:=by
 subst hD
 obtain⟨ls,q,es,t,p,hfr,rfl,hp,hb,hr,rfl,hz,hes⟩:=I
 have key:(0≤(p:Int)∧(p:Int)≤b.length∧b.length<sizeLine)∧(ev (XX P) 60).s Vg (t4 q es (Y7 b (p:Int).toNat)) [yn (LK ls) ln (tS t),xr b (min ((p:Int)+1) b.length)] (Mg b ln (q',t',rest,e) (b.length-p+1)):=by
  refine⟨⟨Uo _,Int.ofNat_le.mpr hp,hb⟩,?_⟩
  refine zc (wI ..) ?_
  cases hd:b.cps.toList.drop p with
  |nil =>
   have hpe:p=b.length:=by
    have:(b.cps.toList.drop p).length=b.length-p:=by exact zc qD (xv (v9 ..) rfl)
    rw[hd]at this;simp at this;omega
   refine zc (ez hd) (zc (show min ((p:Int)+1) (b.length:Int)=((b.length-([]:List Nat).length:Nat):Int)by simp;omega) ?_)
   rw[hd]at hr
   cases ls with
   |sp=>cases hr;exact(Eu ..).symm▸⟨⟨_,_,rfl⟩,rfl⟩
   |wd=>cases hr;exact(DV ..).symm▸⟨⟨_,_,rfl⟩,rfl⟩
   |_=>exact nS hr
  |cons c r =>
   refine yU (pD hd) fun hlt hdr hrl=>?_
   have hl:t.length+1≤sizeLine:=by omega
   refine zc (kQ hd) (zc (show min ((p:Int)+1) (b.length:Int)=((p+1:Nat):Int)by omega) ?_)
   rw[hd]at hr
   have nx:∀ls q2 es2 t2,yx ls q2 t2 r=some (q',t',rest,e)→t2.length≤t.length+1→(ls=.bs→es2=sq 97)→Mg b ln (q',t',rest,e) (b.length-p+1) .next (t4 q2 es2 (sq c)) [yn (LK ls) ln (tS t2),xr b ((p+1:Nat):Int)]:=fun ls' q2 es2 t2 h1 h2 h3 =>
    ⟨b.length-(p+1)+1,by omega,⟨ls',q2,es2,t2,p+1,.inr ⟨_,rfl⟩,rfl,hlt,hb,by refine zc hdr ?_;exact h1,rfl,by omega,h3⟩⟩
   cases ls with
   |sp=>exact sL nx hr rfl rfl
   |wd =>
    refine sK nx hr rfl hl fun hR=>?_
    cases hR
    exact⟨⟨_,_,rfl⟩,by refine zc (show b.length-rest.length=p+1 by omega) ?_;rfl⟩
   |s1=>exact sN nx hr rfl hl
   |s2=>exact sM nx hr rfl hl
   |bs=>refine zc (hes rfl) ?_;exact sO nx hr rfl hl
 rcases hfr with rfl|⟨nc,rfl⟩
 ·refine zw (CR ..) ?_;exact key
 ·refine zw (IH ..) ?_;exact key
end
section
theorem lT:∀(l1:List yX) (p:ZJ) (s:zg),
  qP M Γ (xN l1 env) (fun f p' s'=>match f with
   |.next=>qP M Γ (xN l2 env) Q E p' s'
   |f=>Q f p' s') E p s→qP M Γ (xN (l1++l2) env) Q E p s:=by
 intro l0
 induction l0 with
 |nil =>
  intro p s h
  have e:xN [] env=pure .next:=rfl
  rw[e,lr]at h
  exact h
 |cons st l1 ih =>
  intro p s h
  rw[execs_cons,wS]at h
  refine(?_:qP M Γ (xN (st::(l1++l2)) env) Q E p s)
  refine zc (execs_cons ..) (zw (wS ..) ?_)
  refine Yz M Γ _ (fun f p' s' h'=>?_) (fun U U U h'=>h') _ _ h
  cases f with
  |next=>exact(ih p' s' h')
  |_=>rw[lr]at h' ⊢;exact h'
theorem zQ.app(h:zQ x fr H (xN l1 x.env) fun a fr1 H1=>match a with
   |.next=>zQ x fr1 H1 (xN l2 x.env) k
   |a=>k a fr1 H1):zQ x fr H (xN (l1++l2) x.env) k:=fun s S Q E f=>by
 have key:zr (zu pw x.w) x.A (xN l1 x.env) (fun f s'=>match f with
   |.next=>zr (zu pw x.w) x.A (xN l2 x.env) Q E s'
   |f=>Q f s') E s:=h s S _ E fun fl a fr1 H1 s1 q c1 S1 K1=>by
  cases a with
  |next=>cases c1;exact q s1 S1 Q E fun fl a fr2 H2 s2 h2 c2 S2 K2=>f fl a fr2 H2 s2 h2 c2 S2 (K1.trans K2)
  |brk=>cases c1;exact f _ _ fr1 H1 s1 q rfl S1 K1
  |cont=>cases c1;exact f _ _ fr1 H1 s1 q rfl S1 K1
  |ret av=>(refine zt c1 fun v z1 c=>?_;clear c1;subst z1);exact f _ _ fr1 H1 s1 q ⟨v,rfl,c⟩ S1 K1
 refine fun Γ p hΓ=>lT l1 p s (Yz _ Γ _ (fun f p' s' h'=>?_) (fun U U U h'=>h') _ _ (key Γ p hΓ))
 cases f with
 |next=>exact h' Γ p' hΓ
 |_=>exact h'
theorem xe.true_(h:kb true H):xe x fr H (isTrue (.Constant (.bool true) q pos) x.env (zR (.Constant (.bool true) q pos) x.env)) kb:=
 xe.plain (fun U U=>rfl) (zL.const_bool h)
theorem Di(P:zp):FnIs P 735 (wU (dJ P)) rH:=⟨⟨dJ P,⋯,rfl⟩,⋯,rfl,⋯,⋯,⋯,rfl,rfl,rfl,⋯⟩
noncomputable def ad:List yX:=rH.take 2
noncomputable def Wp:List yX:=rH.drop 3
noncomputable def El(q:Bool)(t:List Nat):AV:=if q=false∧t=[]then .none else .str (tS t)
section
variable (P:zp) (q:Bool) (es nc tok b:Str) (ln p:Int) (st:AV)
theorem m8(H:Hp)(k:AFlow→y3→Hp→Prop):(ev (XX P) 20).s ad [(za "self",.obj 0)] H k=k .next (Hi false (sq 32)) H:=⋯
theorem iu(k:AV→Hp→Prop):(ev (XX P) 40).s Wp (t4 q es nc) [yn st ln tok,xr b p] (fun a U H'=>k (Wc a) H') =
  tH (!q) (tH (tj tok (za "")) (k .none [yn st ln (za ""),xr b p]) (k (.str tok) [yn st ln (za ""),xr b p])) (k (.str tok) [yn st ln (za ""),xr b p]):=⋯
end
noncomputable def cC(s:yX):Expr:=wx (xT s) 0
noncomputable def FT(e:Expr):Nat:=(xM e).2.2.1
theorem m7:rH=ad++(zm rH 2::Wp):=⋯
theorem m6:zm rH 2=.While (.Constant (.bool true) (FT (cC (zm rH 2))) (cC (zm rH 2)).pos) LV [] (zm rH 2).pos:=⋯
theorem ir:LV=Hn++Vg:=⋯
def Mi(b:Str)(p:Nat)(ln:Int)(q':Bool)(t' rest:List Nat)(e:Bool):yG:=fun avs kvs H k =>
 (avs=[.obj 0]∧kvs=[]∧H=[yn (.str (sq 32)) ln (za ""),xr b (p:Nat)])∧k (El q' t') [yn (bif e then .none else .str (sq 32)) ln (za ""),xr b (b.length-rest.length:Nat)]
theorem jz(t:List Nat):tj (tS t) (za "")=decide (t=[]):=by
 rw[tC,ZS];refine zc decide_eq_true_eq ?_
 constructor
 ·intro h
  have:t=(za "").cps.toList:=by simpa using congrArg (fun s:Str=>s.cps.toList) h
  exact this
 ·rintro rfl;rfl
theorem T6(B:Base n x)(hn:n<960)(hp:p≤b.length)(hb:b.length<sizeLine)(hr:yx .sp false [] (b.cps.toList.drop p)=some (q',t',rest,e)):
  tW x (.ref 735) (Mi b p ln q' t' rest e):=by
 refine Td B (by exact zN 0x3c033523de3352 [n] hn rfl) (Di _) (wr:=[]) (F:=F2) (DP:=DP) rfl (fun U B' U=>eO B' (by exact zN 0x3c033523ca33113502 [n] hn rfl)) (fun U B' U=>ae B' (by exact zN 0x3c033523ca33113502 [n] hn rfl)) fun avs kvs H k h=>?_
 obtain⟨⟨rfl,rfl,rfl⟩,h⟩:=h
 refine⟨_,tU (n1:=za "self") (fun v1=>⋯),⋯,fun x' B' Ft hw=>?_⟩
 rw[m7]
 refine zQ.app (((yl Ft 20).s ad _ _ (fun f fr1 H1=>f=.next∧fr1=Hi false (sq 32)∧H1=[yn (.str (sq 32)) ln (za ""),xr b (p:Nat)]) (by
  refine(?_:(ev (XX x.w.params) 20).s ad [(za "self",.obj 0)] _ _)
  rw[m8];exact⟨rfl,rfl,rfl⟩)).mono fun f fr1 H1 hh=>?_)
 obtain⟨rfl,rfl,rfl⟩:=hh
 refine zQ.cons ?_
 rw[m6]
 refine zQ.while_ (LexInv b ln (q',t',rest,e)) (k:=fun f fr2 H2=>match f with
   |.next=>zQ x' fr2 H2 (xN Wp x'.env) fun a U H'=>k (Wc a) H'
   |a=>k (Wc a) H2) (n:=b.length-p+1) (fun m fr H I=>xe.true_ ⟨fun U=>?_,fun z=>by cases z⟩)
   ⟨.sp,false,sq 32,[],p,.inl rfl,rfl,hp,hb,hr,rfl,by simp;omega,by intro z;cases z⟩
 rw[ir]
 have T:=Ab (D:=Ze x.w.params (wU (dJ x.w.params)).scope.names [] F2 DP) (P:=x.w.params) rfl I
 refine zQ.app (((yl Ft 60).s Hn _ _ _ T).mono fun f fr1 H1 hh=>?_)
 cases f with
 |next =>
  refine((yl Ft 60).s Vg _ _ _ hh).mono fun f fr2 H2 h2=>?_
  cases f with
  |next=>exact h2
  |cont=>exact h2
  |brk =>
   obtain⟨⟨es,nc,rfl⟩,rfl⟩:=h2
   refine(yl Ft 40).s Wp _ _ _ ((?_:(ev (XX x.w.params) 40).s Wp _ _ _))
   rw[iu,jz]
   unfold El at h
   by_cases hq:q'=true
   ·subst hq
    rw[if_neg (fun z=>by cases z.1)]at h
    exact h
   ·have hq:q'=false:=by simpa using hq
    subst hq
    by_cases ht:t'=[]
    ·refine zc (decide_eq_true ht) ?_
     rw[if_pos ⟨rfl,ht⟩]at h
     exact h
    ·refine zc (decide_eq_false ht) ?_
     rw[if_neg (fun z=>ht z.2)]at h
     exact h
  |ret a=>exact h2.elim
 |brk=>exact hh.elim
 |cont=>exact hh.elim
 |ret a=>exact hh.elim
end
section
def cS(a0:List AV)(H0:Hp)(res:AV)(H1:Hp):yG:=fun avs kvs H k=>(avs=a0∧kvs=[]∧H=H0)∧k res H1
theorem Ac(B:Base n x)(hn:n<960)(hb:b.length<sizeLine):
  tW x (.ref 735) (cS [.obj 0] [yn .none ln (za ""),xr b (b.length:Nat)] .none [yn .none ln (za ""),xr b (b.length:Nat)]):=by
 refine Td B (by exact yq (by assumption) (by decide)) (Di _) (wr:=[]) (F:=F2) (DP:=DP) rfl (fun U B' U=>eO B' (zN 0x3c033523ca33113502 [n] hn rfl)) (fun U B' U=>ae B' (zN 0x3c033523ca33113502 [n] hn rfl)) fun avs kvs H k h=>?_
 obtain⟨⟨rfl,rfl,rfl⟩,h⟩:=h
 refine⟨_,tU (n1:=za "self") (fun v1=>⋯),⋯,fun x' B' Ft hw=>?_⟩
 rw[m7]
 refine zQ.app (((yl Ft 20).s ad _ _ (fun f fr1 H1=>f=.next∧fr1=Hi false (sq 32)∧H1=[yn .none ln (za ""),xr b (b.length:Nat)]) (by
  refine(?_:(ev (XX x.w.params) 20).s ad [(za "self",.obj 0)] _ _)
  rw[m8];exact⟨rfl,rfl,rfl⟩)).mono fun f fr1 H1 hh=>?_)
 obtain⟨rfl,rfl,rfl⟩:=hh
 refine zQ.cons ?_
 rw[m6]
 refine zQ.while_ (fun U fr H=>fr=Hi false (sq 32)∧H=[yn .none ln (za ""),xr b (b.length:Nat)]) (k:=fun f fr2 H2=>match f with
   |.next=>zQ x' fr2 H2 (xN Wp x'.env) fun a U H'=>k (Wc a) H'
   |a=>k (Wc a) H2) (n:=0) (fun m fr H I=>xe.true_ ⟨fun U=>?_,fun z=>by cases z⟩) ⟨rfl,rfl⟩
 obtain⟨rfl,rfl⟩:=I
 rw[ir]
 have hd:b.cps.toList.drop b.length=[]:=qg (by rw[←v9];(exact zX b.length))
 refine zQ.app (((yl Ft 60).s Hn _ _ (fun f fr1 H1=>f=.next∧fr1=t4 false (sq 32) ⟨#[]⟩∧H1=[yn .none ln (za ""),xr b (b.length:Nat)]) (by
  refine zw (CR ..) (⟨⟨by(exact Uo b.length),by(exact Int.le_refl ↑b.length),hb⟩,rfl,?_,?_⟩)
  ·rw[show((b.length:Nat):Int).toNat=b.length by(exact wI b.length),ez hd]
  ·rw[show min (((b.length:Nat):Int)+1) (b.length:Int)=b.length by omega])).mono fun f fr1 H1 hh=>?_)
 obtain⟨rfl,rfl,rfl⟩:=hh
 exact(yl Ft 60).s Vg _ _ _ (zw (ER ..) ((yl Ft 40).s Wp _ _ _ (zw (iu ..) h)))
noncomputable def lJ:List yX:=wt (zm (x6 (zm pw.main.body 26)) 5)
noncomputable def jn:List yX:=lJ.take 3
noncomputable def gT:List yX:=lJ.drop 4
noncomputable def CG(s:yX):List yX:=(xB s).1
theorem Fo:lJ=jn++(zm lJ 3::gT):=⋯
theorem Fn:zm lJ 3=.While (cC (zm lJ 3)) (CG (zm lJ 3)) [] (zm lJ 3).pos:=⋯
theorem Ki(P:zp):FnIs P 728 (wU (iV P)) lJ:=⟨⟨iV P,⋯,rfl⟩,⋯,rfl,⋯,⋯,⋯,rfl,rfl,rfl,⋯⟩
noncomputable def F3(S:yG):zi→Option yG:=Qo 735 S F2
theorem Lm(B:Base n x)(hn:n<960)(hS:tW x (.ref 735) S):uz x (F3 S):=ue hS.call (eO B (zN 0x3c033523ca3352 [n] hn rfl))
noncomputable def DD(P:zp)(S:yG):Stat:=Ze P (wU (iV P)).scope.names [] (F3 S) DP
noncomputable abbrev rD(raw:AV):y3:=[(za "self",.obj 0),(za "raw",raw)]
section
variable (P:zp) (a0:List AV) (H0:Hp) (res st st':AV) (ln ln' p p':Int) (tok tok' b b' t:Str) (S:yG)
theorem Fq(k:AFlow→y3→Hp→Prop):(ev (DD P (cS a0 H0 res [yn st' ln' tok',xr b' p'])) 30).s jn [(za "self",.obj 0)] [yn st ln tok,xr b p] k =
  (([.obj 0]=a0∧([]:List (Str×AV))=[]∧[yn st ln tok,xr b p]=H0)∧k .next (rD res) [yn st' ln' tok',xr b' p']):=⋯
theorem kF(k:Bool→Hp→Prop):(ev (DD P S) 30).b (cC (zm lJ 3)) (rD (.str t)) [yn st ln tok,xr b p] k=k false [yn st ln tok,xr b p]:=⋯
theorem kG(k:Bool→Hp→Prop):(ev (DD P S) 30).b (cC (zm lJ 3)) (rD .none) [yn st ln tok,xr b p] k=k true [yn st ln tok,xr b p]:=⋯
theorem Bb(k:AFlow→y3→Hp→Prop):(ev (DD P S) 30).s (CG (zm lJ 3)) (rD .none) [yn st ln tok,xr b p] k=k (.ret .none) (rD .none) [yn st ln tok,xr b p]:=⋯
theorem Ba(k:AFlow→y3→Hp→Prop):(ev (DD P S) 30).s gT (rD (.str t)) [yn st ln tok,xr b p] k=k (.ret (.str t)) (rD (.str t)) [yn st ln tok,xr b p]:=⋯
end
noncomputable def JS:AV→Bool
 |.none=>true
 |.str _=>true
 |_=>false
theorem Yl{n:Nat}{x:Cx}(B:Base n x)(hn:n<950){st st' res:AV}{ln ln' p p':Int}{tok tok' b b':Str}(ht:JS res=true)(hS:∀x',Base (n+1) x'→x'.w=x.w→tW x' (.ref 735) (cS [.obj 0] [yn st ln tok,xr b p] res [yn st' ln' tok',xr b' p'])):
  tW x (.ref 728) (cS [.obj 0] [yn st ln tok,xr b p] res [yn st' ln' tok',xr b' p']):=by
 refine Td B (by exact yq (by assumption) (by decide)) (Ki _) (wr:=[]) (F:=F3 _) (DP:=DP) rfl (fun U B' hw=>Lm B' (zN 0x3b633523c033113502 [n] hn rfl) (hS _ B' hw)) (fun U B' U=>ae B' (zN 0x3b633523ca33113502 [n] hn rfl)) fun avs kvs H k h=>?_
 obtain⟨⟨rfl,rfl,rfl⟩,h⟩:=h
 refine⟨_,tU (n1:=za "self") (fun v1=>⋯),⋯,fun x' B' Ft hw=>?_⟩
 rw[Fo]
 refine zQ.app (((yl Ft 30).s jn _ _ (fun f fr1 H1=>f=.next∧fr1=rD res∧H1=[yn st' ln' tok',xr b' p']) (by
  refine(?_:(ev (DD x.w.params _) 30).s jn [(za "self",.obj 0)] _ _)
  rw[Fq];exact⟨⟨rfl,rfl,rfl⟩,rfl,rfl,rfl⟩)).mono fun f fr1 H1 hh=>?_)
 obtain⟨rfl,rfl,rfl⟩:=hh
 refine zQ.cons ?_
 rw[Fn]
 cases res with
 |none =>
  refine zQ.while_ (fun U fr H=>fr=rD .none∧H=[yn st' ln' tok',xr b' p']) (n:=0) (fun m fr H I=>?_) ⟨rfl,rfl⟩
  obtain⟨rfl,rfl⟩:=I
  refine((yl Ft 30).b _ _ _ (fun c H1=>c=true∧H1=[yn st' ln' tok',xr b' p']) (by
   refine(?_:(ev (DD x.w.params _) 30).b _ _ _ _)
   rw[kG];exact⟨rfl,rfl⟩)).mono fun c H1 q=>?_
  obtain⟨rfl,rfl⟩:=q
  refine⟨fun U=>?_,fun z=>by cases z⟩
  exact(yl Ft 30).s _ _ _ _ (zw (Bb ..) h)
 |str t =>
  refine zQ.while_ (fun U fr H=>fr=rD (.str t)∧H=[yn st' ln' tok',xr b' p']) (n:=0) (fun m fr H I=>?_) ⟨rfl,rfl⟩
  refine zK I fun z0 z1=>?_;clear I;subst z0;subst z1
  refine((yl Ft 30).b _ _ _ (fun c H1=>c=false∧H1=[yn st' ln' tok',xr b' p']) (by
   refine(?_:(ev (DD x.w.params _) 30).b _ _ _ _)
   refine zw (kF ..) ?_;exact⟨rfl,rfl⟩)).mono fun c H1 q=>?_
  refine zK q fun z0 z1=>?_;clear q;subst z0;subst z1
  refine⟨fun z=>by(exact fT z),fun U=>zQ.nil ?_⟩
  exact(yl Ft 30).s gT _ _ _ (zw (Ba ..) h)
 |_=>exact fT ht
end
section
theorem tu.keepN{h h':xO}(K:∀b o,h.get? b=some o→∃o',h'.get? b=some o'∧tu o o'){b:zI}{o:xK}(e:h.get? b=some o)(f:um o=false):h'.get? b=some o:=by
 refine zt (K b o e) fun o' e' q=>?_
 rw[q.eq f]at e';exact e'
theorem St.framed{x:Cx}{fr:y3}{H:Hp}{s:zg}(S:St x fr H s){h':xO}{tk:Nat}(K:∀b o,s.heap.get? b=some o→∃o',h'.get? b=some o'∧tu o o')(KB:∀b o,x.B.get? b=some o→h'.get? b=some o):St x fr H {s with heap:=h',toks:=tk}:=by
 have kN:∀{b o},s.heap.get? b=some o→um o=false→h'.get? b=some o:=fun e f=>tu.keepN K e f
 have nm:yH x.ρ.op s.heap h':=fun b o _ q m=>kN q (WR m)
 refine yU S.frame fun z0 c1 c2=>?_;obtain⟨mm,n,f⟩:=z0
 refine⟨KB,S.apart,fun b t=>?_,⟨⟨mm,W5 n fun o e=>K _ _ e,fun y av e q=>?_⟩,fun y av e q=>?_,fun y e=>?_⟩,fun i o e=>?_,?_,S.nodup,S.own,S.cnod,fun b q=>?_,S.ocs,S.ol,fun c q=>?_,fun L q=>?_⟩
 ·exact zt (S.kinds b t) fun o h m=>zt (K b o h) fun o' h' r=>⟨o',h',by refine zc r.cls ?_;exact m⟩
 ·refine zt (f y av e q) fun v p r=>?_;exact⟨v,p,r.mono nm⟩
 ·refine xk (c1 y av e q) fun cc v p b d=>?_;exact⟨cc,v,p,kN b rfl,d.mono nm⟩
 ·refine yW (c2 y e) fun cc v p b=>?_;exact⟨cc,v,p,kN b rfl⟩
 ·refine xk (S.objs i o e) fun b d p q r=>⟨b,d,p,q,?_⟩
  cases o with
  |inst C fs=>(refine zK r fun r1 z1=>?_;clear r;refine yW z1 fun es n' r2 r3=>?_;clear z1);exact⟨kN r1 rfl,es,n',kN r2 rfl,r3.mono nm⟩
  |dict fs=>(refine zK r fun r1 z1=>?_;clear r;refine yW z1 fun es n' r2 r3=>?_;clear z1);exact⟨r1,es,n',kN r2 rfl,r3.mono nm⟩
 ·refine zt S.lim fun mc p q=>?_;exact⟨mc,W5 p fun o e=>K _ _ e,q⟩
 ·refine yf (S.opn b q) fun o h=>?_;refine zt (K b o h) fun o' h' _=>?_;exact⟨o',h'⟩
 ·refine yf (S.cex c q) fun o h=>?_;refine zt (K c o h) fun o' h' _=>?_;exact⟨o',h'⟩
 ·refine yU (S.frs L q) fun c1 c2 z2=>?_;refine VD z2 fun o es ep h r1 r2=>?_;clear z2
  exact zt (K L o h) fun o' h' r=>⟨c1,c2,o',es,ep,h',by refine zc (WS r.cls) ?_;exact r1,r.data.trans r2⟩
theorem WV{base h:xO}:∀{envs:List Qx} {fs:List zI},envs.map (·.frame)=fs.map some→(∀e∈envs,e.scope.kind≠.module) →
  (∀L∈fs,base.get? L=none∧∃o,h.get? L=some o∧∀vs,o.data≠.fields vs)→h.FunFrames base envs
 |[],_,_,_,_=>trivial
 |e::envs,[],hl,_,_=>by exact cN hl
 |e::envs,L::fs,hl,hk,hf=>by
  simp only[zU,lQ]at hl
  refine zK (hf L (.head _)) fun b z1=>?_;refine zt z1 fun o ho hd=>?_;clear z1
  exact⟨hk e (.head _),⟨L,o,hl.1,b,ho,hd⟩,WV hl.2 (fun e' he=>hk e' (.tail _ he)) fun L' hL=>hf L' (.tail _ hL)⟩
theorem dF{x:Cx}{fr:y3}{H:Hp}{s:zg}{envs:List Qx}(hfr:x.A.frames=some (x.env::envs))(hl:(x.env::envs).map (·.frame)=x.fs.map some)(hk:∀e∈x.env::envs,e.scope.kind≠.module)(S:St x fr H s){e:zI}{h1:xO}(hm:Heap.MadeExc s.heap h1 e "StopIteration" []){Q:Unit→zg→Prop}{E:zi→zg→Prop}(g:∀h',(∀b o,s.heap.get? b=some o→∃o',h'.get? b=some o'∧tu o o')→St x fr H {s with heap:=h'}→(∃ob,h'.get? e=some ob∧ob.cls=.type "StopIteration")→Q () {s with heap:=h'}):
  zr (zu pw x.w) x.A (Cs x.env (.ref e)) Q E {s with heap:=h1}:=by
 have hL:∃L,x.env.frame=some L:=by
  cases h:x.fs with
  |nil=>rw[h]at hl;exact cN hl
  |cons L r=>rw[h]at hl;simp only[zU,lQ]at hl;exact⟨L,hl.1⟩
 refine yf hL fun L hf=>?_;clear hL
 refine wpAny_leaves_madeW (base:=hideAll s.heap x.fs) (h:=s.heap) (s:={s with heap:=h1}) hfr hf (fun b o q=>of_hideAll _ q) (WV hl hk fun L q=>?_) hm.of fun h' t F _ _ U=>?_
 ·refine yU (S.frs L q) fun _ _ z2=>?_;refine VD z2 fun o es ep h _ r=>?_;clear z2
  exact⟨hideAll_none _ q,o,h,fun vs z=>by rw[r]at z;cases z⟩
 ·have K:∀b o,s.heap.get? b=some o→∃o',h'.get? b=some o'∧tu o o':=fun b o q=>by
   by_cases hb:b∈x.fs
   ·refine yU (S.frs b hb) fun _ _ z2=>?_;refine VD z2 fun o2 es ep h r1 r2=>?_;clear z2
    rw[q]at h;(replace h:=zf h;subst h)
    exact yf (U b o (hm.keeps b o q) fun vs z=>by rw[r2]at z;cases z) fun sl e2=>⟨_,e2,.inr ⟨r1,sl,rfl⟩⟩
   ·exact⟨o,F.1 b o (hideAll_get _ q hb),.refl o⟩
  exact g h' K (S.framed (tk:=s.toks) K fun b o q=>F.1 b o (hideAll_get _ (S.base b o q) fun hb=>by rw[(S.frs b hb).1]at q;exact nS q)) F.there
theorem uT{x:Cx}{l1 l2:List yX}{s:zg}{Q:Qw→zg→Prop}{E:zi→zg→Prop}(h:zr (zu pw x.w) x.A (xN l1 x.env) (fun f s'=>match f with
   |.next=>zr (zu pw x.w) x.A (xN l2 x.env) Q E s'
   |f=>Q f s') E s):zr (zu pw x.w) x.A (xN (l1++l2) x.env) Q E s:=by
 refine fun Γ p hΓ=>lT l1 p s (Yz _ Γ _ (fun f p' s' h'=>?_) (fun _ _ _ h'=>h') _ _ (h Γ p hΓ))
 cases f with
 |next=>exact h' Γ p' hΓ
 |_=>exact h'
def ra(x:Cx)(f:zi)(a0:List AV)(H0 H1:Hp):Prop:=∀fr s,St x fr H0 s→∀vs,ConL x.ρ s.heap a0 vs→∀R:Zr→zg→Prop,
 (∀e s',(∃ob,s'.heap.get? e=some ob∧ob.cls=.type "StopIteration")→St x fr H1 s'→Kept x s s'→R (.error (.ref e)) s')→y4 (zu pw x.w) x.A (.call f ⟨vs,[]⟩) R s
noncomputable def cq:List yX:=wt (zm (x6 (zm pw.main.body 26)) 10)
noncomputable def uy(s:yX):Expr:=wx (xT s) 0
noncomputable def ux(s:yX):List yX:=(xB s).1
noncomputable def Mn(s:yX):ZJ:=(wx (xT s) 0).pos
theorem nV:cq=cq.take 1++(zm cq 1::cq.drop 2):=⋯
theorem nU:zm cq 1=.If (uy (zm cq 1)) [.Raise (some (.Name (za "StopIteration") (Mn (zm (ux (zm cq 1)) 0)))) none (zm (ux (zm cq 1)) 0).pos] [] (zm cq 1).pos:=⋯
theorem Dh(P:zp):FnIs P 764 (wU (VY P)) cq:=⟨⟨VY P,⋯,rfl⟩,⋯,rfl,⋯,⋯,⋯,rfl,rfl,rfl,⋯⟩
noncomputable def F4(S:yG):zi→Option yG:=Qo 728 S F2
theorem Dz(B:Base n x)(hn:n<960)(hS:tW x (.ref 728) S):uz x (F4 S):=ue hS.call (eO B (zN 0x3c033523ca3352 [n] hn rfl))
noncomputable def DC(P:zp)(S:yG):Stat:=Ze P (wU (VY P)).scope.names [] (F4 S) DP
noncomputable abbrev Fr(tok:AV):y3:=[(za "self",.obj 0),(za "token",tok)]
section
variable (P:zp) (a0:List AV) (H0:Hp) (res st st':AV) (ln ln' p p':Int) (tok tok' b b' t:Str) (S:yG)
theorem nW(k:AFlow→y3→Hp→Prop):(ev (DC P (cS a0 H0 res [yn st' ln' tok',xr b' p'])) 30).s (cq.take 1) [(za "self",.obj 0)] [yn st ln tok,xr b p] k =
  (([.obj 0]=a0∧([]:List (Str×AV))=[]∧[yn st ln tok,xr b p]=H0)∧k .next (Fr res) [yn st' ln' tok',xr b' p']):=⋯
theorem jX(k:Bool→Hp→Prop):(ev (DC P S) 30).b (uy (zm cq 1)) (Fr (.str t)) [yn st ln tok,xr b p] k=k false [yn st ln tok,xr b p]:=⋯
theorem jY(k:Bool→Hp→Prop):(ev (DC P S) 30).b (uy (zm cq 1)) (Fr .none) [yn st ln tok,xr b p] k=k true [yn st ln tok,xr b p]:=⋯
theorem Aq(k:AFlow→y3→Hp→Prop):(ev (DC P S) 30).s (cq.drop 2) (Fr (.str t)) [yn st ln tok,xr b p] k=k (.ret (.str t)) (Fr (.str t)) [yn st ln tok,xr b p]:=⋯
end
end
section
theorem j4{n:Nat}{x:Cx}(B:Base n x)(hn:n<940){st st':AV}{ln ln' p p':Int}{tok tok' b b' t:Str}(hS:∀x',Base (n+1) x'→x'.w=x.w→tW x' (.ref 728) (cS [.obj 0] [yn st ln tok,xr b p] (.str t) [yn st' ln' tok',xr b' p'])):
  tW x (.ref 764) (cS [.obj 0] [yn st ln tok,xr b p] (.str t) [yn st' ln' tok',xr b' p']):=by
 refine Td B (by exact yq (by assumption) (by decide)) (Dh _) (wr:=[]) (F:=F4 _) (DP:=DP) rfl (fun U B' hw=>Dz B' (zN 0x3ac33523c033113502 [n] hn rfl) (hS _ B' hw)) (fun U B' U=>ae B' (zN 0x3ac33523ca33113502 [n] hn rfl)) fun avs kvs H k h=>?_
 obtain⟨⟨rfl,rfl,rfl⟩,h⟩:=h
 refine⟨_,tU (n1:=za "self") (fun v1=>⋯),⋯,fun x' B' Ft hw=>?_⟩
 rw[nV]
 refine zQ.app (((yl Ft 30).s (cq.take 1) _ _ (fun f fr1 H1=>f=.next∧fr1=Fr (.str t)∧H1=[yn st' ln' tok',xr b' p']) (by
  refine(?_:(ev (DC x.w.params _) 30).s (cq.take 1) [(za "self",.obj 0)] _ _)
  rw[nW];exact⟨⟨rfl,rfl,rfl⟩,rfl,rfl,rfl⟩)).mono fun f fr1 H1 hh=>?_)
 obtain⟨rfl,rfl,rfl⟩:=hh
 refine zQ.cons ?_
 rw[nU]
 refine zQ.if_ (((yl Ft 30).b _ _ _ (fun c H1=>c=false∧H1=[yn st' ln' tok',xr b' p']) (by
   refine(?_:(ev (DC x.w.params _) 30).b _ _ _ _)
   rw[jX];exact⟨rfl,rfl⟩)).mono fun c H1 q=>?_)
 obtain⟨rfl,rfl⟩:=q
 refine⟨fun z=>(by cases z),fun U=>zQ.nil ?_⟩
 exact(yl Ft 30).s _ _ _ _ (zw (Aq ..) h)
theorem QM{n:Nat}{x:Cx}(B:Base n x)(hn:n<940){st st':AV}{ln ln' p p':Int}{tok tok' b b':Str}(hS:∀x',Base (n+1) x'→x'.w=x.w→tW x' (.ref 728) (cS [.obj 0] [yn st ln tok,xr b p] .none [yn st' ln' tok',xr b' p'])):
  ra x (.ref 764) [.obj 0] [yn st ln tok,xr b p] [yn st' ln' tok',xr b' p']:=by
 intro fr s Z vs c1 R g
 have I:=Dh x.w.params
 refine zt I.at_ fun fo ho hd=>?_
 have XK:=B.K.keeps Z.base
 have nm:=I.names
 rw[zk,zk,zk]at nm
 refine zK nm fun z0 n4=>?_;clear nm;obtain⟨⟨n1,n2⟩,n3⟩:=z0
 have cons:∀p∈(wU (VY x.w.params)).scope.names,(wU (VY x.w.params)).scope.names.lookup p.1=some p.2:=fun p hp=>by
  have:=zJ.mp n1 p hp
  rw[beq_iff_eq,vE]at this;exact this
 refine zt ((tU (x:=x) (fd:=wU (VY x.w.params)) (a1:=.obj 0) (n1:=za "self") (fun v1=>⋯)) s fr _ vs [] Z c1 rfl) fun binds b1 b2=>qU (x:=x) Z (args:=⟨vs,[]⟩) (XK _ _ ho) hd (ud XK I.code) I.body b1 b2 (by refine zc I.clos ?_;exact Capt.nil n2) cons (fun p hp=>?_) I.co I.gen I.kind (xj B.room.de (by show n<1000;exact yq (by assumption) (by decide))) fun env oc s1 eo hf S1 C1 m1 m2=>?_
 ·rcases zd.mp hp with rfl
  left;refine xv (vE ..) ?_;kernel_rfl
 ·have Bx:Base (n+1) (x.at' (x.A.deeper env) env oc [] (env.locals::x.fs)):=B.deeper hf (by refine zc eo.sc (zc I.kind ?_);decide)
  have Ft:Fits (Ze x.w.params (wU (VY x.w.params)).scope.names [] (F4 (cS [.obj 0] [yn st ln tok,xr b p] .none [yn st' ln' tok',xr b' p'])) DP) (x.at' (x.A.deeper env) env oc [] (env.locals::x.fs)):=Yj Bx (by show env.scope.kind=_;refine zc eo.sc ?_;exact I.kind) (by show env.scope.names=_;exact zc eo.sc rfl) (by(rw[n3];refine zc n4 ?_);rfl)
   (fun m hm c hc=>by simp at hm) (by show env.globals=_;refine zc eo.gl ?_;exact I.gl) (by show env.builtins=_;refine zc eo.bi ?_;exact I.bi) (Dz Bx (zN 0x3ac33523c033113502 [n] hn rfl) (hS _ Bx rfl)) (ae Bx (zN 0x3ac33523ca33113502 [n] hn rfl))
  refine wO B.link fun envs l1 l2 l3=>zc nV ?_
  refine uT (x:=x.at' (x.A.deeper env) env oc [] (env.locals::x.fs)) ((yl Ft 30).s (cq.take 1) _ _ (fun f fr1 H1=>f=.next∧fr1=Fr .none∧H1=[yn st' ln' tok',xr b' p']) (by
   refine(?_:(ev (DC x.w.params _) 30).s (cq.take 1) [(za "self",.obj 0)] _ _)
   refine zw (nW ..) ?_;exact⟨⟨rfl,rfl,rfl⟩,rfl,rfl,rfl⟩) s1 S1 _ _ fun fl a fr2 H2 s2 q c2 S2 K2=>?_)
  refine yU q fun z0 z1 z2=>?_;clear q;subst z0;subst z1;subst z2
  cases c2
  refine zO (zc nU ?_)
  refine wpAny_If ((yl Ft 30).b _ _ _ (fun c H1=>c=true∧H1=[yn st' ln' tok',xr b' p']) (by
   refine(?_:(ev (DC x.w.params _) 30).b _ _ _ _)
   refine zw (jY ..) ?_;exact⟨rfl,rfl⟩) s2 S2 _ _ fun c H3 s3 q S3 K3=>?_)
  refine zK q fun z0 z1=>?_;clear q;subst z0;subst z1
  refine zO (owsi_raiseC B.room.hh (Ul (x:=za "StopIteration") Ft.fn (by
   refine(?_:env.scope.names.lookup _=_)
   refine zc eo.sc (xv (vE ..) ?_);kernel_rfl) (loadGlobal_builtin (mg:=b9 (Wh (rC x.w.params))) (mb:=b9 (Wh (Fe x.w.params))) (by
    have:=Bx.mg.keeps S3.base
    refine(?_:s3.heap.Ns env.globals _)
    refine zc eo.gl ?_;exact this) ⋯ (by
    have:=Bx.mb.keeps S3.base
    refine(?_:s3.heap.Ns env.builtins _)
    refine zc eo.bi ?_;exact this) (v:=.type "StopIteration") ⋯ ⟨rfl,rfl⟩) ⋯) fun h' e hm=>?_)
  refine dF (x:=x.at' (x.A.deeper env) env oc [] (env.locals::x.fs)) (envs:=envs) (by show x.A.frames.map _=_;refine zc l1 ?_;rfl) (by show env.frame::_=_::_;refine zc hf ?_;exact congrArg _ l2) (fun e he=>by
   rcases zn.mp he with he|he
   ·refine zc he (?_:env.scope.kind≠_)
    refine zc eo.sc (zc I.kind ?_);decide
   ·exact l3 e he) S3 hm fun h2 Kh S4 ex=>?_
  have K4:Kept (x.at' (x.A.deeper env) env oc [] (env.locals::x.fs)) s3 {s3 with heap:=h2}:=⟨⟨_,_,_,rfl⟩,fun b o q U=>Kh b o q⟩
  have c2:Chg x s {s3 with heap:=h2}:=Chg.of_kept C1 (K2.trans (K3.trans K4)) m1 m2
  exact g _ _ ex (St.back Z S4 c2) c2.kept
end
section
section
variable {M:fb} {A:y1} {E:zi→zg→Prop} {s:zg} {K:uQ} {a C f:zI} {ox:xK} {od:Option xK}
theorem di(X:K.In s.heap)(I:InstAt s.heap a ox C od)(hs:Zp K (.ref C) "__next__" = some (some (.ref f)))(hf:isFn K (.ref f)=true)(h:zr M A (call (.ref f) [.ref a]) (fun v s'=>Q (some v) s') (OwitStop M A Q E) s):zr M A (Uh (.ref a)) Q E s:=by
 unfold Uh
 refine zb (TP (special_fn (name := "__next__") (args:=[]) X I hs (beq_iff_eq.mp hf) (wE h (fun v s' hq=>wpAny_pure hq) fun e s' he=>?_)))
 refine zb (wE he (fun b s2 hb=>?_) fun U U z=>z)
 cases b with
 |true=>exact wpAny_pure hb
 |false=>exact wpAny_throw hb
theorem nJ(ex:∃ob,s.heap.get? e=some ob∧ob.cls=.type "StopIteration")(h:Q none s):OwitStop M A Q E (.ref e) s:=
 eQ (T := "StopIteration") (b:=true) ex owsi_facts.sub (by refine zw (if_pos rfl) ?_;exact h)
end
inductive LexRun(w:ya)(n:Nat):Hp→List AV→Hp→Prop
 |stop {fs:List (Str×AV)} {H H':Hp}:(∀x,Base n x→x.w=w→ra x (.ref 764) [.obj 0] (.inst 767 fs::H) H')→LexRun w n (.inst 767 fs::H) [] H'
 |item {fs:List (Str×AV)} {H H1 H2:Hp} {a:AV} {l:List AV}:(∀x,Base n x→x.w=w→tW x (.ref 764) (cS [.obj 0] (.inst 767 fs::H) a H1))→LexRun w n H1 l H2→LexRun w n (.inst 767 fs::H) (a::l) H2
theorem bv:Zp (KF P) (.ref 767) "__next__" = some (some (.ref 764)):=⋯
theorem AC:Zp (KF P) (.ref 767) "__iter__" = some (some (.ref 757)):=⋯
theorem E7:Zp (KF P) (.ref 767) "__len__" = some none:=⋯
theorem AD:Zp (KF P) (.ref 767) "__length_hint__" = some none:=⋯
theorem i4:isFn (KF P) (.ref 764)=true:=⋯
theorem A6:isFn (KF P) (.ref 757)=true:=⋯
theorem St.inst0(S:St x fr (.inst 767 fs::H) s)(ha:x.ρ.ob[0]?=some a):∃ox od,InstAt s.heap a ox 767 od:=by
 refine x7 (S.objs 0 _ rfl) fun b d hb hd h1 z5=>?_;refine yW z5 fun es n h2 h3=>?_;clear z5
 rw[ha]at hb;(replace hb:=zf hb;subst hb)
 exact⟨_,_,ZW h1 h2⟩
theorem oB(B:Base n (x.wA A.in1))(ao:AccOk x acc)(ha:x.ρ.ob[0]?=some a)(L:LexRun x.w n H l H2):
  ∀(s:zg) (vs:List zi) (c:Nat),vs.length+l.length≤sizeLine→St x fr H s→s.heap.get? acc=some {cls:=.type "list",dict:=none,data:=.seq ⟨vs⟩ c,slots:=#[]} →
   (∀s' ws c',St x fr H2 s'→s'.heap.get? acc=some {cls:=.type "list",dict:=none,data:=.seq ⟨vs++ws⟩ c',slots:=#[]}→ConL x.ρ s'.heap l ws→KeptX x [acc] s s'→R (.ok (.ret res)) s') →
   y4 (zu pw x.w) A (.builtin "list.extend.loop" ⟨[.ref acc,.ref a,res],[]⟩) R s:=by
 induction L with
 |@stop fs H H' hS =>
  intro s vs c hz S hA hR
  refine codeAny_builtin F.entry_extend_loop (zc (vk F.plain_extend_loop _) (Y5 (S.inst0 ha) fun ox od I=>zb (di (B.K.keeps S.base) I bv i4 (yL (hS (x.wA A.in1) B rfl fr s S.wA [.ref a] (qJ ⟨_,[],rfl,ub ⟨_,ha,rfl⟩,rfl⟩) _ fun e s' ex S' K'=>?_)))))
  refine nJ ex (wpAny_pure ?_)
  exact hR s' [] c S'.unA (by refine zc (yB ..) ?_;exact K'.keepN hA ao.nt rfl) (rfl) ⟨K'.rest,fun b o e n U=>K'.keep b o e n⟩
 |@item fs H H1 H2 av l hS L ih =>
  intro s vs c hz S hA hR
  refine codeAny_builtin F.entry_extend_loop (zc (vk F.plain_extend_loop _) (Y5 (S.inst0 ha) fun ox od I=>zb (di (B.K.keeps S.base) I bv i4 (yL (hS (x.wA A.in1) B rfl fr _ _ [] (fun b H'=>b=av∧H'=H1) ⟨⟨rfl,rfl,rfl⟩,rfl,rfl⟩ s S.wA [.ref a] [] (qJ ⟨_,[],rfl,ub ⟨_,ha,rfl⟩,rfl⟩) rfl _ fun v b H' s1 q c1 S1 K1=>?_)))))
  refine zK q fun z0 z1=>?_;clear q;subst z0;subst z1
  have hA1:=K1.keepN hA ao.nt rfl
  have S1:=S1.unA
  refine zb ?_
  have k3:∀b' o,b'≠acc→s1.heap.get? b'=some o→(s1.heap.update acc (yj (·.push v))).get? b'=some o:=fun b' o n e=>(qd _ _ (uF n)).trans e
  have e3:=zP (yj (·.push v)) hA1 rfl
  have S3:St x fr H' {s1 with heap:=s1.heap.update acc (yj (·.push v))}:=S1.other (tk:=s1.toks) ao.op ao.far ao.nt k3 ⟨_,e3⟩
  refine Vh hA1 rfl (wpAny_pure ⟨plainId_quiet F.plain_extend_loop _,ih {s1 with heap:=s1.heap.update acc (yj (·.push v))} (vs++[v]) _ (by simp at hz ⊢;omega) S3 (e3.trans (by show some (Obj.mk _ _ (Data.seq (Array.push ⟨vs⟩ v) _) _)=_;exact zc (qe ..) rfl)) fun s' ws c' q1 q2 q3 q4=>?_⟩)
   (by simp at hz;show vs.length≤_;omega) (by simp at hz;show(Array.push ⟨vs⟩ v).size≤sizeLine+1;refine zc (qe ..) ?_;simp;omega)
  have nm3:yH x.ρ.op s1.heap (s1.heap.update acc (yj (·.push v))):=fun b' o n e U=>k3 b' o (fun z=>n (z▸ao.op)) e
  have nm4:=S3.nonMutX q4 fun b' hb=>by refine zc (zd.mp hb) ?_;exact ao.op
  refine hR s' (v::ws) c' q1 (by rw[zA]at q2;exact q2) (qJ ⟨v,ws,rfl,(c1.mono nm3).mono nm4,q3⟩) ?_
  have kA:KeptX x [acc] s s1:=⟨K1.rest,fun b' o e n U=>K1.keep b' o e n⟩
  have kB:KeptX x [acc] s1 {s1 with heap:=s1.heap.update acc (yj (·.push v))}:=⟨⟨_,_,_,rfl⟩,fun b' o e U m=>⟨o,k3 b' o (fun z=>m (by refine zc z ?_;exact .head _)) e,.refl o⟩⟩
  exact(kA.trans kB).trans q4
end
section
theorem Kg(P:zp):FnIs P 757 (wU (iU P)) (wt (zm (x6 (zm pw.main.body 26)) 9)):=⟨⟨iU P,⋯,rfl⟩,⋯,rfl,⋯,⋯,⋯,rfl,rfl,rfl,⋯⟩
def ID:yG:=fun avs kvs H k=>(avs=[.obj 0]∧kvs=[])∧k (.obj 0) H
theorem A0(P:zp)(H:Hp)(k:AFlow→y3→Hp→Prop):(ev (Ze P (wU (iU P)).scope.names [] F2 DP) 20).s (wt (zm (x6 (zm pw.main.body 26)) 9)) (vI [] [(za "self",.obj 0)]) H k=k (.ret (.obj 0)) [(za "self",.obj 0)] H:=⋯
theorem A4(B:Base n x)(hn:n<950):tW x (.ref 757) ID:=by
 refine bq B (zN 0x3b633523de3352 [n] hn rfl) (Kg _) (wr:=[]) (F:=F2) (DP:=DP) (fuel:=20) rfl (fun U B' U=>eO B' (zN 0x3b633523ca33113502 [n] hn rfl)) (fun U B' U=>ae B' (zN 0x3b633523ca33113502 [n] hn rfl)) fun avs kvs H k h=>?_
 obtain⟨⟨rfl,rfl⟩,h⟩:=h
 refine⟨_,tU (n1:=za "self") (fun v1=>⋯),⋯,?_⟩
 exact zw (A0 ..) h
section
variable {M:fb} {A:y1} {E:zi→zg→Prop} {s:zg} {K:uQ} {a C f g:zI} {ox:xK} {od:Option xK}
theorem nM(X:K.In s.heap)(I:InstAt s.heap a ox C od)(hs:Zp K (.ref C) "__iter__" = some (some (.ref f)))(hf:isFn K (.ref f)=true)(h:zr M A (call (.ref f) [.ref a]) (fun v s'=>v=.ref a∧∃ox' od',K.In s'.heap∧InstAt s'.heap a ox' C od'∧Q (.ref a) s') E s)(hn:Zp K (.ref C) "__next__" = some (some (.ref g))):zr M A (XA (.ref a)) Q E s:=by
 have fin:zr M A (call (.ref f) [.ref a] >>= fun v=>pure (some v)) (fun r s'=>r=some (.ref a)∧∃ox' od',K.In s'.heap∧InstAt s'.heap a ox' C od'∧Q (.ref a) s') E s:=
  zb (wE h (fun v s' h'=>wpAny_pure ⟨congrArg some h'.1,h'.2⟩) fun U U z=>z)
 unfold XA
 refine zb (zb (I.type.here ((uu X hs).here ?_)))
 refine zb (wE (Q:=fun r s'=>r=some (.ref a)∧∃ox' od',K.In s'.heap∧InstAt s'.heap a ox' C od'∧Q (.ref a) s') ?_ (fun r s' hr=>?_) fun U U z=>z)
 ·simp only[callSpecialIfBoundUnlessNone?,bindSpecialIfBound?]
  refine zV (zb (zb (zb (I.type.here ((uu X hs).here ?_)))))
  refine zb (vU (wpAny_ite ?_))
  have nn:¬((yJ f==xn)=true):=ZO
  split
  ·exact zb ((Cv X _ (beq_iff_eq.mp hf)).here (wpAny_pure (by show zr M A (if(yJ f==xn)=true then _ else _) _ _ _;refine zc (if_neg nn) ?_;exact fin)))
  ·exact k5 (zb ((Cv X _ (beq_iff_eq.mp hf)).here (wpAny_pure (by show zr M A (if(yJ f==xn)=true then _ else _) _ _ _;refine zc (if_neg nn) ?_;exact fin))))
 ·refine zK hr fun z0 z1=>?_;clear hr;subst z0;refine xk z1 fun ox' od' X' I' q=>?_;clear z1
  exact zb (zb (I'.type.here ((uu X' hn).here (wpAny_pure q))))
end
end
section
theorem St.shut(S:St (x.wi Y) fr H s):St x fr H s:=by
 have hs:∀a∈x.ρ.op,a∈Y++x.ρ.op:=fun a q=>zD _ q
 refine yU S.frame fun z0 c1 c2=>?_;obtain⟨mm,n,f⟩:=z0
 refine⟨S.base,S.apart,S.kinds,⟨⟨mm,n,fun y av e q=>?_⟩,fun y av e q=>?_,c2⟩,fun i o e=>?_,S.lim,S.nodup,S.own,S.cnod,fun a q=>S.opn a (hs a q),S.ocs,S.ol,S.cex,S.frs⟩
 ·refine zt (f y av e q) fun v p r=>?_;exact⟨v,p,r.close hs⟩
 ·refine xk (c1 y av e q) fun cc v p b d=>?_;exact⟨cc,v,p,b,d.close hs⟩
 ·exact xk (S.objs i o e) fun a d p q r=>⟨a,d,p,q,r.close hs⟩
theorem oz(B:Base n x)(hn:n<940)(L:LexRun x.w (n+2) (.inst 767 fs::H) l H2)(hl:l.length≤sizeLine):
  y9 x (.type "list") (cS [.obj 0] (.inst 767 fs::H) (.list l) H2):=by
 intro fr H' avs kvs k hs s S vs kws c1 c2 Q E g
 refine zK hs fun z0 hk=>?_;clear hs;obtain⟨rfl,rfl,rfl⟩:=z0
 obtain⟨v,vs',rfl,cv,c1⟩:=uq c1
 replace c1:_=[]:=c1
 subst c1
 cases c2
 refine zt (qI cv) fun a ha z2=>?_;subst z2
 have sz:s.heap.get? s.heap.objs.size=none:=by
  cases e:s.heap.get? s.heap.objs.size with
  |none=>rfl
  |some o=>exact absurd (zY e) (yI _)
 let acc:=s.heap.objs.size
 let s1:zg:={s with heap:=s.heap.push {cls:=.type "list",data:=.seq #[]}}
 have X1:Ext s s1:=Ext.push s _ s.toks
 have e1:s1.heap.get? acc=some {cls:=.type "list",data:=.seq #[]}:=zx _ rfl
 have S1:St (x.wi [acc]) fr (.inst 767 fs::H) s1:=S.openE X1 [acc] (fun b hb=>by refine zc (zd.mp hb) ?_;exact sz) fun b hb=>by refine zc (zd.mp hb) ?_;exact⟨_,e1⟩
 have nt:=S.notTch sz
 have far:=S.far sz
 have ao:AccOk (x.wi [acc]) acc:=⟨.head _,⟨far.lo,far.ce,far.de,far.ob,far.ba,far.st,far.fr⟩,nt⟩
 have ne:acc≠a:=fun z=>far.ob (by show acc∈_;refine zc z ?_;exact zH ha)
 refine callType_codes (Q₁:=fun obj s₁=>obj=.ref acc∧s₁=s1) F.called_list (F.typeCall_list_1 _) F.entry_list_init (code_list_new _ ⟨rfl,rfl⟩) fun obj s₁ h₁=>zK h₁ fun z0 z1=>?_;clear h₁;subst z0;subst z1
 refine⟨⟨_,e1,rfl⟩,F.args_list_init_2 _ _,?_⟩
 show zr _ x.A.in1.in1 (do let old ←TS (.ref acc);Builtin.List.listUpdate (.ref acc) (fun U=>#[]);letGo old.toList.reverse;wB (.ref acc) (.ref a) .none) _ _ s1
 refine zb ?_
 unfold TS
 refine zb (k6 e1 rfl (wpAny_pure ?_))
 show zr _ x.A.in1.in1 (updateSeq acc (fun U=>#[]) >>= fun U=>letGo (#[]:Array zi).toList.reverse >>= fun U=>wB (.ref acc) (.ref a) .none) _ _ s1
 refine zb (Vh e1 rfl ?_)
 have up:∀{f:Array zi→Array zi} {t:zg} {vs:Array zi} {c:Nat},St (x.wi [acc]) fr (.inst 767 fs::H) t→t.heap.get? acc=some {cls:=.type "list",data:=.seq vs c} →
   St (x.wi [acc]) fr (.inst 767 fs::H) {t with heap:=t.heap.update acc (yj f)}:=fun{f t vs c} T e =>
  T.other (tk:=t.toks) ao.op ao.far ao.nt (fun b o n e=>(qd _ _ (uF n)).trans e) ⟨_,zP _ e rfl⟩
 have oth:∀{f:Array zi→Array zi} {t:zg} (b:zI) (o:xK),b≠acc→t.heap.get? b=some o→(t.heap.update acc (yj f)).get? b=some o:=fun b o n e=>(qd _ _ (uF n)).trans e
 let s2:zg:={s1 with heap:=s1.heap.update acc (yj (fun U=>(#[]:Array zi)))}
 have S2:St (x.wi [acc]) fr (.inst 767 fs::H) s2:=up S1 e1
 have e2:s2.heap.get? acc=some {cls:=.type "list",data:=.seq #[] 0}:=zP (yj (fun U=>(#[]:Array zi))) e1 rfl
 refine zb (GZ ?_)
 show zr _ x.A.in1.in1 (wB (.ref acc) (.ref a) .none) _ _ s2
 refine Y5 (S2.inst0 ha) fun ox od I2=>?_
 have B2:Base (n+2) ((x.wi [acc]).wA x.A.in1.in1):=⟨B.K,B.room.in1.in1,B.link⟩
 unfold wB
 refine zb (I2.type.here ?_)
 have h1:UL (.ref acc) (.ref a)=false:=by simp[UL,ne]
 have h2:(yJ 767==yK "list")=false:=by decide
 have h3:(yJ 767==yK "tuple")=false:=by decide
 simp only[h1,h2,h3,Bool.or_false,ZP,if_false]
 refine zb (nM (B.K.keeps S2.base) I2 AC A6 (yL (A4 B2 (zN 0x3ac33523b633213502 [n] hn rfl) fr _ [.obj 0] [] (fun b H'=>b=.obj 0∧H'=.inst 767 fs::H) ⟨⟨rfl,rfl⟩,rfl,rfl⟩ s2 S2.wA [.ref a] [] (qJ ⟨_,[],rfl,ub ⟨_,ha,rfl⟩,rfl⟩) rfl _ fun v b H' s3 q c3 S3 K3=>?_)) bv)
 refine zK q fun z0 z1=>?_;clear q;subst z0;subst z1
 refine zt (qI c3) fun a' ha' z2=>?_;subst z2
 have:a'=a:=by
  have h:x.ρ.ob[0]?=some a':=ha'
  rw[ha]at h;(replace h:=zf h;subst h);rfl
 subst this
 have S3:=S3.unA
 refine Y5 (S3.inst0 ha) fun ox3 od3 I3=>?_
 have X3:=B.K.keeps S3.base
 refine⟨rfl,ox3,od3,X3,I3,?_⟩
 have e3:=K3.keepN e2 nt rfl
 refine zb (zV ?_)
 unfold Builtin.List.listLengthHint
 refine zb (zb (I3.type.here ((uu X3 E7).here ?_)))
 show zr _ x.A.in1.in1 (specialOf (yJ a') (za "__length_hint__") >>= _) _ _ _
 refine zb (zb (I3.type.here ((uu X3 AD).here ?_)))
 refine wpAny_pure ?_
 show zr _ x.A.in1.in1 (rule "list.extend.makes-room" >>= fun U=>Builtin.List.listTouch (.ref acc) >>= fun U =>
  again (.builtin "list.extend.loop" ⟨[.ref acc,.ref a',.none],[]⟩)) _ _ _
 refine zb (wpAny_rule ?_)
 refine zb ?_
 show zr _ x.A.in1.in1 (updateSeq acc (·.push .none) >>= fun U=>updateSeq acc (·.pop)) _ _ _
 refine zb (Vh e3 rfl ?_)
 have S4:=up (f:=(·.push xn)) S3 e3
 have e4:=zP (yj (·.push xn)) e3 rfl
 refine Vh (hz:=by seq_fits) e4 rfl ?_
 have S5:=up (f:=(·.pop)) S4 e4
 have e5:=zP (yj (·.pop)) e4 rfl
 refine wpAny_pure ⟨plainId_quiet F.plain_extend_loop _,oB (A:=x.A.in1) B2 ao ha L _ [] _ (by simpa using hl) S5 e5 fun s' ws c' S' A' C' K'=>?_⟩
 have k05:∀b o,s.heap.get? b=some o→¬uG x b→∃o',s'.heap.get? b=some o'∧tu o o':=fun b o e n=>by
  have nb:b≠acc:=fun z=>by rw[z,sz]at e;exact nS e
  exact zt (K3.keep b o (oth b o nb (X1.keep _ _ e)) n) fun o3 p3 r3=>zt (K'.keep b o3 (oth b o3 nb (oth b o3 nb p3)) n (by simpa using nb)) fun o6 p6 r6=>⟨o6,p6,r3.trans r6⟩
 have K0:Kept x s s':=⟨by
  refine xd K3.rest fun h3 t3 d3 z3=>xd K'.rest fun h6 t6 d6 z6=>zc z6 (zc z3 ?_);exact⟨h6,t6,d6,rfl⟩,k05⟩
 refine⟨rfl,g _ _ H2 s' hk ?_ S'.shut K0⟩
 rw[wh]at A'
 exact Yi (S.notOp sz) A' (C'.close fun b q=>zD _ q)
end
section
noncomputable def vh:Nat→List Nat→Option (List (List Nat))
 |0,_=>none
 |n+1,l=>(yx .sp false [] l).bind fun R=>if R.1=false∧R.2.1=[]then some []else if R.2.2.2=true then some [R.2.1]else(vh n R.2.2.1).map (R.2.1::·)
theorem YW:vh (n+1) l=(yx .sp false [] l).bind fun R=>if R.1=false∧R.2.1=[]then some []else if R.2.2.2=true then some [R.2.1]else(vh n R.2.2.1).map (R.2.1::·):=rfl
theorem wn{α:Type}{P:Prop}[Decidable P]{a b:Option α}{x:α}{G:Prop}(f:a=some x→G)(g:b=some x→G)(h:(if P then a else b)=some x):G:=by
 rcases wb h with⟨-,h⟩|⟨-,h⟩
 ·exact f h
 ·exact g h
theorem Yd{α:Type}{x:α}{G:Prop}(h:none=some x):G:=by exact nS h
theorem AB{ls:LS}{q:Bool}{t r:List Nat}{c:Nat}{R:Bool×List Nat×List Nat×Bool}(h:yx ls q t (c::r)=some R):(∃ls2 q2 t2,yx ls2 q2 t2 r=some R)∨R=(q,t,r,false):=by
 have i:∀{ls2 q2 t2},yx ls2 q2 t2 r=some R→(∃ls2 q2 t2,yx ls2 q2 t2 r=some R)∨R=(q,t,r,false):=fun{ls2 q2 t2} h=>.inl ⟨ls2,q2,t2,h⟩
 cases ls with
 |sp=>exact wn (wn i Yd) (wn i (wn i (wn i (wn i Yd)))) (WM▸h)
 |wd=>exact wn (wn (fun h=>.inr (zf h).symm) Yd) (wn i (wn i (wn i (wn i Yd)))) (Yk▸h)
 |s1=>exact wn i (wn i Yd) (UB▸h)
 |s2=>exact wn i (wn i Yd) (UA▸h)
 |bs=>exact wn i Yd (bu▸h)
theorem oH(h:yx ls q t []=some R):R=(q,t,[],true):=by
 cases ls with
 |sp=>exact(zf h).symm
 |wd=>exact(zf h).symm
 |_=>exact nS h
theorem oG:∀(l:List Nat) (ls:LS) (q:Bool) (t:List Nat) {R:Bool×List Nat×List Nat×Bool},yx ls q t l=some R→(∃pre,l=pre++R.2.2.1)∧(R.2.2.2=true→R.2.2.1=[]):=by
 intro l0
 induction l0 with
 |nil =>
  intro ls q t R h
  refine zc (oH h) ?_;exact⟨⟨[],rfl⟩,fun U=>rfl⟩
 |cons c r ih =>
  intro ls q t R h
  rcases AB h with⟨ls2,q2,t2,g⟩|e
  ·refine zK ((ih ls2 q2 t2 g)) fun z0 h2=>?_;obtain⟨pre,h1⟩:=z0
   exact⟨⟨c::pre,congrArg (c::·) h1⟩,h2⟩
  ·refine zc e ?_;exact⟨⟨[c],rfl⟩,fun z=>by exact fT z⟩
theorem CQ(h:tW x (.ref 735) (Mi b p ln q' t' rest e))(hr:El q' t'=res):
  tW x (.ref 735) (cS [.obj 0] [yn (.str (sq 32)) ln (za ""),xr b (p:Nat)] res [yn (bif e then .none else .str (sq 32)) ln (za ""),xr b (b.length-rest.length:Nat)]):=by
 subst hr
 exact h
theorem oA(hm:m<940)(hb:b.length<sizeLine)(ln:Int):LexRun w m [yn .none ln (za ""),xr b (b.length:Nat)] [] [yn .none ln (za ""),xr b (b.length:Nat)]:=
 .stop fun x B hw=>QM B (zN 0x3ac33523ac3352 [m] hm rfl) fun x' B' hw'=>Yl B' (zN 0x3ac33523b633113502 [m] hm rfl) rfl fun x'' B'' hw''=>Ac B'' (zN 0x3ac33523c0331131135002 [m] hm rfl) hb
theorem AA(hm:m<940)(hb:b.length<sizeLine)(ln:Int):∀(n p:Nat) (ts:List (List Nat)),p≤b.length→vh n (b.cps.toList.drop p)=some ts →
  ∃H',LexRun w m [yn (.str (sq 32)) ln (za ""),xr b (p:Nat)] (ts.map fun t=>.str (tS t)) H':=by
 intro l0
 induction l0 with
 |zero =>
  intro _ _ _ h
  exact nS h
 |succ n ih =>
  intro p ts hp h
  refine zt (zl.mp h) fun R hr h=>?_
  ·obtain⟨q',t',rest,e⟩:=R
   refine zK (oG _ _ _ _ hr) fun z0 he=>?_;obtain⟨pre,hs⟩:=z0
   replace hs:b.cps.toList.drop p=pre++rest:=hs
   replace he:e=true→rest=[]:=he
   replace h:(if q'=false∧t'=[]then some []else if e=true then some [t']else(vh n rest).map (t'::·))=some ts:=h
   have R0:∀{x:Cx} {k:Nat},Base k x→k<960→tW x (.ref 735) (Mi b p ln q' t' rest e):=fun B hk=>T6 B hk hp hb hr
   by_cases ht:q'=false∧t'=[]
   ·rw[if_pos ht]at h
    replace h:=zf h;subst h
    exact⟨_,.stop fun x B hw=>QM B (by omega) fun x' B' hw'=>Yl B' (by omega) rfl fun x'' B'' hw''=>CQ (R0 B'' (by omega)) (if_pos ht)⟩
   ·rw[if_neg ht]at h
    have it:∀{k:Nat} {x:Cx},Base k x→k<940→tW x (.ref 764) (cS [.obj 0] [yn (.str (sq 32)) ln (za ""),xr b (p:Nat)] (.str (tS t')) [yn (bif e then .none else .str (sq 32)) ln (za ""),xr b (b.length-rest.length:Nat)]):=
     fun B hk=>j4 B hk fun x' B' hw'=>Yl B' (by omega) rfl fun x'' B'' hw''=>CQ (R0 B'' (by omega)) (if_neg ht)
    by_cases hE:e=true
    ·rw[if_pos hE]at h
     replace h:=zf h;subst h
     subst hE
     have hrest:=he rfl
     subst hrest
     exact⟨_,.item (fun x B hw=>it B (by omega)) (oA hm hb ln)⟩
    ·rw[if_neg hE]at h
     have hE:e=false:=by simpa using hE
     subst hE
     cases hl:vh n rest with
     |none=>rw[hl]at h;exact nS h
     |some ts' =>
      rw[hl]at h
      replace h:=zf h;subst h
      have hlen:rest.length≤b.length:=by
       have:=congrArg xH hs
       rw[qD,zG,←v9]at this
       omega
      have hd:b.cps.toList.drop (b.length-rest.length)=rest:=by
       have h2:=congrArg xH hs
       rw[qD,zG,←v9]at h2
       refine zc (show b.length-rest.length=p+pre.length by exact zE (dz 0x680aa95097087605 [b.length-rest.length,p,pre.length,b.length-p,rest.length,b.length] (ze h2) (ze (zh hlen)) (ze (zh hp).symm) rfl) (dz 0xa590870a98607650 [p,pre.length,b.length-rest.length,rest.length,b.length-p,b.length] (ze h2.symm) (ze (zh hlen).symm) (ze (zh hp)) rfl)) (xv Hu (zc hs ?_))
       simp
      obtain⟨H',r⟩:=(ih (b.length-rest.length) ts' (by exact zN 25957 [b.length-rest.length,b.length] (qQ ..) rfl) (by rw[hd];exact hl))
      exact⟨H',.item (fun x B hw=>it B (by exact zN 0x3ac33523ac3352 [m] hm rfl)) r⟩
end
section
theorem pF:mroOf (.type "collections.deque")=pure [.type "collections.deque",.type "object"]:=by refine zc (mroOf_type ..) ?_;kernel_rfl
theorem ej:ut (.type "collections.deque") "__new__" = pure (some (.builtin "collections.deque.__new__")):=by refine zc (uD ..) (zc wz ?_);kernel_rfl
theorem bI:ut (.type "collections.deque") "__init__" = pure (some (.builtin "collections.deque.__init__")):=by refine zc (uD ..) (zc wz ?_);kernel_rfl
theorem gw:Wv (.type "collections.deque") (.type "collections.deque")=pure true:=by refine zc (YF ..) ?_;kernel_rfl
theorem Bo:Slot "collections.deque" "__init__" "collections.deque.__init__" := Slot.of bI (owner := "collections.deque") (n := "__init__") (by decide +kernel) (by decide +kernel) (by decide +kernel) (by decide +kernel) gw
theorem kP:TypeCalled "collections.deque" "collections.deque.__new__" "collections.deque.__init__" :=
 ⟨by decide +kernel,by decide +kernel,⟨_,_,pF⟩,madeBy_type pF ej (by decide +kernel),by decide +kernel,gw,Bo⟩
theorem ei:checkTypeCall "collections.deque" ⟨[],[]⟩=pure ():=⋯
theorem gy:tz "collections.deque.__new__" ⟨[.type "collections.deque"],[]⟩=pure ():=⋯
theorem bJ:YG lb "collections.deque.__new__" = some Builtin.«collections.deque.__new__»:=vW ⋯
theorem Ql:YG lb "collections.deque.__init__" = some Builtin.«collections.deque.__init__»:=vW ⋯
theorem pE:plainId "collections.deque.__new__" = true:=by decide +kernel
theorem Bq(a:zi):Ui "collections.deque.__init__" ⟨[a],[]⟩:=by unfold Ui;kernel_rfl
noncomputable abbrev ek:xK:={cls:=.type "collections.deque",data:=.fields #[.none,rawInt 0]}
theorem FQ(h:Q₁ (.ref s.heap.objs.size) {s with heap:=s.heap.push ek}):
  y4 (zu pw w) A (.call (.builtin "collections.deque.__new__") ⟨[.type "collections.deque"],[]⟩) (G1 Q₁ E) s:=by
 refine vG pE bJ (x8 gy ?_)
 obtain⟨hp,g,d,tk,os⟩:=s
 show zr _ _ (Builtin.Deque.newArgs Builtin.Deque.ty ⟨[.type "collections.deque"],[]⟩ >>= _) _ _ _
 refine zb ?_
 show zr _ _ (Wv (.type "collections.deque") (.type "collections.deque") >>= _) _ _ _
 refine zb (x8 gw (wpAny_pure ?_))
 show zr _ _ (newObj (.type "collections.deque") (.fields #[.none,rawInt 0]) none >>= _) _ _ _
 refine zb (yQ ?_)
 exact wpAny_pure h
def M6:yG:=fun avs kvs H k=>(avs=[]∧kvs=[])∧k .dq H
theorem Kw:y9 x (.type "collections.deque") M6:=by
 intro fr H avs kvs k hs s S vs kws c1 c2 Q E g
 refine zK hs fun z0 hk=>?_;clear hs;obtain⟨rfl,rfl⟩:=z0
 replace c1:_=[]:=c1
 subst c1
 cases c2
 have sz:s.heap.get? s.heap.objs.size=none:=by
  cases e:s.heap.get? s.heap.objs.size with
  |none=>rfl
  |some o=>exact absurd (zY e) (yI _)
 have e1:(s.heap.push ek).get? s.heap.objs.size=some ek:=zx _ rfl
 refine callType_codes (Q₁:=fun obj s₁=>obj=.ref s.heap.objs.size∧s₁={s with heap:=s.heap.push ek}) kP ei Ql (FQ ⟨rfl,rfl⟩) fun obj s₁ h₁=>zK h₁ fun z0 z1=>?_;clear h₁;subst z0;subst z1
 refine⟨⟨_,e1,rfl⟩,Bq _,?_⟩
 show zr _ x.A.in1.in1 (Ug (.ref s.heap.objs.size) 0 .none >>= fun U=>ai (.ref s.heap.objs.size) >>= fun U=>ret .none) _ _ _
 refine zb (ta e1 rfl (by decide) ?_)
 have e2:=zP (Obj.mapFields (·.setIfInBounds 0 .none)) e1 rfl
 refine zb ?_
 unfold ai Builtin.Deque.items
 refine zb (zb (YD e2 rfl (wpAny_pure ?_)))
 show zr _ _ (pure ()) _ _ _
 refine wpAny_pure (wpAny_pure ⟨rfl,?_⟩)
 have X:Ext s {s with heap:=(s.heap.push ek).update s.heap.objs.size (Obj.mapFields (·.setIfInBounds 0 .none))}:=⟨⟨_,_,_,rfl⟩,fun b o e=>by
  refine(qd _ _ (fun z=>?_)).trans (zq _ e)
  rw[←z,sz]at e;exact nS e⟩
 exact g _ _ _ _ hk (Q6 ⟨_,0,rfl,S.notOp sz,e2⟩) (S.ext X) (X.kept x)
end
section
theorem y2.grow(c:y2 ⟨ob,X⟩ h a v):y2 ⟨ob++Y,X⟩ h a v:=y2.map ⟨fun i a e=>by refine zc (yu (yi.mp e).1) ?_;exact e,fun U U n e U=>⟨n,e⟩⟩ c
theorem vC.grow:∀{fs:List (Str×AV)} {es:List yE},vC w ⟨ob,X⟩ h fs es→vC w ⟨ob++Y,X⟩ h fs es:=by
 intro l0
 induction l0 with
 |nil =>
  intro _ c
  exact c
 |cons p fs ih =>
  rintro _ ⟨t,v,r,e,hc,hr⟩
  exact⟨t,v,r,e,hc.grow,(ih hr)⟩
theorem qn.grow:∀{o:AObj},qn w ⟨ob,X⟩ h a d o→qn w ⟨ob++Y,X⟩ h a d o
 |.inst _ _,⟨x,es,n,y,z⟩=>⟨x,es,n,y,z.grow⟩
 |.dict _,⟨x,es,n,y,z⟩=>⟨x,es,n,y,z.grow⟩
noncomputable def Cx.push(x:Cx)(a d:zI):Cx:={x with ρ:=⟨x.ρ.ob++[a],x.ρ.op⟩,δ:=x.δ++[d]}
theorem St.push(S:St x fr H s)(X:Ext s s')(hH:x.ρ.ob.length=H.length)(hδ:x.δ.length=H.length)(nd:s.heap.get? d=none)(ha:s'.heap.get? a=some ⟨.ref C,some d,.plain,#[]⟩)(hd:s'.heap.get? d=some (tJ es n))(hf:vC x.w ⟨x.ρ.ob++[a],x.ρ.op⟩ s'.heap fs es):St (x.push a d) fr (H++[.inst C fs]) s':=by
 have nm:yH x.ρ.op s.heap s'.heap:=.of_all X.keep
 have F:=S.far nd
 refine yU S.frame fun z0 c1 c2=>?_;obtain⟨mm,nn,f⟩:=z0
 refine⟨fun b o e=>X.keep _ _ (S.base b o e),fun b t=>?_,fun b t=>?_,⟨⟨mm,nn.keeps X.keep,fun y av e q=>?_⟩,fun y av e q=>?_,fun y e=>?_⟩,fun i o e=>?_,S.lim.keeps X.keep,?_,⟨fun q=>?_,fun c hc=>⟨fun q=>?_,(S.own.2 c hc).2⟩⟩,S.cnod,fun b q=>?_,S.ocs,?_,fun c q=>?_,fun L q=>?_⟩
 ·rcases t with t|t|t
  ·exact S.apart b (.inl t)
  ·exact S.apart b (.inr (.inl t))
  ·rcases zv.mp t with t|t
   ·exact S.apart b (.inr (.inr t))
   ·refine zc (zd.mp t) ?_;exact⟨F.ba,F.st⟩
 ·have old:uG x b→∃o,s'.heap.get? b=some o∧u8 o.cls=true:=fun t=>by
   exact zt (S.kinds b t) fun o h m=>⟨o,X.keep b o h,m⟩
  rcases t with t|t|t
  ·exact old (.inl t)
  ·exact old (.inr (.inl t))
  ·rcases zv.mp t with t|t
   ·exact old (.inr (.inr t))
   ·refine zc (zd.mp t) ?_;exact⟨_,hd,rfl⟩
 ·refine zt (f y av e q) fun v p r=>?_;exact⟨v,p,(r.mono nm).grow⟩
 ·refine xk (c1 y av e q) fun cc v p b r=>?_;exact⟨cc,v,p,X.keep _ _ b,(r.mono nm).grow⟩
 ·refine yW (c2 y e) fun cc v p b=>?_;exact⟨cc,v,p,X.keep _ _ b⟩
 ·by_cases hi:i<H.length
  ·rw[yu hi]at e
   refine xk (S.objs i o e) fun b d' p q r=>⟨b,d',by show(x.ρ.ob++[a])[i]?=_;refine zc (yu (vB 1965454930 [i,x.ρ.ob.length,xH H] (ze hH.symm) hi rfl)) ?_;exact p,by show(x.δ++[d])[i]?=_;refine zc (yu (vB 1965454930 [i,x.δ.length,xH H] (ze hδ.symm) hi rfl)) ?_;exact q,?_⟩
   refine qn.grow (X:=x.ρ.op) ?_
   cases o with
   |inst C fs=>(refine zK r fun r1 z1=>?_;clear r;refine yW z1 fun es n' r2 r3=>?_;clear z1);exact⟨X.keep _ _ r1,es,n',X.keep _ _ r2,r3.mono nm⟩
   |dict fs=>(refine zK r fun r1 z1=>?_;clear r;refine yW z1 fun es n' r2 r3=>?_;clear z1);exact⟨r1,es,n',X.keep _ _ r2,r3.mono nm⟩
  ·have hi2:=(yi.mp e).1
   simp at hi2
   have hi3:i=H.length:=zE (zN 4620046949 [i,xH H] hi2 rfl) (zN 25957 [xH H,i] (xy hi) rfl)
   subst hi3
   rw[xa (zX _)]at e
   simp at e
   subst e
   refine⟨a,d,by show(x.ρ.ob++[a])[_]?=_;refine xv hH ?_;simp,by show(x.δ++[d])[_]?=_;refine xv hδ ?_;simp,ha,es,n,hd,hf⟩
 ·show(x.δ++[d]).Nodup
  exact uw.mpr ⟨S.nodup,by simp,fun b hb c hc z=>by rw[zd.mp hc]at z;exact F.de (z▸hb)⟩
 ·rcases zv.mp q with q|q
  ·exact S.own.1 q
  ·exact F.lo (zd.mp q).symm
 ·rcases zv.mp q with q|q
  ·exact(S.own.2 c hc).1 q
  ·exact F.ce ((zd.mp q)▸hc)
 ·refine yf (S.opn b q) fun o h=>?_;exact⟨o,X.keep _ _ h⟩
 ·show(x.ρ.ob++[a]).length≤(H++[_]).length
  simp;exact zN 25957 [x.ρ.ob.length,xH H] (ze hH) rfl
 ·refine yf (S.cex c q) fun o h=>?_;exact⟨o,X.keep _ _ h⟩
 ·refine yU (S.frs L q) fun c1 c2 z2=>?_;refine Qh z2 fun o es' ep h r=>?_;clear z2
  refine⟨c1,fun q2=>?_,o,es',ep,X.keep _ _ h,r⟩
  rcases zv.mp q2 with q2|q2
  ·exact c2 q2
  ·exact F.fr ((zd.mp q2)▸q)
end
section
noncomputable def Cx.bare(x:Cx):Cx:={x with ρ:=⟨[],x.ρ.op⟩,δ:=[]}
theorem St.bare(S:St x fr H s):St x.bare [] [] s:=by
 refine yU S.frame fun z0 c1 c2=>?_;obtain⟨mm,nn,f⟩:=z0
 have tch:∀b,uG x.bare b→uG x b:=fun b t=>by
  rcases t with t|t|t
  ·exact .inl t
  ·exact .inr (.inl t)
  ·cases t
 exact⟨S.base,fun b t=>S.apart b (tch b t),fun b t=>S.kinds b (tch b t),⟨⟨mm,nn,fun y av U q=>by exact nS q⟩,fun y av U q=>(by exact nS q),c2⟩,fun i o e=>(by exact nS e),S.lim,wC,⟨fun q=>(by cases q),fun c hc=>⟨fun q=>(by cases q),(S.own.2 c hc).2⟩⟩,S.cnod,S.opn,S.ocs,zX _,S.cex,fun L q=>by
  exact yU (S.frs L q) fun a b r=>⟨a,fun q=>(by cases q),r⟩⟩
theorem Base.bare(B:Base n x):Base n x.bare:=⟨B.K,B.room,B.link⟩
theorem Base.push(B:Base n x):Base n (x.push a d):=⟨B.K,B.room,B.link⟩
theorem St.unbare(S:St x fr H s)(C:Chg x.bare s s')(hB:∀b o,x.B.get? b=some o→s'.heap.get? b=some o):St x fr H s'∧Kept x s s':=by
 refine xd C.rest fun h t d z3=>?_;subst z3
 have K:∀b o,s.heap.get? b=some o→∃o',h.get? b=some o'∧tu o o':=fun b o e=>C.keep b o e fun q=>by cases q
 exact⟨(S.framed (tk:=t) K hB).of_heap rfl,⟨_,_,_,rfl⟩,fun b o e U=>K b o e⟩
end
section
set_option tactic.hygienic true
theorem gS.opaque(x:gS h):xD M h (opaqueClassAbove (.ref C)) none:=by
 refine wO x fun mc p z2 q=>?_;clear z2
 have L:xD M h (nsGet tX "thirdparty.any") none:=fun A Q E s k z=>wpAny_nsGet (p.keeps k) (by refine zc q ?_;exact z)
 exact Looks.andThen (a:=false) (L.andThen .now) (by show xD M h (if(!false)=true then pure none else _) none;refine zc (if_pos (show(!false)=true from rfl)) ?_;exact .now)
theorem At:findCls (KF P) (.ref 597) (.type "type") "__new__" = some (.get (.builtin "staticmethod.__get__") (.ref 94) .none (.ref 597)):=⋯
theorem ES(X:(KF w.params).In s.heap)(L:gS s.heap)(h:Q (.ref 90) {s with toks:=s.toks+1}):
  zr (zu pw w) A (W7 (.ref 597) "__new__" expr) Q E s:=by
 refine cls_open X L.opaque (looks_typeIn X ⋯) ⋯ (looks_hook X (r:=none) ⋯) ⋯ At (zb (zV (yL (sm_get (s:={s with toks:=s.toks+1}) (f:=.ref 90) (rest:=[]) X ⋯ (wpAny_pure ?_)))))
 exact handed_on rfl h
end
section
set_option tactic.hygienic true
theorem Ax(X:(KF w.params).In h):xD (zu pw w) h (Bind.madeBy (.ref 597)) none:=wq X ⋯
theorem LU(X:(KF w.params).In h):xD (zu pw w) h (Bind.staticBase (.ref 597)) (.type "object"):=wq X ⋯
end
section
theorem BA:specialIn (KF P) (.ref 597) "__call__" = some (some (.builtin "type.__call__")):=⋯
theorem A7:instIn (KF P) (.ref 597) (.type "type")=some true:=⋯
theorem dK:(KF P).lookup 597=some (oW P):=⋯
theorem EY(X:(KF w.params).In h):xD (zu pw w) h (mroOf (.ref 597)) [.ref 597,.ref 120,.ref 93,.type "object"]:=wq X ⋯
theorem Bk:Zp (KF P) (.ref 597) "__init__" = some (some (.ref 367)):=⋯
theorem Fv:typeIn (KF P) (.ref 367)=some (.type "function"):=⋯
theorem Aw(X:(KF w.params).In s.heap)(L:gS s.heap)(h:∀A':y1,A'.handled=A.handled→A'.depth=A.depth+1→A'.frames=A.frames→A'.units=A.units+1 →
   zr (zu pw w) A' (call (.ref 90) [.ref 597,v]) (fun obj s1=>∃a,obj=.ref a∧(KF w.params).In s1.heap∧(∃o,s1.heap.get? a=some o∧o.cls=.ref 597) ∧
    zr (zu pw w) A' (call (.ref 367) [.ref a,v]) (fun r s2=>r=.none∧R (.ok (.ret (.ref a))) s2) (fun e s2=>R (.error e) s2) s1) (fun e s2=>R (.error e) s2) {s with toks:=s.toks+1}):
  y4 (zu pw w) A (.call (.ref 597) ⟨[v],[]⟩) R s:=by
 refine xZ ?_
 show zr _ _ (UJ (.ref 597) _) _ _ _
 refine nd_load (X _ _ dK) ?_
 show zr _ _ (lL (.ref 597) _) _ _ _
 unfold lL
 refine zb ((looks_specialIn X BA).here ?_)
 dsimp only
 rw[tc_bind]
 refine zb (wpAny_pure (zb (wpAny_pure ?_)))
 refine wpAny_pure (a:=Fin.again (.call (.builtin "type.__call__") ⟨[.ref 597,v],[]⟩)) (tL rfl ?_)
 refine codeAny_call_builtin_at (xR _ (by decide +kernel)) entry_typeCall (check_slot tc_kind tc_split (looks_instIn X A7) (tc_args _ _ _) ?_)
 unfold Builtin.«type.__call__»
 have h:=h (A.under (.builtin "type.__call__" ⟨[.ref 597,v],[]⟩)) rfl rfl rfl rfl
 generalize A.under (.builtin "type.__call__" ⟨[.ref 597,v],[]⟩)=A' at h ⊢
 show zr _ _ (mroOf (.ref 597) >>= _) _ _ _
 refine zb ((EY X).here ?_)
 rw[if_neg (by decide)]
 refine zb ((Ax X).here ?_)
 refine zb (ES X L ?_)
 refine zb (zV (wE h (fun obj s1 z=>?_) fun e s1 z=>z))
 obtain⟨a,rfl,X1,⟨o,ho,hc⟩,z⟩:=z
 have ty:xD (zu pw w) s1.heap (Zo (.ref a)) (.ref 597):=by
  have:xD (zu pw w) s1.heap (Zo (.ref a)) o.cls:=(tY ho).andThen .now
  rwa [hc]at this
 have si:xD (zu pw w) s1.heap (isInstance (.ref a) (.ref 597)) true:=ty.andThen (looks_subIn X1 (t:=.ref 597) (base:=.ref 597) (r:=true) ⋯)
 refine zb (si.here ?_)
 refine zb (zV ?_)
 unfold callSpecial? specialOf
 refine zb (zb (ty.here ((uu X1 Bk).here (zV (zb ((Cv X1 _ Fv).here (zb (wE z (fun r s2 q=>?_) fun U U q=>q))))))))
 obtain⟨rfl,q⟩:=q
 exact wpAny_pure (wpAny_pure q)
end
section
set_option tactic.hygienic true
section
variable {x:Cx} {fr:y3} {H:Hp}
theorem js{K:uQ}(X:K.In x.B){o:Expr}{m:Str}{ap pos:ZJ}{args:List Expr}{k':List AV→Hp→Prop}(ha:xP args=true)(hb:TQ o m x.env (zR o x.env)=zR o x.env)(hn:decide (args.length+0+0<30)=true)(hl:(ap.endLine==pos.line)=true){s:zg}(Z:St x fr H s){Q:zi→zg→Prop}{E:zi→zg→Prop}{f:zi}(h:zL x fr H (zR o x.env) fun a H0=>qi K f=true∧(∀s v,St x fr H0 s→y2 x.ρ s.heap a v→∀pl (Q:zi×List zi→zg→Prop) E,(∀s',Ext s s'→Q (f,[]) s')→zr (zu pw x.w) x.A (eS v m pl) Q E s) ∧
   w9 x fr H0 (vR (vX pos (xL args x.env))) k')(g:∀vs avs H' s',k' avs H'→ConL x.ρ s'.heap avs vs→St x fr H' s'→Kept x s s'→zr (zu pw x.w) x.A (call f vs []) Q E s'):
  zr (zu pw x.w) x.A (zR (.Call (.Attribute o m ap) args [] pos) x.env) Q E s:=by
 refine zc (ru ..) (zc hb ?_)
 refine zb (h s Z _ E fun v a H0 s0 h0 c0 S0 K0=>zb (xi ?_))
 refine yU h0 fun hk hm h0=>?_
 have hform:YE (args.length+([]:List tA).length) (vX pos (xL args x.env)) (xS pos (yN [] x.env))=true:=by
  unfold YE
  exact zc ((vM ha).2) hn
 unfold methodCall
 refine zc hform (zb (zV (hm s0 v S0 c0 _ _ E fun s1 X1=>?_)))
 have hpos:ZA true o x.env ap pos=pure pos:=by unfold ZA;simp[hl]
 refine zb (x8 hpos ?_)
 refine ZH (P:=K.In) (by refine zc ((vM ha).1) ?_;rfl) (Xk hk) (w8 ha (kws:=[]) rfl (h0 s1 (S0.ext X1) _ _ fun vs avs H1 s2 h1 c1 S1 K1=>?_))
 refine kwAll_nil ⟨X.keeps S1.base,?_⟩
 exact g _ _ _ _ h1 c1 S1 (K0.trans ((X1.kept x).trans K1))
end
end
section
theorem oq(X:(KF w.params).In h):xD (zu pw w) h (Bind.madeHere "object.__new__" (.ref 597)) ():=wq X ⋯
theorem sJ(X:(KF w.params).In h):xD (zu pw w) h (isType (.ref 597)) true:=wq X ⋯
theorem pP(X:(KF w.params).In h):xD (zu pw w) h (tz "object.__new__" ⟨[.ref 597],[]⟩) ():=wq X ⋯
theorem FF(X:(KF w.params).In h):xD (zu pw w) h (classData 597) (match(oW w.params).data with|.cls c=>c|_=>default):=wq X ⋯
theorem FS(X:(KF w.params).In h):xD (zu pw w) h (classHasDel 597) false:=wq X ⋯
theorem fQ(X:(KF w.params).In s.heap)(hq:R (.ok (.ret (.ref (s.heap.objs.size+1)))) {s with heap:=(s.heap.push xf).push (xx 597 s.heap.objs.size)}):
  y4 (zu pw w) A (.call (.builtin "object.__new__") ⟨[.ref 597],[]⟩) R s:=by
 have F:=PySem.F.objNew
 refine Xb (xR _ F.quiet) ((pP X).here ?_)
 refine codeAny_builtin F.entry ?_
 unfold Builtin.«object.__new__»
 show zr _ _ (isType (.ref 597) >>= _) _ _ _
 refine zb ((sJ X).here ?_)
 refine zc (if_neg (by decide)) ?_
 show zr _ _ (Bind.madeHere "object.__new__" (.ref 597) >>= _) _ _ _
 refine zb ((oq X).here ?_)
 refine zc (if_neg (by decide)) ?_
 show zr _ _ (classData 597 >>= _) _ _ _
 refine zb ((FF X).here ?_)
 refine zc (if_neg (by show¬(false=true);decide)) ?_
 show zr _ _ ((alloc xf >>= fun x=>pure (some x)) >>= _) _ _ _
 refine zb (zb (Ue (wpAny_pure (zb ?_))))
 show zr _ _ (newObjAsIs _ _ _) _ _ _
 unfold newObjAsIs
 refine zb (Ue (zb ?_))
 have X2:(KF w.params).In ((s.heap.push xf).push (xx 597 s.heap.objs.size)):=X.keeps fun b o e=>zq _ (zq _ e)
 refine(FS X2).here (zc (if_neg (by decide)) (wpAny_pure (wpAny_pure ?_)))
 show R _ _
 rw[xu]
 exact hq
theorem dU:findCls (KF P) (.type "object") (.type "type") "__new__" = some (.val (.builtin "object.__new__")):=⋯
theorem fN:xD M h (opaqueClassAbove (.type "object")) none:=te ⋯
theorem gu(X:(KF w.params).In s.heap)(h:Q (.builtin "object.__new__") {s with toks:=s.toks+1}):
  zr (zu pw w) A (W7 (.type "object") "__new__" expr) Q E s:=by
 exact cls_open (mc:=.type "type") X fN (te rfl) ⋯ (looks_hook X (r:=none) ⋯) ⋯ dU (wpAny_pure (handed_on rfl h))
end
section
theorem px:Zp (KF P) (.type "type") "__getattribute__" = some (some (.builtin "type.__getattribute__")):=⋯
theorem bC(X:(KF w.params).In s.heap)(h:Q (.builtin "object.__new__",[]) {s with toks:=s.toks+1}):
  zr (zu pw w) A (eS (.type "object") "__new__" pl) Q E s:=by
 have ty:xD (zu pw w) s.heap (Zo (.type "object")) (.type "type"):=te rfl
 have fd:=uu (M:=zu pw w) (h:=s.heap) X (px (P:=w.params))
 refine zb (zb (ty.here (fd.here ?_)))
 dsimp only
 exact zc (if_pos canon_tga) (zb (gu X (wpAny_pure h)))
noncomputable def lK:List yX:=wt (zm (x6 (zm pw.main.body 8)) 1)
theorem MV(P:zp):FnIs P 90 (wU (bx P)) lK:=⟨⟨bx P,⋯,rfl⟩,⋯,rfl,⋯,⋯,⋯,rfl,rfl,rfl,⋯⟩
noncomputable def TZ(s:yX):Expr:=wx (xT s) 0
noncomputable def pR(e:Expr):Expr:=wx (xE (wx (xE e) 0)) 0
noncomputable def pS(e:Expr):ZJ:=(wx (xE e) 0).pos
noncomputable def xC(e:Expr):List Expr:=(xE e).tail
noncomputable def qa(e:Expr):ZJ:=e.pos
noncomputable abbrev Ho:Expr:=TZ (zm lK 1)
theorem Gl:lK=[zm lK 0]++[.Return (some (.Call (.Attribute (pR Ho) (za "__new__") (pS Ho)) (xC Ho) [] (qa Ho))) (zm lK 1).pos]:=⋯
theorem Ge:qN (wU (bx P)) ⟨[a,b],[]⟩=(newTuple [b] >>= fun t=>alloc xf >>= fun d=>pure [(za "cls",a),(za "args",t),(za "kwargs",.ref d)]):=⋯
noncomputable def Ty(e:Expr):Expr:=wx (xE e) 0
noncomputable def Tw(e:Expr):Expr:=wx (xE e) 1
noncomputable def Gc(e:Expr):List Expr:=xE e
noncomputable abbrev rG(i:Nat):Expr:=wx (Gc (uy (zm lK 0))) i
theorem Gk:zm lK 0=.If (.BoolOp .And [.Compare (Ty (rG 0)) [.IsNot] [Tw (rG 0)] (rG 0).pos,.Compare (Ty (rG 1)) [.IsNot] [Tw (rG 1)] (rG 1).pos] (uy (zm lK 0)).pos) (ux (zm lK 0)) [] (zm lK 0).pos:=⋯
noncomputable def DE(P:zp):Stat:=Ze P (wU (bx P)).scope.names [] FB fun U U=>none
noncomputable def B9:AV:=.ext fun U U=>True
noncomputable abbrev Tl:y3:=[(za "cls",.glob (.ref 597)),(za "args",B9),(za "kwargs",B9)]
section
variable (P:zp) (H:Hp)
theorem Gj(k:AV→Hp→Prop):(ev (DE P) 20).e (Ty (rG 0)) Tl H k=k (.glob (.ref 597)) H:=⋯
theorem Gh(k:AV→Hp→Prop):(ev (DE P) 20).e (Tw (rG 0)) Tl H k=k (.glob (.ref 350)) H:=⋯
theorem Gi(k:AV→Hp→Prop):(ev (DE P) 20).e (Ty (rG 1)) Tl H k=k (.glob (.ref 597)) H:=⋯
theorem Gg(k:AV→Hp→Prop):(ev (DE P) 20).e (Tw (rG 1)) Tl H k=k (.glob (.ref 597)) H:=⋯
theorem KY(k:AV→Hp→Prop):(ev (DE P) 20).e (pR Ho) Tl H k=k (.glob (.type "object")) H:=⋯
theorem KX(k:List AV→Hp→Prop):(ev (DE P) 20).l (xC Ho) Tl H k=k [.glob (.ref 597)] H:=⋯
end
theorem jk:y2 ρ h B9 v:=by unfold B9 y2;intros;trivial
theorem oZ:(KF P).lookup 350=some (Dc P):=⋯
theorem Aa(B:Base n x)(Ft:Fits (DE x.w.params) x):zQ x Tl H (xN [zm lK 0] x.env) fun f fr1 H1=>f=.next∧fr1=Tl∧H1=H:=by
 refine zQ.cons (zc Gk ?_)
 refine zQ.if_ (xe.boolop (xe.allTrue_and (xe.isnot_refs (a:=597) (b:=350) ⋯ (.inr ⟨by decide,_,_,B.K _ _ dK,B.K _ _ oZ,by show¬(yK "type" = yK "tuple");decide⟩) ((yl Ft 20).e _ _ _ _ ?_))))
 refine zw (Gj ..) ⟨rfl,(yl Ft 20).e _ _ _ _ ?_⟩
 refine zw (Gh ..) ⟨rfl,fun z=>(by exact tF z),fun U=>xe.allTrue_and (xe.isnot_refs (a:=597) (b:=597) ⋯ (.inl rfl) ((yl Ft 20).e _ _ _ _ ?_))⟩
 refine zw (Gi ..) ⟨rfl,(yl Ft 20).e _ _ _ _ ?_⟩
 exact zw (Gg ..) (⟨rfl,fun U=>⟨fun z=>(by exact fT z),fun U=>zQ.nil (zQ.nil ⟨rfl,rfl,rfl⟩)⟩,fun z=>(by exact fT z)⟩)
theorem IT(B:Base n x)(hn:n<980)(Z:St x fr H s)(g:∀a d s2 s3,St x fr H s2→Chg x s s2→Ext s2 s3→s2.heap.get? d=none→s3.heap.get? a=some (xx 597 d)→s3.heap.get? d=some xf→Q (.ref a) s3):zr (zu pw x.w) x.A (call (.ref 90) [.ref 597,v]) Q E s:=by
 refine yL ?_
 have I:=MV x.w.params
 refine zt I.at_ fun fo ho hd=>?_
 have XK:=B.K.keeps Z.base
 have nm:=I.names
 rw[zk,zk,zk]at nm
 refine zK nm fun z0 m4=>?_;clear nm;obtain⟨⟨m1,m2⟩,m3⟩:=z0
 have cons:∀p∈(wU (bx x.w.params)).scope.names,(wU (bx x.w.params)).scope.names.lookup p.1=some p.2:=fun p hp=>by
  have:=zJ.mp m1 p hp
  rw[beq_iff_eq,vE]at this;exact this
 refine uP (xj B.room.de (by exact zN 0x3d433523e83352 [n] hn rfl)) (XK _ _ ho) hd I.co I.gen I.body (ud XK I.code) (zc Ge (zb (k8 (zb (Ue (wpAny_pure ?_))))))
 have X2:Ext s {s with heap:=(s.heap.push {cls:=.type "tuple",data:=.seq [v].toArray}).push xf}:=(Ext.push s _ s.toks).trans (Ext.push _ _ _)
 have Z2:=Z.ext X2
 refine u5 (x:={x with A:=x.A.in1}) (fr:=fr) (H:=H) (frc:=[]) (bavs:=Tl) ⟨Z2.base,Z2.apart,Z2.kinds,Z2.frame,Z2.objs,Z2.lim,Z2.nodup,Z2.own,Z2.cnod,Z2.opn,Z2.ocs,Z2.ol,Z2.cex,Z2.frs⟩ (by refine zc I.clos ?_;exact Capt.nil m2) cons I.kind
  ⟨_,_,rfl,rfl,_,_,rfl,jk,_,_,rfl,jk,rfl⟩ (fun p hp=>?_) fun env oc s1 e0 eo S1 c1 n1 n2 hlim U=>⟨hlim,W8 ?_⟩
 ·have hl:Tl.all (fun p=>lk p.1 (wU (bx x.w.params)).scope.names==some .local||lk p.1 (wU (bx x.w.params)).scope.names==some .cell)=true:=⋯
  have:=zJ.mp hl p hp
  rw[wj,beq_iff_eq,beq_iff_eq,vE]at this
  exact this
 ·have hf:env.frame=some env.locals:=by refine zc e0 ?_;rfl
  have Sx:St (x.at' (x.A.deeper env) env oc [] (env.locals::x.fs)) (vI [] Tl) H s1:=⟨(S1 _).base,(S1 x.A).apart,(S1 x.A).kinds,(S1 x.A).frame,(S1 x.A).objs,(S1 x.A).lim,(S1 x.A).nodup,(S1 x.A).own,(S1 x.A).cnod,(S1 x.A).opn,(S1 x.A).ocs,(S1 x.A).ol,(S1 x.A).cex,(S1 x.A).frs⟩
  have C1:Chg x s s1:=(X2.chg x).trans ⟨c1.rest,c1.keep⟩
  have Bx:Base (n+1) (x.at' (x.A.deeper env) env oc [] (env.locals::x.fs)):=B.deeper hf (by refine zc eo.sc (zc I.kind ?_);decide)
  have Ft:Fits (DE x.w.params) (x.at' (x.A.deeper env) env oc [] (env.locals::x.fs)):=Yj Bx (by refine zc eo.sc ?_;exact I.kind) (by exact zc eo.sc rfl) (by(rw[m3];refine zc m4 ?_);rfl)
   (fun m hm c hc=>by exact fT hm) (by refine zc eo.gl ?_;exact I.gl) (by refine zc eo.bi ?_;exact I.bi) uO xX
  refine(?_:zr (zu pw x.w) (x.A.deeper env) (xN lK env) _ _ s1)
  refine zc Gl (uT (x:=x.at' (x.A.deeper env) env oc [] (env.locals::x.fs)) (Aa Bx Ft s1 Sx _ _ fun fl a fr1 H1 s2 q cf S2 K2=>?_))
  refine yU q fun z0 z1 z2=>?_;clear q;subst z0;subst z1;subst z2
  cases cf
  dsimp only
  refine zO (qL ?_)
  refine js (x:=x.at' (x.A.deeper env) env oc [] (env.locals::x.fs)) (k':=fun avs H'=>avs=[.glob (.ref 597)]∧H'=H1) Bx.K ⋯ (by rfl) ⋯ ⋯ S2 (f:=.builtin "object.__new__") ((yl Ft 20).e _ _ _ _ ?_) fun vs avs H' s3 q c3 S3 K3=>?_
  ·refine zw (KY ..) ?_
   refine⟨by rfl,fun s v S c pl Q E h=>?_,(yl Ft 20).l _ _ _ _ _ ⋯ (by refine zw (KX ..) ?_;exact⟨rfl,rfl⟩)⟩
   obtain rfl:=wo c
   exact bC (Bx.K.keeps S.base) (h _ (Ext.toks _ _))
  ·refine zK q fun z0 z1=>?_;clear q;subst z0;subst z1
   refine xk c3 fun v3 r3 z2 cv3 cr3=>?_;clear c3;subst z2
   subst cr3
   obtain rfl:=wo cv3
   refine yL (fQ (Bx.K.keeps S3.base) ?_)
   have up:∀{a:zI},({s with heap:=(s.heap.push {cls:=.type "tuple",data:=.seq [v].toArray}).push xf}:zg).heap.get? a=none→s.heap.get? a=none:=fun{a} q=>by
    cases h:s.heap.get? a with
    |none=>rfl
    |some o=>rw[X2.keep _ _ h]at q;exact Sn q
   have C3:Chg x s s3:=Chg.of_kept C1 (K2.trans K3) (up n1) (fun c q=>up (n2 c q))
   have Z3:St x fr H' s3:=St.back Z S3 C3
   have X4:Ext s3 {s3 with heap:=(s3.heap.push xf).push (xx 597 s3.heap.objs.size)}:=(Ext.push s3 _ s3.toks).trans (Ext.push _ _ _)
   have ha:((s3.heap.push xf).push (xx 597 s3.heap.objs.size)).get? (s3.heap.objs.size+1)=some (xx 597 s3.heap.objs.size):=by heap_get
   have hd:((s3.heap.push xf).push (xx 597 s3.heap.objs.size)).get? s3.heap.objs.size=some xf:=by heap_get
   have nd:s3.heap.get? s3.heap.objs.size=none:=by
    cases e:s3.heap.get? s3.heap.objs.size with
    |none=>rfl
    |some o=>exact absurd (zY e) (yI _)
   exact g _ _ _ _ Z3 C3 X4 nd ha hd
end
section
noncomputable def Cx.more(x:Cx)(Y Z:List zI):Cx:={x with ρ:=⟨x.ρ.ob++Y,x.ρ.op⟩,δ:=x.δ++Z}
theorem St.backN(S:St x fr H s)(S':St {x with A:=A,env:=env,ρ:=⟨x.ρ.ob++Y,more++x.ρ.op⟩,δ:=x.δ++Z,oc:=oc,fs:=fs} fr' H' s')(fz:∀d∈Z,s.heap.get? d=none)(C:Chg x s s'):St (x.more Y Z) fr H' s':=by
 have nm:yH x.ρ.op s.heap s'.heap:=S.nonMut C.kept
 have hs:∀a∈x.ρ.op,a∈more++x.ρ.op:=fun a q=>zD _ q
 have hz:∀{a o},s.heap.get? a=some o→a∉Z:=fun{a o} e q=>by rw[fz a q]at e;exact nS e
 refine yU S.frame fun z0 c1 c2=>?_;obtain⟨mm,n,f⟩:=z0
 have cl:∀{n q},x.env.cells.lookup n=some q→q∉x.δ:=fun{n q} e=>(S.own.2 _ (xb e)).1
 refine⟨S'.base,fun a t=>?_,fun a t=>?_,⟨⟨mm,W5 n fun o e=>C.keep _ _ e S.own.1,fun y av e q=>?_⟩,fun y av e q=>?_,fun y e=>?_⟩,fun i o e=>?_,S'.lim,S'.nodup,⟨fun q=>?_,fun c q=>⟨fun q2=>?_,(S.own.2 c q).2⟩⟩,S.cnod,fun a q=>S'.opn a (hs a q),S.ocs,S'.ol,fun c q=>?_,fun L q=>?_⟩
 ·rcases t with t|t|t
  ·exact S.apart a (.inl t)
  ·exact S.apart a (.inr (.inl t))
  ·exact S'.apart a (.inr (.inr t))
 ·rcases t with t|t|t
  ·exact zt (S.kinds a (.inl t)) fun o h m=>zt (C.keep a o h (t▸S.own.1)) fun o' h' r=>⟨o',h',by refine zc r.cls ?_;exact m⟩
  ·exact zt (S.kinds a (.inr (.inl t))) fun o h m=>zt (C.keep a o h (S.own.2 a (S.ocs a t)).1) fun o' h' r=>⟨o',h',by refine zc r.cls ?_;exact m⟩
  ·exact S'.kinds a (.inr (.inr t))
 ·refine zt (f y av e q) fun v p r=>?_;exact⟨v,p,(r.mono nm).grow⟩
 ·refine xk (c1 y av e q) fun cc v p b d=>?_;exact⟨cc,v,p,C.keepN b (cl p) rfl,(d.mono nm).grow⟩
 ·refine yW (c2 y e) fun cc v p b=>?_;exact⟨cc,v,p,C.keepN b (cl p) rfl⟩
 ·exact xk (S'.objs i o e) fun a d p q r=>⟨a,d,p,q,r.close hs⟩
 ·rcases zv.mp q with q|q
  ·exact S.own.1 q
  ·refine zt (S.kinds _ (.inl rfl)) fun o h z2=>?_;clear z2
   exact hz h q
 ·rcases zv.mp q2 with q2|q2
  ·exact(S.own.2 c q).1 q2
  ·exact yf (S.cex c q) fun o h=>hz h q2
 ·refine yf (S.cex c q) fun o h=>zt (C.keep c o h (S.own.2 c q).1) fun o' h' z2=>?_;clear z2
  exact⟨o',h'⟩
 ·refine yU (S.frs L q) fun a b z2=>?_;refine VD z2 fun o es ep h r1 r2=>?_;clear z2
  refine zt (C.keep L o h b) fun o' h' r=>⟨a,fun q2=>?_,o',es,ep,h',by refine zc (WS r.cls) ?_;exact r1,r.data.trans r2⟩
  rcases zv.mp q2 with q2|q2
  ·exact b q2
  ·exact hz h q2
end
section
noncomputable abbrev ph(b:Str)(p:Int):List (Str×AV):=[(za "_StringIO__newline",.str (za "\n")),(za "_StringIO__buf",.str b),(za "_StringIO__pos",.int p)]
noncomputable def LB:List yX:=wt (zm (x6 (zm pw.main.body 12)) 2)
theorem Kn(P:zp):FnIs P 374 (wU (iZ P)) LB:=⟨⟨iZ P,⋯,rfl⟩,⋯,rfl,⋯,⋯,⋯,rfl,rfl,rfl,⋯⟩
theorem Im(P:zp)(o:AObj)(b s:Str)(p:Int)(k:AFlow→y3→Hp→Prop):(ev (Ze P (wU (iZ P)).scope.names [] FB fun U U=>none) 20).s LB (vI [] [(za "self",.obj 1),(za "s",.str s)]) [o,.inst 597 (ph b p)] k =
  k (.ret (.str s)) [(za "self",.obj 1),(za "s",.str s),(za "newline",.str (za "\n"))] [o,.inst 597 (ph b p)]:=⋯
theorem TU(B:Base n x)(hn:n<980):tW x (.ref 374) (cS [.obj 1,.str s] [o,.inst 597 (ph b p)] (.str s) [o,.inst 597 (ph b p)]):=by
 refine bq B (zN 0x3d433523de3352 [n] hn rfl) (Kn _) (wr:=[]) (F:=FB) (DP:=fun U U=>none) (fuel:=20) rfl (fun U U U=>uO) (fun U U U=>xX) fun avs kvs H k h=>?_
 obtain⟨⟨rfl,rfl,rfl⟩,h⟩:=h
 exact⟨_,bQ (n1:=za "self") (n2:=za "s") (fun v1 v2=>⋯),⋯,by rw[Im];exact h⟩
noncomputable def LC:List yX:=wt (zm (x6 (zm pw.main.body 12)) 1)
theorem Ko(P:zp):FnIs P 367 (wU (i3 P)) LC:=⟨⟨i3 P,⋯,rfl⟩,⋯,rfl,⋯,⋯,⋯,rfl,rfl,rfl,⋯⟩
theorem Io(P:zp)(o:AObj)(b:Str)(k:AFlow→y3→Hp→Prop):(ev (Ze P (wU (i3 P)).scope.names [] (Qo 374 (cS [.obj 1,.str b] [o,.inst 597 (ph (za "") 0)] (.str b) [o,.inst 597 (ph (za "") 0)]) FB) fun U U=>none) 30).s LC
   (vI [] [(za "self",.obj 1),(za "initial_value",.str b),(za "newline",.str (za "\n"))]) [o,.inst 597 []] k =
  (([.obj 1,.str b]=[AV.obj 1,.str b]∧([]:List (Str×AV))=[]∧[o,.inst 597 (ph (za "") 0)]=[o,.inst 597 (ph (za "") 0)])∧k .next [(za "self",.obj 1),(za "initial_value",.str b),(za "newline",.str (za "\n"))] [o,.inst 597 (ph b 0)]):=⋯
theorem gh(B:Base n x)(hn:n<970):tW x (.ref 367) (cS [.obj 1,.str b] [o,.inst 597 []] .none [o,xr b 0]):=by
 refine bq B (zN 0x3ca33523de3352 [n] hn rfl) (Ko _) (wr:=[]) (F:=Qo 374 (cS [.obj 1,.str b] [o,.inst 597 (ph (za "") 0)] (.str b) [o,.inst 597 (ph (za "") 0)]) FB) (DP:=fun U U=>none) (fuel:=30) rfl (fun U B' U=>ue (TU B' (zN 0x3ca33523d433113502 [n] hn rfl)).call uO) (fun U U U=>xX) fun avs kvs H k h=>?_
 obtain⟨⟨rfl,rfl,rfl⟩,h⟩:=h
 refine⟨_,jj B (T:=360) (o:=Db x.w.params) (items:=#[.str (za "") 755,.str (za "\n") 756]) (m:=0) (n1:=za "self") (n2:=za "initial_value") (ex:=[(za "newline",.str (za "\n") 756)]) (exa:=[(za "newline",.str (za "\n"))]) ⋯ rfl rfl
  (fun v1 v2=>⟨_,by with_unfolding_all rfl,⋯⟩) (fun U U=>⟨_,_,rfl,vO _ _,rfl⟩),⋯,?_⟩
 rw[Io]
 exact⟨⟨rfl,rfl,rfl⟩,h⟩
noncomputable def Qr:List yX:=wt (zm (x6 (zm pw.main.body 26)) 0)
theorem Kk(P:zp):FnIs P 691 (wU (WP P)) Qr:=⟨⟨WP P,⋯,rfl⟩,⋯,rfl,⋯,⋯,⋯,rfl,rfl,rfl,⋯⟩
noncomputable abbrev Yx(i:AV)(pc:AV):y3:=[(za "self",.obj 0),(za "instream",i),(za "infile",.none),(za "posix",.bool true),(za "punctuation_chars",pc)]
noncomputable def rm(P:zp):Stat:=Ze P (wU (WP P)).scope.names [] (GS "collections.deque" M6 FB) fun U U=>none
theorem Il(P:zp)(b:Str)(k:AFlow→y3→Hp→Prop):(ev (rm P) 60).s (Qr.drop 1) (Yx (.obj 1) (.bool false)) [.inst 767 [],xr b 0] k =
  (Nat.le 125 16777216∧(([]:List AV)=[]∧([]:List (Str×AV))=[])∧(([]:List AV)=[]∧([]:List (Str×AV))=[])∧k .next (Yx (.obj 1) (.str (za ""))) [.inst 767 (fV (za "#") false (.str (za " ")) 1 (za "")),xr b 0]):=⋯
end
section
section
variable {x:Cx} {fr:y3} {H:Hp}
theorem Up{K:uQ}(X:K.In x.B){f:zi}(hk:qi K f=true){n:Str}{np pos:ZJ}{args:List Expr}{kws:List tA}(ha:xP args=true)(hkw:to kws=true){k':List AV→List AV→Hp→Prop}{s:zg}(Z:St x fr H s){Q E:zi→zg→Prop}(h:zL x fr H (zR (.Name n np) x.env) fun a H0=>a=.glob f∧w9 x fr H0 (vR (vX pos (xL args x.env))) fun avs H1=>w9 x fr H1 (Ys ((xS pos (yN kws x.env)).map (·.2))) fun kvs H2=>k' avs kvs H2)(g:∀vs ks avs kvs H' s',k' avs kvs H'→ConL x.ρ s'.heap avs vs→ConL x.ρ s'.heap kvs ks→St x fr H' s'→Kept x s s'→zr (zu pw x.w) x.A (call f vs ((uU kws).zip ks)) Q E s'):
  zr (zu pw x.w) x.A (zR (.Call (.Name n np) args kws pos) x.env) Q E s:=by
 refine vm (h s Z _ E fun v a H0 s0 h0 c0 S0 K0=>?_)
 obtain⟨rfl,h0⟩:=h0
 have:=wo c0
 subst this
 refine ZH (P:=K.In) (by rw[(vM ha).1,(u7 hkw).2.1];rfl) (Xk hk) (w8 ha hkw (h0 s0 S0 _ _ fun vs avs H1 s1 h1 c1 S1 K1=>h1 s1 S1 _ _ fun ks kvs H2 s2 h2 c2 S2 K2=>⟨X.keeps S2.base,?_⟩))
 exact g _ _ _ _ _ _ h2 (c1.mono (S1.nonMut K2)) c2 S2 (K0.trans (K1.trans K2))
end
theorem Room.like{n:Nat}{A A':y1}(r:Room n A)(h1:A'.handled=A.handled)(h2:A'.depth=A.depth+1)(h4:A'.units=A.units+1):Room (n+1) A':=
 ⟨h1.trans r.hh,by refine zc h2 ?_;exact Ha r.de,by have:=r.un;exact vB 0x6a1341130711370511360a13411305 [A'.units,n,A.units] (ze h4) this rfl⟩
theorem Base.like{n:Nat}{x:Cx}{A':y1}(B:Base n x)(h1:A'.handled=x.A.handled)(h2:A'.depth=x.A.depth+1)(h3:A'.frames=x.A.frames)(h4:A'.units=x.A.units+1):Base (n+1) (x.wA A'):=
 ⟨B.K,B.room.like h1 h2 h4,by refine zt B.link fun envs e r=>?_;exact⟨envs,h3.trans e,r⟩⟩
theorem Kept.on{x y:Cx}{s s1 s':zg}(a:Kept x s s1)(b:Kept y s1 s')(h:∀c,uG y c→uG x c∨s.heap.get? c=none):Kept x s s':=
 ⟨by(refine xd a.rest fun h t d z3=>?_;subst z3);(refine xd b.rest fun h' t' d' z3=>?_;subst z3);exact⟨h',t',d',rfl⟩,fun c o e n=>by
  refine zt (a.keep c o e n) fun o1 e1 q1=>zt (b.keep c o1 e1 fun t=>by
   rcases h c t with t|t
   ·exact n t
   ·rw[e]at t;cases t) fun o2 e2 q2=>?_
  exact⟨o2,e2,q1.trans q2⟩⟩
theorem Chg.on{x y:Cx}{s s1 s':zg}(a:Chg x s s1)(b:Kept y s1 s')(h:∀c,uG y c→c∈x.δ∨s.heap.get? c=none):Chg x s s':=
 ⟨by(refine xd a.rest fun h t d z3=>?_;subst z3);(refine xd b.rest fun h' t' d' z3=>?_;subst z3);exact⟨h',t',d',rfl⟩,fun c o e n=>by
  refine zt (a.keep c o e n) fun o1 e1 q1=>zt (b.keep c o1 e1 fun t=>by
   rcases h c t with t|t
   ·exact n t
   ·rw[e]at t;cases t) fun o2 e2 q2=>?_
  exact⟨o2,e2,q1.trans q2⟩⟩
theorem Kept.none{x:Cx}{s s':zg}(a:Kept x s s'){d:zI}(n:¬uG x d)(h:s'.heap.get? d=none):s.heap.get? d=none:=by
 cases e:s.heap.get? d with
 |none=>rfl
 |some o=>(refine zt (a.keep d o e n) fun o' e' z2=>?_;clear z2);rw[h]at e';exact nS e'
theorem Ext.none{s s':zg}(a:Ext s s'){d:zI}(h:s'.heap.get? d=none):s.heap.get? d=none:=by
 cases e:s.heap.get? d with
 |none=>rfl
 |some o=>rw[a.keep d o e]at h;exact Sn h
theorem Fi{n:Nat}{y:Cx}(B:Base n y)(hn:n<960){fr:y3}{s:zg}{o:AObj}{b:Str}{t:Tok}(S:St y fr [o] s)(h1:y.ρ.ob.length=1)(h2:y.δ.length=1){Q E:zi→zg→Prop}(g:∀a d s',s.heap.get? d=none→Kept y s s'→St (y.push a d) fr [o,xr b 0] s'→Q (.ref a) s'):zr (zu pw y.w) y.A (call (.ref 597) [.str b t] []) Q E s:=by
 refine yL (Aw (B.K.keeps S.base) S.lim fun A' e1 e2 e3 e4=>?_)
 have B':Base (n+1) (y.wA A'):=B.like e1 e2 e3 e4
 have X0:Ext s {s with toks:=s.toks+1}:=Ext.toks _ _
 refine IT (x:=y.wA A') B' (zN 0x3c033523d433113502 [n] hn rfl) (S.ext X0).wA fun a d s2 s3 S2 C2 X3 nd ha hd=>?_
 have S3:St ((y.wA A').push a d) fr ([o]++[.inst 597 []]) s3:=S2.push X3 (by show y.ρ.ob.length=1;exact h1) (by show y.δ.length=1;exact h2) nd ha (es:=[]) (n:=0) hd rfl
 have nt:¬uG y d:=fun t=>by
  refine zt (S2.kinds d t) fun o' e' z2=>?_;clear z2
  rw[nd]at e';exact nS e'
 have K2:Kept y s s2:=(X0.kept y).trans ⟨C2.rest,fun c o e n=>C2.keep c o e fun q=>n (.inr (.inr q))⟩
 have nd0:s.heap.get? d=none:=K2.none nt nd
 refine⟨a,rfl,B.K.keeps S3.base,⟨_,ha,rfl⟩,?_⟩
 have hob:((y.wA A').push a d).ρ.ob[1]?=some a:=by show(y.ρ.ob++[a])[1]?=some a;refine zc (xa (zN 288690485 [y.ρ.ob.length] (ze h1) rfl)) (zc h1 ?_);rfl
 refine(gh (x:=(y.wA A').push a d) B'.push (zN 0x3c033523ca33113502 [n] hn rfl) (o:=o) (b:=b)).call fr _ _ _ (fun r H'=>r=.none∧H'=[o,xr b 0]) ⟨⟨rfl,rfl,rfl⟩,rfl,rfl⟩ s3 S3 [.ref a,.str b t] [] ?_ rfl _ _ fun v av H' s4 q c4 S4 K4=>?_
 ·unfold ConL
  refine⟨_,_,rfl,?_,?_⟩
  ·exact ub ⟨a,hob,rfl⟩
  ·exact qJ ⟨_,_,rfl,vO _ _,rfl⟩
 ·refine zK q fun z0 z1=>?_;clear q;subst z0;subst z1
  refine⟨uc c4,?_⟩
  refine g a d s4 nd0 ((K2.trans (X3.kept y)).on K4 fun c t=>?_) ⟨S4.base,S4.apart,S4.kinds,S4.frame,S4.objs,S4.lim,S4.nodup,S4.own,S4.cnod,S4.opn,S4.ocs,S4.ol,S4.cex,S4.frs⟩
  rcases t with t|t|t
  ·exact .inl (.inl t)
  ·exact .inl (.inr (.inl t))
  ·rcases zv.mp t with t|t
   ·exact .inl (.inr (.inr t))
   ·refine zc (zd.mp t) ?_;exact .inr nd0
end
section
noncomputable def wV(s:yX):Expr:=wx (xT s) 0
noncomputable def GN(s:yX):ZJ:=(wx (xT s) 1).pos
noncomputable def tr(e:Expr):ZJ:=(wx (xE e) 0).pos
noncomputable abbrev GX:yX:=zm (ux (zm Qr 0)) 0
noncomputable abbrev rp:Expr:=wV GX
theorem BZ:Qr=[zm Qr 0]++Qr.drop 1:=⋯
theorem BY:zm Qr 0=.If (uy (zm Qr 0)) [.Assign [.Name (za "instream") (GN GX)] (.Call (.Name (za "StringIO") (tr rp)) (xC rp) [] (qa rp)) GX.pos] [] (zm Qr 0).pos:=⋯
section
variable (P:zp) (H:Hp) (b:Str)
theorem sx(k:Bool→Hp→Prop):(ev (rm P) 30).b (uy (zm Qr 0)) (vI [] (Yx (.str b) (.bool false))) H k=k true H:=⋯
theorem sy(k:AV→Hp→Prop):(ev (rm P) 30).e (.Name (za "StringIO") (tr rp)) (Yx (.str b) (.bool false)) H k=k (.glob (.ref 597)) H:=⋯
theorem sE(k:List AV→Hp→Prop):(ev (rm P) 30).l (xC rp) (Yx (.str b) (.bool false)) H k=k [.str b] H:=⋯
theorem Iq(v:AV):xp (za "instream") v (Yx (.str b) (.bool false))=Yx v (.bool false):=⋯
end
theorem AT:qi (KF P) (.ref 597)=true:=⋯
theorem Cl:uz x (GS "collections.deque" M6 FB):=gU Kw uO
theorem oE(B:Base n y)(hn:n<950)(S:St y fr [.inst 767 []] s)(h1:y.ρ.ob=[a0])(h2:y.δ.length=1)(g:∀a d s',s.heap.get? d=none→Kept y s s'→St (y.more [a] [d]) fr [.inst 767 (fV (za "#") false (.str (za " ")) 1 (za "")),xr b 0] s'→R (.ok (.ret .none)) s'):
  y4 (zu pw y.w) y.A (.call (.ref 691) ⟨[.ref a0,.str b t],[(za "posix",.bool true)]⟩) R s:=by
 have I:=Kk y.w.params
 refine zt I.at_ fun fo ho hd=>?_
 have XK:=B.K.keeps S.base
 have nm:=I.names
 rw[zk,zk,zk]at nm
 refine zK nm fun z0 m4=>?_;clear nm;obtain⟨⟨m1,m2⟩,m3⟩:=z0
 have cons:∀p∈(wU (WP y.w.params)).scope.names,(wU (WP y.w.params)).scope.names.lookup p.1=some p.2:=fun p hp=>by
  have:=zJ.mp m1 p hp
  rw[beq_iff_eq,vE]at this;exact this
 have bind:Ve s (wU (WP y.w.params)) ⟨[.ref a0,.str b t],[(za "posix",.bool true)]⟩ [(za "self",.ref a0),(za "instream",.str b t),(za "infile",.none),(za "posix",.bool true),(za "punctuation_chars",.bool false)]:=by
  refine uR (T:=684) (o:=C9 y.w.params) (items:=#[.none,.none,.bool false,.bool false]) (n:=0) rfl (XK _ _ ⋯) rfl (by with_unfolding_all rfl) ⋯
 refine qU (x:=y) S (args:=⟨[.ref a0,.str b t],[(za "posix",.bool true)]⟩) (XK _ _ ho) hd (ud XK I.code) I.body bind (bavs:=Yx (.str b) (.bool false)) (frc:=[])
  ⟨_,_,rfl,by exact⟨a0,by refine zc h1 ?_;rfl,rfl⟩,_,_,rfl,vO _ _,_,_,rfl,Yh,_,_,rfl,Zv _,_,_,rfl,Zv _,rfl⟩ (by refine zc I.clos ?_;exact Capt.nil m2) cons (fun p hp=>?_) I.co I.gen I.kind (xj B.room.de (by exact zN 0x3b633523e83352 [n] hn rfl)) fun env oc s1 eo hf S1 C1 n1 n2=>?_
 ·have hl:(Yx (.str b) (.bool false)).all (fun p=>lk p.1 (wU (WP y.w.params)).scope.names==some .local||lk p.1 (wU (WP y.w.params)).scope.names==some .cell)=true:=⋯
  have:=zJ.mp hl p hp
  rw[wj,beq_iff_eq,beq_iff_eq,vE]at this
  exact this
 ·have Bz:Base (n+1) (y.at' (y.A.deeper env) env oc [] (env.locals::y.fs)):=B.deeper hf (by refine zc eo.sc (zc I.kind ?_);decide)
  generalize hz:y.at' (y.A.deeper env) env oc [] (env.locals::y.fs)=z at S1 Bz
  have hzw:z.w=y.w:=by refine xv hz ?_;rfl
  have hzA:z.A=y.A.deeper env:=by refine xv hz ?_;rfl
  have hze:z.env=env:=by refine xv hz ?_;rfl
  have hzo:z.ρ.ob=[a0]:=by refine xv hz ?_;exact h1
  have hzd:z.δ=y.δ:=by refine xv hz ?_;rfl
  have fit:∀{z':Cx},Base (n+1) z'→z'.w=y.w→z'.env=env→z'.oc=oc→Fits (rm y.w.params) z':=fun{z'} B' hw he hoc=>by
   refine xv hw ?_
   exact Yj B' (by refine zc he (zc eo.sc ?_);exact I.kind) (by exact zc he (zc eo.sc (zc hw rfl))) (by(refine zc hw ?_;rw[m3];refine zc m4 ?_);rfl) (fun m hm c hc=>by exact fT hm) (by refine zc he (zc eo.gl ?_);exact I.gl) (by refine zc he (zc eo.bi ?_);exact I.bi) Cl xX
  have Fz:=fit Bz hzw hze (by refine xv hz ?_;rfl)
  refine zc BZ (xv hzA (xv hze (xv hzw ?_)))
  refine uT (x:=z) (zO ?_)
  refine zc BY ?_
  refine wpAny_If ((yl Fz 30).b _ _ _ (fun c H1=>c=true∧H1=[.inst 767 []]) (by refine zw (sx ..) ?_;exact⟨rfl,rfl⟩) s1 S1 _ _ fun c H1 s2 q S2 K2=>?_)
  refine zK q fun z0 z1=>?_;clear q;subst z0;subst z1
  refine zw (if_pos rfl) (zO (uV ?_ (vJ ⋯)))
  refine Up (x:=z) (K:=KF z.w.params) Bz.K AT ⋯ (by rfl) (k':=fun avs kvs H'=>avs=[.str b]∧kvs=[]∧H'=[.inst 767 []]) S2 ((yl Fz 30).e _ _ _ _ ?_) fun vs ks avs kvs H' s3 q c3 c4 S3 K3=>?_
  ·refine zc (show vI [] (Yx (.str b) (.bool false))=Yx (.str b) (.bool false) from⋯) (zw (sy ..) ?_)
   exact⟨rfl,(yl Fz 30).l _ _ _ _ _ ⋯ (by refine zw (sE ..) ?_;exact w9.kws_nil ⟨rfl,rfl,rfl⟩)⟩
  ·refine yU q fun z0 z1 z2=>?_;clear q;subst z0;subst z1;subst z2
   obtain⟨v,r,rfl,cv,c3⟩:=c3
   subst c3 c4
   refine yf (xm cv) fun t' z1=>?_;subst z1
   refine Fi Bz (zN 0x3b633523c033113502 [n] hn rfl) S3 (by refine zc hzo ?_;rfl) (by refine zc hzd ?_;exact h2) fun a d s4 nd K4 S4=>?_
   have Bp:Base (n+1) (z.push a d):=Bz.push
   have Fp:=fit Bp hzw hze (by refine xv hz ?_;rfl)
   have hl:z.env.kindOf (za "instream")=some .local:=by
    refine(?_:z.env.scope.names.lookup _=_)
    refine zc hze (zc eo.sc (xv (vE ..) ?_))
    kernel_rfl
   refine wv (x:=z.push a d) (kk:=fun fr2 H2=>fr2=Yx (.obj 1) (.bool false)∧H2=[.inst 767 [],xr b 0]) (av:=.obj 1) (by refine zc hze (zc eo.sc ?_);exact I.kind) (.inl hl) ⟨Iq _ _,rfl⟩ S4 (by
    exact ub ⟨a,by show(z.ρ.ob++[a])[1]?=some a;refine zc hzo ?_;rfl,rfl⟩) fun fr2 H2 s5 q S5 K5=>?_
   refine zK q fun z0 z1=>?_;clear q;subst z0;subst z1
   refine qb (qb ?_)
   refine(yl Fp 60).s _ _ _ (fun f fr' H'=>f=.next∧H'=[.inst 767 (fV (za "#") false (.str (za " ")) 1 (za "")),xr b 0]) (by
    refine zw (Il ..) ?_;exact⟨show 125≤16777216 by decide,⟨rfl,rfl⟩,⟨rfl,rfl⟩,rfl,rfl⟩) s5 S5 _ _ fun fl av fr' H' s6 q cf S6 K6=>?_
   refine zK q fun z0 z1=>?_;clear q;subst z0;subst z1
   cases cf
   have kz:∀c,uG z c→c∈y.δ∨s.heap.get? c=none:=fun c t=>by
    rcases t with t|t|t
    ·refine zc t (zc hze ?_);exact .inr n1
    ·rw[←hz]at t;exact .inr (n2 c t)
    ·rw[hzd]at t;exact .inl t
   have C3:Chg y s s3:=C1.on (K2.trans K3) kz
   have nd0:s.heap.get? d=none:=by
    cases e:s.heap.get? d with
    |none=>rfl
    |some o =>
     by_cases hd:d∈y.δ
     ·refine zt (S3.kinds d (.inr (.inr (by rw[hzd];exact hd)))) fun o' e' z2=>?_;clear z2
      rw[nd]at e';exact nS e'
     ·refine zt (C3.keep d o e hd) fun o' e' z2=>?_;clear z2
      rw[nd]at e';exact nS e'
   have C6:Chg y s s6:=(C3.on K4 kz).on (K5.trans K6) fun c t=>by
    rcases t with t|t|t
    ·exact kz c (.inl t)
    ·exact kz c (.inr (.inl t))
    ·rcases zv.mp t with t|t
     ·exact kz c (.inr (.inr t))
     ·refine zc (zd.mp t) ?_;exact .inr nd0
   subst hz
   exact g a d s6 nd0 C6.kept (St.backN (more:=[]) S S6 (fun c q=>by refine zc (zd.mp q) ?_;exact nd0) C6)
end
section
theorem oo:makesIn (KF P) 767=true:=⋯
theorem Bj:Zp (KF P) (.ref 767) "__init__" = some (some (.ref 691)):=⋯
theorem Fu:typeIn (KF P) (.ref 691)=some (.type "function"):=⋯
theorem EZ(B:Base n x)(hn:n<940)(Z:St x fr [] s)(h1:x.ρ.ob=[])(h2:x.δ=[])(g:∀a0 d0 a1 d1 s',s.heap.get? d0=none→s.heap.get? d1=none→Kept x s s'→St (x.more [a0,a1] [d0,d1]) fr [.inst 767 (fV (za "#") false (.str (za " ")) 1 (za "")),xr b 0] s'→R (.ok (.ret (.ref a0))) s'):
  y4 (zu pw x.w) x.A (.call (.ref 767) ⟨[.str b t],[(za "posix",.bool true)]⟩) R s:=by
 obtain⟨hp,gn,dr,tk,os⟩:=s
 have XK:=B.K.keeps Z.base
 refine make_core (makes_of XK oo) (uu XK Bj) (fun self=>Cv XK self Fu) (.inl rfl) ?_
 have e:=tL (show(x.A.under (.builtin "type.__call__" ⟨[.ref 767,.str b t],[(za "posix",.bool true)]⟩)).handled=x.A.handled from rfl) (tL (show(x.A.under (.builtin "type.__call__" ⟨[.ref 767,.str b t],[(za "posix",.bool true)]⟩)).depth=x.A.depth+1 from rfl)
  (tL (show(x.A.under (.builtin "type.__call__" ⟨[.ref 767,.str b t],[(za "posix",.bool true)]⟩)).frames=x.A.frames from rfl) (show(x.A.under (.builtin "type.__call__" ⟨[.ref 767,.str b t],[(za "posix",.bool true)]⟩)).units=x.A.units+1 from rfl)))
 generalize x.A.under (.builtin "type.__call__" ⟨[.ref 767,.str b t],[(za "posix",.bool true)]⟩)=A' at e ⊢
 refine Qi e fun e1 e2 e3 e4=>?_;clear e
 have B':Base (n+1) (x.wA A'):=B.like e1 e2 e3 e4
 let s:zg:=⟨hp,gn,dr,tk,os⟩
 let s1:zg:=⟨(hp.push xf).push (xx 767 hp.objs.size),gn,dr,tk,os⟩
 have X1:Ext s s1:=(Ext.push s _ s.toks).trans (Ext.push _ _ _)
 have ha:s1.heap.get? (hp.objs.size+1)=some (xx 767 hp.objs.size):=by show((hp.push xf).push (xx 767 hp.objs.size)).get? (hp.objs.size+1)=_;heap_get
 have hd:s1.heap.get? hp.objs.size=some xf:=by show((hp.push xf).push (xx 767 hp.objs.size)).get? hp.objs.size=_;heap_get
 have nd:s.heap.get? hp.objs.size=none:=by
  cases e:s.heap.get? hp.objs.size with
  |none=>rfl
  |some o=>exact absurd (zY e) (yI _)
 have S1:St ((x.wA A').push (hp.objs.size+1) hp.objs.size) fr [.inst 767 []] s1:=(Z.wA (A:=A')).push X1 (by show x.ρ.ob.length=0;refine zc h1 ?_;rfl) (by show x.δ.length=0;refine zc h2 ?_;rfl) nd ha (es:=[]) (n:=0) hd rfl
 refine oE (y:=(x.wA A').push (hp.objs.size+1) hp.objs.size) B'.push (zN 0x3ac33523b633113502 [n] hn rfl) S1 (by show x.ρ.ob++_=_;refine zc h1 ?_;rfl) (by show(x.δ++_).length=1;refine zc h2 ?_;rfl) fun a1 d1 s2 n2 K2 S2=>⟨rfl,?_⟩
 have n2':s.heap.get? d1=none:=X1.none n2
 refine g _ hp.objs.size a1 d1 s2 nd n2' ((X1.kept x).on K2 fun c t=>?_) ?_
 ·rcases t with t|t|t
  ·exact .inl (.inl t)
  ·exact .inl (.inr (.inl t))
  ·rcases zv.mp t with t|t
   ·exact .inl (.inr (.inr t))
   ·refine zc (zd.mp t) ?_;exact .inr nd
 ·have:(((x.wA A').push (hp.objs.size+1) hp.objs.size).more [a1] [d1]).wA x.A=x.more [hp.objs.size+1,a1] [hp.objs.size,d1]:=by
   simp[Cx.more,Cx.push,Cx.wA,zA]
  exact xv this S2.wA
end
section
def kS(a0:List AV)(res:AV):yG:=fun avs kvs H k=>(avs=a0∧kvs=[])∧k res H
noncomputable def bZ:List yX:=wt (zm pw.main.body 27)
theorem Kf(P:zp):FnIs P 779 (wU (WO P)) bZ:=⟨⟨WO P,⋯,rfl⟩,⋯,rfl,⋯,⋯,⋯,rfl,rfl,rfl,⋯⟩
noncomputable def gM(e:Expr):List tA:=(xM e).2.1
noncomputable abbrev GW:yX:=zm bZ 1
noncomputable abbrev eP:Expr:=wV GW
theorem BX:bZ=[zm bZ 0]++(zm bZ 1::bZ.drop 2):=⋯
theorem GK:zm bZ 1=.Assign [.Name (za "lex") (GN GW)] (.Call (.Name (za "shlex") (tr eP)) (xC eP) (gM eP) (qa eP)) GW.pos:=⋯
noncomputable abbrev WW(b:Str):y3:=[(za "s",.str b),(za "comments",.bool false),(za "posix",.bool true)]
noncomputable abbrev ja(b:Str):y3:=[(za "s",.str b),(za "comments",.bool false),(za "posix",.bool true),(za "lex",.obj 0)]
noncomputable def kZ(P:zp)(S:yG):Stat:=Ze P (wU (WO P)).scope.names [] (GS "list" S FB) fun U U=>none
section
variable (P:zp) (H:Hp) (b:Str) (S:yG) (a0:List AV) (H0:Hp) (r:AV) (H1:Hp)
theorem sv(k:AFlow→y3→Hp→Prop):(ev (kZ P S) 30).s [zm bZ 0] (vI [] (WW b)) H k=k .next (WW b) H:=⋯
theorem sm(k:AV→Hp→Prop):(ev (kZ P S) 30).e (.Name (za "shlex") (tr eP)) (WW b) H k=k (.glob (.ref 767)) H:=⋯
theorem sr(k:List AV→Hp→Prop):(ev (kZ P S) 30).l (xC eP) (WW b) H k=k [.str b] H:=⋯
theorem sn(k:List AV→Hp→Prop):(ev (kZ P S) 30).w (gM eP) (WW b) H k=k [.bool true] H:=⋯
theorem su(k:AFlow→y3→Hp→Prop):(ev (kZ P (cS a0 H0 r H1)) 30).s (bZ.drop 2) (ja b) [.inst 767 (fV (za "#") false (.str (za " ")) 1 (za "")),xr b 0] k =
  (([.obj 0]=a0∧([]:List (Str×AV))=[]∧[yn (.str (sq 32)) 1 (za ""),xr b 0]=H0)∧k (.ret r) (ja b) H1):=⋯
theorem Ip:xp (za "lex") (.obj 0) (WW b)=ja b:=⋯
theorem Jh:uU (gM eP)=[za "posix"]:=⋯
end
theorem AS:qi (KF P) (.ref 767)=true:=⋯
theorem ConL.strs_any{α:Type}{f:α→Str}:∀{ts:List α} {vs:List zi},ConL ⟨ob,X⟩ h (ts.map fun t=>.str (f t)) vs→ConL ⟨ob',X⟩ h (ts.map fun t=>.str (f t)) vs:=by
 intro l0
 induction l0 with
 |nil =>
  intro _ c
  exact c
 |cons t ts ih =>
  intro _ c
  exact xk c fun v r e hv hr=>⟨v,r,e,xm hv,(ih hr)⟩
theorem y2.strs_any{ob ob' X:List zI}{h:xO}{α:Type}{f:α→Str}{ts:List α}{v:zi}(c:y2 ⟨ob,X⟩ h (.list (ts.map fun t=>.str (f t))) v):y2 ⟨ob',X⟩ h (.list (ts.map fun t=>.str (f t))) v:=by
 exact x7 c fun a vs e no hl hc=>⟨a,vs,e,no,hl,hc.strs_any⟩
theorem fG(B:Base n x)(hn:n<930)(hl:vh N b.cps.toList=some ts)(hb:b.length<sizeLine)(ht:ts.length≤sizeLine):
  y9 x (.ref 779) (kS [.str b] (.list (ts.map fun t=>.str (tS t)))):=by
 intro fr H avs kvs k hs s S vs kws c1 c2 Q E g
 refine zK hs fun z0 hk=>?_;clear hs;obtain⟨rfl,rfl⟩:=z0
 obtain⟨v,r,rfl,cv,c1⟩:=c1
 subst c1
 cases c2
 refine yf (xm cv) fun t z1=>?_;subst z1
 have S0:St x.bare [] [] s:=S.bare
 have B0:Base n x.bare:=B.bare
 have I:=Kf x.w.params
 refine zt I.at_ fun fo ho hd=>?_
 have XK:=B.K.keeps S.base
 have nm:=I.names
 rw[zk,zk,zk]at nm
 refine zK nm fun z0 m4=>?_;clear nm;obtain⟨⟨m1,m2⟩,m3⟩:=z0
 have cons:∀p∈(wU (WO x.w.params)).scope.names,(wU (WO x.w.params)).scope.names.lookup p.1=some p.2:=fun p hp=>by
  have:=zJ.mp m1 p hp
  rw[beq_iff_eq,vE]at this;exact this
 have bind:Ve s (wU (WO x.w.params)) ⟨[.str b t],[]⟩ [(za "s",.str b t),(za "comments",.bool false),(za "posix",.bool true)]:=by
  refine uR (T:=772) (o:=C8 x.w.params) (items:=#[.bool false,.bool true]) (n:=0) rfl (XK _ _ ⋯) rfl (by with_unfolding_all rfl) ⋯
 refine jh (x:=x.bare) S0 (args:=⟨[.str b t],[]⟩) (XK _ _ ho) hd (ud XK I.code) I.body bind (bavs:=WW b) (frc:=[])
  ⟨_,_,rfl,vO _ _,_,_,rfl,Zv _,_,_,rfl,Zv _,rfl⟩ (by refine zc I.clos ?_;exact Capt.nil m2) cons (fun p hp=>?_) I.co I.gen I.kind (xj B.room.de (by exact zN 0x3a233523e83352 [n] hn rfl)) fun env oc s1 eo hf S1 C1 n1 n2=>?_
 ·have hl:(WW b).all (fun p=>lk p.1 (wU (WO x.w.params)).scope.names==some .local||lk p.1 (wU (WO x.w.params)).scope.names==some .cell)=true:=⋯
  have:=zJ.mp hl p hp
  rw[wj,beq_iff_eq,beq_iff_eq,vE]at this
  exact this
 ·have Bz:Base (n+1) (x.bare.at' (x.bare.A.deeper env) env oc [] (env.locals::x.bare.fs)):=B0.deeper hf (by refine zc eo.sc (zc I.kind ?_);decide)
  refine yf (AA (w:=x.w) (m:=n+3) (zN 0x3a233523ac33313502 [n] hn rfl) hb 1 N 0 ts (wk _) (by rw[WA];exact hl)) fun H2 L=>?_
  have TL:∀z':Cx,Base (n+1) z'→z'.w=x.w→uz z' (GS "list" (cS [.obj 0] [yn (.str (sq 32)) 1 (za ""),xr b 0] (.list (ts.map fun t=>.str (tS t))) H2) FB):=fun z' B' hw =>
   gU (oz B' (zN 0x3a233523ac33113502 [n] hn rfl) (by refine zc hw ?_;exact L) (by refine zc (zj ..) ?_;exact ht)) uO
  have fit:∀{z':Cx},Base (n+1) z'→z'.w=x.w→z'.env=env→Fits (kZ x.w.params (cS [.obj 0] [yn (.str (sq 32)) 1 (za ""),xr b 0] (.list (ts.map fun t=>.str (tS t))) H2)) z':=fun{z'} B' hw he=>by
   refine xv hw ?_
   exact Yj B' (by refine zc he (zc eo.sc ?_);exact I.kind) (by exact zc he (zc eo.sc (zc hw rfl))) (by(refine zc hw ?_;rw[m3];refine zc m4 ?_);rfl) (fun m hm c hc=>by exact fT hm) (by refine zc he (zc eo.gl ?_);exact I.gl) (by refine zc he (zc eo.bi ?_);exact I.bi) (TL _ B' hw) xX
  generalize hz:x.bare.at' (x.bare.A.deeper env) env oc [] (env.locals::x.bare.fs)=z at S1 Bz
  have hzw:z.w=x.w:=by refine xv hz ?_;rfl
  have hzA:z.A=x.bare.A.deeper env:=by refine xv hz ?_;rfl
  have hze:z.env=env:=by refine xv hz ?_;rfl
  have hzo:z.ρ.ob=[]:=by refine xv hz ?_;rfl
  have hzd:z.δ=[]:=by refine xv hz ?_;rfl
  have Fz:=fit Bz hzw hze
  have hxw:x.bare.w=z.w:=hzw.symm
  refine zc BX (zc hxw (xv hzA (xv hze ?_)))
  refine uT (x:=z) ((yl Fz 30).s _ _ _ (fun f fr1 H1=>f=.next∧fr1=WW b∧H1=[]) (by refine zw (sv ..) ?_;exact⟨rfl,rfl,rfl⟩) s1 S1 _ _ fun fl av fr1 H1 s2 q cf S2 K2=>?_)
  refine yU q fun z0 z1 z2=>?_;clear q;subst z0;subst z1;subst z2
  cases cf
  refine zc GK (zO (uV ?_ (vJ ⋯)))
  refine Up (x:=z) (K:=KF z.w.params) Bz.K AS ⋯ ⋯ (k':=fun avs kvs H'=>avs=[.str b]∧kvs=[.bool true]∧H'=[]) S2 ((yl Fz 30).e _ _ _ _ ?_) fun vs ks avs kvs H' s3 q c3 c4 S3 K3=>?_
  ·refine zw (sm ..) ?_
   exact⟨rfl,(yl Fz 30).l _ _ _ _ _ ⋯ (by refine zw (sr ..) ?_;exact(yl Fz 30).w _ _ _ _ _ ⋯ (by refine zw (sn ..) ?_;exact⟨rfl,rfl,rfl⟩))⟩
  ·refine yU q fun z0 z1 z2=>?_;clear q;subst z0;subst z1;subst z2
   obtain⟨v,r,rfl,cv,c3⟩:=c3
   obtain⟨v4,r4,rfl,cv4,c4⟩:=c4
   subst c3 c4
   refine yf (xm cv) fun t' z1=>?_;subst z1
   obtain rfl:=WZ cv4
   refine zc Jh (yL (EZ Bz (zN 0x3a233523ac33113502 [n] hn rfl) S3 hzo hzd fun a0 d0 a1 d1 s4 nd0 nd1 K4 S4=>?_))
   have Bp:Base (n+1) (z.more [a0,a1] [d0,d1]):=⟨Bz.K,Bz.room,Bz.link⟩
   have Fp:=fit Bp hzw hze
   have hl:z.env.kindOf (za "lex")=some .local:=by
    refine(?_:z.env.scope.names.lookup _=_)
    refine zc hze (zc eo.sc (xv (vE ..) ?_))
    kernel_rfl
   refine wv (x:=z.more [a0,a1] [d0,d1]) (kk:=fun fr2 H2=>fr2=ja b∧H2=[.inst 767 (fV (za "#") false (.str (za " ")) 1 (za "")),xr b 0]) (av:=.obj 0) (by refine zc hze (zc eo.sc ?_);exact I.kind) (.inl hl) ⟨Ip _,rfl⟩ S4 (by
    exact ub ⟨a0,by show(z.ρ.ob++[a0,a1])[0]?=some a0;refine zc hzo ?_;rfl,rfl⟩) fun fr2 H5 s5 q S5 K5=>?_
   refine zK q fun z0 z1=>?_;clear q;subst z0;subst z1
   refine(yl Fp 30).s _ _ _ (fun f fr' H'=>f=.ret (.list (ts.map fun t=>.str (tS t)))) (by
    refine zw (su ..) ?_;exact⟨⟨rfl,rfl,rfl⟩,rfl⟩) s5 S5 _ _ fun fl av fr' H' s6 q cf S6 K6=>?_
   subst q
   refine zt cf fun v6 z1 c6=>?_;clear cf;subst z1
   dsimp only
   have kz:∀c,uG z c→c∈x.bare.δ∨s.heap.get? c=none:=fun c t=>by
    rcases t with t|t|t
    ·refine zc t (zc hze ?_);exact .inr n1
    ·rw[←hz]at t;exact .inr (n2 c t)
    ·rw[hzd]at t;cases t
   have C3:Chg x.bare s s3:=C1.on (K2.trans K3) kz
   have nn:∀d,s3.heap.get? d=none→s.heap.get? d=none:=fun d nd=>by
    cases e:s.heap.get? d with
    |none=>rfl
    |some o =>
     refine zt (C3.keep d o e (fun q=>by cases q)) fun o' e' z2=>?_;clear z2
     rw[nd]at e';exact nS e'
   have C6:Chg x.bare s s6:=(C3.on K4 kz).on (K5.trans K6) fun c t=>by
    rcases t with t|t|t
    ·exact kz c (.inl t)
    ·exact kz c (.inr (.inl t))
    ·rcases zv.mp t with t|t
     ·exact kz c (.inr (.inr t))
     ·rcases zn.mp t with t|t
      ·refine zc t ?_;exact .inr (nn _ nd0)
      ·refine zc (zd.mp t) ?_;exact .inr (nn _ nd1)
   subst hz
   exact zK (S.unbare C6 S6.base) fun S7 K7=>g v6 _ H s6 hk (y2.strs_any c6) S7 K7
end
section
set_option tactic.hygienic true
open PySem.Builtin PySem.Builtin.Re
theorem UZ{M:fb}{A:y1}{E:zi→zg→Prop}{s:zg}{m:Sre.M}{Q:PUnit→zg→Prop}(h:Q ⟨⟩ s)(l:List Nat):
  zr M A (forIn l yO fun i _=>do
   if m.seen.has i then rule (Sre.names.getD i "")
   pure (qB yO)) Q E s:=by
 refine wpAny_forIn_list _ (fun _ _ s'=>s'=s) Q (fun x rest b s' e=>?_) (fun b s' e=>by subst e;exact h) l _ rfl
 subst e
 dsimp only
 split
 ·exact zb (wpAny_rule (wpAny_pure rfl))
 ·exact wpAny_pure rfl
theorem Tt(hr:m.runFor 4=m')(ho:m'.outcome.isSome=true)(h:Q m' s):zr M A (reDrive (n+1) m) Q E s:=by
 refine(?_:zr _ _ (if(m.runFor 4).outcome.isSome then pure (m.runFor 4)else _) _ _ _)
 refine zc hr ?_
 exact zc (if_pos ho) (wpAny_pure h)
theorem EB(h1:text.toList.all uM=true→Q none s)(h2:text.toList.all uM=false→∀m,Q (some m) s):
  zr M A (reRunToEnd (YH ww text 0 0 text.size false)) Q E s:=by
 unfold reRunToEnd
 refine zc (show(2:Nat)^64=18446744073709551615+1 by decide) ?_
 rcases cU text with⟨a,m,b,c⟩|⟨a,m,b,c⟩
 ·refine zb (Tt b (by refine zc c ?_;rfl) ?_)
  refine zb (UZ ?_ _)
  exact zc c (wpAny_pure (h1 a))
 ·refine zb (Tt b (by refine zc c ?_;rfl) ?_)
  refine zb (UZ ?_ _)
  exact zc c (wpAny_pure (h2 a m))
theorem LM:(KF P).lookup 49=some (JI P):=⋯
theorem oV:(KF P).lookup 780=some (C7 P):=⋯
theorem jw(X:(KF w.params).In h)(b:Str)(t:Tok):xD (zu pw w) h (reTarget "re.Pattern.search" "search" ⟨[.ref 49,.str b t],[]⟩) ⟨.ref 49,.str b t,ww,b.cps,0,0,min 0 b.cps.size,min 9223372036854775807 b.cps.size⟩:=wq X ⋯
theorem pU(X:(KF w.params).In h)(b:Str)(t:Tok):xD (zu pw w) h (checkBoundCall "re.Pattern.search" ⟨[.ref 49,.str b t],[]⟩) ():=wq X ⋯
theorem bH:YG lb "re.Pattern.search" = some Builtin.«re.Pattern.search»:=vW ⋯
theorem cV(X:(KF w.params).In s.heap)(hb:b.length<sizeLine)(h1:b.cps.toList.all uM=true→Q .none s)(h2:b.cps.toList.all uM=false→∀a s',Ext s s'→Q (.ref a) s'):zr (zu pw w) A (call (.ref 780) [.str b t]) Q E s:=by
 have hb':b.cps.size<16777216+1:=by have:=hb;rw[zy]at this;show b.length<_;exact zN 0x10000007352113100000073052 [b.length] this rfl
 refine yL (xZ ?_)
 refine(?_:zr _ _ (load 780 >>= _) _ _ _)
 refine zb (wpAny_load (X _ _ oV) ?_)
 show zr _ _ (checkBoundCall "re.Pattern.search" ⟨[.ref 49,.str b t],[]⟩ >>= _) _ _ _
 refine zb ((pU X b t).here ?_)
 refine wpAny_pure (tL (xR _ (by decide +kernel)) (codeAny_builtin bH ?_))
 unfold Builtin.«re.Pattern.search»
 refine zb ((jw X b t).here ?_)
 dsimp only
 refine zc (show min 0 b.cps.size=0 from Nat.zero_min _) (zc (show min 9223372036854775807 b.cps.size=b.cps.size from Hc (by omega)) ?_)
 unfold reAnswer
 refine zb (EB (text:=b.cps) (fun a=>wpAny_pure (h1 a)) fun a m=>?_)
 dsimp only
 refine zb ?_
 unfold reNewMatch
 show zr _ _ (newTuple [rawInt m.start,rawInt m.handed] >>= _) _ _ _
 refine zb (k8 ?_)
 exact yQ (wpAny_pure (h2 a _ _ ((Ext.push s _ s.toks).trans (Ext.push _ _ _))))
end
section
noncomputable def Ae:AV:=.ext fun U v=>∃a,v=.ref a
def sX:yG:=fun avs kvs H k=>EP La avs fun b=>(kvs=[]∧b.length<sizeLine)∧(b.cps.toList.all uM=true→k .none H)∧(b.cps.toList.all uM=false→k Ae H)
set_option tactic.hygienic true in
theorem jO(B:Base n x):y9 x (.ref 780) sX:=by
 intro fr H avs kvs k hs s S vs kws c1 c2 Q E g
 refine zt (U7 bR hs) fun b z0 hs=>?_
 ·subst z0
  refine yU hs fun z0 h1 h2=>?_;clear hs;obtain⟨rfl,hb⟩:=z0
  cases c2
  (refine xk (uq c1) fun v r z2 cv cr=>?_;clear c1;subst z2);replace cr:_=[]:=cr;subst cr;(refine yf (xm cv) fun t z1=>?_;subst z1)
  refine cV (B.K.keeps S.base) hb (fun a=>g _ _ H _ (h1 a) Yh S (Kept.refl _ _)) fun a v s' X=>g _ _ H _ (h2 a) ?_ (S.ext X) (X.kept x)
  unfold Ae y2
  exact fun U U=>⟨_,rfl⟩
section
variable {x:Cx} {fr:y3} {H:Hp} {kb:Bool→Hp→Prop}
theorem xe.is_none(hb:vK .Is r=false)(h:zL x fr H (zR l x.env) fun a H1=>zL x fr H1 (zR r x.env) fun c H2=>c=.none∧((a=.none∧kb true H2)∨(a=Ae∧kb false H2))):xe x fr H (isTrue (.Compare l [.Is] [r] pos) x.env whole) kb:=
 fun s S U E f=>wy (h s S _ E fun v a H1 s1 h1 c1 S1 K1=>h1 s1 S1 _ E fun w U H2 s2 h2 c2 S2 K2=>by
  obtain⟨rfl,h2⟩:=h2
  obtain rfl:=uc c2
  rcases h2 with⟨rfl,h2⟩|⟨rfl,h2⟩
  ·obtain rfl:=uc c1
   exact wpAny_is_self rfl (xQ (f _ H2 s2 h2 S2 (K1.trans K2)))
  ·unfold Ae y2 at c1
   refine yf (c1 s1.heap (.refl _ _)) fun a z1=>?_;subst z1
   exact wpAny_is_other rfl (fun e=>by cases e) (xQ (f _ H2 s2 h2 S2 (K1.trans K2)))) hb
end
theorem AR(h:xO)(X:(KF w.params).In h):∃k,(k=fc∨k=ag∨k=V4)∧xD (zu pw w) h (keeperOf (.ref 780)) k:=⟨.machine,.inr (.inl rfl),wq X ⋯⟩
section
variable {x:Cx} {fr:y3} {H:Hp}
theorem zL.callK{K:uQ}(X:K.In x.B){f:zi}(hk:∀h,K.In h→∃k,(k=fc∨k=ag∨k=V4)∧xD (zu pw x.w) h (keeperOf f) k){S:yG}(hS:y9 x f S){n:Str}{np pos:ZJ}{args:List Expr}{kws:List tA}(ha:xP args=true)(hkw:to kws=true){k:AV→Hp→Prop}(h:zL x fr H (zR (.Name n np) x.env) fun a H0=>a=.glob f∧w9 x fr H0 (vR (vX pos (xL args x.env))) fun avs H1=>w9 x fr H1 (Ys ((xS pos (yN kws x.env)).map (·.2))) fun kvs H2=>S avs ((uU kws).zip kvs) H2 k):
  zL x fr H (zR (.Call (.Name n np) args kws pos) x.env) k:=fun s Z Q E g=>by
 refine vm (h s Z _ E fun v a H0 s0 h0 c0 S0 K0=>?_)
 obtain⟨rfl,h0⟩:=h0
 have:=wo c0
 subst this
 refine ZH (P:=K.In) (by rw[(vM ha).1,(u7 hkw).2.1];rfl) hk (w8 ha hkw (h0 s0 S0 _ _ fun vs avs H1 s1 h1 c1 S1 K1=>h1 s1 S1 _ _ fun ks kvs H2 s2 h2 c2 S2 K2=>⟨X.keeps S2.base,?_⟩))
 exact hS fr H2 _ _ k h2 s2 S2 _ _ (c1.mono (S1.nonMut K2)) (Zj.zip c2) Q E fun v a H' s' q1 q2 q3 q4=>g v a H' s' q1 q2 q3 (K0.trans (K1.trans (K2.trans q4)))
end
noncomputable def YB:Str:=za "'"
noncomputable def Xw:Str:=za "'\"'\"'"
noncomputable def wN(b:Str):Str:=if b.length=0 then za "''" else if b.cps.toList.all uM=true then b else YB++x4 b YB Xw++YB
noncomputable def Zm:List yX:=wt (zm pw.main.body 29)
theorem Ke(P:zp):FnIs P 787 (wU (iT P)) Zm:=⟨⟨iT P,⋯,rfl⟩,⋯,rfl,⋯,⋯,⋯,rfl,rfl,rfl,⋯⟩
noncomputable def gO(e:Expr):Expr:=wx (xE e) 0
noncomputable def pW(e:Expr):Expr:=wx (xE e) 1
noncomputable abbrev gR:Expr:=TZ (zm Zm 2)
noncomputable abbrev Ce:Expr:=pW (gO gR)
noncomputable def Bt(e:Expr):Nat:=(xM e).2.2.1
theorem BW:Zm=[zm Zm 0,zm Zm 1,zm Zm 2]:=⋯
theorem GJ:zm Zm 0=.If (uy (zm Zm 0)) (ux (zm Zm 0)) [] (zm Zm 0).pos:=⋯
noncomputable abbrev rb:Expr:=Ty (uy (zm Zm 1))
theorem GI:zm Zm 1=.If (.Compare (.Call (.Name (za "_find_unsafe") (tr rb)) (xC rb) [] (qa rb)) [.Is] [Tw (uy (zm Zm 1))] (uy (zm Zm 1)).pos) (ux (zm Zm 1)) [] (zm Zm 1).pos:=⋯
noncomputable abbrev Ca(i:Nat):Expr:=wx (xC Ce) i
theorem GH:zm Zm 2=.Return (some (.BinOp (.BinOp (.Constant (.str YB) (Bt (gO (gO gR))) (gO (gO gR)).pos) .Add (.Call (.Attribute (.Name (za "s") (pR Ce).pos) (za "replace") (pS Ce))
  [.Constant (.str YB) (Bt (Ca 0)) (Ca 0).pos,.Constant (.str Xw) (Bt (Ca 1)) (Ca 1).pos] [] (qa Ce)) (gO gR).pos) .Add (.Constant (.str YB) (Bt (pW gR)) (pW gR).pos) gR.pos)) (zm Zm 2).pos:=⋯
noncomputable abbrev qk(b:Str):y3:=[(za "s",.str b)]
noncomputable def VK(P:zp):Stat:=Ze P (wU (iT P)).scope.names [] FB fun U U=>none
section
variable (P:zp) (H:Hp) (b:Str)
theorem sk(k:Bool→Hp→Prop):(ev (VK P) 20).b (uy (zm Zm 0)) (qk b) H k=yD (decide (b.length≤sizeLine)) (k (!((b.length:Int) != 0)) H):=⋯
theorem mn(k:AFlow→y3→Hp→Prop):(ev (VK P) 20).s (ux (zm Zm 0)) (qk b) H k=k (.ret (.str (za "''"))) (qk b) H:=⋯
theorem mj(k:AV→Hp→Prop):(ev (VK P) 20).e (.Name (za "_find_unsafe") (tr rb)) (qk b) H k=k (.glob (.ref 780)) H:=⋯
theorem ml(k:List AV→Hp→Prop):(ev (VK P) 20).l (xC rb) (qk b) H k=k [.str b] H:=⋯
theorem cD(k:AV→Hp→Prop):(ev (VK P) 20).e (Tw (uy (zm Zm 1))) (qk b) H k=k .none H:=⋯
theorem mi(k:AFlow→y3→Hp→Prop):(ev (VK P) 20).s (ux (zm Zm 1)) (qk b) H k=k (.ret (.str b)) (qk b) H:=⋯
end
end
section
section
variable {x:Cx} {fr:y3} {H:Hp}
theorem cX{K:uQ}(X:K.In x.B){n:Str}{b y z:Str}{np ap pos p1 p2:ZJ}{q1 q2:Nat}(hk:x.env.scope.kind=.function)(hl:x.env.kindOf n=some .local)(e:lk n fr=some (.str b))(hd:(n==("__debug__" : Str))=false)(hb:TQ (.Name n np) (za "replace") x.env (zR (.Name n np) x.env)=zR (.Name n np) x.env)(hp:(ap.endLine==pos.line)=true)(hyz:(y==z)=false)(hx:b.length≤1048576)(hz:z.length≤14){s:zg}(S:St x fr H s)(ht:s.toks≠0){Q E:zi→zg→Prop}(f:∀v s',y2 x.ρ s'.heap (.str (x4 b y z)) v→Ext s s'→Q v s'):
  zr (zu pw x.w) x.A (zR (.Call (.Attribute (.Name n np) (za "replace") ap) [.Constant (.str y) q1 p1,.Constant (.str z) q2 p2] [] pos) x.env) Q E s:=by
 refine zc (ru ..) (zc hb ?_)
 refine yU S.frame fun z0 z1 z2=>?_;obtain⟨mm,hn,gf⟩:=z0;clear z1;clear z2
 refine zt (gf n _ hl e) fun v hv c=>yf (xm c) fun t z1=>?_;subst z1
 refine zb (k9 (Ud hk hl hn hv ?_) hd)
 refine zb (xi ?_)
 unfold methodCall
 have hform:YE (2+([]:List tA).length) (vX pos (xL [.Constant (.str y) q1 p1,.Constant (.str z) q2 p2] x.env)) (xS pos (yN [] x.env))=true:=⋯
 refine zc (show[Expr.Constant (.str y) q1 p1,.Constant (.str z) q2 p2].length=2 from rfl) (zc hform ?_)
 refine zb (zV (GM.replace ?_))
 have hpos:ZA true (.Name n np) x.env ap pos=pure pos:=by unfold ZA;simp[hp]
 refine zb (x8 hpos ?_)
 refine ZH (P:=K.In) ⋯ (Xk (f:=.builtin "str.replace") rfl) (w8 (args:=[.Constant (.str y) q1 p1,.Constant (.str z) q2 p2]) (kws:=[]) rfl rfl ?_)
 show zr _ _ (vR [(false,zR (.Constant (.str y) q1 p1) x.env),(false,zR (.Constant (.str z) q2 p2) x.env)]) _ _ _
 refine uv (Yt (uv (Yt (Xs (kwAll_nil ⟨X.keeps S.base,?_⟩)))))
 exact SC.replaceW (x:=b) (y:=y) (z:=z) (u:=s.toks) (v:=s.toks+1) ht (G9 _) (vY (qR _)) hyz hx hz fun t' k=>f _ _ (vO _ _) (Ext.toks _ _)
end
theorem nh(B:Base n x)(hn:n<980)(hb:b.length≤100000)(hl:(YB++x4 b YB Xw++YB).length≤sizeLine):y9 x (.ref 787) (kS [.str b] (.str (wN b))):=by
 refine(Td (S:=kS [.str b] (.str (wN b))) B (by omega) (Ke _) (wr:=[]) (F:=FB) (DP:=fun U U=>none) rfl (fun U B' U=>uO) (fun U U U=>xX) fun avs kvs H k h=>?_).call
 obtain⟨⟨rfl,rfl⟩,h⟩:=h
 refine⟨_,tU (n1:=za "s") (fun v1=>⋯),⋯,fun x' B' Ft hw=>?_⟩
 have hs:b.length≤sizeLine:=by rw[zy];omega
 rw[BW]
 refine zQ.cons ?_
 rw[GJ]
 refine zQ.if_ ((yl Ft 20).b _ _ _ _ ?_)
 show(ev (VK x.w.params) 20).b _ (qk b) H _
 rw[sk]
 refine y7 (decide_eq_true hs) ⟨fun e=>?_,fun e=>zQ.nil (zQ.cons ?_)⟩
 ·refine(yl Ft 20).s _ _ _ _ ?_
  show(ev (VK x.w.params) 20).s _ (qk b) H _
  rw[mn]
  have e0:b.length=0:=by simpa using e
  unfold wN at h
  rw[if_pos e0]at h
  exact h
 ·have e0:¬b.length=0:=by simpa using e
  refine zc GI (zQ.if_ (xe.is_none ⋯ (zL.callK B'.K AR (jO B') ⋯ (by rfl) ((yl Ft 20).e _ _ _ _ ?_))))
  show(ev (VK x.w.params) 20).e _ (qk b) H _
  refine zw (mj ..) ⟨rfl,(yl Ft 20).l _ _ _ _ _ ⋯ ?_⟩
  show(ev (VK x.w.params) 20).l _ (qk b) H _
  refine zw (ml ..) ?_
  refine w9.kws_nil ⟨⟨rfl,by refine zc zy ?_;omega⟩,fun a=>(yl Ft 20).e _ _ _ _ ?_,fun a=>(yl Ft 20).e _ _ _ _ ?_⟩
  ·show(ev (VK x.w.params) 20).e _ (qk b) H _
   refine zw (cD ..) (⟨rfl,.inl ⟨rfl,fun U=>(yl Ft 20).s _ _ _ _ ?_,fun z=>by exact tF z⟩⟩)
   show(ev (VK x.w.params) 20).s _ (qk b) H _
   refine zw (mi ..) ?_
   unfold wN at h
   rw[if_neg e0,if_pos a]at h
   exact h
  ·show(ev (VK x.w.params) 20).e _ (qk b) H _
   refine zw (cD ..) (⟨rfl,.inr ⟨rfl,fun z=>(by exact fT z),fun U=>zQ.nil (zQ.cons ?_)⟩⟩)
   unfold wN at h
   rw[if_neg e0,if_neg (by refine zc a ?_;decide)]at h
   refine zc GH ?_
   have hl':=hl
   rw[ye,ye]at hl'
   intro s S Q E g
   refine qL (G0 (G0 (Yt ?_)))
   have S1:St x' (qk b) H {s with toks:=s.toks+1}:=S.ext (Ext.toks _ _)
   refine cX (b:=b) (y:=YB) (z:=Xw) (fr:=qk b) B'.K Ft.fn ?_ ⋯ ⋯ ⋯ ⋯ ⋯ (by omega) (by show(5:Nat)≤14;decide) S1 (by show s.toks+1≠0;omega) fun v s2 c2 X2=>?_
   ·exact(xl Ft _).trans ⋯
   ·have S2:=S1.ext X2
    refine Wo (ρ:=x'.ρ) S2.opn (op:=.Add) (a:=.str YB) (b:=.str (x4 b YB Xw)) (k:=fun a=>a=.str (YB++x4 b YB Xw)) ⟨by omega,rfl⟩ (vO _ _) c2 fun v3 a3 s3 e3 c3 X3=>Yt ?_
    subst e3
    have S3:=S2.ext X3
    have X4:Ext s3 {s3 with toks:=s3.toks+1}:=Ext.toks _ _
    refine Wo (ρ:=x'.ρ) (S3.ext X4).opn (op:=.Add) (a:=.str (YB++x4 b YB Xw)) (b:=.str YB) (k:=fun a=>a=.str (YB++x4 b YB Xw++YB)) ⟨by refine zc (ye ..) ?_;omega,rfl⟩ (c3.mono X4.nonMut) (vO _ _) fun v5 a5 s5 e5 c5 X5=>?_
    subst e5
    exact g (.ret v5) (.ret (.str (YB++x4 b YB Xw++YB))) _ _ s5 h ⟨_,rfl,c5⟩ ((S3.ext X4).ext X5) (((Ext.toks s (s.toks+1)).trans (X2.trans (X3.trans (X4.trans X5)))).kept x')
end
section
noncomputable def rk(kinds:List (Str×NameKind))(scope:qv):List (Str×NameKind):=scope.names.map fun p=>bif (p.2==.free&&lk p.1 kinds==some .cell)then(p.1,.cell)else p
structure Sits(n:Nat)(w:ya)(kinds:List (Str×NameKind))(wr:List Str)(F:zi→Option yG)(DP:zI→Str→Option yG)(x:Cx):Prop where
 base:Base n x
 hw:x.w=w
 fits:Fits (Ze w.params kinds wr F DP) x
 tabs:∀x',Base n x'→x'.w=w→uz x' F
 props:∀x',Base n x'→x'.w=w→Yp x' DP
section
variable {n:Nat} {w:ya} {kinds:List (Str×NameKind)} {wr:List Str} {F:zi→Option yG} {DP:zI→Str→Option yG} {x x':Cx} {fr:y3} {H:Hp} {acc:zI}
theorem II(Z:Sits n w kinds wr F DP x):(tw scope x.env).names=rk kinds scope:=by
 unfold tw rk
 refine yT fun p U=>?_
 obtain⟨m,k⟩:=p
 dsimp only
 refine zc (xl Z.fits m) (zc Z.fits.fn ?_)
 refine(?_:(if(k==yY&&true&&lk m kinds==some wK)=true then _ else _)=_)
 refine zc (fh ..) ?_
 cases(k==yY&&lk m kinds==some wK)<;>rfl
noncomputable def bj:List Str→Bool
 |[]=>true
 |m::r=>r.all (fun q=>!Fast.sEq m q)&&bj r
theorem j3:∀{l:List Str},bj l=true→l.Nodup:=by
 intro l0
 induction l0 with
 |nil =>
  intro _
  exact wC
 |cons m r ih =>
  intro h
  unfold bj at h
  rw[zk]at h
  refine tB.mpr ⟨fun q=>?_,(ih h.2)⟩
  have:=zJ.mp h.1 m q
  rw[show zZ m m=true from yk.mpr rfl]at this
  exact fT this
noncomputable def qj(t:Str)(kinds:List (Str×NameKind)):Bool:=lk t kinds==some .local||lk t kinds==some .cell
noncomputable def wP(kinds:List (Str×NameKind))(scope:qv):Bool:=
 (scope.kind==.function&&scope.names.all (fun p=>lk p.1 scope.names==some p.2))&&(bj (scope.names.map (·.1))&&scope.names.all (fun p=>!(p.2==.free)||(lk p.1 kinds==some .cell||lk p.1 kinds==some .free))) &&
  ((lk "__debug__" (rk kinds scope)).isNone&&(lk "__classdict__" (rk kinds scope)).isNone)
theorem UH(Z:Sits n w kinds wr F DP x)(h:wP kinds scope=true):CompOk x scope:=by
 unfold wP at h
 rw[zk,zk,zk]at h
 refine zK h fun z0 z1=>?_;obtain⟨⟨h1,h2⟩,h3⟩:=z0;clear z1
 rw[zk]at h3
 refine⟨beq_iff_eq.mp h1,fun p hp=>?_,j3 h3.1,fun p hp e=>?_⟩
 ·have:=zJ.mp h2 p hp
  rw[beq_iff_eq,vE]at this;exact this
 ·have:=zJ.mp h3.2 p hp
  rw[e]at this
  refine zc (xl Z.fits p.1) (?_:lk p.1 kinds=some .cell∨lk p.1 kinds=some .free)
  simpa using this
theorem Sits.same(Z:Sits n w kinds wr F DP x)(B:Base n x')(hw:x'.w=x.w)(he:x'.env=x.env)(ho:x'.oc=x.oc)(hB:x'.B=x.B):Sits n w kinds wr F DP x':=by
 have hw':x'.w=w:=hw.trans Z.hw
 refine⟨B,hw',?_,Z.tabs,Z.props⟩
 have f:=Z.fits
 exact⟨he▸f.fn,he▸f.names,f.nodbg,he▸ho▸f.wr,he▸hB▸f.gl,hB▸f.K,f.T,Z.tabs _ B hw',f.M,Z.props _ B hw',f.SM,he▸f.quiet⟩
theorem Sits.wi(Z:Sits n w kinds wr F DP x)(Y:List zI):Sits n w kinds wr F DP (x.wi Y):=Z.same Z.base.same rfl rfl rfl rfl
theorem Sits.sub(Z:Sits n w kinds wr F DP x)(h:wP kinds scope=true)(S:Sub x scope x' acc):Sits n w (rk kinds scope) [] F DP x':=by
 have hn:(tw scope x.env).names=rk kinds scope:=II Z
 unfold wP at h
 rw[zk,zk,zk]at h
 refine zK h fun z0 h4=>?_;clear h;obtain⟨⟨h1,-⟩,-⟩:=z0
 refine Y5 S.eq fun env oc e=>?_
 have B:Base n x':=by refine zc e ?_;exact Z.base.same
 have hw:x'.w=w:=by refine zc e ?_;exact Z.hw
 have hB:x'.B=x.B:=by refine zc e ?_;rfl
 have hk:x'.env.scope.kind=.function:=by refine zc S.sc ?_;exact beq_iff_eq.mp h1
 have f:=Z.fits
 refine⟨B,hw,⟨hk,by refine zc S.sc ?_;exact hn,?_,fun m hm=>(by exact fT hm),by refine zc S.gl (zc S.bi (zc hB ?_));exact f.gl,by refine zc hB ?_;exact f.K,f.T,Z.tabs _ B hw,f.M,Z.props _ B hw,f.SM,?_⟩,Z.tabs,Z.props⟩
 ·rw[zk,xg,xg]at h4;exact h4
 ·unfold eY;refine zc hk ?_;rfl
theorem aB(Z:Sits n w kinds wr F DP x)(h:wP kinds scope=true)(S:Sub x scope x' acc)(ht:qj t scope.names=true):
  x'.env.kindOf t=some .local∨(x'.env.kindOf t=some .cell∧∀c,x'.env.cells.lookup t=some c→c∈x'.oc):=by
 have Z':=Z.sub h S
 unfold qj at ht
 rw[wj,beq_iff_eq,beq_iff_eq]at ht
 have key:∀{names:List (Str×NameKind)} {kd:G5},kd≠.free→lk t names=some kd→lk t (names.map fun p=>bif (p.2==.free&&lk p.1 kinds==some .cell)then(p.1,.cell)else p)=some kd:=by
  intro names kd hne
  induction names with
  |nil=>intro h;exact nS h
  |cons p r ih =>
   intro h
   rw[wQ]at h
   refine zc zU ?_
   refine zc wQ ?_
   have e1:(bif (p.2==yY&&lk p.1 kinds==some wK)then(p.1,wK)else p).1=p.1:=by
    cases(p.2==yY&&lk p.1 kinds==some wK)<;>rfl
   refine zc e1 ?_
   cases q:zZ t p.1 with
   |true =>
    rw[q]at h
    replace h:=zf h;subst h
    refine zc (show(p.2==yY)=false by
     cases e:p.2==yY with
     |false=>rfl
     |true=>exact absurd (beq_iff_eq.mp e) hne) ?_
    rfl
   |false=>rw[q]at h;exact ih h
 have hk:x'.env.kindOf t=lk t (rk kinds scope):=xl Z'.fits t
 rcases ht with ht|ht
 ·exact .inl (hk.trans (key (by decide) ht))
 ·exact .inr ⟨hk.trans (key (by decide) ht),fun c e=>S.own t c (by refine xv (vE ..) ?_;exact ht) e⟩
theorem ui(h:kb true H):xe x fr H (WE [] x.env) kb:=fun s S U U f=>wpAny_pure (f _ _ _ h S (Kept.refl _ _))
theorem Xd(h:xe x fr H (isTrue c x.env (zR c x.env)) kb):xe x fr H (WE [c] x.env) kb:=fun s S Q E f=>by
 unfold WE
 refine zc (XF ..) (zc (if_pos rfl) ?_)
 refine zb (zb (h s S _ _ fun b H' s' q S' K'=>wpAny_pure ?_))
 refine(?_:zr _ _ (forIn [] b _) _ _ _)
 exact zc cz (wpAny_pure (f _ _ _ q S' K'))
theorem mq:∀{fr:y3},xp t a (xp t b fr)=xp t a fr:=by
 intro l0
 induction l0 with
 |nil =>
  refine(?_:xp t a [(t,b)]=[(t,a)])
  refine zc ZQ ?_
  rw[show zZ t t=true from yk.mpr rfl];rfl
 |cons p r ih =>
  rw[xp,xp]
  cases q:zZ t p.1 with
  |true =>
   refine(?_:xp t a ((t,b)::r)=(t,a)::r)
   rw[xp,show zZ t t=true from yk.mpr rfl];rfl
  |false =>
   refine(?_:xp t a (p::xp t b r)=p::xp t a r)
   rw[xp,q]
   refine(?_:p::xp t a (xp t b r)=_)
   rw[ih]
end
end
section
section
variable {n:Nat} {w:ya} {kinds:List (Str×NameKind)} {wr:List Str} {F:zi→Option yG} {DP:zI→Str→Option yG} {x x':Cx} {fr:y3} {H:Hp} {acc:zI}
variable {elt iter:Expr} {t:Str} {tp pos:ZJ} {ifs:List Expr} {scope:qv}
def bU(n:Nat)(w:ya)(kinds:List (Str×NameKind))(F:zi→Option yG)(DP:zI→Str→Option yG)(t:Str)(F0:y3)(ifs:List Expr)(elt:Expr)(J:List AV→List AV→Hp→Prop):Prop:=
 ∀a rest out H1,J (a::rest) out H1→∀y,Sits n w kinds [] F DP y→xe y (xp t a F0) H1 (WE ifs y.env) fun ok H2=>(ok=false→J rest out H2)∧(ok=true→zL y (xp t a F0) H2 (zR elt y.env) fun v H3=>J rest (out++[v]) H3)
theorem CX(Z:Sits n w kinds wr F DP x)(hc:wP kinds scope=true)(ht:qj t scope.names=true)(S:Sub x scope x' acc){kk:List AV→Hp→Prop}{J:List AV→List AV→Hp→Prop}(step:bU n w (rk kinds scope) F DP t F0 ifs elt J)(fin:∀out H1,J [] out H1→kk out H1):
  ∀(l:List AV) (out:List AV) (fr1:y3) (H1:Hp),(∀a,xp t a fr1=xp t a F0)→J l out H1→out.length+l.length≤sizeLine→u4 x' acc (.ListComp elt [⟨.Name t tp,iter,ifs,0⟩] scope pos) 0 out.length l fr1 H1 fun out2 U H2=>kk (out++out2) H2:=by
 intro l0
 induction l0 with
 |nil =>
  intro out fr1 H1 _ hJ _
  exact u4.nil (cE elt iter ifs scope pos) (by refine zc (yB ..) ?_;exact fin _ _ hJ)
 |cons a l ih =>
  intro out fr1 H1 hf hJ hl
  have Z':=Z.sub hc S
  have hf':∀a',xp t a' (xp t a F0)=xp t a' F0:=fun a'=>mq
  rw[zS]at hl
  refine u4.emit (cE elt iter ifs scope pos) Z'.fits.fn (aB Z hc S ht) (by omega) fun I U=>zc (hf a) ((step a l out H1 hJ (x'.wi [I]) (Z'.wi [I])).mono fun ok H2 q=>⟨fun e=>?_,fun e=>(q.2 e).mono fun v H3 q3=>?_⟩)
  ·exact(ih out _ H2 hf' (q.1 e) (by omega))
  ·have:=(ih (out++[v]) _ H3 hf' q3 (by refine zc zG ?_;show out.length+1+l.length≤_;omega))
   rw[zG]at this
   simp only[zA]at this
   exact this
theorem Sits.comp(Z:Sits n w kinds wr F DP x)(hc:wP kinds scope=true)(ht:qj t scope.names=true)(hs:∀v,yR iter x.env v=pure v)(h:zL x fr H (zR iter x.env) fun a H1=>∃l J,u3 a=some l∧uZ a∧l.length≤sizeLine∧J l [] H1∧bU n w (rk kinds scope) F DP t (wf scope.names fr) ifs elt J∧∀out H1,J [] out H1→k (.list out) H1):
  zL x fr H (zR (.ListComp elt [⟨.Name t tp,iter,ifs,0⟩] scope pos) x.env) k:=
 zL.comp (UH Z hc) hs Z.base.room.hh (h.mono fun a H1 q=>by
  refine x7 q fun l J h1 h2 h3 z5=>?_;refine yU z5 fun h4 h5 h6=>?_;clear z5
  exact⟨l,h1,h2,fun x' acc S=>CX Z hc ht S h5 h6 l [] _ H1 (fun U=>rfl) h4 (by show 0+l.length≤_;omega)⟩)
theorem Sits.assign_comp(Z:Sits n w kinds wr F DP x)(hc:wP kinds scope=true)(ht:qj t scope.names=true)(hs:∀v,yR iter x.env v=pure v)(hsw:uH (.ListComp elt [⟨.Name t tp,iter,ifs,0⟩] scope pos) (some (.Name y py)) spos.line x.env=pure true)(hl:lk y kinds=some .local)(h:zL x fr H (zR iter x.env) fun a H1=>∃l J,u3 a=some l∧uZ a∧l.length≤sizeLine∧J l [] H1∧bU n w (rk kinds scope) F DP t (wf scope.names fr) ifs elt J∧∀out H1,J [] out H1→k .next (xp y (.list out) fr) H1):
  zQ x fr H (tx (.Assign [.Name y py] (.ListComp elt [⟨.Name t tp,iter,ifs,0⟩] scope pos) spos) x.env) k:=
 zQ.assign_comp (UH Z hc) hs Z.base.room.hh hsw Z.fits.fn ((xl Z.fits y).trans hl) (h.mono fun a H1 q=>by
  refine x7 q fun l J h1 h2 h3 z5=>?_;refine yU z5 fun h4 h5 h6=>?_;clear z5
  exact⟨l,h1,h2,fun x' acc S=>CX (kk:=fun out H2=>k .next (xp y (.list out) fr) H2) Z hc ht S h5 h6 l [] _ H1 (fun U=>rfl) h4 (by show 0+l.length≤_;omega)⟩)
def uA(n:Nat)(w:ya)(kinds:List (Str×NameKind))(F:zi→Option yG)(DP:zI→Str→Option yG)(t:Str)(F0:y3)(ifs:List Expr)(elt:Expr)(H:Hp)(l:List AV)(g:AV→Option AV):Prop:=
 ∀a∈l,∀y,Sits n w kinds [] F DP y→xe y (xp t a F0) H (WE ifs y.env) fun ok H2=>H2=H∧(ok=false→g a=none)∧(ok=true→zL y (xp t a F0) H (zR elt y.env) fun v H3=>H3=H∧g a=some v)
theorem uA.turn(h:uA n w kinds F DP t F0 ifs elt H l g):
  bU n w kinds F DP t F0 ifs elt fun rest out H1=>H1=H∧(∀a∈rest,a∈l)∧out++rest.filterMap g=l.filterMap g:=fun a rest out H1 hJ y Z=>by
 refine yU hJ fun z0 h1 h2=>?_;clear hJ;subst z0
 refine(h a (h1 a (.head _)) y Z).mono fun ok H2 q=>yU q fun z0 q1 q2=>?_;clear q;subst z0
 refine⟨fun e=>⟨rfl,fun b hb=>h1 b (.tail _ hb),?_⟩,fun e=>(q2 e).mono fun v H3 q3=>?_⟩
 ·rw[yr,q1 e]at h2;exact h2
 ·obtain⟨rfl,q3⟩:=q3
  refine⟨rfl,fun b hb=>h1 b (.tail _ hb),?_⟩
  rw[yr,q3]at h2
  refine zc (zA ..) ?_;exact h2
theorem Sits.comp_map(Z:Sits n w kinds wr F DP x)(hc:wP kinds scope=true)(ht:qj t scope.names=true)(hs:∀v,yR iter x.env v=pure v)(h:zL x fr H (zR iter x.env) fun a H1=>∃l g,u3 a=some l∧uZ a∧l.length≤sizeLine∧uA n w (rk kinds scope) F DP t (wf scope.names fr) ifs elt H1 l g∧k (.list (l.filterMap g)) H1):
  zL x fr H (zR (.ListComp elt [⟨.Name t tp,iter,ifs,0⟩] scope pos) x.env) k:=
 Z.comp hc ht hs (h.mono fun a H1 q=>by
  refine x7 q fun l g h1 h2 h3 z5=>?_;clear q;refine zK z5 fun h4 h5=>?_;clear z5
  exact⟨l,_,h1,h2,h3,⟨rfl,fun U h=>h,rfl⟩,h4.turn,fun out H2 e=>by
   obtain⟨rfl,-,e⟩:=e
   rw[ZM,yB]at e
   rw[e];exact h5⟩)
theorem Sits.assign_map(Z:Sits n w kinds wr F DP x)(hc:wP kinds scope=true)(ht:qj t scope.names=true)(hs:∀v,yR iter x.env v=pure v)(hsw:uH (.ListComp elt [⟨.Name t tp,iter,ifs,0⟩] scope pos) (some (.Name y py)) spos.line x.env=pure true)(hl:lk y kinds=some .local)(h:zL x fr H (zR iter x.env) fun a H1=>∃l g,u3 a=some l∧uZ a∧l.length≤sizeLine∧uA n w (rk kinds scope) F DP t (wf scope.names fr) ifs elt H1 l g∧k .next (xp y (.list (l.filterMap g)) fr) H1):
  zQ x fr H (tx (.Assign [.Name y py] (.ListComp elt [⟨.Name t tp,iter,ifs,0⟩] scope pos) spos) x.env) k:=
 Z.assign_comp hc ht hs hsw hl (h.mono fun a H1 q=>by
  refine x7 q fun l g h1 h2 h3 z5=>?_;clear q;refine zK z5 fun h4 h5=>?_;clear z5
  exact⟨l,_,h1,h2,h3,⟨rfl,fun U h=>h,rfl⟩,h4.turn,fun out H2 e=>by
   obtain⟨rfl,-,e⟩:=e
   rw[ZM,yB]at e
   rw[e];exact h5⟩)
theorem uA.all{F:zi→Option yG}{DP:zI→Str→Option yG}{f:AV→AV}(h:∀a∈l,∀y,Sits n w kinds [] F DP y→zL y (xp t a F0) H (zR elt y.env) fun v H3=>H3=H∧v=f a):uA n w kinds F DP t F0 [] elt H l fun a=>some (f a):=fun a ha y Z =>
 ui ⟨rfl,fun e=>(by exact tF e),fun U=>(h a ha y Z).mono fun v H3 q=>⟨q.1,by exact zc q.2 rfl⟩⟩
theorem uA.one{F:zi→Option yG}{DP:zI→Str→Option yG}{p:AV→Bool}{f:AV→AV}(h:∀a∈l,∀y,Sits n w kinds [] F DP y→xe y (xp t a F0) H (isTrue c y.env (zR c y.env)) fun ok H2=>H2=H∧ok=p a∧(ok=true→zL y (xp t a F0) H (zR elt y.env) fun v H3=>H3=H∧v=f a)):
  uA n w kinds F DP t F0 [c] elt H l fun a=>bif p a then some (f a)else none:=fun a ha y Z =>
 Xd ((h a ha y Z).mono fun ok H2 q=>⟨q.1,fun e=>(by show(bif p a then some (f a)else none)=none;refine xv q.2.1 (zc e ?_);rfl),fun e=>(q.2.2 e).mono fun v H3 q3=>⟨q3.1,by show(bif p a then some (f a)else none)=_;refine xv q.2.1 (zc e (zc q3.2 ?_));rfl⟩⟩)
end
end
section
theorem hO{t:Str}{a:AV}:∀{fr:y3},lk t fr=none→xp t a fr=fr++[(t,a)]:=by
 intro l0
 induction l0 with
 |nil =>
  intro _
  exact rfl
 |cons p r ih =>
  intro h
  rw[wQ]at h
  refine zc ZQ ?_
  cases q:zZ t p.1 with
  |true=>rw[q]at h;exact Sn h
  |false=>rw[q]at h;show p::xp t a r=_;refine zc ((ih h)) ?_;rfl
theorem ax{t:Str}{a b:AV}{r:y3}:∀{fr:y3},lk t fr=none→xp t a (fr++(t,b)::r)=fr++(t,a)::r:=by
 intro l0
 induction l0 with
 |nil =>
  intro _
  refine(?_:xp t a ((t,b)::r)=_)
  refine zc ZQ ?_
  refine zc (show zZ t t=true from yk.mpr rfl) ?_;rfl
 |cons p s ih =>
  intro h
  rw[wQ]at h
  refine(?_:xp t a (p::(s++(t,b)::r))=_)
  refine zc ZQ ?_
  cases q:zZ t p.1 with
  |true=>rw[q]at h;exact Sn h
  |false=>rw[q]at h;show p::xp t a (s++(t,b)::r)=_;refine zc ((ih h)) ?_;rfl
theorem dA{t:Str}{l r:y3}(h:lk t l=none)(h2:lk t r=none):lk t (l++r)=none:=by
 induction l with
 |nil=>exact h2
 |cons p s ih =>
  rw[wQ]at h
  refine(?_:lk t (p::(s++r))=none)
  refine zc wQ ?_
  cases q:zZ t p.1 with
  |true=>rw[q]at h;exact Sn h
  |false=>rw[q]at h;exact ih h
def Sh(F0:y3)(t t1:Str)(a:AV)(fr:y3):Prop:=fr=F0++[(t,a)]∨∃b,fr=F0++[(t,a),(t1,b)]
section
variable {n:Nat} {w:ya} {kinds:List (Str×NameKind)} {wr:List Str} {F:zi→Option yG} {DP:zI→Str→Option yG} {x x':Cx} {fr:y3} {H:Hp} {acc:zI}
variable {elt iter i1:Expr} {t t1:Str} {tp tp1 pos:ZJ} {ifs ifs1:List Expr} {scope:qv}
theorem Sh.inner{F0:y3}{a:AV}(h0:lk t1 F0=none)(h1:zZ t1 t=false){fr1:y3}(h:Sh F0 t t1 a fr1)(b:AV):xp t1 b fr1=xp t1 b (F0++[(t,a)])∧xp t1 b (F0++[(t,a)])=F0++[(t,a),(t1,b)]:=by
 have hn:lk t1 (F0++[(t,a)])=none:=dA h0 (by refine zc wQ ?_;refine zc h1 ?_;rfl)
 have e2:xp t1 b (F0++[(t,a)])=F0++[(t,a),(t1,b)]:=by refine zc (hO hn) (zc (zA ..) ?_);rfl
 refine⟨?_,e2⟩
 rcases h with rfl|⟨b',rfl⟩
 ·rfl
 ·refine zc e2 (zc (show F0++[(t,a),(t1,b')]=(F0++[(t,a)])++(t1,b')::[]by rw[zA];rfl) (zc (ax hn) (zc (zA ..) ?_)));rfl
theorem Sh.outer{F0:y3}{a a':AV}(h0:lk t F0=none){fr1:y3}(h:Sh F0 t t1 a fr1):Sh F0 t t1 a' (xp t a' fr1):=by
 rcases h with rfl|⟨b',rfl⟩
 ·exact .inl (ax h0)
 ·exact .inr ⟨b',ax h0⟩
theorem E5(Z:Sits n w kinds [] F DP x)(ht:x.env.kindOf t1=some .local∨(x.env.kindOf t1=some .cell∧∀c,x.env.cells.lookup t1=some c→c∈x.oc)){F0:y3}{a:AV}(h0:lk t1 F0=none)(h1:zZ t1 t=false){l2:List AV}{g2:AV→Option AV}(M:uA n w kinds F DP t1 (F0++[(t,a)]) ifs1 elt H l2 g2):
  ∀(l:List AV) (m:Nat) (fr1:y3),Sh F0 t t1 a fr1→(∀b∈l,b∈l2)→m+(l.filterMap g2).length≤sizeLine →
   u4 x acc (.ListComp elt [⟨.Name t tp,iter,ifs,0⟩,⟨.Name t1 tp1,i1,ifs1,0⟩] scope pos) 1 m l fr1 H fun out fr2 H3=>H3=H∧out=l.filterMap g2∧Sh F0 t t1 a fr2:=by
 intro l0
 induction l0 with
 |nil =>
  intro m fr1 hs _ _
  exact u4.nil (my elt i1 (.Name t tp) iter ifs ifs1 scope pos) ⟨rfl,rfl,hs⟩
 |cons b l ih =>
  intro m fr1 hs hm hl
  have hs':Sh F0 t t1 a (xp t1 b (F0++[(t,a)])):=.inr ⟨b,(hs.inner h0 h1 b).2⟩
  have hm':∀c∈l,c∈l2:=fun c q=>hm c (.tail _ q)
  have hle:m+(l.filterMap g2).length≤m+((b::l).filterMap g2).length:=by
   refine zc yr ?_
   split<;>simp
  refine u4.emit (my elt i1 (.Name t tp) iter ifs ifs1 scope pos) Z.fits.fn ht (by omega) fun I U=>?_
  refine zc ((hs.inner h0 h1 b).1) ?_
  refine(M b (hm b (.head _)) (x.wi [I]) (Z.wi [I])).mono fun ok H2 q=>?_
  refine yU q fun e2 q1 q2=>?_;clear q
  have e2:=e2.symm
  subst e2
  refine⟨fun e=>?_,fun e=>(q2 e).mono fun v H3 q3=>?_⟩
  ·refine zc yr (zc (q1 e) ?_)
   exact(ih m _ hs' hm' (by omega))
  ·obtain⟨e3,q3⟩:=q3
   have e3:=e3.symm
   subst e3
   rw[yr,q3]at hl ⊢
   have:=(ih (m+1) _ hs' hm' (by rw[zS]at hl;omega))
   intro s I' vs c1 c2 c3 c4 c5 c6 c7 c8 c9 R f
   exact this s I' vs c1 c2 c3 c4 c5 c6 c7 c8 c9 R fun out ws fr' H' s' p=>f out ws fr' H' s' ⟨p.1,by exact zc p.2.1 rfl,p.2.2⟩
def rg(n:Nat)(w:ya)(kinds:List (Str×NameKind))(F:zi→Option yG)(DP:zI→Str→Option yG)(t t1:Str)(F0:y3)(ifs:List Expr)(i1:Expr)(ifs1:List Expr)(elt:Expr)(H:Hp)(l:List AV)(g:AV→List AV):Prop:=
 ∀a∈l,∀y,Sits n w kinds [] F DP y→∀fr1,Sh F0 t t1 a fr1→xe y fr1 H (WE ifs y.env) fun ok H2=>H2=H∧(ok=false→g a=[])∧(ok=true→zL y fr1 H (zR i1 y.env) fun v H3=>H3=H∧∃l2 g2,u3 v=some l2∧uZ v ∧
  uA n w kinds F DP t1 (F0++[(t,a)]) ifs1 elt H l2 g2∧g a=l2.filterMap g2)
theorem E4(Z:Sits n w kinds wr F DP x)(hc:wP kinds scope=true)(ht:qj t scope.names=true)(ht1:qj t1 scope.names=true)(S:Sub x scope x' acc)(hs1:∀(env:Qx) v,yR i1 env v=pure v){F0:y3}(h0:lk t F0=none)(h1:lk t1 F0=none)(hne:zZ t1 t=false){l0:List AV}{g:AV→List AV}(M:rg n w (rk kinds scope) F DP t t1 F0 ifs i1 ifs1 elt H l0 g):
  ∀(l:List AV) (m:Nat) (fr1:y3),(fr1=F0∨∃a,Sh F0 t t1 a fr1)→(∀b∈l,b∈l0)→m+(l.flatMap g).length≤sizeLine →
   u4 x' acc (.ListComp elt [⟨.Name t tp,iter,ifs,0⟩,⟨.Name t1 tp1,i1,ifs1,0⟩] scope pos) 0 m l fr1 H fun out fr2 H3=>H3=H∧out=l.flatMap g:=by
 intro l0
 induction l0 with
 |nil =>
  intro m fr1 _ _ _
  exact u4.nil (mx elt iter (.Name t1 tp1) i1 ifs1 ifs scope pos) ⟨rfl,rfl⟩
 |cons a l ih =>
  intro m fr1 hs hm hl
  have Z':=Z.sub hc S
  have hs':Sh F0 t t1 a (xp t a fr1):=by
   rcases hs with rfl|⟨a',hs⟩
   ·exact .inl (hO h0)
   ·exact hs.outer h0
  have hm':∀c∈l,c∈l0:=fun c q=>hm c (.tail _ q)
  rw[y0,zG]at hl
  refine u4.nest (hs1 _) Z'.fits.fn (aB Z hc S ht) fun I U=>(M a (hm a (.head _)) (x'.wi [I]) (Z'.wi [I]) _ hs').mono fun ok H2 q=>yU q fun e2 q1 q2=>?_;clear q
  have e2:=e2.symm
  subst e2
  refine⟨fun e=>?_,fun e=>(q2 e).mono fun v H3 q3=>?_⟩
  ·refine zc y0 (zc (q1 e) (zc (wh ..) ?_))
   exact(ih m _ (.inr ⟨a,hs'⟩) hm' (by omega))
  ·refine zK q3 fun e3 z1=>?_;clear q3;refine x7 z1 fun l2 g2 i2 ok2 M2 eg=>?_;clear z1
   have e3:=e3.symm
   subst e3
   have tk1:=aB Z hc S ht1
   refine⟨l2,i2,ok2,?_⟩
   have inner:=E5 (tp:=tp) (tp1:=tp1) (pos:=pos) (iter:=iter) (i1:=i1) (ifs:=ifs) (scope:=scope) (acc:=acc) (Z'.wi [I]) tk1 h1 hne M2 l2 m (xp t a fr1) hs' (fun U h=>h) (by refine xv eg ?_;omega)
   intro s I' vs c1 c2 c3 c4 c5 c6 c7 c8 c9 R f
   refine inner s I' vs c1 c2 c3 c4 c5 c6 c7 c8 c9 R fun out ws fr' H' s' p=>f out ws fr' H' s' ?_
   refine yU p fun e4 p2 p3=>?_;clear p
   have e4:=e4.symm
   subst e4
   have hlen:out.length=(g a).length:=by exact zc p2 (zc eg rfl)
   have:=(ih (m+out.length) fr' (.inr ⟨a,p3⟩) hm' (by omega))
   intro s2 I2 vs2 d1 d2 d3 d4 d5 d6 d7 d8 d9 R2 f2
   exact this s2 I2 vs2 d1 d2 d3 d4 d5 d6 d7 d8 d9 R2 fun out2 ws2 fr2 H4 s4 r=>f2 out2 ws2 fr2 H4 s4 ⟨r.1,by exact zc r.2 (zc y0 (zc p2 (zc eg rfl)))⟩
theorem Sits.comp2(Z:Sits n w kinds wr F DP x)(hc:wP kinds scope=true)(ht:(qj t scope.names&&qj t1 scope.names&&!Fast.sEq t1 t)=true)(h0:((lk t (wf scope.names fr)).isNone&&(lk t1 (wf scope.names fr)).isNone)=true)(hs:∀v,yR iter x.env v=pure v)(hs1:∀(env:Qx) v,yR i1 env v=pure v){k:AV→Hp→Prop}(h:zL x fr H (zR iter x.env) fun a H1=>∃l g,u3 a=some l∧uZ a∧(l.flatMap g).length≤sizeLine∧rg n w (rk kinds scope) F DP t t1 (wf scope.names fr) ifs i1 ifs1 elt H1 l g∧k (.list (l.flatMap g)) H1):
  zL x fr H (zR (.ListComp elt [⟨.Name t tp,iter,ifs,0⟩,⟨.Name t1 tp1,i1,ifs1,0⟩] scope pos) x.env) k:=by
 rw[zk,zk]at ht
 rw[zk,xg,xg]at h0
 refine zL.comp (UH Z hc) hs Z.base.room.hh (h.mono fun a H1 q=>?_)
 refine x7 q fun l g e1 e2 e3 z5=>?_;clear q;refine zK z5 fun M e5=>?_;clear z5
 refine⟨l,e1,e2,fun x' acc S=>?_⟩
 have:=E4 (tp:=tp) (tp1:=tp1) (pos:=pos) (iter:=iter) (scope:=scope) Z hc ht.1.1 ht.1.2 S hs1 h0.1 h0.2 (by simpa using ht.2) M l 0 _ (.inl rfl) (fun U h=>h) (by omega)
 intro s I' vs c1 c2 c3 c4 c5 c6 c7 c8 c9 R f
 exact this s I' vs c1 c2 c3 c4 c5 c6 c7 c8 c9 R fun out ws fr' H' s' p=>f out ws fr' H' s' (by(refine zK p fun z0 p2=>?_;clear p;subst z0);refine zc p2 ?_;exact e5)
end
end
section
set_option backward.match.sparseCases false in
def Er(D:Stat)(x:Cx)(V:Evs)(ex:Expr)(fr:y3)(H:Hp)(k:AV→Hp→Prop):Prop:=
 match ex with
 |.ListComp a b c d=>zL x fr H (zR (.ListComp a b c d) x.env) k
 |ex=>ie D V ex fr H k
set_option backward.match.sparseCases false in
noncomputable def UC:yX→Bool
 |.Assign ts e _=>(match ts with
  |[.Name _ _]=>!U8 e
  |[.Tuple _ _ _]=>true
  |[.Subscript _ _ _]=>true
  |_=>false)
 |.For _ _ _ _ _=>true
 |_=>false
def mP(D:Stat)(x:Cx)(V:Evs)(ss:List yX)(fr:y3)(H:Hp)(k:AFlow→y3→Hp→Prop):Prop:=
 match ss with
 |[]=>k .next fr H
 |st::r=>tH (UC st) (zQ x fr H (tx st x.env) fun a fr1 H1=>match a with
  |.next=>V.s r fr1 H1 k
  |a=>k a fr1 H1) (mQ D V (st::r) fr H k)
noncomputable def vF(D:Stat)(x:Cx):Nat→Evs
 |0=>hX
 |n+1=>⟨Er D x (vF D x n),ii (vF D x n),ic (vF D x n),h9 (vF D x n),stepT (vF D x n),ib (vF D x n),mP D x (vF D x n)⟩
theorem yh(Z:Fits D x):∀n,Sound D x (vF D x n):=by
 intro l0
 induction l0 with
 |zero =>
  exact YS D x
 |succ n ih =>
  have N:=ih
  refine⟨fun ex fr H k h=>?_,aR N,fun es fr H k pos hp h=>aO N es fr H k pos hp h,fun es fr H k pos hp h=>aK N es fr H k pos hp h,aL N,aN N,fun ss fr H k h=>?_⟩
  ·cases ex with
   |ListComp a b c d=>exact h
   |_=>exact aQ Z N _ fr H k h
  ·cases ss with
   |nil=>exact zQ.nil h
   |cons st r =>
    change tH (UC st) _ _ at h
    cases e:UC st with
    |true =>
     refine zQ.cons (((wZ h).1 e).mono fun a fr1 H1 h1=>?_)
     cases a with
     |next=>exact N.s _ _ _ _ h1
     |_=>exact h1
    |false=>exact aM Z N _ fr H k ((wZ h).2 e)
theorem QQ{n:Nat}{x:Cx}(B:Base n x)(hn:n<990){f:zI}{fd:ZK}{body:List yX}(I:FnIs x.w.params f fd body){wr:List Str}{F:zi→Option yG}{DP:zI→Str→Option yG}(hwr:wr.all (fun m=>lk m fd.scope.names==some .cell)=true)(hF:∀x',Base (n+1) x'→x'.w=x.w→uz x' F)(hP:∀x',Base (n+1) x'→x'.w=x.w→Yp x' DP){S:yG}(hS:∀avs kvs H k,S avs kvs H k→∃bavs,V3 x fd avs kvs bavs∧bavs.all (fun p=>lk p.1 fd.scope.names==some .local||lk p.1 fd.scope.names==some .cell)=true ∧
   ∀x',Sits (n+1) x.w fd.scope.names wr F DP x'→zQ x' (vI [] bavs) H (xN body x'.env) fun a U H'=>k (Wc a) H'):tW x (.ref f) S:=
 Td B hn I hwr hF hP fun avs kvs H k h=>by
  exact wO (hS avs kvs H k h) fun bavs h1 h2 h3=>⟨bavs,h1,h2,fun x' B' Ft hw=>h3 x' ⟨B',hw,Ft,hF,hP⟩⟩
end
section
noncomputable def w6(e:Expr):Expr:=wx (xE e) 0
noncomputable def x5(e:Expr)(n:Nat):Expr:=(Bu e n).iter
noncomputable def AI(e:Expr)(n:Nat):ZJ:=(Bu e n).target.pos
noncomputable def Qa(e:Expr)(n:Nat):Expr:=wx (Bu e n).ifs 0
noncomputable def zM(e:Expr):qv:=(xM e).2.2.2.1
noncomputable def oI(e:Expr):ZJ:=e.pos
noncomputable def f6(C:Expr)(t:Str):Expr:=.ListComp (w6 C) [⟨.Name t (AI C 0),x5 C 0,[],0⟩] (zM C) (oI C)
noncomputable def NS(C:Expr)(t:Str):Expr:=.ListComp (w6 C) [⟨.Name t (AI C 0),x5 C 0,[Qa C 0],0⟩] (zM C) (oI C)
noncomputable def Co:List yX:=wt (zm pw.main.body 38)
noncomputable def Cj(P:zp):Stat:=Ze P (wU (QT P)).scope.names [] FB fun U U=>none
noncomputable abbrev bY:Expr:=wx (xC (TZ (zm Co 0))) 0
theorem BG:bY=f6 bY (za "k"):=⋯
noncomputable def DF(P:zp):Stat:=Ze P (rk (wU (QT P)).scope.names (zM bY)) [] FB fun U U=>none
section
variable (P:zp) (x:Cx) (H:Hp) (i j:Int)
theorem Ik(k:AFlow→y3→Hp→Prop):(vF (Cj P) x 30).s Co [(za "x",.int i)] H k=zL x [(za "x",.int i)] H (zR bY x.env) fun a H1=>YY [.str (za "."),a] [] H1 fun r H2=>k (.ret r) [(za "x",.int i)] H2:=⋯
theorem sa(k:AV→Hp→Prop):(vF (Cj P) x 20).e (x5 bY 0) [(za "x",.int i)] H k=k (.rng (1+i.fmod 3)) H:=⋯
noncomputable def nF:List AV:=[.str (za "a"),.str (za "b"),.str (za "ab"),.str (za "")]
theorem sd(k:AV→Hp→Prop):(vF (DF P) x 30).e (w6 bY) (xp (za "k") (.int j) (wf (zM bY).names [(za "x",.int i)])) H k =
  ((0≤j∧(cx 4:Int)*j≤2^27)∧yD (decide ((4:Int)^j.toNat≠0)&&decide (((4:Int)^j.toNat).natAbs<1073741824)) (VA (.list nF) (.int (((i.fdiv 3).fdiv ((4:Int)^j.toNat)).fmod 4)) fun c=>k c H)):=⋯
end
noncomputable def VU:Nat→Str
 |0=>za "a"
 |1=>za "b"
 |2=>za "ab"
 |_=>za ""
noncomputable def VV(i:Int):List Str:=(zT (1+i.fmod 3).toNat).map fun j=>VU (((i.fdiv 3).fdiv ((4:Int)^j)).fmod 4).toNat
noncomputable def XT(i:Int):Str:=wc (za ".") (VV i)
theorem Bd{sep:Str}{a:Nat}:∀{ss:List Str} {n:Nat},(∀s∈ss,s.length≤a)→ss.foldl (fun m s=>m+s.length+sep.length) n≤n+ss.length*(a+sep.length):=by
 intro l0
 induction l0 with
 |nil =>
  intro n _
  simp
 |cons s r ih =>
  intro n h
  refine zc List.foldl_cons ?_
  have h1:=h s (.head _)
  have:=(ih (n:=n+s.length+sep.length) fun q hq=>h q (.tail _ hq))
  refine zc zS (zc (lz ..) ?_)
  exact vB 0x79a600058a98070605 [List.foldl (fun m s=>m+s.length+sep.length) (n+s.length+sep.length) r,n,(r.length*(a+sep.length)),a,sep.length,s.length] h1 this rfl
theorem tP{sep:Str}{ss:List Str}{a:Nat}(h:∀s∈ss,s.length≤a)(hn:ss.length*(a+sep.length)≤16777216):JoinOk sep ss=true:=by
 unfold JoinOk
 refine zc (show ss.toArray.foldl (·+·.length+sep.length) 0=ss.foldl (fun m s=>m+s.length+sep.length) 0 by simp) ?_
 have:=Bd (sep:=sep) (n:=0) h
 unfold Builtin.Str.tooLong
 refine zc zy (zc (decide_eq_false (Xc (vB 0x60130510000007361000000735 [List.foldl (fun m s=>m+s.length+sep.length) 0 ss,(ss.length*(a+sep.length))] hn this rfl))) ?_)
 rfl
theorem US:∀{l:List Str},X9 (l.map .str)=some l
 |[]=>rfl
 |s::r=>by
  refine(?_:(X9 (r.map .str)).map (s::·)=_)
  refine zc US ?_;rfl
theorem Zg(h:JoinOk x ss=true∧k (.str (wc x ss)) H):YY [.str x,.list (ss.map .str)] [] H k:=AZ US h.1 h.2
theorem jW(n:Nat):(VU n).length≤2:=match n with
 |0=>(show 1≤2 by decide)
 |1=>(show 1≤2 by decide)
 |2=>(show 2≤2 by decide)
 |_+3=>(show 0≤2 by decide)
theorem Vr(i:Int):(VV i).length≤3∧∀s∈VV i,s.length≤2:=by
 have hm:0≤i.fmod 3∧i.fmod 3<3:=⟨wT _ (by decide),tK _ (by decide)⟩
 refine⟨by refine zc (zj ..) (zc yM ?_);omega,fun s hs=>?_⟩
 refine zt (zB.mp hs) fun j z1 z2=>?_;clear z1;subst z2
 exact jW _
end
section
theorem J9(P:zp):FnIs P 835 (wU (QT P)) Co:=⟨⟨QT P,⋯,rfl⟩,⋯,rfl,⋯,⋯,⋯,rfl,rfl,rfl,⋯⟩
theorem F9:wP (wU (QT P)).scope.names (zM bY)=true:=⋯
theorem F6:qj (za "k") (zM bY).names=true:=⋯
def iF:yG:=fun avs kvs H k=>EP Hm avs fun i=>kvs=[]∧k (.str (XT i)) H
theorem kD(h0:0≤m)(h1:m<4)(h:k (.str (VU m.toNat))):VA (.list nF) (.int m) k:=by
 refine y7 (by(refine zw (zk ..) ?_;rw[decide_eq_true_iff,decide_eq_true_iff]);exact⟨h0,by omega⟩) ?_
 have:m=0∨m=1∨m=2∨m=3:=by omega
 rcases this with rfl|rfl|rfl|rfl<;>exact h
set_option tactic.hygienic true in
theorem Au(B:Base n x)(hn:n<980):y9 x (.ref 835) iF:=by
 refine(QQ (S:=iF) B (zN 0x3d433523de3352 [n] hn rfl) (J9 _) (wr:=[]) (F:=FB) (DP:=fun U U=>none) rfl (fun U B' U=>uO) (fun U U U=>xX) fun avs kvs H k h=>?_).call
 refine zt (U7 TE h) fun i z0 z1=>?_
 ·clear h
  subst z0
  obtain⟨rfl,h⟩:=z1
  refine⟨_,tU (n1:=za "x") (fun v1=>⋯),⋯,fun x' Z=>?_⟩
  refine(yh Z.fits 30).s _ _ _ _ ((?_:(vF (Cj x.w.params) x' 30).s Co [(za "x",.int i)] H _))
  rw[Ik,BG]
  have hm:0≤i.fmod 3∧i.fmod 3<3:=⟨wT _ (by decide),tK _ (by decide)⟩
  refine Z.comp_map F9 F6 (fun U=>rfl) ((yh Z.fits 20).e _ _ _ _ ?_)
  refine(?_:(vF (Cj x.w.params) x' 20).e _ _ _ _)
  rw[sa]
  refine⟨(zT (1+i.fmod 3).toNat).map fun j:Nat=>.int (j:Int),fun a=>some (match a with
   |.int j=>.str (VU (((i.fdiv 3).fdiv ((4:Int)^j.toNat)).fmod 4).toNat)
   |a=>a),rfl,⟨by omega,by omega⟩,by rw[zj,yM,zy];omega,uA.all (f:=fun a=>match a with
   |.int j=>.str (VU (((i.fdiv 3).fdiv ((4:Int)^j.toNat)).fmod 4).toNat)
   |a=>a) fun a ha y Zy=>?_,?_⟩
  ·obtain⟨j,hj,rfl⟩:=zB.mp ha
   have hj:=wD.mp hj
   refine(yh Zy.fits 30).e _ _ _ _ ((?_:(vF (DF x.w.params) y 30).e _ _ _ _))
   rw[sd]
   have hj3:j<3:=by omega
   have hr:0≤((i.fdiv 3).fdiv ((4:Int)^((j:Int)).toNat)).fmod 4∧((i.fdiv 3).fdiv ((4:Int)^((j:Int)).toNat)).fmod 4<4:=⟨wT _ (by decide),tK _ (by decide)⟩
   refine⟨?_,y7 ?_ (kD hr.1 hr.2 ⟨rfl,rfl⟩)⟩
   ·have:j=0∨j=1∨j=2:=by omega
    rcases this with rfl|rfl|rfl<;>exact⟨by decide,by decide +kernel⟩
   ·have:j=0∨j=1∨j=2:=by omega
    rcases this with rfl|rfl|rfl<;>decide
  ·have e:((zT (1+i.fmod 3).toNat).map fun j:Nat=>AV.int (j:Int)).filterMap (fun a=>some (match a with
    |.int j=>.str (VU (((i.fdiv 3).fdiv ((4:Int)^j.toNat)).fmod 4).toNat)
    |a=>a))=(VV i).map AV.str:=by
    unfold VV
    rw[tG,yp]
    exact congrFun (XZ (f:=fun j:Nat=>AV.str (VU (((i.fdiv 3).fdiv ((4:Int)^j)).fmod 4).toNat))) _
   rw[e]
   refine Zg ?_
   exact⟨tP (Vr i).2 (by have:=(Vr i).1;show _*(2+1)≤_;exact zN 0x313313153134100000073113213051 [(VV i).length] (zF 3 this) rfl),h⟩
end
section
theorem Zh(h:∀s∈ss,s.length≤a):(wc sep ss).length≤ss.length*(a+sep.length):=by
 unfold wc
 refine zc (e9 ..) (yv (StrLaws.join_length_le sep ss) ?_)
 have:(ss.map (·.length)).sum≤ss.length*a:=by
  induction ss with
  |nil=>simp
  |cons s r ih =>
   refine zc zU (zc List.sum_cons (zc zS (zc (lz ..) ?_)))
   have h1:=h s (.head _)
   have h2:=ih fun q hq=>h q (.tail _ hq)
   exact vB 509046359632 [s.length,(tg (fun x=>x.length) r).sum,(r.length*a),a] h1 h2 rfl
 exact zc (Nat.mul_add ..) (zN 1969686096 [(tg (fun x=>x.length) ss).sum,(ss.length*sep.length),(ss.length*a)] this rfl)
theorem Vt(i:Int):(XT i).length≤9:=by
 have h:=Vr i
 have:=Zh (sep:=za ".") h.2
 unfold XT
 have e:(za ".").length=1:=rfl
 rw[e]at this
 have:=Zl (2+1) h.1
 omega
noncomputable def vw(i:Int):List Str:=XT (i.fdiv 8)::(if((i.fdiv 4).fmod 2==1)=true then[XT ((i.fdiv 8).fdiv 192)]else[])
theorem tO(i:Int):(vw i).length≤2∧∀s∈vw i,s.length≤9:=by
 unfold vw
 split
 ·exact⟨zX _,fun s hs=>by
   rcases zn.mp hs with rfl|hs
   ·exact Vt _
   ·refine zc (zd.mp hs) ?_;exact Vt _⟩
 ·exact⟨show 1≤2 by decide,fun s hs=>by refine zc (zd.mp hs) ?_;exact Vt _⟩
noncomputable def GU:List yX:=wt (zm pw.main.body 39)
theorem J8(P:zp):FnIs P 842 (wU (iQ P)) GU:=⟨⟨iQ P,⋯,rfl⟩,⋯,rfl,⋯,⋯,⋯,rfl,rfl,rfl,⋯⟩
def Ye:yG:=fun avs kvs H k=>EP Hm avs fun i=>kvs=[]∧k (.list ((vw i).map .str)) H
theorem Ij(P:zp)(H:Hp)(i:Int)(k:AFlow→y3→Hp→Prop):(ev (Ze P (wU (iQ P)).scope.names [] (Qo 835 iF FB) fun U U=>none) 30).s GU [(za "x",.int i)] H k =
  (([]:List (Str×AV))=[]∧tH ((i.fdiv 4).fmod 2==1) (([]:List (Str×AV))=[]∧Nat.le 2 sizeLine∧k (.ret (.list [.str (XT (i.fdiv 8)),.str (XT ((i.fdiv 8).fdiv 192))])) [(za "x",.int i)] H)
   (Nat.le 1 sizeLine∧k (.ret (.list [.str (XT (i.fdiv 8))])) [(za "x",.int i)] H)):=⋯
set_option tactic.hygienic true in
theorem du(B:Base n x)(hn:n<970):y9 x (.ref 842) Ye:=by
 refine(bq (S:=Ye) B (zN 0x3ca33523de3352 [n] hn rfl) (J8 _) (wr:=[]) (F:=Qo 835 iF FB) (DP:=fun U U=>none) (fuel:=30) rfl (fun U B' U=>ue (Au B' (zN 0x3ca33523d433113502 [n] hn rfl)) uO) (fun U U U=>xX) fun avs kvs H k h=>?_).call
 refine zt (U7 TE h) fun i z0 z1=>?_
 ·clear h
  subst z0
  obtain⟨rfl,h⟩:=z1
  refine⟨_,tU (n1:=za "x") (fun v1=>⋯),⋯,?_⟩
  refine(?_:(ev _ 30).s GU [(za "x",.int i)] H _)
  rw[Ij]
  refine⟨rfl,?_⟩
  unfold vw at h
  cases e:((i.fdiv 4).fmod 2==1)with
  |true=>rw[e,if_pos rfl]at h;exact⟨rfl,by rw[zy];exact(show 2≤16777216 by decide),h⟩
  |false=>rw[e,if_neg (by decide)]at h;exact⟨by refine zc zy ?_;exact(show 1≤16777216 by decide),h⟩
noncomputable def Yg(i:Int):Str:=wc (za ", ") (vw i)
theorem U9(i:Int):(Yg i).length≤22:=by
 have h:=tO i
 have:=Zh (sep:=za ", ") h.2
 unfold Yg
 have e:(za ", ").length=2:=rfl
 rw[e]at this
 have:=Zl (9+2) h.1
 omega
noncomputable def lX(y:Str):Nat→List Str
 |0=>[za "--ignore-module",y]
 |1=>[za "--ignore-module=" ++ y]
 |2=>[za "--ignore-modules=" ++ y]
 |_=>[za "it's -c"]
noncomputable def uY(i:Int):List Str:=lX (Yg i) (i.fmod 4).toNat
noncomputable def k0:List yX:=wt (zm pw.main.body 40)
theorem J7(P:zp):FnIs P 849 (wU (iP P)) k0:=⟨⟨iP P,⋯,rfl⟩,⋯,rfl,⋯,⋯,⋯,rfl,rfl,rfl,⋯⟩
def Vl:yG:=fun avs kvs H k=>EP Hm avs fun i=>kvs=[]∧k (.list ((uY i).map .str)) H
noncomputable abbrev rj(P:zp):Stat:=Ze P (wU (iP P)).scope.names [] (Qo 842 Ye FB) fun U U=>none
theorem Ii(P:zp)(H:Hp)(i:Int)(k:AFlow→y3→Hp→Prop):(ev (rj P) 30).s k0 [(za "x",.int i)] H k =
  Ye [.int i] [] H fun a H1=>YY [.str (za ", "),a] [] H1 fun r H2=>(ev (rj P) 29).s (k0.drop 1) [(za "x",.int i),(za "names",r)] H2 k:=⋯
theorem Ef(P:zp)(H:Hp)(i:Int)(y:Str)(k:AFlow→y3→Hp→Prop):(ev (rj P) 29).s (k0.drop 1) [(za "x",.int i),(za "names",.str y)] H k =
  (16+y.length≤sizeLine∧17+y.length≤sizeLine∧VA (.list [.list [.str (za "--ignore-module"),.str y],.list [.str (za "--ignore-module=" ++ y)],.list [.str (za "--ignore-modules=" ++ y)],.list [.str (za "it's -c")]]) (.int (i.fmod 4))
   fun c=>k (.ret c) [(za "x",.int i),(za "names",.str y)] H):=⋯
set_option tactic.hygienic true in
theorem lU(B:Base n x)(hn:n<960):y9 x (.ref 849) Vl:=by
 refine(bq (S:=Vl) B (zN 0x3c033523de3352 [n] hn rfl) (J7 _) (wr:=[]) (F:=Qo 842 Ye FB) (DP:=fun U U=>none) (fuel:=30) rfl (fun U B' U=>ue (du B' (zN 0x3c033523ca33113502 [n] hn rfl)) uO) (fun U U U=>xX) fun avs kvs H k h=>?_).call
 refine zt (U7 TE h) fun i z0 z1=>?_
 ·clear h
  subst z0
  obtain⟨rfl,h⟩:=z1
  refine⟨_,tU (n1:=za "x") (fun v1=>⋯),⋯,?_⟩
  refine(?_:(ev (rj x.w.params) 30).s k0 [(za "x",.int i)] H _)
  rw[Ii]
  refine⟨rfl,?_⟩
  refine Zg ?_
  refine⟨tP (tO i).2 (by have:=(tO i).1;show _*(9+2)≤_;exact zN 0x213b1315b134100000073213913051 [(vw i).length] (zF 11 this) rfl),?_⟩
  have hl:=U9 i
  refine(?_:(ev (rj x.w.params) 29).s (k0.drop 1) [(za "x",.int i),(za "names",.str (Yg i))] H _)
  rw[Ef,zy]
  refine⟨zN 0x16235100000073510230 [(Yg i).length] hl rfl,zN 0x16235100000073511230 [(Yg i).length] hl rfl,?_⟩
  have hm:0≤i.fmod 4∧i.fmod 4<4:=⟨wT _ (by decide),tK _ (by decide)⟩
  unfold uY at h
  generalize i.fmod 4=m at h hm ⊢
  refine y7 (by rw[zk,decide_eq_true_iff,decide_eq_true_iff];exact⟨hm.1,by omega⟩) ?_
  have:m=0∨m=1∨m=2∨m=3:=by omega
  rcases this with rfl|rfl|rfl|rfl<;>exact h
end
section
noncomputable def Cn:List yX:=wt (zm pw.main.body 41)
theorem J6(P:zp):FnIs P 854 (wU (iN P)) Cn:=⟨⟨iN P,⋯,rfl⟩,⋯,rfl,⋯,⋯,⋯,rfl,rfl,rfl,⋯⟩
noncomputable abbrev GR(P:zp):List (Str×NameKind):=(wU (iN P)).scope.names
noncomputable abbrev Ci(P:zp):Stat:=Ze P (GR P) [za "parts"] FB fun U U=>none
noncomputable abbrev Qq:Expr:=wx (xC (TZ (zm Cn 1))) 0
noncomputable def NW(e:Expr):Expr:=wx (xE e) 1
noncomputable abbrev XY:Expr:=wx (xC (NW (w6 Qq))) 0
theorem BF:Qq=f6 Qq (za "k"):=⋯
theorem pT:XY=f6 XY (za "sign"):=⋯
noncomputable abbrev kX(P:zp):List (Str×NameKind):=rk (GR P) (zM Qq)
noncomputable abbrev Dw(P:zp):List (Str×NameKind):=rk (kX P) (zM XY)
theorem F5:wP (GR P) (zM Qq)=true:=⋯
theorem FZ:qj (za "k") (zM Qq).names=true:=⋯
theorem BE:wP (kX P) (zM XY)=true:=⋯
theorem BD:qj (za "sign") (zM XY).names=true:=⋯
noncomputable abbrev pp(b:Str)(l:List AV):y3:=[(za "name",.str b),(za "parts",.list l)]
def ni(k:AV→Prop)(q:AV):Prop:=Ua .Add (.str (za "\"")) q fun c=>Ua .Add c (.str (za "\"")) k
theorem jS(k:AV→Prop)(p:Str):ni k (.str p)=(1+p.length≤sizeLine∧(za "\"" ++ p).length+1≤sizeLine∧k (.str (za "\"" ++ p++za "\""))):=⋯
section
variable (P:zp) (x:Cx) (H:Hp) (b p:Str) (l:List AV) (j:Int)
theorem Ih(k:AFlow→y3→Hp→Prop):(vF (Ci P) x 30).s Cn [(za "name",.str b)] H k =
  ZD [.str b,.str (za ".")] [] H fun r H1=>zL x [(za "name",.str b),(za "parts",r)] H1 (zR Qq x.env) fun a H2=>YY [.str (za "."),a] [] H2 fun c H3=>k (.ret c) [(za "name",.str b),(za "parts",r)] H3:=⋯
theorem r8(k:AV→Hp→Prop):(vF (Ci P) x 20).e (x5 Qq 0) (pp b l) H k=yD (decide (l.length≤sizeLine)) (k (.rng l.length) H):=⋯
noncomputable abbrev Tm:y3:=xp (za "k") (.int j) (wf (zM Qq).names (pp b l))
theorem r9(k:AV→Hp→Prop):(vF (Ze P (kX P) [] FB fun U U=>none) x 30).e (w6 Qq) (Tm b l j) H k =
  tH (j.fmod 2==0) (VA (.list l) (.int j) (ni fun d=>k d H))
   (zL x (Tm b l j) H (zR XY x.env) fun a H1=>YY [.str (za ""),a] [] H1 k):=⋯
theorem l7(k:AV→Hp→Prop):(vF (Ze P (kX P) [] FB fun U U=>none) x 20).e (x5 XY 0) (Tm b l j) H k=VA (.list l) (.int j) fun q=>k q H:=⋯
theorem l8(k:AV→Hp→Prop):(vF (Ze P (Dw P) [] FB fun U U=>none) x 20).e (w6 XY) (xp (za "sign") (.str p) (wf (zM XY).names (Tm b l j))) H k=(1+p.length≤sizeLine∧k (.str (za "\\" ++ p)) H):=⋯
end
noncomputable def KO(p:Str):Str:=wc (za "") (p.cps.toList.map fun c=>za "\\" ++ ⟨#[c]⟩)
noncomputable def uB(j:Nat)(p:Str):Str:=if((j:Int).fmod 2==0)=true then za "\"" ++ p++za "\"" else KO p
noncomputable def Z5(ps:List Str):List Str:=(zT ps.length).map fun j=>uB j (ps.getD j ym)
noncomputable def vN(b:Str):Str:=wc (za ".") (Z5 (yy b (za ".")))
def aI:yG:=fun avs kvs H k=>EP La avs fun b=>(kvs=[]∧b.length≤1000)∧k (.str (vN b)) H
theorem WU{α:Type}{l:List α}{j:Nat}{d:α}(h:j<l.length):l[j]?=some (l.getD j d):=by
 refine zc yP (zc (zC h) ?_);rfl
theorem BK(p:Str):(KO p).length≤2*p.length:=by
 unfold KO
 have:=Zh (sep:=za "") (ss:=p.cps.toList.map fun c=>za "\\" ++ ⟨#[c]⟩) (a:=2) fun s hs=>by
  refine zt (zB.mp hs) fun c z1 z2=>?_;clear z1;subst z2
  refine zc (ye ..) ?_;exact(show 1+1≤2 by decide)
 rw[zj,←v9]at this
 have e:(za "").length=0:=rfl
 rw[e]at this
 omega
theorem UX(j:Nat)(p:Str):(uB j p).length≤2*p.length+2:=by
 unfold uB
 split
 ·refine zc (ye ..) (zc (ye ..) ?_)
  have e:(za "\"").length=1:=rfl
  refine zc e ?_;exact Tg 0x213521340113511300 [p.length] rfl
 ·have:=BK p;exact zN 0x6213452136213405 [(KO p).length,p.length] this rfl
theorem kE:VA (.list l) (.int i) k=yD (decide (0≤i)&&decide (i<2^63)) (xW l[i.toNat]? k):=rfl
theorem bB{l:List AV}{j:Nat}{a:AV}{k:AV→Prop}(hl:l.length≤sizeLine)(h:l[j]?=some a):VA (.list l) (.int (j:Int)) k=k a:=by
 have hj:=(yi.mp h).1
 have h2:((2:Int)^63)=9223372036854775808:=by decide
 have h1:(j:Int)<2^63:=by refine zc h2 ?_;rw[zy]at hl;omega
 have hc:(decide (0≤(j:Int))&&decide ((j:Int)<2^63))=true:=by(refine zw (zk ..) ?_;rw[decide_eq_true_iff,decide_eq_true_iff]);exact⟨Uo _,h1⟩
 rw[kE,hc,wI,h]
 rfl
theorem ab:tH true X Y=X:=rfl
theorem tV:tH false X Y=Y:=rfl
theorem Nd(h:X):tH true X Y:=h
theorem Nf(h:Y):tH false X Y:=h
theorem add_str(h:a.length+b.length≤sizeLine)(hk:k (.str (a++b))):Ua .Add (.str a) (.str b) k:=⟨h,hk⟩
set_option tactic.hygienic true in
theorem fB{n:Nat}{x:Cx}(B:Base n x)(hn:n<980):y9 x (.ref 854) aI:=by
 refine(QQ (S:=aI) B (zN 0x3d433523de3352 [n] hn rfl) (J6 _) (wr:=[za "parts"]) (F:=FB) (DP:=fun U U=>none) ⋯ (fun U B' U=>uO) (fun U U U=>xX) fun avs kvs H k h=>?_).call
 refine zt (U7 bR h) fun b z0 z1=>?_
 ·clear h
  subst z0
  obtain⟨⟨rfl,hb⟩,h⟩:=z1
  refine⟨_,tU (n1:=za "name") (fun v1=>⋯),⋯,fun x' Z=>?_⟩
  refine(yh Z.fits 30).s _ _ _ _ ((?_:(vF (Ci x.w.params) x' 30).s Cn [(za "name",.str b)] H _))
  rw[Ih]
  have hps:=Um b (za ".")
  have hsh:∀p∈yy b (za "."),p.length≤b.length:=fun p hp=>part_short hp
  unfold vN at h
  have hpb:(Zt b (vn b (za ".") 0 b.length (b.length+1)) (za ".").length).length≤sizeLine:=by
   have h1:=e6 b (za ".") 0 b.length (b.length+1)
   rw[cw]
   have:∀(cuts:List Nat) (a:Nat),(lM b (za ".").length a cuts).length=cuts.length+1:=by
    intro cuts
    induction cuts with
    |nil=>intro a;rfl
    |cons c r ih=>intro a;show(_::_).length=_;rw[zS,ih];rfl
   rw[this,zy]
   exact vB 0x1136053e833610000007311350 [(vn b (za ".") 0 b.length (b.length+1)).length,b.length] hb h1 rfl
  refine⟨⟨by rw[zy];exact zN 0x3e83351000000735 [b.length] hb rfl,hpb⟩,y7 rfl ?_⟩
  generalize yy b (za ".")=ps at h hps hsh ⊢
  rw[BF]
  have hlen:(ps.map AV.str).length≤sizeLine:=by rw[zj,zy];exact vB 0x2136053e83361000000735 [ps.length,b.length] hb hps rfl
  refine Z.comp_map F5 FZ (fun U=>rfl) ((yh Z.fits 20).e _ _ _ _ ?_)
  refine(?_:(vF (Ci x.w.params) x' 20).e _ (pp b (ps.map .str)) H _)
  rw[r8]
  refine y7 (decide_eq_true hlen) ⟨(zT ps.length).map fun j:Nat=>.int (j:Int),fun a=>some (match a with
   |.int j=>.str (uB j.toNat (ps.getD j.toNat ym))
   |a=>a),by rw[zj];rfl,⟨by omega,by rw[zj];omega⟩,by rw[zj,yM,zy];exact vB 0x2136053e83361000000735 [ps.length,b.length] hb hps rfl,uA.all (f:=fun a=>match a with
   |.int j=>.str (uB j.toNat (ps.getD j.toNat ym))
   |a=>a) fun a ha y Zy=>?_,?_⟩
  ·obtain⟨j,hj,rfl⟩:=zB.mp ha
   have hj:=wD.mp hj
   have hg:=WU (d:=ym) hj
   have hpl:(ps.getD j ym).length≤1000:=yv (hsh _ (zH hg)) hb
   have hres:(match AV.int (j:Int)with
    |.int j=>AV.str (uB j.toNat (ps.getD j.toNat ym))
    |a=>a)=.str (uB j (ps.getD j ym)):=rfl
   rw[hres]
   generalize ps.getD j ym=p at hg hpl ⊢
   have hgA:(ps.map AV.str)[j]?=some (.str p):=by rw[yF,hg];rfl
   refine(yh Zy.fits 30).e _ _ _ _ ((?_:(vF (Ze x.w.params (kX x.w.params) [] FB fun U U=>none) y 30).e _ (Tm b (ps.map .str) (j:Int)) H _))
   rw[r9]
   unfold uB
   cases e:((j:Int).fmod 2==0)with
   |true =>
    rw[ab,bB hlen hgA,jS,if_pos rfl]
    refine⟨by rw[zy];exact zN 0x3e833510000007351130 [p.length] hpl rfl,?_,rfl,rfl⟩
    rw[zy,ye]
    have e:(za "\"").length=1:=rfl
    exact vB 0x11353e83361000000731136500 [(za "\"").length,p.length] hpl (ze e) rfl
   |false =>
    rw[tV,if_neg (by decide),pT]
    have hpc:p.length=p.cps.toList.length:=v9 p
    refine Zy.comp_map BE BD (fun U=>rfl) ((yh Zy.fits 20).e _ _ _ _ ?_)
    refine(?_:(vF (Ze x.w.params (kX x.w.params) [] FB fun U U=>none) y 20).e _ (Tm b (ps.map .str) (j:Int)) H _)
    rw[l7,bB hlen hgA]
    refine⟨p.cps.toList.map fun c=>.str ⟨#[c]⟩,fun a=>some (match a with
     |.str q=>.str (za "\\" ++ q)
     |a=>a),rfl,trivial,by rw[zj,←hpc,zy];exact zN 0x3e83351000000735 [p.length] hpl rfl,uA.all (f:=fun a=>match a with
     |.str q=>.str (za "\\" ++ q)
     |a=>a) fun a ha z Zz=>?_,?_⟩
    ·obtain⟨c,hc,rfl⟩:=zB.mp ha
     refine(yh Zz.fits 20).e _ _ _ _ ((?_:(vF (Ze x.w.params (Dw x.w.params) [] FB fun U U=>none) z 20).e _ (xp (za "sign") (.str ⟨#[c]⟩) (wf (zM XY).names (Tm b (ps.map .str) (j:Int)))) H _))
     rw[l8]
     exact⟨by rw[zy];exact(show 1+1≤16777216 by decide),rfl,rfl⟩
    ·have e2:(p.cps.toList.map fun c=>AV.str ⟨#[c]⟩).filterMap (fun a=>some (match a with
      |.str q=>.str (za "\\" ++ q)
      |a=>a))=(p.cps.toList.map fun c=>za "\\" ++ (⟨#[c]⟩:Str)).map AV.str:=by
      rw[tG,yp]
      exact congrFun (XZ (f:=fun c:Nat=>AV.str (za "\\" ++ (⟨#[c]⟩:Str)))) _
     rw[e2]
     refine Zg ⟨tP (a:=2) (fun s hs=>?_) ?_,rfl,rfl⟩
     ·obtain⟨c,-,rfl⟩:=zB.mp hs
      rw[ye];exact(show 1+1≤2 by decide)
     ·rw[zj,←hpc]
      have e:(za "").length=0:=rfl
      rw[e];exact zN 0x3e833213152134100000073013213051 [p.length] (zF 2 hpl) rfl
  ·have e2:((zT ps.length).map fun j:Nat=>AV.int (j:Int)).filterMap (fun a=>some (match a with
    |.int j=>.str (uB j.toNat (ps.getD j.toNat ym))
    |a=>a))=(Z5 ps).map AV.str:=by
    unfold Z5
    rw[tG,yp]
    exact congrFun (XZ (f:=fun j:Nat=>AV.str (uB j (ps.getD j ym)))) _
   rw[e2]
   refine Zg ⟨tP (a:=2002) (fun s hs=>?_) ?_,h⟩
   ·unfold Z5 at hs
    refine zt (zB.mp hs) fun j hj z2=>?_;subst z2
    have hj:=wD.mp hj
    have:=UX j (ps.getD j ym)
    have h3:=hsh _ (zH (WU (d:=ym) hj))
    exact dz 0x621347213421372134053e8332131621347d2335 [(uB j (ps.getD j ym)).length,b.length,(ps.getD j ym).length] (zF 2 hb) this (zF 2 h3) rfl
   ·unfold Z5
    refine zc (zj ..) (zc yM ?_)
    have e:(za ".").length=1:=rfl
    refine zc e ?_;exact vB 0x213607d333457d33343e8337d333167d33341000000731137d233051 [ps.length,b.length] (zF 2003 hb) (zF 2003 hps) rfl
end
section
section
variable {x:Cx} {fr:y3} {H:Hp}
def Wr(x:Cx)(n:Str):Prop:=x.env.kindOf n=some .local∨(x.env.kindOf n=some .cell∧∀c,x.env.cells.lookup n=some c→c∈x.oc)
theorem WD(hk:x.env.scope.kind=.function)(h1:Wr x n1)(h2:Wr x n2)(hh:x.A.handled=none)(S1:St x fr H s1)(c1:y2 x.ρ s1.heap (.tup [a1,a2]) v)(f:∀s',St x (xp n2 a2 (xp n1 a1 fr)) H s'→Kept x s1 s'→Q () s'):zr (zu pw x.w) x.A (assign (.Tuple [.Name n1 p1,.Name n2 p2] q tp) x.env v) Q E s1:=by
 refine x7 (Zw c1) fun t vs z2 no ht hc=>?_;subst z2
 obtain⟨v1,r1,rfl,cv1,hc⟩:=hc
 obtain⟨v2,r2,rfl,cv2,hc⟩:=hc
 subst hc
 refine wpAny_assign_Tuple hh ht rfl rfl fun h' X=>?_
 have X1:Ext s1 {s1 with heap:=h'}:=Ext.heap (t:=s1.toks) fun b o e=>X b o (fun z=>by rw[z]at e;exact absurd (zY e) (yI _)) e
 have S2:=S1.ext X1
 refine(?_:zr _ _ (assignInOrder [assign (.Name n1 p1) x.env,assign (.Name n2 p2) x.env] [v1,v2]) _ _ _)
 refine assignInOrder_cons (assign_Name (wv (kk:=fun fr2 H2=>fr2=xp n1 a1 fr∧H2=H) hk h1 ⟨rfl,rfl⟩ S2 (cv1.mono X1.nonMut) fun fr2 H2 s3 e S3 K3=>?_))
 refine zK e fun z0 z1=>?_;clear e;subst z0;subst z1
 refine assignInOrder_cons (assign_Name (wv (kk:=fun fr2 H3=>fr2=xp n2 a2 (xp n1 a1 fr)∧H3=H2) hk h2 ⟨rfl,rfl⟩ S3 ((cv2.mono X1.nonMut).mono (S2.nonMut K3)) fun fr2 H3 s4 e S4 K4=>?_))
 refine zK e fun z0 z1=>?_;clear e;subst z0;subst z1
 exact assignInOrder_nil (f s4 S4 ((X1.kept x).trans (K3.trans K4)))
theorem zQ.unpack2(hk:x.env.scope.kind=.function)(h1:Wr x n1)(h2:Wr x n2)(hh:x.A.handled=none)(hs:swapsWithSole [.Tuple [.Name n1 p1,.Name n2 p2] q tp] e pos.line x.env=pure false)(hw:rt [.Tuple [.Name n1 p1,.Name n2 p2] q tp] e x.env=pure none)(h:zL x fr H (zR e x.env) fun a H1=>∃a1 a2,a=.tup [a1,a2]∧k .next (xp n2 a2 (xp n1 a1 fr)) H1):zQ x fr H (tx (.Assign [.Tuple [.Name n1 p1,.Name n2 p2] q tp] e pos) x.env) k:=by
 intro s S Q E f
 refine Assign_Tuple (h s S _ E fun v a H1 s1 g1 c1 S1 K1=>?_) hs hw
 refine yW g1 fun a1 a2 z2 g=>?_;clear g1;subst z2
 exact WD hk h1 h2 hh S1 c1 fun s4 S4 K4=>f .next .next _ _ s4 g rfl S4 (K1.trans K4)
end
noncomputable def ig:Str:=za "--ignore-module"
noncomputable def dN:Str:=za "--ignore-module="
noncomputable def ZT(ns:List Str)(found:Str):List Str:=ns++(yy found (za ",")).map qO
noncomputable def w0(ns:List Str)(w:Bool)(word:Str):List Str×Bool:=
 match w with
 |true=>(ZT ns word,false)
 |false=>match tj (xc word none (some 16)) dN with
  |true=>(ZT ns (xc word (some 16) none),false)
  |false=>(ns,tj word ig)
noncomputable def Xy:List yX:=wt (zm pw.main.body 42)
theorem J5(P:zp):FnIs P 859 (wU (iM P)) Xy:=⟨⟨iM P,⋯,rfl⟩,⋯,rfl,⋯,⋯,⋯,rfl,rfl,rfl,⋯⟩
noncomputable abbrev rh(P:zp):List (Str×NameKind):=(wU (iM P)).scope.names
noncomputable abbrev gV(P:zp):Stat:=Ze P (rh P) [] FB fun U U=>none
noncomputable def X8(e:Expr)(n:Nat):Expr:=wx (xE e) n
noncomputable def mz(s:yX):Nat:=(xM (wx (xT s) 1)).2.2.1
noncomputable def Xv(s:yX):Expr:=wx (xT s) 1
noncomputable abbrev Uc:Expr:=pW (X8 (TZ (zm (ux (zm Xy 1)) 1)) 0)
theorem BC:Uc=f6 Uc (za "name"):=⋯
theorem BQ:Xy=zm Xy 0::Xy.drop 1:=⋯
theorem Gu:zm Xy 0=.Assign [.Tuple [.Name (za "names") (X8 (Xv (zm Xy 0)) 0).pos,.Name (za "wanted") (X8 (Xv (zm Xy 0)) 1).pos] (mz (zm Xy 0)) (Xv (zm Xy 0)).pos] (.Name (za "state") (wV (zm Xy 0)).pos) (zm Xy 0).pos:=⋯
theorem FY:wP (rh P) (zM Uc)=true:=⋯
theorem FX:qj (za "name") (zM Uc).names=true:=⋯
noncomputable abbrev Dg(a:AV)(w:Str):y3:=[(za "state",a),(za "word",.str w)]
noncomputable abbrev i8(a:AV)(w:Str)(l:List AV)(b:Bool):y3:=[(za "state",a),(za "word",.str w),(za "names",.list l),(za "wanted",.bool b)]
noncomputable abbrev Tk(a:AV)(w:Str)(l:List AV)(b:Bool)(f:Str):y3:=[(za "state",a),(za "word",.str w),(za "names",.list l),(za "wanted",.bool b),(za "found",.str f)]
def p8(l:List AV)(k:AV→Prop)(a:AV):Prop:=Ua .Add (.list l) a k
theorem jm(l m:List AV)(k:AV→Prop):p8 l k (.list m)=(l.length+m.length≤sizeLine∧k (.list (l++m))):=⋯
section
variable (P:zp) (x:Cx) (H:Hp) (a:AV) (w p f:Str) (l:List AV) (b:Bool)
theorem rX(k:AV→Hp→Prop):(vF (gV P) x 20).e (.Name (za "state") (wV (zm Xy 0)).pos) (Dg a w) H k=k a H:=⋯
theorem rW(k:AFlow→y3→Hp→Prop):(vF (gV P) x 30).s (Xy.drop 1) (i8 a w l true) H k =
  zL x (Tk a w l true w) H (zR Uc x.env) fun r H1=>p8 l (fun c=>k (.ret (.tup [c,.bool false])) (Tk a w l true w) H1) r:=⋯
theorem rZ(k:AFlow→y3→Hp→Prop):(vF (gV P) x 30).s (Xy.drop 1) (i8 a w l false) H k =
  yD (decide (w.length≤sizeLine)) (tH (tj (xc w none (some 16)) dN)
   (yD (decide (w.length≤sizeLine)) (zL x (Tk a w l false (xc w (some 16) none)) H (zR Uc x.env) fun r H1=>p8 l (fun c=>k (.ret (.tup [c,.bool false])) (Tk a w l false (xc w (some 16) none)) H1) r))
   (k (.ret (.tup [.list l,.bool (tj w ig)])) (i8 a w l false) H)):=⋯
theorem rY(k:AV→Hp→Prop):(vF (gV P) x 20).e (x5 Uc 0) (Tk a w l b f) H k=ZD [.str f,.str (za ",")] [] H k:=⋯
theorem r7(k:AV→Hp→Prop):(vF (Ze P (rk (rh P) (zM Uc)) [] FB fun U U=>none) x 20).e (w6 Uc) (xp (za "name") (.str p) (wf (zM Uc).names (Tk a w l b f))) H k=(p.length≤sizeLine∧k (.str (qO p)) H):=⋯
end
end
section
theorem Xe(hx:x.length≤1000000)(hy:(y.length==0)=false)(h:k (.list ((yy x y).map .str)) H):ZD [.str x,.str y] [] H k:=by
 have hpb:(Zt x (vn x y 0 x.length (x.length+1)) y.length).length≤sizeLine:=by
  have h1:=e6 x y 0 x.length (x.length+1)
  refine zc (cw ..) ?_
  have:∀(cuts:List Nat) (a:Nat),(lM x y.length a cuts).length=cuts.length+1:=by
   intro cuts
   induction cuts with
   |nil=>intro a;rfl
   |cons c r ih=>intro a;show(_::_).length=_;refine zc zS (zc (ih ..) ?_);rfl
  refine zc (this ..) (zc zy ?_)
  exact vB 0x113605f424053610000007311350 [(vn x y 0 x.length (x.length+1)).length,x.length] hx h1 rfl
 refine⟨⟨by refine zc zy ?_;exact zN 0xf42405351000000735 [x.length] hx rfl,hpb⟩,y7 (by refine zc hy ?_;rfl) h⟩
theorem Tp{α:Type}{g:α→Str}{f:AV→AV}{h:α→AV}(l:List α)(e:∀a,f (h a)=.str (g a)):(l.map h).filterMap (fun a=>some (f a))=(l.map g).map AV.str:=by
 refine zc tG (zc yp ?_)
 induction l with
 |nil=>rfl
 |cons a r ih=>refine zc yr (zc zU (xv ih ?_));show _::_=_;refine zc (e ..) ?_;rfl
noncomputable def Mh:(Str→Str)→AV→AV
 |g,.str p=>.str (g p)
 |_,a=>a
theorem mK(Z:Sits n w (rh w.params) [] FB (fun U U=>none) x)(hf:f.length≤100000){k:AV→Hp→Prop}(h:k (.list (((yy f (za ",")).map qO).map .str)) H):
  zL x (Tk a wd l b f) H (zR Uc x.env) k:=by
 refine zc BC (Z.comp_map FY FX (fun U=>rfl) ((yh Z.fits 20).e _ _ _ _ ?_))
 refine(?_:(vF (gV w.params) x 20).e _ _ _ _)
 refine zw (rY ..) (Xe (zN 0x186a0535f4240535 [f.length] hf rfl) rfl ?_)
 have hps:=Um f (za ",")
 have hsh:∀p∈yy f (za ","),p.length≤f.length:=fun p hp=>part_short hp
 generalize yy f (za ",")=ps at h hps hsh ⊢
 refine⟨ps.map .str,fun a=>some (Mh qO a),rfl,trivial,by refine zc (zj ..) (zc zy ?_);exact vB 0x213605186a05361000000735 [ps.length,f.length] hf hps rfl,uA.all fun a ha y Zy=>?_,?_⟩
 ·refine zt (zB.mp ha) fun p hp z2=>?_;subst z2
  refine(yh Zy.fits 20).e _ _ _ _ ?_
  show(vF (Ze w.params (rk (rh w.params) (zM Uc)) [] FB fun U U=>none) y 20).e _ _ _ _
  refine zw (r7 ..) ?_
  have:=hsh p hp
  exact⟨by refine zc zy ?_;exact vB 0x65186a05361000000735 [p.length,f.length] hf this rfl,rfl,rfl⟩
 ·exact zc (Tp (g:=qO) ps fun a=>rfl) h
def br:yG:=fun avs kvs H k=>kvs=[]∧∃(ns:List Str) (b:Bool) (wd:Str),avs=[.tup [.list (ns.map .str),.bool b],.str wd]∧(ns.length≤10000∧wd.length≤100000)∧k (.tup [.list ((w0 ns b wd).1.map .str),.bool (w0 ns b wd).2]) H
theorem ou(B:Base n x)(hn:n<980):y9 x (.ref 859) br:=by
 refine(QQ (S:=br) B (zN 0x3d433523de3352 [n] hn rfl) (J5 _) (wr:=[]) (F:=FB) (DP:=fun U U=>none) rfl (fun U B' U=>uO) (fun U U U=>xX) fun avs kvs H k h=>?_).call
 ·refine zK h fun z0 z1=>?_;clear h;subst z0;refine VD z1 fun ns b wd z5 z6 h=>?_;clear z1;subst z5;obtain⟨hns,hwd⟩:=z6
  refine⟨_,bQ (n1:=za "state") (n2:=za "word") (fun v1 v2=>⋯),⋯,fun x' Z=>?_⟩
  refine zc BQ (zQ.cons (zc Gu (zQ.unpack2 Z.fits.fn (.inl ((xl Z.fits _).trans ⋯)) (.inl ((xl Z.fits _).trans ⋯)) Z.base.room.hh rfl rfl ((yh Z.fits 20).e _ _ _ _ ?_))))
  refine(?_:(vF (gV x.w.params) x' 20).e _ (Dg (.tup [.list (ns.map .str),.bool b]) wd) H _)
  refine zw (rX ..) ⟨_,_,rfl,?_⟩
  refine(?_:zQ x' (i8 (.tup [.list (ns.map .str),.bool b]) wd (ns.map .str) b) H _ _)
  refine(yh Z.fits 30).s _ _ _ _ ((?_:(vF (gV x.w.params) x' 30).s (Xy.drop 1) _ H _))
  have fin:∀{f:Str} {kk:AV→Hp→Prop},f.length≤100000→kk (.tup [.list ((ZT ns f).map .str),.bool false]) H→p8 (ns.map .str) (fun c=>kk (.tup [c,.bool false]) H) (.list (((yy f (za ",")).map qO).map .str)):=fun{f kk} hf hk=>by
   refine zw (jm ..) ?_
   have:=Um f (za ",")
   refine⟨by refine zc (zj ..) (zc (zj ..) (zc (zj ..) (zc zy ?_)));exact dz 0x213706186a05372710435100000073650 [ns.length,(yy f (za ",")).length,f.length] hns hf this rfl,?_⟩
   unfold ZT at hk
   rw[yc]at hk
   exact hk
  cases b with
  |true =>
   exact zw (rW ..) (mK Z hwd (fin (kk:=fun r H'=>k r H') hwd h))
  |false =>
   refine zw (rZ ..) (zc (decide_eq_true (by rw[zy];exact zN 0x186a05351000000735 [wd.length] hwd rfl)) ?_)
   refine(?_:tH _ _ _)
   unfold w0 at h
   dsimp only at h
   cases e:tj (xc wd none (some 16)) dN with
   |true =>
    rw[e]at h
    refine zw ab ?_
    have hs:=ll wd (some 16) none
    exact mK Z (vB 0x65186a0536186a0535 [(xc wd (some 16) none).length,wd.length] hwd hs rfl) (fin (kk:=fun r H'=>k r H') (vB 0x65186a0536186a0535 [(xc wd (some 16) none).length,wd.length] hwd hs rfl) h)
   |false =>
    rw[e]at h
    exact zw tV h
end
section
open PySem.SeqAt
noncomputable def UF(f:AV→AV→Option Bool):List AV→List AV→Option Bool
 |[],m=>some m.isEmpty
 |a::l,m=>(match m with
  |[]=>some false
  |b::m=>(f a b).bind fun x=>(UF f l m).map fun y=>x&&y)
theorem Tr(e:UF f (a::l) (b::m)=some r):∃x y,f a b=some x∧UF f l m=some y∧r=(x&&y):=by
 exact zt (zl.mp e) fun x e1 e=>zt (yz.mp e) fun y e2 e=>⟨x,y,e1,e2,e.symm⟩
noncomputable def LP(a b:AV):Option Bool:=match a with
 |.int i=>(match b with
  |.int j=>some (i==j)
  |_=>none)
 |.str i=>(match b with
  |.str j=>some (tj i j)
  |_=>none)
 |_=>none
theorem je(e:LP a b=some r)(ca:y2 ρ h a va)(cb:y2 ρ h b vb):(∃i t j u,va=.int i t∧vb=.int j u∧r=(i==j))∨(∃i t j u,va=.str i t∧vb=.str j u∧r=tj i j):=by
 cases a with
 |int i=>cases b with
  |int j =>
   refine yf (uo ca) fun t z1=>?_;subst z1
   refine yf (uo cb) fun u z1=>?_;subst z1
   exact .inl ⟨i,t,j,u,rfl,rfl,(zf e).symm⟩
  |_=>exact nS e
 |str i=>cases b with
  |str j =>
   refine yf (xm ca) fun t z1=>?_;subst z1
   refine yf (xm cb) fun u z1=>?_;subst z1
   exact .inr ⟨i,t,j,u,rfl,rfl,(zf e).symm⟩
  |_=>exact nS e
 |_=>exact nS e
noncomputable def qH:Nat→AV→AV→Option Bool
 |0,a,b=>LP a b
 |d+1,a,b=>(match a with
  |.list l=>(match b with
   |.list m=>UF (qH d) l m
   |_=>none)
  |a=>LP a b)
theorem dY(e:qH d a b=some r):LP a b=some r∨∃d' l m,d=d'+1∧a=.list l∧b=.list m∧UF (qH d') l m=some r:=by
 cases d with
 |zero=>exact .inl e
 |succ d=>cases a with
  |list l=>cases b with
   |list m=>exact .inr ⟨d,l,m,rfl,rfl,rfl,e⟩
   |_=>exact nS e
  |_=>exact .inl e
theorem dX(hf:∀a b v r,y2 ρ h a v→y2 ρ h b v→f a b=some r→r=true):∀{l m:List AV} {vs:List zi} {r:Bool},ConL ρ h l vs→ConL ρ h m vs→UF f l m=some r→r=true
 |[],[],_,_,_,_,e=>by(replace e:=zf e;subst e);rfl
 |[],_::_,_,_,c1,c2,_=>by have:=c1.length;rw[c2.length]at this;cases this
 |_::_,[],_,_,c1,c2,_=>by have:=c1.length;rw[c2.length]at this;cases this
 |a::l,b::m,_,r,c1,c2,e=>by
  refine xk c1 fun v s z2 cv cs=>?_;clear c1;subst z2
  refine xk c2 fun v' s' e' cv' cs'=>?_;clear c2
  cases e'
  refine xk (Tr e) fun x y e1 e2 z4=>?_;subst z4
  refine zc (hf _ _ _ _ cv cv' e1) (zc (dX hf cs cs' e2) ?_);rfl
theorem kM:∀(d:Nat) (a b:AV) (v:zi) (r:Bool),y2 ρ h a v→y2 ρ h b v→qH d a b=some r→r=true:=by
 intro d
 induction d using Hr with
 |ind d ih =>
  intro a b v r c1 c2 e
  rcases dY e with e|⟨d',l,m,rfl,rfl,rfl,e⟩
  ·rcases je e c1 c2 with⟨i,t,j,u,rfl,z,rfl⟩|⟨i,t,j,u,rfl,z,rfl⟩
   ·cases z;exact beq_self_eq_true _
   ·cases z;exact ZS.mpr rfl
  ·refine x7 (xY c1) fun x vs z2 z3 z4 hc=>?_;subst z2;clear z3;obtain⟨o,ho,-,nn,hd⟩:=z4
   refine x7 (xY c2) fun x' vs' e' z3 z4 hc'=>?_;clear z3;obtain⟨o',ho',-,nn',hd'⟩:=z4
   cases e'
   rw[ho]at ho';(replace ho':=zf ho';subst ho')
   rw[hd]at hd';cases hd'
   exact dX (ih d' (qR _)) hc hc' e
theorem jd:∀{l m:List AV} {r:Bool},UF f l m=some r→r=true→l.length=m.length
 |[],[],_,_,_=>rfl
 |[],_::_,_,e,h=>by(replace e:=zf e;subst e);exact fT h
 |_::_,[],_,e,h=>by(replace e:=zf e;subst e);exact fT h
 |a::l,b::m,r,e,h=>by
  refine xk (Tr e) fun x y e1 e2 z4=>?_;subst z4
  exact congrArg (·+1) (jd e2 (yt.mp h).2)
theorem bG:∀{l m:List AV} {r:Bool},l.length=m.length→UF f l m=some r→∃e:Nat→Bool,(∀j a b,l[j]?=some a→m[j]?=some b→f a b=some (e j))∧(zT l.length).all e=r
 |[],[],_,_,h=>by(replace h:=zf h;subst h);exact⟨fun U=>true,fun j a b e=>(by exact nS e),rfl⟩
 |[],_::_,_,h,_=>by cases h
 |_::_,[],_,h,_=>by cases h
 |a::l,b::m,r,hl,h=>by
  refine xk (Tr h) fun p q e1 e2 z4=>?_;subst z4
  refine zt (bG (Nat.succ.inj hl) e2) fun e h1 h2=>⟨fun j=>match j with
   |0=>p
   |j+1=>e j,fun j a' b' ha hb=>?_,?_⟩
  ·cases j with
   |zero=>(replace ha:=zf ha;subst ha);(replace hb:=zf hb;subst hb);exact e1
   |succ j=>exact h1 j a' b' ha hb
  ·refine zc zS (zc jr (zc List.all_cons (zc List.all_map ?_)))
   refine(?_:(p&&(zT l.length).all e)=_)
   exact zc h2 rfl
theorem QZ:∀{l m:List AV} {r:Bool},l.length≠m.length→UF f l m=some r→r=false:=fun{l m r} hl e=>by
 cases r with
 |false=>rfl
 |true=>exact absurd (jd e rfl) hl
theorem UG(c:ConL ρ h l vs)(hj:j<vs.length):∃a,l[j]?=some a∧y2 ρ h a vs[j]:=by
 have hl:j<l.length:=by rw[c.length]at *;exact zN 6628946 [j,l.length] hj rfl
 exact⟨l[j],zC hl,c.at (zC hl) (zC hj)⟩
theorem Bl:∀(d:Nat) (A:y1),A.units+d<cLine→∀(a b:AV) (va vb:zi) (r:Bool),y2 ρ s.heap a va→y2 ρ s.heap b vb→qH d a b=some r→EqAt A s va vb r:=by
 intro d
 induction d using Hr with
 |ind d ih =>
  intro A hu a b va vb r c1 c2 e0
  rcases dY e0 with e|⟨d',l,m,rfl,rfl,rfl,e⟩
  ·rcases je e c1 c2 with⟨i,t,j,u,rfl,rfl,rfl⟩|⟨i,t,j,u,rfl,rfl,rfl⟩
   ·exact EqAt.int_int _ _ _ _
   ·exact zc (show tj i j=(i==j) from str_beq i j) (EqAt.str_str _ _ _ _)
  ·refine x7 (xY c1) fun x vs z2 z3 hl hc=>?_;subst z2;clear z3
   refine x7 (xY c2) fun y ws z2 z3 hm hc'=>?_;subst z2;clear z3
   by_cases hxy:x=y
   ·subst hxy
    exact zc (kM (d'+1) _ _ _ _ c1 c2 e0) (EqAt.same _)
   ·refine EqAt.of_refs hxy ?_
    have hu1:A.units+1<cLine:=xj (rN (vp 1 d') _) hu
    by_cases hlen:l.length=m.length
    ·refine zt (bG hlen e) fun ee h1 h2=>xv h2 (zc (show l.length=(⟨vs⟩:Array zi).size from hc.length.symm) ?_)
     exact RcAt.lists hl hm (hc.length.trans (hlen.trans hc'.length.symm)) (zN 0x611370502652 [A.units,cLine,d'] hu rfl) fun j j1 j2=>zt (UG hc j1) fun a ea ca=>zt (UG hc' j2) fun b eb cb=>ih d' (qR _) A.in1 (by exact zN 0x711360502761135002 [A.units,d',cLine] hu rfl) a b _ _ _ ca cb (h1 j a b ea eb)
    ·refine zc (QZ hlen e) ?_
     exact RcAt.lists_lengths hl hm (by show(vs.length != ws.length)=true;refine zc hc.length (zc hc'.length ?_);simpa using hlen) (zN 0x611370502652 [A.units,cLine,d'] hu rfl)
end
section
open PySem.SeqAt
def M3(a b:AV)(P:Prop)(k:Bool→Prop):Prop:=match a with
 |.list l=>bg b fun m=>xW (UF (qH 4) l m) k
 |_=>P
def Y6(op:CmpOp)(a b:AV)(k:Bool→Prop):Prop:=match op with
 |.Eq=>M3 a b (bM .Eq a b k) k
 |.NotEq=>M3 a b (bM .NotEq a b k) fun c=>k (!c)
 |op=>bM op a b k
theorem pB{a b:AV}{P:Prop}{k:Bool→Prop}(h:M3 a b P k):(∃l m r,a=.list l∧b=.list m∧UF (qH 4) l m=some r∧k r)∨P:=by
 cases a with
 |list l =>
  refine zt (Vo h) fun m z1 h=>?_;subst z1
  refine zt (xz h) fun r e h=>?_
  exact .inl ⟨l,m,r,rfl,rfl,e,h⟩
 |_=>exact .inr h
theorem dB{ρ:Rho}{s:zg}{A:y1}(hu:A.units+5<cLine){l m:List AV}{va vb:zi}{r:Bool}(c1:y2 ρ s.heap (.list l) va)(c2:y2 ρ s.heap (.list m) vb)(e:UF (qH 4) l m=some r):
  RcAt A s va vb r∧RcNeAt A s va vb (!r):=by
 refine x7 (xY c1) fun x vs z2 z3 hl hc=>?_;subst z2;clear z3
 refine x7 (xY c2) fun y ws z2 z3 hm hc'=>?_;subst z2;clear z3
 by_cases hlen:l.length=m.length
 ·refine zt (bG hlen e) fun ee h1 h2=>?_
  have key:∀j (h1:j<(⟨vs⟩:Array zi).size) (h2:j<(⟨ws⟩:Array zi).size),EqAt A.in1 s (⟨vs⟩:Array zi)[j] (⟨ws⟩:Array zi)[j] (ee j):=fun j j1 j2=>by
   refine zt (UG hc j1) fun a ea ca=>?_
   refine zt (UG hc' j2) fun b eb cb=>?_
   exact Bl 4 A.in1 (by exact zN 0x651350264131135002 [A.units,cLine] hu rfl) a b _ _ _ ca cb (h1 j a b ea eb)
  have hs:(⟨vs⟩:Array zi).size=(⟨ws⟩:Array zi).size:=by show vs.length=ws.length;exact zc hc.length (zc hc'.length (zc hlen rfl))
  refine xv h2 (zc (show l.length=(⟨vs⟩:Array zi).size by show _=vs.length;rw[hc.length]) ?_)
  exact⟨RcAt.lists hl hm hs (zN 434115716690 [A.units,cLine] hu rfl) key,RcNeAt.lists hl hm hs (zN 434115716690 [A.units,cLine] hu rfl) key⟩
 ·refine zc (QZ hlen e) ?_
  have hs:((⟨vs⟩:Array zi).size != (⟨ws⟩:Array zi).size)=true:=by show(vs.length != ws.length)=true;refine zc hc.length (zc hc'.length ?_);simpa using hlen
  exact⟨RcAt.lists_lengths hl hm hs (zN 434115716690 [A.units,cLine] hu rfl),RcNeAt.lists_lengths hl hm hs (zN 434115716690 [A.units,cLine] hu rfl)⟩
section
variable {w:ya} {A:y1} {E:zi→zg→Prop} {s:zg} {ρ:Rho} {a b:AV} {va vb:zi}
theorem Tv{op:CmpOp}(hu:A.units+5<cLine){k:Bool→Prop}{Q:zi→zg→Prop}(h:Y6 op a b k)(ca:y2 ρ s.heap a va)(cb:y2 ρ s.heap b vb)(f:∀c,k c→Q (.bool c) s):zr (zu pw w) A (compareOp op va vb) Q E s:=by
 cases op with
 |Eq =>
  rcases pB h with⟨l,m,r,rfl,rfl,e,h⟩|h
  ·exact(dB hu ca cb e).1 _ _ _ _ (f _ h)
  ·exact tR h ca cb f
 |NotEq =>
  rcases pB h with⟨l,m,r,rfl,rfl,e,h⟩|h
  ·exact(dB hu ca cb e).2 _ _ _ _ (f _ h)
  ·exact tR h ca cb f
 |_=>exact tR h ca cb f
end
section
variable {x:Cx} {fr:y3} {H:Hp} {k:AV→Hp→Prop} {kb:Bool→Hp→Prop}
theorem zL.compareX{l r:Expr}{op:CmpOp}{pos:ZJ}(hu:x.A.units+5<cLine)(hb:vK op r=false)(h:zL x fr H (zR l x.env) fun a H1=>zL x fr H1 (zR r x.env) fun b H2=>Y6 op a b fun c=>k (.bool c) H2):zL x fr H (zR (.Compare l [op] [r] pos) x.env) k:=
 fun s S U E f=>la (h s S _ E fun U U U s1 h1 c1 S1 K1=>h1 s1 S1 _ E fun U U H2 s2 h2 c2 S2 K2 =>
  Tv hu h2 (c1.mono (S1.nonMut K2)) c2 fun c h3=>f _ (.bool c) H2 s2 h3 (Zv c) S2 (K1.trans K2)) hb
theorem xe.compareX{l r:Expr}{op:CmpOp}{pos:ZJ}{whole:VL zi}(hu:x.A.units+5<cLine)(hb:vK op r=false)(h:zL x fr H (zR l x.env) fun a H1=>zL x fr H1 (zR r x.env) fun b H2=>Y6 op a b fun c=>kb c H2):xe x fr H (isTrue (.Compare l [op] [r] pos) x.env whole) kb:=
 fun s S U E f=>wy (h s S _ E fun U U U s1 h1 c1 S1 K1=>h1 s1 S1 _ E fun U U H2 s2 h2 c2 S2 K2 =>
  Tv hu h2 (c1.mono (S1.nonMut K2)) c2 fun c h3=>xQ (f c H2 s2 h3 S2 (K1.trans K2))) hb
set_option backward.match.sparseCases false in
def Ep(D:Stat)(x:Cx)(V:Evs)(ex:Expr)(fr:y3)(H:Hp)(k:AV→Hp→Prop):Prop:=
 match ex with
 |.ListComp a b c d=>zL x fr H (zR (.ListComp a b c d) x.env) k
 |.Compare l ops rs _=>(match ops,rs with
  |[op],[r]=>yD (!behindInMarks op r) (V.e l fr H fun a H1=>V.e r fr H1 fun b H2=>Y6 op a b fun c=>k (.bool c) H2)
  |_,_=>False)
 |ex=>ie D V ex fr H k
set_option backward.match.sparseCases false in
def Es(V:Evs)(ex:Expr)(fr:y3)(H:Hp)(k:Bool→Hp→Prop):Prop:=
 match ex with
 |.Compare l ops rs _=>(match ops,rs with
  |[op],[r]=>yD (!behindInMarks op r) (V.e l fr H fun a H1=>V.e r fr H1 fun b H2=>Y6 op a b fun c=>k c H2)
  |_,_=>False)
 |ex=>ii V ex fr H k
noncomputable def evX(D:Stat)(x:Cx):Nat→Evs
 |0=>hX
 |n+1=>⟨Ep D x (evX D x n),Es (evX D x n),ic (evX D x n),h9 (evX D x n),stepT (evX D x n),ib (evX D x n),mP D x (evX D x n)⟩
theorem jI{D:Stat}{x:Cx}(Z:Fits D x)(hu:x.A.units+5<cLine):∀n,Sound D x (evX D x n):=by
 intro l0
 induction l0 with
 |zero =>
  exact YS D x
 |succ n ih =>
  have N:=ih
  refine⟨fun ex fr H k h=>?_,fun ex fr H k h=>?_,fun es fr H k pos hp h=>aO N es fr H k pos hp h,fun es fr H k pos hp h=>aK N es fr H k pos hp h,aL N,aN N,fun ss fr H k h=>?_⟩
  ·cases ex with
   |ListComp a b c d=>exact h
   |Compare l ops rs pos =>
    cases ops with
    |nil=>exact qC h
    |cons op t=>cases t with
     |cons p t=>exact qC h
     |nil=>cases rs with
      |nil=>exact qC h
      |cons r u=>cases u with
       |cons p t=>exact qC h
       |nil =>
        refine zK (yg h) fun h1 h2=>?_
        exact zL.compareX hu (by simpa using h1) ((N.e _ _ _ _ h2).mono fun a H1 h1=>N.e _ _ _ _ h1)
   |_=>exact aQ Z N _ fr H k h
  ·cases ex with
   |Compare l ops rs pos =>
    cases ops with
    |nil=>exact qC h
    |cons op t=>cases t with
     |cons p t=>exact qC h
     |nil=>cases rs with
      |nil=>exact qC h
      |cons r u=>cases u with
       |cons p t=>exact qC h
       |nil =>
        refine zK (yg h) fun h1 h2=>?_
        exact xe.compareX hu (by simpa using h1) ((N.e _ _ _ _ h2).mono fun a H1 h1=>N.e _ _ _ _ h1)
   |_=>exact aR N _ fr H k h
  ·cases ss with
   |nil=>exact zQ.nil h
   |cons st r =>
    cases e:UC st with
    |true =>
     refine zQ.cons (((wZ h).1 e).mono fun a fr1 H1 h1=>?_)
     cases a with
     |next=>exact N.s _ _ _ _ h1
     |_=>exact h1
    |false=>exact aM Z N _ fr H k ((wZ h).2 e)
theorem Sits.evX{n:Nat}{w:ya}{kinds:List (Str×NameKind)}{wr:List Str}{F:zi→Option yG}{DP:zI→Str→Option yG}(Z:Sits n w kinds wr F DP x)(hn:n<980)(m:Nat):Sound (Ze w.params kinds wr F DP) x (Mine.Internal.evX (Ze w.params kinds wr F DP) x m):=
 jI Z.fits (by have:=Z.base.room.un;show _<9900;exact vB 0x6a134113053d433a13162a13426ac43513502 [x.A.units,n] (zF 10 hn) this rfl) m
end
theorem Y0{d:Nat}:∀{ps qs:List Str},UF (qH d) (ps.map .str) (qs.map .str)=some (decide (ps=qs))
 |[],[]=>rfl
 |[],q::qs=>rfl
 |p::ps,[]=>rfl
 |p::ps,q::qs=>by
  refine(?_:(qH d (.str p) (.str q)).bind (fun x=>(UF (qH d) (ps.map .str) (qs.map .str)).map fun y=>x&&y)=_)
  refine zc Y0 (zc (show qH d (.str p) (.str q)=some (tj p q)by cases d<;>rfl) ?_)
  refine(?_:some (tj p q&&decide (ps=qs))=_)
  congr 1
  cases e:tj p q with
  |true=>refine zc (ZS.mp e) ?_;simp
  |false =>
   have:p≠q:=fun z=>by rw[ZS.mpr z]at e;exact tF e
   simp[this]
theorem W1{ps qs:List Str}{k:Bool→Prop}:Y6 .Eq (.list (ps.map .str)) (.list (qs.map .str)) k=k (decide (ps=qs)):=by
 refine(?_:xW (UF (qH 4) (ps.map .str) (qs.map .str)) _=_)
 refine zc Y0 ?_
 rfl
theorem W0{ps qs:List Str}{k:Bool→Prop}:Y6 .NotEq (.list (ps.map .str)) (.list (qs.map .str)) k=k (!decide (ps=qs)):=by
 refine(?_:xW (UF (qH 4) (ps.map .str) (qs.map .str)) _=_)
 refine zc Y0 ?_
 rfl
end
section
theorem dh(lo hi:Option Int):Yu l lo hi none=(l.drop (lo.elim 0 (Cu l.length))).take (hi.elim l.length (Cu l.length)-lo.elim 0 (Cu l.length)):=by
 unfold Yu
 refine zc (sliceBounds_plain ..) (zc (sliceRange_one ..) ?_)
 have:=pick_run l.toArray (lo.elim 0 (Cu l.length)) (hi.elim l.length (Cu l.length)-lo.elim 0 (Cu l.length))
 simp only[vd]at this
 exact zc this rfl
theorem fL{l:List AV}{n:Nat}:Yu l none (some (n:Int)) none=l.take n:=by
 refine zc (dh ..) ?_
 simp only[Option.elim,clipAt_nat,WA,lA]
 by_cases h:n≤l.length
 ·exact zc (Nat.min_eq_left h) rfl
 ·exact zc (Hc (zN 414309 [l.length,n] (wX h) rfl)) (zc (x9 (zX _)) (zc (x9 (zN 414309 [l.length,n] (wX h) rfl)) rfl))
theorem nG:iz (.int i) k=k (some i):=rfl
theorem cM{l:List AV}{n:Nat}{k:AV→Prop}(hl:l.length≤sizeLine):UY (.list l) none (some (n:Int)) none k=k (.list (l.take n)):=by
 unfold UY
 dsimp only
 refine zc (decide_eq_true hl) (zc fL ?_)
 rfl
theorem fX(hl:l.length≤sizeLine):bw [.list l] [] H k=k (.int l.length) H:=by
 refine(?_:yD (decide (l.length≤sizeLine)) _=_)
 refine zc (decide_eq_true hl) ?_
 rfl
noncomputable def Cm:List yX:=wt (zm pw.main.body 43)
theorem J0(P:zp):FnIs P 864 (wU (iL P)) Cm:=⟨⟨iL P,⋯,rfl⟩,⋯,rfl,⋯,⋯,⋯,rfl,rfl,rfl,⋯⟩
noncomputable abbrev GQ(P:zp):List (Str×NameKind):=(wU (iL P)).scope.names
noncomputable abbrev Ch(P:zp):Stat:=Ze P (GQ P) [za "parts"] FB fun U U=>none
noncomputable def NV(e:Expr):Expr:=wx (xE e) 0
noncomputable abbrev Qp:Expr:=Ty (NV (TZ (zm Cm 1)))
theorem BB:Qp=NS Qp (za "name"):=⋯
theorem FW:wP (GQ P) (zM Qp)=true:=⋯
theorem FV:qj (za "name") (zM Qp).names=true:=⋯
noncomputable abbrev Df(l:AV)(b:Str):y3:=[(za "names",l),(za "call",.str b)]
noncomputable abbrev QW(l:AV)(b:Str)(ps:AV):y3:=[(za "names",l),(za "call",.str b),(za "parts",ps)]
section
variable (P:zp) (x:Cx) (H:Hp) (l:List AV) (a:AV) (b p:Str) (ps:List AV)
theorem Ig(k:AFlow→y3→Hp→Prop):(evX (Ch P) x 30).s Cm (Df (.list l) b) H k =
  ZD [.str b,.str (za ".")] [] H fun r H1=>zL x (QW (.list l) b r) H1 (zR Qp x.env) fun a H2=>Y6 .NotEq a (.list []) fun c=>tH c (k (.ret (.int 1)) (QW (.list l) b r) H2) (k (.ret (.int 0)) (QW (.list l) b r) H2):=⋯
theorem rT(k:AV→Hp→Prop):(evX (Ch P) x 20).e (x5 Qp 0) (QW (.list l) b a) H k=k (.list l) H:=⋯
noncomputable abbrev i9:y3:=xp (za "name") (.str p) (wf (zM Qp).names (QW (.list l) b (.list ps)))
noncomputable abbrev jo:Stat:=Ze P (rk (GQ P) (zM Qp)) [] FB fun U U=>none
theorem rV(k:Bool→Hp→Prop):(evX (jo P) x 20).b (Qa Qp 0) (i9 l b p ps) H k =
  ZD [.str p,.str (za ".")] [] H fun r H1=>bw [r] [] H1 fun n H2=>iz n fun o=>UY (.list ps) none o none fun c=>ZD [.str p,.str (za ".")] [] H2 fun r2 H3=>Y6 .Eq c r2 fun d=>k d H3:=⋯
theorem rU(k:AV→Hp→Prop):(evX (jo P) x 20).e (w6 Qp) (i9 l b p ps) H k=k (.str p) H:=⋯
end
noncomputable def tQ(call name:Str):Bool:=decide ((yy call (za ".")).take (yy name (za ".")).length=yy name (za "."))
noncomputable def Qj(ns:List Str)(call:Str):Int:=bif ns.any (tQ call)then 1 else 0
noncomputable def gA(call:Str):AV→Bool
 |.str p=>tQ call p
 |_=>false
def Bn:yG:=fun avs kvs H k=>kvs=[]∧∃(ns:List Str) (b:Str),avs=[.list (ns.map .str),.str b]∧(ns.length≤10000∧b.length≤100000∧∀p∈ns,p.length≤100000)∧k (.int (Qj ns b)) H
theorem YZ:∀{ns:List Str},(ns.map AV.str).filterMap (fun a=>bif gA c a then some (id a)else none)=(ns.filter (tQ c)).map AV.str
 |[]=>rfl
 |p::r=>by
  refine zc zU (zc yr (zc TT ?_))
  refine zc (show gA c (AV.str p)=tQ c p from rfl) ?_
  cases tQ c p with
  |true=>refine zc (if_pos rfl) (zc zU (xv YZ ?_));rfl
  |false=>refine zc (if_neg (by decide)) (xv YZ ?_);rfl
theorem FO{n:Nat}{x:Cx}(B:Base n x)(hn:n<970):y9 x (.ref 864) Bn:=by
 refine(QQ (S:=Bn) B (zN 0x3ca33523de3352 [n] hn rfl) (J0 _) (wr:=[za "parts"]) (F:=FB) (DP:=fun U U=>none) ⋯ (fun U B' U=>uO) (fun U U U=>xX) fun avs kvs H k h=>?_).call
 ·refine zK h fun z0 z1=>?_;clear h;subst z0;refine xk z1 fun ns b z4 z5 h=>?_;clear z1;subst z4;obtain⟨hns,hb,hp⟩:=z5
  refine⟨_,bQ (n1:=za "names") (n2:=za "call") (fun v1 v2=>⋯),⋯,fun x' Z=>?_⟩
  refine(Z.evX (zN 0x3ca33523d433113502 [n] hn rfl) 30).s _ _ _ _ ((?_:(evX (Ch x.w.params) x' 30).s Cm (Df (.list (ns.map .str)) b) H _))
  refine zw (Ig ..) (Xe (zN 0x186a0535f4240535 [b.length] hb rfl) rfl ?_)
  have hps:=Um b (za ".")
  unfold Qj at h
  have hcv:∀p,tQ b p=decide ((yy b (za ".")).take (yy p (za ".")).length=yy p (za ".")):=fun p=>rfl
  generalize yy b (za ".")=ps at hps hcv ⊢
  refine zc BB (Z.comp_map FW FV (fun U=>rfl) ((Z.evX (zN 0x3ca33523d433113502 [n] hn rfl) 20).e _ _ _ _ ?_))
  refine(?_:(evX (Ch x.w.params) x' 20).e _ (QW (.list (ns.map .str)) b (.list (ps.map .str))) H _)
  refine zw (rT ..) ?_
  have hpl:(ps.map AV.str).length≤sizeLine:=by refine zc (zj ..) (zc zy ?_);exact vB 0x213605186a05361000000735 [ps.length,b.length] hb hps rfl
  refine⟨ns.map .str,_,rfl,trivial,by refine zc (zj ..) (zc zy ?_);exact zN 0x27104351000000735 [ns.length] hns rfl,uA.one (p:=gA b) (f:=id) fun a ha y Zy=>?_,?_⟩
  ·refine zt (zB.mp ha) fun p hpm z2=>?_;subst z2
   refine(Zy.evX (zN 0x3ca33523d433113502 [n] hn rfl) 20).b _ _ _ _ ((?_:(evX (jo x.w.params) y 20).b _ (i9 (ns.map .str) b p (ps.map .str)) H _))
   refine zw (rV ..) ?_
   have hl:=hp p hpm
   have hqs:=Um p (za ".")
   refine Xe (zN 0x186a0535f4240535 [p.length] hl rfl) rfl ?_
   have hcp:=hcv p
   have hsp:ZD [.str p,.str (za ".")] [] H=fun k=>ZD [.str p,.str (za ".")] [] H k:=rfl
   refine zw (fX (by rw[zj,zy];exact vB 0x213605186a05361000000735 [(yy p (za ".")).length,p.length] hl hqs rfl)) (zw nG (zw (cM hpl) (Xe (zN 0x186a0535f4240535 [p.length] hl rfl) rfl (zc (zj ..) (xv List.map_take (zw W1 (xv hcp ?_)))))))
   refine⟨rfl,rfl,fun U=>?_⟩
   refine(Zy.evX (zN 0x3ca33523d433113502 [n] hn rfl) 20).e _ _ _ _ ((?_:(evX (jo x.w.params) y 20).e _ (i9 (ns.map .str) b p (ps.map .str)) H _))
   exact zw (rU ..) ⟨rfl,rfl⟩
  ·refine zc YZ ?_
   have:(AV.list ([]:List AV))=.list (([]:List Str).map .str):=rfl
   refine zc this (zw W0 ?_)
   have hany:ns.any (tQ b) = !decide (ns.filter (tQ b)=[]):=by
    rw[tC,YN];refine zc (CC ..) ?_;rw[decide_eq_false_iff_not,Xu]
    simp
   rw[hany]at h
   cases e:decide (ns.filter (tQ b)=[])with
   |true=>rw[e]at h;exact h
   |false=>rw[e]at h;exact h
end
section
section
variable {x:Cx} {fr:y3} {H:Hp}
theorem gW.shut(c:gW (x.wi [I]).ρ h a f):gW x.ρ h a f:=by
 cases a with
 |ret a=>obtain⟨v,rfl,c⟩:=c;exact⟨v,rfl,c.close fun b q=>zD _ q⟩
 |_=>exact c
theorem Tn(F:Far x I)(nt:¬uG x I)(no:I∉x.ρ.op)(hk:x.env.scope.kind=.function)(ht:Wr x t)(hh:x.A.handled=none){J:List AV→y3→Hp→Prop}{k:AFlow→y3→Hp→Prop}(step:∀a rest fr1 H1,J (a::rest) fr1 H1→zQ (x.wi [I]) (xp t a fr1) H1 (xN body x.env) fun f fr2 H2=>match f with
   |.next=>J rest fr2 H2
   |.cont=>J rest fr2 H2
   |.brk=>k .next fr2 H2
   |.ret a=>k (.ret a) fr2 H2)(fin:∀fr1 H1,J [] fr1 H1→k .next fr1 H1){R:Zr→zg→Prop}(S:St (x.wi [I]) fr H s)(T:It (x.wi [I]) I l s.heap)(hJ:J l fr H)(f:∀fl a fr' H' s',k a fr' H'→gW x.ρ s'.heap a fl→St x fr' H' s'→KeptX x [I] s s'→R (.ok fl) s'):
  y4 (zu pw x.w) x.A (.forLoop (.Name t tp) (.ref I) body [] x.env) R s:=by
 refine codeAny_forLoop (fun n s'=>∃rest fr' H',rest.length=n∧J rest fr' H'∧St (x.wi [I]) fr' H' s'∧It (x.wi [I]) I rest s'.heap∧KeptX x [I] s s') (fun n s' i=>?_) l.length ⟨l,fr,H,rfl,hJ,S,T,(Kept.refl x s).x⟩
 refine Wj i fun rest fr' H' hn hJ' S' z6=>?_;clear i;refine zK z6 fun T' K'=>?_;clear z6
 have hop:I∈(x.wi [I]).ρ.op:=xV _ (.head _)
 cases rest with
 |nil =>
  refine T'.last hh fun h' tk kk=>qb ?_
  exact f .next .next fr' H' _ (fin _ _ hJ') rfl (S'.drop F nt no kk) (K'.trans ⟨⟨_,_,_,rfl⟩,fun b o e U m=>⟨o,kk b o (fun z=>m (by refine zc z ?_;exact .head _)) e,.refl o⟩⟩)
 |cons a rest =>
  refine T'.next hop hh fun v h' tk cv T1 kk ex=>?_
  have S1:St (x.wi [I]) fr' H' {s' with heap:=h',toks:=tk}:=S'.other hop ⟨F.lo,F.ce,F.de,F.ob,F.ba,F.st,F.fr⟩ nt kk ex
  have K1:KeptX x [I] s' {s' with heap:=h',toks:=tk}:=⟨⟨_,_,_,rfl⟩,fun b o e U m=>⟨o,kk b o (fun z=>m (by refine zc z ?_;exact .head _)) e,.refl o⟩⟩
  refine assign_Name (wv (x:=x.wi [I]) (kk:=fun fr2 H2=>fr2=xp t a fr'∧H2=H') hk ht ⟨rfl,rfl⟩ S1 cv fun fr2 H2 s2 e S2 K2=>?_)
  refine zK e fun z0 z1=>?_;clear e;subst z0;subst z1
  refine step a rest fr' H2 hJ' s2 S2 _ _ fun fl av fr3 H3 s3 q cf S3 K3=>?_
  have K23:Kept (x.wi [I]) {s' with heap:=h',toks:=tk} s3:=K2.trans K3
  have K3':KeptX x [I] s s3:=K'.trans (K1.trans ⟨K23.rest,fun b o e n U=>K23.keep b o e n⟩)
  have T3:It (x.wi [I]) I rest s3.heap:=T1.mono (S1.nonMut K23) fun o e=>K23.keepN e nt (T1.obj o e)
  cases av with
  |next=>cases cf;exact⟨rest.length,by refine xv hn ?_;exact qR _,rest,fr3,H3,rfl,q,S3,T3,K3'⟩
  |cont=>cases cf;exact⟨rest.length,by refine xv hn ?_;exact qR _,rest,fr3,H3,rfl,q,S3,T3,K3'⟩
  |brk=>cases cf;exact f .next .next fr3 H3 s3 q rfl S3.shut K3'
  |ret a =>
   have c:=gW.shut cf
   refine zt cf fun v z1 cv=>?_;clear cf;subst z1
   exact f (.ret v) (.ret a) fr3 H3 s3 q c S3.shut K3'
theorem KeptX.old(X:Ext s1 s2)(n:s1.heap.get? I=none)(K:KeptX x [I] s2 s'):Kept x s1 s':=
 ⟨by(refine xd X.rest fun h t d z3=>?_;subst z3);(refine xd K.rest fun h' t' d' z3=>?_;subst z3);exact⟨h',t',d',rfl⟩,fun c o e m=>K.keep c o (X.keep c o e) m fun q=>by rw[zd.mp q,n]at e;exact nS e⟩
theorem zQ.for_(hk:x.env.scope.kind=.function)(ht:Wr x t)(hh:x.A.handled=none)(hs:∀v,yR iter x.env v=pure v){k:AFlow→y3→Hp→Prop}(h:zL x fr H (zR iter x.env) fun a H1=>∃(l:List AV) (J:List AV→y3→Hp→Prop),u3 a=some l∧uZ a∧J l fr H1∧(∀fr1 H1,J [] fr1 H1→k .next fr1 H1)∧∀I a rest fr1 H1,J (a::rest) fr1 H1→zQ (x.wi [I]) (xp t a fr1) H1 (xN body x.env) fun f fr2 H2=>match f with
   |.next=>J rest fr2 H2
   |.cont=>J rest fr2 H2
   |.brk=>k .next fr2 H2
   |.ret a=>k (.ret a) fr2 H2):zQ x fr H (tx (.For (.Name t tp) iter body [] pos) x.env) k:=by
 intro s S Q E f
 refine wpAny_For (h s S _ E fun v a H1 s1 q c1 S1 K1=>?_) hs
 refine x7 q fun l J hi hok hJ z5=>?_;refine zK z5 fun fin step=>?_;clear z5
 refine uk hi hok c1 fun I s2 X2 n2 e2 T2=>?_
 have S2:St (x.wi [I]) fr H1 s2:=S1.openE X2 [I] (fun b hb=>by refine zc (zd.mp hb) ?_;exact n2) fun b hb=>by refine zc (zd.mp hb) ?_;exact e2
 refine Tn (S1.far n2) (S1.notTch n2) (S1.notOp n2) hk ht hh (step I) fin S2 (T2 [I] fun b hb=>by refine zc (zd.mp hb) ?_;exact n2) hJ fun fl a' fr' H' s' q cf S' K'=>?_
 exact f fl a' fr' H' s' q cf S' (K1.trans (KeptX.old X2 n2 K'))
end
end
section
noncomputable def qz:List yX:=wt (zm pw.main.body 33)
theorem Kc(P:zp):FnIs P 803 (wU (iS P)) qz:=⟨⟨iS P,⋯,rfl⟩,⋯,rfl,⋯,⋯,⋯,rfl,rfl,rfl,⋯⟩
noncomputable abbrev Nh(P:zp):List (Str×NameKind):=(wU (iS P)).scope.names
noncomputable abbrev Ll:zi→Option yG:=Qo 859 br FB
noncomputable abbrev Xa(P:zp):Stat:=Ze P (Nh P) [] Ll fun U U=>none
noncomputable def De(s:yX):List yX:=(xB s).2.1
noncomputable def UE(s:yX):Expr:=wx (xT s) 1
noncomputable def t5(s:yX):List yX:=(xB s).1
noncomputable def pq(s:yX):ZJ:=(wx (xT s) 0).pos
noncomputable abbrev gX:yX:=zm qz 0
noncomputable abbrev p9:Expr:=uy (zm qz 1)
theorem BU:qz=[zm qz 0,zm qz 1,zm qz 2,zm qz 3]:=⋯
theorem GG:zm qz 0=.Assign [.Name (za "it") (GN gX)] (.Call (.Name (za "iter") (tr (wV gX))) (xC (wV gX)) [] (qa (wV gX))) gX.pos:=⋯
theorem GF:zm qz 1=.If (.Compare (Ty p9) [.Is] [Tw p9] p9.pos) (ux (zm qz 1)) (De (zm qz 1)) (zm qz 1).pos:=⋯
theorem GE:zm qz 2=.For (.Name (za "element") (pq (zm qz 2))) (.Name (za "it") (UE (zm qz 2)).pos) (t5 (zm qz 2)) [] (zm qz 2).pos:=⋯
noncomputable def T0(I:zI):AV:=.ext fun U v=>v=.ref I
noncomputable abbrev QX(l i:AV):y3:=[(za "function",.glob (.ref 859)),(za "sequence",l),(za "initial",i)]
noncomputable abbrev QY(l i it:AV):y3:=[(za "function",.glob (.ref 859)),(za "sequence",l),(za "initial",i),(za "it",it)]
noncomputable abbrev V0(l i it v:AV):y3:=[(za "function",.glob (.ref 859)),(za "sequence",l),(za "initial",i),(za "it",it),(za "value",v)]
noncomputable abbrev XV(l i it v e:AV):y3:=[(za "function",.glob (.ref 859)),(za "sequence",l),(za "initial",i),(za "it",it),(za "value",v),(za "element",e)]
section
variable (P:zp) (x:Cx) (H:Hp) (l i it v e:AV)
theorem se(k:AV→Hp→Prop):(vF (Xa P) x 20).e (.Name (za "iter") (tr (wV gX))) (QX l i) H k=k (.glob (.builtin "iter")) H:=⋯
theorem sj(k:List AV→Hp→Prop):(vF (Xa P) x 20).l (xC (wV gX)) (QX l i) H k=k [l] H:=⋯
theorem mh(k:AV→Hp→Prop):(vF (Xa P) x 20).e (Ty p9) (QY l i it) H k=k i H:=⋯
theorem mf(k:AV→Hp→Prop):(vF (Xa P) x 20).e (Tw p9) (QY l i it) H k=k (.glob (.ref 795)) H:=⋯
theorem me(k:AFlow→y3→Hp→Prop):(vF (Xa P) x 20).s (De (zm qz 1)) (QY l i it) H k=k .next (V0 l i it i) H:=⋯
theorem md(k:AV→Hp→Prop):(vF (Xa P) x 20).e (.Name (za "it") (UE (zm qz 2)).pos) (V0 l i it v) H k=k it H:=⋯
theorem sh(k:AFlow→y3→Hp→Prop):(vF (Xa P) x 20).s (t5 (zm qz 2)) (XV l i it v e) H k=br [v,e] [] H fun r H1=>k .next (XV l i it r e) H1:=⋯
theorem ma(k:AFlow→y3→Hp→Prop):(vF (Xa P) x 20).s [zm qz 3] (V0 l i it v) H k=k (.ret v) (V0 l i it v) H:=⋯
theorem l9(k:AFlow→y3→Hp→Prop):(vF (Xa P) x 20).s [zm qz 3] (XV l i it v e) H k=k (.ret v) (XV l i it v e) H:=⋯
theorem sG:xp (za "it") it (QX l i)=QY l i it:=⋯
theorem mw:xp (za "element") e (V0 l i it v)=XV l i it v e:=⋯
theorem mt(e0:AV):xp (za "element") e (XV l i it v e0)=XV l i it v e:=⋯
end
theorem f9:YG lb "iter" = some Builtin.«iter»:=vW ⋯
theorem f8:plainId "iter" = true:=by decide +kernel
theorem gb(v:zi):tz "iter" ⟨[v],[]⟩=pure ():=⋯
theorem kq{x:Cx}{A:y1}{E:zi→zg→Prop}{s:zg}{a:AV}{l:List AV}{v:zi}{Q:zi→zg→Prop}(hi:u3 a=some l)(hok:uZ a)(c:y2 x.ρ s.heap a v)(h:∀I s',Ext s s'→s.heap.get? I=none→(∃o,s'.heap.get? I=some o)→(∀Y,(∀b∈Y,s.heap.get? b=none)→It (x.wi Y) I l s'.heap)→Q (.ref I) s'):zr (zu pw x.w) A (call (.builtin "iter") [v]) Q E s:=by
 refine yL (vG f8 f9 (x8 (gb v) ?_))
 show zr _ _ (XA v >>= _) _ _ _
 exact zb (uk hi hok c fun I s' X n e T=>wpAny_pure (h I s' X n e T))
end
section
noncomputable def vQ:(List Str×Bool)→List Str→List Str×Bool
 |st,[]=>st
 |st,wd::r=>vQ (w0 st.1 st.2 wd) r
def Ld:(List Str×Bool)→List Str→Prop
 |_,[]=>True
 |st,wd::r=>(st.1.length≤10000∧wd.length≤100000)∧Ld (w0 st.1 st.2 wd) r
noncomputable def aH(st:List Str×Bool):AV:=.tup [.list (st.1.map .str),.bool st.2]
def Uw:yG:=fun avs kvs H k=>kvs=[]∧∃(st:List Str×Bool) (wds:List Str),avs=[.glob (.ref 859),.list (wds.map .str),aH st]∧Ld st wds∧k (aH (vQ st wds)) H
theorem BL(B:Base n x)(hK:(KF x.w.params).lookup T=some o)(hd:fd.defaults=.ref T)(hs:o.data=.seq items m)(hb:∀v1 v2 v3,∃k,qN fd ⟨[v1,v2,v3],[]⟩=(seqItems? fd.defaults >>= k)∧k (some items)=pure [(n1,v1),(n2,v2),(n3,v3)]):V3 x fd [a1,a2,a3] [] [(n1,a1),(n2,a2),(n3,a3)]:=fun s fr H vs kws S c1 c2=>by
 cases c2
 (refine xk c1 fun v r z2 cv cr=>?_;clear c1;subst z2);obtain⟨v',r,rfl,cv',cr⟩:=cr;obtain⟨v'',r,rfl,cv'',cr⟩:=cr;subst cr
 exact zt (hb v v' v'') fun k h1 h2=>⟨_,uR hd (B.K.keeps S.base _ _ hK) hs h1 h2,⟨v,_,rfl,cv,⟨v',_,rfl,cv',⟨v'',_,rfl,cv'',rfl⟩⟩⟩⟩
section
variable {x:Cx} {fr:y3} {H:Hp} {kb:Bool→Hp→Prop}
theorem xe.is_tup(hb:vK .Is r=false)(ho:x.B.get? b=some ob)(hc:ob.cls≠.type "tuple")(h:zL x fr H (zR l x.env) fun v H1=>v=.tup m∧zL x fr H1 (zR r x.env) fun w H2=>w=.glob (.ref b)∧kb false H2):xe x fr H (isTrue (.Compare l [.Is] [r] pos) x.env whole) kb:=
 fun s S U E f=>wy (h s S _ E fun v U H1 s1 h1 c1 S1 K1=>by
  obtain⟨rfl,h1⟩:=h1
  refine h1 s1 S1 _ E fun w U H2 s2 h2 c2 S2 K2=>?_
  obtain⟨rfl,h2⟩:=h2
  obtain rfl:=wo c2
  obtain⟨a,vs,rfl,no,⟨o,hoa,hca,-⟩,-⟩:=Zw (c1.mono (S1.nonMut K2))
  have hob:=S2.base _ _ ho
  have ne:a≠b:=fun e=>by rw[e,hob]at hoa;cases hoa;exact hc hca
  refine(?_:zr _ _ (do return Value.bool (←isSame (.ref a) (.ref b))) _ _ _)
  exact zb (SeqAt.wpAny_isSame_ref_other' ne hoa hob hc (wpAny_pure (xQ (f _ H2 s2 h2 S2 (K1.trans K2)))))) hb
end
theorem oU:(KF P).lookup 795=some (C0 P):=⋯
theorem jQ(B:Base n x)(hn:n<970):y9 x (.ref 803) Uw:=by
 refine(QQ (S:=Uw) B (zN 0x3ca33523de3352 [n] hn rfl) (Kc _) (wr:=[]) (F:=Ll) (DP:=fun U U=>none) rfl (fun U B' U=>ue (ou B' (zN 0x3ca33523d433113502 [n] hn rfl)) uO) (fun U U U=>xX) fun avs kvs H k h=>?_).call
 ·refine zK h fun z0 z1=>?_;clear h;subst z0;refine xk z1 fun st wds z4 hok h=>?_;clear z1;subst z4
  refine⟨_,BL B (T:=796) (o:=CZ x.w.params) (items:=#[.ref 795]) (m:=0) (n1:=za "function") (n2:=za "sequence") (n3:=za "initial") ⋯ rfl rfl (fun v1 v2 v3=>⟨_,by with_unfolding_all rfl,⋯⟩),⋯,fun x' Z=>?_⟩
  intro s S Q E f
  have hk:=Z.fits.fn
  have hh:=Z.base.room.hh
  refine zc BU (zO (zc GG (uV ?_ (vJ ⋯))))
  refine Up (x:=x') (K:=KF x'.w.params) Z.base.K (f:=.builtin "iter") rfl ⋯ (by rfl) (k':=fun avs kvs H'=>avs=[.list (wds.map .str)]∧kvs=[]∧H'=H) S ((yh Z.fits 20).e _ _ _ _ ?_) fun vs ks avs kvs H' s1 q c1 c2 S1 K1=>?_
  ·refine(?_:(vF (Xa x.w.params) x' 20).e _ (QX (.list (wds.map .str)) (aH st)) H _)
   refine zw (se ..) ⟨rfl,(yh Z.fits 20).l _ _ _ _ _ ⋯ ?_⟩
   refine(?_:(vF (Xa x.w.params) x' 20).l _ (QX (.list (wds.map .str)) (aH st)) H _)
   exact zw (sj ..) (w9.kws_nil ⟨rfl,rfl,rfl⟩)
  refine yU q fun z0 z1 z2=>?_;clear q;subst z0;subst z1;subst z2
  obtain⟨v,r,rfl,cv,c1⟩:=c1
  subst c1 c2
  refine kq (x:=x') (a:=.list (wds.map .str)) rfl trivial cv fun I s2 X2 n2 e2 T2=>?_
  have S2:St (x'.wi [I]) (QX (.list (wds.map .str)) (aH st)) H' s2:=S1.openE X2 [I] (fun b hb=>by refine zc (zd.mp hb) ?_;exact n2) fun b hb=>by refine zc (zd.mp hb) ?_;exact e2
  have hw1:Wr x' (za "it"):=.inl ((xl Z.fits _).trans ⋯)
  have hw2:Wr x' (za "element"):=.inl ((xl Z.fits _).trans ⋯)
  refine wv (x:=x'.wi [I]) (kk:=fun fr2 H2=>fr2=QY (.list (wds.map .str)) (aH st) (T0 I)∧H2=H') (av:=T0 I) hk hw1 ⟨sG _ _ _,rfl⟩ S2 (by exact fun U U=>rfl) fun fr2 H2 s3 q S3 K3=>zK q fun z0 z1=>?_;clear q;subst z0;subst z1
  refine zO ?_
  have ZI:=Z.wi [I]
  have R1:zQ (x'.wi [I]) (QY (.list (wds.map .str)) (aH st) (T0 I)) H2 (tx (zm qz 1) x'.env) (fun f fr1 H1=>f=.next∧fr1=V0 (.list (wds.map .str)) (aH st) (T0 I) (aH st)∧H1=H2):=by
   refine zc GF ?_
   refine zQ.if_ (x:=x'.wi [I]) (xe.is_tup (x:=x'.wi [I]) (m:=[.list (st.1.map .str),.bool st.2]) ⋯ (Z.base.K _ _ oU) (by show¬(yK "object" = yK "tuple");decide) ((yh ZI.fits 20).e _ _ _ _ ?_))
   refine(?_:(vF (Xa x.w.params) (x'.wi [I]) 20).e _ _ _ _)
   refine zw (mh ..) ⟨rfl,(yh ZI.fits 20).e _ _ _ _ ?_⟩
   refine(?_:(vF (Xa x.w.params) (x'.wi [I]) 20).e _ _ _ _)
   refine zw (mf ..) ⟨rfl,fun z=>(by exact fT z),fun U=>(yh ZI.fits 20).s _ _ _ _ ?_⟩
   refine(?_:(vF (Xa x.w.params) (x'.wi [I]) 20).s _ _ _ _)
   exact zw (me ..) ⟨rfl,rfl,rfl⟩
  refine R1 s3 S3 _ _ fun fl av fr1 H1 s4 q cf S4 K4=>yU q fun z0 z1 z2=>?_;clear q;subst z0;subst z1;subst z2
  cases cf
  refine zO (zc GE ?_)
  refine wpAny_For ((yh ZI.fits 20).e _ _ _ (fun a H1'=>a=T0 I∧H1'=H1) (by
   refine(?_:(vF (Xa x.w.params) (x'.wi [I]) 20).e _ _ _ _)
   refine zw (md ..) ?_;exact⟨rfl,rfl⟩) s4 S4 _ _ fun v a H3 s5 q c S5 K5=>?_) (fun U=>rfl)
  refine zK q fun z0 z1=>?_;clear q;subst z0;subst z1
  have hv:v=.ref I:=c s5.heap (.refl _ _)
  subst hv
  have nt:=S1.notTch n2
  have K35:Kept (x'.wi [I]) s2 s5:=K3.trans (K4.trans K5)
  have T20:=T2 [I] fun b hb=>by refine zc (zd.mp hb) ?_;exact n2
  have T5:It (x'.wi [I]) I (wds.map .str) s5.heap:=T20.mono (S2.nonMut K35) fun o e=>K35.keepN e nt (T20.obj o e)
  refine T5.self hh ?_
  refine Tn (x:=x') (S1.far n2) nt (S1.notOp n2) hk hw2 hh
   (J:=fun rest fr1 H1=>H1=H3∧∃st' wds',rest=wds'.map AV.str∧Ld st' wds'∧vQ st' wds'=vQ st wds∧(fr1=V0 (.list (wds.map .str)) (aH st) (T0 I) (aH st')∨∃e,fr1=XV (.list (wds.map .str)) (aH st) (T0 I) (aH st') e))
   (k:=fun f fr1 H1=>f=.next∧H1=H3∧(fr1=V0 (.list (wds.map .str)) (aH st) (T0 I) (aH (vQ st wds))∨∃e,fr1=XV (.list (wds.map .str)) (aH st) (T0 I) (aH (vQ st wds)) e))
   (fun a rest fr1 H1 hJ=>?_) (fun fr1 H1 hJ=>?_) S5 T5 ⟨rfl,st,wds,rfl,hok,rfl,.inl rfl⟩ fun fl a fr' H' s6 q cf S6 K6=>?_
  ·refine zK hJ fun z0 z1=>?_;clear hJ;subst z0;refine x7 z1 fun st' wds' hr ho hf hfr=>?_;clear z1
   cases wds' with
   |nil=>exact cN hr
   |cons wd wds' =>
    cases hr
    have hup:xp (za "element") (.str wd) fr1=XV (.list (wds.map .str)) (aH st) (T0 I) (aH st') (.str wd):=by
     rcases hfr with rfl|⟨e,rfl⟩
     ·exact mw _ _ _ _ _
     ·exact mt _ _ _ _ _ _
    refine zc hup ((yh ZI.fits 20).s _ _ _ _ ((?_:(vF (Xa x.w.params) (x'.wi [I]) 20).s _ _ _ _)))
    exact zw (sh ..) (⟨rfl,st'.1,st'.2,_,rfl,ho.1,rfl,_,_,rfl,ho.2,hf,.inr ⟨_,rfl⟩⟩)
  ·refine zK hJ fun z0 z1=>?_;clear hJ;subst z0;refine x7 z1 fun st' wds' hr ho hf hfr=>?_;clear z1
   cases wds' with
   |nil =>
    have hf:st'=vQ st wds:=hf
    exact xv hf ⟨rfl,rfl,hfr⟩
   |cons wd wds'=>exact nC hr
  ·refine yU q fun z0 z1 hfr=>?_;clear q;subst z0;subst z1
   cases cf
   have KK:Kept x' s s6:=K1.trans (KeptX.old X2 n2 ((KeptX.trans (x:=x') (Y:=[I]) ⟨K35.rest,fun b o e n U=>K35.keep b o e n⟩) K6))
   have fin:zQ x' fr' H' (xN [zm qz 3] x'.env) fun a U H1=>k (Wc a) H1:=by
    refine(yh Z.fits 20).s _ _ _ _ ((?_:(vF (Xa x.w.params) x' 20).s _ _ _ _))
    rcases hfr with rfl|⟨e,rfl⟩
    ·refine zw (ma ..) ?_;exact h
    ·refine zw (l9 ..) ?_;exact h
   exact fin s6 S6 _ _ fun fl a fr2 H2 s7 q cf S7 K7=>f fl a fr2 H2 s7 q cf S7 (KK.trans K7)
end
section
noncomputable def xJ(s:List Nat):List (List Nat)→List Nat
 |[]=>[]
 |[x]=>x
 |x::y::r=>x++s++xJ s (y::r)
theorem tM(a b:List Nat):tS a++tS b=tS (a++b):=Vc (by refine zc (Vd ..) ?_;simp)
theorem mG(x:Str):tS x.cps.toList=x:=by cases x;rfl
theorem aE(h:tS a=tS b):a=b:=by
 have:=congrArg (fun s:Str=>s.cps.toList) h
 simpa using this
theorem WQ(s:List Nat):∀ls:List (List Nat),Str.join (tS s) (ls.map tS)=tS (xJ s ls)
 |[]=>rfl
 |[x]=>rfl
 |x::y::r=>by
  show tS x++tS s++Str.join (tS s) ((y::r).map tS)=_
  (refine zc (WQ s (y::r)) ?_;rw[tM];refine zc (tM ..) ?_);rfl
theorem ZR(s:List Nat)(ls:List (List Nat)):wc (tS s) (ls.map tS)=tS (xJ s ls):=by
 unfold wc
 exact zc (e9 ..) (zc (WQ ..) rfl)
noncomputable def wM(c:Nat):List Nat→List (List Nat)
 |[]=>[[]]
 |k::r=>if k=c then[]::wM c r else(match wM c r with
  |[]=>[[k]]
  |p::q=>(k::p)::q)
theorem qX:wM c []=[[]]:=rfl
theorem v7:wM c (c::r)=[]::wM c r:=if_pos rfl
theorem w4(h:k≠c)(e:wM c r=p::q):wM c (k::r)=(k::p)::q:=(if_neg h).trans (by refine zc e ?_;rfl)
theorem VS:∀{p:List Nat},c∉p→wM c p=[p]:=by
 intro l0
 induction l0 with
 |nil =>
  intro _
  exact rfl
 |cons k r ih =>
  intro h
  exact w4 (fun e=>h (by refine zc e ?_;exact V5 ..)) ((ih fun m=>h (Wy _ m)))
theorem UV:∀{p:List Nat},c∉p→wM c (p++c::x)=p::wM c x:=by
 intro l0
 induction l0 with
 |nil =>
  intro _
  exact v7
 |cons k r ih =>
  intro h
  exact w4 (fun e=>h (by refine zc e ?_;exact V5 ..)) ((ih fun m=>h (Wy _ m)))
theorem YR:∀{ps:List (List Nat)},ps≠[]→(∀p∈ps,c∉p)→wM c (xJ [c] ps)=ps
 |[],h,_=>absurd rfl h
 |[p],_,hf=>VS (hf p (.head _))
 |p::q::r,_,hf=>by
  show wM c (p++[c]++xJ [c] (q::r))=_
  refine zc (zA ..) ?_
  show wM c (p++c::xJ [c] (q::r))=_
  exact zc (UV (hf p (.head _))) (zc (YR (by simp) fun a ha=>hf a (.tail _ ha)) rfl)
theorem qS(c:Nat)(l:List Nat):yy (tS l) (tS [c])=(wM c l).map tS:=by
 have h1:=lq (tS l) (tS [c])
 have h2:=lp (tS l) c
 have h3:=split_pos (tS l) (tS [c])
 change ∀p∈yy (tS l) (tS [c]),_ at h2
 generalize yy (tS l) (tS [c])=ps at h1 h2 h3
 have e:(ps.map fun p=>p.cps.toList).map tS=ps:=by
  refine zc yp ?_
  have:(tS ∘ fun p:Str=>p.cps.toList)=id:=funext mG
  exact zc this (zc (Wz ..) rfl)
 rw[←e,WQ]at h1
 have h4:=aE h1
 refine xv h4 ?_;rw[YR];exact zc e rfl
 ·intro z
  have:=congrArg xH z
  rw[zj]at this
  simp at this
  rw[this]at h3
  exact absurd h3 (by decide)
 ·intro p hp
  refine zt (zB.mp hp) fun q hq z2=>?_;subst z2
  exact h2 q hq
noncomputable def UR(c:Nat)(z:List Nat)(l:List Nat):List Nat:=l.flatMap fun k=>if k=c then z else[k]
theorem QG:∀{l:List Nat},c∉l→UR c z l=l:=by
 intro l0
 induction l0 with
 |nil =>
  intro _
  exact rfl
 |cons k r ih =>
  intro h
  unfold UR
  refine zc y0 (zc (if_neg fun e:k=c=>h (by rw[e];exact V5 ..)) ?_)
  have:=(ih fun m=>h (Wy _ m))
  unfold UR at this
  refine zc this ?_;rfl
theorem QF:∀{ps:List (List Nat)},(∀p∈ps,c∉p)→UR c z (xJ [c] ps)=xJ z ps
 |[],_=>rfl
 |[p],hf=>QG (hf p (.head _))
 |p::q::r,hf=>by
  show UR c z (p++[c]++xJ [c] (q::r))=_
  have h1:=QG (z:=z) (hf p (.head _))
  have h2:=QF (z:=z) (ps:=q::r) fun a ha=>hf a (.tail _ ha)
  unfold UR at h1 h2 ⊢
  refine zc Vk (zc Vk (zc h1 (zc h2 ?_)))
  show p++([c].flatMap fun k=>if k=c then z else[k])++_=_
  refine zc (show([c].flatMap fun k=>if k=c then z else[k])=z by simp) ?_;rfl
theorem VP(c:Nat)(z l:List Nat):x4 (tS l) (tS [c]) (tS z)=tS (UR c z l):=by
 have h1:=StrLaws.replace_one (tS l) (tS z) c
 change x4 (tS l) (tS [c]) (tS z)=Str.join (tS z) (yy (tS l) (tS [c]))at h1
 refine zc h1 (zc (qS ..) (zc (WQ ..) ?_))
 congr 1
 have hj:=lq (tS l) (tS [c])
 have hf:=lp (tS l) c
 change ∀p∈yy (tS l) (tS [c]),_ at hf
 rw[qS]at hj hf
 rw[WQ]at hj
 have hj:=aE hj
 exact xv (QF (z:=z) fun p hp=>by simpa using hf (tS p) (we hp)) (zc hj rfl)
end
section
noncomputable def W4:List Nat:=32::34::39::92::vT
theorem fM(h:c∈vT):c≠32∧c≠34∧c≠39∧c≠92:=(by decide +kernel:∀c∈vT,c≠32∧c≠34∧c≠39∧c≠92) c h
theorem m5(h:c∈W4)(hs:uM c=true):c∈vT:=by
 unfold W4 at h
 simp only[zn]at h
 rcases h with rfl|rfl|rfl|rfl|h
 ·exact absurd hs (by decide)
 ·exact absurd hs (by decide)
 ·exact absurd hs (by decide)
 ·exact absurd hs (by decide)
 ·exact h
section
variable {q:Bool} {t r:List Nat} {c:Nat}
theorem hG(h:c∈vT):yx .wd q t (c::r)=yx .wd q (t++[c]) r:=by
 refine Qi (fM h) fun h1 h2 h3 h4=>?_
 rw[Yk,if_neg h1,if_neg h4,if_neg h3,if_neg h2,if_pos h]
theorem aJ(h:c∈vT):yx .sp q t (c::r)=yx .wd q [c] r:=by
 refine Qi (fM h) fun h1 h2 h3 h4=>?_
 rw[WM,if_neg h1,if_neg h4,if_neg h3,if_neg h2,if_pos h]
theorem fj:∀{x:List Nat} {t:List Nat},(∀c∈x,c∈vT)→yx .wd q t (x++r)=yx .wd q (t++x) r:=by
 intro l0
 induction l0 with
 |nil =>
  intro t _
  refine zc (yB ..) ?_;rfl
 |cons c x ih =>
  intro t h
  refine(?_:yx .wd q t (c::(x++r))=_)
  refine zc (hG (h c (.head _))) (zc ((ih fun a ha=>h a (.tail _ ha))) (zc (zA ..) ?_));rfl
theorem sY(h:c∈32::34::92::vT)(hne:c≠39):yx .s1 q t (c::r)=yx .s1 true (t++[c]) r:=by rw[UB,if_neg hne,if_pos h]
theorem aX:yx .s1 q t (39::r)=yx .wd true t r:=by(rw[UB];exact zc (if_pos rfl) rfl)
theorem DR:yx .wd q t (39::r)=yx .s1 q t r:=by(rw[Yk];exact zc (if_neg (by decide)) (zc (if_neg (by decide)) (zc (if_pos rfl) rfl)))
theorem lY:yx .wd q t (34::r)=yx .s2 q t r:=by(rw[Yk];exact zc (if_neg (by decide)) (zc (if_neg (by decide)) (zc (if_neg (by decide)) (zc (if_pos rfl) rfl))))
theorem DW:yx .wd q t (92::r)=yx .bs q t r:=by(rw[Yk];exact zc (if_neg (by decide)) (zc (if_pos rfl) rfl))
theorem iq:yx .s2 q t (34::r)=yx .wd true t r:=by(rw[UA];exact zc (if_pos rfl) rfl)
theorem im(h:c∈32::39::vT)(hne:c≠34):yx .s2 q t (c::r)=yx .s2 true (t++[c]) r:=by rw[UA,if_neg hne,if_pos h]
theorem BJ(h:c∈32::34::39::92::vT):yx .bs q t (c::r)=yx .wd q (t++[c]) r:=by rw[bu,if_pos h]
theorem mS:yx .sp q t (39::r)=yx .s1 q t r:=by(rw[WM];exact zc (if_neg (by decide)) (zc (if_neg (by decide)) (zc (if_pos rfl) rfl)))
theorem jP:yx .s1 q t (39::34::39::34::39::r)=yx .s1 true (t++[39]) r:=by
 rw[aX,lY,im (by decide) (by decide),iq];exact zc DR rfl
end
noncomputable def WG(l:List Nat):List Nat:=UR 39 [39,34,39,34,39] l
theorem Ey:∀{x:List Nat} {q:Bool} {t:List Nat},(∀c∈x,c∈W4)→yx .s1 q t (WG x++39::r)=yx .wd true (t++x) r:=by
 intro l0
 induction l0 with
 |nil =>
  intro q t _
  refine zc (yB ..) ?_;exact aX
 |cons c x ih =>
  intro q t h
  have hx:=fun a ha=>h a (.tail _ ha)
  by_cases e:c=39
  ·subst e
   refine(?_:yx .s1 q t (39::34::39::34::39::(WG x++39::r))=_)
   refine zc jP (zc ((ih hx)) (zc (zA ..) ?_));rfl
  ·have:WG (c::x)=c::WG x:=by unfold WG UR;refine zc y0 (zc (if_neg e) ?_);rfl
   refine zc this ((?_:yx .s1 q t (c::(WG x++39::r))=_))
   have hc:=h c (.head _)
   unfold W4 at hc
   refine zc (sY (by
    rcases zn.mp hc with h|hc
    ·rw[h];exact .head _
    rcases zn.mp hc with h|hc
    ·rw[h];exact .tail _ (.head _)
    rcases zn.mp hc with h|hc
    ·exact absurd h e
    exact .tail _ (.tail _ hc)) e) (zc ((ih hx)) (zc (zA ..) ?_));rfl
noncomputable def Z9(w:List Nat):List Nat:=if w=[]then[39,39]else if w.all uM=true then w else 39::(WG w++[39])
def eN(x w:List Nat):Prop:=∀tail,(tail=[]→∃q,(q=true∨w≠[])∧yx .sp false [] (x++tail)=some (q,w,[],true))∧∀r,tail=32::r→∃q,(q=true∨w≠[])∧yx .sp false [] (x++tail)=some (q,w,r,false)
theorem YV(hq:q=true∨w≠[])(h:∀tail,yx .sp false [] (x++tail)=yx .wd q w tail):eN x w:=fun tail=>by
 refine⟨fun e=>⟨q,hq,?_⟩,fun r e=>⟨q,hq,?_⟩⟩
 ·refine zc (h ..) (zc e ?_);rfl
 ·rw[h,e,Yk,if_pos rfl,if_pos (hq.symm)]
theorem dD(h:∀c∈w,c∈W4):eN (Z9 w) w:=by
 unfold Z9
 by_cases e:w=[]
 ·refine zc (if_pos e) (zc e ?_)
  exact YV (.inl rfl) fun tail=>by
   refine(?_:yx .sp false [] (39::39::tail)=_)
   rw[mS];exact zc aX rfl
 ·refine zc (if_neg e) ?_
  by_cases hs:w.all uM=true
  ·refine zc (if_pos hs) ?_
   have ho:∀c∈w,c∈vT:=fun c hc=>m5 (h c hc) (zJ.mp hs c hc)
   cases w with
   |nil=>exact absurd rfl e
   |cons c w =>
    exact YV (q:=false) (.inr e) fun tail=>by
     refine(?_:yx .sp false [] (c::(w++tail))=_)
     refine zc (aJ (ho c (.head _))) (zc (fj fun a ha=>ho a (.tail _ ha)) ?_);rfl
  ·refine zc (if_neg hs) ?_
   exact YV (.inl rfl) fun tail=>by
    refine(?_:yx .sp false [] (39::(WG w++[39]++tail))=_)
    refine zc mS (zc (zA ..) ?_)
    refine(?_:yx .s1 false [] (WG w++39::tail)=_)
    refine zc (Ey h) ?_;rfl
theorem jH:∀{n:Nat},yx .sp false [] (wa n 32++r)=yx .sp false [] r:=by
 intro l0
 induction l0 with
 |zero =>
  exact rfl
 |succ n ih =>
  refine(?_:yx .sp false [] (32::(wa n 32++r))=_)
  rw[WM,if_pos rfl,if_pos ⟨rfl,rfl⟩,ih]
theorem T9:vh m (wa n 32++r)=vh m r:=by
 cases m with
 |zero=>rfl
 |succ m=>exact zc YW (zc jH rfl)
theorem YX:∀{ps:List (List Nat×List Nat)},(∀p∈ps,eN p.1 p.2)→vh (ps.length+1) (xJ (wa (n+1) 32) (ps.map (·.1)))=some (ps.map (·.2))
 |[],_=>rfl
 |[p],h=>by
  refine zt ((h p (.head _) []).1 rfl) fun q hq e=>?_
  rw[yB]at e
  refine(?_:vh 2 p.1=some [p.2])
  refine zc YW (zc e ?_)
  dsimp only[rM]
  exact zc (if_neg fun z=>by
   rcases hq with hq|hq
   ·rw[hq]at z;exact absurd z.1 (by decide)
   ·exact hq z.2) (zc (if_pos rfl) rfl)
 |p::p'::ps,h=>by
  have ih:=YX (n:=n) (ps:=p'::ps) fun a ha=>h a (.tail _ ha)
  refine zt ((h p (.head _) (32::(wa n 32++xJ (wa (n+1) 32) ((p'::ps).map (·.1))))).2 _ rfl) fun q hq e=>(?_:vh ((p'::ps).length+1+1) (p.1++wa (n+1) 32++xJ (wa (n+1) 32) ((p'::ps).map (·.1)))=_)
  refine zc (zA ..) ((?_:vh _ (p.1++(32::(wa n 32++xJ (wa (n+1) 32) ((p'::ps).map (·.1)))))=_))
  refine zc YW (zc e ?_)
  dsimp only[rM]
  refine zc (if_neg fun z=>by
   rcases hq with hq|hq
   ·rw[hq]at z;exact absurd z.1 (by decide)
   ·exact hq z.2) (zc (if_neg (by decide)) (zc T9 (zc ih ?_)))
  rfl
theorem ng(w:List Nat):wN (tS w)=tS (Z9 w):=by
 unfold wN Z9
 by_cases e:w=[]
 ·subst e;rfl
 ·have hl:¬(tS w).length=0:=by refine zc (v0 ..) ?_;exact fun z=>e (vP z)
  refine zc (if_neg hl) (zc (if_neg e) ?_)
  refine(?_:(if w.toArray.toList.all uM=true then _ else _)=_)
  refine zc (show w.toArray.toList=w from rfl) ?_
  split
  ·rfl
  ·have h1:YB=tS [39]:=rfl
   have h2:Xw=tS [39,34,39,34,39]:=rfl
   refine zc h1 (zc h2 (zc (VP ..) ?_));rw[tM];refine zc (tM ..) ?_
   rfl
end
section
theorem ZB:∀{a b:List Nat},(∀c∈a,p c=true)→(∀c∈b,p c=false)→(a++b).takeWhile p=a
 |[],[],_,_=>rfl
 |[],c::b,_,h=>by show(c::b).takeWhile p=[];refine zc rx (zc (h c (.head _)) ?_);rfl
 |c::a,b,h1,h2=>by
  show(c::(a++b)).takeWhile p=_
  exact zc rx (zc (h1 c (.head _)) (zc (if_pos rfl) (zc (ZB (fun d hd=>h1 d (.tail _ hd)) h2) rfl)))
theorem QE(h1:∀c∈a,u9 c=true)(h2:∀c∈b,u9 c=false):qO (tS (a++b))=tS b:=by
 unfold qO
 refine zc (PyProof.Rows.stripBy_eq ..) ?_
 have hlo:stripLo u9 true (tS (a++b))=a.length:=by
  unfold stripLo
  refine zc (if_pos rfl) ?_
  show((a++b).takeWhile _).length=_
  exact zc (ZB h1 h2) rfl
 have hhi:stripHi u9 true (tS (a++b)) a.length=(a++b).length:=by
  unfold stripHi
  refine zc (if_pos rfl) ?_
  show(tS (a++b)).length-((((a++b).drop a.length).reverse).takeWhile _).length=_
  refine zc (v0 ..) (zc Ht ?_)
  have:=ZB (p:=u9) (a:=[]) (b:=b.reverse) (by simp) (fun c hc=>h2 c (xU.mp hc))
  rw[wh]at this
  refine zc this ?_;rfl
 refine zc hlo (zc hhi ?_)
 apply Vc
 apply CD.mp
 refine zc (StrLaws.strSub_toList ..) ?_
 show((a++b).drop a.length).take _=b
 exact zc Ht (zc (x9 (by simp)) rfl)
noncomputable def nI:Nat→List Nat
 |0=>[97]
 |1=>[98]
 |2=>[97,98]
 |_=>[]
theorem Am:∀n:Nat,VU n=tS (nI n)
 |0=>rfl
 |1=>rfl
 |2=>rfl
 |_+3=>rfl
noncomputable def Vs(i:Int):List (List Nat):=(zT (1+i.fmod 3).toNat).map fun j=>nI (((i.fdiv 3).fdiv ((4:Int)^j)).fmod 4).toNat
noncomputable def Ta(i:Int):List Nat:=xJ [46] (Vs i)
noncomputable def ZF(i:Int):List (List Nat):=Ta (i.fdiv 8)::(if((i.fdiv 4).fmod 2==1)=true then[Ta ((i.fdiv 8).fdiv 192)]else[])
theorem n8(i:Int):VV i=(Vs i).map tS:=by
 unfold VV Vs
 exact zc yp (yT fun j U=>Am _)
theorem dw(i:Int):XT i=tS (Ta i):=by
 unfold XT Ta
 exact zc (n8 ..) (zc (show za "." = tS [46] from rfl) (zc (ZR ..) rfl))
theorem Vq(i:Int):vw i=(ZF i).map tS:=by
 unfold vw ZF
 refine zc (dw ..) (zc (dw ..) ?_)
 split<;>rfl
theorem j8(i:Int):Yg i=tS (xJ [44,32] (ZF i)):=by
 unfold Yg
 exact zc (Vq ..) (zc (show za ", " = tS [44,32] from rfl) (zc (ZR ..) rfl))
noncomputable def ZX:List Nat:=[45,45,105,103,110,111,114,101,45,109,111,100,117,108,101]
noncomputable def lW(y:List Nat):Nat→List (List Nat)
 |0=>[ZX,y]
 |1=>[ZX++61::y]
 |2=>[ZX++115::61::y]
 |_=>[[105,116,39,115,32,45,99]]
noncomputable def X7(i:Int):List (List Nat):=lW (xJ [44,32] (ZF i)) (i.fmod 4).toNat
theorem lV(y:List Nat):∀n,lX (tS y) n=(lW y n).map tS
 |0=>rfl
 |1=>by
  show[za "--ignore-module=" ++ tS y]=[tS (ZX++61::y)]
  (refine zc (show za "--ignore-module=" = tS (ZX++[61]) from rfl) (zc (tM ..) ?_);rw[zA]);rfl
 |2=>by
  show[za "--ignore-modules=" ++ tS y]=[tS (ZX++115::61::y)]
  (refine zc (show za "--ignore-modules=" = tS (ZX++[115,61]) from rfl) (zc (tM ..) ?_);rw[zA]);rfl
 |_+3=>rfl
theorem Qz(i:Int):uY i=(X7 i).map tS:=by
 unfold uY X7
 exact zc (j8 ..) (zc (lV ..) rfl)
structure IsName(n:List Nat):Prop where
 parts:∃ps:List (List Nat),ps≠[]∧n=xJ [46] ps∧∀p∈ps,∀c∈p,c=97∨c=98
theorem nH(n:Nat):∀c∈nI n,c=97∨c=98:=by
 cases n with
 |zero=>exact fun c h=>.inl (zd.mp h)
 |succ n=>cases n with
  |zero=>exact fun c h=>.inr (zd.mp h)
  |succ n=>cases n with
   |zero=>exact fun c h=>(zn.mp h).imp id zd.mp
   |succ n=>exact fun c h=>mN h
theorem dv(i:Int):IsName (Ta i):=⟨Vs i,by
 have:0≤i.fmod 3:=wT _ (by decide)
 unfold Vs
 intro z
 have:=congrArg xH z
 rw[zj,yM]at this
 simp at this
 omega,rfl,fun p hp=>by
 unfold Vs at hp
 refine zt (zB.mp hp) fun j z1 z2=>?_;clear z1;subst z2
 exact nH _⟩
theorem Vp(i:Int):∀n∈ZF i,IsName n:=fun n hn=>by
 unfold ZF at hn
 rcases zn.mp hn with rfl|hn
 ·exact dv _
 ·split at hn
  ·refine zc (zd.mp hn) ?_;exact dv _
  ·cases hn
theorem Vz:∀{ps:List (List Nat)},c∈xJ s ps→c∈s∨∃p∈ps,c∈p
 |[],h=>by cases h
 |[p],h=>.inr ⟨p,.head _,h⟩
 |p::q::r,h=>by
  rcases zv.mp h with h|h
  ·rcases zv.mp h with h|h
   ·exact .inr ⟨p,.head _,h⟩
   ·exact .inl h
  ·rcases Vz (ps:=q::r) h with h|⟨a,ha,hc⟩
   ·exact .inl h
   ·exact .inr ⟨a,.tail _ ha,hc⟩
theorem IsName.signs(h:IsName n):∀c∈n,c=97∨c=98∨c=46:=fun c hc=>by
 obtain⟨ps,-,rfl,hp⟩:=h
 rcases Vz hc with h|⟨p,hm,h⟩
 ·refine zc (zd.mp h) ?_;exact .inr (.inr rfl)
 ·rcases hp p hm c h with h|h
  ·exact .inl h
  ·exact .inr (.inl h)
theorem IsName.noSpace(h:IsName n):∀c∈n,u9 c=false:=fun c hc=>by
 rcases h.signs c hc with rfl|rfl|rfl<;>decide +kernel
end
section
set_option tactic.hygienic true
section
variable {prog:uW} {w:ya} {K:Type} [DecidableEq K] {knd:PySem.KeyKind prog w K} {A:y1} {E:zi→zg→Prop} {s:zg}
inductive SetQ(knd:PySem.KeyKind prog w K)(h:xO)(a:zI)(S:K→Bool)(n:Nat):Prop
 |mk (o:xK) (es:Array (Int×Value)) (ep:Nat) (t:uE) (_:h.get? a=some o) (_:o.ExactSet) (_:o.data=.set es ep t) (_:jq knd es.toList) (_:∀k,S k=true↔∃e∈es.toList,knd.is k e.2=true)
  (_:es.size<scanBound) (_:t.fits es.size=true) (_:es.size=n) (_:es.size=0∨t.plain=false):SetQ knd h a S n
theorem SetQ.of(x:SetQ knd h a S n):h.SetOf knd a S n:=
 x.rec fun o es ep t a b c d e f g h _=>⟨o,es,ep,t,a,b,c,d,e,f,g,h⟩
theorem SetQ.at(x:SetQ knd h a S n)(k:∀o,h.get? a=some o→o.ExactSet→h'.get? a=some o):SetQ knd h' a S n:=
 x.rec fun o es ep t a b c d e f g h i=>⟨o,es,ep,t,k _ a b,b,c,d,e,f,g,h,i⟩
theorem AJ(t:uE)(es:Array (Int×Value))(h:Int)(x:zi):t.plain=false→(layNew t es h x).2.1.plain=false:=fun e=>by
 unfold layNew
 split
 ·dsimp only
  unfold SetTable.orStandIn
  split
  ·exact e
  ·rfl
 ·rfl
theorem U1(t:uE)(es:Array (Int×Value))(n:Nat)(e:t.plain=false):(b5 t es n).2.1.plain=false:=by
 unfold b5
 split
 ·rename_i t' order h
  dsimp only
  split
  ·unfold SetTable.relaid SetTable.laid at h
   rw[Option.bind_eq_bind,zl]at h
   obtain⟨owner,-,h⟩:=h
   cases h
   exact e
  ·rfl
 ·rfl
end
end
section
section
variable {prog:uW} {w:ya} {K:Type} [DecidableEq K] {knd:PySem.KeyKind prog w K} {A:y1} {E:zi→zg→Prop} {s:zg}
theorem TH{h:xO}{a:zI}{o:xK}{es:Array (Int×Value)}{ep:Nat}{t:uE}(ho:h.get? a=some o)(hex:o.ExactSet)(hd:o.data=.set es ep t){es':Array (Int×Value)}{t':uE}{S':K→Bool}(hel:jq knd es'.toList)(hmem:∀k,S' k=true↔∃e∈es'.toList,knd.is k e.2=true)(hb:es'.size<scanBound)(hf:t'.fits es'.size=true)(hp:t'.plain=false):
  (h.update a (Cy es' t')).get? a=some {o with data:=.set es' (ep+1) t'}∧SetQ knd (h.update a (Cy es' t')) a S' es'.size:=by
 refine zK (SetOf_store (knd:=knd) ho hex hd hel hmem hb hf) fun hg z1=>?_;clear z1
 exact⟨hg,_,es',ep+1,t',hg,hex,rfl,hel,hmem,hb,hf,rfl,.inr hp⟩
theorem eM{g:Bool→VL Unit}(hg:∀(b:Bool) (s₁:zg) (Q':Unit→zg→Prop),Q' () s₁→zr (zu prog w) A (g b) Q' E s₁){a:zI}{o:xK}{es:Array (Int×Value)}{ep:Nat}{t:uE}(ho:s.heap.get? a=some o)(hex:o.ExactSet)(hd:o.data=.set es ep t){es1:Array (Int×Value)}{t2:uE}{S':K→Bool}(hel1:jq knd es1.toList)(hmem1:∀k',S' k'=true↔∃e∈es1.toList,knd.is k' e.2=true)(hb1:es1.size<scanBound)(hf2:t2.fits es1.size=true)(hp2:t2.plain=false){wasDummy:Bool}{R:Option Bool→zg→Prop}(h:∀h',yo a s.heap h'→SetQ knd h' a S' es1.size→R (some true) {s with heap:=h'}):
  zr (zu prog w) A (do
    storeSet a es1 t2
    if(!wasDummy&&t2.tooFull)=true then do
      g (b5 t2 es1 (uf es1.size)).2.2
      storeSet a (b5 t2 es1 (uf es1.size)).1 (b5 t2 es1 (uf es1.size)).2.1
      pure (some true)
     else pure (some true)) R E s:=by
 refine zb (wpAny_storeSet_of ho hd ?_ (fits_of_scanBound hb1))
 refine zK (TH (knd:=knd) ho hex hd hel1 hmem1 hb1 hf2 hp2) fun ho1 hS1=>?_
 have hsb1:=zW s.heap a (Cy es1 t2)
 split
 ·have hp:=relayAll_perm t2 es1 (uf es1.size)
  have hfr:=relayAll_fits t2 es1 (uf es1.size)
  have hpp:=U1 t2 es1 (uf es1.size) hp2
  generalize b5 t2 es1 (uf es1.size)=Rl at hp hfr hpp ⊢
  obtain⟨es2,t3,gave2⟩:=Rl
  have hel2:jq knd es2.toList:=hel1.perm hp
  have hmem2:∀k',S' k'=true↔∃e∈es2.toList,knd.is k' e.2=true:=fun k'=>(hmem1 k').trans ⟨fun⟨e,he,q⟩=>⟨e,hp.mem_iff.mpr he,q⟩,fun⟨e,he,q⟩=>⟨e,hp.mem_iff.mp he,q⟩⟩
  have hsz:es2.size=es1.size:=by exact xv yS (zc hp.length_eq (zc yS rfl))
  have hb2:es2.size<scanBound:=by refine zc hsz ?_;exact hb1
  refine zb (hg _ _ _ ?_)
  refine zb (wpAny_storeSet_of ho1 rfl ?_ (fits_of_scanBound hb2))
  refine zK (TH (knd:=knd) ho1 hex rfl hel2 hmem2 hb2 hfr hpp) fun U hS2=>?_
  rw[hsz]at hS2
  exact wpAny_pure (h _ (hsb1.trans (zW _ a _)) hS2)
 ·exact wpAny_pure (h _ hsb1 hS1)
theorem Ng(hkey:knd.is k x=true)(hsc:x.scannable=true)(hpl:plainKind x=false)(hS:SetQ knd s.heap a S n)(hroom:n+1<scanBound)(h:∀h',yo a s.heap h'→SetQ knd h' a (fun k'=>S k'||decide (k'=k)) (if S k then n else n+1)→Q (!S k) {s with heap:=h'}):
  zr (zu prog w) A (setAddHashed a x (knd.hash k)) Q E s:=by
 obtain⟨o,es,ep,t,ho,hex,hd,hel,hmem,hb,hf,hn,hz⟩:=hS
 have hb1:es.size+1<scanBound:=by refine zc hn ?_;exact hroom
 refine zV (zb (wR ho hd hf ?_))
 dsimp only
 refine zc (byScan_of hsc hb hel) ?_
 simp only[↓reduceIte]
 refine zb (zb (wpAny_rule ?_))
 refine zb (wpAny_setScan_of hkey ho hd hf hel ?_)
 cases hr:List.findIdx? (fun e=>knd.is k e.2) es.toList with
 |some j =>
  refine zt (List.findIdx?_eq_some_iff_getElem.mp hr) fun hj hpj U=>?_
  have hSk:S k=true:=(hmem k).mpr ⟨es.toList[j],YL hj,hpj⟩
  refine wpAny_pure (wpAny_pure ?_)
  have e:s={s with heap:=s.heap}:=by cases s;rfl
  have:=h s.heap (Heap.SameBut.refl a s.heap) ⟨o,es,ep,t,ho,hex,hd,hel,fun k'=>by
   rw[wj,decide_eq_true_eq,←hmem k']
   exact⟨fun hk=>hk.elim id (fun e=>e▸hSk),.inl⟩,hb,hf,by rw[hSk];exact hn,hz⟩
  rw[hSk]at this;refine zc e ?_;exact this
 |none =>
  have hSk:S k=false:=by
   cases hk:S k with
   |false=>rfl
   |true=>refine zt ((hmem k).mp hk) fun e he hp=>?_;have:=List.findIdx?_eq_none_iff.mp hr e he;rw[hp]at this;exact Bool.noConfusion this
  have hgw:∀(b:Bool) {s₁:zg} {Q':Unit→zg→Prop},Q' () s₁→zr (zu prog w) A (match b with|true=>rule "set.scan.the-table-gave-way" |false=>pure ()) Q' E s₁:=
   fun b s₁ Q' hq=>by cases b<;>first|exact wpAny_pure hq|exact wpAny_rule hq
  have hperm:=layNew_perm t es (knd.hash k) x
  have hfits:=layNew_fits t es (knd.hash k) x
  generalize layNew t es (knd.hash k) x=L at hperm hfits ⊢
  obtain⟨es1,t1,wasDummy,gave⟩:=L
  dsimp only at hperm hfits ⊢
  rw[rR]at hperm
  have hel1:jq knd es1.toList:=(hel.push hkey hsc).perm hperm
  have hmem1:∀k',(S k'||decide (k'=k))=true↔∃e∈es1.toList,knd.is k' e.2=true:=mem_push_iff hkey hmem hperm
  have hb1':es1.size<scanBound:=by refine xv yS (zc hperm.length_eq (zc zG (zc yS ?_)));exact hb1
  refine zb (hgw _ ?_)
  have hsz1:es1.size=n+1:=by refine xv yS (zc hperm.length_eq (zc zG (zc yS (zc hn ?_))));rfl
  have hend:∀h',yo a s.heap h'→SetQ knd h' a (fun k'=>S k'||decide (k'=k)) es1.size→Q true {s with heap:=h'}:=by
   intro h' hsb hS';have:=h h' hsb;rw[hSk]at this;rw[hsz1]at hS';exact this hS'
  split
  ·refine zb (zc (hashByValue_scannable 8 hsc) (zc hpl ?_))
   refine wpAny_pure (eM ?_ ho hex hd hel1 hmem1 hb1' ?_ ?_ ?_)
   ·intro b s₁ Q' hq;cases b<;>first|exact wpAny_pure hq|exact wpAny_rule hq
   ·refine zc (if_neg (by decide)) ?_;exact SetTable.fits_plain_off hfits
   ·exact zc (if_neg (by decide)) rfl
   ·intro h' hsb hS';dsimp only;exact wpAny_pure (hend h' hsb hS')
  ·rename_i hpt
   refine zb (wpAny_pure ?_)
   refine eM ?_ ho hex hd hel1 hmem1 hb1' ?_ ?_ ?_
   ·intro b s₁ Q' hq;cases b<;>first|exact wpAny_pure hq|exact wpAny_rule hq
   ·refine zc (if_pos rfl) ?_;exact hfits
   ·refine zc (if_pos rfl) ?_;simpa using hpt
   ·intro h' hsb hS';dsimp only;exact wpAny_pure (hend h' hsb hS')
end
end
section
section
variable {prog:uW} {w:ya} {A:y1} {E:zi→zg→Prop} {s:zg}
theorem UQ(v:zi):checkTypeCall "set" ⟨[v],[]⟩=pure ():=⋯
theorem T7(v:zi):tz "set.__new__" ⟨[.type "set",v],[]⟩=pure ():=⋯
theorem Qm(h:∀led:Bool,Q₁ (.ref s.heap.objs.size) {s with heap:=s.heap.push {cls:=.type "set",dict:=none,data:=.set #[] 0 (.fresh 0 0 led)}}):
  y4 (zu prog w) A (.call (.builtin "set.__new__") ⟨[.type "set",v],[]⟩) (G1 Q₁ E) s:=by
 refine xZ ?_
 refine(?_:zr _ A.in1 (do tz "set.__new__" ⟨[.type "set",v],[]⟩;again (.builtin "set.__new__" ⟨[.type "set",v],[]⟩)) _ _ s)
 refine zb (x8 (T7 v) (wpAny_pure ⟨plainId_quiet F.plain_set_new _,codeAny_builtin F.entry_set_new ?_⟩))
 refine zc (vk F.plain_set_new _) ?_
 unfold Builtin.«set.__new__» G7
 have hsub:=sub_set_self
 obtain⟨hp,g,d,tk,os⟩:=s
 wp_walk
 refine vU (wpAny_pure ?_)
 dsimp only
 refine zb (Ue (wpAny_pure ?_))
 exact wpAny_pure (h _)
theorem V9(hT:s.TypeIs self "set")(hQ:Q () s):
  zr M A (tz "set.__init__" ⟨[self,v],[]⟩) Q E s:=by
 refine zb (eQ hT sub_set_self ?_)
 unfold Bind.checkArgs
 dsimp only
 refine zb (m:=Bind.printed "set" true _ _) (PyProof.Rows.printed_name (by decide) ?_)
 refine zb (m:=Bind.printed "*" false _ _) (PyProof.Rows.printed_star (self:=self) rfl hT fun short=>?_)
 have hrn:(VM==VN)=false:=by decide
 have hn:(if(VM==VN)=true then[self,v].length else[self,v].length-1)=1:=by simp[hrn]
 refine zc hn ?_
 have hc:Bind.check ⟨.positional, "set", "*",.self,[⟨"iterable",.posOnly,false⟩]⟩ "set" short 1 []=pure ():=⋯
 exact zc hc (wpAny_pure hQ)
end
noncomputable abbrev knd(w:ya):PySem.KeyKind pw w Str:=PySem.strKind pw w
theorem QB:YG lb "set.update.loop" = some Builtin.«set.update.loop»:=vW ⋯
theorem Vm:plainId "set.update.loop" = true:=by decide +kernel
theorem mo(ha:a∈y.ρ.op)(F:Far y I)(nt:¬uG y I)(no:I∉y.ρ.op)(Fa:Far y a)(na:¬uG y a)(hh:A.handled=none):
  ∀(l:List Str) {s:zg} {S:Str→Bool} {n:Nat},St (y.wi [I]) fr H s→It (y.wi [I]) I (l.map .str) s.heap→SetQ (knd y.w) s.heap a S n→n+l.length+1<scanBound →
   ∀R:Zr→zg→Prop,(∀s' n',St y fr H s'→SetQ (knd y.w) s'.heap a (fun k=>S k||l.contains k) n'→KeptX y [I,a] s s'→R (.ok (.ret .none)) s') →
    y4 (zu pw y.w) A (.builtin "set.update.loop" ⟨[.ref a,.ref I],[]⟩) R s:=by
 intro l0
 induction l0 with
 |nil =>
  intro s S n hS T hQ hn R g
  have ne:a≠I:=fun z=>no (z▸ha)
  refine codeAny_builtin QB (zc (vk Vm _) (zb (T.last (A:=A.in1) hh fun h' tk kk=>wpAny_pure ?_)))
  refine g _ n (hS.drop F nt no kk) ?_ ⟨⟨_,_,_,rfl⟩,fun b o e U m=>⟨o,kk b o (fun z=>m (by refine zc z ?_;exact .head _)) e,.refl o⟩⟩
  simp only[List.contains_nil,Bool.or_false]
  exact hQ.at fun o ho U=>kk a o ne ho
 |cons k l ih =>
  intro s S n hS T hQ hn R g
  have ne:a≠I:=fun z=>no (z▸ha)
  have hop:I∈(y.wi [I]).ρ.op:=xV _ (.head _)
  have hopa:a∈(y.wi [I]).ρ.op:=zD _ ha
  rw[zS]at hn
  refine codeAny_builtin QB (zc (vk Vm _) (zb (T.next (A:=A.in1) hop hh fun v h' tk cv T1 kk ex=>?_)))
  have F':Far (y.wi [I]) I:=⟨F.lo,F.ce,F.de,F.ob,F.ba,F.st,F.fr⟩
  have Fa':Far (y.wi [I]) a:=⟨Fa.lo,Fa.ce,Fa.de,Fa.ob,Fa.ba,Fa.st,Fa.fr⟩
  have S1:St (y.wi [I]) fr H {s with heap:=h',toks:=tk}:=hS.other hop F' nt kk ex
  refine yf (xm cv) fun t z1=>?_;subst z1
  have hQ1:SetQ (knd y.w) h' a S n:=hQ.at fun o ho U=>kk a o ne ho
  have hkey:(knd y.w).is k (.str k t)=true:=by show vZ k (.str k t)=true;unfold vZ;simp
  refine zb (zV ?_)
  refine zV (zb ((knd y.w).pyHash hkey ?_))
  refine Ng (s:={s with heap:=h',toks:=tk+1}) hkey rfl rfl hQ1 (zN 0x61131137050026113502 [n,scanBound,l.length] hn rfl) fun h2 sb hQ2=>wpAny_pure ⟨plainId_quiet Vm _,?_⟩
  have k2:∀b o,b≠a→h'.get? b=some o→h2.get? b=some o:=fun b o n e=>by refine zc (sb.2 b n) ?_;exact e
  have S2:St (y.wi [I]) fr H {s with heap:=h2,toks:=tk+1}:=S1.other hopa Fa' na k2 (by obtain⟨o,es,ep,tt,ho,r⟩:=hQ2;exact⟨o,ho⟩)
  have T2:It (y.wi [I]) I (l.map .str) h2:=T1.mono (fun b o m e U=>k2 b o (fun z=>m (by refine zc z ?_;exact hopa)) e) fun o e=>k2 _ _ (uF ne) e
  have hn2:(if S k=true then n else n+1)+l.length+1<scanBound:=by split<;>omega
  refine(ih (s:={s with heap:=h2,toks:=tk+1}) S2 T2 hQ2 hn2 R fun s' n' S' Q' K'=>?_)
  refine g s' n' S' ?_ ?_
  ·have e:(fun k_1=>(S k_1||decide (k_1=k))||l.contains k_1)=fun k_1=>S k_1||(k::l).contains k_1:=funext fun z=>by
    refine zc List.contains_cons (zc (Bool.or_assoc ..) ?_)
    congr 2
   rw[e]at Q'
   exact Q'
  ·refine KeptX.trans (s':={s with heap:=h2,toks:=tk+1}) ⟨⟨_,_,_,rfl⟩,fun b o e U m=>⟨o,?_,.refl o⟩⟩ K'
   exact k2 b o (fun z=>m (by refine zc z ?_;exact .tail _ (.head _))) (kk b o (fun z=>m (by refine zc z ?_;exact .head _)) e)
end
section
noncomputable def YT(w:ya)(S:List Str):AV:=.ext fun h v=>∃a n,v=.ref a∧SetQ (knd w) h a (fun k=>S.contains k) n
theorem mX(no:a∉ρ.op)(q:SetQ (knd w) h a (fun k=>S.contains k) n):y2 ρ h (YT w S) (.ref a):=by
 intro h' nm
 exact⟨a,n,rfl,q.at fun o ho hex=>nm a o no ho (by refine zc hex.1 ?_;rfl)⟩
theorem Uv(c:y2 ρ h (YT w S) v):∃a n,v=.ref a∧SetQ (knd w) h a (fun k=>S.contains k) n:=by
 exact c h (.refl _ _)
open Builtin Builtin.Frozenset in
theorem TX(a p:zI):Builtin.«set.__init__» ⟨[.ref a,.ref p],[]⟩=(typeNameOfCut 200 (.ref a) >>= fun n=>checkCount n 0 1 1 >>= fun U=>setUsed a >>= fun b=>if b=true then(clearAll a >>= fun U=>updateFrom "set.__init__" a (.ref p) >>= fun U=>ret .none)else(updateFrom "set.__init__" a (.ref p) >>= fun U=>ret .none)):=⋯
open Builtin Builtin.Frozenset in
theorem V6(a p:zI):updateFrom "set.__init__" a (.ref p)=(isAnySet (.ref p) >>= fun b=>if b=true then(addrOf (.ref p) >>= fun o=>merge "set.__init__" a o)else Zo (.ref p) >>= fun t=>if(t==.type "dict")=true then(do
  rule s!"set.__init__.from-dict"
  let d ←addrOf (.ref p)
  if d==Qu then eW "sys.modules:all-start-up-values-wanted"
  let epoch ←dictEpoch d
  setRoomFor a (←G2 d).size
  for i in [0:(←G2 d).size]do
   let some e:=(←G2 d)[i]?|eW "internal:set-from-dict"
   let _ ←holding [e.key] (setAddHashed a e.key e.hash)
   if(←dictEpoch d) != epoch then eW s!"set.__init__:changed-during-callback")else XA (.ref p) >>= fun it=>runValue (.builtin "set.update.loop" ⟨[.ref a,it],[]⟩) >>= fun U=>pure ()):=⋯
theorem jv(hT:s.TypeIs (.ref a) "set")(h:∀n,Q n s):zr (zu prog w) A (typeNameOfCut 200 (.ref a)) Q E s:=by
 obtain⟨hp,g,d,tk,os⟩:=s
 wp_walk
 exact h _
theorem fq(ho:s.heap.get? a=some {cls:=.type "set",dict:=none,data:=.set #[] 0 (.fresh 0 0 led)})(h:Q false s):
  zr (zu prog w) A (setUsed a) Q E s:=by
 exact zb (wR ho rfl rfl (wpAny_pure h))
theorem eJ(hT:s.TypeIs (.ref a) "list")(h:Q false s):
  zr (zu prog w) A (G8 (.ref a)) Q E s:=by
 have f1:Wv (.type "list") (.type "set")=pure false:=F.sub_list_set
 have f2:Wv (.type "list") (.type "frozenset")=pure false:=F.sub_list_frozenset
 obtain⟨hp,g,d,tk,os⟩:=s
 wp_walk
 exact h
section
variable {x:Cx} {E:zi→zg→Prop} {s:zg}
theorem gJ(S0:St x fr H s)(cv:y2 x.ρ s.heap (.list (l.map .str)) v)(hl:l.length+2<scanBound)(hh:x.A.handled=none)(g:∀a s',y2 x.ρ s'.heap (YT x.w l) (.ref a)→St x fr H s'→Kept x s s'→Q (.ref a) s'):zr (zu pw x.w) x.A (call (.type "set") [v]) Q E s:=by
 have cv0:=cv
 refine x7 (xY cv) fun p vs z2 no hL cl=>?_;subst z2
 refine Y5 F.called_set.mro fun c tl hmro=>?_
 have hmade:=F.called_set.made
 have hsub:=F.called_set.sub
 refine yL (xZ ?_)
 refine(?_:zr _ _ (UJ (.type "set") _) _ _ _)
 refine wpAny_pure ⟨xR _ (by decide +kernel),codeAny_builtin F.entry_type_call ?_⟩
 refine zc (Around.under_plain (weight_type_call_type "set" [.ref p] []) rfl) ?_
 have h1:=F.called_set.notType
 have h2:=F.called_set.canCreate
 have hct:=UQ (.ref p)
 repeat (any_goals (first|assumption|wp_step))
 refine codeAny_mono (Qm (E:=E) (Q₁:=fun obj s₁=>∃led:Bool,obj=.ref s.heap.objs.size∧s₁={s with heap:=s.heap.push {cls:=.type "set",dict:=none,data:=.set #[] 0 (.fresh 0 0 led)}}) fun led=>⟨led,rfl,rfl⟩) fun r s₁ hr=>?_
 cases r with
 |error e=>exact hr
 |ok fl =>
  cases fl with
  |ret obj =>
   refine zt hr fun led z1 z2=>?_;clear hr;subst z1;subst z2
   have hS:(s.heap.push {cls:=.type "set",dict:=none,data:=.set #[] 0 (.fresh 0 0 led)}).get? s.heap.objs.size=some {cls:=.type "set",dict:=none,data:=.set #[] 0 (.fresh 0 0 led)}:=zx _ rfl
   have hT:qA {s with heap:=s.heap.push {cls:=.type "set",dict:=none,data:=.set #[] 0 (.fresh 0 0 led)}} (.ref s.heap.objs.size) "set" := ⟨_,hS,rfl⟩
   have hTv:qA {s with heap:=s.heap.push {cls:=.type "set",dict:=none,data:=.set #[] 0 (.fresh 0 0 led)}} (.ref p) "list" := (hL.push _).typeIs
   have hli:=F.called_set.init.lookup
   have hbi:=F.called_set.init.bind (.ref s.heap.objs.size)
   repeat (any_goals (first|assumption|wp_step))
   refine codeAny_mono (vG (R:=G1 (fun r s₂=>r=.none∧Q (.ref s.heap.objs.size) s₂) E) F.called_set.init.plain F.entry_set_init (V9 hT ?_)) fun r₂ s₂ hr₂=>?_
   ·refine(?_:zr _ _ (Builtin.«set.__init__» ⟨[.ref s.heap.objs.size,.ref p],[]⟩) _ _ _)
    refine zc (TX ..) (zb (jv hT fun n=>zb (x8 (a:=()) rfl (zb (fq hS ?_)))))
    refine zc (if_neg (by decide)) (zc (V6 ..) ?_)
    refine zb (zb (eJ hTv ?_))
    refine zc (if_neg (by decide)) (zb (wpAny_typeOf hTv ?_))
    refine zc (if_neg (by decide)) ?_
    let s1:zg:={s with heap:=s.heap.push {cls:=.type "set",dict:=none,data:=.set #[] 0 (.fresh 0 0 led)}}
    have X1:Ext s s1:=Ext.push s _ s.toks
    have sz:s.heap.get? s.heap.objs.size=none:=by
     cases e:s.heap.get? s.heap.objs.size with
     |none=>rfl
     |some o=>exact absurd (zY e) (yI _)
    have Sa:St (x.wi [s.heap.objs.size]) fr H s1:=S0.openE X1 [s.heap.objs.size] (fun b hb=>by refine zc (zd.mp hb) ?_;exact sz) fun b hb=>by refine zc (zd.mp hb) ?_;exact⟨_,hS⟩
    have cva:y2 (x.wi [s.heap.objs.size]).ρ s1.heap (.list (l.map .str)) (.ref p):=(cv0.open fun b hb=>by refine zc (zd.mp hb) ?_;exact sz).mono X1.nonMut
    refine zb (uk (x:=x.wi [s.heap.objs.size]) (a:=.list (l.map .str)) rfl trivial cva fun I s2 X2 n2 e2 T2=>?_)
    have S2:St ((x.wi [s.heap.objs.size]).wi [I]) fr H s2:=Sa.openE X2 [I] (fun b hb=>by refine zc (zd.mp hb) ?_;exact n2) fun b hb=>by refine zc (zd.mp hb) ?_;exact e2
    have Q2:SetQ (knd x.w) s2.heap s.heap.objs.size (fun U=>false) 0:=⟨_,#[],0,.fresh 0 0 led,X2.keep _ _ hS,⟨rfl,rfl,rfl⟩,rfl,fun e he=>(by cases he),fun k=>⟨fun z=>(by exact fT z),fun⟨e,he,_⟩=>(by cases he)⟩,(by decide),rfl,rfl,.inl rfl⟩
    have Fa:Far (x.wi [s.heap.objs.size]) s.heap.objs.size:=by
     have F:=S0.far sz
     exact⟨F.lo,F.ce,F.de,F.ob,F.ba,F.st,F.fr⟩
    refine zb (k7 (mo (y:=x.wi [s.heap.objs.size]) (A:=x.A.in1.in1) (.head _) (Sa.far n2) (Sa.notTch n2) (Sa.notOp n2) Fa (S0.notTch sz) hh l S2 (T2 [I] fun b hb=>by refine zc (zd.mp hb) ?_;exact n2) Q2 (zN 0x621350261135013002 [l.length,scanBound] hl rfl) _ fun s' n' S' Q' K'=>?_))
    refine wpAny_pure (wpAny_pure ⟨rfl,g _ s' (mX (n:=n') (S0.notOp sz) ?_) S'.shut ?_⟩)
    ·have e:(fun k=>(false||l.contains k))=fun k=>l.contains k:=funext fun k=>Bool.false_or _
     refine xv e ?_;exact Q'
    ·have K1:KeptX x [I,s.heap.objs.size] s2 s':=⟨K'.rest,K'.keep⟩
     refine⟨?_,fun c o e n=>?_⟩
     ·refine xd X2.rest fun h1 t1 d1 r1=>xd K1.rest fun h2 t2 d2 r2=>zc r2 (zc r1 ?_)
      exact⟨h2,t2,d2,rfl⟩
     ·refine K1.keep c o (X2.keep _ _ (X1.keep _ _ e)) n fun m=>?_
      rcases zn.mp m with m|m
      ·rw[m]at e
       rw[X1.keep _ _ e]at n2;exact Sn n2
      ·rw[zd.mp m,sz]at e;exact nS e
   ·cases r₂ with
    |error e=>exact hr₂
    |ok fl₂ =>
     cases fl₂ with
     |ret r =>
      refine zK hr₂ fun z0 hq=>?_;clear hr₂;subst z0
      repeat (any_goals (first|assumption|wp_step))
     |_=>exact hr₂.elim
  |_=>exact hr.elim
end
end
section
theorem Wi:∀{l:List α} {i:Nat} (h:i<l.length),(l[i]::l.eraseIdx i).Perm l
 |x::l,0,_=>.refl _
 |x::l,i+1,h=>by
  exact(List.Perm.swap _ _ _).trans ((Wi (Nat.lt_of_succ_lt_succ h)).cons _)
section
variable {prog:uW} {w:ya} {A:y1} {E:zi→zg→Prop} {s:zg}
theorem aq(hn:n≠0)(h:∀i d,i<n→Q i {s with drawn:=d}):zr (zu prog w) A (choose src n) Q E s:=fun Γ p U=>by
 exact⟨hn,h _ _ (Nat.mod_lt _ (Nat.pos_of_ne_zero hn))⟩
theorem Tu(n:Nat):∀(xs:List α) {s:zg} {Q:List α→zg→Prop},xs.length≤n→(∀ys d,ys.Perm xs→Q ys {s with drawn:=d})→zr (zu prog w) A (drawOrder n xs) Q E s:=by
 induction n with
 |zero =>
  intro xs s Q hl h
  cases vP (Nat.le_zero.mp hl)
  exact wpAny_pure (h [] s.drawn (.refl _))
 |succ n ih =>
  intro xs s Q hl h
  cases xs with
  |nil=>exact wpAny_pure (h [] s.drawn (.refl _))
  |cons x xs =>
   refine(?_:zr _ _ (choose .order (x::xs).length >>= _) _ _ _)
   refine zb (aq (G9 _) fun i d hi=>?_)
   refine zc (zC hi) ?_
   refine zb (ih ((x::xs).eraseIdx i) (s:={s with drawn:=d}) (by refine zc (cy hi) ?_;exact lD hl) fun ys d' hy=>wpAny_pure (h _ d' ((hy.cons _).trans (Wi hi))))
end
theorem Al{next:Nat→Nat}{fuel k:Nat}{left:List α}{out:Array α}{x:α}(h:left[next k%left.length]?=some x):
  W6 next (fuel+1) k left out=W6 next fuel (k+1) (left.eraseIdx (next k%left.length)) (out.push x):=
 congrArg (fun o:Option α=>match o with|some x=>W6 next fuel (k+1) (left.eraseIdx (next k%left.length)) (out.push x)|none=>out) h
theorem Ak(next:Nat→Nat)(fuel:Nat):∀(k:Nat) (left:List α) (out:Array α),left.length≤fuel→(W6 next fuel k left out).toList.Perm (out.toList++left):=by
 induction fuel with
 |zero =>
  intro k left out h
  refine zc (vP (Nat.le_zero.mp h)) ?_
  refine zc (yB _) ?_
  exact .refl _
 |succ fuel ih =>
  intro k left out h
  cases left with
  |nil =>
   refine zc (yB _) ?_
   exact .refl _
  |cons x left =>
   have hi:next k%(x::left).length<(x::left).length:=Nat.mod_lt _ (Nat.succ_pos _)
   refine zc (Al (zC hi)) ?_
   refine(ih (k+1) _ _ (by refine zc (cy hi) ?_;exact lD h)).trans ?_
   refine zc rR (zc (zA ..) ?_)
   exact(Wi hi).append_left _
theorem jT(next:Nat→Nat)(xs:Array α):(qr next xs).toList.Perm xs.toList:=by
 exact Ak next xs.size 0 xs.toList #[] (zX _)
end
section
set_option tactic.hygienic true
theorem XJ:Slot "set" "__iter__" "set.__iter__" :=
 .of (owner := "set") (n := "__iter__") (by refine zc (uD ..) (zc wz ?_);kernel_rfl) (by decide +kernel) (by decide +kernel) (by decide +kernel)
  (by first|exact .inl (by decide +kernel)|exact .inr (by decide +kernel)) (by refine zc (YF ..) ?_;kernel_rfl)
theorem qE:Slot "set_iterator" "__next__" "set_iterator.__next__" :=
 .of (owner := "set_iterator") (n := "__next__") (by refine zc (uD ..) (zc wz ?_);kernel_rfl) (by decide +kernel) (by decide +kernel) (by decide +kernel)
  (by first|exact .inl (by decide +kernel)|exact .inr (by decide +kernel)) (by refine zc (YF ..) ?_;kernel_rfl)
theorem WH:Slot "set_iterator" "__iter__" "set_iterator.__iter__" :=
 .of (owner := "set_iterator") (n := "__iter__") (by refine zc (uD ..) (zc wz ?_);kernel_rfl) (by decide +kernel) (by decide +kernel) (by decide +kernel)
  (by first|exact .inl (by decide +kernel)|exact .inr (by decide +kernel)) (by refine zc (YF ..) ?_;kernel_rfl)
theorem Ts:YG lb "set.__iter__" = some Builtin.«frozenset.__iter__»:=entryFor_alias (id' := "frozenset.__iter__") ⋯ rfl (by decide +kernel) ⋯
theorem Qf:YG lb "set_iterator.__next__" = some Builtin.«set_iterator.__next__»:=vW ⋯
theorem Qg:YG lb "set_iterator.__iter__" = some Builtin.«dict_keyiterator.__iter__»:=entryFor_alias (id' := "dict_keyiterator.__iter__") ⋯ rfl (by decide +kernel) ⋯
theorem Qn(a:zi):Ui "set.__iter__" ⟨[a],[]⟩:=by unfold Ui;kernel_rfl
theorem bS(a:zi):Ui "set_iterator.__next__" ⟨[a],[]⟩:=by unfold Ui;kernel_rfl
theorem bT(a:zi):Ui "set_iterator.__iter__" ⟨[a],[]⟩:=by unfold Ui;kernel_rfl
end
section
def qm(h:xO)(I:zI)(first:zi)(i:Nat)(a:zI)(n ep:Nat):Prop:=
 ∃o,h.get? I=some o∧o.cls=.type "set_iterator" ∧ o.data=.fields #[first,rawInt i,.ref a,rawInt n,rawInt ep]
def Ym(h:xO)(a:zI)(es:Array (Int×Value))(ep:Nat)(t:uE):Prop:=
 ∃o,h.get? a=some o∧o.cls=.type "set" ∧ o.data=.set es ep t∧t.fits es.size=true
theorem qm.typeIs{I f i a n ep}{g d tk os}(x:qm h I f i a n ep):qA ⟨h,g,d,tk,os⟩ (.ref I) "set_iterator" := let⟨o,ho,c,_⟩:=x;⟨o,ho,c⟩
theorem qm.at{I f i a n ep}(x:qm h I f i a n ep)(e:∀o,h.get? I=some o→h'.get? I=some o):qm h' I f i a n ep:=let⟨o,ho,r⟩:=x;⟨o,e _ ho,r⟩
theorem Ym.at{a es ep t}(x:Ym h a es ep t)(e:∀o,h.get? a=some o→h'.get? a=some o):Ym h' a es ep t:=let⟨o,ho,r⟩:=x;⟨o,e _ ho,r⟩
section
variable {prog:uW} {w:ya} {A:y1} {E:zi→zg→Prop} {s:zg}
theorem VI(h:Q (w.params.followText "set-order") s):zr (zu prog w) A setsByText Q E s:=by
 unfold setsByText
 exact zb (vU (wpAny_pure h))
theorem cQ{es ep t}(hD:Ym s.heap a es ep t)(hp:t.plain=false)(h2:1<es.size)(h:Q (!w.params.followText "set-order") s):zr (zu prog w) A (setDrawn a) Q E s:=by
 refine VE hD fun o ho c hd hf=>?_
 unfold setDrawn
 refine zb (wR ho hd hf ?_)
 dsimp only
 refine zb (VI (wpAny_pure ?_))
 have:(!t.plain&&decide (es.size>1))=true:=by refine zc hp ?_;simpa using h2
 have e:((!w.params.followText "set-order")&&(!t.plain&&decide (es.size>1))) = !w.params.followText "set-order" := by exact zc this (zc (fh ..) rfl)
 show Q ((!w.params.followText "set-order")&&(!t.plain&&decide (es.size>1))) s
 exact zc e h
theorem UT(hh:A.handled=none)(h:∀h' v,Ext s {s with heap:=h'}→qA {s with heap:=h'} v "StopIteration" → G v {s with heap:=h'}):
  zr (zu prog w) A (newExc (.type "StopIteration") [] >>= fun e=>(raiseNew e:VL T)) Q G s:=by
 refine zb ?_
 simp only[newExc,newTuple]
 refine zb (yQ ?_ (by size_fits))
 refine zb (m:=firstArgMember _ _) (x8 (a:=xn) (by first|rfl|(simp only[firstArgMember];rfl)) ?_)
 refine yQ ?_ (by size_fits)
 refine(?_:zr _ _ (handled >>= _) _ _ _)
 refine zb (wpAny_handled ?_)
 refine zc hh (zb (wpAny_pure (wpAny_throw ?_)))
 refine h _ _ ⟨⟨_,_,_,rfl⟩,fun b o e=>?_⟩ ⟨_,zx _ rfl,rfl⟩
 exact zq _ (zq _ e)
end
end
section
section
variable {w:ya} {A:y1} {E:zi→zg→Prop} {s:zg}
theorem Uu{I:zI}{Q:Option zi→zg→Prop}{f i a n ep}(x:qm s.heap I f i a n ep)(h:zr (zu pw w) A.in1 (Builtin.«set_iterator.__next__» ⟨[.ref I],[]⟩) (fun fin s'=>∃v,fin=.done (.ret v)∧Q (some v) s')
   (fun e s'=>qA s' e "StopIteration" ∧ Q none s') s):zr (zu pw w) A (Uh (.ref I)) Q E s:=by
 refine zb (TP (Ws (name:=za "__next__") x.typeIs qE
  (Zn qE x.typeIs Qf (wE h ?_ ?_) (bS _))))
 ·rintro fin s' ⟨v,rfl,q⟩
  exact⟨v,rfl,wpAny_pure q⟩
 ·rintro e s' ⟨t,q⟩
  exact zb (eQ (T := "StopIteration") (b:=true) t isSubtype_stop (wpAny_pure q))
theorem bl{a:zI}{es:Array (Int×Value)}{ep t}{j:Nat}{i m:Nat}{e:Int×Value}{Q:zi→zg→Prop}(D:Ym s.heap a es ep t)(hi:i=j)(hm:m=ep)(he:es[j]?=some e)(h:Q e.2 s):zr (zu pw w) A (setNextDrawn a i m) Q E s:=by
 subst hi;subst hm
 refine VE D fun oa hoa ca hda hf=>zb (wR hoa hda hf ?_)
 dsimp only
 refine zc (if_neg (by simp)) (zc he ?_)
 exact wpAny_pure h
theorem QL{a:zI}{es:Array (Int×Value)}{ep t}{c g m i:Nat}{Q:Option (zi×Nat)→zg→Prop}(D:Ym s.heap a es ep t)(hm:m=ep)(hg:g=i)(ht:w.params.followText "set-order" = true)(h:Q (((qr (w.params.setOrder a ep) es)[i]?).map fun e=>(e.2,c)) s):zr (zu pw w) A (setNext a c g m) Q E s:=by
 subst hm;subst hg
 refine VE D fun oa hoa ca hda hf=>?_;clear D
 refine zb (wR hoa hda hf ?_)
 refine zb (VI ?_)
 refine zc ht (zc (if_pos rfl) (zc (if_neg (by simp)) ?_))
 refine zb (zb (wR hoa hda hf ?_))
 refine zb (VI ?_)
 refine zc ht (zc (if_pos rfl) ?_)
 exact zb (vU (wpAny_pure (wpAny_pure h)))
theorem TW{I a T:zI}{i ep:Nat}{es:Array (Int×Value)}{t:uE}{ps:Array zi}{j:Nat}{e:Int×Value}{Q:Option zi→zg→Prop}(x:qm s.heap I (.ref T) i a es.size ep)(D:Ym s.heap a es ep t)(hT:s.heap.IsTuple T ps)(hj:ps[i]?=some (rawInt j))(he:es[j]?=some e)(h:∀h',qm h' I (.ref T) (i+1) a es.size ep→yo I s.heap h'→Q (some e.2) {s with heap:=h'}):zr (zu pw w) A (Uh (.ref I)) Q E s:=by
 refine Uu x ?_
 refine wO x fun o ho c hd=>?_;clear x
 refine VE D fun oa hoa ca hda hf=>?_;clear D
 refine wO hT fun ot hot ct z3=>?_;clear hT;refine yf z3 fun nt hdt=>?_;clear z3
 refine(?_:zr _ _ (lg (.ref I) >>= _) _ _ _)
 refine zb (YD ho hd ?_)
 refine(?_:zr _ _ (lc a >>= _) _ _ _)
 refine zb (tI hoa hda hf ?_)
 refine zc (if_neg (by simp)) (zb (k6 hot hdt ?_))
 dsimp only
 refine zc (wI ..) (zc hj ?_)
 refine(?_:zr _ _ (setNextDrawn a _ _ >>= _) _ _ _)
 refine zb (bl (e:=e) ⟨oa,hoa,ca,hda,hf⟩ rfl rfl he ?_)
 refine zb (ta ho hd (by simp) (wpAny_pure ⟨e.2,rfl,h _ ?_ (zW ..)⟩))
 exact⟨_,zP _ ho (vf (y5 hd _)),(TK ..).trans c,by
  rw[y5 hd];simp[rawInt]⟩
theorem aT{I a T:zI}{i ep:Nat}{es:Array (Int×Value)}{t:uE}{ps:Array zi}{Q:Option zi→zg→Prop}(hh:A.handled=none)(x:qm s.heap I (.ref T) i a es.size ep)(D:Ym s.heap a es ep t)(hT:s.heap.IsTuple T ps)(hj:ps[i]?=none)(h:∀h',(∀b o,b∉[I]→s.heap.get? b=some o→h'.get? b=some o)→Q none {s with heap:=h'}):zr (zu pw w) A (Uh (.ref I)) Q E s:=by
 refine Uu x ?_
 refine wO x fun o ho c hd=>?_
 refine VE D fun oa hoa ca hda hf=>?_
 refine wO hT fun ot hot ct z3=>?_;refine yf z3 fun nt hdt=>?_;clear z3
 refine(?_:zr _ _ (lg (.ref I) >>= _) _ _ _)
 refine zb (YD ho hd ?_)
 refine(?_:zr _ _ (lc a >>= _) _ _ _)
 refine zb (tI hoa hda hf ?_)
 refine zc (if_neg (by simp)) ?_
 refine zb (k6 hot hdt ?_)
 dsimp only
 refine zc (wI ..) (zc hj ?_)
 refine(?_:zr _ _ (Ug _ _ _ >>= _) _ _ _)
 have hd1:=y5 hd (fun vs=>vs.setIfInBounds 0 (rawInt 0))
 refine zb (ta ho hd (by simp) ?_)
 refine zb (ta (zP _ ho (vf (y5 hd _))) (y5 hd _) (by simp) ?_)
 refine UT hh fun h' v X tv=>⟨tv,h _ fun b o nb e=>?_⟩
 have nb:b≠I:=fun z=>nb (by refine zc z ?_;exact .head _)
 exact X.keep _ _ ((zW ..).extBut b o nb ((zW ..).extBut b o nb e))
theorem aS{I a:zI}{i c0 ep:Nat}{es:Array (Int×Value)}{t:uE}{e:Int×Value}{Q:Option zi→zg→Prop}(x:qm s.heap I (rawInt c0) i a es.size ep)(D:Ym s.heap a es ep t)(ht:w.params.followText "set-order" = true)(he:(qr (w.params.setOrder a ep) es)[i]?=some e)(h:∀h',qm h' I (rawInt c0) (i+1) a es.size ep→yo I s.heap h'→Q (some e.2) {s with heap:=h'}):zr (zu pw w) A (Uh (.ref I)) Q E s:=by
 refine Uu x ?_
 refine wO x fun o ho c hd=>?_;clear x
 refine VE D fun oa hoa ca hda hf=>?_;clear D
 refine(?_:zr _ _ (lg (.ref I) >>= _) _ _ _)
 refine zb (YD ho hd ?_)
 refine(?_:zr _ _ (lc a >>= _) _ _ _)
 refine zb (tI hoa hda hf ?_)
 dsimp only
 refine zc (if_neg (by simp)) ((?_:zr _ _ (setNext a _ _ _ >>= _) _ _ _))
 refine zb (QL (i:=i) ⟨oa,hoa,ca,hda,hf⟩ rfl rfl ht ?_)
 refine zc he ((?_:zr _ _ (Ug _ _ _ >>= _) _ _ _))
 refine zb (ta ho hd (by simp) ?_)
 refine zb (ta (zP _ ho (vf (y5 hd _))) (y5 hd _) (by simp) ?_)
 refine wpAny_pure ⟨e.2,rfl,h _ ?_ ((zW ..).trans (zW ..))⟩
 refine⟨_,zP _ (zP _ ho (vf (y5 hd _))) (vf (y5 (y5 hd _) _)),(TK ..).trans ((TK ..).trans c),?_⟩
 rw[y5 (y5 hd _)]
 simp[rawInt]
theorem cO{I a:zI}{i c0 ep:Nat}{es:Array (Int×Value)}{t:uE}{Q:Option zi→zg→Prop}(hh:A.handled=none)(x:qm s.heap I (rawInt c0) i a es.size ep)(D:Ym s.heap a es ep t)(ht:w.params.followText "set-order" = true)(he:(qr (w.params.setOrder a ep) es)[i]?=none)(h:∀h',(∀b o,b∉[I]→s.heap.get? b=some o→h'.get? b=some o)→Q none {s with heap:=h'}):zr (zu pw w) A (Uh (.ref I)) Q E s:=by
 refine Uu x (wO x fun o ho c hd=>VE D fun oa hoa ca hda hf=>(?_:zr _ _ (lg (.ref I) >>= _) _ _ _))
 refine zb (YD ho hd ?_)
 refine(?_:zr _ _ (lc a >>= _) _ _ _)
 refine zb (tI hoa hda hf ?_)
 dsimp only
 refine zc (if_neg (by simp)) ((?_:zr _ _ (setNext a _ _ _ >>= _) _ _ _))
 refine zb (QL (i:=i) ⟨oa,hoa,ca,hda,hf⟩ rfl rfl ht ?_)
 refine zc he ((?_:zr _ _ (Ug _ _ _ >>= _) _ _ _))
 refine zb (ta ho hd (by simp) ?_)
 refine UT hh fun h' v X tv=>⟨tv,h _ fun b o nb e=>?_⟩
 have nb:b≠I:=fun z=>nb (by refine zc z ?_;exact .head _)
 exact X.keep _ _ ((zW ..).extBut b o nb e)
end
end
section
section
variable {w:ya} {A:y1} {E:zi→zg→Prop} {s:zg}
theorem il{f i a n ep}(x:qm s.heap I f i a n ep)(h:Q (.ref I) s):zr (zu pw w) A (XA (.ref I)) Q E s:=by
 refine wpAny_pyIter_slot x.typeIs WH (Zn WH x.typeIs Qg ?_ (bT _))
 refine(?_:zr _ _ (ret (.ref I)) _ _ s)
 exact wpAny_pure ⟨_,rfl, "set_iterator",_,x.typeIs,qE.lookup,h⟩
theorem Ym.extBut{a es ep t I}(x:Ym h a es ep t)(n:a≠I)(k:∀b o,b≠I→h.get? b=some o→h'.get? b=some o):Ym h' a es ep t:=x.at fun o e=>k a o n e
theorem cB(hh:A.handled=none)(I a T:zI)(ha:a≠I)(hT:T≠I)(es:Array (Int×Value))(ep:Nat)(t:uE)(ps:List Nat)(hp:∀j∈ps,j<es.size):
  Walks pw w A I [I,a,T] [I] ps.length (fun i v=>∃j e,ps[i]?=some j∧es[j]?=some e∧v=e.2) (fun i h=>qm h I (.ref T) i a es.size ep∧Ym h a es ep t∧h.IsTuple T (ps.map fun(j:Nat)=>rawInt (j:Int)).toArray) where
 sub:=fun b hb=>by simp at hb;simp[hb]
 frame:=fun U U U st hk=>⟨st.1.at fun o e=>hk I (by simp) o e,st.2.1.at fun o e=>hk a (by simp) o e,st.2.2.at fun o e=>hk T (by simp) o e⟩
 item:=fun i s Q E hi st hQ=>by
  have hj:ps[i]?=some ps[i]:=zC hi
  have he:es[ps[i]]?=some (es[ps[i]]'(hp _ (YL hi))):=vj _
  exact TW st.1 st.2.1 st.2.2 (j:=ps[i]) (by simp[hj]) he fun h' x hs=>hQ _ h' s.toks ⟨_,_,hj,he,rfl⟩ ⟨x,st.2.1.extBut ha fun b o n e=>hs.extBut b o n e,st.2.2.at fun o e=>hs.extBut T o hT e⟩ fun b o hb e=>hs.extBut b o (fun h=>hb (by simp[h])) e
 done:=fun s Q E st hQ=>aT hh st.1 st.2.1 st.2.2 (by simp) fun h' k=>hQ h' s.toks k
 self:=fun U U U U st hQ=>il st.1 hQ
theorem fk(hh:A.handled=none)(ht:w.params.followText "set-order" = true)(I a:zI)(ha:a≠I)(es:Array (Int×Value))(ep:Nat)(t:uE):
  Walks pw w A I [I,a] [I] (qr (w.params.setOrder a ep) es).size (fun i v=>∃e,(qr (w.params.setOrder a ep) es)[i]?=some e∧v=e.2) (fun i h=>qm h I (rawInt (0:Nat)) i a es.size ep∧Ym h a es ep t) where
 sub:=fun b hb=>by simp at hb;simp[hb]
 frame:=fun U U U st hk=>⟨st.1.at fun o e=>hk I (by simp) o e,st.2.at fun o e=>hk a (by simp) o e⟩
 item:=fun i s Q E hi st hQ=>by
  have hj:(qr (w.params.setOrder a ep) es)[i]?=some (qr (w.params.setOrder a ep) es)[i]:=vj hi
  exact aS st.1 st.2 ht hj fun h' x hs=>hQ _ h' s.toks ⟨_,hj,rfl⟩ ⟨x,st.2.extBut ha fun b o n e=>hs.extBut b o n e⟩ fun b o hb e=>hs.extBut b o (fun h=>hb (by simp[h])) e
 done:=fun s Q E st hQ=>cO hh st.1 st.2 ht (by simp) fun h' k=>hQ h' s.toks k
 self:=fun U U U U st hQ=>il st.1 hQ
end
theorem cA{w:ya}{S:List Str}{es:Array (Int×Value)}(hel:jq (knd w) es.toList)(hm:∀k,S.contains k=true↔∃e∈es.toList,(knd w).is k e.2=true)(l:List (Int×Value))(hl:l.Perm es.toList):
  ∃ks:List Str,ks.length=l.length∧(∀k,k∈ks↔k∈S)∧∀(i:Nat) (e:Int×Value),l[i]?=some e→∃k t,ks[i]?=some k∧e.2=.str k t:=by
 have hkey:∀{e:Int×Value},e∈l→∃k t,e.2=.str k t:=fun{e} he=>by
  refine yf (hel.keys e (hl.mem_iff.mp he)) fun k hk=>?_
  have hk:vZ k e.2=true:=hk
  cases z:e.2 with
  |str k' t=>exact⟨k',t,rfl⟩
  |_=>rw[z]at hk;exact fT hk
 let g:Int×Value→Str:=fun e=>match e.2 with|tD k _=>k|_=>⟨#[]⟩
 have hg:∀{e:Int×Value},e∈l→∃t,e.2=.str (g e) t:=fun{e} he=>by
  refine Y5 (hkey he) fun k t q=>⟨t,?_⟩
  refine(?_:e.2=.str (match e.2 with|tD k _=>k|_=>⟨#[]⟩) t)
  exact zc q rfl
 have his:∀{e:Int×Value} {k:Str},e∈l→((knd w).is k e.2=true↔g e=k):=fun{e k} he=>by
  refine yf (hg he) fun t q=>(?_:vZ k e.2=true↔_)
  refine zc q ?_
  unfold vZ
  simp
 refine⟨l.map g,by simp,fun k=>?_,fun i e he=>?_⟩
 ·rw[zB,←ve,hm]
  constructor
  ·rintro⟨e,he,q⟩;exact⟨e,hl.mem_iff.mp he,(his he).mpr q⟩
  ·rintro⟨e,he,q⟩;exact⟨e,hl.mem_iff.mpr he,(his (hl.mem_iff.mpr he)).mp q⟩
 ·exact yf (hg (zH he)) fun t q=>⟨g e,t,by refine zc yF (zc he ?_);rfl,q⟩
end
section
theorem pu(es:Array α):∀(ys:List Nat),(∀j∈ys,j<es.size)→∀i:Nat,(ys.filterMap fun j=>es[j]?)[i]?=(ys[i]?).bind fun j=>es[j]?:=by
 intro l0
 induction l0 with
 |nil =>
  intro _ i
  exact rfl
 |cons y ys ih =>
  intro hys i
  have hy:es[y]?=some (es[y]'(hys y (.head _))):=vj _
  refine zc (fg hy) ?_
  cases i with
  |zero=>simp[hy]
  |succ i=>simpa using (ih (fun j hj=>hys j (.tail _ hj)) i)
theorem Fy(es:Array α):∀(ys:List Nat),(∀j∈ys,j<es.size)→(ys.filterMap fun j=>es[j]?).length=ys.length:=by
 intro l0
 induction l0 with
 |nil =>
  intro _
  exact rfl
 |cons y ys ih =>
  intro hys
  have hy:es[y]?=some (es[y]'(hys y (.head _))):=vj _
  exact zc (fg hy) (zc zS (zc zS (zc ((ih fun j hj=>hys j (.tail _ hj))) rfl)))
theorem Av:∀{l:List α},l.length≤1→a∈l→b∈l→a=b
 |[],_,h,_=>by cases h
 |[_],_,h,h'=>(zd.mp h).trans (zd.mp h').symm
 |_::_::_,h,_,_=>absurd h (Vf _ ∘ yv (vp 2 _))
theorem mW{x:Cx}{S:List Str}{v:zi}{s:zg}{A:y1}{E:zi→zg→Prop}{Q:zi→zg→Prop}(c:y2 x.ρ s.heap (YT x.w S) v){k1 k2:Str}(h1:k1∈S)(h2:k2∈S)(hne:k1≠k2)(nop:∀a,v=.ref a→a∉x.ρ.op)(hop:s.heap.objs.size∉x.ρ.op)(h:∀(I:zI) (s':zg) (ks:List Str),Ext s s'→s.heap.get? I=none→(∃o,s'.heap.get? I=some o)→(∀k,k∈ks↔k∈S)→It (x.wi [I]) I (ks.map AV.str) s'.heap→Q (.ref I) s'):zr (zu pw x.w) A (XA v) Q E s:=by
 obtain⟨a,n,rfl,o,es,ep,t,ho,hex,hd,hel,hm,hb,hf,hn,hz⟩:=Uv c
 have nop:=nop a rfl
 have none_size:∀s:zg,s.heap.get? s.heap.objs.size=none:=fun s=>by
  cases e:s.heap.get? s.heap.objs.size with
  |none=>rfl
  |some o=>exact absurd (zY e) (yI _)
 have hD:Ym s.heap a es ep t:=⟨o,ho,hex.1,hd,hf⟩
 have two:1<es.size:=by
  refine zt ((hm k1).mp (ve.mpr h1)) fun e1 m1 q1=>zt ((hm k2).mp (ve.mpr h2)) fun e2 m2 q2=>?_
  rcases TM 1 es.size with h|h
  ·exact h
  ·exfalso
   exact hne ((knd x.w).inj _ _ _ q1 (Av (by exact h) m1 m2▸q2))
 have hp:t.plain=false:=by
  refine lN hz (fun hz=>?_) fun hz=>?_
  ·omega
  ·exact hz
 have hT:qA s (.ref a) "set" := ⟨o,ho,hex.1⟩
 refine wpAny_pyIter_slot hT XJ (Zn XJ hT Ts ?_ (Qn _))
 refine(?_:zr _ _ (G6 a >>= _) _ _ _)
 refine zb (zb (tI ho hd hf (wpAny_pure ?_)))
 refine zb (cQ hD hp two ?_)
 have hTp:ut (yK "set_iterator") (za "__next__")=pure (some (.builtin "set_iterator.__next__")):=qE.lookup
 have lt_ne:∀{s:zg} {b o},s.heap.get? b=some o→b≠s.heap.objs.size:=fun e=>vY (zY e)
 cases ht:x.w.params.followText "set-order"
 ·dsimp only
  refine zc (if_pos (by decide)) (zb (Tu es.size (zT es.size) (by simp) fun ys d hy=>?_))
  refine zb (yQ ?_ (by show Array.size _≤sizeLine;refine zc xG (zc (zj ..) (zc hy.length_eq (zc yM ?_)));exact yv (vA hb) (by decide)))
  have hD1:Ym (s.heap.push {cls:=.type "tuple",dict:=none,data:=.seq (ys.map fun(j:Nat)=>rawInt (j:Int)).toArray}) a es ep t:=⟨o,zq _ ho,hex.1,hd,hf⟩
  refine VE (id hD1) fun o1 ho1 hc1 hd1 hf1=>zb (zb (wR ho1 hd1 hf1 (wpAny_pure ?_)))
  refine zb (yQ ?_ (by size_fits))
  let s1:zg:={s with drawn:=d,heap:=s.heap.push {cls:=.type "tuple",dict:=none,data:=.seq (ys.map fun(j:Nat)=>rawInt (j:Int)).toArray}}
  let io:xK:={cls:=.type "set_iterator",dict:=none,data:=.fields [.ref s.heap.objs.size,rawInt 0,.ref a,rawInt es.size,rawInt ep].toArray}
  refine wpAny_pure ⟨_,rfl, "set_iterator",_,⟨_,zx _ rfl,rfl⟩,hTp,?_⟩
  have hys:∀j∈ys,j<es.size:=fun j hj=>by simpa using hy.mem_iff.mp hj
  have hperm:(ys.filterMap fun j=>es[j]?).Perm es.toList:=by
   refine(hy.filterMap fun j=>es[j]?).trans (.of_eq (CB fun i=>?_))
   refine zc (pu es _ (fun j hj=>by simpa using hj) i) ?_
   rcases TM i es.size with h|h
   ·refine zc (ry h) ?_;simp
   ·refine zc (lE (by simpa using h)) ?_;simp[h]
  refine wO (cA hel hm (ys.filterMap fun j=>es[j]?) hperm) fun ks kl km kg=>?_
  ·have e1:=pu es
   have kl2:ks.length=ys.length:=kl.trans (Fy es ys hys)
   have X1:Ext s s1:=⟨⟨_,_,_,rfl⟩,fun b o e=>zq _ e⟩
   have n1:s.heap.get? s1.heap.objs.size=none:=by
    cases e:s.heap.get? s1.heap.objs.size with
    |none=>rfl
    |some o=>exact absurd rfl (lt_ne (s:=s1) (X1.keep _ _ e))
   refine h s1.heap.objs.size {s1 with heap:=s1.heap.push io} ks (X1.trans (Ext.push s1 io s1.toks)) n1 ⟨_,zx _ rfl⟩ km ?_
   refine It.mk (x:=x) (s:=s1) (o:=io) (fp:=[s1.heap.objs.size,a,s.heap.objs.size]) (P:=fun i v=>∃j e,ys[i]?=some j∧es[j]?=some e∧v=e.2)
    (W:=fun i h=>qm h s1.heap.objs.size (.ref s.heap.objs.size) i a es.size ep∧Ym h a es ep t∧h.IsTuple s.heap.objs.size (ys.map fun(j:Nat)=>rawInt (j:Int)).toArray)
    (fun A hA=>?_) ⟨⟨_,zx _ rfl,rfl,rfl⟩,hD1.at fun o e=>zq _ e,?_⟩ rfl (fun i h st=>?_) (fun b hb=>?_) (fun j av q v p=>?_) [s1.heap.objs.size] (fun b hb=>by refine zc (zd.mp hb) ?_;exact none_size s1)
   ·refine zc (zj ..) (zc kl2 ?_)
    exact cB hA _ a _ (lt_ne (s:=s1) (X1.keep _ _ ho)) (lt_ne (s:=s1) (b:=s.heap.objs.size) (zx _ rfl)) es ep t ys hys
   ·exact⟨_,zq _ (zx _ rfl),rfl,_,rfl⟩
   ·(refine zK st fun z0 U=>?_;clear st;obtain⟨o,e,c,_⟩:=z0);exact⟨o,e,by unfold um;refine zc c ?_;decide⟩
   ·rcases zn.mp hb with rfl|hb
    ·exact .inl rfl
    ·rcases zn.mp hb with rfl|hb
     ·exact .inr ⟨nop,_,X1.keep _ _ ho,by refine zc hex.1 ?_;rfl⟩
     ·exact zc (zd.mp hb) (.inr ⟨hop,_,zx _ rfl,rfl⟩)
   ·refine xk p fun i e p1 p2 z4=>?_;clear p;subst z4
    have g:=kg j e (by(rw[e1 ys hys];refine zc p1 ?_);exact p2)
    refine yW g fun k t g1 g2=>?_;clear g
    rw[yF,g1]at q
    replace q:=zf q;subst q
    exact zc g2 (vO _ _)
 ·dsimp only
  refine zc (if_neg (by decide)) (zb (wpAny_pure ?_))
  refine zb (zb (wR ho hd hf (wpAny_pure ?_)))
  refine zb (yQ ?_ (by size_fits))
  let io:xK:={cls:=.type "set_iterator",dict:=none,data:=.fields [rawInt 0,rawInt 0,.ref a,rawInt es.size,rawInt ep].toArray}
  refine wpAny_pure ⟨_,rfl, "set_iterator",_,⟨_,zx _ rfl,rfl⟩,hTp,?_⟩
  refine wO (cA hel hm (qr (x.w.params.setOrder a ep) es).toList (jT _ es)) fun ks kl km kg=>h s.heap.objs.size {s with heap:=s.heap.push io} ks (Ext.push s io s.toks) (none_size s) ⟨_,zx _ rfl⟩ km ?_
  refine It.mk (x:=x) (s:=s) (o:=io) (fp:=[s.heap.objs.size,a]) (P:=fun i v=>∃e,(qr (x.w.params.setOrder a ep) es)[i]?=some e∧v=e.2)
   (W:=fun i h=>qm h s.heap.objs.size (rawInt (0:Nat)) i a es.size ep∧Ym h a es ep t)
   (fun A hA=>?_) ⟨⟨_,zx _ rfl,rfl,rfl⟩,hD.at fun o e=>zq _ e⟩ rfl (fun i h st=>?_) (fun b hb=>?_) (fun j av q v p=>?_) [s.heap.objs.size] (fun b hb=>by refine zc (zd.mp hb) ?_;exact none_size s)
  ·refine zc (zj ..) (zc kl (zc yS ?_))
   exact fk hA ht _ a (lt_ne ho) es ep t
  ·(refine zK st fun z0 U=>?_;clear st;obtain⟨o,e,c,_⟩:=z0);exact⟨o,e,by unfold um;refine zc c ?_;decide⟩
  ·rcases zn.mp hb with rfl|hb
   ·exact .inl rfl
   ·refine zc (zd.mp hb) ?_
    exact .inr ⟨nop,_,ho,by refine zc hex.1 ?_;rfl⟩
  ·refine zt p fun e p1 z2=>?_;clear p;subst z2
   refine yW (kg j e (by rw[XH];exact p1)) fun k t g1 g2=>?_
   rw[yF,g1]at q
   replace q:=zf q;subst q
   exact zc g2 (vO _ _)
variable {x:Cx} {fr:y3} {H:Hp}
theorem sW(c:y2 ρ h (YT w S) v):∀a,v=.ref a→a∉ρ.op:=fun a e q=>by
 subst e
 have c0:=Uv c
 obtain⟨a',n,e,o,es,ep,t,ho,-⟩:=c0
 cases e
 let f:xK→xK:=fun o=>{o with data:=.fields #[]}
 obtain⟨a',n',e,o',es',ep',t',ho',-,hd',-⟩:=c (h.update a f) fun b o n e U=>(zW h a f).extBut b o (fun z=>n (by refine zc z ?_;exact q)) e
 cases e
 rw[zP f ho (vf (o:=f o) (vs:=#[]) rfl)]at ho'
 replace ho':=zf ho';subst ho'
 cases hd'
theorem zQ.for_set(hk:x.env.scope.kind=.function)(ht:Wr x t)(hh:x.A.handled=none)(hs:∀v,yR iter x.env v=pure v)(h:zL x fr H (zR iter x.env) fun a H1=>∃(S:List Str) (k1 k2:Str),a=YT x.w S∧k1∈S∧k2∈S∧k1≠k2∧∀ks:List Str,(∀k,k∈ks↔k∈S)→∃(J:List AV→y3→Hp→Prop),J (ks.map AV.str) fr H1∧(∀fr1 H1,J [] fr1 H1→k .next fr1 H1)∧∀I a rest fr1 H1,J (a::rest) fr1 H1→zQ (x.wi [I]) (xp t a fr1) H1 (xN body x.env) fun f fr2 H2=>match f with
   |.next=>J rest fr2 H2
   |.cont=>J rest fr2 H2
   |.brk=>k .next fr2 H2
   |.ret a=>k (.ret a) fr2 H2):zQ x fr H (tx (.For (.Name t tp) iter body [] pos) x.env) k:=by
 intro s S Q E f
 refine wpAny_For (h s S _ E fun v a H1 s1 q c1 S1 K1=>?_) hs
 refine Wj q fun W k1 k2 z3 h1 h2 z6=>?_;clear q;subst z3;refine zK z6 fun ne hJ=>?_;clear z6
 refine mW c1 h1 h2 ne (sW c1) (S1.notOp (by
  cases e:s1.heap.get? s1.heap.objs.size with
  |none=>rfl
  |some o=>exact absurd (zY e) (yI _))) fun I s2 ks X2 n2 e2 km T2=>?_
 refine wO (hJ ks km) fun J hJ fin step=>?_
 have S2:St (x.wi [I]) fr H1 s2:=S1.openE X2 [I] (fun b hb=>by refine zc (zd.mp hb) ?_;exact n2) fun b hb=>by refine zc (zd.mp hb) ?_;exact e2
 exact Tn (S1.far n2) (S1.notTch n2) (S1.notOp n2) hk ht hh (step I) fin S2 T2 hJ fun fl a' fr' H' s' q cf S' K'=>f fl a' fr' H' s' q cf S' (K1.trans (KeptX.old X2 n2 K'))
end
section
theorem VB:eT (knd w).is (⟨hs,.str n t,v⟩::r).toArray k=if k=n then some v else eT (knd w).is r.toArray k:=by
 unfold eT
 refine zc (rQ ..) (zc (rQ ..) (zc XG ?_))
 have:(knd w).is k (.str n t)=decide (k=n):=by
  show vZ k (.str n t)=_
  show(n==k)=decide (k=n)
  by_cases h:k=n
  ·subst h;exact zc (decide_eq_true rfl) (zc (beq_self_eq_true ..) rfl)
  ·refine zc (decide_eq_false h) ?_;exact beq_eq_false_iff_ne.mpr (uF h)
 simp only[this]
 by_cases h:k=n
 ·simp[h]
 ·simp[h]
theorem vC.keys:∀{fs:List (Str×AV)} {es:List yE},vC w ρ h fs es→KeysOf (knd w) es.toArray
 |[],_,c=>by cases c;intro e he;simp at he
 |p::fs,_,⟨t,v,r,e,hc,hr⟩=>by
  subst e
  intro e he
  rw[DK]at he
  rcases zn.mp he with rfl|he
  ·refine⟨p.1,?_,rfl⟩
   show vZ p.1 (.str p.1 t)=true
   unfold vZ
   simp
  ·exact hr.keys e (by rw[DK];exact he)
theorem vC.find_none:∀{fs:List (Str×AV)} {es:List yE},vC w ρ h fs es→lk k fs=none→eT (knd w).is es.toArray k=none:=by
 intro l0
 induction l0 with
 |nil =>
  intro _ c _
  cases c;rfl
 |cons p fs ih =>
  rintro _ ⟨t,v,r,e,hc,hr⟩ q
  subst e
  rw[wQ]at q
  cases z:zZ k p.1 with
  |true=>rw[z]at q;exact Sn q
  |false =>
   rw[z]at q
   refine zc VB (zc (if_neg (uj z)) ?_)
   exact(ih hr q)
theorem vC.find_some:∀{fs:List (Str×AV)} {es:List yE},vC w ρ h fs es→lk k fs=some av→∃v,eT (knd w).is es.toArray k=some v∧y2 ρ h av v:=by
 intro l0
 induction l0 with
 |nil =>
  intro _ c q
  exact nS q
 |cons p fs ih =>
  rintro _ ⟨t,v,r,e,hc,hr⟩ q
  subst e
  rw[wQ]at q
  cases z:zZ k p.1 with
  |true =>
   rw[z]at q;(replace q:=zf q;subst q)
   rw[yk]at z
   exact⟨v,by exact zc VB (zc (if_pos z) rfl),hc⟩
  |false =>
   rw[z]at q
   exact zt ((ih hr q)) fun u hu cu=>⟨u,by refine zc VB (zc (if_neg (uj z)) ?_);exact hu,cu⟩
theorem vC.snoc(c:y2 ρ h av v):∀{fs:List (Str×AV)} {es:List yE},vC w ρ h fs es→vC w ρ h (fs++[(k,av)]) (es++[⟨zz w.params k,.str k t,v⟩]):=by
 intro l0
 induction l0 with
 |nil =>
  intro _ e
  cases e;exact⟨t,v,[],rfl,c,rfl⟩
 |cons p fs ih =>
  rintro _ ⟨t',v',r,e,hc,hr⟩
  subst e
  exact⟨t',v',_,rfl,hc,(ih hr)⟩
theorem vC.map(F:vC w ρ h fs es)(hd:h.get? d=some (tJ es n)):h.MapOf (knd w) d (eT (knd w).is es.toArray):=
 ⟨_,es.toArray,n,hd,⟨rfl,rfl,rfl⟩,rfl,F.keys,fun U=>rfl⟩
end
section
section
variable {x:Cx} {fr:y3} {H:Hp}
theorem St.dictAt(S:St x fr H s)(hj:H[j]?=some (.dict fs))(c:y2 x.ρ s.heap (.obj j) v):
  ∃d es n,v=.ref d∧x.ρ.ob[j]?=some d∧x.δ[j]?=some d∧s.heap.get? d=some (tJ es n)∧vC x.w x.ρ s.heap fs es:=by
 refine zt (qI c) fun a' ha' z2=>?_;subst z2
 refine x7 (S.objs _ _ hj) fun a d ha hd h1 z5=>?_;refine yW z5 fun es q h2 h3=>?_;clear z5
 rw[ha']at ha;(replace ha:=zf ha;subst ha)
 subst h1
 exact⟨_,es,q,rfl,ha',hd,h2,h3⟩
theorem St.notSys{s:zg}(S:St x fr H s){o:xK}(hB:x.B.get? Qu=some o){j:Nat}{d:zI}(hd:x.δ[j]?=some d):(d==Qu)=false:=by
 have ht:uG x d:=.inr (.inr (zH hd))
 have:=(S.apart d ht).1
 refine beq_eq_false_iff_ne.mpr fun e=>?_
 rw[e,hB]at this
 exact Sn this
theorem xe.in_dict{l r:Expr}{pos:ZJ}{kb:Bool→Hp→Prop}{o:xK}(hb:vK .In r=false)(hB:x.B.get? Qu=some o)(h:zL x fr H (zR l x.env) fun v H1=>∃k,v=.str k∧zL x fr H1 (zR r x.env) fun w H2=>∃j fs,w=.obj j∧H2[j]?=some (.dict fs)∧kb (lk k fs).isSome H2):
  xe x fr H (isTrue (.Compare l [.In] [r] pos) x.env (zR (.Compare l [.In] [r] pos) x.env)) kb:=
 fun s S U E f=>wy (h s S _ E fun v U H1 s1 h1 c1 S1 K1=>by
  obtain⟨k,rfl,h1⟩:=h1
  refine h1 s1 S1 _ E fun w U H2 s2 h2 c2 S2 K2=>?_
  obtain⟨j,fs,rfl,hj,h2⟩:=h2
  obtain⟨t,rfl⟩:=xm c1
  obtain⟨d,es,n,rfl,ha,hd,hg,F⟩:=S2.dictAt hj c2
  have hkey:(knd x.w).is k (.str k t)=true:=by exact beq_self_eq_true _
  refine wpAny_in_of hkey (S2.notSys hB hd) (F.map hg) (xQ ?_)
  have e:(eT (knd x.w).is es.toArray k).isSome=(lk k fs).isSome:=by
   cases z:lk k fs with
   |none=>rw[F.find_none z];rfl
   |some av=>obtain⟨v,hv,-⟩:=F.find_some z;rw[hv];rfl
  rw[e]
  exact f _ H2 _ h2 (S2.of_heap rfl) ((K1.trans K2).trans ((Ext.toks s2 _).kept x))) hb
theorem xe.in_set(hb:vK .In r=false)(h:zL x fr H (zR l x.env) fun v H1=>∃k,v=.str k∧zL x fr H1 (zR r x.env) fun w H2=>∃S,w=YT x.w S∧kb (S.contains k) H2):
  xe x fr H (isTrue (.Compare l [.In] [r] pos) x.env (zR (.Compare l [.In] [r] pos) x.env)) kb:=
 fun s S U E f=>wy (h s S _ E fun v U H1 s1 h1 c1 S1 K1=>by
  obtain⟨k,rfl,h1⟩:=h1
  refine h1 s1 S1 _ E fun w U H2 s2 h2 c2 S2 K2=>?_
  obtain⟨Sw,rfl,h2⟩:=h2
  obtain⟨t,rfl⟩:=xm c1
  obtain⟨a,n,rfl,q⟩:=Uv c2
  have hkey:(knd x.w).is k (.str k t)=true:=by exact beq_self_eq_true _
  refine wpAny_inSet_of hkey rfl q.of (xQ ?_)
  exact f _ H2 _ h2 (S2.of_heap rfl) ((K1.trans K2).trans ((Ext.toks s2 _).kept x))) hb
theorem zL.dict_at{value slice:Expr}{pos:ZJ}{k:AV→Hp→Prop}(h:zL x fr H (zR value x.env) fun o H1=>zL x fr H1 (zR slice x.env) fun i H2=>∃j fs y av,o=.obj j∧i=.str y∧H2[j]?=some (.dict fs)∧lk y fs=some av∧k av H2):zL x fr H (zR (.Subscript value slice pos) x.env) k:=fun s S U E f =>
 Subscript_ (h s S _ E fun U o H1 s1 h1 c1 S1 K1=>h1 s1 S1 _ E fun U i H2 s2 h2 c2 S2 K2=>by
  refine xd h2 fun j fs y z3=>?_;clear h2;refine kO z3 fun av z5 z6 hj hl h2=>?_;clear z3;subst z5;subst z6
  refine Wj (S2.dictAt hj (c1.mono (S1.nonMut K2))) fun d es n z3 ha hd z6=>?_;subst z3;refine zK z6 fun hg F=>?_;clear z6
  refine yf (xm c2) fun t z1=>?_;subst z1
  refine zt (F.find_some hl) fun v hv cv=>?_
  have hkey:(knd x.w).is y (.str y t)=true:=by exact beq_self_eq_true _
  exact yf (WF slice (.ref d) (.str y t)) fun ops ho=>lu (F.map hg).typeIs slot_dict_getitem.lookup (wpAny_getItem_of hkey (F.map hg) hv (f v av H2 _ h2 cv (S2.of_heap rfl) ((K1.trans K2).trans ((Ext.toks s2 _).kept x)))) ho)
theorem zQ.dict_new(hs:uH e (some (.Subscript o i p)) pos.line x.env=pure false)(h:zL x fr H (zR e x.env) fun av H1=>zL x fr H1 (zR o x.env) fun ov H2=>zL x fr H2 (zR i x.env) fun iv H3=>∃j fs y,ov=.obj j∧iv=.str y∧H3[j]?=some (.dict fs)∧lk y fs=none∧fs.length≤100000∧k .next fr (H3.set j (.dict (fs++[(y,av)])))):
  zQ x fr H (tx (.Assign [.Subscript o i p] e pos) x.env) k:=fun s S U E f =>
 wpAny_Assign_Subscript (h s S _ E fun v av H1 s1 h1 c1 S1 K1=>h1 s1 S1 _ E fun ov oa H2 s2 h2 c2 S2 K2=>h2 s2 S2 _ E fun iv ia H3 s3 h3 c3 S3 K3=>by
  refine Wj h3 fun j fs y z3 z4 hj z6=>?_;clear h3;subst z3;subst z4;refine yU z6 fun hl hz h3=>?_;clear z6
  refine Wj (S3.dictAt hj (c2.mono (S2.nonMut K3))) fun d es n z3 ha hd z6=>?_;subst z3;refine zK z6 fun hg F=>?_;clear z6
  refine yf (xm c3) fun t z1=>?_;subst z1
  have cv:y2 x.ρ s3.heap av v:=(c1.mono (S1.nonMut K2)).mono (S2.nonMut K3)
  have hkey:(knd x.w).is y (.str y t)=true:=by exact beq_self_eq_true _
  have hm:=F.map hg
  refine zV (zb (wpAny_sequenceKey hm.typeIs (by decide) ?_))
  refine zb (Ws (name:=za "__setitem__") hm.typeIs slot_dict_setitem
   (Zn slot_dict_setitem hm.typeIs entry_dict_setitem ?_ (args_dict_setitem _ _ _)))
  refine(?_:zr _ _ (Builtin.Dict.notOrdered "__setitem__" ⟨[.ref d,.str y t,v],[]⟩ >>= _) _ _ s3)
  refine zb (wpAny_notOrdered_dict hm.typeIs ?_)
  refine(?_:zr _ _ (dictSet d (.str y t) v >>= _) _ _ s3)
  refine zb (zV (zb ((knd x.w).pyHash hkey ?_)))
  refine zV (zb (wpAny_dictFind_of (s:={s3 with toks:=s3.toks+1}) hkey hg rfl F.keys ?_))
  have hi:(es.toArray.findIdx? fun e=>(knd x.w).is y e.key)=none:=by
   have:=F.find_none hl
   rw[findBy_of_findIdx?]at this
   cases z:es.toArray.findIdx? fun e=>(knd x.w).is y e.key with
   |none=>rfl
   |some i =>
    rw[z]at this
    refine yf (Array.findIdx?_eq_some_iff_getElem.mp z) fun hi z1=>?_;clear z1
    dsimp only at this
    rw[vj hi]at this
    exact Sn this
  refine zc hi ?_
  have hle:es.length≤sizeLine:=by refine zc F.length ?_;exact yv hz (by decide)
  refine zb (wpAny_rule (wpAny_updateDictKeys (hz:=by exact hle) (s:={s3 with toks:=s3.toks+1}) hg rfl (wpAny_pure ⟨.none,rfl,wpAny_pure ?_⟩)))
  let fe:Array yE→Array yE:=fun es=>es.push ⟨(knd x.w).hash y,.str y t,v⟩
  have sb:yo d s3.heap (s3.heap.update d (Zs fe)):=zW ..
  have hpush:Zs fe (tJ es n)=tJ (es++[(⟨zz x.w.params y,.str y t,v⟩:yE)]) (n+1):=by
   refine(?_:Zs fe {cls:=.type "dict",data:=.dict es.toArray n}={cls:=.type "dict",data:=.dict (es++[(⟨zz x.w.params y,.str y t,v⟩:yE)]).toArray (n+1)})
   have:es.toArray.push ⟨(knd x.w).hash y,.str y t,v⟩=(es++[(⟨zz x.w.params y,.str y t,v⟩:yE)]).toArray:=qe _ _
   refine xv this ?_
   rfl
  have g:(s3.heap.update d (Zs fe)).get? d=some (tJ (es++[(⟨zz x.w.params y,.str y t,v⟩:yE)]) (n+1)):=
   (zP _ hg (by refine zc hpush ?_;rfl)).trans (congrArg some hpush)
  have ht:uG x d:=.inr (.inr (zH hd))
  have nm:=S3.nonMut1 ht sb
  have hnew:qn x.w x.ρ (s3.heap.update d (Zs fe)) d d (.dict (fs++[(y,av)])):=⟨rfl,_,_,g,(F.mono nm).snoc (cv.mono nm)⟩
  have S4:=S3.setObj (tk:=s3.toks+1) hj ha hd sb g rfl hnew
  exact f .next .next fr _ _ h3 rfl S4 (K1.trans (K2.trans (K3.trans (St.kept1 ht sb))))) hs
theorem zL.attr_set{K:uQ}(X:K.In x.B){n attr:Str}{np pos:ZJ}{ke:AV→List AObj→Prop}(h:zL x fr H (zR (.Name n np) x.env) fun o H1=>∃i C fs S,o=.obj i∧H1[i]?=some (.inst C fs)∧xA K C attr=true∧lk attr fs=some (YT x.w S)∧ke (YT x.w S) H1):zL x fr H (zR (.Attribute (.Name n np) attr pos) x.env) ke:=fun s S U E f =>
 YI (h s S _ E fun v o H1 s1 h1 c1 S1 K1=>by
  refine xd h1 fun i C fs z3=>?_;clear h1;refine kO z3 fun Sw z5 hi hT hl h1=>?_;clear z3;subst z5
  refine zt (qI c1) fun a' ha' z2=>?_;subst z2
  refine x7 (S1.objs _ _ hi) fun a d ha hd g1 z5=>?_;refine yW z5 fun es q g2 g3=>?_;clear z5
  rw[ha']at ha;(replace ha:=zf ha;subst ha)
  refine zt (g3.look hl) fun u hu cu=>yW (Uv cu) fun a2 n2 z2 z3=>?_;subst z2;clear z3
  exact dO (X.keeps S1.base) g1 g2 hT hu rfl (f _ _ H1 _ h1 cu (S1.ext (Ext.toks s1 _)) (K1.trans ((Ext.toks s1 _).kept x))))
end
end
section
noncomputable def wW:List yX:=wt (zm (x6 (zm pw.main.body 36)) 1)
theorem Ka(P:zp):FnIs P 823 (wU (iR P)) wW:=⟨⟨iR P,⋯,rfl⟩,⋯,rfl,⋯,⋯,⋯,rfl,rfl,rfl,⋯⟩
noncomputable abbrev ri(P:zp):List (Str×NameKind):=(wU (iR P)).scope.names
noncomputable abbrev qo(P:zp):Stat:=Ze P (ri P) [] FB fun U U=>none
noncomputable def RD(w:ya)(S:List Str)(j:Nat):AObj:=.inst 826 [(za "_mods",YT w S),(za "_dirs",.list []),(za "_ignore",.obj j)]
noncomputable abbrev Yw(i:Nat)(f c:Str):y3:=[(za "self",.obj i),(za "filename",.str f),(za "modulename",.str c)]
noncomputable abbrev ua(i:Nat)(f c m:Str):y3:=[(za "self",.obj i),(za "filename",.str f),(za "modulename",.str c),(za "mod",.str m)]
noncomputable def Nz(e:Expr):Expr:=wx (xE e) 0
noncomputable def Iv(e:Expr):Expr:=wx (xE e) 0
noncomputable def Iw(e:Expr):Expr:=wx (xE e) 1
noncomputable def LO(s:yX):List yX:=(xB s).2.1
noncomputable def eF(s:yX):Expr:=wx (xT s) 1
noncomputable abbrev kU(n:Nat):Expr:=uy (zm wW n)
noncomputable abbrev Yn(n:String)(e:Expr):Expr:=.Attribute (.Name (za "self") (Nz e).pos) (za n) e.pos
noncomputable abbrev Cd(e:Expr):Expr:=.Name (za "modulename") e.pos
noncomputable abbrev N7:Expr:=.Compare (Cd (Ty (kU 0))) [.In] [Yn "_ignore" (Tw (kU 0))] (kU 0).pos
noncomputable abbrev R0:Expr:=TZ (zm (ux (zm wW 0)) 0)
theorem BR:wW=[zm wW 0,zm wW 1,zm wW 2,zm wW 3,zm wW 4,zm wW 5,zm wW 6]:=⋯
theorem Gz:zm wW 0=.If N7 [.Return (some (.Subscript (Yn "_ignore" (Iv R0)) (Cd (Iw R0)) R0.pos)) (zm (ux (zm wW 0)) 0).pos] [] (zm wW 0).pos:=⋯
noncomputable abbrev Cp(st:yX):yX:=.Assign [.Subscript (Yn "_ignore" (Iv (eF st))) (Cd (Iw (eF st))) (eF st).pos] (wV st) st.pos
theorem Gy:zm wW 1=.If (.Compare (Cd (Ty (kU 1))) [.In] [Yn "_mods" (Tw (kU 1))] (kU 1).pos) [Cp (zm (ux (zm wW 1)) 0),zm (ux (zm wW 1)) 1] [] (zm wW 1).pos:=⋯
theorem Gx:zm wW 2=.For (.Name (za "mod") (pq (zm wW 2))) (Yn "_mods" (UE (zm wW 2))) [.If (uy (zm (t5 (zm wW 2)) 0)) [Cp (zm (ux (zm (t5 (zm wW 2)) 0)) 0),zm (ux (zm (t5 (zm wW 2)) 0)) 1] [] (zm (t5 (zm wW 2)) 0).pos] [] (zm wW 2).pos:=⋯
theorem Gw:zm wW 4=.For (.Name (za "d") (pq (zm wW 4))) (Yn "_dirs" (UE (zm wW 4))) (t5 (zm wW 4)) [] (zm wW 4).pos:=⋯
theorem Gv:zm wW 5=Cp (zm wW 5):=⋯
end
section
section
variable (P:zp) (x:Cx) (H:Hp) (i:Nat) (f c m:Str) (p:ZJ)
theorem WL(k:AV→Hp→Prop):(vF (qo P) x 20).e (.Name (za "self") p) (Yw i f c) H k=k (.obj i) H:=⋯
theorem bp(k:AV→Hp→Prop):(vF (qo P) x 20).e (.Name (za "self") p) (ua i f c m) H k=k (.obj i) H:=⋯
theorem Uy(k:AV→Hp→Prop):(vF (qo P) x 20).e (.Name (za "modulename") p) (Yw i f c) H k=k (.str c) H:=⋯
theorem iH(k:AV→Hp→Prop):(vF (qo P) x 20).e (.Name (za "modulename") p) (ua i f c m) H k=k (.str c) H:=⋯
theorem FK(k:AV→Hp→Prop):(vF (qo P) x 20).e (wV (zm (ux (zm wW 1)) 0)) (Yw i f c) H k=k (.int 1) H:=⋯
theorem FJ(k:AV→Hp→Prop):(vF (qo P) x 20).e (wV (zm (ux (zm (t5 (zm wW 2)) 0)) 0)) (ua i f c m) H k=k (.int 1) H:=⋯
theorem FI(k:AV→Hp→Prop):(vF (qo P) x 20).e (wV (zm wW 5)) (ua i f c m) H k=k (.int 0) H:=⋯
theorem EF(k:AFlow→y3→Hp→Prop):(vF (qo P) x 20).s [zm (ux (zm wW 1)) 1] (Yw i f c) H k=k (.ret (.int 1)) (Yw i f c) H:=⋯
theorem EE(k:AFlow→y3→Hp→Prop):(vF (qo P) x 20).s [zm (ux (zm (t5 (zm wW 2)) 0)) 1] (ua i f c m) H k=k (.ret (.int 1)) (ua i f c m) H:=⋯
theorem ED(k:AFlow→y3→Hp→Prop):(vF (qo P) x 20).s [zm wW 3] (ua i f c m) H k=k .next (ua i f c m) H:=⋯
theorem EC(k:AFlow→y3→Hp→Prop):(vF (qo P) x 20).s [zm wW 6] (ua i f c m) H k=k (.ret (.int 0)) (ua i f c m) H:=⋯
theorem Em(k:Bool→Hp→Prop):(vF (qo P) x 20).b (uy (zm (t5 (zm wW 2)) 0)) (ua i f c m) H k=Ua .Add (.str m) (.str (za ".")) fun a=>Us [.str c,a] [] H fun r H1=>YP r fun b=>k b H1:=⋯
theorem Ei:xp (za "mod") (.str m) (Yw i f c)=ua i f c m:=⋯
theorem Eh(m':Str):xp (za "mod") (.str m) (ua i f c m')=ua i f c m:=⋯
end
theorem i7(hi:H[i]?=some (.inst C fs))(hl:lk n fs=some av)(ht:(T C n&&fK av)=true)(h:k av):dQ T (.obj i) n H k:=by
 show ZE H[i]? _
 refine zc hi ?_
 show xW (lk n fs) _
 exact zc hl (y7 ht h)
noncomputable def XI(S:List Str)(c:Str):Bool:=S.contains c||S.any fun m=>vL c (m++za ".")
noncomputable def y6(S:List Str)(c:Str):Int:=bif XI S c then 1 else 0
def cG(w:ya):yG:=fun avs kvs H k=>kvs=[]∧∃(i j:Nat) (f c:Str) (S:List Str) (fs:List (Str×AV)),avs=[.obj i,.str f,.str c]∧H[i]?=some (RD w S j)∧H[j]?=some (.dict fs)∧(∃k1 k2,k1∈S∧k2∈S∧k1≠k2)∧fs.length≤100000∧(∀m∈S,m.length≤100000) ∧
 match lk c fs with
 |some av=>k av H
 |none=>k (.int (y6 S c)) (H.set j (.dict (fs++[(c,.int (y6 S c))])))
theorem E9:(KF P).lookup 1=some (MO P):=⋯
section
variable {x:Cx} {n:Nat} {w:ya} {fr:y3} {H:Hp} {i j:Nat} {f c:Str} {S:List Str} {fs:List (Str×AV)}
theorem gp(Z:Sits n w (ri w.params) [] FB (fun U U=>none) x)(hs:∀p (k:AV→Hp→Prop),(vF (qo w.params) x 20).e (.Name (za "self") p) fr H k=k (.obj i) H)(hi:H[i]?=some (RD w S j))(h:k (.obj j) H):
  zL x fr H (zR (Yn "_ignore" e) x.env) k:=by
 refine zL.attr (K:=KF w.params) (T:=DT) (by refine xv Z.hw ?_;exact Z.base.K) (TI _) ((yh Z.fits 20).e _ _ _ _ ?_)
 exact zc (hs ..) (i7 hi ⋯ ⋯ h)
theorem Br(Z:Sits n w (ri w.params) [] FB (fun U U=>none) x)(hs:∀p (k:AV→Hp→Prop),(vF (qo w.params) x 20).e (.Name (za "self") p) fr H k=k (.obj i) H)(hi:H[i]?=some (RD w S j))(h:k (.list []) H):
  zL x fr H (zR (Yn "_dirs" e) x.env) k:=by
 refine zL.attr (K:=KF w.params) (T:=DT) (by refine xv Z.hw ?_;exact Z.base.K) (TI _) ((yh Z.fits 20).e _ _ _ _ ?_)
 exact zc (hs ..) (i7 hi ⋯ ⋯ h)
theorem iI(Z:Sits n w (ri w.params) [] FB (fun U U=>none) x)(hs:∀p (k:AV→Hp→Prop),(vF (qo w.params) x 20).e (.Name (za "self") p) fr H k=k (.obj i) H)(hi:H[i]?=some (RD w S j))(h:k (YT x.w S) H):
  zL x fr H (zR (Yn "_mods" e) x.env) k:=by
 refine zL.attr_set (K:=KF w.params) (by refine xv Z.hw ?_;exact Z.base.K) ((yh Z.fits 20).e _ _ _ _ ?_)
 refine zc (hs ..) ?_
 exact⟨i,826,_,S,rfl,hi,TI _ 826 _ ⋯,by refine zc Z.hw ?_;kernel_rfl,h⟩
theorem fx(Z:Sits n w (ri w.params) [] FB (fun U U=>none) x){st:yX}{v:Int}(hs:∀p (k:AV→Hp→Prop),(vF (qo w.params) x 20).e (.Name (za "self") p) fr H k=k (.obj i) H)(hm:∀p (k:AV→Hp→Prop),(vF (qo w.params) x 20).e (.Name (za "modulename") p) fr H k=k (.str c) H)(he:∀(k:AV→Hp→Prop),(vF (qo w.params) x 20).e (wV st) fr H k=k (.int v) H)(hi:H[i]?=some (RD w S j))(hj:H[j]?=some (.dict fs))(hl:lk c fs=none)(hz:fs.length≤100000)(hc:U8 (wV st)=true){k:AFlow→y3→Hp→Prop}(h:k .next fr (H.set j (.dict (fs++[(c,.int v)])))):
  zQ x fr H (tx (Cp st) x.env) k:=by
 refine zQ.dict_new (vJ hc) ((yh Z.fits 20).e _ _ _ _ ?_)
 refine zc (he ..) (gp Z hs hi ((yh Z.fits 20).e _ _ _ _ ?_))
 exact zc (hm ..) ⟨j,fs,c,rfl,rfl,hj,hl,hz,h⟩
end
end
section
theorem Gd(hb:∀v1 v2 v3,qN fd ⟨[v1,v2,v3],[]⟩=pure [(n1,v1),(n2,v2),(n3,v3)]):V3 x fd [a1,a2,a3] [] [(n1,a1),(n2,a2),(n3,a3)]:=fun s fr H vs kws S c1 c2=>by
 cases c2
 (refine xk c1 fun v r z2 cv cr=>?_;clear c1;subst z2);obtain⟨v',r,rfl,cv',cr⟩:=cr;obtain⟨v'',r,rfl,cv'',cr⟩:=cr;subst cr
 exact⟨_,qx (hb v v' v''),⟨v,_,rfl,cv,⟨v',_,rfl,cv',⟨v'',_,rfl,cv'',rfl⟩⟩⟩⟩
theorem FR(m:Str)(h:m.length≤100000):m.length+(za ".").length≤sizeLine:=by
 have e:(za ".").length=1:=⋯
 refine zc e (zc zy ?_);exact zN 0x186a053510000007311350 [m.length] h rfl
theorem jC(h:k (.bool (vL c y)) H):Us [.str c,.str y] [] H k:=h
theorem sP(B:Base n x)(hn:n<970):y9 x (.ref 823) (cG x.w):=by
 refine(QQ (S:=cG x.w) B (zN 0x3ca33523de3352 [n] hn rfl) (Ka _) (wr:=[]) (F:=FB) (DP:=fun U U=>none) rfl (fun U B' U=>uO) (fun U U U=>xX) fun avs kvs H k h=>?_).call
 refine zK h fun z0 z1=>?_;clear h;subst z0;refine xd z1 fun i j f z5=>?_;clear z1;refine Wj z5 fun c S fs z9 hi hj z12=>?_;clear z5;subst z9;refine Qi z12 fun z13 hz hS h=>?_;clear z12;obtain⟨k1,k2,m1,m2,ne⟩:=z13
 refine⟨_,Gd (n1:=za "self") (n2:=za "filename") (n3:=za "modulename") (fun v1 v2 v3=>⋯),⋯,fun x' Z=>?_⟩
 refine(?_:zQ x' (Yw i f c) H _ _)
 have hB:x'.B.get? Qu=some (MO x'.w.params):=Z.base.K _ _ E9
 have hk:=Z.fits.fn
 have hh:=Z.base.room.hh
 refine zc BR (zQ.cons (zc Gz (zQ.if_ (xe.in_dict ⋯ hB ((yh Z.fits 20).e _ _ _ _ ?_)))))
 refine(?_:(vF (qo x.w.params) x' 20).e _ (Yw i f c) H _)
 refine zw (Uy ..) (⟨c,rfl,gp Z (fun p k=>WL ..) hi ⟨j,fs,rfl,hj,fun hq=>?_,fun hq=>?_⟩⟩)
 ·-- the answer is kept
  cases hl:lk c fs with
  |none=>rw[hl]at hq;exact fT hq
  |some av =>
   rw[hl]at h
   refine zQ.cons (zQ.ret (zL.dict_at (gp Z (fun p k=>WL ..) hi ((yh Z.fits 20).e _ _ _ _ ?_))))
   refine(?_:(vF (qo x.w.params) x' 20).e _ (Yw i f c) H _)
   exact zw (Uy ..) ⟨j,fs,c,av,rfl,rfl,hj,hl,h⟩
 cases hl:lk c fs with
 |some av=>rw[hl]at hq;exact tF hq
 |none =>
 rw[hl]at h
 refine zQ.nil ?_
 dsimp only at h ⊢
 refine zQ.cons (zc Gy (zQ.if_ (xe.in_set ⋯ ((yh Z.fits 20).e _ _ _ _ ?_))))
 refine(?_:(vF (qo x.w.params) x' 20).e _ (Yw i f c) H _)
 refine zw (Uy ..) (⟨c,rfl,iI Z (fun p k=>WL ..) hi ⟨S,rfl,fun hq=>?_,fun hq=>?_⟩⟩)
 ·-- the call is a name
  have ht:y6 S c=1:=by unfold y6 XI;refine zc hq ?_;rfl
  rw[ht]at h
  refine zQ.cons (fx Z (v:=1) (fun p k=>WL ..) (fun p k=>Uy ..) (fun k=>FK ..) hi hj hl hz ⋯ ?_)
  refine(yh Z.fits 20).s _ _ _ _ ((?_:(vF (qo x.w.params) x' 20).s _ (Yw i f c) _ _))
  exact zw (EF ..) h
 refine zQ.nil (zQ.cons (zc Gx ?_))
 have hw:Wr x' (za "mod"):=.inl ((xl Z.fits _).trans ⋯)
 refine zQ.for_set hk hw hh (fun U=>rfl) (iI Z (fun p k=>WL ..) hi ⟨S,k1,k2,rfl,m1,m2,ne,fun ks km=>⟨fun rest fr1 H1=>H1=H∧∃done ks',rest=ks'.map AV.str∧ks=done++ks'∧(∀m∈done,vL c (m++za ".")=false)∧((done=[]∧fr1=Yw i f c)∨∃m,fr1=ua i f c m),⟨rfl,[],ks,rfl,rfl,fun m hm=>(by cases hm),.inl ⟨rfl,rfl⟩⟩,fun fr1 H1 hJ=>?_,fun I a rest fr1 H1 hJ=>?_⟩⟩)
 ·-- no name tQ the call
  refine zK hJ fun z0 z1=>?_;clear hJ;subst z0;refine x7 z1 fun done ks' hr hks hd hf=>?_;clear z1
  have hks':ks'=[]:=by cases ks' with|nil=>rfl|cons a b=>exact nC hr
  subst hks'
  rw[yB]at hks
  subst hks
  have hf:∃m,fr1=ua i f c m:=by
   rcases hf with⟨e,-⟩|hf
   ·subst e;exact absurd ((km k1).mpr m1) (by simp)
   ·exact hf
  refine yf hf fun m z1=>?_;clear hf;subst z1
  have ht:y6 S c=0:=by
   unfold y6 XI
   refine zc hq ?_
   have:(S.any fun m=>vL c (m++za "."))=false:=by
    rw[List.any_eq_false]
    intro m hm
    refine zc (hd m ((km m).mpr hm)) ?_
    decide
   refine zc this ?_;rfl
  rw[ht]at h
  refine(?_:zQ x' (ua i f c m) H1 (xN ([zm wW 3]++[zm wW 4,zm wW 5,zm wW 6]) x'.env) _)
  refine zQ.app ((yh Z.fits 20).s _ _ _ _ ?_)
  refine(?_:(vF (qo x.w.params) x' 20).s _ (ua i f c m) _ _)
  refine zw (ED ..) (zQ.cons (zc Gw ?_))
  have hwd:Wr x' (za "d"):=.inl ((xl Z.fits _).trans ⋯)
  refine zQ.for_ hk hwd hh (fun U=>rfl) (Br Z (fun p k=>bp ..) hi ⟨[],fun rest fr1 H2=>rest=[]∧fr1=ua i f c m∧H2=H1,rfl,trivial,⟨rfl,rfl,rfl⟩,fun fr1 H2 hJ=>?_,fun I a rest fr1 H2 hJ=>?_⟩)
  ·refine yU hJ fun z0 z1 e=>?_;clear hJ;clear z0;subst z1
   subst e
   refine zQ.cons (zc Gv (fx Z (v:=0) (fun p k=>bp ..) (fun p k=>iH ..) (fun k=>FI ..) hi hj hl hz ⋯ ((yh Z.fits 20).s _ _ _ _ ((?_:(vF (qo x.w.params) x' 20).s _ (ua i f c m) _ _)))))
   exact zw (EC ..) h
  ·cases hJ.1
 ·-- a name is tried
  refine zK hJ fun z0 z1=>?_;clear hJ;subst z0;refine x7 z1 fun done ks' hr hks hd hf=>?_;clear z1
  cases ks' with
  |nil=>exact cN hr
  |cons m ks' =>
   cases hr
   have hup:xp (za "mod") (.str m) fr1=ua i f c m:=by
    rcases hf with⟨-,rfl⟩|⟨m',rfl⟩
    ·exact Ei ..
    ·exact Eh ..
   refine zc hup ?_
   have ZI:=Z.wi [I]
   have hmS:m∈S:=(km m).mp (by refine zc hks ?_;exact zD _ (.head _))
   refine zQ.cons (zQ.if_ (x:=x'.wi [I]) ((yh ZI.fits 20).b _ _ _ _ ?_))
   refine(?_:(vF (qo x.w.params) (x'.wi [I]) 20).b _ (ua i f c m) _ _)
   refine zw (Em ..) (add_str (FR m (hS m hmS)) (jC ?_))
   refine⟨fun hq2=>?_,fun hq2=>?_⟩
   ·have ht:y6 S c=1:=by
     unfold y6 XI
     have:(S.any fun m=>vL c (m++za "."))=true:=YN.mpr ⟨m,hmS,hq2⟩
     refine zc this (zc (Bool.or_true ..) ?_);rfl
    rw[ht]at h
    refine zQ.cons (fx ZI (v:=1) (fun p k=>bp ..) (fun p k=>iH ..) (fun k=>FJ ..) hi hj hl hz ⋯ ?_)
    refine(yh ZI.fits 20).s _ _ _ _ ((?_:(vF (qo x.w.params) (x'.wi [I]) 20).s _ (ua i f c m) _ _))
    exact zw (EE ..) h
   ·refine zQ.nil (zQ.nil ?_)
    refine⟨rfl,done++[m],ks',rfl,by refine zc hks (zc (zA ..) ?_);rfl,fun m' hm'=>?_,.inr ⟨m,rfl⟩⟩
    rcases zv.mp hm' with hm'|hm'
    ·exact hd m' hm'
    ·refine zc (zd.mp hm') ?_;exact hq2
end
section
set_option tactic.hygienic true
theorem St.pushD(S:St x fr H s)(X:Ext s s')(hH:x.ρ.ob.length=H.length)(hδ:x.δ.length=H.length)(nd:s.heap.get? d=none)(hd:s'.heap.get? d=some (tJ es n))(hf:vC x.w ⟨x.ρ.ob++[d],x.ρ.op⟩ s'.heap fs es):St (x.push d d) fr (H++[.dict fs]) s':=by
 have nm:yH x.ρ.op s.heap s'.heap:=.of_all X.keep
 have F:=S.far nd
 refine yU S.frame fun z0 c1 c2=>?_;obtain⟨mm,nn,f⟩:=z0
 refine⟨fun b o e=>X.keep _ _ (S.base b o e),fun b t=>?_,fun b t=>?_,⟨⟨mm,nn.keeps X.keep,fun y av e q=>?_⟩,fun y av e q=>?_,fun y e=>?_⟩,fun i o e=>?_,S.lim.keeps X.keep,?_,⟨fun q=>?_,fun c hc=>⟨fun q=>?_,(S.own.2 c hc).2⟩⟩,S.cnod,fun b q=>?_,S.ocs,?_,fun c q=>?_,fun L q=>?_⟩
 ·rcases t with t|t|t
  ·exact S.apart b (.inl t)
  ·exact S.apart b (.inr (.inl t))
  ·rcases zv.mp t with t|t
   ·exact S.apart b (.inr (.inr t))
   ·refine zc (zd.mp t) ?_;exact⟨F.ba,F.st⟩
 ·have old:uG x b→∃o,s'.heap.get? b=some o∧u8 o.cls=true:=fun t=>by
   exact zt (S.kinds b t) fun o h m=>⟨o,X.keep b o h,m⟩
  rcases t with t|t|t
  ·exact old (.inl t)
  ·exact old (.inr (.inl t))
  ·rcases zv.mp t with t|t
   ·exact old (.inr (.inr t))
   ·refine zc (zd.mp t) ?_;exact⟨_,hd,rfl⟩
 ·refine zt (f y av e q) fun v p r=>?_;exact⟨v,p,(r.mono nm).grow⟩
 ·refine xk (c1 y av e q) fun cc v p b r=>?_;exact⟨cc,v,p,X.keep _ _ b,(r.mono nm).grow⟩
 ·refine yW (c2 y e) fun cc v p b=>?_;exact⟨cc,v,p,X.keep _ _ b⟩
 ·by_cases hi:i<H.length
  ·rw[yu hi]at e
   refine xk (S.objs i o e) fun b d' p q r=>⟨b,d',by refine zc (yu (vB 1965454930 [i,x.ρ.ob.length,xH H] (ze hH.symm) hi rfl)) ?_;exact p,by refine zc (yu (vB 1965454930 [i,x.δ.length,xH H] (ze hδ.symm) hi rfl)) ?_;exact q,?_⟩
   refine qn.grow (X:=x.ρ.op) ?_
   cases o with
   |inst C fs=>(refine zK r fun r1 z1=>?_;clear r;refine yW z1 fun es n' r2 r3=>?_;clear z1);exact⟨X.keep _ _ r1,es,n',X.keep _ _ r2,r3.mono nm⟩
   |dict fs=>(refine zK r fun r1 z1=>?_;clear r;refine yW z1 fun es n' r2 r3=>?_;clear z1);exact⟨r1,es,n',X.keep _ _ r2,r3.mono nm⟩
  ·have hi2:=(yi.mp e).1
   simp at hi2
   have hi3:i=H.length:=zE (zN 4620046949 [i,xH H] hi2 rfl) (zN 25957 [xH H,i] (xy hi) rfl)
   subst hi3
   rw[xa (zX _)]at e
   simp at e
   subst e
   refine⟨d,d,by show(x.ρ.ob++[d])[_]?=_;refine xv hH ?_;simp,by show(x.δ++[d])[_]?=_;refine xv hδ ?_;simp,rfl,es,n,hd,hf⟩
 ·refine(?_:(x.δ++[d]).Nodup)
  exact uw.mpr ⟨S.nodup,by simp,fun b hb c hc z=>by rw[zd.mp hc]at z;exact F.de (z▸hb)⟩
 ·rcases zv.mp q with q|q
  ·exact S.own.1 q
  ·exact F.lo (zd.mp q).symm
 ·rcases zv.mp q with q|q
  ·exact(S.own.2 c hc).1 q
  ·exact F.ce ((zd.mp q)▸hc)
 ·refine yf (S.opn b q) fun o h=>?_;exact⟨o,X.keep _ _ h⟩
 ·refine(?_:(x.ρ.ob++[d]).length≤(H++[_]).length)
  simp;exact zN 25957 [x.ρ.ob.length,xH H] (ze hH) rfl
 ·refine yf (S.cex c q) fun o h=>?_;exact⟨o,X.keep _ _ h⟩
 ·refine yU (S.frs L q) fun c1 c2 z2=>?_;refine Qh z2 fun o es' ep h r=>?_;clear z2
  refine⟨c1,fun q2=>?_,o,es',ep,X.keep _ _ h,r⟩
  rcases zv.mp q2 with q2|q2
  ·exact c2 q2
  ·exact F.fr ((zd.mp q2)▸q)
theorem lI:evalEachOpt [some k] env=[some (zR k env)]:=by rfl
theorem pG{x:Cx}{A:y1}{E:zi→zg→Prop}{s:zg}{y:Str}{i:Int}{ky vy pos:ZJ}{env:Qx}{Q:zi→zg→Prop}(hk:∀(Q:zi→zg→Prop) (s:zg),(∀tk t,Q (.str y t) {s with toks:=tk})→zr (zu pw x.w) A (zR (.Constant (.str y) 0 ky) env) Q E s)(hv:∀(Q:zi→zg→Prop) (s:zg),(∀tk t,Q (.int i t) {s with toks:=tk})→zr (zu pw x.w) A (zR (.Constant (.int i) 0 vy) env) Q E s)(h:∀(h':xO) (tk:Nat) (t ti:Tok) (n:Nat),h'.get? s.heap.objs.size=some (tJ [⟨zz x.w.params y,.str y t,.int i ti⟩] n)→(∀b o,s.heap.get? b=some o→h'.get? b=some o)→Q (.ref s.heap.objs.size) {s with heap:=h',toks:=tk}):
  zr (zu pw x.w) A (zR (.Dict [some (.Constant (.str y) 0 ky)] [.Constant (.int i) 0 vy] pos) env) Q E s:=by
 have d0:(s.heap.push {cls:=.type "dict",data:=.dict #[]}).DictOf (knd x.w) s.heap.objs.size []:=⟨_,#[],0,zx _ rfl,⟨rfl,rfl,rfl⟩,rfl,fun e he=>by simp at he,.nil,wC⟩
 refine wpAny_Dict_pairs (knd:=knd x.w) (pairs:=[(zR (.Constant (.str y) 0 ky) env,do let v ←zR (.Constant (.int i) 0 vy) env;Cr pos;pure v)]) (by rfl) (by simp) (by simp) (evalPairs_cons (hk _ _ fun tk t=>zb (hv _ _ fun tk2 ti=>zb (xi (wpAny_pure (evalPairs_nil ?_))))))
 refine⟨[(y,.int i ti)],⟨by exact beq_self_eq_true _,rfl,trivial⟩,d0,fun h' hm sb=>?_⟩
 have hm:h'.DictOf (knd x.w) s.heap.objs.size [(y,.int i ti)]:=hm
 refine Wj hm fun o es ep ho z4 hd z6=>?_;clear hm;obtain⟨q1,q2,q3⟩:=z4;refine yU z6 fun hK hp z9=>?_;clear z6;clear z9
 have hkeep:∀b o,s.heap.get? b=some o→h'.get? b=some o:=fun b o e=>by
  have ne:b≠s.heap.objs.size:=vY (zY e)
  exact zc (sb.2 b ne) (zq _ e)
 obtain⟨el⟩:=es
 cases hp with
 |cons a1 a2 a3 =>
  rename_i e es
  cases a3
  refine zt (hK e (by simp)) fun k k1 k2=>yf (Value.isStrOf_shape (x:=y) (v:=e.key) a1) fun t' ht=>?_
  have hk:k=y:=(knd x.w).inj _ _ _ k1 a1
  subst hk
  refine h h' _ t' ti ep ?_ hkeep
  refine zc ho ?_
  obtain⟨c1,c2,c3,c4⟩:=o
  dsimp only at q1 q2 q3 hd
  subst q1 q2 q3 hd
  obtain⟨e1,e2,e3⟩:=e
  dsimp only at k2 ht a2
  subst ht a2 k2
  rfl
end
section
def mY(w:ya):yG:=fun avs kvs H k=>kvs=[]∧∃l:List Str,avs=[.list (l.map .str)]∧l.length+2<scanBound∧k (YT w l) H
theorem Ev(B:Base n x):y9 x (.type "set") (mY x.w):=fun fr H avs kvs k h s S vs kws c1 c2 Q E g=>by
 refine zK h fun z0 z1=>?_;clear h;subst z0;refine wO z1 fun l z3 hl h=>?_;clear z1;subst z3
 (refine xk (uq c1) fun v r z2 cv cr=>?_;clear c1;subst z2);replace cr:_=[]:=cr;subst cr
 cases c2
 exact gJ S cv hl B.room.hh fun a s' c' S' K'=>g _ _ _ s' h c' S' K'
noncomputable def Yr:List yX:=wt (zm (x6 (zm pw.main.body 36)) 0)
theorem Kb(P:zp):FnIs P 816 (wU (WN P)) Yr:=⟨⟨WN P,⋯,rfl⟩,⋯,rfl,⋯,⋯,⋯,rfl,rfl,rfl,⋯⟩
noncomputable abbrev Lk(P:zp):List (Str×NameKind):=(wU (WN P)).scope.names
noncomputable abbrev rl(w:ya):Stat:=Ze w.params (Lk w.params) [] (GS "set" (mY w) FB) fun U U=>none
noncomputable abbrev ZY(i:Nat)(l:AV):y3:=[(za "self",.obj i),(za "modules",l),(za "dirs",.none)]
noncomputable abbrev GV(n:String)(st:yX):yX:=.Assign [.Attribute (.Name (za "self") (Nz (eF st)).pos) (za n) (eF st).pos] (wV st) st.pos
theorem BS:Yr=[zm Yr 0,zm Yr 1,zm Yr 2]:=⋯
theorem GD:zm Yr 0=GV "_mods" (zm Yr 0):=⋯
theorem GC:zm Yr 1=GV "_dirs" (zm Yr 1):=⋯
theorem GB:zm Yr 2=GV "_ignore" (zm Yr 2):=⋯
noncomputable def N0(e:Expr):ZJ:=(wx (xE e) 1).pos
noncomputable def NZ(e:Expr):ZJ:=(wx (xE e) 0).pos
theorem GA:wV (zm Yr 2)=.Dict [some (.Constant (.str (za "<string>")) 0 (N0 (wV (zm Yr 2))))] [.Constant (.int 1) 0 (NZ (wV (zm Yr 2)))] (wV (zm Yr 2)).pos:=⋯
section
variable (w:ya) (x:Cx) (H:Hp) (i:Nat) (l:List AV) (p:ZJ)
theorem fS(k:AV→Hp→Prop):(vF (rl w) x 20).e (.Name (za "self") p) (ZY i (.list l)) H k=k (.obj i) H:=⋯
theorem FM(k:AV→Hp→Prop):(vF (rl w) x 20).e (wV (zm Yr 1)) (ZY i (.list l)) H k=k (.list []) H:=⋯
theorem FN(k:AV→Hp→Prop):(vF (rl w) x 20).e (wV (zm Yr 0)) (ZY i (.list l)) H k=YP (.list l) fun b=>tH (!b) (mY w [] [] H k) (mY w [.list l] [] H k):=⋯
end
theorem aU(hi:H[i]?=some (.inst C fs))(ht:(T C n&&decide (fs.length≤999))=true)(h:k (H.set i (.inst C (xp n v fs)))):cR T (.obj i) n v H k:=by
 show ZE H[i]? _
 exact zc hi (y7 ht h)
theorem Ck(B:Base n x):uz x (GS "set" (mY x.w) FB):=gU (Ev B) uO
noncomputable def Mm(w:ya)(l:List Str):AObj:=.inst 826 [(za "_mods",YT w l)]
noncomputable def LH(w:ya)(l:List Str):AObj:=.inst 826 [(za "_mods",YT w l),(za "_dirs",.list [])]
theorem Ml(w:ya)(l:List Str):AObj.inst 826 (xp (za "_mods") (YT w l) [])=Mm w l:=⋯
theorem Mk(w:ya)(l:List Str):AObj.inst 826 (xp (za "_dirs") (.list []) [(za "_mods",YT w l)])=LH w l:=⋯
theorem Mj(w:ya)(l:List Str)(j:Nat):AObj.inst 826 (xp (za "_ignore") (.obj j) [(za "_mods",YT w l),(za "_dirs",.list [])])=RD w l j:=⋯
noncomputable def XU:AObj:=.dict [(za "<string>",.int 1)]
end
section
theorem cP(H:List α)(a b:α):(H++[a]).set H.length b=H++[b]:=by simp
theorem dP(H:List α)(a:α):(H++[a])[H.length]?=some a:=by simp
theorem jM(H:List α)(a b c:α):(H++[a]++[b]).set H.length c=H++[c,b]:=by simp
theorem kH(H:List α)(a b:α):(H++[a]++[b])[H.length]?=some a:=by simp
theorem oS:(KF P).lookup 811=some (oT P):=⋯
theorem mr(i:Nat)(l:AV):vI [] (ZY i l)=ZY i l:=⋯
theorem Ah(B:Base n y)(hn:n<950)(S:St y fr (H0++[.inst 826 []]) s)(h1:y.ρ.ob.length=H0.length+1)(h2:y.δ.length=H0.length+1)(ha:y.ρ.ob[H0.length]?=some a0)(cv:y2 y.ρ s.heap (.list (l.map .str)) v)(hne:l≠[])(hl:l.length+2<scanBound)(g:∀j s',s.heap.get? j=none→Kept y s s'→St (y.more [j] [j]) fr (H0++[RD y.w l (H0.length+1),XU]) s'→R (.ok (.ret .none)) s'):
  y4 (zu pw y.w) y.A (.call (.ref 816) ⟨[.ref a0,v],[]⟩) R s:=by
 have I:=Kb y.w.params
 refine zt I.at_ fun fo ho hd=>?_
 have XK:=B.K.keeps S.base
 have nm:=I.names
 rw[zk,zk,zk]at nm
 refine zK nm fun z0 m4=>?_;clear nm;obtain⟨⟨m1,m2⟩,m3⟩:=z0
 have cons:∀p∈(wU (WN y.w.params)).scope.names,(wU (WN y.w.params)).scope.names.lookup p.1=some p.2:=fun p hp=>by
  have:=zJ.mp m1 p hp
  rw[beq_iff_eq,vE]at this;exact this
 have bind:Ve s (wU (WN y.w.params)) ⟨[.ref a0,v],[]⟩ [(za "self",.ref a0),(za "modules",v),(za "dirs",.none)]:=by
  refine uR (T:=811) (o:=oT y.w.params) (items:=#[.none,.none]) (n:=0) rfl (XK _ _ oS) rfl (by with_unfolding_all rfl) ⋯
 refine qU (x:=y) S (args:=⟨[.ref a0,v],[]⟩) (XK _ _ ho) hd (ud XK I.code) I.body bind (bavs:=ZY H0.length (.list (l.map .str))) (frc:=[])
  ⟨_,_,rfl,by exact⟨a0,ha,rfl⟩,_,_,rfl,cv,_,_,rfl,Yh,rfl⟩ (by refine zc I.clos ?_;exact Capt.nil m2) cons (fun p hp=>?_) I.co I.gen I.kind (xj B.room.de (by exact zN 0x3b633523e83352 [n] hn rfl)) fun env oc s1 eo hf S1 C1 n1 n2=>?_
 ·have hl:(ZY H0.length (.list (l.map .str))).all (fun p=>lk p.1 (wU (WN y.w.params)).scope.names==some .local||lk p.1 (wU (WN y.w.params)).scope.names==some .cell)=true:=⋯
  have:=zJ.mp hl p hp
  rw[wj,beq_iff_eq,beq_iff_eq,vE]at this
  exact this
 ·have Bz:Base (n+1) (y.at' (y.A.deeper env) env oc [] (env.locals::y.fs)):=B.deeper hf (by refine zc eo.sc (zc I.kind ?_);decide)
  generalize hz:y.at' (y.A.deeper env) env oc [] (env.locals::y.fs)=z at S1 Bz
  have hzw:z.w=y.w:=by refine xv hz ?_;rfl
  have hzA:z.A=y.A.deeper env:=by refine xv hz ?_;rfl
  have hze:z.env=env:=by refine xv hz ?_;rfl
  have hzo:z.ρ.ob=y.ρ.ob:=by refine xv hz ?_;rfl
  have hzd:z.δ=y.δ:=by refine xv hz ?_;rfl
  have fit:∀{z':Cx},Base (n+1) z'→z'.w=y.w→z'.env=env→z'.oc=oc→Fits (rl y.w) z':=fun{z'} B' hw he hoc=>by
   have:=Ck B'
   rw[hw]at this
   have F:=Yj B' (kinds:=Lk y.w.params) (wr:=[]) (by refine zc he (zc eo.sc ?_);exact I.kind) (by exact zc he (zc eo.sc rfl)) (by(rw[m3];refine zc m4 ?_);rfl) (fun m hm c hc=>by exact fT hm) (by refine zc he (zc eo.gl ?_);exact I.gl) (by refine zc he (zc eo.bi ?_);exact I.bi) this xX
   rw[hw]at F
   exact F
  have Fz:=fit Bz hzw hze (by refine xv hz ?_;rfl)
  have hKy:(KF y.w.params).In z.B:=by refine xv hzw ?_;exact Bz.K
  refine zc BS (xv hzA (xv hze (xv hzw ?_)))
  rw[mr]at S1
  let l':List AV:=l.map .str
  have R0:zQ z (ZY H0.length (.list l')) (H0++[.inst 826 []]) (tx (zm Yr 0) z.env) fun f fr1 H1=>f=.next∧fr1=ZY H0.length (.list l')∧H1=H0++[Mm y.w l]:=by
   refine zc GD ?_
   refine zQ.assign_attr (K:=KF y.w.params) (T:=DT) hKy (TI _) (vJ ⋯) ((yh Fz 20).e _ _ _ _ ?_)
   refine zw (FN ..) ?_
   refine y7 (by refine zw decide_eq_true_eq (zc (zj ..) (zc zy ?_));have:scanBound=4096:=rfl;exact vB 0x100043662135021000000735 [l.length,scanBound] hl (ze this) rfl) ?_
   have hemp:(!(!l'.isEmpty))=false:=by
    cases l with
    |nil=>exact absurd rfl hne
    |cons a b=>rfl
   refine(?_:tH (!(!l'.isEmpty)) _ _)
   refine zc hemp (zw tV ?_)
   refine⟨rfl,l,rfl,hl,(yh Fz 20).e _ _ _ _ ?_⟩
   refine zw (fS ..) ?_
   refine aU (dP _ _) ⋯ ⟨rfl,rfl,?_⟩
   exact zc (cP ..) (zc (Ml ..) rfl)
  have R1:zQ z (ZY H0.length (.list l')) (H0++[Mm y.w l]) (tx (zm Yr 1) z.env) fun f fr1 H1=>f=.next∧fr1=ZY H0.length (.list l')∧H1=H0++[LH y.w l]:=by
   refine zc GC ?_
   refine zQ.assign_attr (K:=KF y.w.params) (T:=DT) hKy (TI _) (vJ ⋯) ((yh Fz 20).e _ _ _ _ ?_)
   refine zw (FM ..) ?_
   refine(yh Fz 20).e _ _ _ _ ?_
   refine zw (fS ..) ?_
   refine aU (dP _ _) ⋯ ⟨rfl,rfl,?_⟩
   exact zc (cP ..) (zc (Mk ..) rfl)
  refine zO (R0 s1 S1 _ _ fun fl av fr1 H1 s2 q cf S2 K2=>?_)
  refine yU q fun z0 z1 z2=>?_;clear q;subst z0;subst z1;subst z2
  cases cf
  refine zO (R1 s2 S2 _ _ fun fl av fr1 H1 s3 q cf S3 K3=>?_)
  refine yU q fun z0 z1 z2=>?_;clear q;subst z0;subst z1;subst z2
  cases cf
  refine zO ?_
  refine zc GB ?_
  refine Zk ?_ (vJ ⋯)
  refine zc GA ?_
  refine pG (x:=z) (fun Q s h=>Yt (h _ _)) (fun Q s h=>wpAny_Constant_int (h _ _)) fun h' tk t ti nn hj kk=>?_
  let s4:zg:={s3 with heap:=h',toks:=tk}
  have X4:Ext s3 s4:=⟨⟨_,_,_,rfl⟩,kk⟩
  have nj3:s3.heap.get? s3.heap.objs.size=none:=by
   cases e:s3.heap.get? s3.heap.objs.size with
   |none=>rfl
   |some o=>exact absurd (zY e) (yI _)
  generalize hjj:s3.heap.objs.size=j at hj nj3
  have S4:St (z.push j j) (ZY H0.length (.list l')) ((H0++[LH y.w l])++[XU]) s4:=S3.pushD X4 (by refine zc hzo (zc h1 ?_);simp) (by refine zc hzd (zc h2 ?_);simp) nj3 (es:=[⟨zz z.w.params (za "<string>"),.str (za "<string>") t,.int 1 ti⟩]) (n:=nn) hj ⟨t,_,_,rfl,by exact⟨ti,rfl⟩,rfl⟩
  have Fp:=fit (z':=z.push j j) Bz.push hzw hze (by refine xv hz ?_;rfl)
  have hKp:(KF y.w.params).In (z.push j j).B:=hKy
  refine(yh Fp 20).e _ _ _ (fun o H2=>o=.obj H0.length∧H2=(H0++[LH y.w l])++[XU]) (by
   show(vF (rl y.w) (z.push j j) 20).e _ (ZY H0.length (.list l')) _ _
   refine zw (fS ..) ?_;exact⟨rfl,rfl⟩) s4 S4 _ _ fun vo o H2 s5 q c5 S5 K5=>?_
  refine zK q fun z0 z1=>?_;clear q;subst z0;subst z1
  have cj:y2 (z.push j j).ρ s5.heap (.obj (H0.length+1)) (.ref j):=by
   refine⟨j,?_,rfl⟩
   refine(?_:(z.ρ.ob++[j])[H0.length+1]?=some j)
   refine zc (xa (by rw[hzo,h1];exact zX _)) (zc hzo (zc h1 ?_))
   simp
  refine Wb (x:=z.push j j) (kk:=fun H3=>H3=H0++[RD y.w l (H0.length+1),XU]) hKp (TI _) (aU (kH _ _ _) ⋯ (by exact zc (Mj ..) (zc (jM ..) rfl))) S5 c5 cj fun H3 s6 q S6 K6=>?_
  subst q
  refine qb ?_
  have kz:∀c,uG z c→c∈y.δ∨s.heap.get? c=none:=fun c t=>by
   rcases t with t|t|t
   ·refine zc t (zc hze ?_);exact .inr n1
   ·rw[←hz]at t;exact .inr (n2 c t)
   ·rw[hzd]at t;exact .inl t
  have C3:Chg y s s3:=C1.on (K2.trans K3) kz
  have nd0:s.heap.get? j=none:=by
   cases e:s.heap.get? j with
   |none=>rfl
   |some o =>
    by_cases hd:j∈y.δ
    ·refine zt (S3.kinds j (.inr (.inr (by rw[hzd];exact hd)))) fun o' e' z2=>?_;clear z2
     rw[nj3]at e';exact nS e'
    ·refine zt (C3.keep j o e hd) fun o' e' z2=>?_;clear z2
     rw[nj3]at e';exact nS e'
  have C6:Chg y s s6:=(C3.on (X4.kept z) kz).on (K5.trans K6) fun c t=>by
   rcases t with t|t|t
   ·exact kz c (.inl t)
   ·exact kz c (.inr (.inl t))
   ·rcases zv.mp t with t|t
    ·exact kz c (.inr (.inr t))
    ·refine zc (zd.mp t) ?_;exact .inr nd0
  rw[hjj]at *
  subst hz
  exact g j s6 nd0 C6.kept (St.backN (more:=[]) S S6 (fun c q=>by refine zc (zd.mp q) ?_;exact nd0) C6)
end
section
theorem oj:makesIn (KF P) 826=true:=⋯
theorem Bi:Zp (KF P) (.ref 826) "__init__" = some (some (.ref 816)):=⋯
theorem Fs:typeIn (KF P) (.ref 816)=some (.type "function"):=⋯
theorem AQ:qi (KF P) (.ref 826)=true:=⋯
theorem j9(B:Base n x)(hn:n<940)(Z:St x fr H0 s)(h1:x.ρ.ob.length=H0.length)(h2:x.δ.length=H0.length)(cv:y2 x.ρ s.heap (.list (l.map .str)) v)(hne:l≠[])(hl:l.length+2<scanBound)(g:∀a0 d0 j s',s.heap.get? a0=none→s.heap.get? d0=none→s.heap.get? j=none→Kept x s s'→St (x.more [a0,j] [d0,j]) fr (H0++[RD x.w l (H0.length+1),XU]) s'→R (.ok (.ret (.ref a0))) s'):
  y4 (zu pw x.w) x.A (.call (.ref 826) ⟨[v],[]⟩) R s:=by
 obtain⟨hp,gn,dr,tk,os⟩:=s
 have XK:=B.K.keeps Z.base
 refine make_core (makes_of XK oj) (uu XK Bi) (fun self=>Cv XK self Fs) (.inl rfl) ?_
 have e:=tL (show(x.A.under (.builtin "type.__call__" ⟨[.ref 826,v],[]⟩)).handled=x.A.handled from rfl) (tL (show(x.A.under (.builtin "type.__call__" ⟨[.ref 826,v],[]⟩)).depth=x.A.depth+1 from rfl)
  (tL (show(x.A.under (.builtin "type.__call__" ⟨[.ref 826,v],[]⟩)).frames=x.A.frames from rfl) (show(x.A.under (.builtin "type.__call__" ⟨[.ref 826,v],[]⟩)).units=x.A.units+1 from rfl)))
 generalize x.A.under (.builtin "type.__call__" ⟨[.ref 826,v],[]⟩)=A' at e ⊢
 refine Qi e fun e1 e2 e3 e4=>?_;clear e
 have B':Base (n+1) (x.wA A'):=B.like e1 e2 e3 e4
 let s:zg:=⟨hp,gn,dr,tk,os⟩
 let s1:zg:=⟨(hp.push xf).push (xx 826 hp.objs.size),gn,dr,tk,os⟩
 have X1:Ext s s1:=(Ext.push s _ s.toks).trans (Ext.push _ _ _)
 have ha:s1.heap.get? (hp.objs.size+1)=some (xx 826 hp.objs.size):=by show((hp.push xf).push (xx 826 hp.objs.size)).get? (hp.objs.size+1)=_;heap_get
 have hd:s1.heap.get? hp.objs.size=some xf:=by show((hp.push xf).push (xx 826 hp.objs.size)).get? hp.objs.size=_;heap_get
 have nd:s.heap.get? hp.objs.size=none:=by
  cases e:s.heap.get? hp.objs.size with
  |none=>rfl
  |some o=>exact absurd (zY e) (yI _)
 have na:s.heap.get? (hp.objs.size+1)=none:=by
  cases e:s.heap.get? (hp.objs.size+1)with
  |none=>rfl
  |some o=>exact absurd (zY e) (by show¬(hp.objs.size+1<hp.objs.size);exact Xc (Tg 1127685 [hp.objs.size] rfl))
 have S1:St ((x.wA A').push (hp.objs.size+1) hp.objs.size) fr (H0++[.inst 826 []]) s1:=(Z.wA (A:=A')).push X1 h1 h2 nd ha (es:=[]) (n:=0) hd rfl
 have cv1:y2 ((x.wA A').push (hp.objs.size+1) hp.objs.size).ρ s1.heap (.list (l.map .str)) v:=(cv.mono X1.nonMut).grow
 refine Ah (y:=(x.wA A').push (hp.objs.size+1) hp.objs.size) B'.push (zN 0x3ac33523b633113502 [n] hn rfl) S1 (by show(x.ρ.ob++_).length=_;simp[h1]) (by show(x.δ++_).length=_;simp[h2]) (by show(x.ρ.ob++[_])[H0.length]?=_;refine xv h1 ?_;simp) cv1 hne hl fun j s2 n2 K2 S2=>⟨rfl,?_⟩
 have n2':s.heap.get? j=none:=X1.none n2
 refine g (hp.objs.size+1) hp.objs.size j s2 na nd n2' ((X1.kept x).on K2 fun c t=>?_) ?_
 ·rcases t with t|t|t
  ·exact .inl (.inl t)
  ·exact .inl (.inr (.inl t))
  ·rcases zv.mp t with t|t
   ·exact .inl (.inr (.inr t))
   ·refine zc (zd.mp t) ?_;exact .inr nd
 ·have:(((x.wA A').push (hp.objs.size+1) hp.objs.size).more [j] [j]).wA x.A=x.more [hp.objs.size+1,j] [hp.objs.size,j]:=by
   simp[Cx.more,Cx.push,Cx.wA,zA]
  exact xv this S2.wA
end
section
def kW(x:Cx)(fr:y3)(H:Hp)(m:VL zi)(k:AV→List zI→List zI→Hp→Prop):Prop:=
 ∀s,St x fr H s→∀(Q:zi→zg→Prop) (E:zi→zg→Prop),(∀v a Y Z H' s',k a Y Z H'→y2 (x.more Y Z).ρ s'.heap a v→St (x.more Y Z) fr H' s'→(∀d∈Y,s.heap.get? d=none)→(∀d∈Z,s.heap.get? d=none)→Kept x s s'→Q v s')→zr (zu pw x.w) x.A m Q E s
def XW(x:Cx)(acc:zI)(e:Expr)(d n:Nat)(l:List AV)(fr:y3)(H:Hp)(k:List AV→List zI→List zI→Hp→Prop):Prop:=
 ∀s I vs,Far x I→¬uG x I→I∉x.ρ.op→AccOk x acc→vs.length=n→Yy s.heap acc vs→St (x.wi [I]) fr H s→It (x.wi [I]) I l s.heap→x.A.handled=none →
  ∀R:Zr→zg→Prop,(∀out ws Y Z fr' H' s',k out Y Z H'→ConL (x.more Y Z).ρ s'.heap out ws→St (x.more Y Z) fr' H' s'→(∀d∈Y,s.heap.get? d=none)→(∀d∈Z,s.heap.get? d=none)→Yy s'.heap acc (vs++ws)→KeptX x [I,acc] s s'→R (.ok .next) s') →
   y4 (zu pw x.w) x.A (.compLoop e d (.ref I) (.ref acc) x.env) R s
theorem dy(x:Cx):x.more [] []=x:=by
 obtain⟨w,A,env,B,⟨ob,op⟩,δ,oc,fs⟩:=x
 simp[Cx.more]
theorem QP(x:Cx)(Y Z Y' Z':List zI):(x.more Y Z).more Y' Z'=x.more (Y++Y') (Z++Z'):=by
 obtain⟨w,A,env,B,⟨ob,op⟩,δ,oc,fs⟩:=x
 simp[Cx.more,zA]
section
variable {x:Cx} {acc:zI} {d n:Nat} {l:List AV} {a:AV} {fr:y3} {H:Hp} {k:List AV→List zI→List zI→Hp→Prop} {elt:Expr} {gens:List tZ} {scope:qv} {pos tp ip:ZJ} {t:Str} {ifs:List Expr}
theorem XW.nil{body:zi→zi→Qx→VL Fin}(hturn:∀it acc env,qM (.ListComp elt gens scope pos) d it acc env=VQ (.ListComp elt gens scope pos) d t tp ip ifs it acc env (body it acc env))(h:k [] [] [] H):XW x acc (.ListComp elt gens scope pos) d n [] fr H k:=by
 intro s I vs F nt no ao hn ha S T hh R f
 refine u4.nil (k:=fun out fr' H'=>out=[]∧fr'=fr∧H'=H) hturn ⟨rfl,rfl,rfl⟩ s I vs F nt no ao hn ha S T hh R fun out ws fr' H' s' q1 q2 q3 q4 q5=>yU q1 fun z0 z1 z2=>?_;clear q1;subst z0;subst z1;subst z2
 exact f [] ws [] [] fr' H' s' h (by refine zc (dy ..) ?_;exact q2) (by refine zc (dy ..) ?_;exact q3) (fun d q=>by cases q) (fun d q=>by cases q) q4 q5
theorem Xp(K:KeptX x W s s')(hW:∀b∈W,∃o,s'.heap.get? b=some o)(hT:∀b,uG x b→∃o,s'.heap.get? b=some o)(h:s'.heap.get? c=none):s.heap.get? c=none:=by
 cases e:s.heap.get? c with
 |none=>rfl
 |some o =>
  by_cases h1:uG x c
  ·refine yf (hT c h1) fun o' e'=>?_;rw[h]at e';exact nS e'
  ·by_cases h2:c∈W
   ·refine yf (hW c h2) fun o' e'=>?_;rw[h]at e';exact nS e'
   ·(refine zt (K.keep c o e h1 h2) fun o' e' z2=>?_;clear z2);rw[h]at e';exact nS e'
theorem XW.emit(hturn:∀it acc env,qM (.ListComp elt gens scope pos) d it acc env=VQ (.ListComp elt gens scope pos) d t tp ip [] it acc env (dZ (.ListComp elt gens scope pos) d elt it acc env))(hk:x.env.scope.kind=.function)(hl:x.env.kindOf t=some .local∨(x.env.kindOf t=some .cell∧∀c,x.env.cells.lookup t=some c→c∈x.oc))(hn:n≤sizeLine)(h:∀I,Far x I→kW (x.wi [I]) (xp t a fr) H (zR elt x.env) fun v Y Z H2=>XW (x.more Y Z) acc (.ListComp elt gens scope pos) d (n+1) l (xp t a fr) H2 fun out Y' Z'=>k (v::out) (Y++Y') (Z++Z')):
  XW x acc (.ListComp elt gens scope pos) d n (a::l) fr H k:=by
 intro s I vs F nt no ao hvn ha S T hh R f
 have ne:acc≠I:=fun z=>no (z▸ao.op)
 refine xZ ?_
 refine(?_:zr _ x.A ((qM (.ListComp elt gens scope pos) d _ _ _).onRaise (fun y=>do noteFrame y x.env;gY y)) _ _ s)
 refine GY (zc (hturn ..) (zb (xi (zb (T.next (.head _) hh fun v h1 tk c1 T1 k1 e1=>?_)))))
 have F':Far (x.wi [I]) I:=⟨F.lo,F.ce,F.de,F.ob,F.ba,F.st,F.fr⟩
 have S1:St (x.wi [I]) fr H {s with heap:=h1,toks:=tk}:=S.other (.head _) F' nt k1 e1
 refine zb (x8 (a:=()) rfl (zb (b0 (wv (x:=x.wi [I]) (kk:=fun fr2 H2=>fr2=xp t a fr∧H2=H) hk hl ⟨rfl,rfl⟩ S1 c1 fun fr2 H2 s2 q S2 K2=>?_))))
 refine zK q fun z0 z1=>?_;clear q;subst z0;subst z1
 refine zb (wpAny_pure ?_)
 refine(?_:zr _ _ (dZ (.ListComp elt gens scope pos) d elt (.ref I) (.ref acc) x.env) _ _ _)
 refine zb (zb (h I F s2 S2 _ _ fun u b Y Z H3 s3 q c3 S3 fy fz K3=>?_))
 have kx0:KeptX x [I,acc] s {s with heap:=h1,toks:=tk}:=⟨⟨_,_,_,rfl⟩,fun b o e U m=>⟨o,k1 b o (fun z=>m (by refine zc z ?_;exact .head _)) e,.refl o⟩⟩
 have kx2:KeptX x [I,acc] s s2:=kx0.trans ⟨K2.rest,fun b o e n U=>K2.keep b o e n⟩
 have kx3:KeptX x [I,acc] s s3:=kx2.trans ⟨K3.rest,fun b o e n U=>K3.keep b o e n⟩
 refine yf ha fun m ea=>?_;clear ha
 have ea1:h1.get? acc=some {cls:=.type "list",data:=.seq ⟨vs⟩ m}:=k1 _ _ ne ea
 have ea2:=K2.keepN ea1 ao.nt rfl
 have ea3:=K3.keepN ea2 ao.nt rfl
 have hW:∀b∈[I,acc],∃o,s2.heap.get? b=some o:=fun b hb=>by
  rcases zn.mp hb with rfl|hb
  ·exact S2.opn _ (.head _)
  ·refine zc (zd.mp hb) ?_;exact⟨_,ea2⟩
 have hTs:∀b,uG x b→∃o,s2.heap.get? b=some o:=fun b tb=>let⟨o,e,_⟩:=S2.kinds b tb;⟨o,e⟩
 have fY:∀c∈Y,s.heap.get? c=none:=fun c hc=>Xp kx2 hW hTs (fy c hc)
 have fZ:∀c∈Z,s.heap.get? c=none:=fun c hc=>Xp kx2 hW hTs (fz c hc)
 have eI:∃o,s2.heap.get? I=some o:=S2.opn _ (.head _)
 have offY:∀{c},(∃o,s2.heap.get? c=some o)→c∉Y:=fun{c} ⟨o,e⟩ hc=>by rw[fy c hc]at e;exact nS e
 have offZ:∀{c},(∃o,s2.heap.get? c=some o)→c∉Z:=fun{c} ⟨o,e⟩ hc=>by rw[fz c hc]at e;exact nS e
 have far_more:∀{c},Far x c→(∃o,s2.heap.get? c=some o)→Far (x.more Y Z) c:=fun{c} Fc ex=>⟨Fc.lo,Fc.ce,fun q=>by
  rcases zv.mp q with q|q
  ·exact Fc.de q
  ·exact offZ ex q,fun q=>by
  rcases zv.mp q with q|q
  ·exact Fc.ob q
  ·exact offY ex q,Fc.ba,Fc.st,Fc.fr⟩
 have nt_more:∀{c},¬uG x c→(∃o,s2.heap.get? c=some o)→¬uG (x.more Y Z) c:=fun{c} nc ex tc=>by
  rcases tc with tc|tc|tc
  ·exact nc (.inl tc)
  ·exact nc (.inr (.inl tc))
  ·rcases zv.mp tc with tc|tc
   ·exact nc (.inr (.inr tc))
   ·exact offZ ex tc
 refine zb (append_at ea3 (fun h4 sb e4=>wpAny_pure (wpAny_pure ⟨rfl,?_⟩)) (by show vs.length≤_;refine zc hvn ?_;exact hn))
 have k4:∀b o,b≠acc→s3.heap.get? b=some o→h4.get? b=some o:=fun b o n e=>by refine zc (sb.2 b n) ?_;exact e
 have ao2:AccOk (x.more Y Z) acc:=⟨ao.op,far_more ao.far ⟨_,ea2⟩,nt_more ao.nt ⟨_,ea2⟩⟩
 have S3':St ((x.more Y Z).wi [I]) (xp t a fr) H3 s3:=S3
 have aoI:acc∈((x.more Y Z).wi [I]).ρ.op:=zD _ ao.op
 have FA:Far ((x.more Y Z).wi [I]) acc:=⟨ao2.far.lo,ao2.far.ce,ao2.far.de,ao2.far.ob,ao2.far.ba,ao2.far.st,ao2.far.fr⟩
 have S4:St ((x.more Y Z).wi [I]) (xp t a fr) H3 {s3 with heap:=h4}:=S3'.other aoI FA ao2.nt k4 ⟨_,e4⟩
 have nm4:yH (x.wi [I]).ρ.op s3.heap h4:=fun b o n e U=>k4 b o (fun z=>n (by refine zc z ?_;exact aoI)) e
 have T4:It (x.wi [I]) I l h4:=((T1.mono (S1.nonMut K2) fun o e=>K2.keepN e nt (T1.obj o e)).mono (S2.nonMut K3) fun o e=>K3.keepN e nt (by
  have T2:=T1.mono (S1.nonMut K2) fun o e=>K2.keepN e nt (T1.obj o e)
  exact T2.obj o e)).mono nm4 fun o e=>k4 _ _ (uF ne) e
 have T4':It ((x.more Y Z).wi [I]) I l h4:=by
  refine xd T4 fun fp n i z3=>?_;clear T4;refine x7 z3 fun P W w wi e z9=>?_;clear z3;refine yU z9 fun ho f c=>?_;clear z9
  exact⟨fp,n,i,P,W,w,wi,e,ho,f,fun j a q v p=>(c j a q v p).grow⟩
 have c3':y2 ((x.more Y Z).wi [I]).ρ s3.heap b u:=c3
 have nm4':yH ((x.more Y Z).wi [I]).ρ.op s3.heap h4:=nm4
 have c4:y2 ((x.more Y Z).wi [I]).ρ h4 b u:=c3'.mono nm4'
 refine q {s3 with heap:=h4} I (vs++[u]) (far_more F eI) (nt_more nt eI) no ao2 (by simp[hvn]) ⟨m+1,by exact zc e4 (zc (qe ..) rfl)⟩ S4 T4' hh R fun out ws Y' Z' fr' H' s' q3 q4 q5 q6 q7 q8 q9=>?_
 have nm5:yH ((x.more Y Z).wi [I]).ρ.op h4 s'.heap:=S4.nonMutX ⟨q9.rest,q9.keep⟩ fun b hb=>by
  rcases zn.mp hb with rfl|hb
  ·exact .head _
  ·refine zc (zd.mp hb) ?_;exact aoI
 have back4:∀{c},h4.get? c=none→s2.heap.get? c=none:=fun{c} hc=>by
  cases e:s2.heap.get? c with
  |none=>rfl
  |some o =>
   by_cases h1:uG x c
   ·refine zt (S4.kinds c (by
     rcases h1 with h1|h1|h1
     ·exact .inl h1
     ·exact .inr (.inl h1)
     ·exact .inr (.inr (xV _ h1)))) fun o' e' z2=>?_;clear z2
    rw[hc]at e';exact nS e'
   ·refine zt (K3.keep c o e h1) fun o' e' z2=>?_;clear z2
    by_cases hca:c=acc
    ·rw[hca,e4]at hc;exact Sn hc
    ·rw[k4 c o' hca e']at hc;exact Sn hc
 refine f (b::out) (u::ws) (Y++Y') (Z++Z') fr' H' s' q3 ?_ (by refine xv (QP ..) ?_;exact q5) (fun c hc=>?_) (fun c hc=>?_) (by rw[zA]at q8;exact q8) ?_
 ·exact xv (QP ..) ⟨u,ws,rfl,(((c4.mono nm5).close fun b q=>zD _ q:y2 (x.more Y Z).ρ s'.heap b u)).grow,q4⟩
 ·rcases zv.mp hc with hc|hc
  ·exact fY c hc
  ·exact Xp kx2 hW hTs (back4 (q6 c hc))
 ·rcases zv.mp hc with hc|hc
  ·exact fZ c hc
  ·exact Xp kx2 hW hTs (back4 (q7 c hc))
 ·have kB:KeptX x [I,acc] s3 {s3 with heap:=h4}:=⟨⟨_,_,_,rfl⟩,fun b o e U m=>⟨o,k4 b o (fun z=>m (by refine zc z ?_;exact .tail _ (.head _))) e,.refl o⟩⟩
  have kA:=kx3.trans kB
  refine⟨by refine xd kA.rest fun h t d e=>?_;refine xd q9.rest fun h' t' d' e'=>?_;exact⟨h',t',d',by exact zc e' (zc e rfl)⟩,fun c o e n m=>?_⟩
  refine zt (kA.keep c o e n m) fun o1 e1 r1=>zt (q9.keep c o1 e1 (fun tc=>by
   rcases tc with tc|tc|tc
   ·exact n (.inl tc)
   ·exact n (.inr (.inl tc))
   ·rcases zv.mp tc with tc|tc
    ·exact n (.inr (.inr tc))
    ·rw[fZ c tc]at e;cases e) m) fun o2 e2 r2=>?_
  exact⟨o2,e2,r1.trans r2⟩
end
end
section
theorem St.locals_ob(S:St x fr H s):x.env.locals∉x.ρ.ob:=fun q=>by
 obtain⟨i,hi,e⟩:=vq.mp q
 refine xk (S.objs i (H[i]'(yq hi S.ol)) (zC _)) fun b d p p2 r=>?_
 rw[zC hi,e]at p
 replace p:=zf p;subst p
 refine zt (S.kinds _ (.inl rfl)) fun o ho m=>?_
 cases z:(H[i]'(yq hi S.ol))with
 |inst C fs =>
  rw[z]at r
  rw[r.1]at ho;(replace ho:=zf ho;subst ho)
  exact fT m
 |dict fs =>
  rw[z]at r
  refine zK r fun z0 z1=>?_;clear r;subst z0;clear z1
  exact S.own.1 (zH p2)
section
variable {x:Cx} {fr:List (Str×AV)} {H:List AObj} {elt t0 iter:Expr} {ifs:List Expr} {rest:List tZ} {scope:qv} {pos:ZJ}
theorem gG(S:St x fr H s)(O:CompOk x scope){kk:List AV→List zI→List zI→List AObj→Prop}{E:zi→zg→Prop}(c:y2 x.ρ s.heap a v)(hi:u3 a=some l)(hok:uZ a)(hh:x.A.handled=none)(h:∀x' acc,Sub x scope x' acc→XW x' acc (.ListComp elt (⟨t0,iter,ifs,0⟩::rest) scope pos) 0 0 l (wf scope.names fr) H fun out Y Z H2=>kk out Y Z H2){R:zi→zI→Zr→zg→Prop}(fin:∀acc L m s' out Y Z H',kk out Y Z H'→St (x.more Y Z) fr H' s'→y2 (x.more Y Z).ρ s'.heap (.list out) (.ref acc)→Chg x s s'→s.heap.get? L=none→L∉Y→L∉Z→(∀d∈Y,s.heap.get? d=none)→(∀d∈Z,s.heap.get? d=none)→s'.heap.Ns L m→(∀o,s'.heap.get? L=some o→u8 o.cls=true)→R (.ref acc) L (.ok .next) s'):
  zr (zu pw x.w) x.A (XA v) (fun it s₂=>zr (zu pw x.w) x.A (newList []) (fun acc s₃ =>
   zr (zu pw x.w) x.A (vV scope x.env.globals (uN x.env.cells scope.names []) [] x.env.qual none .none (some x.env)) (fun cenv s₄ =>
    y4 (zu pw x.w) x.A (.compStart (.ListComp elt (⟨t0,iter,ifs,0⟩::rest) scope pos) 0 it acc {cenv with scope:=tw scope x.env}) (R acc cenv.locals) s₄) E s₃) E s₂) E s:=by
 refine uk hi hok c fun I s2 X2 n2 e2 T2=>?_
 have sz:∀{h:xO},h.get? h.objs.size=none:=fun{h}=>by
  cases e:h.get? h.objs.size with
  |none=>rfl
  |some o=>exact absurd (zY e) (yI _)
 refine yQ ?_ (by size_fits)
 let acc:=s2.heap.objs.size
 let s3:zg:={s2 with heap:=s2.heap.push {cls:=.type "list",data:=.seq ([]:List zi).toArray}}
 have X3:Ext s2 s3:=Ext.push s2 _ s2.toks
 have X13:=X2.trans X3
 have na:s.heap.get? acc=none:=by
  cases e:s.heap.get? acc with
  |none=>rfl
  |some o=>have:=X2.keep _ _ e;rw[sz]at this;exact nS this
 have ea:s3.heap.get? acc=some {cls:=.type "list",data:=.seq ⟨[]⟩}:=zx _ rfl
 have ne:I≠acc:=fun z=>by(refine yf e2 fun o e=>?_;clear e2);rw[z,sz]at e;exact nS e
 have hY:∀b∈[I,acc],s.heap.get? b=none:=fun b hb=>by
  rcases zn.mp hb with rfl|hb
  ·exact n2
  ·refine zc (zd.mp hb) ?_;exact na
 have S3:St (x.wi [I,acc]) fr H s3:=S.openE X13 [I,acc] hY fun b hb=>by
  rcases zn.mp hb with rfl|hb
  ·(refine yf e2 fun o e=>?_;clear e2);exact⟨o,X3.keep _ _ e⟩
  ·refine zc (zd.mp hb) ?_;exact⟨_,ea⟩
 have T3:It (x.wi [I,acc]) I l s3.heap:=(T2 _ hY).mono X3.nonMut fun o e=>X3.keep _ _ e
 have hcl:∀p∈scope.names,p.2=.free→∃c,x.env.cells.lookup p.1=some c:=fun p hp e=>by
  refine yU S.frame fun z0 z1 c2=>?_;clear z0;clear z1
  refine yW (c2 p.1 (O.clos p hp e)) fun c vo q z3=>?_;clear z3
  exact⟨c,q⟩
 have C:Capt (x.wi [I,acc]).ρ (x.wi [I,acc]).δ s3.heap scope.names (uN x.env.cells scope.names []) (wf scope.names fr):=by
  refine yU S3.frame fun z0 c1 c2=>?_;clear z0
  have lkc:∀{n},scope.names.lookup n=some .free→(uN x.env.cells scope.names []).lookup n=x.env.cells.lookup n:=fun{n} e=>by
   exact yf (aa (cells:=x.env.cells) (wG e)) fun c q=>zc q (zc ((tT hcl (vD q)).2) rfl)
  refine⟨fun n e=>?_,fun n av e=>?_,fun c hc=>?_,V2 S.cnod hcl O.nd⟩
  ·exact yW (c2 n (O.clos _ (wG e) rfl)) fun c vo q r=>⟨c,vo,(lkc e).trans q,r⟩
  ·exact zK (jg e) fun q r=>xk (c1 n av (O.clos _ (wG q) rfl) r) fun c v p1 p2 p3=>⟨q,c,v,(lkc q).trans p1,p2,p3⟩
  ·refine zt (zB.mp hc) fun z0 hm z2=>?_;obtain⟨n,c⟩:=z0;subst z2
   exact zK (tT hcl hm) fun q r=>⟨(S.own.2 c (xb r)).1,S3.cex c (xb r)⟩
 refine u5 (x:=x.wi [I,acc]) S3 (bavs:=[]) C O.cons O.kind rfl (fun p hp=>by cases hp) fun env oc s4 he eo S4 C4 n4 n5 lim4 cm=>?_
 have S4:=S4 x.A
 let env':Qx:={env with scope:=tw scope x.env}
 let x':Cx:=x.at' x.A env' oc [acc]
 have hsub:Sub x scope x' acc:=⟨⟨env',oc,rfl⟩,rfl,eo.gl,by refine zc eo.bi ?_;rfl,fun n c e q=>eo.own n c e q⟩
 have S4':St (x'.wi [I]) (wf scope.names fr) H s4:=S4.rescope (sc:=tw scope x.env) (fun n e=>by show env.scope.names.lookup n=_;refine zc eo.sc ?_;exact XL e) fun n e=>by show env.scope.names.lookup n=_∨env.scope.names.lookup n=_;refine zc eo.sc ?_;exact WI e
 have k34:∀b o,s3.heap.get? b=some o→b∉x.δ→∃o',s4.heap.get? b=some o'∧tu o o':=C4.keep
 have S3n:yH (x.wi [I,acc]).ρ.op s3.heap s4.heap:=S3.nonMut C4.kept
 have farI:Far x I:=S.far n2
 have farA:Far x acc:=S.far na
 have e3I:∃o,s3.heap.get? I=some o:=by(refine yf e2 fun o e=>?_;clear e2);exact⟨o,X3.keep _ _ e⟩
 have nL:∀b,(∃o,s3.heap.get? b=some o)→b≠env.locals∧b∉oc:=fun b ⟨o,e⟩=>⟨fun z=>(by rw[z,n4]at e;exact nS e),fun z=>(by rw[n5 b z]at e;exact nS e)⟩
 have cells_eq:∀b,b∈env.cells.map (·.2)→b∈oc∨b∈x.env.cells.map (·.2):=fun b hb=>by
  rcases cm b hb with q|q
  ·exact .inl q
  ·refine zt (zB.mp q) fun z0 hm z2=>?_;obtain⟨n,c⟩:=z0;subst z2
   exact .inr (xb (tT hcl hm).2)
 have far':∀b,Far x b→(∃o,s3.heap.get? b=some o)→Far x' b:=fun b F ex=>⟨(nL b ex).1,fun q=>(cells_eq b q).elim (nL b ex).2 F.ce,F.de,F.ob,F.ba,F.st,F.fr⟩
 have nt':∀b,b∉x.δ→(∃o,s3.heap.get? b=some o)→¬uG x' b:=fun b d ex t=>by
  rcases t with t|t|t
  ·exact(nL b ex).1 t
  ·exact(nL b ex).2 t
  ·exact d t
 have T4:It (x'.wi [I]) I l s4.heap:=T3.mono S3n fun o e=>C4.keepN e farI.de (T3.obj o e)
 have acc4:Yy s4.heap acc []:=⟨_,C4.keepN ea farA.de rfl⟩
 have noI:I∉x'.ρ.op:=fun q=>by
  rcases zn.mp q with q|q
  ·exact ne q
  ·exact S.notOp n2 q
 have loop:y4 (zu pw x.w) x.A (.compLoop (.ListComp elt (⟨t0,iter,ifs,0⟩::rest) scope pos) 0 (.ref I) (.ref acc) env') (R (.ref acc) env.locals) s4:=by
  refine h x' acc hsub s4 I [] (far' I farI e3I) (nt' I farI.de e3I) noI ⟨.head _,far' acc farA ⟨_,ea⟩,nt' acc farA.de ⟨_,ea⟩⟩ rfl acc4 S4' T4 hh _ fun out ws Y Z fr' H' s' q1 q2 q3 fy fz q4 q5=>?_
  have ch:Chg x s s':=⟨by refine xd X13.rest fun h t d e=>?_;refine xd C4.rest fun h' t' d' e'=>?_;refine xd q5.rest fun h'' t'' d'' e''=>?_;refine zc e'' (zc e' (zc e ?_));exact⟨h'',t'',d'',rfl⟩,
   fun b o e d=>by
    refine zt (k34 _ _ (X13.keep _ _ e) d) fun o1 e1 r1=>zt (q5.keep b o1 e1 (nt' b d ⟨o,X13.keep _ _ e⟩) fun q=>by
     rcases zn.mp q with q|q
     ·rw[q,n2]at e;cases e
     ·rw[zd.mp q,na]at e;cases e) fun o2 e2 r2=>?_
    exact⟨o2,e2,r1.trans r2⟩⟩
  have back:∀{c},s4.heap.get? c=none→s.heap.get? c=none:=fun{c} hc=>by
   cases e:s.heap.get? c with
   |none=>rfl
   |some o =>
    by_cases hd:c∈x.δ
    ·(refine zt (S4'.kinds c (.inr (.inr hd))) fun o' e' z2=>?_;clear z2);rw[hc]at e';exact nS e'
    ·(refine zt (k34 _ _ (X13.keep _ _ e) hd) fun o' e' z2=>?_;clear z2);rw[hc]at e';exact nS e'
  have fy0:∀d∈Y,s.heap.get? d=none:=fun d q=>back (fy d q)
  have fz0:∀d∈Z,s.heap.get? d=none:=fun d q=>back (fz d q)
  have Sb:St (x.more Y Z) fr H' s':=St.backN (more:=[acc]) S q3 fz0 ch
  have LZ:env.locals∉Z:=fun q=>q3.own.1 (zD _ q)
  have LY:env.locals∉Y:=fun q=>q3.locals_ob (zD _ q)
  refine yf q4 fun m em=>?_;clear q4
  have nloc:s.heap.get? env.locals=none:=by
   cases e:s.heap.get? env.locals with
   |none=>rfl
   |some o=>rw[X13.keep _ _ e]at n4;exact Sn n4
  refine yU q3.frame fun z0 z1 z2=>?_;obtain⟨mm,hn,-⟩:=z0;clear z1;clear z2
  refine zt (q3.kinds _ (.inl rfl)) fun oL hL mL=>fin acc env.locals mm s' out Y Z H' q1 Sb (Yi (S.notOp na) em (q2.close fun b q=>zD _ q)) ch nloc LY LZ fy0 fz0 hn fun o e=>?_
  have:s'.heap.get? env.locals=some oL:=hL
  rw[e]at this;(replace this:=zf this;subst this);exact mL
 exact Ct loop (It.self (x:=x'.wi [I]) T4 hh loop)
theorem kW.comp(O:CompOk x scope)(hs:∀v,yR iter x.env v=pure v)(hh:x.A.handled=none)(h:zL x fr H (zR iter x.env) fun a H1=>∃l,u3 a=some l∧uZ a∧∀x' acc,Sub x scope x' acc →
   XW x' acc (.ListComp elt (⟨t0,iter,ifs,0⟩::rest) scope pos) 0 0 l (wf scope.names fr) H1 fun out Y Z H2=>k (.list out) Y Z H2):
  kW x fr H (zR (.ListComp elt (⟨t0,iter,ifs,0⟩::rest) scope pos) x.env) k:=by
 intro s S Q E f
 refine zc (eval_ListComp ..) (Xz (use:=none) rfl hs (VG S O) O.kind (Wk O) (h s S _ E fun v a H1 s1 q c1 S1 K1=>?_))
 refine wO q fun l hi hok q=>gG S1 O c1 hi hok hh q fun acc L m s' out Y Z H' q1 S' c' C' nL LY LZ fy fz hn hm=>⟨m,hn,fun h' sb=>?_⟩
 have k':∀b o,b≠L→s'.heap.get? b=some o→h'.get? b=some o:=fun b o n e=>by refine zc (sb.2 b n) ?_;exact e
 have F:=S1.far nL
 have FL:Far (x.more Y Z) L:=⟨F.lo,F.ce,fun q=>(zv.mp q).elim F.de LZ,fun q=>(zv.mp q).elim F.ob LY,F.ba,F.st,F.fr⟩
 have nt:¬uG (x.more Y Z) L:=fun t=>by
  rcases t with t|t|t
  ·exact S1.notTch nL (.inl t)
  ·exact S1.notTch nL (.inr (.inl t))
  ·rcases zv.mp t with t|t
   ·exact S1.notTch nL (.inr (.inr t))
   ·exact LZ t
 have S2:St (x.more Y Z) fr H' {s' with heap:=h'}:=S'.otherMut FL nt (S1.notOp nL) hm k'
 have back:∀{c},s1.heap.get? c=none→s.heap.get? c=none:=fun{c} hc=>by
  cases e:s.heap.get? c with
  |none=>rfl
  |some o =>
   by_cases ht:uG x c
   ·(refine zt (S1.kinds c ht) fun o' e' z2=>?_;clear z2);rw[hc]at e';exact nS e'
   ·(refine zt (K1.keep c o e ht) fun o' e' z2=>?_;clear z2);rw[hc]at e';exact nS e'
 refine f _ _ Y Z H' _ q1 (c'.mono fun b o n q m=>k' b o (fun z=>by rw[z]at q;rw[hm o q]at m;exact tF m) q) S2 (fun d q=>back (fy d q)) (fun d q=>back (fz d q)) (K1.trans ?_)
 exact Chg.kept ⟨by refine xd C'.rest fun h t d e=>?_;refine zc e ?_;exact⟨h',t,d,rfl⟩,fun b o e n=>by
  exact zt (C'.keep b o e n) fun o' e' q=>⟨o',k' b o' (fun z=>by rw[z,nL]at e;exact nS e) e',q⟩⟩
end
end
section
theorem pI:∀{ns:List Int} {vs:List zi},ConL ρ h (ns.map .int) vs→∃xs:List (Int×Tok),vs=xs.map (fun p=>Value.int p.1 p.2)∧xs.map (·.1)=ns:=by
 intro l0
 induction l0 with
 |nil =>
  intro vs c
  exact⟨[],c,rfl⟩
 |cons i ns ih =>
  intro vs c
  refine xk (uq c) fun v r z2 cv cr=>?_;clear c;subst z2
  refine yf (uo cv) fun t z1=>?_;subst z1
  refine zt ((ih cr)) fun xs z1 e=>?_;subst z1
  exact⟨(i,t)::xs,rfl,by exact zc zU (zc e rfl)⟩
def Eo:yG:=fun avs kvs H k=>kvs=[]∧∃ns:List Int,avs=[.list (ns.map .int)]∧k (.int ns.sum) H
theorem En(B:Base n x):y9 x (.builtin "sum") Eo:=fun fr H avs kvs k h s S vs kws c1 c2 Q E g=>by
 refine zK h fun z0 z1=>?_;clear h;subst z0;refine zt z1 fun ns z3 h=>?_;clear z1;subst z3
 (refine xk (uq c1) fun v r z2 cv cr=>?_;clear c1;subst z2);replace cr:_=[]:=cr;subst cr
 cases c2
 refine x7 (xY cv) fun p vs z2 no hL cl=>?_;subst z2
 refine zt (pI cl) fun xs z1 z2=>?_;subst z1;subst z2
 have hL':s.heap.IsList p (intItems xs.toArray):=by
  have:intItems xs.toArray=⟨xs.map fun p=>Value.int p.1 p.2⟩:=by unfold intItems;simp
  refine zc this ?_;exact hL
 refine sum_intListG B.room.hh hL' fun h' tk t' hk=>?_
 have X:Ext s {s with heap:=h',toks:=tk}:=Ext.heap hk
 refine g _ (.int (xs.map (·.1)).sum) H _ h ?_ (S.ext X) (X.kept x)
 refine zc (preSum_eq ..) (zc (x9 (by simp)) ?_)
 exact gE ⟨t',rfl⟩
def bb:yG:=fun avs kvs H k=>kvs=[]∧∃b:Str,avs=[.str b]∧(b.length≤100000∧(YB++x4 b YB Xw++YB).length≤sizeLine)∧k (.str (wN b)) H
theorem jR(B:Base n x)(hn:n<980):y9 x (.ref 787) bb:=fun fr H avs kvs k h=>by
 refine zK h fun z0 z1=>?_;clear h;subst z0;refine wO z1 fun b z3 z4 h=>?_;clear z1;subst z3;obtain⟨h1,h2⟩:=z4
 exact nh B hn h1 h2 fr H _ _ k ⟨⟨rfl,rfl⟩,h⟩
def Vw:yG:=fun avs kvs H k=>kvs=[]∧∃(b:Str) (N:Nat) (ts:List Str),avs=[.str b]∧(vh N b.cps.toList=some (ts.map fun t=>t.cps.toList)∧b.length<sizeLine∧ts.length≤sizeLine)∧k (.list (ts.map .str)) H
theorem kh(B:Base n x)(hn:n<930):y9 x (.ref 779) Vw:=fun fr H avs kvs k h=>by
 refine zK h fun z0 z1=>?_;clear h;subst z0;refine VD z1 fun b N ts z5 z6 h=>?_;clear z1;subst z5;obtain⟨h1,h2,h3⟩:=z6
 refine fG B hn h1 h2 (by refine zc (zj ..) ?_;exact h3) fr H _ _ k ⟨⟨rfl,rfl⟩,?_⟩
 refine zc yp ?_
 have:(fun t:Str=>AV.str (tS t.cps.toList))=AV.str:=funext fun t=>by
  unfold tS;rfl
 show k (.list (ts.map fun t=>AV.str (tS t.cps.toList))) H
 refine zc this ?_;exact h
end
section
set_option tactic.hygienic true
noncomputable def yC:List yX:=wt (zm pw.main.body 44)
theorem JZ(P:zp):FnIs P 869 (wU (VX P)) yC:=⟨⟨VX P,⋯,rfl⟩,⋯,rfl,⋯,⋯,⋯,rfl,rfl,rfl,⋯⟩
noncomputable abbrev Yq(P:zp):List (Str×NameKind):=(wU (VX P)).scope.names
noncomputable def Cb:List Str:=[za "names",za "calls",za "due",za "readers"]
noncomputable abbrev bX(w:ya):zi→Option yG:=NC "sum" Eo (Qo 842 Ye (Qo 849 Vl (Qo 787 bb (Qo 854 aI (Qo 803 Uw (Qo 779 Vw (Qo 864 Bn (Qo 823 (cG w) FB))))))))
theorem bW(B:Base n x)(hn:n<930):uz x (bX x.w):=
 GT (En B) (ue (du B (zN 0x3a233523ca3352 [n] hn rfl)) (ue (lU B (zN 0x3a233523c03352 [n] hn rfl)) (ue (jR B (zN 0x3a233523d43352 [n] hn rfl)) (ue (fB B (zN 0x3a233523d43352 [n] hn rfl)) (ue (jQ B (zN 0x3a233523ca3352 [n] hn rfl)) (ue (kh B (zN 0x3a233523a23352 [n] hn rfl)) (ue (FO B (zN 0x3a233523ca3352 [n] hn rfl)) (ue (sP B (zN 0x3a233523ca3352 [n] hn rfl)) uO))))))))
noncomputable abbrev wF(w:ya):Stat:=Ze w.params (Yq w.params) Cb (bX w) fun _ _=>none
noncomputable abbrev y8(w:ya)(C:Expr):Stat:=Ze w.params (rk (Yq w.params) (zM C)) [] (bX w) fun _ _=>none
theorem KZ:yC.length=13:=⋯
end
section
abbrev Yo(n:Nat)(w:ya)(x:Cx):Prop:=Sits n w (Yq w.params) Cb (bX w) (fun U U=>none) x
noncomputable abbrev Bh(s:AV):y3:=[(za "script",s)]
noncomputable abbrev jb(s a:AV):y3:=[(za "script",s),(za "numbers",a)]
noncomputable abbrev rq:Expr:=gO (wV (zm yC 0))
theorem KM:rq=f6 rq (za "k"):=⋯
theorem Nc:wP (Yq P) (zM rq)=true:=⋯
theorem Nb:qj (za "k") (zM rq).names=true:=⋯
noncomputable def uC:List Int:=[4652,1,41,3,18]
def IS(k:AV→Prop)(a:AV):Prop:=Ua .Add a (.list (uC.map .int)) k
theorem jZ(l:List AV)(k:AV→Prop):IS k (.list l)=(l.length+5≤sizeLine∧k (.list (l++uC.map .int))):=⋯
theorem jU{ns:List Int}{lo hi st:Option Int}:∃ms:List Int,Yu (ns.map .int) lo hi st=ms.map .int:=by
 refine⟨(sliceRange (td lo hi st ns.length).1 (td lo hi st ns.length).2.1 (td lo hi st ns.length).2.2).filterMap (ns[·]?),?_⟩
 unfold Yu
 refine zc (zj ..) (zc rO ?_)
 simp only[yF]
section
variable (w:ya) (x:Cx) (H:Hp) (s a:AV) (l:List AV) (i:Int)
theorem NK(k:AFlow→y3→Hp→Prop):(evX (wF w) x 30).s [zm yC 0] (Bh s) H k=zL x (Bh s) H (zR rq x.env) fun r H1=>IS (fun c=>k .next (jb s c) H1) r:=⋯
theorem Id(k:AV→Hp→Prop):(evX (wF w) x 20).e (x5 rq 0) (Bh (.list l)) H k=UY (.list l) none (some (3:Nat)) none fun a=>bw [a] [] H fun b H1=>Wd [b] [] H1 k:=⋯
theorem Ie(k:AV→Hp→Prop):(evX (y8 w rq) x 20).e (w6 rq) (xp (za "k") (.int i) (wf (zM rq).names (Bh (.list l)))) H k=UY (.list l) (some i) none (some 3) fun a=>Eo [a] [] H k:=⋯
end
theorem da{n:Nat}{H:Hp}{k:AV→Hp→Prop}(h:n≤100000)(hk:k (.rng n) H):Wd [.int n] [] H k:=by
 exact hk
theorem Jg{n:Nat}{w:ya}{x:Cx}(Z:Yo n w x)(hn:n<920){H:Hp}{ns:List Int}(hl:ns.length≤10000){k:AFlow→y3→Hp→Prop}(h:∀ms:List Int,ms.length≤3→k .next (jb (.list (ns.map .int)) (.list ((ms++uC).map .int))) H):
  zQ x (Bh (.list (ns.map .int))) H (xN [zm yC 0] x.env) k:=by
 refine(Z.evX (zN 0x39833523d43352 [n] hn rfl) 30).s _ _ _ _ ((?_:(evX (wF w) x 30).s _ (Bh (.list (ns.map .int))) H k))
 refine zw (NK ..) (zc KM ?_)
 have hsz:(ns.map AV.int).length≤sizeLine:=by refine zc (zj ..) (zc zy ?_);exact zN 0x27104351000000735 [ns.length] hl rfl
 refine Z.comp_map Nc Nb (fun U=>rfl) ((Z.evX (zN 0x39833523d43352 [n] hn rfl) 20).e _ _ _ _ ?_)
 refine(?_:(evX (wF w) x 20).e _ (Bh (.list (ns.map .int))) H _)
 refine zw (Id ..) (zw (cM hsz) ?_)
 have ht:((ns.map AV.int).take 3).length≤3:=List.length_take_le _ _
 refine zw (fX (by rw[zy];exact zN 0x31351000000735 [(List.take 3 (tg AV.int ns)).length] ht rfl)) ?_
 generalize hm:((ns.map AV.int).take 3).length=m at ht
 refine da (zN 54104112629045 [m] ht rfl) ?_
 refine⟨_,fun a=>match a with|.int i=>some (.int (((Yu (ns.map .int) (some i) none (some 3)).map fun a=>match a with|.int j=>j|_=>0).sum))|_=>none,rfl,⟨by omega,by omega⟩,by refine zc (zj ..) (zc yM (zc zy ?_));omega,?_,?_⟩
 ·intro a ha y Zy
  refine zt (zB.mp ha) fun j z1 z2=>?_;clear z1;subst z2
  refine ui ⟨rfl,fun e=>(by exact tF e),fun U=>(Zy.evX (zN 0x39833523d43352 [n] hn rfl) 20).e _ _ _ _ ?_⟩
  refine(?_:(evX (y8 w rq) y 20).e _ (xp (za "k") (.int (j:Int)) (wf (zM rq).names (Bh (.list (ns.map .int))))) H _)
  refine zw (Ie ..) (yf (jU (ns:=ns) (lo:=some (j:Int)) (hi:=none) (st:=some 3)) fun ms hms=>y7 (by refine zw (zk ..) (zc decide_eq_true_eq (zc decide_eq_true_eq ?_));exact⟨by decide,hsz⟩) ?_)
  refine zc hms ⟨rfl,ms,rfl,rfl,?_⟩
  dsimp only
  refine zc hms (zc yp ?_)
  congr 2
  have:((fun a:AV=>match a with|.int j=>j|_=>0) ∘ AV.int)=id:=rfl
  exact zc this (zc (Wz ..) rfl)
 ·have:∀l:List Nat,∃ms:List Int,ms.length≤l.length∧((l.map fun i:Nat=>AV.int (i:Int)).filterMap fun a=>match a with|.int i=>some (AV.int (((Yu (ns.map .int) (some i) none (some 3)).map fun a=>match a with|.int j=>j|_=>0).sum))|_=>none)=ms.map .int:=by
   intro l
   induction l with
   |nil=>exact⟨[],zX _,rfl⟩
   |cons i l ih =>
    refine zt ih fun ms h1 h2=>⟨((Yu (ns.map .int) (some (i:Int)) none (some 3)).map fun a=>match a with|.int j=>j|_=>0).sum::ms,by simpa using h1,?_⟩
    refine zc zU (zc yr (zc h2 ?_))
    rfl
  refine zt (this (zT (m:Int).toNat)) fun ms h1 h2=>zc h2 (zw (jZ ..) ?_)
  rw[yM,wI]at h1
  refine⟨by refine zc (zj ..) (zc zy ?_);exact vB 0x65313610000007351350 [ms.length,m] ht h1 rfl,?_⟩
  exact xv yc (h ms (vB 434617332021 [ms.length,m] ht h1 rfl))
end
section
noncomputable def Yv(e:Expr)(n:Nat):List Expr:=(Bu e n).ifs
noncomputable def Hh(C:Expr)(t t1:Str):Expr:=.ListComp (w6 C) [⟨.Name t (AI C 0),x5 C 0,Yv C 0,0⟩,⟨.Name t1 (AI C 1),x5 C 1,Yv C 1,0⟩] (zM C) (oI C)
section
theorem Nj(h:env.blockKind=.function)(hn:(env.kindOf n1==some .local)=false){a2 b2 a3 b3 a4 b4 c d}(ha:A=.ListComp a1 a2 a3 a4)(hb:B=.ListComp b1 b2 b3 b4)(he:e=.Tuple [A,B] c d):
  swapsWithSole [.Tuple [.Name n1 p1,.Name n2 p2] q tp] e line env=pure false∧rt [.Tuple [.Name n1 p1,.Name n2 p2] q tp] e env=pure none:=by
 subst he ha hb
 refine⟨rfl,?_⟩
 unfold rt
 dsimp only
 rw[h,List.filterMap_cons_none]
 ·have hl:=ff (fun(x:Expr)=>match x with
   |.Name id pos=>if(env.kindOf id==some NameKind.local&&pos.line==(lO (fun x:Expr=>x.pos.line) [g6 n1 p1,g6 n2 p2].head?).getD 0)=true then some id else none
   |_=>none) [g6 n2 p2]
  generalize List.filterMap _ [g6 n2 p2]=l at hl ⊢
  cases l with
  |nil=>rfl
  |cons x l=>cases l with
   |nil=>rfl
   |cons y l=>exact absurd hl (Qy (Nat.succ_lt_succ (Nat.zero_lt_succ _)))
 ·exact if_neg (by rw[hn];nofun)
end
noncomputable abbrev N1:Expr:=X8 (wV (zm yC 1)) 0
noncomputable abbrev N2:Expr:=X8 (wV (zm yC 1)) 1
theorem CW:N1=Hh N1 (za "x") (za "name"):=⋯
theorem CV:N2=Hh N2 (za "x") (za "word"):=⋯
theorem Gs:zm yC 1=.Assign [.Tuple [.Name (za "names") (X8 (Xv (zm yC 1)) 0).pos,.Name (za "words") (X8 (Xv (zm yC 1)) 1).pos] (mz (zm yC 1)) (Xv (zm yC 1)).pos] (wV (zm yC 1)) (zm yC 1).pos:=⋯
theorem MC:wP (Yq P) (zM N1)=true:=⋯
theorem MB:wP (Yq P) (zM N2)=true:=⋯
noncomputable abbrev Bg(s a n d:AV):y3:=[(za "script",s),(za "numbers",a),(za "names",n),(za "words",d)]
section
variable (w:ya) (x:Cx) (H:Hp) (s a:AV) (l:List AV) (i:Int) (p:Str) (b:AV)
theorem NJ(k:AV→Hp→Prop):(evX (wF w) x 20).e (wV (zm yC 1)) (jb s a) H k=zL x (jb s a) H (zR N1 x.env) fun r H1=>zL x (jb s a) H1 (zR N2 x.env) fun r2 H2=>yD (decide (2≤sizeLine)) (k (.tup [r,r2]) H2):=⋯
theorem Ia(k:AV→Hp→Prop):(evX (wF w) x 20).e (x5 N1 0) (jb s (.list l)) H k=k (.list l) H:=⋯
theorem H9(k:AV→Hp→Prop):(evX (wF w) x 20).e (x5 N2 0) (jb s (.list l)) H k=k (.list l) H:=⋯
noncomputable abbrev nX:Str:=za "x"
noncomputable abbrev MU(i:Int):y3:=[(nX,.int i)]
noncomputable abbrev MT(m:Str)(i:Int)(b:AV):y3:=[(nX,.int i),(m,b)]
theorem CK:wf (zM N1).names (jb s a)=[]:=⋯
theorem lZ:wf (zM N2).names (jb s a)=[]:=⋯
theorem Ea(k:Bool→Hp→Prop):(evX (y8 w N1) x 20).b (Qa N1 0) (MU i) H k=k (decide (i.fmod 4<2)) H:=⋯
theorem D9(k:Bool→Hp→Prop):(evX (y8 w N1) x 20).b (Qa N1 0) (MT (za "name") i b) H k=k (decide (i.fmod 4<2)) H:=⋯
theorem D8(k:AV→Hp→Prop):(evX (y8 w N1) x 20).e (x5 N1 1) (MU i) H k=Ye [.int i] [] H k:=⋯
theorem D6(k:AV→Hp→Prop):(evX (y8 w N1) x 20).e (x5 N1 1) (MT (za "name") i b) H k=Ye [.int i] [] H k:=⋯
theorem Ib(k:AV→Hp→Prop):(evX (y8 w N1) x 20).e (w6 N1) (xp (za "name") b ([]++[(nX,.int i)])) H k=k b H:=⋯
theorem D5(k:AV→Hp→Prop):(evX (y8 w N2) x 20).e (x5 N2 1) (MU i) H k=Vl [.int i] [] H k:=⋯
theorem D4(k:AV→Hp→Prop):(evX (y8 w N2) x 20).e (x5 N2 1) (MT (za "word") i b) H k=Vl [.int i] [] H k:=⋯
theorem Ic(k:AV→Hp→Prop):(evX (y8 w N2) x 20).e (w6 N2) (xp (za "word") b ([]++[(nX,.int i)])) H k=k b H:=⋯
end
theorem og:Yv N1 0=[Qa N1 0]∧Yv N1 1=[]∧Yv N2 0=[]∧Yv N2 1=[]:=⟨⋯,⋯,⋯,⋯⟩
noncomputable def xh(ms:List Int):List Str:=ms.flatMap fun i=>bif decide (i.fmod 4<2)then vw i else[]
noncomputable def wL(ms:List Int):List Str:=ms.flatMap uY
noncomputable def Mz(f:Int→List Str):AV→List AV
 |.int i=>(f i).map .str
 |_=>[]
theorem WX(f:Int→List Str):∀ms:List Int,(ms.map AV.int).flatMap (Mz f)=(ms.flatMap f).map .str:=by
 intro l0
 induction l0 with
 |nil =>
  exact rfl
 |cons i r ih =>
  refine zc zU (zc y0 (zc (ih) (zc y0 (zc yc ?_))));rfl
theorem QA(y:Str)(n:Nat):(lX y n).length≤2:=match n with
 |0=>(show 2≤2 by decide)
 |1=>(show 1≤2 by decide)
 |2=>(show 1≤2 by decide)
 |_+3=>(show 1≤2 by decide)
theorem WY{f:Int→List Str}(h:∀i,(f i).length≤2):∀ms:List Int,(ms.flatMap f).length≤2*ms.length:=by
 intro l0
 induction l0 with
 |nil =>
  exact zX _
 |cons i r ih =>
  have h1:=ih
  have h2:=h i
  refine zc y0 (zc zG (zc zS ?_))
  exact vB 0x2135721346113702134650 [(f i).length,(UN f r).length,r.length] h1 h2 rfl
theorem n6(i:Int):(bif decide (i.fmod 4<2)then vw i else[]).length≤2:=by
 cases decide (i.fmod 4<2)
 ·exact wk _
 ·exact(tO i).1
theorem Dl(l:List AV):(l.filterMap fun a=>some (id a))=l:=by
 induction l with
 |nil=>rfl
 |cons a r ih=>refine zc yr (zc ih ?_);rfl
theorem Jf(Z:Yo n w x)(hn:n<920)(hl:ms.length≤100){k:AFlow→y3→Hp→Prop}(h:k .next (Bg s (.list (ms.map .int)) (.list ((xh ms).map .str)) (.list ((wL ms).map .str))) H):
  zQ x (jb s (.list (ms.map .int))) H (tx (zm yC 1) x.env) k:=by
 refine zc Gs ?_
 have hk1:x.env.kindOf (za "names")=some .cell:=(xl Z.fits _).trans ⋯
 have sw:=Nj (c:=(xM (wV (zm yC 1))).2.2.1) (d:=(wV (zm yC 1)).pos) (n2:=za "words") (p1:=(X8 (Xv (zm yC 1)) 0).pos) (p2:=(X8 (Xv (zm yC 1)) 1).pos) (tp:=(Xv (zm yC 1)).pos) (q:=mz (zm yC 1)) (e:=wV (zm yC 1)) (line:=(zm yC 1).pos.line) (env:=x.env) (by unfold g9;refine zc Z.fits.fn ?_;rfl) (by refine zc hk1 ?_;rfl) CW CV ⋯
 refine zQ.unpack2 Z.fits.fn (.inr ⟨hk1,fun c=>Z.fits.wr _ ⋯ c⟩) (.inl ((xl Z.fits _).trans ⋯)) Z.base.room.hh sw.1 sw.2 ((Z.evX (zN 0x39833523d43352 [n] hn rfl) 20).e _ _ _ _ ?_)
 refine(?_:(evX (wF w) x 20).e _ (jb s (.list (ms.map .int))) H _)
 refine zw (NJ ..) (zc CW (zc CV ?_))
 refine Z.comp2 MC ⋯ (by refine zc (CK ..) ?_;rfl) (fun U=>rfl) (fun U U=>rfl) ((Z.evX (zN 0x39833523d43352 [n] hn rfl) 20).e _ _ _ _ ?_)
 refine(?_:(evX (wF w) x 20).e _ (jb s (.list (ms.map .int))) H _)
 refine zw (Ia ..) ?_
 refine⟨_,Mz fun i=>bif decide (i.fmod 4<2)then vw i else[],rfl,trivial,by refine zc (WX ..) (zc (zj ..) ?_);have:=WY n6 ms;refine zc zy ?_;omega,?_,?_⟩
 ·intro a ha y Zy fr1 hfr
  refine zt (zB.mp ha) fun i z1 z2=>?_;clear z1;subst z2
  rw[CK]at hfr ⊢
  refine zc og.1 (Xd ((Zy.evX (zN 0x39833523d43352 [n] hn rfl) 20).b _ _ _ _ ?_))
  have e1:(evX (y8 w N1) y 20).b (Qa N1 0) fr1 H=fun k=>k (decide (i.fmod 4<2)) H:=by
   rcases hfr with rfl|⟨b,rfl⟩
   ·exact funext fun k=>Ea w y H i k
   ·exact funext fun k=>D9 w y H i b k
  have e2:(evX (y8 w N1) y 20).e (x5 N1 1) fr1 H=fun k=>Ye [.int i] [] H k:=by
   rcases hfr with rfl|⟨b,rfl⟩
   ·exact funext fun k=>D8 w y H i k
   ·exact funext fun k=>D6 w y H i b k
  refine(?_:(evX (y8 w N1) y 20).b _ _ _ _)
  refine zc e1 ⟨rfl,fun e=>?_,fun e=>(Zy.evX (zN 0x39833523d43352 [n] hn rfl) 20).e _ _ _ _ ?_⟩
  ·refine(?_:(bif decide (i.fmod 4<2)then vw i else[]).map AV.str=[])
   refine zc e ?_;rfl
  ·refine(?_:(evX (y8 w N1) y 20).e _ _ _ _)
   refine zc e2 ⟨rfl,rfl,(vw i).map .str,_,rfl,trivial,uA.all (f:=id) fun b hb z Zz=>(Zz.evX (zN 0x39833523d43352 [n] hn rfl) 20).e _ _ _ _ ?_,?_⟩
   ·refine(?_:(evX (y8 w N1) z 20).e _ _ _ _)
    exact zw (Ib ..) ⟨rfl,rfl⟩
   ·refine zc (Dl ..) ((?_:(bif decide (i.fmod 4<2)then vw i else[]).map AV.str=_))
    refine zc e ?_;rfl
 ·refine zc (WX ..) ?_
  refine Z.comp2 MB ⋯ (by refine zc (lZ ..) ?_;rfl) (fun U=>rfl) (fun U U=>rfl) ((Z.evX (zN 0x39833523d43352 [n] hn rfl) 20).e _ _ _ _ ?_)
  refine(?_:(evX (wF w) x 20).e _ (jb s (.list (ms.map .int))) H _)
  refine zw (H9 ..) ?_
  refine⟨_,Mz uY,rfl,trivial,by refine zc (WX ..) (zc (zj ..) ?_);have:=WY (f:=uY) (fun i=>QA _ _) ms;refine zc zy ?_;exact vB 0x62134564232131621341000000735 [(UN uY ms).length,ms.length] (zF 2 hl) this rfl,?_,?_⟩
  ·intro a ha y Zy fr1 hfr
   refine zt (zB.mp ha) fun i z1 z2=>?_;clear z1;subst z2
   rw[lZ]at hfr ⊢
   rw[og.2.2.1]
   refine ui ⟨rfl,fun e=>(by exact tF e),fun U=>(Zy.evX (zN 0x39833523d43352 [n] hn rfl) 20).e _ _ _ _ ?_⟩
   have e2:(evX (y8 w N2) y 20).e (x5 N2 1) fr1 H=fun k=>Vl [.int i] [] H k:=by
    rcases hfr with rfl|⟨b,rfl⟩
    ·exact funext fun k=>D5 w y H i k
    ·exact funext fun k=>D4 w y H i b k
   refine(?_:(evX (y8 w N2) y 20).e _ _ _ _)
   refine zc e2 ⟨rfl,rfl,(uY i).map .str,_,rfl,trivial,uA.all (f:=id) fun b hb z Zz=>(Zz.evX (zN 0x39833523d43352 [n] hn rfl) 20).e _ _ _ _ ?_,?_⟩
   ·refine(?_:(evX (y8 w N2) z 20).e _ _ _ _)
    exact zw (Ic ..) ⟨rfl,rfl⟩
   ·refine zc (Dl ..) ?_;rfl
  ·refine zc (WX ..) ?_
   exact y7 (decide_eq_true (by refine zc zy ?_;exact(show 2≤16777216 by decide))) ⟨_,_,rfl,h⟩
end
section
theorem Be{α:Type}(l:List α):(zT l.length).filterMap (l[·]?)=l:=by
 have:=krv_all l.toArray
 simpa using this
theorem jV(l:List AV):Yu l none none (some (-1))=l.reverse:=by
 unfold Yu
 exact zc (krv_bounds ..) (zc (krv_sliceRange ..) (zc (krv_range ..) (zc List.filterMap_reverse (zc (Be ..) rfl))))
theorem ik(hl:l.length≤sizeLine):UY (.list l) none none (some (-1)) k=k (.list l.reverse):=by
 unfold UY
 dsimp only
 refine zc (show(decide (some (-1:Int)≠some 0)&&decide (l.length≤sizeLine))=true by rw[zk,decide_eq_true_eq,decide_eq_true_eq];exact⟨by decide,hl⟩) (zc (jV ..) ?_)
 rfl
theorem sR(c:Nat)(z l:List Nat):(UR c z l).length≤(z.length+1)*l.length:=by
 induction l with
 |nil=>exact zX _
 |cons k r ih =>
  unfold UR at ih ⊢
  refine zc y0 (zc zG (zc zS (zc (Nat.mul_succ ..) ?_)))
  split
  ·exact zN 0x761135070650 [z.length,(UN (fun k=>if k=c then z else[k]) r).length,((z.length+1)*r.length)] ih rfl
  ·refine zc ug ?_;exact zN 0x65113706051130 [(UN (fun k=>if k=c then z else[k]) r).length,((z.length+1)*r.length),z.length] ih rfl
theorem Zb(h:b.length≤1000):(b.length≤100000∧(YB++x4 b YB Xw++YB).length≤sizeLine)∧(wN b).length≤6002:=by
 have e1:YB=tS [39]:=rfl
 have e2:Xw=tS [39,34,39,34,39]:=rfl
 have e3:b=tS b.cps.toList:=(mG b).symm
 have e4:b.length=b.cps.toList.length:=v9 b
 have hr:(x4 b YB Xw).length≤6*b.length:=by
  refine zc e1 (zc e2 (zc e3 (zc (VP ..) (zc (v0 ..) (xv e3 (zc e4 ?_))))))
  exact sR _ _ _
 have hs:YB.length=1:=rfl
 refine⟨⟨zN 0x3e8335186a0535 [b.length] h rfl,by refine zc (ye ..) (zc (ye ..) (zc zy ?_));exact dz 0x1132131521347613463e83361317613410000007356500 [YB.length,(x4 b YB Xw).length,b.length] (zF 6 h) hr (zF 2 (ze hs)) rfl⟩,?_⟩
 unfold wN
 split
 ·exact(show 2≤6002 by decide)
 ·split
  ·exact zN 0x3e83351772435 [b.length] h rfl
  ·refine zc (ye ..) (zc (ye ..) ?_);exact dz 0x1132131521347613463e83361317613417724356500 [YB.length,(x4 b YB Xw).length,b.length] (zF 6 h) hr (zF 2 (ze hs)) rfl
noncomputable abbrev Q2:Expr:=wx (xC (wV (zm yC 2))) 0
theorem IP:Q2=f6 Q2 (za "word"):=⋯
theorem Mu:wP (Yq P) (zM Q2)=true:=⋯
noncomputable abbrev Q3:Expr:=pW (wx (xC (wV (zm yC 3))) 0)
theorem IO:Q3=f6 Q3 (za "name"):=⋯
theorem Mt:wP (Yq P) (zM Q3)=true:=⋯
noncomputable abbrev rE(s a n d f:AV):y3:=[(za "script",s),(za "numbers",a),(za "names",n),(za "words",d),(za "first",f)]
noncomputable abbrev Dm(s a n d f g:AV):y3:=[(za "script",s),(za "numbers",a),(za "names",n),(za "words",d),(za "first",f),(za "second",g)]
def MR(k:AV→Prop)(a:AV):Prop:=Ua .Add (.str dN) a k
theorem Fl(y:Str)(k:AV→Prop):MR k (.str y)=(16+y.length≤sizeLine∧k (.str (dN++y))):=⋯
section
variable (w:ya) (x:Cx) (H:Hp) (s a d f:AV) (l m:List AV) (p:Str)
theorem NI(k:AFlow→y3→Hp→Prop):(evX (wF w) x 30).s [zm yC 2] (Bg s a (.list l) (.list m)) H k=zL x (Bg s a (.list l) (.list m)) H (zR Q2 x.env) fun r H1=>YY [.str (za "  "),r] [] H1 fun c H2=>k .next (rE s a (.list l) (.list m) c) H2:=⋯
theorem H7(k:AV→Hp→Prop):(evX (wF w) x 20).e (x5 Q2 0) (Bg s a (.list l) (.list m)) H k=k (.list m) H:=⋯
theorem H8(k:AV→Hp→Prop):(evX (y8 w Q2) x 20).e (w6 Q2) (xp (za "word") (.str p) (wf (zM Q2).names (Bg s a (.list l) (.list m)))) H k=bb [.str p] [] H k:=⋯
theorem NH(k:AFlow→y3→Hp→Prop):(evX (wF w) x 30).s [zm yC 3] (rE s a (.list l) d f) H k=yD (decide (1≤sizeLine)) (zL x (rE s a (.list l) d f) H (zR Q3 x.env) fun r H1=>p8 [.str (za "#c")] (fun c=>YY [.str (za " "),c] [] H1 fun c H2=>k .next (Dm s a (.list l) d f c) H2) r):=⋯
theorem HZ(k:AV→Hp→Prop):(evX (wF w) x 20).e (x5 Q3 0) (rE s a (.list l) d f) H k=UY (.list l) none none (some (-1)) fun c=>k c H:=⋯
theorem H6(k:AV→Hp→Prop):(evX (y8 w Q3) x 20).e (w6 Q3) (xp (za "name") (.str p) (wf (zM Q3).names (rE s a (.list l) d f))) H k=aI [.str p] [] H fun r H1=>MR (fun c=>k c H1) r:=⋯
end
noncomputable def IR(f:Str→Str):AV→AV
 |.str y=>.str (f y)
 |a=>a
theorem bD(f:Str→Str)(l:List Str):((l.map AV.str).filterMap fun a=>some (IR f a))=(l.map f).map .str:=by
 induction l with
 |nil=>rfl
 |cons a r ih=>refine zc zU (zc yr (zc ih ?_));rfl
noncomputable def To(ws:List Str):Str:=wc (za "  ") (ws.map wN)
noncomputable def Xg(ns:List Str):Str:=wc (za " ") (za "#c" :: ns.reverse.map fun y=>dN++vN y)
theorem Je(Z:Yo n w x)(hn:n<920)(hl:ws.length≤100∧∀b∈ws,b.length≤1000)(h:k .next (rE s a (.list l) (.list (ws.map .str)) (.str (To ws))) H):
  zQ x (Bg s a (.list l) (.list (ws.map .str))) H (xN [zm yC 2] x.env) k:=by
 refine(Z.evX (zN 0x39833523d43352 [n] hn rfl) 30).s _ _ _ _ ?_
 refine(?_:(evX (wF w) x 30).s _ (Bg s a (.list l) (.list (ws.map .str))) H k)
 refine zw (NI ..) (zc IP ?_)
 refine Z.comp_map Mu ⋯ (fun U=>rfl) ((Z.evX (zN 0x39833523d43352 [n] hn rfl) 20).e _ _ _ _ ?_)
 refine(?_:(evX (wF w) x 20).e _ (Bg s a (.list l) (.list (ws.map .str))) H _)
 refine zw (H7 ..) ?_
 refine⟨ws.map .str,_,rfl,trivial,by refine zc (zj ..) (zc zy ?_);exact zN 0x642351000000735 [ws.length] hl.1 rfl,uA.all (f:=IR wN) fun b hb y Zy=>?_,?_⟩
 ·refine zt (zB.mp hb) fun p hp z2=>?_;subst z2
  refine(Zy.evX (zN 0x39833523d43352 [n] hn rfl) 20).e _ _ _ _ ?_
  refine(?_:(evX (y8 w Q2) y 20).e _ (xp (za "word") (.str p) (wf (zM Q2).names (Bg s a (.list l) (.list (ws.map .str))))) H _)
  refine zw (H8 ..) ?_
  exact⟨rfl,p,rfl,(Zb (hl.2 p hp)).1,rfl,rfl⟩
 ·refine zc (bD ..) ?_
  refine Zg ?_
  refine⟨tP (a:=6002) (fun y hy=>?_) ?_,h⟩
  ·refine zt (zB.mp hy) fun p hp z2=>?_;subst z2
   exact(Zb (hl.2 p hp)).2
  ·refine zc (zj ..) ?_
   refine(?_:_*(6002+2)≤_)
   exact zN 0x6423177443151774434100000073213177243051 [ws.length] (zF 6004 hl.1) rfl
theorem Wa(h:b.length≤100):(vN b).length≤20706:=by
 unfold vN
 have h1:=Um b (za ".")
 have h2:∀p∈yy b (za "."),p.length≤b.length:=fun p hp=>part_short hp
 have:=Zh (sep:=za ".") (ss:=Z5 (yy b (za "."))) (a:=202) fun y hy=>by
  refine zt (zB.mp hy) fun j hj z2=>?_;subst z2
  have h3:=UX j ((yy b (za ".")).getD j ym)
  have h4:=h2 _ (zH (WU (d:=ym) (wD.mp hj)))
  omega
 have e:(Z5 (yy b (za "."))).length=(yy b (za ".")).length:=by
  unfold Z5;exact zc (zj ..) (zc yM rfl)
 rw[e]at this
 have e2:(za ".").length=1:=rfl
 rw[e2]at this
 have h5:=Zl (202+1) (show(yy b (za ".")).length≤102 by exact vB 0x2136056423666235 [(yy b (za ".")).length,b.length] h h1 rfl)
 omega
theorem Jd(Z:Yo n w x)(hn:n<920)(hl:ns.length≤100∧∀b∈ns,b.length≤100)(h:k .next (Dm s a (.list (ns.map .str)) d f (.str (Xg ns))) H):
  zQ x (rE s a (.list (ns.map .str)) d f) H (xN [zm yC 3] x.env) k:=by
 refine(Z.evX (zN 0x39833523d43352 [n] hn rfl) 30).s _ _ _ _ ?_
 refine(?_:(evX (wF w) x 30).s _ (rE s a (.list (ns.map .str)) d f) H k)
 refine zw (NH ..) (zc IO ?_)
 refine y7 (decide_eq_true (by refine zc zy ?_;exact(show 1≤16777216 by decide))) ?_
 refine Z.comp_map Mt ⋯ (fun U=>rfl) ((Z.evX (zN 0x39833523d43352 [n] hn rfl) 20).e _ _ _ _ ?_)
 refine(?_:(evX (wF w) x 20).e _ (rE s a (.list (ns.map .str)) d f) H _)
 refine zw (HZ ..) (zw (ik (by rw[zj,zy];exact zN 0x642351000000735 [ns.length] hl.1 rfl)) (xv YJ ?_))
 have hr:∀b∈ns.reverse,b.length≤100:=fun b hb=>hl.2 b (xU.mp hb)
 have hrl:ns.reverse.length≤100:=by refine zc xo ?_;exact hl.1
 have hig:dN.length=16:=rfl
 refine⟨ns.reverse.map .str,_,rfl,trivial,by refine zc (zj ..) (zc zy ?_);exact zN 0x642351000000735 [ns.reverse.length] hrl rfl,uA.all (f:=IR fun y=>dN++vN y) fun b hb y Zy=>?_,?_⟩
 ·refine zt (zB.mp hb) fun p hp z2=>?_;subst z2
  refine(Zy.evX (zN 0x39833523d43352 [n] hn rfl) 20).e _ _ _ _ ?_
  refine(?_:(evX (y8 w Q3) y 20).e _ (xp (za "name") (.str p) (wf (zM Q3).names (rE s a (.list (ns.map .str)) d f))) H _)
  refine zw (H6 ..) ?_
  have hp':=hr p hp
  refine⟨⟨rfl,zN 6881430897461 [p.length] hp' rfl⟩,?_⟩
  refine(?_:MR _ (.str (vN p)))
  refine zw (Fl ..) ?_
  have:=Wa hp'
  exact⟨by refine zc zy ?_;exact zN 0x50e2435100000073510230 [(vN p).length] this rfl,rfl,rfl⟩
 ·refine zc (bD ..) (zw (jm ..) (zc (zj ..) (zc (zj ..) ?_)))
  refine⟨by refine zc zy ?_;show 1+_≤_;exact zN 0x6423510000007351130 [ns.reverse.length] hrl rfl,?_⟩
  refine zc (show[AV.str (za "#c")]++(ns.reverse.map fun y=>dN++vN y).map AV.str=(za "#c" :: ns.reverse.map fun y=>dN++vN y).map AV.str from rfl) ?_
  refine Zg ?_
  refine⟨tP (a:=20722) (fun y hy=>?_) ?_,h⟩
  ·rcases zn.mp hy with rfl|hy
   ·exact(show 2≤20722 by decide)
   ·refine zt (zB.mp hy) fun p hp z2=>?_;subst z2
    have:=Wa (hr p hp)
    refine zc (ye ..) (zc hig ?_);exact zN 0x50e243550f243510230 [(vN p).length] this rfl
  ·refine zc zS (zc (zj ..) ?_)
   refine(?_:_*(20722+1)≤_)
   exact zN 0x642350f3431550f343410000007311350f2430113501 [ns.reverse.length] (zF 20723 hrl) rfl
end
section
theorem hV(hb:env.scope.kind=.function)(hk:env.kindOf t=some .local)(h:(py.line==pos.line&&!(scope.names.any fun(n,k)=>n==t&&(k==.local||k==.cell)))=true):uH (.ListComp elt gens scope pos) (some (.Name t py)) line env=pure true:=by
 unfold uH
 dsimp only
 have e:env.blockKind=.function:=by unfold g9;refine zc hb ?_;rfl
 refine zc e (zc hk ?_)
 rw[zk]at h
 refine(?_:(pure (((g5==g5)&&(some NameKind.local==some NameKind.local)&&(py.line==pos.line))&&_):VL Bool)=_)
 refine zc h.1 (zc h.2 ?_)
 rfl
theorem mH(hk:env.kindOf t=some .cell):uH (.ListComp elt gens scope pos) (some (.Name t py)) line env=pure false:=by
 unfold uH
 dsimp only
 refine zc hk ?_
 have:((some wK==some NameKind.local):Bool)=false:=rfl
 refine zc this ?_
 simp only[WB,Hv]
noncomputable abbrev Q4:Expr:=wV (zm yC 4)
theorem Nn:Q4=f6 Q4 (za "line"):=⋯
theorem Ms:wP (Yq P) (zM Q4)=true:=⋯
noncomputable def mB(st:yX):ZJ:=(Xv st).pos
theorem Gr:zm yC 4=.Assign [.Name (za "lists") (mB (zm yC 4))] (f6 Q4 (za "line")) (zm yC 4).pos:=⋯
noncomputable abbrev Kp(s a n d f g l:AV):y3:=[(za "script",s),(za "numbers",a),(za "names",n),(za "words",d),(za "first",f),(za "second",g),(za "lists",l)]
def Fm(k:AV→Prop)(c:AV):Prop:=VA c (.int 0) k
theorem A9(a b:AV)(k:AV→Prop):Fm k (.tup [a,b])=k a:=⋯
section
variable (w:ya) (x:Cx) (H:Hp) (s a n d f g:AV) (p:Str)
theorem HX(k:AV→Hp→Prop):(evX (wF w) x 20).e (x5 Q4 0) (Dm s a n d f g) H k=yD (decide (2≤sizeLine)) (k (.list [f,g]) H):=⋯
theorem HY(k:AV→Hp→Prop):(evX (y8 w Q4) x 20).e (w6 Q4) (xp (za "line") (.str p) (wf (zM Q4).names (Dm s a n d f g))) H k =
  Vw [.str p] [] H fun r H1=>yD (decide (0≤sizeLine)) (yD (decide (2≤sizeLine)) (Uw [.glob (.ref 859),r,.tup [.list [],.bool false]] [] H1 fun c H2=>Fm (fun d=>k d H2) c)):=⋯
end
structure LineOk(p:Str)(ts ns:List Str):Prop where
 lex:∃N,vh N p.cps.toList=some (ts.map fun t=>t.cps.toList)
 len:p.length<sizeLine∧ts.length≤sizeLine
 ok:Ld ([],false) ts
 res:(vQ ([],false) ts).1=ns
theorem CO(h:n≤16777216):decide (n≤sizeLine)=true:=decide_eq_true (by refine zc zy ?_;exact h)
theorem dC(L:LineOk p ts ns)(h:k (.list (ts.map .str)) H):Vw [.str p] [] H k:=by
 exact yf L.lex fun N e=>⟨rfl,p,N,ts,rfl,⟨e,L.len⟩,h⟩
theorem Jc(Zy:Sits n w (rk (Yq w.params) (zM Q4)) [] (bX w) (fun U U=>none) y)(hn:n<920)(L:LineOk p ts ns)(h:k (.list (ns.map .str)) H):
  zL y (xp (za "line") (.str p) (wf (zM Q4).names (Dm s a na d f g))) H (zR (w6 Q4) y.env) k:=by
 refine(Zy.evX (zN 0x39833523d43352 [n] hn rfl) 20).e _ _ _ _ ((?_:(evX (y8 w Q4) y 20).e _ (xp (za "line") (.str p) (wf (zM Q4).names (Dm s a na d f g))) H _))
 refine zw (HY ..) (dC L (y7 (CO (by decide)) (y7 (CO (by decide)) ⟨rfl,([],false),ts,rfl,L.ok,?_⟩)))
 refine(?_:Fm _ (.tup [.list _,.bool _]))
 refine zw (A9 ..) (zc L.res ?_)
 exact h
theorem Jb(Z:Yo n w x)(hn:n<920)(L1:LineOk p ts ns)(L2:LineOk q us ms)(h:k .next (Kp s a na d (.str p) (.str q) (.list [.list (ns.map .str),.list (ms.map .str)])) H):zQ x (Dm s a na d (.str p) (.str q)) H (tx (zm yC 4) x.env) k:=by
 refine zc Gr ?_
 have hk:x.env.kindOf (za "lists")=some .local:=(xl Z.fits _).trans ⋯
 refine Z.assign_comp Ms ⋯ (fun U=>rfl) (hV Z.fits.fn hk ⋯) ⋯ ((Z.evX (zN 0x39833523d43352 [n] hn rfl) 20).e _ _ _ _ ?_)
 refine(?_:(evX (wF w) x 20).e _ (Dm s a na d (.str p) (.str q)) H _)
 refine zw (HX ..) ?_
 refine y7 (CO (by decide)) ⟨[.str p,.str q],fun rest out H1=>H1=H∧((rest=[.str p,.str q]∧out=[])∨(rest=[.str q]∧out=[.list (ns.map .str)])∨(rest=[]∧out=[.list (ns.map .str),.list (ms.map .str)])),rfl,trivial,by refine zc zy ?_;exact(show 2≤16777216 by decide),⟨rfl,.inl ⟨rfl,rfl⟩⟩,?_,?_⟩
 ·intro b rest out H1 hJ y Zy
  obtain⟨rfl,hJ⟩:=hJ
  refine ui ⟨fun e=>(by cases e),fun U=>?_⟩
  rcases hJ with⟨e,rfl⟩|⟨e,rfl⟩|⟨e,rfl⟩
  ·cases e
   exact Jc Zy hn L1 ⟨rfl,.inr (.inl ⟨rfl,rfl⟩)⟩
  ·cases e
   exact Jc Zy hn L2 ⟨rfl,.inr (.inr ⟨rfl,rfl⟩)⟩
  ·exact cN e
 ·intro out H1 hJ
  obtain⟨rfl,hJ⟩:=hJ
  rcases hJ with⟨e,rfl⟩|⟨e,rfl⟩|⟨e,rfl⟩
  ·cases e
  ·exact nC e
  ·exact h
end
section
noncomputable abbrev Q5:Expr:=wV (zm yC 5)
noncomputable abbrev oe:Str:=za "end"
noncomputable abbrev iG:Str:=za "name"
theorem Nm:Q5=Hh Q5 oe iG:=⋯
theorem Mr:wP (Yq P) (zM Q5)=true:=⋯
theorem ny:Yv Q5 0=[]∧Yv Q5 1=[]:=⟨⋯,⋯⟩
theorem Gq:zm yC 5=.Assign [.Name (za "calls") (mB (zm yC 5))] (Hh Q5 oe iG) (zm yC 5).pos:=⋯
noncomputable abbrev eV(s a n d f g l c:AV):y3:=[(za "script",s),(za "numbers",a),(za "names",n),(za "words",d),(za "first",f),(za "second",g),(za "lists",l),(za "calls",c)]
noncomputable def jf:List Str:=[za "",za ".a",za "b"]
noncomputable def wg(ns:List Str):List Str:=jf.flatMap fun e=>ns.map (·++e)
section
variable (w:ya) (x:Cx) (H:Hp) (s a n d f g l b:AV) (e p:Str)
theorem HV(k:AV→Hp→Prop):(evX (wF w) x 20).e (x5 Q5 0) (Kp s a n d f g l) H k=yD (decide (3≤sizeLine)) (k (.list (jf.map .str)) H):=⋯
theorem CJ:wf (zM Q5).names (Kp s a n d f g l)=[(za "names",n)]:=⋯
theorem D2(k:AV→Hp→Prop):(evX (y8 w Q5) x 20).e (x5 Q5 1) [(za "names",n),(oe,a)] H k=k n H:=⋯
theorem D1(k:AV→Hp→Prop):(evX (y8 w Q5) x 20).e (x5 Q5 1) [(za "names",n),(oe,a),(iG,b)] H k=k n H:=⋯
theorem HW(k:AV→Hp→Prop):(evX (y8 w Q5) x 20).e (w6 Q5) (xp iG (.str p) ([(za "names",n)]++[(oe,.str e)])) H k=(p.length+e.length≤sizeLine∧k (.str (p++e)) H):=⋯
end
noncomputable def Nq(f:Str→List Str):AV→List AV
 |.str y=>(f y).map .str
 |_=>[]
theorem dS(f:Str→List Str):∀ms:List Str,(ms.map AV.str).flatMap (Nq f)=(ms.flatMap f).map .str:=by
 intro l0
 induction l0 with
 |nil =>
  exact rfl
 |cons i r ih =>
  refine zc zU (zc y0 (zc (ih) (zc y0 (zc yc ?_))));rfl
theorem Q0:∀e∈jf,e.length≤2:=fun e h=>by
 rcases zn.mp h with rfl|h
 ·exact(show 0≤2 by decide)
 ·rcases zn.mp h with rfl|h
  ·exact(show 2≤2 by decide)
  ·refine zc (zd.mp h) ?_;exact(show 1≤2 by decide)
theorem Wm(h:ns.length≤100∧∀b∈ns,b.length≤100):(wg ns).length≤300∧∀c∈wg ns,c.length≤102:=by
 refine⟨?_,fun c hc=>?_⟩
 ·refine(?_:(ns.map _++(ns.map _++(ns.map _++[]))).length≤300)
  simp only[zG,zj,XE]
  exact zN 0x642331315313412c33013505050 [ns.length] (zF 3 h.1) rfl
 ·refine zt (uX.mp hc) fun e he hc=>zt (zB.mp hc) fun p hp z2=>?_;subst z2
  have h1:=Q0 e he
  have h2:=h.2 p hp
  exact zc (ye ..) (vB 0x6423521366623650 [p.length,e.length] h1 h2 rfl)
theorem Ja(Z:Yo n w x)(hn:n<920)(hl:ns.length≤100∧∀b∈ns,b.length≤100)(h:k .next (eV s a (.list (ns.map .str)) d f g l (.list ((wg ns).map .str))) H):zQ x (Kp s a (.list (ns.map .str)) d f g l) H (tx (zm yC 5) x.env) k:=by
 refine zc Gq ?_
 have hk:x.env.kindOf (za "calls")=some .cell:=(xl Z.fits _).trans ⋯
 refine zQ.assign_name Z.fits.fn (.inr ⟨hk,fun c=>Z.fits.wr _ ⋯ c⟩) (mH hk) ?_
 refine Z.comp2 Mr ⋯ (by refine zc (CJ ..) ?_;rfl) (fun U=>rfl) (fun U U=>rfl) ((Z.evX (zN 0x39833523d43352 [n] hn rfl) 20).e _ _ _ _ ?_)
 refine(?_:(evX (wF w) x 20).e _ (Kp s a (.list (ns.map .str)) d f g l) H _)
 refine zw (HV ..) ?_
 refine y7 (CO (by decide)) ⟨jf.map .str,Nq fun e=>ns.map (·++e),rfl,trivial,by refine zc (dS ..) (zc (zj ..) (zc zy ?_));have:=(Wm hl).1;exact yv this (by decide),?_,?_⟩
 ·intro b hb y Zy fr1 hfr
  refine zt (zB.mp hb) fun e he z2=>?_;subst z2
  rw[CJ]at hfr ⊢
  rw[ny.1]
  refine ui ⟨rfl,fun e=>(by exact tF e),fun U=>(Zy.evX (zN 0x39833523d43352 [n] hn rfl) 20).e _ _ _ _ ?_⟩
  have e2:(evX (y8 w Q5) y 20).e (x5 Q5 1) fr1 H=fun k=>k (.list (ns.map .str)) H:=by
   rcases hfr with rfl|⟨b,rfl⟩
   ·exact funext fun k=>D2 w y H (.str e) (.list (ns.map .str)) k
   ·exact funext fun k=>D1 w y H (.str e) (.list (ns.map .str)) b k
  refine(?_:(evX (y8 w Q5) y 20).e _ _ _ _)
  refine zc e2 (zc ny.2 ?_)
  refine⟨rfl,ns.map .str,_,rfl,trivial,uA.all (f:=IR (·++e)) fun b hb z Zz=>?_,?_⟩
  ·refine zt (zB.mp hb) fun p hp z2=>?_;subst z2
   refine(Zz.evX (zN 0x39833523d43352 [n] hn rfl) 20).e _ _ _ _ ((?_:(evX (y8 w Q5) z 20).e _ _ _ _))
   refine zw (HW ..) ?_
   have h1:=hl.2 p hp
   have h2:=Q0 e he
   exact⟨by refine zc zy ?_;exact vB 0x213664235100000073650 [p.length,e.length] h1 h2 rfl,rfl,rfl⟩
  ·refine zc (bD ..) ?_;rfl
 ·exact zc (dS ..) h
end
section
set_option tactic.hygienic true
noncomputable abbrev Ub:Expr:=X8 (wV (zm yC 6)) 0
noncomputable abbrev kY:Expr:=X8 (wV (zm yC 6)) 1
noncomputable abbrev Tc:Str:=za "row"
theorem nu:Ub=f6 Ub Tc:=⋯
theorem nr:kY=f6 kY (za "call"):=⋯
theorem nv:wP (Yq P) (zM Ub)=true:=⋯
theorem IM:wP (Yq P) (zM kY)=true:=⋯
theorem IN:w6 Ub=.Call (.Name (za "_Ignore") (tr (w6 Ub))) (xC (w6 Ub)) [] (qa (w6 Ub)):=⋯
section
variable (w:ya) (x:Cx) (H:Hp) (s a n d f g l c b:AV) (p:Str)
theorem HQ(k:AV→Hp→Prop):(evX (y8 w Ub) x 20).e (.Name (za "_Ignore") (tr (w6 Ub))) (xp Tc b (wf (zM Ub).names (eV s a n d f g l c))) H k=k (.glob (.ref 826)) H:=⋯
theorem HU(k:List AV→Hp→Prop):(evX (y8 w Ub) x 20).l (xC (w6 Ub)) (xp Tc b (wf (zM Ub).names (eV s a n d f g l c))) H k=k [b] H:=⋯
theorem HS(k:AV→Hp→Prop):(evX (wF w) x 20).e (x5 Ub 0) (eV s a n d f g l c) H k=k l H:=⋯
end
theorem Sits.more{F:zi→Option yG}{DP:zI→Str→Option yG}(Z:Sits n w kinds wr F DP x)(Y W:List zI):Sits n w kinds wr F DP (x.more Y W):=
 Z.same ⟨Z.base.K,Z.base.room,Z.base.link⟩ rfl rfl rfl rfl
theorem Kept.noneK{x:Cx}{fr:y3}{H:Hp}{s s':zg}(a:Kept x s s')(S:St x fr H s'){d:zI}(h:s'.heap.get? d=Option.none):s.heap.get? d=Option.none:=
 a.none (fun t=>by(refine zt (S.kinds d t) fun o e z2=>?_;clear z2);rw[h]at e;exact nS e) h
theorem cY{n:Nat}{w:ya}{y:Cx}(Z:Sits n w (rk (Yq w.params) (zM Ub)) [] (bX w) (fun _ _=>none) y)(hn:n<920){H0:Hp}{s a na d f g l c:AV}{ns:List Str}(h1:y.ρ.ob.length=H0.length)(h2:y.δ.length=H0.length)(hne:ns≠[])(hl:ns.length+2<scanBound){k:AV→List zI→List zI→Hp→Prop}(h:∀a0 d0 j,k (.obj H0.length) [a0,j] [d0,j] (H0++[RD w ns (H0.length+1),XU])):
  kW y (xp Tc (.list (ns.map .str)) (wf (zM Ub).names (eV s a na d f g l c))) H0 (zR (w6 Ub) y.env) k:=by
 intro st S Q E q
 refine zc IN ?_
 have hw:=Z.hw
 subst hw
 refine Up Z.fits.K AQ ⋯ rfl S (k':=fun avs kvs H1=>H1=H0∧avs=[.list (ns.map .str)]∧kvs=[]) ((Z.evX (zN 0x39833523d43352 [n] hn rfl) 20).e _ _ _ _ ?_) fun vs ks avs kvs H' s' q1 c1 c2 S1 K1=>?_
 ·refine(?_:(evX (y8 y.w Ub) y 20).e _ (xp Tc (.list (ns.map .str)) (wf (zM Ub).names (eV s a na d f g l c))) H0 _)
  refine zw (HQ ..) ⟨rfl,(Z.evX (zN 0x39833523d43352 [n] hn rfl) 20).l _ _ _ _ _ ⋯ ?_⟩
  refine(?_:(evX (y8 y.w Ub) y 20).l _ (xp Tc (.list (ns.map .str)) (wf (zM Ub).names (eV s a na d f g l c))) H0 _)
  exact zw (HU ..) (w9.kws_nil ⟨rfl,rfl,rfl⟩)
 ·refine yU q1 fun z0 z1 z2=>?_;clear q1;subst z0;subst z1;subst z2
  subst c2
  refine xk c1 fun v r z2 cv cr=>?_;clear c1;subst z2
  subst cr
  refine yL (j9 Z.base (zN 0x39833523ac3352 [n] hn rfl) S1 h1 h2 cv hne hl fun a0 d0 j s2 n0 nd nj K2 S2=>?_)
  have nn:∀{b},s'.heap.get? b=none→st.heap.get? b=none:=fun{b} hb=>K1.noneK S1 hb
  refine q _ _ _ _ _ s2 (h a0 d0 j) ?_ S2 (fun b hb=>?_) (fun b hb=>?_) (K1.trans K2)
  ·exact ub ⟨a0,by show(y.ρ.ob++[a0,j])[H'.length]?=some a0;refine xv h1 ?_;simp,rfl⟩
  ·rcases zn.mp hb with rfl|hb
   ·exact nn n0
   ·refine zc (zd.mp hb) ?_;exact nn nj
  ·rcases zn.mp hb with rfl|hb
   ·exact nn nd
   ·refine zc (zd.mp hb) ?_;exact nn nj
noncomputable abbrev GP(w:ya)(ns ms:List Str):Hp:=[RD w ns 1,XU,RD w ms 3,XU]
theorem fI{n:Nat}{w:ya}{x:Cx}(Z:Yo n w x)(hn:n<920){s a na d f g c:AV}{ns ms:List Str}(h1:x.ρ.ob=[])(h2:x.δ=[])(hne:ns≠[]∧ms≠[])(hl:ns.length+2<scanBound∧ms.length+2<scanBound){k:AV→List zI→List zI→Hp→Prop}(h:∀a0 d0 j a1 d1 j1,k (.list [.obj 0,.obj 2]) [a0,j,a1,j1] [d0,j,d1,j1] (GP w ns ms)):
  kW x (eV s a na d f g (.list [.list (ns.map .str),.list (ms.map .str)]) c) [] (zR Ub x.env) k:=by
 refine zc nu (kW.comp (UH Z nv) (fun _=>rfl) Z.base.room.hh ((Z.evX (zN 0x39833523d43352 [n] hn rfl) 20).e _ _ _ _ ?_))
 refine(?_:(evX (wF w) x 20).e _ (eV s a na d f g (.list [.list (ns.map .str),.list (ms.map .str)]) c) [] _)
 refine zw (HS ..) ⟨[.list (ns.map .str),.list (ms.map .str)],rfl,trivial,fun x' acc S=>?_⟩
 have Z':=Z.sub nv S
 refine Y5 S.eq fun env oc e=>?_
 have e1:x'.ρ.ob=[]:=by refine zc e ?_;exact h1
 have e2:x'.δ=[]:=by refine zc e ?_;exact h2
 have tk:=aB (t:=Tc) Z nv S ⋯
 refine XW.emit (cE _ _ _ _ _) Z'.fits.fn tk (wk _) fun I _=>fun st St0 Q E q=>cY (k:=fun v Y W H2=>∃a0 d0 j,v=.obj 0∧Y=[a0,j]∧W=[d0,j]∧H2=[RD w ns 1,XU]) (Z'.wi [I]) hn (H0:=[]) (by refine zc e1 ?_;rfl) (by refine zc e2 ?_;rfl) hne.1 hl.1 (fun a0 d0 j=>⟨a0,d0,j,rfl,rfl,rfl,rfl⟩) st St0 Q E fun v av Y W H' s' k1=>q v av Y W H' s' ?_
 refine Wj k1 fun a0 d0 j z3 z4 z5 z6=>?_;clear k1;subst z3;subst z4;subst z5;subst z6
 refine XW.emit (cE _ _ _ _ _) (Z'.more _ _).fits.fn tk (by refine zc zy ?_;exact(show 1≤16777216 by decide)) fun I2 _=>?_
 refine zc mq ?_
 refine fun st St0 Q E q=>cY (k:=fun v Y W H2=>∃a1 d1 j1,v=.obj 2∧Y=[a1,j1]∧W=[d1,j1]∧H2=GP w ns ms) ((Z'.more [a0,j] [d0,j]).wi [I2]) hn (H0:=[RD w ns 1,XU]) (by show(x'.ρ.ob++_).length=_;refine zc e1 ?_;rfl) (by show(x'.δ++_).length=_;refine zc e2 ?_;rfl) hne.2 hl.2 (fun a1 d1 j1=>⟨a1,d1,j1,rfl,rfl,rfl,rfl⟩) st St0 Q E fun v av Y W H' s' k1=>q v av Y W H' s' ?_
 refine Wj k1 fun a1 d1 j1 z3 z4 z5 z6=>?_;clear k1;subst z3;subst z4;subst z5;subst z6
 exact XW.nil (cE _ _ _ _ _) (h a0 d0 j a1 d1 j1)
end
section
noncomputable abbrev qh:Str:=za "readers"
noncomputable abbrev bo:Str:=za "due"
noncomputable abbrev VW:Str:=za "call"
noncomputable abbrev FE(s a n d f g l c r u:AV):y3:=[(za "script",s),(za "numbers",a),(za "names",n),(za "words",d),(za "first",f),(za "second",g),(za "lists",l),(za "calls",c),(qh,r),(bo,u)]
noncomputable def Ir(e:Expr):Nat:=(xM e).2.2.1
theorem Gp:zm yC 6=.Assign [.Tuple [.Name qh (X8 (Xv (zm yC 6)) 0).pos,.Name bo (X8 (Xv (zm yC 6)) 1).pos] (mz (zm yC 6)) (Xv (zm yC 6)).pos] (.Tuple [Ub,kY] (Ir (wV (zm yC 6))) (wV (zm yC 6)).pos) (zm yC 6).pos:=⋯
section
variable (w:ya) (x:Cx) (H:Hp) (s a n d f g l c r u:AV) (p:Str) (m:List AV)
theorem HR(k:AV→Hp→Prop):(evX (wF w) x 20).e (x5 kY 0) (eV s a n d f g l c) H k=k c H:=⋯
theorem HT(k:AV→Hp→Prop):(evX (y8 w kY) x 20).e (w6 kY) (xp VW (.str p) (wf (zM kY).names (eV s a (.list m) d f g l c))) H k=Bn [.list m,.str p] [] H k:=⋯
theorem NM:xp bo u (xp qh r (eV s a n d f g l c))=FE s a n d f g l c r u:=⋯
end
noncomputable def Nr(f:Str→Int):AV→AV
 |.str y=>.int (f y)
 |a=>a
theorem Fw(f:Str→Int)(l:List Str):((l.map AV.str).filterMap fun a=>some (Nr f a))=(l.map f).map .int:=by
 induction l with
 |nil=>rfl
 |cons a r ih=>refine zc zU (zc yr (zc ih ?_));rfl
theorem Bm(Z:Yo n w x)(hn:n<920)(hl:ns.length≤100∧∀b∈ns,b.length≤100)(h:k (.list (((wg ns).map (Qj ns)).map .int)) H):
  zL x (eV s a (.list (ns.map .str)) d f g l (.list ((wg ns).map .str))) H (zR kY x.env) k:=by
 have hc:=Wm hl
 refine zc nr (Z.comp_map IM ⋯ (fun U=>rfl) ((Z.evX (zN 0x39833523d43352 [n] hn rfl) 20).e _ _ _ _ ?_))
 refine(?_:(evX (wF w) x 20).e _ (eV s a (.list (ns.map .str)) d f g l (.list ((wg ns).map .str))) H _)
 refine zw (HR ..) ?_
 refine⟨(wg ns).map .str,_,rfl,trivial,by refine zc (zj ..) (zc zy ?_);have:=hc.1;exact zN 0x12c3351000000735 [(wg ns).length] hc.1 rfl,uA.all (f:=Nr (Qj ns)) fun b hb y Zy=>?_,?_⟩
 ·refine zt (zB.mp hb) fun p hp z2=>?_;subst z2
  refine(Zy.evX (zN 0x39833523d43352 [n] hn rfl) 20).e _ _ _ _ ((?_:(evX (y8 w kY) y 20).e _ (xp VW (.str p) (wf (zM kY).names (eV s a (.list (ns.map .str)) d f g l (.list ((wg ns).map .str))))) H _))
  refine zw (HT ..) ?_
  refine⟨rfl,ns,p,rfl,⟨by have:=hl.1;exact zN 0x642352710435 [ns.length] hl.1 rfl,by have:=hc.2 p hp;exact zN 0x66235186a0535 [p.length] this rfl,fun q hq=>by have:=hl.2 q hq;exact zN 0x64235186a0535 [q.length] this rfl⟩,rfl,rfl⟩
 ·refine zc (Fw ..) ?_;exact h
theorem I9{n:Nat}{w:ya}{x:Cx}(Z:Yo n w x)(hn:n<920){s a d f g:AV}{ns ms:List Str}(h1:x.ρ.ob=[])(h2:x.δ=[])(hne:ns≠[]∧ms≠[])(hl:ns.length≤100∧∀b∈ns,b.length≤100)(hm:ms.length≤100){st:zg}(S:St x (eV s a (.list (ns.map .str)) d f g (.list [.list (ns.map .str),.list (ms.map .str)]) (.list ((wg ns).map .str))) [] st){Q:Qw→zg→Prop}{E:zi→zg→Prop}(q:∀Y W s',Y.length=4→W.length=4→(∀b∈W,st.heap.get? b=none)→St (x.more Y W) (FE s a (.list (ns.map .str)) d f g (.list [.list (ns.map .str),.list (ms.map .str)]) (.list ((wg ns).map .str)) (.list [.obj 0,.obj 2]) (.list (((wg ns).map (Qj ns)).map .int))) (GP w ns ms) s'→Kept x st s'→Q .next s'):
  zr (zu pw x.w) x.A (tx (zm yC 6) x.env) Q E st:=by
 refine zc Gp ?_
 have hw:=Z.hw
 have hk1:x.env.kindOf qh=some .cell:=(xl Z.fits _).trans ⋯
 have hk2:x.env.kindOf bo=some .cell:=(xl Z.fits _).trans ⋯
 have sw:=Nj (n2:=bo) (p1:=(X8 (Xv (zm yC 6)) 0).pos) (p2:=(X8 (Xv (zm yC 6)) 1).pos) (tp:=(Xv (zm yC 6)).pos) (q:=mz (zm yC 6)) (e:=.Tuple [Ub,kY] (Ir (wV (zm yC 6))) (wV (zm yC 6)).pos) (line:=(zm yC 6).pos.line) (env:=x.env) (by unfold g9;refine zc Z.fits.fn ?_;rfl) (by refine zc hk1 ?_;rfl) nu nr rfl
 refine Assign_Tuple (Tuple_ ?_) sw.1 sw.2
 refine zc (uL (e:=Ub) ⋯) (zc (uL (e:=kY) ⋯) ?_)
 refine uv (fI (k:=fun v Y W H2=>v=.list [.obj 0,.obj 2]∧Y.length=4∧W.length=4∧H2=GP w ns ms) Z hn h1 h2 hne ⟨?_,?_⟩ (fun U U U U U U=>⟨rfl,rfl,rfl,rfl⟩) st S _ E fun v1 a1 Y W H1 s1 k1 c1 S1 fy fw K1=>?_)
 ·have:=hl.1;exact zN 0x64235100043213502 [ns.length] hl.1 rfl
 ·unfold scanBound;exact zN 0x64235100043213502 [ms.length] hm rfl
 refine Qi k1 fun z0 ly lw z3=>?_;clear k1;subst z0;subst z3
 have Z2:=Z.more Y W
 refine uv (Bm (k:=fun v H2=>v=.list (((wg ns).map (Qj ns)).map .int)∧H2=GP w ns ms) Z2 hn hl ⟨rfl,rfl⟩ s1 S1 _ E fun v2 a2 H2 s2 k2 c2 S2 K2=>Xs ?_)
 refine zK k2 fun z0 z1=>?_;clear k2;subst z0;subst z1
 have X:=Ext.push s2 {cls:=.type "tuple",data:=.seq [v1,v2].toArray} s2.toks
 refine yQ ?_ (by show 2≤sizeLine;refine zc zy ?_;exact(show 2≤16777216 by decide))
 have ct:ConL (x.more Y W).ρ s2.heap [.list [.obj 0,.obj 2],.list (((wg ns).map (Qj ns)).map .int)] [v1,v2]:=by
  refine⟨v1,[v2],rfl,c1.mono (S1.nonMut K2),?_⟩
  refine⟨v2,[],rfl,c2,?_⟩
  unfold ConL;rfl
 have K12:Kept x st s2:=K1.on K2 fun c t=>by
  rcases t with t|t|t
  ·exact .inl (.inl t)
  ·exact .inl (.inr (.inl t))
  ·rcases zv.mp t with t|t
   ·exact .inl (.inr (.inr t))
   ·exact .inr (fw c t)
 refine WD (x:=x.more Y W) Z.fits.fn (.inr ⟨hk1,fun c=>Z.fits.wr _ ⋯ c⟩) (.inr ⟨hk2,fun c=>Z.fits.wr _ ⋯ c⟩) Z.base.room.hh (S2.ext X) (oh (n:=0) (vs:=[v1,v2]) (Zi S2.opn) (zx _ rfl) (ct.mono X.nonMut)) fun s4 S4 K4=>?_
 rw[NM]at S4
 exact q Y W s4 ly lw fw S4 ((K12.trans (X.kept x)).on K4 fun c t=>by
  rcases t with t|t|t
  ·exact .inl (.inl t)
  ·exact .inl (.inr (.inl t))
  ·rcases zv.mp t with t|t
   ·exact .inl (.inr (.inr t))
   ·exact .inr (fw c t))
end
section
noncomputable abbrev Q7:Expr:=wV (zm yC 7)
noncomputable abbrev Cc:Expr:=w6 Q7
noncomputable abbrev LI:Str:=za "reader"
theorem Nl:Q7=f6 Q7 LI:=⋯
theorem EG:Cc=f6 Cc VW:=⋯
noncomputable abbrev K7(P:zp):List (Str×NameKind):=rk (Yq P) (zM Q7)
noncomputable abbrev D7(w:ya):Stat:=Ze w.params (rk (K7 w.params) (zM Cc)) [] (bX w) fun U U=>none
theorem Mq:wP (Yq P) (zM Q7)=true:=⋯
theorem IL:wP (K7 P) (zM Cc)=true:=⋯
theorem Go:zm yC 7=.Assign [.Name (za "told") (mB (zm yC 7))] (f6 Q7 LI) (zm yC 7).pos:=⋯
noncomputable abbrev cg(s a n d f g l c r u t:AV):y3:=[(za "script",s),(za "numbers",a),(za "names",n),(za "words",d),(za "first",f),(za "second",g),(za "lists",l),(za "calls",c),(qh,r),(bo,u),(za "told",t)]
noncomputable abbrev Hj(c r:AV):y3:=[(za "calls",c),(LI,r)]
section
variable (w:ya) (x:Cx) (H:Hp) (s a n d f g l c r u t:AV) (p:Str) (i:Nat)
theorem HL(k:AV→Hp→Prop):(evX (wF w) x 20).e (x5 Q7 0) (FE s a n d f g l c r u) H k=k r H:=⋯
theorem HN:xp LI t (wf (zM Q7).names (FE s a n d f g l c r u))=Hj c t:=⋯
theorem HK(k:AV→Hp→Prop):(evX (y8 w Q7) x 20).e (x5 Cc 0) (Hj c r) H k=k c H:=⋯
theorem HO(k:AV→Hp→Prop):(evX (D7 w) x 20).e (w6 Cc) (xp VW (.str p) (wf (zM Cc).names (Hj c (.obj i)))) H k =
  QR (D7 w) (.obj i) (za "names") H fun g=>yD (qi (KF w.params) g) (W2 (D7 w) g [.obj i,.str (za "f"),.str p] [] H k):=⋯
theorem HP(k:AV→Hp→Prop):yD (qi (KF w.params) (.ref 823)) (W2 (D7 w) (.ref 823) [.obj i,.str (za "f"),.str p] [] H k)=cG w [.obj i,.str (za "f"),.str p] [] H k:=⋯
theorem NL:xp (za "told") t (FE s a n d f g l c r u)=cg s a n d f g l c r u t:=⋯
end
theorem iJ(hi:H[i]?=some (.inst C fs))(hm:D.M C n=some f)(hl:lk n fs=none):QR D (.obj i) n H k=k (.ref f):=by
 refine(?_:(ZE H[i]? fun C fs=>xW (D.M C n) fun f=>yD (lk n fs).isNone (k (.ref f)))=_)
 refine zc hi ((?_:(xW (D.M C n) fun f=>yD (lk n fs).isNone (k (.ref f)))=_))
 refine zc hm ((?_:yD (lk n fs).isNone _=_))
 refine zc hl ?_
 rfl
noncomputable abbrev aG:Str:=za "<string>"
structure MemoOk(S done:List Str)(fs:List (Str×AV)):Prop where
 has:∀c∈done,lk c fs=some (.int (y6 S c))
 val:∀c av,c≠aG→lk c fs=some av→av=.int (y6 S c)
 len:fs.length≤1+done.length
theorem iK:∀{l:List (Str×α)},lk c (l++[(d,b)])=match lk c l with|some a=>some a|none=>if c=d then some b else none:=by
 intro l0
 induction l0 with
 |nil =>
  refine(?_:lk c [(d,b)]=_)
  refine zc wQ ?_
  cases h:zZ c d with
  |true=>refine zc (if_pos (yk.mp h)) ?_;rfl
  |false=>refine zc (if_neg fun e=>by rw[yk.mpr e]at h;cases h) ?_;rfl
 |cons p r ih =>
  refine(?_:lk c (p::(r++[(d,b)]))=_)
  unfold lk
  cases h:zZ c p.1 with
  |true=>rfl
  |false=>exact ih
theorem MemoOk.start(S:List Str):MemoOk S [] [(aG,.int 1)]:=
 ⟨fun c h=>(by cases h),fun c av hc h=>(by
  rw[wQ]at h
  cases q:zZ c aG with
  |true=>exact absurd (yk.mp q) hc
  |false=>rw[q]at h;exact nS h),zX _⟩
theorem MemoOk.old(M:MemoOk S done fs)(hc:c≠aG)(h:lk c fs=some av):av=.int (y6 S c)∧MemoOk S (done++[c]) fs:=by
 have e:=M.val c av hc h
 refine⟨e,fun d hd=>?_,M.val,by refine zc zG ?_;have:=M.len;exact zN 0x61130576011305 [fs.length,done.length,[c].length] this rfl⟩
 rcases zv.mp hd with hd|hd
 ·exact M.has d hd
 ·exact zc (zd.mp hd) (zc h (zc e rfl))
theorem MemoOk.new(M:MemoOk S done fs)(h:lk c fs=none):MemoOk S (done++[c]) (fs++[(c,.int (y6 S c))]):=by
 refine⟨fun d hd=>?_,fun d av hd e=>?_,by(refine zc zG (zc zG ?_);rw[ug];refine zc ug ?_);have:=M.len;exact zN 0x61130511360113011350 [fs.length,done.length] this rfl⟩
 ·refine zc iK ?_
  rcases zv.mp hd with hd|hd
  ·exact zc (M.has d hd) rfl
  ·refine zc (zd.mp hd) (zc h ?_);exact if_pos rfl
 ·rw[iK]at e
  cases q:lk d fs with
  |some a=>rw[q]at e;cases e;exact M.val d av hd q
  |none =>
   rw[q]at e
   dsimp only at e
   split at e
   ·rename_i z;subst z;(replace e:=zf e;subst e);rfl
   ·exact nS e
theorem mU{α:Type}{l:List α}{i:Nat}{a:α}(h:l[i]?=some a):l.set i a=l:=by
 refine yf (yi.mp h) fun hi z1=>?_;subst z1
 exact List.set_getElem_self hi
structure SetOk(S:List Str):Prop where
 two:∃k1 k2,k1∈S∧k2∈S∧k1≠k2
 len:S.length≤100∧∀m∈S,m.length≤100
theorem cF{n:Nat}{w:ya}{y:Cx}(Z:Sits n w (K7 w.params) [] (bX w) (fun U U=>none) y)(hn:n<920){H:Hp}{i j:Nat}{S cs:List Str}{m0:List (Str×AV)}(hi:H[i]?=some (RD w S j))(hj:H[j]?=some (.dict m0))(hm:MemoOk S [] m0)(hij:i≠j)(hS:SetOk S)(hc:cs.length≤300∧∀c∈cs,c≠aG){k:AV→Hp→Prop}(h:∀fs,MemoOk S cs fs→k (.list ((cs.map (y6 S)).map .int)) (H.set j (.dict fs))):zL y (Hj (.list (cs.map .str)) (.obj i)) H (zR Cc y.env) k:=by
 refine zc EG (Z.comp IL ⋯ (fun U=>rfl) ((Z.evX (zN 0x39833523d43352 [n] hn rfl) 20).e _ _ _ _ ?_))
 refine(?_:(evX (y8 w Q7) y 20).e _ (Hj (.list (cs.map .str)) (.obj i)) H _)
 refine zw (HK ..) ?_
 have hjl:=(yi.mp hj).1
 refine⟨cs.map .str,fun rest out H1=>∃done todo fs,cs=done++todo∧rest=todo.map .str∧out=(done.map (y6 S)).map .int∧H1=H.set j (.dict fs)∧MemoOk S done fs,rfl,trivial,by refine zc (zj ..) (zc zy ?_);have:=hc.1;exact zN 0x12c3351000000735 [cs.length] hc.1 rfl,⟨[],cs,m0,rfl,rfl,rfl,?_,hm⟩,?_,?_⟩
 ·exact zc (mU hj) rfl
 ·intro a rest out H1 hJ z Zz
  refine Wj hJ fun done todo fs e er eo z6=>?_;clear hJ;refine zK z6 fun eH M=>?_;clear z6
  subst eo eH
  cases todo with
  |nil=>exact cN er
  |cons c todo =>
   cases er
   refine ui ⟨fun e=>(by exact tF e),fun U=>(Zz.evX (zN 0x39833523d43352 [n] hn rfl) 20).e _ _ _ _ ?_⟩
   refine(?_:(evX (D7 w) z 20).e _ (xp VW (.str c) (wf (zM Cc).names (Hj (.list (cs.map .str)) (.obj i)))) _ _)
   have hcm:c∈cs:=by refine zc e ?_;exact zD _ (.head _)
   have hcs:=hc.2 c hcm
   have hi':(H.set j (.dict fs))[i]?=some (RD w S j):=by refine zc (qW (uF hij)) ?_;exact hi
   have hj':(H.set j (.dict fs))[j]?=some (.dict fs):=qf hjl
   have hlen:done.length≤300:=by have:=congrArg xH e;rw[zG]at this;have:=hc.1;omega
   refine zw (HO ..) (zw (iJ (f:=823) hi' ⋯ ⋯) (zw (HP ..) ?_))
   refine⟨rfl,i,j,za "f",c,S,fs,rfl,hi',hj',hS.two,by have:=M.len;exact vB 0x61130512c336186a0535 [fs.length,done.length] hlen this rfl,fun m q=>by have:=hS.len.2 m q;exact zN 0x64235186a0535 [m.length] this rfl,?_⟩
   have en:cs=(done++[c])++todo:=by refine zc (zA ..) ?_;exact e
   cases q:lk c fs with
   |some av =>
    refine zK (M.old hcs q) fun z0 M'=>?_;subst z0
    exact⟨done++[c],todo,fs,en,rfl,by refine zc yc (zc yc ?_);rfl,rfl,M'⟩
   |none =>
    refine⟨done++[c],todo,_,en,rfl,by refine zc yc (zc yc ?_);rfl,?_,M.new q⟩
    exact zc (List.set_set ..) rfl
 ·intro out H1 hJ
  refine Wj hJ fun done todo fs e er eo z6=>?_;clear hJ;refine zK z6 fun eH M=>?_;clear z6
  subst eo eH
  have:todo=[]:=by
   cases todo with
   |nil=>rfl
   |cons c r=>exact nC er
  subst this
  rw[yB]at e
  subst e
  exact h fs M
noncomputable abbrev HM(w:ya)(ns ms:List Str)(f0 f1:List (Str×AV)):Hp:=[RD w ns 1,.dict f0,RD w ms 3,.dict f1]
theorem I8(Z:Yo n w x)(hn:n<920)(h1:SetOk ns)(h2:SetOk ms)(hc:cs.length≤300∧∀c∈cs,c≠aG)(h:∀f0 f1,MemoOk ns cs f0→MemoOk ms cs f1→k .next (cg s a na d f g l (.list (cs.map .str)) (.list [.obj 0,.obj 2]) u (.list [.list ((cs.map (y6 ns)).map .int),.list ((cs.map (y6 ms)).map .int)])) (HM w ns ms f0 f1)):
  zQ x (FE s a na d f g l (.list (cs.map .str)) (.list [.obj 0,.obj 2]) u) (GP w ns ms) (tx (zm yC 7) x.env) k:=by
 refine zc Go ?_
 have hk:x.env.kindOf (za "told")=some .local:=(xl Z.fits _).trans ⋯
 refine Z.assign_comp Mq ⋯ (fun U=>rfl) (hV Z.fits.fn hk ⋯) ⋯ ((Z.evX (zN 0x39833523d43352 [n] hn rfl) 20).e _ _ _ _ ?_)
 refine(?_:(evX (wF w) x 20).e _ (FE s a na d f g l (.list (cs.map .str)) (.list [.obj 0,.obj 2]) u) _ _)
 refine zw (HL ..) ?_
 refine⟨[.obj 0,.obj 2],fun rest out H1=>(rest=[.obj 0,.obj 2]∧out=[]∧H1=GP w ns ms)∨(rest=[.obj 2]∧out=[.list ((cs.map (y6 ns)).map .int)]∧∃f0,MemoOk ns cs f0∧H1=HM w ns ms f0 [(aG,.int 1)]) ∨
  (rest=[]∧out=[.list ((cs.map (y6 ns)).map .int),.list ((cs.map (y6 ms)).map .int)]∧∃f0 f1,MemoOk ns cs f0∧MemoOk ms cs f1∧H1=HM w ns ms f0 f1),rfl,trivial,by refine zc zy ?_;exact(show 2≤16777216 by decide),.inl ⟨rfl,rfl,rfl⟩,?_,?_⟩
 ·intro b rest out H1 hJ y Zy
  refine zc (HN ..) (ui ⟨fun e=>(by exact tF e),fun U=>?_⟩)
  rcases hJ with⟨e,rfl,rfl⟩|⟨e,rfl,f0,M0,rfl⟩|⟨e,-⟩
  ·cases e
   exact cF Zy hn (i:=0) (j:=1) (S:=ns) rfl rfl (.start ns) (by decide) h1 hc fun fs M=>.inr (.inl ⟨rfl,rfl,fs,M,rfl⟩)
  ·cases e
   exact cF Zy hn (i:=2) (j:=3) (S:=ms) rfl rfl (.start ms) (by decide) h2 hc fun fs M=>.inr (.inr ⟨rfl,rfl,f0,fs,M0,M,rfl⟩)
  ·exact cN e
 ·intro out H1 hJ
  rcases hJ with⟨e,-⟩|⟨e,-⟩|⟨e,rfl,f0,f1,M0,M1,rfl⟩
  ·exact nC e
  ·exact nC e
  ·exact zc (NL ..) (h f0 f1 M0 M1)
end
section
theorem Tq:∀{ps qs:List Int},UF (qH d) (ps.map .int) (qs.map .int)=some (decide (ps=qs))
 |[],[]=>rfl
 |[],_::_=>rfl
 |_::_,[]=>rfl
 |p::ps,q::qs=>by
  refine(?_:(qH d (.int p) (.int q)).bind (fun x=>(UF (qH d) (ps.map .int) (qs.map .int)).map fun y=>x&&y)=_)
  refine zc Tq (zc (show qH d (.int p) (.int q)=some (p==q)by cases d<;>rfl) ?_)
  refine(?_:some ((p==q)&&decide (ps=qs))=_)
  congr 1
  by_cases h:p=q<;>by_cases h2:ps=qs<;>simp[h,h2]
theorem Nt(hA:UF (qH 3) A A=some true)(hB:UF (qH 3) B B=some true):Y6 .NotEq (.list [.list A,.list B]) (.list [.list A,.list B]) k=k false:=by
 have:UF (qH 4) [.list A,.list B] [.list A,.list B]=some true:=by
  refine(?_:(UF (qH 3) A A).bind (fun x=>((UF (qH 3) B B).bind fun x=>(some true).map fun y=>x&&y).map fun y=>x&&y)=_)
  refine zc hA (zc hB ?_)
  rfl
 refine(?_:xW (UF (qH 4) [.list A,.list B] [.list A,.list B]) _=_)
 refine zc this ?_
 rfl
theorem Gn:zm yC 8=.If (uy (zm yC 8)) (ux (zm yC 8)) [] (zm yC 8).pos:=⋯
theorem Gm:zm yC 9=.If (uy (zm yC 9)) (ux (zm yC 9)) [] (zm yC 9).pos:=⋯
noncomputable abbrev Q9:Expr:=Ty (uy (zm yC 9))
noncomputable abbrev EV:Str:=za "one"
theorem IK:Q9=Hh Q9 Tc EV:=⋯
theorem Mp:wP (Yq P) (zM Q9)=true:=⋯
theorem nq:Yv Q9 0=[]∧Yv Q9 1=[Qa Q9 1]:=⟨⋯,⋯⟩
section
variable (w:ya) (x:Cx) (H:Hp) (s a g l c r u t b:AV) (p:Str) (N M m:List AV) (i:Int)
theorem NG(k:Bool→Hp→Prop):(evX (wF w) x 25).b (uy (zm yC 8)) (cg s a (.list N) (.list M) (.str p) g l c r u t) H k =
  Vw [.str p] [] H fun q H1=>Y6 .NotEq q (.list M) fun b=>tH b (k true H1) (UY (.list N) none none (some (-1)) fun z=>yD (decide (2≤sizeLine)) (Y6 .NotEq l (.list [.list N,z]) fun b2=>tH b2 (k true H1) (yD (decide (2≤sizeLine)) (Y6 .NotEq t (.list [u,u]) fun b3=>tH b3 (k true H1) (k false H1))))):=⋯
theorem NF(k:Bool→Hp→Prop):(evX (wF w) x 25).b (uy (zm yC 9)) (cg s a (.list N) (.list M) (.str p) g l c r u t) H k =
  zL x (cg s a (.list N) (.list M) (.str p) g l c r u t) H (zR Q9 x.env) fun a H1=>yD (decide (0≤sizeLine)) (Y6 .NotEq a (.list []) fun c=>k c H1):=⋯
theorem HI(k:AV→Hp→Prop):(evX (wF w) x 20).e (x5 Q9 0) (cg s a (.list N) (.list M) (.str p) g l c r u t) H k=k t H:=⋯
theorem CI:wf (zM Q9).names (cg s a (.list N) (.list M) (.str p) g l c r u t)=[]:=⋯
theorem D0(k:AV→Hp→Prop):(evX (y8 w Q9) x 20).e (x5 Q9 1) [(Tc,a)] H k=k a H:=⋯
theorem DZ(k:AV→Hp→Prop):(evX (y8 w Q9) x 20).e (x5 Q9 1) [(Tc,a),(EV,b)] H k=k a H:=⋯
theorem HJ(k:Bool→Hp→Prop):(evX (y8 w Q9) x 20).b (Qa Q9 1) (xp EV (.int i) ([]++[(Tc,a)])) H k=k false H:=⋯
end
theorem I7{n:Nat}{w:ya}{x:Cx}(Z:Yo n w x)(hn:n<920){H:Hp}{s a g c r:AV}{ns ws:List Str}{us:List Int}{p:Str}{ms:List Str}(L:LineOk p ws ms)(hl:ns.length≤100){k:AFlow→y3→Hp→Prop}{F:y3}(hF:F=cg s a (.list (ns.map .str)) (.list (ws.map .str)) (.str p) g (.list [.list (ns.map .str),.list (ns.reverse.map .str)]) c r (.list (us.map .int)) (.list [.list (us.map .int),.list (us.map .int)]))(h:k .next F H):zQ x F H (tx (zm yC 8) x.env) k:=by
 refine zc Gn (zc hF ?_)
 refine zQ.if_ ((Z.evX (zN 0x39833523d43352 [n] hn rfl) 25).b _ _ _ _ ?_)
 refine(?_:(evX (wF w) x 25).b _ (cg s a (.list (ns.map .str)) (.list (ws.map .str)) (.str p) g (.list [.list (ns.map .str),.list (ns.reverse.map .str)]) c r (.list (us.map .int)) (.list [.list (us.map .int),.list (us.map .int)])) H _)
 refine zw (NG ..) (dC L (zw W0 (zc (decide_eq_true rfl) ?_)))
 refine(?_:tH false _ _)
 refine zw tV (zw (ik (by rw[zj,zy];exact zN 0x642351000000735 [ns.length] hl rfl)) (xv YJ ?_))
 refine y7 (CO (by decide)) (zw (Nt (by rw[Y0,decide_eq_true rfl]) (by rw[Y0,decide_eq_true rfl])) (zw tV ?_))
 refine y7 (CO (by decide)) (zw (Nt (by rw[Tq,decide_eq_true rfl]) (by rw[Tq,decide_eq_true rfl])) (zw tV ?_))
 exact⟨fun e=>(by exact fT e),fun U=>zQ.nil (hF▸h)⟩
theorem I6{n:Nat}{w:ya}{x:Cx}(Z:Yo n w x)(hn:n<920){H:Hp}{s a g l c r u:AV}{N M:List AV}{p:Str}{us vs:List Int}{k:AFlow→y3→Hp→Prop}{F:y3}(hF:F=cg s a (.list N) (.list M) (.str p) g l c r u (.list [.list (us.map .int),.list (vs.map .int)]))(h:k .next F H):zQ x F H (tx (zm yC 9) x.env) k:=by
 refine zc Gm (zc hF ?_)
 refine zQ.if_ ((Z.evX (zN 0x39833523d43352 [n] hn rfl) 25).b _ _ _ _ ?_)
 refine(?_:(evX (wF w) x 25).b _ (cg s a (.list N) (.list M) (.str p) g l c r u (.list [.list (us.map .int),.list (vs.map .int)])) H _)
 refine zw (NF ..) (zc IK ?_)
 refine Z.comp2 Mp ⋯ (by refine zc (CI ..) ?_;rfl) (fun U=>rfl) (fun U U=>rfl) ((Z.evX (zN 0x39833523d43352 [n] hn rfl) 20).e _ _ _ _ ?_)
 refine(?_:(evX (wF w) x 20).e _ (cg s a (.list N) (.list M) (.str p) g l c r u (.list [.list (us.map .int),.list (vs.map .int)])) H _)
 refine zw (HI ..) ?_
 refine⟨[.list (us.map .int),.list (vs.map .int)],fun U=>[],rfl,trivial,by refine zc zy ?_;exact wk _,?_,y7 (CO (by decide)) ?_⟩
 ·intro b hb y Zy fr1 hfr
  have hbl:∃zs:List Int,b=.list (zs.map .int):=by
   rcases zn.mp hb with rfl|hb
   ·exact⟨_,rfl⟩
   ·exact⟨_,zd.mp hb⟩
  refine yf hbl fun zs z1=>?_;clear hbl;subst z1
  rw[CI]at hfr ⊢
  refine zc nq.1 (ui ⟨rfl,fun e=>(by exact tF e),fun U=>(Zy.evX (zN 0x39833523d43352 [n] hn rfl) 20).e _ _ _ _ ?_⟩)
  have e2:(evX (y8 w Q9) y 20).e (x5 Q9 1) fr1 H=fun k=>k (.list (zs.map .int)) H:=by
   rcases hfr with rfl|⟨b,rfl⟩
   ·exact funext fun k=>D0 w y H _ k
   ·exact funext fun k=>DZ w y H _ b k
  refine(?_:(evX (y8 w Q9) y 20).e _ _ _ _)
  refine zc e2 (zc nq.2 ?_)
  refine⟨rfl,zs.map .int,fun U=>none,rfl,trivial,fun o ho z Zz=>Xd ((Zz.evX (zN 0x39833523d43352 [n] hn rfl) 20).b _ _ _ _ ?_),?_⟩
  ·refine zt (zB.mp ho) fun i z1 z2=>?_;clear z1;subst z2
   refine(?_:(evX (y8 w Q9) z 20).b _ _ _ _)
   exact zw (HJ ..) ⟨rfl,fun U=>rfl,fun e=>(by exact fT e)⟩
  ·symm
   exact List.filterMap_eq_nil_iff.mpr fun U U=>rfl
 ·exact⟨fun e=>(by exact fT e),fun U=>zQ.nil (hF▸h)⟩
end
section
noncomputable abbrev dT(s a n d f g l c r u t y:AV):y3:=[(za "script",s),(za "numbers",a),(za "names",n),(za "words",d),(za "first",f),(za "second",g),(za "lists",l),(za "calls",c),(qh,r),(bo,u),(za "told",t),(za "key",y)]
noncomputable abbrev pv(s a n d f g l c r u t y z:AV):y3:=[(za "script",s),(za "numbers",a),(za "names",n),(za "words",d),(za "first",f),(za "second",g),(za "lists",l),(za "calls",c),(qh,r),(bo,u),(za "told",t),(za "key",y),(za "laid",z)]
noncomputable abbrev QC:Expr:=Tw (TZ (zm yC 12))
noncomputable abbrev Tb:Str:=za "worth"
noncomputable abbrev nK:Str:=za "k"
theorem IJ:QC=Hh QC Tb nK:=⋯
theorem Mo:wP (Yq P) (zM QC)=true:=⋯
theorem nk:Yv QC 0=[]∧Yv QC 1=[Qa QC 1]:=⟨⋯,⋯⟩
noncomputable abbrev JY(c u:AV):y3:=[(za "calls",c),(bo,u)]
section
variable (w:ya) (x:Cx) (H:Hp) (s a n d f g l r t y z b c u:AV) (L:List AV) (i j:Int)
theorem NE(k:AFlow→y3→Hp→Prop):(evX (wF w) x 30).s [zm yC 12] (pv s a n d f g l c r u t y (.list L)) H k =
  zL x (pv s a n d f g l c r u t y (.list L)) H (zR QC x.env) fun b H1=>Y6 .Eq (.list L) b fun q=>k (.ret (.bool q)) (pv s a n d f g l c r u t y (.list L)) H1:=⋯
theorem HF(k:AV→Hp→Prop):(evX (wF w) x 20).e (x5 QC 0) (pv s a n d f g l c r u t y z) H k=yD (decide (2≤sizeLine)) (k (.list [.int 0,.int 1]) H):=⋯
theorem CH:wf (zM QC).names (pv s a n d f g l c r u t y z)=JY c u:=⋯
theorem DY(k:AV→Hp→Prop):(evX (y8 w QC) x 20).e (x5 QC 1) (JY c u++[(Tb,a)]) H k=bw [c] [] H fun b H1=>Wd [b] [] H1 k:=⋯
theorem DX(k:AV→Hp→Prop):(evX (y8 w QC) x 20).e (x5 QC 1) (JY c u++[(Tb,a),(nK,b)]) H k=bw [c] [] H fun b H1=>Wd [b] [] H1 k:=⋯
theorem HH(k:Bool→Hp→Prop):(evX (y8 w QC) x 20).b (Qa QC 1) (xp nK (.int j) (JY c u++[(Tb,.int i)])) H k=VA u (.int j) fun d=>Y6 .Eq d (.int i) fun b=>k b H:=⋯
theorem HG(k:AV→Hp→Prop):(evX (y8 w QC) x 20).e (w6 QC) (xp nK (.int j) (JY c u++[(Tb,.int i)])) H k=VA c (.int j) fun d=>k d H:=⋯
theorem MZ(k:Bool→Prop):Y6 .Eq (.int i) (.int j) k=k (i==j):=⋯
end
noncomputable def ar(cs:List Str)(us:List Int)(v:Int):List Str:=(zT cs.length).filterMap fun j=>bif us.getD j 0==v then some (cs.getD j ym)else none
noncomputable def bE(cs:List Str)(us:List Int):List Str:=ar cs us 0++ar cs us 1
theorem UP(cs:List Str)(us:List Int)(v:Int):(ar cs us v).length≤cs.length:=by
 exact yv (ff _ _) (by refine zc yM ?_;exact zX _)
noncomputable def Np(cs:List Str)(us:List Int):AV→List AV
 |.int v=>(ar cs us v).map .str
 |_=>[]
noncomputable def My(cs:List Str)(us:List Int)(v:Int):AV→Option AV
 |.int j=>bif us.getD j.toNat 0==v then some (.str (cs.getD j.toNat ym))else none
 |_=>none
theorem Fx(cs:List Str)(us:List Int)(v:Int)(l:List Nat):(l.map fun j:Nat=>AV.int (j:Int)).filterMap (My cs us v)=(l.filterMap fun j=>bif us.getD j 0==v then some (cs.getD j ym)else none).map .str:=by
 refine zc tG (zc rO ?_)
 congr 1
 funext j
 refine(?_:(bif us.getD ((j:Int).toNat) 0==v then some (AV.str (cs.getD ((j:Int).toNat) ym))else none)=_)
 refine zc (wI ..) ?_
 cases(us.getD j 0==v)<;>rfl
theorem I5(Z:Yo n w x)(hn:n<920)(hc:cs.length≤300)(hu:us.length=cs.length)(he:zs=bE cs us)(hF:F=pv s a na d f g l (.list (cs.map .str)) r (.list (us.map .int)) t y (.list (zs.map .str)))(h:k (.ret (.bool true)) F H):zQ x F H (xN [zm yC 12] x.env) k:=by
 subst hF
 refine(Z.evX (by exact zN 0x39833523d43352 [n] hn rfl) 30).s _ _ _ _ ((?_:(evX (wF w) x 30).s _ (pv s a na d f g l (.list (cs.map .str)) r (.list (us.map .int)) t y (.list (zs.map .str))) H _))
 refine zw (NE ..) (zc IJ ?_)
 refine Z.comp2 Mo ⋯ (by refine zc (CH ..) ?_;rfl) (fun U=>rfl) (fun U U=>rfl) ((Z.evX (by exact zN 0x39833523d43352 [n] hn rfl) 20).e _ _ _ _ ?_)
 refine(?_:(evX (wF w) x 20).e _ (pv s a na d f g l (.list (cs.map .str)) r (.list (us.map .int)) t y (.list (zs.map .str))) H _)
 refine zw (HF ..) ?_
 have hfl:[AV.int 0,.int 1].flatMap (Np cs us)=(bE cs us).map .str:=by
  refine zc y0 (zc y0 (zc List.flatMap_nil (zc (yB ..) (zc yc ?_))))
  rfl
 have hcl:(cs.map AV.str).length≤sizeLine:=by refine zc (zj ..) (zc zy ?_);omega
 refine y7 (CO (by decide)) ⟨[.int 0,.int 1],Np cs us,rfl,trivial,?_,?_,?_⟩
 ·refine zc hfl (zc (zj ..) ?_)
  refine zc zG (zc zy ?_)
  have h0:=UP cs us 0
  have h1:=UP cs us 1
  omega
 ·intro b hb z Zz fr1 hfr
  have hbl:∃v:Int,b=.int v:=by
   rcases zn.mp hb with rfl|hb
   ·exact⟨_,rfl⟩
   ·exact⟨_,zd.mp hb⟩
  refine yf hbl fun v z1=>?_;clear hbl;subst z1
  rw[CH]at hfr ⊢
  refine zc nk.1 (ui ⟨rfl,fun e=>(by exact tF e),fun U=>(Zz.evX (by exact zN 0x39833523d43352 [n] hn rfl) 20).e _ _ _ _ ?_⟩)
  have e2:(evX (y8 w QC) z 20).e (x5 QC 1) fr1 H=fun k=>bw [.list (cs.map .str)] [] H fun b H1=>Wd [b] [] H1 k:=by
   rcases hfr with rfl|⟨b,rfl⟩
   ·exact funext fun k=>DY w z H _ _ _ k
   ·exact funext fun k=>DX w z H _ b _ _ k
  refine(?_:(evX (y8 w QC) z 20).e _ _ _ _)
  refine zc e2 (zc nk.2 ?_)
  refine(?_:bw [.list (cs.map .str)] [] H _)
  refine zw (fX hcl) ?_
  refine da (by refine zc (zj ..) ?_;omega) ⟨rfl,(zT cs.length).map fun j:Nat=>.int (j:Int),My cs us v,?_,?_,?_,?_⟩
  ·refine zc (zj ..) ?_;rfl
  ·exact⟨by omega,by refine zc (zj ..) ?_;omega⟩
  ·intro o ho q Zq
   refine zt (zB.mp ho) fun j hj z2=>?_;subst z2
   have hj:=wD.mp hj
   have hcj:=WU (d:=ym) hj
   have huj:=WU (d:=(0:Int)) (show j<us.length by exact vB 1965454930 [j,us.length,cs.length] (ze hu.symm) hj rfl)
   have hcA:(cs.map AV.str)[j]?=some (.str (cs.getD j ym)):=by refine zc yF (zc hcj ?_);rfl
   have huA:(us.map AV.int)[j]?=some (.int (us.getD j 0)):=by refine zc yF (zc huj ?_);rfl
   refine Xd ((Zq.evX (by exact zN 0x39833523d43352 [n] hn rfl) 20).b _ _ _ _ ?_)
   refine(?_:(evX (y8 w QC) q 20).b _ _ _ _)
   rw[HH,bB (by rw[zj,zy];omega) huA,MZ]
   have eo:My cs us v (.int (j:Int))=bif us.getD j 0==v then some (.str (cs.getD j ym))else none:=by
    refine(?_:(bif us.getD ((j:Int).toNat) 0==v then some (AV.str (cs.getD ((j:Int).toNat) ym))else none)=_)
    rw[wI]
   refine⟨rfl,fun e=>by rw[eo,e];rfl,fun e=>(Zq.evX (by exact zN 0x39833523d43352 [n] hn rfl) 20).e _ _ _ _ ?_⟩
   refine(?_:(evX (y8 w QC) q 20).e _ _ _ _)
   rw[HG,bB hcl hcA]
   exact⟨rfl,by rw[eo,e];rfl⟩
  ·refine zc (Fx ..) ?_;rfl
 ·refine zc hfl (zw W1 (zc he (zc (decide_eq_true rfl) ?_)))
  rw[he]at h
  exact h
end
section
structure XS where
 nw:List (zI×Obj)
 ct:Nat
 tk:Nat
abbrev XO(α:Type):=Option (α×List Nat×XS×List (Nat×Nat))
noncomputable def nN(l:List (Nat×Nat))(r:XO α):XO α:=r.map fun e=>(e.1,e.2.1,e.2.2.1,l++e.2.2.2)
theorem Ux(h:nN l r=some (a,o,s,q))(hq:∀e∈q,e.1=e.2):∃q',r=some (a,o,s,q')∧(∀e∈q',e.1=e.2)∧∀e∈l,e.1=e.2:=by
 refine zt (yz.mp h) fun e h1 z=>?_
 cases z
 exact⟨_,h1,fun e m=>hq e (zD _ m),fun e m=>hq e (xV _ m)⟩
noncomputable def Hg(o:List Nat)(f:List Nat→Option β)(g:Nat→List Nat→Option β):Option β:=match o with
 |[]=>none
 |j::o=>(match j with
  |0=>f o
  |i+1=>g i o)
theorem U3(h:Hg o f g=some r):(∃o',f o'=some r)∨∃i o',g i o'=some r:=by
 cases o with
 |nil=>exact nS h
 |cons j o =>
  cases j with
  |zero=>exact .inl ⟨_,h⟩
  |succ i=>exact .inr ⟨_,_,h⟩
noncomputable def sH(c:Bool)(x:Option β):Option β:=bif c then none else x
theorem YO(h:sH c x=some r):c=false∧x=some r:=by
 cases c with
 |true=>exact nS h
 |false=>exact⟨rfl,h⟩
set_option backward.match.sparseCases false in
noncomputable def YC(N:Nat)(K:uQ)(S:Setting)(rc:Code→List Nat→XS→XO Qw):VL α→List Nat→XS→XO α
 |.pure a,o,s=>some (a,o,s,[])
 |.rule _ k,o,s=>YC N K S rc (k ()) o s
 |.at _ k,o,s=>YC N K S rc (k ()) o s
 |.point _ k,o,s=>YC N K S rc (k ()) o s
 |.ask k,o,s=>YC N K S rc (k S) o s
 |.fresh k,o,s=>YC N K S rc (k s.tk) o {s with tk:=s.tk+1}
 |.load a _ k,o,s=>Hg o (fun o=>(K.lookup a).bind fun b=>YC N K S rc (k b) o s) fun i o=>s.nw[i]?.bind fun e=>nN [(a,e.1)] (YC N K S rc (k e.2) o s)
 |.update a _ f k,o,s=>Hg o (fun U=>none) fun i o=>s.nw[i]?.bind fun e=>sH (f e.2).isFreed (nN [(a,e.1)] (YC N K S rc (k ()) o {s with nw:=s.nw.set i (e.1,f e.2)}))
 |.alloc b k,o,s=>sH b.isFreed (YC N K S rc (k (N+s.ct)) o {s with nw:=s.nw++[(N+s.ct,b)],ct:=s.ct+1})
 |.call c h _ _ k,o,s=>sH h.isSome ((rc c o s).bind fun r=>nN r.2.2.2 (YC N K S rc (k (.ok r.1)) r.2.1 r.2.2.1))
 |_,_,_=>none
noncomputable def Vv:VL Unit:=do
 match ←nsGet tX "sys.recursionlimit" with
 |none=>pure ()
 |some _=>eW "x"
def Xq(M:fb)(A:y1)(t t':VL α):Prop:=∀Γ,Γ.In A→∀Q E p s,qP M Γ t' Q E p s→qP M Γ t Q E p s
section
variable {M:fb} {A:y1} {α β:Type}
theorem Xq.rfl:Xq M A t t:=fun U U U U U U h=>h
theorem Xq.bind(h:Xq M A t t')(k:∀a,Xq M A (f a) (f' a)):Xq M A (t >>= f) (t' >>= f'):=fun Γ hΓ Q E p s g=>by
 rw[wS]at g ⊢
 exact h Γ hΓ _ _ _ _ (Yz M Γ t' (fun a p' s' q=>k a Γ hΓ _ _ _ _ q) (fun U U U q=>q) p s g)
theorem Xq.holding(h:Xq M A t t'):Xq M A (holding vs t) (holding vs t'):=fun Γ hΓ Q E p s g=>by
 rw[Sem.wp_holding]at g ⊢
 exact h Γ hΓ _ _ _ _ g
theorem Xq.wp(h:Xq M A t t')(g:zr M A t' Q E s):zr M A t Q E s:=fun Γ p hΓ=>h Γ hΓ _ _ p s (g Γ p hΓ)
theorem QK(hd:A.depth<recursionLimit):Xq M A enterFrame Vv:=fun Γ hΓ Q E p s g=>by
 have hsum:((((Γ.code,p)::Γ.below).map (·.1)).map (·.frames)).sum+((((Γ.code,p)::Γ.below).map (·.1)).filter XB).length<recursionLimit:=by
  have hge:=frameCount_ge ((Γ.code,p)::Γ.below)
  rw[frameCount_cons]at hge
  have:=hΓ.2.1
  omega
 have hlt:¬((((Γ.code,p)::Γ.below).map (·.1)).map (·.frames)).sum ≥ recursionLimit:=by omega
 have hlt':¬((((Γ.code,p)::Γ.below).map (·.1)).map (·.frames)).sum+((((Γ.code,p)::Γ.below).map (·.1)).filter XB).length ≥ recursionLimit:=by omega
 unfold Vv at g
 rw[wS]at g
 refine zw (wS ..) ((?_:qP M Γ (_ >>= _) _ _ p s))
 refine zw (wS ..) (zw (wS ..) ?_)
 refine(?_:qP M Γ (nsGet tX "sys.recursionlimit") _ _ p s)
 have e:=not_nearTheLimit (p:=p) hΓ hd
 refine Yz M Γ _ (fun r p' s' q=>?_) (fun U U U q=>q) p s g
 cases r with
 |some v=>exact q.elim
 |none =>
  have q:Q () p' s':=q
  refine(?_:qP M Γ (if nearTheLimitUnderAClaim (((Γ.code,p)::Γ.below).map (·.1)) (((((Γ.code,p)::Γ.below).map (·.1)).map (·.frames)).sum+((((Γ.code,p)::Γ.below).map (·.1)).filter XB).length) recursionLimit=true then _ else _) _ _ p' s')
  refine zc (if_neg (by rw[e];exact ZO)) ((?_:qP M Γ (if((((Γ.code,p)::Γ.below).map (·.1)).map (·.frames)).sum ≥ recursionLimit then _ else _) _ _ p' s'))
  refine zc (if_neg hlt) ((?_:qP M Γ (if((((Γ.code,p)::Γ.below).map (·.1)).map (·.frames)).sum+((((Γ.code,p)::Γ.below).map (·.1)).filter XB).length ≥ recursionLimit then _ else _) _ _ p' s'))
  refine zc (if_neg hlt') ?_;exact q
noncomputable def TA(m:VL Unit)(a:zI)(fd:ZK)(args:Args):{t:VL Fin // m=enterFrame→t=Va a fd args}:=by
 refine⟨?t,fun h=>?_⟩
 rotate_left
 ·unfold Va
  rw[←h]
noncomputable def Dt(f:zi)(args:Args):VL Fin:=match f with
 |.ref a=>(load a >>= fun o=>match o.data with
  |.func fd=>(TA Vv a fd args).1
  |_=>UJ f args)
 |f=>UJ f args
theorem EA(hd:A.depth<recursionLimit):Xq M A (Va a fd args) (TA Vv a fd args).1:=by
 show Xq M A (Va a fd args) _
 unfold Va TA
 dsimp only
 split
 ·exact Xq.bind Xq.rfl fun c=>Xq.bind Xq.rfl fun b=>Xq.bind Xq.rfl fun e=>Xq.bind (QK hd) fun U=>Xq.rfl
 ·refine Xq.bind Xq.rfl fun r=>?_
  split<;>exact Xq.bind Xq.rfl fun c=>Xq.bind Xq.rfl fun b=>Xq.bind Xq.rfl fun e=>Xq.bind (QK hd) fun U=>Xq.rfl
theorem m9(hd:A.depth<recursionLimit):Xq M A (UJ f args) (Dt f args):=by
 cases f with
 |ref a =>
  intro Γ hΓ Q E p s g
  have g:qP M Γ (load a >>= fun o=>match o.data with
   |.func fd=>(TA Vv a fd args).1
   |_=>UJ (.ref a) args) Q E p s:=g
  rw[wS]at g
  refine zt g fun o ho g=>?_
  have g:qP M Γ (match o.data with
   |.func fd=>(TA Vv a fd args).1
   |_=>UJ (.ref a) args) Q E p s:=g
  split at g
  ·rename_i fd hf
   refine zw (wS ..) ⟨o,ho,?_⟩
   exact zw (Sem.wp_pure ..) (zc hf (EA hd Γ hΓ _ _ _ _ g))
  ·exact g
 |_=>exact Xq.rfl
end
noncomputable def M7(M:fb)(c:Code):Option (VL Fin):=match c with
 |.builtin id args=>(entriesT.find (code id)).map fun b=>b args
 |.call f args=>some (Dt f args)
 |c=>some (M.den c)
noncomputable def mZ:Data→Option (Array zi)
 |.seq a _=>some a
 |_=>none
theorem cT(h:mZ v=some a):∃n,v=.seq a n:=by cases v<;>cases h;exact⟨_,rfl⟩
noncomputable def two:List zi→Option (zI×Addr)
 |[]=>none
 |a::l=>(match l with
  |[]=>none
  |b::r=>sH (!r.isEmpty) ((XM a).bind fun a=>(XM b).map fun b=>(a,b)))
theorem Ek(h:two l=some (a,b)):l=[.ref a,.ref b]:=by
 cases l with
 |nil=>exact nS h
 |cons u l=>cases l with
  |nil=>exact nS h
  |cons v r =>
   refine zK (YO h) fun h0 h1=>zt (zl.mp h1) fun a' h2 h3=>zt (yz.mp h3) fun b' h4 h5=>?_
   cases h5
   cases r with
   |nil=>exact zc (Za h2) (zc (Za h4) rfl)
   |cons a r=>exact tF h0
noncomputable def iadd:Code→Option (zI×Addr)
 |.builtin id args=>sH (!(id == "list.__iadd__" && args.kw.isEmpty)) (two args.pos)
 |_=>none
noncomputable def No(c:Code)(o:List Nat)(s:XS):XO Qw:=(iadd c).bind fun al=>Hg o (fun U=>none) fun i o=>Hg o (fun U=>none) fun j o=>s.nw[i]?.bind fun e=>s.nw[j]?.bind fun d =>
 (mZ e.2.data).bind fun xs=>(mZ d.2.data).bind fun ys=>sH (!(typeIs "list" e.2.cls&&ys.isEmpty&&Nat.ble xs.size 1000&&!(yj (·++xs) d.2).isFreed)) (some (.ret (.ref al.1),o,{s with nw:=s.nw.set j (d.1,yj (·++xs) d.2)},[(al.2,e.1),(al.1,d.1)]))
noncomputable def MX(rc:Code→List Nat→XS→XO Qw)(r:PySem.Fin×List Nat×XS×List (Nat×Nat)):XO Qw:=match r.1 with
 |.done f=>some (f,r.2)
 |.again c'=>sH (!c'.quiet) (nN r.2.2.2 (rc c' r.2.1 r.2.2.1))
noncomputable def aZ(N:Nat)(K:uQ)(M:fb):Nat→Code→List Nat→XS→XO Qw
 |0,_,_,_=>none
 |n+1,c,o,s=>(No c o s).or ((M7 M c).bind fun t=>sH (!Nat.ble c.weight 3) ((YC N K ⟨M.prog,M.w.params⟩ (aZ N K M n) t o s).bind (MX (aZ N K M n))))
structure XR(N:Nat)(K:uQ)(s0:zg)(x:XS)(s:zg):Prop where
 rest:∃h,s={s0 with heap:=h,toks:=x.tk}
 frag:K.In s.heap
 size:s.heap.objs.size=N+x.ct
 ent:∀(i:Nat) (a:zI) (b:xK),x.nw[i]?=some (a,b)→s.heap.get? a=some b∧K.lookup a=none
 nodup:(x.nw.map (·.1)).Nodup
 keep:∀a o,s0.heap.get? a=some o→a∉x.nw.map (·.1)→s.heap.get? a=some o
section
variable {N:Nat} {K:uQ} {s0 s:zg} {x:XS}
theorem XR.tok(X:XR N K s0 x s):XR N K s0 {x with tk:=x.tk+1} {s with toks:=s.toks+1}:=by
 obtain⟨⟨h,rfl⟩,f,z,e,n,k⟩:=X
 exact⟨⟨h,rfl⟩,f,z,e,n,k⟩
theorem XR.turn(X:XR N K s0 x s)(hi:x.nw[i]?=some (a,b))(sb:yo a s.heap h')(hb:h'.get? a=some b'):
  XR N K s0 {x with nw:=x.nw.set i (a,b')} {s with heap:=h'}:=by
 obtain⟨⟨h,rfl⟩,fr,z,e,n,k⟩:=X
 have hfst:(x.nw.set i (a,b')).map (·.1)=x.nw.map (·.1):=by
  refine zc List.map_set ?_
  have hi':(x.nw.map (·.1))[i]?=some a:=by refine zc yF (zc hi ?_);rfl
  refine CB fun j=>?_
  by_cases hj:i=j
  ·subst hj
   exact zc hi' (zc (qf (yi.mp hi').1) rfl)
  ·exact zc (qW hj) rfl
 have ha:=e i a b hi
 refine⟨⟨_,rfl⟩,fun c o q=>?_,?_,fun j c o q=>?_,by refine zc hfst ?_;exact n,fun c o q m=>?_⟩
 ·have:c≠a:=fun z=>by rw[z,ha.2]at q;exact nS q
  refine(?_:h'.get? c=_)
  refine zc (sb.2 c this) ?_;exact fr c o q
 ·refine(?_:h'.objs.size=_)
  refine zc sb.1 ?_;exact z
 ·by_cases hj:i=j
  ·subst hj
   have q:(x.nw.set i (a,b'))[i]?=some (c,o):=q
   rw[qf (yi.mp hi).1]at q
   cases q
   exact⟨hb,ha.2⟩
  ·have q:(x.nw.set i (a,b'))[j]?=some (c,o):=q
   rw[qW hj]at q
   have hc:=e j c o q
   have:c≠a:=fun z=>by
    have h1:(x.nw.map (·.1))[i]?=some a:=by refine zc yF (zc hi ?_);rfl
    have h2:(x.nw.map (·.1))[j]?=some a:=by refine zc yF (zc q (zc z ?_));rfl
    exact hj (getElem?_inj n h1 h2)
   refine⟨?_,hc.2⟩
   refine zc (sb.2 c this) ?_;exact hc.1
 ·have m:c∉(x.nw.set i (a,b')).map (·.1):=m
  rw[hfst]at m
  have:c≠a:=fun z=>m (z▸zB.mpr ⟨(a,b),zH hi,rfl⟩)
  refine zc (sb.2 c this) ?_;exact k c o q m
theorem XR.upd(X:XR N K s0 x s)(hi:x.nw[i]?=some (a,b))(hf:(f b).isFreed=false):
  XR N K s0 {x with nw:=x.nw.set i (a,f b)} {s with heap:=s.heap.update a f}:=
 X.turn hi (zW _ a f) (zP f (X.ent i a b hi).1 hf)
theorem XR.new(X:XR N K s0 x s)(hf:b.isFreed=false):XR N K s0 {x with nw:=x.nw++[(N+x.ct,b)],ct:=x.ct+1} {s with heap:=s.heap.push b}:=by
 obtain⟨⟨h,rfl⟩,fr,z,e,n,k⟩:=X
 have z:h.objs.size=N+x.ct:=z
 have lt:∀{c o},h.get? c=some o→c≠N+x.ct:=fun q e=>absurd (zY q) (by refine zc e (zc z ?_);exact yI _)
 have hK:K.lookup (N+x.ct)=none:=by
  cases q:K.lookup (N+x.ct)with
  |none=>rfl
  |some o=>exact absurd rfl (lt (fr _ _ q))
 refine⟨⟨_,rfl⟩,fun c o q=>zq _ (fr c o q),?_,fun j c o q=>?_,?_,fun c o q m=>?_⟩
 ·refine(?_:(h.push b).objs.size=_)
  refine zc (xu ..) (zc z ?_);rfl
 ·have q:(x.nw++[(N+x.ct,b)])[j]?=some (c,o):=q
  by_cases hj:j<x.nw.length
  ·rw[yu hj]at q
   exact⟨zq _ (e j c o q).1,(e j c o q).2⟩
  ·have hl:=(yi.mp q).1
   rw[zG,ug]at hl
   have:j=x.nw.length:=zE (zN 4620046949 [j,x.nw.length] hl rfl) (zN 25957 [x.nw.length,j] (xy hj) rfl)
   subst this
   rw[xa (zX _),lB]at q
   cases q
   refine⟨?_,hK⟩
   exact xv z (zx _ hf)
 ·refine(?_:((x.nw++[(N+x.ct,b)]).map (·.1)).Nodup)
  refine zc yc (uw.mpr ⟨n,by simp,fun c hc d hd z=>?_⟩)
  rw[List.map_singleton,zd]at hd
  refine zt (zB.mp hc) fun z0 hm z2=>?_;obtain⟨c',o⟩:=z0;subst z2
  obtain⟨i,hi,q⟩:=vq.mp hm
  exact lt (e i _ _ (by exact zc (zC hi) (zc q rfl))).1 (z.trans hd)
 ·have m:c∉(x.nw++[(N+x.ct,b)]).map (·.1):=m
  rw[yc]at m
  exact zq _ (k c o q fun h=>m (xV _ h))
theorem aY(hrc:∀c o x f o' x' q,rc c o x=some (f,o',x',q)→(∀e∈q,e.1=e.2)→∀s,XR N K s0 x s→y4 M A c (fun r s'=>r=.ok f∧XR N K s0 x' s') s):
  ∀(t:VL α) (o:List Nat) (x:XS) (a:α) (o':List Nat) (x':XS) (q:List (Nat×Nat)),YC N K ⟨M.prog,M.w.params⟩ rc t o x=some (a,o',x',q)→(∀e∈q,e.1=e.2) →
   ∀(Γ:Ctx),Γ.In A→∀(p:ZJ) (s:zg),XR N K s0 x s→∀(Q:α→ZJ→zg→Prop) (E:zi→ZJ→zg→Prop),(∀p' s',XR N K s0 x' s'→Q a p' s')→qP M Γ t Q E p s:=by
 intro t
 induction t with
 |pure b=>intro o x a o' x' q h hq Γ hΓ p s X Q E g;cases h;exact g p s X
 |rule _ k ih=>intro o x a o' x' q h hq Γ hΓ p s X Q E g;exact ih () o x a o' x' q h hq Γ hΓ p s X Q E g
 |«at» _ k ih=>intro o x a o' x' q h hq Γ hΓ p s X Q E g;exact ih () o x a o' x' q h hq Γ hΓ _ s X Q E g
 |point _ k ih=>intro o x a o' x' q h hq Γ hΓ p s X Q E g;exact ih () o x a o' x' q h hq Γ hΓ p s X Q E g
 |ask k ih=>intro o x a o' x' q h hq Γ hΓ p s X Q E g;exact ih _ o x a o' x' q h hq Γ hΓ p s X Q E g
 |fresh k ih =>
  intro o x a o' x' q h hq Γ hΓ p s X Q E g
  have e:s.toks=x.tk:=by(refine yf X.rest fun h z1=>?_;subst z1);rfl
  have:=ih s.toks o {x with tk:=x.tk+1} a o' x' q (by refine zc e ?_;exact h) hq Γ hΓ p {s with toks:=s.toks+1} X.tok Q E g
  exact this
 |load c _ k ih =>
  intro o x a o' x' q h hq Γ hΓ p s X Q E g
  rcases U3 h with⟨o1,h⟩|⟨i,o1,h⟩
  ·exact zt (zl.mp h) fun b z h=>⟨b,X.frag _ _ z,ih b o1 x a o' x' q h hq Γ hΓ p s X Q E g⟩
  ·refine zt (zl.mp h) fun e z h=>wO (Ux h hq) fun q' h h1 h2=>?_
   have he:c=e.1:=h2 (c,e.1) (.head _)
   exact⟨e.2,he▸(X.ent i e.1 e.2 z).1,ih e.2 o1 x a o' x' q' h h1 Γ hΓ p s X Q E g⟩
 |update c _ f k ih =>
  intro o x a o' x' q h hq Γ hΓ p s X Q E g
  rcases U3 h with⟨o1,h⟩|⟨i,o1,h⟩
  ·exact nS h
  ·refine zt (zl.mp h) fun z0 z h=>?_;obtain⟨e,b⟩:=z0
   refine zK (YO h) fun hf h=>wO (Ux h hq) fun q' h h1 h2=>?_
   have he:c=e:=h2 (c,e) (.head _)
   subst he
   exact⟨by refine zc ((X.ent i c b z).1) ?_;rfl,ih () o1 _ a o' x' q' h h1 Γ hΓ p _ (X.upd (f:=f) z hf) Q E g⟩
 |alloc b k ih =>
  intro o x a o' x' q h hq Γ hΓ p s X Q E g
  refine zK (YO h) fun hf h=>?_
  have:=ih (N+x.ct) o _ a o' x' q h hq Γ hΓ p _ (X.new (b:=b) hf) Q E g
  rw[←X.size]at this
  exact this
 |call c hd gd lv k ih =>
  intro o x a o' x' q h hq Γ hΓ p s X Q E g
  refine zK (YO h) fun hn h1=>zt (zl.mp h1) fun z0 z h2=>?_;obtain⟨f,o1,x1,q1⟩:=z0
  refine wO (Ux h2 hq) fun q' h3 h4 h5=>?_
  clear h h1 h2
  cases hd with
  |some v=>exact tF hn
  |none=>exact wpCode_mono (fun r s' hr=>by
    refine zK hr fun z0 X'=>?_;clear hr;subst z0
    exact ih (.ok f) o1 x1 a o' x' q' h3 h4 Γ hΓ p s' X' Q E g) (hrc c o x f o1 x1 q1 z h5 s X (Γ.enter c none p) p rfl (hΓ.enter c none p (by intro x;exact nS x)))
 |_=>intro o x a o' x' q h;exact nS h
end
end
section
section
variable {N:Nat} {K:uQ} {s0 s:zg} {w:ya}
theorem EI(h:No c o x=some (f,o',x',q))(hq:∀e∈q,e.1=e.2)(A:y1)(s:zg)(X:XR N K s0 x s):
  y4 (zu pw w) A c (fun r s'=>r=.ok f∧XR N K s0 x' s') s:=by
 refine zt (zl.mp h) fun z0 hc h1=>?_;obtain⟨a,l⟩:=z0
 rcases U3 h1 with⟨_,h2⟩|⟨i,o1,h2⟩
 ·exact nS h2
 rcases U3 h2 with⟨_,h3⟩|⟨j,o2,h3⟩
 ·exact nS h3
 refine zt (zl.mp h3) fun z0 hi h4=>?_;obtain⟨e,b⟩:=z0
 refine zt (zl.mp h4) fun z0 hj h5=>?_;obtain⟨d,c'⟩:=z0
 refine zt (zl.mp h5) fun xs hb h6=>zt (zl.mp h6) fun ys hd h7=>zK (YO h7) fun hz h8=>?_
 clear h h1 h2 h3 h4 h5 h6 h7
 cases h8
 rw[ZN,zk,zk,zk,CC]at hz
 refine zK hz fun z0 hf=>?_;clear hz;obtain⟨⟨hn,hy⟩,hs⟩:=z0
 refine yf (cT hb) fun m hb=>yf (cT hd) fun k hd=>?_
 have e1:l=e:=hq (l,e) (.head _)
 have e2:a=d:=hq (a,d) (.tail _ (.head _))
 subst e1 e2
 have ga:=(X.ent j a c' hj).1
 have hy':ys=#[]:=Array.isEmpty_iff.mp hy
 subst hy'
 cases c with
 |builtin id args =>
  refine zK (YO hc) fun hid ht=>?_
  rw[ZN,zk,beq_iff_eq,List.isEmpty_iff]at hid
  obtain⟨p,k2⟩:=args
  refine zK hid fun z0 h2=>?_;clear hid;subst z0
  have h2:k2=[]:=h2
  have hp:p=_:=Ek ht
  clear ht hc
  subst h2 hp
  refine codeAny_builtin entry_list_iadd' ((?_:zr _ _ (wB (.ref a) (.ref l) (.ref a)) _ _ s))
  refine zb (wpAny_typeOf (T := "list") ⟨b,(X.ent i l b hi).1,QD hn⟩ ?_)
  refine zc (if_pos (by rw[show(yK "list" == yK "list")=true from rfl];simp)) (zb (b8 (X.ent i l b hi).1 hb (zb (b8 ga hd ?_))))
  refine zc (if_neg (nofun)) (zb (XD ga hd (zb (wpAny_pure (wpAny_pure ⟨rfl,X.upd (f:=yj (·++xs)) hj hf⟩))) (wk _) ?_))
  refine zc VO (zc zy ?_)
  exact yv (vg hs) (by decide)
 |_=>exact nS hc
theorem sZ:∀(n:Nat) (c:Code) (o:List Nat) (x:XS) (f:Qw) (o':List Nat) (x':XS) (q:List (Nat×Nat)),aZ N K (zu pw w) n c o x=some (f,o',x',q)→(∀e∈q,e.1=e.2) →
  ∀(A:y1),A.depth+4*n<recursionLimit→∀(s:zg),XR N K s0 x s→y4 (zu pw w) A c (fun r s'=>r=.ok f∧XR N K s0 x' s') s:=by
 intro l0
 induction l0 with
 |zero =>
  intro c o x f o' x' q h _
  exact nS h
 |succ n ih =>
  intro c o x f o' x' q h hq
  intro A hd s X
  rcases Option.or_eq_some_iff.mp h with zo|⟨-,h1⟩
  ·exact EI zo hq A s X
  refine zt (zl.mp h1) fun t z h2=>zK (YO h2) fun hw h3=>zt (zl.mp h3) fun z0 y h4=>?_;obtain⟨fin,o1,x1,q1⟩:=z0
  clear h h1 h2 h3
  have hw:c.weight≤3:=vg (by rw[ZN]at hw;exact hw)
  have hd':(A.under c).depth+4*n<recursionLimit:=by
   have:(A.under c).depth=A.depth+c.weight:=rfl
   exact dz 0x980531397113604134802764134502 [(A.under c).depth,n,recursionLimit,A.depth,c.weight] hd hw (ze this) rfl
  have main:zr (zu pw w) (A.under c) t (fun fin s'=>match fin with|.done f'=>Except.ok f'=(Except.ok f:Zr)∧XR N K s0 x' s'|.again c'=>c'.quiet=true∧y4 (zu pw w) A c' (fun r s'=>r=.ok f∧XR N K s0 x' s') s') (fun e s'=>(Except.error e:Zr)=.ok f∧XR N K s0 x' s') s:=by
   intro Γ p hΓ
   cases fin with
   |done f1 =>
    cases h4
    exact aY (A:=A.under c) (fun c o x f o' x' q h hq=>(ih c o x f o' x' q h hq _ hd')) t o x _ _ _ _ y hq Γ hΓ p s X _ _ fun p' s' X'=>⟨rfl,X'⟩
   |again c1 =>
    exact zK (YO h4) fun hc h5=>wO (Ux h5 hq) fun q2 h6 h7 h8=>aY (A:=A.under c) (fun c o x f o' x' q h hq=>(ih c o x f o' x' q h hq _ hd')) t o x _ _ _ _ y h8 Γ hΓ p s X _ _ fun p' s' X'=>⟨by rw[ZN]at hc;exact hc,(ih c1 o1 x1 _ _ _ _ h6 h7 A (zN 0x7113604134502764134502 [A.depth,n,recursionLimit] hd rfl) s' X')⟩
  cases c with
  |builtin id args =>
   refine zt (yz.mp z) fun b yb z2=>?_;subst z2
   exact codeAny_builtin (vW yb) main
  |call f' args=>(replace z:=zf z;subst z);exact xZ ((m9 (zN 0x674134502652 [(A.under (Code.call f' args)).depth,recursionLimit,n] hd' rfl)).wp main)
  |_=>cases z;exact xZ main
noncomputable def sF(d:α):XO α→α
 |some (a,_)=>a
 |none=>d
noncomputable def LG:XO α→XS
 |some (_,_,x,_)=>x
 |none=>⟨[],0,0⟩
noncomputable def Mw:XO α→List Nat
 |some (_,_,_,q)=>q.map (·.1)
 |none=>[]
noncomputable def lG:XO α→List Nat
 |some (_,_,_,q)=>q.map (·.2)
 |none=>[]
theorem oi{q:List (Nat×Nat)}(h:q.map (·.1)=q.map (·.2)):∀e∈q,e.1=e.2:=by
 induction q with
 |nil=>intro e m;cases m
 |cons a l ih =>
  rw[zU,zU]at h
  injection h with h1 h2
  intro e m
  rcases zn.mp m with rfl|m
  ·exact h1
  ·exact ih h2 e m
end
end
section
noncomputable def EJ(r:XO α):Option (α×XS×List Nat):=r.map fun(a,_,x,q)=>(a,x,q.map (·.1))
section
variable {N:Nat} {K:uQ} {s0 s:zg} {w:ya}
theorem Hw(n:Nat)(hd:A.depth+4*n<recursionLimit)(o:List Nat)(a:α)(x':XS)(X:XR N K s0 x s)(h:EJ (YC N K ⟨pw,w.params⟩ (aZ N K (zu pw w) n) t o x)=some (a,x',lG (YC N K ⟨pw,w.params⟩ (aZ N K (zu pw w) n) t o x)))(g:∀s',XR N K s0 x' s'→Q a s'):zr (zu pw w) A t Q E s:=fun Γ p hΓ=>by
 cases y:YC N K ⟨pw,w.params⟩ (aZ N K (zu pw w) n) t o x with
 |none=>rw[y]at h;exact nS h
 |some r' =>
  obtain⟨a1,o1,x1,q1⟩:=r'
  rw[y]at h
  have h:some (a1,x1,q1.map (·.1))=some (a,x',q1.map (·.2)):=h
  injection h with h
  injection h with h1 h
  injection h with h2 h3
  subst h1 h2
  exact aY (fun c o x f o' x' q h hq=>sZ n c o x f o' x' q h hq A hd) t o x _ _ _ _ y (oi h3) Γ hΓ p s X _ _ fun p' s' X'=>g s' X'
end
noncomputable def rr:List yX:=wt (zm pw.main.body 31)
noncomputable def ZC:xK:={cls:=.none,dict:=none,data:=.fields #[],slots:=#[]}
noncomputable def x0(T:Nat):XS:=⟨[(789,ZC)],0,T⟩
noncomputable def eh(P:zp)(N:Nat):Qx:={scope:=(wU (Zf P)).scope,locals:=N,globals:=3,cells:=[(za "mycmp",N+1)],qual:=(wU (Zf P)).qualname ++ ".<locals>.",func:=some 794,code:=.ref 793,frame:=some N,builtins:=0}
noncomputable def x1(N T:Nat)(v:zi):XS:=⟨[(789,ZC),(N,{cls:=.type "frame",dict:=none,data:=.dict #[],slots:=#[]}),(N+1,{cls:=.type "cell",dict:=none,data:=.cell (some v),slots:=#[]})],2,T⟩
theorem Ob(w:ya)(N T:Nat)(v:zi)(n:Nat):EJ (YC N (KF w.params) ⟨pw,w.params⟩ (aZ N (KF w.params) (zu pw w) n) (vV (wU (Zf w.params)).scope 3 [] [(za "mycmp",v)] ((wU (Zf w.params)).qualname ++ ".<locals>.") (some 794) (wU (Zf w.params)).code none 0) [3,3] (x0 T))
 = some (eh w.params N,x1 N T v,lG (YC N (KF w.params) ⟨pw,w.params⟩ (aZ N (KF w.params) (zu pw w) n) (vV (wU (Zf w.params)).scope 3 [] [(za "mycmp",v)] ((wU (Zf w.params)).qualname ++ ".<locals>.") (some 794) (wU (Zf w.params)).code none 0) [3,3] (x0 T))):=⋯
theorem XR.lim{N:Nat}{K:uQ}{s0 s:zg}{x:XS}(X:XR N K s0 x s)(h:s0.heap.NoLimit)(hc:tX∉x.nw.map (·.1)):s.heap.NoLimit:=by
 exact zt h fun mc p q=>⟨mc,Zx p fun o e=>X.keep _ _ e hc,q⟩
theorem BN(P:zp)(v:zi):qN (wU (Zf P)) ⟨[v],[]⟩=pure [(za "mycmp",v)]:=⋯
noncomputable abbrev Wq:yX:=zm rr 0
noncomputable def Bw(s:yX):List Expr:=xT s
noncomputable def Bv(s:yX):qv:=(xB s).2.2.1
noncomputable def M9(s:yX):List Str:=(xB s).2.2.2.2
noncomputable abbrev w7:Str:=za "K"
theorem BH:Wq=.ClassDef w7 (Bw Wq) [] (x6 Wq) [] [] (Bv Wq) none w7 (M9 Wq) Wq.pos:=⋯
noncomputable def gt(w:ya)(N:Nat)(t:VL α)(o:List Nat)(x:XS):XO α:=YC N (KF w.params) ⟨pw,w.params⟩ (aZ N (KF w.params) (zu pw w) 12) t o x
noncomputable def An(r:XO α):Option (α×List Nat):=r.map fun(a,_,_,q)=>(a,q.map (·.1))
theorem Hx(hd:A.depth+48<recursionLimit)(o:List Nat)(a:α)(X:XR N (KF w.params) s0 x s)(h:An (gt w N t o x)=some (a,lG (gt w N t o x)))(g:∀s',XR N (KF w.params) s0 (LG (gt w N t o x)) s'→Q a s'):zr (zu pw w) A t Q E s:=by
 refine Hw 12 hd o a _ X ?_ g
 show EJ (gt w N t o x)=some (a,LG (gt w N t o x),lG (gt w N t o x))
 cases y:gt w N t o x with
 |none=>rw[y]at h;exact nS h
 |some r =>
  obtain⟨a1,o1,x1,q1⟩:=r
  rw[y]at h
  have h:some (a1,q1.map (·.1))=some (a,q1.map (·.2)):=h
  injection h with h
  injection h with h1 h2
  show some (a1,x1,q1.map (·.1))=some (a,x1,q1.map (·.2))
  exact zc h1 (zc h2 rfl)
theorem Kd(P:zp):FnIs P 794 (wU (Zf P)) rr:=⟨⟨Zf P,⋯,rfl⟩,⋯,rfl,⋯,⋯,⋯,rfl,rfl,rfl,⋯⟩
end
section
noncomputable def cp(P:zp):xK:={cls:=.none,dict:=none,data:=.dict #[⟨zz P (za "\x69mport.loaded._sre"),.str (za "\x69mport.loaded._sre") 183,.bool true⟩,⟨zz P (za "class._frozen_importlib.BuiltinImporter"),.str (za "class._frozen_importlib.BuiltinImporter") 185,.ref 14⟩,⟨zz P (za "watched.\x69mport"),.str (za "watched.\x69mport") 206,.ref 18⟩,⟨zz P (za "class._frozen_importlib.ModuleSpec"),.str (za "class._frozen_importlib.ModuleSpec") 216,.ref 22⟩,⟨zz P (za "sys.modules.booked-epoch"),.str (za "sys.modules.booked-epoch") 245,.int (4) 0⟩,⟨zz P (za "\x69mport.later-laid._sre"),.str (za "\x69mport.later-laid._sre") 270,.bool true⟩,⟨zz P (za "watched.library"),.str (za "watched.library") 272,.ref 27⟩,⟨zz P (za "watched.library-objects"),.str (za "watched.library-objects") 0,.str (za "\x0c\x1e") 0⟩,⟨zz P (za "watched.library-deep._sre"),.str (za "watched.library-deep._sre") 273,.str (za "\x04\x00\x00\x0b\x04\x00\x00\x0b\x04\x00\x00\x03\x04\x00\x00\x0b\x08\x04dict\x02") 0⟩,⟨zz P (za "\x69mport.loaded._collections"),.str (za "\x69mport.loaded._collections") 280,.bool true⟩,⟨zz P (za "sys.modules.landed._collections"),.str (za "sys.modules.landed._collections") 294,.bool true⟩,⟨zz P (za "\x69mport.later-laid._collections"),.str (za "\x69mport.later-laid._collections") 309,.bool true⟩,⟨zz P (za "watched.library-deep._collections"),.str (za "watched.library-deep._collections") 311,.str (za "\x04\x00\x00\x1d\x04\x00\x00\x1d\x04\x00\x00\x03\x04\x00\x00\x1d\x08\x04dict\x02") 0⟩,⟨zz P (za "type.__subclasses__.OSError.0"),.str (za "type.__subclasses__.OSError.0") 407,.int (73) 0⟩,⟨zz P (za "type.__subclasses__.OSError.n"),.str (za "type.__subclasses__.OSError.n") 408,.int (1) 0⟩] 15,slots:=#[]}
noncomputable def LD(c:xK)(N T:Nat)(v:zi):XS:=⟨[(789,ZC),(2,c),(N,{cls:=.type "frame",dict:=none,data:=.dict #[],slots:=#[]}),(N+1,{cls:=.type "cell",dict:=none,data:=.cell (some v),slots:=#[]})],2,T⟩
theorem Dd[Decidable c](h:¬c)(g:zr M A b Q E s):zr M A (if c then a else b) Q E s:=by
 refine zc (if_neg h) ?_;exact g
theorem JQ(h:c=false)(g:zr M A b Q E s):zr M A (if c=true then a else b) Q E s:=Dd (by refine zc h ?_;decide) g
theorem JP(h:c=true)(g:zr M A a Q E s):zr M A (if c=true then a else b) Q E s:=by
 refine zc (if_pos h) ?_;exact g
theorem L5(hd:A.depth+48<recursionLimit)(o:List Nat)(d:α)(X:XR N (KF w.params) s0 x s)(h1:(gt w N t o x).isSome=true)(h2:Mw (gt w N t o x)=lG (gt w N t o x))(g:∀s',XR N (KF w.params) s0 (LG (gt w N t o x)) s'→Q (sF d (gt w N t o x)) s'):zr (zu pw w) A t Q E s:=by
 refine Hx hd o (sF d (gt w N t o x)) X ?_ g
 cases y:gt w N t o x with
 |none=>rw[y]at h1;exact fT h1
 |some r =>
  obtain⟨a,o1,x1,q⟩:=r
  rw[y]at h2
  show some (a,q.map (·.1))=some (a,lG (some (a,o1,x1,q)))
  have h2:q.map (·.1)=lG (some (a,o1,x1,q)):=h2
  exact zc h2 rfl
noncomputable def CT:XO α→List Nat×XS
 |some (_,o,x,_)=>(o,x)
 |none=>([],⟨[],0,0⟩)
theorem nY(r:XO α):(CT r).2=LG r:=by
 cases r with
 |none=>rfl
 |some r=>rfl
noncomputable def Qc(w:ya)(N:Nat)(t:VL α)(p:List Nat×XS):XO α:=gt w N t p.1 p.2
theorem UO(hd:A.depth+48<recursionLimit)(a:α)(X:XR N (KF w.params) s0 p.2 s)(h:An (Qc w N t p)=some (a,lG (Qc w N t p)))(g:∀s',XR N (KF w.params) s0 (CT (Qc w N t p)).2 s'→Q a s'):zr (zu pw w) A t Q E s:=
 Hx hd p.1 a X h fun s' X'=>g s' (by refine zc (nY ..) ?_;exact X')
theorem L6(hd:A.depth+48<recursionLimit)(d:α)(X:XR N (KF w.params) s0 p.2 s)(h1:(Qc w N t p).isSome=true)(h2:Mw (Qc w N t p)=lG (Qc w N t p))(g:∀s',XR N (KF w.params) s0 (CT (Qc w N t p)).2 s'→Q (sF d (Qc w N t p)) s'):zr (zu pw w) A t Q E s:=
 L5 hd p.1 d X h1 h2 fun s' X'=>g s' (by refine zc (nY ..) ?_;exact X')
noncomputable def XN(a:zI)(b:xK)(p:List Nat×XS):List Nat×XS:=(p.1,{p.2 with nw:=p.2.nw++[(a,b)],ct:=p.2.ct+1})
theorem XR.addP{N:Nat}{K:uQ}{s0 s:zg}{p:List Nat×XS}(X:XR N K s0 p.2 s){b:xK}(hf:b.isFreed=false){a:zI}(ha:N+p.2.ct=a):XR N K s0 (XN a b p).2 {s with heap:=s.heap.push b}:=by
 subst ha;exact X.new hf
noncomputable def Dr(n:Nat)(p:List Nat×XS):List Nat×XS:=(p.1.drop n,p.2)
theorem XR.at{N:Nat}{K:uQ}{s0 s:zg}{p:List Nat×XS}(X:XR N K s0 p.2 s)(i:Nat){a:zI}{b:xK}(h:p.2.nw[i]?=some (a,b)):s.heap.get? a=some b:=(X.ent i a b h).1
noncomputable def KI(N T:Nat)(q:Str)(mro:List zi)(sl:List Str)(slots:Array (Option zi)):xK:={cls:=.type "type",dict:=none,data:=.cls {name:=za "K",bases:=[.type "object"],mro:=mro,ns:=N+59,qualname:=q,hasDict:=false,slotNames:=sl},slots:=slots}
set_option tactic.hygienic true in
theorem bt(e:h.get? tX=some (cp P)):gS h:=by
 refine⟨_,⟨cp P,_,_,e,rfl,?_,fun n=>rfl⟩,⋯,⋯⟩
 intro x hx
 have:∀l:List yE,l.all (fun e=>match e.key with|.str _ _=>true|_=>false)=true→∀x∈l,∃n t,x.key=.str n t:=fun l hl x hx=>by
  have:=zJ.mp hl x hx
  split at this
  ·rename_i n t e;exact⟨n,t,e⟩
  ·exact fT this
 exact this _ ⋯ x (lF.mpr hx)
theorem Tj{A:y1}{c:Code}{k:Nat}(h:A.depth+(k+3)<recursionLimit)(hw:Nat.ble c.weight 3=true):(A.under c).depth+k<recursionLimit:=by
 have:(A.under c).depth=A.depth+c.weight:=rfl
 have:=vg hw
 omega
end
section
theorem QO(hC:h.get? C=some oC)(hd:oC.data=.cls cd):xD M h (mroOf (.ref C)) cd.mro:=by
 obtain⟨c,d,dt,sl⟩:=oC
 subst hd
 exact((tY (part:=none) hC).andThen .now).andThen .now
theorem sub_self(hC:h.get? C=some oC)(hd:oC.data=.cls cd)(hm:cd.mro=.ref C::l):xD M h (Wv (.ref C) (.ref C)) true:=by
 unfold Wv
 refine(QO hC hd).andThen (zc hm ?_)
 dsimp only
 exact zc (if_neg (by simp)) (te (zc (show((yJ C::l).contains (yJ C))=true by simp) rfl))
noncomputable def mI(a b c:zi):xK:={cls:=.type "super",dict:=none,data:=.fields #[a,b,c],slots:=#[]}
theorem Ar(l:List α)(a b:α):(l++[a]).set l.length b=l++[b]:=by simp
theorem XR.turnL{N:Nat}{K:uQ}{s0 s:zg}{p:List Nat×XS}{a:zI}{b b':xK}{h':xO}(X:XR N K s0 (XN a b p).2 s)(sb:yo a s.heap h')(hb:h'.get? a=some b'):XR N K s0 (XN a b' p).2 {s with heap:=h'}:=by
 have e:(XN a b p).2.nw[p.2.nw.length]?=some (a,b):=by show(p.2.nw++[(a,b)])[p.2.nw.length]?=_;simp
 have:=X.turn e sb hb
 have q:({(XN a b p).2 with nw:=(XN a b p).2.nw.set p.2.nw.length (a,b')}:XS)=(XN a b' p).2:=by
  show({nw:=(p.2.nw++[(a,b)]).set p.2.nw.length (a,b'),ct:=_,tk:=_}:XS)={nw:=p.2.nw++[(a,b')],ct:=_,tk:=_}
  refine zc (Ar ..) ?_;rfl
 rw[q]at this
 exact this
theorem XR.skip{N:Nat}{K:uQ}{s0 s:zg}{p:List Nat×XS}(n:Nat)(X:XR N K s0 p.2 s):XR N K s0 (Dr n p).2 s:=X
theorem XR.last{N:Nat}{K:uQ}{s0 s:zg}{p:List Nat×XS}{a:zI}{b:xK}(X:XR N K s0 (XN a b p).2 s):s.heap.get? a=some b:=
 X.at p.2.nw.length (by show(p.2.nw++[(a,b)])[p.2.nw.length]?=_;simp)
noncomputable abbrev qK:Str:=za "cmp_to_key.<locals>.K"
noncomputable def mF(N:Nat)(n:String)(i c:Nat)(cl:List (Str×Addr))(ct:zi):xK:={cls:=.type "function",dict:=none,data:=.func {name:=za n,qualname:=za ("cmp_to_key.<locals>.K." ++ n),params:=Ky (zm (x6 Wq) i),body:=.stmts (wt (zm (x6 Wq) i)),scope:=bK (zm (x6 Wq) i),globals:=3,closure:=cl,defaults:=.none,kwdefaults:=.none,doc:=.none,pyModule:=.str (za "law_aa0006_01") 1366,annotations:=none,code:=.ref (N+c),closureTuple:=ct,builtins:=0},slots:=#[]}
noncomputable def mC(N T:Nat)(n:String)(c t u ln:Nat):xK:={cls:=.type "code",dict:=none,data:=.fields #[.str (za n) (T+t),.str (za ("cmp_to_key.<locals>.K." ++ n)) (T+t+1),.str (za "/claim/cut.py") (T+t+2),.int ln 0,.int 2 0,.int 0 0,.int 0 0,.int 19 0,.ref (N+c),.bool true,.int 318 0,.ref (N+c+1),.none,.ref (N+c+2),.ref (N+c+3),.ref (N+c+4),.int ((T+u:Nat):Int) 0,.int ln 0,.str (za "/claim/cut.py") (T+u+1)],slots:=#[]}
noncomputable def NR(P:zp)(N T:Nat):xK:={cls:=.type "dict",dict:=none,data:=.dict #[⟨zz P (za "__module__"),.str (za "__module__") (T+8),.str (za "cpy313.functools") (T+13)⟩,⟨zz P (za "__firstlineno__"),.str (za "__firstlineno__") (T+12),.int 787 (T+11)⟩,⟨zz P (za "__slots__"),.str (za "__slots__") (T+16),.ref (N+9)⟩,⟨zz P (za "__init__"),.str (za "__init__") (T+24),.ref (N+16)⟩,⟨zz P (za "__lt__"),.str (za "__lt__") (T+33),.ref (N+24)⟩,⟨zz P (za "__gt__"),.str (za "__gt__") (T+42),.ref (N+32)⟩,⟨zz P (za "__eq__"),.str (za "__eq__") (T+51),.ref (N+40)⟩,⟨zz P (za "__le__"),.str (za "__le__") (T+60),.ref (N+48)⟩,⟨zz P (za "__ge__"),.str (za "__ge__") (T+69),.ref (N+56)⟩,⟨zz P (za "__hash__"),.str (za "__hash__") (T+70),.none⟩,⟨zz P (za "__static_attributes__"),.str (za "__static_attributes__") (T+72),.ref (N+57)⟩,⟨zz P (za "obj"),.str (za "obj") (T+74),.ref (N+61)⟩,⟨zz P (za "__doc__"),.str (za "__doc__") (T+75),.none⟩] 3,slots:=#[]}
noncomputable def LJ(N T:Nat):xK:={cls:=.type "member_descriptor",dict:=none,data:=.fields #[.str (za "obj") (T+73),.ref (N+60),.builtin "proto.slot",.builtin "proto.slot#set",.int 0 0],slots:=#[]}
noncomputable def pK(N T:Nat):xK:=KI N T qK [.ref (N+60),.type "object"] [za "obj"] #[some (.ref (N+2)),none,some (.str w7 T),some (.str qK (T+9)),some (.builtin "object.__new__"),some (.bool false)]
noncomputable def CL(P:zp)(N T:Nat)(v:zi):List (zI×Obj):=[(N+60,pK N T),(N+59,NR P N T),(N+61,LJ N T),(N+16,mF N "__init__" 2 15 [] .none),(N+15,mC N T "__init__" 10 17 22 791),(N+24,mF N "__lt__" 3 23 [(za "mycmp",N+1)] (.ref (N+17))),(N+23,mC N T "__lt__" 18 25 31 794),(N+1,{cls:=.type "cell",dict:=none,data:=.cell (some v),slots:=#[]})]
section
variable {N:Nat} {s0 s:zg} {w:ya} {A:y1} {E:zi→zg→Prop} {Q:zi→zg→Prop} {p:List Nat×XS}
theorem jy(T:XR N (KF w.params) s0 p.2 s){C so:zI}{oC:xK}{cd:ClassData}{l:List zi}(hC:s.heap.get? C=some oC)(hd:oC.data=.cls cd)(hm:cd.mro=.ref C::l)(ha:N+p.2.ct=so)(g:∀s',XR N (KF w.params) s0 (XN so (mI (.ref C) (.ref C) (.ref C)) p).2 s'→Q (.ref so) s'):zr (zu pw w) A (call (.type "super") [.ref C,.ref C]) Q E s:=by
 obtain⟨hp,gn,dr,tk,os⟩:=s
 have hsz:hp.objs.size=so:=T.size.trans ha
 refine ks_callType_codesW (Q₁:=fun obj s₁=>obj=.ref so∧XR N (KF w.params) s0 (XN so (mI .none .none .none) p).2 s₁∧s₁.heap.get? C=some oC) PySem.F.ks_called_super (fun q=>ks_wpAny_checkTypeCall_super hC hd q) PySem.F.ks_entry_super_init
  (ks_code_super_new _ _ ⟨by exact xv hsz rfl,T.addP rfl ha,zq _ hC⟩) fun obj s₁ hs=>?_
 refine yU hs fun z0 T1 hC1=>?_;clear hs;subst z0
 have hne:C≠so:=fun z=>by rw[←hsz]at z;rw[z]at hC;exact absurd (zY hC) (yI _)
 refine⟨⟨_,T1.last,rfl⟩,PySem.F.ks_initArgs_super _ _ _,?_⟩
 obtain⟨hp1,gn,dr,tk1,os⟩:=s₁
 have hsub:=sub_self (M:=zu pw w) hC1 hd hm
 have fin:∀A',zr (zu pw w) A' (do Ug (.ref so) 0 (.ref C);Ug (.ref so) 1 (.ref C);Ug (.ref so) 2 (.ref C);ret .none) (fun fin s'=>match fin with
   |.done f=>G1 (fun r s₂=>r=.none∧Q (.ref so) s₂) E (.ok f) s'
   |.again c'=>c'.quiet=true∧y4 (zu pw w) A.in1 c' (G1 (fun r s₂=>r=.none∧Q (.ref so) s₂) E) s') (fun e s'=>G1 (fun r s₂=>r=.none∧Q (.ref so) s₂) E (.error e) s') ⟨hp1,gn,dr,tk1,os⟩:=fun A'=>by
  refine zb (Qs T1.last (by simp) fun h2 e2 b2=>?_)
  have T2:=T1.turnL b2 e2
  refine zb (Qs e2 (by simp) fun h3 e3 b3=>?_)
  have T3:=T2.turnL b3 e3
  refine zb (Qs e3 (by simp) fun h4 e4 b4=>?_)
  exact wpAny_pure ⟨rfl,g _ (T3.turnL b4 e4)⟩
 unfold Builtin.«super.__init__» noKeywords
 repeat (first|exact fin _|(with_reducible refine ks_wpAny_isType_cls hC1 hd ?_)|(with_reducible refine Looks.at hsub ?_)|wp_step)
end
end
section
set_option tactic.hygienic true
noncomputable def EK:List Nat:=[0,0,0,6,6,7,0,1,1,1,1,0,0,0,7,7,0,7,7,7,7,7,7,7,7,7,7,7,7,7,7,7,10,9,9,9,9,0,0,0,7,7,7,10,9,9,9,9,0,0,0,7,7,7,10,9,9,9,9,0,0,0,7,7,7,10,9,9,9,9,0,0,0,7,7,7,10,9,9,9,9,0,0,0,7,7,7,10,9,9,9,9,0,0,0,7,7,7,7,7,7,7,7,7,5,7,5,7,7,12,12,61,61,62,62,62,63,63,63,62,62,62,62,62,62,62,63,63,63,63,63,63,63,62,62,62,62,62,63,63,63,63,62,62,62,62,62,62,62,12,19,27,35,43,51,59,60,64,63,65,65,65,63,63,63,65,65,65,65,65,65,65,65,65,65,65,2,63,63,63,66,66,63,63,63,63,63,63,63,3,3]
noncomputable abbrev aC(ps:Array zi):xK:={cls:=.none,dict:=none,data:=.fields ps,slots:=#[]}
noncomputable def NX(x:Option (Nat×Obj)):Array zi:=match x with
 |some p=>(match p.2.data with
  |.fields v=>v
  |_=>#[])
 |none=>#[]
theorem XR.tab{N:Nat}{K:uQ}{s0 s:zg}{p:List Nat×XS}(X:XR N K s0 p.2 s)(h:p.2.nw[0]?=some (789,aC (NX p.2.nw[0]?))):∃ps,s.heap.get? 789=some (aC ps):=⟨_,X.at 0 h⟩
def Wn(w:ya)(N:Nat)(s0:zg)(A:y1)(Q:α→zg→Prop)(E:zi→zg→Prop)(p:List Nat×XS)(t:VL α):Prop:=∀s,XR N (KF w.params) s0 p.2 s→zr (zu pw w) A t Q E s
namespace Wn
section
variable {w:ya} {N:Nat} {s0:zg} {A:y1} {α β:Type} {Q:β→zg→Prop} {E:zi→zg→Prop} {p:List Nat×XS} {t:VL α} {k:α→VL β} {u v:VL β}
theorem b(hd:A.depth+48<recursionLimit)(a:α)(h:An (Qc w N t p)=some (a,lG (Qc w N t p)))(g:Wn w N s0 A Q E (CT (Qc w N t p)) (k a)):Wn w N s0 A Q E p (t >>= k):=fun _ X=>zb (UO hd a X h g)
theorem i(hd:A.depth+48<recursionLimit)(d:α)(h1:(Qc w N t p).isSome=true)(h2:Mw (Qc w N t p)=lG (Qc w N t p))(g:Wn w N s0 A Q E (CT (Qc w N t p)) (k (sF d (Qc w N t p)))):Wn w N s0 A Q E p (t >>= k):=fun _ X=>zb (L6 hd d X h1 h2 g)
theorem x(hd:A.depth+48<recursionLimit)(a:α)(h:An (Qc w N t p)=some (a,lG (Qc w N t p)))(g:Wn w N s0 A Q E (CT (Qc w N t p)) (k a)):Wn w N s0 A (fun a s'=>zr (zu pw w) A (k a) Q E s') E p t:=fun _ X=>UO hd a X h g
theorem o(g:Wn w N s0 A Q E p (k a)):Wn w N s0 A Q E p (pure a >>= k):=fun s X=>zb (wpAny_pure (g s X))
theorem s{k:Unit→VL β}(g:Wn w N s0 A Q E p (k ())):Wn w N s0 A Q E p (Cr pos >>= k):=fun s X=>zb (xi (g s X))
theorem h(g:Wn w N s0 A Q E p u):Wn w N s0 A Q E p (holding vs u):=fun s X=>zV (g s X)
theorem d(g:Wn w N s0 A (fun a s'=>zr (zu pw w) A (k a) Q E s') E p t):Wn w N s0 A Q E p (t >>= k):=fun s X=>zb (g s X)
theorem e{k:Unit→VL β}(hl:∀s,XR N (KF w.params) s0 p.2 s→s.heap.NoLimit)(hd:A.depth<recursionLimit)(g:Wn w N s0 A Q E p (k ())):Wn w N s0 A Q E p (enterFrame >>= k):=fun s X=>zb (wpAny_enterFrame (hl s X) hd (g s X))
theorem tc{k:zi→VL β}(g:Wn w N s0 A Q (fun e s'=>zr (zu pw w) A (k e) Q E s') p u):Wn w N s0 A Q E p (tryCatch u k):=fun s X=>k5 (g s X)
theorem at'{Q:Except zi β→zg→Prop}(g:Wn w N s0 A (fun a=>Q (.ok a)) (fun e=>Q (.error e)) p u):Wn w N s0 A Q E p u.attempt:=fun s X=>TP (g s X)
theorem f[Decidable c](h:¬c)(g:Wn w N s0 A Q E p v):Wn w N s0 A Q E p (if c then u else v):=fun s X=>Dd h (g s X)
theorem n(h:c=false)(g:Wn w N s0 A Q E p v):Wn w N s0 A Q E p (if c=true then u else v):=fun s X=>JQ h (g s X)
theorem y(h:c=true)(g:Wn w N s0 A Q E p u):Wn w N s0 A Q E p (if c=true then u else v):=fun s X=>JP h (g s X)
theorem z(m:Nat)(g:Wn w N s0 A Q E (Dr m p) u):Wn w N s0 A Q E p u:=g
end
end Wn
theorem eK{α:Type}{P:α→Prop}{a:α}{l:List α}(h:P a)(k:∀e∈l,P e):∀e∈a::l,P e:=List.forall_mem_cons.mpr ⟨h,k⟩
theorem pJ(hd:A.depth+60<recursionLimit){Q:Qw→zg→Prop}{E:zi→zg→Prop}(X:XR (M+870) (KF w.params) s0 (EK,LD (cp w.params) (M+870) T v).2 s)(g:∀s' (p:List Nat×XS),XR (M+870) (KF w.params) s0 p.2 s'→p.2.nw.map (·.1)=789::2::(zT 64).map (M+870+·)→p.2.nw[1]?=some (2,cp w.params)→(∃ps,s'.heap.get? 789=some (aC ps))→(∀e∈CL w.params (M+870) T v,s'.heap.get? e.1=some e.2) →
   s'.heap.get? (M+870)=some {cls:=.type "frame",dict:=none,data:=.dict #[⟨zz w.params w7,.str w7 (T+77),.ref (M+870+60)⟩] 1,slots:=#[]}→Q .next s'):zr (zu pw w) A (tx Wq (eh w.params (M+870))) Q E s:=by
 have hd':=hd
 replace hd:A.depth+48<recursionLimit:=zN 0x63c2350263023502 [A.depth,recursionLimit] hd rfl
 refine zc BH (zc (arm_exec_ClassDef ..) ?_)
 refine(?_:Wn w (M+870) s0 A Q E (EK,LD (cp w.params) (M+870) T v) _) s X
 refine .b hd [] ⋯ (.s (.b hd () ⋯ ?_))
 refine .d (.h (.b hd (⟨[yK "object"],[]⟩:Args) ⋯ ?_))
 refine .s (.h ?_)
 refine .b hd (yJ ((M+870)+2)) ⋯ (.b hd ([yK "object"],false) ⋯ (.b hd (yK "type") ⋯ (.b hd true ⋯ (.b hd (yK "type") ⋯ (.b hd (tD w7 T) ⋯ (.f (by decide) (.o (.h (.b hd (some (yJ ((M+870)+3))) ⋯ ?_)))))))))
 refine .b hd (yJ ((M+870)+4)) ⋯ (.b hd yO ⋯ (.b hd (some (Vi "dict.__getitem__")) ⋯ (.f (by decide) (.h (.n ⋯ (.o (.n ⋯ (.o ?_))))))))
 refine .b hd (yJ ((M+870)+7)) ⋯ (.b hd 0 ⋯ (.b hd ((M+870)+8) ⋯ (.b hd [(za "mycmp",(M+870)+1)] ⋯ (.h (.e (fun s Y8=>(bt (P:=w.params) (Y8.ent 1 2 _ ⋯).1).no) (zN 6803820652114 [A.depth,recursionLimit] hd rfl) ?_)))))
 refine .b hd yO ⋯ (.b hd Flow.next ⋯ (.b hd yO ⋯ ?_))
 intro s Z3
 refine zb (yL (xZ ?_))
 refine(?_:zr _ _ (UJ (.type "type") _) _ _ _)
 refine wpAny_pure ⟨xR _ (by decide +kernel),codeAny_builtin F.entry_type_call ?_⟩
 have hd1:=Tj (A:=A) (c:=.builtin "type.__call__" ⟨[.type "type",.str w7 T,.ref (M+870+2),.ref (M+870+4)],[]⟩) (k:=54) (zN 0x63c23502631336230502 [A.depth,recursionLimit] hd' rfl) ⋯
 refine(?_:zr _ (A.under (.builtin "type.__call__" ⟨[.type "type",.str w7 T,.ref (M+870+2),.ref (M+870+4)],[]⟩)) (Builtin.«type.__call__» ⟨[.type "type",.str w7 T,.ref (M+870+2),.ref (M+870+4)],[]⟩) _ _ _)
 generalize A.under (.builtin "type.__call__" ⟨[.type "type",.str w7 T,.ref (M+870+2),.ref (M+870+4)],[]⟩)=A1 at hd1 ⊢
 have hdA:A1.depth+48<recursionLimit:=zN 0x6362350263023502 [A1.depth,recursionLimit] hd1 rfl
 unfold Builtin.«type.__call__»
 refine(?_:Wn w (M+870) s0 A1 _ _ _ _) s Z3
 refine .y ⋯ (.n ⋯ (.n ⋯ (.n ⋯ ?_)))
 refine .b hdA yO ⋯ (.b hdA [yK "type",yK "object"] ⋯ (.n ⋯ (.b hdA (some "type.__new__") ⋯ ?_)))
 refine .o (.d (.h ?_))
 intro s Z6
 refine yL (Xb (xR _ (by decide +kernel)) ?_)
 refine UO (A:=A1.in1) hdA yO Z6 ⋯ fun s Z7=>codeAny_builtin (b:=Builtin.«type.__new__») (entryFor_of_fast ⋯) ?_
 have hd2:=Tj (A:=A1) (c:=.builtin "type.__new__" ⟨[.type "type",.str w7 T,.ref (M+870+2),.ref (M+870+4)],[]⟩) (k:=51) (zN 0x63623502631333230502 [A1.depth,recursionLimit] hd1 rfl) ⋯
 refine(?_:zr _ (A1.under (.builtin "type.__new__" ⟨[.type "type",.str w7 T,.ref (M+870+2),.ref (M+870+4)],[]⟩)) (Builtin.«type.__new__» ⟨[.type "type",.str w7 T,.ref (M+870+2),.ref (M+870+4)],[]⟩) _ _ _)
 generalize A1.under (.builtin "type.__new__" ⟨[.type "type",.str w7 T,.ref (M+870+2),.ref (M+870+4)],[]⟩)=A2 at hd2 ⊢
 have hdB:A2.depth+48<recursionLimit:=zN 0x6332350263023502 [A2.depth,recursionLimit] hd2 rfl
 unfold Builtin.«type.__new__»
 refine(?_:Wn w (M+870) s0 A2 _ _ _ _) s Z7
 with_reducible refine .b hdB (some w7) ⋯ ?_
 with_reducible refine .b hdB true ⋯ ?_
 with_reducible refine .n ⋯ ?_
 with_reducible refine .b hdB true ⋯ ?_
 with_reducible refine .n ⋯ ?_
 with_reducible refine .b hdB (some #[yK "object"]) ⋯ ?_
 with_reducible refine .f (by decide) ?_
 with_reducible refine .b hdB yO ⋯ ?_
 with_reducible refine .b hdB (yK "type") ⋯ ?_
 with_reducible refine .n ⋯ ?_
 with_reducible refine .b hdB yO ⋯ ?_
 with_reducible refine .b hdB (yK "object") ⋯ ?_
 with_reducible refine .n ⋯ ?_
 with_reducible refine .i hdB #[] ⋯ ⋯ ?_
 with_reducible refine .b hdB (some (Vi "dict.__iter__")) ⋯ ?_
 with_reducible refine .y ⋯ ?_
 with_reducible refine .o ?_
 with_reducible refine .b hdB {names:=[za "obj"],dict:=false,weak:=false,inherited:=[]} ⋯ ?_
 with_reducible refine .b hdB (yJ (M+870+59)) ⋯ ?_
 with_reducible refine .n ⋯ ?_
 with_reducible refine .b hdB yO ⋯ ?_
 with_reducible refine .n ⋯ ?_
 with_reducible refine .b hdB (some (tD (Qv (eh w.params (M+870)) w7 w7) (T+9))) ⋯ ?_
 with_reducible refine .b hdB (some (tD (Qv (eh w.params (M+870)) w7 w7) (T+9))) ⋯ ?_
 with_reducible refine .b hdB (some (Qv (eh w.params (M+870)) w7 w7)) ⋯ ?_
 with_reducible refine .o ?_
 with_reducible refine .b hdB (none:Option zi) ⋯ ?_
 with_reducible refine .b hdB (M+870+60) ⋯ ?_
 with_reducible refine .y ⋯ ?_
 with_reducible refine .b hdB yO ⋯ ?_
 with_reducible refine .b hdB yO ⋯ ?_
 refine .b hdB yO ⋯ ?_
 with_reducible refine .b hdB true ⋯ ?_
 with_reducible refine .b hdB (none:Option zi) ⋯ ?_
 with_reducible refine .b hdB yO ⋯ ?_
 with_reducible refine .b hdB (none:Option zi) ⋯ ?_
 with_reducible refine .b hdB (none:Option zi) ⋯ ?_
 with_reducible refine .b hdB (none:Option zi) ⋯ ?_
 with_reducible refine .b hdB [yK "object"] ⋯ ?_
 with_reducible refine .o ?_
 have ef:List.filter (fun y:zi=>y != yJ (M+870+60)) (yJ (M+870+60)::[yK "object"])=[yK "object"]:=by
  refine zc TT (zc (if_neg (by simp)) ?_)
  rfl
 with_reducible refine .d ?_
 refine zc ef ?_
 with_reducible refine .x hdB false ⋯ ?_
 with_reducible refine .b hdB yO ⋯ ?_
 with_reducible refine .b hdB (some "object.__new__") ⋯ ?_
 with_reducible refine .b hdB yO ⋯ ?_
 with_reducible refine .b hdB yO ⋯ ?_
 with_reducible refine .b hdB yO ⋯ ?_
 with_reducible refine .b hdB false ⋯ ?_
 with_reducible refine .b hdB yO ⋯ ?_
 with_reducible refine .n ⋯ (.n ⋯ ?_)
 with_reducible refine .b hdB (none:Option zi) ⋯ ?_
 with_reducible refine .y ⋯ ?_
 with_reducible refine .b hdB yO ⋯ ?_
 with_reducible refine .i hdB none ⋯ ⋯ ?_
 with_reducible refine .y ⋯ ?_
 with_reducible refine .b hdB (some xn) ⋯ ?_
 with_reducible refine .n ⋯ ?_
 with_reducible refine .b hdB yO ⋯ ?_
 refine .d (.tc (.h ?_))
 with_reducible refine .i hdB #[] ⋯ ⋯ ?_
 with_reducible refine .b hdB false ⋯ ?_
 with_reducible refine .n ⋯ ?_
 with_reducible refine .i hdB #[] ⋯ ⋯ ?_
 with_reducible refine .b hdB yO ⋯ ?_
 with_reducible refine .d ?_
 intro s T45
 have hC:=T45.at 62 (a:=M+870+60) (b:=KI (M+870) T (Qv (eh w.params (M+870)) w7 w7) [.ref (M+870+60),.type "object"] [za "obj"] #[some (.ref (M+870+2)),none,some (.str w7 T),some (.str (Qv (eh w.params (M+870)) w7 w7) (T+9)),some (.builtin "object.__new__"),some (.bool false)]) ⋯
 refine jy T45 hC rfl rfl (so:=M+870+62) ⋯ fun s T46=>(?_:Wn w (M+870) s0 A2 _ _ _ _) s T46
 with_reducible refine .d ?_
 refine .h ?_
 unfold W7 getAttrBy
 refine .z 13 ?_
 with_reducible refine .b hdB (tD (za "__init_subclass__") (T+76)) ⋯ ?_
 refine .h ?_
 with_reducible refine .b hdB (yK "super") ⋯ ?_
 with_reducible refine .b hdB (some (Vi "super.__getattribute__")) ⋯ ?_
 refine .n ⋯ ?_
 unfold getAttrByItsOwn
 with_reducible refine .b hdB (none:Option zi) ⋯ ?_
 refine .d (.at' (.h ?_))
 refine .n ⋯ ?_
 unfold boundAndCalled
 with_reducible refine .b hdB (Vi "super.__getattribute__",[yJ (M+870+62)]) ⋯ ?_
 intro s T51
 refine yL (Xb (xR _ (by decide +kernel)) ?_)
 refine UO (A:=A2.in1) hdB yO T51 ⋯ fun s T52=>codeAny_builtin (b:=Builtin.«super.__getattribute__») PySem.F.ks_entry_super_ga ?_
 have hd3:=Tj (A:=A2) (c:=.builtin "super.__getattribute__" ⟨[.ref (M+870+62),.str (za "__init_subclass__") (T+76)],[]⟩) (k:=48) (zN 0x63323502631330230502 [A2.depth,recursionLimit] hd2 rfl) ⋯
 refine(?_:zr _ (A2.under (.builtin "super.__getattribute__" ⟨[.ref (M+870+62),.str (za "__init_subclass__") (T+76)],[]⟩)) (Builtin.«super.__getattribute__» ⟨[.ref (M+870+62),.str (za "__init_subclass__") (T+76)],[]⟩) _ _ _)
 generalize A2.under (.builtin "super.__getattribute__" ⟨[.ref (M+870+62),.str (za "__init_subclass__") (T+76)],[]⟩)=A3 at hd3 ⊢
 unfold Builtin.«super.__getattribute__»
 refine(?_:Wn w (M+870) s0 A3 _ _ _ _) s T52
 with_reducible refine .b hd3 (some (za "__init_subclass__")) ⋯ ?_
 with_reducible refine .n ⋯ ?_
 with_reducible refine .b hd3 (some (za "__init_subclass__")) ⋯ ?_
 with_reducible refine .b hd3 (yJ (M+870+60)) ⋯ ?_
 with_reducible refine .b hd3 (yJ (M+870+60)) ⋯ ?_
 with_reducible refine .b hd3 (yJ (M+870+60)) ⋯ ?_
 with_reducible refine .n ⋯ ?_
 with_reducible refine .b hd3 yO ⋯ ?_
 with_reducible refine .n ⋯ ?_
 with_reducible refine .b hd3 [yJ (M+870+60),yK "object"] ⋯ ?_
 with_reducible refine .d ?_
 have ed:List.drop 1 (List.dropWhile (fun y:zi=>y != yJ (M+870+60)) [yJ (M+870+60),yK "object"])=[yK "object"]:=by
  refine zc List.dropWhile_cons (zc (if_neg (by simp)) ?_);rfl
 refine zc ed (zc (show(yJ (M+870+60)==yJ (M+870+60))=true by simp) (zc (if_pos rfl) ?_))
 intro s T59
 with_reducible refine UO hd3 (some (PySem.Fin.done (Flow.ret (yJ (M+870+63)))),()) T59 ⋯ fun s T60=>?_
 refine wpAny_pure ((?_:zr _ A2 (handedOut (yJ (M+870+63))) _ _ _))
 with_reducible refine UO hdB (yJ (M+870+63)) T60 ⋯ fun s T61=>?_
 with_reducible refine zb (UO hdB xn T61 ⋯ fun s T62=>?_)
 refine wpAny_pure (wpAny_pure ?_)
 refine(?_:Wn w (M+870) s0 A1 _ _ _ _) s T62
 refine .b hdA true ⋯ (.n ⋯ (.b hdA (some xn) ⋯ (.n ⋯ ?_)))
 intro s T64
 refine wpAny_pure (wpAny_pure ?_)
 refine(?_:Wn w (M+870) s0 A _ _ _ _) s T64
 refine .b hd (yJ (M+870+60)) ⋯ (.s (.b hd yO ⋯ ?_))
 intro s T66
 refine wpAny_pure (g s _ T66 ⋯ ⋯ (T66.tab ⋯) ?_ (T66.at 2 ⋯))
 exact eK (T66.at 62 ⋯) (eK (T66.at 61 ⋯) (eK (T66.at 63 ⋯) (eK (T66.at 18 ⋯) (eK (T66.at 17 ⋯) (eK (T66.at 26 ⋯) (eK (T66.at 25 ⋯) (eK (T66.at 3 ⋯) fun U h=>mN h)))))))
end
section
noncomputable def Ni(c:xK)(T:Nat):XS:=⟨[(789,ZC),(2,c)],0,T⟩
theorem BV:rr=[Wq,.Return (some (.Name w7 (TZ (zm rr 1)).pos)) (zm rr 1).pos]:=⋯
theorem o0(hd:A.depth+70<recursionLimit)(XK:(KF w.params).In s.heap)(h1:s.heap.get? 789=some ZC)(h2:s.heap.get? 2=some (cp w.params))(hN:s.heap.objs.size=M+870)(hT:s.toks=T)(g:∀s',(∃h tk,s'={s with heap:=h,toks:=tk})→(∀a o,s.heap.get? a=some o→a≠789→s'.heap.get? a=some o)→(∃ps,s'.heap.get? 789=some (aC ps))→(∀e∈CL w.params (M+870) T v,s'.heap.get? e.1=some e.2)→Q (.ref (M+870+60)) s'):
  zr (zu pw w) A (call (.ref 794) [v]) Q E s:=by
 have I:=Kd w.params
 refine zt I.at_ fun fo ho hfd=>yL (uP (zN 6898309932626 [A.depth,recursionLimit] hd rfl) (XK _ _ ho) hfd I.co I.gen I.body (ud XK I.code) ?_)
 refine x8 (BN w.params v) ?_
 have X0:XR (M+870) (KF w.params) s ([4,4],Ni (cp w.params) T).2 s:=by
  subst hT
  have hlt:∀{a o},s.heap.get? a=some o→a<M+870:=fun{a o} e=>hN▸zY e
  refine⟨⟨s.heap,rfl⟩,XK,hN,fun i a b e=>?_,by show([789,2]:List Nat).Nodup;decide,fun a o e U=>e⟩
  match i,e with
  |0,e=>cases e;exact⟨h1,⋯⟩
  |1,e=>cases e;exact⟨h2,⋯⟩
 refine zc I.gl (zc I.bi (zc I.clos ?_))
 have hd1:A.in1.depth+48<recursionLimit:=by show A.depth+48<_;exact zN 0x6462350263023502 [A.depth,recursionLimit] hd rfl
 refine UO (A:=A.in1) hd1 (eh w.params (M+870)) X0 ⋯ fun s1 X1=>⟨?_,W8 ?_⟩
 ·exact(bt (P:=w.params) (X1.at 1 ⋯)).no
 have X1:XR (M+870) (KF w.params) s (EK,LD (cp w.params) (M+870) T v).2 s1:=by
  have e:(CT (Qc w (M+870) (vV (wU (Zf w.params)).scope 3 [] [(za "mycmp",v)] ((wU (Zf w.params)).qualname ++ ".<locals>.") (some 794) (wU (Zf w.params)).code none 0) ([4,4],Ni (cp w.params) T))).2=LD (cp w.params) (M+870) T v:=⋯
  rw[e]at X1
  exact X1
 refine zc BV ?_
 refine zO (pJ (by show A.depth+1+60<_;exact zN 0x6462350263c231135002 [A.depth,recursionLimit] hd rfl) X1 fun s2 p X2 hm hc hT hCL hF=>?_)
 refine zO (qL (k9 (Ud (m:=nsFind #[⟨zz w.params w7,.str w7 (T+77),.ref (M+870+60)⟩]) (v:=.ref (M+870+60)) ⋯ ⋯ ⟨_,_,_,hF,rfl,?_,fun U=>rfl⟩ ⋯ ?_) ⋯))
 ·intro e he
  simp at he
  subst he
  exact⟨_,_,rfl⟩
 ·show Q (.ref (M+870+60)) s2
  refine yf X2.rest fun h hs=>g s2 ⟨h,p.2.tk,hs⟩ (fun a o e na=>?_) hT hCL
  by_cases h2a:a=2
  ·subst h2a
   rw[h2]at e
   replace e:=zf e;subst e
   exact X2.at 1 hc
  ·refine X2.keep a o e fun q=>?_
   rw[hm]at q
   rcases zn.mp q with q|q
   ·exact na q
   rcases zn.mp q with q|q
   ·exact h2a q
   refine zt (zB.mp q) fun i z1 z2=>?_;clear z1;subst z2
   have q:M+870+i<s.heap.objs.size:=zY e
   rw[hN]at q
   exact Nat.not_succ_le_zero 0 (zN 0x366335063663350020130132 [M,i] q rfl)
end
section
set_option backward.match.sparseCases false in
noncomputable def WJ(K:uQ)(S:Setting)(nw:List (zI×Obj)):VL α→List Nat→Option (α×List (Nat×Nat))
 |.pure a,_=>some (a,[])
 |.rule _ k,o=>WJ K S nw (k ()) o
 |.at _ k,o=>WJ K S nw (k ()) o
 |.point _ k,o=>WJ K S nw (k ()) o
 |.ask k,o=>WJ K S nw (k S) o
 |.load a _ k,o=>Hg o (fun o=>(K.lookup a).bind fun b=>WJ K S nw (k b) o) fun i o=>nw[i]?.bind fun e=>(WJ K S nw (k e.2) o).map fun r=>(r.1,(a,e.1)::r.2)
 |_,_=>none
theorem lS{M:fb}{K:uQ}{nw:List (zI×Obj)}{α:Type}{Γ:Ctx}{s:zg}(X:K.In s.heap)(hn:∀e∈nw,s.heap.get? e.1=some e.2){Q:α→ZJ→zg→Prop}{E:zi→ZJ→zg→Prop}{v:α}:
  ∀(t:VL α) (o:List Nat) (q:List (Nat×Nat)) (p:ZJ),WJ K ⟨M.prog,M.w.params⟩ nw t o=some (v,q)→(∀e∈q,e.1=e.2)→(∀p,Q v p s)→qP M Γ t Q E p s:=by
 intro t
 induction t with
 |pure b=>intro o q p h hq g;cases h;exact g p
 |rule _ k ih=>intro o q p h hq g;exact ih () o q p h hq g
 |«at» _ k ih=>intro o q p h hq g;exact ih () o q _ h hq g
 |point _ k ih=>intro o q p h hq g;exact ih () o q p h hq g
 |ask k ih=>intro o q p h hq g;exact ih _ o q p h hq g
 |load c _ k ih =>
  intro o q p h hq g
  rcases U3 h with⟨o1,h1⟩|⟨i,o1,h1⟩
  ·exact zt (zl.mp h1) fun b z h2=>⟨b,X _ _ z,ih b o1 q p h2 hq g⟩
  ·refine zt (zl.mp h1) fun e z h2=>zt (yz.mp h2) fun r y h3=>?_
   cases h3
   have he:c=e.1:=hq (c,e.1) (.head _)
   exact⟨e.2,he▸hn e (zH z),ih e.2 o1 r.2 p y (fun e m=>hq e (.tail _ m)) g⟩
 |_=>intro o q p h;exact nS h
noncomputable def NQ{α:Type}(r:Option (α×List (Nat×Nat))):Option (α×List Nat):=r.map fun e=>(e.1,e.2.map (·.1))
noncomputable def NP{α:Type}(r:Option (α×List (Nat×Nat))):List Nat:=(r.map fun e=>e.2.map (·.2)).getD []
theorem w5{w:ya}{h:xO}{nw:List (zI×Obj)}{α:Type}{t:VL α}{v:α}(X:(KF w.params).In h)(hn:∀e∈nw,h.get? e.1=some e.2)(o:List Nat)(e:NQ (WJ (KF w.params) ⟨pw,w.params⟩ nw t o)=some (v,NP (WJ (KF w.params) ⟨pw,w.params⟩ nw t o))):xD (zu pw w) h t v:=fun A Q E s k q Γ p hΓ=>by
 refine zt (yz.mp e) fun r y h1=>?_
 rw[y]at h1
 refine zK (Prod.mk.inj h1) fun e1 e2=>?_
 subst e1
 exact lS (X.keeps k) (fun e m=>k _ _ (hn e m)) t o r.2 p y (oi e2) fun p=>q
section
variable {w:ya} {M T:Nat} {v:zi} {h:xO} (X:(KF w.params).In h) (hn:∀e∈CL w.params (M+870) T v,h.get? e.1=some e.2)
include X hn
theorem AU:Makes (zu pw w) h (M+870+60):=by
 have hC:h.get? (M+870+60)=some (pK (M+870) T):=hn _ (.head _)
 refine⟨⟨_,_,_,_,hC,rfl,rfl,rfl⟩,w5 X hn [1,1,1] ⋯,w5 X hn [1,1,1,1] ⋯,sub_self hC rfl rfl,w5 X hn [1] ⋯,w5 X hn [1] ⋯,w5 X hn [1] ⋯⟩
theorem Fg:xD (zu pw w) h (ut (.ref (M+870+60)) "__init__") (some (.ref (M+870+16))):=w5 X hn [1,1,2] ⋯
theorem AX(self:zi):xD (zu pw w) h (G3 (.ref (M+870+16)) self) (.ref (M+870+16),[self]):=w5 X hn [4] ⋯
theorem MP:xD (zu pw w) h (ut (.ref (M+870+60)) "__lt__") (some (.ref (M+870+24))):=w5 X hn [1,1,2] ⋯
theorem AW(self:zi):xD (zu pw w) h (G3 (.ref (M+870+24)) self) (.ref (M+870+24),[self]):=w5 X hn [6] ⋯
end
end
section
open Builtin Builtin.ObjectAttr Builtin.Getset_descriptor
theorem AO(h:870≤a):(KF P).lookup a=none:=by
 refine List.lookup_eq_none_iff.mpr fun p hp=>?_
 have h1:(KF P).map (·.1)=KA:=⋯
 have h2:KA.all (fun b=>Nat.blt b 870)=true:=⋯
 have h3:=zJ.mp h2 p.1 (h1▸zB.mpr ⟨p,hp,rfl⟩)
 have h3:p.1<870:=vg h3
 exact bne_iff_ne.mpr (uF (vY (yq h3 h)))
theorem XR.start(X:(KF P).In s.heap)(hs:s.heap.objs.size=N)(hl:∀e∈l,s.heap.get? e.1=some e.2)(hk:∀e∈l,870≤e.1)(hn:(l.map (·.1)).Nodup):XR N (KF P) s ⟨l,0,s.toks⟩ s:=
 ⟨⟨s.heap,rfl⟩,X,hs,fun i a b e=>⟨hl (a,b) (zH e),AO (hk (a,b) (zH e))⟩,hn,fun a o e U=>e⟩
theorem ro:(CL P N T v).map (·.1)=([60,59,61,16,15,24,23,1]:List Nat).map (N+·):=rfl
theorem DG:∀e∈CL P (M+870) T v,870≤e.1:=fun e m=>by
 have m:e.1∈(CL P (M+870) T v).map (·.1):=we m
 rw[ro]at m
 refine zt (zB.mp m) fun i z1 h=>?_;clear z1
 exact xv h (yv (vp 870 M) (wY _ i))
theorem rn:((CL P (M+870) T v).map (·.1)).Nodup:=by
 exact zc ro (List.Pairwise.map _ (fun a b h z=>h (Nat.add_left_cancel z)) (by decide:([60,59,61,16,15,24,23,1]:List Nat).Nodup))
noncomputable def rF(P:zp)(N T:Nat):ZK:=wU (mF N "__init__" 2 15 [] .none)
noncomputable def iO(C dx:zI)(v:zi):xK:={cls:=.ref C,dict:=some dx,data:=.plain,slots:=#[some v]}
noncomputable abbrev BI:List yX:=wt (zm (x6 Wq) 2)
noncomputable def N6(s:yX):Expr:=wx (xE (wx (xT s) 1)) 0
noncomputable def N5(s:yX):ZJ:=(wx (xT s) 1).pos
theorem KU:BI=[.Assign [.Attribute (N6 (zm BI 0)) (za "obj") (N5 (zm BI 0))] (wV (zm BI 0)) (zm BI 0).pos]:=⋯
noncomputable def eI(P:zp)(N T L:Nat):Qx:={scope:=(rF P N T).scope,locals:=L,globals:=3,cells:=[],qual:=(rF P N T).qualname ++ ".<locals>.",func:=some (N+16),code:=.ref (N+15),frame:=some L,builtins:=0}
theorem jJ(hn:∀e∈CL w.params (M+870) T v,s.heap.get? e.1=some e.2)(hx:s.heap.get? x=some (xx (M+870+60) m))(h:∀h',yo x s.heap h'→h'.get? x=some (iO (M+870+60) m a)→R (.ok (.ret .none)) {s with heap:=h'}):
  y4 (zu pw w) A (.call (.builtin "member_descriptor.__set__") ⟨[.ref (M+870+61),.ref x,a],[]⟩) R s:=by
 obtain⟨hh,g,dr,t,os⟩:=s
 have ho:hh.get? (M+870+61)=some (LJ (M+870) T):=hn (_,_) (.tail _ (.tail _ (.head _)))
 have hC:hh.get? (M+870+60)=some (pK (M+870) T):=hn _ (.head _)
 have hx:hh.get? x=some (xx (M+870+60) m):=hx
 have L0:xD (zu pw w) hh (Zo (.ref x)) (.ref (M+870+60)):=(tY hx).andThen .now
 have L1:=sub_self (M:=zu pw w) hC rfl rfl
 have L2:xD (zu pw w) hh (Slots.slotNamesOf (.ref (M+870+60))) [za "obj"]:=((tY (part:=none) hC).andThen .now).andThen .now
 have f0:=qt (M:=zu pw w) ho 0 (v:=.str (za "obj") (T+73)) rfl
 have f1:=qt (M:=zu pw w) ho 1 (v:=.ref (M+870+60)) rfl
 have f3:=qt (M:=zu pw w) ho 3 (v:=.builtin "proto.slot#set") rfl
 have f4:=qt (M:=zu pw w) ho 4 (v:=.int 0 0) rfl
 refine vG KF.slot_mset.plain KF.entry_mset (KF.slot_mset.check _ _ _ _ _ _ _ _ ⟨_,ho,rfl⟩ (KF.args_mset _ _ _) ?_)
 have f5:xD (zu pw w) hh (descrItself (.ref (M+870+61))) [.ref (M+870+61)]:=((tY (part:=none) ho).andThen .now).andThen (te ⋯)
 repeat lk
 refine⟨xR _ (by decide +kernel),codeAny_builtin KF.entry_slotset ?_⟩
 unfold Builtin.«proto.slot#set» Slots.target
 repeat lk
 exact wpAny_updatePart hx (wpAny_pure (h _ (zW hh x _) (zP _ hx rfl)))
theorem IC(X:(KF w.params).In s.heap)(hn:∀e∈CL w.params (M+870) T v,s.heap.get? e.1=some e.2)(hx:s.heap.get? x=some (xx (M+870+60) m))(h:∀h',yo x s.heap h'→h'.get? x=some (iO (M+870+60) m a)→Q () {s with heap:=h',toks:=s.toks+1}):
  zr (zu pw w) A (setAttr (.ref x) (za "obj") a) Q E s:=by
 obtain⟨hh,g,dr,t,os⟩:=s
 have hC:hh.get? (M+870+60)=some (pK (M+870) T):=hn _ (.head _)
 have hx:hh.get? x=some (xx (M+870+60) m):=hx
 have L0:xD (zu pw w) hh (Zo (.ref x)) (.ref (M+870+60)):=(tY hx).andThen .now
 have l1:xD (zu pw w) hh (ut (.ref (M+870+60)) "__setattr__") (some (.builtin "object.__setattr__")):=w5 X hn [1,1,2] ⋯
 have l2:xD (zu pw w) hh (Wv (.ref (M+870+60)) (.type "object")) true:=w5 X hn [1] ⋯
 have l3:xD (zu pw w) hh (mroOf (.ref (M+870+60))) [.ref (M+870+60),.type "object"]:=QO hC rfl
 have l4:xD (zu pw w) hh (ut (.ref (M+870+60)) (za "obj")) (some (.ref (M+870+61))):=w5 X hn [1,1,2] ⋯
 have l5:xD (zu pw w) hh (storeTaker? (some (.ref (M+870+61)))) (some (.ref (M+870+61))):=w5 X hn [3] ⋯
 have l6:xD (zu pw w) hh (Zo (.ref (M+870+61))) (.type "member_descriptor"):=w5 X hn [3] ⋯
 refine zb (Cq (zb (zb (zb (L0 _ _ _ _ (fun U U e=>e) (l1 _ _ _ _ (fun U U e=>e) (zV ?_)))))))
 refine zc (PySem.F.store_object.slot.bind ..) (zb (wpAny_pure (zb (yL ?_))))
 have SF:=PySem.F.store_object
 refine vG SF.slot.plain SF.entry (@check_slot (zu pw w) _ _ _ "object.__setattr__" "object" "__setattr__" (.ref x) [.str (za "obj") t,a] [] _ SF.kind SF.split (L0.andThen l2) (SF.args (.ref x) (.str (za "obj") t) a) ?_)
 refine(?_:zr _ _ (Builtin.«object.__setattr__» ⟨[.ref x,.str (za "obj") t,a],[]⟩) _ _ _)
 refine zc (osa_eq ..) (zc (refuse_eq ..) ?_)
 refine zb (zb (L0.at (zb (l3.at ?_))))
 refine zc (refuse_only _ (l:=[.ref (M+870+60),.type "object"]) ⋯) (wpAny_pure (zb (L0.at (zb (l4.at (zb (l5.at ?_)))))))
 have S:=KF.slot_mset
 refine zb (wpAny_rule (zb (zV (zb (zb (l6.at ((te S.lookup).at (zV ?_))))))))
 refine zc (S.bind ..) (zb (wpAny_pure (zb (yL (jJ (s:=⟨hh,g,dr,t+1,os⟩) (a:=a) hn hx fun h' b e=>?_)))))
 exact wpAny_pure (wpAny_pure (wpAny_pure (wpAny_pure (h h' b e))))
theorem KS(P:zp)(M T:Nat)(x a:zi):qN (rF P (M+870) T) ⟨[x,a],[]⟩=pure [(za "self",x),(za "obj",a)]:=⋯
noncomputable def xI(P:zp)(M T L t:Nat)(v a:zi):XS:=⟨(L+870+1,xx (M+870+60) (L+870))::(CL P (M+870) T v++[(L+870+2,{cls:=.type "frame",dict:=none,data:=.dict #[⟨zz P (za "self"),.str (za "self") t,.ref (L+870+1)⟩,⟨zz P (za "obj"),.str (za "obj") (t+1),a⟩] 2,slots:=#[]})]),1,t+2⟩
theorem E0{w:ya}{A:y1}{s:zg}{M T L:Nat}{v a:zi}{R:Zr→zg→Prop}(hd:A.depth+80<recursionLimit)(X:(KF w.params).In s.heap)(hn:∀e∈CL w.params (M+870) T v,s.heap.get? e.1=some e.2)(hl:s.heap.NoLimit)(hL:s.heap.objs.size=L+870)(h:∀s',(∃h tk,s'={s with heap:=h,toks:=tk})→(∀b o,s.heap.get? b=some o→s'.heap.get? b=some o)→s'.heap.get? (L+870+1)=some (iO (M+870+60) (L+870) a)→R (.ok (.ret (.ref (L+870+1)))) s'):
  y4 (zu pw w) A (.call (.ref (M+870+60)) ⟨[a],[]⟩) R s:=by
 obtain⟨hh,g,dr,t,os⟩:=s
 have hL:hh.objs.size=L+870:=hL
 refine make_core (AU X hn) (Fg X hn) (AX X hn) (.inl rfl) (zc hL ?_)
 have kp:∀b o,hh.get? b=some o→((hh.push xf).push (xx (M+870+60) (L+870))).get? b=some o:=fun b o e=>zq _ (zq _ e)
 have X1:(KF w.params).In ((hh.push xf).push (xx (M+870+60) (L+870))):=fun b o e=>kp b o (X b o e)
 have hn1:∀e∈CL w.params (M+870) T v,((hh.push xf).push (xx (M+870+60) (L+870))).get? e.1=some e.2:=fun e m=>kp _ _ (hn e m)
 have hx1:((hh.push xf).push (xx (M+870+60) (L+870))).get? (L+870+1)=some (xx (M+870+60) (L+870)):=by refine xv hL ?_;heap_get
 have hs1:((hh.push xf).push (xx (M+870+60) (L+870))).objs.size=L+870+2:=by exact zc (xu ..) (zc (xu ..) (zc hL rfl))
 generalize hq:(hh.push xf).push (xx (M+870+60) (L+870))=h1 at kp X1 hn1 hx1 hs1 ⊢
 have hu:(A.under (.builtin "type.__call__" ⟨[.ref (M+870+60),a],[]⟩)).depth+60<recursionLimit:=by
  have:(A.under (.builtin "type.__call__" ⟨[.ref (M+870+60),a],[]⟩)).depth=A.depth+(Code.builtin "type.__call__" ⟨[.ref (M+870+60),a],[]⟩).weight:=rfl
  have:(Code.builtin "type.__call__" ⟨[.ref (M+870+60),a],[]⟩).weight≤3:=vg ⋯
  omega
 refine(?_:y4 _ (A.under (.builtin "type.__call__" ⟨[.ref (M+870+60),a],[]⟩)) (.call (.ref (M+870+16)) ⟨[.ref (L+870+1),a],[]⟩) _ _)
 generalize A.under (.builtin "type.__call__" ⟨[.ref (M+870+60),a],[]⟩)=A1 at hu ⊢
 have ho:h1.get? (M+870+16)=some (mF (M+870) "__init__" 2 15 [] .none):=hn1 (_,_) (.tail _ (.tail _ (.tail _ (.head _))))
 have hc:h1.get? (M+870+15)=some (mC (M+870) T "__init__" 10 17 22 791):=hn1 (_,_) (.tail _ (.tail _ (.tail _ (.tail _ (.head _)))))
 refine uP (fd:=rF w.params (M+870) T) (body:=BI) (zN 6855360259666 [A1.depth,recursionLimit] hu rfl) ho rfl ⋯ ⋯ ⋯ ⟨_,_,_,T+17+1,rfl,hc,rfl,⋯⟩ (x8 (KS _ _ _ _ _) ?_)
 have hne:∀e∈CL w.params (M+870) T v,e.1≠L+870+1:=fun e m z=>by
  have:=hn e m
  rw[z]at this
  have:L+870+1<hh.objs.size:=zY this
  omega
 have X0:XR (L+870+2) (KF w.params) ⟨h1,g,dr,t,os⟩ (([10,10,10,10,10,10]:List Nat),(⟨(L+870+1,xx (M+870+60) (L+870))::CL w.params (M+870) T v,0,t⟩:XS)).2 ⟨h1,g,dr,t,os⟩:=by
  refine XR.start X1 hs1 (fun e m=>?_) (fun e m=>?_) ?_
  ·rcases zn.mp m with rfl|m
   ·exact hx1
   ·exact hn1 e m
  ·rcases zn.mp m with rfl|m
   ·show 870≤L+870+1;exact Tg 0x1133663350036633 [L] rfl
   ·exact DG e m
  ·refine tB.mpr ⟨fun m=>?_,rn⟩
   exact zt (zB.mp m) fun e m z=>hne e m z
 have hd1:A1.in1.depth+48<recursionLimit:=by exact zN 0x63c2350263023502 [A1.depth,recursionLimit] hu rfl
 refine UO (A:=A1.in1) hd1 (eI w.params (M+870) T (L+870+2)) X0 ⋯ fun s1 Y1=>?_
 have e1:(CT (Qc w (L+870+2) (vV (rF w.params (M+870) T).scope (rF w.params (M+870) T).globals (rF w.params (M+870) T).closure [(za "self",.ref (L+870+1)),(za "obj",a)] ((rF w.params (M+870) T).qualname ++ ".<locals>.") (some (M+870+16)) (rF w.params (M+870) T).code none (rF w.params (M+870) T).builtins) (([10,10,10,10,10,10]:List Nat),(⟨(L+870+1,xx (M+870+60) (L+870))::CL w.params (M+870) T v,0,t⟩:XS))))=([10,10],xI w.params M T L t v a):=⋯
 rw[e1]at Y1
 have nl:∀{s2:zg},XR (L+870+2) (KF w.params) ⟨h1,g,dr,t,os⟩ (xI w.params M T L t v a) s2→s2.heap.NoLimit:=fun Y=>by
  refine zt hl fun mc p q=>?_;clear hl
  refine⟨mc,Zx p fun o e=>Y.keep _ _ (kp _ _ e) fun m=>?_,q⟩
  have m:(2:Nat)∈(xI w.params M T L t v a).nw.map (·.1):=m
  have ge:∀{n:Nat},870≤n→2≠n:=fun h z=>absurd (z▸h) (by decide)
  rcases zn.mp m with q|m
  ·exact ge (yv (vp 870 L) (wY _ 1)) q
  refine zt (zB.mp m) fun e m q=>?_
  rcases zv.mp m with m|m
  ·exact ge (DG e m) q.symm
  ·rw[zd.mp m]at q
   exact ge (yv (vp 870 L) (wY _ 2)) q.symm
 refine⟨nl Y1,W8 ?_⟩
 have hd2:(A1.deeper (eI w.params (M+870) T (L+870+2))).depth+48<recursionLimit:=by exact zN 0x63c23502630231135002 [A1.depth,recursionLimit] hu rfl
 refine zc KU (zO (Zk (UO hd2 a Y1 ⋯ fun s2 Y2=>?_) ⋯))
 refine UO hd2 (.ref (L+870+1)) Y2 ⋯ fun s3 Y3=>?_
 replace Y3:XR (L+870+2) (KF w.params) ⟨h1,g,dr,t,os⟩ (xI w.params M T L t v a) s3:=Y3
 have gx:=(Y3.ent 0 _ _ rfl).1
 have hn3:∀e∈CL w.params (M+870) T v,s3.heap.get? e.1=some e.2:=fun e m=>by
  obtain⟨i,hi,q⟩:=vq.mp m
  refine(Y3.ent (i+1) e.1 e.2 ?_).1
  refine(?_:(((L+870+1,_)::(CL w.params (M+870) T v++[_]):List (zI×Obj)))[i+1]?=some e)
  exact zc List.getElem?_cons_succ (zc (yu hi) (zc (zC hi) (zc q rfl)))
 have k3:∀b o,hh.get? b=some o→s3.heap.get? b=some o:=fun b o e=>by
  have lt:b<L+870:=hL▸zY e
  by_cases mb:b∈(CL w.params (M+870) T v).map (·.1)
  ·refine zt (zB.mp mb) fun p m z2=>?_;subst z2
   have:=hn p m
   have this:hh.get? p.1=some p.2:=this
   rw[e]at this
   cases this
   exact hn3 p m
  ·refine Y3.keep b o (kp b o e) fun m=>?_
   have m:b∈(((L+870+1,xx (M+870+60) (L+870))::(CL w.params (M+870) T v++[(L+870+2,_)]):List (zI×Obj))).map (·.1):=m
   rw[zU,yc]at m
   rcases zn.mp m with q|m
   ·have q:b=L+870+1:=q
    exact absurd (q▸lt) (Un.mpr (wY (L+870) 1))
   ·rcases zv.mp m with m|m
    ·exact mb m
    ·have q:b=L+870+2:=zd.mp m
     exact absurd (q▸lt) (Un.mpr (wY (L+870) 2))
 refine IC (T:=T) (v:=v) Y3.frag hn3 gx fun h' b e=>qb ⟨rfl,?_⟩
 refine yf Y3.rest fun h3 q3=>h _ ⟨h',_,by exact zc q3 rfl⟩ (fun c o z=>?_) e
 have lt:c<L+870:=hL▸zY z
 refine(?_:h'.get? c=some o)
 exact zc (b.2 c fun q=>absurd (q▸lt) (Un.mpr (wY (L+870) 1))) (k3 c o z)
end
section
set_option tactic.hygienic true
open Builtin Builtin.ObjectAttr Builtin.Getset_descriptor
section
variable {w:ya} {A:y1} {s:zg} {M T m:Nat} {v a:zi} (hn:∀e∈CL w.params (M+870) T v,s.heap.get? e.1=some e.2) {x:zI} (hx:s.heap.get? x=some (iO (M+870+60) m a))
include hn hx
theorem jK(h:R (.ok (.ret a)) s):y4 (zu pw w) A (.call (.builtin "member_descriptor.__get__") ⟨[.ref (M+870+61),.ref x,tp],[]⟩) R s:=by
 obtain⟨hh,g,dr,t,os⟩:=s
 have ho:hh.get? (M+870+61)=some (LJ (M+870) T):=hn (_,_) (.tail _ (.tail _ (.head _)))
 have hC:hh.get? (M+870+60)=some (pK (M+870) T):=hn _ (.head _)
 have hx:hh.get? x=some (iO (M+870+60) m a):=hx
 unfold LJ at ho
 have L0:xD (zu pw w) hh (Zo (.ref x)) (.ref (M+870+60)):=(tY hx).andThen .now
 have L1:=sub_self (M:=zu pw w) hC rfl rfl
 have L2:xD (zu pw w) hh (Slots.slotNamesOf (.ref (M+870+60))) [za "obj"]:=((tY (part:=none) hC).andThen .now).andThen .now
 have f0:=qt (M:=zu pw w) ho 0 (v:=.str (za "obj") (T+73)) rfl
 have f1:=qt (M:=zu pw w) ho 1 (v:=.ref (M+870+60)) rfl
 have f2:=qt (M:=zu pw w) ho 2 (v:=.builtin "proto.slot") rfl
 have f4:=qt (M:=zu pw w) ho 4 (v:=.int 0 0) rfl
 refine vG KF.slot_mem.plain KF.entry_mem (KF.slot_mem.check _ _ _ _ _ _ _ _ ⟨_,ho,rfl⟩ (KF.args_mem _ _ _) ?_)
 unfold Builtin.«member_descriptor.__get__» descrGet
 refine zc (dga_obj ..) (zb (wpAny_pure ?_))
 unfold descrGetter descrCheckInstance descrNameAndClass isInstance
 repeat lk
 refine⟨xR _ (by decide +kernel),codeAny_builtin KF.entry_slot ?_⟩
 unfold Builtin.«proto.slot» Slots.target
 repeat lk
 exact h
end
theorem i6(X:(KF w.params).In s.heap)(hn:∀e∈CL w.params (M+870) T v,s.heap.get? e.1=some e.2)(hx:s.heap.get? x=some (iO (M+870+60) m (.str u t)))(h:Q (.str u t) {s with toks:=s.toks+1}):zr (zu pw w) A (W7 (.ref x) (za "obj") ex) Q E s:=by
 obtain⟨hh,g,dr,tk,os⟩:=s
 have hx:hh.get? x=some (iO (M+870+60) m (.str u t)):=hx
 have L0:xD (zu pw w) hh (Zo (.ref x)) (.ref (M+870+60)):=(tY hx).andThen .now
 have L1:xD (zu pw w) hh (ut (.ref (M+870+60)) "__getattribute__") (some (.builtin "object.__getattribute__")):=w5 X hn [1,1,2] ⋯
 have L2:xD (zu pw w) hh (find (.ref x) (.ref (M+870+60)) (za "obj")) (.bind (.builtin "member_descriptor.__get__") (.ref (M+870+61))):=w5 X hn [1,1,2,3,3] ⋯
 have L3:xD (zu pw w) hh (ut (.ref (M+870+60)) "__getattr__") none:=w5 X hn [1,1,2] ⋯
 unfold W7 getAttrBy
 refine zb (Cq (zV (zb (L0.at (zb (L1.at ?_))))))
 show zr _ _ (getAttrEveryday _ _ _) _ _ _
 refine zb (wpAny_onRaise (k7 (codeAny_builtin F.plainObj_entry_getattr_hooked ?_)))
 refine zb (wpAny_pure (zb (L0.at (zb (L2.at (zb (L3.at ?_)))))))
 show zr _ _ (holding [.ref (M+870+61)] (call (.builtin "member_descriptor.__get__") [.ref (M+870+61),.ref x,.ref (M+870+60)]) >>= ret) _ _ _
 refine zb (zV (yL (jK (s:=⟨hh,g,dr,tk+1,os⟩) hn hx (wpAny_pure ?_))))
 show zr _ _ (handedOut (.str u t)) _ _ _
 exact zc (handedOut_of ⋯) (wpAny_pure h)
end
section
section
variable {x:Cx} {fr:List (Str×AV)} {H:List AObj} {s:zg}
theorem gL(S:St x fr H s)(ho:s.heap.get? f=some fo)(hd:fo.data=.func fd)(hcd:s.heap.CodeRec fd.code fd.qualname)(hb:fd.body=.expr body)(hbind:Ve s fd args binds)(hB:Zj x.ρ s.heap bavs binds)(C:Capt x.ρ x.δ s.heap fd.scope.names fd.closure frc)(hcons:∀p∈fd.scope.names,fd.scope.names.lookup p.1=some p.2)(hl:∀p∈bavs,fd.scope.names.lookup p.1=some .local∨fd.scope.names.lookup p.1=some .cell)(hco:fd.scope.isCoroutine=false)(hgen:fd.scope.isGenerator=false)(hk:fd.scope.kind=.function)(room:x.A.depth<recursionLimit)(h:∀env oc s1,EnvOk fd.scope fd.globals fd.builtins env oc→env.frame=some env.locals→St (x.at' (x.A.deeper env) env oc [] (env.locals::x.fs)) (vI frc bavs) H s1→Chg x s s1→s.heap.get? env.locals=none→(∀c∈oc,s.heap.get? c=none) →
   zr (zu pw x.w) (x.A.deeper env) (zR body env) (fun v s'=>R (.ok (.ret v)) s')
    (fun e s'=>zr (zu pw x.w) (x.A.deeper env) (Cs env e) (fun U s''=>R (.error e) s'') (fun e' s''=>R (.error e') s'') s') s1):
  y4 (zu pw x.w) x.A (.call (.ref f) args) R s:=by
 refine kla_callFunE room ho hd hco hgen hb hcd (hbind _ _ _ _ ?_)
 refine u5 (x:={x with A:=x.A.in1}) (fr:=fr) (H:=H) ⟨S.base,S.apart,S.kinds,S.frame,S.objs,S.lim,S.nodup,S.own,S.cnod,S.opn,S.ocs,S.ol,S.cex,S.frs⟩ C hcons hk hB hl fun env oc s1 e0 he S1 c1 n1 n2 hlim U=>⟨hlim,kla_codeExpr ?_⟩
 exact h env oc s1 he (by refine zc e0 ?_;rfl) ⟨(S1 _).base,(S1 x.A).apart,(S1 x.A).kinds,(S1 x.A).frame,(S1 x.A).objs,(S1 x.A).lim,(S1 x.A).nodup,(S1 x.A).own,(S1 x.A).cnod,(S1 x.A).opn,(S1 x.A).ocs,(S1 x.A).ol,(S1 x.A).cex,(S1 x.A).frs⟩ ⟨c1.rest,c1.keep⟩ n1 n2
end
noncomputable def ji(e:Expr):Expr:=wx (xE e) 1
noncomputable def Vy(e:Expr):Expr:=wx (xE e) 0
noncomputable def dI(e:Expr):Arguments:=(xM e).2.2.2.2
noncomputable def qG(e:Expr):qv:=(xM e).2.2.2.1
noncomputable def oO(e:Expr):ZJ:=e.pos
noncomputable abbrev LX:Expr:=ji (wV (zm yC 10))
theorem IY:LX=.Lambda (dI LX) (Vy LX) (qG LX) (oO LX):=⋯
noncomputable abbrev dH(qual:Str)(cr:zI)(pm cdv ct:zi):ZK:=kla_fn (za "<lambda>") qual (dI LX) (Vy LX) (qG LX) [(qh,cr)] pm cdv ct
noncomputable abbrev AN:Str:=za "one"
noncomputable abbrev AM:Str:=za "two"
noncomputable abbrev N9:List (Str×NameKind):=(qG LX).names
noncomputable abbrev Cg(w:ya):Stat:=Ze w.params N9 [] (bX w) fun U U=>none
noncomputable abbrev Nw(p q:Str):y3:=vI [(qh,.list [.obj 0,.obj 2])] [(AN,.str p),(AM,.str q)]
section
variable (w:ya) (H:Hp) (p q:Str)
theorem ND(k:AV→Hp→Prop):(ev (Cg w) 20).e (Vy LX) (Nw p q) H k =
  QR (Cg w) (.obj 0) (za "names") H fun g=>yD (qi (KF w.params) g) (W2 (Cg w) g [.obj 0,.str (za "f"),.str p] [] H fun a H1 =>
   QR (Cg w) (.obj 0) (za "names") H1 fun g=>yD (qi (KF w.params) g) (W2 (Cg w) g [.obj 0,.str (za "f"),.str q] [] H1 fun b H2=>Ua .Sub a b fun c=>k c H2)):=⋯
theorem HD(k:AV→Hp→Prop):yD (qi (KF w.params) (.ref 823)) (W2 (Cg w) (.ref 823) [.obj 0,.str (za "f"),.str p] [] H k)=cG w [.obj 0,.str (za "f"),.str p] [] H k:=⋯
theorem HE(i j:Int)(k:AV→Prop):Ua .Sub (.int i) (.int j) k=k (.int (i-j)):=⋯
theorem KR(qual:Str)(cr:zI)(pm cdv ct a b:zi):qN (dH qual cr pm cdv ct) ⟨[a,b],[]⟩=pure [(AN,a),(AM,b)]:=⋯
end
theorem hU(h0:H[0]?=some (RD w ns 1))(h1:H[1]?=some (.dict f0))(hm:MemoOk ns cs f0)(hS:SetOk ns)(hc:cs.length≤300)(hp:p∈cs)(h:k (.int (y6 ns p)) H):
  QR (Cg w) (.obj 0) (za "names") H fun g=>yD (qi (KF w.params) g) (W2 (Cg w) g [.obj 0,.str (za "f"),.str p] [] H k):=by
 refine zw (iJ (f:=823) h0 ⋯ ⋯) (zw (HD ..) ?_)
 refine⟨rfl,0,1,za "f",p,ns,f0,rfl,h0,h1,hS.two,by have:=hm.len;exact vB 0x61130512c336186a0535 [f0.length,cs.length] hc this rfl,fun m q=>by have:=hS.len.2 m q;exact zN 0x64235186a0535 [m.length] this rfl,?_⟩
 exact zc (hm.has p hp) h
theorem MD{names:List (Str×NameKind)}(h:names.all (fun p=>lk p.1 names==some p.2)=true):∀p∈names,names.lookup p.1=some p.2:=fun p hp=>by
 have:=zJ.mp h p hp
 rw[beq_iff_eq,vE]at this;exact this
theorem ME{names:List (Str×NameKind)}{bavs:List (Str×AV)}(h:bavs.all (fun p=>lk p.1 names==some .local||lk p.1 names==some .cell)=true):∀p∈bavs,names.lookup p.1=some .local∨names.lookup p.1=some .cell:=fun p hp=>by
 have:=zJ.mp h p hp
 rw[wj,beq_iff_eq,beq_iff_eq,vE]at this
 exact this
theorem Capt.one(hf:names.all (fun p=>p.2 != .free||p.1==n)=true)(hn:names.lookup n=some .free)(hc:h.get? c=some {cls:=.type "cell",data:=.cell (some v)})(hv:y2 ρ h av v)(hd:c∉δ):
  Capt ρ δ h names [(n,c)] [(n,av)] where
 all m e:=by
  have:=zJ.mp hf _ (wG e)
  have e:m=n:=by simpa using this
  subst e
  exact⟨c,some v,by simp,hc⟩
 val m a e:=by
  rw[wQ]at e
  cases q:zZ m n with
  |true =>
   have q:=yk.mp q
   subst q
   have e:some av=some a:=by
    have z:zZ m m=true:=yk.mpr rfl
    rw[z]at e;exact e
   replace e:=zf e;subst e
   exact⟨hn,c,v,by simp,hc,hv⟩
  |false=>rw[q]at e;exact nS e
 far a m:=by
  have:a=c:=by simpa using m
  subst this
  exact⟨hd,_,hc⟩
 nd:=by simp
theorem MH:(qG LX).kind=.function:=⋯
theorem oN{n:Nat}{x:Cx}(B:Base n x)(hn:n<920){fr:y3}{H:Hp}{s:zg}(S:St x fr H s){ns cs:List Str}{f0:List (Str×AV)}{p q qual:Str}{tp tq:Tok}{lf cr:zI}{fo:xK}{pm cdv ct rv:zi}(h0:H[0]?=some (RD x.w ns 1))(h1:H[1]?=some (.dict f0))(hm:MemoOk ns cs f0)(hS:SetOk ns)(hc:cs.length≤300)(hp:p∈cs)(hq:q∈cs)(ho:s.heap.get? lf=some fo)(hd:fo.data=.func (dH qual cr pm cdv ct))(hcd:s.heap.CodeRec cdv qual)(hcell:s.heap.get? cr=some {cls:=.type "cell",data:=.cell (some rv)})(hrv:y2 x.ρ s.heap (.list [.obj 0,.obj 2]) rv)(hcr:cr∉x.δ){Q:zi→zg→Prop}{E:zi→zg→Prop}(g:∀t s',St x fr H s'→Kept x s s'→Q (.int (y6 ns p-y6 ns q) t) s'):zr (zu pw x.w) x.A (call (.ref lf) [.str p tp,.str q tq]) Q E s:=by
 refine yL (gL S (args:=⟨[.str p tp,.str q tq],[]⟩) (bavs:=[(AN,.str p),(AM,.str q)]) (frc:=[(qh,.list [.obj 0,.obj 2])]) ho hd hcd rfl (qx (KR qual cr pm cdv ct _ _))
  ⟨_,_,rfl,⟨tp,rfl⟩,_,_,rfl,⟨tq,rfl⟩,rfl⟩ (Capt.one ⋯ (by refine xv (vE ..) ?_;kernel_rfl) hcell hrv hcr) (MD ⋯) (ME ⋯) ⋯ ⋯ ⋯ (xj B.room.de (by exact zN 0x39833523e83352 [n] hn rfl)) fun env oc s1 eo hf S1 C1 m1 m2=>?_)
 have Bx:Base (n+1) (x.at' (x.A.deeper env) env oc [] (env.locals::x.fs)):=B.deeper hf (by refine zc eo.sc (zc (show(dH qual cr pm cdv ct).scope.kind=.function from MH) ?_);decide)
 have Ft:Fits (Cg x.w) (x.at' (x.A.deeper env) env oc [] (env.locals::x.fs)):=Yj Bx (by refine zc eo.sc ?_;kernel_rfl) (by exact zc eo.sc rfl) ⋯
  (fun m hm=>by exact fT hm) (by refine zc eo.gl ?_;rfl) (by refine zc eo.bi ?_;rfl) (bW Bx (zN 0x39833523a233113502 [n] hn rfl)) xX
 have R:=(yl Ft 20).e (Vy LX) (Nw p q) H (fun a H'=>a=.int (y6 ns p-y6 ns q)∧H'=H) (by
  refine zw (ND ..) (hU h0 h1 hm hS hc hp (hU h0 h1 hm hS hc hq ?_))
  refine zw (HE ..) ?_
  exact⟨rfl,rfl⟩)
 refine R s1 S1 _ _ fun v a H' s' z cv S' K'=>zK z fun z0 z1=>?_;clear z;subst z0;subst z1
 refine yf cv fun t z1=>?_;clear cv;subst z1
 have c2:Chg x s s':=Chg.of_kept C1 K' m1 m2
 exact g t s' (S.back S' c2) c2.kept
end
section
theorem kC(h1:xD M s.heap (Zo (.ref x)) C)(h2:xD M s.heap (ut C name) (some f))(h3:xD M s.heap (G3 f (.ref x)) (f,[.ref x]))(h:zr M A (call f (.ref x::args)) (fun v=>Q (some v)) E s):zr M A (callSpecialIfBound? (.ref x) name args) Q E s:=by
 refine zV (zb (zb (zb (h1.here (h2.here ?_)))))
 refine zb (vU (wpAny_ite ?_))
 have fin:zr M A (call f ([.ref x]++args) >>= fun v=>pure (some v)) Q E s:=zb (wE h (fun v s' h'=>wpAny_pure h') fun U U h'=>h')
 split
 ·exact zb (h3.here (wpAny_pure (by exact fin)))
 ·exact k5 (zb (h3.here (wpAny_pure (by exact fin))))
noncomputable abbrev MY(N:Nat):ZK:=wU (mF N "__lt__" 3 23 [(za "mycmp",N+1)] (.ref (N+17)))
noncomputable abbrev BT:List yX:=wt (zm (x6 Wq) 3)
noncomputable def aV(e:Expr):Expr:=wx (xE e) 0
noncomputable def aP(e:Expr):ZJ:=e.pos
noncomputable def nP(e:Expr):ZJ:=e.pos
noncomputable def N4(e:Expr):Expr:=wx (xE e) 0
noncomputable def M8(e:Expr):Expr:=wx (xE e) 1
noncomputable def N3(e:Expr):ZJ:=e.pos
noncomputable def gN(e:Expr):Expr:=wx (xE e) 2
noncomputable abbrev QN:Str:=za "self"
noncomputable abbrev Vu:Str:=za "other"
noncomputable abbrev IW:Str:=za "mycmp"
noncomputable abbrev MA:Str:=za "obj"
noncomputable abbrev Lc:Expr:=TZ (zm BT 0)
noncomputable abbrev XC:Expr:=N4 Lc
noncomputable abbrev NA(n:Str)(e:Expr):Expr:=.Attribute (.Name n (nP (aV e))) MA (aP e)
theorem KN:BT=[.Return (some (.Compare (.Call (.Name IW (tr XC)) [NA QN (ji XC),NA Vu (gN XC)] [] (qa XC)) [.Lt] [M8 Lc] (N3 Lc))) (zm BT 0).pos]:=⋯
def Hd(δ:List zI)(l:List (zI×Obj))(h:xO):Prop:=∀e∈l,h.get? e.1=some e.2∧e.1∉δ∧um e.2=false
theorem Hd.chg(D:Hd x.δ l s.heap)(C:Chg x s s'):Hd x.δ l s'.heap:=fun e m =>
 let⟨a,b,c⟩:=D e m
 ⟨C.keepN a b c,b,c⟩
noncomputable abbrev KT:List (Str×NameKind):=(bK (zm (x6 Wq) 3)).names
noncomputable abbrev Ly(w:ya):Stat:=Ze w.params KT [] FB fun U U=>none
noncomputable abbrev dR(a b v:zi):y3:=vI [(IW,.glob v)] [(QN,.glob a),(Vu,.glob b)]
theorem NT:(bK (zm (x6 Wq) 3)).kind=.function:=⋯
section
variable (w:ya) (H:Hp) (a b v:zi) (i:Int)
theorem Mb(k:AV→Hp→Prop):(ev (Ly w) 20).e (.Name IW (tr XC)) (dR a b v) H k=k (.glob v) H:=⋯
theorem L9(k:AV→Hp→Prop):(ev (Ly w) 20).e (.Name QN (nP (aV (ji XC)))) (dR a b v) H k=k (.glob a) H:=⋯
theorem Ma(k:AV→Hp→Prop):(ev (Ly w) 20).e (.Name Vu (nP (aV (gN XC)))) (dR a b v) H k=k (.glob b) H:=⋯
theorem Md(k:AV→Hp→Prop):(ev (Ly w) 20).e (M8 Lc) (dR a b v) H k=k (.int 0) H:=⋯
theorem Mc(k:Bool→Prop):bM .Lt (.int i) (.int 0) k=k (decide (i<0)):=⋯
theorem KQ(N:Nat):qN (MY N) ⟨[a,b],[]⟩=pure [(QN,a),(Vu,b)]:=⋯
end
noncomputable abbrev dG(qual:Str)(cr:zI)(pm cdv ct:zi):xK:={cls:=.type "function",data:=.func (dH qual cr pm cdv ct)}
noncomputable abbrev KJ(v:zi):xK:={cls:=.type "cell",data:=.cell (some v)}
structure KeyH(w:ya)(M T:Nat)(lf:zI)(qual:Str)(cr:zI)(pm ct rv:zi)(ca:zI)(co:xK)(δ:List zI)(h:xO):Prop where
 cl:Hd δ (CL w.params (M+870) T (.ref lf)) h
 lam:Hd δ [(lf,dG qual cr pm (.ref ca) ct),(cr,KJ rv),(ca,co)] h
 code:∃vs t,co.data=.fields vs∧vs[1]?=some (.str qual t)
theorem KeyH.chg(Y:KeyH w M T lf qual cr pm ct rv ca co x.δ s.heap)(C:Chg x s s'):KeyH w M T lf qual cr pm ct rv ca co x.δ s'.heap:=
 ⟨Y.cl.chg C,Y.lam.chg C,Y.code⟩
theorem Ay(B:Base n x)(hn:n<919)(S:St x fr H s)(h0:H[0]?=some (RD x.w ns 1))(h1:H[1]?=some (.dict f0))(hm:MemoOk ns cs f0)(hS:SetOk ns)(hc:cs.length≤300)(hp:p∈cs)(hq:q∈cs)(Y:KeyH x.w M T lf qual cr pm ct rv ca co x.δ s.heap)(I:Hd x.δ [(a1,iO (M+870+60) m1 (.str p tp)),(a2,iO (M+870+60) m2 (.str q tq))] s.heap)(hrv:y2 x.ρ s.heap (.list [.obj 0,.obj 2]) rv)(g:∀s',St x fr H s'→Kept x s s'→Q (.bool (decide (y6 ns p-y6 ns q<0))) s'):zr (zu pw x.w) x.A (call (.ref (M+870+24)) [.ref a1,.ref a2]) Q E s:=by
 have ho:=(Y.cl (_,_) (.tail _ (.tail _ (.tail _ (.tail _ (.tail _ (.head _))))))).1
 have hk:=(Y.cl (_,_) (.tail _ (.tail _ (.tail _ (.tail _ (.tail _ (.tail _ (.head _)))))))).1
 have hce:=Y.cl (_,_) (.tail _ (.tail _ (.tail _ (.tail _ (.tail _ (.tail _ (.tail _ (.head _))))))))
 refine yL (qU S (args:=⟨[.ref a1,.ref a2],[]⟩) (fd:=MY (M+870)) (body:=BT) (bavs:=[(QN,.glob (.ref a1)),(Vu,.glob (.ref a2))]) (frc:=[(IW,.glob (.ref lf))]) ho rfl ⟨_,_,_,T+25+1,rfl,hk,rfl,⋯⟩ ⋯ (qx (KQ _ _ _))
  ⟨_,_,rfl,rfl,_,_,rfl,rfl,rfl⟩ (Capt.one (v:=.ref lf) ⋯ (by refine xv (vE ..) ?_;kernel_rfl) hce.1 rfl hce.2.1) (MD ⋯) (ME ⋯) ⋯ ⋯ ⋯ (xj B.room.de (by exact zN 0x39733523e83352 [n] hn rfl)) fun env oc s1 eo hf S1 C1 n1 n2=>?_)
 have Bx:Base (n+1) (x.at' (x.A.deeper env) env oc [] (env.locals::x.fs)):=B.deeper hf (by refine zc eo.sc (zc (show(MY (M+870)).scope.kind=.function from NT) ?_);decide)
 have Ft:Fits (Ly x.w) (x.at' (x.A.deeper env) env oc [] (env.locals::x.fs)):=Yj Bx (by refine zc eo.sc ?_;kernel_rfl) (by refine zc eo.sc ?_;kernel_rfl) ⋯
  (fun m hm=>by exact fT hm) (by refine zc eo.gl ?_;kernel_rfl) (by refine zc eo.bi ?_;kernel_rfl) uO xX
 have Y1:=Y.chg C1
 have I1:=I.chg C1
 have hr1:=hrv.mono (S.nonMut C1.kept)
 refine zc KN ?_
 have ev:=yl Ft 20
 have tk:∀{z:Cx} {u:zg},Kept z u {u with toks:=u.toks+1}:=fun{z u}=>⟨⟨_,_,_,rfl⟩,fun a o e U=>⟨o,e,.refl o⟩⟩
 refine zO (qL (la ?_ ⋯))
 refine vm (ev.e (.Name IW (tr XC)) (dR (.ref a1) (.ref a2) (.ref lf)) H (fun a H'=>a=.glob (.ref lf)∧H'=H) (by refine zw (Mb ..) ?_;exact⟨rfl,rfl⟩) s1 S1 _ _ fun v a H' s2 z cv S2 K2=>?_)
 obtain⟨rfl,z⟩:=z
 replace z:=z.symm
 subst z
 have:=wo cv
 subst this
 refine callWith_function_kw (o:=dG qual cr pm (.ref ca) ct) (fd:=dH qual cr pm (.ref ca) ct) (w8 ⋯ ⋯ ?_)
 refine uv (YI (ev.e (.Name QN (nP (aV (ji XC)))) (dR (.ref a1) (.ref a2) (.ref lf)) H (fun a H'=>a=.glob (.ref a1)∧H'=H) (by refine zw (L9 ..) ?_;exact⟨rfl,rfl⟩) s2 S2 _ _ fun v a H' s3 z cv S3 K3=>?_))
 obtain⟨rfl,z⟩:=z
 replace z:=z.symm
 subst z
 have:=wo cv
 subst this
 have c3:Chg x s s3:=Chg.of_kept C1 (K2.trans K3) n1 n2
 refine i6 (w:=x.w) (Bx.K.keeps S3.base) (fun e m=>((Y.chg c3).cl e m).1) (I.chg c3 (_,_) (.head _)).1 ?_
 refine uv (YI (ev.e (.Name Vu (nP (aV (gN XC)))) (dR (.ref a1) (.ref a2) (.ref lf)) H (fun a H'=>a=.glob (.ref a2)∧H'=H) (by refine zw (Ma ..) ?_;exact⟨rfl,rfl⟩) {s3 with toks:=s3.toks+1} (S3.of_heap rfl) _ _ fun v a H' s4 z cv S4 K4=>?_))
 obtain⟨rfl,z⟩:=z
 replace z:=z.symm
 subst z
 have:=wo cv
 subst this
 have k4:=K2.trans (K3.trans (tk.trans K4))
 have c4:Chg x s s4:=Chg.of_kept C1 k4 n1 n2
 refine i6 (w:=x.w) (Bx.K.keeps S4.base) (fun e m=>((Y.chg c4).cl e m).1) (I.chg c4 (_,_) (.tail _ (.head _))).1 (Xs (wpAny_pure ?_))
 have Y4:=Y.chg c4
 refine yW Y4.code fun vs tq' hcd hcv=>?_
 have l1:=Y4.lam (_,_) (.head _)
 have l2:=Y4.lam (_,_) (.tail _ (.head _))
 have l3:=Y4.lam (_,_) (.tail _ (.tail _ (.head _)))
 refine⟨⟨l1.1,rfl⟩,?_⟩
 refine oN (x:=x.at' (x.A.deeper env) env oc [] (env.locals::x.fs)) Bx (zN 0x397335239833113502 [n] hn rfl) (s:={s4 with toks:=s4.toks+1}) (S4.of_heap rfl) h0 h1 hm hS hc hp hq l1.1 rfl ⟨ca,co,vs,tq',rfl,l3.1,hcd,hcv⟩ l2.1 (show y2 x.ρ s4.heap _ _ from hrv.mono (S.nonMut c4.kept)) l2.2.1 fun t s5 S5 K5=>ev.e (M8 Lc) (dR (.ref a1) (.ref a2) (.ref lf)) H (fun a H'=>a=.int 0∧H'=H) (by refine zw (Md ..) ?_;exact⟨rfl,rfl⟩) s5 S5 _ _ fun v a H' s6 z cv S6 K6=>?_
 obtain⟨rfl,z⟩:=z
 replace z:=z.symm
 subst z
 refine tR (ρ:=x.ρ) (a:=.int (y6 ns p-y6 ns q)) (b:=.int 0) (k:=fun b=>b=decide (y6 ns p-y6 ns q<0)) (by exact zw (Mc ..) rfl) ⟨t,rfl⟩ cv fun c hcc=>?_
 subst hcc
 have c6:Chg x s s6:=Chg.of_kept C1 (k4.trans (tk.trans (K5.trans K6))) n1 n2
 exact g s6 (S.back S6 c6) c6.kept
end
section
set_option tactic.hygienic true
theorem E3(B:Base n x)(hn:n<919)(hu:x.A.units<cLine)(S:St x fr H s)(h0:H[0]?=some (RD x.w ns 1))(h1:H[1]?=some (.dict f0))(hm:MemoOk ns cs f0)(hS:SetOk ns)(hc:cs.length≤300)(hp:p∈cs)(hq:q∈cs)(Y:KeyH x.w M T lf qual cr pm ct rv ca co x.δ s.heap)(I:Hd x.δ [(a1,iO (M+870+60) m1 (.str p tp)),(a2,iO (M+870+60) m2 (.str q tq))] s.heap)(hrv:y2 x.ρ s.heap (.list [.obj 0,.obj 2]) rv)(g:∀s',St x fr H s'→Kept x s s'→Q (decide (y6 ns p-y6 ns q<0)) s'):zr (zu pw x.w) x.A (keyLt' oneType' (.ref a1) (.ref a2)) Q E s:=by
 have X:=B.K.keeps S.base
 have hcl:=fun e m=>(Y.cl e m).1
 refine zc (keyLt'_oneType ..) (zc (oneLt'_eq ..) ?_)
 simp only[if_true]
 refine zb (wpAny_cRoomFor hu ?_)
 refine zb (kC (C:=.ref (M+870+60)) (f:=.ref (M+870+24)) ((tY (I (_,_) (.head _)).1).andThen .now) (MP X hcl) (AW X hcl _) ?_)
 exact Ay B hn S h0 h1 hm hS hc hp hq Y I hrv fun s' S' K'=>xQ (g s' S' K')
end
section
def qq(n:Nat)(lt:Nat→Nat→Bool){α:Type}:KasT α→(α→Prop)→Prop
 |.ret a,P=>P a
 |.ask i j k,P=>i<n∧j<n∧qq n lt (k (lt i j)) P
section
variable {n:Nat} {lt:Nat→Nat→Bool} {α β:Type}
theorem qq.bind{f:α→KasT β}{P:β→Prop}:∀{t:KasT α},qq n lt t (fun a=>qq n lt (f a) P)→qq n lt (t.bind f) P
 |.ret _,h=>h
 |.ask _ _ _,⟨a,b,h⟩=>⟨a,b,qq.bind h⟩
theorem qq.mono{P P':α→Prop}(hp:∀a,P a→P' a):∀{t:KasT α},qq n lt t P→qq n lt t P'
 |.ret a,h=>hp a h
 |.ask _ _ _,⟨a,b,h⟩=>⟨a,b,qq.mono hp h⟩
theorem qq.wp{I:zg→Prop}{cmp:Nat→Nat→(Bool→zg→Prop)→zg→Prop}(hc:∀i j,i<n→j<n→∀s (C:Bool→zg→Prop),I s→(∀s',I s'→C (lt i j) s')→cmp i j C s){P:α→Prop}{Q:α→zg→Prop}(hq:∀a s,P a→I s→Q a s):
  ∀{t:KasT α} {s:zg},qq n lt t P→I s→t.kasWp cmp Q s
 |.ret a,s,h,i=>hq a s h i
 |.ask x y k,s,⟨a,b,h⟩,i=>hc x y a b s _ i fun s' i'=>qq.wp hc hq h i'
end
theorem Dk{f m n:Nat}(e:f+1+m=n):m<n:=zN 6945288226386 [m,n,f] (ze e) rfl
theorem Dj{f m n:Nat}(e:f+1+m=n):f+(m+1)=n:=zE (zN 0x7611350071136050 [f,m,n] (ze e) rfl) (zN 0x7113600511370605 [n,f,m] (ze e.symm) rfl)
theorem DN{z o m:Nat}(e:z+o=m)(h:¬z≤m-1):o=0:=zE (dz 0x11380768275600135 [o,z,m,m-1] (ze e) (wX h) (ze (zh (vB 7156881445139 [m,z,o,m-1] (ze e) (wX h) rfl)).symm) rfl) (Tg 20499 [o] rfl)
theorem DO{z m:Nat}(e:z+0=m)(h:1≤m):¬z≤m-1:=Qy (vB 0x711350013607652 [m-1,z,m] (ze e.symm) (ze (zh h)) rfl)
theorem mJ{n m:Nat}(h:m<n):n-m=(n-(m+1))+1:=by
 exact xv (Nat.sub_sub ..) ((zh (Nat.sub_pos_of_lt h)).symm)
theorem jx(L M:List Nat)(a b:Nat):(L++a::b::M).toArray.swapIfInBounds (L.length+1) L.length=(L++b::a::M).toArray:=by
 apply rA
 intro i
 rw[getElem?_swapIB (by simp) (by simp)]
 simp only[vd]
 by_cases h1:L.length+1=i
 ·subst h1;simp
 ·by_cases h2:L.length=i
  ·subst h2;simp
  ·rcases Nat.lt_trichotomy i L.length with c|c|c
   ·simp[h1,h2,yu c]
   ·exact absurd c.symm h2
   ·refine yf (Nat.exists_eq_add_of_lt c) fun j z1=>?_;subst z1
    cases j with
    |zero=>exact absurd rfl h1
    |succ j =>
     refine zc (xa (vA c)) (zc (xa (vA c)) (zc (show L.length+(j+1)+1-L.length=j+2 by exact zE (zN 0x11311360700750213605 [L.length+(j+1)+1-L.length,j,L.length] (ze (zh (vA c))) rfl) (zN 0x76011311350700621350 [j,L.length+(j+1)+1-L.length,L.length] (ze (zh (vA c)).symm) rfl)) ?_))
     simp[h1,h2]
theorem kT(A R:List Nat)(x:Nat):∀(B2 B1:List Nat),lx (A++(B1++B2)++x::R).toArray (A.length+(B1.length+B2.length)) B2.length=(A++B1++x::(B2++R)).toArray:=by
 intro l0
 induction l0 with
 |nil =>
  intro B1
  simp[lx]
 |cons b B2 ih =>
  intro B1
  have ih:=(ih (B1++[b]))
  have s:=jx (A++B1) (B2++R) b x
  rw[zA B1,zG,ug,Nat.add_assoc,Nat.add_comm 1]at ih
  refine zc zS (zc (bubble_succ ..) ?_)
  rw[List.singleton_append]at ih
  refine zc ih (zc (show A.length+(B1.length+(B2.length+1))-B2.length=(A++B1).length+1 by rw[zG];exact zE (zN 0x11380706085011376005 [A.length+(B1.length+(B2.length+1))-B2.length,A.length,B1.length,B2.length] (ze (zh (Tg 73904096773 [B2.length,A.length,B1.length] rfl))) rfl) (zN 0x87011380605071136500 [A.length,B1.length,A.length+(B1.length+(B2.length+1))-B2.length,B2.length] (ze (zh (Tg 73904096773 [B2.length,A.length,B1.length] rfl)).symm) rfl)) (zc (Nat.add_sub_cancel ..) ?_))
  rw[←zA A,zA (A++B1)]
  exact s
theorem eC(A B R:List Nat)(x:Nat):lx (A++B++x::R).toArray (A.length+B.length) B.length=(A++x::B++R).toArray:=by
 have:=kT A R x B []
 simpa using this
theorem YU(A B R:List Nat):b6 (A++B++R).toArray A.length (A.length+B.length)=(A++B.reverse++R).toArray:=by
 unfold b6
 apply rA
 intro i
 rw[getElem?_mirror_all (by simp)]
 simp only[vd,uJ,zG,xo]
 by_cases h1:i<A.length
 ·exact zc (if_neg (by omega)) (zc (if_pos (zN 1697079378 [i,A.length,B.length] h1 rfl)) (zc (if_pos h1) (zc (if_pos (zN 1697079378 [i,A.length,B.length] h1 rfl)) (zc (if_pos h1) rfl))))
 ·by_cases h2:i<A.length+B.length
  ·refine zc (if_pos (by omega)) (zc (if_pos (by omega)) (zc (if_neg (by omega)) (zc (if_pos h2) (zc (if_neg h1) (zc (List.getElem?_reverse (by exact vB 0x785068072652 [i-A.length,B.length,i,A.length] h2 (ze (zh (xy h1))) rfl)) ?_)))))
   congr 1;omega
  ·exact zc (if_neg (by omega)) (zc (if_neg h2) (zc (if_neg h2) rfl))
section
variable (k:Nat→Bool)
noncomputable def zs(m:Nat):List Nat:=(zT m).filter fun i=>!k i
noncomputable def os(m:Nat):List Nat:=(zT m).filter k
noncomputable def TO(m:Nat):List Nat:=zs k m++os k m
noncomputable def qV(n m:Nat):Array Nat:=(TO k m++yZ m (n-m)).toArray
noncomputable def QS(i j:Nat):Bool:=!k i&&k j
variable {k}
theorem ak(m:Nat):zs k (m+1)=if k m then zs k m else zs k m++[m]:=by
 unfold zs
 refine zc aj (zc (ZL ..) ?_)
 cases h:k m<;>simp[h]
theorem be(m:Nat):os k (m+1)=if k m then os k m++[m]else os k m:=by
 unfold os
 refine zc aj (zc (ZL ..) ?_)
 cases h:k m<;>simp[h]
theorem Vx:∀m,(zs k m).length+(os k m).length=m:=by
 intro l0
 induction l0 with
 |zero =>
  exact rfl
 |succ m ih =>
  have:=ih
  refine zc (ak ..) (zc (be ..) ?_)
  cases h:k m<;>simp<;>omega
theorem Xh(m:Nat):(TO k m).length=m:=by exact zc zG (zc (Vx ..) rfl)
theorem lR{m i:Nat}(h:i∈zs k m):i<m∧k i=false:=by
 have:=He.mp h
 exact⟨wD.mp this.1,by simpa using this.2⟩
theorem nO{m i:Nat}(h:i∈os k m):i<m∧k i=true:=by
 have:=He.mp h
 exact⟨wD.mp this.1,this.2⟩
theorem U0{n m:Nat}(h:m<n):yZ m (n-m)=m::yZ (m+1) (n-(m+1)):=by
 exact zc (mJ h) (zc List.range'_succ rfl)
theorem pZ{n m i:Nat}(h:m≤i)(hi:i<n):(qV k n m).getD i 0=i:=by
 unfold qV
 refine zc uh ?_
 simp only[vd,uJ,Xh]
 refine zc (if_neg (Xc (zN 25957 [m,i] h rfl))) (zc (lP (dz 0x96087950872652 [i-m,n-m,i,n,m] hi (ze (zh h)) (ze (zh (vB 108164453 [m,n,i] h hi rfl)).symm) rfl)) ?_)
 simp;exact zE (zN 1969256016 [m,i-m,i] (ze (zh h)) rfl) (zN 1728411141 [i,m,i-m] (ze (zh h).symm) rfl)
theorem TF{n m i:Nat}(h:i<m):(qV k n m).getD i 0<m∧(k ((qV k n m).getD i 0)=true↔(zs k m).length≤i):=by
 have hz:=Vx (k:=k) m
 unfold qV
 refine zc uh ?_
 simp only[vd,uJ,Xh,if_pos h]
 refine zc uJ ?_
 split
 ·rename_i q
  refine zc (zC q) ?_
  have:=lR (YL q)
  refine⟨this.1,?_⟩
  simp only[rL,this.2]
  simp;exact zN 6628946 [i,(zs k m).length] q rfl
 ·rename_i q
  have q':i-(zs k m).length<(os k m).length:=dz 0x79506908872652 [i-(zs k m).length,(os k m).length,i,m,(zs k m).length] h (ze hz.symm) (ze (zh (xy q))) rfl
  refine zc (zC q') ?_
  have:=nO (YL q')
  refine⟨this.1,?_⟩
  simp only[rL,this.2]
  simp;exact zN 25957 [(zs k m).length,i] (xy q) rfl
theorem gP{n m:Nat}(h:m<n)(hk:k m=true∨os k m=[]):qV k n (m+1)=qV k n m:=by
 unfold qV TO
 refine zc (U0 h) (zc (ak ..) (zc (be ..) ?_))
 cases q:k m with
 |true=>simp
 |false =>
  rw[q]at hk
  rcases hk with hk|hk
  ·exact fT hk
  ·simp[hk]
theorem GO{n m:Nat}(h:m<n)(hk:k m=false):lx (qV k n m) m (m-(zs k m).length)=qV k n (m+1):=by
 have hz:=Vx (k:=k) m
 have e:qV k n m=(zs k m++os k m++m::yZ (m+1) (n-(m+1))).toArray:=by unfold qV TO;exact zc (U0 h) rfl
 have e2:lx (qV k n m) m (m-(zs k m).length)=lx (qV k n m) ((zs k m).length+(os k m).length) (os k m).length:=by
  refine zc hz ?_;congr 1;exact zE (vB 516745070437 [m-(zs k m).length,(os k m).length,m,(zs k m).length] (ze hz.symm) (ze (zh (zN 6770789 [(zs k m).length,m,(os k m).length] (ze hz) rfl))) rfl) (vB 506949103717 [(os k m).length,m-(zs k m).length,(zs k m).length,m] (ze hz) (ze (zh (zN 6770789 [(zs k m).length,m,(os k m).length] (ze hz) rfl)).symm) rfl)
 refine zc e2 (zc e (zc (eC ..) ?_))
 unfold qV TO
 refine zc (ak ..) (zc (be ..) (zc hk ?_))
 simp
theorem qq.asc{n:Nat}:∀(f m:Nat),f+m=n→1≤m→qq n (QS k) (kas_asc (qV k n m) f m) fun m'=>m≤m'∧m'≤n∧qV k n m'=qV k n m∧(m'<n→k m'=false∧os k m'≠[]):=by
 intro l0
 induction l0 with
 |zero =>
  intro m e h
  rw[vx]at e
  subst e
  exact⟨zX _,zX _,rfl,fun q=>absurd q (yI _)⟩
 |succ f ih =>
  intro m e h
  have hm:=Dk e
  have a1:=pZ (k:=k) (n:=n) (zX m) hm
  have a2:=TF (k:=k) (n:=n) (m:=m) (i:=m-1) (Nat.sub_lt h Nat.one_pos)
  have hz:=Vx (k:=k) m
  have next:qV k n (m+1)=qV k n m→qq n (QS k) (kas_asc (qV k n m) f (m+1)) fun m'=>m≤m'∧m'≤n∧qV k n m'=qV k n m∧(m'<n→k m'=false∧os k m'≠[]):=fun up=>by
   have r:=(ih (m+1) (Dj e) (vp 1 m))
   rw[up]at r
   exact qq.mono (fun a q=>⟨qp q.1,q.2⟩) r
  refine⟨a1.symm▸hm,lC a2.1 hm,?_⟩
  refine zc a1 ?_
  unfold QS
  cases q:k m with
  |false =>
   cases hl:k ((qV k n m).getD (m-1) 0)with
   |true=>exact⟨zX _,vA hm,rfl,fun U=>⟨q,fun z=>DO (by rw[z]at hz;exact hz) h (a2.2.mp hl)⟩⟩
   |false =>
    have hn:¬(zs k m).length≤m-1:=fun z=>by rw[a2.2.mpr z]at hl;exact tF hl
    exact next (gP hm (.inr (YK.mp (DN hz hn))))
  |true=>exact next (gP hm (.inl q))
noncomputable def rB(k:Nat→Bool)(m:Nat):Nat:=if k m then m else(zs k m).length
theorem E2{l r:Nat}(h:l<r):l≤(l+r)/2:=by omega
theorem E1{l r:Nat}(h:l<r):(l+r)/2<r:=by omega
theorem CN{m:Nat}(h:k m=true):rB k m=m:=if_pos h
theorem mA{m:Nat}(h:k m=false):rB k m=(zs k m).length:=if_neg (by refine zc h ?_;exact ZO)
theorem qq.place{n m:Nat}(hm:m<n):∀(f l r:Nat),r≤l+f→r≤m→l≤rB k m→rB k m≤r→qq n (QS k) (kas_place (qV k n m) m f l r) fun p=>p=rB k m:=by
 intro l0
 induction l0 with
 |zero =>
  intro l r h h1 h2 h3
  exact zE h2 (yv h3 h)
 |succ f ih =>
  intro l r h h1 h2 h3
  unfold kas_place
  by_cases q:l ≥ r
  ·refine zc (if_pos q) ?_;exact zE h2 (yv h3 q)
  refine zc (if_neg q) ?_
  have q:=wX q
  have c1:=E2 q
  have c2:=E1 q
  have c3:=yq c2 h1
  have a1:=pZ (k:=k) (n:=n) (zX m) hm
  have a2:=TF (k:=k) (n:=n) (m:=m) (i:=(l+r)/2) c3
  have right:(l+r)/2+1≤rB k m→qq n (QS k) (kas_place (qV k n m) m f ((l+r)/2+1) r) fun p=>p=rB k m:=fun z =>
   (ih _ r (yv h (by refine zc (Nat.add_right_comm ..) ?_;exact Nat.add_le_add_right c1 (f+1))) h1 z h3)
  refine⟨a1.symm▸hm,lC a2.1 hm,?_⟩
  refine zc a1 ?_
  unfold QS
  cases hk:k m with
  |true=>exact right (by refine zc (CN hk) ?_;exact c3)
  |false =>
   cases hl:k ((qV k n m).getD ((l+r)/2) 0)with
   |true=>exact(ih l _ (Nat.le_of_lt_succ (yq c2 h)) (vA c3) h2 (by refine zc (mA hk) ?_;exact a2.2.mp hl))
   |false=>exact right (by refine zc (mA hk) ?_;exact wX fun z=>by rw[a2.2.mpr z]at hl;exact tF hl)
theorem qq.bin{n:Nat}:∀(f m:Nat),f+m=n→qq n (QS k) (kas_bin f (qV k n m) m) fun p=>p=qV k n n:=by
 intro l0
 induction l0 with
 |zero =>
  intro m e
  rw[vx]at e
  subst e
  rfl
 |succ f ih =>
  intro m e
  have hm:=Dk e
  have ht:rB k m≤m:=by
   have:=Vx (k:=k) m
   unfold rB
   split
   ·exact zX _
   ·exact Nat.le.intro this
  refine qq.bind (qq.mono (fun l hl=>?_) (qq.place hm m 0 m (vp _ _) (zX _) (wk _) ht))
  subst hl
  have up:lx (qV k n m) m (m-rB k m)=qV k n (m+1):=by
   cases hk:k m with
   |true =>
    refine zc (CN hk) (zc (lB ..) (zc (gP hm (.inl hk)) ?_))
    rfl
   |false =>
    exact zc (mA hk) (GO hm hk)
  exact zc up ((ih (m+1) (Dj e)))
noncomputable def TY(n m:Nat):Array Nat:=((zT m).reverse++yZ m (n-m)).toArray
theorem Ad{n m i:Nat}(h:m≤i)(hi:i<n):(TY n m).getD i 0=i:=by
 unfold TY
 refine zc uh ?_
 simp only[vd,uJ,xo,yM]
 refine zc (if_neg (Xc (zN 25957 [m,i] h rfl))) (zc (lP (dz 0x96087950872652 [i-m,n-m,i,n,m] hi (ze (zh h)) (ze (zh (vB 108164453 [m,n,i] h hi rfl)).symm) rfl)) ?_)
 simp;exact zE (zN 1969256016 [m,i-m,i] (ze (zh h)) rfl) (zN 1728411141 [i,m,i-m] (ze (zh h).symm) rfl)
theorem qq.desc{n m:Nat}(p1:Array Nat)(h1:∀i,m≤i→i<n→p1.getD i 0=i)(hm:m<n):∀(f j q:Nat),f+j=n→m+1≤j→q=j-(m+1)→(∀i,m≤i→i<j→k i=false) →
  qq n (QS k) (kas_desc f p1 j q) fun r=>r.1=p1∧m+1≤r.2.1∧r.2.1≤n∧r.2.2=r.2.1-(m+1)∧∀i,m≤i→i<r.2.1→k i=false:=by
 intro l0
 induction l0 with
 |zero =>
  intro j q e hj hq hz
  exact⟨rfl,hj,by exact zN 1694576741 [j,n] (ze e) rfl,hq,hz⟩
 |succ f ih =>
  intro j q e hj hq hz
  have e1:=h1 j (zN 1628655717 [m,j] hj rfl) (zN 6945288226386 [j,n,f] (ze e) rfl)
  have e2:=h1 (j-1) (vB 4844480193843301 [m,j-1,j] hj (ze (zh (zN 348217430291 [j,m] hj rfl)).symm) rfl) (vB 0x8568113700652 [j-1,n,f,j] (ze e) (qQ ..) rfl)
  have k2:=hz (j-1) (vB 4844480193843301 [m,j-1,j] hj (ze (zh (zN 348217430291 [j,m] hj rfl)).symm) rfl) (zN 26058491474 [j-1,j] (ze (zh (zN 348217430291 [j,m] hj rfl))) rfl)
  refine⟨by refine zc e1 ?_;exact zN 6945288226386 [j,n,f] (ze e) rfl,by refine zc e2 ?_;exact vB 0x8568113700652 [j-1,n,f,j] (ze e) (qQ ..) rfl,?_⟩
  refine zc e1 (zc e2 ?_)
  have l1:QS k j (j-1)=false:=by unfold QS;exact zc k2 (zc (WB ..) rfl)
  refine zc l1 ⟨vB 0x8568113700652 [j-1,n,f,j] (ze e) (qQ ..) rfl,zN 6945288226386 [j,n,f] (ze e) rfl,?_⟩
  have l2:QS k (j-1) j=k j:=by unfold QS;refine zc k2 ?_;rfl
  refine zc l2 ?_
  cases hk:k j with
  |true=>exact⟨rfl,hj,by exact zN 434080514149 [j,n,f] (ze e) rfl,hq,hz⟩
  |false =>
   refine(ih (j+1) (q+1) (zE (zN 0x7611350071136050 [f,j,n] (ze e) rfl) (zN 0x7113600511370605 [n,f,j] (ze e.symm) rfl)) (zN 0x6113501136011350 [m,j] hj rfl) (zE (dz 0x8113907011390601138075611350 [q,j+1-(m+1),j-(m+1),j,m] (ze hq) (ze (zh (zN 0x6113501136011350 [m,j] hj rfl)).symm) (ze (zh hj)) rfl) (dz 0x1138070911390113805067113605 [j+1-(m+1),q,j-(m+1),m,j] (ze hq.symm) (ze (zh (zN 0x6113501136011350 [m,j] hj rfl))) (ze (zh hj).symm) rfl)) fun i a b=>?_)
   rcases TM i j with c|c
   ·exact hz i a c
   ·have:i=j:=zE (zN 4620046949 [i,j] b rfl) (zN 25957 [j,i] c rfl)
    refine zc this ?_;exact hk
theorem FG{l:List Nat}(h:∀i∈l,k i=true):l.filter k=l∧l.filter (fun i=>!k i)=[]:=
 ⟨rz.mpr h,Xu.mpr fun i m=>by refine zc (h i m) ?_;decide⟩
theorem FH{l:List Nat}(h:∀i∈l,k i=false):l.filter k=[]∧l.filter (fun i=>!k i)=l:=
 ⟨Xu.mpr fun i m=>by refine zc (h i m) ?_;decide,rz.mpr fun i m=>by refine zc (h i m) ?_;rfl⟩
theorem Ai{m j:Nat}(hj:m≤j)(h1:∀i,i<m→k i=true)(h0:∀i,m≤i→i<j→k i=false):TO k j=yZ m (j-m)++zT m:=by
 have e:zT j=zT m++yZ m (j-m):=by
  refine zc uI (zc uI ?_)
  have:=Wx (s:=0) (m:=m) (n:=j-m)
  rw[vx]at this
  refine zc this ?_;congr 1;exact zE (zN 1728411141 [j,m,j-m] (ze (zh hj).symm) rfl) (zN 1969256016 [m,j-m,j] (ze (zh hj)) rfl)
 have a:=FG (k:=k) (l:=zT m) fun i q=>h1 i (wD.mp q)
 have b:=FH (k:=k) (l:=yZ m (j-m)) fun i q=>by
  have:=List.mem_range'_1.mp q
  exact h0 i this.1 (vB 0x678087052652 [i,j,m,j-m] this.2 (ze (zh hj)) rfl)
 unfold TO zs os
 refine zc e (zc (ZL ..) (zc (ZL ..) (zc a.1 (zc a.2 (zc b.1 (zc b.2 ?_))))))
 simp
theorem qq.descPart{n m:Nat}(hm:m<n)(h0:1≤m)(h1:∀i,i<m→k i=true)(hk:k m=false):qq n (QS k) (kas_descPart m n (TY n m)) fun r=>1≤r.1∧r.1≤n∧r.2=qV k n r.1:=by
 refine qq.bind (qq.mono (fun r hr=>?_) (qq.desc (m:=m) (TY n m) (fun i a b=>Ad a b) hm (n-(m+1)) (m+1) 0 (by exact zE (zN 0x7113605071136050 [n-(m+1),m,n] (ze (zh (zN 27151897424 [m,n] hm rfl))) rfl) (zN 0x1137060511370605 [n,n-(m+1),m] (ze (zh (zN 27151897424 [m,n] hm rfl)).symm) rfl)) (zX _) (by exact zE (Tg 20499 [m+1-(m+1)] rfl) (zN 0x1136011360500135 [m+1-(m+1),m] (ze (zh (Tg 73903706960 [m] rfl))) rfl)) fun i a b=>by refine zc (show i=m by exact zE (zN 4620046949 [i,m] b rfl) (zN 25957 [m,i] a rfl)) ?_;exact hk))
 obtain⟨p,j,q⟩:=r
 refine Kq hr fun e0 hj hn eq hz=>?_;clear hr
 dsimp only at e0 hj hn eq hz ⊢
 subst e0 eq
 have two:=Ai (by exact zN 1628655717 [m,j] hj rfl) h1 hz
 have t1:yZ m (n-m)=yZ m (j-m)++yZ j (n-j):=by
  have:=Wx (s:=m) (m:=j-m) (n:=n-j)
  rw[show m+(j-m)=j by exact zE (zN 1969256016 [m,j-m,j] (ze (zh (zN 1628655717 [m,j] hj rfl))) rfl) (zN 1728411141 [j,m,j-m] (ze (zh (zN 1628655717 [m,j] hj rfl)).symm) rfl),show j-m+(n-j)=n-m by exact zE (dz 0x870aa96098507650 [j-m,n-j,n-m,m,j,n] (ze (zh (zN 1628655717 [m,j] hj rfl))) (ze (zh hn)) (ze (zh (vA hm)).symm) rfl) (dz 0xa950870a96087605 [n-m,j-m,n-j,j,m,n] (ze (zh (zN 1628655717 [m,j] hj rfl)).symm) (ze (zh hn).symm) (ze (zh (vA hm))) rfl)]at this
  exact this.symm
 have e1:b6 (TY n m) m j=((zT m).reverse++(yZ m (j-m)).reverse++yZ j (n-j)).toArray:=by
  have:=YU (zT m).reverse (yZ m (j-m)) (yZ j (n-j))
  rw[xo,yM,rP,show m+(j-m)=j by exact zE (zN 1969256016 [m,j-m,j] (ze (zh (zN 1628655717 [m,j] hj rfl))) rfl) (zN 1728411141 [j,m,j-m] (ze (zh (zN 1628655717 [m,j] hj rfl)).symm) rfl)]at this
  refine xv this ?_
  unfold TY
  exact zc t1 (zc (zA ..) rfl)
 have e2:b6 ((zT m).reverse++(yZ m (j-m)).reverse++yZ j (n-j)).toArray 0 j=qV k n j:=by
  have:=YU [] ((zT m).reverse++(yZ m (j-m)).reverse) (yZ j (n-j))
  rw[wh,zG,xo,xo,yM,rP,XE,show 0+(m+(j-m))=j by exact zE (zN 0x756076500130 [m,j-m,j] (ze (zh (zN 1628655717 [m,j] hj rfl))) rfl) (zN 0x670576001305 [j,m,j-m] (ze (zh (zN 1628655717 [m,j] hj rfl)).symm) rfl)]at this
  refine zc this ?_
  unfold qV
  refine zc two ?_
  simp
 have fin:∀p2,b6 p2 0 j=qV k n j→qq n (QS k) (kas_tail3 j n p2) fun r=>1≤r.1∧r.1≤n∧r.2=qV k n r.1:=fun p2 e=>by
  unfold kas_tail3
  refine zc e (qq.bind (qq.mono (fun a q=>?_) (qq.asc (n-j) j (by exact zE (zN 1984984656 [n-j,j,n] (ze (zh hn)) rfl) (zN 1980069381 [n,n-j,j] (ze (zh hn).symm) rfl)) (by exact zN 348217430291 [j,m] hj rfl))))
  exact⟨by have:=q.1;show 1≤a;omega,q.2.1,q.2.2.1.symm⟩
 by_cases hq:j-(m+1)>0
 ·refine zc (if_pos hq) (zc (show j-(j-(m+1)+1)=m by omega) (zc e1 ?_))
  exact fin _ e2
 ·refine zc (if_neg hq) ?_
  have hj1:j=m+1:=by exact zE (vB 0x113607050137113605 [j,m,j-(m+1)] (xy hq) (ze (zh hj).symm) rfl) (zN 0x611350611350 [m,j] hj rfl)
  refine fin _ (xv e2 ?_)
  congr 1
  unfold TY
  refine zc t1 (zc (zA ..) (zc hj1 (zc (show m+1-m=1 by exact zE (zN 18923731816757 [m+1-m,m] (ze (zh (Tg 1127685 [m] rfl))) rfl) (zN 0x650113605113 [m+1-m,m] (ze (zh (Tg 1127685 [m] rfl)).symm) rfl)) ?_)))
  rfl
theorem qq.count{n:Nat}(hn:1≤n):qq n (QS k) (kas_count n (zT n).toArray) fun r=>1≤r.1∧r.1≤n∧r.2=qV k n r.1:=by
 have e0:(zT n).toArray=qV k n 1:=by
  unfold qV TO zs os
  refine zc (show zT 1=[0] from rfl) ?_
  have:zT n=0::yZ 1 (n-1):=by
   refine zc uI ?_
   have:=U0 (n:=n) (m:=0) (zN 21763522866 [n] hn rfl)
   rw[lA]at this
   exact this
  refine zc this ?_
  cases h:k 0<;>simp[h]
 have e00:qV k n 1=(zT n).toArray:=e0.symm
 refine zc e0 (qq.bind (qq.mono (fun m hm=>?_) (qq.asc (n-1) 1 (zE (zN 0x611350611350 [n-1,n] (ze (zh hn)) rfl) (zN 18923710920197 [n,n-1] (ze (zh hn).symm) rfl)) (zX 1))))
 refine Qi hm fun h1 h2 h3 h4=>?_;clear hm
 by_cases q:m=n
 ·exact zc (if_pos (by simpa using q)) ⟨h1,h2,h3.symm⟩
 ·refine zc (if_neg (by simpa using q)) ?_
  have hm:m<n:=by omega
  refine zK (h4 hm) fun hk ho=>?_
  have id:∀i,i<n→(qV k n 1).getD i 0=i:=fun i hi=>by
   refine zc e00 (zc uh ?_)
   simp[hi]
  have pm:TO k m=zT m:=by
   have a:(qV k n m).toList.take m=(zT n).take m:=by exact zc h3 (zc e00 rfl)
   unfold qV at a
   rw[List.take_append_of_le_length (by refine zc (Xh ..) ?_;exact zX _),x9 (by refine zc (Xh ..) ?_;exact zX _),List.take_range]at a
   refine zc a ?_;congr 1;omega
  have last:k (m-1)=true:=by
   have:=TF (k:=k) (n:=n) (m:=m) (i:=m-1) (zN 26058491474 [m-1,m] (ze (zh h1)) rfl)
   rw[h3,id _ (by exact vB 1969694290 [m-1,n,m] hm (qQ ..) rfl)]at this
   refine this.2.mpr ?_
   have hz:=Vx (k:=k) m
   have:(os k m).length≠0:=fun z=>ho (YK.mp z)
   omega
  have ones:k 0=true→∀i,i<m→k i=true:=fun h0 i hi=>by
   have:=TF (k:=k) (n:=n) (m:=m) (i:=0) (zN 21763522866 [m] h1 rfl)
   rw[h3,id _ (by exact zN 21763522866 [n] hn rfl)]at this
   have z0:=this.2.mp h0
   have:=TF (k:=k) (n:=n) (m:=m) (i:=i) hi
   rw[h3,id _ (by exact vB 1965454930 [i,n,m] h2 hi rfl)]at this
   exact this.2.mpr (zN 79205 [(zs k m).length,i] z0 rfl)
  have rv:b6 (qV k n 1) 0 m=TY n m:=by
   refine zc e00 ?_
   have:=YU [] (zT m) (yZ m (n-m))
   rw[wh,yM,XE,vx]at this
   unfold TY
   refine xv (wh (zT m).reverse) (xv this ?_)
   congr 2
   refine zc uI (zc uI ?_)
   have:=Wx (s:=0) (m:=m) (n:=n-m)
   rw[vx]at this
   refine zc this ?_;congr 1;exact zE (zN 1728411141 [n,m,n-m] (ze (zh h2).symm) rfl) (zN 1969256016 [m,n-m,n] (ze (zh h2)) rfl)
  by_cases q1:m>1
  ·refine zc (if_pos q1) ?_
   refine⟨by refine zc (id 0 (zN 1445265714 [n,m] hm rfl)) ?_;exact zN 1445265714 [n,m] hm rfl,by refine zc (id _ (vB 1969694290 [m-1,n,m] hm (qQ ..) rfl)) ?_;exact vB 1969694290 [m-1,n,m] hm (qQ ..) rfl,?_⟩
   refine zc (id 0 (zN 1445265714 [n,m] hm rfl)) (zc (id (m-1) (vB 1969694290 [m-1,n,m] hm (qQ ..) rfl)) ?_)
   unfold QS
   refine zc last (zc (fh ..) ?_)
   cases h0:k 0 with
   |false=>exact⟨h1,h2,h3.symm⟩
   |true =>
    refine(?_:qq n (QS k) (kas_descPart m n (b6 (qV k n 1) 0 m)) _)
    exact zc rv (qq.descPart hm h1 (ones h0) hk)
  ·refine zc (if_neg q1) ?_
   have:m=1:=zE (zN 288690485 [m] (xy q1) rfl) (zN 1360220435 [m] h1 rfl)
   subst this
   have r1:qV k n 1=TY n 1:=by
    refine xv rv (zc e00 ?_)
    rfl
   exact zc r1 (qq.descPart hm (zX _) (ones last) hk)
theorem qq.sort{n:Nat}(hn:1≤n):qq n (QS k) (kas_sort n) fun p=>p=(TO k n).toArray:=by
 refine qq.bind (qq.mono (fun r hr=>?_) (qq.count hn))
 obtain⟨m,p⟩:=r
 refine yU hr fun h1 h2 eq=>?_;clear hr
 dsimp only at h1 h2 eq ⊢
 subst eq
 have e:qV k n n=(TO k n).toArray:=by unfold qV;refine zc (lB ..) ?_;simp
 by_cases q:m<n
 ·refine zc (if_pos q) (zc (show max m 1=m by omega) (xv e ?_))
  exact qq.bin (n-m) m (zE (zN 1984984656 [n-m,m,n] (ze (zh h2)) rfl) (zN 1980069381 [n,n-m,m] (ze (zh h2).symm) rfl))
 ·refine zc (if_neg q) (xv e ?_)
  have:m=n:=zE (zN 25957 [m,n] h2 rfl) (zN 25957 [n,m] (xy q) rfl)
  subst this
  rfl
end
end
section
def Dx(D kS:zI)(Kv:xO→Nat→zi→Prop)(s s':zg):Prop:=(∀a o,a=D∨a=kS→s.heap.get? a=some o→o.cls=.type "list" → s'.heap.get? a=some o)∧∀j k,Kv s.heap j k→Kv s'.heap j k
section
variable {prog:uW} {w:ya} {A:y1} {D kS:zI} {J:zg→Prop} {Kv:xO→Nat→zi→Prop} {vs:List zi} {f T:zi} {kf:Nat→Bool}
theorem Ji(hne:kS≠D)(h2:2≤vs.length)(h64:vs.length<64)(hJt:∀s a h',J s→(a=D∨a=kS)→yo a s.heap h'→(∃o,h'.get? a=some o)→J {s with heap:=h'}∧∀j k,Kv s.heap j k→Kv h' j k)(turn:∀j v,vs[j]?=some v→∀s,J s→zr (zu prog w) A (call f [v]) (fun k s'=>J s'∧Dx D kS Kv s s'∧Kv s'.heap j k) (fun U U=>False) s)(ask:∀i j ki kj s,i<vs.length→j<vs.length→J s→Kv s.heap i ki→Kv s.heap j kj→∀C:Bool→zg→Prop,(∀s',J s'→Dx D kS Kv s s'→C (QS kf i j) s')→zr (zu prog w) A (keyLt' oneType' ki kj) C (fun U U=>False) s)(typ:∀s j k,J s→Kv s.heap j k→xD (zu prog w) s.heap (Zo k) T)(hT1:(T != yK "tuple")=true)(hT2:(T==T)=true)(hJ:J s)(hk:s.heap.get? kS=some (xw "list" #[] 0))(hD:s.heap.get? D=some (xw "list" #[] e1))(g:∀s' c,J s'→s'.heap.get? D=some (xw "list" ((TO kf vs.length).map fun i=>vs.getD i xn).toArray c)→P (.done (.ret .none)) s'):
  zr (zu prog w) A (ksk_rest D f false vs.toArray e1 (.ref kS)) P E s:=by
 refine zb (wpAny_rule ?_)
 refine zc (List.forIn_toArray ..) ?_
 refine zb (ksk_fold (fun i s'=>∃ks e,ks.length=i∧J s'∧s'.heap.get? kS=some (xw "list" (wu ks) e)∧s'.heap.get? D=some (xw "list" #[] e1)∧∀j k,ks[j]?=some k→Kv s'.heap j k) vs 0 s
  ⟨[],0,rfl,hJ,hk,hD,fun j k e=>by simp at e⟩ ?step ?done)
 case step =>
  rintro j x s' hx ⟨ks,e,hl,J1,k1,d1,kv⟩
  have hj:j<vs.length:=(yi.mp hx).1
  refine zb (TP (wE (turn j x hx s' J1) (fun v s2 q=>?_) fun U U hF=>hF.elim))
  refine yU q fun J2 z1 kn=>?_;clear q;obtain⟨kl,kk⟩:=z1
  try dsimp only
  have k2:=kl kS _ (.inr rfl) k1 rfl
  have d2:=kl D _ (.inl rfl) d1 rfl
  have s3:=zW s2.heap kS (yj (·.push v))
  have ea:(wu ks).push v=wu (ks++[v]):=by simp
  obtain⟨c2,hc2⟩:∃c2,(s2.heap.update kS (yj (·.push v))).get? kS=some (xw "list" (wu (ks++[v])) c2):=⟨_,by refine xv ea ?_;exact Vj k2 (·.push v)⟩
  refine zK (hJt s2 kS _ J2 (.inr rfl) s3 ⟨_,hc2⟩) fun J3 kk3=>zb (XD k2 rfl ?_ (by refine zc xG (zc zy ?_);omega) (yv (ze (Array.size_push ..)) (by refine zc xG (zc zy ?_);omega)))
  refine wpAny_pure ⟨rfl,ks++[v],c2,by refine zc zG (zc hl ?_);simp,J3,hc2,(s3.2 D hne.symm).trans d2,fun i k hi=>kk3 i k ?_⟩
  by_cases q:i<ks.length
  ·rw[yu q]at hi
   exact kk i k (kv i k hi)
  ·rw[xa (by exact zN 25957 [ks.length,i] (xy q) rfl)]at hi
   have:i=j:=by
    have:=(yi.mp hi).1
    simp at this;omega
   subst this
   rw[show i-ks.length=0 by exact zE (vB 0x67507601300135 [i-ks.length,i,ks.length] (ze hl.symm) (ze (zh (xy q))) rfl) (Tg 20499 [i-ks.length] rfl)]at hi
   simp at hi
   subst hi
   exact kn
 case done =>
  rintro s' ⟨ks,e,hl,J1,k1,d1,kv⟩
  have hl:ks.length=vs.length:=by exact zE (zN 1611859301 [ks.length,vs.length] (ze hl) rfl) (zN 1694576741 [vs.length,ks.length] (ze hl.symm) rfl)
  try dsimp only
  refine zb (b8 k1 rfl ?_)
  have hn2:¬vs.toArray.size<2:=by refine zc xG ?_;omega
  unfold ksk_end
  refine zc (if_neg hn2) (zc (if_neg hn2) ?_)
  refine zb (kas_kind (T:=T) (by exact vB 371012620819 [ks.length,vs.length] h2 (ze hl.symm) rfl) (fun v hv=>?_) hT1 hT2 ?_)
  ·obtain⟨j,hj,q⟩:=vq.mp hv
   exact typ s' j v J1 (kv j v (by exact zc (zC hj) (zc q rfl)))
  have run:(kas_sort vs.length).kasWp (kas_ask prog w A oneType' ks) (fun p s2=>p=(TO kf vs.length).toArray∧J s2∧s2.heap.get? kS=some (xw "list" (wu ks) e)∧s2.heap.get? D=some (xw "list" #[] e1)) s':=by
   refine qq.wp (I:=fun s2=>J s2∧s2.heap.get? kS=some (xw "list" (wu ks) e)∧s2.heap.get? D=some (xw "list" #[] e1)∧∀j k,ks[j]?=some k→Kv s2.heap j k) (fun i j hi hj s2 C I2 hC=>?_) (fun p s2 hp I2=>⟨hp,I2.1,I2.2.1,I2.2.2.1⟩) (qq.sort (k:=kf) (by omega)) ⟨J1,k1,d1,kv⟩
   refine Qi I2 fun J2 k2 d2 kv2=>?_;clear I2
   have gi:ks[i]?=some (ks.getD i xn):=by refine zc yP (zc (zC (by exact vB 1965454930 [i,ks.length,vs.length] (ze hl.symm) hi rfl)) ?_);rfl
   have gj:ks[j]?=some (ks.getD j xn):=by refine zc yP (zc (zC (by exact vB 1965454930 [j,ks.length,vs.length] (ze hl.symm) hj rfl)) ?_);rfl
   exact ask i j _ _ s2 hi hj J2 (kv2 i _ gi) (kv2 j _ gj) C fun s3 J3 kl=>hC s3 ⟨J3,kl.1 kS _ (.inr rfl) k2 rfl,kl.1 D _ (.inl rfl) d2 rfl,fun i k q=>kl.2 i k (kv2 i k q)⟩
  refine zb (wE (kat_run (Q:=fun st' s2=>(arrOf st').map (·.2)=wu ((TO kf vs.length).map fun i=>vs.getD i xn)∧failedOf st'=none∧J s2∧s2.heap.get? kS=some (xw "list" (wu ks) e)∧s2.heap.get? D=some (xw "list" #[] e1))
   hl h2 h64 (fun p st' s2 hp har hf q=>⟨by exact zc (kat_snds hl har) (zc q.1 rfl),hf,q.2⟩) run) ?_ fun U U x=>x)
  rintro⟨⟨⟩,st'⟩ s2 ⟨har,hf,J2,k2,d2⟩
  try dsimp only
  have s3:=zW s2.heap kS (yj fun U=>(#[]:Array zi))
  obtain⟨ck,hck⟩:∃ck,(s2.heap.update kS (yj fun U=>(#[]:Array zi))).get? kS=some (xw "list" #[] ck):=⟨_,Vj k2 fun U=>#[]⟩
  refine zK (hJt s2 kS _ J2 (.inr rfl) s3 ⟨_,hck⟩) fun J3 z1=>?_;clear z1
  have d3:=(s3.2 D hne.symm).trans d2
  have s4:=zW (s2.heap.update kS (yj fun U=>(#[]:Array zi))) D (yj fun U=>wu ((TO kf vs.length).map fun i=>vs.getD i xn))
  obtain⟨c4,hc4⟩:∃c4,((s2.heap.update kS (yj fun U=>(#[]:Array zi))).update D (yj fun U=>wu ((TO kf vs.length).map fun i=>vs.getD i xn))).get? D=some (xw "list" (wu ((TO kf vs.length).map fun i=>vs.getD i xn)) c4):=⟨_,Vj d3 fun U=>wu ((TO kf vs.length).map fun i=>vs.getD i xn)⟩
  refine zK (hJt _ D _ J3 (.inl rfl) s4 ⟨_,hc4⟩) fun J4 z1=>?_;clear z1
  unfold ksk_tail
  refine zc har ?_
  refine zb (XD k2 rfl ?_ (by refine zc xG (zc zy ?_);omega) (wk _))
  refine zb (GZ ?_)
  refine zb (seqEpoch_at d3 rfl ?_)
  refine zb (XD d3 rfl ?_ (wk _) (by refine zc xG (zc (zj ..) (zc (Xh ..) (zc zy ?_)));omega))
  refine zc hf ?_
  simp only[bne_self_eq_false,ZP,if_false]
  exact wpAny_pure (g _ c4 J4 hc4)
end
end
section
theorem cK{prog:uW}{w:ya}{A:y1}{s:zg}{l q:zI}{vs:List zi}{Q:zi→zg→Prop}{E:zi→zg→Prop}(hl:s.heap.IsList l vs.toArray)(h64:vs.length<64)(h:∀h3 D kS e1,(∀b o,s.heap.get? b=some o→h3.get? b=some o)→s.heap.get? D=none→s.heap.get? kS=none→kS≠D→h3.get? kS=some (xw "list" #[] 0)→h3.get? D=some (xw "list" #[] e1) →
   zr (zu prog w) A.in1.in1 (ksk_rest D (.ref q) false vs.toArray e1 (.ref kS)) (fun fin s'=>fin=.done (.ret .none)∧Q (.ref D) s') E {s with heap:=h3}):
  zr (zu prog w) A (call (.builtin "sorted") [.ref l] [(za "key",.ref q)]) Q E s:=by
 have sp:∀(h:xO) (o:xK),(h.push o).objs.size=h.objs.size+1:=fun h o=>xu _ _
 refine call_function_entry_kw kind_sorted plain_sorted entry_sorted (ksk_s1 _ _) ?_
 unfold Builtin.«sorted»
 refine zb (m:=checkCount "sorted" 1 1 _) (wpAny_pure ?_)
 refine zb (collect_list hl ?_ (by refine zc zy ?_;exact zN 0x4023521000000735 [vs.length] h64 rfl))
 refine zb (wpAny_newList ?_ (by refine zc zy ?_;exact zN 0x4023521000000735 [vs.length] h64 rfl))
 have hsz:((s.heap.push (xw "list" #[] 0)).update s.heap.objs.size (yj (·++vs.toArray))).objs.size=s.heap.objs.size+1:=by
  exact zc (DI ..) (zc (sp ..) rfl)
 have hoL:(((s.heap.push (xw "list" #[] 0)).update s.heap.objs.size (yj (·++vs.toArray))).push (xw "list" vs.toArray 0)).get? (s.heap.objs.size+1)=some (xw "list" vs.toArray 0):=by
  refine xv hsz ?_;exact zx _ rfl
 have keep:∀b o,s.heap.get? b=some o→(((s.heap.push (xw "list" #[] 0)).update s.heap.objs.size (yj (·++vs.toArray))).push (xw "list" vs.toArray 0)).get? b=some o:=fun b o q=>by
  have hlt:b<s.heap.objs.size:=zY q
  refine zc (CA _ _ _ (by rw[hsz];exact vY (DJ hlt))) (zc (Heap.get?_update_ne _ _ _ _ (vY hlt)) (zc (CA _ _ _ (vY hlt)) ?_))
  exact q
 have hs2:(((s.heap.push (xw "list" #[] 0)).update s.heap.objs.size (yj (·++vs.toArray))).push (xw "list" vs.toArray 0)).objs.size=s.heap.objs.size+2:=by exact zc (sp ..) (zc hsz rfl)
 refine(?_:zr _ _ _ _ _ {s with heap:=((s.heap.push (xw "list" #[] 0)).update s.heap.objs.size (yj (·++vs.toArray))).push (xw "list" vs.toArray 0)})
 refine zc hsz (zb (zV (wpAny_call_entry_kw slot_list_sort ⟨_,hoL,rfl⟩ entry_list_sort ?body (ksk_l1 _ _))))
 case body =>
  refine(?_:zr (zu prog w) A.in1.in1 (Builtin.«list.sort» ⟨[.ref (s.heap.objs.size+1)],[(za "key",.ref q)]⟩) _ _ _)
  refine zc (ksk_t1 ..) ?_
  generalize hh:((s.heap.push (xw "list" #[] 0)).update s.heap.objs.size (yj (·++vs.toArray))).push (xw "list" vs.toArray 0)=h1 at keep hoL hs2 ⊢
  have fresh:∀a,s.heap.objs.size≤a→s.heap.get? a=none:=fun a ha=>Ww ha
  have s1:=zW h1 (s.heap.objs.size+1) (yj fun U=>(#[]:Array zi))
  obtain⟨e1,ho1⟩:∃e1,(h1.update (s.heap.objs.size+1) (yj fun U=>(#[]:Array zi))).get? (s.heap.objs.size+1)=some (xw "list" #[] e1):=⟨_,Vj hoL fun U=>#[]⟩
  have hkS:((h1.update (s.heap.objs.size+1) (yj fun U=>(#[]:Array zi))).push (xw "tuple" vs.toArray 0)).objs.size=s.heap.objs.size+3:=by exact zc (sp ..) (zc (DI ..) (zc hs2 rfl))
  unfold ksk_tree
  refine zb (b8 hoL rfl ?_)
  refine zb (XD hoL rfl ?_ (by refine zc xG (zc zy ?_);exact zN 0x4023521000000735 [vs.length] h64 rfl) (wk _))
  refine zb (seqEpoch_at ho1 rfl ?_)
  refine zb (k8 ?_ (by show vs.length≤_;refine zc zy ?_;exact zN 0x4023521000000735 [vs.length] h64 rfl))
  refine zb (wpAny_newList ?_ (wk _))
  refine zV ?_
  have kp:∀b o,s.heap.get? b=some o→(((h1.update (s.heap.objs.size+1) (yj fun U=>(#[]:Array zi))).push (xw "tuple" vs.toArray 0)).push (xw "list" #[] 0)).get? b=some o:=fun b o e=>by
   have hlt:b<s.heap.objs.size:=zY e
   exact zq _ (zq _ ((s1.2 b (vY (DJ hlt))).trans (keep b o e)))
  have gk:(((h1.update (s.heap.objs.size+1) (yj fun U=>(#[]:Array zi))).push (xw "tuple" vs.toArray 0)).push (xw "list" #[] 0)).get? (s.heap.objs.size+3)=some (xw "list" #[] 0):=by
   refine xv hkS ?_;exact zx _ rfl
  have gD:(((h1.update (s.heap.objs.size+1) (yj fun U=>(#[]:Array zi))).push (xw "tuple" vs.toArray 0)).push (xw "list" #[] 0)).get? (s.heap.objs.size+1)=some (xw "list" #[] e1):=
   zq _ (zq _ ho1)
  have z:=h _ (s.heap.objs.size+1) (s.heap.objs.size+3) e1 kp (fresh _ (vz _)) (fresh _ (wY _ 3)) (fun e=>by have e:s.heap.objs.size+3=s.heap.objs.size+1:=e;omega) gk gD
  rw[←hkS]at z
  exact wE z (fun fin s' z=>⟨_,z.1,wpAny_pure ⟨_,rfl,z.2⟩⟩) fun U U z=>z
end
section
def Dy(x:Cx)(l:List (zI×Obj))(h:xO):Prop:=∀e∈l,h.get? e.1=some e.2∧¬uG x e.1∧um e.2=false
theorem Dy.kept(D:Dy x l s.heap)(K:Kept x s s'):Dy x l s'.heap:=fun e m =>
 let⟨a,b,c⟩:=D e m
 ⟨K.keepN a b c,b,c⟩
theorem St.ntI(S:St x fr H s)(e:s.heap.get? a=some o)(m:u8 o.cls=false):¬uG x a:=fun t=>by
 refine zt (S.kinds a t) fun o' e' m'=>?_
 rw[e]at e'
 replace e':=zf e';subst e'
 rw[m]at m'
 exact fT m'
theorem St.old(S':St x fr' H' u)(K:Kept x s u)(h:u.heap.get? a=none):s.heap.get? a=none:=by
 cases e:s.heap.get? a with
 |none=>rfl
 |some o =>
  by_cases t:uG x a
  ·refine zt (S'.kinds a t) fun o' e' z2=>?_;clear z2
   rw[h]at e';exact nS e'
  ·refine zt (K.keep a o e t) fun o' e' z2=>?_;clear z2
   rw[h]at e';exact nS e'
theorem ft(ns:List Str)(p:Str):y6 ns p=0∨y6 ns p=1:=by
 unfold y6
 cases XI ns p
 ·exact .inl rfl
 ·exact .inr rfl
theorem sQ(ns:List Str)(p q:Str):decide (y6 ns p-y6 ns q<0)=(!(y6 ns p==1)&&(y6 ns q==1)):=by
 rcases ft ns p with h|h<;>rcases ft ns q with h'|h'<;>refine zc h (zc h' ?_)<;>rfl
def o4(C:zI)(op:List zI)(zs:List Str)(h:xO)(j:Nat)(k:zi):Prop:=∃z a m t,zs[j]?=some z∧k=.ref a∧h.get? a=some (iO C m (.str z t))∧a∉op
theorem ConL.strs:∀{zs:List Str} {vs:List zi},ConL ρ h (zs.map AV.str) vs→vs.length=zs.length∧∀(j:Nat) (v:zi),vs[j]?=some v→∃z t,zs[j]?=some z∧v=tD z t:=by
 intro l0
 induction l0 with
 |nil =>
  intro vs c
  subst c
  exact⟨rfl,fun j v e=>by simp at e⟩
 |cons z zs ih =>
  intro vs c
  refine xk c fun v r z2 hc hr=>?_;clear c;subst z2
  refine zK ((ih hr)) fun l g=>⟨by simp[l],fun j u e=>?_⟩
  cases j with
  |zero =>
   refine yf hc fun t z1=>?_;clear hc;subst z1
   replace e:=zf e;subst e
   exact⟨z,t,rfl,rfl⟩
  |succ j=>exact g j u e
theorem cH:∀{zs:List Str} {vs:List zi},vs.length=zs.length→(∀(j:Nat) (v:zi),vs[j]?=some v→∃z t,zs[j]?=some z∧v=tD z t)→ConL ρ h (zs.map AV.str) vs
 |[],vs,l,_=>by
  have:vs=[]:=YK.mp l
  subst this
  unfold ConL;rfl
 |z::zs,[],l,_=>by simp at l
 |z::zs,v::vs,l,g=>by
  refine yW (g 0 v rfl) fun z' t e z3=>?_;subst z3
  replace e:=zf e;subst e
  exact⟨_,vs,rfl,⟨t,rfl⟩,cH (by simpa using l) fun j u e=>g (j+1) u e⟩
section
variable {n:Nat} {x:Cx} {fr:y3} {H:Hp} {s:zg} {ns cs:List Str} {f0:List (Str×AV)} {qual:Str} {M T:Nat} {lf ca:zI} {pm ct:zi} {co:xK} {cr:zI}
theorem mT(B:Base n x)(hn:n<915)(S:St x fr H s)(h0:H[0]?=some (RD x.w ns 1))(h1:H[1]?=some (.dict f0))(hm:MemoOk ns cs f0)(hS:SetOk ns)(hc:2≤cs.length∧cs.length<64)(hkl:Dy x (CL x.w.params (M+870) T (.ref lf)++[(lf,dG qual cr pm (.ref ca) ct),(ca,co)]) s.heap)(hco:∃vs t,co.data=.fields vs∧vs[1]?=some (.str qual t))(hkind:x.env.kindOf qh=some .cell)(hlk:lk qh fr=some (.list [.obj 0,.obj 2]))(hcr:x.env.cells.lookup qh=some cr)(cv:y2 x.ρ s.heap (.list (cs.map .str)) v)(g:∀r s',y2 x.ρ s'.heap (.list (((TO (fun j=>y6 ns (cs.getD j ym)==1) cs.length).map fun j=>cs.getD j ym).map .str)) r→St x fr H s'→Kept x s s'→Q r s'):
  zr (zu pw x.w) x.A (call (.builtin "sorted") [v] [(za "key",.ref (M+870+60))]) Q E s:=by
 refine x7 cv fun l vs z2 hlop hl hvs=>?_;clear cv;subst z2
 refine zK hvs.strs fun vlen vat=>cK hl (vB 0x65402362402352 [vs.length,cs.length] hc.2 (ze vlen) rfl) fun h3 D kS e1 kp fD fkS hne gk gD=>?_
 have B2:Base (n+2) (x.wA x.A.in1.in1):=(B.in1).in1
 have S2:St ((x.wA x.A.in1.in1).at' (x.wA x.A.in1.in1).A x.env x.oc [D,kS]) fr H {s with heap:=h3}:=St.openE (x:=x.wA x.A.in1.in1) S.wA ⟨⟨_,_,_,rfl⟩,kp⟩ [D,kS] (fun b m=>by
  rcases zn.mp m with rfl|m
  ·exact fD
  ·refine zc (zd.mp m) ?_;exact fkS) (fun b m=>by
  rcases zn.mp m with rfl|m
  ·exact⟨_,gD⟩
  ·refine zc (zd.mp m) ?_;exact⟨_,gk⟩)
 have By:Base (n+2) ((x.wA x.A.in1.in1).at' (x.wA x.A.in1.in1).A x.env x.oc [D,kS]):=⟨B2.K,B2.room,B2.link⟩
 have FD:=S.far fD
 have FkS:=S.far fkS
 generalize hy:(x.wA x.A.in1.in1).at' (x.wA x.A.in1.in1).A x.env x.oc [D,kS]=y at S2 By
 have yw:y.w=x.w:=by refine xv hy ?_;rfl
 have yA:y.A=x.A.in1.in1:=by refine xv hy ?_;rfl
 have yop:y.ρ.op=[D,kS]++x.ρ.op:=by refine xv hy ?_;rfl
 have ytch:∀a,uG y a↔uG x a:=fun a=>by refine xv hy ?_;exact Iff.rfl
 have far:∀a,Far x a→Far y a:=fun a F=>by refine xv hy ?_;exact⟨F.lo,F.ce,F.de,F.ob,F.ba,F.st,F.fr⟩
 have kx:∀{u u':zg},Kept y u u'→Kept x u u':=fun K=>⟨K.rest,fun a o e nt=>K.keep a o e fun t=>nt ((ytch a).mp t)⟩
 have close:∀{u:zg},St y fr H u→St x fr H u:=fun Su=>by rw[←hy]at Su;exact(St.closeE Su).unA
 refine xv yA ?_
 rw[←yw]at hkl h0
 refine xv yw ?_
 have ykind:y.env.kindOf qh=x.env.kindOf qh:=by refine xv hy ?_;rfl
 have hkl':∀{u:zg},St y fr H u→Kept x s u→Dy y (CL y.w.params (M+870) T (.ref lf)++[(lf,dG qual cr pm (.ref ca) ct),(ca,co)]) u.heap:=fun Su Ku e m=>by
  exact yU (hkl.kept Ku e m) fun x1 x2 x3=>⟨x1,fun q=>x2 ((ytch _).mp q),x3⟩
 have K3:Kept x s {s with heap:=h3}:=⟨⟨_,_,_,rfl⟩,fun a o e U=>⟨o,kp a o e,.refl o⟩⟩
 have fresh2:∀a,a=D∨a=kS→s.heap.get? a=none∧a∈y.ρ.op∧Far y a∧¬uG y a:=fun a h=>by
  rcases h with rfl|rfl
  ·exact⟨fD,by refine zc yop ?_;exact .head _,far _ FD,fun q=>S.notTch fD ((ytch _).mp q)⟩
  ·exact⟨fkS,by refine zc yop ?_;exact .tail _ (.head _),far _ FkS,fun q=>S.notTch fkS ((ytch _).mp q)⟩
 have size:∀{u:zg},St y fr H u→∃L,u.heap.objs.size=L+870:=fun{u} Su=>by
  have o869:u.heap.get? 869=some (VX y.w.params):=By.K.keeps Su.base _ _ ⋯
  have:869<u.heap.objs.size:=zY o869
  exact⟨u.heap.objs.size-870,zE (zN 0x3663360536633605 [u.heap.objs.size,u.heap.objs.size-870] (ze (zh (zN 0x5365332536633 [u.heap.objs.size] this rfl)).symm) rfl) (zN 0x6366335063663350 [u.heap.objs.size-870,u.heap.objs.size] (ze (zh (zN 0x5365332536633 [u.heap.objs.size] this rfl))) rfl)⟩
 have stay:∀{u u':zg},St y fr H u→Kept y u u'→(∀a o,a=D∨a=kS→u.heap.get? a=some o→o.cls=.type "list" → u'.heap.get? a=some o)∧∀j k,o4 (M+870+60) y.ρ.op cs u.heap j k→o4 (M+870+60) y.ρ.op cs u'.heap j k:=fun{u u'} Su K =>
  ⟨fun a o h e f=>K.keepN e (fresh2 a h).2.2.2 (by unfold um;refine zc f ?_;rfl),fun j k ⟨z,a,m,t,e1,e2,e3,e4⟩=>⟨z,a,m,t,e1,e2,Su.nonMut K a _ e4 e3 rfl,e4⟩⟩
 refine Ji (J:=fun u=>St y fr H u∧Kept x s u) (Kv:=o4 (M+870+60) y.ρ.op cs) (T:=.ref (M+870+60)) (kf:=fun j=>y6 ns (cs.getD j ym)==1) hne (vB 371012620819 [vs.length,cs.length] hc.1 (ze vlen.symm) rfl) (vB 0x65402362402352 [vs.length,cs.length] hc.2 (ze vlen) rfl) (fun u a h' Ju ha sb ex=>?_) (fun j v hv u Ju=>?_) (fun i j ki kj u hi hj Ju ka kb C hC=>?_) (fun u j k Ju hk=>?_) rfl (by simp) ⟨S2,K3⟩ gk gD fun u c Ju hD=>⟨rfl,?_⟩
 ·refine zK Ju fun Su Ku=>?_;clear Ju
  refine Qi (fresh2 a ha) fun f1 f2 f3 f4=>⟨⟨St.other (tk:=u.toks) Su f2 f3 f4 (fun b o hb e=>(sb.2 b hb).trans e) ex,?_⟩,fun j k ⟨z,b,m,t,q1,q2,q3,q4⟩=>⟨z,b,m,t,q1,q2,(sb.2 b fun q=>q4 (q▸f2)).trans q3,q4⟩⟩
  refine xd Ku.rest fun hh t d z3=>?_;subst z3
  refine⟨⟨_,_,_,rfl⟩,fun b o e nt=>?_⟩
  exact zt (Ku.keep b o e nt) fun o' e' q=>⟨o',(sb.2 b fun z=>by rw[z,f1]at e;exact nS e).trans e',q⟩
 ·refine zK Ju fun Su Ku=>?_;clear Ju
  refine yW (vat j v hv) fun z t hz z3=>?_;subst z3
  refine yf (size Su) fun L hL=>?_
  have hd:y.A.depth+80<recursionLimit:=by have:=By.room.de;show _<1000;exact vB 0x21360539333623e8335023502 [y.A.depth,n] hn this rfl
  have hkl':=(hkl' Su Ku)
  refine yL (E0 hd (By.K.keeps Su.base) (fun e m=>(hkl' e (xV _ m)).1) Su.lim.no hL fun u' hu' ku hx=>?_)
  refine Y5 hu' fun h' tk z2=>?_;clear hu';subst z2
  have X:Ext u {u with heap:=h',toks:=tk}:=⟨⟨_,_,_,rfl⟩,ku⟩
  have hno:u.heap.get? (L+870+1)=none:=Ww (by refine zc hL ?_;exact vz _)
  refine⟨⟨Su.ext X,Ku.trans (X.kept x)⟩,⟨fun a o U e U=>ku a o e,fun j k ⟨z,a,m,t,q1,q2,q3,q4⟩=>⟨z,a,m,t,q1,q2,ku _ _ q3,q4⟩⟩,z,L+870+1,L+870,t,hz,rfl,hx,Su.notOp hno⟩
 ·refine zK Ju fun Su Ku=>?_;clear Ju
  refine xd ka fun z a m z3=>?_;clear ka;refine VE z3 fun t q1 z6 q3 q4=>?_;clear z3;subst z6
  refine xd kb fun z' a' m' z3=>?_;clear kb;refine VE z3 fun t' q1' z6 q3' q4'=>?_;clear z3;subst z6
  have hkl':=(hkl' Su Ku)
  refine xk (Su.frame.2.1 qh _ (.inl (ykind.trans hkind)) hlk) fun c rv w1 w2 w3=>?_
  have ec:c=cr:=by rw[←hy]at w1;have w1:x.env.cells.lookup qh=some c:=w1;rw[hcr]at w1;exact(zf w1).symm
  subst ec
  have hu:y.A.units<cLine:=by have:=By.room.un;show _<9900;exact vB 0x21360a1341130539333a13162a13426ac4352 [y.A.units,n] (zF 10 hn) this rfl
  have e1:cs.getD i ym=z:=by refine zc yP (zc q1 ?_);rfl
  have e2:cs.getD j ym=z':=by refine zc yP (zc q1' ?_);rfl
  refine E3 By (zN 0x393335239733213502 [n] hn rfl) hu Su h0 h1 hm hS (zN 70520444994357 [cs.length] hc.2 rfl) (zH q1) (zH q1') (cr:=c) (rv:=rv) (T:=T) (lf:=lf) (ca:=ca) (pm:=pm) (ct:=ct) (co:=co) (qual:=qual) (M:=M) (m1:=m) (m2:=m') (tp:=t) (tq:=t')
   ⟨fun e m=>?_,fun e m=>?_,hco⟩ (fun e m=>?_) w3 fun u' S' K'=>?_
  ·exact yU (hkl' e (xV _ m)) fun x1 x2 x3=>⟨x1,fun q=>x2 (.inr (.inr q)),x3⟩
  ·rcases zn.mp m with rfl|m
   ·exact yU (hkl' _ (zD _ (.head _))) fun x1 x2 x3=>⟨x1,fun q=>x2 (.inr (.inr q)),x3⟩
   ·rcases zn.mp m with rfl|m
    ·exact⟨w2,(Su.own.2 _ (xb w1)).1,rfl⟩
    ·exact zc (zd.mp m) (yU (hkl' _ (zD _ (.tail _ (.head _)))) fun x1 x2 x3=>⟨x1,fun q=>x2 (.inr (.inr q)),x3⟩)
  ·rcases zn.mp m with rfl|m
   ·exact⟨q3,fun q=>Su.ntI q3 rfl (.inr (.inr q)),rfl⟩
   ·exact zc (zd.mp m) ⟨q3',fun q=>Su.ntI q3' rfl (.inr (.inr q)),rfl⟩
  ·have:=hC u' ⟨S',Ku.trans (kx K')⟩ (stay Su K')
   refine zc (sQ ..) ?_
   unfold QS at this
   dsimp only at this
   rw[e1,e2]at this
   exact this
 ·refine xd hk fun z a m z3=>?_;clear hk;refine VE z3 fun t q1 z6 q3 q4=>?_;clear z3;subst z6
  exact(tY q3).andThen .now
 ·refine zK Ju fun Su Ku=>?_;clear Ju
  refine g _ u ?_ (close Su) Ku
  refine⟨D,_,rfl,fun q=>?_,⟨_,hD,rfl,c,rfl⟩,cH (by simp[Xh,vlen]) fun j v hv=>?_⟩
  ·refine yf (S.opn D q) fun o e=>?_
   rw[fD]at e;exact nS e
  ·have hv:(tg (fun i=>vs.getD i xn) (TO (fun j=>y6 ns (cs.getD j ym)==1) vs.length))[j]?=some v:=hv
   rw[yF,vlen]at hv
   refine zc yF ?_
   cases e:(TO (fun j=>y6 ns (cs.getD j ym)==1) cs.length)[j]? with
   |none=>rw[e]at hv;exact nS hv
   |some i =>
    rw[e]at hv
    have hv:some (vs.getD i xn)=some v:=hv
    have hi:i<cs.length:=by
     have:=zH e
     rcases zv.mp this with q|q
     ·exact(lR q).1
     ·exact(nO q).1
    refine yW (vat i _ (zC (vB 1965454930 [i,vs.length,cs.length] (ze vlen.symm) hi rfl))) fun z t q1 q2=>?_
    refine⟨cs.getD i ym,t,rfl,?_⟩
    injection hv with hv
    refine xv hv (zc yP (zc (zC (vB 1965454930 [i,vs.length,cs.length] (ze vlen.symm) hi rfl)) (zc yP (zc q1 ?_))))
    exact q2
end
end
section
theorem dW{α β:Type}{p q:α→Bool}{f:α→β}:∀{l:List α},(∀a∈l,p a=q a)→(l.filter p).map f=l.filterMap fun a=>bif q a then some (f a)else none:=by
 intro l0
 induction l0 with
 |nil =>
  intro _
  exact rfl
 |cons a l ih =>
  intro h
  have ih:=(ih fun b m=>h b (.tail _ m))
  have e:=h a (.head _)
  refine zc TT (zc yr (zc e ?_))
  cases q a with
  |true=>simp[ih]
  |false=>exact ih
theorem pz(hu:us=cs.map (y6 ns)):(TO (fun j=>y6 ns (cs.getD j ym)==1) cs.length).map (fun j=>cs.getD j ym)=bE cs us:=by
 have e:∀j,j<cs.length→us.getD j 0=y6 ns (cs.getD j ym):=fun j hj=>by
  refine zc hu (zc yP (zc yF (zc (zC hj) (zc yP (zc (zC hj) ?_)))))
  rfl
 refine zc yc ?_
 congr 1
 ·refine dW fun j m=>zc (e j (wD.mp m)) ?_
  dsimp only
  rcases ft ns (cs.getD j ym)with h|h<;>refine zc h ?_<;>rfl
 ·exact dW fun j m=>zc (e j (wD.mp m)) rfl
theorem oK(hcl:W9 (qG LX) env=pure [(qh,cr)])(hge0:env.globals=eX)(hg:s.heap.Ns eX mg)(hcode:env.code=.ref 868)(C:CodeHd s.heap 868 866)(hP:s.heap.get? 866=some (tabObj #[]))(hb:s.heap.BuiltinsAt mg 866)(h:∀c' oc vs t ctv h' tk,Heap.ExtBut 866 s.heap h'→s.heap.objs.size≤c'→c'<h'.objs.size→h'.get? c'=some oc→oc.cls=.type "code" → oc.data=.fields vs→vs[1]?=some (.str qual t)→(∃ps,h'.get? 866=some (aC ps)) →
   Q (.ref h'.objs.size) {s with heap:=h'.push (dG qual cr ((mg "__name__").getD .none) (.ref c') ctv),toks:=tk}):
  zr M A (makeFunction "<lambda>" qual (dI LX) (.expr (Vy LX)) (qG LX) env [] [] [] pos firstLine) Q E s:=by
 refine x7 hb fun bm ob hbm hne0 U z5=>?_;clear hb;refine Kq z5 fun hneP hbo hcls hdict hdata=>?_;clear z5
 refine zc (makeFunction_eq ..) ?_
 simp only[List.zip_nil_right,ZM,List.isEmpty_nil,if_true,pure_bind]
 unfold makeTail
 refine zc hcl (zc hge0 ?_)
 refine zb (wpAny_pure ?_)
 refine zb (wpAny_newTextTuple ?_)
 refine zb (wpAny_functionCodeX hcode ((C.keeps fun b o e=>zq _ e).code (zq _ hP) trivial) ((C.keeps fun b o e=>zq _ e).tab (zq _ hP)) rfl fun c' h' tk hx hge hlt U hrec htb hc2=>?_)
 have hg':=(hg.push _).extBut hx (by decide)
 have hx':Heap.ExtBut 866 s.heap h':=fun b o hb' e=>hx b o hb' (zq _ e)
 have hge':s.heap.objs.size≤c':=yv (by rw[xu];exact Tg 1127685 [s.heap.objs.size] rfl) hge
 refine zb (wpAny_builtinsFor hg' hbm hne0 (hx' _ _ hneP hbo) hcls hdict hdata ?_)
 refine zb (wpAny_nsGet hg' ?_)
 refine wO hc2 fun P' z1 z2 z3=>?_;clear hc2;clear z1;clear z2;obtain⟨⟨o,vs,q1,q2,q3,-⟩,-⟩:=z3
 refine xd hrec fun c2 o2 vs2 z3=>?_;clear hrec;refine VE z3 fun t z r1 r2 r3=>?_;clear z3
 cases z
 rw[q1]at r1
 replace r1:=zf r1;subst r1
 exact zb (wpAny_pure (yQ (h c' o vs2 t _ h' tk hx' hge' hlt q1 q2 r2 r3 ⟨_,htb.2⟩) (by size_fits)))
end
section
noncomputable abbrev L4:Expr:=wV (zm yC 10)
noncomputable abbrev EW:Str:=za "key"
noncomputable abbrev EX:Str:=za "cmp_to_key"
theorem BP:zm yC 10=.Assign [.Name EW (mB (zm yC 10))] (.Call (.Name EX (tr L4)) [LX] [] (qa L4)) (zm yC 10).pos:=⋯
theorem pL(h:env.cells.lookup qh=some cr):W9 (qG LX) env=pure [(qh,cr)]:=by
 have e:(qG LX).names=[(AN,.local),(AM,.local),(qh,.free)]:=⋯
 have c:lh env qh=pure cr:=by unfold lh;exact zc h rfl
 unfold W9
 refine zc e ?_
 simp only[XF,cz,c]
 rfl
theorem oM(env:Qx):zR LX env=makeFunction "<lambda>" (env.qual ++ "<lambda>") (dI LX) (.expr (Vy LX)) (qG LX) env [] [] [] (oO LX) (oO LX).line:=by
 refine(congrArg (zR · env) IY).trans ((arm_eval_Lambda _ _ _ _ _).trans ?_)
 have d:defaultsOf (dI LX) env=([],[]):=⋯
 refine zc d ?_
 rfl
theorem KL(X:(KF P).In h):CodeHd h 868 866:=
 ⟨oR P,_,_,_,_,_,_,_,_,X _ _ ⋯,rfl,rfl,rfl,rfl,rfl,rfl,rfl,rfl,by decide⟩
theorem KV(B:Base n x)(X:(KF x.w.params).In h):h.BuiltinsAt (b9 (Wh (rC x.w.params))) 866:=
 ⟨4,Nu x.w.params,⋯,by decide,by decide,by decide,X _ _ ⋯,rfl,rfl,rfl⟩
theorem L8(w:ya)(x:Cx)(H:Hp)(s a n d f g l c r u t:AV)(k:AV→Hp→Prop):(evX (wF w) x 20).e (.Name EX (tr L4)) (cg s a n d f g l c r u t) H k=k (.glob (.ref 794)) H:=⋯
theorem Mf(s a n d f g l c r u t y:AV):xp EW y (cg s a n d f g l c r u t)=dT s a n d f g l c r u t y:=⋯
theorem LA:∀e∈CL P N T v,um e.2=false:=by
 intro e m
 simp only[CL,zn,yV,or_false]at m
 rcases m with rfl|rfl|rfl|rfl|rfl|rfl|rfl|rfl<;>rfl
theorem Lz:∀e∈CL P N T v,N≤e.1:=by
 intro e m
 simp only[CL,zn,yV,or_false]at m
 rcases m with rfl|rfl|rfl|rfl|rfl|rfl|rfl|rfl<;>exact wY _ _
theorem Far.nt{x:Cx}{fr:y3}{H:Hp}{s:zg}{a:zI}(F:Far x a)(S:St x fr H s):¬uG x a:=fun t=>by
 rcases t with t|t|t
 ·exact F.lo t
 ·exact F.ce (S.ocs a t)
 ·exact F.de t
structure KeptB(x:Cx)(s s':zg):Prop where
 rest:∃h t d,s'={s with heap:=h,toks:=t,drawn:=d}
 keep:∀a o,a≠789→a≠866→s.heap.get? a=some o→¬uG x a→∃o',s'.heap.get? a=some o'∧tu o o'
 t7:∃ps,s'.heap.get? 789=some (aC ps)
 t8:∃ps,s'.heap.get? 866=some (aC ps)
theorem Ff{n:Nat}{w:ya}{x:Cx}(Z:Yo n w x)(hn:n<900){H:Hp}{s:zg}{p a na d f g l c r u t:AV}{cr:zI}(S:St x (cg p a na d f g l c r u t) H s)(hcode:x.env.code=.ref 868)(hgl:x.env.globals=3)(g7:s.heap.get? 789=some ZC)(g8:s.heap.get? 866=some ZC)(g2:s.heap.get? 2=some (cp w.params))(F7:Far x 789)(F8:Far x 866)(o7:789∉x.ρ.op)(o8:866∉x.ρ.op)(hcr:x.env.cells.lookup qh=some cr){Q:Qw→zg→Prop}{E:zi→zg→Prop}(q:∀s' M T lf ca qual pm ct co,St x (dT p a na d f g l c r u t (.glob (.ref (M+870+60)))) H s'→Dy x (CL w.params (M+870) T (.ref lf)++[(lf,dG qual cr pm (.ref ca) ct),(ca,co)]) s'.heap→(∃vs t,co.data=.fields vs∧vs[1]?=some (.str qual t))→KeptB x s s'→Q .next s'):
  zr (zu pw x.w) x.A (tx (zm yC 10) x.env) Q E s:=by
 have hw:=Z.hw
 subst hw
 have hk:x.env.kindOf EW=some .local:=(xl Z.fits _).trans ⋯
 have K0:(KF x.w.params).In x.B:=Z.base.K
 refine zc BP (uV ?_ (vJ ⋯))
 refine vm ((Z.evX (zN 0x38433523d43352 [n] hn rfl) 20).e (.Name EX (tr L4)) (cg p a na d f g l c r u t) H (fun v H'=>v=.glob (.ref 794)∧H'=H) (by
  refine(?_:(evX (wF x.w) x 20).e _ _ _ _)
  refine zw (L8 ..) ?_;exact⟨rfl,rfl⟩) s S _ _ fun v av H' s1 z cv S1 K1=>?_)
 obtain⟨rfl,z⟩:=z
 replace z:=z.symm
 subst z
 have:=wo cv
 subst this
 refine ZH (P:=(KF x.w.params).In) ⋯ (Xk ⋯) (w8 ⋯ ⋯ (uv ?_))
 refine zc (oM ..) ?_
 have kp1:∀{a o},s.heap.get? a=some o→Far x a→um o=false→s1.heap.get? a=some o:=fun e F f=>K1.keepN e (F.nt S) f
 refine oK (mg:=b9 (Wh (rC x.w.params))) (pL hcr) hgl (Z.base.mg.keeps S1.base) hcode (KL (K0.keeps S1.base)) (kp1 g8 F8 rfl) (KV Z.base (Z.base.K.keeps S1.base)) fun ca co vs t0 ctv h1 tk hx hge hlt hca hcc hcd hcv h866=>?_
 have x789:s1.heap.get? 789=some ZC:=kp1 g7 F7 rfl
 have x2:s1.heap.get? 2=some (cp x.w.params):=K1.keepN g2 (fun tt=>(S.apart 2 tt).2 rfl) rfl
 generalize hlo:dG _ _ _ _ _=lo
 have hlf:um lo=false:=by refine xv hlo ?_;rfl
 have hlm:lo.isFreed=false:=by refine xv hlo ?_;rfl
 have k1:∀b o,b≠866→s1.heap.get? b=some o→(h1.push lo).get? b=some o:=fun b o hb e=>zq _ (hx b o hb e)
 have S2:St x (cg p a na d f g l c r u t) H {s1 with heap:=h1.push lo,toks:=tk}:=St.otherMut S1 F8 (F8.nt S1) o8 (fun o e=>by rw[kp1 g8 F8 rfl]at e;(replace e:=zf e;subst e);rfl) k1
 have glf:(h1.push lo).get? h1.objs.size=some lo:=zx _ hlm
 have gca:(h1.push lo).get? ca=some co:=zq _ hca
 obtain⟨M,hM⟩:∃M,(h1.push lo).objs.size=M+870:=by
  have:869<s1.heap.objs.size:=zY ((K0.keeps S1.base) _ _ (show(KF x.w.params).lookup 869=some (VX x.w.params) from⋯))
  have e:(h1.push lo).objs.size=h1.objs.size+1:=xu _ _
  exact⟨(h1.push lo).objs.size-870,by omega⟩
 refine Xs (wpAny_pure ⟨K0.keeps S2.base,?_⟩)
 have hd:x.A.depth+70<recursionLimit:=by have:=Z.base.room.de;show _<1000;exact vB 0x6538433623e8334623502 [x.A.depth,n] hn this rfl
 have y789:=k1 789 _ (by decide) x789
 refine o0 (v:=.ref h1.objs.size) hd (K0.keeps S2.base) y789 (k1 2 _ (by decide) x2) hM rfl fun s3 hs3 k3 hT cl3=>Y5 hs3 fun h3 tk3 z2=>?_;clear hs3;subst z2
 have S3:St x (cg p a na d f g l c r u t) H {s1 with heap:=h3,toks:=tk3}:=by
  have z:=St.otherMut (tk:=tk3) (h':=h3) S2 F7 (F7.nt S2) o7 (fun o e=>by rw[y789]at e;(replace e:=zf e;subst e);rfl) fun b o hb e=>k3 b o e hb
  exact z
 have nt:∀b,s1.heap.objs.size≤b→¬uG x b:=fun b hb=>S1.notTch (Ww hb)
 have n789:∀b,s1.heap.objs.size≤b→b≠789:=fun b hb z=>by
  have:789<s1.heap.objs.size:=zY x789
  rw[z]at hb
  exact absurd this (Un.mpr hb)
 have hsz:s1.heap.objs.size≤h1.objs.size:=vA (xj hge hlt)
 have hM':h1.objs.size+1=M+870:=by refine xv hM ?_;exact(xu _ _).symm
 have D3:Dy x (CL x.w.params (M+870) {s1 with heap:=h1.push lo,toks:=tk}.toks (.ref h1.objs.size)++[(h1.objs.size,lo),(ca,co)]) h3:=fun e m=>by
  rcases zv.mp m with m|m
  ·refine⟨cl3 e m,nt _ (yv hsz (yv ?_ (Lz e m))),LA e m⟩
   refine xv hM' ?_;exact vz _
  ·rcases zn.mp m with rfl|m
   ·exact⟨k3 _ _ glf (n789 _ hsz),nt _ hsz,hlf⟩
   ·refine zc (zd.mp m) ?_
    exact⟨k3 _ _ gca (n789 _ hge),nt _ hge,by unfold um;refine zc hcc ?_;rfl⟩
 subst hlo
 refine wv (kk:=fun fr' H'=>fr'=dT p a na d f g l c r u t (.glob (.ref (M+870+60)))∧H'=H) Z.fits.fn (.inl hk) ⟨Mf ..,rfl⟩ S3 (by rfl) fun fr' H' s4 hh S4 K4=>?_
 obtain⟨rfl,hh⟩:=hh
 subst hh
 refine yf hT fun ps7 e7=>?_;clear hT
 refine yf h866 fun ps8 e8=>?_;clear h866
 refine q s4 M _ _ ca _ _ _ co S4 (D3.kept K4) ⟨vs,t0,hcd,hcv⟩ ⟨?_,fun a o a7 a8 e t=>?_,⟨ps7,K4.keepN e7 (F7.nt S3) rfl⟩,⟨ps8,K4.keepN (k3 _ _ (zq _ e8) (by decide)) (F8.nt S3) rfl⟩⟩
 ·exact xd K1.rest fun U U U e1=>xd K4.rest fun U U U e4=>⟨_,_,_,e4.trans (by exact zc e1 rfl)⟩
 ·exact zt (K1.keep a o e t) fun o1 e1 m1=>zt (K4.keep _ _ (k3 _ _ (k1 _ _ a8 e1) a7) t) fun o2 e2 m2=>⟨o2,e2,m1.trans m2⟩
end
section
noncomputable abbrev DB:Expr:=wV (zm yC 11)
noncomputable abbrev LW:Expr:=wx (xC DB) 0
noncomputable abbrev rI:Expr:=wx (xC (wx (xC LW) 0)) 0
noncomputable def oP(e:Expr):List tA:=(xM e).2.1
noncomputable abbrev n9:Str:=za "laid"
noncomputable abbrev EU:Str:=za "sorted"
theorem BO:zm yC 11=.Assign [.Name n9 (mB (zm yC 11))] (.Call (.Name EU (tr DB)) [LW] (oP DB) (qa DB)) (zm yC 11).pos:=⋯
theorem EH:rI=f6 rI VW:=⋯
theorem IQ:wP (Yq P) (zM rI)=true:=⋯
section
variable (w:ya) (x:Cx) (H:Hp) (s a n d f g l r u t y z:AV) (c:List AV) (p:Str)
theorem L7(k:AV→Hp→Prop):(evX (wF w) x 30).e LW (dT s a n d f g l (.list c) r u t y) H k=zL x (dT s a n d f g l (.list c) r u t y) H (zR rI x.env) fun b H1=>YY [.str (za " "),b] [] H1 fun e H2=>Vw [e] [] H2 k:=⋯
theorem Ed(k:AV→Hp→Prop):(evX (wF w) x 20).e (x5 rI 0) (dT s a n d f g l (.list c) r u t y) H k=k (.list c) H:=⋯
theorem Ee(k:AV→Hp→Prop):(evX (y8 w rI) x 20).e (w6 rI) (xp VW (.str p) (wf (zM rI).names (dT s a n d f g l (.list c) r u t y))) H k=bb [.str p] [] H k:=⋯
theorem Ec(k:AV→Hp→Prop):(evX (wF w) x 20).e (.Name EU (tr DB)) (dT s a n d f g l (.list c) r u t y) H k=k (.glob (.builtin "sorted")) H:=⋯
theorem Eb(k:List AV→Hp→Prop):(evX (wF w) x 20).w (oP DB) (dT s a n d f g l (.list c) r u t y) H k=k [y] H:=⋯
theorem Me:xp n9 z (dT s a n d f g l (.list c) r u t y)=pv s a n d f g l (.list c) r u t y z:=⋯
end
theorem f7{n:Nat}{w:ya}{x:Cx}(Z:Yo n w x)(hn:n<920){H:Hp}{s a na d f g l r u t y:AV}{cs:List Str}{N:Nat}(hl:cs.length≤300∧∀c∈cs,c.length≤102)(hx:vh N (wc (za " ") (cs.map wN)).cps.toList=some (cs.map fun t=>t.cps.toList)){k:AV→Hp→Prop}(h:k (.list (cs.map .str)) H):zL x (dT s a na d f g l (.list (cs.map .str)) r u t y) H (zR LW x.env) k:=by
 refine(Z.evX (zN 0x39833523d43352 [n] hn rfl) 30).e _ _ _ _ ((?_:(evX (wF w) x 30).e _ (dT s a na d f g l (.list (cs.map .str)) r u t y) H k))
 refine zw (L7 ..) (zc EH ?_)
 refine Z.comp_map IQ ⋯ (fun U=>rfl) ((Z.evX (zN 0x39833523d43352 [n] hn rfl) 20).e _ _ _ _ ?_)
 refine(?_:(evX (wF w) x 20).e _ (dT s a na d f g l (.list (cs.map .str)) r u t y) H _)
 refine zw (Ed ..) ?_
 refine⟨cs.map .str,_,rfl,trivial,by refine zc (zj ..) (zc zy ?_);exact zN 0x12c3351000000735 [cs.length] hl.1 rfl,uA.all (f:=IR wN) fun b hb y' Zy=>?_,?_⟩
 ·refine zt (zB.mp hb) fun p hp z2=>?_;subst z2
  refine(Zy.evX (zN 0x39833523d43352 [n] hn rfl) 20).e _ _ _ _ ((?_:(evX (y8 w rI) y' 20).e _ (xp VW (.str p) (wf (zM rI).names (dT s a na d f g l (.list (cs.map .str)) r u t y))) H _))
  exact zw (Ee ..) ⟨rfl,p,rfl,(Zb (yv (hl.2 p hp) (by decide))).1,rfl,rfl⟩
 ·refine zc (bD ..) (Zg ?_)
  have fit:∀y∈cs.map wN,y.length≤6002:=fun y hy=>by
   refine zt (zB.mp hy) fun p hp z2=>?_;subst z2
   exact(Zb (yv (hl.2 p hp) (by decide))).2
  refine⟨tP (a:=6002) fit (by refine zc (zj ..) ?_;show _*(6002+1)≤_;exact zN 0x12c33177343151773434100000073113177243051 [cs.length] (zF 6003 hl.1) rfl),rfl,_,N,cs,rfl,⟨hx,?_,by refine zc zy ?_;exact zN 0x12c3351000000735 [cs.length] hl.1 rfl⟩,h⟩
  have:=Zh (sep:=za " ") (ss:=cs.map wN) (a:=6002) fit
  rw[zj]at this
  have e:(za " ").length=1:=by decide
  rw[e]at this
  exact zc zy (vB 0x113177243061512c3317734316177343410000007352 [(wc (za " ") (tg wN cs)).length,cs.length] (zF 6003 hl.1) this rfl)
theorem AL{n:Nat}{w:ya}{x:Cx}(Z:Yo n w x)(hn:n<900){H:Hp}{st:zg}{s a na d f g l u t:AV}{ns cs zs:List Str}{us:List Int}{N:Nat}(hl:(2≤cs.length∧cs.length<64)∧∀c∈cs,c.length≤102)(hx:vh N (wc (za " ") (cs.map wN)).cps.toList=some (cs.map fun t=>t.cps.toList)){f0:List (Str×AV)}{qual:Str}{M T:Nat}{lf ca cr:zI}{pm ct:zi}{co:xK}(S:St x (dT s a na d f g l (.list (cs.map .str)) (.list [.obj 0,.obj 2]) u t (.glob (.ref (M+870+60)))) H st)(h0:H[0]?=some (RD w ns 1))(h1:H[1]?=some (.dict f0))(hm:MemoOk ns cs f0)(hS:SetOk ns)(hkl:Dy x (CL w.params (M+870) T (.ref lf)++[(lf,dG qual cr pm (.ref ca) ct),(ca,co)]) st.heap)(hco:∃vs t,co.data=.fields vs∧vs[1]?=some (.str qual t))(hcr:x.env.cells.lookup qh=some cr)(hz:zs=bE cs us)(hu:us=cs.map (y6 ns)){Q:Qw→zg→Prop}{E:zi→zg→Prop}(q:∀s',St x (pv s a na d f g l (.list (cs.map .str)) (.list [.obj 0,.obj 2]) u t (.glob (.ref (M+870+60))) (.list (zs.map .str))) H s'→Kept x st s'→Q .next s'):zr (zu pw x.w) x.A (tx (zm yC 11) x.env) Q E st:=by
 have hw:=Z.hw
 subst hw
 have hk:x.env.kindOf n9=some .local:=(xl Z.fits _).trans ⋯
 have hr:x.env.kindOf qh=some .cell:=(xl Z.fits _).trans ⋯
 refine zc BO (uV ?_ (vJ ⋯))
 refine vm ((Z.evX (zN 0x38433523d43352 [n] hn rfl) 20).e (.Name EU (tr DB)) (dT s a na d f g l (.list (cs.map .str)) (.list [.obj 0,.obj 2]) u t (.glob (.ref (M+870+60)))) H (fun v H'=>v=.glob (.builtin "sorted")∧H'=H) (by
  refine(?_:(evX (wF x.w) x 20).e _ _ _ _)
  refine zw (Ec ..) ?_;exact⟨rfl,rfl⟩) st S _ _ fun v av H' s1 z cv S1 K1=>?_)
 obtain⟨rfl,z⟩:=z
 replace z:=z.symm
 subst z
 have:=wo cv
 subst this
 refine ZH (P:=(KF x.w.params).In) ⋯ (Xk rfl) (w8 ⋯ ⋯ (uv ?_))
 refine f7 Z (zN 0x38433523983352 [n] hn rfl) (N:=N) ⟨zN 70520444994357 [cs.length] hl.1.2 rfl,hl.2⟩ hx (k:=fun v H'=>v=.list (cs.map .str)∧H'=H) ⟨rfl,rfl⟩ s1 S1 _ _ fun v av H' s2 z c2 S2 K2=>?_
 obtain⟨rfl,z⟩:=z
 replace z:=z.symm
 subst z
 refine Xs ?_
 refine(Z.evX (zN 0x38433523d43352 [n] hn rfl) 20).w (oP DB) (dT s a na d f g l (.list (cs.map .str)) (.list [.obj 0,.obj 2]) u t (.glob (.ref (M+870+60)))) H (fun vs H'=>vs=[.glob (.ref (M+870+60))]∧H'=H) _ ⋯ (by
  refine(?_:(evX (wF x.w) x 20).w _ _ _ _)
  refine zw (Eb ..) ?_;exact⟨rfl,rfl⟩) s2 S2 _ _ fun ks avs H' s3 z c3 S3 K3=>?_
 obtain⟨rfl,z⟩:=z
 replace z:=z.symm
 subst z
 refine xk c3 fun kv r0 z2 ck cn=>?_;clear c3;subst z2
 subst cn
 have:=wo ck
 subst this
 refine⟨Z.base.K.keeps S3.base,?_⟩
 refine mT (ns:=ns) (cs:=cs) (f0:=f0) Z.base (zN 0x38433523933352 [n] hn rfl) S3 h0 h1 hm hS hl.1 (((hkl.kept K1).kept K2).kept K3) hco hr ⋯ hcr (c2.mono (S2.nonMut K3)) fun r s4 c4 S4 K4=>?_
 rw[pz hu,←hz]at c4
 refine wv (kk:=fun fr' H'=>fr'=pv s a na d f g l (.list (cs.map .str)) (.list [.obj 0,.obj 2]) u t (.glob (.ref (M+870+60))) (.list (zs.map .str))∧H'=H) Z.fits.fn (.inl hk) ⟨Me ..,rfl⟩ S4 c4 fun fr' H' s5 hh S5 K5=>?_
 obtain⟨rfl,hh⟩:=hh
 subst hh
 exact q s5 S5 (K1.trans (K2.trans (K3.trans (K4.trans K5))))
end
section
theorem bF(S:St x fr H s)(h:s.heap.get? a=some ZC)(hc:a∉x.env.cells.map (·.2))(hd:a∉x.δ)(hB:x.B.get? a=none)(h2:a≠tX):Far x a where
 lo e:=by
  refine zK S.frame fun z0 z1=>?_;obtain⟨mm,⟨o,es,ep,q,d,-⟩,-⟩:=z0;clear z1
  rw[←e,h]at q
  replace q:=zf q;subst q
  cases d
 ce:=hc
 de:=hd
 ob e:=by
  obtain⟨i,hi,e⟩:=vq.mp e
  refine xk (S.objs i (H[i]'(yq hi S.ol)) (zC _)) fun b d p q r=>?_
  rw[zC hi,e]at p
  replace p:=zf p;subst p
  cases z:(H[i]'(yq hi S.ol))with
  |inst C fs=>rw[z]at r;have r1:=r.1;rw[h]at r1;cases r1
  |dict fs=>rw[z]at r;(refine zK r fun z0 z1=>?_;clear r;subst z0;refine yW z1 fun es n y z5=>?_;clear z1;clear z5);rw[h]at y;cases y
 ba:=hB
 st:=h2
 fr e:=by
  refine yU (S.frs a e) fun z0 z1 z2=>?_;clear z0;clear z1;refine VD z2 fun o es ep q z7 d=>?_;clear z2;clear z7
  rw[h]at q
  replace q:=zf q;subst q
  cases d
theorem pX:yC=[zm yC 0,zm yC 1,zm yC 2,zm yC 3,zm yC 4,zm yC 5,zm yC 6,zm yC 7,zm yC 8,zm yC 9,zm yC 10,zm yC 11,zm yC 12]:=⋯
structure PlainOk(ms:List Int):Prop where
 len:ms.length≤100
 wl:(wL ms).length≤100∧∀b∈wL ms,b.length≤1000
 nl:(xh ms).length≤100∧∀b∈xh ms,b.length≤100
 one:LineOk (To (wL ms)) (wL ms) (xh ms)
 two:∃us,LineOk (Xg (xh ms)) us (xh ms).reverse
 set:SetOk (xh ms)
 calls:(2≤(wg (xh ms)).length∧(wg (xh ms)).length<64)∧∀c∈wg (xh ms),c≠aG∧c.length≤102
 due:(wg (xh ms)).map (Qj (xh ms))=(wg (xh ms)).map (y6 (xh ms))
 rev:(wg (xh ms)).map (y6 (xh ms).reverse)=(wg (xh ms)).map (y6 (xh ms))
 lex:∃N,vh N (wc (za " ") ((wg (xh ms)).map wN)).cps.toList=some ((wg (xh ms)).map fun t=>t.cps.toList)
theorem VC{M:fb}{A:y1}{E:zi→zg→Prop}{s:zg}{env:Qx}{st:yX}{rest:List yX}{Q:Qw→zg→Prop}(h:zr M A (xN [st] env) (fun f s'=>match f with|.next=>zr M A (xN rest env) Q E s'|f=>Q f s') E s):zr M A (xN (st::rest) env) Q E s:=by
 refine zO fun Γ p hΓ=>?_
 have h:=h Γ p hΓ
 rw[execs_cons,wS]at h
 refine Yz M Γ _ (fun f p' s' h'=>?_) (fun U U U h'=>h') _ _ h
 cases f<;>exact h'
end
section
theorem tN(S:St x fr H s)(R:zQ x fr H t fun f fr' H'=>f=.next∧fr'=F∧H'=G)(g:∀s',St x F G s'→Kept x s s'→Q .next s'):zr (zu pw x.w) x.A t Q E s:=
 R s S Q E fun f a fr' H' s' h cf S' K'=>by
  refine yU h fun z0 z1 z2=>?_;clear h;subst z0;subst z1;subst z2
  cases cf
  exact g s' S' K'
structure Stays(B:xO)(P:zI→Prop)(s s':zg):Prop where
 rest:∃h t d,s'={s with heap:=h,toks:=t,drawn:=d}
 keep:∀a o,a≠789→a≠866→s.heap.get? a=some o→um o=false→¬P a→s'.heap.get? a=some o
 base:∀a o,B.get? a=some o→s'.heap.get? a=some o
 t7:∃ps,s'.heap.get? 789=some (aC ps)
 t8:∃ps,s'.heap.get? 866=some (aC ps)
theorem qZ{s s' s'':zg}(a:∃h t d,s'={s with heap:=h,toks:=t,drawn:=d})(b:∃h t d,s''={s' with heap:=h,toks:=t,drawn:=d}):∃h t d,s''={s with heap:=h,toks:=t,drawn:=d}:=by
 refine xd a fun U U U z3=>?_;clear a;subst z3
 refine xd b fun U U U z3=>?_;clear b;subst z3
 exact⟨_,_,_,rfl⟩
theorem AK{n:Nat}{w:ya}{x:Cx}(Z:Yo n w x)(hn:n<890)(hob:x.ρ.ob=[])(hδ:x.δ=[])(hop:x.ρ.op=[]){s:zg}{ns:List Int}(hl:ns.length≤10000)(S:St x (Bh (.list (ns.map .int))) [] s)(hcode:x.env.code=.ref 868)(hgl:x.env.globals=3)(g7:s.heap.get? 789=some ZC)(g8:s.heap.get? 866=some ZC)(g2:s.heap.get? 2=some (cp w.params))(B7:x.B.get? 789=none)(B8:x.B.get? 866=none)(c7:789∉x.env.cells.map (·.2))(c8:866∉x.env.cells.map (·.2))(PL:∀ms:List Int,ms.length≤3→PlainOk (ms++uC)){Q:Qw→zg→Prop}{E:zi→zg→Prop}(q:∀s',Stays x.B (uG x) s s'→Q (.ret (.bool true)) s'):zr (zu pw x.w) x.A (xN yC x.env) Q E s:=by
 refine zc pX (VC (Jg Z (zN 0x37a33523983352 [n] hn rfl) hl (k:=fun f fr H=>f=.next∧∃ms:List Int,ms.length≤3∧fr=jb (.list (ns.map .int)) (.list ((ms++uC).map .int))∧H=[]) (fun ms h=>⟨rfl,ms,h,rfl,rfl⟩) s S _ _ fun f af fr' H' s1 hk cf S1 K1=>?_))
 refine zK hk fun z0 z1=>?_;clear hk;subst z0;refine wO z1 fun ms hms z4 z5=>?_;clear z1;subst z4;subst z5
 cases cf
 have P:=PL ms hms
 generalize ms++uC=m at P S1
 refine zO (tN S1 (Jf Z (zN 0x37a33523983352 [n] hn rfl) P.len ⟨rfl,rfl,rfl⟩) fun s2 S2 K2=>?_)
 refine VC (tN S2 (Je Z (zN 0x37a33523983352 [n] hn rfl) P.wl ⟨rfl,rfl,rfl⟩) fun s3 S3 K3=>?_)
 refine VC (tN S3 (Jd Z (zN 0x37a33523983352 [n] hn rfl) P.nl ⟨rfl,rfl,rfl⟩) fun s4 S4 K4=>?_)
 refine yf P.two fun us two=>zO (tN S4 (Jb Z (zN 0x37a33523983352 [n] hn rfl) P.one two ⟨rfl,rfl,rfl⟩) fun s5 S5 K5=>?_)
 refine zO (tN S5 (Ja Z (zN 0x37a33523983352 [n] hn rfl) P.nl ⟨rfl,rfl,rfl⟩) fun s6 S6 K6=>?_)
 have ne:xh m≠[]:=fun z=>by(refine yW P.set.two fun k1 k2 h z3=>?_;clear z3);rw[z]at h;cases h
 refine zO (I9 Z (zN 0x37a33523983352 [n] hn rfl) hob hδ ⟨ne,fun z=>ne (List.reverse_eq_nil_iff.mp z)⟩ P.nl (by refine zc xo ?_;exact P.nl.1) S6 fun Y W s7 hY hW fW S7 K7=>?_)
 have Z7:Yo n w (x.more Y W):=Z.more Y W
 have rs:SetOk (xh m).reverse:=by
  obtain⟨⟨k1,k2,a,b,c⟩,l1,l2⟩:=P.set
  exact⟨⟨k1,k2,xU.mpr a,xU.mpr b,c⟩,by refine zc xo ?_;exact l1,fun b hb=>l2 b (xU.mp hb)⟩
 refine zO (I8 Z7 (zN 0x37a33523983352 [n] hn rfl) P.set rs ⟨by have:=P.calls.1.2;exact zN 70520444994357 [(wg (xh m)).length] this rfl,fun c h=>(P.calls.2 c h).1⟩ (k:=fun f fr H=>f=.next∧∃f0 f1,MemoOk (xh m) (wg (xh m)) f0∧H=HM w (xh m) (xh m).reverse f0 f1∧fr=_) (fun f0 f1 a U=>⟨rfl,f0,f1,a,rfl,rfl⟩) s7 S7 _ _ fun f af fr' H' s8 hk cf S8 K8=>?_)
 refine zK hk fun z0 z1=>?_;clear hk;subst z0;refine xk z1 fun f0 f1 hm z5 z6=>?_;clear z1;subst z5;subst z6
 cases cf
 rw[P.due,P.rev]at S8
 refine zO (tN (x:=x.more Y W) S8 (I7 Z7 (zN 0x37a33523983352 [n] hn rfl) P.one P.nl.1 rfl ⟨rfl,rfl,rfl⟩) fun s9 S9 K9=>?_)
 refine zO (tN (x:=x.more Y W) S9 (I6 Z7 (zN 0x37a33523983352 [n] hn rfl) rfl ⟨rfl,rfl,rfl⟩) fun sA SA KA=>?_)
 have K16:Kept x s s6:=K1.trans (K2.trans (K3.trans (K4.trans (K5.trans K6))))
 have K7A:Kept (x.more Y W) s7 sA:=K8.trans (K9.trans KA)
 have tab:∀a,s.heap.get? a=some ZC→x.B.get? a=none→a∉x.env.cells.map (·.2)→a≠tX→sA.heap.get? a=some ZC∧Far (x.more Y W) a:=fun a h hB hc h2=>by
  have F0:=bF S h hc (by refine zc hδ ?_;exact yV) hB h2
  have h6:=K16.keepN h (F0.nt S) rfl
  have h7:=K7.keepN h6 (F0.nt S) rfl
  have hW:a∉W:=fun m=>by rw[fW a m]at h6;exact nS h6
  have hd:a∉(x.more Y W).δ:=fun m=>by
   have m:a∈x.δ++W:=m
   rw[hδ,wh]at m
   exact hW m
  have F7:=bF S7 h7 hc hd hB h2
  have hA:=K7A.keepN h7 (F7.nt S7) rfl
  exact⟨hA,bF SA hA hc hd hB h2⟩
 refine zK (tab 789 g7 B7 c7 (by decide)) fun t7 F7=>zK (tab 866 g8 B8 c8 (by decide)) fun t8 F8=>?_
 have t2:sA.heap.get? 2=some (cp w.params):=K7A.keepN (K7.keepN (K16.keepN g2 (fun t=>(S.apart 2 t).2 rfl) rfl) (fun t=>(S.apart 2 t).2 rfl) rfl) (fun t=>(S7.apart 2 t).2 rfl) rfl
 have hop':(x.more Y W).ρ.op=[]:=hop
 have hw:=Z.hw
 refine yW (SA.frame.2.2 qh (.inl ((xl Z7.fits _).trans ⋯))) fun cr vo hcr z3=>?_;clear z3
 refine zO (Ff Z7 (zN 0x37a33523843352 [n] hn rfl) SA hcode hgl t7 t8 t2 F7 F8 (by refine zc hop' ?_;exact yV) (by refine zc hop' ?_;exact yV) hcr fun sB M T lf ca qual pm ct co SB hkl hco KB=>?_)
 refine yf P.lex fun N hx=>zO (AL Z7 (zN 0x37a33523843352 [n] hn rfl) (N:=N) ⟨P.calls.1,fun c h=>(P.calls.2 c h).2⟩ hx SB (ns:=xh m) (f0:=f0) rfl rfl hm P.set hkl hco hcr rfl rfl fun sC SC KC=>?_)
 refine I5 Z7 (zN 0x37a33523983352 [n] hn rfl) (k:=fun f U U=>f=.ret (.bool true)) (by have:=P.calls.1.2;exact zN 70520444994357 [(wg (xh m)).length] this rfl) (by exact zc (zj ..) rfl) rfl rfl rfl sC SC _ _ fun f af fr' H' sD hk cf SD KD=>?_
 subst hk
 refine zt cf fun v z1 cv=>?_;clear cf;subst z1
 subst cv
 have KE:=KC.trans KD
 refine yf KB.t7 fun ps7 e7=>yf KB.t8 fun ps8 e8=>q sD ⟨qZ (qZ (qZ (qZ K16.rest K7.rest) K7A.rest) KB.rest) KE.rest,fun a o a7 a8 e f t=>?_,SD.base,⟨ps7,KE.keepN e7 (F7.nt SA) rfl⟩,⟨ps8,KE.keepN e8 (F8.nt SA) rfl⟩⟩
 have h6:=K16.keepN e t f
 have t':¬uG (x.more Y W) a:=fun z=>by
  rcases z with z|z|z
  ·exact t (.inl z)
  ·exact t (.inr (.inl z))
  ·have z:a∈x.δ++W:=z
   rw[hδ,wh]at z
   rw[fW a z]at h6
   exact nS h6
 refine zt (KB.keep a o a7 a8 (K7A.keepN (K7.keepN h6 t f) t' f) t') fun o' e' m=>?_
 rw[m.eq f]at e'
 exact KE.keepN e' t' f
end
section
section
variable {x:Cx} {fr:List (Str×AV)} {H:List AObj} {s:zg}
theorem gK(S:St x fr H s)(ho:s.heap.get? f=some fo)(hd:fo.data=.func fd)(hcd:s.heap.CodeRec fd.code fd.qualname)(hb:fd.body=.stmts body)(hbind:Ve s fd args binds)(hB:Zj x.ρ s.heap bavs binds)(C:Capt x.ρ x.δ s.heap fd.scope.names fd.closure frc)(hcons:∀p∈fd.scope.names,fd.scope.names.lookup p.1=some p.2)(hl:∀p∈bavs,fd.scope.names.lookup p.1=some .local∨fd.scope.names.lookup p.1=some .cell)(hco:fd.scope.isCoroutine=false)(hgen:fd.scope.isGenerator=false)(hk:fd.scope.kind=.function)(room:x.A.depth<recursionLimit)(hclo:fd.closure=[])(h:∀env oc s1,EnvOk fd.scope fd.globals fd.builtins env oc→env.frame=some env.locals→env.code=fd.code→(∀c∈env.cells.map (·.2),s.heap.get? c=none)→St (x.at' (x.A.deeper env) env oc [] (env.locals::x.fs)) (vI frc bavs) H s1→Chg x s s1→s.heap.get? env.locals=none→(∀c∈oc,s.heap.get? c=none) →
   zr (zu pw x.w) (x.A.deeper env) (xN body env) (fun fl s'=>R (.ok (.ret (match fl with|.ret v=>v|_=>.none))) s')
    (fun e s'=>zr (zu pw x.w) (x.A.deeper env) (Cs env e) (fun U s''=>R (.error e) s'') (fun e' s''=>R (.error e') s'') s') s1):
  y4 (zu pw x.w) x.A (.call (.ref f) args) R s:=by
 refine uP room ho hd hco hgen hb hcd (hbind _ _ _ _ ?_)
 refine u5 (x:={x with A:=x.A.in1}) (fr:=fr) (H:=H) ⟨S.base,S.apart,S.kinds,S.frame,S.objs,S.lim,S.nodup,S.own,S.cnod,S.opn,S.ocs,S.ol,S.cex,S.frs⟩ C hcons hk hB hl fun env oc s1 e0 he S1 c1 n1 n2 hlim hce=>⟨hlim,W8 ?_⟩
 refine h env oc s1 he (by refine zc e0 ?_;rfl) (by refine zc e0 ?_;rfl) (fun c m=>?_) ⟨(S1 _).base,(S1 x.A).apart,(S1 x.A).kinds,(S1 x.A).frame,(S1 x.A).objs,(S1 x.A).lim,(S1 x.A).nodup,(S1 x.A).own,(S1 x.A).cnod,(S1 x.A).opn,(S1 x.A).ocs,(S1 x.A).ol,(S1 x.A).cex,(S1 x.A).frs⟩ ⟨c1.rest,c1.keep⟩ n1 n2
 rcases hce c m with q|q
 ·exact n2 c q
 ·rw[hclo]at q;cases q
end
theorem BM(P:zp)(v:zi):qN (wU (VX P)) ⟨[v],[]⟩=pure [(za "script",v)]:=⋯
theorem oJ{n:Nat}{x:Cx}(B:Base n x)(hn:n<880)(hob:x.ρ.ob=[])(hδ:x.δ=[])(hop:x.ρ.op=[]){s:zg}(S:St x [] [] s)(g7:s.heap.get? 789=some ZC)(g8:s.heap.get? 866=some ZC)(g2:s.heap.get? 2=some (cp x.w.params))(B7:x.B.get? 789=none)(B8:x.B.get? 866=none)(PL:∀ms:List Int,ms.length≤3→PlainOk (ms++uC)){ns:List Int}(hl:ns.length≤10000){v:zi}(cv:y2 x.ρ s.heap (.list (ns.map .int)) v){R:Zr→zg→Prop}(q:∀s',Stays x.B (fun U=>False) s s'→R (.ok (.ret (.bool true))) s'):
  y4 (zu pw x.w) x.A (.call (.ref 869) ⟨[v],[]⟩) R s:=by
 have I:=JZ x.w.params
 refine zt I.at_ fun fo ho hd=>?_
 have XK:=B.K.keeps S.base
 have nm:=I.names
 rw[zk,zk,zk]at nm
 refine zK nm fun z0 m4=>?_;clear nm;obtain⟨⟨m1,m2⟩,m3⟩:=z0
 refine gK S (args:=⟨[v],[]⟩) (bavs:=[(za "script",.list (ns.map .int))]) (frc:=[]) (XK _ _ ho) hd (ud XK I.code) I.body (qx (BM _ _)) ⟨_,_,rfl,cv,rfl⟩ (by refine zc I.clos ?_;exact Capt.nil m2) (MD m1) (ME ⋯) I.co I.gen I.kind (xj B.room.de (by show n<1000;exact zN 0x37033523e83352 [n] hn rfl)) I.clos fun env oc s1 eo hf hc hce S1 C1 n1 n2=>?_
 have Bx:Base (n+1) (x.at' (x.A.deeper env) env oc [] (env.locals::x.fs)):=B.deeper hf (by refine zc eo.sc (zc I.kind ?_);decide)
 have Ft:Fits (wF x.w) (x.at' (x.A.deeper env) env oc [] (env.locals::x.fs)):=Yj Bx (by show env.scope.kind=_;refine zc eo.sc ?_;exact I.kind) (by show env.scope.names=_;exact zc eo.sc rfl) (by(rw[m3];refine zc m4 ?_);rfl)
  (fun m hm c hc=>by
   have hm:m∈Cb:=by simpa using hm
   have hwr:Cb.all (fun m=>lk m (wU (VX x.w.params)).scope.names==some .cell)=true:=⋯
   have:=zJ.mp hwr m hm
   rw[beq_iff_eq,vE]at this
   exact eo.own m c this hc) (by show env.globals=_;refine zc eo.gl ?_;exact I.gl) (by show env.builtins=_;refine zc eo.bi ?_;exact I.bi) (bW Bx (zN 0x37033523a233113502 [n] hn rfl)) xX
 have Z:Yo (n+1) x.w (x.at' (x.A.deeper env) env oc [] (env.locals::x.fs)):=⟨Bx,rfl,Ft,fun x' B' e=>e▸bW B' (zN 0x37033523a233113502 [n] hn rfl),fun U U U=>xX⟩
 have hce':∀a o,s.heap.get? a=some o→a∉env.cells.map (·.2):=fun a o e m=>by rw[hce a m]at e;exact nS e
 have kp:∀{a o},s.heap.get? a=some o→um o=false→s1.heap.get? a=some o:=fun e f=>C1.keepN e (by refine zc hδ ?_;exact yV) f
 refine AK Z (zN 0x370335237a33113502 [n] hn rfl) hob hδ hop hl S1 (hc.trans rfl) (eo.gl.trans I.gl) (kp g7 rfl) (kp g8 rfl) (kp g2 rfl) B7 B8 (hce' _ _ g7) (hce' _ _ g8) PL fun s' D=>q s' ⟨qZ C1.rest D.rest,fun a o a7 a8 e f U=>D.keep a o a7 a8 (kp e f) f fun z=>?_,D.base,D.t7,D.t8⟩
 rcases z with z|z|z
 ·have z:a=env.locals:=z
  rw[z,n1]at e
  exact nS e
 ·have z:a∈oc:=z
  rw[n2 a z]at e
  exact nS e
 ·have z:a∈x.δ:=z
  rw[hδ]at z
  cases z
end
section
theorem Xf(c:Nat):∀l:List Nat,∃p q,wM c l=p::q:=by
 intro l0
 induction l0 with
 |nil =>
  exact⟨[],[],rfl⟩
 |cons k r ih =>
  refine Y5 (ih) fun p q e=>?_
  by_cases h:k=c
  ·subst h;exact⟨[],_,v7⟩
  ·exact⟨k::p,q,w4 h e⟩
theorem Q1(c:Nat):∀m l:List Nat,(wM c l).take (wM c m).length=wM c m↔l=m∨(m++[c]) <+: l
 |[],[]=>by simp[qX]
 |[],j::l=>by
  refine Y5 (Xf c l) fun p q e=>?_
  by_cases h:j=c
  ·subst h
   refine zc v7 ?_
   simp[qX]
  ·refine zc (w4 h e) ?_
   simp[qX]
   exact fun z=>h z.symm
 |k::m,[]=>by
  refine Y5 (Xf c m) fun p q e=>?_
  by_cases h:k=c
  ·subst h;refine zc v7 (zc e ?_);simp[qX]
  ·refine zc (w4 h e) ?_;simp[qX]
 |k::m,j::l=>by
  refine Y5 (Xf c m) fun p q e=>Y5 (Xf c l) fun p' q' e'=>?_
  have ih:=Q1 c m l
  rw[e,e']at ih
  by_cases h:k=c<;>by_cases h':j=c
  ·subst h h'
   refine zc v7 (zc v7 (zc e (zc e' ?_)))
   simpa using ih
  ·subst h
   refine zc v7 (zc (w4 h' e') (zc e ?_))
   simp
   exact⟨fun z U=>h' z,fun z=>absurd z.symm h'⟩
  ·subst h'
   refine zc v7 (zc (w4 h e) ?_)
   simp
   exact⟨fun z U=>h z.symm,fun z=>absurd z h⟩
  ·refine zc (w4 h e) (zc (w4 h' e') ?_)
   simp at ih ⊢
   constructor
   ·rintro⟨⟨rfl,a⟩,b⟩
    rcases ih.mp ⟨a,b⟩with z|z
    ·exact .inl ⟨rfl,z⟩
    ·exact .inr ⟨rfl,z⟩
   ·rintro(⟨rfl,z⟩|⟨rfl,z⟩)
    ·have:=ih.mpr (.inl z)
     exact⟨⟨rfl,this.1⟩,this.2⟩
    ·have:=ih.mpr (.inr z)
     exact⟨⟨rfl,this.1⟩,this.2⟩
end
section
theorem UU(l y:List Nat):vL (tS l) (tS y)=true↔y <+: l:=by
 unfold vL
 refine zc (StrLaws.subAt_eq ..) ?_
 refine zc (zk ..) (zc decide_eq_true_eq ?_);rw[beq_iff_eq];refine zc (v0 ..) (zc (v0 ..) ?_)
 show 0+y.length≤l.length∧(l.drop 0).take y.length=y↔_
 refine zc WA ?_;rw[List.prefix_iff_eq_take]
 constructor
 ·exact fun h=>h.2.symm
 ·intro h
  refine⟨?_,h.symm⟩
  have:=congrArg xH h
  rw[DL]at this
  exact vB 444351185200 [y.length,l.length,min y.length l.length] (ze this) (Hb ..) rfl
theorem VF(l m:List Nat):tQ (tS l) (tS m)=true↔l=m∨(m++[46]) <+: l:=by
 rw[←Q1 46 m l]
 unfold tQ
 refine zc decide_eq_true_eq (zc (show za "." = tS [46] from rfl) (zc (qS ..) (zc (qS ..) (zc (zj ..) (xv List.map_take ?_)))))
 exact⟨fun h=>(List.map_inj_right fun a b e=>aE e).mp h,fun h=>by exact zc h rfl⟩
theorem pC(ns:List (List Nat))(l:List Nat):Qj (ns.map tS) (tS l)=y6 (ns.map tS) (tS l):=by
 have e:(ns.map tS).any (tQ (tS l))=XI (ns.map tS) (tS l):=by
  unfold XI
  rw[tC];refine zc (wj ..) ?_;rw[YN,YN,ve]
  constructor
  ·rintro⟨m,hm,hc⟩
   refine zt (zB.mp hm) fun m' hm' z2=>?_;subst z2
   rcases(VF l m').mp hc with z|z
   ·subst z;exact .inl hm
   ·refine .inr ⟨_,hm,?_⟩
    refine zc (show za "." = tS [46] from rfl) (zc (tM ..) ?_)
    exact(UU l _).mpr z
  ·rintro(h|⟨m,hm,hc⟩)
   ·exact⟨_,h,(VF l l).mpr (.inl rfl)⟩
   ·refine zt (zB.mp hm) fun m' hm' z2=>?_;subst z2
    rw[show za "." = tS [46] from rfl,tM]at hc
    exact⟨_,hm,(VF l m').mpr (.inr ((UU l _).mp hc))⟩
 unfold Qj y6
 exact zc e rfl
theorem mD(ns:List Str)(c:Str):y6 ns.reverse c=y6 ns c:=by
 have e:XI ns.reverse c=XI ns c:=by
  unfold XI
  refine zc List.any_reverse ?_
  congr 1
  rw[tC,ve,ve,xU]
 unfold y6
 exact zc e rfl
end
section
set_option tactic.hygienic true
theorem Ur(l:List Nat):(tS l).cps.toList=l:=rfl
theorem U2(n:Nat)(ws:List (List Nat))(h:∀w∈ws,∀c∈w,c∈W4):
  ∃N,vh N (wc (tS (wa (n+1) 32)) ((ws.map tS).map wN)).cps.toList=some ((ws.map tS).map fun t=>t.cps.toList):=by
 refine⟨ws.length+1,?_⟩
 have e:(ws.map tS).map wN=(ws.map Z9).map tS:=by
  refine zc yp (zc yp ?_)
  exact yT fun w _=>ng w
 have e2:((ws.map tS).map fun t=>t.cps.toList)=ws:=by
  exact zc yp ((yT fun w _=>Ur w).trans (Wz _))
 refine zc e (zc (ZR ..) (zc (Ur ..) (zc e2 ?_)))
 have:=YX (n:=n) (ps:=ws.map fun w=>(Z9 w,w)) fun p hp=>by
  refine zt (zB.mp hp) fun w hw z2=>?_;subst z2
  exact dD (h w hw)
 rw[zj,yp,yp]at this
 have a:(ws.map ((fun x:List Nat×List Nat=>x.1) ∘ fun w=>(Z9 w,w)))=ws.map Z9:=rfl
 have b:(ws.map ((fun x:List Nat×List Nat=>x.2) ∘ fun w=>(Z9 w,w)))=ws:=Wz _
 rw[a,b]at this
 exact this
end
section
open Builtin Builtin.Str
theorem dg:∀(l:List Nat) (a n:Nat),a+n≤l.length→(((zT n).map (a+·)).filterMap ((tS l).cps[·]?))=(l.drop a).take n:=by
 intro l a l0
 induction l0 generalizing l a with
 |zero =>
  intro _
  simp
 |succ n ih =>
  intro h
  refine zc aj (zc yc (zc List.filterMap_append (zc ((ih l a (zN 0x711360507650 [a,n,l.length] h rfl))) (zc List.take_succ ?_))))
  congr 1
  refine zc List.getElem?_drop ?_
  have e:(tS l).cps[a+n]?=l[a+n]?:=by simp[tS]
  simp only[zU,List.map_nil,yr,ZM,e]
  refine zc (zC (zN 0x7113605076502 [a,n,l.length] h rfl)) ?_
  rfl
theorem ZU(l:List Nat):xc (tS l) none (some 16)=tS (l.take 16):=by
 have e:strSliceIndices none (some 16) 1 (tS l).length=(zT (min 16 l.length)).map (0+·):=by
  unfold strSliceIndices
  refine zc (v0 ..) ?_
  simp only[show(1:Int)>0 by decide,if_true,show¬((16:Int)<0)by decide,if_false]
  have:=PySem.sliceRange_one 0 (min 16 l.length)
  rw[lA]at this
  refine xv this ?_
  congr 1
  omega
 unfold xc
 refine zc e ?_
 split
 ·rename_i h
  simp[v0]at h
  exact zc (x9 (vB 17744226484789 [l.length,Min.min 16 l.length] (ze h.symm) (Hs ..) rfl)) rfl
 ·refine zc (dg l 0 _ (zN 1701118256 [Min.min 16 l.length,l.length] (Hb ..) rfl)) (zc WA ?_)
  show tS (l.take (min 16 l.length))=_
  exact xv List.take_take (zc List.take_length rfl)
theorem cL(l:List Nat)(hl:16≤l.length):xc (tS l) (some 16) none=tS (l.drop 16):=by
 have e:strSliceIndices (some 16) none 1 (tS l).length=(zT (l.length-16)).map (16+·):=by
  unfold strSliceIndices
  refine zc (v0 ..) ?_
  simp only[show(1:Int)>0 by decide,if_true,show¬((16:Int)<0)by decide,if_false]
  refine xv (PySem.sliceRange_one 16 l.length) ?_
  congr 1
  omega
 unfold xc
 refine zc e ?_
 split
 ·rename_i h
  simp[v0]at h
  omega
 ·refine zc (dg l 16 _ (zN 0x61023506510230 [l.length-16,l.length] (ze (zh hl)) rfl)) ?_
  show tS ((l.drop 16).take (l.length-16))=_
  exact zc (x9 (by rw[qD];exact zX _)) rfl
end
section
theorem kJ:∀(a b:List Str) (st:List Str×Bool),vQ st (a++b)=vQ (vQ st a) b:=by
 intro l0
 induction l0 with
 |nil =>
  intro _ _
  exact rfl
 |cons w a ih =>
  intro b st
  exact(ih b (w0 st.1 st.2 w))
theorem cJ:∀(ns:List (List Nat)) (n pre:List Nat),44∉pre→(∀m∈n::ns,44∉m)→wM 44 (pre++xJ [44,32] (n::ns))=(pre++n)::ns.map (32::·):=by
 intro l0
 induction l0 with
 |nil =>
  intro n pre hp h
  refine(?_:wM 44 (pre++n)=_)
  exact VS fun m=>(zv.mp m).elim hp (h n (.head _))
 |cons m ns ih =>
  intro n pre hp h
  have ih:=(ih m [32] (by decide) fun a ha=>h a (.tail _ ha))
  refine(?_:wM 44 (pre++(n++[44,32]++xJ [44,32] (m::ns)))=_)
  have e:pre++(n++[44,32]++xJ [44,32] (m::ns))=(pre++n)++44::([32]++xJ [44,32] (m::ns)):=by simp
  refine zc e (zc (UV fun q=>(zv.mp q).elim hp (h n (.head _))) (zc ih ?_))
  rfl
theorem YQ(acc:List Str)(n:List Nat)(ns:List (List Nat))(h:∀m∈n::ns,IsName m):ZT acc (tS (xJ [44,32] (n::ns)))=acc++(n::ns).map tS:=by
 have free:∀m∈n::ns,44∉m:=fun m hm q=>by rcases(h m hm).signs 44 q with z|z|z<;>cases z
 have s:=cJ ns n [] (by decide) free
 rw[wh,wh]at s
 unfold ZT
 refine zc (show za "," = tS [44] from rfl) (zc (qS ..) (zc s (zc yp (zc zU (zc yp (zc zU ?_))))))
 congr 2
 ·exact QE (a:=[]) (by decide) (h n (.head _)).noSpace
 ·exact yT fun m hm=>QE (a:=[32]) (by decide +kernel) (h m (.tail _ hm)).noSpace
theorem uK(a b:List Nat):tj (tS a) (tS b)=(a==b):=rfl
theorem gv(acc:List Str)(i:Int):vQ (acc,false) (uY i)=(acc++(bif decide (i.fmod 4<2)then vw i else[]),false):=by
 have hn:0≤i.fmod 4:=wT _ (by decide)
 have h4:i.fmod 4<4:=tK _ (by decide)
 obtain⟨n,ns,e⟩:∃n ns,ZF i=n::ns:=⟨_,_,rfl⟩
 have hN:∀m∈n::ns,IsName m:=e▸Vp i
 have hf:vw i=(n::ns).map tS:=by exact zc (Vq ..) (zc e rfl)
 have igt:ig=tS ZX:=rfl
 have igEt:dN=tS (ZX++[61]):=rfl
 refine zc (Qz ..) ?_
 unfold X7
 refine zc e ?_
 generalize hk:(i.fmod 4).toNat=k
 have hk4:k<4:=by omega
 match k,hk4 with
 |0,_ =>
  have:i.fmod 4=0:=by omega
  refine zc this (zc hf ?_)
  refine(?_:vQ (w0 (w0 acc false (tS ZX)).1 (w0 acc false (tS ZX)).2 (tS (xJ [44,32] (n::ns)))) []=_)
  have s1:w0 acc false (tS ZX)=(acc,true):=by
   unfold w0
   refine zc (ZU ..) (zc igEt (zc (uK ..) (zc igt (zc (uK ..) ?_))))
   rfl
  refine zc s1 ((?_:(ZT acc (tS (xJ [44,32] (n::ns))),false)=_))
  refine zc (YQ acc n ns hN) ?_
  rfl
 |1,_ =>
  have:i.fmod 4=1:=by omega
  refine zc this (zc hf ?_)
  refine(?_:vQ (w0 acc false (tS (ZX++61::xJ [44,32] (n::ns)))) []=_)
  have s1:w0 acc false (tS (ZX++61::xJ [44,32] (n::ns)))=(ZT acc (tS (xJ [44,32] (n::ns))),false):=by
   unfold w0
   refine zc (ZU ..) (zc (cL _ (by simp[ZX])) (zc igEt (zc (uK ..) ?_)))
   rfl
  refine zc s1 (zc (YQ acc n ns hN) ?_)
  rfl
 |2,_ =>
  have:i.fmod 4=2:=by omega
  refine zc this (zc hf ?_)
  refine(?_:vQ (w0 acc false (tS (ZX++115::61::xJ [44,32] (n::ns)))) []=_)
  have s1:w0 acc false (tS (ZX++115::61::xJ [44,32] (n::ns)))=(acc,false):=by
   unfold w0
   refine zc (ZU ..) (zc igEt ?_);rw[uK];refine zc igt (zc (uK ..) ?_)
   rfl
  rw[s1]
  simp[vQ]
 |3,_ =>
  have:i.fmod 4=3:=by omega
  rw[this,hf]
  refine(?_:vQ (w0 acc false (tS [105,116,39,115,32,45,99])) []=_)
  have s1:w0 acc false (tS [105,116,39,115,32,45,99])=(acc,false):=by
   unfold w0
   rw[ZU,igEt,uK,igt,uK]
   rfl
  rw[s1]
  simp[vQ]
theorem pt:∀(ms:List Int) (acc:List Str),vQ (acc,false) (wL ms)=(acc++xh ms,false):=by
 intro l0
 induction l0 with
 |nil =>
  intro acc
  simp[wL,xh,vQ]
 |cons i ms ih =>
  intro acc
  have e:wL (i::ms)=uY i++wL ms:=rfl
  have e2:xh (i::ms)=(bif decide (i.fmod 4<2)then vw i else[])++xh ms:=rfl
  rw[e,kJ,gv,ih,e2,zA]
end
section
theorem QH(acc:List Str)(f:Str):(ZT acc f).length≤acc.length+(f.length+2):=by
 unfold ZT
 refine zc zG (zc (zj ..) ?_)
 have:=Um f (za ",")
 exact zN 0x2137062137050650 [acc.length,(yy f (za ",")).length,f.length] this rfl
theorem jA(acc:List Str)(w:Bool)(wd:Str):(w0 acc w wd).1.length≤acc.length+(wd.length+2):=by
 unfold w0
 split
 ·exact QH acc wd
 ·split
  ·have:=QH acc (xc wd (some 16) none)
   have:=ll wd (some 16) none
   show(ZT acc (xc wd (some 16) none)).length≤_
   omega
  ·show acc.length≤_
   exact Tg 557188357 [acc.length,wd.length] rfl
theorem iE(ha:a≤100000):∀(wds:List Str) (st:List Str×Bool),(∀w∈wds,w.length≤a)→st.1.length+wds.length*(a+2)≤10000→Ld st wds:=by
 intro l0
 induction l0 with
 |nil =>
  intro _ _ _
  exact trivial
 |cons w r ih =>
  intro st h hl
  rw[zS,lz]at hl
  have hw:=h w (.head _)
  have:=jA st.1 st.2 w
  exact⟨⟨zN 0x2710432137060502710435 [st.fst.length,(r.length*(a+2)),a] hl rfl,vB 0x65186a0536186a0535 [w.length,a] ha hw rfl⟩,(ih _ (fun b m=>h b (.tail _ m)) (dz 0x2139070589271043213806070271043650 [(w0 st.fst st.snd w).fst.length,(r.length*(a+2)),st.fst.length,a,w.length] hl hw this rfl))⟩
noncomputable def au(ms:List Int):List (List Nat):=ms.flatMap X7
theorem ju:∀ms:List Int,wL ms=(au ms).map tS:=by
 intro l0
 induction l0 with
 |nil =>
  exact rfl
 |cons i ms ih =>
  show uY i++wL ms=(X7 i++au ms).map tS
  exact zc (Qz ..) (zc (ih) (zc yc rfl))
theorem n7(h:IsName n):∀c∈n,c∈W4:=fun c hc=>by
 rcases h.signs c hc with rfl|rfl|rfl<;>decide +kernel
theorem bA:∀c∈ZX,c∈W4:=by decide +kernel
theorem j6(h:∀n∈ns,IsName n):∀c∈xJ [44,32] ns,c∈W4:=fun c hc=>by
 rcases Vz hc with q|⟨p,hp,q⟩
 ·have:∀c∈([44,32]:List Nat),c∈W4:=by decide +kernel
  exact this c q
 ·exact n7 (h p hp) c q
theorem fi(i:Int):∀w∈X7 i,∀c∈w,c∈W4:=by
 have hn:=j6 (Vp i)
 unfold X7
 generalize (i.fmod 4).toNat=k
 generalize xJ [44,32] (ZF i)=y at hn
 have h61:(61:Nat)∈W4:=by decide +kernel
 have h115:(115:Nat)∈W4:=by decide +kernel
 intro w hw c hc
 match k with
 |0 =>
  rcases zn.mp hw with rfl|hw
  ·exact bA c hc
  ·rw[zd.mp hw]at hc;exact hn c hc
 |1 =>
  rw[zd.mp hw]at hc
  rcases zv.mp hc with q|q
  ·exact bA c q
  ·rcases zn.mp q with rfl|q
   ·exact h61
   ·exact hn c q
 |2 =>
  rw[zd.mp hw]at hc
  rcases zv.mp hc with q|q
  ·exact bA c q
  ·rcases zn.mp q with rfl|q
   ·exact h115
   ·rcases zn.mp q with rfl|q
    ·exact h61
    ·exact hn c q
 |_+3 =>
  rw[zd.mp hw]at hc
  have:∀c∈([105,116,39,115,32,45,99]:List Nat),c∈W4:=by decide +kernel
  exact this c hc
theorem Ao(ms:List Int):∃N,vh N (To (wL ms)).cps.toList=some ((wL ms).map fun t=>t.cps.toList):=by
 refine zc (ju ..) ?_
 exact U2 1 (au ms) fun w hw=>by
  refine zt (uX.mp hw) fun i z1 h=>?_;clear z1
  exact fi i w h
end
section
theorem aw(i:Int):∀w∈uY i,w.length≤39:=by
 have hj:=U9 i
 unfold uY
 generalize (i.fmod 4).toNat=k
 generalize Yg i=y at hj
 intro w hw
 match k with
 |0 =>
  rcases zn.mp hw with rfl|hw
  ·decide
  ·refine zc (zd.mp hw) ?_;exact zN 95081886261 [y.length] hj rfl
 |1 =>
  refine zc (zd.mp hw) (zc (ye ..) ?_)
  have:(za "--ignore-module=").length=16:=by decide
  exact vB 0x10235162362723650 [(za "--ignore-module=").length,y.length] hj (ze this) rfl
 |2 =>
  refine zc (zd.mp hw) (zc (ye ..) ?_)
  have:(za "--ignore-modules=").length=17:=by decide
  exact vB 0x11235162362723650 [(za "--ignore-modules=").length,y.length] hj (ze this) rfl
 |_+3=>refine zc (zd.mp hw) ?_;decide
theorem jt(i:Int):(uY i).length≤2:=QA _ _
theorem j5(i:Int):(bif decide (i.fmod 4<2)then vw i else[]).length≤2:=by
 cases decide (i.fmod 4<2)with
 |true=>exact(tO i).1
 |false=>exact wk _
theorem WC(ms:List Int):(wL ms).length≤2*ms.length∧∀b∈wL ms,b.length≤39:=
 ⟨WY jt ms,fun b hb=>by
  refine zt (uX.mp hb) fun i z1 h=>?_;clear z1
  exact aw i b h⟩
theorem bn(ms:List Int):(xh ms).length≤2*ms.length∧∀b∈xh ms,b.length≤9:=
 ⟨WY j5 ms,fun b hb=>by
  refine zt (uX.mp hb) fun i z1 h=>?_;clear z1
  cases q:decide (i.fmod 4<2)with
  |true=>rw[q]at h;exact(tO i).2 b h
  |false=>rw[q]at h;cases h⟩
theorem EL(ms:List Int)(h:ms.length≤8):LineOk (To (wL ms)) (wL ms) (xh ms):=by
 refine zK (WC ms) fun w1 w2=>⟨Ao ms,⟨?_,by refine zc zy ?_;exact vB 0x6213458132131621341000000735 [(wL ms).length,ms.length] (zF 2 h) w1 rfl⟩,iE (a:=39) (Tg 1677727049507 [] rfl) _ _ w2 ?_,?_⟩
 ·have:=Zh (sep:=za "  ") (ss:=(wL ms).map wN) (a:=6002) fun y hy=>by
   refine zt (zB.mp hy) fun p hp z2=>?_;subst z2
   exact(Zb (yv (w2 p hp) (by decide))).2
  rw[zj]at this
  have e:(za "  ").length=2:=by decide
  rw[e]at this
  unfold To
  exact zc zy (dz 0x2131772430715621341774434717744348132ee843162ee843410000007352 [(wc (za "  ") (tg wN (wL ms))).length,ms.length,(wL ms).length] (zF 12008 h) (zF 6004 w1) this rfl)
 ·show 0+_≤_
  exact vB 0x62134292345292348135223165223427104321327230510130 [(wL ms).length,ms.length] (zF 82 h) (zF 41 w1) rfl
 ·refine zc (pt ms []) ?_
  rfl
end
section
noncomputable def Z8(j:Nat)(p:List Nat):List Nat:=if((j:Int).fmod 2==0)=true then 34::p++[34]else p.flatMap fun c=>[92,c]
noncomputable def Zu(j:Nat):List (List Nat)→List (List Nat)
 |[]=>[]
 |p::r=>Z8 j p::Zu (j+1) r
theorem Ew:∀{p:List Nat} {q:Bool} {t:List Nat},(∀c∈p,c∈vT)→yx .s2 q t (p++34::r)=yx .wd true (t++p) r:=by
 intro l0
 induction l0 with
 |nil =>
  intro q t _
  refine zc (yB ..) ?_;exact iq
 |cons c p ih =>
  intro q t h
  show yx .s2 q t (c::(p++34::r))=_
  have hc:=h c (.head _)
  refine zc (im (.tail _ (.tail _ hc)) (fM hc).2.1) (zc ((ih fun a ha=>h a (.tail _ ha))) (zc (zA ..) ?_));rfl
theorem Ga:∀{p:List Nat} {q:Bool} {t:List Nat},(∀c∈p,c∈vT)→yx .wd q t ((p.flatMap fun c=>[92,c])++r)=yx .wd q (t++p) r:=by
 intro l0
 induction l0 with
 |nil =>
  intro q t _
  refine zc (yB ..) ?_;rfl
 |cons c p ih =>
  intro q t h
  show yx .wd q t (92::c::((p.flatMap fun c=>[92,c])++r))=_
  refine zc DW (zc (BJ (.tail _ (.tail _ (.tail _ (.tail _ (h c (.head _))))))) (zc ((ih fun a ha=>h a (.tail _ ha))) (zc (zA ..) ?_)));rfl
theorem QI(j:Nat)(h:∀c∈p,c∈vT)(q:Bool):∃q',∀t r,yx .wd q t (Z8 j p++r)=yx .wd q' (t++p) r:=by
 unfold Z8
 split
 ·refine⟨true,fun t r=>?_⟩
  show yx .wd q t (34::(p++[34]++r))=_
  refine zc lY (zc (zA ..) ?_)
  exact Ew h
 ·exact⟨q,fun t r=>Ga h⟩
theorem UW:∀(ps:List (List Nat)) (j:Nat) (q:Bool),(∀p∈ps,∀c∈p,c∈vT)→∃q',∀t r,yx .wd q t (xJ [46] (Zu j ps)++r)=yx .wd q' (t++xJ [46] ps) r
 |[],_,q,_=>⟨q,fun t r=>by(rw[show xJ [46] []=[] from rfl];refine zc (yB ..) ?_);rfl⟩
 |[p],j,q,h=>QI j (h p (.head _)) q
 |p::p'::ps,j,q,h=>by
  refine yf (QI j (h p (.head _)) q) fun q1 h1=>yf (UW (p'::ps) (j+1) q1 fun a ha=>h a (.tail _ ha)) fun q2 h2=>⟨q2,fun t r=>?_⟩
  show yx .wd q t (Z8 j p++[46]++xJ [46] (Zu (j+1) (p'::ps))++r)=yx .wd q2 (t++(p++[46]++xJ [46] (p'::ps))) r
  refine zc (zA ..) (zc (zA ..) (zc (h1 ..) ?_))
  show yx .wd q1 (t++p) (46::(xJ [46] (Zu (j+1) (p'::ps))++r))=_
  refine zc (hG (by decide +kernel)) (zc (h2 ..) ?_)
  simp only[zA]
end
section
theorem QU:∀l:List (List Nat),xJ [] l=l.flatten
 |[]=>rfl
 |[x]=>by show x=x++[];exact zc (yB ..) rfl
 |x::y::r=>by
  refine(?_:x++[]++xJ [] (y::r)=x++(y::r).flatten)
  exact zc (yB ..) (zc (QU (y::r)) rfl)
theorem jG(j:Nat)(p:List Nat):uB j (tS p)=tS (Z8 j p):=by
 unfold uB Z8
 split
 ·(refine zc (show za "\"" = tS [34] from rfl) ?_;rw[tM];refine zc (tM ..) ?_);rfl
 ·unfold KO
  have e:((tS p).cps.toList.map fun c=>za "\\" ++ ⟨#[c]⟩)=(p.map fun c=>[92,c]).map tS:=by
   exact zc yp (yT fun c U=>tM [92] [c])
  exact zc e (zc (show za "" = tS [] from rfl) (zc (ZR ..) (zc (QU ..) (zc List.flatMap_def rfl))))
theorem jE:∀(ps:List (List Nat)) (k:Nat),((zT ps.length).map fun j=>uB (j+k) ((ps.map tS).getD j ym))=(Zu k ps).map tS:=by
 intro l0
 induction l0 with
 |nil =>
  intro _
  exact rfl
 |cons p r ih =>
  intro k
  refine zc zS (zc jr (zc zU (zc yp ?_)))
  refine(?_:uB (0+k) (tS p)::_=tS (Z8 k p)::(Zu (k+1) r).map tS)
  refine zc (vx ..) (zc (jG ..) (xv ((ih (k+1))) ?_))
  congr 1
  exact yT fun j U=>by
   refine(?_:uB (j+1+k) _=_)
   refine zc (show j+1+k=j+(k+1)by exact zE (Tg 4844469808608512 [j,k] rfl) (Tg 0x61135001136050 [j,k] rfl)) ?_;rfl
noncomputable def sV(l:List Nat):List Nat:=xJ [46] (Zu 0 (wM 46 l))
theorem jF(l:List Nat):vN (tS l)=tS (sV l):=by
 unfold vN sV Z5
 have:=jE (wM 46 l) 0
 refine zc (show za "." = tS [46] from rfl) (zc (qS ..) (zc (zj ..) (xv (ZR ..) (xv this ?_))))
 rfl
theorem T8(h:IsName l):eN (ZX++[61]++sV l) (ZX++[61]++l):=by
 obtain⟨ps,h0,rfl,hp⟩:=h
 have ho:∀p∈ps,∀c∈p,c∈vT:=fun p m c hc=>by rcases hp p m c hc with rfl|rfl<;>decide +kernel
 have hf:∀p∈ps,46∉p:=fun p m q=>by rcases hp p m 46 q with z|z<;>cases z
 unfold sV
 refine zc (YR h0 hf) (yf (UW ps 0 false ho) fun q hq=>YV (q:=q) (.inr (by simp[ZX])) fun tail=>zc (zA ..) ((?_:yx .sp false [] (45::([45,105,103,110,111,114,101,45,109,111,100,117,108,101,61]++(xJ [46] (Zu 0 ps)++tail)))=_)))
 refine zc (aJ (by decide +kernel)) (zc (fj (by decide +kernel)) (zc (hq ..) ?_))
 rfl
theorem Az:eN [35,99] [35,99]:=YV (q:=false) (.inr (by simp)) fun tail=>by
 refine(?_:yx .sp false [] (35::([99]++tail))=_)
 rw[aJ (by decide +kernel),fj (by decide +kernel)]
 rfl
theorem gq:dN=tS (ZX++[61]):=rfl
theorem jN(L:List (List Nat)):Xg (L.map tS)=wc (tS [32]) (([35,99]::L.reverse.map fun l=>ZX++[61]++sV l).map tS):=by
 unfold Xg
 refine xv YJ (zc yp (zc zU (zc yp ?_)))
 have e:(L.reverse.map ((fun y=>dN++vN y) ∘ tS))=L.reverse.map (tS ∘ fun l=>ZX++[61]++sV l):=yT fun l U=>by
  refine(?_:dN++vN (tS l)=tS (ZX++[61]++sV l))
  exact zc (jF ..) (zc gq (zc (tM ..) rfl))
 refine zc e ?_
 rfl
theorem fH(L:List (List Nat))(h:∀l∈L,IsName l):∃N,vh N (Xg (L.map tS)).cps.toList=some ((([35,99]::L.reverse.map fun l=>ZX++[61]++l).map tS).map fun t=>t.cps.toList):=by
 refine⟨(([35,99],[35,99])::L.reverse.map fun l=>(ZX++[61]++sV l,ZX++[61]++l)).length+1,?_⟩
 have:=YX (n:=0) (ps:=([35,99],[35,99])::L.reverse.map fun l=>(ZX++[61]++sV l,ZX++[61]++l)) fun p hp=>by
  rcases zn.mp hp with rfl|hp
  ·exact Az
  ·refine zt (zB.mp hp) fun l hl z2=>?_;subst z2
   exact T8 (h l (xU.mp hl))
 refine zc (jN ..) (zc (ZR ..) (zc (Ur ..) ?_))
 rw[zU,zU,yp,yp]at this
 have e2:∀ws:List (List Nat),((ws.map tS).map fun t=>t.cps.toList)=ws:=fun ws=>by
  exact zc yp ((yT fun w U=>Ur w).trans (Wz _))
 exact zc (e2 ..) this
theorem pr:∀(R:List (List Nat)) (acc:List Str),(∀l∈R,IsName l)→vQ (acc,false) ((R.map fun l=>ZX++[61]++l).map tS)=(acc++R.map tS,false):=by
 intro l0
 induction l0 with
 |nil =>
  intro acc _
  simp[vQ]
 |cons l R ih =>
  intro acc h
  have s1:w0 acc false (tS (ZX++[61]++l))=(ZT acc (tS l),false):=by
   unfold w0
   refine zc (ZU ..) (zc (cL _ (by simp[ZX])) (zc gq (zc (uK ..) ?_)))
   rfl
  have s2:ZT acc (tS l)=acc++[tS l]:=YQ acc l [] fun m hm=>h m (by refine zc (zd.mp hm) ?_;exact .head _)
  refine(?_:vQ (w0 acc false (tS (ZX++[61]++l))) _=_)
  refine zc s1 (zc s2 (zc ((ih _ fun m hm=>h m (.tail _ hm))) (zc (zA ..) ?_)))
  rfl
theorem Ej(L:List (List Nat))(h:∀l∈L,IsName l)(h1:L.length≤16)(h2:∀l∈L,l.length≤9):LineOk (Xg (L.map tS)) (([35,99]::L.reverse.map fun l=>ZX++[61]++l).map tS) (L.map tS).reverse:=by
 have hl:∀w∈([35,99]::L.reverse.map fun l=>ZX++[61]++l).map tS,w.length≤25:=fun w hw=>by
  refine zt (zB.mp hw) fun v hv z2=>?_;subst z2
  refine zc (v0 ..) ?_
  rcases zn.mp hv with rfl|hv
  ·decide
  ·refine zt (zB.mp hv) fun l hl z2=>?_;subst z2
   have:=h2 l (xU.mp hl)
   refine zc zG (?_:16+_≤_)
   exact zN 0x91351923510230 [l.length] this rfl
 have hc:(([35,99]::L.reverse.map fun l=>ZX++[61]++l).map tS).length≤17:=by
  refine zc (zj ..) (zc zS (zc (zj ..) (zc xo ?_)));exact zN 4542430731899728 [L.length] h1 rfl
 refine⟨fH L h,⟨?_,by refine zc zy ?_;exact zN 77182486454470453 [(tg tS ([35,99]::tg (fun l=>ZX++[61]++l) L.reverse)).length] hc rfl⟩,iE (a:=25) (Tg 1677727045923 [] rfl) _ _ hl ?_,?_⟩
 ·have:=Zh (sep:=za " ") (ss:=za "#c" :: (L.map tS).reverse.map fun y=>dN++vN y) (a:=20722) fun y hy=>by
   rcases zn.mp hy with rfl|hy
   ·exact(show 2≤20722 by decide)
   ·refine zt (zB.mp hy) fun p hp z2=>?_;subst z2
    refine zt (zB.mp (xU.mp hp)) fun l hl z2=>?_;subst z2
    have:=Wa (b:=tS l) (by refine zc (v0 ..) ?_;have:=h2 l hl;exact zN 38979125813 [l.length] this rfl)
    have hig:dN.length=16:=rfl
    refine zc (ye ..) (zc hig ?_);exact zN 0x50e243550f243510230 [(vN (tS l)).length] this rfl
  rw[zS,zj,xo,zj,show(za " ").length=1 from rfl]at this
  exact zc zy (vB 0x11350f24301136015102350f3431650f343410000007352 [(wc (za " ") (za "#c" :: tg (fun y=>dN++vN y) (tg tS L).reverse)).length,L.length] (zF 20723 h1) this rfl)
 ·refine(?_:0+_≤_)
  exact zN 0x11231b23151b23427104321319230510130 [(tg tS ([35,99]::tg (fun l=>ZX++[61]++l) L.reverse)).length] (zF 27 hc) rfl
 ·have s0:w0 [] false (tS [35,99])=([],false):=by
   unfold w0
   refine zc (ZU ..) (zc gq ?_);rw[uK];refine zc (show ig=tS ZX from rfl) (zc (uK ..) ?_)
   rfl
  refine(?_:(vQ (w0 [] false (tS [35,99])) ((L.reverse.map fun l=>ZX++[61]++l).map tS)).1=_)
  refine zc s0 (zc (pr L.reverse [] fun l hl=>h l (xU.mp hl)) (zc YJ ?_))
  rfl
end
section
noncomputable def tm(ms:List Int):List (List Nat):=ms.flatMap fun i=>bif decide (i.fmod 4<2)then ZF i else[]
theorem j7:∀ms:List Int,xh ms=(tm ms).map tS:=by
 intro l0
 induction l0 with
 |nil =>
  exact rfl
 |cons i ms ih =>
  refine(?_:(bif decide (i.fmod 4<2)then vw i else[])++xh ms=((bif decide (i.fmod 4<2)then ZF i else[])++tm ms).map tS)
  refine zc (ih) (zc yc ?_)
  congr 1
  cases decide (i.fmod 4<2)
  ·rfl
  ·exact Vq i
theorem fR(ms:List Int):∀l∈tm ms,IsName l:=fun l hl=>by
 refine zt (uX.mp hl) fun i z1 h=>?_;clear z1
 cases q:decide (i.fmod 4<2)with
 |true=>rw[q]at h;exact Vp i l h
 |false=>rw[q]at h;cases h
noncomputable def Dn:List (List Nat):=[[],[46,97],[98]]
noncomputable def bO(L:List (List Nat)):List (List Nat):=Dn.flatMap fun e=>L.map (·++e)
theorem Xo(L:List (List Nat)):wg (L.map tS)=(bO L).map tS:=by
 have h:∀e,(L.map tS).map (·++tS e)=(L.map (·++e)).map tS:=fun e=>by
  refine zc yp (zc yp ?_)
  exact yT fun l U=>tM l e
 refine(?_:(L.map tS).map (·++tS [])++((L.map tS).map (·++tS [46,97])++((L.map tS).map (·++tS [98])++[]))=(L.map (·++[])++(L.map (·++[46,97])++(L.map (·++[98])++[]))).map tS)
 refine zc (h ..) (zc (h ..) (zc (h ..) (zc yc (zc yc (zc yc ?_)))))
 rfl
theorem gI(L:List (List Nat)):(bO L).length=3*L.length:=by
 refine(?_:(L.map (·++[])++(L.map (·++[46,97])++(L.map (·++[98])++[]))).length=_)
 simp only[zG,zj,XE]
 exact zE (Tg 0x53134013505050 [L.length] rfl) (Tg 339770652045620 [L.length] rfl)
theorem bN(h:∀l∈L,IsName l):∀w∈bO L,∀c∈w,c=97∨c=98∨c=46:=fun w hw c hc=>by
 refine zt (uX.mp hw) fun e he hw=>zt (zB.mp hw) fun l hl z2=>?_;subst z2
 rcases zv.mp hc with q|q
 ·exact(h l hl).signs c q
 ·have:∀e∈Dn,∀c∈e,c=97∨c=98∨c=46:=by decide
  exact this e he c q
theorem kK:∃k1 k2,k1∈tm uC∧k2∈tm uC∧k1≠k2:=⟨Ta ((4652:Int).fdiv 8),Ta ((1:Int).fdiv 8),by decide +kernel,by decide +kernel,by decide +kernel⟩
theorem nD(ms:List Int)(h:ms.length≤3):PlainOk (ms++uC):=by
 have h8:(ms++uC).length≤8:=by
  refine zc zG ?_;show _+5≤_;exact zN 54105870766928 [ms.length] h rfl
 obtain⟨k1,k2,m1,m2,hne⟩:∃k1 k2,k1∈tm (ms++uC)∧k2∈tm (ms++uC)∧k1≠k2:=by
  obtain⟨k1,k2,m1,m2,hne⟩:=kK
  have e:tm (ms++uC)=tm ms++tm uC:=Vk
  exact zc e ⟨k1,k2,zD _ m1,zD _ m2,hne⟩
 generalize hM:ms++uC=M at *
 refine zK (WC M) fun w1 w2=>zK (bn M) fun n1 n2=>?_
 have hN:=fR M
 have e:=j7 M
 have one:=EL M h8
 generalize tm M=L at *
 rw[e]at n1 n2 one
 rw[zj]at n1
 have n2':∀l∈L,l.length≤9:=fun l hl=>by
  have:=n2 _ (we hl)
  rwa [v0]at this
 have hl:(L.map tS).length≤100∧∀b∈L.map tS,b.length≤100:=⟨by refine zc (zj ..) ?_;exact vB 0x62134581321316213464235 [L.length,M.length] (zF 2 h8) n1 rfl,fun b hb=>by have:=n2 b hb;exact zN 38979125813 [b.length] this rfl⟩
 have sg:=bN hN
 refine⟨zN 34684158517 [M.length] h8 rfl,⟨vB 0x62134581321316213464235 [(wL M).length,M.length] (zF 2 h8) w1 rfl,fun b hb=>by have:=w2 b hb;exact zN 2689542816565 [b.length] this rfl⟩,e▸hl,e▸one,⟨_,e▸Ej L hN (vB 0x62134581321316213410235 [L.length,M.length] (zF 2 h8) n1 rfl) n2'⟩,?_,?_,?_,?_,?_⟩
 ·exact zc e (⟨⟨_,_,we m1,we m2,fun z=>hne (aE z)⟩,hl⟩)
 ·refine zc e ?_
  have hc:=Wm hl
  refine⟨?_,fun c hc'=>⟨fun z=>?_,hc.2 c hc'⟩⟩
  ·refine zc (Xo ..) (zc (zj ..) (zc (gI ..) ?_))
   have:0<L.length:=List.length_pos_of_mem m1
   omega
  ·subst z
   rw[Xo]at hc'
   refine zt (zB.mp hc') fun w hw ew=>?_
   have ew:w=(aG).cps.toList:=by exact xv ew rfl
   have:(60:Nat)∈w:=by refine zc ew ?_;decide +kernel
   rcases sg w hw 60 this with z|z|z<;>cases z
 ·refine zc e (zc (Xo ..) (zc yp (zc yp ?_)))
  exact yT fun c U=>pC L c
 ·exact yT fun c U=>mD _ c
 ·refine zc e (zc (Xo ..) ?_)
  exact U2 0 (bO L) fun w hw c hc=>by
   rcases sg w hw c hc with rfl|rfl|rfl<;>decide +kernel
end
section
noncomputable def o6:xK:={cls:=.type "dict",dict:=none,data:=.dict #[] 0,slots:=#[]}
noncomputable def K4(P:zp):uQ:=[(2,cp P),(6,o6),(789,ZC),(866,ZC)]++KF P
noncomputable def NB:List zI:=[2,6,789,866]++KA
theorem JO(P:zp):NB=(K4 P).map (·.1):=⋯
noncomputable def lH(a:zI):Bool:=a==2||a==6||a==789||a==866
noncomputable def gz(h:xO):xO:=⟨h.objs.mapIdx fun i o=>bif lH i then{cls:=.none,data:=.freed}else o,h.life⟩
theorem bL(h:xO)(a:zI):(gz h).get? a=bif lH a then none else h.get? a:=by
 show(match(h.objs.mapIdx fun i o=>bif lH i then{cls:=.none,data:=.freed}else o)[a]? with
  |some ⟨_,_,.freed,_⟩=>none
  |o=>o)=_
 refine zc Array.getElem?_mapIdx ?_
 cases lH a with
 |true =>
  cases h.objs[a]?<;>rfl
 |false =>
  show(match lO id h.objs[a]? with
   |some ⟨_,_,.freed,_⟩=>none
   |o=>o)=_
  refine zc Option.map_id ?_
  rfl
theorem pH(t:lH a=true):(gz h).get? a=none:=by refine zc (bL ..) (zc t ?_);rfl
theorem Ds(t:lH a=false):(gz h).get? a=h.get? a:=by refine zc (bL ..) (zc t ?_);rfl
theorem Tf:∀{l:List (zI×β)},l.lookup a=some o→(a,o)∈l
 |[],e=>by exact nS e
 |(b,p)::l,e=>by
  rw[yd]at e
  cases z:a==b with
  |true =>
   rw[z]at e
   replace e:=zf e;subst e
   exact zc (beq_iff_eq.mp z) (.head _)
  |false=>rw[z]at e;exact .tail _ (Tf e)
theorem oQ(P:zp):(KF P).all (fun p=>!lH p.1)=true:=⋯
theorem o5(X:(K4 P).In h):(KF P).In h:=fun a o e=>X a o (by
 have f:=oQ P
 have m:=Tf e
 have g:=zJ.mp f _ m
 have g:lH a=false:=by simpa using g
 unfold lH at g
 simp only[vr]at g
 show List.lookup a ([(2,cp P),(6,o6),(789,ZC),(866,ZC)]++KF P)=some o
 refine zc YM (zc yd (zc g.1.1.1 (zc YM (zc yd (zc g.1.1.2 (zc YM (zc yd (zc g.1.2 (zc YM (zc yd (zc g.2 ?_)))))))))))
 exact e)
noncomputable def M5:Qx:={scope:=⟨.function,[],false,false,[]⟩,locals:=6,globals:=3,cells:=[]}
noncomputable def LQ(w:ya)(h:xO):Cx:={w:=w,A:=callerA,env:=M5,B:=gz h,ρ:=⟨[],[]⟩,δ:=[],oc:=[],fs:=[]}
theorem Iu(t:uG (LQ w h) a):a=6:=by
 rcases t with t|t|t
 ·exact t
 ·cases t
 ·cases t
theorem KW(X:(K4 w.params).In h):Base (1+eZ) (LQ w h) where
 K a o e:=by
  have m:=Tf e
  have g:=zJ.mp (oQ w.params) _ m
  have g:lH a=false:=by simpa using g
  show(gz h).get? a=some o
  exact zc (Ds g) (o5 X a o e)
 room:=⟨rfl,zX _,by show 4≤1+10*(1+eZ);exact Tg 0x51130a1341130413 [eZ] rfl⟩
 link:=⟨[],rfl,rfl,fun e he=>by cases he⟩
theorem NO(X:(K4 w.params).In s.heap):St (LQ w s.heap) [] [] s where
 base a o e:=by
  have e:(gz s.heap).get? a=some o:=e
  rw[bL]at e
  cases t:lH a with
  |true=>rw[t]at e;exact nS e
  |false=>rw[t]at e;exact e
 apart a t:=by refine zc (Iu t) ?_;exact⟨pH rfl,by decide⟩
 kinds a t:=by refine zc (Iu t) ?_;exact⟨o6,X _ _ ⋯,rfl⟩
 frame:=⟨⟨fun U=>none,⟨o6,#[],0,X _ _ ⋯,rfl,fun e he=>by simp at he,fun n=>rfl⟩,fun n av U q=>by exact nS q⟩,fun n av U q=>(by exact nS q),fun n q=>by rcases q with q|q<;>exact nS q⟩
 objs i o e:=by exact nS e
 lim:=bt (P:=w.params) (X 2 _ ⋯)
 nodup:=wC
 own:=⟨fun q=>(by cases q),fun c hc=>(by cases hc)⟩
 cnod:=wC
 opn a q:=by cases q
 ocs c q:=by cases q
 ol:=zX _
 cex c q:=by cases q
 frs L q:=by cases q
theorem pi:∀{xs:List WData} {vs:List zi},TR [] xs .int=true→WellAll P h vs xs→∃ns:List Int,ns.length=xs.length∧ConL ρ h (ns.map .int) vs:=by
 intro l0
 induction l0 with
 |nil =>
  intro vs _ hw
  cases hw;exact⟨[],rfl,by unfold ConL;rfl⟩
 |cons x xs ih =>
  intro vs hx hw
  have hx:WShape.has [] x .int=true∧TR [] xs .int=true:=by simpa [TR]using hx
  refine yf (hasW_int hx.1) fun i z1=>?_;subst z1
  cases hw with
  |cons hv hr =>
   cases hv
   refine zt ((ih hx.2 hr)) fun ns hl hc=>⟨i::ns,by exact zc zS (zc zS (zc hl rfl)),?_⟩
   refine zc zU ?_
   unfold ConL
   exact⟨_,_,rfl,⟨_,rfl⟩,hc⟩
end
section
set_option tactic.hygienic true
noncomputable abbrev lw:OpenLaw:=PySem.Challenge.rw_aa0006_01
theorem KG(P:zp):∃o vs,(KF P).lookup 868=some o∧o.cls=.type "code" ∧ o.data=.fields vs∧vs[11]?=some (.ref 866):=⟨oR P,_,⋯,rfl,rfl,⋯⟩
theorem KH(P:zp):∃o vs,(KF P).lookup 793=some o∧o.cls=.type "code" ∧ o.data=.fields vs∧vs[11]?=some (.ref 789):=⟨C5 P,_,⋯,rfl,rfl,⋯⟩
theorem EQ{w:ya}{s s':zg}(X:(K4 w.params).In s.heap)(D:Stays (gz s.heap) (fun _=>False) s s'):OldK s.heap s'.heap:=by
 have XK:=o5 X
 have g7:s.heap.get? 789=some ZC:=X _ _ ⋯
 have g8:s.heap.get? 866=some ZC:=X _ _ ⋯
 have k:∀a o,s.heap.get? a=some o→a≠789→a≠866→s'.heap.get? a=some o:=fun a o e h7 h8=>by
  by_cases h6:a=6
  ·subst h6
   have e':s.heap.get? 6=some o6:=X 6 _ ⋯
   rw[e]at e'
   cases e'
   exact D.keep 6 _ h7 h8 e rfl id
  ·by_cases h2:a=2
   ·subst h2
    have e':s.heap.get? 2=some (cp w.params):=X 2 _ ⋯
    rw[e]at e'
    cases e'
    exact D.keep 2 _ h7 h8 e rfl id
   ·refine D.base a o ?_
    rw[Ds]
    ·exact e
    ·unfold lH
     rw[vr,vr,vr]
     exact⟨⟨⟨beq_eq_false_iff_ne.mpr h2,beq_eq_false_iff_ne.mpr h6⟩,beq_eq_false_iff_ne.mpr h7⟩,beq_eq_false_iff_ne.mpr h8⟩
 refine⟨fun b o e=>?_,fun b o e=>?_⟩
 ·by_cases h7:b=789
  ·subst h7
   rw[g7]at e
   replace e:=zf e;subst e
   exact yf D.t7 fun ps e'=>x7 (KH w.params) fun oc vs a1 a2 a3 a4=>.inr (.inl ⟨⟨793,oc,vs,XK _ _ a1,a2,a3,a4⟩,rfl,#[],ps,rfl,by refine zc VO ?_;exact e'⟩)
  ·by_cases h8:b=866
   ·subst h8
    rw[g8]at e
    replace e:=zf e;subst e
    exact yf D.t8 fun ps e'=>x7 (KG w.params) fun oc vs a1 a2 a3 a4=>.inr (.inl ⟨⟨868,oc,vs,XK _ _ a1,a2,a3,a4⟩,rfl,#[],ps,rfl,by refine zc VO ?_;exact e'⟩)
   ·exact .inl (k b o e h7 h8)
 ·by_cases h7:b=789
  ·subst h7;exact⟨_,D.t7.choose_spec⟩
  ·by_cases h8:b=866
   ·subst h8;exact⟨_,D.t8.choose_spec⟩
   ·exact⟨o,k b o e h7 h8⟩
theorem As{h:xO}{a:zI}{m m':Str→Option zi}(x:h.Ns a m)(y:h.Ns a m')(n:Str):m n=m' n:=by
 refine Wj x fun o es ep g d z5 f=>?_;clear x;clear z5
 refine Wj y fun o' es' ep' g' d' z5 f'=>?_;clear y;clear z5
 rw[g]at g'
 replace g':=zf g';subst g'
 rw[d]at d'
 cases d'
 exact xv (f ..) (xv (f' ..) rfl)
theorem law_good{w:ya}{s₀ s₁:zg}{mg:Str→Option zi}(Y:(K4 w.params).In s₁.heap)(hmn:s₁.heap.Ns 3 mg){a:zI}(hmg:mg lw.row.name=some (.ref a))(hg:s₁.gens=#[]){args:List WData}{vals:List zi}(hpre:lw.row.toRowW.claim.pre args=true)(hwl:WellAll w.params s₁.heap vals args){E:zi→zg→Prop}:
  zr (zu pw w) callerA (call (.ref a) vals) (fun v s'=>GoodWG lw.row.toRowW.claim (classAt s₀.heap) (ExcName.means s₀.heap) args s₁ (.ok (.ret v)) s') E s₁:=by
 have XK:=o5 Y
 have ha:a=869:=by
  have e:=As hmn (nZ (XK 3 _ oY) rfl oX) lw.row.name
  rw[hmg,show b9 (Wh (rC w.params)) lw.row.name=some (.ref 869) from⋯]at e
  cases e
  rfl
 subst ha
 refine zK (pre_splitW (r:=lw.row.toRowW) hpre) fun p1 p2=>xk (hasAllW_cons p1) fun d r z2 hd hr=>?_;subst z2
 have hr:=hasAllW_nil hr
 subst hr
 refine zt (hasW_list hd) fun xs z1 hx=>?_;subst z1
 have hlen:xs.length≤63:=by
  have hpr:lw.row.toRowW.pre=.and (.not (.lt (.lit (.int 63)) (.len (.arg 0)))) (.lit (.bool true)):=rfl
  rw[hpr]at p2
  replace p2:=(show G4 lw.row.records (.and (.not (.lit (.bool (decide ((63:Int)<xs.length))))) (.lit (.bool true))) {args:=[.list xs]}=G4 lw.row.records (.and (.not (.lt (.lit (.int 63)) (.len (.arg 0)))) (.lit (.bool true))) {args:=[.list xs]} from ⋯).trans p2
  by_cases z:(63:Int)<xs.length
  ·rw[decide_eq_true z]at p2
   exact fT p2
  ·exact Int.ofNat_le.mp (Int.not_lt.mp z)
 cases hwl with
 |cons hv hn =>
  cases hn
  cases hv with
  |list hl hw =>
   rename_i b vs
   refine zt (pi (ρ:=⟨[],[]⟩) hx hw) fun ns hl' hc=>yL (oJ (x:=LQ w s₁.heap) (n:=1+eZ) (KW Y) (by decide) rfl rfl rfl (NO Y) (Y _ _ ⋯) (Y _ _ ⋯) (Y _ _ ⋯) (pH rfl) (pH rfl) nD (ns:=ns) (vB 0x653f2362710435 [ns.length,xs.length] hlen (ze hl') rfl) ?_ fun s' D=>?_)
   ·exact V1 ⟨b,vs,rfl,yV,⟨_,hl,rfl,_,rfl⟩,hc⟩
   ·refine xd D.rest fun h t dr e=>⟨.inl ⟨_,.bool true,[],rfl,fun cls=>rfl,.bool true,?_,fun _=>⟨wC,fun a h=>by cases h⟩⟩,EQ Y D,by exact zc e rfl,.of_eq (by refine zc e ?_;exact hg)⟩
    show(WShape.has [] (.bool true) .bool&&G4 [] (.eq .res (.lit (.bool true))) _)=true
    kernel_rfl
end
section
set_option tactic.hygienic true
noncomputable def ET:List Str:=[za "_sre",za "deque",za "_wall",za "_twin_re_1",za "_whence",za "_index",za "UnsupportedOperation",za "IOBase",za "BufferedIOBase",za "TextIOBase",za "BytesIO",za "StringIO",za "_kind",za "_fspath",za "_check_arg_types",za "isabs",za "join",za "_c_path",za "_shelf_fresh",za "_splitroot",za "dirname",za "_normpath",za "normpath",za "shlex",za "split",za "_find_unsafe",za "quote",za "cmp_to_key",za "_initial_missing",za "reduce",za "sep",za "_Ignore",za "_law_name",za "_law_names",za "_law_words",za "_law_spelled",za "_law_step",za "_law_due"]
noncomputable def qw:uW:=view pw [44]
noncomputable def hk:Hook:=kHook K4 NB JO
theorem left1:LeftO pw qw ET (fun _=>true) hk.obs hk.val 20000:=AH fun w=>⋯
end
section
set_option tactic.hygienic true
theorem IZ:PySem.W.Fast.tw12908688711261696721 PySem.Challenge.rw_aa0006_01.prog=true:=by
 delta Fast.tw12908688711261696721
 repeat' with_reducible refine look_both ?_ ?_
 all_goals decide +kernel
theorem well_said:PySem.Challenge.rw_aa0006_01.wellSaid=true:=by
 refine(congrFun PySem.W.Fast.te9446332074065402090 PySem.Challenge.rw_aa0006_01).trans ?_
 delta Fast.tw9446332074065402090 Fast.tw17960256430627541270 Fast.tw2436336058641802641
 refine zc (show PySem.W.Fast.tw12908688711261696721 (Fast.tw2368527892694137696 Challenge.rw_aa0006_01).prog=true from IZ) ?_
 kernel_rfl
end
section
theorem Kx:(defOf qw lw.row.name).isSome=true:=⋯
noncomputable def dk:DefRec×List (Str×Expr):=(defOf qw lw.row.name).get Kx
theorem dk_at:defOf qw lw.row.name=some (dk.1,dk.2):=(Option.some_get Kx).symm
end
end Mine.Internal
theorem PySem.Challenge.cw_aa0006_01_holds : PySem.Challenge.rw_aa0006_01.Holds := by
 refine holds_law Mine.Internal.well_said fun said=>PySem.W.holds_open (r:=PySem.Challenge.rw_aa0006_01.row) Mine.Internal.left1 Mine.Internal.hk.of Mine.Internal.hk.keeps (fun U U=>trivial) (fun U U U U U=>trivial) (XP:=fun U U=>True) Mine.Internal.dk_at (by rfl) (by rfl) (fun s U=>recFacts_nil rfl) (by rfl) said (by decide +kernel) ⟨rfl,rfl,rfl,rfl,rfl,by decide +kernel⟩ ⟨[.list []],by decide +kernel,by decide +kernel⟩ ?_
 intro w s₀ s₁ mg mb G Y fa o pm cd doc dV kV ho hd hcd hD hmg hg args vals as hpre hlay hrd hwl hlo
 exact Mine.Internal.law_good Y G.T.g (by rw [← defOf_name Mine.Internal.dk_at];exact hmg) hg hpre hwl
