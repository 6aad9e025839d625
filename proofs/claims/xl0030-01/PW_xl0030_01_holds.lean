import PyProof.Rows.All
import KE.KCallOwn
import KE.KLam
import KE.KSuperObj
import OpenK.AllK
import PyProof.GenRules
import PyProof.ListNew
import PyProof.Seq
import PyProof.SumAny
import PyProof.WalkInts
import PySem.PyData
import PySem.Syntax
import Wide.All
import Wide.FinOn
import Lean
import PySem.Challenge.RW_xl0030_01
set_option maxRecDepth 100000
set_option maxHeartbeats 8000000
set_option linter.unusedVariables false
set_option compiler.extract_closed false
set_option genInjectivity false
set_option genSizeOf false
namespace Mine.Internal
open PySem PySem.Spec PySem.Calls PyProof.Rows PySem.W Builtin Builtin.ObjectAttr
open _root_.Bool renaming false→dV,true→Sk,and_eq_true→Ta,rec→Ti,noConfusion→UA,false_ne_true→VD,not_eq_true'→VY,true_and→Wi,false_and→WE,and_false→WH,or_eq_false_iff→Xp,and_eq_true_iff→Zs
open _root_.PySem renaming wpAny_bind→kV,wpAny_pure→Sl,wpAny_mono→Sq,Value→Sr,wpAny→Ss,Shared→Sw,Addr→Sx,wpAny_holding→SR,mainGlobals→S4,foldedSetIterable→Tv,wpAny_Call_Name_kw→TB,letOwnedTupleGo→TC,wpAny_standAt→TF,wpAny_field→TH,wpAny_newObj_type→TK,wpAny_of_eq→TT,starEach→T4,wpAny_seqItems→T6,wpAny_callSpecial?_slot→T7,wpAny_loadName_local→T8,builtinsNs→Ua,assignEach→Uc,Around→Ue,BindsTo→Ug,wpAny_call_entry→Uh,IsRangeIter→Uk,wpAny_storeName_local→Ut,seg_execs_cons→Uw,slot_list_append→UD,standAt→UG,IsPair→UI,wpAny_truthy_bool→UL,wpAny_call→UM,isInstance→UN,pyNext→UO,codeAny_builtin→US,DictEntry→UW,sizeLine→U0,codeAny_call_builtin→U1,codeAny→U4,wpAny_rule→U5,wpAny_updateSeq→U6,isTrue→Vb,sizeLine_eq→Vc,builtinKind→Vd,wpAny_isInstance→Vg,type_list_append→Vh,PyData→Vi,slot_listiter_next→Vj,wpAny_setField_rec→Vl,numAt→Vm,wpAny_specialOf→Vn,wpAny_letGo→Vs,wpAny_attempt→Vu,checkBoundCall→Vx,clipAt→VB,rawInt→VC,newEnv→VF,codeAny_mono→VG,getAttrByItsOwn→VK,IsZip→VN,swapsWith→VO,swappedStores→VP,wpAny_isTrue_Compare1→VS,slot_list_getitem→VX,wpAny_Name→V0,letTemporaryGo→V3,typeIs_str→V4,wpAny_listPart→V5,seqIndex?→Wb,plainId_quiet→Wo,theTreesLotGoes→Wr,wpAny_Constant_int→Wt,call_meets→Wu,argsOk→Ww,seqItems?→Wy,getMethod→Wz,boundAndCalled→WI,wpAny_loadPart→WK,wpAny_pyNext_list_item→WM,wpAny_pyIter_list→WN,IsRange→WQ,wpAny_pyIter_enum→WR,newFunctionEnv→WT,GenState→WX,wpAt→WY,ks_wpAt_mono→WZ,wpAny_tryCatch→W0,recursionLimit→W1,wpAny_pyNext_list_end→W4,codeAny_call_function→W6,codeAmong→W8,backTo→W9,typeIs_int→Xa,checkBuiltinCall→Xb,wpAny_load→Xd,preSum→Xf,swapsWithSole→Xl,wpAt_of_wpAny→Xm,seg_execs_nil→Xn,callWith→Xr,callSpecialIfBoundUnlessNone?→Xs,typeOf→Xv,codeAny_of_tree→Xy,wpAny_loadPart'→Xz,wpAny_Constant_none→XE,wpAny_Constant_bool→XF,builtinType_eq_fast→XH,callSpecial?→XK,getItem→XM,loadGlobal→XS,pyIter→XT,wpAny_pyIter_range→XU,wpAny_isTrue_value→XW,FuncData→XX,bindArgs→XZ,firstArgMember→X0,slicePicked→Yg,slot_list_setitem→Yh,argBest→Yk,wpAny_assign_Name→Yl,evalPart_none→Yn,wpAny_comprehension_free→Yp,wpAny_onRaise→Yq,TriplesOk→Ys,binaryOp→Yt,callGetattribute→Yx,wpAny_askSetting→Yy,wpAny_listSubscript_int→Yz,wpAny_getItem_str_slice→YB,strValues→YD,noteFrame→YG,wpAny_allTrue_And_cons→YL,wpAny_mkText→YN,wpAny_getItem_list_neg→YP,wpAny_typeOf→YQ,closureFor→YU,codeAny_compStart_list→YV,wpAny_allTrue_Or_cons→Y0,wpAny_pyIter_listiter→Y3,exec_Assign_Name_used→Y4,builtinLookup_eq_fast→Y5,slot_list_iter→Zk,keywordEach→Zl,wpAny_alloc→Zn,compPost→Zq,isSubtype_stop→Zr,seg_Expr_Yield→Zt,splitId→ZD,setItem→ZE,updateSeq→ZF,newList→ZG,behindInMarks→ZR,evalPart_some→ZT,wpAny_release→ZU,assignInOrder→ZV,compTurn_list→ZX,wpAny_handled→ZY,wpAny_newList→Z0,call_range_1→aad,compTurn→aag,isSubtype→aar,specialOf→aas,storeName→aat,inplaceOp→aau,IsEnum→aaw,IsPart→aaM
open _root_.Option renaming some→Si,isSome_iff_exists→S7,map_some→Uz,bind_some→Vf,map_eq_some_iff→VI,rec→Z1
open _root_ renaming List→Sj,Bool→Sm,if_neg→SK,congrArg→SU,Option→SV,if_pos→SX,of_decide_eq_true→S8,absurd→Tc,decide_eq_false→Tt,decide_eq_true→Tu
open _root_.List renaming mem_singleton→Sn,mem_of_getElem?→Su,replicate→Sv,size_toArray→Sy,getElem?_eq_getElem→Sz,mem_cons→SD,getElem?_eq_some_iff→SJ,length_append→SY,rec→S5,length_map→S6,forall_mem_cons→Tb,all_eq_true→Te,length_cons→Tg,mem_append→Tj,getElem?_append_left→Tp,map_cons→Tx,flatten_cons→TJ,getElem?_map→TM,replicate_succ→TN,getD_eq_getElem?_getD→TR,length_replicate→TS,append_nil→TV,getElem?_append_right→T5,map_map→Ud,mem_append_left→Un,range→Up,getElem?_toArray→Uu,mem_range→Uv,forIn_cons→Uy,lookup_cons→UC,take_of_length_le→UP,mem_map_of_mem→UQ,pairwise_iff_getElem→UU,append_assoc→U3,map_congr_left→U9,head?_drop→Vo,map_append→Vp,nodup_append→Vq,sum_cons→Vv,nodup_cons→VL,length_nil→VM,length_singleton→VW,getElem?_of_mem→V8,cons_append→Wc,getElem?_eq_none_iff→We,length_eq_zero_iff→Wx,getElem?_cons_succ→WC,getElem?_replicate→WD,length_range→WL,forIn_nil→WS,take_add_one→WU,range_succ_eq_map→WV,drop_drop→W3,getElem?_eq_none→W5,getElem_map→Xh,map_take→Xo,drop_eq_nil_iff→Xq,nil_append→XA,mem_map→XN,map_replicate→Ya,drop_eq_getElem_cons→Yb,getElem?_zip_eq_some→Yd,all_toArray→Yu,length_take→YC,find?_cons_of_neg→YM,mem_filter→YZ,dropLast_eq_take→Y6,cons_lt_cons_iff→Y9,mem_append_right→Za,singleton_append→Zb,perm_append_comm→Zc,lookup→Zo,mem_cons_of_mem→Zp,lt_irrefl→Zu,range'→Zx,range_eq_range'→Zy,foldl_toArray'→ZN,getElem_of_mem→ZP,filterMap_map→Z2,mem_cons_self→Z3,mem_replicate→Z7,push_toArray→aah,ext_getElem?→aal,any_toArray→aap,any_eq_true→aaq,not_mem_nil→aay,perm_middle→aaB,Perm→aaT
open _root_.Nat renaming le_trans→So,le_of_ble_eq_true→Sp,lt_of_lt_of_le→SH,beq→SN,lt_trans→SO,ne_of_lt→SP,eq_of_beq_eq_true→SQ,le_refl→SW,ble→SZ,exists_eq_add_of_le'→S0,lt_succ_self→S1,le_add_right→Td,rec→Tf,zero_le→Th,lt_of_le_of_lt→Tn,lt_succ_of_lt→To,lt_irrefl→Tq,add_le_add_left→Tw,ne_of_gt→Tz,succ→TA,le_of_lt→TP,le_add_left→TQ,succ_le_succ→TU,ble_eq_true_of_le→TZ,le_succ→T2,le_of_eq→Ub,succ_add_eq_add_succ→Ui,lt_succ_of_le→Ul,not_lt→Uo,le_antisymm→UR,not_lt_zero→U7,le_succ_of_le→Vt,beq_refl→Vz,le_of_sub_eq_zero→VV,lt_add_one→V2,add_le_add→V7,lt_of_not_le→V9,zero_add→Wd,add_right_comm→Ws,lt_of_succ_le→WW,sub_le→Xc,mod_lt→Xi,div→Xj,exists_eq_succ_of_ne_zero→Xt,min_eq_left→Xu,mul_le_mul_left→XD,mul→XI,add_assoc→Ym,mod→YH,succ_pos→YI,sub_succ→YX,lt_of_sub_eq_succ→Y8,add_le_add_right→Ze,one_mul→Zw,add→Zz,mod_two_ne_zero→ZI,add_comm→aaa,lt_trichotomy→aab,add_div_right→aan,le_of_lt_succ→aao,pred→aaP,sub→aaU
open _root_.PySem.Obj renaming mapSeq→S9,data_mapFields→Z5,putName→aaG
open _root_.PySem.Builtin.SmallTypes renaming nextOf→Tr,ownedTupleIsFree→Ux,ownedTupleHandOut→Wh
open _root_.PySem.Builtin.Range renaming rangeSize→Ts
open _root_.Int renaming ofNat→TG,ofNat_eq_natCast→UB,natCast_nonneg→UV,rec→UY,le_of_lt→Wa,negSucc_lt_zero→Wf,lt_trans→XJ,not_lt→XQ,max_eq_right→YA,le_trans→YK,negSucc→Zd,subNatNat_of_le→ZJ,toNat_of_nonneg→ZK,toNat_of_nonpos→ZL,neg→Z9,ofNat_le→aac,toNat_natCast→aak
open _root_.PySem.Builtin.List renaming listItems→TX,listSubscript?→Um,listUpdate→UE,listFitsIndex→UJ
open _root_.PySem.Str renaming ofString→TY
open _root_.PySem.W renaming looks_findIn→T3,emptyDict→Uj,findIn→Uq,InstAt→Us,looks_mroIn→Vr,putName_dict→VA,dictOf→VQ,looks_nsIn→Xe,callWith_of→Yj,methodObj→YF,check_slot→YO,typeIn→YS,instObj→YT,looks_clsIn→Zg,hasDictIn→ZA,codeRec_of→Z6,findCls→aaf,alongIn→aaj,keepIn→aax,specialIn→aaz,tabObj→aaC,clsIn→aaF,kla_obj→aaJ,hideAll→aaK,lookIn→aaL,nsIn→aaN
open _root_.PySem.Value renaming ref→T9,none→XY,isStr→Yf,int→ZH,str→aaS
open _root_.PySem.F renaming plain_min_loop→Ur,slot_list_getattribute→UX,slot_range_iterator_next→Vk,slot_str_split→VJ,slot_str_join→VU,slot_str_getitem→Wj,slot_str_isspace→Wl,args_str_split_2→Wn,ks_slot_super_ga→Wp,entry_str_split→WB,args_list_getattribute_2→WJ,entry_min_loop→W2,type_str_join→W7,args_range_iterator_next_1→XB,slot_zip_next→XC,entry_range_iterator_next→XO,type_str_isspace→Yr,slot_list_index→YE,plain_list_new→YW,entry_list_ga→Y1,slot_tuple_lt→Y7,store_object→Zh
open _root_.PyProof.Rows renaming strKind→UF,IntsAre→UK,seqObj→UT,AllBare→UZ,spliced_more→Va,assignInOrder_cons→VE,assign_Name→Wk,listUpdate_at→Wq,assignInOrder_nil→Yi,args_nil→Yw,Attribute_any_→Zi,tail_any→Zj,subscriptTail→ZS,arrOf→ZZ,SortedToK→aaA
open _root_.PySem.Builtin.Str renaming strSliceIndices→UH,partsBetween→Wm,occurrences→WA,strKind→ZO
open _root_.PySem.Around renaming under_plainId→U2
open _root_.ForInStep renaming yield→U8
open _root_.PySem.PyData renaming keyHash→Vw,int→Vy,canLay0→V1,eqv→Wv,depth→WG,eqvAll→Xk,canLayAll0→Ye,depthAll→YY
open _root_.PySem.Manifest renaming canonical→VH,signature?→Wg
open _root_.Array renaming getElem?_toList→VT,getElem?_eq_some_iff→V6,length_toList→XG,set!_eq_setIfInBounds→XP,getElem_toList→Zv,toList_append→ZQ,size_append→aae,toList_zip→aaD
open _root_.PySem.Builtin.Builtins renaming bindParams→VZ
open _root_.PySem.Calls renaming evalArgs_plain→WO
open _root_.And renaming intro→Xg
open _root_.PySem.Unicode renaming isSpace→Xw
open _root_.List.cons renaming injEq→Xx
open _root_.PySem.Bind renaming checkArgs→XR,madeBy→aaH
open _root_.PySem.Builtin.Generator renaming genWake→Yc
open _root_.PySem.W.Looks renaming of_pure→Yo
open _root_.String.Pos.Raw renaming mk_le_mk→Yv
open _root_.PyProof renaming noPylong_small→YJ
open _root_.PySem.Env renaming kindOf→YR
open _root_.PySem.StrLaws renaming glued_eq_join→Y2
open _root_.PySem.P renaming eq_int→Zf,getItem_str→ZM,iadd_int→aav,len_str→aaI
open _root_.ForIn renaming forIn→Zm
open _root_.PySem.Code renaming quiet_builtin→Z4
open _root_.PySem.callAny renaming viaDunder→aai
open _root_.PySem.Sem renaming bind_eq_wrap'→aam
open _root_.LawfulMonad renaming pure_bind→aaE
open _root_.Array.mk renaming injEq→aaO
open _root_.PyProof.Rows.SortSt renaming mk'→aaQ
open _root_.Function renaming comp→aaR
variable{h:Heap}{C:Cfg}{s:St}{α:Type}{aby:Nat}{fx:Fx}{z a:Addr}{elt:Expr}{σ:List Addr}{x:Str}{es:List Expr}{TI:Addr}{env:Env}{t:Nat}{l:List V}{it:It}{xs:List Int}{gens:List Comprehension}{N:Nat}{dx fa:Addr}{v:V}{st:St}{L:Addr}{gi:eN}{scope:Scope}{fd:FuncData}{af:Addr}{s0:St}{k:V->St->Bool}{c:Nat}{cs:CA}{sc lsc:Scope}{as:CA}{q:List V}{r:T}{j:Nat}{fm:Fm}{d:Nat}{st':St}{B:List Stmt}{Q E:Value->Shared->Prop}{ca cb:CE}{op:OP}{cc:CT}{ce:CE}{en:Expr}{expr:Bool}{tk:Tok}{cd:ClassData}{w:V}{ci:CI}{ct:CT}{R:List Nat}{Ex:Value->Shared->Prop}{orelse:List Stmt}{R₀:Result->Shared->Prop}{qual:Str}{func:Option Addr}{around:Option Env}{ps:List (Bool×Nat)}{d':Nat}{pl:Sem Bool}{co:CE}{apos:Pos}{g:Addr}{tp:Pos}{ifs:List Expr}{acc:Value}{cenv:Env}{target2 iter2:Expr}{ifs2:List Expr}{ty bt:String}{p0:Pos}{xa:Str}{pa pb pt px:Pos}{kt:Nat}{s'':Shared}{t1 t2:Pos}{tc:Tok}{left:Int}{TO:Addr}{e1:Pos}{eg:Expr}{cn cg:CE}{fname:Str}{z0 z1 z2 z3 z4 z5:Pos}{ks:List KP}{clos:List (Str×Addr)}{st1:St}{nl c1 ring:Nat}{cur:List Nat}{many:Nat}{o':O}{s':Shared}{ox:Obj}{gs:xL}{params:Arguments}{xb:Str}{ys:List Int}{ac:Addr}{p:Pos}{A:Around}{items:Array Value}{m:Nat}{f:Value}{target:Expr}{D:Addr}{spos:Pos}{hb:Heap}{i:Nat}{γ:Type}{i1:Addr}{aa0:Shared}{fs:List (Nat×V)}{y:Str}{od:Option Obj}{py:Pos}{b:Addr}{vs:List Value}{n:Nat}{pos:Pos}{β:Type}{G:Addr}{fp:List Addr}{stop:Bool}{h':Heap}{u:Value}{o:O}
section
universe u v w x
theorem bo {a b:Nat}(h:SZ a b=Sk):a<=b:=Sp h
theorem lC {a b:Nat}(h:SN a b=dV):a≠b:=Nat.ne_of_beq_eq_false h
theorem dE {P:Prop}{p:Prop}{q:Prop}(h:p/\q)(H:p->q->P):P:=H h.1 h.2
theorem kS {P:Prop}{p:Prop}{q:Prop}{r:Prop}(h:p/\q/\r)(H:p->q->r->P):P:=H h.1 h.2.1 h.2.2
theorem yF {P:Prop}{p:Prop}{q:Prop}{r:Prop}{s:Prop}(h:p/\q/\r/\s)(H:p->q->r->s->P):P:=H h.1 h.2.1 h.2.2.1 h.2.2.2
theorem bG {P:Prop}{α:Sort u}{p:α->Prop}(h:∃a,p a)(H:∀a,p a->P):P:=h.elim λa h=>H a h
theorem aE {P:Prop}{α:Sort u}{p:α->Prop}{q:α->Prop}(h:∃a,p a/\q a)(H:∀a,p a->q a->P):P:=h.elim λa h=>H a h.1 h.2
theorem fF {P:Prop}{α:Sort u}{p:α->Prop}{q:α->Prop}{r:α->Prop}(h:∃a,p a/\q a/\r a)(H:∀a,p a->q a->r a->P):P:=h.elim λa h=>H a h.1 h.2.1 h.2.2
theorem fC {P:Prop}{α:Sort u}{p:α->Prop}{q:α->Prop}{r:α->Prop}{s:α->Prop}(h:∃a,p a/\q a/\r a/\s a)(H:∀a,p a->q a->r a->s a->P):P:=h.elim λa h=>H a h.1 h.2.1 h.2.2.1 h.2.2.2
theorem Rc {P:Prop}{α:Sort u}{p:α->Prop}{q:α->Prop}{r:α->Prop}{s:α->Prop}{t:α->Prop}{z:α->Prop}(h:∃a,p a/\q a/\r a/\s a/\t a/\z a)(H:∀a,p a->q a->r a->s a->t a->z a->P):P:=h.elim λa h=>H a h.1 h.2.1 h.2.2.1 h.2.2.2.1 h.2.2.2.2.1 h.2.2.2.2.2
theorem vD {P:Prop}{α:Sort u}{β:Sort v}{p:α->β->Prop}(h:∃a b,p a b)(H:∀a b,p a b->P):P:=h.elim λa h=>h.elim λb h=>H a b h
theorem fB {P:Prop}{α:Sort u}{β:Sort v}{p:α->β->Prop}{q:α->β->Prop}(h:∃a b,p a b/\q a b)(H:∀a b,p a b->q a b->P):P:=h.elim λa h=>h.elim λb h=>H a b h.1 h.2
theorem gw {P:Prop}{α:Sort u}{β:Sort v}{p:α->β->Prop}{q:α->β->Prop}{r:α->β->Prop}(h:∃a b,p a b/\q a b/\r a b)(H:∀a b,p a b->q a b->r a b->P):P:=h.elim λa h=>h.elim λb h=>H a b h.1 h.2.1 h.2.2
theorem J6 {P:Prop}{α:Sort u}{β:Sort v}{p:α->β->Prop}{q:α->β->Prop}{r:α->β->Prop}{s:α->β->Prop}(h:∃a b,p a b/\q a b/\r a b/\s a b)(H:∀a b,p a b->q a b->r a b->s a b->P):P:=h.elim λa h=>h.elim λb h=>H a b h.1 h.2.1 h.2.2.1 h.2.2.2
theorem C8 {P:Prop}{α:Sort u}{β:Sort v}{p:α->β->Prop}{q:α->β->Prop}{r:α->β->Prop}{s:α->β->Prop}{t:α->β->Prop}(h:∃a b,p a b/\q a b/\r a b/\s a b/\t a b)(H:∀a b,p a b->q a b->r a b->s a b->t a b->P):P:=h.elim λa h=>h.elim λb h=>H a b h.1 h.2.1 h.2.2.1 h.2.2.2.1 h.2.2.2.2
theorem pk {P:Prop}{α:Sort u}{β:Sort v}{p:α->β->Prop}{q:α->β->Prop}{r:α->β->Prop}{s:α->β->Prop}{t:α->β->Prop}{z:α->β->Prop}(h:∃a b,p a b/\q a b/\r a b/\s a b/\t a b/\z a b)(H:∀a b,p a b->q a b->r a b->s a b->t a b->z a b->P):P:=h.elim λa h=>h.elim λb h=>H a b h.1 h.2.1 h.2.2.1 h.2.2.2.1 h.2.2.2.2.1 h.2.2.2.2.2
theorem zl {P:Prop}{α:Sort u}{β:Sort v}{γ:Sort w}{p:α->β->γ->Prop}(h:∃a b c,p a b c)(H:∀a b c,p a b c->P):P:=h.elim λa h=>h.elim λb h=>h.elim λc h=>H a b c h
theorem iB {P:Prop}{α:Sort u}{β:Sort v}{γ:Sort w}{p:α->β->γ->Prop}{q:α->β->γ->Prop}(h:∃a b c,p a b c/\q a b c)(H:∀a b c,p a b c->q a b c->P):P:=h.elim λa h=>h.elim λb h=>h.elim λc h=>H a b c h.1 h.2
theorem Aj {P:Prop}{α:Sort u}{β:Sort v}{γ:Sort w}{p:α->β->γ->Prop}{q:α->β->γ->Prop}{r:α->β->γ->Prop}(h:∃a b c,p a b c/\q a b c/\r a b c)(H:∀a b c,p a b c->q a b c->r a b c->P):P:=h.elim λa h=>h.elim λb h=>h.elim λc h=>H a b c h.1 h.2.1 h.2.2
theorem mz {P:Prop}{α:Sort u}{β:Sort v}{γ:Sort w}{δ:Sort x}{p:α->β->γ->δ->Prop}{q:α->β->γ->δ->Prop}(h:∃a b c d,p a b c d/\q a b c d)(H:∀a b c d,p a b c d->q a b c d->P):P:=h.elim λa h=>h.elim λb h=>h.elim λc h=>h.elim λd h=>H a b c d h.1 h.2
theorem P9 {P:Prop}{α:Sort u}{β:Sort v}{γ:Sort w}{δ:Sort x}{p:α->β->γ->δ->Prop}{q:α->β->γ->δ->Prop}{r:α->β->γ->δ->Prop}(h:∃a b c d,p a b c d/\q a b c d/\r a b c d)(H:∀a b c d,p a b c d->q a b c d->r a b c d->P):P:=h.elim λa h=>h.elim λb h=>h.elim λc h=>h.elim λd h=>H a b c d h.1 h.2.1 h.2.2
theorem qc {P:Prop}{α:Sort u}{β:Sort v}{γ:Sort w}{δ:Sort x}{p:α->β->γ->δ->Prop}{q:α->β->γ->δ->Prop}{r:α->β->γ->δ->Prop}{s:α->β->γ->δ->Prop}(h:∃a b c d,p a b c d/\q a b c d/\r a b c d/\s a b c d)(H:∀a b c d,p a b c d->q a b c d->r a b c d->s a b c d->P):P:=h.elim λa h=>h.elim λb h=>h.elim λc h=>h.elim λd h=>H a b c d h.1 h.2.1 h.2.2.1 h.2.2.2
theorem PI {P:Prop}{α:Sort u}{β:Sort v}{γ:Sort w}{δ:Sort x}{ε:Sort u}{p:α->β->γ->δ->ε->Prop}(h:∃a b c d e,p a b c d e)(H:∀a b c d e,p a b c d e->P):P:=h.elim λa h=>h.elim λb h=>h.elim λc h=>h.elim λd h=>h.elim λe h=>H a b c d e h
theorem QY {P:Prop}{α:Sort u}{β:Sort v}{γ:Sort w}{δ:Sort x}{ε:Sort u}{p:α->β->γ->δ->ε->Prop}{q:α->β->γ->δ->ε->Prop}{r:α->β->γ->δ->ε->Prop}(h:∃a b c d e,p a b c d e/\q a b c d e/\r a b c d e)(H:∀a b c d e,p a b c d e->q a b c d e->r a b c d e->P):P:=h.elim λa h=>h.elim λb h=>h.elim λc h=>h.elim λd h=>h.elim λe h=>H a b c d e h.1 h.2.1 h.2.2
theorem Qh {P:Prop}{α:Sort u}{β:Sort v}{γ:Sort w}{δ:Sort x}{ε:Sort u}{p:α->β->γ->δ->ε->Prop}{q:α->β->γ->δ->ε->Prop}{r:α->β->γ->δ->ε->Prop}{s:α->β->γ->δ->ε->Prop}{t:α->β->γ->δ->ε->Prop}(h:∃a b c d e,p a b c d e/\q a b c d e/\r a b c d e/\s a b c d e/\t a b c d e)(H:∀a b c d e,p a b c d e->q a b c d e->r a b c d e->s a b c d e->t a b c d e->P):P:=h.elim λa h=>h.elim λb h=>h.elim λc h=>h.elim λd h=>h.elim λe h=>H a b c d e h.1 h.2.1 h.2.2.1 h.2.2.2.1 h.2.2.2.2
end
noncomputable section
inductive V where
 | none | bool (b:Sm) | int (i:Int) | str (s:Sj Nat) | ref (n:Nat) | tup (l:Sj V)
 deriving Inhabited
inductive O where
 | list (l:Sj V) | cell (v:SV V)
 | inst (c d:Nat) (fs:Sj (Nat×V)) | lsub (c d:Nat) (fs:Sj (Nat×V)) (l:Sj V) | hid
 deriving Inhabited
inductive T where
 | nil
 | node (v:O) (l r:T)
 deriving Inhabited
structure St where
 n:Nat
 t:T
 deriving Inhabited
structure Fm where
 loc:Sj (SV V)
 cel:Sj Nat
 deriving Inhabited
inductive Fl where
 | nxt | brk | cnt | ret (v:V)
 deriving Inhabited
inductive It where
 | seq (n i:Nat)
 | tup (l:Sj V)
 | str (l:Sj Nat)
 | rng (cur:Int) (len:Nat) (step:Int)
 | enS (k:Int) (n i:Nat)
 | enT (k:Int) (l:Sj Nat)
 deriving Inhabited
inductive dy where
 | v (a:V) | pair (a b:V)
 deriving Inhabited
abbrev KV:=V->St->Sm
abbrev FN:=Sj V->St->KV->Sm
abbrev CE:=Fm->St->KV->Sm
abbrev CA:=Fm->St->(Sj V->St->Sm)->Sm
abbrev CT:=Fm->St->(Sm->St->Sm)->Sm
abbrev CS:=Fm->St->(Fl->Fm->St->Sm)->Sm
abbrev CG:=Fm->V->St->(Fm->St->Sm)->Sm
abbrev CI:=Fm->St->(It->St->Sm)->Sm
abbrev CB:=Fm->St->(Sj V->Fm->St->Sm)->Sm
def aD (b:Sm)(t e:Sm):Sm:=@Ti (λ_=>Sm) e t b
def ee (b:Sm):Sm:=@Ti (λ_=>Sm) Sk dV b
def cr (v:V)(n:Sm)(b:Sm->Sm)(i:Int->Sm)(s:Sj Nat->Sm)(r:Nat->Sm)(t:Sj V->Sm):Sm:=
 @V.rec (λ_=>Sm) (λ_=>Unit) n b i s r (λl _=>t l) () (λ_ _ _ _=>()) v
def aG (v:V)(k:Int->Sm):Sm:=cr v dV (λ_=>dV) k (λ_=>dV) (λ_=>dV) (λ_=>dV)
def dB (v:V)(k:Sj Nat->Sm):Sm:=cr v dV (λ_=>dV) (λ_=>dV) k (λ_=>dV) (λ_=>dV)
def bB (v:V)(k:Nat->Sm):Sm:=cr v dV (λ_=>dV) (λ_=>dV) (λ_=>dV) k (λ_=>dV)
def m0 (v:V)(k:Sj V->Sm):Sm:=cr v dV (λ_=>dV) (λ_=>dV) (λ_=>dV) (λ_=>dV) k
abbrev cU (o:SV α)(k:α->Sm):Sm:=@Z1 α (λ_=>Sm) dV k o
def pE (o:O)(k:Sj V->Sm):Sm:=@O.rec (λ_=>Sm) k (λ_=>dV) (λ_ _ _=>dV) (λ_ _ _ _=>dV) dV o
def eo (o:O)(k:SV V->Sm):Sm:=@O.rec (λ_=>Sm) (λ_=>dV) k (λ_ _ _=>dV) (λ_ _ _ _=>dV) dV o
def rE (o:O)(k:Nat->Nat->Sj (Nat×V)->Sj V->Sm):Sm:=@O.rec (λ_=>Sm) (λ_=>dV) (λ_=>dV) (λ_ _ _=>dV) k dV o
def gQ (o:O)(k:Sj V->Sm):Sm:=@O.rec (λ_=>Sm) k (λ_=>dV) (λ_ _ _=>dV) (λ_ _ _ l=>k l) dV o
def pi (o:O)(k:Nat->Sj (Nat×V)->(Sj (Nat×V)->O)->Sm):Sm:=@O.rec (λ_=>Sm) (λ_=>dV) (λ_=>dV) (λc d fs=>k c fs (O.inst c d)) (λc d fs l=>k c fs λfs=>O.lsub c d fs l) dV o
def fX (l:Sj α)(k:Sm):Sm:=@S5 α (λ_=>Sm) k (λ_ _ _=>dV) l
def dc (l:Sj α)(k:α->Sj α->Sm):Sm:=@S5 α (λ_=>Sm) dV (λa r _=>k a r) l
def nv (l:Sj α)(k:α->Sm):Sm:=dc l λa r=>fX r (k a)
def Fk (l:Sj α)(k:α->α->Sm):Sm:=dc l λa r=>nv r (k a)
namespace T
def get (t:T):Nat->(O->Sm)->Sm:=@T.rec (λ_=>Nat->(O->Sm)->Sm) (λ_ _=>dV)
 (λv _ _ ihl ihr i k=>@Tf (λ_=>Sm) (k v) (λj _=>@Ti (λ_=>Sm) (ihr (Xj j 2) k) (ihl (Xj j 2) k) (SN (YH j 2) 0)) i) t
def set (t:T):Nat->O->(T->Sm)->Sm:=@T.rec (λ_=>Nat->O->(T->Sm)->Sm) (λ_ _ _=>dV)
 (λv l r ihl ihr i o k=>@Tf (λ_=>Sm) (k (.node o l r)) (λj _=>@Ti (λ_=>Sm) (ihr (Xj j 2) o λr=>k (.node v l r)) (ihl (Xj j 2) o λl=>k (.node v l r)) (SN (YH j 2) 0)) i) t
def ins (t:T):Nat->O->(T->Sm)->Sm:=@T.rec (λ_=>Nat->O->(T->Sm)->Sm) (λi o k=>@Tf (λ_=>Sm) (k (.node o .nil .nil)) (λ_ _=>dV) i)
 (λv l r ihl ihr i o k=>@Tf (λ_=>Sm) dV (λj _=>@Ti (λ_=>Sm) (ihr (Xj j 2) o λr=>k (.node v l r)) (ihl (Xj j 2) o λl=>k (.node v l r)) (SN (YH j 2) 0)) i) t
end T
namespace St
def get (s:St)(i:Nat)(k:O->Sm):Sm:=s.t.get i k
def push (s:St)(o:O)(k:Nat->St->Sm):Sm:=s.t.ins s.n o λt=>k s.n ⟨TA s.n,t⟩
def set (s:St)(i:Nat)(o:O)(k:St->Sm):Sm:=aD (SZ 4 i) (s.t.set i o λt=>k ⟨s.n,t⟩) dV
end St
abbrev getL (l:Sj α):Nat->(α->Sm)->Sm->Sm:=@S5 α (λ_=>Nat->(α->Sm)->Sm->Sm) (λ_ _ z=>z)
 (λx _ ih i k z=>@Tf (λ_=>Sm) (k x) (λj _=>ih j k z) i) l
abbrev nF (l:Sj α):Nat->α->(Sj α->Sm)->Sm:=@S5 α (λ_=>Nat->α->(Sj α->Sm)->Sm) (λ_ _ _=>dV)
 (λx r ih i v k=>@Tf (λ_=>Sm) (k (v::r)) (λj _=>ih j v λq=>k (x::q)) i) l
def aK (l:Sj α):Nat:=@S5 α (λ_=>Nat) 0 (λ_ _ ih=>TA ih) l
def bp (l q:Sj α):Sj α:=@S5 α (λ_=>Sj α) q (λx _ ih=>x::ih) l
def fg (l:Sj α):Nat->Sj α:=@S5 α (λ_=>Nat->Sj α) (λ_=>[]) (λx _ ih n=>@Tf (λ_=>Sj α) [] (λm _=>x::ih m) n) l
def mw (l:Sj α):Nat->Sj α:=@S5 α (λ_=>Nat->Sj α) (λ_=>[]) (λx r ih n=>@Tf (λ_=>Sj α) (x::r) (λm _=>ih m) n) l
def cw (l:Sj α)(n:Nat):Sj α:=@Tf (λ_=>Sj α) [] (λ_ ih=>bp l ih) n
def fE (f:α->β)(l:Sj α):Sj β:=@S5 α (λ_=>Sj β) [] (λx _ ih=>f x::ih) l
def gv (f:α->Sm)(l:Sj α):Sm:=@S5 α (λ_=>Sm) Sk (λx _ ih=>aD (f x) ih dV) l
def kW (l:Sj α):Sm->Sj α:=@S5 α (λ_=>Sm->Sj α) (λ_=>[]) (λx _ ih b=>@Ti (λ_=>Sj α) (ih Sk) (x::ih dV) b) l
def nQ (l:Sj α):α->α:=@S5 α (λ_=>α->α) (λa=>a) (λx _ ih _=>ih x) l
def oz (l:Sj α):Sj α:=@S5 α (λ_=>Sj α) [] (λx r ih=>@S5 α (λ_=>Sj α) [] (λ_ _ _=>x::ih) r) l
abbrev d7 (f:α->(β->Sm)->Sm)(l:Sj α):(Sj β->Sm)->Sm:=@S5 α (λ_=>(Sj β->Sm)->Sm) (λk=>k []) (λx _ ih k=>f x λy=>ih λq=>k (y::q)) l
def jf (a b:Int):Sm:=@UY (λ_=>Sm) (λx=>@UY (λ_=>Sm) (λy=>SN x y) (λ_=>dV) b) (λx=>@UY (λ_=>Sm) (λ_=>dV) (λy=>SN x y) b) a
def qv (a b:Int):Sm:=@UY (λ_=>Sm) (λx=>@UY (λ_=>Sm) (λy=>SZ x y) (λ_=>dV) b) (λx=>@UY (λ_=>Sm) (λ_=>Sk) (λy=>SZ y x) b) a
def AK (a b:Int):Sm:=ee (qv b a)
def small (i:Int):Sm:=@UY (λ_=>Sm) (λn=>SZ n 1152921504606846975) (λn=>SZ n 1152921504606846974) i
def cT (i:Int):Nat:=@UY (λ_=>Nat) (λn=>n) (λ_=>0) i
def gA (a b:Int):Int:=@UY (λ_=>Int) (λx=>@UY (λ_=>Int) (λy=>.ofNat (Zz x y)) (λy=>Int.subNatNat x (TA y)) b) (λ_=>Int.add a b) a
def iG (a b:Int):Int:=@UY (λ_=>Int) (λx=>@UY (λ_=>Int) (λy=>@Ti (λ_=>Int) (Int.sub a b) (.ofNat (aaU x y)) (SZ y x)) (λ_=>Int.sub a b) b) (λ_=>Int.sub a b) a
def GP (a b:Int):Int:=@UY (λ_=>Int) (λx=>@UY (λ_=>Int) (λy=>.ofNat (XI x y)) (λ_=>Int.mul a b) b) (λ_=>Int.mul a b) a
def Jb (a b:Int):Int:=@UY (λ_=>Int) (λx=>@UY (λ_=>Int) (λy=>.ofNat (Xj x y)) (λ_=>Int.fdiv a b) b) (λ_=>Int.fdiv a b) a
def Af (a b:Int):Int:=@UY (λ_=>Int) (λx=>@UY (λ_=>Int) (λy=>.ofNat (YH x y)) (λ_=>Int.fmod a b) b) (λ_=>Int.fmod a b) a
def idx (i:Int)(len:Nat)(k:Nat->Sm):Sm:=@UY (λ_=>Sm) (λj=>aD (SZ len j) dV (k j)) (λj=>aD (SZ len j) dV (k (aaU len (TA j)))) i
def eW (i:Int)(len:Nat):Nat:=@UY (λ_=>Nat) (λj=>@Ti (λ_=>Nat) j len (SZ len j)) (λj=>aaU len (TA j)) i
noncomputable def aB (n:Nat):Sm:=SZ n 4095
def CV (l:Sj Nat):Sj Nat->Sm:=@S5 Nat (λ_=>Sj Nat->Sm) (λq=>fX q Sk) (λa _ ih q=>dc q λb q=>aD (SN a b) (ih q) dV) l
def Gh (l:Sj Nat):Sj Nat->Sm:=@S5 Nat (λ_=>Sj Nat->Sm) (λq=>dc q λ_ _=>Sk) (λa _ ih q=>dc q λb q=>aD (SN a b) (ih q) (SZ a b)) l
def fe (st:St)(n:Nat):V->(Vi->Sm)->Sm:=@Tf (λ_=>V->(Vi->Sm)->Sm)
 (λv k=>cr v (k .none) (λb=>k (.bool b)) (λi=>k (.int i)) (λs=>aD (gv (λc=>SZ c 1114111) s) (k (.str ⟨s.toArray⟩)) dV) (λ_=>dV) (λ_=>dV))
 (λ_ ih v k=>cr v (k .none) (λb=>k (.bool b)) (λi=>k (.int i)) (λs=>aD (gv (λc=>SZ c 1114111) s) (k (.str ⟨s.toArray⟩)) dV)
  (λa=>st.get a λo=>pE o λl=>d7 ih l λds=>k (.list ds)) (λl=>d7 ih l λds=>k (.tuple ds))) n
def xW (f:Vi->Vi->(Sm->Sm)->Sm)(l:Sj Vi):Sj Vi->(Sm->Sm)->Sm:=@S5 Vi (λ_=>Sj Vi->(Sm->Sm)->Sm)
 (λq k=>@S5 Vi (λ_=>Sm) (k Sk) (λ_ _ _=>k dV) q)
 (λa _ ih q k=>@S5 Vi (λ_=>Sm) (k dV) (λb q _=>f a b λc=>aD c (ih q k) (k dV)) q) l
def I9 (n:Nat):Vi->Vi->(Sm->Sm)->Sm:=@Tf (λ_=>Vi->Vi->(Sm->Sm)->Sm) (λ_ _ _=>dV) (λ_ ih a b k=>match a with
 | .none=>(match b with | .none=>k Sk | _=>dV)
 | .bool x=>(match b with | .bool y=>k (@Ti (λ_=>Sm) (ee y) y x) | _=>dV)
 | .int x=>(match b with | .int y=>k (jf x y) | _=>dV)
 | .str x=>(match b with | .str y=>k (CV x.cps.toList y.cps.toList) | _=>dV)
 | .list x=>(match b with | .list y=>xW ih x y k | _=>dV)
 | .tuple x=>(match b with | .tuple y=>xW ih x y k | _=>dV)
 | .dict _=>dV) n
def Ed (st:St)(a b:V)(k:Sm->Sm):Sm:=fe st 5 a λx=>fe st 5 b λy=>I9 7 x y k
def iZq (l:Sj V)(k:Sj Int->Sm):Sm:=d7 aG l k
def iN (i:Int)(l:Sj Int):Sm:=@S5 Int (λ_=>Sm) dV (λj _ ih=>aD (jf i j) Sk ih) l
def bh (st:St)(n:Nat)(k:Sj V->Sm):Sm:=st.get n λo=>pE o k
def Nu (st:St)(n:Nat)(k:Sj V->Sm):Sm:=st.get n λo=>gQ o k
def aY (st:St)(it:It)(stop:Sm)(k:dy->It->Sm):Sm:=@It.rec (λ_=>Sm)
 (λn i=>bh st n λl=>getL l i (λv=>k (.v v) (.seq n (TA i))) stop)
 (λl=>@S5 V (λ_=>Sm) stop (λv r _=>k (.v v) (.tup r)) l)
 (λl=>@S5 Nat (λ_=>Sm) stop (λc r _=>k (.v (.str [c])) (.str r)) l)
 (λc len s=>@Tf (λ_=>Sm) stop (λm _=>k (.v (.int c)) (.rng (gA c s) m s)) len)
 (λj n i=>bh st n λl=>getL l i (λv=>k (.pair (.int j) v) (.enS (gA j 1) n (TA i))) stop)
 (λj l=>@S5 Nat (λ_=>Sm) stop (λc r _=>k (.pair (.int j) (.str [c])) (.enT (gA j 1) r)) l) it
def dM (fs:Sj (Nat×V))(x:Nat)(k:V->Sm):Sm:=@S5 (Nat×V) (λ_=>Sm) dV (λp _ ih=>aD (SN p.1 x) (k p.2) ih) fs
def dz (fs:Sj (Nat×V))(x:Nat)(v:V):Sj (Nat×V):=@S5 (Nat×V) (λ_=>Sj (Nat×V)) [(x,v)] (λp r ih=>@Ti (λ_=>Sj (Nat×V)) (p::ih) ((x,v)::r) (SN p.1 x)) fs
def getAttr (v:V)(x:Nat)(st:St)(k:KV):Sm:=bB v λn=>st.get n λo=>pi o λ_ fs _=>dM fs x λv=>k v st
def setAttr (v:V)(x:Nat)(u:V)(st:St)(k:St->Sm):Sm:=bB v λn=>st.get n λo=>pi o λ_ fs p=>aD (SZ (aK fs) 100) (st.set n (p (dz fs x u)) k) dV
abbrev OP:=V->V->St->KV->Sm
def aQ:OP:=λa b st k=>cr a dV (λ_=>dV)
 (λx=>aG b λy=>k (.int (gA x y)) st)
 (λx=>dB b λy=>aD (aB (Zz (aK x) (aK y))) (k (.str (bp x y)) st) dV)
 (λx=>bB b λy=>bh st x λl=>bh st y λq=>aD (aB (Zz (aK l) (aK q))) (st.push (.list (bp l q)) λn st=>k (.ref n) st) dV)
 (λ_=>dV)
def cf:OP:=λa b st k=>aG a λx=>aG b λy=>k (.int (iG x y)) st
def bJ:OP:=λa b st k=>cr a dV (λ_=>dV)
 (λx=>aG b λy=>aD (small x) (aD (small y) (k (.int (GP x y)) st) dV) dV)
 (λx=>aG b λy=>aD (small y) (aD (aB (XI (aK x) (cT y))) (k (.str (cw x (cT y))) st) dV) dV)
 (λx=>aG b λy=>bh st x λl=>aD (small y) (aD (aB (XI (aK l) (cT y))) (st.push (.list (cw l (cT y))) λn st=>k (.ref n) st) dV) dV)
 (λ_=>dV)
def Cm:OP:=λa b st k=>aG a λx=>aG b λy=>aD (small x) (aD (qv 1 y) (aD (qv y 1000000) (k (.int (Jb x y)) st) dV) dV) dV
def ef:OP:=λa b st k=>aG a λx=>aG b λy=>aD (small y) (aD (jf y 0) dV (k (.int (Af x y)) st)) dV
def ED:OP:=λa b st k=>aG a λx=>aG b λy=>aD (jf x 10) (aD (jf y 6) (k (.int 1000000) st) dV) dV
abbrev CP:=V->V->St->(Sm->Sm)->Sm
def ix:CP:=λa b st k=>cr a dV (λ_=>dV)
 (λx=>aG b λy=>k (jf x y)) (λx=>dB b λy=>k (CV x y)) (λx=>bB b λy=>Ed st (.ref x) (.ref y) k) (λx=>m0 b λy=>Ed st (.tup x) (.tup y) k)
def kL:CP:=λa b st k=>ix a b st λc=>k (ee c)
def JD:CP:=λa b _ k=>aG a λx=>aG b λy=>k (AK x y)
def Oq:CP:=λa b _ k=>aG a λx=>aG b λy=>k (qv x y)
def C9:CP:=λa b _ k=>aG a λx=>aG b λy=>k (AK y x)
def uG:CP:=λa b _ k=>aG a λx=>aG b λy=>k (qv y x)
def rH:CP:=λa b _ k=>cr b (cr a (k Sk) (λ_=>dV) (λ_=>k dV) (λ_=>dV) (λ_=>k dV) (λ_=>k dV)) (λ_=>dV) (λ_=>dV) (λ_=>dV) (λ_=>dV) (λ_=>dV)
def ql (v:V)(k:Sm->Sm):Sm:=cr v dV k (λ_=>dV) (λ_=>dV) (λ_=>dV) (λ_=>dV)
def HQ:CP:=λa b _ k=>ql a λx=>ql b λy=>k (@Ti (λ_=>Sm) y (ee y) x)
def Ot:CP:=λa b st k=>aG a λx=>bB b λn=>bh st n λl=>iZq l λxs=>k (iN x xs)
def iO (l:Sj α):Sm:=@S5 α (λ_=>Sm) dV (λ_ _ _=>Sk) l
def iZ (v:V)(st:St)(k:Sm->Sm):Sm:=cr v (k dV) k (λi=>k (ee (jf i 0))) (λs=>aD (aB (aK s)) (k (iO s)) dV) (λn=>bh st n λl=>aD (aB (aK l)) (k (iO l)) dV) (λ_=>dV)
def uR (a b:Int):Int:=@Ti (λ_=>Int) a b (AK a b)
def rm (l:Sj Int):Int->Int:=@S5 Int (λ_=>Int->Int) (λm=>m) (λj _ ih m=>ih (uR m j)) l
def zv (l:Sj Int):Int->Int:=@S5 Int (λ_=>Int->Int) (λa=>a) (λj _ ih a=>ih (gA a j)) l
def yR (a b:Int×Int):Sm:=aD (AK a.1 b.1) Sk (aD (jf a.1 b.1) (AK a.2 b.2) dV)
def yx (l:Sj (V×Int×Int)):(V×Int×Int)->V:=@S5 (V×Int×Int) (λ_=>(V×Int×Int)->V) (λm=>m.1) (λj _ ih m=>@Ti (λ_=>V) (ih m) (ih j) (yR j.2 m.2)) l
def lJ (v:V)(k:V×Int×Int->Sm):Sm:=m0 v λl=>Fk l λa b=>aG a λa=>aG b λb=>k (v,a,b)
def dC (v:V)(k:Sj Nat->Sm):Sm:=m0 v λl=>Fk l λa b=>dB a λa=>dB b λb=>k (bp a b)
def bQ (sep:Sj Nat)(l:Sj (Sj Nat)):Sj Nat:=@S5 (Sj Nat) (λ_=>Sj Nat) [] (λa r ih=>@S5 (Sj Nat) (λ_=>Sj Nat) a (λ_ _ _=>bp a (bp sep ih)) r) l
def jG (l:Sj (Sj Nat)):Sj Nat:=@S5 (Sj Nat) (λ_=>Sj Nat) [] (λa _ ih=>bp a ih) l
def bP (c:Nat)(l:Sj Nat):Sj (Sj Nat):=@S5 Nat (λ_=>Sj (Sj Nat)) [[]]
 (λx _ ih=>@Ti (λ_=>Sj (Sj Nat)) (@S5 (Sj Nat) (λ_=>Sj (Sj Nat)) [[x]] (λw ws _=>(x::w)::ws) ih) ([]::ih) (SN x c)) l
def fS (c:Nat):Sm:=aD (SN c 32) Sk (aD (SZ 9 c) (aD (SZ c 13) Sk (aD (SZ 28 c) (SZ c 31) dV)) dV)
def AT (x:Sj Nat×Int)(l:Sj (Sj Nat×Int)):Sj (Sj Nat×Int):=@S5 (Sj Nat×Int) (λ_=>Sj (Sj Nat×Int)) [x]
 (λy r ih=>@Ti (λ_=>Sj (Sj Nat×Int)) (y::ih) (x::y::r) (Gh x.1 y.1)) l
def dG (l:Sj (Sj Nat×Int)):Sj (Sj Nat×Int)->Sj (Sj Nat×Int):=@S5 (Sj Nat×Int) (λ_=>Sj (Sj Nat×Int)->Sj (Sj Nat×Int)) (λacc=>acc) (λx _ ih acc=>ih (AT x acc)) l
def w1 (n:Nat):SV Int->Sj Int->(Sj Int->Sm)->Sm:=@Tf (λ_=>SV Int->Sj Int->(Sj Int->Sm)->Sm) (λ_ _ k=>k [])
 (λm ih last l k=>@S5 Int (λ_=>Sm) (k []) (λi r _=>aD (jf i 127) (k []) (aD (jf i 0) (cU last λl=>k (cw [l] (TA m))) (ih (Si i) r λq=>k (i::q)))) l) n
def gr (l:Sj (Sj Nat)):Int->Int:=@S5 (Sj Nat) (λ_=>Int->Int) (λa=>a) (λx _ ih a=>ih (gA a (TG (aK x)))) l
def rO (i:Int)(l:Sj Int):Nat:=@S5 Int (λ_=>Nat) 0 (λj _ ih=>@Ti (λ_=>Nat) (TA ih) 0 (jf i j)) l
def wY (l:Sj α)(hi:V)(k:Sj α->Sm):Sm:=cr hi (k l) (λ_=>dV) (λj=>k (fg l (eW j (aK l)))) (λ_=>dV) (λ_=>dV) (λ_=>dV)
def cut (l:Sj α)(lo hi:V)(k:Sj α->Sm):Sm:=cr lo (wY l hi k) (λ_=>dV) (λi=>wY l hi λq=>k (mw q (eW i (aK l)))) (λ_=>dV) (λ_=>dV) (λ_=>dV)
abbrev zS (fm:Fm)(i:Nat)(st:St)(k:Nat->SV V->Sm):Sm:=getL fm.cel i (λn=>st.get n λo=>eo o λw=>k n w) dV
abbrev fO (c:Sm)(i:Nat)(fm:Fm)(st:St)(k:V->Sm):Sm:=@Ti (λ_=>Sm) (getL fm.loc i (λo=>cU o k) dV) (zS fm i st λ_ w=>cU w k) c
abbrev fQ (c:Sm)(i:Nat)(fm:Fm)(v:V)(st:St)(k:Fm->St->Sm):Sm:=@Ti (λ_=>Sm)
 (nF fm.loc i (Si v) λl=>k ⟨l,fm.cel⟩ st) (zS fm i st λn _=>st.set n (.cell (Si v)) λst=>k fm st) c
abbrev bX (j:Nat):St->(Sj Nat->St->Sm)->Sm:=@Tf (λ_=>St->(Sj Nat->St->Sm)->Sm) (λst k=>k [] st) (λ_ ih st k=>st.push (.cell none) λn st=>ih st λq s=>k (n::q) s) j
noncomputable abbrev cp (j:Nat):Sj (SV V):=@Tf (λ_=>Sj (SV V)) [] (λ_ ih=>none::ih) j
abbrev xD (cel:Sj Nat)(l:Sj Nat)(k:Sj Nat->Sm):Sm:=d7 (λi k=>getL cel i k dV) l k
def fi (v:V)(st:St)(k:Nat->Nat->Nat->Sj (Nat×V)->Sj V->Sm):Sm:=bB v λn=>st.get n λo=>rE o λc d fs l=>k n c d fs l
def fk:FN:=λvs st k=>nv vs λa=>fi a st λ_ _ _ fs l=>d7 dC l λxs=>dM fs 11 λv=>aG v λi=>aD (qv 0 i) (aD (small (gr xs i)) (k (.int (gr xs i)) st) dV) dV
def or:FN:=λvs st k=>nv vs λa=>fi a st λ_ _ _ _ l=>aD (aB (aK l)) (d7 dC l λxs=>aD (aB (aK (jG xs))) (k (.str (jG xs)) st) dV) dV
noncomputable abbrev av:CA:=λ_ st k=>k [] st
noncomputable abbrev ae (e:CE)(as:CA):CA:=λfm st k=>e fm st λv st=>as fm st λvs st=>k (v::vs) st
abbrev aa (c:Sm)(i:Nat):CE:=λfm st k=>fO c i fm st λv=>k v st
noncomputable abbrev ao (v:V):CE:=λ_ st k=>k v st
noncomputable abbrev aA (op:OP)(a b:CE):CE:=λfm st k=>a fm st λx st=>b fm st λy st=>op x y st k
abbrev qg (a:CE):CE:=λfm st k=>a fm st λx st=>aG x λi=>k (.int (Z9 i)) st
noncomputable abbrev qV (op:CP)(a b:CE):CE:=λfm st k=>a fm st λx st=>b fm st λy st=>op x y st λc=>k (.bool c) st
abbrev u4 (c:CT)(a b:CE):CE:=λfm st k=>c fm st λx st=>aD x (a fm st k) (b fm st k)
noncomputable abbrev cN (as:CA):CE:=λfm st k=>as fm st λvs st=>k (.tup vs) st
abbrev d0 (as:CA):CE:=λfm st k=>as fm st λvs st=>st.push (.list vs) λn st=>k (.ref n) st
def Hh (l:Sj α)(i:Int)(k:α->Sm):Sm:=@UY (λ_=>Sm) (λj=>getL l j k dV) (λj=>aD (SZ (aK l) j) dV (getL l (aaU (aK l) (TA j)) k dV)) i
def cZ (a i:V)(st:St)(k:KV):Sm:=aG i λj=>aD (small j) (cr a dV (λ_=>dV) (λ_=>dV) (λs=>Hh s j λc=>k (.str [c]) st) (λn=>Nu st n λl=>Hh l j λv=>k v st) (λl=>Hh l j λv=>k v st)) dV
abbrev dw (a i:CE):CE:=λfm st k=>a fm st λx st=>i fm st λy st=>cZ x y st k
def uN (a lo hi:V)(st:St)(k:KV):Sm:=cr a dV (λ_=>dV) (λ_=>dV) (λs=>aD (aB (aK s)) (cut s lo hi λx=>k (.str x) st) dV)
 (λn=>st.get n λo=>gQ o λl=>aD (aB (aK l)) (cut l lo hi λx=>st.push (.list x) λm st=>k (.ref m) st) dV) (λ_=>dV)
abbrev uS (a lo hi:CE):CE:=λfm st k=>a fm st λx st=>lo fm st λy st=>hi fm st λz st=>uN x y z st k
abbrev Eb (a:CE):CE:=λfm st k=>a fm st λx st=>dB x λs=>aD (aB (aK s)) (k (.str (kW s dV)) st) dV
abbrev bv (a:CE)(x:Nat):CE:=λfm st k=>a fm st λv st=>getAttr v x st k
noncomputable abbrev fc (f:FN)(as:CA):CE:=λfm st k=>as fm st λvs st=>f vs st k
abbrev bz (c:Nat)(f:FN)(a:CE)(as:CA):CE:=λfm st k=>a fm st λx st=>bB x λn=>st.get n λo=>pi o λd _ _=>aD (SN d c) (as fm st λvs st=>f (x::vs) st k) dV
abbrev BX (e:CE):CA:=λfm st k=>e fm st λx st=>m0 x λl=>aD (aB (aK l)) (k l st) dV
def fP (c:Nat)(d:Nat):O:=@Ti (λ_=>O) (.inst c d []) (.lsub c d [] []) (SN c 2)
abbrev iD (c:Nat)(f:FN)(as:CA):CE:=λfm st k=>as fm st λvs st=>st.push .hid λd st=>st.push (fP c d) λn st=>f (.ref n::vs) st λv st=>rH v .none st λb=>aD b (k (.ref n) st) dV
def dU:FN:=λvs st k=>nv vs λv=>cr v dV (λ_=>dV) (λ_=>dV) (λs=>aD (aB (aK s)) (k (.int (TG (aK s))) st) dV)
 (λn=>st.get n λo=>@O.rec (λ_=>Sm) (λl=>aD (aB (aK l)) (k (.int (TG (aK l))) st) dV) (λ_=>dV) (λ_ _ _=>dV) (λ_ _ _ _=>fk vs st k) dV o) (λl=>aD (aB (aK l)) (k (.int (TG (aK l))) st) dV)
def uI:FN:=λvs st k=>or vs st k
def jD:FN:=λvs st k=>Fk vs λa b=>aG a λa=>aG b λb=>k (.int (uR a b)) st
def HH:FN:=λvs st k=>nv vs λv=>bB v λn=>bh st n λl=>iZq l λq=>dc q λa m=>k (.int (rm m a)) st
def BH:FN:=λvs st k=>nv vs λv=>bB v λn=>bh st n λl=>d7 lJ l λq=>dc q λa m=>k (yx m a) st
def BT:FN:=λvs st k=>nv vs λv=>bB v λn=>bh st n λl=>iZq l λq=>k (.int (zv q 0)) st
def Eo:FN:=λvs st k=>nv vs λv=>aG v λi=>aD (qv 97 i) (aD (qv i 122) (k (.str [cT i]) st) dV) dV
def EH:FN:=λvs st k=>nv vs λv=>bB v λn=>bh st n λl=>aD (aB (aK l)) (k (.tup l) st) dV
noncomputable abbrev gB (b:FN)(as:CA):CE:=λfm st k=>as fm st λvs st=>b vs st k
abbrev yr:=V->Sj V->St->KV->Sm
def oW:yr:=λa vs st k=>dB a λs=>nv vs λv=>bB v λn=>bh st n λl=>d7 dB l λxs=>aD (aB (aK s)) (aD (aB (aK (bQ s xs))) (k (.str (bQ s xs)) st) dV) dV
def uM:yr:=λa vs st k=>dB a λs=>nv vs λv=>dB v λc=>nv c λc=>aD (aB (aK s)) (st.push (.list (fE .str (bP c s))) λn st=>k (.ref n) st) dV
def lU:yr:=λa vs st k=>dB a λs=>fX vs (aD (gv (λc=>SZ c 127) s) (k (.bool (aD (iO s) (gv fS s) dV)) st) dV)
def km:yr:=λa vs st k=>bB a λn=>nv vs λv=>st.get n λo=>@O.rec (λ_=>Sm) (λl=>aD (aB (aK l)) (st.set n (.list (bp l [v])) λst=>k .none st) dV) (λ_=>dV) (λ_ _ _=>dV)
 (λc d fs l=>aD (aB (aK l)) (st.set n (.lsub c d fs (bp l [v])) λst=>k .none st) dV) dV o
def vG:yr:=λa vs st k=>bB a λn=>nv vs λv=>aG v λi=>bh st n λl=>iZq l λxs=>aD (aB (aK l)) (aD (iN i xs) (k (.int (TG (rO i xs))) st) dV) dV
abbrev F4:CE:=λfm st k=>fO dV 0 fm st λv=>fi v st λn c d fs l=>fX l (st.set n (.lsub c d fs []) λst=>k .none st)
abbrev Ff:CE:=λfm st k=>fO dV 0 fm st λv=>fi v st λn c d fs l=>dc l λx r=>aD (aB (aK l)) (st.set n (.lsub c d fs (oz l)) λst=>k (nQ r x) st) dV
abbrev FW:CE:=λfm st k=>fO dV 0 fm st λv=>fi v st λ_ _ _ _ l=>aD (aB (aK l)) (k (.int (TG (aK l))) st) dV
abbrev E0:CE:=λfm st k=>fO dV 0 fm st λv=>fk [v] st k
abbrev CL:CE:=λfm st k=>fO dV 0 fm st λv=>or [v] st k
abbrev rB (m:yr)(a:CE)(as:CA):CE:=λfm st k=>a fm st λx st=>dB x λ_=>as fm st λvs st=>m x vs st k
abbrev mZ (m:yr)(a:CE)(as:CA):CE:=λfm st k=>a fm st λx st=>bB x λn=>st.get n λo=>gQ o λ_=>as fm st λvs st=>m x vs st k
def eM (v:V)(st:St)(k:Sm->St->Sm):Sm:=cr v (k dV st) (λb=>k b st) (λi=>k (ee (jf i 0)) st) (λs=>aD (aB (aK s)) (k (iO s) st) dV)
 (λn=>st.get n λo=>@O.rec (λ_=>Sm) (λl=>aD (aB (aK l)) (k (iO l) st) dV) (λ_=>dV) (λ_ _ _=>dV) (λ_ _ _ _=>fk [v] st λv st=>aG v λi=>k (ee (jf i 0)) st) dV o) (λ_=>dV)
abbrev tE (a:CE):CT:=λfm st k=>a fm st λv st=>eM v st k
noncomputable abbrev bR (op:CP)(a b:CE):CT:=λfm st k=>a fm st λx st=>b fm st λy st=>op x y st λc=>k c st
abbrev LU (a:CT):CT:=λfm st k=>a fm st λb st=>k (ee b) st
abbrev pH (a b:CT):CT:=λfm st k=>a fm st λx st=>aD x (b fm st k) (k dV st)
abbrev Rl (a b:CT):CT:=λfm st k=>a fm st λx st=>aD x (k Sk st) (b fm st k)
abbrev Hr (a:CE):CE:=λfm st k=>a fm st λv st=>eM v st λb st=>k (.bool (ee b)) st
abbrev Hb (a b:CE):CE:=λfm st k=>a fm st λv st=>iZ v st λx=>aD x (b fm st k) (k v st)
abbrev P8 (a b:CE):CE:=λfm st k=>a fm st λv st=>iZ v st λx=>aD x (k v st) (b fm st k)
abbrev ay (c:Sm)(i:Nat):CG:=λfm v st k=>fQ c i fm v st k
abbrev eQ (a:CE)(x:Nat):CG:=λfm v st k=>a fm st λo st=>setAttr o x v st λst=>k fm st
def ng (x y v:V)(st:St)(k:St->Sm):Sm:=bB x λn=>aG y λj=>aD (small j) (bh st n λl=>idx j (aK l) λj=>nF l j v λl=>st.set n (.list l) k) dV
abbrev zf (a i:CE):CG:=λfm v st k=>a fm st λx st=>i fm st λy st=>ng x y v st λst=>k fm st
abbrev Ei (a lo:CE):CG:=λfm v st k=>a fm st λx st=>lo fm st λy st=>fi x st λn c d fs l=>bB v λm=>bh st m λq=>aD (aB (aK l)) (aD (aB (aK q))
 (cr y (st.set n (.lsub c d fs q) λst=>k fm st) (λ_=>dV) (λi=>st.set n (.lsub c d fs (bp (fg l (eW i (aK l))) q)) λst=>k fm st) (λ_=>dV) (λ_=>dV) (λ_=>dV)) dV) dV
abbrev xL:=Fm->Sj V->St->(Fm->St->Sm)->Sm
abbrev eS:xL:=λfm l st k=>fX l (k fm st)
abbrev bg (t:CG)(ts:xL):xL:=λfm l st k=>dc l λv q=>t fm v st λfm st=>ts fm q st k
abbrev fM (m:Nat)(ts:xL):CG:=λfm v st k=>cr v dV (λ_=>dV) (λ_=>dV) (λ_=>dV) (λn=>bh st n λl=>aD (SN (aK l) m) (ts fm l st k) dV) (λl=>aD (SN (aK l) m) (ts fm l st k) dV)
noncomputable abbrev rV (t u:CG):CG:=λfm v st k=>t fm v st λfm st=>u fm v st k
abbrev eN:=Fm->dy->St->(Fm->St->Sm)->Sm
abbrev em (t:CG):eN:=λfm i st k=>@dy.rec (λ_=>Sm) (λa=>t fm a st k) (λ_ _=>dV) i
abbrev yW (t1 t2:CG):eN:=λfm i st k=>@dy.rec (λ_=>Sm) (λ_=>dV) (λa b=>t1 fm a st λfm st=>t2 fm b st k) i
def eC (a b s:Int)(st:St)(k:It->St->Sm):Sm:=aD (small a) (aD (small b) (aD (jf s 1)
 (aD (aB (cT (iG b a))) (k (.rng a (cT (iG b a)) s) st) dV)
 (aD (jf s (-1)) (aD (aB (cT (iG a b))) (k (.rng a (cT (iG a b)) s) st) dV) dV)) dV) dV
abbrev qR (b:CE):CI:=λfm st k=>b fm st λy st=>aG y λy=>eC 0 y 1 st k
abbrev dH (a b:CE):CI:=λfm st k=>a fm st λx st=>b fm st λy st=>aG x λx=>aG y λy=>eC x y 1 st k
abbrev BU (a b c:CE):CI:=λfm st k=>a fm st λx st=>b fm st λy st=>c fm st λz st=>aG x λx=>aG y λy=>aG z λz=>eC x y z st k
def fT (s:Sj Nat):Sm:=gv (λc=>SZ c 127) s
abbrev lE (a:CE):CI:=λfm st k=>a fm st λx st=>cr x dV (λ_=>dV) (λ_=>dV) (λs=>aD (fT s) (k (.enT 0 s) st) dV) (λn=>bh st n λ_=>k (.enS 0 n 0) st) (λ_=>dV)
abbrev iE (a:CE):CI:=λfm st k=>a fm st λx st=>cr x dV (λ_=>dV) (λ_=>dV) (λs=>aD (fT s) (k (.str s) st) dV) (λn=>bh st n λ_=>k (.seq n 0) st) (λl=>k (.tup l) st)
noncomputable abbrev aH:CS:=λfm st k=>k .nxt fm st
abbrev aq (a b:CS):CS:=λfm st k=>a fm st λf fm st=>@Fl.rec (λ_=>Sm) (b fm st k) (k .brk fm st) (k .cnt fm st) (λv=>k (.ret v) fm st) f
noncomputable abbrev aV (e:CE)(t:CG):CS:=λfm st k=>e fm st λv st=>t fm v st λfm st=>k .nxt fm st
noncomputable abbrev zq (as:CA)(ts:xL):CS:=λfm st k=>as fm st λvs st=>ts fm vs st λfm st=>k .nxt fm st
def zT:OP:=λa b st k=>aG a λx=>aG b λy=>k (.int (gA x y)) st
abbrev u5 (c:Sm)(i:Nat)(op:OP)(e:CE):CS:=λfm st k=>fO c i fm st λv=>e fm st λx st=>op v x st λy st=>fQ c i fm y st λfm st=>k .nxt fm st
abbrev jh (a i:CE)(e:CE):CS:=λfm st k=>a fm st λx st=>i fm st λj st=>cZ x j st λo st=>e fm st λy st=>aG o λo=>aG y λy=>ng x j (.int (gA o y)) st λst=>k .nxt fm st
abbrev hW (c:CT)(a b:CS):CS:=λfm st k=>c fm st λx st=>aD x (a fm st k) (b fm st k)
noncomputable abbrev dq (e:CE):CS:=λfm st k=>e fm st λv st=>k (.ret v) fm st
noncomputable abbrev Gm:CS:=λfm st k=>k (.ret .none) fm st
abbrev dI (e:CE):CS:=λfm st k=>e fm st λv st=>cr v (k .nxt fm st) (λ_=>dV) (λ_=>dV) (λ_=>dV) (λ_=>dV) (λ_=>dV)
noncomputable abbrev u9:CS:=λfm st k=>k .brk fm st
noncomputable abbrev Mz:CS:=λfm st k=>k .cnt fm st
def kT (c:CT)(a b:CS)(n:Nat):CS:=@Tf (λ_=>CS) (λ_ _ _=>dV)
 (λ_ ih fm st k=>c fm st λx st=>aD x (a fm st λf fm st=>@Fl.rec (λ_=>Sm) (ih fm st k) (k .nxt fm st) (ih fm st k) (λv=>k (.ret v) fm st) f) (b fm st k)) n
abbrev AC (c:CT)(a b:CS):CS:=kT c a b 200
abbrev CF:=Fm->It->St->(Fl->Fm->St->Sm)->Sm
def dP (t:eN)(a b:CS)(n:Nat):CF:=@Tf (λ_=>CF) (λ_ _ _ _=>dV)
 (λ_ ih fm it st k=>aY st it (b fm st k) λy it=>t fm y st λfm st=>a fm st λf fm st=>@Fl.rec (λ_=>Sm) (ih fm it st k) (k .nxt fm st) (ih fm it st k) (λv=>k (.ret v) fm st) f) n
abbrev iT (t:eN)(i:CI)(a b:CS):CS:=λfm st k=>i fm st λit st=>dP t a b 200 fm it st k
abbrev CC:=Fm->It->St->(Sj V->Fm->St->Sm)->Sm
def bw (t:eN)(c:CT)(body:CB)(n:Nat):CC:=@Tf (λ_=>CC) (λ_ _ _ _=>dV)
 (λ_ ih fm it st k=>aY st it (k [] fm st) λy it=>t fm y st λfm st=>c fm st λx st=>aD x (body fm st λvs fm st=>ih fm it st λus fm st=>k (bp vs us) fm st) (ih fm it st k)) n
noncomputable abbrev gt (e:CE):CB:=λfm st k=>e fm st λv st=>k [v] fm st
abbrev I6 (i:CI)(t:eN)(c:CT)(body:CB):CB:=λfm st k=>i fm st λit st=>bw t c body 200 fm it st k
noncomputable abbrev cA:CT:=λ_ st k=>k Sk st
abbrev cF (i:CI)(nl own:Nat)(fr:Sj Nat)(t:eN)(c:CT)(body:CB):CE:=λfm st k=>
 xD fm.cel fr λq=>i fm st λit st=>bX own st λo st=>bw t c body 200 ⟨cp nl,bp o q⟩ it st λvs _ st=>aD (aB (aK vs)) (st.push (.list vs) λn st=>k (.ref n) st) dV
abbrev qm (n g:CE):CE:=λfm st k=>n fm st λx st=>aG x λx=>aD (aB (cT x)) (aD (small x) (g fm st λy st=>bB y λm=>bh st m λl=>iZq l λxs=>w1 (cT x) none xs λys=>st.push (.list (fE .int ys)) λn st=>k (.ref n) st) dV) dV
def iI (l:Sj (Sj Nat×Int)):Sm:=@S5 (Sj Nat×Int) (λ_=>Sm) Sk (λx r ih=>@S5 (Sj Nat×Int) (λ_=>Sm) Sk (λy _ _=>aD (Gh x.1 y.1) ih dV) r) l
abbrev bindL (ps:Sj (Sm×Nat)):Sj V->Fm->St->(Fm->St->Sm)->Sm:=@S5 (Sm×Nat) (λ_=>Sj V->Fm->St->(Fm->St->Sm)->Sm) (λvs fm st k=>fX vs (k fm st))
 (λp _ ih vs fm st k=>dc vs λv vs=>fQ p.1 p.2 fm v st λfm st=>ih vs fm st k) ps
abbrev bk (ps:Sj (Sm×Nat))(nl nc:Nat)(body:CS):FN:=λvs st k=>aD (SN (aK vs) (aK ps))
 (bX nc st λo st=>bindL ps vs ⟨cp nl,o⟩ st λfm st=>body fm st λf _ st=>@Fl.rec (λ_=>Sm) (k .none st) dV dV (λv=>k v st) f) dV
abbrev tD (f:FN):FN:=λvs st k=>nv vs λa=>f [a,.none] st k
end
theorem ff {P:Prop}(h:dV=Sk):P:=UA h
theorem dF {b t e:Sm}(h:aD b t e=Sk):(b=Sk/\t=Sk)\/(b=dV/\e=Sk):=by
 cases b
 ·exact .inr ⟨rfl,h⟩
 ·exact .inl ⟨rfl,h⟩
theorem eH {b t:Sm}(h:aD b t dV=Sk):b=Sk/\t=Sk:=by
 cases b
 ·cases h
 ·exact⟨rfl,h⟩
theorem w6 {b e:Sm}(h:aD b dV e=Sk):b=dV/\e=Sk:=by
 cases b
 ·exact⟨rfl,h⟩
 ·cases h
theorem fJ (b:Sm):ee b=!b:=by induction b <;> rfl
theorem ir {k:Int->Sm}(h:aG v k=Sk):∃i,v=.int i/\k i=Sk:=by
 cases v <;> first | exact⟨_,rfl,h⟩ | cases h
theorem pB {k:Sj Nat->Sm}(h:dB v k=Sk):∃i,v=.str i/\k i=Sk:=by
 cases v <;> first | exact⟨_,rfl,h⟩ | cases h
theorem jF {k:Nat->Sm}(h:bB v k=Sk):∃i,v=.ref i/\k i=Sk:=by
 cases v <;> first | exact⟨_,rfl,h⟩ | cases h
theorem lm {k:Sj V->Sm}(h:m0 v k=Sk):∃i,v=.tup i/\k i=Sk:=by
 cases v <;> first | exact⟨_,rfl,h⟩ | cases h
theorem Bv {k:Sm->Sm}(h:ql v k=Sk):∃i,v=.bool i/\k i=Sk:=by
 cases v <;> first | exact⟨_,rfl,h⟩ | cases h
theorem xw {o:SV α}{k:α->Sm}(h:cU o k=Sk):∃i,o=Si i/\k i=Sk:=by
 cases o
 ·cases h
 ·exact⟨_,rfl,h⟩
theorem Aw {k:Sj V->Sm}(h:pE o k=Sk):∃i,o=.list i/\k i=Sk:=by
 induction o <;> first | exact⟨_,rfl,h⟩ | cases h
theorem CK {k:SV V->Sm}(h:eo o k=Sk):∃i,o=.cell i/\k i=Sk:=by
 induction o <;> first | exact⟨_,rfl,h⟩ | cases h
theorem wa {k:Nat->Nat->Sj (Nat×V)->Sj V->Sm}(h:rE o k=Sk):∃c d f l,o=.lsub c d f l/\k c d f l=Sk:=by
 induction o <;> first | exact⟨_,_,_,_,rfl,h⟩ | cases h
theorem kZ {k:Sj V->Sm}(h:gQ o k=Sk):(∃l,o=.list l/\k l=Sk)\/∃c d f l,o=.lsub c d f l/\k l=Sk:=by
 induction o <;> first | exact .inl ⟨_,rfl,h⟩ | exact .inr ⟨_,_,_,_,rfl,h⟩ | cases h
theorem qD {k:Nat->Sj (Nat×V)->(Sj (Nat×V)->O)->Sm}(h:pi o k=Sk) :
  (∃c d f,o=.inst c d f/\k c f (O.inst c d)=Sk)\/∃c d f l,o=.lsub c d f l/\k c f (λf=>O.lsub c d f l)=Sk:=by
 induction o <;> first | exact .inl ⟨_,_,_,rfl,h⟩ | exact .inr ⟨_,_,_,_,rfl,h⟩ | cases h
section
variable {α β:Type}
theorem Ah {l:Sj α}{k:Sm}(h:fX l k=Sk):l=[]/\k=Sk:=by
 cases l
 ·exact⟨rfl,h⟩
 ·cases h
theorem wx {l:Sj α}{k:α->Sj α->Sm}(h:dc l k=Sk):∃a r,l=a::r/\k a r=Sk:=by
 cases l
 ·cases h
 ·exact⟨_,_,rfl,h⟩
theorem sT {l:Sj α}{k:α->Sm}(h:nv l k=Sk):∃a,l=[a]/\k a=Sk:=by
 refine fB (wx h) λa r e82 h=>?_;subst e82
 refine dE (Ah h) λe80 h=>?_;subst e80
 exact⟨a,rfl,h⟩
theorem FU {l:Sj α}{k:α->α->Sm}(h:Fk l k=Sk):∃a b,l=[a,b]/\k a b=Sk:=by
 refine fB (wx h) λa r e82 h=>?_;subst e82
 refine aE (sT h) λb e81 h=>?_;subst e81
 exact⟨a,b,rfl,h⟩
theorem Cr {l:Sj α} {k:α->Sm}{z:Sm}(h:getL l i k z=Sk):(∃x,l[i]? = Si x/\k x=Sk)\/(l.length<=i/\z=Sk):=by
 induction l generalizing i with
 | nil=>exact .inr ⟨Th _,h⟩
 | cons x r ih=>
  induction i with
  | zero=>exact .inl ⟨x,rfl,h⟩
  | succ i=>
   rcases ih (i:=i) h with ⟨y,e,q⟩ | ⟨e,q⟩
   ·exact .inl ⟨y,by simpa using e,q⟩
   ·exact .inr ⟨TU e,q⟩
theorem vF {l:Sj α} {k:α->Sm}(h:getL l i k dV=Sk):∃x,l[i]? = Si x/\k x=Sk:=by
 rcases Cr h with q | ⟨_,q⟩
 ·exact q
 ·cases q
theorem Hl {l:Sj α} {v:α}{k:Sj α->Sm}(h:nF l i v k=Sk):i<l.length/\k (l.set i v)=Sk:=by
 induction l generalizing i k with
 | nil=>cases h
 | cons x r ih=>
  induction i with
  | zero=>exact⟨Nat.zero_lt_succ _,h⟩
  | succ i=>
   obtain⟨a,b⟩:=ih (i:=i) (k:=λq=>k (x::q)) h
   exact⟨Nat.succ_lt_succ a,b⟩
theorem aC (l:Sj α):aK l=l.length:=by
 induction l with
 | nil=>rfl
 | cons x r ih=>exact SU TA ih
theorem bf (l q:Sj α):bp l q=l++q:=by
 induction l with
 | nil=>rfl
 | cons x r ih=>exact SU (x::·) ih
theorem gq (l:Sj α)(n:Nat):fg l n=l.take n:=by
 induction l generalizing n with
 | nil=>induction n <;> rfl
 | cons x r ih=>
  induction n with
  | zero=>rfl
  | succ n=>exact SU (x::·) (ih n)
theorem sU (l:Sj α)(n:Nat):mw l n=l.drop n:=by
 induction l generalizing n with
 | nil=>induction n <;> rfl
 | cons x r ih=>
  induction n with
  | zero=>rfl
  | succ n=>exact ih n
theorem gC (l:Sj α)(n:Nat):cw l n=(Sv n l).flatten:=by
 induction n with
 | zero=>rfl
 | succ n ih=>
  show bp l (cw l n)=_
  rw[bf,ih,TN,TJ]
theorem eq (f:α->β)(l:Sj α):fE f l=l.map f:=by
 induction l with
 | nil=>rfl
 | cons x r ih=>exact SU (f x::·) ih
theorem po (f:α->Sm)(l:Sj α):gv f l=l.all f:=by
 induction l with
 | nil=>rfl
 | cons x r ih=>
  show aD (f x) (gv f r) dV=_
  rw[Sj.all_cons,ih]
  cases f x <;> rfl
theorem B3 (l:Sj α):oz l=l.dropLast:=by
 induction l with
 | nil=>rfl
 | cons x r ih=>
  induction r with
  | nil=>rfl
  | cons y q=>exact SU (x::·) ih
theorem A6 (l:Sj α)(x:α):nQ l x=(x::l).getLast (by grind):=by
 induction l generalizing x with
 | nil=>rfl
 | cons y r ih=>
  show nQ r y=_
  rw[ih];simp[Sj.getLast_cons]
end
theorem Ha {k:Sj Int->Sm}(h:iZq l k=Sk):∃q,l=q.map V.int/\k q=Sk:=by
 induction l generalizing k with
 | nil=>exact⟨[],rfl,h⟩
 | cons x r ih=>
  have h':aG x (λy=>iZq r λq=>k (y::q))=Sk:=h
  clear h
  refine aE (ir h') λi e1 h1=>?_
  refine aE (ih (k:=λq=>k (i::q)) h1) λq e2 h2=>?_
  exact⟨i::q,by rw[e1,e2];rfl,h2⟩
theorem sZ (h:i % 2=j % 2)(e:i / 2=j / 2):i=j:=(Nat.div_add_mod i 2).symm.trans ((congr (SU (λx y=>2*x+y) e) h).trans (Nat.div_add_mod j 2))
theorem BE (h:m % 2=0):(m+1) / 2=m / 2:=by lia
theorem y9 (h:¬m % 2=0):(m+1) / 2=m / 2+1:=by lia
theorem AJ (h:j % 2=0):j / 2<(m+1) / 2↔j<m:=by lia
theorem AR (h:¬j % 2=0):j / 2<m / 2↔j<m:=by lia
namespace T
noncomputable def look:T->Nat->SV O
 | .nil,_=>none
 | .node v _ _,0=>Si v
 | .node _ l r,j+1=>if j % 2=0 then l.look (j / 2) else r.look (j / 2)
theorem get_t {t:T} {k:O->Sm}(h:t.get i k=Sk):∃o,t.look i=Si o/\k o=Sk:=by
 induction t generalizing i with
 | nil=>cases h
 | node v l r ihl ihr=>
  cases i with
  | zero=>exact⟨v,rfl,h⟩
  | succ j=>
   have h':@Ti (λ_=>Sm) (r.get (j / 2) k) (l.get (j / 2) k) (SN (j % 2) 0)=Sk:=h
   by_cases q:j % 2=0
   ·rw[q] at h'
    obtain⟨o,a,b⟩:=ihl h'
    exact⟨o,by simp[look,q,a],b⟩
   ·have e:SN (j % 2) 0=dV:=by cases e:SN (j % 2) 0 with | false=>rfl | true=>exact Tc (SQ e) q
    rw[e] at h'
    obtain⟨o,a,b⟩:=ihr h'
    exact⟨o,by simp[look,q,a],b⟩
theorem beqF (q:¬j % 2=0):SN (j % 2) 0=dV:=by cases e:SN (j % 2) 0 with | false=>rfl | true=>exact Tc (SQ e) q
theorem look_l {v:O}{l l':T} (q:i % 2=0)(a:∀j,l'.look j=if j=i / 2 then Si o else l.look j)(j:Nat):(node v l' r).look j=if j=i+1 then Si o else (node v l r).look j:=by
 induction j using Nat.casesOn with
 | zero=>rfl
 | succ j=>
  show(if j % 2=0 then l'.look (j / 2) else r.look (j / 2))=if j+1=i+1 then Si o else if j % 2=0 then l.look (j / 2) else r.look (j / 2)
  by_cases p:j % 2=0
  ·rw[SX p,SX p,a]
   by_cases e:j=i
   ·subst e;rw[SX rfl,SX rfl]
   ·rw[SK λz=>e (sZ (p.trans q.symm) z),SK λz=>e (TA.inj z)]
  ·rw[SK p,SK p,SK λz=>p ((SU (· % 2) (TA.inj z:j=i)).trans q)]
theorem look_r {v:O}{l r':T} (q:¬i % 2=0)(a:∀j,r'.look j=if j=i / 2 then Si o else r.look j)(j:Nat):(node v l r').look j=if j=i+1 then Si o else (node v l r).look j:=by
 induction j using Nat.casesOn with
 | zero=>rfl
 | succ j=>
  show(if j % 2=0 then l.look (j / 2) else r'.look (j / 2))=if j+1=i+1 then Si o else if j % 2=0 then l.look (j / 2) else r.look (j / 2)
  by_cases p:j % 2=0
  ·rw[SX p,SX p,SK λz=>q ((SU (· % 2) (TA.inj z:j=i)).symm.trans p)]
  ·rw[SK p,SK p,a]
   by_cases e:j=i
   ·subst e;rw[SX rfl,SX rfl]
   ·rw[SK λz=>e (sZ ((ZI.mp p).trans (ZI.mp q).symm) z),SK λz=>e (TA.inj z)]
theorem look_0 {v:O}{l:T}(j:Nat):(node o l r).look j=if j=0 then Si o else (node v l r).look j:=by induction j <;> rfl
theorem look_n (j:Nat):(node o .nil .nil).look j=if j=0 then Si o else T.nil.look j:=by
 induction j with
 | zero=>rfl
 | succ j=>show(if j % 2=0 then (none:SV O) else none)=none;split <;> rfl
theorem isSome_node {v:O}{l:T}:((node v l r).look (i+1)).isSome=if i % 2=0 then (l.look (i / 2)).isSome else (r.look (i / 2)).isSome:=by
 show(if i % 2=0 then l.look (i / 2) else r.look (i / 2)).isSome=_
 split <;> rfl
theorem set_t {t:T} {k:T->Sm}(h:t.set i o k=Sk):∃t',(∀j,t'.look j=if j=i then Si o else t.look j)/\(t.look i).isSome=Sk/\k t'=Sk:=by
 induction t generalizing i k with
 | nil=>exact ff h
 | node v l r ihl ihr=>
  cases i with
  | zero=>exact⟨.node o l r,look_0,rfl,h⟩
  | succ i=>
   have h':@Ti (λ_=>Sm) (r.set (i / 2) o λr=>k (.node v l r)) (l.set (i / 2) o λl=>k (.node v l r)) (SN (i % 2) 0)=Sk:=h
   by_cases q:i % 2=0
   ·rw[q] at h'
    obtain⟨t',a,b,c⟩:=ihl h'
    exact⟨.node v t' r,look_l q a,by rw[isSome_node,SX q];exact b,c⟩
   ·rw[beqF q] at h'
    obtain⟨t',a,b,c⟩:=ihr h'
    exact⟨.node v l t',look_r q a,by rw[isSome_node,SK q];exact b,c⟩
theorem ins_t {t:T} {k:T->Sm}(h:t.ins i o k=Sk):∃t',(∀j,t'.look j=if j=i then Si o else t.look j)/\k t'=Sk:=by
 induction t generalizing i k with
 | nil=>
  induction i with
  | zero=>exact⟨.node o .nil .nil,look_n,h⟩
  | succ i=>exact ff h
 | node v l r ihl ihr=>
  induction i with
  | zero=>exact ff h
  | succ i=>
   have h':@Ti (λ_=>Sm) (r.ins (i / 2) o λr=>k (.node v l r)) (l.ins (i / 2) o λl=>k (.node v l r)) (SN (i % 2) 0)=Sk:=h
   by_cases q:i % 2=0
   ·rw[q] at h'
    refine aE (ihl h') λt' a c=>?_
    exact⟨.node v t' r,look_l q a,c⟩
   ·rw[beqF q] at h'
    refine aE (ihr h') λt' a c=>?_
    exact⟨.node v l t',look_r q a,c⟩
end T
namespace St
noncomputable def look (s:St)(i:Nat):SV O:=s.t.look i
theorem get_t {k:O->Sm}(h:s.get i k=Sk):∃o,s.look i=Si o/\k o=Sk:=T.get_t h
theorem set_t {k:St->Sm}(h:s.set i o k=Sk):∃s',s'.n=s.n/\(∀j,s'.look j=if j=i then Si o else s.look j)/\(4<=i/\(s.look i).isSome=Sk)/\k s'=Sk:=by
 obtain⟨h4,h⟩:=eH h
 obtain⟨t',a,b,c⟩:=T.set_t h
 exact⟨⟨s.n,t'⟩,rfl,a,⟨Sp h4,b⟩,c⟩
theorem push_t {k:Nat->St->Sm}(h:s.push o k=Sk):∃s',s'.n=s.n+1/\(∀j,s'.look j=if j=s.n then Si o else s.look j)/\k s.n s'=Sk:=by
 refine aE (T.ins_t h) λt' a b=>?_
 exact⟨⟨s.n+1,t'⟩,rfl,a,b⟩
end St
theorem dt (a b:Int):jf a b=decide (a=b):=by
 have nb:∀x y:Nat,SN x y=decide (x=y):=λx y=>by
  by_cases h:x=y
  ·subst h;simp
  ·rw[Tt h]
   cases q:SN x y with
   | false=>rfl
   | true=>exact Tc (SQ q) h
 induction a <;> induction b <;> simp[jf,nb]
 lia
theorem gx (a b:Int):qv a b=decide (a<=b):=by
 have nb:∀x y:Nat,SZ x y=decide (x<=y):=λx y=>by
  by_cases h:x<=y
  ·rw[Tu h];exact TZ h
  ·rw[Tt h]
   cases q:SZ x y with
   | false=>rfl
   | true=>exact Tc (Sp q) h
 induction a with
 | ofNat x=>
  induction b with
  | ofNat y=>simp[qv,nb]
  | negSucc y=>
   have:¬(TG x<=Zd y):=by simp only[UB];lia
   simp[qv]
   lia
 | negSucc x=>
  induction b with
  | ofNat y=>
   simp[qv]
   lia
  | negSucc y=>
   simp only[qv,nb]
   by_cases h:y<=x
   ·rw[Tu h,Tu];lia
   ·rw[Tt h,Tt];lia
theorem j7 (a b:Int):AK a b=decide (a<b):=by
 unfold AK
 rw[gx,fJ]
 by_cases h:b<=a
 ·rw[Tu h,Tt (by lia)];rfl
 ·rw[Tt h,Tu (by lia)];rfl
theorem dg {i:Int}(h:small i=Sk):-1152921504606846976<i/\i<1152921504606846976:=by
 induction i with
 | ofNat n=>
  have:n<=1152921504606846975:=Sp h
  simp only[UB];lia
 | negSucc n=>
  have:n<=1152921504606846974:=Sp h
  lia
theorem gH (i:Int):cT i=i.toNat:=by induction i <;> rfl
theorem eU (a b:Int):gA a b=a+b:=by induction a <;> induction b <;> rfl
theorem ey (a b:Int):iG a b=a - b:=by
 induction a with
 | ofNat x=>
  induction b with
  | ofNat y=>
   show @Ti (λ_=>Int) _ _ (SZ y x)=_
   by_cases h:y<=x
   ·rw[TZ h]
    show TG (x - y)=_
    simp only[UB];lia
   ·have:SZ y x=dV:=by cases q:SZ y x with | false=>rfl | true=>exact Tc (Sp q) h
    rw[this];rfl
  | negSucc y=>rfl
 | negSucc x=>rfl
theorem Ew (a b:Int):GP a b=a*b:=by induction a <;> induction b <;> rfl
theorem Dd (a b:Int):Jb a b=a.fdiv b:=by
 induction a <;> induction b <;> first | rfl | (rename_i x y;induction x <;> first | rfl | (show TG (0 / y)=0;rw[Nat.zero_div];rfl))
theorem qo (a b:Int):Af a b=a.fmod b:=by
 induction a <;> induction b <;> first | rfl | (rename_i x y;induction x <;> first | rfl | (show TG (0 % y)=0;rw[Nat.zero_mod];rfl))
theorem bU (h:aB n=Sk):n<=4095:=Sp h
theorem JK {i:Int} {k:Nat->Sm}(h:idx i n k=Sk):∃j,j<n/\((0<=i/\i=j)\/(i<0/\i+n=j))/\k j=Sk:=by
 induction i with
 | ofNat j=>
  obtain⟨a,b⟩:=w6 h
  exact⟨j,V9 λq=>(nomatch (TZ q).symm.trans a),.inl ⟨UV j,rfl⟩,b⟩
 | negSucc j=>
  obtain⟨a,b⟩:=w6 h
  have:j<n:=V9 λq=>nomatch (TZ q).symm.trans a
  exact⟨n - (j+1),Nat.sub_lt (Tn (Th _) this) (YI _),.inr ⟨Wf j,ZJ this⟩,b⟩
theorem Lc {l:Sj α}{i:Int}{k:α->Sm}(h:Hh l i k=Sk):∃j x,l[j]? = Si x/\j<l.length/\((0<=i/\i=j)\/(i<0/\i+l.length=j))/\k x=Sk:=by
 induction i with
 | ofNat j=>
  refine aE (vF h) λx e q=>?_
  exact⟨j,x,e,(SJ.mp e).1,.inl ⟨by simp,by simp⟩,q⟩
 | negSucc j=>
  refine dE (w6 h) λa b=>?_
  rw[aC] at a b
  have:j<l.length:=V9 λq=>by rw[TZ q] at a;exact nomatch a
  refine aE (vF b) λx e q=>?_
  exact⟨_,x,e,(SJ.mp e).1,.inr ⟨by omega,by show _=((l.length - (j+1):Nat):Int);omega⟩,q⟩
theorem vB (l q:Sj Nat):CV l q=decide (l=q):=by
 have nb:∀x y:Nat,SN x y=decide (x=y):=λx y=>by
  by_cases h:x=y
  ·subst h;simp
  ·rw[Tt h]
   cases q:SN x y with
   | false=>rfl
   | true=>exact Tc (SQ q) h
 induction l generalizing q with
 | nil=>induction q <;> simp[CV,fX]
 | cons a r ih=>
  induction q with
  | nil=>rfl
  | cons b q=>
   show aD (SN a b) (CV r q) dV=_
   rw[nb,ih]
   by_cases h:a=b
   ·subst h;simp[aD]
   ·simp[aD,h]
section
variable {P:Prop}
theorem mI {l:Sj α}{a:α}(i:Nat)(h:l[i]? = Si a):a∈l:=Su h
theorem iq {a:α}(h:none=Si a):P:=by cases h
theorem aM {b t:Sm}(h:aD b t dV=Sk)(H:b=Sk->t=Sk->P):P:=(eH h).elim H
theorem IN {b e:Sm}(h:aD b dV e=Sk)(H:b=dV->e=Sk->P):P:=(w6 h).elim H
theorem uF {p q:α->Prop}(h:∃a,p a/\q a)(H:∀a,p a->q a->P):P:=h.elim λa x=>H a x.1 x.2
theorem aO {k:Int->Sm}(h:aG v k=Sk)(H:∀i,v=.int i->k i=Sk->P):P:=uF (ir h) H
theorem dh {k:Sj Nat->Sm}(h:dB v k=Sk)(H:∀i,v=.str i->k i=Sk->P):P:=uF (pB h) H
theorem bN {k:Nat->Sm}(h:bB v k=Sk)(H:∀i,v=.ref i->k i=Sk->P):P:=uF (jF h) H
theorem lh {k:Sj V->Sm}(h:m0 v k=Sk)(H:∀i,v=.tup i->k i=Sk->P):P:=uF (lm h) H
theorem sX {k:Sm->Sm}(h:ql v k=Sk)(H:∀i,v=.bool i->k i=Sk->P):P:=uF (Bv h) H
theorem gz {v:SV α}{k:α->Sm}(h:cU v k=Sk)(H:∀i,v=Si i->k i=Sk->P):P:=uF (xw h) H
theorem su {k:Sj V->Sm}(h:pE o k=Sk)(H:∀i,o=.list i->k i=Sk->P):P:=uF (Aw h) H
theorem g9 {k:SV V->Sm}(h:eo o k=Sk)(H:∀i,o=.cell i->k i=Sk->P):P:=uF (CK h) H
theorem xh {k:Nat->Nat->Sj (Nat×V)->Sj V->Sm}(h:rE o k=Sk)(H:∀c d f l,o=.lsub c d f l->k c d f l=Sk->P):P:=by
 refine mz (wa h) λc d f l e q=>?_
 exact H c d f l e q
theorem tB {l:Sj α}{k:Sm}(h:fX l k=Sk)(H:l=[]->k=Sk->P):P:=(Ah h).elim H
theorem mQ {l:Sj α}{k:α->Sj α->Sm}(h:dc l k=Sk)(H:∀a r,l=a::r->k a r=Sk->P):P:=(wx h).elim λa h=>uF h (H a)
theorem dY {l:Sj α}{k:α->Sm}(h:nv l k=Sk)(H:∀a,l=[a]->k a=Sk->P):P:=uF (sT h) H
theorem nY {l:Sj α}{k:α->α->Sm}(h:Fk l k=Sk)(H:∀a b,l=[a,b]->k a b=Sk->P):P:=(FU h).elim λa h=>uF h (H a)
theorem gJ {l:Sj α} {k:α->Sm}(h:getL l i k dV=Sk)(H:∀x,l[i]? = Si x->k x=Sk->P):P:=uF (vF h) H
theorem pZ {l:Sj α} {v:α}{k:Sj α->Sm}(h:nF l i v k=Sk)(H:i<l.length->k (l.set i v)=Sk->P):P:=(Hl h).elim H
theorem kx {k:Sj Int->Sm}(h:iZq l k=Sk)(H:∀q,l=q.map V.int->k q=Sk->P):P:=uF (Ha h) H
theorem St.get_e {k:O->Sm}(h:s.get i k=Sk)(H:∀o,s.look i=Si o->k o=Sk->P):P:=uF (St.get_t h) H
theorem St.set_e {k:St->Sm}(h:s.set i o k=Sk)(H:∀s',s'.n=s.n->(∀j,s'.look j=if j=i then Si o else s.look j)->(4<=i/\(s.look i).isSome=Sk)->k s'=Sk->P):P:=by
 refine fC (St.set_t h) λs' a b c q=>?_
 exact H s' a b c q
theorem St.push_e {k:Nat->St->Sm}(h:s.push o k=Sk)(H:∀s',s'.n=s.n+1->(∀j,s'.look j=if j=s.n then Si o else s.look j)->k s.n s'=Sk->P):P:=by
 refine fF (St.push_t h) λs' a b q=>?_
 exact H s' a b q
theorem kD {l:Sj α}{i:Int}{k:α->Sm}(h:Hh l i k=Sk)(H:∀j x,l[j]? = Si x->j<l.length->((0<=i/\i=j)\/(i<0/\i+l.length=j))->k x=Sk->P):P:=by
 refine J6 (Lc h) λj x a b c q=>?_
 exact H j x a b c q
end
section
variable {α β:Type}{M:Model}{A:Around}{Q:α->Shared->Prop}{E:Value->Shared->Prop}{s:Shared}{c:Prop} [Decidable c] {a b:Sem α}{x y:Sem β}{f:β->Sem α}
theorem wN (h:¬c)(w:Ss M A b Q E s):Ss M A (if c then a else b) Q E s:=by rw[SK h];exact w
theorem wP (h:c)(w:Ss M A a Q E s):Ss M A (if c then a else b) Q E s:=by rw[SX h];exact w
theorem OE (h:¬c)(w:Ss M A (y >>= f) Q E s):Ss M A ((if c then x else y) >>= f) Q E s:=by rw[SK h];exact w
theorem Rr (h:c)(w:Ss M A (x >>= f) Q E s):Ss M A ((if c then x else y) >>= f) Q E s:=by rw[SX h];exact w
omit [Decidable c] in
theorem wE (h:a=b)(w:Ss M A b Q E s):Ss M A a Q E s:=by rw[h];exact w
omit [Decidable c] in
theorem GH (h:x=y)(w:Ss M A (y >>= f) Q E s):Ss M A (x >>= f) Q E s:=by rw[h];exact w
end
noncomputable abbrev cK (vs:Sj Sr)(n:Nat):Obj:={ cls:=.type "tuple",data:=.seq vs.toArray n }
noncomputable abbrev cB (vs:Sj Sr)(n:Nat):Obj:={ cls:=.type "list",data:=.seq vs.toArray n }
structure lX where
 code:Sx
 tab:Sx
 pos:Pos
 q:Str
 lam:Sm
structure Cfg where
 prog:Program
 w:World
 K:Frag
 aa8:Heap
 p:Program
 loose:Sj Str
 mg:Str->SV Sr
 mb:Str->SV Sr
 tabs:Sj lX
 fix:Sj (Nat×Sx×Obj)
noncomputable abbrev Cfg.M (C:Cfg):Model:=model C.prog C.w
mutual
inductive VR (σ:Sj Sx)(h:Heap):V->Sr->Prop
 | none:VR σ h .none .none
 | bool (b:Sm):VR σ h (.bool b) (.bool b)
 | int (i:Int) (t:Tok):VR σ h (.int i) (.int i t)
 | str (l:Sj Nat) (t:Tok):VR σ h (.str l) (.str ⟨l.toArray⟩ t)
 | ref {n:Nat} {a:Sx}:σ[n]? = Si a->VR σ h (.ref n) (.ref a)
 | tup {l:Sj V} {vs:Sj Sr} {a:Sx} {n:Nat}:h.get? a=Si (cK vs n)->a∉σ->VRs σ h l vs->VR σ h (.tup l) (.ref a)
inductive VRs (σ:Sj Sx)(h:Heap):Sj V->Sj Sr->Prop
 | nil:VRs σ h [] []
 | cons {v:V} {l:Sj V} {x:Sr} {vs:Sj Sr}:VR σ h v x->VRs σ h l vs->VRs σ h (v::l) (x::vs)
end
section
variable {σ:List Addr}{h:Heap}{P:Value->Prop}{u:Value}
@[elab_as_elim] theorem VR.int_e {i:Int} (r:VR σ h (.int i) u) (H:∀t,P (.int i t)):P u:=by cases r;exact H _
@[elab_as_elim] theorem VR.bool_e {b:Sm} (r:VR σ h (.bool b) u) (H:P (.bool b)):P u:=by cases r;exact H
@[elab_as_elim] theorem VR.none_e (r:VR σ h .none u) (H:P .none):P u:=by cases r;exact H
@[elab_as_elim] theorem VR.str_e {l:Sj Nat} (r:VR σ h (.str l) u) (H:∀t,P (.str ⟨l.toArray⟩ t)):P u:=by cases r;exact H _
@[elab_as_elim] theorem VR.ref_e (r:VR σ h (.ref n) u) (H:∀a,σ[n]? = Si a->P (.ref a)):P u:=by cases r;exact H _ ‹_›
@[elab_as_elim] theorem VR.tup_e (r:VR σ h (.tup l) u) (H:∀vs a n,h.get? a=Si (cK vs n)->a∉σ->VRs σ h l vs->P (.ref a)):P u:=by
 cases r with | tup e n q=>exact H _ _ _ e n q
end
theorem VR.cases_e {motive:(v:V)->(u:Sr)->VR σ h v u->Prop} (r:VR σ h v u)(none:motive .none .none .none)(bool:∀b,motive (.bool b) (.bool b) (.bool b))(int:∀i t,motive (.int i) (.int i t) (.int i t))(str:∀l t,motive (.str l) (.str ⟨l.toArray⟩ t) (.str l t))
  (ref:∀{n a} (e:σ[n]? = Si a),motive (.ref n) (.ref a) (.ref e)) (tup:∀{l vs a n} (e:h.get? a=Si (cK vs n)) (m:a∉σ) (q:VRs σ h l vs),motive (.tup l) (.ref a) (.tup e m q)):motive v u r:=by
 cases r with
 | none=>exact none
 | bool b=>exact bool b
 | int i t=>exact int i t
 | str l t=>exact str l t
 | ref e=>exact ref e
 | tup e n q=>exact tup e n q
section
variable {σ:List Addr}{h:Heap}{P:List Value->Prop}{us:List Value}
@[elab_as_elim] theorem VRs.nil_e (r:VRs σ h [] us) (H:P []):P us:=by cases r;exact H
@[elab_as_elim] theorem VRs.cons_e (r:VRs σ h (v::l) us) (H:∀x vs,VR σ h v x->VRs σ h l vs->P (x::vs)):P us:=by
 cases r with | cons a b=>exact H _ _ a b
end
noncomputable def aW:Nat->Str
 | 0=>"raw" | 1=>"n" | 2=>"nt" | 3=>"norm" | 4=>"is_simple" | 5=>"_maxlen" | 6=>"_continuation_ws" | 7=>"_continuation_ws_len" | 8=>"_splitchars" | 9=>"_lines" | 10=>"_current_line"
 | _=>"_initial_size"
inductive ER (σ:Sj Sx)(h:Heap):Sj (Nat×V)->Sj UW->Prop
 | nil:ER σ h [] []
 | cons {x:Nat} {v:V} {r:Sj (Nat×V)} {hs:Int} {t:Tok} {u:Sr} {es:Sj UW}:x<12->VR σ h v u->ER σ h r es->ER σ h ((x,v)::r) (⟨hs,.str (aW x) t,u⟩::es)
noncomputable def dJ:Nat->Sx
 | 0=>83 | 1=>160 | _=>244
inductive Rh (σ:Sj Sx)(h:Heap)(l:Sj V)(a:Sx):Prop
 | mk (vs:Sj Sr) (n:Nat) (g:h.get? a=Si (cB vs n)) (r:VRs σ h l vs)
inductive RE (σ:Sj Sx)(h:Heap)(v:V)(a:Sx):Prop
 | mk (u:Sr) (g:h.IsCell a (Si u)) (r:VR σ h v u)
inductive RF (σ:Sj Sx)(h:Heap)(c d:Nat)(fs:Sj (Nat×V))(a:Sx):Prop
 | mk (hc:c<2) (dx:Sx) (es:Sj UW) (n:Nat) (e:σ[d]? = Si dx) (g:h.get? a=Si ⟨.ref (dJ c),Si dx,.plain,#[]⟩) (gd:h.get? dx=Si (VQ es n)) (r:ER σ h fs es)
inductive RY (σ:Sj Sx)(h:Heap)(c d:Nat)(fs:Sj (Nat×V))(l:Sj V)(a:Sx):Prop
 | mk (hc:c=2) (dx:Sx) (es:Sj UW) (n:Nat) (vs:Sj Sr) (m:Nat) (e:σ[d]? = Si dx) (g:h.get? a=Si ⟨.ref (dJ c),Si dx,.seq vs.toArray m,#[]⟩) (gd:h.get? dx=Si (VQ es n)) (r:ER σ h fs es) (rs:VRs σ h l vs)
def OR (σ:Sj Sx)(h:Heap)(o:O)(a:Sx):Prop:=match o with
 | .list l=>Rh σ h l a
 | .cell none=>h.IsCell a none
 | .cell (Si v)=>RE σ h v a
 | .inst c d fs=>RF σ h c d fs a
 | .lsub c d fs l=>RY σ h c d fs l a
 | .hid=>True
inductive JZ (σ:Sj Sx)(h:Heap)(i:Nat)(o:O):Prop
 | mk (a:Sx) (e:σ[i]? = Si a) (r:OR σ h o a)
def Safe (st:St)(j:Nat):Prop:=st.look j=Si .hid/\∀i c d fs l,(st.look i=Si (.inst c d fs)\/st.look i=Si (.lsub c d fs l))->d≠j
inductive TabOk (Ps:Sj Sx)(σ:Sj Sx)(st:St)(h:Heap)(t:lX):Prop
 | mk (ps:Array Sr) (g:h.get? t.tab=Si { cls:=.none,data:=.fields ps }) (r:Ys ps.toList) (c:t.lam=Sk->∀cv,W8 t.pos ps.toList=Si cv->∃j c,cv=.ref c/\σ[j]? = Si c/\Safe st j/\(∀P∈Ps,P≠c)/\h.CodeRec cv t.q)
inductive wq (Ps:Sj Sx)(σ:Sj Sx)(st:St)(h:Heap)(t:lX):Prop
 | mk (j:Nat) (e:σ[j]? = Si t.tab) (sj:Safe st j) (r:TabOk Ps σ st h t)
structure Inv (C:Cfg)(σ:Sj Sx)(st:St)(s:Sw):Prop where
 base:∀b o,C.aa8.get? b=Si o->s.heap.get? b=Si o
 nodup:σ.Nodup
 new:∀a∈σ,C.aa8.get? a=none/\(s.heap.get? a).isSome=Sk
 n:st.n=σ.length
 at_:∀i o,st.look i=Si o->JZ σ s.heap i o
 dict:∀i c d fs l,(st.look i=Si (.inst c d fs)\/st.look i=Si (.lsub c d fs l))->st.look d=Si .hid
 apart:∀i j c d fs l c' d' fs' l',(st.look i=Si (.inst c d fs)\/st.look i=Si (.lsub c d fs l))->(st.look j=Si (.inst c' d' fs')\/st.look j=Si (.lsub c' d' fs' l'))->d=d'->i=j
 tabs:∀t∈C.tabs,wq (C.tabs.map (·.tab)) σ st s.heap t
 fix:∀i a o,(i,a,o)∈C.fix->i<4/\σ[i]? = Si a/\s.heap.get? a=Si o/\∃l,st.look i=Si (.list l)
structure Step (W:Sj Sx)(σ:Sj Sx)(s:Sw)(σ':Sj Sx)(s':Sw):Prop where
 ext:∃τ,σ'=σ++τ/\∀a∈τ,a∉σ/\(s.heap.get? a=none\/a∈W)
 keep:∀b o,b∉σ->b∉W->s.heap.get? b=Si o->s'.heap.get? b=Si o
 os:s'.os=s.os
 gens:UZ s.gens->UZ s'.gens
section
variable {σ σ':List Addr}{h h':Heap}{W:List Addr}
theorem VR.mono (hσ:∀(i:Nat)(a:Sx),σ[i]? = Si a->σ'[i]? = Si a)(ht:∀(a:Sx)(vs:Sj Sr)(n:Nat),a∉σ->h.get? a=Si (cK vs n)->a∉σ'/\h'.get? a=Si (cK vs n)) (r:VR σ h v u):VR σ' h' v u:=VR.rec (motive_1:=λv u _=>VR σ' h' v u) (motive_2:=λl us _=>VRs σ' h' l us) .none .bool .int .str (λe=>.ref (hσ _ _ e)) (λe n _ ih=>.tup (ht _ _ _ n e).2 (ht _ _ _ n e).1 ih) .nil (λ_ _ a b=>.cons a b) r
theorem VRs.mono (hσ:∀(i:Nat)(a:Sx),σ[i]? = Si a->σ'[i]? = Si a)(ht:∀(a:Sx)(vs:Sj Sr)(n:Nat),a∉σ->h.get? a=Si (cK vs n)->a∉σ'/\h'.get? a=Si (cK vs n)) {us:Sj Sr}(r:VRs σ h l us):VRs σ' h' l us:=VRs.rec (motive_1:=λv u _=>VR σ' h' v u) (motive_2:=λl us _=>VRs σ' h' l us) .none .bool .int .str (λe=>.ref (hσ _ _ e)) (λe n _ ih=>.tup (ht _ _ _ n e).2 (ht _ _ _ n e).1 ih) .nil (λ_ _ a b=>.cons a b) r
theorem VRs.length (x:VRs σ h l vs):vs.length=l.length:=by
 induction l generalizing vs with
 | nil=>cases x;rfl
 | cons v l ih=>cases x with | cons a b=>rw[Tg,Tg,ih b]
theorem VRs.get {l:Sj V}{vs:Sj Sr}(x:VRs σ h l vs){i:Nat}{v:V}(e:l[i]? = Si v):∃u,vs[i]? = Si u/\VR σ h v u:=by
 induction l generalizing vs i with
 | nil=>simp at e
 | cons w l ih=>
  cases x with
  | cons a b=>
   induction i with
   | zero=>simp at e;subst e;exact⟨_,rfl,a⟩
   | succ i=>exact ih b (by simpa using e)
theorem VRs.append {us:Sj Sr}(x:VRs σ h l vs)(y:VRs σ h q us):VRs σ h (l++q) (vs++us):=by
 induction l generalizing vs with
 | nil=>cases x;exact y
 | cons w l ih=>cases x with | cons a b=>exact .cons a (ih b)
theorem VRs.take (x:VRs σ h l vs)(n:Nat):VRs σ h (l.take n) (vs.take n):=by
 induction l generalizing vs n with
 | nil=>cases x;simp;exact .nil
 | cons w l ih=>
  cases x with
  | cons a b=>
   induction n with
   | zero=>exact .nil
   | succ n=>exact .cons a (ih b n)
theorem VRs.drop (x:VRs σ h l vs)(n:Nat):VRs σ h (l.drop n) (vs.drop n):=by
 induction l generalizing vs n with
 | nil=>cases x;simp;exact .nil
 | cons w l ih=>
  cases x with
  | cons a b=>
   induction n with
   | zero=>exact .cons a b
   | succ n=>exact ih b n
theorem VRs.set (x:VRs σ h l vs)(n:Nat) (y:VR σ h v u):VRs σ h (l.set n v) (vs.set n u):=by
 induction l generalizing vs n with
 | nil=>cases x;exact .nil
 | cons w l ih=>
  cases x with
  | cons a b=>
   induction n with
   | zero=>exact .cons y b
   | succ n=>exact .cons a (ih b n)
theorem ER.mono {es:Sj UW}(hv:∀{v:V}{u:Sr},VR σ h v u->VR σ' h' v u)(x:ER σ h fs es):ER σ' h' fs es:=by
 induction x with
 | nil=>exact .nil
 | cons a b _ ih=>exact .cons a (hv b) ih
end
namespace Step
variable {W:List Addr}{σ σ1 σ2:List Addr}{s aaV aaW:Shared}
theorem refl:Step W σ s σ s:=⟨⟨[],by simp,λ_ h=>nomatch h⟩,λ_ _ _ _ e=>e,rfl,λh=>h⟩
theorem trans (x:Step W σ s σ1 aaV)(y:Step W σ1 aaV σ2 aaW):Step W σ s σ2 aaW:=by
 refine aE (x.ext) λτ e h=>?_
 refine aE (y.ext) λτ' e' h'=>?_
 refine⟨⟨τ++τ',by rw[e',e,U3],λa ha=>?_⟩,λb o n w g=>?_,y.os.trans x.os,λh=>y.gens (x.gens h)⟩
 ·rcases Tj.mp ha with ha | ha
  ·exact h a ha
  ·have n:a∉σ:=λm=>(h' a ha).1 (by rw[e];exact Un _ m)
   refine⟨n,?_⟩
   rcases(h' a ha).2 with q | q
   ·by_cases w:a∈W
    ·exact .inr w
    ·refine .inl ?_
     cases g:s.heap.get? a with
     | none=>rfl
     | some o=>rw[x.keep a o n w g] at q;exact nomatch q
   ·exact .inr q
 ·refine y.keep b o (λhb=>?_) w (x.keep b o n w g)
  rw[e] at hb
  rcases Tj.mp hb with hb | hb
  ·exact n hb
  ·rcases(h b hb).2 with q | q
   ·rw[g] at q;exact nomatch q
   ·exact w q
theorem more (x:Step W σ s σ1 aaV){W':Sj Sx}(hw:∀b∈W,b∈W'\/s.heap.get? b=none):Step W' σ s σ1 aaV:=
 ⟨by refine aE (x.ext) λτ e h=>?_;exact⟨τ,e,λa m=>⟨(h a m).1,(h a m).2.elim .inl λq=>(hw a q).elim .inr .inl⟩⟩,λb o n w g=>x.keep b o n (λhb=>(hw b hb).elim w λq=>by rw[q] at g;exact iq g) g,x.os,x.gens⟩
theorem idx (x:Step W σ s σ1 aaV) (e:σ[i]? = Si a):σ1[i]? = Si a:=by
 refine aE (x.ext) λτ q _=>?_
 rw[q,Tp (SJ.mp e).1];exact e
theorem notin (x:Step W σ s σ1 aaV) (n:a∉σ)(w:a∉W){o:Obj}(l:s.heap.get? a=Si o):a∉σ1:=by
 refine aE (x.ext) λτ q h=>?_
 rw[q]
 intro m
 rcases Tj.mp m with m | m
 ·exact n m
 ·rcases(h a m).2 with q | q
  ·rw[l] at q;cases q
  ·exact w q
def NoTup (W:Sj Sx)(h:Heap):Prop:=∀a∈W,∀vs n,h.get? a≠Si (cK vs n)
theorem NoTup.nil:NoTup [] h:=λ_ m=>nomatch m
theorem vr (x:Step W σ s σ1 aaV)(hw:NoTup W s.heap) (y:VR σ s.heap v u):VR σ1 aaV.heap v u:=
 y.mono (λ_ _ e=>x.idx e) λa _ _ n e=>⟨x.notin n (λm=>hw a m _ _ e) e,x.keep a _ n (λm=>hw a m _ _ e) e⟩
theorem vrs (x:Step W σ s σ1 aaV)(hw:NoTup W s.heap) (y:VRs σ s.heap l vs):VRs σ1 aaV.heap l vs:=
 y.mono (λ_ _ e=>x.idx e) λa _ _ n e=>⟨x.notin n (λm=>hw a m _ _ e) e,x.keep a _ n (λm=>hw a m _ _ e) e⟩
end Step
structure Fx where
 ln:Sj Str
 cn:Sj Str
 gn:Sj Str
 own:Sj Str
structure ba (fx:Fx)(env:Env):Prop where
 kind:env.scope.kind=.function
 glob:env.globals=S4
 blt:env.builtins=Ua
 ln:∀x∈fx.ln,env.kindOf x=Si .local
 cn:∀x∈fx.cn,env.kindOf x=Si .cell\/env.kindOf x=Si .free
 gn:∀x∈fx.gn,env.kindOf x=Si .globalImplicit
 own:∀x∈fx.own,env.kindOf x=Si .cell
noncomputable def Fx.ok (fx:Fx):Sm:=decide fx.ln.Nodup && fx.ln.all (λx=>!(x == ("__debug__":Str))) && fx.cn.all (λx=>!(x == ("__debug__":Str)) && !(x == ("__classdict__":Str))) && fx.gn.all (λx=>!(x == ("__debug__":Str)))
structure FrR (C:Cfg)(fx:Fx)(env:Env)(fm:Fm)(σ:Sj Sx)(s:Sw):Prop where
 ns:∃m,s.heap.Ns env.locals m/\∀(i:Nat) (x:Str) (v:V),fx.ln[i]? = Si x->fm.loc[i]? = Si (Si v)->∃u,m x=Si u/\VR σ s.heap v u
 out:env.locals∉σ
 new:C.aa8.get? env.locals=none
 len:fm.loc.length<=fx.ln.length
 cel:∀(i n:Nat),fm.cel[i]? = Si n->∃x a,fx.cn[i]? = Si x/\env.cells.lookup x=Si a/\σ[n]? = Si a
theorem Heap.Ns.noTup {m:Str->SV Sr}(x:h.Ns a m):Step.NoTup [a] h:=by
 intro b hb vs n e
 refine Aj x λo es ep ho hd _=>?_
 rw[Sn.mp hb,ho] at e
 cases e
 cases hd
theorem Step.fr {W:Sj Sx}{σ1:Sj Sx}{s aaV:Sw}(x:Step W σ s σ1 aaV)(hw:NoTup W s.heap)(hL:env.locals∉W)(F:FrR C fx env fm σ s):FrR C fx env fm σ1 aaV:=by
 refine aE (F.ns) λm hn hv=>?_
 refine⟨⟨m,hn.at' λo e=>x.keep _ o F.out hL e,λi y v e e'=>?_⟩,x.notin F.out hL hn.choose_spec.choose_spec.choose_spec.1,F.new,F.len,λi n e=>?_⟩
 ·refine aE (hv i y v e e') λu a b=>?_
  exact⟨u,a,x.vr hw b⟩
 ·refine gw (F.cel i n e) λy a h1 h2 h3=>?_
  exact⟨y,a,h1,h2,x.idx h3⟩
structure Rm (d:Nat)(A:Ue):Prop where
 depth:A.depth+d+20<1000
 units:A.units+40*d+200<9900
 handled:A.handled=none
theorem Rm.of {e:Nat}{A':Ue}(x:Rm e A)(h1:A'.depth+d<=A.depth+e)(h2:A'.units+40*d<=A.units+40*e)(h3:A'.handled=none):Rm d A':=⟨Tn (Ze h1 20) x.depth,Tn (Ze h2 200) x.units,h3⟩
theorem u6 {a k:Nat}(h:k<=40):a+k+40*d<=a+40*(d+1):=by
 rw[Nat.mul_succ,Ym,aaa k];exact Tw (Tw h _) _
theorem Rm.le {e:Nat} (x:Rm d A)(h:e<=d):Rm e A:=x.of (Tw h _) (Tw (XD 40 h) _) x.handled
theorem Rm.in1 (x:Rm (d+1) A):Rm d A.in1:=x.of (T2 _) (u6 (bo rfl)) x.handled
theorem Rm.deeper (x:Rm (d+1) A):Rm d (A.deeper env):=x.of (Ub (Ws ..)) (u6 (bo rfl)) x.handled
theorem Rm.top (x:Rm d A):A.depth<1000:=Tn (So (Td _ _) (Td _ _)) x.depth
structure Cfg.Ok (C:Cfg):Prop where
 X:C.K.In C.aa8
 T:TopRead C.p C.loose C.mg C.mb C.aa8
section
variable {C:Cfg}
inductive Out (C:Cfg)(W:Sj Sx)(σ:Sj Sx)(s:Sw)(k:V->St->Sm)(u:Sr)(s':Sw):Prop
 | mk (σ':Sj Sx) (v:V) (st':St) (S:Step W σ s σ' s') (I:Inv C σ' st' s') (r:VR σ' s'.heap v u) (h:k v st'=Sk)
def cM:Sr->Sw->Prop:=λ_ _=>False
def fZ (C:Cfg)(A:Ue)(t:Sem Sr)(σ:Sj Sx)(s:Sw)(k:V->St->Sm):Prop:=Ss C.M A t (Out C [] σ s k) cM s
def SE (C:Cfg)(fx:Fx)(d:Nat)(e:Expr)(c:CE):Prop:=
 ∀(A:Ue) (env:Env) (σ:Sj Sx) (fm:Fm) (st:St) (s:Sw) (k:V->St->Sm),Rm d A->ba fx env->Inv C σ st s->FrR C fx env fm σ s->c fm st k=Sk->fZ C A (eval e env) σ s k
inductive OU (C:Cfg)(b:Nat)(σ:Sj Sx)(s:Sw)(k:Sj V->St->Sm)(us:Sj Sr)(s':Sw):Prop
 | mk (b:us.length<=b+4095) (σ':Sj Sx) (l:Sj V) (st':St) (S:Step [] σ s σ' s') (I:Inv C σ' st' s') (r:VRs σ' s'.heap l us) (h:k l st'=Sk)
def SA (C:Cfg)(fx:Fx)(d:Nat)(es:Sj Expr)(c:CA):Prop:=
 ∀(A:Ue) (env:Env) (σ:Sj Sx) (fm:Fm) (st:St) (s:Sw) (k:Sj V->St->Sm) (pos:Pos),Rm d A->ba fx env->Inv C σ st s->FrR C fx env fm σ s->c fm st k=Sk ->
  Ss C.M A (spliced (W9 pos (T4 es env))) (OU C es.length σ s k) cM s
inductive OutB (C:Cfg)(σ:Sj Sx)(s:Sw)(k:Sm->St->Sm)(b:Sm)(s':Sw):Prop
 | mk (σ':Sj Sx) (st':St) (S:Step [] σ s σ' s') (I:Inv C σ' st' s') (h:k b st'=Sk)
def ST (C:Cfg)(fx:Fx)(d:Nat)(e:Expr)(c:CT):Prop:=
 ∀(A:Ue) (env:Env) (σ:Sj Sx) (fm:Fm) (st:St) (s:Sw) (k:Sm->St->Sm),Rm d A->ba fx env->Inv C σ st s->FrR C fx env fm σ s->c fm st k=Sk ->
  Ss C.M A (isTrue e env (eval e env)) (OutB C σ s k) cM s
def FlR (σ:Sj Sx)(h:Heap):Fl->Flow->Prop
 | .nxt,.next=>True
 | .brk,.brk=>True
 | .cnt,.cont=>True
 | .ret v,.ret u=>VR σ h v u
 | _,_=>False
@[elab_as_elim] theorem FlR.e {P:Fl->Flow->Prop} {fl:Fl} {f:Flow} (r:FlR σ h fl f) (n:P .nxt .next) (b:P .brk .brk) (c:P .cnt .cont) (t:∀{v u},VR σ h v u->P (.ret v) (.ret u)):P fl f:=by
 cases fl with
 | nxt=>cases f with
  | next=>exact n
  | _=>exact r.elim
 | brk=>cases f with
  | brk=>exact b
  | _=>exact r.elim
 | cnt=>cases f with
  | cont=>exact c
  | _=>exact r.elim
 | ret v=>cases f with
  | ret u=>exact t r
  | _=>exact r.elim
inductive OutS (C:Cfg)(fx:Fx)(env:Env)(σ:Sj Sx)(s:Sw)(k:Fl->Fm->St->Sm)(f:Flow)(s':Sw):Prop
 | mk (σ':Sj Sx) (fl:Fl) (fm':Fm) (st':St) (S:Step [env.locals] σ s σ' s') (I:Inv C σ' st' s') (F:FrR C fx env fm' σ' s') (r:FlR σ' s'.heap fl f) (h:k fl fm' st'=Sk)
def SS (C:Cfg)(fx:Fx)(d:Nat)(x:Stmt)(c:CS):Prop:=
 ∀(A:Ue) (env:Env) (σ:Sj Sx) (fm:Fm) (st:St) (s:Sw) (k:Fl->Fm->St->Sm),Rm d A->ba fx env->Inv C σ st s->FrR C fx env fm σ s->c fm st k=Sk ->
  Ss C.M A (exec x env) (OutS C fx env σ s k) cM s
def SL (C:Cfg)(fx:Fx)(d:Nat)(x:Sj Stmt)(c:CS):Prop:=
 ∀(A:Ue) (env:Env) (σ:Sj Sx) (fm:Fm) (st:St) (s:Sw) (k:Fl->Fm->St->Sm),Rm d A->ba fx env->Inv C σ st s->FrR C fx env fm σ s->c fm st k=Sk ->
  Ss C.M A (execs x env) (OutS C fx env σ s k) cM s
inductive OutG (C:Cfg)(fx:Fx)(env:Env)(σ:Sj Sx)(s:Sw)(k:Fm->St->Sm)(x:Unit)(s':Sw):Prop
 | mk (σ':Sj Sx) (fm':Fm) (st':St) (S:Step [env.locals] σ s σ' s') (I:Inv C σ' st' s') (F:FrR C fx env fm' σ' s') (h:k fm' st'=Sk)
def SG (C:Cfg)(fx:Fx)(d:Nat)(t:Expr)(c:CG):Prop:=
 ∀(A:Ue) (env:Env) (σ:Sj Sx) (fm:Fm) (st:St) (s:Sw) (k:Fm->St->Sm) (v:V) (u:Sr),Rm d A->ba fx env->Inv C σ st s->FrR C fx env fm σ s->VR σ s.heap v u->c fm v st k=Sk ->
  Ss C.M A (assign t env u) (OutG C fx env σ s k) cM s
def SF (C:Cfg)(d:Nat)(f:Sr)(c:FN):Prop:=
 ∀(A:Ue) (σ:Sj Sx) (st:St) (s:Sw) (k:V->St->Sm) (l:Sj V) (us:Sj Sr),Rm d A->Inv C σ st s->VRs σ s.heap l us->c l st k=Sk->fZ C A (call f us) σ s k
end
noncomputable def bW:O->SV Nat
 | .inst _ d _=>Si d
 | .lsub _ d _ _=>Si d
 | _=>none
section
variable {σ σ':List Addr}{h h':Heap}{o:O}{a:Addr}
theorem OR.mono (hσ:∀(i:Nat)(a:Sx),σ[i]? = Si a->σ'[i]? = Si a)(ht:∀(a:Sx)(vs:Sj Sr)(n:Nat),a∉σ->h.get? a=Si (cK vs n)->a∉σ'/\h'.get? a=Si (cK vs n))
  (ha:∀x,h.get? a=Si x->h'.get? a=Si x) (hd:∀d dx,bW o=Si d->σ[d]? = Si dx->∀x,h.get? dx=Si x->h'.get? dx=Si x) (r:OR σ h o a):OR σ' h' o a:=by
 induction o with
 | list l=>obtain⟨vs,n,e,q⟩:=r;exact⟨vs,n,ha _ e,q.mono hσ ht⟩
 | cell w=>
  induction w with
  | none=>refine aE r λo e d=>?_;exact⟨o,ha _ e,d⟩
  | some v=>obtain⟨u,⟨o,e,d⟩,q⟩:=r;exact⟨u,⟨o,ha _ e,d⟩,q.mono hσ ht⟩
 | inst c d fs=>obtain⟨hc,dx,es,n,e1,e2,e3,q⟩:=r;exact⟨hc,dx,es,n,hσ _ _ e1,ha _ e2,hd d dx rfl e1 _ e3,q.mono λx=>x.mono hσ ht⟩
 | lsub c d fs l=>obtain⟨hc,dx,es,n,vs,m,e1,e2,e3,q,z⟩:=r;exact⟨hc,dx,es,n,vs,m,hσ _ _ e1,ha _ e2,hd d dx rfl e1 _ e3,q.mono λx=>x.mono hσ ht,z.mono hσ ht⟩
 | hid=>trivial
end
theorem TabOk.keep {Ps:Sj Sx} {t:lX}(x:TabOk Ps σ st h t)(hσ:∀(i:Nat)(a:Sx),σ[i]? = Si a->σ'[i]? = Si a)(hs:∀j,Safe st j->Safe st' j)(hk:∀j a y,Safe st j->σ[j]? = Si a->h.get? a=Si y->h'.get? a=Si y)
 (hj:σ[j]? = Si t.tab) (sj:Safe st j):TabOk Ps σ' st' h' t:=by
 obtain⟨ps,g,tr,cv⟩:=x
 refine⟨ps,hk j _ _ sj hj g,tr,λhl v hv=>?_⟩
 refine C8 (cv hl v hv) λi c e82 hi si hp q=>?_;subst e82
 refine P9 q λc' o vs u e g' r=>?_
 cases e
 exact⟨i,c,rfl,hσ _ _ hi,hs _ si,hp,c,o,vs,u,rfl,hk i c o si hi g',r⟩
theorem dQ {Ps:Sj Sx}{T:Sj lX} (x:∀t∈T,wq Ps σ st h t)(hσ:∀(i:Nat)(a:Sx),σ[i]? = Si a->σ'[i]? = Si a)(hs:∀j,Safe st j->Safe st' j)
  (hk:∀j a y,Safe st j->σ[j]? = Si a->h.get? a=Si y->h'.get? a=Si y):∀t∈T,wq Ps σ' st' h' t:=λt m=>by
 obtain⟨j,hj,sj,r⟩:=x t m
 exact⟨j,hσ _ _ hj,hs _ sj,r.keep hσ hs hk hj sj⟩
theorem Safe.dict (x:Safe st j)(e:st.look i=Si o)(hd:bW o=Si d):d≠j:=by
 induction o with
 | inst c d' fs=>cases hd;exact x.2 i c d fs [] (.inl e)
 | lsub c d' fs l=>cases hd;exact x.2 i c d fs l (.inr e)
 | _=>exact iq hd
theorem Safe.of (h:st.look j=Si .hid)(hd:∀i o d,st.look i=Si o->bW o=Si d->d≠j):Safe st j:=
 ⟨h,λi c d fs l q=>by rcases q with q | q <;> exact hd i _ d q rfl⟩
namespace Inv
variable {C:Cfg}{σ:List Addr}{st:St}{s:Shared}
theorem lt (I:Inv C σ st s) (e:st.look i=Si o):i<st.n:=by
 obtain⟨a,h,_⟩:=I.at_ i o e
 rw[I.n];exact(SJ.mp h).1
theorem inj (I:Inv C σ st s) (x:σ[i]? = Si a)(y:σ[j]? = Si a):i=j:=by
 obtain⟨hi,ei⟩:=SJ.mp x
 obtain⟨hj,ej⟩:=SJ.mp y
 have P:=UU.mp I.nodup
 rcases aab i j with h | h | h
 ·exact Tc (ei.trans ej.symm) (P i j hi hj h)
 ·exact h
 ·exact Tc (ej.trans ei.symm) (P j i hj hi h)
theorem dictHid (I:Inv C σ st s) (e:st.look i=Si o)(hd:bW o=Si d):st.look d=Si .hid:=by
 induction o with
 | inst c d' fs=>cases hd;exact I.dict i c d fs [] (.inl e)
 | lsub c d' fs l=>cases hd;exact I.dict i c d fs l (.inr e)
 | _=>exact iq hd
theorem dictOne (I:Inv C σ st s) (e:st.look i=Si o)(e':st.look j=Si o')(hd:bW o=Si d)(hd':bW o'=Si d):i=j:=by
 have L:∀{i:Nat} {o:O},st.look i=Si o->bW o=Si d->∃c fs l,st.look i=Si (.inst c d fs)\/st.look i=Si (.lsub c d fs l):=λ{i o} e hd=>by
  induction o with
  | inst c d' fs=>cases hd;exact⟨c,fs,[],.inl e⟩
  | lsub c d' fs l=>cases hd;exact⟨c,fs,l,.inr e⟩
  | _=>exact iq hd
 refine zl (L e hd) λc fs l q=>?_
 refine zl (L e' hd') λc' fs' l' q'=>?_
 exact I.apart i j c d fs l c' d fs' l' q q' rfl
theorem grow (I:Inv C σ st s) (hk:∀b o,s.heap.get? b=Si o->s'.heap.get? b=Si o):Inv C σ st s':=
 ⟨λb o e=>hk b o (I.base b o e),I.nodup,λa m=>⟨(I.new a m).1,by obtain⟨o,e⟩:=S7.mp (I.new a m).2;rw[hk _ _ e];rfl⟩,I.n,λi o e=>by
  obtain⟨a,h,r⟩:=I.at_ i o e
  exact⟨a,h,r.mono (λ_ _ e=>e) (λa vs n m e=>⟨m,hk _ _ e⟩) (λx e=>hk _ _ e) λd dx _ _ x e=>hk _ _ e⟩,I.dict,I.apart,dQ I.tabs (λ_ _ e=>e) (λ_ s=>s) λ_ _ _ _ _ e=>hk _ _ e,λi a o m=>by refine yF (I.fix i a o m) λq1 q2 q3 q4=>?_;exact⟨q1,q2,hk _ _ q3,q4⟩⟩
theorem other (I:Inv C σ st s){W:Sj Sx} (hk:∀b o,b∉W->s.heap.get? b=Si o->s'.heap.get? b=Si o)(hw:∀b∈W,b∉σ/\C.aa8.get? b=none)(ht:Step.NoTup W s.heap):Inv C σ st s':=by
 refine⟨λb o e=>hk b o (λm=>by rw[(hw b m).2] at e;exact iq e) (I.base b o e),I.nodup,λa m=>⟨(I.new a m).1,by obtain⟨o,e⟩:=S7.mp (I.new a m).2;rw[hk _ _ (λq=>(hw a q).1 m) e];rfl⟩,I.n,λi o e=>?_,I.dict,I.apart,dQ I.tabs (λ_ _ e=>e) (λ_ s=>s) λ_ a _ _ m e=>hk _ _ (λq=>(hw a q).1 (Su m)) e,λi a o m=>by obtain⟨q1,q2,q3,q4⟩:=I.fix i a o m;exact⟨q1,q2,hk _ _ (λq=>(hw a q).1 (Su q2)) q3,q4⟩⟩
 obtain⟨a,h,r⟩:=I.at_ i o e
 refine⟨a,h,r.mono (λ_ _ e=>e) (λb vs n m e=>⟨m,hk b _ (λq=>ht b q _ _ e) e⟩) (λx e=>hk _ _ (λq=>(hw a q).1 (Su h)) e) λd dx _ e' x e=>hk _ _ (λq=>(hw dx q).1 (Su e')) e⟩
theorem put (I:Inv C σ st s) {B:Sj Sx}(hn:st'.n=st.n)(hl:∀j,st'.look j=if j=i then Si o' else st.look j)(h4:4<=i)(e:st.look i=Si o)(ho:o≠.hid)(hdi:bW o'=bW o)
  (hB:∀b∈B,σ[i]? = Si b\/∃d,bW o=Si d/\σ[d]? = Si b) (hk:∀b x,b∉B->s.heap.get? b=Si x->s'.heap.get? b=Si x) (hs:∀b∈B,(s'.heap.get? b).isSome=Sk)
  (r:∀a,σ[i]? = Si a->OR σ s.heap o a->OR σ s'.heap o' a):Inv C σ st' s':=by
 have mem:∀b∈B,b∈σ:=λb m=>by
  rcases hB b m with q | ⟨d,_,q⟩ <;> exact Su q
 have kt:∀(b:Sx) (vs:Sj Sr) (n:Nat),b∉σ->s.heap.get? b=Si (cK vs n)->b∉σ/\s'.heap.get? b=Si (cK vs n):=λb vs n m x=>⟨m,hk b _ (λq=>m (mem b q)) x⟩
 have L:∀{j:Nat} {x:O},st'.look j=Si x->∃y,st.look j=Si y/\bW y=bW x:=λ{j x} q=>by
  rw[hl] at q
  by_cases h:j=i
  ·subst h;rw[SX rfl] at q;cases q;exact⟨o,e,hdi.symm⟩
  ·rw[SK h] at q;exact⟨x,q,rfl⟩
 have HI:∀{d:Nat},st.look d=Si .hid->st'.look d=Si .hid:=λ{d} q=>by
  rw[hl]
  by_cases h:d=i
  ·subst h;rw[e] at q;exact Tc (Si.inj q) ho
  ·rw[SK h];exact q
 refine⟨λb x q=>hk b x (λm=>by rw[(I.new b (mem b m)).1] at q;exact iq q) (I.base b x q),I.nodup,λa m=>⟨(I.new a m).1,by
  by_cases q:a∈B
  ·exact hs a q
  ·obtain⟨o,e⟩:=S7.mp (I.new a m).2;rw[hk _ _ q e];rfl⟩,hn.trans I.n,λj x q=>?_,λj c d fs l q=>?_,λj k c d fs l c' d' fs' l' q q' hd=>?_,dQ I.tabs (λ_ _ e=>e) (λj sj=>Safe.of (HI sj.1) λk x d q hd=>by
   refine aE (L q) λy hy hyd=>?_
   exact sj.dict hy (hyd.trans hd)) λj a y sj hj g=>hk a y (λm=>by
   rcases hB a m with z | ⟨d,hd,z⟩
   ·have:=I.inj hj z
    subst this
    rw[sj.1] at e
    exact ho (Si.inj e).symm
   ·exact sj.dict e hd (I.inj z hj)) g,λj a x m=>by
   obtain⟨q1,q2,q3,l,q4⟩:=I.fix j a x m
   refine⟨q1,q2,hk a x (λz=>?_) q3,l,by rw[hl,SK (by lia)];exact q4⟩
   rcases hB a z with z | ⟨d,hd,z⟩
   ·have:=I.inj q2 z;lia
   ·have:=I.inj q2 z
    subst this
    rw[I.dictHid e hd] at q4
    cases q4⟩
 ·by_cases h:j=i
  ·subst h
   rw[hl,SX rfl] at q
   cases q
   obtain⟨a,ha,ra⟩:=I.at_ j o e
   exact⟨a,ha,r a ha ra⟩
  ·rw[hl,SK h] at q
   obtain⟨a,ha,ra⟩:=I.at_ j x q
   refine⟨a,ha,?_⟩
   by_cases hx:x=.hid
   ·subst hx;trivial
   refine ra.mono (λ_ _ e=>e) kt (λy g=>hk a y (λm=>?_) g) λd dx hd hx' y g=>hk dx y (λm=>?_) g
   ·rcases hB a m with z | ⟨d,hd,z⟩
    ·exact h (I.inj ha z)
    ·have:=I.dictHid e hd
     rw[←I.inj ha z,q] at this
     exact hx (Si.inj this)
   ·rcases hB dx m with z | ⟨d',hd',z⟩
    ·have:=I.inj hx' z
     subst this
     rw[I.dictHid q hd] at e
     exact ho (Si.inj e).symm
    ·have:=I.inj hx' z
     subst this
     exact h (I.dictOne q e hd hd')
 ·have key:∀x,st'.look j=Si x->bW x=Si d->st'.look d=Si .hid:=λx q hd=>by
   refine aE (L q) λy hy hyd=>?_
   exact HI (I.dictHid hy (hyd.trans hd))
  rcases q with q | q
  ·exact key _ q rfl
  ·exact key _ q rfl
 ·have key:∀x y,st'.look j=Si x->st'.look k=Si y->bW x=Si d->bW y=Si d->j=k:=λx y q q' h1 h2=>by
   refine aE (L q) λx' hx hxd=>?_
   refine aE (L q') λy' hy hyd=>?_
   exact I.dictOne hx hy (hxd.trans h1) (hyd.trans h2)
  subst hd
  rcases q with q | q <;> rcases q' with q' | q' <;> exact key _ _ q q' rfl rfl
theorem push (I:Inv C σ st s) (hn:st'.n=st.n+1)(hl:∀j,st'.look j=if j=st.n then Si o else st.look j)(hd:bW o=none)
  (hk:∀b x,s.heap.get? b=Si x->s'.heap.get? b=Si x) (ha:s.heap.get? a=none) (hs:(s'.heap.get? a).isSome=Sk) (hb:C.aa8.get? a=none) (r:OR (σ++[a]) s'.heap o a):Inv C (σ++[a]) st' s':=by
 have out:a∉σ:=λm=>by have:=(I.new a m).2;rw[ha] at this;exact ff this
 have kt:∀(b:Sx) (vs:Sj Sr) (n:Nat),b∉σ->s.heap.get? b=Si (cK vs n)->b∉σ++[a]/\s'.heap.get? b=Si (cK vs n):=λb vs n m x=>⟨λq=>by
  rcases Tj.mp q with q | q
  ·exact m q
  ·rw[Sn.mp q,ha] at x;exact(nomatch x),hk b _ x⟩
 have hi:∀(i:Nat) (b:Sx),σ[i]? = Si b->(σ++[a])[i]? = Si b:=λi b e=>by rw[Tp (SJ.mp e).1];exact e
 have old:∀{j:Nat} {x:O},st.look j=Si x->st'.look j=Si x:=λ{j x} e=>by rw[hl,SK (SP (I.lt e))];exact e
 have L:∀{j:Nat} {x:O} {d:Nat},st'.look j=Si x->bW x=Si d->st.look j=Si x:=λ{j x d} q h=>by
  rw[hl] at q
  by_cases e:j=st.n
  ·rw[SX e] at q;cases q;rw[hd] at h;exact iq h
  ·rw[SK e] at q;exact q
 refine⟨λb x e=>hk b x (I.base b x e),?_,λb m=>?_,by rw[hn,I.n];simp,λj x q=>?_,λj c d fs l q=>?_,λj k c d fs l c' d' fs' l' q q' hd=>?_,dQ I.tabs hi (λj sj=>Safe.of (old sj.1) λk x d q hd=>sj.dict (L q hd) hd) λ_ _ _ _ _ g=>hk _ _ g,λi a o m=>by obtain⟨q1,q2,q3,l,q4⟩:=I.fix i a o m;exact⟨q1,hi _ _ q2,hk _ _ q3,l,old q4⟩⟩
 ·rw[Vq]
  exact⟨I.nodup,by simp,λb m c m'=>by rw[Sn.mp m'];intro e;exact out (e▸m)⟩
 ·rcases Tj.mp m with m | m
  ·exact⟨(I.new b m).1,by obtain⟨o,e⟩:=S7.mp (I.new b m).2;rw[hk _ _ e];rfl⟩
  ·rw[Sn.mp m];exact⟨hb,hs⟩
 ·rw[hl] at q
  by_cases e:j=st.n
  ·rw[SX e] at q
   cases q
   exact⟨a,by rw[e,I.n];simp,r⟩
  ·rw[SK e] at q
   obtain⟨b,hb,rb⟩:=I.at_ j x q
   exact⟨b,hi _ _ hb,rb.mono hi kt (λy g=>hk _ _ g) λd dx _ _ y g=>hk _ _ g⟩
 ·rcases q with q | q
  ·exact old (I.dict j c d fs l (.inl (L q rfl)))
  ·exact old (I.dict j c d fs l (.inr (L q rfl)))
 ·subst hd
  rcases q with q | q <;> rcases q' with q' | q' <;> exact I.dictOne (L q rfl) (L q' rfl) rfl rfl
theorem make (I:Inv C σ st s) (hn:st'.n=st.n+2)(hl:∀j,st'.look j=if j=st.n+1 then Si o else if j=st.n then Si .hid else st.look j)(hd:bW o=Si st.n)
  (hk:∀b x,s.heap.get? b=Si x->s'.heap.get? b=Si x) (ha:s.heap.get? a=none) (hs:(s'.heap.get? a).isSome=Sk) (hb:C.aa8.get? a=none) (ha':s.heap.get? dx=none) (hs':(s'.heap.get? dx).isSome=Sk) (hb':C.aa8.get? dx=none) (hne:dx≠a)
  (r:OR (σ++[dx,a]) s'.heap o a):Inv C (σ++[dx,a]) st' s':=by
 have out:a∉σ:=λm=>by have:=(I.new a m).2;rw[ha] at this;exact ff this
 have out':dx∉σ:=λm=>by have:=(I.new dx m).2;rw[ha'] at this;exact ff this
 have kt:∀(b:Sx) (vs:Sj Sr) (n:Nat),b∉σ->s.heap.get? b=Si (cK vs n)->b∉σ++[dx,a]/\s'.heap.get? b=Si (cK vs n):=λb vs n m x=>⟨λq=>by
  rcases Tj.mp q with q | q
  ·exact m q
  ·rcases SD.mp q with q | q
   ·rw[q,ha'] at x;exact nomatch x
   ·rw[Sn.mp q,ha] at x;exact(nomatch x),hk b _ x⟩
 have hi:∀(i:Nat) (b:Sx),σ[i]? = Si b->(σ++[dx,a])[i]? = Si b:=λi b e=>by rw[Tp (SJ.mp e).1];exact e
 have old:∀{j:Nat} {x:O},st.look j=Si x->st'.look j=Si x:=λ{j x} e=>by
  have:=I.lt e
  rw[hl,SK (by(exact ktu_ne 1 this)),SK (by(exact SP this))];exact e
 have L:∀{j:Nat} {x:O} {d:Nat},st'.look j=Si x->bW x=Si d->st.look j=Si x\/(j=st.n+1/\d=st.n):=λ{j x d} q h=>by
  rw[hl] at q
  by_cases e:j=st.n+1
  ·rw[SX e] at q;cases q;rw[hd] at h;cases h;exact .inr ⟨e,rfl⟩
  ·rw[SK e] at q
   by_cases e':j=st.n
   ·rw[SX e'] at q;cases q;cases h
   ·rw[SK e'] at q;exact .inl q
 have H:∀{j:Nat} {x:O} {d:Nat},st'.look j=Si x->bW x=Si d->st'.look d=Si .hid:=λ{j x d} q h=>by
  rcases L q h with q | ⟨rfl,rfl⟩
  ·exact old (I.dictHid q h)
  ·rw[hl,SK (by(exact Nat.ne_add_one st.n)),SX rfl]
 have K:∀{j k:Nat} {x y:O} {d:Nat},st'.look j=Si x->st'.look k=Si y->bW x=Si d->bW y=Si d->j=k:=λ{j k x y d} q q' h h'=>by
  rcases L q h with z | ⟨rfl,rfl⟩ <;> rcases L q' h' with z' | ⟨rfl,e⟩
  ·exact I.dictOne z z' h h'
  ·have:=I.lt (I.dictHid z h);lia
  ·have:=I.lt (I.dictHid z' h');lia
  ·rfl
 refine⟨λb x e=>hk b x (I.base b x e),?_,λb m=>?_,by rw[hn,I.n];simp,λj x q=>?_,λj c d fs l q=>?_,λj k c d fs l c' d' fs' l' q q' hd=>?_,dQ I.tabs hi (λj sj=>Safe.of (old sj.1) λk x d q hd=>by
   rcases L q hd with z | ⟨_,rfl⟩
   ·exact sj.dict z hd
   ·exact Tz (I.lt sj.1)) λ_ _ _ _ _ g=>hk _ _ g,λi a o m=>by obtain⟨q1,q2,q3,l,q4⟩:=I.fix i a o m;exact⟨q1,hi _ _ q2,hk _ _ q3,l,old q4⟩⟩
 ·rw[Vq]
  refine⟨I.nodup,by simp[hne],λb m c m' e=>?_⟩
  subst e
  rcases SD.mp m' with q | q
  ·exact out' (q▸m)
  ·exact out (Sn.mp q▸m)
 ·rcases Tj.mp m with m | m
  ·exact⟨(I.new b m).1,by obtain⟨o,e⟩:=S7.mp (I.new b m).2;rw[hk _ _ e];rfl⟩
  ·rcases SD.mp m with q | q
   ·rw[q];exact⟨hb',hs'⟩
   ·rw[Sn.mp q];exact⟨hb,hs⟩
 ·rw[hl] at q
  by_cases e:j=st.n+1
  ·rw[SX e] at q
   cases q
   exact⟨a,by rw[e,I.n,T5 (by(exact Td σ.length 1))];simp,r⟩
  ·rw[SK e] at q
   by_cases e':j=st.n
   ·rw[SX e'] at q
    cases q
    exact⟨dx,by rw[e',I.n];simp,trivial⟩
   ·rw[SK e'] at q
    obtain⟨b,hb,rb⟩:=I.at_ j x q
    exact⟨b,hi _ _ hb,rb.mono hi kt (λy g=>hk _ _ g) λd dx _ _ y g=>hk _ _ g⟩
 ·rcases q with q | q <;> exact H q rfl
 ·subst hd
  rcases q with q | q <;> rcases q' with q' | q' <;> exact K q q' rfl rfl
end Inv
section
variable {C:Cfg}{fx:Fx}{d:Nat}{A:Around}{env:Env}{σ σ1:List Addr}{fm:Fm}{st:St}{s aaV:Shared}
theorem Out.trans {W:Sj Sx} (x:Step W σ s σ1 aaV)(y:Out C W σ1 aaV k u s'):Out C W σ s k u s':=by
 obtain⟨σ',v,st',a,b,c,e⟩:=y
 exact⟨σ',v,st',x.trans a,b,c,e⟩
theorem OutB.trans {k:Sm->St->Sm}{u:Sm} (x:Step [] σ s σ1 aaV)(y:OutB C σ1 aaV k u s'):OutB C σ s k u s':=by
 obtain⟨σ',st',a,b,e⟩:=y
 exact⟨σ',st',x.trans a,b,e⟩
theorem OutS.trans {k:Fl->Fm->St->Sm}{f:Flow} (x:Step [env.locals] σ s σ1 aaV)(y:OutS C fx env σ1 aaV k f s'):OutS C fx env σ s k f s':=by
 obtain⟨σ',fl,fm',st',a,b,c,r,e⟩:=y
 exact⟨σ',fl,fm',st',x.trans a,b,c,r,e⟩
theorem OutG.trans {k:Fm->St->Sm}{f:Unit} (x:Step [env.locals] σ s σ1 aaV)(y:OutG C fx env σ1 aaV k f s'):OutG C fx env σ s k f s':=by
 obtain⟨σ',fm',st',a,b,c,e⟩:=y
 exact⟨σ',fm',st',x.trans a,b,c,e⟩
theorem Step.up {W:Sj Sx}(x:Step [] σ s σ1 aaV):Step W σ s σ1 aaV:=x.more λ_ h=>nomatch h
theorem Step.fr0 (x:Step [] σ s σ1 aaV)(F:FrR C fx env fm σ s):FrR C fx env fm σ1 aaV:=x.fr .nil (λh=>nomatch h) F
theorem Step.toks (t:Nat):Step [] σ s σ { s with toks:=t }:=⟨⟨[],by simp,λ_ h=>nomatch h⟩,λ_ _ _ _ e=>e,rfl,λh=>h⟩
theorem Inv.toks (I:Inv C σ st s)(t:Nat):Inv C σ st { s with toks:=t }:=I.grow (λ_ _ e=>e)
theorem FrR.toks (F:FrR C fx env fm σ s)(t:Nat):FrR C fx env fm σ { s with toks:=t }:=(Step.toks t).fr0 F
theorem cQ (I:Inv C σ st s)(t:Nat)(r:VR σ s.heap v u)(h:k v st=Sk):Out C [] σ s k u { s with toks:=t }:=
 ⟨σ,v,st,Step.toks t,I.toks t,r,h⟩
theorem aw {t:Sem Sr} (h:fZ C A t σ s k)
  (g:∀σ' v st' u s',Step [] σ s σ' s'->Inv C σ' st' s'->VR σ' s'.heap v u->k v st'=Sk->Q u s'):Ss C.M A t Q E s:=
 Sq h (λu s' ⟨σ',v,st',a,b,c,e⟩=>g σ' v st' u s' a b c e) λ_ _ e=>e.elim
theorem Fx.ok_ln (h:fx.ok=Sk) (m:x∈fx.ln):(x == ("__debug__":Str))=dV:=by
 simp only[Fx.ok,Ta] at h
 have:=Te.mp h.1.1.2 x m
 simpa using this
theorem Fx.ok_cn (h:fx.ok=Sk) (m:x∈fx.cn):(x == ("__debug__":Str))=dV/\(x == ("__classdict__":Str))=dV:=by
 simp only[Fx.ok,Ta] at h
 have:=Te.mp h.1.2 x m
 simpa using this
theorem Fx.ok_gn (h:fx.ok=Sk) (m:x∈fx.gn):(x == ("__debug__":Str))=dV:=by
 simp only[Fx.ok,Ta] at h
 have:=Te.mp h.2 x m
 simpa using this
theorem Fx.ok_nd (h:fx.ok=Sk):fx.ln.Nodup:=by
 simp only[Fx.ok,Ta] at h
 exact S8 h.1.1.1
theorem zD {c:Sm} {k:V->Sm}(h:fO c i fm st k=Sk) :
  ∃v,k v=Sk/\((c=dV/\fm.loc[i]? = Si (Si v))\/(c=Sk/\∃n,fm.cel[i]? = Si n/\st.look n=Si (.cell (Si v)))):=by
 induction c with
 | false=>
  refine gJ h λx e h=>?_
  refine gz h λv e81 h=>?_;subst e81
  exact⟨v,h,.inl ⟨rfl,e⟩⟩
 | true=>
  refine gJ h λn e h=>?_
  refine St.get_e h λo e' h=>?_
  refine g9 h λw e81 h=>?_;subst e81
  refine gz h λv e81 h=>?_;subst e81
  exact⟨v,h,.inr ⟨rfl,n,e,e'⟩⟩
noncomputable def gU (fx:Fx)(c:Sm)(i:Nat):SV Str:=match c with | false=>fx.ln[i]? | true=>fx.cn[i]?
theorem rN {c:Sm} (hx:gU fx c i=Si x)(hok:fx.ok=Sk)(E:ba fx env)(I:Inv C σ st s)(F:FrR C fx env fm σ s)(h:fO c i fm st (λv=>k v st)=Sk) :
  fZ C A (loadName env x) σ s k:=by
 refine aE (zD h) λv hv q=>?_
 rcases q with ⟨rfl,e⟩ | ⟨rfl,n,e,e'⟩
 ·refine aE (F.ns) λm hn hm=>?_
  refine aE (hm i x v hx e) λu hu r=>?_
  exact T8 E.kind (E.ln x (Su hx)) hn hu ⟨σ,v,st,.refl,I,r,hv⟩
 ·refine gw (F.cel i n e) λy a h1 h2 h3=>?_
  have:y=x:=Si.inj (h1.symm.trans hx)
  subst this
  obtain⟨b,hb,u,hc,r⟩:=I.at_ n _ e'
  have:b=a:=Si.inj (hb.symm.trans h3)
  subst this
  have o:=(Fx.ok_cn hok (Su hx)).2
  rcases E.cn y (Su hx) with z | z
  ·exact wpAny_loadName_cell E.kind z h2 hc ⟨σ,v,st,.refl,I,r,hv⟩
  ·exact wpAny_loadName_free E.kind z h2 hc ⟨σ,v,st,.refl,I,r,hv⟩ o
theorem cD {c:Sm} (hx:gU fx c i=Si x)(hok:fx.ok=Sk):SE C fx d (.Name x pos) (aa c i):=by
 intro A env σ fm st s k _ E I F h
 refine V0 (rN hx hok E I F h) ?_
 induction c with
 | false=>exact Fx.ok_ln hok (Su hx)
 | true=>exact(Fx.ok_cn hok (Su hx)).1
theorem am {i:Int}{kk:Nat}:SE C fx d (.Constant (.int i) kk pos) (ao (.int i)):=by
 intro A env σ fm st s k _ _ I _ h
 exact Wt (cQ I _ (.int i _) h)
theorem Dm {kk:Nat}:SE C fx d (.Constant .none kk pos) (ao .none):=by
 intro A env σ fm st s k _ _ I _ h
 exact XE (cQ I s.toks .none h)
theorem cu {b:Sm}{kk:Nat}:SE C fx d (.Constant (.bool b) kk pos) (ao (.bool b)):=by
 intro A env σ fm st s k _ _ I _ h
 exact XF (cQ I s.toks (.bool b) h)
theorem jc {l:Sj Nat}{kk:Nat} (hx:x=⟨l.toArray⟩):SE C fx d (.Constant (.str x) kk pos) (ao (.str l)):=by
 intro A env σ fm st s k _ _ I _ h
 subst hx
 exact Constant_str (cQ I _ (.str l _) h)
def A9 (C:Cfg)(t:Sr->Sr->Sem Sr)(op:OP):Prop:=
 ∀(A:Ue) (σ:Sj Sx) (st:St) (s:Sw) (k:V->St->Sm) (x y:V) (u v:Sr),Rm 0 A->Inv C σ st s->VR σ s.heap x u->VR σ s.heap y v->op x y st k=Sk->fZ C A (t u v) σ s k
theorem aj {a b:Expr} {o:Operator} (hop:A9 C (Yt o) op)(ha:SE C fx d a ca)(hb:SE C fx d b cb):SE C fx d (.BinOp a o b pos) (aA op ca cb):=by
 intro A env σ fm st s k R E I F h
 refine wpAny_BinOp (aw (ha A env σ fm st s _ R E I F h) λσ1 x st1 u aaV aaZ aa1 aa4 aaX=>?_)
 refine aw (hb A env σ1 fm st1 aaV _ R E aa1 (aaZ.fr0 F) aaX) λσ2 y st2 v aaW aa6 aa9 aba aa7=>?_
 exact Sq (hop A σ2 st2 aaW k x y u v (R.le (Th _)) aa9 (aa6.vr .nil aa4) aba aa7) (λ_ _ o=>o.trans (aaZ.trans aa6)) λ_ _ e=>e
end
section
variable {C:Cfg}{fx:Fx}{d:Nat}{A:Around}{env:Env}{σ σ1:List Addr}{fm:Fm}{st:St}{s aaV:Shared}
theorem rT {k:Sj V->Sm}(h:bh st n k=Sk):∃l,st.look n=Si (.list l)/\k l=Sk:=by
 refine St.get_e h λo e h=>?_
 refine su h λl e81 h=>?_;subst e81
 exact⟨l,e,h⟩
theorem bC {P:Prop} {k:Sj V->Sm}(h:bh st n k=Sk)(H:∀l,st.look n=Si (.list l)->k l=Sk->P):P:=uF (rT h) H
theorem Inv.list (I:Inv C σ st s) (e:st.look n=Si (.list l))(h:σ[n]? = Si a):Rh σ s.heap l a:=by
 obtain⟨b,hb,vs,m,g,r⟩:=I.at_ n _ e
 have:b=a:=Si.inj (hb.symm.trans h)
 subst this
 exact⟨vs,m,g,r⟩
theorem bD (I:Inv C σ st s){a:Sx}(h:s.heap.objs.size<=a):C.aa8.get? a=none:=by
 cases q:C.aa8.get? a with
 | none=>rfl
 | some o=>exact Tc (Heap.lt_size (I.base a o q)) (Uo.mpr h)
theorem bu {o:Obj}:∀b x,h.get? b=Si x->(h.push o).get? b=Si x:=λ_ _ e=>Heap.get?_push_of_some _ e
theorem Step.pushed {o:Obj}{t:Nat}:Step [] σ s σ { s with heap:=s.heap.push o,toks:=t }:=
 ⟨⟨[],by simp,λ_ h=>nomatch h⟩,λb x _ _ e=>bu b x e,rfl,λh=>h⟩
theorem Inv.pushed (I:Inv C σ st s){o:Obj}{t:Nat}:Inv C σ st { s with heap:=s.heap.push o,toks:=t }:=I.grow (λb x e=>bu b x e)
theorem VRs.pushed {o:Obj}(r:VRs σ h l vs):VRs σ (h.push o) l vs:=r.mono (λ_ _ e=>e) λ_ _ _ m e=>⟨m,bu _ _ e⟩
theorem VRs.named (r:VRs σ h l vs)(ha:h.get? a=none):VRs (σ++[a]) h l vs:=
 r.mono (λi b e=>by rw[Tp (SJ.mp e).1];exact e) λb _ _ m e=>by
  refine⟨λq=>?_,e⟩
  rcases Tj.mp q with q | q
  ·exact m q
  ·rw[Sn.mp q,ha] at e
   exact iq e
theorem gk {t:Nat}(I:Inv C σ st s)(r:VRs σ s.heap l vs)(h:st.push (.list l) (λn st=>k (.ref n) st)=Sk) :
  Out C [] σ s k (.ref s.heap.objs.size) { s with heap:=s.heap.push (cB vs n),toks:=t }:=by
 refine St.push_e h λst' e1 e2 h=>?_
 have none_:s.heap.get? s.heap.objs.size=none:=by
  cases q:s.heap.get? s.heap.objs.size with
  | none=>rfl
  | some o=>exact Tc (Heap.lt_size q) (Tq _)
 have hn:(σ++[s.heap.objs.size])[st.n]? = Si s.heap.objs.size:=by rw[I.n];simp
 refine⟨σ++[s.heap.objs.size],.ref st.n,st',⟨⟨[s.heap.objs.size],rfl,λa m=>by rw[Sn.mp m];exact⟨λq=>(by have:=(I.new _ q).2;rw[none_] at this;exact(nomatch this)),.inl none_⟩⟩,λb x _ _ e=>bu b x e,rfl,λh=>h⟩,
  I.push (s':={ s with heap:=s.heap.push (cB vs n),toks:=t }) e1 e2 rfl (λb x e=>bu b x e) none_ (by rw[Heap.get?_push_size _ rfl];rfl) (bD I (SW _)) ⟨vs,n,Heap.get?_push_size _ rfl,?_⟩,.ref hn,h⟩
 exact(r.named none_).pushed
theorem aF:A9 C (Yt .Add) aQ:=by
 intro A σ st s k x y u v R I rx ry h
 induction rx using VR.cases_e with
 | int i t=>
  refine aO h λj e81 h1=>?_;subst e81
  refine VR.int_e ry λ_=>?_
  rw[eU] at h1
  exact PySem.P.add_int (cQ I _ (.int _ _) h1)
 | str l t=>
  refine dh h λq e81 h1=>?_;subst e81
  refine VR.str_e ry λ_=>?_
  refine aM h1 λhz h2=>?_
  have hz:=bU hz
  rw[aC,aC] at hz
  rw[bf] at h2
  refine PyProof.Rows.add_str (λt' tk=>?_) ?_
  ·have e:((⟨l.toArray⟩:Str)++(⟨q.toArray⟩:Str))=⟨(l++q).toArray⟩:=by show Str.mk (l.toArray++q.toArray)=_;simp
   rw[e]
   exact cQ I tk (.str _ _) h2
  ·show l.toArray.size+q.toArray.size<=_
   rw[Vc,Sy,Sy]
   have:l.length+q.length<=4095:=hz
   lia
 | ref e=>
  refine bN h λj e81 h1=>?_;subst e81
  refine bC h1 λl hl h2=>?_;clear h1
  refine bC h2 λq hq h3=>?_;clear h2
  refine aM h3 λhz h4=>?_;clear h3
  have hz:=bU hz
  rw[aC,aC] at hz
  rw[bf] at h4
  refine VR.ref_e ry λ_ e'=>?_
  obtain⟨vs,m,g,r⟩:=I.list hl e
  obtain⟨us,m',g',r'⟩:=I.list hq e'
  have hz':l.length+q.length<=4095:=hz
  refine PySem.P.add_list g g' ?_ ?_
  ·have e:vs.toArray++us.toArray=(vs++us).toArray:=by simp
   rw[e]
   exact gk (t:=s.toks) I (r.append r') h4
  ·rw[Vc,Sy,Sy,r.length,r'.length];lia
 | none=>exact ff h
 | bool=>exact ff h
 | tup=>exact ff h
theorem bV:A9 C (Yt .Sub) cf:=by
 intro A σ st s k x y u v R I rx ry h
 refine aO h λi e81 h1=>?_;clear h;subst e81
 refine aO h1 λj e81 h2=>?_;clear h1;subst e81
 refine VR.int_e rx λ_=>?_;refine VR.int_e ry λ_=>?_
 rw[ey] at h2
 exact PySem.P.sub_int (cQ I _ (.int _ _) h2)
theorem dv:A9 C (Yt .Mod) ef:=by
 intro A σ st s k x y u v R I rx ry h
 refine aO h λi e81 h1=>?_;clear h;subst e81
 refine aO h1 λj e81 h2=>?_;clear h1;subst e81
 refine VR.int_e rx λ_=>?_;refine VR.int_e ry λ_=>?_
 refine aM h2 λhs h3=>?_;clear h2
 refine IN h3 λhz h4=>?_;clear h3
 rw[qo] at h4
 rw[dt] at hz
 exact mod_int_or R.handled (λe=>Tc e (of_decide_eq_false hz)) λ_=>cQ I _ (.int _ _) h4
theorem w2:A9 C (Yt .FloorDiv) Cm:=by
 intro A σ st s k x y u v R I rx ry h
 refine aO h λi e81 h1=>?_;clear h;subst e81
 refine aO h1 λj e81 h2=>?_;clear h1;subst e81
 refine VR.int_e rx λ_=>?_;refine VR.int_e ry λ_=>?_
 refine aM h2 λhs h3=>?_;clear h2
 refine aM h3 λh5 h3=>?_
 refine aM h3 λh6 h4=>?_;clear h3
 rw[Dd] at h4
 rw[gx] at h5 h6
 have h5:=S8 h5
 have h6:=S8 h6
 have:=dg hs
 exact PyProof.Rows.floordiv_int (by lia) (cQ I _ (.int _ _) h4) (.inl (YJ (by omega)))
theorem El:A9 C (Yt .Pow) ED:=by
 intro A σ st s k x y u v R I rx ry h
 refine aO h λi e81 h1=>?_;clear h;subst e81
 refine aO h1 λj e81 h2=>?_;clear h1;subst e81
 refine VR.int_e rx λ_=>?_;refine VR.int_e ry λ_=>?_
 refine aM h2 λhx h3=>?_;clear h2
 refine aM h3 λhy h4=>?_;clear h3
 rw[dt] at hx hy
 have hx:=S8 hx
 have hy:=S8 hy
 subst hx hy
 exact PyProof.Rows.pow_int (by decide) (by decide +kernel) (cQ I _ (.int _ _) h4)
theorem jz (x:Sj α)(n:Nat)(acc:Array α):(Sv n x.toArray).foldl (λa b=>a++b) acc=(acc.toList++(Sv n x).flatten).toArray:=by
 induction n generalizing acc with
 | zero=>simp
 | succ n ih=>rw[TN,Sj.foldl_cons,ih,TN,TJ];simp
theorem VRs.rep (r:VRs σ h l vs)(n:Nat):VRs σ h (Sv n l).flatten (Sv n vs).flatten:=by
 induction n with
 | zero=>exact .nil
 | succ n ih=>rw[TN,TJ,TN,TJ];exact r.append ih
theorem uh {j:Int}(h:-1152921504606846976<j/\j<1152921504606846976):-9223372036854775808<=j/\j<9223372036854775808:=⟨YK (by decide) (Wa h.1),XJ h.2 (by decide)⟩
theorem AU {j:Int}(h:0<j)(hz:n*j.toNat<=4095):¬(n:Int)>(2 ^ 63 - 1) / j:=by
 refine XQ.mpr (Int.le_ediv_of_mul_le h ?_)
 have e:(n:Int)*j=((n*j.toNat:Nat):Int):=by rw[Int.natCast_mul,ZK (Wa h)]
 rw[e];exact YK (aac.mpr hz) (by decide)
theorem bq:A9 C (Yt .Mult) bJ:=by
 intro A σ st s k x y u v R I rx ry h
 induction rx using VR.cases_e with
 | int i t=>
  refine aO h λj e81 h1=>?_;subst e81
  refine VR.int_e ry λ_=>?_
  refine aM h1 λhs h3=>?_
  refine aM h3 λhs' h4=>?_
  rw[Ew] at h4
  exact PySem.P.mul_int (cQ I _ (.int _ _) h4) (PySem.IntMulOk.of_left (PySem.intBits_le_64 (XJ (by decide) (dg hs).1) (XJ (dg hs).2 (by decide))))
 | str l t=>
  refine aO h λj e81 h1=>?_;subst e81
  refine VR.int_e ry λ_=>?_
  refine aM h1 λhs' h3=>?_
  refine aM h3 λhz h4=>?_
  have hs':=dg hs'
  have hz:l.length*j.toNat<=4095:=by have:=bU hz;rw[aC,gH] at this;exact this
  rw[gC,gH] at h4
  have hlen:(⟨l.toArray⟩:Str).length=l.length:=Sy
  refine SB.mul ⟨?_,λh1 _=>?_,λ_ _=>?_⟩ λt' tk=>?_
  ·simp;exact uh hs'
  ·rw[hlen]
   exact AU (XQ.mp h1) hz
  ·rw[hlen]
   show decide (l.length*j.toNat>U0)=dV
   rw[Vc]
   exact Tt (Uo.mpr (So hz (bo rfl)))
  ·have e:Txt.mul ⟨l.toArray⟩ j=⟨((Sv j.toNat l).flatten).toArray⟩:=by
    unfold Txt.mul
    by_cases h1:j<1
    ·rw[SX h1,ZL (Int.le_of_lt_add_one h1)];rfl
    ·rw[SK h1]
     by_cases h2:(j == 1 || (⟨l.toArray⟩:Str).length == 0)=Sk
     ·rw[SX h2]
      rw[hlen] at h2
      simp only[Sm.or_eq_true,beq_iff_eq] at h2
      rcases h2 with rfl | h2
      ·simp
      ·have:l=[]:=Wx.mp h2
       subst this;simp
     ·rw[SK h2,jz];simp
   rw[e]
   exact cQ I tk (.str _ _) h4
 | ref e=>
  refine aO h λj e81 h1=>?_;subst e81
  refine VR.int_e ry λ_=>?_
  refine bC h1 λl hl h2=>?_;clear h1
  refine aM h2 λhs' h3=>?_;clear h2
  refine aM h3 λhz h4=>?_;clear h3
  have hs':=dg hs'
  have hz:l.length*j.toNat<=4095:=by have:=bU hz;rw[aC,gH] at this;exact this
  rw[gC,gH] at h4
  obtain⟨vs,m,g,r⟩:=I.list hl e
  have hlen:=r.length
  have hz2:vs.toArray.size*j.toNat<=2 ^ 24:=by rw[Sy,hlen];exact So hz (bo rfl)
  refine wpAny_binaryOp_repeat_ref (T:="list") (U:="int") (by decide) ⟨_,g,rfl⟩ (λs'=>Xa s' j _) PySem.noFill_list_mul F.fills_int_mul F.slot_int_rmul PySem.repeat_list F.slot_int_index.lookup
   (Wu F.slot_int_rmul (Xa s j _) F.entry_int_rmul (F.args_int_rmul_2 _ _) (int___rmul___int_list j _ _ vs.toArray m)
    ⟨g,rfl,⟨_,g,rfl⟩,Wu F.slot_list_mul ⟨_,g,rfl⟩ F.entry_list_mul (F.args_list_mul_2 _ _)
     (AutoListH.list___mul___list_int_3 _ vs.toArray m j _ (by simp[UJ];exact uh hs') (Uo.mpr (So hz2 (bo rfl))) (by simp[Builtin.List.listTooLong,U0];rw[hlen];exact So hz (bo rfl)))
     ⟨g,?_⟩⟩)
  have e':Sj.foldl (λx1 x2=>x1++x2) #[] (Sv (if vs.toArray.isEmpty=Sk then 0 else j.toNat) vs.toArray)=((Sv j.toNat vs).flatten).toArray:=by
   induction vs with
   | nil=>simp
   | cons x r=>rw[SK (by simp),jz];simp
  have o:=gk (t:=s.toks) (n:=0) I (r.rep j.toNat) h4
  simp only[cB] at o
  rw[←e'] at o
  exact o
 | none=>exact ff h
 | bool=>exact ff h
 | tup=>exact ff h
end
section
variable {C:Cfg}{fx:Fx}{d:Nat}{A:Around}{env:Env}{σ σ1:List Addr}{fm:Fm}{st:St}{s aaV:Shared}
theorem u7 {f:Vi->Vi->(Sm->Sm)->Sm}(hf:∀a b k,f a b k=Sk->k (Wv a b)=Sk):∀(l q:Sj Vi)(k:Sm->Sm),xW f l q k=Sk->k (Xk l q)=Sk
 | [],[],k,h=>by rw[Xk];exact h
 | [],_::_,k,h=>by rw[Xk];exact h
 | _::_,[],k,h=>by rw[Xk];exact h
 | a::l,b::q,k,h=>by
  have h':f a b (λc=>aD c (xW f l q k) (k dV))=Sk:=h
  have h2:=hf _ _ _ h'
  rw[Xk]
  rcases dF h2 with ⟨e,h3⟩ | ⟨e,h3⟩
  ·rw[e,Wi];exact u7 hf l q k h3
  ·rw[e,WE];exact h3
theorem xr:∀(n:Nat)(a b:Vi)(k:Sm->Sm),I9 n a b k=Sk->k (Wv a b)=Sk
 | 0,_,_,_,h=>by exact ff h
 | n+1,a,b,k,h=>by
  cases a with
  | none=>cases b <;> first | (rw[Wv];exact h) | exact ff h
  | bool x=>
   cases b with
   | bool y=>
    rw[Wv]
    have h':k (@Ti (λ_=>Sm) (ee y) y x)=Sk:=h
    induction x <;> induction y <;> exact h'
   | _=>exact ff h
  | int x=>
   cases b with
   | int y=>
    rw[Wv]
    have h':k (jf x y)=Sk:=h
    rw[dt] at h'
    rw[show(x == y)=decide (x=y) from by by_cases e:x=y <;> simp[e]];exact h'
   | _=>exact ff h
  | str x=>
   cases b with
   | str y=>
    rw[Wv]
    have h':k (CV x.cps.toList y.cps.toList)=Sk:=h
    rw[vB] at h'
    have e:(x == y)=decide (x.cps.toList=y.cps.toList):=by
     by_cases e:x=y
     ·subst e;simp
     ·rw[show(x == y)=dV from beq_eq_false_iff_ne.mpr e,Tt]
      intro q
      exact e (by obtain⟨a⟩:=x;obtain⟨b⟩:=y;simp only at q;rw[Array.toList_inj.mp q])
    rw[e];exact h'
   | _=>exact ff h
  | list x=>
   cases b with
   | list y=>rw[Wv];exact u7 (xr n) x y k h
   | _=>exact ff h
  | tuple x=>
   cases b with
   | tuple y=>rw[Wv];exact u7 (xr n) x y k h
   | _=>exact ff h
  | dict=>exact ff h
theorem jJ {f:V->(Vi->Sm)->Sm} (hf:∀v u k,VR σ h v u->f v k=Sk->∃x,k x=Sk/\(∃as,Reads h u x as)/\x.canLay0=Sk/\x.depth<=m) :
  ∀(l:Sj V) (us:Sj Sr) (k:Sj Vi->Sm),VRs σ h l us->d7 f l k=Sk->∃xs,k xs=Sk/\(∃as,ReadsAll h us xs as)/\Ye xs=Sk/\YY xs<=m
 | [],us,k,r,e=>by refine VRs.nil_e r ?_;exact⟨[],e,⟨_,.nil⟩,by simp[Ye],by simp[YY]⟩
 | v::l,us,k,r,e=>by
  refine VRs.cons_e r λ_ _ a b=>?_
  refine fC (hf _ _ _ a e) λx h1 h82 h3 h4=>?_;obtain⟨as,h2⟩:=h82
  refine fC (jJ hf l _ _ b h1) λxs g1 h82 g3 g4=>?_;obtain⟨bs,g2⟩:=h82
  exact⟨x::xs,g1,⟨_,.cons h2 g2⟩,by simp[Ye,h3,g3],by simp[YY];(exact Nat.max_le_of_le_of_le h4 g4)⟩
theorem fV (I:Inv C σ st s):∀(n:Nat)(v:V)(u:Sr)(k:Vi->Sm),VR σ s.heap v u->fe st n v k=Sk->∃x,k x=Sk/\(∃as,Reads s.heap u x as)/\x.canLay0=Sk/\x.depth<=n
 | n,.none,_,k,r,h=>by refine VR.none_e r ?_;exact⟨.none,by induction n <;> exact h,⟨_,.none⟩,by simp[V1],by simp[WG]⟩
 | n,.bool b,_,k,r,h=>by refine VR.bool_e r ?_;exact⟨.bool b,by induction n <;> exact h,⟨_,.bool b⟩,by simp[V1],by simp[WG]⟩
 | n,.int i,_,k,r,h=>by refine VR.int_e r λ_=>?_;exact⟨.int i,by induction n <;> exact h,⟨_,.int i _⟩,by simp[V1],by simp[WG]⟩
 | n,.str l,_,k,r,h=>by
  refine VR.str_e r λ_=>?_
  have h':aD (gv (λc=>SZ c 1114111) l) (k (.str ⟨l.toArray⟩)) dV=Sk:=by induction n <;> exact h
  refine aM h' λe h2=>?_;clear h'
  refine⟨.str ⟨l.toArray⟩,h2,⟨_,.str _ _⟩,?_,by simp[WG]⟩
  rw[po] at e
  simp only[V1,Vi.strOk]
  simp only[Te] at e
  simp only[Yu,Te,decide_eq_true_eq]
  intro c hc
  have:=Sp (e c hc)
  (exact Ul this)
 | 0,.ref a,_,k,_,h=>by exact ff h
 | 0,.tup l,_,k,_,h=>by exact ff h
 | n+1,.ref a,_,k,r,h=>by
  refine VR.ref_e r λ_ e=>?_
  refine St.get_e h λo ho h2=>?_
  refine su h2 λl e81 h3=>?_;clear h2;subst e81
  obtain⟨vs,m,g,q⟩:=I.list ho e
  refine fC (jJ (m:=n) (λv u k r h=>fV I n v u k r h) l vs _ q h3) λxs g1 h82 g3 g4=>?_;obtain⟨bs,g2⟩:=h82
  exact⟨.list xs,g1,⟨_,reads_list_at g rfl rfl g2⟩,by simpa[V1] using g3,by simp[WG];(exact Yv.mp g4)⟩
 | n+1,.tup l,_,k,r,h=>by
  refine VR.tup_e r λ_ _ _ e _ q=>?_
  refine fC (jJ (m:=n) (λv u k r h=>fV I n v u k r h) l _ _ q h) λxs g1 h82 g3 g4=>?_;obtain⟨bs,g2⟩:=h82
  exact⟨.tuple xs,g1,⟨_,reads_tuple_at e rfl rfl g2⟩,by simpa[V1] using g3,by simp[WG];(exact Yv.mp g4)⟩
def yY (C:Cfg)(o:CmpOp)(op:CP):Prop:=
 ∀(A:Ue) (σ:Sj Sx) (st:St) (s:Sw) (k:Sm->Sm) (x y:V) (u v:Sr),Rm 0 A->Inv C σ st s->VR σ s.heap x u->VR σ s.heap y v->op x y st k=Sk ->
  Ss C.M A (compareOp o u v) (λc s'=>∃b t,c=.bool b/\k b=Sk/\s'={ s with toks:=t }) cM s
theorem tW {x y:V}{v:Sr}{k:Sm->Sm}(R:Rm 0 A)(I:Inv C σ st s)(rx:VR σ s.heap x u)(ry:VR σ s.heap y v)(h:Ed st x y k=Sk) :
  Ss C.M A (compareOp .Eq u v) (λc s'=>∃b t,c=.bool b/\k b=Sk/\s'={ s with toks:=t }) cM s:=by
 refine fC (fV I 5 x u _ rx h) λa h1 h82 la da=>?_;obtain⟨as,ra⟩:=h82
 refine fC (fV I 5 y v _ ry h1) λb h2 h82 lb db=>?_;obtain⟨bs,rb⟩:=h82
 have h3:=xr _ _ _ _ h2
 refine eq_dataH ra rb (by unfold SeqAt.shaped;rw[la,Wi];exact Tu (by lia)) (by unfold SeqAt.shaped;rw[lb,Wi];exact Tu (by lia)) ?_ ⟨_,s.toks,rfl,h3,rfl⟩
 have:=R.units;show A.units+64<9900;lia
theorem ph {x y:V}{v:Sr}{k:Sm->Sm}(R:Rm 0 A)(I:Inv C σ st s)(rx:VR σ s.heap x u)(ry:VR σ s.heap y v)(h:Ed st x y (λc=>k (ee c))=Sk) :
  Ss C.M A (compareOp .NotEq u v) (λc s'=>∃b t,c=.bool b/\k b=Sk/\s'={ s with toks:=t }) cM s:=by
 refine fC (fV I 5 x u _ rx h) λa h1 h82 la da=>?_;obtain⟨as,ra⟩:=h82
 refine fC (fV I 5 y v _ ry h1) λb h2 h82 lb db=>?_;obtain⟨bs,rb⟩:=h82
 have h3:=xr _ _ _ _ h2
 rw[fJ] at h3
 refine ne_dataH ra rb (by unfold SeqAt.shaped;rw[la,Wi];exact Tu (by lia)) (by unfold SeqAt.shaped;rw[lb,Wi];exact Tu (by lia)) ?_ ⟨_,s.toks,rfl,h3,rfl⟩
 have:=R.units;show A.units+64<9900;lia
theorem iz [DecidableEq α] (a b:α):(a == b)=decide (a=b):=by by_cases e:a=b <;> simp[e]
theorem qU (a b:Sj Nat):@BEq.beq (Sj Nat) instBEqOfDecidableEq a b=@BEq.beq (Sj Nat) Sj.instBEq a b:=by
 by_cases e:a=b
 ·subst e;simp
 ·rw[iz,Tt e];exact(beq_eq_false_iff_ne.mpr e).symm
theorem dZ:yY C .Eq ix:=by
 intro A σ st s k x y u v R I rx ry h
 induction rx using VR.cases_e with
 | int i t=>
  refine aO h λj e81 h1=>?_;subst e81
  refine VR.int_e ry λ_=>?_
  rw[dt,←iz] at h1
  exact Zf ⟨_,s.toks,rfl,h1,rfl⟩
 | str l t=>
  refine dh h λj e81 h1=>?_;subst e81
  refine VR.str_e ry λ_=>?_
  rw[vB,←iz] at h1
  rw[qU] at h1
  exact PySem.P.eq_str ⟨_,s.toks,rfl,h1,rfl⟩
 | ref e=>refine aE (jF h) λj e81 h1=>?_;subst e81;exact tW R I (.ref e) ry h1
 | tup e n q=>refine aE (lm h) λj e81 h1=>?_;subst e81;exact tW R I (.tup e n q) ry h1
 | none=>exact ff h
 | bool=>exact ff h
theorem eK:yY C .NotEq kL:=by
 intro A σ st s k x y u v R I rx ry h
 induction rx using VR.cases_e with
 | int i t=>
  refine aO h λj e81 h1=>?_;subst e81
  refine VR.int_e ry λ_=>?_
  have h1:k (ee (jf i j))=Sk:=h1
  rw[dt,←iz,fJ] at h1
  exact PySem.P.ne_int ⟨_,s.toks,rfl,h1,rfl⟩
 | str l t=>
  refine dh h λj e81 h1=>?_;subst e81
  refine VR.str_e ry λ_=>?_
  have h1:k (ee (CV l j))=Sk:=h1
  rw[vB,←iz,fJ,qU] at h1
  exact PySem.P.ne_str ⟨_,s.toks,rfl,h1,rfl⟩
 | ref e=>refine aE (jF h) λj e81 h1=>?_;subst e81;exact ph R I (.ref e) ry h1
 | tup e n q=>refine aE (lm h) λj e81 h1=>?_;subst e81;exact ph R I (.tup e n q) ry h1
 | none=>exact ff h
 | bool=>exact ff h
theorem Bg:yY C .Lt JD:=by
 intro A σ st s k x y u v R I rx ry h
 refine aO h λi e81 h1=>?_;clear h;subst e81
 refine aO h1 λj e81 h2=>?_;clear h1;subst e81
 refine VR.int_e rx λ_=>?_;refine VR.int_e ry λ_=>?_
 rw[j7] at h2
 exact PySem.P.lt_int ⟨_,s.toks,rfl,h2,rfl⟩
theorem zC:yY C .LtE Oq:=by
 intro A σ st s k x y u v R I rx ry h
 refine aO h λi e81 h1=>?_;clear h;subst e81
 refine aO h1 λj e81 h2=>?_;clear h1;subst e81
 refine VR.int_e rx λ_=>?_;refine VR.int_e ry λ_=>?_
 rw[gx] at h2
 exact PySem.P.le_int ⟨_,s.toks,rfl,h2,rfl⟩
theorem qq:yY C .Gt C9:=by
 intro A σ st s k x y u v R I rx ry h
 refine aO h λi e81 h1=>?_;clear h;subst e81
 refine aO h1 λj e81 h2=>?_;clear h1;subst e81
 refine VR.int_e rx λ_=>?_;refine VR.int_e ry λ_=>?_
 rw[j7] at h2
 exact PySem.P.gt_int ⟨_,s.toks,rfl,h2,rfl⟩
theorem j0:yY C .GtE uG:=by
 intro A σ st s k x y u v R I rx ry h
 refine aO h λi e81 h1=>?_;clear h;subst e81
 refine aO h1 λj e81 h2=>?_;clear h1;subst e81
 refine VR.int_e rx λ_=>?_;refine VR.int_e ry λ_=>?_
 rw[gx] at h2
 exact PySem.P.ge_int ⟨_,s.toks,rfl,h2,rfl⟩
theorem Il:yY C .Is rH:=by
 intro A σ st s k x y u v R I rx ry h
 induction ry using VR.cases_e with
 | none=>
  refine PySem.is_none ⟨_,s.toks,rfl,?_,rfl⟩
  cases rx <;> first | exact h | exact ff h
 | _=>exact ff h
theorem Da:yY C .IsNot HQ:=by
 intro A σ st s k x y u v R I rx ry h
 refine sX h λi e81 h1=>?_;clear h;subst e81
 refine sX h1 λj e81 h2=>?_;clear h1;subst e81
 refine VR.bool_e rx ?_;refine VR.bool_e ry ?_
 refine wpAny_isNot_plain rfl ⟨_,s.toks,rfl,?_,rfl⟩
 induction i <;> induction j <;> exact h2
theorem td (i:Int)(l:Sj Int):iN i l=l.any (· == i):=by
 induction l with
 | nil=>rfl
 | cons j l ih=>
  rw[Sj.any_cons,←ih,show iN i (j::l)=aD (jf i j) Sk (iN i l) from rfl,dt]
  by_cases e:i=j
  ·subst e;simp[aD]
  ·rw[Tt e,show(j == i)=dV from by simpa using λq=>e q.symm];rfl
theorem eI:∀{xs:Sj Int}{vs:Sj Sr},VRs σ h (xs.map V.int) vs->UK vs xs
 | [],_,r=>by refine VRs.nil_e r ?_;exact .nil
 | x::xs,_,r=>by cases r with | cons a b=>refine VR.int_e a λ_=>?_;exact .cons _ _ (eI b)
theorem Gx:yY C .In Ot:=by
 intro A σ st s k x y u v R I rx ry h
 refine aO h λi e81 h1=>?_;clear h;subst e81
 refine bN h1 λn e81 h2=>?_;clear h1;subst e81
 refine bC h2 λl hl h3=>?_;clear h2
 refine kx h3 λxs e81 h4=>?_;clear h3;subst e81
 refine VR.int_e rx λ_=>?_
 refine VR.ref_e ry λ_ e=>?_
 obtain⟨vs,m,g,q⟩:=I.list hl e
 rw[td] at h4
 exact in_list_ints ⟨_,g,rfl,_,rfl⟩ (eI q) ⟨_,s.toks,rfl,h4,rfl⟩
end
section
variable {C:Cfg}{fx:Fx}{d:Nat}{A:Around}{env:Env}{σ σ1:List Addr}{fm:Fm}{st:St}{s aaV:Shared}
theorem iR {a:Expr} (ha:SE C fx d a ca):SE C fx d (.UnaryOp .USub a pos) (qg ca):=by
 intro A env σ fm st s k R E I F h
 refine wpAny_UnaryOp (aw (ha A env σ fm st s _ R E I F h) λσ1 x st1 u aaV aaZ aa1 aa4 aaX=>?_)
 refine aO aaX λi e81 h2=>?_;clear aaX;subst e81
 refine VR.int_e aa4 λ_=>?_
 exact PySem.P.neg_int ((cQ aa1 _ (.int _ _) h2).trans aaZ)
theorem jN {a b:Expr} {o:CmpOp}{op:CP} (hop:yY C o op)(hm:ZR o b=dV)(ha:SE C fx d a ca)(hb:SE C fx d b cb) :
  SE C fx d (.Compare a [o] [b] pos) (qV op ca cb):=by
 intro A env σ fm st s k R E I F h
 refine wpAny_Compare1 (aw (ha A env σ fm st s _ R E I F h) λσ1 x st1 u aaV aaZ aa1 aa4 aaX=>?_) hm
 refine aw (hb A env σ1 fm st1 aaV _ R E aa1 (aaZ.fr0 F) aaX) λσ2 y st2 v aaW aa6 aa9 aba aa7=>?_
 refine Sq (hop A σ2 st2 aaW (λc=>k (.bool c) st2) x y u v (R.le (Th _)) aa9 (aa6.vr .nil aa4) aba aa7) ?_ λ_ _ e=>e
 rintro _ _ ⟨b,t,rfl,hk,rfl⟩
 exact(cQ aa9 t (.bool b) hk).trans (aaZ.trans aa6)
theorem Bc {k:Sm->St->Sm}{b:Sm}(I:Inv C σ st s)(t:Nat)(h:k b st=Sk):OutB C σ s k b { s with toks:=t }:=
 ⟨σ,st,Step.toks t,I.toks t,h⟩
theorem zN {a b:Expr} {o:CmpOp}{op:CP} (hop:yY C o op)(hm:ZR o b=dV)(ha:SE C fx d a ca)(hb:SE C fx d b cb) :
  ST C fx d (.Compare a [o] [b] pos) (bR op ca cb):=by
 intro A env σ fm st s k R E I F h
 refine VS (aw (ha A env σ fm st s _ R E I F h) λσ1 x st1 u aaV aaZ aa1 aa4 aaX=>?_) hm
 refine aw (hb A env σ1 fm st1 aaV _ R E aa1 (aaZ.fr0 F) aaX) λσ2 y st2 v aaW aa6 aa9 aba aa7=>?_
 refine Sq (hop A σ2 st2 aaW (λc=>k c st2) x y u v (R.le (Th _)) aa9 (aa6.vr .nil aa4) aba aa7) ?_ λ_ _ e=>e
 rintro _ _ ⟨b,t,rfl,hk,rfl⟩
 exact UL ((Bc aa9 t hk).trans (aaZ.trans aa6))
theorem IK {a:Expr}{ca:CT} (ha:ST C fx d a ca):ST C fx d (.UnaryOp .Not a pos) (LU ca):=by
 intro A env σ fm st s k R E I F h
 refine wpAny_isTrue_Not (Sq (ha A env σ fm st s _ R E I F h) ?_ λ_ _ e=>e)
 rintro b s' ⟨σ',st',S,I',h'⟩
 exact⟨σ',st',S,I',by rw[←fJ];exact h'⟩
theorem kh {a b:Expr}{ca cb:CT} (ha:ST C fx d a ca)(hb:ST C fx d b cb):ST C fx d (.BoolOp .And [a,b] pos) (pH ca cb):=by
 intro A env σ fm st s k R E I F h
 refine wpAny_isTrue_BoolOp (YL (Sq (ha A env σ fm st s _ R E I F h) ?_ λ_ _ e=>e))
 rintro x s' ⟨σ',st',S,I',h'⟩
 induction x with
 | false=>exact⟨σ',st',S,I',h'⟩
 | true=>
  refine YL (Sq (hb A env σ' fm st' s' _ R E I' (S.fr0 F) h') ?_ λ_ _ e=>e)
  rintro x s' ⟨σ',st',S',I',h'⟩
  induction x with
  | false=>exact⟨σ',st',S.trans S',I',h'⟩
  | true=>exact wpAny_allTrue_And_nil ⟨σ',st',S.trans S',I',h'⟩
theorem KE {a b:Expr}{ca cb:CT} (ha:ST C fx d a ca)(hb:ST C fx d b cb):ST C fx d (.BoolOp .Or [a,b] pos) (Rl ca cb):=by
 intro A env σ fm st s k R E I F h
 refine wpAny_isTrue_BoolOp (Y0 (Sq (ha A env σ fm st s _ R E I F h) ?_ λ_ _ e=>e))
 rintro x s' ⟨σ',st',S,I',h'⟩
 induction x with
 | true=>exact⟨σ',st',S,I',h'⟩
 | false=>
  refine Y0 (Sq (hb A env σ' fm st' s' _ R E I' (S.fr0 F) h') ?_ λ_ _ e=>e)
  rintro x s' ⟨σ',st',S',I',h'⟩
  induction x with
  | true=>exact⟨σ',st',S.trans S',I',h'⟩
  | false=>exact wpAny_allTrue_Or_nil ⟨σ',st',S.trans S',I',h'⟩
theorem uK {c a b:Expr} (hc:ST C fx d c cc)(ha:SE C fx d a ca)(hb:SE C fx d b cb):SE C fx d (.IfExp c a b pos) (u4 cc ca cb):=by
 intro A env σ fm st s k R E I F h
 refine wpAny_IfExp (Sq (hc A env σ fm st s _ R E I F h) ?_ λ_ _ e=>e)
 rintro x s' ⟨σ',st',S,I',h'⟩
 induction x with
 | true=>exact Sq (ha A env σ' fm st' s' k R E I' (S.fr0 F) h') (λ_ _ o=>o.trans S) λ_ _ e=>e
 | false=>exact Sq (hb A env σ' fm st' s' k R E I' (S.fr0 F) h') (λ_ _ o=>o.trans S) λ_ _ e=>e
theorem ag:SA C fx d [] av:=by
 intro A env σ fm st s k pos R E I F h
 exact Yw ⟨Th _,σ,[],st,.refl,I,.nil,h⟩
theorem cP {e:Expr} (he:SE C fx d e ce)(hs:SA C fx d es cs)(hp:∀env,T4 (e::es) env=(dV,eval e env)::T4 es env):SA C fx d (e::es) (ae ce cs):=by
 intro A env σ fm st s k pos R E I F h
 refine Va (aw (he A env σ fm st s _ R E I F h) λσ1 x st1 u aaV aaZ aa1 aa4 aaX=>?_) (hp env)
 refine Sq (hs A env σ1 fm st1 aaV _ pos R E aa1 (aaZ.fr0 F) aaX) ?_ λ_ _ e=>e
 rintro us s' ⟨hl,σ',l,st',S',I',r',h'⟩
 exact⟨by simp only[Tg];lia,σ',x::l,st',aaZ.trans S',I',.cons (S'.vr .nil aa4) r',h'⟩
theorem Inv.size (I:Inv C σ st s) (h:a∈σ):a<s.heap.objs.size:=by
 obtain⟨o,e⟩:=S7.mp (I.new a h).2
 exact Heap.lt_size e
theorem ve {us:Sj Sr}(I:Inv C σ st s)(r:VRs σ s.heap l us):VR σ (s.heap.push (cK us 0)) (.tup l) (.ref s.heap.objs.size):=
 .tup (Heap.get?_push_size _ rfl) (λh=>Tq _ (I.size h)) r.pushed
theorem wu {us:Sj Sr}{t:Nat}(I:Inv C σ st s)(r:VRs σ s.heap l us)(h:k (.tup l) st=Sk) :
  Out C [] σ s k (.ref s.heap.objs.size) { s with heap:=s.heap.push (cK us 0),toks:=t }:=
 ⟨σ,.tup l,st,Step.pushed,I.pushed,ve I r,h⟩
theorem vA (hn:es.length<=4000)(hs:SA C fx d es cs):SE C fx d (.Tuple es n pos) (cN cs):=by
 intro A env σ fm st s k R E I F h
 refine wpAny_Tuple_spliced (Sq (hs A env σ fm st s _ pos R E I F h) ?_ λ_ _ e=>e)
 rintro us s' ⟨hl,σ',l,st',S',I',r',h'⟩
 refine⟨by show us.length<=2 ^ 24;lia,?_⟩
 exact(wu (t:=s'.toks) I' r' h').trans S'
theorem zo (hn:es.length<=4000)(hs:SA C fx d es cs):SE C fx d (.List es pos) (d0 cs):=by
 intro A env σ fm st s k R E I F h
 refine wpAny_List_spliced (Sq (hs A env σ fm st s _ pos R E I F h) ?_ λ_ _ e=>e)
 rintro us s' ⟨hl,σ',l,st',S',I',r',h'⟩
 refine⟨by show us.length<=2 ^ 24;lia,?_⟩
 exact(gk (n:=0) (t:=s'.toks) I' r' h').trans S'
end
structure cJ (C:Cfg):Prop where
 cd:∀c<3,ZA C.K (dJ c)=Sk
 ga:∀c<2,Uq C.K (.ref (dJ c)) "__getattribute__"=Si (Si (.builtin "object.__getattribute__"))
 gaL:Uq C.K (.ref 244) "__getattribute__"=Si (Si (.builtin "list.__getattribute__"))
 gh:∀c<3,Uq C.K (.ref (dJ c)) "__getattr__"=Si none
 sa:∀c<3,Uq C.K (.ref (dJ c)) "__setattr__"=Si (Si (.builtin "object.__setattr__"))
 at_:∀c<3,∀x<12,Uq C.K (.ref (dJ c)) (aW x)=Si none
 over:∀c<2,plainOver C.K (dJ c)=Sk
 mroL:∃cd,aaF C.K 244=Si cd/\cd.mro=[.ref 244,.type "list",.type "object"]
 subL:mroIn C.K 244 (.type "list")=Si Sk
section
variable {C:Cfg}{fx:Fx}{d:Nat}{A:Around}{env:Env}{σ σ1:List Addr}{fm:Fm}{st:St}{s aaV:Shared}
theorem Inv.X (I:Inv C σ st s)(O:C.Ok):C.K.In s.heap:=O.X.keeps I.base
theorem xN:∀x<12,∀y<12,aW x=aW y->x=y:=by decide +kernel
theorem re {x y:Nat}(hx:x<12)(hy:y<12)(e:aW x=aW y):x=y:=xN x hx y hy e
theorem qE {es:Sj UW}(r:ER σ h fs es){x:Nat}{k:V->Sm}(e:dM fs x k=Sk) :
  x<12/\∃v en,es.find? (·.key.isStr (aW x))=Si en/\VR σ h v en.val/\k v=Sk:=by
 induction r with
 | nil=>exact ff e
 | @cons y v r hs t u es hy hv hr ih=>
  have e':aD (SN y x) (k v) (dM r x k)=Sk:=e
  rcases dF e' with ⟨q,e2⟩ | ⟨q,e2⟩
  ·have:y=x:=SQ q
   subst this
   refine⟨hy,v,⟨hs,.str (aW y) t,u⟩,?_,hv,e2⟩
   rw[Sj.find?_cons_of_pos]
   simp[Yf]
  ·obtain⟨h1,v',en,h2,h3⟩:=ih e2
   refine⟨h1,v',en,?_,h3⟩
   rw[YM]
   ·exact h2
   ·have:y≠x:=λz=>by rw[z,Vz] at q;exact nomatch q
    simp only[Yf]
    intro z
    exact this (re hy h1 (by simpa using z))
theorem oY (r:VR σ h v u):handedIn u=Sk:=by cases r <;> rfl
theorem fN {es:Sj UW} {name:Str}{en:UW}(e:es.find? (·.key.isStr name)=Si en):aaL name (VQ es n)=Si (Si en.val):=by
 unfold aaL
 simp[e]
theorem iH {o:SV α}{a:α}{f:α->SV β}{r:SV β}(h:o=Si a)(k:f a=r):o.bind f=r:=by rw[h];exact k
theorem lK {K:Frag}{c:Sx}{od:Obj}{name:Str} (hh:ZA K c=Sk)(ha:Uq K (.ref c) name=Si none)(hl:aaL name od=Si (Si u)):findObj K c (Si od) name=Si (.value u):=by
 exact aE (any_some hh) λcd hc hd=>iH hc (iH ha (iH rfl (iH rfl (iH ((SX hd).trans hl) rfl))))
theorem Inv.obj (I:Inv C σ st s) {p:Sj (Nat×V)->O} (e:st.look n=Si o)(ha:σ[n]? = Si a)(ho:(∃d,c<2/\o=.inst c d fs/\p=O.inst c d)\/(∃d l,c=2/\o=.lsub c d fs l/\p=λfs=>O.lsub c d fs l)) :
  ∃ox dx es m,InstAt s.heap a ox (dJ c) (Si (VQ es m))/\ox.dict=Si dx/\s.heap.get? dx=Si (VQ es m)/\ER σ s.heap fs es:=by
 obtain⟨b,hb,r⟩:=I.at_ n _ e
 have:b=a:=Si.inj (hb.symm.trans ha)
 subst this
 rcases ho with ⟨d,hc,rfl,rfl⟩ | ⟨d,l,hc,rfl,rfl⟩
 ·obtain⟨_,dx,es,m,h1,h2,h3,h4⟩:=r
  exact⟨_,dx,es,m,⟨h2,rfl,rfl,h3⟩,rfl,h3,h4⟩
 ·obtain⟨_,dx,es,m,vs,m',h1,h2,h3,h4,h5⟩:=r
  exact⟨_,dx,es,m,⟨h2,rfl,rfl,h3⟩,rfl,h3,h4⟩
theorem rz {name:Str} (X:C.K.In s.heap)(J:cJ C)(I:InstAt s.heap a ox 244 od)
  (hf:findObj C.K 244 od name=Si (.value u)) (hh:handedIn u=Sk) (h:Q u { s with toks:=s.toks+1 }):Ss C.M A (PySem.getAttr (.ref a) name expr) Q E s:=by
 obtain⟨hp,g,dr,t,os⟩:=s
 have L0:=I.type (M:=C.M)
 have L1:=T3 (M:=C.M) X J.gaL
 have L2:=looks_find (M:=C.M) X I hf
 have L3:=T3 (M:=C.M) X (J.gh 2 (bo rfl))
 unfold PySem.getAttr getAttrBy
 refine kV (YN (SR (kV (L0.at (kV (L1.at ?_))))))
 show Ss _ _ (VK _ _ _ _ _ _) _ _ _
 unfold VK
 refine kV (L3.at (kV (Vu ?_)))
 refine SR ?_
 unfold Yx
 rw[show(expr && onTheHeap (.builtin "list.__getattribute__"))=dV from WH expr]
 show Ss _ _ (WI _ _ _) _ _ _
 unfold WI
 refine GH (UX.bind ..) ?_
 refine kV (Sl (UM ?_))
 have T:Looks C.M hp (UN (.ref a) (.type "list")) Sk:=L0.andThen (Vr X J.subL)
 refine U1 UX.plain Y1 (@YO C.M _ _ _ "list.__getattribute__" "list" "__getattribute__" (.ref a) [.str name t] [] _ (by decide +kernel) (by decide +kernel) T (WJ _ _) ?_)
 unfold Builtin.«object.__getattribute__»
 dsimp only at L0 L2
 repeat lk
 show Ss _ _ (handedOut u) _ _ _
 rw[handedOut_of hh];exact Sl h
theorem ym {K:Frag}{x c:Sx} {es:Sj UW} {name:Str} {v:Sr}{b:Sm} {Q:Fin->Sw->Prop}(X:K.In s.heap)
  (I:Us s.heap x ox c (Si (VQ es n))) (hd:ox.dict=Si dx) (hD:s.heap.get? dx=Si (VQ es n)) (hh:ZA K c=Sk) (hl:(W.getL name es).isSome=Sk) (hz:es.length<=1000)
  (h:Q (.done (.ret .none)) { s with heap:=s.heap.update dx (aaG name (Vw C.w.params name) (.str name s.toks) v),toks:=s.toks+1 }) :
  Ss C.M A (storeInOwnDict (.ref x) (.ref c) (.str name tk) name v b) Q E s:=by
 refine aE (any_some hh) λcd hc hd'=>?_
 obtain⟨hx,hcl,hn,-⟩:=I
 obtain⟨oc,odi,oda,osl⟩:=ox
 dsimp only at hcl hd
 subst hcl hd
 have D':(s.heap.update dx (aaG name (Vw C.w.params name) (.str name s.toks) v)).get? dx=Si (VQ (putL name (Vw C.w.params name) (.str name s.toks) v es) (putN name es n)):=by
  rw[Heap.get?_update_self _ hD (by rw[VA];rfl),VA]
 refine kV (Sl (kV (kV (WK hx (kV ((Zg X hc).here ?_))))))
 rw[hd']
 refine Sl (a:=Si dx) (kV (Sl (kV ?_)))
 unfold nsSet
 refine kV (kV (Yy (Sl (kV (YN (kV (WK hD ?_)))))))
 dsimp only
 have cc:(!es.toArray.any (·.key.isStr name) && es.toArray.any (·.refKey))=dV:=by
  rw[aap,aap]
  unfold W.getL at hl
  split at hl
  ·rename_i en he
   rw[aaq.mpr ⟨en,Sj.mem_of_find?_eq_some he,Sj.find?_some he⟩];rfl
  ·split at hl
   ·exact ff hl
   ·rename_i z;rw[Sm.not_eq_true] at z;rw[z,WH]
 rw[aRefKeyMayBeTheName_at,cc]
 have len:(putL name (Vw C.w.params name) (.str name s.toks) v es).length<=es.length+1:=by
  clear D' cc hl hz hD
  induction es with
  | nil=>simp[putL]
  | cons e r ih=>simp only[putL];split <;> simp <;> omega
 refine wpAny_updatePart hD ?_
 refine kV (wpAny_lookBehind D' (by exact pastItsLine_dict (by rw[Sy,Vc];lia)) ?_)
 exact Sl h
theorem qN (self:Sr):refuseLoop self "__setattr__" [.type "list",.type "object"]=pure ():=by
 have e1:classOwn (.type "list") "__setattr__"=pure none:=by show pure (builtinOwn _ _)=_;rw[builtinOwn_eq_fast];kernel_rfl
 have:=Zh.passes self
 unfold refuseLoop at this ⊢
 rw[Uy]
 skip
 exact this
theorem tA {c x:Sx} {es:Sj UW} {name:Str}{v:Sr} {Q:Unit->Sw->Prop}(X:C.K.In s.heap)
  (I:Us s.heap x ox c (Si (VQ es n))) (hd:ox.dict=Si dx) (hD:s.heap.get? dx=Si (VQ es n)) (hh:ZA C.K c=Sk) (hs:Uq C.K (.ref c) "__setattr__"=Si (Si (.builtin "object.__setattr__")))
  (hm:aaF C.K c=Si cd) (hpass:refuseLoop (.ref x) "__setattr__" cd.mro=pure ()) (ne:cd.mro.isEmpty=dV) (hobj:cd.mro.contains (.type "object")=Sk) (ht:Uq C.K (.ref c) name=Si none)
  (hl:(W.getL name es).isSome=Sk) (hz:es.length<=1000)
  (h:Q () { s with heap:=s.heap.update dx (aaG name (Vw C.w.params name) (.str name (s.toks+1)) v),toks:=s.toks+2 }) :
  Ss C.M A (PySem.setAttr (.ref x) name v) Q E s:=by
 refine set_plain X I hs ?_
 have SF:=Zh
 have sub:Looks C.M s.heap (UN (.ref x) (.type "object")) Sk:=I.type.andThen (Vr X (by unfold mroIn;rw[hm,Vf,SK (by rw[ne];decide),hobj]))
 refine U1 SF.slot.plain SF.entry (@YO C.M _ _ _ "object.__setattr__" "object" "__setattr__" (.ref x) [.str name s.toks,v] [] _ SF.kind SF.split sub (SF.args (.ref x) (.str name s.toks) v) ?_)
 have hm':Looks C.M s.heap (mroOf (.ref c)) cd.mro:=(Zg X hm).andThen .now
 rw[osa_eq,refuse_eq]
 refine kV (kV (I.type _ _ _ _ (λ_ _ e=>e) (kV (hm' _ _ _ _ (λ_ _ e=>e) ?_))))
 refine wE (hpass) ?_
 refine Sl (kV (I.type _ _ _ _ (λ_ _ e=>e) (kV (T3 X ht _ _ _ _ (λ_ _ e=>e) (kV (Sl ?_))))))
 exact ym (s:={ s with toks:=s.toks+1 }) X I hd hD hh hl hz h
theorem rM {es:Sj UW}(r:ER σ h fs es):es.any (·.refKey)=dV:=by
 induction r with
 | nil=>rfl
 | cons _ _ _ ih=>rw[Sj.any_cons,ih,Sm.or_false];rfl
theorem vQ {es:Sj UW}(r:ER σ h fs es)(name:Str):(W.getL name es).isSome=Sk:=by
 unfold W.getL
 split
 ·rfl
 ·rw[rM r];rfl
theorem zB {es:Sj UW}(r:ER σ h fs es){x:Nat}(hx:x<12) (hv:VR σ h v u)(hs:Int)(t:Tok):ER σ h (dz fs x v) (putL (aW x) hs (.str (aW x) t) u es):=by
 induction r with
 | nil=>exact .cons hx hv .nil
 | @cons y w fs hs' t' u' es hy hw hr ih=>
  have e:dz ((y,w)::fs) x v=@Ti (λ_=>Sj (Nat×V)) ((y,w)::dz fs x v) ((x,v)::fs) (SN y x):=rfl
  rw[e,putL]
  by_cases q:y=x
  ·subst q
   rw[Vz,SX (by simp[Yf])]
   exact .cons hy hv hr
  ·have b:SN y x=dV:=by cases z:SN y x with | false=>rfl | true=>exact Tc (SQ z) q
   rw[b,SK (by simp only[Yf];intro z;exact q (re hy hx (by simpa using z)))]
   exact .cons hy hw ih
theorem Ak {es:Sj UW}(r:ER σ h fs es):es.length=fs.length:=by
 induction r with
 | nil=>rfl
 | cons _ _ _ ih=>simp[ih]
end
section
variable {C:Cfg}{fx:Fx}{d:Nat}{A:Around}{env:Env}{σ σ1:List Addr}{fm:Fm}{st:St}{s aaV:Shared}
theorem Bd {l:Sj Sx}(m:b∈l)(n:a∉l):b≠a:=λq=>n (q▸m)
theorem xI (Ok:C.Ok)(J:cJ C) {x:Nat} (I:Inv C σ st s)(r:VR σ s.heap v u)(h:Mine.Internal.getAttr v x st k=Sk) :
  fZ C A (PySem.getAttr u (aW x) expr) σ s k:=by
 refine bN h λn e81 h1=>?_;clear h;subst e81
 refine St.get_e h1 λo ho h2=>?_;clear h1
 refine VR.ref_e r λa e=>?_
 rcases qD h2 with ⟨c,d,fs,rfl,h3⟩ | ⟨c,d,fs,l,rfl,h3⟩
 ·have hc:c<2:=by obtain⟨b,_,r⟩:=I.at_ n _ ho;exact r.1
  refine qc (I.obj (p:=O.inst c d) ho e (.inl ⟨d,hc,rfl,rfl⟩)) λox dx es m IA hd hD er=>?_
  obtain⟨hx,w,en,hf,hv,h4⟩:=qE er h3
  exact get_value (I.X Ok) IA (J.ga c hc) (lK (J.cd c (by(exact To hc))) (J.at_ c (by(exact To hc)) x hx) (fN hf)) (oY hv) (cQ I _ hv h4)
 ·have hc:c=2:=by obtain⟨b,_,r⟩:=I.at_ n _ ho;exact r.1
  subst hc
  refine qc (I.obj (p:=λfs=>O.lsub 2 d fs l) ho e (.inr ⟨d,l,rfl,rfl,rfl⟩)) λox dx es m IA hd hD er=>?_
  obtain⟨hx,w,en,hf,hv,h4⟩:=qE er h3
  exact rz (I.X Ok) J IA (lK (J.cd 2 (by(exact V2 2))) (J.at_ 2 (by(exact V2 2)) x hx) (fN hf)) (oY hv) (cQ I _ hv h4)
theorem EA (Ok:C.Ok)(J:cJ C){a:Expr} {x:Nat}{name:Str} (hn:name=aW x)(ha:SE C fx d a ca)
  (he:∀env,eval (.Attribute a name pos) env=(do
   let o ←eval a env
   UG pos.atName
   let r ←holding [o] (PySem.getAttr o name Sk)
   V3 a o r
   pure r)):SE C fx d (.Attribute a name pos) (bv ca x):=by
 intro A env σ fm st s k R E I F h
 subst hn
 refine Zi (aw (ha A env σ fm st s _ R E I F h) λσ1 y st1 u aaV aaZ aa1 aa4 aaX=>?_) (he env)
 exact Sq (xI Ok J aa1 aa4 aaX) (λ_ _ o=>o.trans aaZ) λ_ _ e=>e
inductive JW (C:Cfg)(σ:Sj Sx)(s:Sw)(k:St->Sm)(x:Unit)(s':Sw):Prop
 | mk (st':St) (S:Step [] σ s σ s') (I:Inv C σ st' s') (h:k st'=Sk)
theorem Step.wrote {f:Obj->Obj}{t:Nat}(m:b∈σ):Step [] σ s σ { s with heap:=s.heap.update b f,toks:=t }:=
 ⟨⟨[],by simp,λ_ h=>nomatch h⟩,λc o n _ e=>by
  show(s.heap.update b f).get? c=Si o
  rw[Heap.get?_update_other _ _ (Bd m n)];exact e,rfl,λh=>h⟩
theorem gf {f:Obj->Obj} (m:b∈σ)(r:VR σ h v u):VR σ (h.update b f) v u:=
 r.mono (λ_ _ e=>e) λa _ _ n e=>⟨n,by rw[Heap.get?_update_other _ _ (Bd m n)];exact e⟩
theorem jT {f:Obj->Obj}{v:Sj V}{u:Sj Sr} (m:b∈σ)(r:VRs σ h v u):VRs σ (h.update b f) v u:=
 r.mono (λ_ _ e=>e) λa _ _ n e=>⟨n,by rw[Heap.get?_update_other _ _ (Bd m n)];exact e⟩
theorem xK (Ok:C.Ok)(J:cJ C) {y:Sr}{x:Nat}{k:St->Sm}(hx:x<12)(I:Inv C σ st s)(r:VR σ s.heap v u)(rw_:VR σ s.heap w y)(h:Mine.Internal.setAttr v x w st k=Sk) :
  Ss C.M A (PySem.setAttr u (aW x) y) (JW C σ s k) cM s:=by
 refine bN h λn e81 h1=>?_;clear h;subst e81
 refine St.get_e h1 λo ho h2=>?_;clear h1
 refine VR.ref_e r λa e=>?_
 rcases qD h2 with ⟨c,d,fs,rfl,h3⟩ | ⟨c,d,fs,l,rfl,h3⟩
 ·refine aM h3 λhlen h4=>?_
  have hlen:=Sp hlen
  rw[aC] at hlen
  obtain⟨b,hb,r⟩:=I.at_ n _ ho
  have:b=a:=Si.inj (hb.symm.trans e)
  subst this
  obtain⟨hc,dx,es,m,hdx,hox,hD,er⟩:=r
  obtain⟨cd,hcd,hov⟩:=any_some (J.over c hc)
  have ne:cd.mro.isEmpty=dV:=by cases q:cd.mro with | nil=>rw[q] at hov;exact ff hov | cons _ _=>rfl
  have mdx:dx∈σ:=Su hdx
  refine tA (I.X Ok) ⟨hox,rfl,rfl,hD⟩ rfl hD (J.cd c (by(exact To hc))) (J.sa c (by(exact To hc))) hcd (refuse_only _ hov) ne (only_has hov) (J.at_ c (by(exact To hc)) x hx) (vQ er _) (by rw[Ak er];lia) ?_
  refine St.set_e h4 λst' e1 e2 e81 h5=>?_;obtain⟨e3,_⟩:=e81
  refine⟨st',Step.wrote mdx,?_,h5⟩
  have hne:dx≠b:=λq=>by
   have hi:=I.inj hdx (q▸hb)
   subst hi
   have:=I.dict _ c _ fs [] (.inl ho)
   rw[ho] at this;cases this
  refine I.put (B:=[dx]) e1 e2 e3 ho (λq=>nomatch q) rfl (λb' hb'=>.inr ⟨d,rfl,by rw[Sn.mp hb'];exact hdx⟩) (λb' x' nb g=>?_) (λb' hb'=>by rw[Sn.mp hb'];show((s.heap.update dx _).get? dx).isSome=Sk;rw[Heap.get?_update_self _ hD (by rw[VA];rfl)];rfl) λa' ha' _=>?_
  ·show(s.heap.update dx _).get? b'=_
   rw[Heap.get?_update_other _ _ (λq=>nb (Sn.mpr q.symm))];exact g
  ·have:a'=b:=Si.inj (ha'.symm.trans hb)
   subst this
   refine⟨hc,dx,putL (aW x) (Vw C.w.params (aW x)) (.str (aW x) (s.toks+1)) y es,putN (aW x) es m,hdx,?_,?_,?_⟩
   ·show(s.heap.update dx _).get? a'=_
    rw[Heap.get?_update_other _ _ hne];exact hox
   ·show(s.heap.update dx _).get? dx=_
    rw[Heap.get?_update_self _ hD (by rw[VA];rfl),VA]
   ·exact zB (er.mono (λr=>gf mdx r)) hx (gf mdx rw_) _ _
 ·refine aM h3 λhlen h4=>?_;clear h3
  have hlen:=Sp hlen
  rw[aC] at hlen
  obtain⟨b,hb,r⟩:=I.at_ n _ ho
  have:b=a:=Si.inj (hb.symm.trans e)
  subst this
  obtain⟨hc,dx,es,m,vs,m',hdx,hox,hD,er,hvs⟩:=r
  subst hc
  obtain⟨cd,hcd,hov⟩:=J.mroL
  have mdx:dx∈σ:=Su hdx
  refine tA (I.X Ok) ⟨hox,rfl,rfl,hD⟩ rfl hD (J.cd 2 (by(exact V2 2))) (J.sa 2 (by(exact V2 2))) hcd (by rw[hov,refuseLoop_ref];exact qN _) (by rw[hov];rfl) (by rw[hov];rfl) (J.at_ 2 (by(exact V2 2)) x hx) (vQ er _) (by rw[Ak er];lia) ?_
  refine St.set_e h4 λst' e1 e2 e81 h5=>?_;clear h4;obtain⟨e3,_⟩:=e81
  refine⟨st',Step.wrote mdx,?_,h5⟩
  have hne:dx≠b:=λq=>by
   have hi:=I.inj hdx (q▸hb)
   subst hi
   have:=I.dict _ 2 _ fs l (.inr ho)
   rw[ho] at this;cases this
  refine I.put (B:=[dx]) e1 e2 e3 ho (λq=>nomatch q) rfl (λb' hb'=>.inr ⟨d,rfl,by rw[Sn.mp hb'];exact hdx⟩) (λb' x' nb g=>?_) (λb' hb'=>by rw[Sn.mp hb'];show((s.heap.update dx _).get? dx).isSome=Sk;rw[Heap.get?_update_self _ hD (by rw[VA];rfl)];rfl) λa' ha' _=>?_
  ·show(s.heap.update dx _).get? b'=_
   rw[Heap.get?_update_other _ _ (λq=>nb (Sn.mpr q.symm))];exact g
  ·have:a'=b:=Si.inj (ha'.symm.trans hb)
   subst this
   refine⟨rfl,dx,putL (aW x) (Vw C.w.params (aW x)) (.str (aW x) (s.toks+1)) y es,putN (aW x) es m,vs,m',hdx,?_,?_,?_,?_⟩
   ·show(s.heap.update dx _).get? a'=_
    rw[Heap.get?_update_other _ _ hne];exact hox
   ·show(s.heap.update dx _).get? dx=_
    rw[Heap.get?_update_self _ hD (by rw[VA];rfl),VA]
   ·exact zB (er.mono (λr=>gf mdx r)) hx (gf mdx rw_) _ _
   ·exact jT mdx hvs
end
structure eP (C:Cfg):Prop where
 getitem:Uq C.K (.ref 244) "__getitem__"=Si (Si (.builtin "list.__getitem__"))
 setitem:Uq C.K (.ref 244) "__setitem__"=Si (Si (.builtin "list.__setitem__"))
 iter:Uq C.K (.ref 244) "__iter__"=Si (Si (.builtin "list.__iter__"))
 append:Uq C.K (.ref 244) "append"=Si (Si (.builtin "list.append"))
section
variable {C:Cfg}{fx:Fx}{d:Nat}{A:Around}{env:Env}{σ σ1:List Addr}{fm:Fm}{st:St}{s aaV:Shared}
theorem dO {i:Int} (hj:j<n)(h:(0<=i/\i=j)\/(i<0/\i+n=j)):Wb i n=Si j:=by
 rcases h with ⟨h0,h1⟩ | ⟨h0,h1⟩
 ·rw[seqIndex_of h0 (by lia)];congr 1;lia
 ·rw[seqIndex_neg h0 (by lia)];congr 1;lia
theorem lN {M:Model} {f:α->Sem Sm}:∀{l:Sj α},(∀x∈l,Looks M h (f x) dV)->Looks M h (l.anyM f) dV
 | [],_=>.now
 | x::l,hl=>by
  show Looks M h (f x >>= λb=>match b with | true=>pure Sk | false=>l.anyM f) dV
  exact(hl x (.head _)).andThen (lN λy m=>hl y (.tail _ m))
theorem rQ:∀n∈seqItemTypes,([T9 244,.type "list",.type "object"]:Sj Sr).contains (.type n)=dV:=by decide +kernel
theorem pY (J:cJ C){x:Sx} {k:Sr}{name:Str} (X:C.K.In s.heap)(I:Us s.heap x ox 244 od)(h:Q k s):Ss C.M A (sequenceKey (.ref x) k name) Q E s:=by
 refine aE (J.mroL) λcd hc hm=>?_
 have L:Looks C.M s.heap (seqItemTypes.anyM λn=>aar (.ref 244) (.type n)) dV:=lN λn m=>Vr X (by unfold mroIn;rw[hc,Vf,hm,SK (by decide),rQ n m])
 unfold sequenceKey
 refine kV (I.type.here ?_)
 exact kV (L.here (Sl h))
theorem iY {M:Model} {s:Sw}{i owner n:String}{self:Sr}{rest:Sj Sr}{kw:Sj (Str×Sr)}{Q:Unit->Sw->Prop}
  (hk:Vd i=Si .slot\/Vd i=Si .method) (hs:ZD i=Si (owner,n)) (hi:Looks M s.heap (UN self (.type owner)) Sk) (ha:Ww i ⟨self::rest,kw⟩) (q:Q () s) :
  Ss M A (Xb i ⟨self::rest,kw⟩) Q E s:=by
 rcases hk with hk | hk
 ·exact YO hk hs hi ha q
 ·unfold Xb
  rw[hk,hs]
  dsimp only
  refine kV (hi.here ?_)
  skip
  cases hsig:Wg i with
  | none=>exact Sl q
  | some sig=>
   simp only[Ww,hsig] at ha
   have h2:XR i sig ⟨self::rest,kw⟩=pure ():=ha
   show Ss M A (XR i sig ⟨self::rest,kw⟩) Q E s
   rw[h2];exact Sl q
theorem ij {x:Sx} {name:Str}{id n:String}{B:Builtin}{rest:Sj Sr} {Q:SV Sr->Sw->Prop}(J:cJ C)(X:C.K.In s.heap)(I:Us s.heap x ox 244 od)
  (hf:Uq C.K (.ref 244) name=Si (Si (.builtin id))) (sl:Slot "list" name id) (en:entryFor table id=Si B) (hk:Vd id=Si .slot\/Vd id=Si .method) (hs:ZD id=Si ("list",n)) (ha:Ww id ⟨.ref x::rest,[]⟩)
  (h:Ss C.M A.in1 (B ⟨.ref x::rest,[]⟩) (λfin s'=>∃v,fin=.done (.ret v)/\Q (Si v) s') E s):Ss C.M A (XK (.ref x) name rest) Q E s:=by
 refine kV (kV (I.type.here ((T3 X hf).here (SR (kV ?_)))))
 refine wE (sl.bind ..) ?_
 refine Sl (kV (UM ?_))
 have T:Looks C.M s.heap (UN (.ref x) (.type "list")) Sk:=I.type.andThen (Vr X J.subL)
 refine U1 sl.plain en (iY hk hs T ha ?_)
 refine Sq h ?_ λ_ _ e=>e
 rintro _ s' ⟨v,rfl,q⟩
 exact Sl q
theorem iL:ZD "list.__getitem__"=Si ("list","__getitem__"):=by decide +kernel
theorem jp:Vd "list.__getitem__"=Si .method:=by decide +kernel
theorem kK (J:cJ C)(JS:eP C){x:Sx} {k:Int}{t:Tok} {y:Sr} (X:C.K.In s.heap)
  (I:Us s.heap x ox 244 od) (hd:ox.data=.seq items n) (hk:UJ k=Sk) (hj:Wb k items.size=Si j) (hx:items[j]? = Si y) (h:Q y s):Ss C.M A (XM (.ref x) (.int k t)) Q E s:=by
 unfold XM
 refine SR (kV (pY J X I (kV ?_)))
 refine ij J X I JS.getitem VX entry_list_getitem (.inr jp) iL (args_list_getitem _ _) ?_
 show Ss _ _ (Um (.int k t) >>= _) _ _ s
 refine kV (Yz hk ?_)
 induction k with
 | ofNat i=>
  have hx':items[i]? = Si y:=by
   have:j=i:=by
    unfold Wb at hj
    split at hj
    ·rename_i q;exact Tc q (XQ.mpr (UV i))
    ·dsimp only at hj
     split at hj
     ·exact(Si.inj hj).symm
     ·exact iq hj
   rw[←this];exact hx
  show Ss _ _ ((seqItemAt x i >>= λr=>pure (r.map (i,·))) >>= _) _ _ s
  refine kV (kV (wpAny_seqItemAt I.at_ hd (Sl ?_)))
  rw[hx']
  first
   | exact kV (Sl (Sl ⟨y,rfl,Sl h⟩))
   | exact Sl ⟨y,rfl,Sl h⟩
 | negSucc i=>
  show Ss _ _ ((TX (.ref x) >>= λxs=>pure ((Wb (Zd i) xs.size).bind λi=>xs[i]?.map (i,·))) >>= _) _ _ s
  refine kV (kV ?_)
  show Ss _ _ (Wy (.ref x) >>= _) _ _ s
  refine kV (T6 I.at_ hd (Sl (Sl ?_)))
  rw[hj]
  simp only[Vf,hx,Uz]
  first
   | exact kV (Sl (Sl ⟨y,rfl,Sl h⟩))
   | exact Sl ⟨y,rfl,Sl h⟩
theorem rD (JS:eP C){value slice:Expr}{x:Sx} {i:Sr}{ops:Sj Sr} (X:C.K.In s.heap)(I:Us s.heap x ox 244 od)
  (hg:Ss C.M A (XM (.ref x) i) Q E s) (hs:subscripted slice dV (.ref x) i=operate ops (XM (.ref x) i)):Ss C.M A (ZS value slice (.ref x) i) Q E s:=by
 have L:Looks C.M s.heap (aas (.ref x) "__getitem__") (Si (.builtin "list.__getitem__")):=I.type.andThen (T3 X JS.getitem)
 unfold ZS
 refine kV ?_
 refine wE (getitemInPython_of_ne (by intro q;cases q)) ?_
 refine kV (L.here ?_)
 have fin:Ss C.M A (subscripted slice dV (.ref x) i) (λr aa5=>Ss C.M A (V3 value (.ref x) r >>= λ_=>pure r) Q E aa5) E s:=by
  refine wE (hs) ?_
  exact wpAny_operating (Sq hg (λr aa5 aa3=>kV (wpAny_letTemporaryGo (Sl aa3))) λ_ _ x=>x)
 first
  | exact Sl (kV fin)
  | exact kV (Sl (kV fin))
  | exact kV fin
theorem vc {j:Int}(h:small j=Sk):UJ j=Sk:=by
 have:=dg h
 unfold UJ
 simp only[Ta,decide_eq_true_eq]
 lia
theorem HM (Ok:C.Ok)(J:cJ C)(JS:eP C){value slice:Expr}{x y:V}{v:Sr} (hs:∀o i,subscripted slice dV o i=operate [o,i] (XM o i))
  (I:Inv C σ st s) (rx:VR σ s.heap x u) (ry:VR σ s.heap y v) (h:cZ x y st k=Sk):fZ C A (ZS value slice u v) σ s k:=by
 refine aO h λi e81 h1=>?_;clear h;subst e81
 refine aM h1 λhsm h2=>?_;clear h1
 have hb:=dg hsm
 refine VR.int_e ry λ_=>?_
 cases rx with
 | none=>exact ff h2
 | bool=>exact ff h2
 | int=>exact ff h2
 | str l t=>
  refine kD (l:=l) h2 λj c hj hlt hij h3=>?_
  refine Zj (V4 s _ t) Wj.lookup (ZM (c:=c) ?_ ?_ (cQ I _ (.str [c] _) h3)) (hs _ _)
  ·simp only[Xp,decide_eq_false_iff_not];lia
  ·show(Wb i l.toArray.size).bind (λn=>l.toArray[n]?)=Si c
   rw[Sy,dO hlt hij]
   simpa using hj
 | tup e n q=>
  refine kD h2 λj c hj hlt hij h3=>?_
  refine aE (q.get hj) λw hw rw_=>?_
  exact item_tupleT ⟨_,e,rfl,_,rfl⟩ (by lia) (by lia) (by rw[q.length];exact dO hlt hij) hw (cQ I s.toks rw_ h3) (hs _ _)
 | @ref n a e=>
  refine St.get_e h2 λo ho h3=>?_;clear h2
  rcases kZ h3 with ⟨l,rfl,h4⟩ | ⟨c,d,fs,l,rfl,h4⟩
  ·refine kD h4 λj c hj hlt hij h5=>?_
   obtain⟨vs,m,g,q⟩:=I.list ho e
   refine aE (q.get hj) λw hw rw_=>?_
   have hl:s.heap.IsList a vs.toArray:=⟨_,g,rfl,_,rfl⟩
   have fin:=cQ I s.toks rw_ h5
   rcases hij with ⟨h0,h6⟩ | ⟨h0,h6⟩
   ·exact Zj hl.typeIs VX.lookup (wpAny_getItem_list hl h0 (by lia) (by rw[h6];simpa using hw) fin) (hs _ _)
   ·have:(i+(vs.toArray.size:Int)).toNat=j:=by rw[Sy,q.length,h6];rfl
    exact Zj hl.typeIs VX.lookup (YP hl h0 (by rw[Sy,q.length];lia) (by lia) (by rw[this];simpa using hw) fin) (hs _ _)
  ·refine kD h4 λj y hj hlt hij h5=>?_;clear h4
   obtain⟨b,hb',r⟩:=I.at_ n _ ho
   have:b=a:=Si.inj (hb'.symm.trans e)
   subst this
   obtain⟨hc,dx,es,m,vs,m',hdx,hox,hD,er,hvs⟩:=r
   subst hc
   refine aE (hvs.get hj) λw hw rw_=>?_
   have IA:Us s.heap b _ 244 (Si (VQ es m)):=⟨hox,rfl,rfl,hD⟩
   exact rD JS (I.X Ok) IA (kK J JS (I.X Ok) IA rfl (vc hsm) (by rw[Sy,hvs.length];exact dO hlt hij) (by simpa using hw) (cQ I s.toks rw_ h5)) (hs _ _)
theorem jQ (Ok:C.Ok)(J:cJ C)(JS:eP C){a i:Expr}{ci:CE} (hs:∀o x,subscripted i dV o x=operate [o,x] (XM o x))(ha:SE C fx d a ca)(hi:SE C fx d i ci):SE C fx d (.Subscript a i pos) (dw ca ci):=by
 intro A env σ fm st s k R E I F h
 refine Subscript_ (aw (ha A env σ fm st s _ R E I F h) λσ1 x st1 u aaV aaZ aa1 aa4 aaX=>?_)
 refine aw (hi A env σ1 fm st1 aaV _ R E aa1 (aaZ.fr0 F) aaX) λσ2 y st2 v aaW aa6 aa9 aba aa7=>?_
 exact Sq (HM Ok J JS hs aa9 (aa6.vr .nil aa4) aba aa7) (λ_ _ o=>o.trans (aaZ.trans aa6)) λ_ _ e=>e
end
section
variable {C:Cfg}{fx:Fx}{d:Nat}{A:Around}{env:Env}{σ σ1:List Addr}{fm:Fm}{st:St}{s aaV:Shared}
theorem EU (j n:Nat):VB n (TG j)=min j n:=by
 show(max 0 (min (if ((j:Int)<0) then (j:Int)+n else j) (n:Int))).toNat=_
 rw[SK (XQ.mpr (UV j)),show(min (j:Int) (n:Int))=((min j n:Nat):Int) from(Lean.Omega.Int.ofNat_min ..).symm,YA (UV _)];rfl
theorem Gr (j n:Nat):VB n (Zd j)=n - (j+1):=by
 unfold VB
 rw[SX (Wf j)]
 show(max 0 (min (Int.subNatNat n (j+1)) (n:Int))).toNat=_
 rcases Nat.lt_or_ge n (j+1) with h | h
 ·rw[Int.subNatNat_of_lt h,Int.min_eq_left (Wa (Int.lt_of_lt_of_le (Wf _) (UV n))),Int.max_eq_left (Wa (Wf _)),Nat.sub_eq_zero_of_le (TP h)];rfl
 ·rw[ZJ h,Int.min_eq_left (aac.mpr (Xc _ _)),YA (UV _)];rfl
theorem pO (i:Int)(n:Nat):eW i n=VB n i:=by
 induction i with
 | ofNat j=>
  rw[EU]
  show @Ti (λ_=>Nat) j n (SZ n j)=_
  cases q:SZ n j with
  | true=>exact(Nat.min_eq_right (Sp q)).symm
  | false=>exact(Xu (TP (V9 λz=>nomatch (TZ z).symm.trans q))).symm
 | negSucc j=>exact(Gr j n).symm
theorem pd (n:Nat)(i:Int):VB n i<=n:=by
 induction i with
 | ofNat j=>rw[EU];exact Nat.min_le_right _ _
 | negSucc j=>rw[Gr];exact Xc _ _
inductive PV:V->SV Int->Prop
 | none:PV .none none
 | int (i:Int):PV (.int i) (Si i)
noncomputable def fL (l:Sj α)(lo hi:SV Int):Sj α:=(l.drop (lo.elim 0 (VB l.length))).take (hi.elim l.length (VB l.length) - lo.elim 0 (VB l.length))
theorem xq {l:Sj α}{hi:V}{k:Sj α->Sm}(h:wY l hi k=Sk):∃b,PV hi b/\k (l.take (b.elim l.length (VB l.length)))=Sk:=by
 cases hi with
 | none=>exact⟨none,.none,by rw[SV.elim,Sj.take_length];exact h⟩
 | int j=>exact⟨Si j,.int j,by have h:k (fg l (eW j (aK l)))=Sk:=h;rw[gq,pO,aC] at h;exact h⟩
 | _=>exact ff h
theorem za {l:Sj α}{lo hi:V}{k:Sj α->Sm}(h:cut l lo hi k=Sk):∃a b,PV lo a/\PV hi b/\k (fL l a b)=Sk:=by
 cases lo with
 | none=>
  refine aE (xq (l:=l) h) λb hb h1=>?_
  exact⟨none,b,.none,hb,by unfold fL;simpa using h1⟩
 | int i=>
  have h:wY l hi (λq=>k (mw q (eW i (aK l))))=Sk:=h
  refine aE (xq h) λb hb h1=>?_
  refine⟨Si i,b,.int i,hb,?_⟩
  rw[sU,pO,aC] at h1
  unfold fL
  rw[←Sj.drop_take];exact h1
 | _=>exact ff h
theorem xo (items:Array Sr)(lo hi:SV Int):slicePick items lo hi none=(fL items.toList lo hi).toArray:=by
 rw[slicePick_plain];unfold fL;rw[XG]
theorem VRs.cut (r:VRs σ h l vs)(lo hi:SV Int):VRs σ h (fL l lo hi) (fL vs lo hi):=by
 unfold fL
 rw[r.length]
 exact(r.drop _).take _
theorem ip {x:V} {a:SV Int}(p:PV x a)(r:VR σ h x u):aaM u a/\∃q:SV (Int×Tok),u=partValue q/\q.map (·.1)=a:=by
 induction p with
 | none=>refine VR.none_e r ?_;exact⟨.none,none,rfl,rfl⟩
 | int i=>cases r with | int _ t=>exact⟨.int i t,Si (i,t),rfl,rfl⟩
theorem ye (l:Sj Nat)(lo hi:SV Int):(UH lo hi 1 l.length).filterMap ((⟨l.toArray⟩:Str).cps[·]?)=fL l lo hi /\
  ((UH lo hi 1 l.length).length=l.length->fL l lo hi=l):=by
 have e:UH lo hi 1 l.length=sliceRange (sliceBounds lo hi none l.length).1 (sliceBounds lo hi none l.length).2.1 (sliceBounds lo hi none l.length).2.2:=rfl
 rw[e,sliceBounds_plain]
 simp only[sliceRange_one]
 refine⟨?_,λh=>?_⟩
 ·exact(pick_run l.toArray _ _).trans rfl
 ·simp only[S6,WL] at h
  unfold fL
  have:hi.elim l.length (VB l.length)<=l.length:=by
   induction hi with
   | none=>exact SW _
   | some j=>exact pd _ _
  by_cases z:l.length=0
  ·rw[Wx.mp z];simp
  ·rw[h,show lo.elim 0 (VB l.length)=0 by lia];simp
theorem xR (J:cJ C)(JS:eP C){x sl:Sx} {vl vu vs:Sr}{lo hi:SV Int} (X:C.K.In s.heap)
  (I:Us s.heap x ox 244 od) (hd:ox.data=.seq items n) (hs:s.heap.IsSliceOf sl vl vu vs) (pl:aaM vl lo) (pu:aaM vu hi) (ps:aaM vs none)
  (h:Q (.ref s.heap.objs.size) { s with heap:=s.heap.push { cls:=.type "list",data:=.seq (slicePick items lo hi none) } })
  (hsz:items.size<=U0):Ss C.M A (XM (.ref x) (.ref sl)) Q E s:=by
 refine fF (id hs) λos hos hcs hds=>?_
 have hTs:s.TypeIs (.ref sl) "slice":=⟨os,hos,hcs⟩
 have ho:=I.at_
 unfold XM
 refine SR (kV (pY J X I (kV ?_)))
 refine ij J X I JS.getitem VX entry_list_getitem (.inr jp) iL (args_list_getitem _ _) ?_
 show Ss _ _ (Um (.ref sl) >>= _) _ _ s
 refine kV ?_
 ·unfold Um
  refine kV (Vn hTs slice_no_index ?_)
  skip
  refine Sl ?_
  show Ss _ _ (Xv (.ref sl) >>= _) _ _ s
  refine kV (YQ hTs ?_)
  skip
  refine GH (listSliceParts_eq ..) ?_
  have hstep:¬((rawPart none == VC 0)=Sk):=VD
  refine kV (kV (TH hos hds (x:=vs) rfl (kV (V5 ps ?_))))
  skip
  refine kV (TH hos hds (x:=vl) rfl (kV (V5 pl ?_)))
  refine kV (TH hos hds (x:=vu) rfl (kV (V5 pu (Sl ?_))))
  refine kV (m:=TX (.ref x)) ?_
  ·unfold TX
   refine kV (T6 ho hd (Sl ?_))
   refine kV (TT (sliceIndices_raw lo hi none items.size (by simp)) ?_)
   refine kV (TK (Sl ⟨_,rfl,Sl h⟩) (So (slicePick_size_le items lo hi none) hsz))
def L8 (C:Cfg)(fx:Fx)(d:Nat)(e:SV Expr)(c:CE):Prop:=
 ∀(A:Ue) (env:Env) (σ:Sj Sx) (fm:Fm) (st:St) (s:Sw) (k:V->St->Sm),Rm d A->ba fx env->Inv C σ st s->FrR C fx env fm σ s->c fm st k=Sk->fZ C A (evalPart e env) σ s k
theorem jn:L8 C fx d none (ao .none):=by
 intro A env σ fm st s k R E I F h
 refine wE (Yn ..) ?_
 exact Sl (cQ I s.toks .none h)
theorem ge {e:Expr}{c:CE}(h:SE C fx d e c):L8 C fx d (Si e) c:=λA env σ fm st s k R E I F q=>by
 rw[ZT];exact h A env σ fm st s k R E I F q
theorem dk (h:aB n=Sk):n<=U0:=So (bU h) (bo rfl)
theorem qA (Ok:C.Ok)(J:cJ C)(JS:eP C){a:Expr}{lo hi:SV Expr}{cl ch:CE} (ha:SE C fx d a ca)(hl:L8 C fx d lo cl)(hh:L8 C fx d hi ch) :
  SE C fx d (.Subscript a (.Slice lo hi none p) pos) (uS ca cl ch):=by
 intro A env σ fm st s k R E I F h
 refine Subscript_ (aw (ha A env σ fm st s _ R E I F h) λσ1 x st1 u aaV aaZ aa1 aa4 aaX=>wpAny_Slice ?_)
 refine aw (hl A env σ1 fm st1 aaV _ R E aa1 (aaZ.fr0 F) aaX) λσ2 y st2 v aaW aa6 aa9 aba aa7=>?_
 refine aw (hh A env σ2 fm st2 aaW _ R E aa9 (aa6.fr0 (aaZ.fr0 F)) aa7) λabk z abo w aa5 abe abc abj aa3=>?_
 refine wE (Yn ..) ?_
 refine Sl ?_
 have rx:=abe.vr .nil (aa6.vr .nil aa4)
 have ry:=abe.vr .nil aba
 have S:=(aaZ.trans aa6).trans abe
 clear aa4 aba aaX aa7 h aaZ aa6 abe aa1 aa9
 have P:Step [] abk aa5 abk { aa5 with heap:=aa5.heap.push { cls:=.type "slice",data:=.fields #[v,w,.none] } }:=Step.pushed (t:=aa5.toks)
 have IP:Inv C abk abo { aa5 with heap:=aa5.heap.push { cls:=.type "slice",data:=.fields #[v,w,.none] } }:=abc.pushed (t:=aa5.toks)
 have rx':=P.vr .nil rx
 have isl:=Heap.IsSliceOf.new aa5.heap v w .none
 refine Sq (Q:=Out C [] abk _ k) ?_ (λ_ _ o=>o.trans (S.trans P)) λ_ _ e=>e
 induction rx' using VR.cases_e with
 | none=>exact ff aa3
 | bool=>exact ff aa3
 | int=>exact ff aa3
 | tup=>exact ff aa3
 | str l t=>
  refine dE (eH aa3) λhlen h4=>?_
  refine gw (za h4) λai bi pa pb h5=>?_
  obtain⟨_,qa,rfl,ea⟩:=ip pa ry
  obtain⟨_,qb,rfl,eb⟩:=ip pb abj
  refine Zj (V4 _ _ t) Wj.lookup (YB (l:=qa) (u:=qb) (st:=none) ⟨_,Heap.get?_push_size _ rfl,rfl,rfl⟩ rfl ?_) rfl
  have hp:=ye l ai bi
  have hle:(fL l ai bi).length<=l.length:=by unfold fL;rw[YC,Sj.length_drop];lia
  unfold sliceMade
  have e:Yg ⟨l.toArray⟩ qa qb none=UH ai bi 1 l.length:=by unfold Yg;rw[ea,eb];rfl
  rw[e]
  split
  ·rename_i q
   simp only[Ta,beq_iff_eq] at q
   refine cQ IP aa5.toks (.str l t) ?_
   rw[hp.2 q.2] at h5;exact h5
  ·rw[hp.1]
   rw[aC] at hlen
   exact⟨by have:=dk hlen;show(fL l ai bi).toArray.size<=_;rw[Sy];(exact So hle this),cQ IP _ (.str _ _) h5⟩
 | @ref n a e=>
  refine aE (St.get_t aa3) λo ho h4=>?_
  rcases kZ h4 with ⟨l,rfl,h5⟩ | ⟨c,d,fs,l,rfl,h5⟩
  ·refine dE (eH h5) λhlen h6=>?_
   refine gw (za h6) λai bi pa pb h7=>?_
   obtain⟨vs,m,g,q⟩:=IP.list ho e
   rw[aC] at hlen
   have hl:({ aa5 with heap:=aa5.heap.push { cls:=.type "slice",data:=.fields #[v,w,.none] } }:Sw).heap.IsList a vs.toArray:=⟨_,g,rfl,_,rfl⟩
   refine Zj hl.typeIs VX.lookup (wpAny_getItem_list_slice hl isl (ip pa ry).1 (ip pb abj).1 .none (by simp) ?_ (by rw[Sy,q.length];exact dk hlen)) rfl
   rw[xo]
   exact gk (n:=0) (t:=aa5.toks) IP (q.cut ai bi) h7
  ·refine dE (eH h5) λhlen h6=>?_
   refine gw (za h6) λai bi pa pb h7=>?_
   obtain⟨b,hb',r⟩:=IP.at_ n _ ho
   have:b=a:=Si.inj (hb'.symm.trans e)
   subst this
   obtain⟨hc,dx,es,m,vs,m',hdx,hox,hD,er,hvs⟩:=r
   subst hc
   rw[aC] at hlen
   have IA:Us ({ aa5 with heap:=aa5.heap.push { cls:=.type "slice",data:=.fields #[v,w,.none] } }:Sw).heap b _ 244 (Si (VQ es m)):=⟨hox,rfl,rfl,hD⟩
   refine rD JS (IP.X Ok) IA (xR J JS (IP.X Ok) IA rfl isl (ip pa ry).1 (ip pb abj).1 .none ?_ (by rw[Sy,hvs.length];exact dk hlen)) rfl
   rw[xo]
   exact gk (n:=0) (t:=aa5.toks) IP (hvs.cut ai bi) h7
end
section
variable {C:Cfg}{fx:Fx}{d:Nat}{A:Around}{env:Env}{σ σ1:List Addr}{fm:Fm}{st:St}{s aaV:Shared}
theorem Heap.SameBut.keeps' (x:Heap.SameBut a h h'):∀b o,b∉[a]->h.get? b=Si o->h'.get? b=Si o:=λb o n e=>(x.2 b (λq=>n (Sn.mpr q))).trans e
theorem Step.frame {t:Nat}(x:Heap.SameBut L s.heap h'):Step [L] σ s σ { s with heap:=h',toks:=t }:=
 ⟨⟨[],by simp,λ_ h=>nomatch h⟩,λb o _ w e=>Heap.SameBut.keeps' x b o w e,rfl,λh=>h⟩
theorem FrR.store {t:Nat}{m:Str->SV Sr}(hok:fx.ok=Sk)(F:FrR C fx env fm σ s)(I:Inv C σ st s)(hx:fx.ln[i]? = Si x)(hi:i<fm.loc.length)(r:VR σ s.heap v u)
  (hm:s.heap.Ns env.locals m) (hn:h'.Ns env.locals (λy=>if y=x then Si u else m y)) (hs:Heap.SameBut env.locals s.heap h') :
  Inv C σ st { s with heap:=h',toks:=t }/\FrR C fx env ⟨fm.loc.set i (Si v),fm.cel⟩ σ { s with heap:=h',toks:=t }:=by
 have nt:Step.NoTup [env.locals] s.heap:=Heap.Ns.noTup hm
 have S:Step [env.locals] σ s σ { s with heap:=h',toks:=t }:=Step.frame hs
 refine⟨I.other (W:=[env.locals]) (Heap.SameBut.keeps' hs) (λb m=>by rw[Sn.mp m];exact⟨F.out,F.new⟩) nt,⟨_,hn,λj y w e e'=>?_⟩,F.out,F.new,by simpa using F.len,λj n e=>?_⟩
 ·refine aE (F.ns) λm' hm' hv=>?_
  by_cases q:j=i
  ·subst q
   rw[hx] at e;cases e
   simp only[Sj.getElem?_set_self hi] at e'
   cases e'
   exact⟨u,SX rfl,S.vr nt r⟩
  ·simp only[Sj.getElem?_set_ne (Ne.symm q)] at e'
   refine aE (hv j y w e e') λu' a b=>?_
   refine⟨u',?_,S.vr nt b⟩
   rw[SK ?_,←hm'.agree hm]
   ·exact a
   ·intro z
    subst z
    refine bG (SJ.mp e) λlj ej=>?_
    refine bG (SJ.mp hx) λli ei=>?_
    have P:=UU.mp (Fx.ok_nd hok)
    rcases Nat.lt_or_gt_of_ne q with z | z
    ·exact P j i lj li z (ej.trans ei.symm)
    ·exact P i j li lj z (ei.trans ej.symm)
 ·exact F.cel j n e
theorem fA {c:Sm} {k:Fm->St->Sm} (hx:gU fx c i=Si x)(hown:c=Sk->x∈fx.own)(hok:fx.ok=Sk)(E:ba fx env)(I:Inv C σ st s)(F:FrR C fx env fm σ s)(r:VR σ s.heap v u)(h:fQ c i fm v st k=Sk) :
  Ss C.M A (aat env x u) (OutG C fx env σ s k) cM s:=by
 induction c with
 | false=>
  refine pZ h λhi h1=>?_
  refine aE (F.ns) λm hm _=>?_
  refine Ut (E.ln x (Su hx)) hm (λh' hn hs=>?_) (by rw[E.kind];rfl)
  refine dE (F.store (t:=s.toks+1) hok I hx hi r hm hn hs) λI' F'=>?_
  exact⟨σ,_,st,Step.frame hs,I',F',h1⟩
 | true=>
  refine gJ h λn e h1=>?_
  refine St.get_e h1 λo ho h2=>?_
  clear hok h1
  refine g9 h2 λw e81 h3=>?_;subst e81
  refine St.set_e h3 λst' e1 e2 e81 h4=>?_;refine dE e81 λe3 _=>?_
  refine gw (F.cel i n e) λy a h5 h6 h7=>?_
  have:y=x:=Si.inj (h5.symm.trans hx)
  clear hx h2 h3 h5
  subst this
  obtain⟨b,hb,rb⟩:=I.at_ n _ ho
  have:b=a:=Si.inj (hb.symm.trans h7)
  clear h7
  subst this
  obtain⟨ack,hc⟩:∃ack,s.heap.IsCell b ack:=by
   induction w with
   | none=>exact⟨_,rb⟩
   | some w=>obtain⟨u',q,_⟩:=rb;exact⟨_,q⟩
  have mb:b∈σ:=Su hb
  refine wpAny_storeName_cell E.kind (E.own y (hown rfl)) h6 hc λh' hn hs=>?_
  have kp:=Heap.SameBut.keeps' hs
  have S:Step [] σ s σ { s with heap:=h' }:=⟨⟨[],by simp,λ_ h=>nomatch h⟩,λc o m _ e=>kp c o (λq=>m (by rw[Sn.mp q];exact mb)) e,rfl,λh=>h⟩
  have r':VR σ h' v u:=S.vr .nil r
  refine⟨σ,fm,st',S.up,?_,S.fr0 F,h4⟩
  refine I.put (B:=[b]) e1 e2 e3 ho (λq=>nomatch q) rfl (λb' hb'=>.inl (by rw[Sn.mp hb'];exact hb)) kp (λb' hb'=>by rw[Sn.mp hb'];obtain⟨o,g,_⟩:=hn;show(h'.get? b).isSome=Sk;rw[g];rfl) λa' ha' _=>?_
  have:a'=b:=Si.inj (ha'.symm.trans hb)
  clear hown E I F r h hs e ho e1 e2 e3 h4 h6 hb rb hc mb kp S ha'
  subst this
  exact⟨u,hn,r'⟩
theorem iU {c:Sm} (hx:gU fx c i=Si x)(hown:c=Sk->x∈fx.own)(hok:fx.ok=Sk):SG C fx d (.Name x pos) (ay c i):=by
 intro A env σ fm st s k v u R E I F r h
 exact Wk (fA hx hown hok E I F r h)
theorem vU (Ok:C.Ok)(J:cJ C){a:Expr} {x:Nat}{name:Str} (hn:name=aW x)(hx:x<12)(ha:SE C fx d a ca):SG C fx d (.Attribute a name pos) (eQ ca x):=by
 intro A env σ fm st s k v u R E I F r h
 subst hn
 refine wE (arm_assign_Attribute ..) ?_
 refine kV (SR (aw (ha A env σ fm st s _ R E I F h) λσ1 y st1 o aaV aaZ aa1 aa4 aaX=>kV (TF (kV (SR ?_)))))
 refine Sq (xK Ok J hx aa1 aa4 (aaZ.vr .nil r) aaX) ?_ λ_ _ e=>e
 rintro _ s' ⟨st',S',I',h'⟩
 refine ZU ⟨σ1,fm,st',(aaZ.trans S').up,I',S'.fr0 (aaZ.fr0 F),h'⟩
end
section
variable {C:Cfg}{fx:Fx}{d:Nat}{A:Around}{env:Env}{σ σ1:List Addr}{fm:Fm}{st:St}{s aaV:Shared}
theorem ft (f:Array Sr->Array Sr)(vs:Sj Sr)(n:Nat):∃n',S9 f (cB vs n)=cB (f vs.toArray).toList n':=⟨_,rfl⟩
theorem vd (f:Array Sr->Array Sr)(c:Sr)(dx:SV Sx)(vs:Sj Sr)(n:Nat):∃n',S9 f ⟨c,dx,.seq vs.toArray n,#[]⟩=⟨c,dx,.seq (f vs.toArray).toList.toArray n',#[]⟩:=⟨_,rfl⟩
theorem Inv.putList (I:Inv C σ st s) {l':Sj V} {f:Array Sr->Array Sr}{t:Nat}(e:st.look n=Si (.list l))(ha:σ[n]? = Si a)(g:s.heap.get? a=Si (cB vs m))
  (hn:st'.n=st.n) (hl:∀j,st'.look j=if j=n then Si (.list l') else st.look j) (h4:4<=n) (r:VRs σ s.heap l' (f vs.toArray).toList):Inv C σ st' { s with heap:=s.heap.update a (S9 f),toks:=t }:=by
 have ma:a∈σ:=Su ha
 obtain⟨m',hm⟩:=ft f vs m
 have g':(s.heap.update a (S9 f)).get? a=Si (cB (f vs.toArray).toList m'):=by
  rw[Heap.get?_update_self _ g (by rw[hm];rfl),hm]
 refine I.put (B:=[a]) hn hl h4 e (λq=>nomatch q) rfl (λb' hb'=>.inl (by rw[Sn.mp hb'];exact ha)) (λb' x nb q=>?_) (λb' hb'=>by rw[Sn.mp hb'];show((s.heap.update a _).get? a).isSome=Sk;rw[g'];rfl) λa' ha' _=>?_
 ·show(s.heap.update a _).get? b'=_
  rw[Heap.get?_update_other _ _ (λq=>nb (Sn.mpr q.symm))];exact q
 ·have:a'=a:=Si.inj (ha'.symm.trans ha)
  subst this
  exact⟨_,m',g',jT ma r⟩
theorem Inv.putSub (I:Inv C σ st s) {l':Sj V}{f:Array Sr->Array Sr}{t:Nat} {dx:SV Sx}(e:st.look n=Si (.lsub c d fs l))(ha:σ[n]? = Si a)(g:s.heap.get? a=Si ⟨.ref 244,dx,.seq vs.toArray m,#[]⟩)
  (hn:st'.n=st.n) (hl:∀j,st'.look j=if j=n then Si (.lsub c d fs l') else st.look j) (h4:4<=n) (r:VRs σ s.heap l' (f vs.toArray).toList):Inv C σ st' { s with heap:=s.heap.update a (S9 f),toks:=t }:=by
 have ma:a∈σ:=Su ha
 obtain⟨m',hm⟩:=vd f (.ref 244) dx vs m
 have g':(s.heap.update a (S9 f)).get? a=Si ⟨.ref 244,dx,.seq (f vs.toArray).toList.toArray m',#[]⟩:=by
  rw[Heap.get?_update_self _ g (by rw[hm];rfl),hm]
 refine I.put (B:=[a]) hn hl h4 e (λq=>nomatch q) rfl (λb' hb'=>.inl (by rw[Sn.mp hb'];exact ha)) (λb' x nb q=>?_) (λb' hb'=>by rw[Sn.mp hb'];show((s.heap.update a _).get? a).isSome=Sk;rw[g'];rfl) λa' ha' ro=>?_
 ·show(s.heap.update a _).get? b'=_
  rw[Heap.get?_update_other _ _ (λq=>nb (Sn.mpr q.symm))];exact q
 ·have:a'=a:=Si.inj (ha'.symm.trans ha)
  clear hn hl hm ha'
  subst this
  obtain⟨hc,dx',es,k,vs',m'',h1,h2,h3,h4,h5⟩:=ro
  clear st' h5
  subst hc
  rw[show dJ 2=244 from rfl] at h2
  rw[h2] at g
  clear h2
  cases g
  have hne:a'≠dx':=λq=>by
   have hi:=I.inj h1 (q▸ha)
   clear t m ha q
   subst hi
   have:=I.dict _ 2 _ fs l (.inr e)
   rw[e] at this;cases this
  exact⟨rfl,dx',es,k,_,m',h1,g',by show(s.heap.update a' _).get? dx'=_;rw[Heap.get?_update_other _ _ hne];exact h3,h4.mono (λr=>gf ma r),jT ma r⟩
theorem ya {l:Sx}{o:Obj} {k:Int}{t:Tok} {v:Sr} {Q:Unit->Sw->Prop}(ho:s.heap.get? l=Si o)(hc:o.cls=.type "list")(hd:o.data=.seq items n)
  (hfit:UJ k=Sk) (hj:Wb k items.size=Si j) (hlt:j<items.size)
  (hQ:Q () { s with heap:=s.heap.update l (S9 (·.setIfInBounds j v)) }):Ss C.M A (ZE (.ref l) (.int k t) v) Q E s:=by
 have hl:s.heap.IsList l items:=⟨o,ho,hc,n,hd⟩
 have hx:items[j]? = Si items[j]:=Array.getElem?_eq_getElem hlt
 unfold ZE
 refine SR (kV (wpAny_sequenceKey hl.typeIs (by decide) ?_))
 refine kV (T7 (name:=TY "__setitem__") hl.typeIs Yh
  (Uh Yh hl.typeIs entry_list_setitem ?_ (args_list_setitem _ _ _)))
 show Ss _ _ (Um (.int k t) >>= _) _ _ s
 refine kV (Yz hfit ?_)
 induction k with
 | ofNat i=>
  have e:i=j:=by
   unfold Wb at hj
   split at hj
   ·rename_i q;exact Tc q (XQ.mpr (UV i))
   ·dsimp only at hj
    split at hj
    ·exact(Si.inj hj)
    ·exact iq hj
  subst e
  show Ss _ _ ((seqItemAt l i >>= λr=>pure (r.map (i,·))) >>= _) _ _ s
  refine kV (kV (wpAny_seqItemAt ho hd (Sl ?_)))
  rw[hx]
  show Ss _ _ (setSeqItemAt l i v >>= _) _ _ s
  refine kV (wpAny_setSeqItemAt ho hd ?_)
  first
   | exact kV (Sl (Sl ⟨.none,rfl,Sl hQ⟩))
   | exact Sl ⟨.none,rfl,Sl hQ⟩
 | negSucc i=>
  show Ss _ _ ((TX (.ref l) >>= λxs=>pure ((Wb (Zd i) xs.size).bind λi=>xs[i]?.map (i,·))) >>= _) _ _ s
  refine kV (kV ?_)
  show Ss _ _ (Wy (.ref l) >>= _) _ _ s
  refine kV (T6 ho hd (Sl (Sl ?_)))
  rw[hj]
  simp only[Vf,hx,Uz]
  show Ss _ _ (setSeqItemAt l j v >>= _) _ _ s
  refine kV (wpAny_setSeqItemAt ho hd ?_)
  first
   | exact kV (Sl (Sl ⟨.none,rfl,Sl hQ⟩))
   | exact Sl ⟨.none,rfl,Sl hQ⟩
theorem wM {x y:V}{i w:Sr}{k:St->Sm}(I:Inv C σ st s)(rx:VR σ s.heap x u)(ry:VR σ s.heap y i)(rv:VR σ s.heap v w)(h:ng x y v st k=Sk):Ss C.M A (ZE u i w) (JW C σ s k) cM s:=by
 refine bN h λn e81 h1=>?_;clear h;subst e81
 refine aO h1 λj e81 h2=>?_;clear h1;subst e81
 refine aM h2 λhs h3=>?_;clear h2
 refine bC h3 λl hl h4=>?_;clear h3
 refine fF (JK h4) λp hp hij h5=>?_
 refine pZ h5 λ_ h6=>?_;clear h5
 refine St.set_e h6 λst' e1 e2 e81 h7=>?_;clear h6;refine dE e81 λe3 _=>?_
 rw[aC] at hp hij
 refine VR.int_e ry λ_=>?_
 refine VR.ref_e rx λa e=>?_
 obtain⟨vs,m,g,q⟩:=I.list hl e
 refine ya g rfl rfl (vc hs) (by rw[Sy,q.length];exact dO hp hij) (by rw[Sy,q.length];exact hp) ?_
 refine⟨st',Step.wrote (t:=s.toks) (Su e),I.putList hl e g e1 e2 e3 ?_,h7⟩
 simpa using q.set p rv
theorem AE {a i:Expr}{ci:CE} (ha:SE C fx d a ca)(hi:SE C fx d i ci):SG C fx d (.Subscript a i pos) (zf ca ci):=by
 intro A env σ fm st s k v u R E I F r h
 refine wE (arm_assign_Subscript ..) ?_
 refine kV (SR (aw (ha A env σ fm st s _ R E I F h) λσ1 x st1 o aaV aaZ aa1 aa4 aaX=>kV (SR ?_)))
 refine aw (hi A env σ1 fm st1 aaV _ R E aa1 (aaZ.fr0 F) aaX) λσ2 y st2 w aaW aa6 aa9 aba aa7=>kV (TF (kV (SR ?_)))
 refine Sq (wM aa9 (aa6.vr .nil aa4) aba ((aaZ.trans aa6).vr .nil r) aa7) ?_ λ_ _ e=>e
 rintro _ s' ⟨st',S',I',h'⟩
 exact ZU ⟨σ2,fm,st',((aaZ.trans aa6).trans S').up,I',S'.fr0 (aa6.fr0 (aaZ.fr0 F)),h'⟩
end
section
variable {C:Cfg}{fx:Fx}{d:Nat}{A:Around}{env:Env}{σ σ1:List Addr}{fm:Fm}{st:St}{s aaV:Shared}
variable {E:Value->Shared->Prop}
theorem nH {it t:Sx} (hne:t≠it):∀(n i:Nat)(s:Sw)(Q:Sj Sr->Sw->Prop),s.heap.IsListIter it t i->s.heap.IsList t items->i+n<=items.size ->
  (∀h',h'.IsListIter it t (i+n)->Heap.SameBut it s.heap h'->Q ((items.toList.drop i).take n) { s with heap:=h' })->Ss C.M A (draw (.ref it) n) Q E s
 | 0,i,s,Q,hit,_,_,hQ=>by
  show Ss _ _ (pure []) Q E s
  exact Sl (by simpa using hQ s.heap hit (Heap.SameBut.refl ..))
 | n+1,i,s,Q,hit,ht,hle,hQ=>by
  have hlt:i<items.size:=by(exact Nat.lt_of_add_right_lt hle)
  show Ss _ _ (UO (.ref it) >>= _) Q E s
  refine kV (WM hit ht (x:=items[i]) (by simp[hlt]) λaaX hit1 abh=>?_)
  refine kV (SR (nH hne n (i+1) _ _ hit1 (ht.extBut abh.extBut hne) (by lia) λaa7 hit2 abm=>Sl ?_))
  have hd:items.toList.drop i=items[i]::items.toList.drop (i+1):=by simp[Yb,hlt]
  have:=hQ aa7 (by rw[show i+(n+1)=i+1+n by(exact Eq.symm (Ui i n))];exact hit2) (abh.trans abm)
  rw[hd,Sj.take_succ_cons] at this
  exact this
theorem kA {t:Sx} {Q:Sj Sr->Sw->Prop}(hh:A.handled=none)(ht:s.heap.IsList t items)
  (hQ:∀h',Heap.ExtBut s.heap.objs.size s.heap h'->Q items.toList { s with heap:=h' }):Ss C.M A (unpackItems (.ref t) items.size none) Q E s:=by
 have hlt:t≠s.heap.objs.size:=by refine aE ht λo ho _=>?_;exact SP (Heap.lt_size ho)
 unfold unpackItems
 refine kV ?_
 ·unfold notIterableAtAll
  refine kV (Vn ht.typeIs Zk.lookup ?_)
  refine Sl ?_
  skip
  refine kV (SR (WN ht ?_))
  refine kV (SR (nH hlt items.size 0 _ _ ⟨_,Heap.get?_push_size _ rfl,rfl,rfl⟩ (ht.push _) (by lia) λaaX hit1 abh=>?_))
  have hall:Sj.take items.size (Sj.drop 0 items.toList)=items.toList:=by
   rw[Sj.drop_zero];exact UP (by simp)
  rw[hall]
  refine wN (by simp) ?_
  have ht1:aaX.IsList t items:=(ht.push _).extBut abh.extBut hlt
  refine kV (SR (W4 hh hit1 ht1 (by simp) λaa7 he2=>?_))
  skip
  refine Sl (hQ aa7 λb o hb e=>he2 b o hb (abh.extBut b o hb (Heap.get?_push_of_some _ e)))
theorem Heap.ExtBut.all (x:Heap.ExtBut h.objs.size h h'):∀b o,h.get? b=Si o->h'.get? b=Si o:=λb o e=>x b o (SP (Heap.lt_size e)) e
theorem Step.all {t:Nat}(x:∀b o,s.heap.get? b=Si o->h'.get? b=Si o):Step [] σ s σ { s with heap:=h',toks:=t }:=⟨⟨[],by simp,λ_ h=>nomatch h⟩,λb o _ _ e=>x b o e,rfl,λh=>h⟩
theorem Cd {targets:Sj (Sm×(Sr->Sem Unit))}{Q:Unit->Sw->Prop}{k:Sj V->Sm}(hh:A.handled=none)(hm:targets.length=m)(hstar:targets.findIdx? (·.1)=none)(I:Inv C σ st s)(r:VR σ s.heap v u)
  (hv:cr v dV (λ_=>dV) (λ_=>dV) (λ_=>dV) (λn=>bh st n λl=>aD (SN (aK l) m) (k l) dV) (λl=>aD (SN (aK l) m) (k l) dV)=Sk)
  (h:∀l us s',Step [] σ s σ s'->Inv C σ st s'->VRs σ s'.heap l us->k l=Sk->l.length=m->Ss C.M A (ZV (targets.map (·.2)) us) Q E s'):Ss C.M A (unpack u targets) Q E s:=by
 unfold unpack
 induction r using VR.cases_e with
 | none=>exact ff hv
 | bool=>exact ff hv
 | int=>exact ff hv
 | str=>exact ff hv
 | tup e n q=>
  rename_i l us a c
  refine aM hv λhl hk=>?_
  have hl:=SQ hl
  rw[aC] at hl
  have ht:IsTup s.heap a us.toArray:=⟨_,e,rfl,_,rfl⟩
  rw[hm,hstar,show m=us.toArray.size by rw[Sy,q.length,hl]]
  refine kV (SR (unpackItems_tuple hh ht λh' he=>?_))
  have K:=Heap.ExtBut.all he
  have S:Step [] σ s σ { s with heap:=h' }:=Step.all (t:=s.toks) K
  exact h l us _ S (I.grow K) (S.vrs .nil q) hk (by rw[←hl])
 | @ref n a e=>
  refine bC hv λl hl h1=>?_;clear hv
  refine aM h1 λhlen hk=>?_;clear h1
  have hlen:=SQ hlen
  rw[aC] at hlen
  obtain⟨us,c,g,q⟩:=I.list hl e
  have ht:s.heap.IsList a us.toArray:=⟨_,g,rfl,_,rfl⟩
  rw[hm,hstar,show m=us.toArray.size by rw[Sy,q.length,hlen]]
  refine kV (SR (kA hh ht λh' he=>?_))
  have K:=Heap.ExtBut.all he
  have S:Step [] σ s σ { s with heap:=h' }:=Step.all (t:=s.toks) K
  exact h l us _ S (I.grow K) (S.vrs .nil q) hk (by rw[←hlen])
def I5 (C:Cfg)(fx:Fx)(d:Nat)(ts:Sj Expr)(c:xL):Prop:=
 (∀env,(Uc ts env).length=ts.length/\(Uc ts env).findIdx? (·.1)=none) /\
 ∀(A:Ue) (env:Env) (σ:Sj Sx) (fm:Fm) (st:St) (s:Sw) (k:Fm->St->Sm) (l:Sj V) (us:Sj Sr),Rm d A->ba fx env->Inv C σ st s->FrR C fx env fm σ s->VRs σ s.heap l us->l.length=ts.length->c fm l st k=Sk ->
  Ss C.M A (ZV ((Uc ts env).map (·.2)) us) (OutG C fx env σ s k) cM s
theorem cj:I5 C fx d [] eS:=by
 refine⟨λ_=>⟨rfl,rfl⟩,λA env σ fm st s k l us R E I F r _ h=>?_⟩
 refine tB h λe81 h1=>?_;clear h;subst e81
 exact Yi ⟨σ,fm,st,.refl,I,F,h1⟩
theorem Heap.Ns.noTup' (F:FrR C fx env fm σ s):Step.NoTup [env.locals] s.heap:=by refine aE (F.ns) λm hm _=>?_;exact Heap.Ns.noTup hm
theorem lI {t:Expr}{ts:Sj Expr}{ct:CG}{cs:xL}(he:∀env,Uc (t::ts) env=(dV,assign t env)::Uc ts env)(ht:SG C fx d t ct)(hs:I5 C fx d ts cs):I5 C fx d (t::ts) (bg ct cs):=by
 refine⟨λenv=>⟨by rw[he,Tg,Tg,(hs.1 env).1],by rw[he,Sj.findIdx?_cons,(hs.1 env).2];rfl⟩,λA env σ fm st s k l us R E I F r hl h=>?_⟩
 refine mQ h λv q e81 h1=>?_;clear h;subst e81
 refine VRs.cons_e r λ_ _ a b=>?_
 rw[he]
 refine VE (Sq (ht A env σ fm st s _ v _ R E I F a h1) ?_ λ_ _ e=>e)
 rintro _ s' ⟨σ',fm',st',S',I',F',h'⟩
 refine Sq (hs.2 A env σ' fm' st' s' k q _ R E I' F' (S'.vrs (Heap.Ns.noTup' F) b) (by simpa using hl) h') (λ_ _ o=>o.trans S') λ_ _ e=>e
theorem cV {cs:xL} (hs:I5 C fx d es cs):SG C fx d (.Tuple es n pos) (fM es.length cs):=by
 intro A env σ fm st s k v u R E I F r h
 refine wE (PyProof.Rows.assign_Tuple ..) ?_
 refine kV (TF (Cd (k:=λl=>cs fm l st k) R.handled (hs.1 env).1 (hs.1 env).2 I r h λl us s' S I' r' h' hl=>?_))
 exact Sq (hs.2 A env σ fm st s' k l us R E I' (S.fr0 F) r' hl h') (λ_ _ o=>o.trans S.up) λ_ _ e=>e
end
section
variable {C:Cfg}{fx:Fx}{d:Nat}{A:Around}{env:Env}{σ σ1:List Addr}{fm:Fm}{st:St}{s aaV:Shared}
theorem an:SL C fx d [] aH:=by
 intro A env σ fm st s k R E I F h
 exact wpAny_execs_nil ⟨σ,.nxt,fm,st,.refl,I,F,trivial,h⟩
theorem ad {x:Stmt}{xs:Sj Stmt}{cx cxs:CS}(hx:SS C fx d x cx)(hs:SL C fx d xs cxs):SL C fx d (x::xs) (aq cx cxs):=by
 intro A env σ fm st s k R E I F h
 refine wpAny_execs_cons (Sq (hx A env σ fm st s _ R E I F h) ?_ λ_ _ e=>e)
 intro f s' q
 induction q with | mk σ' fl fm' st' S I' F' r h'=>
 revert h'
 exact FlR.e r (λh'=>Sq (hs A env σ' fm' st' s' k R E I' F' h') (λ_ _ o=>o.trans S) λ_ _ e=>e) (λh'=>⟨σ',.brk,fm',st',S,I',F',trivial,h'⟩) (λh'=>⟨σ',.cnt,fm',st',S,I',F',trivial,h'⟩) λr h'=>⟨σ',.ret _,fm',st',S,I',F',r,h'⟩
theorem pM:SS C fx d (.Break pos) u9:=λA env σ fm st s k R E I F h=>wpAny_Break ⟨σ,.brk,fm,st,.refl,I,F,trivial,h⟩
theorem HE:SS C fx d (.Continue pos) Mz:=λA env σ fm st s k R E I F h=>wpAny_Continue ⟨σ,.cnt,fm,st,.refl,I,F,trivial,h⟩
theorem bF {e:Expr}{c:CE} (he:SE C fx d e c):SS C fx d (.Return (Si e) pos) (dq c):=by
 intro A env σ fm st s k R E I F h
 exact wpAny_Return_some (aw (he A env σ fm st s _ R E I F h) λσ1 x st1 u aaV aaZ aa1 aa4 aaX=>⟨σ1,.ret x,fm,st1,aaZ.up,aa1,aaZ.fr0 F,aa4,aaX⟩)
theorem Ea:SS C fx d (.Return none pos) Gm:=λA env σ fm st s k R E I F h=>wpAny_Return_none ⟨σ,.ret .none,fm,st,.refl,I,F,.none,h⟩
theorem Ej {e:Expr}{c:CE} (hs:∀env,VO e none pos.line env=pure dV)(he:SE C fx d e c):SS C fx d (.Expr e pos) (dI c):=by
 intro A env σ fm st s k R E I F h
 refine wpAny_Expr (aw (he A env σ fm st s _ R E I F h) λσ1 x st1 u aaV aaZ aa1 aa4 aaX=>?_) (by unfold interactive;rw[E.kind];rfl) (hs env)
 cases aa4 with
 | none=>exact⟨σ1,.nxt,fm,st1,aaZ.up,aa1,aaZ.fr0 F,trivial,aaX⟩
 | _=>exact ff aaX
theorem cS {c:Expr}{a b:Sj Stmt} {ca cb:CS} (hc:ST C fx d c cc)(ha:SL C fx d a ca)(hb:SL C fx d b cb):SS C fx d (.If c a b pos) (hW cc ca cb):=by
 intro A env σ fm st s k R E I F h
 refine wpAny_If (Sq (hc A env σ fm st s _ R E I F h) ?_ λ_ _ e=>e)
 rintro x s' ⟨σ',st',S,I',h'⟩
 induction x with
 | true=>exact Sq (ha A env σ' fm st' s' k R E I' (S.fr0 F) h') (λ_ _ o=>o.trans S.up) λ_ _ e=>e
 | false=>exact Sq (hb A env σ' fm st' s' k R E I' (S.fr0 F) h') (λ_ _ o=>o.trans S.up) λ_ _ e=>e
theorem OutG.toS {k:Fl->Fm->St->Sm}{u:Unit} (x:OutG C fx env σ s (k .nxt) u s'):OutS C fx env σ s k .next s':=by
 obtain⟨σ',fm',st',S,I,F,h⟩:=x
 exact⟨σ',.nxt,fm',st',S,I,F,trivial,h⟩
theorem qj {t e:Expr}{ct:CG}{c:CE} (hs:∀env,ba fx env->Xl [t] e pos.line env=pure dV)(hw:∀env,ba fx env->VP [t] e env=pure none)(hm:∀env,(Uc [t] env).map (·.2)=[assign t env])
  (he:SE C fx d e c) (ht:SG C fx d t ct):SS C fx d (.Assign [t] e pos) (aV c ct):=by
 intro A env σ fm st s k R E I F h
 refine wpAny_Assign_stores (aw (he A env σ fm st s _ R E I F h) λσ1 x st1 u aaV aaZ aa1 aa4 aaX=>?_) (hs env E) (hw env E)
 rw[hm]
 exact Sq (ht A env σ1 fm st1 aaV (k .nxt) x u R E aa1 (aaZ.fr0 F) aa4 aaX) (λ_ _ o=>(OutG.toS o).trans aaZ.up) λ_ _ e=>e
theorem C7 {aaY aa2 abg e:Expr}{abi abt abX:CG}{c:CE} (hm:∀env,(Uc [aaY,aa2,abg] env).map (·.2)=[assign aaY env,assign aa2 env,assign abg env])(hw:∀env,VP [aaY,aa2,abg] e env=pure none)
  (he:SE C fx d e c) (aaX:SG C fx d aaY abi) (aa7:SG C fx d aa2 abt) (aa3:SG C fx d abg abX):SS C fx d (.Assign [aaY,aa2,abg] e pos) (aV c (rV abi (rV abt abX))):=by
 intro A env σ fm st s k R E I F h
 refine wpAny_Assign_three (aw (he A env σ fm st s _ R E I F h) λσ1 x st1 u aaV aaZ aa1 aa4 acr=>?_) (hm env) (hw env)
 refine Sq (aaX A env σ1 fm st1 aaV _ x u R E aa1 (aaZ.fr0 F) aa4 acr) ?_ λ_ _ e=>e
 rintro _ aaW ⟨σ2,acy,st2,aa6,aa9,abz,acw⟩
 have aba:=aa6.vr (Heap.Ns.noTup' (aaZ.fr0 F)) aa4
 refine Sq (aa7 A env σ2 acy st2 aaW _ x u R E aa9 abz aba acw) ?_ λ_ _ e=>e
 rintro _ aa5 ⟨abk,abx,abo,abe,abc,abr,abT⟩
 exact Sq (aa3 A env abk abx abo aa5 (k .nxt) x u R E abc abr (abe.vr (Heap.Ns.noTup' abz) aba) abT) (λ_ _ o=>(OutG.toS o).trans ((aaZ.up.trans aa6).trans abe)) λ_ _ e=>e
theorem lO {cc:Sm} {e:Expr}{c:CE}{o:Operator} (hx:gU fx cc i=Si x)(hown:cc=Sk->x∈fx.own)(hok:fx.ok=Sk)(hop:A9 C (aau o) op)(he:SE C fx d e c) :
  SS C fx d (.AugAssign (.Name x p) o e pos) (u5 cc i op c):=by
 intro A env σ fm st s k R E I F h
 refine wpAny_AugAssign_Name (aw (rN hx hok E I F (k:=λv st=>c fm st λx st=>op v x st λy st=>fQ cc i fm y st λfm st=>k .nxt fm st) h) λσ1 x st1 u aaV aaZ aa1 aa4 aaX=>?_)
 refine aw (he A env σ1 fm st1 aaV _ R E aa1 (aaZ.fr0 F) aaX) λσ2 y st2 v aaW aa6 aa9 aba aa7=>?_
 refine aw (hop A σ2 st2 aaW _ _ y u v (R.le (Th _)) aa9 (aa6.vr .nil aa4) aba aa7) λabk z abo w aa5 abe abc abj aa3=>?_
 exact Sq (fA hx hown hok E abc (abe.fr0 (aa6.fr0 (aaZ.fr0 F))) abj aa3) (λ_ _ o=>(OutG.toS o).trans ((aaZ.trans aa6).trans abe).up) λ_ _ e=>e
theorem DD (hop:∀x y st k,op x y st k=Sk->∃i j,x=.int i/\y=.int j/\k (.int (i+j)) st=Sk):A9 C (aau .Add) op:=by
 intro A σ st s k x y u v R I rx ry h
 refine gw (hop _ _ _ _ h) λi j e82 e83 h1=>?_;subst e82;subst e83
 refine VR.int_e rx λ_=>?_;refine VR.int_e ry λ_=>?_
 exact aav (cQ I _ (.int _ _) h1)
end
section
variable {C:Cfg}{fx:Fx}{d:Nat}{A:Around}{env:Env}{σ σ1:List Addr}{fm:Fm}{st:St}{s aaV:Shared}
inductive ItR (σ:Sj Sx)(h:Heap):It->Sx->Sj Sx->Prop
 | seq {n i:Nat} {a b:Sx}:σ[n]? = Si a->h.IsListIter b a i->ItR σ h (.seq n i) b [b]
 | tup {l:Sj V} {us:Sj Sr} {t b:Sx} {m i:Nat}:h.get? t=Si (cK us m)->t∉σ->IsTupIter h b t i->VRs σ h l (us.drop i)->ItR σ h (.tup l) b [b]
 | str {l:Sj Nat} {x:Str} {t:Tok} {i:Nat} {b:Sx}:h.IsStrIter b "str_ascii_iterator" x t i->l=x.cps.toList.drop i->ItR σ h (.str l) b [b]
 | rng {c st:Int} {n:Nat} {b:Sx}:Uk h b c n st->ItR σ h (.rng c n st) b [b]
 | enS {n i:Nat} {a b e:Sx} {old:Sr}:σ[n]? = Si a->h.IsListIter b a i->aaw h e b i old->e≠b->ItR σ h (.enS i n i) e [e,b]
 | enT {l:Sj Nat} {x:Str} {t:Tok} {i:Nat} {b e:Sx} {old:Sr}:h.IsStrIter b "str_ascii_iterator" x t i->aaw h e b i old->e≠b->l=x.cps.toList.drop i->i<=x.cps.size->ItR σ h (.enT i l) e [e,b]
theorem cE {p:Sx}{o:Obj}{T:String}(e:h.get? p=Si o)(c:o.cls=.type T)(n:T ≠ "tuple")(vs:Sj Sr)(m:Nat):h.get? p≠Si (cK vs m):=by
 intro q
 rw[e] at q
 cases q
 cases c
 exact n rfl
theorem ItR.e {P:It->Sx->Sj Sx->Prop}(seq:∀{n i:Nat}{a b:Sx},σ[n]? = Si a->h.IsListIter b a i->P (.seq n i) b [b])
  (tup:∀{l:Sj V} {us:Sj Sr} {t b:Sx} {m i:Nat},h.get? t=Si (cK us m)->t∉σ->IsTupIter h b t i->VRs σ h l (us.drop i)->P (.tup l) b [b])
  (str:∀{l:Sj Nat} {x:Str} {t:Tok} {i:Nat} {b:Sx},h.IsStrIter b "str_ascii_iterator" x t i->l=x.cps.toList.drop i->P (.str l) b [b])
  (rng:∀{c st:Int} {n:Nat} {b:Sx},Uk h b c n st->P (.rng c n st) b [b])
  (enS:∀{n i:Nat} {a b e:Sx} {old:Sr},σ[n]? = Si a->h.IsListIter b a i->aaw h e b i old->e≠b->P (.enS i n i) e [e,b])
  (enT:∀{l:Sj Nat} {x:Str} {t:Tok} {i:Nat} {b e:Sx} {old:Sr},h.IsStrIter b "str_ascii_iterator" x t i->aaw h e b i old->e≠b->l=x.cps.toList.drop i->i<=x.cps.size->P (.enT i l) e [e,b])
 (r:ItR σ h it b fp):P it b fp:=
 ItR.casesOn (motive:=λit b fp _=>P it b fp) r seq tup str rng enS enT
inductive Lv (h:Heap)(b:Sx):Prop
 | mk (o:Obj) (T:String) (e:h.get? b=Si o) (c:o.cls=.type T) (n:T ≠ "tuple")
theorem Oa {T:String}{R:Obj->Prop}(x:∃o,h.get? b=Si o/\o.cls=.type T/\R o)(n:T ≠ "tuple"):Lv h b:=x.elim λo y=>⟨o,T,y.1,y.2.1,n⟩
theorem N2 (x:Lv h b):∀p∈[b],Lv h p:=λ_ m=>(Sn.mp m)▸x
theorem Ry {e:Sx}(y:Lv h e)(x:Lv h b):∀p∈[e,b],Lv h p:=λp m=>(SD.mp m).elim (λq=>q▸y) (N2 x p)
theorem ItR.lv (r:ItR σ h it b fp):∀p∈fp,Lv h p:=
 r.e (P:=λ_ _ fp=>∀p∈fp,Lv h p) (λ_ q=>N2 (Oa q (by decide))) (λ_ _ q _=>N2 (Oa q (by decide))) (λq _=>N2 (Oa q (by decide))) (λq=>N2 ⟨_,_,q,rfl,by decide⟩) (λ_ q q' _=>Ry ⟨_,_,q',rfl,by decide⟩ (Oa q (by decide))) (λq q' _ _ _=>Ry ⟨_,_,q',rfl,by decide⟩ (Oa q (by decide)))
theorem ItR.noTup (r:ItR σ h it b fp):Step.NoTup fp h:=λp m vs n=>by
 cases r.lv p m with | mk o T e c ne=>exact cE e c ne vs n
theorem ItR.live (r:ItR σ h it b fp):∀p∈fp,∃o,h.get? p=Si o:=λp m=>by
 cases r.lv p m with | mk o T e c ne=>exact⟨o,e⟩
theorem ItR.memb (r:ItR σ h it b fp):b∈fp:=
 r.e (P:=λ_ b fp=>b∈fp) (λ_ _=>.head _) (λ_ _ _ _=>.head _) (λ_ _=>.head _) (λ_=>.head _) (λ_ _ _ _=>.head _) (λ_ _ _ _ _=>.head _)
structure Fp (C:Cfg)(σ:Sj Sx)(L:Sx)(fp:Sj Sx):Prop where
 out:∀p∈fp,p∉σ
 new:∀p∈fp,C.aa8.get? p=none
 loc:L∉fp
theorem vj {R:Obj->Prop}(k:∀o,h.get? b=Si o->h'.get? b=Si o)(x:∃o,h.get? b=Si o/\R o):∃o,h'.get? b=Si o/\R o:=x.elim λo y=>⟨o,k o y.1,y.2⟩
theorem ItR.step {W:Sj Sx} (r:ItR σ s.heap it b fp)(x:Step W σ s σ1 aaV)(nt:Step.NoTup W s.heap)(hw:∀p∈fp,p∉W)(ho:∀p∈fp,p∉σ):ItR σ1 aaV.heap it b fp:=
 r.e (P:=λit b fp=>(∀p∈fp,∀o,s.heap.get? p=Si o->aaV.heap.get? p=Si o)->ItR σ1 aaV.heap it b fp)
  (λh q kp=>.seq (x.idx h) (vj (kp _ (.head _)) q)) (λe n q v kp=>.tup (x.keep _ _ n (λm=>nt _ m _ _ e) e) (x.notin n (λm=>nt _ m _ _ e) e) (vj (kp _ (.head _)) q) (x.vrs nt v))
  (λq e kp=>.str (vj (kp _ (.head _)) q) e) (λq kp=>.rng (kp _ (.head _) _ q)) (λh q q' ne kp=>.enS (x.idx h) (vj (kp _ (.tail _ (.head _))) q) (kp _ (.head _) _ q') ne)
  (λq q' ne e le kp=>.enT (vj (kp _ (.tail _ (.head _))) q) (kp _ (.head _) _ q') ne e le) λp m o e=>x.keep p o (ho p m) (hw p m) e
theorem Fp.step {W:Sj Sx} (P:Fp C σ L fp)(r:ItR σ s.heap it b fp)(x:Step W σ s σ1 aaV)(hw:∀p∈fp,p∉W):Fp C σ1 L fp:=
 ⟨λp m=>by obtain⟨o,e⟩:=r.live p m;exact x.notin (P.out p m) (hw p m) e,P.new,P.loc⟩
theorem jC {t:Nat}(r:ItR σ s.heap it b fp)(P:Fp C σ env.locals fp)(I:Inv C σ st s)(F:FrR C fx env fm σ s)(hk:∀p o,p∉fp->s.heap.get? p=Si o->h'.get? p=Si o) :
  Step fp σ s σ { s with heap:=h',toks:=t }/\Inv C σ st { s with heap:=h',toks:=t }/\FrR C fx env fm σ { s with heap:=h',toks:=t }:=by
 have S:Step fp σ s σ { s with heap:=h',toks:=t }:=⟨⟨[],by simp,λ_ h=>nomatch h⟩,λp o _ w e=>hk p o w e,rfl,λh=>h⟩
 exact⟨S,I.other (W:=fp) hk (λp m=>⟨P.out p m,P.new p m⟩) r.noTup,S.fr r.noTup P.loc F⟩
inductive SGI (C:Cfg)(fx:Fx)(d:Nat):Expr->eN->Prop
 | v {t:Expr} {c:CG}:SG C fx d t c->SGI C fx d t (em c)
 | p {aaY aa2:Expr} {n:Nat} {pos:Pos} {abi abt:CG}:(∀env,Uc [aaY,aa2] env=(dV,assign aaY env)::Uc [aa2] env)->(∀env,Uc [aa2] env=[(dV,assign aa2 env)])->SG C fx d aaY abi->SG C fx d aa2 abt->SGI C fx d (.Tuple [aaY,aa2] n pos) (yW abi abt)
theorem SGI.e {P:Expr->eN->Prop}{t:Expr}{c:eN}(r:SGI C fx d t c)(v:∀{t:Expr}{c:CG},SG C fx d t c->P t (em c))
  (p:∀{aaY aa2:Expr} {n:Nat} {pos:Pos} {abi abt:CG},(∀env,Uc [aaY,aa2] env=(dV,assign aaY env)::Uc [aa2] env)->(∀env,Uc [aa2] env=[(dV,assign aa2 env)])->SG C fx d aaY abi->SG C fx d aa2 abt->P (.Tuple [aaY,aa2] n pos) (yW abi abt)):P t c:=
 SGI.casesOn (motive:=λt c _=>P t c) r v p
inductive z9 (C:Cfg)(fx:Fx)(env:Env)(fp:Sj Sx)(b:Sx)(σ:Sj Sx)(s:Sw)(k:It->Fm->St->Sm)(x:Unit)(s':Sw):Prop
 | mk (σ':Sj Sx) (fm':Fm) (st':St) (it':It) (S:Step (env.locals::fp) σ s σ' s') (I:Inv C σ' st' s') (F:FrR C fx env fm' σ' s') (r:ItR σ' s'.heap it' b fp) (P:Fp C σ' env.locals fp) (h:k it' fm' st'=Sk)
theorem DC {x v:Sr} {Q:Unit->Sw->Prop}(h:Q () s)(hX:Ss C.M A (TC (.Tuple [] 0 ⟨0,0,0,0⟩) x v) Q E s):Ss C.M A (TC target x v) Q E s:=by
 cases target <;> first | exact hX | exact Sl h
theorem xJ {o:Obj}{v:Sr}{T:String} {Q:Unit->Sw->Prop}(ho:s.heap.get? b=Si o)(hc:o.cls=.type T)
  (hn:(["enumerate","zip","dict_itemiterator","dict_reverseitemiterator","odict_iterator","itertools.zip_longest","itertools.pairwise"]:Sj String).contains T=dV) (h:Q () s):Ss C.M A (TC target (.ref b) v) Q E s:=by
 refine DC h ?_
 induction v with
 | ref a=>
  refine kV (Xd ho ?_)
  clear ho
  obtain⟨oc,od,oda,osl⟩:=o
  cases hc
  induction oda with
  | fields vs=>exact wN (λq=>by rw[hn] at q;exact UA q) (Sl h)
  | _=>exact Sl h
 | _=>exact Sl h
theorem Dn {it':It} {t:Nat} {o:Obj}{T:String}{k:It->Fm->St->Sm}(hg:SGI C fx d target gi)(R:Rm d A)(En:ba fx env)(I:Inv C σ st s)(F:FrR C fx env fm σ s)
  (r:ItR σ s.heap it b fp) (P:Fp C σ env.locals fp) (hk:∀p o,p∉fp->s.heap.get? p=Si o->h'.get? p=Si o) (r':ItR σ h' it' b fp) (rv:VR σ h' v u) (ho:h'.get? b=Si o) (hc:o.cls=.type T)
  (hn:(["enumerate","zip","dict_itemiterator","dict_reverseitemiterator","odict_iterator","itertools.zip_longest","itertools.pairwise"]:Sj String).contains T=dV) (h:gi fm (.v v) st (k it')=Sk) :
  Ss C.M A (TC target (.ref b) u) (λ_ aaV=>Ss C.M A (assign target env u) (z9 C fx env fp b σ s k) cM aaV) cM { s with heap:=h',toks:=t }:=by
 refine kS (jC (t:=t) r P I F hk) λS I' F'=>?_
 refine xJ (s:={ s with heap:=h',toks:=t }) ho hc hn ?_
 refine hg.e (P:=λtarget gi=>gi fm (.v v) st (k it')=Sk->Ss C.M A (assign target env u) (z9 C fx env fp b σ s k) cM { s with heap:=h',toks:=t }) (λhg h=>?_) (λ_ _ _ _ h=>ff h) h
 refine Sq (hg A env σ fm st _ (k it') v u R En I' F' rv h) (λ_ s' q=>?_) λ_ _ e=>e
 obtain⟨σ',fm',st',S',I'',F'',h''⟩:=q
 have hw:∀p∈fp,p∉[env.locals]:=λp m q=>P.loc (Sn.mp q▸m)
 exact⟨σ',fm',st',it',(S.more λb m=>.inl (.tail _ m)).trans (S'.more λb m=>.inl (Sn.mp m▸.head _)),I'',F'',ItR.step (s:={ s with heap:=h',toks:=t }) r' S' (Heap.Ns.noTup' F') hw P.out,Fp.step (s:={ s with heap:=h',toks:=t }) P r' S' hw,h''⟩
end
section
variable {C:Cfg}{fx:Fx}{d:Nat}{A:Around}{env:Env}{σ σ1:List Addr}{fm:Fm}{st:St}{s aaV:Shared}
theorem DQ {aaY aa2:Expr} {abi abt:CG}(he:∀env,Uc [aaY,aa2] env=(dV,assign aaY env)::Uc [aa2] env)(h2:∀env,Uc [aa2] env=[(dV,assign aa2 env)])(aaX:SG C fx d aaY abi)(aa7:SG C fx d aa2 abt):SG C fx d (.Tuple [aaY,aa2] n pos) (fM 2 (bg abi (bg abt eS))):=
 cV (lI he aaX (lI h2 aa7 cj))
theorem wI (x:Heap.ExtBut b h h') (m:b∈fp):∀p o,p∉fp->h.get? p=Si o->h'.get? p=Si o:=λp o n e=>x p o (λq=>n (q▸m)) e
theorem ni (x:Heap.SameBut b h h')(n:∀vs m,h.get? b≠Si (cK vs m))(r:VR σ h v u):VR σ h' v u:=
 r.mono (λ_ _ e=>e) λa vs m z e=>⟨z,by rw[x.2 a (λq=>n vs m (q▸e))];exact e⟩
theorem tn {v:Sj V}{u:Sj Sr}(x:Heap.SameBut b h h')(n:∀vs m,h.get? b≠Si (cK vs m))(r:VRs σ h v u):VRs σ h' v u:=
 r.mono (λ_ _ e=>e) λa vs m z e=>⟨z,by rw[x.2 a (λq=>n vs m (q▸e))];exact e⟩
theorem vT {it':It}{e T:Sx} {t:Nat}{i j:Int} {x:Sr}{k:It->Fm->St->Sm}(hg:SGI C fx d target gi)(R:Rm d A)(En:ba fx env)(I:Inv C σ st s)(F:FrR C fx env fm σ s)
  (r:ItR σ s.heap it e fp) (P:Fp C σ env.locals fp) (hk:∀p o,p∉fp->s.heap.get? p=Si o->h'.get? p=Si o) (hT:T=s.heap.objs.size) (hTt:h'.get? T=Si { cls:=.type "tuple",data:=.seq #[.int j tk,x] })
  (ho:IsEnumOut h' e b i x T) (r':∀h'',aaw h'' e b i x->Heap.SameBut e h' h''->ItR σ h'' it' e fp) (rv:VR σ h' v x) (h:gi fm (.pair (.int j) v) st (k it')=Sk) :
  Ss C.M A (TC target (.ref e) (.ref T)) (λ_ aaV=>Ss C.M A (assign target env (.ref T)) (z9 C fx env fp e σ s k) cM aaV) cM { s with heap:=h',toks:=t }:=by
 have hTn:s.heap.get? T=none:=Heap.get?_none_of_le (Ub hT.symm)
 have hTo:T∉σ:=λm=>nomatch hTn▸(I.new T m).2
 have hTe:T≠e:=λq=>(r.live e r.memb).elim λo z=>iq (hTn.symm.trans (q▸z))
 refine hg.e (P:=λtarget gi=>gi fm (.pair (.int j) v) st (k it')=Sk->Ss C.M A (TC target (.ref e) (.ref T)) (λ_ aaV=>Ss C.M A (assign target env (.ref T)) (z9 C fx env fp e σ s k) cM aaV) cM { s with heap:=h',toks:=t }) (λ_ h=>ff h) (λhe h2 aaX aa7 h=>?_) h
 refine wpAny_letOwnedTupleGo_enum ho λh'' he'' hs''=>?_
 have hk':∀p o,p∉fp->s.heap.get? p=Si o->h''.get? p=Si o:=λp o m z=>(hs''.2 p (λq=>m (q▸r.memb))).trans (hk p o m z)
 refine kS (jC (t:=t) r P I F hk') λS I' F'=>?_
 have rx:VR σ h'' v x:=ni hs'' (cE ho rfl (by decide)) rv
 have rt:VR σ h'' (.tup [.int j,v]) (.ref T):=.tup (n:=0) (vs:=[.int j tk,x]) ((hs''.2 T hTe).trans hTt) hTo (.cons (.int _ _) (.cons rx .nil))
 refine Sq (DQ he h2 aaX aa7 A env σ fm st { s with heap:=h'',toks:=t } (k it') _ _ R En I' F' rt h) (λ_ s' q=>?_) λ_ _ e=>e
 obtain⟨σ',fm',st',S',I'',F'',h3⟩:=q
 have hw:∀p∈fp,p∉[env.locals]:=λp m q=>P.loc (Sn.mp q▸m)
 have r'':=r' _ he'' hs''
 exact⟨σ',fm',st',it',(S.more λb m=>.inl (.tail _ m)).trans (S'.more λb m=>.inl (Sn.mp m▸.head _)),I'',F'',ItR.step (s:={ s with heap:=h'',toks:=t }) r'' S' (Heap.Ns.noTup' F') hw P.out,Fp.step (s:={ s with heap:=h'',toks:=t }) P r'' S' hw,h3⟩
def iK (C:Cfg)(fx:Fx)(A:Ue)(env:Env)(target:Expr)(fp:Sj Sx)(b:Sx)(σ:Sj Sx)(fm:Fm)(st:St)(s:Sw)(stop:Sm)(k:It->Fm->St->Sm)(r:SV Sr)(aaV:Sw):Prop:=match r with
 | none=>stop=Sk/\Step fp σ s σ aaV/\Inv C σ st aaV/\FrR C fx env fm σ aaV
 | some v=>Ss C.M A (TC target (.ref b) v) (λ_ s1'=>Ss C.M A (assign target env v) (z9 C fx env fp b σ s k) cM s1') cM aaV
inductive Ri (h:Heap)(b:Sx):Prop
 | mk (o:Obj) (T:String) (e:h.get? b=Si o) (c:o.cls=.type T) (n:(["enumerate","zip","dict_itemiterator","dict_reverseitemiterator","odict_iterator","itertools.zip_longest","itertools.pairwise"]:Sj String).contains T=dV)
theorem HA {T:String}{R:Obj->Prop}(x:∃o,h.get? b=Si o/\o.cls=.type T/\R o)(n:(["enumerate","zip","dict_itemiterator","dict_reverseitemiterator","odict_iterator","itertools.zip_longest","itertools.pairwise"]:Sj String).contains T=dV):Ri h b:=x.elim λo y=>⟨o,T,y.1,y.2.1,n⟩
section
variable {target:Expr}{gi:eN}{it it':It}{b:Addr}{fp:List Addr}{stop:Bool}{k:It->Fm->St->Bool}{h':Heap}{t:Nat}
theorem lg (r:ItR σ s.heap it b fp)(P:Fp C σ env.locals fp)(I:Inv C σ st s)(F:FrR C fx env fm σ s)(hs:stop=Sk)(he:Heap.ExtBut b s.heap h'):iK C fx A env target fp b σ fm st s stop k none { s with heap:=h',toks:=t }:=
 ⟨hs,jC r P I F (wI he r.memb)⟩
theorem jx (hg:SGI C fx d target gi)(R:Rm d A)(En:ba fx env)(r:ItR σ s.heap it b fp)(P:Fp C σ env.locals fp)(I:Inv C σ st s)(F:FrR C fx env fm σ s)(hs:Heap.SameBut b s.heap h')(r':ItR σ h' it' b fp)(x:Ri h' b)(rv:VR σ s.heap v u)(h:gi fm (.v v) st (k it')=Sk) :
  iK C fx A env target fp b σ fm st s stop k (Si u) { s with heap:=h',toks:=t }:=by
 obtain⟨o,T,e,c,n⟩:=x
 exact Dn hg R En I F r P (wI hs.extBut r.memb) r' (ni hs (λvs m=>r.noTup b r.memb vs m) rv) e c n h
theorem y5 {l:Sj α} {f:α->Sm}{z:Sm}{P:Prop}(h:getL l i f z=Sk)(H1:∀x,l[i]? = Si x->f x=Sk->P)(H2:l.length<=i->z=Sk->P):P:=
 (Cr h).elim (λq=>q.elim λx y=>H1 x y.1 y.2) λq=>H2 q.1 q.2
theorem BS (hg:SGI C fx d target gi)(R:Rm d A)(En:ba fx env)(I:Inv C σ st s)(F:FrR C fx env fm σ s)(ha:σ[n]? = Si a)(hi:s.heap.IsListIter b a i)(P:Fp C σ env.locals [b])
  (h:aY st (.seq n i) stop (λy it=>gi fm y st (k it))=Sk):Ss C.M A (UO (.ref b)) (iK C fx A env target [b] b σ fm st s stop k) cM s:=by
 refine bC (n:=n) h λl hl h1=>?_
 obtain⟨us,m,g,q⟩:=I.list hl ha
 refine y5 h1 (λv hv h2=>?_) λhle h2=>?_
 ·obtain⟨u,hu⟩:=q.get hv
  exact WM hi ⟨_,g,rfl,_,rfl⟩ (x:=u) (Uu.trans hu.1) λh' hi' hs'=>jx hg R En (.seq ha hi) P I F hs' (.seq ha hi') (HA hi' (by decide)) hu.2 h2
 ·exact W4 R.handled hi ⟨_,g,rfl,_,rfl⟩ (Uu.trans (W5 (q.length▸hle))) λh' he=>lg (.seq ha hi) P I F h2 he
theorem Ck {us:Sj Sr}{c:Sx} (hg:SGI C fx d target gi)(R:Rm d A)(En:ba fx env)(I:Inv C σ st s)(F:FrR C fx env fm σ s)(e:s.heap.get? c=Si (cK us m))(n:c∉σ)(hi:IsTupIter s.heap b c i)(q:VRs σ s.heap l (us.drop i))(P:Fp C σ env.locals [b])
  (h:aY st (.tup l) stop (λy it=>gi fm y st (k it))=Sk):Ss C.M A (UO (.ref b)) (iK C fx A env target [b] b σ fm st s stop k) cM s:=by
 have r:ItR σ s.heap (.tup l) b [b]:=.tup e n hi q
 have ht:IsTup s.heap c us.toArray:=⟨_,e,rfl,_,rfl⟩
 have hd:us[i]? = (us.drop i).head?:=Vo.symm
 induction l with
 | nil=>exact next_tuple_end R.handled hi ht (Uu.trans (hd.trans (VRs.nil_e (P:=λz=>z.head? = none) q rfl))) λh' he=>lg r P I F h he
 | cons v l=>
  have hq:∃u,us[i]? = Si u/\VR σ s.heap v u/\VRs σ s.heap l (us.drop (i+1)):=by
   rw[hd,←Sj.tail_drop]
   exact VRs.cons_e (P:=λz=>∃u,z.head? = Si u/\VR σ s.heap v u/\VRs σ s.heap l z.tail) q λu us' a b=>⟨u,rfl,a,b⟩
  obtain⟨u,hu⟩:=hq
  refine next_tuple_item hi ht (x:=u) (Uu.trans hu.1) λh' hi' hs'=>?_
  have nt:∀vs m,s.heap.get? b≠Si (cK vs m):=λvs m=>r.noTup b r.memb vs m
  exact jx hg R En r P I F hs' (.tup ((hs'.2 c λz=>nt _ _ (z▸e)).trans e) n hi' (tn hs' nt hu.2.2)) (HA hi' (by decide)) hu.2.1 h
theorem fW {l:Sj Nat}(e:c::l=x.cps.toList.drop i):x.cps[i]? = Si c/\l=x.cps.toList.drop (i+1):=
 ⟨VT.symm.trans (Vo.symm.trans (SU Sj.head? e.symm)),(SU Sj.tail e).trans Sj.tail_drop⟩
theorem wm (e:[]=x.cps.toList.drop i):x.cps.size<=i:=Xq.mp e.symm
theorem zw {l:Sj Nat} (hg:SGI C fx d target gi)(R:Rm d A)(En:ba fx env)(I:Inv C σ st s)(F:FrR C fx env fm σ s)(hi:s.heap.IsStrIter b "str_ascii_iterator" x tk i)(e:l=x.cps.toList.drop i)(P:Fp C σ env.locals [b])
  (h:aY st (.str l) stop (λy it=>gi fm y st (k it))=Sk):Ss C.M A (UO (.ref b)) (iK C fx A env target [b] b σ fm st s stop k) cM s:=by
 induction l with
 | nil=>exact wpAny_pyNext_ascii_end R.handled hi (Array.getElem?_eq_none (wm e)) λh' he=>lg (.str hi e) P I F h he
 | cons c l=>exact wpAny_pyNext_ascii_item hi (fW e).1 λh' hi' hs'=>jx hg R En (.str hi e) P I F hs' (.str hi' (fW e).2) (HA hi' (by decide)) (.str [c] _) h
theorem Cp {c sp:Int} (hg:SGI C fx d target gi)(R:Rm d A)(En:ba fx env)(I:Inv C σ st s)(F:FrR C fx env fm σ s)(hi:Uk s.heap b c n sp)(P:Fp C σ env.locals [b])
  (h:aY st (.rng c n sp) stop (λy it=>gi fm y st (k it))=Sk):Ss C.M A (UO (.ref b)) (iK C fx A env target [b] b σ fm st s stop k) cM s:=by
 induction n with
 | zero=>exact wpAny_pyNext_range_end R.handled hi (by decide) λh' he=>lg (.rng (n:=0) hi) P I F h he
 | succ n=>
  have h:gi fm (.v (.int c)) st (k (.rng (gA c sp) n sp))=Sk:=h
  rw[eU] at h
  refine wpAny_pyNext_range_item hi (Int.natCast_pos.mpr (YI n)) λh' hi' hs'=>?_
  have hi':Uk h' b (c+sp) n sp:=Int.add_sub_cancel (n:Int) 1▸hi'
  exact jx hg R En (.rng hi) P I F hs' (.rng hi') ⟨_,_,hi',rfl,by decide⟩ (.int c _) h
theorem ON {c:Sx} (hk:∀p o,p≠b->p≠c->h.get? p=Si o->h'.get? p=Si o):∀p o,p∉[b,c]->h.get? p=Si o->h'.get? p=Si o:=λp o m=>hk p o (λq=>m (q▸.head _)) (λq=>m (q▸.tail _ (.head _)))
theorem zr {c:Sx}{old:Sr}(hg:SGI C fx d target gi)(R:Rm d A)(En:ba fx env)(I:Inv C σ st s)(F:FrR C fx env fm σ s)(ha:σ[n]? = Si a)(hi:s.heap.IsListIter c a i)(he:aaw s.heap b c i old)(ne:b≠c)(P:Fp C σ env.locals [b,c])
  (h:aY st (.enS i n i) stop (λy it=>gi fm y st (k it))=Sk):Ss C.M A (UO (.ref b)) (iK C fx A env target [b,c] b σ fm st s stop k) cM s:=by
 have r:ItR σ s.heap (.enS i n i) b [b,c]:=.enS ha hi he ne
 refine bC (n:=n) h λl hl h1=>?_
 obtain⟨us,m,g,q⟩:=I.list hl ha
 refine y5 h1 (λv hv h2=>?_) λhle h2=>?_
 ·obtain⟨u,hu⟩:=q.get hv
  refine wpAny_pyNext_enum_item he hi ⟨_,g,rfl,_,rfl⟩ (x:=u) (Uu.trans hu.1) ne λh' ho hi' hT _ hk=>?_
  have h2:gi fm (.pair (.int (TG i)) v) st (k (.enS (gA i 1) n (TA i)))=Sk:=h2
  rw[eU] at h2
  exact vT (t:=s.toks+1) hg R En I F r P (ON hk) rfl hT ho (λh'' he'' hs''=>ItR.enS (i:=i+1) ha (vj (λo z=>(hs''.2 c ne.symm).trans z) hi') he'' ne) (hu.2.mono (λ_ _ e=>e) λp vs m z q=>⟨z,ON hk p _ (λw=>r.noTup p w vs m q) q⟩) h2
 ·exact wpAny_pyNext_enum_end R.handled he hi ⟨_,g,rfl,_,rfl⟩ (Uu.trans (W5 (q.length▸hle))) λh' hx=>⟨h2,jC r P I F (wI hx (.tail _ (.head _)))⟩
theorem zA {l:Sj Nat} {q:Sx}{old:Sr}(hg:SGI C fx d target gi)(R:Rm d A)(En:ba fx env)(I:Inv C σ st s)(F:FrR C fx env fm σ s)(hi:s.heap.IsStrIter q "str_ascii_iterator" x tk i)(he:aaw s.heap b q i old)(ne:b≠q)(e:l=x.cps.toList.drop i)(le:i<=x.cps.size)(P:Fp C σ env.locals [b,q])
  (h:aY st (.enT i l) stop (λy it=>gi fm y st (k it))=Sk):Ss C.M A (UO (.ref b)) (iK C fx A env target [b,q] b σ fm st s stop k) cM s:=by
 have r:ItR σ s.heap (.enT i l) b [b,q]:=.enT hi he ne e le
 have D:=Draws.strAscii (prog:=C.prog) (w:=C.w) (A:=A.in1) R.handled q x tk
 induction l with
 | nil=>exact wpAny_pyNext_enum_endD D he (UR le (wm e)▸hi) λh' hx=>⟨h,jC r P I F (wI hx (.tail _ (.head _)))⟩
 | cons c l=>
  refine wpAny_pyNext_enum_itemD D he hi (V6.mp (fW e).1).1 ne (λm=>ne (Sn.mp m)) λu h' tk hP ho hi' hT _ hk=>?_
  have h2:gi fm (.pair (.int (TG i)) (.str [c])) st (k (.enT (gA i 1) l))=Sk:=h
  rw[eU] at h2
  have rv:VR σ h' (.str [c]) u:=hP.elim λc' y=>y.elim λtk' z=>(Si.inj ((fW e).1.symm.trans z.1))▸z.2▸.str [c'] tk'
  exact vT (t:=tk+1) hg R En I F r P (ON hk) rfl hT ho (λh'' he'' hs''=>ItR.enT (i:=i+1) (vj (λo z=>(hs''.2 q ne.symm).trans z) hi') he'' ne (fW e).2 (V6.mp (fW e).1).1) rv h2
end
theorem Cy {k:It->Fm->St->Sm}(hg:SGI C fx d target gi)(R:Rm d A)(En:ba fx env)(I:Inv C σ st s)(F:FrR C fx env fm σ s)
  (r:ItR σ s.heap it b fp) (P:Fp C σ env.locals fp) (h:aY st it stop (λy it=>gi fm y st (k it))=Sk) :
  Ss C.M A (UO (.ref b)) (iK C fx A env target fp b σ fm st s stop k) cM s:=
 ItR.e (P:=λit b fp=>Fp C σ env.locals fp->aY st it stop (λy it=>gi fm y st (k it))=Sk->Ss C.M A (UO (.ref b)) (iK C fx A env target fp b σ fm st s stop k) cM s)
  (BS hg R En I F) (Ck hg R En I F) (zw hg R En I F) (Cp hg R En I F) (zr hg R En I F) (zA hg R En I F) r P h
end
section
variable {C:Cfg}{fx:Fx}{d:Nat}{A:Around}{env:Env}{σ σ1:List Addr}{fm:Fm}{st:St}{s aaV:Shared}
def GB (C:Cfg)(x:Str)(v:Sr):Prop:=aaN C.K S4 x=Si (Si v)\/(aaN C.K S4 x=Si none/\x ≠ "__name__" /\ bootBuiltins x=Si v)
theorem bT (Ok:C.Ok) {v:Sr} (hok:fx.ok=Sk)(hx:x∈fx.gn)(g:GB C x v)(E:ba fx env)(I:Inv C σ st s)(h:Q v s):Ss C.M A (eval (.Name x pos) env) Q Ex s:=by
 refine Name_function_global E.kind (E.gn x hx) ?_ (Fx.ok_gn hok hx)
 unfold XS
 rw[E.glob,E.blt]
 rcases g with g | ⟨g,hn,hb⟩
 ·exact kV ((Xe (I.X Ok) g).here (Sl h))
 ·refine kV ((Xe (I.X Ok) g).here ?_)
  have nb:s.heap.Ns Ua C.mb:=Ok.T.b.keeps I.base
  refine kV (wpAny_nsGet nb ?_)
  rw[Ok.T.builtins x hn,hb]
  exact Sl h
def Keeps (C:Cfg)(f:Sr):Prop:=∀h,C.K.In h->∃k,(k=Keeper.frame\/k=Keeper.machine\/k=Keeper.boundFrame)/\Looks C.M h (keeperOf f) k
theorem bL {T:String}:Keeps C (.type T):=λ_ _=>⟨_,.inr (.inl rfl),Yo rfl⟩
theorem ck {T:String}:Keeps C (.builtin T):=λ_ _=>⟨_,.inr (.inl rfl),Yo rfl⟩
theorem jo (hk:aax C.K f=Sk):Keeps C f:=λh X=>keeps_K hk h X
theorem nu {Q:Args->Sw->Prop} (h:Ss C.M A (spliced []) (λvs s'=>Q ⟨vs,[]⟩ s') Ex s):Ss C.M A (evalArgs f Sk [] []) Q Ex s:=by
 unfold evalArgs
 show Ss _ A (spliced [] >>= _) Q Ex s
 refine kV (Sq h (λvs s' h'=>?_) λ_ _ x=>x)
 refine kV (Sl (SR ?_))
 exact kV (Sl (kV (Sl (Sl h'))))
def aL (es:Sj Expr):Prop:=(∀env pos,(W9 pos (T4 es env)).any (·.1)=dV)/\(es=[]\/∃e rest,es=e::rest/\∀env,T4 (e::rest) env=(dV,eval e env)::T4 rest env)
theorem bK (Ok:C.Ok) {first:Sj Sr} {k:Sj V->St->Sm} (hf:Keeps C f)(hp:aL es)(hs:SA C fx d es cs)(R:Rm d A)(E:ba fx env)(I:Inv C σ st s)(F:FrR C fx env fm σ s)
  (h:cs fm st k=Sk) (hc:∀σ' l st' us s',Step [] σ s σ' s'->Inv C σ' st' s'->VRs σ' s'.heap l us->us.length<=es.length+4095->k l st'=Sk->Ss C.M A (call f (first++us)) Q Ex s') :
  Ss C.M A (Xr pos f first (W9 pos (T4 es env)) (backToKw pos (Zl [] env))) Q Ex s:=by
 have q:=hs A env σ fm st s k pos R E I F h
 have q':Ss C.M A (spliced (W9 pos (T4 es env))) (λus s'=>C.K.In s'.heap/\Ss C.M A (call f (first++us)) Q Ex s') Ex s:=
  Sq q (λus s' ⟨hl,σ',l,st',S,I',r,h'⟩=>⟨I'.X Ok,hc σ' l st' us s' S I' r hl h'⟩) λ_ _ e=>e.elim
 refine Yj (P:=C.K.In) (by show(_ || false)=dV;rw[hp.1];rfl) hf ?_
 rcases hp.2 with rfl | ⟨e,rest,rfl,he⟩
 ·exact nu q'
 ·rw[he] at q' ⊢
  exact WO q'
inductive OutI (C:Cfg)(L:Sx)(σ:Sj Sx)(s:Sw)(k:It->St->Sm)(u:Sr)(s':Sw):Prop
 | mk (σ':Sj Sx) (it:It) (st':St) (b:Sx) (fp:Sj Sx) (e:u=.ref b) (S:Step [] σ s σ' s') (I:Inv C σ' st' s') (r:ItR σ' s'.heap it b fp) (P:Fp C σ' L fp) (n:∀p∈fp,s.heap.get? p=none) (h:k it st'=Sk)
def SI (C:Cfg)(fx:Fx)(d:Nat)(iter:Expr)(c:CI):Prop:=
 ∀(A:Ue) (env:Env) (σ:Sj Sx) (fm:Fm) (st:St) (s:Sw) (k:It->St->Sm),Rm d A->ba fx env->Inv C σ st s->FrR C fx env fm σ s->c fm st k=Sk ->
  Ss C.M A (eval iter env) (λx aaV=>Ss C.M A (XT x) (OutI C env.locals σ s k) cM aaV) cM s
theorem OutI.trans {k:It->St->Sm} (x:Step [] σ s σ1 aaV)(y:OutI C L σ1 aaV k u s'):OutI C L σ s k u s':=by
 obtain⟨σ',it,st',b,fp,e,S,I,r,P,dd,h⟩:=y
 refine⟨σ',it,st',b,fp,e,x.trans S,I,r,P,λp m=>?_,h⟩
 cases q:s.heap.get? p with
 | none=>rfl
 | some o=>
  by_cases z:p∈σ
  ·refine aE ((x.trans S).ext) λτ eτ _=>?_
   exact Tc (by rw[eτ];exact Un _ z) (P.out p m)
  ·have:=x.keep p o z (λh=>nomatch h) q
   rw[dd p m] at this;exact iq this
theorem bE {p:Sx}(q:h.objs.size<=p):h.get? p=none:=by
 cases e:h.get? p with
 | none=>rfl
 | some o=>exact Tc (Heap.lt_size e) (Uo.mpr q)
theorem sE {p:Sx}(q:h.objs.size<=p):∀x∈[p],h.get? x=none:=λx m=>by rw[Sn.mp m];exact bE q
theorem Fr {p p':Sx}(q:h.objs.size<=p)(q':h.objs.size<=p'):∀x∈[p,p'],h.get? x=none:=λx m=>by
 rcases SD.mp m with m | m
 ·rw[m];exact bE q
 ·rw[Sn.mp m];exact bE q'
theorem mB {p:Sx}(I:Inv C σ st s)(F:FrR C fx env fm σ s)(h:s.heap.objs.size<=p):p∉σ/\C.aa8.get? p=none/\env.locals≠p:=by
 refine⟨λm=>Tc (I.size m) (Uo.mpr h),bD I h,λq=>?_⟩
 refine aE (F.ns) λm hm _=>?_
 have:=hm.lt
 exact Tq _ (SH (q▸this) h)
theorem w0 {p:Sx}(I:Inv C σ st s)(F:FrR C fx env fm σ s)(h:s.heap.objs.size<=p):Fp C σ env.locals [p]:=by
 refine kS (mB I F h) λa b c=>?_
 exact⟨λq m=>by rw[Sn.mp m];exact a,λq m=>by rw[Sn.mp m];exact b,λm=>c (Sn.mp m)⟩
theorem Dq {p q:Sx}(I:Inv C σ st s)(F:FrR C fx env fm σ s)(h:s.heap.objs.size<=p)(h':s.heap.objs.size<=q):Fp C σ env.locals [p,q]:=by
 refine kS (mB I F h) λa b c=>?_
 refine kS (mB I F h') λa' b' c'=>?_
 refine⟨λx m=>?_,λx m=>?_,λm=>?_⟩
 ·rcases SD.mp m with m | m
  ·rw[m];exact a
  ·rw[Sn.mp m];exact a'
 ·rcases SD.mp m with m | m
  ·rw[m];exact b
  ·rw[Sn.mp m];exact b'
 ·rcases SD.mp m with m | m
  ·exact c m
  ·exact c' (Sn.mp m)
theorem t8 {l:Sj Nat}(h:fT l=Sk):(⟨l.toArray⟩:Str).cps.all (·<128)=Sk:=by
 unfold fT at h
 rw[po] at h
 show l.toArray.all (·<128)=Sk
 rw[Yu,Te]
 intro c m
 have:=Sp (Te.mp h c m)
 simp;(exact Ul this)
theorem GN {k:It->St->Sm}(I:Inv C σ st s)(F:FrR C fx env fm σ s)(r:VR σ s.heap v u)
  (h:cr v dV (λ_=>dV) (λ_=>dV) (λs=>aD (fT s) (k (.str s) st) dV) (λn=>bh st n λ_=>k (.seq n 0) st) (λl=>k (.tup l) st)=Sk):Ss C.M A (XT u) (OutI C env.locals σ s k) cM s:=by
 have FP:=w0 I F (SW _)
 induction r using VR.cases_e with
 | none=>exact ff h
 | bool=>exact ff h
 | int=>exact ff h
 | str l t=>
  refine aM h λha h1=>?_
  refine wpAny_pyIter_ascii (t8 ha) ?_
  exact⟨σ,_,st,_,_,rfl,Step.pushed (t:=s.toks),I.pushed (t:=s.toks),.str (x:=⟨l.toArray⟩) (t:=t) (i:=0) ⟨_,Heap.get?_push_size _ rfl,rfl,rfl⟩ (by rfl),FP,sE (SW _),h1⟩
 | @ref n a e=>
  refine bC (n:=n) h λl hl h1=>?_
  obtain⟨vs,m,g,q⟩:=I.list hl e
  refine WN ⟨_,g,rfl,_,rfl⟩ ?_
  exact⟨σ,_,st,_,_,rfl,Step.pushed (t:=s.toks),I.pushed (t:=s.toks),.seq e ⟨_,Heap.get?_push_size _ rfl,rfl,rfl⟩,FP,sE (SW _),h1⟩
 | @tup l us a m e n q=>
  refine iter_tuple (t:=a) ⟨_,e,rfl,_,rfl⟩ ?_
  exact⟨σ,_,st,_,_,rfl,Step.pushed (t:=s.toks),I.pushed (t:=s.toks),.tup (us:=us) (i:=0) (Heap.get?_push_of_some _ e) n ⟨_,Heap.get?_push_size _ rfl,rfl,rfl⟩ q.pushed,FP,sE (SW _),h⟩
theorem iF {a:Expr} (ha:SE C fx d a ca):SI C fx d a (iE ca):=by
 intro A env σ fm st s k R E I F h
 refine aw (ha A env σ fm st s _ R E I F h) λσ1 x st1 u aaV aaZ aa1 aa4 aaX=>?_
 exact Sq (GN aa1 (aaZ.fr0 F) aa4 aaX) (λ_ _ o=>o.trans aaZ) λ_ _ e=>e
theorem jA {a b:Int}(ha:small a=Sk)(hb:small b=Sk):Builtin.Range.small a b 1=Sk:=small_one (YK (by decide) (Wa (dg ha).1)) (XJ (dg ha).2 (by decide)) (YK (by decide) (Wa (dg hb).1)) (XJ (dg hb).2 (by decide))
theorem lB (a b:Int):Ts a b 1=(cT (iG b a):Int):=by
 rw[rangeSize_one,gH,ey]
 split
 ·next h=>exact(ZK (Int.sub_nonneg_of_le (Wa h))).symm
 ·next h=>rw[ZL (Int.sub_nonpos_of_le (XQ.mp h))];rfl
theorem rY (a b:Int):Ts a b (-1)=Ts b a 1:=by kernel_rfl
theorem vt {a b:Int}(ha:small a=Sk)(hb:small b=Sk):Builtin.Range.small a b (-1)=Sk:=by
 have h:=jA hb ha
 unfold Builtin.Range.small at h ⊢
 rw[rY]
 rw[Ta,Ta,Ta,Ta] at h
 obtain⟨⟨⟨⟨h1,h2⟩,_⟩,h4⟩,_⟩:=h
 rw[h1,h2,h4,SK (by decide),show b+(-1+1)=b from Int.add_zero b,h1,Sm.or_true];rfl
theorem zg {a b c:Int}{t u v:Tok}{r:Sx}{k:It->St->Sm}(I:Inv C σ st s)(F:FrR C fx env fm σ s)(hr:WQ s.heap r a b c t u v)(h:eC a b c st k=Sk):Ss C.M A (XT (.ref r)) (OutI C env.locals σ s k) cM s:=by
 refine aM h λha h1=>?_;clear h
 refine aM h1 λhb h2=>?_;clear h1
 have FP:=w0 I F (SW _)
 rcases dF h2 with ⟨hc,h3⟩ | ⟨hc,h3⟩
 ·rw[dt] at hc
  have:=S8 hc
  subst this
  refine aM h3 λ_ h4=>?_
  have e:Ts a b 1=(cT (iG b a):Int):=lB a b
  refine XU hr (jA ha hb) ?_
  rw[e]
  exact⟨σ,_,st,_,_,rfl,Step.pushed (t:=s.toks),I.pushed (t:=s.toks),.rng (Heap.get?_push_size _ rfl),FP,sE (SW _),h4⟩
 ·refine aM h3 λhc h4=>?_;clear h3
  rw[dt] at hc
  have:=S8 hc
  subst this
  refine aM h4 λ_ h5=>?_;clear h4
  have e:Ts a b (-1)=(cT (iG a b):Int):=(rY a b).trans (lB b a)
  refine XU hr (vt ha hb) ?_
  rw[e]
  exact⟨σ,_,st,_,_,rfl,Step.pushed (t:=s.toks),I.pushed (t:=s.toks),.rng (Heap.get?_push_size _ rfl),FP,sE (SW _),h5⟩
theorem we (Ok:C.Ok){a:Expr} (hok:fx.ok=Sk)(hx:x∈fx.gn)(g:GB C x (.type "range"))(hp:aL [a])(hs:SA C fx d [a] (ae ca av)):SI C fx d (.Call (.Name x p) [a] [] pos) (qR ca):=by
 intro A env σ fm st s k R E I F h
 refine TB (bT Ok hok hx g E I ?_)
 refine bK (k:=λvs st=>nv vs λy=>aG y λy=>eC 0 y 1 st k) Ok bL hp hs R E I F h λσ' l st' us s' S I' r _ h'=>?_
 refine dY h' λy e81 h1=>?_;clear h';subst e81
 refine aO h1 λj e81 h2=>?_;clear h1;subst e81
 refine VRs.cons_e r λ_ _ ra rr=>?_
 refine VRs.nil_e rr (VR.int_e ra λ_=>?_)
 refine aad ?_
 exact Sq (zg (s:={ s' with heap:=_,toks:=_ }) I'.pushed (Step.pushed.fr0 (S.fr0 F)) (Heap.get?_push_size _ rfl) h2) (λ_ _ o=>o.trans (S.trans Step.pushed)) λ_ _ e=>e
theorem et (Ok:C.Ok){a b:Expr} (hok:fx.ok=Sk)(hx:x∈fx.gn)(g:GB C x (.type "range"))(hp:aL [a,b])(hs:SA C fx d [a,b] (ae ca (ae cb av))):SI C fx d (.Call (.Name x p) [a,b] [] pos) (dH ca cb):=by
 intro A env σ fm st s k R E I F h
 refine TB (bT Ok hok hx g E I ?_)
 refine bK (k:=λvs st=>Fk vs λx y=>aG x λx=>aG y λy=>eC x y 1 st k) Ok bL hp hs R E I F h λσ' l st' us s' S I' r _ h'=>?_
 refine nY h' λx y e81 h1=>?_;clear h';subst e81
 refine aO h1 λi e81 h2=>?_;clear h1;subst e81
 refine aO h2 λj e81 h3=>?_;clear h2;subst e81
 refine VRs.cons_e r λ_ _ ra rr=>?_
 refine VRs.cons_e rr λ_ _ rb rr=>?_
 refine VRs.nil_e rr (VR.int_e ra λ_=>VR.int_e rb λ_=>?_)
 refine call_range_2 ?_
 exact Sq (zg (s:={ s' with heap:=_,toks:=_ }) I'.pushed (Step.pushed.fr0 (S.fr0 F)) (Heap.get?_push_size _ rfl) h3) (λ_ _ o=>o.trans (S.trans Step.pushed)) λ_ _ e=>e
theorem Et (Ok:C.Ok){a b c:Expr}{cc:CE} (hok:fx.ok=Sk)(hx:x∈fx.gn)(g:GB C x (.type "range"))(hp:aL [a,b,c])(hs:SA C fx d [a,b,c] (ae ca (ae cb (ae cc av)))):SI C fx d (.Call (.Name x p) [a,b,c] [] pos) (BU ca cb cc):=by
 intro A env σ fm st s k R E I F h
 refine TB (bT Ok hok hx g E I ?_)
 refine bK (k:=λvs st=>dc vs λx vs=>Fk vs λy z=>aG x λx=>aG y λy=>aG z λz=>eC x y z st k) Ok bL hp hs R E I F h λσ' l st' us s' S I' r _ h'=>?_
 refine mQ h' λx q e81 h0=>?_;clear h';subst e81
 refine nY h0 λy z e81 h1=>?_;clear h0;subst e81
 refine aO h1 λi e81 h2=>?_;clear h1;subst e81
 refine aO h2 λj e81 h3=>?_;clear h2;subst e81
 refine aO h3 λm e81 h4=>?_;clear h3;subst e81
 have hm:m=1\/m=-1:=by
  refine aM h4 λ_ q1=>?_
  refine aM q1 λ_ q2=>?_;clear q1
  rcases dF q2 with ⟨z,_⟩ | ⟨_,q3⟩
  ·rw[dt] at z;exact .inl (S8 z)
  ·refine aM q3 λz _=>?_;clear q3
   rw[dt] at z;exact .inr (S8 z)
 refine VRs.cons_e r λ_ _ ra rr=>?_
 refine VRs.cons_e rr λ_ _ rb rr=>?_
 refine VRs.cons_e rr λ_ _ rc rr=>?_
 refine VRs.nil_e rr (VR.int_e ra λ_=>VR.int_e rb λ_=>VR.int_e rc λ_=>?_)
 refine call_range_3 (by lia) ?_ (.inl (YJ (by omega)))
 exact Sq (zg (s:={ s' with heap:=_,toks:=_ }) I'.pushed (Step.pushed.fr0 (S.fr0 F)) (Heap.get?_push_size _ rfl) h4) (λ_ _ o=>o.trans (S.trans Step.pushed)) λ_ _ e=>e
theorem pK (Ok:C.Ok){a:Expr} (hok:fx.ok=Sk)(hx:x∈fx.gn)(g:GB C x (.type "enumerate"))(hp:aL [a])(hs:SA C fx d [a] (ae ca av)):SI C fx d (.Call (.Name x p) [a] [] pos) (lE ca):=by
 intro A env σ fm st s k R E I F h
 refine TB (bT Ok hok hx g E I ?_)
 refine bK (k:=λvs st=>nv vs λx=>cr x dV (λ_=>dV) (λ_=>dV) (λs=>aD (fT s) (k (.enT 0 s) st) dV) (λn=>bh st n λ_=>k (.enS 0 n 0) st) (λ_=>dV)) Ok bL hp hs R E I F h λσ' l st' us s' S I' r _ h'=>?_
 refine dY h' λy e81 h1=>?_;clear h';subst e81
 have F':=S.fr0 F
 have FP:=Dq I' F' (T2 _) (SW _)
 refine VRs.cons_e r λ_ _ ra rr=>?_
 refine VRs.nil_e rr ?_
 induction ra using VR.cases_e with
 | none=>exact ff h1
 | bool=>exact ff h1
 | int=>exact ff h1
 | tup=>exact ff h1
 | str l t=>
  refine aM h1 λha h2=>?_
  refine call_enumerate_str λh'' he hi _ hk=>WR he (OutI.trans S ?_)
  have S':Step [] σ' s' σ' { s' with heap:=h'' }:=Step.all (t:=s'.toks) hk
  have hty:strIterType ⟨l.toArray⟩="str_ascii_iterator":=by unfold strIterType;rw[SX (t8 ha)]
  rw[hty] at hi
  exact⟨σ',_,st',_,_,rfl,S',I'.grow hk,.enT (i:=0) hi he (Nat.succ_ne_self _) (by rfl) (Th _),FP,Fr (T2 _) (SW _),h2⟩
 | @ref n a e=>
  refine bC h1 λl hl h2=>?_;clear h1
  obtain⟨vs,m,g,q⟩:=I'.list hl e
  refine call_enumerate_list (items:=vs.toArray) ⟨_,g,rfl,_,rfl⟩ λh'' he hi _ hk=>WR he (OutI.trans S ?_)
  have S':Step [] σ' s' σ' { s' with heap:=h'' }:=Step.all (t:=s'.toks) hk
  exact⟨σ',_,st',_,_,rfl,S',I'.grow hk,.enS (i:=0) e hi he (Nat.succ_ne_self _),FP,Fr (T2 _) (SW _),h2⟩
end
section
variable {C:Cfg}{fx:Fx}{d:Nat}{A:Around}{env:Env}{σ σ1:List Addr}{fm:Fm}{st:St}{s aaV:Shared}
theorem Step.widen {W W':Sj Sx}(x:Step W σ s σ1 aaV)(h:∀b∈W,b∈W'):Step W' σ s σ1 aaV:=x.more λb m=>.inl (h b m)
theorem CQ {t:Sem α}{Q:α->Sw->Prop} (h:Ss C.M A t Q cM s):Ss C.M A t Q Ex s:=Sq h (λ_ _ q=>q) λ_ _ e=>e.elim
theorem tP {t:Sem α}{Q:α->Sw->Prop} (h:∀Q':α->Sw->Prop,(∀a s,Q a s->Q' a s)->Ss C.M A t Q' cM s):Ss C.M A t Q Ex s:=CQ (h Q λ_ _ q=>q)
theorem Gn {F:Nat->Sm}{P:Nat->Sm} (h:F n=Sk)(h0:F 0=Sk->False)(h1:∀n,F (n+1)=P n):∃m,m<n/\P m=Sk:=by
 induction n with
 | zero=>exact(h0 h).elim
 | succ n=>exact⟨n,S1 n,h1 n▸h⟩
inductive Nv (C:Cfg)(fx:Fx)(env:Env)(fp:Sj Sx)(b:Sx)(σ:Sj Sx)(s:Sw)(K:Fm->It->St->Sm)(s':Sw):Prop
 | mk (σ':Sj Sx) (fm':Fm) (st':St) (it':It) (S:Step (env.locals::fp) σ s σ' s') (I:Inv C σ' st' s') (F:FrR C fx env fm' σ' s') (r:ItR σ' s'.heap it' b fp) (P:Fp C σ' env.locals fp) (h:K fm' it' st'=Sk)
inductive Qu (C:Cfg)(fx:Fx)(env:Env)(W:Sj Sx)(σ:Sj Sx)(s:Sw)(k:Fl->Fm->St->Sm)(f:Flow)(s':Sw):Prop
 | mk (σ':Sj Sx) (fl:Fl) (fm':Fm) (st':St) (S:Step W σ s σ' s') (I:Inv C σ' st' s') (F:FrR C fx env fm' σ' s') (r:FlR σ' s'.heap fl f) (h:k fl fm' st'=Sk)
inductive JU (C:Cfg)(fx:Fx)(env:Env)(σ:Sj Sx)(s:Sw)(K:Fm->St->Sm)(s':Sw):Prop
 | mk (σ':Sj Sx) (fm':Fm) (st':St) (S:Step [env.locals] σ s σ' s') (I:Inv C σ' st' s') (F:FrR C fx env fm' σ' s') (h:K fm' st'=Sk)
theorem K1 {body:Sj Stmt}{ca cb:CS} {k:Fl->Fm->St->Sm} (hg:SGI C fx d target gi)(ha:SL C fx d body ca)(hb:SL C fx d orelse cb)(R:Rm d A)(E:ba fx env)
  (hR:∀f s',Qu C fx env (env.locals::fp) σ s k f s'->R₀ (.ok f) s')
 (I:Inv C σ st s) (F:FrR C fx env fm σ s) (r:ItR σ s.heap it b fp) (P:Fp C σ env.locals fp) (n:Nat) (h:dP gi ca cb n fm it st k=Sk):U4 C.M A (.forLoop target (.ref b) body orelse env) R₀ s:=by
 refine codeAny_forLoop_any (λn=>Nv C fx env fp b σ s λfm it st=>dP gi ca cb n fm it st k) ?_ n ⟨σ,fm,st,it,.refl,I,F,r,P,h⟩
 intro n aaV z
 refine tP λQ' hQ=>?_
 obtain⟨σ1,abn,st1,abA,aaZ,aa1,abR,aa4,acd,aaX⟩:=z
 obtain⟨m,aaX⟩:=Gn (F:=λn=>dP gi ca cb n abn abA st1 k) (P:=λn=>aY st1 abA (cb abn st1 k) λy it=>gi abn y st1 λfm st=>ca fm st λf fm st=>@Fl.rec (λ_=>Sm) (dP gi ca cb n fm it st k) (k .nxt fm st) (dP gi ca cb n fm it st k) (λv=>k (.ret v) fm st) f) aaX ff (λ_=>rfl)
 have wL:∀b∈[env.locals],b∈env.locals::fp:=λb m=>Sn.mp m▸.head _
 refine Sq (Cy (k:=λit fm st=>ca fm st λf fm st=>@Fl.rec (λ_=>Sm) (dP gi ca cb m fm it st k) (k .nxt fm st) (dP gi ca cb m fm it st k) (λv=>k (.ret v) fm st) f) hg R E aa1 abR aa4 acd aaX.2) (λx aaW q=>hQ x aaW ?_) λ_ _ e=>e
 clear hQ abR aa1 aa4 acd
 induction x with
 | none=>
  refine CQ (Sq (hb A env σ1 abn st1 aaW k R E q.2.2.1 q.2.2.2 q.1) (λf aa5 z=>hR f aa5 ?_) λ_ _ e=>e)
  obtain⟨abk,fl,abx,abo,abe,abc,abr,abT,aa3⟩:=z
  exact⟨abk,fl,abx,abo,(aaZ.trans (q.2.1.widen λb m=>.tail _ m)).trans (abe.widen wL),abc,abr,abT,aa3⟩
 | some v=>
  refine CQ (Sq q (λ_ s2' q=>?_) λ_ _ e=>e)
  refine tP λQ' hQ=>Sq q (λ_ aa5 z=>hQ () aa5 ?_) λ_ _ e=>e
  obtain⟨abk,abx,abo,abS,abe,abc,abr,abj,abB,aa3⟩:=z
  refine tP λQ' hQ=>Sq (ha A env abk abx abo aa5 _ R E abc abr aa3) (λf abb z=>hQ f abb ?_) λ_ _ e=>e
  obtain⟨σ4,fl,fm4,st4,abp,abs,abw,abI,abd⟩:=z
  have S:Step (env.locals::fp) σ s σ4 abb:=(aaZ.trans abe).trans (abp.widen wL)
  have hw:∀p∈fp,p∉[env.locals]:=λp m q=>abB.loc (Sn.mp q▸m)
  have abK:=abj.step abp (Heap.Ns.noTup' abr) hw abB.out
  have abW:=abB.step abj abp hw
  revert abd
  exact FlR.e abI (λabd=>⟨m,aaX.1,σ4,fm4,st4,abS,S,abs,abw,abK,abW,abd⟩) (λabd=>hR .next abb ⟨σ4,.nxt,fm4,st4,S,abs,abw,trivial,abd⟩) (λabd=>⟨m,aaX.1,σ4,fm4,st4,abS,S,abs,abw,abK,abW,abd⟩) λabI abd=>hR (.ret _) abb ⟨σ4,.ret _,fm4,st4,S,abs,abw,abI,abd⟩
theorem G7 {iter:Expr} {body:Sj Stmt}{ca cb:CS} (hf:∀env x,Tv iter env x=pure x)(hg:SGI C fx d target gi)(hi:SI C fx d iter ci)(ha:SL C fx d body ca)(hb:SL C fx d orelse cb) :
  SS C fx d (.For target iter body orelse pos) (iT gi ci ca cb):=by
 intro A env σ fm st s k R E I F h
 refine wpAny_For (Sq (hi A env σ fm st s _ R E I F h) ?_ λ_ _ e=>e) (hf env)
 intro x aaV q
 refine Sq q ?_ λ_ _ e=>e
 rintro _ aaW ⟨σ2,it,st2,b,fp,rfl,aa6,aa9,aba,abN,dd,aa7⟩
 refine K1 hg ha hb R E ?_ aa9 (aa6.fr0 F) aba abN 200 aa7
 rintro f aa5 ⟨abk,fl,abx,abo,abe,abc,abr,abT,aa3⟩
 exact⟨abk,fl,abx,abo,((aa6.up (W:=env.locals::fp)).trans abe).more λp m=>by
  rcases SD.mp m with m | m
  ·exact .inl (by rw[m];exact .head _)
  ·exact .inr (dd p m),abc,abr,abT,aa3⟩
theorem vI {c:Expr}{body:Sj Stmt} {ca cb:CS} (hc:ST C fx d c cc)(ha:SL C fx d body ca)(hb:SL C fx d orelse cb):SS C fx d (.While c body orelse pos) (AC cc ca cb):=by
 intro A env σ fm st s k R E I F h
 refine wpAny_While (codeAny_whileLoop (λn=>JU C fx env σ s λfm st=>kT cc ca cb n fm st k) ?_ 200 ⟨σ,fm,st,.refl,I,F,h⟩)
 intro n aaV z
 refine tP λQ' hQ=>?_
 obtain⟨σ1,abn,st1,aaZ,aa1,abR,aaX⟩:=z
 obtain⟨m,aaX⟩:=Gn (F:=λn=>kT cc ca cb n abn st1 k) (P:=λn=>cc abn st1 λx st=>aD x (ca abn st λf fm st=>@Fl.rec (λ_=>Sm) (kT cc ca cb n fm st k) (k .nxt fm st) (kT cc ca cb n fm st k) (λv=>k (.ret v) fm st) f) (cb abn st k)) aaX ff (λ_=>rfl)
 refine Sq (hc A env σ1 abn st1 aaV _ R E aa1 abR aaX.2) (λx aaW z=>?_) λ_ _ e=>e
 obtain⟨σ2,st2,aa6,aa9,aa7⟩:=z
 have abz:=aa6.fr0 abR
 refine hQ x aaW ?_
 clear hQ
 induction x with
 | false=>exact CQ (Sq (hb A env σ2 abn st2 aaW k R E aa9 abz aa7) (λf aa5 o=>OutS.trans (aaZ.trans aa6.up) o) λ_ _ e=>e)
 | true=>
  refine tP λQ' hQ=>Sq (ha A env σ2 abn st2 aaW _ R E aa9 abz aa7) (λf abb z=>hQ f abb ?_) λ_ _ e=>e
  obtain⟨σ4,fl,fm4,st4,abp,abs,abw,abI,abd⟩:=z
  have S:Step [env.locals] σ s σ4 abb:=(aaZ.trans aa6.up).trans abp
  revert abd
  exact FlR.e abI (λabd=>⟨m,aaX.1,σ4,fm4,st4,S,abs,abw,abd⟩) (λabd=>⟨σ4,.nxt,fm4,st4,S,abs,abw,trivial,abd⟩) (λabd=>⟨m,aaX.1,σ4,fm4,st4,S,abs,abw,abd⟩) λabI abd=>⟨σ4,.ret _,fm4,st4,S,abs,abw,abI,abd⟩
end
noncomputable def au (sc:Scope)(k:NameKind):Sj Str:=(sc.names.filter (·.2 == k)).map (·.1)
noncomputable def aR (sc:Scope):Fx:=⟨au sc .local,au sc .cell++au sc .free,au sc .globalImplicit,au sc .cell⟩
noncomputable def dT (sc:Scope):Sm:=sc.kind == .function && decide (sc.names.map (·.1)).Nodup && (aR sc).ok
section
variable {C:Cfg}{fx:Fx}{d:Nat}{A:Around}{env:Env}{σ σ1:List Addr}{fm:Fm}{st:St}{s aaV:Shared}
theorem cH {l:Sj (Str×NameKind)} {k:NameKind}(nd:(l.map (·.1)).Nodup)(m:(x,k)∈l):l.lookup x=Si k:=by
 induction l with
 | nil=>exact Tc m aay
 | cons z r ih=>
  rw[Tx,VL] at nd
  rw[UC]
  rcases SD.mp m with e | m
  ·rw[←e,show(x == x)=Sk from beq_self_eq_true x]
  ·have:x≠z.1:=λq=>nd.1 (q▸UQ (f:=(·.1)) m)
   rw[show(x == z.1)=dV from beq_eq_false_iff_ne.mpr this]
   exact ih nd.2 m
theorem dm {k:NameKind} (m:x∈au sc k):(x,k)∈sc.names:=by
 refine aE (XN.mp m) λh80 h e=>?_;obtain⟨y,j⟩:=h80
 obtain⟨h1,h2⟩:=YZ.mp h
 clear m h
 cases e
 have:j=k:=by simpa using h2
 clear h2
 subst this
 exact h1
theorem tL (h:dT sc=Sk)(e:env.scope=sc)(hg:env.globals=S4)(hb:env.builtins=Ua):ba (aR sc) env:=by
 simp only[dT,Ta,decide_eq_true_eq] at h
 obtain⟨⟨hk,nd⟩,_⟩:=h
 have L:∀{x:Str} {k:NameKind},x∈au sc k->env.kindOf x=Si k:=λ{x k} m=>by
  unfold YR;rw[e];exact cH nd (dm m)
 refine⟨by rw[e];simpa using hk,hg,hb,λx m=>L m,λx m=>?_,λx m=>L m,λx m=>L m⟩
 rcases Tj.mp m with m | m
 ·exact .inl (L m)
 ·exact .inr (L m)
theorem di (h:dT sc=Sk):(aR sc).ok=Sk:=by
 simp only[dT,Ta] at h;exact h.2
noncomputable def qp:Obj:={ cls:=.type "cell",data:=.cell none }
theorem yy (I:Inv C σ st s){k:Nat->St->Sm}{t:Nat}(h:st.push (.cell none) k=Sk) :
  ∃st',k st.n st'=Sk/\Step [] σ s (σ++[s.heap.objs.size]) { s with heap:=s.heap.push qp,toks:=t }/\Inv C (σ++[s.heap.objs.size]) st' { s with heap:=s.heap.push qp,toks:=t }/\(σ++[s.heap.objs.size])[st.n]? = Si s.heap.objs.size:=by
 refine fF (St.push_t h) λst' e1 e2 h=>?_
 have none_:s.heap.get? s.heap.objs.size=none:=bE (SW _)
 refine⟨st',h,⟨⟨[s.heap.objs.size],rfl,λa m=>by rw[Sn.mp m];exact⟨λq=>(by have:=(I.new _ q).2;rw[none_] at this;exact(nomatch this)),.inl none_⟩⟩,λb x _ _ e=>bu b x e,rfl,λh=>h⟩,
  I.push (s':={ s with heap:=s.heap.push qp,toks:=t }) e1 e2 rfl (λb x e=>bu b x e) none_ (by rw[Heap.get?_push_size _ rfl];rfl) (bD I (SW _)) ⟨_,Heap.get?_push_size _ rfl,rfl⟩,by rw[I.n];simp⟩
inductive y6 (o:Sj Nat)(cells:Sj (Str×Sx))(σ:Sj Sx)(i:Nat)(x:Str):Prop
 | mk (a:Sx) (n:Nat) (e1:o[i]? = Si n) (e2:cells.lookup x=Si a) (e3:σ[n]? = Si a)
inductive OQ (C:Cfg)(names:Sj (Str×NameKind))(acc:Sj (Str×Sx))(σ:Sj Sx)(s:Sw)(k:Sj Nat->St->Sm)(acc':Sj (Str×Sx))(s':Sw):Prop
 | mk (σ':Sj Sx) (o:Sj Nat) (st':St) (S:Step [] σ s σ' s') (I:Inv C σ' st' s') (hl:o.length=names.length) (h2:∀(i:Nat) (x:Str),(names.map (·.1))[i]? = Si x->y6 o acc' σ' i x)
  (h3:∀x,x∉names.map (·.1)->acc'.lookup x=acc.lookup x) (h:k o st'=Sk)
theorem zU (f:Str×NameKind->Sj (Str×Sx)->Sem (ForInStep (Sj (Str×Sx)))) 
  (hf:∀name kind cells,f (name,kind) cells=if kind == .cell then (do let a ←alloc { cls:=.type "cell",data:=.cell none };pure (.yield ((name,a)::cells))) else pure (.yield cells)) :
  ∀(names:Sj (Str×NameKind)) (acc:Sj (Str×Sx)) (σ:Sj Sx) (st:St) (s:Sw) (k:Sj Nat->St->Sm),(names.map (·.1)).Nodup->Inv C σ st s->bX (names.filter (·.2 == .cell)).length st k=Sk ->
   Ss C.M A (Zm names acc f) (OQ C (names.filter (·.2 == .cell)) acc σ s k) Ex s
 | [],acc,σ,st,s,k,_,I,h=>by
  refine wE (WS) ?_
  exact Sl ⟨σ,[],st,.refl,I,rfl,λi x e=>by simp at e,λ_ _=>rfl,h⟩
 | (name,kind)::r,acc,σ,st,s,k,nd,I,h=>by
  simp only[Tx,VL] at nd
  rw[Uy,hf]
  by_cases hk:(kind == .cell)=Sk
  ·refine Rr hk ?_
   rw[Sj.filter_cons_of_pos (by exact hk)] at h ⊢
   have h:st.push (.cell none) (λn st=>bX (r.filter (·.2 == .cell)).length st λq s=>k (n::q) s)=Sk:=h
   refine fC (yy (t:=s.toks) I h) λst1 aaX aaZ aa1 abO=>?_
   refine kV (kV (Zn (Sl ?_)))
   refine Sq (zU f hf r _ _ st1 _ _ nd.2 aa1 aaX) ?_ λ_ _ e=>e
   rintro acc' s' ⟨σ',o,st',S',I',hl,h2,h3,h4⟩
   have nin:name∉(r.filter (·.2 == .cell)).map (·.1):=λm=>nd.1 (by
    refine aE (XN.mp m) λy m e=>?_
    exact e▸UQ (f:=Prod.fst) (YZ.mp m).1)
   refine⟨σ',st.n::o,st',aaZ.trans S',I',by simp[hl],λi x e=>?_,λx n=>?_,h4⟩
   ·induction i with
    | zero=>
     have:x=name:=by simpa using e.symm
     subst this
     exact⟨s.heap.objs.size,st.n,rfl,by rw[h3 x nin];simp[Zo],S'.idx abO⟩
    | succ i=>obtain⟨a,n,q1,q2,q3⟩:=h2 i x (e);exact⟨a,n,q1,q2,q3⟩
   ·simp only[Tx,SD,not_or] at n
    rw[h3 x n.2,UC,show(x == name)=dV from beq_eq_false_iff_ne.mpr n.1]
  ·refine OE hk ?_
   rw[Sj.filter_cons_of_neg (by exact hk)] at h ⊢
   exact kV (Sl (zU f hf r acc σ st s k nd.2 I h))
inductive nA (fx:Fx):Sj (Sm×Nat)->Sj Str->Prop
 | nil:nA fx [] []
 | cons {c:Sm} {i:Nat} {x:Str} {ps:Sj (Sm×Nat)} {xs:Sj Str}:gU fx c i=Si x->(c=Sk->x∈fx.own)->nA fx ps xs->nA fx ((c,i)::ps) (x::xs)
theorem H6 (hok:fx.ok=Sk)(f:Str×Sr->PUnit->Sem (ForInStep PUnit))(hf:∀n v u,f (n,v) u=(do aat env n v;pure (.yield ⟨⟩)))(E:ba fx env) :
  ∀{ps:Sj (Sm×Nat)} {xs:Sj Str} {l:Sj V} {us:Sj Sr} {σ:Sj Sx} {fm:Fm} {st:St} {s:Sw} {k:Fm->St->Sm},nA fx ps xs->Inv C σ st s->FrR C fx env fm σ s->VRs σ s.heap l us->bindL ps l fm st k=Sk ->
   Ss C.M A (Zm (xs.zip us) ⟨⟩ f) (λ_ s'=>OutG C fx env σ s k () s') cM s:=by
 intro ps xs l us σ fm st s k p
 induction p generalizing l us σ fm st s k with
 | nil=>
  intro I F r h
  refine dE (Ah h) λe80 h1=>?_;subst e80
  rw[Sj.zip_nil_left,WS]
  exact Sl ⟨σ,fm,st,.refl,I,F,h1⟩
 | cons hx hown p ih=>
  intro I F r h
  refine fB (wx h) λv q e82 h1=>?_;subst e82
  refine VRs.cons_e r λu1 us1 a b=>?_
  clear r
  rw[Sj.zip_cons_cons,Uy,hf]
  refine kV (kV (Sq (fA hx hown hok E I F a h1) ?_ λ_ _ e=>e))
  rintro _ s' ⟨σ',fm',st',S',I',F',h'⟩
  refine Sl (Sq (ih I' F' (S'.vrs (Heap.Ns.noTup' F) b) h') (λ_ _ o=>o.trans S') λ_ _ e=>e)
theorem yh (n i:Nat)(v:V):(cp n)[i]? ≠ Si (Si v):=by
 induction n generalizing i with
 | zero=>intro h;cases h
 | succ n ih=>
  induction i with
  | zero=>intro h;cases h
  | succ i=>exact λh=>ih i h
theorem yl (n:Nat):(cp n).length=n:=by
 induction n with
 | zero=>rfl
 | succ n ih=>show(none::cp n).length=_;rw[Tg,ih]
inductive Gj (C:Cfg)(sc:Scope)(closure:Sj (Str×Sx))(qual:Str)(func:SV Sx)(code:Sr)(around:SV Env)(σ:Sj Sx)(s:Sw)(k:Fm->St->Sm)(env:Env)(s':Sw):Prop
 | mk (σ':Sj Sx) (fm':Fm) (st':St) (E:ba (aR sc) env) (e1:env.scope=sc) (e2:env.func=func) (e3:around=none->env.code=code/\env.qual=qual) (e4:∀x,x∉au sc .cell->env.cells.lookup x=closure.lookup x) (S:Step [] σ s σ' s') (I:Inv C σ' st' s') (F:FrR C (aR sc) env fm' σ' s') (d:s.heap.get? env.locals=none) (h:k fm' st'=Sk)
inductive LG (C:Cfg)(sc:Scope)(func:SV Sx)(σ:Sj Sx)(s:Sw)(k:Fm->St->Sm)(env:Env)(s':Sw):Prop
 | mk (σ':Sj Sx) (fm':Fm) (st':St) (E:ba (aR sc) env) (e1:env.scope=sc) (e2:env.func=func) (S:Step [] σ s σ' s') (I:Inv C σ' st' s') (F:FrR C (aR sc) env fm' σ' s') (d:s.heap.get? env.locals=none) (h:k fm' st'=Sk)
theorem jw {closure:Sj (Str×Sx)}{xs:Sj Str} {code:Sr} {builtins:Sx} {q:Sj Nat} {us:Sj Sr}{k:Fm->St->Sm}
  (hsc:dT sc=Sk) (hb:(match around with | some o=>o.builtins | none=>builtins)=Ua) (hps:nA (aR sc) ps xs) (I:Inv C σ st s) (r:VRs σ s.heap l us)
  (hq:q.length<=(au sc .free).length) (hcl:∀(i:Nat) (x:Str),(au sc .free)[i]? = Si x->i<q.length->y6 q closure σ i x)
  (h:bX (au sc .cell).length st (λo st=>bindL ps l ⟨cp (au sc .local).length,o++q⟩ st k)=Sk) :
  Ss C.M A (WT sc S4 closure (xs.zip us) qual func code around builtins)
   (Gj C sc closure qual func code around σ s k) cM s:=by
 unfold WT
 have nd:(sc.names.map (·.1)).Nodup:=by
  simp only[dT,Ta,decide_eq_true_eq] at hsc;exact hsc.1.2
 have hlen:(au sc .cell).length=(sc.names.filter (·.2 == .cell)).length:=by unfold au;rw[S6]
 rw[hlen] at h
 refine kV (Zn ?_)
 generalize hT:(if around.isSome=Sk then "dict" else "frame":String)=T
 have aca:Step [] σ s σ { s with heap:=s.heap.push { cls:=.type T,data:=.dict #[] } }:=Step.pushed (t:=s.toks)
 have acE:Inv C σ st { s with heap:=s.heap.push { cls:=.type T,data:=.dict #[] } }:=I.pushed (t:=s.toks)
 have abV:(s.heap.push { cls:=.type T,data:=.dict #[] }).Ns s.heap.objs.size λ_=>none:=Heap.Ns.new s.heap (.type T)
 have dL:s.heap.get? s.heap.objs.size=none:=bE (SW _)
 refine kV (Sq (zU _ (λname kind cells=>by cases hkc:kind == NameKind.cell <;> simp[hkc]) sc.names closure σ st _ _ nd acE h) ?_ λ_ _ e=>e)
 rintro cells aaV ⟨σ1,o,st1,aaZ,aa1,hl,h2,h3,h4⟩
 have key:∀env:Env,env=VF sc s.heap.objs.size S4 cells qual func code around builtins->Ss C.M A (Zm (xs.zip us) ⟨⟩ (λ(x:Str×Sr) (_:PUnit)=>(do aat env x.1 x.2;pure (.yield ⟨⟩):Sem (ForInStep PUnit))) >>= λ_=>pure env)
   (Gj C sc closure qual func code around σ s k) cM aaV:=by
  rintro env rfl
  have e1:(VF sc s.heap.objs.size S4 cells qual func code around builtins).scope=sc:=by unfold VF;induction around <;> rfl
  have e2:(VF sc s.heap.objs.size S4 cells qual func code around builtins).locals=s.heap.objs.size:=by unfold VF;induction around <;> rfl
  have e3:(VF sc s.heap.objs.size S4 cells qual func code around builtins).globals=S4:=by unfold VF;induction around <;> rfl
  have e4:(VF sc s.heap.objs.size S4 cells qual func code around builtins).cells=cells:=by unfold VF;induction around <;> rfl
  have e5:(VF sc s.heap.objs.size S4 cells qual func code around builtins).builtins=Ua:=by unfold VF;induction around <;> exact hb
  have e6:(VF sc s.heap.objs.size S4 cells qual func code around builtins).func=func:=by unfold VF;induction around <;> rfl
  have e7:around=none->(VF sc s.heap.objs.size S4 cells qual func code around builtins).code=code/\(VF sc s.heap.objs.size S4 cells qual func code around builtins).qual=qual:=by intro z;rw[z];exact⟨rfl,rfl⟩
  generalize VF sc s.heap.objs.size S4 cells qual func code around builtins=env at e1 e2 e3 e4 e5 e6 e7 ⊢
  have E:ba (aR sc) env:=tL hsc e1 e3 e5
  have hlive:(s.heap.push { cls:=.type T,data:=.dict #[] }).get? s.heap.objs.size=Si { cls:=.type T,data:=.dict #[] }:=Heap.get?_push_size _ rfl
  have out0:s.heap.objs.size∉σ:=λm=>Tc (I.size m) (Tq _)
  have F:FrR C (aR sc) env ⟨cp (au sc .local).length,o++q⟩ σ1 aaV:=by
   refine⟨⟨λ_=>none,by rw[e2];exact abV.at' λx e=>aaZ.keep _ x out0 (λm=>nomatch m) e,λi x v _ e=>Tc e (yh _ _ _)⟩,by rw[e2];exact aaZ.notin out0 (λm=>nomatch m) hlive,by rw[e2];exact bD I (SW _),by rw[yl];exact SW _,λi n e=>?_⟩
   rw[e4]
   have hlc:o.length=(au sc .cell).length:=by rw[hl,hlen]
   by_cases hi:i<o.length
   ·have hx:i<(au sc .cell).length:=hlc▸hi
    obtain⟨a,n',q1,q2,q3⟩:=h2 i _ (Sz hx)
    have:n'=n:=by
     have e:(o++q)[i]? = Si n:=e
     rw[Tp hi,q1] at e
     exact Si.inj e
    subst this
    exact⟨_,a,by show(au sc .cell++au sc .free)[i]? = _;rw[Tp hx];exact Sz hx,q2,q3⟩
   ·have e:(o++q)[i]? = Si n:=e
    rw[T5 (Uo.mp hi)] at e
    obtain⟨hj,_⟩:=SJ.mp e
    have hx:i - o.length<(au sc .free).length:=SH hj hq
    obtain⟨a,n',q1,q2,q3⟩:=hcl _ _ (Sz hx) hj
    rw[e] at q1
    cases q1
    have nin:(au sc .free)[i - o.length]∉(sc.names.filter (·.2 == .cell)).map (·.1):=λm=>by
     have a1:=cH nd (dm (k:=.cell) m)
     have a2:=cH nd (dm (k:=.free) (Sj.getElem_mem hx))
     rw[a1] at a2;cases a2
    refine⟨_,a,?_,by rw[h3 _ nin];exact q2,aaZ.idx q3⟩
    show(au sc .cell++au sc .free)[i]? = _
    rw[T5 (by rw[←hlc];exact Uo.mp hi),←hlc]
    exact Sz hx
  refine kV (Sq (H6 (di hsc) _ (λ_ _ _=>rfl) E hps aa1 F ((aca.trans aaZ).vrs .nil r) h4) ?_ λ_ _ e=>e)
  rintro _ s' ⟨σ',fm',st',S',I',F',h'⟩
  refine Sl ⟨σ',fm',st',E,e1,e6,e7,λx hx=>by rw[e4];exact h3 x hx,((aca.trans aaZ).up.trans S').more λb m=>.inr (by rw[Sn.mp m,e2];exact dL),I',F',by rw[e2];exact dL,h'⟩
 induction around with
 | none=>exact key _ rfl
 | some outer=>exact key _ rfl
theorem uo {closure:Sj (Str×Sx)}{xs:Sj Str} {code:Sr} {builtins:Sx} {q:Sj Nat} {us:Sj Sr}{k:Fm->St->Sm}
  (hsc:dT sc=Sk) (hb:(match around with | some o=>o.builtins | none=>builtins)=Ua) (hps:nA (aR sc) ps xs) (I:Inv C σ st s) (r:VRs σ s.heap l us)
  (hq:q.length<=(au sc .free).length) (hcl:∀(i:Nat) (x:Str),(au sc .free)[i]? = Si x->i<q.length->y6 q closure σ i x)
  (h:bX (au sc .cell).length st (λo st=>bindL ps l ⟨cp (au sc .local).length,o++q⟩ st k)=Sk) :
  Ss C.M A (WT sc S4 closure (xs.zip us) qual func code around builtins)
   (LG C sc func σ s k) cM s:=by
 refine Sq (jw hsc hb hps I r hq hcl h) ?_ λ_ _ e=>e
 rintro env s' ⟨σ',fm',st',a1,a2,a3,_,_,a6,a7,a8,a9,a10⟩
 exact⟨σ',fm',st',a1,a2,a3,a6,a7,a8,a9,a10⟩
end
section
variable {C:Cfg}{fx:Fx}{d:Nat}{A:Around}{env:Env}{σ σ1:List Addr}{fm:Fm}{st:St}{s aaV:Shared}
def eY (C:Cfg)(d:Nat)(f:Sr)(c:FN):Prop:=
 ∀(A:Ue) (σ:Sj Sx) (st:St) (s:Sw) (k:V->St->Sm) (l:Sj V) (us:Sj Sr),Rm d A->Inv C σ st s->VRs σ s.heap l us->c l st k=Sk ->
  U4 C.M A (.call f ⟨us,[]⟩) (λr s'=>match r with | .ok (.ret v)=>Out C [] σ s k v s' | _=>False) s
theorem lS {c:FN}(h:eY C d f c):SF C d f c:=λA σ st s k l us R I r q=>UM (VG (h A σ st s k l us R I r q) λr s' z=>by rcases r with e | (v | _ | _ | _) <;> first | exact z.elim | exact z)
theorem lr (Ok:C.Ok) {v:Sr}{f:FN}(hok:fx.ok=Sk)(hx:x∈fx.gn)(g:GB C x v)(hk:Keeps C v)(hf:SF C d' v f)(hd:d'<=d)(hp:aL es)(hs:SA C fx d es cs) :
  SE C fx d (.Call (.Name x p) es [] pos) (fc f cs):=by
 intro A env σ fm st s k R E I F h
 refine TB (bT Ok hok hx g E I ?_)
 refine bK (k:=λvs st=>f vs st k) Ok hk hp hs R E I F h λσ' l st' us s' S I' r _ h'=>?_
 exact Sq (hf A σ' st' s' k l us (R.le hd) I' r h') (λ_ _ o=>o.trans S) λ_ _ e=>e
end
section
variable {C:Cfg}{fx:Fx}{d:Nat}{A:Around}{env:Env}{σ σ1:List Addr}{fm:Fm}{st:St}{s aaV:Shared}
theorem AA {x c:Sx} {name:Str}{ga:String}{tf:Sr} {Q:Sr×Sj Sr->Sw->Prop}(X:C.K.In s.heap)(I:Us s.heap x ox c od)
  (hga:Uq C.K (.ref c) "__getattribute__"=Si (Si (.builtin ga))) (hcan:(VH ga != "object.__getattribute__")=dV) (hk:Uq C.K (.ref c) "__getattr__"=Si none)
  (hf:Uq C.K (.ref c) name=Si (Si f)) (ht:Looks C.M s.heap (Xv f) tf) (htf:(tf != .type "function" && tf != .type "method_descriptor" && tf != .type "wrapper_descriptor")=dV) (hs:shadowIn od name=Si dV) (h:Q (f,[.ref x]) s) :
  Ss C.M A (Wz (.ref x) name pl) Q E s:=by
 unfold Wz aas
 refine kV (kV (I.type.here ((T3 X hga).here ?_)))
 dsimp only
 rw[hcan,SK (by decide)]
 refine kV (kV (I.type.here ((T3 X hk).here ?_)))
 refine kV (kV (I.type.here ((T3 X hf).here (kV (ht.here ?_)))))
 rw[htf,SK (by decide)]
 refine kV (WK I.at_ ?_)
 have hd:=I.dict
 cases e:ox.dict with
 | none=>exact kV (U5 (Sl h))
 | some dx=>
  induction od with
  | none=>rw[e] at hd;exact hd.elim
  | some o=>
   rw[e] at hd
   refine aE (VI.mp hs) λr a b=>?_
   refine kV (kV (WK hd ?_))
   refine wE (nsLook_of a) ?_
   refine Sl ?_
   rw[b]
   exact kV (U5 (Sl h))
theorem nR {es:Sj UW}{name:Str} (r:ER σ h fs es)(hn:∀x<12,aW x≠name):shadowIn (Si (VQ es n)) name=Si dV:=by
 have key:es.find? (·.key.isStr name)=none:=by
  induction r with
  | nil=>rfl
  | @cons x v r hs t u es hx hv hr ih=>
   rw[YM (by simp only[Yf];intro z;exact hn x hx (by simpa using z))]
   exact ih
 unfold shadowIn aaL
 simp only[key]
 rw[show es.toArray.toList.any (·.refKey)=es.any (·.refKey) from rfl,rM r]
 rfl
theorem yG:(VH "list.__getattribute__" != "object.__getattribute__")=dV:=by decide +kernel
theorem yk:(VH "object.__getattribute__" != "object.__getattribute__")=dV:=by decide +kernel
theorem rL (Ok:C.Ok)(J:cJ C) {p:Sj (Nat×V)->O}{name:Str}{tf:Sr} {Q:Sr×Sj Sr->Sw->Prop}(I:Inv C σ st s)(ho:st.look n=Si o)(ha:σ[n]? = Si a)
  (hp:(∃d,c<2/\o=.inst c d fs/\p=O.inst c d)\/(∃d l,c=2/\o=.lsub c d fs l/\p=λfs=>O.lsub c d fs l)) (hf:Uq C.K (.ref (dJ c)) name=Si (Si f)) (ht:Looks C.M s.heap (Xv f) tf)
  (htf:(tf != .type "function" && tf != .type "method_descriptor" && tf != .type "wrapper_descriptor")=dV) (hn:∀x<12,aW x≠name) (h:Q (f,[.ref a]) s):Ss C.M A (Wz (.ref a) name pl) Q E s:=by
 refine qc (I.obj ho ha hp) λox dx es m IA hd hD er=>?_
 have hc:c<3:=by rcases hp with ⟨_,h,_⟩ | ⟨_,_,h,_⟩ <;> lia
 have hga:∃ga,Uq C.K (.ref (dJ c)) "__getattribute__"=Si (Si (.builtin ga))/\(VH ga != "object.__getattribute__")=dV:=by
  rcases hp with ⟨_,h,_⟩ | ⟨_,_,h,_⟩
  ·exact⟨_,J.ga c h,yk⟩
  ·subst h;exact⟨_,J.gaL,yG⟩
 refine aE hga λga g1 g2=>?_
 exact AA (I.X Ok) IA g1 g2 (J.gh c hc) hf ht htf (nR er hn) h
structure de (C:Cfg)(c:Nat)(name:Str)(fa:Sx):Prop where
 find:Uq C.K (.ref (dJ c)) name=Si (Si (.ref fa))
 typ:YS C.K (.ref fa)=Si (.type "function")
 keep:aax C.K (.ref fa)=Sk
 name:∀x<12,aW x≠name
def d6 (o:Expr)(name:Str)(apos:Pos)(es:Sj Expr)(pos:Pos):Prop:=∃pl:Env->Sem Sm,∀env,eval (.Call (.Attribute o name apos) es [] pos) env=(do
   let ov ←eval o env
   UG apos.atName
   let (f,first) ←holding [ov] (Wz ov name (pl env))
   Xr pos f first (W9 pos (T4 es env)) (backToKw pos (Zl [] env)))
theorem wi {k:Nat->Sj (Nat×V)->(Sj (Nat×V)->O)->Sm}(I:Inv C σ st s) (ho:st.look n=Si o)(h:pi o k=Sk) :
  ∃c fs p,k c fs p=Sk/\((∃d,c<2/\o=.inst c d fs/\p=O.inst c d)\/(∃d l,c=2/\o=.lsub c d fs l/\p=λfs=>O.lsub c d fs l)):=by
 rcases qD h with ⟨c,d,fs,rfl,h1⟩ | ⟨c,d,fs,l,rfl,h1⟩
 ·have hc:c<2:=by obtain⟨b,_,r⟩:=I.at_ n _ ho;exact r.1
  exact⟨c,fs,_,h1,.inl ⟨d,hc,rfl,rfl⟩⟩
 ·have hc:c=2:=by obtain⟨b,_,r⟩:=I.at_ n _ ho;exact r.1
  exact⟨c,fs,_,h1,.inr ⟨d,l,hc,rfl,rfl⟩⟩
theorem wo (Ok:C.Ok)(J:cJ C) {o:Expr} {name:Str} {f:FN}(hm:d6 o name apos es pos)(m:de C c name fa)(hf:SF C d' (.ref fa) f)(hd:d'<=d)(hp:aL es)
  (ho:SE C fx d o co) (hs:SA C fx d es cs):SE C fx d (.Call (.Attribute o name apos) es [] pos) (bz c f co cs):=by
 intro A env σ fm st s k R E I F h
 refine bG hm λpl he=>?_
 refine wE (he env) ?_
 refine kV (aw (ho A env σ fm st s _ R E I F h) λσ1 x st1 u aaV aaZ aa1 aa4 aaX=>kV (TF (kV (SR ?_))))
 refine bN aaX λn e81 h2=>?_;clear aaX;subst e81
 refine St.get_e h2 λob hob h3=>?_;clear h2
 refine iB (wi aa1 hob h3) λc' fs p h4 hk=>?_
 refine aM h4 λhc h5=>?_;clear h4
 have hc:=SQ hc
 subst hc
 refine VR.ref_e aa4 λa ea=>?_
 refine rL Ok J aa1 hob ea hk m.find (looks_typeIn (aa1.X Ok) m.typ) (by decide +kernel) m.name ?_
 refine bK (k:=λvs st=>f (.ref n::vs) st k) Ok (jo m.keep) hp hs R E aa1 (aaZ.fr0 F) h5 λσ' l st' us s' S' I' r' _ h'=>?_
 exact Sq (hf A σ' st' s' k (.ref n::l) (.ref a::us) (R.le hd) I' (.cons (.ref (S'.idx ea)) r') h') (λ_ _ o=>o.trans (aaZ.trans S')) λ_ _ e=>e
end
section
variable {C:Cfg}{fx:Fx}{d:Nat}{A:Around}{env:Env}{σ σ1:List Addr}{fm:Fm}{st:St}{s aaV:Shared}
def NX (C:Cfg)(d:Nat)(f:Sr)(c:FN):Prop:=∀(A:Ue)(σ:Sj Sx)(st:St)(s:Sw)(k:V->St->Sm)(n:Nat)(a:Sx)(c' d':Nat)(fs:Sj (Nat×V))(l:Sj V),
 Rm d A->Inv C σ st s->σ[n]? = Si a->st.look n=Si (.lsub c' d' fs l)->c [.ref n] st k=Sk->fZ C A (call f [.ref a]) σ s k
theorem IX (hsub:NX C d (.builtin "len") fk):SF C d (.builtin "len") dU:=by
 intro A σ st s k l us R I r h
 refine dY h λv e81 h1=>?_;clear h;subst e81
 refine VRs.cons_e r λ_ _ ra rr=>?_
 refine VRs.nil_e rr ?_
 induction ra using VR.cases_e with
 | none=>exact ff h1
 | bool=>exact ff h1
 | int=>exact ff h1
 | str l t=>
  refine aM h1 λhl h2=>?_
  have hl:=bU hl
  rw[aC] at hl h2
  have e:(⟨l.toArray⟩:Str).length=l.length:=by show l.toArray.size=_;simp
  refine aaI (by rw[e];lia) ?_
  rw[e]
  exact cQ I _ (.int _ _) h2
 | tup e n q=>
  refine aM h1 λhl h2=>?_
  have hl:=bU hl
  rw[aC] at hl h2
  refine len_tuple ⟨_,e,rfl,_,rfl⟩ (by rw[Sy,q.length];lia) ?_
  rw[Sy,q.length]
  exact cQ I _ (.int _ _) h2
 | @ref n a e=>
  refine St.get_e h1 λo ho h2=>?_;clear h1
  induction o with
  | list l=>
   refine aM h2 λhl h3=>?_
   have hl:=bU hl
   rw[aC] at hl h3
   obtain⟨vs,m,g,q⟩:=I.list ho e
   refine len_list (items:=vs.toArray) ⟨_,g,rfl,_,rfl⟩ (by rw[Sy,q.length];lia) ?_
   rw[Sy,q.length]
   exact cQ I _ (.int _ _) h3
  | lsub c d fs l=>exact hsub A σ st s k n a c d fs l R I e ho h2
  | cell=>exact ff h2
  | inst=>exact ff h2
  | hid=>exact ff h2
theorem k0:SF C d (.builtin "max") jD:=by
 intro A σ st s k l us R I r h
 refine nY h λv w e81 h1=>?_;clear h;subst e81
 refine aO h1 λa e81 h2=>?_;clear h1;subst e81
 refine aO h2 λb e81 h3=>?_;clear h2;subst e81
 refine VRs.cons_e r λ_ _ ra rr=>?_
 refine VRs.cons_e rr λ_ _ rb rr=>?_
 refine VRs.nil_e rr ?_
 refine VR.int_e ra λt=>?_
 refine VR.int_e rb λu=>?_
 refine max_two_ints R.handled λh' tk hk=>?_
 have S:Step [] σ s σ { s with heap:=h',toks:=tk }:=Step.all hk
 have e:uR a b=if b>a then b else a:=by
  show @Ti (λ_=>Int) a b (AK a b)=_
  rw[j7]
  by_cases q:a<b
  ·rw[Tu q,SX q]
  ·rw[Tt q,SK q]
 rw[e] at h3
 refine⟨σ,_,st,S,I.grow hk,?_,h3⟩
 split <;> exact .int _ _
theorem H9:SF C d (.builtin "chr") Eo:=by
 intro A σ st s k l us R I r h
 refine dY h λv e81 h1=>?_;clear h;subst e81
 refine aO h1 λa e81 h2=>?_;clear h1;subst e81
 refine aM h2 λq1 h3=>?_;clear h2
 refine aM h3 λq2 h4=>?_;clear h3
 rw[gx] at q1 q2
 have q1:=S8 q1
 have q2:=S8 q2
 refine VRs.cons_e r λ_ _ ra rr=>?_
 refine VRs.nil_e rr (VR.int_e ra λ_=>?_)
 refine PySem.P.chr_of_int (by simp only[Xp,decide_eq_false_iff_not];lia) ?_
 rw[gH] at h4
 exact cQ I _ (.str [_] _) h4
theorem mn:∀{q:Sj Int}{vs:Sj Sr},VRs σ h (q.map V.int) vs->∃xs:Sj (Int×Tok),vs.toArray=intItems xs.toArray/\xs.map (·.1)=q
 | [],_,r=>by refine VRs.nil_e r ?_;exact⟨[],by simp[intItems],rfl⟩
 | x::q,_,r=>by
  refine VRs.cons_e r λ_ _ a b=>?_
  refine VR.int_e a λt=>?_
  refine aE (mn b) λxs e e'=>?_
  refine⟨(x,t)::xs,?_,by simp[e']⟩
  unfold intItems at e ⊢
  simp only[Sj.map_toArray,Tx,aaO] at e ⊢
  rw[e]
theorem w5:∀(q:Sj Int)(a:Int),zv q a=a+q.sum
 | [],a=>by show a=_;simp
 | x::q,a=>by
  have:zv (x::q) a=zv q (gA a x):=rfl
  rw[this,w5 q,eU,Vv];lia
theorem ri (xs:Sj (Int×Tok)):∀n,n<=xs.length->Xf (Vm xs.toArray) n=((xs.map (·.1)).take n).sum:=by
 intro n hn
 induction n with
 | zero=>rfl
 | succ n ih=>
  have e:Xf (Vm xs.toArray) (n+1)=Xf (Vm xs.toArray) n+Vm xs.toArray n:=rfl
  rw[e,ih (by lia),WU]
  have:(xs.map (·.1))[n]? = Si (xs[n]'(by lia)).1:=by simp[Sz (show n<xs.length by lia)]
  rw[this]
  have e2:Vm xs.toArray n=(xs[n]'(by lia)).1:=by
   unfold Vm
   simp[Sz (show n<xs.length by lia)]
  rw[e2]
  simp
theorem BY:SF C d (.builtin "sum") BT:=by
 intro A σ st s k l us R I r h
 refine dY h λv e81 h1=>?_;clear h;subst e81
 refine bN h1 λn e81 h2=>?_;clear h1;subst e81
 refine bC h2 λl hl h3=>?_;clear h2
 refine kx h3 λq e81 h4=>?_;clear h3;subst e81
 refine VRs.cons_e r λ_ _ ra rr=>?_
 refine VRs.nil_e rr ?_
 refine VR.ref_e ra λa e=>?_
 obtain⟨vs,m,g,rv⟩:=I.list hl e
 refine aE (mn rv) λxs e1 e2=>?_
 refine sum_intListG (xs:=xs.toArray) R.handled ⟨_,g,rfl,m,by show Data.seq vs.toArray m=_;rw[e1]⟩ λh' tk t' hk=>?_
 have S:Step [] σ s σ { s with heap:=h',toks:=tk }:=Step.all hk
 have es:Xf (Vm xs.toArray) xs.toArray.size=zv q 0:=by
  rw[Sy,ri xs _ (SW _),w5,e2,UP (by rw[←e2];simp)];lia
 rw[es]
 exact⟨σ,_,st,S,I.grow hk,.int _ _,h4⟩
theorem AF:SF C d (.type "tuple") EH:=by
 intro A σ st s k l us R I r h
 refine dY h λv e81 h1=>?_;clear h;subst e81
 refine bN h1 λn e81 h2=>?_;clear h1;subst e81
 refine bC h2 λl hl h3=>?_;clear h2
 refine VRs.cons_e r λ_ _ ra rr=>?_
 refine VRs.nil_e rr ?_
 refine VR.ref_e ra λa e=>?_
 obtain⟨vs,m,g,rv⟩:=I.list hl e
 refine aM h3 λhlen h4=>?_;clear h3
 rw[aC] at hlen
 refine call_tuple_list (items:=vs.toArray) ⟨_,g,rfl,_,rfl⟩ (λh' hk=>?_) (by rw[Sy,rv.length];exact dk hlen)
 have S:Step [] σ s σ { s with heap:=h' }:=Step.all (t:=s.toks) hk
 have I':Inv C σ st { s with heap:=h' }:=I.grow hk
 exact(wu (s:={ s with heap:=h' }) (t:=s.toks) I' (S.vrs .nil rv) h4).trans S
end
section
variable {C:Cfg}{fx:Fx}{d:Nat}{A:Around}{env:Env}{σ σ1:List Addr}{fm:Fm}{st:St}{s aaV:Shared}
def SM (C:Cfg)(d:Nat)(id:String)(m:yr):Prop:=
 ∀(A:Ue) (σ:Sj Sx) (st:St) (s:Sw) (k:V->St->Sm) (x:V) (u:Sr) (l:Sj V) (us:Sj Sr),Rm d A->Inv C σ st s->VR σ s.heap x u->VRs σ s.heap l us->m x l st k=Sk->fZ C A (call (.builtin id) (u::us)) σ s k
theorem j6 (Ok:C.Ok) {id:String}{m:yr}{o:Expr} {name:Str} (hm:d6 o name apos es pos)(slot:Slot "str" name id)(ty:Xv (.builtin id)=pure (.type "method_descriptor"))(hf:SM C d' id m)(hd:d'<=d)
  (hp:aL es) (ho:SE C fx d o co) (hs:SA C fx d es cs):SE C fx d (.Call (.Attribute o name apos) es [] pos) (rB m co cs):=by
 intro A env σ fm st s k R E I F h
 obtain⟨pl,he⟩:=hm
 refine wE (he env) ?_
 refine kV (aw (ho A env σ fm st s _ R E I F h) λσ1 x st1 u aaV aaZ aa1 aa4 aaX=>kV (TF (kV (SR ?_))))
 refine dh aaX λl e81 h2=>?_;clear aaX;subst e81
 refine VR.str_e aa4 λt=>?_
 refine getMethod_builtin (V4 _ _ t) PySem.F.plainAttrs_str slot ty (λ_ e=>nomatch e) ?_
 refine bK (k:=λvs st=>m (.str l) vs st k) Ok ck hp hs R E aa1 (aaZ.fr0 F) h2 λσ' q st' us s' S' I' r' _ h'=>?_
 exact Sq (hf A σ' st' s' k (.str l) _ q us (R.le hd) I' (.str l t) r' h') (λ_ _ o=>o.trans (aaZ.trans S')) λ_ _ e=>e
theorem uC:∀c<128,fS c=Xw c:=by decide +kernel
theorem sG:SM C d "str.isspace" lU:=by
 intro A σ st s k x u l us R I rx r h
 refine dh h λl' e81 h1=>?_;clear h;subst e81
 refine tB h1 λe81 h2=>?_;clear h1;subst e81
 refine aM h2 λha h3=>?_;clear h2
 refine VR.str_e rx λt=>?_
 refine VRs.nil_e r ?_
 refine call_gives Wl (V4 _ _ t) PySem.F.entry_str_isspace (PySem.F.args_str_isspace_1 _) (gives_str_isspace _ t) ?_
 have e:((decide ((⟨l'.toArray⟩:Str).length>0)) && (⟨l'.toArray⟩:Str).cps.all Xw)=aD (iO l') (gv fS l') dV:=by
  rw[po] at ha ⊢
  have q:l'.all fS=l'.all Xw:=by
   rw[Sm.eq_iff_iff,Te,Te]
   constructor
   ·intro z c m;rw[←uC c (by have:=Sp (Te.mp ha c m);lia)];exact z c m
   ·intro z c m;rw[uC c (by have:=Sp (Te.mp ha c m);lia)];exact z c m
  rw[q]
  show(decide (l'.toArray.size>0) && l'.toArray.all Xw)=_
  rw[Yu,Sy]
  induction l' with
  | nil=>rfl
  | cons c r=>rw[Tu (by simp),Wi];rfl
 show Out C [] σ s k (.bool _) s
 rw[e]
 exact cQ I s.toks (.bool _) h3
theorem tu:∀{q:Sj V}{xs:Sj (Sj Nat)}{vs:Sj Sr},VRs σ h q vs->q=xs.map V.str->∃l:Sj (Str×Tok),vs=YD l/\l.map (·.1)=xs.map λx=>(⟨x.toArray⟩:Str)
 | [],xs,vs,r,e=>by
  refine VRs.nil_e r ?_
  induction xs with
  | nil=>exact⟨[],rfl,rfl⟩
  | cons=>cases e
 | v::q,xs,vs,r,e=>by
  induction xs with
  | nil=>cases e
  | cons x xs=>
   simp only[Tx,Xx] at e
   obtain⟨rfl,e⟩:=e
   refine VRs.cons_e r λ_ _ a b=>?_
   refine VR.str_e a λt=>?_
   obtain⟨l,rfl,e2⟩:=tu b e
   exact⟨(⟨x.toArray⟩,t)::l,rfl,by simp[e2]⟩
theorem lf (sep:Sj Nat):∀xs:Sj (Sj Nat),Str.join ⟨sep.toArray⟩ (xs.map λx=>(⟨x.toArray⟩:Str))=⟨(bQ sep xs).toArray⟩
 | []=>rfl
 | [x]=>rfl
 | x::y::r=>by
  have ih:=lf sep (y::r)
  have e:bQ sep (x::y::r)=bp x (bp sep (bQ sep (y::r))):=rfl
  rw[e,bf,bf]
  have e2:Str.join ⟨sep.toArray⟩ ((x::y::r).map λx=>(⟨x.toArray⟩:Str))=⟨x.toArray⟩++⟨sep.toArray⟩++Str.join ⟨sep.toArray⟩ ((y::r).map λx=>(⟨x.toArray⟩:Str)):=rfl
  rw[e2,ih]
  show(⟨x.toArray++sep.toArray++(bQ sep (y::r)).toArray⟩:Str)=_
  simp
theorem xY {k:Sj (Sj Nat)->Sm}(h:d7 dB l k=Sk):∃xs,l=xs.map V.str/\k xs=Sk:=by
 induction l generalizing k with
 | nil=>exact⟨[],rfl,h⟩
 | cons v l ih=>
  have h:dB v (λy=>d7 dB l λq=>k (y::q))=Sk:=h
  refine dh h λx e81 h1=>?_;clear h;subst e81
  refine aE (ih h1) λxs e81 h2=>?_;subst e81
  exact⟨x::xs,rfl,h2⟩
theorem gW (sep:Sj Nat):∀xs:Sj (Sj Nat),(xs.map λx=>x.length+sep.length).sum<=(bQ sep xs).length+sep.length
 | []=>Th _
 | [x]=>by show x.length+sep.length+0<=x.length+_;lia
 | x::y::r=>by
  have ih:=gW sep (y::r)
  have e:bQ sep (x::y::r)=bp x (bp sep (bQ sep (y::r))):=rfl
  rw[e,bf,bf,Tx,Vv]
  simp only[SY]
  lia
theorem jM (sep:Nat):∀(xs:Sj Str)(a:Nat),xs.foldl (λn x=>n+x.length+sep) a=a+(xs.map λx=>x.length+sep).sum
 | [],a=>by rfl
 | x::xs,a=>by rw[Sj.foldl_cons,jM sep xs,Tx,Vv];lia
theorem qG:SM C d "str.join" oW:=by
 intro A σ st s k x u l us R I rx r h
 refine dh h λsep e81 h1=>?_;clear h;subst e81
 refine dY h1 λv e81 h2=>?_;clear h1;subst e81
 refine bN h2 λn e81 h3=>?_;clear h2;subst e81
 refine bC h3 λq hq h4=>?_;clear h3
 refine aE (xY h4) λxs e81 h5=>?_;subst e81
 refine aM h5 λhs h6=>?_;clear h5
 refine aM h6 λhj h7=>?_;clear h6
 have hs:=bU hs
 have hj:=bU hj
 rw[aC] at hs hj
 refine VR.str_e rx λt=>?_
 refine VRs.cons_e r λ_ _ ra rr=>?_
 refine VRs.nil_e rr ?_
 refine VR.ref_e ra λa e=>?_
 obtain⟨vs,m,g,rv⟩:=I.list hq e
 refine aE (tu rv rfl) λp e81 e2=>?_;subst e81
 have hok:JoinOk ⟨sep.toArray⟩ (xs.map λx=>(⟨x.toArray⟩:Str))=Sk:=by
  show(!decide ((xs.map λx=>(⟨x.toArray⟩:Str)).toArray.foldl (λn x=>n+x.length+(⟨sep.toArray⟩:Str).length) 0>U0))=Sk
  rw[ZN,jM _ _ 0]
  ·have e3:((xs.map λx=>(⟨x.toArray⟩:Str)).map λx=>x.length+(⟨sep.toArray⟩:Str).length)=xs.map λx=>x.length+sep.length:=by
    rw[Ud];apply U9;intro x _;show x.toArray.size+sep.toArray.size=_;simp
   rw[e3]
   have:=gW sep xs
   have:(xs.map λx=>x.length+sep.length).sum<=U0:=by show _<=2 ^ 24;lia
   simpa using this
  ·simp
 refine SC.join (l:=p) ⟨_,g,rfl,_,rfl⟩ e2 hok λt' tk=>?_
 have e4:Txt.join ⟨sep.toArray⟩ (xs.map λx=>(⟨x.toArray⟩:Str))=⟨(bQ sep xs).toArray⟩:=by
  rw[←lf];exact Y2 _ _
 rw[e4]
 exact cQ I tk (.str _ t') h7
theorem kB (c x:Nat)(l:Sj Nat):bP c (x::l)=if x=c then []::bP c l else (match bP c l with | []=>[[x]] | w::ws=>(x::w)::ws):=by
 have e:bP c (x::l)=@Ti (λ_=>Sj (Sj Nat)) (@S5 (Sj Nat) (λ_=>Sj (Sj Nat)) [[x]] (λw ws _=>(x::w)::ws) (bP c l)) ([]::bP c l) (SN x c):=rfl
 rw[e]
 by_cases q:x=c
 ·subst q;rw[Vz,SX rfl]
 ·have b:SN x c=dV:=by cases z:SN x c with | false=>rfl | true=>exact Tc (SQ z) q
  rw[b,SK q]
  cases bP c l <;> rfl
theorem ia (c:Nat):∀(w r:Sj Nat)(u:Sj Nat)(us:Sj (Sj Nat)),c∉w->bP c r=u::us->bP c (w++r)=(w++u)::us
 | [],r,u,us,_,h=>h
 | x::w,r,u,us,n,h=>by
  simp only[SD,not_or] at n
  rw[Wc,kB,SK (Ne.symm n.1),ia c w r u us n.2 h]
  rfl
theorem kM (c:Nat):∀(ws:Sj (Sj Nat)),ws≠[]->(∀w∈ws,c∉w)->bP c (bQ [c] ws)=ws
 | [],h,_=>Tc rfl h
 | [w],_,h=>by
  have e:bQ [c] [w]=w++[]:=by rw[TV];rfl
  rw[e,ia c w [] [] [] (h w (mI 0 rfl)) rfl,TV]
 | w::u::ws,_,h=>by
  have ih:=kM c (u::ws) (by simp) (λx m=>h x (Zp _ m))
  have e:bQ [c] (w::u::ws)=w++(c::bQ [c] (u::ws)):=by
   have:bQ [c] (w::u::ws)=bp w (bp [c] (bQ [c] (u::ws))):=rfl
   rw[this,bf,bf];rfl
  rw[e,ia c w _ [] (u::ws) (h w (mI 0 rfl)) (by rw[kB,SX rfl,ih]),TV]
theorem B8 (l:Sj Nat)(c:Nat):Txt.split ⟨l.toArray⟩ ⟨#[c]⟩=(bP c l).map λx=>(⟨x.toArray⟩:Str):=by
 have h1:=StrLaws.join_split ⟨l.toArray⟩ ⟨#[c]⟩
 have h2:=StrLaws.split_free ⟨l.toArray⟩ c
 have h3:=split_pos ⟨l.toArray⟩ ⟨#[c]⟩
 generalize Txt.split ⟨l.toArray⟩ ⟨#[c]⟩=T at h1 h2 h3
 have e:T=(T.map λx=>x.cps.toList).map λx=>(⟨x.toArray⟩:Str):=by
  rw[Ud]
  conv=>lhs;rw[←Sj.map_id T]
  apply U9
  intro x _
  rfl
 generalize T.map (λx=>x.cps.toList)=ws at e
 subst e
 have h4:bQ [c] ws=l:=by
  have:=h1
  rw[show(⟨#[c]⟩:Str)=⟨[c].toArray⟩ from rfl,lf] at this
  have:=SU (λx:Str=>x.cps.toList) this
  simpa using this
 rw[←h4,kM c ws (λq=>by subst q;simp at h3) (λw m=>by simpa using h2 ⟨w.toArray⟩ (UQ m))]
theorem DT {t u:Tok} (hy:(y.length == 0)=dV)
  (hq:∀l tk,l.map (·.1)=Txt.split x y->Q (.ref s.heap.objs.size) { s with heap:=s.heap.push (cB (YD l) 0),toks:=tk })
  (hsz:x.length<=U0) (hsz2:(Wm x (WA x y 0 x.length (x.length+1)) y.length).length<=U0) :
  Ss C.M A (call (.builtin "str.split") [.str x t,.str y u]) Q E s:=by
 cases h1:(decide (x.length<y.length) || decide (ZO x<ZO y))
 ·cases hf:(WA x y 0 x.length (x.length+1)).isEmpty
  ·refine Wu VJ (V4 _ _ _) WB (Wn _ _) (meets_str_split_sep x y t u h1 hy hf hsz hsz2) ?_
   show wants Q E _ { s with toks:=_,heap:=s.heap.push { cls:=.type "list",data:=.seq (strsFrom s.toks (Wm x (WA x y 0 x.length (x.length+1)) y.length)).toArray } }
   rw[strsFrom_eq]
   exact hq (numbered s.toks _) _ ((numbered_texts _ _).trans ((SK (ne_true_of_eq_false h1)).trans (SK (ne_true_of_eq_false hf))).symm)
  ·exact Wu VJ (V4 _ _ _) WB (Wn _ _) (meets_str_split_not_found x y t u h1 hy hf)
    (hq [(x,t)] s.toks ((SK (ne_true_of_eq_false h1)).trans (SX hf)).symm)
 ·exact Wu VJ (V4 _ _ _) WB (Wn _ _) (meets_str_split_cannot_occur x y t u h1)
   (hq [(x,t)] s.toks (SX h1).symm)
theorem tM:∀{l:Sj (Str×Tok)}{xs:Sj (Sj Nat)},l.map (·.1)=xs.map (λx=>(⟨x.toArray⟩:Str))->VRs σ h (xs.map V.str) (YD l)
 | [],[],_=>.nil
 | [],_::_,e=>by cases e
 | _::_,[],e=>by cases e
 | (y,t)::l,x::xs,e=>by
  simp only[Tx,Xx] at e
  obtain⟨rfl,e⟩:=e
  exact .cons (.str x t) (tM e)
theorem Bs:SM C d "str.split" uM:=by
 intro A σ st s k x u l us R I rx r h
 refine dh h λq e81 h1=>?_;clear h;subst e81
 refine dY h1 λv e81 h2=>?_;clear h1;subst e81
 refine dh h2 λcs e81 h3=>?_;clear h2;subst e81
 refine dY h3 λc e81 h4=>?_;clear h3;subst e81
 refine aM h4 λhq h5=>?_;clear h4
 have hq:=bU hq
 rw[aC] at hq
 rw[eq] at h5
 refine VR.str_e rx λt=>?_
 refine VRs.cons_e r λ_ _ ra rr=>?_
 refine VRs.nil_e rr ?_
 refine VR.str_e ra λt'=>?_
 have hlen:(⟨q.toArray⟩:Str).length=q.length:=by show q.toArray.size=_;simp
 refine DT (y:=⟨[c].toArray⟩) rfl (λl tk e=>?_) (by rw[hlen];show _<=2 ^ 24;lia) ?_
 ·have e:l.map (·.1)=(bP c q).map λx=>(⟨x.toArray⟩:Str):=by rw[e];exact B8 q c
  exact gk (n:=0) (t:=tk) I (tM e) h5
 ·unfold Wm
  simp only[S6,Sj.length_zip,Tg,SY,VM]
  have:=StrLaws.occ_length_le ⟨q.toArray⟩ ⟨[c].toArray⟩ 0 (⟨q.toArray⟩:Str).length ((⟨q.toArray⟩:Str).length+1)
  rw[hlen] at this ⊢
  show _<=2 ^ 24
  lia
end
section
variable {C:Cfg}{fx:Fx}{d:Nat}{A:Around}{env:Env}{σ σ1:List Addr}{fm:Fm}{st:St}{s aaV:Shared}
theorem mN {l:Sx}{o:Obj} {x:Sr} (ho:s.heap.get? l=Si o)(hc:o.cls=.type "list")(hd:o.data=.seq items n)(hz:items.size<=U0)
  (hQ:Q .none { s with heap:=s.heap.update l (S9 (·.push x)) }):Ss C.M A (call (.builtin "list.append") [.ref l,x]) Q E s:=by
 have hl:s.heap.IsList l items:=⟨o,ho,hc,n,hd⟩
 refine Uh UD hl.typeIs entry_list_append ?_ (args_list_append _ _)
 show Ss _ _ (ZF l (·.push x) >>= λ_=>ret .none) _ _ s
 exact kV (U6 ho hd (Sl ⟨.none,rfl,hQ⟩) hz (by simp;omega))
theorem qF:ZD "list.append"=Si ("list","append"):=by decide +kernel
theorem rZ:Vd "list.append"=Si .method:=by decide +kernel
theorem vy (J:cJ C){x:Sx} {v:Sr} (X:C.K.In s.heap)(I:Us s.heap x ox 244 od)(hd:ox.data=.seq items n)(hz:items.size<=U0)
  (hQ:Q .none { s with heap:=s.heap.update x (S9 (·.push v)) }):Ss C.M A (call (.builtin "list.append") [.ref x,v]) Q E s:=by
 have T:Looks C.M s.heap (UN (.ref x) (.type "list")) Sk:=I.type.andThen (Vr X J.subL)
 refine UM (U1 UD.plain entry_list_append (iY (.inr rZ) qF T (args_list_append _ _) ?_))
 show Ss _ _ (ZF x (·.push v) >>= λ_=>ret .none) _ _ s
 exact kV (U6 I.at_ hd (Sl hQ) hz (by simp;omega))
theorem iV (Ok:C.Ok)(J:cJ C):SM C d "list.append" km:=by
 intro A σ st s k x u l us R I rx r h
 refine bN h λn e81 h1=>?_;clear h;subst e81
 refine dY h1 λv e81 h2=>?_;clear h1;subst e81
 refine St.get_e h2 λo ho h3=>?_;clear h2
 refine VR.ref_e rx λa e=>?_
 refine VRs.cons_e r λ_ _ rv rr=>?_
 refine VRs.nil_e rr ?_
 have ma:a∈σ:=Su e
 induction o with
 | list q=>
  refine aM h3 λhl h4=>?_
  rw[aC] at hl
  rw[bf] at h4
  refine St.set_e h4 λst' e1 e2 e81 h5=>?_;refine dE e81 λe3 _=>?_
  obtain⟨vs,m,g,rq⟩:=I.list ho e
  refine mN g rfl rfl (by rw[Sy,rq.length];exact dk hl) ?_
  refine⟨σ,.none,st',Step.wrote (t:=s.toks) ma,I.putList (t:=s.toks) ho e g e1 e2 e3 ?_,.none,h5⟩
  simpa using rq.append (.cons rv .nil)
 | lsub c d fs q=>
  refine aM h3 λhl h4=>?_
  rw[aC] at hl
  rw[bf] at h4
  refine St.set_e h4 λst' e1 e2 e81 h5=>?_;clear h4;refine dE e81 λe3 _=>?_
  obtain⟨b,hb',ro⟩:=I.at_ n _ ho
  have:b=a:=Si.inj (hb'.symm.trans e)
  subst this
  obtain⟨hc,dx,es,m,vs,m',hdx,hox,hD,er,hvs⟩:=ro
  subst hc
  have IA:Us s.heap b _ 244 (Si (VQ es m)):=⟨hox,rfl,rfl,hD⟩
  refine vy J (I.X Ok) IA rfl (by rw[Sy,hvs.length];exact dk hl) ?_
  refine⟨σ,.none,st',Step.wrote (t:=s.toks) ma,I.putSub (t:=s.toks) ho e hox e1 e2 e3 ?_,.none,h5⟩
  simpa using hvs.append (.cons rv .nil)
 | cell=>exact ff h3
 | inst=>exact ff h3
 | hid=>exact ff h3
theorem gX (Ok:C.Ok)(J:cJ C) {id:String}{m:yr}{o:Expr} {name:Str} (hm:d6 o name apos es pos)(slot:Slot "list" name id)(ty:Xv (.builtin id)=pure (.type "method_descriptor"))
  (hfind:Uq C.K (.ref 244) name=Si (Si (.builtin id))) (hname:∀x<12,aW x≠name) (hf:SM C d' id m) (hd:d'<=d) (hp:aL es) (ho:SE C fx d o co) (hs:SA C fx d es cs):SE C fx d (.Call (.Attribute o name apos) es [] pos) (mZ m co cs):=by
 intro A env σ fm st s k R E I F h
 obtain⟨pl,he⟩:=hm
 refine wE (he env) ?_
 refine kV (aw (ho A env σ fm st s _ R E I F h) λσ1 x st1 u aaV aaZ aa1 aa4 aaX=>kV (TF (kV (SR ?_))))
 refine bN aaX λn e81 h2=>?_;clear aaX;subst e81
 refine St.get_e h2 λob hob h3=>?_;clear h2
 refine VR.ref_e aa4 λa e=>?_
 have fin:∀h5:cs fm st1 (λvs st=>m (.ref n) vs st k)=Sk,Ss C.M A (Xr pos (.builtin id) [.ref a] (W9 pos (T4 es env)) (backToKw pos (Zl [] env))) (Out C [] σ s k) cM aaV:=λh5=>by
  refine bK (k:=λvs st=>m (.ref n) vs st k) Ok ck hp hs R E aa1 (aaZ.fr0 F) h5 λσ' q st' us s' S' I' r' _ h'=>?_
  exact Sq (hf A σ' st' s' k (.ref n) (.ref a) q us (R.le hd) I' (.ref (S'.idx e)) r' h') (λ_ _ o=>o.trans (aaZ.trans S')) λ_ _ e=>e
 rcases kZ h3 with ⟨l,rfl,h4⟩ | ⟨c,d,fs,l,rfl,h4⟩
 ·obtain⟨vs,m',g,q⟩:=aa1.list hob e
  exact getMethod_builtin (T:="list") ⟨_,g,rfl⟩ PySem.F.plainAttrs_list slot ty (λb eb=>by cases eb;exact⟨_,g,rfl⟩) (fin h4)
 ·have hc:c=2:=by obtain⟨b,_,r⟩:=aa1.at_ n _ hob;exact r.1
  exact rL (c:=c) (p:=λfs=>O.lsub c d fs l) Ok J aa1 hob e (.inr ⟨d,l,hc,rfl,rfl⟩) (by rw[hc];exact hfind) (Yo ty) (by decide +kernel) hname (fin h4)
end
section
variable {C:Cfg}{fx:Fx}{d:Nat}{A:Around}{env:Env}{σ σ1:List Addr}{fm:Fm}{st:St}{s aaV:Shared}
theorem ue (i:Int):∀l:Sj Int,i∈l->rO i l=l.idxOf i
 | [],h=>by cases h
 | j::l,h=>by
  have e:rO i (j::l)=@Ti (λ_=>Nat) (TA (rO i l)) 0 (jf i j):=rfl
  rw[e,dt,Sj.idxOf_cons]
  by_cases q:i=j
  ·subst q;simp
  ·rw[Tt q,show(j == i)=dV from beq_eq_false_iff_ne.mpr (Ne.symm q)]
   show TA (rO i l)=_
   rw[ue i l ((SD.mp h).resolve_left q)]
   rfl
theorem B0:SM C d "list.index" vG:=by
 intro A σ st s k x u l us R I rx r h
 refine bN h λn e81 h1=>?_;clear h;subst e81
 refine dY h1 λv e81 h2=>?_;clear h1;subst e81
 refine aO h2 λi e81 h3=>?_;clear h2;subst e81
 refine bC h3 λq hq h4=>?_;clear h3
 refine kx h4 λxs e81 h5=>?_;clear h4;subst e81
 refine aM h5 λhl h6=>?_;clear h5
 refine aM h6 λhin h7=>?_;clear h6
 have hl:=bU hl
 rw[aC,S6] at hl
 rw[td] at hin
 have hmem:i∈xs:=by
  refine aE (aaq.mp hin) λj m e=>?_
  rw[←show j=i by simpa using e];exact m
 rw[ue i xs hmem] at h7
 refine VR.ref_e rx λa e=>?_
 refine VRs.cons_e r λ_ _ ra rr=>?_
 refine VRs.nil_e rr ?_
 refine VR.int_e ra λt=>?_
 obtain⟨vs,m,g,rv⟩:=I.list hq e
 have hi:=eI rv
 have hlen:=hi.length
 have hj:xs.idxOf i<xs.length:=Sj.idxOf_lt_length_iff.mpr hmem
 refine Wu YE ⟨_,g,rfl⟩ PySem.F.entry_list_index (PySem.F.args_list_index_2 _ _)
  (PySem.SeqAt.list_indexAt a vs.toArray m none #[] (.int i t) (isInt i) (xs.idxOf i) (by simpa[hlen] using hj) (by lia) ?_ ?_) ⟨g,λy hy=>(eq_isInt i t hi y (by simpa using hy)).at _ _,?_⟩
 ·show isInt i vs[xs.idxOf i]=Sk
  rw[isInt_at i hi _ (by omega) hj]
  simpa using Sj.getElem_idxOf hj
 ·intro j hjs hlt
  show isInt i vs[j]=dV
  rw[isInt_at i hi j (hjs) (by lia)]
  exact ne_of_lt_idxOf hlt _
 ·exact cQ I (s.toks+1) (.int _ s.toks) h7
theorem zk {vs:Sj α}{l:Sj β}(h:vs.length=l.length):(!vs.toArray.isEmpty)=iO l:=by
 rcases vs with _ | ⟨a,vs⟩ <;> rcases l with _ | ⟨b,l⟩ <;> first | rfl | exact Nat.noConfusion h
theorem mK {k:Sm->Sm}(I:Inv C σ st s)(e:σ[n]? = Si a)(hl:st.look n=Si (.list l))(hlen:aB (aK l)=Sk)(h2:k (iO l)=Sk):Ss C.M A (truthy (.ref a)) (λb s'=>∃t,k b=Sk/\s'={ s with toks:=t }) cM s:=by
 have hlen:=bU hlen
 rw[aC] at hlen
 obtain⟨vs,m,g,q⟩:=I.list hl e
 refine wpAny_truthy_list (items:=vs.toArray) ⟨_,g,rfl,_,rfl⟩ (by rw[Sy,q.length];lia) ?_
 exact⟨_,(SU k (zk q.length)).trans h2,rfl⟩
theorem lZ {k:Sm->Sm}(I:Inv C σ st s)(r:VR σ s.heap v u)(h:iZ v st k=Sk):Ss C.M A (truthy u) (λb s'=>∃t,k b=Sk/\s'={ s with toks:=t }) cM s:=by
 induction r using VR.cases_e with
 | none=>exact truthy_none ⟨s.toks,h,rfl⟩
 | bool b=>exact UL ⟨s.toks,h,rfl⟩
 | int i t=>
  refine PySem.P.truthy_int ⟨s.toks,?_,rfl⟩
  have h:k (ee (jf i 0))=Sk:=h
  rw[dt,←iz,fJ] at h
  exact h
 | str l t=>
  refine aM h λhl h1=>?_
  have hl:=bU hl
  rw[aC] at hl
  have e:(⟨l.toArray⟩:Str).length=l.length:=by show l.toArray.size=_;simp
  refine PySem.P.truthy_str (by rw[e];lia) ⟨s.toks+1+1,?_,rfl⟩
  rw[e]
  induction l with
  | nil=>exact h1
  | cons=>exact h1
 | tup=>exact ff h
 | @ref n a e=>
  refine bC (n:=n) h λl hl h1=>?_
  refine aM h1 λhlen h2=>?_;clear h1
  exact mK I e hl hlen h2
def TSub (C:Cfg)(d:Nat):Prop:=∀(A:Ue)(σ:Sj Sx)(st:St)(s:Sw)(k:Sm->St->Sm)(n:Nat)(a:Sx)(c' d':Nat)(fs:Sj (Nat×V))(l:Sj V),
 Rm d A->Inv C σ st s->σ[n]? = Si a->st.look n=Si (.lsub c' d' fs l)->fk [.ref n] st (λv st=>aG v λi=>k (ee (jf i 0)) st)=Sk->Ss C.M A (truthy (.ref a)) (OutB C σ s k) cM s
theorem rX (hsub:TSub C d)(R:Rm d A) {k:Sm->St->Sm}(I:Inv C σ st s)(r:VR σ s.heap v u)(h:eM v st k=Sk):Ss C.M A (truthy u) (OutB C σ s k) cM s:=by
 have fin:iZ v st (λb=>k b st)=Sk->Ss C.M A (truthy u) (OutB C σ s k) cM s:=λz=>
  Sq (lZ I r z) (λb s' ⟨t,q,e⟩=>by subst e;exact Bc I t q) λ_ _ e=>e
 cases v with
 | none=>exact fin h
 | bool=>exact fin h
 | int=>exact fin h
 | str=>exact fin h
 | tup=>exact ff h
 | ref n=>
  refine St.get_e (i:=n) h λo ho h1=>?_
  induction o with
  | list l=>
   refine aM h1 λhlen h2=>?_
   exact VR.ref_e r λa e=>Sq (mK (k:=λb=>k b st) I e ho hlen h2) (λb s' ⟨t,q,e⟩=>by subst e;exact Bc I t q) λ_ _ e=>e
  | lsub c d fs l=>
   exact VR.ref_e r λa e=>hsub A σ st s k n a c d fs l R I e ho h1
  | cell=>exact ff h1
  | inst=>exact ff h1
  | hid=>exact ff h1
theorem P5 (hsub:TSub C d){a:Expr} (he:∀env whole,Vb a env whole=(do let v ←whole;UG a.pos;holding [v] (truthy v)))(ha:SE C fx d a ca):ST C fx d a (tE ca):=by
 intro A env σ fm st s k R E I F h
 refine XW (aw (ha A env σ fm st s _ R E I F h) λσ1 x st1 u aaV aaZ aa1 aa4 aaX=>?_) (he _ _)
 exact Sq (rX hsub R aa1 aa4 aaX) (λ_ _ o=>o.trans aaZ) λ_ _ e=>e
theorem Hv (hsub:TSub C d){a:Expr} (ha:SE C fx d a ca):SE C fx d (.UnaryOp .Not a pos) (Hr ca):=by
 intro A env σ fm st s k R E I F h
 refine wpAny_UnaryOp (aw (ha A env σ fm st s _ R E I F h) λσ1 x st1 u aaV aaZ aa1 aa4 aaX=>PySem.not_value ?_)
 refine Sq (rX hsub R (k:=λb st=>k (.bool (ee b)) st) aa1 aa4 aaX) ?_ λ_ _ e=>e
 rintro b s' ⟨σ',st',S',I',h'⟩
 have h':k (.bool (ee b)) st'=Sk:=h'
 rw[fJ] at h'
 exact⟨σ',.bool (!b),st',aaZ.trans S',I',.bool _,h'⟩
theorem Gw {a b:Expr} (ha:SE C fx d a ca)(hb:SE C fx d b cb):SE C fx d (.BoolOp .And [a,b] pos) (Hb ca cb):=by
 intro A env σ fm st s k R E I F h
 refine wpAny_And2 (aw (ha A env σ fm st s _ R E I F h) λσ1 x st1 u aaV aaZ aa1 aa4 aaX=>?_)
 refine Sq (lZ aa1 aa4 aaX) ?_ λ_ _ e=>e
 rintro c s' ⟨t,q,rfl⟩
 induction c with
 | false=>exact(cQ aa1 t aa4 q).trans aaZ
 | true=>exact Sq (hb A env σ1 fm st1 _ k R E (aa1.toks t) ((aaZ.fr0 F).toks t) q) (λ_ _ o=>o.trans (aaZ.trans (Step.toks t))) λ_ _ e=>e
theorem N0 {a b:Expr} (ha:SE C fx d a ca)(hb:SE C fx d b cb):SE C fx d (.BoolOp .Or [a,b] pos) (P8 ca cb):=by
 intro A env σ fm st s k R E I F h
 refine wpAny_Or2 (aw (ha A env σ fm st s _ R E I F h) λσ1 x st1 u aaV aaZ aa1 aa4 aaX=>?_)
 refine Sq (lZ aa1 aa4 aaX) ?_ λ_ _ e=>e
 rintro c s' ⟨t,q,rfl⟩
 induction c with
 | true=>exact(cQ aa1 t aa4 q).trans aaZ
 | false=>exact Sq (hb A env σ1 fm st1 _ k R E (aa1.toks t) ((aaZ.fr0 F).toks t) q) (λ_ _ o=>o.trans (aaZ.trans (Step.toks t))) λ_ _ e=>e
end
section
variable {C:Cfg}{fx:Fx}{d:Nat}{A:Around}{env:Env}{σ σ1:List Addr}{fm:Fm}{st:St}{s aaV:Shared}
theorem DA {K:Frag}{c:Sx}{od:Obj}{name:Str}{g:Sr}(hh:ZA K c=Sk)(ha:Uq K (.ref c) name=Si (Si f))(hg:aaz K f "__get__"=Si (Si g))(ht:takesIn K f=Si dV)(hc:copiedNames.contains name=dV)
  (hl:aaL name od=Si none):findObj K c (Si od) name=Si (.bind g f):=by
 exact aE (any_some hh) λcd hcd hd=>iH hcd (iH ha (iH hg (iH ht (iH ((SX hd).trans hl) (SK (by rw[hc];exact UA))))))
theorem tm {name:Str} (X:C.K.In s.heap)(J:cJ C)(I:Us s.heap a ox 244 od)
  (hf:findObj C.K 244 od name=Si (.bind (.builtin "function.__get__") (.ref fa))) (ht:YS C.K (.ref fa)=Si (.type "function"))
  (h:Q (.ref s.heap.objs.size) { s with heap:=s.heap.push (YF (.ref fa) (.ref a)),toks:=s.toks+1 }):Ss C.M A (PySem.getAttr (.ref a) name expr) Q E s:=by
 obtain⟨hp,g,dr,t,os⟩:=s
 have L0:=I.type (M:=C.M)
 have L1:=T3 (M:=C.M) X J.gaL
 have L2:=looks_find (M:=C.M) X I hf
 have L3:=T3 (M:=C.M) X (J.gh 2 (bo rfl))
 unfold PySem.getAttr getAttrBy
 refine kV (YN (SR (kV (L0.at (kV (L1.at ?_))))))
 show Ss _ _ (VK _ _ _ _ _ _) _ _ _
 unfold VK
 refine kV (L3.at (kV (Vu ?_)))
 refine SR ?_
 unfold Yx
 rw[show(expr && onTheHeap (.builtin "list.__getattribute__"))=dV from WH expr]
 show Ss _ _ (WI _ _ _) _ _ _
 unfold WI
 refine GH (UX.bind ..) ?_
 refine kV (Sl (UM ?_))
 have T:Looks C.M hp (UN (.ref a) (.type "list")) Sk:=L0.andThen (Vr X J.subL)
 refine U1 UX.plain Y1 (@YO C.M _ _ _ "list.__getattribute__" "list" "__getattribute__" (.ref a) [.str name t] [] _ (by decide +kernel) (by decide +kernel) T (WJ _ _) ?_)
 unfold Builtin.«object.__getattribute__»
 dsimp only at L0 L2
 repeat lk
 refine wpAny_run (fn_get (s:=⟨hp,g,dr,t+1,os⟩) X ht ?_)
 exact Sl (Sl (show Ss _ _ (handedOut (.ref _)) _ _ _ from by rw[handedOut_of (v:=.ref _) rfl];exact Sl h))
def zQ (o:Expr)(name:Str)(apos:Pos)(e:Expr)(p pos:Pos):Prop:=∀env,eval (.Call (.Attribute o name apos) [.Starred e p] [] pos) env=(do
   let ov ←eval o env
   UG apos.atName
   let (f,first) ←holding [ov] (do pure (←PySem.getAttr ov name Sk,([]:Sj Sr)))
   Xr pos f first [(Sk,(do let v ←eval e env;UG pos;pure v))] [])
theorem D3 (Ok:C.Ok)(J:cJ C) {o e:Expr} {name:Str} {f:FN}(hm:zQ o name apos e p pos)(m:de C 2 name fa)(hget:aaz C.K (.ref fa) "__get__"=Si (Si (.builtin "function.__get__")))(htk:takesIn C.K (.ref fa)=Si dV)
  (hcp:copiedNames.contains name=dV) (hfn:fnIn C.K fa=Sk) (hcode:eY C d' (.ref fa) f) (hd:d'<=d) (ho:SE C fx d o co) (he:SE C fx d e ce):SE C fx d (.Call (.Attribute o name apos) [.Starred e p] [] pos) (bz 2 f co (BX ce)):=by
 intro A env σ fm st s k R E I F h
 refine wE (hm env) ?_
 refine kV (aw (ho A env σ fm st s _ R E I F h) λσ1 x st1 u aaV aaZ aa1 aa4 aaX=>kV (TF (kV (SR ?_))))
 refine bN aaX λn e81 h2=>?_;clear aaX;subst e81
 refine St.get_e h2 λob hob h3=>?_;clear h2
 refine iB (wi aa1 hob h3) λc' fs q h4 hk=>?_
 refine aM h4 λhc h5=>?_;clear h4
 have hc:=SQ hc
 subst hc
 refine VR.ref_e aa4 λa ea=>?_
 refine qc (aa1.obj hob ea hk) λox dx es mm IA hd' hD er=>?_
 have hl:aaL name (VQ es mm)=Si none:=by
  have:=nR (n:=mm) er m.name
  unfold shadowIn at this
  refine aE (VI.mp this) λr e1 e2=>?_
  rw[e1]
  induction r with
  | none=>rfl
  | some=>cases e2
 refine kV (tm (aa1.X Ok) J IA (DA (J.cd 2 (by(exact V2 2))) m.find hget htk hcp hl) m.typ (Sl ?_))
 have P:Step [] σ1 aaV σ1 { aaV with heap:=aaV.heap.push (YF (.ref fa) (.ref a)),toks:=aaV.toks+1 }:=Step.pushed
 have IP:Inv C σ1 st1 { aaV with heap:=aaV.heap.push (YF (.ref fa) (.ref a)),toks:=aaV.toks+1 }:=aa1.pushed
 have hq:(aaV.heap.push (YF (.ref fa) (.ref a))).get? aaV.heap.objs.size=Si (YF (.ref fa) (.ref a)):=Heap.get?_push_size _ rfl
 have nq:aaV.heap.objs.size∉σ1:=λm=>Tc (aa1.size m) (Tq _)
 refine ks_call (P:=MethP C.K aaV.heap.objs.size fa (.ref a)) rfl (keeps_M hfn) (ks_lone ?_)
 refine aw (he A env σ1 fm st1 _ _ R E IP (P.fr0 (aaZ.fr0 F)) h5) λσ2 y st2 v aaW aa6 aa9 aba h6=>?_
 refine lh h6 λl e81 h7=>?_;clear h6;subst e81
 refine aM h7 λhlen h8=>?_;clear h7
 rw[aC] at hlen
 have hq2:aaW.heap.get? aaV.heap.objs.size=Si (YF (.ref fa) (.ref a)):=aa6.keep _ _ nq (λh=>nomatch h) hq
 refine VR.tup_e aba λus b mb eb nb rb=>?_
 unfold StarOf notIterableAtAll
 refine kV (Vn (T:="tuple") ⟨_,eb,rfl⟩ PySem.F.slot_tuple_iter.lookup (Sl ⟨rfl,?_⟩))
 refine wpAny_collect_seq b (.inr rfl) eb rfl rfl (λh' hk'=>?_) (by rw[Sy,rb.length];exact dk hlen)
 have abe:Step [] σ2 aaW σ2 { aaW with heap:=h' }:=Step.all (t:=aaW.toks) hk'
 have abc:Inv C σ2 st2 { aaW with heap:=h' }:=aa9.grow hk'
 refine⟨⟨hk' _ _ hq2,abc.X Ok⟩,UM (method_call (hk' _ _ hq2) ?_)⟩
 refine VG (hcode A σ2 st2 { aaW with heap:=h' } k (.ref n::l) (.ref a::us) (R.le hd) abc (.cons (.ref (abe.idx (aa6.idx ea))) (abe.vrs .nil rb)) h8) ?_
 rintro r s' z
 rcases r with e | (v | _ | _ | _) <;> first | exact z.elim | exact z.trans (aaZ.trans (P.trans (aa6.trans abe)))
end
section
variable {C:Cfg}{fx:Fx}{d:Nat}{A:Around}{env:Env}{σ σ1:List Addr}{fm:Fm}{st:St}{s aaV:Shared}
theorem pG:Vd "list.__setitem__"=Si .slot:=by decide +kernel
theorem nx:ZD "list.__setitem__"=Si ("list","__setitem__"):=by decide +kernel
theorem pD (J:cJ C)(JS:eP C){x sl:Sx}{ob:Obj} {new:Array Sr}{n':Nat}{vl:Sr}{lo:SV Int} {Q:Unit->Sw->Prop}(X:C.K.In s.heap)
  (I:Us s.heap x ox 244 od) (hd:ox.data=.seq items n) (hs:s.heap.IsSliceOf sl vl .none .none) (pl:aaM vl lo) (hb:s.heap.get? b=Si ob) (hbc:ob.cls=.type "list") (hbd:ob.data=.seq new n')
  (hz:items.size<=4095) (hz':new.size<=4095)
  (h:Q () { s with heap:=s.heap.update x (S9 λxs=>xs.extract 0 (lo.elim 0 (VB items.size))++new++xs.extract (max ((lo.elim 0 (VB items.size):Nat):Int) (items.size:Int)).toNat xs.size) }) :
  Ss C.M A (ZE (.ref x) (.ref sl) (.ref b)) Q E s:=by
 refine fF (id hs) λos hos hcs hds=>?_
 have hTs:s.TypeIs (.ref sl) "slice":=⟨os,hos,hcs⟩
 have hTb:s.TypeIs (.ref b) "list":=⟨ob,hb,hbc⟩
 have ho:=I.at_
 have hsame:Builtin.List.listSameRef (.ref x) (.ref b)=dV:=by
  show(x == b)=dV
  refine beq_eq_false_iff_ne.mpr λq=>?_
  subst q
  rw[ho] at hb
  cases hb
  rw[I.cls] at hbc
  cases hbc
 unfold ZE
 refine SR (kV (pY J X I (kV ?_)))
 refine ij J X I JS.setitem Yh entry_list_setitem (.inl pG) nx (args_list_setitem _ _ _) ?_
 show Ss _ _ (Um (.ref sl) >>= _) _ _ s
 refine kV ?_
 unfold Um
 refine kV (Vn hTs slice_no_index ?_)
 dsimp only[SV.isNone_none,if_true]
 refine Sl ?_
 show Ss _ _ (Xv (.ref sl) >>= _) _ _ s
 refine kV (YQ hTs ?_)
 refine wN (by decide) ?_
 rw[listSliceParts_eq]
 have hstep:¬((rawPart none == VC 0)=Sk):=VD
 refine kV (kV (TH hos hds (x:=.none) rfl (kV (V5 .none ?_))))
 rw[SK hstep]
 refine kV (TH hos hds (x:=vl) rfl (kV (V5 pl ?_)))
 refine kV (TH hos hds (x:=.none) rfl (kV (V5 .none (Sl ?_))))
 rw[hsame]
 refine wN (by decide) ?_
 refine kV ?_
 unfold Builtin.List.listAllItems
 refine kV (YQ hTb ?_)
 rw[SX (by decide)]
 have li:∀{y:Sx} {oy:Obj} {its:Array Sr} {ny:Nat} {A':Ue} {E':Sr->Sw->Prop} {Q':Array Sr->Sw->Prop},s.heap.get? y=Si oy->oy.data=.seq its ny->Q' its s->Ss C.M A' (TX (.ref y)) Q' E' s:=λh1 h2 h3=>by
  unfold TX
  exact kV (T6 h1 h2 (Sl h3))
 refine li hb hbd ?_
 refine kV (li ho hd ?_)
 refine kV (TT (sliceIndices_raw lo none none items.size (by simp)) ?_)
 rw[sliceBounds_plain]
 dsimp only
 rw[SX (by decide)]
 refine kV (U5 ?_)
 rw[SK (by
  show ¬(decide (items.size+new.size>U0)=Sk)
  have:items.size+new.size<=U0:=by show _<=2 ^ 24;lia
  simpa using this)]
 refine kV ?_
 show Ss _ _ (ZF x _) _ _ _
 refine U6 ho hd ?_ (by show _<=2 ^ 24;lia) (by
  have sz:∀a b,(items.extract a b).size<=items.size:=λa b=>by rw[Array.size_extract];exact So (Xc _ _) (Nat.min_le_right _ _)
  rw[aae,aae]
  exact So (V7 (V7 (sz _ _) (SW _)) (sz _ _)) (So (V7 (V7 hz hz') hz) (bo rfl)))
 refine kV (Vs ?_)
 exact Sl ⟨.none,rfl,Sl h⟩
theorem xC {lo:SV Int}{ns:Sj Sr}:((vs.toArray.extract 0 (lo.elim 0 (VB vs.toArray.size))++ns.toArray++vs.toArray.extract (max ((lo.elim 0 (VB vs.toArray.size):Nat):Int) (vs.toArray.size:Int)).toNat vs.toArray.size)).toList=vs.take (lo.elim 0 (VB vs.length))++ns:=by
 have hle:lo.elim 0 (VB vs.length)<=vs.length:=by
  induction lo with
  | none=>exact Th _
  | some i=>exact pd _ _
 have e:(max ((lo.elim 0 (VB vs.toArray.size):Nat):Int) (vs.toArray.size:Int)).toNat=vs.length:=by
  rw[Sy,YA (aac.mpr hle)];rfl
 rw[e]
 simp
theorem Bw (Ok:C.Ok)(J:cJ C)(JS:eP C){a:Expr}{lo:SV Expr}{ca cl:CE}{p pos:Pos}(ha:SE C fx d a ca)(hl:L8 C fx d lo cl):SG C fx d (.Subscript a (.Slice lo none none p) pos) (Ei ca cl):=by
 intro A env σ fm st s k v u R E I F r h
 refine wE (arm_assign_Subscript ..) ?_
 refine kV (SR (aw (ha A env σ fm st s _ R E I F h) λσ1 x st1 o aaV aaZ aa1 aa4 aaX=>kV (SR (wpAny_Slice ?_))))
 refine aw (hl A env σ1 fm st1 aaV _ R E aa1 (aaZ.fr0 F) aaX) λσ2 y st2 w aaW aa6 aa9 aba aa7=>?_
 refine wE (Yn ..) ?_
 refine Sl (Sl (kV (TF (kV (SR ?_)))))
 have P:Step [] σ2 aaW σ2 { aaW with heap:=aaW.heap.push { cls:=.type "slice",data:=.fields #[w,.none,.none] } }:=Step.pushed (t:=aaW.toks)
 have IP:Inv C σ2 st2 { aaW with heap:=aaW.heap.push { cls:=.type "slice",data:=.fields #[w,.none,.none] } }:=aa9.pushed (t:=aaW.toks)
 have S:=(aaZ.trans aa6).trans P
 have FP:=P.fr0 (aa6.fr0 (aaZ.fr0 F))
 have isl:=Heap.IsSliceOf.new aaW.heap w .none .none
 have rx:=P.vr .nil (aa6.vr .nil aa4)
 have rv:=S.vr .nil r
 refine Classical.byContradiction λhn=>?_
 clear pos ha hl R E I F r h aaZ aa1 aa4 aaX aa6 aa9 P
 refine aE (jF aa7) λn e81 h3=>?_;subst e81
 refine aE (St.get_t h3) λob hob h4=>?_
 clear a ca cl σ1 st1 aaV aa7 h3
 refine mz (wa h4) λc d' fs l e84 h5=>?_;subst e84
 clear h4
 refine aE (jF h5) λm e81 h6=>?_;subst e81
 refine aE (rT h6) λq hq h7=>?_
 refine dE (eH h7) λz1 h8=>?_
 refine dE (eH h8) λz2 h9=>?_
 have z1:=bU z1
 have z2:=bU z2
 rw[aC] at z1 z2
 clear h5 h6 h7 h8
 cases rx with
 | @ref _ b eb=>
  cases rv with
  | @ref _ b' eb'=>
   obtain⟨ns,mm,g,rq⟩:=IP.list hq eb'
   obtain⟨b2,hb2,ro⟩:=IP.at_ n _ hob
   have:b2=b:=Si.inj (hb2.symm.trans eb)
   clear hq hb2
   subst this
   obtain⟨hc,dx,es,m2,vs,m',hdx,hox,hD,er,hvs⟩:=ro
   clear hdx er
   subst hc
   have IA:Us ({ aaW with heap:=aaW.heap.push { cls:=.type "slice",data:=.fields #[w,.none,.none] } }:Sw).heap b2 _ 244 (Si (VQ es m2)):=⟨hox,rfl,rfl,hD⟩
   have mb:b2∈σ2:=Su eb
   have go:∀(lo':SV Int),aaM w lo'->(st2.set n (.lsub 2 d' fs (l.take (lo'.elim 0 (VB l.length))++q)) λst=>k fm st)=Sk ->
     Ss C.M A (ZE (.ref b2) (.ref aaW.heap.objs.size) (.ref b')) (λ_ s'=>Ss C.M A (release [T9 aaW.heap.objs.size,.ref b',.ref b2] []) (OutG C fx env σ s k) cM s') cM { aaW with heap:=aaW.heap.push { cls:=.type "slice",data:=.fields #[w,.none,.none] } }:=λlo' pl hk=>by
    refine fC (St.set_t hk) λst' e1 e2 h83 h10=>?_;obtain⟨e3,_⟩:=h83
    refine pD J JS (IP.X Ok) IA rfl isl pl g rfl rfl (by rw[Sy,hvs.length];exact z1) (by rw[Sy,rq.length];exact z2) ?_
    refine ZU ⟨σ2,fm,st',(S.trans (Step.wrote (t:=aaW.toks) mb)).up,IP.putSub (t:=aaW.toks) hob eb hox e1 e2 e3 ?_,(Step.wrote (t:=aaW.toks) mb).fr0 FP,h10⟩
    rw[xC,hvs.length]
    exact(hvs.take _).append rq
   clear Ok J JS IP S FP isl hob z1 z2 g rq hox hD hvs IA mb
   induction aba using VR.cases_e with
   | none=>exact hn<|go none .none (by rw[show l.take (SV.elim none 0 (VB l.length))++q=q by simp];exact h9)
   | int i t=>
    refine hn (go (Si i) (.int i t) ?_)
    have h9:(st2.set n (.lsub 2 d' fs (bp (fg l (eW i (aK l))) q)) λst=>k fm st)=Sk:=h9
    rw[bf,gq,pO,aC] at h9
    exact h9
   | bool=>cases h9
   | str=>cases h9
   | ref=>cases h9
   | tup=>cases h9
end
section
variable {C:Cfg}{fx:Fx}{d:Nat}{A:Around}{env:Env}{σ σ1:List Addr}{fm:Fm}{st:St}{s aaV:Shared}
theorem xF (Ok:C.Ok)(J:cJ C)(JS:eP C){x y:V}{v:Sr} (I:Inv C σ st s)(rx:VR σ s.heap x u)(ry:VR σ s.heap y v)(h:cZ x y st k=Sk):fZ C A (XM u v) σ s k:=by
 refine aO h λi e81 h1=>?_;clear h;subst e81
 refine aM h1 λhsm h2=>?_;clear h1
 have hb:=dg hsm
 refine VR.int_e ry λ_=>?_
 induction rx using VR.cases_e with
 | none=>exact ff h2
 | bool=>exact ff h2
 | int=>exact ff h2
 | str l t=>
  refine kD (l:=l) h2 λj c hj hlt hij h3=>?_
  refine ZM (c:=c) ?_ ?_ (cQ I _ (.str [c] _) h3)
  ·simp only[Xp,decide_eq_false_iff_not];lia
  ·show(Wb i l.toArray.size).bind (λn=>l.toArray[n]?)=Si c
   rw[Sy,dO hlt hij]
   simpa using hj
 | @tup l us a m e n q=>
  refine kD h2 λj c hj hlt hij h3=>?_
  refine aE (q.get hj) λw hw rw_=>?_
  exact getItem_tuple (t:=a) (items:=us.toArray) ⟨_,e,rfl,_,rfl⟩ (by lia) (by lia) (by rw[Sy,q.length];exact dO hlt hij) (by simpa using hw) (cQ I s.toks rw_ h3)
 | @ref n a e=>
  refine St.get_e h2 λo ho h3=>?_;clear h2
  rcases kZ h3 with ⟨l,rfl,h4⟩ | ⟨c,d,fs,l,rfl,h4⟩
  ·refine kD h4 λj c hj hlt hij h5=>?_
   obtain⟨vs,m,g,q⟩:=I.list ho e
   refine aE (q.get hj) λw hw rw_=>?_
   have hl:s.heap.IsList a vs.toArray:=⟨_,g,rfl,_,rfl⟩
   have fin:=cQ I s.toks rw_ h5
   rcases hij with ⟨h0,h6⟩ | ⟨h0,h6⟩
   ·exact wpAny_getItem_list hl h0 (by lia) (by rw[h6];simpa using hw) fin
   ·have:(i+(vs.toArray.size:Int)).toNat=j:=by rw[Sy,q.length,h6];rfl
    exact YP hl h0 (by rw[Sy,q.length];lia) (by lia) (by rw[this];simpa using hw) fin
  ·refine kD h4 λj y hj hlt hij h5=>?_;clear h4
   obtain⟨b,hb',r⟩:=I.at_ n _ ho
   have:b=a:=Si.inj (hb'.symm.trans e)
   subst this
   obtain⟨hc,dx,es,m,vs,m',hdx,hox,hD,er,hvs⟩:=r
   subst hc
   refine aE (hvs.get hj) λw hw rw_=>?_
   have IA:Us s.heap b _ 244 (Si (VQ es m)):=⟨hox,rfl,rfl,hD⟩
   exact kK J JS (I.X Ok) IA rfl (vc hsm) (by rw[Sy,hvs.length];exact dO hlt hij) (by simpa using hw) (cQ I s.toks rw_ h5)
theorem pf (Ok:C.Ok)(J:cJ C)(JS:eP C){a i e:Expr}{ci:CE} (hi':∀ov iv new,augStore i ov iv new=(do holding [new,ov,iv] (ZE ov iv new);release [new,ov,iv] [];pure .next))
  (ha:SE C fx d a ca) (hi:SE C fx d i ci) (he:SE C fx d e ce):SS C fx d (.AugAssign (.Subscript a i p) .Add e pos) (jh ca ci ce):=by
 intro A env σ fm st s k R E I F h
 refine wpAny_AugAssign_SubscriptAny (aw (ha A env σ fm st s _ R E I F h) λσ1 x st1 ov aaV aaZ aa1 aa4 aaX=>?_) hi'
 refine aw (hi A env σ1 fm st1 aaV _ R E aa1 (aaZ.fr0 F) aaX) λσ2 j st2 iv aaW aa6 aa9 aba aa7=>?_
 refine aw (xF Ok J JS aa9 (aa6.vr .nil aa4) aba aa7) λabk o abo old aa5 abe abc abj aa3=>?_
 have abr:=abe.fr0 (aa6.fr0 (aaZ.fr0 F))
 refine aw (he A env abk fm abo aa5 _ R E abc abr aa3) λσ4 y st4 v abb abp abs abK abd=>?_
 refine aO abd λm e81 h5=>?_;clear abd;subst e81
 refine aO h5 λq e81 h6=>?_;clear h5;subst e81
 have r3':=abp.vr .nil abj
 refine VR.int_e r3' λ_=>?_
 refine VR.int_e abK λ_=>?_
 rw[eU] at h6
 refine aav ?_
 refine Sq (wM (s:={ abb with toks:=_ }) (abs.toks _) (abp.vr .nil (abe.vr .nil (aa6.vr .nil aa4))) (abp.vr .nil (abe.vr .nil aba)) (.int (m+q) _) h6) ?_ λ_ _ e=>e
 rintro _ s' ⟨st',S',I',h'⟩
 have S:Step [] σ s σ4 s':=(((aaZ.trans aa6).trans abe).trans abp).trans ((Step.toks _).trans S')
 exact⟨σ4,.nxt,fm,st',S.up,I',S.fr0 F,trivial,h'⟩
theorem vg (Ok:C.Ok){cl:Sx}{name:Str}{xp:Pos}{mc:Sr}{l:Sj Nat} (hok:fx.ok=Sk)(hx:x∈fx.gn)(g:GB C x (.ref cl))(hr:readsIn C.K cl mc=Sk)(e:aaf C.K (.ref cl) mc name=Si (.val (.str ⟨l.toArray⟩ tk)))
  (he:∀env,eval (.Attribute (.Name x xp) name pos) env=(do
   let o ←eval (.Name x xp) env
   UG pos.atName
   let r ←holding [o] (PySem.getAttr o name Sk)
   V3 (.Name x xp) o r
   pure r)):SE C fx d (.Attribute (.Name x xp) name pos) (ao (.str l)):=by
 intro A env σ fm st s k R E I F h
 refine Zi (bT Ok hok hx g E I ?_) (he env)
 exact cls_value (I.X Ok) hr e rfl (cQ I _ (.str l tk) h)
theorem u8:∀(l:Sj Nat),((Up (l.length / 2)).map λk=>1+2*k).filterMap (l[·]?)=kW l dV
 | []=>rfl
 | [x]=>by
  have e:([x]:Sj Nat).length / 2=0:=by simp
  rw[e]
  rfl
 | x::y::r=>by
  have ih:=u8 r
  have e:(x::y::r).length / 2=r.length / 2+1:=by simp only[Tg];lia
  rw[e,WV,Tx,Ud,Sj.filterMap_cons]
  have e1:(x::y::r)[1+2*0]? = Si y:=rfl
  skip
  have e2:((Up (r.length / 2)).map ((λk=>1+2*k) ∘ TA)).filterMap ((x::y::r)[·]?)=((Up (r.length / 2)).map λk=>1+2*k).filterMap (r[·]?):=by
   rw[Z2,Z2]
   have:((λi:Nat=>(x::y::r)[i]?) ∘ ((λk=>1+2*k) ∘ TA))=((λi:Nat=>r[i]?) ∘ λk=>1+2*k):=by
    funext k
    show(x::y::r)[1+2*(k+1)]? = r[1+2*k]?
    rw[show 1+2*(k+1)=(1+2*k)+1+1 by lia,WC,WC]
   exact SU (λf=>Sj.filterMap f (Up (r.length / 2))) this
  rw[e2,ih]
  rfl
theorem xG (l:Sj Nat):(Yg ⟨l.toArray⟩ (Si (1,aaY)) none (Si (2,aa2))).filterMap ((⟨l.toArray⟩:Str).cps[·]?)=kW l dV:=by
 rw[←u8]
 have e:Yg ⟨l.toArray⟩ (Si (1,aaY)) none (Si (2,aa2))=(Up (l.length / 2)).map λk=>1+2*k:=by
  have hl:(⟨l.toArray⟩:Str).length=l.length:=by show l.toArray.size=_;simp
  unfold Yg UH
  simp only[hl,Uz,SV.map_none,SV.getD_some,show((2:Int)>0) by decide,if_true,show ¬((1:Int)<0) by decide,if_false]
  unfold sliceRange
  simp only[show((2:Int)>0) by decide,if_true]
  by_cases h:l.length=0
  ·rw[h];rfl
  ·have a:max (0:Int) (min 1 (l.length:Int))=1:=by lia
   rw[a]
   have c:(if (1:Int)<(l.length:Int) then ((l.length:Int) - 1+2 - 1) / 2 else 0).toNat=l.length / 2:=by
    split <;> lia
   rw[c]
   apply U9
   intro k _
   lia
 rw[e]
 congr 1
 funext x
 simp
theorem Hy {a:Expr} {n1 n2:Nat}{p1 p2:Pos}(ha:SE C fx d a ca):SE C fx d (.Subscript a (.Slice (Si (.Constant (.int 1) n1 p1)) none (Si (.Constant (.int 2) n2 p2)) p) pos) (Eb ca):=by
 intro A env σ fm st s k R E I F h
 refine Subscript_ (aw (ha A env σ fm st s _ R E I F h) λσ1 x st1 u aaV aaZ aa1 aa4 aaX=>wpAny_Slice ?_)
 refine dh aaX λl e81 h2=>?_;clear aaX;subst e81
 refine aM h2 λhlen h3=>?_;clear h2
 rw[aC] at hlen
 refine VR.str_e aa4 λt=>?_
 refine wE (ZT ..) ?_
 refine Wt ?_
 refine wE (Yn ..) ?_
 refine Sl ?_
 refine wE (ZT ..) ?_
 refine Wt ?_
 skip
 refine Zj (V4 _ _ t) Wj.lookup (YB (l:=Si (1,aaV.toks)) (u:=none) (st:=Si (2,aaV.toks+1)) ⟨_,Heap.get?_push_size _ rfl,rfl,rfl⟩ rfl ?_) rfl
 unfold sliceMade
 skip
 rw[xG]
 have hle:(kW l dV).length<=l.length:=by
  rw[←u8]
  refine So (Sj.length_filterMap_le _ _) ?_
  simp only[S6,WL]
  lia
 refine⟨by show(kW l dV).toArray.size<=_;rw[Sy];have:=dk hlen;lia,?_⟩
 exact(cQ (s:={ aaV with heap:=aaV.heap.push _,toks:=aaV.toks+1+1 }) aa1.pushed _ (.str _ _) h3).trans (aaZ.trans Step.pushed)
theorem DP {abO abD:Expr} {p1 p2 vp:Pos}(hi:fx.ln[i]? = Si x)(hj:fx.ln[j]? = Si y)(hij:i≠j)(hok:fx.ok=Sk)(hs:SE C fx d (.Tuple [abO,abD] m vp) (cN cs))
  (hsw:∀env,Xl [.Tuple [.Name x p1,.Name y p2] n tp] (.Tuple [abO,abD] m vp) pos.line env=pure dV)
  (hw:∀env,ba fx env->VP [.Tuple [.Name x p1,.Name y p2] n tp] (.Tuple [abO,abD] m vp) env=pure (Si [x,y])) :
  SS C fx d (.Assign [.Tuple [.Name x p1,.Name y p2] n tp] (.Tuple [abO,abD] m vp) pos) (zq cs (bg (ay dV i) (bg (ay dV j) eS))):=by
 intro A env σ fm st s k R E I F h
 refine Assign_Tuple_swapped (names:=[x,y]) ?_ (hsw env) (hw env E)
 refine aw (hs A env σ fm st s (λv st=>m0 v λvs=>bg (ay dV i) (bg (ay dV j) eS) fm vs st λfm st=>k .nxt fm st) R E I F h) λσ1 t st1 u aaV aaZ aa1 aa4 aaX=>?_
 refine lh aaX λl e81 h2=>?_;clear aaX;subst e81
 refine mQ h2 λv q e81 h3=>?_;clear h2;subst e81
 refine pZ h3 λhi1 h4=>?_;clear h3
 refine mQ h4 λw q' e81 h5=>?_;clear h4;subst e81
 refine pZ h5 λhj1 h6=>?_;clear h5
 refine tB h6 λe81 h7=>?_;clear h6;subst e81
 refine VR.tup_e aa4 λus a mm ea na ra=>?_
 revert ea
 refine VRs.cons_e ra λx1 _ rv rr=>VRs.cons_e rr λx2 _ rw_ rr=>VRs.nil_e rr λea=>?_
 clear ra
 refine unpackItems_tuple (items:=#[x1,x2]) R.handled ⟨_,ea,rfl,_,rfl⟩ λh' he=>?_
 have K:=Heap.ExtBut.all he
 have aa6:Step [] σ1 aaV σ1 { aaV with heap:=h' }:=Step.all (t:=aaV.toks) K
 have aa9:Inv C σ1 st1 { aaV with heap:=h' }:=aa1.grow K
 have abz:FrR C fx env fm σ1 { aaV with heap:=h' }:=aa6.fr0 (aaZ.fr0 F)
 show Ss _ _ (ZV [λv=>bindName env y v,λv=>bindName env x v] [x2,x1]) _ _ _
 refine VE (bindName_ ?_)
 have e1:fQ dV j fm w st1 (λfm' st'=>fQ dV i fm' v st' λfm st=>k .nxt fm st)=Sk:=by
  have a1:∀{α:Type} (l:Sj α) (i:Nat) (v:α) (k:Sj α->Sm),i<l.length->k (l.set i v)=Sk->nF l i v k=Sk:=by
   intro α l
   induction l with
   | nil=>intro i v k h _;exact Tc h (U7 _)
   | cons x r ih=>
    intro i v k h hk
    induction i with
    | zero=>exact hk
    | succ i=>exact ih i v (λq=>k (x::q)) (Nat.lt_of_succ_lt_succ h) hk
  refine a1 _ _ _ _ (by simpa using hj1) ?_
  refine a1 _ _ _ _ (by simpa using hi1) ?_
  have e:=h7
  dsimp only at e ⊢
  rw[Sj.set_comm _ _ hij] at e
  exact e
 refine Sq (fA (c:=dV) hj (λh=>nomatch h) hok E aa9 abz (aa6.vr .nil rw_) e1) ?_ λ_ _ e=>e
 rintro _ aa5 ⟨abk,abx,abo,abe,abc,abr,h8⟩
 refine VE (bindName_ ?_)
 refine Sq (fA (c:=dV) (k:=λfm st=>k .nxt fm st) hi (λh=>nomatch h) hok E abc abr (abe.vr (Heap.Ns.noTup' abz) (aa6.vr .nil rv)) h8) ?_ λ_ _ e=>e
 exact λ_ abb o=>Yi ((OutG.toS o).trans ((aaZ.trans aa6).up.trans abe))
end
section
variable {C:Cfg}{fx:Fx}{d:Nat}{A:Around}{env:Env}{σ σ1:List Addr}{fm:Fm}{st:St}{s aaV:Shared}
theorem yo (I:Inv C σ st s) (hc:c<2){k:Nat->St->Sm}(h:st.push .hid (λd st=>st.push (fP c d) k)=Sk) :
  ∃st',k (st.n+1) st'=Sk/\Step [] σ s (σ++[s.heap.objs.size,s.heap.objs.size+1]) { s with heap:=(s.heap.push Uj).push (YT (dJ c) s.heap.objs.size) } /\
   Inv C (σ++[s.heap.objs.size,s.heap.objs.size+1]) st' { s with heap:=(s.heap.push Uj).push (YT (dJ c) s.heap.objs.size) }/\(σ++[s.heap.objs.size,s.heap.objs.size+1])[st.n+1]? = Si (s.heap.objs.size+1):=by
 refine St.push_e h λst1 e1 e2 h1=>?_
 refine St.push_e h1 λst2 e3 e4 h2=>?_;clear h1
 rw[e1] at e3 e4 h2
 have n1:s.heap.get? s.heap.objs.size=none:=bE (SW _)
 have n2:s.heap.get? (s.heap.objs.size+1)=none:=bE (T2 _)
 have keep:∀b x,s.heap.get? b=Si x->((s.heap.push Uj).push (YT (dJ c) s.heap.objs.size)).get? b=Si x:=λb x e=>bu _ _ (bu _ _ e)
 have g1:((s.heap.push Uj).push (YT (dJ c) s.heap.objs.size)).get? s.heap.objs.size=Si Uj:=bu _ _ (Heap.get?_push_size _ rfl)
 have g2:((s.heap.push Uj).push (YT (dJ c) s.heap.objs.size)).get? (s.heap.objs.size+1)=Si (YT (dJ c) s.heap.objs.size):=by
  have:=Heap.get?_push_size (s.heap.push Uj) (o:=YT (dJ c) s.heap.objs.size) rfl
  rw[Heap.size_push] at this;exact this
 have i1:(σ++[s.heap.objs.size,s.heap.objs.size+1])[st.n]? = Si s.heap.objs.size:=by rw[I.n];simp
 have i2:(σ++[s.heap.objs.size,s.heap.objs.size+1])[st.n+1]? = Si (s.heap.objs.size+1):=by rw[I.n,T5 (by(exact Td σ.length 1))];simp
 have hnew:fP c st.n=.inst c st.n []:=by
  unfold fP
  rw[show SN c 2=dV from by cases q:SN c 2 with | false=>rfl | true=>exact Tc (SQ q) (by(exact SP hc))]
 refine⟨st2,h2,⟨⟨_,rfl,λa m=>?_⟩,λb x _ _ e=>keep b x e,rfl,λh=>h⟩,?_,i2⟩
 ·rcases SD.mp m with m | m
  ·rw[m];exact⟨λq=>Tc (I.size q) (Tq _),.inl n1⟩
  ·rw[Sn.mp m];exact⟨λq=>Tc (I.size q) (Uo.mpr (T2 _)),.inl n2⟩
 ·refine I.make (s':={ s with heap:=(s.heap.push Uj).push (YT (dJ c) s.heap.objs.size) }) (o:=fP c st.n) (by(exact Eq.symm (Nat.add_right_cancel (congrFun (SU HAdd.hAdd (_root_.id (Eq.symm e3))) c)))) (λj=>?_) (by rw[hnew];rfl) keep n2 (by rw[g2];rfl) (bD I (T2 _)) n1 (by rw[g1];rfl) (bD I (SW _)) (SP (S1 _)) ?_
  ·rw[e4]
   by_cases q:j=st.n+1
   ·rw[SX q,SX q]
   ·rw[SK q,SK q,e2]
  ·rw[hnew]
   exact⟨hc,s.heap.objs.size,[],0,i1,g2,g1,.nil⟩
structure sB (C:Cfg)(c:Nat)(fa:Sx):Prop where
 makes:makesIn C.K (dJ c)=Sk
 init:Uq C.K (.ref (dJ c)) "__init__"=Si (Si (.ref fa))
 fn:YS C.K (.ref fa)=Si (.type "function")
 keep:aax C.K (.ref (dJ c))=Sk
theorem Rm.under {cl:Sx}{us:Sj Sr}(x:Rm (d+1) A):Rm d (A.under (.builtin "type.__call__" ⟨.ref cl::us,[]⟩)):=by
 have w:Code.weight (.builtin "type.__call__" ⟨.ref cl::us,[]⟩)=1:=by kernel_rfl
 have u:Code.cUnits (.builtin "type.__call__" ⟨.ref cl::us,[]⟩)<=40:=by
  have:Code.cUnits (.builtin "type.__call__" ⟨.ref cl::us,[]⟩)=1:=by kernel_rfl
  (exact Sp rfl)
 exact x.of (Ub (by show A.depth+Code.weight _+d=_;rw[w,Ws];rfl)) (u6 u) x.handled
theorem Gu (Ok:C.Ok) {f:FN}(hc:c<2)(hok:fx.ok=Sk)(hx:x∈fx.gn)(g:GB C x (.ref (dJ c)))(N:sB C c fa)(hf:eY C d' (.ref fa) f)(hd:d'+1<=d)(hp:aL es)(hs:SA C fx d es cs) :
  SE C fx d (.Call (.Name x p) es [] pos) (iD c f cs):=by
 intro A env σ fm st s k R E I F h
 refine TB (bT Ok hok hx g E I ?_)
 refine bK (k:=λvs st=>st.push .hid λd st=>st.push (fP c d) λn st=>f (.ref n::vs) st λv st=>rH v .none st λb=>aD b (k (.ref n) st) dV) Ok (jo N.keep) hp hs R E I F h λσ' l st' us s' S I' r _ h'=>?_
 refine fC (yo I' hc h') λst'' h2 S2 I2 i2=>?_
 obtain⟨hh,gg,dr,tk,os⟩:=s'
 have X:=I'.X Ok
 refine UM (make_core (makes_of X N.makes) (T3 X N.init) (λself=>bind_fn X self N.fn) (.inl rfl) ?_)
 have z:=hf (A.under (.builtin "type.__call__" ⟨.ref (dJ c)::us,[]⟩)) _ st'' _ _ (.ref (st'.n+1)::l) (.ref (hh.objs.size+1)::us) (Rm.under (R.le (by(exact Nat.succ_le_of_lt hd)))) I2 (.cons (.ref i2) (S2.vrs .nil r)) h2
 refine VG z ?_
 rintro q s'' z
 rcases q with e | (v | _ | _ | _) <;> first | exact z.elim | skip
 obtain⟨σ3,y,st3,S3,I3,r3,h3⟩:=z
 have hy:y=.none/\k (.ref (st'.n+1)) st3=Sk:=by
  cases y with
  | none=>
   have h3:aD Sk (k (.ref (st'.n+1)) st3) dV=Sk:=h3
   exact⟨rfl,(eH h3).2⟩
  | bool=>exact ff h3
  | int=>exact ff h3
  | str=>exact ff h3
  | ref=>exact ff h3
  | tup=>exact ff h3
 obtain⟨rfl,h4⟩:=hy
 refine VR.none_e r3 ?_
 exact⟨rfl,⟨σ3,_,st3,(S.trans S2).trans S3,I3,.ref (S3.idx i2),h4⟩⟩
end
section
variable {C:Cfg}{fx:Fx}{d:Nat}{A:Around}{env:Env}{σ σ1 σ2:List Addr}{fm abn:Fm}{st:St}{s aaV aaW:Shared}
theorem iM {R:Result->Sw->Prop} {dp:Nat} {it:Sr} {B:Sem Unit}
  (hT:aag (.ListComp elt gens scope pos) dp it acc env=(do
   UG p
   match ←UO it with
   | none=>pure (.done .next)
   | some v=>
    TC target it v
    assign target env v
    let mut ok:=Sk
    for c in ifs do
     if ok then ok ←Vb c env (eval c env)
    if ok then B
    again (.compLoop (.ListComp elt gens scope pos) dp it acc env))) (I:Nat->Sw->Prop)
  (turn:∀n s,I n s->Ss C.M A (UO it) (λr aaV=>match r with
   | none=>R (.ok .next) aaV
   | some v=>Ss C.M A (TC target it v) (λ_ s1'=>Ss C.M A (assign target env v) (λ_ aaW=>
     Ss C.M A (Zm ifs Sk λc r=>if r=Sk then do let ok ←Vb c env (eval c env);pure (U8 ok) else pure (U8 r)) (λok aa5=>
      if ok=Sk then Ss C.M A B (λ_ abq=>∃m,m<n/\I m abq) cM aa5
      else ∃m,m<n/\I m aa5) cM aaW) cM s1') cM aaV) cM s)
  (n:Nat) (h:I n s):U4 C.M A (.compLoop (.ListComp elt gens scope pos) dp it acc env) R s:=by
 refine codeAny_loop rfl I (λn s hI=>?_) n h
 show Ss _ A ((aag (.ListComp elt gens scope pos) dp it acc env).onRaise (λx=>do YG x env;Wr x)) _ _ s
 refine wpAny_noted ?_
 refine wE (hT) ?_
 refine kV (TF (kV (CQ (Sq (turn n s hI) (λr aaV aaX=>?_) λ_ _ h'=>h'))))
 induction r with
 | none=>exact Sl aaX
 | some v=>
  refine kV (CQ (Sq aaX (λ_ s1' h1'=>?_) λ_ _ h'=>h'))
  refine kV (CQ (Sq h1' (λ_ aaW aa7=>?_) λ_ _ h'=>h'))
  refine kV (CQ (Sq aa7 (λok aa5 aa3=>?_) λ_ _ h'=>h'))
  induction ok with
  | false=>exact kV (Sl (Sl ⟨rfl,aa3⟩))
  | true=>exact kV (CQ (Sq aa3 (λ_ abq abf=>Sl ⟨rfl,abf⟩) λ_ _ h'=>h'))
theorem qy {R:Result->Sw->Prop}{iter:Expr} {it:Sr} (I:Nat->Sw->Prop)
  (turn:∀n s,I n s->Ss C.M A (UO it) (λr aaV=>match r with
   | none=>R (.ok .next) aaV
   | some v=>Ss C.M A (TC target it v) (λ_ s1'=>Ss C.M A (assign target env v) (λ_ aaW=>
     Ss C.M A (Zm ifs Sk λc r=>if r=Sk then do let ok ←Vb c env (eval c env);pure (U8 ok) else pure (U8 r)) (λok aa5=>
      if ok=Sk then Ss C.M A (do let _ ←call (.builtin "list.append") [acc,←eval elt env]) (λ_ abq=>∃m,m<n/\I m abq) cM aa5
      else ∃m,m<n/\I m aa5) cM aaW) cM s1') cM aaV) cM s)
  (n:Nat) (h:I n s):U4 C.M A (.compLoop (.ListComp elt [⟨target,iter,ifs,0⟩] scope pos) 0 it acc env) R s:=iM (ZX ..) I turn n h
def xj (C:Cfg)(fx:Fx)(d:Nat)(ifs:Sj Expr)(c:CT):Prop:=
 ∀(A:Ue) (env:Env) (σ:Sj Sx) (fm:Fm) (st:St) (s:Sw) (k:Sm->St->Sm),Rm d A->ba fx env->Inv C σ st s->FrR C fx env fm σ s->c fm st k=Sk ->
  Ss C.M A (Zm ifs Sk λc r=>if r=Sk then do let ok ←Vb c env (eval c env);pure (U8 ok) else pure (U8 r)) (OutB C σ s k) cM s
theorem df:xj C fx d [] cA:=λA env σ fm st s k R E I F h=>wpAny_tests_nil ⟨σ,st,.refl,I,h⟩
theorem gG {c:Expr} (h:ST C fx d c ct):xj C fx d [c] ct:=λA env σ fm st s k R E I F q=>wpAny_tests_one (h A env σ fm st s k R E I F q)
theorem jO {us:Sj Sr} (e:h.get? D=Si (cB us m)):Step.NoTup [D] h:=λp hp vs n=>by rw[Sn.mp hp];exact cE e rfl (by decide) _ _
structure AccAt (σ:Sj Sx)(h:Heap)(D:Sx)(l:Sj V)(us:Sj Sr):Prop where
 out:D∉σ
 at_:∃m,h.get? D=Si (cB us m)
 val:VRs σ h l us
theorem AccAt.step {W:Sj Sx} {us:Sj Sr}(a:AccAt σ s.heap D l us)(x:Step W σ s σ1 aaV)(nt:Step.NoTup W s.heap)(n:D∉W):AccAt σ1 aaV.heap D l us:=by
 obtain⟨o,⟨m,g⟩,v⟩:=a
 exact⟨x.notin o n g,⟨m,x.keep _ _ o n g⟩,x.vrs nt v⟩
theorem AccAt.noTup {us:Sj Sr}(a:AccAt σ h D l us):Step.NoTup [D] h:=by
 obtain⟨o,⟨m,g⟩,v⟩:=a
 exact jO g
theorem AccAt.app {us:Sj Sr}(a:AccAt σ s.heap D l us)(hD0:C.aa8.get? D=none)(I:Inv C σ st s){y:V} (r:VR σ s.heap y u)(hlen:us.length<=60000) 
  (h:∀s',Step [D] σ s σ s'->Inv C σ st s'->AccAt σ s'.heap D (l++[y]) (us++[u])->Q .none s'):Ss C.M A (call (.builtin "list.append") [.ref D,u]) Q E s:=by
 obtain⟨o,⟨m,g⟩,v⟩:=a
 refine mN g rfl rfl (by rw[Sy];exact So hlen (bo rfl)) ?_
 obtain⟨m',hm⟩:=ft (·.push u) us m
 have kp:∀p x,p∉[D]->s.heap.get? p=Si x->(s.heap.update D (S9 (·.push u))).get? p=Si x:=λp x n e=>(Heap.get?_update_other _ _ (λq=>n (Sn.mpr q.symm))).trans e
 have S:Step [D] σ s σ { s with heap:=s.heap.update D (S9 (·.push u)) }:=⟨⟨[],(TV _).symm,λ_ h=>nomatch h⟩,λp x _ w e=>kp p x w e,rfl,λh=>h⟩
 refine h _ S (I.other (W:=[D]) kp (λp hp=>Sn.mp hp▸⟨o,hD0⟩) (jO g)) ⟨o,⟨m',?_⟩,S.vrs (jO g) (v.append (.cons r .nil))⟩
 rw[Heap.get?_update_self _ g (by rw[hm];rfl),hm,aah]
inductive Er (C:Cfg)(fx:Fx)(env:Env)(W:Sj Sx)(D:Sx)(cap:Nat)(σ:Sj Sx)(s:Sw)(K:Sj V->Fm->St->Sm)(l:Sj V)(us:Sj Sr)(s':Sw):Prop
 | mk (σ':Sj Sx) (fm':Fm) (st':St) (ws:Sj V) (xs:Sj Sr) (S:Step W σ s σ' s') (I:Inv C σ' st' s') (F:FrR C fx env fm' σ' s') (a:AccAt σ' s'.heap D (l++ws) (us++xs)) (c:xs.length<=cap) (h:K ws fm' st'=Sk)
def Mt (C:Cfg)(fx:Fx)(d cap T:Nat)(D:Sx)(B:Env->Sem Unit)(cb:CB):Prop:=
 ∀(A:Ue) (env:Env) (σ:Sj Sx) (fm:Fm) (st:St) (s:Sw) (K:Sj V->Fm->St->Sm) (l:Sj V) (us:Sj Sr),Rm d A->ba fx env->Inv C σ st s->FrR C fx env fm σ s->AccAt σ s.heap D l us->C.aa8.get? D=none->env.locals≠D->us.length<=T->cb fm st K=Sk ->
  Ss C.M A (B env) (λ_ s'=>Er C fx env [D,env.locals] D cap σ s K l us s') cM s
theorem lH (he:SE C fx d elt ce):Mt C fx d 1 60000 D (λenv=>do let _ ←call (.builtin "list.append") [.ref D,←eval elt env]) (gt ce):=by
 intro A env σ fm st s K l us R E I F a hD0 hDL hlen h
 refine kV (aw (he A env σ fm st s (λv st=>K [v] fm st) R E I F h) λσ5 y st5 u abq abL abF acn abf=>?_)
 have abG:=a.step abL .nil (λh=>nomatch h)
 refine kV (abG.app hD0 abF acn hlen λs₆ acf ab3 acl=>Sl ⟨σ5,fm,st5,[y],[u],abL.up.trans (acf.more λp hp=>.inl (Sn.mp hp▸.head _)),ab3,acf.fr abG.noTup (λq=>hDL (Sn.mp q)) (abL.fr0 F),acl,SW _,abf⟩)
structure CRel (C:Cfg)(fx:Fx)(env:Env)(D:Sx)(fp:Sj Sx)(b:Sx)(σ:Sj Sx)(s:Sw)(σ':Sj Sx)(fm':Fm)(it':It)(l:Sj V)(us:Sj Sr)(s':Sw):Prop where
 S:Step (D::env.locals::fp) σ s σ' s'
 F:FrR C fx env fm' σ' s'
 r:ItR σ' s'.heap it' b fp
 P:Fp C σ' env.locals fp
 a:AccAt σ' s'.heap D l us
section
variable {D b:Addr}{fp:List Addr}{it abA:It}{l l₁:List V}{us aci:List Value}
theorem CRel.step0 (x:CRel C fx env D fp b σ s σ1 fm it l us aaV)(S:Step [] σ1 aaV σ2 aaW):CRel C fx env D fp b σ s σ2 fm it l us aaW:=
 ⟨x.S.trans S.up,S.fr0 x.F,x.r.step S .nil (λ_ _ h=>nomatch h) x.P.out,x.P.step x.r S (λ_ _ h=>nomatch h),x.a.step S .nil (λh=>nomatch h)⟩
theorem CRel.turn (x:CRel C fx env D fp b σ s σ1 fm it l us aaV)(hDL:env.locals≠D)(hDf:D∉fp)(S:Step (env.locals::fp) σ1 aaV σ2 aaW)(F:FrR C fx env abn σ2 aaW)(r:ItR σ2 aaW.heap abA b fp)(P:Fp C σ2 env.locals fp):CRel C fx env D fp b σ s σ2 abn abA l us aaW:=
 ⟨x.S.trans (S.more λ_ m=>.inl (.tail _ m)),F,r,P,x.a.step S (λp hp vs n=>by
  rcases SD.mp hp with q | q
  ·rw[q];exact Heap.Ns.noTup' x.F _ (Sn.mpr rfl) vs n
  ·exact x.r.noTup p q vs n) λm=>(SD.mp m).elim (λq=>hDL q.symm) hDf⟩
theorem CRel.body (x:CRel C fx env D fp b σ s σ1 fm it l us aaV)(hDf:D∉fp)(S:Step [D,env.locals] σ1 aaV σ2 aaW)(F:FrR C fx env abn σ2 aaW)(a:AccAt σ2 aaW.heap D l₁ aci):CRel C fx env D fp b σ s σ2 abn it l₁ aci aaW:=by
 have hw:∀p∈fp,p∉[D,env.locals]:=λp hp q=>(SD.mp q).elim (λq=>hDf (q▸hp)) λq=>x.P.loc (Sn.mp q▸hp)
 have nt:Step.NoTup [D,env.locals] aaV.heap:=λp hp=>(SD.mp hp).elim (λq=>q▸x.a.noTup D (.head _)) λq=>Heap.Ns.noTup' x.F p q
 exact⟨x.S.trans (S.more λp hp=>.inl ((SD.mp hp).elim (λq=>q▸.head _) λq=>Sn.mp q▸.tail _ (.head _))),F,x.r.step S nt hw x.P.out,x.P.step x.r S hw,a⟩
end
inductive EM (C:Cfg)(fx:Fx)(env:Env)(D:Sx)(fp:Sj Sx)(b:Sx)(cap:Nat)(gi:eN)(ct:CT)(cb:CB)(K:Sj V->Fm->St->Sm)(l₀:Sj V)(us₀:Sj Sr)(σ:Sj Sx)(s:Sw)(n:Nat)(s':Sw):Prop
 | mk (σ':Sj Sx) (fm':Fm) (st':St) (it':It) (ws:Sj V) (xs:Sj Sr) (x:CRel C fx env D fp b σ s σ' fm' it' (l₀++ws) (us₀++xs) s') (I:Inv C σ' st' s') (len:xs.length+cap*n<=cap*200) (h:bw gi ct cb n fm' it' st' (λvs fm st=>K (ws++vs) fm st)=Sk)
section
variable {target elt:Expr}{ifs:List Expr}{gi:eN}{ct:CT}{cb:CB}{B:Env->Sem Unit}{cap T:Nat}{b D:Addr}{fp:List Addr}{K:List V->Fm->St->Bool}{l₀:List V}{us₀:List Value}
theorem As {a cap b:Nat}(h:a+cap*(n+1)<=b):a+cap<=b/\a+cap*n<=b/\∀m,m<=cap->a+m+cap*n<=b:=
 ⟨So (Tw (TQ cap (cap*n)) a) h,So (Tw (Td (cap*n) cap) a) h,λm hm=>So (by rw[Ym,aaa m];exact Tw (Tw hm _) _) h⟩
theorem yg (hg:SGI C fx d target gi)(ht:xj C fx d ifs ct)(hB:Mt C fx d cap T D B cb)(R:Rm d A)(E:ba fx env)(hD0:C.aa8.get? D=none)(hDL:env.locals≠D)(hDf:D∉fp)(hcap:us₀.length+cap*200<=T)
  (hR:∀s',Er C fx env (D::env.locals::fp) D (cap*200) σ s K l₀ us₀ s'->R₀ (.ok .next) s') (J:EM C fx env D fp b cap gi ct cb K l₀ us₀ σ s n aaV) :
  Ss C.M A (UO (.ref b)) (λr aaV=>match r with
   | none=>R₀ (.ok .next) aaV
   | some v=>Ss C.M A (TC target (.ref b) v) (λ_ s1'=>Ss C.M A (assign target env v) (λ_ aaW=>
     Ss C.M A (Zm ifs Sk λc r=>if r=Sk then do let ok ←Vb c env (eval c env);pure (U8 ok) else pure (U8 r)) (λok aa5=>
      if ok=Sk then Ss C.M A (B env) (λ_ abq=>∃m,m<n/\EM C fx env D fp b cap gi ct cb K l₀ us₀ σ s m abq) cM aa5
      else ∃m,m<n/\EM C fx env D fp b cap gi ct cb K l₀ us₀ σ s m aa5) cM aaW) cM s1') cM aaV) cM aaV:=by
 obtain⟨σ1,abn,st1,abA,ws,xs,abH,aa1,len,aaX⟩:=J
 induction n with
 | zero=>exact ff aaX
 | succ n=>
  have len2:xs.length+cap<=cap*200/\xs.length+cap*n<=cap*200/\∀m,m<=cap->xs.length+m+cap*n<=cap*200:=As len
  clear len
  refine Sq (Cy (k:=λit fm st=>ct fm st λx st=>aD x (cb fm st λvs fm st=>bw gi ct cb n fm it st λus fm st=>K (ws++bp vs us) fm st) (bw gi ct cb n fm it st λvs fm st=>K (ws++vs) fm st)) hg R E aa1 abH.F abH.r abH.P aaX) ?_ λ_ _ e=>e
  intro x aaW q
  induction x with
  | none=>
   refine yF q λaa7 aa6 aa9 abz=>?_
   have aa7:K (ws++[]) abn st1=Sk:=aa7
   rw[TV] at aa7
   exact hR aaW ⟨σ1,abn,st1,ws,xs,abH.S.trans (aa6.more λ_ m=>.inl (.tail _ (.tail _ m))),aa9,abz,abH.a.step aa6 abH.r.noTup hDf,So (Td _ _) len2.1,aa7⟩
  | some v=>
   refine Sq q (λ_ s2' q=>Sq q ?_ λ_ _ e=>e) λ_ _ e=>e
   rintro _ aa5 ⟨abk,abx,abo,abS,abe,abc,abr,abj,abB,aa3⟩
   have acD:=abH.turn hDL hDf abe abr abj abB
   refine Sq (ht A env abk abx abo aa5 _ R E abc abr aa3) ?_ λ_ _ e=>e
   rintro ok abb ⟨σ4,st4,abp,abs,abd⟩
   have abZ:=acD.step0 abp
   induction ok with
   | false=>exact⟨n,S1 n,σ4,abx,st4,abS,ws,xs,abZ,abs,len2.2.1,abd⟩
   | true=>
    refine Sq (hB A env σ4 abx st4 abb _ (l₀++ws) (us₀++xs) R E abs abZ.F abZ.a hD0 hDL (by rw[SY];exact So (Tw (So (Td _ _) len2.1) _) hcap) abd) ?_ λ_ _ e=>e
    rintro _ abq ⟨σ5,fm5,st5,ws',xs',abL,abF,abU,abG,aco,abf⟩
    rw[U3,U3] at abG
    refine⟨n,S1 n,σ5,fm5,st5,abS,ws++ws',xs++xs',abZ.body hDf abL abU abG,abF,by rw[SY];exact len2.2.2 _ aco,?_⟩
    simp only[U3,←bf ws']
    exact abf
theorem mV {dp:Nat} 
  (hT:aag (.ListComp elt gens scope pos) dp (.ref b) (.ref D) env=(do
   UG p
   match ←UO (.ref b) with
   | none=>pure (.done .next)
   | some v=>
    TC target (.ref b) v
    assign target env v
    let mut ok:=Sk
    for c in ifs do
     if ok then ok ←Vb c env (eval c env)
    if ok then B env
    again (.compLoop (.ListComp elt gens scope pos) dp (.ref b) (.ref D) env)))
  (hg:SGI C fx d target gi) (ht:xj C fx d ifs ct) (hB:Mt C fx d cap T D B cb) (R:Rm d A) (E:ba fx env) (hD0:C.aa8.get? D=none) (hDL:env.locals≠D) (hDf:D∉fp) (hcap:us₀.length+cap*200<=T)
  (hR:∀s',Er C fx env (D::env.locals::fp) D (cap*200) σ s K l₀ us₀ s'->R₀ (.ok .next) s')
 (I:Inv C σ st s) (F:FrR C fx env fm σ s) (r:ItR σ s.heap it b fp) (P:Fp C σ env.locals fp) (a:AccAt σ s.heap D l₀ us₀) (h:bw gi ct cb 200 fm it st K=Sk) :
  U4 C.M A (.compLoop (.ListComp elt gens scope pos) dp (.ref b) (.ref D) env) R₀ s:=
 iM hT (EM C fx env D fp b cap gi ct cb K l₀ us₀ σ s) (λ_ _ J=>yg hg ht hB R E hD0 hDL hDf hcap hR J) 200 ⟨σ,fm,st,it,[],[],⟨.refl,F,r,P,by rw[TV,TV];exact a⟩,I,Ub (Wd _),h⟩
end
end
section
variable {C:Cfg}{fx:Fx}{d:Nat}{A:Around}{env:Env}{σ σ1:List Addr}{fm:Fm}{st:St}{s aaV:Shared}
theorem Inv.name (I:Inv C σ st s) (hn:st'.n=st.n+1)(hl:∀j,st'.look j=if j=st.n then Si o else st.look j)(hd:bW o=none)
  (out:a∉σ) (hs:(s.heap.get? a).isSome=Sk) (hb:C.aa8.get? a=none) (nt:∀vs n,s.heap.get? a≠Si (cK vs n)) (r:OR (σ++[a]) s.heap o a):Inv C (σ++[a]) st' s:=by
 have kt:∀(b:Sx) (vs:Sj Sr) (n:Nat),b∉σ->s.heap.get? b=Si (cK vs n)->b∉σ++[a]/\s.heap.get? b=Si (cK vs n):=λb vs n m x=>⟨λq=>by
  rcases Tj.mp q with q | q
  ·exact m q
  ·rw[Sn.mp q] at x;exact nt vs n x,x⟩
 have hi:∀(i:Nat) (b:Sx),σ[i]? = Si b->(σ++[a])[i]? = Si b:=λi b e=>by rw[Tp (SJ.mp e).1];exact e
 have old:∀{j:Nat} {x:O},st.look j=Si x->st'.look j=Si x:=λ{j x} e=>by rw[hl,SK (SP (I.lt e))];exact e
 have L:∀{j:Nat} {x:O} {d:Nat},st'.look j=Si x->bW x=Si d->st.look j=Si x:=λ{j x d} q h=>by
  rw[hl] at q
  by_cases e:j=st.n
  ·rw[SX e] at q;cases q;rw[hd] at h;exact iq h
  ·rw[SK e] at q;exact q
 refine⟨I.base,?_,λb m=>?_,by rw[hn,I.n];simp,λj x q=>?_,λj c d fs l q=>?_,λj k c d fs l c' d' fs' l' q q' hd=>?_,dQ I.tabs hi (λj sj=>Safe.of (old sj.1) λk x d q hd=>sj.dict (L q hd) hd) λ_ _ _ _ _ g=>g,λi a o m=>by obtain⟨q1,q2,q3,l,q4⟩:=I.fix i a o m;exact⟨q1,hi _ _ q2,q3,l,old q4⟩⟩
 ·rw[Vq]
  exact⟨I.nodup,by simp,λb m c m'=>by rw[Sn.mp m'];intro e;exact out (e▸m)⟩
 ·rcases Tj.mp m with m | m
  ·exact I.new b m
  ·rw[Sn.mp m];exact⟨hb,hs⟩
 ·rw[hl] at q
  by_cases e:j=st.n
  ·rw[SX e] at q
   cases q
   exact⟨a,by rw[e,I.n];simp,r⟩
  ·rw[SK e] at q
   obtain⟨b,hb,rb⟩:=I.at_ j x q
   exact⟨b,hi _ _ hb,rb.mono hi kt (λy g=>g) λd dx _ _ y g=>g⟩
 ·rcases q with q | q
  ·exact old (I.dict j c d fs l (.inl (L q rfl)))
  ·exact old (I.dict j c d fs l (.inr (L q rfl)))
 ·subst hd
  rcases q with q | q <;> rcases q' with q' | q' <;> exact I.dictOne (L q rfl) (L q' rfl) rfl rfl
theorem ie {env:Env}:∀{names:Sj (Str×NameKind)}{x:Str}{k:NameKind},names.lookup x=Si k ->
  (names.map λ(n,k)=>if (k == NameKind.free && env.scope.kind == .function && env.kindOf n == Si .cell) then (n,NameKind.cell) else (n,k)).lookup x=Si k \/
   (k=.free/\(names.map λ(n,k)=>if (k == NameKind.free && env.scope.kind == .function && env.kindOf n == Si .cell) then (n,NameKind.cell) else (n,k)).lookup x=Si .cell)
 | [],_,_,h=>by simp at h
 | (n,k')::r,x,k,h=>by
  have ih:=@ie env r x k
  show Zo x ((if (k' == NameKind.free && env.scope.kind == .function && env.kindOf n == Si .cell)=Sk then (n,NameKind.cell) else (n,k'))::_)=_\/_/\Zo x ((if (k' == NameKind.free && env.scope.kind == .function && env.kindOf n == Si .cell)=Sk then (n,NameKind.cell) else (n,k'))::_)=_
  cases hx:x == n with
  | true=>
   simp only[UC,hx] at h
   cases h
   by_cases hc:(k' == NameKind.free && env.scope.kind == .function && env.kindOf n == Si .cell)=Sk
   ·rw[SX hc]
    simp only[Ta,beq_iff_eq] at hc
    exact .inr ⟨hc.1.1,by simp[UC,hx]⟩
   ·rw[SK hc];exact .inl (by simp[UC,hx])
  | false=>
   simp only[UC,hx] at h
   by_cases hc:(k' == NameKind.free && env.scope.kind == .function && env.kindOf n == Si .cell)=Sk
   ·rw[SX hc];simp only[UC,hx];exact ih h
   ·rw[SK hc];simp only[UC,hx];exact ih h
theorem kG (h:dT sc=Sk)(E:ba (aR sc) cenv)(e:cenv.scope=sc):ba (aR sc) { cenv with scope:=relabel sc env }:=by
 have h':=h
 simp only[dT,Ta,decide_eq_true_eq] at h'
 obtain⟨⟨hk,nd⟩,_⟩:=h'
 have L:∀{x:Str} {k:NameKind},x∈au sc k->(relabel sc env).names.lookup x=Si k\/(k=.free/\(relabel sc env).names.lookup x=Si .cell):=λ{x k} m=>ie (cH nd (dm m))
 have L':∀{x:Str} {k:NameKind},k≠.free->x∈au sc k->(relabel sc env).names.lookup x=Si k:=λ{x k} n m=>(L m).elim id λq=>Tc q.1 n
 refine⟨by show(relabel sc env).kind=_;show sc.kind=_;simpa using hk,E.glob,E.blt,λx m=>L' (by decide) m,λx m=>?_,λx m=>L' (by decide) m,λx m=>L' (by decide) m⟩
 rcases Tj.mp m with m | m
 ·exact .inl (L' (by decide) m)
 ·rcases L m with q | q
  ·exact .inr q
  ·exact .inl q.2
theorem ky (f:Str×NameKind->Sj (Str×Sx)->Sem (ForInStep (Sj (Str×Sx))))(hf:∀name kind cs,f (name,kind) cs=if kind == .free then (do let a ←cellOf env name;pure (.yield ((name,a)::cs))) else pure (.yield cs)) :
  ∀(names:Sj (Str×NameKind)) (acc:Sj (Str×Sx)),(names.map (·.1)).Nodup->(∀x,(x,NameKind.free)∈names->∃a,env.cells.lookup x=Si a) ->
   ∃cl,(Zm names acc f:Sem (Sj (Str×Sx)))=pure cl/\(∀x,(x,NameKind.free)∈names->cl.lookup x=env.cells.lookup x)/\(∀x,x∉names.map (·.1)->cl.lookup x=acc.lookup x)
 | [],acc,_,_=>⟨acc,by rw[WS],λ_ h=>(nomatch h),λ_ _=>rfl⟩
 | (n,k)::r,acc,nd,h=>by
  simp only[Tx,VL] at nd
  have hr:∀x,(x,NameKind.free)∈r->∃a,env.cells.lookup x=Si a:=λx m=>h x (Zp _ m)
  by_cases hk:(k == .free)=Sk
  ·have hk':k=.free:=by simpa using hk
   subst hk'
   refine bG (h n (Z3)) λa ha=>?_
   refine fF (ky f hf r ((n,a)::acc) nd.2 hr) λcl e h1 h2=>?_
   refine⟨cl,?_,λx m=>?_,λx m=>?_⟩
   ·rw[Uy,hf,SX hk]
    have:cellOf env n=pure a:=by unfold cellOf;rw[ha]
    rw[this]
    exact e
   ·rcases SD.mp m with q | q
    ·cases q
     rw[h2 n nd.1,ha];simp[Zo]
    ·exact h1 x q
   ·simp only[Tx,SD,not_or] at m
    rw[h2 x m.2,UC,show(x == n)=dV from beq_eq_false_iff_ne.mpr m.1]
  ·refine fF (ky f hf r acc nd.2 hr) λcl e h1 h2=>?_
   refine⟨cl,?_,λx m=>?_,λx m=>?_⟩
   ·rw[Uy,hf,SK hk]
    exact e
   ·rcases SD.mp m with q | q
    ·cases q;exact Tc rfl hk
    ·exact h1 x q
   ·simp only[Tx,SD,not_or] at m
    exact h2 x m.2
end
section
variable {C:Cfg}{fx:Fx}{d:Nat}{A:Around}{env:Env}{σ σ1:List Addr}{fm:Fm}{st:St}{s aaV:Shared}
theorem A5 {cel:Sj Nat}:∀{fr:Sj Nat}{k:Sj Nat->Sm},xD cel fr k=Sk->∃q,q.length=fr.length/\(∀(i j:Nat),fr[i]? = Si j->∃n,cel[j]? = Si n/\q[i]? = Si n)/\k q=Sk
 | [],k,h=>⟨[],rfl,λi j e=>by simp at e,h⟩
 | j::r,k,h=>by
  have h:getL cel j (λn=>xD cel r λq=>k (n::q)) dV=Sk:=h
  refine gJ h λn e h1=>?_;clear h
  refine fF (A5 h1) λq hl h2 h3=>?_
  refine⟨n::q,by simp[hl],λi j' e'=>?_,h3⟩
  induction i with
  | zero=>simp at e';subst e';exact⟨n,e,rfl⟩
  | succ i=>simp at e';refine aE (h2 i j' e') λm a b=>?_;exact⟨m,a,by simpa using b⟩
theorem wn {h:It} (r:ItR σ s.heap h b fp)(q:Q (.ref b) s):Ss C.M A (XT (.ref b)) Q E s:=by
 induction r with
 | seq _ hi=>exact Y3 hi q
 | tup _ _ hi=>exact wpAny_pyIter_tupleiter hi q
 | str hi=>exact wpAny_pyIter_striter_ascii hi q
 | rng hi=>exact wpAny_pyIter_rangeiter hi q
 | enS _ _ he=>exact WR he q
 | enT _ he=>exact WR he q
theorem gj (x:Step [] σ s σ1 aaV)(I:Inv C σ1 st aaV)(h:aaV.heap.get? a=none):s.heap.get? a=none:=by
 cases q:s.heap.get? a with
 | none=>rfl
 | some o=>
  by_cases z:a∈σ
  ·refine aE (x.ext) λτ e _=>?_
   have:=(I.new a (by rw[e];exact Un _ z)).2
   rw[h] at this;exact ff this
  ·have:=x.keep a o z (λh=>nomatch h) q
   rw[h] at this;exact iq this
theorem Step.name (x:Step [] σ s σ1 aaV)(n:a∉σ1)(h:s.heap.get? a=none):Step [] σ s (σ1++[a]) aaV:=by
 refine aE (x.ext) λτ e q=>?_
 refine⟨⟨τ++[a],by rw[e,U3],λb m=>?_⟩,x.keep,x.os,x.gens⟩
 rcases Tj.mp m with m | m
 ·exact q b m
 ·rw[Sn.mp m];exact⟨λz=>n (by rw[e];exact Un _ z),.inl h⟩
theorem wT {fr q:Sj Nat}(F:FrR C fx env fm σ s)(hsc:dT sc=Sk)(hfr:fr.map (λj=>fx.cn[j]?)=(au sc .free).map Si)(hl:q.length=fr.length)(hq:∀(i j:Nat),fr[i]? = Si j->∃n,fm.cel[j]? = Si n/\q[i]? = Si n) :
  ∃cl,YU sc env=pure cl/\q.length=(au sc .free).length/\∀(i:Nat) (x:Str),(au sc .free)[i]? = Si x->y6 q cl σ i x:=by
 have nd:(sc.names.map (·.1)).Nodup:=by
  simp only[dT,Ta,decide_eq_true_eq] at hsc;exact hsc.1.2
 have hlen:fr.length=(au sc .free).length:=by
  have:=SU Sj.length hfr;simpa using this
 have key:∀(i:Nat) (x:Str),(au sc .free)[i]? = Si x->y6 q env.cells σ i x:=λi x e=>by
  have e2:=SU (λl=>l[i]?) hfr
  simp only[TM,e,Uz] at e2
  cases hj:fr[i]? with
  | none=>rw[hj] at e2;exact iq e2
  | some j=>
   rw[hj] at e2
   simp only[Uz,Si.injEq] at e2
   refine aE (hq i j hj) λn h1 h2=>?_
   refine gw (F.cel j n h1) λy a h3 h4 h5=>?_
   rw[e2] at h3
   cases h3
   exact⟨a,n,h2,h4,h5⟩
 obtain⟨cl,e,h1,_⟩:=ky (env:=env) (λp cs=>if p.2 == .free then (do let a ←cellOf env p.1;pure (.yield ((p.1,a)::cs))) else pure (.yield cs)) (λ_ _ _=>rfl) sc.names [] nd (λx m=>by
  have:x∈au sc .free:=XN.mpr ⟨(x,.free),YZ.mpr ⟨m,by rfl⟩,rfl⟩
  refine bG (V8 this) λi hi=>?_
  obtain⟨a,_,_,h,_⟩:=key i x hi
  exact⟨a,h⟩)
 refine⟨cl,?_,hl.trans hlen,λi x hx=>?_⟩
 ·have e':YU sc env=((Zm sc.names [] λ(p:Str×NameKind) (cs:Sj (Str×Sx))=>if p.2 == .free then (do let a ←cellOf env p.1;pure (.yield ((p.1,a)::cs))) else pure (.yield cs)) >>= λcs=>pure cs:Sem (Sj (Str×Sx))):=by
   unfold YU
   refine SU (λm:Sem (Sj (Str×Sx))=>m >>= λcs=>pure cs) (SU (Zm sc.names []) (funext λp=>funext λcs=>?_))
   obtain⟨n,k⟩:=p
   cases hkc:k == NameKind.free <;> simp[hkc]
  rw[e',e]
  rfl
 ·obtain⟨a,n,h2,h3,h4⟩:=key i x hx
  exact⟨a,n,h2,by rw[h1 x (dm (Su hx))];exact h3,h4⟩
theorem Inv.nameL (I:Inv C σ st s) {us:Sj Sr} (e1:st'.n=st.n+1)(e2:∀j,st'.look j=if j=st.n then Si (.list l) else st.look j)(n:D∉σ)(n0:C.aa8.get? D=none)(g:s.heap.get? D=Si (cB us m))(v:VRs σ s.heap l us):Inv C (σ++[D]) st' s/\(σ++[D])[st.n]? = Si D:=
 ⟨I.name e1 e2 rfl n (by rw[g];rfl) n0 (λvs n=>cE g rfl (by decide) vs n) ⟨us,m,g,v.mono (λi a e=>by rw[Tp (SJ.mp e).1];exact e) λa vs n z e=>⟨λq=>(Tj.mp q).elim z λq=>by
  rw[Sn.mp q] at e;exact cE g rfl (by decide) _ _ e,e⟩⟩,by rw[I.n,T5 (SW _),Nat.sub_self];rfl⟩
inductive pr (C:Cfg)(σ:Sj Sx)(s:Sw)(L D:Sx)(k:V->St->Sm)(s':Sw):Prop
 | mk (σ':Sj Sx) (st' st'':St) (mm:Str->SV Sr) (S:Step [] σ s (σ'++[D]) s') (I:Inv C (σ'++[D]) st'' s') (e:(σ'++[D])[st'.n]? = Si D) (nL:L∉σ'++[D]) (hm:s'.heap.Ns L mm) (dL:s.heap.get? L=none) (n0:C.aa8.get? L=none) (h:k (.ref st'.n) st''=Sk)
theorem j9 {iter:Expr} {fr:Sj Nat} {cb:CB}{cap T:Nat}{B:Sx->Env->Sem Unit}{use:SV (Sr->Sem Unit)} 
  (hsc:dT sc=Sk) (hfr:fr.map (λj=>fx.cn[j]?)=(au sc .free).map Si) (hf:∀env x,Tv iter env x=pure x) (hi:SI C fx d iter ci) (hg:SGI C (aR sc) d target gi) (ht:xj C (aR sc) d ifs ct) (hB:∀D,Mt C (aR sc) d cap T D (B D) cb) (hcap:cap*200<=T)
  (hT:∀(b D:Sx) (env:Env),aag (.ListComp elt (⟨target,iter,ifs,0⟩::gens) sc pos) 0 (.ref b) (.ref D) env=(do
   UG iter.pos
   match ←UO (.ref b) with
   | none=>pure (.done .next)
   | some v=>
    TC target (.ref b) v
    assign target env v
    let mut ok:=Sk
    for c in ifs do
     if ok then ok ←Vb c env (eval c env)
    if ok then B D env
    again (.compLoop (.ListComp elt (⟨target,iter,ifs,0⟩::gens) sc pos) 0 (.ref b) (.ref D) env)))
  (R:Rm d A) (E:ba fx env) (I:Inv C σ st s) (F:FrR C fx env fm σ s) (h:cF ci (au sc .local).length (au sc .cell).length fr gi ct cb fm st k=Sk)
  (post:∀L D s',pr C σ s L D k s'->Zq C.M A cM use Q (.ref D) L (.ok .next) s') :
  Ss C.M A (comprehension (.ListComp elt (⟨target,iter,ifs,0⟩::gens) sc pos) sc env spos (ZG []) dV (eval iter env) use) Q cM s:=by
 refine fF (A5 h) λq hl hq h1=>?_
 clear h
 refine fF (wT F hsc hfr hl hq) λcl hcl hql hqc=>?_
 clear hl hq hfr
 have hs:=hsc
 simp only[dT,Ta,decide_eq_true_eq] at hs
 refine Yp rfl (hf env) hcl (eq_of_beq hs.1.1) (λx m e=>cH hs.1.2 (by rw[←e];exact m)) ?_
 clear hs hcl hf
 refine Sq (hi A env σ fm st s _ R E I F h1) ?_ λ_ _ e=>e.elim
 clear hi h1 I
 intro x aaV z
 refine Sq z ?_ λ_ _ e=>e.elim
 rintro _ aaW ⟨σ2,it,st2,b,fp,rfl,aa6,aa9,aba,abN,dd,aa7⟩
 clear z
 refine TK ?_
 generalize hD:aaW.heap.objs.size=D
 have dD2:aaW.heap.get? D=none:=hD▸bE (SW _)
 have gD:({ aaW with heap:=aaW.heap.push (cB [] 0) }:Sw).heap.get? D=Si (cB [] 0):=hD▸Heap.get?_push_size _ rfl
 have nD:D∉σ2:=λm=>Tc (aa9.size m) (hD▸Tq _)
 have n0:C.aa8.get? D=none:=bD aa9 (Ub hD)
 have dD:s.heap.get? D=none:=gj aa6 aa9 dD2
 have hDf:D∉fp:=λm=>by
  refine bG (aba.live _ m) λo e=>?_
  rw[dD2] at e;exact iq e
 have abe:Step [] σ2 aaW σ2 { aaW with heap:=aaW.heap.push (cB [] 0) }:=Step.pushed (t:=aaW.toks)
 have abc:Inv C σ2 st2 { aaW with heap:=aaW.heap.push (cB [] 0) }:=aa9.pushed (t:=aaW.toks)
 have abj:=aba.step abe .nil (λ_ _ h=>nomatch h) abN.out
 have abB:=abN.step aba abe (λ_ _ h=>nomatch h)
 have S':=aa6.trans abe
 show Ss _ _ _ _ _ { aaW with heap:=aaW.heap.push (cB [] 0) }
 generalize ({ aaW with heap:=aaW.heap.push (cB [] 0) }:Sw)=aa5 at *
 rw[E.glob]
 have aa7:bX (au sc .cell).length st2 (λo st=>bw gi ct cb 200 ⟨cp (au sc .local).length,bp o q⟩ it st λvs _ st=>aD (aB (aK vs)) (st.push (.list vs) λn st=>k (.ref n) st) dV)=Sk:=aa7
 simp only[bf] at aa7
 refine Sq (uo (A:=A) (closure:=cl) (q:=q) (around:=Si env) (qual:=env.qual) (func:=none) (code:=.none) (builtins:=Ua) hsc E.blt (nA.nil) abc (VRs.nil) (Ub hql)
  (λi x e _=>by obtain⟨a,n,h2,h3,h4⟩:=hqc i x e;exact⟨a,n,h2,h3,aa6.idx h4⟩) (k:=λfm st=>bw gi ct cb 200 fm it st λvs _ st=>aD (aB (aK vs)) (st.push (.list vs) λn st=>k (.ref n) st) dV) aa7) ?_ λ_ _ e=>e.elim
 clear aa7 hqc hql aa6 abe aa9 aba dD2
 rintro cenv abb ⟨σ4,fm4,st4,ab6,esc,_,abp,abs,abw,dL,abd⟩
 have hDL:cenv.locals≠D:=λq=>by rw[q,gD] at dL;exact iq dL.symm
 have dL':s.heap.get? cenv.locals=none:=gj S' abc dL
 have abW:Fp C σ4 cenv.locals fp:=⟨λp m=>by obtain⟨o,e⟩:=abj.live p m;exact abp.notin (abB.out p m) (λh=>nomatch h) e,abB.new,λm=>by
  refine bG (abj.live _ m) λo e=>?_
  rw[dL] at e;exact iq e⟩
 have abK:=abj.step abp .nil (λ_ _ h=>nomatch h) abB.out
 have loop:=mV (env:={ cenv with scope:=relabel sc env }) (R₀:=Zq C.M A cM use Q (.ref D) cenv.locals) (K:=λvs _ st=>aD (aB (aK vs)) (st.push (.list vs) λn st=>k (.ref n) st) dV) (l₀:=[]) (us₀:=[]) (hT b D _) hg ht (hB D) R (kG hsc ab6 esc) n0 hDL hDf (by rw[VM,Wd];exact hcap) (λabq z=>post _ _ _ (by
  obtain⟨σ5,fm5,st5,ws,xs,abL,abF,abU,abG,_,abf⟩:=z
  obtain⟨nD5,⟨m,g⟩,v⟩:=abG
  refine aM abf λ_ abf=>?_
  refine St.push_e abf λst6 e1 e2 acs=>?_
  refine aE (abU.ns) λmm hm _=>?_
  refine dE (abF.nameL e1 e2 nD5 n0 g v) λab3 e=>?_
  refine⟨σ5,st5,st6,mm,((((S'.trans abp).up (W:=D::cenv.locals::fp)).trans abL).more λp m=>.inr ?_).name nD5 dD,ab3,e,λq=>(Tj.mp q).elim abU.out λq=>hDL (Sn.mp q),hm,dL',abU.new,acs⟩
  rcases SD.mp m with m | m
  ·rw[m];exact dD
  ·exact(SD.mp m).elim (λm=>m▸dL') (dd p))) abs ⟨abw.ns,abw.out,abw.new,abw.len,abw.cel⟩ abK abW ⟨abp.notin nD (λh=>nomatch h) gD,⟨0,abp.keep _ _ nD (λh=>nomatch h) gD⟩,.nil⟩ abd
 exact YV loop (wn abK loop)
theorem rC (z:pr C σ s L D k s'):Zq C.M A cM none (Out C [] σ s k) (.ref D) L (.ok .next) s':=by
 obtain⟨σ',st',st'',mm,S,I,e,nL,hm,dL,n0,h⟩:=z
 refine⟨mm,hm,λh' hs'=>⟨_,.ref st'.n,st'',((S.up (W:=[L])).trans (Step.frame (t:=s'.toks) hs')).more λp m=>Sn.mp m▸.inr dL,I.other (W:=[L]) (Heap.SameBut.keeps' hs') (λp hp=>Sn.mp hp▸⟨nL,n0⟩) (Heap.Ns.noTup hm),.ref e,h⟩⟩
theorem Do {iter:Expr} {fr:Sj Nat} (hsc:dT sc=Sk)(hfr:fr.map (λj=>fx.cn[j]?)=(au sc .free).map Si)(hf:∀env x,Tv iter env x=pure x)
  (hi:SI C fx d iter ci) (hg:SGI C (aR sc) d target gi) (ht:xj C (aR sc) d ifs ct) (he:SE C (aR sc) d elt ce) :
  SE C fx d (.ListComp elt [⟨target,iter,ifs,0⟩] sc pos) (cF ci (au sc .local).length (au sc .cell).length fr gi ct (gt ce)):=
 λ_ _ _ _ _ _ _ R E I F h=>j9 (use:=none) hsc hfr hf hi hg ht (λ_=>lH he) (bo rfl) (λ_ _ _=>ZX ..) R E I F h λ_ _ _ z=>rC z
end
section
variable {C:Cfg}{fx:Fx}{d:Nat}{A:Around}{env:Env}{σ σ1:List Addr}{fm:Fm}{st:St}{s aaV:Shared}
theorem yf {k:Fl->Fm->St->Sm} (hy:fx.ln[aby]? = Si y)(hok:fx.ok=Sk)(E:ba fx env)(F:FrR C fx env fm σ s)(z:pr C σ s L D (λv st=>fQ dV aby fm v st λfm st=>k .nxt fm st) s') :
  Zq C.M A cM (Si (assign (.Name y py) env)) (λ_ s'=>OutS C fx env σ s k .next s') (.ref D) L (.ok .next) s':=by
 obtain⟨σ',st',st'',mm,S,I,e,nL,hm,dL,n0,h⟩:=z
 have hLL:L≠env.locals:=λq=>by
  refine aE (F.ns) λ_ h81 _=>?_;obtain⟨o,_,_,e,_⟩:=h81
  rw[q,e] at dL;exact iq dL.symm
 refine Sq (Wk (fA (c:=dV) (k:=λfm st=>k .nxt fm st) hy (λh=>nomatch h) hok E I (S.fr0 F) (.ref e) h)) ?_ λ_ _ e=>e
 clear h I e F
 rintro _ abv ⟨σ8,fm8,st8,abJ,ab5,ab9,abE⟩
 have nLe:L∉[env.locals]:=λq=>hLL (Sn.mp q)
 have hm8:abv.heap.Ns L mm:=hm.at' λo e=>abJ.keep _ o nL nLe e
 have nL8:L∉σ8:=by
  refine iB hm λo _ _ e _=>?_
  exact abJ.notin nL nLe e
 refine⟨mm,hm8,λh' hs'=>?_⟩
 have abQ:Step [L] σ8 abv σ8 { abv with heap:=h' }:=Step.frame (t:=abv.toks) hs'
 have nt:=Heap.Ns.noTup hm8
 exact⟨σ8,.nxt,fm8,st8,(((S.up (W:=[L,env.locals])).trans (abJ.more λp hp=>.inl (.tail _ hp))).trans (abQ.more λp hp=>.inl (Sn.mp hp▸.head _))).more λp m=>(SD.mp m).elim (λm=>.inr (m▸dL)) .inl,ab5.other (W:=[L]) (Heap.SameBut.keeps' hs') (λp hp=>Sn.mp hp▸⟨nL8,n0⟩) nt,abQ.fr nt (λq=>hLL (Sn.mp q).symm) ab9,trivial,abE⟩
theorem DY {iter:Expr} {fr:Sj Nat} (hsc:dT sc=Sk)(hfr:fr.map (λj=>fx.cn[j]?)=(au sc .free).map Si)(hf:∀env x,Tv iter env x=pure x)
  (hi:SI C fx d iter ci) (hg:SGI C (aR sc) d target gi) (ht:xj C (aR sc) d ifs ct) (he:SE C (aR sc) d elt ce)
  (hok:fx.ok=Sk) (hy:fx.ln[aby]? = Si y) (hsw:∀env,ba fx env->VO (.ListComp elt [⟨target,iter,ifs,0⟩] sc pos) (Si (.Name y py)) spos.line env=pure Sk) :
  SS C fx d (.Assign [.Name y py] (.ListComp elt [⟨target,iter,ifs,0⟩] sc pos) spos) (aV (cF ci (au sc .local).length (au sc .cell).length fr gi ct (gt ce)) (ay dV aby)):=by
 intro A env σ fm st s k R E I F h
 refine wE (Y4 _ _ _ _ (hsw env E)) ?_
 refine kV (TF (kV ?_))
 show Ss _ A (do let _ ←comprehension (.ListComp elt [⟨target,iter,ifs,0⟩] sc pos) sc env _ (ZG []) dV (eval iter env) (Si (assign (.Name y py) env))) _ _ s
 exact kV (Sq (j9 (Q:=λ_ s'=>OutS C fx env σ s k .next s') (k:=λv st=>fQ dV aby fm v st λfm st=>k .nxt fm st) hsc hfr hf hi hg ht (λ_=>lH he) (bo rfl) (λ_ _ _=>ZX ..) R E I F h λL D s' z=>yf hy hok E F z) (λ_ s' hq=>Sl (Sl hq)) λ_ _ e=>e)
end
section
variable {C:Cfg}{fx:Fx}{d:Nat}{A:Around}{env:Env}{σ σ1:List Addr}{fm:Fm}{st:St}{s aaV:Shared}
theorem ja {R:Result->Sw->Prop}{iter:Expr} {c₀:Comprehension} {it:Sr} 
  (h0:U4 C.M A (.compLoop (.ListComp elt [c₀,⟨target,iter,ifs,0⟩] scope pos) 1 it acc env) R s)
  (h:Ss C.M A (XT it) (λit' s'=>U4 C.M A (.compLoop (.ListComp elt [c₀,⟨target,iter,ifs,0⟩] scope pos) 1 it' acc env) R s')
   (notedBy C.M A env λx s'=>R (.error x) s') s) :
  U4 C.M A (.compStart (.ListComp elt [c₀,⟨target,iter,ifs,0⟩] scope pos) 1 it acc env) R s:=by
 refine Xy ?_
 show Ss _ _ ((compStart (.ListComp elt [c₀,⟨target,iter,ifs,0⟩] scope pos) 1 it acc env).onRaise (λx=>do YG x env;UG theWindowsPlace)) _ _ s
 refine wpAny_notedAt ?_
 unfold compStart
 show Ss _ _ (ask >>= _) _ _ s
 refine kV (Yy (wpAny_ite ?_))
 split
 ·first
   | exact kV (Sl (Sl (Xg rfl h0)))
   | exact Sl (Xg rfl h0)
 ·first
   | exact kV (U5 (kV (TF (kV (Sq h (λit' s' h'=>Sl (Xg rfl h')) λ_ _ x=>x)))))
   | (refine kV (U5 ?_);show Ss _ _ (UG iter.pos >>= _) _ _ s;exact kV (TF (kV (Sq h (λit' s' h'=>Sl (Xg rfl h')) λ_ _ x=>x))))
theorem uP {iter:Expr}{c₀:Comprehension} (hf:∀env x,Tv iter env x=pure x)(hi:SI C fx d iter ci)(hg:SGI C fx d target gi)(ht:xj C fx d ifs ct)(he:SE C fx d elt ce) :
  Mt C fx d 200 45000 D (λenv=>do
   let x ←eval iter env
   UG iter.pos
   let x ←Tv iter env x
   let _ ←runOwn (.compStart (.ListComp elt [c₀,⟨target,iter,ifs,0⟩] sc pos) 1 (←holding [x] (XT x)) (.ref D) env) env) (I6 ci gi ct (gt ce)):=by
 intro A env σ fm st s K l us R E I F a hD0 hDL hlen h
 refine kV (Sq (hi A env σ fm st s (λit st=>bw gi ct (gt ce) 200 fm it st K) R E I F h) ?_ λ_ _ e=>e)
 intro x aaV z
 refine kV (TF (kV (TT (hf env x) (kV (SR (Sq z ?_ λ_ _ e=>e))))))
 clear z h hi hf
 rintro _ aaW ⟨σ2,it,st2,b,fp,rfl,aa6,aa9,aba,abN,dd,aa7⟩
 have hDf:D∉fp:=λm=>by
  obtain⟨_,⟨_,g⟩,_⟩:=a
  rw[dd D m] at g;exact iq g
 have loop:=mV (R₀:=λr s'=>match r with | .ok _=>Er C fx env [D,env.locals] D 200 σ s K l us s' | .error e=>cameBackBy C.M A env cM e s') (B:=λenv=>do let _ ←call (.builtin "list.append") [.ref D,←eval elt env]) (gens:=[c₀,⟨target,iter,ifs,0⟩]) (scope:=sc) (pos:=pos) (dp:=1) (p:=iter.pos) (by rfl) hg ht (lH he) R E hD0 hDL hDf (by lia) (λaa5 z=>by
  obtain⟨abk,abx,abo,ws,xs,abe,abc,abr,acp,abX,aa3⟩:=z
  refine⟨abk,abx,abo,ws,xs,((aa6.up (W:=D::env.locals::fp)).trans abe).more λp m=>?_,abc,abr,acp,So abX (bo rfl),aa3⟩
  exact(SD.mp m).elim (λm=>.inl (m▸.head _)) λm=>(SD.mp m).elim (λm=>.inl (m▸.tail _ (.head _))) λm=>.inr (dd p m)) aa9 (aa6.fr0 F) aba abN (a.step aa6 .nil (λh=>nomatch h)) aa7
 refine kV (wpAny_runOwn (VG (ja loop (wn aba loop)) ?_))
 rintro r s' z
 rcases r with e | f
 ·exact z
 ·exact Sl z
end
section
variable {C:Cfg}{fx:Fx}{d:Nat}{A:Around}{env:Env}{σ σ1:List Addr}{fm:Fm}{st:St}{s aaV:Shared}
theorem qw {iter:Expr} {it:Sr}:
  aag (.ListComp elt [⟨target,iter,ifs,0⟩,⟨target2,iter2,ifs2,0⟩] sc pos) 0 it acc env=(do
   UG iter.pos
   match ←UO it with
   | none=>pure (.done .next)
   | some v=>
    TC target it v
    assign target env v
    let mut ok:=Sk
    for c in ifs do
     if ok then ok ←Vb c env (eval c env)
    if ok then (do
     let x ←eval iter2 env
     UG iter2.pos
     let x ←Tv iter2 env x
     let _ ←runOwn (.compStart (.ListComp elt [⟨target,iter,ifs,0⟩,⟨target2,iter2,ifs2,0⟩] sc pos) 1 (←holding [x] (XT x)) acc env) env)
    again (.compLoop (.ListComp elt [⟨target,iter,ifs,0⟩,⟨target2,iter2,ifs2,0⟩] sc pos) 0 it acc env)):=by
 refine SU (UG iter.pos >>= ·) (funext λ_=>SU (UO it >>= ·) (funext λr=>?_))
 induction r with
 | none=>rfl
 | some v=>
  refine SU (TC target it v >>= ·) (funext λ_=>SU (assign target env v >>= ·) (funext λ_=>SU (Zm ifs Sk _ >>= ·) (funext λok=>?_)))
  induction ok with
  | false=>rfl
  | true=>
   simp only[if_true,bind_assoc]
   rfl
theorem AG {iter:Expr} {ci2:CI}{gi2:eN}{ct2:CT} {fr:Sj Nat} (hsc:dT sc=Sk)(hfr:fr.map (λj=>fx.cn[j]?)=(au sc .free).map Si)(hf:∀env x,Tv iter env x=pure x)
  (hi:SI C fx d iter ci) (hg:SGI C (aR sc) d target gi) (ht:xj C (aR sc) d ifs ct) (hf2:∀env x,Tv iter2 env x=pure x) (hi2:SI C (aR sc) d iter2 ci2) (hg2:SGI C (aR sc) d target2 gi2) (ht2:xj C (aR sc) d ifs2 ct2) (he:SE C (aR sc) d elt ce) :
  SE C fx d (.ListComp elt [⟨target,iter,ifs,0⟩,⟨target2,iter2,ifs2,0⟩] sc pos) (cF ci (au sc .local).length (au sc .cell).length fr gi ct (I6 ci2 gi2 ct2 (gt ce))):=
 λ_ _ _ _ _ _ _ R E I F h=>j9 (use:=none) hsc hfr hf hi hg ht (λ_=>uP (c₀:=⟨target,iter,ifs,0⟩) (pos:=pos) (sc:=sc) hf2 hi2 hg2 ht2 he) (bo rfl) (λ_ _ _=>qw) R E I F h λ_ _ _ z=>rC z
end
section
variable {C:Cfg}{fx:Fx}{d:Nat}{A:Around}{env:Env}{σ σ1:List Addr}{fm:Fm}{st:St}{s aaV:Shared}
theorem DV (a b:Int):uR a b=if a<b then b else a:=by
 show @Ti (λ_=>Int) a b (AK a b)=_
 rw[j7]
 by_cases q:a<b
 ·rw[Tu q,SX q]
 ·rw[Tt q,SK q]
theorem oK (j:Int):∀(l:Sj Int)(m:Int),rm (l++[j]) m=uR (rm l m) j
 | [],_=>rfl
 | x::l,m=>by
  have e1:rm (x::l++[j]) m=rm (l++[j]) (uR m x):=rfl
  have e2:rm (x::l) m=rm l (uR m x):=rfl
  rw[e1,e2,oK j l]
theorem jK (xs:Sj (Int×Tok))(i:Nat)(h:i<xs.length):Vm xs.toArray i=(xs[i]).1:=by
 unfold Vm
 simp[Sz h]
theorem t0 (x:Int×Tok)(xs:Sj (Int×Tok)):∀k,k<=xs.length->Yk (λi j=>decide (Vm (x::xs).toArray i>Vm (x::xs).toArray j)) k<=k /\
  Vm (x::xs).toArray (Yk (λi j=>decide (Vm (x::xs).toArray i>Vm (x::xs).toArray j)) k)=rm ((xs.map (·.1)).take k) x.1
 | 0,_=>⟨SW _,by rw[show Yk _ 0=0 from rfl,jK _ _ (by simp)];rfl⟩
 | k+1,h=>by
  obtain⟨a,b⟩:=t0 x xs k (by(exact Nat.le_of_succ_le h))
  have e:Yk (λi j=>decide (Vm (x::xs).toArray i>Vm (x::xs).toArray j)) (k+1)=if decide (Vm (x::xs).toArray (k+1)>Vm (x::xs).toArray (Yk (λi j=>decide (Vm (x::xs).toArray i>Vm (x::xs).toArray j)) k))=Sk then k+1 else Yk (λi j=>decide (Vm (x::xs).toArray i>Vm (x::xs).toArray j)) k:=rfl
  have n1:Vm (x::xs).toArray (k+1)=(xs[k]'(by(exact WW h))).1:=by rw[jK _ _ (by simp;(exact WW h))];rfl
  have tk:(xs.map (·.1)).take (k+1)=(xs.map (·.1)).take k++[(xs[k]'(by(exact WW h))).1]:=by
   rw[WU,TM,Sz (by(exact WW h))];rfl
  rw[tk,oK,DV,←b,e,←n1]
  by_cases q:Vm (x::xs).toArray (k+1)>Vm (x::xs).toArray (Yk (λi j=>decide (Vm (x::xs).toArray i>Vm (x::xs).toArray j)) k)
  ·rw[SX (Tu q),SX q];exact⟨SW _,rfl⟩
  ·rw[SK (by simpa using q),SK q];exact⟨by(exact Nat.le_add_right_of_le a),rfl⟩
theorem GT:SF C d (.builtin "max") HH:=by
 intro A σ st s k l us R I r h
 refine dY h λv e81 h1=>?_;clear h;subst e81
 refine bN h1 λn e81 h2=>?_;clear h1;subst e81
 refine bC h2 λl hl h3=>?_;clear h2
 refine kx h3 λq e81 h4=>?_;clear h3;subst e81
 refine mQ h4 λa m e81 h5=>?_;clear h4;subst e81
 refine VRs.cons_e r λ_ _ ra rr=>?_
 refine VRs.nil_e rr ?_
 refine VR.ref_e ra λb e=>?_
 obtain⟨vs,mm,g,rv⟩:=I.list hl e
 refine aE (mn rv) λxs e1 e2=>?_
 induction xs using Sj.casesOn with
 | nil=>cases e2
 | cons x xs=>
  simp only[Tx,Xx] at e2
  obtain⟨rfl,rfl⟩:=e2
  refine max_intList (xs:=(x::xs).toArray) R.handled ⟨_,g,rfl,mm,by show Data.seq vs.toArray mm=_;rw[e1]⟩ (by simp) λw h' tk hw hk=>?_
  have S:Step [] σ s σ { s with heap:=h',toks:=tk }:=Step.all hk
  refine dE (t0 x xs xs.length (SW _)) λhle hb=>?_
  rw[UP (by simp)] at hb
  rw[show(x::xs).toArray.size - 1=xs.length by simp] at hw
  have hlt:Yk (λi j=>decide (Vm (x::xs).toArray i>Vm (x::xs).toArray j)) xs.length<(x::xs).length:=Ul hle
  rw[jK _ _ hlt] at hb
  unfold intItems at hw
  rw[Array.getElem?_map] at hw
  obtain⟨p,hp,rfl⟩:=VI.mp hw
  have:p=(x::xs)[Yk (λi j=>decide (Vm (x::xs).toArray i>Vm (x::xs).toArray j)) xs.length]:=by
   rw[Uu,Sz hlt] at hp
   exact(Si.inj hp).symm
  subst this
  refine⟨σ,_,st,S,I.grow hk,?_,h5⟩
  rw[←hb]
  exact .int _ _
end
section
variable {C:Cfg}{fx:Fx}{d:Nat}{A:Around}{env:Env}{σ σ1:List Addr}{fm:Fm}{st:St}{s aaV:Shared}
noncomputable def jq (K:Frag)(cl:Sx):Sm:=match K.lookup cl with
 | some ⟨_,_,.cls cd,sl⟩=>!cd.abstract && !cd.hasDel && (sl.toList[4]?).join == Si (.builtin "list.__new__") && !cd.mro.isEmpty && cd.mro.contains (.ref cl) && cd.mro.contains (.type "list") &&
   aaz K (.ref cl) "__call__" == Si (Si (.builtin "type.__call__")) && instIn K (.ref cl) (.type "type") == Si Sk
 | _=>dV
structure pT (M:Model)(h:Heap)(cl:Sx):Prop where
 obj:∃oc od cd sl,h.get? cl=Si ⟨oc,od,.cls cd,sl⟩/\cd.abstract=dV/\cd.hasDel=dV/\cd.mro.isEmpty=dV
 made:Looks M h (aaH (.ref cl)) (Si "list.__new__")
 base:Looks M h (Bind.staticBase (.ref cl)) (.ref cl)
 self:Looks M h (aar (.ref cl) (.ref cl)) Sk
 top:Looks M h (aar (.ref cl) (.type "list")) Sk
 call:Looks M h (aas (.ref cl) "__call__") (Si (.builtin "type.__call__"))
 typ:Looks M h (UN (.ref cl) (.type "type")) Sk
theorem oq {K:Frag}{M:Model} (X:K.In h){C:Sx}(e:jq K C=Sk):pT M h C:=by
 unfold jq at e
 split at e
 ·rename_i oc od cd sl ho
  simp only[Ta,VY,beq_iff_eq] at e
  obtain⟨⟨⟨⟨⟨⟨⟨e1,e2⟩,e3⟩,e4⟩,e5⟩,e6⟩,e7⟩,e8⟩:=e
  have hc:aaF K C=Si cd:=by unfold aaF;rw[ho]
  have hm:Looks M h (mroOf (.ref C)) cd.mro:=(Zg X hc).andThen .now
  obtain⟨c,l,hl⟩:∃c l,cd.mro=c::l:=by cases q:cd.mro with | nil=>rw[q] at e4;cases e4 | cons c l=>exact⟨c,l,rfl⟩
  have made:Looks M h (aaH (.ref C)) (Si "list.__new__"):=by
   intro A Q E s k q
   unfold aaH
   refine kV (hm A _ E s k ?_)
   rw[hl,Uy]
   refine kV (kV (kV (kV (WK (k _ _ (X _ _ ho)) (Sl ?_)))))
   skip
   rw[←VT,e3]
   exact Sl (Sl (Sl q))
  refine⟨⟨oc,od,cd,sl,X _ _ ho,e1,e2,e4⟩,made,?_,Vr X ?_,Vr X ?_,looks_specialIn X e7,looks_instIn X e8⟩
  ·intro A Q E s k q
   unfold Bind.staticBase
   refine kV (hm A _ E s k ?_)
   rw[hl,Uy]
   exact kV (kV (kV (made A _ E s k (Sl (Sl (Sl q))))))
  ·unfold mroIn;rw[hc,Vf,SK (by rw[e4];decide),e5]
  ·unfold mroIn;rw[hc,Vf,SK (by rw[e4];decide),e6]
 ·exact ff e
end
section
variable {prog:Program}{w:World}{A:Around}{K:Frag}{C:Addr}{R:Result->Shared->Prop}{h:Heap}{g:Array GenState}{d:Drawn}{t:Nat}{os:OsState}
noncomputable abbrev cW (C dx:Sx):Obj:={ cls:=.ref C,dict:=Si dx,data:=.seq #[] }
theorem Mw {v:Sr}(Y:pT (model prog w) h C)
  (hq:R (.ok (.ret (.ref (h.objs.size+1)))) ⟨(h.push Uj).push (cW C h.objs.size),g,d,t,os⟩) :
  U4 (model prog w) A (.call (.builtin "list.__new__") ⟨[.ref C,v],[]⟩) R ⟨h,g,d,t,os⟩:=by
 obtain⟨⟨oc,od,cd,sl,hC,e1,e2,e4⟩,made,base,self,top,call,typ⟩:=Y
 have hk:Vd "list.__new__"=Si .builtinFn:=by decide +kernel
 have hs:ZD "list.__new__"=Si ("list","__new__"):=by decide +kernel
 have hr:Wg "list.__new__"=Si ⟨.any,"list","list",.cls,[⟨"args",.varPos,dV⟩,⟨"kwargs",.varKw,dV⟩]⟩:=by kernel_rfl
 refine Xy ?_
 show Ss _ A.in1 (do Xb "list.__new__" ⟨[.ref C,v],[]⟩;again (.builtin "list.__new__" ⟨[.ref C,v],[]⟩)) _ _ _
 unfold Xb
 rw[hk,hs,hr]
 dsimp only
 have here:Looks (model prog w) h (Bind.madeHere "list.__new__" (.ref C)) ():=base.andThen (made.andThen (Yo (by simp only[Uz,bne_self_eq_false,Sm.false_eq_true,if_false])))
 have args:XR "list.__new__" ⟨.any,"list","list",.cls,[⟨"args",.varPos,dV⟩,⟨"kwargs",.varKw,dV⟩]⟩ ⟨[.ref C,v],[]⟩=pure ():=by kernel_rfl
 rw[args]
 repeat (first | refine wN UA ?_ | refine OE UA ?_ | refine Rr rfl ?_ | refine wP rfl ?_ | lk)
 refine⟨Wo YW _,codeAny_builtin_stack PySem.F.entry_list_new rfl λp st=>?_⟩
 rw[U2 YW _]
 have hown:=owner_list_new
 dsimp only
 generalize ("list.__new__".splitOn ".__new__").headD ""=o at hown ⊢
 subst hown
 have hC':=Heap.get?_push_of_some (cW C h.objs.size) (Heap.get?_push_of_some Uj hC)
 have fin:Ss (model prog w) A.in1 (do
   let .ref d ←newDict | unsupported "internal:list.__new__"
   ret (←newObj (.ref C) (.seq #[]) (Si d))) (λfin s'=>match fin with | .done f=>R (.ok f) s' | .again c'=>c'.quiet=Sk/\U4 (model prog w) A c' R s') (λe s'=>R (.error e) s') ⟨h,g,d,t,os⟩:=by
  unfold newDict
  refine kV (TK ?_)
  refine kV ?_
  show Ss _ _ (newObjAsIs _ _ _) _ _ _
  unfold newObjAsIs classHasDel
  refine kV (Zn (kV (kV (Xd (Heap.get?_push_of_some _ (Heap.get?_push_of_some _ hC)) (Sl ?_)))))
  rw[e2]
  refine Sl (Sl ?_)
  show R _ _
  rw[Heap.size_push]
  exact hq
 repeat (first | refine wN UA ?_ | refine OE UA ?_ | exact fin | lk)
end
section
variable {prog:Program}{w:World}{A:Around}{K:Frag}{C:Addr}{R:Result->Shared->Prop}{h:Heap}{g:Array GenState}{d:Drawn}{t:Nat}{os:OsState}
theorem Hc {v init:Sr}(Y:pT (model prog w) h C)(hi:Looks (model prog w) h (typeLookup (.ref C) "__init__") (Si init))
  (hb:∀self,Looks (model prog w) h (bindSpecial init self) (init,[self])) (hnew:Looks (model prog w) h (typeLookup (.ref C) "__new__") (Si (.builtin "list.__new__")))
  (hq:U4 (model prog w) (A.under (.builtin "type.__call__" ⟨[.ref C,v],[]⟩)) (.call init ⟨[.ref (h.objs.size+1),v],[]⟩) (InitBack (h.objs.size+1) R) ⟨(h.push Uj).push (cW C h.objs.size),g,d,t,os⟩) :
  U4 (model prog w) A (.call (.ref C) ⟨[v],[]⟩) R ⟨h,g,d,t,os⟩:=by
 have Y':=Y
 obtain⟨⟨oc,od,cd,sl,hC,e1,e2,e4⟩,made,base,self,top,call,typ⟩:=Y
 refine Xy ?_
 show Ss _ _ (callAny (.ref C) _) _ _ _
 refine nd_load hC ?_
 show Ss _ _ (aai (.ref C) _) _ _ _
 unfold aai
 refine kV (call.at ?_)
 dsimp only
 refine GH (tc_bind ..) ?_
 refine kV (Sl (kV (Sl ?_)))
 refine Sl (a:=Fin.again (.call (.builtin "type.__call__") ⟨[.ref C,v],[]⟩)) (Xg rfl ?_)
 refine codeAny_call_builtin_at (Z4 _ (by decide +kernel)) entry_typeCall (YO tc_kind tc_split typ (tc_args _ _ _) ?_)
 unfold Builtin.«type.__call__»
 have hm:Looks (model prog w) h (mroOf (.ref C)) cd.mro:=((Looks.ld (part:=none) hC).andThen .now).andThen .now
 repeat (first | refine wN (by rw[e4];decide) ?_ | refine OE (by rw[e4];decide) ?_ | with_reducible refine UM ?_ | lk)
 refine Mw Y' ?_
 have k:∀b o,h.get? b=Si o->((h.push Uj).push (cW C h.objs.size)).get? b=Si o:=λb o e=>Heap.get?_push_of_some _ (Heap.get?_push_of_some _ e)
 have hx:((h.push Uj).push (cW C h.objs.size)).get? (h.objs.size+1)=Si (cW C h.objs.size):=by heap_get
 have t1:Looks (model prog w) ((h.push Uj).push (cW C h.objs.size)) (Xv (.ref (h.objs.size+1))) (.ref C):=(Looks.ld hx).andThen .now
 have s1:=self.keeps k
 have i1:=hi.keeps k
 have b1:=(hb (.ref (h.objs.size+1))).keeps k
 unfold UN XK aas
 repeat (first | with_reducible refine UM ?_ | lk)
 refine VG hq λr s' z=>?_
 rcases r with e | (v | _ | _ | _) <;> first | exact z | exact z.elim | skip
 obtain⟨rfl,z⟩:=z
 exact Sl (Sl z)
end
section
variable {C:Cfg}{fx:Fx}{d:Nat}{A:Around}{env:Env}{σ σ1:List Addr}{fm:Fm}{st:St}{s aaV:Shared}
theorem uU (I:Inv C σ st s){k:Nat->St->Sm}(h:st.push .hid (λd st=>st.push (fP 2 d) k)=Sk) :
  ∃st',k (st.n+1) st'=Sk/\Step [] σ s (σ++[s.heap.objs.size,s.heap.objs.size+1]) { s with heap:=(s.heap.push Uj).push (cW 244 s.heap.objs.size) } /\
   Inv C (σ++[s.heap.objs.size,s.heap.objs.size+1]) st' { s with heap:=(s.heap.push Uj).push (cW 244 s.heap.objs.size) }/\(σ++[s.heap.objs.size,s.heap.objs.size+1])[st.n+1]? = Si (s.heap.objs.size+1):=by
 refine St.push_e h λst1 e1 e2 h1=>?_
 refine St.push_e h1 λst2 e3 e4 h2=>?_;clear h1
 rw[e1] at e3 e4 h2
 have n1:s.heap.get? s.heap.objs.size=none:=bE (SW _)
 have n2:s.heap.get? (s.heap.objs.size+1)=none:=bE (T2 _)
 have keep:∀b x,s.heap.get? b=Si x->((s.heap.push Uj).push (cW 244 s.heap.objs.size)).get? b=Si x:=λb x e=>bu _ _ (bu _ _ e)
 have g1:((s.heap.push Uj).push (cW 244 s.heap.objs.size)).get? s.heap.objs.size=Si Uj:=bu _ _ (Heap.get?_push_size _ rfl)
 have g2:((s.heap.push Uj).push (cW 244 s.heap.objs.size)).get? (s.heap.objs.size+1)=Si (cW 244 s.heap.objs.size):=by
  have:=Heap.get?_push_size (s.heap.push Uj) (o:=cW 244 s.heap.objs.size) rfl
  rw[Heap.size_push] at this;exact this
 have i1:(σ++[s.heap.objs.size,s.heap.objs.size+1])[st.n]? = Si s.heap.objs.size:=by rw[I.n];simp
 have i2:(σ++[s.heap.objs.size,s.heap.objs.size+1])[st.n+1]? = Si (s.heap.objs.size+1):=by rw[I.n,T5 (by(exact Td σ.length 1))];simp
 have hnew:fP 2 st.n=.lsub 2 st.n [] []:=rfl
 refine⟨st2,h2,⟨⟨_,rfl,λa m=>?_⟩,λb x _ _ e=>keep b x e,rfl,λh=>h⟩,?_,i2⟩
 ·rcases SD.mp m with m | m
  ·rw[m];exact⟨λq=>Tc (I.size q) (Tq _),.inl n1⟩
  ·rw[Sn.mp m];exact⟨λq=>Tc (I.size q) (Uo.mpr (T2 _)),.inl n2⟩
 ·refine I.make (s':={ s with heap:=(s.heap.push Uj).push (cW 244 s.heap.objs.size) }) (o:=fP 2 st.n) (by(exact Eq.symm ((λ{a b}=>Nat.succ_inj.mp) (SU TA (_root_.id (Eq.symm e3)))))) (λj=>?_) (by rw[hnew];rfl) keep n2 (by rw[g2];rfl) (bD I (T2 _)) n1 (by rw[g1];rfl) (bD I (SW _)) (SP (S1 _)) ?_
  ·rw[e4]
   by_cases q:j=st.n+1
   ·rw[SX q,SX q]
   ·rw[SK q,SK q,e2]
  ·rw[hnew]
   exact⟨rfl,s.heap.objs.size,[],0,[],0,i1,g2,g1,.nil,.nil⟩
end
section
variable {C:Cfg}{fx:Fx}{d:Nat}{A:Around}{env:Env}{σ σ1:List Addr}{fm:Fm}{st:St}{s aaV:Shared}
structure uT (C:Cfg)(fa:Sx):Prop where
 makes:jq C.K 244=Sk
 new:Uq C.K (.ref 244) "__new__"=Si (Si (.builtin "list.__new__"))
 init:Uq C.K (.ref 244) "__init__"=Si (Si (.ref fa))
 fn:YS C.K (.ref fa)=Si (.type "function")
 keep:aax C.K (.ref 244)=Sk
theorem DK (Ok:C.Ok) {f:FN}(hok:fx.ok=Sk)(hx:x∈fx.gn)(g:GB C x (.ref 244))(N:uT C fa)(hf:eY C d' (.ref fa) f)(hone:∀vs st k,f vs st k=Sk->vs.length=2)(hd:d'+1<=d)(hp:aL es)(hs:SA C fx d es cs) :
  SE C fx d (.Call (.Name x p) es [] pos) (iD 2 f cs):=by
 intro A env σ fm st s k R E I F h
 refine TB (bT Ok hok hx g E I ?_)
 refine bK (k:=λvs st=>st.push .hid λd st=>st.push (fP 2 d) λn st=>f (.ref n::vs) st λv st=>rH v .none st λb=>aD b (k (.ref n) st) dV) Ok (jo N.keep) hp hs R E I F h λσ' l st' us s' S I' r _ h'=>?_
 refine fC (uU I' h') λst'' h2 S2 I2 i2=>?_
 have hl:=hone _ _ _ h2
 have hu:us.length=1:=by rw[r.length];simpa using hl
 obtain⟨v,rfl⟩:=Sj.length_eq_one_iff.mp hu
 obtain⟨hh,gg,dr,tk,os⟩:=s'
 have X:=I'.X Ok
 refine UM (Hc (oq X N.makes) (T3 X N.init) (λself=>bind_fn X self N.fn) (T3 X N.new) ?_)
 have z:=hf (A.under (.builtin "type.__call__" ⟨[.ref 244,v],[]⟩)) _ st'' _ _ (.ref (st'.n+1)::l) [.ref (hh.objs.size+1),v] (Rm.under (R.le (by omega))) I2 (.cons (.ref i2) (S2.vrs .nil r)) h2
 refine VG z ?_
 rintro q s'' z
 rcases q with e | (v | _ | _ | _) <;> first | exact z.elim | skip
 obtain⟨σ3,y,st3,S3,I3,r3,h3⟩:=z
 have hy:y=.none/\k (.ref (st'.n+1)) st3=Sk:=by
  cases y with
  | none=>
   have h3:aD Sk (k (.ref (st'.n+1)) st3) dV=Sk:=h3
   exact⟨rfl,(eH h3).2⟩
  | bool=>exact ff h3
  | int=>exact ff h3
  | str=>exact ff h3
  | ref=>exact ff h3
  | tup=>exact ff h3
 obtain⟨rfl,h4⟩:=hy
 refine VR.none_e r3 ?_
 exact⟨rfl,⟨σ3,_,st3,(S.trans S2).trans S3,I3,.ref (S3.idx i2),h4⟩⟩
end
structure nZ (id ty get bt:String):Prop where
 hty:Xv (.builtin id)=pure (.type ty)
 slot:Slot ty "__get__" get
 entry:∃B,entryFor table get=Si B/\∀(prog:Program) (w:World) (A:Ue) (E:Sr->Sw->Prop) (s:Sw) (x Cl:Sx) (P:Fin->Sw->Prop),Looks (model prog w) s.heap (UN (.ref x) (.type "list")) Sk->Looks (model prog w) s.heap (isType (.ref Cl)) Sk ->
  P (.done (.ret (.ref s.heap.objs.size))) { s with heap:=s.heap.push { cls:=.type bt,data:=.fields #[.builtin id,.ref x] } }->Ss (model prog w) A (B ⟨[.builtin id,.ref x,.ref Cl],[]⟩) P E s
 args:∀a b c,Ww get ⟨[a,b,c],[]⟩
 keep:bt="builtin_function_or_method" \/ bt="method-wrapper"
theorem vw:Slot "method_descriptor" "__get__" "method_descriptor.__get__":=
 .of (owner:="method_descriptor") (n:="__get__") (by rw[typeLookup_type,Y5];kernel_rfl) (by decide +kernel) (by decide +kernel) (by decide +kernel)
  (by first | exact .inl (by decide +kernel) | exact .inr (by decide +kernel)) (by rw[isSubtype_type];kernel_rfl)
theorem rG:entryFor table "method_descriptor.__get__"=Si Builtin.«method_descriptor.__get__»:=entryFor_of_tree (by kernel_rfl)
theorem uH (a b c:Sr):Ww "method_descriptor.__get__" ⟨[a,b,c],[]⟩:=by unfold Ww;kernel_rfl
theorem mT:Slot "wrapper_descriptor" "__get__" "wrapper_descriptor.__get__":=
 .of (owner:="wrapper_descriptor") (n:="__get__") (by rw[typeLookup_type,Y5];kernel_rfl) (by decide +kernel) (by decide +kernel) (by decide +kernel)
  (by first | exact .inl (by decide +kernel) | exact .inr (by decide +kernel)) (by rw[isSubtype_type];kernel_rfl)
theorem kP:entryFor table "wrapper_descriptor.__get__"=Si Builtin.«wrapper_descriptor.__get__»:=entryFor_of_tree (by kernel_rfl)
theorem mW (a b c:Sr):Ww "wrapper_descriptor.__get__" ⟨[a,b,c],[]⟩:=by unfold Ww;kernel_rfl
theorem Cc:Xv (.builtin "list.pop")=pure (.type "method_descriptor"):=by show builtinType _=_;rw[XH];kernel_rfl
theorem vh:Xv (.builtin "list.__init__")=pure (.type "wrapper_descriptor"):=by show builtinType _=_;rw[XH];kernel_rfl
theorem yd:Xv (.builtin "list.__len__")=pure (.type "wrapper_descriptor"):=by show builtinType _=_;rw[XH];kernel_rfl
theorem im {M:Model} {s:Sw}{c:Sm}{a b:Sem α}{Q:α->Sw->Prop}(hc:c=dV)(h:Ss M A b Q E s):Ss M A (if c=Sk then a else b) Q E s:=by
 subst hc;exact h
theorem HY {a b:Sm}(h:a=dV)(g:b=dV):¬((a || b)=Sk):=by rw[h,g];exact UA
theorem yj:nZ "list.pop" "method_descriptor" "method_descriptor.__get__" "builtin_function_or_method":=by
 refine⟨Cc,vw,⟨_,rG,λprog w A E s x Cl P hi ht hP=>?_⟩,uH,.inl rfl⟩
 unfold Builtin.«method_descriptor.__get__»
 refine kV (TT (a:=(.builtin "list.pop",Si (.ref x),Si (.ref Cl))) (by first | rfl | kernel_rfl) ?_)
 dsimp only
 refine im (by decide +kernel) ?_
 refine kV ?_
 refine kV (TT (a:=(("pop":Str),Sr.type "list")) (by first | rfl | kernel_rfl) ?_)
 refine kV (hi.here ?_)
 refine im rfl ?_
 refine Sl ?_
 exact kV (TK (Sl hP))
theorem uX:nZ "list.__init__" "wrapper_descriptor" "wrapper_descriptor.__get__" "method-wrapper":=by
 refine⟨vh,mT,⟨_,kP,λprog w A E s x Cl P hi ht hP=>?_⟩,mW,.inr rfl⟩
 unfold Builtin.«wrapper_descriptor.__get__»
 refine kV (TT (a:=(.builtin "list.__init__",Si (.ref x),Si (.ref Cl))) (by first | rfl | kernel_rfl) ?_)
 dsimp only
 refine kV ?_
 refine kV (TT (a:=(("__init__":Str),Sr.type "list")) (by first | rfl | kernel_rfl) ?_)
 refine kV (hi.here ?_)
 refine im rfl ?_
 refine Sl ?_
 exact kV (TK (Sl hP))
theorem yb:nZ "list.__len__" "wrapper_descriptor" "wrapper_descriptor.__get__" "method-wrapper":=by
 refine⟨yd,mT,⟨_,kP,λprog w A E s x Cl P hi ht hP=>?_⟩,mW,.inr rfl⟩
 unfold Builtin.«wrapper_descriptor.__get__»
 refine kV (TT (a:=(.builtin "list.__len__",Si (.ref x),Si (.ref Cl))) (by first | rfl | kernel_rfl) ?_)
 dsimp only
 refine kV ?_
 refine kV (TT (a:=(("__len__":Str),Sr.type "list")) (by first | rfl | kernel_rfl) ?_)
 refine kV (hi.here ?_)
 refine im rfl ?_
 refine Sl ?_
 exact kV (TK (Sl hP))
section
variable {prog:Program}{w:World}{M:Model}{A:Around}{E:Value->Shared->Prop}{h:Heap}{g:Array GenState}{d:Drawn}{t:Nat}{os:OsState}
theorem IM {so x C:Sx}{id get:String}{l₀ l:Sj Sr}{K:Frag}{name:Str} {Q:Fin->Sw->Prop}(B:nZ id ty get bt)
  (hso:h.get? so=Si { cls:=.type "super",dict:=none,data:=.fields #[.ref D,.ref x,.ref C],slots:=#[] }) (hno:Looks (model prog w) h (opaqueClassAbove (.ref C)) none)
  (hC:Looks (model prog w) h (mroOf (.ref C)) l₀) (hl:(l₀.dropWhile (· != .ref D)).drop 1=l) (X:K.In h) (hi:Looks (model prog w) h (UN (.ref x) (.type "list")) Sk) (ht:Looks (model prog w) h (isType (.ref C)) Sk)
  (hf:aaj K name l=Si (Si (.builtin id))) (hxC:x≠C) (hn:(name == ("__class__":Str))=dV)
  (hq:Q (.done (.ret (.ref h.objs.size))) ⟨h.push { cls:=.type bt,data:=.fields #[.builtin id,.ref x] },g,d,t,os⟩) :
  Ss (model prog w) A (Builtin.«super.__getattribute__» ⟨[.ref so,.str name tk],[]⟩) Q E ⟨h,g,d,t,os⟩:=by
 have hlk:=B.slot.lookup
 have hne:(T9 x == T9 C)=dV:=by simp[hxC]
 have hdt:({ cls:=.type "super",dict:=none,data:=.fields #[.ref D,.ref x,.ref C],slots:=#[] }:Obj).data=.fields #[.ref D,.ref x,.ref C]:=rfl
 have f0:(#[.ref D,.ref x,.ref C]:Array Sr)[0]? = Si (.ref D):=rfl
 have f1:(#[.ref D,.ref x,.ref C]:Array Sr)[1]? = Si (.ref x):=rfl
 have f2:(#[.ref D,.ref x,.ref C]:Array Sr)[2]? = Si (.ref C):=rfl
 refine aE (B.entry) λBi hb run=>?_
 have hT:(⟨h,g,d,t,os⟩:Sw).TypeIs (.builtin id) ty:=B.hty
 unfold Builtin.«super.__getattribute__»
 repeat (first
  | (with_reducible refine TH hso hdt f0 ?_) | (with_reducible refine TH hso hdt f1 ?_) | (with_reducible refine TH hso hdt f2 ?_)
  | (with_reducible refine ks_wpAny_notOpaque hno ?_)
  | (with_reducible refine Looks.at hC ?_;rw[hl])
  | (refine ks_forIn_along X (λ_ _=>rfl) rfl ?_ hf)
  | (with_reducible refine TT B.hty ?_)
  | (with_reducible refine Uh B.slot hT hb ?_ (B.args _ _ _))
  | (with_reducible refine wE (SU (λv=>Bi ⟨[.builtin id,v,.ref C],[]⟩) (SK (ne_true_of_eq_false hne))) ?_)
  | (refine run _ _ _ _ _ _ _ _ hi ht ?_)
  | (with_reducible refine⟨_,rfl,?_⟩)
  | (with_reducible refine wN (HY rfl hn) ?_) | (with_reducible refine wN (HY hne rfl) ?_) | (with_reducible refine wN (HY rfl hne) ?_) | (with_reducible refine wN (ne_true_of_eq_false hne) ?_)
  | wp_step
  | dsimp only)
 all_goals exact hq
theorem nG {so x C:Sx}{id get:String}{l₀ l:Sj Sr}{K:Frag}{name:Str} {Q:Sr×Sj Sr->Sw->Prop}(B:nZ id ty get bt)
  (hso:h.get? so=Si { cls:=.type "super",dict:=none,data:=.fields #[.ref D,.ref x,.ref C],slots:=#[] }) (hno:Looks (model prog w) h (opaqueClassAbove (.ref C)) none)
  (hC:Looks (model prog w) h (mroOf (.ref C)) l₀) (hl:(l₀.dropWhile (· != .ref D)).drop 1=l) (X:K.In h) (hi:Looks (model prog w) h (UN (.ref x) (.type "list")) Sk) (ht:Looks (model prog w) h (isType (.ref C)) Sk)
  (hf:aaj K name l=Si (Si (.builtin id))) (hxC:x≠C) (hn:(name == ("__class__":Str))=dV)
  (hq:Q (.ref h.objs.size,[]) ⟨h.push { cls:=.type bt,data:=.fields #[.builtin id,.ref x] },g,d,t+1,os⟩) :
  Ss (model prog w) A (Wz (.ref so) name pl) Q E ⟨h,g,d,t,os⟩:=by
 have hlk:=Wp.lookup
 have hcan:=PySem.F.ks_canon_super_ga
 have hT:∀t',(⟨h,g,d,t',os⟩:Sw).TypeIs (.ref so) "super":=λ_=>⟨_,hso,rfl⟩
 unfold Wz
 refine kV (Vn (hT _) hlk ?_)
 show Ss _ _ (if (VH "super.__getattribute__" != "object.__getattribute__")=Sk then _ else _) _ _ _
 refine wP hcan ?_
 unfold PySem.getAttr getAttrBy
 refine kV (kV (YN (SR (kV (YQ (hT _) (kV (TT hlk ?_)))))))
 show Ss _ _ (VK (.ref so) (.str name t) (.type "super") (.builtin "super.__getattribute__") Sk dV) _ _ _
 unfold VK hookBefore Yx WI
 refine kV (TT (show(if onTheHeap (.type "super") then typeLookup (.type "super") "__getattr__" else pure none)=pure none from rfl) ?_)
 refine kV (Vu (SR ?_))
 show Ss _ _ (bindSpecial (.builtin "super.__getattribute__") (.ref so) >>= _) _ _ _
 refine kV (TT (Wp.bind _) ?_)
 refine Sq (Q:=λv s'=>v=.ref h.objs.size/\s'=⟨h.push { cls:=.type bt,data:=.fields #[.builtin id,.ref x] },g,d,t+1,os⟩) (E:=λ_ _=>False)
  (Uh Wp (hT _) PySem.F.ks_entry_super_ga (IM B hso hno hC hl X hi ht hf hxC hn ⟨_,rfl,rfl,rfl⟩) (PySem.F.ks_gaArgs_super _ _)) (λv s' hv=>?_) λ_ _ z=>z.elim
 obtain⟨rfl,rfl⟩:=hv
 exact Sl (Sl hq)
end
section
variable {prog:Program}{w:World}{M:Model}{A:Around}{E:Value->Shared->Prop}
theorem Cx {u:Sx}{id:String}{x:Sr} {s:Sw} (hk:bt="builtin_function_or_method" \/ bt="method-wrapper")
  (ho:s.heap.get? u=Si { cls:=.type bt,dict:=none,data:=.fields #[.builtin id,x],slots:=#[] }) (hq:(Code.builtin id ⟨[x],[]⟩).quiet=Sk)
  (h:Ss (model prog w) A.in1 (Vx id ⟨[x],[]⟩) (λ_ s'=>U4 (model prog w) A (.builtin id ⟨[x],[]⟩) (λr s'=>match r with | .ok (.ret v)=>Q v s' | .ok _=>False | .error e=>E e s') s') E s) :
  Ss (model prog w) A (Xr pos (.ref u) [] [] []) Q E s:=by
 have e1:(Sr.type bt != Sr.type "method")=Sk:=by rcases hk with rfl | rfl <;> decide
 have e2:(Sr.type bt == Sr.type "builtin_function_or_method" || Value.type bt == Sr.type "method-wrapper")=Sk:=by rcases hk with rfl | rfl <;> decide
 have e3:(Sr.type bt == Sr.type "method" || Value.type bt == Sr.type "builtin_function_or_method" || Value.type bt == Sr.type "method-wrapper")=Sk:=by rcases hk with rfl | rfl <;> decide
 unfold Xr
 refine kV (SR ?_)
 have ev:Ss (model prog w) A (evalArgs (.ref u) Sk [] []) (λa s'=>a=⟨[],[]⟩/\s'=s) E s:=by
  unfold evalArgs
  show Ss _ A (spliced [] >>= _) _ E s
  refine kV (Sl ?_)
  refine kV (Sl (SR ?_))
  exact kV (Sl (kV (Sl (Sl ⟨rfl,rfl⟩))))
 refine Sq ev ?_ λ_ _ z=>z
 rintro a s' ⟨rfl,rfl⟩
 refine kV (TF ?_)
 dsimp only
 refine kV (m:=keeperOf (.ref u)) ?_
 unfold keeperOf
 refine kV (Xd ho ?_)
 refine wP e1 (wE (SU pure (SX e2)) (Sl ?_))
 show Ss _ _ (call (.ref u) [] [] >>= _) _ _ _
 refine kV (UM (Xy ?_))
 show Ss _ _ (callAny (.ref u) _) _ _ _
 unfold callAny
 refine kV (Xd ho (wP e3 ?_))
 show Ss _ A.in1 (if (Sr.type bt != Sr.type "method")=Sk then (do Vx id ⟨[x],[]⟩;again (.builtin id ⟨[x],[]⟩)) else _) _ _ _
 refine wP e1 ?_
 refine kV (Sq h (λ_ s' z=>Sl ⟨hq,VG z λr s'' z=>?_⟩) λ_ _ z=>z)
 rcases r with e | (v | _ | _ | _) <;> first | exact z | exact z.elim | exact kV (SR (wpAny_point (Sl z)))
end
structure ow (C:Cfg):Prop where
 makes:jq C.K 244=Sk
 cell:∃o,C.K.lookup 168=Si o/\o.data=.cell (Si (.ref 244))
 opq:aaN C.K cStatics "thirdparty.any"=Si none
 cls:∃od cd sl,C.K.lookup 244=Si ⟨.type "type",od,.cls cd,sl⟩/\cd.qualname="_Accumulator" /\ cd.mro=[.ref 244,.type "list",.type "object"]
 nomod:mroIn C.K 244 (.type "module")=Si dV
 pop:aaj C.K "pop" [.type "list",.type "object"]=Si (Si (.builtin "list.pop"))
 ini:aaj C.K "__init__" [.type "list",.type "object"]=Si (Si (.builtin "list.__init__"))
 len:aaj C.K "__len__" [.type "list",.type "object"]=Si (Si (.builtin "list.__len__"))
 sup:GB C "super" (.type "super")
 top:(C.prog.main.scope.names.lookup ("super":Str)).isSome=dV
structure kF (C:Cfg)(fa:Sx)(fd:XX):Prop where
 obj:∃o,C.K.lookup fa=Si o/\o.data=.func fd
 par:∃ar,(fd.params.posonlyargs++fd.params.args).head? = Si ar/\ar.arg=("self":Str)
 code:∃cda oc vs file tf,fd.code=.ref cda/\C.K.lookup cda=Si oc/\oc.data=.fields vs/\vs[2]? = Si (.str file tf)/\((C.prog.main.file:Str) == file)=Sk
structure io (fx:Fx)(env:Env)(fa:Sx)(fd:XX):Prop where
 func:env.func=Si fa
 code:env.code=fd.code
 cell:env.cells.lookup ("__class__":Str)=Si 168
 free:env.kindOf ("__class__":Str)=Si .free
 sup:("super":Str)∈fx.gn
 self:fx.ln[0]? = Si ("self":Str)
section
variable {C:Cfg}{fx:Fx}{d:Nat}{A:Around}{env:Env}{σ σ1:List Addr}{fm:Fm}{st:St}{s aaV:Shared}
theorem D0 (F:FrR C fx env fm σ s)(hs:fx.ln[0]? = Si ("self":Str)) (v0:fm.loc[0]? = Si (Si (.ref n)))(ha:σ[n]? = Si a):∃m,s.heap.Ns env.locals m/\m "self"=Si (.ref a):=by
 refine aE (F.ns) λm hn hv=>?_
 refine aE (hv 0 _ _ hs v0) λu hu r=>?_
 revert hu
 exact VR.ref_e r λb e hu=>⟨m,hn,by rw[Si.inj (ha.symm.trans e)];exact hu⟩
theorem mX {x Cl:Sx} (I:Us h x ox Cl od)(k:∀b o,h.get? b=Si o->h'.get? b=Si o):Us h' x ox Cl od:=by
 obtain⟨h1,h2,h3,h4⟩:=I
 refine⟨k _ _ h1,h2,h3,?_⟩
 revert h4
 split <;> intro h4 <;> first | exact k _ _ h4 | exact h4
theorem pV {M:Model} {oD:Obj} (hD:h.get? D=Si oD)(hd:oD.data=.cls cd):Looks M h (isType (.ref D)) Sk:=by
 intro A Q E s k q
 obtain⟨hh,g,dr,tk,os⟩:=s
 exact ks_wpAny_isType_cls (k _ _ hD) hd q
theorem yI (Ok:C.Ok) {v:Sr} (g:GB C x v)(E:ba fx env)(I:Inv C σ st s)(h:Q v s):Ss C.M A (XS env x) Q Ex s:=by
 unfold XS
 rw[E.glob,E.blt]
 rcases g with g | ⟨g,hn,hb⟩
 ·exact kV ((Xe (I.X Ok) g).here (Sl h))
 ·refine kV ((Xe (I.X Ok) g).here ?_)
  have nb:s.heap.Ns Ua C.mb:=Ok.T.b.keeps I.base
  refine kV (wpAny_nsGet nb ?_)
  rw[Ok.T.builtins x hn,hb]
  exact Sl h
theorem mS (Ok:C.Ok)(S:ow C) (Fn:kF C fa fd)(Ve:io fx env fa fd)(hok:fx.ok=Sk){id get:String}{name:Str}(B:nZ id ty get bt)(hf:aaj C.K name [.type "list",.type "object"]=Si (Si (.builtin id)))(hn:(name == ("__class__":Str))=dV)
  {body:Sj Stmt} {p1:Pos} (En:ba fx env) (I:Inv C σ st s) (F:FrR C fx env fm σ s)
  (v0:fm.loc[0]? = Si (Si (.ref n))) (ha:σ[n]? = Si a) (IA:Us s.heap a ox 244 od) (hdata:∃items k,ox.data=.seq items k) (hq:(Code.builtin id ⟨[.ref a],[]⟩).quiet=Sk)
  (h:∀h' t',(∀b o,s.heap.get? b=Si o->h'.get? b=Si o)->Ss C.M A.in1 (Vx id ⟨[.ref a],[]⟩) (λ_ s'=>U4 C.M A (.builtin id ⟨[.ref a],[]⟩) (λr s''=>match r with | .ok (.ret v)=>Q v s'' | .ok _=>False | .error e=>E e s'') s') E { s with heap:=h',toks:=t' })
  (he:eval (.Call (.Attribute (.Call (.Name "super" p0) [] [] p1) name apos) [] [] pos) env=(do
   let ov ←attributeBase (.Call (.Name "super" p0) [] [] p1) name env (eval (.Call (.Name "super" p0) [] [] p1) env)
   UG apos.atName
   let (f,first) ←holding [ov] (Wz ov name pl)
   Xr pos f first (W9 pos (T4 [] env)) [])) :
  WY C.M A (.func body env) (eval (.Call (.Attribute (.Call (.Name "super" p0) [] [] p1) name apos) [] [] pos) env) Q E s:=by
 have X:=I.X Ok
 refine aE (Fn.obj) λof hof hfd=>?_
 refine aE (Fn.par) λar har hself=>?_
 refine Qh (Fn.code) λcda oc vs file tf hcode hoc hvs hv2 hfile=>?_
 refine aE (S.cell) λocell hcell hcd=>?_
 refine Aj (S.cls) λodc cd sl hcls hqual hmro=>?_
 have Y:pT C.M s.heap 244:=oq X S.makes
 refine ks_wpAt_MethodCall (pl:=pl) ?_ he
 refine ks_wpAt_super_base (f:=fa) (env:=env) (En.gn _ Ve.sup) Ve.free hn Ve.func (X _ _ hof) hfd har (Ve.code.trans hcode) (X _ _ hoc) hvs hv2 hfile S.top ?_
 refine ks_loadName_global En.kind (En.gn _ Ve.sup) (yI Ok S.sup En I ?_)
 refine⟨rfl,wpAny_loadName_free En.kind Ve.free Ve.cell ⟨_,X _ _ hcell,hcd⟩ ?_⟩
 refine aE (D0 F Ve.self v0 ha) λm hns hm=>?_
 rw[hself]
 refine T8 En.kind (En.ln _ (Su Ve.self)) hns hm ?_
 obtain⟨hh,g,dr,tk,os⟩:=s
 refine ks_wpAny_isType_cls (X _ _ hcls) rfl ⟨rfl,?_⟩
 have hnc:∀c,ox.data≠.cls c:=by refine vD hdata λi k e=>?_;rw[e];intro c z;cases z
 refine ks_wpAny_call_super (X _ _ hcls) rfl IA.at_ IA.cls hnc Y.self λh1 e1 k1=>?_
 have X1:C.K.In h1:=X.keeps k1
 have IA1:Us h1 a ox 244 od:=mX IA k1
 have T1:Looks C.M h1 (UN (.ref a) (.type "list")) Sk:=IA1.type.andThen (Y.top.keeps k1)
 have ht:Looks C.M h1 (isType (.ref 244)) Sk:=pV (X1 _ _ hcls) rfl
 have hmr:Looks C.M h1 (mroOf (.ref 244)) [.ref 244,.type "list",.type "object"]:=by
  intro A Q E s k q
  refine kV ((Zg X1 (show aaF C.K 244=Si cd from by unfold aaF;rw[hcls])) A _ E s k (Sl ?_))
  rw[hmro];exact q
 have hne:a≠244:=by
  rintro rfl
  have:=IA.at_
  rw[X _ _ hcls] at this
  cases this
  exact hnc cd rfl
 refine nG B e1 (looks_opaque X1 S.opq) hmr rfl X1 T1 ht hf hne hn ?_
 have e2:(h1.push { cls:=.type bt,data:=.fields #[.builtin id,.ref a] }).get? h1.objs.size=Si { cls:=.type bt,dict:=none,data:=.fields #[.builtin id,.ref a],slots:=#[] }:=Heap.get?_push_size _ rfl
 exact Cx B.keep e2 hq (h _ _ λb o e=>Heap.get?_push_of_some _ (k1 b o e))
end
section
variable {prog:Program}{w:World}{A:Around}{E:Value->Shared->Prop}{s:Shared}{R:Result->Shared->Prop}
noncomputable abbrev kC (dx:Sx)(items:Array Sr)(n:Nat):Obj:={ cls:=.ref 244,dict:=Si dx,data:=.seq items n,slots:=#[] }
theorem Eg {y:Sr}(hl:s.heap.get? a=Si (kC dx items n))(hy:items[items.size - 1]? = Si y)(hs1:items.size<=U0)
  (h:R (.ok (.ret y)) { s with heap:=s.heap.update a (S9 λxs=>xs.eraseIdxIfInBounds (items.size - 1)) }):U4 (model prog w) A (.builtin "list.pop" ⟨[.ref a],[]⟩) R s:=by
 obtain⟨hp,g,d,tk,os⟩:=s
 have hpos:0<items.size:=by
  rcases Nat.eq_zero_or_pos items.size with h0 | h0
  ·simp[h0] at hy
  ·exact h0
 have hne:¬items.isEmpty=Sk:=by
  intro he;have:items.size=0:=by simpa using he
  lia
 have hk:Wb (-1) items.size=Si (items.size - 1):=by
  rw[seqIndex_neg (by lia) (by lia)];congr 1;lia
 refine US PySem.F.entry_list_pop ?_
 unfold Builtin.«list.pop»
 wp_walk using Xz hl
 simp only[hk,hy,Vf,Uz]
 have hz':(items.eraseIdxIfInBounds (items.size - 1)).size<=U0+1:=So (MeetsSeq.size_erased items _) (Vt hs1)
 wp_walk using (U6 hl rfl (hz:=hs1) (_hz':=hz')),Xz hl
 exact h
theorem Df (hl:s.heap.get? a=Si (kC dx items n))
  (h:R (.ok (.ret (.int (items.size:Int) s.toks))) { s with toks:=s.toks+1 }):U4 (model prog w) A (.builtin "list.__len__" ⟨[.ref a],[]⟩) R s:=by
 obtain⟨hp,g,d,tk,os⟩:=s
 refine US PySem.F.entry_list_len ?_
 unfold Builtin.«list.__len__»
 wp_walk using Xz hl
 exact h
theorem BV (hl:s.heap.get? a=Si (kC dx items n))(hs1:items.size<=U0)
  (h:R (.ok (.ret .none)) { s with heap:=s.heap.update a (S9 λ_=>#[]) }):U4 (model prog w) A (.builtin "list.__init__" ⟨[.ref a],[]⟩) R s:=by
 obtain⟨hp,g,d,tk,os⟩:=s
 refine US PySem.F.entry_list_init ?_
 unfold Builtin.«list.__init__»
 wp_walk using (U6 hl rfl (hz:=hs1) (_hz':=by simp)),Xz hl
 exact h
theorem mq {id:String}{x:Sr}{Q:Unit->Sw->Prop}(hk:Vd id=Si .slot)(hc:Ww id ⟨[x],[]⟩)(h:Q () s):Ss (model prog w) A (Vx id ⟨[x],[]⟩) Q E s:=by
 unfold Vx
 unfold Ww at hc
 cases hs:Wg id with
 | none=>exact Sl h
 | some sig=>
  rw[hs] at hc
  have hc:XR id sig ⟨[x],[]⟩=pure ():=hc
  rw[hk]
  refine wP rfl ?_
  exact wE hc (Sl h)
theorem yL {odc:SV Sx} {sl:Array (SV Sr)}{Q:Unit->Sw->Prop}(I:Us s.heap a ox 244 od)(hnc:∀c,ox.data≠.cls c)(hcls:s.heap.get? 244=Si ⟨.type "type",odc,.cls cd,sl⟩)(hqual:cd.qualname="_Accumulator")
  (hmod:Looks (model prog w) s.heap (aar (.ref 244) (.type "module")) dV) (h:Q () s):Ss (model prog w) A (Vx "list.pop" ⟨[.ref a],[]⟩) Q E s:=by
 obtain⟨hh,g,dr,tk,os⟩:=s
 have hr:Wg "list.pop"=Si ⟨.positional,"list.pop","pop",.self,[⟨"index",.posOnly,dV⟩]⟩:=by kernel_rfl
 have hk:Vd "list.pop"=Si .method:=by decide +kernel
 have hm:Looks (model prog w) hh (UN (.ref a) (.type "module")) dV:=I.type.andThen hmod
 unfold Vx
 dsimp only[hr,hk]
 show Ss _ _ (if (dV=Sk) then _ else _) _ _ _
 rw[SK (by decide)]
 refine kV (hm.at ?_)
 refine im (by decide +kernel) ?_
 refine kV (ks_wpAny_isType_inst I.at_ hnc ?_)
 show Ss _ _ (Xv (.ref a) >>= _) _ _ _
 refine kV (I.type.at ?_)
 dsimp only
 unfold classData
 refine kV (kV (Xd hcls (Sl ?_)))
 refine kV ((Looks.andThen (Looks.ld hcls) .now:Looks (model prog w) hh (Xv (.ref 244)) (.type "type")).at ?_)
 rw[SX (by decide)]
 rw[hqual]
 exact TT (a:=()) (by kernel_rfl) h
end
section
variable {C:Cfg}{fx:Fx}{d:Nat}{A:Around}{env:Env}{σ σ1:List Addr}{fm:Fm}{st:St}{s aaV:Shared}{fa:Addr}{fd:FuncData}
def IZ (C:Cfg)(fx:Fx)(EP:Env->Prop)(d:Nat)(body:Sj Stmt)(e:Expr)(c:CE):Prop:=
 ∀(A:Ue) (env:Env) (σ:Sj Sx) (fm:Fm) (st:St) (s:Sw) (k:V->St->Sm),Rm d A->ba fx env->EP env->Inv C σ st s->FrR C fx env fm σ s->c fm st k=Sk ->
  WY C.M A (.func body env) (eval e env) (Out C [] σ s k) cM s
def NP (C:Cfg)(fx:Fx)(EP:Env->Prop)(d:Nat)(body:Sj Stmt)(x:Stmt)(c:CS):Prop:=
 ∀(A:Ue) (env:Env) (σ:Sj Sx) (fm:Fm) (st:St) (s:Sw) (k:Fl->Fm->St->Sm),Rm d A->ba fx env->EP env->Inv C σ st s->FrR C fx env fm σ s->c fm st k=Sk ->
  WY C.M A (.func body env) (exec x env) (OutS C fx env σ s k) cM s
def vf (C:Cfg)(fx:Fx)(EP:Env->Prop)(d:Nat)(body:Sj Stmt)(x:Sj Stmt)(c:CS):Prop:=
 ∀(A:Ue) (env:Env) (σ:Sj Sx) (fm:Fm) (st:St) (s:Sw) (k:Fl->Fm->St->Sm),Rm d A->ba fx env->EP env->Inv C σ st s->FrR C fx env fm σ s->c fm st k=Sk ->
  WY C.M A (.func body env) (execs x env) (OutS C fx env σ s k) cM s
section
variable {EP:Env->Prop}{body:List Stmt}
theorem jY {x:Stmt}{c:CS}(h:SS C fx d x c):NP C fx EP d body x c:=λA env σ fm st s k R E _ I F q=>Xm (h A env σ fm st s k R E I F q)
theorem bH {x:Sj Stmt}{c:CS}(h:SL C fx d x c):vf C fx EP d body x c:=λA env σ fm st s k R E _ I F q=>Xm (h A env σ fm st s k R E I F q)
theorem cY {x:Stmt}{xs:Sj Stmt}{cx cxs:CS}(hx:NP C fx EP d body x cx)(hs:vf C fx EP d body xs cxs):vf C fx EP d body (x::xs) (aq cx cxs):=by
 intro A env σ fm st s k R E Ve I F h
 refine ks_wpAt_execs_cons (WZ (hx A env σ fm st s _ R E Ve I F h) ?_ λ_ _ e=>e)
 rintro f s' ⟨σ',fl,fm',st',S,I',F',r,h'⟩
 induction fl with
 | nxt=>
  induction f <;> first | exact r.elim | skip
  exact WZ (hs A env σ' fm' st' s' k R E Ve I' F' h') (λ_ _ o=>o.trans S) λ_ _ e=>e
 | brk=>induction f <;> first | exact r.elim | exact⟨σ',.brk,fm',st',S,I',F',r,h'⟩
 | cnt=>induction f <;> first | exact r.elim | exact⟨σ',.cnt,fm',st',S,I',F',r,h'⟩
 | ret v=>induction f <;> first | exact r.elim | exact⟨σ',.ret v,fm',st',S,I',F',r,h'⟩
theorem lq {e:Expr}{c:CE} (he:IZ C fx EP d body e c):NP C fx EP d body (.Return (Si e) pos) (dq c):=by
 intro A env σ fm st s k R E Ve I F h
 refine ks_wpAt_Return_some (WZ (he A env σ fm st s (λv st=>k (.ret v) fm st) R E Ve I F h) ?_ λ_ _ e=>e)
 rintro u s' ⟨σ1,x,st1,aaZ,aa1,aa4,aaX⟩
 exact⟨σ1,.ret x,fm,st1,aaZ.up,aa1,aaZ.fr0 F,aa4,aaX⟩
theorem Bf {e:Expr}{c:CE} (hs:∀env,VO e none pos.line env=pure dV)(he:IZ C fx EP d body e c):NP C fx EP d body (.Expr e pos) (dI c):=by
 intro A env σ fm st s k R E Ve I F h
 refine ks_wpAt_Expr_any (WZ (he A env σ fm st s _ R E Ve I F h) ?_ λ_ _ e=>e) (by unfold interactive;rw[E.kind];rfl) (hs env)
 rintro u s' ⟨σ1,x,st1,aaZ,aa1,aa4,aaX⟩
 cases aa4 with
 | none=>exact⟨σ1,.nxt,fm,st1,aaZ.up,aa1,aaZ.fr0 F,trivial,aaX⟩
 | _=>exact ff aaX
end
theorem Ez {k:Nat->Nat->Nat->Sj (Nat×V)->Sj V->Sm}(h:fi v st k=Sk):∃n c d fs l,v=.ref n/\st.look n=Si (.lsub c d fs l)/\k n c d fs l=Sk:=by
 refine bN h λn e81 h1=>?_;clear h;subst e81
 refine St.get_e h1 λo ho h2=>?_;clear h1
 refine xh h2 λc d fs l e81 h3=>?_;clear h2;subst e81
 exact⟨n,c,d,fs,l,rfl,ho,h3⟩
theorem iy {P:Prop} {k:Nat->Nat->Nat->Sj (Nat×V)->Sj V->Sm}(h:fi v st k=Sk)(H:∀n c d fs l,v=.ref n->st.look n=Si (.lsub c d fs l)->k n c d fs l=Sk->P):P:=by
 refine QY (Ez h) λn c d fs l e a q=>?_
 exact H n c d fs l e a q
theorem mR {k:V->Sm}(h:fO dV 0 fm st k=Sk):∃v,fm.loc[0]? = Si (Si v)/\k v=Sk:=by
 refine gJ (show getL fm.loc 0 (λo=>cU o k) dV=Sk from h) λo h1 h2=>?_
 refine gz h2 λv e81 h3=>?_;clear h2;subst e81
 exact⟨v,h1,h3⟩
inductive Qo (σ:Sj Sx)(h:Heap)(n c d:Nat)(fs:Sj (Nat×V))(l:Sj V):Prop
 | mk (a dx:Sx) (es:Sj UW) (m:Nat) (vs:Sj Sr) (m':Nat) (hc:c=2) (e:σ[n]? = Si a) (ed:σ[d]? = Si dx) (g:h.get? a=Si (kC dx vs.toArray m')) (gd:h.get? dx=Si (VQ es m)) (r:ER σ h fs es) (rs:VRs σ h l vs) (I:Us h a (kC dx vs.toArray m') 244 (Si (VQ es m)))
theorem Inv.lsub (I:Inv C σ st s) (ho:st.look n=Si (.lsub c d fs l)) :
  Qo σ s.heap n c d fs l:=by
 obtain⟨a,ha,hc,dx,es,m,vs,m',hdx,hox,hD,er,hvs⟩:=I.at_ n _ ho
 subst hc
 exact⟨a,dx,es,m,vs,m',rfl,ha,hdx,hox,hD,er,hvs,hox,rfl,rfl,hD⟩
def pC (p0 p1:Pos)(name:Str)(apos pos:Pos):Prop:=∃pl:Env->Sem Sm,∀env,eval (.Call (.Attribute (.Call (.Name "super" p0) [] [] p1) name apos) [] [] pos) env=(do
   let ov ←attributeBase (.Call (.Name "super" p0) [] [] p1) name env (eval (.Call (.Name "super" p0) [] [] p1) env)
   UG apos.atName
   let (f,first) ←holding [ov] (Wz ov name (pl env))
   Xr pos f first (W9 pos (T4 [] env)) [])
theorem Ba (Ok:C.Ok)(S:ow C)(Fn:kF C fa fd)(hok:fx.ok=Sk){body:Sj Stmt}{p1:Pos}(hform:pC p0 p1 "__init__" apos pos):IZ C fx (λenv=>io fx env fa fd) d body (.Call (.Attribute (.Call (.Name "super" p0) [] [] p1) "__init__" apos) [] [] pos) F4:=by
 intro A env σ fm st s k R E Ve I F h
 refine aE (mR h) λv v0 h1=>?_
 refine iy h1 λn c d' fs l e81 ho h2=>?_;clear h1;subst e81
 obtain⟨a,dx,es,m,vs,m',rfl,ha,hdx,hox,hD,er,hvs,IA⟩:=I.lsub ho
 refine bG hform λpl he=>?_
 refine mS (pl:=pl env) Ok S Fn Ve hok uX S.ini (by decide) E I F v0 ha IA ⟨_,_,rfl⟩ (by kernel_rfl) (λh' t' hk=>?_) (he env)
 refine tB h2 λe81 h2=>?_;subst e81
 refine St.set_e h2 λst' e1 e2 e81 h3=>?_;clear h2;refine dE e81 λe3 _=>?_
 have I':Inv C σ st { s with heap:=h',toks:=t' }:=I.grow hk
 have S':Step [] σ s σ { s with heap:=h',toks:=t' }:=Step.all hk
 have hox':h'.get? a=Si (kC dx vs.toArray m'):=hk _ _ hox
 have ma:a∈σ:=Su ha
 cases hvs
 refine mq (by decide +kernel) (PySem.F.args_list_init_1 _) (BV (s:={ s with heap:=h',toks:=t' }) hox' (Th _) ?_)
 refine⟨σ,.none,st',S'.trans (Step.wrote (t:=t') ma),I'.putSub (t:=t') ho ha hox' e1 e2 e3 ?_,.none,h3⟩
 simpa using VRs.nil
theorem Dj (Ok:C.Ok)(S:ow C)(Fn:kF C fa fd)(hok:fx.ok=Sk){body:Sj Stmt}{p1:Pos}(hform:pC p0 p1 "__len__" apos pos):IZ C fx (λenv=>io fx env fa fd) d body (.Call (.Attribute (.Call (.Name "super" p0) [] [] p1) "__len__" apos) [] [] pos) FW:=by
 intro A env σ fm st s k R E Ve I F h
 refine aE (mR h) λv v0 h1=>?_
 refine iy h1 λn c d' fs l e81 ho h2=>?_;clear h1;subst e81
 obtain⟨a,dx,es,m,vs,m',rfl,ha,hdx,hox,hD,er,hvs,IA⟩:=I.lsub ho
 refine bG hform λpl he=>?_
 refine mS (pl:=pl env) Ok S Fn Ve hok yb S.len (by decide) E I F v0 ha IA ⟨_,_,rfl⟩ (by kernel_rfl) (λh' t' hk=>?_) (he env)
 have I':Inv C σ st { s with heap:=h',toks:=t' }:=I.grow hk
 have S':Step [] σ s σ { s with heap:=h',toks:=t' }:=Step.all hk
 have hox':h'.get? a=Si (kC dx vs.toArray m'):=hk _ _ hox
 refine aM h2 λ_ h3=>?_;clear h2
 rw[aC] at h3
 refine mq (by decide +kernel) (PySem.args_list_len _) (Df (s:={ s with heap:=h',toks:=t' }) hox' ?_)
 rw[Sy,hvs.length]
 exact(cQ (s:={ s with heap:=h',toks:=t' }) I' _ (.int _ _) h3).trans S'
theorem DO (Ok:C.Ok)(S:ow C)(Fn:kF C fa fd)(hok:fx.ok=Sk){body:Sj Stmt}{p1:Pos}(hform:pC p0 p1 "pop" apos pos):IZ C fx (λenv=>io fx env fa fd) d body (.Call (.Attribute (.Call (.Name "super" p0) [] [] p1) "pop" apos) [] [] pos) Ff:=by
 intro A env σ fm st s k R E Ve I F h
 refine aE (mR h) λv v0 h1=>?_
 refine iy h1 λn c d' fs l e81 ho h2=>?_;clear h1;subst e81
 obtain⟨a,dx,es,m,vs,m',rfl,ha,hdx,hox,hD,er,hvs,IA⟩:=I.lsub ho
 refine bG hform λpl he=>?_
 refine Aj (S.cls) λodc cd sl hcls hqual hmro=>?_
 refine mS (pl:=pl env) Ok S Fn Ve hok yj S.pop (by decide) E I F v0 ha IA ⟨_,_,rfl⟩ (by kernel_rfl) (λh' t' hk=>?_) (he env)
 refine mQ h2 λx r e81 h3=>?_;clear h2;subst e81
 refine aM h3 λhl h4=>?_;clear h3
 have hl:=bU hl
 rw[aC] at hl
 refine St.set_e h4 λst' e1 e2 e81 h5=>?_;clear h4;refine dE e81 λe3 _=>?_
 have I':Inv C σ st { s with heap:=h',toks:=t' }:=I.grow hk
 have S':Step [] σ s σ { s with heap:=h',toks:=t' }:=Step.all hk
 have X':C.K.In h':=I'.X Ok
 have hox':h'.get? a=Si (kC dx vs.toArray m'):=hk _ _ hox
 have ma:a∈σ:=Su ha
 have hlen:vs.length=(x::r).length:=hvs.length
 have hz:vs.length - 1<vs.length:=by rw[hlen];simp
 refine yL (s:={ s with heap:=h',toks:=t' }) (mX IA hk) (λc=>by intro z;cases z) (X' _ _ hcls) hqual (Vr X' S.nomod) (Eg (s:={ s with heap:=h',toks:=t' }) (y:=vs[vs.length - 1]) hox' (by simp[Sz hz]) (by rw[Sy,hlen];exact So hl (bo rfl)) ?_)
 refine⟨σ,nQ r x,st',S'.trans (Step.wrote (t:=t') ma),I'.putSub (t:=t') ho ha hox' e1 e2 e3 ?_,?_,h5⟩
 ·rw[B3]
  have e:((vs.toArray).eraseIdxIfInBounds (vs.toArray.size - 1)).toList=vs.dropLast:=by
   rw[Array.eraseIdxIfInBounds,dif_pos (by rw[Sy];exact hz)]
   simp
  rw[e,Y6,Y6]
  have q:=hvs.take ((x::r).length - 1)
  rw[show vs.length - 1=(x::r).length - 1 by rw[hlen]]
  exact S'.vrs .nil q
 ·rw[A6,Sj.getLast_eq_getElem]
  refine aE (hvs.get (i:=(x::r).length - 1) (Sz (by simp))) λu hu ru=>?_
  have:u=vs[vs.length - 1]:=by
   rw[←hlen,Sz hz] at hu
   exact(Si.inj hu).symm
  subst this
  exact gf ma (S'.vr .nil ru)
end
section
variable {C:Cfg}{fx:Fx}{d:Nat}{A:Around}{env:Env}{σ σ1:List Addr}{fm:Fm}{st:St}{s aaV:Shared}
inductive TabCode (K:Frag)(c T:Sx):Prop
 | mk (o:Obj) (vs:Array Sr) (file:Str) (tf:Tok) (flags:Int) (tg:Tok) (wd:Sm) (text:Int) (tt:Tok) (h1:K.lookup c=Si o) (h2:o.data=.fields vs) (h3:vs.getD 11 .none=.ref T) (h4:vs.getD 18 .none=.str file tf)
  (h5:vs.getD 7 .none=.int flags tg) (h6:vs.getD 9 .none=.bool wd) (h7:vs.getD 10 .none=.int text tt) (h8:o.cls=.type "code") (h9:vs[11]? = Si (.ref T))
structure jm (C:Cfg)(t:lX):Prop where
 mem:t∈C.tabs
 one:∀t'∈C.tabs,t'.tab=t.tab->t'=t
 code:TabCode C.K t.code t.tab
theorem TabCode.isCode {K:Frag}{c T:Sx}(x:TabCode K c T) (X:K.In h){op:Obj}{ps:Array Sr}(g:h.get? T=Si op)(hd:op.data=.fields ps)(tr:Ys ps.toList)(ne:c≠T):h.IsCode c T ps:=by
 induction x with
 | mk o vs file tf flags tg wd text tt h1 h2 h3 h4 h5 h6 h7 _ _=>exact⟨o,vs,file,tf,flags,tg,wd,text,tt,op,X _ _ h1,h2,h3,h4,h5,h6,h7,g,hd,tr,ne⟩
theorem TabCode.head {K:Frag}{c T:Sx}(x:TabCode K c T):∃o vs,K.lookup c=Si o/\o.cls=.type "code" /\ o.data=.fields vs/\vs[11]? = Si (.ref T):=by
 induction x with
 | mk o vs _ _ _ _ _ _ _ h1 h2 _ _ _ _ _ h8 h9=>exact⟨o,vs,h1,h8,h2,h9⟩
theorem isCode (Ok:C.Ok)(I:Inv C σ st s){t:lX}(k:jm C t):∃j ps,σ[j]? = Si t.tab/\Safe st j/\s.heap.IsCode t.code t.tab ps/\s.heap.TableAt t.code t.tab ps/\(t.lam=Sk->∀cv,W8 t.pos ps.toList=Si cv->∃j c,cv=.ref c/\σ[j]? = Si c/\Safe st j/\(∀P∈C.tabs.map (·.tab),P≠c)/\s.heap.CodeRec cv t.q)/\Ys ps.toList:=by
 obtain⟨j,hj,sj,ps,g,tr,cv⟩:=I.tabs t k.mem
 refine J6 k.code.head λo vs h1 h8 h2 h9=>?_
 refine⟨j,ps,hj,sj,k.code.isCode (I.X Ok) g rfl tr λq=>?_,⟨⟨o,vs,I.X Ok _ _ h1,h8,h2,h9⟩,g⟩,cv,tr⟩
 have e:=Ok.X _ _ h1
 rw[q,(I.new _ (Su hj)).1] at e
 exact iq e
theorem Inv.tabCore (I:Inv C σ st s){t:lX}(m:t∈C.tabs) {tk:Nat}(hk:∀b o,b≠t.tab->s.heap.get? b=Si o->h'.get? b=Si o)(hs:(h'.get? t.tab).isSome=Sk):Inv { C with tabs:=[] } σ st { s with heap:=h',toks:=tk }:=by
 obtain⟨j,hj,sj,-⟩:=I.tabs t m
 have mt:t.tab∈σ:=Su hj
 have apart:∀{i:Nat} {b:Sx},i≠j->σ[i]? = Si b->b≠t.tab:=λhi hb q=>hi (I.inj hb (q▸hj))
 refine⟨λb x e=>hk b x (λq=>by have e:C.aa8.get? b=Si x:=e;rw[q,(I.new _ mt).1] at e;exact iq e) (I.base b x e),I.nodup,λa m=>⟨(I.new a m).1,?_⟩,I.n,λi x e=>?_,I.dict,I.apart,λ_ m=>(nomatch m),λi a o m=>?_⟩
 ·by_cases q:a=t.tab
  ·exact q▸hs
  ·refine bG (S7.mp (I.new a m).2) λo e=>?_
   exact S7.mpr ⟨o,hk _ _ q e⟩
 ·obtain⟨a,ha,r⟩:=I.at_ i x e
  refine⟨a,ha,?_⟩
  by_cases hi:i=j
  ·subst hi
   cases sj.1.symm.trans e
   trivial
  ·exact r.mono (λ_ _ e=>e) (λb vs n m e=>⟨m,hk b _ (λq=>m (q▸mt)) e⟩) (λy g=>hk a y (apart hi ha) g) λd dx hd hdx y g=>hk dx y (apart (sj.dict e hd) hdx) g
 ·obtain⟨q1,q2,q3,l,q4⟩:=I.fix i a o m
  refine⟨q1,q2,hk a o (λz=>?_) q3,l,q4⟩
  cases I.inj q2 (z▸hj)
  exact nomatch sj.1.symm.trans q4
theorem Inv.tabWrite (I:Inv C σ st s){t:lX}(k:jm C t) {tk:Nat}{ps:Array Sr}(hk:∀b o,b≠t.tab->s.heap.get? b=Si o->h'.get? b=Si o)(hg:h'.get? t.tab=Si { cls:=.none,data:=.fields ps })(htr:Ys ps.toList)
  (hl:t.lam=Sk->∀cv,W8 t.pos ps.toList=Si cv->∃j c,cv=.ref c/\σ[j]? = Si c/\Safe st j/\(∀P∈C.tabs.map (·.tab),P≠c)/\h'.CodeRec cv t.q) :
  Inv C σ st { s with heap:=h',toks:=tk }:=by
 obtain⟨j,hj,sj,-⟩:=I.tabs t k.mem
 have J:=I.tabCore (tk:=tk) k.mem hk (hg▸rfl)
 refine⟨J.base,J.nodup,J.new,J.n,J.at_,J.dict,J.apart,λt' m'=>?_,J.fix⟩
 by_cases q:t'.tab=t.tab
 ·rw[k.one t' m' q]
  exact⟨j,hj,sj,ps,hg,htr,hl⟩
 ·obtain⟨j',hj',sj',ps',g,tr,cv⟩:=I.tabs t' m'
  refine⟨j',hj',sj',ps',hk _ _ q g,tr,λhlam v hv=>?_⟩
  obtain⟨i,c,rfl,hi,si,hp,c',o',vs',u,e,g',r⟩:=cv hlam v hv
  cases e
  exact⟨i,c,rfl,hi,si,hp,c,o',vs',u,rfl,hk c _ (λz=>hp _ (UQ k.mem) z.symm) g',r⟩
theorem nB (Ok:C.Ok)(I:Inv C σ st s){t:lX}(k:jm C t)(hl:t.lam=dV)(hcode:env.code=.ref t.code) {q:Str} 
  (h:∀code h' tk,(∀b o,b≠t.tab->s.heap.get? b=Si o->h'.get? b=Si o)->Inv C σ st { s with heap:=h',toks:=tk }->Q code { s with heap:=h',toks:=tk }):Ss C.M A (genexprCode env pos q scope) Q E s:=by
 refine pk (isCode Ok I k) λj ps hj sj hic hta _ _=>?_
 cases hf:W8 pos ps.toList with
 | none=>
  refine wpAny_genexprCodeX hcode hic hta hf λc' h' tk hext _ _ hic' _ hta' _=>h _ _ _ hext (I.tabWrite k hext hta'.2 ?_ (λz=>by rw[hl] at z;exact ff z))
  obtain⟨o,vs,file,tf,flags,tg,wd,text,tt,op,q1,q2,q3,q4,q5,q6,q7,q8,q9,q10,q11⟩:=hic'
  exact q10
 | some cv=>
  obtain⟨o,vs,file,tf,flags,tg,wd,text,tt,op,ho,hd,h11,h2,h7,h9,h10,hop,hpd,htr,hne⟩:=id hic
  unfold genexprCode codeAt
  rw[hcode,SK (show ¬((T9 t.code == XY)=Sk) from VD)]
  refine kV (wpAny_fieldsOf ho hd ?_)
  rw[h11]
  refine kV (wpAny_fieldsOf hop hpd ?_)
  rw[hf]
  exact Sl (h cv s.heap s.toks (λ_ _ _ e=>e) I)
end
section
variable {prog:Program}{w:World}{A:Around}{E:Value->Shared->Prop}{s:Shared}{I:Addr}{fp wr:List Addr}{G:Array GenState->Array GenState->Prop}{n:Nat}{P:Nat->Value->Prop}{St:Nat->Shared->Prop}
def R4 (St:Nat->Sw->Prop):Nat->Sw->Prop
 | 0,_=>False
 | i+1,s=>St i s
def RP (P:Nat->Sr->Prop):Nat->Sr->Prop
 | 0,_=>False
 | i+1,v=>P i v
noncomputable def Ow (k:Int)(val:Nat->Int):Nat->Int
 | 0=>k
 | i+1=>val i
theorem WalksS.up (W:WalksS prog w A I fp wr G n P St):WalksS prog w A I fp wr G (n+1) (RP P) (R4 St) where
 sub:=W.sub
 grefl:=W.grefl
 gtrans:=W.gtrans
 frame:=λi s h' tk st ht hk=>by
  induction i with
  | zero=>exact st.elim
  | succ i=>exact W.frame i s h' tk st ht hk
 item:=λi s Q E hi st hQ=>by
  induction i with
  | zero=>exact st.elim
  | succ i=>exact W.item i s Q E (by lia) st λv s' hP hs hm=>hQ v s' hP hs hm
 done:=λs Q E st hQ=>W.done s Q E st hQ
 self:=λi s Q E st hQ=>by
  induction i with
  | zero=>exact st.elim
  | succ i=>exact W.self i s Q E st hQ
theorem kb (k:Int)(val:Nat->Int):∀i,Xf (Ow k val) (i+1)=k+Xf val i
 | 0=>by show(0:Int)+k=k+0;lia
 | i+1=>by
  show Xf (Ow k val) (i+1)+val i=k+(Xf val i+val i)
  rw[kb k val i];lia
theorem xP (a b:Sr):Ww "sum" ⟨[a,b],[]⟩:=by unfold Ww;kernel_rfl
theorem lV {x:Sr}{st:Int}{ts:Tok} 
  (h:Ss (model prog w) A.in1 (XT x) (λit aaW=>∃I fp wr G n P St val,it=.ref I/\WalksS prog w A.in1 I fp wr G n P St/\St 0 aaW/\(∀b∈fp,b<aaW.heap.objs.size) /\
   (∀i v,P i v->∃t,v=.int (val i) t) /\
   ∀s' t',Moved wr G aaW s'->Q (.int (st+Xf val n) t') s') E s) :
  Ss (model prog w) A (call (.builtin "sum") [x,.int st ts]) Q E s:=by
 refine call_function_tree F.kind_sum F.plain_sum F.entry_sum (xP _ _) ?_
 unfold Builtin.«sum»
 dsimp only[Tg,VM]
 rw[SK (by decide)]
 refine kV (TT (show VZ "sum" ["start"] 0 ⟨[.int st ts],[]⟩=pure [Si (.int st ts)] from rfl) ?_)
 refine kV (Sq h (λit aaW aa7=>?_) λ_ _ e=>e)
 obtain⟨I,fp,wr,G,n,P,St,val,rfl,W,hst,hfp,hval,hQ⟩:=aa7
 have fin:∀(tk:Nat) (stage:Int) (tt:Tok),aaW.toks<=tk->(stage=0\/stage=2)->Ss (model prog w) A.in1 (do
   for (ty,what,hint) in [("str","strings","''"),("bytes","bytes","b''"),("bytearray","bytearray","b''")] do
    if ←UN (.int st tt) (.type ty) then
     rule "sum.start-refused";raiseError "TypeError" s!"sum() can't sum {what} [use {hint}.join(seq) instead]"
   again (.builtin "sum.loop" ⟨[.ref I,←ZG [.int st tt],VC stage,VC 0],[]⟩))
   (λfin s'=>match fin with | .done f=>wants Q E (.ok f) s' | .again c'=>c'.quiet=Sk/\U4 (model prog w) A c' (wants Q E) s') (λe s'=>wants Q E (.error e) s') { aaW with toks:=tk }:=by
  intro tk stage tt htk hstage
  dsimp only[Uy,WS]
  refine kV (kV (kV (Vg (T:="int") (b:=dV) (Xa _ _ _) PySem.sub_int_str ?_)))
  refine wN (by decide) ?_
  refine Sl (kV (kV (Vg (T:="int") (b:=dV) (Xa _ _ _) PySem.sub_int_bytes ?_)))
  refine wN (by decide) ?_
  refine Sl (kV (kV (Vg (T:="int") (b:=dV) (Xa _ _ _) PySem.sub_int_bytearray ?_)))
  refine wN (by decide) ?_
  refine Sl (Sl ?_)
  refine kV (TK ?_)
  have hSf:aaW.heap.objs.size∉fp:=λhm=>Tq _ (hfp _ hm)
  have e1:Xf (Ow st val) 1=st:=by rw[kb];show st+0=st;lia
  have L:=codeAny_sum_loopAnyS (R:=wants Q E) (WalksS.up W) (Ow st val) (λi v hp=>by
   induction i with
   | zero=>exact hp.elim
   | succ i=>exact hval i v hp) aaW.heap.objs.size hSf n 1 (s:={ aaW with heap:=aaW.heap.push { cls:=.type "list",data:=.seq #[.int st tt] },toks:=tk }) tt 0 stage hstage (by lia) (by lia) (W.frame 0 aaW _ _ hst htk λb _ o e=>Heap.get?_push_of_some _ e) (by rw[e1];exact Heap.get?_push_size _ rfl) λs' t' hm=>by
    rw[kb]
    exact hQ s' t' (hm.drop_new (by exact htk))
  exact Sl ⟨Wo F.plain_sum_loop _,L⟩
 dsimp only
 split
 ·exact kV (U5 (kV (wpAny_mkInt (kV (Sl (fin _ 0 _ (T2 _) (.inl rfl)))))))
 ·exact kV (Sl (fin _ 2 _ (SW _) (.inr rfl)))
end
section
variable {C:Cfg}{fx:Fx}{d:Nat}{A:Around}{env:Env}{σ σ1:List Addr}{fm:Fm}{st:St}{s aaV:Shared}
theorem yq:Vd "list.__iter__"=Si .slot:=by decide +kernel
theorem vm:ZD "list.__iter__"=Si ("list","__iter__"):=by decide +kernel
theorem vz (J:cJ C)(JS:eP C){x:Sx} (X:C.K.In s.heap)(I:Us s.heap x ox 244 od)
  (h:Q (.ref s.heap.objs.size) { s with heap:=s.heap.push { cls:=.type "list_iterator",data:=.fields #[.ref x,.int 0 0] } }):Ss C.M A (XT (.ref x)) Q E s:=by
 have T:Looks C.M s.heap (UN (.ref x) (.type "list")) Sk:=I.type.andThen (Vr X J.subL)
 unfold XT
 refine kV (kV (I.type.here ((T3 X JS.iter).here ?_)))
 show Ss _ _ (Xs _ _ _ >>= _) _ _ _
 unfold Xs bindSpecialIfBound?
 refine kV (SR ?_)
 refine kV (kV (kV (I.type.here ((T3 X JS.iter).here ?_))))
 dsimp only
 rw[Zk.bind]
 refine kV (Yy ?_)
 have fin:Ss C.M A (do let r ←call (.builtin "list.__iter__") [.ref x];pure (Si r)) (λa s'=>∃it,a=Si it/\it=.ref s.heap.objs.size/\s'={ s with heap:=s.heap.push { cls:=.type "list_iterator",data:=.fields #[.ref x,.int 0 0] } }) E s:=by
  refine kV (UM (U1 Zk.plain entry_list_iter (iY (.inl yq) vm T (args_list_iter _) ?_)))
  show Ss _ _ (do ret (←newFields "list_iterator" [.ref x,VC 0])) _ _ s
  exact kV (TK (Sl (Sl ⟨_,rfl,rfl,rfl⟩)))
 split
 ·refine kV (Sl (Sl ?_))
  dsimp only
  refine im rfl (Sq fin ?_ λ_ _ e=>e)
  rintro _ _ ⟨it,rfl,rfl,rfl⟩
  exact kV (Vn ⟨_,Heap.get?_push_size _ rfl,rfl⟩ Vj.lookup (Sl h))
 ·refine W0 (kV (Sl (Sl ?_)))
  dsimp only
  refine im rfl (Sq fin ?_ λ_ _ e=>e)
  rintro _ _ ⟨it,rfl,rfl,rfl⟩
  exact kV (Vn ⟨_,Heap.get?_push_size _ rfl,rfl⟩ Vj.lookup (Sl h))
def SeqAt (h:Heap)(l:Sx)(items:Array Sr):Prop:=∃o n,h.get? l=Si o/\o.data=.seq items n
theorem jR {it l:Sx} {x:Sr} {Q:SV Sr->Sw->Prop}(hit:s.heap.IsListIter it l i)(hl:SeqAt s.heap l items)(hx:items[i]? = Si x)
  (hQ:∀h',h'.IsListIter it l (i+1)->Heap.SameBut it s.heap h'->Q (Si x) { s with heap:=h' }):Ss C.M A (UO (.ref it)) Q E s:=by
 refine fF (id hit) λo ho hc hd=>?_
 refine fB hl λol nl hol hdl=>?_
 unfold UO
 refine kV (Vu (T7 (name:=TY "__next__") hit.typeIs Vj (Uh Vj hit.typeIs entry_listiter_next ?_ (args_listiter_next _))))
 refine kV (m:=field (.ref it) 0) (TH ho hd (x:=.ref l) rfl ?_)
 refine im (c:=T9 l == XY) rfl ?_
 refine kV (m:=field (.ref it) 1) (TH ho hd (x:=.int i 0) rfl ?_)
 refine kV (m:=Wy (.ref l)) (T6 hol hdl ?_)
 simp only[aak,hx]
 refine kV (wpAny_setField ho hd (by simp) (Sl ⟨x,rfl,Sl (hQ _ ?_ (Heap.SameBut.update ..))⟩))
 refine⟨_,Heap.get?_update_self _ ho (Obj.isFreed_of_fields (Z5 hd _)),(Obj.cls_mapFields ..).trans hc,?_⟩
 rw[Z5 hd]
 simp[VC]
theorem tK {it l:Sx} {Q:SV Sr->Sw->Prop}(hh:A.handled=none)(hit:s.heap.IsListIter it l i)(hl:SeqAt s.heap l items)(hx:items[i]? = none)
  (hQ:∀h',Heap.ExtBut it s.heap h'->Q none { s with heap:=h' }):Ss C.M A (UO (.ref it)) Q E s:=by
 refine fF (id hit) λo ho hc hd=>?_
 refine fB hl λol nl hol hdl=>?_
 unfold UO
 refine kV (Vu (T7 (name:=TY "__next__") hit.typeIs Vj (Uh Vj hit.typeIs entry_listiter_next ?_ (args_listiter_next _))))
 refine kV (m:=field (.ref it) 0) (TH ho hd (x:=.ref l) rfl ?_)
 refine im (c:=T9 l == XY) rfl ?_
 refine kV (m:=field (.ref it) 1) (TH ho hd (x:=.int i 0) rfl ?_)
 refine kV (m:=Wy (.ref l)) (T6 hol hdl ?_)
 simp only[aak,hx]
 refine kV (U5 (kV (wpAny_setField ho hd (by simp) ?_)))
 unfold SmallTypes.stopIteration
 wp_walk
 unfold raiseNew
 refine kV (ZY ?_)
 rw[show A.in1.handled=none from hh]
 refine kV (Sl (wpAny_throw ?_))
 exact kV (Vg (T:="StopIteration") (b:=Sk) ⟨_,Heap.get?_push_size _ rfl,rfl⟩ Zr (Sl (hQ _ (((Heap.SameBut.update ..).extBut.push _).push _))))
def pU (h:Heap)(vs:Sj Sr)(ps:Sj (Sj Nat×Sj Nat)):Prop:=vs.length=ps.length/\∀(i:Nat)(p:Sj Nat×Sj Nat),ps[i]? = Si p->∃T n x y,vs[i]? = Si (T9 T)/\h.get? T=Si (cK [.str ⟨p.1.toArray⟩ x,.str ⟨p.2.toArray⟩ y] n)
def LO (ps:Sj (Sj Nat×Sj Nat))(i:Nat)(vals:Array Sr):Prop:=∃(p:Sj Nat×Sj Nat)(x y:Tok),ps[i]? = Si p/\vals=#[aaS ⟨p.1.toArray⟩ x,aaS ⟨p.2.toArray⟩ y]
theorem yz {ax I:Sx} {ps:Sj (Sj Nat×Sj Nat)} (hh:A.handled=none)(hax:ax≠I)(hfp:I∈fp)(hfa:ax∈fp)(hT:∀T,T9 T∈vs->T∈fp/\T≠I) :
  WalksU C.prog C.w A I fp [I] ps.length (LO ps) (λi h=>h.IsListIter I ax i/\SeqAt h ax vs.toArray/\pU h vs ps) (λi T h=>(h.IsListIter I ax (i+1)/\SeqAt h ax vs.toArray/\pU h vs ps)/\T≠I) where
 sub:=λb hb=>by rw[Sn.mp hb];exact hfp
 frame:=λi h h' st hk=>by
  refine yF st λh80 h81 c1 c2=>?_;obtain⟨o,a1,a2⟩:=h80;obtain⟨ol,nl,b1,b2⟩:=h81
  refine⟨⟨o,hk I hfp o a1,a2⟩,⟨ol,nl,hk ax hfa ol b1,b2⟩,c1,λi p e=>?_⟩
  refine mz (c2 i p e) λT n x y e1 e2=>?_
  exact⟨T,n,x,y,e1,hk T (hT T (Su e1)).1 _ e2⟩
 item:=λi s Q E hi st hQ=>by
  refine yF st λhit hsq c1 c2=>?_
  refine mz (c2 i _ (Sz hi)) λT n x y e1 e2=>?_
  refine jR hit hsq (x:=.ref T) (by simpa using e1) λh' hit' hs=>?_
  have keep:∀b o,b≠I->s.heap.get? b=Si o->h'.get? b=Si o:=λb o hb e=>hs.extBut b o hb e
  have hTI:=(hT T (Su e1)).2
  refine hQ T _ h' s.toks ⟨_,x,y,Sz hi,rfl⟩ ⟨_,keep T _ hTI e2,rfl,n,rfl⟩ ⟨⟨hit',?_,c1,λj p e=>?_⟩,hTI⟩ λb o hb e=>keep b o (λq=>hb (Sn.mpr q)) e
  ·refine fB hsq λol nl b1 b2=>?_
   exact⟨ol,nl,keep _ _ hax b1,b2⟩
  ·refine mz (c2 j p e) λT' n' x' y' e3 e4=>?_
   exact⟨T',n',x',y',e3,keep T' _ (hT T' (Su e3)).2 e4⟩
 go:=λelts k pos i T s Q E hm hQ=>by
  refine dE hm λst hTI=>?_
  refine fF st.1 λo a1 a2 a3=>?_
  unfold TC
  skip
  refine kV (Xd a1 ?_)
  rw[a2,a3]
  skip
  refine im (by rfl) (Sl (hQ _ st λb o _ e=>e))
 apart:=λi T h hm hb=>hm.2 (Sn.mp hb)
 done:=λs Q E st hQ=>by
  refine yF st λhit hsq c1 c2=>?_
  refine tK hh hit hsq (by simp[←c1]) λh' hx=>hQ h' s.toks λb o hb e=>hx b o (λq=>hb (Sn.mpr q)) e
 self:=λ_ _ _ _ st hQ=>Y3 st.1 hQ
end
section
variable {C:Cfg}{fx:Fx}{d:Nat}{A:Around}{env:Env}{σ σ1:List Addr}{fm:Fm}{st:St}{s aaV:Shared}
structure mH (C:Cfg):Prop where
 at_:∃bm ob,C.mg "__builtins__"=Si (.ref bm)/\bm≠Ua/\C.aa8.get? bm=Si ob/\ob.cls=.type "module" /\ ob.dict=Si Ua/\ob.data=.plain
theorem nC (Ok:C.Ok)(B:mH C)(H:∀b o,C.aa8.get? b=Si o->s.heap.get? b=Si o){r:Sx}(hg:g=S4) {Q:Sx->Sw->Prop}(h:Q Ua s):Ss C.M A (builtinsFor g r) Q E s:=by
 subst hg
 refine pk (B.at_) λbm ob h1 h2 h3 h4 h5 h6=>?_
 exact wpAny_builtinsFor (Ok.T.g.keeps H) h1 h2 (H _ _ h3) h4 h5 h6 h
theorem y3 {k:Sj Nat->Sm}(h:dC v k=Sk):∃y,(∃a b,v=.tup [.str a,.str b]/\y=a++b)/\k y=Sk:=by
 refine aE (lm h) λl e81 h1=>?_;subst e81
 refine fB (FU h1) λx y e82 h2=>?_;subst e82
 refine aE (pB h2) λa e81 h3=>?_;subst e81
 refine aE (pB h3) λb e81 h4=>?_;subst e81
 exact⟨_,⟨a,b,rfl,rfl⟩,by rw[bf] at h4;exact h4⟩
theorem xd {k:Sj (Sj Nat)->Sm}(h:d7 dC l k=Sk):∃ps:Sj (Sj Nat×Sj Nat),l=ps.map (λp=>.tup [.str p.1,.str p.2])/\k (ps.map λp=>p.1++p.2)=Sk:=by
 induction l generalizing k with
 | nil=>exact⟨[],rfl,h⟩
 | cons v l ih=>
  have h:dC v (λy=>d7 dC l λq=>k (y::q))=Sk:=h
  refine aE (y3 h) λy h81 h1=>?_;obtain⟨a,b,rfl,rfl⟩:=h81
  refine aE (ih h1) λps e81 h2=>?_;subst e81
  exact⟨(a,b)::ps,rfl,h2⟩
theorem vX {f g:α->V}{ps:Sj α} {P:α->Sx->Prop}(r:VRs σ h (ps.map λp=>V.tup [f p,g p]) vs)
  (H:∀p T n a b,h.get? T=Si (cK [a,b] n)->VR σ h (f p) a->VR σ h (g p) b->P p T) :
  (vs.length=ps.length/\∀(i:Nat) (p:α),ps[i]? = Si p->∃T,vs[i]? = Si (T9 T)/\P p T)/\∀T,T9 T∈vs->T∉σ/\(h.get? T).isSome=Sk:=by
 have l:vs.length=ps.length:=r.length.trans (S6 _)
 have w:∀(i:Nat) (p:α),ps[i]? = Si p->∃T,vs[i]? = Si (T9 T)/\(T∉σ/\(h.get? T).isSome=Sk)/\P p T:=λi p e=>by
  refine aE (r.get ((TM ..).trans (SU _ e))) λu e1 q=>?_
  revert e1
  refine VR.tup_e q λus T n e2 nt q=>?_
  revert e2
  refine VRs.cons_e q λa _ q1 q=>VRs.cons_e q λb _ q2 q=>VRs.nil_e q ?_
  exact λe2 e1=>⟨T,e1,⟨nt,by rw[e2];rfl⟩,H p T n a b e2 q1 q2⟩
 refine⟨⟨l,λi p e=>fF (w i p e) λT a _ c=>⟨T,a,c⟩⟩,λT m=>?_⟩
 refine bG (V8 m) λi e=>?_
 refine fF (w i _ (Sz (l▸(SJ.mp e).1))) λT' a b _=>?_
 cases a.symm.trans e
 exact b
theorem AD {ps:Sj (Sj Nat×Sj Nat)} (r:VRs σ h (ps.map λp=>V.tup [.str p.1,.str p.2]) vs):pU h vs ps/\∀T,T9 T∈vs->T∉σ/\(h.get? T).isSome=Sk:=
 dE (vX (g:=λp=>.str p.2) (P:=λp T=>∃n x y,h.get? T=Si (cK [.str ⟨p.1.toArray⟩ x,.str ⟨p.2.toArray⟩ y] n)) r λp T n a b e q1 q2=>by
  revert e
  exact VR.str_e q1 λx=>VR.str_e q2 λy e=>⟨n,x,y,e⟩) λh1 h2=>⟨⟨h1.1,λi p e=>aE (h1.2 i p e) λT a b=>zl b λn x y b=>⟨T,n,x,y,a,b⟩⟩,h2⟩
inductive Og (C:Cfg)(A:Ue)(σ:Sj Sx)(st:St)(ps:Sj (Sj Nat×Sj Nat))(F:Sj Nat×Sj Nat->Sr->Prop)(a:Sx)(s:Sw)(h:Heap):Prop
 | mk (fp wr:Sj Sx) (G:Array WX->Array WX->Prop) (St:Nat->Sw->Prop) (W:WalksS C.prog C.w A.in4 a fp wr G ps.length (λi y=>∃p,ps[i]? = Si p/\F p y) St) (s0:St 0 s) (lt:∀b∈fp,b<s.heap.objs.size) (me:a∈fp) (ty:∀i s,St i s->s.TypeIs (.ref a) "generator")
  (new:∀b∈wr,h.get? b=none) (mv:∀s',Moved wr G s s'->Inv C σ st s'/\(∀b o,b∉wr->s.heap.get? b=Si o->s'.heap.get? b=Si o)/\(UZ s.gens->UZ s'.gens))
structure zJ (C:Cfg)(scope:Scope)(cenv:Env):Prop where
 scope:cenv.scope=scope
 glob:cenv.globals=S4
 blt:cenv.builtins=Ua
structure nJ (scope:Scope)(xa xb:Str):Prop where
 co:scope.isCoroutine=dV
 free:∀x∈scope.names,x.2≠.free
 cell:∀x∈scope.names,x.2≠.cell
 zero:scope.names.lookup (".0":Str)=Si NameKind.local
 la:scope.names.lookup xa=Si NameKind.local
 lb:scope.names.lookup xb=Si NameKind.local
 ab:xa≠xb
 kind:scope.kind=.function
theorem kH (n:Nat):passing (λ_=>Sk) n 0=Up n:=by
 unfold passing;simp
theorem pW {gens:Array WX}{gs:WX}(h:UZ gens)(hb:gs.bare=Sk):UZ (gens.push gs):=by
 intro x hx
 rcases Array.mem_push.mp hx with hx | rfl
 ·exact h x hx
 ·exact hb
theorem VR.at_ (r:VR σ h (.ref n) u)(e:σ[n]? = Si a):u=.ref a:=VR.ref_e r λ_ q=>SU T9 (Si.inj (q.symm.trans e))
theorem PJ {δ ε ζ η θ ι:Type}{p:α->β->γ->δ->ε->ζ->η->θ->ι->Prop}(a:α)(b:β)(c:γ)(d:δ)(e:ε)(f:ζ)(g:η)(h:θ)(i:ι)(H:p a b c d e f g h i):∃a b c d e f g h i,p a b c d e f g h i:=⟨a,b,c,d,e,f,g,h,i,H⟩
theorem E7 (Ok:C.Ok)(J:cJ C)(JS:eP C)(B:mH C){t:lX}(k:jm C t)(hl:t.lam=dV)(hcode:env.code=.ref t.code)(hok:fx.ok=Sk)(R:Rm d A)(E:ba fx env)(I:Inv C σ st s)(F:FrR C fx env fm σ s)
 (sc:nJ scope xa xb) {ps:Sj (Sj Nat×Sj Nat)} (hx:fx.ln[i]? = Si x) (v0:fm.loc[i]? = Si (Si (.ref n)))
  (ho:st.look n=Si (.lsub c d' fs (ps.map λp=>V.tup [.str p.1,.str p.2]))) {Fv:Sj Nat×Sj Nat->Sr->Prop}
  (helt:∀(A':Ue) E' (aaW:Sw) (cenv:Env) (abl:Str->SV Sr) (p:Sj Nat×Sj Nat) (u v:Tok),A'.handled=none->zJ C scope cenv->C.K.In aaW.heap->(∀b o,C.aa8.get? b=Si o->aaW.heap.get? b=Si o)->aaW.heap.Ns cenv.locals abl ->
   abl xa=Si (.str ⟨p.1.toArray⟩ u)->abl xb=Si (.str ⟨p.2.toArray⟩ v)->p∈ps->Ss C.M A' (eval elt cenv) (λr aa5=>Fv p r/\_root_.PySem.Keeps aaW aa5) E' aaW)
 (hQ:∀a s',Step [] σ s σ s'->Og C A σ st ps Fv a s' s.heap->Inv C σ st s'->Q (.ref a) s') :
  Ss C.M A (eval (.GeneratorExp elt [⟨.Tuple [.Name xa pa,.Name xb pb] kt pt,.Name x px,[],0⟩] scope pos) env) Q Ex s:=by
 obtain⟨a,dx,es,m,vs,m',rfl,ha,hdx,hox,hD,er,hvs,IA⟩:=I.lsub ho
 refine aE (F.ns) λmm hns hv=>?_
 refine aE (hv i _ _ hx v0) λu hu ru=>?_
 have:u=.ref a:=ru.at_ ha
 subst this
 have mx:x∈fx.ln:=Su hx
 have hroom:A.depth<W1:=by have:=R.depth;show A.depth<1000;lia
 refine wpAny_GeneratorExp_walksQT R.handled sc.co (closureFor_none sc.free) sc.cell sc.zero sc.la sc.lb sc.ab sc.kind hroom ?_ (λ_=>rfl)
 refine V0 (T8 E.kind (E.ln x mx) hns hu ?_) (Fx.ok_ln hok mx)
 refine vz J JS (I.X Ok) IA ?_
 have aa9:Inv C σ st { s with heap:=s.heap.push { cls:=.type "list_iterator",data:=.fields #[.ref a,.int 0 0] } }:=I.pushed (t:=s.toks)
 refine pk (isCode Ok aa9 k) λj psT hj sj _ _ _ _=>?_
 have mt:t.tab∈σ:=Su hj
 have hIt:s.heap.objs.size≠t.tab:=λq=>Tq _ (q▸I.size mt)
 refine⟨(Ok.T.nolimit.keeps aa9.base),nB Ok aa9 k hl hcode λcode aa3 tk3 hext abc=>?_⟩
 have abc:Inv C σ st { s with heap:=aa3,toks:=tk3 }:=abc
 refine nC Ok B abc.base E.glob ?_
 have up3:∀b o,b≠t.tab->s.heap.get? b=Si o->aa3.get? b=Si o:=λb o hb e=>hext b o hb (bu _ _ e)
 have lt3:∀{b:Sx} {o:Obj},s.heap.get? b=Si o->b<aa3.objs.size:=λ{b o} e=>by
  by_cases q:b=t.tab
  ·subst q
   refine bG (S7.mp (abc.new _ mt).2) λo e=>?_
   exact Heap.lt_size e
  ·exact Heap.lt_size (up3 _ _ q e)
 have hIt3:aa3.get? s.heap.objs.size=Si { cls:=.type "list_iterator",data:=.fields #[.ref a,.int 0 0] }:=hext _ _ hIt (Heap.get?_push_size _ rfl)
 have hat:a≠t.tab:=λq=>by
  have:=I.inj ha (q▸hj)
  subst this
  have:=sj.1
  rw[show({ s with heap:=s.heap.push { cls:=.type "list_iterator",data:=.fields #[.ref a,.int 0 0] } }:Sw).heap=_ from rfl] at *
  rw[ho] at this
  cases this
 have haI:a≠s.heap.objs.size:=SP (Heap.lt_size hox)
 refine dE (AD hvs) λPA hT=>?_
 have hTt:∀T,T9 T∈vs->T≠t.tab:=λT hm q=>(hT T hm).1 (q▸mt)
 have hTlt:∀T,T9 T∈vs->T<s.heap.objs.size:=λT hm=>by
  refine bG (S7.mp (hT T hm).2) λo e=>?_
  exact Heap.lt_size e
 have sz3:s.heap.objs.size<aa3.objs.size:=Heap.lt_size hIt3
 have hfree:∀{b:Sx} {o:Obj},C.aa8.get? b=Si o->b≠s.heap.objs.size:=λ{b o} e=>SP (Heap.lt_size (I.base _ _ e))
 refine PJ s.heap.objs.size (Up aa3.objs.size) [s.heap.objs.size] ps.length (LO ps) _ _ (λ_=>Sk) (λi y=>∃p,ps[i]? = Si p/\Fv p y) ⟨rfl,
  λA' hA'=>yz (ps:=ps) (vs:=vs) hA' haI (Uv.mpr sz3) (Uv.mpr (lt3 hox)) λT hm=>⟨Uv.mpr (SO (hTlt T hm) sz3),SP (hTlt T hm)⟩,?_,?_,λb hb=>Uv.mp hb,Ok.T.nolimit.keeps abc.base,?_,?_,?_⟩
 ·intro i vals H
  exact iB H λp x y _ e=>⟨_,_,e⟩
 ·refine⟨⟨_,hIt3,rfl,rfl⟩,⟨_,_,up3 _ _ hat hox,rfl⟩,PA.1,λi p e=>?_⟩
  refine mz (PA.2 i p e) λT n x y e1 e2=>?_
  exact⟨T,n,x,y,e1,up3 _ _ (hTt T (Su e1)) e2⟩
 ·intro hm
  refine aE (Ok.T.nolimit) λmc hn _=>?_
  refine iB hn λo _ _ e _=>?_
  exact hfree e (Sn.mp hm)
 ·intro href hk
  have base:∀{aaW:Sw},(∀b∈Up aa3.objs.size,b∉[s.heap.objs.size]->∀o,href.get? b=Si o->aaW.heap.get? b=Si o)->∀b o,C.aa8.get? b=Si o->aaW.heap.get? b=Si o:=λ{aaW} hs b o e=>
   hs b (Uv.mpr (lt3 (I.base _ _ e))) (λq=>hfree e (Sn.mp q)) o (hk b o (abc.base b o e))
  refine⟨λA' E' i va vb aaW abl hA hP hn ha hb hs=>?_,λA' E' i va vb aaW abl hA hP _ hn ha hb hs=>?_⟩
  ·refine wE (WS) ?_
   exact Sl ⟨rfl,_,_,rfl,λ_ _ e=>e⟩
  ·refine iB hP λp x y hp hv=>?_
   simp only[aaO,Xx,and_true] at hv
   refine dE hv λe80 e81=>?_;subst e80;subst e81
   refine Sq (helt A' E' aaW _ abl p x y hA ⟨rfl,E.glob,rfl⟩ (Ok.X.keeps (base hs)) (base hs) hn ha hb (Su hp)) (λr aa5 h=>⟨⟨p,hp,h.1⟩,h.2⟩) λ_ _ e=>e
 ·intro g abf tk gs hb hlt hsz hk5 W GA
  have abF:∀{s':Sw},(∀b o,b∉[s.heap.objs.size]->aa3.get? b=Si o->s'.heap.get? b=Si o)->Inv C σ st s':=λ{s'} hk=>abc.other (W:=[s.heap.objs.size]) hk (λb m=>by
   rw[Sn.mp m]
   exact⟨λq=>Tq _ (I.size q),bD I (SW _)⟩) λb m vs n e=>by
    rw[Sn.mp m] at e
    rw[show({ s with heap:=aa3,toks:=tk3 }:Sw).heap=aa3 from rfl,hIt3] at e
    have:=SU (λo=>o.map (·.cls)) e
    simp at this
  have lw:(passing (λ_=>Sk) ps.length 0).length=ps.length:=by rw[kH];simp
  refine hQ g _ ⟨⟨[],by simp,λ_ h=>nomatch h⟩,λb o nb _ e=>hk5 b o (up3 b o (λq=>nb (q▸mt)) e),rfl,λh=>pW h hb⟩ ?_ (abF λb o _ e=>hk5 b o e)
  rw[lw] at W
  refine⟨_,_,_,_,W.imp λi v hv=>?_,GA,λb hb=>?_,Z3 ..,λi s hg=>hg.1.typeIs,λb hb=>?_,λs' hm=>⟨abF λb o nb e=>hm.heap b o (λq=>?_) (hk5 b o e),λb o nb e=>hm.heap b o nb e,λhb=>?_⟩⟩
  ·refine aE hv λi' hi hp=>?_
   rw[kH] at hi
   refine bG (SJ.mp hi) λ_ e=>?_
   simp at e
   subst e
   exact hp
  ·show b<abf.objs.size
   have hsz:abf.objs.size=g+1:=hsz
   have hlt:aa3.objs.size<g:=hlt
   rcases SD.mp hb with q | q
   ·have:b=g:=q
    rw[this,hsz];exact S1 _
   ·rcases SD.mp q with q | q
    ·have:b=aa3.objs.size:=q
     rw[this,hsz];exact To hlt
    ·have:b<aa3.objs.size:=Uv.mp q
     rw[hsz];exact To (SO this hlt)
  ·cases e:s.heap.get? b with
   | none=>rfl
   | some o=>
    rcases SD.mp hb with q | q
    ·have:b=aa3.objs.size:=q
     exact Tc (lt3 e) (by rw[this];exact Tq _)
    ·rw[Sn.mp q] at e
     exact Tc (Heap.lt_size e) (Tq _)
  ·rcases SD.mp q with q | q
   ·have:b=aa3.objs.size:=q
    exact Tq _ (this▸Heap.lt_size e)
   ·exact nb q
  ·exact UZ.moved hb hm.gens
end
section
variable {C:Cfg}{fx:Fx}{d:Nat}{A:Around}{env:Env}{σ σ1:List Addr}{fm:Fm}{st:St}{s aaV:Shared}
structure Sees (C:Cfg)(env:Env)(h:Heap):Prop where
 kind:env.scope.kind=.function
 glob:env.globals=S4
 blt:env.builtins=Ua
 X:C.K.In h
 base:∀b o,C.aa8.get? b=Si o->h.get? b=Si o
theorem Sees.keeps (x:Sees C env h)(k:∀b o,h.get? b=Si o->h'.get? b=Si o):Sees C env h':=⟨x.kind,x.glob,x.blt,x.X.keeps k,λb o e=>k b o (x.base b o e)⟩
theorem Sees.name (Ok:C.Ok)(S:Sees C env s.heap) {v:Sr} (hx:env.kindOf x=Si .globalImplicit)(hd:(x == ("__debug__":Str))=dV)(g:GB C x v)(h:Q v s):Ss C.M A (eval (.Name x pos) env) Q Ex s:=by
 refine Name_function_global S.kind hx ?_ hd
 unfold XS
 rw[S.glob,S.blt]
 rcases g with g | ⟨g,hn,hb⟩
 ·exact kV ((Xe S.X g).here (Sl h))
 ·refine kV ((Xe S.X g).here ?_)
  have nb:s.heap.Ns Ua C.mb:=Ok.T.b.keeps S.base
  refine kV (wpAny_nsGet nb ?_)
  rw[Ok.T.builtins x hn,hb]
  exact Sl h
theorem DL (Ok:C.Ok)(S:Sees C env s.heap) {v:Sr} {e:Expr} (hx:env.kindOf x=Si .globalImplicit)(hd:(x == ("__debug__":Str))=dV)(g:GB C x v)(hf:Keeps C v)(hp:aL [e])
  (h:Ss C.M A (eval e env) (λu aaV=>C.K.In aaV.heap/\Ss C.M A (call v [u]) Q Ex aaV) Ex s):Ss C.M A (eval (.Call (.Name x p) [e] [] pos) env) Q Ex s:=by
 refine TB (S.name Ok hx hd g ?_)
 refine Yj (P:=C.K.In) (by show(_ || false)=dV;rw[hp.1];rfl) hf ?_
 rcases hp.2 with q | ⟨e',rest,q,he⟩
 ·exact nomatch q
 ·cases q
  have h2:Ss C.M A (spliced (W9 pos (T4 [e] env))) (λus s'=>C.K.In s'.heap/\Ss C.M A (call v ([]++us)) Q Ex s') Ex s:=by
   refine Va (Sq h (λu aaV aaX=>?_) λ_ _ e=>e) (he env)
   exact Yw aaX
  rw[he] at h2 ⊢
  exact WO h2
theorem vo:aL [.Name x p]:=⟨λ_ _=>rfl,.inr ⟨_,_,rfl,λ_=>rfl⟩⟩
theorem yN:aL [.Tuple es n p]:=⟨λ_ _=>rfl,.inr ⟨_,_,rfl,λ_=>rfl⟩⟩
theorem nW (Ok:C.Ok)(S:Sees C env s.heap) {q:Pos}{m:Str->SV Sr}{l:Sj Nat}{t:Tok} (hx:env.kindOf "len"=Si .globalImplicit)(g:GB C "len" (.builtin "len"))(hk:env.kindOf x=Si .local)(hd:(x == ("__debug__":Str))=dV)
  (hn:s.heap.Ns env.locals m) (hm:m x=Si (.str ⟨l.toArray⟩ t)) (hl:l.length<1152921504606846976) (h:∀t' tk,Q (.int (l.length:Int) t') { s with toks:=tk }):Ss C.M A (eval (.Call (.Name "len" p) [.Name x q] [] pos) env) Q Ex s:=by
 refine DL Ok S hx (by decide) g ck vo (V0 (T8 S.kind hk hn hm ⟨S.X,?_⟩) hd)
 have e:(⟨l.toArray⟩:Str).length=l.length:=by show l.toArray.size=_;simp
 refine aaI (by rw[e];lia) ?_
 rw[e]
 exact h _ _
theorem DZ (Ok:C.Ok)(g:GB C "len" (.builtin "len")) (sc:nJ scope xa xb)(hlen:scope.names.lookup ("len":Str)=Si NameKind.globalImplicit)(ha:(xa == ("__debug__":Str))=dV)(hb:(xb == ("__debug__":Str))=dV){p1 p2 p3 p4 p5 p6 p7:Pos}{ps:Sj (Sj Nat×Sj Nat)}(hps:∀p∈ps,p.1.length<1152921504606846976/\p.2.length<1152921504606846976) :
  ∀(A':Ue) E' (aaW:Sw) (cenv:Env) (abl:Str->SV Sr) (p:Sj Nat×Sj Nat) (u v:Tok),A'.handled=none->zJ C scope cenv->C.K.In aaW.heap->(∀b o,C.aa8.get? b=Si o->aaW.heap.get? b=Si o)->aaW.heap.Ns cenv.locals abl ->
   abl xa=Si (.str ⟨p.1.toArray⟩ u)->abl xb=Si (.str ⟨p.2.toArray⟩ v)->p∈ps->Ss C.M A' (eval (.BinOp (.Call (.Name "len" p1) [.Name xa p2] [] p3) .Add (.Call (.Name "len" p4) [.Name xb p5] [] p6) p7) cenv) (λr aa5=>(∃t,r=.int ((p.1++p.2).length:Int) t)/\_root_.PySem.Keeps aaW aa5) E' aaW:=by
 intro A' E' aaW cenv abl p u v hA G X base hn h1 h2 hp
 have kind:∀{x:Str} {k:NameKind},scope.names.lookup x=Si k->cenv.kindOf x=Si k:=λ{x k} e=>by unfold YR;rw[G.scope];exact e
 have S:Sees C cenv aaW.heap:=⟨by rw[G.scope];exact sc.kind,G.glob,G.blt,X,base⟩
 refine wpAny_BinOp (nW Ok S (kind hlen) g (kind sc.la) ha hn h1 (hps p hp).1 λt' tk=>?_)
 refine nW (s:={ aaW with toks:=tk }) Ok S (kind hlen) g (kind sc.lb) hb hn h2 (hps p hp).2 λt'' tk'=>?_
 refine wpAny_add_int ⟨⟨tk',?_⟩,aaW.heap,tk'+1,rfl,λ_ _ e=>e⟩
 rw[SY,Int.natCast_add]
theorem Cw {t:Tok} {l:Sj (Str×Tok)}{texts:Sj Str} (hl:s.heap.get? D=Si (cK (YD l) n))(ht:l.map (·.1)=texts)(hok:JoinOk x texts=Sk)
  (hq:∀t' k,Q (.str (Txt.join x texts) t') { s with toks:=k }):Ss C.M A (call (.builtin "str.join") [.str x t,.ref D]) Q Ex s:=by
 subst ht
 unfold JoinOk at hok
 rw[VY] at hok
 exact Wu VU (V4 _ _ _) PySem.F.entry_str_join (PySem.F.args_str_join_2 _ _) (meets_str_join_tuple x t D l hok) ⟨⟨_,n,hl,rfl,rfl⟩,post_join l ⟨joinFit_length hok,hq⟩⟩
theorem sD {sep:Sj Nat}{xs:Sj (Sj Nat)}(hs:sep.length<=4095)(hj:(bQ sep xs).length<=100000):JoinOk ⟨sep.toArray⟩ (xs.map λx=>(⟨x.toArray⟩:Str))=Sk:=by
 show(!decide ((xs.map λx=>(⟨x.toArray⟩:Str)).toArray.foldl (λn x=>n+x.length+(⟨sep.toArray⟩:Str).length) 0>U0))=Sk
 rw[ZN,jM _ _ 0]
 ·have e3:((xs.map λx=>(⟨x.toArray⟩:Str)).map λx=>x.length+(⟨sep.toArray⟩:Str).length)=xs.map λx=>x.length+sep.length:=by
   rw[Ud];apply U9;intro x _;show x.toArray.size+sep.toArray.size=_;simp
  rw[e3]
  have:=gW sep xs
  have:(xs.map λx=>x.length+sep.length).sum<=U0:=by show _<=2 ^ 24;lia
  simpa using this
 ·simp
theorem sI (sep:Sj Nat)(xs:Sj (Sj Nat)):Txt.join ⟨sep.toArray⟩ (xs.map λx=>(⟨x.toArray⟩:Str))=⟨(bQ sep xs).toArray⟩:=by
 rw[←lf];exact Y2 _ _
theorem vV (Ok:C.Ok)(S:Sees C env s.heap) {sep:Sj Nat} {e:Expr} (hm:d6 (.Name x p) "join" apos [e] pos)(hx:env.kindOf x=Si .globalImplicit)(hd:(x == ("__debug__":Str))=dV)
  (g:GB C x (.str ⟨sep.toArray⟩ tk)) (hp:aL [e]) (h:Ss C.M A (eval e env) (λu aaV=>C.K.In aaV.heap/\Ss C.M A (call (.builtin "str.join") [.str ⟨sep.toArray⟩ tk,u]) Q Ex aaV) Ex s) :
  Ss C.M A (eval (.Call (.Attribute (.Name x p) "join" apos) [e] [] pos) env) Q Ex s:=by
 refine bG hm λpl he=>?_
 refine wE (he env) ?_
 refine kV (S.name Ok hx hd g (kV (TF (kV (SR (GM.join ?_))))))
 refine Yj (P:=C.K.In) (by show(_ || false)=dV;rw[hp.1];rfl) ck ?_
 rcases hp.2 with q | ⟨e',rest,q,he'⟩
 ·cases q
 ·cases q
  have h2:Ss C.M A (spliced (W9 pos (T4 [e] env))) (λus s'=>C.K.In s'.heap/\Ss C.M A (call (.builtin "str.join") ([.str ⟨sep.toArray⟩ tk]++us)) Q Ex s') Ex s:=by
   refine Va (Sq h (λu aaV aaX=>?_) λ_ _ e=>e) (he' env)
   exact Yw aaX
  rw[he'] at h2 ⊢
  exact WO h2
theorem B1 (Ok:C.Ok) (g:GB C x (.str ⟨([]:Sj Nat).toArray⟩ tk)) (sc:nJ scope xa xb)(hx:scope.names.lookup x=Si NameKind.globalImplicit)(hd:(x == ("__debug__":Str))=dV)(ha:(xa == ("__debug__":Str))=dV)(hb:(xb == ("__debug__":Str))=dV)
  {p1 p2 p3 p4:Pos} (hm:d6 (.Name x p1) "join" apos [.Tuple [.Name xa p2,.Name xb p3] kt p4] pos) {ps:Sj (Sj Nat×Sj Nat)} (hps:∀p∈ps,p.1.length<=4095/\p.2.length<=4095) :
  ∀(A':Ue) E' (aaW:Sw) (cenv:Env) (abl:Str->SV Sr) (p:Sj Nat×Sj Nat) (u v:Tok),A'.handled=none->zJ C scope cenv->C.K.In aaW.heap->(∀b o,C.aa8.get? b=Si o->aaW.heap.get? b=Si o)->aaW.heap.Ns cenv.locals abl ->
   abl xa=Si (.str ⟨p.1.toArray⟩ u)->abl xb=Si (.str ⟨p.2.toArray⟩ v)->p∈ps->Ss C.M A' (eval (.Call (.Attribute (.Name x p1) "join" apos) [.Tuple [.Name xa p2,.Name xb p3] kt p4] [] pos) cenv) (λr aa5=>(∃t,r=.str ⟨(p.1++p.2).toArray⟩ t)/\_root_.PySem.Keeps aaW aa5) E' aaW:=by
 intro A' E' aaW cenv abl p u v hA G X base hn h1 h2 hp
 have kind:∀{x:Str} {k:NameKind},scope.names.lookup x=Si k->cenv.kindOf x=Si k:=λ{x k} e=>by unfold YR;rw[G.scope];exact e
 have S:Sees C cenv aaW.heap:=⟨by rw[G.scope];exact sc.kind,G.glob,G.blt,X,base⟩
 refine vV Ok S hm (kind hx) hd g yN ?_
 refine wpAny_Tuple_spliced ?_
 refine Va (V0 (T8 S.kind (kind sc.la) hn h1 ?_) ha) rfl
 refine Va (V0 (T8 S.kind (kind sc.lb) hn h2 ?_) hb) rfl
 refine Yw ⟨by show 2<=U0;decide,(S.keeps (λb o e=>bu b o e)).X,?_⟩
 refine Cw (l:=[(⟨p.1.toArray⟩,u),(⟨p.2.toArray⟩,v)]) (n:=0) (Heap.get?_push_size _ rfl) (texts:=[p.1,p.2].map λx=>(⟨x.toArray⟩:Str)) rfl (sD (by simp) ?_) λt' k=>?_
 ·show(bp p.1 (bp [] p.2)).length<=100000
  rw[bf,bf]
  have:=hps p hp
  simp only[SY,VM]
  lia
 ·rw[sI]
  refine⟨⟨t',?_⟩,_,k,rfl,λb o e=>bu _ _ e⟩
  show aaS ⟨(bp p.1 (bp [] p.2)).toArray⟩ t'=_
  rw[bf,bf,XA]
end
section
variable {C:Cfg}{fx:Fx}{d:Nat}{A:Around}{env:Env}{σ σ1:List Addr}{fm:Fm}{st:St}{s aaV:Shared}
theorem jI:∀(xs:Sj (Sj Nat))(a:Int),gr xs a=a+(xs.map λx=>(x.length:Int)).sum
 | [],a=>by show a=_;simp
 | x::xs,a=>by
  have:gr (x::xs) a=gr xs (gA a (TG (aK x))):=rfl
  rw[this,jI xs,eU,aC,Tx,Vv]
  show a+(x.length:Int)+_=_
  lia
theorem rj (l:Sj Int):∀n,n<=l.length->Xf (λi=>l.getD i 0) n=(l.take n).sum:=by
 intro n hn
 induction n with
 | zero=>rfl
 | succ n ih=>
  have e:Xf (λi=>l.getD i 0) (n+1)=Xf (λi=>l.getD i 0) n+l.getD n 0:=rfl
  have e2:l.take (n+1)=l.take n++[l[n]'(by lia)]:=by rw[WU,Sz (by lia)];rfl
  have e3:l.getD n 0=l[n]'(by lia):=by rw[TR,Sz (by lia)];rfl
  rw[e,ih (by lia),e2,e3,Sj.sum_append]
  show _+_=_+(_+0)
  lia
theorem HR {l:Sj (Sj Nat)}{x:Sj Nat}(m:x∈l):(x.length:Int)<=(l.map λx=>(x.length:Int)).sum:=by
 induction l with
 | nil=>cases m
 | cons y l ih=>
  rw[Tx,Vv]
  have pos:∀l:Sj (Sj Nat),(0:Int)<=(l.map λx=>(x.length:Int)).sum:=λl=>by
   induction l with
   | nil=>simp
   | cons z l ih=>rw[Tx,Vv];lia
  rcases SD.mp m with rfl | m
  ·have:=pos l;lia
  ·have:=ih m;lia
theorem wv:∀xs:Sj (Sj Nat),jG xs=xs.flatten
 | []=>rfl
 | x::xs=>by
  have:jG (x::xs)=bp x (jG xs):=rfl
  rw[this,bf,wv xs];rfl
theorem jW:∀xs:Sj (Sj Nat),bQ [] xs=jG xs
 | []=>rfl
 | [x]=>by
  have:jG [x]=bp x []:=rfl
  rw[this,bf,TV];rfl
 | x::y::r=>by
  have e:bQ [] (x::y::r)=bp x (bp [] (bQ [] (y::r))):=rfl
  rw[e,jW (y::r)]
  rfl
theorem Moved.start {wr:Sj Sx}{G:Array WX->Array WX->Prop}{s:Sw}(h:s'.heap=s.heap)(hg:s'.gens=s.gens)(hd:s'.drawn=s.drawn)(ho:s'.os=s.os)(ht:s.toks<=s'.toks)(x:Moved wr G s' s''):Moved wr G s s'':=
 ⟨λb o nb e=>x.heap b o nb (by rw[h];exact e),hg▸x.gens,x.drawn.trans hd,x.os.trans ho,So ht x.toks⟩
theorem EF (Ok:C.Ok)(J:cJ C)(JS:eP C)(B:mH C){t:lX}(k:jm C t)(hl:t.lam=dV)(hok:fx.ok=Sk){body:Sj Stmt}{p1 p2 p3 p4 p5 p6 p7 gp ps ap:Pos} {xs:Str}(sc:nJ scope xa xb)
  (hlen:scope.names.lookup ("len":Str)=Si NameKind.globalImplicit) (ha:(xa == ("__debug__":Str))=dV) (hb:(xb == ("__debug__":Str))=dV) (gl:GB C "len" (.builtin "len")) (gs:GB C "sum" (.builtin "sum")) (hsum:("sum":Str)∈fx.gn) (hx:fx.ln[0]? = Si x) (hxs:xs=aW 11)
  (hattr:∀env,eval (.Attribute (.Name x ps) xs ap) env=(do
   let o ←eval (.Name x ps) env
   UG ap.atName
   let r ←holding [o] (PySem.getAttr o xs Sk)
   V3 (.Name x ps) o r
   pure r)) :
  IZ C fx (λenv=>env.code=.ref t.code) d body (.Call (.Name "sum" p) [.GeneratorExp (.BinOp (.Call (.Name "len" p1) [.Name xa p2] [] p3) .Add (.Call (.Name "len" p4) [.Name xb p5] [] p6) p7) [⟨.Tuple [.Name xa pa,.Name xb pb] kt pt,.Name x px,[],0⟩] scope gp,.Attribute (.Name x ps) xs ap] [] pos) E0:=by
 subst hxs
 intro A env σ fm st s kk R E Ve I F h
 refine aE (mR h) λv v0 h1=>?_
 refine dY h1 λv' e' h1=>?_
 cases e'
 refine iy h1 λn c d' fs l e81 ho h2=>?_;clear h1;subst e81
 refine aE (xd h2) λpl e81 h3=>?_;subst e81
 refine Xm (TB (bT Ok hok hsum gs E I ?_))
 refine Yj (P:=C.K.In) rfl ck ?_
 have fin:Ss C.M A (spliced (W9 pos (T4 [.GeneratorExp (.BinOp (.Call (.Name "len" p1) [.Name xa p2] [] p3) .Add (.Call (.Name "len" p4) [.Name xb p5] [] p6) p7) [⟨.Tuple [.Name xa pa,.Name xb pb] kt pt,.Name x px,[],0⟩] scope gp,.Attribute (.Name x ps) (aW 11) ap] env)))
   (λus s'=>C.K.In s'.heap/\Ss C.M A (call (.builtin "sum") ([]++us)) (Out C [] σ s kk) cM s') cM s:=by
  have bnd:∀p∈pl,p.1.length<1152921504606846976/\p.2.length<1152921504606846976:=by
   obtain⟨a,dx,es,m,vs,m',rfl,haσ,hdx,hox,hD,er,hvs,IA⟩:=I.lsub ho
   obtain⟨_,w,en,hf,hvv,h4⟩:=qE er h3
   refine aO h4 λi e81 h5=>?_;subst e81
   refine aM h5 λq1 h6=>?_
   refine aM h6 λq2 h7=>?_
   rw[gx] at q1
   have q1:=S8 q1
   have q2:=(dg q2).2
   rw[jI] at q2
   intro p hp
   have:=HR (UQ (f:=λp:Sj Nat×Sj Nat=>p.1++p.2) hp)
   rw[SY] at this
   omega
  refine Va (E7 Ok J JS B k hl Ve hok R E I F sc hx v0 ho (DZ Ok gl sc hlen ha hb bnd) λg s' S' G' I'=>?_) rfl
  obtain⟨fp,wr,G,Sg,W,st0,hfp,hg,hT,new,after⟩:=G'
  have F':=S'.fr0 F
  obtain⟨a,dx,es,m,vs,m',rfl,haσ,hdx,hox,hD,er,hvs,IA⟩:=I'.lsub ho
  refine aE (F'.ns) λmm hns hv=>?_
  refine aE (hv 0 _ _ hx v0) λu hu ru=>?_
  have:u=.ref a:=ru.at_ haσ
  subst this
  have mx:x∈fx.ln:=Su hx
  obtain⟨_,w,en,hf,hvv,h4⟩:=qE er h3
  refine aO h4 λi e81 h5=>?_;clear h4;subst e81
  refine aM h5 λq1 h6=>?_;clear h5
  refine aM h6 λq2 h7=>?_;clear h6
  have hvv':∃ti,en.val=.int i ti:=by
   generalize en.val=ev at hvv
   exact VR.int_e hvv λti=>⟨ti,rfl⟩
  refine bG hvv' λti hti=>?_
  refine Va (Zi (V0 (T8 E.kind (E.ln x mx) hns hu (rz (I'.X Ok) J IA (lK (J.cd 2 (bo rfl)) (J.at_ 2 (bo rfl) 11 (bo rfl)) (fN hf)) (by rw[hti];rfl) ?_)) (Fx.ok_ln hok mx)) (hattr env)) rfl
  rw[hti]
  refine Yw ⟨I'.X Ok,?_⟩
  refine lV (W.in4_1.self 0 _ _ _ (W.frame 0 s' _ _ st0 (T2 _) λ_ _ _ e=>e) ?_)
  refine⟨_,_,_,_,_,_,_,λj=>(pl.map λp=>((p.1++p.2).length:Int)).getD j 0,rfl,W.in4_1,W.frame 0 s' _ _ st0 (T2 _) λ_ _ _ e=>e,hfp,λj v hv=>?_,λs'' t' hm=>?_⟩
  ·obtain⟨p,hp,t,rfl⟩:=hv
   exact⟨t,by simp[TR,hp]⟩
  ·have hm':Moved wr G s' s'':=Moved.start (s:=s') (s':={ s' with toks:=s'.toks+1 }) rfl rfl rfl rfl (T2 _) hm
   refine kS (after s'' hm') λI'' keep gb=>?_
   have e1:Xf (λj=>(pl.map λp=>((p.1++p.2).length:Int)).getD j 0) pl.length=(pl.map λp=>((p.1++p.2).length:Int)).sum:=by
    rw[rj _ _ (by simp),UP (by simp)]
   rw[e1]
   rw[jI,Ud] at h7
   refine⟨σ,_,st,⟨⟨[],by simp,λ_ h=>nomatch h⟩,λb o nb _ eb=>?_,hm'.os.trans S'.os,λh=>gb (S'.gens h)⟩,I'',.int _ _,h7⟩
   exact keep b o (λm=>by rw[new b m] at eb;cases eb) (S'.keep b o nb (λh=>nomatch h) eb)
 exact WO fin
theorem Au (Ok:C.Ok)(J:cJ C)(JS:eP C)(B:mH C){t:lX}(k:jm C t)(hl:t.lam=dV)(hok:fx.ok=Sk){body:Sj Stmt}{p1 p2 p3 p4 q1 qa q gp:Pos}{kt':Nat} (sc:nJ scope xa xb)
  (hy:scope.names.lookup y=Si NameKind.globalImplicit) (hyd:(y == ("__debug__":Str))=dV) (ha:(xa == ("__debug__":Str))=dV) (hb:(xb == ("__debug__":Str))=dV) (g:GB C y (.str ⟨([]:Sj Nat).toArray⟩ tk)) (hyg:y∈fx.gn) (hx:fx.ln[0]? = Si x)
  (hm:d6 (.Name y p1) "join" apos [.Tuple [.Name xa p2,.Name xb p3] kt p4] q) (hm':d6 (.Name y q1) "join" qa [.GeneratorExp (.Call (.Attribute (.Name y p1) "join" apos) [.Tuple [.Name xa p2,.Name xb p3] kt p4] [] q) [⟨.Tuple [.Name xa pa,.Name xb pb] kt' pt,.Name x px,[],0⟩] scope gp] pos) :
  IZ C fx (λenv=>env.code=.ref t.code) d body (.Call (.Attribute (.Name y q1) "join" qa) [.GeneratorExp (.Call (.Attribute (.Name y p1) "join" apos) [.Tuple [.Name xa p2,.Name xb p3] kt p4] [] q) [⟨.Tuple [.Name xa pa,.Name xb pb] kt' pt,.Name x px,[],0⟩] scope gp] [] pos) CL:=by
 intro A env σ fm st s kk R E Ve I F h
 refine aE (mR h) λv v0 h1=>?_
 refine dY h1 λv' e' h1=>?_
 cases e'
 refine iy h1 λn c d' fs l e81 ho h2=>?_;clear h1;subst e81
 refine aM h2 λhlen h2=>?_
 refine aE (xd h2) λpl e81 h3=>?_;subst e81
 refine aM h3 λhcat h4=>?_;clear h3
 have hcat:=bU hcat
 have hlen:=bU hlen
 rw[aC] at hcat hlen
 rw[S6] at hlen
 have bnd:∀p∈pl,p.1.length<=4095/\p.2.length<=4095:=by
  intro p hp
  rw[wv,Sj.length_flatten,Ud] at hcat
  have key:∀(l:Sj Nat) (x:Nat),x∈l->x<=l.sum:=λl x m=>by
   induction l with
   | nil=>cases m
   | cons y l ih=>
    rw[Vv]
    rcases SD.mp m with rfl | m
    ·lia
    ·have:=ih m;lia
  have:(p.1++p.2).length<=(pl.map (Sj.length ∘ λp=>p.1++p.2)).sum:=key _ _ (UQ (f:=Sj.length ∘ λp:Sj Nat×Sj Nat=>p.1++p.2) hp)
  rw[SY] at this
  lia
 refine Xm (vV Ok ⟨E.kind,E.glob,E.blt,I.X Ok,I.base⟩ hm' (E.gn y hyg) hyd g ⟨λ_ _=>rfl,.inr ⟨_,_,rfl,λ_=>rfl⟩⟩ ?_)
 refine E7 Ok J JS B k hl Ve hok R E I F sc hx v0 ho (B1 Ok g sc hy hyd ha hb hm bnd) λgg s' S' G' I'=>⟨I'.X Ok,?_⟩
 obtain⟨fp,wr,G,Sg,W,st0,hfp,hg,hT,new,after⟩:=G'
 refine SC.joinGen W.in4_2 hT st0 hfp hg (λi v hv=>by obtain⟨p,_,t,rfl⟩:=hv;exact⟨_,_,rfl⟩) (λs'' l hm it=>?_) (by show _<=2 ^ 24;lia)
 refine kS (after s'' hm) λI'' keep gb=>?_
 have el:l.map (·.1)=(pl.map λp=>p.1++p.2).map λx=>(⟨x.toArray⟩:Str):=by
  apply aal
  intro j
  rw[TM,TM,TM]
  cases e:l[j]? with
  | none=>
   have:pl[j]? = none:=by
    rw[We] at e ⊢
    have:=it.1
    simp[YD] at this
    lia
   rw[this];rfl
  | some q=>
   obtain⟨p,hp,t,hv⟩:=it.2 j (.str q.1 q.2) (by simp[YD,e])
   rw[hp]
   have:q.1=⟨(p.1++p.2).toArray⟩:=by injection hv
   rw[Uz,Uz,Uz,this]
 rw[el]
 refine⟨sD (by simp) (by rw[jW];lia),λt' k=>?_⟩
 rw[sI,jW]
 exact⟨σ,_,st,⟨⟨[],by simp,λ_ h=>nomatch h⟩,λb o nb _ eb=>keep b o (λm=>by rw[new b m] at eb;cases eb) (S'.keep b o nb (λh=>nomatch h) eb),hm.os.trans S'.os,λh=>gb (S'.gens h)⟩,I''.grow λ_ _ e=>e,.str _ _,h4⟩
end
section
variable {prog:Program}{w:World}{A:Around}{E:Value->Shared->Prop}{s:Shared}
theorem Hj (x y z u:Int):yR (x,y) (z,u)=if x=z then decide (y<u) else decide (x<z):=by
 show aD (AK x z) Sk (aD (jf x z) (AK y u) dV)=_
 rw[j7,dt,j7]
 by_cases q:x=z
 ·subst q
  rw[SX rfl,Tt (Int.lt_irrefl x),Tu (rfl:x=x)];rfl
 ·rw[SK q,Tt q]
  cases decide (x<z) <;> rfl
theorem DI {x y z u:Int}{t1 t2 t3 t4:Tok} (hu:A.units<cLine)(ha:s.heap.get? a=Si (cK [.int x t1,.int y t2] n))(hb:s.heap.get? b=Si (cK [.int z t3,.int u t4] m))
  (h:∀tk,Q (.bool (yR (x,y) (z,u))) { s with toks:=tk }):Ss (model prog w) A (richCompare .Lt (.ref a) (.ref b)) Q E s:=by
 have hTa:s.TypeIs (.ref a) "tuple":=⟨_,ha,rfl⟩
 have hTb:s.TypeIs (.ref b) "tuple":=⟨_,hb,rfl⟩
 refine wpAny_richCompare_same_room hTa hTb Y7 (Uh Y7 hTa PySem.F.entry_tuple_lt ?_ (PySem.F.args_tuple_lt_2 _ _)) hu
 unfold Builtin.«tuple.__lt__»
 refine kV (TT (a:=(.ref a,[.ref b])) rfl ?_)
 dsimp only
 refine kV (Vg hTb isSubtype_tuple_tuple ?_)
 skip
 refine kV (wpAny_tupleItemsOf ha rfl (kV (wpAny_tupleItemsOf hb rfl ?_)))
 have lt:∀{i j:Int} {ti tj:Tok} {A':Ue} {E':Sr->Sw->Prop} {Q':Sr->Sw->Prop},Q' (.bool (decide (i<j))) s->Ss (model prog w) A' (richCompare .Lt (.int i ti) (.int j tj)) Q' E' s:=λh=>richCompare_gives (op:=.Lt) (Xa s _ _) (Xa s _ _) PySem.F.slot_int_lt PySem.F.entry_int_lt (PySem.F.args_int_lt_2 _ _) (gives_int_lt _ _ _ _) (λx=>nomatch x) h
 have h:=h s.toks
 rw[Hj] at h
 refine kV (kV (kV (wpAny_eqBool_int ?_)))
 by_cases q:x=z
 ·subst q
  rw[SX rfl] at h
  refine wN (ne_true_of_eq_false (SU not (beq_self_eq_true _))) ?_
  refine Sl (kV (kV (wpAny_eqBool_int ?_)))
  by_cases q:y=u
  ·subst q
   refine wN (ne_true_of_eq_false (SU not (beq_self_eq_true _))) ?_
   rw[Tt (Int.lt_irrefl y)] at h
   exact Sl (Sl (Sl ⟨_,rfl,(λz=>nomatch z),h⟩))
  ·refine wP (SU not (beq_eq_false_iff_ne.mpr q)) ?_
   refine kV (U5 (kV (lt ?_)))
   exact kV (Sl (Sl (Sl (Sl ⟨_,rfl,(λz=>nomatch z),h⟩))))
 ·rw[SK q] at h
  refine wP (SU not (beq_eq_false_iff_ne.mpr q)) ?_
  refine kV (U5 (kV (lt ?_)))
  exact kV (Sl (Sl (Sl (Sl ⟨_,rfl,(λz=>nomatch z),h⟩))))
def uD (h:Heap)(vs:Sj Sr)(ps:Sj (Int×Int)):Prop:=vs.length=ps.length/\∀(i:Nat)(p:Int×Int),ps[i]? = Si p->∃T n x y,vs[i]? = Si (T9 T)/\h.get? T=Si (cK [.int p.1 x,.int p.2 y] n)
noncomputable def bA (ps:Sj (Int×Int)):Nat->Nat
 | 0=>0
 | j+1=>if yR (ps.getD (j+1) (0,0)) (ps.getD (bA ps j) (0,0))=Sk then j+1 else bA ps j
theorem ko (ps:Sj (Int×Int)):∀j,bA ps j<=j
 | 0=>SW _
 | j+1=>by
  unfold bA
  have:=ko ps j
  split <;> lia
structure Bl (h:Heap)(I l S:Sx)(vs:Sj Sr)(ps:Sj (Int×Int))(base:Heap)(j:Nat):Prop where
 it:h.IsListIter I l j
 seq:∃n,h.get? l=Si (cB vs n)
 pairs:uD h vs ps
 keep:∀b o,b≠I->b≠S->base.get? b=Si o->h.get? b=Si o
theorem Ao {I l S:Sx} {ps:Sj (Int×Int)}{base:Heap}{R:Result->Sw->Prop}(hh:A.handled=none)(hu:A.units+10<cLine)(hIl:l≠I)(hSl:l≠S)(hIS:I≠S)(hT:∀T,T9 T∈vs->T≠I/\T≠S) (hp:prog=C.prog)(hw:w=C.w) :
  ∀(k j:Nat) (s:Sw) (c:Nat) (vb:Sr),ps.length - (j+1)=k->j+1<=ps.length->Bl s.heap I l S vs ps base (j+1)->vs[bA ps j]? = Si vb ->
  s.heap.get? S=Si { cls:=.type "list",dict:=none,data:=.seq #[vb,vb] c,slots:=#[] } ->
  (∀v s' ,vs[bA ps (ps.length - 1)]? = Si v->(∀b o,b≠I->b≠S->base.get? b=Si o->s'.heap.get? b=Si o)->s'.os=s.os->s'.gens=s.gens->R (.ok (.ret v)) s')->U4 (model prog w) A (.builtin "min.loop" ⟨[.ref I,.none,.ref S],[]⟩) R s:=by
 subst hp hw
 have hname:(toString "min" ++ toString ".loop":String)="min.loop":=by decide
 intro k
 induction k with
 | zero=>
  intro j s c vb hk hj L hb hS hR
  have hin:j+1=ps.length:=UR hj (VV hk)
  refine US W2 ?_
  rw[U2 Ur _]
  refine kV (m:=Wy (.ref S)) (T6 hS rfl ?_)
  refine bG (L.seq) λn hl=>?_
  refine kV (m:=tryCatch (UO (.ref I)) _) (W0 (tK hh L.it ⟨_,_,hl,rfl⟩ (by simp[L.pairs.1,hin]) λh' hx=>?_))
  have hS':=hx S _ (Ne.symm hIS) hS
  refine kV (m:=ZF S (λ_=>#[])) (U6 hS' rfl (kV (Vs (Sl (hR vb _ ?_ ?_ rfl rfl)))))
  ·rw[←hin];exact hb
  ·intro b o h1 h2 e
   exact(Heap.get?_update_other _ _ (Ne.symm h2)).trans (hx b o h1 (L.keep b o h1 h2 e))
 | succ k ih=>
  intro j s c vb hk hj L hb hS hR
  have hlt:j+1<ps.length:=Y8 hk
  refine US W2 ?_
  rw[U2 Ur _]
  refine kV (m:=Wy (.ref S)) (T6 hS rfl ?_)
  refine bG (L.seq) λn hl=>?_
  refine mz (L.pairs.2 (j+1) _ (Sz hlt)) λT nT xT yT e1 e2=>?_
  have hbl:bA ps j<ps.length:=Tn (ko ps j) (Nat.lt_of_succ_lt hlt)
  refine mz (L.pairs.2 (bA ps j) _ (Sz hbl)) λU nU xU yU f1 f2=>?_
  rw[hb] at f1
  cases f1
  have tT:=hT T (Su e1)
  have tU:=hT U (Su hb)
  refine kV (m:=tryCatch (UO (.ref I)) _) (W0 (jR L.it ⟨_,_,hl,rfl⟩ (x:=.ref T) (by simpa using e1) λh' hit hs=>?_))
  have kp:∀b o,b≠I->s.heap.get? b=Si o->h'.get? b=Si o:=λb o hb e=>hs.extBut b o hb e
  have hS':=kp S _ (Ne.symm hIS) hS
  show Ss _ A.in1 (tryCatch (holding [T9 T,T9 T] (richCompare .Lt (.ref T) (.ref U) >>= _)) _ >>= _) _ _ _
  refine kV (W0 (SR (kV (DI (A:=A.in1) (Tn (Tw (bo rfl) A.units) hu) (kp T _ tT.1 e2) (kp U _ tU.1 f2) λtk=>?_))))
  refine kV (SR (UL ?_))
  refine kV (Vs (Sl ?_))
  have L':∀{g:Heap},(∀b o,b≠S->h'.get? b=Si o->g.get? b=Si o)->g.IsListIter I l (j+1+1)->Bl g I l S vs ps base (j+1+1):=λ{g} hg hi=>⟨hi,⟨n,hg l _ hSl (kp l _ hIl hl)⟩,⟨L.pairs.1,λi p e=>by
   refine mz (L.pairs.2 i p e) λT' n' x' y' a1 a2=>?_
   have t':=hT T' (Su a1)
   exact⟨T',n',x',y',a1,hg _ _ t'.2 (kp _ _ t'.1 a2)⟩⟩,λb o h1 h2 e=>hg b o h2 (kp b o h1 (L.keep b o h1 h2 e))⟩
  have gd:ps.getD (j+1) (0,0)=ps[j+1]:=by rw[TR,Sz hlt];rfl
  have gb:ps.getD (bA ps j) (0,0)=ps[bA ps j]:=by rw[TR,Sz hbl];rfl
  cases hc:yR (ps[j+1].1,ps[j+1].2) (ps[bA ps j].1,ps[bA ps j].2) with
  | true=>
   have hb':bA ps (j+1)=j+1:=by
    show(if yR (ps.getD (j+1) (0,0)) (ps.getD (bA ps j) (0,0))=Sk then j+1 else bA ps j)=_
    rw[gd,gb,SX hc]
   skip
   refine kV (U6 hS' rfl (kV (Vs ?_)))
   rw[hname]
   have keepS:∀b o,b≠S->h'.get? b=Si o->(h'.update S (S9 λ_=>#[.ref T,.ref T])).get? b=Si o:=λb o hb e=>(Heap.get?_update_other _ _ (Ne.symm hb)).trans e
   refine Sl ⟨Wo Ur _,ih (j+1) _ _ (.ref T) ((YX ..).trans (SU aaP hk)) hlt (L' keepS ?_) (by rw[hb'];exact e1) (Heap.get?_update_self _ hS' rfl) λv s'' hv hk ho hg=>hR v s'' hv hk ho hg⟩
   refine aE hit λo q1 q2=>?_
   exact⟨o,keepS _ _ hIS q1,q2⟩
  | false=>
   have hb':bA ps (j+1)=bA ps j:=by
    show(if yR (ps.getD (j+1) (0,0)) (ps.getD (bA ps j) (0,0))=Sk then j+1 else bA ps j)=_
    rw[gd,gb,SK (by show ¬yR ps[j+1] ps[bA ps j]=Sk;rw[show yR ps[j+1] ps[bA ps j]=dV from hc];decide)]
   skip
   refine kV (Vs ?_)
   rw[hname]
   exact Sl ⟨Wo Ur _,ih (j+1) _ c (.ref U) ((YX ..).trans (SU aaP hk)) hlt (L' (λ_ _ _ e=>e) hit) (by rw[hb'];exact hb) hS' λv s'' hv hk ho hg=>hR v s'' hv hk ho hg⟩
end
section
variable {C:Cfg}{fx:Fx}{d:Nat}{A:Around}{env:Env}{σ σ1:List Addr}{fm:Fm}{st:St}{s aaV:Shared}
theorem zE {k:V×Int×Int->Sm}(h:lJ v k=Sk):∃y:V×Int×Int,(y.1=v/\v=.tup [.int y.2.1,.int y.2.2])/\k y=Sk:=by
 refine lh h λl e81 h1=>?_;clear h;subst e81
 refine nY h1 λx y e81 h2=>?_;clear h1;subst e81
 refine aO h2 λa e81 h3=>?_;clear h2;subst e81
 refine aO h3 λb e81 h4=>?_;clear h3;subst e81
 exact⟨_,⟨rfl,rfl⟩,h4⟩
theorem Bm {k:Sj (V×Int×Int)->Sm}(h:d7 lJ l k=Sk):∃ps:Sj (Int×Int),l=ps.map (λp=>.tup [.int p.1,.int p.2])/\k (ps.map λp=>(.tup [.int p.1,.int p.2],p))=Sk:=by
 induction l generalizing k with
 | nil=>exact⟨[],rfl,h⟩
 | cons v l ih=>
  have h:lJ v (λy=>d7 lJ l λq=>k (y::q))=Sk:=h
  refine aE (zE h) λh80 h81 h1=>?_;obtain⟨y,a,b⟩:=h80;obtain⟨e1,e2⟩:=h81
  dsimp only at e1 e2
  subst e1
  subst e2
  refine aE (ih h1) λps e81 h2=>?_;subst e81
  exact⟨(a,b)::ps,rfl,h2⟩
theorem xM {ps:Sj (Int×Int)} (r:VRs σ h (ps.map λp=>V.tup [.int p.1,.int p.2]) vs):uD h vs ps/\∀T,T9 T∈vs->T∉σ/\(h.get? T).isSome=Sk:=
 dE (vX (g:=λp=>.int p.2) (P:=λp T=>∃n x y,h.get? T=Si (cK [.int p.1 x,.int p.2 y] n)) r λp T n a b e q1 q2=>by
  revert e
  exact VR.int_e q1 λx=>VR.int_e q2 λy e=>⟨n,x,y,e⟩) λh1 h2=>⟨⟨h1.1,λi p e=>aE (h1.2 i p e) λT a b=>zl b λn x y b=>⟨T,n,x,y,a,b⟩⟩,h2⟩
theorem yB (ps:Sj (Int×Int)):∀(k j:Nat),ps.length - (j+1)=k->j+1<=ps.length ->
  yx ((ps.map λp=>(V.tup [.int p.1,.int p.2],p)).drop (j+1)) ((λp:Int×Int=>(V.tup [.int p.1,.int p.2],p)) (ps.getD (bA ps j) (0,0)))=(λp:Int×Int=>V.tup [.int p.1,.int p.2]) (ps.getD (bA ps (ps.length - 1)) (0,0)):=by
 intro k
 induction k with
 | zero=>
  intro j hk hj
  have:j+1=ps.length:=UR hj (VV hk)
  rw[Sj.drop_of_length_le (by rw[S6];exact Ub this.symm),←this]
  rfl
 | succ k ih=>
  intro j hk hj
  have hlt:j+1<ps.length:=Y8 hk
  rw[Yb (by simpa using hlt)]
  have ih:=ih (j+1) ((YX ..).trans (SU aaP hk)) hlt
  have e:∀(x:V×Int×Int) r m,yx (x::r) m=@Ti (λ_=>V) (yx r m) (yx r x) (yR x.2 m.2):=λ_ _ _=>rfl
  rw[e]
  have gd:ps.getD (j+1) (0,0)=ps[j+1]:=by rw[TR,Sz hlt];rfl
  have hb:bA ps (j+1)=if yR (ps.getD (j+1) (0,0)) (ps.getD (bA ps j) (0,0))=Sk then j+1 else bA ps j:=rfl
  rw[gd] at hb
  simp only[Xh]
  cases hc:yR ps[j+1] (ps.getD (bA ps j) (0,0)) with
  | true=>
   rw[hc,SX rfl] at hb
   rw[hb,gd] at ih
   exact ih
  | false=>
   rw[hc,SK (by decide)] at hb
   rw[hb] at ih
   exact ih
theorem DF {f:α->β}{l:Sj α}{b:β}{m:Sj β}(e:l.map f=b::m):0<l.length:=by
 cases l with
 | nil=>cases e
 | cons=>exact YI _
theorem BG {f:α->β}{l:Sj α}{b:β}{m:Sj β}{d:α} (h:i=0)(e:l.map f=b::m):f (l.getD i d)=b:=by
 subst h
 cases l with
 | nil=>cases e
 | cons=>exact(Sj.cons.inj e).1
theorem zh:SF C d (.builtin "min") BH:=by
 intro A σ st s k l us R I r h
 refine dY h λv e81 h1=>?_;subst e81
 refine bN h1 λn e81 h2=>?_;clear h1;subst e81
 refine bC h2 λl hl h3=>?_;clear h2
 refine aE (Bm h3) λps e81 h4=>?_;subst e81
 refine mQ h4 λa m e5 h5=>?_;clear h4
 have hn:0<ps.length:=DF e5
 refine VRs.cons_e r λu _ ra rr=>VRs.nil_e rr (VR.ref_e ra λx e=>?_)
 clear ra rr r
 obtain⟨vs,mm,g,rv⟩:=I.list hl e
 refine dE (xM rv) λPA hT=>?_
 have hname:(toString "min" ++ toString ".loop":String)="min.loop":=by decide
 refine call_function_tree PySem.F.kind_min PySem.F.plain_min PySem.F.entry_min (PySem.F.args_min1 _) ?_
 show Ss _ A.in1 (VZ "min" ["key","default"] 0 ⟨[],[]⟩ >>= _) _ _ s
 refine kV (TT (show VZ "min" ["key","default"] 0 ⟨[],[]⟩=pure [none,none] from rfl) ?_)
 refine kV (Sl ?_)
 refine kV (WN ⟨_,g,rfl,_,rfl⟩ ?_)
 refine kV (TK ?_)
 rw[hname]
 have hx:x<s.heap.objs.size:=Heap.lt_size g
 have hTs:∀T,T9 T∈vs->T<s.heap.objs.size:=λT hm=>by
  refine bG (S7.mp (hT T hm).2) λo e=>?_
  exact Heap.lt_size e
 have sz1:(s.heap.push { cls:=.type "list_iterator",data:=.fields #[.ref x,.int 0 0] }).objs.size=s.heap.objs.size+1:=Heap.size_push ..
 refine Sl ⟨Wo Ur _,?_⟩
 refine US W2 ?_
 rw[U2 Ur _]
 refine kV (m:=Wy (.ref _)) (T6 (Heap.get?_push_size _ rfl) rfl ?_)
 refine mz (PA.2 0 _ (Sz hn)) λT nT xT yT e1 e2=>?_
 have up:∀b o,s.heap.get? b=Si o->((s.heap.push { cls:=.type "list_iterator",data:=.fields #[.ref x,.int 0 0] }).push { cls:=.type "list",data:=.seq #[] }).get? b=Si o:=λb o e=>bu _ _ (bu _ _ e)
 refine kV (m:=tryCatch (UO (.ref _)) _) (W0 (jR (C:=C) (i:=0) (l:=x) (items:=vs.toArray) ⟨_,bu _ _ (Heap.get?_push_size _ rfl),rfl,rfl⟩ ⟨_,_,up _ _ g,rfl⟩ (x:=.ref T) (by simpa using e1) λh' hit hs=>?_))
 refine kV (Sl ?_)
 have hIS:s.heap.objs.size≠(s.heap.push { cls:=.type "list_iterator",data:=.fields #[.ref x,.int 0 0] }).objs.size:=by rw[sz1];exact SP (S1 _)
 have kp:=λb o (hb:b≠s.heap.objs.size) e=>hs.extBut b o hb e
 have hS':=kp _ _ (Ne.symm hIS) (Heap.get?_push_size _ rfl)
 refine kV (m:=ZF _ (λ_=>#[.ref T,.ref T])) (U6 hS' rfl ?_)
 rw[hname]
 have old:∀b o,s.heap.get? b=Si o->(h'.update (s.heap.push { cls:=.type "list_iterator",data:=.fields #[.ref x,.int 0 0] }).objs.size (S9 λ_=>#[.ref T,.ref T])).get? b=Si o:=λb o e=>by
  have hb:=Heap.lt_size e
  rw[Heap.get?_update_other _ _ (by rw[sz1];exact(SP (To hb)).symm)]
  exact kp b o (SP hb) (up b o e)
 refine Sl ⟨Wo Ur _,Ao (C:=C) (l:=x) (vs:=vs) (ps:=ps) (base:=s.heap) R.handled (by have:=R.units;show A.units+10<9900;lia) (SP hx) (by rw[sz1];exact SP (To hx)) hIS (λT hm=>⟨SP (hTs T hm),by rw[sz1];exact SP (To (hTs T hm))⟩) rfl rfl _ 0 _ _ (.ref T) rfl hn ⟨?_,⟨_,old _ _ g⟩,⟨PA.1,λi p e=>?_⟩,λb o _ _ e=>old b o e⟩ e1 (Heap.get?_update_self _ hS' rfl) λv s' hv hk ho hg=>?_⟩
 ·refine aE hit λo q1 q2=>?_
  exact⟨o,(Heap.get?_update_other _ _ (Ne.symm hIS)).trans q1,q2⟩
 ·refine mz (PA.2 i p e) λT' n' x' y' a1 a2=>?_
  exact⟨T',n',x',y',a1,old _ _ a2⟩
 ·have keep:∀b o,s.heap.get? b=Si o->s'.heap.get? b=Si o:=λb o e=>hk b o (SP (Heap.lt_size e)) (by rw[sz1];exact SP (To (Heap.lt_size e))) e
  have hbl:bA ps (ps.length - 1)<ps.length:=by have:=ko ps (ps.length - 1);omega
  have S':Step [] σ s σ s':=⟨⟨[],by simp,λ_ h=>nomatch h⟩,λb o _ _ e=>keep b o e,ho,λh=>by rw[hg];exact h⟩
  refine aE (rv.get (i:=bA ps (ps.length - 1)) (Sz (by simpa using hbl))) λu hu ru=>?_
  rw[hv] at hu
  cases hu
  refine⟨σ,_,st,S',I.grow keep,S'.vr .nil ru,?_⟩
  have mb:=yB ps _ 0 rfl hn
  rw[e5,Sj.drop_succ_cons,Sj.drop_zero] at mb
  have mb:=(SU (yx m) (BG (i:=bA ps 0) (d:=(0,0)) rfl e5)).symm.trans mb
  rw[mb] at h5
  simp only[Xh]
  rw[TR,Sz hbl] at h5
  exact h5
end
section
variable {C:Cfg}{fx:Fx}{d:Nat}{A:Around}{env:Env}{σ σ1:List Addr}{fm:Fm}{st:St}{s aaV:Shared}
structure bY (C:Cfg)(fa:Sx)(fd:XX)(body:Sj Stmt)(ps:Sj (Sm×Nat))(xs:Sj Str):Prop where
 obj:∃o,C.K.lookup fa=Si o/\o.data=.func fd
 code:codeIn C.K fd.code fd.qualname=Sk
 body:fd.body=.stmts body
 glob:fd.globals=S4
 blt:fd.builtins=Ua
 co:fd.scope.isCoroutine=dV
 gen:fd.scope.isGenerator=dV
 sc:dT fd.scope=Sk
 par:nA (aR fd.scope) ps xs
 binds:∀us:Sj Sr,us.length=ps.length->∀s:Sw,C.K.In s.heap->Ug s fd ⟨us,[]⟩ (xs.zip us)
structure G5 (fa:Sx)(fd:XX)(env:Env):Prop where
 func:env.func=Si fa
 code:env.code=fd.code
 scope:env.scope=fd.scope
 cells:∀x,x∉au fd.scope .cell->env.cells.lookup x=fd.closure.lookup x
 qual:env.qual=fd.qualname ++ ".<locals>."
theorem br (Ok:C.Ok) {body:Sj Stmt} {xs:Sj Str}{c:CS}(O:bY C fa fd body ps xs)(hb:vf C (aR fd.scope) (G5 fa fd) d body body c) :
  eY C (d+1) (.ref fa) (bk ps (au fd.scope .local).length (au fd.scope .cell).length c):=by
 intro A σ st s k l us R I r h
 refine dE (eH h) λhlen h=>?_
 have hlen:=SQ hlen
 rw[aC,aC] at hlen
 refine aE (O.obj) λo ho hd=>?_
 have X:=I.X Ok
 refine W6 R.top (X _ _ ho) hd O.co O.gen O.body (Z6 X O.code) ?_
 refine O.binds us (r.length.trans hlen) s X _ _ _ _ ?_
 rw[O.glob]
 have q:=jw (A:=A.in1) (closure:=fd.closure) (q:=[]) (around:=none) (qual:=fd.qualname ++ ".<locals>.") (func:=Si fa) (code:=fd.code) O.sc O.blt O.par I r (Th _) (λi x _ h=>Tc h (U7 _)) (k:=λfm st=>c fm st λf _ st=>@Fl.rec (λ_=>Sm) (k .none st) dV dV (λv=>k v st) f) (by simpa using h)
 refine Sq q ?_ λ_ _ e=>e.elim
 rintro env s' ⟨σ',fm',st',E,e1,e2,e3,e4,S',I',F',dL,h'⟩
 refine⟨(Ok.T.nolimit.keeps I'.base),ks_codeAny_funcAt ?_⟩
 refine WZ (hb (A.deeper env) env σ' fm' st' s' _ R.deeper E ⟨e2,(e3 rfl).1,e1,e4,(e3 rfl).2⟩ I' F' h') ?_ λ_ _ e=>e.elim
 rintro f s'' ⟨σ'',fl,fm'',st'',S'',I'',F'',q,h''⟩
 have S:Step [] σ s σ'' s'':=(S'.up.trans S'').more λb m=>.inr (by rw[Sn.mp m];exact dL)
 induction fl with
 | nxt=>induction f <;> first | exact q.elim | exact⟨σ'',.none,st'',S,I'',.none,h''⟩
 | brk=>exact ff h''
 | cnt=>exact ff h''
 | ret v=>induction f <;> first | exact q.elim | exact⟨σ'',v,st'',S,I'',q,h''⟩
theorem iu {EP EP':Env->Prop}{body x:Sj Stmt}{c:CS}(h:vf C fx EP d body x c)(he:∀env,EP' env->EP env):vf C fx EP' d body x c:=λA env σ fm st s k R E P I F q=>h A env σ fm st s k R E (he env P) I F q
theorem kn (x:G5 fa fd env)(sc:dT fd.scope=Sk)(hc:fd.closure.lookup ("__class__":Str)=Si 168)(hf:("__class__":Str)∈au fd.scope .free)(hs:("super":Str)∈(aR fd.scope).gn)(h0:(aR fd.scope).ln[0]? = Si ("self":Str)):io (aR fd.scope) env fa fd:=by
 simp only[dT,Ta,decide_eq_true_eq] at sc
 have hl:=cH sc.1.2 (dm hf)
 refine⟨x.func,x.code,(x.cells _ λm=>?_).trans hc,by unfold YR;rw[x.scope];exact hl,hs,h0⟩
 have:=cH sc.1.2 (dm m)
 rw[hl] at this
 exact nomatch this
theorem ui {b t t':Sm}(h:t=Sk->t'=Sk)(x:aD b t dV=Sk):aD b t' dV=Sk:=by
 refine aM x λe81 y=>?_;clear x;subst e81
 exact h y
theorem vv {k k':Nat->Sm}(h:∀n,k n=Sk->k' n=Sk)(x:bB v k=Sk):bB v k'=Sk:=by
 refine bN x λn e81 y=>?_;clear x;subst e81
 exact h n y
theorem vk {k k':Int->Sm}(h:∀n,k n=Sk->k' n=Sk)(x:aG v k=Sk):aG v k'=Sk:=by
 refine aO x λn e81 y=>?_;clear x;subst e81
 exact h n y
theorem yt {t:T}:∀{i:Nat}{k k':O->Sm},(∀o,k o=Sk->k' o=Sk)->t.get i k=Sk->t.get i k'=Sk:=by
 induction t with
 | nil=>intro i k k' _ x;exact ff x
 | node v l r ihl ihr=>
  intro i k k' h x
  induction i with
  | zero=>exact h v x
  | succ j=>
   have x:@Ti (λ_=>Sm) (r.get (Xj j 2) k) (l.get (Xj j 2) k) (SN (YH j 2) 0)=Sk:=x
   show @Ti (λ_=>Sm) (r.get (Xj j 2) k') (l.get (Xj j 2) k') (SN (YH j 2) 0)=Sk
   cases q:SN (YH j 2) 0 with
   | true=>rw[q] at x;exact ihl h x
   | false=>rw[q] at x;exact ihr h x
theorem vN {k k':Nat->Nat->Sj (Nat×V)->Sj V->Sm}(h:∀c d f l,k c d f l=Sk->k' c d f l=Sk)(x:rE o k=Sk):rE o k'=Sk:=by
 refine xh x λc d f l e81 y=>?_;clear x;subst e81
 exact h c d f l y
theorem mC {k k':Nat->Nat->Nat->Sj (Nat×V)->Sj V->Sm}(h:∀n c d f l,k n c d f l=Sk->k' n c d f l=Sk)(x:fi v st k=Sk):fi v st k'=Sk:=
 vv (λn y=>yt (λ_ z=>vN (λc d f l w=>h n c d f l w) z) y) x
theorem kz {f:α->(β->Sm)->Sm}(hf:∀x (k k':β->Sm),(∀y,k y=Sk->k' y=Sk)->f x k=Sk->f x k'=Sk):∀{l:Sj α}{k k':Sj β->Sm},(∀q,k q=Sk->k' q=Sk)->d7 f l k=Sk->d7 f l k'=Sk
 | [],_,_,h,x=>h _ x
 | a::l,k,k',h,x=>by
  have x:f a (λy=>d7 f l λq=>k (y::q))=Sk:=x
  show f a (λy=>d7 f l λq=>k' (y::q))=Sk
  exact hf a _ _ (λy z=>kz hf (λq w=>h _ w) z) x
theorem kE {k k':Sj Nat->Sm}(h:∀y,k y=Sk->k' y=Sk)(x:dC v k=Sk):dC v k'=Sk:=by
 refine lh x λl e81 h1=>?_;subst e81
 refine nY h1 λx y e81 h2=>?_;clear h1;subst e81
 refine dh h2 λa e81 h3=>?_;clear h2;subst e81
 refine dh h3 λb e81 h4=>?_;clear h3;subst e81
 exact h _ h4
theorem ju {x:Nat}{k k':V->Sm}(h:∀v,k v=Sk->k' v=Sk):∀{fs:Sj (Nat×V)},dM fs x k=Sk->dM fs x k'=Sk
 | [],z=>by exact ff z
 | p::fs,z=>by
  have z:aD (SN p.1 x) (k p.2) (dM fs x k)=Sk:=z
  show aD (SN p.1 x) (k' p.2) (dM fs x k')=Sk
  rcases dF z with ⟨q,w⟩ | ⟨q,w⟩
  ·rw[q];exact h _ w
  ·rw[q];exact ju h w
theorem mD {k':V->St->Sm}(h:∀i:Int,0<=i->i<1152921504606846976->k (.int i) st=Sk->k' (.int i) st=Sk)(x:fk [v] st k=Sk):fk [v] st k'=Sk:=by
 have x:fi v st (λ_ _ _ fs l=>d7 dC l λxs=>dM fs 11 λv=>aG v λi=>aD (qv 0 i) (aD (small (gr xs i)) (k (.int (gr xs i)) st) dV) dV)=Sk:=x
 show fi v st (λ_ _ _ fs l=>d7 dC l λxs=>dM fs 11 λv=>aG v λi=>aD (qv 0 i) (aD (small (gr xs i)) (k' (.int (gr xs i)) st) dV) dV)=Sk
 refine mC (λn c d f l y=>?_) x
 refine kz (f:=dC) (λ_ _ _=>kE) (λq y=>?_) y
 refine ju (λv y=>?_) y
 refine vk (λi y=>?_) y
 refine dE (eH y) λq1 y=>?_
 refine dE (eH y) λq2 y=>?_
 rw[q1,q2]
 rw[gx] at q1
 have q1:=S8 q1
 have q2:=dg q2
 have e:=jI q i
 have pos:∀l:Sj (Sj Nat),(0:Int)<=(l.map λx=>(x.length:Int)).sum:=λl=>by
  induction l with
  | nil=>simp
  | cons z l ih=>rw[Tx,Vv];lia
 have:=pos q
 exact h _ (by lia) q2.2 y
noncomputable def FG (k:Int->St->Sm)(v:V)(st:St):Sm:=aG v λi=>aD (qv 0 i) (aD (decide (i<1152921504606846976)) (k i st) dV) dV
theorem tR {a dx:Nat} (Ok:C.Ok)(hs:Uq C.K (.ref 244) "__len__"=Si (Si (.ref 211)))(hf:YS C.K (.ref 211)=Si (.type "function"))(hF:eY C d' (.ref 211) fk)(R:Rm d' A)(I:Inv C σ st s)(ha:σ[n]? = Si a)
  (ho:st.look n=Si (.lsub c dx fs l)) {k:Int->St->Sm} (h:fk [.ref n] st (λv st=>aG v λi=>k i st)=Sk)
  (hQ:∀i t σ' st' s',0<=i->Step [] σ s σ' s'->Inv C σ' st' s'->k i st'=Sk->Q (.int i t) s'):Ss C.M A (Builtin.«len» ⟨[.ref a],[]⟩) (λfin s'=>∃v,fin=.done (.ret v)/\Q v s') cM s:=by
 obtain⟨b,dx',es,m,vs,m',rfl,hb,hdx,hox,hD,er,hvs,IA⟩:=I.lsub ho
 rw[ha] at hb
 cases hb
 unfold Builtin.«len»
 refine kV (m:=oneArg "len" _) (Sl ?_)
 have h':fk [.ref n] st (FG k)=Sk:=mD (λi h0 h1 h2=>by
  show aD (qv 0 i) (aD (decide (i<1152921504606846976)) (k i st) dV) dV=Sk
  rw[gx,Tu h0,Tu h1]
  exact h2) h
 refine kV (m:=XK (.ref a) (TY "__len__")) (special_fn (I.X Ok) IA hs hf (Sq (lS hF A σ st s (FG k) [.ref n] [.ref a] R I (.cons (.ref ha) .nil) h') ?_ λ_ _ e=>e))
 rintro u s' ⟨σ',v,st',S',I',r',h2⟩
 refine aO h2 λi e81 h3=>?_;clear h2;subst e81
 refine aM h3 λq1 h4=>?_;clear h3
 refine aM h4 λq2 h5=>?_;clear h4
 rw[gx] at q1
 have q1:=S8 q1
 have q2:=S8 q2
 refine VR.int_e r' λt=>?_
 clear r'
 refine kV (SR (Sl ?_))
 refine kV (Vs ?_)
 show Ss _ _ (if i<0 then _ else _) _ _ _
 refine wN (by lia) ?_
 show Ss _ _ (if i≥2 ^ 63 then _ else _) _ _ _
 refine wN (by lia) ?_
 refine kV (wpAny_mkInt (Sl ⟨_,rfl,hQ i _ σ' st' _ q1 (S'.trans (Step.all (λ_ _ e=>e))) (I'.grow λ_ _ e=>e) h5⟩))
theorem Am (Ok:C.Ok)(hs:Uq C.K (.ref 244) "__len__"=Si (Si (.ref 211)))(hf:YS C.K (.ref 211)=Si (.type "function"))(hF:eY C d' (.ref 211) fk):NX C (d'+1) (.builtin "len") fk:=by
 intro A σ st s k n a c dx fs l R I ha ho h
 refine Calls.call_function_entry kind_len plain_len entry_len (args_len1 _) ?_
 refine tR Ok hs hf hF R.in1 I ha ho (k:=λi st=>k (.int i) st) (mD (λi _ _ h=>h) h) ?_
 intro i t σ' st' s' _ S' I' h'
 exact⟨σ',_,st',S',I',.int _ _,h'⟩
theorem tsub (Ok:C.Ok)(hb:Uq C.K (.ref 244) "__bool__"=Si none)(hs:Uq C.K (.ref 244) "__len__"=Si (Si (.ref 211)))(hf:YS C.K (.ref 211)=Si (.type "function"))(hF:eY C d' (.ref 211) fk):TSub C (d'+1):=by
 intro A σ st s k n a c dx fs l R I ha ho h
 obtain⟨b,dx',es,m,vs,m',rfl,hb',hdx,hox,hD,er,hvs,IA⟩:=I.lsub ho
 rw[ha] at hb'
 cases hb'
 have X:=I.X Ok
 unfold truthy
 refine kV (m:=XK (.ref a) (TY "__bool__")) ?_
 unfold XK
 refine kV (kV (IA.type.here ((T3 X hb).here (Sl ?_))))
 dsimp only
 refine kV (kV (IA.type.here ((T3 X hs).here ?_)))
 refine im rfl ?_
 refine kV (wpAny_runValue (US entry_len ?_))
 rw[U2 plain_len _]
 refine Sq (tR Ok hs hf hF R.in1 I ha ho (k:=λi st=>k (ee (jf i 0)) st) h (Q:=λv s'=>∃i t,v=.int i t/\OutB C σ s k (ee (jf i 0)) s') λi t σ' st' s' _ S' I' h'=>⟨i,t,rfl,σ',st',S',I',h'⟩) ?_ λ_ _ e=>e.elim
 rintro _ s' ⟨_,rfl,i,t,rfl,q⟩
 refine Sl ?_
 rw[fJ,dt] at q
 have e:(i != 0)=!decide (i=0):=by by_cases z:i=0 <;> simp[z]
 rw[e]
 exact q
theorem vJ {k':V->St->Sm}(h:∀x,k (.str x) st=Sk->k' (.str x) st=Sk)(x:or [v] st k=Sk):or [v] st k'=Sk:=by
 have x:fi v st (λ_ _ _ _ l=>aD (aB (aK l)) (d7 dC l λxs=>aD (aB (aK (jG xs))) (k (.str (jG xs)) st) dV) dV)=Sk:=x
 show fi v st (λ_ _ _ _ l=>aD (aB (aK l)) (d7 dC l λxs=>aD (aB (aK (jG xs))) (k' (.str (jG xs)) st) dV) dV)=Sk
 refine mC (λn c d f l y=>?_) x
 refine ui (λy=>?_) y
 refine kz (f:=dC) (λ_ _ _=>kE) (λq y=>?_) y
 exact ui (λy=>h _ y) y
theorem IV (Ok:C.Ok)(hs:Uq C.K (.ref 244) "__str__"=Si (Si (.ref 218)))(hf:isFn C.K (.ref 218)=Sk)(hF:eY C d' (.ref 218) or):SF C (d'+2) (.type "str") uI:=by
 intro A σ st s k l us R I r h
 refine dY h λv e81 h1=>?_;subst e81
 refine iy h1 λn c dd fs l e81 ho h2=>?_;clear h1;subst e81
 obtain⟨a,dx,es,m,vs,m',rfl,ha,hdx,hox,hD,er,hvs,IA⟩:=I.lsub ho
 refine VRs.cons_e r λu _ ra rr=>VRs.nil_e rr (VR.ref_e ra λb e=>?_)
 clear r ra rr
 cases ha.symm.trans e
 refine kso_call (by have:=R.units;show A.units+1+1<9900;lia) (I.X Ok) IA hs hf ?_
 refine Sq (lS hF A.in1.in1 σ st s (λv st=>dB v λx=>k (.str x) st) [.ref n] [.ref a] R.in1.in1 I (.cons (.ref ha) .nil) (vJ (λx z=>z) h)) ?_ λ_ _ e=>e
 rintro u s' ⟨σ',v,st',S',I',r',h'⟩
 refine dh h' λx e81 h3=>?_;clear h';subst e81
 exact VR.str_e r' λt=>⟨σ',_,st',S',I',.str _ _,h3⟩
end
end Mine.Internal
namespace Mine
section
set_option Elab.async true
theorem hd0.tw3310931918178840333:True:=⟨⟩
section
local macro_rules | `(tactic| o_head $_)=>`(tactic| exact False.elim (by assumption))
theorem hd0:False->PySem.Challenge.rw_xl0030_01.Holds:=by
 intro hF
 w_on
 o_law
 k_head
end
end
end Mine
namespace Mine.Internal
open PySem PySem.Spec PySem.Calls PyProof.Rows PySem.W Builtin Builtin.ObjectAttr
open _root_.Bool renaming false→dV,true→Sk,and_eq_true→Ta,rec→Ti,noConfusion→UA,false_ne_true→VD,not_eq_true'→VY,true_and→Wi,false_and→WE,and_false→WH,or_eq_false_iff→Xp,and_eq_true_iff→Zs
open _root_.PySem renaming wpAny_bind→kV,wpAny_pure→Sl,wpAny_mono→Sq,Value→Sr,wpAny→Ss,Shared→Sw,Addr→Sx,wpAny_holding→SR,mainGlobals→S4,foldedSetIterable→Tv,wpAny_Call_Name_kw→TB,letOwnedTupleGo→TC,wpAny_standAt→TF,wpAny_field→TH,wpAny_newObj_type→TK,wpAny_of_eq→TT,starEach→T4,wpAny_seqItems→T6,wpAny_callSpecial?_slot→T7,wpAny_loadName_local→T8,builtinsNs→Ua,assignEach→Uc,Around→Ue,BindsTo→Ug,wpAny_call_entry→Uh,IsRangeIter→Uk,wpAny_storeName_local→Ut,seg_execs_cons→Uw,slot_list_append→UD,standAt→UG,IsPair→UI,wpAny_truthy_bool→UL,wpAny_call→UM,isInstance→UN,pyNext→UO,codeAny_builtin→US,DictEntry→UW,sizeLine→U0,codeAny_call_builtin→U1,codeAny→U4,wpAny_rule→U5,wpAny_updateSeq→U6,isTrue→Vb,sizeLine_eq→Vc,builtinKind→Vd,wpAny_isInstance→Vg,type_list_append→Vh,PyData→Vi,slot_listiter_next→Vj,wpAny_setField_rec→Vl,numAt→Vm,wpAny_specialOf→Vn,wpAny_letGo→Vs,wpAny_attempt→Vu,checkBoundCall→Vx,clipAt→VB,rawInt→VC,newEnv→VF,codeAny_mono→VG,getAttrByItsOwn→VK,IsZip→VN,swapsWith→VO,swappedStores→VP,wpAny_isTrue_Compare1→VS,slot_list_getitem→VX,wpAny_Name→V0,letTemporaryGo→V3,typeIs_str→V4,wpAny_listPart→V5,seqIndex?→Wb,plainId_quiet→Wo,theTreesLotGoes→Wr,wpAny_Constant_int→Wt,call_meets→Wu,argsOk→Ww,seqItems?→Wy,getMethod→Wz,boundAndCalled→WI,wpAny_loadPart→WK,wpAny_pyNext_list_item→WM,wpAny_pyIter_list→WN,IsRange→WQ,wpAny_pyIter_enum→WR,newFunctionEnv→WT,GenState→WX,wpAt→WY,ks_wpAt_mono→WZ,wpAny_tryCatch→W0,recursionLimit→W1,wpAny_pyNext_list_end→W4,codeAny_call_function→W6,codeAmong→W8,backTo→W9,typeIs_int→Xa,checkBuiltinCall→Xb,wpAny_load→Xd,preSum→Xf,swapsWithSole→Xl,wpAt_of_wpAny→Xm,seg_execs_nil→Xn,callWith→Xr,callSpecialIfBoundUnlessNone?→Xs,typeOf→Xv,codeAny_of_tree→Xy,wpAny_loadPart'→Xz,wpAny_Constant_none→XE,wpAny_Constant_bool→XF,builtinType_eq_fast→XH,callSpecial?→XK,getItem→XM,loadGlobal→XS,pyIter→XT,wpAny_pyIter_range→XU,wpAny_isTrue_value→XW,FuncData→XX,bindArgs→XZ,firstArgMember→X0,slicePicked→Yg,slot_list_setitem→Yh,argBest→Yk,wpAny_assign_Name→Yl,evalPart_none→Yn,wpAny_comprehension_free→Yp,wpAny_onRaise→Yq,TriplesOk→Ys,binaryOp→Yt,callGetattribute→Yx,wpAny_askSetting→Yy,wpAny_listSubscript_int→Yz,wpAny_getItem_str_slice→YB,strValues→YD,noteFrame→YG,wpAny_allTrue_And_cons→YL,wpAny_mkText→YN,wpAny_getItem_list_neg→YP,wpAny_typeOf→YQ,closureFor→YU,codeAny_compStart_list→YV,wpAny_allTrue_Or_cons→Y0,wpAny_pyIter_listiter→Y3,exec_Assign_Name_used→Y4,builtinLookup_eq_fast→Y5,slot_list_iter→Zk,keywordEach→Zl,wpAny_alloc→Zn,compPost→Zq,isSubtype_stop→Zr,seg_Expr_Yield→Zt,splitId→ZD,setItem→ZE,updateSeq→ZF,newList→ZG,behindInMarks→ZR,evalPart_some→ZT,wpAny_release→ZU,assignInOrder→ZV,compTurn_list→ZX,wpAny_handled→ZY,wpAny_newList→Z0,call_range_1→aad,compTurn→aag,isSubtype→aar,specialOf→aas,storeName→aat,inplaceOp→aau,IsEnum→aaw,IsPart→aaM
open _root_.Option renaming some→Si,isSome_iff_exists→S7,map_some→Uz,bind_some→Vf,map_eq_some_iff→VI,rec→Z1
open _root_ renaming List→Sj,Bool→Sm,if_neg→SK,congrArg→SU,Option→SV,if_pos→SX,of_decide_eq_true→S8,absurd→Tc,decide_eq_false→Tt,decide_eq_true→Tu
open _root_.List renaming mem_singleton→Sn,mem_of_getElem?→Su,replicate→Sv,size_toArray→Sy,getElem?_eq_getElem→Sz,mem_cons→SD,getElem?_eq_some_iff→SJ,length_append→SY,rec→S5,length_map→S6,forall_mem_cons→Tb,all_eq_true→Te,length_cons→Tg,mem_append→Tj,getElem?_append_left→Tp,map_cons→Tx,flatten_cons→TJ,getElem?_map→TM,replicate_succ→TN,getD_eq_getElem?_getD→TR,length_replicate→TS,append_nil→TV,getElem?_append_right→T5,map_map→Ud,mem_append_left→Un,range→Up,getElem?_toArray→Uu,mem_range→Uv,forIn_cons→Uy,lookup_cons→UC,take_of_length_le→UP,mem_map_of_mem→UQ,pairwise_iff_getElem→UU,append_assoc→U3,map_congr_left→U9,head?_drop→Vo,map_append→Vp,nodup_append→Vq,sum_cons→Vv,nodup_cons→VL,length_nil→VM,length_singleton→VW,getElem?_of_mem→V8,cons_append→Wc,getElem?_eq_none_iff→We,length_eq_zero_iff→Wx,getElem?_cons_succ→WC,getElem?_replicate→WD,length_range→WL,forIn_nil→WS,take_add_one→WU,range_succ_eq_map→WV,drop_drop→W3,getElem?_eq_none→W5,getElem_map→Xh,map_take→Xo,drop_eq_nil_iff→Xq,nil_append→XA,mem_map→XN,map_replicate→Ya,drop_eq_getElem_cons→Yb,getElem?_zip_eq_some→Yd,all_toArray→Yu,length_take→YC,find?_cons_of_neg→YM,mem_filter→YZ,dropLast_eq_take→Y6,cons_lt_cons_iff→Y9,mem_append_right→Za,singleton_append→Zb,perm_append_comm→Zc,lookup→Zo,mem_cons_of_mem→Zp,lt_irrefl→Zu,range'→Zx,range_eq_range'→Zy,foldl_toArray'→ZN,getElem_of_mem→ZP,filterMap_map→Z2,mem_cons_self→Z3,mem_replicate→Z7,push_toArray→aah,ext_getElem?→aal,any_toArray→aap,any_eq_true→aaq,not_mem_nil→aay,perm_middle→aaB,Perm→aaT
open _root_.Nat renaming le_trans→So,le_of_ble_eq_true→Sp,lt_of_lt_of_le→SH,beq→SN,lt_trans→SO,ne_of_lt→SP,eq_of_beq_eq_true→SQ,le_refl→SW,ble→SZ,exists_eq_add_of_le'→S0,lt_succ_self→S1,le_add_right→Td,rec→Tf,zero_le→Th,lt_of_le_of_lt→Tn,lt_succ_of_lt→To,lt_irrefl→Tq,add_le_add_left→Tw,ne_of_gt→Tz,succ→TA,le_of_lt→TP,le_add_left→TQ,succ_le_succ→TU,ble_eq_true_of_le→TZ,le_succ→T2,le_of_eq→Ub,succ_add_eq_add_succ→Ui,lt_succ_of_le→Ul,not_lt→Uo,le_antisymm→UR,not_lt_zero→U7,le_succ_of_le→Vt,beq_refl→Vz,le_of_sub_eq_zero→VV,lt_add_one→V2,add_le_add→V7,lt_of_not_le→V9,zero_add→Wd,add_right_comm→Ws,lt_of_succ_le→WW,sub_le→Xc,mod_lt→Xi,div→Xj,exists_eq_succ_of_ne_zero→Xt,min_eq_left→Xu,mul_le_mul_left→XD,mul→XI,add_assoc→Ym,mod→YH,succ_pos→YI,sub_succ→YX,lt_of_sub_eq_succ→Y8,add_le_add_right→Ze,one_mul→Zw,add→Zz,mod_two_ne_zero→ZI,add_comm→aaa,lt_trichotomy→aab,add_div_right→aan,le_of_lt_succ→aao,pred→aaP,sub→aaU
open _root_.PySem.Obj renaming mapSeq→S9,data_mapFields→Z5,putName→aaG
open _root_.PySem.Builtin.SmallTypes renaming nextOf→Tr,ownedTupleIsFree→Ux,ownedTupleHandOut→Wh
open _root_.PySem.Builtin.Range renaming rangeSize→Ts
open _root_.Int renaming ofNat→TG,ofNat_eq_natCast→UB,natCast_nonneg→UV,rec→UY,le_of_lt→Wa,negSucc_lt_zero→Wf,lt_trans→XJ,not_lt→XQ,max_eq_right→YA,le_trans→YK,negSucc→Zd,subNatNat_of_le→ZJ,toNat_of_nonneg→ZK,toNat_of_nonpos→ZL,neg→Z9,ofNat_le→aac,toNat_natCast→aak
open _root_.PySem.Builtin.List renaming listItems→TX,listSubscript?→Um,listUpdate→UE,listFitsIndex→UJ
open _root_.PySem.Str renaming ofString→TY
open _root_.PySem.W renaming looks_findIn→T3,emptyDict→Uj,findIn→Uq,InstAt→Us,looks_mroIn→Vr,putName_dict→VA,dictOf→VQ,looks_nsIn→Xe,callWith_of→Yj,methodObj→YF,check_slot→YO,typeIn→YS,instObj→YT,looks_clsIn→Zg,hasDictIn→ZA,codeRec_of→Z6,findCls→aaf,alongIn→aaj,keepIn→aax,specialIn→aaz,tabObj→aaC,clsIn→aaF,kla_obj→aaJ,hideAll→aaK,lookIn→aaL,nsIn→aaN
open _root_.PySem.Value renaming ref→T9,none→XY,isStr→Yf,int→ZH,str→aaS
open _root_.PySem.F renaming plain_min_loop→Ur,slot_list_getattribute→UX,slot_range_iterator_next→Vk,slot_str_split→VJ,slot_str_join→VU,slot_str_getitem→Wj,slot_str_isspace→Wl,args_str_split_2→Wn,ks_slot_super_ga→Wp,entry_str_split→WB,args_list_getattribute_2→WJ,entry_min_loop→W2,type_str_join→W7,args_range_iterator_next_1→XB,slot_zip_next→XC,entry_range_iterator_next→XO,type_str_isspace→Yr,slot_list_index→YE,plain_list_new→YW,entry_list_ga→Y1,slot_tuple_lt→Y7,store_object→Zh
open _root_.PyProof.Rows renaming strKind→UF,IntsAre→UK,seqObj→UT,AllBare→UZ,spliced_more→Va,assignInOrder_cons→VE,assign_Name→Wk,listUpdate_at→Wq,assignInOrder_nil→Yi,args_nil→Yw,Attribute_any_→Zi,tail_any→Zj,subscriptTail→ZS,arrOf→ZZ,SortedToK→aaA
open _root_.PySem.Builtin.Str renaming strSliceIndices→UH,partsBetween→Wm,occurrences→WA,strKind→ZO
open _root_.PySem.Around renaming under_plainId→U2
open _root_.ForInStep renaming yield→U8
open _root_.PySem.PyData renaming keyHash→Vw,int→Vy,canLay0→V1,eqv→Wv,depth→WG,eqvAll→Xk,canLayAll0→Ye,depthAll→YY
open _root_.PySem.Manifest renaming canonical→VH,signature?→Wg
open _root_.Array renaming getElem?_toList→VT,getElem?_eq_some_iff→V6,length_toList→XG,set!_eq_setIfInBounds→XP,getElem_toList→Zv,toList_append→ZQ,size_append→aae,toList_zip→aaD
open _root_.PySem.Builtin.Builtins renaming bindParams→VZ
open _root_.PySem.Calls renaming evalArgs_plain→WO
open _root_.And renaming intro→Xg
open _root_.PySem.Unicode renaming isSpace→Xw
open _root_.List.cons renaming injEq→Xx
open _root_.PySem.Bind renaming checkArgs→XR,madeBy→aaH
open _root_.PySem.Builtin.Generator renaming genWake→Yc
open _root_.PySem.W.Looks renaming of_pure→Yo
open _root_.String.Pos.Raw renaming mk_le_mk→Yv
open _root_.PyProof renaming noPylong_small→YJ
open _root_.PySem.Env renaming kindOf→YR
open _root_.PySem.StrLaws renaming glued_eq_join→Y2
open _root_.PySem.P renaming eq_int→Zf,getItem_str→ZM,iadd_int→aav,len_str→aaI
open _root_.ForIn renaming forIn→Zm
open _root_.PySem.Code renaming quiet_builtin→Z4
open _root_.PySem.callAny renaming viaDunder→aai
open _root_.PySem.Sem renaming bind_eq_wrap'→aam
open _root_.LawfulMonad renaming pure_bind→aaE
open _root_.Array.mk renaming injEq→aaO
open _root_.PyProof.Rows.SortSt renaming mk'→aaQ
open _root_.Function renaming comp→aaR
variable{h:Heap}{C:Cfg}{s:St}{α:Type}{aby:Nat}{fx:Fx}{z a:Addr}{elt:Expr}{σ:List Addr}{x:Str}{es:List Expr}{TI:Addr}{env:Env}{t:Nat}{l:List V}{it:It}{xs:List Int}{gens:List Comprehension}{N:Nat}{dx fa:Addr}{v:V}{st:St}{L:Addr}{gi:eN}{scope:Scope}{fd:FuncData}{af:Addr}{s0:St}{k:V->St->Bool}{c:Nat}{cs:CA}{sc lsc:Scope}{as:CA}{q:List V}{r:T}{j:Nat}{fm:Fm}{d:Nat}{st':St}{B:List Stmt}{Q E:Value->Shared->Prop}{ca cb:CE}{op:OP}{cc:CT}{ce:CE}{en:Expr}{expr:Bool}{tk:Tok}{cd:ClassData}{w:V}{ci:CI}{ct:CT}{R:List Nat}{Ex:Value->Shared->Prop}{orelse:List Stmt}{R₀:Result->Shared->Prop}{qual:Str}{func:Option Addr}{around:Option Env}{ps:List (Bool×Nat)}{d':Nat}{pl:Sem Bool}{co:CE}{apos:Pos}{g:Addr}{tp:Pos}{ifs:List Expr}{acc:Value}{cenv:Env}{target2 iter2:Expr}{ifs2:List Expr}{ty bt:String}{p0:Pos}{xa:Str}{pa pb pt px:Pos}{kt:Nat}{s'':Shared}{t1 t2:Pos}{tc:Tok}{left:Int}{TO:Addr}{e1:Pos}{eg:Expr}{cn cg:CE}{fname:Str}{z0 z1 z2 z3 z4 z5:Pos}{ks:List KP}{clos:List (Str×Addr)}{st1:St}{nl c1 ring:Nat}{cur:List Nat}{many:Nat}{o':O}{s':Shared}{ox:Obj}{gs:xL}{params:Arguments}{xb:Str}{ys:List Int}{ac:Addr}{p:Pos}{A:Around}{items:Array Value}{m:Nat}{f:Value}{target:Expr}{D:Addr}{spos:Pos}{hb:Heap}{i:Nat}{γ:Type}{i1:Addr}{aa0:Shared}{fs:List (Nat×V)}{y:Str}{od:Option Obj}{py:Pos}{b:Addr}{vs:List Value}{n:Nat}{pos:Pos}{β:Type}{G:Addr}{fp:List Addr}{stop:Bool}{h':Heap}{u:Value}{o:O}
noncomputable section
noncomputable def QD:XX:={ name:="",qualname:="",params:=⟨[],[],none,[],[],none,[]⟩,body:=.stmts [],scope:={ kind:=.function,names:=[],isGenerator:=dV,isCoroutine:=dV },globals:=0,closure:=[],defaults:=.none,kwdefaults:=.none }
noncomputable def Kg:Obj:={ cls:=.none }
noncomputable def mA (K:Frag)(a:Sx):Obj:=(K.lookup a).getD Kg
noncomputable def Lp (o:Data):XX:=match o with
 | .func fd=>fd
 | _=>QD
noncomputable def Bo (o:Data):Sm:=match o with
 | .func _=>Sk
 | _=>dV
noncomputable def aZ (K:Frag)(a:Sx):XX:=Lp (mA K a).data
noncomputable def aI (K:Frag)(a:Sx):Sj Stmt:=match (aZ K a).body with
 | .stmts b=>b
 | _=>[]
noncomputable def CZ (K:Frag)(a:Sx):Sm:=(K.lookup a).isSome && Bo (mA K a).data
end
theorem Gk {K:Frag} (h:(K.lookup a).isSome=Sk):K.lookup a=Si (mA K a):=by
 unfold mA
 cases e:K.lookup a with
 | none=>rw[e] at h;exact ff h
 | some o=>rfl
theorem Dv {d:Data}(h:Bo d=Sk):d=.func (Lp d):=by
 induction d <;> first | exact ff h | rfl
theorem BI {K:Frag} (h:CZ K a=Sk):∃o,K.lookup a=Si o/\o.data=.func (aZ K a):=
 ⟨_,Gk (Zs.mp h).1,Dv (Zs.mp h).2⟩
theorem uQ {P:α->Prop}:∀a∈([]:Sj α),P a:=λ_ m=>nomatch m
theorem du {P:α->Prop}{x:α}{l:Sj α}(h:P x)(t:∀a∈l,P a):∀a∈x::l,P a:=λa m=>(SD.mp m).elim (λe=>e▸h) (t a)
noncomputable abbrev KH (P:Params):Frag:=hd0.heap_1_39 P
theorem bx {l:Sj Str} (h:l.contains x=Sk):x∈l:=by simpa using h
section
variable {C:Cfg}{P:Params}
theorem KS (h:C.K=KH P):cJ C:=by
 constructor
 ·intro c hc;rw[h];rcases c with _ | _ | _ | c <;> first | (exfalso;omega) | kernel_rfl
 ·intro c hc;rw[h];rcases c with _ | _ | c <;> first | (exfalso;omega) | kernel_rfl
 ·rw[h];kernel_rfl
 ·intro c hc;rw[h];rcases c with _ | _ | _ | c <;> first | (exfalso;omega) | kernel_rfl
 ·intro c hc;rw[h];rcases c with _ | _ | _ | c <;> first | (exfalso;omega) | kernel_rfl
 ·have e:((Up 3).all λc=>(Up 12).all λx=>Uq (KH P) (.ref (dJ c)) (aW x) == Si none)=Sk:=by kernel_rfl
  intro c hc x hx
  rw[h]
  have e1:=Te.mp e c (Uv.mpr hc)
  exact beq_iff_eq.mp (Te.mp e1 x (Uv.mpr hx))
 ·intro c hc;rw[h];rcases c with _ | _ | c <;> first | (exfalso;omega) | kernel_rfl
 ·rw[h]
  cases e:aaF (KH P) 244 with
  | none=>
   have:(aaF (KH P) 244).isSome=Sk:=by kernel_rfl
   rw[e] at this;cases this
  | some cd=>
   refine⟨cd,rfl,?_⟩
   have:(aaF (KH P) 244).map (·.mro)=Si [.ref 244,.type "list",.type "object"]:=by kernel_rfl
   rw[e] at this
   exact Si.inj this
 ·rw[h];kernel_rfl
theorem Kr (h:C.K=KH P):eP C:=by
 constructor <;> (rw[h];kernel_rfl)
theorem yp (h:C.K=KH P) {v:Sr}(e:aaN (KH P) S4 x=Si (Si v)):GB C x v:=.inl (by rw[h];exact e)
theorem yX (h:C.K=KH P) {v:Sr}(e:aaN (KH P) S4 x=Si none)(hn:x ≠ "__name__")(hb:bootBuiltins x=Si v):GB C x v:=.inr ⟨by rw[h];exact e,hn,hb⟩
theorem dW (h:C.K=KH P) {name:Str} (h1:Uq (KH P) (.ref (dJ c)) name=Si (Si (.ref fa)))(h2:YS (KH P) (.ref fa)=Si (.type "function"))(h3:aax (KH P) (.ref fa)=Sk)(h4:((Up 12).all λx=>aW x != name)=Sk):de C c name fa:=
 ⟨by rw[h];exact h1,by rw[h];exact h2,by rw[h];exact h3,λx hx=>by
  have:=Te.mp h4 x (Uv.mpr hx)
  simpa using this⟩
theorem FD (h:C.K=KH P) (h1:makesIn (KH P) (dJ c)=Sk)(h2:Uq (KH P) (.ref (dJ c)) "__init__"=Si (Si (.ref fa)))(h3:YS (KH P) (.ref fa)=Si (.type "function"))(h4:aax (KH P) (.ref (dJ c))=Sk):sB C c fa:=
 ⟨by rw[h];exact h1,by rw[h];exact h2,by rw[h];exact h3,by rw[h];exact h4⟩
theorem IL (h:C.K=KH P):uT C 181:=by
 constructor <;> (rw[h];kernel_rfl)
theorem gE (h:C.K=KH P){v:Sr}(e:aax (KH P) v=Sk):Keeps C v:=jo (by rw[h];exact e)
theorem Nn (h:C.K=KH P) {xs:Sj Str}(h1:CZ (KH P) fa=Sk)(h2:codeIn (KH P) (aZ (KH P) fa).code (aZ (KH P) fa).qualname=Sk)(h3:(aZ (KH P) fa).body=.stmts (aI (KH P) fa))(h4:(aZ (KH P) fa).globals=S4)(h5:(aZ (KH P) fa).builtins=Ua)
  (h6:(aZ (KH P) fa).scope.isCoroutine=dV) (h7:(aZ (KH P) fa).scope.isGenerator=dV) (h8:dT (aZ (KH P) fa).scope=Sk) (h9:nA (aR (aZ (KH P) fa).scope) ps xs)
  (h10:∀us:Sj Sr,us.length=ps.length->∀s:Sw,(KH P).In s.heap->Ug s (aZ (KH P) fa) ⟨us,[]⟩ (xs.zip us)):bY C fa (aZ (KH P) fa) (aI (KH P) fa) ps xs:=
 ⟨by rw[h];exact BI h1,by rw[h];exact h2,h3,h4,h5,h6,h7,h8,h9,λus hu s X=>h10 us hu s (by rw[←h];exact X)⟩
theorem ke {us:Sj Sr}{P:Sj Sr->Prop}(h:us.length=n+1)(H:∀a r,r.length=n->P (a::r)):P us:=by
 induction us with
 | nil=>cases h
 | cons a r=>exact H a r (TA.inj h)
theorem Bu {us:Sj Sr}{P:Sj Sr->Prop}(h:us.length=0)(H:P []):P us:=by
 induction us with
 | nil=>exact H
 | cons a r=>cases h
theorem fw {s:Sw} (h:∀a,XZ fd ⟨[a],[]⟩=pure [(x,a)]):∀us:Sj Sr,us.length=1->Ug s fd ⟨us,[]⟩ ([x].zip us):=λus hu=>ke (P:=λus=>Ug s fd ⟨us,[]⟩ ([x].zip (us))) hu λa _ h0=>Bu (P:=λr=>Ug s fd ⟨a::r,[]⟩ ([x].zip (a::r))) h0 (.of_eq (h a))
theorem gu {s:Sw} (h:∀a b,XZ fd ⟨[a,b],[]⟩=pure [(x,a),(y,b)]):∀us:Sj Sr,us.length=2->Ug s fd ⟨us,[]⟩ ([x,y].zip us):=λus hu=>ke (P:=λus=>Ug s fd ⟨us,[]⟩ ([x,y].zip (us))) hu λa _ h0=>ke (P:=λr=>Ug s fd ⟨a::r,[]⟩ ([x,y].zip (a::r))) h0 λb _ h1=>Bu (P:=λr=>Ug s fd ⟨a::b::r,[]⟩ ([x,y].zip (a::b::r))) h1 (.of_eq (h a b))
theorem qu {s:Sw} {z:Str}(h:∀a b c,XZ fd ⟨[a,b,c],[]⟩=pure [(x,a),(y,b),(z,c)]):∀us:Sj Sr,us.length=3->Ug s fd ⟨us,[]⟩ ([x,y,z].zip us):=λus hu=>ke (P:=λus=>Ug s fd ⟨us,[]⟩ ([x,y,z].zip (us))) hu λa _ h0=>ke (P:=λr=>Ug s fd ⟨a::r,[]⟩ ([x,y,z].zip (a::r))) h0 λb _ h1=>ke (P:=λr=>Ug s fd ⟨a::b::r,[]⟩ ([x,y,z].zip (a::b::r))) h1 λc _ h2=>Bu (P:=λr=>Ug s fd ⟨a::b::c::r,[]⟩ ([x,y,z].zip (a::b::c::r))) h2 (.of_eq (h a b c))
theorem Hp {s:Sw} {z u v:Str}(h:∀a b c d e,XZ fd ⟨[a,b,c,d,e],[]⟩=pure [(x,a),(y,b),(z,c),(u,d),(v,e)]):∀us:Sj Sr,us.length=5->Ug s fd ⟨us,[]⟩ ([x,y,z,u,v].zip us):=λus hu=>ke (P:=λus=>Ug s fd ⟨us,[]⟩ ([x,y,z,u,v].zip (us))) hu λa _ h0=>ke (P:=λr=>Ug s fd ⟨a::r,[]⟩ ([x,y,z,u,v].zip (a::r))) h0 λb _ h1=>ke (P:=λr=>Ug s fd ⟨a::b::r,[]⟩ ([x,y,z,u,v].zip (a::b::r))) h1 λc _ h2=>ke (P:=λr=>Ug s fd ⟨a::b::c::r,[]⟩ ([x,y,z,u,v].zip (a::b::c::r))) h2 λd _ h3=>ke (P:=λr=>Ug s fd ⟨a::b::c::d::r,[]⟩ ([x,y,z,u,v].zip (a::b::c::d::r))) h3 λe _ h4=>Bu (P:=λr=>Ug s fd ⟨a::b::c::d::e::r,[]⟩ ([x,y,z,u,v].zip (a::b::c::d::e::r))) h4 (.of_eq (h a b c d e))
theorem BN {s:Sw} {args:Args}{binds:Sj (Str×Sr)}{K:Frag}{T:Sx}{its:Sj Sr} {k:SV (Array Sr)->Sem (Sj (Str×Sr))}(X:K.In s.heap)(hd:fd.defaults=.ref T)(ho:K.lookup T=Si (cK its n))
  (aaX:XZ fd args=Wy fd.defaults >>= k) (aa7:k (Si its.toArray)=pure binds):Ug s fd args binds:=Ug.of_defaults hd (X _ _ ho) rfl aaX aa7
theorem TSub.up (h:TSub C d')(hd:d'<=d):TSub C d:=λA σ st s k n a c dx fs l R I ha ho q=>h A σ st s k n a c dx fs l (R.le hd) I ha ho q
theorem jg (Ok:C.Ok) {v:Sr}{f:FN}(hok:fx.ok=Sk)(hx:x∈fx.gn)(g:GB C x v)(hk:Keeps C v)(hf:SF C d' v f)(hd:d'<=d)(hp:aL es)(hs:SA C fx d es cs) :
  SE C fx d (.Call (.Name x p) es [] pos) (gB f cs):=lr Ok hok hx g hk hf hd hp hs
theorem yi {line:Nat}(hy:y∈fx.cn):∀env,ba fx env->Xl [.Name y py] (.ListComp elt gens sc pos) line env=pure dV:=by
 intro env E
 show VO (.ListComp elt gens sc pos) (Si (.Name y py)) line env=pure dV
 unfold VO
 dsimp only
 have e1:(Si NameKind.cell == Si NameKind.local)=dV:=by decide
 have e2:(Si NameKind.free == Si NameKind.local)=dV:=by decide
 rcases E.cn y hy with h | h
 ·rw[h,e1,WH,WE,WE]
 ·rw[h,e2,WH,WE,WE]
theorem fY {line:Nat}(hy:y∈fx.ln)(hl:(py.line == pos.line)=Sk)(hn:(sc.names.any λ(n,k)=>n == y && (k == .local || k == .cell))=dV):∀env,ba fx env->VO (.ListComp elt gens sc pos) (Si (.Name y py)) line env=pure Sk:=by
 intro env E
 unfold VO
 dsimp only
 rw[E.ln y hy,hn]
 unfold Env.blockKind
 rw[E.kind]
 show pure (Sk && Sk && (py.line == pos.line) && Sk)=_
 rw[hl]
 rfl
end
section
variable {C:Cfg}{fx:Fx}{d:Nat}
theorem dl {x:Sj Stmt}{c:CS}(h:fx.ok=Sk->SL C fx d x c)(hok:fx.ok=Sk):SL C fx d x c:=h hok
theorem jS {EP:Env->Prop}{body x:Sj Stmt}{c:CS}(h:fx.ok=Sk->vf C fx EP d body x c)(hok:fx.ok=Sk):vf C fx EP d body x c:=h hok
theorem cI {iter:Expr} {fr:Sj Nat} (hsc:dT sc=Sk)(hfr:fr.map (λj=>fx.cn[j]?)=(au sc .free).map Si)(hf:∀env x,Tv iter env x=pure x)
  (hi:SI C fx d iter ci) (hg:(aR sc).ok=Sk->SGI C (aR sc) d target gi) (ht:(aR sc).ok=Sk->xj C (aR sc) d ifs ct) (he:(aR sc).ok=Sk->SE C (aR sc) d elt ce) :
  SE C fx d (.ListComp elt [⟨target,iter,ifs,0⟩] sc pos) (cF ci (au sc .local).length (au sc .cell).length fr gi ct (gt ce)):=Do hsc hfr hf hi (hg (di hsc)) (ht (di hsc)) (he (di hsc))
theorem g7 {iter:Expr} {fr:Sj Nat} (hsc:dT sc=Sk)(hfr:fr.map (λj=>fx.cn[j]?)=(au sc .free).map Si)(hf:∀env x,Tv iter env x=pure x)
  (hi:SI C fx d iter ci) (hg:(aR sc).ok=Sk->SGI C (aR sc) d target gi) (ht:(aR sc).ok=Sk->xj C (aR sc) d ifs ct) (he:(aR sc).ok=Sk->SE C (aR sc) d elt ce) (hok:fx.ok=Sk) (hy:fx.ln[aby]? = Si y)
  (hsw:∀env,ba fx env->VO (.ListComp elt [⟨target,iter,ifs,0⟩] sc pos) (Si (.Name y py)) spos.line env=pure Sk) :
  SS C fx d (.Assign [.Name y py] (.ListComp elt [⟨target,iter,ifs,0⟩] sc pos) spos) (aV (cF ci (au sc .local).length (au sc .cell).length fr gi ct (gt ce)) (ay dV aby)):=DY hsc hfr hf hi (hg (di hsc)) (ht (di hsc)) (he (di hsc)) hok hy hsw
theorem yO {iter:Expr} {ci2:CI}{gi2:eN}{ct2:CT} {fr:Sj Nat} (hsc:dT sc=Sk)(hfr:fr.map (λj=>fx.cn[j]?)=(au sc .free).map Si)(hf:∀env x,Tv iter env x=pure x)
  (hi:SI C fx d iter ci) (hg:(aR sc).ok=Sk->SGI C (aR sc) d target gi) (ht:(aR sc).ok=Sk->xj C (aR sc) d ifs ct) (hf2:∀env x,Tv iter2 env x=pure x) (hi2:(aR sc).ok=Sk->SI C (aR sc) d iter2 ci2) (hg2:(aR sc).ok=Sk->SGI C (aR sc) d target2 gi2) (ht2:(aR sc).ok=Sk->xj C (aR sc) d ifs2 ct2) (he:(aR sc).ok=Sk->SE C (aR sc) d elt ce) :
  SE C fx d (.ListComp elt [⟨target,iter,ifs,0⟩,⟨target2,iter2,ifs2,0⟩] sc pos) (cF ci (au sc .local).length (au sc .cell).length fr gi ct (I6 ci2 gi2 ct2 (gt ce))):=
 AG hsc hfr hf hi (hg (di hsc)) (ht (di hsc)) hf2 (hi2 (di hsc)) (hg2 (di hsc)) (ht2 (di hsc)) (he (di hsc))
theorem kN (Ok:C.Ok){cl:Sx}{name:Str}{xp:Pos}{mc:Sr}{l:Sj Nat}(hok:fx.ok=Sk)(hx:x∈fx.gn)(g:GB C x (.ref cl))(hr:readsIn C.K cl mc=Sk)(e:∃tk,aaf C.K (.ref cl) mc name=Si (.val (.str ⟨l.toArray⟩ tk)))
  (he:∀env,eval (.Attribute (.Name x xp) name pos) env=(do
   let o ←eval (.Name x xp) env
   UG pos.atName
   let r ←holding [o] (PySem.getAttr o name Sk)
   V3 (.Name x xp) o r
   pure r)):SE C fx d (.Attribute (.Name x xp) name pos) (ao (.str l)):=by
 refine bG e λtk e=>?_
 exact vg Ok hok hx g hr (tk:=tk) e he
theorem M6 {p1 p2 vp q1 q2:Pos} {a b:Expr}{u v:Str}(hx:x∈fx.ln)(hy:y∈fx.ln)(hl:(p2.line == p1.line)=Sk)(hne:(y == x)=dV) :
  ∀env,ba fx env->VP [.Tuple [.Name x p1,.Name y p2] n tp] (.Tuple [.Attribute a u q1,.Attribute b v q2] m vp) env=pure (Si [x,y]):=by
 intro env E
 have b1:env.blockKind=.function:=by unfold Env.blockKind;rw[E.kind];rfl
 have b0:(env.blockKind != .function)=dV:=by rw[b1];rfl
 have e1:[x,y].eraseDups=[x,y]:=by
  rw[Sj.eraseDups_cons,Sj.filter_cons,hne]
  rfl
 unfold VP
 show(if (!(Sk || false) || (2 != 2) || env.blockKind != .function)=Sk then _ else _)=_
 rw[b0]
 show(let names:=[Expr.Name x p1,Expr.Name y p2].filterMap _;if (names.length != 2 || names.eraseDups.length != names.length)=Sk then _ else pure (Si names))=_
 have g:∀{z:Str} {b:Sm},z∈fx.ln->b=Sk->(if (env.kindOf z == Si .local && b)=Sk then Si z else none)=Si z:=λm q=>SX (by rw[E.ln _ m,q];rfl)
 dsimp only
 generalize hn:Sj.filterMap _ _=names
 have hn:names=[x,y]:=by
  refine hn.symm.trans ((Sj.filterMap_cons_some (b:=x) ?_).trans (SU (x::·) (Sj.filterMap_cons_some (b:=y) ?_)))
  ·exact g (z:=x) hx (beq_self_eq_true p1.line)
  ·exact g (z:=y) hy hl
 subst hn
 show(if ([x,y].length != 2 || [x,y].eraseDups.length != [x,y].length)=Sk then _ else _)=_
 rw[e1]
 rfl
theorem lA:A9 C (aau .Sub) cf:=by
 intro A σ st s k x y u v R I rx ry h
 refine aE (ir h) λi e81 h1=>?_;subst e81
 refine aE (ir h1) λj e81 h2=>?_;subst e81
 refine VR.int_e rx λ_=>?_;refine VR.int_e ry λ_=>?_
 rw[ey] at h2
 exact PySem.P.isub_int (cQ I _ (.int _ _) h2)
theorem yn:A9 C (aau .Add) zT:=DD λx y st k h=>by
 refine aE (ir h) λi e81 h1=>?_;subst e81
 refine aE (ir h1) λj e81 h2=>?_;subst e81
 rw[eU] at h2
 exact⟨i,j,rfl,rfl,h2⟩
theorem dN:∀x<12,aW x ≠ "append":=by decide +kernel
theorem yE:∀x<12,aW x ≠ "index":=by decide +kernel
end
noncomputable section
def sw (xs:Sj Int):Nat->Int->(Sj (Sj Nat×Int)->Sm)->Sm:=@S5 Int (λ_=>Nat->Int->(Sj (Sj Nat×Int)->Sm)->Sm)
 (λn _ k=>@Tf (λ_=>Sm) (k []) (λ_ _=>dV) n)
 (λx _ ih n j k=>@Tf (λ_=>Sm) (k []) (λm _=>aD (small x) (aD (aB (cT x)) (ih m (gA j 1) λq=>k ((cw [32] (cT x),j)::q)) dV) dV) n) xs
def pn (n:CE)(c:Nat):CE:=λfm st k=>n fm st λx st=>aG x λx=>aD (SZ (cT x) 63) (aD (small x) (getL fm.cel c (λci=>aD (SZ 4 ci) (st.get ci λo=>eo o λv=>cU v λv=>bB v λm=>aD (SZ 4 m) (bh st m λl=>iZq l λxs=>
 sw xs (cT x) 0 λks=>aD (iI (dG ks [])) (st.push .hid λ_ st=>st.push (.list (fE (λx=>.int x.2) (dG ks []))) λn st=>k (.ref n) st) dV) dV) dV) dV) dV) dV
end
noncomputable section
def Oc:CS:=(dq E0)
def CR:CS:=(aq Oc aH)
def RO:FN:=bk [(dV,0)] 1 0 CR
def Jt:CS:=(dq CL)
def MO:CS:=(aq Jt aH)
def RN:FN:=bk [(dV,0)] 1 0 MO
def Nl:CS:=(dq FW)
def Ru:CS:=(aq Nl aH)
def Ol:FN:=bk [(dV,0)] 1 0 Ru
def Fz:CS:=(hW (bR ix (bz 2 Ol (aa dV 0) av) (ao (.int 0))) (aq (dq (cN (ae (ao (.str [])) (ae (ao (.str [])) av)))) aH) aH)
def FI:CS:=(dq Ff)
def O6:CS:=(aq Fz (aq FI aH))
def Jz:FN:=bk [(dV,0)] 1 0 O6
def Fy:CS:=(aV (aa dV 1) (eQ (aa dV 0) 11))
def Gg:CS:=(dI F4)
def Km:CS:=(aq Fy (aq Gg aH))
def MP:FN:=bk [(dV,0),(dV,1)] 2 0 Km
def EW:CS:=(dI (mZ km (aa dV 0) (ae (cN (ae (aa dV 1) (ae (aa dV 2) av))) av)))
def PO:CS:=(aq EW aH)
def I8:FN:=bk [(dV,0),(dV,1),(dV,2)] 3 0 PO
def F3:CS:=(aV (uS (aa dV 0) (aa dV 1) (ao (.none))) (ay dV 2))
def Ft:CS:=(aV (d0 av) (Ei (aa dV 0) (aa dV 1)))
def EZ:CS:=(dq (aa dV 2))
def Pn:CS:=(aq F3 (aq Ft (aq EZ aH)))
def Ox:FN:=bk [(dV,0),(dV,1)] 3 0 Pn
def AZ:CS:=(hW (bR rH (aa dV 1) (ao (.none))) (aq (aV (d0 av) (ay dV 1)) aH) aH)
def B9:CS:=(aV (aa dV 1) (Ei (aa dV 0) (ao (.none))))
def zt:CS:=(aV (ao (.int 0)) (eQ (aa dV 0) 11))
def yV:CS:=(aq AZ (aq B9 (aq zt aH)))
def Fg:FN:=bk [(dV,0),(dV,1)] 2 0 yV
def Gl:CS:=(dq (Hb (qV ix (bv (aa dV 0) 11) (ao (.int 0))) (P8 (Hr (aa dV 0)) (rB lU (gB uI (ae (aa dV 0) av)) av))))
def GF:CS:=(aq Gl aH)
def Oz:FN:=bk [(dV,0)] 1 0 GF
def Ly:CS:=(aV (bz 2 Jz (bv (aa dV 0) 10) av) (ay dV 1))
def LY:CS:=(hW (bR kL (aa dV 1) (cN (ae (ao (.str [32])) (ae (ao (.str [])) av)))) (aq (dI (bz 2 I8 (bv (aa dV 0) 10) (BX (aa dV 1)))) aH) aH)
def KQ:CS:=(hW (bR C9 (gB dU (ae (bv (aa dV 0) 10) av)) (ao (.int 0))) (aq (hW (pH (tE (bz 2 Oz (bv (aa dV 0) 10) av)) (tE (bv (aa dV 0) 9))) (aq (jh (bv (aa dV 0) 9) (qg (ao (.int 1))) (gB uI (ae (bv (aa dV 0) 10) av))) aH) (aq (dI (mZ km (bv (aa dV 0) 9) (ae (gB uI (ae (bv (aa dV 0) 10) av)) av))) aH)) aH) aH)
def Nh:CS:=(dI (bz 2 (tD Fg) (bv (aa dV 0) 10) av))
def c8:CS:=(aq Ly (aq LY (aq KQ (aq Nh aH))))
def F8:FN:=bk [(dV,0)] 2 0 c8
def LN:CS:=(aV (aa dV 2) (eQ (aa dV 0) 5))
def Ja:CS:=(aV (aa dV 3) (eQ (aa dV 0) 6))
def Na:CS:=(aV (gB dU (ae (aa dV 3) av)) (eQ (aa dV 0) 7))
def Kf:CS:=(aV (aa dV 4) (eQ (aa dV 0) 8))
def Ma:CS:=(aV (d0 av) (eQ (aa dV 0) 9))
def K2:CS:=(aV (iD 2 MP (ae (aa dV 1) av)) (eQ (aa dV 0) 10))
def c6:CS:=(aq LN (aq Ja (aq Na (aq Kf (aq Ma (aq K2 aH))))))
def F6:FN:=bk [(dV,0),(dV,1),(dV,2),(dV,3),(dV,4)] 5 0 c6
def NC:CS:=(dI (bz 1 F8 (aa dV 0) av))
def LS:CS:=(dq (rB oW (aa dV 1) (ae (bv (aa dV 0) 9) av)))
def c7:CS:=(aq NC (aq LS aH))
def F7:FN:=bk [(dV,0),(dV,1)] 2 0 c7
def Iu:CS:=(dI (bz 2 I8 (bv (aa dV 0) 10) (ae (aa dV 1) (ae (aa dV 2) av))))
def Gy:CS:=(hW (bR C9 (gB dU (ae (bv (aa dV 0) 10) av)) (bv (aa dV 0) 5)) (aq (iT (em (ay dV 3)) (iE (bv (aa dV 0) 8)) (aq (iT (em (ay dV 4)) (BU (aA cf (bz 2 Ol (bv (aa dV 0) 10) av) (ao (.int 1))) (ao (.int 0)) (qg (ao (.int 1)))) (aq (hW (tE (rB lU (aa dV 3) av)) (aq (aV (dw (dw (bv (aa dV 0) 10) (aa dV 4)) (ao (.int 0))) (ay dV 1)) (aq (hW (pH (tE (aa dV 1)) (bR ix (dw (aa dV 1) (ao (.int 0))) (aa dV 3))) (aq u9 aH) aH) aH)) aH) (aq (aV (dw (dw (bv (aa dV 0) 10) (aA cf (aa dV 4) (ao (.int 1)))) (ao (.int 1))) (ay dV 5)) (aq (hW (pH (tE (aa dV 5)) (bR ix (dw (aa dV 5) (qg (ao (.int 1)))) (aa dV 3))) (aq u9 aH) aH) aH))) (aq Mz aH)) (aq u9 aH)) (aq (aV (bz 2 Jz (bv (aa dV 0) 10) av) (fM 2 (bg (ay dV 1) (bg (ay dV 6) eS)))) (aq (hW (bR C9 (bv (bv (aa dV 0) 10) 11) (ao (.int 0))) (aq (dI (bz 1 F8 (aa dV 0) av)) (aq (hW (LU (tE (aa dV 1))) (aq (aV (ao (.str [32])) (ay dV 1)) aH) aH) aH)) aH) (aq (dI (bz 2 I8 (bv (aa dV 0) 10) (ae (aa dV 1) (ae (aa dV 6) av)))) (aq Gm aH))))) (aq (aV (bz 2 Ox (bv (aa dV 0) 10) (ae (aa dV 4) av)) (ay dV 7)) (aq (dI (mZ km (bv (aa dV 0) 9) (ae (gB uI (ae (bv (aa dV 0) 10) av)) av))) (aq (dI (bz 2 Fg (bv (aa dV 0) 10) (ae (aa dV 7) av))) aH)))) aH)
def c9:CS:=(aq Iu (aq Gy aH))
def F9:FN:=bk [(dV,0),(dV,1),(dV,2)] 8 0 c9
def NO:CS:=(aV (aa dV 1) (eQ (aa dV 0) 0))
def Ld:CS:=(zq (ae (ao (.str [32])) (ae (ao (.str [9])) av)) (bg (ay dV 2) (bg (ay dV 3) eS)))
def M9:CS:=(aV (d0 av) (ay dV 4))
def Lz:CS:=(aV (ao (.int 0)) (rV (ay dV 5) (rV (ay dV 6) (ay dV 7))))
def Jq:CS:=(iT (em (ay dV 8)) (iE (bv (aa dV 0) 0)) (aq (hW (bR ix (aa dV 8) (aa dV 2)) (aq (aV (aA aQ (aa dV 6) (ao (.int 1))) (ay dV 6)) (aq (aV (aA aQ (aa dV 5) (ao (.int 1))) (ay dV 5)) aH)) (aq (hW (bR ix (aa dV 8) (aa dV 3)) (aq (aV (aA aQ (aa dV 6) (ao (.int 1))) (ay dV 6)) (aq (aV (aA aQ (aa dV 7) (ao (.int 1))) (ay dV 7)) (aq (hW (bR uG (aa dV 5) (gB dU (ae (aa dV 4) av))) (aq (aV (aA aQ (aa dV 4) (aA bJ (d0 (ae (ao (.int 0)) av)) (aA aQ (aA cf (aa dV 5) (gB dU (ae (aa dV 4) av))) (ao (.int 1))))) (ay dV 4)) aH) aH) (aq (aV (aA aQ (dw (aa dV 4) (aa dV 5)) (ao (.int 1))) (zf (aa dV 4) (aa dV 5))) (aq (aV (ao (.int 0)) (ay dV 5)) aH))))) (aq u9 aH)) aH)) aH) aH)
def Jj:CS:=(aV (aa dV 6) (eQ (aa dV 0) 1))
def M2:CS:=(aV (aa dV 7) (eQ (aa dV 0) 2))
def KT:CS:=(aV (cN (ae (gB EH (ae (aa dV 4) av)) (ae (aa dV 5) av))) (eQ (aa dV 0) 3))
def MI:CS:=(aV (qV Oq (gB dU (ae (aa dV 4) av)) (ao (.int 1))) (eQ (aa dV 0) 4))
def c0:CS:=(aq NO (aq Ld (aq M9 (aq Lz (aq Jq (aq Jj (aq M2 (aq KT (aq MI aH)))))))))
def F0:FN:=bk [(dV,0),(dV,1)] 9 0 c0
def Ga:CS:=(aV (d0 (ae (ao (.int 11)) (ae (ao (.int 4)) (ae (ao (.int 2)) (ae (ao (.int 7)) (ae (ao (.int 0)) av)))))) (ay dV 1))
def E4:CS:=(iT (yW (ay dV 2) (ay dV 3)) (lE (aa dV 0)) (aq (jh (aa dV 1) (aA ef (aa dV 2) (ao (.int 5))) (aA ef (aa dV 3) (aA ED (ao (.int 10)) (ao (.int 6))))) aH) aH)
def FE:CS:=(aV (aA aQ (ao (.int 8)) (aA ef (dw (aa dV 1) (ao (.int 0))) (ao (.int 8)))) (ay Sk 0))
def Fj:CS:=(aV (aA aQ (ao (.int 1)) (aA ef (dw (aa dV 1) (ao (.int 1))) (ao (.int 7)))) (ay Sk 1))
def wC:CS:=(hW (bR ix (aA bJ (ao (.int 2)) (aa Sk 1)) (aa Sk 0)) (aq (u5 Sk 1 cf (ao (.int 1))) aH) aH)
def Fb:CS:=(aV (dw (cF (dH (ao (.int 1)) (aA aQ (aa Sk 0) (ao (.int 1)))) 2 0 [0,1] (em (ay dV 1)) (bR ix (aA ef (aA bJ (aa dV 1) (aa Sk 1)) (aa Sk 0)) (ao (.int 0))) (gt (aa dV 1))) (ao (.int 0))) (ay dV 4))
def EY:CS:=(aV (aA aQ (ao (.int 2)) (aA ef (dw (aa dV 1) (ao (.int 2))) (aA cf (aa dV 4) (ao (.int 2))))) (ay dV 5))
def CJ:CS:=(aV (d0 (ae (d0 (ae (aa Sk 1) (ae (ao (.int 0)) (ae (ao (.int 9)) av)))) (ae (aA aQ (aA bJ (d0 (ae (aa Sk 1) av)) (aa dV 5)) (d0 (ae (ao (.int 127)) (ae (ao (.int 9)) av)))) (ae (aA bJ (d0 (ae (aa Sk 1) av)) (aa dV 5)) (ae (d0 (ae (aa Sk 1) (ae (aa Sk 1) (ae (ao (.int 0)) av)))) av))))) (ay dV 6))
def FT:CS:=(dq (cN (ae (aa Sk 0) (ae (aa Sk 1) (ae (aa dV 5) (ae (aA ef (dw (aa dV 1) (ao (.int 3))) (aa Sk 0)) (ae (dw (aa dV 6) (aA ef (dw (aa dV 1) (ao (.int 4))) (ao (.int 4)))) av)))))))
def PB:CS:=(aq Ga (aq E4 (aq FE (aq Fj (aq wC (aq Fb (aq EY (aq CJ (aq FT aH)))))))))
def Ou:FN:=bk [(dV,0)] 7 2 PB
def B2:CS:=(aV (aA aQ (ao (.str [97])) (rB oW (ao (.str [])) (ae (cF (lE (aa dV 0)) 3 0 [] (yW (ay dV 1) (ay dV 2)) cA (gt (aA aQ (aA bJ (ao (.str [45])) (aA cf (aa dV 2) (ao (.int 1)))) (gB Eo (ae (aA aQ (ao (.int 98)) (aa dV 1)) av))))) av))) (ay dV 3))
def Bp:CS:=(aV (iD 1 F6 (ae (aA bJ (ao (.int 2)) (aa dV 2)) (ae (aA bJ (ao (.int 2)) (aa dV 1)) (ae (ao (.str [32])) (ae (ao (.str [32])) av))))) (ay dV 4))
def FF:CS:=(iT (em (ay dV 5)) (iE (aa dV 3)) (aq (dI (bz 1 F9 (aa dV 4) (ae (ao (.str [32])) (ae (aa dV 5) av)))) aH) aH)
def ES:CS:=(aV (rB uM (bz 1 F7 (aa dV 4) (ae (ao (.str [10])) av)) (ae (ao (.str [10])) av)) (ay dV 6))
def FM:CS:=(aV (aA aQ (aA bJ (ao (.str [32,45])) (aa dV 2)) (dw (aa dV 6) (ao (.int 0)))) (zf (aa dV 6) (ao (.int 0))))
def E5:CS:=(dq (cF (iE (aa dV 6)) 4 0 [] (em (ay dV 1)) cA (I6 (lE (Eb (aa dV 1))) (yW (ay dV 2) (ay dV 3)) (bR kL (aa dV 3) (ao (.str [45]))) (gt (aa dV 2)))))
def HJ:CS:=(aq B2 (aq Bp (aq FF (aq ES (aq FM (aq E5 aH))))))
def Op:FN:=bk [(dV,0),(dV,1),(dV,2)] 7 0 HJ
def FL:CS:=(aV (fc Ou (ae (aa dV 0) av)) (fM 5 (bg (ay Sk 0) (bg (ay Sk 1) (bg (ay dV 1) (bg (ay Sk 2) (bg (ay dV 2) eS)))))))
def FH:CS:=(aV (qm (aA aQ (aa dV 1) (ao (.int 1))) (aa dV 2)) (ay dV 3))
def E9:CS:=(hW (bR kL (aa dV 3) (aA bJ (d0 (ae (aa Sk 1) av)) (u4 (bR Ot (ao (.int 0)) (aa dV 2)) (aA aQ (aa dV 1) (ao (.int 1))) (aa dV 1)))) (aq (dq (ao (.bool dV))) aH) aH)
def Gp:CS:=(aV (fc Op (ae (uS (aa dV 3) (ao (.none)) (aa dV 1)) (ae (aa Sk 0) (ae (aa Sk 2) av)))) (ay dV 4))
def EV:CS:=(hW (bR kL (aa dV 4) (cF (qR (aA aQ (aa dV 1) (ao (.int 1)))) 2 0 [2,0,1] (em (ay dV 1)) cA (gt (aA ef (aA aQ (aa Sk 0) (aA bJ (aa dV 1) (aa Sk 2))) (aa Sk 1))))) (aq (dq (ao (.bool dV))) aH) aH)
def FQ:CS:=(aV (d0 av) (ay dV 5))
end
section
variable {C:Cfg}{P:Params}{fx:Fx}{d:Nat}
noncomputable def xc (scope:Scope)(xa xb:Str):Sm:=!scope.isCoroutine && scope.names.all (λx=>x.2 != .free && x.2 != .cell) && scope.names.lookup (".0":Str) == Si NameKind.local && scope.names.lookup xa == Si NameKind.local && scope.names.lookup xb == Si NameKind.local && !(xa == xb) && scope.kind == .function
theorem qS (h:xc scope xa xb=Sk):nJ scope xa xb:=by
 simp only[xc,Ta,VY,Te,beq_iff_eq,bne_iff_ne] at h
 obtain⟨⟨⟨⟨⟨⟨h1,h2⟩,h3⟩,h4⟩,h5⟩,h6⟩,h7⟩:=h
 exact⟨h1,λx m=>(h2 x m).1,λx m=>(h2 x m).2,h3,h4,h5,λq=>by subst q;simp at h6,h7⟩
noncomputable section
noncomputable def J2 (K:Frag)(a:Sx):Array Sr:=match (mA K a).data with
 | .fields vs=>vs
 | _=>#[]
noncomputable def P0 (K:Frag)(a:Sx):ClassData:=match (mA K a).data with
 | .cls c=>c
 | _=>default
noncomputable def PX (v:Sr):Str:=match v with
 | .str x _=>x
 | _=>""
noncomputable def AX (v:Sr):Tok:=match v with
 | .str _ t=>t
 | .int _ t=>t
 | _=>0
noncomputable def K8 (v:Sr):Int:=match v with
 | .int i _=>i
 | _=>0
noncomputable def KM (v:Sr):Sm:=match v with
 | .bool b=>b
 | _=>dV
end
theorem qx (h:C.K=KH P){t:lX}{vs:Array Sr}(e:J2 (KH P) t.code=vs)(m:t∈C.tabs)(one:∀t'∈C.tabs,t'.tab=t.tab->t'=t)(h1:(KH P).lookup t.code=Si (mA (KH P) t.code))(h2:(mA (KH P) t.code).data=.fields vs)(h3:vs.getD 11 .none=.ref t.tab)(h4:vs.getD 18 .none=.str (PX (vs.getD 18 .none)) (AX (vs.getD 18 .none)))(h5:vs.getD 7 .none=.int (K8 (vs.getD 7 .none)) (AX (vs.getD 7 .none)))
  (h6:vs.getD 9 .none=.bool (KM (vs.getD 9 .none))) (h7:vs.getD 10 .none=.int (K8 (vs.getD 10 .none)) (AX (vs.getD 10 .none))) (h8:(mA (KH P) t.code).cls=.type "code") (h9:vs[11]? = Si (.ref t.tab)):jm C t:=⟨m,one,_,vs,_,_,_,_,_,_,_,h.symm▸h1,h2,h3,h4,h5,h6,h7,h8,h9⟩
theorem zi (h:C.K=KH P)(sup:GB C "super" (.type "super"))(top:(C.prog.main.scope.names.lookup ("super":Str)).isSome=dV):ow C:=by
 refine⟨by rw[h];kernel_rfl,?_,by rw[h];kernel_rfl,?_,by rw[h];kernel_rfl,by rw[h];kernel_rfl,by rw[h];kernel_rfl,by rw[h];kernel_rfl,sup,top⟩
 ·exact h.symm▸⟨_,Gk (a:=168) (by kernel_rfl),by kernel_rfl⟩
 ·exact h.symm▸⟨(mA (KH P) 244).dict,P0 (KH P) 244,(mA (KH P) 244).slots,by kernel_rfl,by kernel_rfl,by kernel_rfl⟩
theorem ms (h:C.K=KH P){cda:Sx}(hfile:∃oc vs file tf,C.K.lookup cda=Si oc/\oc.data=.fields vs/\vs[2]? = Si (.str file tf)/\((C.prog.main.file:Str) == file)=Sk)
  (h1:CZ (KH P) fa=Sk) (h2:((aZ (KH P) fa).params.posonlyargs++(aZ (KH P) fa).params.args).head?.map (·.arg)=Si ("self":Str)) (h3:(aZ (KH P) fa).code=.ref cda):kF C fa (aZ (KH P) fa):=by
 refine qc hfile λoc vs file tf e1 e2 e3 e4=>?_
 refine⟨by rw[h];exact BI h1,?_,cda,oc,vs,file,tf,h3,e1,e2,e3,e4⟩
 refine aE (VI.mp h2) λar q e=>?_
 exact⟨ar,q,e⟩
theorem pQ {K:Frag}{T:Sx}{v:Sr}(hd:fd.defaults=.ref T)(ho:K.lookup T=Si (cK [v] 0))(h:∀a b,∃k,XZ fd ⟨[a,b],[]⟩=Wy fd.defaults >>= k/\k (Si #[v])=pure [(x,a),(y,b)]):∀us:Sj Sr,us.length=2->∀s:Sw,K.In s.heap->Ug s fd ⟨us,[]⟩ ([x,y].zip us):=λus hu s X=>ke (P:=λus=>Ug s fd ⟨us,[]⟩ ([x,y].zip us)) hu λa _ h0=>ke (P:=λr=>Ug s fd ⟨a::r,[]⟩ ([x,y].zip (a::r))) h0 λb _ h1=>Bu (P:=λr=>Ug s fd ⟨a::b::r,[]⟩ ([x,y].zip (a::b::r))) h1 (by
  refine aE (h a b) λk h1 h2=>?_
  exact BN X hd ho h1 h2)
theorem xB (Ok:C.Ok) {body:Sj Stmt}{p1 p2:Sm×Nat}{x1 x2:Str}{c:CS}(O:bY C fa fd body [p1,p2] [x1,x2])(hB:∀(u:Sr)(s:Sw),C.K.In s.heap->Ug s fd ⟨[u],[]⟩ [(x1,u),(x2,.none)])(hb:vf C (aR fd.scope) (G5 fa fd) d body body c) :
  eY C (d+1) (.ref fa) (tD (bk [p1,p2] (au fd.scope .local).length (au fd.scope .cell).length c)):=by
 intro A σ st s k l us R I r h
 refine aE (sT h) λv e81 h=>?_;subst e81
 obtain⟨u,rfl,r0⟩:∃u,us=[u]/\VR σ s.heap v u:=by cases r with | cons ra rr=>cases rr;exact⟨_,rfl,ra⟩
 have h:bk [p1,p2] (au fd.scope .local).length (au fd.scope .cell).length c [v,.none] st k=Sk:=h
 have r:VRs σ s.heap [v,.none] [u,.none]:=.cons r0 (.cons .none .nil)
 refine dE (eH h) λhlen h=>?_
 refine aE (O.obj) λo ho hd=>?_
 have X:=I.X Ok
 refine W6 R.top (X _ _ ho) hd O.co O.gen O.body (Z6 X O.code) ?_
 refine hB u s X _ _ _ _ ?_
 rw[O.glob]
 have q:=jw (A:=A.in1) (closure:=fd.closure) (q:=[]) (around:=none) (qual:=fd.qualname ++ ".<locals>.") (func:=Si fa) (code:=fd.code) O.sc O.blt O.par I r (Th _) (λi x _ h=>Tc h (U7 _)) (k:=λfm st=>c fm st λf _ st=>@Fl.rec (λ_=>Sm) (k .none st) dV dV (λv=>k v st) f) (by simpa using h)
 refine Sq q ?_ λ_ _ e=>e.elim
 rintro env s' ⟨σ',fm',st',E,e1,e2,e3,e4,S',I',F',dL,h'⟩
 refine⟨(Ok.T.nolimit.keeps I'.base),ks_codeAny_funcAt ?_⟩
 refine WZ (hb (A.deeper env) env σ' fm' st' s' _ R.deeper E ⟨e2,(e3 rfl).1,e1,e4,(e3 rfl).2⟩ I' F' h') ?_ λ_ _ e=>e.elim
 rintro f s'' ⟨σ'',fl,fm'',st'',S'',I'',F'',q,h''⟩
 have S:Step [] σ s σ'' s'':=(S'.up.trans S'').more λb m=>.inr (by rw[Sn.mp m];exact dL)
 induction fl with
 | nxt=>induction f <;> first | exact q.elim | exact⟨σ'',.none,st'',S,I'',.none,h''⟩
 | brk=>cases h''
 | cnt=>cases h''
 | ret v=>induction f <;> first | exact q.elim | exact⟨σ'',v,st'',S,I'',q,h''⟩
end
section
variable {M:Model}{A:Around}{R:GenEnd}{Y:Protocol}{n:Nat}{aa0:Shared}{c:Code}{fs:List Frame}{s:Shared}{env:Env}
 {K:Flow->Sem Fin} {H:Sr->Sem Fin} {gd:Sm->Sm} {lv:Sj Sr->Sj Sr}
def No:Sr->Sw->Prop:=λ_ _=>False
theorem jU {m:Sem α}{K:α->Sem Fin}{H:Sr->Sem Fin} {gd lv}(h:Ss M (A.over c fs) m (λa s'=>Seg M A R Y n aa0 c (K a) fs s') No s):Seg M A R Y n aa0 c (m.wrap K H gd lv) fs s:=
 seg_wrap (Sq h (λ_ _ e=>e) λ_ _ e=>e.elim)
theorem dS {m:Sem α}{f:α->Sem β}{K:β->Sem Fin}{H:Sr->Sem Fin} {gd lv}(h:Ss M (A.over c fs) m (λa s'=>Seg M A R Y n aa0 c ((f a).wrap K H gd lv) fs s') No s):Seg M A R Y n aa0 c ((m >>= f).wrap K H gd lv) fs s:=by
 rw[aam,Sem.wrap_wrap]
 exact jU h
theorem vx {test:Expr}{body:Sj Stmt} (h:Ss M (A.over c fs) (isTrue test env (eval test env)) (λb s'=>Seg M A R Y n aa0 c ((if b=Sk then execs body env else execs orelse env).wrap K H gd lv) fs s') No s) :
  Seg M A R Y n aa0 c ((exec (.If test body orelse pos) env).wrap K H gd lv) fs s:=by
 rw[exec_If]
 exact dS (TF (dS h))
theorem Rs {C:Prop} [Decidable C] {a b:Sem Flow}(q:C)(h:Seg M A R Y n aa0 c (a.wrap K H gd lv) fs s):Seg M A R Y n aa0 c ((if C then a else b).wrap K H gd lv) fs s:=by rw[SX q];exact h
theorem PF {C:Prop} [Decidable C] {a b:Sem Flow}(q:¬C)(h:Seg M A R Y n aa0 c (b.wrap K H gd lv) fs s):Seg M A R Y n aa0 c ((if C then a else b).wrap K H gd lv) fs s:=by rw[SK q];exact h
theorem kR (h:Seg M A R Y n aa0 c (K (.ret .none)) fs s):Seg M A R Y n aa0 c ((exec (.Return none pos) env).wrap K H gd lv) fs s:=seg_at h
theorem DS {iter:Expr}{body:Sj Stmt} 
  (h:Ss M (A.over c fs) (do let x ←Tv iter env (←eval iter env);UG iter.pos;holding [x] (XT x)) (λit s'=>∀p,Seg M A R Y n aa0 (.forLoop target it body orelse env) (M.den (.forLoop target it body orelse env))
   (.ret (λr=>((match r with | .ok f=>(.pure f:Sem Flow) | .error e=>.raise e).onRaise λ(x:Sr)=>do
    if (←field x 1) == XY then unsupported "frame.own-activation:exception-without-traceback"
    setFlight x env.frame).wrap K H gd lv) none (gd dV) (lv []) c p []::fs) s') No s) :
  Seg M A R Y n aa0 c ((exec (.For target iter body orelse pos) env).wrap K H gd lv) fs s:=by
 have e:exec (.For target iter body orelse pos) env=(do UG pos;(do let x ←Tv iter env (←eval iter env);UG iter.pos;holding [x] (XT x)) >>= λit=>runOwn (.forLoop target it body orelse env) env):=by
  rw[exec_For]
  simp only[bind_assoc]
 rw[e]
 refine dS (TF ?_)
 refine dS (Sq h (λit s' q=>?_) λ_ _ e=>e)
 exact seg_call q
end
section
variable {prog:Program}{w:World}{A:Around}{R:GenEnd}{Y:Protocol}{n:Nat}{aa0:Shared}{fs:List Frame}{s:Shared}{env:Env}
theorem tJ {it:Sr}{body:Sj Stmt}{T:Sem Flow}(hT:execs body env=T)
  (h:Ss (model prog w) (A.over (.forLoop target it body orelse env) fs) (UO it) (λr s'=>match r with
    | none=>Seg (model prog w) A R Y n aa0 (.forLoop target it body orelse env) (.pure (.again (.block orelse env))) fs s'
    | some v=>Ss (model prog w) (A.over (.forLoop target it body orelse env) fs) (TC target it v) (λ_ aaV=>Ss (model prog w) (A.over (.forLoop target it body orelse env) fs) (assign target env v) (λ_ aaW=>
     Seg (model prog w) A R Y n aa0 (.forLoop target it body orelse env) (T.wrap (λf=>match f with
      | .next | .cont=>.pure (.again (.forLoop target it body orelse env))
      | .brk=>.pure (.done .next)
      | .ret v=>.pure (.done (.ret v))) (λe=>(do YG e env;Wr e:Sem Unit).wrap (λ_=>.raise e) .raise id id) id id) fs aaW) No aaV) No s') No s) :
  Seg (model prog w) A R Y n aa0 (.forLoop target it body orelse env) ((model prog w).den (.forLoop target it body orelse env)) fs s:=by
 subst hT
 show Seg _ A R Y n aa0 _ ((forTurn target it body orelse env).onRaise (λx=>do YG x env;Wr x)) fs s
 unfold forTurn
 rw[Sem.onRaise_eq_wrap]
 refine dS (TF ?_)
 refine dS (Yq ?_)
 refine Sq h (λr s' q=>?_) λ_ _ e=>e.elim
 induction r with
 | none=>exact q
 | some v=>
  refine dS (Sq q (λ_ aaV q=>?_) λ_ _ e=>e)
  refine dS (Sq q (λ_ aaW q=>?_) λ_ _ e=>e)
  rw[aam,Sem.wrap_wrap]
  rw[Sem.wrap_congr (execs body env) _ _ (K':=λf=>match f with
      | .next | .cont=>.pure (.again (.forLoop target it body orelse env))
      | .brk=>.pure (.done .next)
      | .ret v=>.pure (.done (.ret v))) (H':=(λe=>(do YG e env;Wr e:Sem Unit).wrap (λ_=>.raise e) .raise id id))
    (λf=>by induction f <;> rfl)
    (λe=>by first | exact Sem.bind_eq_wrap _ _ | (show(do YG e env;Wr e:Sem Unit).bind (λ_=>.raise e)=_;rw[Sem.bind_eq_wrap]))]
  exact q
end
def Kt:SV Int->Sr->Prop
 | none,v=>v=.none
 | some j,v=>∃t,v=.int j t
noncomputable def jP:Nat->SV Int->Sj Int->Sj Int
 | 0,_,_=>[]
 | _+1,_,[]=>[]
 | n+1,last,i::r=>if i=127 then [] else if i=0 then Sv (n+1) (last.getD 0) else i::jP n (Si i) r
def qM:Nat->SV Int->Sj Int->Prop
 | 0,_,_=>True
 | _+1,_,[]=>True
 | n+1,last,i::r=>i≠127->if i=0 then last≠none else qM n (Si i) r
theorem E6:∀{n:Nat}{last:SV Int}{l:Sj Int}{k:Sj Int->Sm},w1 n last l k=Sk->qM n last l/\k (jP n last l)=Sk
 | 0,_,_,_,h=>⟨trivial,h⟩
 | _+1,_,[],_,h=>⟨trivial,h⟩
 | n+1,last,i::r,k,h=>by
  have h:aD (jf i 127) (k []) (aD (jf i 0) (cU last λl=>k (cw [l] (TA n))) (w1 n (Si i) r λq=>k (i::q)))=Sk:=h
  rw[dt,dt] at h
  rcases dF h with ⟨q,h⟩ | ⟨q,h⟩
  ·have q:=S8 q
   refine Xg (λz=>(z q).elim) ?_
   rw[show jP (n+1) last (i::r)=[] from SX q]
   exact h
  ·have q:=of_decide_eq_false q
   have eL:jP (n+1) last (i::r)=if i=0 then Sv (n+1) (last.getD 0) else i::jP n (Si i) r:=SK q
   rcases dF h with ⟨q',h⟩ | ⟨q',h⟩
   ·have q':=S8 q'
    refine aE (xw h) λj e81 h1=>?_;subst e81
    rw[eL,SX q']
    refine Xg (λ_=>?_) ?_
    ·rw[SX q'];exact λz=>nomatch z
    ·rw[gC] at h1
     have e:∀m,(Sv m [j]).flatten=Sv m j:=λm=>by
      induction m with
      | zero=>rfl
      | succ m ih=>rw[TN,TJ,ih];rfl
     rw[e] at h1
     exact h1
   ·have q':=of_decide_eq_false q'
    obtain⟨a,b⟩:=E6 h
    rw[eL,SK q']
    refine Xg (λ_=>?_) b
    rw[SK q'];exact a
structure pj (env:Env):Prop where
 kind:env.scope.kind=.function
 co:env.scope.isCoroutine=dV
 glob:env.globals=S4
 kg:env.kindOf ("grouping":Str)=Si .local
 kl:env.kindOf ("last_interval":Str)=Si .local
 ki:env.kindOf ("interval":Str)=Si .local
 kc:env.kindOf ("CHAR_MAX":Str)=Si .globalImplicit
structure GS (C:Cfg)(env:Env)(a b:Sx)(vs:Sj Sr)(i:Nat)(last:SV Int)(s:Sw):Prop where
 base:∀p o,C.aa8.get? p=Si o->s.heap.get? p=Si o
 ns:∃m v,s.heap.Ns env.locals m/\m "last_interval"=Si v/\Kt last v
 it:s.heap.IsListIter b a i
 ls:s.heap.IsList a vs.toArray
structure GK (env:Env)(b:Sx)(s s':Sw):Prop where
 keep:∀p o,p≠env.locals->p≠b->s.heap.get? p=Si o->s'.heap.get? p=Si o
 gens:s'.gens=s.gens
 os:s'.os=s.os
 drawn:s'.drawn=s.drawn
 nt:∀vs m,s.heap.get? b≠Si (cK vs m)
theorem GK.refl {s:Sw}(nt:∀vs m,s.heap.get? b≠Si (cK vs m)):GK env b s s:=⟨λ_ _ _ _ e=>e,rfl,rfl,rfl,nt⟩
theorem GK.trans {s:Sw}(y:GK env b s' s'')(x:GK env b s s'):GK env b s s'':=⟨λp o n w e=>y.keep p o n w (x.keep p o n w e),y.gens.trans x.gens,y.os.trans x.os,y.drawn.trans x.drawn,x.nt⟩
theorem lx (q:h.IsListIter b a i)(vs:Sj Sr)(m:Nat):h.get? b≠Si (cK vs m):=by refine fF q λo e c _=>?_;exact cE e c (by decide) _ _
theorem jZ (q:h.IsListIter b a i):∃o,h.get? b=Si o:=let ⟨o,e,_⟩:=q;⟨o,e⟩
def HW (C:Cfg)(Gd:Sx->Prop)(s'':Sw):Prop:=(∀p o,C.aa8.get? p=Si o->s''.heap.get? p=Si o)/\∀b,s''.heap.objs.size<=b->Gd b
def gY (C:Cfg)(env:Env)(a:Sx)(Gd:Sx->Prop)(ex:Nat->SV Int):Protocol:=λn aa0 v s' kap=>
 (∃j t,v=.int j t/\ex n=Si j)/\∃b,Gd b/\(∃o,s'.heap.get? b=Si o)/\GK env b aa0 s'/\(n≠0->∀s'',HW C Gd s''->(∀p∈[env.locals,b,a],∀o,s'.heap.get? p=Si o->s''.heap.get? p=Si o)->kap (.send .none) s'')
def gR (env:Env)(Gd:Sx->Prop)(ex:Nat->SV Int):GenEnd:=λn aa0 r s'=>r=.ok (.ret .none)/\(∃b,Gd b/\GK env b aa0 s')/\∃m,n=m+1/\ex m=none
section
variable {C:Cfg}{A:Around}{env:Env}{a b:Addr}{vs:List Value}{xs:List Int}{ex:Nat->Option Int}{Gd:Addr->Prop}{fs:List Frame}{s aa0:Shared}{i n:Nat}{last:Option Int}
variable {p q r p1 p2 p3 p4 p5 p6 p7 p8 p9 q1 q2 q3 q4 q5 q6 q7 q8 q9 r1 r2 r3 r4 r5 r6 r7 r8 r9:Pos}{k1 k2 k3 k4 k5:Nat}{rs:List Stmt}
theorem GS.at' (G:GS C env a b vs i last s) (h0:∀p o,C.aa8.get? p=Si o->s''.heap.get? p=Si o)(h1:∀p∈[env.locals,b,a],∀o,s.heap.get? p=Si o->s''.heap.get? p=Si o):GS C env a b vs i last s'':=by
 refine gw (G.ns) λm v hn hm hl=>?_
 exact⟨h0,⟨m,v,hn.at' λo e=>h1 _ (mI 0 rfl) o e,hm,hl⟩,G.it.at λo e=>h1 _ (mI 1 rfl) o e,G.ls.at λo e=>h1 _ (mI 2 rfl) o e⟩
theorem dn (G:pj env){m:Str->SV Sr} {v:Sr} (k:env.kindOf x=Si .local)(hn:s.heap.Ns env.locals m)(hm:m x=Si v)(hd:(x == ("__debug__":Str))=dV)(h:Q v s):Ss C.M A (eval (.Name x p) env) Q E s:=
 V0 (T8 G.kind k hn hm h) hd
theorem yH {M:Model} {s:Sw} {v:Sr} (g:env.globals=S4)(L:Looks M s.heap (nsGet S4 x) (Si v))(h:Q v s):Ss M A (XS env x) Q E s:=by
 unfold XS
 rw[g]
 exact kV (L.here (Sl h))
theorem fv (G:pj env):interactive env=dV:=by unfold interactive;rw[G.kind];rfl
theorem zZ (G:pj env)(hgd:Gd b){j:Int}(hfs:splitAtGen fs=none)(hfg:fs.any Frame.guarded=dV) :
  ∀(n:Nat),(∀m≤n,ex m=Si j)->∀s aa0,GS C env a b vs i (Si j) s->GK env b aa0 s ->
  Seg C.M A (gR env Gd ex) (gY C env a Gd ex) (n+1) aa0 (.whileLoop (.Constant (.bool Sk) k1 p1) [.Expr (.Yield (Si (.Name "last_interval" p2)) p3) p4] [] env) (C.M.den (.whileLoop (.Constant (.bool Sk) k1 p1) [.Expr (.Yield (Si (.Name "last_interval" p2)) p3) p4] [] env)) fs s:=by
 intro n
 induction n with
 | zero=>
  intro hex s aa0 S K
  refine seg_whileLoop (XW (XF (UL ?_)))
  rw[SX rfl]
  refine Uw (Zt hfs rfl hfg ?_ G.co (fv G))
  obtain⟨m,v,hn,hm,t,rfl⟩:=S.ns
  refine dn G G.kl hn hm (by decide) λkap hk=>⟨⟨j,t,rfl,hex 0 (SW _)⟩,b,hgd,jZ S.it,K,λz=>(z rfl).elim⟩
 | succ n ih=>
  intro hex s aa0 S K
  refine seg_whileLoop (XW (XF (UL ?_)))
  rw[SX rfl]
  refine Uw (Zt hfs rfl hfg ?_ G.co (fv G))
  obtain⟨m,v,hn,hm,t,rfl⟩:=S.ns
  refine dn G G.kl hn hm (by decide) λkap hk=>⟨⟨j,t,rfl,hex _ (SW _)⟩,b,hgd,jZ S.it,K,λ_ s'' h0 h1=>hk .none s'' ?_⟩
  exact Xn (seg_again rfl (ih (λm h=>hex m (Vt h)) s'' s'' (S.at' h0.1 h1) (.refl (lx (S.at' h0.1 h1).it))))
theorem Ie {ys:Array Sr} {x:Int}(hI:UK ys.toList xs)(h:xs[i]? = Si x):∃t,ys[i]? = Si (.int x t):=by
 have hl:=hI.length
 have hi:=(SJ.mp h).1
 have hi':i<ys.toList.length:=by lia
 refine fB (hI.at i ys.toList[i] (Sz hi')) λn t e e'=>?_
 rw[h] at e'
 cases e'
 refine⟨t,?_⟩
 rw[←VT,Sz hi',e]
def zV (C:Cfg)(A:Ue)(env:Env)(a b:Sx)(vs:Sj Sr)(xs:Sj Int)(ex:Nat->SV Int)(Gd:Sx->Prop)(fs:Sj Frame)(c:Code)(n:Nat):Prop:=
 ∀(l:Sj Int) (i:Nat) (last:SV Int),xs.drop i=l->qM (n+1) last l->(∀m≤n,ex m=(jP (n+1) last l)[n - m]?)->∀s aa0,GS C env a b vs i last s->GK env b aa0 s->Seg C.M A (gR env Gd ex) (gY C env a Gd ex) (n+1) aa0 c (C.M.den c) fs s
theorem sW (Ok:C.Ok)(G:pj env)(hgd:Gd b) (gc:aaN C.K S4 "CHAR_MAX"=Si (Si (.int 127 tc)))(hI:UK vs xs) 
  (hB:B=[.If (.Compare (.Name "interval" p2) [.Eq] [.Name "CHAR_MAX" p3] p4) [.Return none p5] [] p6,.If (.Compare (.Name "interval" p7) [.Eq] [.Constant (.int 0) k1 p8] p9) [.If (.Compare (.Name "last_interval" q1) [.Is] [.Constant .none k2 q2] q3) rs [] q4,.While (.Constant (.bool Sk) k3 q5) [.Expr (.Yield (Si (.Name "last_interval" q6)) q7) q8] [] q9] [] r1,.Expr (.Yield (Si (.Name "interval" r2)) r3) r4,.Assign [.Name "last_interval" r5] (.Name "interval" r6) r7])
  {kk:Result->Sem Fin} {lv:Sj Sr} {abi:Code} {fp:Pos} (al:a≠env.locals) (ab:a≠b) (bl:b≠env.locals) (hl0:C.aa8.get? env.locals=none) (hb0:C.aa8.get? b=none)
  (hN:(A.over (.forLoop (.Name "interval" p1) (.ref b) B [] env) [.ret kk none dV lv abi fp []]).handled=none)
  (hfin:∀(f:Flow) n aa0 s',(f=.next\/f=.ret .none)->gR env Gd ex n aa0 (.ok (.ret .none)) s'->Seg C.M A (gR env Gd ex) (gY C env a Gd ex) n aa0 abi (kk (.ok f)) [] s') (n:Nat)
  (ih:∀m,n=m+1->zV C A env a b vs xs ex Gd [.ret kk none dV lv abi fp []] (.forLoop (.Name "interval" p1) (.ref b) B [] env) m):zV C A env a b vs xs ex Gd [.ret kk none dV lv abi fp []] (.forLoop (.Name "interval" p1) (.ref b) B [] env) n:=by
 intro l i last hd hok hex s aa0 S K
 have hxB:execs B env=execs [.If (.Compare (.Name "interval" p2) [.Eq] [.Name "CHAR_MAX" p3] p4) [.Return none p5] [] p6,.If (.Compare (.Name "interval" p7) [.Eq] [.Constant (.int 0) k1 p8] p9) [.If (.Compare (.Name "last_interval" q1) [.Is] [.Constant .none k2 q2] q3) rs [] q4,.While (.Constant (.bool Sk) k3 q5) [.Expr (.Yield (Si (.Name "last_interval" q6)) q7) q8] [] q9] [] r1,.Expr (.Yield (Si (.Name "interval" r2)) r3) r4,.Assign [.Name "last_interval" r5] (.Name "interval" r6) r7] env:=by rw[hB]
 refine tJ hxB ?_
 clear hxB
 induction l using Sj.casesOn with
 | nil=>
  have hlen:xs.length<=i:=by
   have:=SU Sj.length hd
   simp at this;lia
  refine W4 hN S.it S.ls (by simp[hI.length];omega) λh' he=>?_
  refine seg_again rfl ?_
  refine seg_leaf (.ok .next) (hfin .next _ _ _ (.inl rfl) ⟨rfl,⟨b,hgd,GK.trans ⟨λp o _ w e=>he p o w e,rfl,rfl,rfl,lx S.it⟩ K⟩,n,rfl,?_⟩)
  rw[hex n (SW _)]
  rfl
 | cons x r=>
  have hx:xs[i]? = Si x:=by rw[←Vo,hd];rfl
  have hd':xs.drop (i+1)=r:=by rw[←W3,hd];rfl
  refine bG (Ie (ys:=vs.toArray) (by simpa using hI) hx) λt ht=>?_
  refine gw (S.ns) λm v hn hm hlast=>?_
  refine WM S.it S.ls ht λaaX acx abh=>?_
  refine Sl ?_
  have abM:aaX.Ns env.locals m:=hn.sameBut abh (Ne.symm bl)
  refine Yl (Ut G.ki abM (λaa7 hn2 abm=>?_) (by rw[G.kind];rfl))
  have nL:∀p o,p≠env.locals->p≠b->s.heap.get? p=Si o->aa7.get? p=Si o:=λp o n w e=>by rw[abm.2 p n,abh.2 p w];exact e
  have abu:GK env b aa0 { s with heap:=aa7,toks:=s.toks+1 }:=GK.trans (s':=s) ⟨λp o n w e=>nL p o n w e,rfl,rfl,rfl,lx S.it⟩ K
  have base2:∀p o,C.aa8.get? p=Si o->aa7.get? p=Si o:=λp o e=>nL p o (λq=>by rw[q,hl0] at e;cases e) (λq=>by rw[q,hb0] at e;cases e) (S.base p o e)
  have abP:aa7.IsListIter b a (i+1):=Heap.IsListIter.extBut acx abm.extBut bl
  have ls2:aa7.IsList a vs.toArray:=S.ls.at λo e=>nL a o al ab e
  generalize hmm:(λy=>if y=("interval":Str) then Si (ZH x t) else m y)=abl at hn2
  have mi:abl "interval"=Si (.int x t):=by rw[←hmm];rfl
  have ml:abl "last_interval"=Si v:=by rw[←hmm];exact hm
  have acB:C.K.In aa7:=λa o e=>base2 a o (Ok.X a o e)
  refine Uw (vx ?_)
  refine VS (dn G G.ki hn2 mi (by decide) ?_) rfl
  refine V0 (ks_loadName_global G.kind G.kc ?_) (by decide)
  refine yH G.glob (Xe acB gc) ?_
  refine Zf (UL ?_)
  by_cases q1:x=127
  ·refine Rs (by simp[q1]) (Uw (kR ?_))
   refine seg_leaf (.ok (.ret .none)) (hfin (.ret .none) _ _ _ (.inr rfl) ⟨rfl,⟨b,hgd,abu.keep,abu.gens,abu.os,abu.drawn,abu.nt⟩,n,rfl,?_⟩)
   rw[hex n (SW _),show jP (n+1) last (x::r)=[] from SX q1]
   rfl
  refine PF (by simp[q1]) (Xn ?_)
  have eL:jP (n+1) last (x::r)=if x=0 then Sv (n+1) (last.getD 0) else x::jP n (Si x) r:=SK q1
  have oL:if x=0 then last≠none else qM n (Si x) r:=hok q1
  refine Uw (vx ?_)
  refine VS (dn G G.ki hn2 mi (by decide) ?_) rfl
  refine Wt ?_
  refine Zf (UL ?_)
  by_cases q2:x=0
  ·refine Rs (by simp[q2]) ?_
   rw[SX q2] at eL oL
   obtain⟨j,rfl⟩:=SV.ne_none_iff_exists'.mp oL
   obtain⟨tj,rfl⟩:=hlast
   refine Uw (vx ?_)
   refine VS (dn G G.kl hn2 ml (by decide) ?_) rfl
   refine XE ?_
   refine PySem.is_none (UL ?_)
   refine PF UA (Xn ?_)
   refine Uw (seg_While λp=>?_)
   refine zZ G hgd rfl rfl n (λm hm'=>?_) _ _ ⟨base2,⟨_,_,hn2,ml,tj,rfl⟩,abP,ls2⟩ ⟨abu.keep,abu.gens,abu.os,abu.drawn,abu.nt⟩
   rw[hex m hm',eL,WD,SX (by omega)]
   rfl
  refine PF (by simp[q2]) (Xn ?_)
  rw[SK q2] at eL oL
  refine Uw (Zt rfl rfl rfl ?_ G.co (fv G))
  refine dn G G.ki hn2 mi (by decide) λkap hk=>⟨⟨x,t,rfl,?_⟩,b,hgd,jZ abP,⟨abu.keep,abu.gens,abu.os,abu.drawn,abu.nt⟩,λhz s'' h0 h1=>hk .none s'' ?_⟩
  ·rw[hex n (SW _),eL];simp
  obtain⟨n',rfl⟩:∃n',n=n'+1:=⟨n - 1,by lia⟩
  have hn'':s''.heap.Ns env.locals abl:=hn2.at' λo e=>h1 _ (by simp) o e
  have it'':s''.heap.IsListIter b a (i+1):=abP.at λo e=>h1 _ (by simp) o e
  have ls'':s''.heap.IsList a vs.toArray:=ls2.at λo e=>h1 _ (by simp) o e
  refine Uw (jU (wpAny_Assign_Name (dn G G.ki hn'' mi (by decide) (Ut G.kl hn'' (λaa3 hn3 hs3=>?_) (by rw[G.kind];rfl)))))
  refine Xn (seg_again rfl ?_)
  refine ih n' rfl r (i+1) (Si x) hd' oL (λm hm'=>?_) _ _ ⟨λp o e=>?_,⟨_,_,hn3,rfl,t,rfl⟩,Heap.IsListIter.extBut it'' hs3.extBut bl,ls''.at λo e=>hs3.extBut _ _ al e⟩ ⟨λp o n _ e=>hs3.extBut _ _ n e,rfl,rfl,rfl,lx it''⟩
  ·rw[hex m (by lia),eL]
   have:n'+1 - m=(n' - m)+1:=by lia
   rw[this]
   rfl
  ·exact hs3.extBut _ _ (λq=>by rw[q,hl0] at e;cases e) (h0.1 p o e)
theorem A8 (Ok:C.Ok)(G:pj env)(hgd:Gd b) (gc:aaN C.K S4 "CHAR_MAX"=Si (Si (.int 127 tc)))(hI:UK vs xs) 
  (hB:B=[.If (.Compare (.Name "interval" p2) [.Eq] [.Name "CHAR_MAX" p3] p4) [.Return none p5] [] p6,.If (.Compare (.Name "interval" p7) [.Eq] [.Constant (.int 0) k1 p8] p9) [.If (.Compare (.Name "last_interval" q1) [.Is] [.Constant .none k2 q2] q3) rs [] q4,.While (.Constant (.bool Sk) k3 q5) [.Expr (.Yield (Si (.Name "last_interval" q6)) q7) q8] [] q9] [] r1,.Expr (.Yield (Si (.Name "interval" r2)) r3) r4,.Assign [.Name "last_interval" r5] (.Name "interval" r6) r7])
  {kk:Result->Sem Fin} {lv:Sj Sr} {abi:Code} {fp:Pos} (al:a≠env.locals) (ab:a≠b) (bl:b≠env.locals) (hl0:C.aa8.get? env.locals=none) (hb0:C.aa8.get? b=none)
  (hN:(A.over (.forLoop (.Name "interval" p1) (.ref b) B [] env) [.ret kk none dV lv abi fp []]).handled=none)
  (hfin:∀(f:Flow) n aa0 s',(f=.next\/f=.ret .none)->gR env Gd ex n aa0 (.ok (.ret .none)) s'->Seg C.M A (gR env Gd ex) (gY C env a Gd ex) n aa0 abi (kk (.ok f)) [] s'):∀n,zV C A env a b vs xs ex Gd [.ret kk none dV lv abi fp []] (.forLoop (.Name "interval" p1) (.ref b) B [] env) n:=by
 intro n
 induction n with
 | zero=>exact sW Ok G hgd gc hI hB al ab bl hl0 hb0 hN hfin 0 λm e=>nomatch e
 | succ n ih=>exact sW Ok G hgd gc hI hB al ab bl hl0 hb0 hN hfin (n+1) λm e=>by cases e;exact ih
theorem Eh (Ok:C.Ok)(G:pj env) (gc:aaN C.K S4 "CHAR_MAX"=Si (Si (.int 127 tc)))(hI:UK vs xs){body:Sj Stmt}
  (hB:B=[.If (.Compare (.Name "interval" p2) [.Eq] [.Name "CHAR_MAX" p3] p4) [.Return none p5] [] p6,.If (.Compare (.Name "interval" p7) [.Eq] [.Constant (.int 0) k1 p8] p9) [.If (.Compare (.Name "last_interval" q1) [.Is] [.Constant .none k2 q2] q3) rs [] q4,.While (.Constant (.bool Sk) k3 q5) [.Expr (.Yield (Si (.Name "last_interval" q6)) q7) q8] [] q9] [] r1,.Expr (.Yield (Si (.Name "interval" r2)) r3) r4,.Assign [.Name "last_interval" r5] (.Name "interval" r6) r7])
  (hbody:body=[.Assign [.Name "last_interval" r8] (.Constant .none k4 r9) p,.For (.Name "interval" p1) (.Name "grouping" q) B [] r]) (al:a≠env.locals) (hl0:C.aa8.get? env.locals=none) (hA:A.handled=none) (hg0:∀b,Gd b->C.aa8.get? b=none)
  (n:Nat) (hok:qM (n+1) none xs) (hex:∀m≤n,ex m=(jP (n+1) none xs)[n - m]?) (N:HW C Gd s) (hns:∃m,s.heap.Ns env.locals m/\m "grouping"=Si (.ref a)) (hl:s.heap.IsList a vs.toArray) :
  Seg C.M A (gR env Gd ex) (gY C env a Gd ex) (n+1) s (.func body env) (C.M.den (.func body env)) [] s:=by
 refine seg_func ?_
 have hx:execs body env=execs [.Assign [.Name "last_interval" r8] (.Constant .none k4 r9) p,.For (.Name "interval" p1) (.Name "grouping" q) B [] r] env:=by rw[hbody]
 rw[hx]
 refine aE hns λm hn hm=>?_
 refine Uw (jU (wpAny_Assign_Name (XE (Ut G.kl hn (λaaX abM abh=>?_) (by rw[G.kind];rfl)))))
 have acg:aaX.IsList a vs.toArray:=hl.at λo e=>abh.extBut _ _ al e
 have sz:aaX.objs.size=s.heap.objs.size:=abh.1
 have hL:env.locals<s.heap.objs.size:=hn.lt
 have ha:a<s.heap.objs.size:=by refine aE hl λo e _=>?_;exact Heap.lt_size e
 have hgd:Gd aaX.objs.size:=N.2 _ (by rw[sz];exact SW _)
 refine Uw (DS ?_)
 refine kV (dn G G.kg abM (v:=.ref a) hm (by decide) (kV (TT rfl (kV (TF (SR (WN (s:={ s with heap:=aaX,toks:=s.toks+1 }) acg ?_)))))))
 intro fp
 have hb:(aaX.push { cls:=.type "list_iterator",data:=.fields #[.ref a,.int 0 0] }).get? aaX.objs.size=Si { cls:=.type "list_iterator",data:=.fields #[.ref a,.int 0 0] }:=Heap.get?_push_size _ rfl
 have dead:∀vs m,s.heap.get? aaX.objs.size≠Si (cK vs m):=λvs m e=>by
  have:=Heap.lt_size e
  rw[sz] at this
  exact Tq _ this
 refine A8 Ok G hgd gc hI hB al (SP (by rw[sz];exact ha)) (Tz (by rw[sz];exact hL)) hl0 (hg0 _ hgd) hA (λf n aa0 s' hf hr=>?_) n xs 0 none rfl hok hex _ _ ⟨λp o e=>Heap.get?_push_of_some _ (abh.extBut _ _ (λq=>by rw[q,hl0] at e;cases e) (N.1 p o e)),⟨_,_,abM.push _,rfl,rfl⟩,⟨_,hb,rfl,rfl⟩,acg.push _⟩ ⟨λp o n _ e=>Heap.get?_push_of_some _ (abh.extBut _ _ n e),rfl,rfl,rfl,dead⟩
 rcases hf with rfl | rfl
 ·exact seg_end (.ok (.ret .none)) hr
 ·exact seg_end (.ok (.ret .none)) hr
end
section
variable {prog:Program}{w:World}{A:Around}{E:Value->Shared->Prop}{s:Shared}
theorem js {it:Sx}{x step:Int} (hit:Uk s.heap it x left step)(hleft:0<left)
  (hQ:∀h',Uk h' it (x+step) (left - 1) step->Heap.SameBut it s.heap h'->Q (.int x s.toks) { s with heap:=h',toks:=s.toks+1 }):Ss (model prog w) A (Tr (.ref it)) Q E s:=by
 have hT:s.TypeIs (.ref it) "range_iterator":=⟨_,hit,rfl⟩
 unfold Tr
 refine kV (T7 (name:=TY "__next__") hT Vk
  (Wu Vk hT XO (XB _) (AutoRange.range_iterator___next___range_iterator_1 it x left step (by lia)) ⟨hit,?_⟩))
 exact Sl (hQ _ (Heap.get?_update_self _ (Heap.get?_update_self _ hit rfl) rfl) ((Heap.SameBut.update ..).trans (Heap.SameBut.update ..)))
theorem j5 {it:Sx}{x step:Int} (hh:A.handled=none)(hit:Uk s.heap it x left step)(hleft:left<=0)
  (hE:∀h' e,Heap.ExtBut it s.heap h'->(∃o,h'.get? e=Si o/\o.cls=.type "StopIteration")->E (.ref e) { s with heap:=h' }):Ss (model prog w) A (Tr (.ref it)) Q E s:=by
 have hT:s.TypeIs (.ref it) "range_iterator":=⟨_,hit,rfl⟩
 unfold Tr
 refine kV (T7 (name:=TY "__next__") hT Vk
  (Uh Vk hT XO ?_ (XB _)))
 show Ss _ _ (field (.ref it) 0 >>= _) _ _ s
 refine kV (TH hit rfl (x:=VC x) rfl ?_)
 show Ss _ _ (field (.ref it) 1 >>= _) _ _ s
 refine kV (TH hit rfl (x:=VC left) rfl ?_)
 show Ss _ _ (field (.ref it) 2 >>= _) _ _ s
 refine kV (TH hit rfl (x:=VC step) rfl ?_)
 show Ss _ _ (if left<=0 then _ else _) _ _ s
 rw[SX hleft]
 refine kV (U5 ?_)
 refine kV ?_
 show Ss _ _ (newExc (.type "StopIteration") [] >>= _) _ _ _
 refine kV ?_
 dsimp only[newExc,newTuple]
 refine kV (TK ?_ (by size_fits))
 refine kV (m:=X0 _ _) (TT (a:=XY) (by first | rfl | (simp only[X0];rfl)) ?_)
 refine TK ?_ (by size_fits)
 dsimp only[raiseNew]
 refine kV (ZY ?_)
 first | rw[show A.in1.handled=none from hh] | rw[hh]
 refine kV (Sl (wpAny_throw ?_))
 exact hE _ _ (((Heap.ExtBut.refl it s.heap).push _).push _) ⟨_,Heap.get?_push_size _ rfl,rfl⟩
theorem vi {g:Nat}{gs:WX}{P:Nat->Sw->Sw->Prop}{Y:Protocol} (hh:A.handled=none)
  (hl:s.heap.NoLimit) (hroom:A.depth<W1)
  (hg:s.heap.IsGen a g) (hgs:s.gens[g]? = Si gs)
  (hgo:gs.Goes (model prog w) A.in1 (λn aa0 r aaV=>r=.ok (.ret .none)/\P n aa0 aaV) Y n (.send .none) (s.setGen g .running))
  (hY:∀v aaV gs',gs'.bare=Sk->Y (n - 1) (s.setGen g .running) v aaV (λr' s''=>match n with
    | 0=>False
    | m+1=>gs'.Goes (model prog w) A.in1 (λn aa0 r aaV=>r=.ok (.ret .none)/\P n aa0 aaV) Y m r' s'')->Q v (aaV.setGen g gs'))
  (hP:∀aaV,P n (s.setGen g .running) aaV->∀h' e,(∀b o,aaV.heap.get? b=Si o->h'.get? b=Si o)->(∃o,h'.get? e=Si o/\o.cls=.type "StopIteration")->E (.ref e) { aaV.setGen g .finished with heap:=h' }) :
  Ss (model prog w) A (Tr (.ref a)) Q E s:=by
 unfold Tr
 refine kV (T7 (name:=TY "__next__") hg.typeIs slot_gen_next
  (Uh slot_gen_next hg.typeIs entry_gen_next ?_ (args_gen_next _)))
 show Ss _ _ (Yc (.ref a) (.send .none)) _ _ s
 unfold Yc
 refine kV (SR (wpAny_genNumber hg (kV (wpAny_genState hgs ?_))))
 induction gs with
 | running=>exact hgo.elim
 | finished=>exact hgo.elim
 | _=>
  refine kV (wpAny_roomToWake hl hroom ?_)
  show Ss _ _ (.resume g (.send .none) [] _) _ _ s
  refine wpAny_resumeQ hgs hgo (λx aaV hx=>?_) (λv aaV gs' hb hv=>?_)
  ·obtain⟨rfl,hp⟩:=hx
   show Ss _ _ (newExc (.type "StopIteration") [] >>= _) _ _ _
   refine kV ?_
   dsimp only[newExc,newTuple]
   refine kV (TK ?_ (by size_fits))
   refine kV (m:=X0 _ _) (TT (a:=XY) (by first | rfl | (simp only[X0];rfl)) ?_)
   refine TK ?_ (by size_fits)
   dsimp only[raiseNew]
   refine kV (kV (ZY ?_))
   rw[show A.in1.handled=none from hh]
   refine wpAny_throw ?_
   exact hP aaV hp _ _ (λb o hb=>Heap.get?_push_of_some _ (Heap.get?_push_of_some _ hb)) ⟨_,Heap.get?_push_size _ rfl,rfl⟩
  ·exact Sl ⟨v,rfl,Sl (hY v aaV gs' hb hv)⟩
structure Os (z TI TO i1:Sx):Prop where
 TIz:TI≠z
 TOz:TO≠z
 i1z:i1≠z
 TITO:TI≠TO
 TIi1:TI≠i1
 TOi1:TO≠i1
def Lw (Co:Sr->Sw->Prop)(z TO:Sx)(x:Sr)(TI:Sx)(v:Sr)(abb:Sw):Prop:=Co v abb/\VN abb.heap z TI TO .ellipsis/\∃b,UI abb.heap TO x b
theorem lT {x:Int}{a b:Sr} {Co:Sr->Sw->Prop}{ace:Sr->Sw->Prop}(D:Os z TI TO i1)
  (hz:VN s.heap z TI TO .none) (hTI:UI s.heap TI (.ref i1) (.ref G)) (hTO:UI s.heap TO a b) (h1:Uk s.heap i1 x left 1) (hleft:0<left)
  (hG:∀aa3,(∀c o,c≠z->c≠TO->c≠i1->s.heap.get? c=Si o->aa3.get? c=Si o)->aa3.objs.size=s.heap.objs.size->VN aa3 z TI TO .ellipsis->UI aa3 TI (.ref i1) (.ref G)->UI aa3 TO (.int x s.toks) b->Uk aa3 i1 (x+1) (left - 1) 1 ->
   Ss (model prog w) A (Tr (.ref G)) (Lw Co z TO (.int x s.toks) TI) ace { s with heap:=aa3,toks:=s.toks+1 })
  (hE:∀e s',ace e s'->VN s'.heap z TI TO .ellipsis/\∀h',Heap.SameBut z s'.heap h'->E e { s' with heap:=h' })
  (hQ:∀v abb h',Co v abb->VN h' z TI TO (VC abb.heap.objs.size)->UI h' TO (.int x s.toks) v->UI h' abb.heap.objs.size (.int x s.toks) v->h'.objs.size=abb.heap.objs.size+1 ->
   (∀c o,c≠z->c≠TO->abb.heap.get? c=Si o->h'.get? c=Si o)->Q (.ref abb.heap.objs.size) { abb with heap:=h' }) :
  Ss (model prog w) A (Builtin.«zip.__next__» ⟨[.ref z],[]⟩) (λfin s'=>∃v,fin=.done (.ret v)/\Q v s') E s:=by
 show Ss _ _ (field (.ref z) 2 >>= _) _ _ _
 refine kV (TH hz rfl (x:=.bool dV) rfl ?_)
 show Ss _ _ (field (.ref z) 3 >>= _) _ _ _
 refine kV (TH hz rfl (x:=.ref TI) rfl ?_)
 refine kV (T6 hTI rfl ?_)
 show Ss _ _ (Ux (.ref z) >>= _) _ _ _
 refine kV ?_
 unfold Ux
 refine kV (TH hz rfl (x:=.none) rfl (Sl ?_))
 refine wP rfl (kV (U5 ?_))
 refine kV (TH hz rfl (x:=.ref TO) rfl ?_)
 refine kV (Vl hz (Sp rfl) λaaX abC abh=>?_)
 replace abC:VN aaX z TI TO .ellipsis:=abC
 refine kV ?_
 refine wE (Uy ..) (kV (kV (Yq ?_)))
 show Ss _ _ (Tr (.ref i1) >>= _) _ _ _
 refine kV (js (s:={ s with heap:=aaX }) (abh.extBut _ _ D.i1z h1) hleft λaa7 acv abm=>Sl ?_)
 have hTO2:UI aa7 TO a b:=abm.extBut _ _ D.TOi1 (abh.extBut _ _ D.TOz hTO)
 refine kV (T6 hTO2 rfl ?_)
 refine kV (wpAny_updateSeq_pair hTO2 λaa3 hTO3 hs3=>?_)
 replace hTO3:UI aa3 TO (.int x s.toks) b:=hTO3
 refine kV (Vs (Sl ?_))
 have abY:VN aa3 z TI TO .ellipsis:=hs3.extBut _ _ D.TOz.symm (abm.extBut _ _ D.i1z.symm abC)
 have hTI3:UI aa3 TI (.ref i1) (.ref G):=hs3.extBut _ _ D.TITO (abm.extBut _ _ D.TIi1 (abh.extBut _ _ D.TIz hTI))
 have h13:Uk aa3 i1 (x+1) (left - 1) 1:=hs3.extBut _ _ D.TOi1.symm acv
 refine wE (Uy ..) (kV (kV (Yq ?_)))
 show Ss _ _ (Tr (.ref G) >>= _) _ _ _
 refine kV (Sq (hG aa3 (λc o c1 c2 c3 e=>hs3.extBut _ _ c2 (abm.extBut _ _ c3 (abh.extBut _ _ c1 e))) (by rw[hs3.1,abm.1,abh.1]) abY hTI3 hTO3 h13) ?_ ?_)
 ·intro v abb H
  have hco:=H.1
  have hz4:=H.2.1
  refine bG H.2.2 λb' hTO4=>?_
  clear H
  obtain⟨h4,g4,d4,t4,o4⟩:=abb
  refine Sl ?_
  refine kV (T6 hTO4 rfl ?_)
  refine kV (wpAny_updateSeq_pair hTO4 λabf hTO5 hs5=>?_)
  replace hTO5:UI abf TO (.int x s.toks) v:=hTO5
  refine kV (Vs (Sl (Sl ?_)))
  refine kV (T6 hTO5 rfl ?_)
  refine kV (wpAny_newTuple ?_)
  have hsz:abf.objs.size=h4.objs.size:=hs5.1
  have hz5:VN abf z TI TO .ellipsis:=hs5.extBut _ _ D.TOz.symm hz4
  have hzlt:z<abf.objs.size:=Heap.lt_size hz5
  show Ss _ _ (Wh (.ref z) (.ref abf.objs.size) >>= _) _ _ _
  refine kV ?_
  unfold Wh
  have hz6:VN (abf.push { cls:=.type "tuple",data:=.seq #[.int x s.toks,v] }) z TI TO .ellipsis:=Heap.get?_push_of_some _ hz5
  refine kV (Vl hz6 (Sp rfl) λacm hz7 ab2=>?_)
  replace hz7:VN acm z TI TO (VC abf.objs.size):=hz7
  refine Vl hz7 (Sp rfl) λabE ab0 hs8=>?_
  replace ab0:VN abE z TI TO (VC abf.objs.size):=ab0
  have up:∀c o,c≠z->abf.get? c=Si o->abE.get? c=Si o:=λc o c1 e=>hs8.extBut _ _ c1 (ab2.extBut _ _ c1 (Heap.get?_push_of_some _ e))
  have hT8:UI abE abf.objs.size (.int x s.toks) v:=hs8.extBut _ _ (Tz hzlt) (ab2.extBut _ _ (Tz hzlt) (Heap.get?_push_size _ rfl))
  have hz8:abE.objs.size=abf.objs.size+1:=by rw[hs8.1,ab2.1,Heap.size_push]
  rw[hsz] at ab0 hT8 hz8
  refine Sl ⟨_,rfl,?_⟩
  show Q (.ref abf.objs.size) _
  rw[hsz]
  exact hQ v ⟨h4,g4,d4,t4,o4⟩ abE hco ab0 (up _ _ D.TOz hTO5) hT8 hz8 λc o c1 c2 e=>up c o c1 (hs5.extBut _ _ c2 e)
 ·rintro e s' he
  obtain⟨hz',k⟩:=hE e s' he
  obtain⟨h4,g4,d4,t4,o4⟩:=s'
  refine Vl hz' (Sp rfl) λabf _ hs5=>?_
  exact k abf hs5
def StopAt (e:Sr)(h:Heap):Prop:=∃a o,e=.ref a/\h.get? a=Si o/\o.cls=.type "StopIteration"
theorem StopAt.but {e:Sr} (x:StopAt e h)(hz:VN h z TI TO f)(hs:Heap.SameBut z h h'):StopAt e h':=by
 refine gw x λa o e82 ho hc=>?_;subst e82
 refine⟨a,o,rfl,hs.extBut _ _ (λq=>?_) ho,hc⟩
 subst q
 rw[hz] at ho
 cases ho
 simp at hc
theorem qP {x:Int}{a b:Sr}{Q:SV Sr->Sw->Prop}{Co:Sr->Sw->Prop}{En:Sw->Prop}(D:Os z TI TO i1)
  (hz:VN s.heap z TI TO .none) (hTI:UI s.heap TI (.ref i1) (.ref G)) (hTO:UI s.heap TO a b) (h1:Uk s.heap i1 x left 1) (hleft:0<left)
  (hG:∀aa3,(∀c o,c≠z->c≠TO->c≠i1->s.heap.get? c=Si o->aa3.get? c=Si o)->aa3.objs.size=s.heap.objs.size->VN aa3 z TI TO .ellipsis->UI aa3 TI (.ref i1) (.ref G)->UI aa3 TO (.int x s.toks) b->Uk aa3 i1 (x+1) (left - 1) 1 ->
   Ss (model prog w) A.in1 (Tr (.ref G)) (Lw Co z TO (.int x s.toks) TI) (λe s'=>StopAt e s'.heap/\VN s'.heap z TI TO .ellipsis/\∀h',Heap.SameBut z s'.heap h'->En { s' with heap:=h' }) { s with heap:=aa3,toks:=s.toks+1 })
  (hN:∀s',En s'->Q none s')
  (hQ:∀v abb h',Co v abb->VN h' z TI TO (VC abb.heap.objs.size)->UI h' TO (.int x s.toks) v->UI h' abb.heap.objs.size (.int x s.toks) v->h'.objs.size=abb.heap.objs.size+1 ->
   (∀c o,c≠z->c≠TO->abb.heap.get? c=Si o->h'.get? c=Si o)->Q (Si (.ref abb.heap.objs.size)) { abb with heap:=h' }) :
  Ss (model prog w) A (UO (.ref z)) Q E s:=by
 have hT:s.TypeIs (.ref z) "zip":=⟨_,hz,rfl⟩
 unfold UO
 refine kV (Vu (T7 (name:=TY "__next__") hT XC
  (Uh XC hT F.entry_zip_next (lT D hz hTI hTO h1 hleft hG (λe s' q=>⟨q.2.1,λh' hs=>?_⟩) λv abb h' a1 a2 a3 a4 a5 a6=>?_) (F.args_zip_next_1 _))))
 ·refine gw (q.1.but q.2.1 hs) λa o e82 ho hc=>?_;subst e82
  refine kV (Vg (T:="StopIteration") (b:=Sk) ⟨o,ho,hc⟩ Zr ?_)
  exact Sl (hN _ (q.2.2 h' hs))
 ·exact Sl (hQ v abb h' a1 a2 a3 a4 a5 a6)
theorem kX {x:Int}{a b:Sr}{Q:SV Sr->Sw->Prop}(hh:A.handled=none)(D:Os z TI TO i1)
  (hz:VN s.heap z TI TO .none) (hTI:UI s.heap TI (.ref i1) (.ref G)) (hTO:UI s.heap TO a b) (h1:Uk s.heap i1 x left 1) (hleft:left<=0)
  (hN:∀h',(∀c o,c≠z->c≠i1->s.heap.get? c=Si o->h'.get? c=Si o)->Q none { s with heap:=h' }) :
  Ss (model prog w) A (UO (.ref z)) Q E s:=by
 have hT:s.TypeIs (.ref z) "zip":=⟨_,hz,rfl⟩
 unfold UO
 refine kV (Vu (T7 (name:=TY "__next__") hT XC
  (Uh XC hT F.entry_zip_next ?_ (F.args_zip_next_1 _))))
 show Ss _ _ (field (.ref z) 2 >>= _) _ _ _
 refine kV (TH hz rfl (x:=.bool dV) rfl ?_)
 show Ss _ _ (field (.ref z) 3 >>= _) _ _ _
 refine kV (TH hz rfl (x:=.ref TI) rfl ?_)
 refine kV (T6 hTI rfl ?_)
 show Ss _ _ (Ux (.ref z) >>= _) _ _ _
 refine kV ?_
 unfold Ux
 refine kV (TH hz rfl (x:=.none) rfl (Sl ?_))
 refine wP rfl (kV (U5 ?_))
 refine kV (TH hz rfl (x:=.ref TO) rfl ?_)
 refine kV (Vl hz (Sp rfl) λaaX abC abh=>?_)
 replace abC:VN aaX z TI TO .ellipsis:=abC
 refine kV ?_
 refine kV (kV (Yq ?_))
 show Ss _ _ (Tr (.ref i1) >>= _) _ _ _
 refine kV (j5 (s:={ s with heap:=aaX }) hh (abh.extBut _ _ D.i1z h1) hleft λaa7 e abm he=>?_)
 refine aE he λoe hoe hce=>?_
 have ab1:VN aa7 z TI TO .ellipsis:=abm _ _ D.i1z.symm abC
 have hez:e≠z:=λx=>by subst x;rw[ab1] at hoe;cases hoe;simp at hce
 refine Vl ab1 (Sp rfl) λaa3 _ hs3=>?_
 refine kV (Vg (T:="StopIteration") (b:=Sk) ⟨oe,hs3.extBut _ _ hez hoe,hce⟩ Zr ?_)
 exact Sl (hN aa3 λc o c1 c3 x=>hs3.extBut _ _ c1 (abm _ _ c3 (abh.extBut _ _ c1 x)))
end
noncomputable abbrev Oo (h:Heap)(n:Int):Heap:=h.push { cls:=.type "range_iterator",data:=.fields #[VC 0,VC (Ts 0 n 1),VC 1] }
noncomputable abbrev Ov (h:Heap)(n:Int)(G:Sx):Heap:=(Oo h n).push { cls:=.type "tuple",data:=.seq #[.ref h.objs.size,.ref G] }
noncomputable abbrev Oj (h:Heap)(n:Int)(G:Sx):Heap:=(Ov h n G).push { cls:=.type "tuple",data:=.seq #[.none,.none] }
noncomputable abbrev I7 (h:Heap)(n:Int)(G:Sx):Heap:=(Oj h n G).push { cls:=.type "zip",data:=.fields #[.none,.bool dV,.bool dV,.ref (Oo h n).objs.size,.ref (Ov h n G).objs.size] }
theorem vE (r G g:Sx)(n:Int)(t u v:Tok)(hsmall:Builtin.Range.small 0 n 1=Sk) :
  Meets (Builtin.«zip.__new__» ⟨[.type "zip",.ref r,.ref G],[]⟩) (λ_ R s=>WQ s.heap r 0 n 1 t u v/\s.heap.IsGen G g /\
   R (.ok (.ret (.ref (Oj s.heap n G).objs.size))) { s with heap:=I7 s.heap n G }):=
 .of_wp λprog w A R s h=>by
  obtain⟨hp,g',d,tk,os⟩:=s;obtain⟨hr,hg,h⟩:=h
  have hsub:=sub_zip
  have hR:WQ (Sw.heap ⟨hp,g',d,tk,os⟩) r 0 n 1 t u v:=hr
  have hG2:Heap.IsGen (Sw.heap ⟨hp.push { cls:=.type "range_iterator",data:=.fields #[VC 0,VC (Ts 0 n 1),VC 1] },g',d,tk,os⟩) G g:=Heap.IsGen.push hg _
  wp_walk using XU hR hsmall,wpAny_pyIter_gen hG2
  exact⟨_,rfl,h⟩
section
variable {prog:Program}{w:World}{A:Around}{E:Value->Shared->Prop}{s:Shared}
theorem xS {r:Sx}{n:Int}{t u v:Tok} (hr:WQ s.heap r 0 n 1 t u v)(hsmall:Builtin.Range.small 0 n 1=Sk)(hg:s.heap.IsGen G g)
  (h:∀h',VN h' (s.heap.objs.size+3) (s.heap.objs.size+1) (s.heap.objs.size+2) .none->UI h' (s.heap.objs.size+1) (.ref s.heap.objs.size) (.ref G)->UI h' (s.heap.objs.size+2) .none .none ->
   Uk h' s.heap.objs.size 0 (Ts 0 n 1) 1->h'.objs.size=s.heap.objs.size+4->(∀c o,s.heap.get? c=Si o->h'.get? c=Si o)->Q (.ref (s.heap.objs.size+3)) { s with heap:=h' }) :
  Ss (model prog w) A (call (.type "zip") [.ref r,.ref G]) Q E s:=by
 refine callType_new F.called_zip (by decide) (F.typeCall_zip_2 _ _) (F.newCall_zip_2 _ _) (λobj=>F.args_object_init_3 obj _ _) F.entry_zip_new
  (vE r G g n t u v hsmall) ⟨hr,hg,?_⟩
 have z1:(Oo s.heap n).objs.size=s.heap.objs.size+1:=Heap.size_push ..
 have z2:(Ov s.heap n G).objs.size=s.heap.objs.size+2:=by rw[Heap.size_push,z1]
 have z3:(Oj s.heap n G).objs.size=s.heap.objs.size+3:=by rw[Heap.size_push,z2]
 have z4:(I7 s.heap n G).objs.size=s.heap.objs.size+4:=by rw[Heap.size_push,z3]
 have g4:(I7 s.heap n G).get? (Oj s.heap n G).objs.size=Si _:=Heap.get?_push_size _ rfl
 have g3:(I7 s.heap n G).get? (Ov s.heap n G).objs.size=Si _:=Heap.get?_push_of_some _ (Heap.get?_push_size _ rfl)
 have g2:(I7 s.heap n G).get? (Oo s.heap n).objs.size=Si _:=Heap.get?_push_of_some _ (Heap.get?_push_of_some _ (Heap.get?_push_size _ rfl))
 have g1:(I7 s.heap n G).get? s.heap.objs.size=Si _:=Heap.get?_push_of_some _ (Heap.get?_push_of_some _ (Heap.get?_push_of_some _ (Heap.get?_push_size _ rfl)))
 show _/\_
 rw[z1,z2,z3] at g4
 rw[z2] at g3
 rw[z1] at g2
 rw[z3]
 exact⟨⟨_,g4,rfl⟩,h _ g4 g2 g3 g1 z4 λc o x=>
  Heap.get?_push_of_some _ (Heap.get?_push_of_some _ (Heap.get?_push_of_some _ (Heap.get?_push_of_some _ x)))⟩
end
section
variable {C:Cfg}{A:Around}{E:Value->Shared->Prop}{s:Shared}
theorem jj {M:Model} {cl:Sj (Str×Sx)}{binds:Sj (Str×Sr)} {code:Sr} {bi:Sx}{Q:Env->Sw->Prop}(hc:∀x∈sc.names,(x.2 == NameKind.cell)=dV)
  (h:Ss M A (Zm binds PUnit.unit λ(x:Str×Sr) (_:PUnit)=>(do aat (VF sc s.heap.objs.size g cl qual func code around bi) x.1 x.2;pure (.yield PUnit.unit):Sem (ForInStep PUnit))) (λ_ s'=>Q (VF sc s.heap.objs.size g cl qual func code around bi) s') E { s with heap:=s.heap.push { cls:=.type (if around.isSome then "dict" else "frame"),data:=.dict #[] } }) :
  Ss M A (WT sc g cl binds qual func code around bi) Q E s:=by
 unfold WT
 refine kV (Zn ?_)
 refine kV (TT (forIn_yield_id cl λx m c=>by obtain⟨n,kd⟩:=x;have e:(kd == NameKind.cell)=dV:=hc _ m;dsimp only;rw[e];rfl) ?_)
 induction around with
 | none=>exact kV (Sq h (λ_ s' q=>Sl q) λ_ _ e=>e)
 | some o=>exact kV (Sq h (λ_ s' q=>Sl q) λ_ _ e=>e)
structure ZW (C:Cfg)(env cenv:Env)(hb:Heap)(Z:Nat)(z TI TO i1 G D a g:Sx):Prop where
 ap:Os z TI TO i1
 lt:∀p∈[z,TI,TO,i1,G,D,a,env.locals,cenv.locals],p<Z
 new:∀p∈[z,TI,TO,i1,G,D,env.locals,cenv.locals],hb.get? p=none
 base:∀p o,C.aa8.get? p=Si o->hb.get? p=Si o
 old:∀p o,hb.get? p=Si o->p<Z
 lz:env.locals≠z
 lTI:env.locals≠TI
 lTO:env.locals≠TO
 li:env.locals≠i1
 lG:env.locals≠G
 lD:env.locals≠D
 lc:env.locals≠cenv.locals
 Dz:D≠z
 DTI:D≠TI
 DTO:D≠TO
 Di:D≠i1
 DG:D≠G
 Dc:D≠cenv.locals
 cz:cenv.locals≠z
 cTI:cenv.locals≠TI
 cTO:cenv.locals≠TO
 ci:cenv.locals≠i1
 cG:cenv.locals≠G
 Gz:G≠z
 GTO:G≠TO
 Gi:G≠i1
inductive Ready (C:Cfg)(A:Ue)(env:Env)(Z:Nat)(a g:Sx)(ex:Nat->SV Int)(n:Nat)(s:Sw):Prop
 | mk (gs:WX) (b:Sx) (e:s.gens[g]? = Si gs) (go:∀s'',HW C (λp=>Z<=p) s''->(∀p∈[env.locals,b,a],∀o,s.heap.get? p=Si o->s''.heap.get? p=Si o) ->
  gs.Goes C.M A (gR env (λp=>Z<=p) ex) (gY C env a (λp=>Z<=p) ex) n (.send .none) s'') (hb:b=a\/Z<=b)
theorem Ready.mv {Z:Nat} {ex:Nat->SV Int} {s:Sw}(r:Ready C A env Z a g ex n s)(hg:s'.gens=s.gens)(hk:∀p,(p=env.locals\/p=a\/Z<=p)->∀o,s.heap.get? p=Si o->s'.heap.get? p=Si o):Ready C A env Z a g ex n s':=by
 obtain⟨gs,b,h1,h2,h3⟩:=r
 refine⟨gs,b,by rw[hg];exact h1,λs'' N k=>h2 s'' N λp m o e=>k p m o (hk p ?_ o e),h3⟩
 simp only[SD,aay,or_false] at m
 rcases m with m | m | m
 ·exact .inl m
 ·rcases h3 with q | q
  ·exact .inr (.inl (m.trans q))
  ·exact .inr (.inr (m▸q))
 ·exact .inr (.inl m)
structure ZC (C:Cfg)(A:Ue)(env cenv:Env)(hb:Heap)(aa0:Sw)(TI i1 G D a g:Sx)(ys:Sj Int)(N j jr:Nat)(s:Sw):Prop where
 keep:∀p o,hb.get? p=Si o->s.heap.get? p=Si o
 size:aa0.heap.objs.size<=s.heap.objs.size
 os:s.os=aa0.os
 gens:UZ aa0.gens->UZ s.gens
 ti:UI s.heap TI (.ref i1) (.ref G)
 rng:Uk s.heap i1 jr ((N:Int) - jr) 1
 gen:s.heap.IsGen G g
 ns:∃m,s.heap.Ns cenv.locals m
 lis:∃us m,s.heap.get? D=Si (cB us m)/\UK us (ys.take j)
 ready:jr<N->Ready C A env aa0.heap.objs.size a g (λm=>ys[N - 1 - m]?) (N - jr) s
theorem ZC.mv {s:Sw} {jr:Nat}(W:ZW C env cenv hb aa0.heap.objs.size z TI TO i1 G D a g)(ha:∃o,hb.get? a=Si o)(c:ZC C A env cenv hb aa0 TI i1 G D a g ys N j jr s)
  (hk:∀p o,p≠z->p≠TO->s.heap.get? p=Si o->s'.heap.get? p=Si o) (hsz:s.heap.objs.size<=s'.heap.objs.size) (hg:s'.gens=s.gens) (ho:s'.os=s.os):ZC C A env cenv hb aa0 TI i1 G D a g ys N j jr s':=by
 have live:∀p,(∃o,hb.get? p=Si o)->∀q∈[z,TI,TO,i1,G,D,env.locals,cenv.locals],p≠q:=λp ⟨o,e⟩ q m z=>by rw[z,W.new q m] at e;cases e
 refine fB (c.lis) λus m h1 h2=>?_
 refine bG (c.ns) λmm h3=>?_
 refine⟨λp o e=>hk p o (live p ⟨o,e⟩ z (by grind)) (live p ⟨o,e⟩ TO (by grind)) (c.keep p o e),So c.size hsz,ho.trans c.os,λq=>by rw[hg];exact c.gens q,hk _ _ W.ap.TIz W.ap.TITO c.ti,hk _ _ W.ap.i1z (Ne.symm W.ap.TOi1) c.rng,?_,⟨mm,h3.at' λo e=>hk _ o W.cz W.cTO e⟩,⟨us,m,hk _ _ W.Dz W.DTO h1,h2⟩,λq=>(c.ready q).mv hg λp hp o e=>hk p o ?_ ?_ e⟩
 ·refine iB (c.gen) λo nm qn e r=>?_
  exact⟨o,nm,qn,hk _ _ W.Gz W.GTO e,r⟩
 ·rcases hp with rfl | rfl | q
  ·exact W.lz
  ·exact live _ ha z (by grind)
  ·exact Tz (SH (W.lt z (by grind)) q)
 ·rcases hp with rfl | rfl | q
  ·exact W.lTO
  ·exact live _ ha TO (by grind)
  ·exact Tz (SH (W.lt TO (by grind)) q)
structure KD (cenv:Env)(hb:Heap)(aa0:Sw)(D:Sx)(ys:Sj Int)(j:Nat)(s':Sw):Prop where
 e:ys.length=j
 keep:∀p o,hb.get? p=Si o->s'.heap.get? p=Si o
 os:s'.os=aa0.os
 gens:UZ aa0.gens->UZ s'.gens
 ns:∃m,s'.heap.Ns cenv.locals m
 lis:∃us n,s'.heap.get? D=Si (cB us n)/\UK us ys
inductive Me (C:Cfg)(A:Ue)(env cenv:Env)(hb:Heap)(aa0:Sw)(z TI TO i1 G D a g:Sx)(ys:Sj Int)(N j:Nat)(v:Sr)(s':Sw):Prop
 | mk (T:Sx) (x:Int) (t:Tok) (y:Int) (u:Tok) (e:v=.ref T) (hy:ys[j]? = Si y) (hT:UI s'.heap T (.int x t) (.int y u)) (hz:VN s'.heap z TI TO (VC T)) (hTO:∃p q,UI s'.heap TO p q) (c:ZC C A env cenv hb aa0 TI i1 G D a g ys N j (j+1) s') (lt:aa0.heap.objs.size<=T)
def w3 (C:Cfg)(A:Ue)(env cenv:Env)(hb:Heap)(aa0:Sw)(z TI TO i1 G D a g:Sx)(ys:Sj Int)(N j:Nat):SV Sr->Sw->Prop
 | none,s'=>KD cenv hb aa0 D ys j s'
 | some v,s'=>Me C A env cenv hb aa0 z TI TO i1 G D a g ys N j v s'
inductive RZ (C:Cfg)(A:Ue)(env cenv:Env)(hb:Heap)(aa0:Sw)(TI i1 G D a g:Sx)(ys:Sj Int)(N j:Nat)(v:Sr)(abb:Sw):Prop
 | mk (y:Int) (u:Tok) (e:v=.int y u) (hy:ys[j]? = Si y) (c:ZC C A env cenv hb aa0 TI i1 G D a g ys N j (j+1) abb)
theorem jH {gens:Array WX}{g:Nat}{x:WX}(h:UZ gens)(hx:x.bare=Sk):UZ (gens.set! g x):=by
 intro y hy
 rw[XP] at hy
 rcases Array.mem_or_eq_of_mem_setIfInBounds hy with q | rfl
 ·exact h y q
 ·exact hx
theorem t6 (h:j<N)(e:N - j=m+1):N - 1 - m=j:=by lia
theorem At (h:j+1<N)(e:N - j=m+1):m≠0:=by lia
theorem R6 {δ:Type}{p q:α->β->Prop}{r t u:γ->Prop}{z:γ->δ->Prop}{P:Prop}(h:(∃a b,p a b/\q a b)/\∃c,r c/\(∃d,z c d)/\t c/\u c)(H:∀a b c d,p a b->q a b->r c->z c d->t c->u c->P):P:=
 fB h.1 λa b h1 h2=>fC h.2 λc h3 h4 h5 h6=>bG h4 λd h4=>H a b c d h1 h2 h3 h4 h5 h6
theorem RJ {p q:α->Prop}{r t:β->Prop}{u z:γ->Prop}{P:Prop}(h:(∃a,p a/\q a)/\∃b,r b/\t b)(g:∃c,u c/\z c)(H:∀a b c,p a->q a->r b->t b->u c->z c->P):P:=
 aE h.1 λa h1 h2=>aE h.2 λb h3 h4=>aE g λc h5 h6=>H a b c h1 h2 h3 h4 h5 h6
theorem DR (Ok:C.Ok) {s:Sw} (hh:A.handled=none)(hroom:A.depth<W1)(W:ZW C env cenv hb aa0.heap.objs.size z TI TO i1 G D a g)(ha:∃o,hb.get? a=Si o)
  (c:ZC C A.in1.in1 env cenv hb aa0 TI i1 G D a g ys N j j s) (hz:VN s.heap z TI TO .none) (hTO:∃p q,UI s.heap TO p q) (hj:j<=N) (hy:j<=ys.length) (hN:ys.length<=N) :
  Ss C.M A (UO (.ref z)) (w3 C A.in1.in1 env cenv hb aa0 z TI TO i1 G D a g ys N j) cM s:=by
 refine vD hTO λp0 q0 hTO=>?_
 have live:∀p,(∃o,hb.get? p=Si o)->∀q∈[z,TI,TO,i1,G,D,env.locals,cenv.locals],p≠q:=λp ⟨o,e⟩ q m z=>by rw[z,W.new q m] at e;cases e
 by_cases hjN:j<N
 ·refine qP (Co:=RZ C A.in1.in1 env cenv hb aa0 TI i1 G D a g ys N j) (En:=λs'=>w3 C A.in1.in1 env cenv hb aa0 z TI TO i1 G D a g ys N j none s') W.ap hz c.ti hTO c.rng (Int.sub_pos_of_lt (Int.ofNat_lt.mpr hjN)) (λaa3 hk hsz abY hTI3 hTO3 acA=>?_) (λs' q=>q) λv abb h' hco a1 a2 a3 a4 a5=>?_
  ·obtain⟨gs,b,hgs,go,hbb⟩:=c.ready hjN
   obtain⟨m,hm⟩:∃m,N - j=m+1:=Xt (Nat.sub_ne_zero_of_lt hjN)
   rw[hm] at go
   have keep3:∀p o,hb.get? p=Si o->aa3.get? p=Si o:=λp o e=>hk p o (live p ⟨o,e⟩ z (mI 0 rfl)) (live p ⟨o,e⟩ TO (mI 2 rfl)) (live p ⟨o,e⟩ i1 (mI 3 rfl)) (c.keep p o e)
   have new3:∀p,(p=env.locals\/p=a\/aa0.heap.objs.size<=p)->p≠z/\p≠TO/\p≠i1:=λp hp=>by
    refine hp.elim (λe=>e▸⟨W.lz,W.lTO,W.li⟩) λhp=>hp.elim (λe=>e▸⟨live _ ha z (mI 0 rfl),live _ ha TO (mI 2 rfl),live _ ha i1 (mI 3 rfl)⟩) λq=>?_
    exact⟨Tz (SH (W.lt z (mI 0 rfl)) q),Tz (SH (W.lt TO (mI 2 rfl)) q),Tz (SH (W.lt i1 (mI 3 rfl)) q)⟩
   have pres:∀p∈[env.locals,b,a],∀o,s.heap.get? p=Si o->aa3.get? p=Si o:=λp hp o e=>by
    have:=new3 p ((SD.mp hp).elim .inl λhp=>(SD.mp hp).elim (λq=>.inr (hbb.elim (λr=>.inl (q.trans r)) λr=>.inr (q▸r))) λhp=>.inr (.inl (Sn.mp hp)))
    exact hk p o this.1 this.2.1 this.2.2 e
   have gen3:aa3.IsGen G g:=by refine iB (c.gen) λo nm qn e r=>?_;exact⟨o,nm,qn,hk _ _ W.Gz W.GTO W.Gi e,r⟩
   have hlt:g<s.gens.size:=(V6.mp hgs).1
   refine vi (s:={ s with heap:=aa3,toks:=s.toks+1 }) (P:=λn aaV s'=>(∃b,aa0.heap.objs.size<=b/\GK env b aaV s')/\∃m,n=m+1/\ys[N - 1 - m]? = none) hh (Ok.T.nolimit.keeps λp o e=>keep3 p o (W.base p o e)) hroom gen3 hgs (go _ ⟨λp o e=>keep3 p o (W.base p o e),λb q=>So (by show aa0.heap.objs.size<=aa3.objs.size;rw[hsz];exact c.size) q⟩ pres) ?_ ?_
   ·intro v aaV gs' hbare H
    refine R6 H λy u b' ob e hex hb' hob K kap=>?_
    clear H
    subst e
    have hyj:ys[j]? = Si y:=by rw[←hex];exact SU (ys[·]?) (t6 hjN hm).symm
    have up:∀p,p≠env.locals->p<aa0.heap.objs.size->∀o,aa3.get? p=Si o->aaV.heap.get? p=Si o:=λp hp hz o e=>K.keep p o hp (SP (SH hz hb')) e
    have upW:∀p∈[z,TI,TO,i1,G,D,a,env.locals,cenv.locals],p≠env.locals->∀o,aa3.get? p=Si o->aaV.heap.get? p=Si o:=λp hp hl=>up p hl (W.lt p hp)
    refine fB (c.lis) λus mm h1 h2=>?_
    refine bG (c.ns) λmc h3=>?_
    refine iB gen3 λog nm qn eg rg=>?_
    have hgens:aaV.gens=s.gens.set! g .running:=K.gens
    refine⟨⟨y,u,rfl,hyj,⟨λp o e=>up p (live p ⟨o,e⟩ env.locals (mI 6 rfl)) (W.old p o e) o (keep3 p o e),So hb' (TP (Heap.lt_size hob)),K.os.trans c.os,λq=>?_,upW TI (mI 1 rfl) (Ne.symm W.lTI) _ hTI3,?_,⟨og,nm,qn,upW G (mI 4 rfl) (Ne.symm W.lG) _ eg,rg⟩,⟨mc,?_⟩,⟨us,mm,?_,h2⟩,λq=>⟨gs',b',?_,λs'' N' k=>?_,.inr hb'⟩⟩⟩,upW z (mI 0 rfl) (Ne.symm W.lz) _ abY,_,upW TO (mI 2 rfl) (Ne.symm W.lTO) _ hTO3⟩
    ·show UZ (aaV.gens.set! g gs')
     rw[hgens]
     exact jH (jH (c.gens q) rfl) hbare
    ·have:=upW i1 (mI 3 rfl) (Ne.symm W.li) _ acA
     show Uk aaV.heap i1 ((j+1:Nat):Int) ((N:Int) - ((j+1:Nat):Int)) 1
     have e1:((j+1:Nat):Int)=(j:Int)+1:=rfl
     have e2:(N:Int) - ((j:Int)+1)=(N:Int) - j - 1:=(Int.sub_sub ..).symm
     rw[e1,e2]
     exact this
    ·refine h3.at' λo e=>?_
     exact upW _ (mI 8 rfl) (Ne.symm W.lc) o (hk _ o W.cz W.cTO W.ci e)
    ·exact upW D (mI 5 rfl) (Ne.symm W.lD) _ (hk _ _ W.Dz W.DTO W.Di h1)
    ·show(aaV.gens.set! g gs')[g]? = Si gs'
     rw[hgens]
     simp[XP,hlt]
    ·have hm0:m≠0:=At q hm
     have:=kap hm0 s'' N' k
     have e:N - (j+1)=m:=(YX ..).trans (SU aaP hm)
     rw[e]
     exact this
   ·intro aaV H h' e hk' H2
    refine RJ H H2 λb' m' oe hb' K hm' hex hoe hce=>?_
    clear H H2
    cases hm'
    have up:∀p,p≠env.locals->p<aa0.heap.objs.size->∀o,aa3.get? p=Si o->h'.get? p=Si o:=λp hp hz o e=>hk' _ _ (K.keep p o hp (SP (SH hz hb')) e)
    have upW:∀p∈[z,TI,TO,i1,G,D,a,env.locals,cenv.locals],p≠env.locals->∀o,aa3.get? p=Si o->h'.get? p=Si o:=λp hp hl=>up p hl (W.lt p hp)
    refine fB (c.lis) λus mm h1 h2=>?_
    refine bG (c.ns) λmc h3=>?_
    have hgens:aaV.gens=s.gens.set! g .running:=K.gens
    have hlen:ys.length=j:=by
     have:=We.mp hex
     rw[t6 hjN hm] at this
     exact UR this hy
    refine⟨⟨e,oe,rfl,hoe,hce⟩,upW z (mI 0 rfl) (Ne.symm W.lz) _ abY,λh'' hs=>⟨hlen,λp o e=>?_,K.os.trans c.os,λq=>?_,⟨mc,h3.at' λo e=>?_⟩,us,mm,?_,?_⟩⟩
    ·exact hs.extBut _ _ (live p ⟨o,e⟩ z (mI 0 rfl)) (up p (live p ⟨o,e⟩ env.locals (mI 6 rfl)) (W.old p o e) o (keep3 p o e))
    ·show UZ (aaV.gens.set! g .finished)
     rw[hgens]
     exact jH (jH (c.gens q) rfl) rfl
    ·exact hs.extBut _ _ W.cz (upW _ (mI 8 rfl) (Ne.symm W.lc) o (hk _ o W.cz W.cTO W.ci e))
    ·exact hs.extBut _ _ W.Dz (upW D (mI 5 rfl) (Ne.symm W.lD) _ (hk _ _ W.Dz W.DTO W.Di h1))
    ·rw[UP (Ub hlen)] at h2
     exact h2
  ·obtain⟨y,u,rfl,hyj,acj⟩:=hco
   refine⟨_,j,_,y,u,rfl,hyj,a3,a1,⟨_,_,a2⟩,acj.mv W ha a5 (by show abb.heap.objs.size<=h'.objs.size;lia) rfl rfl,acj.size⟩
 ·have:j=N:=UR hj (Uo.mp hjN)
  subst this
  refine kX hh W.ap hz c.ti hTO c.rng (Int.le_of_eq (Int.sub_self _)) λh' hk=>?_
  refine fB (c.lis) λus m h1 h2=>?_
  refine bG (c.ns) λmm h3=>?_
  refine⟨UR hN hy,λp o e=>hk p o (live p ⟨o,e⟩ z (mI 0 rfl)) (live p ⟨o,e⟩ i1 (mI 3 rfl)) (c.keep p o e),c.os,c.gens,⟨mm,h3.at' λo e=>hk _ o W.cz W.ci e⟩,us,m,hk _ _ W.Dz W.Di h1,?_⟩
  rw[UP hN] at h2
  exact h2
end
section
variable {C:Cfg}{A:Around}{E:Value->Shared->Prop}{s:Shared}
theorem ZC.mvG {s:Sw} {j' jr:Nat}(W:ZW C env cenv hb aa0.heap.objs.size z TI TO i1 G D a g)(ha:∃o,hb.get? a=Si o)(c:ZC C A env cenv hb aa0 TI i1 G D a g ys N j jr s)
  (hk:∀p o,p≠z->p≠TO->p≠cenv.locals->p≠D->s.heap.get? p=Si o->s'.heap.get? p=Si o) (hsz:aa0.heap.objs.size<=s'.heap.objs.size) (hg:s'.gens=s.gens) (ho:s'.os=s.os) (hn:∃m,s'.heap.Ns cenv.locals m) (hl:∃us m,s'.heap.get? D=Si (cB us m)/\UK us (ys.take j')):ZC C A env cenv hb aa0 TI i1 G D a g ys N j' jr s':=by
 have live:∀p,(∃o,hb.get? p=Si o)->∀q∈[z,TI,TO,i1,G,D,env.locals,cenv.locals],p≠q:=λp ⟨o,e⟩ q m z=>by rw[z,W.new q m] at e;exact iq e
 have hk':∀p o,(p≠z/\p≠TO/\p≠cenv.locals/\p≠D)->s.heap.get? p=Si o->s'.heap.get? p=Si o:=λp o q=>hk p o q.1 q.2.1 q.2.2.1 q.2.2.2
 refine⟨λp o e=>hk' p o ⟨live p ⟨o,e⟩ z (mI 0 rfl),live p ⟨o,e⟩ TO (mI 2 rfl),live p ⟨o,e⟩ cenv.locals (mI 7 rfl),live p ⟨o,e⟩ D (mI 5 rfl)⟩ (c.keep p o e),hsz,ho.trans c.os,λq=>by rw[hg];exact c.gens q,hk' _ _ ⟨W.ap.TIz,W.ap.TITO,Ne.symm W.cTI,Ne.symm W.DTI⟩ c.ti,hk' _ _ ⟨W.ap.i1z,Ne.symm W.ap.TOi1,Ne.symm W.ci,Ne.symm W.Di⟩ c.rng,?_,hn,hl,λq=>(c.ready q).mv hg λp hp o e=>hk' p o ?_ e⟩
 ·refine iB (c.gen) λo nm qn e r=>?_
  exact⟨o,nm,qn,hk' _ _ ⟨W.Gz,W.GTO,Ne.symm W.cG,Ne.symm W.DG⟩ e,r⟩
 ·rcases hp with rfl | rfl | q
  ·exact⟨W.lz,W.lTO,W.lc,W.lD⟩
  ·exact⟨live _ ha z (mI 0 rfl),live _ ha TO (mI 2 rfl),live _ ha cenv.locals (mI 7 rfl),live _ ha D (mI 5 rfl)⟩
  ·have:=λx hx=>Tz (SH (W.lt x hx) q)
   exact⟨this z (mI 0 rfl),this TO (mI 2 rfl),this cenv.locals (mI 8 rfl),this D (mI 5 rfl)⟩
theorem B4 (Ok:C.Ok){le:Env} {iter:Expr} (hh:A.handled=none)(hroom:A.depth<W1)(W:ZW C env cenv hb aa0.heap.objs.size z TI TO i1 G D a g)(ha:∃o,hb.get? a=Si o)
  (hle:le.locals=cenv.locals) (hkind:le.scope.kind=.function) (hk1:le.kindOf ("k":Str)=Si .local) (hk2:le.kindOf ("size":Str)=Si .local) (hN:ys.length<=N) (hN2:N<=5000)
  (hR:∀s',w3 C A.in1.in1 env cenv hb aa0 z TI TO i1 G D a g ys N ys.length none s'->R₀ (.ok .next) s')
  (c:ZC C A.in1.in1 env cenv hb aa0 TI i1 G D a g ys N 0 0 aa0) (hz:VN aa0.heap z TI TO .none) (hTO:∃p q,UI aa0.heap TO p q) :
  U4 C.M A (.compLoop (.ListComp (.Name "size" e1) [⟨.Tuple [.Name "k" t1,.Name "size" t2] kt tp,iter,[],0⟩] sc pos) 0 (.ref z) (.ref D) le) R₀ aa0:=by
 refine qy (λn s=>∃j,n=N+1 - j/\j<=N/\j<=ys.length/\ZC C A.in1.in1 env cenv hb aa0 TI i1 G D a g ys N j j s/\VN s.heap z TI TO .none/\∃p q,UI s.heap TO p q) ?_ (N+1) ⟨0,rfl,Th _,Th _,c,hz,hTO⟩
 intro n s H
 refine Rc H λj e hj hjy c hz hTO=>?_
 clear H
 subst e
 refine Sq (DR Ok hh hroom W ha c hz hTO hj hjy hN) ?_ λ_ _ e=>e
 intro r aaV q
 induction r with
 | none=>
  refine hR aaV ?_
  exact Eq.ndrec (motive:=λi=>w3 C A.in1.in1 env cenv hb aa0 z TI TO i1 G D a g ys N i none aaV) q (q.1:ys.length=j).symm
 | some v=>
  obtain⟨T,x,t,y,u,rfl,hyj,hT,abC,hTO1,abi,hTZ⟩:=q
  refine vD hTO1 λp0 q0 hTO1=>?_
  have Tne:∀x∈[z,TI,TO,i1,G,D,a,env.locals,cenv.locals],T≠x:=λx hx=>Tz (SH (W.lt x hx) hTZ)
  refine wpAny_letOwnedTupleGo_zip abC λaa7 ab1 abm=>?_
  have hT2:UI aa7 T (.int x t) (.int y u):=abm.extBut _ _ (Tne z (mI 0 rfl)) hT
  refine wpAny_assign_Tuple hh (t:=T) (items:=#[.int x t,.int y u]) ⟨_,hT2,rfl,_,rfl⟩ rfl rfl λaa3 he3=>?_
  have ab4:∀p o,aa7.get? p=Si o->aa3.get? p=Si o:=λp o e=>he3 p o (SP (Heap.lt_size e)) e
  refine bG (abi.ns) λacz hn0=>?_
  have hn3:aa3.Ns le.locals acz:=by rw[hle];exact hn0.at' λo e=>ab4 _ _ (abm.extBut _ _ W.cz e)
  refine VE (Yl (Ut hk1 hn3 (λabd hn4 hs4=>?_) (by rw[hkind];rfl)))
  refine VE (Yl (Ut hk2 hn4 (λabf hn5 hs5=>?_) (by rw[hkind];rfl)))
  refine Yi ?_
  refine wpAny_tests_nil ?_
  rw[SX rfl]
  refine kV (V0 (T8 hkind hk2 hn5 (v:=.int y u) rfl ?_) (by decide))
  have up5:∀p o,p≠z->p≠cenv.locals->aaV.heap.get? p=Si o->abf.get? p=Si o:=λp o n w e=>hs5.extBut _ _ (by rw[hle];exact w) (hs4.extBut _ _ (by rw[hle];exact w) (ab4 p o (abm.extBut _ _ n e)))
  refine fB (abi.lis) λus mm hD hI=>?_
  have hD5:=up5 _ _ W.Dz W.Dc hD
  have hjl:j<ys.length:=(SJ.mp hyj).1
  have hul:us.length=j:=by rw[hI.length,YC];exact Xu hjy
  refine kV (mN hD5 rfl rfl (by rw[Sy,hul];exact So hj (So hN2 (bo rfl))) (Sl ?_))
  refine bG (ft (·.push (ZH y u)) us mm) λm' hm=>?_
  have kp:∀p o,p≠D->abf.get? p=Si o->(abf.update D (S9 (·.push (ZH y u)))).get? p=Si o:=λp o n e=>by
   rw[Heap.get?_update_other _ _ (Ne.symm n)];exact e
  have acu:(abf.update D (S9 (·.push (ZH y u)))).get? D=Si (cB (us++[.int y u]) m'):=by
   rw[Heap.get?_update_self _ hD5 (by rw[hm];rfl),hm]
   congr 2
   simp
  have hz5:VN abf z TI TO .none:=hs5.extBut _ _ (by rw[hle];exact Ne.symm W.cz) (hs4.extBut _ _ (by rw[hle];exact Ne.symm W.cz) (ab4 _ _ ab1))
  refine⟨N+1 - (j+1),Nat.sub_succ_lt_self _ _ (Ul hj),j+1,rfl,So hjl hN,hjl,abi.mvG W ha (λp o a1 a2 a3 a4 e=>kp p o a4 (up5 p o a1 a3 e)) ?_ rfl rfl ?_ ⟨us++[.int y u],m',acu,?_⟩,kp _ _ (Ne.symm W.Dz) hz5,_,_,kp _ _ (Ne.symm W.DTO) (up5 _ _ W.ap.TOz (Ne.symm W.cTO) hTO1)⟩
  ·have:=Heap.lt_size (kp T _ (λq=>by rw[q] at hTZ;exact Tc (W.lt D (mI 5 rfl)) (Uo.mpr hTZ)) (up5 T _ (Tne z (mI 0 rfl)) (Tne cenv.locals (mI 8 rfl)) hT))
   exact So hTZ (TP this)
  ·refine⟨_,Eq.mp (by rw[hle]) (hn5.at' (h':=abf.update D (S9 (·.push (ZH y u)))) λo e=>kp _ o (by rw[hle];exact Ne.symm W.Dc) e)⟩
  ·rw[WU,hyj]
   exact hI.append (.cons y u .nil)
end
theorem ub (B i j:Nat)(h:SN i j=dV):@Ne Sx (B+i) (B+j):=λe=>by
 have e:i=j:=Nat.add_left_cancel e
 subst e
 rw[Vz] at h
 exact ff h.symm
theorem RK (B i j:Nat)(h:Nat.blt i j=Sk):@LT.lt Nat _ (B+i) (B+j):=Nat.add_lt_add_left (Sp h) B
theorem ZW.make {Z B:Nat} (hB:hb.objs.size=B)(eL:env.locals=B)(eG:G=B+1)(ei:i1=B+2)(eTI:TI=B+3)(eTO:TO=B+4)(ez:z=B+5)(eD:D=B+6)(ec:cenv.locals=B+7)(eZ:Z=B+8)(ha:a<B)
  (base:∀p o,C.aa8.get? p=Si o->hb.get? p=Si o):ZW C env cenv hb Z z TI TO i1 G D a g:=by
 subst eG ei eTI eTO ez eD eZ
 have d:∀i,hb.get? (B+i)=none:=λi=>bE (hB▸Td _ _)
 have L:=λj h=>(eL▸ub B 0 j h:@Ne Sx env.locals (B+j))
 have c:=λj h=>(ec▸ub B 7 j h:@Ne Sx cenv.locals (B+j))
 have lt:=λi h=>RK B i 8 h
 have al:a<B+8:=SH ha (Td _ _)
 exact { ap:=⟨ub B 3 5 rfl,ub B 4 5 rfl,ub B 2 5 rfl,ub B 3 4 rfl,ub B 3 2 rfl,ub B 4 2 rfl⟩,base:=base,old:=λp o e=>SH (Heap.lt_size e) (hB▸Td _ _),lt:=Tb.2 ⟨lt 5 rfl,Tb.2 ⟨lt 3 rfl,Tb.2 ⟨lt 4 rfl,Tb.2 ⟨lt 2 rfl,Tb.2 ⟨lt 1 rfl,Tb.2 ⟨lt 6 rfl,Tb.2 ⟨al,Tb.2 ⟨eL▸lt 0 rfl,Tb.2 ⟨ec▸lt 7 rfl,λ_ h=>nomatch h⟩⟩⟩⟩⟩⟩⟩⟩⟩,new:=Tb.2 ⟨d 5,Tb.2 ⟨d 3,Tb.2 ⟨d 4,Tb.2 ⟨d 2,Tb.2 ⟨d 1,Tb.2 ⟨d 6,Tb.2 ⟨eL▸d 0,Tb.2 ⟨ec▸d 7,λ_ h=>nomatch h⟩⟩⟩⟩⟩⟩⟩⟩,lz:=L 5 rfl,lTI:=L 3 rfl,lTO:=L 4 rfl,li:=L 2 rfl,lG:=L 1 rfl,lD:=L 6 rfl,lc:=ec▸L 7 rfl,Dz:=ub B 6 5 rfl,DTI:=ub B 6 3 rfl,DTO:=ub B 6 4 rfl,Di:=ub B 6 2 rfl,DG:=ub B 6 1 rfl,Dc:=ec▸ub B 6 7 rfl,cz:=c 5 rfl,cTI:=c 3 rfl,cTO:=c 4 rfl,ci:=c 2 rfl,cG:=c 1 rfl,Gz:=ub B 1 5 rfl,GTO:=ub B 1 4 rfl,Gi:=ub B 1 2 rfl }
structure sg (C:Cfg)(fa:Sx)(fd:XX)(body:Sj Stmt):Prop where
 obj:∃o,C.K.lookup fa=Si o/\o.data=.func fd
 code:codeIn C.K fd.code fd.qualname=Sk
 body:fd.body=.stmts body
 glob:fd.globals=S4
 co:fd.scope.isCoroutine=dV
 gen:fd.scope.isGenerator=Sk
 kind:fd.scope.kind=.function
 cell:∀x∈fd.scope.names,(x.2 == NameKind.cell)=dV
 kg:fd.scope.names.lookup ("grouping":Str)=Si .local
 kl:fd.scope.names.lookup ("last_interval":Str)=Si .local
 ki:fd.scope.names.lookup ("interval":Str)=Si .local
 kc:fd.scope.names.lookup ("CHAR_MAX":Str)=Si .globalImplicit
 binds:∀(u:Sr) (s:Sw),Ug s fd ⟨[u],[]⟩ [("grouping",u)]
section
variable {C:Cfg}{A:Around}{E:Value->Shared->Prop}{s:Shared}
theorem zb (Ok:C.Ok) {body:Sj Stmt}(Fn:sg C fa fd body)(X:C.K.In s.heap)(hlim:s.heap.NoLimit)(hroom:A.depth<W1) 
  (h:∀env h' tk G,pj env->env.locals=s.heap.objs.size->G=s.heap.objs.size+1->h'.objs.size=s.heap.objs.size+2->(∀p o,s.heap.get? p=Si o->h'.get? p=Si o)->(∃m,h'.Ns env.locals m/\m "grouping"=Si u)->h'.IsGen G s.gens.size ->
   Q (.ref G) { s with heap:=h',gens:=s.gens.push (.fresh (.func body env)),toks:=tk }):Ss C.M A (call (.ref fa) [u]) Q E s:=by
 refine aE (Fn.obj) λo ho hd=>?_
 refine UM (codeAny_call_generator hroom (X _ _ ho) hd Fn.co Fn.gen Fn.body (Z6 X Fn.code) ?_)
 refine Fn.binds u s _ _ _ _ ?_
 refine jj Fn.cell ?_
 generalize he:VF fd.scope s.heap.objs.size fd.globals fd.closure (fd.qualname ++ ".<locals>.") (Si fa) fd.code none fd.builtins=env
 have es:env.scope=fd.scope:=by rw[←he];rfl
 have el:env.locals=s.heap.objs.size:=by rw[←he];rfl
 have eg:env.globals=S4:=by rw[←he];exact Fn.glob
 have ek:∀x k,fd.scope.names.lookup x=Si k->env.kindOf x=Si k:=λx k q=>by unfold YR;rw[es];exact q
 have GE:pj env:=⟨by rw[es];exact Fn.kind,by rw[es];exact Fn.co,eg,ek _ _ Fn.kg,ek _ _ Fn.kl,ek _ _ Fn.ki,ek _ _ Fn.kc⟩
 have abV:(s.heap.push { cls:=.type (if (none:SV Env).isSome then "dict" else "frame"),data:=.dict #[] }).Ns env.locals λ_=>none:=by rw[el];exact Heap.Ns.new s.heap _
 refine kV (kV (Ut GE.kg abV (λaaX abM abh=>Sl (Sl ?_)) (by rw[GE.kind];rfl)))
 have sz:aaX.objs.size=s.heap.objs.size+1:=by rw[abh.1,Heap.size_push]
 have ach:∀p o,s.heap.get? p=Si o->aaX.get? p=Si o:=λp o e=>abh.extBut _ _ (by rw[el];exact SP (Heap.lt_size e)) (Heap.get?_push_of_some _ e)
 refine⟨hlim.keeps ach,?_⟩
 exact h env _ _ aaX.objs.size GE el sz (by rw[Heap.size_push,sz]) (λp o e=>Heap.get?_push_of_some _ (ach p o e)) ⟨_,abM.push _,rfl⟩ ⟨_,_,_,Heap.get?_push_size _ rfl,rfl,rfl,rfl⟩
theorem y8 (Ok:C.Ok) {body:Sj Stmt}(Fn:sg C fa fd body) (hn:SE C fx d en cn)(hg:SE C fx d eg cg)(hok:fx.ok=Sk)(x1:("zip":Str)∈fx.gn)(x2:("range":Str)∈fx.gn)(x3:fname∈fx.gn)
  (g1:GB C "zip" (.type "zip")) (g2:GB C "range" (.type "range")) (g3:GB C fname (.ref fa)) (k3:Keeps C (.ref fa)) (p1:aL [en]) (p2:aL [eg]) (p3:aL [.Call (.Name "range" z1) [en] [] z2,.Call (.Name fname z3) [eg] [] z4]) (p4:∀env,T4 [.Call (.Name fname z3) [eg] [] z4] env=(dV,eval (.Call (.Name fname z3) [eg] [] z4) env)::T4 [] env)
  (R:Rm d A) (En:ba fx env) (I:Inv C σ st s) (F:FrR C fx env fm σ s) {k:Int->Nat->St->Sm} (h:cn fm st (λx st=>aG x λx=>aD (aB (cT x)) (aD (small x) (cg fm st λy st=>bB y λm=>k x m st) dV) dV)=Sk)
  (hQ:∀(x:Int) (n:Nat) (a:Sx) σ' st' sb genv h' tk z TI TO i1 G,aB (cT x)=Sk->Step [] σ s σ' sb->Inv C σ' st' sb->σ'[n]? = Si a->k x n st'=Sk->pj genv ->
   genv.locals=sb.heap.objs.size->G=sb.heap.objs.size+1->i1=sb.heap.objs.size+2->TI=sb.heap.objs.size+3->TO=sb.heap.objs.size+4->z=sb.heap.objs.size+5->h'.objs.size=sb.heap.objs.size+6 ->
   (∀p o,sb.heap.get? p=Si o->h'.get? p=Si o)->(∃m,h'.Ns genv.locals m/\m "grouping"=Si (.ref a))->h'.IsGen G sb.gens.size->VN h' z TI TO .none->UI h' TI (.ref i1) (.ref G)->UI h' TO .none .none->Uk h' i1 0 (cT x) 1 ->
   Q (.ref z) { sb with heap:=h',gens:=sb.gens.push (.fresh (.func body genv)),toks:=tk }) :
  Ss C.M A (eval (.Call (.Name "zip" z0) [.Call (.Name "range" z1) [en] [] z2,.Call (.Name fname z3) [eg] [] z4] [] z5) env) Q cM s:=by
 refine TB (bT Ok hok x1 g1 En I ?_)
 refine Yj (P:=C.K.In) (by show(_ || false)=dV;rw[p3.1];rfl) bL ?_
 have q':Ss C.M A (spliced (W9 z5 (T4 [.Call (.Name "range" z1) [en] [] z2,.Call (.Name fname z3) [eg] [] z4] env))) (λus s'=>C.K.In s'.heap/\Ss C.M A (call (.type "zip") ([]++us)) Q cM s') cM s:=by
  refine fB (p3.2.resolve_left (λq=>nomatch q)) λe0 rest e1 he=>?_
  cases e1
  refine Va ?_ (he env)
  refine TB (bT Ok hok x2 g2 En I ?_)
  refine bK (cs:=ae cn av) (k:=λvs st=>nv vs λx=>aG x λx=>aD (aB (cT x)) (aD (small x) (cg fm st λy st=>bB y λm=>k x m st) dV) dV) Ok bL p1 (cP hn ag (λenv=>by obtain⟨e0,rest,e1,he⟩:=p1.2.resolve_left (λq=>nomatch q);cases e1;exact he env)) R En I F h λσ1 l st1 us aaV aaZ aa1 aa4 hle aaX=>?_
  clear hle
  refine dY aaX λv e81 h2=>?_;clear aaX;subst e81
  refine aO h2 λx e81 h3=>?_;clear h2;subst e81
  refine aM h3 λhlen h4=>?_;clear h3
  refine aM h4 λhsm h5=>?_;clear h4
  refine VRs.cons_e aa4 λu0 _ ra rr=>VRs.nil_e rr (VR.int_e ra λtk0=>?_)
  clear aa4 ra rr
  refine aad ?_
  have aa9:Inv C σ1 st1 { aaV with heap:=aaV.heap.push { cls:=.type "range",data:=.fields #[.int 0 aaV.toks,.int x tk0,.int 1 (aaV.toks+1)] },toks:=aaV.toks+1+1 }:=aa1.pushed
  have aa6:Step [] σ s σ1 { aaV with heap:=aaV.heap.push { cls:=.type "range",data:=.fields #[.int 0 aaV.toks,.int x tk0,.int 1 (aaV.toks+1)] },toks:=aaV.toks+1+1 }:=aaZ.trans Step.pushed
  have hr:WQ (aaV.heap.push { cls:=.type "range",data:=.fields #[.int 0 aaV.toks,.int x tk0,.int 1 (aaV.toks+1)] }) aaV.heap.objs.size 0 x 1 aaV.toks tk0 (aaV.toks+1):=Heap.get?_push_size _ rfl
  have nr:aaV.heap.objs.size∉σ1:=λm=>Tq _ (aa1.size m)
  refine Va ?_ (p4 env)
  refine TB (bT Ok hok x3 g3 En aa9 ?_)
  refine bK (cs:=ae cg av) (k:=λvs st=>nv vs λy=>bB y λm=>k x m st) Ok k3 p2 (cP hg ag (λenv=>by obtain⟨e0,rest,e1,he⟩:=p2.2.resolve_left (λq=>nomatch q);cases e1;exact he env)) R En aa9 (aa6.fr0 F) h5 λabk l abo us aa5 abe abc abj hle aa3=>?_
  clear hle
  refine dY aa3 λv e81 h6=>?_;clear aa3;subst e81
  refine bN h6 λn e81 h7=>?_;clear h6;subst e81
  refine VRs.cons_e abj λu1 _ ra rr=>VRs.nil_e rr (VR.ref_e ra λa han=>?_)
  clear abj ra rr
  refine zb Ok Fn (abc.X Ok) (Ok.T.nolimit.keeps abc.base) R.top λgenv h' tk G GE hl hG hsz hk hns hgen=>?_
  refine Yw ?_
  have hr':WQ h' aaV.heap.objs.size 0 x 1 aaV.toks tk0 (aaV.toks+1):=hk _ _ (abe.keep _ _ nr (λq=>nomatch q) hr)
  refine⟨λp o e=>hk p o (abc.X Ok p o e),?_⟩
  refine xS (s:={ aa5 with heap:=h',gens:=aa5.gens.push (.fresh (.func body genv)),toks:=tk }) hr' (jA rfl hsm) hgen λh'' a1 a2 a3 a4 a5 a6=>?_
  have hsz':h'.objs.size=aa5.heap.objs.size+2:=hsz
  have e:Ts 0 x 1=(cT x:Int):=by rw[lB,ey,Int.sub_zero]
  rw[e] at a4
  refine aE hns λm hn hm=>?_
  refine hQ x n a abk abo aa5 genv h'' tk _ _ _ _ G hlen (aa6.trans abe) abc han h7 GE hl hG hsz' (SU (·+1) hsz') (SU (·+2) hsz') (SU (·+3) hsz') (a5.trans (SU (·+4) hsz')) (λp o e=>a6 p o (hk p o e)) ⟨m,hn.at' λo e=>a6 _ _ e,hm⟩ (hgen.keeps a6) a1 a2 a3 a4
 refine fB (p3.2.resolve_left (λq=>nomatch q)) λe0 rest e1 he=>?_
 cases e1
 rw[he] at q' ⊢
 exact WO q'
theorem fb:∀{us:Sj Sr}{ys:Sj Int},UK us ys->VRs σ h (ys.map V.int) us
 | [],_,q=>by cases q;exact .nil
 | _::_,_,q=>by cases q with | cons n t q=>exact .cons (.int _ _) (fb q)
noncomputable def Ig (k:KV)(x:Int)(m:Nat)(st:St):Sm:=bh st m λl=>iZq l λxs=>w1 (cT x) none xs λys=>st.push (.list (fE .int ys)) λn st=>k (.ref n) st
theorem sA:∀{n:Nat}{last:SV Int}{l:Sj Int},(jP n last l).length<=n
 | 0,_,_=>SW _
 | _+1,_,[]=>Th _
 | n+1,last,i::r=>by
  unfold jP
  split
  ·exact Th _
  ·split
   ·rw[TS];exact SW _
   ·rw[Tg];exact TU sA
variable {p q r p1 p2 p3 p4 p5 p6 p7 p8 p9 q1 q2 q3 q4 q5 q6 q7 q8 q9 r1 r2 r3 r4 r5 r6 r7 r8 r9:Pos}{j1 j2 j3 j4:Nat}{rs:List Stmt}
theorem sL (Ok:C.Ok) {body:Sj Stmt}(Fn:sg C fa fd body) (gc:aaN C.K S4 "CHAR_MAX"=Si (Si (.int 127 tc)))
  (hB:B=[.If (.Compare (.Name "interval" p2) [.Eq] [.Name "CHAR_MAX" p3] p4) [.Return none p5] [] p6,.If (.Compare (.Name "interval" p7) [.Eq] [.Constant (.int 0) j1 p8] p9) [.If (.Compare (.Name "last_interval" q1) [.Is] [.Constant .none j2 q2] q3) rs [] q4,.While (.Constant (.bool Sk) j3 q5) [.Expr (.Yield (Si (.Name "last_interval" q6)) q7) q8] [] q9] [] r1,.Expr (.Yield (Si (.Name "interval" r2)) r3) r4,.Assign [.Name "last_interval" r5] (.Name "interval" r6) r7])
  (hbody:body=[.Assign [.Name "last_interval" r8] (.Constant .none j4 r9) p,.For (.Name "interval" p1) (.Name "grouping" q) B [] r])
 (hn:SE C fx d en cn) (hg:SE C fx d eg cg) (hok:fx.ok=Sk) (x1:("zip":Str)∈fx.gn) (x2:("range":Str)∈fx.gn) (x3:fname∈fx.gn)
  (g1:GB C "zip" (.type "zip")) (g2:GB C "range" (.type "range")) (g3:GB C fname (.ref fa)) (k3:Keeps C (.ref fa)) (a1:aL [en]) (a2:aL [eg]) (a3:aL [.Call (.Name "range" z1) [en] [] z2,.Call (.Name fname z3) [eg] [] z4]) (a4:∀env,T4 [.Call (.Name fname z3) [eg] [] z4] env=(dV,eval (.Call (.Name fname z3) [eg] [] z4) env)::T4 [] env)
  (hsc:dT sc=Sk) (hfree:∀x∈sc.names,x.2≠.free) (hcell:∀x∈sc.names,(x.2 == NameKind.cell)=dV) (sk:("k":Str)∈(aR sc).ln) (ss:("size":Str)∈(aR sc).ln)
 {s:Sw} {k:KV} {use:SV (Sr->Sem Unit)} (R:Rm d A) (E:ba fx env) (I:Inv C σ st s) (F:FrR C fx env fm σ s)
  (h:cn fm st (λx st=>aG x λx=>aD (aB (cT x)) (aD (small x) (cg fm st λy st=>bB y λm=>Ig k x m st) dV) dV)=Sk)
  (hend:∀(L D:Sx) (σb:Sj Sx) (st':St) (sb s':Sw) (ys:Sj Int) (us:Sj Sr) (m:Nat),Step [] σ s σb sb->Inv C σb st' sb->sb.heap.objs.size<=L->sb.heap.objs.size<=D->L≠D->(∀p o,sb.heap.get? p=Si o->s'.heap.get? p=Si o)->s'.os=sb.os->(UZ sb.gens->UZ s'.gens)->(∃mm,s'.heap.Ns L mm) ->
   s'.heap.get? D=Si (cB us m)->UK us ys->st'.push (.list (fE .int ys)) (λn st=>k (.ref n) st)=Sk->Zq C.M A cM use Q (.ref D) L (.ok .next) s') :
  Ss C.M A (comprehension (.ListComp (.Name "size" e1) [⟨.Tuple [.Name "k" t1,.Name "size" t2] kt tp,.Call (.Name "zip" z0) [.Call (.Name "range" z1) [en] [] z2,.Call (.Name fname z3) [eg] [] z4] [] z5,[],0⟩] sc pos) sc env p0 (ZG []) dV (eval (.Call (.Name "zip" z0) [.Call (.Name "range" z1) [en] [] z2,.Call (.Name fname z3) [eg] [] z4] [] z5) env) use) Q cM s:=by
 have hk:sc.kind=.function:=by
  simp only[dT,Ta] at hsc;simpa using hsc.1.1
 have nd:(sc.names.map (·.1)).Nodup:=by
  simp only[dT,Ta,decide_eq_true_eq] at hsc;exact hsc.1.2
 refine Yp (use:=use) rfl (λ_=>rfl) (closureFor_none hfree) hk (λx m e=>cH nd (by rw[←e];exact m)) ?_
 refine y8 (k:=λx m st=>Ig k x m st) Ok Fn hn hg hok x1 x2 x3 g1 g2 g3 k3 a1 a2 a3 a4 R E I F h λx n a σb st' sb genv h' tk z TI TO i1 G hlen Sb Ib han hK GE eL eG ei eTI eTO ez hsz keep hns hgen hz hTI hTO hr=>?_
 refine bC hK λl hl h1=>?_;clear hK
 refine kx h1 λxs e81 h2=>?_;clear h1;subst e81
 obtain⟨hokk,h3⟩:=E6 h2
 obtain⟨vs,mv,ga,rv⟩:=Ib.list hl han
 have hI:UK vs xs:=eI rv
 have hlen:=bU hlen
 refine wpAny_pyIter_zip hz ?_
 refine TK ?_
 rw[E.glob]
 refine jj hcell ?_
 refine Sl ?_
 have D6:h'.objs.size=sb.heap.objs.size+6:=hsz
 have szD:(h'.push { cls:=.type "list",data:=.seq #[] }).objs.size=sb.heap.objs.size+7:=by rw[Heap.size_push,D6]
 generalize hce:VF sc (h'.push { cls:=.type "list",data:=.seq #[] }).objs.size S4 [] env.qual none .none (Si env) Ua=cenv
 have ecl:cenv.locals=sb.heap.objs.size+7:=by rw[←hce,←szD];rfl
 have esc:cenv.scope=sc:=by rw[←hce];rfl
 have ecg:cenv.globals=S4:=by rw[←hce];rfl
 have ecb:cenv.builtins=Ua:=by rw[←hce];exact E.blt
 have ab6:ba (aR sc) cenv:=tL hsc esc ecg ecb
 have EB:ba (aR sc) { cenv with scope:=relabel sc env }:=kG hsc ab6 esc
 have keep2:∀p o,sb.heap.get? p=Si o->((h'.push { cls:=.type "list",data:=.seq #[] }).push { cls:=.type "dict",data:=.dict #[] }).get? p=Si o:=λp o e=>Heap.get?_push_of_some _ (Heap.get?_push_of_some _ (keep p o e))
 have up2:∀p o,h'.get? p=Si o->((h'.push { cls:=.type "list",data:=.seq #[] }).push { cls:=.type "dict",data:=.dict #[] }).get? p=Si o:=λp o e=>Heap.get?_push_of_some _ (Heap.get?_push_of_some _ e)
 have gD:((h'.push { cls:=.type "list",data:=.seq #[] }).push { cls:=.type "dict",data:=.dict #[] }).get? h'.objs.size=Si (cB [] 0):=Heap.get?_push_of_some _ (Heap.get?_push_size _ rfl)
 have hns2:((h'.push { cls:=.type "list",data:=.seq #[] }).push { cls:=.type "dict",data:=.dict #[] }).Ns cenv.locals λ_=>none:=by rw[ecl,←szD];exact Heap.Ns.new _ _
 have Z8:((h'.push { cls:=.type "list",data:=.seq #[] }).push { cls:=.type "dict",data:=.dict #[] }).objs.size=sb.heap.objs.size+8:=by rw[Heap.size_push,szD]
 have alt:a<sb.heap.objs.size:=Heap.lt_size ga
 have loop:U4 C.M A (.compLoop (.ListComp (.Name "size" e1) [⟨.Tuple [.Name "k" t1,.Name "size" t2] kt tp,.Call (.Name "zip" z0) [.Call (.Name "range" z1) [en] [] z2,.Call (.Name fname z3) [eg] [] z4] [] z5,[],0⟩] sc pos) 0 (.ref z) (.ref h'.objs.size) { cenv with scope:=relabel sc env }) (Zq C.M A cM use Q (.ref h'.objs.size) cenv.locals)
   { sb with heap:=(h'.push { cls:=.type "list",data:=.seq #[] }).push { cls:=.type "dict",data:=.dict #[] },gens:=sb.gens.push (.fresh (.func body genv)),toks:=tk }:=by
  have W:ZW C genv cenv sb.heap ((h'.push { cls:=.type "list",data:=.seq #[] }).push { cls:=.type "dict",data:=.dict #[] }).objs.size z TI TO i1 G h'.objs.size a sb.gens.size:=ZW.make rfl eL eG ei eTI eTO ez D6 ecl Z8 alt Ib.base
  have lL:@LE.le Nat _ sb.heap.objs.size genv.locals:=Ub eL.symm
  have l8:@LE.le Nat _ sb.heap.objs.size ((h'.push { cls:=.type "list",data:=.seq #[] }).push { cls:=.type "dict",data:=.dict #[] }).objs.size:=by rw[Z8];exact Td _ _
  have lc:@LE.le Nat _ sb.heap.objs.size cenv.locals:=by rw[ecl];exact Td _ _
  have lD:@LE.le Nat _ sb.heap.objs.size h'.objs.size:=by rw[D6];exact Td _ _
  have hA2:A.in1.in1.handled=none:=R.handled
  obtain⟨mg,hng,hmg⟩:=hns
  have c0:ZC C A.in1.in1 genv cenv sb.heap { sb with heap:=(h'.push { cls:=.type "list",data:=.seq #[] }).push { cls:=.type "dict",data:=.dict #[] },gens:=sb.gens.push (.fresh (.func body genv)),toks:=tk } TI i1 G h'.objs.size a sb.gens.size (jP (cT x) none xs) (cT x) 0 0
    { sb with heap:=(h'.push { cls:=.type "list",data:=.seq #[] }).push { cls:=.type "dict",data:=.dict #[] },gens:=sb.gens.push (.fresh (.func body genv)),toks:=tk }:=by
   refine⟨keep2,SW _,rfl,λq=>q,up2 _ _ hTI,by have:=up2 _ _ hr;simpa using this,(hgen.push _).push _,⟨_,hns2⟩,⟨[],0,gD,.nil⟩,λhpos=>⟨.fresh (.func body genv),a,by simp,λs'' Nw kk=>⟨rfl,?_⟩,.inl rfl⟩⟩
   obtain⟨n',hn'⟩:∃n',cT x=n'+1:=Xt (Tz hpos)
   rw[hn'] at hokk ⊢
   refine Eh Ok GE gc hI hB hbody (λq=>Tq _ (SH alt (So lL (Ub q.symm)))) (bD Ib lL) hA2 (λb q=>bD Ib (So l8 q)) n' hokk (λm hm=>?_) Nw ⟨mg,hng.at' λo e=>kk _ (mI 0 rfl) o (up2 _ _ e),hmg⟩ ⟨_,kk a (mI 1 rfl) _ (keep2 _ _ ga),rfl,_,rfl⟩
   congr 1
  refine B4 Ok R.handled R.top W ⟨_,ga⟩ rfl EB.kind (EB.ln _ sk) (EB.ln _ ss) sA (So hlen (bo rfl)) (λs' q=>?_) c0 (up2 _ _ hz) ⟨_,_,up2 _ _ hTO⟩
  obtain⟨_,b1,b2,b3,⟨mm,b4⟩,us,m,b5,b6⟩:=q
  refine hend cenv.locals h'.objs.size σb st' sb s' _ us m Sb Ib lc lD (Ne.symm W.Dc) (λp o e=>b1 p o e) b2 (λq=>b3 ?_) ⟨mm,b4⟩ b5 b6 h3
  intro y hy
  rcases Array.mem_push.mp hy with hy | rfl
  ·exact q y hy
  ·rfl
 exact YV loop (wpAny_pyIter_zip (up2 _ _ hz) loop)
theorem xy (Ok:C.Ok) {body:Sj Stmt}(Fn:sg C fa fd body) (gc:aaN C.K S4 "CHAR_MAX"=Si (Si (.int 127 tc)))
  (hB:B=[.If (.Compare (.Name "interval" p2) [.Eq] [.Name "CHAR_MAX" p3] p4) [.Return none p5] [] p6,.If (.Compare (.Name "interval" p7) [.Eq] [.Constant (.int 0) j1 p8] p9) [.If (.Compare (.Name "last_interval" q1) [.Is] [.Constant .none j2 q2] q3) rs [] q4,.While (.Constant (.bool Sk) j3 q5) [.Expr (.Yield (Si (.Name "last_interval" q6)) q7) q8] [] q9] [] r1,.Expr (.Yield (Si (.Name "interval" r2)) r3) r4,.Assign [.Name "last_interval" r5] (.Name "interval" r6) r7])
  (hbody:body=[.Assign [.Name "last_interval" r8] (.Constant .none j4 r9) p,.For (.Name "interval" p1) (.Name "grouping" q) B [] r])
 (hn:SE C fx d en cn) (hg:SE C fx d eg cg) (hok:fx.ok=Sk) (x1:("zip":Str)∈fx.gn) (x2:("range":Str)∈fx.gn) (x3:fname∈fx.gn)
  (g1:GB C "zip" (.type "zip")) (g2:GB C "range" (.type "range")) (g3:GB C fname (.ref fa)) (k3:Keeps C (.ref fa)) (a1:aL [en]) (a2:aL [eg]) (a3:aL [.Call (.Name "range" z1) [en] [] z2,.Call (.Name fname z3) [eg] [] z4]) (a4:∀env,T4 [.Call (.Name fname z3) [eg] [] z4] env=(dV,eval (.Call (.Name fname z3) [eg] [] z4) env)::T4 [] env)
  (hsc:dT sc=Sk) (hfree:∀x∈sc.names,x.2≠.free) (hcell:∀x∈sc.names,(x.2 == NameKind.cell)=dV) (sk:("k":Str)∈(aR sc).ln) (ss:("size":Str)∈(aR sc).ln)
  (hy:fx.ln[aby]? = Si y) (hsw:∀env,ba fx env->VO (.ListComp (.Name "size" e1) [⟨.Tuple [.Name "k" t1,.Name "size" t2] kt tp,.Call (.Name "zip" z0) [.Call (.Name "range" z1) [en] [] z2,.Call (.Name fname z3) [eg] [] z4] [] z5,[],0⟩] sc pos) (Si (.Name y py)) spos.line env=pure Sk) :
  SS C fx d (.Assign [.Name y py] (.ListComp (.Name "size" e1) [⟨.Tuple [.Name "k" t1,.Name "size" t2] kt tp,.Call (.Name "zip" z0) [.Call (.Name "range" z1) [en] [] z2,.Call (.Name fname z3) [eg] [] z4] [] z5,[],0⟩] sc pos) spos) (aV (λfm st k=>cn fm st λx st=>aG x λx=>aD (aB (cT x)) (aD (small x) (cg fm st λy st=>bB y λm=>Ig k x m st) dV) dV) (ay dV aby)):=by
 intro A env σ fm st s k R E I F h
 rw[Y4 _ _ _ _ (hsw env E)]
 refine kV (TF (kV ?_))
 show Ss _ A (do let _ ←comprehension (.ListComp (.Name "size" e1) [⟨.Tuple [.Name "k" t1,.Name "size" t2] kt tp,.Call (.Name "zip" z0) [.Call (.Name "range" z1) [en] [] z2,.Call (.Name fname z3) [eg] [] z4] [] z5,[],0⟩] sc pos) sc env _ (ZG []) dV (eval (.Call (.Name "zip" z0) [.Call (.Name "range" z1) [en] [] z2,.Call (.Name fname z3) [eg] [] z4] [] z5) env) (Si (assign (.Name y py) env))) _ _ s
 refine kV (Sq (sL (use:=Si (assign (.Name y py) env)) (Q:=λ_ s'=>OutS C fx env σ s k .next s') (k:=λv st=>fQ dV aby fm v st λfm st=>k .nxt fm st) Ok Fn gc hB hbody hn hg hok x1 x2 x3 g1 g2 g3 k3 a1 a2 a3 a4 hsc hfree hcell sk ss R E I F h λL D σb st' sb s' ys us m Sb Ib hL hD hLD keep os gens hns g hI hk=>?_) (λ_ s' hq=>Sl (Sl hq)) λ_ _ e=>e)
 refine bG hns λmm hm=>?_
 refine St.push_e hk λst6 e1 e2 h7=>?_;clear hk
 have I':Inv C σb st' s':=Ib.grow keep
 have nD:D∉σb:=λq=>Tc (Ib.size q) (Uo.mpr hD)
 have nL:L∉σb:=λq=>Tc (Ib.size q) (Uo.mpr hL)
 have dD:sb.heap.get? D=none:=bE hD
 have S':Step [] σb sb σb s':=⟨⟨[],by simp,λ_ h=>nomatch h⟩,λp o _ _ e=>keep p o e,os,gens⟩
 have hn:(σb++[D])[st'.n]? = Si D:=by rw[Ib.n];simp
 rw[eq] at e2
 have v:=fb (σ:=σb++[D]) (h:=s'.heap) hI
 have ab7:Inv C (σb++[D]) st6 s':=I'.name e1 e2 rfl nD (by rw[g];rfl) (bD Ib hD) (λvs n=>cE g rfl (by decide) vs n) ⟨us,m,g,v⟩
 have acb:Step [] σ s (σb++[D]) s':=(Sb.trans S').name nD (gj Sb Ib dD)
 have act:=acb.fr0 F
 have dL':s.heap.get? L=none:=gj Sb Ib (bE hL)
 have hLL:L≠env.locals:=λq=>by
  refine aE (F.ns) λmo ho _=>?_
  refine iB ho λo _ _ e _=>?_
  rw[q,e] at dL';exact nomatch dL'
 refine Sq (Wk (fA (c:=dV) (k:=λfm st=>k .nxt fm st) hy (λh=>nomatch h) hok E ab7 act (.ref hn) h7)) ?_ λ_ _ e=>e
 rintro _ abv ⟨σ8,fm8,st8,abJ,ab5,ab9,abE⟩
 have nL7:L∉σb++[D]:=λq=>by
  rcases Tj.mp q with q | q
  ·exact nL q
  ·exact hLD (Sn.mp q)
 have nLe:L∉[env.locals]:=λq=>hLL (Sn.mp q)
 have hm8:abv.heap.Ns L mm:=hm.at' λo e=>abJ.keep _ o nL7 nLe e
 have nL8:L∉σ8:=by
  refine iB hm λo _ _ e _=>?_
  exact abJ.notin nL7 nLe e
 refine⟨mm,hm8,λh' hs'=>?_⟩
 have kp:=Heap.SameBut.keeps' hs'
 have abQ:Step [L] σ8 abv σ8 { abv with heap:=h' }:=Step.frame (t:=abv.toks) hs'
 have nt:=Heap.Ns.noTup hm8
 have acC:Inv C σ8 st8 { abv with heap:=h' }:=ab5.other (W:=[L]) kp (λp hp=>by rw[Sn.mp hp];exact⟨nL8,bD Ib hL⟩) nt
 have acq:=abQ.fr nt (λq=>hLL (Sn.mp q).symm) ab9
 have ST:Step [env.locals] σ s σ8 { abv with heap:=h' }:=(((acb.up (W:=[L,env.locals])).trans (abJ.widen λp hp=>by rw[Sn.mp hp];simp)).trans (abQ.widen λp hp=>by rw[Sn.mp hp];simp)).more λp m=>by
  rcases SD.mp m with m | m
  ·rw[m];exact .inr dL'
  ·exact .inl m
 exact⟨σ8,.nxt,fm8,st8,ST,acC,acq,trivial,abE⟩
end
theorem kY (a:Sx)(f:Sr):Builtin.«list.sort» ⟨[.ref a],[(TY "key",f)]⟩=(do
  let items ←TX (.ref a)
  UE (.ref a) λ_=>#[]
  let before ←seqEpoch a
  let held ←newTuple items.toList
  let keyStore ←ZG []
  holding [held,keyStore] do
   if f != .none then
    rule "list.sort.key"
    for x in items do
     match ←(call f [x]).attempt with
     | .ok k=>UE keyStore (·.push k)
     | .error e=>
      rule "list.sort.key-raised"
      let made ←TX keyStore
      UE keyStore λ_=>#[]
      letGo made.toList.reverse [e]
      UE (.ref a) λ_=>items;throw e
   let keys ←if f != .none then TX keyStore else pure items
   let kind ←if items.size<2 then pure general' else keyKind' keys
   let ((),s) ←(if items.size<2 then pure () else sortRuns').run (aaQ kind (keys.zip items) #[] 7 none)
   let sorted:=(ZZ s).map (·.2)
   if f != .none then
    UE keyStore λ_=>#[]
    letGo ((ZZ s).map (·.1)).toList (failedOf s).toList
   let touched:=(←seqEpoch a) != before
   UE (.ref a) λ_=>sorted
   if let Si e:=failedOf s then rule "list.sort.comparison-raised";throw e
   if touched then rule "list.sort.modified";raiseError "ValueError" "list modified during sort"
   ret .none):=rfl
section
variable {prog:Program}{w:World}{A:Around}{E:Value->Shared->Prop}{s:Shared}
noncomputable abbrev oG (h:Heap)(a:Sx)(vs:Sj Sr):Heap:=((h.update a (S9 λ_=>#[])).push (UT "tuple" vs.toArray 0)).push (UT "list" #[] 0)
theorem nE {κ:KeyKind}(hO:κ.OneLt) {P:Fin->Sw->Prop}(hf:(f != .none)=Sk)(ho:s.heap.get? a=Si (UT "list" vs.toArray n))(h64:vs.length<64)
  (J:Sj Sr->Sw->Prop) {e1:Nat} (he1:(s.heap.update a (S9 λ_=>#[])).get? a=Si (UT "list" #[] e1))
  (hJ0:J [] { s with heap:=oG s.heap a vs }) (hJ:∀ks s',J ks s'->ks.length<=vs.length/\(∃m,s'.heap.get? (s.heap.objs.size+1)=Si (UT "list" ks.toArray m))/\s'.heap.get? a=Si (UT "list" #[] e1))
  (step:∀ks v s',J ks s'->vs[ks.length]? = Si v->Ss (model prog w) A (call f [v]) (λk s''=>(∃m,s''.heap.get? (s.heap.objs.size+1)=Si (UT "list" ks.toArray m))/\J (ks++[k]) { s'' with heap:=s''.heap.update (s.heap.objs.size+1) (S9 (·.push k)) }) (λ_ _=>False) s')
  (fin:∀ks s',J ks s'->ks.length=vs.length->KeysOf κ (ks.toArray.zip vs.toArray)/\(2<=vs.length->keyKind' ks.toArray=pure oneType')/\∀st':SortSt,(ZZ st').Perm (ks.toArray.zip vs.toArray)->aaA κ (ZZ st') vs.length ->
   P (.done (.ret .none)) { s' with heap:=(s'.heap.update (s.heap.objs.size+1) (S9 λ_=>#[])).update a (S9 λ_=>(ZZ st').map (·.2)) }) :
  Ss (model prog w) A (Builtin.«list.sort» ⟨[.ref a],[(TY "key",f)]⟩) P E s:=by
 refine wE (kY a f) ?_
 have ha:a<s.heap.objs.size:=Heap.lt_size ho
 refine kV (listItems_at ho rfl ?_)
 refine kV (Wq ho rfl ?_)
 refine kV (seqEpoch_at he1 rfl ?_)
 refine kV (wpAny_newTuple ?_)
 refine kV (Z0 ?_)
 refine SR ?_
 refine wP hf (kV (U5 ?_))
 have hsz:((s.heap.update a (S9 λ_=>#[])).push (UT "tuple" vs.toArray 0)).objs.size=s.heap.objs.size+1:=by rw[size_push',Heap.size_update]
 have hkS:∀ks s',J ks s'->∃m,s'.heap.get? ((s.heap.update a (S9 λ_=>#[])).push (UT "tuple" vs.toArray 0)).objs.size=Si (UT "list" ks.toArray m):=λks s' j=>by rw[hsz];exact(hJ ks s' j).2.1
 refine kV (Sq (forIn_array_ _ (λrest _ s'=>∃ks,J ks s'/\vs.drop ks.length=rest) (λ_ s'=>∃ks,J ks s'/\ks.length=vs.length) ?_ ?_ vs.toArray _ ⟨[],hJ0,rfl⟩) ?_ λ_ _ e=>e)
 ·intro x rest b s' H
  refine aE H λks j hd=>?_
  clear H
  have hx:vs[ks.length]? = Si x:=by rw[←Vo,hd];rfl
  have hlt:ks.length<vs.length:=(SJ.mp hx).1
  refine kV (Vu (Sq (step ks x s' j hx) ?_ λ_ _ e=>e.elim))
  intro k s'' H
  refine bG H.1 λm hm=>?_
  have j':=H.2
  clear H
  dsimp only
  rw[←hsz] at hm j'
  refine kV (Wq hm rfl (Sl ?_) (hsz:=by rw[Sy,Vc];lia) (hsz2:=by rw[Array.size_push,Sy,Vc];lia))
  exact⟨ks++[k],j',by rw[SY,VW,←W3,hd];rfl⟩
 ·intro b s' H
  refine aE H λks j hd=>?_
  refine⟨ks,j,?_⟩
  exact UR (hJ ks s' j).1 (VV ((Sj.length_drop).symm.trans (SU Sj.length hd)))
 intro _ s' H
 refine aE H λks j hl=>?_
 clear H
 refine bG (hkS ks s' j) λm hm=>?_
 refine kS (hJ ks s' j) λ_ _ hma=>?_
 refine kS (fin ks s' j hl) λf1 f2 f3=>?_
 refine wP hf (kV (listItems_at hm rfl ?_))
 have hsv:vs.toArray.size=vs.length:=by rfl
 have hak:a≠((s.heap.update a (S9 λ_=>#[])).push (UT "tuple" vs.toArray 0)).objs.size:=by rw[hsz];exact SP (To ha)
 have zsz:(ks.toArray.zip vs.toArray).size=vs.length:=by rw[Array.size_zip];simp[hl]
 have hma':(s'.heap.update ((s.heap.update a (S9 λ_=>#[])).push (UT "tuple" vs.toArray 0)).objs.size (S9 λ_=>#[])).get? a=Si (UT "list" #[] e1):=by rw[Heap.get?_update_other _ _ (Ne.symm hak)];exact hma
 have tail:∀st':SortSt,(ZZ st').Perm (ks.toArray.zip vs.toArray)->failedOf st'=none->aaA κ (ZZ st') vs.length ->
   P (.done (.ret .none)) { s' with heap:=(s'.heap.update ((s.heap.update a (S9 λ_=>#[])).push (UT "tuple" vs.toArray 0)).objs.size (S9 λ_=>#[])).update a (S9 λ_=>(ZZ st').map (·.2)) }:=λst' p q r=>by rw[hsz];exact f3 st' p r
 by_cases h2:vs.toArray.size<2
 ·refine wP h2 ?_
  refine kV (Sl ?_)
  refine GH (SU (λm=>StateT.run m _) (SX h2)) ?_
  refine kV (Sl ?_)
  refine wP hf (kV (Wq hm rfl ?_ (hsz:=by rw[Sy,Vc];lia)))
  refine kV (Vs ?_)
  refine kV (seqEpoch_at hma' rfl ?_)
  refine kV (Wq hma' rfl ?_ (hsz2:=by rw[Array.size_map];show(ks.toArray.zip vs.toArray).size<=_;rw[zsz,Vc];lia))
  refine wN (ne_true_of_eq_false (bne_self_eq_false _)) ?_
  refine Sl (tail (aaQ general' (ks.toArray.zip vs.toArray) #[] 7 none) (Array.Perm.refl _) rfl ?_)
  intro i j hij hj
  have:i=j:=by lia
  subst this;exact KeyOrd.kle_refl _
 ·refine wN h2 (GH (f2 (Nat.le_of_not_lt h2)) ?_)
  refine kV (Sl ?_)
  refine GH (SU (λm=>StateT.run m _) (SK h2)) ?_
  refine kV (Sq (wpS_sortRunsK (κ:=κ) hO (a₀:=ks.toArray.zip vs.toArray) (st:=aaQ oneType' (ks.toArray.zip vs.toArray) #[] 7 none)
   (Q:=λ_ st'=>(ZZ st').Perm (ks.toArray.zip vs.toArray)/\failedOf st'=none/\aaA κ (ZZ st') (ks.toArray.zip vs.toArray).size)
   f1 ⟨Array.Perm.refl _,rfl,rfl,rfl⟩ (by rw[zsz];lia) (by rw[zsz];exact h64) λst' a1 a2 a3=>⟨a1,a2,a3⟩) ?_ λ_ _ e=>e)
  rintro⟨⟨⟩,st'⟩ s'' ⟨rfl,hp,hfl,hs⟩
  refine wP hf (kV (Wq hm rfl ?_ (hsz:=by rw[Sy,Vc];lia)))
  refine kV (Vs ?_)
  refine kV (seqEpoch_at hma' rfl ?_)
  refine kV (Wq hma' rfl ?_ (hsz2:=by rw[Array.size_map,hp.size_eq,zsz,Vc];lia))
  rw[hfl]
  refine wN (ne_true_of_eq_false (bne_self_eq_false _)) ?_
  exact Sl (tail st' hp hfl (zsz▸hs))
end
section
variable {prog:Program}{w:World}{A:Around}{E:Value->Shared->Prop}{s:Shared}
theorem nz {r:Sx}{a b c:Int}{t u v:Tok} {Q:Sj Sr->Sw->Prop}(hh:A.handled=none)(hr:WQ s.heap r a b c t u v)(hsmall:Builtin.Range.small a b c=Sk)
  (hn:Ts a b c=n) (hlen:n<=2 ^ 24)
  (h:∀h' tk (acc:Array Sr),(∀p o,s.heap.get? p=Si o->h'.get? p=Si o)->ItemsOf (λi v=>∃t,v=.int (a+i*c) t) acc n->Q acc.toList { s with heap:=h',toks:=tk }):Ss (model prog w) A (collect (.ref r)) Q E s:=by
 unfold collect
 refine kV (wpAny_runValue (US entry_proto_collect' ?_))
 show Ss _ _ (do again (.builtin "list.__iadd__" ⟨[←ZG [],.ref r],[]⟩)) _ _ s
 refine kV (Z0 (Sl ⟨Z4 _ (by decide +kernel),US entry_list_iadd' ?_⟩))
 show Ss _ _ (Builtin.List.listExtendWith (.ref s.heap.objs.size) (.ref r) (.ref s.heap.objs.size)) _ _ { s with heap:=s.heap.push (UT "list" #[] 0) }
 rw[U2 (show plainId "list.__iadd__"=Sk by decide +kernel) _]
 refine wpAny_extend_range (R:=λr s'=>match r with
   | .ok (.ret v)=>Ss (model prog w) A (match v with
      | Value.ref a=>do
       let o ←load a
       match o.data with
        | .seq xs _=>pure xs.toList
        | _=>unsupported "internal:collect"
      | _=>unsupported "internal:collect") Q E s'
   | .ok _=>False
   | .error e=>E e s') (s:={ s with heap:=s.heap.push (UT "list" #[] 0) }) hh (Heap.get?_push_of_some _ hr) hsmall hn hlen s.heap.objs.size (.ref s.heap.objs.size) 0 (Heap.get?_push_size _ rfl) λh' tk acc c' hk hS hacc=>?_
 have kp:∀p o,s.heap.get? p=Si o->h'.get? p=Si o:=λp o e=>hk p o (SP (Heap.lt_size e)) (Heap.get?_push_of_some _ e)
 show Ss (model prog w) A (do
   let o ←load s.heap.objs.size
   match o.data with
   | .seq xs _=>pure xs.toList
   | _=>unsupported "internal:collect") Q E { s with heap:=h',toks:=tk }
 refine kV (Xd hS ?_)
 exact Sl (h h' tk acc kp hacc)
theorem jd (a v:Sr):Ww "list.sort" ⟨[a],[(TY "key",v)]⟩:=by unfold Ww;kernel_rfl
theorem kQ (a v:Sr):Ww "sorted" ⟨[a],[(TY "key",v)]⟩:=by unfold Ww;kernel_rfl
theorem uW {r:Sx}{x:Int}{t u v:Tok} (hh:A.handled=none)(hr:WQ s.heap r 0 x 1 t u v)(hsmall:Builtin.Range.small 0 x 1=Sk)(hn:Ts 0 x 1=n)(hlen:n<64)
  (h:∀h' tk (acc:Array Sr),(∀p o,s.heap.get? p=Si o->h'.get? p=Si o)->ItemsOf (λi v=>∃t,v=.int (0+i*1) t) acc n->h'.get? (h'.objs.size - 1)=Si (UT "list" acc 0)->0<h'.objs.size->(∀p o,s.heap.get? p=Si o->p<h'.objs.size - 1) ->
   Ss (model prog w) A.in1.in1 (Builtin.«list.sort» ⟨[.ref (h'.objs.size - 1)],[(TY "key",f)]⟩) (λfin s'=>fin=.done (.ret .none)/\Q (.ref (h'.objs.size - 1)) s') E { s with heap:=h',toks:=tk }) :
  Ss (model prog w) A (call (.builtin "sorted") [.ref r] [(TY "key",f)]) Q E s:=by
 refine call_function_entry_kw kind_sorted plain_sorted entry_sorted (kQ _ _) ?_
 unfold Builtin.«sorted»
 refine kV (m:=checkCount "sorted" 1 1 _) (Sl ?_)
 refine kV (nz hh hr hsmall hn (by lia) λaaX tk acc hk hacc=>?_)
 refine kV (Z0 ?_ (hsz:=by rw[XG,hacc.1,Vc];lia))
 have hL:(aaX.push (UT "list" acc 0)).get? aaX.objs.size=Si (UT "list" acc 0):=Heap.get?_push_size _ rfl
 have hsz:(aaX.push (UT "list" acc 0)).objs.size - 1=aaX.objs.size:=by rw[Heap.size_push];rfl
 have q:=h (aaX.push (UT "list" acc 0)) tk acc (λp o e=>Heap.get?_push_of_some _ (hk p o e)) hacc (by rw[hsz];exact hL) (by rw[Heap.size_push];lia) (λp o e=>by rw[hsz];exact Heap.lt_size (hk p o e))
 rw[hsz] at q
 refine kV (SR (wpAny_call_entry_kw slot_list_sort ⟨_,hL,rfl⟩ entry_list_sort (Sq q (λfin s' z=>⟨_,z.1,?_⟩) λ_ _ e=>e) (jd _ _)))
 exact Sl ⟨_,rfl,z.2⟩
end
abbrev KP:=Sj Nat×Int
theorem BR:∀(a b:Sj Nat),Gh a b=decide (a<b)
 | [],[]=>by rfl
 | [],b::q=>by rfl
 | a::l,[]=>by rfl
 | a::l,b::q=>by
  have h:Gh (a::l) (b::q)=aD (SN a b) (Gh l q) (SZ a b):=rfl
  rw[h,BR l q]
  cases e:SN a b with
  | true=>
   have:=SQ e
   subst this
   show decide (l<q)=_
   simp[Y9]
  | false=>
   have hne:a≠b:=λz=>by subst z;simp at e
   show SZ a b=_
   have eb:SZ a b=decide (a<=b):=by
    by_cases z:a<=b
    ·rw[TZ z,Tu z]
    ·rw[Tt z];cases y:SZ a b with
     | false=>rfl
     | true=>exact Tc (Sp y) z
   rw[eb]
   simp only[Y9,decide_eq_decide]
   lia
theorem nI (x:KP):∀l:Sj KP,(AT x l).Perm (x::l)
 | []=>.refl _
 | y::r=>by
  have h:AT x (y::r)=@Ti (λ_=>Sj KP) (y::AT x r) (x::y::r) (Gh x.1 y.1):=rfl
  rw[h]
  cases Gh x.1 y.1 with
  | true=>exact .refl _
  | false=>exact((nI x r).cons y).trans (.swap _ _ _)
theorem mM:∀(l acc:Sj KP),(dG l acc).Perm (l++acc)
 | [],acc=>.refl _
 | x::l,acc=>by
  have h:dG (x::l) acc=dG l (AT x acc):=rfl
  rw[h]
  exact(mM l _).trans (((nI x acc).append_left l).trans aaB)
theorem ig:∀l:Sj KP,iI l=Sk->l.Pairwise (λa b=>a.1<b.1)
 | [],_=>.nil
 | [x],_=>.cons (λ_ h=>nomatch h) .nil
 | x::y::r,h=>by
  have h:aD (Gh x.1 y.1) (iI (y::r)) dV=Sk:=h
  refine aM h λh1 h2=>?_;clear h
  rw[BR] at h1
  have h1:=S8 h1
  have ih:=ig (y::r) h2
  refine .cons (λz hz=>?_) ih
  rcases SD.mp hz with rfl | hz
  ·exact h1
  ·exact Sj.lt_trans h1 (Sj.rel_of_pairwise_cons ih hz)
theorem tQ {arr:Sj KP}(hp:arr.Perm ks)(hs:arr.Pairwise (λa b=>¬b.1<a.1))(hr:iI (dG ks [])=Sk):arr=dG ks []:=by
 have pw:=ig _ hr
 have hp':arr.Perm (dG ks []):=hp.trans (by have:=mM ks [];rw[TV] at this;exact this.symm)
 refine aaT.eq_of_pairwise (le:=λa b=>¬b.1<a.1) (λa b ha hb h1 h2=>?_) hs (pw.imp λh q=>Zu _ (Sj.lt_trans h q)) hp'
 have ha':=hp'.mem_iff.mp ha
 have hk:a.1=b.1:=Sj.le_antisymm (Sj.not_lt.mp h1) (Sj.not_lt.mp h2)
 obtain⟨i,hi,ei⟩:=ZP ha'
 obtain⟨j,hj,ej⟩:=ZP hb
 rcases aab i j with q | q | q
 ·have:=UU.mp pw i j hi hj q
  rw[ei,ej,hk] at this
  exact Tc this (Zu _)
 ·subst q
  rw[←ei,←ej]
 ·have:=UU.mp pw j i hj hi q
  rw[ei,ej,hk] at this
  exact Tc this (Zu _)
section
variable {C:Cfg}{fx:Fx}{d:Nat}{A:Around}{env:Env}{σ σ1:List Addr}{fm:Fm}{st:St}{s aaV:Shared}
theorem Inv.reshow (I:Inv C σ st s){X:Sj Sx} (hk:∀b o,b∉X->s.heap.get? b=Si o->s'.heap.get? b=Si o)
  (hX:∀b∈X,∃i o,4<=i/\σ[i]? = Si b/\st.look i=Si o/\o≠.hid/\(s'.heap.get? b).isSome=Sk/\OR σ s'.heap o b):Inv C σ st s':=by
 have inσ:∀b∈X,b∈σ:=λb m=>by refine gw (hX b m) λi o _ h _=>?_;exact Su h
 have out:∀{i:Nat} {b:Sx},σ[i]? = Si b->st.look i=Si .hid->b∉X:=λ{i b} h e m=>by
  refine C8 (hX b m) λi' o _ h' e' n _=>?_
  rw[I.inj h h',e'] at e
  exact n (Si.inj e)
 refine⟨λb o e=>hk b o (λm=>by have:=(I.new b (inσ b m)).1;rw[e] at this;cases this) (I.base b o e),I.nodup,λa m=>⟨(I.new a m).1,?_⟩,I.n,λi o e=>?_,I.dict,I.apart,dQ I.tabs (λ_ _ e=>e) (λ_ x=>x) λj a y sj ha g=>hk a y (out ha sj.1) g,λi a o m=>?_⟩
 ·by_cases q:a∈X
  ·refine pk (hX a q) λ_ _ _ _ _ _ h _=>?_;exact h
  ·refine bG (S7.mp (I.new a m).2) λo e=>?_
   rw[hk _ _ q e];rfl
 ·obtain⟨a,ha,r⟩:=I.at_ i o e
  refine⟨a,ha,?_⟩
  by_cases q:a∈X
  ·refine pk (hX a q) λi' o' _ h' e' _ _ r'=>?_
   have:=I.inj ha h'
   subst this
   rw[e] at e'
   cases e'
   exact r'
  ·exact r.mono (λ_ _ e=>e) (λb vs n m e=>⟨m,hk b _ (λz=>m (inσ b z)) e⟩) (λy g=>hk a y q g) λdd dx hd hdx y g=>hk dx y (out hdx (I.dictHid e hd)) g
 ·refine yF (I.fix i a o m) λq1 q2 q3 q4=>?_
  refine⟨q1,q2,hk a o (λz=>?_) q3,q4⟩
  refine gw (hX a z) λi' _ h4 h' _=>?_
  have:=I.inj q2 h'
  lia
theorem Inv.lamNew (I:Inv C σ st s){t:lX}(k:jm C t){h':Heap}{tk:Nat}{ps:Array Sr}{c':Sx}{st':St}(e1:st'.n=st.n+1)(e2:∀j,st'.look j=if j=st.n then Si .hid else st.look j)
  (hk:∀b o,b≠t.tab->s.heap.get? b=Si o->h'.get? b=Si o) (hg:h'.get? t.tab=Si { cls:=.none,data:=.fields ps }) (htr:Ys ps.toList) (hc:s.heap.objs.size<=c') (hcode:W8 t.pos ps.toList=Si (.ref c')) (hrec:h'.CodeRec (.ref c') t.q) :
  Inv C (σ++[c']) st' { s with heap:=h',toks:=tk }:=by
 obtain⟨j,hj,sj,-⟩:=I.tabs t k.mem
 have mt:t.tab∈σ:=Su hj
 have J:Inv { C with tabs:=[] } σ st { s with heap:=h',toks:=tk }:=I.tabCore k.mem hk (hg▸rfl)
 refine qc (id hrec) λabt oc vs tq q1 hoc hd hq=>?_
 cases q1
 have out:c'∉σ:=λm=>Tc (I.size m) (Uo.mpr hc)
 have J':Inv { C with tabs:=[] } (σ++[c']) st' { s with heap:=h',toks:=tk }:=J.name e1 e2 rfl out (by show(h'.get? c').isSome=Sk;rw[hoc];rfl) (bD I hc) (λus n e=>by rw[hoc] at e;cases e;cases hd) trivial
 have hi:∀(i:Nat) (b:Sx),σ[i]? = Si b->(σ++[c'])[i]? = Si b:=λi b e=>by rw[Tp (SJ.mp e).1];exact e
 have old:∀{j:Nat} {x:O},st.look j=Si x->st'.look j=Si x:=λ{j x} e=>by rw[e2,SK (SP (I.lt e))];exact e
 have L:∀{j:Nat} {x:O} {d:Nat},st'.look j=Si x->bW x=Si d->st.look j=Si x:=λ{j x d} q h=>by
  rw[e2] at q
  by_cases e:j=st.n
  ·rw[SX e] at q;cases q;cases h
  ·rw[SK e] at q;exact q
 have sf:∀{j:Nat},Safe st j->Safe st' j:=λsj=>Safe.of (old sj.1) λk x d q hd=>sj.dict (L q hd) hd
 have sn:Safe st' st.n:=Safe.of (by rw[e2,SX rfl]) λk x d q hd=>SP (I.lt (I.dictHid (L q hd) hd))
 have hP:∀P∈C.tabs.map (·.tab),P≠c':=λP m q=>by
  obtain⟨t',m',rfl⟩:=XN.mp m
  obtain⟨j',hj',_⟩:=I.tabs t' m'
  exact out (q▸Su hj')
 refine⟨J'.base,J'.nodup,J'.new,J'.n,J'.at_,J'.dict,J'.apart,λt' m'=>?_,J'.fix⟩
 by_cases q:t'.tab=t.tab
 ·have:=k.one t' m' q
  subst this
  exact⟨j,hi _ _ hj,sf sj,ps,hg,htr,λ_ cv hv=>by rw[hcode] at hv;cases hv;exact⟨st.n,c',rfl,by rw[I.n];simp,sn,hP,hrec⟩⟩
 ·obtain⟨j',hj',sj',ps',g,tr,cv⟩:=I.tabs t' m'
  refine⟨j',hi _ _ hj',sf sj',ps',hk _ _ q g,tr,λhlam v hv=>?_⟩
  obtain⟨i,c,rfl,hic,si,hp,c'',o',vs',u,e,g',r⟩:=cv hlam v hv
  cases e
  exact⟨i,c,rfl,hi _ _ hic,sf si,hp,c,o',vs',u,rfl,hk c _ (λz=>hp _ (UQ k.mem) z.symm) g',r⟩
theorem Cq (Ok:C.Ok)(B:mH C){t:lX}(kt:jm C t)(hl:t.lam=Sk)(hcode:env.code=.ref t.code)(hg:env.globals=S4)(I:Inv C σ st s){r:Sx}(hr:r∉σ)(hrl:(s.heap.get? r).isSome=Sk)(hrn:C.aa8.get? r=none)(hrt:∀vs n,s.heap.get? r≠Si (cK vs n))
 {body:Expr} (hpos:pos=t.pos) (hq:env.qual ++ "<lambda>"=t.q) (hd:defaultsOf params env=([],[])) (hcl:YU lsc env=pure clos) (e1:st1.n=st.n+1) (e2:∀j,st1.look j=if j=st.n then Si .hid else st.look j)
 
  (h:∀f a c' ctv pm h' tk,a∉σ->(a=r\/s.heap.get? a=none)->Inv C (σ++[a]) st1 { s with heap:=h',toks:=tk }->h'.get? f=Si (aaJ "<lambda>" t.q params body lsc clos pm c' ctv)->h'.CodeRec (.ref c') t.q->s.heap.objs.size<=f ->
   (∀b o,b≠t.tab->s.heap.get? b=Si o->h'.get? b=Si o)->Q (.ref f) { s with heap:=h',toks:=tk }):Ss C.M A (eval (.Lambda params body lsc pos) env) Q E s:=by
 refine pk (isCode Ok I kt) λj ps hj sj hic hta hlam htr=>?_
 have CH:CodeHd s.heap t.code t.tab:=CodeHd.of hic hta
 have hP:s.heap.get? t.tab=Si (aaC ps):=hta.2
 have hgs:s.heap.Ns S4 C.mg:=Ok.T.g.keeps I.base
 have hgP:S4≠t.tab:=λq=>by
  refine Aj hgs λo es ep e hd _=>?_
  rw[q,hP] at e;cases e;cases hd
 refine pk (B.at_) λbm ob b1 b2 b3 b4 b5 b6=>?_
 have hbP:bm≠t.tab:=λq=>by
  have e:=I.base _ _ b3
  rw[q,hP] at e;cases e;cases b4
 have hbG:bm≠S4:=λq=>by
  refine Aj (Ok.T.g) λo es ep e hd _=>?_
  rw[q,e] at b3;cases b3;rw[hd] at b6;cases b6
 have BA:s.heap.BuiltinsAt C.mg t.tab:=⟨bm,ob,b1,b2,hbG,hbP,I.base _ _ b3,b4,b5,b6⟩
 refine kla_eval hd ?_
 rw[hq,hpos]
 cases hf:W8 t.pos ps.toList with
 | none=>
  refine kla_makeFunction (mg:=C.mg) hcl hg hgs hcode CH hP htr hf hgP BA λc' ctv h' tk hx hge hlt hrec htb=>?_
  have tr':=TriplesOk_snoc t.pos.line t.pos.col (.ref c') _ htr
  have ca:=codeAmong_snoc (c:=.ref c') _ htr hf
  have I':Inv C (σ++[c']) st1 { s with heap:=h',toks:=tk }:=I.lamNew kt e1 e2 hx htb (by rw[ZQ];exact tr') hge (by rw[ZQ];exact ca) hrec
  refine qc hrec λabt oc vs tq q1 hoc hd' hq'=>?_
  cases q1
  exact h _ c' c' ctv _ _ tk (λm=>Tc (I.size m) (Uo.mpr hge)) (.inr (bE hge)) (I'.grow λb o e=>Heap.get?_push_of_some _ e) (Heap.get?_push_size _ rfl) ⟨_,oc,vs,tq,rfl,Heap.get?_push_of_some _ hoc,hd',hq'⟩ (TP (Tn hge hlt)) λb o nb e=>Heap.get?_push_of_some _ (hx b o nb e)
 | some cv=>
  refine C8 (hlam hl cv hf) λi c e82 hi si hp hrec=>?_;subst e82
  refine kla_makeFunctionHit (mg:=C.mg) hcl hg hgs hcode CH hP htr hf BA λctv h' tk hk hsz=>?_
  have kk:∀b o,s.heap.get? b=Si o->(h'.push (aaJ "<lambda>" t.q params body lsc clos ((C.mg "__name__").getD .none) c ctv)).get? b=Si o:=λb o e=>Heap.get?_push_of_some _ (hk b o e)
  refine qc hrec λabt oc vs tq q1 hoc hd' hq'=>?_
  cases q1
  exact h _ r c ctv _ _ tk hr (.inl rfl) ((I.name e1 e2 rfl hr hrl hrn hrt trivial).grow kk) (Heap.get?_push_size _ rfl) ⟨_,oc,vs,tq,rfl,kk _ _ hoc,hd',hq'⟩ hsz λb o _ e=>kk b o e
noncomputable abbrev Cfg.bare (C:Cfg):Cfg:={ C with tabs:=[],fix:=[] }
noncomputable def cL (xs:Sj Int):St:=⟨2,.node (.list (fE .int xs)) (.node (.cell (Si (.ref 0))) .nil .nil) .nil⟩
theorem lF (h:(cL xs).look i=Si o):(i=0/\o=.list (fE .int xs))\/(i=1/\o=.cell (Si (.ref 0))):=by
 match i with
 | 0=>exact .inl ⟨rfl,(Si.inj h).symm⟩
 | 1=>exact .inr ⟨rfl,(Si.inj h).symm⟩
 | j+2=>
  have h:(if (j+1) % 2=0 then (T.node (.cell (Si (.ref 0))) .nil .nil).look ((j+1) / 2) else T.nil.look ((j+1) / 2))=Si o:=h
  split at h
  ·rename_i q
   obtain⟨m,hm⟩:∃m,(j+1) / 2=m+1:=⟨(j+1) / 2 - 1,by lia⟩
   rw[hm] at h
   have h:(if m % 2=0 then T.nil.look (m / 2) else T.nil.look (m / 2))=Si o:=h
   split at h <;> exact iq h
  ·exact iq h
theorem DM (I:Inv C σ st s) (hf:af∈σ)(hc:ac∈σ)(hne:af≠ac)(of:OR σ s.heap (.list (xs.map V.int)) af)(oc:s.heap.IsCell ac (Si (.ref af))):Inv C.bare [af,ac] (cL xs) s:=by
 obtain⟨us,m,g,r⟩:=of
 refine⟨I.base,by simp[hne],λa m=>?_,rfl,λi o e=>?_,λi c d fs l e=>?_,λi j c d fs l c' d' fs' l' e=>?_,λ_ m=>(nomatch m),λ_ _ _ m=>(nomatch m)⟩
 ·rcases SD.mp m with rfl | m
  ·exact I.new _ hf
  ·rw[Sn.mp m];exact I.new _ hc
 ·rcases lF e with ⟨rfl,rfl⟩ | ⟨rfl,rfl⟩
  ·exact⟨af,rfl,us,m,g,by rw[eq];exact fb (eI r)⟩
  ·exact⟨ac,rfl,_,oc,.ref rfl⟩
 ·rcases e with e | e <;> rcases lF e with ⟨_,q⟩ | ⟨_,q⟩ <;> cases q
 ·rcases e with e | e <;> rcases lF e with ⟨_,q⟩ | ⟨_,q⟩ <;> cases q
structure oZ (lsc:Scope)(params:Arguments)(x y:Str):Prop where
 sc:dT lsc=Sk
 co:lsc.isCoroutine=dV
 gen:lsc.isGenerator=dV
 loc:au lsc .local=[y]
 cell:au lsc .cell=[]
 free:au lsc .free=[x]
 dflt:∀env,defaultsOf params env=([],[])
 bind:∀qual body cl pm cd ct u,XZ (kla_fn "<lambda>" qual params body lsc cl pm cd ct) ⟨[u],[]⟩=pure [(y,u)]
noncomputable def Lb (z:Int):Str:=⟨(cw [32] (cT z)).toArray⟩
theorem BL (Ok:C.Ok):C.bare.Ok:=⟨Ok.X,Ok.T⟩
theorem EO (Ok:C.Ok) {body:Expr}{e:CE} (L:oZ lsc params x y)(he:SE C.bare (aR lsc) d body e)
  (hE:∀(xs:Sj Int) (j:Nat) (z:Int) (K:KV),xs[j]? = Si z->j<=63->small z=Sk->aB (cT z)=Sk->K (.str (cw [32] (cT z))) (cL xs)=Sk->e ⟨[Si (.int j)],[1]⟩ (cL xs) K=Sk)
  {f c':Sx} {ctv pm:Sr} (R:Rm (d+1) A) (ho:s.heap.get? f=Si (aaJ "<lambda>" qual params body lsc clos pm c' ctv)) (hrec:s.heap.CodeRec (.ref c') qual) (hcl:clos.lookup x=Si ac)
  (I:Inv C.bare [af,ac] (cL xs) s) {z:Int} (hz:xs[j]? = Si z) (hj:j<=63) (h1:small z=Sk) (h2:aB (cT z)=Sk):
  Ss C.M A (call (.ref f) [.int j tk]) (λu s'=>(∃t,u=.str (Lb z) t)/\Step [] [af,ac] s [af,ac] s'/\Inv C.bare [af,ac] (cL xs) s') E s:=by
 classical
 refine UM (kla_callFunE R.top ho rfl L.co L.gen rfl hrec ?_)
 rw[L.bind]
 refine Sl ?_
 have hK:=hE xs j z (λv st=>decide (v=.str (cw [32] (cT z))/\st=cL xs)) hz hj h1 h2 (Tu ⟨rfl,rfl⟩)
 have q:=uo (C:=C.bare) (A:=A.in1) (closure:=clos) (q:=[1]) (around:=none) (qual:=qual ++ ".<locals>.") (func:=Si f) (code:=.ref c') (builtins:=Ua) (xs:=[y]) (ps:=[(dV,0)]) (l:=[.int j]) (us:=[.int j tk])
  (k:=λfm st=>e fm st λv st=>decide (v=.str (cw [32] (cT z))/\st=cL xs)) L.sc rfl (.cons (by show(aR lsc).ln[0]? = _;show(au lsc .local)[0]? = _;rw[L.loc];rfl) (λh=>nomatch h) .nil) I (.cons (.int _ _) .nil) (by rw[L.free];exact SW _)
  (λi w hw hi=>by rw[L.free] at hw;induction i with
   | zero=>
    have:w=x:=by simpa using hw.symm
    exact⟨ac,1,rfl,this▸hcl,rfl⟩
   | succ i=>simp at hw) (by rw[L.cell,L.loc];exact hK)
 refine Sq q ?_ λ_ _ e=>e.elim
 rintro genv aaV ⟨σ',fm',st',E',_,_,S',I',F',_,h'⟩
 refine⟨(BL Ok).T.nolimit.keeps I'.base,kla_codeExpr (Sq (he (A.deeper genv) genv σ' fm' st' aaV _ R.deeper E' I' F' h') ?_ λ_ _ e=>e.elim)⟩
 rintro u aaW ⟨σ'',v,st'',S'',I'',r,hd⟩
 obtain⟨rfl,rfl⟩:=S8 hd
 have S:=S'.trans S''
 have hσ:σ''=[af,ac]:=by
  refine aE (S.ext) λτ e _=>?_
  have hn:2=σ''.length:=I''.n
  rw[e] at hn ⊢
  induction τ with
  | nil=>simp
  | cons a b=>simp at hn
 subst hσ
 refine VR.str_e r λ_=>?_
 exact⟨⟨_,rfl⟩,S,I''⟩
end
theorem wA:∀{xs:Sj Int}{n:Nat}{j:Int}{k:Sj KP->Sm},sw xs n j k=Sk->∃ks:Sj KP,ks.length=n/\(∀i,i<n->∃z,xs[i]? = Si z/\small z=Sk/\aB (cT z)=Sk/\ks[i]? = Si (cw [32] (cT z),j+i))/\k ks=Sk
 | [],0,_,_,h=>⟨[],rfl,λi hi=>Tc hi (U7 _),h⟩
 | [],_+1,_,_,h=>by exact ff h
 | x::xs,0,_,_,h=>⟨[],rfl,λi hi=>Tc hi (U7 _),h⟩
 | x::xs,n+1,j,k,h=>by
  have h:aD (small x) (aD (aB (cT x)) (sw xs n (gA j 1) λq=>k ((cw [32] (cT x),j)::q)) dV) dV=Sk:=h
  refine dE (eH h) λh1 h=>?_
  refine dE (eH h) λh2 h=>?_
  refine fF (wA h) λks e hk h=>?_
  refine⟨_::ks,by simp[e],λi hi=>?_,h⟩
  induction i with
  | zero=>exact⟨x,rfl,h1,h2,by simp⟩
  | succ i=>
   refine fC (hk i (by lia)) λz a b c dd=>?_
   refine⟨z,by simpa using a,b,c,?_⟩
   rw[eU] at dd
   rw[WC,dd]
   congr 2
   lia
noncomputable def conv (p:Sr×Sr):KP:=((match p.1 with | .str x _=>x.cps.toList | _=>[]),(match p.2 with | .int i _=>i | _=>0))
theorem pe:∀{l:Sj (Sr×Sr)},(∀p∈l,∃i t,p.2=.int i t)->UK (l.map (·.2)) ((l.map conv).map (·.2))
 | [],_=>.nil
 | p::l,h=>by
  refine vD (h p (.head _)) λi t e=>?_
  have:(conv p).2=i:=by unfold conv;rw[e]
  simp only[Tx]
  rw[this,e]
  exact .cons _ _ (pe λq m=>h q (.tail _ m))
section
variable {ks vs:List Value}{kp:List KP}
theorem oO (hks:∀(i:Nat)(v:Sr),ks[i]? = Si v->∃p t,kp[i]? = Si p/\v=.str ⟨p.1.toArray⟩ t)(hvs:∀(i:Nat)(v:Sr),vs[i]? = Si v->∃p t,kp[i]? = Si p/\v=.int p.2 t){p:Sr×Sr}(m:p∈ks.zip vs):∃q:KP,∃t u,p=(.str ⟨q.1.toArray⟩ t,.int q.2 u)/\conv p=q:=by
 refine bG (V8 m) λi e=>?_
 refine dE (Yd.mp e) λe1 e2=>?_
 refine fB (hks i _ e1) λq t h1 h2=>?_
 refine fB (hvs i _ e2) λq' u h3 h4=>?_
 rw[h1] at h3
 cases h3
 refine⟨q,t,u,Prod.ext h2 h4,?_⟩
 unfold conv
 rw[h2,h4]
theorem xA (hks:∀(i:Nat)(v:Sr),ks[i]? = Si v->∃p t,kp[i]? = Si p/\v=.str ⟨p.1.toArray⟩ t)(hvs:∀(i:Nat)(v:Sr),vs[i]? = Si v->∃p t,kp[i]? = Si p/\v=.int p.2 t):KeysOf UF (ks.toArray.zip vs.toArray):=by
 intro p m
 rw[aaD] at m
 refine iB (oO hks hvs m) λq t u e83 _=>?_;subst e83
 exact⟨_,rfl⟩
theorem yA (hks:∀(i:Nat)(v:Sr),ks[i]? = Si v->∃p t,kp[i]? = Si p/\v=.str ⟨p.1.toArray⟩ t)(h2:2<=ks.length):keyKind' ks.toArray=pure oneType':=by
 match ks,h2 with
 | a::b::r,_=>
  refine keyKind_strs (strsAre_map _ λv m=>?_)
  refine bG (V8 m) λi e=>?_
  refine fB (hks i v e) λp t _ q=>?_
  exact⟨_,t,q⟩
theorem Cz {arr:Array Keyed}(hk:ks.length=vs.length)(hl:kp.length=vs.length)(hks:∀(i:Nat)(v:Sr),ks[i]? = Si v->∃p t,kp[i]? = Si p/\v=.str ⟨p.1.toArray⟩ t)(hvs:∀(i:Nat)(v:Sr),vs[i]? = Si v->∃p t,kp[i]? = Si p/\v=.int p.2 t)
  (hp:arr.Perm (ks.toArray.zip vs.toArray)) (hs:aaA UF arr vs.length) (hr:iI (dG kp [])=Sk):UK (arr.map (·.2)).toList ((dG kp []).map (·.2)):=by
 have hp':arr.toList.Perm (ks.zip vs):=by
  have:=Array.perm_iff_toList_perm.mp hp
  rwa [aaD] at this
 have hsz:arr.size=vs.length:=by rw[hp.size_eq,Array.size_zip];simp[hk]
 have hmap:(ks.zip vs).map conv=kp:=by
  apply aal
  intro i
  rw[TM]
  cases e:(ks.zip vs)[i]? with
  | none=>
   have:=We.mp e
   rw[Sj.length_zip,hk,Nat.min_self] at this
   exact(W5 (by lia)).symm
  | some p=>
   refine dE (Yd.mp e) λe1 e2=>?_
   refine fB (hks i _ e1) λq t h1 h2=>?_
   refine fB (hvs i _ e2) λq' u h3 h4=>?_
   rw[h1] at h3
   cases h3
   rw[h1]
   show Si (conv p)=_
   unfold conv
   rw[h2,h4]
 have shape:∀p∈arr.toList,∃q:KP,∃t u,p=(.str ⟨q.1.toArray⟩ t,.int q.2 u)/\conv p=q:=λp m=>oO hks hvs (hp'.mem_iff.mp m)
 have key:arr.toList.map conv=dG kp []:=by
  refine tQ (hmap▸hp'.map conv) ?_ hr
  rw[UU]
  intro i j hi hj hij
  rw[S6,XG] at hi hj
  have h1:=hs i j (TP hij) (by lia)
  refine iB (shape arr[i] (by simp)) λq t u e e'=>?_
  refine iB (shape arr[j] (by simp)) λq2 t2 u2 e2 e2'=>?_
  have k1:KK UF arr i=q.1:=by unfold KK;rw[getElem?_pos arr i hi,e];simp[UF]
  have k2:KK UF arr j=q2.1:=by unfold KK;rw[getElem?_pos arr j hj,e2];simp[UF]
  rw[k1,k2] at h1
  rw[Xh,Xh,Zv,Zv,e',e2']
  exact of_decide_eq_false h1
 rw[Array.toList_map,←key]
 exact pe λp m=>by refine iB (shape p m) λq t u e _=>?_;exact⟨_,_,by rw[e]⟩
end
section
variable {C:Cfg}{fx:Fx}{d:Nat}{A:Around}{env:Env}{σ σ1:List Addr}{fm:Fm}{st:St}{s aaV:Shared}
noncomputable def nj (k:KV)(fm:Fm)(c:Nat)(x:Int)(st:St):Sm:=aD (SZ (cT x) 63) (aD (small x) (getL fm.cel c (λci=>aD (SZ 4 ci) (st.get ci λo=>eo o λv=>cU v λv=>bB v λm=>aD (SZ 4 m) (bh st m λl=>iZq l λxs=>
 sw xs (cT x) 0 λks=>aD (iI (dG ks [])) (st.push .hid λ_ st=>st.push (.list (fE (λx=>.int x.2) (dG ks []))) λn st=>k (.ref n) st) dV) dV) dV) dV) dV) dV
theorem yM (cn:CE)(c:Nat)(fm:Fm)(st:St)(k:KV):pn cn c fm st k=cn fm st λx st=>aG x λx=>nj k fm c x st:=rfl
theorem yD {us:Sj Sr} {k:KV}(I':Inv C σ1 st s')(S':Step [] σ s σ1 s')(nD:D∉σ1)(dD:s.heap.get? D=none)(nh:C.aa8.get? D=none)
  (g:s'.heap.get? D=Si (cB us m)) (hI:UK us ys) (h:st.push (.list (ys.map V.int)) (λn st=>k (.ref n) st)=Sk):Out C [] σ s k (.ref D) s':=by
 refine St.push_e h λst6 e1 e2 h7=>?_
 have hn:(σ1++[D])[st.n]? = Si D:=by rw[I'.n];simp
 have v:=fb (σ:=σ1++[D]) (h:=s'.heap) hI
 have ab7:Inv C (σ1++[D]) st6 s':=I'.name e1 e2 rfl nD (by rw[g];rfl) nh (λvs n=>cE g rfl (by decide) vs n) ⟨us,m,g,v⟩
 exact⟨_,.ref st.n,st6,S'.name nD dD,ab7,.ref hn,h7⟩
theorem zO {P:Prop}{k:KV} {x:Int}(h:nj k fm c x st=Sk)
  (H:∀(ci m:Nat) (xs:Sj Int) (ks:Sj KP) (st2:St),cT x<=63->small x=Sk->fm.cel[c]? = Si ci->4<=ci->st.look ci=Si (.cell (Si (.ref m)))->4<=m->st.look m=Si (.list (xs.map V.int))->ks.length=cT x ->
   (∀i,i<cT x->∃z,xs[i]? = Si z/\small z=Sk/\aB (cT z)=Sk/\ks[i]? = Si (cw [32] (cT z),(0:Int)+i))->iI (dG ks [])=Sk->st2.n=st.n+1->(∀j,st2.look j=if j=st.n then Si .hid else st.look j) ->
   st2.push (.list ((dG ks []).map λx=>V.int x.2)) (λn st=>k (.ref n) st)=Sk->P):P:=by
 refine aM h λhlen a0=>?_;clear h
 refine aM a0 λhsm a1=>?_;clear a0
 refine gJ a1 λci hci a2=>?_;clear a1
 refine aM a2 λhc4 a3=>?_;clear a2
 refine St.get_e a3 λo hlc a4=>?_;clear a3
 refine g9 a4 λv e81 a5=>?_;clear a4;subst e81
 refine gz a5 λv e81 a6=>?_;clear a5;subst e81
 refine bN a6 λm e81 a7=>?_;clear a6;subst e81
 refine aM a7 λhm4 a8=>?_;clear a7
 refine bC a8 λl hlm a9=>?_;clear a8
 refine kx a9 λxs e81 a10=>?_;clear a9;subst e81
 refine fF (wA a10) λks hkl hks a11=>?_
 refine aM a11 λhrise a12=>?_;clear a11
 refine St.push_e a12 λst2 e1 e2 a13=>?_;clear a12
 rw[eq] at a13
 exact H ci m xs ks st2 (Sp hlen) hsm hci (Sp hc4) hlc (Sp hm4) hlm hkl hks hrise e1 e2 a13
structure SortJ (C:Cfg)(af ac L1:Sx)(xs:Sj Int)(ks:Sj KP)(N:Nat)(aa8:Heap)(aa0:Sw)(kl:Sj Sr)(s':Sw):Prop where
 len:kl.length<=N
 val:∀(i:Nat) (v:Sr),kl[i]? = Si v->∃p t,ks[i]? = Si p/\v=.str ⟨p.1.toArray⟩ t
 keep:∀b o,b≠af->b≠ac->b≠L1->aa8.get? b=Si o->s'.heap.get? b=Si o
 at_:∃m,s'.heap.get? L1=Si (UT "list" kl.toArray m)
 inv:Inv C.bare [af,ac] (cL xs) s'
 os:s'.os=aa0.os
 gens:UZ aa0.gens->UZ s'.gens
theorem qe {p:Sx}(h1:p≠a)(h2:p≠b):p∉[a,b]:=λm=>(SD.mp m).elim h1 λm=>h2 (Sn.mp m)
theorem SortJ.key {L1:Sx} {aa8:Heap} {kl:Sj Sr}(J:SortJ C af ac L1 xs ks N aa8 aa0 kl s')(hi:kl.length<N)(na:L1≠af)(nc:L1≠ac)(nK0:C.aa8.get? L1=none){z:Int}{j:Int}(hz:ks[kl.length]? = Si (cw [32] (cT z),j))
  {w:Sr} (hw:∃t,w=.str (Lb z) t) (S:Step [] [af,ac] s' [af,ac] s'') (I:Inv C.bare [af,ac] (cL xs) s''):(∃m,s''.heap.get? L1=Si (UT "list" kl.toArray m))/\SortJ C af ac L1 xs ks N aa8 aa0 (kl++[w]) { s'' with heap:=s''.heap.update L1 (S9 (·.push w)) }:=by
 refine bG (J.at_) λmk j4=>?_
 have nK:=qe na nc
 have gK:=S.keep _ _ nK (λm=>nomatch m) j4
 refine⟨⟨mk,gK⟩,by rw[SY];exact hi,λi v q=>?_,λb o n1 n2 n3 q=>?_,?_,?_,S.os.trans J.os,λq=>S.gens (J.gens q)⟩
 ·rw[Sj.getElem?_append] at q
  split at q
  ·exact J.val i v q
  ·obtain⟨t,rfl⟩:=hw
   rename_i hb
   cases e:i - kl.length with
   | zero=>
    rw[e] at q
    have:i=kl.length:=UR (VV e) (Uo.mp hb)
    exact⟨_,t,this▸hz,(Si.inj q).symm⟩
   | succ n=>rw[e] at q;exact iq q
 ·show(s''.heap.update _ _).get? b=_
  rw[Heap.get?_update_other _ _ (Ne.symm n3)]
  exact S.keep _ _ (qe n1 n2) (λm=>nomatch m) (J.keep b o n1 n2 n3 q)
 ·refine bG (ft (·.push w) kl mk) λmm hmm=>?_
  refine⟨mm,(Heap.get?_update_self _ gK (by rfl)).trans (SU Si (hmm.trans ?_))⟩
  rw[aah]
 ·refine I.other (W:=[L1]) (λb o nb q=>?_) (λb hb=>by rw[Sn.mp hb];exact⟨nK,nK0⟩) (λb hb vs n q=>?_)
  ·exact(Heap.get?_update_other _ _ (λz=>nb (Sn.mpr z.symm))).trans q
  ·rw[Sn.mp hb] at q;exact cE gK rfl (by decide) _ _ q
theorem SortJ.done {L1 Ls:Sx} {aa8 aaX:Heap} {kl:Sj Sr}{arr:Array Sr}(J:SortJ C af ac L1 xs ks N aa8 aa0 kl s')(nLa:Ls≠af)(nLc:Ls≠ac)(nLK:Ls≠L1)(na:L1≠af)(nc:L1≠ac)
  (nL0:C.aa8.get? Ls=none) (nK0:C.aa8.get? L1=none) {e0:Nat} (gL:aa8.get? Ls=Si (UT "list" #[] e0)) (hk:∀b o,aaX.get? b=Si o->b≠Ls/\b≠L1/\aa8.get? b=Si o) {hE:Heap} (eE:(s'.heap.update L1 (S9 λ_=>#[])).update Ls (S9 λ_=>arr)=hE) :
  (∃m,hE.get? Ls=Si (cB arr.toList m))/\(∀b o,b≠af->b≠ac->aaX.get? b=Si o->hE.get? b=Si o)/\Inv C.bare [af,ac] (cL xs) { s' with heap:=hE }:=by
 refine bG (J.at_) λmk j4=>?_
 have gL':=J.keep _ _ nLa nLc nLK gL
 have kp2:∀b o,b≠Ls->b≠L1->s'.heap.get? b=Si o->hE.get? b=Si o:=λb o n1 n2 q=>by
  rw[←eE,Heap.get?_update_other _ _ (Ne.symm n1),Heap.get?_update_other _ _ (Ne.symm n2)];exact q
 refine⟨?_,λb o n1 n2 q=>?_,?_⟩
 ·refine bG (ft (λ_=>arr) [] e0) λmE hmE=>?_
  exact⟨mE,eE▸(Heap.get?_update_self _ ((Heap.get?_update_other _ _ (Ne.symm nLK)).trans gL') (by rfl)).trans (SU Si hmE)⟩
 ·refine kS (hk b o q) λa c g=>?_
  exact kp2 b o a c (J.keep b o n1 n2 c g)
 ·refine J.inv.other (W:=[Ls,L1]) (λb o nb q=>kp2 b o (λz=>nb (z▸.head _)) (λz=>nb (z▸.tail _ (.head _))) q) (λb hb=>?_) (λb hb vs n q=>?_)
  ·rcases SD.mp hb with rfl | hb
   ·exact⟨qe nLa nLc,nL0⟩
   ·rw[Sn.mp hb];exact⟨qe na nc,nK0⟩
  ·rcases SD.mp hb with rfl | hb
   ·exact cE gL' rfl (by decide) _ _ q
   ·rw[Sn.mp hb] at q;exact cE j4 rfl (by decide) _ _ q
structure LamAt (C:Cfg)(lsc:Scope)(params:Arguments)(body:Expr)(qual:Str)(clos:Sj (Str×Sx))(f af ac:Sx)(h:Heap):Prop where
 at_:∃pm c' ctv,h.get? f=Si (aaJ "<lambda>" qual params body lsc clos pm c' ctv)/\h.CodeRec (.ref c') qual
 nf:f≠af/\f≠ac
theorem LamAt.keep {body:Expr} {f:Sx} {w:Sw}(x:LamAt C lsc params body qual clos f af ac h)(I:Inv C.bare [af,ac] (cL xs) w)(ew:w.heap=h)(k:∀b o,b≠af->b≠ac->h.get? b=Si o->h'.get? b=Si o):LamAt C lsc params body qual clos f af ac h':=by
 obtain⟨⟨pm,c',ctv,hf,hrec⟩,na,nc⟩:=x
 refine⟨⟨pm,c',ctv,k _ _ na nc hf,?_⟩,na,nc⟩
 refine qc hrec λabt oc vs tq q1 hoc hd' hq'=>?_
 subst ew
 refine⟨abt,oc,vs,tq,q1,k _ _ (λq=>?_) (λq=>?_) hoc,hd',hq'⟩
 ·obtain⟨b,q1,us,m,g,_⟩:=I.at_ 0 (.list (fE .int xs)) rfl
  cases q1
  rw[q,g] at hoc;cases hoc;cases hd'
 ·obtain⟨b,q1,u,⟨oo,g,dd⟩,_⟩:=I.at_ 1 (.cell (Si (.ref 0))) rfl
  cases q1
  rw[q,g] at hoc;cases hoc;rw[dd] at hd';cases hd'
theorem qH {a b:Nat}(h:a<b):@Ne Sx a b:=SP h
theorem eT {a b:Nat}(h:a<b):@Ne Sx b a:=Tz h
theorem vL (Ok:C.Ok) {body:Expr}{e:CE} (L:oZ lsc params x y)(he:SE C.bare (aR lsc) d body e)
  (hE:∀(xs:Sj Int) (j:Nat) (z:Int) (K:KV),xs[j]? = Si z->j<=63->small z=Sk->aB (cT z)=Sk->K (.str (cw [32] (cT z))) (cL xs)=Sk->e ⟨[Si (.int j)],[1]⟩ (cL xs) K=Sk) (R:Rm (d+3) A)
 {f r:Sx} (hl:LamAt C lsc params body qual clos f af ac s.heap) (hcl:clos.lookup x=Si ac) (I:Inv C.bare [af,ac] (cL xs) s) {x0:Int} {t u v:Tok} (hr:WQ s.heap r 0 x0 1 t u v) (hlen:cT x0<=63) (hsm:small x0=Sk)
 (hkl:ks.length=cT x0) (hks:∀i,i<cT x0->∃z,xs[i]? = Si z/\small z=Sk/\aB (cT z)=Sk/\ks[i]? = Si (cw [32] (cT z),(0:Int)+i)) (hrise:iI (dG ks [])=Sk) 
  (H:∀(Ls:Sx) (us:Sj Sr) (m:Nat) (s':Sw),(∀p o,s.heap.get? p=Si o->p<Ls)->s'.heap.get? Ls=Si (cB us m)->UK us ((dG ks []).map (·.2))->(∀b o,b≠af->b≠ac->s.heap.get? b=Si o->s'.heap.get? b=Si o)->Inv C.bare [af,ac] (cL xs) s'->s'.os=s.os ->
   (UZ s.gens->UZ s'.gens)->Q (.ref Ls) s'):Ss C.M A (call (.builtin "sorted") [.ref r] [(TY "key",.ref f)]) Q E s:=by
 have hrange:Ts 0 x0 1=(cT x0:Int):=by rw[lB,ey,Int.sub_zero]
 refine uW R.handled hr (jA rfl hsm) hrange (Ul hlen) λabd tk4 acc hk4 hacc hL hp4 hlt=>?_
 generalize hLe:abd.objs.size - 1=Ls at *
 have hLs:abd.objs.size=Ls+1:=by rw[←hLe];exact(Nat.succ_pred_eq_of_pos hp4).symm
 obtain⟨vs⟩:=acc
 have hls:vs.length=cT x0:=hacc.1
 have hvs:∀(i:Nat) (v:Sr),vs[i]? = Si v->∃p u,ks[i]? = Si p/\v=.int p.2 u:=λi v q=>by
  refine fC (hks i (by rw[←hls];exact(SJ.mp q).1)) λz _ _ _ h4=>?_
  refine bG (hacc.2 i v (by rw[←VT];exact q)) λu hu=>?_
  exact⟨_,u,h4,by rw[hu,Int.mul_one]⟩
 clear hacc hLe hp4
 obtain⟨L1,eL1⟩:∃L1,L1=abd.objs.size+1:=⟨_,rfl⟩
 have lL1:@LT.lt Nat _ Ls L1:=by rw[eL1,hLs];exact To (S1 _)
 obtain⟨e0,he1⟩:∃e0,(abd.update Ls (S9 λ_=>#[])).get? Ls=Si (UT "list" #[] e0):=⟨_,by rw[Heap.get?_update_self _ hL (by rfl)];rfl⟩
 have gLs:(oG abd Ls vs).get? Ls=Si (UT "list" #[] e0):=Heap.get?_push_of_some _ (Heap.get?_push_of_some _ he1)
 have szH:((abd.update Ls (S9 λ_=>#[])).push (UT "tuple" vs.toArray 0)).objs.size=L1:=by rw[Heap.size_push,Heap.size_update,eL1]
 have gK0:(oG abd Ls vs).get? L1=Si (UT "list" #[] 0):=by rw[←szH];exact Heap.get?_push_size _ rfl
 have hH:∀b o,s.heap.get? b=Si o->b≠Ls/\b≠L1/\(oG abd Ls vs).get? b=Si o:=λb o q=>by
  have l:=hlt b o q
  exact⟨qH l,qH (SO l lL1),Heap.get?_push_of_some _ (Heap.get?_push_of_some _ ((Heap.get?_update_other _ _ (eT l)).trans (hk4 b o q)))⟩
 have live:∀{p:Sx},p∈[af,ac]->@LT.lt Nat _ p Ls:=λ{p} m=>by
  refine bG (S7.mp (I.new p m).2) λo q=>?_
  exact hlt p o q
 have la:=live (.head _)
 have lc:=live (.tail _ (.head _))
 have ka:=SO la lL1
 have kc:=SO lc lL1
 have nL0:C.aa8.get? Ls=none:=by
  cases q:C.aa8.get? Ls with
  | none=>rfl
  | some o=>exact Tc (hlt _ _ (I.base _ _ q)) (Tq _)
 have nK0:C.aa8.get? L1=none:=by
  cases q:C.aa8.get? L1 with
  | none=>rfl
  | some o=>exact Tc (SO lL1 (hlt _ _ (I.base _ _ q))) (Tq _)
 have Ib4:Inv C.bare [af,ac] (cL xs) { s with heap:=oG abd Ls vs,toks:=tk4 }:=I.grow λb o q=>(hH b o q).2.2
 have gLv:abd.get? Ls=Si (UT "list" vs.toArray 0):=hL
 refine nE (κ:=UF) strKind_oneLt (s:={ s with heap:=abd,toks:=tk4 }) (vs:=vs) (n:=0) rfl gLv (by rw[hls];exact Ul hlen) (SortJ C af ac L1 xs ks (cT x0) (oG abd Ls vs) s) he1 ?_ ?_ ?_ ?_
 ·exact⟨Th _,λi v q=>(nomatch q),λb o _ _ _ q=>q,⟨0,gK0⟩,Ib4,rfl,λq=>q⟩
 ·intro kl s' J
  exact⟨hls▸J.len,eL1▸J.at_,J.keep _ _ (eT la) (eT lc) (qH lL1) gLs⟩
 ·intro kl v s' J hv
  have hi:kl.length<cT x0:=by rw[←hls];exact(SJ.mp hv).1
  refine fC (hks _ hi) λz hz hz1 hz2 hz3=>?_
  refine fB (hvs _ _ hv) λp u hp e83=>?_;subst e83
  rw[hz3] at hp
  cases hp
  obtain⟨⟨pm,c',ctv,hf',hrec'⟩,_⟩:=hl.keep I rfl λb o n1 n2 q=>J.keep b o n1 n2 (hH b o q).2.1 (hH b o q).2.2
  rw[Int.zero_add]
  refine Sq (EO Ok L he hE (A:=A.in1.in1) R.in1.in1 hf' hrec' hcl J.inv hz (TP (SH hi hlen)) hz1 hz2) ?_ λ_ _ e=>e
  rintro w s'' ⟨hw,S,I''⟩
  show(∃m,s''.heap.get? (abd.objs.size+1)=_)/\_
  rw[←eL1]
  exact J.key hi (eT ka) (eT kc) nK0 hz3 hw S I''
 ·intro kl s' J hkl'
  refine⟨xA J.val hvs,λh2=>yA J.val (hkl'▸h2),λst' hp hs=>⟨rfl,?_⟩⟩
  have hI:=Cz hkl' (by rw[hkl,hls]) J.val hvs hp hs hrise
  rw[←eL1]
  generalize eE:(s'.heap.update L1 (S9 λ_=>#[])).update Ls (S9 λ_=>(ZZ st').map (·.2))=hE
  refine kS (J.done (eT la) (eT lc) (qH lL1) (eT ka) (eT kc) nL0 nK0 gLs hH eE) λh80 kp J5=>?_;obtain⟨m,g⟩:=h80
  exact H Ls _ m _ hlt g hI kp J5 J.os J.gens
theorem Bk {st2:St} {ci:Nat} {aaW:Sw}(aa1:Inv C σ st1 s)(Ia:Inv C (σ++[a]) st2 aaW)(e2:∀j,st2.look j=if j=st1.n then Si .hid else st1.look j)(haf:σ[m]? = Si af)(hac:σ[ci]? = Si ac)(hc4:4<=ci)(hm4:4<=m)
  (hlc:st1.look ci=Si (.cell (Si (.ref m)))) (hlm:st1.look m=Si (.list (xs.map V.int))) (kp:∀b o,b≠af->b≠ac->aaW.heap.get? b=Si o->s'.heap.get? b=Si o) (J:Inv C.bare [af,ac] (cL xs) s'):Inv C (σ++[a]) st2 s':=by
 have st2l:∀{i:Nat} {o:O},st1.look i=Si o->st2.look i=Si o:=λ{i o} q=>by rw[e2,SK (SP (aa1.lt q))];exact q
 have idx:∀{i:Nat} {b:Sx},σ[i]? = Si b->(σ++[a])[i]? = Si b:=λ{i b} e=>by rw[Tp (SJ.mp e).1];exact e
 refine Ia.reshow (X:=[af,ac]) (λb o nb q=>kp b o (λz=>nb (z▸.head _)) (λz=>nb (z▸.tail _ (.head _))) q) λb hb=>?_
 rcases SD.mp hb with rfl | hb
 ·obtain⟨_,q,us,mm,g,r⟩:=J.at_ 0 (.list (fE .int xs)) rfl
  cases q
  rw[eq] at r
  exact⟨m,_,hm4,idx haf,st2l hlm,(λq=>nomatch q),by show SV.isSome _=Sk;rw[g];rfl,us,mm,g,fb (eI r)⟩
 ·rw[Sn.mp hb]
  obtain⟨_,q,w,g,r⟩:=J.at_ 1 (.cell (Si (.ref 0))) rfl
  cases q
  cases r
  rename_i q
  cases q
  refine⟨ci,_,hc4,idx hac,st2l hlc,(λq=>nomatch q),?_,_,g,.ref (idx haf)⟩
  refine aE g λ_ g _=>?_
  show SV.isSome _=Sk
  rw[g];rfl
theorem xV (F:FrR C fx env fm σ s) {ci:Nat}(L:oZ lsc params x y)(hfr:fx.cn[c]? = Si x)(hci:fm.cel[c]? = Si ci):∃clos ac,YU lsc env=pure clos/\clos.lookup x=Si ac/\σ[ci]? = Si ac:=by
 obtain⟨clos,hcl,_,hclq⟩:=wT F L.sc (fr:=[c]) (q:=[ci]) (by rw[L.free];simp[hfr]) rfl (λi j e=>by
  induction i with
  | zero=>cases e;exact⟨ci,hci,rfl⟩
  | succ i=>cases e)
 obtain⟨a,n,a1,a2,a3⟩:=hclq 0 x (by rw[L.free];rfl)
 cases a1
 exact⟨clos,a,hcl,a2,a3⟩
theorem xH (Ok:C.Ok) {body:Expr}{e:CE} (L:oZ lsc params x y)(he:SE C.bare (aR lsc) d body e)
  (hE:∀(xs:Sj Int) (j:Nat) (z:Int) (K:KV),xs[j]? = Si z->j<=63->small z=Sk->aB (cT z)=Sk->K (.str (cw [32] (cT z))) (cL xs)=Sk->e ⟨[Si (.int j)],[1]⟩ (cL xs) K=Sk) (R:Rm (d+3) A)
  {st2:St} {w:Sw} {f r:Sx} {ci:Nat} (aa1:Inv C σ1 st1 aaV) (aaZ:Step [] σ s σ1 aaV) (Ia:Inv C (σ1++[a]) st2 w) (na:a∉σ1) (da:aaV.heap.get? a=none) (og:w.os=aaV.os/\w.gens=aaV.gens) (kp:∀b o,b∉σ1->aaV.heap.get? b=Si o->w.heap.get? b=Si o)
  (e2:∀j,st2.look j=if j=st1.n then Si .hid else st1.look j) (hac:σ1[ci]? = Si ac) (hc4:4<=ci) (hm4:4<=m) (hlc:st1.look ci=Si (.cell (Si (.ref m)))) (hlm:st1.look m=Si (.list (xs.map V.int))) 
  (hf:∃pm c' ctv,w.heap.get? f=Si (aaJ "<lambda>" qual params body lsc clos pm c' ctv)/\w.heap.CodeRec (.ref c') qual) (nf:f∉σ1) (hcl:clos.lookup x=Si ac) {x0:Int} {t u v:Tok} (hr:WQ w.heap r 0 x0 1 t u v) (hlen:cT x0<=63) (hsm:small x0=Sk)
 (hkl:ks.length=cT x0) (hks:∀i,i<cT x0->∃z,xs[i]? = Si z/\small z=Sk/\aB (cT z)=Sk/\ks[i]? = Si (cw [32] (cT z),(0:Int)+i)) (hrise:iI (dG ks [])=Sk) (dL:∀{p:Sx},@LT.lt Nat _ r p->s.heap.get? p=none) {k:KV}
  (h5:st2.push (.list ((dG ks []).map λx=>V.int x.2)) (λn st=>k (.ref n) st)=Sk):Ss C.M A (call (.builtin "sorted") [.ref r] [(TY "key",.ref f)]) (Out C [] σ s k) cM w:=by
 have st2l:∀{i:Nat} {o:O},st1.look i=Si o->st2.look i=Si o:=λ{i o} q=>by rw[e2,SK (SP (aa1.lt q))];exact q
 have idx:∀{i:Nat} {b:Sx},σ1[i]? = Si b->(σ1++[a])[i]? = Si b:=λ{i b} e=>by rw[Tp (SJ.mp e).1];exact e
 obtain⟨af,haf,-⟩:=aa1.at_ m _ hlm
 have maf:af∈σ1:=Su haf
 have mac:ac∈σ1:=Su hac
 have Ib:Inv C.bare [af,ac] (cL xs) w:=by
  refine DM Ia (Un _ maf) (Un _ mac) (λq=>?_) ?_ ?_
  ·have:=aa1.inj haf (q▸hac)
   subst this
   rw[hlm] at hlc
   cases hlc
  ·obtain⟨b,q,o⟩:=Ia.at_ m _ (st2l hlm)
   cases (idx haf).symm.trans q
   exact o
  ·obtain⟨b,q,u,g,r⟩:=Ia.at_ ci _ (st2l hlc)
   cases (idx hac).symm.trans q
   cases r
   rename_i q
   cases (idx haf).symm.trans q
   exact g
 have nn:∀{p},p∈σ1->f≠p:=λm q=>nf (q▸m)
 refine vL Ok L he hE R ⟨hf,nn maf,nn mac⟩ hcl Ib hr hlen hsm hkl hks hrise λLs us n s' hlt g hI kq J os gn=>?_
 have nL:Ls∉σ1++[a]:=λmm=>by
  obtain⟨o,q⟩:=S7.mp (Ia.new _ mm).2
  exact Tc (hlt _ _ q) (Tq _)
 have nL0:C.aa8.get? Ls=none:=by
  cases q:C.aa8.get? Ls with
  | none=>rfl
  | some o=>exact Tc (hlt _ _ (Ia.base _ _ q)) (Tq _)
 refine yD (Bk aa1 Ia e2 haf hac hc4 hm4 hlc hlm kq J) (aaZ.trans ⟨⟨[a],rfl,λb mb=>by rw[Sn.mp mb];exact⟨na,.inl da⟩⟩,λb o nb _ q=>kq b o (λz=>nb (z▸maf)) (λz=>nb (z▸mac)) (kp b o nb q),os.trans og.1,λq=>gn (og.2▸q)⟩) nL (dL (hlt _ _ hr)) nL0 g hI ?_
 rw[Ud]
 exact h5
theorem VRs.oneInt {i:Int}{us:Sj Sr}(r:VRs σ h [.int i] us):∃t,us=[.int i t]:=by
 exact VRs.cons_e r λ_ _ a b=>VRs.nil_e b (VR.int_e a λt=>⟨t,rfl⟩)
theorem EN (Ok:C.Ok)(B:mH C){t:lX}(kt:jm C t)(hl:t.lam=Sk)(hcode:env.code=.ref t.code) {body:Expr}{e:CE} (hn:SE C fx (d+3) en cn)(L:oZ lsc params x y)(he:SE C.bare (aR lsc) d body e)
  (hE:∀(xs:Sj Int) (j:Nat) (z:Int) (K:KV),xs[j]? = Si z->j<=63->small z=Sk->aB (cT z)=Sk->K (.str (cw [32] (cT z))) (cL xs)=Sk->e ⟨[Si (.int j)],[1]⟩ (cL xs) K=Sk)
  (hok:fx.ok=Sk) (x1:("sorted":Str)∈fx.gn) (x2:("range":Str)∈fx.gn) (g1:GB C "sorted" (.builtin "sorted")) (g2:GB C "range" (.type "range")) (p1:aL [en]) {kp lpos:Pos} (hpos:lpos=t.pos) (hq:env.qual ++ "<lambda>"=t.q) (hfr:fx.cn[c]? = Si x)
  {k:KV} (R:Rm (d+3) A) (E:ba fx env) (I:Inv C σ st s) (F:FrR C fx env fm σ s) (h:pn cn c fm st k=Sk) :
  fZ C A (eval (.Call (.Name "sorted" z0) [.Call (.Name "range" z1) [en] [] z2] [⟨Si "key",.Lambda params body lsc lpos,kp⟩] z3) env) σ s k:=by
 refine TB (bT Ok hok x1 g1 E I ?_)
 refine callWith_kw ?_
 refine Va ?_
 refine TB (bT Ok hok x2 g2 E I ?_)
 rw[yM] at h
 refine bK (cs:=ae cn av) (k:=λvs st=>nv vs λx=>aG x λx=>nj k fm c x st) Ok bL p1 (cP hn ag (λenv=>by obtain⟨e0,rest,e1,he⟩:=p1.2.resolve_left (λq=>nomatch q);cases e1;exact he env)) R E I F h λσ1 l st1 us aaV aaZ aa1 aa4 _ aaX=>?_
 refine dY aaX λv e81 aaX=>?_;subst e81
 refine aO aaX λx0 e81 aaX=>?_;subst e81
 obtain⟨tk0,rfl⟩:=aa4.oneInt
 refine zO aaX λci m xs ks st2 hlen hsm hci hc4 hlc hm4 hlm hkl hks hrise e1 e2 h5=>?_
 refine aad (Yw ?_)
 refine gw (xV (aaZ.fr0 F) L hfr hci) λclos ac hcl hclx hac=>?_
 have nr:aaV.heap.objs.size∉σ1:=λm=>Tq _ (aa1.size m)
 generalize abm:({ aaV with heap:=aaV.heap.push { cls:=.type "range",data:=.fields #[.int 0 aaV.toks,.int x0 tk0,.int 1 (aaV.toks+1)] },toks:=aaV.toks+1+1 }:Sw)=aaW
 have hr:WQ aaW.heap aaV.heap.objs.size 0 x0 1 aaV.toks tk0 (aaV.toks+1):=by rw[←abm];exact Heap.get?_push_size _ rfl
 obtain⟨ab8,os2,gn2⟩:(∀b o,aaV.heap.get? b=Si o->aaW.heap.get? b=Si o)/\aaW.os=aaV.os/\aaW.gens=aaV.gens:=by rw[←abm];exact⟨λb o e=>Heap.get?_push_of_some _ e,rfl,rfl⟩
 clear abm
 have aa9:Inv C σ1 st1 aaW:=aa1.grow ab8
 refine kws_cons (Cq Ok B kt hl hcode E.glob aa9 nr (by rw[hr];rfl) (bD aa1 (SW _)) (λvs n=>cE hr rfl (by decide) vs n) hpos hq (L.dflt env) hcl e1 e2 λf a c' ctv pm h' tk na hda Ia hf hrec hfs hkeep=>?_)
 refine kws_nil ?_
 have dL:∀{p:Sx},@LT.lt Nat _ aaV.heap.objs.size p->s.heap.get? p=none:=λl=>gj aaZ aa1 (bE (TP l))
 have tabσ:t.tab∈σ1:=by obtain⟨j,hj,_⟩:=aa1.tabs t kt.mem;exact Su hj
 have da:aaV.heap.get? a=none:=hda.elim (λq=>q▸bE (SW _)) λq=>by
  cases z:aaV.heap.get? a with
  | none=>rfl
  | some o=>rw[ab8 _ _ z] at q;exact nomatch q
 have hr3:WQ h' aaV.heap.objs.size 0 x0 1 aaV.toks tk0 (aaV.toks+1):=hkeep _ _ (λq=>nr (q▸tabσ)) hr
 have kp:∀b o,b∉σ1->aaV.heap.get? b=Si o->h'.get? b=Si o:=λb o n q=>hkeep b o (λz=>n (z▸tabσ)) (ab8 b o q)
 exact xH Ok L he hE R aa1 aaZ Ia na da ⟨os2,gn2⟩ kp e2 hac hc4 hm4 hlc hlm ⟨pm,c',ctv,hf,hrec⟩ (λq=>Tq _ (Tn hfs (aa9.size q))) hclx hr3 hlen hsm hkl hks hrise dL h5
end
noncomputable section
abbrev OV:=SV V
abbrev SB:=St->Sm
noncomputable abbrev no:OV:=none
noncomputable abbrev sm (v:V):OV:=Si v
def fD (c:Nat)(st:St)(k:V->Sm):Sm:=st.get c λo=>eo o λw=>cU w k
def kO (c:Nat)(v:V)(st:St)(k:St->Sm):Sm:=st.get c λo=>eo o λ_=>st.set c (.cell (Si v)) k
def uV (x y v:V)(st:St)(k:St->Sm):Sm:=fi x st λn c d fs l=>bB v λm=>bh st m λq=>aD (aB (aK l)) (aD (aB (aK q))
 (cr y (st.set n (.lsub c d fs q) k) (λ_=>dV) (λi=>st.set n (.lsub c d fs (bp (fg l (eW i (aK l))) q)) k) (λ_=>dV) (λ_=>dV) (λ_=>dV)) dV) dV
def xE (x:V)(st:St)(k:It->St->Sm):Sm:=cr x dV (λ_=>dV) (λ_=>dV) (λs=>aD (fT s) (k (.str s) st) dV) (λn=>bh st n λ_=>k (.seq n 0) st) (λl=>k (.tup l) st)
def OB (v:V)(k:Sm):Sm:=cr v k (λ_=>dV) (λ_=>dV) (λ_=>dV) (λ_=>dV) (λ_=>dV)
def dR (c:Nat)(x:V)(st:St)(k:Sm):Sm:=bB x λn=>St.get st n λo=>pi o λd _ _=>aD (SN d c) k dV
def iC (m:Nat)(v:V)(st:St)(k:Sj V->Sm):Sm:=cr v dV (λ_=>dV) (λ_=>dV) (λ_=>dV) (λn=>bh st n λl=>aD (SN (aK l) m) (k l) dV) (λl=>aD (SN (aK l) m) (k l) dV)
def L9 (k:KV)(vs:Sj V)(st:St):Sm:=aD (aB (aK vs)) (St.push st (.list vs) λn st=>k (.ref n) st) dV
def K0 (k:KV):Fl->Fm->St->Sm:=λf _ st=>@Fl.rec (λ_=>Sm) (k .none st) dV dV (λv=>k v st) f
def RA (l:Sj (SV V))(k:V->Sj (SV V)->Sm)(z:Sm):Sm:=@S5 (SV V) (λ_=>Sm) z (λo r _=>@Z1 V (λ_=>Sm) z (λv=>k v r) o) l
def RL (l:Sj (SV V))(k:SV V->Sj (SV V)->Sm)(z:Sm):Sm:=@S5 (SV V) (λ_=>Sm) z (λo r _=>k o r) l
def RT (l:Sj (SV V))(k:Sj (SV V)->Sm)(z:Sm):Sm:=@S5 (SV V) (λ_=>Sm) z (λo r _=>@Z1 V (λ_=>Sm) (k r) (λ_=>z) o) l
def RV (l:Sj (SV V))(k z:Sm):Sm:=@S5 (SV V) (λ_=>Sm) k (λ_ _ _=>z) l
def Sa (l:Sj Nat)(k:Nat->Sj Nat->Sm)(z:Sm):Sm:=@S5 Nat (λ_=>Sm) z (λo r _=>k o r) l
def R8 (l:Sj Nat)(k z:Sm):Sm:=@S5 Nat (λ_=>Sm) k (λ_ _ _=>z) l
inductive Fs where
 | e (m:Nat) | v (s:Fs) | o (s:Fs) | n (s:Fs)
noncomputable abbrev ns (j:Nat)(s:Fs):Fs:=@Tf (λ_=>Fs) s (λ_ ih=>.n ih) j
abbrev MU (m:Nat)(β:Type):Type:=@Tf (λ_=>Type) β (λ_ ih=>Nat->ih) m
abbrev Fs.Fn (s:Fs)(β:Type):Type:=@Fs.rec (λ_=>Type) (λm=>MU m β) (λ_ ih=>V->ih) (λ_ ih=>OV->ih) (λ_ ih=>ih) s
abbrev Fs.Fo (s:Fs)(β:Type):Type:=@Fs.rec (λ_=>Type) (λ_=>β) (λ_ ih=>V->ih) (λ_ ih=>OV->ih) (λ_ ih=>ih) s
section
variable {β:Type}
noncomputable abbrev Ro (m:Nat):(Sj Nat->β)->MU m β:=@Tf (λm=>(Sj Nat->β)->MU m β) (λg=>g []) (λ_ ih g c=>ih λl=>g (c::l)) m
abbrev Fs.to (s:Fs):(Sj OV->Sj Nat->β)->s.Fn β:=@Fs.rec (λs=>(Sj OV->Sj Nat->β)->s.Fn β) (λm g=>Ro m (g [])) (λ_ ih g v=>ih λl=>g (Si v::l)) (λ_ ih g v=>ih λl=>g (v::l)) (λ_ ih g=>ih λl=>g (none::l)) s
abbrev JQ (m:Nat):Sj Nat->MU m β->(β->Sm)->Sm->Sm:=@Tf (λm=>Sj Nat->MU m β->(β->Sm)->Sm->Sm) (λc f k z=>R8 c (k f) z) (λ_ ih c f k z=>Sa c (λx r=>ih r (f x) k z) z) m
abbrev Fs.sel (s:Fs):Sj OV->Sj Nat->s.Fn β->(β->Sm)->Sm->Sm:=@Fs.rec (λs=>Sj OV->Sj Nat->s.Fn β->(β->Sm)->Sm->Sm) (λm l c f k z=>RV l (JQ m c f k z) z)
 (λ_ ih l c f k z=>RA l (λv r=>ih r c (f v) k z) z) (λ_ ih l c f k z=>RL l (λv r=>ih r c (f v) k z) z) (λ_ ih l c f k z=>RT l (λr=>ih r c f k z) z) s
abbrev Rx (l:Sj OV):OV:=@S5 OV (λ_=>OV) none (λx _ _=>x) l
abbrev Qt (l:Sj OV):Sj OV:=@S5 OV (λ_=>Sj OV) [] (λ_ r _=>r) l
abbrev Fs.get (s:Fs):Sj OV->s.Fo β->β:=@Fs.rec (λs=>Sj OV->s.Fo β->β) (λ_ _ f=>f) (λ_ ih l f=>ih (Qt l) (f (@Z1 V (λ_=>V) .none (λv=>v) (Rx l)))) (λ_ ih l f=>ih (Qt l) (f (Rx l))) (λ_ ih l f=>ih (Qt l) f) s
abbrev Fs.cst (s:Fs)(x:β):s.Fo β:=@Fs.rec (λs=>s.Fo β) (λ_=>x) (λ_ ih _=>ih) (λ_ ih _=>ih) (λ_ ih=>ih) s
theorem EJ {g:Sj Nat->β}{k:β->Sm}{z:Sm}:∀{c:Sj Nat},k (g c)=z->JQ m c (Ro m g) k z=z:=by
 induction m generalizing g with
 | zero=>intro c h;match c with
  | []=>exact h
  | _::_=>rfl
 | succ m ih=>intro c h;match c with
  | []=>rfl
  | x::r=>exact ih (g:=λl=>g (x::l)) h
theorem Fs.sel_to {s:Fs}{g:Sj OV->Sj Nat->β}{c:Sj Nat}{k:β->Sm}{z:Sm}:∀{l:Sj OV},k (g l c)=z->s.sel l c (s.to g) k z=z:=by
 induction s generalizing g with
 | e m=>intro l h;match l with
  | []=>exact EJ (g:=g []) h
  | _::_=>rfl
 | v s ih=>intro l h;match l with
  | []=>rfl
  | none::_=>rfl
  | some x::r=>exact ih (g:=λl=>g (Si x::l)) h
 | o s ih=>intro l h;match l with
  | []=>rfl
  | x::r=>exact ih (g:=λl=>g (x::l)) h
 | n s ih=>intro l h;match l with
  | []=>rfl
  | some _::_=>rfl
  | none::r=>exact ih (g:=λl=>g (none::l)) h
theorem Fs.get_cst {s:Fs}{x:β}:∀{l:Sj OV},s.get l (s.cst x)=x:=by
 induction s with
 | e m=>intro l;rfl
 | v s ih=>intro l;exact ih
 | o s ih=>intro l;exact ih
 | n s ih=>intro l;exact ih
end
abbrev KF:=Fl->Fm->SB
abbrev HP (s:Fs)(L:CF)(lp:KF->s.Fn (It->SB)):CF:=λfm it st κ=>s.sel fm.loc fm.cel (lp κ) (λB=>B it st) (L fm it st κ)
noncomputable abbrev kJ (i:CI)(F:CF):CS:=λfm st κ=>i fm st λit st=>F fm it st κ
abbrev Ql (t:eN)(a b:CS)(G:CF):CF:=λfm it st κ=>aY st it (b fm st κ) λy it=>t fm y st λfm st=>a fm st λf fm st=>@Fl.rec (λ_=>Sm) (G fm it st κ) (κ .nxt fm st) (G fm it st κ) (λv=>κ (.ret v) fm st) f
theorem kv {t:eN}{i:CI}{a b:CS}(s:Fs)(lp:Nat->KF->s.Fn (It->SB))(stp:KF->s.Fn (It->SB)->s.Fn (It->SB))(h0:∀κ,lp 0 κ=s.to λ_ _ _ _=>dV)(h1:∀n κ,lp (n+1) κ=stp κ (lp n κ))
  (hs:∀G κ,(s.to λl c it st=>Ql t a b G ⟨l,c⟩ it st κ)=stp κ (s.to λl c it st=>G ⟨l,c⟩ it st κ)):iT t i a b=kJ i (HP s (dP t a b 200) (lp 200)):=by
 have H:∀n κ,(s.to λl c it st=>dP t a b n ⟨l,c⟩ it st κ)=lp n κ:=λn=>by
  induction n with
  | zero=>intro κ;exact(h0 κ).symm
  | succ n ih=>intro κ;exact(hs (dP t a b n) κ).trans ((SU (stp κ) (ih κ)).trans (h1 n κ).symm)
 refine SU (kJ i) (funext λfm=>funext λit=>funext λst=>funext λκ=>?_)
 show _=s.sel fm.loc fm.cel (lp 200 κ) (λB=>B it st) _
 rw[←H 200 κ]
 exact(Fs.sel_to (g:=λl c it st=>dP t a b 200 ⟨l,c⟩ it st κ) (k:=λB=>B it st) rfl).symm
abbrev On (s:Fs)(L:CS)(lp:KF->s.Fn SB):CS:=λfm st κ=>s.sel fm.loc fm.cel (lp κ) (λB=>B st) (L fm st κ)
abbrev PT (c:CT)(a b:CS)(G:CS):CS:=λfm st κ=>c fm st λx st=>aD x (a fm st λf fm st=>@Fl.rec (λ_=>Sm) (G fm st κ) (κ .nxt fm st) (G fm st κ) (λv=>κ (.ret v) fm st) f) (b fm st κ)
theorem vK {c:CT}{a b:CS}(s:Fs)(lp:Nat->KF->s.Fn SB)(stp:KF->s.Fn SB->s.Fn SB)(h0:∀κ,lp 0 κ=s.to λ_ _ _=>dV)(h1:∀n κ,lp (n+1) κ=stp κ (lp n κ))
  (hs:∀G κ,(s.to λl q st=>PT c a b G ⟨l,q⟩ st κ)=stp κ (s.to λl q st=>G ⟨l,q⟩ st κ)):AC c a b=On s (kT c a b 200) (lp 200):=by
 have H:∀n κ,(s.to λl q st=>kT c a b n ⟨l,q⟩ st κ)=lp n κ:=λn=>by
  induction n with
  | zero=>intro κ;exact(h0 κ).symm
  | succ n ih=>intro κ;exact(hs (kT c a b n) κ).trans ((SU (stp κ) (ih κ)).trans (h1 n κ).symm)
 refine funext λfm=>funext λst=>funext λκ=>?_
 show _=s.sel fm.loc fm.cel (lp 200 κ) (λB=>B st) _
 rw[←H 200 κ]
 exact(Fs.sel_to (g:=λl q st=>kT c a b 200 ⟨l,q⟩ st κ) (k:=λB=>B st) rfl).symm
abbrev Fs.kk (s:Fs)(k:Sj V->s.Fo SB):Sj V->Fm->SB:=λvs fm st=>s.get fm.loc (k vs) st
abbrev QJ (t:eN)(c:CT)(b:CB)(G:CC):CC:=λfm it st K=>aY st it (K [] fm st) λy it=>t fm y st λfm st=>c fm st λx st=>aD x (b fm st λvs fm st=>G fm it st λus fm st=>K (bp vs us) fm st) (G fm it st K)
abbrev eA (i:CI)(nl own:Nat)(fr:Sj Nat)(s:Fs)(L:CC)(lp:s.Fn (It->St->(Sj V->s.Fo SB)->Sm)):CE:=λfm st k=>xD fm.cel fr λq=>i fm st λit st=>bX own st λo st=>
 s.sel (cp nl) (bp o q) lp (λB=>B it st λvs=>s.cst (L9 k vs)) (L ⟨cp nl,bp o q⟩ it st λvs _ st=>L9 k vs st)
theorem cO {i:CI}{own:Nat}{fr:Sj Nat}{t:eN}{c:CT}{b:CB}(s:Fs)(lp:Nat->s.Fn (It->St->(Sj V->s.Fo SB)->Sm))(stp:s.Fn (It->St->(Sj V->s.Fo SB)->Sm)->s.Fn (It->St->(Sj V->s.Fo SB)->Sm))
  (h0:lp 0=s.to λ_ _ _ _ _=>dV) (h1:∀n,lp (n+1)=stp (lp n)) (hs:∀G,(s.to λl q it st k=>QJ t c b G ⟨l,q⟩ it st (s.kk k))=stp (s.to λl q it st k=>G ⟨l,q⟩ it st (s.kk k))) :
  cF i nl own fr t c b=eA i nl own fr s (bw t c b 200) (lp 200):=by
 have H:∀n,(s.to λl q it st k=>bw t c b n ⟨l,q⟩ it st (s.kk k))=lp n:=λn=>by
  induction n with
  | zero=>exact h0.symm
  | succ n ih=>exact(hs (bw t c b n)).trans ((SU stp ih).trans (h1 n).symm)
 refine funext λfm=>funext λst=>funext λk=>SU (xD fm.cel fr) (funext λq=>SU (i fm st) (funext λit=>funext λst=>SU (bX own st) (funext λo=>funext λst=>?_)))
 show _=s.sel (cp nl) (bp o q) (lp 200) _ _
 rw[←H 200]
 refine(Fs.sel_to ?_).symm
 exact SU (bw t c b 200 ⟨cp nl,bp o q⟩ it st) (funext λvs=>funext λfm=>funext λst=>congrFun Fs.get_cst st)
section
variable {ps:List (Bool×Nat)}{nl nc:Nat}{b:CS}{p q r s t:Bool×Nat}
theorem Bt {g:V->St->KV->Sm}(h:∀a st k,bk [p] nl nc b [a] st k=g a st k):bk [p] nl nc b=λvs st k=>dc vs λa vs=>fX vs (g a st k):=funext λvs=>funext λst=>funext λk=>match vs with
 | []=>rfl
 | [a]=>h a st k
 | _::_::_=>rfl
theorem np {g:V->V->St->KV->Sm}(h:∀a b' st k,bk [p,q] nl nc b [a,b'] st k=g a b' st k):bk [p,q] nl nc b=λvs st k=>dc vs λa vs=>dc vs λb vs=>fX vs (g a b st k):=funext λvs=>funext λst=>funext λk=>match vs with
 | []=>rfl
 | [_]=>rfl
 | [_,_]=>h _ _ st k
 | _::_::_::_=>rfl
theorem Ke {g:V->V->V->St->KV->Sm}(h:∀a b' c st k,bk [p,q,r] nl nc b [a,b',c] st k=g a b' c st k):bk [p,q,r] nl nc b=λvs st k=>dc vs λa vs=>dc vs λb vs=>dc vs λc vs=>fX vs (g a b c st k):=funext λvs=>funext λst=>funext λk=>match vs with
 | []=>rfl
 | [_]=>rfl
 | [_,_]=>rfl
 | [_,_,_]=>h _ _ _ st k
 | _::_::_::_::_=>rfl
end
end
noncomputable section
variable (pS pR pN:Nat)(a b c d e g h i j l m p s t u A B C D E F H I L M N P Q S T:V)(oa ob oc od oe og oh oi oj ol om op os ot ou oA oB oC oD oE oF oH oI oL oM oN oP oQ oS oT:OV)(A0 A1 A2 A3 A4:V)(C0 C1 C2 C3 C4 C5:Nat)(it:It)(st:St)(k:KV)(R:Fm->SB)(κ:Fl->Fm->SB)
def O9:CS:=(aV (bv (aa dV 0) 3) (fM 2 (bg (ay dV 1) (bg (ay dV 2) eS))))
def QW:CS:=(dq (gB jD (ae (aA cf (gB dU (ae (aa dV 1) av)) (ao (.int 1))) (ae (aa dV 2) av))))
noncomputable def OS:CS:=aH
def P7:CS:=aq QW OS
def PC:CS:=aq O9 P7
def p1:CS:=PC
def Q1:FN:=bk [(dV,0)] 3 0 p1
noncomputable def Pj (a b c:V)(st:St)(k:KV):=k .none st
def O8 (a b c:V)(st:St)(kk:SB)(k:KV):=(dU [b] st λv1 s2=>(cf v1 (.int 1) s2 λv3 s4=>(jD [v3,c] s4 λv5 s6=>(k v5 s6))))
def Qj (a b c:V)(st:St)(k:KV):=O8 a b c st (λ st=>Pj a b c st k) k
def QQ (a:V)(st:St)(kk:V->V->SB)(k:KV):=(getAttr a 3 st λv1 s2=>(iC 2 v1 s2 λl3=>(dc l3 λv4 l5=>(dc l5 λv6 l7=>(fX l7 (kk v4 v6 s2))))))
def QE (a:V)(st:St)(k:KV):=QQ a st (λb c st=>Qj a b c st k) k
def g1 (A0:V)(st:St)(k:KV):Sm:=(QE A0 st k)
def H1:FN:=λvs st k=>(dc vs λA0 vs=>(fX vs (g1 A0 st k)))
theorem Js:Q1=H1:=Bt λ_ _ _=>by kernel_rfl
def wk (a b c d:V)(kk:V->OV->SB)(ih:V->OV->It->SB)(e:V)(og:OV)(it:It)(st:St):Sm:=aY st it (kk e og st) λy1 it2=>(@dy.rec (λ_=>Sm) (λv3=>(Cm v3 b st λv4 s5=>(cZ c v3 s5 λv6 s7=>(bJ v4 v6 s7 λv8 s9=>(aQ e v8 s9 λv10 s11=>(ih v10 (Si v3) it2 s11)))))) (λ_ _=>dV) y1)
def Cu (a b c d:V)(kk:V->OV->SB)(n:Nat):V->OV->It->SB:=@Tf (λ_=>_) (λ_ _ _ _=>dV) (λ_ ih=>wk a b c d kk ih) n
def xk:CS:=(aq (aV (aA aQ (aa dV 4) (aA bJ (aA Cm (aa dV 5) (aa dV 1)) (dw (aa dV 2) (aa dV 5)))) (ay dV 4)) aH)
def Fw (n:Nat)(κ:KF):Fs.Fn (.v (.v (.v (.v (.v (.o (.e 0))))))) (It->SB):=λa b c d e og=>Cu a b c d (λe og st=>κ .nxt ⟨[sm a,sm b,sm c,sm d,sm e,og],[]⟩ st) n e og
def KG:CS:=kJ (dH (aa dV 1) (gB dU (ae (aa dV 2) av))) (HP (.v (.v (.v (.v (.v (.o (.e 0))))))) (dP (em (ay dV 5)) xk aH 200) (Fw 200))
theorem EG:(iT (em (ay dV 5)) (dH (aa dV 1) (gB dU (ae (aa dV 2) av))) xk aH:CS)=KG:=kv (.v (.v (.v (.v (.v (.o (.e 0))))))) Fw (λκ ih a b c d e og=>wk a b c d (λe og st=>κ .nxt ⟨[sm a,sm b,sm c,sm d,sm e,og],[]⟩ st) (λe og=>ih a b c d e og) e og) (λ_=>rfl) (λ_ _=>rfl) (λ_ _=>by kernel_rfl)
def OF:CS:=(aV (bv (aa dV 0) 3) (fM 2 (bg (ay dV 2) (bg (ay dV 3) eS))))
def P2:CS:=(aV (ao (.int 0)) (ay dV 4))
def PP:CS:=KG
def Rf:CS:=(dq (aA aQ (aa dV 3) (aA bJ (aa dV 1) (aA aQ (aa dV 4) (bv (aa dV 0) 2)))))
noncomputable def P3:CS:=aH
def O1:CS:=aq Rf P3
def Pk:CS:=aq PP O1
def QG:CS:=aq P2 Pk
def QR:CS:=aq OF QG
def p2:CS:=QR
def Q2:FN:=bk [(dV,0),(dV,1)] 6 0 p2
noncomputable def Py (a b c d e:V)(og:OV)(st:St)(k:KV):=k .none st
def Pa (a b c d e:V)(og:OV)(st:St)(kk:SB)(k:KV):=(getAttr a 2 st λv1 s2=>(aQ e v1 s2 λv3 s4=>(bJ b v3 s4 λv5 s6=>(aQ d v5 s6 λv7 s8=>(k v7 s8)))))
def Q8 (a b c d e:V)(og:OV)(st:St)(k:KV):=Pa a b c d e og st (λ st=>Py a b c d e og st k) k
def P1 (a b c d e:V)(st:St)(kk:V->OV->SB)(k:KV):=(dU [c] st λv6 s7=>(aG b λi8=>aG v6 λi9=>eC i8 i9 1 s7 λit4 s5=>(Cu a b c d (λx2 o3 s1=>(kk x2 o3 s1))  200 e none it4 s5)))
def Po (a b c d e:V)(st:St)(k:KV):=P1 a b c d e st (λe og st=>Q8 a b c d e og st k) k
noncomputable def Qd (a b c d:V)(st:St)(kk:V->SB)(k:KV):=(kk (.int 0) st)
def O3 (a b c d:V)(st:St)(k:KV):=Qd a b c d st (λe st=>Po a b c d e st k) k
def OX (a b:V)(st:St)(kk:V->V->SB)(k:KV):=(getAttr a 3 st λv1 s2=>(iC 2 v1 s2 λl3=>(dc l3 λv4 l5=>(dc l5 λv6 l7=>(fX l7 (kk v4 v6 s2))))))
def OZ (a b:V)(st:St)(k:KV):=OX a b st (λc d st=>O3 a b c d st k) k
def g2 (A0 A1:V)(st:St)(k:KV):Sm:=(OZ A0 A1 st k)
def H2:FN:=λvs st k=>(dc vs λA0 vs=>(dc vs λA1 vs=>(fX vs (g2 A0 A1 st k))))
theorem Mi:Q2=H2:=np λ_ _ _ _=>by kernel_rfl
end
noncomputable section
variable (pS pR pN:Nat)(a b c d e g h i j l m p s t u A B C D E F H I L M N P Q S T:V)(oa ob oc od oe og oh oi oj ol om op os ot ou oA oB oC oD oE oF oH oI oL oM oN oP oQ oS oT:OV)(A0 A1 A2 A3 A4:V)(C0 C1 C2 C3 C4 C5:Nat)(it:It)(st:St)(k:KV)(R:Fm->SB)(κ:Fl->Fm->SB)
def wD (a b d:V)(kk:OV->SB)(ih:OV->It->SB)(oe:OV)(it:It)(st:St):Sm:=aY st it (kk oe st) λy1 it2=>(@dy.rec (λ_=>Sm) (λv3=>(dR 0 a st (H2 [a,v3] st λv7 s8=>(dR 0 b s8 (H2 [b,v3] s8 λv12 s13=>(kL v7 v12 s13 λCR=>(aD CR (bB d λn15=>St.get s13 n15 λo16=>gQ o16 λ_=>(dR 0 a s13 (H2 [a,v3] s13 λv22 s23=>(dR 0 b s23 (H2 [b,v3] s23 λv27 s28=>(km d [(.tup [v3,v22,v27])] s28 λv17 s18=>(OB v17 (ih (Si v3) it2 s18)))))))) (ih (Si v3) it2 s13)))))))) (λ_ _=>dV) y1)
def B6 (a b d:V)(kk:OV->SB)(n:Nat):OV->It->SB:=@Tf (λ_=>_) (λ_ _ _=>dV) (λ_ ih=>wD a b d kk ih) n
def vR:CS:=(aq (hW (bR kL (bz 0 H2 (aa dV 0) (ae (aa dV 4) av)) (bz 0 H2 (aa dV 1) (ae (aa dV 4) av))) (aq (dI (mZ km (aa dV 3) (ae (cN (ae (aa dV 4) (ae (bz 0 H2 (aa dV 0) (ae (aa dV 4) av)) (ae (bz 0 H2 (aa dV 1) (ae (aa dV 4) av)) av)))) av))) aH) aH) aH)
def FY (n:Nat)(κ:KF):Fs.Fn (.v (.v (.v (.v (.o (.e 0)))))) (It->SB):=λa b c d oe=>B6 a b d (λoe st=>κ .nxt ⟨[sm a,sm b,sm c,sm d,oe],[]⟩ st) n oe
def Lr:CS:=kJ (dH (ao (.int 1)) (aA aQ (aa dV 2) (ao (.int 1)))) (HP (.v (.v (.v (.v (.o (.e 0)))))) (dP (em (ay dV 4)) vR aH 200) (FY 200))
theorem DJ:(iT (em (ay dV 4)) (dH (ao (.int 1)) (aA aQ (aa dV 2) (ao (.int 1)))) vR aH:CS)=Lr:=kv (.v (.v (.v (.v (.o (.e 0)))))) FY (λκ ih a b c d oe=>wD a b d (λoe st=>κ .nxt ⟨[sm a,sm b,sm c,sm d,oe],[]⟩ st) (λoe=>ih a b c d oe) oe) (λ_=>rfl) (λ_ _=>rfl) (λ_ _=>by kernel_rfl)
def O7:CS:=(aV (aA aQ (gB jD (ae (bz 0 H1 (aa dV 0) av) (ae (bz 0 H1 (aa dV 1) av) av))) (ao (.int 1))) (ay dV 2))
def Rb:CS:=(aV (d0 av) (ay dV 3))
def Qe:CS:=Lr
def OL:CS:=(dq (aa dV 3))
noncomputable def Pq:CS:=aH
def Q7:CS:=aq OL Pq
def O4:CS:=aq Qe Q7
def PD:CS:=aq Rb O4
def Pr:CS:=aq O7 PD
def p3:CS:=Pr
def Q3:FN:=bk [(dV,0),(dV,1)] 5 0 p3
noncomputable def Ph  (st:St)(k:KV):=k .none st
noncomputable def P6 (d:V)(st:St)(kk:SB)(k:KV):=(k d st)
noncomputable def QZ (d:V)(st:St)(k:KV):=P6 d st (λ st=>Ph  st k) k
def QX (a b c d:V)(st:St)(kk:OV->SB)(k:KV):=(aQ c (.int 1) st λv5 s6=>(aG (.int 1) λi7=>aG v5 λi8=>eC i7 i8 1 s6 λit3 s4=>(B6 a b d (λo2 s1=>(kk o2 s1))  200 none it3 s4)))
def Rd (a b c d:V)(st:St)(k:KV):=QX a b c d st (λoe st=>QZ d st k) k
def QC  (st:St)(kk:V->SB)(k:KV):=(St.push st (.list []) λn1 s2=>((λ(x3:V)=>(kk x3 s2)) (.ref n1)))
def Pb (a b c:V)(st:St)(k:KV):=QC  st (λd st=>Rd a b c d st k) k
def QV (a b:V)(st:St)(kk:V->SB)(k:KV):=(dR 0 a st (H1 [a] st λv4 s5=>(dR 0 b s5 (H1 [b] s5 λv9 s10=>(jD [v4,v9] s10 λv11 s12=>(aQ v11 (.int 1) s12 λv13 s14=>(kk v13 s14)))))))
def Qy (a b:V)(st:St)(k:KV):=QV a b st (λc st=>Pb a b c st k) k
def g3 (A0 A1:V)(st:St)(k:KV):Sm:=(Qy A0 A1 st k)
def H3:FN:=λvs st k=>(dc vs λA0 vs=>(dc vs λA1 vs=>(fX vs (g3 A0 A1 st k))))
theorem Kh:Q3=H3:=np λ_ _ _ _=>by kernel_rfl
def wO (a b:V)(kk:OV->SB)(kr:V->OV->SB)(ih:OV->It->SB)(od:OV)(it:It)(st:St):Sm:=aY st it (kk od st) λy1 it2=>(@dy.rec (λ_=>Sm) (λv3=>(dR 0 a st (H2 [a,v3] st λv7 s8=>(dR 0 b s8 (H2 [b,v3] s8 λv12 s13=>(uG v7 v12 s13 λCR=>(aD CR (kr (.bool dV) (Si v3) s13) (ih (Si v3) it2 s13)))))))) (λ_ _=>dV) y1)
def AS (a b:V)(kk:OV->SB)(kr:V->OV->SB)(n:Nat):OV->It->SB:=@Tf (λ_=>_) (λ_ _ _=>dV) (λ_ ih=>wO a b kk kr ih) n
def xi:CS:=(aq (hW (bR uG (bz 0 H2 (aa dV 0) (ae (aa dV 3) av)) (bz 0 H2 (aa dV 1) (ae (aa dV 3) av))) (aq (dq (ao (.bool dV))) aH) aH) aH)
def Gs (n:Nat)(κ:KF):Fs.Fn (.v (.v (.v (.o (.e 0))))) (It->SB):=λa b c od=>AS a b (λod st=>κ .nxt ⟨[sm a,sm b,sm c,od],[]⟩ st) (λv od st=>κ (.ret v) ⟨[sm a,sm b,sm c,od],[]⟩ st) n od
def MK:CS:=kJ (dH (ao (.int 2)) (aA aQ (aa dV 2) (ao (.int 1)))) (HP (.v (.v (.v (.o (.e 0))))) (dP (em (ay dV 3)) xi aH 200) (Gs 200))
theorem Dg:(iT (em (ay dV 3)) (dH (ao (.int 2)) (aA aQ (aa dV 2) (ao (.int 1)))) xi aH:CS)=MK:=kv (.v (.v (.v (.o (.e 0))))) Gs (λκ ih a b c od=>wO a b (λod st=>κ .nxt ⟨[sm a,sm b,sm c,od],[]⟩ st) (λv od st=>κ (.ret v) ⟨[sm a,sm b,sm c,od],[]⟩ st) (λod=>ih a b c od) od) (λ_=>rfl) (λ_ _=>rfl) (λ_ _=>by kernel_rfl)
def QP:CS:=(hW (bR uG (bv (aa dV 0) 1) (bv (aa dV 1) 1)) (aq (dq (ao (.bool dV))) aH) aH)
def QB:CS:=(hW (pH (tE (bv (aa dV 0) 4)) (tE (bv (aa dV 1) 4))) (aq (dq (qV Oq (bv (aa dV 0) 2) (bv (aa dV 1) 2))) aH) aH)
def Pu:CS:=(aV (aA aQ (gB jD (ae (bz 0 H1 (aa dV 0) av) (ae (bz 0 H1 (aa dV 1) av) av))) (ao (.int 1))) (ay dV 2))
def P4:CS:=MK
noncomputable def PR:CS:=(dq (ao (.bool Sk)))
noncomputable def QS:CS:=aH
def PM:CS:=aq PR QS
def Qb:CS:=aq P4 PM
def OT:CS:=aq Pu Qb
def PU:CS:=aq QB OT
def PN:CS:=aq QP PU
def p4:CS:=PN
def Q4:FN:=bk [(dV,0),(dV,1)] 4 0 p4
noncomputable def QL  (st:St)(k:KV):=k .none st
noncomputable def Qm  (st:St)(kk:SB)(k:KV):=(k (.bool Sk) st)
noncomputable def Qi  (st:St)(k:KV):=Qm  st (λ st=>QL  st k) k
def QK (a b c:V)(st:St)(kk:OV->SB)(k:KV):=(aQ c (.int 1) st λv8 s9=>(aG (.int 2) λi10=>aG v8 λi11=>eC i10 i11 1 s9 λit6 s7=>(AS a b (λo2 s1=>(kk o2 s1)) (λv3 o5 s4=>(k v3 s4)) 200 none it6 s7)))
def Qn (a b c:V)(st:St)(k:KV):=QK a b c st (λod st=>Qi  st k) k
def OG (a b:V)(st:St)(kk:V->SB)(k:KV):=(dR 0 a st (H1 [a] st λv4 s5=>(dR 0 b s5 (H1 [b] s5 λv9 s10=>(jD [v4,v9] s10 λv11 s12=>(aQ v11 (.int 1) s12 λv13 s14=>(kk v13 s14)))))))
def OM (a b:V)(st:St)(k:KV):=OG a b st (λc st=>Qn a b c st k) k
def Px (a b:V)(st:St)(kk:SB)(k:KV):=((λ(J1:Sm->SB)=>(getAttr a 4 st λv4 s5=>(eM v4 s5 λb6 s7=>(aD b6 (getAttr b 4 s7 λv8 s9=>(eM v8 s9 λb10 s11=>(J1 b10 s11))) (J1 dV s7))))) (λb2 s3=>(aD b2 (getAttr a 2 s3 λv12 s13=>(getAttr b 2 s13 λv14 s15=>(Oq v12 v14 s15 λyV=>(k (.bool yV) s15)))) (kk  s3))))
def Qs (a b:V)(st:St)(k:KV):=Px a b st (λ st=>OM a b st k) k
def PQ (a b:V)(st:St)(kk:SB)(k:KV):=(getAttr a 1 st λv1 s2=>(getAttr b 1 s2 λv3 s4=>(uG v1 v3 s4 λc5=>(aD c5 (k (.bool dV) s4) (kk  s4)))))
def Qq (a b:V)(st:St)(k:KV):=PQ a b st (λ st=>Qs a b st k) k
def g4 (A0 A1:V)(st:St)(k:KV):Sm:=(Qq A0 A1 st k)
def H4:FN:=λvs st k=>(dc vs λA0 vs=>(dc vs λA1 vs=>(fX vs (g4 A0 A1 st k))))
theorem Mx:Q4=H4:=np λ_ _ _ _=>by kernel_rfl
def w9 (a b d:V)(kk:OV->SB)(ih:OV->It->SB)(oe:OV)(it:It)(st:St):Sm:=aY st it (kk oe st) λy1 it2=>(@dy.rec (λ_=>Sm) (λv3=>(dR 0 a st (H2 [a,v3] st λv7 s8=>(dR 0 b s8 (H2 [b,v3] s8 λv12 s13=>(uG v7 v12 s13 λCR=>(aD CR (bB d λn15=>St.get s13 n15 λo16=>gQ o16 λ_=>(dR 0 a s13 (H2 [a,v3] s13 λv22 s23=>(dR 0 b s23 (H2 [b,v3] s23 λv27 s28=>(km d [(.tup [v3,v22,v27])] s28 λv17 s18=>(OB v17 (ih (Si v3) it2 s18)))))))) (ih (Si v3) it2 s13)))))))) (λ_ _=>dV) y1)
def BZ (a b d:V)(kk:OV->SB)(n:Nat):OV->It->SB:=@Tf (λ_=>_) (λ_ _ _=>dV) (λ_ ih=>w9 a b d kk ih) n
def wg:CS:=(aq (hW (bR uG (bz 0 H2 (aa dV 0) (ae (aa dV 4) av)) (bz 0 H2 (aa dV 1) (ae (aa dV 4) av))) (aq (dI (mZ km (aa dV 3) (ae (cN (ae (aa dV 4) (ae (bz 0 H2 (aa dV 0) (ae (aa dV 4) av)) (ae (bz 0 H2 (aa dV 1) (ae (aa dV 4) av)) av)))) av))) aH) aH) aH)
def F5 (n:Nat)(κ:KF):Fs.Fn (.v (.v (.v (.v (.o (.e 0)))))) (It->SB):=λa b c d oe=>BZ a b d (λoe st=>κ .nxt ⟨[sm a,sm b,sm c,sm d,oe],[]⟩ st) n oe
def Nt:CS:=kJ (dH (ao (.int 1)) (aA aQ (aa dV 2) (ao (.int 1)))) (HP (.v (.v (.v (.v (.o (.e 0)))))) (dP (em (ay dV 4)) wg aH 200) (F5 200))
theorem DU:(iT (em (ay dV 4)) (dH (ao (.int 1)) (aA aQ (aa dV 2) (ao (.int 1)))) wg aH:CS)=Nt:=kv (.v (.v (.v (.v (.o (.e 0)))))) F5 (λκ ih a b c d oe=>w9 a b d (λoe st=>κ .nxt ⟨[sm a,sm b,sm c,sm d,oe],[]⟩ st) (λoe=>ih a b c d oe) oe) (λ_=>rfl) (λ_ _=>rfl) (λ_ _=>by kernel_rfl)
def QN:CS:=(aV (aA aQ (gB jD (ae (bz 0 H1 (aa dV 0) av) (ae (bz 0 H1 (aa dV 1) av) av))) (ao (.int 1))) (ay dV 2))
def QO:CS:=(aV (d0 av) (ay dV 3))
def OH:CS:=Nt
def Pf:CS:=(dq (aa dV 3))
noncomputable def Rg:CS:=aH
def Pm:CS:=aq Pf Rg
def OJ:CS:=aq OH Pm
def PH:CS:=aq QO OJ
def Pt:CS:=aq QN PH
def p5:CS:=Pt
def Q5:FN:=bk [(dV,0),(dV,1)] 5 0 p5
noncomputable def O5  (st:St)(k:KV):=k .none st
noncomputable def Qk (d:V)(st:St)(kk:SB)(k:KV):=(k d st)
noncomputable def PL (d:V)(st:St)(k:KV):=Qk d st (λ st=>O5  st k) k
def Q0 (a b c d:V)(st:St)(kk:OV->SB)(k:KV):=(aQ c (.int 1) st λv5 s6=>(aG (.int 1) λi7=>aG v5 λi8=>eC i7 i8 1 s6 λit3 s4=>(BZ a b d (λo2 s1=>(kk o2 s1))  200 none it3 s4)))
def QI (a b c d:V)(st:St)(k:KV):=Q0 a b c d st (λoe st=>PL d st k) k
def QT  (st:St)(kk:V->SB)(k:KV):=(St.push st (.list []) λn1 s2=>((λ(x3:V)=>(kk x3 s2)) (.ref n1)))
def O0 (a b c:V)(st:St)(k:KV):=QT  st (λd st=>QI a b c d st k) k
def Qa (a b:V)(st:St)(kk:V->SB)(k:KV):=(dR 0 a st (H1 [a] st λv4 s5=>(dR 0 b s5 (H1 [b] s5 λv9 s10=>(jD [v4,v9] s10 λv11 s12=>(aQ v11 (.int 1) s12 λv13 s14=>(kk v13 s14)))))))
def Qw (a b:V)(st:St)(k:KV):=Qa a b st (λc st=>O0 a b c st k) k
def g5 (A0 A1:V)(st:St)(k:KV):Sm:=(Qw A0 A1 st k)
def H5:FN:=λvs st k=>(dc vs λA0 vs=>(dc vs λA1 vs=>(fX vs (g5 A0 A1 st k))))
theorem MW:Q5=H5:=np λ_ _ _ _=>by kernel_rfl
def LQ:CS:=(dq (aa dV 0))
noncomputable def N9:CS:=aH
def Np:CS:=aq LQ N9
def Rj:CS:=Np
def RR:FN:=bk [(dV,0)] 1 0 Rj
noncomputable def NB  (st:St)(k:KV):=k .none st
noncomputable def Nf (a:V)(st:St)(kk:SB)(k:KV):=(k a st)
noncomputable def KX (a:V)(st:St)(k:KV):=Nf a st (λ st=>NB  st k) k
noncomputable def R7 (A0:V)(st:St)(k:KV):Sm:=(KX A0 st k)
def Qv:FN:=λvs st k=>(dc vs λA0 vs=>(fX vs (R7 A0 st k)))
theorem HK:RR=Qv:=Bt λ_ _ _=>by kernel_rfl
def un (a:V)(kk:V->V->SB)(ih:V->V->SB)(b c:V)(st:St):Sm:=((λ(J1:Sm->SB)=>(eM b st λb4 s5=>(aD b4 (cZ a c s5 λv6 s7=>(ix v6 (.str [32]) s7 λc8=>(J1 c8 s7))) (J1 dV s5)))) (λb2 s3=>(aD b2 (zT c (.int 1) s3 λv9 s10=>(cf b (.int 1) s10 λv11 s12=>(ih v11 v9 s12))) (kk b c s3))))
def xg (a:V)(kk:V->V->SB)(n:Nat):V->V->SB:=@Tf (λ_=>_) (λ_ _ _=>dV) (λ_ ih=>un a kk ih) n
def rF:CT:=(pH (tE (aa dV 1)) (bR ix (dw (aa dV 0) (aa dV 2)) (ao (.str [32]))))
def ud:CS:=(aq (u5 dV 2 zT (ao (.int 1))) (aq (u5 dV 1 cf (ao (.int 1))) aH))
def CD (n:Nat)(κ:KF):Fs.Fn (.v (.v (.v (.n (.e 0))))) SB:=λa b c=>xg a (λb c st=>κ .nxt ⟨[sm a,sm b,sm c,no],[]⟩ st) n b c
def E1:CS:=On (.v (.v (.v (.n (.e 0))))) (kT rF ud aH 200) (CD 200)
theorem zn:(AC rF ud aH:CS)=E1:=vK (.v (.v (.v (.n (.e 0))))) CD (λκ ih a b c=>un a (λb c st=>κ .nxt ⟨[sm a,sm b,sm c,no],[]⟩ st) (λb c=>ih a b c) b c) (λ_=>rfl) (λ_ _=>rfl) (λ_ _=>by kernel_rfl)
def uz (a:V)(kk:V->V->SB)(ih:V->V->SB)(b d:V)(st:St):Sm:=((λ(J1:Sm->SB)=>(eM b st λb4 s5=>(aD b4 (cZ a d s5 λv6 s7=>(ix v6 (.str [32]) s7 λc8=>(J1 c8 s7))) (J1 dV s5)))) (λb2 s3=>(aD b2 (cf d (.int 1) s3 λv9 s10=>(cf b (.int 1) s10 λv11 s12=>(ih v11 v9 s12))) (kk b d s3))))
def wB (a:V)(kk:V->V->SB)(n:Nat):V->V->SB:=@Tf (λ_=>_) (λ_ _ _=>dV) (λ_ ih=>uz a kk ih) n
def sH:CT:=(pH (tE (aa dV 1)) (bR ix (dw (aa dV 0) (aa dV 3)) (ao (.str [32]))))
def tS:CS:=(aq (u5 dV 3 cf (ao (.int 1))) (aq (u5 dV 1 cf (ao (.int 1))) aH))
def zP (n:Nat)(κ:KF):Fs.Fn (.v (.v (.v (.v (.e 0))))) SB:=λa b c d=>wB a (λb d st=>κ .nxt ⟨[sm a,sm b,sm c,sm d],[]⟩ st) n b d
def EQ:CS:=On (.v (.v (.v (.v (.e 0))))) (kT sH tS aH 200) (zP 200)
theorem Ab:(AC sH tS aH:CS)=EQ:=vK (.v (.v (.v (.v (.e 0))))) zP (λκ ih a b c d=>uz a (λb d st=>κ .nxt ⟨[sm a,sm b,sm c,sm d],[]⟩ st) (λb d=>ih a b c d) b d) (λ_=>rfl) (λ_ _=>rfl) (λ_ _=>by kernel_rfl)
def KW:CS:=(aV (ao (.int 0)) (ay dV 2))
def JR:CS:=E1
def Ju:CS:=(aV (aA cf (gB dU (ae (aa dV 0) av)) (ao (.int 1))) (ay dV 3))
def NI:CS:=EQ
def M1:CS:=(dq (uS (aa dV 0) (aa dV 2) (aA aQ (aa dV 3) (ao (.int 1)))))
noncomputable def Nq:CS:=aH
def KO:CS:=aq M1 Nq
def Jx:CS:=aq NI KO
def NE:CS:=aq Ju Jx
def LA:CS:=aq JR NE
def Jh:CS:=aq KW LA
def Rv:CS:=Jh
def R5:FN:=bk [(dV,0),(dV,1)] 4 0 Rv
noncomputable def Jo  (st:St)(k:KV):=k .none st
def Jv (a c d:V)(st:St)(kk:SB)(k:KV):=(aQ d (.int 1) st λv1 s2=>(uN a c v1 s2 λv3 s4=>(k v3 s4)))
def Oe (a c d:V)(st:St)(k:KV):=Jv a c d st (λ st=>Jo  st k) k
def LK (a b d:V)(st:St)(kk:V->V->SB)(k:KV):=(wB a (λx2 x3 s1=>(kk x2 x3 s1))  200 b d st)
def JX (a b c d:V)(st:St)(k:KV):=LK a b d st (λb d st=>Oe a c d st k) k
def Ku (a:V)(st:St)(kk:V->SB)(k:KV):=(dU [a] st λv1 s2=>(cf v1 (.int 1) s2 λv3 s4=>(kk v3 s4)))
def JB (a b c:V)(st:St)(k:KV):=Ku a st (λd st=>JX a b c d st k) k
def Kw (a b c:V)(st:St)(kk:V->V->SB)(k:KV):=(xg a (λx2 x3 s1=>(kk x2 x3 s1))  200 b c st)
def M0 (a b c:V)(st:St)(k:KV):=Kw a b c st (λb c st=>JB a b c st k) k
noncomputable def Ng  (st:St)(kk:V->SB)(k:KV):=(kk (.int 0) st)
def Mr (a b:V)(st:St)(k:KV):=Ng  st (λc st=>M0 a b c st k) k
def RH (A0 A1:V)(st:St)(k:KV):Sm:=(Mr A0 A1 st k)
def OA:FN:=λvs st k=>(dc vs λA0 vs=>(dc vs λA1 vs=>(fX vs (RH A0 A1 st k))))
theorem G9:R5=OA:=np λ_ _ _ _=>by kernel_rfl
end
section
variable {C:Cfg}{fx:Fx}{d:Nat}{EP:Env->Prop}{body:List Stmt}
def Rw (C:Cfg)(fx:Fx)(EP:Env->Prop)(d:Nat)(e:Expr)(c:CE):Prop:=
 ∀(A:Ue) (env:Env) (σ:Sj Sx) (fm:Fm) (st:St) (s:Sw) (k:V->St->Sm),Rm d A->ba fx env->EP env->Inv C σ st s->FrR C fx env fm σ s->c fm st k=Sk->fZ C A (eval e env) σ s k
theorem Ep {t e:Expr}{ct:CG}{c:CE} (hs:∀env,ba fx env->Xl [t] e pos.line env=pure dV)(hw:∀env,ba fx env->VP [t] e env=pure none)(hm:∀env,(Uc [t] env).map (·.2)=[assign t env])
  (he:Rw C fx EP d e c) (ht:SG C fx d t ct):NP C fx EP d body (.Assign [t] e pos) (aV c ct):=by
 intro A env σ fm st s k R E P I F h
 refine Xm (wpAny_Assign_stores (aw (he A env σ fm st s _ R E P I F h) λσ1 x st1 u aaV aaZ aa1 aa4 aaX=>?_) (hs env E) (hw env E))
 rw[hm]
 exact Sq (ht A env σ1 fm st1 aaV (k .nxt) x u R E aa1 (aaZ.fr0 F) aa4 aaX) (λ_ _ o=>(OutG.toS o).trans aaZ.up) λ_ _ e=>e
noncomputable def Hs:CE:=fc Qv (ae (aA bJ (ao (.str [32])) (dw (aa Sk 0) (aa dV 0))) av)
theorem IU (xs:Sj Int)(j:Nat)(z:Int)(K:KV)(hz:xs[j]? = Si z)(hj:j<=63)(h1:small z=Sk)(h2:aB (cT z)=Sk)(h:K (.str (cw [32] (cT z))) (cL xs)=Sk):Hs ⟨[Si (.int j)],[1]⟩ (cL xs) K=Sk:=by
 have hg:∀(xs:Sj Int) (j:Nat) (q:V->Sm),xs[j]? = Si z->getL (fE V.int xs) j q dV=q (.int z):=by
  intro xs
  induction xs with
  | nil=>intro j q e;simp at e
  | cons x xs ih=>
   intro j q e
   induction j with
   | zero=>simp at e;subst e;rfl
   | succ j=>exact ih j q (by simpa using e)
 have hsj:small (TG j)=Sk:=by
  show SZ j 1152921504606846975=Sk
  exact TZ (by lia)
 have e1:Hs ⟨[Si (.int j)],[1]⟩ (cL xs) K=aD (small (TG j)) (getL (fE V.int xs) j (λv=>bJ (.str [32]) v (cL xs) λv st=>K v st) dV) dV:=rfl
 rw[e1,hsj,hg xs j _ hz]
 show aD (small z) (aD (aB (XI 1 (cT z))) (K (.str (cw [32] (cT z))) (cL xs)) dV) dV=Sk
 rw[h1,show XI 1 (cT z)=cT z from Zw _,h2]
 exact h
end
noncomputable def gN:lX:=⟨210,206,⟨0,0,0,0⟩,"",dV⟩
noncomputable def gM:lX:=⟨217,213,⟨0,0,0,0⟩,"",dV⟩
noncomputable def eF:lX:=⟨283,281,⟨225,40,225,72⟩,"_law_lead.<locals>.<lambda>",Sk⟩
noncomputable section
noncomputable def vZ (x:SV CFound):Tok:=match x with
 | some (.val v)=>AX v
 | _=>0
noncomputable def K5 (x:SV (SV Sr)):Tok:=match x with
 | some (Si v)=>AX v
 | _=>0
end
structure Base (C:Cfg)(P:Params):Prop where
 K:C.K=KH P
 ok:C.Ok
 blt:mH C
 file:∀cda∈[180,203,240],∃oc vs file tf,C.K.lookup cda=Si oc/\oc.data=.fields vs/\vs[2]? = Si (.str file tf)/\((C.prog.main.file:Str) == file)=Sk
 top:(C.prog.main.scope.names.lookup ("super":Str)).isSome=dV
structure BaseT (C:Cfg)(P:Params):Prop extends Base C P where
 tabs:C.tabs=[gN,gM,eF]
namespace Base
section
variable {C:Cfg}{P:Params}
theorem J (W:Base C P):cJ C:=KS W.K
theorem JS (W:Base C P):eP C:=Kr W.K
theorem g_Whitespace (W:Base C P):GB C "Whitespace" (.ref 83):=yp W.K (by kernel_rfl)
theorem g__ValueFormatter (W:Base C P):GB C "_ValueFormatter" (.ref 160):=yp W.K (by kernel_rfl)
theorem g__Accumulator (W:Base C P):GB C "_Accumulator" (.ref 244):=yp W.K (by kernel_rfl)
theorem g__strxfrm (W:Base C P):GB C "_strxfrm" (.ref 255):=yp W.K (by kernel_rfl)
theorem g__strip_padding (W:Base C P):GB C "_strip_padding" (.ref 269):=yp W.K (by kernel_rfl)
theorem g__law_drawn (W:Base C P):GB C "_law_drawn" (.ref 274):=yp W.K (by kernel_rfl)
theorem g__law_columns (W:Base C P):GB C "_law_columns" (.ref 279):=yp W.K (by kernel_rfl)
theorem g__law_lead (W:Base C P):GB C "_law_lead" (.ref 284):=yp W.K (by kernel_rfl)
theorem g__law_told (W:Base C P):GB C "_law_told" (.ref 289):=yp W.K (by kernel_rfl)
theorem g__law_norm (W:Base C P):GB C "_law_norm" (.ref 294):=yp W.K (by kernel_rfl)
theorem g__law_column (W:Base C P):GB C "_law_column" (.ref 299):=yp W.K (by kernel_rfl)
theorem g__grouping_intervals (W:Base C P):GB C "_grouping_intervals" (.ref 262):=yp W.K (by kernel_rfl)
theorem g_len (W:Base C P):GB C "len" (.builtin "len"):=yX W.K (by kernel_rfl) (by decide) (by decide +kernel)
theorem g_sum (W:Base C P):GB C "sum" (.builtin "sum"):=yX W.K (by kernel_rfl) (by decide) (by decide +kernel)
theorem g_max (W:Base C P):GB C "max" (.builtin "max"):=yX W.K (by kernel_rfl) (by decide) (by decide +kernel)
theorem g_min (W:Base C P):GB C "min" (.builtin "min"):=yX W.K (by kernel_rfl) (by decide) (by decide +kernel)
theorem g_chr (W:Base C P):GB C "chr" (.builtin "chr"):=yX W.K (by kernel_rfl) (by decide) (by decide +kernel)
theorem g_sorted (W:Base C P):GB C "sorted" (.builtin "sorted"):=yX W.K (by kernel_rfl) (by decide) (by decide +kernel)
theorem g_str (W:Base C P):GB C "str" (.type "str"):=yX W.K (by kernel_rfl) (by decide) (by decide +kernel)
theorem g_tuple (W:Base C P):GB C "tuple" (.type "tuple"):=yX W.K (by kernel_rfl) (by decide) (by decide +kernel)
theorem g_range (W:Base C P):GB C "range" (.type "range"):=yX W.K (by kernel_rfl) (by decide) (by decide +kernel)
theorem g_enumerate (W:Base C P):GB C "enumerate" (.type "enumerate"):=yX W.K (by kernel_rfl) (by decide) (by decide +kernel)
theorem g_super (W:Base C P):GB C "super" (.type "super"):=yX W.K (by kernel_rfl) (by decide) (by decide +kernel)
theorem g_zip (W:Base C P):GB C "zip" (.type "zip"):=yX W.K (by kernel_rfl) (by decide) (by decide +kernel)
theorem g_EMPTY (W:Base C P):GB C "EMPTYSTRING" (.str ⟨([]:Sj Nat).toArray⟩ 306):=yp W.K (by kernel_rfl)
theorem k19 (W:Base C P):Keeps C (.ref 255):=gE W.K (by kernel_rfl)
theorem k20 (W:Base C P):Keeps C (.ref 269):=gE W.K (by kernel_rfl)
theorem k21 (W:Base C P):Keeps C (.ref 274):=gE W.K (by kernel_rfl)
theorem k22 (W:Base C P):Keeps C (.ref 279):=gE W.K (by kernel_rfl)
theorem k23 (W:Base C P):Keeps C (.ref 284):=gE W.K (by kernel_rfl)
theorem k24 (W:Base C P):Keeps C (.ref 289):=gE W.K (by kernel_rfl)
theorem k25 (W:Base C P):Keeps C (.ref 294):=gE W.K (by kernel_rfl)
theorem k26 (W:Base C P):Keeps C (.ref 299):=gE W.K (by kernel_rfl)
theorem m1 (W:Base C P):de C 0 "longest_run_of_spaces" 45:=dW W.K (by kernel_rfl) (by kernel_rfl) (by kernel_rfl) (by kernel_rfl)
theorem m2 (W:Base C P):de C 0 "indent_level" 52:=dW W.K (by kernel_rfl) (by kernel_rfl) (by kernel_rfl) (by kernel_rfl)
theorem m3 (W:Base C P):de C 0 "not_equal_witness" 66:=dW W.K (by kernel_rfl) (by kernel_rfl) (by kernel_rfl) (by kernel_rfl)
theorem m4 (W:Base C P):de C 0 "less" 73:=dW W.K (by kernel_rfl) (by kernel_rfl) (by kernel_rfl) (by kernel_rfl)
theorem m5 (W:Base C P):de C 0 "not_less_witness" 80:=dW W.K (by kernel_rfl) (by kernel_rfl) (by kernel_rfl) (by kernel_rfl)
theorem m7 (W:Base C P):de C 1 "_str" 108:=dW W.K (by kernel_rfl) (by kernel_rfl) (by kernel_rfl) (by kernel_rfl)
theorem m8 (W:Base C P):de C 1 "newline" 122:=dW W.K (by kernel_rfl) (by kernel_rfl) (by kernel_rfl) (by kernel_rfl)
theorem m9 (W:Base C P):de C 1 "_append_chunk" 157:=dW W.K (by kernel_rfl) (by kernel_rfl) (by kernel_rfl) (by kernel_rfl)
theorem m11 (W:Base C P):de C 2 "push" 188:=dW W.K (by kernel_rfl) (by kernel_rfl) (by kernel_rfl) (by kernel_rfl)
theorem m12 (W:Base C P):de C 2 "pop_from" 196:=dW W.K (by kernel_rfl) (by kernel_rfl) (by kernel_rfl) (by kernel_rfl)
theorem m13 (W:Base C P):de C 2 "pop" 204:=dW W.K (by kernel_rfl) (by kernel_rfl) (by kernel_rfl) (by kernel_rfl)
theorem m16 (W:Base C P):de C 2 "reset" 226:=dW W.K (by kernel_rfl) (by kernel_rfl) (by kernel_rfl) (by kernel_rfl)
theorem m17 (W:Base C P):de C 2 "is_onlyws" 233:=dW W.K (by kernel_rfl) (by kernel_rfl) (by kernel_rfl) (by kernel_rfl)
theorem m18 (W:Base C P):de C 2 "part_count" 241:=dW W.K (by kernel_rfl) (by kernel_rfl) (by kernel_rfl) (by kernel_rfl)
theorem new0 (W:Base C P):sB C 0 38:=FD W.K (by kernel_rfl) (by kernel_rfl) (by kernel_rfl) (by kernel_rfl)
theorem new1 (W:Base C P):sB C 1 101:=FD W.K (by kernel_rfl) (by kernel_rfl) (by kernel_rfl) (by kernel_rfl)
theorem newL (W:Base C P):uT C 181:=IL W.K
theorem get11 (W:Base C P):aaz C.K (.ref 188) "__get__"=Si (Si (.builtin "function.__get__")):=by rw[W.K];kernel_rfl
theorem tk11 (W:Base C P):takesIn C.K (.ref 188)=Si dV:=by rw[W.K];kernel_rfl
theorem fn11 (W:Base C P):fnIn C.K 188=Sk:=by rw[W.K];kernel_rfl
theorem findAppend (W:Base C P):Uq C.K (.ref 244) "append"=Si (Si (.builtin "list.append")):=by rw[W.K];kernel_rfl
theorem findIndex (W:Base C P):Uq C.K (.ref 244) "index"=Si (Si (.builtin "list.index")):=by rw[W.K];kernel_rfl
theorem readsW (W:Base C P):readsIn C.K 83 (.type "type")=Sk:=by rw[W.K];kernel_rfl
theorem attrS (W:Base C P):∃tk,aaf C.K (.ref 83) (.type "type") "S"=Si (.val (.str ⟨[32].toArray⟩ tk)):=by rw[W.K];exact⟨vZ (aaf (KH P) (.ref 83) (.type "type") "S"),by kernel_rfl⟩
theorem attrT (W:Base C P):∃tk,aaf C.K (.ref 83) (.type "type") "T"=Si (.val (.str ⟨[9].toArray⟩ tk)):=by rw[W.K];exact⟨vZ (aaf (KH P) (.ref 83) (.type "type") "T"),by kernel_rfl⟩
theorem k262 (W:Base C P):Keeps C (.ref 262):=gE W.K (by kernel_rfl)
theorem charMax (W:Base C P):∃tc,aaN C.K S4 "CHAR_MAX"=Si (Si (.int 127 tc)):=by
 rw[W.K]
 exact⟨K5 (aaN (KH P) S4 "CHAR_MAX"),by kernel_rfl⟩
theorem fn262 (W:Base C P):sg C 262 (aZ (KH P) 262) (aI (KH P) 262):=by
 have hc:((aZ (KH P) 262).scope.names.all λx=>!(x.2 == NameKind.cell))=Sk:=by kernel_rfl
 have h9:∀a,XZ (aZ (KH P) 262) ⟨[a],[]⟩=pure [(("grouping":Str),a)]:=λ_=>by kernel_rfl
 exact⟨by rw[W.K];exact BI (by kernel_rfl),by rw[W.K];kernel_rfl,by kernel_rfl,by kernel_rfl,by kernel_rfl,by kernel_rfl,by kernel_rfl,λx m=>(VY _).mp (Te.mp hc x m),by kernel_rfl,by kernel_rfl,by kernel_rfl,by kernel_rfl,λu s=>by refine Ug.of_eq ?_;exact h9 u⟩
theorem ss_gz (W:Base C P) (hn:SE C fx d en cn)(hg:SE C fx d eg cg)(hok:fx.ok=Sk)(x1:("zip":Str)∈fx.gn)(x2:("range":Str)∈fx.gn)(x3:("_grouping_intervals":Str)∈fx.gn)
  (a1:aL [en]) (a2:aL [eg]) (a3:aL [.Call (.Name "range" z1) [en] [] z2,.Call (.Name "_grouping_intervals" z3) [eg] [] z4]) (hsc:dT sc=Sk) (hfc:(sc.names.all λx=>x.2 != .free && !(x.2 == NameKind.cell))=Sk) (sk:("k":Str)∈(aR sc).ln) (ss:("size":Str)∈(aR sc).ln) (hy:fx.ln[aby]? = Si y) (hsw:∀env,ba fx env->VO (.ListComp (.Name "size" e1) [⟨.Tuple [.Name "k" t1,.Name "size" t2] kt tp,.Call (.Name "zip" z0) [.Call (.Name "range" z1) [en] [] z2,.Call (.Name "_grouping_intervals" z3) [eg] [] z4] [] z5,[],0⟩] sc pos) (Si (.Name y py)) spos.line env=pure Sk) :
  SS C fx d (.Assign [.Name y py] (.ListComp (.Name "size" e1) [⟨.Tuple [.Name "k" t1,.Name "size" t2] kt tp,.Call (.Name "zip" z0) [.Call (.Name "range" z1) [en] [] z2,.Call (.Name "_grouping_intervals" z3) [eg] [] z4] [] z5,[],0⟩] sc pos) spos) (aV (qm cn cg) (ay dV aby)):=by
 refine bG (W.charMax) λtc gc=>?_
 have hfc':∀x∈sc.names,x.2≠.free/\(x.2 == NameKind.cell)=dV:=λx m=>by
  have:=Te.mp hfc x m
  simpa using this
 apply xy W.ok W.fn262 gc ?hB ?hbody hn hg hok x1 x2 x3 W.g_zip W.g_range W.g__grouping_intervals W.k262 a1 a2 a3 (λ_=>rfl) hsc (λx m=>(hfc' x m).1) (λx m=>(hfc' x m).2) sk ss hy hsw
 case hbody=>
  conv=>lhs;whnf
 case hB=>rfl
theorem sup (W:Base C P):ow C:=zi W.K W.g_super W.top
theorem s10 (W:Base C P):kF C 181 (aZ (KH P) 181):=ms W.K (W.file 180 (.head _)) (by kernel_rfl) (by kernel_rfl) (by kernel_rfl)
theorem s13 (W:Base C P):kF C 204 (aZ (KH P) 204):=ms W.K (W.file 203 (.tail _ (.head _))) (by kernel_rfl) (by kernel_rfl) (by kernel_rfl)
theorem s18 (W:Base C P):kF C 241 (aZ (KH P) 241):=ms W.K (W.file 240 (.tail _ (.tail _ (.head _)))) (by kernel_rfl) (by kernel_rfl) (by kernel_rfl)
theorem bare (W:Base C P):Base C.bare P:=⟨W.K,BL W.ok,⟨W.blt.at_⟩,W.file,W.top⟩
end
end Base
namespace BaseT
section
variable {C:Cfg}{P:Params}
theorem tabOne (W:BaseT C P){t t':lX}(m:t∈C.tabs)(m':t'∈C.tabs)(e:t'.tab=t.tab):t'=t:=by
 have no:∀{a b:lX},(b.tab=a.tab->False)->b.tab=a.tab->b=a:=λh e=>(h e).elim
 have k:∀a∈[gN,gM,eF],∀b∈[gN,gM,eF],b.tab=a.tab->b=a:=
  du (du (λ_=>rfl) (du (no (lC rfl)) (du (no (lC rfl)) uQ))) (du (du (no (lC rfl)) (du (λ_=>rfl) (du (no (lC rfl)) uQ))) (du (du (no (lC rfl)) (du (no (lC rfl)) (du (λ_=>rfl) uQ))) uQ))
 exact k t (W.tabs▸m) t' (W.tabs▸m') e
theorem t14 (W:BaseT C P):jm C gN:=have m:gN∈C.tabs:=W.tabs.symm▸.head _;qx W.K rfl m (λ_ m' q=>W.tabOne m m' q) (by kernel_rfl) (by kernel_rfl) (by kernel_rfl) (by kernel_rfl) (by kernel_rfl) (by kernel_rfl) (by kernel_rfl) (by kernel_rfl) (by kernel_rfl)
theorem t15 (W:BaseT C P):jm C gM:=have m:gM∈C.tabs:=W.tabs.symm▸.tail _ (.head _);qx W.K rfl m (λ_ m' q=>W.tabOne m m' q) (by kernel_rfl) (by kernel_rfl) (by kernel_rfl) (by kernel_rfl) (by kernel_rfl) (by kernel_rfl) (by kernel_rfl) (by kernel_rfl) (by kernel_rfl)
theorem t23 (W:BaseT C P):jm C eF:=have m:eF∈C.tabs:=W.tabs.symm▸.tail _ (.tail _ (.head _));qx W.K rfl m (λ_ m' q=>W.tabOne m m' q) (by kernel_rfl) (by kernel_rfl) (by kernel_rfl) (by kernel_rfl) (by kernel_rfl) (by kernel_rfl) (by kernel_rfl) (by kernel_rfl) (by kernel_rfl)
theorem se_sk (W:BaseT C P) {body:Expr}{kp lpos:Pos}(hn:SE C fx (d+3) en cn)(hok:fx.ok=Sk)(x1:("sorted":Str)∈fx.gn)(x2:("range":Str)∈fx.gn)(p1:aL [en])(hpos:lpos=eF.pos)(L:oZ lsc params "far" "j")(hfr:fx.cn[c]? = Si ("far":Str))
  (he:Base C.bare P->(aR lsc).ok=Sk->SE C.bare (aR lsc) d body Hs) :
  Rw C fx (λenv=>env.code=.ref 283/\env.qual="_law_lead.<locals>.") (d+3) (.Call (.Name "sorted" z0) [.Call (.Name "range" z1) [en] [] z2] [⟨Si "key",.Lambda params body lsc lpos,kp⟩] z3) (pn cn c):=
 λ_ _ _ _ _ _ _ R E Pe I F h=>EN W.ok W.blt W.t23 rfl Pe.1 hn L (he W.toBase.bare (di L.sc)) IU hok x1 x2 W.g_sorted W.g_range p1 hpos (by rw[Pe.2];decide +kernel) hfr R E I F h
end
end BaseT
noncomputable section
variable (pS pR pN:Nat)(a b c d e g h i j l m p s t u A B C D E F H I L M N P Q S T:V)(oa ob oc od oe og oh oi oj ol om op os ot ou oA oB oC oD oE oF oH oI oL oM oN oP oQ oS oT:OV)(A0 A1 A2 A3 A4:V)(C0 C1 C2 C3 C4 C5:Nat)(it:It)(st:St)(k:KV)(R:Fm->SB)(κ:Fl->Fm->SB)
def jt (C0 C1:Nat)(ih:OV->It->St->(Sj V->OV->SB)->Sm)(ob:OV)(it:It)(st:St)(k:Sj V->OV->SB):Sm:=aY st it (k [] ob st) λy1 it2=>(@dy.rec (λ_=>Sm) (λv3=>(fD C0 st λx4=>(cZ x4 (.int 0) st λv5 s6=>(cf v3 v5 s6 λv7 s8=>(fD C1 s8 λx9=>(ef v7 x9 s8 λv10 s11=>(ih (Si v3) it2 s11 λl12 o13 s14=>k (bp [v10] l12) o13 s14))))))) (λ_ _=>dV) y1)
def gI (C0 C1:Nat)(n:Nat):OV->It->St->(Sj V->OV->SB)->Sm:=@Tf (λ_=>_) (λ_ _ _ _=>dV) (λ_ ih=>jt C0 C1 ih) n
def sd:CB:=(gt (aA ef (aA cf (aa dV 1) (dw (aa Sk 0) (ao (.int 0)))) (aa Sk 1)))
def Ay (n:Nat):Fs.Fn (.n (.o (.e 2))) (It->St->(Sj V->Fs.Fo (.n (.o (.e 2))) SB)->Sm):=λob C0 C1=>gI C0 C1 n ob
def Gb:CE:=eA (iE (aa Sk 0)) 2 0 [0,1] (.n (.o (.e 2))) (bw (em (ay dV 1)) cA sd 200) (Ay 200)
theorem zY:(cF (iE (aa Sk 0)) 2 0 [0,1] (em (ay dV 1)) cA sd:CE)=Gb:=cO (.n (.o (.e 2))) Ay (λih ob C0 C1=>jt C0 C1 (λob=>ih ob C0 C1) ob) rfl (λ_=>rfl) (λ_=>by kernel_rfl)
def uy (C0:Nat)(ih:OV->It->St->(Sj V->OV->SB)->Sm)(ob:OV)(it:It)(st:St)(k:Sj V->OV->SB):Sm:=aY st it (k [] ob st) λy1 it2=>(@dy.rec (λ_=>Sm) (λv3=>(fD C0 st λx4=>(cZ x4 v3 st λv5 s6=>(ih (Si v3) it2 s6 λl7 o8 s9=>k (bp [v5] l7) o8 s9)))) (λ_ _=>dV) y1)
def wK (C0:Nat)(n:Nat):OV->It->St->(Sj V->OV->SB)->Sm:=@Tf (λ_=>_) (λ_ _ _ _=>dV) (λ_ ih=>uy C0 ih) n
def tI:CB:=(gt (dw (aa Sk 0) (aa dV 1)))
def AW (n:Nat):Fs.Fn (.n (.o (.e 1))) (It->St->(Sj V->Fs.Fo (.n (.o (.e 1))) SB)->Sm):=λob C0=>wK C0 n ob
def Go:CE:=eA (iE (aa dV 0)) 2 0 [3] (.n (.o (.e 1))) (bw (em (ay dV 1)) cA tI 200) (AW 200)
theorem zG:(cF (iE (aa dV 0)) 2 0 [3] (em (ay dV 1)) cA tI:CE)=Go:=cO (.n (.o (.e 1))) AW (λih ob C0=>uy C0 (λob=>ih ob C0) ob) rfl (λ_=>rfl) (λ_=>by kernel_rfl)
def sy (C0:Nat)(ih:OV->It->St->(Sj V->OV->SB)->Sm)(ob:OV)(it:It)(st:St)(k:Sj V->OV->SB):Sm:=aY st it (k [] ob st) λy1 it2=>(@dy.rec (λ_=>Sm) (λv3=>(fD C0 st λx4=>(aQ v3 (.int 1) st λv5 s6=>(cZ x4 v5 s6 λv7 s8=>(bJ (.str [32]) v7 s8 λv9 s10=>(aQ v9 (.str [9]) s10 λv11 s12=>(fD C0 s12 λx13=>(cZ x13 v3 s12 λv14 s15=>(aQ v14 (.int 1) s15 λv16 s17=>(OA [v11,v16] s17 λv18 s19=>(ih (Si v3) it2 s19 λl20 o21 s22=>k (bp [v18] l20) o21 s22))))))))))) (λ_ _=>dV) y1)
def wh (C0:Nat)(n:Nat):OV->It->St->(Sj V->OV->SB)->Sm:=@Tf (λ_=>_) (λ_ _ _ _=>dV) (λ_ ih=>sy C0 ih) n
def uj:CB:=(gt (fc OA (ae (aA aQ (aA bJ (ao (.str [32])) (dw (aa Sk 0) (aA aQ (aa dV 1) (ao (.int 1))))) (ao (.str [9]))) (ae (aA aQ (dw (aa Sk 0) (aa dV 1)) (ao (.int 1))) av))))
def zI (n:Nat):Fs.Fn (.n (.o (.e 1))) (It->St->(Sj V->Fs.Fo (.n (.o (.e 1))) SB)->Sm):=λob C0=>wh C0 n ob
def Fh:CE:=eA (qR (gB dU (ae (aa Sk 3) av))) 2 0 [2] (.n (.o (.e 1))) (bw (em (ay dV 1)) cA uj 200) (zI 200)
theorem Br:(cF (qR (gB dU (ae (aa Sk 3) av))) 2 0 [2] (em (ay dV 1)) cA uj:CE)=Fh:=cO (.n (.o (.e 1))) zI (λih ob C0=>sy C0 (λob=>ih ob C0) ob) rfl (λ_=>rfl) (λ_=>by kernel_rfl)
def Jy:CS:=(aV Gb (ay Sk 3))
def M5:CS:=(aV (pn (gB dU (ae (aa Sk 3) av)) 3) (ay dV 0))
def K4:CS:=(aV (aA aQ Go (d0 (ae (aa Sk 1) av))) (ay Sk 2))
def Lj:CS:=(aV Fh (ay dV 1))
def L7:CS:=(dq (cN (ae (aa dV 0) (ae (rB oW (ao (.str [])) (ae (aa dV 1) av)) av))))
noncomputable def LI:CS:=aH
def Mm:CS:=aq L7 LI
def Kd:CS:=aq Lj Mm
def LL:CS:=aq K4 Kd
def K3:CS:=aq M5 LL
def Nj:CS:=aq Jy K3
def Rz:CS:=Nj
def R9:FN:=bk [(Sk,0),(Sk,1)] 2 4 Rz
noncomputable def Mc (a b:V)(C0 C1 C2 C3:Nat)(st:St)(k:KV):=k .none st
def MG (a b:V)(C0 C1 C2 C3:Nat)(st:St)(kk:SB)(k:KV):=(dB (.str []) λ_=>(oW (.str []) [b] st λv1 s2=>(k (.tup [a,v1]) s2)))
def Ko (a b:V)(C0 C1 C2 C3:Nat)(st:St)(k:KV):=MG a b C0 C1 C2 C3 st (λ st=>Mc a b C0 C1 C2 C3 st k) k
def JC (a:V)(C0 C1 C2 C3:Nat)(st:St)(kk:V->SB)(k:KV):=(fD C3 st λx3=>(dU [x3] st λv4 s5=>(aG v4 λi6=>eC 0 i6 1 s5 λit1 s2=>(wh C2 200 none it1 s2 λl7 _ s8=>aD (aB (aK l7)) (St.push s8 (.list l7) λn9 s10=>((λ(x11:V)=>(kk x11 s10)) (.ref n9))) dV))))
def LD (a:V)(C0 C1 C2 C3:Nat)(st:St)(k:KV):=JC a C0 C1 C2 C3 st (λb st=>Ko a b C0 C1 C2 C3 st k) k
def NG (a:V)(C0 C1 C2 C3:Nat)(st:St)(kk:SB)(k:KV):=(xE a st λit1 s2=>(wK C3 200 none it1 s2 λl3 _ s4=>aD (aB (aK l3)) (St.push s4 (.list l3) λn5 s6=>(fD C1 s6 λx7=>(St.push s6 (.list [x7]) λn8 s9=>(aQ (.ref n5) (.ref n8) s9 λv10 s11=>(kO C2 v10 s11 λs12=>(kk  s12)))))) dV))
def La (a:V)(C0 C1 C2 C3:Nat)(st:St)(k:KV):=NG a C0 C1 C2 C3 st (λ st=>LD a C0 C1 C2 C3 st k) k
def LB  (C0 C1 C2 C3:Nat)(st:St)(kk:V->SB)(k:KV):=(fD C3 st λx1=>(dU [x1] st λv2 s3=>(aG v2 λi4=>aD (SZ (cT i4) 63) (aD (small i4) (aD (SZ 4 C3) (St.get s3 C3 λo5=>eo o5 λv6=>cU v6 λw7=>bB w7 λm8=>aD (SZ 4 m8) (bh s3 m8 λl9=>iZq l9 λx10=>sw x10 (cT i4) 0 λa11=>aD (iI (dG a11 [])) (St.push s3 .hid λ_ s12=>St.push s12 (.list (fE (λx=>.int x.2) (dG a11 []))) λn13 s14=>((λ(x15:V)=>(kk x15 s14)) (.ref n13))) dV) dV) dV) dV) dV)))
def wj  (C0 C1 C2 C3:Nat)(st:St)(k:KV):=LB C0 C1 C2 C3 st (λa st=>La a C0 C1 C2 C3 st k) k
def Kk  (C0 C1 C2 C3:Nat)(st:St)(kk:SB)(k:KV):=(fD C0 st λx3=>(xE x3 st λit1 s2=>(gI C0 C1 200 none it1 s2 λl4 _ s5=>aD (aB (aK l4)) (St.push s5 (.list l4) λn6 s7=>(kO C3 (.ref n6) s7 λs8=>(kk  s8))) dV)))
def FV  (C0 C1 C2 C3:Nat)(st:St)(k:KV):=Kk C0 C1 C2 C3 st (λ st=>wj C0 C1 C2 C3 st k) k
def Sd (A0 A1:V)(st:St)(k:KV):Sm:=(St.push st (.cell none) λC0 s_0=>(St.push s_0 (.cell none) λC1 s_1=>(St.push s_1 (.cell none) λC2 s_2=>(St.push s_2 (.cell none) λC3 s_3=>(kO C0 A0 s_3 λs_4=>(kO C1 A1 s_4 λs_5=>(FV C0 C1 C2 C3 s_5 k)))))))
def FZ:FN:=λvs st k=>(dc vs λA0 vs=>(dc vs λA1 vs=>(fX vs (Sd A0 A1 st k))))
theorem GD:R9=FZ:=np λ_ _ _ _=>by kernel_rfl
def rJ (C0 C1:Nat)(ih:OV->It->St->(Sj V->OV->SB)->Sm)(ob:OV)(it:It)(st:St)(k:Sj V->OV->SB):Sm:=aY st it (k [] ob st) λy1 it2=>(@dy.rec (λ_=>Sm) (λv3=>(fD C1 st λx4=>(bJ v3 x4 st λv5 s6=>(fD C0 s6 λx7=>(ef v5 x7 s6 λv8 s9=>(ih (Si v3) it2 s9 λl10 o11 s12=>k (bp [(.tup [v8,v3])] l10) o11 s12)))))) (λ_ _=>dV) y1)
def wF (C0 C1:Nat)(n:Nat):OV->It->St->(Sj V->OV->SB)->Sm:=@Tf (λ_=>_) (λ_ _ _ _=>dV) (λ_ ih=>rJ C0 C1 ih) n
def sJ:CB:=(gt (cN (ae (aA ef (aA bJ (aa dV 1) (aa Sk 1)) (aa Sk 0)) (ae (aa dV 1) av))))
def BW (n:Nat):Fs.Fn (.n (.o (.e 2))) (It->St->(Sj V->Fs.Fo (.n (.o (.e 2))) SB)->Sm):=λob C0 C1=>wF C0 C1 n ob
def Fc:CE:=eA (dH (ao (.int 1)) (aa dV 0)) 2 0 [0,1] (.n (.o (.e 2))) (bw (em (ay dV 1)) cA sJ 200) (BW 200)
theorem Ag:(cF (dH (ao (.int 1)) (aa dV 0)) 2 0 [0,1] (em (ay dV 1)) cA sJ:CE)=Fc:=cO (.n (.o (.e 2))) BW (λih ob C0 C1=>rJ C0 C1 (λob=>ih ob C0 C1) ob) rfl (λ_=>rfl) (λ_=>by kernel_rfl)
def qO (C0 C1:Nat)(ih:OV->It->St->(Sj V->OV->SB)->Sm)(ob:OV)(it:It)(st:St)(k:Sj V->OV->SB):Sm:=aY st it (k [] ob st) λy1 it2=>(@dy.rec (λ_=>Sm) (λv3=>(aG v3 λi4=>(fD C1 st λx5=>(bJ (.int (Z9 i4)) x5 st λv6 s7=>(fD C0 s7 λx8=>(ef v6 x8 s7 λv9 s10=>(ih (Si v3) it2 s10 λl11 o12 s13=>k (bp [(.tup [v9,v3])] l11) o12 s13))))))) (λ_ _=>dV) y1)
def wf (C0 C1:Nat)(n:Nat):OV->It->St->(Sj V->OV->SB)->Sm:=@Tf (λ_=>_) (λ_ _ _ _=>dV) (λ_ ih=>qO C0 C1 ih) n
def tY:CB:=(gt (cN (ae (aA ef (aA bJ (qg (aa dV 1)) (aa Sk 1)) (aa Sk 0)) (ae (aa dV 1) av))))
def Ai (n:Nat):Fs.Fn (.n (.o (.e 2))) (It->St->(Sj V->Fs.Fo (.n (.o (.e 2))) SB)->Sm):=λob C0 C1=>wf C0 C1 n ob
def FR:CE:=eA (dH (ao (.int 1)) (aa dV 0)) 2 0 [0,1] (.n (.o (.e 2))) (bw (em (ay dV 1)) cA tY 200) (Ai 200)
theorem AY:(cF (dH (ao (.int 1)) (aa dV 0)) 2 0 [0,1] (em (ay dV 1)) cA tY:CE)=FR:=cO (.n (.o (.e 2))) Ai (λih ob C0 C1=>qO C0 C1 (λob=>ih ob C0 C1) ob) rfl (λ_=>rfl) (λ_=>by kernel_rfl)
def rA (a d g h:V)(kk:OV->SB)(ih:OV->SB)(ob:OV)(st:St):Sm:=(dU [h] st λv1 s2=>(JD v1 a s2 λc3=>(aD c3 (aG (.int 1) λi4=>(cZ h (.int (Z9 i4)) s2 λv5 s6=>(bB h λn7=>St.get s6 n7 λo8=>gQ o8 λ_=>((λ(J11:V->SB)=>(aQ v5 d s6 λv14 s15=>(JD v14 a s15 λyV=>(aD yV (aQ v5 d s15 λv17 s18=>(J11 v17 s18)) ((λ(J19:V->SB)=>(uG v5 g s15 λHJ=>(aD HJ (cf v5 g s15 λv23 s24=>(J19 v23 s24)) (aQ v5 d s15 λv25 s26=>(cf v25 g s26 λv27 s28=>(J19 v27 s28)))))) (λv20 s21=>(J11 v20 s21))))))) (λv12 s13=>(km h [v12] s13 λv9 s10=>(OB v9 (ih (Si v5) s10)))))))) (kk ob s2))))
def wR (a d g h:V)(kk:OV->SB)(n:Nat):OV->SB:=@Tf (λ_=>_) (λ_ _=>dV) (λ_ ih=>rA a d g h kk ih) n
def tG:CT:=(bR JD (gB dU (ae (aa dV 6) av)) (aa dV 0))
def qY:CS:=(aq (aV (dw (aa dV 6) (qg (ao (.int 1)))) (ay dV 1)) (aq (dI (mZ km (aa dV 6) (ae (u4 (bR JD (aA aQ (aa dV 1) (aa dV 3)) (aa dV 0)) (aA aQ (aa dV 1) (aa dV 3)) (u4 (bR uG (aa dV 1) (aa dV 5)) (aA cf (aa dV 1) (aa dV 5)) (aA cf (aA aQ (aa dV 1) (aa dV 3)) (aa dV 5)))) av))) aH))
def Cb (n:Nat)(κ:KF):Fs.Fn (.v (.o (.v (.v (.v (.v (.v (.n (.e 2))))))))) SB:=λa ob c d e g h C0 C1=>wR a d g h (λob st=>κ .nxt ⟨[sm a,ob,sm c,sm d,sm e,sm g,sm h,no],[C0,C1]⟩ st) n ob
def EX:CS:=On (.v (.o (.v (.v (.v (.v (.v (.n (.e 2))))))))) (kT tG qY aH 200) (Cb 200)
theorem zK:(AC tG qY aH:CS)=EX:=vK (.v (.o (.v (.v (.v (.v (.v (.n (.e 2))))))))) Cb (λκ ih a ob c d e g h C0 C1=>rA a d g h (λob st=>κ .nxt ⟨[sm a,ob,sm c,sm d,sm e,sm g,sm h,no],[C0,C1]⟩ st) (λob=>ih a ob c d e g h C0 C1) ob) (λ_=>rfl) (λ_ _=>rfl) (λ_ _=>by kernel_rfl)
def sV (ih:OV->OV->It->St->(Sj V->OV->OV->SB)->Sm)(ob oc:OV)(it:It)(st:St)(k:Sj V->OV->OV->SB):Sm:=aY st it (k [] ob oc st) λy1 it2=>(@dy.rec (λ_=>Sm) (λv3=>(iC 2 v3 st λl4=>(dc l4 λv5 l6=>(dc l6 λv7 l8=>(fX l8 (C9 v7 (.int 0) st λc9=>(aD c9 (ih (Si v5) (Si v7) it2 st λl10 o11 o12 s13=>k (bp [(.tup [v5,v7])] l10) o11 o12 s13) (ih (Si v5) (Si v7) it2 st k)))))))) (λ_ _=>dV) y1)
def vW (n:Nat):OV->OV->It->St->(Sj V->OV->OV->SB)->Sm:=@Tf (λ_=>_) (λ_ _ _ _ _=>dV) (λ_ ih=>sV  ih) n
def tN:eN:=(em (fM 2 (bg (ay dV 1) (bg (ay dV 2) eS))))
def rK:CT:=(bR C9 (aa dV 2) (ao (.int 0)))
def rU:CB:=(gt (cN (ae (aa dV 1) (ae (aa dV 2) av))))
def Bh (n:Nat):Fs.Fn (.n (.o (.o (.e 0)))) (It->St->(Sj V->Fs.Fo (.n (.o (.o (.e 0)))) SB)->Sm):=λob oc=>vW  n ob oc
def FJ:CE:=eA (iE (aa dV 7)) 3 0 [] (.n (.o (.o (.e 0)))) (bw tN rK rU 200) (Bh 200)
theorem By:(cF (iE (aa dV 7)) 3 0 [] tN rK rU:CE)=FJ:=cO (.n (.o (.o (.e 0)))) Bh (λih ob oc=>sV  (λob oc=>ih ob oc) ob oc) rfl (λ_=>rfl) (λ_=>by kernel_rfl)
def JJ:CS:=(aV (gB BH (ae Fc av)) (fM 2 (bg (ay dV 2) (bg (ay dV 3) eS))))
def Nm:CS:=(aV (gB BH (ae FR av)) (fM 2 (bg (ay dV 4) (bg (ay dV 5) eS))))
def J0:CS:=(aV (d0 (ae (ao (.int 0)) av)) (ay dV 6))
def Jm:CS:=EX
def L6:CS:=(aV (d0 (ae (cN (ae (aa dV 2) (ae (aA cf (aa dV 0) (aa dV 3)) av))) (ae (cN (ae (aa dV 4) (ae (aA cf (aa dV 0) (aa dV 5)) av))) (ae (cN (ae (aA aQ (aa dV 2) (aa dV 4)) (ae (aA cf (aA aQ (aa dV 3) (aa dV 5)) (aa dV 0)) av))) av)))) (ay dV 7))
def NK:CS:=(dq (cN (ae (aa dV 6) (ae FJ av))))
noncomputable def Jw:CS:=aH
def Ky:CS:=aq NK Jw
def KZ:CS:=aq L6 Ky
def N7:CS:=aq Jm KZ
def Nb:CS:=aq J0 N7
def Kc:CS:=aq Nm Nb
def Nz:CS:=aq JJ Kc
def Rq:CS:=Nz
def Sf:FN:=bk [(Sk,0),(Sk,1),(dV,0)] 8 2 Rq
noncomputable def Kq  (st:St)(k:KV):=k .none st
def KY (h i:V)(st:St)(kk:SB)(k:KV):=(xE i st λit1 s2=>(vW  200 none none it1 s2 λl3 _ _ s4=>aD (aB (aK l3)) (St.push s4 (.list l3) λn5 s6=>(k (.tup [h,(.ref n5)]) s6)) dV))
def JG (h i:V)(st:St)(k:KV):=KY h i st (λ st=>Kq  st k) k
def NN (a c d e g:V)(st:St)(kk:V->SB)(k:KV):=(cf a d st λv1 s2=>(cf a g s2 λv3 s4=>(aQ c e s4 λv5 s6=>(aQ d g s6 λv7 s8=>(cf v7 a s8 λv9 s10=>(St.push s10 (.list [(.tup [c,v1]),(.tup [e,v3]),(.tup [v5,v9])]) λn11 s12=>((λ(x13:V)=>(kk x13 s12)) (.ref n11))))))))
def M3 (a c d e g h:V)(st:St)(k:KV):=NN a c d e g st (λi st=>JG h i st k) k
def Mj (a d g h:V)(st:St)(kk:OV->SB)(k:KV):=(wR a d g h (λo2 s1=>(kk o2 s1))  200 none st)
def Of (a c d e g h:V)(st:St)(k:KV):=Mj a d g h st (λob st=>M3 a c d e g h st k) k
def Ni  (st:St)(kk:V->SB)(k:KV):=(St.push st (.list [(.int 0)]) λn1 s2=>((λ(x3:V)=>(kk x3 s2)) (.ref n1)))
def Kj (a c d e g:V)(st:St)(k:KV):=Ni  st (λh st=>Of a c d e g h st k) k
def Ms (a:V)(C0 C1:Nat)(st:St)(kk:V->V->SB)(k:KV):=(aG (.int 1) λi3=>aG a λi4=>eC i3 i4 1 st λit1 s2=>(wf C0 C1 200 none it1 s2 λl5 _ s6=>aD (aB (aK l5)) (St.push s6 (.list l5) λn7 s8=>(BH [(.ref n7)] s8 λv9 s10=>(iC 2 v9 s10 λl11=>(dc l11 λv12 l13=>(dc l13 λv14 l15=>(fX l15 (kk v12 v14 s10))))))) dV))
def LZ (a c d:V)(C0 C1:Nat)(st:St)(k:KV):=Ms a C0 C1 st (λe g st=>Kj a c d e g st k) k
def N1 (a:V)(C0 C1:Nat)(st:St)(kk:V->V->SB)(k:KV):=(aG (.int 1) λi3=>aG a λi4=>eC i3 i4 1 st λit1 s2=>(wF C0 C1 200 none it1 s2 λl5 _ s6=>aD (aB (aK l5)) (St.push s6 (.list l5) λn7 s8=>(BH [(.ref n7)] s8 λv9 s10=>(iC 2 v9 s10 λl11=>(dc l11 λv12 l13=>(dc l13 λv14 l15=>(fX l15 (kk v12 v14 s10))))))) dV))
def MJ (a:V)(C0 C1:Nat)(st:St)(k:KV):=N1 a C0 C1 st (λc d st=>LZ a c d C0 C1 st k) k
def RB (A0 A1 A2:V)(st:St)(k:KV):Sm:=(St.push st (.cell none) λC0 s_0=>(St.push s_0 (.cell none) λC1 s_1=>(kO C0 A0 s_1 λs_2=>(kO C1 A1 s_2 λs_3=>(MJ A2 C0 C1 s_3 k)))))
def Oy:FN:=λvs st k=>(dc vs λA0 vs=>(dc vs λA1 vs=>(dc vs λA2 vs=>(fX vs (RB A0 A1 A2 st k)))))
theorem Hf:Sf=Oy:=Ke λ_ _ _ _ _=>by kernel_rfl
def sM (ih:OV->OV->It->St->(Sj V->OV->OV->SB)->Sm)(ob oc:OV)(it:It)(st:St)(k:Sj V->OV->OV->SB):Sm:=aY st it (k [] ob oc st) λy1 it2=>(@dy.rec (λ_=>Sm) (λv3=>(iC 2 v3 st λl4=>(dc l4 λv5 l6=>(dc l6 λv7 l8=>(fX l8 (ih (Si v5) (Si v7) it2 st λl9 o10 o11 s12=>k (bp [v5] l9) o10 o11 s12)))))) (λ_ _=>dV) y1)
def xx (n:Nat):OV->OV->It->St->(Sj V->OV->OV->SB)->Sm:=@Tf (λ_=>_) (λ_ _ _ _ _=>dV) (λ_ ih=>sM  ih) n
def qL:eN:=(em (fM 2 (bg (ay dV 1) (bg (ay dV 2) eS))))
def Cj (n:Nat):Fs.Fn (.n (.o (.o (.e 0)))) (It->St->(Sj V->Fs.Fo (.n (.o (.o (.e 0)))) SB)->Sm):=λob oc=>xx  n ob oc
def FK:CE:=eA (iE (aa Sk 0)) 3 0 [] (.n (.o (.o (.e 0)))) (bw qL cA (gt (aa dV 1)) 200) (Cj 200)
theorem zu:(cF (iE (aa Sk 0)) 3 0 [] qL cA (gt (aa dV 1)):CE)=FK:=cO (.n (.o (.o (.e 0)))) Cj (λih ob oc=>sM  (λob oc=>ih ob oc) ob oc) rfl (λ_=>rfl) (λ_=>by kernel_rfl)
def sF (C0:Nat)(ih:OV->OV->It->St->(Sj V->OV->OV->SB)->Sm)(ob oc:OV)(it:It)(st:St)(k:Sj V->OV->OV->SB):Sm:=aY st it (k [] ob oc st) λy1 it2=>(@dy.rec (λ_=>Sm) (λv3=>(iC 2 v3 st λl4=>(dc l4 λv5 l6=>(dc l6 λv7 l8=>(fX l8 (fD C0 st λx9=>(ix v5 x9 st λKm=>(aD Km (ih (Si v5) (Si v7) it2 st λl11 o12 o13 s14=>k (bp [v7] l11) o12 o13 s14) (ih (Si v5) (Si v7) it2 st k))))))))) (λ_ _=>dV) y1)
def wH (C0:Nat)(n:Nat):OV->OV->It->St->(Sj V->OV->OV->SB)->Sm:=@Tf (λ_=>_) (λ_ _ _ _ _=>dV) (λ_ ih=>sF C0 ih) n
def t5:eN:=(em (fM 2 (bg (ay dV 1) (bg (ay dV 2) eS))))
def qQ:CT:=(bR ix (aa dV 1) (aa Sk 0))
def Cv (n:Nat):Fs.Fn (.n (.o (.o (.e 1)))) (It->St->(Sj V->Fs.Fo (.n (.o (.o (.e 1)))) SB)->Sm):=λob oc C0=>wH C0 n ob oc
def FB:CE:=eA (iE (aa Sk 1)) 3 0 [0] (.n (.o (.o (.e 1)))) (bw t5 qQ (gt (aa dV 2)) 200) (Cv 200)
theorem zs:(cF (iE (aa Sk 1)) 3 0 [0] t5 qQ (gt (aa dV 2)):CE)=FB:=cO (.n (.o (.o (.e 1)))) Cv (λih ob oc C0=>sF C0 (λob oc=>ih ob oc C0) ob oc) rfl (λ_=>rfl) (λ_=>by kernel_rfl)
def sr (C0 C1:Nat)(ih:It->St->(Sj V->SB)->Sm)  (it:It)(st:St)(k:Sj V->SB):Sm:=aY st it (k []  st) λy1 it2=>(@dy.rec (λ_=>Sm) (λv3=>(kO C0 v3 st λs4=>(fD C1 s4 λx7=>(xE x7 s4 λit5 s6=>(wH C0 200 none none it5 s6 λl8 _ _ s9=>aD (aB (aK l8)) (St.push s9 (.list l8) λn10 s11=>(BT [(.ref n10)] s11 λv12 s13=>(ih  it2 s13 λl14  s15=>k (bp [v12] l14)  s15))) dV))))) (λ_ _=>dV) y1)
def wc (C0 C1:Nat)(n:Nat):It->St->(Sj V->SB)->Sm:=@Tf (λ_=>_) (λ _ _ _=>dV) (λ_ ih=>sr C0 C1 ih) n
def uw:CB:=(gt (gB BT (ae FB av)))
def Bz (n:Nat):Fs.Fn (.n (.e 2)) (It->St->(Sj V->Fs.Fo (.n (.e 2)) SB)->Sm):=λC0 C1=>wc C0 C1 n
def Fd:CE:=eA (dH (ao (.int 1)) (aA aQ (aa dV 0) (ao (.int 1)))) 1 1 [0] (.n (.e 2)) (bw (em (ay Sk 0)) cA uw 200) (Bz 200)
theorem zd:(cF (dH (ao (.int 1)) (aA aQ (aa dV 0) (ao (.int 1)))) 1 1 [0] (em (ay Sk 0)) cA uw:CE)=Fd:=cO (.n (.e 2)) Bz (λih C0 C1=>sr C0 C1 (ih C0 C1)) rfl (λ_=>rfl) (λ_=>by kernel_rfl)
def N3:CS:=(aV (gB HH (ae FK av)) (ay dV 0))
def LP:CS:=(aV Fd (ay dV 1))
def LW:CS:=(dq (cN (ae (gB EH (ae (aa dV 1) av)) (ae (ao (.int 0)) av))))
noncomputable def Jd:CS:=aH
def MA:CS:=aq LW Jd
def Lg:CS:=aq LP MA
def Ki:CS:=aq N3 Lg
def Rt:CS:=Ki
def Sc:FN:=bk [(Sk,0)] 2 1 Rt
noncomputable def MM  (st:St)(k:KV):=k .none st
def NV (b:V)(st:St)(kk:SB)(k:KV):=(EH [b] st λv1 s2=>(k (.tup [v1,(.int 0)]) s2))
def Mv (b:V)(st:St)(k:KV):=NV b st (λ st=>MM  st k) k
def Ks (a:V)(C0:Nat)(st:St)(kk:V->SB)(k:KV):=(aQ a (.int 1) st λv3 s4=>(aG (.int 1) λi5=>aG v3 λi6=>eC i5 i6 1 s4 λit1 s2=>(St.push s2 (.cell none) λc7 s12=>(wc c7 C0 200  it1 s12 λl8  s9=>aD (aB (aK l8)) (St.push s9 (.list l8) λn10 s11=>((λ(x13:V)=>(kk x13 s11)) (.ref n10))) dV))))
def Lo (a:V)(C0:Nat)(st:St)(k:KV):=Ks a C0 st (λb st=>Mv b st k) k
def ND  (C0:Nat)(st:St)(kk:V->SB)(k:KV):=(fD C0 st λx3=>(xE x3 st λit1 s2=>(xx  200 none none it1 s2 λl4 _ _ s5=>aD (aB (aK l4)) (St.push s5 (.list l4) λn6 s7=>(HH [(.ref n6)] s7 λv8 s9=>(kk v8 s9))) dV)))
def Kl  (C0:Nat)(st:St)(k:KV):=ND C0 st (λa st=>Lo a C0 st k) k
def RQ (A0:V)(st:St)(k:KV):Sm:=(St.push st (.cell none) λC0 s_0=>(kO C0 A0 s_0 λs_1=>(Kl C0 s_1 k)))
def OD:FN:=λvs st k=>(dc vs λA0 vs=>(fX vs (RQ A0 st k)))
theorem HS:Sc=OD:=Bt λ_ _ _=>by kernel_rfl
def uu (C0:Nat)(ih:OV->OV->It->St->(Sj V->OV->OV->SB)->Sm)(ob oc:OV)(it:It)(st:St)(k:Sj V->OV->OV->SB):Sm:=aY st it (k [] ob oc st) λy1 it2=>(@dy.rec (λ_=>Sm) (λv3=>(iC 2 v3 st λl4=>(dc l4 λv5 l6=>(dc l6 λv7 l8=>(fX l8 (aG v5 λi9=>(fD C0 st λx10=>(Cm (.int (Z9 i9)) x10 st λv11 s12=>(aG v11 λi13=>(bJ (.int (Z9 i13)) v7 s12 λv14 s15=>(ih (Si v5) (Si v7) it2 s15 λl16 o17 o18 s19=>k (bp [v14] l16) o17 o18 s19))))))))))) (λ_ _=>dV) y1)
def wX (C0:Nat)(n:Nat):OV->OV->It->St->(Sj V->OV->OV->SB)->Sm:=@Tf (λ_=>_) (λ_ _ _ _ _=>dV) (λ_ ih=>uu C0 ih) n
def qZ:eN:=(em (fM 2 (bg (ay dV 1) (bg (ay dV 2) eS))))
def sP:CB:=(gt (aA bJ (qg (aA Cm (qg (aa dV 1)) (aa Sk 0))) (aa dV 2)))
def Bn (n:Nat):Fs.Fn (.n (.o (.o (.e 1)))) (It->St->(Sj V->Fs.Fo (.n (.o (.o (.e 1)))) SB)->Sm):=λob oc C0=>wX C0 n ob oc
def F2:CE:=eA (iE (aa dV 0)) 3 0 [0] (.n (.o (.o (.e 1)))) (bw qZ cA sP 200) (Bn 200)
theorem zp:(cF (iE (aa dV 0)) 3 0 [0] qZ cA sP:CE)=F2:=cO (.n (.o (.o (.e 1)))) Bn (λih ob oc C0=>uu C0 (λob oc=>ih ob oc C0) ob oc) rfl (λ_=>rfl) (λ_=>by kernel_rfl)
def LC:CS:=(dq (aA bJ (aa Sk 0) (gB BT (ae F2 av))))
noncomputable def Nc:CS:=aH
def KB:CS:=aq LC Nc
def Rp:CS:=KB
def RS:FN:=bk [(dV,0),(Sk,0)] 1 1 Rp
noncomputable def K9 (a:V)(C0:Nat)(st:St)(k:KV):=k .none st
def Le (a:V)(C0:Nat)(st:St)(kk:SB)(k:KV):=(fD C0 st λx1=>(xE a st λit2 s3=>(wX C0 200 none none it2 s3 λl4 _ _ s5=>aD (aB (aK l4)) (St.push s5 (.list l4) λn6 s7=>(BT [(.ref n6)] s7 λv8 s9=>(bJ x1 v8 s9 λv10 s11=>(k v10 s11)))) dV)))
def Mp (a:V)(C0:Nat)(st:St)(k:KV):=Le a C0 st (λ st=>K9 a C0 st k) k
def RI (A0 A1:V)(st:St)(k:KV):Sm:=(St.push st (.cell none) λC0 s_0=>(kO C0 A1 s_0 λs_1=>(Mp A0 C0 s_1 k)))
def CX:FN:=λvs st k=>(dc vs λA0 vs=>(dc vs λA1 vs=>(fX vs (RI A0 A1 st k))))
theorem GR:RS=CX:=np λ_ _ _ _=>by kernel_rfl
end
theorem T.get_of:∀{t:T}{i:Nat}{o:O},t.look i=Si o->∀k:O->Sm,t.get i k=k o
 | .nil,_,_,h,_=>by exact iq h
 | .node v l r,0,o,h,k=>by cases h;rfl
 | .node v l r,j+1,o,h,k=>by
  have h:(if j % 2=0 then l.look (j / 2) else r.look (j / 2))=Si o:=h
  show @Ti (λ_=>Sm) (r.get (j / 2) k) (l.get (j / 2) k) (SN (j % 2) 0)=k o
  by_cases q:j % 2=0
  ·rw[SX q] at h
   rw[q]
   exact T.get_of h k
  ·rw[SK q] at h
   rw[beqF q]
   exact T.get_of h k
theorem St.get_of (h:s.look i=Si o)(k:O->Sm):s.get i k=k o:=T.get_of h k
theorem eV {x:α}{k:α->Sm}{z:Sm}:∀{l:Sj α}{i:Nat},l[i]? = Si x->getL l i k z=k x
 | [],i,h=>by simp at h
 | y::l,0,h=>by simp at h;subst h;rfl
 | y::l,i+1,h=>by
  show getL l i k z=k x
  exact eV (by simpa using h)
theorem fy {a b:Sm}:aD Sk a b=a:=rfl
theorem Hm {a b:Sm}:aD dV a b=b:=rfl
theorem tb {a b c:Sm}(h:a=b)(w:b=c):a=c:=h.trans w
theorem il {b t e:Sm}(h:b=Sk):aD b t e=t:=by rw[h];rfl
theorem bI {a b:Nat}(h:a<=b):SZ a b=Sk:=TZ h
theorem bS (h:n<=1152921504606846975):small (.ofNat n)=Sk:=bI h
noncomputable section
def CY (v:V)(k:Nat->Sm):Sm:=aG v λi=>@UY (λ_=>Sm) k (λ_=>dV) i
end
theorem He {k:Nat->Sm}(h:CY v k=Sk):∃n:Nat,v=.int (.ofNat n)/\k n=Sk:=by
 refine aO h λi e81 h1=>?_;clear h;subst e81
 induction i with
 | ofNat n=>exact⟨n,rfl,h1⟩
 | negSucc n=>exact ff h1
theorem A7 {P:Prop} {k:Nat->Sm}(h:CY v k=Sk)(H:∀n:Nat,v=.int (.ofNat n)->k n=Sk->P):P:=uF (He h) H
section
variable {st:St}{k:KV}{a b:Nat}
theorem nk (ha:a<=1152921504606846975)(hb:b<=1152921504606846975):bJ (.int (.ofNat a)) (.int (.ofNat b)) st k=k (.int (.ofNat (a*b))) st:=by
 show aD (small (.ofNat a)) (aD (small (.ofNat b)) (k (.int (GP (.ofNat a) (.ofNat b))) st) dV) dV=_
 rw[bS ha,bS hb];rfl
end
inductive Sh:T->T->Prop
 | nil:Sh .nil .nil
 | node {v w:O} {l l' r r':T}:Sh l l'->Sh r r'->Sh (.node v l r) (.node w l' r')
theorem Sh.refl:∀t:T,Sh t t
 | .nil=>.nil
 | .node _ l r=>.node (Sh.refl l) (Sh.refl r)
theorem Sh.symm {t u:T}(h:Sh t u):Sh u t:=by
 induction h with
 | nil=>exact .nil
 | node _ _ a b=>exact .node a b
theorem Sh.trans {t u w:T}(h:Sh t u)(q:Sh u w):Sh t w:=by
 induction h generalizing w with
 | nil=>exact q
 | node _ _ a b=>cases q with | node c d=>exact .node (a c) (b d)
inductive JI (t:T)(i:Nat)(o:O):Prop
 | mk (t':T) (e:∀k,t.set i o k=k t') (l:∀j,t'.look j=if j=i then Si o else t.look j) (h:Sh t t')
theorem T.set_l {v:O}{l:T} {k:T->Sm}(q:i % 2=0):(T.node v l r).set (i+1) o k=l.set (i / 2) o λl=>k (.node v l r):=by
 show @Ti (λ_=>Sm) (r.set (i / 2) o λr=>k (.node v l r)) (l.set (i / 2) o λl=>k (.node v l r)) (SN (i % 2) 0)=_
 rw[q];rfl
theorem T.set_r {v:O}{l:T} {k:T->Sm}(q:¬i % 2=0):(T.node v l r).set (i+1) o k=r.set (i / 2) o λr=>k (.node v l r):=by
 show @Ti (λ_=>Sm) (r.set (i / 2) o λr=>k (.node v l r)) (l.set (i / 2) o λl=>k (.node v l r)) (SN (i % 2) 0)=_
 rw[T.beqF q]
theorem T.ins_l {v:O}{l:T} {k:T->Sm}(q:i % 2=0):(T.node v l r).ins (i+1) o k=l.ins (i / 2) o λl=>k (.node v l r):=by
 show @Ti (λ_=>Sm) (r.ins (i / 2) o λr=>k (.node v l r)) (l.ins (i / 2) o λl=>k (.node v l r)) (SN (i % 2) 0)=_
 rw[q];rfl
theorem T.ins_r {v:O}{l:T} {k:T->Sm}(q:¬i % 2=0):(T.node v l r).ins (i+1) o k=r.ins (i / 2) o λr=>k (.node v l r):=by
 show @Ti (λ_=>Sm) (r.ins (i / 2) o λr=>k (.node v l r)) (l.ins (i / 2) o λl=>k (.node v l r)) (SN (i % 2) 0)=_
 rw[T.beqF q]
theorem T.set_sh {t:T} (h:(t.look i).isSome=Sk):JI t i o:=by
 induction t generalizing i with
 | nil=>exact ff h
 | node v l r ihl ihr=>
  induction i with
  | zero=>exact⟨.node o l r,λ_=>rfl,look_0,.node (Sh.refl l) (Sh.refl r)⟩
  | succ i=>
   rw[isSome_node] at h
   by_cases q:i % 2=0
   ·rw[SX q] at h
    obtain⟨t',a,b,c⟩:=ihl h
    exact⟨.node v t' r,λk=>(set_l q).trans (a _),look_l q b,.node c (Sh.refl r)⟩
   ·rw[SK q] at h
    obtain⟨t',a,b,c⟩:=ihr h
    exact⟨.node v l t',λk=>(set_r q).trans (a _),look_r q b,.node (Sh.refl l) c⟩
inductive Md (t u:T)(i:Nat)(o o':O):Prop
 | mk (t' u':T) (e:∀k,t.ins i o k=k t') (e':∀k,u.ins i o' k=k u') (l:∀j,t'.look j=if j=i then Si o else t.look j) (l':∀j,u'.look j=if j=i then Si o' else u.look j) (h:Sh t' u')
theorem T.ins_sh {k:T->Sm}{t u:T} (s:Sh t u)(h:t.ins i o k=Sk):Md t u i o o':=by
 induction s generalizing i k with
 | nil=>
  induction i with
  | zero=>exact⟨.node o .nil .nil,.node o' .nil .nil,λ_=>rfl,λ_=>rfl,look_n,look_n,.node .nil .nil⟩
  | succ i=>exact ff h
 | @node v w l l' r r' a b iha ihb=>
  induction i with
  | zero=>exact ff h
  | succ i=>
   by_cases q:i % 2=0
   ·obtain⟨t',u',h1,h2,h3,h4,h5⟩:=iha ((ins_l q).symm.trans h)
    exact⟨.node v t' r,.node w u' r',λk=>(ins_l q).trans (h1 _),λk=>(ins_l q).trans (h2 _),look_l q h3,look_l q h4,.node h5 b⟩
   ·obtain⟨t',u',h1,h2,h3,h4,h5⟩:=ihb ((ins_r q).symm.trans h)
    exact⟨.node v l t',.node w l' u',λk=>(ins_r q).trans (h1 _),λk=>(ins_r q).trans (h2 _),look_r q h3,look_r q h4,.node a h5⟩
theorem St.push_sh {u:St} {k:Nat->St->Sm}(hn:s.n=u.n)(h:Sh s.t u.t)(q:s.push o k=Sk):∃s' u',(∀k,s.push o k=k s.n s')/\(∀k,u.push o' k=k u.n u')/\s'.n=s.n+1/\u'.n=u.n+1/\(∀j,s'.look j=if j=s.n then Si o else s.look j)/\(∀j,u'.look j=if j=u.n then Si o' else u.look j)/\Sh s'.t u'.t:=by
 obtain⟨t',u',h1,h2,h3,h4,h5⟩:=T.ins_sh (o':=o') h q
 exact⟨⟨s.n+1,t'⟩,⟨u.n+1,u'⟩,λk=>h1 _,λk=>by show u.t.ins u.n o' _=_;rw[←hn];exact h2 _,rfl,rfl,h3,λj=>by show u'.look j=_;rw[h4,hn];rfl,h5⟩
theorem St.set_sh (h4:4<=i)(h:(s.look i).isSome=Sk):∃s',(∀k,s.set i o k=k s')/\s'.n=s.n/\(∀j,s'.look j=if j=i then Si o else s.look j)/\Sh s.t s'.t:=by
 obtain⟨t',a,b,c⟩:=T.set_sh (o:=o) h
 refine⟨⟨s.n,t'⟩,λk=>?_,rfl,b,c⟩
 show aD (SZ 4 i) (s.t.set i o λt=>k ⟨s.n,t⟩) dV=_
 rw[bI h4,fy];exact a _
structure HI (s u:St):Prop where
 n:u.n=s.n
 at_:∀i,u.look i=s.look i\/(u.look i=Si .hid/\(s.look i).isSome=Sk/\4<=i)
theorem Inv.hide {u:St}{s:Sw}(I:Inv C σ st s)(h:HI st u):Inv C σ u s:=by
 have back:∀{i:Nat} {o:O},u.look i=Si o->o≠.hid->st.look i=Si o:=λ{i o} e n=>by
  rcases h.at_ i with q | ⟨q,_⟩
  ·rw[←q];exact e
  ·rw[q] at e;exact Tc (Si.inj e).symm n
 have hid:∀{i:Nat},st.look i=Si .hid->u.look i=Si .hid:=λ{i} e=>by
  rcases h.at_ i with q | ⟨q,_⟩
  ·rw[q];exact e
  ·exact q
 have inst:∀{i c d fs l},(u.look i=Si (.inst c d fs)\/u.look i=Si (.lsub c d fs l))->(st.look i=Si (.inst c d fs)\/st.look i=Si (.lsub c d fs l)):=λ{i c d fs l} e=>e.imp (λe=>back e (λq=>nomatch q)) (λe=>back e (λq=>nomatch q))
 have safe:∀j,Safe st j->Safe u j:=λj x=>⟨hid x.1,λi c d fs l e=>x.2 i c d fs l (inst e)⟩
 refine⟨I.base,I.nodup,I.new,h.n.trans I.n,λi o e=>?_,λi c d fs l e=>hid (I.dict i c d fs l (inst e)),λi j c d fs l c' d' fs' l' e e'=>I.apart i j c d fs l c' d' fs' l' (inst e) (inst e'),dQ I.tabs (λ_ _ e=>e) safe λ_ _ _ _ _ g=>g,λi a o m=>?_⟩
 ·rcases h.at_ i with q | ⟨q,z,_⟩
  ·exact I.at_ i o (q▸e)
  ·rw[q] at e
   cases e
   obtain⟨o',e'⟩:=S7.mp z
   obtain⟨a,ha,_⟩:=I.at_ i o' e'
   exact⟨a,ha,trivial⟩
 ·obtain⟨q1,q2,q3,l,q4⟩:=I.fix i a o m
  refine⟨q1,q2,q3,l,?_⟩
  rcases h.at_ i with q | ⟨_,_,q⟩
  ·rw[q];exact q4
  ·lia
open Classical in
theorem DE {H I:FN}(hi:∀vs st k,I vs st k=Sk->H vs st (λv s=>decide (∃u,HI s u/\k v u=Sk))=Sk)(h:eY C d f H):eY C d f I:=by
 intro A σ st s k l us R Iv r q
 refine VG (h A σ st s _ l us R Iv r (hi l st k q)) ?_
 rintro r s' z
 rcases r with e | (v | _ | _ | _)
 all_goals first | exact z.elim | skip
 obtain⟨σ',v',st',S,I',rv,hk⟩:=z
 refine aE (S8 hk) λu hu ku=>?_
 exact⟨σ',v',u,S,I'.hide hu,rv,ku⟩
noncomputable section
def ik (cs:Sj Nat)(b:Nat):Sj Nat:=@S5 Nat (λ_=>Nat->Sj Nat) (λb=>@Tf (λ_=>Sj Nat) [1] (λ_ ih=>0::ih) b) (λc r ih b=>@Tf (λ_=>Sj Nat) (TA c::r) (λm _=>c::ih m) b) cs b
def OC (l:Sj Nat):Sj Nat->Nat->Nat->Nat->St->(Sj Nat->Nat->Nat->Nat->St->Sm)->Sm:=@S5 Nat (λ_=>Sj Nat->Nat->Nat->Nat->St->(Sj Nat->Nat->Nat->Nat->St->Sm)->Sm)
 (λcs b n nt st k=>k cs b n nt st)
 (λc _ ih cs b n nt st k=>aD (SN c 32) (ih cs (TA b) (TA n) nt st k) (aD (SN c 9)
  (aD (SZ (aK cs) b) (st.push .hid λ_ st=>st.push .hid λ_ st=>st.push .hid λ_ st=>ih (ik cs b) 0 (TA n) (TA nt) st k) (ih (ik cs b) 0 (TA n) (TA nt) st k)) (k cs b n nt st))) l
noncomputable def ak (c:Nat):V:=.int (.ofNat c)
abbrev Om (c d:Nat)(w cs:Sj Nat)(b n nt:Nat):O:=.inst c d [(0,.str w),(1,ak n),(2,ak nt),(3,.tup [.tup (fE ak cs),ak b]),(4,.bool (SZ (aK cs) 1))]
def BQ (o:O)(k:Nat->Nat->Sj (Nat×V)->Sm):Sm:=@O.rec (λ_=>Sm) (λ_=>dV) (λ_=>dV) k (λ_ _ _ _=>dV) dV o
def RG (c d p:Nat)(w:Sj Nat)(st:St)(k:KV):Sm:=st.push .hid λ_ st=>OC w [] 0 0 0 st λcs b n nt st=>st.set p (Om c d w cs b n nt) λst=>k .none st
def I0:FN:=λvs st k=>Fk vs λself ws=>dB ws λw=>aD (fT w) (aD (SZ (aK w) 150) (bB self λp=>aD (SZ 4 p) (aD (SZ (TA p) st.n) (st.get p λo=>BQ o λc d fs=>fX fs (RG c d p w st k)) dV) dV) dV) dV
end
section
variable {s:St}{q:Nat}{l:List V}
theorem bj (h:s.look q=Si (.list l))(K:Sj V->Sm):bh s q K=K l:=St.get_of h _
theorem qi {K:KV}(h:s.look q=Si (.list l))(hl:l.length<=4095):dU [.ref q] s K=K (ak l.length) s:=by
 refine(St.get_of h _).trans ?_
 show aD (aB (aK l)) (K (.int (TG (aK l))) s) dV=_
 rw[aC,show aB l.length=Sk from bI hl];rfl
theorem cq {K:KV}{a:Nat}{x:V}(h:s.look q=Si (.list l))(hx:l[a]? = Si x)(ha:a<=4095):cZ (.ref q) (ak a) s K=K x s:=by
 show aD (small (.ofNat a)) (s.get q λo=>gQ o λl=>Hh l (.ofNat a) λv=>K v s) dV=_
 rw[bS (by lia),fy,St.get_of h]
 exact eV hx
theorem ww (a b:Nat):CV [a] [b]=SN a b:=by
 show aD (SN a b) Sk dV=_
 cases SN a b <;> rfl
theorem xt {v:α}{k:Sj α->Sm}:∀{l:Sj α}{i:Nat},i<l.length->nF l i v k=k (l.set i v)
 | [],i,h=>by simp at h
 | _::_,0,_=>rfl
 | x::l,i+1,h=>by
  show nF l i v (λq=>k (x::q))=_
  rw[xt (by simpa using h)];rfl
theorem zj {a b:Nat}(h:b<=a):iG (.ofNat a) (.ofNat b)=.ofNat (a - b):=by rw[ey];simp only[UB];lia
end
theorem gm {K:KV}:aQ (ak n) (.int 1) s K=K (ak (n+1)) s:=rfl
theorem hZ {a b:Nat} {K:KV}(h:b<=a):cf (ak a) (ak b) s K=K (ak (a - b)) s:=by
 show K (.int (iG (.ofNat a) (.ofNat b))) s=_
 rw[zj h];rfl
theorem iA {z:Nat} {K:KV} (h:s.look z=Si (.list l))(hm:m<=4095)(hl:l.length*m<=4095):bJ (.ref z) (ak m) s K=s.push (.list (cw l m)) λn st=>K (.ref n) st:=by
 show bh s z (λl'=>aD (small (.ofNat m)) (aD (aB (XI (aK l') m)) (s.push (.list (cw l' m)) λn st=>K (.ref n) st) dV) dV)=_
 rw[bj h,bS (by lia),fy,aC,show aB (XI l.length m)=Sk from bI hl,fy]
theorem nV {a b:Nat} {K:KV} (h:s.look a=Si (.list l))(h':s.look b=Si (.list q))(hl:l.length+q.length<=4095):aQ (.ref a) (.ref b) s K=s.push (.list (bp l q)) λn st=>K (.ref n) st:=by
 show bh s a (λl'=>bh s b λq'=>aD (aB (Zz (aK l') (aK q'))) (s.push (.list (bp l' q')) λn st=>K (.ref n) st) dV)=_
 rw[bj h,bj h',aC,aC,show aB (Zz l.length q.length)=Sk from bI hl,fy]
theorem d8 (cs:Sj Nat):(cs.map ak).length=cs.length:=S6 ..
noncomputable section
def CO (p0:Int)(r:Nat)(p:Int):Int:=Af (iG p p0) (.ofNat r)
noncomputable def zM (n:Nat):Nat->Sj Nat:=@Tf (λ_=>Nat->Sj Nat) (λ_=>[]) (λ_ ih j=>j::ih (TA j)) n
def Dh (step ring n:Nat):Sj Nat:=fE (λj=>YH (XI j step) ring) (zM n 0)
def IW (step ring cnt q:Nat)(rv:V)(st:St)(k:KV):Sm:=St.push st (.cell none) λc_0 s=>St.push s (.cell none) λc_1 s=>St.push s (.cell none) λc_2 s=>St.push s (.cell none) λc_3 s=>kO c_0 (.ref q) s λs=>kO c_1 rv s λs=>
 St.push s (.list (fE ak (Dh step ring cnt))) λn s=>kO c_3 (.ref n) s λs=>wj c_0 c_1 c_2 c_3 s k
def Hn (step ring cnt q:Nat)(fm:Fm)(st:St)(k:KV):Sm:=getL fm.cel 0 (λc=>st.get c λo=>eo o λw=>cU w λrv=>CY rv λr=>aD (SN r ring) (IW step ring cnt q rv st k) dV) dV
def GC (step ring N:Nat)(fm:Fm)(st:St)(k:KV):Sm:=getL fm.loc 6 (λo=>cU o λcv=>CY cv λcnt=>aD (SZ 1 cnt) (aD (SZ cnt N) (bh st 0 λl=>st.push (.list (fg l cnt)) λq st=>Hn step ring cnt q fm st k) dV) dV) dV
def w8 (step ring N:Nat):CE:=λfm st k=>getL fm.loc 4 (λo=>cU o λpv=>bB pv λp=>aD (SN p 0) (GC step ring N fm st k) dV) dV
end
theorem EL {k:Nat->St->Sm}(h:s.push o k=Sk):∃s',(∀K,s.push o K=K s.n s')/\s'.n=s.n+1/\(∀j,s'.look j=if j=s.n then Si o else s.look j):=by
 refine pk (St.push_sh (o':=o) (s:=s) (u:=s) rfl (Sh.refl _) h) λs' _ h1 _ h3 _ h5 _=>?_
 exact⟨s',h1,h3,h5⟩
theorem Iw {k:St->Sm}(h:kO c v s k=Sk):∃s',(∀K,kO c v s K=K s')/\s'.n=s.n/\(∀j,s'.look j=if j=c then Si (.cell (Si v)) else s.look j):=by
 refine St.get_e h λo ho h1=>?_;clear h
 refine g9 h1 λw e81 h2=>?_;clear h1;subst e81
 refine St.set_e h2 λs' a b c' d=>?_;clear h2
 refine fC (St.set_sh (s:=s) (i:=c) (o:=.cell (Si v)) c'.1 c'.2) λs2 e1 e2 e3 _=>?_
 exact⟨s2,λK=>(St.get_of ho _).trans (e1 K),e2,e3⟩
theorem se {q c0 r:Nat}{ps:Sj Int}{p0:Int} (hr:1<=r)(hr2:r<=1000)(hq:s.look q=Si (.list (ps.map V.int)))(h0:s.look c0=Si (.cell (Si (.ref q))))(h1:s.look c1=Si (.cell (Si (.int (.ofNat r)))))(hp:ps[0]? = Si p0) :
  ∀(l:Sj Int) (i f:Nat) (o1:SV V) (K:Sj V->SV V->St->Sm),ps.drop i=l->l.length<f->(∀o,K (l.map λp=>.int (CO p0 r p)) o s=Sk)->gI c0 c1 f o1 (.seq q i) s K=Sk
 | [],i,f+1,o1,K,hd,hf,hK=>by
  show bh s q (λl=>getL l i (λv=>_) (K [] o1 s))=Sk
  refine tb (bj hq ..) ?_
  have hi:ps.length<=i:=by
   have:=SU Sj.length hd
   simp at this;lia
  have:∀{α:Type} {l:Sj α} {i:Nat} {k:α->Sm} {z:Sm},l.length<=i->getL l i k z=z:=by
   intro α l
   induction l with
   | nil=>intro i k z _;rfl
   | cons x l ih=>
    intro i k z h
    induction i with
    | zero=>simp at h
    | succ i=>exact ih (by simpa using h)
  refine tb (this (by simpa using hi) ..) ?_
  exact hK o1
 | p::l,i,f+1,o1,K,hd,hf,hK=>by
  have hli:(ps.map V.int)[i]? = Si (.int p):=by
   rw[TM,←Vo,hd];rfl
  have hd':ps.drop (i+1)=l:=by rw[←W3,hd];rfl
  show jt c0 c1 (gI c0 c1 f) o1 (.seq q i) s K=Sk
  have ih:=se hr hr2 hq h0 h1 hp l (i+1) f
  generalize gI c0 c1 f=W at ih ⊢
  unfold jt
  show bh s q (λl=>getL l i (λv=>_) (K [] o1 s))=Sk
  rw[bj hq,eV hli]
  have rd0:∀K:V->Sm,fD c0 s K=K (.ref q):=λK=>St.get_of h0 _
  have rd1:∀K:V->Sm,fD c1 s K=K (.int (.ofNat r)):=λK=>St.get_of h1 _
  show fD c0 s (λx189=>cZ x189 (.int 0) s λv190 s191=>cf (.int p) v190 s191 λv192 s193=>fD c1 s193 λx194=>ef v192 x194 s193 λv195 s196=>W (Si (.int p)) (.seq q (i+1)) s196 λl197 o198 s199=>K (bp [v195] l197) o198 s199)=Sk
  rw[rd0,show(V.int 0)=ak 0 from rfl,cq hq (x:=.int p0) (by rw[TM,hp];rfl) (by lia)]
  show fD c1 s (λx194=>ef (.int (iG p p0)) x194 s λv195 s196=>W (Si (.int p)) (.seq q (i+1)) s196 λl197 o198 s199=>K (bp [v195] l197) o198 s199)=Sk
  refine tb (rd1 ..) ?_
  show aD (small (.ofNat r)) (aD (jf (.ofNat r) 0) dV (W (Si (.int p)) (.seq q (i+1)) s λl197 o198 s199=>K (bp [.int (CO p0 r p)] l197) o198 s199)) dV=Sk
  have er:jf (.ofNat r) 0=dV:=by rw[dt];exact Tt (by simp only[UB];lia)
  rw[bS (by lia),er,fy,Hm]
  simp only[Tg] at hf
  exact ih _ _ hd' (by lia) λo=>hK o
structure xn (step ring N:Nat)(ps:Sj Int):Prop where
 len:ps.length=N
 le:N<=100
 one:1<=ring
 big:ring<=1000
 far:∀n,1<=n->n<=N->∃p0,ps[0]? = Si p0/\(ps.take n).map (λp=>V.int (CO p0 ring p))=(Dh step ring n).map ak
theorem lM {k k':Nat->St->Sm}(h:s.push o k=Sk)(H:∀s',s'.n=s.n+1->(∀j,s'.look j=if j=s.n then Si o else s.look j)->k s.n s'=Sk->k' s.n s'=Sk):s.push o k'=Sk:=by
 refine fF (EL h) λs' e n l=>?_
 exact(e k').trans (H s' n l ((e k).symm.trans h))
theorem J9 {k k':St->Sm}(h:kO c v s k=Sk)(H:∀s',s'.n=s.n->(∀j,s'.look j=if j=c then Si (.cell (Si v)) else s.look j)->k s'=Sk->k' s'=Sk):kO c v s k'=Sk:=by
 refine fF (Iw h) λs' e n l=>?_
 exact(e k').trans (H s' n l ((e k).symm.trans h))
theorem HT {step:Nat}{ps:Sj Int} {k:KV}(P:xn step ring N ps)(hl:st.look 0=Si (.list (ps.map V.int)))(h:w8 step ring N fm st k=Sk) :
  fc FZ (ae (uS (aa dV 4) (ao .none) (aa dV 6)) (ae (aa Sk 0) av)) fm st k=Sk:=by
 refine gJ h λo4 h4 h=>?_
 refine gz h λpv e81 h=>?_;subst e81
 refine bN h λp e81 h=>?_;subst e81
 refine aM h λhp0 h=>?_
 have hp0:=SQ hp0
 subst hp0
 refine gJ (show getL fm.loc 6 _ dV=Sk from h) λo6 h6 h=>?_
 refine gz h λcv e81 h=>?_;subst e81
 refine A7 h λcnt e81 h=>?_;subst e81
 refine aM h λhc1 h=>?_
 refine aM h λhcN h=>?_
 have hc1:=Sp hc1
 have hcN:=Sp hcN
 rw[bj hl,gq] at h
 have hlen:(ps.map V.int).length=N:=by rw[S6];exact P.len
 have:=P.le
 show getL fm.loc 4 (λo=>cU o λv=>getL fm.loc 6 (λo=>cU o λz=>uN v .none z st λv st=>getL fm.cel 0 (λn=>st.get n λo=>eo o λw=>cU w λrv=>FZ [v,rv] st k) dV) dV) dV=Sk
 refine(eV h4).trans ?_
 show getL fm.loc 6 (λo=>cU o λz=>uN (.ref 0) .none z st λv st=>getL fm.cel 0 (λn=>st.get n λo=>eo o λw=>cU w λrv=>FZ [v,rv] st k) dV) dV=Sk
 refine(eV h6).trans ?_
 show st.get 0 (λo=>gQ o λl=>aD (aB (aK l)) (st.push (.list (fg l (eW (.ofNat cnt) (aK l)))) λm st=>getL fm.cel 0 (λn=>st.get n λo=>eo o λw=>cU w λrv=>FZ [.ref m,rv] st k) dV) dV)=Sk
 refine(St.get_of hl _).trans ?_
 show aD (aB (aK (ps.map V.int))) (st.push (.list (fg (ps.map V.int) (eW (.ofNat cnt) (aK (ps.map V.int))))) λm st=>getL fm.cel 0 (λn=>st.get n λo=>eo o λw=>cU w λrv=>FZ [.ref m,rv] st k) dV) dV=Sk
 have hclip:eW (.ofNat cnt) N=cnt:=by
  show @Ti (λ_=>Nat) cnt N (SZ N cnt)=cnt
  cases z:SZ N cnt with
  | false=>rfl
  | true=>have:=Sp z;show N=cnt;lia
 rw[aC,hlen,show aB N=Sk from bI (by lia),fy,hclip,gq,←Xo]
 rw[←Xo] at h
 refine lM h λs0 n0 l0 h=>?_
 refine gJ (show getL fm.cel 0 _ dV=Sk from h) λc hc h=>?_
 refine(eV hc).trans ?_
 refine St.get_e h λoc hoc h=>?_
 refine g9 h λw e81 h=>?_;subst e81
 refine gz h λrv e81 h=>?_;subst e81
 refine A7 h λr e81 h=>?_;subst e81
 refine aM h λhr h=>?_
 have hr:=SQ hr
 subst hr
 refine(St.get_of hoc _).trans ?_
 show St.push s0 (.cell none) (λc_0 s_0=>(St.push s_0 (.cell none) λc_1 s_1=>(St.push s_1 (.cell none) λc_2 s_2=>(St.push s_2 (.cell none) λc_3 s_3=>(kO c_0 (.ref st.n) s_3 λs_4=>(kO c_1 (.int (.ofNat r)) s_4 λs_5=>(FV c_0 c_1 c_2 c_3 s_5 k)))))))=Sk
 refine lM (show St.push s0 (.cell none) _=Sk from h) λs1 n1 l1 h=>?_
 refine lM h λs2 n2 l2 h=>?_
 refine lM h λs3 n3 l3 h=>?_
 refine lM h λs4 n4 l4 h=>?_
 refine J9 h λs5 n5 l5 h=>?_
 refine J9 h λs6 n6 l6 h=>?_
 have hq:s6.look st.n=Si (.list ((ps.take cnt).map V.int)):=by
  rw[l6,SK (by lia),l5,SK (by lia),l4,SK (by lia),l3,SK (by lia),l2,SK (by lia),l1,SK (by lia),l0,SX rfl]
 have hc0:s6.look s0.n=Si (.cell (Si (.ref st.n))):=by rw[l6,SK (by lia),l5,SX rfl]
 have hc1':s6.look s1.n=Si (.cell (Si (.int (.ofNat r)))):=by rw[l6,SX rfl]
 refine aE (P.far cnt hc1 hcN) λp0 hp0 hfar=>?_
 have hp0':(ps.take cnt)[0]? = Si p0:=by rw[Sj.getElem?_take_of_lt (by lia)];exact hp0
 have hlt:(ps.take cnt).length=cnt:=by rw[YC,P.len];lia
 show fD s0.n s6 (λx273=>xE x273 s6 λit271 s272=>gI s0.n s1.n 200 none it271 s272 λl274 _ s275=>aD (aB (aK l274)) (St.push s275 (.list l274) λn276 s277=>kO s3.n (.ref n276) s277 λs278=>wj s0.n s1.n s2.n s3.n s278 k) dV)=Sk
 have rd0:∀K:V->Sm,fD s0.n s6 K=K (.ref st.n):=λK=>St.get_of hc0 _
 refine(rd0 _).trans ?_
 show bh s6 st.n (λ_=>gI s0.n s1.n 200 none (.seq st.n 0) s6 λl274 _ s275=>aD (aB (aK l274)) (St.push s275 (.list l274) λn276 s277=>kO s3.n (.ref n276) s277 λs278=>wj s0.n s1.n s2.n s3.n s278 k) dV)=Sk
 refine(bj hq _).trans ?_
 refine se P.one P.big hq hc0 hc1' hp0' (ps.take cnt) 0 200 none _ rfl (by lia) λo=>?_
 rw[hfar,aC,d8]
 have hfl:(Dh step r cnt).length=cnt:=by
  have:=SU Sj.length hfar
  rw[S6,S6,hlt] at this
  exact this.symm
 rw[hfl,show aB cnt=Sk from bI (by lia),fy,←eq]
 exact h
noncomputable section
noncomputable def fh (pl:Sj V)(ring step:Nat):St:=⟨12,.node (.list pl)
 (.node .hid (.node .hid (.node (.cell none) .nil .nil) (.node .hid .nil .nil)) (.node (.cell (Si (ak step))) (.node (.cell none) .nil .nil) .nil))
 (.node .hid (.node (.cell (Si (ak ring))) (.node (.cell none) .nil .nil) .nil) (.node .hid (.node (.list []) .nil .nil) .nil))⟩
noncomputable def z6 (many:Nat):Fm:=⟨[none,Si (ak many),none,none,Si (.ref 0),Si (.ref 10),none,none,none,none,none,none,none,none,none,none,none,none,none,none,none,none,none,none,none,none,none,none,none,none],[4,5,6,7,8,9]⟩
end
inductive TL:T->Sj O->Prop
 | nil:TL .nil []
 | node {v:O} {l r:T} {q:Sj O}:TL l (kW q Sk)->TL r (kW q dV)->TL (.node v l r) (v::q)
theorem wG (q:Sj O):∀k,(kW q Sk)[k]? = q[2*k]? /\ (kW q dV)[k]? = q[2*k+1]?:=by
 induction q with
 | nil=>exact λ_=>⟨rfl,rfl⟩
 | cons x r ih=>exact λk=>⟨match k with
  | 0=>rfl
  | k+1=>(ih k).2,(ih k).1⟩
theorem TL.look {t:T}{q:Sj O}(h:TL t q):∀i,t.look i=q[i]?:=by
 induction h with
 | nil=>exact λ_=>rfl
 | @node v l r q _ _ iha ihb=>
  intro i
  match i with
  | 0=>rfl
  | j+1=>
   show(if j % 2=0 then l.look (j / 2) else r.look (j / 2))=q[j]?
   by_cases z:j % 2=0
   ·rw[SX z,iha,(wG q _).1,show 2*(j / 2)=j by lia]
   ·rw[SK z,ihb,(wG q _).2,show 2*(j / 2)+1=j by lia]
inductive qd {α:Type}(P:Nat->α->Prop):Sj α->Nat->Prop
 | nil {n:Nat}:qd P [] n
 | cons {o:α} {r:Sj α} {n:Nat}:P n o->qd P r (n+1)->qd P (o::r) n
theorem B7 {P:Nat->α->Prop}{q:Sj α} (h:qd P q n):∀{i:Nat}{o:α},q[i]? = Si o->P (n+i) o:=by
 induction h with
 | nil=>exact λe=>iq e
 | cons h _ ih=>exact λ{i o} e=>match i,e with
  | 0,e=>Si.inj e▸h
  | i+1,e=>Ui _ i▸ih e
theorem zH {P:Nat->α->Prop}{q:Sj α}(h:qd P q 0) {o:α}(e:q[i]? = Si o):P i o:=Wd i▸B7 h e
theorem th {P:Nat->α->Prop}{o:α}(h:∀n,P n o):∀(k n:Nat),qd P (Sv k o) n
 | 0,_=>.nil
 | k+1,n=>.cons (h n) (th h k (n+1))
theorem oU {P:Nat->O->Prop}{pl:Sj V}{step:Nat} (h:qd P [.list pl,.hid,.hid,.hid,.cell (Si (ak ring)),.cell (Si (ak step)),.hid,.cell none,.cell none,.cell none,.list [],.hid] 0)(e:(fh pl ring step).look i=Si o):P i o:=by
 have q:TL (fh pl ring step).t [.list pl,.hid,.hid,.hid,.cell (Si (ak ring)),.cell (Si (ak step)),.hid,.cell none,.cell none,.cell none,.list [],.hid]:=
  .node (.node (.node (.node .nil .nil) (.node .nil .nil)) (.node (.node .nil .nil) .nil)) (.node (.node (.node .nil .nil) .nil) (.node (.node .nil .nil) .nil))
 exact zH h ((q.look i).symm.trans e)
inductive Idx (σ:Sj Sx):Sj Nat->Sj Sx->Prop
 | nil:Idx σ [] []
 | cons {i:Nat} {a:Sx} {is:Sj Nat} {as:Sj Sx}:σ[i]? = Si a->Idx σ is as->Idx σ (i::is) (a::as)
theorem Idx.mem {is:Sj Nat}{as:Sj Sx}(f:Idx σ is as) (m:a∈as):∃i∈is,σ[i]? = Si a:=by
 induction f with
 | nil=>cases m
 | cons h _ ih=>
  rcases SD.mp m with rfl | m
  ·exact⟨_,.head _,h⟩
  ·refine aE (ih m) λi mi hi=>?_
   exact⟨i,.tail _ mi,hi⟩
theorem xO {s:Sw}(I:Inv C σ st s){is:Sj Nat}{as:Sj Sx}(f:Idx σ is as)(nd:is.Nodup):as.Nodup:=by
 induction f with
 | nil=>exact .nil
 | cons h t ih=>
  rw[VL] at nd ⊢
  refine⟨λm=>nd.1 ?_,ih nd.2⟩
  refine aE (t.mem m) λj mj hj=>?_
  rw[I.inj h hj];exact mj
structure Shape (st:St)(fm:Fm)(ring step many:Nat)(ps:Sj Int)(iP i0 i1 i2 i3 i4 i5 iS iX:Nat):Prop where
 nd:[iP,i0,i1,i2,i3,i4,i5,iS,iX].Nodup
 len:fm.loc.length=30
 l1:fm.loc[1]? = Si (Si (ak many))
 l4:fm.loc[4]? = Si (Si (.ref iP))
 l5:fm.loc[5]? = Si (Si (.ref iS))
 cel:fm.cel=[i0,i1,i2,i3,i4,i5]
 four:4<=iP/\4<=i0/\4<=i1/\4<=i2/\4<=i3/\4<=i4/\4<=i5/\4<=iS/\4<=iX
 P:st.look iP=Si (.list (ps.map V.int))
 c0:st.look i0=Si (.cell (Si (ak ring)))
 c1:st.look i1=Si (.cell (Si (ak step)))
 c2:∃o,st.look i2=Si o/\o≠.hid
 c3:st.look i3=Si (.cell none)
 c4:st.look i4=Si (.cell none)
 c5:st.look i5=Si (.cell none)
 S:st.look iS=Si (.list [])
 X:∃o,st.look iX=Si o/\o≠.hid
noncomputable abbrev Cfg.pin (C:Cfg)(a:Sx)(o:Obj):Cfg:={ C with fix:=[(0,a,o)] }
section
variable {C:Cfg}{σ:List Addr}{st:St}{s:Shared}{fm:Fm}{ring step many:Nat}{ps:List Int}{iP i0 i1 i2 i3 i4 i5 iS iX:Nat}
inductive Told (st:St)(i:Nat):Prop
 | mk (h:4<=i) (o:O) (e:st.look i=Si o) (n:o≠.hid)
theorem Shape.told (H:Shape st fm ring step many ps iP i0 i1 i2 i3 i4 i5 iS iX):∀i∈[iP,i0,i1,i2,i3,i4,i5,iS,iX],Told st i:=by
 obtain⟨f1,f2,f3,f4,f5,f6,f7,f8,f9⟩:=H.four
 exact du ⟨f1,_,H.P,nofun⟩ (du ⟨f2,_,H.c0,nofun⟩ (du ⟨f3,_,H.c1,nofun⟩ (du (H.c2.elim λo q=>⟨f4,o,q.1,q.2⟩) (du ⟨f5,_,H.c3,nofun⟩ (du ⟨f6,_,H.c4,nofun⟩ (du ⟨f7,_,H.c5,nofun⟩ (du ⟨f8,_,H.S,nofun⟩ (du (H.X.elim λo q=>⟨f9,o,q.1,q.2⟩) uQ))))))))
theorem Told.nh (x:Told st i)(e':st.look j=Si .hid):i≠j:=λq=>by
 obtain⟨_,o,e,n⟩:=x
 exact n (Si.inj (e.symm.trans (q▸e')))
theorem D9 {x:Nat}{l:Sj Nat}(h:∀y∈l,x≠y)(t:l.Nodup):(x::l).Nodup:=VL.mpr ⟨λm=>h x m rfl,t⟩
theorem Shape.nod (H:Shape st fm ring step many ps iP i0 i1 i2 i3 i4 i5 iS iX){j1 j2 j3 jX:Nat}(h1:st.look j1=Si .hid)(h2:st.look j2=Si .hid)(h3:st.look j3=Si .hid)(d12:j1≠j2)(d13:j1≠j3)(d23:j2≠j3)(hX:jX∉[iP,i0,i1,i2,i3,i4,i5,iS])(x1:jX≠j1)(x2:jX≠j2)(x3:jX≠j3):[iP,j1,j2,j3,i0,i1,i2,i3,i4,i5,iS,jX].Nodup:=by
 have nd:([iP,i0,i1,i2,i3,i4,i5,iS]++[iX]).Nodup:=H.nd
 have nd8:=(Vq.mp nd).1
 have told:∀i∈[iP,i0,i1,i2,i3,i4,i5,iS],Told st i:=λi m=>H.told i (Un [iX] m)
 have n9:([iP,i0,i1,i2,i3,i4,i5,iS]++[jX]).Nodup:=Vq.mpr ⟨nd8,D9 (λ_ m=>nomatch m) .nil,λa ha b hb q=>hX (Sn.mp hb▸q▸ha)⟩
 have up:∀{j},st.look j=Si .hid->jX≠j->∀y∈[iP,i0,i1,i2,i3,i4,i5,iS,jX],j≠y:=λe x y m=>(Tj.mp (show y∈[iP,i0,i1,i2,i3,i4,i5,iS]++[jX] from m)).elim (λm=>((told y m).nh e).symm) λm=>Sn.mp m▸x.symm
 have n12:=D9 (du d12 (du d13 (up h1 x1))) (D9 (du d23 (up h2 x2)) (D9 (up h3 x3) n9))
 exact(aaT.nodup_iff (aaB (l₁:=[j1,j2,j3]) (a:=iP) (l₂:=[i0,i1,i2,i3,i4,i5,iS,jX]))).mp n12
def Rk (o:O):Prop:=@O.rec (λ_=>Prop) (λ_=>True) (λ_=>True) (λ_ _ _=>False) (λ_ _ _ _=>False) True o
inductive Nk (C:Cfg)(s:Sw)(aX:Sx):Prop
 | mk (qs:Array Sr) (g:s.heap.get? 281=Si { cls:=.none,data:=.fields qs }) (tr:Ys qs.toList) (cv:∀cv,W8 eF.pos qs.toList=Si cv->cv=.ref aX/\(∀P∈C.tabs.map (·.tab),P≠aX)/\s.heap.CodeRec cv eF.q)
inductive NM (C:Cfg)(σ:Sj Sx)(st:St)(s:Sw)(l:Sj Nat)(j1 j2 j3:Nat):Prop
 | mk (jX:Nat) (aX:Sx) (h:σ[jX]? = Si aX) (h4:4<=jX\/st.look jX=Si .hid) (out:jX∉l) (x1:jX≠j1) (x2:jX≠j2) (x3:jX≠j3) (lam:Nk C s aX)
theorem Hu (ht:C.tabs=[gN,gM,eF])(H:Shape st fm ring step many ps iP i0 i1 i2 i3 i4 i5 iS iX)(told:∀i∈[iP,i0,i1,i2,i3,i4,i5,iS],Told st i)(tX:Told st iX){aX:Sx}(hX:σ[iX]? = Si aX){j1 j2 j3:Nat}
  (hj1:σ[j1]? = Si 206) (hj2:σ[j2]? = Si 213) (hj3:σ[j3]? = Si 281) (sj1:Safe st j1) (sj2:Safe st j2) (sj3:Safe st j3) (ok3:TabOk (C.tabs.map (·.tab)) σ st s.heap eF):NM C σ st s [iP,i0,i1,i2,i3,i4,i5,iS] j1 j2 j3:=by
 obtain⟨qs,g,tr,cv⟩:=ok3
 cases hc:W8 eF.pos qs.toList with
 | none=>
  refine⟨iX,aX,hX,.inl H.four.2.2.2.2.2.2.2.2,λm=>?_,tX.nh sj1.1,tX.nh sj2.1,tX.nh sj3.1,qs,g,tr,λc e=>by rw[hc] at e;exact iq e⟩
  have nd:([iP,i0,i1,i2,i3,i4,i5,iS]++[iX]).Nodup:=H.nd
  exact(Vq.mp nd).2.2 iX m iX (.head _) rfl
 | some c=>
  refine C8 (cv rfl c hc) λj c e82 hj sj hp hrec=>?_;subst e82
  refine⟨j,c,hj,.inr sj.1,λm=>?_,?_,?_,?_,qs,g,tr,λc' e=>by rw[hc] at e;cases e;exact⟨rfl,hp,hrec⟩⟩
  ·exact(told j m).nh sj.1 rfl
  ·intro q;rw[q,hj1] at hj;exact hp 206 (by rw[ht];exact .head _) (Si.inj hj)
  ·intro q;rw[q,hj2] at hj;exact hp 213 (by rw[ht];exact .tail _ (.head _)) (Si.inj hj)
  ·intro q;rw[q,hj3] at hj;exact hp 281 (by rw[ht];exact .tail _ (.tail _ (.head _))) (Si.inj hj)
inductive Du (C:Cfg)(σ:Sj Sx)(st:St)(s:Sw)(ring step:Nat)(ps:Sj Int)(iP i0 i1 i2 i3 i4 i5 iS:Nat):Prop
 | mk (aP:Sx) (vs:Sj Sr) (n:Nat) (a0 a1 a2 a3 a4 a5 aS aX:Sx) (hP:σ[iP]? = Si aP) (h0:σ[i0]? = Si a0) (h1:σ[i1]? = Si a1) (h2:σ[i2]? = Si a2) (h3:σ[i3]? = Si a3) (h4:σ[i4]? = Si a4) (h5:σ[i5]? = Si a5) (hS:σ[iS]? = Si aS) (hI:UK vs ps) (g:s.heap.get? aP=Si (cB vs n))
   (hin:∀a∈[aP,206,213,281,a0,a1,a2,a3,a4,a5,aS,aX],∃i,σ[i]? = Si a/\(4<=i\/st.look i=Si .hid)) (I:Inv (C.pin aP (cB vs n)) [aP,206,213,281,a0,a1,a2,a3,a4,a5,aS,aX] (fh (ps.map V.int) ring step) s)
theorem G6 (ht:C.tabs=[gN,gM,eF])(I:Inv C σ st s)(H:Shape st fm ring step many ps iP i0 i1 i2 i3 i4 i5 iS iX) :
  Du C σ st s ring step ps iP i0 i1 i2 i3 i4 i5 iS:=by
 obtain⟨aP,hP,vs,n,gP,rP⟩:=I.at_ _ _ H.P
 obtain⟨a0,h0,u0,x0,y0⟩:=I.at_ _ _ H.c0
 obtain⟨a1,h1,u1,x1,y1⟩:=I.at_ _ _ H.c1
 refine aE (H.c2) λo2 e2 n2=>?_
 obtain⟨a2,h2,_⟩:=I.at_ _ _ e2
 obtain⟨a3,h3,x3⟩:=I.at_ _ _ H.c3
 obtain⟨a4,h4,x4⟩:=I.at_ _ _ H.c4
 obtain⟨a5,h5,x5⟩:=I.at_ _ _ H.c5
 obtain⟨aS,hS,vS,nS,gS,rS⟩:=I.at_ _ _ H.S
 refine aE (H.X) λoX eX nX=>?_
 obtain⟨aX,hX,_⟩:=I.at_ _ _ eX
 obtain⟨j1,hj1,sj1,ok1⟩:=I.tabs gN (by rw[ht];exact .head _)
 obtain⟨j2,hj2,sj2,ok2⟩:=I.tabs gM (by rw[ht];exact .tail _ (.head _))
 obtain⟨j3,hj3,sj3,ok3⟩:=I.tabs eF (by rw[ht];exact .tail _ (.tail _ (.head _)))
 have hj1:σ[j1]? = Si 206:=hj1
 have hj2:σ[j2]? = Si 213:=hj2
 have hj3:σ[j3]? = Si 281:=hj3
 have dj:∀{j j':Nat} {a a':Sx},σ[j]? = Si a->σ[j']? = Si a'->a≠a'->j≠j':=λh h' n q=>n (Si.inj (h.symm.trans (q▸h')))
 have told:∀i∈[iP,i0,i1,i2,i3,i4,i5,iS],Told st i:=λi m=>H.told i (Un [iX] m)
 have tX:Told st iX:=H.told iX (Za [iP,i0,i1,i2,i3,i4,i5,iS] (.head _))
 obtain⟨jX,aX,hjX,hj4,hout,hx1,hx2,hx3,lam⟩:=Hu ht H told tX hX hj1 hj2 hj3 sj1 sj2 sj3 ok3
 have idx:Idx σ [iP,j1,j2,j3,i0,i1,i2,i3,i4,i5,iS,jX] [aP,206,213,281,a0,a1,a2,a3,a4,a5,aS,aX]:=
  .cons hP (.cons hj1 (.cons hj2 (.cons hj3 (.cons h0 (.cons h1 (.cons h2 (.cons h3 (.cons h4 (.cons h5 (.cons hS (.cons hjX .nil)))))))))))
 have nd:=H.nod sj1.1 sj2.1 sj3.1 (dj hj1 hj2 (lC rfl)) (dj hj1 hj3 (lC rfl)) (dj hj2 hj3 (lC rfl)) hout hx1 hx2 hx3
 refine⟨aP,vs,n,a0,a1,a2,a3,a4,a5,aS,aX,hP,h0,h1,h2,h3,h4,h5,hS,eI rP,gP,λa m=>?_,?_⟩
 ·refine aE (idx.mem m) λi mi hi=>?_
  have big:∀i∈[iP,i0,i1,i2,i3,i4,i5,iS],4<=i\/st.look i=Si .hid:=λi m=>by
   obtain⟨h,_⟩:=told i m
   exact .inl h
  have all:=du (P:=λi=>4<=i\/st.look i=Si .hid) (.inl H.four.1) (du (.inr sj1.1) (du (.inr sj2.1) (du (.inr sj3.1) λi m=>(Tj.mp (show i∈[i0,i1,i2,i3,i4,i5,iS]++[jX] from m)).elim (λm=>big i (.tail _ m)) λm=>Sn.mp m▸hj4)))
  exact⟨i,hi,all i mi⟩
 have no0:∀{i o},(fh (ps.map V.int) ring step).look i=Si o->Rk o:=λe=>oU (P:=λ_ o=>Rk o) (.cons trivial (.cons trivial (.cons trivial (.cons trivial (.cons trivial (.cons trivial (.cons trivial (.cons trivial (.cons trivial (.cons trivial (.cons trivial (.cons trivial .nil)))))))))))) e
 have noinst:∀{i c d fs q},¬((fh (ps.map V.int) ring step).look i=Si (.inst c d fs)\/(fh (ps.map V.int) ring step).look i=Si (.lsub c d fs q)):=λe=>e.elim no0 no0
 have safe:∀j,(fh (ps.map V.int) ring step).look j=Si .hid->Safe (fh (ps.map V.int) ring step) j:=λj e=>⟨e,λi c d fs q z=>(noinst z).elim⟩
 have int0:∀{u:Sr} {z:Nat} {σ':Sj Sx},VR σ s.heap (ak z) u->VR σ' s.heap (ak z) u:=λr=>VR.int_e r λ_=>.int _ _
 refine⟨I.base,xO I idx nd,λa m=>?_,rfl,λi o e=>?_,λi c d fs q e=>(noinst e).elim,λi j c d fs q c' d' fs' q' e=>(noinst e).elim,λt m=>?_,λi a o m=>?_⟩
 ·refine aE (idx.mem m) λi _ hi=>?_
  exact I.new a (Su hi)
 ·have rS':VRs [aP,206,213,281,a0,a1,a2,a3,a4,a5,aS,aX] s.heap [] vS:=VRs.nil_e rS .nil
  exact oU (P:=λi o=>JZ [aP,206,213,281,a0,a1,a2,a3,a4,a5,aS,aX] s.heap i o) (.cons ⟨aP,rfl,vs,n,gP,fb (eI rP)⟩ (.cons ⟨206,rfl,trivial⟩ (.cons ⟨213,rfl,trivial⟩ (.cons ⟨281,rfl,trivial⟩ (.cons ⟨a0,rfl,u0,x0,int0 y0⟩ (.cons ⟨a1,rfl,u1,x1,int0 y1⟩ (.cons ⟨a2,rfl,trivial⟩ (.cons ⟨a3,rfl,x3⟩ (.cons ⟨a4,rfl,x4⟩ (.cons ⟨a5,rfl,x5⟩ (.cons ⟨aS,rfl,vS,nS,gS,rS'⟩ (.cons ⟨aX,rfl,trivial⟩ .nil)))))))))))) e
 ·have m:t∈C.tabs:=m
  refine du (P:=wq (C.tabs.map (·.tab)) [aP,206,213,281,a0,a1,a2,a3,a4,a5,aS,aX] (fh (ps.map V.int) ring step) s.heap) ?_ (du ?_ (du ?_ uQ)) t (ht▸m)
  ·obtain⟨qs,g,tr,_⟩:=ok1
   exact⟨1,rfl,safe 1 rfl,qs,g,tr,nofun⟩
  ·obtain⟨qs,g,tr,_⟩:=ok2
   exact⟨2,rfl,safe 2 rfl,qs,g,tr,nofun⟩
  ·obtain⟨qs,g,tr,cv⟩:=lam
   refine⟨3,rfl,safe 3 rfl,qs,g,tr,λ_ c e=>?_⟩
   refine kS (cv c e) λe80 hp hrec=>?_;subst e80
   exact⟨11,aX,rfl,rfl,safe 11 rfl,hp,hrec⟩
 ·have m:(i,a,o)∈[(0,aP,cB vs n)]:=m
  cases Sn.mp m
  exact⟨(bo rfl),rfl,gP,_,rfl⟩
end
theorem jb:aL []:=⟨λ_ _=>rfl,.inl rfl⟩
theorem bc {e:Expr} (h1:∀env pos,(W9 pos (T4 (e::es) env)).any (·.1)=dV)(h2:∀env,T4 (e::es) env=(dV,eval e env)::T4 es env):aL (e::es):=⟨h1,.inr ⟨_,_,rfl,h2⟩⟩
theorem fq {o:Expr}{name:Str} {pl:Env->Sem Sm}(h:∀env,eval (.Call (.Attribute o name apos) es [] pos) env=(do
   let ov ←eval o env
   UG apos.atName
   let (f,first) ←holding [ov] (Wz ov name (pl env))
   Xr pos f first (W9 pos (T4 es env)) (backToKw pos (Zl [] env)))):d6 o name apos es pos:=⟨pl,h⟩
section
variable {C:Cfg}{fx:Fx}{d d' c:Nat}{i:Nat}{x name:Str}{p pos apos:Pos}{es:List Expr}{cs:CA}{e a b target iter:Expr}{ce ca cb:CE}{f:FN}{v:Value}{fa:Addr}{t:Expr}{ct:CG}{body orelse:List Stmt}{sa sz:CS}{gi:eN}{ci:CI}
theorem uv {q:Sm}(hx:gU fx q i=Si x:=by exact rfl)(hok:fx.ok=Sk:=by assumption):SE C fx d (.Name x pos) (aa q i):=cD hx hok
theorem uc (he:SE C fx d e ce)(hs:SA C fx d es cs)(hp:∀env,T4 (e::es) env=(dV,eval e env)::T4 es env:=by exact λ_=>rfl):SA C fx d (e::es) (ae ce cs):=cP he hs hp
theorem ug {q:Sm}(hx:gU fx q i=Si x:=by exact rfl)(hown:q=Sk->x∈fx.own:=by first | exact ff | exact λ_=>bx (by kernel_rfl))(hok:fx.ok=Sk:=by assumption):SG C fx d (.Name x pos) (ay q i):=iU hx hown hok
theorem ua (he:SE C fx d e ce)(ht:SG C fx d t ct)(hs:∀env,ba fx env->Xl [t] e pos.line env=pure dV:=by exact λ_ _=>rfl)(hw:∀env,ba fx env->VP [t] e env=pure none:=by exact λ_ _=>rfl)(hm:∀env,(Uc [t] env).map (·.2)=[assign t env]:=by exact λ_=>rfl):SS C fx d (.Assign [t] e pos) (aV ce ct):=qj hs hw hm he ht
theorem ut {ts:Sj Expr}{cgs:xL}(ht:SG C fx d t ct)(hs:I5 C fx d ts cgs)(he:∀env,Uc (t::ts) env=(dV,assign t env)::Uc ts env:=by exact λ_=>rfl):I5 C fx d (t::ts) (bg ct cgs):=lI he ht hs
theorem up (hs:SA C fx d es cs)(hn:es.length<=4000:=by exact Sp rfl):SE C fx d (.Tuple es n pos) (cN cs):=vA hn hs
theorem ul (hs:SA C fx d es cs)(hn:es.length<=4000:=by exact Sp rfl):SE C fx d (.List es pos) (d0 cs):=zo hn hs
theorem us {l:Sj Nat}{kk:Nat}(hx:x=⟨l.toArray⟩:=by kernel_rfl):SE C fx d (.Constant (.str x) kk pos) (ao (.str l)):=jc hx
theorem uf (hg:SGI C fx d target gi)(hi:SI C fx d iter ci)(ha:SL C fx d body sa)(hb:SL C fx d orelse sz)(hf:∀env x,Tv iter env x=pure x:=by exact λ_ _=>rfl):SS C fx d (.For target iter body orelse pos) (iT gi ci sa sz):=G7 hf hg hi ha hb
theorem ux (he:SE C fx d e ce)(hs:∀env,VO e none pos.line env=pure dV:=by exact λ_=>rfl):SS C fx d (.Expr e pos) (dI ce):=Ej hs he
theorem um {o:CmpOp}{op:CP}(hop:yY C o op)(ha:SE C fx d a ca)(hb:SE C fx d b cb)(hm:ZR o b=dV:=by exact rfl):ST C fx d (.Compare a [o] [b] pos) (bR op ca cb):=zN hop hm ha hb
namespace Base
variable {P:Params}
theorem ta (W:Base C P){k:Nat}(ha:SE C fx d a ca)(hn:name=aW k:=by exact rfl)(he:∀env,eval (.Attribute a name pos) env=(do
   let o ←eval a env
   UG pos.atName
   let r ←holding [o] (PySem.getAttr o name Sk)
   V3 a o r
   pure r):=by exact λ_=>rfl):SE C fx d (.Attribute a name pos) (bv ca k):=EA W.ok W.J hn ha he
theorem ts (W:Base C P)(ha:SE C fx d a ca)(hi:SE C fx d b cb)(hs:∀o x,subscripted b dV o x=operate [o,x] (XM o x):=by exact λ_ _=>rfl):SE C fx d (.Subscript a b pos) (dw ca cb):=jQ W.ok W.J W.JS hs ha hi
theorem mt (W:Base C P)(m:de C c name fa)(hf:eY C d' (.ref fa) f)(ho:SE C fx d a ca)(hs:SA C fx d es cs)(hm:d6 a name apos es pos:=by exact fq λ_=>rfl)(hd:d'<=d:=by exact Sp rfl)(hp:aL es:=by first | exact jb | exact bc (λ_ _=>rfl) λ_=>rfl):SE C fx d (.Call (.Attribute a name apos) es [] pos) (bz c f ca cs):=wo W.ok W.J hm m (lS hf) hd hp ho hs
theorem bi (W:Base C P)(g:GB C x v)(hf:SF C d' v f)(hs:SA C fx d es cs)(hk:Keeps C v:=by exact ck)(hok:fx.ok=Sk:=by assumption)(hx:x∈fx.gn:=by exact bx (by kernel_rfl))(hd:d'<=d:=by exact Sp rfl)(hp:aL es:=by first | exact jb | exact bc (λ_ _=>rfl) λ_=>rfl):SE C fx d (.Call (.Name x p) es [] pos) (gB f cs):=jg W.ok hok hx g hk hf hd hp hs
theorem cl (W:Base C P)(g:GB C x v)(hk:Keeps C v)(hf:eY C d' v f)(hs:SA C fx d es cs)(hok:fx.ok=Sk:=by assumption)(hx:x∈fx.gn:=by exact bx (by kernel_rfl))(hd:d'<=d:=by exact Sp rfl)(hp:aL es:=by first | exact jb | exact bc (λ_ _=>rfl) λ_=>rfl):SE C fx d (.Call (.Name x p) es [] pos) (fc f cs):=lr W.ok hok hx g hk (lS hf) hd hp hs
theorem nw (W:Base C P)(g:GB C x (.ref (dJ c)))(N:sB C c fa)(hf:eY C d' (.ref fa) f)(hs:SA C fx d es cs)(hc:c<2:=by exact Sp rfl)(hok:fx.ok=Sk:=by assumption)(hx:x∈fx.gn:=by exact bx (by kernel_rfl))(hd:d'+1<=d:=by exact Sp rfl)(hp:aL es:=by first | exact jb | exact bc (λ_ _=>rfl) λ_=>rfl):SE C fx d (.Call (.Name x p) es [] pos) (iD c f cs):=Gu W.ok hc hok hx g N hf hd hp hs
theorem ga (W:Base C P){k:Nat}(ha:SE C fx d a ca)(hn:name=aW k:=by exact rfl)(hx:k<12:=by exact Sp rfl):SG C fx d (.Attribute a name pos) (eQ ca k):=vU W.ok W.J hn hx ha
theorem fno (W:Base C P) {xs:Sj Str}(h9:nA (aR (aZ (KH P) fa).scope) ps xs)(h10:∀us:Sj Sr,us.length=ps.length->∀s:Sw,(KH P).In s.heap->Ug s (aZ (KH P) fa) ⟨us,[]⟩ (xs.zip us))(h1:CZ (KH P) fa=Sk:=by kernel_rfl)(h2:codeIn (KH P) (aZ (KH P) fa).code (aZ (KH P) fa).qualname=Sk:=by kernel_rfl)(h3:(aZ (KH P) fa).body=.stmts (aI (KH P) fa):=by kernel_rfl)(h4:(aZ (KH P) fa).globals=S4:=by kernel_rfl)(h5:(aZ (KH P) fa).builtins=Ua:=by kernel_rfl)
  (h6:(aZ (KH P) fa).scope.isCoroutine=dV:=by kernel_rfl) (h7:(aZ (KH P) fa).scope.isGenerator=dV:=by kernel_rfl) (h8:dT (aZ (KH P) fa).scope=Sk:=by kernel_rfl):bY C fa (aZ (KH P) fa) (aI (KH P) fa) ps xs:=Nn W.K h1 h2 h3 h4 h5 h6 h7 h8 h9 h10
end Base
theorem te (W:TSub C d)(ha:SE C fx d a ca)(he:∀env whole,Vb a env whole=(do let v ←whole;UG a.pos;holding [v] (truthy v)):=by exact λ_ _=>rfl):ST C fx d a (tE ca):=P5 W he ha
end
inductive Full:T->Nat->Prop
 | nil:Full .nil 0
 | node {v:O} {l r:T} {m:Nat}:Full l ((m+1) / 2)->Full r (m / 2)->Full (.node v l r) (m+1)
theorem Full.sh {t u:T} (h:Full t n)(q:Sh t u):Full u n:=by
 induction h generalizing u with
 | nil=>cases q;exact .nil
 | node a b iha ihb=>cases q with | node c d=>exact .node (iha c) (ihb d)
theorem Full.iff {t:T} (h:Full t n):∀i,(t.look i).isSome=Sk↔i<n:=by
 induction h with
 | nil=>exact λi=>⟨λh=>ff h,λh=>Tc h (U7 _)⟩
 | @node v l r m a b iha ihb=>
  intro i
  induction i with
  | zero=>exact⟨λ_=>YI _,λ_=>rfl⟩
  | succ j=>
   rw[T.isSome_node,Nat.succ_lt_succ_iff]
   by_cases q:j % 2=0
   ·rw[SX q,iha,AJ q]
   ·rw[SK q,ihb,AR q]
theorem Full.isin {t:T} (h:Full t n)(i:Nat):i<n->(t.look i).isSome=Sk:=(h.iff i).mpr
inductive EC (t:T)(n:Nat)(o:O):Prop
 | mk (t':T) (e:∀k:T->Sm,t.ins n o k=k t') (F:Full t' (n+1)) (l:∀j,t'.look j=if j=n then Si o else t.look j)
theorem Full.ins {t:T} (h:Full t n)(o:O):EC t n o:=by
 induction h with
 | nil=>exact⟨.node o .nil .nil,λ_=>rfl,.node .nil .nil,T.look_n⟩
 | @node v l r m a b iha ihb=>
  by_cases q:m % 2=0
  ·obtain⟨t',h1,h2,h3⟩:=iha
   rw[BE q] at h1 h2 h3
   exact⟨.node v t' r,λk=>(T.ins_l q).trans (h1 _),.node ((aan (z:=2) m Nat.two_pos).symm▸h2) ((BE q).symm▸b),T.look_l q h3⟩
  ·obtain⟨t',h1,h2,h3⟩:=ihb
   exact⟨.node v l t',λk=>(T.ins_r q).trans (h1 _),.node ((aan (z:=2) m Nat.two_pos).symm▸y9 q▸a) ((y9 q).symm▸h2),T.look_r q h3⟩
def St.Fu (s:St):Prop:=Full s.t s.n
inductive I4 (s:St)(o:O):Prop
 | mk (s':St) (e:∀k,s.push o k=k s.n s') (F:s'.Fu) (n:s'.n=s.n+1) (l:∀j,s'.look j=if j=s.n then Si o else s.look j)
inductive SetFu (s:St)(i:Nat)(o:O)(f:(St->Sm)->Sm):Prop
 | mk (s':St) (e:∀k,f k=k s') (F:s'.Fu) (n:s'.n=s.n) (l:∀j,s'.look j=if j=i then Si o else s.look j)
section
variable {s:St}
theorem dK (h:s.Fu)(o:O):I4 s o:=by
 obtain⟨t',h1,h2,h3⟩:=Full.ins h o
 exact⟨⟨s.n+1,t'⟩,λk=>h1 _,h2,rfl,h3⟩
theorem gZ (h:s.Fu) (h4:4<=i)(hi:i<s.n)(o:O):SetFu s i o (s.set i o):=by
 refine fC (St.set_sh (o:=o) h4 (Full.isin h i hi)) λs' h1 h2 h3 h5=>?_
 refine⟨s',h1,?_,h2,h3⟩
 show Full s'.t s'.n
 rw[h2];exact Full.sh h h5
theorem pc (h:s.Fu) (h4:4<=i)(hi:i<s.n){w:SV V}(hl:s.look i=Si (.cell w))(v:V):SetFu s i (.cell (Si v)) (kO i v s):=by
 obtain⟨s',h1,h2,h3,h5⟩:=gZ h h4 hi (.cell (Si v))
 exact⟨s',λk=>(St.get_of hl _).trans (h1 k),h2,h3,h5⟩
theorem St.lt (h:s.Fu) (e:s.look i=Si o):i<s.n:=(Full.iff h i).mp (by rw[show s.t.look i=Si o from e];rfl)
end
section
variable {s:St}{p:Nat}
theorem xz (F:s.Fu) (h:s.look p=Si (.inst c d fs))(h4:4<=p)(x:Nat)(u:V)(hl:fs.length<=100):SetFu s p (.inst c d (dz fs x u)) (setAttr (.ref p) x u s):=by
 obtain⟨s',h1,h2,h3,h5⟩:=gZ F h4 (St.lt F h) (.inst c d (dz fs x u))
 refine⟨s',λK=>(St.get_of h _).trans ?_,h2,h3,h5⟩
 show aD (SZ (aK fs) 100) (s.set p (.inst c d (dz fs x u)) K) dV=_
 rw[aC,bI hl];exact h1 K
theorem PS (F:s.Fu) (h:s.look p=Si (.lsub c d fs q))(h4:4<=p)(x:Nat)(u:V)(hl:fs.length<=100):SetFu s p (.lsub c d (dz fs x u) q) (setAttr (.ref p) x u s):=by
 obtain⟨s',h1,h2,h3,h5⟩:=gZ F h4 (St.lt F h) (.lsub c d (dz fs x u) q)
 refine⟨s',λK=>(St.get_of h _).trans ?_,h2,h3,h5⟩
 show aD (SZ (aK fs) 100) (s.set p (.lsub c d (dz fs x u) q) K) dV=_
 rw[aC,bI hl];exact h1 K
theorem Fi (h:s.look p=Si (.cell (Si w)))(K:V->Sm):fD p s K=K w:=St.get_of h _
theorem yQ {K:KV}{a:Nat}{x:V}(h:s.look p=Si (.lsub c d fs l))(hx:l[a]? = Si x)(ha:a<=4095):cZ (.ref p) (ak a) s K=K x s:=by
 show aD (small (.ofNat a)) (s.get p λo=>gQ o λl=>Hh l (.ofNat a) λv=>K v s) dV=_
 rw[bS (by lia),fy,St.get_of h]
 exact eV hx
end
noncomputable section
def uJ (l:Sj OV):Nat->OV:=@S5 OV (λ_=>Nat->OV) (λ_=>none) (λo _ ih j=>@Tf (λ_=>OV) o (λm _=>ih m) j) l
def IF (l:Sj Nat):Nat->SV Nat:=@S5 Nat (λ_=>Nat->SV Nat) (λ_=>none) (λo _ ih j=>@Tf (λ_=>SV Nat) (Si o) (λm _=>ih m) j) l
def wd (l:Sj OV):Nat->Sm:=@S5 OV (λ_=>Nat->Sm) (λ_=>dV) (λ_ _ ih j=>@Tf (λ_=>Sm) Sk (λm _=>ih m) j) l
def yS (l:Sj OV)(v:V):Nat->Sj OV:=@S5 OV (λ_=>Nat->Sj OV) (λ_=>[]) (λo r ih j=>@Tf (λ_=>Sj OV) (Si v::r) (λm _=>o::ih m) j) l
end
section
variable {fm fm1 fm2 fm':Fm}{s s1 s2 s3 s':St}{v w x:V}{vs us:List V}{b c:Bool}{f:Fl}{i n m:Nat}{it it':It}
def Ev (e:CE)(fm:Fm)(s:St)(v:V)(s':St):Prop:=∀k,e fm s k=k v s'
def uE (e:CA)(fm:Fm)(s:St)(vs:Sj V)(s':St):Prop:=∀k,e fm s k=k vs s'
def qh (e:CT)(fm:Fm)(s:St)(b:Sm)(s':St):Prop:=∀k,e fm s k=k b s'
def qI (g:CG)(fm:Fm)(v:V)(s:St)(fm':Fm)(s':St):Prop:=∀k,g fm v s k=k fm' s'
def Be (g:xL)(fm:Fm)(vs:Sj V)(s:St)(fm':Fm)(s':St):Prop:=∀k,g fm vs s k=k fm' s'
def gT (c:CS)(fm:Fm)(s:St)(f:Fl)(fm':Fm)(s':St):Prop:=∀k,c fm s k=k f fm' s'
def qK (F:FN)(vs:Sj V)(s:St)(v:V)(s':St):Prop:=∀k,F vs s k=k v s'
def CU (i:CI)(fm:Fm)(s:St)(it:It)(s':St):Prop:=∀k,i fm s k=k it s'
def CW (L:CF)(fm:Fm)(it:It)(s:St)(f:Fl)(fm':Fm)(s':St):Prop:=∀k,L fm it s k=k f fm' s'
theorem Fa {k:V->Sm}:∀{l:Sj OV}{i:Nat},uJ l i=Si v->getL l i (λo=>cU o k) dV=k v
 | [],_,h=>nomatch h
 | o::_,0,h=>by
  have h:o=Si v:=h
  subst h;rfl
 | _::r,i+1,h=>Fa (l:=r) (i:=i) h
theorem sY {k:Nat->Sm}{z:Sm}:∀{l:Sj Nat}{i n:Nat},IF l i=Si n->getL l i k z=k n
 | [],_,_,h=>nomatch h
 | o::_,0,n,h=>by
  have h:Si o=Si n:=h
  injection h with h
  subst h;rfl
 | _::r,i+1,n,h=>sY (l:=r) (i:=i) h
theorem FX {k:Sj OV->Sm}:∀{l:Sj OV}{i:Nat}{k:Sj OV->Sm},wd l i=Sk->nF l i (Si v) k=k (yS l v i)
 | [],_,_,h=>nomatch h
 | _::_,0,_,_=>rfl
 | o::r,i+1,k,h=>FX (l:=r) (i:=i) (k:=λq=>k (o::q)) h
theorem ah (h:uJ fm.loc i=Si v):Ev (aa dV i) fm s v s:=λk=>Fa (k:=λv=>k v s) h
theorem bZ (h:IF fm.cel i=Si n)(hl:s.look n=Si (.cell (Si v))):Ev (aa Sk i) fm s v s:=λk=>(sY h).trans (Fi hl λv=>k v s)
theorem az:Ev (ao v) fm s v s:=λ_=>rfl
theorem bd {a b:CE}(ha:Ev a fm s v s1)(hb:Ev b fm s1 w s2)(h:∀k,op v w s2 k=k x s3):Ev (aA op a b) fm s x s3:=λk=>(ha _).trans ((hb _).trans (h k))
theorem GJ {a:CE}{j:Int}(ha:Ev a fm s (.int j) s1):Ev (qg a) fm s (.int (Z9 j)) s1:=λ_=>ha _
theorem Cg {op:CP}{a b:CE}(ha:Ev a fm s v s1)(hb:Ev b fm s1 w s2)(h:∀k,op v w s2 k=k c):Ev (qV op a b) fm s (.bool c) s2:=λ_=>(ha _).trans ((hb _).trans (h _))
theorem pJ (h:uE as fm s vs s1):Ev (cN as) fm s (.tup vs) s1:=λ_=>h _
theorem dX (h:uE as fm s vs s1)(hp:∀k,s1.push (.list vs) k=k n s2):Ev (d0 as) fm s (.ref n) s2:=λ_=>(h _).trans (hp _)
theorem eJ {a j:CE}(ha:Ev a fm s v s1)(hj:Ev j fm s1 w s2)(h:∀k,cZ v w s2 k=k x s3):Ev (dw a j) fm s x s3:=λk=>(ha _).trans ((hj _).trans (h k))
theorem Ci {a lo hi:CE}{u:V}(ha:Ev a fm s v s1)(hl:Ev lo fm s1 w s2)(hh:Ev hi fm s2 x s3)(h:∀k,uN v w x s3 k=k u s'):Ev (uS a lo hi) fm s u s':=λk=>(ha _).trans ((hl _).trans ((hh _).trans (h k)))
theorem cC {a:CE}{p cs:Nat} (ha:Ev a fm s (.ref p) s1)(hp:s1.look p=Si (.inst cs d fs))(h:∀k,dM fs n k=k v):Ev (bv a n) fm s v s1:=λk=>(ha _).trans ((St.get_of hp _).trans (h λv=>k v s1))
theorem IS {a:CE}{p cs:Nat} (ha:Ev a fm s (.ref p) s1)(hp:s1.look p=Si (.lsub cs d fs q))(h:∀k,dM fs n k=k v):Ev (bv a n) fm s v s1:=λk=>(ha _).trans ((St.get_of hp _).trans (h λv=>k v s1))
theorem wy {F:FN} (ha:uE as fm s vs s1)(h:qK F vs s1 v s2):Ev (fc F as) fm s v s2:=λ_=>(ha _).trans (h _)
theorem qf {F:FN}{a:CE} {p:Nat} (ha:Ev a fm s (.ref p) s1)(hp:s1.look p=Si (.inst n d fs))(hs:uE as fm s1 vs s2)(h:qK F (.ref p::vs) s2 v s3):Ev (bz n F a as) fm s v s3:=λ_=>(ha _).trans ((St.get_of hp _).trans ((il (Vz n)).trans ((hs _).trans (h _))))
theorem fR {F:FN}{a:CE} {p:Nat} (ha:Ev a fm s (.ref p) s1)(hp:s1.look p=Si (.lsub n d fs q))(hs:uE as fm s1 vs s2)(h:qK F (.ref p::vs) s2 v s3):Ev (bz n F a as) fm s v s3:=λ_=>(ha _).trans ((St.get_of hp _).trans ((il (Vz n)).trans ((hs _).trans (h _))))
theorem zc {F:FN} (ha:uE as fm s vs s1)(h1:∀k,s1.push .hid k=k d s2)(h2:∀k,s2.push (fP m d) k=k n s3)(h:qK F (.ref n::vs) s3 .none s'):Ev (iD m F as) fm s (.ref n) s':=λ_=>(ha _).trans ((h1 _).trans ((h2 _).trans (h _)))
theorem gO {F:FN} (ha:uE as fm s vs s1)(h:∀k,F vs s1 k=k v s2):Ev (gB F as) fm s v s2:=λ_=>(ha _).trans (h _)
theorem lR {M:yr}{a:CE} {q:Sj Nat}(ha:Ev a fm s (.str q) s1)(hs:uE as fm s1 vs s2)(h:∀k,M (.str q) vs s2 k=k v s3):Ev (rB M a as) fm s v s3:=λ_=>(ha _).trans ((hs _).trans (h _))
theorem Cn {M:yr}{a:CE} {p:Nat} (ha:Ev a fm s (.ref p) s1)(hp:s1.look p=Si (.list q))(hs:uE as fm s1 vs s2)(h:∀k,M (.ref p) vs s2 k=k v s3):Ev (mZ M a as) fm s v s3:=λ_=>(ha _).trans ((St.get_of hp _).trans ((hs _).trans (h _)))
theorem Gv {M:yr}{a:CE} {p cs:Nat} (ha:Ev a fm s (.ref p) s1)(hp:s1.look p=Si (.lsub cs d fs q))(hs:uE as fm s1 vs s2)(h:∀k,M (.ref p) vs s2 k=k v s3):Ev (mZ M a as) fm s v s3:=λ_=>(ha _).trans ((St.get_of hp _).trans ((hs _).trans (h _)))
theorem Ce {t:CT}{a b:CE}(ht:qh t fm s Sk s1)(ha:Ev a fm s1 v s2):Ev (u4 t a b) fm s v s2:=λ_=>(ht _).trans (ha _)
theorem Av {t:CT}{a b:CE}(ht:qh t fm s dV s1)(hb:Ev b fm s1 v s2):Ev (u4 t a b) fm s v s2:=λ_=>(ht _).trans (hb _)
theorem HO {a:CE}(ha:Ev a fm s v s1)(h:∀k,eM v s1 k=k b s2):Ev (Hr a) fm s (.bool (ee b)) s2:=λ_=>(ha _).trans (h _)
theorem Ij {a e:CE}(ha:Ev a fm s v s1)(h:∀k,iZ v s1 k=k c)(hv:v=.bool c)(hb:c=Sk->Ev e fm s1 (.bool dV) s1):Ev (Hb a e) fm s (.bool dV) s1:=λ_=>(ha _).trans ((h _).trans (by
 cases c with
 | true=>exact hb rfl _
 | false=>rw[hv];rfl))
theorem KN {a e:CE}(ha:Ev a fm s v s1)(h:∀k,iZ v s1 k=k c)(hb:c=dV->Ev e fm s1 w s2)(hc:c=dV:=by rfl):Ev (P8 a e) fm s w s2:=λ_=>(ha _).trans ((h _).trans (by rw[hc];exact hb hc _))
theorem dA:uE av fm s [] s:=λ_=>rfl
theorem be {e:CE} (he:Ev e fm s v s1)(hs:uE as fm s1 vs s2):uE (ae e as) fm s (v::vs) s2:=λ_=>(he _).trans (hs _)
theorem aU {e:CE}(he:Ev e fm s v s1):uE (ae e av) fm s [v] s1:=λ_=>he _
theorem Ch {e:CE}(he:Ev e fm s (.tup vs) s1)(h:aB (aK vs)=Sk):uE (BX e) fm s vs s1:=λ_=>(he _).trans (il h)
theorem AN {a:CE}(ha:Ev a fm s v s1)(h:∀k,eM v s1 k=k b s2):qh (tE a) fm s b s2:=λ_=>(ha _).trans (h _)
theorem bO {op:CP}{a b:CE}(ha:Ev a fm s v s1)(hb:Ev b fm s1 w s2)(h:∀k,op v w s2 k=k c):qh (bR op a b) fm s c s2:=λk=>(ha _).trans ((hb _).trans (h λc=>k c s2))
theorem D8 {a b:CT}(ha:qh a fm s Sk s1)(hb:qh b fm s1 c s2):qh (pH a b) fm s c s2:=λ_=>(ha _).trans (hb _)
theorem zW {a b:CT}(ha:qh a fm s dV s1):qh (pH a b) fm s dV s1:=λ_=>ha _
theorem aN (h:wd fm.loc i=Sk):qI (ay dV i) fm v s ⟨yS fm.loc v i,fm.cel⟩ s:=λk=>FX (k:=λ_=>Sk) h
theorem g8 (h:IF fm.cel i=Si n)(hw:∀k,kO n v s k=k s'):qI (ay Sk i) fm v s fm s':=λk=>(sY h).trans (hw _)
theorem cR {a:CE}(ha:Ev a fm s w s1)(h:∀k,setAttr w n v s1 k=k s2):qI (eQ a n) fm v s fm s2:=λ_=>(ha _).trans (h _)
theorem wS {a j:CE}(ha:Ev a fm s w s1)(hj:Ev j fm s1 x s2)(h:∀k,ng w x v s2 k=k s3):qI (zf a j) fm v s fm s3:=λ_=>(ha _).trans ((hj _).trans (h _))
theorem wW {a lo:CE}(ha:Ev a fm s w s1)(hl:Ev lo fm s1 x s2)(h:∀k,uV w x v s2 k=k s3):qI (Ei a lo) fm v s fm s3:=λ_=>(ha _).trans ((hl _).trans (h _))
theorem rI:Be eS fm [] s fm s:=λ_=>rfl
theorem eh {g:CG} (h:qI g fm v s fm1 s1)(hs:Be gs fm1 vs s1 fm2 s2):Be (bg g gs) fm (v::vs) s fm2 s2:=λ_=>(h _).trans (hs _)
theorem EK (hl:SN (aK vs) m=Sk)(h:Be gs fm vs s fm1 s1):qI (fM m gs) fm (.tup vs) s fm1 s1:=λ_=>(il hl).trans (h _)
theorem qC:gT aH fm s .nxt fm s:=λ_=>rfl
theorem aJ {a b:CS}(ha:gT a fm s .nxt fm1 s1)(hb:gT b fm1 s1 f fm2 s2):gT (aq a b) fm s f fm2 s2:=λ_=>(ha _).trans (hb _)
theorem bn {a:CS}(ha:gT a fm s f fm1 s1):gT (aq a aH) fm s f fm1 s1:=λk=>(ha _).trans (by cases f <;> rfl)
theorem iw {a:CE}(ha:Ev a fm s v s1):gT (dq a) fm s (.ret v) fm s1:=λ_=>ha _
theorem pz {b:CS}:gT (aq u9 b) fm s .brk fm s:=λ_=>rfl
theorem mY {a b:CS}(ha:gT a fm s .brk fm1 s1):gT (aq a b) fm s .brk fm1 s1:=λ_=>ha _
theorem aT {a:CE}{g:CG}(ha:Ev a fm s v s1)(hg:qI g fm v s1 fm2 s2):gT (aV a g) fm s .nxt fm2 s2:=λ_=>(ha _).trans (hg _)
theorem cX {a:CE}(ha:Ev a fm s .none s1):gT (dI a) fm s .nxt fm s1:=λ_=>ha _
theorem iJ {c:CT}{a b:CS}(hc:qh c fm s Sk s1)(ha:gT a fm s1 f fm2 s2):gT (hW c a b) fm s f fm2 s2:=λ_=>(hc _).trans (ha _)
theorem wz {c:CT}{a b:CS}(hc:qh c fm s dV s1)(hb:gT b fm s1 f fm2 s2):gT (hW c a b) fm s f fm2 s2:=λ_=>(hc _).trans (hb _)
theorem je {c:CT}{a:CS}(hc:qh c fm s dV s1):gT (hW c a aH) fm s .nxt fm s1:=λ_=>hc _
theorem uq {g u:CG}(h:qI g fm v s fm1 s1)(hu:qI u fm1 v s1 fm2 s2):qI (rV g u) fm v s fm2 s2:=λ_=>(h _).trans (hu _)
theorem CM (ha:uE as fm s vs s1)(hg:Be gs fm vs s1 fm2 s2):gT (zq as gs) fm s .nxt fm2 s2:=λ_=>(ha _).trans (hg _)
theorem zz {a j e:CE}{y z:Int}(ha:Ev a fm s v s1)(hj:Ev j fm s1 w s2)(hi:∀k,cZ v w s2 k=k (.int y) s2)(he:Ev e fm s2 (.int z) s3)(hp:∀k,ng v w (.int (gA y z)) s3 k=k s'):gT (jh a j e) fm s .nxt fm s':=λ_=>(ha _).trans ((hj _).trans ((hi _).trans ((he _).trans (hp _))))
theorem y2 {e:CE}(hc:IF fm.cel i=Si n)(hl:s.look n=Si (.cell (Si v)))(he:Ev e fm s w s1)(ho:∀k,op v w s1 k=k x s2)(hw:∀k,kO n x s2 k=k s'):gT (u5 Sk i op e) fm s .nxt fm s':=λ_=>(sY hc).trans ((Fi hl _).trans ((he _).trans ((ho _).trans ((sY hc).trans (hw _)))))
theorem jv {t:eN}{i:CI}{a b:CS}(hi:CU i fm s it s1)(h:CW (dP t a b 200) fm it s1 f fm2 s2):gT (iT t i a b) fm s f fm2 s2:=λ_=>(hi _).trans (h _)
theorem qk {t:eN}{a b:CS}{K:Fl->Fm->St->Sm}:dP t a b (n+1) fm it s K=aY s it (b fm s K) λy it=>t fm y s λfm st=>a fm st λf fm st=>@Fl.rec (λ_=>Sm) (dP t a b n fm it st K) (K .nxt fm st) (dP t a b n fm it st K) (λv=>K (.ret v) fm st) f:=rfl
theorem mG {t:eN}{a b:CS}(h:∀z k,aY s it z k=z)(hb:gT b fm s f fm2 s2):CW (dP t a b (n+1)) fm it s f fm2 s2:=λ_=>qk.trans ((h _ _).trans (hb _))
theorem xe {t:CG}{a b:CS}(h:∀z k,aY s it z k=k (.v v) it')(ht:qI t fm v s fm1 s1)(ha:gT a fm1 s1 .nxt fm2 s2)(hl:CW (dP (em t) a b n) fm2 it' s2 f fm' s'):CW (dP (em t) a b (n+1)) fm it s f fm' s':=λ_=>qk.trans ((h _ _).trans ((ht _).trans ((ha _).trans (hl _))))
theorem qB {t:CG}{a b:CS}(h:∀z k,aY s it z k=k (.v v) it')(ht:qI t fm v s fm1 s1)(ha:gT a fm1 s1 .brk fm2 s2):CW (dP (em t) a b (n+1)) fm it s .nxt fm2 s2:=λ_=>qk.trans ((h _ _).trans ((ht _).trans (ha _)))
theorem NU {t u:CG}{a b:CS}(h:∀z k,aY s it z k=k (.pair v w) it')(ht:qI t fm v s fm1 s1)(hu:qI u fm1 w s1 fm2 s2)(ha:gT a fm2 s2 .nxt fm' s3)(hl:CW (dP (yW t u) a b n) fm' it' s3 f fm3 s'):CW (dP (yW t u) a b (n+1)) fm it s f fm3 s':=λ_=>qk.trans ((h _ _).trans ((ht _).trans ((hu _).trans ((ha _).trans (hl _)))))
theorem pP {a:CE}{q:Sj Nat}(ha:Ev a fm s (.str q) s1)(h:fT q=Sk):CU (iE a) fm s (.str q) s1:=λ_=>(ha _).trans (il h)
theorem D5 {a:CE}{p:Nat} (ha:Ev a fm s (.ref p) s1)(hp:s1.look p=Si (.list q)):CU (iE a) fm s (.seq p 0) s1:=λ_=>(ha _).trans (bj hp _)
theorem wU {a:CE}{p:Nat} (ha:Ev a fm s (.ref p) s1)(hp:s1.look p=Si (.list q)):CU (lE a) fm s (.enS 0 p 0) s1:=λ_=>(ha _).trans (bj hp _)
theorem GU {b:CE}{y:Int}(hb:Ev b fm s (.int y) s1)(h:∀k,eC 0 y 1 s1 k=k it s1):CU (qR b) fm s it s1:=λ_=>(hb _).trans (h _)
theorem Ii {a b:CE}{y z:Int}(ha:Ev a fm s (.int y) s1)(hb:Ev b fm s1 (.int z) s2)(h:∀k,eC y z 1 s2 k=k it s2):CU (dH a b) fm s it s2:=λ_=>(ha _).trans ((hb _).trans (h _))
theorem IY {a b c:CE}{y z u:Int}(ha:Ev a fm s (.int y) s1)(hb:Ev b fm s1 (.int z) s2)(hc:Ev c fm s2 (.int u) s3)(h:∀k,eC y z u s3 k=k it s3):CU (BU a b c) fm s it s3:=λ_=>(ha _).trans ((hb _).trans ((hc _).trans (h _)))
def D1 (g:eN)(fm:Fm)(y:dy)(s:St)(fm':Fm)(s':St):Prop:=∀k,g fm y s k=k fm' s'
def Pd (B:CB)(fm:Fm)(s:St)(vs:Sj V)(fm':Fm)(s':St):Prop:=∀k,B fm s k=k vs fm' s'
def yZ (C:CC)(fm:Fm)(it:It)(s:St)(vs:Sj V)(fm':Fm)(s':St):Prop:=∀k,C fm it s k=k vs fm' s'
theorem qt {g:CG}(h:qI g fm v s fm1 s1):D1 (em g) fm (.v v) s fm1 s1:=h
theorem vM {g u:CG}(h:qI g fm v s fm1 s1)(hu:qI u fm1 w s1 fm2 s2):D1 (yW g u) fm (.pair v w) s fm2 s2:=λ_=>(h _).trans (hu _)
theorem wb {e:CE}(h:Ev e fm s v s1):Pd (gt e) fm s [v] fm s1:=λ_=>h _
theorem K6 {i:CI}{t:eN}{c:CT}{b:CB}(hi:CU i fm s it s1)(h:yZ (bw t c b 200) fm it s1 vs fm2 s2):Pd (I6 i t c b) fm s vs fm2 s2:=λ_=>(hi _).trans (h _)
theorem m6:qh cA fm s Sk s:=λ_=>rfl
theorem pq {t:eN}{c:CT}{b:CB}{k:Sj V->Fm->St->Sm}:bw t c b (n+1) fm it s k=aY s it (k [] fm s) λy it=>t fm y s λfm st=>c fm st λx st=>aD x (b fm st λvs fm st=>bw t c b n fm it st λus fm st=>k (bp vs us) fm st) (bw t c b n fm it st k):=rfl
theorem gV {t:eN}{c:CT}{b:CB}(h:∀z k,aY s it z k=z):yZ (bw t c b (n+1)) fm it s [] fm s:=λ_=>pq.trans (h _ _)
theorem rp {t:eN}{c:CT}{b:CB}{y:dy}{fm3:Fm}(h:∀z k,aY s it z k=k y it')(ht:D1 t fm y s fm1 s1)(hc:qh c fm1 s1 Sk s2)(hb:Pd b fm1 s2 vs fm2 s3)(hl:yZ (bw t c b n) fm2 it' s3 us fm3 s'):yZ (bw t c b (n+1)) fm it s (bp vs us) fm3 s':=λ_=>pq.trans ((h _ _).trans ((ht _).trans ((hc _).trans ((hb _).trans (hl _)))))
theorem FS {t:eN}{c:CT}{b:CB}{y:dy}{fm3:Fm}(h:∀z k,aY s it z k=k y it')(ht:D1 t fm y s fm1 s1)(hc:qh c fm1 s1 dV s2)(hl:yZ (bw t c b n) fm1 it' s2 us fm3 s'):yZ (bw t c b (n+1)) fm it s us fm3 s':=λ_=>pq.trans ((h _ _).trans ((ht _).trans ((hc _).trans (hl _))))
theorem ly {i:CI} {fr q:Sj Nat}{t:eN}{c:CT}{b:CB}(hq:∀k:Sj Nat->Sm,xD fm.cel fr k=k q)(hi:CU i fm s it s1)(hc:yZ (bw t c b 200) ⟨cp nl,q⟩ it s1 vs fm' s2)(hl:vs.length<=4095)(hp:∀k,s2.push (.list vs) k=k n s3):Ev (cF i nl 0 fr t c b) fm s (.ref n) s3:=λ_=>(hq _).trans ((hi _).trans ((hc _).trans ((il (by rw[aC];exact bI hl)).trans (hp _))))
theorem Dl {a:CE}{q:Sj Nat}(ha:Ev a fm s (.str q) s1)(h:fT q=Sk):CU (lE a) fm s (.enT 0 q) s1:=λ_=>(ha _).trans (il h)
theorem IC {a:CE}{q r:Sj Nat}(ha:Ev a fm s (.str q) s1)(h:aB (aK q)=Sk)(e:kW q dV=r):Ev (Eb a) fm s (.str r) s1:=λ_=>(ha _).trans ((il h).trans (by rw[e]))
theorem JT {body:CS} {l:Sj OV}(hl:SN (aK vs) (aK ps)=Sk)(hb:∀K:Fm->St->Sm,bindL ps vs ⟨cp nl,[]⟩ s K=K ⟨l,[]⟩ s)(h:gT body ⟨l,[]⟩ s (.ret v) fm' s'):qK (bk ps nl 0 body) vs s v s':=λ_=>(il hl).trans ((hb _).trans (h _))
theorem pp {body:CS} {l:Sj OV}(hl:SN (aK vs) (aK ps)=Sk)(hb:∀K:Fm->St->Sm,bindL ps vs ⟨cp nl,[]⟩ s K=K ⟨l,[]⟩ s)(h:gT body ⟨l,[]⟩ s .nxt fm' s'):qK (bk ps nl 0 body) vs s .none s':=λ_=>(il hl).trans ((hb _).trans (h _))
theorem Pc {body:CS} {nc:Nat}{o:Sj Nat}{l:Sj OV}(hc:∀k,bX nc s k=k o s1)(hl:SN (aK vs) (aK ps)=Sk)(hb:∀K:Fm->St->Sm,bindL ps vs ⟨cp nl,o⟩ s1 K=K ⟨l,o⟩ s1)(h:gT body ⟨l,o⟩ s1 (.ret v) fm' s'):qK (bk ps nl nc body) vs s v s':=λ_=>(il hl).trans ((hc _).trans ((hb _).trans (h _)))
end
noncomputable section
noncomputable abbrev cy (c:Nat):V:=.tup [.str [32],.str [c]]
noncomputable abbrev xX (d i:Nat)(cur:Sj Nat):O:=.lsub 2 d [(11,ak i)] (cur.map cy)
noncomputable abbrev Od (d M nl na:Nat):O:=.inst 1 d [(5,ak M),(6,.str [32]),(7,ak 1),(8,.str [32]),(9,.ref nl),(10,.ref na)]
noncomputable def cm (cur:Sj Nat):Sj Nat:=cur.flatMap λc=>[32,c]
end
structure Ext (s0 st:St):Prop where
 fu:st.Fu
 n:s0.n<=st.n
 keep:∀j,j<s0.n->st.look j=s0.look j
theorem Ext.refl (h:s.Fu):Ext s s:=⟨h,SW _,λ_ _=>rfl⟩
theorem Ext.trans {a b c:St}(x:Ext a b)(y:Ext b c):Ext a c:=⟨y.fu,So x.n y.n,λj h=>(y.keep j (SH h x.n)).trans (x.keep j h)⟩
theorem Ext.push {a b c:St}(x:Ext a b)(hf:c.Fu)(hn:c.n=b.n+1) (hl:∀j,c.look j=if j=b.n then Si o else b.look j):Ext a c:=
 ⟨hf,by have:=x.n;lia,λj h=>by rw[hl,SK (by have:=x.n;lia)];exact x.keep j h⟩
theorem Ext.set {a b c:St}(x:Ext a b)(hf:c.Fu)(hn:c.n=b.n) (hi:a.n<=i)(hl:∀j,c.look j=if j=i then Si o else b.look j):Ext a c:=
 ⟨hf,by have:=x.n;lia,λj h=>by rw[hl,SK (by lia)];exact x.keep j h⟩
structure Pg (s0 st:St)(pg nl na d da M i:Nat)(L:Sj (Sj Nat))(cur:Sj Nat):Prop where
 x:Ext s0 st
 at1:st.look pg=Si (Od d M nl na)
 ln:st.look nl=Si (.list (L.map V.str))
 ac:st.look na=Si (xX da i cur)
 lo:4<=s0.n/\s0.n<=pg/\s0.n<=nl/\s0.n<=na
 ne:pg≠na/\pg≠nl/\nl≠na
inductive H0 (s0 st:St)(pg nl na d da M i:Nat)(L:Sj (Sj Nat))(cur:Sj Nat)(o:O):Prop
 | mk (s':St) (e:∀k,st.push o k=k st.n s') (G:Pg s0 s' pg nl na d da M i L cur) (l:s'.look st.n=Si o) (n:s'.n=st.n+1) (k:∀j,j<st.n->s'.look j=st.look j)
inductive FA (s0 st:St)(pg nl na d da M i:Nat)(L:Sj (Sj Nat))(cur:Sj Nat)(p:Nat)(f:(St->Sm)->Sm):Prop
 | mk (s':St) (e:∀k,f k=k s') (G:Pg s0 s' pg nl na d da M i L cur) (n:s'.n=st.n) (k:∀j,j≠p->s'.look j=st.look j)
inductive Ge (F:FN)(vs:Sj V)(st:St)(v:V)(s0:St)(pg nl na d da M i:Nat)(L:Sj (Sj Nat))(cur:Sj Nat):Prop
 | mk (s':St) (e:qK F vs st v s') (G:Pg s0 s' pg nl na d da M i L cur)
section
variable {s0 st:St}{pg nl na d da M i:Nat}{L:List (List Nat)}{cur:List Nat}
namespace Pg
theorem push (G:Pg s0 st pg nl na d da M i L cur)(o:O):H0 s0 st pg nl na d da M i L cur o:=by
 obtain⟨s',h1,h2,h3,h4⟩:=dK G.x.fu o
 have a:=St.lt G.x.fu G.at1
 have b:=St.lt G.x.fu G.ln
 have c:=St.lt G.x.fu G.ac
 exact⟨s',h1,⟨G.x.push h2 h3 h4,by rw[h4,SK (by omega)];exact G.at1,by rw[h4,SK (by omega)];exact G.ln,by rw[h4,SK (by omega)];exact G.ac,G.lo,G.ne⟩,by rw[h4,SX rfl],h3,λj h=>by rw[h4,SK (by omega)]⟩
theorem setAc (G:Pg s0 st pg nl na d da M i L cur) (i':Nat)(cur':Sj Nat)(e1:fs=[(11,ak i')])(e2:q=cur'.map cy):FA s0 st pg nl na d da M i' L cur' na (st.set na (.lsub 2 da fs q)):=by
 have hl:=G.lo
 have hn:=G.ne
 subst e1 e2
 obtain⟨s',h1,h2,h3,h4⟩:=gZ G.x.fu (by lia) (St.lt G.x.fu G.ac) (xX da i' cur')
 exact⟨s',h1,⟨G.x.set h2 h3 hl.2.2.2 h4,by rw[h4,SK hn.1];exact G.at1,by rw[h4,SK hn.2.2];exact G.ln,by rw[h4,SX rfl],G.lo,G.ne⟩,h3,λj h=>by rw[h4,SK h]⟩
theorem setLn (G:Pg s0 st pg nl na d da M i L cur) (L':Sj (Sj Nat))(e2:q=L'.map V.str):FA s0 st pg nl na d da M i L' cur nl (st.set nl (.list q)):=by
 have hl:=G.lo
 have hn:=G.ne
 subst e2
 obtain⟨s',h1,h2,h3,h4⟩:=gZ G.x.fu (by lia) (St.lt G.x.fu G.ln) (.list (L'.map V.str))
 exact⟨s',h1,⟨G.x.set h2 h3 hl.2.2.1 h4,by rw[h4,SK hn.2.1];exact G.at1,by rw[h4,SX rfl],by rw[h4,SK hn.2.2.symm];exact G.ac,G.lo,G.ne⟩,h3,λj h=>by rw[h4,SK h]⟩
end Pg
theorem qJ {l:Sj α}(h:l.length<=4095){a b:Sm}:aD (aB (aK l)) a b=a:=by
 rw[aC,show aB l.length=Sk from bI h];rfl
theorem jV (K:Sj (Sj Nat)->Sm):∀cur:Sj Nat,d7 dC (cur.map cy) K=K (cur.map λc=>[32,c])
 | []=>rfl
 | c::r=>by
  show d7 dC (r.map cy) (λq=>K ([32,c]::q))=_
  rw[jV _ r];rfl
theorem tC:∀(cur:Sj Nat)(i:Nat),gr (cur.map λc=>[32,c]) (.ofNat i)=.ofNat (i+2*cur.length)
 | [],i=>rfl
 | c::r,i=>by
  show gr (r.map λc=>[32,c]) (.ofNat (i+2))=_
  rw[tC r];simp only[Tg];congr 1;lia
theorem pL:∀(cur:Sj Nat),jG (cur.map λc=>[32,c])=cm cur
 | []=>rfl
 | c::r=>by
  show 32::c::jG (r.map λc=>[32,c])=_
  rw[pL r];rfl
theorem fj:∀cur:Sj Nat,(cm cur).length=2*cur.length
 | []=>rfl
 | c::r=>by
  show(cm r).length+2=_
  rw[fj r,Tg];lia
theorem nO (h:st.look na=Si (xX da i cur))(hs:i+2*cur.length<=4095)(k:KV):fk [.ref na] st k=k (ak (i+2*cur.length)) st:=by
 refine Eq.trans (St.get_of h _) ?_
 refine Eq.trans (jV _ cur) ?_
 show aD (qv 0 (.ofNat i)) (aD (small (gr (cur.map λc=>[32,c]) (.ofNat i))) (k (.int (gr (cur.map λc=>[32,c]) (.ofNat i))) st) dV) dV=_
 rw[tC,show qv 0 (.ofNat i)=Sk from bI (Th _),fy,bS (by lia)];rfl
theorem mL (h:st.look na=Si (xX da i cur))(hs:i+2*cur.length<=4095)(k:KV):dU [.ref na] st k=k (ak (i+2*cur.length)) st:=
 (St.get_of h _).trans (nO h hs k)
theorem mP (h:st.look na=Si (xX da i cur))(hs:2*cur.length<=4095)(k:KV):uI [.ref na] st k=k (.str (cm cur)) st:=by
 refine Eq.trans (St.get_of h _) ?_
 refine Eq.trans (qJ (l:=cur.map cy) (by simp;lia)) ?_
 refine Eq.trans (jV _ cur) ?_
 refine Eq.trans (qJ (l:=jG (cur.map λc=>[32,c])) (by rw[pL,fj];exact hs)) ?_
 rw[pL]
theorem z7 (G:Pg s0 st pg nl na d da M i L cur)(c:Nat)(hs:cur.length<=4095):Ge I8 [.ref na,.str [32],.str [c]] st .none s0 pg nl na d da M i L (cur++[c]):=by
 obtain⟨s',h1,G',_⟩:=G.setAc i (cur++[c]) (q:=bp (cur.map cy) [cy c]) rfl (by rw[bf];simp)
 refine⟨s',?_,G'⟩
 delta I8 PO EW
 exact pp rfl (λ_=>rfl) (bn (cX (Gv (ah rfl) G.ac (aU (pJ (be (ah rfl) (aU (ah rfl))))) λk=>(St.get_of G.ac _).trans ((qJ (l:=cur.map cy) (by simpa using hs)).trans (h1 _)))))
theorem y4 {a b:Nat}(k:Sm->Sm):C9 (ak a) (ak b) st k=k (ee (SZ a b)):=rfl
theorem QH {a b:Nat}(h:a<=b)(k:Sm->Sm):C9 (ak a) (ak b) st k=k dV:=by rw[y4,bI h];rfl
theorem jk {a b:Nat}(h:b<a):SZ a b=dV:=by
 cases e:SZ a b with
 | false=>rfl
 | true=>exact Tc (Sp e) (Nat.not_le.mpr h)
theorem Ll {a b:Nat}(h:b<a)(k:Sm->Sm):C9 (ak a) (ak b) st k=k Sk:=by rw[y4,jk h];rfl
theorem Iz (G:Pg s0 st pg nl na d da M i L cur)(c:Nat)(hs:i+2*(cur.length+1)<=M)(hM:M<=100):Ge F9 [.ref pg,.str [32],.str [c]] st .none s0 pg nl na d da M i L (cur++[c]):=by
 obtain⟨s',h1,G'⟩:=z7 G c (by lia)
 refine⟨s',?_,G'⟩
 have hlen:(cur++[c]).length=cur.length+1:=SY
 delta F9 c9 Iu Gy
 exact pp rfl (λ_=>rfl) (aJ (cX (fR (cC (ah rfl) G.at1 λ_=>rfl) G.ac (be (ah rfl) (aU (ah rfl))) h1))
  (bn (je (bO (gO (aU (cC (ah rfl) G'.at1 λ_=>rfl)) (mL G'.ac (by rw[hlen];lia))) (cC (ah rfl) G'.at1 λ_=>rfl) (QH (by rw[hlen];exact hs))))))
end
theorem DN (l:Sj Nat)(k:Sj Nat->Sm):dB (.str l) k=k l:=rfl
theorem AM (s:St)(k:KV):lU (.str [32]) [] s k=k (.bool Sk) s:=rfl
theorem tF (b:Sm)(s:St)(k:Sm->St->Sm):eM (.bool b) s k=k b s:=rfl
theorem pI (s:St)(k:Sm->St->Sm):eM (.str [32]) s k=k Sk s:=rfl
theorem uZ (s:St)(k:KV):cZ (.str [32]) (.int 0) s k=k (.str [32]) s:=rfl
theorem vq (c:Nat)(s:St)(k:KV):cZ (cy c) (.int 0) s k=k (.str [32]) s:=rfl
theorem zL (s:St)(k:Sm->Sm):ix (.str [32]) (.str [32]) s k=k Sk:=rfl
theorem Kx (s:St)(k:Sm->Sm):rH .none .none s k=k Sk:=rfl
theorem MS (q:Nat)(s:St)(k:Sm->Sm):rH (.ref q) .none s k=k dV:=rfl
theorem sq {c s:Int} (h:n=m+1)(k:dy->It->Sm):aY st (.rng c n s) stop k=k (.v (.int c)) (.rng (gA c s) m s):=by rw[h];rfl
section
variable {s0 st:St}{pg nl na d da M i:Nat}{L:List (List Nat)}{cur:List Nat}
theorem Ca {p cs:Nat} {s':St}(h:st.look p=Si (.lsub cs d fs l))(h2:st.look m=Si (.list q))(hl:l.length<=4095)(hq:q.length<=4095)(hs:∀k,st.set p (.lsub cs d fs q) k=k s')(k:St->Sm):uV (.ref p) .none (.ref m) st k=k s':=
 (St.get_of h _).trans ((bj h2 _).trans ((qJ hl).trans ((qJ hq).trans (hs k))))
theorem AL {p cs:Nat} {s':St}(h:st.look p=Si (.lsub cs d fs l))(h2:st.look m=Si (.list q))(hl:l.length<=4095)(hq:q.length<=4095)(hs:∀k,st.set p (.lsub cs d fs (bp (fg l (eW (.ofNat i) (aK l))) q)) k=k s')(k:St->Sm):uV (.ref p) (ak i) (.ref m) st k=k s':=
 (St.get_of h _).trans ((bj h2 _).trans ((qJ hl).trans ((qJ hq).trans (hs k))))
theorem Ec {p cs x:Nat} {u:V}{s':St}(h:st.look p=Si (.lsub cs d fs q))(hl:SZ (aK fs) 100=Sk)(hs:∀k,st.set p (.lsub cs d (dz fs x u) q) k=k s')(k:St->Sm):setAttr (.ref p) x u st k=k s':=
 (St.get_of h _).trans ((il hl).trans (hs k))
theorem AV (G:Pg s0 st pg nl na d da M i L cur){q:Nat}{cur':Sj Nat} (h0:uJ fm.loc 0=Si (.ref na))(h1:uJ fm.loc 1=Si (.ref q))(hq:st.look q=Si (.list (cur'.map cy)))(hc:cur.length<=4095)(hc':cur'.length<=4095):∃s':St,gT (aq B9 (aq zt aH)) fm st .nxt fm s'/\Pg s0 s' pg nl na d da M 0 L cur':=by
 obtain⟨s1,e1,G1,_⟩:=G.setAc i cur' (q:=cur'.map cy) (fs:=[(11,ak i)]) rfl rfl
 obtain⟨s2,e2,G2,_⟩:=G1.setAc 0 cur' (q:=cur'.map cy) (fs:=[(11,ak 0)]) rfl rfl
 refine⟨s2,?_,G2⟩
 delta B9 zt
 exact aJ (aT (ah h1) (wW (ah h0) az (Ca G.ac hq (by simpa using hc) (by simpa using hc') e1))) (bn (aT az (cR (ah h0) (Ec G1.ac rfl e2))))
theorem GY (G:Pg s0 st pg nl na d da M i L cur){q:Nat}{cur':Sj Nat}(hq:st.look q=Si (.list (cur'.map cy)))(hc:cur.length<=4095)(hc':cur'.length<=4095):Ge Fg [.ref na,.ref q] st .none s0 pg nl na d da M 0 L cur':=by
 refine aE (AV G (fm:=⟨[Si (.ref na),Si (.ref q)],[]⟩) rfl rfl hq hc hc') λs2 h2 G2=>?_
 refine⟨s2,?_,G2⟩
 delta Fg yV AZ
 exact pp rfl (λ_=>rfl) (aJ (je (bO (ah rfl) az (MS _ _))) h2)
theorem De {F:FN} {s':St}(h:qK F [w,.none] st v s'):qK (tD F) [w] st v s':=λk=>h k
theorem GQ (G:Pg s0 st pg nl na d da M i L cur)(hc:cur.length<=4095):Ge (tD Fg) [.ref na] st .none s0 pg nl na d da M 0 L []:=by
 obtain⟨s1,h1,G1,q1,_⟩:=G.push (.list [])
 refine aE (AV G1 (cur':=[]) (fm:=⟨yS [Si (.ref na),Si .none] (.ref st.n) 1,[]⟩) rfl rfl q1 hc (Th _)) λs2 h2 G2=>?_
 refine⟨s2,De ?_,G2⟩
 delta Fg yV AZ
 exact pp rfl (λ_=>rfl) (aJ (iJ (bO (ah rfl) az (Kx _)) (bn (aT (dX dA h1) (aN rfl)))) h2)
theorem D2 (h:m<n):eW (.ofNat m) n=m:=by
 show @Ti (λ_=>Nat) m n (SZ n m)=m
 rw[jk h]
theorem zX (l:Sj α)(m:Nat)(K:Sj α->Sm):cut l (ak m) .none K=K (mw l (eW (.ofNat m) (aK l))):=rfl
theorem HX {p cs:Nat} {s':St}(h:st.look p=Si (.lsub cs d fs l))(hl:l.length<=4095)(hs:∀k,st.push (.list (mw l (eW (.ofNat m) (aK l)))) k=k n s')(k:KV):uN (.ref p) (ak m) .none st k=k (.ref n) s':=
 (St.get_of h _).trans ((qJ hl).trans ((zX ..).trans (hs _)))
theorem oJ (f:α->β)(l:Sj α)(x:α):eW (.ofNat l.length) (aK ((l++[x]).map f))=l.length:=D2 (by rw[aC,S6,SY];exact S1 _)
theorem yK (f:α->β)(l:Sj α)(x:α):mw ((l++[x]).map f) (eW (.ofNat l.length) (aK ((l++[x]).map f)))=[f x]:=by
 rw[oJ,sU,←Sj.map_drop,Sj.drop_left];rfl
theorem xQ (f:α->β)(l:Sj α)(x:α):bp (fg ((l++[x]).map f) (eW (.ofNat l.length) (aK ((l++[x]).map f)))) []=l.map f:=by
 rw[oJ,gq,bf,←Xo,Sj.take_left,TV]
inductive QF (vs:Sj V)(st s0:St)(pg nl na d da M i:Nat)(L:Sj (Sj Nat))(cur:Sj Nat)(c:Nat):Prop
 | mk (s':St) (q:Nat) (e:qK Ox vs st (.ref q) s') (G:Pg s0 s' pg nl na d da M i L cur) (l:s'.look q=Si (.list ([c].map cy)))
theorem Ac (G:Pg s0 st pg nl na d da M i L (cur++[c]))(hc:cur.length<=4000):QF [.ref na,ak cur.length] st s0 pg nl na d da M i L cur c:=by
 have h12:((cur++[c]).map cy).length<=4095:=by rw[S6,SY];exact So (TU hc) (bo rfl)
 have hd:=yK cy cur c
 have ht:=xQ cy cur c
 obtain⟨s1,h1,G1,q1,n1,k1⟩:=G.push (.list (mw ((cur++[c]).map cy) (eW (.ofNat cur.length) (aK ((cur++[c]).map cy)))))
 rw[hd] at q1
 obtain⟨s2,h2,G2,q2,n2,k2⟩:=G1.push (.list [])
 obtain⟨s3,h3,G3,n3,k3⟩:=G2.setAc i cur (fs:=[(11,ak i)]) rfl ht
 have a:=St.lt G.x.fu G.ac
 refine⟨s3,st.n,?_,G3,by rw[k3 _ (Tz a),k2 _ (n1▸S1 _)];exact q1⟩
 delta Ox Pn F3 Ft EZ
 exact JT rfl (λ_=>rfl) (aJ (aT (Ci (ah rfl) (ah rfl) az (HX G.ac h12 h1)) (aN rfl)) (aJ (aT (dX dA h2) (wW (ah rfl) (ah rfl) (AL G2.ac q2 h12 (Th _) h3))) (bn (iw (ah rfl)))))
theorem xv (G:Pg s0 st pg nl na d da M i L cur)(hL:L.length<=4095)(w:Sj Nat):∃s':St,(∀k,km (.ref nl) [.str w] st k=k .none s')/\Pg s0 s' pg nl na d da M i (L++[w]) cur/\(∀j,j≠nl->s'.look j=st.look j):=by
 obtain⟨s1,h1,G1,n1,k1⟩:=G.setLn (L++[w]) (q:=bp (L.map V.str) [.str w]) (by rw[bf];simp)
 exact⟨s1,λk=>(St.get_of G.ln _).trans ((qJ (l:=L.map V.str) (by simpa using hL)).trans (h1 _)),G1,k1⟩
theorem Cs (h1:1<=m)(h:m<=4095)(k:It->St->Sm):eC (.ofNat m) 0 (-1) s k=k (.rng (.ofNat m) m (-1)) s:=by
 unfold eC
 have e:cT (iG (.ofNat m) 0)=m:=by rw[gH,ey];simp
 rw[bS (by lia),e,show aB m=Sk from bI h];rfl
theorem AH:∀{L:Sj (Sj Nat)},Si (O.list ([c].map cy))≠Si (.list (L.map V.str))
 | [],e=>nomatch e
 | _::_,e=>nomatch e
theorem Ar {p cs:Nat} (h:st.look p=Si (.lsub cs d fs l))(hl:l.length<=4095):qK Ol [.ref p] st (ak (aK l)) st:=λ_=>(St.get_of h _).trans (qJ hl)
theorem ML (G:Pg s0 st pg nl na d da M i L cur)(c:Nat)(hne:1<=cur.length)(hs:M<i+2*(cur.length+1))(hi:i+2*cur.length<=M)(hM:M<=100)(hL:L.length<=4000):Ge F9 [.ref pg,.str [32],.str [c]] st .none s0 pg nl na d da M 0 (L++[cm cur]) [c]:=by
 have hcl:cur.length<=100:=by lia
 obtain⟨s1,h1,G1⟩:=z7 G c (So hcl (bo rfl))
 have hlen:(cur++[c]).length=cur.length+1:=SY
 obtain⟨s2,q,h2,G2,q2⟩:=Ac G1 (So hcl (bo rfl))
 refine fF (xv G2 (So hL (bo rfl)) (cm cur)) λs3 h3 G3 k3=>?_
 have hqn:q≠nl:=λe=>AH (q2.symm.trans (e▸G2.ln))
 obtain⟨s4,h4,G4⟩:=GY G3 (cur':=[c]) (q:=q) (by rw[k3 _ hqn];exact q2) (So hcl (bo rfl)) (by decide:1<=4095)
 refine⟨s4,?_,G4⟩
 have hl:aK ((cur++[c]).map cy)=cur.length+1:=by rw[aC,S6,hlen]
 have hp:=Ar G1.ac (by rw[S6,hlen];exact So (TU hcl) (bo rfl))
 rw[hl] at hp
 refine bG (S0 hne) λm hm=>?_
 delta F9 c9 Iu Gy
 exact pp rfl (λ_=>rfl) (aJ (cX (fR (cC (ah rfl) G.at1 λ_=>rfl) G.ac (be (ah rfl) (aU (ah rfl))) h1))
  (bn (iJ (bO (gO (aU (cC (ah rfl) G1.at1 λ_=>rfl)) (mL G1.ac (by rw[hlen];lia))) (cC (ah rfl) G1.at1 λ_=>rfl) (Ll (by rw[hlen];exact hs)))
   (aJ (jv (pP (cC (ah rfl) G1.at1 λ_=>rfl) rfl) (qB (λ_ _=>rfl) (aN rfl) (aJ
     (jv (IY (bd (fR (cC (ah rfl) G1.at1 λ_=>rfl) G1.ac dA hp) az (λ_=>hZ (a:=cur.length+1) (b:=1) (TQ _ _))) az (GJ az) (Cs (m:=cur.length) hne (So hcl (bo rfl))))
      (qB (λ_ k=>sq hm k) (aN rfl) (mY (iJ (AN (lR (ah rfl) dA (AM _)) (tF _ _))
       (aJ (aT (eJ (eJ (cC (ah rfl) G1.at1 λ_=>rfl) (ah rfl) (λ_=>yQ G1.ac (a:=cur.length) (x:=cy c) (by rw[Vp];simp) (So hcl (bo rfl)))) az (vq _ _)) (aN rfl))
        (bn (iJ (D8 (AN (ah rfl) (pI _)) (bO (eJ (ah rfl) az (uZ _)) (ah rfl) (zL _))) pz)))))))
     pz)))
    (aJ (aT (fR (cC (ah rfl) G1.at1 λ_=>rfl) G1.ac (aU (ah rfl)) h2) (aN rfl))
     (aJ (cX (Cn (cC (ah rfl) G2.at1 λ_=>rfl) G2.ln (aU (gO (aU (cC (ah rfl) G2.at1 λ_=>rfl)) (mP G2.ac (by lia)))) h3))
      (bn (cX (fR (cC (ah rfl) G3.at1 λ_=>rfl) G3.ac (aU (ah rfl)) h4)))))))))
end
theorem PK (l:Sj α)(z:α):∃x r,l++[z]=x::r/\nQ r x=z/\oz (x::r)=l:=by
 have h:∀(l:Sj α) (z:α),∃x r,l++[z]=x::r/\nQ r x=z/\oz (x::r)=l:=by
  intro l
  induction l with
  | nil=>intro z;exact⟨z,[],rfl,rfl,rfl⟩
  | cons y l ih=>
   intro z
   refine gw (ih z) λx r e h1 h2=>?_
   refine⟨y,x::r,by rw[Wc,e],h1,?_⟩
   show y::oz (x::r)=_
   rw[h2]
 exact h l z
theorem uO (hc:c<=1114111)(st:St)(K:Vi->Sm):fe st 5 (cy c) K=K (.tuple [.str ⟨[32].toArray⟩,.str ⟨[c].toArray⟩]):=by
 show aD (aD (SZ c 1114111) Sk dV) (K (.tuple [.str ⟨[32].toArray⟩,.str ⟨[c].toArray⟩])) dV=_
 rw[bI hc];rfl
theorem HV (hc:c<=1114111)(st:St)(k:Sm->Sm):kL (cy c) (.tup [.str [32],.str []]) st k=k Sk:=by
 show fe st 5 (cy c) (λx=>fe st 5 (.tup [.str [32],.str []]) λy=>I9 7 x y λc=>k (ee c))=_
 exact(uO hc st _).trans rfl
def Sg (c:Nat):Prop:=33<=c/\c<=126
theorem zy (h:Sg c):fS c=dV:=by
 obtain⟨h1,h2⟩:=h
 have e1:SN c 32=dV:=by cases e:SN c 32 with | false=>rfl | true=>have:=SQ e;lia
 unfold fS
 rw[e1,bI (show 9<=c by lia),jk (show 13<c by lia),bI (show 28<=c by lia),jk (show 31<c by lia)];rfl
theorem oR:∀{cur:Sj Nat},(∀c∈cur,Sg c)->gv (λc=>SZ c 127) (cm cur)=Sk
 | [],_=>rfl
 | c::r,h=>by
  show aD (SZ c 127) (gv (λc=>SZ c 127) (cm r)) dV=Sk
  refine tb (il (bI (by have:=(h c (.head _)).2;lia))) ?_
  exact oR λx m=>h x (.tail _ m)
theorem mF:∀{cur:Sj Nat},(∀c∈cur,Sg c)->gv (λc=>SZ c 127) cur=Sk
 | [],_=>rfl
 | c::r,h=>by
  show aD (SZ c 127) (gv (λc=>SZ c 127) r) dV=Sk
  refine tb (il (bI (by have:=(h c (.head _)).2;lia))) ?_
  exact mF λx m=>h x (.tail _ m)
theorem xZ (h:∀c∈cur,Sg c):aD (iO (cm cur)) (gv fS (cm cur)) dV=dV:=by
 induction cur with
 | nil=>rfl
 | cons c r=>
  show aD (fS c) (gv fS (cm r)) dV=dV
  rw[zy (h c (.head _))];rfl
theorem qz {a b:Nat}(s:St)(k:Sm->Sm):ix (ak a) (ak b) s k=k (SN a b):=rfl
theorem DX (h:∀c∈cur,Sg c) (k:KV):lU (.str (cm cur)) [] s k=k (.bool dV) s:=by
 show aD (gv (λc=>SZ c 127) (cm cur)) (k (.bool (aD (iO (cm cur)) (gv fS (cm cur)) dV)) s) dV=_
 rw[oR h,xZ h];rfl
theorem qX (b:Sm)(s:St)(k:Sm->Sm):iZ (.bool b) s k=k b:=rfl
section
variable {s0 st:St}{pg nl na d da M i:Nat}{L:List (List Nat)}{cur:List Nat}
theorem Q6 (G:Pg s0 st pg nl na d da M i L (cur++[c]))(hs:cur.length<=4000):Ge Jz [.ref na] st (cy c) s0 pg nl na d da M i L cur:=by
 refine gw (PK (cur.map cy) (cy c)) λx r e e1 e2=>?_
 obtain⟨s1,h1,G1,_⟩:=G.setAc i cur (q:=oz (x::r)) (fs:=[(11,ak i)]) rfl e2
 have hm:(cur++[c]).map cy=x::r:=Vp.trans e
 have hl:(x::r).length=cur.length+1:=by rw[←hm,S6,SY];rfl
 have ac:st.look na=Si (.lsub 2 da [(11,ak i)] (x::r)):=hm▸G.ac
 have hl':(x::r).length<=4095:=by rw[hl];exact So (TU hs) (bo rfl)
 refine⟨s1,?_,G1⟩
 delta Jz O6 Fz FI
 exact JT rfl (λ_=>rfl) (aJ (je (bO (fR (ah rfl) ac dA (Ar ac hl')) az (qz (b:=0) _))) (bn (iw (v:=cy c) (λ_=>(St.get_of ac _).trans ((qJ hl').trans ((h1 _).trans (by rw[e1])))))))
theorem Ht (h:st.look na=Si (xX da i cur))(hs:i+2*cur.length<=4095)(hne:1<=cur.length)(K:Sm->St->Sm):eM (.ref na) st K=K Sk st:=by
 refine(St.get_of h _).trans ((nO h hs _).trans ?_)
 refine bG (S0 (show 1<=i+2*cur.length by lia)) λm hm=>?_
 show K (ee (SN (i+2*cur.length) 0)) st=_
 rw[hm];rfl
theorem NY (G:Pg s0 st pg nl na d da M i L cur)(hne:1<=cur.length)(hs:i+2*cur.length<=4000)(hg:∀c∈cur,Sg c):qK Oz [.ref na] st (.bool dV) st:=by
 have hs':=So hs (show 4000<=4095 by decide)
 delta Oz GF Gl
 refine JT rfl (λ_=>rfl) (bn (iw (Ij (c:=SN i 0) (Cg (IS (ah rfl) G.ac λ_=>rfl) az (qz (b:=0) _)) (qX _ _) rfl λ_=>?_)))
 exact KN (c:=dV) (HO (ah rfl) (Ht G.ac hs' hne)) (qX _ _) λ_=>lR (gO (aU (ah rfl)) (mP G.ac (So (TQ _ _) hs'))) dA (DX hg)
theorem Qx (G:Pg s0 st pg nl na d da M i L (cur++[c]))(hs:i+2*cur.length<=3000)(hg:∀x∈cur++[c],Sg x)(hL:L.length<=4000):Ge F8 [.ref pg] st .none s0 pg nl na d da M 0 (L++[cm (cur++[c])]) []:=by
 have hcl:cur.length<=3000:=by lia
 obtain⟨s1,h1,G1⟩:=Q6 G (So hcl (by decide))
 obtain⟨s2,h2,G2⟩:=z7 G1 c (So hcl (by decide))
 have hlen:(cur++[c]).length=cur.length+1:=SY
 refine fF (xv G2 (So hL (by decide)) (cm (cur++[c]))) λs3 h3 G3 _=>?_
 obtain⟨s4,h4,G4⟩:=GQ G3 (by rw[hlen];exact So (TU hcl) (by decide))
 have hs2:i+2*(cur++[c]).length<=3002:=by rw[hlen];lia
 have hc1:1<=(cur++[c]).length:=by rw[hlen];exact TQ _ _
 refine⟨s4,?_,G4⟩
 delta F8 c8 Ly LY KQ Nh
 exact pp rfl (λ_=>rfl) (aJ (aT (fR (cC (ah rfl) G.at1 λ_=>rfl) G.ac dA h1) (aN rfl))
  (aJ (iJ (bO (ah rfl) (pJ (be az (aU az))) (HV (So (hg c (Za _ (.head _))).2 (by decide)) _)) (bn (cX (fR (cC (ah rfl) G1.at1 λ_=>rfl) G1.ac (Ch (ah rfl) rfl) h2))))
   (aJ (iJ (bO (gO (aU (cC (ah rfl) G2.at1 λ_=>rfl)) (mL G2.ac (So hs2 (by decide)))) az (Ll (b:=0) (SH hc1 (So (Nat.le_mul_of_pos_left _ (by decide)) (TQ _ _)))))
     (bn (wz (zW (AN (fR (cC (ah rfl) G2.at1 λ_=>rfl) G2.ac dA (NY G2 hc1 (So hs2 (by decide)) hg)) (tF _ _)))
      (bn (cX (Cn (cC (ah rfl) G2.at1 λ_=>rfl) G2.ln (aU (gO (aU (cC (ah rfl) G2.at1 λ_=>rfl)) (mP G2.ac (So (TQ _ _) (So hs2 (by decide)))))) h3))))))
    (bn (cX (fR (cC (ah rfl) G3.at1 λ_=>rfl) G3.ac dA h4))))))
theorem mU (K:Sj (Sj Nat)->Sm):∀L:Sj (Sj Nat),d7 dB (L.map V.str) K=K L
 | []=>rfl
 | c::r=>by
  show d7 dB (r.map V.str) (λq=>K (c::q))=_
  rw[mU _ r]
theorem Kz (G:Pg s0 st pg nl na d da M i L (cur++[c]))(hs:i+2*cur.length<=3000)(hg:∀x∈cur++[c],Sg x)(hL:L.length<=4000)(hj:(bQ [10] (L++[cm (cur++[c])])).length<=4095):Ge F7 [.ref pg,.str [10]] st (.str (bQ [10] (L++[cm (cur++[c])]))) s0 pg nl na d da M 0 (L++[cm (cur++[c])]) []:=by
 obtain⟨s1,h1,G1⟩:=Qx G hs hg hL
 refine⟨s1,?_,G1⟩
 delta F7 c7 NC LS
 exact JT rfl (λ_=>rfl) (aJ (cX (qf (ah rfl) G.at1 dA h1)) (bn (iw (lR (ah rfl) (aU (cC (ah rfl) G1.at1 λ_=>rfl)) λ_=>(bj G1.ln _).trans ((mU ..).trans ((qJ (l:=[10]) (by decide)).trans (qJ hj)))))))
end
theorem uL (s:St)(k:KV):dU [.str [32]] s k=k (ak 1) s:=rfl
theorem IJ {b:Nat}(h:b<=1000)(st:St)(k:KV):bJ (.int 2) (ak b) st k=k (ak (2*b)) st:=nk (a:=2) (by lia) (by lia)
theorem SetFu.self {s':St}(l:∀j,s'.look j=if j=i then Si o else s.look j):s'.look i=Si o:=(l i).trans (SX rfl)
theorem SetFu.old {s':St}(l:∀j,s'.look j=if j=i then Si o else s.look j) (h:j≠i){q:SV O}(e:s.look j=q):s'.look j=q:=(l j).trans ((SK h).trans e)
inductive Mk (s0 st:St)(p d M i:Nat):Prop
 | mk (s':St) (nl na da:Nat) (e:qK F6 [.ref p,ak i,ak M,.str [32],.str [32]] st .none s') (G:Pg s0 s' p nl na d da M i [] [])
inductive Pl (st:St)(a i:Nat)(da:Nat):Prop
 | mk (s':St) (e:qK MP [.ref a,ak i] st .none s') (F:s'.Fu) (n:s'.n=st.n) (l:∀j,s'.look j=if j=a then Si (.lsub 2 da [(11,ak i)] []) else st.look j)
theorem OW (F:st.Fu){a da:Nat}(h4:4<=a)(h:st.look a=Si (.lsub 2 da [] [])):Pl st a i da:=by
 obtain⟨s1,e1,f1,n1,l1⟩:=PS F h h4 11 (ak i) (Th _)
 have a1:s1.look a=Si (.lsub 2 da [(11,ak i)] []):=SetFu.self l1
 obtain⟨s2,e2,f2,n2,l2⟩:=gZ f1 h4 (St.lt f1 a1) (.lsub 2 da [(11,ak i)] [])
 refine⟨s2,?_,f2,n2.trans n1,λj=>?_⟩
 ·delta MP Km Fy Gg
  exact pp rfl (λ_=>rfl) (aJ (aT (ah rfl) (cR (ah rfl) e1)) (bn (cX λ_=>(St.get_of a1 _).trans (e2 _))))
 ·rw[l2]
  by_cases q:j=a
  ·rw[SX q,SX q]
  ·rw[SK q,SK q,l1,SK q]
theorem J3 {p M:Nat}(X:Ext s0 st)(h4:4<=s0.n)(hp:st.look p=Si (.inst 1 d []))(hlo:s0.n<=p):Mk s0 st p d M i:=by
 have hpn:=St.lt X.fu hp
 have h4p:=So h4 hlo
 obtain⟨s3,e3,f3,n3,l3⟩:=xz X.fu hp h4p 5 (ak M) (Th _)
 obtain⟨s4,e4,f4,n4,l4⟩:=xz f3 (SetFu.self l3) h4p 6 (.str [32]) (show 1<=100 by decide)
 obtain⟨s5,e5,f5,n5,l5⟩:=xz f4 (SetFu.self l4) h4p 7 (ak 1) (show 2<=100 by decide)
 obtain⟨s6,e6,f6,n6,l6⟩:=xz f5 (SetFu.self l5) h4p 8 (.str [32]) (show 3<=100 by decide)
 have X6:Ext s0 s6:=((((X.set f3 n3 hlo l3).set f4 n4 hlo l4).set f5 n5 hlo l5).set f6 n6 hlo l6)
 have h6:p<s6.n:=by rw[n6,n5,n4,n3];exact hpn
 obtain⟨s7,e7,f7,n7,l7⟩:=dK f6 (.list [])
 obtain⟨s8,e8,f8,n8,l8⟩:=xz f7 (SetFu.old l7 (SP h6) (SetFu.self l6)) h4p 9 (.ref s6.n) (show 4<=100 by decide)
 have n86:s8.n=s6.n+1:=n8.trans n7
 have X8:Ext s0 s8:=(X6.push f7 n7 l7).set f8 n8 hlo l8
 obtain⟨s9,e9,f9,n9,l9⟩:=dK f8 .hid
 obtain⟨s10,e10,f10,n10,l10⟩:=dK f9 (.lsub 2 s8.n [] [])
 have hn9:s0.n<=s9.n:=by rw[n9];exact Vt X8.n
 obtain⟨s12,hF,f12,n12,l12⟩:=OW f10 (i:=i) (So h4 hn9) (SetFu.self l10)
 have h69:s6.n<s9.n:=by rw[n9,n86];exact To (S1 _)
 have old:∀{j:Nat} {q:SV O},j<s8.n->s8.look j=q->s12.look j=q:=λ{j q} h e=>by
  have h9:j<s9.n:=n9▸To h
  exact SetFu.old l12 (SP h9) (SetFu.old l10 (SP h9) (SetFu.old l9 (SP h) e))
 have h68:s6.n<s8.n:=n86▸S1 _
 have q12:s12.look s6.n=Si (.list []):=old h68 (SetFu.old l8 (Tz h6) (SetFu.self l7))
 obtain⟨s13,e13,f13,n13,l13⟩:=xz f12 (old (SO h6 h68) (SetFu.self l8)) h4p 10 (.ref s9.n) (show 5<=100 by decide)
 have X13:Ext s0 s13:=((((X8.push f9 n9 l9).push f10 n10 l10).set f12 n12 hn9 l12).set f13 n13 hlo l13)
 refine⟨s13,s6.n,s9.n,s8.n,?_,X13,SetFu.self l13,SetFu.old l13 (Tz h6) q12,SetFu.old l13 (Tz (SO h6 h69)) (SetFu.self l12),⟨h4,hlo,X6.n,hn9⟩,SP (SO h6 h69),SP h6,SP h69⟩
 delta F6 c6 LN Ja Na Kf Ma K2
 exact pp rfl (λ_=>rfl) (aJ (aT (ah rfl) (cR (ah rfl) e3)) (aJ (aT (ah rfl) (cR (ah rfl) e4)) (aJ (aT (gO (aU (ah rfl)) (uL _)) (cR (ah rfl) e5))
  (aJ (aT (ah rfl) (cR (ah rfl) e6)) (aJ (aT (dX dA e7) (cR (ah rfl) e8)) (bn (aT (zc (aU (ah rfl)) e9 e10 hF) (cR (ah rfl) e13))))))))
inductive JY (fm:Fm)(st:St)(ring head:Nat):Prop
 | mk (s':St) (pg nl na d da:Nat) (e:gT Bp fm st .nxt ⟨yS fm.loc (.ref pg) 4,fm.cel⟩ s') (G:Pg st s' pg nl na d da (2*ring) (2*head) [] [])
theorem KC (F:st.Fu)(h4:4<=st.n){head:Nat}(hr:ring<=1000)(hh:head<=1000)(h1:uJ fm.loc 1=Si (ak ring))(h2:uJ fm.loc 2=Si (ak head))(hi:wd fm.loc 4=Sk):JY fm st ring head:=by
 obtain⟨s1,e1,f1,n1,l1⟩:=dK F .hid
 obtain⟨s2,e2,f2,n2,l2⟩:=dK f1 (.inst 1 st.n [])
 have X1:Ext st s1:=(Ext.refl F).push f1 n1 l1
 obtain⟨s3,nl,na,da,e3,G⟩:=J3 (M:=2*ring) (i:=2*head) (X1.push f2 n2 l2) h4 (p:=s1.n) (d:=st.n) (SetFu.self l2) X1.n
 refine⟨s3,s1.n,nl,na,st.n,da,?_,G⟩
 delta Bp
 exact aT (zc (be (bd az (ah h2) (IJ hh _)) (be (bd az (ah h1) (IJ hr _)) (be az (aU az)))) e1 e2 e3) (aN hi)
noncomputable def fU (ring:Nat):Nat->Sj Nat->Sj Nat->Sj (Sj Nat)
 | _,cur,[]=>[cur]
 | c0,cur,c::r=>if c0+cur.length+1<=ring then fU ring c0 (cur++[c]) r else cur::fU ring 0 [c] r
noncomputable section
abbrev JF:Nat->CF:=dP (em (ay dV 5)) (aq (dI (bz 1 F9 (aa dV 4) (ae (ao (.str [32])) (ae (aa dV 5) av)))) aH) aH
noncomputable abbrev Li (a0 a1 a2 a3:OV)(pg:Nat)(o5 o6:OV):Fm:=⟨[a0,a1,a2,a3,Si (.ref pg),o5,o6],[]⟩
end
inductive NQ (s0 st:St)(pg nl na d da ring c0:Nat)(L:Sj (Sj Nat))(cur signs:Sj Nat)(a0 a1 a2 a3 o5 o6:OV)(n:Nat):Prop
 | mk (s':St) (c0':Nat) (L':Sj (Sj Nat)) (cur':Sj Nat) (c:Nat) (o':OV) (e:CW (JF n) (Li a0 a1 a2 a3 pg o5 o6) (.str signs) st .nxt (Li a0 a1 a2 a3 pg o' o6) s')
  (G:Pg s0 s' pg nl na d da (2*ring) (2*c0') L' (cur'++[c])) (g:∀x∈cur'++[c],Sg x) (le:c0'+cur'.length<=ring) (rows:L'++[cm (cur'++[c])]=L++(fU ring c0 cur signs).map cm) (len:L'.length<=L.length+signs.length)
theorem Ef {P:α->Prop}{l:Sj α}{c:α}(h:∀x∈l,P x)(hc:P c):∀x∈l++[c],P x:=λx m=>(Tj.mp m).elim (h x) λm=>Sn.mp m▸hc
theorem Jk {pg na da:Nat}(hr:ring<=40){a0 a1 a2 a3 o6:OV}(signs:Sj Nat):∀{st:St}{c0:Nat}{L:Sj (Sj Nat)}{cur:Sj Nat}{n:Nat}{o5:OV},Pg s0 st pg nl na d da (2*ring) (2*c0) L cur->(∀c∈signs,Sg c)->(∀c∈cur,Sg c)->c0+cur.length<=ring->(cur=[]->c0<ring)->(cur=[]->signs≠[])->signs.length<n->L.length+signs.length<=4000 ->
  NQ s0 st pg nl na d da ring c0 L cur signs a0 a1 a2 a3 o5 o6 n:=by
 induction signs with
 | nil=>
  intro st c0 L cur n o5 G hg hgc hle h0 h1 hn hL
  refine bG (S0 hn) λn e81=>?_;subst e81
  have hne:cur≠[]:=λe=>h1 e rfl
  have e:=Sj.dropLast_concat_getLast hne
  exact⟨st,c0,L,cur.dropLast,cur.getLast hne,o5,mG (λ_ _=>rfl) qC,e.symm▸G,e.symm▸hgc,So (Tw (Sj.length_dropLast▸Xc _ _) _) hle,by rw[e];rfl,SW _⟩
 | cons c r ih=>
  intro st c0 L cur n o5 G hg hgc hle h0 h1 hn hL
  refine bG (S0 hn) λn e81=>?_;subst e81
  have hg':∀x∈r,Sg x:=λx m=>hg x (.tail _ m)
  have hc:=hg c (.head _)
  have hn':r.length<r.length+1+n:=SH (S1 _) (Td _ _)
  by_cases hf:c0+cur.length+1<=ring
  ·obtain⟨s1,e1,G1⟩:=Iz G c (by lia) (by lia)
   obtain⟨s',c0',L',cur',c',o',a,b,cc,dd,e,f⟩:=ih (n:=n+(r.length+1)) (o5:=Si (.str [c])) G1 hg' (Ef hgc hc) (by rw[SY];exact hf) (λq=>by simp at q) (λq=>by simp at q) (by lia) (So (T2 _) hL)
   exact⟨s',c0',L',cur',c',o',xe (λ_ _=>rfl) (aN rfl) (bn (cX (qf (ah rfl) G.at1 (be az (aU (ah rfl))) e1))) a,b,cc,dd,by rw[e];simp only[fU,SX hf],So f (T2 _)⟩
  ·have hne:1<=cur.length:=match cur,h0,hf with
    | [],h0,hf=>Tc (h0 rfl) hf
    | _::_,_,_=>TQ _ _
   obtain⟨s1,e1,G1⟩:=ML G c hne (by lia) (by lia) (by lia) (by lia)
   obtain⟨s',c0',L',cur',c',o',a,b,cc,dd,e,f⟩:=ih (n:=n+(r.length+1)) (o5:=Si (.str [c])) (c0:=0) (L:=L++[cm cur]) (cur:=[c]) G1 hg' (λx m=>Sn.mp m▸hc) (show 0+1<=ring by lia) (λq=>nomatch q) (λq=>nomatch q) (by lia) (by rw[SY];exact(Ws _ 1 _)▸hL)
   exact⟨s',c0',L',cur',c',o',xe (λ_ _=>rfl) (aN rfl) (bn (cX (qf (ah rfl) G.at1 (be az (aU (ah rfl))) e1))) a,b,cc,dd,by rw[e];simp only[fU,SK hf,Tx,U3,Zb],by rw[SY] at f;exact So f (Ub (Ws _ 1 _))⟩
theorem jL:∀(signs:Sj Nat)(c0:Nat)(cur:Sj Nat),(fU ring c0 cur signs).flatten=cur++signs
 | [],c0,cur=>by simp[fU]
 | c::r,c0,cur=>by
  unfold fU
  split
  ·rw[jL r];simp
  ·rw[TJ,jL r];simp
theorem mJ {ring:Nat}:∀(signs:Sj Nat)(c0:Nat)(cur:Sj Nat),(fU ring c0 cur signs).length<=signs.length+1
 | [],c0,cur=>by simp[fU]
 | c::r,c0,cur=>by
  unfold fU
  split
  ·have:=mJ (ring:=ring) r c0 (cur++[c]);simp only[Tg];lia
  ·have:=mJ (ring:=ring) r 0 [c];simp only[Tg];lia
theorem sK:∀R:Sj (Sj Nat),(bQ [10] (R.map cm)).length<=2*R.flatten.length+R.length
 | []=>Th _
 | [w]=>by
  show(cm w).length<=_
  rw[fj];simp
 | w::v::r=>by
  have ih:=sK (v::r)
  show(bp (cm w) (bp [10] (bQ [10] ((v::r).map cm)))).length<=_
  rw[bf,bf,SY,SY,fj,TJ,SY,Tg (a:=w)]
  simp only[VW]
  lia
theorem nN:∀(w:Sj Nat),(∀c∈w,c≠10)->bP 10 w=[w]
 | [],_=>rfl
 | x::w,h=>by
  have hx:SN x 10=dV:=by cases e:SN x 10 with | false=>rfl | true=>exact Tc (SQ e) (h x (.head _))
  show @Ti (λ_=>Sj (Sj Nat)) (@S5 (Sj Nat) (λ_=>Sj (Sj Nat)) [[x]] (λw ws _=>(x::w)::ws) (bP 10 w)) ([]::bP 10 w) (SN x 10)=_
  rw[hx,nN w λc m=>h c (.tail _ m)]
theorem rf:∀(w l:Sj Nat),(∀c∈w,c≠10)->bP 10 (w++10::l)=w::bP 10 l
 | [],l,_=>rfl
 | x::w,l,h=>by
  have hx:SN x 10=dV:=by cases e:SN x 10 with | false=>rfl | true=>exact Tc (SQ e) (h x (.head _))
  show @Ti (λ_=>Sj (Sj Nat)) (@S5 (Sj Nat) (λ_=>Sj (Sj Nat)) [[x]] (λw ws _=>(x::w)::ws) (bP 10 (w++10::l))) ([]::bP 10 (w++10::l)) (SN x 10)=_
  rw[hx,rf w l λc m=>h c (.tail _ m)]
theorem lW:∀(R:Sj (Sj Nat)),R≠[]->(∀w∈R,∀c∈w,c≠10)->bP 10 (bQ [10] R)=R
 | [],h,_=>Tc rfl h
 | [w],_,h=>nN w (h w (.head _))
 | w::v::r,_,h=>by
  show bP 10 (bp w (bp [10] (bQ [10] (v::r))))=_
  rw[bf,bf]
  show bP 10 (w++10::bQ [10] (v::r))=_
  rw[rf w _ (h w (.head _)),lW (v::r) (by simp) λx m=>h x (.tail _ m)]
theorem ze (h:∀c∈cur,Sg c):∀c∈cm cur,c≠10:=by
 intro c m
 refine aE (Sj.mem_flatMap.mp m) λx mx hx=>?_
 have:=(h x mx).1
 simp at hx
 rcases hx with rfl | rfl <;> lia
theorem Ap:∀R:Sj (Sj Nat),bQ [] R=R.flatten
 | []=>rfl
 | [w]=>by show w=_;simp
 | w::v::r=>by
  show bp w (bp [] (bQ [] (v::r)))=_
  rw[bf,bf,Ap (v::r)];simp
theorem xl:∀cur:Sj Nat,kW (cm cur) dV=cur
 | []=>rfl
 | c::r=>by
  show c::kW (cm r) dV=_
  rw[xl r]
noncomputable def bM:Nat->Sj Nat->Sj Nat
 | _,[]=>[]
 | j,c::r=>if c=45 then bM (j+1) r else j::bM (j+1) r
noncomputable def eO (ring:Nat):Nat->Sj Nat->Sj Nat
 | _,[]=>[]
 | p,c::r=>if c=45 then eO ring (p+1) r else (p % ring)::eO ring (p+1) r
theorem fH:∀(l r:Sj Nat)(j:Nat),bM j (l++r)=bM j l++bM (j+l.length) r
 | [],r,j=>by simp[bM]
 | c::l,r,j=>by
  simp only[Wc,bM,Tg]
  rw[fH l r (j+1),show j+1+l.length=j+(l.length+1) by lia]
  split <;> simp
theorem ib:∀(n j:Nat),bM j (Sv n 45)=[]
 | 0,_=>rfl
 | n+1,j=>by
  show bM j (45::Sv n 45)=_
  simp only[bM,SX];exact ib n (j+1)
theorem lQ:∀(l:Sj Nat)(p:Nat),eO ring (p+ring) l=eO ring p l
 | [],_=>rfl
 | c::r,p=>by
  simp only[eO]
  rw[show p+ring+1=p+1+ring by lia,lQ r,Nat.add_mod_right]
noncomputable def fz (c0:Nat):Sj (Sj Nat)->Sj Nat
 | []=>[]
 | r0::rest=>bM 0 (Sv c0 45++r0)++rest.flatMap (bM 0)
theorem uY (R:Sj (Sj Nat)):fz 0 R=R.flatMap (bM 0):=by induction R <;> simp[fz]
theorem kf (hr:1<=ring):∀(signs:Sj Nat)(c0:Nat)(cur:Sj Nat),c0+cur.length<=ring->fz c0 (fU ring c0 cur signs)=bM c0 cur++eO ring (c0+cur.length) signs
 | [],c0,cur,_=>by
  simp only[fU,fz,eO]
  rw[fH,ib];simp
 | c::r,c0,cur,h=>by
  unfold fU
  split
  ·rename_i hf
   rw[kf hr r c0 (cur++[c]) (by simp;omega),fH,SY,VW,←Ym]
   simp only[eO,bM]
   by_cases e:c=45
   ·rw[SX e,SX e];simp
   ·rw[SK e,SK e,Nat.mod_eq_of_lt (by lia)];simp
  ·rename_i hf
   have ih:=kf hr r 0 [c] (by simp;omega)
   rw[uY] at ih
   simp only[fz]
   rw[ih,fH,ib]
   have hp:c0+cur.length=ring:=by lia
   rw[hp]
   simp only[eO,bM]
   rw[show ring+1=1+ring by lia,lQ r,Nat.mod_self]
   by_cases e:c=45
   ·rw[SX e,SX e];simp
   ·rw[SK e,SK e];simp
noncomputable def d9 (step:Nat):Nat->Nat->Sj (Sj Nat)
 | _,0=>[]
 | k,n+1=>(Sv (step - 1) 45++[98+k])::d9 step (k+1) n
theorem tx:∀(m p:Nat)(r:Sj Nat),eO ring p (Sv m 45++r)=eO ring (p+m) r
 | 0,p,r=>by simp
 | m+1,p,r=>by
  show eO ring p (45::(Sv m 45++r))=_
  simp only[eO,SX]
  rw[tx m,show p+1+m=p+(m+1) by lia]
theorem my {step:Nat}(h1:1<=step):∀(n k p:Nat),eO ring (p+1) (d9 step k n).flatten=(Up n).map λj=>(p+(j+1)*step) % ring
 | 0,_,_=>rfl
 | n+1,k,p=>by
  simp only[d9,TJ]
  rw[U3,tx,Zb]
  simp only[eO]
  rw[SK (by lia),show p+1+(step - 1)=p+step by lia,my h1 n (k+1) (p+step),WV,Tx,Ud]
  congr 1
  ·simp
  ·apply U9
   intro j _
   simp only[aaR]
   congr 1
   simp only[Nat.succ_eq_add_one,Nat.add_mul];lia
theorem kj {step:Nat}(h1:1<=step):∀(n k:Nat),(d9 step k n).flatten.length=n*step
 | 0,_=>by simp[d9]
 | n+1,k=>by
  simp only[d9,TJ,SY,TS,VW]
  rw[kj h1 n,Nat.add_mul];lia
theorem tw {step:Nat}:∀(n k:Nat),k+n<=20->∀c∈(d9 step k n).flatten,Sg c
 | 0,_,_,c,m=>by simp[d9] at m
 | n+1,k,h,c,m=>by
  simp only[d9,TJ,Tj] at m
  rcases m with (m | m) | m
  ·rw[(Z7.mp m).2];exact⟨by lia,by lia⟩
  ·rw[Sn.mp m];exact⟨by lia,by lia⟩
  ·exact tw n (k+1) (by lia) c m
theorem yP {step head:Nat}(h1:1<=step)(hr:1<=ring)(hh:head<ring):fz head (fU ring head [] (97::(d9 step 0 many).flatten))=(Up (many+1)).map λj=>(head+j*step) % ring:=by
 rw[kf hr _ _ _ (by simp;lia)]
 simp only[bM,XA,VM,Nat.add_zero,eO]
 rw[SK (by lia),my h1,WV,Tx,Ud]
 congr 1
 simp
theorem pX:∀{l:Sj α}{i:Nat}{k:α->Sm}{z:Sm},l.length<=i->getL l i k z=z
 | [],_,_,_,_=>rfl
 | x::l,0,_,_,h=>by simp at h
 | x::l,i+1,k,z,h=>pX (l:=l) (by simpa using h)
theorem mO {j:Int} (h:st.look t=Si (.list l))(e:l[i]? = Si v)(k:dy->It->Sm):aY st (.enS j t i) stop k=k (.pair (.int j) v) (.enS (gA j 1) t (i+1)):=
 (bj h _).trans (eV e)
theorem kI {j:Int} (h:st.look t=Si (.list l))(e:l.length<=i)(k:dy->It->Sm):aY st (.enS j t i) stop k=stop:=
 (bj h _).trans (pX e)
theorem vn (h:st.look t=Si (.list l))(e:l[i]? = Si v)(k:dy->It->Sm):aY st (.seq t i) stop k=k (.v v) (.seq t (i+1)):=
 (bj h _).trans (eV e)
theorem uB (h:st.look t=Si (.list l))(e:l.length<=i)(k:dy->It->Sm):aY st (.seq t i) stop k=stop:=
 (bj h _).trans (pX e)
theorem vC {a b:Nat}(h:a≠b):SN a b=dV:=by
 cases q:SN a b with
 | false=>rfl
 | true=>exact Tc (SQ q) h
theorem xu (c n:Nat):cw [c] n=Sv n c:=by
 rw[gC]
 induction n with
 | zero=>rfl
 | succ n ih=>rw[TN,TJ,ih];rfl
theorem rW {x:Sj Nat} (hn:n<=4095)(h:x.length*n<=4095)(s:St)(k:KV):bJ (.str x) (ak n) s k=k (.str (cw x n)) s:=by
 show aD (small (.ofNat n)) (aD (aB (XI (aK x) n)) (k (.str (cw x n)) s) dV) dV=_
 rw[bS (by lia),aC,show aB (XI x.length n)=Sk from bI h];rfl
theorem mu {x y:Sj Nat}(h:x.length+y.length<=4095)(s:St)(k:KV):aQ (.str x) (.str y) s k=k (.str (x++y)) s:=by
 show aD (aB (Zz (aK x) (aK y))) (k (.str (bp x y)) s) dV=_
 rw[aC,aC,show aB (Zz x.length y.length)=Sk from bI h,bf];rfl
theorem Jp (k:Nat)(s:St)(K:KV):aQ (.int 98) (.int (.ofNat k)) s K=K (ak (98+k)) s:=rfl
theorem Ik (h1:97<=c)(h2:c<=122)(s:St)(K:KV):Eo [ak c] s K=K (.str [c]) s:=by
 show aD (SZ 97 c) (aD (SZ c 122) (K (.str [c]) s) dV) dV=_
 rw[bI h1,bI h2];rfl
noncomputable section
abbrev Mn:CE:=aA aQ (aA bJ (ao (.str [45])) (aA cf (aa dV 2) (ao (.int 1)))) (gB Eo (ae (aA aQ (ao (.int 98)) (aa dV 1)) av))
abbrev MY:Nat->CC:=bw (yW (ay dV 1) (ay dV 2)) cA (gt Mn)
end
theorem GI {step:Nat}(ht:st.look t=Si (.list (Sv many (ak step))))(h1:1<=step)(hs:step<=100)(hm:many<=20)(n:Nat) :
  ∀{k f:Nat} {o1 o2:OV},k+n=many->n<f->∃fm',yZ (MY f) ⟨[none,o1,o2],[]⟩ (.enS (.ofNat k) t k) st ((d9 step k n).map V.str) fm' st:=by
 induction n with
 | zero=>
  intro k f o1 o2 hk hf
  refine bG (S0 hf) λf e81=>?_;subst e81
  exact⟨_,gV λ_ _=>kI ht (by rw[TS];exact Ub hk.symm) _⟩
 | succ n ih=>
  intro k f o1 o2 hk hf
  refine bG (S0 hf) λf e81=>?_;subst e81
  obtain⟨fm',h⟩:=ih (k:=k+1) (f:=f+n+1) (o1:=Si (.int (.ofNat k))) (o2:=Si (ak step)) (by lia) (by lia)
  have hk':k<many:=by lia
  refine⟨fm',rp (λ_ _=>mO ht (v:=ak step) (by rw[WD,SX hk']) _) (vM (aN rfl) (aN rfl)) m6
   (wb (v:=.str (Sv (step - 1) 45++[98+k])) (xu 45 (step - 1)▸bd (bd az (bd (ah rfl) az λ_=>hZ (a:=step) (b:=1) h1) (rW (x:=[45]) (n:=step - 1) (by lia) (by simp;lia) _)) (gO (aU (bd az (ah rfl) (Jp k _))) (Ik (by lia) (by lia) _)) (mu (by rw[xu];simp;lia) _))) h⟩
theorem JM {q:Nat}{R:Sj (Sj Nat)}(h:st.look q=Si (.list (R.map V.str)))(hl:R.flatten.length<=4095)(k:KV):oW (.str []) [.ref q] st k=k (.str R.flatten) st:=by
 refine Eq.trans (DN ..) ?_
 refine Eq.trans (bj h _) ?_
 refine Eq.trans (mU ..) ?_
 refine Eq.trans (qJ (l:=([]:Sj Nat)) (by simp)) ?_
 refine Eq.trans (qJ (l:=bQ [] R) (by rw[Ap];exact hl)) ?_
 rw[Ap]
inductive I1 (fm:Fm)(st:St)(step many:Nat):Prop
 | mk (s':St) (e:gT B2 fm st .nxt ⟨yS fm.loc (.str (97::(d9 step 0 many).flatten)) 3,fm.cel⟩ s') (X:Ext st s')
theorem Ip (F:st.Fu){step:Nat}(h0:uJ fm.loc 0=Si (.ref t))(h3:wd fm.loc 3=Sk)(ht:st.look t=Si (.list (Sv many (ak step))))(h1:1<=step)(hs:step<=10)(hm:many<=20):I1 fm st step many:=by
 have hml:∀n k,((d9 step k n).map V.str).length=n:=by
  intro n
  induction n with
  | zero=>exact λ_=>rfl
  | succ n ih=>exact λk=>SU TA (ih (k+1))
 obtain⟨s1,e1,f1,n1,l1⟩:=dK F (.list ((d9 step 0 many).map V.str))
 have hlen:=kj h1 many 0
 have hb:many*step<=200:=Nat.mul_le_mul hm hs
 have hb':=So (hlen▸hb) (show 200<=4094 by decide)
 obtain⟨fm',h⟩:=GI ht h1 (So hs (by decide)) hm many (k:=0) (f:=200) (o1:=none) (o2:=none) (Wd _) (Tn hm (by decide))
 refine⟨s1,?_,(Ext.refl F).push f1 n1 l1⟩
 delta B2
 exact aT (bd az (lR az (aU (ly (λ_=>rfl) (wU (ah h0) ht) h (by rw[hml];exact So hm (by decide)) e1)) (JM (R:=d9 step 0 many) ((l1 _).trans (SX rfl)) (Vt hb'))) (mu (x:=[97]) (So (Ub (aaa 1 _)) (TU hb')) _)) (aN h3)
theorem wJ (c:Nat)(s:St)(k:Sm->Sm):kL (.str [c]) (.str [45]) s k=k (ee (SN c 45)):=by
 show k (ee (CV [c] [45]))=_
 rw[ww]
noncomputable section
abbrev RX:Nat->CC:=bw (yW (ay dV 2) (ay dV 3)) (bR kL (aa dV 3) (ao (.str [45]))) (gt (aa dV 2))
abbrev Qr:CB:=I6 (lE (Eb (aa dV 1))) (yW (ay dV 2) (ay dV 3)) (bR kL (aa dV 3) (ao (.str [45]))) (gt (aa dV 2))
abbrev Pp:Nat->CC:=bw (em (ay dV 1)) cA Qr
end
theorem RD {o0 o1:OV}(l:Sj Nat):∀{j n:Nat}{o2 o3:OV},l.length<n->∃b2 b3,yZ (RX n) ⟨[o0,o1,o2,o3],[]⟩ (.enT (.ofNat j) l) st ((bM j l).map ak) ⟨[o0,o1,b2,b3],[]⟩ st:=by
 induction l with
 | nil=>
  intro j n o2 o3 h
  obtain⟨n,rfl⟩:=S0 h
  exact⟨_,_,gV λ_ _=>rfl⟩
 | cons c r ih=>
  intro j n o2 o3 h
  obtain⟨n,rfl⟩:=S0 h
  refine vD (ih (j:=j+1) (n:=n+(r.length+1)) (o2:=Si (.int (.ofNat j))) (o3:=Si (.str [c])) (SH (S1 _) (TQ _ _))) λb2 b3 e=>?_
  refine⟨b2,b3,?_⟩
  unfold bM
  by_cases q:c=45
  ·rw[SX q]
   exact FS (λ_ _=>rfl) (vM (aN rfl) (aN rfl)) (bO (ah rfl) az λk=>(wJ c _ k).trans (by rw[q];rfl)) e
  ·rw[SK q]
   exact rp (λ_ _=>rfl) (vM (aN rfl) (aN rfl)) (bO (ah rfl) az λk=>(wJ c _ k).trans (by rw[vC q];rfl)) (wb (ah rfl)) e
theorem Q9 {q:Nat}{R:Sj (Sj Nat)}(hq:st.look q=Si (.list (R.map λr=>V.str (cm r))))(hg:∀r∈R,(∀c∈r,Sg c)/\r.length<=150){o0:OV}(l:Sj (Sj Nat)):∀{i n:Nat}{o1 o2 o3:OV},R.drop i=l->l.length<n->∃fm',yZ (Pp n) ⟨[o0,o1,o2,o3],[]⟩ (.seq q i) st ((l.flatMap (bM 0)).map ak) fm' st:=by
 induction l with
 | nil=>
  intro i n o1 o2 o3 hd h
  refine bG (S0 h) λn e81=>?_;subst e81
  exact⟨_,gV λ_ _=>uB hq (by rw[S6];exact Xq.mp hd) _⟩
 | cons r l ih=>
  intro i n o1 o2 o3 hd h
  refine bG (S0 h) λn e81=>?_;subst e81
  have hri:R[i]? = Si r:=by rw[←Vo,hd];rfl
  have hd':R.drop (i+1)=l:=by rw[←W3,hd];rfl
  refine dE (hg r (Su hri)) λhs hl=>?_
  refine vD (RD (st:=st) (o0:=o0) (o1:=Si (.str (cm r))) r (j:=0) (n:=200) (o2:=o2) (o3:=o3) (Tn hl (bo rfl))) λb2 b3 hin=>?_
  refine bG (ih (i:=i+1) (n:=n+(l.length+1)) (o1:=Si (.str (cm r))) (o2:=b2) (o3:=b3) hd' (SH (S1 _) (TQ _ _))) λfm' e=>?_
  refine⟨fm',?_⟩
  rw[Sj.flatMap_cons,Vp,←bf]
  exact rp (λ_ _=>vn hq (by rw[TM,hri];rfl) _) (qt (aN rfl)) m6 (K6 (Dl (IC (ah rfl) (by rw[aC,fj];exact bI (So (XD 2 hl) (bo rfl))) (xl r)) (mF hs)) hin) e
theorem DW {w:Sj Nat}(h:w.length<=4095)(s:St)(k:KV):uM (.str w) [.str [10]] s k=s.push (.list (fE .str (bP 10 w))) λn s=>k (.ref n) s:=qJ (l:=w) h
theorem Dw {q:Nat}{x:V} (h:st.look q=Si (.list (x::l)))(k:St->Sm):ng (.ref q) (.int 0) v st k=st.set q (.list (v::l)) k:=by
 show bh st q (λl=>idx 0 (aK l) λj=>nF l j v λl=>st.set q (.list l) k)=_
 rw[bj h];rfl
theorem sC (head:Nat)(r:Sj Nat):cw [32,45] head++cm r=cm (Sv head 45++r):=by
 rw[gC]
 induction head with
 | zero=>rfl
 | succ n ih=>
  rw[TN,TN,TJ,Wc]
  show 32::45::((Sv n [32,45]).flatten++cm r)=32::45::cm (Sv n 45++r)
  rw[ih]
theorem Dk {c0:Nat}{signs:Sj Nat}:fU ring c0 cur signs≠[]:=by
 induction signs generalizing c0 cur with
 | nil=>simp[fU]
 | cons c r ih=>
  unfold fU
  split
  ·exact ih
  ·simp
inductive Ji (st:St)(t ring step many head:Nat):Prop
 | mk (s':St) (q:Nat) (e:qK Op [.ref t,ak ring,ak head] st (.ref q) s') (X:Ext st s') (n:st.n<=q) (l:s'.look q=Si (.list (((Up (many+1)).map λj=>(head+j*step) % ring).map ak)))
structure Lq (ring head:Nat)(signs:Sj Nat)(R:Sj (Sj Nat))(r0:Sj Nat)(rest:Sj (Sj Nat)):Prop where
 e:fU ring head [] signs=R
 c:R=r0::rest
 g:∀r∈(Sv head 45++r0)::rest,(∀c∈r,Sg c)/\r.length<=150
 l:r0.length<=signs.length
 n:rest.length<=120
 s:bP 10 (bQ [10] (R.map cm))=R.map cm
 j:(bQ [10] (R.map cm)).length<=4095
theorem NR {head:Nat}{signs:Sj Nat}(hsg:∀c∈signs,Sg c)(hl:signs.length<=106)(hh:head<=40):∃R r0 rest,Lq ring head signs R r0 rest:=by
 have hff:=jL (ring:=ring) signs head []
 rw[XA] at hff
 have hfl:=mJ (ring:=ring) signs head []
 have hjl:=sK (fU ring head [] signs)
 have hne:=Dk (ring:=ring) (c0:=head) (cur:=[]) (signs:=signs)
 generalize hfeed:fU ring head [] signs=R at *
 rw[hff] at hjl
 have hrow:∀r∈R,(∀c∈r,Sg c)/\r.length<=signs.length:=λr m=>by
  refine⟨λc mc=>hsg c (by rw[←hff];exact Sj.mem_flatten.mpr ⟨r,m,mc⟩),?_⟩
  have:r.length<=R.flatten.length:=by
   refine vD (Sj.append_of_mem m) λa b e=>?_
   rw[e];simp;lia
  rw[hff] at this;exact this
 match R,hne with
 | r0::rest,_=>
  have hr0:=hrow r0 (.head _)
  rw[Tg] at hfl hjl
  refine⟨r0::rest,r0,rest,hfeed,rfl,λr m=>?_,hr0.2,by lia,lW _ (by simp) λw m=>?_,by lia⟩
  ·rcases SD.mp m with rfl | m
   ·refine⟨λc mc=>(Tj.mp mc).elim (λmc=>?_) (hr0.1 c),by rw[SY,TS];lia⟩
    rw[(Z7.mp mc).2];exact⟨(bo rfl),(bo rfl)⟩
   ·exact⟨(hrow r (.tail _ m)).1,So (hrow r (.tail _ m)).2 (So hl (bo rfl))⟩
  ·refine aE (XN.mp m) λr mr e82=>?_;subst e82
   exact ze (hrow r mr).1
theorem Az (head:Nat):(cw [32,45] head).length=2*head:=by
 have:=SU Sj.length (sC head [])
 rw[fj,SY,SY,TS] at this
 exact this
theorem Ad (F:st.Fu)(h4:4<=st.n){step head:Nat}(ht:st.look t=Si (.list (Sv many (ak step))))(h1:1<=step)(hs:step<=7)(hm:many<=15)(hr:ring<=40)(hh:head<ring):Ji st t ring step many head:=by
 obtain⟨s1,e1,X1⟩:=Ip (fm:=⟨[Si (.ref t),Si (ak ring),Si (ak head),none,none,none,none],[]⟩) F rfl rfl ht h1 (So hs (bo rfl)) (So hm (bo rfl))
 have hb:many*step<=105:=Nat.mul_le_mul hm hs
 have hlen:(97::(d9 step 0 many).flatten).length<=106:=by rw[Tg,kj h1];exact TU hb
 have hsg:∀c∈(97::(d9 step 0 many).flatten),Sg c:=λc m=>(SD.mp m).elim (λe=>e▸⟨(bo rfl),(bo rfl)⟩) (tw many 0 (by lia) c)
 have hsn:(97::(d9 step 0 many).flatten)≠[]:=λe=>nomatch e
 have hline:=yP (many:=many) h1 (So (TQ _ _) hh) hh
 generalize (97::(d9 step 0 many).flatten)=signs at *
 have hh40:head<=40:=So (TP hh) hr
 have h1000:40<=1000:=(bo rfl)
 refine zl (NR (ring:=ring) hsg hlen hh40) λR r0 rest hR=>?_
 rw[hR.e,hR.c] at hline
 obtain⟨s2,pg,nl,na,d,da,e2,G2⟩:=KC (fm:=⟨yS [Si (.ref t),Si (ak ring),Si (ak head),none,none,none,none] (.str signs) 3,[]⟩) X1.fu (So h4 X1.n) (So hr h1000) (So hh40 h1000) rfl rfl rfl
 obtain⟨s3,c0,L,cur,c,o5,e3,G3,hg3,hle3,hrows,hL3⟩:=Jk (n:=200) (o5:=none) (o6:=none) (a0:=Si (.ref t)) (a1:=Si (ak ring)) (a2:=Si (ak head)) (a3:=Si (.str signs)) hr signs G2 hsg (λc m=>nomatch m) (TP hh) (λ_=>hh) (λ_=>hsn) (by lia) (show 0+signs.length<=4000 by lia)
 rw[XA,hR.e] at hrows
 obtain⟨s4,e4,G4⟩:=Kz G3 (by lia) hg3 (by rw[VM,Wd] at hL3;lia) (by rw[hrows];exact hR.j)
 rw[hrows] at e4
 obtain⟨s5,e5,f5,n5,l5⟩:=dK G4.x.fu (.list (fE .str (bP 10 (bQ [10] (R.map cm)))))
 have q5:s5.look s4.n=Si (.list (.str (cm r0)::rest.map λr=>V.str (cm r))):=by
  rw[l5,SX rfl,hR.s,hR.c,eq,Ud];rfl
 have X4:Ext st s4:=X1.trans G4.x
 obtain⟨s6,e6,f6,n6,l6⟩:=gZ f5 (i:=s4.n) (So h4 X4.n) (n5▸S1 _) (.list (.str (cm (Sv head 45++r0))::rest.map λr=>V.str (cm r)))
 have q6:s6.look s4.n=Si (.list (((Sv head 45++r0)::rest).map λr=>V.str (cm r))):=(l6 _).trans (SX rfl)
 refine bG (Q9 q6 hR.g (o0:=none) (o1:=none) (o2:=none) (o3:=none) ((Sv head 45++r0)::rest) (i:=0) (n:=200) rfl (Tn (TU hR.n) (bo rfl))) λfm' ho=>?_
 have hcols:(((Sv head 45++r0)::rest).flatMap (bM 0))=fz head (r0::rest):=rfl
 rw[hcols,hline] at ho
 obtain⟨s7,e7,f7,n7,l7⟩:=dK f6 (.list (((Up (many+1)).map λj=>(head+j*step) % ring).map ak))
 have X6:Ext st s6:=(X4.push f5 n5 l5).set f6 n6 X4.n l6
 refine⟨s7,s6.n,?_,X6.push f7 n7 l7,X6.n,(l7 _).trans (SX rfl)⟩
 delta Op HJ FF ES FM E5
 exact JT rfl (λ_=>rfl) (aJ e1 (aJ e2 (aJ (jv (pP (ah rfl) (mF hsg)) e3)
  (aJ (aT (lR (qf (ah rfl) G3.at1 (aU az) e4) (aU az) λk=>(DW hR.j _ k).trans (e5 _)) (aN rfl))
   (aJ (aT (bd (bd az (ah rfl) (rW (x:=[32,45]) (n:=head) (So hh40 (bo rfl)) (So (XD 2 hh40) (bo rfl)) _)) (eJ (ah rfl) az λ_=>cq (a:=0) (x:=.str (cm r0)) q5 rfl (Th _))
     (λk=>(mu (x:=cw [32,45] head) (y:=cm r0) (by rw[Az,fj];have:=hR.l;lia) _ k).trans (by rw[sC]))) (wS (ah rfl) az λk=>(Dw q5 k).trans (e6 k)))
    (bn (iw (ly (λ_=>rfl) (D5 (ah rfl) q6) ho (by rw[S6,S6,WL];exact So (TU hm) (bo rfl)) e7))))))))
theorem eB {a b:Nat}(h1:1<=b)(hb:b<=1000000)(s:St)(k:KV):ef (ak a) (ak b) s k=k (ak (a % b)) s:=by
 show aD (small (.ofNat b)) (aD (SN b 0) dV (k (.int (.ofNat (a % b))) s)) dV=_
 have:SN b 0=dV:=vC (Tz h1)
 rw[bS (by lia),this];rfl
theorem g6 (a b:Nat)(s:St)(k:KV):aQ (ak a) (ak b) s k=k (ak (a+b)) s:=rfl
theorem C6 (x:Int):∃m:Nat,Af x 1000000=.ofNat m:=by
 rw[qo]
 have h1:=Int.fmod_nonneg_of_pos x (show(0:Int)<1000000 by decide)
 exact⟨(x.fmod 1000000).toNat,by simp only[UB];lia⟩
theorem Re (s:St)(k:KV):ED (.int 10) (.int 6) s k=k (.int 1000000) s:=rfl
theorem z8 (x:Int)(s:St)(k:KV):ef (.int x) (.int 1000000) s k=k (.int (Af x 1000000)) s:=by
 delta ef
 kernel_rfl
theorem Ho (h:i<n)(k:Nat->Sm):idx (.ofNat i) n k=k i:=by
 show aD (SZ n i) dV (k i)=_
 rw[jk h];rfl
theorem sN {q:Nat} (h:st.look q=Si (.list l))(hi:i<l.length)(hb:i<=4095)(k:St->Sm):ng (.ref q) (ak i) v st k=st.set q (.list (l.set i v)) k:=by
 show aD (small (.ofNat i)) (bh st q (λl=>idx (.ofNat i) (aK l) λj=>nF l j v λl=>st.set q (.list l) k)) dV=_
 rw[bS (by lia),fy,bj h,aC,Ho hi,xt hi]
noncomputable section
abbrev OK:Nat->CF:=dP (yW (ay dV 2) (ay dV 3)) (aq (jh (aa dV 1) (aA ef (aa dV 2) (ao (.int 5))) (aA ef (aa dV 3) (aA ED (ao (.int 10)) (ao (.int 6))))) aH) aH
noncomputable abbrev Dt (q:Nat)(o2 o3 o4 o5 o6:OV)(c:Sj Nat):Fm:=⟨[Si (.ref 0),Si (.ref q),o2,o3,o4,o5,o6],c⟩
end
inductive LJ (sb st:St)(i n:Nat)(o2 o3:OV)(c:Sj Nat):Prop
 | mk (st':St) (hs:Sj Nat) (o2' o3':OV) (e:CW (OK n) (Dt sb.n o2 o3 none none none c) (.enS (.ofNat i) 0 i) st .nxt (Dt sb.n o2' o3' none none none c) st') (X:Ext sb st') (n:st'.n=sb.n+1) (l:st'.look sb.n=Si (.list (hs.map ak))) (h:hs.length=5)
theorem Mh {sb:St} {cl:Sj Nat}(hx:sb.look 0=Si (.list (xs.map V.int)))(h4:4<=sb.n)(hlen:xs.length<=63)(l:Sj Int):∀{i n:Nat}{st:St}{hs:Sj Nat}{o2 o3:OV},Ext sb st->st.n=sb.n+1->st.look sb.n=Si (.list (hs.map ak))->hs.length=5->xs.drop i=l->i<=xs.length->l.length<n->LJ sb st i n o2 o3 cl:=by
 induction l with
 | nil=>
  intro i n st hs o2 o3 X hn hq h5 hd hil hf
  obtain⟨n,rfl⟩:=S0 hf
  have hxs:st.look 0=Si (.list (xs.map V.int)):=(X.keep 0 (SH (by decide) h4)).trans hx
  exact⟨st,hs,o2,o3,mG (λ_ _=>kI hxs (by rw[S6];exact Xq.mp hd) _) qC,X,hn,hq,h5⟩
 | cons x l ih=>
  intro i n st hs o2 o3 X hn hq h5 hd hil hf
  obtain⟨n,rfl⟩:=S0 hf
  have hxs:st.look 0=Si (.list (xs.map V.int)):=(X.keep 0 (SH (by decide) h4)).trans hx
  have hxi:xs[i]? = Si x:=by rw[←Vo,hd];rfl
  have hi:i<xs.length:=(SJ.mp hxi).1
  have hd':xs.drop (i+1)=l:=by rw[←W3,hd];rfl
  obtain⟨m,hm⟩:=C6 x
  have h55:i % 5<hs.length:=by rw[h5];exact Xi _ (by decide)
  have hi5:i % 5<=4095:=So (TP (h5▸h55)) (by decide)
  obtain⟨s1,e1,f1,n1,l1⟩:=gZ X.fu (i:=sb.n) h4 (hn▸S1 _) (.list ((hs.map ak).set (i % 5) (ak (hs[i % 5]+m))))
  have q1:s1.look sb.n=Si (.list ((hs.set (i % 5) (hs[i % 5]+m)).map ak)):=by rw[l1,SX rfl,Sj.map_set]
  obtain⟨st',hs',o2',o3',e,a,b,c,d⟩:=ih (n:=n+(l.length+1)) (o2:=Si (.int (.ofNat i))) (o3:=Si (.int x)) (X.set f1 n1 (SW _) l1) (n1.trans hn) q1 ((Sj.length_set ..).trans h5) hd' hi (SH (S1 _) (TQ _ _))
  refine⟨st',hs',o2',o3',NU (λ_ _=>mO hxs (v:=.int x) (by rw[TM,hxi];rfl) _) (aN rfl) (aN rfl) (bn (zz (y:=.ofNat hs[i % 5]) (z:=.ofNat m) (ah rfl) (bd (ah rfl) az (eB (a:=i) (b:=5) (bo rfl) (bo rfl) _)) (λ_=>cq (a:=i % 5) (x:=ak hs[i % 5]) hq (by rw[TM,Sz h55];rfl) hi5)
   (bd (ah rfl) (bd az az (Re _)) λk=>(z8 x _ k).trans (by rw[hm])) λk=>(sN (i:=i % 5) (v:=ak (hs[i % 5]+m)) hq (by rw[S6];exact h55) hi5 _).trans (e1 _))) e,a,b,c,d⟩
noncomputable def lP (step ring:Nat):Nat->Nat->Sj Nat
 | _,0=>[]
 | a,m+1=>if a*step % ring=0 then a::lP step ring (a+1) m else lP step ring (a+1) m
noncomputable def iQ (step ring:Nat):Nat:=(lP step ring 1 ring).headD 0
structure tV (ring step many:Nat):Prop where
 r:8<=ring/\ring<=15
 s:1<=step/\step<=7
 ne:2*step≠ring
 m:2<=many/\many<iQ step ring
theorem Ax:(Up 16).all (λr=>(Up 8).all λs=>!(decide (8<=r/\1<=s/\2*s≠r)) || decide (3<=iQ s r/\iQ s r<=15))=Sk:=by decide +kernel
theorem pF (ring:Nat)(h1:ring<16)(step:Nat)(h2:step<8)(h3:8<=ring)(h4:1<=step)(h5:2*step≠ring):3<=iQ step ring/\iQ step ring<=15:=by
 have a:=Te.mp (Te.mp Ax ring (Uv.mpr h1)) step (Uv.mpr h2)
 rw[Sm.or_eq_true,VY,decide_eq_true_eq,decide_eq_false_iff_not] at a
 exact a.resolve_left λn=>n ⟨h3,h4,h5⟩
theorem yJ {step:Nat}(h:3<=iQ step ring):∃rest,lP step ring 1 ring=iQ step ring::rest:=by
 unfold iQ at h ⊢
 cases e:lP step ring 1 ring with
 | nil=>rw[e] at h;simp at h
 | cons a b=>exact⟨b,rfl⟩
theorem tO (step ring:Nat):∀(m a:Nat),(lP step ring a m).length<=m
 | 0,_=>by simp[lP]
 | m+1,a=>by
  have:=tO step ring m (a+1)
  unfold lP
  split
  ·simp only[Tg];lia
  ·lia
noncomputable section
abbrev Qg:Nat->CC:=bw (em (ay dV 1)) (bR ix (aA ef (aA bJ (aa dV 1) (aa Sk 1)) (aa Sk 0)) (ao (.int 0))) (gt (aa dV 1))
end
theorem Gc {a b:Nat}(h:a≠b)(s:St)(k:Sm->Sm):ix (ak a) (ak b) s k=k dV:=by rw[qz,vC h]
theorem An {a b:Nat}(h:a=b)(s:St)(k:Sm->Sm):ix (ak a) (ak b) s k=k Sk:=by rw[qz,h,Vz]
theorem NZ {c0 step:Nat}(h0:st.look c0=Si (.cell (Si (ak ring))))(h1:st.look c1=Si (.cell (Si (ak step))))(hr:1<=ring)(hr2:ring<=1000)(hs:step<=1000)(m:Nat) :
  ∀{a n:Nat} {o:OV},m<n->a+m<=1000->∃fm',yZ (Qg n) ⟨[none,o],[c0,c1]⟩ (.rng (.ofNat a) m 1) st ((lP step ring a m).map ak) fm' st:=by
 induction m with
 | zero=>
  intro a n o h _
  refine bG (S0 h) λn e81=>?_;subst e81
  exact⟨_,gV λ_ _=>rfl⟩
 | succ m ih=>
  intro a n o h ha
  refine bG (S0 h) λn e81=>?_;subst e81
  obtain⟨fm',e⟩:=ih (a:=a+1) (n:=n+(m+1)) (o:=Si (ak a)) (SH (S1 _) (TQ _ _)) (Ui a m▸ha)
  have ha':a<=1000:=So (Td _ _) ha
  refine⟨fm',?_⟩
  have tst:∀{c:Sm},(∀k,ix (ak (a*step % ring)) (ak 0) st k=k c)->qh (bR ix (aA ef (aA bJ (aa dV 1) (aa Sk 1)) (aa Sk 0)) (ao (.int 0))) ⟨[none,Si (ak a)],[c0,c1]⟩ st c st:=λh=>bO (bd (bd (ah rfl) (bZ rfl h1) λ_=>nk (So ha' (bo rfl)) (So hs (bo rfl))) (bZ rfl h0) (eB hr (So hr2 (bo rfl)) _)) az h
  unfold lP
  by_cases q:a*step % ring=0
  ·rw[SX q]
   exact rp (λ_ _=>rfl) (qt (aN rfl)) (tst (An q _)) (wb (ah rfl)) e
  ·rw[SK q]
   exact FS (λ_ _=>rfl) (qt (aN rfl)) (tst (Gc q _)) e
inductive lY (step many:Nat):Sj Nat->Prop
 | a:lY step many [step,0,9]
 | b:lY step many (Sv many step++[127,9])
 | c:lY step many (Sv many step)
 | d:lY step many [step,step,0]
theorem Iy (h:m<=4095)(k:It->St->Sm):eC 1 (.ofNat (m+1)) 1 s k=k (.rng (.ofNat 1) m 1) s:=by
 unfold eC
 have e:cT (iG (.ofNat (m+1)) 1)=m:=by rw[gH,ey];simp
 rw[bS (by lia),e,show aB m=Sk from bI h];rfl
theorem Dr (h:m<=4095)(k:It->St->Sm):eC 0 (.ofNat m) 1 s k=k (.rng (.ofNat 0) m 1) s:=by
 unfold eC
 have e:cT (iG (.ofNat m) 0)=m:=by rw[gH,ey];simp
 rw[bS (by lia),e,show aB m=Sk from bI h];rfl
inductive Jf (fm:Fm)(s6:St)(c1 ring:Nat):Prop
 | mk (s7:St) (step':Nat) (F:s7.Fu) (n:s7.n=s6.n) (k:∀j,j≠c1->s7.look j=s6.look j) (l:s7.look c1=Si (.cell (Si (ak step')))) (h1:1<=step') (h7:step'<=7) (h:2*step'≠ring) (e:gT wC fm s6 .nxt fm s7)
theorem Oi {s6:St}(F:s6.Fu){c0 step:Nat}(h4:4<=c1)(f0:IF fm.cel 0=Si c0)(f1:IF fm.cel 1=Si c1)(h0:s6.look c0=Si (.cell (Si (ak ring))))(h1:s6.look c1=Si (.cell (Si (ak step))))(hr:8<=ring)(hs:1<=step)(hs7:step<=7):Jf fm s6 c1 ring:=by
 have tst:∀{c:Sm},(∀k,ix (ak (2*step)) (ak ring) s6 k=k c)->qh (bR ix (aA bJ (ao (.int 2)) (aa Sk 1)) (aa Sk 0)) fm s6 c s6:=λh=>bO (bd az (bZ f1 h1) (IJ (So hs7 (bo rfl)) _)) (bZ f0 h0) h
 by_cases e:2*step=ring
 ·obtain⟨s7,e7,f7,n7,l7⟩:=pc F h4 (St.lt F h1) h1 (ak (step - 1))
  refine⟨s7,step - 1,f7,n7,λj h=>(l7 j).trans (SK h),(l7 _).trans (SX rfl),by lia,So (Xc _ _) hs7,by lia,?_⟩
  delta wC
  exact iJ (tst (An e _)) (bn (y2 f1 h1 az (λ_=>hZ (a:=step) (b:=1) hs) e7))
 ·refine⟨s6,step,F,rfl,λ_ _=>rfl,h1,hs,hs7,e,?_⟩
  delta wC
  exact je (tst (Gc e _))
theorem jy (a n:Nat):cw [ak a] n=(Sv n a).map ak:=by
 rw[gC]
 induction n with
 | zero=>rfl
 | succ n ih=>rw[TN,TJ,ih];rfl
inductive DB (fm:Fm)(st:St)(step many:Nat):Prop
 | mk (s':St) (q a b c d:Nat) (X:Ext st s') (e:gT CJ fm st .nxt ⟨yS fm.loc (.ref q) 6,fm.cel⟩ s') (l:s'.look q=Si (.list [.ref a,.ref b,.ref c,.ref d])) (la:s'.look a=Si (.list ([step,0,9].map ak)))
  (lb:s'.look b=Si (.list ((Sv many step++[127,9]).map ak))) (lc:s'.look c=Si (.list ((Sv many step).map ak))) (ld:s'.look d=Si (.list ([step,step,0].map ak)))
inductive Oh (s0 st:St)(o:O):Prop
 | mk (s':St) (e:∀k,st.push o k=k st.n s') (X:Ext s0 s') (n:st.n<s'.n) (l:s'.look st.n=Si o) (k:∀{j:Nat} {q:SV O},j<st.n->st.look j=q->s'.look j=q)
theorem Ext.pushX (X:Ext s0 st)(o:O):Oh s0 st o:=by
 obtain⟨s1,e1,f1,n1,l1⟩:=dK X.fu o
 exact⟨s1,e1,X.push f1 n1 l1,n1▸S1 _,(l1 _).trans (SX rfl),λh e=>(l1 _).trans ((SK (SP h)).trans e)⟩
theorem EI (F:st.Fu){step:Nat}(f1:IF fm.cel 1=Si c1)(f5:uJ fm.loc 5=Si (ak many))(f6:wd fm.loc 6=Sk)(h1:st.look c1=Si (.cell (Si (ak step))))(hm:many<=100):DB fm st step many:=by
 have hc:=St.lt F h1
 have hrl:(cw [ak step] many).length=many:=by rw[jy,S6,TS]
 have hm4:1*many<=4095:=by rw[Zw];exact So hm (by decide)
 have hm5:=So hm (show 100<=4000 by decide)
 obtain⟨s1,e1,X1,n1,l1,k1⟩:=(Ext.refl F).pushX (.list [ak step,.int 0,.int 9])
 obtain⟨s2,e2,X2,n2,l2,k2⟩:=X1.pushX (.list [ak step])
 obtain⟨s3,e3,X3,n3,l3,k3⟩:=X2.pushX (.list (cw [ak step] many))
 obtain⟨s4,e4,X4,n4,l4,k4⟩:=X3.pushX (.list [.int 127,.int 9])
 obtain⟨s5,e5,X5,n5,l5,k5⟩:=X4.pushX (.list (bp (cw [ak step] many) [.int 127,.int 9]))
 obtain⟨s6,e6,X6,n6,l6,k6⟩:=X5.pushX (.list [ak step])
 obtain⟨s7,e7,X7,n7,l7,k7⟩:=X6.pushX (.list (cw [ak step] many))
 obtain⟨s8,e8,X8,n8,l8,k8⟩:=X7.pushX (.list [ak step,ak step,.int 0])
 obtain⟨s9,e9,X9,n9,l9,k9⟩:=X8.pushX (.list [.ref st.n,.ref s4.n,.ref s6.n,.ref s7.n])
 have c:∀{s},Ext st s->s.look c1=Si (.cell (Si (ak step))):=λX=>(X.keep c1 hc).trans h1
 have m5:=SO n5 (SO n6 n7)
 have m1:=SO n1 (SO n2 (SO n3 (SO n4 m5)))
 have k89:∀{j q},j<s7.n->s7.look j=q->s9.look j=q:=λh e=>k9 (SO h n8) (k8 h e)
 refine⟨s9,s8.n,st.n,s4.n,s6.n,s7.n,X9,?_,l9,?_,?_,?_,k9 n8 l8⟩
 ·delta CJ
  exact aT (dX (be (dX (be (bZ f1 h1) (be az (aU az))) e1)
   (be (bd (bd (dX (aU (bZ f1 (c X1))) e2) (ah f5) λk=>(iA (l:=[ak step]) (m:=many) l2 (So hm (by decide)) hm4).trans (e3 _)) (dX (be az (aU az)) e4)
     λk=>(nV (l:=cw [ak step] many) (q:=[.int 127,.int 9]) (k4 n3 l3) l4 (by rw[hrl];exact V7 hm5 (show 2<=95 by decide))).trans (e5 _))
    (be (bd (dX (aU (bZ f1 (c X5))) e6) (ah f5) λk=>(iA (l:=[ak step]) (m:=many) l6 (So hm (by decide)) hm4).trans (e7 _))
     (aU (dX (be (bZ f1 (c X7)) (be (bZ f1 (c X7)) (aU az))) e8))))) e9) (aN f6)
 ·exact k89 m1 (k7 (SO n1 (SO n2 (SO n3 (SO n4 (SO n5 n6))))) (k6 (SO n1 (SO n2 (SO n3 (SO n4 n5)))) (k5 (SO n1 (SO n2 (SO n3 n4))) (k4 (SO n1 (SO n2 n3)) (k3 (SO n1 n2) (k2 n1 l1))))))
 ·refine k89 m5 (k7 (SO n5 n6) (k6 n5 (l5.trans ?_)))
  rw[bf,jy,Vp];rfl
 ·exact k89 n7 (l7.trans (by rw[jy]))
theorem mf:∀{cs:Sj Nat}{b:Nat},b<cs.length->ik cs b=cs.set b (cs.getD b 0+1)
 | [],b,h=>by simp at h
 | c::r,0,_=>rfl
 | c::r,b+1,h=>by
  show c::ik r b=_
  rw[mf (by simpa using h)];simp
theorem jl:∀{cs:Sj Nat}{b:Nat},cs.length<=b->ik cs b=(cs++Sv (b - cs.length+1) 0).set b 1
 | [],0,_=>rfl
 | [],b+1,_=>by
  show 0::ik [] b=_
  rw[jl (cs:=[]) (by simp)];simp[TN]
 | c::r,0,h=>by simp at h
 | c::r,b+1,h=>by
  show c::ik r b=_
  rw[jl (by simpa using h)];simp
theorem yC {cs:Sj Nat}{b:Nat}:(ik cs b).length<=max cs.length (b+1):=by
 by_cases h:b<cs.length
 ·rw[mf h];simp;lia
 ·rw[jl (by lia)];simp;lia
structure LR (p:Nat)(o o':O)(s u:St):Prop where
 n:u.n=s.n
 sh:Sh s.t u.t
 lt:p<s.n
 four:4<=p
 at_:∀i,i≠p->u.look i=s.look i\/(u.look i=Si .hid/\(s.look i).isSome=Sk/\4<=i)
 ps:s.look p=Si o
 pu:u.look p=Si o'
inductive IT (p:Nat)(o o' x:O)(s u:St)(k:Nat->St->Sm):Prop
 | mk (s' u':St) (e:∀K,s.push x K=K s.n s') (h:k u.n u'=Sk) (R:LR p o o' s' u') (n:s'.n=s.n+1) (l:∀j,s'.look j=if j=s.n then Si x else s.look j) (eu:∀K,u.push .hid K=K u.n u') (lu:u'.look s.n=Si .hid)
inductive L4 (p:Nat)(o o':O)(q:Nat)(x:O)(s u:St):Prop
 | mk (s':St) (e:∀K,s.set q x K=K s') (R:LR p o o' s' u) (n:s'.n=s.n) (l:∀j,s'.look j=if j=q then Si x else s.look j)
theorem LR.push {p:Nat}{x:O}{u:St}(R:LR p o o' s u){k:Nat->St->Sm}(h:u.push .hid k=Sk):IT p o o' x s u k:=by
 obtain⟨u',s',h1,h2,h3,h4,h5,h6,h7⟩:=St.push_sh (o':=x) R.n R.sh.symm h
 have hp:p≠s.n:=SP R.lt
 refine⟨s',u',h2,(h1 k).symm.trans h,⟨by rw[h3,h4,R.n],h7.symm,by rw[h4];exact To R.lt,R.four,λi hi=>?_,by rw[h6,SK hp];exact R.ps,by rw[h5,R.n,SK hp];exact R.pu⟩,h4,h6,h1,by rw[h5,R.n,SX rfl]⟩
 rw[h5,h6,R.n]
 by_cases e:i=s.n
 ·rw[SX e,SX e]
  exact .inr ⟨rfl,rfl,by have:=R.four;have:=R.lt;lia⟩
 ·rw[SK e,SK e];exact R.at_ i hi
theorem LR.set {p:Nat}{x y:O}{u:St}(R:LR p o o' s u){q:Nat}(hq:q≠p)(h4:4<=q)(e:s.look q=Si y)(hu:u.look q=Si .hid):L4 p o o' q x s u:=by
 refine fC (St.set_sh (o:=x) h4 (by rw[e];rfl)) λs' h1 h2 h3 h5=>?_
 refine⟨s',h1,⟨by rw[h2];exact R.n,h5.symm.trans R.sh,by rw[h2];exact R.lt,R.four,λi hi=>?_,by rw[h3,SK (Ne.symm hq)];exact R.ps,R.pu⟩,h2,h3⟩
 rw[h3]
 by_cases z:i=q
 ·subst z
  rw[SX rfl]
  exact .inr ⟨hu,rfl,h4⟩
 ·rw[SK z];exact R.at_ i hi
noncomputable section
noncomputable abbrev G0 (p:Nat)(w:Sj Nat)(q b n nt:Nat)(o8:OV):Fm:=⟨[Si (.ref p),Si (.str w),Si (.str [32]),Si (.str [9]),Si (.ref q),Si (ak b),Si (ak n),Si (ak nt),o8],[]⟩
abbrev Fq:CS:=aq (aV (aA aQ (dw (aa dV 4) (aa dV 5)) (ao (.int 1))) (zf (aa dV 4) (aa dV 5))) (aq (aV (ao (.int 0)) (ay dV 5)) aH)
abbrev RM:Nat->CF:=dP (em (ay dV 8)) (aq (hW (bR ix (aa dV 8) (aa dV 2)) (aq (aV (aA aQ (aa dV 6) (ao (.int 1))) (ay dV 6)) (aq (aV (aA aQ (aa dV 5) (ao (.int 1))) (ay dV 5)) aH)) (aq (hW (bR ix (aa dV 8) (aa dV 3)) (aq (aV (aA aQ (aa dV 6) (ao (.int 1))) (ay dV 6)) (aq (aV (aA aQ (aa dV 7) (ao (.int 1))) (ay dV 7)) (aq (hW (bR uG (aa dV 5) (gB dU (ae (aa dV 4) av))) (aq (aV (aA aQ (aa dV 4) (aA bJ (d0 (ae (ao (.int 0)) av)) (aA aQ (aA cf (aa dV 5) (gB dU (ae (aa dV 4) av))) (ao (.int 1))))) (ay dV 4)) aH) aH) Fq))) (aq u9 aH)) aH)) aH) aH
end
structure Ct (p:Nat)(s u:St)(q:Nat)(cs:Sj Nat):Prop where
 l:s.look q=Si (.list (cs.map ak))
 ne:q≠p
 four:4<=q
 lt:q<s.n
 hid:u.look q=Si .hid
inductive Qf (p:Nat)(o o':O)(s u:St)(fm:Fm)(q:Nat)(cs':Sj Nat):Prop
 | mk (s2:St) (e:gT Fq fm s .nxt ⟨yS fm.loc (ak 0) 5,fm.cel⟩ s2) (R:LR p o o' s2 u) (C:Ct p s2 u q cs')
theorem Im {p:Nat} {u:St} {q b:Nat}{cs:Sj Nat}(R:LR p o o' s u)(C:Ct p s u q cs)(f4:uJ fm.loc 4=Si (.ref q))(f5:uJ fm.loc 5=Si (ak b))(i5:wd fm.loc 5=Sk)(hb:b<cs.length)(hb2:b<=4095):Qf p o o' s u fm q (cs.set b (cs.getD b 0+1)):=by
 have hx:(cs.map ak)[b]? = Si (ak (cs.getD b 0)):=by rw[TM,TR,Sz hb];rfl
 obtain⟨s2,hs,R2,n2,l2⟩:=R.set (x:=.list ((cs.map ak).set b (ak (cs.getD b 0+1)))) C.ne C.four C.l C.hid
 refine⟨s2,aJ (aT (bd (eJ (ah f4) (ah f5) λ_=>cq C.l hx hb2) az λ_=>gm) (wS (ah f4) (ah f5) λk=>(sN C.l (by rw[d8];exact hb) hb2 k).trans (hs k))) (bn (aT az (aN i5))),R2,?_,C.ne,C.four,n2▸C.lt,C.hid⟩
 rw[l2,SX rfl,Sj.map_set]
theorem jE (c d:Nat)(s:St)(k:Sm->Sm):ix (.str [c]) (.str [d]) s k=k (SN c d):=by
 show k (CV [c] [d])=_
 rw[ww]
theorem Ix {a b:Nat}(s:St)(k:Sm->Sm):uG (ak a) (ak b) s k=k (SZ b a):=rfl
theorem KI (m:Nat):cw [V.int 0] m=(Sv m 0).map ak:=jy 0 m
inductive RU (p:Nat)(w:Sj Nat)(o o':O)(k:Sj Nat->Nat->Nat->Nat->St->Sm)(l:Sj Nat)(f q b n nt:Nat)(o8:OV)(s:St):Prop
 | mk (cs':Sj Nat) (q' b' n' nt':Nat) (o8':OV) (s' u':St) (e:CW (RM f) (G0 p w q b n nt o8) (.str l) s .nxt (G0 p w q' b' n' nt' o8') s') (R:LR p o o' s' u') (l:s'.look q'=Si (.list (cs'.map ak))) (len:cs'.length<=160) (h:k cs' b' n' nt' u'=Sk)
inductive MQ (p:Nat)(o o':O)(s u:St)(fm:Fm)(b:Nat)(cs:Sj Nat)(K:St->Sm):Prop
 | mk (cs':Sj Nat) (q':Nat) (s' u':St) (e:gT (hW (bR uG (aa dV 5) (gB dU (ae (aa dV 4) av))) (aq (aV (aA aQ (aa dV 4) (aA bJ (d0 (ae (ao (.int 0)) av)) (aA aQ (aA cf (aa dV 5) (gB dU (ae (aa dV 4) av))) (ao (.int 1))))) (ay dV 4)) aH) aH) fm s .nxt ⟨yS fm.loc (.ref q') 4,fm.cel⟩ s')
  (R:LR p o o' s' u') (C:Ct p s' u' q' cs') (hb:b<cs'.length) (hl:cs'.set b (cs'.getD b 0+1)=ik cs b) (h:K u'=Sk)
theorem BJ {l:Sj OV} (h:uJ l i=Si v):yS l v i=l:=by
 induction l generalizing i with
 | nil=>rfl
 | cons o l ih=>
  induction i with
  | zero=>exact SU (·::l) h.symm
  | succ i=>exact SU (o::·) (ih h)
theorem DH {p:Nat} {u:St} {q b:Nat}{cs:Sj Nat}{K:St->Sm}(R:LR p o o' s u)(C:Ct p s u q cs)(f4:uJ fm.loc 4=Si (.ref q))(f5:uJ fm.loc 5=Si (ak b))(i4:wd fm.loc 4=Sk)(hcs:cs.length<=160)(hb:b<=160)(h:aD (SZ (aK cs) b) (u.push .hid λ_ st=>st.push .hid λ_ st=>st.push .hid λ_ st=>K st) (K u)=Sk):MQ p o o' s u fm b cs K:=by
 have hc4:(cs.map ak).length<=4095:=by rw[d8];exact So hcs (bo rfl)
 rw[aC] at h
 have tst:qh (bR uG (aa dV 5) (gB dU (ae (aa dV 4) av))) fm s (SZ cs.length b) s:=bO (ah f5) (gO (aU (ah f4)) λ_=>qi C.l hc4) λk=>(Ix s k).trans (by rw[d8])
 rcases dF h with ⟨e,h⟩ | ⟨e,h⟩
 ·have hle:=Sp e
  rw[e] at tst
  obtain⟨s1,u1,p1,h1,R1,n1,l1,_⟩:=R.push (x:=.list [.int 0]) h
  have hq1:s1.look q=Si (.list (cs.map ak)):=by rw[l1,SK (SP C.lt)];exact C.l
  obtain⟨s2,u2,p2,h2,R2,n2,l2,_⟩:=R1.push (x:=.list (cw [.int 0] (b - cs.length+1))) h1
  have hlt1:q<s1.n:=n1▸To C.lt
  have hq2:s2.look q=Si (.list (cs.map ak)):=by rw[l2,SK (SP hlt1)];exact hq1
  have hz2:s2.look s1.n=Si (.list (cw [.int 0] (b - cs.length+1))):=by rw[l2,SX rfl]
  obtain⟨s3,u3,p3,h3,R3,n3,l3,_,hu3⟩:=R2.push (x:=.list (bp (cs.map ak) (cw [.int 0] (b - cs.length+1)))) h2
  have hlen:(cs++Sv (b - cs.length+1) 0).length=b+1:=by rw[SY,TS,←Ym,Nat.add_sub_cancel' hle]
  have hm:b - cs.length+1<=161:=TU (So (Xc _ _) hb)
  have hsum:(cs.map ak).length+(cw [V.int 0] (b - cs.length+1)).length<=4095:=by
   rw[d8,KI,d8,TS]
   exact So (V7 hcs hm) (bo rfl)
  refine⟨cs++Sv (b - cs.length+1) 0,s2.n,s3,u3,?_,R3,⟨?_,Tz R2.lt,TP (Tn R2.four R2.lt),n3▸S1 _,hu3⟩,hlen▸S1 _,?_,h3⟩
  ·exact iJ tst (bn (aT (bd (ah f4) (bd (dX (aU az) p1) (bd (bd (ah f5) (gO (aU (ah f4)) λ_=>qi hq1 hc4) λk=>by rw[d8];exact hZ hle) az λ_=>gm)
    λk=>(iA (l:=[.int 0]) (by rw[l1,SX rfl]) (So hm (bo rfl)) ((Zw _).symm▸So hm (bo rfl))).trans (p2 _)) λk=>(nV hq2 hz2 hsum).trans (p3 _)) (aN i4)))
  ·rw[l3,SX rfl,bf,KI,←Vp]
  ·have hz:(cs++Sv (b - cs.length+1) 0).getD b 0=0:=by
    rw[TR,T5 hle,WD,SX (S1 _)];rfl
   rw[jl hle,hz]
 ·have hlt:b<cs.length:=V9 λz=>by rw[bI z] at e;cases e
  rw[e] at tst
  exact⟨cs,q,s,u,(BJ f4).symm▸je tst,R,C,hlt,(mf hlt).symm,h⟩
theorem Db {p:Nat} {w:Sj Nat}{k:Sj Nat->Nat->Nat->Nat->St->Sm}(l:Sj Nat):∀{f:Nat}{cs:Sj Nat}{b n nt q:Nat}{o8:OV}{s u:St},l.length<f->n+l.length<=150->b<=n->cs.length<=n->LR p o o' s u->Ct p s u q cs->OC l cs b n nt u k=Sk->RU p w o o' k l f q b n nt o8 s:=by
 induction l with
 | nil=>
  intro f cs b n nt q o8 s u hf hn hb hc R C h
  obtain⟨f,rfl⟩:=S0 hf
  exact⟨cs,q,b,n,nt,o8,s,u,mG (λ_ _=>rfl) qC,R,C.l,So hc (So hn (bo rfl)),h⟩
 | cons c l ih=>
  intro f cs b n nt q o8 s u hf hn hb hc R C h
  obtain⟨f,rfl⟩:=S0 hf
  have hn':n+1+l.length<=150:=Ui n l.length▸hn
  have hf':l.length<f+(l.length+1):=SH (S1 _) (TQ _ _)
  have hn150:n<=150:=So (Td _ _) hn
  rcases dF (show aD (SN c 32) (OC l cs (TA b) (TA n) nt u k) _=Sk from h) with ⟨e,h⟩ | ⟨e,h⟩
  ·obtain⟨cs',q',b',n',nt',o8',s',u',e',R',l',len',h'⟩:=ih (f:=f+(l.length+1)) (o8:=Si (.str [c])) hf' hn' (TU hb) (Vt hc) R C h
   exact⟨cs',q',b',n',nt',o8',s',u',xe (λ_ _=>rfl) (aN rfl) (bn (iJ (bO (ah rfl) (ah rfl) λk=>(jE c 32 _ k).trans (SU k e)) (aJ (aT (bd (ah rfl) az λ_=>gm) (aN rfl)) (bn (aT (bd (ah rfl) az λ_=>gm) (aN rfl)))))) e',R',l',len',h'⟩
  rcases dF h with ⟨e9,h⟩ | ⟨e9,h⟩
  ·obtain⟨cs1,q1,s1,u1,e1,R1,C1,hb1,hl1,h1⟩:=DH (fm:=⟨[Si (.ref p),Si (.str w),Si (.str [32]),Si (.str [9]),Si (.ref q),Si (ak b),Si (ak (n+1)),Si (ak (nt+1)),Si (.str [c])],[]⟩) (K:=λst=>OC l (ik cs b) 0 (TA n) (TA nt) st k) R C rfl rfl rfl (So hc (So hn150 (bo rfl))) (So hb (So hn150 (bo rfl))) h
   obtain⟨s2,e2,R2,C2⟩:=Im (fm:=G0 p w q1 b (n+1) (nt+1) (Si (.str [c]))) R1 C1 rfl rfl rfl hb1 (So hb (So hn150 (bo rfl)))
   rw[hl1] at C2
   have hbump:(ik cs b).length<=n+1:=So yC (Nat.max_le.mpr ⟨Vt hc,TU hb⟩)
   obtain⟨cs',q',b',n',nt',o8',s',u',e',R',l',len',h'⟩:=ih (f:=f+(l.length+1)) (o8:=Si (.str [c])) hf' hn' (Th _) hbump R2 C2 h1
   exact⟨cs',q',b',n',nt',o8',s',u',xe (λ_ _=>rfl) (aN rfl) (bn (wz (bO (ah rfl) (ah rfl) λk=>(jE c 32 _ k).trans (SU k e)) (bn (iJ (bO (ah rfl) (ah rfl) λk=>(jE c 9 _ k).trans (SU k e9))
    (aJ (aT (bd (ah rfl) az λ_=>gm) (aN rfl)) (aJ (aT (bd (ah rfl) az λ_=>gm) (aN rfl)) (aJ e1 e2))))))) e',R',l',len',h'⟩
  ·exact⟨cs,q,b,n,nt,Si (.str [c]),s,u,qB (λ_ _=>rfl) (aN rfl) (mY (wz (bO (ah rfl) (ah rfl) λk=>(jE c 32 _ k).trans (SU k e)) (mY (wz (bO (ah rfl) (ah rfl) λk=>(jE c 9 _ k).trans (SU k e9)) pz)))),R,C.l,So hc (So hn150 (bo rfl)),h⟩
inductive Kb (s:St)(p:Nat)(o:O)(f:(St->Sm)->Sm):Prop
 | mk (s':St) (e:∀K,f K=K s') (n:s'.n=s.n) (l:∀j,s'.look j=if j=p then Si o else s.look j) (h:Sh s.t s'.t)
theorem mh {p:Nat}(h4:4<=p) (e:s.look p=Si (.inst c d fs))(x:Nat)(v:V)(hf:SZ (aK fs) 100=Sk):Kb s p (.inst c d (dz fs x v)) (setAttr (.ref p) x v s):=by
 refine fC (St.set_sh (o:=.inst c d (dz fs x v)) h4 (by rw[e];rfl)) λs' q1 q2 q3 q4=>?_
 exact⟨s',λK=>(St.get_of e _).trans ((il hf).trans (q1 _)),q2,q3,q4⟩
theorem zm {P:Prop} {k:Nat->Nat->Sj (Nat×V)->Sm}(h:BQ o k=Sk)(H:∀c d fs,o=.inst c d fs->k c d fs=Sk->P):P:=by
 induction o with
 | inst c d fs=>exact H c d fs rfl h
 | _=>exact ff h
theorem PE {vs:Sj V} {k J:KV}(hJ:∀{v s},(∃u,HI s u/\k v u=Sk)->J v s=Sk)(h:I0 vs st k=Sk):F0 vs st J=Sk:=by
 refine nY h λself ws e81 h=>?_;subst e81
 refine dh h λw e81 h=>?_;subst e81
 refine aM h λha h=>?_
 refine aM h λhl h=>?_
 refine bN h λp e81 h=>?_;subst e81
 refine aM h λh4 h=>?_
 refine aM h λhlt h=>?_
 refine St.get_e h λo ho h=>?_
 refine zm h λc d fs e81 h1=>?_;clear h;subst e81
 refine tB (show fX fs _=Sk from h1) λe81 h'=>?_;clear h1;subst e81
 have hl:=Sp hl
 have h4:=Sp h4
 have hlt:p<st.n:=Sp hlt
 rw[aC] at hl
 obtain⟨s0,e0,n0,l0,sh0⟩:=mh h4 ho 0 (.str w) rfl
 have R0:LR p (.inst c d [(0,.str w)]) (.inst c d []) s0 st:=⟨n0.symm,sh0.symm,n0▸hlt,h4,λi hi=>.inl ((l0 i).trans (SK hi)).symm,(l0 p).trans (SX rfl),ho⟩
 obtain⟨s1,u1,p1,h1,R1,n1,l1,_,hu1⟩:=R0.push (x:=.list []) (show st.push .hid _=Sk from h')
 have hp0:=R0.lt
 obtain⟨cs,q,b,n,nt,o8,s,u,e,R,hq,hlen,h⟩:=Db (w:=w) (k:=λcs b n nt st=>st.set p (Om c d w cs b n nt) λst=>k .none st) w (f:=200) (nt:=0) (o8:=none) (Tn hl (bo rfl)) ((Wd _).symm▸hl) (SW 0) (Th _) R1 (cs:=[]) ⟨(l1 _).trans (SX rfl),Tz hp0,TP (Tn h4 hp0),n1▸S1 _,hu1⟩ h1
 refine fC (St.set_sh (s:=u) (o:=Om c d w cs b n nt) h4 (by rw[R.pu];rfl)) λu' a1 a2 a3 a4=>?_
 have hqp:q≠p:=λz=>by
  have e:=Si.inj (R.ps.symm.trans (show s.look p=_ from z▸hq))
  exact nomatch e
 obtain⟨t1,b1,c1,d1,_⟩:=mh h4 R.ps 1 (ak n) rfl
 obtain⟨t2,b2,c2,d2,_⟩:=mh h4 (SetFu.self d1) 2 (ak nt) rfl
 have q2:t2.look q=Si (.list (cs.map ak)):=SetFu.old d2 hqp (SetFu.old d1 hqp hq)
 obtain⟨t3,b3,c3,d3,_⟩:=mh h4 (SetFu.self d2) 3 (.tup [.tup (cs.map ak),ak b]) rfl
 have q3:=SetFu.old d3 hqp q2
 obtain⟨t4,b4,c4,d4,_⟩:=mh h4 (SetFu.self d3) 4 (.bool (SZ (cs.map ak).length 1)) rfl
 have hlm:(cs.map ak).length<=4095:=by rw[d8];exact So hlen (bo rfl)
 have main:qK F0 [.ref p,.str w] st .none t4:=by
  delta F0 c0 NO Ld M9 Lz Jq Jj M2 KT MI
  exact pp rfl (λ_=>rfl) (aJ (aT (ah rfl) (cR (ah rfl) e0)) (aJ (CM (be az (aU az)) (eh (aN rfl) (eh (aN rfl) rI))) (aJ (aT (dX dA p1) (aN rfl))
   (aJ (aT az (uq (aN rfl) (uq (aN rfl) (aN rfl)))) (aJ (jv (pP (cC (ah rfl) R1.ps λ_=>rfl) ha) e)
   (aJ (aT (ah rfl) (cR (ah rfl) b1)) (aJ (aT (ah rfl) (cR (ah rfl) b2)) (aJ (aT (pJ (be (gO (aU (ah rfl)) λ_=>(bj q2 _).trans (qJ hlm)) (aU (ah rfl)))) (cR (ah rfl) b3))
    (bn (aT (Cg (gO (aU (ah rfl)) λ_=>qi q3 hlm) az λ_=>rfl) (cR (ah rfl) b4)))))))))))
 refine(main J).trans (hJ ⟨u',⟨by rw[a2,R.n,c4,c3,c2,c1],λi=>?_⟩,(a1 _).symm.trans h⟩)
 by_cases z:i=p
 ·rw[z,a3,SX rfl,d4,SX rfl,Om,eq,aC,d8]
  exact .inl rfl
 ·rw[a3,SK z,d4,SK z,d3,SK z,d2,SK z,d1,SK z]
  exact R.at_ i z
open Classical in
theorem OO (vs:Sj V)(st:St)(k:KV)(h:I0 vs st k=Sk):F0 vs st (λv s=>decide (∃u,HI s u/\k v u=Sk))=Sk:=PE (λh=>Tu h) h
theorem fK {x:Stmt}{c c':CS}(h:c=c')(q:SS C fx d x c):SS C fx d x c':=h▸q
theorem hU {x:Expr}{c c':CE}(h:c=c')(q:SE C fx d x c):SE C fx d x c':=h▸q
theorem fo {c c':FN}(h:c=c')(q:eY C d f c):eY C d f c':=h▸q
namespace Base
section
variable {C:Cfg}{P:Params}
theorem o19 (W:Base C P):bY C 255 (aZ (KH P) 255) (aI (KH P) 255) [(dV,0)] ["s"]:=W.fno (.cons rfl (λh=>nomatch h) .nil) (λus hu s _=>fw (λ_=>by kernel_rfl) us hu)
theorem b19 (W:Base C P):SL C (aR (aZ (KH P) 255).scope) 42 (aI (KH P) 255) Rj:=by
 conv=>arg 2;arg 1;whnf
 conv=>arg 4;whnf
 refine dl (λhok0=>?_) (by kernel_rfl)
 refine ad (by exact(bF uv)) ?_
 exact an
theorem f19 (W:Base C P):eY C 43 (.ref 255) Qv:=fo HK (br W.ok W.o19 (bH W.b19))
end
end Base
namespace BaseT
section
variable {C:Cfg}{P:Params}
theorem o14 (W:BaseT C P):bY C 211 (aZ (KH P) 211) (aI (KH P) 211) [(dV,0)] ["self"]:=W.fno (.cons rfl (λh=>nomatch h) .nil) (λus hu s _=>fw (λ_=>by kernel_rfl) us hu)
theorem b14 (W:BaseT C P):vf C (aR (aZ (KH P) 211).scope) (λenv=>env.code=.ref 210) 4 (aI (KH P) 211) (aI (KH P) 211) CR:=by
 conv=>arg 2;arg 1;whnf
 conv=>arg 6;whnf
 refine jS (λhok0=>?_) (by kernel_rfl)
 refine cY (by exact(lq (EF W.ok W.J W.JS W.blt W.t14 rfl hok0 (qS (by kernel_rfl)) (by kernel_rfl) (by kernel_rfl) (by kernel_rfl) W.g_len W.g_sum (bx (by kernel_rfl)) rfl (by kernel_rfl) (λ_=>rfl)))) ?_
 exact bH an
theorem f14 (W:BaseT C P):eY C 5 (.ref 211) RO:=br W.ok W.o14 (iu W.b14 λenv x=>x.code.trans (by kernel_rfl))
theorem l14 (W:BaseT C P):eY C 5 (.ref 211) fk:=λA σ st s k l us R I r h=>by
 refine aE (sT h) λv e81 _=>?_;subst e81
 exact W.f14 A σ st s k [v] us R I r h
theorem fi14 (W:BaseT C P):Uq C.K (.ref 244) "__len__"=Si (Si (.ref 211)):=by rw[W.K];kernel_rfl
theorem ti14 (W:BaseT C P):YS C.K (.ref 211)=Si (.type "function"):=by rw[W.K];kernel_rfl
theorem sfLen (W:BaseT C P):SF C 6 (.builtin "len") dU:=IX (Am W.ok W.fi14 W.ti14 W.l14)
theorem tsub (W:BaseT C P) (hd:6<=d:=by decide):TSub C d:=(Mine.Internal.tsub W.ok (by rw[W.K];kernel_rfl) W.fi14 W.ti14 W.l14).up hd
theorem o15 (W:BaseT C P):bY C 218 (aZ (KH P) 218) (aI (KH P) 218) [(dV,0)] ["self"]:=W.fno (.cons rfl (λh=>nomatch h) .nil) (λus hu s _=>fw (λ_=>by kernel_rfl) us hu)
theorem b15 (W:BaseT C P):vf C (aR (aZ (KH P) 218).scope) (λenv=>env.code=.ref 217) 6 (aI (KH P) 218) (aI (KH P) 218) MO:=by
 conv=>arg 2;arg 1;whnf
 conv=>arg 6;whnf
 refine jS (λhok0=>?_) (by kernel_rfl)
 refine cY (by exact(lq (Au W.ok W.J W.JS W.blt W.t15 rfl hok0 (qS (by kernel_rfl)) (by kernel_rfl) (by kernel_rfl) (by kernel_rfl) (by kernel_rfl) W.g_EMPTY (bx (by kernel_rfl)) rfl ⟨_,λ_=>rfl⟩ ⟨_,λ_=>rfl⟩))) ?_
 exact bH an
theorem f15 (W:BaseT C P):eY C 7 (.ref 218) RN:=br W.ok W.o15 (iu W.b15 λenv x=>x.code.trans (by kernel_rfl))
theorem l15 (W:BaseT C P):eY C 7 (.ref 218) or:=λA σ st s k l us R I r h=>by
 refine aE (sT h) λv e81 _=>?_;subst e81
 exact W.f15 A σ st s k [v] us R I r h
theorem sfStr (W:BaseT C P):SF C 9 (.type "str") uI:=IV W.ok (by rw[W.K];kernel_rfl) (by rw[W.K];kernel_rfl) W.l15
theorem o18 (W:BaseT C P):bY C 241 (aZ (KH P) 241) (aI (KH P) 241) [(dV,0)] ["self"]:=W.fno (.cons rfl (λh=>nomatch h) .nil) (λus hu s _=>fw (λ_=>by kernel_rfl) us hu)
theorem b18 (W:BaseT C P):vf C (aR (aZ (KH P) 241).scope) (λenv=>io (aR (aZ (KH P) 241).scope) env 241 (aZ (KH P) 241)) 8 (aI (KH P) 241) (aI (KH P) 241) Ru:=by
 conv=>arg 2;arg 1;whnf
 conv=>arg 6;whnf
 refine jS (λhok0=>?_) (by kernel_rfl)
 refine cY (by exact(lq (Dj W.ok W.sup W.s18 hok0 ⟨_,λ_=>rfl⟩))) ?_
 exact bH an
theorem f18 (W:BaseT C P):eY C 9 (.ref 241) Ol:=br W.ok W.o18 (iu W.b18 (λenv x=>kn x (by kernel_rfl) (by kernel_rfl) (bx (by kernel_rfl)) (bx (by kernel_rfl)) (by kernel_rfl)))
theorem o13 (W:BaseT C P):bY C 204 (aZ (KH P) 204) (aI (KH P) 204) [(dV,0)] ["self"]:=W.fno (.cons rfl (λh=>nomatch h) .nil) (λus hu s _=>fw (λ_=>by kernel_rfl) us hu)
theorem b13 (W:BaseT C P):vf C (aR (aZ (KH P) 204).scope) (λenv=>io (aR (aZ (KH P) 204).scope) env 204 (aZ (KH P) 204)) 10 (aI (KH P) 204) (aI (KH P) 204) O6:=by
 conv=>arg 2;arg 1;whnf
 conv=>arg 6;whnf
 refine jS (λhok0=>?_) (by kernel_rfl)
 refine cY (jY (by exact(cS (zN dZ rfl (wo W.ok W.J ⟨_,λ_=>rfl⟩ W.m18 (lS W.f18) (Sp rfl) jb (cD rfl hok0) ag) am) (ad (bF (vA (Sp rfl) (cP (jc (by kernel_rfl)) (cP (jc (by kernel_rfl)) ag (λ_=>rfl)) (λ_=>rfl)))) an) an))) ?_
 refine cY (by exact(lq (DO W.ok W.sup W.s13 hok0 ⟨_,λ_=>rfl⟩))) ?_
 exact bH an
theorem f13 (W:BaseT C P):eY C 11 (.ref 204) Jz:=br W.ok W.o13 (iu W.b13 (λenv x=>kn x (by kernel_rfl) (by kernel_rfl) (bx (by kernel_rfl)) (bx (by kernel_rfl)) (by kernel_rfl)))
theorem o10 (W:BaseT C P):bY C 181 (aZ (KH P) 181) (aI (KH P) 181) [(dV,0),(dV,1)] ["self","initial_size"]:=W.fno (.cons rfl (λh=>nomatch h) (.cons rfl (λh=>nomatch h) .nil)) (pQ (T:=173) (v:=.int 0 428) (by kernel_rfl) (by kernel_rfl) (λ_ _=>⟨_,rfl,by kernel_rfl⟩))
theorem b10 (W:BaseT C P):vf C (aR (aZ (KH P) 181).scope) (λenv=>io (aR (aZ (KH P) 181).scope) env 181 (aZ (KH P) 181)) 12 (aI (KH P) 181) (aI (KH P) 181) Km:=by
 conv=>arg 2;arg 1;whnf
 conv=>arg 6;whnf
 refine jS (λhok0=>?_) (by kernel_rfl)
 refine cY (jY (by exact(qj (λ_ _=>rfl) (λ_ _=>rfl) (λ_=>rfl) (cD rfl hok0) (vU W.ok W.J rfl (Sp rfl) (cD rfl hok0))))) ?_
 refine cY (by exact(Bf (λ_=>rfl) (Ba W.ok W.sup W.s10 hok0 ⟨_,λ_=>rfl⟩))) ?_
 exact bH an
theorem f10 (W:BaseT C P):eY C 13 (.ref 181) MP:=br W.ok W.o10 (iu W.b10 (λenv x=>kn x (by kernel_rfl) (by kernel_rfl) (bx (by kernel_rfl)) (bx (by kernel_rfl)) (by kernel_rfl)))
theorem f10_two:∀(vs:Sj V)(st:St)(k:KV),MP vs st k=Sk->vs.length=2:=λvs _ _ h=>(aC vs).symm.trans (SQ (eH h).1)
theorem o11 (W:BaseT C P):bY C 188 (aZ (KH P) 188) (aI (KH P) 188) [(dV,0),(dV,1),(dV,2)] ["self","fws","string"]:=W.fno (.cons rfl (λh=>nomatch h) (.cons rfl (λh=>nomatch h) (.cons rfl (λh=>nomatch h) .nil))) (λus hu s _=>qu (λ_ _ _=>by kernel_rfl) us hu)
theorem b11 (W:BaseT C P):SL C (aR (aZ (KH P) 188).scope) 14 (aI (KH P) 188) PO:=by
 conv=>arg 2;arg 1;whnf
 conv=>arg 4;whnf
 refine dl (λhok0=>?_) (by kernel_rfl)
 refine ad (by exact(ux (gX W.ok W.J (fq λ_=>rfl) UD Vh W.findAppend dN (iV (d:=0) W.ok W.J) (Sp rfl) (bc (λ_ _=>rfl) λ_=>rfl) uv (uc (up (uc uv (uc uv ag))) ag)))) ?_
 exact an
theorem f11 (W:BaseT C P):eY C 15 (.ref 188) I8:=br W.ok W.o11 (bH W.b11)
theorem o12 (W:BaseT C P):bY C 196 (aZ (KH P) 196) (aI (KH P) 196) [(dV,0),(dV,1)] ["self","i"]:=W.fno (.cons rfl (λh=>nomatch h) (.cons rfl (λh=>nomatch h) .nil)) (pQ (T:=189) (v:=.int 0 447) (by kernel_rfl) (by kernel_rfl) (λ_ _=>⟨_,rfl,by kernel_rfl⟩))
theorem b12 (W:BaseT C P):SL C (aR (aZ (KH P) 196).scope) 16 (aI (KH P) 196) Pn:=by
 conv=>arg 2;arg 1;whnf
 conv=>arg 4;whnf
 refine dl (λhok0=>?_) (by kernel_rfl)
 refine ad (by exact(ua (qA W.ok W.J W.JS uv (ge uv) jn) ug)) ?_
 refine ad (by exact(ua (ul ag) (Bw W.ok W.J W.JS uv (ge uv)))) ?_
 refine ad (by exact(bF uv)) ?_
 exact an
theorem f12 (W:BaseT C P):eY C 17 (.ref 196) Ox:=br W.ok W.o12 (bH W.b12)
theorem o16 (W:BaseT C P):bY C 226 (aZ (KH P) 226) (aI (KH P) 226) [(dV,0),(dV,1)] ["self","startval"]:=W.fno (.cons rfl (λh=>nomatch h) (.cons rfl (λh=>nomatch h) .nil)) (pQ (T:=219) (v:=.none) (by kernel_rfl) (by kernel_rfl) (λ_ _=>⟨_,rfl,by kernel_rfl⟩))
theorem b16 (W:BaseT C P):SL C (aR (aZ (KH P) 226).scope) 18 (aI (KH P) 226) yV:=by
 conv=>arg 2;arg 1;whnf
 conv=>arg 4;whnf
 refine dl (λhok0=>?_) (by kernel_rfl)
 refine ad (by exact(cS (um Il uv Dm) (ad (ua (ul ag) ug) an) an)) ?_
 refine ad (by exact(ua uv (Bw W.ok W.J W.JS uv jn))) ?_
 refine ad (by exact(ua am (W.ga uv))) ?_
 exact an
theorem f16 (W:BaseT C P):eY C 19 (.ref 226) Fg:=br W.ok W.o16 (bH W.b16)
theorem f16d (W:BaseT C P):eY C 19 (.ref 226) (tD Fg):=xB W.ok W.o16 (λu s X=>BN (K:=KH P) (by rw[←W.K];exact X) (T:=219) (its:=[.none]) (n:=0) (by kernel_rfl) (by kernel_rfl) rfl (by kernel_rfl)) (bH W.b16)
theorem o17 (W:BaseT C P):bY C 233 (aZ (KH P) 233) (aI (KH P) 233) [(dV,0)] ["self"]:=W.fno (.cons rfl (λh=>nomatch h) .nil) (λus hu s _=>fw (λ_=>by kernel_rfl) us hu)
theorem b17 (W:BaseT C P):SL C (aR (aZ (KH P) 233).scope) 20 (aI (KH P) 233) GF:=by
 conv=>arg 2;arg 1;whnf
 conv=>arg 4;whnf
 refine dl (λhok0=>?_) (by kernel_rfl)
 refine ad (by exact(bF (Gw (jN dZ rfl (W.ta uv) am) (N0 (Hv W.tsub uv) (j6 W.ok (fq λ_=>rfl) Wl Yr (sG (d:=0)) (Sp rfl) jb (jg W.ok hok0 (bx (by kernel_rfl)) W.g_str bL W.sfStr (Sp rfl) (bc (λ_ _=>rfl) λ_=>rfl) (uc uv ag)) ag))))) ?_
 exact an
theorem f17 (W:BaseT C P):eY C 21 (.ref 233) Oz:=br W.ok W.o17 (bH W.b17)
theorem o8 (W:BaseT C P):bY C 122 (aZ (KH P) 122) (aI (KH P) 122) [(dV,0)] ["self"]:=W.fno (.cons rfl (λh=>nomatch h) .nil) (λus hu s _=>fw (λ_=>by kernel_rfl) us hu)
theorem b8 (W:BaseT C P):SL C (aR (aZ (KH P) 122).scope) 22 (aI (KH P) 122) c8:=by
 conv=>arg 2;arg 1;whnf
 conv=>arg 4;whnf
 refine dl (λhok0=>?_) (by kernel_rfl)
 refine ad (by exact(ua (W.mt W.m13 W.f13 (W.ta uv) ag) ug)) ?_
 refine ad (by exact(cS (um eK uv (up (uc us (uc us ag)))) (ad (ux (D3 W.ok W.J (λ_=>rfl) W.m11 W.get11 W.tk11 (by kernel_rfl) W.fn11 W.f11 (Sp rfl) (W.ta uv) uv)) an) an)) ?_
 refine ad (by exact(cS (um qq (W.bi W.g_len W.sfLen (uc (W.ta uv) ag)) am) (ad (cS (kh (te W.tsub (W.mt W.m17 W.f17 (W.ta uv) ag)) (te W.tsub (W.ta uv))) (ad (pf W.ok W.J W.JS (λ_ _ _=>rfl) (W.ta uv) (iR am) (jg W.ok hok0 (bx (by kernel_rfl)) W.g_str bL W.sfStr (Sp rfl) (bc (λ_ _=>rfl) λ_=>rfl) (uc (W.ta uv) ag))) an) (ad (ux (gX W.ok W.J (fq λ_=>rfl) UD Vh W.findAppend dN (iV (d:=0) W.ok W.J) (Sp rfl) (bc (λ_ _=>rfl) λ_=>rfl) (W.ta uv) (uc (jg W.ok hok0 (bx (by kernel_rfl)) W.g_str bL W.sfStr (Sp rfl) (bc (λ_ _=>rfl) λ_=>rfl) (uc (W.ta uv) ag)) ag))) an)) an) an)) ?_
 refine ad (by exact(ux (W.mt W.m16 W.f16d (W.ta uv) ag))) ?_
 exact an
theorem f8 (W:BaseT C P):eY C 23 (.ref 122) F8:=br W.ok W.o8 (bH W.b8)
theorem o6 (W:BaseT C P):bY C 101 (aZ (KH P) 101) (aI (KH P) 101) [(dV,0),(dV,1),(dV,2),(dV,3),(dV,4)] ["self","headerlen","maxlen","continuation_ws","splitchars"]:=W.fno (.cons rfl (λh=>nomatch h) (.cons rfl (λh=>nomatch h) (.cons rfl (λh=>nomatch h) (.cons rfl (λh=>nomatch h) (.cons rfl (λh=>nomatch h) .nil))))) (λus hu s _=>Hp (λ_ _ _ _ _=>by kernel_rfl) us hu)
theorem b6 (W:BaseT C P):SL C (aR (aZ (KH P) 101).scope) 24 (aI (KH P) 101) c6:=by
 conv=>arg 2;arg 1;whnf
 conv=>arg 4;whnf
 refine dl (λhok0=>?_) (by kernel_rfl)
 refine ad (by exact(ua uv (W.ga uv))) ?_
 refine ad (by exact(ua uv (W.ga uv))) ?_
 refine ad (by exact(ua (W.bi W.g_len W.sfLen (uc uv ag)) (W.ga uv))) ?_
 refine ad (by exact(ua uv (W.ga uv))) ?_
 refine ad (by exact(ua (ul ag) (W.ga uv))) ?_
 refine ad (by exact(ua (DK W.ok hok0 (bx (by kernel_rfl)) W.g__Accumulator W.newL W.f10 f10_two (Sp rfl) (bc (λ_ _=>rfl) λ_=>rfl) (uc uv ag)) (W.ga uv))) ?_
 exact an
theorem f6 (W:BaseT C P):eY C 25 (.ref 101) F6:=br W.ok W.o6 (bH W.b6)
theorem o7 (W:BaseT C P):bY C 108 (aZ (KH P) 108) (aI (KH P) 108) [(dV,0),(dV,1)] ["self","linesep"]:=W.fno (.cons rfl (λh=>nomatch h) (.cons rfl (λh=>nomatch h) .nil)) (λus hu s _=>gu (λ_ _=>by kernel_rfl) us hu)
theorem b7 (W:BaseT C P):SL C (aR (aZ (KH P) 108).scope) 26 (aI (KH P) 108) c7:=by
 conv=>arg 2;arg 1;whnf
 conv=>arg 4;whnf
 refine dl (λhok0=>?_) (by kernel_rfl)
 refine ad (by exact(ux (W.mt W.m8 W.f8 uv ag))) ?_
 refine ad (by exact(bF (j6 W.ok (fq λ_=>rfl) VU W7 (qG (d:=0)) (Sp rfl) (bc (λ_ _=>rfl) λ_=>rfl) uv (uc (W.ta uv) ag)))) ?_
 exact an
theorem f7 (W:BaseT C P):eY C 27 (.ref 108) F7:=br W.ok W.o7 (bH W.b7)
theorem o9 (W:BaseT C P):bY C 157 (aZ (KH P) 157) (aI (KH P) 157) [(dV,0),(dV,1),(dV,2)] ["self","fws","string"]:=W.fno (.cons rfl (λh=>nomatch h) (.cons rfl (λh=>nomatch h) (.cons rfl (λh=>nomatch h) .nil))) (λus hu s _=>qu (λ_ _ _=>by kernel_rfl) us hu)
theorem b9 (W:BaseT C P):SL C (aR (aZ (KH P) 157).scope) 28 (aI (KH P) 157) c9:=by
 conv=>arg 2;arg 1;whnf
 conv=>arg 4;whnf
 refine dl (λhok0=>?_) (by kernel_rfl)
 refine ad (by exact(ux (W.mt W.m11 W.f11 (W.ta uv) (uc uv (uc uv ag))))) ?_
 refine ad (by exact(cS (um qq (W.bi W.g_len W.sfLen (uc (W.ta uv) ag)) (W.ta uv)) (ad (uf (.v ug) (iF (W.ta uv)) (ad (uf (.v ug) (Et W.ok hok0 (bx (by kernel_rfl)) W.g_range (bc (λ_ _=>rfl) λ_=>rfl) (uc (aj bV (W.mt W.m18 W.f18 (W.ta uv) ag) am) (uc am (uc (iR am) ag)))) (ad (cS (te W.tsub (j6 W.ok (fq λ_=>rfl) Wl Yr (sG (d:=0)) (Sp rfl) jb uv ag)) (ad (ua (W.ts (W.ts (W.ta uv) uv) am) ug) (ad (cS (kh (te W.tsub uv) (um dZ (W.ts uv am) uv)) (ad pM an) an) an)) an) (ad (ua (W.ts (W.ts (W.ta uv) (aj bV uv am)) am) ug) (ad (cS (kh (te W.tsub uv) (um dZ (W.ts uv (iR am)) uv)) (ad pM an) an) an))) (ad HE an)) (ad pM an)) (ad (ua (W.mt W.m13 W.f13 (W.ta uv) ag) (cV (ut ug (ut ug cj)))) (ad (cS (um qq (W.ta (W.ta uv)) am) (ad (ux (W.mt W.m8 W.f8 uv ag)) (ad (cS (IK (te W.tsub uv)) (ad (ua us ug) an) an) an)) an) (ad (ux (W.mt W.m11 W.f11 (W.ta uv) (uc uv (uc uv ag)))) (ad Ea an))))) (ad (ua (W.mt W.m12 W.f12 (W.ta uv) (uc uv ag)) ug) (ad (ux (gX W.ok W.J (fq λ_=>rfl) UD Vh W.findAppend dN (iV (d:=0) W.ok W.J) (Sp rfl) (bc (λ_ _=>rfl) λ_=>rfl) (W.ta uv) (uc (jg W.ok hok0 (bx (by kernel_rfl)) W.g_str bL W.sfStr (Sp rfl) (bc (λ_ _=>rfl) λ_=>rfl) (uc (W.ta uv) ag)) ag))) (ad (ux (W.mt W.m16 W.f16 (W.ta uv) (uc uv ag))) an)))) an)) ?_
 exact an
theorem f9 (W:BaseT C P):eY C 29 (.ref 157) F9:=br W.ok W.o9 (bH W.b9)
theorem o0 (W:BaseT C P):bY C 38 (aZ (KH P) 38) (aI (KH P) 38) [(dV,0),(dV,1)] ["self","ws"]:=W.fno (.cons rfl (λh=>nomatch h) (.cons rfl (λh=>nomatch h) .nil)) (λus hu s _=>gu (λ_ _=>by kernel_rfl) us hu)
theorem b0 (W:BaseT C P):SL C (aR (aZ (KH P) 38).scope) 30 (aI (KH P) 38) c0:=by
 conv=>arg 2;arg 1;whnf
 conv=>arg 4;whnf
 refine dl (λhok0=>?_) (by kernel_rfl)
 refine ad (by exact(ua uv (W.ga uv))) ?_
 refine ad (by exact(DP rfl rfl (by decide) hok0 (up (uc (kN W.ok hok0 (bx (by kernel_rfl)) W.g_Whitespace W.readsW W.attrS (λ_=>rfl)) (uc (kN W.ok hok0 (bx (by kernel_rfl)) W.g_Whitespace W.readsW W.attrT (λ_=>rfl)) ag))) (λ_=>rfl) (M6 (bx (by kernel_rfl)) (bx (by kernel_rfl)) (by kernel_rfl) (by kernel_rfl)))) ?_
 refine ad (by exact(ua (ul ag) ug)) ?_
 refine ad (by exact(C7 (λ_=>rfl) (λ_=>rfl) am ug ug ug)) ?_
 refine ad (by exact(uf (.v ug) (iF (W.ta uv)) (ad (cS (um dZ uv uv) (ad (ua (aj aF uv am) ug) (ad (ua (aj aF uv am) ug) an)) (ad (cS (um dZ uv uv) (ad (ua (aj aF uv am) ug) (ad (ua (aj aF uv am) ug) (ad (cS (um j0 uv (W.bi W.g_len W.sfLen (uc uv ag))) (ad (ua (aj aF uv (aj bq (ul (uc am ag)) (aj aF (aj bV uv (W.bi W.g_len W.sfLen (uc uv ag))) am))) ug) an) an) (ad (ua (aj aF (W.ts uv uv) am) (AE uv uv)) (ad (ua am ug) an))))) (ad pM an)) an)) an) an)) ?_
 refine ad (by exact(ua uv (W.ga uv))) ?_
 refine ad (by exact(ua uv (W.ga uv))) ?_
 refine ad (by exact(ua (up (uc (jg W.ok hok0 (bx (by kernel_rfl)) W.g_tuple bL (AF (d:=0)) (Sp rfl) (bc (λ_ _=>rfl) λ_=>rfl) (uc uv ag)) (uc uv ag))) (W.ga uv))) ?_
 refine ad (by exact(ua (jN zC rfl (W.bi W.g_len W.sfLen (uc uv ag)) am) (W.ga uv))) ?_
 exact an
theorem f0 (W:BaseT C P):eY C 31 (.ref 38) F0:=br W.ok W.o0 (bH W.b0)
theorem i0 (W:BaseT C P):eY C 31 (.ref 38) I0:=DE OO W.f0
theorem o1 (W:BaseT C P):bY C 45 (aZ (KH P) 45) (aI (KH P) 45) [(dV,0)] ["self"]:=W.fno (.cons rfl (λh=>nomatch h) .nil) (λus hu s _=>fw (λ_=>by kernel_rfl) us hu)
theorem b1 (W:BaseT C P):SL C (aR (aZ (KH P) 45).scope) 32 (aI (KH P) 45) p1:=by
 conv=>arg 2;arg 1;whnf
 conv=>arg 4;whnf
 refine dl (λhok0=>?_) (by kernel_rfl)
 refine ad (by exact(ua (W.ta uv) (cV (ut ug (ut ug cj))))) ?_
 refine ad (by exact(bF (W.bi W.g_max (k0 (d:=0)) (uc (aj bV (W.bi W.g_len W.sfLen (uc uv ag)) am) (uc uv ag))))) ?_
 exact an
theorem f1 (W:BaseT C P):eY C 33 (.ref 45) H1:=fo Js (br W.ok W.o1 (bH W.b1))
theorem o2 (W:BaseT C P):bY C 52 (aZ (KH P) 52) (aI (KH P) 52) [(dV,0),(dV,1)] ["self","tabsize"]:=W.fno (.cons rfl (λh=>nomatch h) (.cons rfl (λh=>nomatch h) .nil)) (λus hu s _=>gu (λ_ _=>by kernel_rfl) us hu)
theorem b2 (W:BaseT C P):SL C (aR (aZ (KH P) 52).scope) 34 (aI (KH P) 52) p2:=by
 conv=>arg 2;arg 1;whnf
 conv=>arg 4;whnf
 refine dl (λhok0=>?_) (by kernel_rfl)
 refine ad (by exact(ua (W.ta uv) (cV (ut ug (ut ug cj))))) ?_
 refine ad (by exact(ua am ug)) ?_
 refine ad (by exact(fK EG (uf (.v ug) (et W.ok hok0 (bx (by kernel_rfl)) W.g_range (bc (λ_ _=>rfl) λ_=>rfl) (uc uv (uc (W.bi W.g_len W.sfLen (uc uv ag)) ag))) (ad (ua (aj aF uv (aj bq (aj w2 uv uv) (W.ts uv uv))) ug) an) an))) ?_
 refine ad (by exact(bF (aj aF uv (aj bq uv (aj aF uv (W.ta uv)))))) ?_
 exact an
theorem f2 (W:BaseT C P):eY C 35 (.ref 52) H2:=fo Mi (br W.ok W.o2 (bH W.b2))
theorem o3 (W:BaseT C P):bY C 66 (aZ (KH P) 66) (aI (KH P) 66) [(dV,0),(dV,1)] ["self","other"]:=W.fno (.cons rfl (λh=>nomatch h) (.cons rfl (λh=>nomatch h) .nil)) (λus hu s _=>gu (λ_ _=>by kernel_rfl) us hu)
theorem b3 (W:BaseT C P):SL C (aR (aZ (KH P) 66).scope) 36 (aI (KH P) 66) p3:=by
 conv=>arg 2;arg 1;whnf
 conv=>arg 4;whnf
 refine dl (λhok0=>?_) (by kernel_rfl)
 refine ad (by exact(ua (aj aF (W.bi W.g_max (k0 (d:=0)) (uc (W.mt W.m1 W.f1 uv ag) (uc (W.mt W.m1 W.f1 uv ag) ag))) am) ug)) ?_
 refine ad (by exact(ua (ul ag) ug)) ?_
 refine ad (by exact(fK DJ (uf (.v ug) (et W.ok hok0 (bx (by kernel_rfl)) W.g_range (bc (λ_ _=>rfl) λ_=>rfl) (uc am (uc (aj aF uv am) ag))) (ad (cS (um eK (W.mt W.m2 W.f2 uv (uc uv ag)) (W.mt W.m2 W.f2 uv (uc uv ag))) (ad (ux (gX W.ok W.J (fq λ_=>rfl) UD Vh W.findAppend dN (iV (d:=0) W.ok W.J) (Sp rfl) (bc (λ_ _=>rfl) λ_=>rfl) uv (uc (up (uc uv (uc (W.mt W.m2 W.f2 uv (uc uv ag)) (uc (W.mt W.m2 W.f2 uv (uc uv ag)) ag)))) ag))) an) an) an) an))) ?_
 refine ad (by exact(bF uv)) ?_
 exact an
theorem f3 (W:BaseT C P):eY C 37 (.ref 66) H3:=fo Kh (br W.ok W.o3 (bH W.b3))
theorem o4 (W:BaseT C P):bY C 73 (aZ (KH P) 73) (aI (KH P) 73) [(dV,0),(dV,1)] ["self","other"]:=W.fno (.cons rfl (λh=>nomatch h) (.cons rfl (λh=>nomatch h) .nil)) (λus hu s _=>gu (λ_ _=>by kernel_rfl) us hu)
theorem b4 (W:BaseT C P):SL C (aR (aZ (KH P) 73).scope) 38 (aI (KH P) 73) p4:=by
 conv=>arg 2;arg 1;whnf
 conv=>arg 4;whnf
 refine dl (λhok0=>?_) (by kernel_rfl)
 refine ad (by exact(cS (um j0 (W.ta uv) (W.ta uv)) (ad (bF cu) an) an)) ?_
 refine ad (by exact(cS (kh (te W.tsub (W.ta uv)) (te W.tsub (W.ta uv))) (ad (bF (jN zC rfl (W.ta uv) (W.ta uv))) an) an)) ?_
 refine ad (by exact(ua (aj aF (W.bi W.g_max (k0 (d:=0)) (uc (W.mt W.m1 W.f1 uv ag) (uc (W.mt W.m1 W.f1 uv ag) ag))) am) ug)) ?_
 refine ad (by exact(fK Dg (uf (.v ug) (et W.ok hok0 (bx (by kernel_rfl)) W.g_range (bc (λ_ _=>rfl) λ_=>rfl) (uc am (uc (aj aF uv am) ag))) (ad (cS (um j0 (W.mt W.m2 W.f2 uv (uc uv ag)) (W.mt W.m2 W.f2 uv (uc uv ag))) (ad (bF cu) an) an) an) an))) ?_
 refine ad (by exact(bF cu)) ?_
 exact an
theorem f4 (W:BaseT C P):eY C 39 (.ref 73) H4:=fo Mx (br W.ok W.o4 (bH W.b4))
theorem o5 (W:BaseT C P):bY C 80 (aZ (KH P) 80) (aI (KH P) 80) [(dV,0),(dV,1)] ["self","other"]:=W.fno (.cons rfl (λh=>nomatch h) (.cons rfl (λh=>nomatch h) .nil)) (λus hu s _=>gu (λ_ _=>by kernel_rfl) us hu)
theorem b5 (W:BaseT C P):SL C (aR (aZ (KH P) 80).scope) 40 (aI (KH P) 80) p5:=by
 conv=>arg 2;arg 1;whnf
 conv=>arg 4;whnf
 refine dl (λhok0=>?_) (by kernel_rfl)
 refine ad (by exact(ua (aj aF (W.bi W.g_max (k0 (d:=0)) (uc (W.mt W.m1 W.f1 uv ag) (uc (W.mt W.m1 W.f1 uv ag) ag))) am) ug)) ?_
 refine ad (by exact(ua (ul ag) ug)) ?_
 refine ad (by exact(fK DU (uf (.v ug) (et W.ok hok0 (bx (by kernel_rfl)) W.g_range (bc (λ_ _=>rfl) λ_=>rfl) (uc am (uc (aj aF uv am) ag))) (ad (cS (um j0 (W.mt W.m2 W.f2 uv (uc uv ag)) (W.mt W.m2 W.f2 uv (uc uv ag))) (ad (ux (gX W.ok W.J (fq λ_=>rfl) UD Vh W.findAppend dN (iV (d:=0) W.ok W.J) (Sp rfl) (bc (λ_ _=>rfl) λ_=>rfl) uv (uc (up (uc uv (uc (W.mt W.m2 W.f2 uv (uc uv ag)) (uc (W.mt W.m2 W.f2 uv (uc uv ag)) ag)))) ag))) an) an) an) an))) ?_
 refine ad (by exact(bF uv)) ?_
 exact an
theorem f5 (W:BaseT C P):eY C 41 (.ref 80) H5:=fo MW (br W.ok W.o5 (bH W.b5))
theorem o20 (W:BaseT C P):bY C 269 (aZ (KH P) 269) (aI (KH P) 269) [(dV,0),(dV,1)] ["s","amount"]:=W.fno (.cons rfl (λh=>nomatch h) (.cons rfl (λh=>nomatch h) .nil)) (λus hu s _=>gu (λ_ _=>by kernel_rfl) us hu)
theorem b20 (W:BaseT C P):SL C (aR (aZ (KH P) 269).scope) 44 (aI (KH P) 269) Rv:=by
 conv=>arg 2;arg 1;whnf
 conv=>arg 4;whnf
 refine dl (λhok0=>?_) (by kernel_rfl)
 refine ad (by exact(ua am ug)) ?_
 refine ad (by exact(fK zn (vI (kh (te W.tsub uv) (um dZ (W.ts uv uv) us)) (ad (lO rfl (λh=>nomatch h) hok0 yn am) (ad (lO rfl (λh=>nomatch h) hok0 lA am) an)) an))) ?_
 refine ad (by exact(ua (aj bV (W.bi W.g_len W.sfLen (uc uv ag)) am) ug)) ?_
 refine ad (by exact(fK Ab (vI (kh (te W.tsub uv) (um dZ (W.ts uv uv) us)) (ad (lO rfl (λh=>nomatch h) hok0 lA am) (ad (lO rfl (λh=>nomatch h) hok0 lA am) an)) an))) ?_
 refine ad (by exact(bF (qA W.ok W.J W.JS uv (ge uv) (ge (aj aF uv am))))) ?_
 exact an
theorem f20 (W:BaseT C P):eY C 45 (.ref 269) OA:=fo G9 (br W.ok W.o20 (bH W.b20))
theorem o21 (W:BaseT C P):bY C 274 (aZ (KH P) 274) (aI (KH P) 274) [(dV,0)] ["script"]:=W.fno (.cons rfl (λh=>nomatch h) .nil) (λus hu s _=>fw (λ_=>by kernel_rfl) us hu)
theorem b21 (W:BaseT C P):SL C (aR (aZ (KH P) 274).scope) 46 (aI (KH P) 274) PB:=by
 conv=>arg 2;arg 1;whnf
 conv=>arg 4;whnf
 refine dl (λhok0=>?_) (by kernel_rfl)
 refine ad (by exact(ua (ul (uc am (uc am (uc am (uc am (uc am ag)))))) ug)) ?_
 refine ad (by exact(uf (.p (λ_=>rfl) (λ_=>rfl) ug ug) (pK W.ok hok0 (bx (by kernel_rfl)) W.g_enumerate (bc (λ_ _=>rfl) λ_=>rfl) (uc uv ag)) (ad (pf W.ok W.J W.JS (λ_ _ _=>rfl) uv (aj dv uv am) (aj dv uv (aj El am am))) an) an)) ?_
 refine ad (by exact(ua (aj aF am (aj dv (W.ts uv am) am)) ug)) ?_
 refine ad (by exact(ua (aj aF am (aj dv (W.ts uv am) am)) ug)) ?_
 refine ad (by exact(cS (um dZ (aj bq am uv) uv) (ad (lO rfl (λ_=>bx (by kernel_rfl)) hok0 lA am) an) an)) ?_
 refine ad (by exact(ua (W.ts (cI (by kernel_rfl) rfl (λ_ _=>rfl) (et W.ok hok0 (bx (by kernel_rfl)) W.g_range (bc (λ_ _=>rfl) λ_=>rfl) (uc am (uc (aj aF uv am) ag))) (λhok1=>(.v ug)) (λhok1=>(gG (um dZ (aj dv (aj bq uv uv) uv) am))) (λhok1=>uv)) am) ug)) ?_
 refine ad (by exact(ua (aj aF am (aj dv (W.ts uv am) (aj bV uv am))) ug)) ?_
 refine ad (by exact(ua (ul (uc (ul (uc uv (uc am (uc am ag)))) (uc (aj aF (aj bq (ul (uc uv ag)) uv) (ul (uc am (uc am ag)))) (uc (aj bq (ul (uc uv ag)) uv) (uc (ul (uc uv (uc uv (uc am ag)))) ag))))) ug)) ?_
 refine ad (by exact(bF (up (uc uv (uc uv (uc uv (uc (aj dv (W.ts uv am) uv) (uc (W.ts uv (aj dv (W.ts uv am) am)) ag)))))))) ?_
 exact an
theorem f21 (W:BaseT C P):eY C 47 (.ref 274) Ou:=br W.ok W.o21 (bH W.b21)
theorem o22 (W:BaseT C P):bY C 279 (aZ (KH P) 279) (aI (KH P) 279) [(dV,0),(dV,1),(dV,2)] ["told","ring","head"]:=W.fno (.cons rfl (λh=>nomatch h) (.cons rfl (λh=>nomatch h) (.cons rfl (λh=>nomatch h) .nil))) (λus hu s _=>qu (λ_ _ _=>by kernel_rfl) us hu)
theorem b22 (W:BaseT C P):SL C (aR (aZ (KH P) 279).scope) 48 (aI (KH P) 279) HJ:=by
 conv=>arg 2;arg 1;whnf
 conv=>arg 4;whnf
 refine dl (λhok0=>?_) (by kernel_rfl)
 refine ad (by exact(ua (aj aF us (j6 W.ok (fq λ_=>rfl) VU W7 (qG (d:=0)) (Sp rfl) (bc (λ_ _=>rfl) λ_=>rfl) us (uc (cI (by kernel_rfl) rfl (λ_ _=>rfl) (pK W.ok hok0 (bx (by kernel_rfl)) W.g_enumerate (bc (λ_ _=>rfl) λ_=>rfl) (uc uv ag)) (λhok1=>(.p (λ_=>rfl) (λ_=>rfl) ug ug)) (λhok1=>df) (λhok1=>(aj aF (aj bq us (aj bV uv am)) (W.bi W.g_chr (H9 (d:=0)) (uc (aj aF am uv) ag))))) ag))) ug)) ?_
 refine ad (by exact(ua (W.nw W.g__ValueFormatter W.new1 W.f6 (uc (aj bq am uv) (uc (aj bq am uv) (uc us (uc us ag))))) ug)) ?_
 refine ad (by exact(uf (.v ug) (iF uv) (ad (ux (W.mt W.m9 W.f9 uv (uc us (uc uv ag)))) an) an)) ?_
 refine ad (by exact(ua (j6 W.ok (fq λ_=>rfl) VJ PySem.F.type_str_split (Bs (d:=0)) (Sp rfl) (bc (λ_ _=>rfl) λ_=>rfl) (W.mt W.m7 W.f7 uv (uc us ag)) (uc us ag)) ug)) ?_
 refine ad (by exact(ua (aj aF (aj bq us uv) (W.ts uv am)) (AE uv am))) ?_
 refine ad (by exact(bF (yO (by kernel_rfl) rfl (λ_ _=>rfl) (iF uv) (λhok1=>(.v ug)) (λhok1=>df) (λ_ _=>rfl) (λhok1=>(pK W.ok hok1 (bx (by kernel_rfl)) W.g_enumerate (bc (λ_ _=>rfl) λ_=>rfl) (uc (Hy uv) ag))) (λhok1=>(.p (λ_=>rfl) (λ_=>rfl) ug ug)) (λhok1=>(gG (um eK uv us))) (λhok1=>uv)))) ?_
 exact an
theorem f22 (W:BaseT C P):eY C 49 (.ref 279) Op:=br W.ok W.o22 (bH W.b22)
theorem o23 (W:BaseT C P):bY C 284 (aZ (KH P) 284) (aI (KH P) 284) [(Sk,0),(Sk,1)] ["places","ring"]:=W.fno (.cons rfl (λ_=>bx (by kernel_rfl)) (.cons rfl (λ_=>bx (by kernel_rfl)) .nil)) (λus hu s _=>gu (λ_ _=>by kernel_rfl) us hu)
theorem b23 (W:BaseT C P):vf C (aR (aZ (KH P) 284).scope) (λenv=>env.code=.ref 283/\env.qual="_law_lead.<locals>.") 50 (aI (KH P) 284) (aI (KH P) 284) Rz:=by
 conv=>arg 2;arg 1;whnf
 conv=>arg 6;whnf
 refine jS (λhok0=>?_) (by kernel_rfl)
 refine cY (jY (by exact(qj (yi (bx (by kernel_rfl))) (λ_ _=>rfl) (λ_=>rfl) (hU zY (cI (by kernel_rfl) rfl (λ_ _=>rfl) (iF (cD rfl hok0)) (λhok1=>(.v (iU rfl (λh=>nomatch h) hok1))) (λhok1=>df) (λhok1=>(aj dv (aj bV (cD rfl hok1) (jQ W.ok W.J W.JS (λ_ _=>rfl) (cD rfl hok1) am)) (cD rfl hok1))))) (iU rfl (λ_=>bx (by kernel_rfl)) hok0)))) ?_
 refine cY (by exact(Ep (λ_ _=>rfl) (λ_ _=>rfl) (λ_=>rfl) (W.se_sk (jg W.ok hok0 (bx (by kernel_rfl)) W.g_len ck W.sfLen (Sp rfl) (bc (λ_ _=>rfl) λ_=>rfl) (cP (cD rfl hok0) ag (λ_=>rfl))) hok0 (bx (by kernel_rfl)) (bx (by kernel_rfl)) (bc (λ_ _=>rfl) λ_=>rfl) rfl ⟨by kernel_rfl,by kernel_rfl,by kernel_rfl,by kernel_rfl,by kernel_rfl,by kernel_rfl,λ_=>rfl,λ_ _ _ _ _ _ _=>by kernel_rfl⟩ (by kernel_rfl) (λW hok1=>(lr W.ok hok1 (bx (by kernel_rfl)) W.g__strxfrm W.k19 (lS W.f19) (Sp rfl) (bc (λ_ _=>rfl) λ_=>rfl) (cP (aj bq (jc (by kernel_rfl)) (jQ W.ok W.J W.JS (λ_ _=>rfl) (cD rfl hok1) (cD rfl hok1))) ag (λ_=>rfl))))) (iU rfl (λh=>nomatch h) hok0))) ?_
 refine cY (jY (by exact(qj (λ_ _=>rfl) (λ_ _=>rfl) (λ_=>rfl) (aj aF (hU zG (cI (by kernel_rfl) rfl (λ_ _=>rfl) (iF (cD rfl hok0)) (λhok1=>(.v (iU rfl (λh=>nomatch h) hok1))) (λhok1=>df) (λhok1=>(jQ W.ok W.J W.JS (λ_ _=>rfl) (cD rfl hok1) (cD rfl hok1))))) (zo (Sp rfl) (cP (cD rfl hok0) ag (λ_=>rfl)))) (iU rfl (λ_=>bx (by kernel_rfl)) hok0)))) ?_
 refine cY (jY (by exact(fK (SU (λe=>aV e _) Br) (g7 (by kernel_rfl) rfl (λ_ _=>rfl) (we W.ok hok0 (bx (by kernel_rfl)) W.g_range (bc (λ_ _=>rfl) λ_=>rfl) (cP (jg W.ok hok0 (bx (by kernel_rfl)) W.g_len ck W.sfLen (Sp rfl) (bc (λ_ _=>rfl) λ_=>rfl) (cP (cD rfl hok0) ag (λ_=>rfl))) ag (λ_=>rfl))) (λhok1=>(.v (iU rfl (λh=>nomatch h) hok1))) (λhok1=>df) (λhok1=>(lr W.ok hok1 (bx (by kernel_rfl)) W.g__strip_padding W.k20 (lS W.f20) (Sp rfl) (bc (λ_ _=>rfl) λ_=>rfl) (cP (aj aF (aj bq (jc (by kernel_rfl)) (jQ W.ok W.J W.JS (λ_ _=>rfl) (cD rfl hok1) (aj aF (cD rfl hok1) am))) (jc (by kernel_rfl))) (cP (aj aF (jQ W.ok W.J W.JS (λ_ _=>rfl) (cD rfl hok1) (cD rfl hok1)) am) ag (λ_=>rfl)) (λ_=>rfl)))) hok0 rfl (fY (bx (by kernel_rfl)) (by kernel_rfl) (by kernel_rfl)))))) ?_
 refine cY (jY (by exact(bF (vA (Sp rfl) (cP (cD rfl hok0) (cP (j6 W.ok (fq λ_=>rfl) VU W7 (qG (d:=0)) (Sp rfl) (bc (λ_ _=>rfl) λ_=>rfl) (jc (by kernel_rfl)) (cP (cD rfl hok0) ag (λ_=>rfl))) ag (λ_=>rfl)) (λ_=>rfl)))))) ?_
 exact bH an
theorem f23 (W:BaseT C P):eY C 51 (.ref 284) FZ:=fo GD (br W.ok W.o23 (iu W.b23 λenv x=>⟨x.code.trans (by kernel_rfl),x.qual.trans (by kernel_rfl)⟩))
theorem o24 (W:BaseT C P):bY C 289 (aZ (KH P) 289) (aI (KH P) 289) [(Sk,0),(Sk,1),(dV,0)] ["ring","step","count"]:=W.fno (.cons rfl (λ_=>bx (by kernel_rfl)) (.cons rfl (λ_=>bx (by kernel_rfl)) (.cons rfl (λh=>nomatch h) .nil))) (λus hu s _=>qu (λ_ _ _=>by kernel_rfl) us hu)
theorem b24 (W:BaseT C P):SL C (aR (aZ (KH P) 289).scope) 52 (aI (KH P) 289) Rq:=by
 conv=>arg 2;arg 1;whnf
 conv=>arg 4;whnf
 refine dl (λhok0=>?_) (by kernel_rfl)
 refine ad (by exact(ua (W.bi W.g_min (zh (d:=0)) (uc (hU Ag (cI (by kernel_rfl) rfl (λ_ _=>rfl) (et W.ok hok0 (bx (by kernel_rfl)) W.g_range (bc (λ_ _=>rfl) λ_=>rfl) (uc am (uc uv ag))) (λhok1=>(.v ug)) (λhok1=>df) (λhok1=>(up (uc (aj dv (aj bq uv uv) uv) (uc uv ag)))))) ag)) (cV (ut ug (ut ug cj))))) ?_
 refine ad (by exact(ua (W.bi W.g_min (zh (d:=0)) (uc (hU AY (cI (by kernel_rfl) rfl (λ_ _=>rfl) (et W.ok hok0 (bx (by kernel_rfl)) W.g_range (bc (λ_ _=>rfl) λ_=>rfl) (uc am (uc uv ag))) (λhok1=>(.v ug)) (λhok1=>df) (λhok1=>(up (uc (aj dv (aj bq (iR uv) uv) uv) (uc uv ag)))))) ag)) (cV (ut ug (ut ug cj))))) ?_
 refine ad (by exact(ua (ul (uc am ag)) ug)) ?_
 refine ad (by exact(fK zK (vI (um Bg (W.bi W.g_len W.sfLen (uc uv ag)) uv) (ad (ua (W.ts uv (iR am)) ug) (ad (ux (gX W.ok W.J (fq λ_=>rfl) UD Vh W.findAppend dN (iV (d:=0) W.ok W.J) (Sp rfl) (bc (λ_ _=>rfl) λ_=>rfl) uv (uc (uK (um Bg (aj aF uv uv) uv) (aj aF uv uv) (uK (um j0 uv uv) (aj bV uv uv) (aj bV (aj aF uv uv) uv))) ag))) an)) an))) ?_
 refine ad (by exact(ua (ul (uc (up (uc uv (uc (aj bV uv uv) ag))) (uc (up (uc uv (uc (aj bV uv uv) ag))) (uc (up (uc (aj aF uv uv) (uc (aj bV (aj aF uv uv) uv) ag))) ag)))) ug)) ?_
 refine ad (by exact(bF (up (uc uv (uc (hU By (cI (by kernel_rfl) rfl (λ_ _=>rfl) (iF uv) (λhok1=>(.v (cV (ut ug (ut ug cj))))) (λhok1=>(gG (um qq uv am))) (λhok1=>(up (uc uv (uc uv ag)))))) ag))))) ?_
 exact an
theorem f24 (W:BaseT C P):eY C 53 (.ref 289) Oy:=fo Hf (br W.ok W.o24 (bH W.b24))
theorem o25 (W:BaseT C P):bY C 294 (aZ (KH P) 294) (aI (KH P) 294) [(Sk,0)] ["sorts"]:=W.fno (.cons rfl (λ_=>bx (by kernel_rfl)) .nil) (λus hu s _=>fw (λ_=>by kernel_rfl) us hu)
theorem b25 (W:BaseT C P):SL C (aR (aZ (KH P) 294).scope) 54 (aI (KH P) 294) Rt:=by
 conv=>arg 2;arg 1;whnf
 conv=>arg 4;whnf
 refine dl (λhok0=>?_) (by kernel_rfl)
 refine ad (by exact(ua (W.bi W.g_max (GT (d:=0)) (uc (hU zu (cI (by kernel_rfl) rfl (λ_ _=>rfl) (iF uv) (λhok1=>(.v (cV (ut ug (ut ug cj))))) (λhok1=>df) (λhok1=>uv))) ag)) ug)) ?_
 refine ad (by exact(fK (SU (λe=>aV e _) zd) (g7 (by kernel_rfl) rfl (λ_ _=>rfl) (et W.ok hok0 (bx (by kernel_rfl)) W.g_range (bc (λ_ _=>rfl) λ_=>rfl) (uc am (uc (aj aF uv am) ag))) (λhok1=>(.v ug)) (λhok1=>df) (λhok1=>(W.bi W.g_sum (BY (d:=0)) (uc (hU zs (cI (by kernel_rfl) rfl (λ_ _=>rfl) (iF uv) (λhok2=>(.v (cV (ut ug (ut ug cj))))) (λhok2=>(gG (um dZ uv uv))) (λhok2=>uv))) ag))) hok0 rfl (fY (bx (by kernel_rfl)) (by kernel_rfl) (by kernel_rfl))))) ?_
 refine ad (by exact(bF (up (uc (jg W.ok hok0 (bx (by kernel_rfl)) W.g_tuple bL (AF (d:=0)) (Sp rfl) (bc (λ_ _=>rfl) λ_=>rfl) (uc uv ag)) (uc am ag))))) ?_
 exact an
theorem f25 (W:BaseT C P):eY C 55 (.ref 294) OD:=fo HS (br W.ok W.o25 (bH W.b25))
theorem o26 (W:BaseT C P):bY C 299 (aZ (KH P) 299) (aI (KH P) 299) [(dV,0),(Sk,0)] ["sorts","size"]:=W.fno (.cons rfl (λh=>nomatch h) (.cons rfl (λ_=>bx (by kernel_rfl)) .nil)) (λus hu s _=>gu (λ_ _=>by kernel_rfl) us hu)
theorem b26 (W:BaseT C P):SL C (aR (aZ (KH P) 299).scope) 56 (aI (KH P) 299) Rp:=by
 conv=>arg 2;arg 1;whnf
 conv=>arg 4;whnf
 refine dl (λhok0=>?_) (by kernel_rfl)
 refine ad (by exact(bF (aj bq uv (W.bi W.g_sum (BY (d:=0)) (uc (hU zp (cI (by kernel_rfl) rfl (λ_ _=>rfl) (iF uv) (λhok1=>(.v (cV (ut ug (ut ug cj))))) (λhok1=>df) (λhok1=>(aj bq (iR (aj w2 (iR uv) uv)) uv)))) ag))))) ?_
 exact an
theorem f26 (W:BaseT C P):eY C 57 (.ref 299) CX:=fo GR (br W.ok W.o26 (bH W.b26))
end
end BaseT
noncomputable section
variable (pS pR pN:Nat)(a b c d e g h i j l m p s t u A B C D E F H I L M N P Q S T:V)(oa ob oc od oe og oh oi oj ol om op os ot ou oA oB oC oD oE oF oH oI oL oM oN oP oQ oS oT:OV)(A0 A1 A2 A3 A4:V)(C0 C1 C2 C3 C4 C5:Nat)(it:It)(st:St)(k:KV)(R:Fm->SB)(κ:Fl->Fm->SB)
def rl (pS pR pN:Nat)(b e g:V)(C0 C1 C2 C3 C4 C5:Nat)(kk:OV->OV->OV->OV->OV->OV->SB)(kr:V->OV->OV->OV->OV->OV->OV->SB)(ih:OV->OV->OV->OV->OV->OV->It->SB)(oh oi oj ol om op:OV)(it:It)(st:St):Sm:=aY st it (kk oh oi oj ol om op st) λy1 it2=>(@dy.rec (λ_=>Sm) (λv3=>((λ(J4:V->V->SB)=>((w8 pS pR pN) ⟨no::sm b::no::no::sm e::sm g::Si v3::oi::oj::ol::om::op::cp 18,[C0,C1,C2,C3,C4,C5]⟩ st λv54 s55=>(iC 2 v54 s55 λl56=>(dc l56 λv57 l58=>(dc l58 λv59 l60=>(fX l60 (J4 v57 v59 s55))))))) (λx6 x7 s5=>((λ(J8:V->V->SB)=>(fD C0 s5 λx45=>(fD C1 s5 λx46=>(Oy [x45,x46,v3] s5 λv47 s48=>(iC 2 v47 s48 λl49=>(dc l49 λv50 l51=>(dc l51 λv52 l53=>(fX l53 (J8 v50 v52 s48))))))))) (λx10 x11 s9=>(aQ x7 (.str [97,9]) s9 λv12 s13=>(St.push s13 .hid λd14 s15=>St.push s15 (fP 0 d14) λn16 s17=>I0 [(.ref n16),v12] s17 λv18 s19=>rH v18 .none s19 λb20=>aD b20 ((λ(x21:V)=>((λ(J22:Sm->SB)=>(kL x6 x10 s19 λc25=>(aD c25 (J22 Sk s19) (getAttr x21 3 s19 λv26 s27=>(OD [x11] s27 λv28 s29=>(kL v26 v28 s29 λc30=>(J22 c30 s29))))))) (λb23 s24=>(aD b23 (kr (.bool dV) (Si v3) (Si x6) (Si x7) (Si x10) (Si x11) (Si x21) s24) (getAttr x21 1 s24 λv31 s32=>(getAttr x21 2 s32 λv33 s34=>(getAttr x21 4 s34 λv35 s36=>(fD C0 s36 λx37=>(fD C0 s36 λx38=>(ix v3 x38 s36 λc39=>(kL (.tup [v31,v33,v35]) (.tup [x37,v3,(.bool c39)]) s36 λc40=>(aD c40 (kr (.bool dV) (Si v3) (Si x6) (Si x7) (Si x10) (Si x11) (Si x21) s36) (bB g λn41=>St.get s36 n41 λo42=>gQ o42 λ_=>(km g [(.tup [x21,x7,x11])] s36 λv43 s44=>(OB v43 (ih (Si v3) (Si x6) (Si x7) (Si x10) (Si x11) (Si x21) it2 s44)))))))))))))))) (.ref n16)) dV))))))) (λ_ _=>dV) y1)
def wZ (pS pR pN:Nat)(b e g:V)(C0 C1 C2 C3 C4 C5:Nat)(kk:OV->OV->OV->OV->OV->OV->SB)(kr:V->OV->OV->OV->OV->OV->OV->SB)(n:Nat):OV->OV->OV->OV->OV->OV->It->SB:=@Tf (λ_=>_) (λ_ _ _ _ _ _ _ _=>dV) (λ_ ih=>(rl pS pR pN) b e g C0 C1 C2 C3 C4 C5 kk kr ih) n
def sO (pS pR pN:Nat):CS:=(aq (aV (w8 pS pR pN) (fM 2 (bg (ay dV 7) (bg (ay dV 8) eS)))) (aq (aV (fc Oy (ae (aa Sk 0) (ae (aa Sk 1) (ae (aa dV 6) av)))) (fM 2 (bg (ay dV 9) (bg (ay dV 10) eS)))) (aq (aV (iD 0 I0 (ae (aA aQ (aa dV 8) (ao (.str [97,9]))) av)) (ay dV 11)) (aq (hW (Rl (bR kL (aa dV 7) (aa dV 9)) (bR kL (bv (aa dV 11) 3) (fc OD (ae (aa dV 10) av)))) (aq (dq (ao (.bool dV))) aH) aH) (aq (hW (bR kL (cN (ae (bv (aa dV 11) 1) (ae (bv (aa dV 11) 2) (ae (bv (aa dV 11) 4) av)))) (cN (ae (aa Sk 0) (ae (aa dV 6) (ae (qV ix (aa dV 6) (aa Sk 0)) av))))) (aq (dq (ao (.bool dV))) aH) aH) (aq (dI (mZ km (aa dV 5) (ae (cN (ae (aa dV 11) (ae (aa dV 8) (ae (aa dV 10) av)))) av))) aH))))))
def AB (pS pR pN:Nat)(n:Nat)(κ:KF):Fs.Fn (.n (.v (.n (.n (.v (.v (.o (.o (.o (.o (.o (.o (ns 18 (.e 6)))))))))))))) (It->SB):=λb e g oh oi oj ol om op C0 C1 C2 C3 C4 C5=>wZ pS pR pN b e g C0 C1 C2 C3 C4 C5 (λoh oi oj ol om op st=>κ .nxt ⟨no::sm b::no::no::sm e::sm g::oh::oi::oj::ol::om::op::cp 18,[C0,C1,C2,C3,C4,C5]⟩ st) (λv oh oi oj ol om op st=>κ (.ret v) ⟨no::sm b::no::no::sm e::sm g::oh::oi::oj::ol::om::op::cp 18,[C0,C1,C2,C3,C4,C5]⟩ st) n oh oi oj ol om op
def Fe (pS pR pN:Nat):CS:=kJ (iE (cN (ae (aa dV 1) (ae (aA aQ (aa dV 1) (ao (.int 1))) av)))) (HP (.n (.v (.n (.n (.v (.v (.o (.o (.o (.o (.o (.o (ns 18 (.e 6)))))))))))))) (dP (em (ay dV 6)) (sO pS pR pN) aH 200) (AB pS pR pN 200))
theorem zR:(iT (em (ay dV 6)) (iE (cN (ae (aa dV 1) (ae (aA aQ (aa dV 1) (ao (.int 1))) av)))) (sO pS pR pN) aH:CS)=(Fe pS pR pN):=kv (.n (.v (.n (.n (.v (.v (.o (.o (.o (.o (.o (.o (ns 18 (.e 6)))))))))))))) (AB pS pR pN) (λκ ih b e g oh oi oj ol om op C0 C1 C2 C3 C4 C5=>(rl pS pR pN) b e g C0 C1 C2 C3 C4 C5 (λoh oi oj ol om op st=>κ .nxt ⟨no::sm b::no::no::sm e::sm g::oh::oi::oj::ol::om::op::cp 18,[C0,C1,C2,C3,C4,C5]⟩ st) (λv oh oi oj ol om op st=>κ (.ret v) ⟨no::sm b::no::no::sm e::sm g::oh::oi::oj::ol::om::op::cp 18,[C0,C1,C2,C3,C4,C5]⟩ st) (λoh oi oj ol om op=>ih b e g oh oi oj ol om op C0 C1 C2 C3 C4 C5) oh oi oj ol om op) (λ_=>rfl) (λ_ _=>rfl) (λ_ _=>by kernel_rfl)
def t9 (C0 C1:Nat)(ih:OV->It->St->(Sj V->OV->SB)->Sm)(ob:OV)(it:It)(st:St)(k:Sj V->OV->SB):Sm:=aY st it (k [] ob st) λy1 it2=>(@dy.rec (λ_=>Sm) (λv3=>(fD C1 st λx4=>(CX [x4,v3] st λv5 s6=>(fD C0 s6 λx7=>(CX [x7,v3] s6 λv8 s9=>(ih (Si v3) it2 s9 λl10 o11 s12=>k (bp [(.tup [v3,v5,v8])] l10) o11 s12)))))) (λ_ _=>dV) y1)
def xf (C0 C1:Nat)(n:Nat):OV->It->St->(Sj V->OV->SB)->Sm:=@Tf (λ_=>_) (λ_ _ _ _=>dV) (λ_ ih=>t9 C0 C1 ih) n
def sv:CB:=(gt (cN (ae (aa dV 1) (ae (fc CX (ae (aa Sk 1) (ae (aa dV 1) av))) (ae (fc CX (ae (aa Sk 0) (ae (aa dV 1) av))) av)))))
def AI (n:Nat):Fs.Fn (.n (.o (.e 2))) (It->St->(Sj V->Fs.Fo (.n (.o (.e 2))) SB)->Sm):=λob C0 C1=>xf C0 C1 n ob
def FC:CE:=eA (dH (ao (.int 1)) (aA aQ (aa Sk 3) (ao (.int 1)))) 2 0 [5,4] (.n (.o (.e 2))) (bw (em (ay dV 1)) cA sv 200) (AI 200)
theorem Ae:(cF (dH (ao (.int 1)) (aA aQ (aa Sk 3) (ao (.int 1)))) 2 0 [5,4] (em (ay dV 1)) cA sv:CE)=FC:=cO (.n (.o (.e 2))) AI (λih ob C0 C1=>t9 C0 C1 (λob=>ih ob C0 C1) ob) rfl (λ_=>rfl) (λ_=>by kernel_rfl)
def tv (ih:OV->OV->OV->It->St->(Sj V->OV->OV->OV->SB)->Sm)(ob oc od:OV)(it:It)(st:St)(k:Sj V->OV->OV->OV->SB):Sm:=aY st it (k [] ob oc od st) λy1 it2=>(@dy.rec (λ_=>Sm) (λv3=>(iC 3 v3 st λl4=>(dc l4 λv5 l6=>(dc l6 λv7 l8=>(dc l8 λv9 l10=>(fX l10 (ih (Si v5) (Si v7) (Si v9) it2 st λl11 o12 o13 o14 s15=>k (bp [(.tup [v5,v9,v7])] l11) o12 o13 o14 s15))))))) (λ_ _=>dV) y1)
def wt (n:Nat):OV->OV->OV->It->St->(Sj V->OV->OV->OV->SB)->Sm:=@Tf (λ_=>_) (λ_ _ _ _ _ _=>dV) (λ_ ih=>tv  ih) n
def rR:eN:=(em (fM 3 (bg (ay dV 1) (bg (ay dV 2) (bg (ay dV 3) eS)))))
def sS:CB:=(gt (cN (ae (aa dV 1) (ae (aa dV 3) (ae (aa dV 2) av)))))
def Al (n:Nat):Fs.Fn (.n (.o (.o (.o (.e 0))))) (It->St->(Sj V->Fs.Fo (.n (.o (.o (.o (.e 0))))) SB)->Sm):=λob oc od=>wt  n ob oc od
def E2:CE:=eA (iE (aa dV 17)) 4 0 [] (.n (.o (.o (.o (.e 0))))) (bw rR cA sS 200) (Al 200)
theorem AP:(cF (iE (aa dV 17)) 4 0 [] rR cA sS:CE)=E2:=cO (.n (.o (.o (.o (.e 0))))) Al (λih ob oc od=>tv  (λob oc od=>ih ob oc od) ob oc od) rfl (λ_=>rfl) (λ_=>by kernel_rfl)
def tZ (C0 C1:Nat)(ih:OV->It->St->(Sj V->OV->SB)->Sm)(ob:OV)(it:It)(st:St)(k:Sj V->OV->SB):Sm:=aY st it (k [] ob st) λy1 it2=>(@dy.rec (λ_=>Sm) (λv3=>(fD C1 st λx4=>(CX [x4,v3] st λv5 s6=>(fD C1 s6 λx7=>(CX [x7,v3] s6 λv8 s9=>(fD C0 s9 λx10=>(aQ v8 x10 s9 λv11 s12=>(ih (Si v3) it2 s12 λl13 o14 s15=>k (bp [(.tup [v3,v5,v11])] l13) o14 s15)))))))) (λ_ _=>dV) y1)
def w4 (C0 C1:Nat)(n:Nat):OV->It->St->(Sj V->OV->SB)->Sm:=@Tf (λ_=>_) (λ_ _ _ _=>dV) (λ_ ih=>tZ C0 C1 ih) n
def qT:CB:=(gt (cN (ae (aa dV 1) (ae (fc CX (ae (aa Sk 1) (ae (aa dV 1) av))) (ae (aA aQ (fc CX (ae (aa Sk 1) (ae (aa dV 1) av))) (aa Sk 0)) av)))))
def CN (n:Nat):Fs.Fn (.n (.o (.e 2))) (It->St->(Sj V->Fs.Fo (.n (.o (.e 2))) SB)->Sm):=λob C0 C1=>w4 C0 C1 n ob
def E8:CE:=eA (dH (ao (.int 1)) (aA aQ (aa Sk 3) (ao (.int 2)))) 2 0 [3,4] (.n (.o (.e 2))) (bw (em (ay dV 1)) cA qT 200) (CN 200)
theorem AO:(cF (dH (ao (.int 1)) (aA aQ (aa Sk 3) (ao (.int 2)))) 2 0 [3,4] (em (ay dV 1)) cA qT:CE)=E8:=cO (.n (.o (.e 2))) CN (λih ob C0 C1=>tZ C0 C1 (λob=>ih ob C0 C1) ob) rfl (λ_=>rfl) (λ_=>by kernel_rfl)
def sQ (ih:OV->It->St->(Sj V->OV->SB)->Sm)(ob:OV)(it:It)(st:St)(k:Sj V->OV->SB):Sm:=aY st it (k [] ob st) λy1 it2=>(@dy.rec (λ_=>Sm) (λv3=>(cZ v3 (.int 1) st λv4 s5=>(cZ v3 (.int 2) s5 λv6 s7=>(kL v4 v6 s7 λc8=>(aD c8 (ih (Si v3) it2 s7 λl9 o10 s11=>k (bp [v3] l9) o10 s11) (ih (Si v3) it2 s7 k)))))) (λ_ _=>dV) y1)
def vO (n:Nat):OV->It->St->(Sj V->OV->SB)->Sm:=@Tf (λ_=>_) (λ_ _ _ _=>dV) (λ_ ih=>sQ  ih) n
def t7:CT:=(bR kL (dw (aa dV 1) (ao (.int 1))) (dw (aa dV 1) (ao (.int 2))))
def BO (n:Nat):Fs.Fn (.n (.o (.e 0))) (It->St->(Sj V->Fs.Fo (.n (.o (.e 0))) SB)->Sm):=λob=>vO  n ob
def F1:CE:=eA (iE (aa dV 25)) 2 0 [] (.n (.o (.e 0))) (bw (em (ay dV 1)) t7 (gt (aa dV 1)) 200) (BO 200)
theorem Bq:(cF (iE (aa dV 25)) 2 0 [] (em (ay dV 1)) t7 (gt (aa dV 1)):CE)=F1:=cO (.n (.o (.e 0))) BO (λih ob=>sQ  (λob=>ih ob) ob) rfl (λ_=>rfl) (λ_=>by kernel_rfl)
def sx (ih:OV->It->St->(Sj V->OV->SB)->Sm)(ob:OV)(it:It)(st:St)(k:Sj V->OV->SB):Sm:=aY st it (k [] ob st) λy1 it2=>(@dy.rec (λ_=>Sm) (λv3=>(cZ v3 (.int 1) st λv4 s5=>(cZ v3 (.int 2) s5 λv6 s7=>(uG v4 v6 s7 λc8=>(aD c8 (ih (Si v3) it2 s7 λl9 o10 s11=>k (bp [v3] l9) o10 s11) (ih (Si v3) it2 s7 k)))))) (λ_ _=>dV) y1)
def wl (n:Nat):OV->It->St->(Sj V->OV->SB)->Sm:=@Tf (λ_=>_) (λ_ _ _ _=>dV) (λ_ ih=>sx  ih) n
def rh:CT:=(bR uG (dw (aa dV 1) (ao (.int 1))) (dw (aa dV 1) (ao (.int 2))))
def Cf (n:Nat):Fs.Fn (.n (.o (.e 0))) (It->St->(Sj V->Fs.Fo (.n (.o (.e 0))) SB)->Sm):=λob=>wl  n ob
def E3:CE:=eA (iE (aa dV 25)) 2 0 [] (.n (.o (.e 0))) (bw (em (ay dV 1)) rh (gt (aa dV 1)) 200) (Cf 200)
theorem y7:(cF (iE (aa dV 25)) 2 0 [] (em (ay dV 1)) rh (gt (aa dV 1)):CE)=E3:=cO (.n (.o (.e 0))) Cf (λih ob=>sx  (λob=>ih ob) ob) rfl (λ_=>rfl) (λ_=>by kernel_rfl)
def rk  (kk:OV->OV->OV->SB)(kr:V->OV->OV->OV->SB)(ih:OV->OV->OV->It->SB)(oL oM oN:OV)(it:It)(st:St):Sm:=aY st it (kk oL oM oN st) λy1 it2=>(@dy.rec (λ_=>Sm) (λv3=>(iC 3 v3 st λl4=>(dc l4 λv5 l6=>(dc l6 λv7 l8=>(dc l8 λv9 l10=>(fX l10 (dR 0 v5 st (H3 [v5,v7] st λv14 s15=>(xE v9 s15 λit16 s17=>(vO  200 none it16 s17 λl18 _ s19=>aD (aB (aK l18)) (St.push s19 (.list l18) λn20 s21=>(kL v14 (.ref n20) s21 λHJ=>(aD HJ (kr (.bool dV) (Si v5) (Si v7) (Si v9) s21) (dR 0 v5 s21 (H5 [v5,v7] s21 λv26 s27=>(xE v9 s27 λit28 s29=>(wl  200 none it28 s29 λl30 _ s31=>aD (aB (aK l30)) (St.push s31 (.list l30) λn32 s33=>(kL v26 (.ref n32) s33 λc34=>(aD c34 (kr (.bool dV) (Si v5) (Si v7) (Si v9) s33) (ih (Si v5) (Si v7) (Si v9) it2 s33)))) dV))))))) dV)))))))))) (λ_ _=>dV) y1)
def xm  (kk:OV->OV->OV->SB)(kr:V->OV->OV->OV->SB)(n:Nat):OV->OV->OV->It->SB:=@Tf (λ_=>_) (λ_ _ _ _ _=>dV) (λ_ ih=>rk  kk kr ih) n
def sR:eN:=(em (fM 3 (bg (ay dV 23) (bg (ay dV 24) (bg (ay dV 25) eS)))))
def tl:CS:=(aq (hW (bR kL (bz 0 H3 (aa dV 23) (ae (aa dV 24) av)) F1) (aq (dq (ao (.bool dV))) aH) aH) (aq (hW (bR kL (bz 0 H5 (aa dV 23) (ae (aa dV 24) av)) E3) (aq (dq (ao (.bool dV))) aH) aH) aH))
def BP (n:Nat)(κ:KF):Fs.Fn (.n (.v (.n (.n (.v (.v (.o (.o (.o (.o (.o (.o (.v (.v (.v (.v (.v (.v (.v (.v (.v (.v (.v (.o (.o (.o (ns 4 (.e 6)))))))))))))))))))))))))))) (It->SB):=λb e g oh oi oj ol om op s t u A B C D E F H I oL oM oN C0 C1 C2 C3 C4 C5=>xm (λoL oM oN st=>κ .nxt ⟨no::sm b::no::no::sm e::sm g::oh::oi::oj::ol::om::op::sm s::sm t::sm u::sm A::sm B::sm C::sm D::sm E::sm F::sm H::sm I::oL::oM::oN::cp 4,[C0,C1,C2,C3,C4,C5]⟩ st) (λv oL oM oN st=>κ (.ret v) ⟨no::sm b::no::no::sm e::sm g::oh::oi::oj::ol::om::op::sm s::sm t::sm u::sm A::sm B::sm C::sm D::sm E::sm F::sm H::sm I::oL::oM::oN::cp 4,[C0,C1,C2,C3,C4,C5]⟩ st) n oL oM oN
def Gq:CS:=kJ (iE (aa dV 22)) (HP (.n (.v (.n (.n (.v (.v (.o (.o (.o (.o (.o (.o (.v (.v (.v (.v (.v (.v (.v (.v (.v (.v (.v (.o (.o (.o (ns 4 (.e 6)))))))))))))))))))))))))))) (dP sR tl aH 200) (BP 200))
theorem Aa:(iT sR (iE (aa dV 22)) tl aH:CS)=Gq:=kv (.n (.v (.n (.n (.v (.v (.o (.o (.o (.o (.o (.o (.v (.v (.v (.v (.v (.v (.v (.v (.v (.v (.v (.o (.o (.o (ns 4 (.e 6)))))))))))))))))))))))))))) BP (λκ ih b e g oh oi oj ol om op s t u A B C D E F H I oL oM oN C0 C1 C2 C3 C4 C5=>rk (λoL oM oN st=>κ .nxt ⟨no::sm b::no::no::sm e::sm g::oh::oi::oj::ol::om::op::sm s::sm t::sm u::sm A::sm B::sm C::sm D::sm E::sm F::sm H::sm I::oL::oM::oN::cp 4,[C0,C1,C2,C3,C4,C5]⟩ st) (λv oL oM oN st=>κ (.ret v) ⟨no::sm b::no::no::sm e::sm g::oh::oi::oj::ol::om::op::sm s::sm t::sm u::sm A::sm B::sm C::sm D::sm E::sm F::sm H::sm I::oL::oM::oN::cp 4,[C0,C1,C2,C3,C4,C5]⟩ st) (λoL oM oN=>ih b e g oh oi oj ol om op s t u A B C D E F H I oL oM oN C0 C1 C2 C3 C4 C5) oL oM oN) (λ_=>rfl) (λ_ _=>rfl) (λ_ _=>by kernel_rfl)
def qW (ih:OV->OV->OV->It->St->(Sj V->OV->OV->OV->SB)->Sm)(ob oc od:OV)(it:It)(st:St)(k:Sj V->OV->OV->OV->SB):Sm:=aY st it (k [] ob oc od st) λy1 it2=>(@dy.rec (λ_=>Sm) (λv3=>(iC 3 v3 st λl4=>(dc l4 λv5 l6=>(dc l6 λv7 l8=>(dc l8 λv9 l10=>(fX l10 (dR 0 v5 st (H4 [v5,v7] st λv14 s15=>(HQ v14 v9 s15 λyV=>(aD yV (ih (Si v5) (Si v7) (Si v9) it2 s15 λl17 o18 o19 o20 s21=>k (bp [v9] l17) o18 o19 o20 s21) (ih (Si v5) (Si v7) (Si v9) it2 s15 k))))))))))) (λ_ _=>dV) y1)
def wV (n:Nat):OV->OV->OV->It->St->(Sj V->OV->OV->OV->SB)->Sm:=@Tf (λ_=>_) (λ_ _ _ _ _ _=>dV) (λ_ ih=>qW  ih) n
def ur:eN:=(em (fM 3 (bg (ay dV 1) (bg (ay dV 2) (bg (ay dV 3) eS)))))
def uA:CT:=(bR HQ (bz 0 H4 (aa dV 1) (ae (aa dV 2) av)) (aa dV 3))
def AQ (n:Nat):Fs.Fn (.n (.o (.o (.o (.e 0))))) (It->St->(Sj V->Fs.Fo (.n (.o (.o (.o (.e 0))))) SB)->Sm):=λob oc od=>wV  n ob oc od
def Gf:CE:=eA (iE (aa dV 29)) 4 0 [] (.n (.o (.o (.o (.e 0))))) (bw ur uA (gt (aa dV 3)) 200) (AQ 200)
theorem B5:(cF (iE (aa dV 29)) 4 0 [] ur uA (gt (aa dV 3)):CE)=Gf:=cO (.n (.o (.o (.o (.e 0))))) AQ (λih ob oc od=>qW  (λob oc od=>ih ob oc od) ob oc od) rfl (λ_=>rfl) (λ_=>by kernel_rfl)
def Ob (pS pR pN:Nat):CS:=(Fe pS pR pN)
def J7:CS:=(aV (mZ vG (aa dV 9) (ae (aa dV 1) av)) (ay dV 12))
def NA:CS:=(aV (aA ef (aA bJ (aA cf (dw (aA aQ (aa dV 9) (d0 (ae (ao (.int 0)) av))) (aA aQ (aa dV 12) (ao (.int 1)))) (dw (aa dV 9) (aA cf (aa dV 12) (ao (.int 1))))) (aa Sk 1)) (aa Sk 0)) (ay Sk 3))
def NJ:CS:=(aV (aa dV 5) (fM 2 (bg (fM 3 (bg (ay dV 13) (bg (ay dV 14) (bg (ay Sk 4) eS)))) (bg (fM 3 (bg (ay dV 15) (bg (ay dV 16) (bg (ay Sk 5) eS)))) eS))))
def N8:CS:=(hW (bR kL (aA aQ (bz 0 H1 (aa dV 13) av) (ao (.int 1))) (aa Sk 3)) (aq (dq (ao (.bool dV))) aH) aH)
def Mf:CS:=(aV FC (ay dV 17))
def MZ:CS:=(aV E2 (ay dV 18))
def NW:CS:=(aV E8 (ay dV 19))
def MN:CS:=(aV (iD 0 I0 (ae (aA bJ (ao (.str [9])) (aa dV 1)) av)) (ay dV 20))
def M7:CS:=(aV (iD 0 I0 (ae (aA bJ (ao (.str [9])) (aA cf (aa dV 1) (ao (.int 1)))) av)) (ay dV 21))
def Hw:CS:=(aV (d0 (ae (cN (ae (aa dV 13) (ae (aa dV 15) (ae (aa dV 17) av)))) (ae (cN (ae (aa dV 15) (ae (aa dV 13) (ae (aa dV 18) av)))) (ae (cN (ae (aa dV 20) (ae (aa dV 21) (ae (d0 (ae (cN (ae (ao (.int 1)) (ae (aa dV 1) (ae (aA cf (aa dV 1) (ao (.int 1))) av)))) av)) av)))) (ae (cN (ae (aa dV 13) (ae (iD 0 I0 (ae (aA aQ (aa dV 14) (aA bJ (ao (.str [32])) (aa Sk 3))) av)) (ae (aa dV 19) av)))) av))))) (ay dV 22))
def IE:CS:=Gq
def IR:CS:=(aV (iD 0 I0 (ae (aA aQ (aa dV 14) (ao (.str [32]))) av)) (ay dV 26))
def Hk:CS:=(aV (iD 0 I0 (ae (aA aQ (aA bJ (ao (.str [32])) (aA cf (aa Sk 0) (aa dV 1))) (aA bJ (ao (.str [9])) (aa dV 1))) av)) (ay dV 27))
def Hi:CS:=(aV (iD 0 I0 (ae (aA aQ (aA bJ (ao (.str [9])) (aa dV 1)) (ao (.str [32]))) av)) (ay dV 28))
def Hz:CS:=(aV (d0 (ae (cN (ae (aa dV 13) (ae (iD 0 I0 (ae (aA aQ (aa dV 16) (ao (.str [32]))) av)) (ae (ao (.bool Sk)) av)))) (ae (cN (ae (aa dV 15) (ae (aa dV 26) (ae (ao (.bool dV)) av)))) (ae (cN (ae (aa dV 27) (ae (aa dV 26) (ae (qV ix (aa Sk 3) (aA aQ (aA cf (aa Sk 0) (aa dV 1)) (ao (.int 1)))) av)))) (ae (cN (ae (aa dV 13) (ae (iD 0 I0 (ae (aA aQ (ao (.str [32])) (aa dV 14)) av)) (ae (ao (.bool dV)) av)))) (ae (cN (ae (aa dV 13) (ae (aa dV 15) (ae (ao (.bool dV)) av)))) (ae (cN (ae (aa dV 20) (ae (aa dV 20) (ae (ao (.bool dV)) av)))) (ae (cN (ae (aa dV 20) (ae (aa dV 28) (ae (ao (.bool Sk)) av)))) (ae (cN (ae (aa dV 28) (ae (aa dV 26) (ae (ao (.bool dV)) av)))) (ae (cN (ae (aa dV 20) (ae (iD 0 I0 (ae (aA aQ (aA bJ (ao (.str [9])) (aA cf (aa dV 1) (ao (.int 1)))) (aA bJ (ao (.str [32])) (aa Sk 0))) av)) (ae (ao (.bool dV)) av)))) av)))))))))) (ay dV 29))
def Hd:CS:=(dq (qV ix Gf (d0 av)))
noncomputable def Ic:CS:=aH
def Iq:CS:=aq Hd Ic
def HF:CS:=aq Hz Iq
def HB:CS:=aq Hi HF
def GZ:CS:=aq Hk HB
def Id:CS:=aq IR GZ
def IQ:CS:=aq IE Id
def II:CS:=aq Hw IQ
def Jg:CS:=aq M7 II
def Jc:CS:=aq MN Jg
def KR:CS:=aq NW Jc
def My:CS:=aq MZ KR
def Jl:CS:=aq Mf My
def MF:CS:=aq N8 Jl
def Mu:CS:=aq NJ MF
def KJ:CS:=aq NA Mu
def LF:CS:=aq J7 KJ
def ET (pS pR pN:Nat):CS:=aq (Ob pS pR pN) LF
noncomputable def IB  (st:St)(k:KV):=k .none st
def IG (T:V)(st:St)(kk:SB)(k:KV):=(xE T st λit1 s2=>(wV  200 none none none it1 s2 λl3 _ _ _ s4=>aD (aB (aK l3)) (St.push s4 (.list l3) λn5 s6=>(St.push s6 (.list []) λn7 s8=>(ix (.ref n5) (.ref n7) s8 λc9=>(k (.bool c9) s8)))) dV))
def HD (T:V)(st:St)(k:KV):=IG T st (λ st=>IB  st k) k
def ID (b t u A B F P Q S:V)(C0 C3:Nat)(st:St)(kk:V->SB)(k:KV):=(aQ B (.str [32]) st λv1 s2=>(St.push s2 .hid λd3 s4=>St.push s4 (fP 0 d3) λn5 s6=>I0 [(.ref n5),v1] s6 λv7 s8=>rH v7 .none s8 λb9=>aD b9 (fD C3 s8 λx10=>(fD C0 s8 λx11=>(cf x11 b s8 λv12 s13=>(aQ v12 (.int 1) s13 λv14 s15=>(ix x10 v14 s15 λyV=>(aQ (.str [32]) u s15 λv17 s18=>(St.push s18 .hid λd19 s20=>St.push s20 (fP 0 d19) λn21 s22=>I0 [(.ref n21),v17] s22 λv23 s24=>rH v23 .none s24 λb25=>aD b25 (cf b (.int 1) s24 λv26 s27=>(bJ (.str [9]) v26 s27 λv28 s29=>(fD C0 s29 λx30=>(bJ (.str [32]) x30 s29 λv31 s32=>(aQ v28 v31 s32 λv33 s34=>(St.push s34 .hid λd35 s36=>St.push s36 (fP 0 d35) λn37 s38=>I0 [(.ref n37),v33] s38 λv39 s40=>rH v39 .none s40 λb41=>aD b41 (St.push s40 (.list [(.tup [t,(.ref n5),(.bool Sk)]),(.tup [A,P,(.bool dV)]),(.tup [Q,P,(.bool yV)]),(.tup [t,(.ref n21),(.bool dV)]),(.tup [t,A,(.bool dV)]),(.tup [F,F,(.bool dV)]),(.tup [F,S,(.bool Sk)]),(.tup [S,P,(.bool dV)]),(.tup [F,(.ref n37),(.bool dV)])]) λn42 s43=>((λ(x44:V)=>(kk x44 s43)) (.ref n42))) dV)))))) dV))))))) dV))
def H7 (b t u A B F P Q S:V)(C0 C3:Nat)(st:St)(k:KV):=ID b t u A B F P Q S C0 C3 st (λT st=>HD T st k) k
def HL (b:V)(st:St)(kk:V->SB)(k:KV):=(bJ (.str [9]) b st λv1 s2=>(aQ v1 (.str [32]) s2 λv3 s4=>(St.push s4 .hid λd5 s6=>St.push s6 (fP 0 d5) λn7 s8=>I0 [(.ref n7),v3] s8 λv9 s10=>rH v9 .none s10 λb11=>aD b11 ((λ(x12:V)=>(kk x12 s10)) (.ref n7)) dV)))
def HC (b t u A B F P Q:V)(C0 C3:Nat)(st:St)(k:KV):=HL b st (λS st=>H7 b t u A B F P Q S C0 C3 st k) k
def Io (b:V)(C0:Nat)(st:St)(kk:V->SB)(k:KV):=(fD C0 st λx1=>(cf x1 b st λv2 s3=>(bJ (.str [32]) v2 s3 λv4 s5=>(bJ (.str [9]) b s5 λv6 s7=>(aQ v4 v6 s7 λv8 s9=>(St.push s9 .hid λd10 s11=>St.push s11 (fP 0 d10) λn12 s13=>I0 [(.ref n12),v8] s13 λv14 s15=>rH v14 .none s15 λb16=>aD b16 ((λ(x17:V)=>(kk x17 s15)) (.ref n12)) dV))))))
def GG (b t u A B F P:V)(C0 C3:Nat)(st:St)(k:KV):=Io b C0 st (λQ st=>HC b t u A B F P Q C0 C3 st k) k
def HU (u:V)(st:St)(kk:V->SB)(k:KV):=(aQ u (.str [32]) st λv1 s2=>(St.push s2 .hid λd3 s4=>St.push s4 (fP 0 d3) λn5 s6=>I0 [(.ref n5),v1] s6 λv7 s8=>rH v7 .none s8 λb9=>aD b9 ((λ(x10:V)=>(kk x10 s8)) (.ref n5)) dV))
def Ih (b t u A B F:V)(C0 C3:Nat)(st:St)(k:KV):=HU u st (λP st=>GG b t u A B F P C0 C3 st k) k
def G8 (I:V)(st:St)(kk:OV->OV->OV->SB)(k:KV):=(xE I st λit10 s11=>(xm  (λo2 o3 o4 s1=>(kk o2 o3 o4 s1)) (λv5 o7 o8 o9 s6=>(k v5 s6)) 200 none none none it10 s11))
def HG (b t u A B F I:V)(C0 C3:Nat)(st:St)(k:KV):=G8 I st (λoL oM oN st=>Ih b t u A B F C0 C3 st k) k
def Hq (b t u A C D E F H:V)(C3:Nat)(st:St)(kk:V->SB)(k:KV):=(cf b (.int 1) st λv1 s2=>(St.push s2 (.list [(.tup [(.int 1),b,v1])]) λn3 s4=>(fD C3 s4 λx5=>(bJ (.str [32]) x5 s4 λv6 s7=>(aQ u v6 s7 λv8 s9=>(St.push s9 .hid λd10 s11=>St.push s11 (fP 0 d10) λn12 s13=>I0 [(.ref n12),v8] s13 λv14 s15=>rH v14 .none s15 λb16=>aD b16 (St.push s15 (.list [(.tup [t,A,C]),(.tup [A,t,D]),(.tup [F,H,(.ref n3)]),(.tup [t,(.ref n12),E])]) λn17 s18=>((λ(x19:V)=>(kk x19 s18)) (.ref n17))) dV))))))
def IO (b t u A B C D E F H:V)(C0 C3:Nat)(st:St)(k:KV):=Hq b t u A C D E F H C3 st (λI st=>HG b t u A B F I C0 C3 st k) k
def Lx (b:V)(st:St)(kk:V->SB)(k:KV):=(cf b (.int 1) st λv1 s2=>(bJ (.str [9]) v1 s2 λv3 s4=>(St.push s4 .hid λd5 s6=>St.push s6 (fP 0 d5) λn7 s8=>I0 [(.ref n7),v3] s8 λv9 s10=>rH v9 .none s10 λb11=>aD b11 ((λ(x12:V)=>(kk x12 s10)) (.ref n7)) dV)))
def Ka (b t u A B C D E F:V)(C0 C3:Nat)(st:St)(k:KV):=Lx b st (λH st=>IO b t u A B C D E F H C0 C3 st k) k
def MB (b:V)(st:St)(kk:V->SB)(k:KV):=(bJ (.str [9]) b st λv1 s2=>(St.push s2 .hid λd3 s4=>St.push s4 (fP 0 d3) λn5 s6=>I0 [(.ref n5),v1] s6 λv7 s8=>rH v7 .none s8 λb9=>aD b9 ((λ(x10:V)=>(kk x10 s8)) (.ref n5)) dV))
def ME (b t u A B C D E:V)(C0 C3:Nat)(st:St)(k:KV):=MB b st (λF st=>Ka b t u A B C D E F C0 C3 st k) k
def Kn  (C3 C4:Nat)(st:St)(kk:V->SB)(k:KV):=(fD C3 st λx3=>(aQ x3 (.int 2) st λv4 s5=>(aG (.int 1) λi6=>aG v4 λi7=>eC i6 i7 1 s5 λit1 s2=>(w4 C3 C4 200 none it1 s2 λl8 _ s9=>aD (aB (aK l8)) (St.push s9 (.list l8) λn10 s11=>((λ(x12:V)=>(kk x12 s11)) (.ref n10))) dV))))
def MX (b t u A B C D:V)(C0 C3 C4:Nat)(st:St)(k:KV):=Kn C3 C4 st (λE st=>ME b t u A B C D E C0 C3 st k) k
def KL (C:V)(st:St)(kk:V->SB)(k:KV):=(xE C st λit1 s2=>(wt  200 none none none it1 s2 λl3 _ _ _ s4=>aD (aB (aK l3)) (St.push s4 (.list l3) λn5 s6=>((λ(x7:V)=>(kk x7 s6)) (.ref n5))) dV))
def JV (b t u A B C:V)(C0 C3 C4:Nat)(st:St)(k:KV):=KL C st (λD st=>MX b t u A B C D C0 C3 C4 st k) k
def Nr  (C3 C4 C5:Nat)(st:St)(kk:V->SB)(k:KV):=(fD C3 st λx3=>(aQ x3 (.int 1) st λv4 s5=>(aG (.int 1) λi6=>aG v4 λi7=>eC i6 i7 1 s5 λit1 s2=>(xf C5 C4 200 none it1 s2 λl8 _ s9=>aD (aB (aK l8)) (St.push s9 (.list l8) λn10 s11=>((λ(x12:V)=>(kk x12 s11)) (.ref n10))) dV))))
def N6 (b t u A B:V)(C0 C3 C4 C5:Nat)(st:St)(k:KV):=Nr C3 C4 C5 st (λC st=>JV b t u A B C C0 C3 C4 st k) k
def Mo (t:V)(C3:Nat)(st:St)(kk:SB)(k:KV):=(dR 0 t st (H1 [t] st λv4 s5=>(aQ v4 (.int 1) s5 λv6 s7=>(fD C3 s7 λx8=>(kL v6 x8 s7 λc9=>(aD c9 (k (.bool dV) s7) (kk  s7)))))))
def NF (b t u A B:V)(C0 C3 C4 C5:Nat)(st:St)(k:KV):=Mo t C3 st (λ st=>N6 b t u A B C0 C3 C4 C5 st k) k
def Mq (g:V)(C4 C5:Nat)(st:St)(kk:V->V->V->V->SB)(k:KV):=(iC 2 g st λl1=>(dc l1 λv2 l3=>(iC 3 v2 st λl4=>(dc l4 λv5 l6=>(dc l6 λv7 l8=>(dc l8 λv9 l10=>(kO C4 v9 st λs11=>(fX l10 (dc l3 λv12 l13=>(iC 3 v12 s11 λl14=>(dc l14 λv15 l16=>(dc l16 λv17 l18=>(dc l18 λv19 l20=>(kO C5 v19 s11 λs21=>(fX l20 (fX l13 (kk v5 v7 v15 v17 s21)))))))))))))))))
def KU (b g:V)(C0 C3 C4 C5:Nat)(st:St)(k:KV):=Mq g C4 C5 st (λt u A B st=>NF b t u A B C0 C3 C4 C5 st k) k
def JL (ol:OV)(s:V)(C0 C1 C3:Nat)(st:St)(kk:SB)(k:KV):=(cU ol λx1=>(St.push st (.list [(.int 0)]) λn2 s3=>(aQ x1 (.ref n2) s3 λv4 s5=>(aQ s (.int 1) s5 λv6 s7=>(cZ v4 v6 s7 λv8 s9=>(cU ol λx10=>(cf s (.int 1) s9 λv11 s12=>(cZ x10 v11 s12 λv13 s14=>(cf v8 v13 s14 λv15 s16=>(fD C1 s16 λx17=>(bJ v15 x17 s16 λv18 s19=>(fD C0 s19 λx20=>(ef v18 x20 s19 λv21 s22=>(kO C3 v21 s22 λs23=>(kk  s23)))))))))))))))
def LV (b g:V)(ol:OV)(s:V)(C0 C1 C3 C4 C5:Nat)(st:St)(k:KV):=JL ol s C0 C1 C3 st (λ st=>KU b g C0 C3 C4 C5 st k) k
def Mb (b:V)(ol:OV)(st:St)(kk:V->SB)(k:KV):=(cU ol λx1=>(bB x1 λn2=>St.get st n2 λo3=>gQ o3 λ_=>(vG x1 [b] st λv4 s5=>(kk v4 s5))))
def Lf (b g:V)(ol:OV)(C0 C1 C3 C4 C5:Nat)(st:St)(k:KV):=Mb b ol st (λs st=>LV b g ol s C0 C1 C3 C4 C5 st k) k
def K7 (pS pR pN:Nat)(b e g:V)(C0 C1 C2 C3 C4 C5:Nat)(st:St)(kk:OV->OV->OV->OV->OV->OV->SB)(k:KV):=(aQ b (.int 1) st λv18 s19=>(xE (.tup [b,v18]) s19 λit16 s17=>((wZ pS pR pN) b e g C0 C1 C2 C3 C4 C5 (λo2 o3 o4 o5 o6 o7 s1=>(kk o2 o3 o4 o5 o6 o7 s1)) (λv8 o10 o11 o12 o13 o14 o15 s9=>(k v8 s9)) 200 none none none none none none it16 s17)))
def zx (pS pR pN:Nat)(b e g:V)(C0 C1 C2 C3 C4 C5:Nat)(st:St)(k:KV):=(K7 pS pR pN) b e g C0 C1 C2 C3 C4 C5 st (λoh oi oj ol om op st=>Lf b g ol C0 C1 C3 C4 C5 st k) k
theorem Dx:(ET pS pR pN) ⟨no::sm b::no::no::sm e::sm g::cp 24,[C0,C1,C2,C3,C4,C5]⟩ st (K0 k)=(zx pS pR pN) b e g C0 C1 C2 C3 C4 C5 st k:=by kernel_rfl
end
theorem Es {ps:Sj Int} (I:UK vs ps)(r:VRs σ h l vs):l=ps.map V.int:=by
 induction I generalizing l with
 | nil=>cases r;rfl
 | cons i t q ih=>
  cases r with
  | cons a b=>
   cases a
   rw[ih b];rfl
theorem Aq {s:Sw} {ps:Sj Int}(hfix:(0,a,cB vs n)∈C.fix)(hI:UK vs ps)(I:Inv C σ st s):st.look 0=Si (.list (ps.map V.int)):=by
 obtain⟨_,h1,h2,l,h3⟩:=I.fix 0 a _ hfix
 obtain⟨us,m,g,r⟩:=I.list h3 h1
 rw[h2] at g
 have:vs=us:=by
  have:=Si.inj g
  injection this with _ _ h _
  injection h with h _
  injection h
 subst this
 rw[h3,Es hI r]
theorem Ek {e:Expr} {ps:Sj Int}{pS pR pN:Nat}(hfix:(0,a,cB vs n)∈C.fix)(hI:UK vs ps)(P:xn pS pR pN ps)(h:SE C fx d e (fc FZ (ae (uS (aa dV 4) (ao .none) (aa dV 6)) (ae (aa Sk 0) av)))):SE C fx d e (w8 pS pR pN):=
 λA env σ fm st s k R E I F q=>h A env σ fm st s k R E I F (HT P (Aq hfix hI I) q)
noncomputable section
def H8:CS:=aq FL (aq FH (aq E9 (aq Gp (aq EV (aq FQ aH)))))
end
namespace BaseT
section
variable {C:Cfg}{P:Params}
theorem o27 (W:BaseT C P):bY C 304 (aZ (KH P) 304) (aI (KH P) 304) [(dV,0)] ["script"]:=W.fno (.cons rfl (λh=>nomatch h) .nil) (λus hu s _=>fw (λ_=>by kernel_rfl) us hu)
theorem b27a (W:BaseT C P):SL C (aR (aZ (KH P) 304).scope) 58 ((aI (KH P) 304).take 6) H8:=by
 conv=>arg 2;arg 1;whnf
 conv=>arg 4;whnf
 refine dl (λhok0=>?_) (by decide +kernel)
 refine ad (by exact(ua (W.cl W.g__law_drawn W.k21 W.f21 (uc uv ag)) (cV (ut ug (ut ug (ut ug (ut ug (ut ug cj)))))))) ?_
 refine ad (by exact(W.ss_gz (aj aF uv am) uv hok0 (bx (by kernel_rfl)) (bx (by kernel_rfl)) (bx (by kernel_rfl)) (bc (λ_ _=>rfl) λ_=>rfl) (bc (λ_ _=>rfl) λ_=>rfl) (bc (λ_ _=>rfl) λ_=>rfl) (by kernel_rfl) (by kernel_rfl) (bx (by kernel_rfl)) (bx (by kernel_rfl)) rfl (fY (bx (by kernel_rfl)) (by kernel_rfl) (by kernel_rfl)))) ?_
 refine ad (by exact(cS (um eK uv (aj bq (ul (uc uv ag)) (uK (um Gx am uv) (aj aF uv am) uv))) (ad (bF cu) an) an)) ?_
 refine ad (by exact(ua (W.cl W.g__law_columns W.k22 W.f22 (uc (qA W.ok W.J W.JS uv jn (ge uv)) (uc uv (uc uv ag)))) ug)) ?_
 refine ad (by exact(cS (um eK uv (cI (by kernel_rfl) rfl (λ_ _=>rfl) (we W.ok hok0 (bx (by kernel_rfl)) W.g_range (bc (λ_ _=>rfl) λ_=>rfl) (uc (aj aF uv am) ag)) (λhok1=>(.v ug)) (λhok1=>df) (λhok1=>(aj dv (aj aF uv (aj bq uv uv)) uv)))) (ad (bF cu) an) an)) ?_
 refine ad (by exact(ua (ul ag) ug)) ?_
 exact an
theorem b28 (W:BaseT C P) {ps:Sj Int}{pS pR pN:Nat}(hfix:(0,a,cB vs n)∈C.fix)(hIv:UK vs ps)(hP:xn pS pR pN ps):SL C (aR (aZ (KH P) 304).scope) 58 ((aI (KH P) 304).drop 6) (ET pS pR pN):=by
 conv=>arg 2;arg 1;whnf
 conv=>arg 4;whnf
 refine dl (λhok0=>?_) (by decide +kernel)
 refine ad (by exact(fK (zR pS pR pN) (uf (.v ug) (iF (up (uc uv (uc (aj aF uv am) ag)))) (ad (ua (Ek hfix hIv hP (W.cl W.g__law_lead W.k23 W.f23 (uc (qA W.ok W.J W.JS uv jn (ge uv)) (uc uv ag)))) (cV (ut ug (ut ug cj)))) (ad (ua (W.cl W.g__law_told W.k24 W.f24 (uc uv (uc uv (uc uv ag)))) (cV (ut ug (ut ug cj)))) (ad (ua (W.nw W.g_Whitespace W.new0 W.i0 (uc (aj aF uv us) ag)) ug) (ad (cS (KE (um eK uv uv) (um eK (W.ta uv) (W.cl W.g__law_norm W.k25 W.f25 (uc uv ag)))) (ad (bF cu) an) an) (ad (cS (um eK (up (uc (W.ta uv) (uc (W.ta uv) (uc (W.ta uv) ag)))) (up (uc uv (uc uv (uc (jN dZ rfl uv uv) ag))))) (ad (bF cu) an) an) (ad (ux (gX W.ok W.J (fq λ_=>rfl) UD Vh W.findAppend dN (iV (d:=0) W.ok W.J) (Sp rfl) (bc (λ_ _=>rfl) λ_=>rfl) uv (uc (up (uc uv (uc uv (uc uv ag)))) ag))) an)))))) an))) ?_
 refine ad (by exact(ua (gX W.ok W.J (fq λ_=>rfl) YE PySem.F.type_list_index W.findIndex yE (B0 (d:=0)) (Sp rfl) (bc (λ_ _=>rfl) λ_=>rfl) uv (uc uv ag)) ug)) ?_
 refine ad (by exact(ua (aj dv (aj bq (aj bV (W.ts (aj aF uv (ul (uc am ag))) (aj aF uv am)) (W.ts uv (aj bV uv am))) uv) uv) ug)) ?_
 refine ad (by exact(ua uv (cV (ut (cV (ut ug (ut ug (ut ug cj)))) (ut (cV (ut ug (ut ug (ut ug cj)))) cj))))) ?_
 refine ad (by exact(cS (um eK (aj aF (W.mt W.m1 W.f1 uv ag) am) uv) (ad (bF cu) an) an)) ?_
 refine ad (by exact(fK (SU (λe=>aV e _) Ae) (g7 (by kernel_rfl) rfl (λ_ _=>rfl) (et W.ok hok0 (bx (by kernel_rfl)) W.g_range (bc (λ_ _=>rfl) λ_=>rfl) (uc am (uc (aj aF uv am) ag))) (λhok1=>(.v ug)) (λhok1=>df) (λhok1=>(up (uc uv (uc (W.cl W.g__law_column W.k26 W.f26 (uc uv (uc uv ag))) (uc (W.cl W.g__law_column W.k26 W.f26 (uc uv (uc uv ag))) ag))))) hok0 rfl (fY (bx (by kernel_rfl)) (by kernel_rfl) (by kernel_rfl))))) ?_
 refine ad (by exact(fK (SU (λe=>aV e _) AP) (g7 (by kernel_rfl) rfl (λ_ _=>rfl) (iF uv) (λhok1=>(.v (cV (ut ug (ut ug (ut ug cj)))))) (λhok1=>df) (λhok1=>(up (uc uv (uc uv (uc uv ag))))) hok0 rfl (fY (bx (by kernel_rfl)) (by kernel_rfl) (by kernel_rfl))))) ?_
 refine ad (by exact(fK (SU (λe=>aV e _) AO) (g7 (by kernel_rfl) rfl (λ_ _=>rfl) (et W.ok hok0 (bx (by kernel_rfl)) W.g_range (bc (λ_ _=>rfl) λ_=>rfl) (uc am (uc (aj aF uv am) ag))) (λhok1=>(.v ug)) (λhok1=>df) (λhok1=>(up (uc uv (uc (W.cl W.g__law_column W.k26 W.f26 (uc uv (uc uv ag))) (uc (aj aF (W.cl W.g__law_column W.k26 W.f26 (uc uv (uc uv ag))) uv) ag))))) hok0 rfl (fY (bx (by kernel_rfl)) (by kernel_rfl) (by kernel_rfl))))) ?_
 refine ad (by exact(ua (W.nw W.g_Whitespace W.new0 W.i0 (uc (aj bq us uv) ag)) ug)) ?_
 refine ad (by exact(ua (W.nw W.g_Whitespace W.new0 W.i0 (uc (aj bq us (aj bV uv am)) ag)) ug)) ?_
 refine ad (by exact(ua (ul (uc (up (uc uv (uc uv (uc uv ag)))) (uc (up (uc uv (uc uv (uc uv ag)))) (uc (up (uc uv (uc uv (uc (ul (uc (up (uc am (uc uv (uc (aj bV uv am) ag)))) ag)) ag)))) (uc (up (uc uv (uc (W.nw W.g_Whitespace W.new0 W.i0 (uc (aj aF uv (aj bq us uv)) ag)) (uc uv ag)))) ag))))) ug)) ?_
 refine ad (by exact(fK Aa (uf (.v (cV (ut ug (ut ug (ut ug cj))))) (iF uv) (ad (cS (um eK (W.mt W.m3 W.f3 uv (uc uv ag)) (hU Bq (cI (by kernel_rfl) rfl (λ_ _=>rfl) (iF uv) (λhok1=>(.v ug)) (λhok1=>(gG (um eK (W.ts uv am) (W.ts uv am)))) (λhok1=>uv)))) (ad (bF cu) an) an) (ad (cS (um eK (W.mt W.m5 W.f5 uv (uc uv ag)) (hU y7 (cI (by kernel_rfl) rfl (λ_ _=>rfl) (iF uv) (λhok1=>(.v ug)) (λhok1=>(gG (um j0 (W.ts uv am) (W.ts uv am)))) (λhok1=>uv)))) (ad (bF cu) an) an) an)) an))) ?_
 refine ad (by exact(ua (W.nw W.g_Whitespace W.new0 W.i0 (uc (aj aF uv us) ag)) ug)) ?_
 refine ad (by exact(ua (W.nw W.g_Whitespace W.new0 W.i0 (uc (aj aF (aj bq us (aj bV uv uv)) (aj bq us uv)) ag)) ug)) ?_
 refine ad (by exact(ua (W.nw W.g_Whitespace W.new0 W.i0 (uc (aj aF (aj bq us uv) us) ag)) ug)) ?_
 refine ad (by exact(ua (ul (uc (up (uc uv (uc (W.nw W.g_Whitespace W.new0 W.i0 (uc (aj aF uv us) ag)) (uc cu ag)))) (uc (up (uc uv (uc uv (uc cu ag)))) (uc (up (uc uv (uc uv (uc (jN dZ rfl uv (aj aF (aj bV uv uv) am)) ag)))) (uc (up (uc uv (uc (W.nw W.g_Whitespace W.new0 W.i0 (uc (aj aF us uv) ag)) (uc cu ag)))) (uc (up (uc uv (uc uv (uc cu ag)))) (uc (up (uc uv (uc uv (uc cu ag)))) (uc (up (uc uv (uc uv (uc cu ag)))) (uc (up (uc uv (uc uv (uc cu ag)))) (uc (up (uc uv (uc (W.nw W.g_Whitespace W.new0 W.i0 (uc (aj aF (aj bq us (aj bV uv am)) (aj bq us uv)) ag)) (uc cu ag)))) ag)))))))))) ug)) ?_
 refine ad (by exact(bF (jN dZ rfl (hU B5 (cI (by kernel_rfl) rfl (λ_ _=>rfl) (iF uv) (λhok1=>(.v (cV (ut ug (ut ug (ut ug cj)))))) (λhok1=>(gG (um Da (W.mt W.m4 W.f4 uv (uc uv ag)) uv))) (λhok1=>uv))) (ul ag)))) ?_
 exact an
end
end BaseT
noncomputable def kU (xs:Sj Int):St:=⟨4,.node (.list (xs.map V.int)) (.node .hid (.node .hid .nil .nil) .nil) (.node .hid .nil .nil)⟩
noncomputable def isTrue1 (v:V):Sm:=match v with | .bool b=>b | _=>dV
noncomputable def Dy (K:Frag):Sm:=K.all λp=>match p.2.cls with
 | .type "list"=>dV
 | _=>Sk
theorem wp (xs:Sj Int):(kU xs).Fu:=.node (m:=3) (.node (m:=1) (.node (m:=0) .nil .nil) .nil) (.node (m:=0) .nil .nil)
theorem nP (h:(kU xs).look i=Si o):(i=0/\o=.list (xs.map V.int))\/((i=1\/i=2\/i=3)/\o=.hid):=match i,h,St.lt (wp xs) h with
 | 0,h,_=>.inl ⟨rfl,(Si.inj h).symm⟩
 | 1,h,_=>.inr ⟨.inl rfl,(Si.inj h).symm⟩
 | 2,h,_=>.inr ⟨.inr (.inl rfl),(Si.inj h).symm⟩
 | 3,h,_=>.inr ⟨.inr (.inr rfl),(Si.inj h).symm⟩
 | _+4,_,q=>Tc q (Uo.mpr (TQ 4 _))
section
variable {prog:Program}{w:World}{p:Program}{loose:List Str}{mean:ExcName->Option Value}{mg mb:Str->Option Value}{aaV:Shared}{fa l:Addr}{vs:List Value}{xs:List Int}
noncomputable abbrev iW (l:Sx):Sj Sx:=[l,206,213,281]
noncomputable def gF (prog:Program)(w:World)(p:Program)(loose:Sj Str)(mg mb:Str->SV Sr)(aaV:Sw)(l:Sx)(vs:Sj Sr):Cfg:=
 { prog,w,K:=KH w.params,aa8:=aaK aaV.heap (iW l),p,loose,mg,mb,tabs:=[gN,gM,eF],fix:=[(0,l,cB vs 0)] }
theorem BC (hfile:∀cda∈[180,203,240],∃oc vs file tf,(KH w.params).lookup cda=Si oc/\oc.data=.fields vs/\vs[2]? = Si (.str file tf)/\((prog.main.file:Str) == file)=Sk)(hsup:(prog.main.scope.names.lookup ("super":Str)).isSome=dV)
  (hnt:noTabs (KH w.params)=Sk) (hnl:Dy (KH w.params)=Sk) (T:Top p loose mean mg mb aaV.heap) (X:(KH w.params).In aaV.heap) (hT:∀P∈([206,213,281]:Sj Sx),aaV.heap.get? P=Si (aaC #[])) (hl:aaV.heap.get? l=Si (cB vs 0)) :
  BaseT (gF prog w p loose mg mb aaV l vs) w.params/\(∀b o,aaV.heap.get? b=Si o->(∀q,o.data≠.fields q)->(∀q n,o.data≠.seq q n)->(aaK aaV.heap (iW l)).get? b=Si o):=by
 have out:∀b o,aaV.heap.get? b=Si o->o≠aaC #[]->o≠cB vs 0->(aaK aaV.heap (iW l)).get? b=Si o:=λb o e n1 n2=>hideAll_get _ e λm=>by
  rcases SD.mp m with rfl | m
  ·rw[hl] at e;exact n2 (Si.inj e).symm
  ·rw[hT b m] at e;exact n1 (Si.inj e).symm
 have out':∀b o,aaV.heap.get? b=Si o->(∀q,o.data≠.fields q)->(∀q n,o.data≠.seq q n)->(aaK aaV.heap (iW l)).get? b=Si o:=λb o e n1 n2=>out b o e (λq=>n1 #[] (by rw[q])) λq=>n2 vs.toArray 0 (by rw[q])
 have ns:∀{a:Sx} {mm:Str->SV Sr},aaV.heap.Ns a mm->(aaK aaV.heap (iW l)).Ns a mm:=λ⟨o,es,ep,e,hd,r⟩=>⟨o,es,ep,out' _ o e (λq z=>by rw[hd] at z;cases z) (λq n z=>by rw[hd] at z;cases z),hd,r⟩
 refine⟨⟨⟨rfl,⟨λa o e=>out a o (X a o e) (λq=>?_) λq=>?_,⟨ns T.g,ns T.b,let ⟨mc,a,r⟩:=T.nolimit;⟨mc,ns a,r⟩,T.builtins,T.free⟩⟩,⟨?_⟩,hfile,hsup⟩,rfl⟩,out'⟩
 ·have h2:=Te.mp hnt (a,o) (mem_of_lookupK e)
  subst q
  exact Tc (show dV=Sk from h2) VD
 ·have h2:=Te.mp hnl (a,o) (mem_of_lookupK e)
  subst q
  exact Tc (show dV=Sk from h2) VD
 ·refine pk (T.bmain) λbm ob a1 a2 a3 a4 a5 a6=>?_
  exact⟨bm,ob,a1,a2,out' _ _ a3 (λq z=>by rw[a6] at z;cases z) (λq n z=>by rw[a6] at z;cases z),a4,a5,a6⟩
theorem Eu (hT:∀P∈([206,213,281]:Sj Sx),aaV.heap.get? P=Si (aaC #[]))(hl:aaV.heap.get? l=Si (cB vs 0))(hI:UK vs xs):Inv (gF prog w p loose mg mb aaV l vs) (iW l) (kU xs) aaV:=by
 have hne:l∉([206,213,281]:Sj Sx):=λm=>by
  have e:=hT l m
  rw[hl] at e
  cases e
 have noinst:∀{i c d fs q},¬((kU xs).look i=Si (.inst c d fs)\/(kU xs).look i=Si (.lsub c d fs q)):=λ{i c d fs q} e=>by
  rcases e with e | e <;> rcases nP e with ⟨_,z⟩ | ⟨_,z⟩ <;> cases z
 have safe:∀j,(kU xs).look j=Si .hid->Safe (kU xs) j:=λj e=>⟨e,λi c d fs q z=>(noinst z).elim⟩
 refine⟨λb o e=>of_hideAll _ e,?_,λa m=>⟨hideAll_none _ m,?_⟩,rfl,λi o e=>?_,λi c d fs q e=>(noinst e).elim,λi j c d fs q c' d' fs' q' e=>(noinst e).elim,λt m=>?_,λi a o m=>?_⟩
 ·exact VL.mpr ⟨hne,by decide⟩
 ·rcases SD.mp m with rfl | m
  ·rw[hl];rfl
  ·rw[hT a m];rfl
 ·rcases nP e with ⟨rfl,rfl⟩ | ⟨h,rfl⟩
  ·exact⟨l,rfl,vs,0,hl,fb hI⟩
  ·rcases h with rfl | rfl | rfl <;> exact⟨_,rfl,trivial⟩
 ·have m:t∈[gN,gM,eF]:=m
  have ok:∀t:lX,t.tab∈([206,213,281]:Sj Sx)->TabOk ((gF prog w p loose mg mb aaV l vs).tabs.map (·.tab)) (iW l) (kU xs) aaV.heap t:=λt h=>⟨#[],hT _ h,trivial,λ_ cv e=>by cases e⟩
  rcases SD.mp m with rfl | m
  ·exact⟨1,rfl,safe 1 rfl,ok gN (.head _)⟩
  ·rcases SD.mp m with rfl | m
   ·exact⟨2,rfl,safe 2 rfl,ok gM (.tail _ (.head _))⟩
   ·rw[Sn.mp m]
    exact⟨3,rfl,safe 3 rfl,ok eF (.tail _ (.tail _ (.head _)))⟩
 ·have m:(i,a,o)∈[(0,l,cB vs 0)]:=m
  cases Sn.mp m
  exact⟨(bo rfl),rfl,hl,_,rfl⟩
end
theorem oV (env:Env):∀(a b:Sj Stmt),execs (a++b) env=(execs a env >>= λf=>match f with | .next=>execs b env | f=>pure f)
 | [],b=>by
  show execs b env=(pure Flow.next >>= _)
  rw[aaE]
 | x::a,b=>by
  rw[Wc,execs_cons,execs_cons,bind_assoc]
  refine SU (exec x env >>= ·) (funext λf=>?_)
  induction f with
  | next=>exact oV env a b
  | brk=>exact(aaE _ _).symm
  | cont=>exact(aaE _ _).symm
  | ret v=>exact(aaE _ _).symm
section
variable {C:Cfg}{A:Around}{σ:List Addr}{st:St}{s:Shared}{d:Nat}
theorem BM (Ok:C.Ok) {body pre post:Sj Stmt} {xs:Sj Str}{c1:CS} {us:Sj Sr}(O:bY C fa fd body ps xs)(hb:body=pre++post)(hpre:SL C (aR fd.scope) d pre c1)(R:Rm (d+1) A)(I:Inv C σ st s)(r:VRs σ s.heap l us){P:Fm->St->Sm}
  (hlen:l.length=ps.length) (run:bX (au fd.scope .cell).length st (λo st=>bindL ps l ⟨cp (au fd.scope .local).length,o⟩ st λfm st=>c1 fm st λf fm st=>@Fl.rec (λ_=>Sm) (P fm st) dV dV (λ_=>dV) f)=Sk) 
  (hpost:∀env σ' fm st' s',ba (aR fd.scope) env->Step [] σ s σ' s'->Inv C σ' st' s'->FrR C (aR fd.scope) env fm σ' s'->s.heap.get? env.locals=none->P fm st'=Sk->Ss C.M (A.deeper env) (execs post env) (λf s''=>∃u,f=.ret u/\Q u s'') cM s'):Ss C.M A (call (.ref fa) us) Q E s:=by
 refine aE (O.obj) λo ho hd=>?_
 have X:=I.X Ok
 refine UM (W6 R.top (X _ _ ho) hd O.co O.gen O.body (Z6 X O.code) ?_)
 refine O.binds us (r.length.trans hlen) s X _ _ _ _ ?_
 rw[O.glob]
 have q:=jw (A:=A.in1) (closure:=fd.closure) (q:=[]) (around:=none) (qual:=fd.qualname ++ ".<locals>.") (func:=Si fa) (code:=fd.code) O.sc O.blt O.par I r (Th _) (λi x _ h=>Tc h (U7 _)) (k:=λfm st=>c1 fm st λf fm st=>@Fl.rec (λ_=>Sm) (P fm st) dV dV (λ_=>dV) f) (by simpa using run)
 refine Sq q ?_ λ_ _ e=>e.elim
 rintro env s' ⟨σ',fm',st',En,e1,e2,e3,e4,S',I',F',dL,h'⟩
 refine⟨(Ok.T.nolimit.keeps I'.base),codeAny_func ?_⟩
 rw[hb,oV]
 refine CQ (kV (Sq (hpre (A.deeper env) env σ' fm' st' s' _ R.deeper En I' F' h') ?_ λ_ _ e=>e))
 rintro f s'' ⟨σ'',fl,fm'',st'',S'',I'',F'',q,h''⟩
 have S:Step [] σ s σ'' s'':=(S'.up.trans S'').more λb m=>.inr (by rw[Sn.mp m];exact dL)
 induction fl with
 | nxt=>
  induction f <;> first | exact q.elim | skip
  refine Sq (hpost env σ'' fm'' st'' s'' En S I'' F'' dL h'') ?_ λ_ _ e=>e
  rintro f s3 ⟨u,rfl,hu⟩
  exact hu
 | brk=>exact ff h''
 | cnt=>exact ff h''
 | ret v=>exact ff h''
end
inductive GX (st:St):Prop
 | mk (s':St) (ring step many head rq:Nat) (R:Sj Nat) (e:qK Ou [.ref 0] st (.tup [ak ring,ak step,ak many,ak head,.ref rq]) s') (X:Ext st s') (V:tV ring step many) (h:head<ring) (l:s'.look rq=Si (.list (R.map ak))) (r:lY step many R)
@[elab_as_elim] theorem tz {P:Sj Nat->Prop} {l:Sj Nat} (h:l.length=n+1) (H:∀a r,r.length=n->P (a::r)):P l:=by
 induction l with
 | nil=>exact nomatch h
 | cons a r=>exact H a r (TA.inj h)
theorem QU {l:Sj Nat}(h:l.length=5):∃a b c d e,l=[a,b,c,d,e]:=tz h λa _ h=>tz h λb _ h=>tz h λc _ h=>tz h λd _ h=>tz h λe _ h=>⟨a,b,c,d,e,by rw[Wx.mp h]⟩
theorem Dp (P:Nat->Prop) (h:P n)(t:∀e,e<n->P e)(e:Nat)(q:e<n+1):P e:=(Nat.lt_succ_iff_lt_or_eq.mp q).elim (t e) λz=>z▸h
inductive yv (s:St)(step many e:Nat)(l:Sj V):Prop
 | mk (q:Nat) (R:Sj Nat) (h:l[e]? = Si (.ref q)) (l:s.look q=Si (.list (R.map ak))) (r:lY step many R)
theorem QA {step a b:Nat}(la:s.look a=Si (.list ([step,0,9].map ak)))(lb:s.look b=Si (.list ((Sv many step++[127,9]).map ak)))(lc:s.look c=Si (.list ((Sv many step).map ak)))(ld:s.look d=Si (.list ([step,step,0].map ak))):∀{e:Nat},e<4->yv s step many e [.ref a,.ref b,.ref c,.ref d]:=
 have p0:yv s step many 0 [.ref a,.ref b,.ref c,.ref d]:=⟨a,_,rfl,la,.a⟩
 have p1:yv s step many 1 [.ref a,.ref b,.ref c,.ref d]:=⟨b,_,rfl,lb,.b⟩
 have p2:yv s step many 2 [.ref a,.ref b,.ref c,.ref d]:=⟨c,_,rfl,lc,.c⟩
 have p3:yv s step many 3 [.ref a,.ref b,.ref c,.ref d]:=⟨d,_,rfl,ld,.d⟩
 Dp (λe=>yv s step many e [.ref a,.ref b,.ref c,.ref d]) p3 (Dp _ p2 (Dp _ p1 (Dp _ p0 λ_ z=>Tc z (U7 _)))) _
theorem GO (F:st.Fu)(h4:4<=st.n) (hx:st.look 0=Si (.list (xs.map V.int)))(hlen:xs.length<=63):GX st:=by
 obtain⟨s1,e1,X1,n1,l1,k1⟩:=(Ext.refl F).pushX (.cell none)
 obtain⟨s2,e2,X2,n2,l2,k2⟩:=X1.pushX (.cell none)
 have n02:=SO n1 n2
 have hx2:s2.look 0=Si (.list (xs.map V.int)):=(X2.keep 0 (SH (bo rfl) h4)).trans hx
 have c02:s2.look st.n=Si (.cell none):=k2 n1 l1
 have h42:=So h4 X2.n
 obtain⟨s3,e3,f3,n3,l3⟩:=dK X2.fu (.list [.int 11,.int 4,.int 2,.int 7,.int 0])
 have X23:Ext s2 s3:=(Ext.refl X2.fu).push f3 n3 l3
 obtain⟨s4,hs,o2,o3,e4,X24,n4,q4,h5⟩:=Mh (cl:=[st.n,s1.n]) (o2:=none) (o3:=none) hx2 h42 hlen xs (i:=0) (n:=200) (hs:=[11,4,2,7,0]) X23 n3 (SetFu.self l3) rfl rfl (Th _) (Tn hlen (bo rfl))
 refine PI (QU h5) λa b c d e e85=>?_;subst e85
 have c04:=(X24.keep _ n02).trans c02
 have CR:=(X24.keep _ n2).trans l2
 have h01:s1.n≠st.n:=Tz n1
 have h02:s2.n≠st.n:=Tz n02
 have h12:s2.n≠s1.n:=Tz n2
 have h41:=So h4 (TP n1)
 obtain⟨s5,e5,f5,n5,l5⟩:=pc X24.fu h4 (St.lt X24.fu c04) c04 (ak (8+a % 8))
 have MO:=SetFu.old l5 h01 CR
 obtain⟨s6,e6,f6,n6,l6⟩:=pc f5 h41 (St.lt f5 MO) MO (ak (1+b % 7))
 have c06:=SetFu.old l6 h01.symm (SetFu.self l5)
 have hr:8<=8+a % 8/\8+a % 8<=15:=⟨Td _ _,Tw (aao (Xi a (bo rfl))) 8⟩
 obtain⟨s7,step,f7,n7,k7,GF,hs1,hs7,hs2,e7⟩:=Oi (fm:=Dt s2.n o2 o3 none none none [st.n,s1.n]) f6 h41 rfl rfl c06 (SetFu.self l6) hr.1 (Td _ _) (Tw (aao (Xi b (bo rfl))) 1)
 have c07:=(k7 _ h01.symm).trans c06
 have q5:=SetFu.old l5 h02 q4
 have q7:=(k7 _ h12).trans (SetFu.old l6 h12 q5)
 have hlow:∀j,j<st.n->s7.look j=st.look j:=λj h=>
  (k7 j (SP (SO h n1))).trans (SetFu.old l6 (SP (SO h n1)) (SetFu.old l5 (SP h) ((X24.keep j (SO h n02)).trans (X2.keep j h))))
 have hn7:s7.n=s4.n:=n7.trans (n6.trans n5)
 have h27:s2.n<s7.n:=by rw[hn7,n4];exact S1 _
 generalize hring:8+a % 8=ring at *
 have hr15:=hr.2
 obtain⟨hf3,hf15⟩:=pF ring (Ul hr15) step (Ul hs7) hr.1 hs1 hs2
 obtain⟨rest,hdiv⟩:=yJ hf3
 have hr1:1<=ring:=So (bo rfl) hr.1
 have hr1000:ring<=1000:=So hr15 (bo rfl)
 generalize hfull:iQ step ring=full at *
 have hm0:0<full - 2:=Nat.sub_pos_of_lt hf3
 have hmany:2<=2+c % (full - 2)/\2+c % (full - 2)<full:=⟨Td _ _,by have:=Xi c hm0;lia⟩
 generalize hmn:2+c % (full - 2)=many at *
 obtain⟨s8,e8,X78,n8,l8,k8⟩:=(Ext.refl f7).pushX (.list ((lP step ring 1 ring).map ak))
 have n17:=SO n2 h27
 have n07:=SO n1 n17
 have b15:=So (TP hmany.2) hf15
 obtain⟨s9,rq,ra,rb,rc,rd,X89,e9,hq,hra,hrb,hrc,hrd⟩:=EI (fm:=⟨yS (yS (Dt s2.n o2 o3 none none none [st.n,s1.n]).loc (ak full) 4) (ak many) 5,[st.n,s1.n]⟩) (many:=many) X78.fu rfl rfl rfl (k8 n17 GF) (So b15 (bo rfl))
 have X79:Ext s7 s9:=X78.trans X89
 obtain⟨qr,R,hqr,hR,hRul⟩:=QA hra hrb hrc hrd (Xi e (show 0<4 by decide))
 obtain⟨fm',hdv⟩:=NZ c07 GF hr1 hr1000 (So hs7 (bo rfl)) ring (a:=1) (n:=200) (o:=none) (Tn hr15 (bo rfl)) (So (Tw hr15 1) (bo rfl))
 have q8:=k8 h27 q7
 have q9:=(X79.keep _ h27).trans q7
 have c09:=(X79.keep _ n07).trans c07
 refine⟨s9,ring,step,many,d % ring,qr,R,?_,⟨X79.fu,So (TP n07) X79.n,λj h=>(X79.keep j (SO h n07)).trans (hlow j h)⟩,⟨hr,⟨hs1,hs7⟩,hs2,hfull▸hmany⟩,Xi _ hr1,hR,hRul⟩
 delta Ou PB Ga E4 FE Fj Fb EY FT
 refine Pc (λk=>(e1 _).trans (e2 _)) rfl (λ_=>rfl) (aJ (aT (dX (be az (be az (be az (be az (aU az))))) e3) (aN rfl))
  (aJ (jv (wU (ah rfl) ((X23.keep 0 (SH (bo rfl) h42)).trans hx2)) e4)
  (aJ (aT (bd (w:=ak (a % 8)) az (bd (eJ (ah rfl) az λ_=>cq (a:=0) (x:=ak a) q4 rfl (Th _)) az (eB (a:=a) (b:=8) (bo rfl) (bo rfl) _)) λk=>(g6 8 (a % 8) _ k).trans (by rw[hring])) (g8 rfl e5))
  (aJ (aT (bd (w:=ak (b % 7)) az (bd (eJ (ah rfl) az λ_=>cq (a:=1) (x:=ak b) q5 rfl (bo rfl)) az (eB (a:=b) (b:=7) (bo rfl) (bo rfl) _)) (g6 1 (b % 7) _)) (g8 rfl e6))
  (aJ e7
  (aJ (aT (eJ (ly (λ_=>rfl) (Ii az (bd (bZ rfl c07) az (g6 ring 1 _)) (Iy (So hr1000 (bo rfl)))) hdv (by rw[S6];exact So (tO ..) (So hr1000 (bo rfl))) e8) az λ_=>cq (a:=0) (x:=ak full) l8 (by rw[hdiv];rfl) (Th _)) (aN rfl))
  (aJ (aT (bd (w:=ak (c % (full - 2))) az (bd (eJ (ah rfl) az λ_=>cq (a:=2) (x:=ak c) q8 rfl (bo rfl)) (bd (ah rfl) az λ_=>hZ (a:=full) (b:=2) (TP hf3)) (eB hm0 (So (Xc _ _) (So hf15 (bo rfl))) _)) λk=>(g6 2 (c % (full - 2)) _ k).trans (by rw[hmn])) (aN rfl))
  (aJ e9 (bn (iw (pJ (be (bZ rfl c09) (be (bZ rfl ((X79.keep _ n17).trans GF)) (be (ah rfl)
   (be (bd (eJ (ah rfl) az λ_=>cq (a:=3) (x:=ak d) q9 rfl (bo rfl)) (bZ rfl c09) (eB hr1 (So hr1000 (bo rfl)) _))
    (aU (eJ (ah rfl) (bd (eJ (ah rfl) az λ_=>cq (a:=4) (x:=ak e) q9 rfl (bo rfl)) az (eB (a:=e) (b:=4) (bo rfl) (bo rfl) _)) λ_=>cq (a:=e % 4) hq hqr (So (TP (Xi e (bo rfl))) (by decide:4<=4095)))))))))))))))))))
theorem jB (h1:i≠127)(h0:i≠0)(m:Nat)(last:SV Int)(r:Sj Int)(K:Sj Int->Sm):w1 (m+1) last (.ofNat i::r) K=w1 m (Si (.ofNat i)) r λq=>K (.ofNat i::q):=by
 show aD (SN i 127) (K []) (aD (SN i 0) (cU last λl=>K (cw [l] (m+1))) (w1 m (Si (.ofNat i)) r λq=>K (.ofNat i::q)))=_
 have e1:SN i 127=dV:=by cases q:SN i 127 with | false=>rfl | true=>exact Tc (SQ q) h1
 have e0:SN i 0=dV:=by cases q:SN i 0 with | false=>rfl | true=>exact Tc (SQ q) h0
 rw[e1,e0];rfl
theorem uk (m:Nat)(l:Int)(r:Sj Int)(K:Sj Int->Sm):w1 (m+1) (Si l) (.ofNat 0::r) K=K (cw [l] (m+1)):=rfl
theorem Ee (m:Nat)(last:SV Int)(r:Sj Int)(K:Sj Int->Sm):w1 (m+1) last (.ofNat 127::r) K=K []:=rfl
theorem EE (m:Nat)(last:SV Int)(K:Sj Int->Sm):w1 (m+1) last [] K=K []:=rfl
theorem pA (h1:i≠127)(h0:i≠0)(n:Nat)(r:Sj Int):∀(j:Nat)(last:SV Int)(K:Sj Int->Sm),∃last',w1 (j+n) last ((Sv j i).map TG++r) K=w1 n last' r λq=>K ((Sv j i).map TG++q)
 | 0,last,K=>⟨last,by simp⟩
 | j+1,last,K=>by
  obtain⟨l',ih⟩:=pA h1 h0 n r j (Si (.ofNat i)) λq=>K (.ofNat i::q)
  refine⟨l',?_⟩
  rw[show j+1+n=(j+n)+1 by lia]
  refine Eq.trans (jB h1 h0 (j+n) last _ K) ?_
  exact ih
theorem wQ (a:Int)(n:Nat):cw [a] n=Sv n a:=by
 rw[gC]
 induction n with
 | zero=>rfl
 | succ n ih=>rw[TN,TJ,ih];rfl
theorem j8 (h0:i≠0)(r:Sj Int):∀n,iN 0 ((Sv n i).map TG++r)=iN 0 r
 | 0=>rfl
 | n+1=>by
  show aD (SN 0 i) Sk (iN 0 ((Sv n i).map TG++r))=_
  have e0:SN 0 i=dV:=by cases q:SN 0 i with | false=>rfl | true=>exact Tc (SQ q).symm h0
  rw[e0,j8 h0 r n];rfl
theorem IH {step:Nat} (h:lY step many R)(h1:1<=step)(h7:step<=7)(hm:2<=many):∃t b,(∀K,w1 (many+1) none (R.map TG) K=K ((Sv t step).map TG))/\iN 0 (R.map TG)=b/\t=@Ti (λ_=>Nat) many (many+1) b:=by
 have a1:step≠127:=by lia
 have a0:step≠0:=by lia
 have e0:SN 0 step=dV:=by cases q:SN 0 step with | false=>rfl | true=>exact Tc (SQ q).symm a0
 induction h with
 | a=>
  refine⟨many+1,Sk,λK=>?_,?_,rfl⟩
  ·obtain⟨m,rfl⟩:∃m,many=m+1:=⟨many - 1,by lia⟩
   refine Eq.trans (jB a1 a0 (m+1) none _ K) ?_
   refine Eq.trans (uk m _ _ _) ?_
   rw[wQ,Ya];rfl
  ·show aD (SN 0 step) Sk Sk=Sk
   rw[e0];rfl
 | b=>
  refine⟨many,dV,λK=>?_,?_,rfl⟩
  ·rw[Vp]
   obtain⟨l',h⟩:=pA a1 a0 1 ([127,9].map TG) many none K
   refine h.trans ?_
   refine Eq.trans (Ee 0 _ _ _) ?_
   rw[TV]
  ·rw[Vp,j8 a0];rfl
 | c=>
  refine⟨many,dV,λK=>?_,?_,rfl⟩
  ·obtain⟨l',h⟩:=pA a1 a0 1 [] many none K
   rw[TV] at h
   refine h.trans ?_
   refine Eq.trans (EE 0 _ _) ?_
   rw[TV]
  ·have:=j8 a0 [] many
   rw[TV] at this
   exact this
 | d=>
  refine⟨many+1,Sk,λK=>?_,?_,rfl⟩
  ·obtain⟨m,rfl⟩:∃m,many=m+2:=⟨many - 2,by omega⟩
   refine Eq.trans (jB a1 a0 (m+2) none _ K) ?_
   refine Eq.trans (jB a1 a0 (m+1) _ _ _) ?_
   refine Eq.trans (uk m _ _ _) ?_
   rw[wQ,Ya];rfl
  ·show aD (SN 0 step) Sk (aD (SN 0 step) Sk Sk)=Sk
   rw[e0];rfl
theorem vH (K:Sj Int->Sm):∀R:Sj Nat,iZq (R.map ak) K=K (R.map TG)
 | []=>rfl
 | c::r=>by
  show iZq (r.map ak) (λq=>K (.ofNat c::q))=_
  rw[vH _ r];rfl
theorem FO (st:St)(K:Sj Vi->Sm):∀R:Sj Nat,d7 (fe st 4) (R.map ak) K=K (R.map λn=>Vy (.ofNat n))
 | []=>rfl
 | c::r=>by
  show d7 (fe st 4) (r.map ak) (λq=>K (.int (.ofNat c)::q))=_
  rw[FO st _ r];rfl
theorem Bx {q:Nat} (h:st.look q=Si (.list (R.map ak)))(K:Vi->Sm):fe st 5 (.ref q) K=K (.list (R.map λn=>Vy (.ofNat n))):=by
 refine Eq.trans (St.get_of h _) ?_
 exact FO st _ R
theorem on (k:Sm->Sm):∀R:Sj Nat,xW (I9 6) (R.map λn=>Vy (.ofNat n)) (R.map λn=>Vy (.ofNat n)) k=k Sk
 | []=>rfl
 | c::r=>by
  show aD (SN c c) (xW (I9 6) (r.map λn=>Vy (.ofNat n)) (r.map λn=>Vy (.ofNat n)) k) (k dV)=_
  rw[Vz,on k r];rfl
theorem vY {a b:Nat} (h:st.look a=Si (.list (R.map ak)))(h':st.look b=Si (.list (R.map ak)))(k:Sm->Sm):kL (.ref a) (.ref b) st k=k dV:=by
 show fe st 5 (.ref a) (λx=>fe st 5 (.ref b) λy=>I9 7 x y λc=>k (ee c))=_
 refine Eq.trans (Bx h _) ?_
 refine Eq.trans (Bx h' _) ?_
 exact on (λc=>k (ee c)) R
noncomputable section
abbrev QM:Nat->CC:=bw (em (ay dV 1)) cA (gt (aA ef (aA aQ (aa Sk 0) (aA bJ (aa dV 1) (aa Sk 2))) (aa Sk 1)))
end
theorem OY {c0 c2 step head:Nat}(h0:st.look c0=Si (.cell (Si (ak head))))(h1:st.look c1=Si (.cell (Si (ak ring))))(h2:st.look c2=Si (.cell (Si (ak step))))(hr:1<=ring)(hr2:ring<=1000)(hs:step<=1000)(m:Nat) :
  ∀{a n:Nat} {o:OV},m<n->a+m<=1000->∃fm',yZ (QM n) ⟨[none,o],[c0,c1,c2]⟩ (.rng (.ofNat a) m 1) st (((Zx a m).map λj=>(head+j*step) % ring).map ak) fm' st:=by
 induction m with
 | zero=>
  intro a n o h _
  obtain⟨n,rfl⟩:=S0 h
  exact⟨_,gV λ_ _=>rfl⟩
 | succ m ih=>
  intro a n o h ha
  obtain⟨n,rfl⟩:=S0 h
  obtain⟨fm',e⟩:=ih (a:=a+1) (n:=n+(m+1)) (o:=Si (ak a)) (SH (S1 _) (TQ _ _)) (Ui a m▸ha)
  exact⟨fm',rp (λ_ _=>rfl) (qt (aN rfl)) m6 (wb (bd (bd (bZ rfl h0) (bd (ah rfl) (bZ rfl h2) λ_=>nk (So (So (Td _ _) ha) (bo rfl)) (So hs (bo rfl))) (g6 head (a*step) _)) (bZ rfl h1) (eB hr (So hr2 (bo rfl)) _))) e⟩
theorem MR {n g:CE} {s1 s2 s3:St}{a q:Nat} (hn:Ev n fm s (ak a) s1)(ha:a<=4095)(hg:Ev g fm s1 (.ref q) s2)(hq:s2.look q=Si (.list (R.map ak)))(hr:∀K,w1 a none (R.map TG) K=K ys)(hp:∀k,s2.push (.list (fE .int ys)) k=k m s3):Ev (qm n g) fm s (.ref m) s3:=
 λ_=>(hn _).trans ((il (show aB (cT (.ofNat a))=Sk from bI ha)).trans ((il (bS (So ha (bo rfl)))).trans ((hg _).trans ((bj hq _).trans ((vH _ R).trans ((hr _).trans (hp _)))))))
theorem GV {head x:Nat}(_hr:1<=ring):CO (.ofNat head) ring (.ofNat ((head+x) % ring))=.ofNat (x % ring):=by
 unfold CO
 rw[qo,ey,Int.fmod_eq_emod_of_nonneg _ (by simp)]
 simp only[UB]
 rw[Int.natCast_emod,Int.natCast_add,Int.natCast_emod,Int.emod_def ((head:Int)+x)]
 have:(head:Int)+x - ring*(((head:Int)+x) / ring) - head=x - ring*(((head:Int)+x) / ring):=by lia
 rw[this,Int.sub_mul_emod_self_left]
theorem md:∀n j:Nat,zM n j=Zx j n
 | 0,_=>rfl
 | n+1,j=>by
  show j::zM n (j+1)=_
  rw[md n (j+1)];rfl
noncomputable def gy (ring step many head:Nat):Sj Nat:=(Up (many+1)).map λj=>(head+j*step) % ring
noncomputable def fI (ring step many head:Nat):Sj Int:=(gy ring step many head).map TG
theorem yc (ring step many head:Nat):(fI ring step many head).map V.int=(gy ring step many head).map ak:=by
 unfold fI
 rw[Ud];rfl
theorem HN {step head:Nat}(h1:1<=ring)(hr:ring<=1000)(hm:many<=90)(hh:head<ring):xn step ring (many+1) (fI ring step many head):=by
 refine⟨by simp[fI,gy],by lia,h1,hr,λn hn1 hn=>?_⟩
 refine⟨.ofNat head,?_,?_⟩
 ·simp only[fI,gy,TM]
  rw[Sj.getElem?_range (by lia)]
  simp[Nat.mod_eq_of_lt hh]
 ·simp only[fI,gy,Dh]
  rw[eq,md,←Xo,←Xo,Sj.take_range,Xu hn,Zy,Ud,Ud,Ud]
  apply U9
  intro j _
  simp only[aaR]
  rw[GV h1];rfl
noncomputable abbrev RW (x_0 x_1 x_2 x_3 x_4 x_5:V)(c_0 c_1 c_2 c_3 c_4 c_5:Nat):Fm:=⟨[Si x_0,Si x_1,Si x_2,Si x_3,Si x_4,Si x_5,none,none,none,none,none,none,none,none,none,none,none,none,none,none,none,none,none,none,none,none,none,none,none,none],[c_0,c_1,c_2,c_3,c_4,c_5]⟩
theorem HZ (l:Sj α)(m:Nat)(K:Sj α->Sm):cut l .none (ak m) K=K (fg l (eW (.ofNat m) (aK l))):=rfl
theorem fG {x y:Nat}{l:Sj Nat}(h:x<y)(p:(y::l).Pairwise (·<·)):(x::y::l).Pairwise (·<·):=.cons (λz m=>(SD.mp m).elim (λe=>e▸h) λm=>SO h ((Sj.pairwise_cons.mp p).1 z m)) p
theorem Se {a b:Nat}(h:10<=c)(h1:c<a)(h2:a<b):[a,4,5,6,7,8,9,b,c].Nodup:=by
 have p:[a,4,5,6,7,8,9,b,c].Perm [4,5,6,7,8,9,c,a,b]:=(Zc (l₁:=[a]) (l₂:=[4,5,6,7,8,9,b,c])).trans (aaT.append_left [4,5,6,7,8,9] (Zc (l₁:=[b]) (l₂:=[c,a])))
 exact p.nodup_iff.mpr (Sj.Pairwise.imp SP (fG (bo rfl) (fG (bo rfl) (fG (bo rfl) (fG (bo rfl) (fG (bo rfl) (fG h (fG h1 (fG h2 (Sj.pairwise_singleton _ _))))))))))
inductive GW (m:Nat)(s:St):Prop
 | mk (s':St) (e:∀k,bX m s k=k (Zx s.n m) s') (F:s'.Fu) (n:s'.n=s.n+m) (c:∀j,s.n<=j->j<s.n+m->s'.look j=Si (.cell none)) (k:∀j,j<s.n->s'.look j=s.look j)
theorem Hx (m:Nat):∀{s:St},s.Fu->GW m s:=by
 induction m with
 | zero=>exact λF=>⟨_,λ_=>rfl,F,rfl,λj a b=>Tc a (Nat.not_le.mpr b),λ_ _=>rfl⟩
 | succ m ih=>
  intro s F
  obtain⟨s1,e1,f1,n1,l1⟩:=dK F (.cell none)
  obtain⟨s2,e2,f2,n2,c2,k2⟩:=ih f1
  rw[n1] at e2 n2 c2 k2
  refine⟨s2,λk=>(e1 λn st=>bX m st λq s=>k (n::q) s).trans (e2 _),f2,n2.trans (Ui _ _),λj a b=>?_,λj h=>by rw[k2 j (To h),l1,SK (SP h)]⟩
  by_cases z:j=s.n
  ·rw[k2 j (z▸S1 _),l1,SX z]
  ·exact c2 j (Nat.lt_of_le_of_ne a (Ne.symm z)) (by rw[Ui];exact b)
noncomputable section
noncomputable abbrev RC (v:V):Sj OV:=[Si v,none,none,none,none,none,none,none,none,none,none,none,none,none,none,none,none,none,none,none,none,none,none,none,none,none,none,none,none,none]
end
theorem GL {c:CS} {nc:Nat}{vs:Sj V}{s1 s':St}{o:Sj Nat}{l:Sj OV}{fm':Fm}(hc:∀k,bX nc s k=k o s1)(hb:∀K:Fm->St->Sm,bindL ps vs ⟨cp nl,o⟩ s1 K=K ⟨l,o⟩ s1)(h:gT c ⟨l,o⟩ s1 .nxt fm' s')(k:Fl->Fm->St->Sm):bX nc s (λo st=>bindL ps vs ⟨cp nl,o⟩ st λfm st=>c fm st k)=k .nxt fm' s':=(hc _).trans ((hb _).trans (h _))
theorem yu {rq:Nat}{b:Sm} (f1:uJ fm.loc 1=Si (ak many))(f2:uJ fm.loc 2=Si (.ref rq))(hR:st.look rq=Si (.list (R.map ak)))(hb:iN 0 (R.map TG)=b)(ht:t=@Ti (λ_=>Nat) many (many+1) b):Ev (u4 (bR Ot (ao (.int 0)) (aa dV 2)) (aA aQ (aa dV 1) (ao (.int 1))) (aa dV 1)) fm st (ak t) st:=by
 have tst:qh (bR Ot (ao (.int 0)) (aa dV 2)) fm st b st:=bO az (ah f2) λk=>(bj hR _).trans ((vH _ R).trans (SU k hb))
 subst ht
 match b,tst with
 | true,h=>exact Ce h (bd (ah f1) az (g6 many 1 _))
 | false,h=>exact Av h (ah f1)
theorem Ds {p:Nat} {s':St}(h:st.look p=Si (.list l))(hl:l.length<=4095)(hs:∀k,st.push (.list (fg l (eW (.ofNat m) (aK l)))) k=k n s')(k:KV):uN (.ref p) .none (ak m) st k=k (.ref n) s':=
 (St.get_of h _).trans ((qJ hl).trans ((HZ ..).trans (hs _)))
theorem BF (x:V)(h:many<=t):fg (Sv t x) (eW (.ofNat many) (aK (Sv t x)))=Sv many x:=by
 have:eW (.ofNat many) (aK (Sv t x))=many:=by
  rw[aC,TS]
  show @Ti (λ_=>Nat) many t (SZ t many)=many
  cases e:SZ t many with
  | false=>rfl
  | true=>exact UR (Sp e) h
 rw[this,gq,Sj.take_replicate,Xu h]
theorem Hg (hlen:xs.length<=63)(P:Fm->St->Sm)
  (hP:∀fm st ring step many head iP i0 i1 i2 i3 i4 i5 iS iX,tV ring step many->head<ring->Shape st fm ring step many (fI ring step many head) iP i0 i1 i2 i3 i4 i5 iS iX->P fm st=Sk) :
  bX 6 (kU xs) (λo st=>bindL [(dV,0)] [.ref 0] ⟨cp 30,o⟩ st λfm st=>H8 fm st λf fm st=>@Fl.rec (λ_=>Sm) (P fm st) dV dV (λ_=>dV) f)=Sk:=by
 have h0:(kU xs).n=4:=rfl
 have hx0:(kU xs).look 0=Si (.list (xs.map V.int)):=rfl
 have F0:=wp xs
 generalize kU xs=s0 at *
 obtain⟨s6,e6,f6,n6,c6,k6⟩:=Hx 6 F0
 rw[h0] at e6 n6 c6 k6
 have c6:∀j,4<=j->j<10->s6.look j=Si (.cell none):=c6
 obtain⟨s7,ring,step,many,head,rq,R,e7,X67,hV,hh,hR,hRul⟩:=GO f6 (by rw[n6];decide) ((k6 0 (bo rfl)).trans hx0) hlen
 obtain⟨⟨hr8,hr15⟩,⟨hs1,hs7⟩,hne,hm2,hmf⟩:=id hV
 have hr1:1<=ring:=So (bo rfl) hr8
 have hr1000:ring<=1000:=So hr15 (bo rfl)
 have hm14:many+1<=15:=So hmf (pF ring (Ul hr15) step (Ul hs7) hr8 hs1 hne).2
 have n67:10<=s7.n:=So (Ub n6.symm) X67.n
 have cell7:∀j,4<=j->j<10->s7.look j=Si (.cell none):=λj h h'=>(X67.keep j (by rw[n6];exact h')).trans (c6 j h h')
 have hrq:∀j,4<=j->j<10->rq≠j:=λj h h' e=>by
  rw[e,cell7 j h h'] at hR
  exact nomatch hR
 obtain⟨s8,e8,f8,n8,l8⟩:=pc X67.fu (i:=4) (bo rfl) (SH (bo rfl) n67) (cell7 _ (bo rfl) (bo rfl)) (ak ring)
 obtain⟨s9,e9,f9,n9,l9⟩:=pc f8 (i:=5) (bo rfl) (SH (bo rfl) (n8▸n67)) (SetFu.old l8 (lC rfl) (cell7 _ (bo rfl) (bo rfl))) (ak step)
 obtain⟨s10,e10,f10,n10,l10⟩:=pc f9 (i:=6) (bo rfl) (SH (bo rfl) (n9▸n8▸n67)) (SetFu.old l9 (lC rfl) (SetFu.old l8 (lC rfl) (cell7 _ (bo rfl) (bo rfl)))) (ak head)
 have n710:10<=s10.n:=n10▸n9▸n8▸n67
 have old:∀{j:Nat} {q:SV O},j≠4->j≠5->j≠6->s7.look j=q->s10.look j=q:=λa b c e=>SetFu.old l10 c (SetFu.old l9 b (SetFu.old l8 a e))
 have c0:s10.look 4=Si (.cell (Si (ak ring))):=SetFu.old l10 (lC rfl) (SetFu.old l9 (lC rfl) (SetFu.self l8))
 have c1:s10.look 5=Si (.cell (Si (ak step))):=SetFu.old l10 (lC rfl) (SetFu.self l9)
 have c2:s10.look 6=Si (.cell (Si (ak head))):=SetFu.self l10
 have hR10:=old (hrq _ (bo rfl) (bo rfl)) (hrq _ (bo rfl) (bo rfl)) (hrq _ (bo rfl) (bo rfl)) hR
 refine gw (IH hRul hs1 hs7 hm2) λt b hg hb ht=>?_
 have htm:many<=t/\t<=many+1:=match b,ht with
  | true,e=>e▸⟨T2 _,SW _⟩
  | false,e=>e▸⟨SW _,T2 _⟩
 have ht15:t<=15:=So htm.2 hm14
 obtain⟨s11,e11,X11,n11,l11,k11⟩:=(Ext.refl f10).pushX (.list (fE .int ((Sv t step).map TG)))
 obtain⟨s12,e12,X12,n12,l12,k12⟩:=X11.pushX (.list [ak step])
 obtain⟨s13,e13,X13,n13,l13,k13⟩:=X12.pushX (.list (cw [ak step] t))
 have e0:fE V.int ((Sv t step).map TG)=(Sv t step).map ak:=by rw[eq,Ud];rfl
 have eR:cw [ak step] t=(Sv t step).map ak:=jy step t
 have hrep:(Sv t step).map ak=Sv t (ak step):=Ya
 have t13:=k13 (SO n11 n12) (k12 n11 (e0▸l11))
 obtain⟨s14,e14,X14,n14,l14,k14⟩:=X13.pushX (.list (fg ((Sv t step).map ak) (eW (.ofNat many) (aK ((Sv t step).map ak)))))
 have n1014:=SO n11 (SO n12 (SO n13 n14))
 have hlt:((Sv t step).map ak).length<=4095:=by rw[hrep,TS];exact So ht15 (bo rfl)
 have l14:s14.look s13.n=Si (.list (Sv many (ak step))):=l14.trans (by rw[hrep,BF _ htm.1])
 obtain⟨s15,q,e15,X15,hq,q15⟩:=Ad X14.fu (So (bo rfl) (So n710 X14.n)) (t:=s13.n) (ring:=ring) (step:=step) (many:=many) (head:=head) l14 hs1 hs7 (So (T2 _) hm14) (So hr15 (bo rfl)) hh
 have Y15:Ext s10 s15:=X14.trans X15
 have hq15:=St.lt X15.fu q15
 obtain⟨s16,e16,X16,n16,l16,k16⟩:=Y15.pushX (.list ((gy ring step many head).map ak))
 obtain⟨s17,e17,X17,n17,l17,k17⟩:=X16.pushX (.list [])
 refine bG (OY (st:=s15) (c0:=6) (c1:=4) (c2:=5) ((Y15.keep _ (SH (bo rfl) n710)).trans c2) ((Y15.keep _ (SH (bo rfl) n710)).trans c0) ((Y15.keep _ (SH (bo rfl) n710)).trans c1) hr1 hr1000 (So hs7 (bo rfl)) (many+1) (a:=0) (n:=200) (o:=none) (Tn hm14 (bo rfl)) (So (Ub (Wd _)) (So hm14 (bo rfl)))) λfm' hdue=>?_
 rw[←Zy] at hdue
 have cell:∀{s},Ext s10 s->∀{j o},j<10->s10.look j=o->s.look j=o:=λ{_} X {_ _} h e=>(X.keep _ (SH h n710)).trans e
 have hm4:many+1<=4095:=So hm14 (bo rfl)
 refine(GL (l:=RC (.ref 0)) (fm':=RW (.ref 0) (ak many) (.ref rq) (.ref s10.n) (.ref q) (.ref s16.n) 4 5 6 7 8 9) (s':=s17) e6 (λ_=>rfl) ?_ _).trans (hP _ _ ring step many head q 4 5 6 7 8 9 s16.n s10.n hV hh ⟨?_,rfl,rfl,rfl,rfl,rfl,?_,k17 (SO hq15 n16) ((k16 hq15 q15).trans (by rw[yc];rfl)),
  cell X17 (bo rfl) c0,cell X17 (bo rfl) c1,⟨_,cell X17 (bo rfl) c2,λe=>nomatch e⟩,cell X17 (bo rfl) (old (lC rfl) (lC rfl) (lC rfl) (cell7 _ (bo rfl) (bo rfl))),cell X17 (bo rfl) (old (lC rfl) (lC rfl) (lC rfl) (cell7 _ (bo rfl) (bo rfl))),cell X17 (bo rfl) (old (lC rfl) (lC rfl) (lC rfl) (cell7 _ (bo rfl) (bo rfl))),l17,
  ⟨_,k17 (SO (SH n1014 X15.n) n16) (k16 (SH n1014 X15.n) ((X15.keep _ n1014).trans (k14 (SO n11 (SO n12 n13)) t13))),λe=>nomatch e⟩⟩)
 ·delta H8 FL FH E9 Gp EV FQ
  exact aJ (aT (wy (aU (ah rfl)) e7) (EK rfl (eh (g8 rfl e8) (eh (g8 rfl e9) (eh (aN rfl) (eh (g8 rfl e10) (eh (aN rfl) rI)))))))
   (aJ (aT (MR (a:=many+1) (bd (ah rfl) az (g6 many 1 _)) hm4 (ah rfl) hR10 hg e11) (aN rfl))
   (aJ (je (bO (ah rfl) (bd (dX (aU (bZ rfl (cell X11 (bo rfl) c1))) e12) (yu rfl rfl ((X12.keep _ (St.lt f10 hR10)).trans hR10) hb ht) λk=>(iA (l:=[ak step]) (m:=t) l12 (So ht15 (bo rfl)) ((Zw t).symm▸So ht15 (bo rfl))).trans (e13 _)) (vY t13 (eR▸l13))))
   (aJ (aT (wy (be (Ci (ah rfl) az (ah rfl) (Ds t13 hlt e14)) (be (bZ rfl (cell X14 (bo rfl) c0)) (aU (bZ rfl (cell X14 (bo rfl) c2))))) e15) (aN rfl))
   (aJ (je (bO (ah rfl) (ly (λ_=>rfl) (GU (bd (ah rfl) az (g6 many 1 _)) (Dr (m:=many+1) hm4)) hdue (by rw[S6,S6,WL];exact hm4) e16) (vY (R:=gy ring step many head) (k16 hq15 q15) l16)))
   (bn (aT (dX dA e17) (aN rfl)))))))
 ·exact Se n710 (SH n1014 hq) (SO hq15 n16)
 ·exact⟨So (bo rfl) (So (So n710 (TP n1014)) hq),(bo rfl),(bo rfl),(bo rfl),(bo rfl),(bo rfl),(bo rfl),So (bo rfl) (So n710 (So X14.n (So X15.n (TP n16)))),So (bo rfl) n710⟩
section
variable {prog:Program}{w:World}{p:Program}{loose:List Str}{mean:ExcName->Option Value}{mg mb:Str->Option Value}{aaV:Shared}{fa l:Addr}{vs:List Value}{xs:List Int}
theorem Bb (W:BaseT (gF prog w p loose mg mb aaV l vs) w.params)(a:Sx)(o:Obj):BaseT ((gF prog w p loose mg mb aaV l vs).pin a o) w.params:=⟨⟨W.K,⟨W.ok.X,W.ok.T⟩,⟨W.blt.1⟩,W.file,W.top⟩,W.tabs⟩
theorem BB {o:Obj} (W:BaseT ((gF prog w p loose mg mb aaV l vs).pin a o) w.params)(X:(KH w.params).In aaV.heap)(hT:∀P∈([206,213,281]:Sj Sx),aaV.heap.get? P=Si (aaC #[]))(hl:aaV.heap.get? l=Si (cB vs 0))(hfix:s'.heap.get? l=Si (cB vs 0))(I:Inv ((gF prog w p loose mg mb aaV l vs).pin a o) σ st s'):OldK aaV.heap s'.heap:=by
 have tab:∀t,jm ((gF prog w p loose mg mb aaV l vs).pin a o) t->t.tab∈([206,213,281]:Sj Sx)->(∃ps,s'.heap.get? t.tab=Si { cls:=.none,data:=.fields ps })/\isCodeTable aaV.heap t.tab:=λt k m=>by
  obtain⟨j,_,_,ps,g,_⟩:=I.tabs t k.mem
  refine⟨⟨ps,g⟩,?_⟩
  obtain⟨o,q,file,tf,flags,tg,wd,text,tt,h1,h2,h3,h4,h5,h6,h7,h8,h9⟩:=k.code
  have ta:aaV.heap.TableAt t.code t.tab #[]:=⟨⟨o,q,X _ _ h1,h8,h2,h9⟩,hT _ m⟩
  exact ta.isCodeTable
 have tabs:∀b∈([206,213,281]:Sj Sx),(∃ps,s'.heap.get? b=Si { cls:=.none,data:=.fields ps })/\isCodeTable aaV.heap b:=λb m=>by
  exact du (P:=λb=>(∃ps,s'.heap.get? b=Si { cls:=.none,data:=.fields ps })/\isCodeTable aaV.heap b) (tab gN W.t14 (.head _)) (du (tab gM W.t15 (.tail _ (.head _))) (du (tab eF W.t23 (.tail _ (.tail _ (.head _)))) uQ)) b m
 have cases3:∀b o,aaV.heap.get? b=Si o->s'.heap.get? b=Si o\/(b∈([206,213,281]:Sj Sx)/\o=aaC #[]):=λb o e=>by
  by_cases m:b∈([206,213,281]:Sj Sx)
  ·exact .inr ⟨m,Si.inj (e.symm.trans (hT b m))⟩
  ·by_cases z:b=l
   ·exact .inl (z▸hfix.trans (hl.symm.trans (z▸e)))
   ·exact .inl (I.base b o (hideAll_get _ e λq=>(SD.mp q).elim z m))
 refine⟨λb o e=>?_,λb o e=>?_⟩
 ·rcases cases3 b o e with h | ⟨m,rfl⟩
  ·exact .inl h
  ·obtain⟨⟨ps,g⟩,ic⟩:=tabs b m
   exact .inr (.inl ⟨ic,rfl,#[],ps,rfl,by rw[g];simp⟩)
 ·rcases cases3 b o e with h | ⟨m,rfl⟩
  ·exact⟨o,h⟩
  ·obtain⟨⟨ps,g⟩,_⟩:=tabs b m
   exact⟨_,g⟩
theorem Em {s:Sw}{step:Nat}{ps:Sj Int}{iP i0 i1 i2 i3 i4 i5 iS iX:Nat}{aP a0 a1 a2 a3 a4 a5 aS aX:Sx}{o:Obj}(F:FrR C fx env fm σ s)(H:Shape st fm ring step many ps iP i0 i1 i2 i3 i4 i5 iS iX)
  (hP:σ[iP]? = Si aP) (h0:σ[i0]? = Si a0) (h1:σ[i1]? = Si a1) (h2:σ[i2]? = Si a2) (h3:σ[i3]? = Si a3) (h4:σ[i4]? = Si a4) (h5:σ[i5]? = Si a5) (hS:σ[iS]? = Si aS) (hin:∀a∈[aP,206,213,281,a0,a1,a2,a3,a4,a5,aS,aX],a∈σ) :
  FrR (C.pin aP o) fx env (z6 many) [aP,206,213,281,a0,a1,a2,a3,a4,a5,aS,aX] s:=by
 refine aE (F.ns) λm hn hv=>?_
 have refe:∀{i j:Nat} {a:Sx} {u:Sr} {σ':Sj Sx},VR σ s.heap (.ref i) u->σ[i]? = Si a->σ'[j]? = Si a->VR σ' s.heap (.ref j) u:=λr e e'=>VR.ref_e r λa q=>.ref (e'.trans (e.symm.trans q))
 have loc:qd (λi o=>∀x v,fx.ln[i]? = Si x->o=Si v->∃u,m x=Si u/\VR [aP,206,213,281,a0,a1,a2,a3,a4,a5,aS,aX] s.heap v u) (none::Si (ak many)::none::none::Si (.ref 0)::Si (.ref 10)::Sv 24 (none:SV V)) 0:=
  .cons (λ_ _ _ h=>iq h) (.cons (λx v e h=>Si.inj h▸(hv 1 x _ e H.l1).elim λu q=>⟨u,q.1,VR.int_e q.2 λ_=>.int _ _⟩) (.cons (λ_ _ _ h=>iq h) (.cons (λ_ _ _ h=>iq h) (.cons (λx v e h=>Si.inj h▸(hv 4 x _ e H.l4).elim λu q=>⟨u,q.1,refe q.2 hP rfl⟩)
   (.cons (λx v e h=>Si.inj h▸(hv 5 x _ e H.l5).elim λu q=>⟨u,q.1,refe q.2 hS rfl⟩) (th (λ_ _ _ _ h=>iq h) 24 6))))))
 have go:∀{k ii n:Nat} {a:Sx},[i0,i1,i2,i3,i4,i5][k]? = Si ii->σ[ii]? = Si a->[aP,206,213,281,a0,a1,a2,a3,a4,a5,aS,aX][n]? = Si a->∃x a,fx.cn[k]? = Si x/\env.cells.lookup x=Si a/\[aP,206,213,281,a0,a1,a2,a3,a4,a5,aS,aX][n]? = Si a:=λ{k ii n a} e1 e2 e3=>by
  refine gw (F.cel k ii (H.cel▸e1)) λx a' q1 q2 q3=>?_
  exact⟨x,a',q1,q2,e3.trans (e2.symm.trans q3)⟩
 have cel:qd (λi n=>∃x a,fx.cn[i]? = Si x/\env.cells.lookup x=Si a/\[aP,206,213,281,a0,a1,a2,a3,a4,a5,aS,aX][n]? = Si a) [4,5,6,7,8,9] 0:=
  .cons (go rfl h0 rfl) (.cons (go rfl h1 rfl) (.cons (go rfl h2 rfl) (.cons (go rfl h3 rfl) (.cons (go rfl h4 rfl) (.cons (go rfl h5 rfl) .nil)))))
 exact⟨⟨m,hn,λi x v e e'=>zH loc e' x v e rfl⟩,λq=>F.out (hin _ q),F.new,So (Ub H.len.symm) F.len,λi n e=>zH cel e⟩
end
section
variable {prog:Program}{w:World}{p:Program}{loose:List Str}{mean:ExcName->Option Value}{mg mb:Str->Option Value}{aaV:Shared}{fa l:Addr}{vs:List Value}{xs:List Int}
inductive D7 (fm:Fm)(st:St):Prop
 | mk (ring step many head iP i0 i1 i2 i3 i4 i5 iS iX:Nat) (V:tV ring step many) (h:head<ring) (H:Shape st fm ring step many (fI ring step many head) iP i0 i1 i2 i3 i4 i5 iS iX)
theorem D4 (r:VR σ h v u):isTrue1 v=Sk->u=.bool Sk:=by
 induction r using VR.cases_e with
 | bool b=>exact λhv=>SU Sr.bool hv
 | _=>exact ff
open Classical in
theorem Ey (W:BaseT (gF prog w p loose mg mb aaV l vs) w.params)(X:(KH w.params).In aaV.heap)(T:Top p loose mean mg mb aaV.heap)(hT:∀P∈([206,213,281]:Sj Sx),aaV.heap.get? P=Si (aaC #[]))(hg:aaV.gens=#[])(hmg:mg "law"=Si (.ref fa))(hl:aaV.heap.get? l=Si (cB vs 0))(hI:UK vs xs)(hlen:xs.length<=63)
  (second:∀ring step many pl,tV ring step many->zx step ring (many+1) (ak many) (.ref 0) (.ref 10) 4 5 6 7 8 9 (fh pl ring step) (λv _=>isTrue1 v)=Sk) (hQ:∀s',OldK aaV.heap s'.heap->s'.os=aaV.os->UZ s'.gens->Q (.bool Sk) s'):Ss (model prog w) callerA (call (.ref fa) [.ref l]) Q E aaV:=by
 have e:=mg_of X T.g (n:="law") (v:=.ref 304) (by kernel_rfl)
 rw[hmg] at e
 cases e
 have I:=Eu (prog:=prog) (w:=w) (p:=p) (loose:=loose) (mg:=mg) (mb:=mb) hT hl hI
 have e6:(au (aZ (KH w.params) 304).scope .cell).length=6:=by kernel_rfl
 have e30:(au (aZ (KH w.params) 304).scope .local).length=30:=by kernel_rfl
 have R:Rm 59 callerA:=⟨(bo rfl),(bo rfl),rfl⟩
 refine BM (l:=[V.ref 0]) (us:=[.ref l]) W.ok W.o27 (Sj.take_append_drop 6 _).symm W.b27a R I (.cons (.ref (n:=0) rfl) .nil) (P:=λfm st=>decide (D7 fm st)) rfl ?_ ?_
 ·rw[e6,e30]
  exact Hg hlen _ (λfm st ring step many head iP i0 i1 i2 i3 i4 i5 iS iX a b c=>Tu ⟨ring,step,many,head,iP,i0,i1,i2,i3,i4,i5,iS,iX,a,b,c⟩)
 ·intro env σ fm st s En S I' F dL h
  obtain⟨ring,step,many,head,iP,i0,i1,i2,i3,i4,i5,iS,iX,hV,hh,H⟩:=S8 h
  obtain⟨aP,vP,n,a0,a1,a2,a3,a4,a5,aS,aX,hP,h0,h1,h2,h3,h4,h5,hS,hIv,gP,hin,Ir⟩:=G6 rfl I' H
  have W':=Bb W aP (cB vP n)
  have F':=Em (o:=cB vP n) F H hP h0 h1 h2 h3 h4 h5 hS (λa m=>by
   refine aE (hin a m) λi hi _=>?_
   exact Su hi)
  have hfull:=(pF ring (by have:=hV.r;lia) step (by have:=hV.s;lia) hV.r.1 hV.s.1 hV.ne).2
  have hm:=hV.m
  have hr:=hV.r
  have b:=W'.b28 (a:=aP) (vs:=vP) (n:=n) (.head _) hIv (HN (ring:=ring) (step:=step) (many:=many) (head:=head) (by lia) (by lia) (by lia) hh)
  have q:=b (callerA.deeper env) env _ (z6 many) _ s (K0 λv _=>isTrue1 v) R.deeper En Ir F' ((Dx step ring (many+1) (ak many) (.ref 0) (.ref 10) 4 5 6 7 8 9 _ _).trans (second ring step many _ hV))
  refine Sq q (λf s'' z=>?_) λ_ _ z=>z
  obtain⟨σ'',fl,fm'',st'',S'',I'',F'',r,hv⟩:=z
  clear q b hm hr hfull F' H F Ir hIv gP second
  revert hv
  refine FlR.e r ff ff ff λ{v u} r hv=>⟨u,rfl,?_⟩
  have e:u=.bool Sk:=D4 r hv
  have g0:=I'.fix 0 l _ (.head _)
  refine bG (g0.2.2.2) λll hll=>?_
  refine e.symm▸hQ s'' (BB W' X hT hl (S''.keep l _ (λm=>?_) (λm=>?_) g0.2.2.1) I'') (S''.os.trans S.os) (S''.gens (S.gens (hg.symm▸λy hy=>nomatch hy)))
  ·refine aE (hin l m) λi hi hor=>?_
   have z:i=0:=I'.inj hi g0.2.1
   exact hor.elim (λq=>Tc (show 4<=0 from z▸q) (by decide)) λq=>nomatch hll.symm.trans (show st.look 0=Si .hid from z▸q)
  ·exact iq (dL.symm.trans (Sn.mp m▸hl))
end
noncomputable section
noncomputable def Pw (v:V):Sm:=match v with | .bool b=>b | _=>dV
def rn (pl:Sj V)(ring step many:Nat):Sm:=zx step ring (many+1) (ak many) (.ref 0) (.ref 10) 4 5 6 7 8 9 (fh pl ring step) (λv _=>Pw v)
end
theorem bb {P:Nat->Prop}{a b:Nat}(h:P a)(t:∀m,a+1<=m->m<b->P m):∀m,a<=m->m<b->P m:=λm h1 h2=>(Nat.eq_or_lt_of_le h1).elim (λe=>e▸h) λl=>t m l h2
theorem ji {P:Nat->Prop}{a:Nat}:∀m,a<=m->m<a->P m:=λ_ h1 h2=>Tc h2 (Uo.mpr h1)
theorem BK {f:Nat->Sm}:∀{l:Sj Nat},gv f l=Sk->∀m∈l,f m=Sk
 | [],_,_,h=>by cases h
 | x::l,h,m,hm=>by
  obtain⟨h1,h2⟩:=eH h
  rcases SD.mp hm with rfl | hm
  ·exact h1
  ·exact BK h2 m hm
abbrev Rn (ring step:Nat):Prop:=2*step≠ring->∀pl,gv (rn pl ring step) (Zx 2 (iQ step ring - 2))=Sk
theorem PW:Rn 8 1:=λ_ _=>by kernel_rfl
theorem Pz:Rn 8 2:=λ_ _=>by kernel_rfl
theorem Ra:Rn 8 3:=λ_ _=>by kernel_rfl
theorem Qc:Rn 8 5:=λ_ _=>by kernel_rfl
theorem O2:Rn 8 6:=λ_ _=>by kernel_rfl
theorem Pi:Rn 8 7:=λ_ _=>by kernel_rfl
theorem Qp:Rn 9 1:=λ_ _=>by kernel_rfl
theorem PG:Rn 9 2:=λ_ _=>by kernel_rfl
theorem PZ:Rn 9 3:=λ_ _=>by kernel_rfl
theorem PY:Rn 9 4:=λ_ _=>by kernel_rfl
theorem OI:Rn 9 5:=λ_ _=>by kernel_rfl
theorem Pv:Rn 9 6:=λ_ _=>by kernel_rfl
theorem Qz:Rn 9 7:=λ_ _=>by kernel_rfl
theorem Kv:Rn 10 1:=λ_ _=>by kernel_rfl
theorem Mg:Rn 10 2:=λ_ _=>by kernel_rfl
theorem MH:Rn 10 3:=λ_ _=>by kernel_rfl
theorem Lu:Rn 10 4:=λ_ _=>by kernel_rfl
theorem Kp:Rn 10 6:=λ_ _=>by kernel_rfl
theorem M4:Rn 10 7:=λ_ _=>by kernel_rfl
theorem N5:Rn 11 1:=λ_ _=>by kernel_rfl
theorem NL:Rn 11 2:=λ_ _=>by kernel_rfl
theorem LM:Rn 11 3:=λ_ _=>by kernel_rfl
theorem Lk:Rn 11 4:=λ_ _=>by kernel_rfl
theorem JO:Rn 11 5:=λ_ _=>by kernel_rfl
theorem MC:Rn 11 6:=λ_ _=>by kernel_rfl
theorem LH:Rn 11 7:=λ_ _=>by kernel_rfl
theorem Je:Rn 12 1:=λ_ _=>by kernel_rfl
theorem NH:Rn 12 2:=λ_ _=>by kernel_rfl
theorem Nx:Rn 12 3:=λ_ _=>by kernel_rfl
theorem MT:Rn 12 4:=λ_ _=>by kernel_rfl
theorem Ln:Rn 12 5:=λ_ _=>by kernel_rfl
theorem N4:Rn 12 7:=λ_ _=>by kernel_rfl
theorem Jr:Rn 13 1:=λ_ _=>by kernel_rfl
theorem Lh:Rn 13 2:=λ_ _=>by kernel_rfl
theorem Lm:Rn 13 3:=λ_ _=>by kernel_rfl
theorem L5:Rn 13 4:=λ_ _=>by kernel_rfl
theorem MD:Rn 13 5:=λ_ _=>by kernel_rfl
theorem NS:Rn 13 6:=λ_ _=>by kernel_rfl
theorem LX:Rn 13 7:=λ_ _=>by kernel_rfl
theorem JA:Rn 14 1:=λ_ _=>by kernel_rfl
theorem Nd:Rn 14 2:=λ_ _=>by kernel_rfl
theorem KA:Rn 14 3:=λ_ _=>by kernel_rfl
theorem MV:Rn 14 4:=λ_ _=>by kernel_rfl
theorem Ny:Rn 14 5:=λ_ _=>by kernel_rfl
theorem JP:Rn 14 6:=λ_ _=>by kernel_rfl
theorem JH:Rn 15 1:=λ_ _=>by kernel_rfl
theorem JN:Rn 15 2:=λ_ _=>by kernel_rfl
theorem JE:Rn 15 3:=λ_ _=>by kernel_rfl
theorem Jn:Rn 15 4:=λ_ _=>by kernel_rfl
theorem NT:Rn 15 5:=λ_ _=>by kernel_rfl
theorem Ml:Rn 15 6:=λ_ _=>by kernel_rfl
theorem M8:Rn 15 7:=λ_ _=>by kernel_rfl
theorem zF:∀ring,8<=ring->ring<16->∀step,1<=step->step<8->Rn ring step:=bb (bb PW (bb Pz (bb Ra (bb (λh=>Tc rfl h) (bb Qc (bb O2 (bb Pi (ji)))))))) (bb (bb Qp (bb PG (bb PZ (bb PY (bb OI (bb Pv (bb Qz (ji)))))))) (bb (bb Kv (bb Mg (bb MH (bb Lu (bb (λh=>Tc rfl h) (bb Kp (bb M4 (ji)))))))) (bb (bb N5 (bb NL (bb LM (bb Lk (bb JO (bb MC (bb LH (ji)))))))) (bb (bb Je (bb NH (bb Nx (bb MT (bb Ln (bb (λh=>Tc rfl h) (bb N4 (ji)))))))) (bb (bb Jr (bb Lh (bb Lm (bb L5 (bb MD (bb NS (bb LX (ji)))))))) (bb (bb JA (bb Nd (bb KA (bb MV (bb Ny (bb JP (bb (λh=>Tc rfl h) (ji)))))))) (bb (bb JH (bb JN (bb JE (bb Jn (bb NT (bb Ml (bb M8 (ji)))))))) (ji))))))))
theorem tH (ring step many:Nat)(pl:Sj V)(h:tV ring step many):rn pl ring step many=Sk:=
 BK (zF ring h.r.1 (by have:=h.r;omega) step h.s.1 (by have:=h.s;omega) h.ne pl) many (Sj.mem_range'_1.mpr ⟨h.m.1,by have:=h.m;omega⟩)
end Mine.Internal
namespace Mine.law_holds
theorem tw2872812170981058569:True:=⟨⟩
theorem tw11657415642715253595:True:=⟨⟩
theorem tw3310931918178840333:True:=⟨⟩
theorem tw13536078969547264968:True:=⟨⟩
theorem tw2482802953670953974:True:=⟨⟩
theorem tw7443399042715001268:True:=⟨⟩
theorem tw2217470429024006811:True:=⟨⟩
theorem tw15732109348078318572:True:=⟨⟩
theorem tw1035469204868569938:True:=⟨⟩
theorem tw10239797524603225521:True:=⟨⟩
theorem tw9691405638274900075:True:=⟨⟩
theorem tw9664006263252764366:True:=⟨⟩
theorem tw16985797341776711866:True:=⟨⟩
theorem tw4834441640324335382:True:=⟨⟩
theorem tw4946720094412051239:True:=⟨⟩
theorem tw2643271747718453845:True:=⟨⟩
theorem tw575232530192455986:True:=⟨⟩
theorem tw17974257514489008736:True:=⟨⟩
theorem tw11126432536435168541:True:=⟨⟩
theorem tw8514742172934523775:True:=⟨⟩
theorem tw3253820488102484341:True:=⟨⟩
theorem tw1767730674963353768:True:=⟨⟩
theorem tw15162217921772873613:True:=⟨⟩
theorem tw16805829885119392726:True:=⟨⟩
theorem tw11677100312832694166:True:=⟨⟩
theorem tw15154110283740273250:True:=⟨⟩
theorem tw13431030151845061361:True:=⟨⟩
theorem tw10609929442622069884:True:=⟨⟩
theorem tw6934448944433832347:True:=⟨⟩
theorem tw455179833554555240:True:=⟨⟩
theorem tw10368410895845634921:True:=⟨⟩
theorem tw545109181885906688:True:=⟨⟩
theorem tw12831907817818079685:True:=⟨⟩
theorem tw3426384778480675251:True:=⟨⟩
theorem tw5274592661964301406:True:=⟨⟩
theorem tw15274831704391544125:True:=⟨⟩
theorem tw12116493165278983582:True:=⟨⟩
theorem tw18326849912455186884:True:=⟨⟩
theorem tw3438298445031660282:True:=⟨⟩
theorem tw11100686419730198450:True:=⟨⟩
theorem tw179590077315354965:True:=⟨⟩
theorem tw8441880690091102137:True:=⟨⟩
theorem tw14498155544194170393:True:=⟨⟩
theorem tw498061464947678834:True:=⟨⟩
theorem tw17713402740875732926:True:=⟨⟩
theorem tw3776956092104397036:True:=⟨⟩
theorem tw10007947361888340627:True:=⟨⟩
theorem tw11484002064277903863:True:=⟨⟩
theorem tw9843604407834444796:True:=⟨⟩
theorem tw14991590004735058009:True:=⟨⟩
theorem tw8634839017697508684:True:=⟨⟩
theorem tw13882729330811710610:True:=⟨⟩
theorem tw5506821171919863439:True:=⟨⟩
theorem tw11182679623053108816:True:=⟨⟩
theorem tw11544315989524547432:True:=⟨⟩
theorem tw6861490101519172755:True:=⟨⟩
theorem tw8176227357466254829:True:=⟨⟩
theorem tw17993387198741990920:True:=⟨⟩
theorem tw11470271118054631628:True:=⟨⟩
theorem tw17942709131360195518:True:=⟨⟩
theorem tw447027507633508388:True:=⟨⟩
theorem tw7304591109411159013:True:=⟨⟩
theorem tw1622690429015379626:True:=⟨⟩
theorem tw13956741780833797525:True:=⟨⟩
theorem tw7636989558263936852:True:=⟨⟩
theorem tw14326059299131336239:True:=⟨⟩
theorem tw17253903310271361901:True:=⟨⟩
theorem tw4273555757443719353:True:=⟨⟩
theorem tw14385925486924208373:True:=⟨⟩
theorem tw576407869801174206:True:=⟨⟩
theorem tw1905533677188600702:True:=⟨⟩
theorem tw18340598423539479173:True:=⟨⟩
theorem tw3882201998751590657:True:=⟨⟩
theorem tw8909828626151137519:True:=⟨⟩
theorem tw8666519363043736892:True:=⟨⟩
theorem tw6765152471904792315:True:=⟨⟩
theorem tw13220211186989608806:True:=⟨⟩
theorem tw2102315897755806987:True:=⟨⟩
theorem tw2006301483956418059:True:=⟨⟩
theorem tw4889031023730116350:True:=⟨⟩
theorem tw13780023080261437657:True:=⟨⟩
theorem tw1989176631692091739:True:=⟨⟩
theorem tw7407239408455114201:True:=⟨⟩
theorem tw18203989763732354715:True:=⟨⟩
theorem tw12780804625047726367:True:=⟨⟩
theorem tw4593294709026258786:True:=⟨⟩
theorem tw519298541982818421:True:=⟨⟩
theorem tw10958410103948607464:True:=⟨⟩
theorem tw9875236377963488844:True:=⟨⟩
theorem tw8285764192309689115:True:=⟨⟩
theorem tw15448297888555860652:True:=⟨⟩
theorem tw8957123355933967898:True:=⟨⟩
theorem tw9849722394096787677:True:=⟨⟩
theorem tw12223724995276690173:True:=⟨⟩
theorem tw14160533322030094474:True:=⟨⟩
theorem tw16470317323979864763:True:=⟨⟩
theorem tw5108549723967310274:True:=⟨⟩
theorem tw4116831888350618822:True:=⟨⟩
theorem tw6709271908398517637:True:=⟨⟩
theorem tw14997073306097389879:True:=⟨⟩
theorem tw15452448965706171373:True:=⟨⟩
theorem tw14774650325386425613:True:=⟨⟩
theorem tw14571795756577361901:True:=⟨⟩
theorem tw11609493526922420660:True:=⟨⟩
theorem tw18269650602155537469:True:=⟨⟩
theorem tw15607887362523206001:True:=⟨⟩
theorem tw15014403891855920072:True:=⟨⟩
theorem tw13280740594461564331:True:=⟨⟩
theorem tw10242277825702978295:True:=⟨⟩
theorem tw3956099054510807996:True:=⟨⟩
theorem tw2644310842459337959:True:=⟨⟩
theorem tw2136269947727277649:True:=⟨⟩
theorem tw10666784280354678857:True:=⟨⟩
theorem tw1928719863018725356:True:=⟨⟩
theorem tw16883458599210261866:True:=⟨⟩
theorem tw14390095281932903014:True:=⟨⟩
theorem tw12459966957829302596:True:=⟨⟩
theorem tw15472126771306010800:True:=⟨⟩
theorem tw3850334171643177529:True:=⟨⟩
theorem tw4037582482628031876:True:=⟨⟩
theorem tw2269544990204364226:True:=⟨⟩
theorem tw16406091861079842607:True:=⟨⟩
theorem tw9288214680346807717:True:=⟨⟩
theorem tw2856731137302751260:True:=⟨⟩
theorem tw12303009252429188658:True:=⟨⟩
theorem tw8249079356659094474:True:=⟨⟩
theorem tw907578622648922086:True:=⟨⟩
theorem tw10188763426450519768:True:=⟨⟩
theorem tw12115171985352901274:True:=⟨⟩
theorem tw4030767218360268280:True:=⟨⟩
theorem tw6911747868599837429:True:=⟨⟩
theorem tw4441770287765753910:True:=⟨⟩
theorem tw13709617746848070560:True:=⟨⟩
theorem tw8369274380968253667:True:=⟨⟩
theorem tw10024239376800412576:True:=⟨⟩
theorem tw10028117763298573888:True:=⟨⟩
theorem tw10465528174321978529:True:=⟨⟩
theorem tw10566571302883470556:True:=⟨⟩
theorem tw10817052189556005596:True:=⟨⟩
theorem tw11097350217990362986:True:=⟨⟩
theorem tw11098625913536864229:True:=⟨⟩
theorem tw11289095316329951393:True:=⟨⟩
theorem tw11404014056486942332:True:=⟨⟩
theorem tw11625900857008200698:True:=⟨⟩
theorem tw11633083819707477107:True:=⟨⟩
theorem tw11690447701083486646:True:=⟨⟩
theorem tw11781800970755023335:True:=⟨⟩
theorem tw11803358882649189518:True:=⟨⟩
theorem tw11846676642670509255:True:=⟨⟩
theorem tw1186782194237197914:True:=⟨⟩
theorem tw11924911360389889469:True:=⟨⟩
theorem tw11966672015165255308:True:=⟨⟩
theorem tw12134408205421670959:True:=⟨⟩
theorem tw12296726922439171297:True:=⟨⟩
theorem tw123295346585929383:True:=⟨⟩
theorem tw12342728606916771844:True:=⟨⟩
theorem tw12626328134170644701:True:=⟨⟩
theorem tw12732824653754844360:True:=⟨⟩
theorem tw1285599515219305098:True:=⟨⟩
theorem tw12889673554181485818:True:=⟨⟩
theorem tw13028658284911697911:True:=⟨⟩
theorem tw13182730311906835528:True:=⟨⟩
theorem tw13301187468288870568:True:=⟨⟩
theorem tw13392613628428298086:True:=⟨⟩
theorem tw13397297893571687751:True:=⟨⟩
theorem tw13402424001964919149:True:=⟨⟩
theorem tw13478230802861573701:True:=⟨⟩
theorem tw13650905803964671038:True:=⟨⟩
theorem tw13766487248619392586:True:=⟨⟩
theorem tw1377309892636839040:True:=⟨⟩
theorem tw13800757232730249582:True:=⟨⟩
theorem tw1385162719727133579:True:=⟨⟩
theorem tw14051398506283589457:True:=⟨⟩
theorem tw1414043511812021011:True:=⟨⟩
theorem tw14289194402921355359:True:=⟨⟩
theorem tw14335913921861858828:True:=⟨⟩
theorem tw14497384708736915567:True:=⟨⟩
theorem tw14545874151571354728:True:=⟨⟩
theorem tw14596297492920191028:True:=⟨⟩
theorem tw14828999820898988419:True:=⟨⟩
theorem tw14883556706271630602:True:=⟨⟩
theorem tw14983226153234331074:True:=⟨⟩
theorem tw14988988175077273356:True:=⟨⟩
theorem tw15006436103509636135:True:=⟨⟩
theorem tw15609566024721092083:True:=⟨⟩
theorem tw15617896438947887921:True:=⟨⟩
theorem tw15661869461025623997:True:=⟨⟩
theorem tw15694993059591697976:True:=⟨⟩
theorem tw15802469936163623734:True:=⟨⟩
theorem tw16098122237329998606:True:=⟨⟩
theorem tw16099233806120587224:True:=⟨⟩
theorem tw16106779387088534511:True:=⟨⟩
theorem tw16273140198857503625:True:=⟨⟩
theorem tw16563099163409725306:True:=⟨⟩
theorem tw1670043908289496885:True:=⟨⟩
theorem tw16836969012518115619:True:=⟨⟩
theorem tw16893121556090616931:True:=⟨⟩
theorem tw1689763614830377041:True:=⟨⟩
theorem tw17027635718292003107:True:=⟨⟩
theorem tw17180001009569633970:True:=⟨⟩
theorem tw17237755526102222789:True:=⟨⟩
theorem tw17253691774821329096:True:=⟨⟩
theorem tw17499823404086765753:True:=⟨⟩
theorem tw1762888911704233025:True:=⟨⟩
theorem tw17911580528928914924:True:=⟨⟩
theorem tw1819975233463548508:True:=⟨⟩
theorem tw18234560199702728603:True:=⟨⟩
theorem tw18254337876149969668:True:=⟨⟩
theorem tw2055734563569237896:True:=⟨⟩
theorem tw2075624079617657780:True:=⟨⟩
theorem tw2124134355350193313:True:=⟨⟩
theorem tw2152083551845799040:True:=⟨⟩
theorem tw2387193687640843687:True:=⟨⟩
theorem tw2503670479209048990:True:=⟨⟩
theorem tw2558664710541493025:True:=⟨⟩
theorem tw2907507879108658156:True:=⟨⟩
theorem tw3158129796062787159:True:=⟨⟩
theorem tw3186734533307500241:True:=⟨⟩
theorem tw3253568177066640346:True:=⟨⟩
theorem tw3742325753681652743:True:=⟨⟩
theorem tw3756308257209627903:True:=⟨⟩
theorem tw3850375180904979519:True:=⟨⟩
theorem tw3850404396616230974:True:=⟨⟩
theorem tw3912811242725288453:True:=⟨⟩
theorem tw4329158554759489670:True:=⟨⟩
theorem tw4439653461905209652:True:=⟨⟩
theorem tw4464252984393422682:True:=⟨⟩
theorem tw4503035019201841076:True:=⟨⟩
theorem tw4515466672771955728:True:=⟨⟩
theorem tw4581845663705801772:True:=⟨⟩
theorem tw4614512636035447770:True:=⟨⟩
theorem tw4818577856007422655:True:=⟨⟩
theorem tw4916342969005030805:True:=⟨⟩
theorem tw4992725456586698614:True:=⟨⟩
theorem tw5112083995522966620:True:=⟨⟩
theorem tw5212653520564569363:True:=⟨⟩
theorem tw5731563423909890137:True:=⟨⟩
theorem tw5769158387606399586:True:=⟨⟩
theorem tw602461330855297101:True:=⟨⟩
theorem tw6159533029260741167:True:=⟨⟩
theorem tw6317479115527610633:True:=⟨⟩
theorem tw6499956759230125245:True:=⟨⟩
theorem tw6507877686720480950:True:=⟨⟩
theorem tw653560878884961445:True:=⟨⟩
theorem tw6564709946809587534:True:=⟨⟩
theorem tw6667284449218939238:True:=⟨⟩
theorem tw6723812968561706957:True:=⟨⟩
theorem tw676263390381983339:True:=⟨⟩
theorem tw6776455111828631412:True:=⟨⟩
theorem tw6869992995446874880:True:=⟨⟩
theorem tw6896717019858035522:True:=⟨⟩
theorem tw7120836010843673076:True:=⟨⟩
theorem tw718173064312146323:True:=⟨⟩
theorem tw7221428835167493151:True:=⟨⟩
theorem tw724200737284857819:True:=⟨⟩
theorem tw7408322871517469003:True:=⟨⟩
theorem tw7696488724909661519:True:=⟨⟩
theorem tw7820799176418779761:True:=⟨⟩
theorem tw7910590604623066228:True:=⟨⟩
theorem tw8549365171731915398:True:=⟨⟩
theorem tw8553002610548859549:True:=⟨⟩
theorem tw8652346329174877282:True:=⟨⟩
theorem tw8720880381367431298:True:=⟨⟩
theorem tw8785698371604719795:True:=⟨⟩
theorem tw8835965917227929528:True:=⟨⟩
theorem tw8854015012368427407:True:=⟨⟩
theorem tw8857742495270377987:True:=⟨⟩
theorem tw9069877914133315304:True:=⟨⟩
theorem tw9184033795430018204:True:=⟨⟩
theorem tw9423440377400516374:True:=⟨⟩
theorem tw9529696498207198238:True:=⟨⟩
theorem tw9552830710289189752:True:=⟨⟩
theorem tw9682718004065560343:True:=⟨⟩
end Mine.law_holds
namespace Mine.Internal
open PySem PySem.Spec PySem.Calls PyProof.Rows PySem.W Builtin Builtin.ObjectAttr
open _root_.Bool renaming false→dV,true→Sk,and_eq_true→Ta,rec→Ti,noConfusion→UA,false_ne_true→VD,not_eq_true'→VY,true_and→Wi,false_and→WE,and_false→WH,or_eq_false_iff→Xp,and_eq_true_iff→Zs
open _root_.PySem renaming wpAny_bind→kV,wpAny_pure→Sl,wpAny_mono→Sq,Value→Sr,wpAny→Ss,Shared→Sw,Addr→Sx,wpAny_holding→SR,mainGlobals→S4,foldedSetIterable→Tv,wpAny_Call_Name_kw→TB,letOwnedTupleGo→TC,wpAny_standAt→TF,wpAny_field→TH,wpAny_newObj_type→TK,wpAny_of_eq→TT,starEach→T4,wpAny_seqItems→T6,wpAny_callSpecial?_slot→T7,wpAny_loadName_local→T8,builtinsNs→Ua,assignEach→Uc,Around→Ue,BindsTo→Ug,wpAny_call_entry→Uh,IsRangeIter→Uk,wpAny_storeName_local→Ut,seg_execs_cons→Uw,slot_list_append→UD,standAt→UG,IsPair→UI,wpAny_truthy_bool→UL,wpAny_call→UM,isInstance→UN,pyNext→UO,codeAny_builtin→US,DictEntry→UW,sizeLine→U0,codeAny_call_builtin→U1,codeAny→U4,wpAny_rule→U5,wpAny_updateSeq→U6,isTrue→Vb,sizeLine_eq→Vc,builtinKind→Vd,wpAny_isInstance→Vg,type_list_append→Vh,PyData→Vi,slot_listiter_next→Vj,wpAny_setField_rec→Vl,numAt→Vm,wpAny_specialOf→Vn,wpAny_letGo→Vs,wpAny_attempt→Vu,checkBoundCall→Vx,clipAt→VB,rawInt→VC,newEnv→VF,codeAny_mono→VG,getAttrByItsOwn→VK,IsZip→VN,swapsWith→VO,swappedStores→VP,wpAny_isTrue_Compare1→VS,slot_list_getitem→VX,wpAny_Name→V0,letTemporaryGo→V3,typeIs_str→V4,wpAny_listPart→V5,seqIndex?→Wb,plainId_quiet→Wo,theTreesLotGoes→Wr,wpAny_Constant_int→Wt,call_meets→Wu,argsOk→Ww,seqItems?→Wy,getMethod→Wz,boundAndCalled→WI,wpAny_loadPart→WK,wpAny_pyNext_list_item→WM,wpAny_pyIter_list→WN,IsRange→WQ,wpAny_pyIter_enum→WR,newFunctionEnv→WT,GenState→WX,wpAt→WY,ks_wpAt_mono→WZ,wpAny_tryCatch→W0,recursionLimit→W1,wpAny_pyNext_list_end→W4,codeAny_call_function→W6,codeAmong→W8,backTo→W9,typeIs_int→Xa,checkBuiltinCall→Xb,wpAny_load→Xd,preSum→Xf,swapsWithSole→Xl,wpAt_of_wpAny→Xm,seg_execs_nil→Xn,callWith→Xr,callSpecialIfBoundUnlessNone?→Xs,typeOf→Xv,codeAny_of_tree→Xy,wpAny_loadPart'→Xz,wpAny_Constant_none→XE,wpAny_Constant_bool→XF,builtinType_eq_fast→XH,callSpecial?→XK,getItem→XM,loadGlobal→XS,pyIter→XT,wpAny_pyIter_range→XU,wpAny_isTrue_value→XW,FuncData→XX,bindArgs→XZ,firstArgMember→X0,slicePicked→Yg,slot_list_setitem→Yh,argBest→Yk,wpAny_assign_Name→Yl,evalPart_none→Yn,wpAny_comprehension_free→Yp,wpAny_onRaise→Yq,TriplesOk→Ys,binaryOp→Yt,callGetattribute→Yx,wpAny_askSetting→Yy,wpAny_listSubscript_int→Yz,wpAny_getItem_str_slice→YB,strValues→YD,noteFrame→YG,wpAny_allTrue_And_cons→YL,wpAny_mkText→YN,wpAny_getItem_list_neg→YP,wpAny_typeOf→YQ,closureFor→YU,codeAny_compStart_list→YV,wpAny_allTrue_Or_cons→Y0,wpAny_pyIter_listiter→Y3,exec_Assign_Name_used→Y4,builtinLookup_eq_fast→Y5,slot_list_iter→Zk,keywordEach→Zl,wpAny_alloc→Zn,compPost→Zq,isSubtype_stop→Zr,seg_Expr_Yield→Zt,splitId→ZD,setItem→ZE,updateSeq→ZF,newList→ZG,behindInMarks→ZR,evalPart_some→ZT,wpAny_release→ZU,assignInOrder→ZV,compTurn_list→ZX,wpAny_handled→ZY,wpAny_newList→Z0,call_range_1→aad,compTurn→aag,isSubtype→aar,specialOf→aas,storeName→aat,inplaceOp→aau,IsEnum→aaw,IsPart→aaM
open _root_.Option renaming some→Si,isSome_iff_exists→S7,map_some→Uz,bind_some→Vf,map_eq_some_iff→VI,rec→Z1
open _root_ renaming List→Sj,Bool→Sm,if_neg→SK,congrArg→SU,Option→SV,if_pos→SX,of_decide_eq_true→S8,absurd→Tc,decide_eq_false→Tt,decide_eq_true→Tu
open _root_.List renaming mem_singleton→Sn,mem_of_getElem?→Su,replicate→Sv,size_toArray→Sy,getElem?_eq_getElem→Sz,mem_cons→SD,getElem?_eq_some_iff→SJ,length_append→SY,rec→S5,length_map→S6,forall_mem_cons→Tb,all_eq_true→Te,length_cons→Tg,mem_append→Tj,getElem?_append_left→Tp,map_cons→Tx,flatten_cons→TJ,getElem?_map→TM,replicate_succ→TN,getD_eq_getElem?_getD→TR,length_replicate→TS,append_nil→TV,getElem?_append_right→T5,map_map→Ud,mem_append_left→Un,range→Up,getElem?_toArray→Uu,mem_range→Uv,forIn_cons→Uy,lookup_cons→UC,take_of_length_le→UP,mem_map_of_mem→UQ,pairwise_iff_getElem→UU,append_assoc→U3,map_congr_left→U9,head?_drop→Vo,map_append→Vp,nodup_append→Vq,sum_cons→Vv,nodup_cons→VL,length_nil→VM,length_singleton→VW,getElem?_of_mem→V8,cons_append→Wc,getElem?_eq_none_iff→We,length_eq_zero_iff→Wx,getElem?_cons_succ→WC,getElem?_replicate→WD,length_range→WL,forIn_nil→WS,take_add_one→WU,range_succ_eq_map→WV,drop_drop→W3,getElem?_eq_none→W5,getElem_map→Xh,map_take→Xo,drop_eq_nil_iff→Xq,nil_append→XA,mem_map→XN,map_replicate→Ya,drop_eq_getElem_cons→Yb,getElem?_zip_eq_some→Yd,all_toArray→Yu,length_take→YC,find?_cons_of_neg→YM,mem_filter→YZ,dropLast_eq_take→Y6,cons_lt_cons_iff→Y9,mem_append_right→Za,singleton_append→Zb,perm_append_comm→Zc,lookup→Zo,mem_cons_of_mem→Zp,lt_irrefl→Zu,range'→Zx,range_eq_range'→Zy,foldl_toArray'→ZN,getElem_of_mem→ZP,filterMap_map→Z2,mem_cons_self→Z3,mem_replicate→Z7,push_toArray→aah,ext_getElem?→aal,any_toArray→aap,any_eq_true→aaq,not_mem_nil→aay,perm_middle→aaB,Perm→aaT
open _root_.Nat renaming le_trans→So,le_of_ble_eq_true→Sp,lt_of_lt_of_le→SH,beq→SN,lt_trans→SO,ne_of_lt→SP,eq_of_beq_eq_true→SQ,le_refl→SW,ble→SZ,exists_eq_add_of_le'→S0,lt_succ_self→S1,le_add_right→Td,rec→Tf,zero_le→Th,lt_of_le_of_lt→Tn,lt_succ_of_lt→To,lt_irrefl→Tq,add_le_add_left→Tw,ne_of_gt→Tz,succ→TA,le_of_lt→TP,le_add_left→TQ,succ_le_succ→TU,ble_eq_true_of_le→TZ,le_succ→T2,le_of_eq→Ub,succ_add_eq_add_succ→Ui,lt_succ_of_le→Ul,not_lt→Uo,le_antisymm→UR,not_lt_zero→U7,le_succ_of_le→Vt,beq_refl→Vz,le_of_sub_eq_zero→VV,lt_add_one→V2,add_le_add→V7,lt_of_not_le→V9,zero_add→Wd,add_right_comm→Ws,lt_of_succ_le→WW,sub_le→Xc,mod_lt→Xi,div→Xj,exists_eq_succ_of_ne_zero→Xt,min_eq_left→Xu,mul_le_mul_left→XD,mul→XI,add_assoc→Ym,mod→YH,succ_pos→YI,sub_succ→YX,lt_of_sub_eq_succ→Y8,add_le_add_right→Ze,one_mul→Zw,add→Zz,mod_two_ne_zero→ZI,add_comm→aaa,lt_trichotomy→aab,add_div_right→aan,le_of_lt_succ→aao,pred→aaP,sub→aaU
open _root_.PySem.Obj renaming mapSeq→S9,data_mapFields→Z5,putName→aaG
open _root_.PySem.Builtin.SmallTypes renaming nextOf→Tr,ownedTupleIsFree→Ux,ownedTupleHandOut→Wh
open _root_.PySem.Builtin.Range renaming rangeSize→Ts
open _root_.Int renaming ofNat→TG,ofNat_eq_natCast→UB,natCast_nonneg→UV,rec→UY,le_of_lt→Wa,negSucc_lt_zero→Wf,lt_trans→XJ,not_lt→XQ,max_eq_right→YA,le_trans→YK,negSucc→Zd,subNatNat_of_le→ZJ,toNat_of_nonneg→ZK,toNat_of_nonpos→ZL,neg→Z9,ofNat_le→aac,toNat_natCast→aak
open _root_.PySem.Builtin.List renaming listItems→TX,listSubscript?→Um,listUpdate→UE,listFitsIndex→UJ
open _root_.PySem.Str renaming ofString→TY
open _root_.PySem.W renaming looks_findIn→T3,emptyDict→Uj,findIn→Uq,InstAt→Us,looks_mroIn→Vr,putName_dict→VA,dictOf→VQ,looks_nsIn→Xe,callWith_of→Yj,methodObj→YF,check_slot→YO,typeIn→YS,instObj→YT,looks_clsIn→Zg,hasDictIn→ZA,codeRec_of→Z6,findCls→aaf,alongIn→aaj,keepIn→aax,specialIn→aaz,tabObj→aaC,clsIn→aaF,kla_obj→aaJ,hideAll→aaK,lookIn→aaL,nsIn→aaN
open _root_.PySem.Value renaming ref→T9,none→XY,isStr→Yf,int→ZH,str→aaS
open _root_.PySem.F renaming plain_min_loop→Ur,slot_list_getattribute→UX,slot_range_iterator_next→Vk,slot_str_split→VJ,slot_str_join→VU,slot_str_getitem→Wj,slot_str_isspace→Wl,args_str_split_2→Wn,ks_slot_super_ga→Wp,entry_str_split→WB,args_list_getattribute_2→WJ,entry_min_loop→W2,type_str_join→W7,args_range_iterator_next_1→XB,slot_zip_next→XC,entry_range_iterator_next→XO,type_str_isspace→Yr,slot_list_index→YE,plain_list_new→YW,entry_list_ga→Y1,slot_tuple_lt→Y7,store_object→Zh
open _root_.PyProof.Rows renaming strKind→UF,IntsAre→UK,seqObj→UT,AllBare→UZ,spliced_more→Va,assignInOrder_cons→VE,assign_Name→Wk,listUpdate_at→Wq,assignInOrder_nil→Yi,args_nil→Yw,Attribute_any_→Zi,tail_any→Zj,subscriptTail→ZS,arrOf→ZZ,SortedToK→aaA
open _root_.PySem.Builtin.Str renaming strSliceIndices→UH,partsBetween→Wm,occurrences→WA,strKind→ZO
open _root_.PySem.Around renaming under_plainId→U2
open _root_.ForInStep renaming yield→U8
open _root_.PySem.PyData renaming keyHash→Vw,int→Vy,canLay0→V1,eqv→Wv,depth→WG,eqvAll→Xk,canLayAll0→Ye,depthAll→YY
open _root_.PySem.Manifest renaming canonical→VH,signature?→Wg
open _root_.Array renaming getElem?_toList→VT,getElem?_eq_some_iff→V6,length_toList→XG,set!_eq_setIfInBounds→XP,getElem_toList→Zv,toList_append→ZQ,size_append→aae,toList_zip→aaD
open _root_.PySem.Builtin.Builtins renaming bindParams→VZ
open _root_.PySem.Calls renaming evalArgs_plain→WO
open _root_.And renaming intro→Xg
open _root_.PySem.Unicode renaming isSpace→Xw
open _root_.List.cons renaming injEq→Xx
open _root_.PySem.Bind renaming checkArgs→XR,madeBy→aaH
open _root_.PySem.Builtin.Generator renaming genWake→Yc
open _root_.PySem.W.Looks renaming of_pure→Yo
open _root_.String.Pos.Raw renaming mk_le_mk→Yv
open _root_.PyProof renaming noPylong_small→YJ
open _root_.PySem.Env renaming kindOf→YR
open _root_.PySem.StrLaws renaming glued_eq_join→Y2
open _root_.PySem.P renaming eq_int→Zf,getItem_str→ZM,iadd_int→aav,len_str→aaI
open _root_.ForIn renaming forIn→Zm
open _root_.PySem.Code renaming quiet_builtin→Z4
open _root_.PySem.callAny renaming viaDunder→aai
open _root_.PySem.Sem renaming bind_eq_wrap'→aam
open _root_.LawfulMonad renaming pure_bind→aaE
open _root_.Array.mk renaming injEq→aaO
open _root_.PyProof.Rows.SortSt renaming mk'→aaQ
open _root_.Function renaming comp→aaR
variable{h:Heap}{C:Cfg}{s:St}{α:Type}{aby:Nat}{fx:Fx}{z a:Addr}{elt:Expr}{σ:List Addr}{x:Str}{es:List Expr}{TI:Addr}{env:Env}{t:Nat}{l:List V}{it:It}{xs:List Int}{gens:List Comprehension}{N:Nat}{dx fa:Addr}{v:V}{st:St}{L:Addr}{gi:eN}{scope:Scope}{fd:FuncData}{af:Addr}{s0:St}{k:V->St->Bool}{c:Nat}{cs:CA}{sc lsc:Scope}{as:CA}{q:List V}{r:T}{j:Nat}{fm:Fm}{d:Nat}{st':St}{B:List Stmt}{Q E:Value->Shared->Prop}{ca cb:CE}{op:OP}{cc:CT}{ce:CE}{en:Expr}{expr:Bool}{tk:Tok}{cd:ClassData}{w:V}{ci:CI}{ct:CT}{R:List Nat}{Ex:Value->Shared->Prop}{orelse:List Stmt}{R₀:Result->Shared->Prop}{qual:Str}{func:Option Addr}{around:Option Env}{ps:List (Bool×Nat)}{d':Nat}{pl:Sem Bool}{co:CE}{apos:Pos}{g:Addr}{tp:Pos}{ifs:List Expr}{acc:Value}{cenv:Env}{target2 iter2:Expr}{ifs2:List Expr}{ty bt:String}{p0:Pos}{xa:Str}{pa pb pt px:Pos}{kt:Nat}{s'':Shared}{t1 t2:Pos}{tc:Tok}{left:Int}{TO:Addr}{e1:Pos}{eg:Expr}{cn cg:CE}{fname:Str}{z0 z1 z2 z3 z4 z5:Pos}{ks:List KP}{clos:List (Str×Addr)}{st1:St}{nl c1 ring:Nat}{cur:List Nat}{many:Nat}{o':O}{s':Shared}{ox:Obj}{gs:xL}{params:Arguments}{xb:Str}{ys:List Int}{ac:Addr}{p:Pos}{A:Around}{items:Array Value}{m:Nat}{f:Value}{target:Expr}{D:Addr}{spos:Pos}{hb:Heap}{i:Nat}{γ:Type}{i1:Addr}{aa0:Shared}{fs:List (Nat×V)}{y:Str}{od:Option Obj}{py:Pos}{b:Addr}{vs:List Value}{n:Nat}{pos:Pos}{β:Type}{G:Addr}{fp:List Addr}{stop:Bool}{h':Heap}{u:Value}{o:O}
section
set_option Elab.async true
noncomputable def BD (K:Frag)(f:Str)(a:Sx):Sm:=match K.lookup a with
 | some oc=>(match oc.data with
  | .fields vs=>(match (vs[2]?:SV Sr) with
   | some (.str file _)=>f == file
   | _=>dV)
  | _=>dV)
 | none=>dV
theorem Bj {K:Frag}{f:Str} (h:BD K f a=Sk):∃oc vs file tf,K.lookup a=Si oc/\oc.data=.fields vs/\vs[2]? = Si (.str file tf)/\(f == file)=Sk:=by
 unfold BD at h
 split at h
 ·rename_i oc e
  split at h
  ·rename_i vs ed
   split at h
   ·rename_i file tf ev
    exact⟨oc,vs,file,tf,e,ed,ev,h⟩
   ·cases h
  ·cases h
 ·cases h
theorem nM {P:Params}:∀{vs:Sj Sr}{xs:Sj Int},WellAll P h vs (xs.map λi=>WData.int i)->UK vs xs
 | _,[],x=>by cases x;exact .nil
 | _,i::r,x=>by
  cases x with
  | cons a b=>
   cases a
   exact .cons _ _ (nM b)
theorem yw {P:Params} {l:Sx} (x:Well P h (.ref l) (ofPy (.list (xs.map Vi.int)))):∃vs,h.get? l=Si (cB vs 0)/\UK vs xs:=by
 have e:ofPy (.list (xs.map Vi.int))=.list (xs.map λi=>WData.int i):=by
  simp only[ofPy,ofPys_eq,Ud]
  rfl
 rw[e] at x
 cases x with
 | list g r=>exact⟨_,g,nM r⟩
section
end
end
end Mine.Internal
namespace Mine
open PySem PySem.Spec PySem.Calls PyProof.Rows PySem.W Builtin Builtin.ObjectAttr
set_option Elab.async true
theorem law_holds:PySem.Challenge.rw_xl0030_01.Holds:=by
 w_on
 o_law
 o_head (kmHook Mine.hd0.heap_1_39 [2,3,15,17,18,20,21,32,34,35,37,38,39,41,42,44,45,46,48,49,51,52,53,55,56,58,59,60,62,63,65,66,67,69,70,72,73,74,76,77,79,80,81,82,83,84,85,95,97,98,100,101,102,104,105,107,108,109,111,112,114,115,116,118,119,121,122,123,125,126,128,129,130,132,133,135,136,137,139,140,142,143,144,146,147,149,150,151,153,154,156,157,158,159,160,161,162,165,168,173,174,175,177,178,180,181,182,184,185,187,188,189,190,192,193,195,196,197,198,200,201,203,204,205,207,208,210,211,212,214,215,217,218,219,220,222,223,225,226,227,229,230,232,233,234,235,237,238,240,241,242,243,244,245,246,249,251,252,254,255,256,258,259,261,262,263,265,266,268,269,270,273,274,275,278,279,280,283,284,285,288,289,290,293,294,295,298,299,300,303,304] (λ_=>by kernel_rfl) [206,213,281])
 case hw=>w_witness2
 k_fill
 intro w s₀ s₁ mg mb G Y fa o pm cd doc dV kV ho hd hcd hD hmg hg args vals as hpre hlay hrd hwl hlo
 refine Ground.open G ?_
 intro T B D TE TW
 wrow_args hpre hlay hrd hwl hlo
 obtain⟨vs,hl,hI'⟩:=Internal.yw ‹Well w.params s₁.heap (.ref _) _›
 have X:(Internal.KH w.params).In s₁.heap:=Y.1
 have hT:=Y.2
 have W:=(Internal.BC (prog:=RowW.prog (OpenRow.toRowW (OpenLaw.row PySem.Challenge.rw_xl0030_01))) (mg:=mg) (mb:=mb) (λcda m=>Internal.Bj (by
  rcases List.mem_cons.mp m with rfl | m
  ·kernel_rfl
  ·rcases List.mem_cons.mp m with rfl | m
   ·kernel_rfl
   ·rw[List.mem_singleton.mp m];kernel_rfl)) (by kernel_rfl) (by kernel_rfl) (by kernel_rfl) T X hT hl).1
 refine Internal.Ey W X T hT hg hmg hl hI' (by omega) (λring step many pl h=>Internal.tH ring step many pl h) λs' hO hos hb=>?_
 exact⟨.inl ⟨.bool true,.bool true,[],rfl,λ_=>by rfl,.bool _,by kernel_rfl,λ_=>⟨.nil,λa ha=>nomatch ha⟩⟩,hO,hos,hb⟩
end Mine
theorem PySem.Challenge.cw_xl0030_01_holds : PySem.Challenge.rw_xl0030_01.Holds :=
  Mine.law_holds
