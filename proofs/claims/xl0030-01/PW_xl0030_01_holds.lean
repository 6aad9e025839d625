import PyProof.Rows.All
import KE.KCallOwn
import KE.KLam
import KE.KSuperObj
import OpenK.AllK
import PyProof.GenRules
import PyProof.ListNew
import PyProof.Seq
import PyProof.SumAny
import PyProof.WalkInts
import PySem.PyData
import PySem.Syntax
import Wide.All
import Wide.FinOn
import Lean
import PySem.Challenge.RW_xl0030_01
set_option maxRecDepth 100000
set_option maxHeartbeats 8000000
set_option linter.unusedVariables false
set_option compiler.extract_closed false
set_option genInjectivity false
set_option genSizeOf false
namespace Mine.Internal
open PySem PySem.Spec PySem.Calls PyProof.Rows PySem.W Builtin Builtin.ObjectAttr
open _root_.Bool renaming false→ll,true→Se,and_eq_true→S6,rec→Te,noConfusion→Uw,false_ne_true→Vz,not_eq_true'→VU,true_and→We,false_and→WA,and_false→WC,or_eq_false_iff→Xk,and_eq_true_iff→Zn
open _root_.PySem renaming wpAny_bind→oX,wpAny_pure→Sf,wpAny_mono→Sm,Value→Sn,wpAny→So,Shared→Sr,Addr→Ss,wpAny_holding→SN,mainGlobals→SY,foldedSetIterable→Tr,wpAny_Call_Name_kw→Tw,letOwnedTupleGo→Tx,wpAny_standAt→Tz,wpAny_field→TB,wpAny_newObj_type→TF,wpAny_of_eq→TP,starEach→TY,wpAny_seqItems→T2,wpAny_callSpecial?_slot→T3,wpAny_loadName_local→T4,builtinsNs→T6,assignEach→T8,Around→Ua,BindsTo→Ub,wpAny_call_entry→Uc,IsRangeIter→Ug,wpAny_storeName_local→Up,seg_execs_cons→Us,slot_list_append→Uz,standAt→UC,IsPair→UE,wpAny_truthy_bool→UH,wpAny_call→UI,isInstance→UJ,pyNext→UK,codeAny_builtin→UO,DictEntry→US,sizeLine→UW,codeAny_call_builtin→UX,codeAny→U0,wpAny_rule→U1,wpAny_updateSeq→U2,isTrue→U7,sizeLine_eq→U8,builtinKind→U9,wpAny_isInstance→Vb,type_list_append→Vc,PyData→Vd,slot_listiter_next→Vf,wpAny_setField_rec→Vh,numAt→Vi,wpAny_specialOf→Vj,wpAny_letGo→Vo,wpAny_attempt→Vq,checkBoundCall→Vt,clipAt→Vx,rawInt→Vy,newEnv→VB,codeAny_mono→VC,getAttrByItsOwn→VG,IsZip→VJ,swapsWith→VK,swappedStores→VL,wpAny_isTrue_Compare1→VN,slot_list_getitem→VT,wpAny_Name→VW,letTemporaryGo→VZ,typeIs_str→V0,wpAny_listPart→V1,seqIndex?→V7,plainId_quiet→Wk,theTreesLotGoes→Wn,wpAny_Constant_int→Wp,call_meets→Wq,argsOk→Ws,seqItems?→Wu,getMethod→Wv,boundAndCalled→WD,wpAny_loadPart→WG,wpAny_pyNext_list_item→WI,wpAny_pyIter_list→WJ,IsRange→WL,wpAny_pyIter_enum→WM,newFunctionEnv→WO,GenState→WT,ks_wpAt_mono→WU,wpAny_tryCatch→WV,recursionLimit→WW,wpAny_pyNext_list_end→WZ,codeAny_call_function→W1,codeAmong→W3,backTo→W4,typeIs_int→W5,checkBuiltinCall→W6,wpAny_load→W8,preSum→Xa,swapsWithSole→Xg,wpAt_of_wpAny→Xh,seg_execs_nil→Xi,callWith→Xm,callSpecialIfBoundUnlessNone?→Xn,typeOf→Xq,codeAny_of_tree→Xt,wpAny_loadPart'→Xu,wpAny_Constant_none→Xz,wpAny_Constant_bool→XA,builtinType_eq_fast→XC,callSpecial?→XF,getItem→XG,loadGlobal→XN,pyIter→XO,wpAny_pyIter_range→XP,wpAny_isTrue_value→XQ,FuncData→XR,bindArgs→XT,firstArgMember→XU,slicePicked→Yb,slot_list_setitem→Yc,argBest→Yf,wpAny_assign_Name→Yg,evalPart_none→Yi,wpAny_comprehension_free→Yk,wpAny_onRaise→Yl,TriplesOk→Yn,binaryOp→Yo,callGetattribute→Ys,wpAny_askSetting→Yt,wpAny_listSubscript_int→Yu,wpAny_getItem_str_slice→Yw,strValues→Yy,noteFrame→YB,wpAny_allTrue_And_cons→YG,wpAny_mkText→YI,wpAny_getItem_list_neg→YK,wpAny_typeOf→YL,closureFor→YP,codeAny_compStart_list→YQ,wpAny_allTrue_Or_cons→YV,wpAny_pyIter_listiter→YY,exec_Assign_Name_used→YZ,builtinLookup_eq_fast→Y0,slot_list_iter→Zf,keywordEach→Zg,wpAny_alloc→Zi,compPost→Zl,isSubtype_stop→Zm,seg_Expr_Yield→Zo,splitId→Zw,setItem→Zx,updateSeq→Zy,newList→Zz,behindInMarks→ZM,evalPart_some→ZO,wpAny_release→ZP,assignInOrder→ZQ,compTurn_list→ZR,wpAny_handled→ZS,wpAny_newList→ZU,call_range_1→Z7,compTurn→aab,isSubtype→aam,specialOf→aan,storeName→aao,inplaceOp→aap,IsEnum→aar,IsPart→aaH
open _root_.Option renaming some→Sa,isSome_iff_exists→S1,map_some→Uv,bind_some→Va,map_eq_some_iff→VE,rec→ZV
open _root_ renaming List→Sd,Bool→Si,if_neg→Sz,congrArg→SO,Option→SP,if_pos→SR,of_decide_eq_true→S4,absurd→S8,decide_eq_false→Tp,decide_eq_true→Tq
open _root_.List renaming mem_singleton→Sj,mem_of_getElem?→Sp,replicate→Sq,size_toArray→Su,mem_cons→Sv,getElem?_eq_getElem→Sw,getElem?_eq_some_iff→Sy,length_append→SU,rec→SZ,length_map→S0,forall_mem_cons→S7,all_eq_true→Ta,length_cons→Tc,mem_append→Tf,getElem?_append_left→Ti,map_cons→Tt,flatten_cons→TC,getElem?_map→TG,replicate_succ→TH,getD_eq_getElem?_getD→TM,length_replicate→TN,append_nil→TR,getElem?_append_right→TZ,map_map→T9,mem_append_left→Uj,range→Ul,getElem?_toArray→Uq,mem_range→Ur,forIn_cons→Uu,lookup_cons→Uy,take_of_length_le→UL,mem_map_of_mem→UM,pairwise_iff_getElem→UQ,append_assoc→UZ,map_congr_left→U5,head?_drop→Vk,map_append→Vl,nodup_append→Vm,sum_cons→Vr,nodup_cons→VH,length_nil→VI,length_singleton→VS,getElem?_of_mem→V4,cons_append→V8,getElem?_eq_none_iff→Wa,length_eq_zero_iff→Wt,getElem?_cons_succ→Wy,getElem?_replicate→Wz,length_range→WH,forIn_nil→WN,take_add_one→WQ,range_succ_eq_map→WR,drop_drop→WY,getElem?_eq_none→W0,getElem_map→Xc,map_take→Xj,drop_eq_nil_iff→Xl,nil_append→Xv,mem_map→XH,map_replicate→XW,drop_eq_getElem_cons→XX,getElem?_zip_eq_some→XZ,all_toArray→Yp,length_take→Yx,find?_cons_of_neg→YH,mem_filter→YU,dropLast_eq_take→Y1,cons_lt_cons_iff→Y4,mem_append_right→Y5,singleton_append→Y6,perm_append_comm→Y7,lookup→Zj,mem_cons_of_mem→Zk,lt_irrefl→Zp,range'→Zs,range_eq_range'→Zt,foldl_toArray'→ZI,getElem_of_mem→ZK,filterMap_map→ZX,mem_cons_self→ZY,mem_replicate→Z2,push_toArray→aac,ext_getElem?→aag,any_toArray→aak,any_eq_true→aal,not_mem_nil→aat,perm_middle→aaw,Perm→aaO
open _root_.Nat renaming le_trans→Sk,le_of_ble_eq_true→Sl,lt_of_lt_of_le→Sx,beq→SD,lt_trans→SH,ne_of_lt→SJ,eq_of_beq_eq_true→SK,le_refl→SQ,ble→SV,exists_eq_add_of_le'→SW,lt_succ_self→SX,le_add_right→S9,rec→Tb,zero_le→Td,lt_of_le_of_lt→Tg,lt_succ_of_lt→Th,lt_irrefl→Tj,add_le_add_left→Ts,ne_of_gt→Tu,succ→Tv,le_of_lt→TJ,le_add_left→TK,succ_le_succ→TQ,ble_eq_true_of_le→TU,le_succ→TV,le_of_eq→T7,succ_add_eq_add_succ→Ud,lt_succ_of_le→Uh,not_lt→Uk,le_antisymm→UN,not_lt_zero→U3,le_succ_of_le→Vp,beq_refl→Vv,le_of_sub_eq_zero→VQ,lt_add_one→VY,add_le_add→V3,lt_of_not_le→V5,zero_add→V9,add_right_comm→Wo,lt_of_succ_le→WS,sub_le→W7,mod_lt→Xd,div→Xe,exists_eq_succ_of_ne_zero→Xo,min_eq_left→Xp,mul_le_mul_left→Xy,mul→XD,add_assoc→Yh,mod→YC,succ_pos→YD,sub_succ→YS,lt_of_sub_eq_succ→Y3,add_le_add_right→Y9,one_mul→Zr,add→Zu,mod_two_ne_zero→ZD,add_comm→Z4,lt_trichotomy→Z5,add_div_right→aai,le_of_lt_succ→aaj,pred→aaK,sub→aaP
open _root_.PySem.Obj renaming mapSeq→S5,data_mapFields→Z0,putName→aaB
open _root_.PySem.Builtin.SmallTypes renaming nextOf→Tn,ownedTupleIsFree→Ut,ownedTupleHandOut→Wd
open _root_.PySem.Builtin.Range renaming rangeSize→To
open _root_.Int renaming ofNat→TA,ofNat_eq_natCast→Ux,natCast_nonneg→UR,rec→UU,le_of_lt→V6,negSucc_lt_zero→Wb,lt_trans→XE,not_lt→XK,max_eq_right→Yv,le_trans→YF,negSucc→Y8,subNatNat_of_le→ZE,toNat_of_nonneg→ZF,toNat_of_nonpos→ZG,neg→Z3,ofNat_le→Z6,toNat_natCast→aaf
open _root_.PySem.Builtin.List renaming listItems→TS,listSubscript?→Ui,listUpdate→UA,listFitsIndex→UF
open _root_.PySem.Str renaming ofString→TT
open _root_.PySem.W renaming looks_findIn→TX,emptyDict→Ue,findIn→Um,InstAt→Uo,looks_mroIn→Vn,putName_dict→Vw,dictOf→VM,looks_nsIn→W9,callWith_of→Ye,methodObj→YA,check_slot→YJ,typeIn→YN,instObj→YO,looks_clsIn→Zb,hasDictIn→Zv,codeRec_of→Z1,findCls→aaa,alongIn→aae,keepIn→aas,specialIn→aau,tabObj→aax,clsIn→aaA,kla_obj→aaE,hideAll→aaF,lookIn→aaG,nsIn→aaI
open _root_.PySem.Value renaming ref→T5,none→XS,isStr→Ya,int→ZA,str→aaN
open _root_.PySem.F renaming plain_min_loop→Un,slot_list_getattribute→UT,slot_range_iterator_next→Vg,slot_str_split→VF,slot_str_join→VP,slot_str_getitem→Wf,slot_str_isspace→Wh,args_str_split_2→Wj,ks_slot_super_ga→Wl,entry_str_split→Wx,args_list_getattribute_2→WE,entry_min_loop→WX,type_str_join→W2,args_range_iterator_next_1→Xw,slot_zip_next→Xx,entry_range_iterator_next→XI,type_str_isspace→Ym,slot_list_index→Yz,plain_list_new→YR,entry_list_ga→YW,slot_tuple_lt→Y2,store_object→Zc
open _root_.PyProof.Rows renaming strKind→UB,IntsAre→UG,seqObj→UP,AllBare→UV,spliced_more→U6,assignInOrder_cons→VA,assign_Name→Wg,listUpdate_at→Wm,assignInOrder_nil→Yd,args_nil→Yr,Attribute_any_→Zd,tail_any→Ze,subscriptTail→ZN,arrOf→ZT,SortedToK→aav
open _root_.PySem.Builtin.Str renaming strSliceIndices→UD,partsBetween→Wi,occurrences→Ww,strKind→ZJ
open _root_.PySem.Around renaming under_plainId→UY
open _root_.ForInStep renaming yield→U4
open _root_.PySem.PyData renaming keyHash→Vs,int→Vu,canLay0→VX,eqv→Wr,depth→WB,eqvAll→Xf,canLayAll0→X0,depthAll→YT
open _root_.PySem.Manifest renaming canonical→VD,signature?→Wc
open _root_.Array renaming getElem?_toList→VO,getElem?_eq_some_iff→V2,length_toList→XB,set!_eq_setIfInBounds→XJ,getElem_toList→Zq,toList_append→ZL,size_append→Z9,toList_zip→aay
open _root_.PySem.Builtin.Builtins renaming bindParams→VV
open _root_.PySem.Calls renaming evalArgs_plain→WK
open _root_.And renaming intro→Xb
open _root_.PySem.Unicode renaming isSpace→Xr
open _root_.List.cons renaming injEq→Xs
open _root_.PySem.Bind renaming checkArgs→XM,madeBy→aaC
open _root_.PySem.Builtin.Generator renaming genWake→XY
open _root_.PySem.W.Looks renaming of_pure→Yj
open _root_.String.Pos.Raw renaming mk_le_mk→Yq
open _root_.PyProof renaming noPylong_small→YE
open _root_.PySem.Env renaming kindOf→YM
open _root_.PySem.StrLaws renaming glued_eq_join→YX
open _root_.PySem.P renaming eq_int→Za,getItem_str→ZH,iadd_int→aaq,len_str→aaD
open _root_.ForIn renaming forIn→Zh
open _root_.PySem.Code renaming quiet_builtin→ZZ
open _root_.PySem.callAny renaming viaDunder→aad
open _root_.PySem.Sem renaming bind_eq_wrap'→aah
open _root_.LawfulMonad renaming pure_bind→aaz
open _root_.Array.mk renaming injEq→aaJ
open _root_.PyProof.Rows.SortSt renaming mk'→aaL
open _root_.Function renaming comp→aaM
variable{h:Heap}{C:Cfg}{s:St}{α:Type}{abt:Nat}{fx:Fx}{z a:Addr}{elt:Expr}{σ:List Addr}{x:Str}{es:List Expr}{TI:Addr}{env:Env}{t:Nat}{l:List V}{it:It}{xs:List Int}{gens:List Comprehension}{N:Nat}{dx fa:Addr}{v:V}{st:St}{L:Addr}{gi:eN}{scope:Scope}{fd:FuncData}{af:Addr}{s0:St}{k:V->St->Bool}{c:Nat}{cs:CA}{sc lsc:Scope}{as:CA}{q:List V}{r:T}{j:Nat}{fm:Fm}{d:Nat}{st':St}{B:List Stmt}{Q E:Value->Shared->Prop}{ca cb:CE}{op:OP}{cc:CT}{ce:CE}{en:Expr}{expr:Bool}{tk:Tok}{cd:ClassData}{w:V}{ci:CI}{ct:CT}{R:List Nat}{Ex:Value->Shared->Prop}{orelse:List Stmt}{R₀:Result->Shared->Prop}{qual:Str}{func:Option Addr}{around:Option Env}{ps:List (Bool×Nat)}{d':Nat}{pl:Sem Bool}{co:CE}{apos:Pos}{g:Addr}{tp:Pos}{ifs:List Expr}{acc:Value}{cenv:Env}{target2 iter2:Expr}{ifs2:List Expr}{ty bt:String}{p0:Pos}{xa:Str}{pa pb pt px:Pos}{kt:Nat}{s'':Shared}{t1 t2:Pos}{tc:Tok}{left:Int}{TO:Addr}{e1:Pos}{eg:Expr}{cn cg:CE}{fname:Str}{z0 z1 z2 z3 z4 z5:Pos}{ks:List KP}{clos:List (Str×Addr)}{st1:St}{nl c1 ring:Nat}{cur:List Nat}{many:Nat}{o':O}{s':Shared}{ox:Obj}{gs:xE}{params:Arguments}{xb:Str}{ys:List Int}{ac:Addr}{p:Pos}{A:Around}{items:Array Value}{m:Nat}{f:Value}{target:Expr}{D:Addr}{spos:Pos}{hb:Heap}{i:Nat}{γ:Type}{i1:Addr}{aaV:Shared}{fs:List (Nat×V)}{y:Str}{od:Option Obj}{py:Pos}{b:Addr}{vs:List Value}{n:Nat}{pos:Pos}{β:Type}{G:Addr}{fp:List Addr}{stop:Bool}{h':Heap}{u:Value}{o:O}
section
universe u v w x
theorem bo {a b:Nat}(h:SV a b=Se):a<=b:=Sl h
theorem lB {a b:Nat}(h:SD a b=ll):a≠b:=Nat.ne_of_beq_eq_false h
theorem dH {P:Prop}{p:Prop}{q:Prop}(h:p/\q)(H:p->q->P):P:=H h.1 h.2
theorem kW {P:Prop}{p:Prop}{q:Prop}{r:Prop}(h:p/\q/\r)(H:p->q->r->P):P:=H h.1 h.2.1 h.2.2
theorem xY {P:Prop}{p:Prop}{q:Prop}{r:Prop}{s:Prop}(h:p/\q/\r/\s)(H:p->q->r->s->P):P:=H h.1 h.2.1 h.2.2.1 h.2.2.2
theorem bH {P:Prop}{α:Sort u}{p:α->Prop}(h:∃a,p a)(H:∀a,p a->P):P:=h.elim λa h=>H a h
theorem aE {P:Prop}{α:Sort u}{p:α->Prop}{q:α->Prop}(h:∃a,p a/\q a)(H:∀a,p a->q a->P):P:=h.elim λa h=>H a h.1 h.2
theorem fF {P:Prop}{α:Sort u}{p:α->Prop}{q:α->Prop}{r:α->Prop}(h:∃a,p a/\q a/\r a)(H:∀a,p a->q a->r a->P):P:=h.elim λa h=>H a h.1 h.2.1 h.2.2
theorem fD {P:Prop}{α:Sort u}{p:α->Prop}{q:α->Prop}{r:α->Prop}{s:α->Prop}(h:∃a,p a/\q a/\r a/\s a)(H:∀a,p a->q a->r a->s a->P):P:=h.elim λa h=>H a h.1 h.2.1 h.2.2.1 h.2.2.2
theorem OF {P:Prop}{α:Sort u}{p:α->Prop}{q:α->Prop}{r:α->Prop}{s:α->Prop}{t:α->Prop}{z:α->Prop}(h:∃a,p a/\q a/\r a/\s a/\t a/\z a)(H:∀a,p a->q a->r a->s a->t a->z a->P):P:=h.elim λa h=>H a h.1 h.2.1 h.2.2.1 h.2.2.2.1 h.2.2.2.2.1 h.2.2.2.2.2
theorem uK {P:Prop}{α:Sort u}{β:Sort v}{p:α->β->Prop}(h:∃a b,p a b)(H:∀a b,p a b->P):P:=h.elim λa h=>h.elim λb h=>H a b h
theorem fB {P:Prop}{α:Sort u}{β:Sort v}{p:α->β->Prop}{q:α->β->Prop}(h:∃a b,p a b/\q a b)(H:∀a b,p a b->q a b->P):P:=h.elim λa h=>h.elim λb h=>H a b h.1 h.2
theorem gx {P:Prop}{α:Sort u}{β:Sort v}{p:α->β->Prop}{q:α->β->Prop}{r:α->β->Prop}(h:∃a b,p a b/\q a b/\r a b)(H:∀a b,p a b->q a b->r a b->P):P:=h.elim λa h=>h.elim λb h=>H a b h.1 h.2.1 h.2.2
theorem Kp {P:Prop}{α:Sort u}{β:Sort v}{p:α->β->Prop}{q:α->β->Prop}{r:α->β->Prop}{s:α->β->Prop}(h:∃a b,p a b/\q a b/\r a b/\s a b)(H:∀a b,p a b->q a b->r a b->s a b->P):P:=h.elim λa h=>h.elim λb h=>H a b h.1 h.2.1 h.2.2.1 h.2.2.2
theorem Ef {P:Prop}{α:Sort u}{β:Sort v}{p:α->β->Prop}{q:α->β->Prop}{r:α->β->Prop}{s:α->β->Prop}{t:α->β->Prop}(h:∃a b,p a b/\q a b/\r a b/\s a b/\t a b)(H:∀a b,p a b->q a b->r a b->s a b->t a b->P):P:=h.elim λa h=>h.elim λb h=>H a b h.1 h.2.1 h.2.2.1 h.2.2.2.1 h.2.2.2.2
theorem qh {P:Prop}{α:Sort u}{β:Sort v}{p:α->β->Prop}{q:α->β->Prop}{r:α->β->Prop}{s:α->β->Prop}{t:α->β->Prop}{z:α->β->Prop}(h:∃a b,p a b/\q a b/\r a b/\s a b/\t a b/\z a b)(H:∀a b,p a b->q a b->r a b->s a b->t a b->z a b->P):P:=h.elim λa h=>h.elim λb h=>H a b h.1 h.2.1 h.2.2.1 h.2.2.2.1 h.2.2.2.2.1 h.2.2.2.2.2
theorem BY {P:Prop}{α:Sort u}{β:Sort v}{γ:Sort w}{p:α->β->γ->Prop}(h:∃a b c,p a b c)(H:∀a b c,p a b c->P):P:=h.elim λa h=>h.elim λb h=>h.elim λc h=>H a b c h
theorem iD {P:Prop}{α:Sort u}{β:Sort v}{γ:Sort w}{p:α->β->γ->Prop}{q:α->β->γ->Prop}(h:∃a b c,p a b c/\q a b c)(H:∀a b c,p a b c->q a b c->P):P:=h.elim λa h=>h.elim λb h=>h.elim λc h=>H a b c h.1 h.2
theorem zR {P:Prop}{α:Sort u}{β:Sort v}{γ:Sort w}{p:α->β->γ->Prop}{q:α->β->γ->Prop}{r:α->β->γ->Prop}(h:∃a b c,p a b c/\q a b c/\r a b c)(H:∀a b c,p a b c->q a b c->r a b c->P):P:=h.elim λa h=>h.elim λb h=>h.elim λc h=>H a b c h.1 h.2.1 h.2.2
theorem lT {P:Prop}{α:Sort u}{β:Sort v}{γ:Sort w}{δ:Sort x}{p:α->β->γ->δ->Prop}{q:α->β->γ->δ->Prop}(h:∃a b c d,p a b c d/\q a b c d)(H:∀a b c d,p a b c d->q a b c d->P):P:=h.elim λa h=>h.elim λb h=>h.elim λc h=>h.elim λd h=>H a b c d h.1 h.2
theorem OL {P:Prop}{α:Sort u}{β:Sort v}{γ:Sort w}{δ:Sort x}{p:α->β->γ->δ->Prop}{q:α->β->γ->δ->Prop}{r:α->β->γ->δ->Prop}(h:∃a b c d,p a b c d/\q a b c d/\r a b c d)(H:∀a b c d,p a b c d->q a b c d->r a b c d->P):P:=h.elim λa h=>h.elim λb h=>h.elim λc h=>h.elim λd h=>H a b c d h.1 h.2.1 h.2.2
theorem qG {P:Prop}{α:Sort u}{β:Sort v}{γ:Sort w}{δ:Sort x}{p:α->β->γ->δ->Prop}{q:α->β->γ->δ->Prop}{r:α->β->γ->δ->Prop}{s:α->β->γ->δ->Prop}(h:∃a b c d,p a b c d/\q a b c d/\r a b c d/\s a b c d)(H:∀a b c d,p a b c d->q a b c d->r a b c d->s a b c d->P):P:=h.elim λa h=>h.elim λb h=>h.elim λc h=>h.elim λd h=>H a b c d h.1 h.2.1 h.2.2.1 h.2.2.2
theorem OZ {P:Prop}{α:Sort u}{β:Sort v}{γ:Sort w}{δ:Sort x}{ε:Sort u}{p:α->β->γ->δ->ε->Prop}(h:∃a b c d e,p a b c d e)(H:∀a b c d e,p a b c d e->P):P:=h.elim λa h=>h.elim λb h=>h.elim λc h=>h.elim λd h=>h.elim λe h=>H a b c d e h
theorem QW {P:Prop}{α:Sort u}{β:Sort v}{γ:Sort w}{δ:Sort x}{ε:Sort u}{p:α->β->γ->δ->ε->Prop}{q:α->β->γ->δ->ε->Prop}{r:α->β->γ->δ->ε->Prop}(h:∃a b c d e,p a b c d e/\q a b c d e/\r a b c d e)(H:∀a b c d e,p a b c d e->q a b c d e->r a b c d e->P):P:=h.elim λa h=>h.elim λb h=>h.elim λc h=>h.elim λd h=>h.elim λe h=>H a b c d e h.1 h.2.1 h.2.2
theorem OE {P:Prop}{α:Sort u}{β:Sort v}{γ:Sort w}{δ:Sort x}{ε:Sort u}{p:α->β->γ->δ->ε->Prop}{q:α->β->γ->δ->ε->Prop}{r:α->β->γ->δ->ε->Prop}{s:α->β->γ->δ->ε->Prop}{t:α->β->γ->δ->ε->Prop}(h:∃a b c d e,p a b c d e/\q a b c d e/\r a b c d e/\s a b c d e/\t a b c d e)(H:∀a b c d e,p a b c d e->q a b c d e->r a b c d e->s a b c d e->t a b c d e->P):P:=h.elim λa h=>h.elim λb h=>h.elim λc h=>h.elim λd h=>h.elim λe h=>H a b c d e h.1 h.2.1 h.2.2.1 h.2.2.2.1 h.2.2.2.2
end
noncomputable section
inductive V where
 | none | bool (b:Si) | int (i:Int) | str (s:Sd Nat) | ref (n:Nat) | tup (l:Sd V)
 deriving Inhabited
inductive O where
 | list (l:Sd V) | cell (v:SP V)
 | inst (c d:Nat) (fs:Sd (Nat×V)) | lsub (c d:Nat) (fs:Sd (Nat×V)) (l:Sd V) | hid
 deriving Inhabited
inductive T where
 | nil
 | node (v:O) (l r:T)
 deriving Inhabited
structure St where
 n:Nat
 t:T
 deriving Inhabited
structure Fm where
 loc:Sd (SP V)
 cel:Sd Nat
 deriving Inhabited
inductive Fl where
 | nxt | brk | cnt | ret (v:V)
 deriving Inhabited
inductive It where
 | seq (n i:Nat)
 | tup (l:Sd V)
 | str (l:Sd Nat)
 | rng (cur:Int) (len:Nat) (step:Int)
 | enS (k:Int) (n i:Nat)
 | enT (k:Int) (l:Sd Nat)
 deriving Inhabited
inductive du where
 | v (a:V) | pair (a b:V)
 deriving Inhabited
abbrev KV:=V->St->Si
abbrev FN:=Sd V->St->KV->Si
abbrev CE:=Fm->St->KV->Si
abbrev CA:=Fm->St->(Sd V->St->Si)->Si
abbrev CT:=Fm->St->(Si->St->Si)->Si
abbrev CS:=Fm->St->(Fl->Fm->St->Si)->Si
abbrev CG:=Fm->V->St->(Fm->St->Si)->Si
abbrev CI:=Fm->St->(It->St->Si)->Si
abbrev CB:=Fm->St->(Sd V->Fm->St->Si)->Si
def aD (b:Si)(t e:Si):Si:=@Te (λ_=>Si) e t b
def ee (b:Si):Si:=@Te (λ_=>Si) Se ll b
def cp (v:V)(n:Si)(b:Si->Si)(i:Int->Si)(s:Sd Nat->Si)(r:Nat->Si)(t:Sd V->Si):Si:=
 @V.rec (λ_=>Si) (λ_=>Unit) n b i s r (λl _=>t l) () (λ_ _ _ _=>()) v
def aG (v:V)(k:Int->Si):Si:=cp v ll (λ_=>ll) k (λ_=>ll) (λ_=>ll) (λ_=>ll)
def dB (v:V)(k:Sd Nat->Si):Si:=cp v ll (λ_=>ll) (λ_=>ll) k (λ_=>ll) (λ_=>ll)
def bB (v:V)(k:Nat->Si):Si:=cp v ll (λ_=>ll) (λ_=>ll) (λ_=>ll) k (λ_=>ll)
def lH (v:V)(k:Sd V->Si):Si:=cp v ll (λ_=>ll) (λ_=>ll) (λ_=>ll) (λ_=>ll) k
abbrev cU (o:SP α)(k:α->Si):Si:=@ZV α (λ_=>Si) ll k o
def pn (o:O)(k:Sd V->Si):Si:=@O.rec (λ_=>Si) k (λ_=>ll) (λ_ _ _=>ll) (λ_ _ _ _=>ll) ll o
def eo (o:O)(k:SP V->Si):Si:=@O.rec (λ_=>Si) (λ_=>ll) k (λ_ _ _=>ll) (λ_ _ _ _=>ll) ll o
def tQ (o:O)(k:Nat->Nat->Sd (Nat×V)->Sd V->Si):Si:=@O.rec (λ_=>Si) (λ_=>ll) (λ_=>ll) (λ_ _ _=>ll) k ll o
def gQ (o:O)(k:Sd V->Si):Si:=@O.rec (λ_=>Si) k (λ_=>ll) (λ_ _ _=>ll) (λ_ _ _ l=>k l) ll o
def pi (o:O)(k:Nat->Sd (Nat×V)->(Sd (Nat×V)->O)->Si):Si:=@O.rec (λ_=>Si) (λ_=>ll) (λ_=>ll) (λc d fs=>k c fs (O.inst c d)) (λc d fs l=>k c fs λfs=>O.lsub c d fs l) ll o
def ge (l:Sd α)(k:Si):Si:=@SZ α (λ_=>Si) k (λ_ _ _=>ll) l
def dc (l:Sd α)(k:α->Sd α->Si):Si:=@SZ α (λ_=>Si) ll (λa r _=>k a r) l
def nv (l:Sd α)(k:α->Si):Si:=dc l λa r=>ge r (k a)
def F3 (l:Sd α)(k:α->α->Si):Si:=dc l λa r=>nv r (k a)
namespace T
def get (t:T):Nat->(O->Si)->Si:=@T.rec (λ_=>Nat->(O->Si)->Si) (λ_ _=>ll)
 (λv _ _ ihl ihr i k=>@Tb (λ_=>Si) (k v) (λj _=>@Te (λ_=>Si) (ihr (Xe j 2) k) (ihl (Xe j 2) k) (SD (YC j 2) 0)) i) t
def set (t:T):Nat->O->(T->Si)->Si:=@T.rec (λ_=>Nat->O->(T->Si)->Si) (λ_ _ _=>ll)
 (λv l r ihl ihr i o k=>@Tb (λ_=>Si) (k (.node o l r)) (λj _=>@Te (λ_=>Si) (ihr (Xe j 2) o λr=>k (.node v l r)) (ihl (Xe j 2) o λl=>k (.node v l r)) (SD (YC j 2) 0)) i) t
def ins (t:T):Nat->O->(T->Si)->Si:=@T.rec (λ_=>Nat->O->(T->Si)->Si) (λi o k=>@Tb (λ_=>Si) (k (.node o .nil .nil)) (λ_ _=>ll) i)
 (λv l r ihl ihr i o k=>@Tb (λ_=>Si) ll (λj _=>@Te (λ_=>Si) (ihr (Xe j 2) o λr=>k (.node v l r)) (ihl (Xe j 2) o λl=>k (.node v l r)) (SD (YC j 2) 0)) i) t
end T
namespace St
def get (s:St)(i:Nat)(k:O->Si):Si:=s.t.get i k
def push (s:St)(o:O)(k:Nat->St->Si):Si:=s.t.ins s.n o λt=>k s.n ⟨Tv s.n,t⟩
def set (s:St)(i:Nat)(o:O)(k:St->Si):Si:=aD (SV 4 i) (s.t.set i o λt=>k ⟨s.n,t⟩) ll
end St
abbrev getL (l:Sd α):Nat->(α->Si)->Si->Si:=@SZ α (λ_=>Nat->(α->Si)->Si->Si) (λ_ _ z=>z)
 (λx _ ih i k z=>@Tb (λ_=>Si) (k x) (λj _=>ih j k z) i) l
abbrev nB (l:Sd α):Nat->α->(Sd α->Si)->Si:=@SZ α (λ_=>Nat->α->(Sd α->Si)->Si) (λ_ _ _=>ll)
 (λx r ih i v k=>@Tb (λ_=>Si) (k (v::r)) (λj _=>ih j v λq=>k (x::q)) i) l
def aK (l:Sd α):Nat:=@SZ α (λ_=>Nat) 0 (λ_ _ ih=>Tv ih) l
def bp (l q:Sd α):Sd α:=@SZ α (λ_=>Sd α) q (λx _ ih=>x::ih) l
def fy (l:Sd α):Nat->Sd α:=@SZ α (λ_=>Nat->Sd α) (λ_=>[]) (λx _ ih n=>@Tb (λ_=>Sd α) [] (λm _=>x::ih m) n) l
def ng (l:Sd α):Nat->Sd α:=@SZ α (λ_=>Nat->Sd α) (λ_=>[]) (λx r ih n=>@Tb (λ_=>Sd α) (x::r) (λm _=>ih m) n) l
def cw (l:Sd α)(n:Nat):Sd α:=@Tb (λ_=>Sd α) [] (λ_ ih=>bp l ih) n
def fE (f:α->β)(l:Sd α):Sd β:=@SZ α (λ_=>Sd β) [] (λx _ ih=>f x::ih) l
def gu (f:α->Si)(l:Sd α):Si:=@SZ α (λ_=>Si) Se (λx _ ih=>aD (f x) ih ll) l
def kR (l:Sd α):Si->Sd α:=@SZ α (λ_=>Si->Sd α) (λ_=>[]) (λx _ ih b=>@Te (λ_=>Sd α) (ih Se) (x::ih ll) b) l
def oJ (l:Sd α):α->α:=@SZ α (λ_=>α->α) (λa=>a) (λx _ ih _=>ih x) l
def nI (l:Sd α):Sd α:=@SZ α (λ_=>Sd α) [] (λx r ih=>@SZ α (λ_=>Sd α) [] (λ_ _ _=>x::ih) r) l
abbrev dY (f:α->(β->Si)->Si)(l:Sd α):(Sd β->Si)->Si:=@SZ α (λ_=>(Sd β->Si)->Si) (λk=>k []) (λx _ ih k=>f x λy=>ih λq=>k (y::q)) l
def jf (a b:Int):Si:=@UU (λ_=>Si) (λx=>@UU (λ_=>Si) (λy=>SD x y) (λ_=>ll) b) (λx=>@UU (λ_=>Si) (λ_=>ll) (λy=>SD x y) b) a
def pU (a b:Int):Si:=@UU (λ_=>Si) (λx=>@UU (λ_=>Si) (λy=>SV x y) (λ_=>ll) b) (λx=>@UU (λ_=>Si) (λ_=>Se) (λy=>SV y x) b) a
def Cb (a b:Int):Si:=ee (pU b a)
def small (i:Int):Si:=@UU (λ_=>Si) (λn=>SV n 1152921504606846975) (λn=>SV n 1152921504606846974) i
def cT (i:Int):Nat:=@UU (λ_=>Nat) (λn=>n) (λ_=>0) i
def gB (a b:Int):Int:=@UU (λ_=>Int) (λx=>@UU (λ_=>Int) (λy=>.ofNat (Zu x y)) (λy=>Int.subNatNat x (Tv y)) b) (λ_=>Int.add a b) a
def iC (a b:Int):Int:=@UU (λ_=>Int) (λx=>@UU (λ_=>Int) (λy=>@Te (λ_=>Int) (Int.sub a b) (.ofNat (aaP x y)) (SV y x)) (λ_=>Int.sub a b) b) (λ_=>Int.sub a b) a
def GV (a b:Int):Int:=@UU (λ_=>Int) (λx=>@UU (λ_=>Int) (λy=>.ofNat (XD x y)) (λ_=>Int.mul a b) b) (λ_=>Int.mul a b) a
def Nn (a b:Int):Int:=@UU (λ_=>Int) (λx=>@UU (λ_=>Int) (λy=>.ofNat (Xe x y)) (λ_=>Int.fdiv a b) b) (λ_=>Int.fdiv a b) a
def Cm (a b:Int):Int:=@UU (λ_=>Int) (λx=>@UU (λ_=>Int) (λy=>.ofNat (YC x y)) (λ_=>Int.fmod a b) b) (λ_=>Int.fmod a b) a
def idx (i:Int)(len:Nat)(k:Nat->Si):Si:=@UU (λ_=>Si) (λj=>aD (SV len j) ll (k j)) (λj=>aD (SV len j) ll (k (aaP len (Tv j)))) i
def eV (i:Int)(len:Nat):Nat:=@UU (λ_=>Nat) (λj=>@Te (λ_=>Nat) j len (SV len j)) (λj=>aaP len (Tv j)) i
noncomputable def aB (n:Nat):Si:=SV n 4095
def CQ (l:Sd Nat):Sd Nat->Si:=@SZ Nat (λ_=>Sd Nat->Si) (λq=>ge q Se) (λa _ ih q=>dc q λb q=>aD (SD a b) (ih q) ll) l
def FO (l:Sd Nat):Sd Nat->Si:=@SZ Nat (λ_=>Sd Nat->Si) (λq=>dc q λ_ _=>Se) (λa _ ih q=>dc q λb q=>aD (SD a b) (ih q) (SV a b)) l
def fv (st:St)(n:Nat):V->(Vd->Si)->Si:=@Tb (λ_=>V->(Vd->Si)->Si)
 (λv k=>cp v (k .none) (λb=>k (.bool b)) (λi=>k (.int i)) (λs=>aD (gu (λc=>SV c 1114111) s) (k (.str ⟨s.toArray⟩)) ll) (λ_=>ll) (λ_=>ll))
 (λ_ ih v k=>cp v (k .none) (λb=>k (.bool b)) (λi=>k (.int i)) (λs=>aD (gu (λc=>SV c 1114111) s) (k (.str ⟨s.toArray⟩)) ll)
  (λa=>st.get a λo=>pn o λl=>dY ih l λds=>k (.list ds)) (λl=>dY ih l λds=>k (.tuple ds))) n
def yr (f:Vd->Vd->(Si->Si)->Si)(l:Sd Vd):Sd Vd->(Si->Si)->Si:=@SZ Vd (λ_=>Sd Vd->(Si->Si)->Si)
 (λq k=>@SZ Vd (λ_=>Si) (k Se) (λ_ _ _=>k ll) q)
 (λa _ ih q k=>@SZ Vd (λ_=>Si) (k ll) (λb q _=>f a b λc=>aD c (ih q k) (k ll)) q) l
def IY (n:Nat):Vd->Vd->(Si->Si)->Si:=@Tb (λ_=>Vd->Vd->(Si->Si)->Si) (λ_ _ _=>ll) (λ_ ih a b k=>match a with
 | .none=>(match b with | .none=>k Se | _=>ll)
 | .bool x=>(match b with | .bool y=>k (@Te (λ_=>Si) (ee y) y x) | _=>ll)
 | .int x=>(match b with | .int y=>k (jf x y) | _=>ll)
 | .str x=>(match b with | .str y=>k (CQ x.cps.toList y.cps.toList) | _=>ll)
 | .list x=>(match b with | .list y=>yr ih x y k | _=>ll)
 | .tuple x=>(match b with | .tuple y=>yr ih x y k | _=>ll)
 | .dict _=>ll) n
def DN (st:St)(a b:V)(k:Si->Si):Si:=fv st 5 a λx=>fv st 5 b λy=>IY 7 x y k
def iZq (l:Sd V)(k:Sd Int->Si):Si:=dY aG l k
def iL (i:Int)(l:Sd Int):Si:=@SZ Int (λ_=>Si) ll (λj _ ih=>aD (jf i j) Se ih) l
def bg (st:St)(n:Nat)(k:Sd V->Si):Si:=st.get n λo=>pn o k
def K7 (st:St)(n:Nat)(k:Sd V->Si):Si:=st.get n λo=>gQ o k
def aY (st:St)(it:It)(stop:Si)(k:du->It->Si):Si:=@It.rec (λ_=>Si)
 (λn i=>bg st n λl=>getL l i (λv=>k (.v v) (.seq n (Tv i))) stop)
 (λl=>@SZ V (λ_=>Si) stop (λv r _=>k (.v v) (.tup r)) l)
 (λl=>@SZ Nat (λ_=>Si) stop (λc r _=>k (.v (.str [c])) (.str r)) l)
 (λc len s=>@Tb (λ_=>Si) stop (λm _=>k (.v (.int c)) (.rng (gB c s) m s)) len)
 (λj n i=>bg st n λl=>getL l i (λv=>k (.pair (.int j) v) (.enS (gB j 1) n (Tv i))) stop)
 (λj l=>@SZ Nat (λ_=>Si) stop (λc r _=>k (.pair (.int j) (.str [c])) (.enT (gB j 1) r)) l) it
def dK (fs:Sd (Nat×V))(x:Nat)(k:V->Si):Si:=@SZ (Nat×V) (λ_=>Si) ll (λp _ ih=>aD (SD p.1 x) (k p.2) ih) fs
def dv (fs:Sd (Nat×V))(x:Nat)(v:V):Sd (Nat×V):=@SZ (Nat×V) (λ_=>Sd (Nat×V)) [(x,v)] (λp r ih=>@Te (λ_=>Sd (Nat×V)) (p::ih) ((x,v)::r) (SD p.1 x)) fs
def getAttr (v:V)(x:Nat)(st:St)(k:KV):Si:=bB v λn=>st.get n λo=>pi o λ_ fs _=>dK fs x λv=>k v st
def setAttr (v:V)(x:Nat)(u:V)(st:St)(k:St->Si):Si:=bB v λn=>st.get n λo=>pi o λ_ fs p=>aD (SV (aK fs) 100) (st.set n (p (dv fs x u)) k) ll
abbrev OP:=V->V->St->KV->Si
def aQ:OP:=λa b st k=>cp a ll (λ_=>ll)
 (λx=>aG b λy=>k (.int (gB x y)) st)
 (λx=>dB b λy=>aD (aB (Zu (aK x) (aK y))) (k (.str (bp x y)) st) ll)
 (λx=>bB b λy=>bg st x λl=>bg st y λq=>aD (aB (Zu (aK l) (aK q))) (st.push (.list (bp l q)) λn st=>k (.ref n) st) ll)
 (λ_=>ll)
def cj:OP:=λa b st k=>aG a λx=>aG b λy=>k (.int (iC x y)) st
def bF:OP:=λa b st k=>cp a ll (λ_=>ll)
 (λx=>aG b λy=>aD (small x) (aD (small y) (k (.int (GV x y)) st) ll) ll)
 (λx=>aG b λy=>aD (small y) (aD (aB (XD (aK x) (cT y))) (k (.str (cw x (cT y))) st) ll) ll)
 (λx=>aG b λy=>bg st x λl=>aD (small y) (aD (aB (XD (aK l) (cT y))) (st.push (.list (cw l (cT y))) λn st=>k (.ref n) st) ll) ll)
 (λ_=>ll)
def zr:OP:=λa b st k=>aG a λx=>aG b λy=>aD (small x) (aD (pU 1 y) (aD (pU y 1000000) (k (.int (Nn x y)) st) ll) ll) ll
def ef:OP:=λa b st k=>aG a λx=>aG b λy=>aD (small y) (aD (jf y 0) ll (k (.int (Cm x y)) st)) ll
def D5:OP:=λa b st k=>aG a λx=>aG b λy=>aD (jf x 10) (aD (jf y 6) (k (.int 1000000) st) ll) ll
abbrev CP:=V->V->St->(Si->Si)->Si
def iu:CP:=λa b st k=>cp a ll (λ_=>ll)
 (λx=>aG b λy=>k (jf x y)) (λx=>dB b λy=>k (CQ x y)) (λx=>bB b λy=>DN st (.ref x) (.ref y) k) (λx=>lH b λy=>DN st (.tup x) (.tup y) k)
def kI:CP:=λa b st k=>iu a b st λc=>k (ee c)
def MT:CP:=λa b _ k=>aG a λx=>aG b λy=>k (Cb x y)
def Oy:CP:=λa b _ k=>aG a λx=>aG b λy=>k (pU x y)
def Eh:CP:=λa b _ k=>aG a λx=>aG b λy=>k (Cb y x)
def uD:CP:=λa b _ k=>aG a λx=>aG b λy=>k (pU y x)
def sK:CP:=λa b _ k=>cp b (cp a (k Se) (λ_=>ll) (λ_=>k ll) (λ_=>ll) (λ_=>k ll) (λ_=>k ll)) (λ_=>ll) (λ_=>ll) (λ_=>ll) (λ_=>ll) (λ_=>ll)
def pQ (v:V)(k:Si->Si):Si:=cp v ll k (λ_=>ll) (λ_=>ll) (λ_=>ll) (λ_=>ll)
def IL:CP:=λa b _ k=>pQ a λx=>pQ b λy=>k (@Te (λ_=>Si) y (ee y) x)
def Of:CP:=λa b st k=>aG a λx=>bB b λn=>bg st n λl=>iZq l λxs=>k (iL x xs)
def iN (l:Sd α):Si:=@SZ α (λ_=>Si) ll (λ_ _ _=>Se) l
def iT (v:V)(st:St)(k:Si->Si):Si:=cp v (k ll) k (λi=>k (ee (jf i 0))) (λs=>aD (aB (aK s)) (k (iN s)) ll) (λn=>bg st n λl=>aD (aB (aK l)) (k (iN l)) ll) (λ_=>ll)
def ve (a b:Int):Int:=@Te (λ_=>Int) a b (Cb a b)
def rk (l:Sd Int):Int->Int:=@SZ Int (λ_=>Int->Int) (λm=>m) (λj _ ih m=>ih (ve m j)) l
def ze (l:Sd Int):Int->Int:=@SZ Int (λ_=>Int->Int) (λa=>a) (λj _ ih a=>ih (gB a j)) l
def yY (a b:Int×Int):Si:=aD (Cb a.1 b.1) Se (aD (jf a.1 b.1) (Cb a.2 b.2) ll)
def yG (l:Sd (V×Int×Int)):(V×Int×Int)->V:=@SZ (V×Int×Int) (λ_=>(V×Int×Int)->V) (λm=>m.1) (λj _ ih m=>@Te (λ_=>V) (ih m) (ih j) (yY j.2 m.2)) l
def mT (v:V)(k:V×Int×Int->Si):Si:=lH v λl=>F3 l λa b=>aG a λa=>aG b λb=>k (v,a,b)
def dC (v:V)(k:Sd Nat->Si):Si:=lH v λl=>F3 l λa b=>dB a λa=>dB b λb=>k (bp a b)
def bP (sep:Sd Nat)(l:Sd (Sd Nat)):Sd Nat:=@SZ (Sd Nat) (λ_=>Sd Nat) [] (λa r ih=>@SZ (Sd Nat) (λ_=>Sd Nat) a (λ_ _ _=>bp a (bp sep ih)) r) l
def jI (l:Sd (Sd Nat)):Sd Nat:=@SZ (Sd Nat) (λ_=>Sd Nat) [] (λa _ ih=>bp a ih) l
def bQ (c:Nat)(l:Sd Nat):Sd (Sd Nat):=@SZ Nat (λ_=>Sd (Sd Nat)) [[]]
 (λx _ ih=>@Te (λ_=>Sd (Sd Nat)) (@SZ (Sd Nat) (λ_=>Sd (Sd Nat)) [[x]] (λw ws _=>(x::w)::ws) ih) ([]::ih) (SD x c)) l
def fR (c:Nat):Si:=aD (SD c 32) Se (aD (SV 9 c) (aD (SV c 13) Se (aD (SV 28 c) (SV c 31) ll)) ll)
def Ba (x:Sd Nat×Int)(l:Sd (Sd Nat×Int)):Sd (Sd Nat×Int):=@SZ (Sd Nat×Int) (λ_=>Sd (Sd Nat×Int)) [x]
 (λy r ih=>@Te (λ_=>Sd (Sd Nat×Int)) (y::ih) (x::y::r) (FO x.1 y.1)) l
def dJ (l:Sd (Sd Nat×Int)):Sd (Sd Nat×Int)->Sd (Sd Nat×Int):=@SZ (Sd Nat×Int) (λ_=>Sd (Sd Nat×Int)->Sd (Sd Nat×Int)) (λacc=>acc) (λx _ ih acc=>ih (Ba x acc)) l
def wq (n:Nat):SP Int->Sd Int->(Sd Int->Si)->Si:=@Tb (λ_=>SP Int->Sd Int->(Sd Int->Si)->Si) (λ_ _ k=>k [])
 (λm ih last l k=>@SZ Int (λ_=>Si) (k []) (λi r _=>aD (jf i 127) (k []) (aD (jf i 0) (cU last λl=>k (cw [l] (Tv m))) (ih (Sa i) r λq=>k (i::q)))) l) n
def fY (l:Sd (Sd Nat)):Int->Int:=@SZ (Sd Nat) (λ_=>Int->Int) (λa=>a) (λx _ ih a=>ih (gB a (TA (aK x)))) l
def qP (i:Int)(l:Sd Int):Nat:=@SZ Int (λ_=>Nat) 0 (λj _ ih=>@Te (λ_=>Nat) (Tv ih) 0 (jf i j)) l
def wj (l:Sd α)(hi:V)(k:Sd α->Si):Si:=cp hi (k l) (λ_=>ll) (λj=>k (fy l (eV j (aK l)))) (λ_=>ll) (λ_=>ll) (λ_=>ll)
def cut (l:Sd α)(lo hi:V)(k:Sd α->Si):Si:=cp lo (wj l hi k) (λ_=>ll) (λi=>wj l hi λq=>k (ng q (eV i (aK l)))) (λ_=>ll) (λ_=>ll) (λ_=>ll)
abbrev Aq (fm:Fm)(i:Nat)(st:St)(k:Nat->SP V->Si):Si:=getL fm.cel i (λn=>st.get n λo=>eo o λw=>k n w) ll
abbrev fT (c:Si)(i:Nat)(fm:Fm)(st:St)(k:V->Si):Si:=@Te (λ_=>Si) (getL fm.loc i (λo=>cU o k) ll) (Aq fm i st λ_ w=>cU w k) c
abbrev fU (c:Si)(i:Nat)(fm:Fm)(v:V)(st:St)(k:Fm->St->Si):Si:=@Te (λ_=>Si)
 (nB fm.loc i (Sa v) λl=>k ⟨l,fm.cel⟩ st) (Aq fm i st λn _=>st.set n (.cell (Sa v)) λst=>k fm st) c
abbrev bY (j:Nat):St->(Sd Nat->St->Si)->Si:=@Tb (λ_=>St->(Sd Nat->St->Si)->Si) (λst k=>k [] st) (λ_ ih st k=>st.push (.cell none) λn st=>ih st λq s=>k (n::q) s) j
noncomputable abbrev cq (j:Nat):Sd (SP V):=@Tb (λ_=>Sd (SP V)) [] (λ_ ih=>none::ih) j
abbrev xK (cel:Sd Nat)(l:Sd Nat)(k:Sd Nat->Si):Si:=dY (λi k=>getL cel i k ll) l k
def fe (v:V)(st:St)(k:Nat->Nat->Nat->Sd (Nat×V)->Sd V->Si):Si:=bB v λn=>st.get n λo=>tQ o λc d fs l=>k n c d fs l
def fh:FN:=λvs st k=>nv vs λa=>fe a st λ_ _ _ fs l=>dY dC l λxs=>dK fs 11 λv=>aG v λi=>aD (pU 0 i) (aD (small (fY xs i)) (k (.int (fY xs i)) st) ll) ll
def pf:FN:=λvs st k=>nv vs λa=>fe a st λ_ _ _ _ l=>aD (aB (aK l)) (dY dC l λxs=>aD (aB (aK (jI xs))) (k (.str (jI xs)) st) ll) ll
noncomputable abbrev av:CA:=λ_ st k=>k [] st
noncomputable abbrev ae (e:CE)(as:CA):CA:=λfm st k=>e fm st λv st=>as fm st λvs st=>k (v::vs) st
abbrev aa (c:Si)(i:Nat):CE:=λfm st k=>fT c i fm st λv=>k v st
noncomputable abbrev ao (v:V):CE:=λ_ st k=>k v st
noncomputable abbrev aA (op:OP)(a b:CE):CE:=λfm st k=>a fm st λx st=>b fm st λy st=>op x y st k
abbrev qA (a:CE):CE:=λfm st k=>a fm st λx st=>aG x λi=>k (.int (Z3 i)) st
noncomputable abbrev uA (op:CP)(a b:CE):CE:=λfm st k=>a fm st λx st=>b fm st λy st=>op x y st λc=>k (.bool c) st
abbrev uU (c:CT)(a b:CE):CE:=λfm st k=>c fm st λx st=>aD x (a fm st k) (b fm st k)
noncomputable abbrev cN (as:CA):CE:=λfm st k=>as fm st λvs st=>k (.tup vs) st
abbrev d0 (as:CA):CE:=λfm st k=>as fm st λvs st=>st.push (.list vs) λn st=>k (.ref n) st
def GR (l:Sd α)(i:Int)(k:α->Si):Si:=@UU (λ_=>Si) (λj=>getL l j k ll) (λj=>aD (SV (aK l) j) ll (getL l (aaP (aK l) (Tv j)) k ll)) i
def cZ (a i:V)(st:St)(k:KV):Si:=aG i λj=>aD (small j) (cp a ll (λ_=>ll) (λ_=>ll) (λs=>GR s j λc=>k (.str [c]) st) (λn=>K7 st n λl=>GR l j λv=>k v st) (λl=>GR l j λv=>k v st)) ll
abbrev dw (a i:CE):CE:=λfm st k=>a fm st λx st=>i fm st λy st=>cZ x y st k
def uZ (a lo hi:V)(st:St)(k:KV):Si:=cp a ll (λ_=>ll) (λ_=>ll) (λs=>aD (aB (aK s)) (cut s lo hi λx=>k (.str x) st) ll)
 (λn=>st.get n λo=>gQ o λl=>aD (aB (aK l)) (cut l lo hi λx=>st.push (.list x) λm st=>k (.ref m) st) ll) (λ_=>ll)
abbrev vv (a lo hi:CE):CE:=λfm st k=>a fm st λx st=>lo fm st λy st=>hi fm st λz st=>uZ x y z st k
abbrev Df (a:CE):CE:=λfm st k=>a fm st λx st=>dB x λs=>aD (aB (aK s)) (k (.str (kR s ll)) st) ll
abbrev bv (a:CE)(x:Nat):CE:=λfm st k=>a fm st λv st=>getAttr v x st k
noncomputable abbrev fA (f:FN)(as:CA):CE:=λfm st k=>as fm st λvs st=>f vs st k
abbrev bz (c:Nat)(f:FN)(a:CE)(as:CA):CE:=λfm st k=>a fm st λx st=>bB x λn=>st.get n λo=>pi o λd _ _=>aD (SD d c) (as fm st λvs st=>f (x::vs) st k) ll
abbrev Al (e:CE):CA:=λfm st k=>e fm st λx st=>lH x λl=>aD (aB (aK l)) (k l st) ll
def fQ (c:Nat)(d:Nat):O:=@Te (λ_=>O) (.inst c d []) (.lsub c d [] []) (SD c 2)
abbrev iF (c:Nat)(f:FN)(as:CA):CE:=λfm st k=>as fm st λvs st=>st.push .hid λd st=>st.push (fQ c d) λn st=>f (.ref n::vs) st λv st=>sK v .none st λb=>aD b (k (.ref n) st) ll
def dU:FN:=λvs st k=>nv vs λv=>cp v ll (λ_=>ll) (λ_=>ll) (λs=>aD (aB (aK s)) (k (.int (TA (aK s))) st) ll)
 (λn=>st.get n λo=>@O.rec (λ_=>Si) (λl=>aD (aB (aK l)) (k (.int (TA (aK l))) st) ll) (λ_=>ll) (λ_ _ _=>ll) (λ_ _ _ _=>fh vs st k) ll o) (λl=>aD (aB (aK l)) (k (.int (TA (aK l))) st) ll)
def vx:FN:=λvs st k=>pf vs st k
def jH:FN:=λvs st k=>F3 vs λa b=>aG a λa=>aG b λb=>k (.int (ve a b)) st
def GC:FN:=λvs st k=>nv vs λv=>bB v λn=>bg st n λl=>iZq l λq=>dc q λa m=>k (.int (rk m a)) st
def Ca:FN:=λvs st k=>nv vs λv=>bB v λn=>bg st n λl=>dY mT l λq=>dc q λa m=>k (yG m a) st
def zD:FN:=λvs st k=>nv vs λv=>bB v λn=>bg st n λl=>iZq l λq=>k (.int (ze q 0)) st
def DW:FN:=λvs st k=>nv vs λv=>aG v λi=>aD (pU 97 i) (aD (pU i 122) (k (.str [cT i]) st) ll) ll
def Do:FN:=λvs st k=>nv vs λv=>bB v λn=>bg st n λl=>aD (aB (aK l)) (k (.tup l) st) ll
noncomputable abbrev gv (b:FN)(as:CA):CE:=λfm st k=>as fm st λvs st=>b vs st k
abbrev xO:=V->Sd V->St->KV->Si
def oG:xO:=λa vs st k=>dB a λs=>nv vs λv=>bB v λn=>bg st n λl=>dY dB l λxs=>aD (aB (aK s)) (aD (aB (aK (bP s xs))) (k (.str (bP s xs)) st) ll) ll
def vc:xO:=λa vs st k=>dB a λs=>nv vs λv=>dB v λc=>nv c λc=>aD (aB (aK s)) (st.push (.list (fE .str (bQ c s))) λn st=>k (.ref n) st) ll
def nu:xO:=λa vs st k=>dB a λs=>ge vs (aD (gu (λc=>SV c 127) s) (k (.bool (aD (iN s) (gu fR s) ll)) st) ll)
def jQ:xO:=λa vs st k=>bB a λn=>nv vs λv=>st.get n λo=>@O.rec (λ_=>Si) (λl=>aD (aB (aK l)) (st.set n (.list (bp l [v])) λst=>k .none st) ll) (λ_=>ll) (λ_ _ _=>ll)
 (λc d fs l=>aD (aB (aK l)) (st.set n (.lsub c d fs (bp l [v])) λst=>k .none st) ll) ll o
def vD:xO:=λa vs st k=>bB a λn=>nv vs λv=>aG v λi=>bg st n λl=>iZq l λxs=>aD (aB (aK l)) (aD (iL i xs) (k (.int (TA (qP i xs))) st) ll) ll
abbrev E9:CE:=λfm st k=>fT ll 0 fm st λv=>fe v st λn c d fs l=>ge l (st.set n (.lsub c d fs []) λst=>k .none st)
abbrev Fh:CE:=λfm st k=>fT ll 0 fm st λv=>fe v st λn c d fs l=>dc l λx r=>aD (aB (aK l)) (st.set n (.lsub c d fs (nI l)) λst=>k (oJ r x) st) ll
abbrev ES:CE:=λfm st k=>fT ll 0 fm st λv=>fe v st λ_ _ _ _ l=>aD (aB (aK l)) (k (.int (TA (aK l))) st) ll
abbrev Gm:CE:=λfm st k=>fT ll 0 fm st λv=>fh [v] st k
abbrev Bs:CE:=λfm st k=>fT ll 0 fm st λv=>pf [v] st k
abbrev sM (m:xO)(a:CE)(as:CA):CE:=λfm st k=>a fm st λx st=>dB x λ_=>as fm st λvs st=>m x vs st k
abbrev lQ (m:xO)(a:CE)(as:CA):CE:=λfm st k=>a fm st λx st=>bB x λn=>st.get n λo=>gQ o λ_=>as fm st λvs st=>m x vs st k
def eM (v:V)(st:St)(k:Si->St->Si):Si:=cp v (k ll st) (λb=>k b st) (λi=>k (ee (jf i 0)) st) (λs=>aD (aB (aK s)) (k (iN s) st) ll)
 (λn=>st.get n λo=>@O.rec (λ_=>Si) (λl=>aD (aB (aK l)) (k (iN l) st) ll) (λ_=>ll) (λ_ _ _=>ll) (λ_ _ _ _=>fh [v] st λv st=>aG v λi=>k (ee (jf i 0)) st) ll o) (λ_=>ll)
abbrev tE (a:CE):CT:=λfm st k=>a fm st λv st=>eM v st k
noncomputable abbrev bR (op:CP)(a b:CE):CT:=λfm st k=>a fm st λx st=>b fm st λy st=>op x y st λc=>k c st
abbrev Nj (a:CT):CT:=λfm st k=>a fm st λb st=>k (ee b) st
abbrev qk (a b:CT):CT:=λfm st k=>a fm st λx st=>aD x (b fm st k) (k ll st)
abbrev Rh (a b:CT):CT:=λfm st k=>a fm st λx st=>aD x (k Se st) (b fm st k)
abbrev GH (a:CE):CE:=λfm st k=>a fm st λv st=>eM v st λb st=>k (.bool (ee b)) st
abbrev He (a b:CE):CE:=λfm st k=>a fm st λv st=>iT v st λx=>aD x (b fm st k) (k v st)
abbrev Qc (a b:CE):CE:=λfm st k=>a fm st λv st=>iT v st λx=>aD x (k v st) (b fm st k)
abbrev aw (c:Si)(i:Nat):CG:=λfm v st k=>fU c i fm v st k
abbrev eQ (a:CE)(x:Nat):CG:=λfm v st k=>a fm st λo st=>setAttr o x v st λst=>k fm st
def mP (x y v:V)(st:St)(k:St->Si):Si:=bB x λn=>aG y λj=>aD (small j) (bg st n λl=>idx j (aK l) λj=>nB l j v λl=>st.set n (.list l) k) ll
abbrev zj (a i:CE):CG:=λfm v st k=>a fm st λx st=>i fm st λy st=>mP x y v st λst=>k fm st
abbrev ED (a lo:CE):CG:=λfm v st k=>a fm st λx st=>lo fm st λy st=>fe x st λn c d fs l=>bB v λm=>bg st m λq=>aD (aB (aK l)) (aD (aB (aK q))
 (cp y (st.set n (.lsub c d fs q) λst=>k fm st) (λ_=>ll) (λi=>st.set n (.lsub c d fs (bp (fy l (eV i (aK l))) q)) λst=>k fm st) (λ_=>ll) (λ_=>ll) (λ_=>ll)) ll) ll
abbrev xE:=Fm->Sd V->St->(Fm->St->Si)->Si
abbrev eW:xE:=λfm l st k=>ge l (k fm st)
abbrev bh (t:CG)(ts:xE):xE:=λfm l st k=>dc l λv q=>t fm v st λfm st=>ts fm q st k
abbrev fM (m:Nat)(ts:xE):CG:=λfm v st k=>cp v ll (λ_=>ll) (λ_=>ll) (λ_=>ll) (λn=>bg st n λl=>aD (SD (aK l) m) (ts fm l st k) ll) (λl=>aD (SD (aK l) m) (ts fm l st k) ll)
noncomputable abbrev tN (t u:CG):CG:=λfm v st k=>t fm v st λfm st=>u fm v st k
abbrev eN:=Fm->du->St->(Fm->St->Si)->Si
abbrev em (t:CG):eN:=λfm i st k=>@du.rec (λ_=>Si) (λa=>t fm a st k) (λ_ _=>ll) i
abbrev yS (t1 t2:CG):eN:=λfm i st k=>@du.rec (λ_=>Si) (λ_=>ll) (λa b=>t1 fm a st λfm st=>t2 fm b st k) i
def eB (a b s:Int)(st:St)(k:It->St->Si):Si:=aD (small a) (aD (small b) (aD (jf s 1)
 (aD (aB (cT (iC b a))) (k (.rng a (cT (iC b a)) s) st) ll)
 (aD (jf s (-1)) (aD (aB (cT (iC a b))) (k (.rng a (cT (iC a b)) s) st) ll) ll)) ll) ll
abbrev tn (b:CE):CI:=λfm st k=>b fm st λy st=>aG y λy=>eB 0 y 1 st k
abbrev dG (a b:CE):CI:=λfm st k=>a fm st λx st=>b fm st λy st=>aG x λx=>aG y λy=>eB x y 1 st k
abbrev BG (a b c:CE):CI:=λfm st k=>a fm st λx st=>b fm st λy st=>c fm st λz st=>aG x λx=>aG y λy=>aG z λz=>eB x y z st k
def fN (s:Sd Nat):Si:=gu (λc=>SV c 127) s
abbrev lK (a:CE):CI:=λfm st k=>a fm st λx st=>cp x ll (λ_=>ll) (λ_=>ll) (λs=>aD (fN s) (k (.enT 0 s) st) ll) (λn=>bg st n λ_=>k (.enS 0 n 0) st) (λ_=>ll)
abbrev iE (a:CE):CI:=λfm st k=>a fm st λx st=>cp x ll (λ_=>ll) (λ_=>ll) (λs=>aD (fN s) (k (.str s) st) ll) (λn=>bg st n λ_=>k (.seq n 0) st) (λl=>k (.tup l) st)
noncomputable abbrev aH:CS:=λfm st k=>k .nxt fm st
abbrev aq (a b:CS):CS:=λfm st k=>a fm st λf fm st=>@Fl.rec (λ_=>Si) (b fm st k) (k .brk fm st) (k .cnt fm st) (λv=>k (.ret v) fm st) f
noncomputable abbrev aV (e:CE)(t:CG):CS:=λfm st k=>e fm st λv st=>t fm v st λfm st=>k .nxt fm st
noncomputable abbrev Bb (as:CA)(ts:xE):CS:=λfm st k=>as fm st λvs st=>ts fm vs st λfm st=>k .nxt fm st
def y3:OP:=λa b st k=>aG a λx=>aG b λy=>k (.int (gB x y)) st
abbrev vd (c:Si)(i:Nat)(op:OP)(e:CE):CS:=λfm st k=>fT c i fm st λv=>e fm st λx st=>op v x st λy st=>fU c i fm y st λfm st=>k .nxt fm st
abbrev js (a i:CE)(e:CE):CS:=λfm st k=>a fm st λx st=>i fm st λj st=>cZ x j st λo st=>e fm st λy st=>aG o λo=>aG y λy=>mP x j (.int (gB o y)) st λst=>k .nxt fm st
abbrev ij (c:CT)(a b:CS):CS:=λfm st k=>c fm st λx st=>aD x (a fm st k) (b fm st k)
noncomputable abbrev dq (e:CE):CS:=λfm st k=>e fm st λv st=>k (.ret v) fm st
noncomputable abbrev EK:CS:=λfm st k=>k (.ret .none) fm st
abbrev dI (e:CE):CS:=λfm st k=>e fm st λv st=>cp v (k .nxt fm st) (λ_=>ll) (λ_=>ll) (λ_=>ll) (λ_=>ll) (λ_=>ll)
noncomputable abbrev u4:CS:=λfm st k=>k .brk fm st
noncomputable abbrev JP:CS:=λfm st k=>k .cnt fm st
def kS (c:CT)(a b:CS)(n:Nat):CS:=@Tb (λ_=>CS) (λ_ _ _=>ll)
 (λ_ ih fm st k=>c fm st λx st=>aD x (a fm st λf fm st=>@Fl.rec (λ_=>Si) (ih fm st k) (k .nxt fm st) (ih fm st k) (λv=>k (.ret v) fm st) f) (b fm st k)) n
abbrev AC (c:CT)(a b:CS):CS:=kS c a b 200
abbrev CF:=Fm->It->St->(Fl->Fm->St->Si)->Si
def dO (t:eN)(a b:CS)(n:Nat):CF:=@Tb (λ_=>CF) (λ_ _ _ _=>ll)
 (λ_ ih fm it st k=>aY st it (b fm st k) λy it=>t fm y st λfm st=>a fm st λf fm st=>@Fl.rec (λ_=>Si) (ih fm it st k) (k .nxt fm st) (ih fm it st k) (λv=>k (.ret v) fm st) f) n
abbrev je (t:eN)(i:CI)(a b:CS):CS:=λfm st k=>i fm st λit st=>dO t a b 200 fm it st k
abbrev CC:=Fm->It->St->(Sd V->Fm->St->Si)->Si
def bw (t:eN)(c:CT)(body:CB)(n:Nat):CC:=@Tb (λ_=>CC) (λ_ _ _ _=>ll)
 (λ_ ih fm it st k=>aY st it (k [] fm st) λy it=>t fm y st λfm st=>c fm st λx st=>aD x (body fm st λvs fm st=>ih fm it st λus fm st=>k (bp vs us) fm st) (ih fm it st k)) n
noncomputable abbrev gt (e:CE):CB:=λfm st k=>e fm st λv st=>k [v] fm st
abbrev IZ (i:CI)(t:eN)(c:CT)(body:CB):CB:=λfm st k=>i fm st λit st=>bw t c body 200 fm it st k
noncomputable abbrev cA:CT:=λ_ st k=>k Se st
abbrev cI (i:CI)(nl own:Nat)(fr:Sd Nat)(t:eN)(c:CT)(body:CB):CE:=λfm st k=>
 xK fm.cel fr λq=>i fm st λit st=>bY own st λo st=>bw t c body 200 ⟨cq nl,bp o q⟩ it st λvs _ st=>aD (aB (aK vs)) (st.push (.list vs) λn st=>k (.ref n) st) ll
abbrev qg (n g:CE):CE:=λfm st k=>n fm st λx st=>aG x λx=>aD (aB (cT x)) (aD (small x) (g fm st λy st=>bB y λm=>bg st m λl=>iZq l λxs=>wq (cT x) none xs λys=>st.push (.list (fE .int ys)) λn st=>k (.ref n) st) ll) ll
def iH (l:Sd (Sd Nat×Int)):Si:=@SZ (Sd Nat×Int) (λ_=>Si) Se (λx r ih=>@SZ (Sd Nat×Int) (λ_=>Si) Se (λy _ _=>aD (FO x.1 y.1) ih ll) r) l
abbrev bindL (ps:Sd (Si×Nat)):Sd V->Fm->St->(Fm->St->Si)->Si:=@SZ (Si×Nat) (λ_=>Sd V->Fm->St->(Fm->St->Si)->Si) (λvs fm st k=>ge vs (k fm st))
 (λp _ ih vs fm st k=>dc vs λv vs=>fU p.1 p.2 fm v st λfm st=>ih vs fm st k) ps
abbrev bn (ps:Sd (Si×Nat))(nl nc:Nat)(body:CS):FN:=λvs st k=>aD (SD (aK vs) (aK ps))
 (bY nc st λo st=>bindL ps vs ⟨cq nl,o⟩ st λfm st=>body fm st λf _ st=>@Fl.rec (λ_=>Si) (k .none st) ll ll (λv=>k v st) f) ll
abbrev sH (f:FN):FN:=λvs st k=>nv vs λa=>f [a,.none] st k
end
theorem ff {P:Prop}(h:ll=Se):P:=Uw h
theorem dE {b t e:Si}(h:aD b t e=Se):(b=Se/\t=Se)\/(b=ll/\e=Se):=by
 cases b
 ·exact .inr ⟨rfl,h⟩
 ·exact .inl ⟨rfl,h⟩
theorem eH {b t:Si}(h:aD b t ll=Se):b=Se/\t=Se:=by
 cases b
 ·cases h
 ·exact⟨rfl,h⟩
theorem xe {b e:Si}(h:aD b ll e=Se):b=ll/\e=Se:=by
 cases b
 ·exact⟨rfl,h⟩
 ·cases h
theorem fI (b:Si):ee b=!b:=by induction b <;> rfl
theorem iy {k:Int->Si}(h:aG v k=Se):∃i,v=.int i/\k i=Se:=by
 cases v <;> first | exact⟨_,rfl,h⟩ | cases h
theorem pL {k:Sd Nat->Si}(h:dB v k=Se):∃i,v=.str i/\k i=Se:=by
 cases v <;> first | exact⟨_,rfl,h⟩ | cases h
theorem jx {k:Nat->Si}(h:bB v k=Se):∃i,v=.ref i/\k i=Se:=by
 cases v <;> first | exact⟨_,rfl,h⟩ | cases h
theorem kZ {k:Sd V->Si}(h:lH v k=Se):∃i,v=.tup i/\k i=Se:=by
 cases v <;> first | exact⟨_,rfl,h⟩ | cases h
theorem Ar {k:Si->Si}(h:pQ v k=Se):∃i,v=.bool i/\k i=Se:=by
 cases v <;> first | exact⟨_,rfl,h⟩ | cases h
theorem xr {o:SP α}{k:α->Si}(h:cU o k=Se):∃i,o=Sa i/\k i=Se:=by
 cases o
 ·cases h
 ·exact⟨_,rfl,h⟩
theorem BH {k:Sd V->Si}(h:pn o k=Se):∃i,o=.list i/\k i=Se:=by
 induction o <;> first | exact⟨_,rfl,h⟩ | cases h
theorem A7 {k:SP V->Si}(h:eo o k=Se):∃i,o=.cell i/\k i=Se:=by
 induction o <;> first | exact⟨_,rfl,h⟩ | cases h
theorem wk {k:Nat->Nat->Sd (Nat×V)->Sd V->Si}(h:tQ o k=Se):∃c d f l,o=.lsub c d f l/\k c d f l=Se:=by
 induction o <;> first | exact⟨_,_,_,_,rfl,h⟩ | cases h
theorem lg {k:Sd V->Si}(h:gQ o k=Se):(∃l,o=.list l/\k l=Se)\/∃c d f l,o=.lsub c d f l/\k l=Se:=by
 induction o <;> first | exact .inl ⟨_,rfl,h⟩ | exact .inr ⟨_,_,_,_,rfl,h⟩ | cases h
theorem qv {k:Nat->Sd (Nat×V)->(Sd (Nat×V)->O)->Si}(h:pi o k=Se) :
  (∃c d f,o=.inst c d f/\k c f (O.inst c d)=Se)\/∃c d f l,o=.lsub c d f l/\k c f (λf=>O.lsub c d f l)=Se:=by
 induction o <;> first | exact .inl ⟨_,_,_,rfl,h⟩ | exact .inr ⟨_,_,_,_,rfl,h⟩ | cases h
section
variable {α β:Type}
theorem Cp {l:Sd α}{k:Si}(h:ge l k=Se):l=[]/\k=Se:=by
 cases l
 ·exact⟨rfl,h⟩
 ·cases h
theorem wJ {l:Sd α}{k:α->Sd α->Si}(h:dc l k=Se):∃a r,l=a::r/\k a r=Se:=by
 cases l
 ·cases h
 ·exact⟨_,_,rfl,h⟩
theorem tv {l:Sd α}{k:α->Si}(h:nv l k=Se):∃a,l=[a]/\k a=Se:=by
 refine fB (wJ h) λa r e82 h=>?_;subst e82
 refine dH (Cp h) λe80 h=>?_;subst e80
 exact⟨a,rfl,h⟩
theorem FE {l:Sd α}{k:α->α->Si}(h:F3 l k=Se):∃a b,l=[a,b]/\k a b=Se:=by
 refine fB (wJ h) λa r e82 h=>?_;subst e82
 refine aE (tv h) λb e81 h=>?_;subst e81
 exact⟨a,b,rfl,h⟩
theorem BO {l:Sd α} {k:α->Si}{z:Si}(h:getL l i k z=Se):(∃x,l[i]? = Sa x/\k x=Se)\/(l.length<=i/\z=Se):=by
 induction l generalizing i with
 | nil=>exact .inr ⟨Td _,h⟩
 | cons x r ih=>
  induction i with
  | zero=>exact .inl ⟨x,rfl,h⟩
  | succ i=>
   rcases ih (i:=i) h with ⟨y,e,q⟩ | ⟨e,q⟩
   ·exact .inl ⟨y,by simpa using e,q⟩
   ·exact .inr ⟨TQ e,q⟩
theorem vB {l:Sd α} {k:α->Si}(h:getL l i k ll=Se):∃x,l[i]? = Sa x/\k x=Se:=by
 rcases BO h with q | ⟨_,q⟩
 ·exact q
 ·cases q
theorem IJ {l:Sd α} {v:α}{k:Sd α->Si}(h:nB l i v k=Se):i<l.length/\k (l.set i v)=Se:=by
 induction l generalizing i k with
 | nil=>cases h
 | cons x r ih=>
  induction i with
  | zero=>exact⟨Nat.zero_lt_succ _,h⟩
  | succ i=>
   obtain⟨a,b⟩:=ih (i:=i) (k:=λq=>k (x::q)) h
   exact⟨Nat.succ_lt_succ a,b⟩
theorem aC (l:Sd α):aK l=l.length:=by
 induction l with
 | nil=>rfl
 | cons x r ih=>exact SO Tv ih
theorem bf (l q:Sd α):bp l q=l++q:=by
 induction l with
 | nil=>rfl
 | cons x r ih=>exact SO (x::·) ih
theorem gm (l:Sd α)(n:Nat):fy l n=l.take n:=by
 induction l generalizing n with
 | nil=>induction n <;> rfl
 | cons x r ih=>
  induction n with
  | zero=>rfl
  | succ n=>exact SO (x::·) (ih n)
theorem tz (l:Sd α)(n:Nat):ng l n=l.drop n:=by
 induction l generalizing n with
 | nil=>induction n <;> rfl
 | cons x r ih=>
  induction n with
  | zero=>rfl
  | succ n=>exact ih n
theorem gG (l:Sd α)(n:Nat):cw l n=(Sq n l).flatten:=by
 induction n with
 | zero=>rfl
 | succ n ih=>
  show bp l (cw l n)=_
  rw[bf,ih,TH,TC]
theorem eq (f:α->β)(l:Sd α):fE f l=l.map f:=by
 induction l with
 | nil=>rfl
 | cons x r ih=>exact SO (f x::·) ih
theorem pE (f:α->Si)(l:Sd α):gu f l=l.all f:=by
 induction l with
 | nil=>rfl
 | cons x r ih=>
  show aD (f x) (gu f r) ll=_
  rw[Sd.all_cons,ih]
  cases f x <;> rfl
theorem AS (l:Sd α):nI l=l.dropLast:=by
 induction l with
 | nil=>rfl
 | cons x r ih=>
  induction r with
  | nil=>rfl
  | cons y q=>exact SO (x::·) ih
theorem B6 (l:Sd α)(x:α):oJ l x=(x::l).getLast (by grind):=by
 induction l generalizing x with
 | nil=>rfl
 | cons y r ih=>
  show oJ r y=_
  rw[ih];simp[Sd.getLast_cons]
end
theorem HO {k:Sd Int->Si}(h:iZq l k=Se):∃q,l=q.map V.int/\k q=Se:=by
 induction l generalizing k with
 | nil=>exact⟨[],rfl,h⟩
 | cons x r ih=>
  have h':aG x (λy=>iZq r λq=>k (y::q))=Se:=h
  clear h
  refine aE (iy h') λi e1 h1=>?_
  refine aE (ih (k:=λq=>k (i::q)) h1) λq e2 h2=>?_
  exact⟨i::q,by rw[e1,e2];rfl,h2⟩
namespace T
noncomputable def look:T->Nat->SP O
 | .nil,_=>none
 | .node v _ _,0=>Sa v
 | .node _ l r,j+1=>if j % 2=0 then l.look (j / 2) else r.look (j / 2)
theorem get_t {t:T} {k:O->Si}(h:t.get i k=Se):∃o,t.look i=Sa o/\k o=Se:=by
 induction t generalizing i with
 | nil=>cases h
 | node v l r ihl ihr=>
  cases i with
  | zero=>exact⟨v,rfl,h⟩
  | succ j=>
   have h':@Te (λ_=>Si) (r.get (j / 2) k) (l.get (j / 2) k) (SD (j % 2) 0)=Se:=h
   by_cases q:j % 2=0
   ·rw[q] at h'
    obtain⟨o,a,b⟩:=ihl h'
    exact⟨o,by simp[look,q,a],b⟩
   ·have e:SD (j % 2) 0=ll:=by cases e:SD (j % 2) 0 with | false=>rfl | true=>exact S8 (SK e) q
    rw[e] at h'
    obtain⟨o,a,b⟩:=ihr h'
    exact⟨o,by simp[look,q,a],b⟩
theorem beqF (q:¬j % 2=0):SD (j % 2) 0=ll:=by cases e:SD (j % 2) 0 with | false=>rfl | true=>exact S8 (SK e) q
theorem _root_.Mine.Internal.half_inj (h:i % 2=j % 2)(e:i / 2=j / 2):i=j:=(Nat.div_add_mod i 2).symm.trans ((congr (SO (λx y=>2*x+y) e) h).trans (Nat.div_add_mod j 2))
theorem _root_.Mine.Internal.half_e (h:m % 2=0):(m+1) / 2=m / 2:=by lia
theorem _root_.Mine.Internal.half_o (h:¬m % 2=0):(m+1) / 2=m / 2+1:=by lia
theorem _root_.Mine.Internal.half_lte (h:j % 2=0):j / 2<(m+1) / 2↔j<m:=by lia
theorem _root_.Mine.Internal.half_lto (h:¬j % 2=0):j / 2<m / 2↔j<m:=by lia
theorem look_l {v:O}{l l':T} (q:i % 2=0)(a:∀j,l'.look j=if j=i / 2 then Sa o else l.look j)(j:Nat):(node v l' r).look j=if j=i+1 then Sa o else (node v l r).look j:=by
 induction j using Nat.casesOn with
 | zero=>rfl
 | succ j=>
  show(if j % 2=0 then l'.look (j / 2) else r.look (j / 2))=if j+1=i+1 then Sa o else if j % 2=0 then l.look (j / 2) else r.look (j / 2)
  by_cases p:j % 2=0
  ·rw[SR p,SR p,a]
   by_cases e:j=i
   ·subst e;rw[SR rfl,SR rfl]
   ·rw[Sz λz=>e (half_inj (p.trans q.symm) z),Sz λz=>e (Tv.inj z)]
  ·rw[Sz p,Sz p,Sz λz=>p ((SO (· % 2) (Tv.inj z:j=i)).trans q)]
theorem look_r {v:O}{l r':T} (q:¬i % 2=0)(a:∀j,r'.look j=if j=i / 2 then Sa o else r.look j)(j:Nat):(node v l r').look j=if j=i+1 then Sa o else (node v l r).look j:=by
 induction j using Nat.casesOn with
 | zero=>rfl
 | succ j=>
  show(if j % 2=0 then l.look (j / 2) else r'.look (j / 2))=if j+1=i+1 then Sa o else if j % 2=0 then l.look (j / 2) else r.look (j / 2)
  by_cases p:j % 2=0
  ·rw[SR p,SR p,Sz λz=>q ((SO (· % 2) (Tv.inj z:j=i)).symm.trans p)]
  ·rw[Sz p,Sz p,a]
   by_cases e:j=i
   ·subst e;rw[SR rfl,SR rfl]
   ·rw[Sz λz=>e (half_inj ((ZD.mp p).trans (ZD.mp q).symm) z),Sz λz=>e (Tv.inj z)]
theorem look_0 {v:O}{l:T}(j:Nat):(node o l r).look j=if j=0 then Sa o else (node v l r).look j:=by induction j <;> rfl
theorem look_n (j:Nat):(node o .nil .nil).look j=if j=0 then Sa o else T.nil.look j:=by
 induction j with
 | zero=>rfl
 | succ j=>show(if j % 2=0 then (none:SP O) else none)=none;split <;> rfl
theorem isSome_node {v:O}{l:T}:((node v l r).look (i+1)).isSome=if i % 2=0 then (l.look (i / 2)).isSome else (r.look (i / 2)).isSome:=by
 show(if i % 2=0 then l.look (i / 2) else r.look (i / 2)).isSome=_
 split <;> rfl
theorem set_t {t:T} {k:T->Si}(h:t.set i o k=Se):∃t',(∀j,t'.look j=if j=i then Sa o else t.look j)/\(t.look i).isSome=Se/\k t'=Se:=by
 induction t generalizing i k with
 | nil=>exact ff h
 | node v l r ihl ihr=>
  cases i with
  | zero=>exact⟨.node o l r,look_0,rfl,h⟩
  | succ i=>
   have h':@Te (λ_=>Si) (r.set (i / 2) o λr=>k (.node v l r)) (l.set (i / 2) o λl=>k (.node v l r)) (SD (i % 2) 0)=Se:=h
   by_cases q:i % 2=0
   ·rw[q] at h'
    obtain⟨t',a,b,c⟩:=ihl h'
    exact⟨.node v t' r,look_l q a,by rw[isSome_node,SR q];exact b,c⟩
   ·rw[beqF q] at h'
    obtain⟨t',a,b,c⟩:=ihr h'
    exact⟨.node v l t',look_r q a,by rw[isSome_node,Sz q];exact b,c⟩
theorem ins_t {t:T} {k:T->Si}(h:t.ins i o k=Se):∃t',(∀j,t'.look j=if j=i then Sa o else t.look j)/\k t'=Se:=by
 induction t generalizing i k with
 | nil=>
  induction i with
  | zero=>exact⟨.node o .nil .nil,look_n,h⟩
  | succ i=>exact ff h
 | node v l r ihl ihr=>
  induction i with
  | zero=>exact ff h
  | succ i=>
   have h':@Te (λ_=>Si) (r.ins (i / 2) o λr=>k (.node v l r)) (l.ins (i / 2) o λl=>k (.node v l r)) (SD (i % 2) 0)=Se:=h
   by_cases q:i % 2=0
   ·rw[q] at h'
    refine aE (ihl h') λt' a c=>?_
    exact⟨.node v t' r,look_l q a,c⟩
   ·rw[beqF q] at h'
    refine aE (ihr h') λt' a c=>?_
    exact⟨.node v l t',look_r q a,c⟩
end T
namespace St
noncomputable def look (s:St)(i:Nat):SP O:=s.t.look i
theorem get_t {k:O->Si}(h:s.get i k=Se):∃o,s.look i=Sa o/\k o=Se:=T.get_t h
theorem set_t {k:St->Si}(h:s.set i o k=Se):∃s',s'.n=s.n/\(∀j,s'.look j=if j=i then Sa o else s.look j)/\(4<=i/\(s.look i).isSome=Se)/\k s'=Se:=by
 obtain⟨h4,h⟩:=eH h
 obtain⟨t',a,b,c⟩:=T.set_t h
 exact⟨⟨s.n,t'⟩,rfl,a,⟨Sl h4,b⟩,c⟩
theorem push_t {k:Nat->St->Si}(h:s.push o k=Se):∃s',s'.n=s.n+1/\(∀j,s'.look j=if j=s.n then Sa o else s.look j)/\k s.n s'=Se:=by
 refine aE (T.ins_t h) λt' a b=>?_
 exact⟨⟨s.n+1,t'⟩,rfl,a,b⟩
end St
theorem dm (a b:Int):jf a b=decide (a=b):=by
 have nb:∀x y:Nat,SD x y=decide (x=y):=λx y=>by
  by_cases h:x=y
  ·subst h;simp
  ·rw[Tp h]
   cases q:SD x y with
   | false=>rfl
   | true=>exact S8 (SK q) h
 induction a <;> induction b <;> simp[jf,nb]
 lia
theorem gy (a b:Int):pU a b=decide (a<=b):=by
 have nb:∀x y:Nat,SV x y=decide (x<=y):=λx y=>by
  by_cases h:x<=y
  ·rw[Tq h];exact TU h
  ·rw[Tp h]
   cases q:SV x y with
   | false=>rfl
   | true=>exact S8 (Sl q) h
 induction a with
 | ofNat x=>
  induction b with
  | ofNat y=>simp[pU,nb]
  | negSucc y=>
   have:¬(TA x<=Y8 y):=by simp only[Ux];lia
   simp[pU]
   lia
 | negSucc x=>
  induction b with
  | ofNat y=>
   simp[pU]
   lia
  | negSucc y=>
   simp only[pU,nb]
   by_cases h:y<=x
   ·rw[Tq h,Tq];lia
   ·rw[Tp h,Tp];lia
theorem kj (a b:Int):Cb a b=decide (a<b):=by
 unfold Cb
 rw[gy,fI]
 by_cases h:b<=a
 ·rw[Tq h,Tp (by lia)];rfl
 ·rw[Tp h,Tq (by lia)];rfl
theorem di {i:Int}(h:small i=Se):-1152921504606846976<i/\i<1152921504606846976:=by
 induction i with
 | ofNat n=>
  have:n<=1152921504606846975:=Sl h
  simp only[Ux];lia
 | negSucc n=>
  have:n<=1152921504606846974:=Sl h
  lia
theorem gz (i:Int):cT i=i.toNat:=by induction i <;> rfl
theorem eS (a b:Int):gB a b=a+b:=by induction a <;> induction b <;> rfl
theorem ey (a b:Int):iC a b=a - b:=by
 induction a with
 | ofNat x=>
  induction b with
  | ofNat y=>
   show @Te (λ_=>Int) _ _ (SV y x)=_
   by_cases h:y<=x
   ·rw[TU h]
    show TA (x - y)=_
    simp only[Ux];lia
   ·have:SV y x=ll:=by cases q:SV y x with | false=>rfl | true=>exact S8 (Sl q) h
    rw[this];rfl
  | negSucc y=>rfl
 | negSucc x=>rfl
theorem DF (a b:Int):GV a b=a*b:=by induction a <;> induction b <;> rfl
theorem El (a b:Int):Nn a b=a.fdiv b:=by
 induction a <;> induction b <;> first | rfl | (rename_i x y;induction x <;> first | rfl | (show TA (0 / y)=0;rw[Nat.zero_div];rfl))
theorem pC (a b:Int):Cm a b=a.fmod b:=by
 induction a <;> induction b <;> first | rfl | (rename_i x y;induction x <;> first | rfl | (show TA (0 % y)=0;rw[Nat.zero_mod];rfl))
theorem bT (h:aB n=Se):n<=4095:=Sl h
theorem Jg {i:Int} {k:Nat->Si}(h:idx i n k=Se):∃j,j<n/\((0<=i/\i=j)\/(i<0/\i+n=j))/\k j=Se:=by
 induction i with
 | ofNat j=>
  obtain⟨a,b⟩:=xe h
  exact⟨j,V5 λq=>(nomatch (TU q).symm.trans a),.inl ⟨UR j,rfl⟩,b⟩
 | negSucc j=>
  obtain⟨a,b⟩:=xe h
  have:j<n:=V5 λq=>nomatch (TU q).symm.trans a
  exact⟨n - (j+1),Nat.sub_lt (Tg (Td _) this) (YD _),.inr ⟨Wb j,ZE this⟩,b⟩
theorem JZ {l:Sd α}{i:Int}{k:α->Si}(h:GR l i k=Se):∃j x,l[j]? = Sa x/\j<l.length/\((0<=i/\i=j)\/(i<0/\i+l.length=j))/\k x=Se:=by
 induction i with
 | ofNat j=>
  refine aE (vB h) λx e q=>?_
  exact⟨j,x,e,(Sy.mp e).1,.inl ⟨by simp,by simp⟩,q⟩
 | negSucc j=>
  refine dH (xe h) λa b=>?_
  rw[aC] at a b
  have:j<l.length:=V5 λq=>by rw[TU q] at a;exact nomatch a
  refine aE (vB b) λx e q=>?_
  exact⟨_,x,e,(Sy.mp e).1,.inr ⟨by omega,by show _=((l.length - (j+1):Nat):Int);omega⟩,q⟩
theorem uQ (l q:Sd Nat):CQ l q=decide (l=q):=by
 have nb:∀x y:Nat,SD x y=decide (x=y):=λx y=>by
  by_cases h:x=y
  ·subst h;simp
  ·rw[Tp h]
   cases q:SD x y with
   | false=>rfl
   | true=>exact S8 (SK q) h
 induction l generalizing q with
 | nil=>induction q <;> simp[CQ,ge]
 | cons a r ih=>
  induction q with
  | nil=>rfl
  | cons b q=>
   show aD (SD a b) (CQ r q) ll=_
   rw[nb,ih]
   by_cases h:a=b
   ·subst h;simp[aD]
   ·simp[aD,h]
section
variable {P:Prop}
theorem mI {l:Sd α}{a:α}(i:Nat)(h:l[i]? = Sa a):a∈l:=Sp h
theorem iq {a:α}(h:none=Sa a):P:=by cases h
theorem aM {b t:Si}(h:aD b t ll=Se)(H:b=Se->t=Se->P):P:=(eH h).elim H
theorem Gr {b e:Si}(h:aD b ll e=Se)(H:b=ll->e=Se->P):P:=(xe h).elim H
theorem uE {p q:α->Prop}(h:∃a,p a/\q a)(H:∀a,p a->q a->P):P:=h.elim λa x=>H a x.1 x.2
theorem aO {k:Int->Si}(h:aG v k=Se)(H:∀i,v=.int i->k i=Se->P):P:=uE (iy h) H
theorem dh {k:Sd Nat->Si}(h:dB v k=Se)(H:∀i,v=.str i->k i=Se->P):P:=uE (pL h) H
theorem bO {k:Nat->Si}(h:bB v k=Se)(H:∀i,v=.ref i->k i=Se->P):P:=uE (jx h) H
theorem lA {k:Sd V->Si}(h:lH v k=Se)(H:∀i,v=.tup i->k i=Se->P):P:=uE (kZ h) H
theorem sR {k:Si->Si}(h:pQ v k=Se)(H:∀i,v=.bool i->k i=Se->P):P:=uE (Ar h) H
theorem gJ {v:SP α}{k:α->Si}(h:cU v k=Se)(H:∀i,v=Sa i->k i=Se->P):P:=uE (xr h) H
theorem rN {k:Sd V->Si}(h:pn o k=Se)(H:∀i,o=.list i->k i=Se->P):P:=uE (BH h) H
theorem gU {k:SP V->Si}(h:eo o k=Se)(H:∀i,o=.cell i->k i=Se->P):P:=uE (A7 h) H
theorem w0 {k:Nat->Nat->Sd (Nat×V)->Sd V->Si}(h:tQ o k=Se)(H:∀c d f l,o=.lsub c d f l->k c d f l=Se->P):P:=by
 refine lT (wk h) λc d f l e q=>?_
 exact H c d f l e q
theorem t9 {l:Sd α}{k:Si}(h:ge l k=Se)(H:l=[]->k=Se->P):P:=(Cp h).elim H
theorem lF {l:Sd α}{k:α->Sd α->Si}(h:dc l k=Se)(H:∀a r,l=a::r->k a r=Se->P):P:=(wJ h).elim λa h=>uE h (H a)
theorem d9 {l:Sd α}{k:α->Si}(h:nv l k=Se)(H:∀a,l=[a]->k a=Se->P):P:=uE (tv h) H
theorem nQ {l:Sd α}{k:α->α->Si}(h:F3 l k=Se)(H:∀a b,l=[a,b]->k a b=Se->P):P:=(FE h).elim λa h=>uE h (H a)
theorem gE {l:Sd α} {k:α->Si}(h:getL l i k ll=Se)(H:∀x,l[i]? = Sa x->k x=Se->P):P:=uE (vB h) H
theorem ql {l:Sd α} {v:α}{k:Sd α->Si}(h:nB l i v k=Se)(H:i<l.length->k (l.set i v)=Se->P):P:=(IJ h).elim H
theorem j7 {k:Sd Int->Si}(h:iZq l k=Se)(H:∀q,l=q.map V.int->k q=Se->P):P:=uE (HO h) H
theorem St.get_e {k:O->Si}(h:s.get i k=Se)(H:∀o,s.look i=Sa o->k o=Se->P):P:=uE (St.get_t h) H
theorem St.set_e {k:St->Si}(h:s.set i o k=Se)(H:∀s',s'.n=s.n->(∀j,s'.look j=if j=i then Sa o else s.look j)->(4<=i/\(s.look i).isSome=Se)->k s'=Se->P):P:=by
 refine fD (St.set_t h) λs' a b c q=>?_
 exact H s' a b c q
theorem St.push_e {k:Nat->St->Si}(h:s.push o k=Se)(H:∀s',s'.n=s.n+1->(∀j,s'.look j=if j=s.n then Sa o else s.look j)->k s.n s'=Se->P):P:=by
 refine fF (St.push_t h) λs' a b q=>?_
 exact H s' a b q
theorem kE {l:Sd α}{i:Int}{k:α->Si}(h:GR l i k=Se)(H:∀j x,l[j]? = Sa x->j<l.length->((0<=i/\i=j)\/(i<0/\i+l.length=j))->k x=Se->P):P:=by
 refine Kp (JZ h) λj x a b c q=>?_
 exact H j x a b c q
end
section
variable {α β:Type}{M:Model}{A:Around}{Q:α->Shared->Prop}{E:Value->Shared->Prop}{s:Shared}{c:Prop} [Decidable c] {a b:Sem α}{x y:Sem β}{f:β->Sem α}
theorem wN (h:¬c)(w:So M A b Q E s):So M A (if c then a else b) Q E s:=by rw[Sz h];exact w
theorem wP (h:c)(w:So M A a Q E s):So M A (if c then a else b) Q E s:=by rw[SR h];exact w
theorem Oj (h:¬c)(w:So M A (y >>= f) Q E s):So M A ((if c then x else y) >>= f) Q E s:=by rw[Sz h];exact w
theorem Rs (h:c)(w:So M A (x >>= f) Q E s):So M A ((if c then x else y) >>= f) Q E s:=by rw[SR h];exact w
omit [Decidable c] in
theorem wE (h:a=b)(w:So M A b Q E s):So M A a Q E s:=by rw[h];exact w
omit [Decidable c] in
theorem G6 (h:x=y)(w:So M A (y >>= f) Q E s):So M A (x >>= f) Q E s:=by rw[h];exact w
end
noncomputable abbrev cK (vs:Sd Sn)(n:Nat):Obj:={ cls:=.type "tuple",data:=.seq vs.toArray n }
noncomputable abbrev cB (vs:Sd Sn)(n:Nat):Obj:={ cls:=.type "list",data:=.seq vs.toArray n }
structure lN where
 code:Ss
 tab:Ss
 pos:Pos
 q:Str
 lam:Si
structure Cfg where
 prog:Program
 w:World
 K:Frag
 aa3:Heap
 p:Program
 loose:Sd Str
 mg:Str->SP Sn
 mb:Str->SP Sn
 tabs:Sd lN
 fix:Sd (Nat×Ss×Obj)
noncomputable abbrev Cfg.M (C:Cfg):Model:=model C.prog C.w
mutual
inductive VR (σ:Sd Ss)(h:Heap):V->Sn->Prop
 | none:VR σ h .none .none
 | bool (b:Si):VR σ h (.bool b) (.bool b)
 | int (i:Int) (t:Tok):VR σ h (.int i) (.int i t)
 | str (l:Sd Nat) (t:Tok):VR σ h (.str l) (.str ⟨l.toArray⟩ t)
 | ref {n:Nat} {a:Ss}:σ[n]? = Sa a->VR σ h (.ref n) (.ref a)
 | tup {l:Sd V} {vs:Sd Sn} {a:Ss} {n:Nat}:h.get? a=Sa (cK vs n)->a∉σ->VRs σ h l vs->VR σ h (.tup l) (.ref a)
inductive VRs (σ:Sd Ss)(h:Heap):Sd V->Sd Sn->Prop
 | nil:VRs σ h [] []
 | cons {v:V} {l:Sd V} {x:Sn} {vs:Sd Sn}:VR σ h v x->VRs σ h l vs->VRs σ h (v::l) (x::vs)
end
section
variable {σ:List Addr}{h:Heap}{P:Value->Prop}{u:Value}
@[elab_as_elim] theorem VR.int_e {i:Int} (r:VR σ h (.int i) u) (H:∀t,P (.int i t)):P u:=by cases r;exact H _
@[elab_as_elim] theorem VR.bool_e {b:Si} (r:VR σ h (.bool b) u) (H:P (.bool b)):P u:=by cases r;exact H
@[elab_as_elim] theorem VR.none_e (r:VR σ h .none u) (H:P .none):P u:=by cases r;exact H
@[elab_as_elim] theorem VR.str_e {l:Sd Nat} (r:VR σ h (.str l) u) (H:∀t,P (.str ⟨l.toArray⟩ t)):P u:=by cases r;exact H _
@[elab_as_elim] theorem VR.ref_e (r:VR σ h (.ref n) u) (H:∀a,σ[n]? = Sa a->P (.ref a)):P u:=by cases r;exact H _ ‹_›
@[elab_as_elim] theorem VR.tup_e (r:VR σ h (.tup l) u) (H:∀vs a n,h.get? a=Sa (cK vs n)->a∉σ->VRs σ h l vs->P (.ref a)):P u:=by
 cases r with | tup e n q=>exact H _ _ _ e n q
end
theorem VR.cases_e {motive:(v:V)->(u:Sn)->VR σ h v u->Prop} (r:VR σ h v u)(none:motive .none .none .none)(bool:∀b,motive (.bool b) (.bool b) (.bool b))(int:∀i t,motive (.int i) (.int i t) (.int i t))(str:∀l t,motive (.str l) (.str ⟨l.toArray⟩ t) (.str l t))
  (ref:∀{n a} (e:σ[n]? = Sa a),motive (.ref n) (.ref a) (.ref e)) (tup:∀{l vs a n} (e:h.get? a=Sa (cK vs n)) (m:a∉σ) (q:VRs σ h l vs),motive (.tup l) (.ref a) (.tup e m q)):motive v u r:=by
 cases r with
 | none=>exact none
 | bool b=>exact bool b
 | int i t=>exact int i t
 | str l t=>exact str l t
 | ref e=>exact ref e
 | tup e n q=>exact tup e n q
section
variable {σ:List Addr}{h:Heap}{P:List Value->Prop}{us:List Value}
@[elab_as_elim] theorem VRs.nil_e (r:VRs σ h [] us) (H:P []):P us:=by cases r;exact H
@[elab_as_elim] theorem VRs.cons_e (r:VRs σ h (v::l) us) (H:∀x vs,VR σ h v x->VRs σ h l vs->P (x::vs)):P us:=by
 cases r with | cons a b=>exact H _ _ a b
end
noncomputable def aW:Nat->Str
 | 0=>"raw" | 1=>"n" | 2=>"nt" | 3=>"norm" | 4=>"is_simple" | 5=>"_maxlen" | 6=>"_continuation_ws" | 7=>"_continuation_ws_len" | 8=>"_splitchars" | 9=>"_lines" | 10=>"_current_line"
 | _=>"_initial_size"
inductive ER (σ:Sd Ss)(h:Heap):Sd (Nat×V)->Sd US->Prop
 | nil:ER σ h [] []
 | cons {x:Nat} {v:V} {r:Sd (Nat×V)} {hs:Int} {t:Tok} {u:Sn} {es:Sd US}:x<12->VR σ h v u->ER σ h r es->ER σ h ((x,v)::r) (⟨hs,.str (aW x) t,u⟩::es)
noncomputable def dF:Nat->Ss
 | 0=>83 | 1=>160 | _=>244
inductive Rc (σ:Sd Ss)(h:Heap)(l:Sd V)(a:Ss):Prop
 | mk (vs:Sd Sn) (n:Nat) (g:h.get? a=Sa (cB vs n)) (r:VRs σ h l vs)
inductive RX (σ:Sd Ss)(h:Heap)(v:V)(a:Ss):Prop
 | mk (u:Sn) (g:h.IsCell a (Sa u)) (r:VR σ h v u)
inductive RZ (σ:Sd Ss)(h:Heap)(c d:Nat)(fs:Sd (Nat×V))(a:Ss):Prop
 | mk (hc:c<2) (dx:Ss) (es:Sd US) (n:Nat) (e:σ[d]? = Sa dx) (g:h.get? a=Sa ⟨.ref (dF c),Sa dx,.plain,#[]⟩) (gd:h.get? dx=Sa (VM es n)) (r:ER σ h fs es)
inductive RC (σ:Sd Ss)(h:Heap)(c d:Nat)(fs:Sd (Nat×V))(l:Sd V)(a:Ss):Prop
 | mk (hc:c=2) (dx:Ss) (es:Sd US) (n:Nat) (vs:Sd Sn) (m:Nat) (e:σ[d]? = Sa dx) (g:h.get? a=Sa ⟨.ref (dF c),Sa dx,.seq vs.toArray m,#[]⟩) (gd:h.get? dx=Sa (VM es n)) (r:ER σ h fs es) (rs:VRs σ h l vs)
def OR (σ:Sd Ss)(h:Heap)(o:O)(a:Ss):Prop:=match o with
 | .list l=>Rc σ h l a
 | .cell none=>h.IsCell a none
 | .cell (Sa v)=>RX σ h v a
 | .inst c d fs=>RZ σ h c d fs a
 | .lsub c d fs l=>RC σ h c d fs l a
 | .hid=>True
inductive Mx (σ:Sd Ss)(h:Heap)(i:Nat)(o:O):Prop
 | mk (a:Ss) (e:σ[i]? = Sa a) (r:OR σ h o a)
def Safe (st:St)(j:Nat):Prop:=st.look j=Sa .hid/\∀i c d fs l,(st.look i=Sa (.inst c d fs)\/st.look i=Sa (.lsub c d fs l))->d≠j
inductive TabOk (Ps:Sd Ss)(σ:Sd Ss)(st:St)(h:Heap)(t:lN):Prop
 | mk (ps:Array Sn) (g:h.get? t.tab=Sa { cls:=.none,data:=.fields ps }) (r:Yn ps.toList) (c:t.lam=Se->∀cv,W3 t.pos ps.toList=Sa cv->∃j c,cv=.ref c/\σ[j]? = Sa c/\Safe st j/\(∀P∈Ps,P≠c)/\h.CodeRec cv t.q)
inductive wV (Ps:Sd Ss)(σ:Sd Ss)(st:St)(h:Heap)(t:lN):Prop
 | mk (j:Nat) (e:σ[j]? = Sa t.tab) (sj:Safe st j) (r:TabOk Ps σ st h t)
structure Inv (C:Cfg)(σ:Sd Ss)(st:St)(s:Sr):Prop where
 base:∀b o,C.aa3.get? b=Sa o->s.heap.get? b=Sa o
 nodup:σ.Nodup
 new:∀a∈σ,C.aa3.get? a=none/\(s.heap.get? a).isSome=Se
 n:st.n=σ.length
 at_:∀i o,st.look i=Sa o->Mx σ s.heap i o
 dict:∀i c d fs l,(st.look i=Sa (.inst c d fs)\/st.look i=Sa (.lsub c d fs l))->st.look d=Sa .hid
 apart:∀i j c d fs l c' d' fs' l',(st.look i=Sa (.inst c d fs)\/st.look i=Sa (.lsub c d fs l))->(st.look j=Sa (.inst c' d' fs')\/st.look j=Sa (.lsub c' d' fs' l'))->d=d'->i=j
 tabs:∀t∈C.tabs,wV (C.tabs.map (·.tab)) σ st s.heap t
 fix:∀i a o,(i,a,o)∈C.fix->i<4/\σ[i]? = Sa a/\s.heap.get? a=Sa o/\∃l,st.look i=Sa (.list l)
structure Step (W:Sd Ss)(σ:Sd Ss)(s:Sr)(σ':Sd Ss)(s':Sr):Prop where
 ext:∃τ,σ'=σ++τ/\∀a∈τ,a∉σ/\(s.heap.get? a=none\/a∈W)
 keep:∀b o,b∉σ->b∉W->s.heap.get? b=Sa o->s'.heap.get? b=Sa o
 os:s'.os=s.os
 gens:UV s.gens->UV s'.gens
section
variable {σ σ':List Addr}{h h':Heap}{W:List Addr}
theorem VR.mono (hσ:∀(i:Nat)(a:Ss),σ[i]? = Sa a->σ'[i]? = Sa a)(ht:∀(a:Ss)(vs:Sd Sn)(n:Nat),a∉σ->h.get? a=Sa (cK vs n)->a∉σ'/\h'.get? a=Sa (cK vs n)) (r:VR σ h v u):VR σ' h' v u:=VR.rec (motive_1:=λv u _=>VR σ' h' v u) (motive_2:=λl us _=>VRs σ' h' l us) .none .bool .int .str (λe=>.ref (hσ _ _ e)) (λe n _ ih=>.tup (ht _ _ _ n e).2 (ht _ _ _ n e).1 ih) .nil (λ_ _ a b=>.cons a b) r
theorem VRs.mono (hσ:∀(i:Nat)(a:Ss),σ[i]? = Sa a->σ'[i]? = Sa a)(ht:∀(a:Ss)(vs:Sd Sn)(n:Nat),a∉σ->h.get? a=Sa (cK vs n)->a∉σ'/\h'.get? a=Sa (cK vs n)) {us:Sd Sn}(r:VRs σ h l us):VRs σ' h' l us:=VRs.rec (motive_1:=λv u _=>VR σ' h' v u) (motive_2:=λl us _=>VRs σ' h' l us) .none .bool .int .str (λe=>.ref (hσ _ _ e)) (λe n _ ih=>.tup (ht _ _ _ n e).2 (ht _ _ _ n e).1 ih) .nil (λ_ _ a b=>.cons a b) r
theorem VRs.length (x:VRs σ h l vs):vs.length=l.length:=by
 induction l generalizing vs with
 | nil=>cases x;rfl
 | cons v l ih=>cases x with | cons a b=>rw[Tc,Tc,ih b]
theorem VRs.get {l:Sd V}{vs:Sd Sn}(x:VRs σ h l vs){i:Nat}{v:V}(e:l[i]? = Sa v):∃u,vs[i]? = Sa u/\VR σ h v u:=by
 induction l generalizing vs i with
 | nil=>simp at e
 | cons w l ih=>
  cases x with
  | cons a b=>
   induction i with
   | zero=>simp at e;subst e;exact⟨_,rfl,a⟩
   | succ i=>exact ih b (by simpa using e)
theorem VRs.append {us:Sd Sn}(x:VRs σ h l vs)(y:VRs σ h q us):VRs σ h (l++q) (vs++us):=by
 induction l generalizing vs with
 | nil=>cases x;exact y
 | cons w l ih=>cases x with | cons a b=>exact .cons a (ih b)
theorem VRs.take (x:VRs σ h l vs)(n:Nat):VRs σ h (l.take n) (vs.take n):=by
 induction l generalizing vs n with
 | nil=>cases x;simp;exact .nil
 | cons w l ih=>
  cases x with
  | cons a b=>
   induction n with
   | zero=>exact .nil
   | succ n=>exact .cons a (ih b n)
theorem VRs.drop (x:VRs σ h l vs)(n:Nat):VRs σ h (l.drop n) (vs.drop n):=by
 induction l generalizing vs n with
 | nil=>cases x;simp;exact .nil
 | cons w l ih=>
  cases x with
  | cons a b=>
   induction n with
   | zero=>exact .cons a b
   | succ n=>exact ih b n
theorem VRs.set (x:VRs σ h l vs)(n:Nat) (y:VR σ h v u):VRs σ h (l.set n v) (vs.set n u):=by
 induction l generalizing vs n with
 | nil=>cases x;exact .nil
 | cons w l ih=>
  cases x with
  | cons a b=>
   induction n with
   | zero=>exact .cons y b
   | succ n=>exact .cons a (ih b n)
theorem ER.mono {es:Sd US}(hv:∀{v:V}{u:Sn},VR σ h v u->VR σ' h' v u)(x:ER σ h fs es):ER σ' h' fs es:=by
 induction x with
 | nil=>exact .nil
 | cons a b _ ih=>exact .cons a (hv b) ih
end
namespace Step
variable {W:List Addr}{σ σ1 σ2:List Addr}{s aaQ aaR:Shared}
theorem refl:Step W σ s σ s:=⟨⟨[],by simp,λ_ h=>nomatch h⟩,λ_ _ _ _ e=>e,rfl,λh=>h⟩
theorem trans (x:Step W σ s σ1 aaQ)(y:Step W σ1 aaQ σ2 aaR):Step W σ s σ2 aaR:=by
 refine aE (x.ext) λτ e h=>?_
 refine aE (y.ext) λτ' e' h'=>?_
 refine⟨⟨τ++τ',by rw[e',e,UZ],λa ha=>?_⟩,λb o n w g=>?_,y.os.trans x.os,λh=>y.gens (x.gens h)⟩
 ·rcases Tf.mp ha with ha | ha
  ·exact h a ha
  ·have n:a∉σ:=λm=>(h' a ha).1 (by rw[e];exact Uj _ m)
   refine⟨n,?_⟩
   rcases(h' a ha).2 with q | q
   ·by_cases w:a∈W
    ·exact .inr w
    ·refine .inl ?_
     cases g:s.heap.get? a with
     | none=>rfl
     | some o=>rw[x.keep a o n w g] at q;exact nomatch q
   ·exact .inr q
 ·refine y.keep b o (λhb=>?_) w (x.keep b o n w g)
  rw[e] at hb
  rcases Tf.mp hb with hb | hb
  ·exact n hb
  ·rcases(h b hb).2 with q | q
   ·rw[g] at q;exact nomatch q
   ·exact w q
theorem more (x:Step W σ s σ1 aaQ){W':Sd Ss}(hw:∀b∈W,b∈W'\/s.heap.get? b=none):Step W' σ s σ1 aaQ:=
 ⟨by refine aE (x.ext) λτ e h=>?_;exact⟨τ,e,λa m=>⟨(h a m).1,(h a m).2.elim .inl λq=>(hw a q).elim .inr .inl⟩⟩,λb o n w g=>x.keep b o n (λhb=>(hw b hb).elim w λq=>by rw[q] at g;exact iq g) g,x.os,x.gens⟩
theorem idx (x:Step W σ s σ1 aaQ) (e:σ[i]? = Sa a):σ1[i]? = Sa a:=by
 refine aE (x.ext) λτ q _=>?_
 rw[q,Ti (Sy.mp e).1];exact e
theorem notin (x:Step W σ s σ1 aaQ) (n:a∉σ)(w:a∉W){o:Obj}(l:s.heap.get? a=Sa o):a∉σ1:=by
 refine aE (x.ext) λτ q h=>?_
 rw[q]
 intro m
 rcases Tf.mp m with m | m
 ·exact n m
 ·rcases(h a m).2 with q | q
  ·rw[l] at q;cases q
  ·exact w q
def NoTup (W:Sd Ss)(h:Heap):Prop:=∀a∈W,∀vs n,h.get? a≠Sa (cK vs n)
theorem NoTup.nil:NoTup [] h:=λ_ m=>nomatch m
theorem vr (x:Step W σ s σ1 aaQ)(hw:NoTup W s.heap) (y:VR σ s.heap v u):VR σ1 aaQ.heap v u:=
 y.mono (λ_ _ e=>x.idx e) λa _ _ n e=>⟨x.notin n (λm=>hw a m _ _ e) e,x.keep a _ n (λm=>hw a m _ _ e) e⟩
theorem vrs (x:Step W σ s σ1 aaQ)(hw:NoTup W s.heap) (y:VRs σ s.heap l vs):VRs σ1 aaQ.heap l vs:=
 y.mono (λ_ _ e=>x.idx e) λa _ _ n e=>⟨x.notin n (λm=>hw a m _ _ e) e,x.keep a _ n (λm=>hw a m _ _ e) e⟩
end Step
structure Fx where
 ln:Sd Str
 cn:Sd Str
 gn:Sd Str
 own:Sd Str
structure bb (fx:Fx)(env:Env):Prop where
 kind:env.scope.kind=.function
 glob:env.globals=SY
 blt:env.builtins=T6
 ln:∀x∈fx.ln,env.kindOf x=Sa .local
 cn:∀x∈fx.cn,env.kindOf x=Sa .cell\/env.kindOf x=Sa .free
 gn:∀x∈fx.gn,env.kindOf x=Sa .globalImplicit
 own:∀x∈fx.own,env.kindOf x=Sa .cell
noncomputable def Fx.ok (fx:Fx):Si:=decide fx.ln.Nodup && fx.ln.all (λx=>!(x == ("__debug__":Str))) && fx.cn.all (λx=>!(x == ("__debug__":Str)) && !(x == ("__classdict__":Str))) && fx.gn.all (λx=>!(x == ("__debug__":Str)))
structure FrR (C:Cfg)(fx:Fx)(env:Env)(fm:Fm)(σ:Sd Ss)(s:Sr):Prop where
 ns:∃m,s.heap.Ns env.locals m/\∀(i:Nat) (x:Str) (v:V),fx.ln[i]? = Sa x->fm.loc[i]? = Sa (Sa v)->∃u,m x=Sa u/\VR σ s.heap v u
 out:env.locals∉σ
 new:C.aa3.get? env.locals=none
 len:fm.loc.length<=fx.ln.length
 cel:∀(i n:Nat),fm.cel[i]? = Sa n->∃x a,fx.cn[i]? = Sa x/\env.cells.lookup x=Sa a/\σ[n]? = Sa a
theorem Heap.Ns.noTup {m:Str->SP Sn}(x:h.Ns a m):Step.NoTup [a] h:=by
 intro b hb vs n e
 refine zR x λo es ep ho hd _=>?_
 rw[Sj.mp hb,ho] at e
 cases e
 cases hd
theorem Step.fr {W:Sd Ss}{σ1:Sd Ss}{s aaQ:Sr}(x:Step W σ s σ1 aaQ)(hw:NoTup W s.heap)(hL:env.locals∉W)(F:FrR C fx env fm σ s):FrR C fx env fm σ1 aaQ:=by
 refine aE (F.ns) λm hn hv=>?_
 refine⟨⟨m,hn.at' λo e=>x.keep _ o F.out hL e,λi y v e e'=>?_⟩,x.notin F.out hL hn.choose_spec.choose_spec.choose_spec.1,F.new,F.len,λi n e=>?_⟩
 ·refine aE (hv i y v e e') λu a b=>?_
  exact⟨u,a,x.vr hw b⟩
 ·refine gx (F.cel i n e) λy a h1 h2 h3=>?_
  exact⟨y,a,h1,h2,x.idx h3⟩
structure Rm (d:Nat)(A:Ua):Prop where
 depth:A.depth+d+20<1000
 units:A.units+40*d+200<9900
 handled:A.handled=none
theorem Rm.of {e:Nat}{A':Ua}(x:Rm e A)(h1:A'.depth+d<=A.depth+e)(h2:A'.units+40*d<=A.units+40*e)(h3:A'.handled=none):Rm d A':=⟨Tg (Y9 h1 20) x.depth,Tg (Y9 h2 200) x.units,h3⟩
theorem uM {a k:Nat}(h:k<=40):a+k+40*d<=a+40*(d+1):=by
 rw[Nat.mul_succ,Yh,Z4 k];exact Ts (Ts h _) _
theorem Rm.le {e:Nat} (x:Rm d A)(h:e<=d):Rm e A:=x.of (Ts h _) (Ts (Xy 40 h) _) x.handled
theorem Rm.in1 (x:Rm (d+1) A):Rm d A.in1:=x.of (TV _) (uM (bo rfl)) x.handled
theorem Rm.deeper (x:Rm (d+1) A):Rm d (A.deeper env):=x.of (T7 (Wo ..)) (uM (bo rfl)) x.handled
theorem Rm.top (x:Rm d A):A.depth<1000:=Tg (Sk (S9 _ _) (S9 _ _)) x.depth
structure Cfg.Ok (C:Cfg):Prop where
 X:C.K.In C.aa3
 T:TopRead C.p C.loose C.mg C.mb C.aa3
section
variable {C:Cfg}
inductive Out (C:Cfg)(W:Sd Ss)(σ:Sd Ss)(s:Sr)(k:V->St->Si)(u:Sn)(s':Sr):Prop
 | mk (σ':Sd Ss) (v:V) (st':St) (S:Step W σ s σ' s') (I:Inv C σ' st' s') (r:VR σ' s'.heap v u) (h:k v st'=Se)
def cL:Sn->Sr->Prop:=λ_ _=>False
def gf (C:Cfg)(A:Ua)(t:Sem Sn)(σ:Sd Ss)(s:Sr)(k:V->St->Si):Prop:=So C.M A t (Out C [] σ s k) cL s
def SE (C:Cfg)(fx:Fx)(d:Nat)(e:Expr)(c:CE):Prop:=
 ∀(A:Ua) (env:Env) (σ:Sd Ss) (fm:Fm) (st:St) (s:Sr) (k:V->St->Si),Rm d A->bb fx env->Inv C σ st s->FrR C fx env fm σ s->c fm st k=Se->gf C A (eval e env) σ s k
inductive Q0 (C:Cfg)(b:Nat)(σ:Sd Ss)(s:Sr)(k:Sd V->St->Si)(us:Sd Sn)(s':Sr):Prop
 | mk (b:us.length<=b+4095) (σ':Sd Ss) (l:Sd V) (st':St) (S:Step [] σ s σ' s') (I:Inv C σ' st' s') (r:VRs σ' s'.heap l us) (h:k l st'=Se)
def SA (C:Cfg)(fx:Fx)(d:Nat)(es:Sd Expr)(c:CA):Prop:=
 ∀(A:Ua) (env:Env) (σ:Sd Ss) (fm:Fm) (st:St) (s:Sr) (k:Sd V->St->Si) (pos:Pos),Rm d A->bb fx env->Inv C σ st s->FrR C fx env fm σ s->c fm st k=Se ->
  So C.M A (spliced (W4 pos (TY es env))) (Q0 C es.length σ s k) cL s
inductive OutB (C:Cfg)(σ:Sd Ss)(s:Sr)(k:Si->St->Si)(b:Si)(s':Sr):Prop
 | mk (σ':Sd Ss) (st':St) (S:Step [] σ s σ' s') (I:Inv C σ' st' s') (h:k b st'=Se)
def ST (C:Cfg)(fx:Fx)(d:Nat)(e:Expr)(c:CT):Prop:=
 ∀(A:Ua) (env:Env) (σ:Sd Ss) (fm:Fm) (st:St) (s:Sr) (k:Si->St->Si),Rm d A->bb fx env->Inv C σ st s->FrR C fx env fm σ s->c fm st k=Se ->
  So C.M A (isTrue e env (eval e env)) (OutB C σ s k) cL s
def FlR (σ:Sd Ss)(h:Heap):Fl->Flow->Prop
 | .nxt,.next=>True
 | .brk,.brk=>True
 | .cnt,.cont=>True
 | .ret v,.ret u=>VR σ h v u
 | _,_=>False
@[elab_as_elim] theorem FlR.e {P:Fl->Flow->Prop} {fl:Fl} {f:Flow} (r:FlR σ h fl f) (n:P .nxt .next) (b:P .brk .brk) (c:P .cnt .cont) (t:∀{v u},VR σ h v u->P (.ret v) (.ret u)):P fl f:=by
 cases fl with
 | nxt=>cases f with
  | next=>exact n
  | _=>exact r.elim
 | brk=>cases f with
  | brk=>exact b
  | _=>exact r.elim
 | cnt=>cases f with
  | cont=>exact c
  | _=>exact r.elim
 | ret v=>cases f with
  | ret u=>exact t r
  | _=>exact r.elim
inductive OutS (C:Cfg)(fx:Fx)(env:Env)(σ:Sd Ss)(s:Sr)(k:Fl->Fm->St->Si)(f:Flow)(s':Sr):Prop
 | mk (σ':Sd Ss) (fl:Fl) (fm':Fm) (st':St) (S:Step [env.locals] σ s σ' s') (I:Inv C σ' st' s') (F:FrR C fx env fm' σ' s') (r:FlR σ' s'.heap fl f) (h:k fl fm' st'=Se)
def SS (C:Cfg)(fx:Fx)(d:Nat)(x:Stmt)(c:CS):Prop:=
 ∀(A:Ua) (env:Env) (σ:Sd Ss) (fm:Fm) (st:St) (s:Sr) (k:Fl->Fm->St->Si),Rm d A->bb fx env->Inv C σ st s->FrR C fx env fm σ s->c fm st k=Se ->
  So C.M A (exec x env) (OutS C fx env σ s k) cL s
def SL (C:Cfg)(fx:Fx)(d:Nat)(x:Sd Stmt)(c:CS):Prop:=
 ∀(A:Ua) (env:Env) (σ:Sd Ss) (fm:Fm) (st:St) (s:Sr) (k:Fl->Fm->St->Si),Rm d A->bb fx env->Inv C σ st s->FrR C fx env fm σ s->c fm st k=Se ->
  So C.M A (execs x env) (OutS C fx env σ s k) cL s
inductive OutG (C:Cfg)(fx:Fx)(env:Env)(σ:Sd Ss)(s:Sr)(k:Fm->St->Si)(x:Unit)(s':Sr):Prop
 | mk (σ':Sd Ss) (fm':Fm) (st':St) (S:Step [env.locals] σ s σ' s') (I:Inv C σ' st' s') (F:FrR C fx env fm' σ' s') (h:k fm' st'=Se)
def SG (C:Cfg)(fx:Fx)(d:Nat)(t:Expr)(c:CG):Prop:=
 ∀(A:Ua) (env:Env) (σ:Sd Ss) (fm:Fm) (st:St) (s:Sr) (k:Fm->St->Si) (v:V) (u:Sn),Rm d A->bb fx env->Inv C σ st s->FrR C fx env fm σ s->VR σ s.heap v u->c fm v st k=Se ->
  So C.M A (assign t env u) (OutG C fx env σ s k) cL s
def SF (C:Cfg)(d:Nat)(f:Sn)(c:FN):Prop:=
 ∀(A:Ua) (σ:Sd Ss) (st:St) (s:Sr) (k:V->St->Si) (l:Sd V) (us:Sd Sn),Rm d A->Inv C σ st s->VRs σ s.heap l us->c l st k=Se->gf C A (call f us) σ s k
end
noncomputable def bW:O->SP Nat
 | .inst _ d _=>Sa d
 | .lsub _ d _ _=>Sa d
 | _=>none
section
variable {σ σ':List Addr}{h h':Heap}{o:O}{a:Addr}
theorem OR.mono (hσ:∀(i:Nat)(a:Ss),σ[i]? = Sa a->σ'[i]? = Sa a)(ht:∀(a:Ss)(vs:Sd Sn)(n:Nat),a∉σ->h.get? a=Sa (cK vs n)->a∉σ'/\h'.get? a=Sa (cK vs n))
  (ha:∀x,h.get? a=Sa x->h'.get? a=Sa x) (hd:∀d dx,bW o=Sa d->σ[d]? = Sa dx->∀x,h.get? dx=Sa x->h'.get? dx=Sa x) (r:OR σ h o a):OR σ' h' o a:=by
 induction o with
 | list l=>obtain⟨vs,n,e,q⟩:=r;exact⟨vs,n,ha _ e,q.mono hσ ht⟩
 | cell w=>
  induction w with
  | none=>refine aE r λo e d=>?_;exact⟨o,ha _ e,d⟩
  | some v=>obtain⟨u,⟨o,e,d⟩,q⟩:=r;exact⟨u,⟨o,ha _ e,d⟩,q.mono hσ ht⟩
 | inst c d fs=>obtain⟨hc,dx,es,n,e1,e2,e3,q⟩:=r;exact⟨hc,dx,es,n,hσ _ _ e1,ha _ e2,hd d dx rfl e1 _ e3,q.mono λx=>x.mono hσ ht⟩
 | lsub c d fs l=>obtain⟨hc,dx,es,n,vs,m,e1,e2,e3,q,z⟩:=r;exact⟨hc,dx,es,n,vs,m,hσ _ _ e1,ha _ e2,hd d dx rfl e1 _ e3,q.mono λx=>x.mono hσ ht,z.mono hσ ht⟩
 | hid=>trivial
end
theorem TabOk.keep {Ps:Sd Ss} {t:lN}(x:TabOk Ps σ st h t)(hσ:∀(i:Nat)(a:Ss),σ[i]? = Sa a->σ'[i]? = Sa a)(hs:∀j,Safe st j->Safe st' j)(hk:∀j a y,Safe st j->σ[j]? = Sa a->h.get? a=Sa y->h'.get? a=Sa y)
 (hj:σ[j]? = Sa t.tab) (sj:Safe st j):TabOk Ps σ' st' h' t:=by
 obtain⟨ps,g,tr,cv⟩:=x
 refine⟨ps,hk j _ _ sj hj g,tr,λhl v hv=>?_⟩
 refine Ef (cv hl v hv) λi c e82 hi si hp q=>?_;subst e82
 refine OL q λc' o vs u e g' r=>?_
 cases e
 exact⟨i,c,rfl,hσ _ _ hi,hs _ si,hp,c,o,vs,u,rfl,hk i c o si hi g',r⟩
theorem dR {Ps:Sd Ss}{T:Sd lN} (x:∀t∈T,wV Ps σ st h t)(hσ:∀(i:Nat)(a:Ss),σ[i]? = Sa a->σ'[i]? = Sa a)(hs:∀j,Safe st j->Safe st' j)
  (hk:∀j a y,Safe st j->σ[j]? = Sa a->h.get? a=Sa y->h'.get? a=Sa y):∀t∈T,wV Ps σ' st' h' t:=λt m=>by
 obtain⟨j,hj,sj,r⟩:=x t m
 exact⟨j,hσ _ _ hj,hs _ sj,r.keep hσ hs hk hj sj⟩
theorem Safe.dict (x:Safe st j)(e:st.look i=Sa o)(hd:bW o=Sa d):d≠j:=by
 induction o with
 | inst c d' fs=>cases hd;exact x.2 i c d fs [] (.inl e)
 | lsub c d' fs l=>cases hd;exact x.2 i c d fs l (.inr e)
 | _=>exact iq hd
theorem Safe.of (h:st.look j=Sa .hid)(hd:∀i o d,st.look i=Sa o->bW o=Sa d->d≠j):Safe st j:=
 ⟨h,λi c d fs l q=>by rcases q with q | q <;> exact hd i _ d q rfl⟩
namespace Inv
variable {C:Cfg}{σ:List Addr}{st:St}{s:Shared}
theorem lt (I:Inv C σ st s) (e:st.look i=Sa o):i<st.n:=by
 obtain⟨a,h,_⟩:=I.at_ i o e
 rw[I.n];exact(Sy.mp h).1
theorem inj (I:Inv C σ st s) (x:σ[i]? = Sa a)(y:σ[j]? = Sa a):i=j:=by
 obtain⟨hi,ei⟩:=Sy.mp x
 obtain⟨hj,ej⟩:=Sy.mp y
 have P:=UQ.mp I.nodup
 rcases Z5 i j with h | h | h
 ·exact S8 (ei.trans ej.symm) (P i j hi hj h)
 ·exact h
 ·exact S8 (ej.trans ei.symm) (P j i hj hi h)
theorem dictHid (I:Inv C σ st s) (e:st.look i=Sa o)(hd:bW o=Sa d):st.look d=Sa .hid:=by
 induction o with
 | inst c d' fs=>cases hd;exact I.dict i c d fs [] (.inl e)
 | lsub c d' fs l=>cases hd;exact I.dict i c d fs l (.inr e)
 | _=>exact iq hd
theorem dictOne (I:Inv C σ st s) (e:st.look i=Sa o)(e':st.look j=Sa o')(hd:bW o=Sa d)(hd':bW o'=Sa d):i=j:=by
 have L:∀{i:Nat} {o:O},st.look i=Sa o->bW o=Sa d->∃c fs l,st.look i=Sa (.inst c d fs)\/st.look i=Sa (.lsub c d fs l):=λ{i o} e hd=>by
  induction o with
  | inst c d' fs=>cases hd;exact⟨c,fs,[],.inl e⟩
  | lsub c d' fs l=>cases hd;exact⟨c,fs,l,.inr e⟩
  | _=>exact iq hd
 refine BY (L e hd) λc fs l q=>?_
 refine BY (L e' hd') λc' fs' l' q'=>?_
 exact I.apart i j c d fs l c' d fs' l' q q' rfl
theorem grow (I:Inv C σ st s) (hk:∀b o,s.heap.get? b=Sa o->s'.heap.get? b=Sa o):Inv C σ st s':=
 ⟨λb o e=>hk b o (I.base b o e),I.nodup,λa m=>⟨(I.new a m).1,by obtain⟨o,e⟩:=S1.mp (I.new a m).2;rw[hk _ _ e];rfl⟩,I.n,λi o e=>by
  obtain⟨a,h,r⟩:=I.at_ i o e
  exact⟨a,h,r.mono (λ_ _ e=>e) (λa vs n m e=>⟨m,hk _ _ e⟩) (λx e=>hk _ _ e) λd dx _ _ x e=>hk _ _ e⟩,I.dict,I.apart,dR I.tabs (λ_ _ e=>e) (λ_ s=>s) λ_ _ _ _ _ e=>hk _ _ e,λi a o m=>by refine xY (I.fix i a o m) λq1 q2 q3 q4=>?_;exact⟨q1,q2,hk _ _ q3,q4⟩⟩
theorem other (I:Inv C σ st s){W:Sd Ss} (hk:∀b o,b∉W->s.heap.get? b=Sa o->s'.heap.get? b=Sa o)(hw:∀b∈W,b∉σ/\C.aa3.get? b=none)(ht:Step.NoTup W s.heap):Inv C σ st s':=by
 refine⟨λb o e=>hk b o (λm=>by rw[(hw b m).2] at e;exact iq e) (I.base b o e),I.nodup,λa m=>⟨(I.new a m).1,by obtain⟨o,e⟩:=S1.mp (I.new a m).2;rw[hk _ _ (λq=>(hw a q).1 m) e];rfl⟩,I.n,λi o e=>?_,I.dict,I.apart,dR I.tabs (λ_ _ e=>e) (λ_ s=>s) λ_ a _ _ m e=>hk _ _ (λq=>(hw a q).1 (Sp m)) e,λi a o m=>by obtain⟨q1,q2,q3,q4⟩:=I.fix i a o m;exact⟨q1,q2,hk _ _ (λq=>(hw a q).1 (Sp q2)) q3,q4⟩⟩
 obtain⟨a,h,r⟩:=I.at_ i o e
 refine⟨a,h,r.mono (λ_ _ e=>e) (λb vs n m e=>⟨m,hk b _ (λq=>ht b q _ _ e) e⟩) (λx e=>hk _ _ (λq=>(hw a q).1 (Sp h)) e) λd dx _ e' x e=>hk _ _ (λq=>(hw dx q).1 (Sp e')) e⟩
theorem put (I:Inv C σ st s) {B:Sd Ss}(hn:st'.n=st.n)(hl:∀j,st'.look j=if j=i then Sa o' else st.look j)(h4:4<=i)(e:st.look i=Sa o)(ho:o≠.hid)(hdi:bW o'=bW o)
  (hB:∀b∈B,σ[i]? = Sa b\/∃d,bW o=Sa d/\σ[d]? = Sa b) (hk:∀b x,b∉B->s.heap.get? b=Sa x->s'.heap.get? b=Sa x) (hs:∀b∈B,(s'.heap.get? b).isSome=Se)
  (r:∀a,σ[i]? = Sa a->OR σ s.heap o a->OR σ s'.heap o' a):Inv C σ st' s':=by
 have mem:∀b∈B,b∈σ:=λb m=>by
  rcases hB b m with q | ⟨d,_,q⟩ <;> exact Sp q
 have kt:∀(b:Ss) (vs:Sd Sn) (n:Nat),b∉σ->s.heap.get? b=Sa (cK vs n)->b∉σ/\s'.heap.get? b=Sa (cK vs n):=λb vs n m x=>⟨m,hk b _ (λq=>m (mem b q)) x⟩
 have L:∀{j:Nat} {x:O},st'.look j=Sa x->∃y,st.look j=Sa y/\bW y=bW x:=λ{j x} q=>by
  rw[hl] at q
  by_cases h:j=i
  ·subst h;rw[SR rfl] at q;cases q;exact⟨o,e,hdi.symm⟩
  ·rw[Sz h] at q;exact⟨x,q,rfl⟩
 have HP:∀{d:Nat},st.look d=Sa .hid->st'.look d=Sa .hid:=λ{d} q=>by
  rw[hl]
  by_cases h:d=i
  ·subst h;rw[e] at q;exact S8 (Sa.inj q) ho
  ·rw[Sz h];exact q
 refine⟨λb x q=>hk b x (λm=>by rw[(I.new b (mem b m)).1] at q;exact iq q) (I.base b x q),I.nodup,λa m=>⟨(I.new a m).1,by
  by_cases q:a∈B
  ·exact hs a q
  ·obtain⟨o,e⟩:=S1.mp (I.new a m).2;rw[hk _ _ q e];rfl⟩,hn.trans I.n,λj x q=>?_,λj c d fs l q=>?_,λj k c d fs l c' d' fs' l' q q' hd=>?_,dR I.tabs (λ_ _ e=>e) (λj sj=>Safe.of (HP sj.1) λk x d q hd=>by
   refine aE (L q) λy hy hyd=>?_
   exact sj.dict hy (hyd.trans hd)) λj a y sj hj g=>hk a y (λm=>by
   rcases hB a m with z | ⟨d,hd,z⟩
   ·have:=I.inj hj z
    subst this
    rw[sj.1] at e
    exact ho (Sa.inj e).symm
   ·exact sj.dict e hd (I.inj z hj)) g,λj a x m=>by
   obtain⟨q1,q2,q3,l,q4⟩:=I.fix j a x m
   refine⟨q1,q2,hk a x (λz=>?_) q3,l,by rw[hl,Sz (by lia)];exact q4⟩
   rcases hB a z with z | ⟨d,hd,z⟩
   ·have:=I.inj q2 z;lia
   ·have:=I.inj q2 z
    subst this
    rw[I.dictHid e hd] at q4
    cases q4⟩
 ·by_cases h:j=i
  ·subst h
   rw[hl,SR rfl] at q
   cases q
   obtain⟨a,ha,ra⟩:=I.at_ j o e
   exact⟨a,ha,r a ha ra⟩
  ·rw[hl,Sz h] at q
   obtain⟨a,ha,ra⟩:=I.at_ j x q
   refine⟨a,ha,?_⟩
   by_cases hx:x=.hid
   ·subst hx;trivial
   refine ra.mono (λ_ _ e=>e) kt (λy g=>hk a y (λm=>?_) g) λd dx hd hx' y g=>hk dx y (λm=>?_) g
   ·rcases hB a m with z | ⟨d,hd,z⟩
    ·exact h (I.inj ha z)
    ·have:=I.dictHid e hd
     rw[←I.inj ha z,q] at this
     exact hx (Sa.inj this)
   ·rcases hB dx m with z | ⟨d',hd',z⟩
    ·have:=I.inj hx' z
     subst this
     rw[I.dictHid q hd] at e
     exact ho (Sa.inj e).symm
    ·have:=I.inj hx' z
     subst this
     exact h (I.dictOne q e hd hd')
 ·have key:∀x,st'.look j=Sa x->bW x=Sa d->st'.look d=Sa .hid:=λx q hd=>by
   refine aE (L q) λy hy hyd=>?_
   exact HP (I.dictHid hy (hyd.trans hd))
  rcases q with q | q
  ·exact key _ q rfl
  ·exact key _ q rfl
 ·have key:∀x y,st'.look j=Sa x->st'.look k=Sa y->bW x=Sa d->bW y=Sa d->j=k:=λx y q q' h1 h2=>by
   refine aE (L q) λx' hx hxd=>?_
   refine aE (L q') λy' hy hyd=>?_
   exact I.dictOne hx hy (hxd.trans h1) (hyd.trans h2)
  subst hd
  rcases q with q | q <;> rcases q' with q' | q' <;> exact key _ _ q q' rfl rfl
theorem push (I:Inv C σ st s) (hn:st'.n=st.n+1)(hl:∀j,st'.look j=if j=st.n then Sa o else st.look j)(hd:bW o=none)
  (hk:∀b x,s.heap.get? b=Sa x->s'.heap.get? b=Sa x) (ha:s.heap.get? a=none) (hs:(s'.heap.get? a).isSome=Se) (hb:C.aa3.get? a=none) (r:OR (σ++[a]) s'.heap o a):Inv C (σ++[a]) st' s':=by
 have out:a∉σ:=λm=>by have:=(I.new a m).2;rw[ha] at this;exact ff this
 have kt:∀(b:Ss) (vs:Sd Sn) (n:Nat),b∉σ->s.heap.get? b=Sa (cK vs n)->b∉σ++[a]/\s'.heap.get? b=Sa (cK vs n):=λb vs n m x=>⟨λq=>by
  rcases Tf.mp q with q | q
  ·exact m q
  ·rw[Sj.mp q,ha] at x;exact(nomatch x),hk b _ x⟩
 have hi:∀(i:Nat) (b:Ss),σ[i]? = Sa b->(σ++[a])[i]? = Sa b:=λi b e=>by rw[Ti (Sy.mp e).1];exact e
 have old:∀{j:Nat} {x:O},st.look j=Sa x->st'.look j=Sa x:=λ{j x} e=>by rw[hl,Sz (SJ (I.lt e))];exact e
 have L:∀{j:Nat} {x:O} {d:Nat},st'.look j=Sa x->bW x=Sa d->st.look j=Sa x:=λ{j x d} q h=>by
  rw[hl] at q
  by_cases e:j=st.n
  ·rw[SR e] at q;cases q;rw[hd] at h;exact iq h
  ·rw[Sz e] at q;exact q
 refine⟨λb x e=>hk b x (I.base b x e),?_,λb m=>?_,by rw[hn,I.n];simp,λj x q=>?_,λj c d fs l q=>?_,λj k c d fs l c' d' fs' l' q q' hd=>?_,dR I.tabs hi (λj sj=>Safe.of (old sj.1) λk x d q hd=>sj.dict (L q hd) hd) λ_ _ _ _ _ g=>hk _ _ g,λi a o m=>by obtain⟨q1,q2,q3,l,q4⟩:=I.fix i a o m;exact⟨q1,hi _ _ q2,hk _ _ q3,l,old q4⟩⟩
 ·rw[Vm]
  exact⟨I.nodup,by simp,λb m c m'=>by rw[Sj.mp m'];intro e;exact out (e▸m)⟩
 ·rcases Tf.mp m with m | m
  ·exact⟨(I.new b m).1,by obtain⟨o,e⟩:=S1.mp (I.new b m).2;rw[hk _ _ e];rfl⟩
  ·rw[Sj.mp m];exact⟨hb,hs⟩
 ·rw[hl] at q
  by_cases e:j=st.n
  ·rw[SR e] at q
   cases q
   exact⟨a,by rw[e,I.n];simp,r⟩
  ·rw[Sz e] at q
   obtain⟨b,hb,rb⟩:=I.at_ j x q
   exact⟨b,hi _ _ hb,rb.mono hi kt (λy g=>hk _ _ g) λd dx _ _ y g=>hk _ _ g⟩
 ·rcases q with q | q
  ·exact old (I.dict j c d fs l (.inl (L q rfl)))
  ·exact old (I.dict j c d fs l (.inr (L q rfl)))
 ·subst hd
  rcases q with q | q <;> rcases q' with q' | q' <;> exact I.dictOne (L q rfl) (L q' rfl) rfl rfl
theorem make (I:Inv C σ st s) (hn:st'.n=st.n+2)(hl:∀j,st'.look j=if j=st.n+1 then Sa o else if j=st.n then Sa .hid else st.look j)(hd:bW o=Sa st.n)
  (hk:∀b x,s.heap.get? b=Sa x->s'.heap.get? b=Sa x) (ha:s.heap.get? a=none) (hs:(s'.heap.get? a).isSome=Se) (hb:C.aa3.get? a=none) (ha':s.heap.get? dx=none) (hs':(s'.heap.get? dx).isSome=Se) (hb':C.aa3.get? dx=none) (hne:dx≠a)
  (r:OR (σ++[dx,a]) s'.heap o a):Inv C (σ++[dx,a]) st' s':=by
 have out:a∉σ:=λm=>by have:=(I.new a m).2;rw[ha] at this;exact ff this
 have out':dx∉σ:=λm=>by have:=(I.new dx m).2;rw[ha'] at this;exact ff this
 have kt:∀(b:Ss) (vs:Sd Sn) (n:Nat),b∉σ->s.heap.get? b=Sa (cK vs n)->b∉σ++[dx,a]/\s'.heap.get? b=Sa (cK vs n):=λb vs n m x=>⟨λq=>by
  rcases Tf.mp q with q | q
  ·exact m q
  ·rcases Sv.mp q with q | q
   ·rw[q,ha'] at x;exact nomatch x
   ·rw[Sj.mp q,ha] at x;exact(nomatch x),hk b _ x⟩
 have hi:∀(i:Nat) (b:Ss),σ[i]? = Sa b->(σ++[dx,a])[i]? = Sa b:=λi b e=>by rw[Ti (Sy.mp e).1];exact e
 have old:∀{j:Nat} {x:O},st.look j=Sa x->st'.look j=Sa x:=λ{j x} e=>by
  have:=I.lt e
  rw[hl,Sz (by(exact ktu_ne 1 this)),Sz (by(exact SJ this))];exact e
 have L:∀{j:Nat} {x:O} {d:Nat},st'.look j=Sa x->bW x=Sa d->st.look j=Sa x\/(j=st.n+1/\d=st.n):=λ{j x d} q h=>by
  rw[hl] at q
  by_cases e:j=st.n+1
  ·rw[SR e] at q;cases q;rw[hd] at h;cases h;exact .inr ⟨e,rfl⟩
  ·rw[Sz e] at q
   by_cases e':j=st.n
   ·rw[SR e'] at q;cases q;cases h
   ·rw[Sz e'] at q;exact .inl q
 have H:∀{j:Nat} {x:O} {d:Nat},st'.look j=Sa x->bW x=Sa d->st'.look d=Sa .hid:=λ{j x d} q h=>by
  rcases L q h with q | ⟨rfl,rfl⟩
  ·exact old (I.dictHid q h)
  ·rw[hl,Sz (by(exact Nat.ne_add_one st.n)),SR rfl]
 have K:∀{j k:Nat} {x y:O} {d:Nat},st'.look j=Sa x->st'.look k=Sa y->bW x=Sa d->bW y=Sa d->j=k:=λ{j k x y d} q q' h h'=>by
  rcases L q h with z | ⟨rfl,rfl⟩ <;> rcases L q' h' with z' | ⟨rfl,e⟩
  ·exact I.dictOne z z' h h'
  ·have:=I.lt (I.dictHid z h);lia
  ·have:=I.lt (I.dictHid z' h');lia
  ·rfl
 refine⟨λb x e=>hk b x (I.base b x e),?_,λb m=>?_,by rw[hn,I.n];simp,λj x q=>?_,λj c d fs l q=>?_,λj k c d fs l c' d' fs' l' q q' hd=>?_,dR I.tabs hi (λj sj=>Safe.of (old sj.1) λk x d q hd=>by
   rcases L q hd with z | ⟨_,rfl⟩
   ·exact sj.dict z hd
   ·exact Tu (I.lt sj.1)) λ_ _ _ _ _ g=>hk _ _ g,λi a o m=>by obtain⟨q1,q2,q3,l,q4⟩:=I.fix i a o m;exact⟨q1,hi _ _ q2,hk _ _ q3,l,old q4⟩⟩
 ·rw[Vm]
  refine⟨I.nodup,by simp[hne],λb m c m' e=>?_⟩
  subst e
  rcases Sv.mp m' with q | q
  ·exact out' (q▸m)
  ·exact out (Sj.mp q▸m)
 ·rcases Tf.mp m with m | m
  ·exact⟨(I.new b m).1,by obtain⟨o,e⟩:=S1.mp (I.new b m).2;rw[hk _ _ e];rfl⟩
  ·rcases Sv.mp m with q | q
   ·rw[q];exact⟨hb',hs'⟩
   ·rw[Sj.mp q];exact⟨hb,hs⟩
 ·rw[hl] at q
  by_cases e:j=st.n+1
  ·rw[SR e] at q
   cases q
   exact⟨a,by rw[e,I.n,TZ (by(exact S9 σ.length 1))];simp,r⟩
  ·rw[Sz e] at q
   by_cases e':j=st.n
   ·rw[SR e'] at q
    cases q
    exact⟨dx,by rw[e',I.n];simp,trivial⟩
   ·rw[Sz e'] at q
    obtain⟨b,hb,rb⟩:=I.at_ j x q
    exact⟨b,hi _ _ hb,rb.mono hi kt (λy g=>hk _ _ g) λd dx _ _ y g=>hk _ _ g⟩
 ·rcases q with q | q <;> exact H q rfl
 ·subst hd
  rcases q with q | q <;> rcases q' with q' | q' <;> exact K q q' rfl rfl
end Inv
section
variable {C:Cfg}{fx:Fx}{d:Nat}{A:Around}{env:Env}{σ σ1:List Addr}{fm:Fm}{st:St}{s aaQ:Shared}
theorem Out.trans {W:Sd Ss} (x:Step W σ s σ1 aaQ)(y:Out C W σ1 aaQ k u s'):Out C W σ s k u s':=by
 obtain⟨σ',v,st',a,b,c,e⟩:=y
 exact⟨σ',v,st',x.trans a,b,c,e⟩
theorem OutB.trans {k:Si->St->Si}{u:Si} (x:Step [] σ s σ1 aaQ)(y:OutB C σ1 aaQ k u s'):OutB C σ s k u s':=by
 obtain⟨σ',st',a,b,e⟩:=y
 exact⟨σ',st',x.trans a,b,e⟩
theorem OutS.trans {k:Fl->Fm->St->Si}{f:Flow} (x:Step [env.locals] σ s σ1 aaQ)(y:OutS C fx env σ1 aaQ k f s'):OutS C fx env σ s k f s':=by
 obtain⟨σ',fl,fm',st',a,b,c,r,e⟩:=y
 exact⟨σ',fl,fm',st',x.trans a,b,c,r,e⟩
theorem OutG.trans {k:Fm->St->Si}{f:Unit} (x:Step [env.locals] σ s σ1 aaQ)(y:OutG C fx env σ1 aaQ k f s'):OutG C fx env σ s k f s':=by
 obtain⟨σ',fm',st',a,b,c,e⟩:=y
 exact⟨σ',fm',st',x.trans a,b,c,e⟩
theorem Step.up {W:Sd Ss}(x:Step [] σ s σ1 aaQ):Step W σ s σ1 aaQ:=x.more λ_ h=>nomatch h
theorem Step.fr0 (x:Step [] σ s σ1 aaQ)(F:FrR C fx env fm σ s):FrR C fx env fm σ1 aaQ:=x.fr .nil (λh=>nomatch h) F
theorem Step.toks (t:Nat):Step [] σ s σ { s with toks:=t }:=⟨⟨[],by simp,λ_ h=>nomatch h⟩,λ_ _ _ _ e=>e,rfl,λh=>h⟩
theorem Inv.toks (I:Inv C σ st s)(t:Nat):Inv C σ st { s with toks:=t }:=I.grow (λ_ _ e=>e)
theorem FrR.toks (F:FrR C fx env fm σ s)(t:Nat):FrR C fx env fm σ { s with toks:=t }:=(Step.toks t).fr0 F
theorem cQ (I:Inv C σ st s)(t:Nat)(r:VR σ s.heap v u)(h:k v st=Se):Out C [] σ s k u { s with toks:=t }:=
 ⟨σ,v,st,Step.toks t,I.toks t,r,h⟩
theorem ay {t:Sem Sn} (h:gf C A t σ s k)
  (g:∀σ' v st' u s',Step [] σ s σ' s'->Inv C σ' st' s'->VR σ' s'.heap v u->k v st'=Se->Q u s'):So C.M A t Q E s:=
 Sm h (λu s' ⟨σ',v,st',a,b,c,e⟩=>g σ' v st' u s' a b c e) λ_ _ e=>e.elim
theorem Fx.ok_ln (h:fx.ok=Se) (m:x∈fx.ln):(x == ("__debug__":Str))=ll:=by
 simp only[Fx.ok,S6] at h
 have:=Ta.mp h.1.1.2 x m
 simpa using this
theorem Fx.ok_cn (h:fx.ok=Se) (m:x∈fx.cn):(x == ("__debug__":Str))=ll/\(x == ("__classdict__":Str))=ll:=by
 simp only[Fx.ok,S6] at h
 have:=Ta.mp h.1.2 x m
 simpa using this
theorem Fx.ok_gn (h:fx.ok=Se) (m:x∈fx.gn):(x == ("__debug__":Str))=ll:=by
 simp only[Fx.ok,S6] at h
 have:=Ta.mp h.2 x m
 simpa using this
theorem Fx.ok_nd (h:fx.ok=Se):fx.ln.Nodup:=by
 simp only[Fx.ok,S6] at h
 exact S4 h.1.1.1
theorem AN {c:Si} {k:V->Si}(h:fT c i fm st k=Se) :
  ∃v,k v=Se/\((c=ll/\fm.loc[i]? = Sa (Sa v))\/(c=Se/\∃n,fm.cel[i]? = Sa n/\st.look n=Sa (.cell (Sa v)))):=by
 induction c with
 | false=>
  refine gE h λx e h=>?_
  refine gJ h λv e81 h=>?_;subst e81
  exact⟨v,h,.inl ⟨rfl,e⟩⟩
 | true=>
  refine gE h λn e h=>?_
  refine St.get_e h λo e' h=>?_
  refine gU h λw e81 h=>?_;subst e81
  refine gJ h λv e81 h=>?_;subst e81
  exact⟨v,h,.inr ⟨rfl,n,e,e'⟩⟩
noncomputable def io (fx:Fx)(c:Si)(i:Nat):SP Str:=match c with | false=>fx.ln[i]? | true=>fx.cn[i]?
theorem td {c:Si} (hx:io fx c i=Sa x)(hok:fx.ok=Se)(E:bb fx env)(I:Inv C σ st s)(F:FrR C fx env fm σ s)(h:fT c i fm st (λv=>k v st)=Se) :
  gf C A (loadName env x) σ s k:=by
 refine aE (AN h) λv hv q=>?_
 rcases q with ⟨rfl,e⟩ | ⟨rfl,n,e,e'⟩
 ·refine aE (F.ns) λm hn hm=>?_
  refine aE (hm i x v hx e) λu hu r=>?_
  exact T4 E.kind (E.ln x (Sp hx)) hn hu ⟨σ,v,st,.refl,I,r,hv⟩
 ·refine gx (F.cel i n e) λy a h1 h2 h3=>?_
  have:y=x:=Sa.inj (h1.symm.trans hx)
  subst this
  obtain⟨b,hb,u,hc,r⟩:=I.at_ n _ e'
  have:b=a:=Sa.inj (hb.symm.trans h3)
  subst this
  have o:=(Fx.ok_cn hok (Sp hx)).2
  rcases E.cn y (Sp hx) with z | z
  ·exact wpAny_loadName_cell E.kind z h2 hc ⟨σ,v,st,.refl,I,r,hv⟩
  ·exact wpAny_loadName_free E.kind z h2 hc ⟨σ,v,st,.refl,I,r,hv⟩ o
theorem cC {c:Si} (hx:io fx c i=Sa x)(hok:fx.ok=Se):SE C fx d (.Name x pos) (aa c i):=by
 intro A env σ fm st s k _ E I F h
 refine VW (td hx hok E I F h) ?_
 induction c with
 | false=>exact Fx.ok_ln hok (Sp hx)
 | true=>exact(Fx.ok_cn hok (Sp hx)).1
theorem am {i:Int}{kk:Nat}:SE C fx d (.Constant (.int i) kk pos) (ao (.int i)):=by
 intro A env σ fm st s k _ _ I _ h
 exact Wp (cQ I _ (.int i _) h)
theorem Dh {kk:Nat}:SE C fx d (.Constant .none kk pos) (ao .none):=by
 intro A env σ fm st s k _ _ I _ h
 exact Xz (cQ I s.toks .none h)
theorem cu {b:Si}{kk:Nat}:SE C fx d (.Constant (.bool b) kk pos) (ao (.bool b)):=by
 intro A env σ fm st s k _ _ I _ h
 exact XA (cQ I s.toks (.bool b) h)
theorem iW {l:Sd Nat}{kk:Nat} (hx:x=⟨l.toArray⟩):SE C fx d (.Constant (.str x) kk pos) (ao (.str l)):=by
 intro A env σ fm st s k _ _ I _ h
 subst hx
 exact Constant_str (cQ I _ (.str l _) h)
def zH (C:Cfg)(t:Sn->Sn->Sem Sn)(op:OP):Prop:=
 ∀(A:Ua) (σ:Sd Ss) (st:St) (s:Sr) (k:V->St->Si) (x y:V) (u v:Sn),Rm 0 A->Inv C σ st s->VR σ s.heap x u->VR σ s.heap y v->op x y st k=Se->gf C A (t u v) σ s k
theorem aj {a b:Expr} {o:Operator} (hop:zH C (Yo o) op)(ha:SE C fx d a ca)(hb:SE C fx d b cb):SE C fx d (.BinOp a o b pos) (aA op ca cb):=by
 intro A env σ fm st s k R E I F h
 refine wpAny_BinOp (ay (ha A env σ fm st s _ R E I F h) λσ1 x st1 u aaQ aaU aaW aaZ aaS=>?_)
 refine ay (hb A env σ1 fm st1 aaQ _ R E aaW (aaU.fr0 F) aaS) λσ2 y st2 v aaR aa1 aa4 aa5 aa2=>?_
 exact Sm (hop A σ2 st2 aaR k x y u v (R.le (Td _)) aa4 (aa1.vr .nil aaZ) aa5 aa2) (λ_ _ o=>o.trans (aaU.trans aa1)) λ_ _ e=>e
end
section
variable {C:Cfg}{fx:Fx}{d:Nat}{A:Around}{env:Env}{σ σ1:List Addr}{fm:Fm}{st:St}{s aaQ:Shared}
theorem tw {k:Sd V->Si}(h:bg st n k=Se):∃l,st.look n=Sa (.list l)/\k l=Se:=by
 refine St.get_e h λo e h=>?_
 refine rN h λl e81 h=>?_;subst e81
 exact⟨l,e,h⟩
theorem bC {P:Prop} {k:Sd V->Si}(h:bg st n k=Se)(H:∀l,st.look n=Sa (.list l)->k l=Se->P):P:=uE (tw h) H
theorem Inv.list (I:Inv C σ st s) (e:st.look n=Sa (.list l))(h:σ[n]? = Sa a):Rc σ s.heap l a:=by
 obtain⟨b,hb,vs,m,g,r⟩:=I.at_ n _ e
 have:b=a:=Sa.inj (hb.symm.trans h)
 subst this
 exact⟨vs,m,g,r⟩
theorem bE (I:Inv C σ st s){a:Ss}(h:s.heap.objs.size<=a):C.aa3.get? a=none:=by
 cases q:C.aa3.get? a with
 | none=>rfl
 | some o=>exact S8 (Heap.lt_size (I.base a o q)) (Uk.mpr h)
theorem br {o:Obj}:∀b x,h.get? b=Sa x->(h.push o).get? b=Sa x:=λ_ _ e=>Heap.get?_push_of_some _ e
theorem Step.pushed {o:Obj}{t:Nat}:Step [] σ s σ { s with heap:=s.heap.push o,toks:=t }:=
 ⟨⟨[],by simp,λ_ h=>nomatch h⟩,λb x _ _ e=>br b x e,rfl,λh=>h⟩
theorem Inv.pushed (I:Inv C σ st s){o:Obj}{t:Nat}:Inv C σ st { s with heap:=s.heap.push o,toks:=t }:=I.grow (λb x e=>br b x e)
theorem VRs.pushed {o:Obj}(r:VRs σ h l vs):VRs σ (h.push o) l vs:=r.mono (λ_ _ e=>e) λ_ _ _ m e=>⟨m,br _ _ e⟩
theorem VRs.named (r:VRs σ h l vs)(ha:h.get? a=none):VRs (σ++[a]) h l vs:=
 r.mono (λi b e=>by rw[Ti (Sy.mp e).1];exact e) λb _ _ m e=>by
  refine⟨λq=>?_,e⟩
  rcases Tf.mp q with q | q
  ·exact m q
  ·rw[Sj.mp q,ha] at e
   exact iq e
theorem gk {t:Nat}(I:Inv C σ st s)(r:VRs σ s.heap l vs)(h:st.push (.list l) (λn st=>k (.ref n) st)=Se) :
  Out C [] σ s k (.ref s.heap.objs.size) { s with heap:=s.heap.push (cB vs n),toks:=t }:=by
 refine St.push_e h λst' e1 e2 h=>?_
 have none_:s.heap.get? s.heap.objs.size=none:=by
  cases q:s.heap.get? s.heap.objs.size with
  | none=>rfl
  | some o=>exact S8 (Heap.lt_size q) (Tj _)
 have hn:(σ++[s.heap.objs.size])[st.n]? = Sa s.heap.objs.size:=by rw[I.n];simp
 refine⟨σ++[s.heap.objs.size],.ref st.n,st',⟨⟨[s.heap.objs.size],rfl,λa m=>by rw[Sj.mp m];exact⟨λq=>(by have:=(I.new _ q).2;rw[none_] at this;exact(nomatch this)),.inl none_⟩⟩,λb x _ _ e=>br b x e,rfl,λh=>h⟩,
  I.push (s':={ s with heap:=s.heap.push (cB vs n),toks:=t }) e1 e2 rfl (λb x e=>br b x e) none_ (by rw[Heap.get?_push_size _ rfl];rfl) (bE I (SQ _)) ⟨vs,n,Heap.get?_push_size _ rfl,?_⟩,.ref hn,h⟩
 exact(r.named none_).pushed
theorem aF:zH C (Yo .Add) aQ:=by
 intro A σ st s k x y u v R I rx ry h
 induction rx using VR.cases_e with
 | int i t=>
  refine aO h λj e81 h1=>?_;subst e81
  refine VR.int_e ry λ_=>?_
  rw[eS] at h1
  exact PySem.P.add_int (cQ I _ (.int _ _) h1)
 | str l t=>
  refine dh h λq e81 h1=>?_;subst e81
  refine VR.str_e ry λ_=>?_
  refine aM h1 λhz h2=>?_
  have hz:=bT hz
  rw[aC,aC] at hz
  rw[bf] at h2
  refine PyProof.Rows.add_str (λt' tk=>?_) ?_
  ·have e:((⟨l.toArray⟩:Str)++(⟨q.toArray⟩:Str))=⟨(l++q).toArray⟩:=by show Str.mk (l.toArray++q.toArray)=_;simp
   rw[e]
   exact cQ I tk (.str _ _) h2
  ·show l.toArray.size+q.toArray.size<=_
   rw[U8,Su,Su]
   have:l.length+q.length<=4095:=hz
   lia
 | ref e=>
  refine bO h λj e81 h1=>?_;subst e81
  refine bC h1 λl hl h2=>?_;clear h1
  refine bC h2 λq hq h3=>?_;clear h2
  refine aM h3 λhz h4=>?_;clear h3
  have hz:=bT hz
  rw[aC,aC] at hz
  rw[bf] at h4
  refine VR.ref_e ry λ_ e'=>?_
  obtain⟨vs,m,g,r⟩:=I.list hl e
  obtain⟨us,m',g',r'⟩:=I.list hq e'
  have hz':l.length+q.length<=4095:=hz
  refine PySem.P.add_list g g' ?_ ?_
  ·have e:vs.toArray++us.toArray=(vs++us).toArray:=by simp
   rw[e]
   exact gk (t:=s.toks) I (r.append r') h4
  ·rw[U8,Su,Su,r.length,r'.length];lia
 | none=>exact ff h
 | bool=>exact ff h
 | tup=>exact ff h
theorem bV:zH C (Yo .Sub) cj:=by
 intro A σ st s k x y u v R I rx ry h
 refine aO h λi e81 h1=>?_;clear h;subst e81
 refine aO h1 λj e81 h2=>?_;clear h1;subst e81
 refine VR.int_e rx λ_=>?_;refine VR.int_e ry λ_=>?_
 rw[ey] at h2
 exact PySem.P.sub_int (cQ I _ (.int _ _) h2)
theorem dz:zH C (Yo .Mod) ef:=by
 intro A σ st s k x y u v R I rx ry h
 refine aO h λi e81 h1=>?_;clear h;subst e81
 refine aO h1 λj e81 h2=>?_;clear h1;subst e81
 refine VR.int_e rx λ_=>?_;refine VR.int_e ry λ_=>?_
 refine aM h2 λhs h3=>?_;clear h2
 refine Gr h3 λhz h4=>?_;clear h3
 rw[pC] at h4
 rw[dm] at hz
 exact mod_int_or R.handled (λe=>S8 e (of_decide_eq_false hz)) λ_=>cQ I _ (.int _ _) h4
theorem wa:zH C (Yo .FloorDiv) zr:=by
 intro A σ st s k x y u v R I rx ry h
 refine aO h λi e81 h1=>?_;clear h;subst e81
 refine aO h1 λj e81 h2=>?_;clear h1;subst e81
 refine VR.int_e rx λ_=>?_;refine VR.int_e ry λ_=>?_
 refine aM h2 λhs h3=>?_;clear h2
 refine aM h3 λh5 h3=>?_
 refine aM h3 λh6 h4=>?_;clear h3
 rw[El] at h4
 rw[gy] at h5 h6
 have h5:=S4 h5
 have h6:=S4 h6
 have:=di hs
 exact PyProof.Rows.floordiv_int (by lia) (cQ I _ (.int _ _) h4) (.inl (YE (by omega)))
theorem CV:zH C (Yo .Pow) D5:=by
 intro A σ st s k x y u v R I rx ry h
 refine aO h λi e81 h1=>?_;clear h;subst e81
 refine aO h1 λj e81 h2=>?_;clear h1;subst e81
 refine VR.int_e rx λ_=>?_;refine VR.int_e ry λ_=>?_
 refine aM h2 λhx h3=>?_;clear h2
 refine aM h3 λhy h4=>?_;clear h3
 rw[dm] at hx hy
 have hx:=S4 hx
 have hy:=S4 hy
 subst hx hy
 exact PyProof.Rows.pow_int (by decide) (by decide +kernel) (cQ I _ (.int _ _) h4)
theorem jo (x:Sd α)(n:Nat)(acc:Array α):(Sq n x.toArray).foldl (λa b=>a++b) acc=(acc.toList++(Sq n x).flatten).toArray:=by
 induction n generalizing acc with
 | zero=>simp
 | succ n ih=>rw[TH,Sd.foldl_cons,ih,TH,TC];simp
theorem VRs.rep (r:VRs σ h l vs)(n:Nat):VRs σ h (Sq n l).flatten (Sq n vs).flatten:=by
 induction n with
 | zero=>exact .nil
 | succ n ih=>rw[TH,TC,TH,TC];exact r.append ih
theorem sJ {j:Int}(h:-1152921504606846976<j/\j<1152921504606846976):-9223372036854775808<=j/\j<9223372036854775808:=⟨YF (by decide) (V6 h.1),XE h.2 (by decide)⟩
theorem A6 {j:Int}(h:0<j)(hz:n*j.toNat<=4095):¬(n:Int)>(2 ^ 63 - 1) / j:=by
 refine XK.mpr (Int.le_ediv_of_mul_le h ?_)
 have e:(n:Int)*j=((n*j.toNat:Nat):Int):=by rw[Int.natCast_mul,ZF (V6 h)]
 rw[e];exact YF (Z6.mpr hz) (by decide)
theorem bq:zH C (Yo .Mult) bF:=by
 intro A σ st s k x y u v R I rx ry h
 induction rx using VR.cases_e with
 | int i t=>
  refine aO h λj e81 h1=>?_;subst e81
  refine VR.int_e ry λ_=>?_
  refine aM h1 λhs h3=>?_
  refine aM h3 λhs' h4=>?_
  rw[DF] at h4
  exact PySem.P.mul_int (cQ I _ (.int _ _) h4) (PySem.IntMulOk.of_left (PySem.intBits_le_64 (XE (by decide) (di hs).1) (XE (di hs).2 (by decide))))
 | str l t=>
  refine aO h λj e81 h1=>?_;subst e81
  refine VR.int_e ry λ_=>?_
  refine aM h1 λhs' h3=>?_
  refine aM h3 λhz h4=>?_
  have hs':=di hs'
  have hz:l.length*j.toNat<=4095:=by have:=bT hz;rw[aC,gz] at this;exact this
  rw[gG,gz] at h4
  have hlen:(⟨l.toArray⟩:Str).length=l.length:=Su
  refine SB.mul ⟨?_,λh1 _=>?_,λ_ _=>?_⟩ λt' tk=>?_
  ·simp;exact sJ hs'
  ·rw[hlen]
   exact A6 (XK.mp h1) hz
  ·rw[hlen]
   show decide (l.length*j.toNat>UW)=ll
   rw[U8]
   exact Tp (Uk.mpr (Sk hz (bo rfl)))
  ·have e:Txt.mul ⟨l.toArray⟩ j=⟨((Sq j.toNat l).flatten).toArray⟩:=by
    unfold Txt.mul
    by_cases h1:j<1
    ·rw[SR h1,ZG (Int.le_of_lt_add_one h1)];rfl
    ·rw[Sz h1]
     by_cases h2:(j == 1 || (⟨l.toArray⟩:Str).length == 0)=Se
     ·rw[SR h2]
      rw[hlen] at h2
      simp only[Si.or_eq_true,beq_iff_eq] at h2
      rcases h2 with rfl | h2
      ·simp
      ·have:l=[]:=Wt.mp h2
       subst this;simp
     ·rw[Sz h2,jo];simp
   rw[e]
   exact cQ I tk (.str _ _) h4
 | ref e=>
  refine aO h λj e81 h1=>?_;subst e81
  refine VR.int_e ry λ_=>?_
  refine bC h1 λl hl h2=>?_;clear h1
  refine aM h2 λhs' h3=>?_;clear h2
  refine aM h3 λhz h4=>?_;clear h3
  have hs':=di hs'
  have hz:l.length*j.toNat<=4095:=by have:=bT hz;rw[aC,gz] at this;exact this
  rw[gG,gz] at h4
  obtain⟨vs,m,g,r⟩:=I.list hl e
  have hlen:=r.length
  have hz2:vs.toArray.size*j.toNat<=2 ^ 24:=by rw[Su,hlen];exact Sk hz (bo rfl)
  refine wpAny_binaryOp_repeat_ref (T:="list") (U:="int") (by decide) ⟨_,g,rfl⟩ (λs'=>W5 s' j _) PySem.noFill_list_mul F.fills_int_mul F.slot_int_rmul PySem.repeat_list F.slot_int_index.lookup
   (Wq F.slot_int_rmul (W5 s j _) F.entry_int_rmul (F.args_int_rmul_2 _ _) (int___rmul___int_list j _ _ vs.toArray m)
    ⟨g,rfl,⟨_,g,rfl⟩,Wq F.slot_list_mul ⟨_,g,rfl⟩ F.entry_list_mul (F.args_list_mul_2 _ _)
     (AutoListH.list___mul___list_int_3 _ vs.toArray m j _ (by simp[UF];exact sJ hs') (Uk.mpr (Sk hz2 (bo rfl))) (by simp[Builtin.List.listTooLong,UW];rw[hlen];exact Sk hz (bo rfl)))
     ⟨g,?_⟩⟩)
  have e':Sd.foldl (λx1 x2=>x1++x2) #[] (Sq (if vs.toArray.isEmpty=Se then 0 else j.toNat) vs.toArray)=((Sq j.toNat vs).flatten).toArray:=by
   induction vs with
   | nil=>simp
   | cons x r=>rw[Sz (by simp),jo];simp
  have o:=gk (t:=s.toks) (n:=0) I (r.rep j.toNat) h4
  simp only[cB] at o
  rw[←e'] at o
  exact o
 | none=>exact ff h
 | bool=>exact ff h
 | tup=>exact ff h
end
section
variable {C:Cfg}{fx:Fx}{d:Nat}{A:Around}{env:Env}{σ σ1:List Addr}{fm:Fm}{st:St}{s aaQ:Shared}
theorem vo {f:Vd->Vd->(Si->Si)->Si}(hf:∀a b k,f a b k=Se->k (Wr a b)=Se):∀(l q:Sd Vd)(k:Si->Si),yr f l q k=Se->k (Xf l q)=Se
 | [],[],k,h=>by rw[Xf];exact h
 | [],_::_,k,h=>by rw[Xf];exact h
 | _::_,[],k,h=>by rw[Xf];exact h
 | a::l,b::q,k,h=>by
  have h':f a b (λc=>aD c (yr f l q k) (k ll))=Se:=h
  have h2:=hf _ _ _ h'
  rw[Xf]
  rcases dE h2 with ⟨e,h3⟩ | ⟨e,h3⟩
  ·rw[e,We];exact vo hf l q k h3
  ·rw[e,WA];exact h3
theorem xw:∀(n:Nat)(a b:Vd)(k:Si->Si),IY n a b k=Se->k (Wr a b)=Se
 | 0,_,_,_,h=>by exact ff h
 | n+1,a,b,k,h=>by
  cases a with
  | none=>cases b <;> first | (rw[Wr];exact h) | exact ff h
  | bool x=>
   cases b with
   | bool y=>
    rw[Wr]
    have h':k (@Te (λ_=>Si) (ee y) y x)=Se:=h
    induction x <;> induction y <;> exact h'
   | _=>exact ff h
  | int x=>
   cases b with
   | int y=>
    rw[Wr]
    have h':k (jf x y)=Se:=h
    rw[dm] at h'
    rw[show(x == y)=decide (x=y) from by by_cases e:x=y <;> simp[e]];exact h'
   | _=>exact ff h
  | str x=>
   cases b with
   | str y=>
    rw[Wr]
    have h':k (CQ x.cps.toList y.cps.toList)=Se:=h
    rw[uQ] at h'
    have e:(x == y)=decide (x.cps.toList=y.cps.toList):=by
     by_cases e:x=y
     ·subst e;simp
     ·rw[show(x == y)=ll from beq_eq_false_iff_ne.mpr e,Tp]
      intro q
      exact e (by obtain⟨a⟩:=x;obtain⟨b⟩:=y;simp only at q;rw[Array.toList_inj.mp q])
    rw[e];exact h'
   | _=>exact ff h
  | list x=>
   cases b with
   | list y=>rw[Wr];exact vo (xw n) x y k h
   | _=>exact ff h
  | tuple x=>
   cases b with
   | tuple y=>rw[Wr];exact vo (xw n) x y k h
   | _=>exact ff h
  | dict=>exact ff h
theorem jU {f:V->(Vd->Si)->Si} (hf:∀v u k,VR σ h v u->f v k=Se->∃x,k x=Se/\(∃as,Reads h u x as)/\x.canLay0=Se/\x.depth<=m) :
  ∀(l:Sd V) (us:Sd Sn) (k:Sd Vd->Si),VRs σ h l us->dY f l k=Se->∃xs,k xs=Se/\(∃as,ReadsAll h us xs as)/\X0 xs=Se/\YT xs<=m
 | [],us,k,r,e=>by refine VRs.nil_e r ?_;exact⟨[],e,⟨_,.nil⟩,by simp[X0],by simp[YT]⟩
 | v::l,us,k,r,e=>by
  refine VRs.cons_e r λ_ _ a b=>?_
  refine fD (hf _ _ _ a e) λx h1 h82 h3 h4=>?_;obtain⟨as,h2⟩:=h82
  refine fD (jU hf l _ _ b h1) λxs g1 h82 g3 g4=>?_;obtain⟨bs,g2⟩:=h82
  exact⟨x::xs,g1,⟨_,.cons h2 g2⟩,by simp[X0,h3,g3],by simp[YT];(exact Nat.max_le_of_le_of_le h4 g4)⟩
theorem fX (I:Inv C σ st s):∀(n:Nat)(v:V)(u:Sn)(k:Vd->Si),VR σ s.heap v u->fv st n v k=Se->∃x,k x=Se/\(∃as,Reads s.heap u x as)/\x.canLay0=Se/\x.depth<=n
 | n,.none,_,k,r,h=>by refine VR.none_e r ?_;exact⟨.none,by induction n <;> exact h,⟨_,.none⟩,by simp[VX],by simp[WB]⟩
 | n,.bool b,_,k,r,h=>by refine VR.bool_e r ?_;exact⟨.bool b,by induction n <;> exact h,⟨_,.bool b⟩,by simp[VX],by simp[WB]⟩
 | n,.int i,_,k,r,h=>by refine VR.int_e r λ_=>?_;exact⟨.int i,by induction n <;> exact h,⟨_,.int i _⟩,by simp[VX],by simp[WB]⟩
 | n,.str l,_,k,r,h=>by
  refine VR.str_e r λ_=>?_
  have h':aD (gu (λc=>SV c 1114111) l) (k (.str ⟨l.toArray⟩)) ll=Se:=by induction n <;> exact h
  refine aM h' λe h2=>?_;clear h'
  refine⟨.str ⟨l.toArray⟩,h2,⟨_,.str _ _⟩,?_,by simp[WB]⟩
  rw[pE] at e
  simp only[VX,Vd.strOk]
  simp only[Ta] at e
  simp only[Yp,Ta,decide_eq_true_eq]
  intro c hc
  have:=Sl (e c hc)
  (exact Uh this)
 | 0,.ref a,_,k,_,h=>by exact ff h
 | 0,.tup l,_,k,_,h=>by exact ff h
 | n+1,.ref a,_,k,r,h=>by
  refine VR.ref_e r λ_ e=>?_
  refine St.get_e h λo ho h2=>?_
  refine rN h2 λl e81 h3=>?_;clear h2;subst e81
  obtain⟨vs,m,g,q⟩:=I.list ho e
  refine fD (jU (m:=n) (λv u k r h=>fX I n v u k r h) l vs _ q h3) λxs g1 h82 g3 g4=>?_;obtain⟨bs,g2⟩:=h82
  exact⟨.list xs,g1,⟨_,reads_list_at g rfl rfl g2⟩,by simpa[VX] using g3,by simp[WB];(exact Yq.mp g4)⟩
 | n+1,.tup l,_,k,r,h=>by
  refine VR.tup_e r λ_ _ _ e _ q=>?_
  refine fD (jU (m:=n) (λv u k r h=>fX I n v u k r h) l _ _ q h) λxs g1 h82 g3 g4=>?_;obtain⟨bs,g2⟩:=h82
  exact⟨.tuple xs,g1,⟨_,reads_tuple_at e rfl rfl g2⟩,by simpa[VX] using g3,by simp[WB];(exact Yq.mp g4)⟩
def yR (C:Cfg)(o:CmpOp)(op:CP):Prop:=
 ∀(A:Ua) (σ:Sd Ss) (st:St) (s:Sr) (k:Si->Si) (x y:V) (u v:Sn),Rm 0 A->Inv C σ st s->VR σ s.heap x u->VR σ s.heap y v->op x y st k=Se ->
  So C.M A (compareOp o u v) (λc s'=>∃b t,c=.bool b/\k b=Se/\s'={ s with toks:=t }) cL s
theorem rT {x y:V}{v:Sn}{k:Si->Si}(R:Rm 0 A)(I:Inv C σ st s)(rx:VR σ s.heap x u)(ry:VR σ s.heap y v)(h:DN st x y k=Se) :
  So C.M A (compareOp .Eq u v) (λc s'=>∃b t,c=.bool b/\k b=Se/\s'={ s with toks:=t }) cL s:=by
 refine fD (fX I 5 x u _ rx h) λa h1 h82 la da=>?_;obtain⟨as,ra⟩:=h82
 refine fD (fX I 5 y v _ ry h1) λb h2 h82 lb db=>?_;obtain⟨bs,rb⟩:=h82
 have h3:=xw _ _ _ _ h2
 refine eq_dataH ra rb (by unfold SeqAt.shaped;rw[la,We];exact Tq (by lia)) (by unfold SeqAt.shaped;rw[lb,We];exact Tq (by lia)) ?_ ⟨_,s.toks,rfl,h3,rfl⟩
 have:=R.units;show A.units+64<9900;lia
theorem pc {x y:V}{v:Sn}{k:Si->Si}(R:Rm 0 A)(I:Inv C σ st s)(rx:VR σ s.heap x u)(ry:VR σ s.heap y v)(h:DN st x y (λc=>k (ee c))=Se) :
  So C.M A (compareOp .NotEq u v) (λc s'=>∃b t,c=.bool b/\k b=Se/\s'={ s with toks:=t }) cL s:=by
 refine fD (fX I 5 x u _ rx h) λa h1 h82 la da=>?_;obtain⟨as,ra⟩:=h82
 refine fD (fX I 5 y v _ ry h1) λb h2 h82 lb db=>?_;obtain⟨bs,rb⟩:=h82
 have h3:=xw _ _ _ _ h2
 rw[fI] at h3
 refine ne_dataH ra rb (by unfold SeqAt.shaped;rw[la,We];exact Tq (by lia)) (by unfold SeqAt.shaped;rw[lb,We];exact Tq (by lia)) ?_ ⟨_,s.toks,rfl,h3,rfl⟩
 have:=R.units;show A.units+64<9900;lia
theorem iA [DecidableEq α] (a b:α):(a == b)=decide (a=b):=by by_cases e:a=b <;> simp[e]
theorem rm (a b:Sd Nat):@BEq.beq (Sd Nat) instBEqOfDecidableEq a b=@BEq.beq (Sd Nat) Sd.instBEq a b:=by
 by_cases e:a=b
 ·subst e;simp
 ·rw[iA,Tp e];exact(beq_eq_false_iff_ne.mpr e).symm
theorem d6:yR C .Eq iu:=by
 intro A σ st s k x y u v R I rx ry h
 induction rx using VR.cases_e with
 | int i t=>
  refine aO h λj e81 h1=>?_;subst e81
  refine VR.int_e ry λ_=>?_
  rw[dm,←iA] at h1
  exact Za ⟨_,s.toks,rfl,h1,rfl⟩
 | str l t=>
  refine dh h λj e81 h1=>?_;subst e81
  refine VR.str_e ry λ_=>?_
  rw[uQ,←iA] at h1
  rw[rm] at h1
  exact PySem.P.eq_str ⟨_,s.toks,rfl,h1,rfl⟩
 | ref e=>refine aE (jx h) λj e81 h1=>?_;subst e81;exact rT R I (.ref e) ry h1
 | tup e n q=>refine aE (kZ h) λj e81 h1=>?_;subst e81;exact rT R I (.tup e n q) ry h1
 | none=>exact ff h
 | bool=>exact ff h
theorem eK:yR C .NotEq kI:=by
 intro A σ st s k x y u v R I rx ry h
 induction rx using VR.cases_e with
 | int i t=>
  refine aO h λj e81 h1=>?_;subst e81
  refine VR.int_e ry λ_=>?_
  have h1:k (ee (jf i j))=Se:=h1
  rw[dm,←iA,fI] at h1
  exact PySem.P.ne_int ⟨_,s.toks,rfl,h1,rfl⟩
 | str l t=>
  refine dh h λj e81 h1=>?_;subst e81
  refine VR.str_e ry λ_=>?_
  have h1:k (ee (CQ l j))=Se:=h1
  rw[uQ,←iA,fI,rm] at h1
  exact PySem.P.ne_str ⟨_,s.toks,rfl,h1,rfl⟩
 | ref e=>refine aE (jx h) λj e81 h1=>?_;subst e81;exact pc R I (.ref e) ry h1
 | tup e n q=>refine aE (kZ h) λj e81 h1=>?_;subst e81;exact pc R I (.tup e n q) ry h1
 | none=>exact ff h
 | bool=>exact ff h
theorem BV:yR C .Lt MT:=by
 intro A σ st s k x y u v R I rx ry h
 refine aO h λi e81 h1=>?_;clear h;subst e81
 refine aO h1 λj e81 h2=>?_;clear h1;subst e81
 refine VR.int_e rx λ_=>?_;refine VR.int_e ry λ_=>?_
 rw[kj] at h2
 exact PySem.P.lt_int ⟨_,s.toks,rfl,h2,rfl⟩
theorem Bk:yR C .LtE Oy:=by
 intro A σ st s k x y u v R I rx ry h
 refine aO h λi e81 h1=>?_;clear h;subst e81
 refine aO h1 λj e81 h2=>?_;clear h1;subst e81
 refine VR.int_e rx λ_=>?_;refine VR.int_e ry λ_=>?_
 rw[gy] at h2
 exact PySem.P.le_int ⟨_,s.toks,rfl,h2,rfl⟩
theorem qE:yR C .Gt Eh:=by
 intro A σ st s k x y u v R I rx ry h
 refine aO h λi e81 h1=>?_;clear h;subst e81
 refine aO h1 λj e81 h2=>?_;clear h1;subst e81
 refine VR.int_e rx λ_=>?_;refine VR.int_e ry λ_=>?_
 rw[kj] at h2
 exact PySem.P.gt_int ⟨_,s.toks,rfl,h2,rfl⟩
theorem kn:yR C .GtE uD:=by
 intro A σ st s k x y u v R I rx ry h
 refine aO h λi e81 h1=>?_;clear h;subst e81
 refine aO h1 λj e81 h2=>?_;clear h1;subst e81
 refine VR.int_e rx λ_=>?_;refine VR.int_e ry λ_=>?_
 rw[gy] at h2
 exact PySem.P.ge_int ⟨_,s.toks,rfl,h2,rfl⟩
theorem IF:yR C .Is sK:=by
 intro A σ st s k x y u v R I rx ry h
 induction ry using VR.cases_e with
 | none=>
  refine PySem.is_none ⟨_,s.toks,rfl,?_,rfl⟩
  cases rx <;> first | exact h | exact ff h
 | _=>exact ff h
theorem DX:yR C .IsNot IL:=by
 intro A σ st s k x y u v R I rx ry h
 refine sR h λi e81 h1=>?_;clear h;subst e81
 refine sR h1 λj e81 h2=>?_;clear h1;subst e81
 refine VR.bool_e rx ?_;refine VR.bool_e ry ?_
 refine wpAny_isNot_plain rfl ⟨_,s.toks,rfl,?_,rfl⟩
 induction i <;> induction j <;> exact h2
theorem tD (i:Int)(l:Sd Int):iL i l=l.any (· == i):=by
 induction l with
 | nil=>rfl
 | cons j l ih=>
  rw[Sd.any_cons,←ih,show iL i (j::l)=aD (jf i j) Se (iL i l) from rfl,dm]
  by_cases e:i=j
  ·subst e;simp[aD]
  ·rw[Tp e,show(j == i)=ll from by simpa using λq=>e q.symm];rfl
theorem eF:∀{xs:Sd Int}{vs:Sd Sn},VRs σ h (xs.map V.int) vs->UG vs xs
 | [],_,r=>by refine VRs.nil_e r ?_;exact .nil
 | x::xs,_,r=>by cases r with | cons a b=>refine VR.int_e a λ_=>?_;exact .cons _ _ (eF b)
theorem GI:yR C .In Of:=by
 intro A σ st s k x y u v R I rx ry h
 refine aO h λi e81 h1=>?_;clear h;subst e81
 refine bO h1 λn e81 h2=>?_;clear h1;subst e81
 refine bC h2 λl hl h3=>?_;clear h2
 refine j7 h3 λxs e81 h4=>?_;clear h3;subst e81
 refine VR.int_e rx λ_=>?_
 refine VR.ref_e ry λ_ e=>?_
 obtain⟨vs,m,g,q⟩:=I.list hl e
 rw[tD] at h4
 exact in_list_ints ⟨_,g,rfl,_,rfl⟩ (eF q) ⟨_,s.toks,rfl,h4,rfl⟩
end
section
variable {C:Cfg}{fx:Fx}{d:Nat}{A:Around}{env:Env}{σ σ1:List Addr}{fm:Fm}{st:St}{s aaQ:Shared}
theorem iU {a:Expr} (ha:SE C fx d a ca):SE C fx d (.UnaryOp .USub a pos) (qA ca):=by
 intro A env σ fm st s k R E I F h
 refine wpAny_UnaryOp (ay (ha A env σ fm st s _ R E I F h) λσ1 x st1 u aaQ aaU aaW aaZ aaS=>?_)
 refine aO aaS λi e81 h2=>?_;clear aaS;subst e81
 refine VR.int_e aaZ λ_=>?_
 exact PySem.P.neg_int ((cQ aaW _ (.int _ _) h2).trans aaU)
theorem kf {a b:Expr} {o:CmpOp}{op:CP} (hop:yR C o op)(hm:ZM o b=ll)(ha:SE C fx d a ca)(hb:SE C fx d b cb) :
  SE C fx d (.Compare a [o] [b] pos) (uA op ca cb):=by
 intro A env σ fm st s k R E I F h
 refine wpAny_Compare1 (ay (ha A env σ fm st s _ R E I F h) λσ1 x st1 u aaQ aaU aaW aaZ aaS=>?_) hm
 refine ay (hb A env σ1 fm st1 aaQ _ R E aaW (aaU.fr0 F) aaS) λσ2 y st2 v aaR aa1 aa4 aa5 aa2=>?_
 refine Sm (hop A σ2 st2 aaR (λc=>k (.bool c) st2) x y u v (R.le (Td _)) aa4 (aa1.vr .nil aaZ) aa5 aa2) ?_ λ_ _ e=>e
 rintro _ _ ⟨b,t,rfl,hk,rfl⟩
 exact(cQ aa4 t (.bool b) hk).trans (aaU.trans aa1)
theorem Bo {k:Si->St->Si}{b:Si}(I:Inv C σ st s)(t:Nat)(h:k b st=Se):OutB C σ s k b { s with toks:=t }:=
 ⟨σ,st,Step.toks t,I.toks t,h⟩
theorem Cr {a b:Expr} {o:CmpOp}{op:CP} (hop:yR C o op)(hm:ZM o b=ll)(ha:SE C fx d a ca)(hb:SE C fx d b cb) :
  ST C fx d (.Compare a [o] [b] pos) (bR op ca cb):=by
 intro A env σ fm st s k R E I F h
 refine VN (ay (ha A env σ fm st s _ R E I F h) λσ1 x st1 u aaQ aaU aaW aaZ aaS=>?_) hm
 refine ay (hb A env σ1 fm st1 aaQ _ R E aaW (aaU.fr0 F) aaS) λσ2 y st2 v aaR aa1 aa4 aa5 aa2=>?_
 refine Sm (hop A σ2 st2 aaR (λc=>k c st2) x y u v (R.le (Td _)) aa4 (aa1.vr .nil aaZ) aa5 aa2) ?_ λ_ _ e=>e
 rintro _ _ ⟨b,t,rfl,hk,rfl⟩
 exact UH ((Bo aa4 t hk).trans (aaU.trans aa1))
theorem Iw {a:Expr}{ca:CT} (ha:ST C fx d a ca):ST C fx d (.UnaryOp .Not a pos) (Nj ca):=by
 intro A env σ fm st s k R E I F h
 refine wpAny_isTrue_Not (Sm (ha A env σ fm st s _ R E I F h) ?_ λ_ _ e=>e)
 rintro b s' ⟨σ',st',S,I',h'⟩
 exact⟨σ',st',S,I',by rw[←fI];exact h'⟩
theorem kA {a b:Expr}{ca cb:CT} (ha:ST C fx d a ca)(hb:ST C fx d b cb):ST C fx d (.BoolOp .And [a,b] pos) (qk ca cb):=by
 intro A env σ fm st s k R E I F h
 refine wpAny_isTrue_BoolOp (YG (Sm (ha A env σ fm st s _ R E I F h) ?_ λ_ _ e=>e))
 rintro x s' ⟨σ',st',S,I',h'⟩
 induction x with
 | false=>exact⟨σ',st',S,I',h'⟩
 | true=>
  refine YG (Sm (hb A env σ' fm st' s' _ R E I' (S.fr0 F) h') ?_ λ_ _ e=>e)
  rintro x s' ⟨σ',st',S',I',h'⟩
  induction x with
  | false=>exact⟨σ',st',S.trans S',I',h'⟩
  | true=>exact wpAny_allTrue_And_nil ⟨σ',st',S.trans S',I',h'⟩
theorem NP {a b:Expr}{ca cb:CT} (ha:ST C fx d a ca)(hb:ST C fx d b cb):ST C fx d (.BoolOp .Or [a,b] pos) (Rh ca cb):=by
 intro A env σ fm st s k R E I F h
 refine wpAny_isTrue_BoolOp (YV (Sm (ha A env σ fm st s _ R E I F h) ?_ λ_ _ e=>e))
 rintro x s' ⟨σ',st',S,I',h'⟩
 induction x with
 | true=>exact⟨σ',st',S,I',h'⟩
 | false=>
  refine YV (Sm (hb A env σ' fm st' s' _ R E I' (S.fr0 F) h') ?_ λ_ _ e=>e)
  rintro x s' ⟨σ',st',S',I',h'⟩
  induction x with
  | true=>exact⟨σ',st',S.trans S',I',h'⟩
  | false=>exact wpAny_allTrue_Or_nil ⟨σ',st',S.trans S',I',h'⟩
theorem uH {c a b:Expr} (hc:ST C fx d c cc)(ha:SE C fx d a ca)(hb:SE C fx d b cb):SE C fx d (.IfExp c a b pos) (uU cc ca cb):=by
 intro A env σ fm st s k R E I F h
 refine wpAny_IfExp (Sm (hc A env σ fm st s _ R E I F h) ?_ λ_ _ e=>e)
 rintro x s' ⟨σ',st',S,I',h'⟩
 induction x with
 | true=>exact Sm (ha A env σ' fm st' s' k R E I' (S.fr0 F) h') (λ_ _ o=>o.trans S) λ_ _ e=>e
 | false=>exact Sm (hb A env σ' fm st' s' k R E I' (S.fr0 F) h') (λ_ _ o=>o.trans S) λ_ _ e=>e
theorem ag:SA C fx d [] av:=by
 intro A env σ fm st s k pos R E I F h
 exact Yr ⟨Td _,σ,[],st,.refl,I,.nil,h⟩
theorem cO {e:Expr} (he:SE C fx d e ce)(hs:SA C fx d es cs)(hp:∀env,TY (e::es) env=(ll,eval e env)::TY es env):SA C fx d (e::es) (ae ce cs):=by
 intro A env σ fm st s k pos R E I F h
 refine U6 (ay (he A env σ fm st s _ R E I F h) λσ1 x st1 u aaQ aaU aaW aaZ aaS=>?_) (hp env)
 refine Sm (hs A env σ1 fm st1 aaQ _ pos R E aaW (aaU.fr0 F) aaS) ?_ λ_ _ e=>e
 rintro us s' ⟨hl,σ',l,st',S',I',r',h'⟩
 exact⟨by simp only[Tc];lia,σ',x::l,st',aaU.trans S',I',.cons (S'.vr .nil aaZ) r',h'⟩
theorem Inv.size (I:Inv C σ st s) (h:a∈σ):a<s.heap.objs.size:=by
 obtain⟨o,e⟩:=S1.mp (I.new a h).2
 exact Heap.lt_size e
theorem vF {us:Sd Sn}(I:Inv C σ st s)(r:VRs σ s.heap l us):VR σ (s.heap.push (cK us 0)) (.tup l) (.ref s.heap.objs.size):=
 .tup (Heap.get?_push_size _ rfl) (λh=>Tj _ (I.size h)) r.pushed
theorem wT {us:Sd Sn}{t:Nat}(I:Inv C σ st s)(r:VRs σ s.heap l us)(h:k (.tup l) st=Se) :
  Out C [] σ s k (.ref s.heap.objs.size) { s with heap:=s.heap.push (cK us 0),toks:=t }:=
 ⟨σ,.tup l,st,Step.pushed,I.pushed,vF I r,h⟩
theorem vC (hn:es.length<=4000)(hs:SA C fx d es cs):SE C fx d (.Tuple es n pos) (cN cs):=by
 intro A env σ fm st s k R E I F h
 refine wpAny_Tuple_spliced (Sm (hs A env σ fm st s _ pos R E I F h) ?_ λ_ _ e=>e)
 rintro us s' ⟨hl,σ',l,st',S',I',r',h'⟩
 refine⟨by show us.length<=2 ^ 24;lia,?_⟩
 exact(wT (t:=s'.toks) I' r' h').trans S'
theorem AE (hn:es.length<=4000)(hs:SA C fx d es cs):SE C fx d (.List es pos) (d0 cs):=by
 intro A env σ fm st s k R E I F h
 refine wpAny_List_spliced (Sm (hs A env σ fm st s _ pos R E I F h) ?_ λ_ _ e=>e)
 rintro us s' ⟨hl,σ',l,st',S',I',r',h'⟩
 refine⟨by show us.length<=2 ^ 24;lia,?_⟩
 exact(gk (n:=0) (t:=s'.toks) I' r' h').trans S'
end
structure cJ (C:Cfg):Prop where
 cd:∀c<3,Zv C.K (dF c)=Se
 ga:∀c<2,Um C.K (.ref (dF c)) "__getattribute__"=Sa (Sa (.builtin "object.__getattribute__"))
 gaL:Um C.K (.ref 244) "__getattribute__"=Sa (Sa (.builtin "list.__getattribute__"))
 gh:∀c<3,Um C.K (.ref (dF c)) "__getattr__"=Sa none
 sa:∀c<3,Um C.K (.ref (dF c)) "__setattr__"=Sa (Sa (.builtin "object.__setattr__"))
 at_:∀c<3,∀x<12,Um C.K (.ref (dF c)) (aW x)=Sa none
 over:∀c<2,plainOver C.K (dF c)=Se
 mroL:∃cd,aaA C.K 244=Sa cd/\cd.mro=[.ref 244,.type "list",.type "object"]
 subL:mroIn C.K 244 (.type "list")=Sa Se
section
variable {C:Cfg}{fx:Fx}{d:Nat}{A:Around}{env:Env}{σ σ1:List Addr}{fm:Fm}{st:St}{s aaQ:Shared}
theorem Inv.X (I:Inv C σ st s)(O:C.Ok):C.K.In s.heap:=O.X.keeps I.base
theorem yk:∀x<12,∀y<12,aW x=aW y->x=y:=by decide +kernel
theorem sQ {x y:Nat}(hx:x<12)(hy:y<12)(e:aW x=aW y):x=y:=yk x hx y hy e
theorem qB {es:Sd US}(r:ER σ h fs es){x:Nat}{k:V->Si}(e:dK fs x k=Se) :
  x<12/\∃v en,es.find? (·.key.isStr (aW x))=Sa en/\VR σ h v en.val/\k v=Se:=by
 induction r with
 | nil=>exact ff e
 | @cons y v r hs t u es hy hv hr ih=>
  have e':aD (SD y x) (k v) (dK r x k)=Se:=e
  rcases dE e' with ⟨q,e2⟩ | ⟨q,e2⟩
  ·have:y=x:=SK q
   subst this
   refine⟨hy,v,⟨hs,.str (aW y) t,u⟩,?_,hv,e2⟩
   rw[Sd.find?_cons_of_pos]
   simp[Ya]
  ·obtain⟨h1,v',en,h2,h3⟩:=ih e2
   refine⟨h1,v',en,?_,h3⟩
   rw[YH]
   ·exact h2
   ·have:y≠x:=λz=>by rw[z,Vv] at q;exact nomatch q
    simp only[Ya]
    intro z
    exact this (sQ hy h1 (by simpa using z))
theorem or (r:VR σ h v u):handedIn u=Se:=by cases r <;> rfl
theorem fO {es:Sd US} {name:Str}{en:US}(e:es.find? (·.key.isStr name)=Sa en):aaG name (VM es n)=Sa (Sa en.val):=by
 unfold aaG
 simp[e]
theorem iJ {o:SP α}{a:α}{f:α->SP β}{r:SP β}(h:o=Sa a)(k:f a=r):o.bind f=r:=by rw[h];exact k
theorem lX {K:Frag}{c:Ss}{od:Obj}{name:Str} (hh:Zv K c=Se)(ha:Um K (.ref c) name=Sa none)(hl:aaG name od=Sa (Sa u)):findObj K c (Sa od) name=Sa (.value u):=by
 exact aE (any_some hh) λcd hc hd=>iJ hc (iJ ha (iJ rfl (iJ rfl (iJ ((SR hd).trans hl) rfl))))
theorem Inv.obj (I:Inv C σ st s) {p:Sd (Nat×V)->O} (e:st.look n=Sa o)(ha:σ[n]? = Sa a)(ho:(∃d,c<2/\o=.inst c d fs/\p=O.inst c d)\/(∃d l,c=2/\o=.lsub c d fs l/\p=λfs=>O.lsub c d fs l)) :
  ∃ox dx es m,InstAt s.heap a ox (dF c) (Sa (VM es m))/\ox.dict=Sa dx/\s.heap.get? dx=Sa (VM es m)/\ER σ s.heap fs es:=by
 obtain⟨b,hb,r⟩:=I.at_ n _ e
 have:b=a:=Sa.inj (hb.symm.trans ha)
 subst this
 rcases ho with ⟨d,hc,rfl,rfl⟩ | ⟨d,l,hc,rfl,rfl⟩
 ·obtain⟨_,dx,es,m,h1,h2,h3,h4⟩:=r
  exact⟨_,dx,es,m,⟨h2,rfl,rfl,h3⟩,rfl,h3,h4⟩
 ·obtain⟨_,dx,es,m,vs,m',h1,h2,h3,h4,h5⟩:=r
  exact⟨_,dx,es,m,⟨h2,rfl,rfl,h3⟩,rfl,h3,h4⟩
theorem uz {name:Str} (X:C.K.In s.heap)(J:cJ C)(I:InstAt s.heap a ox 244 od)
  (hf:findObj C.K 244 od name=Sa (.value u)) (hh:handedIn u=Se) (h:Q u { s with toks:=s.toks+1 }):So C.M A (PySem.getAttr (.ref a) name expr) Q E s:=by
 obtain⟨hp,g,dr,t,os⟩:=s
 have L0:=I.type (M:=C.M)
 have L1:=TX (M:=C.M) X J.gaL
 have L2:=looks_find (M:=C.M) X I hf
 have L3:=TX (M:=C.M) X (J.gh 2 (bo rfl))
 unfold PySem.getAttr getAttrBy
 refine oX (YI (SN (oX (L0.at (oX (L1.at ?_))))))
 show So _ _ (VG _ _ _ _ _ _) _ _ _
 unfold VG
 refine oX (L3.at (oX (Vq ?_)))
 refine SN ?_
 unfold Ys
 rw[show(expr && onTheHeap (.builtin "list.__getattribute__"))=ll from WC expr]
 show So _ _ (WD _ _ _) _ _ _
 unfold WD
 refine G6 (UT.bind ..) ?_
 refine oX (Sf (UI ?_))
 have T:Looks C.M hp (UJ (.ref a) (.type "list")) Se:=L0.andThen (Vn X J.subL)
 refine UX UT.plain YW (@YJ C.M _ _ _ "list.__getattribute__" "list" "__getattribute__" (.ref a) [.str name t] [] _ (by decide +kernel) (by decide +kernel) T (WE _ _) ?_)
 unfold Builtin.«object.__getattribute__»
 dsimp only at L0 L2
 repeat lk
 show So _ _ (handedOut u) _ _ _
 rw[handedOut_of hh];exact Sf h
theorem yf {K:Frag}{x c:Ss} {es:Sd US} {name:Str} {v:Sn}{b:Si} {Q:Fin->Sr->Prop}(X:K.In s.heap)
  (I:Uo s.heap x ox c (Sa (VM es n))) (hd:ox.dict=Sa dx) (hD:s.heap.get? dx=Sa (VM es n)) (hh:Zv K c=Se) (hl:(W.getL name es).isSome=Se) (hz:es.length<=1000)
  (h:Q (.done (.ret .none)) { s with heap:=s.heap.update dx (aaB name (Vs C.w.params name) (.str name s.toks) v),toks:=s.toks+1 }) :
  So C.M A (storeInOwnDict (.ref x) (.ref c) (.str name tk) name v b) Q E s:=by
 refine aE (any_some hh) λcd hc hd'=>?_
 obtain⟨hx,hcl,hn,-⟩:=I
 obtain⟨oc,odi,oda,osl⟩:=ox
 dsimp only at hcl hd
 subst hcl hd
 have D':(s.heap.update dx (aaB name (Vs C.w.params name) (.str name s.toks) v)).get? dx=Sa (VM (putL name (Vs C.w.params name) (.str name s.toks) v es) (putN name es n)):=by
  rw[Heap.get?_update_self _ hD (by rw[Vw];rfl),Vw]
 refine oX (Sf (oX (oX (WG hx (oX ((Zb X hc).here ?_))))))
 rw[hd']
 refine Sf (a:=Sa dx) (oX (Sf (oX ?_)))
 unfold nsSet
 refine oX (oX (Yt (Sf (oX (YI (oX (WG hD ?_)))))))
 dsimp only
 have cc:(!es.toArray.any (·.key.isStr name) && es.toArray.any (·.refKey))=ll:=by
  rw[aak,aak]
  unfold W.getL at hl
  split at hl
  ·rename_i en he
   rw[aal.mpr ⟨en,Sd.mem_of_find?_eq_some he,Sd.find?_some he⟩];rfl
  ·split at hl
   ·exact ff hl
   ·rename_i z;rw[Si.not_eq_true] at z;rw[z,WC]
 rw[aRefKeyMayBeTheName_at,cc]
 have len:(putL name (Vs C.w.params name) (.str name s.toks) v es).length<=es.length+1:=by
  clear D' cc hl hz hD
  induction es with
  | nil=>simp[putL]
  | cons e r ih=>simp only[putL];split <;> simp <;> omega
 refine wpAny_updatePart hD ?_
 refine oX (wpAny_lookBehind D' (by exact pastItsLine_dict (by rw[Su,U8];lia)) ?_)
 exact Sf h
theorem qS (self:Sn):refuseLoop self "__setattr__" [.type "list",.type "object"]=pure ():=by
 have e1:classOwn (.type "list") "__setattr__"=pure none:=by show pure (builtinOwn _ _)=_;rw[builtinOwn_eq_fast];kernel_rfl
 have:=Zc.passes self
 unfold refuseLoop at this ⊢
 rw[Uu]
 skip
 exact this
theorem rI {c x:Ss} {es:Sd US} {name:Str}{v:Sn} {Q:Unit->Sr->Prop}(X:C.K.In s.heap)
  (I:Uo s.heap x ox c (Sa (VM es n))) (hd:ox.dict=Sa dx) (hD:s.heap.get? dx=Sa (VM es n)) (hh:Zv C.K c=Se) (hs:Um C.K (.ref c) "__setattr__"=Sa (Sa (.builtin "object.__setattr__")))
  (hm:aaA C.K c=Sa cd) (hpass:refuseLoop (.ref x) "__setattr__" cd.mro=pure ()) (ne:cd.mro.isEmpty=ll) (hobj:cd.mro.contains (.type "object")=Se) (ht:Um C.K (.ref c) name=Sa none)
  (hl:(W.getL name es).isSome=Se) (hz:es.length<=1000)
  (h:Q () { s with heap:=s.heap.update dx (aaB name (Vs C.w.params name) (.str name (s.toks+1)) v),toks:=s.toks+2 }) :
  So C.M A (PySem.setAttr (.ref x) name v) Q E s:=by
 refine set_plain X I hs ?_
 have SF:=Zc
 have sub:Looks C.M s.heap (UJ (.ref x) (.type "object")) Se:=I.type.andThen (Vn X (by unfold mroIn;rw[hm,Va,Sz (by rw[ne];decide),hobj]))
 refine UX SF.slot.plain SF.entry (@YJ C.M _ _ _ "object.__setattr__" "object" "__setattr__" (.ref x) [.str name s.toks,v] [] _ SF.kind SF.split sub (SF.args (.ref x) (.str name s.toks) v) ?_)
 have hm':Looks C.M s.heap (mroOf (.ref c)) cd.mro:=(Zb X hm).andThen .now
 rw[osa_eq,refuse_eq]
 refine oX (oX (I.type _ _ _ _ (λ_ _ e=>e) (oX (hm' _ _ _ _ (λ_ _ e=>e) ?_))))
 refine wE (hpass) ?_
 refine Sf (oX (I.type _ _ _ _ (λ_ _ e=>e) (oX (TX X ht _ _ _ _ (λ_ _ e=>e) (oX (Sf ?_))))))
 exact yf (s:={ s with toks:=s.toks+1 }) X I hd hD hh hl hz h
theorem sD {es:Sd US}(r:ER σ h fs es):es.any (·.refKey)=ll:=by
 induction r with
 | nil=>rfl
 | cons _ _ _ ih=>rw[Sd.any_cons,ih,Si.or_false];rfl
theorem xj {es:Sd US}(r:ER σ h fs es)(name:Str):(W.getL name es).isSome=Se:=by
 unfold W.getL
 split
 ·rfl
 ·rw[sD r];rfl
theorem AL {es:Sd US}(r:ER σ h fs es){x:Nat}(hx:x<12) (hv:VR σ h v u)(hs:Int)(t:Tok):ER σ h (dv fs x v) (putL (aW x) hs (.str (aW x) t) u es):=by
 induction r with
 | nil=>exact .cons hx hv .nil
 | @cons y w fs hs' t' u' es hy hw hr ih=>
  have e:dv ((y,w)::fs) x v=@Te (λ_=>Sd (Nat×V)) ((y,w)::dv fs x v) ((x,v)::fs) (SD y x):=rfl
  rw[e,putL]
  by_cases q:y=x
  ·subst q
   rw[Vv,SR (by simp[Ya])]
   exact .cons hy hv hr
  ·have b:SD y x=ll:=by cases z:SD y x with | false=>rfl | true=>exact S8 (SK z) q
   rw[b,Sz (by simp only[Ya];intro z;exact q (sQ hy hx (by simpa using z)))]
   exact .cons hy hw ih
theorem BK {es:Sd US}(r:ER σ h fs es):es.length=fs.length:=by
 induction r with
 | nil=>rfl
 | cons _ _ _ ih=>simp[ih]
end
section
variable {C:Cfg}{fx:Fx}{d:Nat}{A:Around}{env:Env}{σ σ1:List Addr}{fm:Fm}{st:St}{s aaQ:Shared}
theorem Cc {l:Sd Ss}(m:b∈l)(n:a∉l):b≠a:=λq=>n (q▸m)
theorem yI (Ok:C.Ok)(J:cJ C) {x:Nat} (I:Inv C σ st s)(r:VR σ s.heap v u)(h:Mine.Internal.getAttr v x st k=Se) :
  gf C A (PySem.getAttr u (aW x) expr) σ s k:=by
 refine bO h λn e81 h1=>?_;clear h;subst e81
 refine St.get_e h1 λo ho h2=>?_;clear h1
 refine VR.ref_e r λa e=>?_
 rcases qv h2 with ⟨c,d,fs,rfl,h3⟩ | ⟨c,d,fs,l,rfl,h3⟩
 ·have hc:c<2:=by obtain⟨b,_,r⟩:=I.at_ n _ ho;exact r.1
  refine qG (I.obj (p:=O.inst c d) ho e (.inl ⟨d,hc,rfl,rfl⟩)) λox dx es m IA hd hD er=>?_
  obtain⟨hx,w,en,hf,hv,h4⟩:=qB er h3
  exact get_value (I.X Ok) IA (J.ga c hc) (lX (J.cd c (by(exact Th hc))) (J.at_ c (by(exact Th hc)) x hx) (fO hf)) (or hv) (cQ I _ hv h4)
 ·have hc:c=2:=by obtain⟨b,_,r⟩:=I.at_ n _ ho;exact r.1
  subst hc
  refine qG (I.obj (p:=λfs=>O.lsub 2 d fs l) ho e (.inr ⟨d,l,rfl,rfl,rfl⟩)) λox dx es m IA hd hD er=>?_
  obtain⟨hx,w,en,hf,hv,h4⟩:=qB er h3
  exact uz (I.X Ok) J IA (lX (J.cd 2 (by(exact VY 2))) (J.at_ 2 (by(exact VY 2)) x hx) (fO hf)) (or hv) (cQ I _ hv h4)
theorem D7 (Ok:C.Ok)(J:cJ C){a:Expr} {x:Nat}{name:Str} (hn:name=aW x)(ha:SE C fx d a ca)
  (he:∀env,eval (.Attribute a name pos) env=(do
   let o ←eval a env
   UC pos.atName
   let r ←holding [o] (PySem.getAttr o name Se)
   VZ a o r
   pure r)):SE C fx d (.Attribute a name pos) (bv ca x):=by
 intro A env σ fm st s k R E I F h
 subst hn
 refine Zd (ay (ha A env σ fm st s _ R E I F h) λσ1 y st1 u aaQ aaU aaW aaZ aaS=>?_) (he env)
 exact Sm (yI Ok J aaW aaZ aaS) (λ_ _ o=>o.trans aaU) λ_ _ e=>e
inductive LK (C:Cfg)(σ:Sd Ss)(s:Sr)(k:St->Si)(x:Unit)(s':Sr):Prop
 | mk (st':St) (S:Step [] σ s σ s') (I:Inv C σ st' s') (h:k st'=Se)
theorem Step.wrote {f:Obj->Obj}{t:Nat}(m:b∈σ):Step [] σ s σ { s with heap:=s.heap.update b f,toks:=t }:=
 ⟨⟨[],by simp,λ_ h=>nomatch h⟩,λc o n _ e=>by
  show(s.heap.update b f).get? c=Sa o
  rw[Heap.get?_update_other _ _ (Cc m n)];exact e,rfl,λh=>h⟩
theorem gq {f:Obj->Obj} (m:b∈σ)(r:VR σ h v u):VR σ (h.update b f) v u:=
 r.mono (λ_ _ e=>e) λa _ _ n e=>⟨n,by rw[Heap.get?_update_other _ _ (Cc m n)];exact e⟩
theorem jP {f:Obj->Obj}{v:Sd V}{u:Sd Sn} (m:b∈σ)(r:VRs σ h v u):VRs σ (h.update b f) v u:=
 r.mono (λ_ _ e=>e) λa _ _ n e=>⟨n,by rw[Heap.get?_update_other _ _ (Cc m n)];exact e⟩
theorem xW (Ok:C.Ok)(J:cJ C) {y:Sn}{x:Nat}{k:St->Si}(hx:x<12)(I:Inv C σ st s)(r:VR σ s.heap v u)(rw_:VR σ s.heap w y)(h:Mine.Internal.setAttr v x w st k=Se) :
  So C.M A (PySem.setAttr u (aW x) y) (LK C σ s k) cL s:=by
 refine bO h λn e81 h1=>?_;clear h;subst e81
 refine St.get_e h1 λo ho h2=>?_;clear h1
 refine VR.ref_e r λa e=>?_
 rcases qv h2 with ⟨c,d,fs,rfl,h3⟩ | ⟨c,d,fs,l,rfl,h3⟩
 ·refine aM h3 λhlen h4=>?_
  have hlen:=Sl hlen
  rw[aC] at hlen
  obtain⟨b,hb,r⟩:=I.at_ n _ ho
  have:b=a:=Sa.inj (hb.symm.trans e)
  subst this
  obtain⟨hc,dx,es,m,hdx,hox,hD,er⟩:=r
  obtain⟨cd,hcd,hov⟩:=any_some (J.over c hc)
  have ne:cd.mro.isEmpty=ll:=by cases q:cd.mro with | nil=>rw[q] at hov;exact ff hov | cons _ _=>rfl
  have mdx:dx∈σ:=Sp hdx
  refine rI (I.X Ok) ⟨hox,rfl,rfl,hD⟩ rfl hD (J.cd c (by(exact Th hc))) (J.sa c (by(exact Th hc))) hcd (refuse_only _ hov) ne (only_has hov) (J.at_ c (by(exact Th hc)) x hx) (xj er _) (by rw[BK er];lia) ?_
  refine St.set_e h4 λst' e1 e2 e81 h5=>?_;obtain⟨e3,_⟩:=e81
  refine⟨st',Step.wrote mdx,?_,h5⟩
  have hne:dx≠b:=λq=>by
   have hi:=I.inj hdx (q▸hb)
   subst hi
   have:=I.dict _ c _ fs [] (.inl ho)
   rw[ho] at this;cases this
  refine I.put (B:=[dx]) e1 e2 e3 ho (λq=>nomatch q) rfl (λb' hb'=>.inr ⟨d,rfl,by rw[Sj.mp hb'];exact hdx⟩) (λb' x' nb g=>?_) (λb' hb'=>by rw[Sj.mp hb'];show((s.heap.update dx _).get? dx).isSome=Se;rw[Heap.get?_update_self _ hD (by rw[Vw];rfl)];rfl) λa' ha' _=>?_
  ·show(s.heap.update dx _).get? b'=_
   rw[Heap.get?_update_other _ _ (λq=>nb (Sj.mpr q.symm))];exact g
  ·have:a'=b:=Sa.inj (ha'.symm.trans hb)
   subst this
   refine⟨hc,dx,putL (aW x) (Vs C.w.params (aW x)) (.str (aW x) (s.toks+1)) y es,putN (aW x) es m,hdx,?_,?_,?_⟩
   ·show(s.heap.update dx _).get? a'=_
    rw[Heap.get?_update_other _ _ hne];exact hox
   ·show(s.heap.update dx _).get? dx=_
    rw[Heap.get?_update_self _ hD (by rw[Vw];rfl),Vw]
   ·exact AL (er.mono (λr=>gq mdx r)) hx (gq mdx rw_) _ _
 ·refine aM h3 λhlen h4=>?_;clear h3
  have hlen:=Sl hlen
  rw[aC] at hlen
  obtain⟨b,hb,r⟩:=I.at_ n _ ho
  have:b=a:=Sa.inj (hb.symm.trans e)
  subst this
  obtain⟨hc,dx,es,m,vs,m',hdx,hox,hD,er,hvs⟩:=r
  subst hc
  obtain⟨cd,hcd,hov⟩:=J.mroL
  have mdx:dx∈σ:=Sp hdx
  refine rI (I.X Ok) ⟨hox,rfl,rfl,hD⟩ rfl hD (J.cd 2 (by(exact VY 2))) (J.sa 2 (by(exact VY 2))) hcd (by rw[hov,refuseLoop_ref];exact qS _) (by rw[hov];rfl) (by rw[hov];rfl) (J.at_ 2 (by(exact VY 2)) x hx) (xj er _) (by rw[BK er];lia) ?_
  refine St.set_e h4 λst' e1 e2 e81 h5=>?_;clear h4;obtain⟨e3,_⟩:=e81
  refine⟨st',Step.wrote mdx,?_,h5⟩
  have hne:dx≠b:=λq=>by
   have hi:=I.inj hdx (q▸hb)
   subst hi
   have:=I.dict _ 2 _ fs l (.inr ho)
   rw[ho] at this;cases this
  refine I.put (B:=[dx]) e1 e2 e3 ho (λq=>nomatch q) rfl (λb' hb'=>.inr ⟨d,rfl,by rw[Sj.mp hb'];exact hdx⟩) (λb' x' nb g=>?_) (λb' hb'=>by rw[Sj.mp hb'];show((s.heap.update dx _).get? dx).isSome=Se;rw[Heap.get?_update_self _ hD (by rw[Vw];rfl)];rfl) λa' ha' _=>?_
  ·show(s.heap.update dx _).get? b'=_
   rw[Heap.get?_update_other _ _ (λq=>nb (Sj.mpr q.symm))];exact g
  ·have:a'=b:=Sa.inj (ha'.symm.trans hb)
   subst this
   refine⟨rfl,dx,putL (aW x) (Vs C.w.params (aW x)) (.str (aW x) (s.toks+1)) y es,putN (aW x) es m,vs,m',hdx,?_,?_,?_,?_⟩
   ·show(s.heap.update dx _).get? a'=_
    rw[Heap.get?_update_other _ _ hne];exact hox
   ·show(s.heap.update dx _).get? dx=_
    rw[Heap.get?_update_self _ hD (by rw[Vw];rfl),Vw]
   ·exact AL (er.mono (λr=>gq mdx r)) hx (gq mdx rw_) _ _
   ·exact jP mdx hvs
end
structure eP (C:Cfg):Prop where
 getitem:Um C.K (.ref 244) "__getitem__"=Sa (Sa (.builtin "list.__getitem__"))
 setitem:Um C.K (.ref 244) "__setitem__"=Sa (Sa (.builtin "list.__setitem__"))
 iter:Um C.K (.ref 244) "__iter__"=Sa (Sa (.builtin "list.__iter__"))
 append:Um C.K (.ref 244) "append"=Sa (Sa (.builtin "list.append"))
section
variable {C:Cfg}{fx:Fx}{d:Nat}{A:Around}{env:Env}{σ σ1:List Addr}{fm:Fm}{st:St}{s aaQ:Shared}
theorem dP {i:Int} (hj:j<n)(h:(0<=i/\i=j)\/(i<0/\i+n=j)):V7 i n=Sa j:=by
 rcases h with ⟨h0,h1⟩ | ⟨h0,h1⟩
 ·rw[seqIndex_of h0 (by lia)];congr 1;lia
 ·rw[seqIndex_neg h0 (by lia)];congr 1;lia
theorem mh {M:Model} {f:α->Sem Si}:∀{l:Sd α},(∀x∈l,Looks M h (f x) ll)->Looks M h (l.anyM f) ll
 | [],_=>.now
 | x::l,hl=>by
  show Looks M h (f x >>= λb=>match b with | true=>pure Se | false=>l.anyM f) ll
  exact(hl x (.head _)).andThen (mh λy m=>hl y (.tail _ m))
theorem tu:∀n∈seqItemTypes,([T5 244,.type "list",.type "object"]:Sd Sn).contains (.type n)=ll:=by decide +kernel
theorem pj (J:cJ C){x:Ss} {k:Sn}{name:Str} (X:C.K.In s.heap)(I:Uo s.heap x ox 244 od)(h:Q k s):So C.M A (sequenceKey (.ref x) k name) Q E s:=by
 refine aE (J.mroL) λcd hc hm=>?_
 have L:Looks C.M s.heap (seqItemTypes.anyM λn=>aam (.ref 244) (.type n)) ll:=mh λn m=>Vn X (by unfold mroIn;rw[hc,Va,hm,Sz (by decide),tu n m])
 unfold sequenceKey
 refine oX (I.type.here ?_)
 exact oX (L.here (Sf h))
theorem jb {M:Model} {s:Sr}{i owner n:String}{self:Sn}{rest:Sd Sn}{kw:Sd (Str×Sn)}{Q:Unit->Sr->Prop}
  (hk:U9 i=Sa .slot\/U9 i=Sa .method) (hs:Zw i=Sa (owner,n)) (hi:Looks M s.heap (UJ self (.type owner)) Se) (ha:Ws i ⟨self::rest,kw⟩) (q:Q () s) :
  So M A (W6 i ⟨self::rest,kw⟩) Q E s:=by
 rcases hk with hk | hk
 ·exact YJ hk hs hi ha q
 ·unfold W6
  rw[hk,hs]
  dsimp only
  refine oX (hi.here ?_)
  skip
  cases hsig:Wc i with
  | none=>exact Sf q
  | some sig=>
   simp only[Ws,hsig] at ha
   have h2:XM i sig ⟨self::rest,kw⟩=pure ():=ha
   show So M A (XM i sig ⟨self::rest,kw⟩) Q E s
   rw[h2];exact Sf q
theorem hZ {x:Ss} {name:Str}{id n:String}{B:Builtin}{rest:Sd Sn} {Q:SP Sn->Sr->Prop}(J:cJ C)(X:C.K.In s.heap)(I:Uo s.heap x ox 244 od)
  (hf:Um C.K (.ref 244) name=Sa (Sa (.builtin id))) (sl:Slot "list" name id) (en:entryFor table id=Sa B) (hk:U9 id=Sa .slot\/U9 id=Sa .method) (hs:Zw id=Sa ("list",n)) (ha:Ws id ⟨.ref x::rest,[]⟩)
  (h:So C.M A.in1 (B ⟨.ref x::rest,[]⟩) (λfin s'=>∃v,fin=.done (.ret v)/\Q (Sa v) s') E s):So C.M A (XF (.ref x) name rest) Q E s:=by
 refine oX (oX (I.type.here ((TX X hf).here (SN (oX ?_)))))
 refine wE (sl.bind ..) ?_
 refine Sf (oX (UI ?_))
 have T:Looks C.M s.heap (UJ (.ref x) (.type "list")) Se:=I.type.andThen (Vn X J.subL)
 refine UX sl.plain en (jb hk hs T ha ?_)
 refine Sm h ?_ λ_ _ e=>e
 rintro _ s' ⟨v,rfl,q⟩
 exact Sf q
theorem iO:Zw "list.__getitem__"=Sa ("list","__getitem__"):=by decide +kernel
theorem jz:U9 "list.__getitem__"=Sa .method:=by decide +kernel
theorem kD (J:cJ C)(JS:eP C){x:Ss} {k:Int}{t:Tok} {y:Sn} (X:C.K.In s.heap)
  (I:Uo s.heap x ox 244 od) (hd:ox.data=.seq items n) (hk:UF k=Se) (hj:V7 k items.size=Sa j) (hx:items[j]? = Sa y) (h:Q y s):So C.M A (XG (.ref x) (.int k t)) Q E s:=by
 unfold XG
 refine SN (oX (pj J X I (oX ?_)))
 refine hZ J X I JS.getitem VT entry_list_getitem (.inr jz) iO (args_list_getitem _ _) ?_
 show So _ _ (Ui (.int k t) >>= _) _ _ s
 refine oX (Yu hk ?_)
 induction k with
 | ofNat i=>
  have hx':items[i]? = Sa y:=by
   have:j=i:=by
    unfold V7 at hj
    split at hj
    ·rename_i q;exact S8 q (XK.mpr (UR i))
    ·dsimp only at hj
     split at hj
     ·exact(Sa.inj hj).symm
     ·exact iq hj
   rw[←this];exact hx
  show So _ _ ((seqItemAt x i >>= λr=>pure (r.map (i,·))) >>= _) _ _ s
  refine oX (oX (wpAny_seqItemAt I.at_ hd (Sf ?_)))
  rw[hx']
  first
   | exact oX (Sf (Sf ⟨y,rfl,Sf h⟩))
   | exact Sf ⟨y,rfl,Sf h⟩
 | negSucc i=>
  show So _ _ ((TS (.ref x) >>= λxs=>pure ((V7 (Y8 i) xs.size).bind λi=>xs[i]?.map (i,·))) >>= _) _ _ s
  refine oX (oX ?_)
  show So _ _ (Wu (.ref x) >>= _) _ _ s
  refine oX (T2 I.at_ hd (Sf (Sf ?_)))
  rw[hj]
  simp only[Va,hx,Uv]
  first
   | exact oX (Sf (Sf ⟨y,rfl,Sf h⟩))
   | exact Sf ⟨y,rfl,Sf h⟩
theorem rl (JS:eP C){value slice:Expr}{x:Ss} {i:Sn}{ops:Sd Sn} (X:C.K.In s.heap)(I:Uo s.heap x ox 244 od)
  (hg:So C.M A (XG (.ref x) i) Q E s) (hs:subscripted slice ll (.ref x) i=operate ops (XG (.ref x) i)):So C.M A (ZN value slice (.ref x) i) Q E s:=by
 have L:Looks C.M s.heap (aan (.ref x) "__getitem__") (Sa (.builtin "list.__getitem__")):=I.type.andThen (TX X JS.getitem)
 unfold ZN
 refine oX ?_
 refine wE (getitemInPython_of_ne (by intro q;cases q)) ?_
 refine oX (L.here ?_)
 have fin:So C.M A (subscripted slice ll (.ref x) i) (λr aa0=>So C.M A (VZ value (.ref x) r >>= λ_=>pure r) Q E aa0) E s:=by
  refine wE (hs) ?_
  exact wpAny_operating (Sm hg (λr aa0 aaY=>oX (wpAny_letTemporaryGo (Sf aaY))) λ_ _ x=>x)
 first
  | exact Sf (oX fin)
  | exact oX (Sf (oX fin))
  | exact oX fin
theorem vn {j:Int}(h:small j=Se):UF j=Se:=by
 have:=di h
 unfold UF
 simp only[S6,decide_eq_true_eq]
 lia
theorem GX (Ok:C.Ok)(J:cJ C)(JS:eP C){value slice:Expr}{x y:V}{v:Sn} (hs:∀o i,subscripted slice ll o i=operate [o,i] (XG o i))
  (I:Inv C σ st s) (rx:VR σ s.heap x u) (ry:VR σ s.heap y v) (h:cZ x y st k=Se):gf C A (ZN value slice u v) σ s k:=by
 refine aO h λi e81 h1=>?_;clear h;subst e81
 refine aM h1 λhsm h2=>?_;clear h1
 have hb:=di hsm
 refine VR.int_e ry λ_=>?_
 cases rx with
 | none=>exact ff h2
 | bool=>exact ff h2
 | int=>exact ff h2
 | str l t=>
  refine kE (l:=l) h2 λj c hj hlt hij h3=>?_
  refine Ze (V0 s _ t) Wf.lookup (ZH (c:=c) ?_ ?_ (cQ I _ (.str [c] _) h3)) (hs _ _)
  ·simp only[Xk,decide_eq_false_iff_not];lia
  ·show(V7 i l.toArray.size).bind (λn=>l.toArray[n]?)=Sa c
   rw[Su,dP hlt hij]
   simpa using hj
 | tup e n q=>
  refine kE h2 λj c hj hlt hij h3=>?_
  refine aE (q.get hj) λw hw rw_=>?_
  exact item_tupleT ⟨_,e,rfl,_,rfl⟩ (by lia) (by lia) (by rw[q.length];exact dP hlt hij) hw (cQ I s.toks rw_ h3) (hs _ _)
 | @ref n a e=>
  refine St.get_e h2 λo ho h3=>?_;clear h2
  rcases lg h3 with ⟨l,rfl,h4⟩ | ⟨c,d,fs,l,rfl,h4⟩
  ·refine kE h4 λj c hj hlt hij h5=>?_
   obtain⟨vs,m,g,q⟩:=I.list ho e
   refine aE (q.get hj) λw hw rw_=>?_
   have hl:s.heap.IsList a vs.toArray:=⟨_,g,rfl,_,rfl⟩
   have fin:=cQ I s.toks rw_ h5
   rcases hij with ⟨h0,h6⟩ | ⟨h0,h6⟩
   ·exact Ze hl.typeIs VT.lookup (wpAny_getItem_list hl h0 (by lia) (by rw[h6];simpa using hw) fin) (hs _ _)
   ·have:(i+(vs.toArray.size:Int)).toNat=j:=by rw[Su,q.length,h6];rfl
    exact Ze hl.typeIs VT.lookup (YK hl h0 (by rw[Su,q.length];lia) (by lia) (by rw[this];simpa using hw) fin) (hs _ _)
  ·refine kE h4 λj y hj hlt hij h5=>?_;clear h4
   obtain⟨b,hb',r⟩:=I.at_ n _ ho
   have:b=a:=Sa.inj (hb'.symm.trans e)
   subst this
   obtain⟨hc,dx,es,m,vs,m',hdx,hox,hD,er,hvs⟩:=r
   subst hc
   refine aE (hvs.get hj) λw hw rw_=>?_
   have IA:Uo s.heap b _ 244 (Sa (VM es m)):=⟨hox,rfl,rfl,hD⟩
   exact rl JS (I.X Ok) IA (kD J JS (I.X Ok) IA rfl (vn hsm) (by rw[Su,hvs.length];exact dP hlt hij) (by simpa using hw) (cQ I s.toks rw_ h5)) (hs _ _)
theorem j5 (Ok:C.Ok)(J:cJ C)(JS:eP C){a i:Expr}{ci:CE} (hs:∀o x,subscripted i ll o x=operate [o,x] (XG o x))(ha:SE C fx d a ca)(hi:SE C fx d i ci):SE C fx d (.Subscript a i pos) (dw ca ci):=by
 intro A env σ fm st s k R E I F h
 refine Subscript_ (ay (ha A env σ fm st s _ R E I F h) λσ1 x st1 u aaQ aaU aaW aaZ aaS=>?_)
 refine ay (hi A env σ1 fm st1 aaQ _ R E aaW (aaU.fr0 F) aaS) λσ2 y st2 v aaR aa1 aa4 aa5 aa2=>?_
 exact Sm (GX Ok J JS hs aa4 (aa1.vr .nil aaZ) aa5 aa2) (λ_ _ o=>o.trans (aaU.trans aa1)) λ_ _ e=>e
end
section
variable {C:Cfg}{fx:Fx}{d:Nat}{A:Around}{env:Env}{σ σ1:List Addr}{fm:Fm}{st:St}{s aaQ:Shared}
theorem FF (j n:Nat):Vx n (TA j)=min j n:=by
 show(max 0 (min (if ((j:Int)<0) then (j:Int)+n else j) (n:Int))).toNat=_
 rw[Sz (XK.mpr (UR j)),show(min (j:Int) (n:Int))=((min j n:Nat):Int) from(Lean.Omega.Int.ofNat_min ..).symm,Yv (UR _)];rfl
theorem F5 (j n:Nat):Vx n (Y8 j)=n - (j+1):=by
 unfold Vx
 rw[SR (Wb j)]
 show(max 0 (min (Int.subNatNat n (j+1)) (n:Int))).toNat=_
 rcases Nat.lt_or_ge n (j+1) with h | h
 ·rw[Int.subNatNat_of_lt h,Int.min_eq_left (V6 (Int.lt_of_lt_of_le (Wb _) (UR n))),Int.max_eq_left (V6 (Wb _)),Nat.sub_eq_zero_of_le (TJ h)];rfl
 ·rw[ZE h,Int.min_eq_left (Z6.mpr (W7 _ _)),Yv (UR _)];rfl
theorem pK (i:Int)(n:Nat):eV i n=Vx n i:=by
 induction i with
 | ofNat j=>
  rw[FF]
  show @Te (λ_=>Nat) j n (SV n j)=_
  cases q:SV n j with
  | true=>exact(Nat.min_eq_right (Sl q)).symm
  | false=>exact(Xp (TJ (V5 λz=>nomatch (TU z).symm.trans q))).symm
 | negSucc j=>exact(F5 j n).symm
theorem nW (n:Nat)(i:Int):Vx n i<=n:=by
 induction i with
 | ofNat j=>rw[FF];exact Nat.min_le_right _ _
 | negSucc j=>rw[F5];exact W7 _ _
inductive PV:V->SP Int->Prop
 | none:PV .none none
 | int (i:Int):PV (.int i) (Sa i)
noncomputable def fH (l:Sd α)(lo hi:SP Int):Sd α:=(l.drop (lo.elim 0 (Vx l.length))).take (hi.elim l.length (Vx l.length) - lo.elim 0 (Vx l.length))
theorem xn {l:Sd α}{hi:V}{k:Sd α->Si}(h:wj l hi k=Se):∃b,PV hi b/\k (l.take (b.elim l.length (Vx l.length)))=Se:=by
 cases hi with
 | none=>exact⟨none,.none,by rw[SP.elim,Sd.take_length];exact h⟩
 | int j=>exact⟨Sa j,.int j,by have h:k (fy l (eV j (aK l)))=Se:=h;rw[gm,pK,aC] at h;exact h⟩
 | _=>exact ff h
theorem B5 {l:Sd α}{lo hi:V}{k:Sd α->Si}(h:cut l lo hi k=Se):∃a b,PV lo a/\PV hi b/\k (fH l a b)=Se:=by
 cases lo with
 | none=>
  refine aE (xn (l:=l) h) λb hb h1=>?_
  exact⟨none,b,.none,hb,by unfold fH;simpa using h1⟩
 | int i=>
  have h:wj l hi (λq=>k (ng q (eV i (aK l))))=Se:=h
  refine aE (xn h) λb hb h1=>?_
  refine⟨Sa i,b,.int i,hb,?_⟩
  rw[tz,pK,aC] at h1
  unfold fH
  rw[←Sd.drop_take];exact h1
 | _=>exact ff h
theorem xk (items:Array Sn)(lo hi:SP Int):slicePick items lo hi none=(fH items.toList lo hi).toArray:=by
 rw[slicePick_plain];unfold fH;rw[XB]
theorem VRs.cut (r:VRs σ h l vs)(lo hi:SP Int):VRs σ h (fH l lo hi) (fH vs lo hi):=by
 unfold fH
 rw[r.length]
 exact(r.drop _).take _
theorem ip {x:V} {a:SP Int}(p:PV x a)(r:VR σ h x u):aaH u a/\∃q:SP (Int×Tok),u=partValue q/\q.map (·.1)=a:=by
 induction p with
 | none=>refine VR.none_e r ?_;exact⟨.none,none,rfl,rfl⟩
 | int i=>cases r with | int _ t=>exact⟨.int i t,Sa (i,t),rfl,rfl⟩
theorem yy (l:Sd Nat)(lo hi:SP Int):(UD lo hi 1 l.length).filterMap ((⟨l.toArray⟩:Str).cps[·]?)=fH l lo hi /\
  ((UD lo hi 1 l.length).length=l.length->fH l lo hi=l):=by
 have e:UD lo hi 1 l.length=sliceRange (sliceBounds lo hi none l.length).1 (sliceBounds lo hi none l.length).2.1 (sliceBounds lo hi none l.length).2.2:=rfl
 rw[e,sliceBounds_plain]
 simp only[sliceRange_one]
 refine⟨?_,λh=>?_⟩
 ·exact(pick_run l.toArray _ _).trans rfl
 ·simp only[S0,WH] at h
  unfold fH
  have:hi.elim l.length (Vx l.length)<=l.length:=by
   induction hi with
   | none=>exact SQ _
   | some j=>exact nW _ _
  by_cases z:l.length=0
  ·rw[Wt.mp z];simp
  ·rw[h,show lo.elim 0 (Vx l.length)=0 by lia];simp
theorem yp (J:cJ C)(JS:eP C){x sl:Ss} {vl vu vs:Sn}{lo hi:SP Int} (X:C.K.In s.heap)
  (I:Uo s.heap x ox 244 od) (hd:ox.data=.seq items n) (hs:s.heap.IsSliceOf sl vl vu vs) (pl:aaH vl lo) (pu:aaH vu hi) (ps:aaH vs none)
  (h:Q (.ref s.heap.objs.size) { s with heap:=s.heap.push { cls:=.type "list",data:=.seq (slicePick items lo hi none) } })
  (hsz:items.size<=UW):So C.M A (XG (.ref x) (.ref sl)) Q E s:=by
 refine fF (id hs) λos hos hcs hds=>?_
 have hTs:s.TypeIs (.ref sl) "slice":=⟨os,hos,hcs⟩
 have ho:=I.at_
 unfold XG
 refine SN (oX (pj J X I (oX ?_)))
 refine hZ J X I JS.getitem VT entry_list_getitem (.inr jz) iO (args_list_getitem _ _) ?_
 show So _ _ (Ui (.ref sl) >>= _) _ _ s
 refine oX ?_
 ·unfold Ui
  refine oX (Vj hTs slice_no_index ?_)
  skip
  refine Sf ?_
  show So _ _ (Xq (.ref sl) >>= _) _ _ s
  refine oX (YL hTs ?_)
  skip
  refine G6 (listSliceParts_eq ..) ?_
  have hstep:¬((rawPart none == Vy 0)=Se):=Vz
  refine oX (oX (TB hos hds (x:=vs) rfl (oX (V1 ps ?_))))
  skip
  refine oX (TB hos hds (x:=vl) rfl (oX (V1 pl ?_)))
  refine oX (TB hos hds (x:=vu) rfl (oX (V1 pu (Sf ?_))))
  refine oX (m:=TS (.ref x)) ?_
  ·unfold TS
   refine oX (T2 ho hd (Sf ?_))
   refine oX (TP (sliceIndices_raw lo hi none items.size (by simp)) ?_)
   refine oX (TF (Sf ⟨_,rfl,Sf h⟩) (Sk (slicePick_size_le items lo hi none) hsz))
def NH (C:Cfg)(fx:Fx)(d:Nat)(e:SP Expr)(c:CE):Prop:=
 ∀(A:Ua) (env:Env) (σ:Sd Ss) (fm:Fm) (st:St) (s:Sr) (k:V->St->Si),Rm d A->bb fx env->Inv C σ st s->FrR C fx env fm σ s->c fm st k=Se->gf C A (evalPart e env) σ s k
theorem jy:NH C fx d none (ao .none):=by
 intro A env σ fm st s k R E I F h
 refine wE (Yi ..) ?_
 exact Sf (cQ I s.toks .none h)
theorem gj {e:Expr}{c:CE}(h:SE C fx d e c):NH C fx d (Sa e) c:=λA env σ fm st s k R E I F q=>by
 rw[ZO];exact h A env σ fm st s k R E I F q
theorem dn (h:aB n=Se):n<=UW:=Sk (bT h) (bo rfl)
theorem qf (Ok:C.Ok)(J:cJ C)(JS:eP C){a:Expr}{lo hi:SP Expr}{cl ch:CE} (ha:SE C fx d a ca)(hl:NH C fx d lo cl)(hh:NH C fx d hi ch) :
  SE C fx d (.Subscript a (.Slice lo hi none p) pos) (vv ca cl ch):=by
 intro A env σ fm st s k R E I F h
 refine Subscript_ (ay (ha A env σ fm st s _ R E I F h) λσ1 x st1 u aaQ aaU aaW aaZ aaS=>wpAny_Slice ?_)
 refine ay (hl A env σ1 fm st1 aaQ _ R E aaW (aaU.fr0 F) aaS) λσ2 y st2 v aaR aa1 aa4 aa5 aa2=>?_
 refine ay (hh A env σ2 fm st2 aaR _ R E aa4 (aa1.fr0 (aaU.fr0 F)) aa2) λabg z abj w aa0 aa9 aa7 abe aaY=>?_
 refine wE (Yi ..) ?_
 refine Sf ?_
 have rx:=aa9.vr .nil (aa1.vr .nil aaZ)
 have ry:=aa9.vr .nil aa5
 have S:=(aaU.trans aa1).trans aa9
 clear aaZ aa5 aaS aa2 h aaU aa1 aa9 aaW aa4
 have P:Step [] abg aa0 abg { aa0 with heap:=aa0.heap.push { cls:=.type "slice",data:=.fields #[v,w,.none] } }:=Step.pushed (t:=aa0.toks)
 have IP:Inv C abg abj { aa0 with heap:=aa0.heap.push { cls:=.type "slice",data:=.fields #[v,w,.none] } }:=aa7.pushed (t:=aa0.toks)
 have rx':=P.vr .nil rx
 have isl:=Heap.IsSliceOf.new aa0.heap v w .none
 refine Sm (Q:=Out C [] abg _ k) ?_ (λ_ _ o=>o.trans (S.trans P)) λ_ _ e=>e
 induction rx' using VR.cases_e with
 | none=>exact ff aaY
 | bool=>exact ff aaY
 | int=>exact ff aaY
 | tup=>exact ff aaY
 | str l t=>
  refine dH (eH aaY) λhlen h4=>?_
  refine gx (B5 h4) λai bi pa pb h5=>?_
  obtain⟨_,qa,rfl,ea⟩:=ip pa ry
  obtain⟨_,qb,rfl,eb⟩:=ip pb abe
  refine Ze (V0 _ _ t) Wf.lookup (Yw (l:=qa) (u:=qb) (st:=none) ⟨_,Heap.get?_push_size _ rfl,rfl,rfl⟩ rfl ?_) rfl
  have hp:=yy l ai bi
  have hle:(fH l ai bi).length<=l.length:=by unfold fH;rw[Yx,Sd.length_drop];lia
  unfold sliceMade
  have e:Yb ⟨l.toArray⟩ qa qb none=UD ai bi 1 l.length:=by unfold Yb;rw[ea,eb];rfl
  rw[e]
  split
  ·rename_i q
   simp only[S6,beq_iff_eq] at q
   refine cQ IP aa0.toks (.str l t) ?_
   rw[hp.2 q.2] at h5;exact h5
  ·rw[hp.1]
   rw[aC] at hlen
   exact⟨by have:=dn hlen;show(fH l ai bi).toArray.size<=_;rw[Su];(exact Sk hle this),cQ IP _ (.str _ _) h5⟩
 | @ref n a e=>
  refine aE (St.get_t aaY) λo ho h4=>?_
  rcases lg h4 with ⟨l,rfl,h5⟩ | ⟨c,d,fs,l,rfl,h5⟩
  ·refine dH (eH h5) λhlen h6=>?_
   refine gx (B5 h6) λai bi pa pb h7=>?_
   obtain⟨vs,m,g,q⟩:=IP.list ho e
   rw[aC] at hlen
   have hl:({ aa0 with heap:=aa0.heap.push { cls:=.type "slice",data:=.fields #[v,w,.none] } }:Sr).heap.IsList a vs.toArray:=⟨_,g,rfl,_,rfl⟩
   refine Ze hl.typeIs VT.lookup (wpAny_getItem_list_slice hl isl (ip pa ry).1 (ip pb abe).1 .none (by simp) ?_ (by rw[Su,q.length];exact dn hlen)) rfl
   rw[xk]
   exact gk (n:=0) (t:=aa0.toks) IP (q.cut ai bi) h7
  ·refine dH (eH h5) λhlen h6=>?_
   refine gx (B5 h6) λai bi pa pb h7=>?_
   obtain⟨b,hb',r⟩:=IP.at_ n _ ho
   have:b=a:=Sa.inj (hb'.symm.trans e)
   subst this
   obtain⟨hc,dx,es,m,vs,m',hdx,hox,hD,er,hvs⟩:=r
   subst hc
   rw[aC] at hlen
   have IA:Uo ({ aa0 with heap:=aa0.heap.push { cls:=.type "slice",data:=.fields #[v,w,.none] } }:Sr).heap b _ 244 (Sa (VM es m)):=⟨hox,rfl,rfl,hD⟩
   refine rl JS (IP.X Ok) IA (yp J JS (IP.X Ok) IA rfl isl (ip pa ry).1 (ip pb abe).1 .none ?_ (by rw[Su,hvs.length];exact dn hlen)) rfl
   rw[xk]
   exact gk (n:=0) (t:=aa0.toks) IP (hvs.cut ai bi) h7
end
section
variable {C:Cfg}{fx:Fx}{d:Nat}{A:Around}{env:Env}{σ σ1:List Addr}{fm:Fm}{st:St}{s aaQ:Shared}
theorem Heap.SameBut.keeps' (x:Heap.SameBut a h h'):∀b o,b∉[a]->h.get? b=Sa o->h'.get? b=Sa o:=λb o n e=>(x.2 b (λq=>n (Sj.mpr q))).trans e
theorem Step.frame {t:Nat}(x:Heap.SameBut L s.heap h'):Step [L] σ s σ { s with heap:=h',toks:=t }:=
 ⟨⟨[],by simp,λ_ h=>nomatch h⟩,λb o _ w e=>Heap.SameBut.keeps' x b o w e,rfl,λh=>h⟩
theorem FrR.store {t:Nat}{m:Str->SP Sn}(hok:fx.ok=Se)(F:FrR C fx env fm σ s)(I:Inv C σ st s)(hx:fx.ln[i]? = Sa x)(hi:i<fm.loc.length)(r:VR σ s.heap v u)
  (hm:s.heap.Ns env.locals m) (hn:h'.Ns env.locals (λy=>if y=x then Sa u else m y)) (hs:Heap.SameBut env.locals s.heap h') :
  Inv C σ st { s with heap:=h',toks:=t }/\FrR C fx env ⟨fm.loc.set i (Sa v),fm.cel⟩ σ { s with heap:=h',toks:=t }:=by
 have nt:Step.NoTup [env.locals] s.heap:=Heap.Ns.noTup hm
 have S:Step [env.locals] σ s σ { s with heap:=h',toks:=t }:=Step.frame hs
 refine⟨I.other (W:=[env.locals]) (Heap.SameBut.keeps' hs) (λb m=>by rw[Sj.mp m];exact⟨F.out,F.new⟩) nt,⟨_,hn,λj y w e e'=>?_⟩,F.out,F.new,by simpa using F.len,λj n e=>?_⟩
 ·refine aE (F.ns) λm' hm' hv=>?_
  by_cases q:j=i
  ·subst q
   rw[hx] at e;cases e
   simp only[Sd.getElem?_set_self hi] at e'
   cases e'
   exact⟨u,SR rfl,S.vr nt r⟩
  ·simp only[Sd.getElem?_set_ne (Ne.symm q)] at e'
   refine aE (hv j y w e e') λu' a b=>?_
   refine⟨u',?_,S.vr nt b⟩
   rw[Sz ?_,←hm'.agree hm]
   ·exact a
   ·intro z
    subst z
    refine bH (Sy.mp e) λlj ej=>?_
    refine bH (Sy.mp hx) λli ei=>?_
    have P:=UQ.mp (Fx.ok_nd hok)
    rcases Nat.lt_or_gt_of_ne q with z | z
    ·exact P j i lj li z (ej.trans ei.symm)
    ·exact P i j li lj z (ei.trans ej.symm)
 ·exact F.cel j n e
theorem fz {c:Si} {k:Fm->St->Si} (hx:io fx c i=Sa x)(hown:c=Se->x∈fx.own)(hok:fx.ok=Se)(E:bb fx env)(I:Inv C σ st s)(F:FrR C fx env fm σ s)(r:VR σ s.heap v u)(h:fU c i fm v st k=Se) :
  So C.M A (aao env x u) (OutG C fx env σ s k) cL s:=by
 induction c with
 | false=>
  refine ql h λhi h1=>?_
  refine aE (F.ns) λm hm _=>?_
  refine Up (E.ln x (Sp hx)) hm (λh' hn hs=>?_) (by rw[E.kind];rfl)
  refine dH (F.store (t:=s.toks+1) hok I hx hi r hm hn hs) λI' F'=>?_
  exact⟨σ,_,st,Step.frame hs,I',F',h1⟩
 | true=>
  refine gE h λn e h1=>?_
  refine St.get_e h1 λo ho h2=>?_
  clear hok h1
  refine gU h2 λw e81 h3=>?_;subst e81
  refine St.set_e h3 λst' e1 e2 e81 h4=>?_;refine dH e81 λe3 _=>?_
  refine gx (F.cel i n e) λy a h5 h6 h7=>?_
  have:y=x:=Sa.inj (h5.symm.trans hx)
  clear hx h2 h3 h5
  subst this
  obtain⟨b,hb,rb⟩:=I.at_ n _ ho
  have:b=a:=Sa.inj (hb.symm.trans h7)
  clear h7
  subst this
  obtain⟨ab9,hc⟩:∃ab9,s.heap.IsCell b ab9:=by
   induction w with
   | none=>exact⟨_,rb⟩
   | some w=>obtain⟨u',q,_⟩:=rb;exact⟨_,q⟩
  have mb:b∈σ:=Sp hb
  refine wpAny_storeName_cell E.kind (E.own y (hown rfl)) h6 hc λh' hn hs=>?_
  have kp:=Heap.SameBut.keeps' hs
  have S:Step [] σ s σ { s with heap:=h' }:=⟨⟨[],by simp,λ_ h=>nomatch h⟩,λc o m _ e=>kp c o (λq=>m (by rw[Sj.mp q];exact mb)) e,rfl,λh=>h⟩
  have r':VR σ h' v u:=S.vr .nil r
  refine⟨σ,fm,st',S.up,?_,S.fr0 F,h4⟩
  refine I.put (B:=[b]) e1 e2 e3 ho (λq=>nomatch q) rfl (λb' hb'=>.inl (by rw[Sj.mp hb'];exact hb)) kp (λb' hb'=>by rw[Sj.mp hb'];obtain⟨o,g,_⟩:=hn;show(h'.get? b).isSome=Se;rw[g];rfl) λa' ha' _=>?_
  have:a'=b:=Sa.inj (ha'.symm.trans hb)
  clear hown E I F r h hs e ho e1 e2 e3 h4 h6 hb rb hc mb kp S ha'
  subst this
  exact⟨u,hn,r'⟩
theorem iY {c:Si} (hx:io fx c i=Sa x)(hown:c=Se->x∈fx.own)(hok:fx.ok=Se):SG C fx d (.Name x pos) (aw c i):=by
 intro A env σ fm st s k v u R E I F r h
 exact Wg (fz hx hown hok E I F r h)
theorem xg (Ok:C.Ok)(J:cJ C){a:Expr} {x:Nat}{name:Str} (hn:name=aW x)(hx:x<12)(ha:SE C fx d a ca):SG C fx d (.Attribute a name pos) (eQ ca x):=by
 intro A env σ fm st s k v u R E I F r h
 subst hn
 refine wE (arm_assign_Attribute ..) ?_
 refine oX (SN (ay (ha A env σ fm st s _ R E I F h) λσ1 y st1 o aaQ aaU aaW aaZ aaS=>oX (Tz (oX (SN ?_)))))
 refine Sm (xW Ok J hx aaW aaZ (aaU.vr .nil r) aaS) ?_ λ_ _ e=>e
 rintro _ s' ⟨st',S',I',h'⟩
 refine ZP ⟨σ1,fm,st',(aaU.trans S').up,I',S'.fr0 (aaU.fr0 F),h'⟩
end
section
variable {C:Cfg}{fx:Fx}{d:Nat}{A:Around}{env:Env}{σ σ1:List Addr}{fm:Fm}{st:St}{s aaQ:Shared}
theorem fq (f:Array Sn->Array Sn)(vs:Sd Sn)(n:Nat):∃n',S5 f (cB vs n)=cB (f vs.toArray).toList n':=⟨_,rfl⟩
theorem uI (f:Array Sn->Array Sn)(c:Sn)(dx:SP Ss)(vs:Sd Sn)(n:Nat):∃n',S5 f ⟨c,dx,.seq vs.toArray n,#[]⟩=⟨c,dx,.seq (f vs.toArray).toList.toArray n',#[]⟩:=⟨_,rfl⟩
theorem Inv.putList (I:Inv C σ st s) {l':Sd V} {f:Array Sn->Array Sn}{t:Nat}(e:st.look n=Sa (.list l))(ha:σ[n]? = Sa a)(g:s.heap.get? a=Sa (cB vs m))
  (hn:st'.n=st.n) (hl:∀j,st'.look j=if j=n then Sa (.list l') else st.look j) (h4:4<=n) (r:VRs σ s.heap l' (f vs.toArray).toList):Inv C σ st' { s with heap:=s.heap.update a (S5 f),toks:=t }:=by
 have ma:a∈σ:=Sp ha
 obtain⟨m',hm⟩:=fq f vs m
 have g':(s.heap.update a (S5 f)).get? a=Sa (cB (f vs.toArray).toList m'):=by
  rw[Heap.get?_update_self _ g (by rw[hm];rfl),hm]
 refine I.put (B:=[a]) hn hl h4 e (λq=>nomatch q) rfl (λb' hb'=>.inl (by rw[Sj.mp hb'];exact ha)) (λb' x nb q=>?_) (λb' hb'=>by rw[Sj.mp hb'];show((s.heap.update a _).get? a).isSome=Se;rw[g'];rfl) λa' ha' _=>?_
 ·show(s.heap.update a _).get? b'=_
  rw[Heap.get?_update_other _ _ (λq=>nb (Sj.mpr q.symm))];exact q
 ·have:a'=a:=Sa.inj (ha'.symm.trans ha)
  subst this
  exact⟨_,m',g',jP ma r⟩
theorem Inv.putSub (I:Inv C σ st s) {l':Sd V}{f:Array Sn->Array Sn}{t:Nat} {dx:SP Ss}(e:st.look n=Sa (.lsub c d fs l))(ha:σ[n]? = Sa a)(g:s.heap.get? a=Sa ⟨.ref 244,dx,.seq vs.toArray m,#[]⟩)
  (hn:st'.n=st.n) (hl:∀j,st'.look j=if j=n then Sa (.lsub c d fs l') else st.look j) (h4:4<=n) (r:VRs σ s.heap l' (f vs.toArray).toList):Inv C σ st' { s with heap:=s.heap.update a (S5 f),toks:=t }:=by
 have ma:a∈σ:=Sp ha
 obtain⟨m',hm⟩:=uI f (.ref 244) dx vs m
 have g':(s.heap.update a (S5 f)).get? a=Sa ⟨.ref 244,dx,.seq (f vs.toArray).toList.toArray m',#[]⟩:=by
  rw[Heap.get?_update_self _ g (by rw[hm];rfl),hm]
 refine I.put (B:=[a]) hn hl h4 e (λq=>nomatch q) rfl (λb' hb'=>.inl (by rw[Sj.mp hb'];exact ha)) (λb' x nb q=>?_) (λb' hb'=>by rw[Sj.mp hb'];show((s.heap.update a _).get? a).isSome=Se;rw[g'];rfl) λa' ha' ro=>?_
 ·show(s.heap.update a _).get? b'=_
  rw[Heap.get?_update_other _ _ (λq=>nb (Sj.mpr q.symm))];exact q
 ·have:a'=a:=Sa.inj (ha'.symm.trans ha)
  clear hn hl hm ha'
  subst this
  obtain⟨hc,dx',es,k,vs',m'',h1,h2,h3,h4,h5⟩:=ro
  clear st' h5
  subst hc
  rw[show dF 2=244 from rfl] at h2
  rw[h2] at g
  clear h2
  cases g
  have hne:a'≠dx':=λq=>by
   have hi:=I.inj h1 (q▸ha)
   clear t m ha q
   subst hi
   have:=I.dict _ 2 _ fs l (.inr e)
   rw[e] at this;cases this
  exact⟨rfl,dx',es,k,_,m',h1,g',by show(s.heap.update a' _).get? dx'=_;rw[Heap.get?_update_other _ _ hne];exact h3,h4.mono (λr=>gq ma r),jP ma r⟩
theorem yz {l:Ss}{o:Obj} {k:Int}{t:Tok} {v:Sn} {Q:Unit->Sr->Prop}(ho:s.heap.get? l=Sa o)(hc:o.cls=.type "list")(hd:o.data=.seq items n)
  (hfit:UF k=Se) (hj:V7 k items.size=Sa j) (hlt:j<items.size)
  (hQ:Q () { s with heap:=s.heap.update l (S5 (·.setIfInBounds j v)) }):So C.M A (Zx (.ref l) (.int k t) v) Q E s:=by
 have hl:s.heap.IsList l items:=⟨o,ho,hc,n,hd⟩
 have hx:items[j]? = Sa items[j]:=Array.getElem?_eq_getElem hlt
 unfold Zx
 refine SN (oX (wpAny_sequenceKey hl.typeIs (by decide) ?_))
 refine oX (T3 (name:=TT "__setitem__") hl.typeIs Yc
  (Uc Yc hl.typeIs entry_list_setitem ?_ (args_list_setitem _ _ _)))
 show So _ _ (Ui (.int k t) >>= _) _ _ s
 refine oX (Yu hfit ?_)
 induction k with
 | ofNat i=>
  have e:i=j:=by
   unfold V7 at hj
   split at hj
   ·rename_i q;exact S8 q (XK.mpr (UR i))
   ·dsimp only at hj
    split at hj
    ·exact(Sa.inj hj)
    ·exact iq hj
  subst e
  show So _ _ ((seqItemAt l i >>= λr=>pure (r.map (i,·))) >>= _) _ _ s
  refine oX (oX (wpAny_seqItemAt ho hd (Sf ?_)))
  rw[hx]
  show So _ _ (setSeqItemAt l i v >>= _) _ _ s
  refine oX (wpAny_setSeqItemAt ho hd ?_)
  first
   | exact oX (Sf (Sf ⟨.none,rfl,Sf hQ⟩))
   | exact Sf ⟨.none,rfl,Sf hQ⟩
 | negSucc i=>
  show So _ _ ((TS (.ref l) >>= λxs=>pure ((V7 (Y8 i) xs.size).bind λi=>xs[i]?.map (i,·))) >>= _) _ _ s
  refine oX (oX ?_)
  show So _ _ (Wu (.ref l) >>= _) _ _ s
  refine oX (T2 ho hd (Sf (Sf ?_)))
  rw[hj]
  simp only[Va,hx,Uv]
  show So _ _ (setSeqItemAt l j v >>= _) _ _ s
  refine oX (wpAny_setSeqItemAt ho hd ?_)
  first
   | exact oX (Sf (Sf ⟨.none,rfl,Sf hQ⟩))
   | exact Sf ⟨.none,rfl,Sf hQ⟩
theorem wu {x y:V}{i w:Sn}{k:St->Si}(I:Inv C σ st s)(rx:VR σ s.heap x u)(ry:VR σ s.heap y i)(rv:VR σ s.heap v w)(h:mP x y v st k=Se):So C.M A (Zx u i w) (LK C σ s k) cL s:=by
 refine bO h λn e81 h1=>?_;clear h;subst e81
 refine aO h1 λj e81 h2=>?_;clear h1;subst e81
 refine aM h2 λhs h3=>?_;clear h2
 refine bC h3 λl hl h4=>?_;clear h3
 refine fF (Jg h4) λp hp hij h5=>?_
 refine ql h5 λ_ h6=>?_;clear h5
 refine St.set_e h6 λst' e1 e2 e81 h7=>?_;clear h6;refine dH e81 λe3 _=>?_
 rw[aC] at hp hij
 refine VR.int_e ry λ_=>?_
 refine VR.ref_e rx λa e=>?_
 obtain⟨vs,m,g,q⟩:=I.list hl e
 refine yz g rfl rfl (vn hs) (by rw[Su,q.length];exact dP hp hij) (by rw[Su,q.length];exact hp) ?_
 refine⟨st',Step.wrote (t:=s.toks) (Sp e),I.putList hl e g e1 e2 e3 ?_,h7⟩
 simpa using q.set p rv
theorem Aa {a i:Expr}{ci:CE} (ha:SE C fx d a ca)(hi:SE C fx d i ci):SG C fx d (.Subscript a i pos) (zj ca ci):=by
 intro A env σ fm st s k v u R E I F r h
 refine wE (arm_assign_Subscript ..) ?_
 refine oX (SN (ay (ha A env σ fm st s _ R E I F h) λσ1 x st1 o aaQ aaU aaW aaZ aaS=>oX (SN ?_)))
 refine ay (hi A env σ1 fm st1 aaQ _ R E aaW (aaU.fr0 F) aaS) λσ2 y st2 w aaR aa1 aa4 aa5 aa2=>oX (Tz (oX (SN ?_)))
 refine Sm (wu aa4 (aa1.vr .nil aaZ) aa5 ((aaU.trans aa1).vr .nil r) aa2) ?_ λ_ _ e=>e
 rintro _ s' ⟨st',S',I',h'⟩
 exact ZP ⟨σ2,fm,st',((aaU.trans aa1).trans S').up,I',S'.fr0 (aa1.fr0 (aaU.fr0 F)),h'⟩
end
section
variable {C:Cfg}{fx:Fx}{d:Nat}{A:Around}{env:Env}{σ σ1:List Addr}{fm:Fm}{st:St}{s aaQ:Shared}
variable {E:Value->Shared->Prop}
theorem oO {it t:Ss} (hne:t≠it):∀(n i:Nat)(s:Sr)(Q:Sd Sn->Sr->Prop),s.heap.IsListIter it t i->s.heap.IsList t items->i+n<=items.size ->
  (∀h',h'.IsListIter it t (i+n)->Heap.SameBut it s.heap h'->Q ((items.toList.drop i).take n) { s with heap:=h' })->So C.M A (draw (.ref it) n) Q E s
 | 0,i,s,Q,hit,_,_,hQ=>by
  show So _ _ (pure []) Q E s
  exact Sf (by simpa using hQ s.heap hit (Heap.SameBut.refl ..))
 | n+1,i,s,Q,hit,ht,hle,hQ=>by
  have hlt:i<items.size:=by(exact Nat.lt_of_add_right_lt hle)
  show So _ _ (UK (.ref it) >>= _) Q E s
  refine oX (WI hit ht (x:=items[i]) (by simp[hlt]) λaaS hit1 abc=>?_)
  refine oX (SN (oO hne n (i+1) _ _ hit1 (ht.extBut abc.extBut hne) (by lia) λaa2 hit2 abh=>Sf ?_))
  have hd:items.toList.drop i=items[i]::items.toList.drop (i+1):=by simp[XX,hlt]
  have:=hQ aa2 (by rw[show i+(n+1)=i+1+n by(exact Eq.symm (Ud i n))];exact hit2) (abc.trans abh)
  rw[hd,Sd.take_succ_cons] at this
  exact this
theorem jT {t:Ss} {Q:Sd Sn->Sr->Prop}(hh:A.handled=none)(ht:s.heap.IsList t items)
  (hQ:∀h',Heap.ExtBut s.heap.objs.size s.heap h'->Q items.toList { s with heap:=h' }):So C.M A (unpackItems (.ref t) items.size none) Q E s:=by
 have hlt:t≠s.heap.objs.size:=by refine aE ht λo ho _=>?_;exact SJ (Heap.lt_size ho)
 unfold unpackItems
 refine oX ?_
 ·unfold notIterableAtAll
  refine oX (Vj ht.typeIs Zf.lookup ?_)
  refine Sf ?_
  skip
  refine oX (SN (WJ ht ?_))
  refine oX (SN (oO hlt items.size 0 _ _ ⟨_,Heap.get?_push_size _ rfl,rfl,rfl⟩ (ht.push _) (by lia) λaaS hit1 abc=>?_))
  have hall:Sd.take items.size (Sd.drop 0 items.toList)=items.toList:=by
   rw[Sd.drop_zero];exact UL (by simp)
  rw[hall]
  refine wN (by simp) ?_
  have ht1:aaS.IsList t items:=(ht.push _).extBut abc.extBut hlt
  refine oX (SN (WZ hh hit1 ht1 (by simp) λaa2 he2=>?_))
  skip
  refine Sf (hQ aa2 λb o hb e=>he2 b o hb (abc.extBut b o hb (Heap.get?_push_of_some _ e)))
theorem Heap.ExtBut.all (x:Heap.ExtBut h.objs.size h h'):∀b o,h.get? b=Sa o->h'.get? b=Sa o:=λb o e=>x b o (SJ (Heap.lt_size e)) e
theorem Step.all {t:Nat}(x:∀b o,s.heap.get? b=Sa o->h'.get? b=Sa o):Step [] σ s σ { s with heap:=h',toks:=t }:=⟨⟨[],by simp,λ_ h=>nomatch h⟩,λb o _ _ e=>x b o e,rfl,λh=>h⟩
theorem zc {targets:Sd (Si×(Sn->Sem Unit))}{Q:Unit->Sr->Prop}{k:Sd V->Si}(hh:A.handled=none)(hm:targets.length=m)(hstar:targets.findIdx? (·.1)=none)(I:Inv C σ st s)(r:VR σ s.heap v u)
  (hv:cp v ll (λ_=>ll) (λ_=>ll) (λ_=>ll) (λn=>bg st n λl=>aD (SD (aK l) m) (k l) ll) (λl=>aD (SD (aK l) m) (k l) ll)=Se)
  (h:∀l us s',Step [] σ s σ s'->Inv C σ st s'->VRs σ s'.heap l us->k l=Se->l.length=m->So C.M A (ZQ (targets.map (·.2)) us) Q E s'):So C.M A (unpack u targets) Q E s:=by
 unfold unpack
 induction r using VR.cases_e with
 | none=>exact ff hv
 | bool=>exact ff hv
 | int=>exact ff hv
 | str=>exact ff hv
 | tup e n q=>
  rename_i l us a c
  refine aM hv λhl hk=>?_
  have hl:=SK hl
  rw[aC] at hl
  have ht:IsTup s.heap a us.toArray:=⟨_,e,rfl,_,rfl⟩
  rw[hm,hstar,show m=us.toArray.size by rw[Su,q.length,hl]]
  refine oX (SN (unpackItems_tuple hh ht λh' he=>?_))
  have K:=Heap.ExtBut.all he
  have S:Step [] σ s σ { s with heap:=h' }:=Step.all (t:=s.toks) K
  exact h l us _ S (I.grow K) (S.vrs .nil q) hk (by rw[←hl])
 | @ref n a e=>
  refine bC hv λl hl h1=>?_;clear hv
  refine aM h1 λhlen hk=>?_;clear h1
  have hlen:=SK hlen
  rw[aC] at hlen
  obtain⟨us,c,g,q⟩:=I.list hl e
  have ht:s.heap.IsList a us.toArray:=⟨_,g,rfl,_,rfl⟩
  rw[hm,hstar,show m=us.toArray.size by rw[Su,q.length,hlen]]
  refine oX (SN (jT hh ht λh' he=>?_))
  have K:=Heap.ExtBut.all he
  have S:Step [] σ s σ { s with heap:=h' }:=Step.all (t:=s.toks) K
  exact h l us _ S (I.grow K) (S.vrs .nil q) hk (by rw[←hlen])
def IX (C:Cfg)(fx:Fx)(d:Nat)(ts:Sd Expr)(c:xE):Prop:=
 (∀env,(T8 ts env).length=ts.length/\(T8 ts env).findIdx? (·.1)=none) /\
 ∀(A:Ua) (env:Env) (σ:Sd Ss) (fm:Fm) (st:St) (s:Sr) (k:Fm->St->Si) (l:Sd V) (us:Sd Sn),Rm d A->bb fx env->Inv C σ st s->FrR C fx env fm σ s->VRs σ s.heap l us->l.length=ts.length->c fm l st k=Se ->
  So C.M A (ZQ ((T8 ts env).map (·.2)) us) (OutG C fx env σ s k) cL s
theorem cf:IX C fx d [] eW:=by
 refine⟨λ_=>⟨rfl,rfl⟩,λA env σ fm st s k l us R E I F r _ h=>?_⟩
 refine t9 h λe81 h1=>?_;clear h;subst e81
 exact Yd ⟨σ,fm,st,.refl,I,F,h1⟩
theorem Heap.Ns.noTup' (F:FrR C fx env fm σ s):Step.NoTup [env.locals] s.heap:=by refine aE (F.ns) λm hm _=>?_;exact Heap.Ns.noTup hm
theorem mf {t:Expr}{ts:Sd Expr}{ct:CG}{cs:xE}(he:∀env,T8 (t::ts) env=(ll,assign t env)::T8 ts env)(ht:SG C fx d t ct)(hs:IX C fx d ts cs):IX C fx d (t::ts) (bh ct cs):=by
 refine⟨λenv=>⟨by rw[he,Tc,Tc,(hs.1 env).1],by rw[he,Sd.findIdx?_cons,(hs.1 env).2];rfl⟩,λA env σ fm st s k l us R E I F r hl h=>?_⟩
 refine lF h λv q e81 h1=>?_;clear h;subst e81
 refine VRs.cons_e r λ_ _ a b=>?_
 rw[he]
 refine VA (Sm (ht A env σ fm st s _ v _ R E I F a h1) ?_ λ_ _ e=>e)
 rintro _ s' ⟨σ',fm',st',S',I',F',h'⟩
 refine Sm (hs.2 A env σ' fm' st' s' k q _ R E I' F' (S'.vrs (Heap.Ns.noTup' F) b) (by simpa using hl) h') (λ_ _ o=>o.trans S') λ_ _ e=>e
theorem cV {cs:xE} (hs:IX C fx d es cs):SG C fx d (.Tuple es n pos) (fM es.length cs):=by
 intro A env σ fm st s k v u R E I F r h
 refine wE (PyProof.Rows.assign_Tuple ..) ?_
 refine oX (Tz (zc (k:=λl=>cs fm l st k) R.handled (hs.1 env).1 (hs.1 env).2 I r h λl us s' S I' r' h' hl=>?_))
 exact Sm (hs.2 A env σ fm st s' k l us R E I' (S.fr0 F) r' hl h') (λ_ _ o=>o.trans S.up) λ_ _ e=>e
end
section
variable {C:Cfg}{fx:Fx}{d:Nat}{A:Around}{env:Env}{σ σ1:List Addr}{fm:Fm}{st:St}{s aaQ:Shared}
theorem an:SL C fx d [] aH:=by
 intro A env σ fm st s k R E I F h
 exact wpAny_execs_nil ⟨σ,.nxt,fm,st,.refl,I,F,trivial,h⟩
theorem ad {x:Stmt}{xs:Sd Stmt}{cx cxs:CS}(hx:SS C fx d x cx)(hs:SL C fx d xs cxs):SL C fx d (x::xs) (aq cx cxs):=by
 intro A env σ fm st s k R E I F h
 refine wpAny_execs_cons (Sm (hx A env σ fm st s _ R E I F h) ?_ λ_ _ e=>e)
 intro f s' q
 induction q with | mk σ' fl fm' st' S I' F' r h'=>
 revert h'
 exact FlR.e r (λh'=>Sm (hs A env σ' fm' st' s' k R E I' F' h') (λ_ _ o=>o.trans S) λ_ _ e=>e) (λh'=>⟨σ',.brk,fm',st',S,I',F',trivial,h'⟩) (λh'=>⟨σ',.cnt,fm',st',S,I',F',trivial,h'⟩) λr h'=>⟨σ',.ret _,fm',st',S,I',F',r,h'⟩
theorem qq:SS C fx d (.Break pos) u4:=λA env σ fm st s k R E I F h=>wpAny_Break ⟨σ,.brk,fm,st,.refl,I,F,trivial,h⟩
theorem Hr:SS C fx d (.Continue pos) JP:=λA env σ fm st s k R E I F h=>wpAny_Continue ⟨σ,.cnt,fm,st,.refl,I,F,trivial,h⟩
theorem bI {e:Expr}{c:CE} (he:SE C fx d e c):SS C fx d (.Return (Sa e) pos) (dq c):=by
 intro A env σ fm st s k R E I F h
 exact wpAny_Return_some (ay (he A env σ fm st s _ R E I F h) λσ1 x st1 u aaQ aaU aaW aaZ aaS=>⟨σ1,.ret x,fm,st1,aaU.up,aaW,aaU.fr0 F,aaZ,aaS⟩)
theorem DQ:SS C fx d (.Return none pos) EK:=λA env σ fm st s k R E I F h=>wpAny_Return_none ⟨σ,.ret .none,fm,st,.refl,I,F,.none,h⟩
theorem Dx {e:Expr}{c:CE} (hs:∀env,VK e none pos.line env=pure ll)(he:SE C fx d e c):SS C fx d (.Expr e pos) (dI c):=by
 intro A env σ fm st s k R E I F h
 refine wpAny_Expr (ay (he A env σ fm st s _ R E I F h) λσ1 x st1 u aaQ aaU aaW aaZ aaS=>?_) (by unfold interactive;rw[E.kind];rfl) (hs env)
 cases aaZ with
 | none=>exact⟨σ1,.nxt,fm,st1,aaU.up,aaW,aaU.fr0 F,trivial,aaS⟩
 | _=>exact ff aaS
theorem cS {c:Expr}{a b:Sd Stmt} {ca cb:CS} (hc:ST C fx d c cc)(ha:SL C fx d a ca)(hb:SL C fx d b cb):SS C fx d (.If c a b pos) (ij cc ca cb):=by
 intro A env σ fm st s k R E I F h
 refine wpAny_If (Sm (hc A env σ fm st s _ R E I F h) ?_ λ_ _ e=>e)
 rintro x s' ⟨σ',st',S,I',h'⟩
 induction x with
 | true=>exact Sm (ha A env σ' fm st' s' k R E I' (S.fr0 F) h') (λ_ _ o=>o.trans S.up) λ_ _ e=>e
 | false=>exact Sm (hb A env σ' fm st' s' k R E I' (S.fr0 F) h') (λ_ _ o=>o.trans S.up) λ_ _ e=>e
theorem OutG.toS {k:Fl->Fm->St->Si}{u:Unit} (x:OutG C fx env σ s (k .nxt) u s'):OutS C fx env σ s k .next s':=by
 obtain⟨σ',fm',st',S,I,F,h⟩:=x
 exact⟨σ',.nxt,fm',st',S,I,F,trivial,h⟩
theorem pO {t e:Expr}{ct:CG}{c:CE} (hs:∀env,bb fx env->Xg [t] e pos.line env=pure ll)(hw:∀env,bb fx env->VL [t] e env=pure none)(hm:∀env,(T8 [t] env).map (·.2)=[assign t env])
  (he:SE C fx d e c) (ht:SG C fx d t ct):SS C fx d (.Assign [t] e pos) (aV c ct):=by
 intro A env σ fm st s k R E I F h
 refine wpAny_Assign_stores (ay (he A env σ fm st s _ R E I F h) λσ1 x st1 u aaQ aaU aaW aaZ aaS=>?_) (hs env E) (hw env E)
 rw[hm]
 exact Sm (ht A env σ1 fm st1 aaQ (k .nxt) x u R E aaW (aaU.fr0 F) aaZ aaS) (λ_ _ o=>(OutG.toS o).trans aaU.up) λ_ _ e=>e
theorem Dy {aaT aaX abb e:Expr}{abd abn abS:CG}{c:CE} (hm:∀env,(T8 [aaT,aaX,abb] env).map (·.2)=[assign aaT env,assign aaX env,assign abb env])(hw:∀env,VL [aaT,aaX,abb] e env=pure none)
  (he:SE C fx d e c) (aaS:SG C fx d aaT abd) (aa2:SG C fx d aaX abn) (aaY:SG C fx d abb abS):SS C fx d (.Assign [aaT,aaX,abb] e pos) (aV c (tN abd (tN abn abS))):=by
 intro A env σ fm st s k R E I F h
 refine wpAny_Assign_three (ay (he A env σ fm st s _ R E I F h) λσ1 x st1 u aaQ aaU aaW aaZ aci=>?_) (hm env) (hw env)
 refine Sm (aaS A env σ1 fm st1 aaQ _ x u R E aaW (aaU.fr0 F) aaZ aci) ?_ λ_ _ e=>e
 rintro _ aaR ⟨σ2,acz,st2,aa1,aa4,abu,acn⟩
 have aa5:=aa1.vr (Heap.Ns.noTup' (aaU.fr0 F)) aaZ
 refine Sm (aa2 A env σ2 acz st2 aaR _ x u R E aa4 abu aa5 acn) ?_ λ_ _ e=>e
 rintro _ aa0 ⟨abg,abs,abj,aa9,aa7,abm,abO⟩
 exact Sm (aaY A env abg abs abj aa0 (k .nxt) x u R E aa7 abm (aa9.vr (Heap.Ns.noTup' abu) aa5) abO) (λ_ _ o=>(OutG.toS o).trans ((aaU.up.trans aa1).trans aa9)) λ_ _ e=>e
theorem mQ {cc:Si} {e:Expr}{c:CE}{o:Operator} (hx:io fx cc i=Sa x)(hown:cc=Se->x∈fx.own)(hok:fx.ok=Se)(hop:zH C (aap o) op)(he:SE C fx d e c) :
  SS C fx d (.AugAssign (.Name x p) o e pos) (vd cc i op c):=by
 intro A env σ fm st s k R E I F h
 refine wpAny_AugAssign_Name (ay (td hx hok E I F (k:=λv st=>c fm st λx st=>op v x st λy st=>fU cc i fm y st λfm st=>k .nxt fm st) h) λσ1 x st1 u aaQ aaU aaW aaZ aaS=>?_)
 refine ay (he A env σ1 fm st1 aaQ _ R E aaW (aaU.fr0 F) aaS) λσ2 y st2 v aaR aa1 aa4 aa5 aa2=>?_
 refine ay (hop A σ2 st2 aaR _ _ y u v (R.le (Td _)) aa4 (aa1.vr .nil aaZ) aa5 aa2) λabg z abj w aa0 aa9 aa7 abe aaY=>?_
 exact Sm (fz hx hown hok E aa7 (aa9.fr0 (aa1.fr0 (aaU.fr0 F))) abe aaY) (λ_ _ o=>(OutG.toS o).trans ((aaU.trans aa1).trans aa9).up) λ_ _ e=>e
theorem Er (hop:∀x y st k,op x y st k=Se->∃i j,x=.int i/\y=.int j/\k (.int (i+j)) st=Se):zH C (aap .Add) op:=by
 intro A σ st s k x y u v R I rx ry h
 refine gx (hop _ _ _ _ h) λi j e82 e83 h1=>?_;subst e82;subst e83
 refine VR.int_e rx λ_=>?_;refine VR.int_e ry λ_=>?_
 exact aaq (cQ I _ (.int _ _) h1)
end
section
variable {C:Cfg}{fx:Fx}{d:Nat}{A:Around}{env:Env}{σ σ1:List Addr}{fm:Fm}{st:St}{s aaQ:Shared}
inductive ItR (σ:Sd Ss)(h:Heap):It->Ss->Sd Ss->Prop
 | seq {n i:Nat} {a b:Ss}:σ[n]? = Sa a->h.IsListIter b a i->ItR σ h (.seq n i) b [b]
 | tup {l:Sd V} {us:Sd Sn} {t b:Ss} {m i:Nat}:h.get? t=Sa (cK us m)->t∉σ->IsTupIter h b t i->VRs σ h l (us.drop i)->ItR σ h (.tup l) b [b]
 | str {l:Sd Nat} {x:Str} {t:Tok} {i:Nat} {b:Ss}:h.IsStrIter b "str_ascii_iterator" x t i->l=x.cps.toList.drop i->ItR σ h (.str l) b [b]
 | rng {c st:Int} {n:Nat} {b:Ss}:Ug h b c n st->ItR σ h (.rng c n st) b [b]
 | enS {n i:Nat} {a b e:Ss} {old:Sn}:σ[n]? = Sa a->h.IsListIter b a i->aar h e b i old->e≠b->ItR σ h (.enS i n i) e [e,b]
 | enT {l:Sd Nat} {x:Str} {t:Tok} {i:Nat} {b e:Ss} {old:Sn}:h.IsStrIter b "str_ascii_iterator" x t i->aar h e b i old->e≠b->l=x.cps.toList.drop i->i<=x.cps.size->ItR σ h (.enT i l) e [e,b]
theorem cE {p:Ss}{o:Obj}{T:String}(e:h.get? p=Sa o)(c:o.cls=.type T)(n:T ≠ "tuple")(vs:Sd Sn)(m:Nat):h.get? p≠Sa (cK vs m):=by
 intro q
 rw[e] at q
 cases q
 cases c
 exact n rfl
theorem ItR.e {P:It->Ss->Sd Ss->Prop}(seq:∀{n i:Nat}{a b:Ss},σ[n]? = Sa a->h.IsListIter b a i->P (.seq n i) b [b])
  (tup:∀{l:Sd V} {us:Sd Sn} {t b:Ss} {m i:Nat},h.get? t=Sa (cK us m)->t∉σ->IsTupIter h b t i->VRs σ h l (us.drop i)->P (.tup l) b [b])
  (str:∀{l:Sd Nat} {x:Str} {t:Tok} {i:Nat} {b:Ss},h.IsStrIter b "str_ascii_iterator" x t i->l=x.cps.toList.drop i->P (.str l) b [b])
  (rng:∀{c st:Int} {n:Nat} {b:Ss},Ug h b c n st->P (.rng c n st) b [b])
  (enS:∀{n i:Nat} {a b e:Ss} {old:Sn},σ[n]? = Sa a->h.IsListIter b a i->aar h e b i old->e≠b->P (.enS i n i) e [e,b])
  (enT:∀{l:Sd Nat} {x:Str} {t:Tok} {i:Nat} {b e:Ss} {old:Sn},h.IsStrIter b "str_ascii_iterator" x t i->aar h e b i old->e≠b->l=x.cps.toList.drop i->i<=x.cps.size->P (.enT i l) e [e,b])
 (r:ItR σ h it b fp):P it b fp:=
 ItR.casesOn (motive:=λit b fp _=>P it b fp) r seq tup str rng enS enT
inductive Lv (h:Heap)(b:Ss):Prop
 | mk (o:Obj) (T:String) (e:h.get? b=Sa o) (c:o.cls=.type T) (n:T ≠ "tuple")
theorem I6 {T:String}{R:Obj->Prop}(x:∃o,h.get? b=Sa o/\o.cls=.type T/\R o)(n:T ≠ "tuple"):Lv h b:=x.elim λo y=>⟨o,T,y.1,y.2.1,n⟩
theorem JE (x:Lv h b):∀p∈[b],Lv h p:=λ_ m=>(Sj.mp m)▸x
theorem Rk {e:Ss}(y:Lv h e)(x:Lv h b):∀p∈[e,b],Lv h p:=λp m=>(Sv.mp m).elim (λq=>q▸y) (JE x p)
theorem ItR.lv (r:ItR σ h it b fp):∀p∈fp,Lv h p:=
 r.e (P:=λ_ _ fp=>∀p∈fp,Lv h p) (λ_ q=>JE (I6 q (by decide))) (λ_ _ q _=>JE (I6 q (by decide))) (λq _=>JE (I6 q (by decide))) (λq=>JE ⟨_,_,q,rfl,by decide⟩) (λ_ q q' _=>Rk ⟨_,_,q',rfl,by decide⟩ (I6 q (by decide))) (λq q' _ _ _=>Rk ⟨_,_,q',rfl,by decide⟩ (I6 q (by decide)))
theorem ItR.noTup (r:ItR σ h it b fp):Step.NoTup fp h:=λp m vs n=>by
 cases r.lv p m with | mk o T e c ne=>exact cE e c ne vs n
theorem ItR.live (r:ItR σ h it b fp):∀p∈fp,∃o,h.get? p=Sa o:=λp m=>by
 cases r.lv p m with | mk o T e c ne=>exact⟨o,e⟩
theorem ItR.memb (r:ItR σ h it b fp):b∈fp:=
 r.e (P:=λ_ b fp=>b∈fp) (λ_ _=>.head _) (λ_ _ _ _=>.head _) (λ_ _=>.head _) (λ_=>.head _) (λ_ _ _ _=>.head _) (λ_ _ _ _ _=>.head _)
structure Fp (C:Cfg)(σ:Sd Ss)(L:Ss)(fp:Sd Ss):Prop where
 out:∀p∈fp,p∉σ
 new:∀p∈fp,C.aa3.get? p=none
 loc:L∉fp
theorem uP {R:Obj->Prop}(k:∀o,h.get? b=Sa o->h'.get? b=Sa o)(x:∃o,h.get? b=Sa o/\R o):∃o,h'.get? b=Sa o/\R o:=x.elim λo y=>⟨o,k o y.1,y.2⟩
theorem ItR.step {W:Sd Ss} (r:ItR σ s.heap it b fp)(x:Step W σ s σ1 aaQ)(nt:Step.NoTup W s.heap)(hw:∀p∈fp,p∉W)(ho:∀p∈fp,p∉σ):ItR σ1 aaQ.heap it b fp:=
 r.e (P:=λit b fp=>(∀p∈fp,∀o,s.heap.get? p=Sa o->aaQ.heap.get? p=Sa o)->ItR σ1 aaQ.heap it b fp)
  (λh q kp=>.seq (x.idx h) (uP (kp _ (.head _)) q)) (λe n q v kp=>.tup (x.keep _ _ n (λm=>nt _ m _ _ e) e) (x.notin n (λm=>nt _ m _ _ e) e) (uP (kp _ (.head _)) q) (x.vrs nt v))
  (λq e kp=>.str (uP (kp _ (.head _)) q) e) (λq kp=>.rng (kp _ (.head _) _ q)) (λh q q' ne kp=>.enS (x.idx h) (uP (kp _ (.tail _ (.head _))) q) (kp _ (.head _) _ q') ne)
  (λq q' ne e le kp=>.enT (uP (kp _ (.tail _ (.head _))) q) (kp _ (.head _) _ q') ne e le) λp m o e=>x.keep p o (ho p m) (hw p m) e
theorem Fp.step {W:Sd Ss} (P:Fp C σ L fp)(r:ItR σ s.heap it b fp)(x:Step W σ s σ1 aaQ)(hw:∀p∈fp,p∉W):Fp C σ1 L fp:=
 ⟨λp m=>by obtain⟨o,e⟩:=r.live p m;exact x.notin (P.out p m) (hw p m) e,P.new,P.loc⟩
theorem jv {t:Nat}(r:ItR σ s.heap it b fp)(P:Fp C σ env.locals fp)(I:Inv C σ st s)(F:FrR C fx env fm σ s)(hk:∀p o,p∉fp->s.heap.get? p=Sa o->h'.get? p=Sa o) :
  Step fp σ s σ { s with heap:=h',toks:=t }/\Inv C σ st { s with heap:=h',toks:=t }/\FrR C fx env fm σ { s with heap:=h',toks:=t }:=by
 have S:Step fp σ s σ { s with heap:=h',toks:=t }:=⟨⟨[],by simp,λ_ h=>nomatch h⟩,λp o _ w e=>hk p o w e,rfl,λh=>h⟩
 exact⟨S,I.other (W:=fp) hk (λp m=>⟨P.out p m,P.new p m⟩) r.noTup,S.fr r.noTup P.loc F⟩
inductive SGI (C:Cfg)(fx:Fx)(d:Nat):Expr->eN->Prop
 | v {t:Expr} {c:CG}:SG C fx d t c->SGI C fx d t (em c)
 | p {aaT aaX:Expr} {n:Nat} {pos:Pos} {abd abn:CG}:(∀env,T8 [aaT,aaX] env=(ll,assign aaT env)::T8 [aaX] env)->(∀env,T8 [aaX] env=[(ll,assign aaX env)])->SG C fx d aaT abd->SG C fx d aaX abn->SGI C fx d (.Tuple [aaT,aaX] n pos) (yS abd abn)
theorem SGI.e {P:Expr->eN->Prop}{t:Expr}{c:eN}(r:SGI C fx d t c)(v:∀{t:Expr}{c:CG},SG C fx d t c->P t (em c))
  (p:∀{aaT aaX:Expr} {n:Nat} {pos:Pos} {abd abn:CG},(∀env,T8 [aaT,aaX] env=(ll,assign aaT env)::T8 [aaX] env)->(∀env,T8 [aaX] env=[(ll,assign aaX env)])->SG C fx d aaT abd->SG C fx d aaX abn->P (.Tuple [aaT,aaX] n pos) (yS abd abn)):P t c:=
 SGI.casesOn (motive:=λt c _=>P t c) r v p
inductive zE (C:Cfg)(fx:Fx)(env:Env)(fp:Sd Ss)(b:Ss)(σ:Sd Ss)(s:Sr)(k:It->Fm->St->Si)(x:Unit)(s':Sr):Prop
 | mk (σ':Sd Ss) (fm':Fm) (st':St) (it':It) (S:Step (env.locals::fp) σ s σ' s') (I:Inv C σ' st' s') (F:FrR C fx env fm' σ' s') (r:ItR σ' s'.heap it' b fp) (P:Fp C σ' env.locals fp) (h:k it' fm' st'=Se)
theorem Eu {x v:Sn} {Q:Unit->Sr->Prop}(h:Q () s)(hX:So C.M A (Tx (.Tuple [] 0 ⟨0,0,0,0⟩) x v) Q E s):So C.M A (Tx target x v) Q E s:=by
 cases target <;> first | exact hX | exact Sf h
theorem xH {o:Obj}{v:Sn}{T:String} {Q:Unit->Sr->Prop}(ho:s.heap.get? b=Sa o)(hc:o.cls=.type T)
  (hn:(["enumerate","zip","dict_itemiterator","dict_reverseitemiterator","odict_iterator","itertools.zip_longest","itertools.pairwise"]:Sd String).contains T=ll) (h:Q () s):So C.M A (Tx target (.ref b) v) Q E s:=by
 refine Eu h ?_
 induction v with
 | ref a=>
  refine oX (W8 ho ?_)
  clear ho
  obtain⟨oc,od,oda,osl⟩:=o
  cases hc
  induction oda with
  | fields vs=>exact wN (λq=>by rw[hn] at q;exact Uw q) (Sf h)
  | _=>exact Sf h
 | _=>exact Sf h
theorem Ek {it':It} {t:Nat} {o:Obj}{T:String}{k:It->Fm->St->Si}(hg:SGI C fx d target gi)(R:Rm d A)(En:bb fx env)(I:Inv C σ st s)(F:FrR C fx env fm σ s)
  (r:ItR σ s.heap it b fp) (P:Fp C σ env.locals fp) (hk:∀p o,p∉fp->s.heap.get? p=Sa o->h'.get? p=Sa o) (r':ItR σ h' it' b fp) (rv:VR σ h' v u) (ho:h'.get? b=Sa o) (hc:o.cls=.type T)
  (hn:(["enumerate","zip","dict_itemiterator","dict_reverseitemiterator","odict_iterator","itertools.zip_longest","itertools.pairwise"]:Sd String).contains T=ll) (h:gi fm (.v v) st (k it')=Se) :
  So C.M A (Tx target (.ref b) u) (λ_ aaQ=>So C.M A (assign target env u) (zE C fx env fp b σ s k) cL aaQ) cL { s with heap:=h',toks:=t }:=by
 refine kW (jv (t:=t) r P I F hk) λS I' F'=>?_
 refine xH (s:={ s with heap:=h',toks:=t }) ho hc hn ?_
 refine hg.e (P:=λtarget gi=>gi fm (.v v) st (k it')=Se->So C.M A (assign target env u) (zE C fx env fp b σ s k) cL { s with heap:=h',toks:=t }) (λhg h=>?_) (λ_ _ _ _ h=>ff h) h
 refine Sm (hg A env σ fm st _ (k it') v u R En I' F' rv h) (λ_ s' q=>?_) λ_ _ e=>e
 obtain⟨σ',fm',st',S',I'',F'',h''⟩:=q
 have hw:∀p∈fp,p∉[env.locals]:=λp m q=>P.loc (Sj.mp q▸m)
 exact⟨σ',fm',st',it',(S.more λb m=>.inl (.tail _ m)).trans (S'.more λb m=>.inl (Sj.mp m▸.head _)),I'',F'',ItR.step (s:={ s with heap:=h',toks:=t }) r' S' (Heap.Ns.noTup' F') hw P.out,Fp.step (s:={ s with heap:=h',toks:=t }) P r' S' hw,h''⟩
end
section
variable {C:Cfg}{fx:Fx}{d:Nat}{A:Around}{env:Env}{σ σ1:List Addr}{fm:Fm}{st:St}{s aaQ:Shared}
theorem Ea {aaT aaX:Expr} {abd abn:CG}(he:∀env,T8 [aaT,aaX] env=(ll,assign aaT env)::T8 [aaX] env)(h2:∀env,T8 [aaX] env=[(ll,assign aaX env)])(aaS:SG C fx d aaT abd)(aa2:SG C fx d aaX abn):SG C fx d (.Tuple [aaT,aaX] n pos) (fM 2 (bh abd (bh abn eW))):=
 cV (mf he aaS (mf h2 aa2 cf))
theorem vU (x:Heap.ExtBut b h h') (m:b∈fp):∀p o,p∉fp->h.get? p=Sa o->h'.get? p=Sa o:=λp o n e=>x p o (λq=>n (q▸m)) e
theorem np (x:Heap.SameBut b h h')(n:∀vs m,h.get? b≠Sa (cK vs m))(r:VR σ h v u):VR σ h' v u:=
 r.mono (λ_ _ e=>e) λa vs m z e=>⟨z,by rw[x.2 a (λq=>n vs m (q▸e))];exact e⟩
theorem sx {v:Sd V}{u:Sd Sn}(x:Heap.SameBut b h h')(n:∀vs m,h.get? b≠Sa (cK vs m))(r:VRs σ h v u):VRs σ h' v u:=
 r.mono (λ_ _ e=>e) λa vs m z e=>⟨z,by rw[x.2 a (λq=>n vs m (q▸e))];exact e⟩
theorem wS {it':It}{e T:Ss} {t:Nat}{i j:Int} {x:Sn}{k:It->Fm->St->Si}(hg:SGI C fx d target gi)(R:Rm d A)(En:bb fx env)(I:Inv C σ st s)(F:FrR C fx env fm σ s)
  (r:ItR σ s.heap it e fp) (P:Fp C σ env.locals fp) (hk:∀p o,p∉fp->s.heap.get? p=Sa o->h'.get? p=Sa o) (hT:T=s.heap.objs.size) (hTt:h'.get? T=Sa { cls:=.type "tuple",data:=.seq #[.int j tk,x] })
  (ho:IsEnumOut h' e b i x T) (r':∀h'',aar h'' e b i x->Heap.SameBut e h' h''->ItR σ h'' it' e fp) (rv:VR σ h' v x) (h:gi fm (.pair (.int j) v) st (k it')=Se) :
  So C.M A (Tx target (.ref e) (.ref T)) (λ_ aaQ=>So C.M A (assign target env (.ref T)) (zE C fx env fp e σ s k) cL aaQ) cL { s with heap:=h',toks:=t }:=by
 have hTn:s.heap.get? T=none:=Heap.get?_none_of_le (T7 hT.symm)
 have hTo:T∉σ:=λm=>nomatch hTn▸(I.new T m).2
 have hTe:T≠e:=λq=>(r.live e r.memb).elim λo z=>iq (hTn.symm.trans (q▸z))
 refine hg.e (P:=λtarget gi=>gi fm (.pair (.int j) v) st (k it')=Se->So C.M A (Tx target (.ref e) (.ref T)) (λ_ aaQ=>So C.M A (assign target env (.ref T)) (zE C fx env fp e σ s k) cL aaQ) cL { s with heap:=h',toks:=t }) (λ_ h=>ff h) (λhe h2 aaS aa2 h=>?_) h
 refine wpAny_letOwnedTupleGo_enum ho λh'' he'' hs''=>?_
 have hk':∀p o,p∉fp->s.heap.get? p=Sa o->h''.get? p=Sa o:=λp o m z=>(hs''.2 p (λq=>m (q▸r.memb))).trans (hk p o m z)
 refine kW (jv (t:=t) r P I F hk') λS I' F'=>?_
 have rx:VR σ h'' v x:=np hs'' (cE ho rfl (by decide)) rv
 have rt:VR σ h'' (.tup [.int j,v]) (.ref T):=.tup (n:=0) (vs:=[.int j tk,x]) ((hs''.2 T hTe).trans hTt) hTo (.cons (.int _ _) (.cons rx .nil))
 refine Sm (Ea he h2 aaS aa2 A env σ fm st { s with heap:=h'',toks:=t } (k it') _ _ R En I' F' rt h) (λ_ s' q=>?_) λ_ _ e=>e
 obtain⟨σ',fm',st',S',I'',F'',h3⟩:=q
 have hw:∀p∈fp,p∉[env.locals]:=λp m q=>P.loc (Sj.mp q▸m)
 have r'':=r' _ he'' hs''
 exact⟨σ',fm',st',it',(S.more λb m=>.inl (.tail _ m)).trans (S'.more λb m=>.inl (Sj.mp m▸.head _)),I'',F'',ItR.step (s:={ s with heap:=h'',toks:=t }) r'' S' (Heap.Ns.noTup' F') hw P.out,Fp.step (s:={ s with heap:=h'',toks:=t }) P r'' S' hw,h3⟩
def iK (C:Cfg)(fx:Fx)(A:Ua)(env:Env)(target:Expr)(fp:Sd Ss)(b:Ss)(σ:Sd Ss)(fm:Fm)(st:St)(s:Sr)(stop:Si)(k:It->Fm->St->Si)(r:SP Sn)(aaQ:Sr):Prop:=match r with
 | none=>stop=Se/\Step fp σ s σ aaQ/\Inv C σ st aaQ/\FrR C fx env fm σ aaQ
 | some v=>So C.M A (Tx target (.ref b) v) (λ_ s1'=>So C.M A (assign target env v) (zE C fx env fp b σ s k) cL s1') cL aaQ
inductive Ri (h:Heap)(b:Ss):Prop
 | mk (o:Obj) (T:String) (e:h.get? b=Sa o) (c:o.cls=.type T) (n:(["enumerate","zip","dict_itemiterator","dict_reverseitemiterator","odict_iterator","itertools.zip_longest","itertools.pairwise"]:Sd String).contains T=ll)
theorem Hg {T:String}{R:Obj->Prop}(x:∃o,h.get? b=Sa o/\o.cls=.type T/\R o)(n:(["enumerate","zip","dict_itemiterator","dict_reverseitemiterator","odict_iterator","itertools.zip_longest","itertools.pairwise"]:Sd String).contains T=ll):Ri h b:=x.elim λo y=>⟨o,T,y.1,y.2.1,n⟩
section
variable {target:Expr}{gi:eN}{it it':It}{b:Addr}{fp:List Addr}{stop:Bool}{k:It->Fm->St->Bool}{h':Heap}{t:Nat}
theorem lr (r:ItR σ s.heap it b fp)(P:Fp C σ env.locals fp)(I:Inv C σ st s)(F:FrR C fx env fm σ s)(hs:stop=Se)(he:Heap.ExtBut b s.heap h'):iK C fx A env target fp b σ fm st s stop k none { s with heap:=h',toks:=t }:=
 ⟨hs,jv r P I F (vU he r.memb)⟩
theorem jF (hg:SGI C fx d target gi)(R:Rm d A)(En:bb fx env)(r:ItR σ s.heap it b fp)(P:Fp C σ env.locals fp)(I:Inv C σ st s)(F:FrR C fx env fm σ s)(hs:Heap.SameBut b s.heap h')(r':ItR σ h' it' b fp)(x:Ri h' b)(rv:VR σ s.heap v u)(h:gi fm (.v v) st (k it')=Se) :
  iK C fx A env target fp b σ fm st s stop k (Sa u) { s with heap:=h',toks:=t }:=by
 obtain⟨o,T,e,c,n⟩:=x
 exact Ek hg R En I F r P (vU hs.extBut r.memb) r' (np hs (λvs m=>r.noTup b r.memb vs m) rv) e c n h
theorem CJ {l:Sd α} {f:α->Si}{z:Si}{P:Prop}(h:getL l i f z=Se)(H1:∀x,l[i]? = Sa x->f x=Se->P)(H2:l.length<=i->z=Se->P):P:=
 (BO h).elim (λq=>q.elim λx y=>H1 x y.1 y.2) λq=>H2 q.1 q.2
theorem Bj (hg:SGI C fx d target gi)(R:Rm d A)(En:bb fx env)(I:Inv C σ st s)(F:FrR C fx env fm σ s)(ha:σ[n]? = Sa a)(hi:s.heap.IsListIter b a i)(P:Fp C σ env.locals [b])
  (h:aY st (.seq n i) stop (λy it=>gi fm y st (k it))=Se):So C.M A (UK (.ref b)) (iK C fx A env target [b] b σ fm st s stop k) cL s:=by
 refine bC (n:=n) h λl hl h1=>?_
 obtain⟨us,m,g,q⟩:=I.list hl ha
 refine CJ h1 (λv hv h2=>?_) λhle h2=>?_
 ·obtain⟨u,hu⟩:=q.get hv
  exact WI hi ⟨_,g,rfl,_,rfl⟩ (x:=u) (Uq.trans hu.1) λh' hi' hs'=>jF hg R En (.seq ha hi) P I F hs' (.seq ha hi') (Hg hi' (by decide)) hu.2 h2
 ·exact WZ R.handled hi ⟨_,g,rfl,_,rfl⟩ (Uq.trans (W0 (q.length▸hle))) λh' he=>lr (.seq ha hi) P I F h2 he
theorem BN {us:Sd Sn}{c:Ss} (hg:SGI C fx d target gi)(R:Rm d A)(En:bb fx env)(I:Inv C σ st s)(F:FrR C fx env fm σ s)(e:s.heap.get? c=Sa (cK us m))(n:c∉σ)(hi:IsTupIter s.heap b c i)(q:VRs σ s.heap l (us.drop i))(P:Fp C σ env.locals [b])
  (h:aY st (.tup l) stop (λy it=>gi fm y st (k it))=Se):So C.M A (UK (.ref b)) (iK C fx A env target [b] b σ fm st s stop k) cL s:=by
 have r:ItR σ s.heap (.tup l) b [b]:=.tup e n hi q
 have ht:IsTup s.heap c us.toArray:=⟨_,e,rfl,_,rfl⟩
 have hd:us[i]? = (us.drop i).head?:=Vk.symm
 induction l with
 | nil=>exact next_tuple_end R.handled hi ht (Uq.trans (hd.trans (VRs.nil_e (P:=λz=>z.head? = none) q rfl))) λh' he=>lr r P I F h he
 | cons v l=>
  have hq:∃u,us[i]? = Sa u/\VR σ s.heap v u/\VRs σ s.heap l (us.drop (i+1)):=by
   rw[hd,←Sd.tail_drop]
   exact VRs.cons_e (P:=λz=>∃u,z.head? = Sa u/\VR σ s.heap v u/\VRs σ s.heap l z.tail) q λu us' a b=>⟨u,rfl,a,b⟩
  obtain⟨u,hu⟩:=hq
  refine next_tuple_item hi ht (x:=u) (Uq.trans hu.1) λh' hi' hs'=>?_
  have nt:∀vs m,s.heap.get? b≠Sa (cK vs m):=λvs m=>r.noTup b r.memb vs m
  exact jF hg R En r P I F hs' (.tup ((hs'.2 c λz=>nt _ _ (z▸e)).trans e) n hi' (sx hs' nt hu.2.2)) (Hg hi' (by decide)) hu.2.1 h
theorem fW {l:Sd Nat}(e:c::l=x.cps.toList.drop i):x.cps[i]? = Sa c/\l=x.cps.toList.drop (i+1):=
 ⟨VO.symm.trans (Vk.symm.trans (SO Sd.head? e.symm)),(SO Sd.tail e).trans Sd.tail_drop⟩
theorem w5 (e:[]=x.cps.toList.drop i):x.cps.size<=i:=Xl.mp e.symm
theorem zW {l:Sd Nat} (hg:SGI C fx d target gi)(R:Rm d A)(En:bb fx env)(I:Inv C σ st s)(F:FrR C fx env fm σ s)(hi:s.heap.IsStrIter b "str_ascii_iterator" x tk i)(e:l=x.cps.toList.drop i)(P:Fp C σ env.locals [b])
  (h:aY st (.str l) stop (λy it=>gi fm y st (k it))=Se):So C.M A (UK (.ref b)) (iK C fx A env target [b] b σ fm st s stop k) cL s:=by
 induction l with
 | nil=>exact wpAny_pyNext_ascii_end R.handled hi (Array.getElem?_eq_none (w5 e)) λh' he=>lr (.str hi e) P I F h he
 | cons c l=>exact wpAny_pyNext_ascii_item hi (fW e).1 λh' hi' hs'=>jF hg R En (.str hi e) P I F hs' (.str hi' (fW e).2) (Hg hi' (by decide)) (.str [c] _) h
theorem z8 {c sp:Int} (hg:SGI C fx d target gi)(R:Rm d A)(En:bb fx env)(I:Inv C σ st s)(F:FrR C fx env fm σ s)(hi:Ug s.heap b c n sp)(P:Fp C σ env.locals [b])
  (h:aY st (.rng c n sp) stop (λy it=>gi fm y st (k it))=Se):So C.M A (UK (.ref b)) (iK C fx A env target [b] b σ fm st s stop k) cL s:=by
 induction n with
 | zero=>exact wpAny_pyNext_range_end R.handled hi (by decide) λh' he=>lr (.rng (n:=0) hi) P I F h he
 | succ n=>
  have h:gi fm (.v (.int c)) st (k (.rng (gB c sp) n sp))=Se:=h
  rw[eS] at h
  refine wpAny_pyNext_range_item hi (Int.natCast_pos.mpr (YD n)) λh' hi' hs'=>?_
  have hi':Ug h' b (c+sp) n sp:=Int.add_sub_cancel (n:Int) 1▸hi'
  exact jF hg R En (.rng hi) P I F hs' (.rng hi') ⟨_,_,hi',rfl,by decide⟩ (.int c _) h
theorem Qt {c:Ss} (hk:∀p o,p≠b->p≠c->h.get? p=Sa o->h'.get? p=Sa o):∀p o,p∉[b,c]->h.get? p=Sa o->h'.get? p=Sa o:=λp o m=>hk p o (λq=>m (q▸.head _)) (λq=>m (q▸.tail _ (.head _)))
theorem A8 {c:Ss}{old:Sn}(hg:SGI C fx d target gi)(R:Rm d A)(En:bb fx env)(I:Inv C σ st s)(F:FrR C fx env fm σ s)(ha:σ[n]? = Sa a)(hi:s.heap.IsListIter c a i)(he:aar s.heap b c i old)(ne:b≠c)(P:Fp C σ env.locals [b,c])
  (h:aY st (.enS i n i) stop (λy it=>gi fm y st (k it))=Se):So C.M A (UK (.ref b)) (iK C fx A env target [b,c] b σ fm st s stop k) cL s:=by
 have r:ItR σ s.heap (.enS i n i) b [b,c]:=.enS ha hi he ne
 refine bC (n:=n) h λl hl h1=>?_
 obtain⟨us,m,g,q⟩:=I.list hl ha
 refine CJ h1 (λv hv h2=>?_) λhle h2=>?_
 ·obtain⟨u,hu⟩:=q.get hv
  refine wpAny_pyNext_enum_item he hi ⟨_,g,rfl,_,rfl⟩ (x:=u) (Uq.trans hu.1) ne λh' ho hi' hT _ hk=>?_
  have h2:gi fm (.pair (.int (TA i)) v) st (k (.enS (gB i 1) n (Tv i)))=Se:=h2
  rw[eS] at h2
  exact wS (t:=s.toks+1) hg R En I F r P (Qt hk) rfl hT ho (λh'' he'' hs''=>ItR.enS (i:=i+1) ha (uP (λo z=>(hs''.2 c ne.symm).trans z) hi') he'' ne) (hu.2.mono (λ_ _ e=>e) λp vs m z q=>⟨z,Qt hk p _ (λw=>r.noTup p w vs m q) q⟩) h2
 ·exact wpAny_pyNext_enum_end R.handled he hi ⟨_,g,rfl,_,rfl⟩ (Uq.trans (W0 (q.length▸hle))) λh' hx=>⟨h2,jv r P I F (vU hx (.tail _ (.head _)))⟩
theorem zk {l:Sd Nat} {q:Ss}{old:Sn}(hg:SGI C fx d target gi)(R:Rm d A)(En:bb fx env)(I:Inv C σ st s)(F:FrR C fx env fm σ s)(hi:s.heap.IsStrIter q "str_ascii_iterator" x tk i)(he:aar s.heap b q i old)(ne:b≠q)(e:l=x.cps.toList.drop i)(le:i<=x.cps.size)(P:Fp C σ env.locals [b,q])
  (h:aY st (.enT i l) stop (λy it=>gi fm y st (k it))=Se):So C.M A (UK (.ref b)) (iK C fx A env target [b,q] b σ fm st s stop k) cL s:=by
 have r:ItR σ s.heap (.enT i l) b [b,q]:=.enT hi he ne e le
 have D:=Draws.strAscii (prog:=C.prog) (w:=C.w) (A:=A.in1) R.handled q x tk
 induction l with
 | nil=>exact wpAny_pyNext_enum_endD D he (UN le (w5 e)▸hi) λh' hx=>⟨h,jv r P I F (vU hx (.tail _ (.head _)))⟩
 | cons c l=>
  refine wpAny_pyNext_enum_itemD D he hi (V2.mp (fW e).1).1 ne (λm=>ne (Sj.mp m)) λu h' tk hP ho hi' hT _ hk=>?_
  have h2:gi fm (.pair (.int (TA i)) (.str [c])) st (k (.enT (gB i 1) l))=Se:=h
  rw[eS] at h2
  have rv:VR σ h' (.str [c]) u:=hP.elim λc' y=>y.elim λtk' z=>(Sa.inj ((fW e).1.symm.trans z.1))▸z.2▸.str [c'] tk'
  exact wS (t:=tk+1) hg R En I F r P (Qt hk) rfl hT ho (λh'' he'' hs''=>ItR.enT (i:=i+1) (uP (λo z=>(hs''.2 q ne.symm).trans z) hi') he'' ne (fW e).2 (V2.mp (fW e).1).1) rv h2
end
theorem B0 {k:It->Fm->St->Si}(hg:SGI C fx d target gi)(R:Rm d A)(En:bb fx env)(I:Inv C σ st s)(F:FrR C fx env fm σ s)
  (r:ItR σ s.heap it b fp) (P:Fp C σ env.locals fp) (h:aY st it stop (λy it=>gi fm y st (k it))=Se) :
  So C.M A (UK (.ref b)) (iK C fx A env target fp b σ fm st s stop k) cL s:=
 ItR.e (P:=λit b fp=>Fp C σ env.locals fp->aY st it stop (λy it=>gi fm y st (k it))=Se->So C.M A (UK (.ref b)) (iK C fx A env target fp b σ fm st s stop k) cL s)
  (Bj hg R En I F) (BN hg R En I F) (zW hg R En I F) (z8 hg R En I F) (A8 hg R En I F) (zk hg R En I F) r P h
end
section
variable {C:Cfg}{fx:Fx}{d:Nat}{A:Around}{env:Env}{σ σ1:List Addr}{fm:Fm}{st:St}{s aaQ:Shared}
def GB (C:Cfg)(x:Str)(v:Sn):Prop:=aaI C.K SY x=Sa (Sa v)\/(aaI C.K SY x=Sa none/\x ≠ "__name__" /\ bootBuiltins x=Sa v)
theorem bS (Ok:C.Ok) {v:Sn} (hok:fx.ok=Se)(hx:x∈fx.gn)(g:GB C x v)(E:bb fx env)(I:Inv C σ st s)(h:Q v s):So C.M A (eval (.Name x pos) env) Q Ex s:=by
 refine Name_function_global E.kind (E.gn x hx) ?_ (Fx.ok_gn hok hx)
 unfold XN
 rw[E.glob,E.blt]
 rcases g with g | ⟨g,hn,hb⟩
 ·exact oX ((W9 (I.X Ok) g).here (Sf h))
 ·refine oX ((W9 (I.X Ok) g).here ?_)
  have nb:s.heap.Ns T6 C.mb:=Ok.T.b.keeps I.base
  refine oX (wpAny_nsGet nb ?_)
  rw[Ok.T.builtins x hn,hb]
  exact Sf h
def Keeps (C:Cfg)(f:Sn):Prop:=∀h,C.K.In h->∃k,(k=Keeper.frame\/k=Keeper.machine\/k=Keeper.boundFrame)/\Looks C.M h (keeperOf f) k
theorem bK {T:String}:Keeps C (.type T):=λ_ _=>⟨_,.inr (.inl rfl),Yj rfl⟩
theorem ck {T:String}:Keeps C (.builtin T):=λ_ _=>⟨_,.inr (.inl rfl),Yj rfl⟩
theorem ji (hk:aas C.K f=Se):Keeps C f:=λh X=>keeps_K hk h X
theorem mV {Q:Args->Sr->Prop} (h:So C.M A (spliced []) (λvs s'=>Q ⟨vs,[]⟩ s') Ex s):So C.M A (evalArgs f Se [] []) Q Ex s:=by
 unfold evalArgs
 show So _ A (spliced [] >>= _) Q Ex s
 refine oX (Sm h (λvs s' h'=>?_) λ_ _ x=>x)
 refine oX (Sf (SN ?_))
 exact oX (Sf (oX (Sf (Sf h'))))
def aL (es:Sd Expr):Prop:=(∀env pos,(W4 pos (TY es env)).any (·.1)=ll)/\(es=[]\/∃e rest,es=e::rest/\∀env,TY (e::rest) env=(ll,eval e env)::TY rest env)
theorem bL (Ok:C.Ok) {first:Sd Sn} {k:Sd V->St->Si} (hf:Keeps C f)(hp:aL es)(hs:SA C fx d es cs)(R:Rm d A)(E:bb fx env)(I:Inv C σ st s)(F:FrR C fx env fm σ s)
  (h:cs fm st k=Se) (hc:∀σ' l st' us s',Step [] σ s σ' s'->Inv C σ' st' s'->VRs σ' s'.heap l us->us.length<=es.length+4095->k l st'=Se->So C.M A (call f (first++us)) Q Ex s') :
  So C.M A (Xm pos f first (W4 pos (TY es env)) (backToKw pos (Zg [] env))) Q Ex s:=by
 have q:=hs A env σ fm st s k pos R E I F h
 have q':So C.M A (spliced (W4 pos (TY es env))) (λus s'=>C.K.In s'.heap/\So C.M A (call f (first++us)) Q Ex s') Ex s:=
  Sm q (λus s' ⟨hl,σ',l,st',S,I',r,h'⟩=>⟨I'.X Ok,hc σ' l st' us s' S I' r hl h'⟩) λ_ _ e=>e.elim
 refine Ye (P:=C.K.In) (by show(_ || false)=ll;rw[hp.1];rfl) hf ?_
 rcases hp.2 with rfl | ⟨e,rest,rfl,he⟩
 ·exact mV q'
 ·rw[he] at q' ⊢
  exact WK q'
inductive OutI (C:Cfg)(L:Ss)(σ:Sd Ss)(s:Sr)(k:It->St->Si)(u:Sn)(s':Sr):Prop
 | mk (σ':Sd Ss) (it:It) (st':St) (b:Ss) (fp:Sd Ss) (e:u=.ref b) (S:Step [] σ s σ' s') (I:Inv C σ' st' s') (r:ItR σ' s'.heap it b fp) (P:Fp C σ' L fp) (n:∀p∈fp,s.heap.get? p=none) (h:k it st'=Se)
def SI (C:Cfg)(fx:Fx)(d:Nat)(iter:Expr)(c:CI):Prop:=
 ∀(A:Ua) (env:Env) (σ:Sd Ss) (fm:Fm) (st:St) (s:Sr) (k:It->St->Si),Rm d A->bb fx env->Inv C σ st s->FrR C fx env fm σ s->c fm st k=Se ->
  So C.M A (eval iter env) (λx aaQ=>So C.M A (XO x) (OutI C env.locals σ s k) cL aaQ) cL s
theorem OutI.trans {k:It->St->Si} (x:Step [] σ s σ1 aaQ)(y:OutI C L σ1 aaQ k u s'):OutI C L σ s k u s':=by
 obtain⟨σ',it,st',b,fp,e,S,I,r,P,dd,h⟩:=y
 refine⟨σ',it,st',b,fp,e,x.trans S,I,r,P,λp m=>?_,h⟩
 cases q:s.heap.get? p with
 | none=>rfl
 | some o=>
  by_cases z:p∈σ
  ·refine aE ((x.trans S).ext) λτ eτ _=>?_
   exact S8 (by rw[eτ];exact Uj _ z) (P.out p m)
  ·have:=x.keep p o z (λh=>nomatch h) q
   rw[dd p m] at this;exact iq this
theorem bD {p:Ss}(q:h.objs.size<=p):h.get? p=none:=by
 cases e:h.get? p with
 | none=>rfl
 | some o=>exact S8 (Heap.lt_size e) (Uk.mpr q)
theorem sL {p:Ss}(q:h.objs.size<=p):∀x∈[p],h.get? x=none:=λx m=>by rw[Sj.mp m];exact bD q
theorem Gl {p p':Ss}(q:h.objs.size<=p)(q':h.objs.size<=p'):∀x∈[p,p'],h.get? x=none:=λx m=>by
 rcases Sv.mp m with m | m
 ·rw[m];exact bD q
 ·rw[Sj.mp m];exact bD q'
theorem mZ {p:Ss}(I:Inv C σ st s)(F:FrR C fx env fm σ s)(h:s.heap.objs.size<=p):p∉σ/\C.aa3.get? p=none/\env.locals≠p:=by
 refine⟨λm=>S8 (I.size m) (Uk.mpr h),bE I h,λq=>?_⟩
 refine aE (F.ns) λm hm _=>?_
 have:=hm.lt
 exact Tj _ (Sx (q▸this) h)
theorem xc {p:Ss}(I:Inv C σ st s)(F:FrR C fx env fm σ s)(h:s.heap.objs.size<=p):Fp C σ env.locals [p]:=by
 refine kW (mZ I F h) λa b c=>?_
 exact⟨λq m=>by rw[Sj.mp m];exact a,λq m=>by rw[Sj.mp m];exact b,λm=>c (Sj.mp m)⟩
theorem Eb {p q:Ss}(I:Inv C σ st s)(F:FrR C fx env fm σ s)(h:s.heap.objs.size<=p)(h':s.heap.objs.size<=q):Fp C σ env.locals [p,q]:=by
 refine kW (mZ I F h) λa b c=>?_
 refine kW (mZ I F h') λa' b' c'=>?_
 refine⟨λx m=>?_,λx m=>?_,λm=>?_⟩
 ·rcases Sv.mp m with m | m
  ·rw[m];exact a
  ·rw[Sj.mp m];exact a'
 ·rcases Sv.mp m with m | m
  ·rw[m];exact b
  ·rw[Sj.mp m];exact b'
 ·rcases Sv.mp m with m | m
  ·exact c m
  ·exact c' (Sj.mp m)
theorem sd {l:Sd Nat}(h:fN l=Se):(⟨l.toArray⟩:Str).cps.all (·<128)=Se:=by
 unfold fN at h
 rw[pE] at h
 show l.toArray.all (·<128)=Se
 rw[Yp,Ta]
 intro c m
 have:=Sl (Ta.mp h c m)
 simp;(exact Uh this)
theorem Hf {k:It->St->Si}(I:Inv C σ st s)(F:FrR C fx env fm σ s)(r:VR σ s.heap v u)
  (h:cp v ll (λ_=>ll) (λ_=>ll) (λs=>aD (fN s) (k (.str s) st) ll) (λn=>bg st n λ_=>k (.seq n 0) st) (λl=>k (.tup l) st)=Se):So C.M A (XO u) (OutI C env.locals σ s k) cL s:=by
 have FP:=xc I F (SQ _)
 induction r using VR.cases_e with
 | none=>exact ff h
 | bool=>exact ff h
 | int=>exact ff h
 | str l t=>
  refine aM h λha h1=>?_
  refine wpAny_pyIter_ascii (sd ha) ?_
  exact⟨σ,_,st,_,_,rfl,Step.pushed (t:=s.toks),I.pushed (t:=s.toks),.str (x:=⟨l.toArray⟩) (t:=t) (i:=0) ⟨_,Heap.get?_push_size _ rfl,rfl,rfl⟩ (by rfl),FP,sL (SQ _),h1⟩
 | @ref n a e=>
  refine bC (n:=n) h λl hl h1=>?_
  obtain⟨vs,m,g,q⟩:=I.list hl e
  refine WJ ⟨_,g,rfl,_,rfl⟩ ?_
  exact⟨σ,_,st,_,_,rfl,Step.pushed (t:=s.toks),I.pushed (t:=s.toks),.seq e ⟨_,Heap.get?_push_size _ rfl,rfl,rfl⟩,FP,sL (SQ _),h1⟩
 | @tup l us a m e n q=>
  refine iter_tuple (t:=a) ⟨_,e,rfl,_,rfl⟩ ?_
  exact⟨σ,_,st,_,_,rfl,Step.pushed (t:=s.toks),I.pushed (t:=s.toks),.tup (us:=us) (i:=0) (Heap.get?_push_of_some _ e) n ⟨_,Heap.get?_push_size _ rfl,rfl,rfl⟩ q.pushed,FP,sL (SQ _),h⟩
theorem iG {a:Expr} (ha:SE C fx d a ca):SI C fx d a (iE ca):=by
 intro A env σ fm st s k R E I F h
 refine ay (ha A env σ fm st s _ R E I F h) λσ1 x st1 u aaQ aaU aaW aaZ aaS=>?_
 exact Sm (Hf aaW (aaU.fr0 F) aaZ aaS) (λ_ _ o=>o.trans aaU) λ_ _ e=>e
theorem jk {a b:Int}(ha:small a=Se)(hb:small b=Se):Builtin.Range.small a b 1=Se:=small_one (YF (by decide) (V6 (di ha).1)) (XE (di ha).2 (by decide)) (YF (by decide) (V6 (di hb).1)) (XE (di hb).2 (by decide))
theorem lm (a b:Int):To a b 1=(cT (iC b a):Int):=by
 rw[rangeSize_one,gz,ey]
 split
 ·next h=>exact(ZF (Int.sub_nonneg_of_le (V6 h))).symm
 ·next h=>rw[ZG (Int.sub_nonpos_of_le (XK.mp h))];rfl
theorem tO (a b:Int):To a b (-1)=To b a 1:=by kernel_rfl
theorem uO {a b:Int}(ha:small a=Se)(hb:small b=Se):Builtin.Range.small a b (-1)=Se:=by
 have h:=jk hb ha
 unfold Builtin.Range.small at h ⊢
 rw[tO]
 rw[S6,S6,S6,S6] at h
 obtain⟨⟨⟨⟨h1,h2⟩,_⟩,h4⟩,_⟩:=h
 rw[h1,h2,h4,Sz (by decide),show b+(-1+1)=b from Int.add_zero b,h1,Si.or_true];rfl
theorem BC {a b c:Int}{t u v:Tok}{r:Ss}{k:It->St->Si}(I:Inv C σ st s)(F:FrR C fx env fm σ s)(hr:WL s.heap r a b c t u v)(h:eB a b c st k=Se):So C.M A (XO (.ref r)) (OutI C env.locals σ s k) cL s:=by
 refine aM h λha h1=>?_;clear h
 refine aM h1 λhb h2=>?_;clear h1
 have FP:=xc I F (SQ _)
 rcases dE h2 with ⟨hc,h3⟩ | ⟨hc,h3⟩
 ·rw[dm] at hc
  have:=S4 hc
  subst this
  refine aM h3 λ_ h4=>?_
  have e:To a b 1=(cT (iC b a):Int):=lm a b
  refine XP hr (jk ha hb) ?_
  rw[e]
  exact⟨σ,_,st,_,_,rfl,Step.pushed (t:=s.toks),I.pushed (t:=s.toks),.rng (Heap.get?_push_size _ rfl),FP,sL (SQ _),h4⟩
 ·refine aM h3 λhc h4=>?_;clear h3
  rw[dm] at hc
  have:=S4 hc
  subst this
  refine aM h4 λ_ h5=>?_;clear h4
  have e:To a b (-1)=(cT (iC a b):Int):=(tO a b).trans (lm b a)
  refine XP hr (uO ha hb) ?_
  rw[e]
  exact⟨σ,_,st,_,_,rfl,Step.pushed (t:=s.toks),I.pushed (t:=s.toks),.rng (Heap.get?_push_size _ rfl),FP,sL (SQ _),h5⟩
theorem wy (Ok:C.Ok){a:Expr} (hok:fx.ok=Se)(hx:x∈fx.gn)(g:GB C x (.type "range"))(hp:aL [a])(hs:SA C fx d [a] (ae ca av)):SI C fx d (.Call (.Name x p) [a] [] pos) (tn ca):=by
 intro A env σ fm st s k R E I F h
 refine Tw (bS Ok hok hx g E I ?_)
 refine bL (k:=λvs st=>nv vs λy=>aG y λy=>eB 0 y 1 st k) Ok bK hp hs R E I F h λσ' l st' us s' S I' r _ h'=>?_
 refine d9 h' λy e81 h1=>?_;clear h';subst e81
 refine aO h1 λj e81 h2=>?_;clear h1;subst e81
 refine VRs.cons_e r λ_ _ ra rr=>?_
 refine VRs.nil_e rr (VR.int_e ra λ_=>?_)
 refine Z7 ?_
 exact Sm (BC (s:={ s' with heap:=_,toks:=_ }) I'.pushed (Step.pushed.fr0 (S.fr0 F)) (Heap.get?_push_size _ rfl) h2) (λ_ _ o=>o.trans (S.trans Step.pushed)) λ_ _ e=>e
theorem et (Ok:C.Ok){a b:Expr} (hok:fx.ok=Se)(hx:x∈fx.gn)(g:GB C x (.type "range"))(hp:aL [a,b])(hs:SA C fx d [a,b] (ae ca (ae cb av))):SI C fx d (.Call (.Name x p) [a,b] [] pos) (dG ca cb):=by
 intro A env σ fm st s k R E I F h
 refine Tw (bS Ok hok hx g E I ?_)
 refine bL (k:=λvs st=>F3 vs λx y=>aG x λx=>aG y λy=>eB x y 1 st k) Ok bK hp hs R E I F h λσ' l st' us s' S I' r _ h'=>?_
 refine nQ h' λx y e81 h1=>?_;clear h';subst e81
 refine aO h1 λi e81 h2=>?_;clear h1;subst e81
 refine aO h2 λj e81 h3=>?_;clear h2;subst e81
 refine VRs.cons_e r λ_ _ ra rr=>?_
 refine VRs.cons_e rr λ_ _ rb rr=>?_
 refine VRs.nil_e rr (VR.int_e ra λ_=>VR.int_e rb λ_=>?_)
 refine call_range_2 ?_
 exact Sm (BC (s:={ s' with heap:=_,toks:=_ }) I'.pushed (Step.pushed.fr0 (S.fr0 F)) (Heap.get?_push_size _ rfl) h3) (λ_ _ o=>o.trans (S.trans Step.pushed)) λ_ _ e=>e
theorem D1 (Ok:C.Ok){a b c:Expr}{cc:CE} (hok:fx.ok=Se)(hx:x∈fx.gn)(g:GB C x (.type "range"))(hp:aL [a,b,c])(hs:SA C fx d [a,b,c] (ae ca (ae cb (ae cc av)))):SI C fx d (.Call (.Name x p) [a,b,c] [] pos) (BG ca cb cc):=by
 intro A env σ fm st s k R E I F h
 refine Tw (bS Ok hok hx g E I ?_)
 refine bL (k:=λvs st=>dc vs λx vs=>F3 vs λy z=>aG x λx=>aG y λy=>aG z λz=>eB x y z st k) Ok bK hp hs R E I F h λσ' l st' us s' S I' r _ h'=>?_
 refine lF h' λx q e81 h0=>?_;clear h';subst e81
 refine nQ h0 λy z e81 h1=>?_;clear h0;subst e81
 refine aO h1 λi e81 h2=>?_;clear h1;subst e81
 refine aO h2 λj e81 h3=>?_;clear h2;subst e81
 refine aO h3 λm e81 h4=>?_;clear h3;subst e81
 have hm:m=1\/m=-1:=by
  refine aM h4 λ_ q1=>?_
  refine aM q1 λ_ q2=>?_;clear q1
  rcases dE q2 with ⟨z,_⟩ | ⟨_,q3⟩
  ·rw[dm] at z;exact .inl (S4 z)
  ·refine aM q3 λz _=>?_;clear q3
   rw[dm] at z;exact .inr (S4 z)
 refine VRs.cons_e r λ_ _ ra rr=>?_
 refine VRs.cons_e rr λ_ _ rb rr=>?_
 refine VRs.cons_e rr λ_ _ rc rr=>?_
 refine VRs.nil_e rr (VR.int_e ra λ_=>VR.int_e rb λ_=>VR.int_e rc λ_=>?_)
 refine call_range_3 (by lia) ?_ (.inl (YE (by omega)))
 exact Sm (BC (s:={ s' with heap:=_,toks:=_ }) I'.pushed (Step.pushed.fr0 (S.fr0 F)) (Heap.get?_push_size _ rfl) h4) (λ_ _ o=>o.trans (S.trans Step.pushed)) λ_ _ e=>e
theorem pV (Ok:C.Ok){a:Expr} (hok:fx.ok=Se)(hx:x∈fx.gn)(g:GB C x (.type "enumerate"))(hp:aL [a])(hs:SA C fx d [a] (ae ca av)):SI C fx d (.Call (.Name x p) [a] [] pos) (lK ca):=by
 intro A env σ fm st s k R E I F h
 refine Tw (bS Ok hok hx g E I ?_)
 refine bL (k:=λvs st=>nv vs λx=>cp x ll (λ_=>ll) (λ_=>ll) (λs=>aD (fN s) (k (.enT 0 s) st) ll) (λn=>bg st n λ_=>k (.enS 0 n 0) st) (λ_=>ll)) Ok bK hp hs R E I F h λσ' l st' us s' S I' r _ h'=>?_
 refine d9 h' λy e81 h1=>?_;clear h';subst e81
 have F':=S.fr0 F
 have FP:=Eb I' F' (TV _) (SQ _)
 refine VRs.cons_e r λ_ _ ra rr=>?_
 refine VRs.nil_e rr ?_
 induction ra using VR.cases_e with
 | none=>exact ff h1
 | bool=>exact ff h1
 | int=>exact ff h1
 | tup=>exact ff h1
 | str l t=>
  refine aM h1 λha h2=>?_
  refine call_enumerate_str λh'' he hi _ hk=>WM he (OutI.trans S ?_)
  have S':Step [] σ' s' σ' { s' with heap:=h'' }:=Step.all (t:=s'.toks) hk
  have hty:strIterType ⟨l.toArray⟩="str_ascii_iterator":=by unfold strIterType;rw[SR (sd ha)]
  rw[hty] at hi
  exact⟨σ',_,st',_,_,rfl,S',I'.grow hk,.enT (i:=0) hi he (Nat.succ_ne_self _) (by rfl) (Td _),FP,Gl (TV _) (SQ _),h2⟩
 | @ref n a e=>
  refine bC h1 λl hl h2=>?_;clear h1
  obtain⟨vs,m,g,q⟩:=I'.list hl e
  refine call_enumerate_list (items:=vs.toArray) ⟨_,g,rfl,_,rfl⟩ λh'' he hi _ hk=>WM he (OutI.trans S ?_)
  have S':Step [] σ' s' σ' { s' with heap:=h'' }:=Step.all (t:=s'.toks) hk
  exact⟨σ',_,st',_,_,rfl,S',I'.grow hk,.enS (i:=0) e hi he (Nat.succ_ne_self _),FP,Gl (TV _) (SQ _),h2⟩
end
section
variable {C:Cfg}{fx:Fx}{d:Nat}{A:Around}{env:Env}{σ σ1:List Addr}{fm:Fm}{st:St}{s aaQ:Shared}
theorem Step.widen {W W':Sd Ss}(x:Step W σ s σ1 aaQ)(h:∀b∈W,b∈W'):Step W' σ s σ1 aaQ:=x.more λb m=>.inl (h b m)
theorem CO {t:Sem α}{Q:α->Sr->Prop} (h:So C.M A t Q cL s):So C.M A t Q Ex s:=Sm h (λ_ _ q=>q) λ_ _ e=>e.elim
theorem ri {t:Sem α}{Q:α->Sr->Prop} (h:∀Q':α->Sr->Prop,(∀a s,Q a s->Q' a s)->So C.M A t Q' cL s):So C.M A t Q Ex s:=CO (h Q λ_ _ q=>q)
theorem Ft {F:Nat->Si}{P:Nat->Si} (h:F n=Se)(h0:F 0=Se->False)(h1:∀n,F (n+1)=P n):∃m,m<n/\P m=Se:=by
 induction n with
 | zero=>exact(h0 h).elim
 | succ n=>exact⟨n,SX n,h1 n▸h⟩
inductive MD (C:Cfg)(fx:Fx)(env:Env)(fp:Sd Ss)(b:Ss)(σ:Sd Ss)(s:Sr)(K:Fm->It->St->Si)(s':Sr):Prop
 | mk (σ':Sd Ss) (fm':Fm) (st':St) (it':It) (S:Step (env.locals::fp) σ s σ' s') (I:Inv C σ' st' s') (F:FrR C fx env fm' σ' s') (r:ItR σ' s'.heap it' b fp) (P:Fp C σ' env.locals fp) (h:K fm' it' st'=Se)
inductive OG (C:Cfg)(fx:Fx)(env:Env)(W:Sd Ss)(σ:Sd Ss)(s:Sr)(k:Fl->Fm->St->Si)(f:Flow)(s':Sr):Prop
 | mk (σ':Sd Ss) (fl:Fl) (fm':Fm) (st':St) (S:Step W σ s σ' s') (I:Inv C σ' st' s') (F:FrR C fx env fm' σ' s') (r:FlR σ' s'.heap fl f) (h:k fl fm' st'=Se)
inductive LJ (C:Cfg)(fx:Fx)(env:Env)(σ:Sd Ss)(s:Sr)(K:Fm->St->Si)(s':Sr):Prop
 | mk (σ':Sd Ss) (fm':Fm) (st':St) (S:Step [env.locals] σ s σ' s') (I:Inv C σ' st' s') (F:FrR C fx env fm' σ' s') (h:K fm' st'=Se)
theorem Kw {body:Sd Stmt}{ca cb:CS} {k:Fl->Fm->St->Si} (hg:SGI C fx d target gi)(ha:SL C fx d body ca)(hb:SL C fx d orelse cb)(R:Rm d A)(E:bb fx env)
  (hR:∀f s',OG C fx env (env.locals::fp) σ s k f s'->R₀ (.ok f) s')
 (I:Inv C σ st s) (F:FrR C fx env fm σ s) (r:ItR σ s.heap it b fp) (P:Fp C σ env.locals fp) (n:Nat) (h:dO gi ca cb n fm it st k=Se):U0 C.M A (.forLoop target (.ref b) body orelse env) R₀ s:=by
 refine codeAny_forLoop_any (λn=>MD C fx env fp b σ s λfm it st=>dO gi ca cb n fm it st k) ?_ n ⟨σ,fm,st,it,.refl,I,F,r,P,h⟩
 intro n aaQ z
 refine ri λQ' hQ=>?_
 obtain⟨σ1,abi,st1,abv,aaU,aaW,abQ,aaZ,ab7,aaS⟩:=z
 obtain⟨m,aaS⟩:=Ft (F:=λn=>dO gi ca cb n abi abv st1 k) (P:=λn=>aY st1 abv (cb abi st1 k) λy it=>gi abi y st1 λfm st=>ca fm st λf fm st=>@Fl.rec (λ_=>Si) (dO gi ca cb n fm it st k) (k .nxt fm st) (dO gi ca cb n fm it st k) (λv=>k (.ret v) fm st) f) aaS ff (λ_=>rfl)
 have wL:∀b∈[env.locals],b∈env.locals::fp:=λb m=>Sj.mp m▸.head _
 refine Sm (B0 (k:=λit fm st=>ca fm st λf fm st=>@Fl.rec (λ_=>Si) (dO gi ca cb m fm it st k) (k .nxt fm st) (dO gi ca cb m fm it st k) (λv=>k (.ret v) fm st) f) hg R E aaW abQ aaZ ab7 aaS.2) (λx aaR q=>hQ x aaR ?_) λ_ _ e=>e
 clear hQ abQ aaW aaZ ab7
 induction x with
 | none=>
  refine CO (Sm (hb A env σ1 abi st1 aaR k R E q.2.2.1 q.2.2.2 q.1) (λf aa0 z=>hR f aa0 ?_) λ_ _ e=>e)
  obtain⟨abg,fl,abs,abj,aa9,aa7,abm,abO,aaY⟩:=z
  exact⟨abg,fl,abs,abj,(aaU.trans (q.2.1.widen λb m=>.tail _ m)).trans (aa9.widen wL),aa7,abm,abO,aaY⟩
 | some v=>
  refine CO (Sm q (λ_ s2' q=>?_) λ_ _ e=>e)
  refine ri λQ' hQ=>Sm q (λ_ aa0 z=>hQ () aa0 ?_) λ_ _ e=>e
  obtain⟨abg,abs,abj,abP,aa9,aa7,abm,abe,abw,aaY⟩:=z
  refine ri λQ' hQ=>Sm (ha A env abg abs abj aa0 _ R E aa7 abm aaY) (λf aa6 z=>hQ f aa6 ?_) λ_ _ e=>e
  obtain⟨σ4,fl,fm4,st4,abk,abo,abp,abE,aa8⟩:=z
  have S:Step (env.locals::fp) σ s σ4 aa6:=(aaU.trans aa9).trans (abk.widen wL)
  have hw:∀p∈fp,p∉[env.locals]:=λp m q=>abw.loc (Sj.mp q▸m)
  have abF:=abe.step abk (Heap.Ns.noTup' abm) hw abw.out
  have abR:=abw.step abe abk hw
  revert aa8
  exact FlR.e abE (λaa8=>⟨m,aaS.1,σ4,fm4,st4,abP,S,abo,abp,abF,abR,aa8⟩) (λaa8=>hR .next aa6 ⟨σ4,.nxt,fm4,st4,S,abo,abp,trivial,aa8⟩) (λaa8=>⟨m,aaS.1,σ4,fm4,st4,abP,S,abo,abp,abF,abR,aa8⟩) λabE aa8=>hR (.ret _) aa6 ⟨σ4,.ret _,fm4,st4,S,abo,abp,abE,aa8⟩
theorem GL {iter:Expr} {body:Sd Stmt}{ca cb:CS} (hf:∀env x,Tr iter env x=pure x)(hg:SGI C fx d target gi)(hi:SI C fx d iter ci)(ha:SL C fx d body ca)(hb:SL C fx d orelse cb) :
  SS C fx d (.For target iter body orelse pos) (je gi ci ca cb):=by
 intro A env σ fm st s k R E I F h
 refine wpAny_For (Sm (hi A env σ fm st s _ R E I F h) ?_ λ_ _ e=>e) (hf env)
 intro x aaQ q
 refine Sm q ?_ λ_ _ e=>e
 rintro _ aaR ⟨σ2,it,st2,b,fp,rfl,aa1,aa4,aa5,abH,dd,aa2⟩
 refine Kw hg ha hb R E ?_ aa4 (aa1.fr0 F) aa5 abH 200 aa2
 rintro f aa0 ⟨abg,fl,abs,abj,aa9,aa7,abm,abO,aaY⟩
 exact⟨abg,fl,abs,abj,((aa1.up (W:=env.locals::fp)).trans aa9).more λp m=>by
  rcases Sv.mp m with m | m
  ·exact .inl (by rw[m];exact .head _)
  ·exact .inr (dd p m),aa7,abm,abO,aaY⟩
theorem uV {c:Expr}{body:Sd Stmt} {ca cb:CS} (hc:ST C fx d c cc)(ha:SL C fx d body ca)(hb:SL C fx d orelse cb):SS C fx d (.While c body orelse pos) (AC cc ca cb):=by
 intro A env σ fm st s k R E I F h
 refine wpAny_While (codeAny_whileLoop (λn=>LJ C fx env σ s λfm st=>kS cc ca cb n fm st k) ?_ 200 ⟨σ,fm,st,.refl,I,F,h⟩)
 intro n aaQ z
 refine ri λQ' hQ=>?_
 obtain⟨σ1,abi,st1,aaU,aaW,abQ,aaS⟩:=z
 obtain⟨m,aaS⟩:=Ft (F:=λn=>kS cc ca cb n abi st1 k) (P:=λn=>cc abi st1 λx st=>aD x (ca abi st λf fm st=>@Fl.rec (λ_=>Si) (kS cc ca cb n fm st k) (k .nxt fm st) (kS cc ca cb n fm st k) (λv=>k (.ret v) fm st) f) (cb abi st k)) aaS ff (λ_=>rfl)
 refine Sm (hc A env σ1 abi st1 aaQ _ R E aaW abQ aaS.2) (λx aaR z=>?_) λ_ _ e=>e
 obtain⟨σ2,st2,aa1,aa4,aa2⟩:=z
 have abu:=aa1.fr0 abQ
 refine hQ x aaR ?_
 clear hQ
 induction x with
 | false=>exact CO (Sm (hb A env σ2 abi st2 aaR k R E aa4 abu aa2) (λf aa0 o=>OutS.trans (aaU.trans aa1.up) o) λ_ _ e=>e)
 | true=>
  refine ri λQ' hQ=>Sm (ha A env σ2 abi st2 aaR _ R E aa4 abu aa2) (λf aa6 z=>hQ f aa6 ?_) λ_ _ e=>e
  obtain⟨σ4,fl,fm4,st4,abk,abo,abp,abE,aa8⟩:=z
  have S:Step [env.locals] σ s σ4 aa6:=(aaU.trans aa1.up).trans abk
  revert aa8
  exact FlR.e abE (λaa8=>⟨m,aaS.1,σ4,fm4,st4,S,abo,abp,aa8⟩) (λaa8=>⟨σ4,.nxt,fm4,st4,S,abo,abp,trivial,aa8⟩) (λaa8=>⟨m,aaS.1,σ4,fm4,st4,S,abo,abp,aa8⟩) λabE aa8=>⟨σ4,.ret _,fm4,st4,S,abo,abp,abE,aa8⟩
end
noncomputable def au (sc:Scope)(k:NameKind):Sd Str:=(sc.names.filter (·.2 == k)).map (·.1)
noncomputable def aR (sc:Scope):Fx:=⟨au sc .local,au sc .cell++au sc .free,au sc .globalImplicit,au sc .cell⟩
noncomputable def dT (sc:Scope):Si:=sc.kind == .function && decide (sc.names.map (·.1)).Nodup && (aR sc).ok
section
variable {C:Cfg}{fx:Fx}{d:Nat}{A:Around}{env:Env}{σ σ1:List Addr}{fm:Fm}{st:St}{s aaQ:Shared}
theorem cF {l:Sd (Str×NameKind)} {k:NameKind}(nd:(l.map (·.1)).Nodup)(m:(x,k)∈l):l.lookup x=Sa k:=by
 induction l with
 | nil=>exact S8 m aat
 | cons z r ih=>
  rw[Tt,VH] at nd
  rw[Uy]
  rcases Sv.mp m with e | m
  ·rw[←e,show(x == x)=Se from beq_self_eq_true x]
  ·have:x≠z.1:=λq=>nd.1 (q▸UM (f:=(·.1)) m)
   rw[show(x == z.1)=ll from beq_eq_false_iff_ne.mpr this]
   exact ih nd.2 m
theorem dk {k:NameKind} (m:x∈au sc k):(x,k)∈sc.names:=by
 refine aE (XH.mp m) λh80 h e=>?_;obtain⟨y,j⟩:=h80
 obtain⟨h1,h2⟩:=YU.mp h
 clear m h
 cases e
 have:j=k:=by simpa using h2
 clear h2
 subst this
 exact h1
theorem sU (h:dT sc=Se)(e:env.scope=sc)(hg:env.globals=SY)(hb:env.builtins=T6):bb (aR sc) env:=by
 simp only[dT,S6,decide_eq_true_eq] at h
 obtain⟨⟨hk,nd⟩,_⟩:=h
 have L:∀{x:Str} {k:NameKind},x∈au sc k->env.kindOf x=Sa k:=λ{x k} m=>by
  unfold YM;rw[e];exact cF nd (dk m)
 refine⟨by rw[e];simpa using hk,hg,hb,λx m=>L m,λx m=>?_,λx m=>L m,λx m=>L m⟩
 rcases Tf.mp m with m | m
 ·exact .inl (L m)
 ·exact .inr (L m)
theorem df (h:dT sc=Se):(aR sc).ok=Se:=by
 simp only[dT,S6] at h;exact h.2
noncomputable def pX:Obj:={ cls:=.type "cell",data:=.cell none }
theorem yq (I:Inv C σ st s){k:Nat->St->Si}{t:Nat}(h:st.push (.cell none) k=Se) :
  ∃st',k st.n st'=Se/\Step [] σ s (σ++[s.heap.objs.size]) { s with heap:=s.heap.push pX,toks:=t }/\Inv C (σ++[s.heap.objs.size]) st' { s with heap:=s.heap.push pX,toks:=t }/\(σ++[s.heap.objs.size])[st.n]? = Sa s.heap.objs.size:=by
 refine fF (St.push_t h) λst' e1 e2 h=>?_
 have none_:s.heap.get? s.heap.objs.size=none:=bD (SQ _)
 refine⟨st',h,⟨⟨[s.heap.objs.size],rfl,λa m=>by rw[Sj.mp m];exact⟨λq=>(by have:=(I.new _ q).2;rw[none_] at this;exact(nomatch this)),.inl none_⟩⟩,λb x _ _ e=>br b x e,rfl,λh=>h⟩,
  I.push (s':={ s with heap:=s.heap.push pX,toks:=t }) e1 e2 rfl (λb x e=>br b x e) none_ (by rw[Heap.get?_push_size _ rfl];rfl) (bE I (SQ _)) ⟨_,Heap.get?_push_size _ rfl,rfl⟩,by rw[I.n];simp⟩
inductive BX (o:Sd Nat)(cells:Sd (Str×Ss))(σ:Sd Ss)(i:Nat)(x:Str):Prop
 | mk (a:Ss) (n:Nat) (e1:o[i]? = Sa n) (e2:cells.lookup x=Sa a) (e3:σ[n]? = Sa a)
inductive OS (C:Cfg)(names:Sd (Str×NameKind))(acc:Sd (Str×Ss))(σ:Sd Ss)(s:Sr)(k:Sd Nat->St->Si)(acc':Sd (Str×Ss))(s':Sr):Prop
 | mk (σ':Sd Ss) (o:Sd Nat) (st':St) (S:Step [] σ s σ' s') (I:Inv C σ' st' s') (hl:o.length=names.length) (h2:∀(i:Nat) (x:Str),(names.map (·.1))[i]? = Sa x->BX o acc' σ' i x)
  (h3:∀x,x∉names.map (·.1)->acc'.lookup x=acc.lookup x) (h:k o st'=Se)
theorem AY (f:Str×NameKind->Sd (Str×Ss)->Sem (ForInStep (Sd (Str×Ss)))) 
  (hf:∀name kind cells,f (name,kind) cells=if kind == .cell then (do let a ←alloc { cls:=.type "cell",data:=.cell none };pure (.yield ((name,a)::cells))) else pure (.yield cells)) :
  ∀(names:Sd (Str×NameKind)) (acc:Sd (Str×Ss)) (σ:Sd Ss) (st:St) (s:Sr) (k:Sd Nat->St->Si),(names.map (·.1)).Nodup->Inv C σ st s->bY (names.filter (·.2 == .cell)).length st k=Se ->
   So C.M A (Zh names acc f) (OS C (names.filter (·.2 == .cell)) acc σ s k) Ex s
 | [],acc,σ,st,s,k,_,I,h=>by
  refine wE (WN) ?_
  exact Sf ⟨σ,[],st,.refl,I,rfl,λi x e=>by simp at e,λ_ _=>rfl,h⟩
 | (name,kind)::r,acc,σ,st,s,k,nd,I,h=>by
  simp only[Tt,VH] at nd
  rw[Uu,hf]
  by_cases hk:(kind == .cell)=Se
  ·refine Rs hk ?_
   rw[Sd.filter_cons_of_pos (by exact hk)] at h ⊢
   have h:st.push (.cell none) (λn st=>bY (r.filter (·.2 == .cell)).length st λq s=>k (n::q) s)=Se:=h
   refine fD (yq (t:=s.toks) I h) λst1 aaS aaU aaW abI=>?_
   refine oX (oX (Zi (Sf ?_)))
   refine Sm (AY f hf r _ _ st1 _ _ nd.2 aaW aaS) ?_ λ_ _ e=>e
   rintro acc' s' ⟨σ',o,st',S',I',hl,h2,h3,h4⟩
   have nin:name∉(r.filter (·.2 == .cell)).map (·.1):=λm=>nd.1 (by
    refine aE (XH.mp m) λy m e=>?_
    exact e▸UM (f:=Prod.fst) (YU.mp m).1)
   refine⟨σ',st.n::o,st',aaU.trans S',I',by simp[hl],λi x e=>?_,λx n=>?_,h4⟩
   ·induction i with
    | zero=>
     have:x=name:=by simpa using e.symm
     subst this
     exact⟨s.heap.objs.size,st.n,rfl,by rw[h3 x nin];simp[Zj],S'.idx abI⟩
    | succ i=>obtain⟨a,n,q1,q2,q3⟩:=h2 i x (e);exact⟨a,n,q1,q2,q3⟩
   ·simp only[Tt,Sv,not_or] at n
    rw[h3 x n.2,Uy,show(x == name)=ll from beq_eq_false_iff_ne.mpr n.1]
  ·refine Oj hk ?_
   rw[Sd.filter_cons_of_neg (by exact hk)] at h ⊢
   exact oX (Sf (AY f hf r acc σ st s k nd.2 I h))
inductive nE (fx:Fx):Sd (Si×Nat)->Sd Str->Prop
 | nil:nE fx [] []
 | cons {c:Si} {i:Nat} {x:Str} {ps:Sd (Si×Nat)} {xs:Sd Str}:io fx c i=Sa x->(c=Se->x∈fx.own)->nE fx ps xs->nE fx ((c,i)::ps) (x::xs)
theorem Hp (hok:fx.ok=Se)(f:Str×Sn->PUnit->Sem (ForInStep PUnit))(hf:∀n v u,f (n,v) u=(do aao env n v;pure (.yield ⟨⟩)))(E:bb fx env) :
  ∀{ps:Sd (Si×Nat)} {xs:Sd Str} {l:Sd V} {us:Sd Sn} {σ:Sd Ss} {fm:Fm} {st:St} {s:Sr} {k:Fm->St->Si},nE fx ps xs->Inv C σ st s->FrR C fx env fm σ s->VRs σ s.heap l us->bindL ps l fm st k=Se ->
   So C.M A (Zh (xs.zip us) ⟨⟩ f) (λ_ s'=>OutG C fx env σ s k () s') cL s:=by
 intro ps xs l us σ fm st s k p
 induction p generalizing l us σ fm st s k with
 | nil=>
  intro I F r h
  refine dH (Cp h) λe80 h1=>?_;subst e80
  rw[Sd.zip_nil_left,WN]
  exact Sf ⟨σ,fm,st,.refl,I,F,h1⟩
 | cons hx hown p ih=>
  intro I F r h
  refine fB (wJ h) λv q e82 h1=>?_;subst e82
  refine VRs.cons_e r λu1 us1 a b=>?_
  clear r
  rw[Sd.zip_cons_cons,Uu,hf]
  refine oX (oX (Sm (fz hx hown hok E I F a h1) ?_ λ_ _ e=>e))
  rintro _ s' ⟨σ',fm',st',S',I',F',h'⟩
  refine Sf (Sm (ih I' F' (S'.vrs (Heap.Ns.noTup' F) b) h') (λ_ _ o=>o.trans S') λ_ _ e=>e)
theorem xy (n i:Nat)(v:V):(cq n)[i]? ≠ Sa (Sa v):=by
 induction n generalizing i with
 | zero=>intro h;cases h
 | succ n ih=>
  induction i with
  | zero=>intro h;cases h
  | succ i=>exact λh=>ih i h
theorem yA (n:Nat):(cq n).length=n:=by
 induction n with
 | zero=>rfl
 | succ n ih=>show(none::cq n).length=_;rw[Tc,ih]
inductive FQ (C:Cfg)(sc:Scope)(closure:Sd (Str×Ss))(qual:Str)(func:SP Ss)(code:Sn)(around:SP Env)(σ:Sd Ss)(s:Sr)(k:Fm->St->Si)(env:Env)(s':Sr):Prop
 | mk (σ':Sd Ss) (fm':Fm) (st':St) (E:bb (aR sc) env) (e1:env.scope=sc) (e2:env.func=func) (e3:around=none->env.code=code/\env.qual=qual) (e4:∀x,x∉au sc .cell->env.cells.lookup x=closure.lookup x) (S:Step [] σ s σ' s') (I:Inv C σ' st' s') (F:FrR C (aR sc) env fm' σ' s') (d:s.heap.get? env.locals=none) (h:k fm' st'=Se)
inductive Lu (C:Cfg)(sc:Scope)(func:SP Ss)(σ:Sd Ss)(s:Sr)(k:Fm->St->Si)(env:Env)(s':Sr):Prop
 | mk (σ':Sd Ss) (fm':Fm) (st':St) (E:bb (aR sc) env) (e1:env.scope=sc) (e2:env.func=func) (S:Step [] σ s σ' s') (I:Inv C σ' st' s') (F:FrR C (aR sc) env fm' σ' s') (d:s.heap.get? env.locals=none) (h:k fm' st'=Se)
theorem jG {closure:Sd (Str×Ss)}{xs:Sd Str} {code:Sn} {builtins:Ss} {q:Sd Nat} {us:Sd Sn}{k:Fm->St->Si}
  (hsc:dT sc=Se) (hb:(match around with | some o=>o.builtins | none=>builtins)=T6) (hps:nE (aR sc) ps xs) (I:Inv C σ st s) (r:VRs σ s.heap l us)
  (hq:q.length<=(au sc .free).length) (hcl:∀(i:Nat) (x:Str),(au sc .free)[i]? = Sa x->i<q.length->BX q closure σ i x)
  (h:bY (au sc .cell).length st (λo st=>bindL ps l ⟨cq (au sc .local).length,o++q⟩ st k)=Se) :
  So C.M A (WO sc SY closure (xs.zip us) qual func code around builtins)
   (FQ C sc closure qual func code around σ s k) cL s:=by
 unfold WO
 have nd:(sc.names.map (·.1)).Nodup:=by
  simp only[dT,S6,decide_eq_true_eq] at hsc;exact hsc.1.2
 have hlen:(au sc .cell).length=(sc.names.filter (·.2 == .cell)).length:=by unfold au;rw[S0]
 rw[hlen] at h
 refine oX (Zi ?_)
 generalize hT:(if around.isSome=Se then "dict" else "frame":String)=T
 have acb:Step [] σ s σ { s with heap:=s.heap.push { cls:=.type T,data:=.dict #[] } }:=Step.pushed (t:=s.toks)
 have acl:Inv C σ st { s with heap:=s.heap.push { cls:=.type T,data:=.dict #[] } }:=I.pushed (t:=s.toks)
 have abK:(s.heap.push { cls:=.type T,data:=.dict #[] }).Ns s.heap.objs.size λ_=>none:=Heap.Ns.new s.heap (.type T)
 have dL:s.heap.get? s.heap.objs.size=none:=bD (SQ _)
 refine oX (Sm (AY _ (λname kind cells=>by cases hkc:kind == NameKind.cell <;> simp[hkc]) sc.names closure σ st _ _ nd acl h) ?_ λ_ _ e=>e)
 rintro cells aaQ ⟨σ1,o,st1,aaU,aaW,hl,h2,h3,h4⟩
 have key:∀env:Env,env=VB sc s.heap.objs.size SY cells qual func code around builtins->So C.M A (Zh (xs.zip us) ⟨⟩ (λ(x:Str×Sn) (_:PUnit)=>(do aao env x.1 x.2;pure (.yield ⟨⟩):Sem (ForInStep PUnit))) >>= λ_=>pure env)
   (FQ C sc closure qual func code around σ s k) cL aaQ:=by
  rintro env rfl
  have e1:(VB sc s.heap.objs.size SY cells qual func code around builtins).scope=sc:=by unfold VB;induction around <;> rfl
  have e2:(VB sc s.heap.objs.size SY cells qual func code around builtins).locals=s.heap.objs.size:=by unfold VB;induction around <;> rfl
  have e3:(VB sc s.heap.objs.size SY cells qual func code around builtins).globals=SY:=by unfold VB;induction around <;> rfl
  have e4:(VB sc s.heap.objs.size SY cells qual func code around builtins).cells=cells:=by unfold VB;induction around <;> rfl
  have e5:(VB sc s.heap.objs.size SY cells qual func code around builtins).builtins=T6:=by unfold VB;induction around <;> exact hb
  have e6:(VB sc s.heap.objs.size SY cells qual func code around builtins).func=func:=by unfold VB;induction around <;> rfl
  have e7:around=none->(VB sc s.heap.objs.size SY cells qual func code around builtins).code=code/\(VB sc s.heap.objs.size SY cells qual func code around builtins).qual=qual:=by intro z;rw[z];exact⟨rfl,rfl⟩
  generalize VB sc s.heap.objs.size SY cells qual func code around builtins=env at e1 e2 e3 e4 e5 e6 e7 ⊢
  have E:bb (aR sc) env:=sU hsc e1 e3 e5
  have hlive:(s.heap.push { cls:=.type T,data:=.dict #[] }).get? s.heap.objs.size=Sa { cls:=.type T,data:=.dict #[] }:=Heap.get?_push_size _ rfl
  have out0:s.heap.objs.size∉σ:=λm=>S8 (I.size m) (Tj _)
  have F:FrR C (aR sc) env ⟨cq (au sc .local).length,o++q⟩ σ1 aaQ:=by
   refine⟨⟨λ_=>none,by rw[e2];exact abK.at' λx e=>aaU.keep _ x out0 (λm=>nomatch m) e,λi x v _ e=>S8 e (xy _ _ _)⟩,by rw[e2];exact aaU.notin out0 (λm=>nomatch m) hlive,by rw[e2];exact bE I (SQ _),by rw[yA];exact SQ _,λi n e=>?_⟩
   rw[e4]
   have hlc:o.length=(au sc .cell).length:=by rw[hl,hlen]
   by_cases hi:i<o.length
   ·have hx:i<(au sc .cell).length:=hlc▸hi
    obtain⟨a,n',q1,q2,q3⟩:=h2 i _ (Sw hx)
    have:n'=n:=by
     have e:(o++q)[i]? = Sa n:=e
     rw[Ti hi,q1] at e
     exact Sa.inj e
    subst this
    exact⟨_,a,by show(au sc .cell++au sc .free)[i]? = _;rw[Ti hx];exact Sw hx,q2,q3⟩
   ·have e:(o++q)[i]? = Sa n:=e
    rw[TZ (Uk.mp hi)] at e
    obtain⟨hj,_⟩:=Sy.mp e
    have hx:i - o.length<(au sc .free).length:=Sx hj hq
    obtain⟨a,n',q1,q2,q3⟩:=hcl _ _ (Sw hx) hj
    rw[e] at q1
    cases q1
    have nin:(au sc .free)[i - o.length]∉(sc.names.filter (·.2 == .cell)).map (·.1):=λm=>by
     have a1:=cF nd (dk (k:=.cell) m)
     have a2:=cF nd (dk (k:=.free) (Sd.getElem_mem hx))
     rw[a1] at a2;cases a2
    refine⟨_,a,?_,by rw[h3 _ nin];exact q2,aaU.idx q3⟩
    show(au sc .cell++au sc .free)[i]? = _
    rw[TZ (by rw[←hlc];exact Uk.mp hi),←hlc]
    exact Sw hx
  refine oX (Sm (Hp (df hsc) _ (λ_ _ _=>rfl) E hps aaW F ((acb.trans aaU).vrs .nil r) h4) ?_ λ_ _ e=>e)
  rintro _ s' ⟨σ',fm',st',S',I',F',h'⟩
  refine Sf ⟨σ',fm',st',E,e1,e6,e7,λx hx=>by rw[e4];exact h3 x hx,((acb.trans aaU).up.trans S').more λb m=>.inr (by rw[Sj.mp m,e2];exact dL),I',F',by rw[e2];exact dL,h'⟩
 induction around with
 | none=>exact key _ rfl
 | some outer=>exact key _ rfl
theorem re {closure:Sd (Str×Ss)}{xs:Sd Str} {code:Sn} {builtins:Ss} {q:Sd Nat} {us:Sd Sn}{k:Fm->St->Si}
  (hsc:dT sc=Se) (hb:(match around with | some o=>o.builtins | none=>builtins)=T6) (hps:nE (aR sc) ps xs) (I:Inv C σ st s) (r:VRs σ s.heap l us)
  (hq:q.length<=(au sc .free).length) (hcl:∀(i:Nat) (x:Str),(au sc .free)[i]? = Sa x->i<q.length->BX q closure σ i x)
  (h:bY (au sc .cell).length st (λo st=>bindL ps l ⟨cq (au sc .local).length,o++q⟩ st k)=Se) :
  So C.M A (WO sc SY closure (xs.zip us) qual func code around builtins)
   (Lu C sc func σ s k) cL s:=by
 refine Sm (jG hsc hb hps I r hq hcl h) ?_ λ_ _ e=>e
 rintro env s' ⟨σ',fm',st',a1,a2,a3,_,_,a6,a7,a8,a9,a10⟩
 exact⟨σ',fm',st',a1,a2,a3,a6,a7,a8,a9,a10⟩
end
section
variable {C:Cfg}{fx:Fx}{d:Nat}{A:Around}{env:Env}{σ σ1:List Addr}{fm:Fm}{st:St}{s aaQ:Shared}
def eY (C:Cfg)(d:Nat)(f:Sn)(c:FN):Prop:=
 ∀(A:Ua) (σ:Sd Ss) (st:St) (s:Sr) (k:V->St->Si) (l:Sd V) (us:Sd Sn),Rm d A->Inv C σ st s->VRs σ s.heap l us->c l st k=Se ->
  U0 C.M A (.call f ⟨us,[]⟩) (λr s'=>match r with | .ok (.ret v)=>Out C [] σ s k v s' | _=>False) s
theorem mJ {c:FN}(h:eY C d f c):SF C d f c:=λA σ st s k l us R I r q=>UI (VC (h A σ st s k l us R I r q) λr s' z=>by rcases r with e | (v | _ | _ | _) <;> first | exact z.elim | exact z)
theorem ly (Ok:C.Ok) {v:Sn}{f:FN}(hok:fx.ok=Se)(hx:x∈fx.gn)(g:GB C x v)(hk:Keeps C v)(hf:SF C d' v f)(hd:d'<=d)(hp:aL es)(hs:SA C fx d es cs) :
  SE C fx d (.Call (.Name x p) es [] pos) (fA f cs):=by
 intro A env σ fm st s k R E I F h
 refine Tw (bS Ok hok hx g E I ?_)
 refine bL (k:=λvs st=>f vs st k) Ok hk hp hs R E I F h λσ' l st' us s' S I' r _ h'=>?_
 exact Sm (hf A σ' st' s' k l us (R.le hd) I' r h') (λ_ _ o=>o.trans S) λ_ _ e=>e
end
section
variable {C:Cfg}{fx:Fx}{d:Nat}{A:Around}{env:Env}{σ σ1:List Addr}{fm:Fm}{st:St}{s aaQ:Shared}
theorem AR {x c:Ss} {name:Str}{ga:String}{tf:Sn} {Q:Sn×Sd Sn->Sr->Prop}(X:C.K.In s.heap)(I:Uo s.heap x ox c od)
  (hga:Um C.K (.ref c) "__getattribute__"=Sa (Sa (.builtin ga))) (hcan:(VD ga != "object.__getattribute__")=ll) (hk:Um C.K (.ref c) "__getattr__"=Sa none)
  (hf:Um C.K (.ref c) name=Sa (Sa f)) (ht:Looks C.M s.heap (Xq f) tf) (htf:(tf != .type "function" && tf != .type "method_descriptor" && tf != .type "wrapper_descriptor")=ll) (hs:shadowIn od name=Sa ll) (h:Q (f,[.ref x]) s) :
  So C.M A (Wv (.ref x) name pl) Q E s:=by
 unfold Wv aan
 refine oX (oX (I.type.here ((TX X hga).here ?_)))
 dsimp only
 rw[hcan,Sz (by decide)]
 refine oX (oX (I.type.here ((TX X hk).here ?_)))
 refine oX (oX (I.type.here ((TX X hf).here (oX (ht.here ?_)))))
 rw[htf,Sz (by decide)]
 refine oX (WG I.at_ ?_)
 have hd:=I.dict
 cases e:ox.dict with
 | none=>exact oX (U1 (Sf h))
 | some dx=>
  induction od with
  | none=>rw[e] at hd;exact hd.elim
  | some o=>
   rw[e] at hd
   refine aE (VE.mp hs) λr a b=>?_
   refine oX (oX (WG hd ?_))
   refine wE (nsLook_of a) ?_
   refine Sf ?_
   rw[b]
   exact oX (U1 (Sf h))
theorem nV {es:Sd US}{name:Str} (r:ER σ h fs es)(hn:∀x<12,aW x≠name):shadowIn (Sa (VM es n)) name=Sa ll:=by
 have key:es.find? (·.key.isStr name)=none:=by
  induction r with
  | nil=>rfl
  | @cons x v r hs t u es hx hv hr ih=>
   rw[YH (by simp only[Ya];intro z;exact hn x hx (by simpa using z))]
   exact ih
 unfold shadowIn aaG
 simp only[key]
 rw[show es.toArray.toList.any (·.refKey)=es.any (·.refKey) from rfl,sD r]
 rfl
theorem yu:(VD "list.__getattribute__" != "object.__getattribute__")=ll:=by decide +kernel
theorem yt:(VD "object.__getattribute__" != "object.__getattribute__")=ll:=by decide +kernel
theorem ur (Ok:C.Ok)(J:cJ C) {p:Sd (Nat×V)->O}{name:Str}{tf:Sn} {Q:Sn×Sd Sn->Sr->Prop}(I:Inv C σ st s)(ho:st.look n=Sa o)(ha:σ[n]? = Sa a)
  (hp:(∃d,c<2/\o=.inst c d fs/\p=O.inst c d)\/(∃d l,c=2/\o=.lsub c d fs l/\p=λfs=>O.lsub c d fs l)) (hf:Um C.K (.ref (dF c)) name=Sa (Sa f)) (ht:Looks C.M s.heap (Xq f) tf)
  (htf:(tf != .type "function" && tf != .type "method_descriptor" && tf != .type "wrapper_descriptor")=ll) (hn:∀x<12,aW x≠name) (h:Q (f,[.ref a]) s):So C.M A (Wv (.ref a) name pl) Q E s:=by
 refine qG (I.obj ho ha hp) λox dx es m IA hd hD er=>?_
 have hc:c<3:=by rcases hp with ⟨_,h,_⟩ | ⟨_,_,h,_⟩ <;> lia
 have hga:∃ga,Um C.K (.ref (dF c)) "__getattribute__"=Sa (Sa (.builtin ga))/\(VD ga != "object.__getattribute__")=ll:=by
  rcases hp with ⟨_,h,_⟩ | ⟨_,_,h,_⟩
  ·exact⟨_,J.ga c h,yt⟩
  ·subst h;exact⟨_,J.gaL,yu⟩
 refine aE hga λga g1 g2=>?_
 exact AR (I.X Ok) IA g1 g2 (J.gh c hc) hf ht htf (nV er hn) h
structure de (C:Cfg)(c:Nat)(name:Str)(fa:Ss):Prop where
 find:Um C.K (.ref (dF c)) name=Sa (Sa (.ref fa))
 typ:YN C.K (.ref fa)=Sa (.type "function")
 keep:aas C.K (.ref fa)=Se
 name:∀x<12,aW x≠name
def dZ (o:Expr)(name:Str)(apos:Pos)(es:Sd Expr)(pos:Pos):Prop:=∃pl:Env->Sem Si,∀env,eval (.Call (.Attribute o name apos) es [] pos) env=(do
   let ov ←eval o env
   UC apos.atName
   let (f,first) ←holding [ov] (Wv ov name (pl env))
   Xm pos f first (W4 pos (TY es env)) (backToKw pos (Zg [] env)))
theorem wA {k:Nat->Sd (Nat×V)->(Sd (Nat×V)->O)->Si}(I:Inv C σ st s) (ho:st.look n=Sa o)(h:pi o k=Se) :
  ∃c fs p,k c fs p=Se/\((∃d,c<2/\o=.inst c d fs/\p=O.inst c d)\/(∃d l,c=2/\o=.lsub c d fs l/\p=λfs=>O.lsub c d fs l)):=by
 rcases qv h with ⟨c,d,fs,rfl,h1⟩ | ⟨c,d,fs,l,rfl,h1⟩
 ·have hc:c<2:=by obtain⟨b,_,r⟩:=I.at_ n _ ho;exact r.1
  exact⟨c,fs,_,h1,.inl ⟨d,hc,rfl,rfl⟩⟩
 ·have hc:c=2:=by obtain⟨b,_,r⟩:=I.at_ n _ ho;exact r.1
  exact⟨c,fs,_,h1,.inr ⟨d,l,hc,rfl,rfl⟩⟩
theorem vX (Ok:C.Ok)(J:cJ C) {o:Expr} {name:Str} {f:FN}(hm:dZ o name apos es pos)(m:de C c name fa)(hf:SF C d' (.ref fa) f)(hd:d'<=d)(hp:aL es)
  (ho:SE C fx d o co) (hs:SA C fx d es cs):SE C fx d (.Call (.Attribute o name apos) es [] pos) (bz c f co cs):=by
 intro A env σ fm st s k R E I F h
 refine bH hm λpl he=>?_
 refine wE (he env) ?_
 refine oX (ay (ho A env σ fm st s _ R E I F h) λσ1 x st1 u aaQ aaU aaW aaZ aaS=>oX (Tz (oX (SN ?_))))
 refine bO aaS λn e81 h2=>?_;clear aaS;subst e81
 refine St.get_e h2 λob hob h3=>?_;clear h2
 refine iD (wA aaW hob h3) λc' fs p h4 hk=>?_
 refine aM h4 λhc h5=>?_;clear h4
 have hc:=SK hc
 subst hc
 refine VR.ref_e aaZ λa ea=>?_
 refine ur Ok J aaW hob ea hk m.find (looks_typeIn (aaW.X Ok) m.typ) (by decide +kernel) m.name ?_
 refine bL (k:=λvs st=>f (.ref n::vs) st k) Ok (ji m.keep) hp hs R E aaW (aaU.fr0 F) h5 λσ' l st' us s' S' I' r' _ h'=>?_
 exact Sm (hf A σ' st' s' k (.ref n::l) (.ref a::us) (R.le hd) I' (.cons (.ref (S'.idx ea)) r') h') (λ_ _ o=>o.trans (aaU.trans S')) λ_ _ e=>e
end
section
variable {C:Cfg}{fx:Fx}{d:Nat}{A:Around}{env:Env}{σ σ1:List Addr}{fm:Fm}{st:St}{s aaQ:Shared}
def Lw (C:Cfg)(d:Nat)(f:Sn)(c:FN):Prop:=∀(A:Ua)(σ:Sd Ss)(st:St)(s:Sr)(k:V->St->Si)(n:Nat)(a:Ss)(c' d':Nat)(fs:Sd (Nat×V))(l:Sd V),
 Rm d A->Inv C σ st s->σ[n]? = Sa a->st.look n=Sa (.lsub c' d' fs l)->c [.ref n] st k=Se->gf C A (call f [.ref a]) σ s k
theorem HM (hsub:Lw C d (.builtin "len") fh):SF C d (.builtin "len") dU:=by
 intro A σ st s k l us R I r h
 refine d9 h λv e81 h1=>?_;clear h;subst e81
 refine VRs.cons_e r λ_ _ ra rr=>?_
 refine VRs.nil_e rr ?_
 induction ra using VR.cases_e with
 | none=>exact ff h1
 | bool=>exact ff h1
 | int=>exact ff h1
 | str l t=>
  refine aM h1 λhl h2=>?_
  have hl:=bT hl
  rw[aC] at hl h2
  have e:(⟨l.toArray⟩:Str).length=l.length:=by show l.toArray.size=_;simp
  refine aaD (by rw[e];lia) ?_
  rw[e]
  exact cQ I _ (.int _ _) h2
 | tup e n q=>
  refine aM h1 λhl h2=>?_
  have hl:=bT hl
  rw[aC] at hl h2
  refine len_tuple ⟨_,e,rfl,_,rfl⟩ (by rw[Su,q.length];lia) ?_
  rw[Su,q.length]
  exact cQ I _ (.int _ _) h2
 | @ref n a e=>
  refine St.get_e h1 λo ho h2=>?_;clear h1
  induction o with
  | list l=>
   refine aM h2 λhl h3=>?_
   have hl:=bT hl
   rw[aC] at hl h3
   obtain⟨vs,m,g,q⟩:=I.list ho e
   refine len_list (items:=vs.toArray) ⟨_,g,rfl,_,rfl⟩ (by rw[Su,q.length];lia) ?_
   rw[Su,q.length]
   exact cQ I _ (.int _ _) h3
  | lsub c d fs l=>exact hsub A σ st s k n a c d fs l R I e ho h2
  | cell=>exact ff h2
  | inst=>exact ff h2
  | hid=>exact ff h2
theorem k0:SF C d (.builtin "max") jH:=by
 intro A σ st s k l us R I r h
 refine nQ h λv w e81 h1=>?_;clear h;subst e81
 refine aO h1 λa e81 h2=>?_;clear h1;subst e81
 refine aO h2 λb e81 h3=>?_;clear h2;subst e81
 refine VRs.cons_e r λ_ _ ra rr=>?_
 refine VRs.cons_e rr λ_ _ rb rr=>?_
 refine VRs.nil_e rr ?_
 refine VR.int_e ra λt=>?_
 refine VR.int_e rb λu=>?_
 refine max_two_ints R.handled λh' tk hk=>?_
 have S:Step [] σ s σ { s with heap:=h',toks:=tk }:=Step.all hk
 have e:ve a b=if b>a then b else a:=by
  show @Te (λ_=>Int) a b (Cb a b)=_
  rw[kj]
  by_cases q:a<b
  ·rw[Tq q,SR q]
  ·rw[Tp q,Sz q]
 rw[e] at h3
 refine⟨σ,_,st,S,I.grow hk,?_,h3⟩
 split <;> exact .int _ _
theorem Ha:SF C d (.builtin "chr") DW:=by
 intro A σ st s k l us R I r h
 refine d9 h λv e81 h1=>?_;clear h;subst e81
 refine aO h1 λa e81 h2=>?_;clear h1;subst e81
 refine aM h2 λq1 h3=>?_;clear h2
 refine aM h3 λq2 h4=>?_;clear h3
 rw[gy] at q1 q2
 have q1:=S4 q1
 have q2:=S4 q2
 refine VRs.cons_e r λ_ _ ra rr=>?_
 refine VRs.nil_e rr (VR.int_e ra λ_=>?_)
 refine PySem.P.chr_of_int (by simp only[Xk,decide_eq_false_iff_not];lia) ?_
 rw[gz] at h4
 exact cQ I _ (.str [_] _) h4
theorem mF:∀{q:Sd Int}{vs:Sd Sn},VRs σ h (q.map V.int) vs->∃xs:Sd (Int×Tok),vs.toArray=intItems xs.toArray/\xs.map (·.1)=q
 | [],_,r=>by refine VRs.nil_e r ?_;exact⟨[],by simp[intItems],rfl⟩
 | x::q,_,r=>by
  refine VRs.cons_e r λ_ _ a b=>?_
  refine VR.int_e a λt=>?_
  refine aE (mF b) λxs e e'=>?_
  refine⟨(x,t)::xs,?_,by simp[e']⟩
  unfold intItems at e ⊢
  simp only[Sd.map_toArray,Tt,aaJ] at e ⊢
  rw[e]
theorem wZ:∀(q:Sd Int)(a:Int),ze q a=a+q.sum
 | [],a=>by show a=_;simp
 | x::q,a=>by
  have:ze (x::q) a=ze q (gB a x):=rfl
  rw[this,wZ q,eS,Vr];lia
theorem rp (xs:Sd (Int×Tok)):∀n,n<=xs.length->Xa (Vi xs.toArray) n=((xs.map (·.1)).take n).sum:=by
 intro n hn
 induction n with
 | zero=>rfl
 | succ n ih=>
  have e:Xa (Vi xs.toArray) (n+1)=Xa (Vi xs.toArray) n+Vi xs.toArray n:=rfl
  rw[e,ih (by lia),WQ]
  have:(xs.map (·.1))[n]? = Sa (xs[n]'(by lia)).1:=by simp[Sw (show n<xs.length by lia)]
  rw[this]
  have e2:Vi xs.toArray n=(xs[n]'(by lia)).1:=by
   unfold Vi
   simp[Sw (show n<xs.length by lia)]
  rw[e2]
  simp
theorem y6:SF C d (.builtin "sum") zD:=by
 intro A σ st s k l us R I r h
 refine d9 h λv e81 h1=>?_;clear h;subst e81
 refine bO h1 λn e81 h2=>?_;clear h1;subst e81
 refine bC h2 λl hl h3=>?_;clear h2
 refine j7 h3 λq e81 h4=>?_;clear h3;subst e81
 refine VRs.cons_e r λ_ _ ra rr=>?_
 refine VRs.nil_e rr ?_
 refine VR.ref_e ra λa e=>?_
 obtain⟨vs,m,g,rv⟩:=I.list hl e
 refine aE (mF rv) λxs e1 e2=>?_
 refine sum_intListG (xs:=xs.toArray) R.handled ⟨_,g,rfl,m,by show Data.seq vs.toArray m=_;rw[e1]⟩ λh' tk t' hk=>?_
 have S:Step [] σ s σ { s with heap:=h',toks:=tk }:=Step.all hk
 have es:Xa (Vi xs.toArray) xs.toArray.size=ze q 0:=by
  rw[Su,rp xs _ (SQ _),wZ,e2,UL (by rw[←e2];simp)];lia
 rw[es]
 exact⟨σ,_,st,S,I.grow hk,.int _ _,h4⟩
theorem Ao:SF C d (.type "tuple") Do:=by
 intro A σ st s k l us R I r h
 refine d9 h λv e81 h1=>?_;clear h;subst e81
 refine bO h1 λn e81 h2=>?_;clear h1;subst e81
 refine bC h2 λl hl h3=>?_;clear h2
 refine VRs.cons_e r λ_ _ ra rr=>?_
 refine VRs.nil_e rr ?_
 refine VR.ref_e ra λa e=>?_
 obtain⟨vs,m,g,rv⟩:=I.list hl e
 refine aM h3 λhlen h4=>?_;clear h3
 rw[aC] at hlen
 refine call_tuple_list (items:=vs.toArray) ⟨_,g,rfl,_,rfl⟩ (λh' hk=>?_) (by rw[Su,rv.length];exact dn hlen)
 have S:Step [] σ s σ { s with heap:=h' }:=Step.all (t:=s.toks) hk
 have I':Inv C σ st { s with heap:=h' }:=I.grow hk
 exact(wT (s:={ s with heap:=h' }) (t:=s.toks) I' (S.vrs .nil rv) h4).trans S
end
section
variable {C:Cfg}{fx:Fx}{d:Nat}{A:Around}{env:Env}{σ σ1:List Addr}{fm:Fm}{st:St}{s aaQ:Shared}
def SM (C:Cfg)(d:Nat)(id:String)(m:xO):Prop:=
 ∀(A:Ua) (σ:Sd Ss) (st:St) (s:Sr) (k:V->St->Si) (x:V) (u:Sn) (l:Sd V) (us:Sd Sn),Rm d A->Inv C σ st s->VR σ s.heap x u->VRs σ s.heap l us->m x l st k=Se->gf C A (call (.builtin id) (u::us)) σ s k
theorem ky (Ok:C.Ok) {id:String}{m:xO}{o:Expr} {name:Str} (hm:dZ o name apos es pos)(slot:Slot "str" name id)(ty:Xq (.builtin id)=pure (.type "method_descriptor"))(hf:SM C d' id m)(hd:d'<=d)
  (hp:aL es) (ho:SE C fx d o co) (hs:SA C fx d es cs):SE C fx d (.Call (.Attribute o name apos) es [] pos) (sM m co cs):=by
 intro A env σ fm st s k R E I F h
 obtain⟨pl,he⟩:=hm
 refine wE (he env) ?_
 refine oX (ay (ho A env σ fm st s _ R E I F h) λσ1 x st1 u aaQ aaU aaW aaZ aaS=>oX (Tz (oX (SN ?_))))
 refine dh aaS λl e81 h2=>?_;clear aaS;subst e81
 refine VR.str_e aaZ λt=>?_
 refine getMethod_builtin (V0 _ _ t) PySem.F.plainAttrs_str slot ty (λ_ e=>nomatch e) ?_
 refine bL (k:=λvs st=>m (.str l) vs st k) Ok ck hp hs R E aaW (aaU.fr0 F) h2 λσ' q st' us s' S' I' r' _ h'=>?_
 exact Sm (hf A σ' st' s' k (.str l) _ q us (R.le hd) I' (.str l t) r' h') (λ_ _ o=>o.trans (aaU.trans S')) λ_ _ e=>e
theorem su:∀c<128,fR c=Xr c:=by decide +kernel
theorem rX:SM C d "str.isspace" nu:=by
 intro A σ st s k x u l us R I rx r h
 refine dh h λl' e81 h1=>?_;clear h;subst e81
 refine t9 h1 λe81 h2=>?_;clear h1;subst e81
 refine aM h2 λha h3=>?_;clear h2
 refine VR.str_e rx λt=>?_
 refine VRs.nil_e r ?_
 refine call_gives Wh (V0 _ _ t) PySem.F.entry_str_isspace (PySem.F.args_str_isspace_1 _) (gives_str_isspace _ t) ?_
 have e:((decide ((⟨l'.toArray⟩:Str).length>0)) && (⟨l'.toArray⟩:Str).cps.all Xr)=aD (iN l') (gu fR l') ll:=by
  rw[pE] at ha ⊢
  have q:l'.all fR=l'.all Xr:=by
   rw[Si.eq_iff_iff,Ta,Ta]
   constructor
   ·intro z c m;rw[←su c (by have:=Sl (Ta.mp ha c m);lia)];exact z c m
   ·intro z c m;rw[su c (by have:=Sl (Ta.mp ha c m);lia)];exact z c m
  rw[q]
  show(decide (l'.toArray.size>0) && l'.toArray.all Xr)=_
  rw[Yp,Su]
  induction l' with
  | nil=>rfl
  | cons c r=>rw[Tq (by simp),We];rfl
 show Out C [] σ s k (.bool _) s
 rw[e]
 exact cQ I s.toks (.bool _) h3
theorem uq:∀{q:Sd V}{xs:Sd (Sd Nat)}{vs:Sd Sn},VRs σ h q vs->q=xs.map V.str->∃l:Sd (Str×Tok),vs=Yy l/\l.map (·.1)=xs.map λx=>(⟨x.toArray⟩:Str)
 | [],xs,vs,r,e=>by
  refine VRs.nil_e r ?_
  induction xs with
  | nil=>exact⟨[],rfl,rfl⟩
  | cons=>cases e
 | v::q,xs,vs,r,e=>by
  induction xs with
  | nil=>cases e
  | cons x xs=>
   simp only[Tt,Xs] at e
   obtain⟨rfl,e⟩:=e
   refine VRs.cons_e r λ_ _ a b=>?_
   refine VR.str_e a λt=>?_
   obtain⟨l,rfl,e2⟩:=uq b e
   exact⟨(⟨x.toArray⟩,t)::l,rfl,by simp[e2]⟩
theorem lx (sep:Sd Nat):∀xs:Sd (Sd Nat),Str.join ⟨sep.toArray⟩ (xs.map λx=>(⟨x.toArray⟩:Str))=⟨(bP sep xs).toArray⟩
 | []=>rfl
 | [x]=>rfl
 | x::y::r=>by
  have ih:=lx sep (y::r)
  have e:bP sep (x::y::r)=bp x (bp sep (bP sep (y::r))):=rfl
  rw[e,bf,bf]
  have e2:Str.join ⟨sep.toArray⟩ ((x::y::r).map λx=>(⟨x.toArray⟩:Str))=⟨x.toArray⟩++⟨sep.toArray⟩++Str.join ⟨sep.toArray⟩ ((y::r).map λx=>(⟨x.toArray⟩:Str)):=rfl
  rw[e2,ih]
  show(⟨x.toArray++sep.toArray++(bP sep (y::r)).toArray⟩:Str)=_
  simp
theorem yl {k:Sd (Sd Nat)->Si}(h:dY dB l k=Se):∃xs,l=xs.map V.str/\k xs=Se:=by
 induction l generalizing k with
 | nil=>exact⟨[],rfl,h⟩
 | cons v l ih=>
  have h:dB v (λy=>dY dB l λq=>k (y::q))=Se:=h
  refine dh h λx e81 h1=>?_;clear h;subst e81
  refine aE (ih h1) λxs e81 h2=>?_;subst e81
  exact⟨x::xs,rfl,h2⟩
theorem ia (sep:Sd Nat):∀xs:Sd (Sd Nat),(xs.map λx=>x.length+sep.length).sum<=(bP sep xs).length+sep.length
 | []=>Td _
 | [x]=>by show x.length+sep.length+0<=x.length+_;lia
 | x::y::r=>by
  have ih:=ia sep (y::r)
  have e:bP sep (x::y::r)=bp x (bp sep (bP sep (y::r))):=rfl
  rw[e,bf,bf,Tt,Vr]
  simp only[SU]
  lia
theorem jS (sep:Nat):∀(xs:Sd Str)(a:Nat),xs.foldl (λn x=>n+x.length+sep) a=a+(xs.map λx=>x.length+sep).sum
 | [],a=>by rfl
 | x::xs,a=>by rw[Sd.foldl_cons,jS sep xs,Tt,Vr];lia
theorem qx:SM C d "str.join" oG:=by
 intro A σ st s k x u l us R I rx r h
 refine dh h λsep e81 h1=>?_;clear h;subst e81
 refine d9 h1 λv e81 h2=>?_;clear h1;subst e81
 refine bO h2 λn e81 h3=>?_;clear h2;subst e81
 refine bC h3 λq hq h4=>?_;clear h3
 refine aE (yl h4) λxs e81 h5=>?_;subst e81
 refine aM h5 λhs h6=>?_;clear h5
 refine aM h6 λhj h7=>?_;clear h6
 have hs:=bT hs
 have hj:=bT hj
 rw[aC] at hs hj
 refine VR.str_e rx λt=>?_
 refine VRs.cons_e r λ_ _ ra rr=>?_
 refine VRs.nil_e rr ?_
 refine VR.ref_e ra λa e=>?_
 obtain⟨vs,m,g,rv⟩:=I.list hq e
 refine aE (uq rv rfl) λp e81 e2=>?_;subst e81
 have hok:JoinOk ⟨sep.toArray⟩ (xs.map λx=>(⟨x.toArray⟩:Str))=Se:=by
  show(!decide ((xs.map λx=>(⟨x.toArray⟩:Str)).toArray.foldl (λn x=>n+x.length+(⟨sep.toArray⟩:Str).length) 0>UW))=Se
  rw[ZI,jS _ _ 0]
  ·have e3:((xs.map λx=>(⟨x.toArray⟩:Str)).map λx=>x.length+(⟨sep.toArray⟩:Str).length)=xs.map λx=>x.length+sep.length:=by
    rw[T9];apply U5;intro x _;show x.toArray.size+sep.toArray.size=_;simp
   rw[e3]
   have:=ia sep xs
   have:(xs.map λx=>x.length+sep.length).sum<=UW:=by show _<=2 ^ 24;lia
   simpa using this
  ·simp
 refine SC.join (l:=p) ⟨_,g,rfl,_,rfl⟩ e2 hok λt' tk=>?_
 have e4:Txt.join ⟨sep.toArray⟩ (xs.map λx=>(⟨x.toArray⟩:Str))=⟨(bP sep xs).toArray⟩:=by
  rw[←lx];exact YX _ _
 rw[e4]
 exact cQ I tk (.str _ t') h7
theorem kP (c x:Nat)(l:Sd Nat):bQ c (x::l)=if x=c then []::bQ c l else (match bQ c l with | []=>[[x]] | w::ws=>(x::w)::ws):=by
 have e:bQ c (x::l)=@Te (λ_=>Sd (Sd Nat)) (@SZ (Sd Nat) (λ_=>Sd (Sd Nat)) [[x]] (λw ws _=>(x::w)::ws) (bQ c l)) ([]::bQ c l) (SD x c):=rfl
 rw[e]
 by_cases q:x=c
 ·subst q;rw[Vv,SR rfl]
 ·have b:SD x c=ll:=by cases z:SD x c with | false=>rfl | true=>exact S8 (SK z) q
  rw[b,Sz q]
  cases bQ c l <;> rfl
theorem hW (c:Nat):∀(w r:Sd Nat)(u:Sd Nat)(us:Sd (Sd Nat)),c∉w->bQ c r=u::us->bQ c (w++r)=(w++u)::us
 | [],r,u,us,_,h=>h
 | x::w,r,u,us,n,h=>by
  simp only[Sv,not_or] at n
  rw[V8,kP,Sz (Ne.symm n.1),hW c w r u us n.2 h]
  rfl
theorem kN (c:Nat):∀(ws:Sd (Sd Nat)),ws≠[]->(∀w∈ws,c∉w)->bQ c (bP [c] ws)=ws
 | [],h,_=>S8 rfl h
 | [w],_,h=>by
  have e:bP [c] [w]=w++[]:=by rw[TR];rfl
  rw[e,hW c w [] [] [] (h w (mI 0 rfl)) rfl,TR]
 | w::u::ws,_,h=>by
  have ih:=kN c (u::ws) (by simp) (λx m=>h x (Zk _ m))
  have e:bP [c] (w::u::ws)=w++(c::bP [c] (u::ws)):=by
   have:bP [c] (w::u::ws)=bp w (bp [c] (bP [c] (u::ws))):=rfl
   rw[this,bf,bf];rfl
  rw[e,hW c w _ [] (u::ws) (h w (mI 0 rfl)) (by rw[kP,SR rfl,ih]),TR]
theorem y7 (l:Sd Nat)(c:Nat):Txt.split ⟨l.toArray⟩ ⟨#[c]⟩=(bQ c l).map λx=>(⟨x.toArray⟩:Str):=by
 have h1:=StrLaws.join_split ⟨l.toArray⟩ ⟨#[c]⟩
 have h2:=StrLaws.split_free ⟨l.toArray⟩ c
 have h3:=split_pos ⟨l.toArray⟩ ⟨#[c]⟩
 generalize Txt.split ⟨l.toArray⟩ ⟨#[c]⟩=T at h1 h2 h3
 have e:T=(T.map λx=>x.cps.toList).map λx=>(⟨x.toArray⟩:Str):=by
  rw[T9]
  conv=>lhs;rw[←Sd.map_id T]
  apply U5
  intro x _
  rfl
 generalize T.map (λx=>x.cps.toList)=ws at e
 subst e
 have h4:bP [c] ws=l:=by
  have:=h1
  rw[show(⟨#[c]⟩:Str)=⟨[c].toArray⟩ from rfl,lx] at this
  have:=SO (λx:Str=>x.cps.toList) this
  simpa using this
 rw[←h4,kN c ws (λq=>by subst q;simp at h3) (λw m=>by simpa using h2 ⟨w.toArray⟩ (UM m))]
theorem Eo {t u:Tok} (hy:(y.length == 0)=ll)
  (hq:∀l tk,l.map (·.1)=Txt.split x y->Q (.ref s.heap.objs.size) { s with heap:=s.heap.push (cB (Yy l) 0),toks:=tk })
  (hsz:x.length<=UW) (hsz2:(Wi x (Ww x y 0 x.length (x.length+1)) y.length).length<=UW) :
  So C.M A (call (.builtin "str.split") [.str x t,.str y u]) Q E s:=by
 cases h1:(decide (x.length<y.length) || decide (ZJ x<ZJ y))
 ·cases hf:(Ww x y 0 x.length (x.length+1)).isEmpty
  ·refine Wq VF (V0 _ _ _) Wx (Wj _ _) (meets_str_split_sep x y t u h1 hy hf hsz hsz2) ?_
   show wants Q E _ { s with toks:=_,heap:=s.heap.push { cls:=.type "list",data:=.seq (strsFrom s.toks (Wi x (Ww x y 0 x.length (x.length+1)) y.length)).toArray } }
   rw[strsFrom_eq]
   exact hq (numbered s.toks _) _ ((numbered_texts _ _).trans ((Sz (ne_true_of_eq_false h1)).trans (Sz (ne_true_of_eq_false hf))).symm)
  ·exact Wq VF (V0 _ _ _) Wx (Wj _ _) (meets_str_split_not_found x y t u h1 hy hf)
    (hq [(x,t)] s.toks ((Sz (ne_true_of_eq_false h1)).trans (SR hf)).symm)
 ·exact Wq VF (V0 _ _ _) Wx (Wj _ _) (meets_str_split_cannot_occur x y t u h1)
   (hq [(x,t)] s.toks (SR h1).symm)
theorem tM:∀{l:Sd (Str×Tok)}{xs:Sd (Sd Nat)},l.map (·.1)=xs.map (λx=>(⟨x.toArray⟩:Str))->VRs σ h (xs.map V.str) (Yy l)
 | [],[],_=>.nil
 | [],_::_,e=>by cases e
 | _::_,[],e=>by cases e
 | (y,t)::l,x::xs,e=>by
  simp only[Tt,Xs] at e
  obtain⟨rfl,e⟩:=e
  exact .cons (.str x t) (tM e)
theorem Bc:SM C d "str.split" vc:=by
 intro A σ st s k x u l us R I rx r h
 refine dh h λq e81 h1=>?_;clear h;subst e81
 refine d9 h1 λv e81 h2=>?_;clear h1;subst e81
 refine dh h2 λcs e81 h3=>?_;clear h2;subst e81
 refine d9 h3 λc e81 h4=>?_;clear h3;subst e81
 refine aM h4 λhq h5=>?_;clear h4
 have hq:=bT hq
 rw[aC] at hq
 rw[eq] at h5
 refine VR.str_e rx λt=>?_
 refine VRs.cons_e r λ_ _ ra rr=>?_
 refine VRs.nil_e rr ?_
 refine VR.str_e ra λt'=>?_
 have hlen:(⟨q.toArray⟩:Str).length=q.length:=by show q.toArray.size=_;simp
 refine Eo (y:=⟨[c].toArray⟩) rfl (λl tk e=>?_) (by rw[hlen];show _<=2 ^ 24;lia) ?_
 ·have e:l.map (·.1)=(bQ c q).map λx=>(⟨x.toArray⟩:Str):=by rw[e];exact y7 q c
  exact gk (n:=0) (t:=tk) I (tM e) h5
 ·unfold Wi
  simp only[S0,Sd.length_zip,Tc,SU,VI]
  have:=StrLaws.occ_length_le ⟨q.toArray⟩ ⟨[c].toArray⟩ 0 (⟨q.toArray⟩:Str).length ((⟨q.toArray⟩:Str).length+1)
  rw[hlen] at this ⊢
  show _<=2 ^ 24
  lia
end
section
variable {C:Cfg}{fx:Fx}{d:Nat}{A:Around}{env:Env}{σ σ1:List Addr}{fm:Fm}{st:St}{s aaQ:Shared}
theorem ni {l:Ss}{o:Obj} {x:Sn} (ho:s.heap.get? l=Sa o)(hc:o.cls=.type "list")(hd:o.data=.seq items n)(hz:items.size<=UW)
  (hQ:Q .none { s with heap:=s.heap.update l (S5 (·.push x)) }):So C.M A (call (.builtin "list.append") [.ref l,x]) Q E s:=by
 have hl:s.heap.IsList l items:=⟨o,ho,hc,n,hd⟩
 refine Uc Uz hl.typeIs entry_list_append ?_ (args_list_append _ _)
 show So _ _ (Zy l (·.push x) >>= λ_=>ret .none) _ _ s
 exact oX (U2 ho hd (Sf ⟨.none,rfl,hQ⟩) hz (by simp;omega))
theorem pT:Zw "list.append"=Sa ("list","append"):=by decide +kernel
theorem sX:U9 "list.append"=Sa .method:=by decide +kernel
theorem vi (J:cJ C){x:Ss} {v:Sn} (X:C.K.In s.heap)(I:Uo s.heap x ox 244 od)(hd:ox.data=.seq items n)(hz:items.size<=UW)
  (hQ:Q .none { s with heap:=s.heap.update x (S5 (·.push v)) }):So C.M A (call (.builtin "list.append") [.ref x,v]) Q E s:=by
 have T:Looks C.M s.heap (UJ (.ref x) (.type "list")) Se:=I.type.andThen (Vn X J.subL)
 refine UI (UX Uz.plain entry_list_append (jb (.inr sX) pT T (args_list_append _ _) ?_))
 show So _ _ (Zy x (·.push v) >>= λ_=>ret .none) _ _ s
 exact oX (U2 I.at_ hd (Sf hQ) hz (by simp;omega))
theorem iV (Ok:C.Ok)(J:cJ C):SM C d "list.append" jQ:=by
 intro A σ st s k x u l us R I rx r h
 refine bO h λn e81 h1=>?_;clear h;subst e81
 refine d9 h1 λv e81 h2=>?_;clear h1;subst e81
 refine St.get_e h2 λo ho h3=>?_;clear h2
 refine VR.ref_e rx λa e=>?_
 refine VRs.cons_e r λ_ _ rv rr=>?_
 refine VRs.nil_e rr ?_
 have ma:a∈σ:=Sp e
 induction o with
 | list q=>
  refine aM h3 λhl h4=>?_
  rw[aC] at hl
  rw[bf] at h4
  refine St.set_e h4 λst' e1 e2 e81 h5=>?_;refine dH e81 λe3 _=>?_
  obtain⟨vs,m,g,rq⟩:=I.list ho e
  refine ni g rfl rfl (by rw[Su,rq.length];exact dn hl) ?_
  refine⟨σ,.none,st',Step.wrote (t:=s.toks) ma,I.putList (t:=s.toks) ho e g e1 e2 e3 ?_,.none,h5⟩
  simpa using rq.append (.cons rv .nil)
 | lsub c d fs q=>
  refine aM h3 λhl h4=>?_
  rw[aC] at hl
  rw[bf] at h4
  refine St.set_e h4 λst' e1 e2 e81 h5=>?_;clear h4;refine dH e81 λe3 _=>?_
  obtain⟨b,hb',ro⟩:=I.at_ n _ ho
  have:b=a:=Sa.inj (hb'.symm.trans e)
  subst this
  obtain⟨hc,dx,es,m,vs,m',hdx,hox,hD,er,hvs⟩:=ro
  subst hc
  have IA:Uo s.heap b _ 244 (Sa (VM es m)):=⟨hox,rfl,rfl,hD⟩
  refine vi J (I.X Ok) IA rfl (by rw[Su,hvs.length];exact dn hl) ?_
  refine⟨σ,.none,st',Step.wrote (t:=s.toks) ma,I.putSub (t:=s.toks) ho e hox e1 e2 e3 ?_,.none,h5⟩
  simpa using hvs.append (.cons rv .nil)
 | cell=>exact ff h3
 | inst=>exact ff h3
 | hid=>exact ff h3
theorem g7 (Ok:C.Ok)(J:cJ C) {id:String}{m:xO}{o:Expr} {name:Str} (hm:dZ o name apos es pos)(slot:Slot "list" name id)(ty:Xq (.builtin id)=pure (.type "method_descriptor"))
  (hfind:Um C.K (.ref 244) name=Sa (Sa (.builtin id))) (hname:∀x<12,aW x≠name) (hf:SM C d' id m) (hd:d'<=d) (hp:aL es) (ho:SE C fx d o co) (hs:SA C fx d es cs):SE C fx d (.Call (.Attribute o name apos) es [] pos) (lQ m co cs):=by
 intro A env σ fm st s k R E I F h
 obtain⟨pl,he⟩:=hm
 refine wE (he env) ?_
 refine oX (ay (ho A env σ fm st s _ R E I F h) λσ1 x st1 u aaQ aaU aaW aaZ aaS=>oX (Tz (oX (SN ?_))))
 refine bO aaS λn e81 h2=>?_;clear aaS;subst e81
 refine St.get_e h2 λob hob h3=>?_;clear h2
 refine VR.ref_e aaZ λa e=>?_
 have fin:∀h5:cs fm st1 (λvs st=>m (.ref n) vs st k)=Se,So C.M A (Xm pos (.builtin id) [.ref a] (W4 pos (TY es env)) (backToKw pos (Zg [] env))) (Out C [] σ s k) cL aaQ:=λh5=>by
  refine bL (k:=λvs st=>m (.ref n) vs st k) Ok ck hp hs R E aaW (aaU.fr0 F) h5 λσ' q st' us s' S' I' r' _ h'=>?_
  exact Sm (hf A σ' st' s' k (.ref n) (.ref a) q us (R.le hd) I' (.ref (S'.idx e)) r' h') (λ_ _ o=>o.trans (aaU.trans S')) λ_ _ e=>e
 rcases lg h3 with ⟨l,rfl,h4⟩ | ⟨c,d,fs,l,rfl,h4⟩
 ·obtain⟨vs,m',g,q⟩:=aaW.list hob e
  exact getMethod_builtin (T:="list") ⟨_,g,rfl⟩ PySem.F.plainAttrs_list slot ty (λb eb=>by cases eb;exact⟨_,g,rfl⟩) (fin h4)
 ·have hc:c=2:=by obtain⟨b,_,r⟩:=aaW.at_ n _ hob;exact r.1
  exact ur (c:=c) (p:=λfs=>O.lsub c d fs l) Ok J aaW hob e (.inr ⟨d,l,hc,rfl,rfl⟩) (by rw[hc];exact hfind) (Yj ty) (by decide +kernel) hname (fin h4)
end
section
variable {C:Cfg}{fx:Fx}{d:Nat}{A:Around}{env:Env}{σ σ1:List Addr}{fm:Fm}{st:St}{s aaQ:Shared}
theorem rf (i:Int):∀l:Sd Int,i∈l->qP i l=l.idxOf i
 | [],h=>by cases h
 | j::l,h=>by
  have e:qP i (j::l)=@Te (λ_=>Nat) (Tv (qP i l)) 0 (jf i j):=rfl
  rw[e,dm,Sd.idxOf_cons]
  by_cases q:i=j
  ·subst q;simp
  ·rw[Tp q,show(j == i)=ll from beq_eq_false_iff_ne.mpr (Ne.symm q)]
   show Tv (qP i l)=_
   rw[rf i l ((Sv.mp h).resolve_left q)]
   rfl
theorem Bp:SM C d "list.index" vD:=by
 intro A σ st s k x u l us R I rx r h
 refine bO h λn e81 h1=>?_;clear h;subst e81
 refine d9 h1 λv e81 h2=>?_;clear h1;subst e81
 refine aO h2 λi e81 h3=>?_;clear h2;subst e81
 refine bC h3 λq hq h4=>?_;clear h3
 refine j7 h4 λxs e81 h5=>?_;clear h4;subst e81
 refine aM h5 λhl h6=>?_;clear h5
 refine aM h6 λhin h7=>?_;clear h6
 have hl:=bT hl
 rw[aC,S0] at hl
 rw[tD] at hin
 have hmem:i∈xs:=by
  refine aE (aal.mp hin) λj m e=>?_
  rw[←show j=i by simpa using e];exact m
 rw[rf i xs hmem] at h7
 refine VR.ref_e rx λa e=>?_
 refine VRs.cons_e r λ_ _ ra rr=>?_
 refine VRs.nil_e rr ?_
 refine VR.int_e ra λt=>?_
 obtain⟨vs,m,g,rv⟩:=I.list hq e
 have hi:=eF rv
 have hlen:=hi.length
 have hj:xs.idxOf i<xs.length:=Sd.idxOf_lt_length_iff.mpr hmem
 refine Wq Yz ⟨_,g,rfl⟩ PySem.F.entry_list_index (PySem.F.args_list_index_2 _ _)
  (PySem.SeqAt.list_indexAt a vs.toArray m none #[] (.int i t) (isInt i) (xs.idxOf i) (by simpa[hlen] using hj) (by lia) ?_ ?_) ⟨g,λy hy=>(eq_isInt i t hi y (by simpa using hy)).at _ _,?_⟩
 ·show isInt i vs[xs.idxOf i]=Se
  rw[isInt_at i hi _ (by omega) hj]
  simpa using Sd.getElem_idxOf hj
 ·intro j hjs hlt
  show isInt i vs[j]=ll
  rw[isInt_at i hi j (hjs) (by lia)]
  exact ne_of_lt_idxOf hlt _
 ·exact cQ I (s.toks+1) (.int _ s.toks) h7
theorem Cs {vs:Sd α}{l:Sd β}(h:vs.length=l.length):(!vs.toArray.isEmpty)=iN l:=by
 rcases vs with _ | ⟨a,vs⟩ <;> rcases l with _ | ⟨b,l⟩ <;> first | rfl | exact Nat.noConfusion h
theorem lY {k:Si->Si}(I:Inv C σ st s)(e:σ[n]? = Sa a)(hl:st.look n=Sa (.list l))(hlen:aB (aK l)=Se)(h2:k (iN l)=Se):So C.M A (truthy (.ref a)) (λb s'=>∃t,k b=Se/\s'={ s with toks:=t }) cL s:=by
 have hlen:=bT hlen
 rw[aC] at hlen
 obtain⟨vs,m,g,q⟩:=I.list hl e
 refine wpAny_truthy_list (items:=vs.toArray) ⟨_,g,rfl,_,rfl⟩ (by rw[Su,q.length];lia) ?_
 exact⟨_,(SO k (Cs q.length)).trans h2,rfl⟩
theorem mu {k:Si->Si}(I:Inv C σ st s)(r:VR σ s.heap v u)(h:iT v st k=Se):So C.M A (truthy u) (λb s'=>∃t,k b=Se/\s'={ s with toks:=t }) cL s:=by
 induction r using VR.cases_e with
 | none=>exact truthy_none ⟨s.toks,h,rfl⟩
 | bool b=>exact UH ⟨s.toks,h,rfl⟩
 | int i t=>
  refine PySem.P.truthy_int ⟨s.toks,?_,rfl⟩
  have h:k (ee (jf i 0))=Se:=h
  rw[dm,←iA,fI] at h
  exact h
 | str l t=>
  refine aM h λhl h1=>?_
  have hl:=bT hl
  rw[aC] at hl
  have e:(⟨l.toArray⟩:Str).length=l.length:=by show l.toArray.size=_;simp
  refine PySem.P.truthy_str (by rw[e];lia) ⟨s.toks+1+1,?_,rfl⟩
  rw[e]
  induction l with
  | nil=>exact h1
  | cons=>exact h1
 | tup=>exact ff h
 | @ref n a e=>
  refine bC (n:=n) h λl hl h1=>?_
  refine aM h1 λhlen h2=>?_;clear h1
  exact lY I e hl hlen h2
def TSub (C:Cfg)(d:Nat):Prop:=∀(A:Ua)(σ:Sd Ss)(st:St)(s:Sr)(k:Si->St->Si)(n:Nat)(a:Ss)(c' d':Nat)(fs:Sd (Nat×V))(l:Sd V),
 Rm d A->Inv C σ st s->σ[n]? = Sa a->st.look n=Sa (.lsub c' d' fs l)->fh [.ref n] st (λv st=>aG v λi=>k (ee (jf i 0)) st)=Se->So C.M A (truthy (.ref a)) (OutB C σ s k) cL s
theorem sA (hsub:TSub C d)(R:Rm d A) {k:Si->St->Si}(I:Inv C σ st s)(r:VR σ s.heap v u)(h:eM v st k=Se):So C.M A (truthy u) (OutB C σ s k) cL s:=by
 have fin:iT v st (λb=>k b st)=Se->So C.M A (truthy u) (OutB C σ s k) cL s:=λz=>
  Sm (mu I r z) (λb s' ⟨t,q,e⟩=>by subst e;exact Bo I t q) λ_ _ e=>e
 cases v with
 | none=>exact fin h
 | bool=>exact fin h
 | int=>exact fin h
 | str=>exact fin h
 | tup=>exact ff h
 | ref n=>
  refine St.get_e (i:=n) h λo ho h1=>?_
  induction o with
  | list l=>
   refine aM h1 λhlen h2=>?_
   exact VR.ref_e r λa e=>Sm (lY (k:=λb=>k b st) I e ho hlen h2) (λb s' ⟨t,q,e⟩=>by subst e;exact Bo I t q) λ_ _ e=>e
  | lsub c d fs l=>
   exact VR.ref_e r λa e=>hsub A σ st s k n a c d fs l R I e ho h1
  | cell=>exact ff h1
  | inst=>exact ff h1
  | hid=>exact ff h1
theorem PQ (hsub:TSub C d){a:Expr} (he:∀env whole,U7 a env whole=(do let v ←whole;UC a.pos;holding [v] (truthy v)))(ha:SE C fx d a ca):ST C fx d a (tE ca):=by
 intro A env σ fm st s k R E I F h
 refine XQ (ay (ha A env σ fm st s _ R E I F h) λσ1 x st1 u aaQ aaU aaW aaZ aaS=>?_) (he _ _)
 exact Sm (sA hsub R aaW aaZ aaS) (λ_ _ o=>o.trans aaU) λ_ _ e=>e
theorem Ix (hsub:TSub C d){a:Expr} (ha:SE C fx d a ca):SE C fx d (.UnaryOp .Not a pos) (GH ca):=by
 intro A env σ fm st s k R E I F h
 refine wpAny_UnaryOp (ay (ha A env σ fm st s _ R E I F h) λσ1 x st1 u aaQ aaU aaW aaZ aaS=>PySem.not_value ?_)
 refine Sm (sA hsub R (k:=λb st=>k (.bool (ee b)) st) aaW aaZ aaS) ?_ λ_ _ e=>e
 rintro b s' ⟨σ',st',S',I',h'⟩
 have h':k (.bool (ee b)) st'=Se:=h'
 rw[fI] at h'
 exact⟨σ',.bool (!b),st',aaU.trans S',I',.bool _,h'⟩
theorem HG {a b:Expr} (ha:SE C fx d a ca)(hb:SE C fx d b cb):SE C fx d (.BoolOp .And [a,b] pos) (He ca cb):=by
 intro A env σ fm st s k R E I F h
 refine wpAny_And2 (ay (ha A env σ fm st s _ R E I F h) λσ1 x st1 u aaQ aaU aaW aaZ aaS=>?_)
 refine Sm (mu aaW aaZ aaS) ?_ λ_ _ e=>e
 rintro c s' ⟨t,q,rfl⟩
 induction c with
 | false=>exact(cQ aaW t aaZ q).trans aaU
 | true=>exact Sm (hb A env σ1 fm st1 _ k R E (aaW.toks t) ((aaU.fr0 F).toks t) q) (λ_ _ o=>o.trans (aaU.trans (Step.toks t))) λ_ _ e=>e
theorem NM {a b:Expr} (ha:SE C fx d a ca)(hb:SE C fx d b cb):SE C fx d (.BoolOp .Or [a,b] pos) (Qc ca cb):=by
 intro A env σ fm st s k R E I F h
 refine wpAny_Or2 (ay (ha A env σ fm st s _ R E I F h) λσ1 x st1 u aaQ aaU aaW aaZ aaS=>?_)
 refine Sm (mu aaW aaZ aaS) ?_ λ_ _ e=>e
 rintro c s' ⟨t,q,rfl⟩
 induction c with
 | true=>exact(cQ aaW t aaZ q).trans aaU
 | false=>exact Sm (hb A env σ1 fm st1 _ k R E (aaW.toks t) ((aaU.fr0 F).toks t) q) (λ_ _ o=>o.trans (aaU.trans (Step.toks t))) λ_ _ e=>e
end
section
variable {C:Cfg}{fx:Fx}{d:Nat}{A:Around}{env:Env}{σ σ1:List Addr}{fm:Fm}{st:St}{s aaQ:Shared}
theorem DY {K:Frag}{c:Ss}{od:Obj}{name:Str}{g:Sn}(hh:Zv K c=Se)(ha:Um K (.ref c) name=Sa (Sa f))(hg:aau K f "__get__"=Sa (Sa g))(ht:takesIn K f=Sa ll)(hc:copiedNames.contains name=ll)
  (hl:aaG name od=Sa none):findObj K c (Sa od) name=Sa (.bind g f):=by
 exact aE (any_some hh) λcd hcd hd=>iJ hcd (iJ ha (iJ hg (iJ ht (iJ ((SR hd).trans hl) (Sz (by rw[hc];exact Uw))))))
theorem qX {name:Str} (X:C.K.In s.heap)(J:cJ C)(I:Uo s.heap a ox 244 od)
  (hf:findObj C.K 244 od name=Sa (.bind (.builtin "function.__get__") (.ref fa))) (ht:YN C.K (.ref fa)=Sa (.type "function"))
  (h:Q (.ref s.heap.objs.size) { s with heap:=s.heap.push (YA (.ref fa) (.ref a)),toks:=s.toks+1 }):So C.M A (PySem.getAttr (.ref a) name expr) Q E s:=by
 obtain⟨hp,g,dr,t,os⟩:=s
 have L0:=I.type (M:=C.M)
 have L1:=TX (M:=C.M) X J.gaL
 have L2:=looks_find (M:=C.M) X I hf
 have L3:=TX (M:=C.M) X (J.gh 2 (bo rfl))
 unfold PySem.getAttr getAttrBy
 refine oX (YI (SN (oX (L0.at (oX (L1.at ?_))))))
 show So _ _ (VG _ _ _ _ _ _) _ _ _
 unfold VG
 refine oX (L3.at (oX (Vq ?_)))
 refine SN ?_
 unfold Ys
 rw[show(expr && onTheHeap (.builtin "list.__getattribute__"))=ll from WC expr]
 show So _ _ (WD _ _ _) _ _ _
 unfold WD
 refine G6 (UT.bind ..) ?_
 refine oX (Sf (UI ?_))
 have T:Looks C.M hp (UJ (.ref a) (.type "list")) Se:=L0.andThen (Vn X J.subL)
 refine UX UT.plain YW (@YJ C.M _ _ _ "list.__getattribute__" "list" "__getattribute__" (.ref a) [.str name t] [] _ (by decide +kernel) (by decide +kernel) T (WE _ _) ?_)
 unfold Builtin.«object.__getattribute__»
 dsimp only at L0 L2
 repeat lk
 refine wpAny_run (fn_get (s:=⟨hp,g,dr,t+1,os⟩) X ht ?_)
 exact Sf (Sf (show So _ _ (handedOut (.ref _)) _ _ _ from by rw[handedOut_of (v:=.ref _) rfl];exact Sf h))
def zb (o:Expr)(name:Str)(apos:Pos)(e:Expr)(p pos:Pos):Prop:=∀env,eval (.Call (.Attribute o name apos) [.Starred e p] [] pos) env=(do
   let ov ←eval o env
   UC apos.atName
   let (f,first) ←holding [ov] (do pure (←PySem.getAttr ov name Se,([]:Sd Sn)))
   Xm pos f first [(Se,(do let v ←eval e env;UC pos;pure v))] [])
theorem Ed (Ok:C.Ok)(J:cJ C) {o e:Expr} {name:Str} {f:FN}(hm:zb o name apos e p pos)(m:de C 2 name fa)(hget:aau C.K (.ref fa) "__get__"=Sa (Sa (.builtin "function.__get__")))(htk:takesIn C.K (.ref fa)=Sa ll)
  (hcp:copiedNames.contains name=ll) (hfn:fnIn C.K fa=Se) (hcode:eY C d' (.ref fa) f) (hd:d'<=d) (ho:SE C fx d o co) (he:SE C fx d e ce):SE C fx d (.Call (.Attribute o name apos) [.Starred e p] [] pos) (bz 2 f co (Al ce)):=by
 intro A env σ fm st s k R E I F h
 refine wE (hm env) ?_
 refine oX (ay (ho A env σ fm st s _ R E I F h) λσ1 x st1 u aaQ aaU aaW aaZ aaS=>oX (Tz (oX (SN ?_))))
 refine bO aaS λn e81 h2=>?_;clear aaS;subst e81
 refine St.get_e h2 λob hob h3=>?_;clear h2
 refine iD (wA aaW hob h3) λc' fs q h4 hk=>?_
 refine aM h4 λhc h5=>?_;clear h4
 have hc:=SK hc
 subst hc
 refine VR.ref_e aaZ λa ea=>?_
 refine qG (aaW.obj hob ea hk) λox dx es mm IA hd' hD er=>?_
 have hl:aaG name (VM es mm)=Sa none:=by
  have:=nV (n:=mm) er m.name
  unfold shadowIn at this
  refine aE (VE.mp this) λr e1 e2=>?_
  rw[e1]
  induction r with
  | none=>rfl
  | some=>cases e2
 refine oX (qX (aaW.X Ok) J IA (DY (J.cd 2 (by(exact VY 2))) m.find hget htk hcp hl) m.typ (Sf ?_))
 have P:Step [] σ1 aaQ σ1 { aaQ with heap:=aaQ.heap.push (YA (.ref fa) (.ref a)),toks:=aaQ.toks+1 }:=Step.pushed
 have IP:Inv C σ1 st1 { aaQ with heap:=aaQ.heap.push (YA (.ref fa) (.ref a)),toks:=aaQ.toks+1 }:=aaW.pushed
 have hq:(aaQ.heap.push (YA (.ref fa) (.ref a))).get? aaQ.heap.objs.size=Sa (YA (.ref fa) (.ref a)):=Heap.get?_push_size _ rfl
 have nq:aaQ.heap.objs.size∉σ1:=λm=>S8 (aaW.size m) (Tj _)
 refine ks_call (P:=MethP C.K aaQ.heap.objs.size fa (.ref a)) rfl (keeps_M hfn) (ks_lone ?_)
 refine ay (he A env σ1 fm st1 _ _ R E IP (P.fr0 (aaU.fr0 F)) h5) λσ2 y st2 v aaR aa1 aa4 aa5 h6=>?_
 refine lA h6 λl e81 h7=>?_;clear h6;subst e81
 refine aM h7 λhlen h8=>?_;clear h7
 rw[aC] at hlen
 have hq2:aaR.heap.get? aaQ.heap.objs.size=Sa (YA (.ref fa) (.ref a)):=aa1.keep _ _ nq (λh=>nomatch h) hq
 refine VR.tup_e aa5 λus b mb eb nb rb=>?_
 unfold StarOf notIterableAtAll
 refine oX (Vj (T:="tuple") ⟨_,eb,rfl⟩ PySem.F.slot_tuple_iter.lookup (Sf ⟨rfl,?_⟩))
 refine wpAny_collect_seq b (.inr rfl) eb rfl rfl (λh' hk'=>?_) (by rw[Su,rb.length];exact dn hlen)
 have aa9:Step [] σ2 aaR σ2 { aaR with heap:=h' }:=Step.all (t:=aaR.toks) hk'
 have aa7:Inv C σ2 st2 { aaR with heap:=h' }:=aa4.grow hk'
 refine⟨⟨hk' _ _ hq2,aa7.X Ok⟩,UI (method_call (hk' _ _ hq2) ?_)⟩
 refine VC (hcode A σ2 st2 { aaR with heap:=h' } k (.ref n::l) (.ref a::us) (R.le hd) aa7 (.cons (.ref (aa9.idx (aa1.idx ea))) (aa9.vrs .nil rb)) h8) ?_
 rintro r s' z
 rcases r with e | (v | _ | _ | _) <;> first | exact z.elim | exact z.trans (aaU.trans (P.trans (aa1.trans aa9)))
end
section
variable {C:Cfg}{fx:Fx}{d:Nat}{A:Around}{env:Env}{σ σ1:List Addr}{fm:Fm}{st:St}{s aaQ:Shared}
theorem pq:U9 "list.__setitem__"=Sa .slot:=by decide +kernel
theorem nC:Zw "list.__setitem__"=Sa ("list","__setitem__"):=by decide +kernel
theorem qt (J:cJ C)(JS:eP C){x sl:Ss}{ob:Obj} {new:Array Sn}{n':Nat}{vl:Sn}{lo:SP Int} {Q:Unit->Sr->Prop}(X:C.K.In s.heap)
  (I:Uo s.heap x ox 244 od) (hd:ox.data=.seq items n) (hs:s.heap.IsSliceOf sl vl .none .none) (pl:aaH vl lo) (hb:s.heap.get? b=Sa ob) (hbc:ob.cls=.type "list") (hbd:ob.data=.seq new n')
  (hz:items.size<=4095) (hz':new.size<=4095)
  (h:Q () { s with heap:=s.heap.update x (S5 λxs=>xs.extract 0 (lo.elim 0 (Vx items.size))++new++xs.extract (max ((lo.elim 0 (Vx items.size):Nat):Int) (items.size:Int)).toNat xs.size) }) :
  So C.M A (Zx (.ref x) (.ref sl) (.ref b)) Q E s:=by
 refine fF (id hs) λos hos hcs hds=>?_
 have hTs:s.TypeIs (.ref sl) "slice":=⟨os,hos,hcs⟩
 have hTb:s.TypeIs (.ref b) "list":=⟨ob,hb,hbc⟩
 have ho:=I.at_
 have hsame:Builtin.List.listSameRef (.ref x) (.ref b)=ll:=by
  show(x == b)=ll
  refine beq_eq_false_iff_ne.mpr λq=>?_
  subst q
  rw[ho] at hb
  cases hb
  rw[I.cls] at hbc
  cases hbc
 unfold Zx
 refine SN (oX (pj J X I (oX ?_)))
 refine hZ J X I JS.setitem Yc entry_list_setitem (.inl pq) nC (args_list_setitem _ _ _) ?_
 show So _ _ (Ui (.ref sl) >>= _) _ _ s
 refine oX ?_
 unfold Ui
 refine oX (Vj hTs slice_no_index ?_)
 dsimp only[SP.isNone_none,if_true]
 refine Sf ?_
 show So _ _ (Xq (.ref sl) >>= _) _ _ s
 refine oX (YL hTs ?_)
 refine wN (by decide) ?_
 rw[listSliceParts_eq]
 have hstep:¬((rawPart none == Vy 0)=Se):=Vz
 refine oX (oX (TB hos hds (x:=.none) rfl (oX (V1 .none ?_))))
 rw[Sz hstep]
 refine oX (TB hos hds (x:=vl) rfl (oX (V1 pl ?_)))
 refine oX (TB hos hds (x:=.none) rfl (oX (V1 .none (Sf ?_))))
 rw[hsame]
 refine wN (by decide) ?_
 refine oX ?_
 unfold Builtin.List.listAllItems
 refine oX (YL hTb ?_)
 rw[SR (by decide)]
 have li:∀{y:Ss} {oy:Obj} {its:Array Sn} {ny:Nat} {A':Ua} {E':Sn->Sr->Prop} {Q':Array Sn->Sr->Prop},s.heap.get? y=Sa oy->oy.data=.seq its ny->Q' its s->So C.M A' (TS (.ref y)) Q' E' s:=λh1 h2 h3=>by
  unfold TS
  exact oX (T2 h1 h2 (Sf h3))
 refine li hb hbd ?_
 refine oX (li ho hd ?_)
 refine oX (TP (sliceIndices_raw lo none none items.size (by simp)) ?_)
 rw[sliceBounds_plain]
 dsimp only
 rw[SR (by decide)]
 refine oX (U1 ?_)
 rw[Sz (by
  show ¬(decide (items.size+new.size>UW)=Se)
  have:items.size+new.size<=UW:=by show _<=2 ^ 24;lia
  simpa using this)]
 refine oX ?_
 show So _ _ (Zy x _) _ _ _
 refine U2 ho hd ?_ (by show _<=2 ^ 24;lia) (by
  have sz:∀a b,(items.extract a b).size<=items.size:=λa b=>by rw[Array.size_extract];exact Sk (W7 _ _) (Nat.min_le_right _ _)
  rw[Z9,Z9]
  exact Sk (V3 (V3 (sz _ _) (SQ _)) (sz _ _)) (Sk (V3 (V3 hz hz') hz) (bo rfl)))
 refine oX (Vo ?_)
 exact Sf ⟨.none,rfl,Sf h⟩
theorem xB {lo:SP Int}{ns:Sd Sn}:((vs.toArray.extract 0 (lo.elim 0 (Vx vs.toArray.size))++ns.toArray++vs.toArray.extract (max ((lo.elim 0 (Vx vs.toArray.size):Nat):Int) (vs.toArray.size:Int)).toNat vs.toArray.size)).toList=vs.take (lo.elim 0 (Vx vs.length))++ns:=by
 have hle:lo.elim 0 (Vx vs.length)<=vs.length:=by
  induction lo with
  | none=>exact Td _
  | some i=>exact nW _ _
 have e:(max ((lo.elim 0 (Vx vs.toArray.size):Nat):Int) (vs.toArray.size:Int)).toNat=vs.length:=by
  rw[Su,Yv (Z6.mpr hle)];rfl
 rw[e]
 simp
theorem AF (Ok:C.Ok)(J:cJ C)(JS:eP C){a:Expr}{lo:SP Expr}{ca cl:CE}{p pos:Pos}(ha:SE C fx d a ca)(hl:NH C fx d lo cl):SG C fx d (.Subscript a (.Slice lo none none p) pos) (ED ca cl):=by
 intro A env σ fm st s k v u R E I F r h
 refine wE (arm_assign_Subscript ..) ?_
 refine oX (SN (ay (ha A env σ fm st s _ R E I F h) λσ1 x st1 o aaQ aaU aaW aaZ aaS=>oX (SN (wpAny_Slice ?_))))
 refine ay (hl A env σ1 fm st1 aaQ _ R E aaW (aaU.fr0 F) aaS) λσ2 y st2 w aaR aa1 aa4 aa5 aa2=>?_
 refine wE (Yi ..) ?_
 refine Sf (Sf (oX (Tz (oX (SN ?_)))))
 have P:Step [] σ2 aaR σ2 { aaR with heap:=aaR.heap.push { cls:=.type "slice",data:=.fields #[w,.none,.none] } }:=Step.pushed (t:=aaR.toks)
 have IP:Inv C σ2 st2 { aaR with heap:=aaR.heap.push { cls:=.type "slice",data:=.fields #[w,.none,.none] } }:=aa4.pushed (t:=aaR.toks)
 have S:=(aaU.trans aa1).trans P
 have FP:=P.fr0 (aa1.fr0 (aaU.fr0 F))
 have isl:=Heap.IsSliceOf.new aaR.heap w .none .none
 have rx:=P.vr .nil (aa1.vr .nil aaZ)
 have rv:=S.vr .nil r
 refine Classical.byContradiction λhn=>?_
 clear pos ha hl R E I F r h aaU aaW aaZ aaS aa1 aa4 P
 refine aE (jx aa2) λn e81 h3=>?_;subst e81
 refine aE (St.get_t h3) λob hob h4=>?_
 clear a ca cl σ1 st1 aaQ aa2 h3
 refine lT (wk h4) λc d' fs l e84 h5=>?_;subst e84
 clear h4
 refine aE (jx h5) λm e81 h6=>?_;subst e81
 refine aE (tw h6) λq hq h7=>?_
 refine dH (eH h7) λz1 h8=>?_
 refine dH (eH h8) λz2 h9=>?_
 have z1:=bT z1
 have z2:=bT z2
 rw[aC] at z1 z2
 clear h5 h6 h7 h8
 cases rx with
 | @ref _ b eb=>
  cases rv with
  | @ref _ b' eb'=>
   obtain⟨ns,mm,g,rq⟩:=IP.list hq eb'
   obtain⟨b2,hb2,ro⟩:=IP.at_ n _ hob
   have:b2=b:=Sa.inj (hb2.symm.trans eb)
   clear hq hb2
   subst this
   obtain⟨hc,dx,es,m2,vs,m',hdx,hox,hD,er,hvs⟩:=ro
   clear hdx er
   subst hc
   have IA:Uo ({ aaR with heap:=aaR.heap.push { cls:=.type "slice",data:=.fields #[w,.none,.none] } }:Sr).heap b2 _ 244 (Sa (VM es m2)):=⟨hox,rfl,rfl,hD⟩
   have mb:b2∈σ2:=Sp eb
   have go:∀(lo':SP Int),aaH w lo'->(st2.set n (.lsub 2 d' fs (l.take (lo'.elim 0 (Vx l.length))++q)) λst=>k fm st)=Se ->
     So C.M A (Zx (.ref b2) (.ref aaR.heap.objs.size) (.ref b')) (λ_ s'=>So C.M A (release [T5 aaR.heap.objs.size,.ref b',.ref b2] []) (OutG C fx env σ s k) cL s') cL { aaR with heap:=aaR.heap.push { cls:=.type "slice",data:=.fields #[w,.none,.none] } }:=λlo' pl hk=>by
    refine fD (St.set_t hk) λst' e1 e2 h83 h10=>?_;obtain⟨e3,_⟩:=h83
    refine qt J JS (IP.X Ok) IA rfl isl pl g rfl rfl (by rw[Su,hvs.length];exact z1) (by rw[Su,rq.length];exact z2) ?_
    refine ZP ⟨σ2,fm,st',(S.trans (Step.wrote (t:=aaR.toks) mb)).up,IP.putSub (t:=aaR.toks) hob eb hox e1 e2 e3 ?_,(Step.wrote (t:=aaR.toks) mb).fr0 FP,h10⟩
    rw[xB,hvs.length]
    exact(hvs.take _).append rq
   clear Ok J JS IP S FP isl hob z1 z2 g rq hox hD hvs IA mb
   induction aa5 using VR.cases_e with
   | none=>exact hn<|go none .none (by rw[show l.take (SP.elim none 0 (Vx l.length))++q=q by simp];exact h9)
   | int i t=>
    refine hn (go (Sa i) (.int i t) ?_)
    have h9:(st2.set n (.lsub 2 d' fs (bp (fy l (eV i (aK l))) q)) λst=>k fm st)=Se:=h9
    rw[bf,gm,pK,aC] at h9
    exact h9
   | bool=>cases h9
   | str=>cases h9
   | ref=>cases h9
   | tup=>cases h9
end
section
variable {C:Cfg}{fx:Fx}{d:Nat}{A:Around}{env:Env}{σ σ1:List Addr}{fm:Fm}{st:St}{s aaQ:Shared}
theorem xF (Ok:C.Ok)(J:cJ C)(JS:eP C){x y:V}{v:Sn} (I:Inv C σ st s)(rx:VR σ s.heap x u)(ry:VR σ s.heap y v)(h:cZ x y st k=Se):gf C A (XG u v) σ s k:=by
 refine aO h λi e81 h1=>?_;clear h;subst e81
 refine aM h1 λhsm h2=>?_;clear h1
 have hb:=di hsm
 refine VR.int_e ry λ_=>?_
 induction rx using VR.cases_e with
 | none=>exact ff h2
 | bool=>exact ff h2
 | int=>exact ff h2
 | str l t=>
  refine kE (l:=l) h2 λj c hj hlt hij h3=>?_
  refine ZH (c:=c) ?_ ?_ (cQ I _ (.str [c] _) h3)
  ·simp only[Xk,decide_eq_false_iff_not];lia
  ·show(V7 i l.toArray.size).bind (λn=>l.toArray[n]?)=Sa c
   rw[Su,dP hlt hij]
   simpa using hj
 | @tup l us a m e n q=>
  refine kE h2 λj c hj hlt hij h3=>?_
  refine aE (q.get hj) λw hw rw_=>?_
  exact getItem_tuple (t:=a) (items:=us.toArray) ⟨_,e,rfl,_,rfl⟩ (by lia) (by lia) (by rw[Su,q.length];exact dP hlt hij) (by simpa using hw) (cQ I s.toks rw_ h3)
 | @ref n a e=>
  refine St.get_e h2 λo ho h3=>?_;clear h2
  rcases lg h3 with ⟨l,rfl,h4⟩ | ⟨c,d,fs,l,rfl,h4⟩
  ·refine kE h4 λj c hj hlt hij h5=>?_
   obtain⟨vs,m,g,q⟩:=I.list ho e
   refine aE (q.get hj) λw hw rw_=>?_
   have hl:s.heap.IsList a vs.toArray:=⟨_,g,rfl,_,rfl⟩
   have fin:=cQ I s.toks rw_ h5
   rcases hij with ⟨h0,h6⟩ | ⟨h0,h6⟩
   ·exact wpAny_getItem_list hl h0 (by lia) (by rw[h6];simpa using hw) fin
   ·have:(i+(vs.toArray.size:Int)).toNat=j:=by rw[Su,q.length,h6];rfl
    exact YK hl h0 (by rw[Su,q.length];lia) (by lia) (by rw[this];simpa using hw) fin
  ·refine kE h4 λj y hj hlt hij h5=>?_;clear h4
   obtain⟨b,hb',r⟩:=I.at_ n _ ho
   have:b=a:=Sa.inj (hb'.symm.trans e)
   subst this
   obtain⟨hc,dx,es,m,vs,m',hdx,hox,hD,er,hvs⟩:=r
   subst hc
   refine aE (hvs.get hj) λw hw rw_=>?_
   have IA:Uo s.heap b _ 244 (Sa (VM es m)):=⟨hox,rfl,rfl,hD⟩
   exact kD J JS (I.X Ok) IA rfl (vn hsm) (by rw[Su,hvs.length];exact dP hlt hij) (by simpa using hw) (cQ I s.toks rw_ h5)
theorem nR (Ok:C.Ok)(J:cJ C)(JS:eP C){a i e:Expr}{ci:CE} (hi':∀ov iv new,augStore i ov iv new=(do holding [new,ov,iv] (Zx ov iv new);release [new,ov,iv] [];pure .next))
  (ha:SE C fx d a ca) (hi:SE C fx d i ci) (he:SE C fx d e ce):SS C fx d (.AugAssign (.Subscript a i p) .Add e pos) (js ca ci ce):=by
 intro A env σ fm st s k R E I F h
 refine wpAny_AugAssign_SubscriptAny (ay (ha A env σ fm st s _ R E I F h) λσ1 x st1 ov aaQ aaU aaW aaZ aaS=>?_) hi'
 refine ay (hi A env σ1 fm st1 aaQ _ R E aaW (aaU.fr0 F) aaS) λσ2 j st2 iv aaR aa1 aa4 aa5 aa2=>?_
 refine ay (xF Ok J JS aa4 (aa1.vr .nil aaZ) aa5 aa2) λabg o abj old aa0 aa9 aa7 abe aaY=>?_
 have abm:=aa9.fr0 (aa1.fr0 (aaU.fr0 F))
 refine ay (he A env abg fm abj aa0 _ R E aa7 abm aaY) λσ4 y st4 v aa6 abk abo abF aa8=>?_
 refine aO aa8 λm e81 h5=>?_;clear aa8;subst e81
 refine aO h5 λq e81 h6=>?_;clear h5;subst e81
 have r3':=abk.vr .nil abe
 refine VR.int_e r3' λ_=>?_
 refine VR.int_e abF λ_=>?_
 rw[eS] at h6
 refine aaq ?_
 refine Sm (wu (s:={ aa6 with toks:=_ }) (abo.toks _) (abk.vr .nil (aa9.vr .nil (aa1.vr .nil aaZ))) (abk.vr .nil (aa9.vr .nil aa5)) (.int (m+q) _) h6) ?_ λ_ _ e=>e
 rintro _ s' ⟨st',S',I',h'⟩
 have S:Step [] σ s σ4 s':=(((aaU.trans aa1).trans aa9).trans abk).trans ((Step.toks _).trans S')
 exact⟨σ4,.nxt,fm,st',S.up,I',S.fr0 F,trivial,h'⟩
theorem vE (Ok:C.Ok){cl:Ss}{name:Str}{xp:Pos}{mc:Sn}{l:Sd Nat} (hok:fx.ok=Se)(hx:x∈fx.gn)(g:GB C x (.ref cl))(hr:readsIn C.K cl mc=Se)(e:aaa C.K (.ref cl) mc name=Sa (.val (.str ⟨l.toArray⟩ tk)))
  (he:∀env,eval (.Attribute (.Name x xp) name pos) env=(do
   let o ←eval (.Name x xp) env
   UC pos.atName
   let r ←holding [o] (PySem.getAttr o name Se)
   VZ (.Name x xp) o r
   pure r)):SE C fx d (.Attribute (.Name x xp) name pos) (ao (.str l)):=by
 intro A env σ fm st s k R E I F h
 refine Zd (bS Ok hok hx g E I ?_) (he env)
 exact cls_value (I.X Ok) hr e rfl (cQ I _ (.str l tk) h)
theorem uT:∀(l:Sd Nat),((Ul (l.length / 2)).map λk=>1+2*k).filterMap (l[·]?)=kR l ll
 | []=>rfl
 | [x]=>by
  have e:([x]:Sd Nat).length / 2=0:=by simp
  rw[e]
  rfl
 | x::y::r=>by
  have ih:=uT r
  have e:(x::y::r).length / 2=r.length / 2+1:=by simp only[Tc];lia
  rw[e,WR,Tt,T9,Sd.filterMap_cons]
  have e1:(x::y::r)[1+2*0]? = Sa y:=rfl
  skip
  have e2:((Ul (r.length / 2)).map ((λk=>1+2*k) ∘ Tv)).filterMap ((x::y::r)[·]?)=((Ul (r.length / 2)).map λk=>1+2*k).filterMap (r[·]?):=by
   rw[ZX,ZX]
   have:((λi:Nat=>(x::y::r)[i]?) ∘ ((λk=>1+2*k) ∘ Tv))=((λi:Nat=>r[i]?) ∘ λk=>1+2*k):=by
    funext k
    show(x::y::r)[1+2*(k+1)]? = r[1+2*k]?
    rw[show 1+2*(k+1)=(1+2*k)+1+1 by lia,Wy,Wy]
   exact SO (λf=>Sd.filterMap f (Ul (r.length / 2))) this
  rw[e2,ih]
  rfl
theorem yB (l:Sd Nat):(Yb ⟨l.toArray⟩ (Sa (1,aaT)) none (Sa (2,aaX))).filterMap ((⟨l.toArray⟩:Str).cps[·]?)=kR l ll:=by
 rw[←uT]
 have e:Yb ⟨l.toArray⟩ (Sa (1,aaT)) none (Sa (2,aaX))=(Ul (l.length / 2)).map λk=>1+2*k:=by
  have hl:(⟨l.toArray⟩:Str).length=l.length:=by show l.toArray.size=_;simp
  unfold Yb UD
  simp only[hl,Uv,SP.map_none,SP.getD_some,show((2:Int)>0) by decide,if_true,show ¬((1:Int)<0) by decide,if_false]
  unfold sliceRange
  simp only[show((2:Int)>0) by decide,if_true]
  by_cases h:l.length=0
  ·rw[h];rfl
  ·have a:max (0:Int) (min 1 (l.length:Int))=1:=by lia
   rw[a]
   have c:(if (1:Int)<(l.length:Int) then ((l.length:Int) - 1+2 - 1) / 2 else 0).toNat=l.length / 2:=by
    split <;> lia
   rw[c]
   apply U5
   intro k _
   lia
 rw[e]
 congr 1
 funext x
 simp
theorem Hy {a:Expr} {n1 n2:Nat}{p1 p2:Pos}(ha:SE C fx d a ca):SE C fx d (.Subscript a (.Slice (Sa (.Constant (.int 1) n1 p1)) none (Sa (.Constant (.int 2) n2 p2)) p) pos) (Df ca):=by
 intro A env σ fm st s k R E I F h
 refine Subscript_ (ay (ha A env σ fm st s _ R E I F h) λσ1 x st1 u aaQ aaU aaW aaZ aaS=>wpAny_Slice ?_)
 refine dh aaS λl e81 h2=>?_;clear aaS;subst e81
 refine aM h2 λhlen h3=>?_;clear h2
 rw[aC] at hlen
 refine VR.str_e aaZ λt=>?_
 refine wE (ZO ..) ?_
 refine Wp ?_
 refine wE (Yi ..) ?_
 refine Sf ?_
 refine wE (ZO ..) ?_
 refine Wp ?_
 skip
 refine Ze (V0 _ _ t) Wf.lookup (Yw (l:=Sa (1,aaQ.toks)) (u:=none) (st:=Sa (2,aaQ.toks+1)) ⟨_,Heap.get?_push_size _ rfl,rfl,rfl⟩ rfl ?_) rfl
 unfold sliceMade
 skip
 rw[yB]
 have hle:(kR l ll).length<=l.length:=by
  rw[←uT]
  refine Sk (Sd.length_filterMap_le _ _) ?_
  simp only[S0,WH]
  lia
 refine⟨by show(kR l ll).toArray.size<=_;rw[Su];have:=dn hlen;lia,?_⟩
 exact(cQ (s:={ aaQ with heap:=aaQ.heap.push _,toks:=aaQ.toks+1+1 }) aaW.pushed _ (.str _ _) h3).trans (aaU.trans Step.pushed)
theorem Dn {abI abx:Expr} {p1 p2 vp:Pos}(hi:fx.ln[i]? = Sa x)(hj:fx.ln[j]? = Sa y)(hij:i≠j)(hok:fx.ok=Se)(hs:SE C fx d (.Tuple [abI,abx] m vp) (cN cs))
  (hsw:∀env,Xg [.Tuple [.Name x p1,.Name y p2] n tp] (.Tuple [abI,abx] m vp) pos.line env=pure ll)
  (hw:∀env,bb fx env->VL [.Tuple [.Name x p1,.Name y p2] n tp] (.Tuple [abI,abx] m vp) env=pure (Sa [x,y])) :
  SS C fx d (.Assign [.Tuple [.Name x p1,.Name y p2] n tp] (.Tuple [abI,abx] m vp) pos) (Bb cs (bh (aw ll i) (bh (aw ll j) eW))):=by
 intro A env σ fm st s k R E I F h
 refine Assign_Tuple_swapped (names:=[x,y]) ?_ (hsw env) (hw env E)
 refine ay (hs A env σ fm st s (λv st=>lH v λvs=>bh (aw ll i) (bh (aw ll j) eW) fm vs st λfm st=>k .nxt fm st) R E I F h) λσ1 t st1 u aaQ aaU aaW aaZ aaS=>?_
 refine lA aaS λl e81 h2=>?_;clear aaS;subst e81
 refine lF h2 λv q e81 h3=>?_;clear h2;subst e81
 refine ql h3 λhi1 h4=>?_;clear h3
 refine lF h4 λw q' e81 h5=>?_;clear h4;subst e81
 refine ql h5 λhj1 h6=>?_;clear h5
 refine t9 h6 λe81 h7=>?_;clear h6;subst e81
 refine VR.tup_e aaZ λus a mm ea na ra=>?_
 revert ea
 refine VRs.cons_e ra λx1 _ rv rr=>VRs.cons_e rr λx2 _ rw_ rr=>VRs.nil_e rr λea=>?_
 clear ra
 refine unpackItems_tuple (items:=#[x1,x2]) R.handled ⟨_,ea,rfl,_,rfl⟩ λh' he=>?_
 have K:=Heap.ExtBut.all he
 have aa1:Step [] σ1 aaQ σ1 { aaQ with heap:=h' }:=Step.all (t:=aaQ.toks) K
 have aa4:Inv C σ1 st1 { aaQ with heap:=h' }:=aaW.grow K
 have abu:FrR C fx env fm σ1 { aaQ with heap:=h' }:=aa1.fr0 (aaU.fr0 F)
 show So _ _ (ZQ [λv=>bindName env y v,λv=>bindName env x v] [x2,x1]) _ _ _
 refine VA (bindName_ ?_)
 have e1:fU ll j fm w st1 (λfm' st'=>fU ll i fm' v st' λfm st=>k .nxt fm st)=Se:=by
  have a1:∀{α:Type} (l:Sd α) (i:Nat) (v:α) (k:Sd α->Si),i<l.length->k (l.set i v)=Se->nB l i v k=Se:=by
   intro α l
   induction l with
   | nil=>intro i v k h _;exact S8 h (U3 _)
   | cons x r ih=>
    intro i v k h hk
    induction i with
    | zero=>exact hk
    | succ i=>exact ih i v (λq=>k (x::q)) (Nat.lt_of_succ_lt_succ h) hk
  refine a1 _ _ _ _ (by simpa using hj1) ?_
  refine a1 _ _ _ _ (by simpa using hi1) ?_
  have e:=h7
  dsimp only at e ⊢
  rw[Sd.set_comm _ _ hij] at e
  exact e
 refine Sm (fz (c:=ll) hj (λh=>nomatch h) hok E aa4 abu (aa1.vr .nil rw_) e1) ?_ λ_ _ e=>e
 rintro _ aa0 ⟨abg,abs,abj,aa9,aa7,abm,h8⟩
 refine VA (bindName_ ?_)
 refine Sm (fz (c:=ll) (k:=λfm st=>k .nxt fm st) hi (λh=>nomatch h) hok E aa7 abm (aa9.vr (Heap.Ns.noTup' abu) (aa1.vr .nil rv)) h8) ?_ λ_ _ e=>e
 exact λ_ aa6 o=>Yd ((OutG.toS o).trans ((aaU.trans aa1).up.trans aa9))
end
section
variable {C:Cfg}{fx:Fx}{d:Nat}{A:Around}{env:Env}{σ σ1:List Addr}{fm:Fm}{st:St}{s aaQ:Shared}
theorem yM (I:Inv C σ st s) (hc:c<2){k:Nat->St->Si}(h:st.push .hid (λd st=>st.push (fQ c d) k)=Se) :
  ∃st',k (st.n+1) st'=Se/\Step [] σ s (σ++[s.heap.objs.size,s.heap.objs.size+1]) { s with heap:=(s.heap.push Ue).push (YO (dF c) s.heap.objs.size) } /\
   Inv C (σ++[s.heap.objs.size,s.heap.objs.size+1]) st' { s with heap:=(s.heap.push Ue).push (YO (dF c) s.heap.objs.size) }/\(σ++[s.heap.objs.size,s.heap.objs.size+1])[st.n+1]? = Sa (s.heap.objs.size+1):=by
 refine St.push_e h λst1 e1 e2 h1=>?_
 refine St.push_e h1 λst2 e3 e4 h2=>?_;clear h1
 rw[e1] at e3 e4 h2
 have n1:s.heap.get? s.heap.objs.size=none:=bD (SQ _)
 have n2:s.heap.get? (s.heap.objs.size+1)=none:=bD (TV _)
 have keep:∀b x,s.heap.get? b=Sa x->((s.heap.push Ue).push (YO (dF c) s.heap.objs.size)).get? b=Sa x:=λb x e=>br _ _ (br _ _ e)
 have g1:((s.heap.push Ue).push (YO (dF c) s.heap.objs.size)).get? s.heap.objs.size=Sa Ue:=br _ _ (Heap.get?_push_size _ rfl)
 have g2:((s.heap.push Ue).push (YO (dF c) s.heap.objs.size)).get? (s.heap.objs.size+1)=Sa (YO (dF c) s.heap.objs.size):=by
  have:=Heap.get?_push_size (s.heap.push Ue) (o:=YO (dF c) s.heap.objs.size) rfl
  rw[Heap.size_push] at this;exact this
 have i1:(σ++[s.heap.objs.size,s.heap.objs.size+1])[st.n]? = Sa s.heap.objs.size:=by rw[I.n];simp
 have i2:(σ++[s.heap.objs.size,s.heap.objs.size+1])[st.n+1]? = Sa (s.heap.objs.size+1):=by rw[I.n,TZ (by(exact S9 σ.length 1))];simp
 have hnew:fQ c st.n=.inst c st.n []:=by
  unfold fQ
  rw[show SD c 2=ll from by cases q:SD c 2 with | false=>rfl | true=>exact S8 (SK q) (by(exact SJ hc))]
 refine⟨st2,h2,⟨⟨_,rfl,λa m=>?_⟩,λb x _ _ e=>keep b x e,rfl,λh=>h⟩,?_,i2⟩
 ·rcases Sv.mp m with m | m
  ·rw[m];exact⟨λq=>S8 (I.size q) (Tj _),.inl n1⟩
  ·rw[Sj.mp m];exact⟨λq=>S8 (I.size q) (Uk.mpr (TV _)),.inl n2⟩
 ·refine I.make (s':={ s with heap:=(s.heap.push Ue).push (YO (dF c) s.heap.objs.size) }) (o:=fQ c st.n) (by(exact Eq.symm (Nat.add_right_cancel (congrFun (SO HAdd.hAdd (_root_.id (Eq.symm e3))) c)))) (λj=>?_) (by rw[hnew];rfl) keep n2 (by rw[g2];rfl) (bE I (TV _)) n1 (by rw[g1];rfl) (bE I (SQ _)) (SJ (SX _)) ?_
  ·rw[e4]
   by_cases q:j=st.n+1
   ·rw[SR q,SR q]
   ·rw[Sz q,Sz q,e2]
  ·rw[hnew]
   exact⟨hc,s.heap.objs.size,[],0,i1,g2,g1,.nil⟩
structure tl (C:Cfg)(c:Nat)(fa:Ss):Prop where
 makes:makesIn C.K (dF c)=Se
 init:Um C.K (.ref (dF c)) "__init__"=Sa (Sa (.ref fa))
 fn:YN C.K (.ref fa)=Sa (.type "function")
 keep:aas C.K (.ref (dF c))=Se
theorem Rm.under {cl:Ss}{us:Sd Sn}(x:Rm (d+1) A):Rm d (A.under (.builtin "type.__call__" ⟨.ref cl::us,[]⟩)):=by
 have w:Code.weight (.builtin "type.__call__" ⟨.ref cl::us,[]⟩)=1:=by kernel_rfl
 have u:Code.cUnits (.builtin "type.__call__" ⟨.ref cl::us,[]⟩)<=40:=by
  have:Code.cUnits (.builtin "type.__call__" ⟨.ref cl::us,[]⟩)=1:=by kernel_rfl
  (exact Sl rfl)
 exact x.of (T7 (by show A.depth+Code.weight _+d=_;rw[w,Wo];rfl)) (uM u) x.handled
theorem H0 (Ok:C.Ok) {f:FN}(hc:c<2)(hok:fx.ok=Se)(hx:x∈fx.gn)(g:GB C x (.ref (dF c)))(N:tl C c fa)(hf:eY C d' (.ref fa) f)(hd:d'+1<=d)(hp:aL es)(hs:SA C fx d es cs) :
  SE C fx d (.Call (.Name x p) es [] pos) (iF c f cs):=by
 intro A env σ fm st s k R E I F h
 refine Tw (bS Ok hok hx g E I ?_)
 refine bL (k:=λvs st=>st.push .hid λd st=>st.push (fQ c d) λn st=>f (.ref n::vs) st λv st=>sK v .none st λb=>aD b (k (.ref n) st) ll) Ok (ji N.keep) hp hs R E I F h λσ' l st' us s' S I' r _ h'=>?_
 refine fD (yM I' hc h') λst'' h2 S2 I2 i2=>?_
 obtain⟨hh,gg,dr,tk,os⟩:=s'
 have X:=I'.X Ok
 refine UI (make_core (makes_of X N.makes) (TX X N.init) (λself=>bind_fn X self N.fn) (.inl rfl) ?_)
 have z:=hf (A.under (.builtin "type.__call__" ⟨.ref (dF c)::us,[]⟩)) _ st'' _ _ (.ref (st'.n+1)::l) (.ref (hh.objs.size+1)::us) (Rm.under (R.le (by(exact Nat.succ_le_of_lt hd)))) I2 (.cons (.ref i2) (S2.vrs .nil r)) h2
 refine VC z ?_
 rintro q s'' z
 rcases q with e | (v | _ | _ | _) <;> first | exact z.elim | skip
 obtain⟨σ3,y,st3,S3,I3,r3,h3⟩:=z
 have hy:y=.none/\k (.ref (st'.n+1)) st3=Se:=by
  cases y with
  | none=>
   have h3:aD Se (k (.ref (st'.n+1)) st3) ll=Se:=h3
   exact⟨rfl,(eH h3).2⟩
  | bool=>exact ff h3
  | int=>exact ff h3
  | str=>exact ff h3
  | ref=>exact ff h3
  | tup=>exact ff h3
 obtain⟨rfl,h4⟩:=hy
 refine VR.none_e r3 ?_
 exact⟨rfl,⟨σ3,_,st3,(S.trans S2).trans S3,I3,.ref (S3.idx i2),h4⟩⟩
end
section
variable {C:Cfg}{fx:Fx}{d:Nat}{A:Around}{env:Env}{σ σ1 σ2:List Addr}{fm abi:Fm}{st:St}{s aaQ aaR:Shared}
theorem iI {R:Result->Sr->Prop} {dp:Nat} {it:Sn} {B:Sem Unit}
  (hT:aab (.ListComp elt gens scope pos) dp it acc env=(do
   UC p
   match ←UK it with
   | none=>pure (.done .next)
   | some v=>
    Tx target it v
    assign target env v
    let mut ok:=Se
    for c in ifs do
     if ok then ok ←U7 c env (eval c env)
    if ok then B
    again (.compLoop (.ListComp elt gens scope pos) dp it acc env))) (I:Nat->Sr->Prop)
  (turn:∀n s,I n s->So C.M A (UK it) (λr aaQ=>match r with
   | none=>R (.ok .next) aaQ
   | some v=>So C.M A (Tx target it v) (λ_ s1'=>So C.M A (assign target env v) (λ_ aaR=>
     So C.M A (Zh ifs Se λc r=>if r=Se then do let ok ←U7 c env (eval c env);pure (U4 ok) else pure (U4 r)) (λok aa0=>
      if ok=Se then So C.M A B (λ_ abl=>∃m,m<n/\I m abl) cL aa0
      else ∃m,m<n/\I m aa0) cL aaR) cL s1') cL aaQ) cL s)
  (n:Nat) (h:I n s):U0 C.M A (.compLoop (.ListComp elt gens scope pos) dp it acc env) R s:=by
 refine codeAny_loop rfl I (λn s hI=>?_) n h
 show So _ A ((aab (.ListComp elt gens scope pos) dp it acc env).onRaise (λx=>do YB x env;Wn x)) _ _ s
 refine wpAny_noted ?_
 refine wE (hT) ?_
 refine oX (Tz (oX (CO (Sm (turn n s hI) (λr aaQ aaS=>?_) λ_ _ h'=>h'))))
 induction r with
 | none=>exact Sf aaS
 | some v=>
  refine oX (CO (Sm aaS (λ_ s1' h1'=>?_) λ_ _ h'=>h'))
  refine oX (CO (Sm h1' (λ_ aaR aa2=>?_) λ_ _ h'=>h'))
  refine oX (CO (Sm aa2 (λok aa0 aaY=>?_) λ_ _ h'=>h'))
  induction ok with
  | false=>exact oX (Sf (Sf ⟨rfl,aaY⟩))
  | true=>exact oX (CO (Sm aaY (λ_ abl aba=>Sf ⟨rfl,aba⟩) λ_ _ h'=>h'))
theorem qz {R:Result->Sr->Prop}{iter:Expr} {it:Sn} (I:Nat->Sr->Prop)
  (turn:∀n s,I n s->So C.M A (UK it) (λr aaQ=>match r with
   | none=>R (.ok .next) aaQ
   | some v=>So C.M A (Tx target it v) (λ_ s1'=>So C.M A (assign target env v) (λ_ aaR=>
     So C.M A (Zh ifs Se λc r=>if r=Se then do let ok ←U7 c env (eval c env);pure (U4 ok) else pure (U4 r)) (λok aa0=>
      if ok=Se then So C.M A (do let _ ←call (.builtin "list.append") [acc,←eval elt env]) (λ_ abl=>∃m,m<n/\I m abl) cL aa0
      else ∃m,m<n/\I m aa0) cL aaR) cL s1') cL aaQ) cL s)
  (n:Nat) (h:I n s):U0 C.M A (.compLoop (.ListComp elt [⟨target,iter,ifs,0⟩] scope pos) 0 it acc env) R s:=iI (ZR ..) I turn n h
def wM (C:Cfg)(fx:Fx)(d:Nat)(ifs:Sd Expr)(c:CT):Prop:=
 ∀(A:Ua) (env:Env) (σ:Sd Ss) (fm:Fm) (st:St) (s:Sr) (k:Si->St->Si),Rm d A->bb fx env->Inv C σ st s->FrR C fx env fm σ s->c fm st k=Se ->
  So C.M A (Zh ifs Se λc r=>if r=Se then do let ok ←U7 c env (eval c env);pure (U4 ok) else pure (U4 r)) (OutB C σ s k) cL s
theorem dg:wM C fx d [] cA:=λA env σ fm st s k R E I F h=>wpAny_tests_nil ⟨σ,st,.refl,I,h⟩
theorem gI {c:Expr} (h:ST C fx d c ct):wM C fx d [c] ct:=λA env σ fm st s k R E I F q=>wpAny_tests_one (h A env σ fm st s k R E I F q)
theorem kh {us:Sd Sn} (e:h.get? D=Sa (cB us m)):Step.NoTup [D] h:=λp hp vs n=>by rw[Sj.mp hp];exact cE e rfl (by decide) _ _
structure AccAt (σ:Sd Ss)(h:Heap)(D:Ss)(l:Sd V)(us:Sd Sn):Prop where
 out:D∉σ
 at_:∃m,h.get? D=Sa (cB us m)
 val:VRs σ h l us
theorem AccAt.step {W:Sd Ss} {us:Sd Sn}(a:AccAt σ s.heap D l us)(x:Step W σ s σ1 aaQ)(nt:Step.NoTup W s.heap)(n:D∉W):AccAt σ1 aaQ.heap D l us:=by
 obtain⟨o,⟨m,g⟩,v⟩:=a
 exact⟨x.notin o n g,⟨m,x.keep _ _ o n g⟩,x.vrs nt v⟩
theorem AccAt.noTup {us:Sd Sn}(a:AccAt σ h D l us):Step.NoTup [D] h:=by
 obtain⟨o,⟨m,g⟩,v⟩:=a
 exact kh g
theorem AccAt.app {us:Sd Sn}(a:AccAt σ s.heap D l us)(hD0:C.aa3.get? D=none)(I:Inv C σ st s){y:V} (r:VR σ s.heap y u)(hlen:us.length<=60000) 
  (h:∀s',Step [D] σ s σ s'->Inv C σ st s'->AccAt σ s'.heap D (l++[y]) (us++[u])->Q .none s'):So C.M A (call (.builtin "list.append") [.ref D,u]) Q E s:=by
 obtain⟨o,⟨m,g⟩,v⟩:=a
 refine ni g rfl rfl (by rw[Su];exact Sk hlen (bo rfl)) ?_
 obtain⟨m',hm⟩:=fq (·.push u) us m
 have kp:∀p x,p∉[D]->s.heap.get? p=Sa x->(s.heap.update D (S5 (·.push u))).get? p=Sa x:=λp x n e=>(Heap.get?_update_other _ _ (λq=>n (Sj.mpr q.symm))).trans e
 have S:Step [D] σ s σ { s with heap:=s.heap.update D (S5 (·.push u)) }:=⟨⟨[],(TR _).symm,λ_ h=>nomatch h⟩,λp x _ w e=>kp p x w e,rfl,λh=>h⟩
 refine h _ S (I.other (W:=[D]) kp (λp hp=>Sj.mp hp▸⟨o,hD0⟩) (kh g)) ⟨o,⟨m',?_⟩,S.vrs (kh g) (v.append (.cons r .nil))⟩
 rw[Heap.get?_update_self _ g (by rw[hm];rfl),hm,aac]
inductive CW (C:Cfg)(fx:Fx)(env:Env)(W:Sd Ss)(D:Ss)(cap:Nat)(σ:Sd Ss)(s:Sr)(K:Sd V->Fm->St->Si)(l:Sd V)(us:Sd Sn)(s':Sr):Prop
 | mk (σ':Sd Ss) (fm':Fm) (st':St) (ws:Sd V) (xs:Sd Sn) (S:Step W σ s σ' s') (I:Inv C σ' st' s') (F:FrR C fx env fm' σ' s') (a:AccAt σ' s'.heap D (l++ws) (us++xs)) (c:xs.length<=cap) (h:K ws fm' st'=Se)
def Nq (C:Cfg)(fx:Fx)(d cap T:Nat)(D:Ss)(B:Env->Sem Unit)(cb:CB):Prop:=
 ∀(A:Ua) (env:Env) (σ:Sd Ss) (fm:Fm) (st:St) (s:Sr) (K:Sd V->Fm->St->Si) (l:Sd V) (us:Sd Sn),Rm d A->bb fx env->Inv C σ st s->FrR C fx env fm σ s->AccAt σ s.heap D l us->C.aa3.get? D=none->env.locals≠D->us.length<=T->cb fm st K=Se ->
  So C.M A (B env) (λ_ s'=>CW C fx env [D,env.locals] D cap σ s K l us s') cL s
theorem mH (he:SE C fx d elt ce):Nq C fx d 1 60000 D (λenv=>do let _ ←call (.builtin "list.append") [.ref D,←eval elt env]) (gt ce):=by
 intro A env σ fm st s K l us R E I F a hD0 hDL hlen h
 refine oX (ay (he A env σ fm st s (λv st=>K [v] fm st) R E I F h) λσ5 y st5 u abl abG abA acv aba=>?_)
 have abC:=a.step abG .nil (λh=>nomatch h)
 refine oX (abC.app hD0 abA acv hlen λs₆ acf ab0 acg=>Sf ⟨σ5,fm,st5,[y],[u],abG.up.trans (acf.more λp hp=>.inl (Sj.mp hp▸.head _)),ab0,acf.fr abC.noTup (λq=>hDL (Sj.mp q)) (abG.fr0 F),acg,SQ _,aba⟩)
structure CRel (C:Cfg)(fx:Fx)(env:Env)(D:Ss)(fp:Sd Ss)(b:Ss)(σ:Sd Ss)(s:Sr)(σ':Sd Ss)(fm':Fm)(it':It)(l:Sd V)(us:Sd Sn)(s':Sr):Prop where
 S:Step (D::env.locals::fp) σ s σ' s'
 F:FrR C fx env fm' σ' s'
 r:ItR σ' s'.heap it' b fp
 P:Fp C σ' env.locals fp
 a:AccAt σ' s'.heap D l us
section
variable {D b:Addr}{fp:List Addr}{it abv:It}{l l₁:List V}{us ab8:List Value}
theorem CRel.step0 (x:CRel C fx env D fp b σ s σ1 fm it l us aaQ)(S:Step [] σ1 aaQ σ2 aaR):CRel C fx env D fp b σ s σ2 fm it l us aaR:=
 ⟨x.S.trans S.up,S.fr0 x.F,x.r.step S .nil (λ_ _ h=>nomatch h) x.P.out,x.P.step x.r S (λ_ _ h=>nomatch h),x.a.step S .nil (λh=>nomatch h)⟩
theorem CRel.turn (x:CRel C fx env D fp b σ s σ1 fm it l us aaQ)(hDL:env.locals≠D)(hDf:D∉fp)(S:Step (env.locals::fp) σ1 aaQ σ2 aaR)(F:FrR C fx env abi σ2 aaR)(r:ItR σ2 aaR.heap abv b fp)(P:Fp C σ2 env.locals fp):CRel C fx env D fp b σ s σ2 abi abv l us aaR:=
 ⟨x.S.trans (S.more λ_ m=>.inl (.tail _ m)),F,r,P,x.a.step S (λp hp vs n=>by
  rcases Sv.mp hp with q | q
  ·rw[q];exact Heap.Ns.noTup' x.F _ (Sj.mpr rfl) vs n
  ·exact x.r.noTup p q vs n) λm=>(Sv.mp m).elim (λq=>hDL q.symm) hDf⟩
theorem CRel.body (x:CRel C fx env D fp b σ s σ1 fm it l us aaQ)(hDf:D∉fp)(S:Step [D,env.locals] σ1 aaQ σ2 aaR)(F:FrR C fx env abi σ2 aaR)(a:AccAt σ2 aaR.heap D l₁ ab8):CRel C fx env D fp b σ s σ2 abi it l₁ ab8 aaR:=by
 have hw:∀p∈fp,p∉[D,env.locals]:=λp hp q=>(Sv.mp q).elim (λq=>hDf (q▸hp)) λq=>x.P.loc (Sj.mp q▸hp)
 have nt:Step.NoTup [D,env.locals] aaQ.heap:=λp hp=>(Sv.mp hp).elim (λq=>q▸x.a.noTup D (.head _)) λq=>Heap.Ns.noTup' x.F p q
 exact⟨x.S.trans (S.more λp hp=>.inl ((Sv.mp hp).elim (λq=>q▸.head _) λq=>Sj.mp q▸.tail _ (.head _))),F,x.r.step S nt hw x.P.out,x.P.step x.r S hw,a⟩
end
inductive Eg (C:Cfg)(fx:Fx)(env:Env)(D:Ss)(fp:Sd Ss)(b:Ss)(cap:Nat)(gi:eN)(ct:CT)(cb:CB)(K:Sd V->Fm->St->Si)(l₀:Sd V)(us₀:Sd Sn)(σ:Sd Ss)(s:Sr)(n:Nat)(s':Sr):Prop
 | mk (σ':Sd Ss) (fm':Fm) (st':St) (it':It) (ws:Sd V) (xs:Sd Sn) (x:CRel C fx env D fp b σ s σ' fm' it' (l₀++ws) (us₀++xs) s') (I:Inv C σ' st' s') (len:xs.length+cap*n<=cap*200) (h:bw gi ct cb n fm' it' st' (λvs fm st=>K (ws++vs) fm st)=Se)
section
variable {target elt:Expr}{ifs:List Expr}{gi:eN}{ct:CT}{cb:CB}{B:Env->Sem Unit}{cap T:Nat}{b D:Addr}{fp:List Addr}{K:List V->Fm->St->Bool}{l₀:List V}{us₀:List Value}
theorem Ay {a cap b:Nat}(h:a+cap*(n+1)<=b):a+cap<=b/\a+cap*n<=b/\∀m,m<=cap->a+m+cap*n<=b:=
 ⟨Sk (Ts (TK cap (cap*n)) a) h,Sk (Ts (S9 (cap*n) cap) a) h,λm hm=>Sk (by rw[Yh,Z4 m];exact Ts (Ts hm _) _) h⟩
theorem yP (hg:SGI C fx d target gi)(ht:wM C fx d ifs ct)(hB:Nq C fx d cap T D B cb)(R:Rm d A)(E:bb fx env)(hD0:C.aa3.get? D=none)(hDL:env.locals≠D)(hDf:D∉fp)(hcap:us₀.length+cap*200<=T)
  (hR:∀s',CW C fx env (D::env.locals::fp) D (cap*200) σ s K l₀ us₀ s'->R₀ (.ok .next) s') (J:Eg C fx env D fp b cap gi ct cb K l₀ us₀ σ s n aaQ) :
  So C.M A (UK (.ref b)) (λr aaQ=>match r with
   | none=>R₀ (.ok .next) aaQ
   | some v=>So C.M A (Tx target (.ref b) v) (λ_ s1'=>So C.M A (assign target env v) (λ_ aaR=>
     So C.M A (Zh ifs Se λc r=>if r=Se then do let ok ←U7 c env (eval c env);pure (U4 ok) else pure (U4 r)) (λok aa0=>
      if ok=Se then So C.M A (B env) (λ_ abl=>∃m,m<n/\Eg C fx env D fp b cap gi ct cb K l₀ us₀ σ s m abl) cL aa0
      else ∃m,m<n/\Eg C fx env D fp b cap gi ct cb K l₀ us₀ σ s m aa0) cL aaR) cL s1') cL aaQ) cL aaQ:=by
 obtain⟨σ1,abi,st1,abv,ws,xs,abB,aaW,len,aaS⟩:=J
 induction n with
 | zero=>exact ff aaS
 | succ n=>
  have len2:xs.length+cap<=cap*200/\xs.length+cap*n<=cap*200/\∀m,m<=cap->xs.length+m+cap*n<=cap*200:=Ay len
  clear len
  refine Sm (B0 (k:=λit fm st=>ct fm st λx st=>aD x (cb fm st λvs fm st=>bw gi ct cb n fm it st λus fm st=>K (ws++bp vs us) fm st) (bw gi ct cb n fm it st λvs fm st=>K (ws++vs) fm st)) hg R E aaW abB.F abB.r abB.P aaS) ?_ λ_ _ e=>e
  intro x aaR q
  induction x with
  | none=>
   refine xY q λaa2 aa1 aa4 abu=>?_
   have aa2:K (ws++[]) abi st1=Se:=aa2
   rw[TR] at aa2
   exact hR aaR ⟨σ1,abi,st1,ws,xs,abB.S.trans (aa1.more λ_ m=>.inl (.tail _ (.tail _ m))),aa4,abu,abB.a.step aa1 abB.r.noTup hDf,Sk (S9 _ _) len2.1,aa2⟩
  | some v=>
   refine Sm q (λ_ s2' q=>Sm q ?_ λ_ _ e=>e) λ_ _ e=>e
   rintro _ aa0 ⟨abg,abs,abj,abP,aa9,aa7,abm,abe,abw,aaY⟩
   have acm:=abB.turn hDL hDf aa9 abm abe abw
   refine Sm (ht A env abg abs abj aa0 _ R E aa7 abm aaY) ?_ λ_ _ e=>e
   rintro ok aa6 ⟨σ4,st4,abk,abo,aa8⟩
   have abV:=acm.step0 abk
   induction ok with
   | false=>exact⟨n,SX n,σ4,abs,st4,abP,ws,xs,abV,abo,len2.2.1,aa8⟩
   | true=>
    refine Sm (hB A env σ4 abs st4 aa6 _ (l₀++ws) (us₀++xs) R E abo abV.F abV.a hD0 hDL (by rw[SU];exact Sk (Ts (Sk (S9 _ _) len2.1) _) hcap) aa8) ?_ λ_ _ e=>e
    rintro _ abl ⟨σ5,fm5,st5,ws',xs',abG,abA,abL,abC,acp,aba⟩
    rw[UZ,UZ] at abC
    refine⟨n,SX n,σ5,fm5,st5,abP,ws++ws',xs++xs',abV.body hDf abG abL abC,abA,by rw[SU];exact len2.2.2 _ acp,?_⟩
    simp only[UZ,←bf ws']
    exact aba
theorem m6 {dp:Nat} 
  (hT:aab (.ListComp elt gens scope pos) dp (.ref b) (.ref D) env=(do
   UC p
   match ←UK (.ref b) with
   | none=>pure (.done .next)
   | some v=>
    Tx target (.ref b) v
    assign target env v
    let mut ok:=Se
    for c in ifs do
     if ok then ok ←U7 c env (eval c env)
    if ok then B env
    again (.compLoop (.ListComp elt gens scope pos) dp (.ref b) (.ref D) env)))
  (hg:SGI C fx d target gi) (ht:wM C fx d ifs ct) (hB:Nq C fx d cap T D B cb) (R:Rm d A) (E:bb fx env) (hD0:C.aa3.get? D=none) (hDL:env.locals≠D) (hDf:D∉fp) (hcap:us₀.length+cap*200<=T)
  (hR:∀s',CW C fx env (D::env.locals::fp) D (cap*200) σ s K l₀ us₀ s'->R₀ (.ok .next) s')
 (I:Inv C σ st s) (F:FrR C fx env fm σ s) (r:ItR σ s.heap it b fp) (P:Fp C σ env.locals fp) (a:AccAt σ s.heap D l₀ us₀) (h:bw gi ct cb 200 fm it st K=Se) :
  U0 C.M A (.compLoop (.ListComp elt gens scope pos) dp (.ref b) (.ref D) env) R₀ s:=
 iI hT (Eg C fx env D fp b cap gi ct cb K l₀ us₀ σ s) (λ_ _ J=>yP hg ht hB R E hD0 hDL hDf hcap hR J) 200 ⟨σ,fm,st,it,[],[],⟨.refl,F,r,P,by rw[TR,TR];exact a⟩,I,T7 (V9 _),h⟩
end
end
section
variable {C:Cfg}{fx:Fx}{d:Nat}{A:Around}{env:Env}{σ σ1:List Addr}{fm:Fm}{st:St}{s aaQ:Shared}
theorem Inv.name (I:Inv C σ st s) (hn:st'.n=st.n+1)(hl:∀j,st'.look j=if j=st.n then Sa o else st.look j)(hd:bW o=none)
  (out:a∉σ) (hs:(s.heap.get? a).isSome=Se) (hb:C.aa3.get? a=none) (nt:∀vs n,s.heap.get? a≠Sa (cK vs n)) (r:OR (σ++[a]) s.heap o a):Inv C (σ++[a]) st' s:=by
 have kt:∀(b:Ss) (vs:Sd Sn) (n:Nat),b∉σ->s.heap.get? b=Sa (cK vs n)->b∉σ++[a]/\s.heap.get? b=Sa (cK vs n):=λb vs n m x=>⟨λq=>by
  rcases Tf.mp q with q | q
  ·exact m q
  ·rw[Sj.mp q] at x;exact nt vs n x,x⟩
 have hi:∀(i:Nat) (b:Ss),σ[i]? = Sa b->(σ++[a])[i]? = Sa b:=λi b e=>by rw[Ti (Sy.mp e).1];exact e
 have old:∀{j:Nat} {x:O},st.look j=Sa x->st'.look j=Sa x:=λ{j x} e=>by rw[hl,Sz (SJ (I.lt e))];exact e
 have L:∀{j:Nat} {x:O} {d:Nat},st'.look j=Sa x->bW x=Sa d->st.look j=Sa x:=λ{j x d} q h=>by
  rw[hl] at q
  by_cases e:j=st.n
  ·rw[SR e] at q;cases q;rw[hd] at h;exact iq h
  ·rw[Sz e] at q;exact q
 refine⟨I.base,?_,λb m=>?_,by rw[hn,I.n];simp,λj x q=>?_,λj c d fs l q=>?_,λj k c d fs l c' d' fs' l' q q' hd=>?_,dR I.tabs hi (λj sj=>Safe.of (old sj.1) λk x d q hd=>sj.dict (L q hd) hd) λ_ _ _ _ _ g=>g,λi a o m=>by obtain⟨q1,q2,q3,l,q4⟩:=I.fix i a o m;exact⟨q1,hi _ _ q2,q3,l,old q4⟩⟩
 ·rw[Vm]
  exact⟨I.nodup,by simp,λb m c m'=>by rw[Sj.mp m'];intro e;exact out (e▸m)⟩
 ·rcases Tf.mp m with m | m
  ·exact I.new b m
  ·rw[Sj.mp m];exact⟨hb,hs⟩
 ·rw[hl] at q
  by_cases e:j=st.n
  ·rw[SR e] at q
   cases q
   exact⟨a,by rw[e,I.n];simp,r⟩
  ·rw[Sz e] at q
   obtain⟨b,hb,rb⟩:=I.at_ j x q
   exact⟨b,hi _ _ hb,rb.mono hi kt (λy g=>g) λd dx _ _ y g=>g⟩
 ·rcases q with q | q
  ·exact old (I.dict j c d fs l (.inl (L q rfl)))
  ·exact old (I.dict j c d fs l (.inr (L q rfl)))
 ·subst hd
  rcases q with q | q <;> rcases q' with q' | q' <;> exact I.dictOne (L q rfl) (L q' rfl) rfl rfl
theorem g6 {env:Env}:∀{names:Sd (Str×NameKind)}{x:Str}{k:NameKind},names.lookup x=Sa k ->
  (names.map λ(n,k)=>if (k == NameKind.free && env.scope.kind == .function && env.kindOf n == Sa .cell) then (n,NameKind.cell) else (n,k)).lookup x=Sa k \/
   (k=.free/\(names.map λ(n,k)=>if (k == NameKind.free && env.scope.kind == .function && env.kindOf n == Sa .cell) then (n,NameKind.cell) else (n,k)).lookup x=Sa .cell)
 | [],_,_,h=>by simp at h
 | (n,k')::r,x,k,h=>by
  have ih:=@g6 env r x k
  show Zj x ((if (k' == NameKind.free && env.scope.kind == .function && env.kindOf n == Sa .cell)=Se then (n,NameKind.cell) else (n,k'))::_)=_\/_/\Zj x ((if (k' == NameKind.free && env.scope.kind == .function && env.kindOf n == Sa .cell)=Se then (n,NameKind.cell) else (n,k'))::_)=_
  cases hx:x == n with
  | true=>
   simp only[Uy,hx] at h
   cases h
   by_cases hc:(k' == NameKind.free && env.scope.kind == .function && env.kindOf n == Sa .cell)=Se
   ·rw[SR hc]
    simp only[S6,beq_iff_eq] at hc
    exact .inr ⟨hc.1.1,by simp[Uy,hx]⟩
   ·rw[Sz hc];exact .inl (by simp[Uy,hx])
  | false=>
   simp only[Uy,hx] at h
   by_cases hc:(k' == NameKind.free && env.scope.kind == .function && env.kindOf n == Sa .cell)=Se
   ·rw[SR hc];simp only[Uy,hx];exact ih h
   ·rw[Sz hc];simp only[Uy,hx];exact ih h
theorem kL (h:dT sc=Se)(E:bb (aR sc) cenv)(e:cenv.scope=sc):bb (aR sc) { cenv with scope:=relabel sc env }:=by
 have h':=h
 simp only[dT,S6,decide_eq_true_eq] at h'
 obtain⟨⟨hk,nd⟩,_⟩:=h'
 have L:∀{x:Str} {k:NameKind},x∈au sc k->(relabel sc env).names.lookup x=Sa k\/(k=.free/\(relabel sc env).names.lookup x=Sa .cell):=λ{x k} m=>g6 (cF nd (dk m))
 have L':∀{x:Str} {k:NameKind},k≠.free->x∈au sc k->(relabel sc env).names.lookup x=Sa k:=λ{x k} n m=>(L m).elim id λq=>S8 q.1 n
 refine⟨by show(relabel sc env).kind=_;show sc.kind=_;simpa using hk,E.glob,E.blt,λx m=>L' (by decide) m,λx m=>?_,λx m=>L' (by decide) m,λx m=>L' (by decide) m⟩
 rcases Tf.mp m with m | m
 ·exact .inl (L' (by decide) m)
 ·rcases L m with q | q
  ·exact .inr q
  ·exact .inl q.2
theorem km (f:Str×NameKind->Sd (Str×Ss)->Sem (ForInStep (Sd (Str×Ss))))(hf:∀name kind cs,f (name,kind) cs=if kind == .free then (do let a ←cellOf env name;pure (.yield ((name,a)::cs))) else pure (.yield cs)) :
  ∀(names:Sd (Str×NameKind)) (acc:Sd (Str×Ss)),(names.map (·.1)).Nodup->(∀x,(x,NameKind.free)∈names->∃a,env.cells.lookup x=Sa a) ->
   ∃cl,(Zh names acc f:Sem (Sd (Str×Ss)))=pure cl/\(∀x,(x,NameKind.free)∈names->cl.lookup x=env.cells.lookup x)/\(∀x,x∉names.map (·.1)->cl.lookup x=acc.lookup x)
 | [],acc,_,_=>⟨acc,by rw[WN],λ_ h=>(nomatch h),λ_ _=>rfl⟩
 | (n,k)::r,acc,nd,h=>by
  simp only[Tt,VH] at nd
  have hr:∀x,(x,NameKind.free)∈r->∃a,env.cells.lookup x=Sa a:=λx m=>h x (Zk _ m)
  by_cases hk:(k == .free)=Se
  ·have hk':k=.free:=by simpa using hk
   subst hk'
   refine bH (h n (ZY)) λa ha=>?_
   refine fF (km f hf r ((n,a)::acc) nd.2 hr) λcl e h1 h2=>?_
   refine⟨cl,?_,λx m=>?_,λx m=>?_⟩
   ·rw[Uu,hf,SR hk]
    have:cellOf env n=pure a:=by unfold cellOf;rw[ha]
    rw[this]
    exact e
   ·rcases Sv.mp m with q | q
    ·cases q
     rw[h2 n nd.1,ha];simp[Zj]
    ·exact h1 x q
   ·simp only[Tt,Sv,not_or] at m
    rw[h2 x m.2,Uy,show(x == n)=ll from beq_eq_false_iff_ne.mpr m.1]
  ·refine fF (km f hf r acc nd.2 hr) λcl e h1 h2=>?_
   refine⟨cl,?_,λx m=>?_,λx m=>?_⟩
   ·rw[Uu,hf,Sz hk]
    exact e
   ·rcases Sv.mp m with q | q
    ·cases q;exact S8 rfl hk
    ·exact h1 x q
   ·simp only[Tt,Sv,not_or] at m
    exact h2 x m.2
end
section
variable {C:Cfg}{fx:Fx}{d:Nat}{A:Around}{env:Env}{σ σ1:List Addr}{fm:Fm}{st:St}{s aaQ:Shared}
theorem zQ {cel:Sd Nat}:∀{fr:Sd Nat}{k:Sd Nat->Si},xK cel fr k=Se->∃q,q.length=fr.length/\(∀(i j:Nat),fr[i]? = Sa j->∃n,cel[j]? = Sa n/\q[i]? = Sa n)/\k q=Se
 | [],k,h=>⟨[],rfl,λi j e=>by simp at e,h⟩
 | j::r,k,h=>by
  have h:getL cel j (λn=>xK cel r λq=>k (n::q)) ll=Se:=h
  refine gE h λn e h1=>?_;clear h
  refine fF (zQ h1) λq hl h2 h3=>?_
  refine⟨n::q,by simp[hl],λi j' e'=>?_,h3⟩
  induction i with
  | zero=>simp at e';subst e';exact⟨n,e,rfl⟩
  | succ i=>simp at e';refine aE (h2 i j' e') λm a b=>?_;exact⟨m,a,by simpa using b⟩
theorem vO {h:It} (r:ItR σ s.heap h b fp)(q:Q (.ref b) s):So C.M A (XO (.ref b)) Q E s:=by
 induction r with
 | seq _ hi=>exact YY hi q
 | tup _ _ hi=>exact wpAny_pyIter_tupleiter hi q
 | str hi=>exact wpAny_pyIter_striter_ascii hi q
 | rng hi=>exact wpAny_pyIter_rangeiter hi q
 | enS _ _ he=>exact WM he q
 | enT _ he=>exact WM he q
theorem gr (x:Step [] σ s σ1 aaQ)(I:Inv C σ1 st aaQ)(h:aaQ.heap.get? a=none):s.heap.get? a=none:=by
 cases q:s.heap.get? a with
 | none=>rfl
 | some o=>
  by_cases z:a∈σ
  ·refine aE (x.ext) λτ e _=>?_
   have:=(I.new a (by rw[e];exact Uj _ z)).2
   rw[h] at this;exact ff this
  ·have:=x.keep a o z (λh=>nomatch h) q
   rw[h] at this;exact iq this
theorem Step.name (x:Step [] σ s σ1 aaQ)(n:a∉σ1)(h:s.heap.get? a=none):Step [] σ s (σ1++[a]) aaQ:=by
 refine aE (x.ext) λτ e q=>?_
 refine⟨⟨τ++[a],by rw[e,UZ],λb m=>?_⟩,x.keep,x.os,x.gens⟩
 rcases Tf.mp m with m | m
 ·exact q b m
 ·rw[Sj.mp m];exact⟨λz=>n (by rw[e];exact Uj _ z),.inl h⟩
theorem xf {fr q:Sd Nat}(F:FrR C fx env fm σ s)(hsc:dT sc=Se)(hfr:fr.map (λj=>fx.cn[j]?)=(au sc .free).map Sa)(hl:q.length=fr.length)(hq:∀(i j:Nat),fr[i]? = Sa j->∃n,fm.cel[j]? = Sa n/\q[i]? = Sa n) :
  ∃cl,YP sc env=pure cl/\q.length=(au sc .free).length/\∀(i:Nat) (x:Str),(au sc .free)[i]? = Sa x->BX q cl σ i x:=by
 have nd:(sc.names.map (·.1)).Nodup:=by
  simp only[dT,S6,decide_eq_true_eq] at hsc;exact hsc.1.2
 have hlen:fr.length=(au sc .free).length:=by
  have:=SO Sd.length hfr;simpa using this
 have key:∀(i:Nat) (x:Str),(au sc .free)[i]? = Sa x->BX q env.cells σ i x:=λi x e=>by
  have e2:=SO (λl=>l[i]?) hfr
  simp only[TG,e,Uv] at e2
  cases hj:fr[i]? with
  | none=>rw[hj] at e2;exact iq e2
  | some j=>
   rw[hj] at e2
   simp only[Uv,Sa.injEq] at e2
   refine aE (hq i j hj) λn h1 h2=>?_
   refine gx (F.cel j n h1) λy a h3 h4 h5=>?_
   rw[e2] at h3
   cases h3
   exact⟨a,n,h2,h4,h5⟩
 obtain⟨cl,e,h1,_⟩:=km (env:=env) (λp cs=>if p.2 == .free then (do let a ←cellOf env p.1;pure (.yield ((p.1,a)::cs))) else pure (.yield cs)) (λ_ _ _=>rfl) sc.names [] nd (λx m=>by
  have:x∈au sc .free:=XH.mpr ⟨(x,.free),YU.mpr ⟨m,by rfl⟩,rfl⟩
  refine bH (V4 this) λi hi=>?_
  obtain⟨a,_,_,h,_⟩:=key i x hi
  exact⟨a,h⟩)
 refine⟨cl,?_,hl.trans hlen,λi x hx=>?_⟩
 ·have e':YP sc env=((Zh sc.names [] λ(p:Str×NameKind) (cs:Sd (Str×Ss))=>if p.2 == .free then (do let a ←cellOf env p.1;pure (.yield ((p.1,a)::cs))) else pure (.yield cs)) >>= λcs=>pure cs:Sem (Sd (Str×Ss))):=by
   unfold YP
   refine SO (λm:Sem (Sd (Str×Ss))=>m >>= λcs=>pure cs) (SO (Zh sc.names []) (funext λp=>funext λcs=>?_))
   obtain⟨n,k⟩:=p
   cases hkc:k == NameKind.free <;> simp[hkc]
  rw[e',e]
  rfl
 ·obtain⟨a,n,h2,h3,h4⟩:=key i x hx
  exact⟨a,n,h2,by rw[h1 x (dk (Sp hx))];exact h3,h4⟩
theorem Inv.nameL (I:Inv C σ st s) {us:Sd Sn} (e1:st'.n=st.n+1)(e2:∀j,st'.look j=if j=st.n then Sa (.list l) else st.look j)(n:D∉σ)(n0:C.aa3.get? D=none)(g:s.heap.get? D=Sa (cB us m))(v:VRs σ s.heap l us):Inv C (σ++[D]) st' s/\(σ++[D])[st.n]? = Sa D:=
 ⟨I.name e1 e2 rfl n (by rw[g];rfl) n0 (λvs n=>cE g rfl (by decide) vs n) ⟨us,m,g,v.mono (λi a e=>by rw[Ti (Sy.mp e).1];exact e) λa vs n z e=>⟨λq=>(Tf.mp q).elim z λq=>by
  rw[Sj.mp q] at e;exact cE g rfl (by decide) _ _ e,e⟩⟩,by rw[I.n,TZ (SQ _),Nat.sub_self];rfl⟩
inductive pY (C:Cfg)(σ:Sd Ss)(s:Sr)(L D:Ss)(k:V->St->Si)(s':Sr):Prop
 | mk (σ':Sd Ss) (st' st'':St) (mm:Str->SP Sn) (S:Step [] σ s (σ'++[D]) s') (I:Inv C (σ'++[D]) st'' s') (e:(σ'++[D])[st'.n]? = Sa D) (nL:L∉σ'++[D]) (hm:s'.heap.Ns L mm) (dL:s.heap.get? L=none) (n0:C.aa3.get? L=none) (h:k (.ref st'.n) st''=Se)
theorem j9 {iter:Expr} {fr:Sd Nat} {cb:CB}{cap T:Nat}{B:Ss->Env->Sem Unit}{use:SP (Sn->Sem Unit)} 
  (hsc:dT sc=Se) (hfr:fr.map (λj=>fx.cn[j]?)=(au sc .free).map Sa) (hf:∀env x,Tr iter env x=pure x) (hi:SI C fx d iter ci) (hg:SGI C (aR sc) d target gi) (ht:wM C (aR sc) d ifs ct) (hB:∀D,Nq C (aR sc) d cap T D (B D) cb) (hcap:cap*200<=T)
  (hT:∀(b D:Ss) (env:Env),aab (.ListComp elt (⟨target,iter,ifs,0⟩::gens) sc pos) 0 (.ref b) (.ref D) env=(do
   UC iter.pos
   match ←UK (.ref b) with
   | none=>pure (.done .next)
   | some v=>
    Tx target (.ref b) v
    assign target env v
    let mut ok:=Se
    for c in ifs do
     if ok then ok ←U7 c env (eval c env)
    if ok then B D env
    again (.compLoop (.ListComp elt (⟨target,iter,ifs,0⟩::gens) sc pos) 0 (.ref b) (.ref D) env)))
  (R:Rm d A) (E:bb fx env) (I:Inv C σ st s) (F:FrR C fx env fm σ s) (h:cI ci (au sc .local).length (au sc .cell).length fr gi ct cb fm st k=Se)
  (post:∀L D s',pY C σ s L D k s'->Zl C.M A cL use Q (.ref D) L (.ok .next) s') :
  So C.M A (comprehension (.ListComp elt (⟨target,iter,ifs,0⟩::gens) sc pos) sc env spos (Zz []) ll (eval iter env) use) Q cL s:=by
 refine fF (zQ h) λq hl hq h1=>?_
 clear h
 refine fF (xf F hsc hfr hl hq) λcl hcl hql hqc=>?_
 clear hl hq hfr
 have hs:=hsc
 simp only[dT,S6,decide_eq_true_eq] at hs
 refine Yk rfl (hf env) hcl (eq_of_beq hs.1.1) (λx m e=>cF hs.1.2 (by rw[←e];exact m)) ?_
 clear hs hcl hf
 refine Sm (hi A env σ fm st s _ R E I F h1) ?_ λ_ _ e=>e.elim
 clear hi h1 I
 intro x aaQ z
 refine Sm z ?_ λ_ _ e=>e.elim
 rintro _ aaR ⟨σ2,it,st2,b,fp,rfl,aa1,aa4,aa5,abH,dd,aa2⟩
 clear z
 refine TF ?_
 generalize hD:aaR.heap.objs.size=D
 have dD2:aaR.heap.get? D=none:=hD▸bD (SQ _)
 have gD:({ aaR with heap:=aaR.heap.push (cB [] 0) }:Sr).heap.get? D=Sa (cB [] 0):=hD▸Heap.get?_push_size _ rfl
 have nD:D∉σ2:=λm=>S8 (aa4.size m) (hD▸Tj _)
 have n0:C.aa3.get? D=none:=bE aa4 (T7 hD)
 have dD:s.heap.get? D=none:=gr aa1 aa4 dD2
 have hDf:D∉fp:=λm=>by
  refine bH (aa5.live _ m) λo e=>?_
  rw[dD2] at e;exact iq e
 have aa9:Step [] σ2 aaR σ2 { aaR with heap:=aaR.heap.push (cB [] 0) }:=Step.pushed (t:=aaR.toks)
 have aa7:Inv C σ2 st2 { aaR with heap:=aaR.heap.push (cB [] 0) }:=aa4.pushed (t:=aaR.toks)
 have abe:=aa5.step aa9 .nil (λ_ _ h=>nomatch h) abH.out
 have abw:=abH.step aa5 aa9 (λ_ _ h=>nomatch h)
 have S':=aa1.trans aa9
 show So _ _ _ _ _ { aaR with heap:=aaR.heap.push (cB [] 0) }
 generalize ({ aaR with heap:=aaR.heap.push (cB [] 0) }:Sr)=aa0 at *
 rw[E.glob]
 have aa2:bY (au sc .cell).length st2 (λo st=>bw gi ct cb 200 ⟨cq (au sc .local).length,bp o q⟩ it st λvs _ st=>aD (aB (aK vs)) (st.push (.list vs) λn st=>k (.ref n) st) ll)=Se:=aa2
 simp only[bf] at aa2
 refine Sm (re (A:=A) (closure:=cl) (q:=q) (around:=Sa env) (qual:=env.qual) (func:=none) (code:=.none) (builtins:=T6) hsc E.blt (nE.nil) aa7 (VRs.nil) (T7 hql)
  (λi x e _=>by obtain⟨a,n,h2,h3,h4⟩:=hqc i x e;exact⟨a,n,h2,h3,aa1.idx h4⟩) (k:=λfm st=>bw gi ct cb 200 fm it st λvs _ st=>aD (aB (aK vs)) (st.push (.list vs) λn st=>k (.ref n) st) ll) aa2) ?_ λ_ _ e=>e.elim
 clear aa2 hqc hql aa1 aa9 aa4 aa5 dD2
 rintro cenv aa6 ⟨σ4,fm4,st4,abZ,esc,_,abk,abo,abp,dL,aa8⟩
 have hDL:cenv.locals≠D:=λq=>by rw[q,gD] at dL;exact iq dL.symm
 have dL':s.heap.get? cenv.locals=none:=gr S' aa7 dL
 have abR:Fp C σ4 cenv.locals fp:=⟨λp m=>by obtain⟨o,e⟩:=abe.live p m;exact abk.notin (abw.out p m) (λh=>nomatch h) e,abw.new,λm=>by
  refine bH (abe.live _ m) λo e=>?_
  rw[dL] at e;exact iq e⟩
 have abF:=abe.step abk .nil (λ_ _ h=>nomatch h) abw.out
 have loop:=m6 (env:={ cenv with scope:=relabel sc env }) (R₀:=Zl C.M A cL use Q (.ref D) cenv.locals) (K:=λvs _ st=>aD (aB (aK vs)) (st.push (.list vs) λn st=>k (.ref n) st) ll) (l₀:=[]) (us₀:=[]) (hT b D _) hg ht (hB D) R (kL hsc abZ esc) n0 hDL hDf (by rw[VI,V9];exact hcap) (λabl z=>post _ _ _ (by
  obtain⟨σ5,fm5,st5,ws,xs,abG,abA,abL,abC,_,aba⟩:=z
  obtain⟨nD5,⟨m,g⟩,v⟩:=abC
  refine aM aba λ_ aba=>?_
  refine St.push_e aba λst6 e1 e2 acw=>?_
  refine aE (abL.ns) λmm hm _=>?_
  refine dH (abA.nameL e1 e2 nD5 n0 g v) λab0 e=>?_
  refine⟨σ5,st5,st6,mm,((((S'.trans abk).up (W:=D::cenv.locals::fp)).trans abG).more λp m=>.inr ?_).name nD5 dD,ab0,e,λq=>(Tf.mp q).elim abL.out λq=>hDL (Sj.mp q),hm,dL',abL.new,acw⟩
  rcases Sv.mp m with m | m
  ·rw[m];exact dD
  ·exact(Sv.mp m).elim (λm=>m▸dL') (dd p))) abo ⟨abp.ns,abp.out,abp.new,abp.len,abp.cel⟩ abF abR ⟨abk.notin nD (λh=>nomatch h) gD,⟨0,abk.keep _ _ nD (λh=>nomatch h) gD⟩,.nil⟩ aa8
 exact YQ loop (vO abF loop)
theorem sW (z:pY C σ s L D k s'):Zl C.M A cL none (Out C [] σ s k) (.ref D) L (.ok .next) s':=by
 obtain⟨σ',st',st'',mm,S,I,e,nL,hm,dL,n0,h⟩:=z
 refine⟨mm,hm,λh' hs'=>⟨_,.ref st'.n,st'',((S.up (W:=[L])).trans (Step.frame (t:=s'.toks) hs')).more λp m=>Sj.mp m▸.inr dL,I.other (W:=[L]) (Heap.SameBut.keeps' hs') (λp hp=>Sj.mp hp▸⟨nL,n0⟩) (Heap.Ns.noTup hm),.ref e,h⟩⟩
theorem DI {iter:Expr} {fr:Sd Nat} (hsc:dT sc=Se)(hfr:fr.map (λj=>fx.cn[j]?)=(au sc .free).map Sa)(hf:∀env x,Tr iter env x=pure x)
  (hi:SI C fx d iter ci) (hg:SGI C (aR sc) d target gi) (ht:wM C (aR sc) d ifs ct) (he:SE C (aR sc) d elt ce) :
  SE C fx d (.ListComp elt [⟨target,iter,ifs,0⟩] sc pos) (cI ci (au sc .local).length (au sc .cell).length fr gi ct (gt ce)):=
 λ_ _ _ _ _ _ _ R E I F h=>j9 (use:=none) hsc hfr hf hi hg ht (λ_=>mH he) (bo rfl) (λ_ _ _=>ZR ..) R E I F h λ_ _ _ z=>sW z
end
section
variable {C:Cfg}{fx:Fx}{d:Nat}{A:Around}{env:Env}{σ σ1:List Addr}{fm:Fm}{st:St}{s aaQ:Shared}
theorem xI {k:Fl->Fm->St->Si} (hy:fx.ln[abt]? = Sa y)(hok:fx.ok=Se)(E:bb fx env)(F:FrR C fx env fm σ s)(z:pY C σ s L D (λv st=>fU ll abt fm v st λfm st=>k .nxt fm st) s') :
  Zl C.M A cL (Sa (assign (.Name y py) env)) (λ_ s'=>OutS C fx env σ s k .next s') (.ref D) L (.ok .next) s':=by
 obtain⟨σ',st',st'',mm,S,I,e,nL,hm,dL,n0,h⟩:=z
 have hLL:L≠env.locals:=λq=>by
  refine aE (F.ns) λ_ h81 _=>?_;obtain⟨o,_,_,e,_⟩:=h81
  rw[q,e] at dL;exact iq dL.symm
 refine Sm (Wg (fz (c:=ll) (k:=λfm st=>k .nxt fm st) hy (λh=>nomatch h) hok E I (S.fr0 F) (.ref e) h)) ?_ λ_ _ e=>e
 clear h I e F
 rintro _ abr ⟨σ8,fm8,st8,abD,ab1,ab3,aby⟩
 have nLe:L∉[env.locals]:=λq=>hLL (Sj.mp q)
 have hm8:abr.heap.Ns L mm:=hm.at' λo e=>abD.keep _ o nL nLe e
 have nL8:L∉σ8:=by
  refine iD hm λo _ _ e _=>?_
  exact abD.notin nL nLe e
 refine⟨mm,hm8,λh' hs'=>?_⟩
 have abM:Step [L] σ8 abr σ8 { abr with heap:=h' }:=Step.frame (t:=abr.toks) hs'
 have nt:=Heap.Ns.noTup hm8
 exact⟨σ8,.nxt,fm8,st8,(((S.up (W:=[L,env.locals])).trans (abD.more λp hp=>.inl (.tail _ hp))).trans (abM.more λp hp=>.inl (Sj.mp hp▸.head _))).more λp m=>(Sv.mp m).elim (λm=>.inr (m▸dL)) .inl,ab1.other (W:=[L]) (Heap.SameBut.keeps' hs') (λp hp=>Sj.mp hp▸⟨nL8,n0⟩) nt,abM.fr nt (λq=>hLL (Sj.mp q).symm) ab3,trivial,aby⟩
theorem DH {iter:Expr} {fr:Sd Nat} (hsc:dT sc=Se)(hfr:fr.map (λj=>fx.cn[j]?)=(au sc .free).map Sa)(hf:∀env x,Tr iter env x=pure x)
  (hi:SI C fx d iter ci) (hg:SGI C (aR sc) d target gi) (ht:wM C (aR sc) d ifs ct) (he:SE C (aR sc) d elt ce)
  (hok:fx.ok=Se) (hy:fx.ln[abt]? = Sa y) (hsw:∀env,bb fx env->VK (.ListComp elt [⟨target,iter,ifs,0⟩] sc pos) (Sa (.Name y py)) spos.line env=pure Se) :
  SS C fx d (.Assign [.Name y py] (.ListComp elt [⟨target,iter,ifs,0⟩] sc pos) spos) (aV (cI ci (au sc .local).length (au sc .cell).length fr gi ct (gt ce)) (aw ll abt)):=by
 intro A env σ fm st s k R E I F h
 refine wE (YZ _ _ _ _ (hsw env E)) ?_
 refine oX (Tz (oX ?_))
 show So _ A (do let _ ←comprehension (.ListComp elt [⟨target,iter,ifs,0⟩] sc pos) sc env _ (Zz []) ll (eval iter env) (Sa (assign (.Name y py) env))) _ _ s
 exact oX (Sm (j9 (Q:=λ_ s'=>OutS C fx env σ s k .next s') (k:=λv st=>fU ll abt fm v st λfm st=>k .nxt fm st) hsc hfr hf hi hg ht (λ_=>mH he) (bo rfl) (λ_ _ _=>ZR ..) R E I F h λL D s' z=>xI hy hok E F z) (λ_ s' hq=>Sf (Sf hq)) λ_ _ e=>e)
end
section
variable {C:Cfg}{fx:Fx}{d:Nat}{A:Around}{env:Env}{σ σ1:List Addr}{fm:Fm}{st:St}{s aaQ:Shared}
theorem iZ {R:Result->Sr->Prop}{iter:Expr} {c₀:Comprehension} {it:Sn} 
  (h0:U0 C.M A (.compLoop (.ListComp elt [c₀,⟨target,iter,ifs,0⟩] scope pos) 1 it acc env) R s)
  (h:So C.M A (XO it) (λit' s'=>U0 C.M A (.compLoop (.ListComp elt [c₀,⟨target,iter,ifs,0⟩] scope pos) 1 it' acc env) R s')
   (notedBy C.M A env λx s'=>R (.error x) s') s) :
  U0 C.M A (.compStart (.ListComp elt [c₀,⟨target,iter,ifs,0⟩] scope pos) 1 it acc env) R s:=by
 refine Xt ?_
 show So _ _ ((compStart (.ListComp elt [c₀,⟨target,iter,ifs,0⟩] scope pos) 1 it acc env).onRaise (λx=>do YB x env;UC theWindowsPlace)) _ _ s
 refine wpAny_notedAt ?_
 unfold compStart
 show So _ _ (ask >>= _) _ _ s
 refine oX (Yt (wpAny_ite ?_))
 split
 ·first
   | exact oX (Sf (Sf (Xb rfl h0)))
   | exact Sf (Xb rfl h0)
 ·first
   | exact oX (U1 (oX (Tz (oX (Sm h (λit' s' h'=>Sf (Xb rfl h')) λ_ _ x=>x)))))
   | (refine oX (U1 ?_);show So _ _ (UC iter.pos >>= _) _ _ s;exact oX (Tz (oX (Sm h (λit' s' h'=>Sf (Xb rfl h')) λ_ _ x=>x))))
theorem vk {iter:Expr}{c₀:Comprehension} (hf:∀env x,Tr iter env x=pure x)(hi:SI C fx d iter ci)(hg:SGI C fx d target gi)(ht:wM C fx d ifs ct)(he:SE C fx d elt ce) :
  Nq C fx d 200 45000 D (λenv=>do
   let x ←eval iter env
   UC iter.pos
   let x ←Tr iter env x
   let _ ←runOwn (.compStart (.ListComp elt [c₀,⟨target,iter,ifs,0⟩] sc pos) 1 (←holding [x] (XO x)) (.ref D) env) env) (IZ ci gi ct (gt ce)):=by
 intro A env σ fm st s K l us R E I F a hD0 hDL hlen h
 refine oX (Sm (hi A env σ fm st s (λit st=>bw gi ct (gt ce) 200 fm it st K) R E I F h) ?_ λ_ _ e=>e)
 intro x aaQ z
 refine oX (Tz (oX (TP (hf env x) (oX (SN (Sm z ?_ λ_ _ e=>e))))))
 clear z h hi hf
 rintro _ aaR ⟨σ2,it,st2,b,fp,rfl,aa1,aa4,aa5,abH,dd,aa2⟩
 have hDf:D∉fp:=λm=>by
  obtain⟨_,⟨_,g⟩,_⟩:=a
  rw[dd D m] at g;exact iq g
 have loop:=m6 (R₀:=λr s'=>match r with | .ok _=>CW C fx env [D,env.locals] D 200 σ s K l us s' | .error e=>cameBackBy C.M A env cL e s') (B:=λenv=>do let _ ←call (.builtin "list.append") [.ref D,←eval elt env]) (gens:=[c₀,⟨target,iter,ifs,0⟩]) (scope:=sc) (pos:=pos) (dp:=1) (p:=iter.pos) (by rfl) hg ht (mH he) R E hD0 hDL hDf (by lia) (λaa0 z=>by
  obtain⟨abg,abs,abj,ws,xs,aa9,aa7,abm,acs,abS,aaY⟩:=z
  refine⟨abg,abs,abj,ws,xs,((aa1.up (W:=D::env.locals::fp)).trans aa9).more λp m=>?_,aa7,abm,acs,Sk abS (bo rfl),aaY⟩
  exact(Sv.mp m).elim (λm=>.inl (m▸.head _)) λm=>(Sv.mp m).elim (λm=>.inl (m▸.tail _ (.head _))) λm=>.inr (dd p m)) aa4 (aa1.fr0 F) aa5 abH (a.step aa1 .nil (λh=>nomatch h)) aa2
 refine oX (wpAny_runOwn (VC (iZ loop (vO aa5 loop)) ?_))
 rintro r s' z
 rcases r with e | f
 ·exact z
 ·exact Sf z
end
section
variable {C:Cfg}{fx:Fx}{d:Nat}{A:Around}{env:Env}{σ σ1:List Addr}{fm:Fm}{st:St}{s aaQ:Shared}
theorem pF {iter:Expr} {it:Sn}:
  aab (.ListComp elt [⟨target,iter,ifs,0⟩,⟨target2,iter2,ifs2,0⟩] sc pos) 0 it acc env=(do
   UC iter.pos
   match ←UK it with
   | none=>pure (.done .next)
   | some v=>
    Tx target it v
    assign target env v
    let mut ok:=Se
    for c in ifs do
     if ok then ok ←U7 c env (eval c env)
    if ok then (do
     let x ←eval iter2 env
     UC iter2.pos
     let x ←Tr iter2 env x
     let _ ←runOwn (.compStart (.ListComp elt [⟨target,iter,ifs,0⟩,⟨target2,iter2,ifs2,0⟩] sc pos) 1 (←holding [x] (XO x)) acc env) env)
    again (.compLoop (.ListComp elt [⟨target,iter,ifs,0⟩,⟨target2,iter2,ifs2,0⟩] sc pos) 0 it acc env)):=by
 refine SO (UC iter.pos >>= ·) (funext λ_=>SO (UK it >>= ·) (funext λr=>?_))
 induction r with
 | none=>rfl
 | some v=>
  refine SO (Tx target it v >>= ·) (funext λ_=>SO (assign target env v >>= ·) (funext λ_=>SO (Zh ifs Se _ >>= ·) (funext λok=>?_)))
  induction ok with
  | false=>rfl
  | true=>
   simp only[if_true,bind_assoc]
   rfl
theorem z7 {iter:Expr} {ci2:CI}{gi2:eN}{ct2:CT} {fr:Sd Nat} (hsc:dT sc=Se)(hfr:fr.map (λj=>fx.cn[j]?)=(au sc .free).map Sa)(hf:∀env x,Tr iter env x=pure x)
  (hi:SI C fx d iter ci) (hg:SGI C (aR sc) d target gi) (ht:wM C (aR sc) d ifs ct) (hf2:∀env x,Tr iter2 env x=pure x) (hi2:SI C (aR sc) d iter2 ci2) (hg2:SGI C (aR sc) d target2 gi2) (ht2:wM C (aR sc) d ifs2 ct2) (he:SE C (aR sc) d elt ce) :
  SE C fx d (.ListComp elt [⟨target,iter,ifs,0⟩,⟨target2,iter2,ifs2,0⟩] sc pos) (cI ci (au sc .local).length (au sc .cell).length fr gi ct (IZ ci2 gi2 ct2 (gt ce))):=
 λ_ _ _ _ _ _ _ R E I F h=>j9 (use:=none) hsc hfr hf hi hg ht (λ_=>vk (c₀:=⟨target,iter,ifs,0⟩) (pos:=pos) (sc:=sc) hf2 hi2 hg2 ht2 he) (bo rfl) (λ_ _ _=>pF) R E I F h λ_ _ _ z=>sW z
end
section
variable {C:Cfg}{fx:Fx}{d:Nat}{A:Around}{env:Env}{σ σ1:List Addr}{fm:Fm}{st:St}{s aaQ:Shared}
theorem D8 (a b:Int):ve a b=if a<b then b else a:=by
 show @Te (λ_=>Int) a b (Cb a b)=_
 rw[kj]
 by_cases q:a<b
 ·rw[Tq q,SR q]
 ·rw[Tp q,Sz q]
theorem oR (j:Int):∀(l:Sd Int)(m:Int),rk (l++[j]) m=ve (rk l m) j
 | [],_=>rfl
 | x::l,m=>by
  have e1:rk (x::l++[j]) m=rk (l++[j]) (ve m x):=rfl
  have e2:rk (x::l) m=rk l (ve m x):=rfl
  rw[e1,e2,oR j l]
theorem kv (xs:Sd (Int×Tok))(i:Nat)(h:i<xs.length):Vi xs.toArray i=(xs[i]).1:=by
 unfold Vi
 simp[Sw h]
theorem sT (x:Int×Tok)(xs:Sd (Int×Tok)):∀k,k<=xs.length->Yf (λi j=>decide (Vi (x::xs).toArray i>Vi (x::xs).toArray j)) k<=k /\
  Vi (x::xs).toArray (Yf (λi j=>decide (Vi (x::xs).toArray i>Vi (x::xs).toArray j)) k)=rk ((xs.map (·.1)).take k) x.1
 | 0,_=>⟨SQ _,by rw[show Yf _ 0=0 from rfl,kv _ _ (by simp)];rfl⟩
 | k+1,h=>by
  obtain⟨a,b⟩:=sT x xs k (by(exact Nat.le_of_succ_le h))
  have e:Yf (λi j=>decide (Vi (x::xs).toArray i>Vi (x::xs).toArray j)) (k+1)=if decide (Vi (x::xs).toArray (k+1)>Vi (x::xs).toArray (Yf (λi j=>decide (Vi (x::xs).toArray i>Vi (x::xs).toArray j)) k))=Se then k+1 else Yf (λi j=>decide (Vi (x::xs).toArray i>Vi (x::xs).toArray j)) k:=rfl
  have n1:Vi (x::xs).toArray (k+1)=(xs[k]'(by(exact WS h))).1:=by rw[kv _ _ (by simp;(exact WS h))];rfl
  have tk:(xs.map (·.1)).take (k+1)=(xs.map (·.1)).take k++[(xs[k]'(by(exact WS h))).1]:=by
   rw[WQ,TG,Sw (by(exact WS h))];rfl
  rw[tk,oR,D8,←b,e,←n1]
  by_cases q:Vi (x::xs).toArray (k+1)>Vi (x::xs).toArray (Yf (λi j=>decide (Vi (x::xs).toArray i>Vi (x::xs).toArray j)) k)
  ·rw[SR (Tq q),SR q];exact⟨SQ _,rfl⟩
  ·rw[Sz (by simpa using q),Sz q];exact⟨by(exact Nat.le_add_right_of_le a),rfl⟩
theorem IV:SF C d (.builtin "max") GC:=by
 intro A σ st s k l us R I r h
 refine d9 h λv e81 h1=>?_;clear h;subst e81
 refine bO h1 λn e81 h2=>?_;clear h1;subst e81
 refine bC h2 λl hl h3=>?_;clear h2
 refine j7 h3 λq e81 h4=>?_;clear h3;subst e81
 refine lF h4 λa m e81 h5=>?_;clear h4;subst e81
 refine VRs.cons_e r λ_ _ ra rr=>?_
 refine VRs.nil_e rr ?_
 refine VR.ref_e ra λb e=>?_
 obtain⟨vs,mm,g,rv⟩:=I.list hl e
 refine aE (mF rv) λxs e1 e2=>?_
 induction xs using Sd.casesOn with
 | nil=>cases e2
 | cons x xs=>
  simp only[Tt,Xs] at e2
  obtain⟨rfl,rfl⟩:=e2
  refine max_intList (xs:=(x::xs).toArray) R.handled ⟨_,g,rfl,mm,by show Data.seq vs.toArray mm=_;rw[e1]⟩ (by simp) λw h' tk hw hk=>?_
  have S:Step [] σ s σ { s with heap:=h',toks:=tk }:=Step.all hk
  refine dH (sT x xs xs.length (SQ _)) λhle hb=>?_
  rw[UL (by simp)] at hb
  rw[show(x::xs).toArray.size - 1=xs.length by simp] at hw
  have hlt:Yf (λi j=>decide (Vi (x::xs).toArray i>Vi (x::xs).toArray j)) xs.length<(x::xs).length:=Uh hle
  rw[kv _ _ hlt] at hb
  unfold intItems at hw
  rw[Array.getElem?_map] at hw
  obtain⟨p,hp,rfl⟩:=VE.mp hw
  have:p=(x::xs)[Yf (λi j=>decide (Vi (x::xs).toArray i>Vi (x::xs).toArray j)) xs.length]:=by
   rw[Uq,Sw hlt] at hp
   exact(Sa.inj hp).symm
  subst this
  refine⟨σ,_,st,S,I.grow hk,?_,h5⟩
  rw[←hb]
  exact .int _ _
end
section
variable {C:Cfg}{fx:Fx}{d:Nat}{A:Around}{env:Env}{σ σ1:List Addr}{fm:Fm}{st:St}{s aaQ:Shared}
noncomputable def jw (K:Frag)(cl:Ss):Si:=match K.lookup cl with
 | some ⟨_,_,.cls cd,sl⟩=>!cd.abstract && !cd.hasDel && (sl.toList[4]?).join == Sa (.builtin "list.__new__") && !cd.mro.isEmpty && cd.mro.contains (.ref cl) && cd.mro.contains (.type "list") &&
   aau K (.ref cl) "__call__" == Sa (Sa (.builtin "type.__call__")) && instIn K (.ref cl) (.type "type") == Sa Se
 | _=>ll
structure qo (M:Model)(h:Heap)(cl:Ss):Prop where
 obj:∃oc od cd sl,h.get? cl=Sa ⟨oc,od,.cls cd,sl⟩/\cd.abstract=ll/\cd.hasDel=ll/\cd.mro.isEmpty=ll
 made:Looks M h (aaC (.ref cl)) (Sa "list.__new__")
 base:Looks M h (Bind.staticBase (.ref cl)) (.ref cl)
 self:Looks M h (aam (.ref cl) (.ref cl)) Se
 top:Looks M h (aam (.ref cl) (.type "list")) Se
 call:Looks M h (aan (.ref cl) "__call__") (Sa (.builtin "type.__call__"))
 typ:Looks M h (UJ (.ref cl) (.type "type")) Se
theorem nJ {K:Frag}{M:Model} (X:K.In h){C:Ss}(e:jw K C=Se):qo M h C:=by
 unfold jw at e
 split at e
 ·rename_i oc od cd sl ho
  simp only[S6,VU,beq_iff_eq] at e
  obtain⟨⟨⟨⟨⟨⟨⟨e1,e2⟩,e3⟩,e4⟩,e5⟩,e6⟩,e7⟩,e8⟩:=e
  have hc:aaA K C=Sa cd:=by unfold aaA;rw[ho]
  have hm:Looks M h (mroOf (.ref C)) cd.mro:=(Zb X hc).andThen .now
  obtain⟨c,l,hl⟩:∃c l,cd.mro=c::l:=by cases q:cd.mro with | nil=>rw[q] at e4;cases e4 | cons c l=>exact⟨c,l,rfl⟩
  have made:Looks M h (aaC (.ref C)) (Sa "list.__new__"):=by
   intro A Q E s k q
   unfold aaC
   refine oX (hm A _ E s k ?_)
   rw[hl,Uu]
   refine oX (oX (oX (oX (WG (k _ _ (X _ _ ho)) (Sf ?_)))))
   skip
   rw[←VO,e3]
   exact Sf (Sf (Sf q))
  refine⟨⟨oc,od,cd,sl,X _ _ ho,e1,e2,e4⟩,made,?_,Vn X ?_,Vn X ?_,looks_specialIn X e7,looks_instIn X e8⟩
  ·intro A Q E s k q
   unfold Bind.staticBase
   refine oX (hm A _ E s k ?_)
   rw[hl,Uu]
   exact oX (oX (oX (made A _ E s k (Sf (Sf (Sf q))))))
  ·unfold mroIn;rw[hc,Va,Sz (by rw[e4];decide),e5]
  ·unfold mroIn;rw[hc,Va,Sz (by rw[e4];decide),e6]
 ·exact ff e
end
section
variable {prog:Program}{w:World}{A:Around}{K:Frag}{C:Addr}{R:Result->Shared->Prop}{h:Heap}{g:Array GenState}{d:Drawn}{t:Nat}{os:OsState}
noncomputable abbrev cW (C dx:Ss):Obj:={ cls:=.ref C,dict:=Sa dx,data:=.seq #[] }
theorem MF {v:Sn}(Y:qo (model prog w) h C)
  (hq:R (.ok (.ret (.ref (h.objs.size+1)))) ⟨(h.push Ue).push (cW C h.objs.size),g,d,t,os⟩) :
  U0 (model prog w) A (.call (.builtin "list.__new__") ⟨[.ref C,v],[]⟩) R ⟨h,g,d,t,os⟩:=by
 obtain⟨⟨oc,od,cd,sl,hC,e1,e2,e4⟩,made,base,self,top,call,typ⟩:=Y
 have hk:U9 "list.__new__"=Sa .builtinFn:=by decide +kernel
 have hs:Zw "list.__new__"=Sa ("list","__new__"):=by decide +kernel
 have hr:Wc "list.__new__"=Sa ⟨.any,"list","list",.cls,[⟨"args",.varPos,ll⟩,⟨"kwargs",.varKw,ll⟩]⟩:=by kernel_rfl
 refine Xt ?_
 show So _ A.in1 (do W6 "list.__new__" ⟨[.ref C,v],[]⟩;again (.builtin "list.__new__" ⟨[.ref C,v],[]⟩)) _ _ _
 unfold W6
 rw[hk,hs,hr]
 dsimp only
 have here:Looks (model prog w) h (Bind.madeHere "list.__new__" (.ref C)) ():=base.andThen (made.andThen (Yj (by simp only[Uv,bne_self_eq_false,Si.false_eq_true,if_false])))
 have args:XM "list.__new__" ⟨.any,"list","list",.cls,[⟨"args",.varPos,ll⟩,⟨"kwargs",.varKw,ll⟩]⟩ ⟨[.ref C,v],[]⟩=pure ():=by kernel_rfl
 rw[args]
 repeat (first | refine wN Uw ?_ | refine Oj Uw ?_ | refine Rs rfl ?_ | refine wP rfl ?_ | lk)
 refine⟨Wk YR _,codeAny_builtin_stack PySem.F.entry_list_new rfl λp st=>?_⟩
 rw[UY YR _]
 have hown:=owner_list_new
 dsimp only
 generalize ("list.__new__".splitOn ".__new__").headD ""=o at hown ⊢
 subst hown
 have hC':=Heap.get?_push_of_some (cW C h.objs.size) (Heap.get?_push_of_some Ue hC)
 have fin:So (model prog w) A.in1 (do
   let .ref d ←newDict | unsupported "internal:list.__new__"
   ret (←newObj (.ref C) (.seq #[]) (Sa d))) (λfin s'=>match fin with | .done f=>R (.ok f) s' | .again c'=>c'.quiet=Se/\U0 (model prog w) A c' R s') (λe s'=>R (.error e) s') ⟨h,g,d,t,os⟩:=by
  unfold newDict
  refine oX (TF ?_)
  refine oX ?_
  show So _ _ (newObjAsIs _ _ _) _ _ _
  unfold newObjAsIs classHasDel
  refine oX (Zi (oX (oX (W8 (Heap.get?_push_of_some _ (Heap.get?_push_of_some _ hC)) (Sf ?_)))))
  rw[e2]
  refine Sf (Sf ?_)
  show R _ _
  rw[Heap.size_push]
  exact hq
 repeat (first | refine wN Uw ?_ | refine Oj Uw ?_ | exact fin | lk)
end
section
variable {prog:Program}{w:World}{A:Around}{K:Frag}{C:Addr}{R:Result->Shared->Prop}{h:Heap}{g:Array GenState}{d:Drawn}{t:Nat}{os:OsState}
theorem Hq {v init:Sn}(Y:qo (model prog w) h C)(hi:Looks (model prog w) h (typeLookup (.ref C) "__init__") (Sa init))
  (hb:∀self,Looks (model prog w) h (bindSpecial init self) (init,[self])) (hnew:Looks (model prog w) h (typeLookup (.ref C) "__new__") (Sa (.builtin "list.__new__")))
  (hq:U0 (model prog w) (A.under (.builtin "type.__call__" ⟨[.ref C,v],[]⟩)) (.call init ⟨[.ref (h.objs.size+1),v],[]⟩) (InitBack (h.objs.size+1) R) ⟨(h.push Ue).push (cW C h.objs.size),g,d,t,os⟩) :
  U0 (model prog w) A (.call (.ref C) ⟨[v],[]⟩) R ⟨h,g,d,t,os⟩:=by
 have Y':=Y
 obtain⟨⟨oc,od,cd,sl,hC,e1,e2,e4⟩,made,base,self,top,call,typ⟩:=Y
 refine Xt ?_
 show So _ _ (callAny (.ref C) _) _ _ _
 refine nd_load hC ?_
 show So _ _ (aad (.ref C) _) _ _ _
 unfold aad
 refine oX (call.at ?_)
 dsimp only
 refine G6 (tc_bind ..) ?_
 refine oX (Sf (oX (Sf ?_)))
 refine Sf (a:=Fin.again (.call (.builtin "type.__call__") ⟨[.ref C,v],[]⟩)) (Xb rfl ?_)
 refine codeAny_call_builtin_at (ZZ _ (by decide +kernel)) entry_typeCall (YJ tc_kind tc_split typ (tc_args _ _ _) ?_)
 unfold Builtin.«type.__call__»
 have hm:Looks (model prog w) h (mroOf (.ref C)) cd.mro:=((Looks.ld (part:=none) hC).andThen .now).andThen .now
 repeat (first | refine wN (by rw[e4];decide) ?_ | refine Oj (by rw[e4];decide) ?_ | with_reducible refine UI ?_ | lk)
 refine MF Y' ?_
 have k:∀b o,h.get? b=Sa o->((h.push Ue).push (cW C h.objs.size)).get? b=Sa o:=λb o e=>Heap.get?_push_of_some _ (Heap.get?_push_of_some _ e)
 have hx:((h.push Ue).push (cW C h.objs.size)).get? (h.objs.size+1)=Sa (cW C h.objs.size):=by heap_get
 have t1:Looks (model prog w) ((h.push Ue).push (cW C h.objs.size)) (Xq (.ref (h.objs.size+1))) (.ref C):=(Looks.ld hx).andThen .now
 have s1:=self.keeps k
 have i1:=hi.keeps k
 have b1:=(hb (.ref (h.objs.size+1))).keeps k
 unfold UJ XF aan
 repeat (first | with_reducible refine UI ?_ | lk)
 refine VC hq λr s' z=>?_
 rcases r with e | (v | _ | _ | _) <;> first | exact z | exact z.elim | skip
 obtain⟨rfl,z⟩:=z
 exact Sf (Sf z)
end
section
variable {C:Cfg}{fx:Fx}{d:Nat}{A:Around}{env:Env}{σ σ1:List Addr}{fm:Fm}{st:St}{s aaQ:Shared}
theorem uL (I:Inv C σ st s){k:Nat->St->Si}(h:st.push .hid (λd st=>st.push (fQ 2 d) k)=Se) :
  ∃st',k (st.n+1) st'=Se/\Step [] σ s (σ++[s.heap.objs.size,s.heap.objs.size+1]) { s with heap:=(s.heap.push Ue).push (cW 244 s.heap.objs.size) } /\
   Inv C (σ++[s.heap.objs.size,s.heap.objs.size+1]) st' { s with heap:=(s.heap.push Ue).push (cW 244 s.heap.objs.size) }/\(σ++[s.heap.objs.size,s.heap.objs.size+1])[st.n+1]? = Sa (s.heap.objs.size+1):=by
 refine St.push_e h λst1 e1 e2 h1=>?_
 refine St.push_e h1 λst2 e3 e4 h2=>?_;clear h1
 rw[e1] at e3 e4 h2
 have n1:s.heap.get? s.heap.objs.size=none:=bD (SQ _)
 have n2:s.heap.get? (s.heap.objs.size+1)=none:=bD (TV _)
 have keep:∀b x,s.heap.get? b=Sa x->((s.heap.push Ue).push (cW 244 s.heap.objs.size)).get? b=Sa x:=λb x e=>br _ _ (br _ _ e)
 have g1:((s.heap.push Ue).push (cW 244 s.heap.objs.size)).get? s.heap.objs.size=Sa Ue:=br _ _ (Heap.get?_push_size _ rfl)
 have g2:((s.heap.push Ue).push (cW 244 s.heap.objs.size)).get? (s.heap.objs.size+1)=Sa (cW 244 s.heap.objs.size):=by
  have:=Heap.get?_push_size (s.heap.push Ue) (o:=cW 244 s.heap.objs.size) rfl
  rw[Heap.size_push] at this;exact this
 have i1:(σ++[s.heap.objs.size,s.heap.objs.size+1])[st.n]? = Sa s.heap.objs.size:=by rw[I.n];simp
 have i2:(σ++[s.heap.objs.size,s.heap.objs.size+1])[st.n+1]? = Sa (s.heap.objs.size+1):=by rw[I.n,TZ (by(exact S9 σ.length 1))];simp
 have hnew:fQ 2 st.n=.lsub 2 st.n [] []:=rfl
 refine⟨st2,h2,⟨⟨_,rfl,λa m=>?_⟩,λb x _ _ e=>keep b x e,rfl,λh=>h⟩,?_,i2⟩
 ·rcases Sv.mp m with m | m
  ·rw[m];exact⟨λq=>S8 (I.size q) (Tj _),.inl n1⟩
  ·rw[Sj.mp m];exact⟨λq=>S8 (I.size q) (Uk.mpr (TV _)),.inl n2⟩
 ·refine I.make (s':={ s with heap:=(s.heap.push Ue).push (cW 244 s.heap.objs.size) }) (o:=fQ 2 st.n) (by(exact Eq.symm ((λ{a b}=>Nat.succ_inj.mp) (SO Tv (_root_.id (Eq.symm e3)))))) (λj=>?_) (by rw[hnew];rfl) keep n2 (by rw[g2];rfl) (bE I (TV _)) n1 (by rw[g1];rfl) (bE I (SQ _)) (SJ (SX _)) ?_
  ·rw[e4]
   by_cases q:j=st.n+1
   ·rw[SR q,SR q]
   ·rw[Sz q,Sz q,e2]
  ·rw[hnew]
   exact⟨rfl,s.heap.objs.size,[],0,[],0,i1,g2,g1,.nil,.nil⟩
end
section
variable {C:Cfg}{fx:Fx}{d:Nat}{A:Around}{env:Env}{σ σ1:List Addr}{fm:Fm}{st:St}{s aaQ:Shared}
structure vt (C:Cfg)(fa:Ss):Prop where
 makes:jw C.K 244=Se
 new:Um C.K (.ref 244) "__new__"=Sa (Sa (.builtin "list.__new__"))
 init:Um C.K (.ref 244) "__init__"=Sa (Sa (.ref fa))
 fn:YN C.K (.ref fa)=Sa (.type "function")
 keep:aas C.K (.ref 244)=Se
theorem EC (Ok:C.Ok) {f:FN}(hok:fx.ok=Se)(hx:x∈fx.gn)(g:GB C x (.ref 244))(N:vt C fa)(hf:eY C d' (.ref fa) f)(hone:∀vs st k,f vs st k=Se->vs.length=2)(hd:d'+1<=d)(hp:aL es)(hs:SA C fx d es cs) :
  SE C fx d (.Call (.Name x p) es [] pos) (iF 2 f cs):=by
 intro A env σ fm st s k R E I F h
 refine Tw (bS Ok hok hx g E I ?_)
 refine bL (k:=λvs st=>st.push .hid λd st=>st.push (fQ 2 d) λn st=>f (.ref n::vs) st λv st=>sK v .none st λb=>aD b (k (.ref n) st) ll) Ok (ji N.keep) hp hs R E I F h λσ' l st' us s' S I' r _ h'=>?_
 refine fD (uL I' h') λst'' h2 S2 I2 i2=>?_
 have hl:=hone _ _ _ h2
 have hu:us.length=1:=by rw[r.length];simpa using hl
 obtain⟨v,rfl⟩:=Sd.length_eq_one_iff.mp hu
 obtain⟨hh,gg,dr,tk,os⟩:=s'
 have X:=I'.X Ok
 refine UI (Hq (nJ X N.makes) (TX X N.init) (λself=>bind_fn X self N.fn) (TX X N.new) ?_)
 have z:=hf (A.under (.builtin "type.__call__" ⟨[.ref 244,v],[]⟩)) _ st'' _ _ (.ref (st'.n+1)::l) [.ref (hh.objs.size+1),v] (Rm.under (R.le (by omega))) I2 (.cons (.ref i2) (S2.vrs .nil r)) h2
 refine VC z ?_
 rintro q s'' z
 rcases q with e | (v | _ | _ | _) <;> first | exact z.elim | skip
 obtain⟨σ3,y,st3,S3,I3,r3,h3⟩:=z
 have hy:y=.none/\k (.ref (st'.n+1)) st3=Se:=by
  cases y with
  | none=>
   have h3:aD Se (k (.ref (st'.n+1)) st3) ll=Se:=h3
   exact⟨rfl,(eH h3).2⟩
  | bool=>exact ff h3
  | int=>exact ff h3
  | str=>exact ff h3
  | ref=>exact ff h3
  | tup=>exact ff h3
 obtain⟨rfl,h4⟩:=hy
 refine VR.none_e r3 ?_
 exact⟨rfl,⟨σ3,_,st3,(S.trans S2).trans S3,I3,.ref (S3.idx i2),h4⟩⟩
end
structure nO (id ty get bt:String):Prop where
 hty:Xq (.builtin id)=pure (.type ty)
 slot:Slot ty "__get__" get
 entry:∃B,entryFor table get=Sa B/\∀(prog:Program) (w:World) (A:Ua) (E:Sn->Sr->Prop) (s:Sr) (x Cl:Ss) (P:Fin->Sr->Prop),Looks (model prog w) s.heap (UJ (.ref x) (.type "list")) Se->Looks (model prog w) s.heap (isType (.ref Cl)) Se ->
  P (.done (.ret (.ref s.heap.objs.size))) { s with heap:=s.heap.push { cls:=.type bt,data:=.fields #[.builtin id,.ref x] } }->So (model prog w) A (B ⟨[.builtin id,.ref x,.ref Cl],[]⟩) P E s
 args:∀a b c,Ws get ⟨[a,b,c],[]⟩
 keep:bt="builtin_function_or_method" \/ bt="method-wrapper"
theorem vj:Slot "method_descriptor" "__get__" "method_descriptor.__get__":=
 .of (owner:="method_descriptor") (n:="__get__") (by rw[typeLookup_type,Y0];kernel_rfl) (by decide +kernel) (by decide +kernel) (by decide +kernel)
  (by first | exact .inl (by decide +kernel) | exact .inr (by decide +kernel)) (by rw[isSubtype_type];kernel_rfl)
theorem sr:entryFor table "method_descriptor.__get__"=Sa Builtin.«method_descriptor.__get__»:=entryFor_of_tree (by kernel_rfl)
theorem u8 (a b c:Sn):Ws "method_descriptor.__get__" ⟨[a,b,c],[]⟩:=by unfold Ws;kernel_rfl
theorem lJ:Slot "wrapper_descriptor" "__get__" "wrapper_descriptor.__get__":=
 .of (owner:="wrapper_descriptor") (n:="__get__") (by rw[typeLookup_type,Y0];kernel_rfl) (by decide +kernel) (by decide +kernel) (by decide +kernel)
  (by first | exact .inl (by decide +kernel) | exact .inr (by decide +kernel)) (by rw[isSubtype_type];kernel_rfl)
theorem kF:entryFor table "wrapper_descriptor.__get__"=Sa Builtin.«wrapper_descriptor.__get__»:=entryFor_of_tree (by kernel_rfl)
theorem mX (a b c:Sn):Ws "wrapper_descriptor.__get__" ⟨[a,b,c],[]⟩:=by unfold Ws;kernel_rfl
theorem At:Xq (.builtin "list.pop")=pure (.type "method_descriptor"):=by show builtinType _=_;rw[XC];kernel_rfl
theorem u7:Xq (.builtin "list.__init__")=pure (.type "wrapper_descriptor"):=by show builtinType _=_;rw[XC];kernel_rfl
theorem yh:Xq (.builtin "list.__len__")=pure (.type "wrapper_descriptor"):=by show builtinType _=_;rw[XC];kernel_rfl
theorem im {M:Model} {s:Sr}{c:Si}{a b:Sem α}{Q:α->Sr->Prop}(hc:c=ll)(h:So M A b Q E s):So M A (if c=Se then a else b) Q E s:=by
 subst hc;exact h
theorem IN {a b:Si}(h:a=ll)(g:b=ll):¬((a || b)=Se):=by rw[h,g];exact Uw
theorem yO:nO "list.pop" "method_descriptor" "method_descriptor.__get__" "builtin_function_or_method":=by
 refine⟨At,vj,⟨_,sr,λprog w A E s x Cl P hi ht hP=>?_⟩,u8,.inl rfl⟩
 unfold Builtin.«method_descriptor.__get__»
 refine oX (TP (a:=(.builtin "list.pop",Sa (.ref x),Sa (.ref Cl))) (by first | rfl | kernel_rfl) ?_)
 dsimp only
 refine im (by decide +kernel) ?_
 refine oX ?_
 refine oX (TP (a:=(("pop":Str),Sn.type "list")) (by first | rfl | kernel_rfl) ?_)
 refine oX (hi.here ?_)
 refine im rfl ?_
 refine Sf ?_
 exact oX (TF (Sf hP))
theorem uR:nO "list.__init__" "wrapper_descriptor" "wrapper_descriptor.__get__" "method-wrapper":=by
 refine⟨u7,lJ,⟨_,kF,λprog w A E s x Cl P hi ht hP=>?_⟩,mX,.inr rfl⟩
 unfold Builtin.«wrapper_descriptor.__get__»
 refine oX (TP (a:=(.builtin "list.__init__",Sa (.ref x),Sa (.ref Cl))) (by first | rfl | kernel_rfl) ?_)
 dsimp only
 refine oX ?_
 refine oX (TP (a:=(("__init__":Str),Sn.type "list")) (by first | rfl | kernel_rfl) ?_)
 refine oX (hi.here ?_)
 refine im rfl ?_
 refine Sf ?_
 exact oX (TF (Sf hP))
theorem yw:nO "list.__len__" "wrapper_descriptor" "wrapper_descriptor.__get__" "method-wrapper":=by
 refine⟨yh,lJ,⟨_,kF,λprog w A E s x Cl P hi ht hP=>?_⟩,mX,.inr rfl⟩
 unfold Builtin.«wrapper_descriptor.__get__»
 refine oX (TP (a:=(.builtin "list.__len__",Sa (.ref x),Sa (.ref Cl))) (by first | rfl | kernel_rfl) ?_)
 dsimp only
 refine oX ?_
 refine oX (TP (a:=(("__len__":Str),Sn.type "list")) (by first | rfl | kernel_rfl) ?_)
 refine oX (hi.here ?_)
 refine im rfl ?_
 refine Sf ?_
 exact oX (TF (Sf hP))
section
variable {prog:Program}{w:World}{M:Model}{A:Around}{E:Value->Shared->Prop}{h:Heap}{g:Array GenState}{d:Drawn}{t:Nat}{os:OsState}
theorem Gy {so x C:Ss}{id get:String}{l₀ l:Sd Sn}{K:Frag}{name:Str} {Q:Fin->Sr->Prop}(B:nO id ty get bt)
  (hso:h.get? so=Sa { cls:=.type "super",dict:=none,data:=.fields #[.ref D,.ref x,.ref C],slots:=#[] }) (hno:Looks (model prog w) h (opaqueClassAbove (.ref C)) none)
  (hC:Looks (model prog w) h (mroOf (.ref C)) l₀) (hl:(l₀.dropWhile (· != .ref D)).drop 1=l) (X:K.In h) (hi:Looks (model prog w) h (UJ (.ref x) (.type "list")) Se) (ht:Looks (model prog w) h (isType (.ref C)) Se)
  (hf:aae K name l=Sa (Sa (.builtin id))) (hxC:x≠C) (hn:(name == ("__class__":Str))=ll)
  (hq:Q (.done (.ret (.ref h.objs.size))) ⟨h.push { cls:=.type bt,data:=.fields #[.builtin id,.ref x] },g,d,t,os⟩) :
  So (model prog w) A (Builtin.«super.__getattribute__» ⟨[.ref so,.str name tk],[]⟩) Q E ⟨h,g,d,t,os⟩:=by
 have hlk:=B.slot.lookup
 have hne:(T5 x == T5 C)=ll:=by simp[hxC]
 have hdt:({ cls:=.type "super",dict:=none,data:=.fields #[.ref D,.ref x,.ref C],slots:=#[] }:Obj).data=.fields #[.ref D,.ref x,.ref C]:=rfl
 have f0:(#[.ref D,.ref x,.ref C]:Array Sn)[0]? = Sa (.ref D):=rfl
 have f1:(#[.ref D,.ref x,.ref C]:Array Sn)[1]? = Sa (.ref x):=rfl
 have f2:(#[.ref D,.ref x,.ref C]:Array Sn)[2]? = Sa (.ref C):=rfl
 refine aE (B.entry) λBi hb run=>?_
 have hT:(⟨h,g,d,t,os⟩:Sr).TypeIs (.builtin id) ty:=B.hty
 unfold Builtin.«super.__getattribute__»
 repeat (first
  | (with_reducible refine TB hso hdt f0 ?_) | (with_reducible refine TB hso hdt f1 ?_) | (with_reducible refine TB hso hdt f2 ?_)
  | (with_reducible refine ks_wpAny_notOpaque hno ?_)
  | (with_reducible refine Looks.at hC ?_;rw[hl])
  | (refine ks_forIn_along X (λ_ _=>rfl) rfl ?_ hf)
  | (with_reducible refine TP B.hty ?_)
  | (with_reducible refine Uc B.slot hT hb ?_ (B.args _ _ _))
  | (with_reducible refine wE (SO (λv=>Bi ⟨[.builtin id,v,.ref C],[]⟩) (Sz (ne_true_of_eq_false hne))) ?_)
  | (refine run _ _ _ _ _ _ _ _ hi ht ?_)
  | (with_reducible refine⟨_,rfl,?_⟩)
  | (with_reducible refine wN (IN rfl hn) ?_) | (with_reducible refine wN (IN hne rfl) ?_) | (with_reducible refine wN (IN rfl hne) ?_) | (with_reducible refine wN (ne_true_of_eq_false hne) ?_)
  | wp_step
  | dsimp only)
 all_goals exact hq
theorem nz {so x C:Ss}{id get:String}{l₀ l:Sd Sn}{K:Frag}{name:Str} {Q:Sn×Sd Sn->Sr->Prop}(B:nO id ty get bt)
  (hso:h.get? so=Sa { cls:=.type "super",dict:=none,data:=.fields #[.ref D,.ref x,.ref C],slots:=#[] }) (hno:Looks (model prog w) h (opaqueClassAbove (.ref C)) none)
  (hC:Looks (model prog w) h (mroOf (.ref C)) l₀) (hl:(l₀.dropWhile (· != .ref D)).drop 1=l) (X:K.In h) (hi:Looks (model prog w) h (UJ (.ref x) (.type "list")) Se) (ht:Looks (model prog w) h (isType (.ref C)) Se)
  (hf:aae K name l=Sa (Sa (.builtin id))) (hxC:x≠C) (hn:(name == ("__class__":Str))=ll)
  (hq:Q (.ref h.objs.size,[]) ⟨h.push { cls:=.type bt,data:=.fields #[.builtin id,.ref x] },g,d,t+1,os⟩) :
  So (model prog w) A (Wv (.ref so) name pl) Q E ⟨h,g,d,t,os⟩:=by
 have hlk:=Wl.lookup
 have hcan:=PySem.F.ks_canon_super_ga
 have hT:∀t',(⟨h,g,d,t',os⟩:Sr).TypeIs (.ref so) "super":=λ_=>⟨_,hso,rfl⟩
 unfold Wv
 refine oX (Vj (hT _) hlk ?_)
 show So _ _ (if (VD "super.__getattribute__" != "object.__getattribute__")=Se then _ else _) _ _ _
 refine wP hcan ?_
 unfold PySem.getAttr getAttrBy
 refine oX (oX (YI (SN (oX (YL (hT _) (oX (TP hlk ?_)))))))
 show So _ _ (VG (.ref so) (.str name t) (.type "super") (.builtin "super.__getattribute__") Se ll) _ _ _
 unfold VG hookBefore Ys WD
 refine oX (TP (show(if onTheHeap (.type "super") then typeLookup (.type "super") "__getattr__" else pure none)=pure none from rfl) ?_)
 refine oX (Vq (SN ?_))
 show So _ _ (bindSpecial (.builtin "super.__getattribute__") (.ref so) >>= _) _ _ _
 refine oX (TP (Wl.bind _) ?_)
 refine Sm (Q:=λv s'=>v=.ref h.objs.size/\s'=⟨h.push { cls:=.type bt,data:=.fields #[.builtin id,.ref x] },g,d,t+1,os⟩) (E:=λ_ _=>False)
  (Uc Wl (hT _) PySem.F.ks_entry_super_ga (Gy B hso hno hC hl X hi ht hf hxC hn ⟨_,rfl,rfl,rfl⟩) (PySem.F.ks_gaArgs_super _ _)) (λv s' hv=>?_) λ_ _ z=>z.elim
 obtain⟨rfl,rfl⟩:=hv
 exact Sf (Sf hq)
end
section
variable {prog:Program}{w:World}{M:Model}{A:Around}{E:Value->Shared->Prop}
theorem CD {u:Ss}{id:String}{x:Sn} {s:Sr} (hk:bt="builtin_function_or_method" \/ bt="method-wrapper")
  (ho:s.heap.get? u=Sa { cls:=.type bt,dict:=none,data:=.fields #[.builtin id,x],slots:=#[] }) (hq:(Code.builtin id ⟨[x],[]⟩).quiet=Se)
  (h:So (model prog w) A.in1 (Vt id ⟨[x],[]⟩) (λ_ s'=>U0 (model prog w) A (.builtin id ⟨[x],[]⟩) (λr s'=>match r with | .ok (.ret v)=>Q v s' | .ok _=>False | .error e=>E e s') s') E s) :
  So (model prog w) A (Xm pos (.ref u) [] [] []) Q E s:=by
 have e1:(Sn.type bt != Sn.type "method")=Se:=by rcases hk with rfl | rfl <;> decide
 have e2:(Sn.type bt == Sn.type "builtin_function_or_method" || Value.type bt == Sn.type "method-wrapper")=Se:=by rcases hk with rfl | rfl <;> decide
 have e3:(Sn.type bt == Sn.type "method" || Value.type bt == Sn.type "builtin_function_or_method" || Value.type bt == Sn.type "method-wrapper")=Se:=by rcases hk with rfl | rfl <;> decide
 unfold Xm
 refine oX (SN ?_)
 have ev:So (model prog w) A (evalArgs (.ref u) Se [] []) (λa s'=>a=⟨[],[]⟩/\s'=s) E s:=by
  unfold evalArgs
  show So _ A (spliced [] >>= _) _ E s
  refine oX (Sf ?_)
  refine oX (Sf (SN ?_))
  exact oX (Sf (oX (Sf (Sf ⟨rfl,rfl⟩))))
 refine Sm ev ?_ λ_ _ z=>z
 rintro a s' ⟨rfl,rfl⟩
 refine oX (Tz ?_)
 dsimp only
 refine oX (m:=keeperOf (.ref u)) ?_
 unfold keeperOf
 refine oX (W8 ho ?_)
 refine wP e1 (wE (SO pure (SR e2)) (Sf ?_))
 show So _ _ (call (.ref u) [] [] >>= _) _ _ _
 refine oX (UI (Xt ?_))
 show So _ _ (callAny (.ref u) _) _ _ _
 unfold callAny
 refine oX (W8 ho (wP e3 ?_))
 show So _ A.in1 (if (Sn.type bt != Sn.type "method")=Se then (do Vt id ⟨[x],[]⟩;again (.builtin id ⟨[x],[]⟩)) else _) _ _ _
 refine wP e1 ?_
 refine oX (Sm h (λ_ s' z=>Sf ⟨hq,VC z λr s'' z=>?_⟩) λ_ _ z=>z)
 rcases r with e | (v | _ | _ | _) <;> first | exact z | exact z.elim | exact oX (SN (wpAny_point (Sf z)))
end
structure oZ (C:Cfg):Prop where
 makes:jw C.K 244=Se
 cell:∃o,C.K.lookup 168=Sa o/\o.data=.cell (Sa (.ref 244))
 opq:aaI C.K cStatics "thirdparty.any"=Sa none
 cls:∃od cd sl,C.K.lookup 244=Sa ⟨.type "type",od,.cls cd,sl⟩/\cd.qualname="_Accumulator" /\ cd.mro=[.ref 244,.type "list",.type "object"]
 nomod:mroIn C.K 244 (.type "module")=Sa ll
 pop:aae C.K "pop" [.type "list",.type "object"]=Sa (Sa (.builtin "list.pop"))
 ini:aae C.K "__init__" [.type "list",.type "object"]=Sa (Sa (.builtin "list.__init__"))
 len:aae C.K "__len__" [.type "list",.type "object"]=Sa (Sa (.builtin "list.__len__"))
 sup:GB C "super" (.type "super")
 top:(C.prog.main.scope.names.lookup ("super":Str)).isSome=ll
structure kO (C:Cfg)(fa:Ss)(fd:XR):Prop where
 obj:∃o,C.K.lookup fa=Sa o/\o.data=.func fd
 par:∃ar,(fd.params.posonlyargs++fd.params.args).head? = Sa ar/\ar.arg=("self":Str)
 code:∃cda oc vs file tf,fd.code=.ref cda/\C.K.lookup cda=Sa oc/\oc.data=.fields vs/\vs[2]? = Sa (.str file tf)/\((C.prog.main.file:Str) == file)=Se
structure gZ (fx:Fx)(env:Env)(fa:Ss)(fd:XR):Prop where
 func:env.func=Sa fa
 code:env.code=fd.code
 cell:env.cells.lookup ("__class__":Str)=Sa 168
 free:env.kindOf ("__class__":Str)=Sa .free
 sup:("super":Str)∈fx.gn
 self:fx.ln[0]? = Sa ("self":Str)
section
variable {C:Cfg}{fx:Fx}{d:Nat}{A:Around}{env:Env}{σ σ1:List Addr}{fm:Fm}{st:St}{s aaQ:Shared}
theorem Em (F:FrR C fx env fm σ s)(hs:fx.ln[0]? = Sa ("self":Str)) (v0:fm.loc[0]? = Sa (Sa (.ref n)))(ha:σ[n]? = Sa a):∃m,s.heap.Ns env.locals m/\m "self"=Sa (.ref a):=by
 refine aE (F.ns) λm hn hv=>?_
 refine aE (hv 0 _ _ hs v0) λu hu r=>?_
 revert hu
 exact VR.ref_e r λb e hu=>⟨m,hn,by rw[Sa.inj (ha.symm.trans e)];exact hu⟩
theorem ms {x Cl:Ss} (I:Uo h x ox Cl od)(k:∀b o,h.get? b=Sa o->h'.get? b=Sa o):Uo h' x ox Cl od:=by
 obtain⟨h1,h2,h3,h4⟩:=I
 refine⟨k _ _ h1,h2,h3,?_⟩
 revert h4
 split <;> intro h4 <;> first | exact k _ _ h4 | exact h4
theorem qc {M:Model} {oD:Obj} (hD:h.get? D=Sa oD)(hd:oD.data=.cls cd):Looks M h (isType (.ref D)) Se:=by
 intro A Q E s k q
 obtain⟨hh,g,dr,tk,os⟩:=s
 exact ks_wpAny_isType_cls (k _ _ hD) hd q
theorem xM (Ok:C.Ok) {v:Sn} (g:GB C x v)(E:bb fx env)(I:Inv C σ st s)(h:Q v s):So C.M A (XN env x) Q Ex s:=by
 unfold XN
 rw[E.glob,E.blt]
 rcases g with g | ⟨g,hn,hb⟩
 ·exact oX ((W9 (I.X Ok) g).here (Sf h))
 ·refine oX ((W9 (I.X Ok) g).here ?_)
  have nb:s.heap.Ns T6 C.mb:=Ok.T.b.keeps I.base
  refine oX (wpAny_nsGet nb ?_)
  rw[Ok.T.builtins x hn,hb]
  exact Sf h
theorem mw (Ok:C.Ok)(S:oZ C) (Fn:kO C fa fd)(Ve:gZ fx env fa fd)(hok:fx.ok=Se){id get:String}{name:Str}(B:nO id ty get bt)(hf:aae C.K name [.type "list",.type "object"]=Sa (Sa (.builtin id)))(hn:(name == ("__class__":Str))=ll)
  {body:Sd Stmt} {p1:Pos} (En:bb fx env) (I:Inv C σ st s) (F:FrR C fx env fm σ s)
  (v0:fm.loc[0]? = Sa (Sa (.ref n))) (ha:σ[n]? = Sa a) (IA:Uo s.heap a ox 244 od) (hdata:∃items k,ox.data=.seq items k) (hq:(Code.builtin id ⟨[.ref a],[]⟩).quiet=Se)
  (h:∀h' t',(∀b o,s.heap.get? b=Sa o->h'.get? b=Sa o)->So C.M A.in1 (Vt id ⟨[.ref a],[]⟩) (λ_ s'=>U0 C.M A (.builtin id ⟨[.ref a],[]⟩) (λr s''=>match r with | .ok (.ret v)=>Q v s'' | .ok _=>False | .error e=>E e s'') s') E { s with heap:=h',toks:=t' })
  (he:eval (.Call (.Attribute (.Call (.Name "super" p0) [] [] p1) name apos) [] [] pos) env=(do
   let ov ←attributeBase (.Call (.Name "super" p0) [] [] p1) name env (eval (.Call (.Name "super" p0) [] [] p1) env)
   UC apos.atName
   let (f,first) ←holding [ov] (Wv ov name pl)
   Xm pos f first (W4 pos (TY [] env)) [])) :
  _root_.PySem.wpAt C.M A (.func body env) (eval (.Call (.Attribute (.Call (.Name "super" p0) [] [] p1) name apos) [] [] pos) env) Q E s:=by
 have X:=I.X Ok
 refine aE (Fn.obj) λof hof hfd=>?_
 refine aE (Fn.par) λar har hself=>?_
 refine OE (Fn.code) λcda oc vs file tf hcode hoc hvs hv2 hfile=>?_
 refine aE (S.cell) λocell hcell hcd=>?_
 refine zR (S.cls) λodc cd sl hcls hqual hmro=>?_
 have Y:qo C.M s.heap 244:=nJ X S.makes
 refine ks_wpAt_MethodCall (pl:=pl) ?_ he
 refine ks_wpAt_super_base (f:=fa) (env:=env) (En.gn _ Ve.sup) Ve.free hn Ve.func (X _ _ hof) hfd har (Ve.code.trans hcode) (X _ _ hoc) hvs hv2 hfile S.top ?_
 refine ks_loadName_global En.kind (En.gn _ Ve.sup) (xM Ok S.sup En I ?_)
 refine⟨rfl,wpAny_loadName_free En.kind Ve.free Ve.cell ⟨_,X _ _ hcell,hcd⟩ ?_⟩
 refine aE (Em F Ve.self v0 ha) λm hns hm=>?_
 rw[hself]
 refine T4 En.kind (En.ln _ (Sp Ve.self)) hns hm ?_
 obtain⟨hh,g,dr,tk,os⟩:=s
 refine ks_wpAny_isType_cls (X _ _ hcls) rfl ⟨rfl,?_⟩
 have hnc:∀c,ox.data≠.cls c:=by refine uK hdata λi k e=>?_;rw[e];intro c z;cases z
 refine ks_wpAny_call_super (X _ _ hcls) rfl IA.at_ IA.cls hnc Y.self λh1 e1 k1=>?_
 have X1:C.K.In h1:=X.keeps k1
 have IA1:Uo h1 a ox 244 od:=ms IA k1
 have T1:Looks C.M h1 (UJ (.ref a) (.type "list")) Se:=IA1.type.andThen (Y.top.keeps k1)
 have ht:Looks C.M h1 (isType (.ref 244)) Se:=qc (X1 _ _ hcls) rfl
 have hmr:Looks C.M h1 (mroOf (.ref 244)) [.ref 244,.type "list",.type "object"]:=by
  intro A Q E s k q
  refine oX ((Zb X1 (show aaA C.K 244=Sa cd from by unfold aaA;rw[hcls])) A _ E s k (Sf ?_))
  rw[hmro];exact q
 have hne:a≠244:=by
  rintro rfl
  have:=IA.at_
  rw[X _ _ hcls] at this
  cases this
  exact hnc cd rfl
 refine nz B e1 (looks_opaque X1 S.opq) hmr rfl X1 T1 ht hf hne hn ?_
 have e2:(h1.push { cls:=.type bt,data:=.fields #[.builtin id,.ref a] }).get? h1.objs.size=Sa { cls:=.type bt,dict:=none,data:=.fields #[.builtin id,.ref a],slots:=#[] }:=Heap.get?_push_size _ rfl
 exact CD B.keep e2 hq (h _ _ λb o e=>Heap.get?_push_of_some _ (k1 b o e))
end
section
variable {prog:Program}{w:World}{A:Around}{E:Value->Shared->Prop}{s:Shared}{R:Result->Shared->Prop}
noncomputable abbrev kC (dx:Ss)(items:Array Sn)(n:Nat):Obj:={ cls:=.ref 244,dict:=Sa dx,data:=.seq items n,slots:=#[] }
theorem DM {y:Sn}(hl:s.heap.get? a=Sa (kC dx items n))(hy:items[items.size - 1]? = Sa y)(hs1:items.size<=UW)
  (h:R (.ok (.ret y)) { s with heap:=s.heap.update a (S5 λxs=>xs.eraseIdxIfInBounds (items.size - 1)) }):U0 (model prog w) A (.builtin "list.pop" ⟨[.ref a],[]⟩) R s:=by
 obtain⟨hp,g,d,tk,os⟩:=s
 have hpos:0<items.size:=by
  rcases Nat.eq_zero_or_pos items.size with h0 | h0
  ·simp[h0] at hy
  ·exact h0
 have hne:¬items.isEmpty=Se:=by
  intro he;have:items.size=0:=by simpa using he
  lia
 have hk:V7 (-1) items.size=Sa (items.size - 1):=by
  rw[seqIndex_neg (by lia) (by lia)];congr 1;lia
 refine UO PySem.F.entry_list_pop ?_
 unfold Builtin.«list.pop»
 wp_walk using Xu hl
 simp only[hk,hy,Va,Uv]
 have hz':(items.eraseIdxIfInBounds (items.size - 1)).size<=UW+1:=Sk (MeetsSeq.size_erased items _) (Vp hs1)
 wp_walk using (U2 hl rfl (hz:=hs1) (_hz':=hz')),Xu hl
 exact h
theorem C8 (hl:s.heap.get? a=Sa (kC dx items n))
  (h:R (.ok (.ret (.int (items.size:Int) s.toks))) { s with toks:=s.toks+1 }):U0 (model prog w) A (.builtin "list.__len__" ⟨[.ref a],[]⟩) R s:=by
 obtain⟨hp,g,d,tk,os⟩:=s
 refine UO PySem.F.entry_list_len ?_
 unfold Builtin.«list.__len__»
 wp_walk using Xu hl
 exact h
theorem B4 (hl:s.heap.get? a=Sa (kC dx items n))(hs1:items.size<=UW)
  (h:R (.ok (.ret .none)) { s with heap:=s.heap.update a (S5 λ_=>#[]) }):U0 (model prog w) A (.builtin "list.__init__" ⟨[.ref a],[]⟩) R s:=by
 obtain⟨hp,g,d,tk,os⟩:=s
 refine UO PySem.F.entry_list_init ?_
 unfold Builtin.«list.__init__»
 wp_walk using (U2 hl rfl (hz:=hs1) (_hz':=by simp)),Xu hl
 exact h
theorem mq {id:String}{x:Sn}{Q:Unit->Sr->Prop}(hk:U9 id=Sa .slot)(hc:Ws id ⟨[x],[]⟩)(h:Q () s):So (model prog w) A (Vt id ⟨[x],[]⟩) Q E s:=by
 unfold Vt
 unfold Ws at hc
 cases hs:Wc id with
 | none=>exact Sf h
 | some sig=>
  rw[hs] at hc
  have hc:XM id sig ⟨[x],[]⟩=pure ():=hc
  rw[hk]
  refine wP rfl ?_
  exact wE hc (Sf h)
theorem xD {odc:SP Ss} {sl:Array (SP Sn)}{Q:Unit->Sr->Prop}(I:Uo s.heap a ox 244 od)(hnc:∀c,ox.data≠.cls c)(hcls:s.heap.get? 244=Sa ⟨.type "type",odc,.cls cd,sl⟩)(hqual:cd.qualname="_Accumulator")
  (hmod:Looks (model prog w) s.heap (aam (.ref 244) (.type "module")) ll) (h:Q () s):So (model prog w) A (Vt "list.pop" ⟨[.ref a],[]⟩) Q E s:=by
 obtain⟨hh,g,dr,tk,os⟩:=s
 have hr:Wc "list.pop"=Sa ⟨.positional,"list.pop","pop",.self,[⟨"index",.posOnly,ll⟩]⟩:=by kernel_rfl
 have hk:U9 "list.pop"=Sa .method:=by decide +kernel
 have hm:Looks (model prog w) hh (UJ (.ref a) (.type "module")) ll:=I.type.andThen hmod
 unfold Vt
 dsimp only[hr,hk]
 show So _ _ (if (ll=Se) then _ else _) _ _ _
 rw[Sz (by decide)]
 refine oX (hm.at ?_)
 refine im (by decide +kernel) ?_
 refine oX (ks_wpAny_isType_inst I.at_ hnc ?_)
 show So _ _ (Xq (.ref a) >>= _) _ _ _
 refine oX (I.type.at ?_)
 dsimp only
 unfold classData
 refine oX (oX (W8 hcls (Sf ?_)))
 refine oX ((Looks.andThen (Looks.ld hcls) .now:Looks (model prog w) hh (Xq (.ref 244)) (.type "type")).at ?_)
 rw[SR (by decide)]
 rw[hqual]
 exact TP (a:=()) (by kernel_rfl) h
end
section
variable {C:Cfg}{fx:Fx}{d:Nat}{A:Around}{env:Env}{σ σ1:List Addr}{fm:Fm}{st:St}{s aaQ:Shared}{fa:Addr}{fd:FuncData}
def GD (C:Cfg)(fx:Fx)(EP:Env->Prop)(d:Nat)(body:Sd Stmt)(e:Expr)(c:CE):Prop:=
 ∀(A:Ua) (env:Env) (σ:Sd Ss) (fm:Fm) (st:St) (s:Sr) (k:V->St->Si),Rm d A->bb fx env->EP env->Inv C σ st s->FrR C fx env fm σ s->c fm st k=Se ->
  _root_.PySem.wpAt C.M A (.func body env) (eval e env) (Out C [] σ s k) cL s
def MH (C:Cfg)(fx:Fx)(EP:Env->Prop)(d:Nat)(body:Sd Stmt)(x:Stmt)(c:CS):Prop:=
 ∀(A:Ua) (env:Env) (σ:Sd Ss) (fm:Fm) (st:St) (s:Sr) (k:Fl->Fm->St->Si),Rm d A->bb fx env->EP env->Inv C σ st s->FrR C fx env fm σ s->c fm st k=Se ->
  _root_.PySem.wpAt C.M A (.func body env) (exec x env) (OutS C fx env σ s k) cL s
def uY (C:Cfg)(fx:Fx)(EP:Env->Prop)(d:Nat)(body:Sd Stmt)(x:Sd Stmt)(c:CS):Prop:=
 ∀(A:Ua) (env:Env) (σ:Sd Ss) (fm:Fm) (st:St) (s:Sr) (k:Fl->Fm->St->Si),Rm d A->bb fx env->EP env->Inv C σ st s->FrR C fx env fm σ s->c fm st k=Se ->
  _root_.PySem.wpAt C.M A (.func body env) (execs x env) (OutS C fx env σ s k) cL s
section
variable {EP:Env->Prop}{body:List Stmt}
theorem jW {x:Stmt}{c:CS}(h:SS C fx d x c):MH C fx EP d body x c:=λA env σ fm st s k R E _ I F q=>Xh (h A env σ fm st s k R E I F q)
theorem bJ {x:Sd Stmt}{c:CS}(h:SL C fx d x c):uY C fx EP d body x c:=λA env σ fm st s k R E _ I F q=>Xh (h A env σ fm st s k R E I F q)
theorem cY {x:Stmt}{xs:Sd Stmt}{cx cxs:CS}(hx:MH C fx EP d body x cx)(hs:uY C fx EP d body xs cxs):uY C fx EP d body (x::xs) (aq cx cxs):=by
 intro A env σ fm st s k R E Ve I F h
 refine ks_wpAt_execs_cons (WU (hx A env σ fm st s _ R E Ve I F h) ?_ λ_ _ e=>e)
 rintro f s' ⟨σ',fl,fm',st',S,I',F',r,h'⟩
 induction fl with
 | nxt=>
  induction f <;> first | exact r.elim | skip
  exact WU (hs A env σ' fm' st' s' k R E Ve I' F' h') (λ_ _ o=>o.trans S) λ_ _ e=>e
 | brk=>induction f <;> first | exact r.elim | exact⟨σ',.brk,fm',st',S,I',F',r,h'⟩
 | cnt=>induction f <;> first | exact r.elim | exact⟨σ',.cnt,fm',st',S,I',F',r,h'⟩
 | ret v=>induction f <;> first | exact r.elim | exact⟨σ',.ret v,fm',st',S,I',F',r,h'⟩
theorem lq {e:Expr}{c:CE} (he:GD C fx EP d body e c):MH C fx EP d body (.Return (Sa e) pos) (dq c):=by
 intro A env σ fm st s k R E Ve I F h
 refine ks_wpAt_Return_some (WU (he A env σ fm st s (λv st=>k (.ret v) fm st) R E Ve I F h) ?_ λ_ _ e=>e)
 rintro u s' ⟨σ1,x,st1,aaU,aaW,aaZ,aaS⟩
 exact⟨σ1,.ret x,fm,st1,aaU.up,aaW,aaU.fr0 F,aaZ,aaS⟩
theorem BU {e:Expr}{c:CE} (hs:∀env,VK e none pos.line env=pure ll)(he:GD C fx EP d body e c):MH C fx EP d body (.Expr e pos) (dI c):=by
 intro A env σ fm st s k R E Ve I F h
 refine ks_wpAt_Expr_any (WU (he A env σ fm st s _ R E Ve I F h) ?_ λ_ _ e=>e) (by unfold interactive;rw[E.kind];rfl) (hs env)
 rintro u s' ⟨σ1,x,st1,aaU,aaW,aaZ,aaS⟩
 cases aaZ with
 | none=>exact⟨σ1,.nxt,fm,st1,aaU.up,aaW,aaU.fr0 F,trivial,aaS⟩
 | _=>exact ff aaS
end
theorem DT {k:Nat->Nat->Nat->Sd (Nat×V)->Sd V->Si}(h:fe v st k=Se):∃n c d fs l,v=.ref n/\st.look n=Sa (.lsub c d fs l)/\k n c d fs l=Se:=by
 refine bO h λn e81 h1=>?_;clear h;subst e81
 refine St.get_e h1 λo ho h2=>?_;clear h1
 refine w0 h2 λc d fs l e81 h3=>?_;clear h2;subst e81
 exact⟨n,c,d,fs,l,rfl,ho,h3⟩
theorem iw {P:Prop} {k:Nat->Nat->Nat->Sd (Nat×V)->Sd V->Si}(h:fe v st k=Se)(H:∀n c d fs l,v=.ref n->st.look n=Sa (.lsub c d fs l)->k n c d fs l=Se->P):P:=by
 refine QW (DT h) λn c d fs l e a q=>?_
 exact H n c d fs l e a q
theorem mW {k:V->Si}(h:fT ll 0 fm st k=Se):∃v,fm.loc[0]? = Sa (Sa v)/\k v=Se:=by
 refine gE (show getL fm.loc 0 (λo=>cU o k) ll=Se from h) λo h1 h2=>?_
 refine gJ h2 λv e81 h3=>?_;clear h2;subst e81
 exact⟨v,h1,h3⟩
inductive QX (σ:Sd Ss)(h:Heap)(n c d:Nat)(fs:Sd (Nat×V))(l:Sd V):Prop
 | mk (a dx:Ss) (es:Sd US) (m:Nat) (vs:Sd Sn) (m':Nat) (hc:c=2) (e:σ[n]? = Sa a) (ed:σ[d]? = Sa dx) (g:h.get? a=Sa (kC dx vs.toArray m')) (gd:h.get? dx=Sa (VM es m)) (r:ER σ h fs es) (rs:VRs σ h l vs) (I:Uo h a (kC dx vs.toArray m') 244 (Sa (VM es m)))
theorem Inv.lsub (I:Inv C σ st s) (ho:st.look n=Sa (.lsub c d fs l)) :
  QX σ s.heap n c d fs l:=by
 obtain⟨a,ha,hc,dx,es,m,vs,m',hdx,hox,hD,er,hvs⟩:=I.at_ n _ ho
 subst hc
 exact⟨a,dx,es,m,vs,m',rfl,ha,hdx,hox,hD,er,hvs,hox,rfl,rfl,hD⟩
def qy (p0 p1:Pos)(name:Str)(apos pos:Pos):Prop:=∃pl:Env->Sem Si,∀env,eval (.Call (.Attribute (.Call (.Name "super" p0) [] [] p1) name apos) [] [] pos) env=(do
   let ov ←attributeBase (.Call (.Name "super" p0) [] [] p1) name env (eval (.Call (.Name "super" p0) [] [] p1) env)
   UC apos.atName
   let (f,first) ←holding [ov] (Wv ov name (pl env))
   Xm pos f first (W4 pos (TY [] env)) [])
theorem zP (Ok:C.Ok)(S:oZ C)(Fn:kO C fa fd)(hok:fx.ok=Se){body:Sd Stmt}{p1:Pos}(hform:qy p0 p1 "__init__" apos pos):GD C fx (λenv=>gZ fx env fa fd) d body (.Call (.Attribute (.Call (.Name "super" p0) [] [] p1) "__init__" apos) [] [] pos) E9:=by
 intro A env σ fm st s k R E Ve I F h
 refine aE (mW h) λv v0 h1=>?_
 refine iw h1 λn c d' fs l e81 ho h2=>?_;clear h1;subst e81
 obtain⟨a,dx,es,m,vs,m',rfl,ha,hdx,hox,hD,er,hvs,IA⟩:=I.lsub ho
 refine bH hform λpl he=>?_
 refine mw (pl:=pl env) Ok S Fn Ve hok uR S.ini (by decide) E I F v0 ha IA ⟨_,_,rfl⟩ (by kernel_rfl) (λh' t' hk=>?_) (he env)
 refine t9 h2 λe81 h2=>?_;subst e81
 refine St.set_e h2 λst' e1 e2 e81 h3=>?_;clear h2;refine dH e81 λe3 _=>?_
 have I':Inv C σ st { s with heap:=h',toks:=t' }:=I.grow hk
 have S':Step [] σ s σ { s with heap:=h',toks:=t' }:=Step.all hk
 have hox':h'.get? a=Sa (kC dx vs.toArray m'):=hk _ _ hox
 have ma:a∈σ:=Sp ha
 cases hvs
 refine mq (by decide +kernel) (PySem.F.args_list_init_1 _) (B4 (s:={ s with heap:=h',toks:=t' }) hox' (Td _) ?_)
 refine⟨σ,.none,st',S'.trans (Step.wrote (t:=t') ma),I'.putSub (t:=t') ho ha hox' e1 e2 e3 ?_,.none,h3⟩
 simpa using VRs.nil
theorem CU (Ok:C.Ok)(S:oZ C)(Fn:kO C fa fd)(hok:fx.ok=Se){body:Sd Stmt}{p1:Pos}(hform:qy p0 p1 "__len__" apos pos):GD C fx (λenv=>gZ fx env fa fd) d body (.Call (.Attribute (.Call (.Name "super" p0) [] [] p1) "__len__" apos) [] [] pos) ES:=by
 intro A env σ fm st s k R E Ve I F h
 refine aE (mW h) λv v0 h1=>?_
 refine iw h1 λn c d' fs l e81 ho h2=>?_;clear h1;subst e81
 obtain⟨a,dx,es,m,vs,m',rfl,ha,hdx,hox,hD,er,hvs,IA⟩:=I.lsub ho
 refine bH hform λpl he=>?_
 refine mw (pl:=pl env) Ok S Fn Ve hok yw S.len (by decide) E I F v0 ha IA ⟨_,_,rfl⟩ (by kernel_rfl) (λh' t' hk=>?_) (he env)
 have I':Inv C σ st { s with heap:=h',toks:=t' }:=I.grow hk
 have S':Step [] σ s σ { s with heap:=h',toks:=t' }:=Step.all hk
 have hox':h'.get? a=Sa (kC dx vs.toArray m'):=hk _ _ hox
 refine aM h2 λ_ h3=>?_;clear h2
 rw[aC] at h3
 refine mq (by decide +kernel) (PySem.args_list_len _) (C8 (s:={ s with heap:=h',toks:=t' }) hox' ?_)
 rw[Su,hvs.length]
 exact(cQ (s:={ s with heap:=h',toks:=t' }) I' _ (.int _ _) h3).trans S'
theorem Dj (Ok:C.Ok)(S:oZ C)(Fn:kO C fa fd)(hok:fx.ok=Se){body:Sd Stmt}{p1:Pos}(hform:qy p0 p1 "pop" apos pos):GD C fx (λenv=>gZ fx env fa fd) d body (.Call (.Attribute (.Call (.Name "super" p0) [] [] p1) "pop" apos) [] [] pos) Fh:=by
 intro A env σ fm st s k R E Ve I F h
 refine aE (mW h) λv v0 h1=>?_
 refine iw h1 λn c d' fs l e81 ho h2=>?_;clear h1;subst e81
 obtain⟨a,dx,es,m,vs,m',rfl,ha,hdx,hox,hD,er,hvs,IA⟩:=I.lsub ho
 refine bH hform λpl he=>?_
 refine zR (S.cls) λodc cd sl hcls hqual hmro=>?_
 refine mw (pl:=pl env) Ok S Fn Ve hok yO S.pop (by decide) E I F v0 ha IA ⟨_,_,rfl⟩ (by kernel_rfl) (λh' t' hk=>?_) (he env)
 refine lF h2 λx r e81 h3=>?_;clear h2;subst e81
 refine aM h3 λhl h4=>?_;clear h3
 have hl:=bT hl
 rw[aC] at hl
 refine St.set_e h4 λst' e1 e2 e81 h5=>?_;clear h4;refine dH e81 λe3 _=>?_
 have I':Inv C σ st { s with heap:=h',toks:=t' }:=I.grow hk
 have S':Step [] σ s σ { s with heap:=h',toks:=t' }:=Step.all hk
 have X':C.K.In h':=I'.X Ok
 have hox':h'.get? a=Sa (kC dx vs.toArray m'):=hk _ _ hox
 have ma:a∈σ:=Sp ha
 have hlen:vs.length=(x::r).length:=hvs.length
 have hz:vs.length - 1<vs.length:=by rw[hlen];simp
 refine xD (s:={ s with heap:=h',toks:=t' }) (ms IA hk) (λc=>by intro z;cases z) (X' _ _ hcls) hqual (Vn X' S.nomod) (DM (s:={ s with heap:=h',toks:=t' }) (y:=vs[vs.length - 1]) hox' (by simp[Sw hz]) (by rw[Su,hlen];exact Sk hl (bo rfl)) ?_)
 refine⟨σ,oJ r x,st',S'.trans (Step.wrote (t:=t') ma),I'.putSub (t:=t') ho ha hox' e1 e2 e3 ?_,?_,h5⟩
 ·rw[AS]
  have e:((vs.toArray).eraseIdxIfInBounds (vs.toArray.size - 1)).toList=vs.dropLast:=by
   rw[Array.eraseIdxIfInBounds,dif_pos (by rw[Su];exact hz)]
   simp
  rw[e,Y1,Y1]
  have q:=hvs.take ((x::r).length - 1)
  rw[show vs.length - 1=(x::r).length - 1 by rw[hlen]]
  exact S'.vrs .nil q
 ·rw[B6,Sd.getLast_eq_getElem]
  refine aE (hvs.get (i:=(x::r).length - 1) (Sw (by simp))) λu hu ru=>?_
  have:u=vs[vs.length - 1]:=by
   rw[←hlen,Sw hz] at hu
   exact(Sa.inj hu).symm
  subst this
  exact gq ma (S'.vr .nil ru)
end
section
variable {C:Cfg}{fx:Fx}{d:Nat}{A:Around}{env:Env}{σ σ1:List Addr}{fm:Fm}{st:St}{s aaQ:Shared}
inductive TabCode (K:Frag)(c T:Ss):Prop
 | mk (o:Obj) (vs:Array Sn) (file:Str) (tf:Tok) (flags:Int) (tg:Tok) (wI:Si) (text:Int) (tt:Tok) (h1:K.lookup c=Sa o) (h2:o.data=.fields vs) (h3:vs.getD 11 .none=.ref T) (h4:vs.getD 18 .none=.str file tf)
  (h5:vs.getD 7 .none=.int flags tg) (h6:vs.getD 9 .none=.bool wI) (h7:vs.getD 10 .none=.int text tt) (h8:o.cls=.type "code") (h9:vs[11]? = Sa (.ref T))
structure ju (C:Cfg)(t:lN):Prop where
 mem:t∈C.tabs
 one:∀t'∈C.tabs,t'.tab=t.tab->t'=t
 code:TabCode C.K t.code t.tab
theorem TabCode.isCode {K:Frag}{c T:Ss}(x:TabCode K c T) (X:K.In h){op:Obj}{ps:Array Sn}(g:h.get? T=Sa op)(hd:op.data=.fields ps)(tr:Yn ps.toList)(ne:c≠T):h.IsCode c T ps:=by
 induction x with
 | mk o vs file tf flags tg wI text tt h1 h2 h3 h4 h5 h6 h7 _ _=>exact⟨o,vs,file,tf,flags,tg,wI,text,tt,op,X _ _ h1,h2,h3,h4,h5,h6,h7,g,hd,tr,ne⟩
theorem TabCode.head {K:Frag}{c T:Ss}(x:TabCode K c T):∃o vs,K.lookup c=Sa o/\o.cls=.type "code" /\ o.data=.fields vs/\vs[11]? = Sa (.ref T):=by
 induction x with
 | mk o vs _ _ _ _ _ _ _ h1 h2 _ _ _ _ _ h8 h9=>exact⟨o,vs,h1,h8,h2,h9⟩
theorem isCode (Ok:C.Ok)(I:Inv C σ st s){t:lN}(k:ju C t):∃j ps,σ[j]? = Sa t.tab/\Safe st j/\s.heap.IsCode t.code t.tab ps/\s.heap.TableAt t.code t.tab ps/\(t.lam=Se->∀cv,W3 t.pos ps.toList=Sa cv->∃j c,cv=.ref c/\σ[j]? = Sa c/\Safe st j/\(∀P∈C.tabs.map (·.tab),P≠c)/\s.heap.CodeRec cv t.q)/\Yn ps.toList:=by
 obtain⟨j,hj,sj,ps,g,tr,cv⟩:=I.tabs t k.mem
 refine Kp k.code.head λo vs h1 h8 h2 h9=>?_
 refine⟨j,ps,hj,sj,k.code.isCode (I.X Ok) g rfl tr λq=>?_,⟨⟨o,vs,I.X Ok _ _ h1,h8,h2,h9⟩,g⟩,cv,tr⟩
 have e:=Ok.X _ _ h1
 rw[q,(I.new _ (Sp hj)).1] at e
 exact iq e
theorem Inv.tabCore (I:Inv C σ st s){t:lN}(m:t∈C.tabs) {tk:Nat}(hk:∀b o,b≠t.tab->s.heap.get? b=Sa o->h'.get? b=Sa o)(hs:(h'.get? t.tab).isSome=Se):Inv { C with tabs:=[] } σ st { s with heap:=h',toks:=tk }:=by
 obtain⟨j,hj,sj,-⟩:=I.tabs t m
 have mt:t.tab∈σ:=Sp hj
 have apart:∀{i:Nat} {b:Ss},i≠j->σ[i]? = Sa b->b≠t.tab:=λhi hb q=>hi (I.inj hb (q▸hj))
 refine⟨λb x e=>hk b x (λq=>by have e:C.aa3.get? b=Sa x:=e;rw[q,(I.new _ mt).1] at e;exact iq e) (I.base b x e),I.nodup,λa m=>⟨(I.new a m).1,?_⟩,I.n,λi x e=>?_,I.dict,I.apart,λ_ m=>(nomatch m),λi a o m=>?_⟩
 ·by_cases q:a=t.tab
  ·exact q▸hs
  ·refine bH (S1.mp (I.new a m).2) λo e=>?_
   exact S1.mpr ⟨o,hk _ _ q e⟩
 ·obtain⟨a,ha,r⟩:=I.at_ i x e
  refine⟨a,ha,?_⟩
  by_cases hi:i=j
  ·subst hi
   cases sj.1.symm.trans e
   trivial
  ·exact r.mono (λ_ _ e=>e) (λb vs n m e=>⟨m,hk b _ (λq=>m (q▸mt)) e⟩) (λy g=>hk a y (apart hi ha) g) λd dx hd hdx y g=>hk dx y (apart (sj.dict e hd) hdx) g
 ·obtain⟨q1,q2,q3,l,q4⟩:=I.fix i a o m
  refine⟨q1,q2,hk a o (λz=>?_) q3,l,q4⟩
  cases I.inj q2 (z▸hj)
  exact nomatch sj.1.symm.trans q4
theorem Inv.tabWrite (I:Inv C σ st s){t:lN}(k:ju C t) {tk:Nat}{ps:Array Sn}(hk:∀b o,b≠t.tab->s.heap.get? b=Sa o->h'.get? b=Sa o)(hg:h'.get? t.tab=Sa { cls:=.none,data:=.fields ps })(htr:Yn ps.toList)
  (hl:t.lam=Se->∀cv,W3 t.pos ps.toList=Sa cv->∃j c,cv=.ref c/\σ[j]? = Sa c/\Safe st j/\(∀P∈C.tabs.map (·.tab),P≠c)/\h'.CodeRec cv t.q) :
  Inv C σ st { s with heap:=h',toks:=tk }:=by
 obtain⟨j,hj,sj,-⟩:=I.tabs t k.mem
 have J:=I.tabCore (tk:=tk) k.mem hk (hg▸rfl)
 refine⟨J.base,J.nodup,J.new,J.n,J.at_,J.dict,J.apart,λt' m'=>?_,J.fix⟩
 by_cases q:t'.tab=t.tab
 ·rw[k.one t' m' q]
  exact⟨j,hj,sj,ps,hg,htr,hl⟩
 ·obtain⟨j',hj',sj',ps',g,tr,cv⟩:=I.tabs t' m'
  refine⟨j',hj',sj',ps',hk _ _ q g,tr,λhlam v hv=>?_⟩
  obtain⟨i,c,rfl,hi,si,hp,c',o',vs',u,e,g',r⟩:=cv hlam v hv
  cases e
  exact⟨i,c,rfl,hi,si,hp,c,o',vs',u,rfl,hk c _ (λz=>hp _ (UM k.mem) z.symm) g',r⟩
theorem nA (Ok:C.Ok)(I:Inv C σ st s){t:lN}(k:ju C t)(hl:t.lam=ll)(hcode:env.code=.ref t.code) {q:Str} 
  (h:∀code h' tk,(∀b o,b≠t.tab->s.heap.get? b=Sa o->h'.get? b=Sa o)->Inv C σ st { s with heap:=h',toks:=tk }->Q code { s with heap:=h',toks:=tk }):So C.M A (genexprCode env pos q scope) Q E s:=by
 refine qh (isCode Ok I k) λj ps hj sj hic hta _ _=>?_
 cases hf:W3 pos ps.toList with
 | none=>
  refine wpAny_genexprCodeX hcode hic hta hf λc' h' tk hext _ _ hic' _ hta' _=>h _ _ _ hext (I.tabWrite k hext hta'.2 ?_ (λz=>by rw[hl] at z;exact ff z))
  obtain⟨o,vs,file,tf,flags,tg,wI,text,tt,op,q1,q2,q3,q4,q5,q6,q7,q8,q9,q10,q11⟩:=hic'
  exact q10
 | some cv=>
  obtain⟨o,vs,file,tf,flags,tg,wI,text,tt,op,ho,hd,h11,h2,h7,h9,h10,hop,hpd,htr,hne⟩:=id hic
  unfold genexprCode codeAt
  rw[hcode,Sz (show ¬((T5 t.code == XS)=Se) from Vz)]
  refine oX (wpAny_fieldsOf ho hd ?_)
  rw[h11]
  refine oX (wpAny_fieldsOf hop hpd ?_)
  rw[hf]
  exact Sf (h cv s.heap s.toks (λ_ _ _ e=>e) I)
end
section
variable {prog:Program}{w:World}{A:Around}{E:Value->Shared->Prop}{s:Shared}{I:Addr}{fp wr:List Addr}{G:Array GenState->Array GenState->Prop}{n:Nat}{P:Nat->Value->Prop}{St:Nat->Shared->Prop}
def R5 (St:Nat->Sr->Prop):Nat->Sr->Prop
 | 0,_=>False
 | i+1,s=>St i s
def RV (P:Nat->Sn->Prop):Nat->Sn->Prop
 | 0,_=>False
 | i+1,v=>P i v
noncomputable def Ot (k:Int)(val:Nat->Int):Nat->Int
 | 0=>k
 | i+1=>val i
theorem WalksS.up (W:WalksS prog w A I fp wr G n P St):WalksS prog w A I fp wr G (n+1) (RV P) (R5 St) where
 sub:=W.sub
 grefl:=W.grefl
 gtrans:=W.gtrans
 frame:=λi s h' tk st ht hk=>by
  induction i with
  | zero=>exact st.elim
  | succ i=>exact W.frame i s h' tk st ht hk
 item:=λi s Q E hi st hQ=>by
  induction i with
  | zero=>exact st.elim
  | succ i=>exact W.item i s Q E (by lia) st λv s' hP hs hm=>hQ v s' hP hs hm
 done:=λs Q E st hQ=>W.done s Q E st hQ
 self:=λi s Q E st hQ=>by
  induction i with
  | zero=>exact st.elim
  | succ i=>exact W.self i s Q E st hQ
theorem jY (k:Int)(val:Nat->Int):∀i,Xa (Ot k val) (i+1)=k+Xa val i
 | 0=>by show(0:Int)+k=k+0;lia
 | i+1=>by
  show Xa (Ot k val) (i+1)+val i=k+(Xa val i+val i)
  rw[jY k val i];lia
theorem xz (a b:Sn):Ws "sum" ⟨[a,b],[]⟩:=by unfold Ws;kernel_rfl
theorem mM {x:Sn}{st:Int}{ts:Tok} 
  (h:So (model prog w) A.in1 (XO x) (λit aaR=>∃I fp wr G n P St val,it=.ref I/\WalksS prog w A.in1 I fp wr G n P St/\St 0 aaR/\(∀b∈fp,b<aaR.heap.objs.size) /\
   (∀i v,P i v->∃t,v=.int (val i) t) /\
   ∀s' t',Moved wr G aaR s'->Q (.int (st+Xa val n) t') s') E s) :
  So (model prog w) A (call (.builtin "sum") [x,.int st ts]) Q E s:=by
 refine call_function_tree F.kind_sum F.plain_sum F.entry_sum (xz _ _) ?_
 unfold Builtin.«sum»
 dsimp only[Tc,VI]
 rw[Sz (by decide)]
 refine oX (TP (show VV "sum" ["start"] 0 ⟨[.int st ts],[]⟩=pure [Sa (.int st ts)] from rfl) ?_)
 refine oX (Sm h (λit aaR aa2=>?_) λ_ _ e=>e)
 obtain⟨I,fp,wr,G,n,P,St,val,rfl,W,hst,hfp,hval,hQ⟩:=aa2
 have fin:∀(tk:Nat) (stage:Int) (tt:Tok),aaR.toks<=tk->(stage=0\/stage=2)->So (model prog w) A.in1 (do
   for (ty,what,hint) in [("str","strings","''"),("bytes","bytes","b''"),("bytearray","bytearray","b''")] do
    if ←UJ (.int st tt) (.type ty) then
     rule "sum.start-refused";raiseError "TypeError" s!"sum() can't sum {what} [use {hint}.join(seq) instead]"
   again (.builtin "sum.loop" ⟨[.ref I,←Zz [.int st tt],Vy stage,Vy 0],[]⟩))
   (λfin s'=>match fin with | .done f=>wants Q E (.ok f) s' | .again c'=>c'.quiet=Se/\U0 (model prog w) A c' (wants Q E) s') (λe s'=>wants Q E (.error e) s') { aaR with toks:=tk }:=by
  intro tk stage tt htk hstage
  dsimp only[Uu,WN]
  refine oX (oX (oX (Vb (T:="int") (b:=ll) (W5 _ _ _) PySem.sub_int_str ?_)))
  refine wN (by decide) ?_
  refine Sf (oX (oX (Vb (T:="int") (b:=ll) (W5 _ _ _) PySem.sub_int_bytes ?_)))
  refine wN (by decide) ?_
  refine Sf (oX (oX (Vb (T:="int") (b:=ll) (W5 _ _ _) PySem.sub_int_bytearray ?_)))
  refine wN (by decide) ?_
  refine Sf (Sf ?_)
  refine oX (TF ?_)
  have hSf:aaR.heap.objs.size∉fp:=λhm=>Tj _ (hfp _ hm)
  have e1:Xa (Ot st val) 1=st:=by rw[jY];show st+0=st;lia
  have L:=codeAny_sum_loopAnyS (R:=wants Q E) (WalksS.up W) (Ot st val) (λi v hp=>by
   induction i with
   | zero=>exact hp.elim
   | succ i=>exact hval i v hp) aaR.heap.objs.size hSf n 1 (s:={ aaR with heap:=aaR.heap.push { cls:=.type "list",data:=.seq #[.int st tt] },toks:=tk }) tt 0 stage hstage (by lia) (by lia) (W.frame 0 aaR _ _ hst htk λb _ o e=>Heap.get?_push_of_some _ e) (by rw[e1];exact Heap.get?_push_size _ rfl) λs' t' hm=>by
    rw[jY]
    exact hQ s' t' (hm.drop_new (by exact htk))
  exact Sf ⟨Wk F.plain_sum_loop _,L⟩
 dsimp only
 split
 ·exact oX (U1 (oX (wpAny_mkInt (oX (Sf (fin _ 0 _ (TV _) (.inl rfl)))))))
 ·exact oX (Sf (fin _ 2 _ (SQ _) (.inr rfl)))
end
section
variable {C:Cfg}{fx:Fx}{d:Nat}{A:Around}{env:Env}{σ σ1:List Addr}{fm:Fm}{st:St}{s aaQ:Shared}
theorem yF:U9 "list.__iter__"=Sa .slot:=by decide +kernel
theorem vm:Zw "list.__iter__"=Sa ("list","__iter__"):=by decide +kernel
theorem vL (J:cJ C)(JS:eP C){x:Ss} (X:C.K.In s.heap)(I:Uo s.heap x ox 244 od)
  (h:Q (.ref s.heap.objs.size) { s with heap:=s.heap.push { cls:=.type "list_iterator",data:=.fields #[.ref x,.int 0 0] } }):So C.M A (XO (.ref x)) Q E s:=by
 have T:Looks C.M s.heap (UJ (.ref x) (.type "list")) Se:=I.type.andThen (Vn X J.subL)
 unfold XO
 refine oX (oX (I.type.here ((TX X JS.iter).here ?_)))
 show So _ _ (Xn _ _ _ >>= _) _ _ _
 unfold Xn bindSpecialIfBound?
 refine oX (SN ?_)
 refine oX (oX (oX (I.type.here ((TX X JS.iter).here ?_))))
 dsimp only
 rw[Zf.bind]
 refine oX (Yt ?_)
 have fin:So C.M A (do let r ←call (.builtin "list.__iter__") [.ref x];pure (Sa r)) (λa s'=>∃it,a=Sa it/\it=.ref s.heap.objs.size/\s'={ s with heap:=s.heap.push { cls:=.type "list_iterator",data:=.fields #[.ref x,.int 0 0] } }) E s:=by
  refine oX (UI (UX Zf.plain entry_list_iter (jb (.inl yF) vm T (args_list_iter _) ?_)))
  show So _ _ (do ret (←newFields "list_iterator" [.ref x,Vy 0])) _ _ s
  exact oX (TF (Sf (Sf ⟨_,rfl,rfl,rfl⟩)))
 split
 ·refine oX (Sf (Sf ?_))
  dsimp only
  refine im rfl (Sm fin ?_ λ_ _ e=>e)
  rintro _ _ ⟨it,rfl,rfl,rfl⟩
  exact oX (Vj ⟨_,Heap.get?_push_size _ rfl,rfl⟩ Vf.lookup (Sf h))
 ·refine WV (oX (Sf (Sf ?_)))
  dsimp only
  refine im rfl (Sm fin ?_ λ_ _ e=>e)
  rintro _ _ ⟨it,rfl,rfl,rfl⟩
  exact oX (Vj ⟨_,Heap.get?_push_size _ rfl,rfl⟩ Vf.lookup (Sf h))
def SeqAt (h:Heap)(l:Ss)(items:Array Sn):Prop:=∃o n,h.get? l=Sa o/\o.data=.seq items n
theorem ke {it l:Ss} {x:Sn} {Q:SP Sn->Sr->Prop}(hit:s.heap.IsListIter it l i)(hl:SeqAt s.heap l items)(hx:items[i]? = Sa x)
  (hQ:∀h',h'.IsListIter it l (i+1)->Heap.SameBut it s.heap h'->Q (Sa x) { s with heap:=h' }):So C.M A (UK (.ref it)) Q E s:=by
 refine fF (id hit) λo ho hc hd=>?_
 refine fB hl λol nl hol hdl=>?_
 unfold UK
 refine oX (Vq (T3 (name:=TT "__next__") hit.typeIs Vf (Uc Vf hit.typeIs entry_listiter_next ?_ (args_listiter_next _))))
 refine oX (m:=field (.ref it) 0) (TB ho hd (x:=.ref l) rfl ?_)
 refine im (c:=T5 l == XS) rfl ?_
 refine oX (m:=field (.ref it) 1) (TB ho hd (x:=.int i 0) rfl ?_)
 refine oX (m:=Wu (.ref l)) (T2 hol hdl ?_)
 simp only[aaf,hx]
 refine oX (wpAny_setField ho hd (by simp) (Sf ⟨x,rfl,Sf (hQ _ ?_ (Heap.SameBut.update ..))⟩))
 refine⟨_,Heap.get?_update_self _ ho (Obj.isFreed_of_fields (Z0 hd _)),(Obj.cls_mapFields ..).trans hc,?_⟩
 rw[Z0 hd]
 simp[Vy]
theorem th {it l:Ss} {Q:SP Sn->Sr->Prop}(hh:A.handled=none)(hit:s.heap.IsListIter it l i)(hl:SeqAt s.heap l items)(hx:items[i]? = none)
  (hQ:∀h',Heap.ExtBut it s.heap h'->Q none { s with heap:=h' }):So C.M A (UK (.ref it)) Q E s:=by
 refine fF (id hit) λo ho hc hd=>?_
 refine fB hl λol nl hol hdl=>?_
 unfold UK
 refine oX (Vq (T3 (name:=TT "__next__") hit.typeIs Vf (Uc Vf hit.typeIs entry_listiter_next ?_ (args_listiter_next _))))
 refine oX (m:=field (.ref it) 0) (TB ho hd (x:=.ref l) rfl ?_)
 refine im (c:=T5 l == XS) rfl ?_
 refine oX (m:=field (.ref it) 1) (TB ho hd (x:=.int i 0) rfl ?_)
 refine oX (m:=Wu (.ref l)) (T2 hol hdl ?_)
 simp only[aaf,hx]
 refine oX (U1 (oX (wpAny_setField ho hd (by simp) ?_)))
 unfold SmallTypes.stopIteration
 wp_walk
 unfold raiseNew
 refine oX (ZS ?_)
 rw[show A.in1.handled=none from hh]
 refine oX (Sf (wpAny_throw ?_))
 exact oX (Vb (T:="StopIteration") (b:=Se) ⟨_,Heap.get?_push_size _ rfl,rfl⟩ Zm (Sf (hQ _ (((Heap.SameBut.update ..).extBut.push _).push _))))
def qH (h:Heap)(vs:Sd Sn)(ps:Sd (Sd Nat×Sd Nat)):Prop:=vs.length=ps.length/\∀(i:Nat)(p:Sd Nat×Sd Nat),ps[i]? = Sa p->∃T n x y,vs[i]? = Sa (T5 T)/\h.get? T=Sa (cK [.str ⟨p.1.toArray⟩ x,.str ⟨p.2.toArray⟩ y] n)
def Kl (ps:Sd (Sd Nat×Sd Nat))(i:Nat)(vals:Array Sn):Prop:=∃(p:Sd Nat×Sd Nat)(x y:Tok),ps[i]? = Sa p/\vals=#[aaN ⟨p.1.toArray⟩ x,aaN ⟨p.2.toArray⟩ y]
theorem yL {ax I:Ss} {ps:Sd (Sd Nat×Sd Nat)} (hh:A.handled=none)(hax:ax≠I)(hfp:I∈fp)(hfa:ax∈fp)(hT:∀T,T5 T∈vs->T∈fp/\T≠I) :
  WalksU C.prog C.w A I fp [I] ps.length (Kl ps) (λi h=>h.IsListIter I ax i/\SeqAt h ax vs.toArray/\qH h vs ps) (λi T h=>(h.IsListIter I ax (i+1)/\SeqAt h ax vs.toArray/\qH h vs ps)/\T≠I) where
 sub:=λb hb=>by rw[Sj.mp hb];exact hfp
 frame:=λi h h' st hk=>by
  refine xY st λh80 h81 c1 c2=>?_;obtain⟨o,a1,a2⟩:=h80;obtain⟨ol,nl,b1,b2⟩:=h81
  refine⟨⟨o,hk I hfp o a1,a2⟩,⟨ol,nl,hk ax hfa ol b1,b2⟩,c1,λi p e=>?_⟩
  refine lT (c2 i p e) λT n x y e1 e2=>?_
  exact⟨T,n,x,y,e1,hk T (hT T (Sp e1)).1 _ e2⟩
 item:=λi s Q E hi st hQ=>by
  refine xY st λhit hsq c1 c2=>?_
  refine lT (c2 i _ (Sw hi)) λT n x y e1 e2=>?_
  refine ke hit hsq (x:=.ref T) (by simpa using e1) λh' hit' hs=>?_
  have keep:∀b o,b≠I->s.heap.get? b=Sa o->h'.get? b=Sa o:=λb o hb e=>hs.extBut b o hb e
  have hTI:=(hT T (Sp e1)).2
  refine hQ T _ h' s.toks ⟨_,x,y,Sw hi,rfl⟩ ⟨_,keep T _ hTI e2,rfl,n,rfl⟩ ⟨⟨hit',?_,c1,λj p e=>?_⟩,hTI⟩ λb o hb e=>keep b o (λq=>hb (Sj.mpr q)) e
  ·refine fB hsq λol nl b1 b2=>?_
   exact⟨ol,nl,keep _ _ hax b1,b2⟩
  ·refine lT (c2 j p e) λT' n' x' y' e3 e4=>?_
   exact⟨T',n',x',y',e3,keep T' _ (hT T' (Sp e3)).2 e4⟩
 go:=λelts k pos i T s Q E hm hQ=>by
  refine dH hm λst hTI=>?_
  refine fF st.1 λo a1 a2 a3=>?_
  unfold Tx
  skip
  refine oX (W8 a1 ?_)
  rw[a2,a3]
  skip
  refine im (by rfl) (Sf (hQ _ st λb o _ e=>e))
 apart:=λi T h hm hb=>hm.2 (Sj.mp hb)
 done:=λs Q E st hQ=>by
  refine xY st λhit hsq c1 c2=>?_
  refine th hh hit hsq (by simp[←c1]) λh' hx=>hQ h' s.toks λb o hb e=>hx b o (λq=>hb (Sj.mpr q)) e
 self:=λ_ _ _ _ st hQ=>YY st.1 hQ
end
section
variable {C:Cfg}{fx:Fx}{d:Nat}{A:Around}{env:Env}{σ σ1:List Addr}{fm:Fm}{st:St}{s aaQ:Shared}
structure lZ (C:Cfg):Prop where
 at_:∃bm ob,C.mg "__builtins__"=Sa (.ref bm)/\bm≠T6/\C.aa3.get? bm=Sa ob/\ob.cls=.type "module" /\ ob.dict=Sa T6/\ob.data=.plain
theorem nF (Ok:C.Ok)(B:lZ C)(H:∀b o,C.aa3.get? b=Sa o->s.heap.get? b=Sa o){r:Ss}(hg:g=SY) {Q:Ss->Sr->Prop}(h:Q T6 s):So C.M A (builtinsFor g r) Q E s:=by
 subst hg
 refine qh (B.at_) λbm ob h1 h2 h3 h4 h5 h6=>?_
 exact wpAny_builtinsFor (Ok.T.g.keeps H) h1 h2 (H _ _ h3) h4 h5 h6 h
theorem Br {k:Sd Nat->Si}(h:dC v k=Se):∃y,(∃a b,v=.tup [.str a,.str b]/\y=a++b)/\k y=Se:=by
 refine aE (kZ h) λl e81 h1=>?_;subst e81
 refine fB (FE h1) λx y e82 h2=>?_;subst e82
 refine aE (pL h2) λa e81 h3=>?_;subst e81
 refine aE (pL h3) λb e81 h4=>?_;subst e81
 exact⟨_,⟨a,b,rfl,rfl⟩,by rw[bf] at h4;exact h4⟩
theorem vN {k:Sd (Sd Nat)->Si}(h:dY dC l k=Se):∃ps:Sd (Sd Nat×Sd Nat),l=ps.map (λp=>.tup [.str p.1,.str p.2])/\k (ps.map λp=>p.1++p.2)=Se:=by
 induction l generalizing k with
 | nil=>exact⟨[],rfl,h⟩
 | cons v l ih=>
  have h:dC v (λy=>dY dC l λq=>k (y::q))=Se:=h
  refine aE (Br h) λy h81 h1=>?_;obtain⟨a,b,rfl,rfl⟩:=h81
  refine aE (ih h1) λps e81 h2=>?_;subst e81
  exact⟨(a,b)::ps,rfl,h2⟩
theorem w3 {f g:α->V}{ps:Sd α} {P:α->Ss->Prop}(r:VRs σ h (ps.map λp=>V.tup [f p,g p]) vs)
  (H:∀p T n a b,h.get? T=Sa (cK [a,b] n)->VR σ h (f p) a->VR σ h (g p) b->P p T) :
  (vs.length=ps.length/\∀(i:Nat) (p:α),ps[i]? = Sa p->∃T,vs[i]? = Sa (T5 T)/\P p T)/\∀T,T5 T∈vs->T∉σ/\(h.get? T).isSome=Se:=by
 have l:vs.length=ps.length:=r.length.trans (S0 _)
 have w:∀(i:Nat) (p:α),ps[i]? = Sa p->∃T,vs[i]? = Sa (T5 T)/\(T∉σ/\(h.get? T).isSome=Se)/\P p T:=λi p e=>by
  refine aE (r.get ((TG ..).trans (SO _ e))) λu e1 q=>?_
  revert e1
  refine VR.tup_e q λus T n e2 nt q=>?_
  revert e2
  refine VRs.cons_e q λa _ q1 q=>VRs.cons_e q λb _ q2 q=>VRs.nil_e q ?_
  exact λe2 e1=>⟨T,e1,⟨nt,by rw[e2];rfl⟩,H p T n a b e2 q1 q2⟩
 refine⟨⟨l,λi p e=>fF (w i p e) λT a _ c=>⟨T,a,c⟩⟩,λT m=>?_⟩
 refine bH (V4 m) λi e=>?_
 refine fF (w i _ (Sw (l▸(Sy.mp e).1))) λT' a b _=>?_
 cases a.symm.trans e
 exact b
theorem Ap {ps:Sd (Sd Nat×Sd Nat)} (r:VRs σ h (ps.map λp=>V.tup [.str p.1,.str p.2]) vs):qH h vs ps/\∀T,T5 T∈vs->T∉σ/\(h.get? T).isSome=Se:=
 dH (w3 (g:=λp=>.str p.2) (P:=λp T=>∃n x y,h.get? T=Sa (cK [.str ⟨p.1.toArray⟩ x,.str ⟨p.2.toArray⟩ y] n)) r λp T n a b e q1 q2=>by
  revert e
  exact VR.str_e q1 λx=>VR.str_e q2 λy e=>⟨n,x,y,e⟩) λh1 h2=>⟨⟨h1.1,λi p e=>aE (h1.2 i p e) λT a b=>BY b λn x y b=>⟨T,n,x,y,a,b⟩⟩,h2⟩
inductive JA (C:Cfg)(A:Ua)(σ:Sd Ss)(st:St)(ps:Sd (Sd Nat×Sd Nat))(F:Sd Nat×Sd Nat->Sn->Prop)(a:Ss)(s:Sr)(h:Heap):Prop
 | mk (fp wr:Sd Ss) (G:Array WT->Array WT->Prop) (St:Nat->Sr->Prop) (W:WalksS C.prog C.w A.in4 a fp wr G ps.length (λi y=>∃p,ps[i]? = Sa p/\F p y) St) (s0:St 0 s) (lt:∀b∈fp,b<s.heap.objs.size) (me:a∈fp) (ty:∀i s,St i s->s.TypeIs (.ref a) "generator")
  (new:∀b∈wr,h.get? b=none) (mv:∀s',Moved wr G s s'->Inv C σ st s'/\(∀b o,b∉wr->s.heap.get? b=Sa o->s'.heap.get? b=Sa o)/\(UV s.gens->UV s'.gens))
structure Bl (C:Cfg)(scope:Scope)(cenv:Env):Prop where
 scope:cenv.scope=scope
 glob:cenv.globals=SY
 blt:cenv.builtins=T6
structure oq (scope:Scope)(xa xb:Str):Prop where
 co:scope.isCoroutine=ll
 free:∀x∈scope.names,x.2≠.free
 cell:∀x∈scope.names,x.2≠.cell
 zero:scope.names.lookup (".0":Str)=Sa NameKind.local
 la:scope.names.lookup xa=Sa NameKind.local
 lb:scope.names.lookup xb=Sa NameKind.local
 ab:xa≠xb
 kind:scope.kind=.function
theorem kH (n:Nat):passing (λ_=>Se) n 0=Ul n:=by
 unfold passing;simp
theorem pJ {gens:Array WT}{gs:WT}(h:UV gens)(hb:gs.bare=Se):UV (gens.push gs):=by
 intro x hx
 rcases Array.mem_push.mp hx with hx | rfl
 ·exact h x hx
 ·exact hb
theorem VR.at_ (r:VR σ h (.ref n) u)(e:σ[n]? = Sa a):u=.ref a:=VR.ref_e r λ_ q=>SO T5 (Sa.inj (q.symm.trans e))
theorem P9 {δ ε ζ η θ ι:Type}{p:α->β->γ->δ->ε->ζ->η->θ->ι->Prop}(a:α)(b:β)(c:γ)(d:δ)(e:ε)(f:ζ)(g:η)(h:θ)(i:ι)(H:p a b c d e f g h i):∃a b c d e f g h i,p a b c d e f g h i:=⟨a,b,c,d,e,f,g,h,i,H⟩
theorem Fa (Ok:C.Ok)(J:cJ C)(JS:eP C)(B:lZ C){t:lN}(k:ju C t)(hl:t.lam=ll)(hcode:env.code=.ref t.code)(hok:fx.ok=Se)(R:Rm d A)(E:bb fx env)(I:Inv C σ st s)(F:FrR C fx env fm σ s)
 (sc:oq scope xa xb) {ps:Sd (Sd Nat×Sd Nat)} (hx:fx.ln[i]? = Sa x) (v0:fm.loc[i]? = Sa (Sa (.ref n)))
  (ho:st.look n=Sa (.lsub c d' fs (ps.map λp=>V.tup [.str p.1,.str p.2]))) {Fv:Sd Nat×Sd Nat->Sn->Prop}
  (helt:∀(A':Ua) E' (aaR:Sr) (cenv:Env) (abf:Str->SP Sn) (p:Sd Nat×Sd Nat) (u v:Tok),A'.handled=none->Bl C scope cenv->C.K.In aaR.heap->(∀b o,C.aa3.get? b=Sa o->aaR.heap.get? b=Sa o)->aaR.heap.Ns cenv.locals abf ->
   abf xa=Sa (.str ⟨p.1.toArray⟩ u)->abf xb=Sa (.str ⟨p.2.toArray⟩ v)->p∈ps->So C.M A' (eval elt cenv) (λr aa0=>Fv p r/\_root_.PySem.Keeps aaR aa0) E' aaR)
 (hQ:∀a s',Step [] σ s σ s'->JA C A σ st ps Fv a s' s.heap->Inv C σ st s'->Q (.ref a) s') :
  So C.M A (eval (.GeneratorExp elt [⟨.Tuple [.Name xa pa,.Name xb pb] kt pt,.Name x px,[],0⟩] scope pos) env) Q Ex s:=by
 obtain⟨a,dx,es,m,vs,m',rfl,ha,hdx,hox,hD,er,hvs,IA⟩:=I.lsub ho
 refine aE (F.ns) λmm hns hv=>?_
 refine aE (hv i _ _ hx v0) λu hu ru=>?_
 have:u=.ref a:=ru.at_ ha
 subst this
 have mx:x∈fx.ln:=Sp hx
 have hroom:A.depth<WW:=by have:=R.depth;show A.depth<1000;lia
 refine wpAny_GeneratorExp_walksQT R.handled sc.co (closureFor_none sc.free) sc.cell sc.zero sc.la sc.lb sc.ab sc.kind hroom ?_ (λ_=>rfl)
 refine VW (T4 E.kind (E.ln x mx) hns hu ?_) (Fx.ok_ln hok mx)
 refine vL J JS (I.X Ok) IA ?_
 have aa4:Inv C σ st { s with heap:=s.heap.push { cls:=.type "list_iterator",data:=.fields #[.ref a,.int 0 0] } }:=I.pushed (t:=s.toks)
 refine qh (isCode Ok aa4 k) λj psT hj sj _ _ _ _=>?_
 have mt:t.tab∈σ:=Sp hj
 have hIt:s.heap.objs.size≠t.tab:=λq=>Tj _ (q▸I.size mt)
 refine⟨(Ok.T.nolimit.keeps aa4.base),nA Ok aa4 k hl hcode λcode aaY tk3 hext aa7=>?_⟩
 have aa7:Inv C σ st { s with heap:=aaY,toks:=tk3 }:=aa7
 refine nF Ok B aa7.base E.glob ?_
 have up3:∀b o,b≠t.tab->s.heap.get? b=Sa o->aaY.get? b=Sa o:=λb o hb e=>hext b o hb (br _ _ e)
 have lt3:∀{b:Ss} {o:Obj},s.heap.get? b=Sa o->b<aaY.objs.size:=λ{b o} e=>by
  by_cases q:b=t.tab
  ·subst q
   refine bH (S1.mp (aa7.new _ mt).2) λo e=>?_
   exact Heap.lt_size e
  ·exact Heap.lt_size (up3 _ _ q e)
 have hIt3:aaY.get? s.heap.objs.size=Sa { cls:=.type "list_iterator",data:=.fields #[.ref a,.int 0 0] }:=hext _ _ hIt (Heap.get?_push_size _ rfl)
 have hat:a≠t.tab:=λq=>by
  have:=I.inj ha (q▸hj)
  subst this
  have:=sj.1
  rw[show({ s with heap:=s.heap.push { cls:=.type "list_iterator",data:=.fields #[.ref a,.int 0 0] } }:Sr).heap=_ from rfl] at *
  rw[ho] at this
  cases this
 have haI:a≠s.heap.objs.size:=SJ (Heap.lt_size hox)
 refine dH (Ap hvs) λPA hT=>?_
 have hTt:∀T,T5 T∈vs->T≠t.tab:=λT hm q=>(hT T hm).1 (q▸mt)
 have hTlt:∀T,T5 T∈vs->T<s.heap.objs.size:=λT hm=>by
  refine bH (S1.mp (hT T hm).2) λo e=>?_
  exact Heap.lt_size e
 have sz3:s.heap.objs.size<aaY.objs.size:=Heap.lt_size hIt3
 have hfree:∀{b:Ss} {o:Obj},C.aa3.get? b=Sa o->b≠s.heap.objs.size:=λ{b o} e=>SJ (Heap.lt_size (I.base _ _ e))
 refine P9 s.heap.objs.size (Ul aaY.objs.size) [s.heap.objs.size] ps.length (Kl ps) _ _ (λ_=>Se) (λi y=>∃p,ps[i]? = Sa p/\Fv p y) ⟨rfl,
  λA' hA'=>yL (ps:=ps) (vs:=vs) hA' haI (Ur.mpr sz3) (Ur.mpr (lt3 hox)) λT hm=>⟨Ur.mpr (SH (hTlt T hm) sz3),SJ (hTlt T hm)⟩,?_,?_,λb hb=>Ur.mp hb,Ok.T.nolimit.keeps aa7.base,?_,?_,?_⟩
 ·intro i vals H
  exact iD H λp x y _ e=>⟨_,_,e⟩
 ·refine⟨⟨_,hIt3,rfl,rfl⟩,⟨_,_,up3 _ _ hat hox,rfl⟩,PA.1,λi p e=>?_⟩
  refine lT (PA.2 i p e) λT n x y e1 e2=>?_
  exact⟨T,n,x,y,e1,up3 _ _ (hTt T (Sp e1)) e2⟩
 ·intro hm
  refine aE (Ok.T.nolimit) λmc hn _=>?_
  refine iD hn λo _ _ e _=>?_
  exact hfree e (Sj.mp hm)
 ·intro href hk
  have base:∀{aaR:Sr},(∀b∈Ul aaY.objs.size,b∉[s.heap.objs.size]->∀o,href.get? b=Sa o->aaR.heap.get? b=Sa o)->∀b o,C.aa3.get? b=Sa o->aaR.heap.get? b=Sa o:=λ{aaR} hs b o e=>
   hs b (Ur.mpr (lt3 (I.base _ _ e))) (λq=>hfree e (Sj.mp q)) o (hk b o (aa7.base b o e))
  refine⟨λA' E' i va vb aaR abf hA hP hn ha hb hs=>?_,λA' E' i va vb aaR abf hA hP _ hn ha hb hs=>?_⟩
  ·refine wE (WN) ?_
   exact Sf ⟨rfl,_,_,rfl,λ_ _ e=>e⟩
  ·refine iD hP λp x y hp hv=>?_
   simp only[aaJ,Xs,and_true] at hv
   refine dH hv λe80 e81=>?_;subst e80;subst e81
   refine Sm (helt A' E' aaR _ abf p x y hA ⟨rfl,E.glob,rfl⟩ (Ok.X.keeps (base hs)) (base hs) hn ha hb (Sp hp)) (λr aa0 h=>⟨⟨p,hp,h.1⟩,h.2⟩) λ_ _ e=>e
 ·intro g aba tk gs hb hlt hsz hk5 W GA
  have abA:∀{s':Sr},(∀b o,b∉[s.heap.objs.size]->aaY.get? b=Sa o->s'.heap.get? b=Sa o)->Inv C σ st s':=λ{s'} hk=>aa7.other (W:=[s.heap.objs.size]) hk (λb m=>by
   rw[Sj.mp m]
   exact⟨λq=>Tj _ (I.size q),bE I (SQ _)⟩) λb m vs n e=>by
    rw[Sj.mp m] at e
    rw[show({ s with heap:=aaY,toks:=tk3 }:Sr).heap=aaY from rfl,hIt3] at e
    have:=SO (λo=>o.map (·.cls)) e
    simp at this
  have lw:(passing (λ_=>Se) ps.length 0).length=ps.length:=by rw[kH];simp
  refine hQ g _ ⟨⟨[],by simp,λ_ h=>nomatch h⟩,λb o nb _ e=>hk5 b o (up3 b o (λq=>nb (q▸mt)) e),rfl,λh=>pJ h hb⟩ ?_ (abA λb o _ e=>hk5 b o e)
  rw[lw] at W
  refine⟨_,_,_,_,W.imp λi v hv=>?_,GA,λb hb=>?_,ZY ..,λi s hg=>hg.1.typeIs,λb hb=>?_,λs' hm=>⟨abA λb o nb e=>hm.heap b o (λq=>?_) (hk5 b o e),λb o nb e=>hm.heap b o nb e,λhb=>?_⟩⟩
  ·refine aE hv λi' hi hp=>?_
   rw[kH] at hi
   refine bH (Sy.mp hi) λ_ e=>?_
   simp at e
   subst e
   exact hp
  ·show b<aba.objs.size
   have hsz:aba.objs.size=g+1:=hsz
   have hlt:aaY.objs.size<g:=hlt
   rcases Sv.mp hb with q | q
   ·have:b=g:=q
    rw[this,hsz];exact SX _
   ·rcases Sv.mp q with q | q
    ·have:b=aaY.objs.size:=q
     rw[this,hsz];exact Th hlt
    ·have:b<aaY.objs.size:=Ur.mp q
     rw[hsz];exact Th (SH this hlt)
  ·cases e:s.heap.get? b with
   | none=>rfl
   | some o=>
    rcases Sv.mp hb with q | q
    ·have:b=aaY.objs.size:=q
     exact S8 (lt3 e) (by rw[this];exact Tj _)
    ·rw[Sj.mp q] at e
     exact S8 (Heap.lt_size e) (Tj _)
  ·rcases Sv.mp q with q | q
   ·have:b=aaY.objs.size:=q
    exact Tj _ (this▸Heap.lt_size e)
   ·exact nb q
  ·exact UV.moved hb hm.gens
end
section
variable {C:Cfg}{fx:Fx}{d:Nat}{A:Around}{env:Env}{σ σ1:List Addr}{fm:Fm}{st:St}{s aaQ:Shared}
structure Sees (C:Cfg)(env:Env)(h:Heap):Prop where
 kind:env.scope.kind=.function
 glob:env.globals=SY
 blt:env.builtins=T6
 X:C.K.In h
 base:∀b o,C.aa3.get? b=Sa o->h.get? b=Sa o
theorem Sees.keeps (x:Sees C env h)(k:∀b o,h.get? b=Sa o->h'.get? b=Sa o):Sees C env h':=⟨x.kind,x.glob,x.blt,x.X.keeps k,λb o e=>k b o (x.base b o e)⟩
theorem Sees.name (Ok:C.Ok)(S:Sees C env s.heap) {v:Sn} (hx:env.kindOf x=Sa .globalImplicit)(hd:(x == ("__debug__":Str))=ll)(g:GB C x v)(h:Q v s):So C.M A (eval (.Name x pos) env) Q Ex s:=by
 refine Name_function_global S.kind hx ?_ hd
 unfold XN
 rw[S.glob,S.blt]
 rcases g with g | ⟨g,hn,hb⟩
 ·exact oX ((W9 S.X g).here (Sf h))
 ·refine oX ((W9 S.X g).here ?_)
  have nb:s.heap.Ns T6 C.mb:=Ok.T.b.keeps S.base
  refine oX (wpAny_nsGet nb ?_)
  rw[Ok.T.builtins x hn,hb]
  exact Sf h
theorem Dg (Ok:C.Ok)(S:Sees C env s.heap) {v:Sn} {e:Expr} (hx:env.kindOf x=Sa .globalImplicit)(hd:(x == ("__debug__":Str))=ll)(g:GB C x v)(hf:Keeps C v)(hp:aL [e])
  (h:So C.M A (eval e env) (λu aaQ=>C.K.In aaQ.heap/\So C.M A (call v [u]) Q Ex aaQ) Ex s):So C.M A (eval (.Call (.Name x p) [e] [] pos) env) Q Ex s:=by
 refine Tw (S.name Ok hx hd g ?_)
 refine Ye (P:=C.K.In) (by show(_ || false)=ll;rw[hp.1];rfl) hf ?_
 rcases hp.2 with q | ⟨e',rest,q,he⟩
 ·exact nomatch q
 ·cases q
  have h2:So C.M A (spliced (W4 pos (TY [e] env))) (λus s'=>C.K.In s'.heap/\So C.M A (call v ([]++us)) Q Ex s') Ex s:=by
   refine U6 (Sm h (λu aaQ aaS=>?_) λ_ _ e=>e) (he env)
   exact Yr aaS
  rw[he] at h2 ⊢
  exact WK h2
theorem vh:aL [.Name x p]:=⟨λ_ _=>rfl,.inr ⟨_,_,rfl,λ_=>rfl⟩⟩
theorem yD:aL [.Tuple es n p]:=⟨λ_ _=>rfl,.inr ⟨_,_,rfl,λ_=>rfl⟩⟩
theorem oY (Ok:C.Ok)(S:Sees C env s.heap) {q:Pos}{m:Str->SP Sn}{l:Sd Nat}{t:Tok} (hx:env.kindOf "len"=Sa .globalImplicit)(g:GB C "len" (.builtin "len"))(hk:env.kindOf x=Sa .local)(hd:(x == ("__debug__":Str))=ll)
  (hn:s.heap.Ns env.locals m) (hm:m x=Sa (.str ⟨l.toArray⟩ t)) (hl:l.length<1152921504606846976) (h:∀t' tk,Q (.int (l.length:Int) t') { s with toks:=tk }):So C.M A (eval (.Call (.Name "len" p) [.Name x q] [] pos) env) Q Ex s:=by
 refine Dg Ok S hx (by decide) g ck vh (VW (T4 S.kind hk hn hm ⟨S.X,?_⟩) hd)
 have e:(⟨l.toArray⟩:Str).length=l.length:=by show l.toArray.size=_;simp
 refine aaD (by rw[e];lia) ?_
 rw[e]
 exact h _ _
theorem D4 (Ok:C.Ok)(g:GB C "len" (.builtin "len")) (sc:oq scope xa xb)(hlen:scope.names.lookup ("len":Str)=Sa NameKind.globalImplicit)(ha:(xa == ("__debug__":Str))=ll)(hb:(xb == ("__debug__":Str))=ll){p1 p2 p3 p4 p5 p6 p7:Pos}{ps:Sd (Sd Nat×Sd Nat)}(hps:∀p∈ps,p.1.length<1152921504606846976/\p.2.length<1152921504606846976) :
  ∀(A':Ua) E' (aaR:Sr) (cenv:Env) (abf:Str->SP Sn) (p:Sd Nat×Sd Nat) (u v:Tok),A'.handled=none->Bl C scope cenv->C.K.In aaR.heap->(∀b o,C.aa3.get? b=Sa o->aaR.heap.get? b=Sa o)->aaR.heap.Ns cenv.locals abf ->
   abf xa=Sa (.str ⟨p.1.toArray⟩ u)->abf xb=Sa (.str ⟨p.2.toArray⟩ v)->p∈ps->So C.M A' (eval (.BinOp (.Call (.Name "len" p1) [.Name xa p2] [] p3) .Add (.Call (.Name "len" p4) [.Name xb p5] [] p6) p7) cenv) (λr aa0=>(∃t,r=.int ((p.1++p.2).length:Int) t)/\_root_.PySem.Keeps aaR aa0) E' aaR:=by
 intro A' E' aaR cenv abf p u v hA G X base hn h1 h2 hp
 have kind:∀{x:Str} {k:NameKind},scope.names.lookup x=Sa k->cenv.kindOf x=Sa k:=λ{x k} e=>by unfold YM;rw[G.scope];exact e
 have S:Sees C cenv aaR.heap:=⟨by rw[G.scope];exact sc.kind,G.glob,G.blt,X,base⟩
 refine wpAny_BinOp (oY Ok S (kind hlen) g (kind sc.la) ha hn h1 (hps p hp).1 λt' tk=>?_)
 refine oY (s:={ aaR with toks:=tk }) Ok S (kind hlen) g (kind sc.lb) hb hn h2 (hps p hp).2 λt'' tk'=>?_
 refine wpAny_add_int ⟨⟨tk',?_⟩,aaR.heap,tk'+1,rfl,λ_ _ e=>e⟩
 rw[SU,Int.natCast_add]
theorem zl {t:Tok} {l:Sd (Str×Tok)}{texts:Sd Str} (hl:s.heap.get? D=Sa (cK (Yy l) n))(ht:l.map (·.1)=texts)(hok:JoinOk x texts=Se)
  (hq:∀t' k,Q (.str (Txt.join x texts) t') { s with toks:=k }):So C.M A (call (.builtin "str.join") [.str x t,.ref D]) Q Ex s:=by
 subst ht
 unfold JoinOk at hok
 rw[VU] at hok
 exact Wq VP (V0 _ _ _) PySem.F.entry_str_join (PySem.F.args_str_join_2 _ _) (meets_str_join_tuple x t D l hok) ⟨⟨_,n,hl,rfl,rfl⟩,post_join l ⟨joinFit_length hok,hq⟩⟩
theorem uu {sep:Sd Nat}{xs:Sd (Sd Nat)}(hs:sep.length<=4095)(hj:(bP sep xs).length<=100000):JoinOk ⟨sep.toArray⟩ (xs.map λx=>(⟨x.toArray⟩:Str))=Se:=by
 show(!decide ((xs.map λx=>(⟨x.toArray⟩:Str)).toArray.foldl (λn x=>n+x.length+(⟨sep.toArray⟩:Str).length) 0>UW))=Se
 rw[ZI,jS _ _ 0]
 ·have e3:((xs.map λx=>(⟨x.toArray⟩:Str)).map λx=>x.length+(⟨sep.toArray⟩:Str).length)=xs.map λx=>x.length+sep.length:=by
   rw[T9];apply U5;intro x _;show x.toArray.size+sep.toArray.size=_;simp
  rw[e3]
  have:=ia sep xs
  have:(xs.map λx=>x.length+sep.length).sum<=UW:=by show _<=2 ^ 24;lia
  simpa using this
 ·simp
theorem rD (sep:Sd Nat)(xs:Sd (Sd Nat)):Txt.join ⟨sep.toArray⟩ (xs.map λx=>(⟨x.toArray⟩:Str))=⟨(bP sep xs).toArray⟩:=by
 rw[←lx];exact YX _ _
theorem wp (Ok:C.Ok)(S:Sees C env s.heap) {sep:Sd Nat} {e:Expr} (hm:dZ (.Name x p) "join" apos [e] pos)(hx:env.kindOf x=Sa .globalImplicit)(hd:(x == ("__debug__":Str))=ll)
  (g:GB C x (.str ⟨sep.toArray⟩ tk)) (hp:aL [e]) (h:So C.M A (eval e env) (λu aaQ=>C.K.In aaQ.heap/\So C.M A (call (.builtin "str.join") [.str ⟨sep.toArray⟩ tk,u]) Q Ex aaQ) Ex s) :
  So C.M A (eval (.Call (.Attribute (.Name x p) "join" apos) [e] [] pos) env) Q Ex s:=by
 refine bH hm λpl he=>?_
 refine wE (he env) ?_
 refine oX (S.name Ok hx hd g (oX (Tz (oX (SN (GM.join ?_))))))
 refine Ye (P:=C.K.In) (by show(_ || false)=ll;rw[hp.1];rfl) ck ?_
 rcases hp.2 with q | ⟨e',rest,q,he'⟩
 ·cases q
 ·cases q
  have h2:So C.M A (spliced (W4 pos (TY [e] env))) (λus s'=>C.K.In s'.heap/\So C.M A (call (.builtin "str.join") ([.str ⟨sep.toArray⟩ tk]++us)) Q Ex s') Ex s:=by
   refine U6 (Sm h (λu aaQ aaS=>?_) λ_ _ e=>e) (he' env)
   exact Yr aaS
  rw[he'] at h2 ⊢
  exact WK h2
theorem Aw (Ok:C.Ok) (g:GB C x (.str ⟨([]:Sd Nat).toArray⟩ tk)) (sc:oq scope xa xb)(hx:scope.names.lookup x=Sa NameKind.globalImplicit)(hd:(x == ("__debug__":Str))=ll)(ha:(xa == ("__debug__":Str))=ll)(hb:(xb == ("__debug__":Str))=ll)
  {p1 p2 p3 p4:Pos} (hm:dZ (.Name x p1) "join" apos [.Tuple [.Name xa p2,.Name xb p3] kt p4] pos) {ps:Sd (Sd Nat×Sd Nat)} (hps:∀p∈ps,p.1.length<=4095/\p.2.length<=4095) :
  ∀(A':Ua) E' (aaR:Sr) (cenv:Env) (abf:Str->SP Sn) (p:Sd Nat×Sd Nat) (u v:Tok),A'.handled=none->Bl C scope cenv->C.K.In aaR.heap->(∀b o,C.aa3.get? b=Sa o->aaR.heap.get? b=Sa o)->aaR.heap.Ns cenv.locals abf ->
   abf xa=Sa (.str ⟨p.1.toArray⟩ u)->abf xb=Sa (.str ⟨p.2.toArray⟩ v)->p∈ps->So C.M A' (eval (.Call (.Attribute (.Name x p1) "join" apos) [.Tuple [.Name xa p2,.Name xb p3] kt p4] [] pos) cenv) (λr aa0=>(∃t,r=.str ⟨(p.1++p.2).toArray⟩ t)/\_root_.PySem.Keeps aaR aa0) E' aaR:=by
 intro A' E' aaR cenv abf p u v hA G X base hn h1 h2 hp
 have kind:∀{x:Str} {k:NameKind},scope.names.lookup x=Sa k->cenv.kindOf x=Sa k:=λ{x k} e=>by unfold YM;rw[G.scope];exact e
 have S:Sees C cenv aaR.heap:=⟨by rw[G.scope];exact sc.kind,G.glob,G.blt,X,base⟩
 refine wp Ok S hm (kind hx) hd g yD ?_
 refine wpAny_Tuple_spliced ?_
 refine U6 (VW (T4 S.kind (kind sc.la) hn h1 ?_) ha) rfl
 refine U6 (VW (T4 S.kind (kind sc.lb) hn h2 ?_) hb) rfl
 refine Yr ⟨by show 2<=UW;decide,(S.keeps (λb o e=>br b o e)).X,?_⟩
 refine zl (l:=[(⟨p.1.toArray⟩,u),(⟨p.2.toArray⟩,v)]) (n:=0) (Heap.get?_push_size _ rfl) (texts:=[p.1,p.2].map λx=>(⟨x.toArray⟩:Str)) rfl (uu (by simp) ?_) λt' k=>?_
 ·show(bp p.1 (bp [] p.2)).length<=100000
  rw[bf,bf]
  have:=hps p hp
  simp only[SU,VI]
  lia
 ·rw[rD]
  refine⟨⟨t',?_⟩,_,k,rfl,λb o e=>br _ _ e⟩
  show aaN ⟨(bp p.1 (bp [] p.2)).toArray⟩ t'=_
  rw[bf,bf,Xv]
end
section
variable {C:Cfg}{fx:Fx}{d:Nat}{A:Around}{env:Env}{σ σ1:List Addr}{fm:Fm}{st:St}{s aaQ:Shared}
theorem jl:∀(xs:Sd (Sd Nat))(a:Int),fY xs a=a+(xs.map λx=>(x.length:Int)).sum
 | [],a=>by show a=_;simp
 | x::xs,a=>by
  have:fY (x::xs) a=fY xs (gB a (TA (aK x))):=rfl
  rw[this,jl xs,eS,aC,Tt,Vr]
  show a+(x.length:Int)+_=_
  lia
theorem qV (l:Sd Int):∀n,n<=l.length->Xa (λi=>l.getD i 0) n=(l.take n).sum:=by
 intro n hn
 induction n with
 | zero=>rfl
 | succ n ih=>
  have e:Xa (λi=>l.getD i 0) (n+1)=Xa (λi=>l.getD i 0) n+l.getD n 0:=rfl
  have e2:l.take (n+1)=l.take n++[l[n]'(by lia)]:=by rw[WQ,Sw (by lia)];rfl
  have e3:l.getD n 0=l[n]'(by lia):=by rw[TM,Sw (by lia)];rfl
  rw[e,ih (by lia),e2,e3,Sd.sum_append]
  show _+_=_+(_+0)
  lia
theorem IT {l:Sd (Sd Nat)}{x:Sd Nat}(m:x∈l):(x.length:Int)<=(l.map λx=>(x.length:Int)).sum:=by
 induction l with
 | nil=>cases m
 | cons y l ih=>
  rw[Tt,Vr]
  have pos:∀l:Sd (Sd Nat),(0:Int)<=(l.map λx=>(x.length:Int)).sum:=λl=>by
   induction l with
   | nil=>simp
   | cons z l ih=>rw[Tt,Vr];lia
  rcases Sv.mp m with rfl | m
  ·have:=pos l;lia
  ·have:=ih m;lia
theorem vW:∀xs:Sd (Sd Nat),jI xs=xs.flatten
 | []=>rfl
 | x::xs=>by
  have:jI (x::xs)=bp x (jI xs):=rfl
  rw[this,bf,vW xs];rfl
theorem kz:∀xs:Sd (Sd Nat),bP [] xs=jI xs
 | []=>rfl
 | [x]=>by
  have:jI [x]=bp x []:=rfl
  rw[this,bf,TR];rfl
 | x::y::r=>by
  have e:bP [] (x::y::r)=bp x (bp [] (bP [] (y::r))):=rfl
  rw[e,kz (y::r)]
  rfl
theorem Moved.start {wr:Sd Ss}{G:Array WT->Array WT->Prop}{s:Sr}(h:s'.heap=s.heap)(hg:s'.gens=s.gens)(hd:s'.drawn=s.drawn)(ho:s'.os=s.os)(ht:s.toks<=s'.toks)(x:Moved wr G s' s''):Moved wr G s s'':=
 ⟨λb o nb e=>x.heap b o nb (by rw[h];exact e),hg▸x.gens,x.drawn.trans hd,x.os.trans ho,Sk ht x.toks⟩
theorem Dd (Ok:C.Ok)(J:cJ C)(JS:eP C)(B:lZ C){t:lN}(k:ju C t)(hl:t.lam=ll)(hok:fx.ok=Se){body:Sd Stmt}{p1 p2 p3 p4 p5 p6 p7 gp ps ap:Pos} {xs:Str}(sc:oq scope xa xb)
  (hlen:scope.names.lookup ("len":Str)=Sa NameKind.globalImplicit) (ha:(xa == ("__debug__":Str))=ll) (hb:(xb == ("__debug__":Str))=ll) (gl:GB C "len" (.builtin "len")) (gs:GB C "sum" (.builtin "sum")) (hsum:("sum":Str)∈fx.gn) (hx:fx.ln[0]? = Sa x) (hxs:xs=aW 11)
  (hattr:∀env,eval (.Attribute (.Name x ps) xs ap) env=(do
   let o ←eval (.Name x ps) env
   UC ap.atName
   let r ←holding [o] (PySem.getAttr o xs Se)
   VZ (.Name x ps) o r
   pure r)) :
  GD C fx (λenv=>env.code=.ref t.code) d body (.Call (.Name "sum" p) [.GeneratorExp (.BinOp (.Call (.Name "len" p1) [.Name xa p2] [] p3) .Add (.Call (.Name "len" p4) [.Name xb p5] [] p6) p7) [⟨.Tuple [.Name xa pa,.Name xb pb] kt pt,.Name x px,[],0⟩] scope gp,.Attribute (.Name x ps) xs ap] [] pos) Gm:=by
 subst hxs
 intro A env σ fm st s kk R E Ve I F h
 refine aE (mW h) λv v0 h1=>?_
 refine d9 h1 λv' e' h1=>?_
 cases e'
 refine iw h1 λn c d' fs l e81 ho h2=>?_;clear h1;subst e81
 refine aE (vN h2) λpl e81 h3=>?_;subst e81
 refine Xh (Tw (bS Ok hok hsum gs E I ?_))
 refine Ye (P:=C.K.In) rfl ck ?_
 have fin:So C.M A (spliced (W4 pos (TY [.GeneratorExp (.BinOp (.Call (.Name "len" p1) [.Name xa p2] [] p3) .Add (.Call (.Name "len" p4) [.Name xb p5] [] p6) p7) [⟨.Tuple [.Name xa pa,.Name xb pb] kt pt,.Name x px,[],0⟩] scope gp,.Attribute (.Name x ps) (aW 11) ap] env)))
   (λus s'=>C.K.In s'.heap/\So C.M A (call (.builtin "sum") ([]++us)) (Out C [] σ s kk) cL s') cL s:=by
  have bnd:∀p∈pl,p.1.length<1152921504606846976/\p.2.length<1152921504606846976:=by
   obtain⟨a,dx,es,m,vs,m',rfl,haσ,hdx,hox,hD,er,hvs,IA⟩:=I.lsub ho
   obtain⟨_,w,en,hf,hvv,h4⟩:=qB er h3
   refine aO h4 λi e81 h5=>?_;subst e81
   refine aM h5 λq1 h6=>?_
   refine aM h6 λq2 h7=>?_
   rw[gy] at q1
   have q1:=S4 q1
   have q2:=(di q2).2
   rw[jl] at q2
   intro p hp
   have:=IT (UM (f:=λp:Sd Nat×Sd Nat=>p.1++p.2) hp)
   rw[SU] at this
   omega
  refine U6 (Fa Ok J JS B k hl Ve hok R E I F sc hx v0 ho (D4 Ok gl sc hlen ha hb bnd) λg s' S' G' I'=>?_) rfl
  obtain⟨fp,wr,G,Sg,W,st0,hfp,hg,hT,new,after⟩:=G'
  have F':=S'.fr0 F
  obtain⟨a,dx,es,m,vs,m',rfl,haσ,hdx,hox,hD,er,hvs,IA⟩:=I'.lsub ho
  refine aE (F'.ns) λmm hns hv=>?_
  refine aE (hv 0 _ _ hx v0) λu hu ru=>?_
  have:u=.ref a:=ru.at_ haσ
  subst this
  have mx:x∈fx.ln:=Sp hx
  obtain⟨_,w,en,hf,hvv,h4⟩:=qB er h3
  refine aO h4 λi e81 h5=>?_;clear h4;subst e81
  refine aM h5 λq1 h6=>?_;clear h5
  refine aM h6 λq2 h7=>?_;clear h6
  have hvv':∃ti,en.val=.int i ti:=by
   generalize en.val=ev at hvv
   exact VR.int_e hvv λti=>⟨ti,rfl⟩
  refine bH hvv' λti hti=>?_
  refine U6 (Zd (VW (T4 E.kind (E.ln x mx) hns hu (uz (I'.X Ok) J IA (lX (J.cd 2 (bo rfl)) (J.at_ 2 (bo rfl) 11 (bo rfl)) (fO hf)) (by rw[hti];rfl) ?_)) (Fx.ok_ln hok mx)) (hattr env)) rfl
  rw[hti]
  refine Yr ⟨I'.X Ok,?_⟩
  refine mM (W.in4_1.self 0 _ _ _ (W.frame 0 s' _ _ st0 (TV _) λ_ _ _ e=>e) ?_)
  refine⟨_,_,_,_,_,_,_,λj=>(pl.map λp=>((p.1++p.2).length:Int)).getD j 0,rfl,W.in4_1,W.frame 0 s' _ _ st0 (TV _) λ_ _ _ e=>e,hfp,λj v hv=>?_,λs'' t' hm=>?_⟩
  ·obtain⟨p,hp,t,rfl⟩:=hv
   exact⟨t,by simp[TM,hp]⟩
  ·have hm':Moved wr G s' s'':=Moved.start (s:=s') (s':={ s' with toks:=s'.toks+1 }) rfl rfl rfl rfl (TV _) hm
   refine kW (after s'' hm') λI'' keep gb=>?_
   have e1:Xa (λj=>(pl.map λp=>((p.1++p.2).length:Int)).getD j 0) pl.length=(pl.map λp=>((p.1++p.2).length:Int)).sum:=by
    rw[qV _ _ (by simp),UL (by simp)]
   rw[e1]
   rw[jl,T9] at h7
   refine⟨σ,_,st,⟨⟨[],by simp,λ_ h=>nomatch h⟩,λb o nb _ eb=>?_,hm'.os.trans S'.os,λh=>gb (S'.gens h)⟩,I'',.int _ _,h7⟩
   exact keep b o (λm=>by rw[new b m] at eb;cases eb) (S'.keep b o nb (λh=>nomatch h) eb)
 exact WK fin
theorem zu (Ok:C.Ok)(J:cJ C)(JS:eP C)(B:lZ C){t:lN}(k:ju C t)(hl:t.lam=ll)(hok:fx.ok=Se){body:Sd Stmt}{p1 p2 p3 p4 q1 qa q gp:Pos}{kt':Nat} (sc:oq scope xa xb)
  (hy:scope.names.lookup y=Sa NameKind.globalImplicit) (hyd:(y == ("__debug__":Str))=ll) (ha:(xa == ("__debug__":Str))=ll) (hb:(xb == ("__debug__":Str))=ll) (g:GB C y (.str ⟨([]:Sd Nat).toArray⟩ tk)) (hyg:y∈fx.gn) (hx:fx.ln[0]? = Sa x)
  (hm:dZ (.Name y p1) "join" apos [.Tuple [.Name xa p2,.Name xb p3] kt p4] q) (hm':dZ (.Name y q1) "join" qa [.GeneratorExp (.Call (.Attribute (.Name y p1) "join" apos) [.Tuple [.Name xa p2,.Name xb p3] kt p4] [] q) [⟨.Tuple [.Name xa pa,.Name xb pb] kt' pt,.Name x px,[],0⟩] scope gp] pos) :
  GD C fx (λenv=>env.code=.ref t.code) d body (.Call (.Attribute (.Name y q1) "join" qa) [.GeneratorExp (.Call (.Attribute (.Name y p1) "join" apos) [.Tuple [.Name xa p2,.Name xb p3] kt p4] [] q) [⟨.Tuple [.Name xa pa,.Name xb pb] kt' pt,.Name x px,[],0⟩] scope gp] [] pos) Bs:=by
 intro A env σ fm st s kk R E Ve I F h
 refine aE (mW h) λv v0 h1=>?_
 refine d9 h1 λv' e' h1=>?_
 cases e'
 refine iw h1 λn c d' fs l e81 ho h2=>?_;clear h1;subst e81
 refine aM h2 λhlen h2=>?_
 refine aE (vN h2) λpl e81 h3=>?_;subst e81
 refine aM h3 λhcat h4=>?_;clear h3
 have hcat:=bT hcat
 have hlen:=bT hlen
 rw[aC] at hcat hlen
 rw[S0] at hlen
 have bnd:∀p∈pl,p.1.length<=4095/\p.2.length<=4095:=by
  intro p hp
  rw[vW,Sd.length_flatten,T9] at hcat
  have key:∀(l:Sd Nat) (x:Nat),x∈l->x<=l.sum:=λl x m=>by
   induction l with
   | nil=>cases m
   | cons y l ih=>
    rw[Vr]
    rcases Sv.mp m with rfl | m
    ·lia
    ·have:=ih m;lia
  have:(p.1++p.2).length<=(pl.map (Sd.length ∘ λp=>p.1++p.2)).sum:=key _ _ (UM (f:=Sd.length ∘ λp:Sd Nat×Sd Nat=>p.1++p.2) hp)
  rw[SU] at this
  lia
 refine Xh (wp Ok ⟨E.kind,E.glob,E.blt,I.X Ok,I.base⟩ hm' (E.gn y hyg) hyd g ⟨λ_ _=>rfl,.inr ⟨_,_,rfl,λ_=>rfl⟩⟩ ?_)
 refine Fa Ok J JS B k hl Ve hok R E I F sc hx v0 ho (Aw Ok g sc hy hyd ha hb hm bnd) λgg s' S' G' I'=>⟨I'.X Ok,?_⟩
 obtain⟨fp,wr,G,Sg,W,st0,hfp,hg,hT,new,after⟩:=G'
 refine SC.joinGen W.in4_2 hT st0 hfp hg (λi v hv=>by obtain⟨p,_,t,rfl⟩:=hv;exact⟨_,_,rfl⟩) (λs'' l hm it=>?_) (by show _<=2 ^ 24;lia)
 refine kW (after s'' hm) λI'' keep gb=>?_
 have el:l.map (·.1)=(pl.map λp=>p.1++p.2).map λx=>(⟨x.toArray⟩:Str):=by
  apply aag
  intro j
  rw[TG,TG,TG]
  cases e:l[j]? with
  | none=>
   have:pl[j]? = none:=by
    rw[Wa] at e ⊢
    have:=it.1
    simp[Yy] at this
    lia
   rw[this];rfl
  | some q=>
   obtain⟨p,hp,t,hv⟩:=it.2 j (.str q.1 q.2) (by simp[Yy,e])
   rw[hp]
   have:q.1=⟨(p.1++p.2).toArray⟩:=by injection hv
   rw[Uv,Uv,Uv,this]
 rw[el]
 refine⟨uu (by simp) (by rw[kz];lia),λt' k=>?_⟩
 rw[rD,kz]
 exact⟨σ,_,st,⟨⟨[],by simp,λ_ h=>nomatch h⟩,λb o nb _ eb=>keep b o (λm=>by rw[new b m] at eb;cases eb) (S'.keep b o nb (λh=>nomatch h) eb),hm.os.trans S'.os,λh=>gb (S'.gens h)⟩,I''.grow λ_ _ e=>e,.str _ _,h4⟩
end
section
variable {prog:Program}{w:World}{A:Around}{E:Value->Shared->Prop}{s:Shared}
theorem IR (x y z u:Int):yY (x,y) (z,u)=if x=z then decide (y<u) else decide (x<z):=by
 show aD (Cb x z) Se (aD (jf x z) (Cb y u) ll)=_
 rw[kj,dm,kj]
 by_cases q:x=z
 ·subst q
  rw[SR rfl,Tp (Int.lt_irrefl x),Tq (rfl:x=x)];rfl
 ·rw[Sz q,Tp q]
  cases decide (x<z) <;> rfl
theorem Dl {x y z u:Int}{t1 t2 t3 t4:Tok} (hu:A.units<cLine)(ha:s.heap.get? a=Sa (cK [.int x t1,.int y t2] n))(hb:s.heap.get? b=Sa (cK [.int z t3,.int u t4] m))
  (h:∀tk,Q (.bool (yY (x,y) (z,u))) { s with toks:=tk }):So (model prog w) A (richCompare .Lt (.ref a) (.ref b)) Q E s:=by
 have hTa:s.TypeIs (.ref a) "tuple":=⟨_,ha,rfl⟩
 have hTb:s.TypeIs (.ref b) "tuple":=⟨_,hb,rfl⟩
 refine wpAny_richCompare_same_room hTa hTb Y2 (Uc Y2 hTa PySem.F.entry_tuple_lt ?_ (PySem.F.args_tuple_lt_2 _ _)) hu
 unfold Builtin.«tuple.__lt__»
 refine oX (TP (a:=(.ref a,[.ref b])) rfl ?_)
 dsimp only
 refine oX (Vb hTb isSubtype_tuple_tuple ?_)
 skip
 refine oX (wpAny_tupleItemsOf ha rfl (oX (wpAny_tupleItemsOf hb rfl ?_)))
 have lt:∀{i j:Int} {ti tj:Tok} {A':Ua} {E':Sn->Sr->Prop} {Q':Sn->Sr->Prop},Q' (.bool (decide (i<j))) s->So (model prog w) A' (richCompare .Lt (.int i ti) (.int j tj)) Q' E' s:=λh=>richCompare_gives (op:=.Lt) (W5 s _ _) (W5 s _ _) PySem.F.slot_int_lt PySem.F.entry_int_lt (PySem.F.args_int_lt_2 _ _) (gives_int_lt _ _ _ _) (λx=>nomatch x) h
 have h:=h s.toks
 rw[IR] at h
 refine oX (oX (oX (wpAny_eqBool_int ?_)))
 by_cases q:x=z
 ·subst q
  rw[SR rfl] at h
  refine wN (ne_true_of_eq_false (SO not (beq_self_eq_true _))) ?_
  refine Sf (oX (oX (wpAny_eqBool_int ?_)))
  by_cases q:y=u
  ·subst q
   refine wN (ne_true_of_eq_false (SO not (beq_self_eq_true _))) ?_
   rw[Tp (Int.lt_irrefl y)] at h
   exact Sf (Sf (Sf ⟨_,rfl,(λz=>nomatch z),h⟩))
  ·refine wP (SO not (beq_eq_false_iff_ne.mpr q)) ?_
   refine oX (U1 (oX (lt ?_)))
   exact oX (Sf (Sf (Sf (Sf ⟨_,rfl,(λz=>nomatch z),h⟩))))
 ·rw[Sz q] at h
  refine wP (SO not (beq_eq_false_iff_ne.mpr q)) ?_
  refine oX (U1 (oX (lt ?_)))
  exact oX (Sf (Sf (Sf (Sf ⟨_,rfl,(λz=>nomatch z),h⟩))))
def ui (h:Heap)(vs:Sd Sn)(ps:Sd (Int×Int)):Prop:=vs.length=ps.length/\∀(i:Nat)(p:Int×Int),ps[i]? = Sa p->∃T n x y,vs[i]? = Sa (T5 T)/\h.get? T=Sa (cK [.int p.1 x,.int p.2 y] n)
noncomputable def bA (ps:Sd (Int×Int)):Nat->Nat
 | 0=>0
 | j+1=>if yY (ps.getD (j+1) (0,0)) (ps.getD (bA ps j) (0,0))=Se then j+1 else bA ps j
theorem jM (ps:Sd (Int×Int)):∀j,bA ps j<=j
 | 0=>SQ _
 | j+1=>by
  unfold bA
  have:=jM ps j
  split <;> lia
structure BL (h:Heap)(I l S:Ss)(vs:Sd Sn)(ps:Sd (Int×Int))(base:Heap)(j:Nat):Prop where
 it:h.IsListIter I l j
 seq:∃n,h.get? l=Sa (cB vs n)
 pairs:ui h vs ps
 keep:∀b o,b≠I->b≠S->base.get? b=Sa o->h.get? b=Sa o
theorem Bm {I l S:Ss} {ps:Sd (Int×Int)}{base:Heap}{R:Result->Sr->Prop}(hh:A.handled=none)(hu:A.units+10<cLine)(hIl:l≠I)(hSl:l≠S)(hIS:I≠S)(hT:∀T,T5 T∈vs->T≠I/\T≠S) (hp:prog=C.prog)(hw:w=C.w) :
  ∀(k j:Nat) (s:Sr) (c:Nat) (vb:Sn),ps.length - (j+1)=k->j+1<=ps.length->BL s.heap I l S vs ps base (j+1)->vs[bA ps j]? = Sa vb ->
  s.heap.get? S=Sa { cls:=.type "list",dict:=none,data:=.seq #[vb,vb] c,slots:=#[] } ->
  (∀v s' ,vs[bA ps (ps.length - 1)]? = Sa v->(∀b o,b≠I->b≠S->base.get? b=Sa o->s'.heap.get? b=Sa o)->s'.os=s.os->s'.gens=s.gens->R (.ok (.ret v)) s')->U0 (model prog w) A (.builtin "min.loop" ⟨[.ref I,.none,.ref S],[]⟩) R s:=by
 subst hp hw
 have hname:(toString "min" ++ toString ".loop":String)="min.loop":=by decide
 intro k
 induction k with
 | zero=>
  intro j s c vb hk hj L hb hS hR
  have hin:j+1=ps.length:=UN hj (VQ hk)
  refine UO WX ?_
  rw[UY Un _]
  refine oX (m:=Wu (.ref S)) (T2 hS rfl ?_)
  refine bH (L.seq) λn hl=>?_
  refine oX (m:=tryCatch (UK (.ref I)) _) (WV (th hh L.it ⟨_,_,hl,rfl⟩ (by simp[L.pairs.1,hin]) λh' hx=>?_))
  have hS':=hx S _ (Ne.symm hIS) hS
  refine oX (m:=Zy S (λ_=>#[])) (U2 hS' rfl (oX (Vo (Sf (hR vb _ ?_ ?_ rfl rfl)))))
  ·rw[←hin];exact hb
  ·intro b o h1 h2 e
   exact(Heap.get?_update_other _ _ (Ne.symm h2)).trans (hx b o h1 (L.keep b o h1 h2 e))
 | succ k ih=>
  intro j s c vb hk hj L hb hS hR
  have hlt:j+1<ps.length:=Y3 hk
  refine UO WX ?_
  rw[UY Un _]
  refine oX (m:=Wu (.ref S)) (T2 hS rfl ?_)
  refine bH (L.seq) λn hl=>?_
  refine lT (L.pairs.2 (j+1) _ (Sw hlt)) λT nT xT yT e1 e2=>?_
  have hbl:bA ps j<ps.length:=Tg (jM ps j) (Nat.lt_of_succ_lt hlt)
  refine lT (L.pairs.2 (bA ps j) _ (Sw hbl)) λU nU xU yU f1 f2=>?_
  rw[hb] at f1
  cases f1
  have tT:=hT T (Sp e1)
  have tU:=hT U (Sp hb)
  refine oX (m:=tryCatch (UK (.ref I)) _) (WV (ke L.it ⟨_,_,hl,rfl⟩ (x:=.ref T) (by simpa using e1) λh' hit hs=>?_))
  have kp:∀b o,b≠I->s.heap.get? b=Sa o->h'.get? b=Sa o:=λb o hb e=>hs.extBut b o hb e
  have hS':=kp S _ (Ne.symm hIS) hS
  show So _ A.in1 (tryCatch (holding [T5 T,T5 T] (richCompare .Lt (.ref T) (.ref U) >>= _)) _ >>= _) _ _ _
  refine oX (WV (SN (oX (Dl (A:=A.in1) (Tg (Ts (bo rfl) A.units) hu) (kp T _ tT.1 e2) (kp U _ tU.1 f2) λtk=>?_))))
  refine oX (SN (UH ?_))
  refine oX (Vo (Sf ?_))
  have L':∀{g:Heap},(∀b o,b≠S->h'.get? b=Sa o->g.get? b=Sa o)->g.IsListIter I l (j+1+1)->BL g I l S vs ps base (j+1+1):=λ{g} hg hi=>⟨hi,⟨n,hg l _ hSl (kp l _ hIl hl)⟩,⟨L.pairs.1,λi p e=>by
   refine lT (L.pairs.2 i p e) λT' n' x' y' a1 a2=>?_
   have t':=hT T' (Sp a1)
   exact⟨T',n',x',y',a1,hg _ _ t'.2 (kp _ _ t'.1 a2)⟩⟩,λb o h1 h2 e=>hg b o h2 (kp b o h1 (L.keep b o h1 h2 e))⟩
  have gd:ps.getD (j+1) (0,0)=ps[j+1]:=by rw[TM,Sw hlt];rfl
  have gb:ps.getD (bA ps j) (0,0)=ps[bA ps j]:=by rw[TM,Sw hbl];rfl
  cases hc:yY (ps[j+1].1,ps[j+1].2) (ps[bA ps j].1,ps[bA ps j].2) with
  | true=>
   have hb':bA ps (j+1)=j+1:=by
    show(if yY (ps.getD (j+1) (0,0)) (ps.getD (bA ps j) (0,0))=Se then j+1 else bA ps j)=_
    rw[gd,gb,SR hc]
   skip
   refine oX (U2 hS' rfl (oX (Vo ?_)))
   rw[hname]
   have keepS:∀b o,b≠S->h'.get? b=Sa o->(h'.update S (S5 λ_=>#[.ref T,.ref T])).get? b=Sa o:=λb o hb e=>(Heap.get?_update_other _ _ (Ne.symm hb)).trans e
   refine Sf ⟨Wk Un _,ih (j+1) _ _ (.ref T) ((YS ..).trans (SO aaK hk)) hlt (L' keepS ?_) (by rw[hb'];exact e1) (Heap.get?_update_self _ hS' rfl) λv s'' hv hk ho hg=>hR v s'' hv hk ho hg⟩
   refine aE hit λo q1 q2=>?_
   exact⟨o,keepS _ _ hIS q1,q2⟩
  | false=>
   have hb':bA ps (j+1)=bA ps j:=by
    show(if yY (ps.getD (j+1) (0,0)) (ps.getD (bA ps j) (0,0))=Se then j+1 else bA ps j)=_
    rw[gd,gb,Sz (by show ¬yY ps[j+1] ps[bA ps j]=Se;rw[show yY ps[j+1] ps[bA ps j]=ll from hc];decide)]
   skip
   refine oX (Vo ?_)
   rw[hname]
   exact Sf ⟨Wk Un _,ih (j+1) _ c (.ref U) ((YS ..).trans (SO aaK hk)) hlt (L' (λ_ _ _ e=>e) hit) (by rw[hb'];exact hb) hS' λv s'' hv hk ho hg=>hR v s'' hv hk ho hg⟩
end
section
variable {C:Cfg}{fx:Fx}{d:Nat}{A:Around}{env:Env}{σ σ1:List Addr}{fm:Fm}{st:St}{s aaQ:Shared}
theorem BS {k:V×Int×Int->Si}(h:mT v k=Se):∃y:V×Int×Int,(y.1=v/\v=.tup [.int y.2.1,.int y.2.2])/\k y=Se:=by
 refine lA h λl e81 h1=>?_;clear h;subst e81
 refine nQ h1 λx y e81 h2=>?_;clear h1;subst e81
 refine aO h2 λa e81 h3=>?_;clear h2;subst e81
 refine aO h3 λb e81 h4=>?_;clear h3;subst e81
 exact⟨_,⟨rfl,rfl⟩,h4⟩
theorem zm {k:Sd (V×Int×Int)->Si}(h:dY mT l k=Se):∃ps:Sd (Int×Int),l=ps.map (λp=>.tup [.int p.1,.int p.2])/\k (ps.map λp=>(.tup [.int p.1,.int p.2],p))=Se:=by
 induction l generalizing k with
 | nil=>exact⟨[],rfl,h⟩
 | cons v l ih=>
  have h:mT v (λy=>dY mT l λq=>k (y::q))=Se:=h
  refine aE (BS h) λh80 h81 h1=>?_;obtain⟨y,a,b⟩:=h80;obtain⟨e1,e2⟩:=h81
  dsimp only at e1 e2
  subst e1
  subst e2
  refine aE (ih h1) λps e81 h2=>?_;subst e81
  exact⟨(a,b)::ps,rfl,h2⟩
theorem yx {ps:Sd (Int×Int)} (r:VRs σ h (ps.map λp=>V.tup [.int p.1,.int p.2]) vs):ui h vs ps/\∀T,T5 T∈vs->T∉σ/\(h.get? T).isSome=Se:=
 dH (w3 (g:=λp=>.int p.2) (P:=λp T=>∃n x y,h.get? T=Sa (cK [.int p.1 x,.int p.2 y] n)) r λp T n a b e q1 q2=>by
  revert e
  exact VR.int_e q1 λx=>VR.int_e q2 λy e=>⟨n,x,y,e⟩) λh1 h2=>⟨⟨h1.1,λi p e=>aE (h1.2 i p e) λT a b=>BY b λn x y b=>⟨T,n,x,y,a,b⟩⟩,h2⟩
theorem xR (ps:Sd (Int×Int)):∀(k j:Nat),ps.length - (j+1)=k->j+1<=ps.length ->
  yG ((ps.map λp=>(V.tup [.int p.1,.int p.2],p)).drop (j+1)) ((λp:Int×Int=>(V.tup [.int p.1,.int p.2],p)) (ps.getD (bA ps j) (0,0)))=(λp:Int×Int=>V.tup [.int p.1,.int p.2]) (ps.getD (bA ps (ps.length - 1)) (0,0)):=by
 intro k
 induction k with
 | zero=>
  intro j hk hj
  have:j+1=ps.length:=UN hj (VQ hk)
  rw[Sd.drop_of_length_le (by rw[S0];exact T7 this.symm),←this]
  rfl
 | succ k ih=>
  intro j hk hj
  have hlt:j+1<ps.length:=Y3 hk
  rw[XX (by simpa using hlt)]
  have ih:=ih (j+1) ((YS ..).trans (SO aaK hk)) hlt
  have e:∀(x:V×Int×Int) r m,yG (x::r) m=@Te (λ_=>V) (yG r m) (yG r x) (yY x.2 m.2):=λ_ _ _=>rfl
  rw[e]
  have gd:ps.getD (j+1) (0,0)=ps[j+1]:=by rw[TM,Sw hlt];rfl
  have hb:bA ps (j+1)=if yY (ps.getD (j+1) (0,0)) (ps.getD (bA ps j) (0,0))=Se then j+1 else bA ps j:=rfl
  rw[gd] at hb
  simp only[Xc]
  cases hc:yY ps[j+1] (ps.getD (bA ps j) (0,0)) with
  | true=>
   rw[hc,SR rfl] at hb
   rw[hb,gd] at ih
   exact ih
  | false=>
   rw[hc,Sz (by decide)] at hb
   rw[hb] at ih
   exact ih
theorem DR {f:α->β}{l:Sd α}{b:β}{m:Sd β}(e:l.map f=b::m):0<l.length:=by
 cases l with
 | nil=>cases e
 | cons=>exact YD _
theorem AA {f:α->β}{l:Sd α}{b:β}{m:Sd β}{d:α} (h:i=0)(e:l.map f=b::m):f (l.getD i d)=b:=by
 subst h
 cases l with
 | nil=>cases e
 | cons=>exact(Sd.cons.inj e).1
theorem AQ:SF C d (.builtin "min") Ca:=by
 intro A σ st s k l us R I r h
 refine d9 h λv e81 h1=>?_;subst e81
 refine bO h1 λn e81 h2=>?_;clear h1;subst e81
 refine bC h2 λl hl h3=>?_;clear h2
 refine aE (zm h3) λps e81 h4=>?_;subst e81
 refine lF h4 λa m e5 h5=>?_;clear h4
 have hn:0<ps.length:=DR e5
 refine VRs.cons_e r λu _ ra rr=>VRs.nil_e rr (VR.ref_e ra λx e=>?_)
 clear ra rr r
 obtain⟨vs,mm,g,rv⟩:=I.list hl e
 refine dH (yx rv) λPA hT=>?_
 have hname:(toString "min" ++ toString ".loop":String)="min.loop":=by decide
 refine call_function_tree PySem.F.kind_min PySem.F.plain_min PySem.F.entry_min (PySem.F.args_min1 _) ?_
 show So _ A.in1 (VV "min" ["key","default"] 0 ⟨[],[]⟩ >>= _) _ _ s
 refine oX (TP (show VV "min" ["key","default"] 0 ⟨[],[]⟩=pure [none,none] from rfl) ?_)
 refine oX (Sf ?_)
 refine oX (WJ ⟨_,g,rfl,_,rfl⟩ ?_)
 refine oX (TF ?_)
 rw[hname]
 have hx:x<s.heap.objs.size:=Heap.lt_size g
 have hTs:∀T,T5 T∈vs->T<s.heap.objs.size:=λT hm=>by
  refine bH (S1.mp (hT T hm).2) λo e=>?_
  exact Heap.lt_size e
 have sz1:(s.heap.push { cls:=.type "list_iterator",data:=.fields #[.ref x,.int 0 0] }).objs.size=s.heap.objs.size+1:=Heap.size_push ..
 refine Sf ⟨Wk Un _,?_⟩
 refine UO WX ?_
 rw[UY Un _]
 refine oX (m:=Wu (.ref _)) (T2 (Heap.get?_push_size _ rfl) rfl ?_)
 refine lT (PA.2 0 _ (Sw hn)) λT nT xT yT e1 e2=>?_
 have up:∀b o,s.heap.get? b=Sa o->((s.heap.push { cls:=.type "list_iterator",data:=.fields #[.ref x,.int 0 0] }).push { cls:=.type "list",data:=.seq #[] }).get? b=Sa o:=λb o e=>br _ _ (br _ _ e)
 refine oX (m:=tryCatch (UK (.ref _)) _) (WV (ke (C:=C) (i:=0) (l:=x) (items:=vs.toArray) ⟨_,br _ _ (Heap.get?_push_size _ rfl),rfl,rfl⟩ ⟨_,_,up _ _ g,rfl⟩ (x:=.ref T) (by simpa using e1) λh' hit hs=>?_))
 refine oX (Sf ?_)
 have hIS:s.heap.objs.size≠(s.heap.push { cls:=.type "list_iterator",data:=.fields #[.ref x,.int 0 0] }).objs.size:=by rw[sz1];exact SJ (SX _)
 have kp:=λb o (hb:b≠s.heap.objs.size) e=>hs.extBut b o hb e
 have hS':=kp _ _ (Ne.symm hIS) (Heap.get?_push_size _ rfl)
 refine oX (m:=Zy _ (λ_=>#[.ref T,.ref T])) (U2 hS' rfl ?_)
 rw[hname]
 have old:∀b o,s.heap.get? b=Sa o->(h'.update (s.heap.push { cls:=.type "list_iterator",data:=.fields #[.ref x,.int 0 0] }).objs.size (S5 λ_=>#[.ref T,.ref T])).get? b=Sa o:=λb o e=>by
  have hb:=Heap.lt_size e
  rw[Heap.get?_update_other _ _ (by rw[sz1];exact(SJ (Th hb)).symm)]
  exact kp b o (SJ hb) (up b o e)
 refine Sf ⟨Wk Un _,Bm (C:=C) (l:=x) (vs:=vs) (ps:=ps) (base:=s.heap) R.handled (by have:=R.units;show A.units+10<9900;lia) (SJ hx) (by rw[sz1];exact SJ (Th hx)) hIS (λT hm=>⟨SJ (hTs T hm),by rw[sz1];exact SJ (Th (hTs T hm))⟩) rfl rfl _ 0 _ _ (.ref T) rfl hn ⟨?_,⟨_,old _ _ g⟩,⟨PA.1,λi p e=>?_⟩,λb o _ _ e=>old b o e⟩ e1 (Heap.get?_update_self _ hS' rfl) λv s' hv hk ho hg=>?_⟩
 ·refine aE hit λo q1 q2=>?_
  exact⟨o,(Heap.get?_update_other _ _ (Ne.symm hIS)).trans q1,q2⟩
 ·refine lT (PA.2 i p e) λT' n' x' y' a1 a2=>?_
  exact⟨T',n',x',y',a1,old _ _ a2⟩
 ·have keep:∀b o,s.heap.get? b=Sa o->s'.heap.get? b=Sa o:=λb o e=>hk b o (SJ (Heap.lt_size e)) (by rw[sz1];exact SJ (Th (Heap.lt_size e))) e
  have hbl:bA ps (ps.length - 1)<ps.length:=by have:=jM ps (ps.length - 1);omega
  have S':Step [] σ s σ s':=⟨⟨[],by simp,λ_ h=>nomatch h⟩,λb o _ _ e=>keep b o e,ho,λh=>by rw[hg];exact h⟩
  refine aE (rv.get (i:=bA ps (ps.length - 1)) (Sw (by simpa using hbl))) λu hu ru=>?_
  rw[hv] at hu
  cases hu
  refine⟨σ,_,st,S',I.grow keep,S'.vr .nil ru,?_⟩
  have mb:=xR ps _ 0 rfl hn
  rw[e5,Sd.drop_succ_cons,Sd.drop_zero] at mb
  have mb:=(SO (yG m) (AA (i:=bA ps 0) (d:=(0,0)) rfl e5)).symm.trans mb
  rw[mb] at h5
  simp only[Xc]
  rw[TM,Sw hbl] at h5
  exact h5
end
section
variable {C:Cfg}{fx:Fx}{d:Nat}{A:Around}{env:Env}{σ σ1:List Addr}{fm:Fm}{st:St}{s aaQ:Shared}
structure bX (C:Cfg)(fa:Ss)(fd:XR)(body:Sd Stmt)(ps:Sd (Si×Nat))(xs:Sd Str):Prop where
 obj:∃o,C.K.lookup fa=Sa o/\o.data=.func fd
 code:codeIn C.K fd.code fd.qualname=Se
 body:fd.body=.stmts body
 glob:fd.globals=SY
 blt:fd.builtins=T6
 co:fd.scope.isCoroutine=ll
 gen:fd.scope.isGenerator=ll
 sc:dT fd.scope=Se
 par:nE (aR fd.scope) ps xs
 binds:∀us:Sd Sn,us.length=ps.length->∀s:Sr,C.K.In s.heap->Ub s fd ⟨us,[]⟩ (xs.zip us)
structure II (fa:Ss)(fd:XR)(env:Env):Prop where
 func:env.func=Sa fa
 code:env.code=fd.code
 scope:env.scope=fd.scope
 cells:∀x,x∉au fd.scope .cell->env.cells.lookup x=fd.closure.lookup x
 qual:env.qual=fd.qualname ++ ".<locals>."
theorem bu (Ok:C.Ok) {body:Sd Stmt} {xs:Sd Str}{c:CS}(O:bX C fa fd body ps xs)(hb:uY C (aR fd.scope) (II fa fd) d body body c) :
  eY C (d+1) (.ref fa) (bn ps (au fd.scope .local).length (au fd.scope .cell).length c):=by
 intro A σ st s k l us R I r h
 refine dH (eH h) λhlen h=>?_
 have hlen:=SK hlen
 rw[aC,aC] at hlen
 refine aE (O.obj) λo ho hd=>?_
 have X:=I.X Ok
 refine W1 R.top (X _ _ ho) hd O.co O.gen O.body (Z1 X O.code) ?_
 refine O.binds us (r.length.trans hlen) s X _ _ _ _ ?_
 rw[O.glob]
 have q:=jG (A:=A.in1) (closure:=fd.closure) (q:=[]) (around:=none) (qual:=fd.qualname ++ ".<locals>.") (func:=Sa fa) (code:=fd.code) O.sc O.blt O.par I r (Td _) (λi x _ h=>S8 h (U3 _)) (k:=λfm st=>c fm st λf _ st=>@Fl.rec (λ_=>Si) (k .none st) ll ll (λv=>k v st) f) (by simpa using h)
 refine Sm q ?_ λ_ _ e=>e.elim
 rintro env s' ⟨σ',fm',st',E,e1,e2,e3,e4,S',I',F',dL,h'⟩
 refine⟨(Ok.T.nolimit.keeps I'.base),ks_codeAny_funcAt ?_⟩
 refine WU (hb (A.deeper env) env σ' fm' st' s' _ R.deeper E ⟨e2,(e3 rfl).1,e1,e4,(e3 rfl).2⟩ I' F' h') ?_ λ_ _ e=>e.elim
 rintro f s'' ⟨σ'',fl,fm'',st'',S'',I'',F'',q,h''⟩
 have S:Step [] σ s σ'' s'':=(S'.up.trans S'').more λb m=>.inr (by rw[Sj.mp m];exact dL)
 induction fl with
 | nxt=>induction f <;> first | exact q.elim | exact⟨σ'',.none,st'',S,I'',.none,h''⟩
 | brk=>exact ff h''
 | cnt=>exact ff h''
 | ret v=>induction f <;> first | exact q.elim | exact⟨σ'',v,st'',S,I'',q,h''⟩
theorem ir {EP EP':Env->Prop}{body x:Sd Stmt}{c:CS}(h:uY C fx EP d body x c)(he:∀env,EP' env->EP env):uY C fx EP' d body x c:=λA env σ fm st s k R E P I F q=>h A env σ fm st s k R E (he env P) I F q
theorem jJ (x:II fa fd env)(sc:dT fd.scope=Se)(hc:fd.closure.lookup ("__class__":Str)=Sa 168)(hf:("__class__":Str)∈au fd.scope .free)(hs:("super":Str)∈(aR fd.scope).gn)(h0:(aR fd.scope).ln[0]? = Sa ("self":Str)):gZ (aR fd.scope) env fa fd:=by
 simp only[dT,S6,decide_eq_true_eq] at sc
 have hl:=cF sc.1.2 (dk hf)
 refine⟨x.func,x.code,(x.cells _ λm=>?_).trans hc,by unfold YM;rw[x.scope];exact hl,hs,h0⟩
 have:=cF sc.1.2 (dk m)
 rw[hl] at this
 exact nomatch this
theorem t6 {b t t':Si}(h:t=Se->t'=Se)(x:aD b t ll=Se):aD b t' ll=Se:=by
 refine aM x λe81 y=>?_;clear x;subst e81
 exact h y
theorem vz {k k':Nat->Si}(h:∀n,k n=Se->k' n=Se)(x:bB v k=Se):bB v k'=Se:=by
 refine bO x λn e81 y=>?_;clear x;subst e81
 exact h n y
theorem vH {k k':Int->Si}(h:∀n,k n=Se->k' n=Se)(x:aG v k=Se):aG v k'=Se:=by
 refine aO x λn e81 y=>?_;clear x;subst e81
 exact h n y
theorem yH {t:T}:∀{i:Nat}{k k':O->Si},(∀o,k o=Se->k' o=Se)->t.get i k=Se->t.get i k'=Se:=by
 induction t with
 | nil=>intro i k k' _ x;exact ff x
 | node v l r ihl ihr=>
  intro i k k' h x
  induction i with
  | zero=>exact h v x
  | succ j=>
   have x:@Te (λ_=>Si) (r.get (Xe j 2) k) (l.get (Xe j 2) k) (SD (YC j 2) 0)=Se:=x
   show @Te (λ_=>Si) (r.get (Xe j 2) k') (l.get (Xe j 2) k') (SD (YC j 2) 0)=Se
   cases q:SD (YC j 2) 0 with
   | true=>rw[q] at x;exact ihl h x
   | false=>rw[q] at x;exact ihr h x
theorem vJ {k k':Nat->Nat->Sd (Nat×V)->Sd V->Si}(h:∀c d f l,k c d f l=Se->k' c d f l=Se)(x:tQ o k=Se):tQ o k'=Se:=by
 refine w0 x λc d f l e81 y=>?_;clear x;subst e81
 exact h c d f l y
theorem lI {k k':Nat->Nat->Nat->Sd (Nat×V)->Sd V->Si}(h:∀n c d f l,k n c d f l=Se->k' n c d f l=Se)(x:fe v st k=Se):fe v st k'=Se:=
 vz (λn y=>yH (λ_ z=>vJ (λc d f l w=>h n c d f l w) z) y) x
theorem j6 {f:α->(β->Si)->Si}(hf:∀x (k k':β->Si),(∀y,k y=Se->k' y=Se)->f x k=Se->f x k'=Se):∀{l:Sd α}{k k':Sd β->Si},(∀q,k q=Se->k' q=Se)->dY f l k=Se->dY f l k'=Se
 | [],_,_,h,x=>h _ x
 | a::l,k,k',h,x=>by
  have x:f a (λy=>dY f l λq=>k (y::q))=Se:=x
  show f a (λy=>dY f l λq=>k' (y::q))=Se
  exact hf a _ _ (λy z=>j6 hf (λq w=>h _ w) z) x
theorem kG {k k':Sd Nat->Si}(h:∀y,k y=Se->k' y=Se)(x:dC v k=Se):dC v k'=Se:=by
 refine lA x λl e81 h1=>?_;subst e81
 refine nQ h1 λx y e81 h2=>?_;clear h1;subst e81
 refine dh h2 λa e81 h3=>?_;clear h2;subst e81
 refine dh h3 λb e81 h4=>?_;clear h3;subst e81
 exact h _ h4
theorem jt {x:Nat}{k k':V->Si}(h:∀v,k v=Se->k' v=Se):∀{fs:Sd (Nat×V)},dK fs x k=Se->dK fs x k'=Se
 | [],z=>by exact ff z
 | p::fs,z=>by
  have z:aD (SD p.1 x) (k p.2) (dK fs x k)=Se:=z
  show aD (SD p.1 x) (k' p.2) (dK fs x k')=Se
  rcases dE z with ⟨q,w⟩ | ⟨q,w⟩
  ·rw[q];exact h _ w
  ·rw[q];exact jt h w
theorem mK {k':V->St->Si}(h:∀i:Int,0<=i->i<1152921504606846976->k (.int i) st=Se->k' (.int i) st=Se)(x:fh [v] st k=Se):fh [v] st k'=Se:=by
 have x:fe v st (λ_ _ _ fs l=>dY dC l λxs=>dK fs 11 λv=>aG v λi=>aD (pU 0 i) (aD (small (fY xs i)) (k (.int (fY xs i)) st) ll) ll)=Se:=x
 show fe v st (λ_ _ _ fs l=>dY dC l λxs=>dK fs 11 λv=>aG v λi=>aD (pU 0 i) (aD (small (fY xs i)) (k' (.int (fY xs i)) st) ll) ll)=Se
 refine lI (λn c d f l y=>?_) x
 refine j6 (f:=dC) (λ_ _ _=>kG) (λq y=>?_) y
 refine jt (λv y=>?_) y
 refine vH (λi y=>?_) y
 refine dH (eH y) λq1 y=>?_
 refine dH (eH y) λq2 y=>?_
 rw[q1,q2]
 rw[gy] at q1
 have q1:=S4 q1
 have q2:=di q2
 have e:=jl q i
 have pos:∀l:Sd (Sd Nat),(0:Int)<=(l.map λx=>(x.length:Int)).sum:=λl=>by
  induction l with
  | nil=>simp
  | cons z l ih=>rw[Tt,Vr];lia
 have:=pos q
 exact h _ (by lia) q2.2 y
noncomputable def FZ (k:Int->St->Si)(v:V)(st:St):Si:=aG v λi=>aD (pU 0 i) (aD (decide (i<1152921504606846976)) (k i st) ll) ll
theorem tW {a dx:Nat} (Ok:C.Ok)(hs:Um C.K (.ref 244) "__len__"=Sa (Sa (.ref 211)))(hf:YN C.K (.ref 211)=Sa (.type "function"))(hF:eY C d' (.ref 211) fh)(R:Rm d' A)(I:Inv C σ st s)(ha:σ[n]? = Sa a)
  (ho:st.look n=Sa (.lsub c dx fs l)) {k:Int->St->Si} (h:fh [.ref n] st (λv st=>aG v λi=>k i st)=Se)
  (hQ:∀i t σ' st' s',0<=i->Step [] σ s σ' s'->Inv C σ' st' s'->k i st'=Se->Q (.int i t) s'):So C.M A (Builtin.«len» ⟨[.ref a],[]⟩) (λfin s'=>∃v,fin=.done (.ret v)/\Q v s') cL s:=by
 obtain⟨b,dx',es,m,vs,m',rfl,hb,hdx,hox,hD,er,hvs,IA⟩:=I.lsub ho
 rw[ha] at hb
 cases hb
 unfold Builtin.«len»
 refine oX (m:=oneArg "len" _) (Sf ?_)
 have h':fh [.ref n] st (FZ k)=Se:=mK (λi h0 h1 h2=>by
  show aD (pU 0 i) (aD (decide (i<1152921504606846976)) (k i st) ll) ll=Se
  rw[gy,Tq h0,Tq h1]
  exact h2) h
 refine oX (m:=XF (.ref a) (TT "__len__")) (special_fn (I.X Ok) IA hs hf (Sm (mJ hF A σ st s (FZ k) [.ref n] [.ref a] R I (.cons (.ref ha) .nil) h') ?_ λ_ _ e=>e))
 rintro u s' ⟨σ',v,st',S',I',r',h2⟩
 refine aO h2 λi e81 h3=>?_;clear h2;subst e81
 refine aM h3 λq1 h4=>?_;clear h3
 refine aM h4 λq2 h5=>?_;clear h4
 rw[gy] at q1
 have q1:=S4 q1
 have q2:=S4 q2
 refine VR.int_e r' λt=>?_
 clear r'
 refine oX (SN (Sf ?_))
 refine oX (Vo ?_)
 show So _ _ (if i<0 then _ else _) _ _ _
 refine wN (by lia) ?_
 show So _ _ (if i≥2 ^ 63 then _ else _) _ _ _
 refine wN (by lia) ?_
 refine oX (wpAny_mkInt (Sf ⟨_,rfl,hQ i _ σ' st' _ q1 (S'.trans (Step.all (λ_ _ e=>e))) (I'.grow λ_ _ e=>e) h5⟩))
theorem zI (Ok:C.Ok)(hs:Um C.K (.ref 244) "__len__"=Sa (Sa (.ref 211)))(hf:YN C.K (.ref 211)=Sa (.type "function"))(hF:eY C d' (.ref 211) fh):Lw C (d'+1) (.builtin "len") fh:=by
 intro A σ st s k n a c dx fs l R I ha ho h
 refine Calls.call_function_entry kind_len plain_len entry_len (args_len1 _) ?_
 refine tW Ok hs hf hF R.in1 I ha ho (k:=λi st=>k (.int i) st) (mK (λi _ _ h=>h) h) ?_
 intro i t σ' st' s' _ S' I' h'
 exact⟨σ',_,st',S',I',.int _ _,h'⟩
theorem tsub (Ok:C.Ok)(hb:Um C.K (.ref 244) "__bool__"=Sa none)(hs:Um C.K (.ref 244) "__len__"=Sa (Sa (.ref 211)))(hf:YN C.K (.ref 211)=Sa (.type "function"))(hF:eY C d' (.ref 211) fh):TSub C (d'+1):=by
 intro A σ st s k n a c dx fs l R I ha ho h
 obtain⟨b,dx',es,m,vs,m',rfl,hb',hdx,hox,hD,er,hvs,IA⟩:=I.lsub ho
 rw[ha] at hb'
 cases hb'
 have X:=I.X Ok
 unfold truthy
 refine oX (m:=XF (.ref a) (TT "__bool__")) ?_
 unfold XF
 refine oX (oX (IA.type.here ((TX X hb).here (Sf ?_))))
 dsimp only
 refine oX (oX (IA.type.here ((TX X hs).here ?_)))
 refine im rfl ?_
 refine oX (wpAny_runValue (UO entry_len ?_))
 rw[UY plain_len _]
 refine Sm (tW Ok hs hf hF R.in1 I ha ho (k:=λi st=>k (ee (jf i 0)) st) h (Q:=λv s'=>∃i t,v=.int i t/\OutB C σ s k (ee (jf i 0)) s') λi t σ' st' s' _ S' I' h'=>⟨i,t,rfl,σ',st',S',I',h'⟩) ?_ λ_ _ e=>e.elim
 rintro _ s' ⟨_,rfl,i,t,rfl,q⟩
 refine Sf ?_
 rw[fI,dm] at q
 have e:(i != 0)=!decide (i=0):=by by_cases z:i=0 <;> simp[z]
 rw[e]
 exact q
theorem vg {k':V->St->Si}(h:∀x,k (.str x) st=Se->k' (.str x) st=Se)(x:pf [v] st k=Se):pf [v] st k'=Se:=by
 have x:fe v st (λ_ _ _ _ l=>aD (aB (aK l)) (dY dC l λxs=>aD (aB (aK (jI xs))) (k (.str (jI xs)) st) ll) ll)=Se:=x
 show fe v st (λ_ _ _ _ l=>aD (aB (aK l)) (dY dC l λxs=>aD (aB (aK (jI xs))) (k' (.str (jI xs)) st) ll) ll)=Se
 refine lI (λn c d f l y=>?_) x
 refine t6 (λy=>?_) y
 refine j6 (f:=dC) (λ_ _ _=>kG) (λq y=>?_) y
 exact t6 (λy=>h _ y) y
theorem IU (Ok:C.Ok)(hs:Um C.K (.ref 244) "__str__"=Sa (Sa (.ref 218)))(hf:isFn C.K (.ref 218)=Se)(hF:eY C d' (.ref 218) pf):SF C (d'+2) (.type "str") vx:=by
 intro A σ st s k l us R I r h
 refine d9 h λv e81 h1=>?_;subst e81
 refine iw h1 λn c dd fs l e81 ho h2=>?_;clear h1;subst e81
 obtain⟨a,dx,es,m,vs,m',rfl,ha,hdx,hox,hD,er,hvs,IA⟩:=I.lsub ho
 refine VRs.cons_e r λu _ ra rr=>VRs.nil_e rr (VR.ref_e ra λb e=>?_)
 clear r ra rr
 cases ha.symm.trans e
 refine kso_call (by have:=R.units;show A.units+1+1<9900;lia) (I.X Ok) IA hs hf ?_
 refine Sm (mJ hF A.in1.in1 σ st s (λv st=>dB v λx=>k (.str x) st) [.ref n] [.ref a] R.in1.in1 I (.cons (.ref ha) .nil) (vg (λx z=>z) h)) ?_ λ_ _ e=>e
 rintro u s' ⟨σ',v,st',S',I',r',h'⟩
 refine dh h' λx e81 h3=>?_;clear h';subst e81
 exact VR.str_e r' λt=>⟨σ',_,st',S',I',.str _ _,h3⟩
end
end Mine.Internal
namespace Mine
section
set_option Elab.async true
theorem hd0.tw3310931918178840333:True:=⟨⟩
section
local macro_rules | `(tactic| o_head $_)=>`(tactic| exact False.elim (by assumption))
theorem hd0:False->PySem.Challenge.rw_xl0030_01.Holds:=by
 intro hF
 w_on
 o_law
 k_head
end
end
end Mine
namespace Mine.Internal
open PySem PySem.Spec PySem.Calls PyProof.Rows PySem.W Builtin Builtin.ObjectAttr
open _root_.Bool renaming false→ll,true→Se,and_eq_true→S6,rec→Te,noConfusion→Uw,false_ne_true→Vz,not_eq_true'→VU,true_and→We,false_and→WA,and_false→WC,or_eq_false_iff→Xk,and_eq_true_iff→Zn
open _root_.PySem renaming wpAny_bind→oX,wpAny_pure→Sf,wpAny_mono→Sm,Value→Sn,wpAny→So,Shared→Sr,Addr→Ss,wpAny_holding→SN,mainGlobals→SY,foldedSetIterable→Tr,wpAny_Call_Name_kw→Tw,letOwnedTupleGo→Tx,wpAny_standAt→Tz,wpAny_field→TB,wpAny_newObj_type→TF,wpAny_of_eq→TP,starEach→TY,wpAny_seqItems→T2,wpAny_callSpecial?_slot→T3,wpAny_loadName_local→T4,builtinsNs→T6,assignEach→T8,Around→Ua,BindsTo→Ub,wpAny_call_entry→Uc,IsRangeIter→Ug,wpAny_storeName_local→Up,seg_execs_cons→Us,slot_list_append→Uz,standAt→UC,IsPair→UE,wpAny_truthy_bool→UH,wpAny_call→UI,isInstance→UJ,pyNext→UK,codeAny_builtin→UO,DictEntry→US,sizeLine→UW,codeAny_call_builtin→UX,codeAny→U0,wpAny_rule→U1,wpAny_updateSeq→U2,isTrue→U7,sizeLine_eq→U8,builtinKind→U9,wpAny_isInstance→Vb,type_list_append→Vc,PyData→Vd,slot_listiter_next→Vf,wpAny_setField_rec→Vh,numAt→Vi,wpAny_specialOf→Vj,wpAny_letGo→Vo,wpAny_attempt→Vq,checkBoundCall→Vt,clipAt→Vx,rawInt→Vy,newEnv→VB,codeAny_mono→VC,getAttrByItsOwn→VG,IsZip→VJ,swapsWith→VK,swappedStores→VL,wpAny_isTrue_Compare1→VN,slot_list_getitem→VT,wpAny_Name→VW,letTemporaryGo→VZ,typeIs_str→V0,wpAny_listPart→V1,seqIndex?→V7,plainId_quiet→Wk,theTreesLotGoes→Wn,wpAny_Constant_int→Wp,call_meets→Wq,argsOk→Ws,seqItems?→Wu,getMethod→Wv,boundAndCalled→WD,wpAny_loadPart→WG,wpAny_pyNext_list_item→WI,wpAny_pyIter_list→WJ,IsRange→WL,wpAny_pyIter_enum→WM,newFunctionEnv→WO,GenState→WT,ks_wpAt_mono→WU,wpAny_tryCatch→WV,recursionLimit→WW,wpAny_pyNext_list_end→WZ,codeAny_call_function→W1,codeAmong→W3,backTo→W4,typeIs_int→W5,checkBuiltinCall→W6,wpAny_load→W8,preSum→Xa,swapsWithSole→Xg,wpAt_of_wpAny→Xh,seg_execs_nil→Xi,callWith→Xm,callSpecialIfBoundUnlessNone?→Xn,typeOf→Xq,codeAny_of_tree→Xt,wpAny_loadPart'→Xu,wpAny_Constant_none→Xz,wpAny_Constant_bool→XA,builtinType_eq_fast→XC,callSpecial?→XF,getItem→XG,loadGlobal→XN,pyIter→XO,wpAny_pyIter_range→XP,wpAny_isTrue_value→XQ,FuncData→XR,bindArgs→XT,firstArgMember→XU,slicePicked→Yb,slot_list_setitem→Yc,argBest→Yf,wpAny_assign_Name→Yg,evalPart_none→Yi,wpAny_comprehension_free→Yk,wpAny_onRaise→Yl,TriplesOk→Yn,binaryOp→Yo,callGetattribute→Ys,wpAny_askSetting→Yt,wpAny_listSubscript_int→Yu,wpAny_getItem_str_slice→Yw,strValues→Yy,noteFrame→YB,wpAny_allTrue_And_cons→YG,wpAny_mkText→YI,wpAny_getItem_list_neg→YK,wpAny_typeOf→YL,closureFor→YP,codeAny_compStart_list→YQ,wpAny_allTrue_Or_cons→YV,wpAny_pyIter_listiter→YY,exec_Assign_Name_used→YZ,builtinLookup_eq_fast→Y0,slot_list_iter→Zf,keywordEach→Zg,wpAny_alloc→Zi,compPost→Zl,isSubtype_stop→Zm,seg_Expr_Yield→Zo,splitId→Zw,setItem→Zx,updateSeq→Zy,newList→Zz,behindInMarks→ZM,evalPart_some→ZO,wpAny_release→ZP,assignInOrder→ZQ,compTurn_list→ZR,wpAny_handled→ZS,wpAny_newList→ZU,call_range_1→Z7,compTurn→aab,isSubtype→aam,specialOf→aan,storeName→aao,inplaceOp→aap,IsEnum→aar,IsPart→aaH
open _root_.Option renaming some→Sa,isSome_iff_exists→S1,map_some→Uv,bind_some→Va,map_eq_some_iff→VE,rec→ZV
open _root_ renaming List→Sd,Bool→Si,if_neg→Sz,congrArg→SO,Option→SP,if_pos→SR,of_decide_eq_true→S4,absurd→S8,decide_eq_false→Tp,decide_eq_true→Tq
open _root_.List renaming mem_singleton→Sj,mem_of_getElem?→Sp,replicate→Sq,size_toArray→Su,mem_cons→Sv,getElem?_eq_getElem→Sw,getElem?_eq_some_iff→Sy,length_append→SU,rec→SZ,length_map→S0,forall_mem_cons→S7,all_eq_true→Ta,length_cons→Tc,mem_append→Tf,getElem?_append_left→Ti,map_cons→Tt,flatten_cons→TC,getElem?_map→TG,replicate_succ→TH,getD_eq_getElem?_getD→TM,length_replicate→TN,append_nil→TR,getElem?_append_right→TZ,map_map→T9,mem_append_left→Uj,range→Ul,getElem?_toArray→Uq,mem_range→Ur,forIn_cons→Uu,lookup_cons→Uy,take_of_length_le→UL,mem_map_of_mem→UM,pairwise_iff_getElem→UQ,append_assoc→UZ,map_congr_left→U5,head?_drop→Vk,map_append→Vl,nodup_append→Vm,sum_cons→Vr,nodup_cons→VH,length_nil→VI,length_singleton→VS,getElem?_of_mem→V4,cons_append→V8,getElem?_eq_none_iff→Wa,length_eq_zero_iff→Wt,getElem?_cons_succ→Wy,getElem?_replicate→Wz,length_range→WH,forIn_nil→WN,take_add_one→WQ,range_succ_eq_map→WR,drop_drop→WY,getElem?_eq_none→W0,getElem_map→Xc,map_take→Xj,drop_eq_nil_iff→Xl,nil_append→Xv,mem_map→XH,map_replicate→XW,drop_eq_getElem_cons→XX,getElem?_zip_eq_some→XZ,all_toArray→Yp,length_take→Yx,find?_cons_of_neg→YH,mem_filter→YU,dropLast_eq_take→Y1,cons_lt_cons_iff→Y4,mem_append_right→Y5,singleton_append→Y6,perm_append_comm→Y7,lookup→Zj,mem_cons_of_mem→Zk,lt_irrefl→Zp,range'→Zs,range_eq_range'→Zt,foldl_toArray'→ZI,getElem_of_mem→ZK,filterMap_map→ZX,mem_cons_self→ZY,mem_replicate→Z2,push_toArray→aac,ext_getElem?→aag,any_toArray→aak,any_eq_true→aal,not_mem_nil→aat,perm_middle→aaw,Perm→aaO
open _root_.Nat renaming le_trans→Sk,le_of_ble_eq_true→Sl,lt_of_lt_of_le→Sx,beq→SD,lt_trans→SH,ne_of_lt→SJ,eq_of_beq_eq_true→SK,le_refl→SQ,ble→SV,exists_eq_add_of_le'→SW,lt_succ_self→SX,le_add_right→S9,rec→Tb,zero_le→Td,lt_of_le_of_lt→Tg,lt_succ_of_lt→Th,lt_irrefl→Tj,add_le_add_left→Ts,ne_of_gt→Tu,succ→Tv,le_of_lt→TJ,le_add_left→TK,succ_le_succ→TQ,ble_eq_true_of_le→TU,le_succ→TV,le_of_eq→T7,succ_add_eq_add_succ→Ud,lt_succ_of_le→Uh,not_lt→Uk,le_antisymm→UN,not_lt_zero→U3,le_succ_of_le→Vp,beq_refl→Vv,le_of_sub_eq_zero→VQ,lt_add_one→VY,add_le_add→V3,lt_of_not_le→V5,zero_add→V9,add_right_comm→Wo,lt_of_succ_le→WS,sub_le→W7,mod_lt→Xd,div→Xe,exists_eq_succ_of_ne_zero→Xo,min_eq_left→Xp,mul_le_mul_left→Xy,mul→XD,add_assoc→Yh,mod→YC,succ_pos→YD,sub_succ→YS,lt_of_sub_eq_succ→Y3,add_le_add_right→Y9,one_mul→Zr,add→Zu,mod_two_ne_zero→ZD,add_comm→Z4,lt_trichotomy→Z5,add_div_right→aai,le_of_lt_succ→aaj,pred→aaK,sub→aaP
open _root_.PySem.Obj renaming mapSeq→S5,data_mapFields→Z0,putName→aaB
open _root_.PySem.Builtin.SmallTypes renaming nextOf→Tn,ownedTupleIsFree→Ut,ownedTupleHandOut→Wd
open _root_.PySem.Builtin.Range renaming rangeSize→To
open _root_.Int renaming ofNat→TA,ofNat_eq_natCast→Ux,natCast_nonneg→UR,rec→UU,le_of_lt→V6,negSucc_lt_zero→Wb,lt_trans→XE,not_lt→XK,max_eq_right→Yv,le_trans→YF,negSucc→Y8,subNatNat_of_le→ZE,toNat_of_nonneg→ZF,toNat_of_nonpos→ZG,neg→Z3,ofNat_le→Z6,toNat_natCast→aaf
open _root_.PySem.Builtin.List renaming listItems→TS,listSubscript?→Ui,listUpdate→UA,listFitsIndex→UF
open _root_.PySem.Str renaming ofString→TT
open _root_.PySem.W renaming looks_findIn→TX,emptyDict→Ue,findIn→Um,InstAt→Uo,looks_mroIn→Vn,putName_dict→Vw,dictOf→VM,looks_nsIn→W9,callWith_of→Ye,methodObj→YA,check_slot→YJ,typeIn→YN,instObj→YO,looks_clsIn→Zb,hasDictIn→Zv,codeRec_of→Z1,findCls→aaa,alongIn→aae,keepIn→aas,specialIn→aau,tabObj→aax,clsIn→aaA,kla_obj→aaE,hideAll→aaF,lookIn→aaG,nsIn→aaI
open _root_.PySem.Value renaming ref→T5,none→XS,isStr→Ya,int→ZA,str→aaN
open _root_.PySem.F renaming plain_min_loop→Un,slot_list_getattribute→UT,slot_range_iterator_next→Vg,slot_str_split→VF,slot_str_join→VP,slot_str_getitem→Wf,slot_str_isspace→Wh,args_str_split_2→Wj,ks_slot_super_ga→Wl,entry_str_split→Wx,args_list_getattribute_2→WE,entry_min_loop→WX,type_str_join→W2,args_range_iterator_next_1→Xw,slot_zip_next→Xx,entry_range_iterator_next→XI,type_str_isspace→Ym,slot_list_index→Yz,plain_list_new→YR,entry_list_ga→YW,slot_tuple_lt→Y2,store_object→Zc
open _root_.PyProof.Rows renaming strKind→UB,IntsAre→UG,seqObj→UP,AllBare→UV,spliced_more→U6,assignInOrder_cons→VA,assign_Name→Wg,listUpdate_at→Wm,assignInOrder_nil→Yd,args_nil→Yr,Attribute_any_→Zd,tail_any→Ze,subscriptTail→ZN,arrOf→ZT,SortedToK→aav
open _root_.PySem.Builtin.Str renaming strSliceIndices→UD,partsBetween→Wi,occurrences→Ww,strKind→ZJ
open _root_.PySem.Around renaming under_plainId→UY
open _root_.ForInStep renaming yield→U4
open _root_.PySem.PyData renaming keyHash→Vs,int→Vu,canLay0→VX,eqv→Wr,depth→WB,eqvAll→Xf,canLayAll0→X0,depthAll→YT
open _root_.PySem.Manifest renaming canonical→VD,signature?→Wc
open _root_.Array renaming getElem?_toList→VO,getElem?_eq_some_iff→V2,length_toList→XB,set!_eq_setIfInBounds→XJ,getElem_toList→Zq,toList_append→ZL,size_append→Z9,toList_zip→aay
open _root_.PySem.Builtin.Builtins renaming bindParams→VV
open _root_.PySem.Calls renaming evalArgs_plain→WK
open _root_.And renaming intro→Xb
open _root_.PySem.Unicode renaming isSpace→Xr
open _root_.List.cons renaming injEq→Xs
open _root_.PySem.Bind renaming checkArgs→XM,madeBy→aaC
open _root_.PySem.Builtin.Generator renaming genWake→XY
open _root_.PySem.W.Looks renaming of_pure→Yj
open _root_.String.Pos.Raw renaming mk_le_mk→Yq
open _root_.PyProof renaming noPylong_small→YE
open _root_.PySem.Env renaming kindOf→YM
open _root_.PySem.StrLaws renaming glued_eq_join→YX
open _root_.PySem.P renaming eq_int→Za,getItem_str→ZH,iadd_int→aaq,len_str→aaD
open _root_.ForIn renaming forIn→Zh
open _root_.PySem.Code renaming quiet_builtin→ZZ
open _root_.PySem.callAny renaming viaDunder→aad
open _root_.PySem.Sem renaming bind_eq_wrap'→aah
open _root_.LawfulMonad renaming pure_bind→aaz
open _root_.Array.mk renaming injEq→aaJ
open _root_.PyProof.Rows.SortSt renaming mk'→aaL
open _root_.Function renaming comp→aaM
variable{h:Heap}{C:Cfg}{s:St}{α:Type}{abt:Nat}{fx:Fx}{z a:Addr}{elt:Expr}{σ:List Addr}{x:Str}{es:List Expr}{TI:Addr}{env:Env}{t:Nat}{l:List V}{it:It}{xs:List Int}{gens:List Comprehension}{N:Nat}{dx fa:Addr}{v:V}{st:St}{L:Addr}{gi:eN}{scope:Scope}{fd:FuncData}{af:Addr}{s0:St}{k:V->St->Bool}{c:Nat}{cs:CA}{sc lsc:Scope}{as:CA}{q:List V}{r:T}{j:Nat}{fm:Fm}{d:Nat}{st':St}{B:List Stmt}{Q E:Value->Shared->Prop}{ca cb:CE}{op:OP}{cc:CT}{ce:CE}{en:Expr}{expr:Bool}{tk:Tok}{cd:ClassData}{w:V}{ci:CI}{ct:CT}{R:List Nat}{Ex:Value->Shared->Prop}{orelse:List Stmt}{R₀:Result->Shared->Prop}{qual:Str}{func:Option Addr}{around:Option Env}{ps:List (Bool×Nat)}{d':Nat}{pl:Sem Bool}{co:CE}{apos:Pos}{g:Addr}{tp:Pos}{ifs:List Expr}{acc:Value}{cenv:Env}{target2 iter2:Expr}{ifs2:List Expr}{ty bt:String}{p0:Pos}{xa:Str}{pa pb pt px:Pos}{kt:Nat}{s'':Shared}{t1 t2:Pos}{tc:Tok}{left:Int}{TO:Addr}{e1:Pos}{eg:Expr}{cn cg:CE}{fname:Str}{z0 z1 z2 z3 z4 z5:Pos}{ks:List KP}{clos:List (Str×Addr)}{st1:St}{nl c1 ring:Nat}{cur:List Nat}{many:Nat}{o':O}{s':Shared}{ox:Obj}{gs:xE}{params:Arguments}{xb:Str}{ys:List Int}{ac:Addr}{p:Pos}{A:Around}{items:Array Value}{m:Nat}{f:Value}{target:Expr}{D:Addr}{spos:Pos}{hb:Heap}{i:Nat}{γ:Type}{i1:Addr}{aaV:Shared}{fs:List (Nat×V)}{y:Str}{od:Option Obj}{py:Pos}{b:Addr}{vs:List Value}{n:Nat}{pos:Pos}{β:Type}{G:Addr}{fp:List Addr}{stop:Bool}{h':Heap}{u:Value}{o:O}
noncomputable section
noncomputable def Pr:XR:={ name:="",qualname:="",params:=⟨[],[],none,[],[],none,[]⟩,body:=.stmts [],scope:={ kind:=.function,names:=[],isGenerator:=ll,isCoroutine:=ll },globals:=0,closure:=[],defaults:=.none,kwdefaults:=.none }
noncomputable def N4:Obj:={ cls:=.none }
noncomputable def mR (K:Frag)(a:Ss):Obj:=(K.lookup a).getD N4
noncomputable def JT (o:Data):XR:=match o with
 | .func fd=>fd
 | _=>Pr
noncomputable def B2 (o:Data):Si:=match o with
 | .func _=>Se
 | _=>ll
noncomputable def aZ (K:Frag)(a:Ss):XR:=JT (mR K a).data
noncomputable def aI (K:Frag)(a:Ss):Sd Stmt:=match (aZ K a).body with
 | .stmts b=>b
 | _=>[]
noncomputable def Dw (K:Frag)(a:Ss):Si:=(K.lookup a).isSome && B2 (mR K a).data
end
theorem FI {K:Frag} (h:(K.lookup a).isSome=Se):K.lookup a=Sa (mR K a):=by
 unfold mR
 cases e:K.lookup a with
 | none=>rw[e] at h;exact ff h
 | some o=>rfl
theorem DV {d:Data}(h:B2 d=Se):d=.func (JT d):=by
 induction d <;> first | exact ff h | rfl
theorem Az {K:Frag} (h:Dw K a=Se):∃o,K.lookup a=Sa o/\o.data=.func (aZ K a):=
 ⟨_,FI (Zn.mp h).1,DV (Zn.mp h).2⟩
theorem uG {P:α->Prop}:∀a∈([]:Sd α),P a:=λ_ m=>nomatch m
theorem dy {P:α->Prop}{x:α}{l:Sd α}(h:P x)(t:∀a∈l,P a):∀a∈x::l,P a:=λa m=>(Sv.mp m).elim (λe=>e▸h) (t a)
noncomputable abbrev KH (P:Params):Frag:=hd0.heap_1_39 P
theorem bx {l:Sd Str} (h:l.contains x=Se):x∈l:=by simpa using h
section
variable {C:Cfg}{P:Params}
theorem ME (h:C.K=KH P):cJ C:=by
 constructor
 ·intro c hc;rw[h];rcases c with _ | _ | _ | c <;> first | (exfalso;omega) | kernel_rfl
 ·intro c hc;rw[h];rcases c with _ | _ | c <;> first | (exfalso;omega) | kernel_rfl
 ·rw[h];kernel_rfl
 ·intro c hc;rw[h];rcases c with _ | _ | _ | c <;> first | (exfalso;omega) | kernel_rfl
 ·intro c hc;rw[h];rcases c with _ | _ | _ | c <;> first | (exfalso;omega) | kernel_rfl
 ·have e:((Ul 3).all λc=>(Ul 12).all λx=>Um (KH P) (.ref (dF c)) (aW x) == Sa none)=Se:=by kernel_rfl
  intro c hc x hx
  rw[h]
  have e1:=Ta.mp e c (Ur.mpr hc)
  exact beq_iff_eq.mp (Ta.mp e1 x (Ur.mpr hx))
 ·intro c hc;rw[h];rcases c with _ | _ | c <;> first | (exfalso;omega) | kernel_rfl
 ·rw[h]
  cases e:aaA (KH P) 244 with
  | none=>
   have:(aaA (KH P) 244).isSome=Se:=by kernel_rfl
   rw[e] at this;cases this
  | some cd=>
   refine⟨cd,rfl,?_⟩
   have:(aaA (KH P) 244).map (·.mro)=Sa [.ref 244,.type "list",.type "object"]:=by kernel_rfl
   rw[e] at this
   exact Sa.inj this
 ·rw[h];kernel_rfl
theorem NC (h:C.K=KH P):eP C:=by
 constructor <;> (rw[h];kernel_rfl)
theorem yb (h:C.K=KH P) {v:Sn}(e:aaI (KH P) SY x=Sa (Sa v)):GB C x v:=.inl (by rw[h];exact e)
theorem yV (h:C.K=KH P) {v:Sn}(e:aaI (KH P) SY x=Sa none)(hn:x ≠ "__name__")(hb:bootBuiltins x=Sa v):GB C x v:=.inr ⟨by rw[h];exact e,hn,hb⟩
theorem dW (h:C.K=KH P) {name:Str} (h1:Um (KH P) (.ref (dF c)) name=Sa (Sa (.ref fa)))(h2:YN (KH P) (.ref fa)=Sa (.type "function"))(h3:aas (KH P) (.ref fa)=Se)(h4:((Ul 12).all λx=>aW x != name)=Se):de C c name fa:=
 ⟨by rw[h];exact h1,by rw[h];exact h2,by rw[h];exact h3,λx hx=>by
  have:=Ta.mp h4 x (Ur.mpr hx)
  simpa using this⟩
theorem FY (h:C.K=KH P) (h1:makesIn (KH P) (dF c)=Se)(h2:Um (KH P) (.ref (dF c)) "__init__"=Sa (Sa (.ref fa)))(h3:YN (KH P) (.ref fa)=Sa (.type "function"))(h4:aas (KH P) (.ref (dF c))=Se):tl C c fa:=
 ⟨by rw[h];exact h1,by rw[h];exact h2,by rw[h];exact h3,by rw[h];exact h4⟩
theorem HW (h:C.K=KH P):vt C 181:=by
 constructor <;> (rw[h];kernel_rfl)
theorem gw (h:C.K=KH P){v:Sn}(e:aas (KH P) v=Se):Keeps C v:=ji (by rw[h];exact e)
theorem JN (h:C.K=KH P) {xs:Sd Str}(h1:Dw (KH P) fa=Se)(h2:codeIn (KH P) (aZ (KH P) fa).code (aZ (KH P) fa).qualname=Se)(h3:(aZ (KH P) fa).body=.stmts (aI (KH P) fa))(h4:(aZ (KH P) fa).globals=SY)(h5:(aZ (KH P) fa).builtins=T6)
  (h6:(aZ (KH P) fa).scope.isCoroutine=ll) (h7:(aZ (KH P) fa).scope.isGenerator=ll) (h8:dT (aZ (KH P) fa).scope=Se) (h9:nE (aR (aZ (KH P) fa).scope) ps xs)
  (h10:∀us:Sd Sn,us.length=ps.length->∀s:Sr,(KH P).In s.heap->Ub s (aZ (KH P) fa) ⟨us,[]⟩ (xs.zip us)):bX C fa (aZ (KH P) fa) (aI (KH P) fa) ps xs:=
 ⟨by rw[h];exact Az h1,by rw[h];exact h2,h3,h4,h5,h6,h7,h8,h9,λus hu s X=>h10 us hu s (by rw[←h];exact X)⟩
theorem jK {us:Sd Sn}{P:Sd Sn->Prop}(h:us.length=n+1)(H:∀a r,r.length=n->P (a::r)):P us:=by
 induction us with
 | nil=>cases h
 | cons a r=>exact H a r (Tv.inj h)
theorem zL {us:Sd Sn}{P:Sd Sn->Prop}(h:us.length=0)(H:P []):P us:=by
 induction us with
 | nil=>exact H
 | cons a r=>cases h
theorem fo {s:Sr} (h:∀a,XT fd ⟨[a],[]⟩=pure [(x,a)]):∀us:Sd Sn,us.length=1->Ub s fd ⟨us,[]⟩ ([x].zip us):=λus hu=>jK (P:=λus=>Ub s fd ⟨us,[]⟩ ([x].zip (us))) hu λa _ h0=>zL (P:=λr=>Ub s fd ⟨a::r,[]⟩ ([x].zip (a::r))) h0 (.of_eq (h a))
theorem gF {s:Sr} (h:∀a b,XT fd ⟨[a,b],[]⟩=pure [(x,a),(y,b)]):∀us:Sd Sn,us.length=2->Ub s fd ⟨us,[]⟩ ([x,y].zip us):=λus hu=>jK (P:=λus=>Ub s fd ⟨us,[]⟩ ([x,y].zip (us))) hu λa _ h0=>jK (P:=λr=>Ub s fd ⟨a::r,[]⟩ ([x,y].zip (a::r))) h0 λb _ h1=>zL (P:=λr=>Ub s fd ⟨a::b::r,[]⟩ ([x,y].zip (a::b::r))) h1 (.of_eq (h a b))
theorem qm {s:Sr} {z:Str}(h:∀a b c,XT fd ⟨[a,b,c],[]⟩=pure [(x,a),(y,b),(z,c)]):∀us:Sd Sn,us.length=3->Ub s fd ⟨us,[]⟩ ([x,y,z].zip us):=λus hu=>jK (P:=λus=>Ub s fd ⟨us,[]⟩ ([x,y,z].zip (us))) hu λa _ h0=>jK (P:=λr=>Ub s fd ⟨a::r,[]⟩ ([x,y,z].zip (a::r))) h0 λb _ h1=>jK (P:=λr=>Ub s fd ⟨a::b::r,[]⟩ ([x,y,z].zip (a::b::r))) h1 λc _ h2=>zL (P:=λr=>Ub s fd ⟨a::b::c::r,[]⟩ ([x,y,z].zip (a::b::c::r))) h2 (.of_eq (h a b c))
theorem Hb {s:Sr} {z u v:Str}(h:∀a b c d e,XT fd ⟨[a,b,c,d,e],[]⟩=pure [(x,a),(y,b),(z,c),(u,d),(v,e)]):∀us:Sd Sn,us.length=5->Ub s fd ⟨us,[]⟩ ([x,y,z,u,v].zip us):=λus hu=>jK (P:=λus=>Ub s fd ⟨us,[]⟩ ([x,y,z,u,v].zip (us))) hu λa _ h0=>jK (P:=λr=>Ub s fd ⟨a::r,[]⟩ ([x,y,z,u,v].zip (a::r))) h0 λb _ h1=>jK (P:=λr=>Ub s fd ⟨a::b::r,[]⟩ ([x,y,z,u,v].zip (a::b::r))) h1 λc _ h2=>jK (P:=λr=>Ub s fd ⟨a::b::c::r,[]⟩ ([x,y,z,u,v].zip (a::b::c::r))) h2 λd _ h3=>jK (P:=λr=>Ub s fd ⟨a::b::c::d::r,[]⟩ ([x,y,z,u,v].zip (a::b::c::d::r))) h3 λe _ h4=>zL (P:=λr=>Ub s fd ⟨a::b::c::d::e::r,[]⟩ ([x,y,z,u,v].zip (a::b::c::d::e::r))) h4 (.of_eq (h a b c d e))
theorem AT {s:Sr} {args:Args}{binds:Sd (Str×Sn)}{K:Frag}{T:Ss}{its:Sd Sn} {k:SP (Array Sn)->Sem (Sd (Str×Sn))}(X:K.In s.heap)(hd:fd.defaults=.ref T)(ho:K.lookup T=Sa (cK its n))
  (aaS:XT fd args=Wu fd.defaults >>= k) (aa2:k (Sa its.toArray)=pure binds):Ub s fd args binds:=Ub.of_defaults hd (X _ _ ho) rfl aaS aa2
theorem TSub.up (h:TSub C d')(hd:d'<=d):TSub C d:=λA σ st s k n a c dx fs l R I ha ho q=>h A σ st s k n a c dx fs l (R.le hd) I ha ho q
theorem jp (Ok:C.Ok) {v:Sn}{f:FN}(hok:fx.ok=Se)(hx:x∈fx.gn)(g:GB C x v)(hk:Keeps C v)(hf:SF C d' v f)(hd:d'<=d)(hp:aL es)(hs:SA C fx d es cs) :
  SE C fx d (.Call (.Name x p) es [] pos) (gv f cs):=ly Ok hok hx g hk hf hd hp hs
theorem ya {line:Nat}(hy:y∈fx.cn):∀env,bb fx env->Xg [.Name y py] (.ListComp elt gens sc pos) line env=pure ll:=by
 intro env E
 show VK (.ListComp elt gens sc pos) (Sa (.Name y py)) line env=pure ll
 unfold VK
 dsimp only
 have e1:(Sa NameKind.cell == Sa NameKind.local)=ll:=by decide
 have e2:(Sa NameKind.free == Sa NameKind.local)=ll:=by decide
 rcases E.cn y hy with h | h
 ·rw[h,e1,WC,WA,WA]
 ·rw[h,e2,WC,WA,WA]
theorem fV {line:Nat}(hy:y∈fx.ln)(hl:(py.line == pos.line)=Se)(hn:(sc.names.any λ(n,k)=>n == y && (k == .local || k == .cell))=ll):∀env,bb fx env->VK (.ListComp elt gens sc pos) (Sa (.Name y py)) line env=pure Se:=by
 intro env E
 unfold VK
 dsimp only
 rw[E.ln y hy,hn]
 unfold Env.blockKind
 rw[E.kind]
 show pure (Se && Se && (py.line == pos.line) && Se)=_
 rw[hl]
 rfl
end
section
variable {C:Cfg}{fx:Fx}{d:Nat}
theorem dl {x:Sd Stmt}{c:CS}(h:fx.ok=Se->SL C fx d x c)(hok:fx.ok=Se):SL C fx d x c:=h hok
theorem jN {EP:Env->Prop}{body x:Sd Stmt}{c:CS}(h:fx.ok=Se->uY C fx EP d body x c)(hok:fx.ok=Se):uY C fx EP d body x c:=h hok
theorem cH {iter:Expr} {fr:Sd Nat} (hsc:dT sc=Se)(hfr:fr.map (λj=>fx.cn[j]?)=(au sc .free).map Sa)(hf:∀env x,Tr iter env x=pure x)
  (hi:SI C fx d iter ci) (hg:(aR sc).ok=Se->SGI C (aR sc) d target gi) (ht:(aR sc).ok=Se->wM C (aR sc) d ifs ct) (he:(aR sc).ok=Se->SE C (aR sc) d elt ce) :
  SE C fx d (.ListComp elt [⟨target,iter,ifs,0⟩] sc pos) (cI ci (au sc .local).length (au sc .cell).length fr gi ct (gt ce)):=DI hsc hfr hf hi (hg (df hsc)) (ht (df hsc)) (he (df hsc))
theorem gV {iter:Expr} {fr:Sd Nat} (hsc:dT sc=Se)(hfr:fr.map (λj=>fx.cn[j]?)=(au sc .free).map Sa)(hf:∀env x,Tr iter env x=pure x)
  (hi:SI C fx d iter ci) (hg:(aR sc).ok=Se->SGI C (aR sc) d target gi) (ht:(aR sc).ok=Se->wM C (aR sc) d ifs ct) (he:(aR sc).ok=Se->SE C (aR sc) d elt ce) (hok:fx.ok=Se) (hy:fx.ln[abt]? = Sa y)
  (hsw:∀env,bb fx env->VK (.ListComp elt [⟨target,iter,ifs,0⟩] sc pos) (Sa (.Name y py)) spos.line env=pure Se) :
  SS C fx d (.Assign [.Name y py] (.ListComp elt [⟨target,iter,ifs,0⟩] sc pos) spos) (aV (cI ci (au sc .local).length (au sc .cell).length fr gi ct (gt ce)) (aw ll abt)):=DH hsc hfr hf hi (hg (df hsc)) (ht (df hsc)) (he (df hsc)) hok hy hsw
theorem yC {iter:Expr} {ci2:CI}{gi2:eN}{ct2:CT} {fr:Sd Nat} (hsc:dT sc=Se)(hfr:fr.map (λj=>fx.cn[j]?)=(au sc .free).map Sa)(hf:∀env x,Tr iter env x=pure x)
  (hi:SI C fx d iter ci) (hg:(aR sc).ok=Se->SGI C (aR sc) d target gi) (ht:(aR sc).ok=Se->wM C (aR sc) d ifs ct) (hf2:∀env x,Tr iter2 env x=pure x) (hi2:(aR sc).ok=Se->SI C (aR sc) d iter2 ci2) (hg2:(aR sc).ok=Se->SGI C (aR sc) d target2 gi2) (ht2:(aR sc).ok=Se->wM C (aR sc) d ifs2 ct2) (he:(aR sc).ok=Se->SE C (aR sc) d elt ce) :
  SE C fx d (.ListComp elt [⟨target,iter,ifs,0⟩,⟨target2,iter2,ifs2,0⟩] sc pos) (cI ci (au sc .local).length (au sc .cell).length fr gi ct (IZ ci2 gi2 ct2 (gt ce))):=
 z7 hsc hfr hf hi (hg (df hsc)) (ht (df hsc)) hf2 (hi2 (df hsc)) (hg2 (df hsc)) (ht2 (df hsc)) (he (df hsc))
theorem kB (Ok:C.Ok){cl:Ss}{name:Str}{xp:Pos}{mc:Sn}{l:Sd Nat}(hok:fx.ok=Se)(hx:x∈fx.gn)(g:GB C x (.ref cl))(hr:readsIn C.K cl mc=Se)(e:∃tk,aaa C.K (.ref cl) mc name=Sa (.val (.str ⟨l.toArray⟩ tk)))
  (he:∀env,eval (.Attribute (.Name x xp) name pos) env=(do
   let o ←eval (.Name x xp) env
   UC pos.atName
   let r ←holding [o] (PySem.getAttr o name Se)
   VZ (.Name x xp) o r
   pure r)):SE C fx d (.Attribute (.Name x xp) name pos) (ao (.str l)):=by
 refine bH e λtk e=>?_
 exact vE Ok hok hx g hr (tk:=tk) e he
theorem J7 {p1 p2 vp q1 q2:Pos} {a b:Expr}{u v:Str}(hx:x∈fx.ln)(hy:y∈fx.ln)(hl:(p2.line == p1.line)=Se)(hne:(y == x)=ll) :
  ∀env,bb fx env->VL [.Tuple [.Name x p1,.Name y p2] n tp] (.Tuple [.Attribute a u q1,.Attribute b v q2] m vp) env=pure (Sa [x,y]):=by
 intro env E
 have b1:env.blockKind=.function:=by unfold Env.blockKind;rw[E.kind];rfl
 have b0:(env.blockKind != .function)=ll:=by rw[b1];rfl
 have e1:[x,y].eraseDups=[x,y]:=by
  rw[Sd.eraseDups_cons,Sd.filter_cons,hne]
  rfl
 unfold VL
 show(if (!(Se || false) || (2 != 2) || env.blockKind != .function)=Se then _ else _)=_
 rw[b0]
 show(let names:=[Expr.Name x p1,Expr.Name y p2].filterMap _;if (names.length != 2 || names.eraseDups.length != names.length)=Se then _ else pure (Sa names))=_
 have g:∀{z:Str} {b:Si},z∈fx.ln->b=Se->(if (env.kindOf z == Sa .local && b)=Se then Sa z else none)=Sa z:=λm q=>SR (by rw[E.ln _ m,q];rfl)
 dsimp only
 generalize hn:Sd.filterMap _ _=names
 have hn:names=[x,y]:=by
  refine hn.symm.trans ((Sd.filterMap_cons_some (b:=x) ?_).trans (SO (x::·) (Sd.filterMap_cons_some (b:=y) ?_)))
  ·exact g (z:=x) hx (beq_self_eq_true p1.line)
  ·exact g (z:=y) hy hl
 subst hn
 show(if ([x,y].length != 2 || [x,y].eraseDups.length != [x,y].length)=Se then _ else _)=_
 rw[e1]
 rfl
theorem lf:zH C (aap .Sub) cj:=by
 intro A σ st s k x y u v R I rx ry h
 refine aE (iy h) λi e81 h1=>?_;subst e81
 refine aE (iy h1) λj e81 h2=>?_;subst e81
 refine VR.int_e rx λ_=>?_;refine VR.int_e ry λ_=>?_
 rw[ey] at h2
 exact PySem.P.isub_int (cQ I _ (.int _ _) h2)
theorem yv:zH C (aap .Add) y3:=Er λx y st k h=>by
 refine aE (iy h) λi e81 h1=>?_;subst e81
 refine aE (iy h1) λj e81 h2=>?_;subst e81
 rw[eS] at h2
 exact⟨i,j,rfl,rfl,h2⟩
theorem dN:∀x<12,aW x ≠ "append":=by decide +kernel
theorem xQ:∀x<12,aW x ≠ "index":=by decide +kernel
end
noncomputable section
def rA (xs:Sd Int):Nat->Int->(Sd (Sd Nat×Int)->Si)->Si:=@SZ Int (λ_=>Nat->Int->(Sd (Sd Nat×Int)->Si)->Si)
 (λn _ k=>@Tb (λ_=>Si) (k []) (λ_ _=>ll) n)
 (λx _ ih n j k=>@Tb (λ_=>Si) (k []) (λm _=>aD (small x) (aD (aB (cT x)) (ih m (gB j 1) λq=>k ((cw [32] (cT x),j)::q)) ll) ll) n) xs
def pr (n:CE)(c:Nat):CE:=λfm st k=>n fm st λx st=>aG x λx=>aD (SV (cT x) 63) (aD (small x) (getL fm.cel c (λci=>aD (SV 4 ci) (st.get ci λo=>eo o λv=>cU v λv=>bB v λm=>aD (SV 4 m) (bg st m λl=>iZq l λxs=>
 rA xs (cT x) 0 λks=>aD (iH (dJ ks [])) (st.push .hid λ_ st=>st.push (.list (fE (λx=>.int x.2) (dJ ks []))) λn st=>k (.ref n) st) ll) ll) ll) ll) ll) ll
end
noncomputable section
def Kz:CS:=(dq Gm)
def CN:CS:=(aq Kz aH)
def RG:FN:=bn [(ll,0)] 1 0 CN
def I9:CS:=(dq Bs)
def I7:CS:=(aq I9 aH)
def RJ:FN:=bn [(ll,0)] 1 0 I7
def KI:CS:=(dq ES)
def Rj:CS:=(aq KI aH)
def Ow:FN:=bn [(ll,0)] 1 0 Rj
def EL:CS:=(ij (bR iu (bz 2 Ow (aa ll 0) av) (ao (.int 0))) (aq (dq (cN (ae (ao (.str [])) (ae (ao (.str [])) av)))) aH) aH)
def Fb:CS:=(dq Fh)
def Qo:CS:=(aq EL (aq Fb aH))
def KL:FN:=bn [(ll,0)] 1 0 Qo
def Fe:CS:=(aV (aa ll 1) (eQ (aa ll 0) 11))
def FH:CS:=(dI E9)
def LF:CS:=(aq Fe (aq FH aH))
def Kd:FN:=bn [(ll,0),(ll,1)] 2 0 LF
def FJ:CS:=(dI (lQ jQ (aa ll 0) (ae (cN (ae (aa ll 1) (ae (aa ll 2) av))) av)))
def Ra:CS:=(aq FJ aH)
def I1:FN:=bn [(ll,0),(ll,1),(ll,2)] 3 0 Ra
def EZ:CS:=(aV (vv (aa ll 0) (aa ll 1) (ao (.none))) (aw ll 2))
def EV:CS:=(aV (d0 av) (ED (aa ll 0) (aa ll 1)))
def E3:CS:=(dq (aa ll 2))
def PW:CS:=(aq EZ (aq EV (aq E3 aH)))
def Og:FN:=bn [(ll,0),(ll,1)] 3 0 PW
def BT:CS:=(ij (bR sK (aa ll 1) (ao (.none))) (aq (aV (d0 av) (aw ll 1)) aH) aH)
def By:CS:=(aV (aa ll 1) (ED (aa ll 0) (ao (.none))))
def BD:CS:=(aV (ao (.int 0)) (eQ (aa ll 0) 11))
def yQ:CS:=(aq BT (aq By (aq BD aH)))
def EQ:FN:=bn [(ll,0),(ll,1)] 2 0 yQ
def FB:CS:=(dq (He (uA iu (bv (aa ll 0) 11) (ao (.int 0))) (Qc (GH (aa ll 0)) (sM nu (gv vx (ae (aa ll 0) av)) av))))
def HH:CS:=(aq FB aH)
def Ou:FN:=bn [(ll,0)] 1 0 HH
def My:CS:=(aV (bz 2 KL (bv (aa ll 0) 10) av) (aw ll 1))
def KN:CS:=(ij (bR kI (aa ll 1) (cN (ae (ao (.str [32])) (ae (ao (.str [])) av)))) (aq (dI (bz 2 I1 (bv (aa ll 0) 10) (Al (aa ll 1)))) aH) aH)
def Ob:CS:=(ij (bR Eh (gv dU (ae (bv (aa ll 0) 10) av)) (ao (.int 0))) (aq (ij (qk (tE (bz 2 Ou (bv (aa ll 0) 10) av)) (tE (bv (aa ll 0) 9))) (aq (js (bv (aa ll 0) 9) (qA (ao (.int 1))) (gv vx (ae (bv (aa ll 0) 10) av))) aH) (aq (dI (lQ jQ (bv (aa ll 0) 9) (ae (gv vx (ae (bv (aa ll 0) 10) av)) av))) aH)) aH) aH)
def LX:CS:=(dI (bz 2 (sH EQ) (bv (aa ll 0) 10) av))
def c8:CS:=(aq My (aq KN (aq Ob (aq LX aH))))
def F8:FN:=bn [(ll,0)] 2 0 c8
def Lr:CS:=(aV (aa ll 2) (eQ (aa ll 0) 5))
def Lk:CS:=(aV (aa ll 3) (eQ (aa ll 0) 6))
def J2:CS:=(aV (gv dU (ae (aa ll 3) av)) (eQ (aa ll 0) 7))
def JW:CS:=(aV (aa ll 4) (eQ (aa ll 0) 8))
def NX:CS:=(aV (d0 av) (eQ (aa ll 0) 9))
def MM:CS:=(aV (iF 2 Kd (ae (aa ll 1) av)) (eQ (aa ll 0) 10))
def c6:CS:=(aq Lr (aq Lk (aq J2 (aq JW (aq NX (aq MM aH))))))
def F6:FN:=bn [(ll,0),(ll,1),(ll,2),(ll,3),(ll,4)] 5 0 c6
def Jr:CS:=(dI (bz 1 F8 (aa ll 0) av))
def KS:CS:=(dq (sM oG (aa ll 1) (ae (bv (aa ll 0) 9) av)))
def c7:CS:=(aq Jr (aq KS aH))
def F7:FN:=bn [(ll,0),(ll,1)] 2 0 c7
def H9:CS:=(dI (bz 2 I1 (bv (aa ll 0) 10) (ae (aa ll 1) (ae (aa ll 2) av))))
def Go:CS:=(ij (bR Eh (gv dU (ae (bv (aa ll 0) 10) av)) (bv (aa ll 0) 5)) (aq (je (em (aw ll 3)) (iE (bv (aa ll 0) 8)) (aq (je (em (aw ll 4)) (BG (aA cj (bz 2 Ow (bv (aa ll 0) 10) av) (ao (.int 1))) (ao (.int 0)) (qA (ao (.int 1)))) (aq (ij (tE (sM nu (aa ll 3) av)) (aq (aV (dw (dw (bv (aa ll 0) 10) (aa ll 4)) (ao (.int 0))) (aw ll 1)) (aq (ij (qk (tE (aa ll 1)) (bR iu (dw (aa ll 1) (ao (.int 0))) (aa ll 3))) (aq u4 aH) aH) aH)) aH) (aq (aV (dw (dw (bv (aa ll 0) 10) (aA cj (aa ll 4) (ao (.int 1)))) (ao (.int 1))) (aw ll 5)) (aq (ij (qk (tE (aa ll 5)) (bR iu (dw (aa ll 5) (qA (ao (.int 1)))) (aa ll 3))) (aq u4 aH) aH) aH))) (aq JP aH)) (aq u4 aH)) (aq (aV (bz 2 KL (bv (aa ll 0) 10) av) (fM 2 (bh (aw ll 1) (bh (aw ll 6) eW)))) (aq (ij (bR Eh (bv (bv (aa ll 0) 10) 11) (ao (.int 0))) (aq (dI (bz 1 F8 (aa ll 0) av)) (aq (ij (Nj (tE (aa ll 1))) (aq (aV (ao (.str [32])) (aw ll 1)) aH) aH) aH)) aH) (aq (dI (bz 2 I1 (bv (aa ll 0) 10) (ae (aa ll 1) (ae (aa ll 6) av)))) (aq EK aH))))) (aq (aV (bz 2 Og (bv (aa ll 0) 10) (ae (aa ll 4) av)) (aw ll 7)) (aq (dI (lQ jQ (bv (aa ll 0) 9) (ae (gv vx (ae (bv (aa ll 0) 10) av)) av))) (aq (dI (bz 2 EQ (bv (aa ll 0) 10) (ae (aa ll 7) av))) aH)))) aH)
def c9:CS:=(aq H9 (aq Go aH))
def F9:FN:=bn [(ll,0),(ll,1),(ll,2)] 8 0 c9
def Oc:CS:=(aV (aa ll 1) (eQ (aa ll 0) 0))
def LI:CS:=(Bb (ae (ao (.str [32])) (ae (ao (.str [9])) av)) (bh (aw ll 2) (bh (aw ll 3) eW)))
def Kn:CS:=(aV (d0 av) (aw ll 4))
def NS:CS:=(aV (ao (.int 0)) (tN (aw ll 5) (tN (aw ll 6) (aw ll 7))))
def Nb:CS:=(je (em (aw ll 8)) (iE (bv (aa ll 0) 0)) (aq (ij (bR iu (aa ll 8) (aa ll 2)) (aq (aV (aA aQ (aa ll 6) (ao (.int 1))) (aw ll 6)) (aq (aV (aA aQ (aa ll 5) (ao (.int 1))) (aw ll 5)) aH)) (aq (ij (bR iu (aa ll 8) (aa ll 3)) (aq (aV (aA aQ (aa ll 6) (ao (.int 1))) (aw ll 6)) (aq (aV (aA aQ (aa ll 7) (ao (.int 1))) (aw ll 7)) (aq (ij (bR uD (aa ll 5) (gv dU (ae (aa ll 4) av))) (aq (aV (aA aQ (aa ll 4) (aA bF (d0 (ae (ao (.int 0)) av)) (aA aQ (aA cj (aa ll 5) (gv dU (ae (aa ll 4) av))) (ao (.int 1))))) (aw ll 4)) aH) aH) (aq (aV (aA aQ (dw (aa ll 4) (aa ll 5)) (ao (.int 1))) (zj (aa ll 4) (aa ll 5))) (aq (aV (ao (.int 0)) (aw ll 5)) aH))))) (aq u4 aH)) aH)) aH) aH)
def MB:CS:=(aV (aa ll 6) (eQ (aa ll 0) 1))
def M1:CS:=(aV (aa ll 7) (eQ (aa ll 0) 2))
def Mr:CS:=(aV (cN (ae (gv Do (ae (aa ll 4) av)) (ae (aa ll 5) av))) (eQ (aa ll 0) 3))
def Md:CS:=(aV (uA Oy (gv dU (ae (aa ll 4) av)) (ao (.int 1))) (eQ (aa ll 0) 4))
def c0:CS:=(aq Oc (aq LI (aq Kn (aq NS (aq Nb (aq MB (aq M1 (aq Mr (aq Md aH)))))))))
def F0:FN:=bn [(ll,0),(ll,1)] 9 0 c0
def FV:CS:=(aV (d0 (ae (ao (.int 11)) (ae (ao (.int 4)) (ae (ao (.int 2)) (ae (ao (.int 7)) (ae (ao (.int 0)) av)))))) (aw ll 1))
def Fr:CS:=(je (yS (aw ll 2) (aw ll 3)) (lK (aa ll 0)) (aq (js (aa ll 1) (aA ef (aa ll 2) (ao (.int 5))) (aA ef (aa ll 3) (aA D5 (ao (.int 10)) (ao (.int 6))))) aH) aH)
def Gf:CS:=(aV (aA aQ (ao (.int 8)) (aA ef (dw (aa ll 1) (ao (.int 0))) (ao (.int 8)))) (aw Se 0))
def FD:CS:=(aV (aA aQ (ao (.int 1)) (aA ef (dw (aa ll 1) (ao (.int 1))) (ao (.int 7)))) (aw Se 1))
def xh:CS:=(ij (bR iu (aA bF (ao (.int 2)) (aa Se 1)) (aa Se 0)) (aq (vd Se 1 cj (ao (.int 1))) aH) aH)
def Gk:CS:=(aV (dw (cI (dG (ao (.int 1)) (aA aQ (aa Se 0) (ao (.int 1)))) 2 0 [0,1] (em (aw ll 1)) (bR iu (aA ef (aA bF (aa ll 1) (aa Se 1)) (aa Se 0)) (ao (.int 0))) (gt (aa ll 1))) (ao (.int 0))) (aw ll 4))
def FR:CS:=(aV (aA aQ (ao (.int 2)) (aA ef (dw (aa ll 1) (ao (.int 2))) (aA cj (aa ll 4) (ao (.int 2))))) (aw ll 5))
def Cw:CS:=(aV (d0 (ae (d0 (ae (aa Se 1) (ae (ao (.int 0)) (ae (ao (.int 9)) av)))) (ae (aA aQ (aA bF (d0 (ae (aa Se 1) av)) (aa ll 5)) (d0 (ae (ao (.int 127)) (ae (ao (.int 9)) av)))) (ae (aA bF (d0 (ae (aa Se 1) av)) (aa ll 5)) (ae (d0 (ae (aa Se 1) (ae (aa Se 1) (ae (ao (.int 0)) av)))) av))))) (aw ll 6))
def Gj:CS:=(dq (cN (ae (aa Se 0) (ae (aa Se 1) (ae (aa ll 5) (ae (aA ef (dw (aa ll 1) (ao (.int 3))) (aa Se 0)) (ae (dw (aa ll 6) (aA ef (dw (aa ll 1) (ao (.int 4))) (ao (.int 4)))) av)))))))
def Ql:CS:=(aq FV (aq Fr (aq Gf (aq FD (aq xh (aq Gk (aq FR (aq Cw (aq Gj aH)))))))))
def Oe:FN:=bn [(ll,0)] 7 2 Ql
def AD:CS:=(aV (aA aQ (ao (.str [97])) (sM oG (ao (.str [])) (ae (cI (lK (aa ll 0)) 3 0 [] (yS (aw ll 1) (aw ll 2)) cA (gt (aA aQ (aA bF (ao (.str [45])) (aA cj (aa ll 2) (ao (.int 1)))) (gv DW (ae (aA aQ (ao (.int 98)) (aa ll 1)) av))))) av))) (aw ll 3))
def B8:CS:=(aV (iF 1 F6 (ae (aA bF (ao (.int 2)) (aa ll 2)) (ae (aA bF (ao (.int 2)) (aa ll 1)) (ae (ao (.str [32])) (ae (ao (.str [32])) av))))) (aw ll 4))
def EO:CS:=(je (em (aw ll 5)) (iE (aa ll 3)) (aq (dI (bz 1 F9 (aa ll 4) (ae (ao (.str [32])) (ae (aa ll 5) av)))) aH) aH)
def FA:CS:=(aV (sM vc (bz 1 F7 (aa ll 4) (ae (ao (.str [10])) av)) (ae (ao (.str [10])) av)) (aw ll 6))
def Ge:CS:=(aV (aA aQ (aA bF (ao (.str [32,45])) (aa ll 2)) (dw (aa ll 6) (ao (.int 0)))) (zj (aa ll 6) (ao (.int 0))))
def Ga:CS:=(dq (cI (iE (aa ll 6)) 4 0 [] (em (aw ll 1)) cA (IZ (lK (Df (aa ll 1))) (yS (aw ll 2) (aw ll 3)) (bR kI (aa ll 3) (ao (.str [45]))) (gt (aa ll 2)))))
def IO:CS:=(aq AD (aq B8 (aq EO (aq FA (aq Ge (aq Ga aH))))))
def Ov:FN:=bn [(ll,0),(ll,1),(ll,2)] 7 0 IO
def E4:CS:=(aV (fA Oe (ae (aa ll 0) av)) (fM 5 (bh (aw Se 0) (bh (aw Se 1) (bh (aw ll 1) (bh (aw Se 2) (bh (aw ll 2) eW)))))))
def E0:CS:=(aV (qg (aA aQ (aa ll 1) (ao (.int 1))) (aa ll 2)) (aw ll 3))
def Fd:CS:=(ij (bR kI (aa ll 3) (aA bF (d0 (ae (aa Se 1) av)) (uU (bR Of (ao (.int 0)) (aa ll 2)) (aA aQ (aa ll 1) (ao (.int 1))) (aa ll 1)))) (aq (dq (ao (.bool ll))) aH) aH)
def FT:CS:=(aV (fA Ov (ae (vv (aa ll 3) (ao (.none)) (aa ll 1)) (ae (aa Se 0) (ae (aa Se 2) av)))) (aw ll 4))
def Gh:CS:=(ij (bR kI (aa ll 4) (cI (tn (aA aQ (aa ll 1) (ao (.int 1)))) 2 0 [2,0,1] (em (aw ll 1)) cA (gt (aA ef (aA aQ (aa Se 0) (aA bF (aa ll 1) (aa Se 2))) (aa Se 1))))) (aq (dq (ao (.bool ll))) aH) aH)
def Fq:CS:=(aV (d0 av) (aw ll 5))
end
section
variable {C:Cfg}{P:Params}{fx:Fx}{d:Nat}
noncomputable def wc (scope:Scope)(xa xb:Str):Si:=!scope.isCoroutine && scope.names.all (λx=>x.2 != .free && x.2 != .cell) && scope.names.lookup (".0":Str) == Sa NameKind.local && scope.names.lookup xa == Sa NameKind.local && scope.names.lookup xb == Sa NameKind.local && !(xa == xb) && scope.kind == .function
theorem rF (h:wc scope xa xb=Se):oq scope xa xb:=by
 simp only[wc,S6,VU,Ta,beq_iff_eq,bne_iff_ne] at h
 obtain⟨⟨⟨⟨⟨⟨h1,h2⟩,h3⟩,h4⟩,h5⟩,h6⟩,h7⟩:=h
 exact⟨h1,λx m=>(h2 x m).1,λx m=>(h2 x m).2,h3,h4,h5,λq=>by subst q;simp at h6,h7⟩
noncomputable section
noncomputable def Kh (K:Frag)(a:Ss):Array Sn:=match (mR K a).data with
 | .fields vs=>vs
 | _=>#[]
noncomputable def Pv (K:Frag)(a:Ss):ClassData:=match (mR K a).data with
 | .cls c=>c
 | _=>default
noncomputable def PT (v:Sn):Str:=match v with
 | .str x _=>x
 | _=>""
noncomputable def zn (v:Sn):Tok:=match v with
 | .str _ t=>t
 | .int _ t=>t
 | _=>0
noncomputable def MG (v:Sn):Int:=match v with
 | .int i _=>i
 | _=>0
noncomputable def KU (v:Sn):Si:=match v with
 | .bool b=>b
 | _=>ll
end
theorem pB (h:C.K=KH P){t:lN}{vs:Array Sn}(e:Kh (KH P) t.code=vs)(m:t∈C.tabs)(one:∀t'∈C.tabs,t'.tab=t.tab->t'=t)(h1:(KH P).lookup t.code=Sa (mR (KH P) t.code))(h2:(mR (KH P) t.code).data=.fields vs)(h3:vs.getD 11 .none=.ref t.tab)(h4:vs.getD 18 .none=.str (PT (vs.getD 18 .none)) (zn (vs.getD 18 .none)))(h5:vs.getD 7 .none=.int (MG (vs.getD 7 .none)) (zn (vs.getD 7 .none)))
  (h6:vs.getD 9 .none=.bool (KU (vs.getD 9 .none))) (h7:vs.getD 10 .none=.int (MG (vs.getD 10 .none)) (zn (vs.getD 10 .none))) (h8:(mR (KH P) t.code).cls=.type "code") (h9:vs[11]? = Sa (.ref t.tab)):ju C t:=⟨m,one,_,vs,_,_,_,_,_,_,_,h.symm▸h1,h2,h3,h4,h5,h6,h7,h8,h9⟩
theorem Cy (h:C.K=KH P)(sup:GB C "super" (.type "super"))(top:(C.prog.main.scope.names.lookup ("super":Str)).isSome=ll):oZ C:=by
 refine⟨by rw[h];kernel_rfl,?_,by rw[h];kernel_rfl,?_,by rw[h];kernel_rfl,by rw[h];kernel_rfl,by rw[h];kernel_rfl,by rw[h];kernel_rfl,sup,top⟩
 ·exact h.symm▸⟨_,FI (a:=168) (by kernel_rfl),by kernel_rfl⟩
 ·exact h.symm▸⟨(mR (KH P) 244).dict,Pv (KH P) 244,(mR (KH P) 244).slots,by kernel_rfl,by kernel_rfl,by kernel_rfl⟩
theorem mC (h:C.K=KH P){cda:Ss}(hfile:∃oc vs file tf,C.K.lookup cda=Sa oc/\oc.data=.fields vs/\vs[2]? = Sa (.str file tf)/\((C.prog.main.file:Str) == file)=Se)
  (h1:Dw (KH P) fa=Se) (h2:((aZ (KH P) fa).params.posonlyargs++(aZ (KH P) fa).params.args).head?.map (·.arg)=Sa ("self":Str)) (h3:(aZ (KH P) fa).code=.ref cda):kO C fa (aZ (KH P) fa):=by
 refine qG hfile λoc vs file tf e1 e2 e3 e4=>?_
 refine⟨by rw[h];exact Az h1,?_,cda,oc,vs,file,tf,h3,e1,e2,e3,e4⟩
 refine aE (VE.mp h2) λar q e=>?_
 exact⟨ar,q,e⟩
theorem pp {K:Frag}{T:Ss}{v:Sn}(hd:fd.defaults=.ref T)(ho:K.lookup T=Sa (cK [v] 0))(h:∀a b,∃k,XT fd ⟨[a,b],[]⟩=Wu fd.defaults >>= k/\k (Sa #[v])=pure [(x,a),(y,b)]):∀us:Sd Sn,us.length=2->∀s:Sr,K.In s.heap->Ub s fd ⟨us,[]⟩ ([x,y].zip us):=λus hu s X=>jK (P:=λus=>Ub s fd ⟨us,[]⟩ ([x,y].zip us)) hu λa _ h0=>jK (P:=λr=>Ub s fd ⟨a::r,[]⟩ ([x,y].zip (a::r))) h0 λb _ h1=>zL (P:=λr=>Ub s fd ⟨a::b::r,[]⟩ ([x,y].zip (a::b::r))) h1 (by
  refine aE (h a b) λk h1 h2=>?_
  exact AT X hd ho h1 h2)
theorem xZ (Ok:C.Ok) {body:Sd Stmt}{p1 p2:Si×Nat}{x1 x2:Str}{c:CS}(O:bX C fa fd body [p1,p2] [x1,x2])(hB:∀(u:Sn)(s:Sr),C.K.In s.heap->Ub s fd ⟨[u],[]⟩ [(x1,u),(x2,.none)])(hb:uY C (aR fd.scope) (II fa fd) d body body c) :
  eY C (d+1) (.ref fa) (sH (bn [p1,p2] (au fd.scope .local).length (au fd.scope .cell).length c)):=by
 intro A σ st s k l us R I r h
 refine aE (tv h) λv e81 h=>?_;subst e81
 obtain⟨u,rfl,r0⟩:∃u,us=[u]/\VR σ s.heap v u:=by cases r with | cons ra rr=>cases rr;exact⟨_,rfl,ra⟩
 have h:bn [p1,p2] (au fd.scope .local).length (au fd.scope .cell).length c [v,.none] st k=Se:=h
 have r:VRs σ s.heap [v,.none] [u,.none]:=.cons r0 (.cons .none .nil)
 refine dH (eH h) λhlen h=>?_
 refine aE (O.obj) λo ho hd=>?_
 have X:=I.X Ok
 refine W1 R.top (X _ _ ho) hd O.co O.gen O.body (Z1 X O.code) ?_
 refine hB u s X _ _ _ _ ?_
 rw[O.glob]
 have q:=jG (A:=A.in1) (closure:=fd.closure) (q:=[]) (around:=none) (qual:=fd.qualname ++ ".<locals>.") (func:=Sa fa) (code:=fd.code) O.sc O.blt O.par I r (Td _) (λi x _ h=>S8 h (U3 _)) (k:=λfm st=>c fm st λf _ st=>@Fl.rec (λ_=>Si) (k .none st) ll ll (λv=>k v st) f) (by simpa using h)
 refine Sm q ?_ λ_ _ e=>e.elim
 rintro env s' ⟨σ',fm',st',E,e1,e2,e3,e4,S',I',F',dL,h'⟩
 refine⟨(Ok.T.nolimit.keeps I'.base),ks_codeAny_funcAt ?_⟩
 refine WU (hb (A.deeper env) env σ' fm' st' s' _ R.deeper E ⟨e2,(e3 rfl).1,e1,e4,(e3 rfl).2⟩ I' F' h') ?_ λ_ _ e=>e.elim
 rintro f s'' ⟨σ'',fl,fm'',st'',S'',I'',F'',q,h''⟩
 have S:Step [] σ s σ'' s'':=(S'.up.trans S'').more λb m=>.inr (by rw[Sj.mp m];exact dL)
 induction fl with
 | nxt=>induction f <;> first | exact q.elim | exact⟨σ'',.none,st'',S,I'',.none,h''⟩
 | brk=>cases h''
 | cnt=>cases h''
 | ret v=>induction f <;> first | exact q.elim | exact⟨σ'',v,st'',S,I'',q,h''⟩
end
section
variable {M:Model}{A:Around}{R:GenEnd}{Y:Protocol}{n:Nat}{aaV:Shared}{c:Code}{fs:List Frame}{s:Shared}{env:Env}
 {K:Flow->Sem Fin} {H:Sn->Sem Fin} {gd:Si->Si} {lv:Sd Sn->Sd Sn}
def No:Sn->Sr->Prop:=λ_ _=>False
theorem kb {m:Sem α}{K:α->Sem Fin}{H:Sn->Sem Fin} {gd lv}(h:So M (A.over c fs) m (λa s'=>Seg M A R Y n aaV c (K a) fs s') No s):Seg M A R Y n aaV c (m.wrap K H gd lv) fs s:=
 seg_wrap (Sm h (λ_ _ e=>e) λ_ _ e=>e.elim)
theorem dS {m:Sem α}{f:α->Sem β}{K:β->Sem Fin}{H:Sn->Sem Fin} {gd lv}(h:So M (A.over c fs) m (λa s'=>Seg M A R Y n aaV c ((f a).wrap K H gd lv) fs s') No s):Seg M A R Y n aaV c ((m >>= f).wrap K H gd lv) fs s:=by
 rw[aah,Sem.wrap_wrap]
 exact kb h
theorem vK {test:Expr}{body:Sd Stmt} (h:So M (A.over c fs) (isTrue test env (eval test env)) (λb s'=>Seg M A R Y n aaV c ((if b=Se then execs body env else execs orelse env).wrap K H gd lv) fs s') No s) :
  Seg M A R Y n aaV c ((exec (.If test body orelse pos) env).wrap K H gd lv) fs s:=by
 rw[exec_If]
 exact dS (Tz (dS h))
theorem Rq {C:Prop} [Decidable C] {a b:Sem Flow}(q:C)(h:Seg M A R Y n aaV c (a.wrap K H gd lv) fs s):Seg M A R Y n aaV c ((if C then a else b).wrap K H gd lv) fs s:=by rw[SR q];exact h
theorem Qe {C:Prop} [Decidable C] {a b:Sem Flow}(q:¬C)(h:Seg M A R Y n aaV c (b.wrap K H gd lv) fs s):Seg M A R Y n aaV c ((if C then a else b).wrap K H gd lv) fs s:=by rw[Sz q];exact h
theorem kX (h:Seg M A R Y n aaV c (K (.ret .none)) fs s):Seg M A R Y n aaV c ((exec (.Return none pos) env).wrap K H gd lv) fs s:=seg_at h
theorem DA {iter:Expr}{body:Sd Stmt} 
  (h:So M (A.over c fs) (do let x ←Tr iter env (←eval iter env);UC iter.pos;holding [x] (XO x)) (λit s'=>∀p,Seg M A R Y n aaV (.forLoop target it body orelse env) (M.den (.forLoop target it body orelse env))
   (.ret (λr=>((match r with | .ok f=>(.pure f:Sem Flow) | .error e=>.raise e).onRaise λ(x:Sn)=>do
    if (←field x 1) == XS then unsupported "frame.own-activation:exception-without-traceback"
    setFlight x env.frame).wrap K H gd lv) none (gd ll) (lv []) c p []::fs) s') No s) :
  Seg M A R Y n aaV c ((exec (.For target iter body orelse pos) env).wrap K H gd lv) fs s:=by
 have e:exec (.For target iter body orelse pos) env=(do UC pos;(do let x ←Tr iter env (←eval iter env);UC iter.pos;holding [x] (XO x)) >>= λit=>runOwn (.forLoop target it body orelse env) env):=by
  rw[exec_For]
  simp only[bind_assoc]
 rw[e]
 refine dS (Tz ?_)
 refine dS (Sm h (λit s' q=>?_) λ_ _ e=>e)
 exact seg_call q
end
section
variable {prog:Program}{w:World}{A:Around}{R:GenEnd}{Y:Protocol}{n:Nat}{aaV:Shared}{fs:List Frame}{s:Shared}{env:Env}
theorem rh {it:Sn}{body:Sd Stmt}{T:Sem Flow}(hT:execs body env=T)
  (h:So (model prog w) (A.over (.forLoop target it body orelse env) fs) (UK it) (λr s'=>match r with
    | none=>Seg (model prog w) A R Y n aaV (.forLoop target it body orelse env) (.pure (.again (.block orelse env))) fs s'
    | some v=>So (model prog w) (A.over (.forLoop target it body orelse env) fs) (Tx target it v) (λ_ aaQ=>So (model prog w) (A.over (.forLoop target it body orelse env) fs) (assign target env v) (λ_ aaR=>
     Seg (model prog w) A R Y n aaV (.forLoop target it body orelse env) (T.wrap (λf=>match f with
      | .next | .cont=>.pure (.again (.forLoop target it body orelse env))
      | .brk=>.pure (.done .next)
      | .ret v=>.pure (.done (.ret v))) (λe=>(do YB e env;Wn e:Sem Unit).wrap (λ_=>.raise e) .raise id id) id id) fs aaR) No aaQ) No s') No s) :
  Seg (model prog w) A R Y n aaV (.forLoop target it body orelse env) ((model prog w).den (.forLoop target it body orelse env)) fs s:=by
 subst hT
 show Seg _ A R Y n aaV _ ((forTurn target it body orelse env).onRaise (λx=>do YB x env;Wn x)) fs s
 unfold forTurn
 rw[Sem.onRaise_eq_wrap]
 refine dS (Tz ?_)
 refine dS (Yl ?_)
 refine Sm h (λr s' q=>?_) λ_ _ e=>e.elim
 induction r with
 | none=>exact q
 | some v=>
  refine dS (Sm q (λ_ aaQ q=>?_) λ_ _ e=>e)
  refine dS (Sm q (λ_ aaR q=>?_) λ_ _ e=>e)
  rw[aah,Sem.wrap_wrap]
  rw[Sem.wrap_congr (execs body env) _ _ (K':=λf=>match f with
      | .next | .cont=>.pure (.again (.forLoop target it body orelse env))
      | .brk=>.pure (.done .next)
      | .ret v=>.pure (.done (.ret v))) (H':=(λe=>(do YB e env;Wn e:Sem Unit).wrap (λ_=>.raise e) .raise id id))
    (λf=>by induction f <;> rfl)
    (λe=>by first | exact Sem.bind_eq_wrap _ _ | (show(do YB e env;Wn e:Sem Unit).bind (λ_=>.raise e)=_;rw[Sem.bind_eq_wrap]))]
  exact q
end
def MQ:SP Int->Sn->Prop
 | none,v=>v=.none
 | some j,v=>∃t,v=.int j t
noncomputable def jV:Nat->SP Int->Sd Int->Sd Int
 | 0,_,_=>[]
 | _+1,_,[]=>[]
 | n+1,last,i::r=>if i=127 then [] else if i=0 then Sq (n+1) (last.getD 0) else i::jV n (Sa i) r
def rO:Nat->SP Int->Sd Int->Prop
 | 0,_,_=>True
 | _+1,_,[]=>True
 | n+1,last,i::r=>i≠127->if i=0 then last≠none else rO n (Sa i) r
theorem E6:∀{n:Nat}{last:SP Int}{l:Sd Int}{k:Sd Int->Si},wq n last l k=Se->rO n last l/\k (jV n last l)=Se
 | 0,_,_,_,h=>⟨trivial,h⟩
 | _+1,_,[],_,h=>⟨trivial,h⟩
 | n+1,last,i::r,k,h=>by
  have h:aD (jf i 127) (k []) (aD (jf i 0) (cU last λl=>k (cw [l] (Tv n))) (wq n (Sa i) r λq=>k (i::q)))=Se:=h
  rw[dm,dm] at h
  rcases dE h with ⟨q,h⟩ | ⟨q,h⟩
  ·have q:=S4 q
   refine Xb (λz=>(z q).elim) ?_
   rw[show jV (n+1) last (i::r)=[] from SR q]
   exact h
  ·have q:=of_decide_eq_false q
   have eL:jV (n+1) last (i::r)=if i=0 then Sq (n+1) (last.getD 0) else i::jV n (Sa i) r:=Sz q
   rcases dE h with ⟨q',h⟩ | ⟨q',h⟩
   ·have q':=S4 q'
    refine aE (xr h) λj e81 h1=>?_;subst e81
    rw[eL,SR q']
    refine Xb (λ_=>?_) ?_
    ·rw[SR q'];exact λz=>nomatch z
    ·rw[gG] at h1
     have e:∀m,(Sq m [j]).flatten=Sq m j:=λm=>by
      induction m with
      | zero=>rfl
      | succ m ih=>rw[TH,TC,ih];rfl
     rw[e] at h1
     exact h1
   ·have q':=of_decide_eq_false q'
    obtain⟨a,b⟩:=E6 h
    rw[eL,Sz q']
    refine Xb (λ_=>?_) b
    rw[Sz q'];exact a
structure qu (env:Env):Prop where
 kind:env.scope.kind=.function
 co:env.scope.isCoroutine=ll
 glob:env.globals=SY
 kg:env.kindOf ("grouping":Str)=Sa .local
 kl:env.kindOf ("last_interval":Str)=Sa .local
 ki:env.kindOf ("interval":Str)=Sa .local
 kc:env.kindOf ("CHAR_MAX":Str)=Sa .globalImplicit
structure GS (C:Cfg)(env:Env)(a b:Ss)(vs:Sd Sn)(i:Nat)(last:SP Int)(s:Sr):Prop where
 base:∀p o,C.aa3.get? p=Sa o->s.heap.get? p=Sa o
 ns:∃m v,s.heap.Ns env.locals m/\m "last_interval"=Sa v/\MQ last v
 it:s.heap.IsListIter b a i
 ls:s.heap.IsList a vs.toArray
structure GK (env:Env)(b:Ss)(s s':Sr):Prop where
 keep:∀p o,p≠env.locals->p≠b->s.heap.get? p=Sa o->s'.heap.get? p=Sa o
 gens:s'.gens=s.gens
 os:s'.os=s.os
 drawn:s'.drawn=s.drawn
 nt:∀vs m,s.heap.get? b≠Sa (cK vs m)
theorem GK.refl {s:Sr}(nt:∀vs m,s.heap.get? b≠Sa (cK vs m)):GK env b s s:=⟨λ_ _ _ _ e=>e,rfl,rfl,rfl,nt⟩
theorem GK.trans {s:Sr}(y:GK env b s' s'')(x:GK env b s s'):GK env b s s'':=⟨λp o n w e=>y.keep p o n w (x.keep p o n w e),y.gens.trans x.gens,y.os.trans x.os,y.drawn.trans x.drawn,x.nt⟩
theorem lh (q:h.IsListIter b a i)(vs:Sd Sn)(m:Nat):h.get? b≠Sa (cK vs m):=by refine fF q λo e c _=>?_;exact cE e c (by decide) _ _
theorem kx (q:h.IsListIter b a i):∃o,h.get? b=Sa o:=let ⟨o,e,_⟩:=q;⟨o,e⟩
def HI (C:Cfg)(Gd:Ss->Prop)(s'':Sr):Prop:=(∀p o,C.aa3.get? p=Sa o->s''.heap.get? p=Sa o)/\∀b,s''.heap.objs.size<=b->Gd b
def gY (C:Cfg)(env:Env)(a:Ss)(Gd:Ss->Prop)(ex:Nat->SP Int):Protocol:=λn aaV v s' kap=>
 (∃j t,v=.int j t/\ex n=Sa j)/\∃b,Gd b/\(∃o,s'.heap.get? b=Sa o)/\GK env b aaV s'/\(n≠0->∀s'',HI C Gd s''->(∀p∈[env.locals,b,a],∀o,s'.heap.get? p=Sa o->s''.heap.get? p=Sa o)->kap (.send .none) s'')
def gR (env:Env)(Gd:Ss->Prop)(ex:Nat->SP Int):GenEnd:=λn aaV r s'=>r=.ok (.ret .none)/\(∃b,Gd b/\GK env b aaV s')/\∃m,n=m+1/\ex m=none
section
variable {C:Cfg}{A:Around}{env:Env}{a b:Addr}{vs:List Value}{xs:List Int}{ex:Nat->Option Int}{Gd:Addr->Prop}{fs:List Frame}{s aaV:Shared}{i n:Nat}{last:Option Int}
variable {p q r p1 p2 p3 p4 p5 p6 p7 p8 p9 q1 q2 q3 q4 q5 q6 q7 q8 q9 r1 r2 r3 r4 r5 r6 r7 r8 r9:Pos}{k1 k2 k3 k4 k5:Nat}{rs:List Stmt}
theorem GS.at' (G:GS C env a b vs i last s) (h0:∀p o,C.aa3.get? p=Sa o->s''.heap.get? p=Sa o)(h1:∀p∈[env.locals,b,a],∀o,s.heap.get? p=Sa o->s''.heap.get? p=Sa o):GS C env a b vs i last s'':=by
 refine gx (G.ns) λm v hn hm hl=>?_
 exact⟨h0,⟨m,v,hn.at' λo e=>h1 _ (mI 0 rfl) o e,hm,hl⟩,G.it.at λo e=>h1 _ (mI 1 rfl) o e,G.ls.at λo e=>h1 _ (mI 2 rfl) o e⟩
theorem dt (G:qu env){m:Str->SP Sn} {v:Sn} (k:env.kindOf x=Sa .local)(hn:s.heap.Ns env.locals m)(hm:m x=Sa v)(hd:(x == ("__debug__":Str))=ll)(h:Q v s):So C.M A (eval (.Name x p) env) Q E s:=
 VW (T4 G.kind k hn hm h) hd
theorem yd {M:Model} {s:Sr} {v:Sn} (g:env.globals=SY)(L:Looks M s.heap (nsGet SY x) (Sa v))(h:Q v s):So M A (XN env x) Q E s:=by
 unfold XN
 rw[g]
 exact oX (L.here (Sf h))
theorem fb (G:qu env):interactive env=ll:=by unfold interactive;rw[G.kind];rfl
theorem zz (G:qu env)(hgd:Gd b){j:Int}(hfs:splitAtGen fs=none)(hfg:fs.any Frame.guarded=ll) :
  ∀(n:Nat),(∀m≤n,ex m=Sa j)->∀s aaV,GS C env a b vs i (Sa j) s->GK env b aaV s ->
  Seg C.M A (gR env Gd ex) (gY C env a Gd ex) (n+1) aaV (.whileLoop (.Constant (.bool Se) k1 p1) [.Expr (.Yield (Sa (.Name "last_interval" p2)) p3) p4] [] env) (C.M.den (.whileLoop (.Constant (.bool Se) k1 p1) [.Expr (.Yield (Sa (.Name "last_interval" p2)) p3) p4] [] env)) fs s:=by
 intro n
 induction n with
 | zero=>
  intro hex s aaV S K
  refine seg_whileLoop (XQ (XA (UH ?_)))
  rw[SR rfl]
  refine Us (Zo hfs rfl hfg ?_ G.co (fb G))
  obtain⟨m,v,hn,hm,t,rfl⟩:=S.ns
  refine dt G G.kl hn hm (by decide) λkap hk=>⟨⟨j,t,rfl,hex 0 (SQ _)⟩,b,hgd,kx S.it,K,λz=>(z rfl).elim⟩
 | succ n ih=>
  intro hex s aaV S K
  refine seg_whileLoop (XQ (XA (UH ?_)))
  rw[SR rfl]
  refine Us (Zo hfs rfl hfg ?_ G.co (fb G))
  obtain⟨m,v,hn,hm,t,rfl⟩:=S.ns
  refine dt G G.kl hn hm (by decide) λkap hk=>⟨⟨j,t,rfl,hex _ (SQ _)⟩,b,hgd,kx S.it,K,λ_ s'' h0 h1=>hk .none s'' ?_⟩
  exact Xi (seg_again rfl (ih (λm h=>hex m (Vp h)) s'' s'' (S.at' h0.1 h1) (.refl (lh (S.at' h0.1 h1).it))))
theorem Io {ys:Array Sn} {x:Int}(hI:UG ys.toList xs)(h:xs[i]? = Sa x):∃t,ys[i]? = Sa (.int x t):=by
 have hl:=hI.length
 have hi:=(Sy.mp h).1
 have hi':i<ys.toList.length:=by lia
 refine fB (hI.at i ys.toList[i] (Sw hi')) λn t e e'=>?_
 rw[h] at e'
 cases e'
 refine⟨t,?_⟩
 rw[←VO,Sw hi',e]
def zf (C:Cfg)(A:Ua)(env:Env)(a b:Ss)(vs:Sd Sn)(xs:Sd Int)(ex:Nat->SP Int)(Gd:Ss->Prop)(fs:Sd Frame)(c:Code)(n:Nat):Prop:=
 ∀(l:Sd Int) (i:Nat) (last:SP Int),xs.drop i=l->rO (n+1) last l->(∀m≤n,ex m=(jV (n+1) last l)[n - m]?)->∀s aaV,GS C env a b vs i last s->GK env b aaV s->Seg C.M A (gR env Gd ex) (gY C env a Gd ex) (n+1) aaV c (C.M.den c) fs s
theorem tx (Ok:C.Ok)(G:qu env)(hgd:Gd b) (gc:aaI C.K SY "CHAR_MAX"=Sa (Sa (.int 127 tc)))(hI:UG vs xs) 
  (hB:B=[.If (.Compare (.Name "interval" p2) [.Eq] [.Name "CHAR_MAX" p3] p4) [.Return none p5] [] p6,.If (.Compare (.Name "interval" p7) [.Eq] [.Constant (.int 0) k1 p8] p9) [.If (.Compare (.Name "last_interval" q1) [.Is] [.Constant .none k2 q2] q3) rs [] q4,.While (.Constant (.bool Se) k3 q5) [.Expr (.Yield (Sa (.Name "last_interval" q6)) q7) q8] [] q9] [] r1,.Expr (.Yield (Sa (.Name "interval" r2)) r3) r4,.Assign [.Name "last_interval" r5] (.Name "interval" r6) r7])
  {kk:Result->Sem Fin} {lv:Sd Sn} {abd:Code} {fp:Pos} (al:a≠env.locals) (ab:a≠b) (bl:b≠env.locals) (hl0:C.aa3.get? env.locals=none) (hb0:C.aa3.get? b=none)
  (hN:(A.over (.forLoop (.Name "interval" p1) (.ref b) B [] env) [.ret kk none ll lv abd fp []]).handled=none)
  (hfin:∀(f:Flow) n aaV s',(f=.next\/f=.ret .none)->gR env Gd ex n aaV (.ok (.ret .none)) s'->Seg C.M A (gR env Gd ex) (gY C env a Gd ex) n aaV abd (kk (.ok f)) [] s') (n:Nat)
  (ih:∀m,n=m+1->zf C A env a b vs xs ex Gd [.ret kk none ll lv abd fp []] (.forLoop (.Name "interval" p1) (.ref b) B [] env) m):zf C A env a b vs xs ex Gd [.ret kk none ll lv abd fp []] (.forLoop (.Name "interval" p1) (.ref b) B [] env) n:=by
 intro l i last hd hok hex s aaV S K
 have hxB:execs B env=execs [.If (.Compare (.Name "interval" p2) [.Eq] [.Name "CHAR_MAX" p3] p4) [.Return none p5] [] p6,.If (.Compare (.Name "interval" p7) [.Eq] [.Constant (.int 0) k1 p8] p9) [.If (.Compare (.Name "last_interval" q1) [.Is] [.Constant .none k2 q2] q3) rs [] q4,.While (.Constant (.bool Se) k3 q5) [.Expr (.Yield (Sa (.Name "last_interval" q6)) q7) q8] [] q9] [] r1,.Expr (.Yield (Sa (.Name "interval" r2)) r3) r4,.Assign [.Name "last_interval" r5] (.Name "interval" r6) r7] env:=by rw[hB]
 refine rh hxB ?_
 clear hxB
 induction l using Sd.casesOn with
 | nil=>
  have hlen:xs.length<=i:=by
   have:=SO Sd.length hd
   simp at this;lia
  refine WZ hN S.it S.ls (by simp[hI.length];omega) λh' he=>?_
  refine seg_again rfl ?_
  refine seg_leaf (.ok .next) (hfin .next _ _ _ (.inl rfl) ⟨rfl,⟨b,hgd,GK.trans ⟨λp o _ w e=>he p o w e,rfl,rfl,rfl,lh S.it⟩ K⟩,n,rfl,?_⟩)
  rw[hex n (SQ _)]
  rfl
 | cons x r=>
  have hx:xs[i]? = Sa x:=by rw[←Vk,hd];rfl
  have hd':xs.drop (i+1)=r:=by rw[←WY,hd];rfl
  refine bH (Io (ys:=vs.toArray) (by simpa using hI) hx) λt ht=>?_
  refine gx (S.ns) λm v hn hm hlast=>?_
  refine WI S.it S.ls ht λaaS acj abc=>?_
  refine Sf ?_
  have abJ:aaS.Ns env.locals m:=hn.sameBut abc (Ne.symm bl)
  refine Yg (Up G.ki abJ (λaa2 hn2 abh=>?_) (by rw[G.kind];rfl))
  have nL:∀p o,p≠env.locals->p≠b->s.heap.get? p=Sa o->aa2.get? p=Sa o:=λp o n w e=>by rw[abh.2 p n,abc.2 p w];exact e
  have abq:GK env b aaV { s with heap:=aa2,toks:=s.toks+1 }:=GK.trans (s':=s) ⟨λp o n w e=>nL p o n w e,rfl,rfl,rfl,lh S.it⟩ K
  have base2:∀p o,C.aa3.get? p=Sa o->aa2.get? p=Sa o:=λp o e=>nL p o (λq=>by rw[q,hl0] at e;cases e) (λq=>by rw[q,hb0] at e;cases e) (S.base p o e)
  have abN:aa2.IsListIter b a (i+1):=Heap.IsListIter.extBut acj abh.extBut bl
  have ls2:aa2.IsList a vs.toArray:=S.ls.at λo e=>nL a o al ab e
  generalize hmm:(λy=>if y=("interval":Str) then Sa (ZA x t) else m y)=abf at hn2
  have mi:abf "interval"=Sa (.int x t):=by rw[←hmm];rfl
  have ml:abf "last_interval"=Sa v:=by rw[←hmm];exact hm
  have acq:C.K.In aa2:=λa o e=>base2 a o (Ok.X a o e)
  refine Us (vK ?_)
  refine VN (dt G G.ki hn2 mi (by decide) ?_) rfl
  refine VW (ks_loadName_global G.kind G.kc ?_) (by decide)
  refine yd G.glob (W9 acq gc) ?_
  refine Za (UH ?_)
  by_cases q1:x=127
  ·refine Rq (by simp[q1]) (Us (kX ?_))
   refine seg_leaf (.ok (.ret .none)) (hfin (.ret .none) _ _ _ (.inr rfl) ⟨rfl,⟨b,hgd,abq.keep,abq.gens,abq.os,abq.drawn,abq.nt⟩,n,rfl,?_⟩)
   rw[hex n (SQ _),show jV (n+1) last (x::r)=[] from SR q1]
   rfl
  refine Qe (by simp[q1]) (Xi ?_)
  have eL:jV (n+1) last (x::r)=if x=0 then Sq (n+1) (last.getD 0) else x::jV n (Sa x) r:=Sz q1
  have oL:if x=0 then last≠none else rO n (Sa x) r:=hok q1
  refine Us (vK ?_)
  refine VN (dt G G.ki hn2 mi (by decide) ?_) rfl
  refine Wp ?_
  refine Za (UH ?_)
  by_cases q2:x=0
  ·refine Rq (by simp[q2]) ?_
   rw[SR q2] at eL oL
   obtain⟨j,rfl⟩:=SP.ne_none_iff_exists'.mp oL
   obtain⟨tj,rfl⟩:=hlast
   refine Us (vK ?_)
   refine VN (dt G G.kl hn2 ml (by decide) ?_) rfl
   refine Xz ?_
   refine PySem.is_none (UH ?_)
   refine Qe Uw (Xi ?_)
   refine Us (seg_While λp=>?_)
   refine zz G hgd rfl rfl n (λm hm'=>?_) _ _ ⟨base2,⟨_,_,hn2,ml,tj,rfl⟩,abN,ls2⟩ ⟨abq.keep,abq.gens,abq.os,abq.drawn,abq.nt⟩
   rw[hex m hm',eL,Wz,SR (by omega)]
   rfl
  refine Qe (by simp[q2]) (Xi ?_)
  rw[Sz q2] at eL oL
  refine Us (Zo rfl rfl rfl ?_ G.co (fb G))
  refine dt G G.ki hn2 mi (by decide) λkap hk=>⟨⟨x,t,rfl,?_⟩,b,hgd,kx abN,⟨abq.keep,abq.gens,abq.os,abq.drawn,abq.nt⟩,λhz s'' h0 h1=>hk .none s'' ?_⟩
  ·rw[hex n (SQ _),eL];simp
  obtain⟨n',rfl⟩:∃n',n=n'+1:=⟨n - 1,by lia⟩
  have hn'':s''.heap.Ns env.locals abf:=hn2.at' λo e=>h1 _ (by simp) o e
  have it'':s''.heap.IsListIter b a (i+1):=abN.at λo e=>h1 _ (by simp) o e
  have ls'':s''.heap.IsList a vs.toArray:=ls2.at λo e=>h1 _ (by simp) o e
  refine Us (kb (wpAny_Assign_Name (dt G G.ki hn'' mi (by decide) (Up G.kl hn'' (λaaY hn3 hs3=>?_) (by rw[G.kind];rfl)))))
  refine Xi (seg_again rfl ?_)
  refine ih n' rfl r (i+1) (Sa x) hd' oL (λm hm'=>?_) _ _ ⟨λp o e=>?_,⟨_,_,hn3,rfl,t,rfl⟩,Heap.IsListIter.extBut it'' hs3.extBut bl,ls''.at λo e=>hs3.extBut _ _ al e⟩ ⟨λp o n _ e=>hs3.extBut _ _ n e,rfl,rfl,rfl,lh it''⟩
  ·rw[hex m (by lia),eL]
   have:n'+1 - m=(n' - m)+1:=by lia
   rw[this]
   rfl
  ·exact hs3.extBut _ _ (λq=>by rw[q,hl0] at e;cases e) (h0.1 p o e)
theorem zB (Ok:C.Ok)(G:qu env)(hgd:Gd b) (gc:aaI C.K SY "CHAR_MAX"=Sa (Sa (.int 127 tc)))(hI:UG vs xs) 
  (hB:B=[.If (.Compare (.Name "interval" p2) [.Eq] [.Name "CHAR_MAX" p3] p4) [.Return none p5] [] p6,.If (.Compare (.Name "interval" p7) [.Eq] [.Constant (.int 0) k1 p8] p9) [.If (.Compare (.Name "last_interval" q1) [.Is] [.Constant .none k2 q2] q3) rs [] q4,.While (.Constant (.bool Se) k3 q5) [.Expr (.Yield (Sa (.Name "last_interval" q6)) q7) q8] [] q9] [] r1,.Expr (.Yield (Sa (.Name "interval" r2)) r3) r4,.Assign [.Name "last_interval" r5] (.Name "interval" r6) r7])
  {kk:Result->Sem Fin} {lv:Sd Sn} {abd:Code} {fp:Pos} (al:a≠env.locals) (ab:a≠b) (bl:b≠env.locals) (hl0:C.aa3.get? env.locals=none) (hb0:C.aa3.get? b=none)
  (hN:(A.over (.forLoop (.Name "interval" p1) (.ref b) B [] env) [.ret kk none ll lv abd fp []]).handled=none)
  (hfin:∀(f:Flow) n aaV s',(f=.next\/f=.ret .none)->gR env Gd ex n aaV (.ok (.ret .none)) s'->Seg C.M A (gR env Gd ex) (gY C env a Gd ex) n aaV abd (kk (.ok f)) [] s'):∀n,zf C A env a b vs xs ex Gd [.ret kk none ll lv abd fp []] (.forLoop (.Name "interval" p1) (.ref b) B [] env) n:=by
 intro n
 induction n with
 | zero=>exact tx Ok G hgd gc hI hB al ab bl hl0 hb0 hN hfin 0 λm e=>nomatch e
 | succ n ih=>exact tx Ok G hgd gc hI hB al ab bl hl0 hb0 hN hfin (n+1) λm e=>by cases e;exact ih
theorem D0 (Ok:C.Ok)(G:qu env) (gc:aaI C.K SY "CHAR_MAX"=Sa (Sa (.int 127 tc)))(hI:UG vs xs){body:Sd Stmt}
  (hB:B=[.If (.Compare (.Name "interval" p2) [.Eq] [.Name "CHAR_MAX" p3] p4) [.Return none p5] [] p6,.If (.Compare (.Name "interval" p7) [.Eq] [.Constant (.int 0) k1 p8] p9) [.If (.Compare (.Name "last_interval" q1) [.Is] [.Constant .none k2 q2] q3) rs [] q4,.While (.Constant (.bool Se) k3 q5) [.Expr (.Yield (Sa (.Name "last_interval" q6)) q7) q8] [] q9] [] r1,.Expr (.Yield (Sa (.Name "interval" r2)) r3) r4,.Assign [.Name "last_interval" r5] (.Name "interval" r6) r7])
  (hbody:body=[.Assign [.Name "last_interval" r8] (.Constant .none k4 r9) p,.For (.Name "interval" p1) (.Name "grouping" q) B [] r]) (al:a≠env.locals) (hl0:C.aa3.get? env.locals=none) (hA:A.handled=none) (hg0:∀b,Gd b->C.aa3.get? b=none)
  (n:Nat) (hok:rO (n+1) none xs) (hex:∀m≤n,ex m=(jV (n+1) none xs)[n - m]?) (N:HI C Gd s) (hns:∃m,s.heap.Ns env.locals m/\m "grouping"=Sa (.ref a)) (hl:s.heap.IsList a vs.toArray) :
  Seg C.M A (gR env Gd ex) (gY C env a Gd ex) (n+1) s (.func body env) (C.M.den (.func body env)) [] s:=by
 refine seg_func ?_
 have hx:execs body env=execs [.Assign [.Name "last_interval" r8] (.Constant .none k4 r9) p,.For (.Name "interval" p1) (.Name "grouping" q) B [] r] env:=by rw[hbody]
 rw[hx]
 refine aE hns λm hn hm=>?_
 refine Us (kb (wpAny_Assign_Name (Xz (Up G.kl hn (λaaS abJ abc=>?_) (by rw[G.kind];rfl)))))
 have ab6:aaS.IsList a vs.toArray:=hl.at λo e=>abc.extBut _ _ al e
 have sz:aaS.objs.size=s.heap.objs.size:=abc.1
 have hL:env.locals<s.heap.objs.size:=hn.lt
 have ha:a<s.heap.objs.size:=by refine aE hl λo e _=>?_;exact Heap.lt_size e
 have hgd:Gd aaS.objs.size:=N.2 _ (by rw[sz];exact SQ _)
 refine Us (DA ?_)
 refine oX (dt G G.kg abJ (v:=.ref a) hm (by decide) (oX (TP rfl (oX (Tz (SN (WJ (s:={ s with heap:=aaS,toks:=s.toks+1 }) ab6 ?_)))))))
 intro fp
 have hb:(aaS.push { cls:=.type "list_iterator",data:=.fields #[.ref a,.int 0 0] }).get? aaS.objs.size=Sa { cls:=.type "list_iterator",data:=.fields #[.ref a,.int 0 0] }:=Heap.get?_push_size _ rfl
 have dead:∀vs m,s.heap.get? aaS.objs.size≠Sa (cK vs m):=λvs m e=>by
  have:=Heap.lt_size e
  rw[sz] at this
  exact Tj _ this
 refine zB Ok G hgd gc hI hB al (SJ (by rw[sz];exact ha)) (Tu (by rw[sz];exact hL)) hl0 (hg0 _ hgd) hA (λf n aaV s' hf hr=>?_) n xs 0 none rfl hok hex _ _ ⟨λp o e=>Heap.get?_push_of_some _ (abc.extBut _ _ (λq=>by rw[q,hl0] at e;cases e) (N.1 p o e)),⟨_,_,abJ.push _,rfl,rfl⟩,⟨_,hb,rfl,rfl⟩,ab6.push _⟩ ⟨λp o n _ e=>Heap.get?_push_of_some _ (abc.extBut _ _ n e),rfl,rfl,rfl,dead⟩
 rcases hf with rfl | rfl
 ·exact seg_end (.ok (.ret .none)) hr
 ·exact seg_end (.ok (.ret .none)) hr
end
section
variable {prog:Program}{w:World}{A:Around}{E:Value->Shared->Prop}{s:Shared}
theorem jA {it:Ss}{x step:Int} (hit:Ug s.heap it x left step)(hleft:0<left)
  (hQ:∀h',Ug h' it (x+step) (left - 1) step->Heap.SameBut it s.heap h'->Q (.int x s.toks) { s with heap:=h',toks:=s.toks+1 }):So (model prog w) A (Tn (.ref it)) Q E s:=by
 have hT:s.TypeIs (.ref it) "range_iterator":=⟨_,hit,rfl⟩
 unfold Tn
 refine oX (T3 (name:=TT "__next__") hT Vg
  (Wq Vg hT XI (Xw _) (AutoRange.range_iterator___next___range_iterator_1 it x left step (by lia)) ⟨hit,?_⟩))
 exact Sf (hQ _ (Heap.get?_update_self _ (Heap.get?_update_self _ hit rfl) rfl) ((Heap.SameBut.update ..).trans (Heap.SameBut.update ..)))
theorem jR {it:Ss}{x step:Int} (hh:A.handled=none)(hit:Ug s.heap it x left step)(hleft:left<=0)
  (hE:∀h' e,Heap.ExtBut it s.heap h'->(∃o,h'.get? e=Sa o/\o.cls=.type "StopIteration")->E (.ref e) { s with heap:=h' }):So (model prog w) A (Tn (.ref it)) Q E s:=by
 have hT:s.TypeIs (.ref it) "range_iterator":=⟨_,hit,rfl⟩
 unfold Tn
 refine oX (T3 (name:=TT "__next__") hT Vg
  (Uc Vg hT XI ?_ (Xw _)))
 show So _ _ (field (.ref it) 0 >>= _) _ _ s
 refine oX (TB hit rfl (x:=Vy x) rfl ?_)
 show So _ _ (field (.ref it) 1 >>= _) _ _ s
 refine oX (TB hit rfl (x:=Vy left) rfl ?_)
 show So _ _ (field (.ref it) 2 >>= _) _ _ s
 refine oX (TB hit rfl (x:=Vy step) rfl ?_)
 show So _ _ (if left<=0 then _ else _) _ _ s
 rw[SR hleft]
 refine oX (U1 ?_)
 refine oX ?_
 show So _ _ (newExc (.type "StopIteration") [] >>= _) _ _ _
 refine oX ?_
 dsimp only[newExc,newTuple]
 refine oX (TF ?_ (by size_fits))
 refine oX (m:=XU _ _) (TP (a:=XS) (by first | rfl | (simp only[XU];rfl)) ?_)
 refine TF ?_ (by size_fits)
 dsimp only[raiseNew]
 refine oX (ZS ?_)
 first | rw[show A.in1.handled=none from hh] | rw[hh]
 refine oX (Sf (wpAny_throw ?_))
 exact hE _ _ (((Heap.ExtBut.refl it s.heap).push _).push _) ⟨_,Heap.get?_push_size _ rfl,rfl⟩
theorem vy {g:Nat}{gs:WT}{P:Nat->Sr->Sr->Prop}{Y:Protocol} (hh:A.handled=none)
  (hl:s.heap.NoLimit) (hroom:A.depth<WW)
  (hg:s.heap.IsGen a g) (hgs:s.gens[g]? = Sa gs)
  (hgo:gs.Goes (model prog w) A.in1 (λn aaV r aaQ=>r=.ok (.ret .none)/\P n aaV aaQ) Y n (.send .none) (s.setGen g .running))
  (hY:∀v aaQ gs',gs'.bare=Se->Y (n - 1) (s.setGen g .running) v aaQ (λr' s''=>match n with
    | 0=>False
    | m+1=>gs'.Goes (model prog w) A.in1 (λn aaV r aaQ=>r=.ok (.ret .none)/\P n aaV aaQ) Y m r' s'')->Q v (aaQ.setGen g gs'))
  (hP:∀aaQ,P n (s.setGen g .running) aaQ->∀h' e,(∀b o,aaQ.heap.get? b=Sa o->h'.get? b=Sa o)->(∃o,h'.get? e=Sa o/\o.cls=.type "StopIteration")->E (.ref e) { aaQ.setGen g .finished with heap:=h' }) :
  So (model prog w) A (Tn (.ref a)) Q E s:=by
 unfold Tn
 refine oX (T3 (name:=TT "__next__") hg.typeIs slot_gen_next
  (Uc slot_gen_next hg.typeIs entry_gen_next ?_ (args_gen_next _)))
 show So _ _ (XY (.ref a) (.send .none)) _ _ s
 unfold XY
 refine oX (SN (wpAny_genNumber hg (oX (wpAny_genState hgs ?_))))
 induction gs with
 | running=>exact hgo.elim
 | finished=>exact hgo.elim
 | _=>
  refine oX (wpAny_roomToWake hl hroom ?_)
  show So _ _ (.resume g (.send .none) [] _) _ _ s
  refine wpAny_resumeQ hgs hgo (λx aaQ hx=>?_) (λv aaQ gs' hb hv=>?_)
  ·obtain⟨rfl,hp⟩:=hx
   show So _ _ (newExc (.type "StopIteration") [] >>= _) _ _ _
   refine oX ?_
   dsimp only[newExc,newTuple]
   refine oX (TF ?_ (by size_fits))
   refine oX (m:=XU _ _) (TP (a:=XS) (by first | rfl | (simp only[XU];rfl)) ?_)
   refine TF ?_ (by size_fits)
   dsimp only[raiseNew]
   refine oX (oX (ZS ?_))
   rw[show A.in1.handled=none from hh]
   refine wpAny_throw ?_
   exact hP aaQ hp _ _ (λb o hb=>Heap.get?_push_of_some _ (Heap.get?_push_of_some _ hb)) ⟨_,Heap.get?_push_size _ rfl,rfl⟩
  ·exact Sf ⟨v,rfl,Sf (hY v aaQ gs' hb hv)⟩
structure Oi (z TI TO i1:Ss):Prop where
 TIz:TI≠z
 TOz:TO≠z
 i1z:i1≠z
 TITO:TI≠TO
 TIi1:TI≠i1
 TOi1:TO≠i1
def Mf (Co:Sn->Sr->Prop)(z TO:Ss)(x:Sn)(TI:Ss)(v:Sn)(aa6:Sr):Prop:=Co v aa6/\VJ aa6.heap z TI TO .ellipsis/\∃b,UE aa6.heap TO x b
theorem mL {x:Int}{a b:Sn} {Co:Sn->Sr->Prop}{ace:Sn->Sr->Prop}(D:Oi z TI TO i1)
  (hz:VJ s.heap z TI TO .none) (hTI:UE s.heap TI (.ref i1) (.ref G)) (hTO:UE s.heap TO a b) (h1:Ug s.heap i1 x left 1) (hleft:0<left)
  (hG:∀aaY,(∀c o,c≠z->c≠TO->c≠i1->s.heap.get? c=Sa o->aaY.get? c=Sa o)->aaY.objs.size=s.heap.objs.size->VJ aaY z TI TO .ellipsis->UE aaY TI (.ref i1) (.ref G)->UE aaY TO (.int x s.toks) b->Ug aaY i1 (x+1) (left - 1) 1 ->
   So (model prog w) A (Tn (.ref G)) (Mf Co z TO (.int x s.toks) TI) ace { s with heap:=aaY,toks:=s.toks+1 })
  (hE:∀e s',ace e s'->VJ s'.heap z TI TO .ellipsis/\∀h',Heap.SameBut z s'.heap h'->E e { s' with heap:=h' })
  (hQ:∀v aa6 h',Co v aa6->VJ h' z TI TO (Vy aa6.heap.objs.size)->UE h' TO (.int x s.toks) v->UE h' aa6.heap.objs.size (.int x s.toks) v->h'.objs.size=aa6.heap.objs.size+1 ->
   (∀c o,c≠z->c≠TO->aa6.heap.get? c=Sa o->h'.get? c=Sa o)->Q (.ref aa6.heap.objs.size) { aa6 with heap:=h' }) :
  So (model prog w) A (Builtin.«zip.__next__» ⟨[.ref z],[]⟩) (λfin s'=>∃v,fin=.done (.ret v)/\Q v s') E s:=by
 show So _ _ (field (.ref z) 2 >>= _) _ _ _
 refine oX (TB hz rfl (x:=.bool ll) rfl ?_)
 show So _ _ (field (.ref z) 3 >>= _) _ _ _
 refine oX (TB hz rfl (x:=.ref TI) rfl ?_)
 refine oX (T2 hTI rfl ?_)
 show So _ _ (Ut (.ref z) >>= _) _ _ _
 refine oX ?_
 unfold Ut
 refine oX (TB hz rfl (x:=.none) rfl (Sf ?_))
 refine wP rfl (oX (U1 ?_))
 refine oX (TB hz rfl (x:=.ref TO) rfl ?_)
 refine oX (Vh hz (Sl rfl) λaaS abz abc=>?_)
 replace abz:VJ aaS z TI TO .ellipsis:=abz
 refine oX ?_
 refine wE (Uu ..) (oX (oX (Yl ?_)))
 show So _ _ (Tn (.ref i1) >>= _) _ _ _
 refine oX (jA (s:={ s with heap:=aaS }) (abc.extBut _ _ D.i1z h1) hleft λaa2 acu abh=>Sf ?_)
 have hTO2:UE aa2 TO a b:=abh.extBut _ _ D.TOi1 (abc.extBut _ _ D.TOz hTO)
 refine oX (T2 hTO2 rfl ?_)
 refine oX (wpAny_updateSeq_pair hTO2 λaaY hTO3 hs3=>?_)
 replace hTO3:UE aaY TO (.int x s.toks) b:=hTO3
 refine oX (Vo (Sf ?_))
 have abW:VJ aaY z TI TO .ellipsis:=hs3.extBut _ _ D.TOz.symm (abh.extBut _ _ D.i1z.symm abz)
 have hTI3:UE aaY TI (.ref i1) (.ref G):=hs3.extBut _ _ D.TITO (abh.extBut _ _ D.TIi1 (abc.extBut _ _ D.TIz hTI))
 have h13:Ug aaY i1 (x+1) (left - 1) 1:=hs3.extBut _ _ D.TOi1.symm acu
 refine wE (Uu ..) (oX (oX (Yl ?_)))
 show So _ _ (Tn (.ref G) >>= _) _ _ _
 refine oX (Sm (hG aaY (λc o c1 c2 c3 e=>hs3.extBut _ _ c2 (abh.extBut _ _ c3 (abc.extBut _ _ c1 e))) (by rw[hs3.1,abh.1,abc.1]) abW hTI3 hTO3 h13) ?_ ?_)
 ·intro v aa6 H
  have hco:=H.1
  have hz4:=H.2.1
  refine bH H.2.2 λb' hTO4=>?_
  clear H
  obtain⟨h4,g4,d4,t4,o4⟩:=aa6
  refine Sf ?_
  refine oX (T2 hTO4 rfl ?_)
  refine oX (wpAny_updateSeq_pair hTO4 λaba hTO5 hs5=>?_)
  replace hTO5:UE aba TO (.int x s.toks) v:=hTO5
  refine oX (Vo (Sf (Sf ?_)))
  refine oX (T2 hTO5 rfl ?_)
  refine oX (wpAny_newTuple ?_)
  have hsz:aba.objs.size=h4.objs.size:=hs5.1
  have hz5:VJ aba z TI TO .ellipsis:=hs5.extBut _ _ D.TOz.symm hz4
  have hzlt:z<aba.objs.size:=Heap.lt_size hz5
  show So _ _ (Wd (.ref z) (.ref aba.objs.size) >>= _) _ _ _
  refine oX ?_
  unfold Wd
  have hz6:VJ (aba.push { cls:=.type "tuple",data:=.seq #[.int x s.toks,v] }) z TI TO .ellipsis:=Heap.get?_push_of_some _ hz5
  refine oX (Vh hz6 (Sl rfl) λach hz7 abX=>?_)
  replace hz7:VJ ach z TI TO (Vy aba.objs.size):=hz7
  refine Vh hz7 (Sl rfl) λaby abT hs8=>?_
  replace abT:VJ aby z TI TO (Vy aba.objs.size):=abT
  have up:∀c o,c≠z->aba.get? c=Sa o->aby.get? c=Sa o:=λc o c1 e=>hs8.extBut _ _ c1 (abX.extBut _ _ c1 (Heap.get?_push_of_some _ e))
  have hT8:UE aby aba.objs.size (.int x s.toks) v:=hs8.extBut _ _ (Tu hzlt) (abX.extBut _ _ (Tu hzlt) (Heap.get?_push_size _ rfl))
  have hz8:aby.objs.size=aba.objs.size+1:=by rw[hs8.1,abX.1,Heap.size_push]
  rw[hsz] at abT hT8 hz8
  refine Sf ⟨_,rfl,?_⟩
  show Q (.ref aba.objs.size) _
  rw[hsz]
  exact hQ v ⟨h4,g4,d4,t4,o4⟩ aby hco abT (up _ _ D.TOz hTO5) hT8 hz8 λc o c1 c2 e=>up c o c1 (hs5.extBut _ _ c2 e)
 ·rintro e s' he
  obtain⟨hz',k⟩:=hE e s' he
  obtain⟨h4,g4,d4,t4,o4⟩:=s'
  refine Vh hz' (Sl rfl) λaba _ hs5=>?_
  exact k aba hs5
def StopAt (e:Sn)(h:Heap):Prop:=∃a o,e=.ref a/\h.get? a=Sa o/\o.cls=.type "StopIteration"
theorem StopAt.but {e:Sn} (x:StopAt e h)(hz:VJ h z TI TO f)(hs:Heap.SameBut z h h'):StopAt e h':=by
 refine gx x λa o e82 ho hc=>?_;subst e82
 refine⟨a,o,rfl,hs.extBut _ _ (λq=>?_) ho,hc⟩
 subst q
 rw[hz] at ho
 cases ho
 simp at hc
theorem sw {x:Int}{a b:Sn}{Q:SP Sn->Sr->Prop}{Co:Sn->Sr->Prop}{En:Sr->Prop}(D:Oi z TI TO i1)
  (hz:VJ s.heap z TI TO .none) (hTI:UE s.heap TI (.ref i1) (.ref G)) (hTO:UE s.heap TO a b) (h1:Ug s.heap i1 x left 1) (hleft:0<left)
  (hG:∀aaY,(∀c o,c≠z->c≠TO->c≠i1->s.heap.get? c=Sa o->aaY.get? c=Sa o)->aaY.objs.size=s.heap.objs.size->VJ aaY z TI TO .ellipsis->UE aaY TI (.ref i1) (.ref G)->UE aaY TO (.int x s.toks) b->Ug aaY i1 (x+1) (left - 1) 1 ->
   So (model prog w) A.in1 (Tn (.ref G)) (Mf Co z TO (.int x s.toks) TI) (λe s'=>StopAt e s'.heap/\VJ s'.heap z TI TO .ellipsis/\∀h',Heap.SameBut z s'.heap h'->En { s' with heap:=h' }) { s with heap:=aaY,toks:=s.toks+1 })
  (hN:∀s',En s'->Q none s')
  (hQ:∀v aa6 h',Co v aa6->VJ h' z TI TO (Vy aa6.heap.objs.size)->UE h' TO (.int x s.toks) v->UE h' aa6.heap.objs.size (.int x s.toks) v->h'.objs.size=aa6.heap.objs.size+1 ->
   (∀c o,c≠z->c≠TO->aa6.heap.get? c=Sa o->h'.get? c=Sa o)->Q (Sa (.ref aa6.heap.objs.size)) { aa6 with heap:=h' }) :
  So (model prog w) A (UK (.ref z)) Q E s:=by
 have hT:s.TypeIs (.ref z) "zip":=⟨_,hz,rfl⟩
 unfold UK
 refine oX (Vq (T3 (name:=TT "__next__") hT Xx
  (Uc Xx hT F.entry_zip_next (mL D hz hTI hTO h1 hleft hG (λe s' q=>⟨q.2.1,λh' hs=>?_⟩) λv aa6 h' a1 a2 a3 a4 a5 a6=>?_) (F.args_zip_next_1 _))))
 ·refine gx (q.1.but q.2.1 hs) λa o e82 ho hc=>?_;subst e82
  refine oX (Vb (T:="StopIteration") (b:=Se) ⟨o,ho,hc⟩ Zm ?_)
  exact Sf (hN _ (q.2.2 h' hs))
 ·exact Sf (hQ v aa6 h' a1 a2 a3 a4 a5 a6)
theorem kY {x:Int}{a b:Sn}{Q:SP Sn->Sr->Prop}(hh:A.handled=none)(D:Oi z TI TO i1)
  (hz:VJ s.heap z TI TO .none) (hTI:UE s.heap TI (.ref i1) (.ref G)) (hTO:UE s.heap TO a b) (h1:Ug s.heap i1 x left 1) (hleft:left<=0)
  (hN:∀h',(∀c o,c≠z->c≠i1->s.heap.get? c=Sa o->h'.get? c=Sa o)->Q none { s with heap:=h' }) :
  So (model prog w) A (UK (.ref z)) Q E s:=by
 have hT:s.TypeIs (.ref z) "zip":=⟨_,hz,rfl⟩
 unfold UK
 refine oX (Vq (T3 (name:=TT "__next__") hT Xx
  (Uc Xx hT F.entry_zip_next ?_ (F.args_zip_next_1 _))))
 show So _ _ (field (.ref z) 2 >>= _) _ _ _
 refine oX (TB hz rfl (x:=.bool ll) rfl ?_)
 show So _ _ (field (.ref z) 3 >>= _) _ _ _
 refine oX (TB hz rfl (x:=.ref TI) rfl ?_)
 refine oX (T2 hTI rfl ?_)
 show So _ _ (Ut (.ref z) >>= _) _ _ _
 refine oX ?_
 unfold Ut
 refine oX (TB hz rfl (x:=.none) rfl (Sf ?_))
 refine wP rfl (oX (U1 ?_))
 refine oX (TB hz rfl (x:=.ref TO) rfl ?_)
 refine oX (Vh hz (Sl rfl) λaaS abz abc=>?_)
 replace abz:VJ aaS z TI TO .ellipsis:=abz
 refine oX ?_
 refine oX (oX (Yl ?_))
 show So _ _ (Tn (.ref i1) >>= _) _ _ _
 refine oX (jR (s:={ s with heap:=aaS }) hh (abc.extBut _ _ D.i1z h1) hleft λaa2 e abh he=>?_)
 refine aE he λoe hoe hce=>?_
 have abU:VJ aa2 z TI TO .ellipsis:=abh _ _ D.i1z.symm abz
 have hez:e≠z:=λx=>by subst x;rw[abU] at hoe;cases hoe;simp at hce
 refine Vh abU (Sl rfl) λaaY _ hs3=>?_
 refine oX (Vb (T:="StopIteration") (b:=Se) ⟨oe,hs3.extBut _ _ hez hoe,hce⟩ Zm ?_)
 exact Sf (hN aaY λc o c1 c3 x=>hs3.extBut _ _ c1 (abh _ _ c3 (abc.extBut _ _ c1 x)))
end
noncomputable abbrev Oq (h:Heap)(n:Int):Heap:=h.push { cls:=.type "range_iterator",data:=.fields #[Vy 0,Vy (To 0 n 1),Vy 1] }
noncomputable abbrev Op (h:Heap)(n:Int)(G:Ss):Heap:=(Oq h n).push { cls:=.type "tuple",data:=.seq #[.ref h.objs.size,.ref G] }
noncomputable abbrev Ox (h:Heap)(n:Int)(G:Ss):Heap:=(Op h n G).push { cls:=.type "tuple",data:=.seq #[.none,.none] }
noncomputable abbrev I4 (h:Heap)(n:Int)(G:Ss):Heap:=(Ox h n G).push { cls:=.type "zip",data:=.fields #[.none,.bool ll,.bool ll,.ref (Oq h n).objs.size,.ref (Op h n G).objs.size] }
theorem vM (r G g:Ss)(n:Int)(t u v:Tok)(hsmall:Builtin.Range.small 0 n 1=Se) :
  Meets (Builtin.«zip.__new__» ⟨[.type "zip",.ref r,.ref G],[]⟩) (λ_ R s=>WL s.heap r 0 n 1 t u v/\s.heap.IsGen G g /\
   R (.ok (.ret (.ref (Ox s.heap n G).objs.size))) { s with heap:=I4 s.heap n G }):=
 .of_wp λprog w A R s h=>by
  obtain⟨hp,g',d,tk,os⟩:=s;obtain⟨hr,hg,h⟩:=h
  have hsub:=sub_zip
  have hR:WL (Sr.heap ⟨hp,g',d,tk,os⟩) r 0 n 1 t u v:=hr
  have hG2:Heap.IsGen (Sr.heap ⟨hp.push { cls:=.type "range_iterator",data:=.fields #[Vy 0,Vy (To 0 n 1),Vy 1] },g',d,tk,os⟩) G g:=Heap.IsGen.push hg _
  wp_walk using XP hR hsmall,wpAny_pyIter_gen hG2
  exact⟨_,rfl,h⟩
section
variable {prog:Program}{w:World}{A:Around}{E:Value->Shared->Prop}{s:Shared}
theorem xL {r:Ss}{n:Int}{t u v:Tok} (hr:WL s.heap r 0 n 1 t u v)(hsmall:Builtin.Range.small 0 n 1=Se)(hg:s.heap.IsGen G g)
  (h:∀h',VJ h' (s.heap.objs.size+3) (s.heap.objs.size+1) (s.heap.objs.size+2) .none->UE h' (s.heap.objs.size+1) (.ref s.heap.objs.size) (.ref G)->UE h' (s.heap.objs.size+2) .none .none ->
   Ug h' s.heap.objs.size 0 (To 0 n 1) 1->h'.objs.size=s.heap.objs.size+4->(∀c o,s.heap.get? c=Sa o->h'.get? c=Sa o)->Q (.ref (s.heap.objs.size+3)) { s with heap:=h' }) :
  So (model prog w) A (call (.type "zip") [.ref r,.ref G]) Q E s:=by
 refine callType_new F.called_zip (by decide) (F.typeCall_zip_2 _ _) (F.newCall_zip_2 _ _) (λobj=>F.args_object_init_3 obj _ _) F.entry_zip_new
  (vM r G g n t u v hsmall) ⟨hr,hg,?_⟩
 have z1:(Oq s.heap n).objs.size=s.heap.objs.size+1:=Heap.size_push ..
 have z2:(Op s.heap n G).objs.size=s.heap.objs.size+2:=by rw[Heap.size_push,z1]
 have z3:(Ox s.heap n G).objs.size=s.heap.objs.size+3:=by rw[Heap.size_push,z2]
 have z4:(I4 s.heap n G).objs.size=s.heap.objs.size+4:=by rw[Heap.size_push,z3]
 have g4:(I4 s.heap n G).get? (Ox s.heap n G).objs.size=Sa _:=Heap.get?_push_size _ rfl
 have g3:(I4 s.heap n G).get? (Op s.heap n G).objs.size=Sa _:=Heap.get?_push_of_some _ (Heap.get?_push_size _ rfl)
 have g2:(I4 s.heap n G).get? (Oq s.heap n).objs.size=Sa _:=Heap.get?_push_of_some _ (Heap.get?_push_of_some _ (Heap.get?_push_size _ rfl))
 have g1:(I4 s.heap n G).get? s.heap.objs.size=Sa _:=Heap.get?_push_of_some _ (Heap.get?_push_of_some _ (Heap.get?_push_of_some _ (Heap.get?_push_size _ rfl)))
 show _/\_
 rw[z1,z2,z3] at g4
 rw[z2] at g3
 rw[z1] at g2
 rw[z3]
 exact⟨⟨_,g4,rfl⟩,h _ g4 g2 g3 g1 z4 λc o x=>
  Heap.get?_push_of_some _ (Heap.get?_push_of_some _ (Heap.get?_push_of_some _ (Heap.get?_push_of_some _ x)))⟩
end
section
variable {C:Cfg}{A:Around}{E:Value->Shared->Prop}{s:Shared}
theorem jC {M:Model} {cl:Sd (Str×Ss)}{binds:Sd (Str×Sn)} {code:Sn} {bi:Ss}{Q:Env->Sr->Prop}(hc:∀x∈sc.names,(x.2 == NameKind.cell)=ll)
  (h:So M A (Zh binds PUnit.unit λ(x:Str×Sn) (_:PUnit)=>(do aao (VB sc s.heap.objs.size g cl qual func code around bi) x.1 x.2;pure (.yield PUnit.unit):Sem (ForInStep PUnit))) (λ_ s'=>Q (VB sc s.heap.objs.size g cl qual func code around bi) s') E { s with heap:=s.heap.push { cls:=.type (if around.isSome then "dict" else "frame"),data:=.dict #[] } }) :
  So M A (WO sc g cl binds qual func code around bi) Q E s:=by
 unfold WO
 refine oX (Zi ?_)
 refine oX (TP (forIn_yield_id cl λx m c=>by obtain⟨n,kd⟩:=x;have e:(kd == NameKind.cell)=ll:=hc _ m;dsimp only;rw[e];rfl) ?_)
 induction around with
 | none=>exact oX (Sm h (λ_ s' q=>Sf q) λ_ _ e=>e)
 | some o=>exact oX (Sm h (λ_ s' q=>Sf q) λ_ _ e=>e)
structure ZW (C:Cfg)(env cenv:Env)(hb:Heap)(Z:Nat)(z TI TO i1 G D a g:Ss):Prop where
 ap:Oi z TI TO i1
 lt:∀p∈[z,TI,TO,i1,G,D,a,env.locals,cenv.locals],p<Z
 new:∀p∈[z,TI,TO,i1,G,D,env.locals,cenv.locals],hb.get? p=none
 base:∀p o,C.aa3.get? p=Sa o->hb.get? p=Sa o
 old:∀p o,hb.get? p=Sa o->p<Z
 lz:env.locals≠z
 lTI:env.locals≠TI
 lTO:env.locals≠TO
 li:env.locals≠i1
 lG:env.locals≠G
 lD:env.locals≠D
 lc:env.locals≠cenv.locals
 Dz:D≠z
 DTI:D≠TI
 DTO:D≠TO
 Di:D≠i1
 DG:D≠G
 Dc:D≠cenv.locals
 cz:cenv.locals≠z
 cTI:cenv.locals≠TI
 cTO:cenv.locals≠TO
 ci:cenv.locals≠i1
 cG:cenv.locals≠G
 Gz:G≠z
 GTO:G≠TO
 Gi:G≠i1
inductive Ready (C:Cfg)(A:Ua)(env:Env)(Z:Nat)(a g:Ss)(ex:Nat->SP Int)(n:Nat)(s:Sr):Prop
 | mk (gs:WT) (b:Ss) (e:s.gens[g]? = Sa gs) (go:∀s'',HI C (λp=>Z<=p) s''->(∀p∈[env.locals,b,a],∀o,s.heap.get? p=Sa o->s''.heap.get? p=Sa o) ->
  gs.Goes C.M A (gR env (λp=>Z<=p) ex) (gY C env a (λp=>Z<=p) ex) n (.send .none) s'') (hb:b=a\/Z<=b)
theorem Ready.mv {Z:Nat} {ex:Nat->SP Int} {s:Sr}(r:Ready C A env Z a g ex n s)(hg:s'.gens=s.gens)(hk:∀p,(p=env.locals\/p=a\/Z<=p)->∀o,s.heap.get? p=Sa o->s'.heap.get? p=Sa o):Ready C A env Z a g ex n s':=by
 obtain⟨gs,b,h1,h2,h3⟩:=r
 refine⟨gs,b,by rw[hg];exact h1,λs'' N k=>h2 s'' N λp m o e=>k p m o (hk p ?_ o e),h3⟩
 simp only[Sv,aat,or_false] at m
 rcases m with m | m | m
 ·exact .inl m
 ·rcases h3 with q | q
  ·exact .inr (.inl (m.trans q))
  ·exact .inr (.inr (m▸q))
 ·exact .inr (.inl m)
structure ZC (C:Cfg)(A:Ua)(env cenv:Env)(hb:Heap)(aaV:Sr)(TI i1 G D a g:Ss)(ys:Sd Int)(N j jr:Nat)(s:Sr):Prop where
 keep:∀p o,hb.get? p=Sa o->s.heap.get? p=Sa o
 size:aaV.heap.objs.size<=s.heap.objs.size
 os:s.os=aaV.os
 gens:UV aaV.gens->UV s.gens
 ti:UE s.heap TI (.ref i1) (.ref G)
 rng:Ug s.heap i1 jr ((N:Int) - jr) 1
 gen:s.heap.IsGen G g
 ns:∃m,s.heap.Ns cenv.locals m
 lis:∃us m,s.heap.get? D=Sa (cB us m)/\UG us (ys.take j)
 ready:jr<N->Ready C A env aaV.heap.objs.size a g (λm=>ys[N - 1 - m]?) (N - jr) s
theorem ZC.mv {s:Sr} {jr:Nat}(W:ZW C env cenv hb aaV.heap.objs.size z TI TO i1 G D a g)(ha:∃o,hb.get? a=Sa o)(c:ZC C A env cenv hb aaV TI i1 G D a g ys N j jr s)
  (hk:∀p o,p≠z->p≠TO->s.heap.get? p=Sa o->s'.heap.get? p=Sa o) (hsz:s.heap.objs.size<=s'.heap.objs.size) (hg:s'.gens=s.gens) (ho:s'.os=s.os):ZC C A env cenv hb aaV TI i1 G D a g ys N j jr s':=by
 have live:∀p,(∃o,hb.get? p=Sa o)->∀q∈[z,TI,TO,i1,G,D,env.locals,cenv.locals],p≠q:=λp ⟨o,e⟩ q m z=>by rw[z,W.new q m] at e;cases e
 refine fB (c.lis) λus m h1 h2=>?_
 refine bH (c.ns) λmm h3=>?_
 refine⟨λp o e=>hk p o (live p ⟨o,e⟩ z (by grind)) (live p ⟨o,e⟩ TO (by grind)) (c.keep p o e),Sk c.size hsz,ho.trans c.os,λq=>by rw[hg];exact c.gens q,hk _ _ W.ap.TIz W.ap.TITO c.ti,hk _ _ W.ap.i1z (Ne.symm W.ap.TOi1) c.rng,?_,⟨mm,h3.at' λo e=>hk _ o W.cz W.cTO e⟩,⟨us,m,hk _ _ W.Dz W.DTO h1,h2⟩,λq=>(c.ready q).mv hg λp hp o e=>hk p o ?_ ?_ e⟩
 ·refine iD (c.gen) λo nm qn e r=>?_
  exact⟨o,nm,qn,hk _ _ W.Gz W.GTO e,r⟩
 ·rcases hp with rfl | rfl | q
  ·exact W.lz
  ·exact live _ ha z (by grind)
  ·exact Tu (Sx (W.lt z (by grind)) q)
 ·rcases hp with rfl | rfl | q
  ·exact W.lTO
  ·exact live _ ha TO (by grind)
  ·exact Tu (Sx (W.lt TO (by grind)) q)
structure L4 (cenv:Env)(hb:Heap)(aaV:Sr)(D:Ss)(ys:Sd Int)(j:Nat)(s':Sr):Prop where
 e:ys.length=j
 keep:∀p o,hb.get? p=Sa o->s'.heap.get? p=Sa o
 os:s'.os=aaV.os
 gens:UV aaV.gens->UV s'.gens
 ns:∃m,s'.heap.Ns cenv.locals m
 lis:∃us n,s'.heap.get? D=Sa (cB us n)/\UG us ys
inductive JF (C:Cfg)(A:Ua)(env cenv:Env)(hb:Heap)(aaV:Sr)(z TI TO i1 G D a g:Ss)(ys:Sd Int)(N j:Nat)(v:Sn)(s':Sr):Prop
 | mk (T:Ss) (x:Int) (t:Tok) (y:Int) (u:Tok) (e:v=.ref T) (hy:ys[j]? = Sa y) (hT:UE s'.heap T (.int x t) (.int y u)) (hz:VJ s'.heap z TI TO (Vy T)) (hTO:∃p q,UE s'.heap TO p q) (c:ZC C A env cenv hb aaV TI i1 G D a g ys N j (j+1) s') (lt:aaV.heap.objs.size<=T)
def wD (C:Cfg)(A:Ua)(env cenv:Env)(hb:Heap)(aaV:Sr)(z TI TO i1 G D a g:Ss)(ys:Sd Int)(N j:Nat):SP Sn->Sr->Prop
 | none,s'=>L4 cenv hb aaV D ys j s'
 | some v,s'=>JF C A env cenv hb aaV z TI TO i1 G D a g ys N j v s'
inductive RU (C:Cfg)(A:Ua)(env cenv:Env)(hb:Heap)(aaV:Sr)(TI i1 G D a g:Ss)(ys:Sd Int)(N j:Nat)(v:Sn)(aa6:Sr):Prop
 | mk (y:Int) (u:Tok) (e:v=.int y u) (hy:ys[j]? = Sa y) (c:ZC C A env cenv hb aaV TI i1 G D a g ys N j (j+1) aa6)
theorem jj {gens:Array WT}{g:Nat}{x:WT}(h:UV gens)(hx:x.bare=Se):UV (gens.set! g x):=by
 intro y hy
 rw[XJ] at hy
 rcases Array.mem_or_eq_of_mem_setIfInBounds hy with q | rfl
 ·exact h y q
 ·exact hx
theorem uj (h:j<N)(e:N - j=m+1):N - 1 - m=j:=by lia
theorem Au (h:j+1<N)(e:N - j=m+1):m≠0:=by lia
theorem Rx {δ:Type}{p q:α->β->Prop}{r t u:γ->Prop}{z:γ->δ->Prop}{P:Prop}(h:(∃a b,p a b/\q a b)/\∃c,r c/\(∃d,z c d)/\t c/\u c)(H:∀a b c d,p a b->q a b->r c->z c d->t c->u c->P):P:=
 fB h.1 λa b h1 h2=>fD h.2 λc h3 h4 h5 h6=>bH h4 λd h4=>H a b c d h1 h2 h3 h4 h5 h6
theorem Rv {p q:α->Prop}{r t:β->Prop}{u z:γ->Prop}{P:Prop}(h:(∃a,p a/\q a)/\∃b,r b/\t b)(g:∃c,u c/\z c)(H:∀a b c,p a->q a->r b->t b->u c->z c->P):P:=
 aE h.1 λa h1 h2=>aE h.2 λb h3 h4=>aE g λc h5 h6=>H a b c h1 h2 h3 h4 h5 h6
theorem DL (Ok:C.Ok) {s:Sr} (hh:A.handled=none)(hroom:A.depth<WW)(W:ZW C env cenv hb aaV.heap.objs.size z TI TO i1 G D a g)(ha:∃o,hb.get? a=Sa o)
  (c:ZC C A.in1.in1 env cenv hb aaV TI i1 G D a g ys N j j s) (hz:VJ s.heap z TI TO .none) (hTO:∃p q,UE s.heap TO p q) (hj:j<=N) (hy:j<=ys.length) (hN:ys.length<=N) :
  So C.M A (UK (.ref z)) (wD C A.in1.in1 env cenv hb aaV z TI TO i1 G D a g ys N j) cL s:=by
 refine uK hTO λp0 q0 hTO=>?_
 have live:∀p,(∃o,hb.get? p=Sa o)->∀q∈[z,TI,TO,i1,G,D,env.locals,cenv.locals],p≠q:=λp ⟨o,e⟩ q m z=>by rw[z,W.new q m] at e;cases e
 by_cases hjN:j<N
 ·refine sw (Co:=RU C A.in1.in1 env cenv hb aaV TI i1 G D a g ys N j) (En:=λs'=>wD C A.in1.in1 env cenv hb aaV z TI TO i1 G D a g ys N j none s') W.ap hz c.ti hTO c.rng (Int.sub_pos_of_lt (Int.ofNat_lt.mpr hjN)) (λaaY hk hsz abW hTI3 hTO3 acx=>?_) (λs' q=>q) λv aa6 h' hco a1 a2 a3 a4 a5=>?_
  ·obtain⟨gs,b,hgs,go,hbb⟩:=c.ready hjN
   obtain⟨m,hm⟩:∃m,N - j=m+1:=Xo (Nat.sub_ne_zero_of_lt hjN)
   rw[hm] at go
   have keep3:∀p o,hb.get? p=Sa o->aaY.get? p=Sa o:=λp o e=>hk p o (live p ⟨o,e⟩ z (mI 0 rfl)) (live p ⟨o,e⟩ TO (mI 2 rfl)) (live p ⟨o,e⟩ i1 (mI 3 rfl)) (c.keep p o e)
   have new3:∀p,(p=env.locals\/p=a\/aaV.heap.objs.size<=p)->p≠z/\p≠TO/\p≠i1:=λp hp=>by
    refine hp.elim (λe=>e▸⟨W.lz,W.lTO,W.li⟩) λhp=>hp.elim (λe=>e▸⟨live _ ha z (mI 0 rfl),live _ ha TO (mI 2 rfl),live _ ha i1 (mI 3 rfl)⟩) λq=>?_
    exact⟨Tu (Sx (W.lt z (mI 0 rfl)) q),Tu (Sx (W.lt TO (mI 2 rfl)) q),Tu (Sx (W.lt i1 (mI 3 rfl)) q)⟩
   have pres:∀p∈[env.locals,b,a],∀o,s.heap.get? p=Sa o->aaY.get? p=Sa o:=λp hp o e=>by
    have:=new3 p ((Sv.mp hp).elim .inl λhp=>(Sv.mp hp).elim (λq=>.inr (hbb.elim (λr=>.inl (q.trans r)) λr=>.inr (q▸r))) λhp=>.inr (.inl (Sj.mp hp)))
    exact hk p o this.1 this.2.1 this.2.2 e
   have gen3:aaY.IsGen G g:=by refine iD (c.gen) λo nm qn e r=>?_;exact⟨o,nm,qn,hk _ _ W.Gz W.GTO W.Gi e,r⟩
   have hlt:g<s.gens.size:=(V2.mp hgs).1
   refine vy (s:={ s with heap:=aaY,toks:=s.toks+1 }) (P:=λn aaQ s'=>(∃b,aaV.heap.objs.size<=b/\GK env b aaQ s')/\∃m,n=m+1/\ys[N - 1 - m]? = none) hh (Ok.T.nolimit.keeps λp o e=>keep3 p o (W.base p o e)) hroom gen3 hgs (go _ ⟨λp o e=>keep3 p o (W.base p o e),λb q=>Sk (by show aaV.heap.objs.size<=aaY.objs.size;rw[hsz];exact c.size) q⟩ pres) ?_ ?_
   ·intro v aaQ gs' hbare H
    refine Rx H λy u b' ob e hex hb' hob K kap=>?_
    clear H
    subst e
    have hyj:ys[j]? = Sa y:=by rw[←hex];exact SO (ys[·]?) (uj hjN hm).symm
    have up:∀p,p≠env.locals->p<aaV.heap.objs.size->∀o,aaY.get? p=Sa o->aaQ.heap.get? p=Sa o:=λp hp hz o e=>K.keep p o hp (SJ (Sx hz hb')) e
    have upW:∀p∈[z,TI,TO,i1,G,D,a,env.locals,cenv.locals],p≠env.locals->∀o,aaY.get? p=Sa o->aaQ.heap.get? p=Sa o:=λp hp hl=>up p hl (W.lt p hp)
    refine fB (c.lis) λus mm h1 h2=>?_
    refine bH (c.ns) λmc h3=>?_
    refine iD gen3 λog nm qn eg rg=>?_
    have hgens:aaQ.gens=s.gens.set! g .running:=K.gens
    refine⟨⟨y,u,rfl,hyj,⟨λp o e=>up p (live p ⟨o,e⟩ env.locals (mI 6 rfl)) (W.old p o e) o (keep3 p o e),Sk hb' (TJ (Heap.lt_size hob)),K.os.trans c.os,λq=>?_,upW TI (mI 1 rfl) (Ne.symm W.lTI) _ hTI3,?_,⟨og,nm,qn,upW G (mI 4 rfl) (Ne.symm W.lG) _ eg,rg⟩,⟨mc,?_⟩,⟨us,mm,?_,h2⟩,λq=>⟨gs',b',?_,λs'' N' k=>?_,.inr hb'⟩⟩⟩,upW z (mI 0 rfl) (Ne.symm W.lz) _ abW,_,upW TO (mI 2 rfl) (Ne.symm W.lTO) _ hTO3⟩
    ·show UV (aaQ.gens.set! g gs')
     rw[hgens]
     exact jj (jj (c.gens q) rfl) hbare
    ·have:=upW i1 (mI 3 rfl) (Ne.symm W.li) _ acx
     show Ug aaQ.heap i1 ((j+1:Nat):Int) ((N:Int) - ((j+1:Nat):Int)) 1
     have e1:((j+1:Nat):Int)=(j:Int)+1:=rfl
     have e2:(N:Int) - ((j:Int)+1)=(N:Int) - j - 1:=(Int.sub_sub ..).symm
     rw[e1,e2]
     exact this
    ·refine h3.at' λo e=>?_
     exact upW _ (mI 8 rfl) (Ne.symm W.lc) o (hk _ o W.cz W.cTO W.ci e)
    ·exact upW D (mI 5 rfl) (Ne.symm W.lD) _ (hk _ _ W.Dz W.DTO W.Di h1)
    ·show(aaQ.gens.set! g gs')[g]? = Sa gs'
     rw[hgens]
     simp[XJ,hlt]
    ·have hm0:m≠0:=Au q hm
     have:=kap hm0 s'' N' k
     have e:N - (j+1)=m:=(YS ..).trans (SO aaK hm)
     rw[e]
     exact this
   ·intro aaQ H h' e hk' H2
    refine Rv H H2 λb' m' oe hb' K hm' hex hoe hce=>?_
    clear H H2
    cases hm'
    have up:∀p,p≠env.locals->p<aaV.heap.objs.size->∀o,aaY.get? p=Sa o->h'.get? p=Sa o:=λp hp hz o e=>hk' _ _ (K.keep p o hp (SJ (Sx hz hb')) e)
    have upW:∀p∈[z,TI,TO,i1,G,D,a,env.locals,cenv.locals],p≠env.locals->∀o,aaY.get? p=Sa o->h'.get? p=Sa o:=λp hp hl=>up p hl (W.lt p hp)
    refine fB (c.lis) λus mm h1 h2=>?_
    refine bH (c.ns) λmc h3=>?_
    have hgens:aaQ.gens=s.gens.set! g .running:=K.gens
    have hlen:ys.length=j:=by
     have:=Wa.mp hex
     rw[uj hjN hm] at this
     exact UN this hy
    refine⟨⟨e,oe,rfl,hoe,hce⟩,upW z (mI 0 rfl) (Ne.symm W.lz) _ abW,λh'' hs=>⟨hlen,λp o e=>?_,K.os.trans c.os,λq=>?_,⟨mc,h3.at' λo e=>?_⟩,us,mm,?_,?_⟩⟩
    ·exact hs.extBut _ _ (live p ⟨o,e⟩ z (mI 0 rfl)) (up p (live p ⟨o,e⟩ env.locals (mI 6 rfl)) (W.old p o e) o (keep3 p o e))
    ·show UV (aaQ.gens.set! g .finished)
     rw[hgens]
     exact jj (jj (c.gens q) rfl) rfl
    ·exact hs.extBut _ _ W.cz (upW _ (mI 8 rfl) (Ne.symm W.lc) o (hk _ o W.cz W.cTO W.ci e))
    ·exact hs.extBut _ _ W.Dz (upW D (mI 5 rfl) (Ne.symm W.lD) _ (hk _ _ W.Dz W.DTO W.Di h1))
    ·rw[UL (T7 hlen)] at h2
     exact h2
  ·obtain⟨y,u,rfl,hyj,ab5⟩:=hco
   refine⟨_,j,_,y,u,rfl,hyj,a3,a1,⟨_,_,a2⟩,ab5.mv W ha a5 (by show aa6.heap.objs.size<=h'.objs.size;lia) rfl rfl,ab5.size⟩
 ·have:j=N:=UN hj (Uk.mp hjN)
  subst this
  refine kY hh W.ap hz c.ti hTO c.rng (Int.le_of_eq (Int.sub_self _)) λh' hk=>?_
  refine fB (c.lis) λus m h1 h2=>?_
  refine bH (c.ns) λmm h3=>?_
  refine⟨UN hN hy,λp o e=>hk p o (live p ⟨o,e⟩ z (mI 0 rfl)) (live p ⟨o,e⟩ i1 (mI 3 rfl)) (c.keep p o e),c.os,c.gens,⟨mm,h3.at' λo e=>hk _ o W.cz W.ci e⟩,us,m,hk _ _ W.Dz W.Di h1,?_⟩
  rw[UL hN] at h2
  exact h2
end
section
variable {C:Cfg}{A:Around}{E:Value->Shared->Prop}{s:Shared}
theorem ZC.mvG {s:Sr} {j' jr:Nat}(W:ZW C env cenv hb aaV.heap.objs.size z TI TO i1 G D a g)(ha:∃o,hb.get? a=Sa o)(c:ZC C A env cenv hb aaV TI i1 G D a g ys N j jr s)
  (hk:∀p o,p≠z->p≠TO->p≠cenv.locals->p≠D->s.heap.get? p=Sa o->s'.heap.get? p=Sa o) (hsz:aaV.heap.objs.size<=s'.heap.objs.size) (hg:s'.gens=s.gens) (ho:s'.os=s.os) (hn:∃m,s'.heap.Ns cenv.locals m) (hl:∃us m,s'.heap.get? D=Sa (cB us m)/\UG us (ys.take j')):ZC C A env cenv hb aaV TI i1 G D a g ys N j' jr s':=by
 have live:∀p,(∃o,hb.get? p=Sa o)->∀q∈[z,TI,TO,i1,G,D,env.locals,cenv.locals],p≠q:=λp ⟨o,e⟩ q m z=>by rw[z,W.new q m] at e;exact iq e
 have hk':∀p o,(p≠z/\p≠TO/\p≠cenv.locals/\p≠D)->s.heap.get? p=Sa o->s'.heap.get? p=Sa o:=λp o q=>hk p o q.1 q.2.1 q.2.2.1 q.2.2.2
 refine⟨λp o e=>hk' p o ⟨live p ⟨o,e⟩ z (mI 0 rfl),live p ⟨o,e⟩ TO (mI 2 rfl),live p ⟨o,e⟩ cenv.locals (mI 7 rfl),live p ⟨o,e⟩ D (mI 5 rfl)⟩ (c.keep p o e),hsz,ho.trans c.os,λq=>by rw[hg];exact c.gens q,hk' _ _ ⟨W.ap.TIz,W.ap.TITO,Ne.symm W.cTI,Ne.symm W.DTI⟩ c.ti,hk' _ _ ⟨W.ap.i1z,Ne.symm W.ap.TOi1,Ne.symm W.ci,Ne.symm W.Di⟩ c.rng,?_,hn,hl,λq=>(c.ready q).mv hg λp hp o e=>hk' p o ?_ e⟩
 ·refine iD (c.gen) λo nm qn e r=>?_
  exact⟨o,nm,qn,hk' _ _ ⟨W.Gz,W.GTO,Ne.symm W.cG,Ne.symm W.DG⟩ e,r⟩
 ·rcases hp with rfl | rfl | q
  ·exact⟨W.lz,W.lTO,W.lc,W.lD⟩
  ·exact⟨live _ ha z (mI 0 rfl),live _ ha TO (mI 2 rfl),live _ ha cenv.locals (mI 7 rfl),live _ ha D (mI 5 rfl)⟩
  ·have:=λx hx=>Tu (Sx (W.lt x hx) q)
   exact⟨this z (mI 0 rfl),this TO (mI 2 rfl),this cenv.locals (mI 8 rfl),this D (mI 5 rfl)⟩
theorem zw (Ok:C.Ok){le:Env} {iter:Expr} (hh:A.handled=none)(hroom:A.depth<WW)(W:ZW C env cenv hb aaV.heap.objs.size z TI TO i1 G D a g)(ha:∃o,hb.get? a=Sa o)
  (hle:le.locals=cenv.locals) (hkind:le.scope.kind=.function) (hk1:le.kindOf ("k":Str)=Sa .local) (hk2:le.kindOf ("size":Str)=Sa .local) (hN:ys.length<=N) (hN2:N<=5000)
  (hR:∀s',wD C A.in1.in1 env cenv hb aaV z TI TO i1 G D a g ys N ys.length none s'->R₀ (.ok .next) s')
  (c:ZC C A.in1.in1 env cenv hb aaV TI i1 G D a g ys N 0 0 aaV) (hz:VJ aaV.heap z TI TO .none) (hTO:∃p q,UE aaV.heap TO p q) :
  U0 C.M A (.compLoop (.ListComp (.Name "size" e1) [⟨.Tuple [.Name "k" t1,.Name "size" t2] kt tp,iter,[],0⟩] sc pos) 0 (.ref z) (.ref D) le) R₀ aaV:=by
 refine qz (λn s=>∃j,n=N+1 - j/\j<=N/\j<=ys.length/\ZC C A.in1.in1 env cenv hb aaV TI i1 G D a g ys N j j s/\VJ s.heap z TI TO .none/\∃p q,UE s.heap TO p q) ?_ (N+1) ⟨0,rfl,Td _,Td _,c,hz,hTO⟩
 intro n s H
 refine OF H λj e hj hjy c hz hTO=>?_
 clear H
 subst e
 refine Sm (DL Ok hh hroom W ha c hz hTO hj hjy hN) ?_ λ_ _ e=>e
 intro r aaQ q
 induction r with
 | none=>
  refine hR aaQ ?_
  exact Eq.ndrec (motive:=λi=>wD C A.in1.in1 env cenv hb aaV z TI TO i1 G D a g ys N i none aaQ) q (q.1:ys.length=j).symm
 | some v=>
  obtain⟨T,x,t,y,u,rfl,hyj,hT,abz,hTO1,abd,hTZ⟩:=q
  refine uK hTO1 λp0 q0 hTO1=>?_
  have Tne:∀x∈[z,TI,TO,i1,G,D,a,env.locals,cenv.locals],T≠x:=λx hx=>Tu (Sx (W.lt x hx) hTZ)
  refine wpAny_letOwnedTupleGo_zip abz λaa2 abU abh=>?_
  have hT2:UE aa2 T (.int x t) (.int y u):=abh.extBut _ _ (Tne z (mI 0 rfl)) hT
  refine wpAny_assign_Tuple hh (t:=T) (items:=#[.int x t,.int y u]) ⟨_,hT2,rfl,_,rfl⟩ rfl rfl λaaY he3=>?_
  have abY:∀p o,aa2.get? p=Sa o->aaY.get? p=Sa o:=λp o e=>he3 p o (SJ (Heap.lt_size e)) e
  refine bH (abd.ns) λack hn0=>?_
  have hn3:aaY.Ns le.locals ack:=by rw[hle];exact hn0.at' λo e=>abY _ _ (abh.extBut _ _ W.cz e)
  refine VA (Yg (Up hk1 hn3 (λaa8 hn4 hs4=>?_) (by rw[hkind];rfl)))
  refine VA (Yg (Up hk2 hn4 (λaba hn5 hs5=>?_) (by rw[hkind];rfl)))
  refine Yd ?_
  refine wpAny_tests_nil ?_
  rw[SR rfl]
  refine oX (VW (T4 hkind hk2 hn5 (v:=.int y u) rfl ?_) (by decide))
  have up5:∀p o,p≠z->p≠cenv.locals->aaQ.heap.get? p=Sa o->aba.get? p=Sa o:=λp o n w e=>hs5.extBut _ _ (by rw[hle];exact w) (hs4.extBut _ _ (by rw[hle];exact w) (abY p o (abh.extBut _ _ n e)))
  refine fB (abd.lis) λus mm hD hI=>?_
  have hD5:=up5 _ _ W.Dz W.Dc hD
  have hjl:j<ys.length:=(Sy.mp hyj).1
  have hul:us.length=j:=by rw[hI.length,Yx];exact Xp hjy
  refine oX (ni hD5 rfl rfl (by rw[Su,hul];exact Sk hj (Sk hN2 (bo rfl))) (Sf ?_))
  refine bH (fq (·.push (ZA y u)) us mm) λm' hm=>?_
  have kp:∀p o,p≠D->aba.get? p=Sa o->(aba.update D (S5 (·.push (ZA y u)))).get? p=Sa o:=λp o n e=>by
   rw[Heap.get?_update_other _ _ (Ne.symm n)];exact e
  have acr:(aba.update D (S5 (·.push (ZA y u)))).get? D=Sa (cB (us++[.int y u]) m'):=by
   rw[Heap.get?_update_self _ hD5 (by rw[hm];rfl),hm]
   congr 2
   simp
  have hz5:VJ aba z TI TO .none:=hs5.extBut _ _ (by rw[hle];exact Ne.symm W.cz) (hs4.extBut _ _ (by rw[hle];exact Ne.symm W.cz) (abY _ _ abU))
  refine⟨N+1 - (j+1),Nat.sub_succ_lt_self _ _ (Uh hj),j+1,rfl,Sk hjl hN,hjl,abd.mvG W ha (λp o a1 a2 a3 a4 e=>kp p o a4 (up5 p o a1 a3 e)) ?_ rfl rfl ?_ ⟨us++[.int y u],m',acr,?_⟩,kp _ _ (Ne.symm W.Dz) hz5,_,_,kp _ _ (Ne.symm W.DTO) (up5 _ _ W.ap.TOz (Ne.symm W.cTO) hTO1)⟩
  ·have:=Heap.lt_size (kp T _ (λq=>by rw[q] at hTZ;exact S8 (W.lt D (mI 5 rfl)) (Uk.mpr hTZ)) (up5 T _ (Tne z (mI 0 rfl)) (Tne cenv.locals (mI 8 rfl)) hT))
   exact Sk hTZ (TJ this)
  ·refine⟨_,Eq.mp (by rw[hle]) (hn5.at' (h':=aba.update D (S5 (·.push (ZA y u)))) λo e=>kp _ o (by rw[hle];exact Ne.symm W.Dc) e)⟩
  ·rw[WQ,hyj]
   exact hI.append (.cons y u .nil)
end
theorem rK (B i j:Nat)(h:SD i j=ll):@Ne Ss (B+i) (B+j):=λe=>by
 have e:i=j:=Nat.add_left_cancel e
 subst e
 rw[Vv] at h
 exact ff h.symm
theorem RQ (B i j:Nat)(h:Nat.blt i j=Se):@LT.lt Nat _ (B+i) (B+j):=Nat.add_lt_add_left (Sl h) B
theorem ZW.make {Z B:Nat} (hB:hb.objs.size=B)(eL:env.locals=B)(eG:G=B+1)(ei:i1=B+2)(eTI:TI=B+3)(eTO:TO=B+4)(ez:z=B+5)(eD:D=B+6)(ec:cenv.locals=B+7)(eZ:Z=B+8)(ha:a<B)
  (base:∀p o,C.aa3.get? p=Sa o->hb.get? p=Sa o):ZW C env cenv hb Z z TI TO i1 G D a g:=by
 subst eG ei eTI eTO ez eD eZ
 have d:∀i,hb.get? (B+i)=none:=λi=>bD (hB▸S9 _ _)
 have L:=λj h=>(eL▸rK B 0 j h:@Ne Ss env.locals (B+j))
 have c:=λj h=>(ec▸rK B 7 j h:@Ne Ss cenv.locals (B+j))
 have lt:=λi h=>RQ B i 8 h
 have al:a<B+8:=Sx ha (S9 _ _)
 exact { ap:=⟨rK B 3 5 rfl,rK B 4 5 rfl,rK B 2 5 rfl,rK B 3 4 rfl,rK B 3 2 rfl,rK B 4 2 rfl⟩,base:=base,old:=λp o e=>Sx (Heap.lt_size e) (hB▸S9 _ _),lt:=S7.2 ⟨lt 5 rfl,S7.2 ⟨lt 3 rfl,S7.2 ⟨lt 4 rfl,S7.2 ⟨lt 2 rfl,S7.2 ⟨lt 1 rfl,S7.2 ⟨lt 6 rfl,S7.2 ⟨al,S7.2 ⟨eL▸lt 0 rfl,S7.2 ⟨ec▸lt 7 rfl,λ_ h=>nomatch h⟩⟩⟩⟩⟩⟩⟩⟩⟩,new:=S7.2 ⟨d 5,S7.2 ⟨d 3,S7.2 ⟨d 4,S7.2 ⟨d 2,S7.2 ⟨d 1,S7.2 ⟨d 6,S7.2 ⟨eL▸d 0,S7.2 ⟨ec▸d 7,λ_ h=>nomatch h⟩⟩⟩⟩⟩⟩⟩⟩,lz:=L 5 rfl,lTI:=L 3 rfl,lTO:=L 4 rfl,li:=L 2 rfl,lG:=L 1 rfl,lD:=L 6 rfl,lc:=ec▸L 7 rfl,Dz:=rK B 6 5 rfl,DTI:=rK B 6 3 rfl,DTO:=rK B 6 4 rfl,Di:=rK B 6 2 rfl,DG:=rK B 6 1 rfl,Dc:=ec▸rK B 6 7 rfl,cz:=c 5 rfl,cTI:=c 3 rfl,cTO:=c 4 rfl,ci:=c 2 rfl,cG:=c 1 rfl,Gz:=rK B 1 5 rfl,GTO:=rK B 1 4 rfl,Gi:=rK B 1 2 rfl }
structure qY (C:Cfg)(fa:Ss)(fd:XR)(body:Sd Stmt):Prop where
 obj:∃o,C.K.lookup fa=Sa o/\o.data=.func fd
 code:codeIn C.K fd.code fd.qualname=Se
 body:fd.body=.stmts body
 glob:fd.globals=SY
 co:fd.scope.isCoroutine=ll
 gen:fd.scope.isGenerator=Se
 kind:fd.scope.kind=.function
 cell:∀x∈fd.scope.names,(x.2 == NameKind.cell)=ll
 kg:fd.scope.names.lookup ("grouping":Str)=Sa .local
 kl:fd.scope.names.lookup ("last_interval":Str)=Sa .local
 ki:fd.scope.names.lookup ("interval":Str)=Sa .local
 kc:fd.scope.names.lookup ("CHAR_MAX":Str)=Sa .globalImplicit
 binds:∀(u:Sn) (s:Sr),Ub s fd ⟨[u],[]⟩ [("grouping",u)]
section
variable {C:Cfg}{A:Around}{E:Value->Shared->Prop}{s:Shared}
theorem Ae (Ok:C.Ok) {body:Sd Stmt}(Fn:qY C fa fd body)(X:C.K.In s.heap)(hlim:s.heap.NoLimit)(hroom:A.depth<WW) 
  (h:∀env h' tk G,qu env->env.locals=s.heap.objs.size->G=s.heap.objs.size+1->h'.objs.size=s.heap.objs.size+2->(∀p o,s.heap.get? p=Sa o->h'.get? p=Sa o)->(∃m,h'.Ns env.locals m/\m "grouping"=Sa u)->h'.IsGen G s.gens.size ->
   Q (.ref G) { s with heap:=h',gens:=s.gens.push (.fresh (.func body env)),toks:=tk }):So C.M A (call (.ref fa) [u]) Q E s:=by
 refine aE (Fn.obj) λo ho hd=>?_
 refine UI (codeAny_call_generator hroom (X _ _ ho) hd Fn.co Fn.gen Fn.body (Z1 X Fn.code) ?_)
 refine Fn.binds u s _ _ _ _ ?_
 refine jC Fn.cell ?_
 generalize he:VB fd.scope s.heap.objs.size fd.globals fd.closure (fd.qualname ++ ".<locals>.") (Sa fa) fd.code none fd.builtins=env
 have es:env.scope=fd.scope:=by rw[←he];rfl
 have el:env.locals=s.heap.objs.size:=by rw[←he];rfl
 have eg:env.globals=SY:=by rw[←he];exact Fn.glob
 have ek:∀x k,fd.scope.names.lookup x=Sa k->env.kindOf x=Sa k:=λx k q=>by unfold YM;rw[es];exact q
 have GE:qu env:=⟨by rw[es];exact Fn.kind,by rw[es];exact Fn.co,eg,ek _ _ Fn.kg,ek _ _ Fn.kl,ek _ _ Fn.ki,ek _ _ Fn.kc⟩
 have abK:(s.heap.push { cls:=.type (if (none:SP Env).isSome then "dict" else "frame"),data:=.dict #[] }).Ns env.locals λ_=>none:=by rw[el];exact Heap.Ns.new s.heap _
 refine oX (oX (Up GE.kg abK (λaaS abJ abc=>Sf (Sf ?_)) (by rw[GE.kind];rfl)))
 have sz:aaS.objs.size=s.heap.objs.size+1:=by rw[abc.1,Heap.size_push]
 have acd:∀p o,s.heap.get? p=Sa o->aaS.get? p=Sa o:=λp o e=>abc.extBut _ _ (by rw[el];exact SJ (Heap.lt_size e)) (Heap.get?_push_of_some _ e)
 refine⟨hlim.keeps acd,?_⟩
 exact h env _ _ aaS.objs.size GE el sz (by rw[Heap.size_push,sz]) (λp o e=>Heap.get?_push_of_some _ (acd p o e)) ⟨_,abJ.push _,rfl⟩ ⟨_,_,_,Heap.get?_push_size _ rfl,rfl,rfl,rfl⟩
theorem AK (Ok:C.Ok) {body:Sd Stmt}(Fn:qY C fa fd body) (hn:SE C fx d en cn)(hg:SE C fx d eg cg)(hok:fx.ok=Se)(x1:("zip":Str)∈fx.gn)(x2:("range":Str)∈fx.gn)(x3:fname∈fx.gn)
  (g1:GB C "zip" (.type "zip")) (g2:GB C "range" (.type "range")) (g3:GB C fname (.ref fa)) (k3:Keeps C (.ref fa)) (p1:aL [en]) (p2:aL [eg]) (p3:aL [.Call (.Name "range" z1) [en] [] z2,.Call (.Name fname z3) [eg] [] z4]) (p4:∀env,TY [.Call (.Name fname z3) [eg] [] z4] env=(ll,eval (.Call (.Name fname z3) [eg] [] z4) env)::TY [] env)
  (R:Rm d A) (En:bb fx env) (I:Inv C σ st s) (F:FrR C fx env fm σ s) {k:Int->Nat->St->Si} (h:cn fm st (λx st=>aG x λx=>aD (aB (cT x)) (aD (small x) (cg fm st λy st=>bB y λm=>k x m st) ll) ll)=Se)
  (hQ:∀(x:Int) (n:Nat) (a:Ss) σ' st' sb genv h' tk z TI TO i1 G,aB (cT x)=Se->Step [] σ s σ' sb->Inv C σ' st' sb->σ'[n]? = Sa a->k x n st'=Se->qu genv ->
   genv.locals=sb.heap.objs.size->G=sb.heap.objs.size+1->i1=sb.heap.objs.size+2->TI=sb.heap.objs.size+3->TO=sb.heap.objs.size+4->z=sb.heap.objs.size+5->h'.objs.size=sb.heap.objs.size+6 ->
   (∀p o,sb.heap.get? p=Sa o->h'.get? p=Sa o)->(∃m,h'.Ns genv.locals m/\m "grouping"=Sa (.ref a))->h'.IsGen G sb.gens.size->VJ h' z TI TO .none->UE h' TI (.ref i1) (.ref G)->UE h' TO .none .none->Ug h' i1 0 (cT x) 1 ->
   Q (.ref z) { sb with heap:=h',gens:=sb.gens.push (.fresh (.func body genv)),toks:=tk }) :
  So C.M A (eval (.Call (.Name "zip" z0) [.Call (.Name "range" z1) [en] [] z2,.Call (.Name fname z3) [eg] [] z4] [] z5) env) Q cL s:=by
 refine Tw (bS Ok hok x1 g1 En I ?_)
 refine Ye (P:=C.K.In) (by show(_ || false)=ll;rw[p3.1];rfl) bK ?_
 have q':So C.M A (spliced (W4 z5 (TY [.Call (.Name "range" z1) [en] [] z2,.Call (.Name fname z3) [eg] [] z4] env))) (λus s'=>C.K.In s'.heap/\So C.M A (call (.type "zip") ([]++us)) Q cL s') cL s:=by
  refine fB (p3.2.resolve_left (λq=>nomatch q)) λe0 rest e1 he=>?_
  cases e1
  refine U6 ?_ (he env)
  refine Tw (bS Ok hok x2 g2 En I ?_)
  refine bL (cs:=ae cn av) (k:=λvs st=>nv vs λx=>aG x λx=>aD (aB (cT x)) (aD (small x) (cg fm st λy st=>bB y λm=>k x m st) ll) ll) Ok bK p1 (cO hn ag (λenv=>by obtain⟨e0,rest,e1,he⟩:=p1.2.resolve_left (λq=>nomatch q);cases e1;exact he env)) R En I F h λσ1 l st1 us aaQ aaU aaW aaZ hle aaS=>?_
  clear hle
  refine d9 aaS λv e81 h2=>?_;clear aaS;subst e81
  refine aO h2 λx e81 h3=>?_;clear h2;subst e81
  refine aM h3 λhlen h4=>?_;clear h3
  refine aM h4 λhsm h5=>?_;clear h4
  refine VRs.cons_e aaZ λu0 _ ra rr=>VRs.nil_e rr (VR.int_e ra λtk0=>?_)
  clear aaZ ra rr
  refine Z7 ?_
  have aa4:Inv C σ1 st1 { aaQ with heap:=aaQ.heap.push { cls:=.type "range",data:=.fields #[.int 0 aaQ.toks,.int x tk0,.int 1 (aaQ.toks+1)] },toks:=aaQ.toks+1+1 }:=aaW.pushed
  have aa1:Step [] σ s σ1 { aaQ with heap:=aaQ.heap.push { cls:=.type "range",data:=.fields #[.int 0 aaQ.toks,.int x tk0,.int 1 (aaQ.toks+1)] },toks:=aaQ.toks+1+1 }:=aaU.trans Step.pushed
  have hr:WL (aaQ.heap.push { cls:=.type "range",data:=.fields #[.int 0 aaQ.toks,.int x tk0,.int 1 (aaQ.toks+1)] }) aaQ.heap.objs.size 0 x 1 aaQ.toks tk0 (aaQ.toks+1):=Heap.get?_push_size _ rfl
  have nr:aaQ.heap.objs.size∉σ1:=λm=>Tj _ (aaW.size m)
  refine U6 ?_ (p4 env)
  refine Tw (bS Ok hok x3 g3 En aa4 ?_)
  refine bL (cs:=ae cg av) (k:=λvs st=>nv vs λy=>bB y λm=>k x m st) Ok k3 p2 (cO hg ag (λenv=>by obtain⟨e0,rest,e1,he⟩:=p2.2.resolve_left (λq=>nomatch q);cases e1;exact he env)) R En aa4 (aa1.fr0 F) h5 λabg l abj us aa0 aa9 aa7 abe hle aaY=>?_
  clear hle
  refine d9 aaY λv e81 h6=>?_;clear aaY;subst e81
  refine bO h6 λn e81 h7=>?_;clear h6;subst e81
  refine VRs.cons_e abe λu1 _ ra rr=>VRs.nil_e rr (VR.ref_e ra λa han=>?_)
  clear abe ra rr
  refine Ae Ok Fn (aa7.X Ok) (Ok.T.nolimit.keeps aa7.base) R.top λgenv h' tk G GE hl hG hsz hk hns hgen=>?_
  refine Yr ?_
  have hr':WL h' aaQ.heap.objs.size 0 x 1 aaQ.toks tk0 (aaQ.toks+1):=hk _ _ (aa9.keep _ _ nr (λq=>nomatch q) hr)
  refine⟨λp o e=>hk p o (aa7.X Ok p o e),?_⟩
  refine xL (s:={ aa0 with heap:=h',gens:=aa0.gens.push (.fresh (.func body genv)),toks:=tk }) hr' (jk rfl hsm) hgen λh'' a1 a2 a3 a4 a5 a6=>?_
  have hsz':h'.objs.size=aa0.heap.objs.size+2:=hsz
  have e:To 0 x 1=(cT x:Int):=by rw[lm,ey,Int.sub_zero]
  rw[e] at a4
  refine aE hns λm hn hm=>?_
  refine hQ x n a abg abj aa0 genv h'' tk _ _ _ _ G hlen (aa1.trans aa9) aa7 han h7 GE hl hG hsz' (SO (·+1) hsz') (SO (·+2) hsz') (SO (·+3) hsz') (a5.trans (SO (·+4) hsz')) (λp o e=>a6 p o (hk p o e)) ⟨m,hn.at' λo e=>a6 _ _ e,hm⟩ (hgen.keeps a6) a1 a2 a3 a4
 refine fB (p3.2.resolve_left (λq=>nomatch q)) λe0 rest e1 he=>?_
 cases e1
 rw[he] at q' ⊢
 exact WK q'
theorem fj:∀{us:Sd Sn}{ys:Sd Int},UG us ys->VRs σ h (ys.map V.int) us
 | [],_,q=>by cases q;exact .nil
 | _::_,_,q=>by cases q with | cons n t q=>exact .cons (.int _ _) (fj q)
noncomputable def Ip (k:KV)(x:Int)(m:Nat)(st:St):Si:=bg st m λl=>iZq l λxs=>wq (cT x) none xs λys=>st.push (.list (fE .int ys)) λn st=>k (.ref n) st
theorem t0:∀{n:Nat}{last:SP Int}{l:Sd Int},(jV n last l).length<=n
 | 0,_,_=>SQ _
 | _+1,_,[]=>Td _
 | n+1,last,i::r=>by
  unfold jV
  split
  ·exact Td _
  ·split
   ·rw[TN];exact SQ _
   ·rw[Tc];exact TQ t0
variable {p q r p1 p2 p3 p4 p5 p6 p7 p8 p9 q1 q2 q3 q4 q5 q6 q7 q8 q9 r1 r2 r3 r4 r5 r6 r7 r8 r9:Pos}{j1 j2 j3 j4:Nat}{rs:List Stmt}
theorem qW (Ok:C.Ok) {body:Sd Stmt}(Fn:qY C fa fd body) (gc:aaI C.K SY "CHAR_MAX"=Sa (Sa (.int 127 tc)))
  (hB:B=[.If (.Compare (.Name "interval" p2) [.Eq] [.Name "CHAR_MAX" p3] p4) [.Return none p5] [] p6,.If (.Compare (.Name "interval" p7) [.Eq] [.Constant (.int 0) j1 p8] p9) [.If (.Compare (.Name "last_interval" q1) [.Is] [.Constant .none j2 q2] q3) rs [] q4,.While (.Constant (.bool Se) j3 q5) [.Expr (.Yield (Sa (.Name "last_interval" q6)) q7) q8] [] q9] [] r1,.Expr (.Yield (Sa (.Name "interval" r2)) r3) r4,.Assign [.Name "last_interval" r5] (.Name "interval" r6) r7])
  (hbody:body=[.Assign [.Name "last_interval" r8] (.Constant .none j4 r9) p,.For (.Name "interval" p1) (.Name "grouping" q) B [] r])
 (hn:SE C fx d en cn) (hg:SE C fx d eg cg) (hok:fx.ok=Se) (x1:("zip":Str)∈fx.gn) (x2:("range":Str)∈fx.gn) (x3:fname∈fx.gn)
  (g1:GB C "zip" (.type "zip")) (g2:GB C "range" (.type "range")) (g3:GB C fname (.ref fa)) (k3:Keeps C (.ref fa)) (a1:aL [en]) (a2:aL [eg]) (a3:aL [.Call (.Name "range" z1) [en] [] z2,.Call (.Name fname z3) [eg] [] z4]) (a4:∀env,TY [.Call (.Name fname z3) [eg] [] z4] env=(ll,eval (.Call (.Name fname z3) [eg] [] z4) env)::TY [] env)
  (hsc:dT sc=Se) (hfree:∀x∈sc.names,x.2≠.free) (hcell:∀x∈sc.names,(x.2 == NameKind.cell)=ll) (sk:("k":Str)∈(aR sc).ln) (ss:("size":Str)∈(aR sc).ln)
 {s:Sr} {k:KV} {use:SP (Sn->Sem Unit)} (R:Rm d A) (E:bb fx env) (I:Inv C σ st s) (F:FrR C fx env fm σ s)
  (h:cn fm st (λx st=>aG x λx=>aD (aB (cT x)) (aD (small x) (cg fm st λy st=>bB y λm=>Ip k x m st) ll) ll)=Se)
  (hend:∀(L D:Ss) (σb:Sd Ss) (st':St) (sb s':Sr) (ys:Sd Int) (us:Sd Sn) (m:Nat),Step [] σ s σb sb->Inv C σb st' sb->sb.heap.objs.size<=L->sb.heap.objs.size<=D->L≠D->(∀p o,sb.heap.get? p=Sa o->s'.heap.get? p=Sa o)->s'.os=sb.os->(UV sb.gens->UV s'.gens)->(∃mm,s'.heap.Ns L mm) ->
   s'.heap.get? D=Sa (cB us m)->UG us ys->st'.push (.list (fE .int ys)) (λn st=>k (.ref n) st)=Se->Zl C.M A cL use Q (.ref D) L (.ok .next) s') :
  So C.M A (comprehension (.ListComp (.Name "size" e1) [⟨.Tuple [.Name "k" t1,.Name "size" t2] kt tp,.Call (.Name "zip" z0) [.Call (.Name "range" z1) [en] [] z2,.Call (.Name fname z3) [eg] [] z4] [] z5,[],0⟩] sc pos) sc env p0 (Zz []) ll (eval (.Call (.Name "zip" z0) [.Call (.Name "range" z1) [en] [] z2,.Call (.Name fname z3) [eg] [] z4] [] z5) env) use) Q cL s:=by
 have hk:sc.kind=.function:=by
  simp only[dT,S6] at hsc;simpa using hsc.1.1
 have nd:(sc.names.map (·.1)).Nodup:=by
  simp only[dT,S6,decide_eq_true_eq] at hsc;exact hsc.1.2
 refine Yk (use:=use) rfl (λ_=>rfl) (closureFor_none hfree) hk (λx m e=>cF nd (by rw[←e];exact m)) ?_
 refine AK (k:=λx m st=>Ip k x m st) Ok Fn hn hg hok x1 x2 x3 g1 g2 g3 k3 a1 a2 a3 a4 R E I F h λx n a σb st' sb genv h' tk z TI TO i1 G hlen Sb Ib han hK GE eL eG ei eTI eTO ez hsz keep hns hgen hz hTI hTO hr=>?_
 refine bC hK λl hl h1=>?_;clear hK
 refine j7 h1 λxs e81 h2=>?_;clear h1;subst e81
 obtain⟨hokk,h3⟩:=E6 h2
 obtain⟨vs,mv,ga,rv⟩:=Ib.list hl han
 have hI:UG vs xs:=eF rv
 have hlen:=bT hlen
 refine wpAny_pyIter_zip hz ?_
 refine TF ?_
 rw[E.glob]
 refine jC hcell ?_
 refine Sf ?_
 have D6:h'.objs.size=sb.heap.objs.size+6:=hsz
 have szD:(h'.push { cls:=.type "list",data:=.seq #[] }).objs.size=sb.heap.objs.size+7:=by rw[Heap.size_push,D6]
 generalize hce:VB sc (h'.push { cls:=.type "list",data:=.seq #[] }).objs.size SY [] env.qual none .none (Sa env) T6=cenv
 have ecl:cenv.locals=sb.heap.objs.size+7:=by rw[←hce,←szD];rfl
 have esc:cenv.scope=sc:=by rw[←hce];rfl
 have ecg:cenv.globals=SY:=by rw[←hce];rfl
 have ecb:cenv.builtins=T6:=by rw[←hce];exact E.blt
 have abZ:bb (aR sc) cenv:=sU hsc esc ecg ecb
 have EB:bb (aR sc) { cenv with scope:=relabel sc env }:=kL hsc abZ esc
 have keep2:∀p o,sb.heap.get? p=Sa o->((h'.push { cls:=.type "list",data:=.seq #[] }).push { cls:=.type "dict",data:=.dict #[] }).get? p=Sa o:=λp o e=>Heap.get?_push_of_some _ (Heap.get?_push_of_some _ (keep p o e))
 have up2:∀p o,h'.get? p=Sa o->((h'.push { cls:=.type "list",data:=.seq #[] }).push { cls:=.type "dict",data:=.dict #[] }).get? p=Sa o:=λp o e=>Heap.get?_push_of_some _ (Heap.get?_push_of_some _ e)
 have gD:((h'.push { cls:=.type "list",data:=.seq #[] }).push { cls:=.type "dict",data:=.dict #[] }).get? h'.objs.size=Sa (cB [] 0):=Heap.get?_push_of_some _ (Heap.get?_push_size _ rfl)
 have hns2:((h'.push { cls:=.type "list",data:=.seq #[] }).push { cls:=.type "dict",data:=.dict #[] }).Ns cenv.locals λ_=>none:=by rw[ecl,←szD];exact Heap.Ns.new _ _
 have Z8:((h'.push { cls:=.type "list",data:=.seq #[] }).push { cls:=.type "dict",data:=.dict #[] }).objs.size=sb.heap.objs.size+8:=by rw[Heap.size_push,szD]
 have alt:a<sb.heap.objs.size:=Heap.lt_size ga
 have loop:U0 C.M A (.compLoop (.ListComp (.Name "size" e1) [⟨.Tuple [.Name "k" t1,.Name "size" t2] kt tp,.Call (.Name "zip" z0) [.Call (.Name "range" z1) [en] [] z2,.Call (.Name fname z3) [eg] [] z4] [] z5,[],0⟩] sc pos) 0 (.ref z) (.ref h'.objs.size) { cenv with scope:=relabel sc env }) (Zl C.M A cL use Q (.ref h'.objs.size) cenv.locals)
   { sb with heap:=(h'.push { cls:=.type "list",data:=.seq #[] }).push { cls:=.type "dict",data:=.dict #[] },gens:=sb.gens.push (.fresh (.func body genv)),toks:=tk }:=by
  have W:ZW C genv cenv sb.heap ((h'.push { cls:=.type "list",data:=.seq #[] }).push { cls:=.type "dict",data:=.dict #[] }).objs.size z TI TO i1 G h'.objs.size a sb.gens.size:=ZW.make rfl eL eG ei eTI eTO ez D6 ecl Z8 alt Ib.base
  have lL:@LE.le Nat _ sb.heap.objs.size genv.locals:=T7 eL.symm
  have l8:@LE.le Nat _ sb.heap.objs.size ((h'.push { cls:=.type "list",data:=.seq #[] }).push { cls:=.type "dict",data:=.dict #[] }).objs.size:=by rw[Z8];exact S9 _ _
  have lc:@LE.le Nat _ sb.heap.objs.size cenv.locals:=by rw[ecl];exact S9 _ _
  have lD:@LE.le Nat _ sb.heap.objs.size h'.objs.size:=by rw[D6];exact S9 _ _
  have hA2:A.in1.in1.handled=none:=R.handled
  obtain⟨mg,hng,hmg⟩:=hns
  have c0:ZC C A.in1.in1 genv cenv sb.heap { sb with heap:=(h'.push { cls:=.type "list",data:=.seq #[] }).push { cls:=.type "dict",data:=.dict #[] },gens:=sb.gens.push (.fresh (.func body genv)),toks:=tk } TI i1 G h'.objs.size a sb.gens.size (jV (cT x) none xs) (cT x) 0 0
    { sb with heap:=(h'.push { cls:=.type "list",data:=.seq #[] }).push { cls:=.type "dict",data:=.dict #[] },gens:=sb.gens.push (.fresh (.func body genv)),toks:=tk }:=by
   refine⟨keep2,SQ _,rfl,λq=>q,up2 _ _ hTI,by have:=up2 _ _ hr;simpa using this,(hgen.push _).push _,⟨_,hns2⟩,⟨[],0,gD,.nil⟩,λhpos=>⟨.fresh (.func body genv),a,by simp,λs'' Nw kk=>⟨rfl,?_⟩,.inl rfl⟩⟩
   obtain⟨n',hn'⟩:∃n',cT x=n'+1:=Xo (Tu hpos)
   rw[hn'] at hokk ⊢
   refine D0 Ok GE gc hI hB hbody (λq=>Tj _ (Sx alt (Sk lL (T7 q.symm)))) (bE Ib lL) hA2 (λb q=>bE Ib (Sk l8 q)) n' hokk (λm hm=>?_) Nw ⟨mg,hng.at' λo e=>kk _ (mI 0 rfl) o (up2 _ _ e),hmg⟩ ⟨_,kk a (mI 1 rfl) _ (keep2 _ _ ga),rfl,_,rfl⟩
   congr 1
  refine zw Ok R.handled R.top W ⟨_,ga⟩ rfl EB.kind (EB.ln _ sk) (EB.ln _ ss) t0 (Sk hlen (bo rfl)) (λs' q=>?_) c0 (up2 _ _ hz) ⟨_,_,up2 _ _ hTO⟩
  obtain⟨_,b1,b2,b3,⟨mm,b4⟩,us,m,b5,b6⟩:=q
  refine hend cenv.locals h'.objs.size σb st' sb s' _ us m Sb Ib lc lD (Ne.symm W.Dc) (λp o e=>b1 p o e) b2 (λq=>b3 ?_) ⟨mm,b4⟩ b5 b6 h3
  intro y hy
  rcases Array.mem_push.mp hy with hy | rfl
  ·exact q y hy
  ·rfl
 exact YQ loop (wpAny_pyIter_zip (up2 _ _ hz) loop)
theorem xN (Ok:C.Ok) {body:Sd Stmt}(Fn:qY C fa fd body) (gc:aaI C.K SY "CHAR_MAX"=Sa (Sa (.int 127 tc)))
  (hB:B=[.If (.Compare (.Name "interval" p2) [.Eq] [.Name "CHAR_MAX" p3] p4) [.Return none p5] [] p6,.If (.Compare (.Name "interval" p7) [.Eq] [.Constant (.int 0) j1 p8] p9) [.If (.Compare (.Name "last_interval" q1) [.Is] [.Constant .none j2 q2] q3) rs [] q4,.While (.Constant (.bool Se) j3 q5) [.Expr (.Yield (Sa (.Name "last_interval" q6)) q7) q8] [] q9] [] r1,.Expr (.Yield (Sa (.Name "interval" r2)) r3) r4,.Assign [.Name "last_interval" r5] (.Name "interval" r6) r7])
  (hbody:body=[.Assign [.Name "last_interval" r8] (.Constant .none j4 r9) p,.For (.Name "interval" p1) (.Name "grouping" q) B [] r])
 (hn:SE C fx d en cn) (hg:SE C fx d eg cg) (hok:fx.ok=Se) (x1:("zip":Str)∈fx.gn) (x2:("range":Str)∈fx.gn) (x3:fname∈fx.gn)
  (g1:GB C "zip" (.type "zip")) (g2:GB C "range" (.type "range")) (g3:GB C fname (.ref fa)) (k3:Keeps C (.ref fa)) (a1:aL [en]) (a2:aL [eg]) (a3:aL [.Call (.Name "range" z1) [en] [] z2,.Call (.Name fname z3) [eg] [] z4]) (a4:∀env,TY [.Call (.Name fname z3) [eg] [] z4] env=(ll,eval (.Call (.Name fname z3) [eg] [] z4) env)::TY [] env)
  (hsc:dT sc=Se) (hfree:∀x∈sc.names,x.2≠.free) (hcell:∀x∈sc.names,(x.2 == NameKind.cell)=ll) (sk:("k":Str)∈(aR sc).ln) (ss:("size":Str)∈(aR sc).ln)
  (hy:fx.ln[abt]? = Sa y) (hsw:∀env,bb fx env->VK (.ListComp (.Name "size" e1) [⟨.Tuple [.Name "k" t1,.Name "size" t2] kt tp,.Call (.Name "zip" z0) [.Call (.Name "range" z1) [en] [] z2,.Call (.Name fname z3) [eg] [] z4] [] z5,[],0⟩] sc pos) (Sa (.Name y py)) spos.line env=pure Se) :
  SS C fx d (.Assign [.Name y py] (.ListComp (.Name "size" e1) [⟨.Tuple [.Name "k" t1,.Name "size" t2] kt tp,.Call (.Name "zip" z0) [.Call (.Name "range" z1) [en] [] z2,.Call (.Name fname z3) [eg] [] z4] [] z5,[],0⟩] sc pos) spos) (aV (λfm st k=>cn fm st λx st=>aG x λx=>aD (aB (cT x)) (aD (small x) (cg fm st λy st=>bB y λm=>Ip k x m st) ll) ll) (aw ll abt)):=by
 intro A env σ fm st s k R E I F h
 rw[YZ _ _ _ _ (hsw env E)]
 refine oX (Tz (oX ?_))
 show So _ A (do let _ ←comprehension (.ListComp (.Name "size" e1) [⟨.Tuple [.Name "k" t1,.Name "size" t2] kt tp,.Call (.Name "zip" z0) [.Call (.Name "range" z1) [en] [] z2,.Call (.Name fname z3) [eg] [] z4] [] z5,[],0⟩] sc pos) sc env _ (Zz []) ll (eval (.Call (.Name "zip" z0) [.Call (.Name "range" z1) [en] [] z2,.Call (.Name fname z3) [eg] [] z4] [] z5) env) (Sa (assign (.Name y py) env))) _ _ s
 refine oX (Sm (qW (use:=Sa (assign (.Name y py) env)) (Q:=λ_ s'=>OutS C fx env σ s k .next s') (k:=λv st=>fU ll abt fm v st λfm st=>k .nxt fm st) Ok Fn gc hB hbody hn hg hok x1 x2 x3 g1 g2 g3 k3 a1 a2 a3 a4 hsc hfree hcell sk ss R E I F h λL D σb st' sb s' ys us m Sb Ib hL hD hLD keep os gens hns g hI hk=>?_) (λ_ s' hq=>Sf (Sf hq)) λ_ _ e=>e)
 refine bH hns λmm hm=>?_
 refine St.push_e hk λst6 e1 e2 h7=>?_;clear hk
 have I':Inv C σb st' s':=Ib.grow keep
 have nD:D∉σb:=λq=>S8 (Ib.size q) (Uk.mpr hD)
 have nL:L∉σb:=λq=>S8 (Ib.size q) (Uk.mpr hL)
 have dD:sb.heap.get? D=none:=bD hD
 have S':Step [] σb sb σb s':=⟨⟨[],by simp,λ_ h=>nomatch h⟩,λp o _ _ e=>keep p o e,os,gens⟩
 have hn:(σb++[D])[st'.n]? = Sa D:=by rw[Ib.n];simp
 rw[eq] at e2
 have v:=fj (σ:=σb++[D]) (h:=s'.heap) hI
 have ab4:Inv C (σb++[D]) st6 s':=I'.name e1 e2 rfl nD (by rw[g];rfl) (bE Ib hD) (λvs n=>cE g rfl (by decide) vs n) ⟨us,m,g,v⟩
 have aca:Step [] σ s (σb++[D]) s':=(Sb.trans S').name nD (gr Sb Ib dD)
 have aco:=aca.fr0 F
 have dL':s.heap.get? L=none:=gr Sb Ib (bD hL)
 have hLL:L≠env.locals:=λq=>by
  refine aE (F.ns) λmo ho _=>?_
  refine iD ho λo _ _ e _=>?_
  rw[q,e] at dL';exact nomatch dL'
 refine Sm (Wg (fz (c:=ll) (k:=λfm st=>k .nxt fm st) hy (λh=>nomatch h) hok E ab4 aco (.ref hn) h7)) ?_ λ_ _ e=>e
 rintro _ abr ⟨σ8,fm8,st8,abD,ab1,ab3,aby⟩
 have nL7:L∉σb++[D]:=λq=>by
  rcases Tf.mp q with q | q
  ·exact nL q
  ·exact hLD (Sj.mp q)
 have nLe:L∉[env.locals]:=λq=>hLL (Sj.mp q)
 have hm8:abr.heap.Ns L mm:=hm.at' λo e=>abD.keep _ o nL7 nLe e
 have nL8:L∉σ8:=by
  refine iD hm λo _ _ e _=>?_
  exact abD.notin nL7 nLe e
 refine⟨mm,hm8,λh' hs'=>?_⟩
 have kp:=Heap.SameBut.keeps' hs'
 have abM:Step [L] σ8 abr σ8 { abr with heap:=h' }:=Step.frame (t:=abr.toks) hs'
 have nt:=Heap.Ns.noTup hm8
 have acy:Inv C σ8 st8 { abr with heap:=h' }:=ab1.other (W:=[L]) kp (λp hp=>by rw[Sj.mp hp];exact⟨nL8,bE Ib hL⟩) nt
 have act:=abM.fr nt (λq=>hLL (Sj.mp q).symm) ab3
 have ST:Step [env.locals] σ s σ8 { abr with heap:=h' }:=(((aca.up (W:=[L,env.locals])).trans (abD.widen λp hp=>by rw[Sj.mp hp];simp)).trans (abM.widen λp hp=>by rw[Sj.mp hp];simp)).more λp m=>by
  rcases Sv.mp m with m | m
  ·rw[m];exact .inr dL'
  ·exact .inl m
 exact⟨σ8,.nxt,fm8,st8,ST,acy,act,trivial,aby⟩
end
theorem kQ (a:Ss)(f:Sn):Builtin.«list.sort» ⟨[.ref a],[(TT "key",f)]⟩=(do
  let items ←TS (.ref a)
  UA (.ref a) λ_=>#[]
  let before ←seqEpoch a
  let held ←newTuple items.toList
  let keyStore ←Zz []
  holding [held,keyStore] do
   if f != .none then
    rule "list.sort.key"
    for x in items do
     match ←(call f [x]).attempt with
     | .ok k=>UA keyStore (·.push k)
     | .error e=>
      rule "list.sort.key-raised"
      let made ←TS keyStore
      UA keyStore λ_=>#[]
      letGo made.toList.reverse [e]
      UA (.ref a) λ_=>items;throw e
   let keys ←if f != .none then TS keyStore else pure items
   let kind ←if items.size<2 then pure general' else keyKind' keys
   let ((),s) ←(if items.size<2 then pure () else sortRuns').run (aaL kind (keys.zip items) #[] 7 none)
   let sorted:=(ZT s).map (·.2)
   if f != .none then
    UA keyStore λ_=>#[]
    letGo ((ZT s).map (·.1)).toList (failedOf s).toList
   let touched:=(←seqEpoch a) != before
   UA (.ref a) λ_=>sorted
   if let Sa e:=failedOf s then rule "list.sort.comparison-raised";throw e
   if touched then rule "list.sort.modified";raiseError "ValueError" "list modified during sort"
   ret .none):=rfl
section
variable {prog:Program}{w:World}{A:Around}{E:Value->Shared->Prop}{s:Shared}
noncomputable abbrev oW (h:Heap)(a:Ss)(vs:Sd Sn):Heap:=((h.update a (S5 λ_=>#[])).push (UP "tuple" vs.toArray 0)).push (UP "list" #[] 0)
theorem nx {κ:KeyKind}(hO:κ.OneLt) {P:Fin->Sr->Prop}(hf:(f != .none)=Se)(ho:s.heap.get? a=Sa (UP "list" vs.toArray n))(h64:vs.length<64)
  (J:Sd Sn->Sr->Prop) {e1:Nat} (he1:(s.heap.update a (S5 λ_=>#[])).get? a=Sa (UP "list" #[] e1))
  (hJ0:J [] { s with heap:=oW s.heap a vs }) (hJ:∀ks s',J ks s'->ks.length<=vs.length/\(∃m,s'.heap.get? (s.heap.objs.size+1)=Sa (UP "list" ks.toArray m))/\s'.heap.get? a=Sa (UP "list" #[] e1))
  (step:∀ks v s',J ks s'->vs[ks.length]? = Sa v->So (model prog w) A (call f [v]) (λk s''=>(∃m,s''.heap.get? (s.heap.objs.size+1)=Sa (UP "list" ks.toArray m))/\J (ks++[k]) { s'' with heap:=s''.heap.update (s.heap.objs.size+1) (S5 (·.push k)) }) (λ_ _=>False) s')
  (fin:∀ks s',J ks s'->ks.length=vs.length->KeysOf κ (ks.toArray.zip vs.toArray)/\(2<=vs.length->keyKind' ks.toArray=pure oneType')/\∀st':SortSt,(ZT st').Perm (ks.toArray.zip vs.toArray)->aav κ (ZT st') vs.length ->
   P (.done (.ret .none)) { s' with heap:=(s'.heap.update (s.heap.objs.size+1) (S5 λ_=>#[])).update a (S5 λ_=>(ZT st').map (·.2)) }) :
  So (model prog w) A (Builtin.«list.sort» ⟨[.ref a],[(TT "key",f)]⟩) P E s:=by
 refine wE (kQ a f) ?_
 have ha:a<s.heap.objs.size:=Heap.lt_size ho
 refine oX (listItems_at ho rfl ?_)
 refine oX (Wm ho rfl ?_)
 refine oX (seqEpoch_at he1 rfl ?_)
 refine oX (wpAny_newTuple ?_)
 refine oX (ZU ?_)
 refine SN ?_
 refine wP hf (oX (U1 ?_))
 have hsz:((s.heap.update a (S5 λ_=>#[])).push (UP "tuple" vs.toArray 0)).objs.size=s.heap.objs.size+1:=by rw[size_push',Heap.size_update]
 have hkS:∀ks s',J ks s'->∃m,s'.heap.get? ((s.heap.update a (S5 λ_=>#[])).push (UP "tuple" vs.toArray 0)).objs.size=Sa (UP "list" ks.toArray m):=λks s' j=>by rw[hsz];exact(hJ ks s' j).2.1
 refine oX (Sm (forIn_array_ _ (λrest _ s'=>∃ks,J ks s'/\vs.drop ks.length=rest) (λ_ s'=>∃ks,J ks s'/\ks.length=vs.length) ?_ ?_ vs.toArray _ ⟨[],hJ0,rfl⟩) ?_ λ_ _ e=>e)
 ·intro x rest b s' H
  refine aE H λks j hd=>?_
  clear H
  have hx:vs[ks.length]? = Sa x:=by rw[←Vk,hd];rfl
  have hlt:ks.length<vs.length:=(Sy.mp hx).1
  refine oX (Vq (Sm (step ks x s' j hx) ?_ λ_ _ e=>e.elim))
  intro k s'' H
  refine bH H.1 λm hm=>?_
  have j':=H.2
  clear H
  dsimp only
  rw[←hsz] at hm j'
  refine oX (Wm hm rfl (Sf ?_) (hsz:=by rw[Su,U8];lia) (hsz2:=by rw[Array.size_push,Su,U8];lia))
  exact⟨ks++[k],j',by rw[SU,VS,←WY,hd];rfl⟩
 ·intro b s' H
  refine aE H λks j hd=>?_
  refine⟨ks,j,?_⟩
  exact UN (hJ ks s' j).1 (VQ ((Sd.length_drop).symm.trans (SO Sd.length hd)))
 intro _ s' H
 refine aE H λks j hl=>?_
 clear H
 refine bH (hkS ks s' j) λm hm=>?_
 refine kW (hJ ks s' j) λ_ _ hma=>?_
 refine kW (fin ks s' j hl) λf1 f2 f3=>?_
 refine wP hf (oX (listItems_at hm rfl ?_))
 have hsv:vs.toArray.size=vs.length:=by rfl
 have hak:a≠((s.heap.update a (S5 λ_=>#[])).push (UP "tuple" vs.toArray 0)).objs.size:=by rw[hsz];exact SJ (Th ha)
 have zsz:(ks.toArray.zip vs.toArray).size=vs.length:=by rw[Array.size_zip];simp[hl]
 have hma':(s'.heap.update ((s.heap.update a (S5 λ_=>#[])).push (UP "tuple" vs.toArray 0)).objs.size (S5 λ_=>#[])).get? a=Sa (UP "list" #[] e1):=by rw[Heap.get?_update_other _ _ (Ne.symm hak)];exact hma
 have tail:∀st':SortSt,(ZT st').Perm (ks.toArray.zip vs.toArray)->failedOf st'=none->aav κ (ZT st') vs.length ->
   P (.done (.ret .none)) { s' with heap:=(s'.heap.update ((s.heap.update a (S5 λ_=>#[])).push (UP "tuple" vs.toArray 0)).objs.size (S5 λ_=>#[])).update a (S5 λ_=>(ZT st').map (·.2)) }:=λst' p q r=>by rw[hsz];exact f3 st' p r
 by_cases h2:vs.toArray.size<2
 ·refine wP h2 ?_
  refine oX (Sf ?_)
  refine G6 (SO (λm=>StateT.run m _) (SR h2)) ?_
  refine oX (Sf ?_)
  refine wP hf (oX (Wm hm rfl ?_ (hsz:=by rw[Su,U8];lia)))
  refine oX (Vo ?_)
  refine oX (seqEpoch_at hma' rfl ?_)
  refine oX (Wm hma' rfl ?_ (hsz2:=by rw[Array.size_map];show(ks.toArray.zip vs.toArray).size<=_;rw[zsz,U8];lia))
  refine wN (ne_true_of_eq_false (bne_self_eq_false _)) ?_
  refine Sf (tail (aaL general' (ks.toArray.zip vs.toArray) #[] 7 none) (Array.Perm.refl _) rfl ?_)
  intro i j hij hj
  have:i=j:=by lia
  subst this;exact KeyOrd.kle_refl _
 ·refine wN h2 (G6 (f2 (Nat.le_of_not_lt h2)) ?_)
  refine oX (Sf ?_)
  refine G6 (SO (λm=>StateT.run m _) (Sz h2)) ?_
  refine oX (Sm (wpS_sortRunsK (κ:=κ) hO (a₀:=ks.toArray.zip vs.toArray) (st:=aaL oneType' (ks.toArray.zip vs.toArray) #[] 7 none)
   (Q:=λ_ st'=>(ZT st').Perm (ks.toArray.zip vs.toArray)/\failedOf st'=none/\aav κ (ZT st') (ks.toArray.zip vs.toArray).size)
   f1 ⟨Array.Perm.refl _,rfl,rfl,rfl⟩ (by rw[zsz];lia) (by rw[zsz];exact h64) λst' a1 a2 a3=>⟨a1,a2,a3⟩) ?_ λ_ _ e=>e)
  rintro⟨⟨⟩,st'⟩ s'' ⟨rfl,hp,hfl,hs⟩
  refine wP hf (oX (Wm hm rfl ?_ (hsz:=by rw[Su,U8];lia)))
  refine oX (Vo ?_)
  refine oX (seqEpoch_at hma' rfl ?_)
  refine oX (Wm hma' rfl ?_ (hsz2:=by rw[Array.size_map,hp.size_eq,zsz,U8];lia))
  rw[hfl]
  refine wN (ne_true_of_eq_false (bne_self_eq_false _)) ?_
  exact Sf (tail st' hp hfl (zsz▸hs))
end
section
variable {prog:Program}{w:World}{A:Around}{E:Value->Shared->Prop}{s:Shared}
theorem nG {r:Ss}{a b c:Int}{t u v:Tok} {Q:Sd Sn->Sr->Prop}(hh:A.handled=none)(hr:WL s.heap r a b c t u v)(hsmall:Builtin.Range.small a b c=Se)
  (hn:To a b c=n) (hlen:n<=2 ^ 24)
  (h:∀h' tk (acc:Array Sn),(∀p o,s.heap.get? p=Sa o->h'.get? p=Sa o)->ItemsOf (λi v=>∃t,v=.int (a+i*c) t) acc n->Q acc.toList { s with heap:=h',toks:=tk }):So (model prog w) A (collect (.ref r)) Q E s:=by
 unfold collect
 refine oX (wpAny_runValue (UO entry_proto_collect' ?_))
 show So _ _ (do again (.builtin "list.__iadd__" ⟨[←Zz [],.ref r],[]⟩)) _ _ s
 refine oX (ZU (Sf ⟨ZZ _ (by decide +kernel),UO entry_list_iadd' ?_⟩))
 show So _ _ (Builtin.List.listExtendWith (.ref s.heap.objs.size) (.ref r) (.ref s.heap.objs.size)) _ _ { s with heap:=s.heap.push (UP "list" #[] 0) }
 rw[UY (show plainId "list.__iadd__"=Se by decide +kernel) _]
 refine wpAny_extend_range (R:=λr s'=>match r with
   | .ok (.ret v)=>So (model prog w) A (match v with
      | Value.ref a=>do
       let o ←load a
       match o.data with
        | .seq xs _=>pure xs.toList
        | _=>unsupported "internal:collect"
      | _=>unsupported "internal:collect") Q E s'
   | .ok _=>False
   | .error e=>E e s') (s:={ s with heap:=s.heap.push (UP "list" #[] 0) }) hh (Heap.get?_push_of_some _ hr) hsmall hn hlen s.heap.objs.size (.ref s.heap.objs.size) 0 (Heap.get?_push_size _ rfl) λh' tk acc c' hk hS hacc=>?_
 have kp:∀p o,s.heap.get? p=Sa o->h'.get? p=Sa o:=λp o e=>hk p o (SJ (Heap.lt_size e)) (Heap.get?_push_of_some _ e)
 show So (model prog w) A (do
   let o ←load s.heap.objs.size
   match o.data with
   | .seq xs _=>pure xs.toList
   | _=>unsupported "internal:collect") Q E { s with heap:=h',toks:=tk }
 refine oX (W8 hS ?_)
 exact Sf (h h' tk acc kp hacc)
theorem jd (a v:Sn):Ws "list.sort" ⟨[a],[(TT "key",v)]⟩:=by unfold Ws;kernel_rfl
theorem kU (a v:Sn):Ws "sorted" ⟨[a],[(TT "key",v)]⟩:=by unfold Ws;kernel_rfl
theorem uJ {r:Ss}{x:Int}{t u v:Tok} (hh:A.handled=none)(hr:WL s.heap r 0 x 1 t u v)(hsmall:Builtin.Range.small 0 x 1=Se)(hn:To 0 x 1=n)(hlen:n<64)
  (h:∀h' tk (acc:Array Sn),(∀p o,s.heap.get? p=Sa o->h'.get? p=Sa o)->ItemsOf (λi v=>∃t,v=.int (0+i*1) t) acc n->h'.get? (h'.objs.size - 1)=Sa (UP "list" acc 0)->0<h'.objs.size->(∀p o,s.heap.get? p=Sa o->p<h'.objs.size - 1) ->
   So (model prog w) A.in1.in1 (Builtin.«list.sort» ⟨[.ref (h'.objs.size - 1)],[(TT "key",f)]⟩) (λfin s'=>fin=.done (.ret .none)/\Q (.ref (h'.objs.size - 1)) s') E { s with heap:=h',toks:=tk }) :
  So (model prog w) A (call (.builtin "sorted") [.ref r] [(TT "key",f)]) Q E s:=by
 refine call_function_entry_kw kind_sorted plain_sorted entry_sorted (kU _ _) ?_
 unfold Builtin.«sorted»
 refine oX (m:=checkCount "sorted" 1 1 _) (Sf ?_)
 refine oX (nG hh hr hsmall hn (by lia) λaaS tk acc hk hacc=>?_)
 refine oX (ZU ?_ (hsz:=by rw[XB,hacc.1,U8];lia))
 have hL:(aaS.push (UP "list" acc 0)).get? aaS.objs.size=Sa (UP "list" acc 0):=Heap.get?_push_size _ rfl
 have hsz:(aaS.push (UP "list" acc 0)).objs.size - 1=aaS.objs.size:=by rw[Heap.size_push];rfl
 have q:=h (aaS.push (UP "list" acc 0)) tk acc (λp o e=>Heap.get?_push_of_some _ (hk p o e)) hacc (by rw[hsz];exact hL) (by rw[Heap.size_push];lia) (λp o e=>by rw[hsz];exact Heap.lt_size (hk p o e))
 rw[hsz] at q
 refine oX (SN (wpAny_call_entry_kw slot_list_sort ⟨_,hL,rfl⟩ entry_list_sort (Sm q (λfin s' z=>⟨_,z.1,?_⟩) λ_ _ e=>e) (jd _ _)))
 exact Sf ⟨_,rfl,z.2⟩
end
abbrev KP:=Sd Nat×Int
theorem zK:∀(a b:Sd Nat),FO a b=decide (a<b)
 | [],[]=>by rfl
 | [],b::q=>by rfl
 | a::l,[]=>by rfl
 | a::l,b::q=>by
  have h:FO (a::l) (b::q)=aD (SD a b) (FO l q) (SV a b):=rfl
  rw[h,zK l q]
  cases e:SD a b with
  | true=>
   have:=SK e
   subst this
   show decide (l<q)=_
   simp[Y4]
  | false=>
   have hne:a≠b:=λz=>by subst z;simp at e
   show SV a b=_
   have eb:SV a b=decide (a<=b):=by
    by_cases z:a<=b
    ·rw[TU z,Tq z]
    ·rw[Tp z];cases y:SV a b with
     | false=>rfl
     | true=>exact S8 (Sl y) z
   rw[eb]
   simp only[Y4,decide_eq_decide]
   lia
theorem nY (x:KP):∀l:Sd KP,(Ba x l).Perm (x::l)
 | []=>.refl _
 | y::r=>by
  have h:Ba x (y::r)=@Te (λ_=>Sd KP) (y::Ba x r) (x::y::r) (FO x.1 y.1):=rfl
  rw[h]
  cases FO x.1 y.1 with
  | true=>exact .refl _
  | false=>exact((nY x r).cons y).trans (.swap _ _ _)
theorem mN:∀(l acc:Sd KP),(dJ l acc).Perm (l++acc)
 | [],acc=>.refl _
 | x::l,acc=>by
  have h:dJ (x::l) acc=dJ l (Ba x acc):=rfl
  rw[h]
  exact(mN l _).trans (((nY x acc).append_left l).trans aaw)
theorem ig:∀l:Sd KP,iH l=Se->l.Pairwise (λa b=>a.1<b.1)
 | [],_=>.nil
 | [x],_=>.cons (λ_ h=>nomatch h) .nil
 | x::y::r,h=>by
  have h:aD (FO x.1 y.1) (iH (y::r)) ll=Se:=h
  refine aM h λh1 h2=>?_;clear h
  rw[zK] at h1
  have h1:=S4 h1
  have ih:=ig (y::r) h2
  refine .cons (λz hz=>?_) ih
  rcases Sv.mp hz with rfl | hz
  ·exact h1
  ·exact Sd.lt_trans h1 (Sd.rel_of_pairwise_cons ih hz)
theorem se {arr:Sd KP}(hp:arr.Perm ks)(hs:arr.Pairwise (λa b=>¬b.1<a.1))(hr:iH (dJ ks [])=Se):arr=dJ ks []:=by
 have pw:=ig _ hr
 have hp':arr.Perm (dJ ks []):=hp.trans (by have:=mN ks [];rw[TR] at this;exact this.symm)
 refine aaO.eq_of_pairwise (le:=λa b=>¬b.1<a.1) (λa b ha hb h1 h2=>?_) hs (pw.imp λh q=>Zp _ (Sd.lt_trans h q)) hp'
 have ha':=hp'.mem_iff.mp ha
 have hk:a.1=b.1:=Sd.le_antisymm (Sd.not_lt.mp h1) (Sd.not_lt.mp h2)
 obtain⟨i,hi,ei⟩:=ZK ha'
 obtain⟨j,hj,ej⟩:=ZK hb
 rcases Z5 i j with q | q | q
 ·have:=UQ.mp pw i j hi hj q
  rw[ei,ej,hk] at this
  exact S8 this (Zp _)
 ·subst q
  rw[←ei,←ej]
 ·have:=UQ.mp pw j i hj hi q
  rw[ei,ej,hk] at this
  exact S8 this (Zp _)
section
variable {C:Cfg}{fx:Fx}{d:Nat}{A:Around}{env:Env}{σ σ1:List Addr}{fm:Fm}{st:St}{s aaQ:Shared}
theorem Inv.reshow (I:Inv C σ st s){X:Sd Ss} (hk:∀b o,b∉X->s.heap.get? b=Sa o->s'.heap.get? b=Sa o)
  (hX:∀b∈X,∃i o,4<=i/\σ[i]? = Sa b/\st.look i=Sa o/\o≠.hid/\(s'.heap.get? b).isSome=Se/\OR σ s'.heap o b):Inv C σ st s':=by
 have inσ:∀b∈X,b∈σ:=λb m=>by refine gx (hX b m) λi o _ h _=>?_;exact Sp h
 have out:∀{i:Nat} {b:Ss},σ[i]? = Sa b->st.look i=Sa .hid->b∉X:=λ{i b} h e m=>by
  refine Ef (hX b m) λi' o _ h' e' n _=>?_
  rw[I.inj h h',e'] at e
  exact n (Sa.inj e)
 refine⟨λb o e=>hk b o (λm=>by have:=(I.new b (inσ b m)).1;rw[e] at this;cases this) (I.base b o e),I.nodup,λa m=>⟨(I.new a m).1,?_⟩,I.n,λi o e=>?_,I.dict,I.apart,dR I.tabs (λ_ _ e=>e) (λ_ x=>x) λj a y sj ha g=>hk a y (out ha sj.1) g,λi a o m=>?_⟩
 ·by_cases q:a∈X
  ·refine qh (hX a q) λ_ _ _ _ _ _ h _=>?_;exact h
  ·refine bH (S1.mp (I.new a m).2) λo e=>?_
   rw[hk _ _ q e];rfl
 ·obtain⟨a,ha,r⟩:=I.at_ i o e
  refine⟨a,ha,?_⟩
  by_cases q:a∈X
  ·refine qh (hX a q) λi' o' _ h' e' _ _ r'=>?_
   have:=I.inj ha h'
   subst this
   rw[e] at e'
   cases e'
   exact r'
  ·exact r.mono (λ_ _ e=>e) (λb vs n m e=>⟨m,hk b _ (λz=>m (inσ b z)) e⟩) (λy g=>hk a y q g) λdd dx hd hdx y g=>hk dx y (out hdx (I.dictHid e hd)) g
 ·refine xY (I.fix i a o m) λq1 q2 q3 q4=>?_
  refine⟨q1,q2,hk a o (λz=>?_) q3,q4⟩
  refine gx (hX a z) λi' _ h4 h' _=>?_
  have:=I.inj q2 h'
  lia
theorem Inv.lamNew (I:Inv C σ st s){t:lN}(k:ju C t){h':Heap}{tk:Nat}{ps:Array Sn}{c':Ss}{st':St}(e1:st'.n=st.n+1)(e2:∀j,st'.look j=if j=st.n then Sa .hid else st.look j)
  (hk:∀b o,b≠t.tab->s.heap.get? b=Sa o->h'.get? b=Sa o) (hg:h'.get? t.tab=Sa { cls:=.none,data:=.fields ps }) (htr:Yn ps.toList) (hc:s.heap.objs.size<=c') (hcode:W3 t.pos ps.toList=Sa (.ref c')) (hrec:h'.CodeRec (.ref c') t.q) :
  Inv C (σ++[c']) st' { s with heap:=h',toks:=tk }:=by
 obtain⟨j,hj,sj,-⟩:=I.tabs t k.mem
 have mt:t.tab∈σ:=Sp hj
 have J:Inv { C with tabs:=[] } σ st { s with heap:=h',toks:=tk }:=I.tabCore k.mem hk (hg▸rfl)
 refine qG (id hrec) λabn oc vs tq q1 hoc hd hq=>?_
 cases q1
 have out:c'∉σ:=λm=>S8 (I.size m) (Uk.mpr hc)
 have J':Inv { C with tabs:=[] } (σ++[c']) st' { s with heap:=h',toks:=tk }:=J.name e1 e2 rfl out (by show(h'.get? c').isSome=Se;rw[hoc];rfl) (bE I hc) (λus n e=>by rw[hoc] at e;cases e;cases hd) trivial
 have hi:∀(i:Nat) (b:Ss),σ[i]? = Sa b->(σ++[c'])[i]? = Sa b:=λi b e=>by rw[Ti (Sy.mp e).1];exact e
 have old:∀{j:Nat} {x:O},st.look j=Sa x->st'.look j=Sa x:=λ{j x} e=>by rw[e2,Sz (SJ (I.lt e))];exact e
 have L:∀{j:Nat} {x:O} {d:Nat},st'.look j=Sa x->bW x=Sa d->st.look j=Sa x:=λ{j x d} q h=>by
  rw[e2] at q
  by_cases e:j=st.n
  ·rw[SR e] at q;cases q;cases h
  ·rw[Sz e] at q;exact q
 have sf:∀{j:Nat},Safe st j->Safe st' j:=λsj=>Safe.of (old sj.1) λk x d q hd=>sj.dict (L q hd) hd
 have sn:Safe st' st.n:=Safe.of (by rw[e2,SR rfl]) λk x d q hd=>SJ (I.lt (I.dictHid (L q hd) hd))
 have hP:∀P∈C.tabs.map (·.tab),P≠c':=λP m q=>by
  obtain⟨t',m',rfl⟩:=XH.mp m
  obtain⟨j',hj',_⟩:=I.tabs t' m'
  exact out (q▸Sp hj')
 refine⟨J'.base,J'.nodup,J'.new,J'.n,J'.at_,J'.dict,J'.apart,λt' m'=>?_,J'.fix⟩
 by_cases q:t'.tab=t.tab
 ·have:=k.one t' m' q
  subst this
  exact⟨j,hi _ _ hj,sf sj,ps,hg,htr,λ_ cv hv=>by rw[hcode] at hv;cases hv;exact⟨st.n,c',rfl,by rw[I.n];simp,sn,hP,hrec⟩⟩
 ·obtain⟨j',hj',sj',ps',g,tr,cv⟩:=I.tabs t' m'
  refine⟨j',hi _ _ hj',sf sj',ps',hk _ _ q g,tr,λhlam v hv=>?_⟩
  obtain⟨i,c,rfl,hic,si,hp,c'',o',vs',u,e,g',r⟩:=cv hlam v hv
  cases e
  exact⟨i,c,rfl,hi _ _ hic,sf si,hp,c,o',vs',u,rfl,hk c _ (λz=>hp _ (UM k.mem) z.symm) g',r⟩
theorem Bf (Ok:C.Ok)(B:lZ C){t:lN}(kt:ju C t)(hl:t.lam=Se)(hcode:env.code=.ref t.code)(hg:env.globals=SY)(I:Inv C σ st s){r:Ss}(hr:r∉σ)(hrl:(s.heap.get? r).isSome=Se)(hrn:C.aa3.get? r=none)(hrt:∀vs n,s.heap.get? r≠Sa (cK vs n))
 {body:Expr} (hpos:pos=t.pos) (hq:env.qual ++ "<lambda>"=t.q) (hd:defaultsOf params env=([],[])) (hcl:YP lsc env=pure clos) (e1:st1.n=st.n+1) (e2:∀j,st1.look j=if j=st.n then Sa .hid else st.look j)
 
  (h:∀f a c' ctv pm h' tk,a∉σ->(a=r\/s.heap.get? a=none)->Inv C (σ++[a]) st1 { s with heap:=h',toks:=tk }->h'.get? f=Sa (aaE "<lambda>" t.q params body lsc clos pm c' ctv)->h'.CodeRec (.ref c') t.q->s.heap.objs.size<=f ->
   (∀b o,b≠t.tab->s.heap.get? b=Sa o->h'.get? b=Sa o)->Q (.ref f) { s with heap:=h',toks:=tk }):So C.M A (eval (.Lambda params body lsc pos) env) Q E s:=by
 refine qh (isCode Ok I kt) λj ps hj sj hic hta hlam htr=>?_
 have CH:CodeHd s.heap t.code t.tab:=CodeHd.of hic hta
 have hP:s.heap.get? t.tab=Sa (aax ps):=hta.2
 have hgs:s.heap.Ns SY C.mg:=Ok.T.g.keeps I.base
 have hgP:SY≠t.tab:=λq=>by
  refine zR hgs λo es ep e hd _=>?_
  rw[q,hP] at e;cases e;cases hd
 refine qh (B.at_) λbm ob b1 b2 b3 b4 b5 b6=>?_
 have hbP:bm≠t.tab:=λq=>by
  have e:=I.base _ _ b3
  rw[q,hP] at e;cases e;cases b4
 have hbG:bm≠SY:=λq=>by
  refine zR (Ok.T.g) λo es ep e hd _=>?_
  rw[q,e] at b3;cases b3;rw[hd] at b6;cases b6
 have BA:s.heap.BuiltinsAt C.mg t.tab:=⟨bm,ob,b1,b2,hbG,hbP,I.base _ _ b3,b4,b5,b6⟩
 refine kla_eval hd ?_
 rw[hq,hpos]
 cases hf:W3 t.pos ps.toList with
 | none=>
  refine kla_makeFunction (mg:=C.mg) hcl hg hgs hcode CH hP htr hf hgP BA λc' ctv h' tk hx hge hlt hrec htb=>?_
  have tr':=TriplesOk_snoc t.pos.line t.pos.col (.ref c') _ htr
  have ca:=codeAmong_snoc (c:=.ref c') _ htr hf
  have I':Inv C (σ++[c']) st1 { s with heap:=h',toks:=tk }:=I.lamNew kt e1 e2 hx htb (by rw[ZL];exact tr') hge (by rw[ZL];exact ca) hrec
  refine qG hrec λabn oc vs tq q1 hoc hd' hq'=>?_
  cases q1
  exact h _ c' c' ctv _ _ tk (λm=>S8 (I.size m) (Uk.mpr hge)) (.inr (bD hge)) (I'.grow λb o e=>Heap.get?_push_of_some _ e) (Heap.get?_push_size _ rfl) ⟨_,oc,vs,tq,rfl,Heap.get?_push_of_some _ hoc,hd',hq'⟩ (TJ (Tg hge hlt)) λb o nb e=>Heap.get?_push_of_some _ (hx b o nb e)
 | some cv=>
  refine Ef (hlam hl cv hf) λi c e82 hi si hp hrec=>?_;subst e82
  refine kla_makeFunctionHit (mg:=C.mg) hcl hg hgs hcode CH hP htr hf BA λctv h' tk hk hsz=>?_
  have kk:∀b o,s.heap.get? b=Sa o->(h'.push (aaE "<lambda>" t.q params body lsc clos ((C.mg "__name__").getD .none) c ctv)).get? b=Sa o:=λb o e=>Heap.get?_push_of_some _ (hk b o e)
  refine qG hrec λabn oc vs tq q1 hoc hd' hq'=>?_
  cases q1
  exact h _ r c ctv _ _ tk hr (.inl rfl) ((I.name e1 e2 rfl hr hrl hrn hrt trivial).grow kk) (Heap.get?_push_size _ rfl) ⟨_,oc,vs,tq,rfl,kk _ _ hoc,hd',hq'⟩ hsz λb o _ e=>kk b o e
noncomputable abbrev Cfg.bare (C:Cfg):Cfg:={ C with tabs:=[],fix:=[] }
noncomputable def cM (xs:Sd Int):St:=⟨2,.node (.list (fE .int xs)) (.node (.cell (Sa (.ref 0))) .nil .nil) .nil⟩
theorem lE (h:(cM xs).look i=Sa o):(i=0/\o=.list (fE .int xs))\/(i=1/\o=.cell (Sa (.ref 0))):=by
 match i with
 | 0=>exact .inl ⟨rfl,(Sa.inj h).symm⟩
 | 1=>exact .inr ⟨rfl,(Sa.inj h).symm⟩
 | j+2=>
  have h:(if (j+1) % 2=0 then (T.node (.cell (Sa (.ref 0))) .nil .nil).look ((j+1) / 2) else T.nil.look ((j+1) / 2))=Sa o:=h
  split at h
  ·rename_i q
   obtain⟨m,hm⟩:∃m,(j+1) / 2=m+1:=⟨(j+1) / 2 - 1,by lia⟩
   rw[hm] at h
   have h:(if m % 2=0 then T.nil.look (m / 2) else T.nil.look (m / 2))=Sa o:=h
   split at h <;> exact iq h
  ·exact iq h
theorem Ei (I:Inv C σ st s) (hf:af∈σ)(hc:ac∈σ)(hne:af≠ac)(of:OR σ s.heap (.list (xs.map V.int)) af)(oc:s.heap.IsCell ac (Sa (.ref af))):Inv C.bare [af,ac] (cM xs) s:=by
 obtain⟨us,m,g,r⟩:=of
 refine⟨I.base,by simp[hne],λa m=>?_,rfl,λi o e=>?_,λi c d fs l e=>?_,λi j c d fs l c' d' fs' l' e=>?_,λ_ m=>(nomatch m),λ_ _ _ m=>(nomatch m)⟩
 ·rcases Sv.mp m with rfl | m
  ·exact I.new _ hf
  ·rw[Sj.mp m];exact I.new _ hc
 ·rcases lE e with ⟨rfl,rfl⟩ | ⟨rfl,rfl⟩
  ·exact⟨af,rfl,us,m,g,by rw[eq];exact fj (eF r)⟩
  ·exact⟨ac,rfl,_,oc,.ref rfl⟩
 ·rcases e with e | e <;> rcases lE e with ⟨_,q⟩ | ⟨_,q⟩ <;> cases q
 ·rcases e with e | e <;> rcases lE e with ⟨_,q⟩ | ⟨_,q⟩ <;> cases q
structure ph (lsc:Scope)(params:Arguments)(x y:Str):Prop where
 sc:dT lsc=Se
 co:lsc.isCoroutine=ll
 gen:lsc.isGenerator=ll
 loc:au lsc .local=[y]
 cell:au lsc .cell=[]
 free:au lsc .free=[x]
 dflt:∀env,defaultsOf params env=([],[])
 bind:∀qual body cl pm cd ct u,XT (kla_fn "<lambda>" qual params body lsc cl pm cd ct) ⟨[u],[]⟩=pure [(y,u)]
noncomputable def Mk (z:Int):Str:=⟨(cw [32] (cT z)).toArray⟩
theorem Ab (Ok:C.Ok):C.bare.Ok:=⟨Ok.X,Ok.T⟩
theorem Et (Ok:C.Ok) {body:Expr}{e:CE} (L:ph lsc params x y)(he:SE C.bare (aR lsc) d body e)
  (hE:∀(xs:Sd Int) (j:Nat) (z:Int) (K:KV),xs[j]? = Sa z->j<=63->small z=Se->aB (cT z)=Se->K (.str (cw [32] (cT z))) (cM xs)=Se->e ⟨[Sa (.int j)],[1]⟩ (cM xs) K=Se)
  {f c':Ss} {ctv pm:Sn} (R:Rm (d+1) A) (ho:s.heap.get? f=Sa (aaE "<lambda>" qual params body lsc clos pm c' ctv)) (hrec:s.heap.CodeRec (.ref c') qual) (hcl:clos.lookup x=Sa ac)
  (I:Inv C.bare [af,ac] (cM xs) s) {z:Int} (hz:xs[j]? = Sa z) (hj:j<=63) (h1:small z=Se) (h2:aB (cT z)=Se):
  So C.M A (call (.ref f) [.int j tk]) (λu s'=>(∃t,u=.str (Mk z) t)/\Step [] [af,ac] s [af,ac] s'/\Inv C.bare [af,ac] (cM xs) s') E s:=by
 classical
 refine UI (kla_callFunE R.top ho rfl L.co L.gen rfl hrec ?_)
 rw[L.bind]
 refine Sf ?_
 have hK:=hE xs j z (λv st=>decide (v=.str (cw [32] (cT z))/\st=cM xs)) hz hj h1 h2 (Tq ⟨rfl,rfl⟩)
 have q:=re (C:=C.bare) (A:=A.in1) (closure:=clos) (q:=[1]) (around:=none) (qual:=qual ++ ".<locals>.") (func:=Sa f) (code:=.ref c') (builtins:=T6) (xs:=[y]) (ps:=[(ll,0)]) (l:=[.int j]) (us:=[.int j tk])
  (k:=λfm st=>e fm st λv st=>decide (v=.str (cw [32] (cT z))/\st=cM xs)) L.sc rfl (.cons (by show(aR lsc).ln[0]? = _;show(au lsc .local)[0]? = _;rw[L.loc];rfl) (λh=>nomatch h) .nil) I (.cons (.int _ _) .nil) (by rw[L.free];exact SQ _)
  (λi w hw hi=>by rw[L.free] at hw;induction i with
   | zero=>
    have:w=x:=by simpa using hw.symm
    exact⟨ac,1,rfl,this▸hcl,rfl⟩
   | succ i=>simp at hw) (by rw[L.cell,L.loc];exact hK)
 refine Sm q ?_ λ_ _ e=>e.elim
 rintro genv aaQ ⟨σ',fm',st',E',_,_,S',I',F',_,h'⟩
 refine⟨(Ab Ok).T.nolimit.keeps I'.base,kla_codeExpr (Sm (he (A.deeper genv) genv σ' fm' st' aaQ _ R.deeper E' I' F' h') ?_ λ_ _ e=>e.elim)⟩
 rintro u aaR ⟨σ'',v,st'',S'',I'',r,hd⟩
 obtain⟨rfl,rfl⟩:=S4 hd
 have S:=S'.trans S''
 have hσ:σ''=[af,ac]:=by
  refine aE (S.ext) λτ e _=>?_
  have hn:2=σ''.length:=I''.n
  rw[e] at hn ⊢
  induction τ with
  | nil=>simp
  | cons a b=>simp at hn
 subst hσ
 refine VR.str_e r λ_=>?_
 exact⟨⟨_,rfl⟩,S,I''⟩
end
theorem wX:∀{xs:Sd Int}{n:Nat}{j:Int}{k:Sd KP->Si},rA xs n j k=Se->∃ks:Sd KP,ks.length=n/\(∀i,i<n->∃z,xs[i]? = Sa z/\small z=Se/\aB (cT z)=Se/\ks[i]? = Sa (cw [32] (cT z),j+i))/\k ks=Se
 | [],0,_,_,h=>⟨[],rfl,λi hi=>S8 hi (U3 _),h⟩
 | [],_+1,_,_,h=>by exact ff h
 | x::xs,0,_,_,h=>⟨[],rfl,λi hi=>S8 hi (U3 _),h⟩
 | x::xs,n+1,j,k,h=>by
  have h:aD (small x) (aD (aB (cT x)) (rA xs n (gB j 1) λq=>k ((cw [32] (cT x),j)::q)) ll) ll=Se:=h
  refine dH (eH h) λh1 h=>?_
  refine dH (eH h) λh2 h=>?_
  refine fF (wX h) λks e hk h=>?_
  refine⟨_::ks,by simp[e],λi hi=>?_,h⟩
  induction i with
  | zero=>exact⟨x,rfl,h1,h2,by simp⟩
  | succ i=>
   refine fD (hk i (by lia)) λz a b c dd=>?_
   refine⟨z,by simpa using a,b,c,?_⟩
   rw[eS] at dd
   rw[Wy,dd]
   congr 2
   lia
noncomputable def conv (p:Sn×Sn):KP:=((match p.1 with | .str x _=>x.cps.toList | _=>[]),(match p.2 with | .int i _=>i | _=>0))
theorem nM:∀{l:Sd (Sn×Sn)},(∀p∈l,∃i t,p.2=.int i t)->UG (l.map (·.2)) ((l.map conv).map (·.2))
 | [],_=>.nil
 | p::l,h=>by
  refine uK (h p (.head _)) λi t e=>?_
  have:(conv p).2=i:=by unfold conv;rw[e]
  simp only[Tt]
  rw[this,e]
  exact .cons _ _ (nM λq m=>h q (.tail _ m))
section
variable {ks vs:List Value}{kp:List KP}
theorem oV (hks:∀(i:Nat)(v:Sn),ks[i]? = Sa v->∃p t,kp[i]? = Sa p/\v=.str ⟨p.1.toArray⟩ t)(hvs:∀(i:Nat)(v:Sn),vs[i]? = Sa v->∃p t,kp[i]? = Sa p/\v=.int p.2 t){p:Sn×Sn}(m:p∈ks.zip vs):∃q:KP,∃t u,p=(.str ⟨q.1.toArray⟩ t,.int q.2 u)/\conv p=q:=by
 refine bH (V4 m) λi e=>?_
 refine dH (XZ.mp e) λe1 e2=>?_
 refine fB (hks i _ e1) λq t h1 h2=>?_
 refine fB (hvs i _ e2) λq' u h3 h4=>?_
 rw[h1] at h3
 cases h3
 refine⟨q,t,u,Prod.ext h2 h4,?_⟩
 unfold conv
 rw[h2,h4]
theorem xP (hks:∀(i:Nat)(v:Sn),ks[i]? = Sa v->∃p t,kp[i]? = Sa p/\v=.str ⟨p.1.toArray⟩ t)(hvs:∀(i:Nat)(v:Sn),vs[i]? = Sa v->∃p t,kp[i]? = Sa p/\v=.int p.2 t):KeysOf UB (ks.toArray.zip vs.toArray):=by
 intro p m
 rw[aay] at m
 refine iD (oV hks hvs m) λq t u e83 _=>?_;subst e83
 exact⟨_,rfl⟩
theorem yg (hks:∀(i:Nat)(v:Sn),ks[i]? = Sa v->∃p t,kp[i]? = Sa p/\v=.str ⟨p.1.toArray⟩ t)(h2:2<=ks.length):keyKind' ks.toArray=pure oneType':=by
 match ks,h2 with
 | a::b::r,_=>
  refine keyKind_strs (strsAre_map _ λv m=>?_)
  refine bH (V4 m) λi e=>?_
  refine fB (hks i v e) λp t _ q=>?_
  exact⟨_,t,q⟩
theorem Bq {arr:Array Keyed}(hk:ks.length=vs.length)(hl:kp.length=vs.length)(hks:∀(i:Nat)(v:Sn),ks[i]? = Sa v->∃p t,kp[i]? = Sa p/\v=.str ⟨p.1.toArray⟩ t)(hvs:∀(i:Nat)(v:Sn),vs[i]? = Sa v->∃p t,kp[i]? = Sa p/\v=.int p.2 t)
  (hp:arr.Perm (ks.toArray.zip vs.toArray)) (hs:aav UB arr vs.length) (hr:iH (dJ kp [])=Se):UG (arr.map (·.2)).toList ((dJ kp []).map (·.2)):=by
 have hp':arr.toList.Perm (ks.zip vs):=by
  have:=Array.perm_iff_toList_perm.mp hp
  rwa [aay] at this
 have hsz:arr.size=vs.length:=by rw[hp.size_eq,Array.size_zip];simp[hk]
 have hmap:(ks.zip vs).map conv=kp:=by
  apply aag
  intro i
  rw[TG]
  cases e:(ks.zip vs)[i]? with
  | none=>
   have:=Wa.mp e
   rw[Sd.length_zip,hk,Nat.min_self] at this
   exact(W0 (by lia)).symm
  | some p=>
   refine dH (XZ.mp e) λe1 e2=>?_
   refine fB (hks i _ e1) λq t h1 h2=>?_
   refine fB (hvs i _ e2) λq' u h3 h4=>?_
   rw[h1] at h3
   cases h3
   rw[h1]
   show Sa (conv p)=_
   unfold conv
   rw[h2,h4]
 have shape:∀p∈arr.toList,∃q:KP,∃t u,p=(.str ⟨q.1.toArray⟩ t,.int q.2 u)/\conv p=q:=λp m=>oV hks hvs (hp'.mem_iff.mp m)
 have key:arr.toList.map conv=dJ kp []:=by
  refine se (hmap▸hp'.map conv) ?_ hr
  rw[UQ]
  intro i j hi hj hij
  rw[S0,XB] at hi hj
  have h1:=hs i j (TJ hij) (by lia)
  refine iD (shape arr[i] (by simp)) λq t u e e'=>?_
  refine iD (shape arr[j] (by simp)) λq2 t2 u2 e2 e2'=>?_
  have k1:KK UB arr i=q.1:=by unfold KK;rw[getElem?_pos arr i hi,e];simp[UB]
  have k2:KK UB arr j=q2.1:=by unfold KK;rw[getElem?_pos arr j hj,e2];simp[UB]
  rw[k1,k2] at h1
  rw[Xc,Xc,Zq,Zq,e',e2']
  exact of_decide_eq_false h1
 rw[Array.toList_map,←key]
 exact nM λp m=>by refine iD (shape p m) λq t u e _=>?_;exact⟨_,_,by rw[e]⟩
end
section
variable {C:Cfg}{fx:Fx}{d:Nat}{A:Around}{env:Env}{σ σ1:List Addr}{fm:Fm}{st:St}{s aaQ:Shared}
noncomputable def lU (k:KV)(fm:Fm)(c:Nat)(x:Int)(st:St):Si:=aD (SV (cT x) 63) (aD (small x) (getL fm.cel c (λci=>aD (SV 4 ci) (st.get ci λo=>eo o λv=>cU v λv=>bB v λm=>aD (SV 4 m) (bg st m λl=>iZq l λxs=>
 rA xs (cT x) 0 λks=>aD (iH (dJ ks [])) (st.push .hid λ_ st=>st.push (.list (fE (λx=>.int x.2) (dJ ks []))) λn st=>k (.ref n) st) ll) ll) ll) ll) ll) ll
theorem yn (cn:CE)(c:Nat)(fm:Fm)(st:St)(k:KV):pr cn c fm st k=cn fm st λx st=>aG x λx=>lU k fm c x st:=rfl
theorem ye {us:Sd Sn} {k:KV}(I':Inv C σ1 st s')(S':Step [] σ s σ1 s')(nD:D∉σ1)(dD:s.heap.get? D=none)(nh:C.aa3.get? D=none)
  (g:s'.heap.get? D=Sa (cB us m)) (hI:UG us ys) (h:st.push (.list (ys.map V.int)) (λn st=>k (.ref n) st)=Se):Out C [] σ s k (.ref D) s':=by
 refine St.push_e h λst6 e1 e2 h7=>?_
 have hn:(σ1++[D])[st.n]? = Sa D:=by rw[I'.n];simp
 have v:=fj (σ:=σ1++[D]) (h:=s'.heap) hI
 have ab4:Inv C (σ1++[D]) st6 s':=I'.name e1 e2 rfl nD (by rw[g];rfl) nh (λvs n=>cE g rfl (by decide) vs n) ⟨us,m,g,v⟩
 exact⟨_,.ref st.n,st6,S'.name nD dD,ab4,.ref hn,h7⟩
theorem AG {P:Prop}{k:KV} {x:Int}(h:lU k fm c x st=Se)
  (H:∀(ci m:Nat) (xs:Sd Int) (ks:Sd KP) (st2:St),cT x<=63->small x=Se->fm.cel[c]? = Sa ci->4<=ci->st.look ci=Sa (.cell (Sa (.ref m)))->4<=m->st.look m=Sa (.list (xs.map V.int))->ks.length=cT x ->
   (∀i,i<cT x->∃z,xs[i]? = Sa z/\small z=Se/\aB (cT z)=Se/\ks[i]? = Sa (cw [32] (cT z),(0:Int)+i))->iH (dJ ks [])=Se->st2.n=st.n+1->(∀j,st2.look j=if j=st.n then Sa .hid else st.look j) ->
   st2.push (.list ((dJ ks []).map λx=>V.int x.2)) (λn st=>k (.ref n) st)=Se->P):P:=by
 refine aM h λhlen a0=>?_;clear h
 refine aM a0 λhsm a1=>?_;clear a0
 refine gE a1 λci hci a2=>?_;clear a1
 refine aM a2 λhc4 a3=>?_;clear a2
 refine St.get_e a3 λo hlc a4=>?_;clear a3
 refine gU a4 λv e81 a5=>?_;clear a4;subst e81
 refine gJ a5 λv e81 a6=>?_;clear a5;subst e81
 refine bO a6 λm e81 a7=>?_;clear a6;subst e81
 refine aM a7 λhm4 a8=>?_;clear a7
 refine bC a8 λl hlm a9=>?_;clear a8
 refine j7 a9 λxs e81 a10=>?_;clear a9;subst e81
 refine fF (wX a10) λks hkl hks a11=>?_
 refine aM a11 λhrise a12=>?_;clear a11
 refine St.push_e a12 λst2 e1 e2 a13=>?_;clear a12
 rw[eq] at a13
 exact H ci m xs ks st2 (Sl hlen) hsm hci (Sl hc4) hlc (Sl hm4) hlm hkl hks hrise e1 e2 a13
structure SortJ (C:Cfg)(af ac L1:Ss)(xs:Sd Int)(ks:Sd KP)(N:Nat)(aa3:Heap)(aaV:Sr)(kl:Sd Sn)(s':Sr):Prop where
 len:kl.length<=N
 val:∀(i:Nat) (v:Sn),kl[i]? = Sa v->∃p t,ks[i]? = Sa p/\v=.str ⟨p.1.toArray⟩ t
 keep:∀b o,b≠af->b≠ac->b≠L1->aa3.get? b=Sa o->s'.heap.get? b=Sa o
 at_:∃m,s'.heap.get? L1=Sa (UP "list" kl.toArray m)
 inv:Inv C.bare [af,ac] (cM xs) s'
 os:s'.os=aaV.os
 gens:UV aaV.gens->UV s'.gens
theorem pH {p:Ss}(h1:p≠a)(h2:p≠b):p∉[a,b]:=λm=>(Sv.mp m).elim h1 λm=>h2 (Sj.mp m)
theorem SortJ.key {L1:Ss} {aa3:Heap} {kl:Sd Sn}(J:SortJ C af ac L1 xs ks N aa3 aaV kl s')(hi:kl.length<N)(na:L1≠af)(nc:L1≠ac)(nK0:C.aa3.get? L1=none){z:Int}{j:Int}(hz:ks[kl.length]? = Sa (cw [32] (cT z),j))
  {w:Sn} (hw:∃t,w=.str (Mk z) t) (S:Step [] [af,ac] s' [af,ac] s'') (I:Inv C.bare [af,ac] (cM xs) s''):(∃m,s''.heap.get? L1=Sa (UP "list" kl.toArray m))/\SortJ C af ac L1 xs ks N aa3 aaV (kl++[w]) { s'' with heap:=s''.heap.update L1 (S5 (·.push w)) }:=by
 refine bH (J.at_) λmk j4=>?_
 have nK:=pH na nc
 have gK:=S.keep _ _ nK (λm=>nomatch m) j4
 refine⟨⟨mk,gK⟩,by rw[SU];exact hi,λi v q=>?_,λb o n1 n2 n3 q=>?_,?_,?_,S.os.trans J.os,λq=>S.gens (J.gens q)⟩
 ·rw[Sd.getElem?_append] at q
  split at q
  ·exact J.val i v q
  ·obtain⟨t,rfl⟩:=hw
   rename_i hb
   cases e:i - kl.length with
   | zero=>
    rw[e] at q
    have:i=kl.length:=UN (VQ e) (Uk.mp hb)
    exact⟨_,t,this▸hz,(Sa.inj q).symm⟩
   | succ n=>rw[e] at q;exact iq q
 ·show(s''.heap.update _ _).get? b=_
  rw[Heap.get?_update_other _ _ (Ne.symm n3)]
  exact S.keep _ _ (pH n1 n2) (λm=>nomatch m) (J.keep b o n1 n2 n3 q)
 ·refine bH (fq (·.push w) kl mk) λmm hmm=>?_
  refine⟨mm,(Heap.get?_update_self _ gK (by rfl)).trans (SO Sa (hmm.trans ?_))⟩
  rw[aac]
 ·refine I.other (W:=[L1]) (λb o nb q=>?_) (λb hb=>by rw[Sj.mp hb];exact⟨nK,nK0⟩) (λb hb vs n q=>?_)
  ·exact(Heap.get?_update_other _ _ (λz=>nb (Sj.mpr z.symm))).trans q
  ·rw[Sj.mp hb] at q;exact cE gK rfl (by decide) _ _ q
theorem SortJ.done {L1 Ls:Ss} {aa3 aaS:Heap} {kl:Sd Sn}{arr:Array Sn}(J:SortJ C af ac L1 xs ks N aa3 aaV kl s')(nLa:Ls≠af)(nLc:Ls≠ac)(nLK:Ls≠L1)(na:L1≠af)(nc:L1≠ac)
  (nL0:C.aa3.get? Ls=none) (nK0:C.aa3.get? L1=none) {e0:Nat} (gL:aa3.get? Ls=Sa (UP "list" #[] e0)) (hk:∀b o,aaS.get? b=Sa o->b≠Ls/\b≠L1/\aa3.get? b=Sa o) {hE:Heap} (eE:(s'.heap.update L1 (S5 λ_=>#[])).update Ls (S5 λ_=>arr)=hE) :
  (∃m,hE.get? Ls=Sa (cB arr.toList m))/\(∀b o,b≠af->b≠ac->aaS.get? b=Sa o->hE.get? b=Sa o)/\Inv C.bare [af,ac] (cM xs) { s' with heap:=hE }:=by
 refine bH (J.at_) λmk j4=>?_
 have gL':=J.keep _ _ nLa nLc nLK gL
 have kp2:∀b o,b≠Ls->b≠L1->s'.heap.get? b=Sa o->hE.get? b=Sa o:=λb o n1 n2 q=>by
  rw[←eE,Heap.get?_update_other _ _ (Ne.symm n1),Heap.get?_update_other _ _ (Ne.symm n2)];exact q
 refine⟨?_,λb o n1 n2 q=>?_,?_⟩
 ·refine bH (fq (λ_=>arr) [] e0) λmE hmE=>?_
  exact⟨mE,eE▸(Heap.get?_update_self _ ((Heap.get?_update_other _ _ (Ne.symm nLK)).trans gL') (by rfl)).trans (SO Sa hmE)⟩
 ·refine kW (hk b o q) λa c g=>?_
  exact kp2 b o a c (J.keep b o n1 n2 c g)
 ·refine J.inv.other (W:=[Ls,L1]) (λb o nb q=>kp2 b o (λz=>nb (z▸.head _)) (λz=>nb (z▸.tail _ (.head _))) q) (λb hb=>?_) (λb hb vs n q=>?_)
  ·rcases Sv.mp hb with rfl | hb
   ·exact⟨pH nLa nLc,nL0⟩
   ·rw[Sj.mp hb];exact⟨pH na nc,nK0⟩
  ·rcases Sv.mp hb with rfl | hb
   ·exact cE gL' rfl (by decide) _ _ q
   ·rw[Sj.mp hb] at q;exact cE j4 rfl (by decide) _ _ q
structure LamAt (C:Cfg)(lsc:Scope)(params:Arguments)(body:Expr)(qual:Str)(clos:Sd (Str×Ss))(f af ac:Ss)(h:Heap):Prop where
 at_:∃pm c' ctv,h.get? f=Sa (aaE "<lambda>" qual params body lsc clos pm c' ctv)/\h.CodeRec (.ref c') qual
 nf:f≠af/\f≠ac
theorem LamAt.keep {body:Expr} {f:Ss} {w:Sr}(x:LamAt C lsc params body qual clos f af ac h)(I:Inv C.bare [af,ac] (cM xs) w)(ew:w.heap=h)(k:∀b o,b≠af->b≠ac->h.get? b=Sa o->h'.get? b=Sa o):LamAt C lsc params body qual clos f af ac h':=by
 obtain⟨⟨pm,c',ctv,hf,hrec⟩,na,nc⟩:=x
 refine⟨⟨pm,c',ctv,k _ _ na nc hf,?_⟩,na,nc⟩
 refine qG hrec λabn oc vs tq q1 hoc hd' hq'=>?_
 subst ew
 refine⟨abn,oc,vs,tq,q1,k _ _ (λq=>?_) (λq=>?_) hoc,hd',hq'⟩
 ·obtain⟨b,q1,us,m,g,_⟩:=I.at_ 0 (.list (fE .int xs)) rfl
  cases q1
  rw[q,g] at hoc;cases hoc;cases hd'
 ·obtain⟨b,q1,u,⟨oo,g,dd⟩,_⟩:=I.at_ 1 (.cell (Sa (.ref 0))) rfl
  cases q1
  rw[q,g] at hoc;cases hoc;rw[dd] at hd';cases hd'
theorem qp {a b:Nat}(h:a<b):@Ne Ss a b:=SJ h
theorem eU {a b:Nat}(h:a<b):@Ne Ss b a:=Tu h
theorem u5 (Ok:C.Ok) {body:Expr}{e:CE} (L:ph lsc params x y)(he:SE C.bare (aR lsc) d body e)
  (hE:∀(xs:Sd Int) (j:Nat) (z:Int) (K:KV),xs[j]? = Sa z->j<=63->small z=Se->aB (cT z)=Se->K (.str (cw [32] (cT z))) (cM xs)=Se->e ⟨[Sa (.int j)],[1]⟩ (cM xs) K=Se) (R:Rm (d+3) A)
 {f r:Ss} (hl:LamAt C lsc params body qual clos f af ac s.heap) (hcl:clos.lookup x=Sa ac) (I:Inv C.bare [af,ac] (cM xs) s) {x0:Int} {t u v:Tok} (hr:WL s.heap r 0 x0 1 t u v) (hlen:cT x0<=63) (hsm:small x0=Se)
 (hkl:ks.length=cT x0) (hks:∀i,i<cT x0->∃z,xs[i]? = Sa z/\small z=Se/\aB (cT z)=Se/\ks[i]? = Sa (cw [32] (cT z),(0:Int)+i)) (hrise:iH (dJ ks [])=Se) 
  (H:∀(Ls:Ss) (us:Sd Sn) (m:Nat) (s':Sr),(∀p o,s.heap.get? p=Sa o->p<Ls)->s'.heap.get? Ls=Sa (cB us m)->UG us ((dJ ks []).map (·.2))->(∀b o,b≠af->b≠ac->s.heap.get? b=Sa o->s'.heap.get? b=Sa o)->Inv C.bare [af,ac] (cM xs) s'->s'.os=s.os ->
   (UV s.gens->UV s'.gens)->Q (.ref Ls) s'):So C.M A (call (.builtin "sorted") [.ref r] [(TT "key",.ref f)]) Q E s:=by
 have hrange:To 0 x0 1=(cT x0:Int):=by rw[lm,ey,Int.sub_zero]
 refine uJ R.handled hr (jk rfl hsm) hrange (Uh hlen) λaa8 tk4 acc hk4 hacc hL hp4 hlt=>?_
 generalize hLe:aa8.objs.size - 1=Ls at *
 have hLs:aa8.objs.size=Ls+1:=by rw[←hLe];exact(Nat.succ_pred_eq_of_pos hp4).symm
 obtain⟨vs⟩:=acc
 have hls:vs.length=cT x0:=hacc.1
 have hvs:∀(i:Nat) (v:Sn),vs[i]? = Sa v->∃p u,ks[i]? = Sa p/\v=.int p.2 u:=λi v q=>by
  refine fD (hks i (by rw[←hls];exact(Sy.mp q).1)) λz _ _ _ h4=>?_
  refine bH (hacc.2 i v (by rw[←VO];exact q)) λu hu=>?_
  exact⟨_,u,h4,by rw[hu,Int.mul_one]⟩
 clear hacc hLe hp4
 obtain⟨L1,eL1⟩:∃L1,L1=aa8.objs.size+1:=⟨_,rfl⟩
 have lL1:@LT.lt Nat _ Ls L1:=by rw[eL1,hLs];exact Th (SX _)
 obtain⟨e0,he1⟩:∃e0,(aa8.update Ls (S5 λ_=>#[])).get? Ls=Sa (UP "list" #[] e0):=⟨_,by rw[Heap.get?_update_self _ hL (by rfl)];rfl⟩
 have gLs:(oW aa8 Ls vs).get? Ls=Sa (UP "list" #[] e0):=Heap.get?_push_of_some _ (Heap.get?_push_of_some _ he1)
 have szH:((aa8.update Ls (S5 λ_=>#[])).push (UP "tuple" vs.toArray 0)).objs.size=L1:=by rw[Heap.size_push,Heap.size_update,eL1]
 have gK0:(oW aa8 Ls vs).get? L1=Sa (UP "list" #[] 0):=by rw[←szH];exact Heap.get?_push_size _ rfl
 have hH:∀b o,s.heap.get? b=Sa o->b≠Ls/\b≠L1/\(oW aa8 Ls vs).get? b=Sa o:=λb o q=>by
  have l:=hlt b o q
  exact⟨qp l,qp (SH l lL1),Heap.get?_push_of_some _ (Heap.get?_push_of_some _ ((Heap.get?_update_other _ _ (eU l)).trans (hk4 b o q)))⟩
 have live:∀{p:Ss},p∈[af,ac]->@LT.lt Nat _ p Ls:=λ{p} m=>by
  refine bH (S1.mp (I.new p m).2) λo q=>?_
  exact hlt p o q
 have la:=live (.head _)
 have lc:=live (.tail _ (.head _))
 have ka:=SH la lL1
 have kc:=SH lc lL1
 have nL0:C.aa3.get? Ls=none:=by
  cases q:C.aa3.get? Ls with
  | none=>rfl
  | some o=>exact S8 (hlt _ _ (I.base _ _ q)) (Tj _)
 have nK0:C.aa3.get? L1=none:=by
  cases q:C.aa3.get? L1 with
  | none=>rfl
  | some o=>exact S8 (SH lL1 (hlt _ _ (I.base _ _ q))) (Tj _)
 have Ib4:Inv C.bare [af,ac] (cM xs) { s with heap:=oW aa8 Ls vs,toks:=tk4 }:=I.grow λb o q=>(hH b o q).2.2
 have gLv:aa8.get? Ls=Sa (UP "list" vs.toArray 0):=hL
 refine nx (κ:=UB) strKind_oneLt (s:={ s with heap:=aa8,toks:=tk4 }) (vs:=vs) (n:=0) rfl gLv (by rw[hls];exact Uh hlen) (SortJ C af ac L1 xs ks (cT x0) (oW aa8 Ls vs) s) he1 ?_ ?_ ?_ ?_
 ·exact⟨Td _,λi v q=>(nomatch q),λb o _ _ _ q=>q,⟨0,gK0⟩,Ib4,rfl,λq=>q⟩
 ·intro kl s' J
  exact⟨hls▸J.len,eL1▸J.at_,J.keep _ _ (eU la) (eU lc) (qp lL1) gLs⟩
 ·intro kl v s' J hv
  have hi:kl.length<cT x0:=by rw[←hls];exact(Sy.mp hv).1
  refine fD (hks _ hi) λz hz hz1 hz2 hz3=>?_
  refine fB (hvs _ _ hv) λp u hp e83=>?_;subst e83
  rw[hz3] at hp
  cases hp
  obtain⟨⟨pm,c',ctv,hf',hrec'⟩,_⟩:=hl.keep I rfl λb o n1 n2 q=>J.keep b o n1 n2 (hH b o q).2.1 (hH b o q).2.2
  rw[Int.zero_add]
  refine Sm (Et Ok L he hE (A:=A.in1.in1) R.in1.in1 hf' hrec' hcl J.inv hz (TJ (Sx hi hlen)) hz1 hz2) ?_ λ_ _ e=>e
  rintro w s'' ⟨hw,S,I''⟩
  show(∃m,s''.heap.get? (aa8.objs.size+1)=_)/\_
  rw[←eL1]
  exact J.key hi (eU ka) (eU kc) nK0 hz3 hw S I''
 ·intro kl s' J hkl'
  refine⟨xP J.val hvs,λh2=>yg J.val (hkl'▸h2),λst' hp hs=>⟨rfl,?_⟩⟩
  have hI:=Bq hkl' (by rw[hkl,hls]) J.val hvs hp hs hrise
  rw[←eL1]
  generalize eE:(s'.heap.update L1 (S5 λ_=>#[])).update Ls (S5 λ_=>(ZT st').map (·.2))=hE
  refine kW (J.done (eU la) (eU lc) (qp lL1) (eU ka) (eU kc) nL0 nK0 gLs hH eE) λh80 kp J5=>?_;obtain⟨m,g⟩:=h80
  exact H Ls _ m _ hlt g hI kp J5 J.os J.gens
theorem y8 {st2:St} {ci:Nat} {aaR:Sr}(aaW:Inv C σ st1 s)(Ia:Inv C (σ++[a]) st2 aaR)(e2:∀j,st2.look j=if j=st1.n then Sa .hid else st1.look j)(haf:σ[m]? = Sa af)(hac:σ[ci]? = Sa ac)(hc4:4<=ci)(hm4:4<=m)
  (hlc:st1.look ci=Sa (.cell (Sa (.ref m)))) (hlm:st1.look m=Sa (.list (xs.map V.int))) (kp:∀b o,b≠af->b≠ac->aaR.heap.get? b=Sa o->s'.heap.get? b=Sa o) (J:Inv C.bare [af,ac] (cM xs) s'):Inv C (σ++[a]) st2 s':=by
 have st2l:∀{i:Nat} {o:O},st1.look i=Sa o->st2.look i=Sa o:=λ{i o} q=>by rw[e2,Sz (SJ (aaW.lt q))];exact q
 have idx:∀{i:Nat} {b:Ss},σ[i]? = Sa b->(σ++[a])[i]? = Sa b:=λ{i b} e=>by rw[Ti (Sy.mp e).1];exact e
 refine Ia.reshow (X:=[af,ac]) (λb o nb q=>kp b o (λz=>nb (z▸.head _)) (λz=>nb (z▸.tail _ (.head _))) q) λb hb=>?_
 rcases Sv.mp hb with rfl | hb
 ·obtain⟨_,q,us,mm,g,r⟩:=J.at_ 0 (.list (fE .int xs)) rfl
  cases q
  rw[eq] at r
  exact⟨m,_,hm4,idx haf,st2l hlm,(λq=>nomatch q),by show SP.isSome _=Se;rw[g];rfl,us,mm,g,fj (eF r)⟩
 ·rw[Sj.mp hb]
  obtain⟨_,q,w,g,r⟩:=J.at_ 1 (.cell (Sa (.ref 0))) rfl
  cases q
  cases r
  rename_i q
  cases q
  refine⟨ci,_,hc4,idx hac,st2l hlc,(λq=>nomatch q),?_,_,g,.ref (idx haf)⟩
  refine aE g λ_ g _=>?_
  show SP.isSome _=Se
  rw[g];rfl
theorem yK (F:FrR C fx env fm σ s) {ci:Nat}(L:ph lsc params x y)(hfr:fx.cn[c]? = Sa x)(hci:fm.cel[c]? = Sa ci):∃clos ac,YP lsc env=pure clos/\clos.lookup x=Sa ac/\σ[ci]? = Sa ac:=by
 obtain⟨clos,hcl,_,hclq⟩:=xf F L.sc (fr:=[c]) (q:=[ci]) (by rw[L.free];simp[hfr]) rfl (λi j e=>by
  induction i with
  | zero=>cases e;exact⟨ci,hci,rfl⟩
  | succ i=>cases e)
 obtain⟨a,n,a1,a2,a3⟩:=hclq 0 x (by rw[L.free];rfl)
 cases a1
 exact⟨clos,a,hcl,a2,a3⟩
theorem xV (Ok:C.Ok) {body:Expr}{e:CE} (L:ph lsc params x y)(he:SE C.bare (aR lsc) d body e)
  (hE:∀(xs:Sd Int) (j:Nat) (z:Int) (K:KV),xs[j]? = Sa z->j<=63->small z=Se->aB (cT z)=Se->K (.str (cw [32] (cT z))) (cM xs)=Se->e ⟨[Sa (.int j)],[1]⟩ (cM xs) K=Se) (R:Rm (d+3) A)
  {st2:St} {w:Sr} {f r:Ss} {ci:Nat} (aaW:Inv C σ1 st1 aaQ) (aaU:Step [] σ s σ1 aaQ) (Ia:Inv C (σ1++[a]) st2 w) (na:a∉σ1) (da:aaQ.heap.get? a=none) (og:w.os=aaQ.os/\w.gens=aaQ.gens) (kp:∀b o,b∉σ1->aaQ.heap.get? b=Sa o->w.heap.get? b=Sa o)
  (e2:∀j,st2.look j=if j=st1.n then Sa .hid else st1.look j) (hac:σ1[ci]? = Sa ac) (hc4:4<=ci) (hm4:4<=m) (hlc:st1.look ci=Sa (.cell (Sa (.ref m)))) (hlm:st1.look m=Sa (.list (xs.map V.int))) 
  (hf:∃pm c' ctv,w.heap.get? f=Sa (aaE "<lambda>" qual params body lsc clos pm c' ctv)/\w.heap.CodeRec (.ref c') qual) (nf:f∉σ1) (hcl:clos.lookup x=Sa ac) {x0:Int} {t u v:Tok} (hr:WL w.heap r 0 x0 1 t u v) (hlen:cT x0<=63) (hsm:small x0=Se)
 (hkl:ks.length=cT x0) (hks:∀i,i<cT x0->∃z,xs[i]? = Sa z/\small z=Se/\aB (cT z)=Se/\ks[i]? = Sa (cw [32] (cT z),(0:Int)+i)) (hrise:iH (dJ ks [])=Se) (dL:∀{p:Ss},@LT.lt Nat _ r p->s.heap.get? p=none) {k:KV}
  (h5:st2.push (.list ((dJ ks []).map λx=>V.int x.2)) (λn st=>k (.ref n) st)=Se):So C.M A (call (.builtin "sorted") [.ref r] [(TT "key",.ref f)]) (Out C [] σ s k) cL w:=by
 have st2l:∀{i:Nat} {o:O},st1.look i=Sa o->st2.look i=Sa o:=λ{i o} q=>by rw[e2,Sz (SJ (aaW.lt q))];exact q
 have idx:∀{i:Nat} {b:Ss},σ1[i]? = Sa b->(σ1++[a])[i]? = Sa b:=λ{i b} e=>by rw[Ti (Sy.mp e).1];exact e
 obtain⟨af,haf,-⟩:=aaW.at_ m _ hlm
 have maf:af∈σ1:=Sp haf
 have mac:ac∈σ1:=Sp hac
 have Ib:Inv C.bare [af,ac] (cM xs) w:=by
  refine Ei Ia (Uj _ maf) (Uj _ mac) (λq=>?_) ?_ ?_
  ·have:=aaW.inj haf (q▸hac)
   subst this
   rw[hlm] at hlc
   cases hlc
  ·obtain⟨b,q,o⟩:=Ia.at_ m _ (st2l hlm)
   cases (idx haf).symm.trans q
   exact o
  ·obtain⟨b,q,u,g,r⟩:=Ia.at_ ci _ (st2l hlc)
   cases (idx hac).symm.trans q
   cases r
   rename_i q
   cases (idx haf).symm.trans q
   exact g
 have nn:∀{p},p∈σ1->f≠p:=λm q=>nf (q▸m)
 refine u5 Ok L he hE R ⟨hf,nn maf,nn mac⟩ hcl Ib hr hlen hsm hkl hks hrise λLs us n s' hlt g hI kq J os gn=>?_
 have nL:Ls∉σ1++[a]:=λmm=>by
  obtain⟨o,q⟩:=S1.mp (Ia.new _ mm).2
  exact S8 (hlt _ _ q) (Tj _)
 have nL0:C.aa3.get? Ls=none:=by
  cases q:C.aa3.get? Ls with
  | none=>rfl
  | some o=>exact S8 (hlt _ _ (Ia.base _ _ q)) (Tj _)
 refine ye (y8 aaW Ia e2 haf hac hc4 hm4 hlc hlm kq J) (aaU.trans ⟨⟨[a],rfl,λb mb=>by rw[Sj.mp mb];exact⟨na,.inl da⟩⟩,λb o nb _ q=>kq b o (λz=>nb (z▸maf)) (λz=>nb (z▸mac)) (kp b o nb q),os.trans og.1,λq=>gn (og.2▸q)⟩) nL (dL (hlt _ _ hr)) nL0 g hI ?_
 rw[T9]
 exact h5
theorem VRs.oneInt {i:Int}{us:Sd Sn}(r:VRs σ h [.int i] us):∃t,us=[.int i t]:=by
 exact VRs.cons_e r λ_ _ a b=>VRs.nil_e b (VR.int_e a λt=>⟨t,rfl⟩)
theorem Dt (Ok:C.Ok)(B:lZ C){t:lN}(kt:ju C t)(hl:t.lam=Se)(hcode:env.code=.ref t.code) {body:Expr}{e:CE} (hn:SE C fx (d+3) en cn)(L:ph lsc params x y)(he:SE C.bare (aR lsc) d body e)
  (hE:∀(xs:Sd Int) (j:Nat) (z:Int) (K:KV),xs[j]? = Sa z->j<=63->small z=Se->aB (cT z)=Se->K (.str (cw [32] (cT z))) (cM xs)=Se->e ⟨[Sa (.int j)],[1]⟩ (cM xs) K=Se)
  (hok:fx.ok=Se) (x1:("sorted":Str)∈fx.gn) (x2:("range":Str)∈fx.gn) (g1:GB C "sorted" (.builtin "sorted")) (g2:GB C "range" (.type "range")) (p1:aL [en]) {kp lpos:Pos} (hpos:lpos=t.pos) (hq:env.qual ++ "<lambda>"=t.q) (hfr:fx.cn[c]? = Sa x)
  {k:KV} (R:Rm (d+3) A) (E:bb fx env) (I:Inv C σ st s) (F:FrR C fx env fm σ s) (h:pr cn c fm st k=Se) :
  gf C A (eval (.Call (.Name "sorted" z0) [.Call (.Name "range" z1) [en] [] z2] [⟨Sa "key",.Lambda params body lsc lpos,kp⟩] z3) env) σ s k:=by
 refine Tw (bS Ok hok x1 g1 E I ?_)
 refine callWith_kw ?_
 refine U6 ?_
 refine Tw (bS Ok hok x2 g2 E I ?_)
 rw[yn] at h
 refine bL (cs:=ae cn av) (k:=λvs st=>nv vs λx=>aG x λx=>lU k fm c x st) Ok bK p1 (cO hn ag (λenv=>by obtain⟨e0,rest,e1,he⟩:=p1.2.resolve_left (λq=>nomatch q);cases e1;exact he env)) R E I F h λσ1 l st1 us aaQ aaU aaW aaZ _ aaS=>?_
 refine d9 aaS λv e81 aaS=>?_;subst e81
 refine aO aaS λx0 e81 aaS=>?_;subst e81
 obtain⟨tk0,rfl⟩:=aaZ.oneInt
 refine AG aaS λci m xs ks st2 hlen hsm hci hc4 hlc hm4 hlm hkl hks hrise e1 e2 h5=>?_
 refine Z7 (Yr ?_)
 refine gx (yK (aaU.fr0 F) L hfr hci) λclos ac hcl hclx hac=>?_
 have nr:aaQ.heap.objs.size∉σ1:=λm=>Tj _ (aaW.size m)
 generalize abh:({ aaQ with heap:=aaQ.heap.push { cls:=.type "range",data:=.fields #[.int 0 aaQ.toks,.int x0 tk0,.int 1 (aaQ.toks+1)] },toks:=aaQ.toks+1+1 }:Sr)=aaR
 have hr:WL aaR.heap aaQ.heap.objs.size 0 x0 1 aaQ.toks tk0 (aaQ.toks+1):=by rw[←abh];exact Heap.get?_push_size _ rfl
 obtain⟨ab2,os2,gn2⟩:(∀b o,aaQ.heap.get? b=Sa o->aaR.heap.get? b=Sa o)/\aaR.os=aaQ.os/\aaR.gens=aaQ.gens:=by rw[←abh];exact⟨λb o e=>Heap.get?_push_of_some _ e,rfl,rfl⟩
 clear abh
 have aa4:Inv C σ1 st1 aaR:=aaW.grow ab2
 refine kws_cons (Bf Ok B kt hl hcode E.glob aa4 nr (by rw[hr];rfl) (bE aaW (SQ _)) (λvs n=>cE hr rfl (by decide) vs n) hpos hq (L.dflt env) hcl e1 e2 λf a c' ctv pm h' tk na hda Ia hf hrec hfs hkeep=>?_)
 refine kws_nil ?_
 have dL:∀{p:Ss},@LT.lt Nat _ aaQ.heap.objs.size p->s.heap.get? p=none:=λl=>gr aaU aaW (bD (TJ l))
 have tabσ:t.tab∈σ1:=by obtain⟨j,hj,_⟩:=aaW.tabs t kt.mem;exact Sp hj
 have da:aaQ.heap.get? a=none:=hda.elim (λq=>q▸bD (SQ _)) λq=>by
  cases z:aaQ.heap.get? a with
  | none=>rfl
  | some o=>rw[ab2 _ _ z] at q;exact nomatch q
 have hr3:WL h' aaQ.heap.objs.size 0 x0 1 aaQ.toks tk0 (aaQ.toks+1):=hkeep _ _ (λq=>nr (q▸tabσ)) hr
 have kp:∀b o,b∉σ1->aaQ.heap.get? b=Sa o->h'.get? b=Sa o:=λb o n q=>hkeep b o (λz=>n (z▸tabσ)) (ab2 b o q)
 exact xV Ok L he hE R aaW aaU Ia na da ⟨os2,gn2⟩ kp e2 hac hc4 hm4 hlc hlm ⟨pm,c',ctv,hf,hrec⟩ (λq=>Tj _ (Tg hfs (aa4.size q))) hclx hr3 hlen hsm hkl hks hrise dL h5
end
noncomputable section
abbrev OV:=SP V
abbrev SB:=St->Si
noncomputable abbrev no:OV:=none
noncomputable abbrev sm (v:V):OV:=Sa v
def fC (c:Nat)(st:St)(k:V->Si):Si:=st.get c λo=>eo o λw=>cU w k
def kK (c:Nat)(v:V)(st:St)(k:St->Si):Si:=st.get c λo=>eo o λ_=>st.set c (.cell (Sa v)) k
def vw (x y v:V)(st:St)(k:St->Si):Si:=fe x st λn c d fs l=>bB v λm=>bg st m λq=>aD (aB (aK l)) (aD (aB (aK q))
 (cp y (st.set n (.lsub c d fs q) k) (λ_=>ll) (λi=>st.set n (.lsub c d fs (bp (fy l (eV i (aK l))) q)) k) (λ_=>ll) (λ_=>ll) (λ_=>ll)) ll) ll
def xx (x:V)(st:St)(k:It->St->Si):Si:=cp x ll (λ_=>ll) (λ_=>ll) (λs=>aD (fN s) (k (.str s) st) ll) (λn=>bg st n λ_=>k (.seq n 0) st) (λl=>k (.tup l) st)
def Oz (v:V)(k:Si):Si:=cp v k (λ_=>ll) (λ_=>ll) (λ_=>ll) (λ_=>ll) (λ_=>ll)
def dQ (c:Nat)(x:V)(st:St)(k:Si):Si:=bB x λn=>St.get st n λo=>pi o λd _ _=>aD (SD d c) k ll
def iB (m:Nat)(v:V)(st:St)(k:Sd V->Si):Si:=cp v ll (λ_=>ll) (λ_=>ll) (λ_=>ll) (λn=>bg st n λl=>aD (SD (aK l) m) (k l) ll) (λl=>aD (SD (aK l) m) (k l) ll)
def Ma (k:KV)(vs:Sd V)(st:St):Si:=aD (aB (aK vs)) (St.push st (.list vs) λn st=>k (.ref n) st) ll
def K0 (k:KV):Fl->Fm->St->Si:=λf _ st=>@Fl.rec (λ_=>Si) (k .none st) ll ll (λv=>k v st) f
def RO (l:Sd (SP V))(k:V->Sd (SP V)->Si)(z:Si):Si:=@SZ (SP V) (λ_=>Si) z (λo r _=>@ZV V (λ_=>Si) z (λv=>k v r) o) l
def RH (l:Sd (SP V))(k:SP V->Sd (SP V)->Si)(z:Si):Si:=@SZ (SP V) (λ_=>Si) z (λo r _=>k o r) l
def RY (l:Sd (SP V))(k:Sd (SP V)->Si)(z:Si):Si:=@SZ (SP V) (λ_=>Si) z (λo r _=>@ZV V (λ_=>Si) (k r) (λ_=>z) o) l
def RI (l:Sd (SP V))(k z:Si):Si:=@SZ (SP V) (λ_=>Si) k (λ_ _ _=>z) l
def RB (l:Sd Nat)(k:Nat->Sd Nat->Si)(z:Si):Si:=@SZ Nat (λ_=>Si) z (λo r _=>k o r) l
def RT (l:Sd Nat)(k z:Si):Si:=@SZ Nat (λ_=>Si) k (λ_ _ _=>z) l
inductive Fs where
 | e (m:Nat) | v (s:Fs) | o (s:Fs) | n (s:Fs)
noncomputable abbrev ns (j:Nat)(s:Fs):Fs:=@Tb (λ_=>Fs) s (λ_ ih=>.n ih) j
abbrev Kg (m:Nat)(β:Type):Type:=@Tb (λ_=>Type) β (λ_ ih=>Nat->ih) m
abbrev Fs.Fn (s:Fs)(β:Type):Type:=@Fs.rec (λ_=>Type) (λm=>Kg m β) (λ_ ih=>V->ih) (λ_ ih=>OV->ih) (λ_ ih=>ih) s
abbrev Fs.Fo (s:Fs)(β:Type):Type:=@Fs.rec (λ_=>Type) (λ_=>β) (λ_ ih=>V->ih) (λ_ ih=>OV->ih) (λ_ ih=>ih) s
section
variable {β:Type}
noncomputable abbrev Rp (m:Nat):(Sd Nat->β)->Kg m β:=@Tb (λm=>(Sd Nat->β)->Kg m β) (λg=>g []) (λ_ ih g c=>ih λl=>g (c::l)) m
abbrev Fs.to (s:Fs):(Sd OV->Sd Nat->β)->s.Fn β:=@Fs.rec (λs=>(Sd OV->Sd Nat->β)->s.Fn β) (λm g=>Rp m (g [])) (λ_ ih g v=>ih λl=>g (Sa v::l)) (λ_ ih g v=>ih λl=>g (v::l)) (λ_ ih g=>ih λl=>g (none::l)) s
abbrev J3 (m:Nat):Sd Nat->Kg m β->(β->Si)->Si->Si:=@Tb (λm=>Sd Nat->Kg m β->(β->Si)->Si->Si) (λc f k z=>RT c (k f) z) (λ_ ih c f k z=>RB c (λx r=>ih r (f x) k z) z) m
abbrev Fs.sel (s:Fs):Sd OV->Sd Nat->s.Fn β->(β->Si)->Si->Si:=@Fs.rec (λs=>Sd OV->Sd Nat->s.Fn β->(β->Si)->Si->Si) (λm l c f k z=>RI l (J3 m c f k z) z)
 (λ_ ih l c f k z=>RO l (λv r=>ih r c (f v) k z) z) (λ_ ih l c f k z=>RH l (λv r=>ih r c (f v) k z) z) (λ_ ih l c f k z=>RY l (λr=>ih r c f k z) z) s
abbrev Rr (l:Sd OV):OV:=@SZ OV (λ_=>OV) none (λx _ _=>x) l
abbrev QA (l:Sd OV):Sd OV:=@SZ OV (λ_=>Sd OV) [] (λ_ r _=>r) l
abbrev Fs.get (s:Fs):Sd OV->s.Fo β->β:=@Fs.rec (λs=>Sd OV->s.Fo β->β) (λ_ _ f=>f) (λ_ ih l f=>ih (QA l) (f (@ZV V (λ_=>V) .none (λv=>v) (Rr l)))) (λ_ ih l f=>ih (QA l) (f (Rr l))) (λ_ ih l f=>ih (QA l) f) s
abbrev Fs.cst (s:Fs)(x:β):s.Fo β:=@Fs.rec (λs=>s.Fo β) (λ_=>x) (λ_ ih _=>ih) (λ_ ih _=>ih) (λ_ ih=>ih) s
theorem DE {g:Sd Nat->β}{k:β->Si}{z:Si}:∀{c:Sd Nat},k (g c)=z->J3 m c (Rp m g) k z=z:=by
 induction m generalizing g with
 | zero=>intro c h;match c with
  | []=>exact h
  | _::_=>rfl
 | succ m ih=>intro c h;match c with
  | []=>rfl
  | x::r=>exact ih (g:=λl=>g (x::l)) h
theorem Fs.sel_to {s:Fs}{g:Sd OV->Sd Nat->β}{c:Sd Nat}{k:β->Si}{z:Si}:∀{l:Sd OV},k (g l c)=z->s.sel l c (s.to g) k z=z:=by
 induction s generalizing g with
 | e m=>intro l h;match l with
  | []=>exact DE (g:=g []) h
  | _::_=>rfl
 | v s ih=>intro l h;match l with
  | []=>rfl
  | none::_=>rfl
  | some x::r=>exact ih (g:=λl=>g (Sa x::l)) h
 | o s ih=>intro l h;match l with
  | []=>rfl
  | x::r=>exact ih (g:=λl=>g (x::l)) h
 | n s ih=>intro l h;match l with
  | []=>rfl
  | some _::_=>rfl
  | none::r=>exact ih (g:=λl=>g (none::l)) h
theorem Fs.get_cst {s:Fs}{x:β}:∀{l:Sd OV},s.get l (s.cst x)=x:=by
 induction s with
 | e m=>intro l;rfl
 | v s ih=>intro l;exact ih
 | o s ih=>intro l;exact ih
 | n s ih=>intro l;exact ih
end
abbrev KF:=Fl->Fm->SB
abbrev G0 (s:Fs)(L:CF)(lp:KF->s.Fn (It->SB)):CF:=λfm it st κ=>s.sel fm.loc fm.cel (lp κ) (λB=>B it st) (L fm it st κ)
noncomputable abbrev kJ (i:CI)(F:CF):CS:=λfm st κ=>i fm st λit st=>F fm it st κ
abbrev P8 (t:eN)(a b:CS)(G:CF):CF:=λfm it st κ=>aY st it (b fm st κ) λy it=>t fm y st λfm st=>a fm st λf fm st=>@Fl.rec (λ_=>Si) (G fm it st κ) (κ .nxt fm st) (G fm it st κ) (λv=>κ (.ret v) fm st) f
theorem ko {t:eN}{i:CI}{a b:CS}(s:Fs)(lp:Nat->KF->s.Fn (It->SB))(stp:KF->s.Fn (It->SB)->s.Fn (It->SB))(h0:∀κ,lp 0 κ=s.to λ_ _ _ _=>ll)(h1:∀n κ,lp (n+1) κ=stp κ (lp n κ))
  (hs:∀G κ,(s.to λl c it st=>P8 t a b G ⟨l,c⟩ it st κ)=stp κ (s.to λl c it st=>G ⟨l,c⟩ it st κ)):je t i a b=kJ i (G0 s (dO t a b 200) (lp 200)):=by
 have H:∀n κ,(s.to λl c it st=>dO t a b n ⟨l,c⟩ it st κ)=lp n κ:=λn=>by
  induction n with
  | zero=>intro κ;exact(h0 κ).symm
  | succ n ih=>intro κ;exact(hs (dO t a b n) κ).trans ((SO (stp κ) (ih κ)).trans (h1 n κ).symm)
 refine SO (kJ i) (funext λfm=>funext λit=>funext λst=>funext λκ=>?_)
 show _=s.sel fm.loc fm.cel (lp 200 κ) (λB=>B it st) _
 rw[←H 200 κ]
 exact(Fs.sel_to (g:=λl c it st=>dO t a b 200 ⟨l,c⟩ it st κ) (k:=λB=>B it st) rfl).symm
abbrev On (s:Fs)(L:CS)(lp:KF->s.Fn SB):CS:=λfm st κ=>s.sel fm.loc fm.cel (lp κ) (λB=>B st) (L fm st κ)
abbrev QN (c:CT)(a b:CS)(G:CS):CS:=λfm st κ=>c fm st λx st=>aD x (a fm st λf fm st=>@Fl.rec (λ_=>Si) (G fm st κ) (κ .nxt fm st) (G fm st κ) (λv=>κ (.ret v) fm st) f) (b fm st κ)
theorem vG {c:CT}{a b:CS}(s:Fs)(lp:Nat->KF->s.Fn SB)(stp:KF->s.Fn SB->s.Fn SB)(h0:∀κ,lp 0 κ=s.to λ_ _ _=>ll)(h1:∀n κ,lp (n+1) κ=stp κ (lp n κ))
  (hs:∀G κ,(s.to λl q st=>QN c a b G ⟨l,q⟩ st κ)=stp κ (s.to λl q st=>G ⟨l,q⟩ st κ)):AC c a b=On s (kS c a b 200) (lp 200):=by
 have H:∀n κ,(s.to λl q st=>kS c a b n ⟨l,q⟩ st κ)=lp n κ:=λn=>by
  induction n with
  | zero=>intro κ;exact(h0 κ).symm
  | succ n ih=>intro κ;exact(hs (kS c a b n) κ).trans ((SO (stp κ) (ih κ)).trans (h1 n κ).symm)
 refine funext λfm=>funext λst=>funext λκ=>?_
 show _=s.sel fm.loc fm.cel (lp 200 κ) (λB=>B st) _
 rw[←H 200 κ]
 exact(Fs.sel_to (g:=λl q st=>kS c a b 200 ⟨l,q⟩ st κ) (k:=λB=>B st) rfl).symm
abbrev Fs.kk (s:Fs)(k:Sd V->s.Fo SB):Sd V->Fm->SB:=λvs fm st=>s.get fm.loc (k vs) st
abbrev Qx (t:eN)(c:CT)(b:CB)(G:CC):CC:=λfm it st K=>aY st it (K [] fm st) λy it=>t fm y st λfm st=>c fm st λx st=>aD x (b fm st λvs fm st=>G fm it st λus fm st=>K (bp vs us) fm st) (G fm it st K)
abbrev eA (i:CI)(nl own:Nat)(fr:Sd Nat)(s:Fs)(L:CC)(lp:s.Fn (It->St->(Sd V->s.Fo SB)->Si)):CE:=λfm st k=>xK fm.cel fr λq=>i fm st λit st=>bY own st λo st=>
 s.sel (cq nl) (bp o q) lp (λB=>B it st λvs=>s.cst (Ma k vs)) (L ⟨cq nl,bp o q⟩ it st λvs _ st=>Ma k vs st)
theorem cP {i:CI}{own:Nat}{fr:Sd Nat}{t:eN}{c:CT}{b:CB}(s:Fs)(lp:Nat->s.Fn (It->St->(Sd V->s.Fo SB)->Si))(stp:s.Fn (It->St->(Sd V->s.Fo SB)->Si)->s.Fn (It->St->(Sd V->s.Fo SB)->Si))
  (h0:lp 0=s.to λ_ _ _ _ _=>ll) (h1:∀n,lp (n+1)=stp (lp n)) (hs:∀G,(s.to λl q it st k=>Qx t c b G ⟨l,q⟩ it st (s.kk k))=stp (s.to λl q it st k=>G ⟨l,q⟩ it st (s.kk k))) :
  cI i nl own fr t c b=eA i nl own fr s (bw t c b 200) (lp 200):=by
 have H:∀n,(s.to λl q it st k=>bw t c b n ⟨l,q⟩ it st (s.kk k))=lp n:=λn=>by
  induction n with
  | zero=>exact h0.symm
  | succ n ih=>exact(hs (bw t c b n)).trans ((SO stp ih).trans (h1 n).symm)
 refine funext λfm=>funext λst=>funext λk=>SO (xK fm.cel fr) (funext λq=>SO (i fm st) (funext λit=>funext λst=>SO (bY own st) (funext λo=>funext λst=>?_)))
 show _=s.sel (cq nl) (bp o q) (lp 200) _ _
 rw[←H 200]
 refine(Fs.sel_to ?_).symm
 exact SO (bw t c b 200 ⟨cq nl,bp o q⟩ it st) (funext λvs=>funext λfm=>funext λst=>congrFun Fs.get_cst st)
section
variable {ps:List (Bool×Nat)}{nl nc:Nat}{b:CS}{p q r s t:Bool×Nat}
theorem AI {g:V->St->KV->Si}(h:∀a st k,bn [p] nl nc b [a] st k=g a st k):bn [p] nl nc b=λvs st k=>dc vs λa vs=>ge vs (g a st k):=funext λvs=>funext λst=>funext λk=>match vs with
 | []=>rfl
 | [a]=>h a st k
 | _::_::_=>rfl
theorem mD {g:V->V->St->KV->Si}(h:∀a b' st k,bn [p,q] nl nc b [a,b'] st k=g a b' st k):bn [p,q] nl nc b=λvs st k=>dc vs λa vs=>dc vs λb vs=>ge vs (g a b st k):=funext λvs=>funext λst=>funext λk=>match vs with
 | []=>rfl
 | [_]=>rfl
 | [_,_]=>h _ _ st k
 | _::_::_::_=>rfl
theorem Lq {g:V->V->V->St->KV->Si}(h:∀a b' c st k,bn [p,q,r] nl nc b [a,b',c] st k=g a b' c st k):bn [p,q,r] nl nc b=λvs st k=>dc vs λa vs=>dc vs λb vs=>dc vs λc vs=>ge vs (g a b c st k):=funext λvs=>funext λst=>funext λk=>match vs with
 | []=>rfl
 | [_]=>rfl
 | [_,_]=>rfl
 | [_,_,_]=>h _ _ _ st k
 | _::_::_::_::_=>rfl
end
end
noncomputable section
variable (pS pR pN:Nat)(a b c d e g h i j l m p s t u A B C D E F H I L M N P Q S T:V)(oa ob oc od oe og oh oi oj ol om op os ot ou oA oB oC oD oE oF oH oI oL oM oN oP oQ oS oT:OV)(A0 A1 A2 A3 A4:V)(C0 C1 C2 C3 C4 C5:Nat)(it:It)(st:St)(k:KV)(R:Fm->SB)(κ:Fl->Fm->SB)
def P4:CS:=(aV (bv (aa ll 0) 3) (fM 2 (bh (aw ll 1) (bh (aw ll 2) eW))))
def Qa:CS:=(dq (gv jH (ae (aA cj (gv dU (ae (aa ll 1) av)) (ao (.int 1))) (ae (aa ll 2) av))))
noncomputable def Qh:CS:=aH
def Pu:CS:=aq Qa Qh
def PM:CS:=aq P4 Pu
def p1:CS:=PM
def Q1:FN:=bn [(ll,0)] 3 0 p1
noncomputable def QI (a b c:V)(st:St)(k:KV):=k .none st
def O2 (a b c:V)(st:St)(kk:SB)(k:KV):=(dU [b] st λv1 s2=>(cj v1 (.int 1) s2 λv3 s4=>(jH [v3,c] s4 λv5 s6=>(k v5 s6))))
def PJ (a b c:V)(st:St)(k:KV):=O2 a b c st (λ st=>QI a b c st k) k
def QG (a:V)(st:St)(kk:V->V->SB)(k:KV):=(getAttr a 3 st λv1 s2=>(iB 2 v1 s2 λl3=>(dc l3 λv4 l5=>(dc l5 λv6 l7=>(ge l7 (kk v4 v6 s2))))))
def Pj (a:V)(st:St)(k:KV):=QG a st (λb c st=>PJ a b c st k) k
def g1 (A0:V)(st:St)(k:KV):Si:=(Pj A0 st k)
def H1:FN:=λvs st k=>(dc vs λA0 vs=>(ge vs (g1 A0 st k)))
theorem NB:Q1=H1:=AI λ_ _ _=>by kernel_rfl
def ww (a b c d:V)(kk:V->OV->SB)(ih:V->OV->It->SB)(e:V)(og:OV)(it:It)(st:St):Si:=aY st it (kk e og st) λy1 it2=>(@du.rec (λ_=>Si) (λv3=>(zr v3 b st λv4 s5=>(cZ c v3 s5 λv6 s7=>(bF v4 v6 s7 λv8 s9=>(aQ e v8 s9 λv10 s11=>(ih v10 (Sa v3) it2 s11)))))) (λ_ _=>ll) y1)
def zF (a b c d:V)(kk:V->OV->SB)(n:Nat):V->OV->It->SB:=@Tb (λ_=>_) (λ_ _ _ _=>ll) (λ_ ih=>ww a b c d kk ih) n
def xq:CS:=(aq (aV (aA aQ (aa ll 4) (aA bF (aA zr (aa ll 5) (aa ll 1)) (dw (aa ll 2) (aa ll 5)))) (aw ll 4)) aH)
def FS (n:Nat)(κ:KF):Fs.Fn (.v (.v (.v (.v (.v (.o (.e 0))))))) (It->SB):=λa b c d e og=>zF a b c d (λe og st=>κ .nxt ⟨[sm a,sm b,sm c,sm d,sm e,og],[]⟩ st) n e og
def Mm:CS:=kJ (dG (aa ll 1) (gv dU (ae (aa ll 2) av))) (G0 (.v (.v (.v (.v (.v (.o (.e 0))))))) (dO (em (aw ll 5)) xq aH 200) (FS 200))
theorem C6:(je (em (aw ll 5)) (dG (aa ll 1) (gv dU (ae (aa ll 2) av))) xq aH:CS)=Mm:=ko (.v (.v (.v (.v (.v (.o (.e 0))))))) FS (λκ ih a b c d e og=>ww a b c d (λe og st=>κ .nxt ⟨[sm a,sm b,sm c,sm d,sm e,og],[]⟩ st) (λe og=>ih a b c d e og) e og) (λ_=>rfl) (λ_ _=>rfl) (λ_ _=>by kernel_rfl)
def Pf:CS:=(aV (bv (aa ll 0) 3) (fM 2 (bh (aw ll 2) (bh (aw ll 3) eW))))
def PR:CS:=(aV (ao (.int 0)) (aw ll 4))
def Pp:CS:=Mm
def Qv:CS:=(dq (aA aQ (aa ll 3) (aA bF (aa ll 1) (aA aQ (aa ll 4) (bv (aa ll 0) 2)))))
noncomputable def Ph:CS:=aH
def Pt:CS:=aq Qv Ph
def OH:CS:=aq Pp Pt
def PC:CS:=aq PR OH
def Q9:CS:=aq Pf PC
def p2:CS:=Q9
def Q2:FN:=bn [(ll,0),(ll,1)] 6 0 p2
noncomputable def OQ (a b c d e:V)(og:OV)(st:St)(k:KV):=k .none st
def P1 (a b c d e:V)(og:OV)(st:St)(kk:SB)(k:KV):=(getAttr a 2 st λv1 s2=>(aQ e v1 s2 λv3 s4=>(bF b v3 s4 λv5 s6=>(aQ d v5 s6 λv7 s8=>(k v7 s8)))))
def Pm (a b c d e:V)(og:OV)(st:St)(k:KV):=P1 a b c d e og st (λ st=>OQ a b c d e og st k) k
def P7 (a b c d e:V)(st:St)(kk:V->OV->SB)(k:KV):=(dU [c] st λv6 s7=>(aG b λi8=>aG v6 λi9=>eB i8 i9 1 s7 λit4 s5=>(zF a b c d (λx2 o3 s1=>(kk x2 o3 s1))  200 e none it4 s5)))
def OT (a b c d e:V)(st:St)(k:KV):=P7 a b c d e st (λe og st=>Pm a b c d e og st k) k
noncomputable def Pi (a b c d:V)(st:St)(kk:V->SB)(k:KV):=(kk (.int 0) st)
def PO (a b c d:V)(st:St)(k:KV):=Pi a b c d st (λe st=>OT a b c d e st k) k
def PD (a b:V)(st:St)(kk:V->V->SB)(k:KV):=(getAttr a 3 st λv1 s2=>(iB 2 v1 s2 λl3=>(dc l3 λv4 l5=>(dc l5 λv6 l7=>(ge l7 (kk v4 v6 s2))))))
def OW (a b:V)(st:St)(k:KV):=PD a b st (λc d st=>PO a b c d st k) k
def g2 (A0 A1:V)(st:St)(k:KV):Si:=(OW A0 A1 st k)
def H2:FN:=λvs st k=>(dc vs λA0 vs=>(dc vs λA1 vs=>(ge vs (g2 A0 A1 st k))))
theorem L5:Q2=H2:=mD λ_ _ _ _=>by kernel_rfl
end
noncomputable section
variable (pS pR pN:Nat)(a b c d e g h i j l m p s t u A B C D E F H I L M N P Q S T:V)(oa ob oc od oe og oh oi oj ol om op os ot ou oA oB oC oD oE oF oH oI oL oM oN oP oQ oS oT:OV)(A0 A1 A2 A3 A4:V)(C0 C1 C2 C3 C4 C5:Nat)(it:It)(st:St)(k:KV)(R:Fm->SB)(κ:Fl->Fm->SB)
def wO (a b d:V)(kk:OV->SB)(ih:OV->It->SB)(oe:OV)(it:It)(st:St):Si:=aY st it (kk oe st) λy1 it2=>(@du.rec (λ_=>Si) (λv3=>(dQ 0 a st (H2 [a,v3] st λv7 s8=>(dQ 0 b s8 (H2 [b,v3] s8 λv12 s13=>(kI v7 v12 s13 λCN=>(aD CN (bB d λn15=>St.get s13 n15 λo16=>gQ o16 λ_=>(dQ 0 a s13 (H2 [a,v3] s13 λv22 s23=>(dQ 0 b s23 (H2 [b,v3] s23 λv27 s28=>(jQ d [(.tup [v3,v22,v27])] s28 λv17 s18=>(Oz v17 (ih (Sa v3) it2 s18)))))))) (ih (Sa v3) it2 s13)))))))) (λ_ _=>ll) y1)
def AM (a b d:V)(kk:OV->SB)(n:Nat):OV->It->SB:=@Tb (λ_=>_) (λ_ _ _=>ll) (λ_ ih=>wO a b d kk ih) n
def xm:CS:=(aq (ij (bR kI (bz 0 H2 (aa ll 0) (ae (aa ll 4) av)) (bz 0 H2 (aa ll 1) (ae (aa ll 4) av))) (aq (dI (lQ jQ (aa ll 3) (ae (cN (ae (aa ll 4) (ae (bz 0 H2 (aa ll 0) (ae (aa ll 4) av)) (ae (bz 0 H2 (aa ll 1) (ae (aa ll 4) av)) av)))) av))) aH) aH) aH)
def Fi (n:Nat)(κ:KF):Fs.Fn (.v (.v (.v (.v (.o (.e 0)))))) (It->SB):=λa b c d oe=>AM a b d (λoe st=>κ .nxt ⟨[sm a,sm b,sm c,sm d,oe],[]⟩ st) n oe
def Nu:CS:=kJ (dG (ao (.int 1)) (aA aQ (aa ll 2) (ao (.int 1)))) (G0 (.v (.v (.v (.v (.o (.e 0)))))) (dO (em (aw ll 4)) xm aH 200) (Fi 200))
theorem Ew:(je (em (aw ll 4)) (dG (ao (.int 1)) (aA aQ (aa ll 2) (ao (.int 1)))) xm aH:CS)=Nu:=ko (.v (.v (.v (.v (.o (.e 0)))))) Fi (λκ ih a b c d oe=>wO a b d (λoe st=>κ .nxt ⟨[sm a,sm b,sm c,sm d,oe],[]⟩ st) (λoe=>ih a b c d oe) oe) (λ_=>rfl) (λ_ _=>rfl) (λ_ _=>by kernel_rfl)
def PP:CS:=(aV (aA aQ (gv jH (ae (bz 0 H1 (aa ll 0) av) (ae (bz 0 H1 (aa ll 1) av) av))) (ao (.int 1))) (aw ll 2))
def OM:CS:=(aV (d0 av) (aw ll 3))
def QC:CS:=Nu
def OD:CS:=(dq (aa ll 3))
noncomputable def Q7:CS:=aH
def OA:CS:=aq OD Q7
def Po:CS:=aq QC OA
def Pw:CS:=aq OM Po
def Q8:CS:=aq PP Pw
def p3:CS:=Q8
def Q3:FN:=bn [(ll,0),(ll,1)] 5 0 p3
noncomputable def O9  (st:St)(k:KV):=k .none st
noncomputable def Px (d:V)(st:St)(kk:SB)(k:KV):=(k d st)
noncomputable def Q6 (d:V)(st:St)(k:KV):=Px d st (λ st=>O9  st k) k
def QJ (a b c d:V)(st:St)(kk:OV->SB)(k:KV):=(aQ c (.int 1) st λv5 s6=>(aG (.int 1) λi7=>aG v5 λi8=>eB i7 i8 1 s6 λit3 s4=>(AM a b d (λo2 s1=>(kk o2 s1))  200 none it3 s4)))
def Pd (a b c d:V)(st:St)(k:KV):=QJ a b c d st (λoe st=>Q6 d st k) k
def OK  (st:St)(kk:V->SB)(k:KV):=(St.push st (.list []) λn1 s2=>((λ(x3:V)=>(kk x3 s2)) (.ref n1)))
def QS (a b c:V)(st:St)(k:KV):=OK  st (λd st=>Pd a b c d st k) k
def Qz (a b:V)(st:St)(kk:V->SB)(k:KV):=(dQ 0 a st (H1 [a] st λv4 s5=>(dQ 0 b s5 (H1 [b] s5 λv9 s10=>(jH [v4,v9] s10 λv11 s12=>(aQ v11 (.int 1) s12 λv13 s14=>(kk v13 s14)))))))
def QM (a b:V)(st:St)(k:KV):=Qz a b st (λc st=>QS a b c st k) k
def g3 (A0 A1:V)(st:St)(k:KV):Si:=(QM A0 A1 st k)
def H3:FN:=λvs st k=>(dc vs λA0 vs=>(dc vs λA1 vs=>(ge vs (g3 A0 A1 st k))))
theorem Kb:Q3=H3:=mD λ_ _ _ _=>by kernel_rfl
def wU (a b:V)(kk:OV->SB)(kr:V->OV->SB)(ih:OV->It->SB)(od:OV)(it:It)(st:St):Si:=aY st it (kk od st) λy1 it2=>(@du.rec (λ_=>Si) (λv3=>(dQ 0 a st (H2 [a,v3] st λv7 s8=>(dQ 0 b s8 (H2 [b,v3] s8 λv12 s13=>(uD v7 v12 s13 λCN=>(aD CN (kr (.bool ll) (Sa v3) s13) (ih (Sa v3) it2 s13)))))))) (λ_ _=>ll) y1)
def Ck (a b:V)(kk:OV->SB)(kr:V->OV->SB)(n:Nat):OV->It->SB:=@Tb (λ_=>_) (λ_ _ _=>ll) (λ_ ih=>wU a b kk kr ih) n
def wt:CS:=(aq (ij (bR uD (bz 0 H2 (aa ll 0) (ae (aa ll 3) av)) (bz 0 H2 (aa ll 1) (ae (aa ll 3) av))) (aq (dq (ao (.bool ll))) aH) aH) aH)
def FK (n:Nat)(κ:KF):Fs.Fn (.v (.v (.v (.o (.e 0))))) (It->SB):=λa b c od=>Ck a b (λod st=>κ .nxt ⟨[sm a,sm b,sm c,od],[]⟩ st) (λv od st=>κ (.ret v) ⟨[sm a,sm b,sm c,od],[]⟩ st) n od
def MA:CS:=kJ (dG (ao (.int 2)) (aA aQ (aa ll 2) (ao (.int 1)))) (G0 (.v (.v (.v (.o (.e 0))))) (dO (em (aw ll 3)) wt aH 200) (FK 200))
theorem EI:(je (em (aw ll 3)) (dG (ao (.int 2)) (aA aQ (aa ll 2) (ao (.int 1)))) wt aH:CS)=MA:=ko (.v (.v (.v (.o (.e 0))))) FK (λκ ih a b c od=>wU a b (λod st=>κ .nxt ⟨[sm a,sm b,sm c,od],[]⟩ st) (λv od st=>κ (.ret v) ⟨[sm a,sm b,sm c,od],[]⟩ st) (λod=>ih a b c od) od) (λ_=>rfl) (λ_ _=>rfl) (λ_ _=>by kernel_rfl)
def QF:CS:=(ij (bR uD (bv (aa ll 0) 1) (bv (aa ll 1) 1)) (aq (dq (ao (.bool ll))) aH) aH)
def Qg:CS:=(ij (qk (tE (bv (aa ll 0) 4)) (tE (bv (aa ll 1) 4))) (aq (dq (uA Oy (bv (aa ll 0) 2) (bv (aa ll 1) 2))) aH) aH)
def Qr:CS:=(aV (aA aQ (gv jH (ae (bz 0 H1 (aa ll 0) av) (ae (bz 0 H1 (aa ll 1) av) av))) (ao (.int 1))) (aw ll 2))
def OI:CS:=MA
noncomputable def P5:CS:=(dq (ao (.bool Se)))
noncomputable def Qf:CS:=aH
def Pb:CS:=aq P5 Qf
def PY:CS:=aq OI Pb
def Qs:CS:=aq Qr PY
def O6:CS:=aq Qg Qs
def O8:CS:=aq QF O6
def p4:CS:=O8
def Q4:FN:=bn [(ll,0),(ll,1)] 4 0 p4
noncomputable def ON  (st:St)(k:KV):=k .none st
noncomputable def PE  (st:St)(kk:SB)(k:KV):=(k (.bool Se) st)
noncomputable def QD  (st:St)(k:KV):=PE  st (λ st=>ON  st k) k
def Qu (a b c:V)(st:St)(kk:OV->SB)(k:KV):=(aQ c (.int 1) st λv8 s9=>(aG (.int 2) λi10=>aG v8 λi11=>eB i10 i11 1 s9 λit6 s7=>(Ck a b (λo2 s1=>(kk o2 s1)) (λv3 o5 s4=>(k v3 s4)) 200 none it6 s7)))
def Pz (a b c:V)(st:St)(k:KV):=Qu a b c st (λod st=>QD  st k) k
def OJ (a b:V)(st:St)(kk:V->SB)(k:KV):=(dQ 0 a st (H1 [a] st λv4 s5=>(dQ 0 b s5 (H1 [b] s5 λv9 s10=>(jH [v4,v9] s10 λv11 s12=>(aQ v11 (.int 1) s12 λv13 s14=>(kk v13 s14)))))))
def O4 (a b:V)(st:St)(k:KV):=OJ a b st (λc st=>Pz a b c st k) k
def OO (a b:V)(st:St)(kk:SB)(k:KV):=((λ(J1:Si->SB)=>(getAttr a 4 st λv4 s5=>(eM v4 s5 λb6 s7=>(aD b6 (getAttr b 4 s7 λv8 s9=>(eM v8 s9 λb10 s11=>(J1 b10 s11))) (J1 ll s7))))) (λb2 s3=>(aD b2 (getAttr a 2 s3 λv12 s13=>(getAttr b 2 s13 λv14 s15=>(Oy v12 v14 s15 λyQ=>(k (.bool yQ) s15)))) (kk  s3))))
def PH (a b:V)(st:St)(k:KV):=OO a b st (λ st=>O4 a b st k) k
def PI (a b:V)(st:St)(kk:SB)(k:KV):=(getAttr a 1 st λv1 s2=>(getAttr b 1 s2 λv3 s4=>(uD v1 v3 s4 λc5=>(aD c5 (k (.bool ll) s4) (kk  s4)))))
def QO (a b:V)(st:St)(k:KV):=PI a b st (λ st=>PH a b st k) k
def g4 (A0 A1:V)(st:St)(k:KV):Si:=(QO A0 A1 st k)
def H4:FN:=λvs st k=>(dc vs λA0 vs=>(dc vs λA1 vs=>(ge vs (g4 A0 A1 st k))))
theorem Me:Q4=H4:=mD λ_ _ _ _=>by kernel_rfl
def wd (a b d:V)(kk:OV->SB)(ih:OV->It->SB)(oe:OV)(it:It)(st:St):Si:=aY st it (kk oe st) λy1 it2=>(@du.rec (λ_=>Si) (λv3=>(dQ 0 a st (H2 [a,v3] st λv7 s8=>(dQ 0 b s8 (H2 [b,v3] s8 λv12 s13=>(uD v7 v12 s13 λCN=>(aD CN (bB d λn15=>St.get s13 n15 λo16=>gQ o16 λ_=>(dQ 0 a s13 (H2 [a,v3] s13 λv22 s23=>(dQ 0 b s23 (H2 [b,v3] s23 λv27 s28=>(jQ d [(.tup [v3,v22,v27])] s28 λv17 s18=>(Oz v17 (ih (Sa v3) it2 s18)))))))) (ih (Sa v3) it2 s13)))))))) (λ_ _=>ll) y1)
def B3 (a b d:V)(kk:OV->SB)(n:Nat):OV->It->SB:=@Tb (λ_=>_) (λ_ _ _=>ll) (λ_ ih=>wd a b d kk ih) n
def w8:CS:=(aq (ij (bR uD (bz 0 H2 (aa ll 0) (ae (aa ll 4) av)) (bz 0 H2 (aa ll 1) (ae (aa ll 4) av))) (aq (dI (lQ jQ (aa ll 3) (ae (cN (ae (aa ll 4) (ae (bz 0 H2 (aa ll 0) (ae (aa ll 4) av)) (ae (bz 0 H2 (aa ll 1) (ae (aa ll 4) av)) av)))) av))) aH) aH) aH)
def ET (n:Nat)(κ:KF):Fs.Fn (.v (.v (.v (.v (.o (.e 0)))))) (It->SB):=λa b c d oe=>B3 a b d (λoe st=>κ .nxt ⟨[sm a,sm b,sm c,sm d,oe],[]⟩ st) n oe
def KD:CS:=kJ (dG (ao (.int 1)) (aA aQ (aa ll 2) (ao (.int 1)))) (G0 (.v (.v (.v (.v (.o (.e 0)))))) (dO (em (aw ll 4)) w8 aH 200) (ET 200))
theorem Dm:(je (em (aw ll 4)) (dG (ao (.int 1)) (aA aQ (aa ll 2) (ao (.int 1)))) w8 aH:CS)=KD:=ko (.v (.v (.v (.v (.o (.e 0)))))) ET (λκ ih a b c d oe=>wd a b d (λoe st=>κ .nxt ⟨[sm a,sm b,sm c,sm d,oe],[]⟩ st) (λoe=>ih a b c d oe) oe) (λ_=>rfl) (λ_ _=>rfl) (λ_ _=>by kernel_rfl)
def Pk:CS:=(aV (aA aQ (gv jH (ae (bz 0 H1 (aa ll 0) av) (ae (bz 0 H1 (aa ll 1) av) av))) (ao (.int 1))) (aw ll 2))
def QT:CS:=(aV (d0 av) (aw ll 3))
def Py:CS:=KD
def QE:CS:=(dq (aa ll 3))
noncomputable def P6:CS:=aH
def O3:CS:=aq QE P6
def QH:CS:=aq Py O3
def OY:CS:=aq QT QH
def Qw:CS:=aq Pk OY
def p5:CS:=Qw
def Q5:FN:=bn [(ll,0),(ll,1)] 5 0 p5
noncomputable def Pn  (st:St)(k:KV):=k .none st
noncomputable def P2 (d:V)(st:St)(kk:SB)(k:KV):=(k d st)
noncomputable def Rb (d:V)(st:St)(k:KV):=P2 d st (λ st=>Pn  st k) k
def Qb (a b c d:V)(st:St)(kk:OV->SB)(k:KV):=(aQ c (.int 1) st λv5 s6=>(aG (.int 1) λi7=>aG v5 λi8=>eB i7 i8 1 s6 λit3 s4=>(B3 a b d (λo2 s1=>(kk o2 s1))  200 none it3 s4)))
def OU (a b c d:V)(st:St)(k:KV):=Qb a b c d st (λoe st=>Rb d st k) k
def Qp  (st:St)(kk:V->SB)(k:KV):=(St.push st (.list []) λn1 s2=>((λ(x3:V)=>(kk x3 s2)) (.ref n1)))
def PG (a b c:V)(st:St)(k:KV):=Qp  st (λd st=>OU a b c d st k) k
def Qn (a b:V)(st:St)(kk:V->SB)(k:KV):=(dQ 0 a st (H1 [a] st λv4 s5=>(dQ 0 b s5 (H1 [b] s5 λv9 s10=>(jH [v4,v9] s10 λv11 s12=>(aQ v11 (.int 1) s12 λv13 s14=>(kk v13 s14)))))))
def QR (a b:V)(st:St)(k:KV):=Qn a b st (λc st=>PG a b c st k) k
def g5 (A0 A1:V)(st:St)(k:KV):Si:=(QR A0 A1 st k)
def H5:FN:=λvs st k=>(dc vs λA0 vs=>(dc vs λA1 vs=>(ge vs (g5 A0 A1 st k))))
theorem L8:Q5=H5:=mD λ_ _ _ _=>by kernel_rfl
def J6:CS:=(dq (aa ll 0))
noncomputable def Ms:CS:=aH
def Lz:CS:=aq J6 Ms
def Rl:CS:=Lz
def R7:FN:=bn [(ll,0)] 1 0 Rl
noncomputable def Ju  (st:St)(k:KV):=k .none st
noncomputable def Ko (a:V)(st:St)(kk:SB)(k:KV):=(k a st)
noncomputable def Kq (a:V)(st:St)(k:KV):=Ko a st (λ st=>Ju  st k) k
noncomputable def RW (A0:V)(st:St)(k:KV):Si:=(Kq A0 st k)
def QZ:FN:=λvs st k=>(dc vs λA0 vs=>(ge vs (RW A0 st k)))
theorem GQ:R7=QZ:=AI λ_ _ _=>by kernel_rfl
def tJ (a:V)(kk:V->V->SB)(ih:V->V->SB)(b c:V)(st:St):Si:=((λ(J1:Si->SB)=>(eM b st λb4 s5=>(aD b4 (cZ a c s5 λv6 s7=>(iu v6 (.str [32]) s7 λc8=>(J1 c8 s7))) (J1 ll s5)))) (λb2 s3=>(aD b2 (y3 c (.int 1) s3 λv9 s10=>(cj b (.int 1) s10 λv11 s12=>(ih v11 v9 s12))) (kk b c s3))))
def wx (a:V)(kk:V->V->SB)(n:Nat):V->V->SB:=@Tb (λ_=>_) (λ_ _ _=>ll) (λ_ ih=>tJ a kk ih) n
def sC:CT:=(qk (tE (aa ll 1)) (bR iu (dw (aa ll 0) (aa ll 2)) (ao (.str [32]))))
def sI:CS:=(aq (vd ll 2 y3 (ao (.int 1))) (aq (vd ll 1 cj (ao (.int 1))) aH))
def Ci (n:Nat)(κ:KF):Fs.Fn (.v (.v (.v (.n (.e 0))))) SB:=λa b c=>wx a (λb c st=>κ .nxt ⟨[sm a,sm b,sm c,no],[]⟩ st) n b c
def EU:CS:=On (.v (.v (.v (.n (.e 0))))) (kS sC sI aH 200) (Ci 200)
theorem As:(AC sC sI aH:CS)=EU:=vG (.v (.v (.v (.n (.e 0))))) Ci (λκ ih a b c=>tJ a (λb c st=>κ .nxt ⟨[sm a,sm b,sm c,no],[]⟩ st) (λb c=>ih a b c) b c) (λ_=>rfl) (λ_ _=>rfl) (λ_ _=>by kernel_rfl)
def t8 (a:V)(kk:V->V->SB)(ih:V->V->SB)(b d:V)(st:St):Si:=((λ(J1:Si->SB)=>(eM b st λb4 s5=>(aD b4 (cZ a d s5 λv6 s7=>(iu v6 (.str [32]) s7 λc8=>(J1 c8 s7))) (J1 ll s5)))) (λb2 s3=>(aD b2 (cj d (.int 1) s3 λv9 s10=>(cj b (.int 1) s10 λv11 s12=>(ih v11 v9 s12))) (kk b d s3))))
def w9 (a:V)(kk:V->V->SB)(n:Nat):V->V->SB:=@Tb (λ_=>_) (λ_ _ _=>ll) (λ_ ih=>t8 a kk ih) n
def tA:CT:=(qk (tE (aa ll 1)) (bR iu (dw (aa ll 0) (aa ll 3)) (ao (.str [32]))))
def rz:CS:=(aq (vd ll 3 cj (ao (.int 1))) (aq (vd ll 1 cj (ao (.int 1))) aH))
def Ac (n:Nat)(κ:KF):Fs.Fn (.v (.v (.v (.v (.e 0))))) SB:=λa b c d=>w9 a (λb d st=>κ .nxt ⟨[sm a,sm b,sm c,sm d],[]⟩ st) n b d
def FW:CS:=On (.v (.v (.v (.v (.e 0))))) (kS tA rz aH 200) (Ac 200)
theorem zT:(AC tA rz aH:CS)=FW:=vG (.v (.v (.v (.v (.e 0))))) Ac (λκ ih a b c d=>t8 a (λb d st=>κ .nxt ⟨[sm a,sm b,sm c,sm d],[]⟩ st) (λb d=>ih a b c d) b d) (λ_=>rfl) (λ_ _=>rfl) (λ_ _=>by kernel_rfl)
def JX:CS:=(aV (ao (.int 0)) (aw ll 2))
def Nd:CS:=EU
def Jf:CS:=(aV (aA cj (gv dU (ae (aa ll 0) av)) (ao (.int 1))) (aw ll 3))
def LO:CS:=FW
def Je:CS:=(dq (vv (aa ll 0) (aa ll 2) (aA aQ (aa ll 3) (ao (.int 1)))))
noncomputable def Lf:CS:=aH
def KC:CS:=aq Je Lf
def MI:CS:=aq LO KC
def LB:CS:=aq Jf MI
def Nm:CS:=aq Nd LB
def MN:CS:=aq JX Nm
def Rd:CS:=MN
def Rz:FN:=bn [(ll,0),(ll,1)] 4 0 Rd
noncomputable def Ny  (st:St)(k:KV):=k .none st
def Jp (a c d:V)(st:St)(kk:SB)(k:KV):=(aQ d (.int 1) st λv1 s2=>(uZ a c v1 s2 λv3 s4=>(k v3 s4)))
def L6 (a c d:V)(st:St)(k:KV):=Jp a c d st (λ st=>Ny  st k) k
def NI (a b d:V)(st:St)(kk:V->V->SB)(k:KV):=(w9 a (λx2 x3 s1=>(kk x2 x3 s1))  200 b d st)
def Od (a b c d:V)(st:St)(k:KV):=NI a b d st (λb d st=>L6 a c d st k) k
def KQ (a:V)(st:St)(kk:V->SB)(k:KV):=(dU [a] st λv1 s2=>(cj v1 (.int 1) s2 λv3 s4=>(kk v3 s4)))
def Ku (a b c:V)(st:St)(k:KV):=KQ a st (λd st=>Od a b c d st k) k
def Mp (a b c:V)(st:St)(kk:V->V->SB)(k:KV):=(wx a (λx2 x3 s1=>(kk x2 x3 s1))  200 b c st)
def NZ (a b c:V)(st:St)(k:KV):=Mp a b c st (λb c st=>Ku a b c st k) k
noncomputable def Jo  (st:St)(kk:V->SB)(k:KV):=(kk (.int 0) st)
def J0 (a b:V)(st:St)(k:KV):=Jo  st (λc st=>NZ a b c st k) k
def RK (A0 A1:V)(st:St)(k:KV):Si:=(J0 A0 A1 st k)
def Oo:FN:=λvs st k=>(dc vs λA0 vs=>(dc vs λA1 vs=>(ge vs (RK A0 A1 st k))))
theorem Hd:Rz=Oo:=mD λ_ _ _ _=>by kernel_rfl
end
section
variable {C:Cfg}{fx:Fx}{d:Nat}{EP:Env->Prop}{body:List Stmt}
def Re (C:Cfg)(fx:Fx)(EP:Env->Prop)(d:Nat)(e:Expr)(c:CE):Prop:=
 ∀(A:Ua) (env:Env) (σ:Sd Ss) (fm:Fm) (st:St) (s:Sr) (k:V->St->Si),Rm d A->bb fx env->EP env->Inv C σ st s->FrR C fx env fm σ s->c fm st k=Se->gf C A (eval e env) σ s k
theorem Du {t e:Expr}{ct:CG}{c:CE} (hs:∀env,bb fx env->Xg [t] e pos.line env=pure ll)(hw:∀env,bb fx env->VL [t] e env=pure none)(hm:∀env,(T8 [t] env).map (·.2)=[assign t env])
  (he:Re C fx EP d e c) (ht:SG C fx d t ct):MH C fx EP d body (.Assign [t] e pos) (aV c ct):=by
 intro A env σ fm st s k R E P I F h
 refine Xh (wpAny_Assign_stores (ay (he A env σ fm st s _ R E P I F h) λσ1 x st1 u aaQ aaU aaW aaZ aaS=>?_) (hs env E) (hw env E))
 rw[hm]
 exact Sm (ht A env σ1 fm st1 aaQ (k .nxt) x u R E aaW (aaU.fr0 F) aaZ aaS) (λ_ _ o=>(OutG.toS o).trans aaU.up) λ_ _ e=>e
noncomputable def Gv:CE:=fA QZ (ae (aA bF (ao (.str [32])) (dw (aa Se 0) (aa ll 0))) av)
theorem Gp (xs:Sd Int)(j:Nat)(z:Int)(K:KV)(hz:xs[j]? = Sa z)(hj:j<=63)(h1:small z=Se)(h2:aB (cT z)=Se)(h:K (.str (cw [32] (cT z))) (cM xs)=Se):Gv ⟨[Sa (.int j)],[1]⟩ (cM xs) K=Se:=by
 have hg:∀(xs:Sd Int) (j:Nat) (q:V->Si),xs[j]? = Sa z->getL (fE V.int xs) j q ll=q (.int z):=by
  intro xs
  induction xs with
  | nil=>intro j q e;simp at e
  | cons x xs ih=>
   intro j q e
   induction j with
   | zero=>simp at e;subst e;rfl
   | succ j=>exact ih j q (by simpa using e)
 have hsj:small (TA j)=Se:=by
  show SV j 1152921504606846975=Se
  exact TU (by lia)
 have e1:Gv ⟨[Sa (.int j)],[1]⟩ (cM xs) K=aD (small (TA j)) (getL (fE V.int xs) j (λv=>bF (.str [32]) v (cM xs) λv st=>K v st) ll) ll:=rfl
 rw[e1,hsj,hg xs j _ hz]
 show aD (small z) (aD (aB (XD 1 (cT z))) (K (.str (cw [32] (cT z))) (cM xs)) ll) ll=Se
 rw[h1,show XD 1 (cT z)=cT z from Zr _,h2]
 exact h
end
noncomputable def gO:lN:=⟨210,206,⟨0,0,0,0⟩,"",ll⟩
noncomputable def gN:lN:=⟨217,213,⟨0,0,0,0⟩,"",ll⟩
noncomputable def eC:lN:=⟨283,281,⟨225,40,225,72⟩,"_law_lead.<locals>.<lambda>",Se⟩
noncomputable section
noncomputable def xd (x:SP CFound):Tok:=match x with
 | some (.val v)=>zn v
 | _=>0
noncomputable def Jn (x:SP (SP Sn)):Tok:=match x with
 | some (Sa v)=>zn v
 | _=>0
end
structure Base (C:Cfg)(P:Params):Prop where
 K:C.K=KH P
 ok:C.Ok
 blt:lZ C
 file:∀cda∈[180,203,240],∃oc vs file tf,C.K.lookup cda=Sa oc/\oc.data=.fields vs/\vs[2]? = Sa (.str file tf)/\((C.prog.main.file:Str) == file)=Se
 top:(C.prog.main.scope.names.lookup ("super":Str)).isSome=ll
structure BaseT (C:Cfg)(P:Params):Prop extends Base C P where
 tabs:C.tabs=[gO,gN,eC]
namespace Base
section
variable {C:Cfg}{P:Params}
theorem J (W:Base C P):cJ C:=ME W.K
theorem JS (W:Base C P):eP C:=NC W.K
theorem g_Whitespace (W:Base C P):GB C "Whitespace" (.ref 83):=yb W.K (by kernel_rfl)
theorem g__ValueFormatter (W:Base C P):GB C "_ValueFormatter" (.ref 160):=yb W.K (by kernel_rfl)
theorem g__Accumulator (W:Base C P):GB C "_Accumulator" (.ref 244):=yb W.K (by kernel_rfl)
theorem g__strxfrm (W:Base C P):GB C "_strxfrm" (.ref 255):=yb W.K (by kernel_rfl)
theorem g__strip_padding (W:Base C P):GB C "_strip_padding" (.ref 269):=yb W.K (by kernel_rfl)
theorem g__law_drawn (W:Base C P):GB C "_law_drawn" (.ref 274):=yb W.K (by kernel_rfl)
theorem g__law_columns (W:Base C P):GB C "_law_columns" (.ref 279):=yb W.K (by kernel_rfl)
theorem g__law_lead (W:Base C P):GB C "_law_lead" (.ref 284):=yb W.K (by kernel_rfl)
theorem g__law_told (W:Base C P):GB C "_law_told" (.ref 289):=yb W.K (by kernel_rfl)
theorem g__law_norm (W:Base C P):GB C "_law_norm" (.ref 294):=yb W.K (by kernel_rfl)
theorem g__law_column (W:Base C P):GB C "_law_column" (.ref 299):=yb W.K (by kernel_rfl)
theorem g__grouping_intervals (W:Base C P):GB C "_grouping_intervals" (.ref 262):=yb W.K (by kernel_rfl)
theorem g_len (W:Base C P):GB C "len" (.builtin "len"):=yV W.K (by kernel_rfl) (by decide) (by decide +kernel)
theorem g_sum (W:Base C P):GB C "sum" (.builtin "sum"):=yV W.K (by kernel_rfl) (by decide) (by decide +kernel)
theorem g_max (W:Base C P):GB C "max" (.builtin "max"):=yV W.K (by kernel_rfl) (by decide) (by decide +kernel)
theorem g_min (W:Base C P):GB C "min" (.builtin "min"):=yV W.K (by kernel_rfl) (by decide) (by decide +kernel)
theorem g_chr (W:Base C P):GB C "chr" (.builtin "chr"):=yV W.K (by kernel_rfl) (by decide) (by decide +kernel)
theorem g_sorted (W:Base C P):GB C "sorted" (.builtin "sorted"):=yV W.K (by kernel_rfl) (by decide) (by decide +kernel)
theorem g_str (W:Base C P):GB C "str" (.type "str"):=yV W.K (by kernel_rfl) (by decide) (by decide +kernel)
theorem g_tuple (W:Base C P):GB C "tuple" (.type "tuple"):=yV W.K (by kernel_rfl) (by decide) (by decide +kernel)
theorem g_range (W:Base C P):GB C "range" (.type "range"):=yV W.K (by kernel_rfl) (by decide) (by decide +kernel)
theorem g_enumerate (W:Base C P):GB C "enumerate" (.type "enumerate"):=yV W.K (by kernel_rfl) (by decide) (by decide +kernel)
theorem g_super (W:Base C P):GB C "super" (.type "super"):=yV W.K (by kernel_rfl) (by decide) (by decide +kernel)
theorem g_zip (W:Base C P):GB C "zip" (.type "zip"):=yV W.K (by kernel_rfl) (by decide) (by decide +kernel)
theorem g_EMPTY (W:Base C P):GB C "EMPTYSTRING" (.str ⟨([]:Sd Nat).toArray⟩ 306):=yb W.K (by kernel_rfl)
theorem k19 (W:Base C P):Keeps C (.ref 255):=gw W.K (by kernel_rfl)
theorem k20 (W:Base C P):Keeps C (.ref 269):=gw W.K (by kernel_rfl)
theorem k21 (W:Base C P):Keeps C (.ref 274):=gw W.K (by kernel_rfl)
theorem k22 (W:Base C P):Keeps C (.ref 279):=gw W.K (by kernel_rfl)
theorem k23 (W:Base C P):Keeps C (.ref 284):=gw W.K (by kernel_rfl)
theorem k24 (W:Base C P):Keeps C (.ref 289):=gw W.K (by kernel_rfl)
theorem k25 (W:Base C P):Keeps C (.ref 294):=gw W.K (by kernel_rfl)
theorem k26 (W:Base C P):Keeps C (.ref 299):=gw W.K (by kernel_rfl)
theorem m1 (W:Base C P):de C 0 "longest_run_of_spaces" 45:=dW W.K (by kernel_rfl) (by kernel_rfl) (by kernel_rfl) (by kernel_rfl)
theorem m2 (W:Base C P):de C 0 "indent_level" 52:=dW W.K (by kernel_rfl) (by kernel_rfl) (by kernel_rfl) (by kernel_rfl)
theorem m3 (W:Base C P):de C 0 "not_equal_witness" 66:=dW W.K (by kernel_rfl) (by kernel_rfl) (by kernel_rfl) (by kernel_rfl)
theorem m4 (W:Base C P):de C 0 "less" 73:=dW W.K (by kernel_rfl) (by kernel_rfl) (by kernel_rfl) (by kernel_rfl)
theorem m5 (W:Base C P):de C 0 "not_less_witness" 80:=dW W.K (by kernel_rfl) (by kernel_rfl) (by kernel_rfl) (by kernel_rfl)
theorem m7 (W:Base C P):de C 1 "_str" 108:=dW W.K (by kernel_rfl) (by kernel_rfl) (by kernel_rfl) (by kernel_rfl)
theorem m8 (W:Base C P):de C 1 "newline" 122:=dW W.K (by kernel_rfl) (by kernel_rfl) (by kernel_rfl) (by kernel_rfl)
theorem m9 (W:Base C P):de C 1 "_append_chunk" 157:=dW W.K (by kernel_rfl) (by kernel_rfl) (by kernel_rfl) (by kernel_rfl)
theorem m11 (W:Base C P):de C 2 "push" 188:=dW W.K (by kernel_rfl) (by kernel_rfl) (by kernel_rfl) (by kernel_rfl)
theorem m12 (W:Base C P):de C 2 "pop_from" 196:=dW W.K (by kernel_rfl) (by kernel_rfl) (by kernel_rfl) (by kernel_rfl)
theorem m13 (W:Base C P):de C 2 "pop" 204:=dW W.K (by kernel_rfl) (by kernel_rfl) (by kernel_rfl) (by kernel_rfl)
theorem m16 (W:Base C P):de C 2 "reset" 226:=dW W.K (by kernel_rfl) (by kernel_rfl) (by kernel_rfl) (by kernel_rfl)
theorem m17 (W:Base C P):de C 2 "is_onlyws" 233:=dW W.K (by kernel_rfl) (by kernel_rfl) (by kernel_rfl) (by kernel_rfl)
theorem m18 (W:Base C P):de C 2 "part_count" 241:=dW W.K (by kernel_rfl) (by kernel_rfl) (by kernel_rfl) (by kernel_rfl)
theorem new0 (W:Base C P):tl C 0 38:=FY W.K (by kernel_rfl) (by kernel_rfl) (by kernel_rfl) (by kernel_rfl)
theorem new1 (W:Base C P):tl C 1 101:=FY W.K (by kernel_rfl) (by kernel_rfl) (by kernel_rfl) (by kernel_rfl)
theorem newL (W:Base C P):vt C 181:=HW W.K
theorem get11 (W:Base C P):aau C.K (.ref 188) "__get__"=Sa (Sa (.builtin "function.__get__")):=by rw[W.K];kernel_rfl
theorem tk11 (W:Base C P):takesIn C.K (.ref 188)=Sa ll:=by rw[W.K];kernel_rfl
theorem fn11 (W:Base C P):fnIn C.K 188=Se:=by rw[W.K];kernel_rfl
theorem findAppend (W:Base C P):Um C.K (.ref 244) "append"=Sa (Sa (.builtin "list.append")):=by rw[W.K];kernel_rfl
theorem findIndex (W:Base C P):Um C.K (.ref 244) "index"=Sa (Sa (.builtin "list.index")):=by rw[W.K];kernel_rfl
theorem readsW (W:Base C P):readsIn C.K 83 (.type "type")=Se:=by rw[W.K];kernel_rfl
theorem attrS (W:Base C P):∃tk,aaa C.K (.ref 83) (.type "type") "S"=Sa (.val (.str ⟨[32].toArray⟩ tk)):=by rw[W.K];exact⟨xd (aaa (KH P) (.ref 83) (.type "type") "S"),by kernel_rfl⟩
theorem attrT (W:Base C P):∃tk,aaa C.K (.ref 83) (.type "type") "T"=Sa (.val (.str ⟨[9].toArray⟩ tk)):=by rw[W.K];exact⟨xd (aaa (KH P) (.ref 83) (.type "type") "T"),by kernel_rfl⟩
theorem k262 (W:Base C P):Keeps C (.ref 262):=gw W.K (by kernel_rfl)
theorem charMax (W:Base C P):∃tc,aaI C.K SY "CHAR_MAX"=Sa (Sa (.int 127 tc)):=by
 rw[W.K]
 exact⟨Jn (aaI (KH P) SY "CHAR_MAX"),by kernel_rfl⟩
theorem fn262 (W:Base C P):qY C 262 (aZ (KH P) 262) (aI (KH P) 262):=by
 have hc:((aZ (KH P) 262).scope.names.all λx=>!(x.2 == NameKind.cell))=Se:=by kernel_rfl
 have h9:∀a,XT (aZ (KH P) 262) ⟨[a],[]⟩=pure [(("grouping":Str),a)]:=λ_=>by kernel_rfl
 exact⟨by rw[W.K];exact Az (by kernel_rfl),by rw[W.K];kernel_rfl,by kernel_rfl,by kernel_rfl,by kernel_rfl,by kernel_rfl,by kernel_rfl,λx m=>(VU _).mp (Ta.mp hc x m),by kernel_rfl,by kernel_rfl,by kernel_rfl,by kernel_rfl,λu s=>by refine Ub.of_eq ?_;exact h9 u⟩
theorem ss_gz (W:Base C P) (hn:SE C fx d en cn)(hg:SE C fx d eg cg)(hok:fx.ok=Se)(x1:("zip":Str)∈fx.gn)(x2:("range":Str)∈fx.gn)(x3:("_grouping_intervals":Str)∈fx.gn)
  (a1:aL [en]) (a2:aL [eg]) (a3:aL [.Call (.Name "range" z1) [en] [] z2,.Call (.Name "_grouping_intervals" z3) [eg] [] z4]) (hsc:dT sc=Se) (hfc:(sc.names.all λx=>x.2 != .free && !(x.2 == NameKind.cell))=Se) (sk:("k":Str)∈(aR sc).ln) (ss:("size":Str)∈(aR sc).ln) (hy:fx.ln[abt]? = Sa y) (hsw:∀env,bb fx env->VK (.ListComp (.Name "size" e1) [⟨.Tuple [.Name "k" t1,.Name "size" t2] kt tp,.Call (.Name "zip" z0) [.Call (.Name "range" z1) [en] [] z2,.Call (.Name "_grouping_intervals" z3) [eg] [] z4] [] z5,[],0⟩] sc pos) (Sa (.Name y py)) spos.line env=pure Se) :
  SS C fx d (.Assign [.Name y py] (.ListComp (.Name "size" e1) [⟨.Tuple [.Name "k" t1,.Name "size" t2] kt tp,.Call (.Name "zip" z0) [.Call (.Name "range" z1) [en] [] z2,.Call (.Name "_grouping_intervals" z3) [eg] [] z4] [] z5,[],0⟩] sc pos) spos) (aV (qg cn cg) (aw ll abt)):=by
 refine bH (W.charMax) λtc gc=>?_
 have hfc':∀x∈sc.names,x.2≠.free/\(x.2 == NameKind.cell)=ll:=λx m=>by
  have:=Ta.mp hfc x m
  simpa using this
 apply xN W.ok W.fn262 gc ?hB ?hbody hn hg hok x1 x2 x3 W.g_zip W.g_range W.g__grouping_intervals W.k262 a1 a2 a3 (λ_=>rfl) hsc (λx m=>(hfc' x m).1) (λx m=>(hfc' x m).2) sk ss hy hsw
 case hbody=>
  conv=>lhs;whnf
 case hB=>rfl
theorem sup (W:Base C P):oZ C:=Cy W.K W.g_super W.top
theorem s10 (W:Base C P):kO C 181 (aZ (KH P) 181):=mC W.K (W.file 180 (.head _)) (by kernel_rfl) (by kernel_rfl) (by kernel_rfl)
theorem s13 (W:Base C P):kO C 204 (aZ (KH P) 204):=mC W.K (W.file 203 (.tail _ (.head _))) (by kernel_rfl) (by kernel_rfl) (by kernel_rfl)
theorem s18 (W:Base C P):kO C 241 (aZ (KH P) 241):=mC W.K (W.file 240 (.tail _ (.tail _ (.head _)))) (by kernel_rfl) (by kernel_rfl) (by kernel_rfl)
theorem bare (W:Base C P):Base C.bare P:=⟨W.K,Ab W.ok,⟨W.blt.at_⟩,W.file,W.top⟩
end
end Base
namespace BaseT
section
variable {C:Cfg}{P:Params}
theorem tabOne (W:BaseT C P){t t':lN}(m:t∈C.tabs)(m':t'∈C.tabs)(e:t'.tab=t.tab):t'=t:=by
 have no:∀{a b:lN},(b.tab=a.tab->False)->b.tab=a.tab->b=a:=λh e=>(h e).elim
 have k:∀a∈[gO,gN,eC],∀b∈[gO,gN,eC],b.tab=a.tab->b=a:=
  dy (dy (λ_=>rfl) (dy (no (lB rfl)) (dy (no (lB rfl)) uG))) (dy (dy (no (lB rfl)) (dy (λ_=>rfl) (dy (no (lB rfl)) uG))) (dy (dy (no (lB rfl)) (dy (no (lB rfl)) (dy (λ_=>rfl) uG))) uG))
 exact k t (W.tabs▸m) t' (W.tabs▸m') e
theorem t14 (W:BaseT C P):ju C gO:=have m:gO∈C.tabs:=W.tabs.symm▸.head _;pB W.K rfl m (λ_ m' q=>W.tabOne m m' q) (by kernel_rfl) (by kernel_rfl) (by kernel_rfl) (by kernel_rfl) (by kernel_rfl) (by kernel_rfl) (by kernel_rfl) (by kernel_rfl) (by kernel_rfl)
theorem t15 (W:BaseT C P):ju C gN:=have m:gN∈C.tabs:=W.tabs.symm▸.tail _ (.head _);pB W.K rfl m (λ_ m' q=>W.tabOne m m' q) (by kernel_rfl) (by kernel_rfl) (by kernel_rfl) (by kernel_rfl) (by kernel_rfl) (by kernel_rfl) (by kernel_rfl) (by kernel_rfl) (by kernel_rfl)
theorem t23 (W:BaseT C P):ju C eC:=have m:eC∈C.tabs:=W.tabs.symm▸.tail _ (.tail _ (.head _));pB W.K rfl m (λ_ m' q=>W.tabOne m m' q) (by kernel_rfl) (by kernel_rfl) (by kernel_rfl) (by kernel_rfl) (by kernel_rfl) (by kernel_rfl) (by kernel_rfl) (by kernel_rfl) (by kernel_rfl)
theorem se_sk (W:BaseT C P) {body:Expr}{kp lpos:Pos}(hn:SE C fx (d+3) en cn)(hok:fx.ok=Se)(x1:("sorted":Str)∈fx.gn)(x2:("range":Str)∈fx.gn)(p1:aL [en])(hpos:lpos=eC.pos)(L:ph lsc params "far" "j")(hfr:fx.cn[c]? = Sa ("far":Str))
  (he:Base C.bare P->(aR lsc).ok=Se->SE C.bare (aR lsc) d body Gv) :
  Re C fx (λenv=>env.code=.ref 283/\env.qual="_law_lead.<locals>.") (d+3) (.Call (.Name "sorted" z0) [.Call (.Name "range" z1) [en] [] z2] [⟨Sa "key",.Lambda params body lsc lpos,kp⟩] z3) (pr cn c):=
 λ_ _ _ _ _ _ _ R E Pe I F h=>Dt W.ok W.blt W.t23 rfl Pe.1 hn L (he W.toBase.bare (df L.sc)) Gp hok x1 x2 W.g_sorted W.g_range p1 hpos (by rw[Pe.2];decide +kernel) hfr R E I F h
end
end BaseT
noncomputable section
variable (pS pR pN:Nat)(a b c d e g h i j l m p s t u A B C D E F H I L M N P Q S T:V)(oa ob oc od oe og oh oi oj ol om op os ot ou oA oB oC oD oE oF oH oI oL oM oN oP oQ oS oT:OV)(A0 A1 A2 A3 A4:V)(C0 C1 C2 C3 C4 C5:Nat)(it:It)(st:St)(k:KV)(R:Fm->SB)(κ:Fl->Fm->SB)
def jB (C0 C1:Nat)(ih:OV->It->St->(Sd V->OV->SB)->Si)(ob:OV)(it:It)(st:St)(k:Sd V->OV->SB):Si:=aY st it (k [] ob st) λy1 it2=>(@du.rec (λ_=>Si) (λv3=>(fC C0 st λx4=>(cZ x4 (.int 0) st λv5 s6=>(cj v3 v5 s6 λv7 s8=>(fC C1 s8 λx9=>(ef v7 x9 s8 λv10 s11=>(ih (Sa v3) it2 s11 λl12 o13 s14=>k (bp [v10] l12) o13 s14))))))) (λ_ _=>ll) y1)
def gC (C0 C1:Nat)(n:Nat):OV->It->St->(Sd V->OV->SB)->Si:=@Tb (λ_=>_) (λ_ _ _ _=>ll) (λ_ ih=>jB C0 C1 ih) n
def sv:CB:=(gt (aA ef (aA cj (aa ll 1) (dw (aa Se 0) (ao (.int 0)))) (aa Se 1)))
def A5 (n:Nat):Fs.Fn (.n (.o (.e 2))) (It->St->(Sd V->Fs.Fo (.n (.o (.e 2))) SB)->Si):=λob C0 C1=>gC C0 C1 n ob
def Gc:CE:=eA (iE (aa Se 0)) 2 0 [0,1] (.n (.o (.e 2))) (bw (em (aw ll 1)) cA sv 200) (A5 200)
theorem z9:(cI (iE (aa Se 0)) 2 0 [0,1] (em (aw ll 1)) cA sv:CE)=Gc:=cP (.n (.o (.e 2))) A5 (λih ob C0 C1=>jB C0 C1 (λob=>ih ob C0 C1) ob) rfl (λ_=>rfl) (λ_=>by kernel_rfl)
def qO (C0:Nat)(ih:OV->It->St->(Sd V->OV->SB)->Si)(ob:OV)(it:It)(st:St)(k:Sd V->OV->SB):Si:=aY st it (k [] ob st) λy1 it2=>(@du.rec (λ_=>Si) (λv3=>(fC C0 st λx4=>(cZ x4 v3 st λv5 s6=>(ih (Sa v3) it2 s6 λl7 o8 s9=>k (bp [v5] l7) o8 s9)))) (λ_ _=>ll) y1)
def wC (C0:Nat)(n:Nat):OV->It->St->(Sd V->OV->SB)->Si:=@Tb (λ_=>_) (λ_ _ _ _=>ll) (λ_ ih=>qO C0 ih) n
def rG:CB:=(gt (dw (aa Se 0) (aa ll 1)))
def y2 (n:Nat):Fs.Fn (.n (.o (.e 1))) (It->St->(Sd V->Fs.Fo (.n (.o (.e 1))) SB)->Si):=λob C0=>wC C0 n ob
def EM:CE:=eA (iE (aa ll 0)) 2 0 [3] (.n (.o (.e 1))) (bw (em (aw ll 1)) cA rG 200) (y2 200)
theorem zi:(cI (iE (aa ll 0)) 2 0 [3] (em (aw ll 1)) cA rG:CE)=EM:=cP (.n (.o (.e 1))) y2 (λih ob C0=>qO C0 (λob=>ih ob C0) ob) rfl (λ_=>rfl) (λ_=>by kernel_rfl)
def rj (C0:Nat)(ih:OV->It->St->(Sd V->OV->SB)->Si)(ob:OV)(it:It)(st:St)(k:Sd V->OV->SB):Si:=aY st it (k [] ob st) λy1 it2=>(@du.rec (λ_=>Si) (λv3=>(fC C0 st λx4=>(aQ v3 (.int 1) st λv5 s6=>(cZ x4 v5 s6 λv7 s8=>(bF (.str [32]) v7 s8 λv9 s10=>(aQ v9 (.str [9]) s10 λv11 s12=>(fC C0 s12 λx13=>(cZ x13 v3 s12 λv14 s15=>(aQ v14 (.int 1) s15 λv16 s17=>(Oo [v11,v16] s17 λv18 s19=>(ih (Sa v3) it2 s19 λl20 o21 s22=>k (bp [v18] l20) o21 s22))))))))))) (λ_ _=>ll) y1)
def wb (C0:Nat)(n:Nat):OV->It->St->(Sd V->OV->SB)->Si:=@Tb (λ_=>_) (λ_ _ _ _=>ll) (λ_ ih=>rj C0 ih) n
def ud:CB:=(gt (fA Oo (ae (aA aQ (aA bF (ao (.str [32])) (dw (aa Se 0) (aA aQ (aa ll 1) (ao (.int 1))))) (ao (.str [9]))) (ae (aA aQ (dw (aa Se 0) (aa ll 1)) (ao (.int 1))) av))))
def Cz (n:Nat):Fs.Fn (.n (.o (.e 1))) (It->St->(Sd V->Fs.Fo (.n (.o (.e 1))) SB)->Si):=λob C0=>wb C0 n ob
def FG:CE:=eA (tn (gv dU (ae (aa Se 3) av))) 2 0 [2] (.n (.o (.e 1))) (bw (em (aw ll 1)) cA ud 200) (Cz 200)
theorem Cn:(cI (tn (gv dU (ae (aa Se 3) av))) 2 0 [2] (em (aw ll 1)) cA ud:CE)=FG:=cP (.n (.o (.e 1))) Cz (λih ob C0=>rj C0 (λob=>ih ob C0) ob) rfl (λ_=>rfl) (λ_=>by kernel_rfl)
def Lh:CS:=(aV Gc (aw Se 3))
def Mb:CS:=(aV (pr (gv dU (ae (aa Se 3) av)) 3) (aw ll 0))
def NK:CS:=(aV (aA aQ EM (d0 (ae (aa Se 1) av))) (aw Se 2))
def NL:CS:=(aV FG (aw ll 1))
def NQ:CS:=(dq (cN (ae (aa ll 0) (ae (sM oG (ao (.str [])) (ae (aa ll 1) av)) av))))
noncomputable def JH:CS:=aH
def LG:CS:=aq NQ JH
def Jq:CS:=aq NL LG
def N8:CS:=aq NK Jq
def M3:CS:=aq Mb N8
def Jb:CS:=aq Lh M3
def Rg:CS:=Jb
def RL:FN:=bn [(Se,0),(Se,1)] 2 4 Rg
noncomputable def N6 (a b:V)(C0 C1 C2 C3:Nat)(st:St)(k:KV):=k .none st
def JG (a b:V)(C0 C1 C2 C3:Nat)(st:St)(kk:SB)(k:KV):=(dB (.str []) λ_=>(oG (.str []) [b] st λv1 s2=>(k (.tup [a,v1]) s2)))
def Ka (a b:V)(C0 C1 C2 C3:Nat)(st:St)(k:KV):=JG a b C0 C1 C2 C3 st (λ st=>N6 a b C0 C1 C2 C3 st k) k
def K9 (a:V)(C0 C1 C2 C3:Nat)(st:St)(kk:V->SB)(k:KV):=(fC C3 st λx3=>(dU [x3] st λv4 s5=>(aG v4 λi6=>eB 0 i6 1 s5 λit1 s2=>(wb C2 200 none it1 s2 λl7 _ s8=>aD (aB (aK l7)) (St.push s8 (.list l7) λn9 s10=>((λ(x11:V)=>(kk x11 s10)) (.ref n9))) ll))))
def Jh (a:V)(C0 C1 C2 C3:Nat)(st:St)(k:KV):=K9 a C0 C1 C2 C3 st (λb st=>Ka a b C0 C1 C2 C3 st k) k
def MC (a:V)(C0 C1 C2 C3:Nat)(st:St)(kk:SB)(k:KV):=(xx a st λit1 s2=>(wC C3 200 none it1 s2 λl3 _ s4=>aD (aB (aK l3)) (St.push s4 (.list l3) λn5 s6=>(fC C1 s6 λx7=>(St.push s6 (.list [x7]) λn8 s9=>(aQ (.ref n5) (.ref n8) s9 λv10 s11=>(kK C2 v10 s11 λs12=>(kk  s12)))))) ll))
def LQ (a:V)(C0 C1 C2 C3:Nat)(st:St)(k:KV):=MC a C0 C1 C2 C3 st (λ st=>Jh a C0 C1 C2 C3 st k) k
def Kk  (C0 C1 C2 C3:Nat)(st:St)(kk:V->SB)(k:KV):=(fC C3 st λx1=>(dU [x1] st λv2 s3=>(aG v2 λi4=>aD (SV (cT i4) 63) (aD (small i4) (aD (SV 4 C3) (St.get s3 C3 λo5=>eo o5 λv6=>cU v6 λw7=>bB w7 λm8=>aD (SV 4 m8) (bg s3 m8 λl9=>iZq l9 λx10=>rA x10 (cT i4) 0 λa11=>aD (iH (dJ a11 [])) (St.push s3 .hid λ_ s12=>St.push s12 (.list (fE (λx=>.int x.2) (dJ a11 []))) λn13 s14=>((λ(x15:V)=>(kk x15 s14)) (.ref n13))) ll) ll) ll) ll) ll)))
def wl  (C0 C1 C2 C3:Nat)(st:St)(k:KV):=Kk C0 C1 C2 C3 st (λa st=>LQ a C0 C1 C2 C3 st k) k
def Oa  (C0 C1 C2 C3:Nat)(st:St)(kk:SB)(k:KV):=(fC C0 st λx3=>(xx x3 st λit1 s2=>(gC C0 C1 200 none it1 s2 λl4 _ s5=>aD (aB (aK l4)) (St.push s5 (.list l4) λn6 s7=>(kK C3 (.ref n6) s7 λs8=>(kk  s8))) ll)))
def EY  (C0 C1 C2 C3:Nat)(st:St)(k:KV):=Oa C0 C1 C2 C3 st (λ st=>wl C0 C1 C2 C3 st k) k
def Ry (A0 A1:V)(st:St)(k:KV):Si:=(St.push st (.cell none) λC0 s_0=>(St.push s_0 (.cell none) λC1 s_1=>(St.push s_1 (.cell none) λC2 s_2=>(St.push s_2 (.cell none) λC3 s_3=>(kK C0 A0 s_3 λs_4=>(kK C1 A1 s_4 λs_5=>(EY C0 C1 C2 C3 s_5 k)))))))
def EX:FN:=λvs st k=>(dc vs λA0 vs=>(dc vs λA1 vs=>(ge vs (Ry A0 A1 st k))))
theorem G7:RL=EX:=mD λ_ _ _ _=>by kernel_rfl
def rL (C0 C1:Nat)(ih:OV->It->St->(Sd V->OV->SB)->Si)(ob:OV)(it:It)(st:St)(k:Sd V->OV->SB):Si:=aY st it (k [] ob st) λy1 it2=>(@du.rec (λ_=>Si) (λv3=>(fC C1 st λx4=>(bF v3 x4 st λv5 s6=>(fC C0 s6 λx7=>(ef v5 x7 s6 λv8 s9=>(ih (Sa v3) it2 s9 λl10 o11 s12=>k (bp [(.tup [v8,v3])] l10) o11 s12)))))) (λ_ _=>ll) y1)
def vT (C0 C1:Nat)(n:Nat):OV->It->St->(Sd V->OV->SB)->Si:=@Tb (λ_=>_) (λ_ _ _ _=>ll) (λ_ ih=>rL C0 C1 ih) n
def tZ:CB:=(gt (cN (ae (aA ef (aA bF (aa ll 1) (aa Se 1)) (aa Se 0)) (ae (aa ll 1) av))))
def Bg (n:Nat):Fs.Fn (.n (.o (.e 2))) (It->St->(Sd V->Fs.Fo (.n (.o (.e 2))) SB)->Si):=λob C0 C1=>vT C0 C1 n ob
def Fw:CE:=eA (dG (ao (.int 1)) (aa ll 0)) 2 0 [0,1] (.n (.o (.e 2))) (bw (em (aw ll 1)) cA tZ 200) (Bg 200)
theorem zC:(cI (dG (ao (.int 1)) (aa ll 0)) 2 0 [0,1] (em (aw ll 1)) cA tZ:CE)=Fw:=cP (.n (.o (.e 2))) Bg (λih ob C0 C1=>rL C0 C1 (λob=>ih ob C0 C1) ob) rfl (λ_=>rfl) (λ_=>by kernel_rfl)
def tB (C0 C1:Nat)(ih:OV->It->St->(Sd V->OV->SB)->Si)(ob:OV)(it:It)(st:St)(k:Sd V->OV->SB):Si:=aY st it (k [] ob st) λy1 it2=>(@du.rec (λ_=>Si) (λv3=>(aG v3 λi4=>(fC C1 st λx5=>(bF (.int (Z3 i4)) x5 st λv6 s7=>(fC C0 s7 λx8=>(ef v6 x8 s7 λv9 s10=>(ih (Sa v3) it2 s10 λl11 o12 s13=>k (bp [(.tup [v9,v3])] l11) o12 s13))))))) (λ_ _=>ll) y1)
def wW (C0 C1:Nat)(n:Nat):OV->It->St->(Sd V->OV->SB)->Si:=@Tb (λ_=>_) (λ_ _ _ _=>ll) (λ_ ih=>tB C0 C1 ih) n
def rU:CB:=(gt (cN (ae (aA ef (aA bF (qA (aa ll 1)) (aa Se 1)) (aa Se 0)) (ae (aa ll 1) av))))
def zS (n:Nat):Fs.Fn (.n (.o (.e 2))) (It->St->(Sd V->Fs.Fo (.n (.o (.e 2))) SB)->Si):=λob C0 C1=>wW C0 C1 n ob
def FX:CE:=eA (dG (ao (.int 1)) (aa ll 0)) 2 0 [0,1] (.n (.o (.e 2))) (bw (em (aw ll 1)) cA rU 200) (zS 200)
theorem Am:(cI (dG (ao (.int 1)) (aa ll 0)) 2 0 [0,1] (em (aw ll 1)) cA rU:CE)=FX:=cP (.n (.o (.e 2))) zS (λih ob C0 C1=>tB C0 C1 (λob=>ih ob C0 C1) ob) rfl (λ_=>rfl) (λ_=>by kernel_rfl)
def sq (a d g h:V)(kk:OV->SB)(ih:OV->SB)(ob:OV)(st:St):Si:=(dU [h] st λv1 s2=>(MT v1 a s2 λc3=>(aD c3 (aG (.int 1) λi4=>(cZ h (.int (Z3 i4)) s2 λv5 s6=>(bB h λn7=>St.get s6 n7 λo8=>gQ o8 λ_=>((λ(J11:V->SB)=>(aQ v5 d s6 λv14 s15=>(MT v14 a s15 λyQ=>(aD yQ (aQ v5 d s15 λv17 s18=>(J11 v17 s18)) ((λ(J19:V->SB)=>(uD v5 g s15 λIO=>(aD IO (cj v5 g s15 λv23 s24=>(J19 v23 s24)) (aQ v5 d s15 λv25 s26=>(cj v25 g s26 λv27 s28=>(J19 v27 s28)))))) (λv20 s21=>(J11 v20 s21))))))) (λv12 s13=>(jQ h [v12] s13 λv9 s10=>(Oz v9 (ih (Sa v5) s10)))))))) (kk ob s2))))
def wR (a d g h:V)(kk:OV->SB)(n:Nat):OV->SB:=@Tb (λ_=>_) (λ_ _=>ll) (λ_ ih=>sq a d g h kk ih) n
def sN:CT:=(bR MT (gv dU (ae (aa ll 6) av)) (aa ll 0))
def rE:CS:=(aq (aV (dw (aa ll 6) (qA (ao (.int 1)))) (aw ll 1)) (aq (dI (lQ jQ (aa ll 6) (ae (uU (bR MT (aA aQ (aa ll 1) (aa ll 3)) (aa ll 0)) (aA aQ (aa ll 1) (aa ll 3)) (uU (bR uD (aa ll 1) (aa ll 5)) (aA cj (aa ll 1) (aa ll 5)) (aA cj (aA aQ (aa ll 1) (aa ll 3)) (aa ll 5)))) av))) aH))
def Av (n:Nat)(κ:KF):Fs.Fn (.v (.o (.v (.v (.v (.v (.v (.n (.e 2))))))))) SB:=λa ob c d e g h C0 C1=>wR a d g h (λob st=>κ .nxt ⟨[sm a,ob,sm c,sm d,sm e,sm g,sm h,no],[C0,C1]⟩ st) n ob
def F1:CS:=On (.v (.o (.v (.v (.v (.v (.v (.n (.e 2))))))))) (kS sN rE aH 200) (Av 200)
theorem Bz:(AC sN rE aH:CS)=F1:=vG (.v (.o (.v (.v (.v (.v (.v (.n (.e 2))))))))) Av (λκ ih a ob c d e g h C0 C1=>sq a d g h (λob st=>κ .nxt ⟨[sm a,ob,sm c,sm d,sm e,sm g,sm h,no],[C0,C1]⟩ st) (λob=>ih a ob c d e g h C0 C1) ob) (λ_=>rfl) (λ_ _=>rfl) (λ_ _=>by kernel_rfl)
def sG (ih:OV->OV->It->St->(Sd V->OV->OV->SB)->Si)(ob oc:OV)(it:It)(st:St)(k:Sd V->OV->OV->SB):Si:=aY st it (k [] ob oc st) λy1 it2=>(@du.rec (λ_=>Si) (λv3=>(iB 2 v3 st λl4=>(dc l4 λv5 l6=>(dc l6 λv7 l8=>(ge l8 (Eh v7 (.int 0) st λc9=>(aD c9 (ih (Sa v5) (Sa v7) it2 st λl10 o11 o12 s13=>k (bp [(.tup [v5,v7])] l10) o11 o12 s13) (ih (Sa v5) (Sa v7) it2 st k)))))))) (λ_ _=>ll) y1)
def xi (n:Nat):OV->OV->It->St->(Sd V->OV->OV->SB)->Si:=@Tb (λ_=>_) (λ_ _ _ _ _=>ll) (λ_ ih=>sG  ih) n
def tL:eN:=(em (fM 2 (bh (aw ll 1) (bh (aw ll 2) eW))))
def tR:CT:=(bR Eh (aa ll 2) (ao (.int 0)))
def tF:CB:=(gt (cN (ae (aa ll 1) (ae (aa ll 2) av))))
def Bt (n:Nat):Fs.Fn (.n (.o (.o (.e 0)))) (It->St->(Sd V->Fs.Fo (.n (.o (.o (.e 0)))) SB)->Si):=λob oc=>xi  n ob oc
def E1:CE:=eA (iE (aa ll 7)) 3 0 [] (.n (.o (.o (.e 0)))) (bw tL tR tF 200) (Bt 200)
theorem BI:(cI (iE (aa ll 7)) 3 0 [] tL tR tF:CE)=E1:=cP (.n (.o (.o (.e 0)))) Bt (λih ob oc=>sG  (λob oc=>ih ob oc) ob oc) rfl (λ_=>rfl) (λ_=>by kernel_rfl)
def NE:CS:=(aV (gv Ca (ae Fw av)) (fM 2 (bh (aw ll 2) (bh (aw ll 3) eW))))
def I8:CS:=(aV (gv Ca (ae FX av)) (fM 2 (bh (aw ll 4) (bh (aw ll 5) eW))))
def Jz:CS:=(aV (d0 (ae (ao (.int 0)) av)) (aw ll 6))
def Ng:CS:=F1
def K3:CS:=(aV (d0 (ae (cN (ae (aa ll 2) (ae (aA cj (aa ll 0) (aa ll 3)) av))) (ae (cN (ae (aa ll 4) (ae (aA cj (aa ll 0) (aa ll 5)) av))) (ae (cN (ae (aA aQ (aa ll 2) (aa ll 4)) (ae (aA cj (aA aQ (aa ll 3) (aa ll 5)) (aa ll 0)) av))) av)))) (aw ll 7))
def Ly:CS:=(dq (cN (ae (aa ll 6) (ae E1 av))))
noncomputable def Ld:CS:=aH
def MX:CS:=aq Ly Ld
def JD:CS:=aq K3 MX
def Kt:CS:=aq Ng JD
def Lj:CS:=aq Jz Kt
def JI:CS:=aq I8 Lj
def Nt:CS:=aq NE JI
def Rt:CS:=Nt
def Rw:FN:=bn [(Se,0),(Se,1),(ll,0)] 8 2 Rt
noncomputable def LU  (st:St)(k:KV):=k .none st
def JL (h i:V)(st:St)(kk:SB)(k:KV):=(xx i st λit1 s2=>(xi  200 none none it1 s2 λl3 _ _ s4=>aD (aB (aK l3)) (St.push s4 (.list l3) λn5 s6=>(k (.tup [h,(.ref n5)]) s6)) ll))
def Mz (h i:V)(st:St)(k:KV):=JL h i st (λ st=>LU  st k) k
def Lm (a c d e g:V)(st:St)(kk:V->SB)(k:KV):=(cj a d st λv1 s2=>(cj a g s2 λv3 s4=>(aQ c e s4 λv5 s6=>(aQ d g s6 λv7 s8=>(cj v7 a s8 λv9 s10=>(St.push s10 (.list [(.tup [c,v1]),(.tup [e,v3]),(.tup [v5,v9])]) λn11 s12=>((λ(x13:V)=>(kk x13 s12)) (.ref n11))))))))
def Jv (a c d e g h:V)(st:St)(k:KV):=Lm a c d e g st (λi st=>Mz h i st k) k
def KJ (a d g h:V)(st:St)(kk:OV->SB)(k:KV):=(wR a d g h (λo2 s1=>(kk o2 s1))  200 none st)
def Lo (a c d e g h:V)(st:St)(k:KV):=KJ a d g h st (λob st=>Jv a c d e g h st k) k
def Jm  (st:St)(kk:V->SB)(k:KV):=(St.push st (.list [(.int 0)]) λn1 s2=>((λ(x3:V)=>(kk x3 s2)) (.ref n1)))
def LS (a c d e g:V)(st:St)(k:KV):=Jm  st (λh st=>Lo a c d e g h st k) k
def Mv (a:V)(C0 C1:Nat)(st:St)(kk:V->V->SB)(k:KV):=(aG (.int 1) λi3=>aG a λi4=>eB i3 i4 1 st λit1 s2=>(wW C0 C1 200 none it1 s2 λl5 _ s6=>aD (aB (aK l5)) (St.push s6 (.list l5) λn7 s8=>(Ca [(.ref n7)] s8 λv9 s10=>(iB 2 v9 s10 λl11=>(dc l11 λv12 l13=>(dc l13 λv14 l15=>(ge l15 (kk v12 v14 s10))))))) ll))
def Ll (a c d:V)(C0 C1:Nat)(st:St)(k:KV):=Mv a C0 C1 st (λe g st=>LS a c d e g st k) k
def Lg (a:V)(C0 C1:Nat)(st:St)(kk:V->V->SB)(k:KV):=(aG (.int 1) λi3=>aG a λi4=>eB i3 i4 1 st λit1 s2=>(vT C0 C1 200 none it1 s2 λl5 _ s6=>aD (aB (aK l5)) (St.push s6 (.list l5) λn7 s8=>(Ca [(.ref n7)] s8 λv9 s10=>(iB 2 v9 s10 λl11=>(dc l11 λv12 l13=>(dc l13 λv14 l15=>(ge l15 (kk v12 v14 s10))))))) ll))
def Kf (a:V)(C0 C1:Nat)(st:St)(k:KV):=Lg a C0 C1 st (λc d st=>Ll a c d C0 C1 st k) k
def RP (A0 A1 A2:V)(st:St)(k:KV):Si:=(St.push st (.cell none) λC0 s_0=>(St.push s_0 (.cell none) λC1 s_1=>(kK C0 A0 s_1 λs_2=>(kK C1 A1 s_2 λs_3=>(Kf A2 C0 C1 s_3 k)))))
def Os:FN:=λvs st k=>(dc vs λA0 vs=>(dc vs λA1 vs=>(dc vs λA2 vs=>(ge vs (RP A0 A1 A2 st k)))))
theorem GP:Rw=Os:=Lq λ_ _ _ _ _=>by kernel_rfl
def qN (ih:OV->OV->It->St->(Sd V->OV->OV->SB)->Si)(ob oc:OV)(it:It)(st:St)(k:Sd V->OV->OV->SB):Si:=aY st it (k [] ob oc st) λy1 it2=>(@du.rec (λ_=>Si) (λv3=>(iB 2 v3 st λl4=>(dc l4 λv5 l6=>(dc l6 λv7 l8=>(ge l8 (ih (Sa v5) (Sa v7) it2 st λl9 o10 o11 s12=>k (bp [v5] l9) o10 o11 s12)))))) (λ_ _=>ll) y1)
def xl (n:Nat):OV->OV->It->St->(Sd V->OV->OV->SB)->Si:=@Tb (λ_=>_) (λ_ _ _ _ _=>ll) (λ_ ih=>qN  ih) n
def tK:eN:=(em (fM 2 (bh (aw ll 1) (bh (aw ll 2) eW))))
def y5 (n:Nat):Fs.Fn (.n (.o (.o (.e 0)))) (It->St->(Sd V->Fs.Fo (.n (.o (.o (.e 0)))) SB)->Si):=λob oc=>xl  n ob oc
def Fj:CE:=eA (iE (aa Se 0)) 3 0 [] (.n (.o (.o (.e 0)))) (bw tK cA (gt (aa ll 1)) 200) (y5 200)
theorem zO:(cI (iE (aa Se 0)) 3 0 [] tK cA (gt (aa ll 1)):CE)=Fj:=cP (.n (.o (.o (.e 0)))) y5 (λih ob oc=>qN  (λob oc=>ih ob oc) ob oc) rfl (λ_=>rfl) (λ_=>by kernel_rfl)
def sO (C0:Nat)(ih:OV->OV->It->St->(Sd V->OV->OV->SB)->Si)(ob oc:OV)(it:It)(st:St)(k:Sd V->OV->OV->SB):Si:=aY st it (k [] ob oc st) λy1 it2=>(@du.rec (λ_=>Si) (λv3=>(iB 2 v3 st λl4=>(dc l4 λv5 l6=>(dc l6 λv7 l8=>(ge l8 (fC C0 st λx9=>(iu v5 x9 st λLF=>(aD LF (ih (Sa v5) (Sa v7) it2 st λl11 o12 o13 s14=>k (bp [v7] l11) o12 o13 s14) (ih (Sa v5) (Sa v7) it2 st k))))))))) (λ_ _=>ll) y1)
def wH (C0:Nat)(n:Nat):OV->OV->It->St->(Sd V->OV->OV->SB)->Si:=@Tb (λ_=>_) (λ_ _ _ _ _=>ll) (λ_ ih=>sO C0 ih) n
def rB:eN:=(em (fM 2 (bh (aw ll 1) (bh (aw ll 2) eW))))
def rW:CT:=(bR iu (aa ll 1) (aa Se 0))
def BE (n:Nat):Fs.Fn (.n (.o (.o (.e 1)))) (It->St->(Sd V->Fs.Fo (.n (.o (.o (.e 1)))) SB)->Si):=λob oc C0=>wH C0 n ob oc
def Fg:CE:=eA (iE (aa Se 1)) 3 0 [0] (.n (.o (.o (.e 1)))) (bw rB rW (gt (aa ll 2)) 200) (BE 200)
theorem zG:(cI (iE (aa Se 1)) 3 0 [0] rB rW (gt (aa ll 2)):CE)=Fg:=cP (.n (.o (.o (.e 1)))) BE (λih ob oc C0=>sO C0 (λob oc=>ih ob oc C0) ob oc) rfl (λ_=>rfl) (λ_=>by kernel_rfl)
def tY (C0 C1:Nat)(ih:It->St->(Sd V->SB)->Si)  (it:It)(st:St)(k:Sd V->SB):Si:=aY st it (k []  st) λy1 it2=>(@du.rec (λ_=>Si) (λv3=>(kK C0 v3 st λs4=>(fC C1 s4 λx7=>(xx x7 s4 λit5 s6=>(wH C0 200 none none it5 s6 λl8 _ _ s9=>aD (aB (aK l8)) (St.push s9 (.list l8) λn10 s11=>(zD [(.ref n10)] s11 λv12 s13=>(ih  it2 s13 λl14  s15=>k (bp [v12] l14)  s15))) ll))))) (λ_ _=>ll) y1)
def wz (C0 C1:Nat)(n:Nat):It->St->(Sd V->SB)->Si:=@Tb (λ_=>_) (λ _ _ _=>ll) (λ_ ih=>tY C0 C1 ih) n
def qT:CB:=(gt (gv zD (ae Fg av)))
def zq (n:Nat):Fs.Fn (.n (.e 2)) (It->St->(Sd V->Fs.Fo (.n (.e 2)) SB)->Si):=λC0 C1=>wz C0 C1 n
def EN:CE:=eA (dG (ao (.int 1)) (aA aQ (aa ll 0) (ao (.int 1)))) 1 1 [0] (.n (.e 2)) (bw (em (aw Se 0)) cA qT 200) (zq 200)
theorem Cj:(cI (dG (ao (.int 1)) (aA aQ (aa ll 0) (ao (.int 1)))) 1 1 [0] (em (aw Se 0)) cA qT:CE)=EN:=cP (.n (.e 2)) zq (λih C0 C1=>tY C0 C1 (ih C0 C1)) rfl (λ_=>rfl) (λ_=>by kernel_rfl)
def K5:CS:=(aV (gv GC (ae Fj av)) (aw ll 0))
def Lx:CS:=(aV EN (aw ll 1))
def Mq:CS:=(dq (cN (ae (gv Do (ae (aa ll 1) av)) (ae (ao (.int 0)) av))))
noncomputable def Jd:CS:=aH
def LA:CS:=aq Mq Jd
def Ke:CS:=aq Lx LA
def NW:CS:=aq K5 Ke
def Rf:CS:=NW
def RR:FN:=bn [(Se,0)] 2 1 Rf
noncomputable def KW  (st:St)(k:KV):=k .none st
def L7 (b:V)(st:St)(kk:SB)(k:KV):=(Do [b] st λv1 s2=>(k (.tup [v1,(.int 0)]) s2))
def Nf (b:V)(st:St)(k:KV):=L7 b st (λ st=>KW  st k) k
def Nh (a:V)(C0:Nat)(st:St)(kk:V->SB)(k:KV):=(aQ a (.int 1) st λv3 s4=>(aG (.int 1) λi5=>aG v3 λi6=>eB i5 i6 1 s4 λit1 s2=>(St.push s2 (.cell none) λc7 s12=>(wz c7 C0 200  it1 s12 λl8  s9=>aD (aB (aK l8)) (St.push s9 (.list l8) λn10 s11=>((λ(x13:V)=>(kk x13 s11)) (.ref n10))) ll))))
def MO (a:V)(C0:Nat)(st:St)(k:KV):=Nh a C0 st (λb st=>Nf b st k) k
def Nk  (C0:Nat)(st:St)(kk:V->SB)(k:KV):=(fC C0 st λx3=>(xx x3 st λit1 s2=>(xl  200 none none it1 s2 λl4 _ _ s5=>aD (aB (aK l4)) (St.push s5 (.list l4) λn6 s7=>(GC [(.ref n6)] s7 λv8 s9=>(kk v8 s9))) ll)))
def KB  (C0:Nat)(st:St)(k:KV):=Nk C0 st (λa st=>MO a C0 st k) k
def RE (A0:V)(st:St)(k:KV):Si:=(St.push st (.cell none) λC0 s_0=>(kK C0 A0 s_0 λs_1=>(KB C0 s_1 k)))
def Ol:FN:=λvs st k=>(dc vs λA0 vs=>(ge vs (RE A0 st k)))
theorem HL:RR=Ol:=AI λ_ _ _=>by kernel_rfl
def sg (C0:Nat)(ih:OV->OV->It->St->(Sd V->OV->OV->SB)->Si)(ob oc:OV)(it:It)(st:St)(k:Sd V->OV->OV->SB):Si:=aY st it (k [] ob oc st) λy1 it2=>(@du.rec (λ_=>Si) (λv3=>(iB 2 v3 st λl4=>(dc l4 λv5 l6=>(dc l6 λv7 l8=>(ge l8 (aG v5 λi9=>(fC C0 st λx10=>(zr (.int (Z3 i9)) x10 st λv11 s12=>(aG v11 λi13=>(bF (.int (Z3 i13)) v7 s12 λv14 s15=>(ih (Sa v5) (Sa v7) it2 s15 λl16 o17 o18 s19=>k (bp [v14] l16) o17 o18 s19))))))))))) (λ_ _=>ll) y1)
def w1 (C0:Nat)(n:Nat):OV->OV->It->St->(Sd V->OV->OV->SB)->Si:=@Tb (λ_=>_) (λ_ _ _ _ _=>ll) (λ_ ih=>sg C0 ih) n
def t7:eN:=(em (fM 2 (bh (aw ll 1) (bh (aw ll 2) eW))))
def tP:CB:=(gt (aA bF (qA (aA zr (qA (aa ll 1)) (aa Se 0))) (aa ll 2)))
def zN (n:Nat):Fs.Fn (.n (.o (.o (.e 1)))) (It->St->(Sd V->Fs.Fo (.n (.o (.o (.e 1)))) SB)->Si):=λob oc C0=>w1 C0 n ob oc
def Fc:CE:=eA (iE (aa ll 0)) 3 0 [0] (.n (.o (.o (.e 1)))) (bw t7 cA tP 200) (zN 200)
theorem AB:(cI (iE (aa ll 0)) 3 0 [0] t7 cA tP:CE)=Fc:=cP (.n (.o (.o (.e 1)))) zN (λih ob oc C0=>sg C0 (λob oc=>ih ob oc C0) ob oc) rfl (λ_=>rfl) (λ_=>by kernel_rfl)
def K1:CS:=(dq (aA bF (aa Se 0) (gv zD (ae Fc av))))
noncomputable def MV:CS:=aH
def KY:CS:=aq K1 MV
def Ru:CS:=KY
def R6:FN:=bn [(ll,0),(Se,0)] 1 1 Ru
noncomputable def M9 (a:V)(C0:Nat)(st:St)(k:KV):=k .none st
def NV (a:V)(C0:Nat)(st:St)(kk:SB)(k:KV):=(fC C0 st λx1=>(xx a st λit2 s3=>(w1 C0 200 none none it2 s3 λl4 _ _ s5=>aD (aB (aK l4)) (St.push s5 (.list l4) λn6 s7=>(zD [(.ref n6)] s7 λv8 s9=>(bF x1 v8 s9 λv10 s11=>(k v10 s11)))) ll)))
def I5 (a:V)(C0:Nat)(st:St)(k:KV):=NV a C0 st (λ st=>M9 a C0 st k) k
def RN (A0 A1:V)(st:St)(k:KV):Si:=(St.push st (.cell none) λC0 s_0=>(kK C0 A1 s_0 λs_1=>(I5 A0 C0 s_1 k)))
def CK:FN:=λvs st k=>(dc vs λA0 vs=>(dc vs λA1 vs=>(ge vs (RN A0 A1 st k))))
theorem HF:R6=CK:=mD λ_ _ _ _=>by kernel_rfl
end
theorem T.get_of:∀{t:T}{i:Nat}{o:O},t.look i=Sa o->∀k:O->Si,t.get i k=k o
 | .nil,_,_,h,_=>by exact iq h
 | .node v l r,0,o,h,k=>by cases h;rfl
 | .node v l r,j+1,o,h,k=>by
  have h:(if j % 2=0 then l.look (j / 2) else r.look (j / 2))=Sa o:=h
  show @Te (λ_=>Si) (r.get (j / 2) k) (l.get (j / 2) k) (SD (j % 2) 0)=k o
  by_cases q:j % 2=0
  ·rw[SR q] at h
   rw[q]
   exact T.get_of h k
  ·rw[Sz q] at h
   rw[beqF q]
   exact T.get_of h k
theorem St.get_of (h:s.look i=Sa o)(k:O->Si):s.get i k=k o:=T.get_of h k
theorem eT {x:α}{k:α->Si}{z:Si}:∀{l:Sd α}{i:Nat},l[i]? = Sa x->getL l i k z=k x
 | [],i,h=>by simp at h
 | y::l,0,h=>by simp at h;subst h;rfl
 | y::l,i+1,h=>by
  show getL l i k z=k x
  exact eT (by simpa using h)
theorem fw {a b:Si}:aD Se a b=a:=rfl
theorem H6 {a b:Si}:aD ll a b=b:=rfl
theorem tb {a b c:Si}(h:a=b)(w:b=c):a=c:=h.trans w
theorem g8 {b t e:Si}(h:b=Se):aD b t e=t:=by rw[h];rfl
theorem bG {a b:Nat}(h:a<=b):SV a b=Se:=TU h
theorem bU (h:n<=1152921504606846975):small (.ofNat n)=Se:=bG h
noncomputable section
def C9 (v:V)(k:Nat->Si):Si:=aG v λi=>@UU (λ_=>Si) k (λ_=>ll) i
end
theorem Ik {k:Nat->Si}(h:C9 v k=Se):∃n:Nat,v=.int (.ofNat n)/\k n=Se:=by
 refine aO h λi e81 h1=>?_;clear h;subst e81
 induction i with
 | ofNat n=>exact⟨n,rfl,h1⟩
 | negSucc n=>exact ff h1
theorem Bd {P:Prop} {k:Nat->Si}(h:C9 v k=Se)(H:∀n:Nat,v=.int (.ofNat n)->k n=Se->P):P:=uE (Ik h) H
section
variable {st:St}{k:KV}{a b:Nat}
theorem lP (ha:a<=1152921504606846975)(hb:b<=1152921504606846975):bF (.int (.ofNat a)) (.int (.ofNat b)) st k=k (.int (.ofNat (a*b))) st:=by
 show aD (small (.ofNat a)) (aD (small (.ofNat b)) (k (.int (GV (.ofNat a) (.ofNat b))) st) ll) ll=_
 rw[bU ha,bU hb];rfl
end
inductive Sh:T->T->Prop
 | nil:Sh .nil .nil
 | node {v w:O} {l l' r r':T}:Sh l l'->Sh r r'->Sh (.node v l r) (.node w l' r')
theorem Sh.refl:∀t:T,Sh t t
 | .nil=>.nil
 | .node _ l r=>.node (Sh.refl l) (Sh.refl r)
theorem Sh.symm {t u:T}(h:Sh t u):Sh u t:=by
 induction h with
 | nil=>exact .nil
 | node _ _ a b=>exact .node a b
theorem Sh.trans {t u w:T}(h:Sh t u)(q:Sh u w):Sh t w:=by
 induction h generalizing w with
 | nil=>exact q
 | node _ _ a b=>cases q with | node c d=>exact .node (a c) (b d)
inductive LN (t:T)(i:Nat)(o:O):Prop
 | mk (t':T) (e:∀k,t.set i o k=k t') (l:∀j,t'.look j=if j=i then Sa o else t.look j) (h:Sh t t')
theorem T.set_l {v:O}{l:T} {k:T->Si}(q:i % 2=0):(T.node v l r).set (i+1) o k=l.set (i / 2) o λl=>k (.node v l r):=by
 show @Te (λ_=>Si) (r.set (i / 2) o λr=>k (.node v l r)) (l.set (i / 2) o λl=>k (.node v l r)) (SD (i % 2) 0)=_
 rw[q];rfl
theorem T.set_r {v:O}{l:T} {k:T->Si}(q:¬i % 2=0):(T.node v l r).set (i+1) o k=r.set (i / 2) o λr=>k (.node v l r):=by
 show @Te (λ_=>Si) (r.set (i / 2) o λr=>k (.node v l r)) (l.set (i / 2) o λl=>k (.node v l r)) (SD (i % 2) 0)=_
 rw[T.beqF q]
theorem T.ins_l {v:O}{l:T} {k:T->Si}(q:i % 2=0):(T.node v l r).ins (i+1) o k=l.ins (i / 2) o λl=>k (.node v l r):=by
 show @Te (λ_=>Si) (r.ins (i / 2) o λr=>k (.node v l r)) (l.ins (i / 2) o λl=>k (.node v l r)) (SD (i % 2) 0)=_
 rw[q];rfl
theorem T.ins_r {v:O}{l:T} {k:T->Si}(q:¬i % 2=0):(T.node v l r).ins (i+1) o k=r.ins (i / 2) o λr=>k (.node v l r):=by
 show @Te (λ_=>Si) (r.ins (i / 2) o λr=>k (.node v l r)) (l.ins (i / 2) o λl=>k (.node v l r)) (SD (i % 2) 0)=_
 rw[T.beqF q]
theorem T.set_sh {t:T} (h:(t.look i).isSome=Se):LN t i o:=by
 induction t generalizing i with
 | nil=>exact ff h
 | node v l r ihl ihr=>
  induction i with
  | zero=>exact⟨.node o l r,λ_=>rfl,look_0,.node (Sh.refl l) (Sh.refl r)⟩
  | succ i=>
   rw[isSome_node] at h
   by_cases q:i % 2=0
   ·rw[SR q] at h
    obtain⟨t',a,b,c⟩:=ihl h
    exact⟨.node v t' r,λk=>(set_l q).trans (a _),look_l q b,.node c (Sh.refl r)⟩
   ·rw[Sz q] at h
    obtain⟨t',a,b,c⟩:=ihr h
    exact⟨.node v l t',λk=>(set_r q).trans (a _),look_r q b,.node (Sh.refl l) c⟩
inductive NY (t u:T)(i:Nat)(o o':O):Prop
 | mk (t' u':T) (e:∀k,t.ins i o k=k t') (e':∀k,u.ins i o' k=k u') (l:∀j,t'.look j=if j=i then Sa o else t.look j) (l':∀j,u'.look j=if j=i then Sa o' else u.look j) (h:Sh t' u')
theorem T.ins_sh {k:T->Si}{t u:T} (s:Sh t u)(h:t.ins i o k=Se):NY t u i o o':=by
 induction s generalizing i k with
 | nil=>
  induction i with
  | zero=>exact⟨.node o .nil .nil,.node o' .nil .nil,λ_=>rfl,λ_=>rfl,look_n,look_n,.node .nil .nil⟩
  | succ i=>exact ff h
 | @node v w l l' r r' a b iha ihb=>
  induction i with
  | zero=>exact ff h
  | succ i=>
   by_cases q:i % 2=0
   ·obtain⟨t',u',h1,h2,h3,h4,h5⟩:=iha ((ins_l q).symm.trans h)
    exact⟨.node v t' r,.node w u' r',λk=>(ins_l q).trans (h1 _),λk=>(ins_l q).trans (h2 _),look_l q h3,look_l q h4,.node h5 b⟩
   ·obtain⟨t',u',h1,h2,h3,h4,h5⟩:=ihb ((ins_r q).symm.trans h)
    exact⟨.node v l t',.node w l' u',λk=>(ins_r q).trans (h1 _),λk=>(ins_r q).trans (h2 _),look_r q h3,look_r q h4,.node a h5⟩
theorem St.push_sh {u:St} {k:Nat->St->Si}(hn:s.n=u.n)(h:Sh s.t u.t)(q:s.push o k=Se):∃s' u',(∀k,s.push o k=k s.n s')/\(∀k,u.push o' k=k u.n u')/\s'.n=s.n+1/\u'.n=u.n+1/\(∀j,s'.look j=if j=s.n then Sa o else s.look j)/\(∀j,u'.look j=if j=u.n then Sa o' else u.look j)/\Sh s'.t u'.t:=by
 obtain⟨t',u',h1,h2,h3,h4,h5⟩:=T.ins_sh (o':=o') h q
 exact⟨⟨s.n+1,t'⟩,⟨u.n+1,u'⟩,λk=>h1 _,λk=>by show u.t.ins u.n o' _=_;rw[←hn];exact h2 _,rfl,rfl,h3,λj=>by show u'.look j=_;rw[h4,hn];rfl,h5⟩
theorem St.set_sh (h4:4<=i)(h:(s.look i).isSome=Se):∃s',(∀k,s.set i o k=k s')/\s'.n=s.n/\(∀j,s'.look j=if j=i then Sa o else s.look j)/\Sh s.t s'.t:=by
 obtain⟨t',a,b,c⟩:=T.set_sh (o:=o) h
 refine⟨⟨s.n,t'⟩,λk=>?_,rfl,b,c⟩
 show aD (SV 4 i) (s.t.set i o λt=>k ⟨s.n,t⟩) ll=_
 rw[bG h4,fw];exact a _
structure HP (s u:St):Prop where
 n:u.n=s.n
 at_:∀i,u.look i=s.look i\/(u.look i=Sa .hid/\(s.look i).isSome=Se/\4<=i)
theorem Inv.hide {u:St}{s:Sr}(I:Inv C σ st s)(h:HP st u):Inv C σ u s:=by
 have back:∀{i:Nat} {o:O},u.look i=Sa o->o≠.hid->st.look i=Sa o:=λ{i o} e n=>by
  rcases h.at_ i with q | ⟨q,_⟩
  ·rw[←q];exact e
  ·rw[q] at e;exact S8 (Sa.inj e).symm n
 have hid:∀{i:Nat},st.look i=Sa .hid->u.look i=Sa .hid:=λ{i} e=>by
  rcases h.at_ i with q | ⟨q,_⟩
  ·rw[q];exact e
  ·exact q
 have inst:∀{i c d fs l},(u.look i=Sa (.inst c d fs)\/u.look i=Sa (.lsub c d fs l))->(st.look i=Sa (.inst c d fs)\/st.look i=Sa (.lsub c d fs l)):=λ{i c d fs l} e=>e.imp (λe=>back e (λq=>nomatch q)) (λe=>back e (λq=>nomatch q))
 have safe:∀j,Safe st j->Safe u j:=λj x=>⟨hid x.1,λi c d fs l e=>x.2 i c d fs l (inst e)⟩
 refine⟨I.base,I.nodup,I.new,h.n.trans I.n,λi o e=>?_,λi c d fs l e=>hid (I.dict i c d fs l (inst e)),λi j c d fs l c' d' fs' l' e e'=>I.apart i j c d fs l c' d' fs' l' (inst e) (inst e'),dR I.tabs (λ_ _ e=>e) safe λ_ _ _ _ _ g=>g,λi a o m=>?_⟩
 ·rcases h.at_ i with q | ⟨q,z,_⟩
  ·exact I.at_ i o (q▸e)
  ·rw[q] at e
   cases e
   obtain⟨o',e'⟩:=S1.mp z
   obtain⟨a,ha,_⟩:=I.at_ i o' e'
   exact⟨a,ha,trivial⟩
 ·obtain⟨q1,q2,q3,l,q4⟩:=I.fix i a o m
  refine⟨q1,q2,q3,l,?_⟩
  rcases h.at_ i with q | ⟨_,_,q⟩
  ·rw[q];exact q4
  ·lia
open Classical in
theorem CY {H I:FN}(hi:∀vs st k,I vs st k=Se->H vs st (λv s=>decide (∃u,HP s u/\k v u=Se))=Se)(h:eY C d f H):eY C d f I:=by
 intro A σ st s k l us R Iv r q
 refine VC (h A σ st s _ l us R Iv r (hi l st k q)) ?_
 rintro r s' z
 rcases r with e | (v | _ | _ | _)
 all_goals first | exact z.elim | skip
 obtain⟨σ',v',st',S,I',rv,hk⟩:=z
 refine aE (S4 hk) λu hu ku=>?_
 exact⟨σ',v',u,S,I'.hide hu,rv,ku⟩
noncomputable section
def gX (cs:Sd Nat)(b:Nat):Sd Nat:=@SZ Nat (λ_=>Nat->Sd Nat) (λb=>@Tb (λ_=>Sd Nat) [1] (λ_ ih=>0::ih) b) (λc r ih b=>@Tb (λ_=>Sd Nat) (Tv c::r) (λm _=>c::ih m) b) cs b
def Oh (l:Sd Nat):Sd Nat->Nat->Nat->Nat->St->(Sd Nat->Nat->Nat->Nat->St->Si)->Si:=@SZ Nat (λ_=>Sd Nat->Nat->Nat->Nat->St->(Sd Nat->Nat->Nat->Nat->St->Si)->Si)
 (λcs b n nt st k=>k cs b n nt st)
 (λc _ ih cs b n nt st k=>aD (SD c 32) (ih cs (Tv b) (Tv n) nt st k) (aD (SD c 9)
  (aD (SV (aK cs) b) (st.push .hid λ_ st=>st.push .hid λ_ st=>st.push .hid λ_ st=>ih (gX cs b) 0 (Tv n) (Tv nt) st k) (ih (gX cs b) 0 (Tv n) (Tv nt) st k)) (k cs b n nt st))) l
noncomputable def ak (c:Nat):V:=.int (.ofNat c)
abbrev Om (c d:Nat)(w cs:Sd Nat)(b n nt:Nat):O:=.inst c d [(0,.str w),(1,ak n),(2,ak nt),(3,.tup [.tup (fE ak cs),ak b]),(4,.bool (SV (aK cs) 1))]
def Cq (o:O)(k:Nat->Nat->Sd (Nat×V)->Si):Si:=@O.rec (λ_=>Si) (λ_=>ll) (λ_=>ll) k (λ_ _ _ _=>ll) ll o
def RD (c d p:Nat)(w:Sd Nat)(st:St)(k:KV):Si:=st.push .hid λ_ st=>Oh w [] 0 0 0 st λcs b n nt st=>st.set p (Om c d w cs b n nt) λst=>k .none st
def I0:FN:=λvs st k=>F3 vs λself ws=>dB ws λw=>aD (fN w) (aD (SV (aK w) 150) (bB self λp=>aD (SV 4 p) (aD (SV (Tv p) st.n) (st.get p λo=>Cq o λc d fs=>ge fs (RD c d p w st k)) ll) ll) ll) ll
end
section
variable {s:St}{q:Nat}{l:List V}
theorem bj (h:s.look q=Sa (.list l))(K:Sd V->Si):bg s q K=K l:=St.get_of h _
theorem pM {K:KV}(h:s.look q=Sa (.list l))(hl:l.length<=4095):dU [.ref q] s K=K (ak l.length) s:=by
 refine(St.get_of h _).trans ?_
 show aD (aB (aK l)) (K (.int (TA (aK l))) s) ll=_
 rw[aC,show aB l.length=Se from bG hl];rfl
theorem cr {K:KV}{a:Nat}{x:V}(h:s.look q=Sa (.list l))(hx:l[a]? = Sa x)(ha:a<=4095):cZ (.ref q) (ak a) s K=K x s:=by
 show aD (small (.ofNat a)) (s.get q λo=>gQ o λl=>GR l (.ofNat a) λv=>K v s) ll=_
 rw[bU (by lia),fw,St.get_of h]
 exact eT hx
theorem xo (a b:Nat):CQ [a] [b]=SD a b:=by
 show aD (SD a b) Se ll=_
 cases SD a b <;> rfl
theorem w4 {v:α}{k:Sd α->Si}:∀{l:Sd α}{i:Nat},i<l.length->nB l i v k=k (l.set i v)
 | [],i,h=>by simp at h
 | _::_,0,_=>rfl
 | x::l,i+1,h=>by
  show nB l i v (λq=>k (x::q))=_
  rw[w4 (by simpa using h)];rfl
theorem BP {a b:Nat}(h:b<=a):iC (.ofNat a) (.ofNat b)=.ofNat (a - b):=by rw[ey];simp only[Ux];lia
end
theorem fZ {K:KV}:aQ (ak n) (.int 1) s K=K (ak (n+1)) s:=rfl
theorem ie {a b:Nat} {K:KV}(h:b<=a):cj (ak a) (ak b) s K=K (ak (a - b)) s:=by
 show K (.int (iC (.ofNat a) (.ofNat b))) s=_
 rw[BP h];rfl
theorem ix {z:Nat} {K:KV} (h:s.look z=Sa (.list l))(hm:m<=4095)(hl:l.length*m<=4095):bF (.ref z) (ak m) s K=s.push (.list (cw l m)) λn st=>K (.ref n) st:=by
 show bg s z (λl'=>aD (small (.ofNat m)) (aD (aB (XD (aK l') m)) (s.push (.list (cw l' m)) λn st=>K (.ref n) st) ll) ll)=_
 rw[bj h,bU (by lia),fw,aC,show aB (XD l.length m)=Se from bG hl,fw]
theorem ow {a b:Nat} {K:KV} (h:s.look a=Sa (.list l))(h':s.look b=Sa (.list q))(hl:l.length+q.length<=4095):aQ (.ref a) (.ref b) s K=s.push (.list (bp l q)) λn st=>K (.ref n) st:=by
 show bg s a (λl'=>bg s b λq'=>aD (aB (Zu (aK l') (aK q'))) (s.push (.list (bp l' q')) λn st=>K (.ref n) st) ll)=_
 rw[bj h,bj h',aC,aC,show aB (Zu l.length q.length)=Se from bG hl,fw]
theorem d8 (cs:Sd Nat):(cs.map ak).length=cs.length:=S0 ..
noncomputable section
def Ai (p0:Int)(r:Nat)(p:Int):Int:=Cm (iC p p0) (.ofNat r)
noncomputable def zp (n:Nat):Nat->Sd Nat:=@Tb (λ_=>Nat->Sd Nat) (λ_=>[]) (λ_ ih j=>j::ih (Tv j)) n
def Ey (step ring n:Nat):Sd Nat:=fE (λj=>YC (XD j step) ring) (zp n 0)
def Gx (step ring cnt q:Nat)(rv:V)(st:St)(k:KV):Si:=St.push st (.cell none) λc_0 s=>St.push s (.cell none) λc_1 s=>St.push s (.cell none) λc_2 s=>St.push s (.cell none) λc_3 s=>kK c_0 (.ref q) s λs=>kK c_1 rv s λs=>
 St.push s (.list (fE ak (Ey step ring cnt))) λn s=>kK c_3 (.ref n) s λs=>wl c_0 c_1 c_2 c_3 s k
def Gs (step ring cnt q:Nat)(fm:Fm)(st:St)(k:KV):Si:=getL fm.cel 0 (λc=>st.get c λo=>eo o λw=>cU w λrv=>C9 rv λr=>aD (SD r ring) (Gx step ring cnt q rv st k) ll) ll
def Ih (step ring N:Nat)(fm:Fm)(st:St)(k:KV):Si:=getL fm.loc 6 (λo=>cU o λcv=>C9 cv λcnt=>aD (SV 1 cnt) (aD (SV cnt N) (bg st 0 λl=>st.push (.list (fy l cnt)) λq st=>Gs step ring cnt q fm st k) ll) ll) ll
def xt (step ring N:Nat):CE:=λfm st k=>getL fm.loc 4 (λo=>cU o λpv=>bB pv λp=>aD (SD p 0) (Ih step ring N fm st k) ll) ll
end
theorem Dp {k:Nat->St->Si}(h:s.push o k=Se):∃s',(∀K,s.push o K=K s.n s')/\s'.n=s.n+1/\(∀j,s'.look j=if j=s.n then Sa o else s.look j):=by
 refine qh (St.push_sh (o':=o) (s:=s) (u:=s) rfl (Sh.refl _) h) λs' _ h1 _ h3 _ h5 _=>?_
 exact⟨s',h1,h3,h5⟩
theorem GZ {k:St->Si}(h:kK c v s k=Se):∃s',(∀K,kK c v s K=K s')/\s'.n=s.n/\(∀j,s'.look j=if j=c then Sa (.cell (Sa v)) else s.look j):=by
 refine St.get_e h λo ho h1=>?_;clear h
 refine gU h1 λw e81 h2=>?_;clear h1;subst e81
 refine St.set_e h2 λs' a b c' d=>?_;clear h2
 refine fD (St.set_sh (s:=s) (i:=c) (o:=.cell (Sa v)) c'.1 c'.2) λs2 e1 e2 e3 _=>?_
 exact⟨s2,λK=>(St.get_of ho _).trans (e1 K),e2,e3⟩
theorem sB {q c0 r:Nat}{ps:Sd Int}{p0:Int} (hr:1<=r)(hr2:r<=1000)(hq:s.look q=Sa (.list (ps.map V.int)))(h0:s.look c0=Sa (.cell (Sa (.ref q))))(h1:s.look c1=Sa (.cell (Sa (.int (.ofNat r)))))(hp:ps[0]? = Sa p0) :
  ∀(l:Sd Int) (i f:Nat) (o1:SP V) (K:Sd V->SP V->St->Si),ps.drop i=l->l.length<f->(∀o,K (l.map λp=>.int (Ai p0 r p)) o s=Se)->gC c0 c1 f o1 (.seq q i) s K=Se
 | [],i,f+1,o1,K,hd,hf,hK=>by
  show bg s q (λl=>getL l i (λv=>_) (K [] o1 s))=Se
  refine tb (bj hq ..) ?_
  have hi:ps.length<=i:=by
   have:=SO Sd.length hd
   simp at this;lia
  have:∀{α:Type} {l:Sd α} {i:Nat} {k:α->Si} {z:Si},l.length<=i->getL l i k z=z:=by
   intro α l
   induction l with
   | nil=>intro i k z _;rfl
   | cons x l ih=>
    intro i k z h
    induction i with
    | zero=>simp at h
    | succ i=>exact ih (by simpa using h)
  refine tb (this (by simpa using hi) ..) ?_
  exact hK o1
 | p::l,i,f+1,o1,K,hd,hf,hK=>by
  have hli:(ps.map V.int)[i]? = Sa (.int p):=by
   rw[TG,←Vk,hd];rfl
  have hd':ps.drop (i+1)=l:=by rw[←WY,hd];rfl
  show jB c0 c1 (gC c0 c1 f) o1 (.seq q i) s K=Se
  have ih:=sB hr hr2 hq h0 h1 hp l (i+1) f
  generalize gC c0 c1 f=W at ih ⊢
  unfold jB
  show bg s q (λl=>getL l i (λv=>_) (K [] o1 s))=Se
  rw[bj hq,eT hli]
  have rd0:∀K:V->Si,fC c0 s K=K (.ref q):=λK=>St.get_of h0 _
  have rd1:∀K:V->Si,fC c1 s K=K (.int (.ofNat r)):=λK=>St.get_of h1 _
  show fC c0 s (λx189=>cZ x189 (.int 0) s λv190 s191=>cj (.int p) v190 s191 λv192 s193=>fC c1 s193 λx194=>ef v192 x194 s193 λv195 s196=>W (Sa (.int p)) (.seq q (i+1)) s196 λl197 o198 s199=>K (bp [v195] l197) o198 s199)=Se
  rw[rd0,show(V.int 0)=ak 0 from rfl,cr hq (x:=.int p0) (by rw[TG,hp];rfl) (by lia)]
  show fC c1 s (λx194=>ef (.int (iC p p0)) x194 s λv195 s196=>W (Sa (.int p)) (.seq q (i+1)) s196 λl197 o198 s199=>K (bp [v195] l197) o198 s199)=Se
  refine tb (rd1 ..) ?_
  show aD (small (.ofNat r)) (aD (jf (.ofNat r) 0) ll (W (Sa (.int p)) (.seq q (i+1)) s λl197 o198 s199=>K (bp [.int (Ai p0 r p)] l197) o198 s199)) ll=Se
  have er:jf (.ofNat r) 0=ll:=by rw[dm];exact Tp (by simp only[Ux];lia)
  rw[bU (by lia),er,fw,H6]
  simp only[Tc] at hf
  exact ih _ _ hd' (by lia) λo=>hK o
structure xu (step ring N:Nat)(ps:Sd Int):Prop where
 len:ps.length=N
 le:N<=100
 one:1<=ring
 big:ring<=1000
 far:∀n,1<=n->n<=N->∃p0,ps[0]? = Sa p0/\(ps.take n).map (λp=>V.int (Ai p0 ring p))=(Ey step ring n).map ak
theorem lS {k k':Nat->St->Si}(h:s.push o k=Se)(H:∀s',s'.n=s.n+1->(∀j,s'.look j=if j=s.n then Sa o else s.look j)->k s.n s'=Se->k' s.n s'=Se):s.push o k'=Se:=by
 refine fF (Dp h) λs' e n l=>?_
 exact(e k').trans (H s' n l ((e k).symm.trans h))
theorem Ja {k k':St->Si}(h:kK c v s k=Se)(H:∀s',s'.n=s.n->(∀j,s'.look j=if j=c then Sa (.cell (Sa v)) else s.look j)->k s'=Se->k' s'=Se):kK c v s k'=Se:=by
 refine fF (GZ h) λs' e n l=>?_
 exact(e k').trans (H s' n l ((e k).symm.trans h))
theorem G5 {step:Nat}{ps:Sd Int} {k:KV}(P:xu step ring N ps)(hl:st.look 0=Sa (.list (ps.map V.int)))(h:xt step ring N fm st k=Se) :
  fA EX (ae (vv (aa ll 4) (ao .none) (aa ll 6)) (ae (aa Se 0) av)) fm st k=Se:=by
 refine gE h λo4 h4 h=>?_
 refine gJ h λpv e81 h=>?_;subst e81
 refine bO h λp e81 h=>?_;subst e81
 refine aM h λhp0 h=>?_
 have hp0:=SK hp0
 subst hp0
 refine gE (show getL fm.loc 6 _ ll=Se from h) λo6 h6 h=>?_
 refine gJ h λcv e81 h=>?_;subst e81
 refine Bd h λcnt e81 h=>?_;subst e81
 refine aM h λhc1 h=>?_
 refine aM h λhcN h=>?_
 have hc1:=Sl hc1
 have hcN:=Sl hcN
 rw[bj hl,gm] at h
 have hlen:(ps.map V.int).length=N:=by rw[S0];exact P.len
 have:=P.le
 show getL fm.loc 4 (λo=>cU o λv=>getL fm.loc 6 (λo=>cU o λz=>uZ v .none z st λv st=>getL fm.cel 0 (λn=>st.get n λo=>eo o λw=>cU w λrv=>EX [v,rv] st k) ll) ll) ll=Se
 refine(eT h4).trans ?_
 show getL fm.loc 6 (λo=>cU o λz=>uZ (.ref 0) .none z st λv st=>getL fm.cel 0 (λn=>st.get n λo=>eo o λw=>cU w λrv=>EX [v,rv] st k) ll) ll=Se
 refine(eT h6).trans ?_
 show st.get 0 (λo=>gQ o λl=>aD (aB (aK l)) (st.push (.list (fy l (eV (.ofNat cnt) (aK l)))) λm st=>getL fm.cel 0 (λn=>st.get n λo=>eo o λw=>cU w λrv=>EX [.ref m,rv] st k) ll) ll)=Se
 refine(St.get_of hl _).trans ?_
 show aD (aB (aK (ps.map V.int))) (st.push (.list (fy (ps.map V.int) (eV (.ofNat cnt) (aK (ps.map V.int))))) λm st=>getL fm.cel 0 (λn=>st.get n λo=>eo o λw=>cU w λrv=>EX [.ref m,rv] st k) ll) ll=Se
 have hclip:eV (.ofNat cnt) N=cnt:=by
  show @Te (λ_=>Nat) cnt N (SV N cnt)=cnt
  cases z:SV N cnt with
  | false=>rfl
  | true=>have:=Sl z;show N=cnt;lia
 rw[aC,hlen,show aB N=Se from bG (by lia),fw,hclip,gm,←Xj]
 rw[←Xj] at h
 refine lS h λs0 n0 l0 h=>?_
 refine gE (show getL fm.cel 0 _ ll=Se from h) λc hc h=>?_
 refine(eT hc).trans ?_
 refine St.get_e h λoc hoc h=>?_
 refine gU h λw e81 h=>?_;subst e81
 refine gJ h λrv e81 h=>?_;subst e81
 refine Bd h λr e81 h=>?_;subst e81
 refine aM h λhr h=>?_
 have hr:=SK hr
 subst hr
 refine(St.get_of hoc _).trans ?_
 show St.push s0 (.cell none) (λc_0 s_0=>(St.push s_0 (.cell none) λc_1 s_1=>(St.push s_1 (.cell none) λc_2 s_2=>(St.push s_2 (.cell none) λc_3 s_3=>(kK c_0 (.ref st.n) s_3 λs_4=>(kK c_1 (.int (.ofNat r)) s_4 λs_5=>(EY c_0 c_1 c_2 c_3 s_5 k)))))))=Se
 refine lS (show St.push s0 (.cell none) _=Se from h) λs1 n1 l1 h=>?_
 refine lS h λs2 n2 l2 h=>?_
 refine lS h λs3 n3 l3 h=>?_
 refine lS h λs4 n4 l4 h=>?_
 refine Ja h λs5 n5 l5 h=>?_
 refine Ja h λs6 n6 l6 h=>?_
 have hq:s6.look st.n=Sa (.list ((ps.take cnt).map V.int)):=by
  rw[l6,Sz (by lia),l5,Sz (by lia),l4,Sz (by lia),l3,Sz (by lia),l2,Sz (by lia),l1,Sz (by lia),l0,SR rfl]
 have hc0:s6.look s0.n=Sa (.cell (Sa (.ref st.n))):=by rw[l6,Sz (by lia),l5,SR rfl]
 have hc1':s6.look s1.n=Sa (.cell (Sa (.int (.ofNat r)))):=by rw[l6,SR rfl]
 refine aE (P.far cnt hc1 hcN) λp0 hp0 hfar=>?_
 have hp0':(ps.take cnt)[0]? = Sa p0:=by rw[Sd.getElem?_take_of_lt (by lia)];exact hp0
 have hlt:(ps.take cnt).length=cnt:=by rw[Yx,P.len];lia
 show fC s0.n s6 (λx273=>xx x273 s6 λit271 s272=>gC s0.n s1.n 200 none it271 s272 λl274 _ s275=>aD (aB (aK l274)) (St.push s275 (.list l274) λn276 s277=>kK s3.n (.ref n276) s277 λs278=>wl s0.n s1.n s2.n s3.n s278 k) ll)=Se
 have rd0:∀K:V->Si,fC s0.n s6 K=K (.ref st.n):=λK=>St.get_of hc0 _
 refine(rd0 _).trans ?_
 show bg s6 st.n (λ_=>gC s0.n s1.n 200 none (.seq st.n 0) s6 λl274 _ s275=>aD (aB (aK l274)) (St.push s275 (.list l274) λn276 s277=>kK s3.n (.ref n276) s277 λs278=>wl s0.n s1.n s2.n s3.n s278 k) ll)=Se
 refine(bj hq _).trans ?_
 refine sB P.one P.big hq hc0 hc1' hp0' (ps.take cnt) 0 200 none _ rfl (by lia) λo=>?_
 rw[hfar,aC,d8]
 have hfl:(Ey step r cnt).length=cnt:=by
  have:=SO Sd.length hfar
  rw[S0,S0,hlt] at this
  exact this.symm
 rw[hfl,show aB cnt=Se from bG (by lia),fw,←eq]
 exact h
noncomputable section
noncomputable def fi (pl:Sd V)(ring step:Nat):St:=⟨12,.node (.list pl)
 (.node .hid (.node .hid (.node (.cell none) .nil .nil) (.node .hid .nil .nil)) (.node (.cell (Sa (ak step))) (.node (.cell none) .nil .nil) .nil))
 (.node .hid (.node (.cell (Sa (ak ring))) (.node (.cell none) .nil .nil) .nil) (.node .hid (.node (.list []) .nil .nil) .nil))⟩
noncomputable def AZ (many:Nat):Fm:=⟨[none,Sa (ak many),none,none,Sa (.ref 0),Sa (.ref 10),none,none,none,none,none,none,none,none,none,none,none,none,none,none,none,none,none,none,none,none,none,none,none,none],[4,5,6,7,8,9]⟩
end
inductive TL:T->Sd O->Prop
 | nil:TL .nil []
 | node {v:O} {l r:T} {q:Sd O}:TL l (kR q Se)->TL r (kR q ll)->TL (.node v l r) (v::q)
theorem wh (q:Sd O):∀k,(kR q Se)[k]? = q[2*k]? /\ (kR q ll)[k]? = q[2*k+1]?:=by
 induction q with
 | nil=>exact λ_=>⟨rfl,rfl⟩
 | cons x r ih=>exact λk=>⟨match k with
  | 0=>rfl
  | k+1=>(ih k).2,(ih k).1⟩
theorem TL.look {t:T}{q:Sd O}(h:TL t q):∀i,t.look i=q[i]?:=by
 induction h with
 | nil=>exact λ_=>rfl
 | @node v l r q _ _ iha ihb=>
  intro i
  match i with
  | 0=>rfl
  | j+1=>
   show(if j % 2=0 then l.look (j / 2) else r.look (j / 2))=q[j]?
   by_cases z:j % 2=0
   ·rw[SR z,iha,(wh q _).1,show 2*(j / 2)=j by lia]
   ·rw[Sz z,ihb,(wh q _).2,show 2*(j / 2)+1=j by lia]
inductive pz {α:Type}(P:Nat->α->Prop):Sd α->Nat->Prop
 | nil {n:Nat}:pz P [] n
 | cons {o:α} {r:Sd α} {n:Nat}:P n o->pz P r (n+1)->pz P (o::r) n
theorem AX {P:Nat->α->Prop}{q:Sd α} (h:pz P q n):∀{i:Nat}{o:α},q[i]? = Sa o->P (n+i) o:=by
 induction h with
 | nil=>exact λe=>iq e
 | cons h _ ih=>exact λ{i o} e=>match i,e with
  | 0,e=>Sa.inj e▸h
  | i+1,e=>Ud _ i▸ih e
theorem Cg {P:Nat->α->Prop}{q:Sd α}(h:pz P q 0) {o:α}(e:q[i]? = Sa o):P i o:=V9 i▸AX h e
theorem qZ {P:Nat->α->Prop}{o:α}(h:∀n,P n o):∀(k n:Nat),pz P (Sq k o) n
 | 0,_=>.nil
 | k+1,n=>.cons (h n) (qZ h k (n+1))
theorem nN {P:Nat->O->Prop}{pl:Sd V}{step:Nat} (h:pz P [.list pl,.hid,.hid,.hid,.cell (Sa (ak ring)),.cell (Sa (ak step)),.hid,.cell none,.cell none,.cell none,.list [],.hid] 0)(e:(fi pl ring step).look i=Sa o):P i o:=by
 have q:TL (fi pl ring step).t [.list pl,.hid,.hid,.hid,.cell (Sa (ak ring)),.cell (Sa (ak step)),.hid,.cell none,.cell none,.cell none,.list [],.hid]:=
  .node (.node (.node (.node .nil .nil) (.node .nil .nil)) (.node (.node .nil .nil) .nil)) (.node (.node (.node .nil .nil) .nil) (.node (.node .nil .nil) .nil))
 exact Cg h ((q.look i).symm.trans e)
inductive Idx (σ:Sd Ss):Sd Nat->Sd Ss->Prop
 | nil:Idx σ [] []
 | cons {i:Nat} {a:Ss} {is:Sd Nat} {as:Sd Ss}:σ[i]? = Sa a->Idx σ is as->Idx σ (i::is) (a::as)
theorem Idx.mem {is:Sd Nat}{as:Sd Ss}(f:Idx σ is as) (m:a∈as):∃i∈is,σ[i]? = Sa a:=by
 induction f with
 | nil=>cases m
 | cons h _ ih=>
  rcases Sv.mp m with rfl | m
  ·exact⟨_,.head _,h⟩
  ·refine aE (ih m) λi mi hi=>?_
   exact⟨i,.tail _ mi,hi⟩
theorem xA {s:Sr}(I:Inv C σ st s){is:Sd Nat}{as:Sd Ss}(f:Idx σ is as)(nd:is.Nodup):as.Nodup:=by
 induction f with
 | nil=>exact .nil
 | cons h t ih=>
  rw[VH] at nd ⊢
  refine⟨λm=>nd.1 ?_,ih nd.2⟩
  refine aE (t.mem m) λj mj hj=>?_
  rw[I.inj h hj];exact mj
structure Shape (st:St)(fm:Fm)(ring step many:Nat)(ps:Sd Int)(iP i0 i1 i2 i3 i4 i5 iS iX:Nat):Prop where
 nd:[iP,i0,i1,i2,i3,i4,i5,iS,iX].Nodup
 len:fm.loc.length=30
 l1:fm.loc[1]? = Sa (Sa (ak many))
 l4:fm.loc[4]? = Sa (Sa (.ref iP))
 l5:fm.loc[5]? = Sa (Sa (.ref iS))
 cel:fm.cel=[i0,i1,i2,i3,i4,i5]
 four:4<=iP/\4<=i0/\4<=i1/\4<=i2/\4<=i3/\4<=i4/\4<=i5/\4<=iS/\4<=iX
 P:st.look iP=Sa (.list (ps.map V.int))
 c0:st.look i0=Sa (.cell (Sa (ak ring)))
 c1:st.look i1=Sa (.cell (Sa (ak step)))
 c2:∃o,st.look i2=Sa o/\o≠.hid
 c3:st.look i3=Sa (.cell none)
 c4:st.look i4=Sa (.cell none)
 c5:st.look i5=Sa (.cell none)
 S:st.look iS=Sa (.list [])
 X:∃o,st.look iX=Sa o/\o≠.hid
noncomputable abbrev Cfg.pin (C:Cfg)(a:Ss)(o:Obj):Cfg:={ C with fix:=[(0,a,o)] }
section
variable {C:Cfg}{σ:List Addr}{st:St}{s:Shared}{fm:Fm}{ring step many:Nat}{ps:List Int}{iP i0 i1 i2 i3 i4 i5 iS iX:Nat}
inductive Told (st:St)(i:Nat):Prop
 | mk (h:4<=i) (o:O) (e:st.look i=Sa o) (n:o≠.hid)
theorem Shape.told (H:Shape st fm ring step many ps iP i0 i1 i2 i3 i4 i5 iS iX):∀i∈[iP,i0,i1,i2,i3,i4,i5,iS,iX],Told st i:=by
 obtain⟨f1,f2,f3,f4,f5,f6,f7,f8,f9⟩:=H.four
 exact dy ⟨f1,_,H.P,nofun⟩ (dy ⟨f2,_,H.c0,nofun⟩ (dy ⟨f3,_,H.c1,nofun⟩ (dy (H.c2.elim λo q=>⟨f4,o,q.1,q.2⟩) (dy ⟨f5,_,H.c3,nofun⟩ (dy ⟨f6,_,H.c4,nofun⟩ (dy ⟨f7,_,H.c5,nofun⟩ (dy ⟨f8,_,H.S,nofun⟩ (dy (H.X.elim λo q=>⟨f9,o,q.1,q.2⟩) uG))))))))
theorem Told.nh (x:Told st i)(e':st.look j=Sa .hid):i≠j:=λq=>by
 obtain⟨_,o,e,n⟩:=x
 exact n (Sa.inj (e.symm.trans (q▸e')))
theorem EA {x:Nat}{l:Sd Nat}(h:∀y∈l,x≠y)(t:l.Nodup):(x::l).Nodup:=VH.mpr ⟨λm=>h x m rfl,t⟩
theorem Shape.nod (H:Shape st fm ring step many ps iP i0 i1 i2 i3 i4 i5 iS iX){j1 j2 j3 jX:Nat}(h1:st.look j1=Sa .hid)(h2:st.look j2=Sa .hid)(h3:st.look j3=Sa .hid)(d12:j1≠j2)(d13:j1≠j3)(d23:j2≠j3)(hX:jX∉[iP,i0,i1,i2,i3,i4,i5,iS])(x1:jX≠j1)(x2:jX≠j2)(x3:jX≠j3):[iP,j1,j2,j3,i0,i1,i2,i3,i4,i5,iS,jX].Nodup:=by
 have nd:([iP,i0,i1,i2,i3,i4,i5,iS]++[iX]).Nodup:=H.nd
 have nd8:=(Vm.mp nd).1
 have told:∀i∈[iP,i0,i1,i2,i3,i4,i5,iS],Told st i:=λi m=>H.told i (Uj [iX] m)
 have n9:([iP,i0,i1,i2,i3,i4,i5,iS]++[jX]).Nodup:=Vm.mpr ⟨nd8,EA (λ_ m=>nomatch m) .nil,λa ha b hb q=>hX (Sj.mp hb▸q▸ha)⟩
 have up:∀{j},st.look j=Sa .hid->jX≠j->∀y∈[iP,i0,i1,i2,i3,i4,i5,iS,jX],j≠y:=λe x y m=>(Tf.mp (show y∈[iP,i0,i1,i2,i3,i4,i5,iS]++[jX] from m)).elim (λm=>((told y m).nh e).symm) λm=>Sj.mp m▸x.symm
 have n12:=EA (dy d12 (dy d13 (up h1 x1))) (EA (dy d23 (up h2 x2)) (EA (up h3 x3) n9))
 exact(aaO.nodup_iff (aaw (l₁:=[j1,j2,j3]) (a:=iP) (l₂:=[i0,i1,i2,i3,i4,i5,iS,jX]))).mp n12
def Ro (o:O):Prop:=@O.rec (λ_=>Prop) (λ_=>True) (λ_=>True) (λ_ _ _=>False) (λ_ _ _ _=>False) True o
inductive N1 (C:Cfg)(s:Sr)(aX:Ss):Prop
 | mk (qs:Array Sn) (g:s.heap.get? 281=Sa { cls:=.none,data:=.fields qs }) (tr:Yn qs.toList) (cv:∀cv,W3 eC.pos qs.toList=Sa cv->cv=.ref aX/\(∀P∈C.tabs.map (·.tab),P≠aX)/\s.heap.CodeRec cv eC.q)
inductive Jl (C:Cfg)(σ:Sd Ss)(st:St)(s:Sr)(l:Sd Nat)(j1 j2 j3:Nat):Prop
 | mk (jX:Nat) (aX:Ss) (h:σ[jX]? = Sa aX) (h4:4<=jX\/st.look jX=Sa .hid) (out:jX∉l) (x1:jX≠j1) (x2:jX≠j2) (x3:jX≠j3) (lam:N1 C s aX)
theorem Ii (ht:C.tabs=[gO,gN,eC])(H:Shape st fm ring step many ps iP i0 i1 i2 i3 i4 i5 iS iX)(told:∀i∈[iP,i0,i1,i2,i3,i4,i5,iS],Told st i)(tX:Told st iX){aX:Ss}(hX:σ[iX]? = Sa aX){j1 j2 j3:Nat}
  (hj1:σ[j1]? = Sa 206) (hj2:σ[j2]? = Sa 213) (hj3:σ[j3]? = Sa 281) (sj1:Safe st j1) (sj2:Safe st j2) (sj3:Safe st j3) (ok3:TabOk (C.tabs.map (·.tab)) σ st s.heap eC):Jl C σ st s [iP,i0,i1,i2,i3,i4,i5,iS] j1 j2 j3:=by
 obtain⟨qs,g,tr,cv⟩:=ok3
 cases hc:W3 eC.pos qs.toList with
 | none=>
  refine⟨iX,aX,hX,.inl H.four.2.2.2.2.2.2.2.2,λm=>?_,tX.nh sj1.1,tX.nh sj2.1,tX.nh sj3.1,qs,g,tr,λc e=>by rw[hc] at e;exact iq e⟩
  have nd:([iP,i0,i1,i2,i3,i4,i5,iS]++[iX]).Nodup:=H.nd
  exact(Vm.mp nd).2.2 iX m iX (.head _) rfl
 | some c=>
  refine Ef (cv rfl c hc) λj c e82 hj sj hp hrec=>?_;subst e82
  refine⟨j,c,hj,.inr sj.1,λm=>?_,?_,?_,?_,qs,g,tr,λc' e=>by rw[hc] at e;cases e;exact⟨rfl,hp,hrec⟩⟩
  ·exact(told j m).nh sj.1 rfl
  ·intro q;rw[q,hj1] at hj;exact hp 206 (by rw[ht];exact .head _) (Sa.inj hj)
  ·intro q;rw[q,hj2] at hj;exact hp 213 (by rw[ht];exact .tail _ (.head _)) (Sa.inj hj)
  ·intro q;rw[q,hj3] at hj;exact hp 281 (by rw[ht];exact .tail _ (.tail _ (.head _))) (Sa.inj hj)
inductive DS (C:Cfg)(σ:Sd Ss)(st:St)(s:Sr)(ring step:Nat)(ps:Sd Int)(iP i0 i1 i2 i3 i4 i5 iS:Nat):Prop
 | mk (aP:Ss) (vs:Sd Sn) (n:Nat) (a0 a1 a2 a3 a4 a5 aS aX:Ss) (hP:σ[iP]? = Sa aP) (h0:σ[i0]? = Sa a0) (h1:σ[i1]? = Sa a1) (h2:σ[i2]? = Sa a2) (h3:σ[i3]? = Sa a3) (h4:σ[i4]? = Sa a4) (h5:σ[i5]? = Sa a5) (hS:σ[iS]? = Sa aS) (hI:UG vs ps) (g:s.heap.get? aP=Sa (cB vs n))
   (hin:∀a∈[aP,206,213,281,a0,a1,a2,a3,a4,a5,aS,aX],∃i,σ[i]? = Sa a/\(4<=i\/st.look i=Sa .hid)) (I:Inv (C.pin aP (cB vs n)) [aP,206,213,281,a0,a1,a2,a3,a4,a5,aS,aX] (fi (ps.map V.int) ring step) s)
theorem Id (ht:C.tabs=[gO,gN,eC])(I:Inv C σ st s)(H:Shape st fm ring step many ps iP i0 i1 i2 i3 i4 i5 iS iX) :
  DS C σ st s ring step ps iP i0 i1 i2 i3 i4 i5 iS:=by
 obtain⟨aP,hP,vs,n,gP,rP⟩:=I.at_ _ _ H.P
 obtain⟨a0,h0,u0,x0,y0⟩:=I.at_ _ _ H.c0
 obtain⟨a1,h1,u1,x1,y1⟩:=I.at_ _ _ H.c1
 refine aE (H.c2) λo2 e2 n2=>?_
 obtain⟨a2,h2,_⟩:=I.at_ _ _ e2
 obtain⟨a3,h3,x3⟩:=I.at_ _ _ H.c3
 obtain⟨a4,h4,x4⟩:=I.at_ _ _ H.c4
 obtain⟨a5,h5,x5⟩:=I.at_ _ _ H.c5
 obtain⟨aS,hS,vS,nS,gS,rS⟩:=I.at_ _ _ H.S
 refine aE (H.X) λoX eX nX=>?_
 obtain⟨aX,hX,_⟩:=I.at_ _ _ eX
 obtain⟨j1,hj1,sj1,ok1⟩:=I.tabs gO (by rw[ht];exact .head _)
 obtain⟨j2,hj2,sj2,ok2⟩:=I.tabs gN (by rw[ht];exact .tail _ (.head _))
 obtain⟨j3,hj3,sj3,ok3⟩:=I.tabs eC (by rw[ht];exact .tail _ (.tail _ (.head _)))
 have hj1:σ[j1]? = Sa 206:=hj1
 have hj2:σ[j2]? = Sa 213:=hj2
 have hj3:σ[j3]? = Sa 281:=hj3
 have dj:∀{j j':Nat} {a a':Ss},σ[j]? = Sa a->σ[j']? = Sa a'->a≠a'->j≠j':=λh h' n q=>n (Sa.inj (h.symm.trans (q▸h')))
 have told:∀i∈[iP,i0,i1,i2,i3,i4,i5,iS],Told st i:=λi m=>H.told i (Uj [iX] m)
 have tX:Told st iX:=H.told iX (Y5 [iP,i0,i1,i2,i3,i4,i5,iS] (.head _))
 obtain⟨jX,aX,hjX,hj4,hout,hx1,hx2,hx3,lam⟩:=Ii ht H told tX hX hj1 hj2 hj3 sj1 sj2 sj3 ok3
 have idx:Idx σ [iP,j1,j2,j3,i0,i1,i2,i3,i4,i5,iS,jX] [aP,206,213,281,a0,a1,a2,a3,a4,a5,aS,aX]:=
  .cons hP (.cons hj1 (.cons hj2 (.cons hj3 (.cons h0 (.cons h1 (.cons h2 (.cons h3 (.cons h4 (.cons h5 (.cons hS (.cons hjX .nil)))))))))))
 have nd:=H.nod sj1.1 sj2.1 sj3.1 (dj hj1 hj2 (lB rfl)) (dj hj1 hj3 (lB rfl)) (dj hj2 hj3 (lB rfl)) hout hx1 hx2 hx3
 refine⟨aP,vs,n,a0,a1,a2,a3,a4,a5,aS,aX,hP,h0,h1,h2,h3,h4,h5,hS,eF rP,gP,λa m=>?_,?_⟩
 ·refine aE (idx.mem m) λi mi hi=>?_
  have big:∀i∈[iP,i0,i1,i2,i3,i4,i5,iS],4<=i\/st.look i=Sa .hid:=λi m=>by
   obtain⟨h,_⟩:=told i m
   exact .inl h
  have all:=dy (P:=λi=>4<=i\/st.look i=Sa .hid) (.inl H.four.1) (dy (.inr sj1.1) (dy (.inr sj2.1) (dy (.inr sj3.1) λi m=>(Tf.mp (show i∈[i0,i1,i2,i3,i4,i5,iS]++[jX] from m)).elim (λm=>big i (.tail _ m)) λm=>Sj.mp m▸hj4)))
  exact⟨i,hi,all i mi⟩
 have no0:∀{i o},(fi (ps.map V.int) ring step).look i=Sa o->Ro o:=λe=>nN (P:=λ_ o=>Ro o) (.cons trivial (.cons trivial (.cons trivial (.cons trivial (.cons trivial (.cons trivial (.cons trivial (.cons trivial (.cons trivial (.cons trivial (.cons trivial (.cons trivial .nil)))))))))))) e
 have noinst:∀{i c d fs q},¬((fi (ps.map V.int) ring step).look i=Sa (.inst c d fs)\/(fi (ps.map V.int) ring step).look i=Sa (.lsub c d fs q)):=λe=>e.elim no0 no0
 have safe:∀j,(fi (ps.map V.int) ring step).look j=Sa .hid->Safe (fi (ps.map V.int) ring step) j:=λj e=>⟨e,λi c d fs q z=>(noinst z).elim⟩
 have int0:∀{u:Sn} {z:Nat} {σ':Sd Ss},VR σ s.heap (ak z) u->VR σ' s.heap (ak z) u:=λr=>VR.int_e r λ_=>.int _ _
 refine⟨I.base,xA I idx nd,λa m=>?_,rfl,λi o e=>?_,λi c d fs q e=>(noinst e).elim,λi j c d fs q c' d' fs' q' e=>(noinst e).elim,λt m=>?_,λi a o m=>?_⟩
 ·refine aE (idx.mem m) λi _ hi=>?_
  exact I.new a (Sp hi)
 ·have rS':VRs [aP,206,213,281,a0,a1,a2,a3,a4,a5,aS,aX] s.heap [] vS:=VRs.nil_e rS .nil
  exact nN (P:=λi o=>Mx [aP,206,213,281,a0,a1,a2,a3,a4,a5,aS,aX] s.heap i o) (.cons ⟨aP,rfl,vs,n,gP,fj (eF rP)⟩ (.cons ⟨206,rfl,trivial⟩ (.cons ⟨213,rfl,trivial⟩ (.cons ⟨281,rfl,trivial⟩ (.cons ⟨a0,rfl,u0,x0,int0 y0⟩ (.cons ⟨a1,rfl,u1,x1,int0 y1⟩ (.cons ⟨a2,rfl,trivial⟩ (.cons ⟨a3,rfl,x3⟩ (.cons ⟨a4,rfl,x4⟩ (.cons ⟨a5,rfl,x5⟩ (.cons ⟨aS,rfl,vS,nS,gS,rS'⟩ (.cons ⟨aX,rfl,trivial⟩ .nil)))))))))))) e
 ·have m:t∈C.tabs:=m
  refine dy (P:=wV (C.tabs.map (·.tab)) [aP,206,213,281,a0,a1,a2,a3,a4,a5,aS,aX] (fi (ps.map V.int) ring step) s.heap) ?_ (dy ?_ (dy ?_ uG)) t (ht▸m)
  ·obtain⟨qs,g,tr,_⟩:=ok1
   exact⟨1,rfl,safe 1 rfl,qs,g,tr,nofun⟩
  ·obtain⟨qs,g,tr,_⟩:=ok2
   exact⟨2,rfl,safe 2 rfl,qs,g,tr,nofun⟩
  ·obtain⟨qs,g,tr,cv⟩:=lam
   refine⟨3,rfl,safe 3 rfl,qs,g,tr,λ_ c e=>?_⟩
   refine kW (cv c e) λe80 hp hrec=>?_;subst e80
   exact⟨11,aX,rfl,rfl,safe 11 rfl,hp,hrec⟩
 ·have m:(i,a,o)∈[(0,aP,cB vs n)]:=m
  cases Sj.mp m
  exact⟨(bo rfl),rfl,gP,_,rfl⟩
end
theorem iR:aL []:=⟨λ_ _=>rfl,.inl rfl⟩
theorem bc {e:Expr} (h1:∀env pos,(W4 pos (TY (e::es) env)).any (·.1)=ll)(h2:∀env,TY (e::es) env=(ll,eval e env)::TY es env):aL (e::es):=⟨h1,.inr ⟨_,_,rfl,h2⟩⟩
theorem fg {o:Expr}{name:Str} {pl:Env->Sem Si}(h:∀env,eval (.Call (.Attribute o name apos) es [] pos) env=(do
   let ov ←eval o env
   UC apos.atName
   let (f,first) ←holding [ov] (Wv ov name (pl env))
   Xm pos f first (W4 pos (TY es env)) (backToKw pos (Zg [] env)))):dZ o name apos es pos:=⟨pl,h⟩
section
variable {C:Cfg}{fx:Fx}{d d' c:Nat}{i:Nat}{x name:Str}{p pos apos:Pos}{es:List Expr}{cs:CA}{e a b target iter:Expr}{ce ca cb:CE}{f:FN}{v:Value}{fa:Addr}{t:Expr}{ct:CG}{body orelse:List Stmt}{sa sz:CS}{gi:eN}{ci:CI}
theorem uv {q:Si}(hx:io fx q i=Sa x:=by exact rfl)(hok:fx.ok=Se:=by assumption):SE C fx d (.Name x pos) (aa q i):=cC hx hok
theorem uc (he:SE C fx d e ce)(hs:SA C fx d es cs)(hp:∀env,TY (e::es) env=(ll,eval e env)::TY es env:=by exact λ_=>rfl):SA C fx d (e::es) (ae ce cs):=cO he hs hp
theorem ug {q:Si}(hx:io fx q i=Sa x:=by exact rfl)(hown:q=Se->x∈fx.own:=by first | exact ff | exact λ_=>bx (by kernel_rfl))(hok:fx.ok=Se:=by assumption):SG C fx d (.Name x pos) (aw q i):=iY hx hown hok
theorem ua (he:SE C fx d e ce)(ht:SG C fx d t ct)(hs:∀env,bb fx env->Xg [t] e pos.line env=pure ll:=by exact λ_ _=>rfl)(hw:∀env,bb fx env->VL [t] e env=pure none:=by exact λ_ _=>rfl)(hm:∀env,(T8 [t] env).map (·.2)=[assign t env]:=by exact λ_=>rfl):SS C fx d (.Assign [t] e pos) (aV ce ct):=pO hs hw hm he ht
theorem ut {ts:Sd Expr}{cgs:xE}(ht:SG C fx d t ct)(hs:IX C fx d ts cgs)(he:∀env,T8 (t::ts) env=(ll,assign t env)::T8 ts env:=by exact λ_=>rfl):IX C fx d (t::ts) (bh ct cgs):=mf he ht hs
theorem up (hs:SA C fx d es cs)(hn:es.length<=4000:=by exact Sl rfl):SE C fx d (.Tuple es n pos) (cN cs):=vC hn hs
theorem ul (hs:SA C fx d es cs)(hn:es.length<=4000:=by exact Sl rfl):SE C fx d (.List es pos) (d0 cs):=AE hn hs
theorem us {l:Sd Nat}{kk:Nat}(hx:x=⟨l.toArray⟩:=by kernel_rfl):SE C fx d (.Constant (.str x) kk pos) (ao (.str l)):=iW hx
theorem uf (hg:SGI C fx d target gi)(hi:SI C fx d iter ci)(ha:SL C fx d body sa)(hb:SL C fx d orelse sz)(hf:∀env x,Tr iter env x=pure x:=by exact λ_ _=>rfl):SS C fx d (.For target iter body orelse pos) (je gi ci sa sz):=GL hf hg hi ha hb
theorem ux (he:SE C fx d e ce)(hs:∀env,VK e none pos.line env=pure ll:=by exact λ_=>rfl):SS C fx d (.Expr e pos) (dI ce):=Dx hs he
theorem um {o:CmpOp}{op:CP}(hop:yR C o op)(ha:SE C fx d a ca)(hb:SE C fx d b cb)(hm:ZM o b=ll:=by exact rfl):ST C fx d (.Compare a [o] [b] pos) (bR op ca cb):=Cr hop hm ha hb
namespace Base
variable {P:Params}
theorem ta (W:Base C P){k:Nat}(ha:SE C fx d a ca)(hn:name=aW k:=by exact rfl)(he:∀env,eval (.Attribute a name pos) env=(do
   let o ←eval a env
   UC pos.atName
   let r ←holding [o] (PySem.getAttr o name Se)
   VZ a o r
   pure r):=by exact λ_=>rfl):SE C fx d (.Attribute a name pos) (bv ca k):=D7 W.ok W.J hn ha he
theorem ts (W:Base C P)(ha:SE C fx d a ca)(hi:SE C fx d b cb)(hs:∀o x,subscripted b ll o x=operate [o,x] (XG o x):=by exact λ_ _=>rfl):SE C fx d (.Subscript a b pos) (dw ca cb):=j5 W.ok W.J W.JS hs ha hi
theorem mt (W:Base C P)(m:de C c name fa)(hf:eY C d' (.ref fa) f)(ho:SE C fx d a ca)(hs:SA C fx d es cs)(hm:dZ a name apos es pos:=by exact fg λ_=>rfl)(hd:d'<=d:=by exact Sl rfl)(hp:aL es:=by first | exact iR | exact bc (λ_ _=>rfl) λ_=>rfl):SE C fx d (.Call (.Attribute a name apos) es [] pos) (bz c f ca cs):=vX W.ok W.J hm m (mJ hf) hd hp ho hs
theorem bi (W:Base C P)(g:GB C x v)(hf:SF C d' v f)(hs:SA C fx d es cs)(hk:Keeps C v:=by exact ck)(hok:fx.ok=Se:=by assumption)(hx:x∈fx.gn:=by exact bx (by kernel_rfl))(hd:d'<=d:=by exact Sl rfl)(hp:aL es:=by first | exact iR | exact bc (λ_ _=>rfl) λ_=>rfl):SE C fx d (.Call (.Name x p) es [] pos) (gv f cs):=jp W.ok hok hx g hk hf hd hp hs
theorem cl (W:Base C P)(g:GB C x v)(hk:Keeps C v)(hf:eY C d' v f)(hs:SA C fx d es cs)(hok:fx.ok=Se:=by assumption)(hx:x∈fx.gn:=by exact bx (by kernel_rfl))(hd:d'<=d:=by exact Sl rfl)(hp:aL es:=by first | exact iR | exact bc (λ_ _=>rfl) λ_=>rfl):SE C fx d (.Call (.Name x p) es [] pos) (fA f cs):=ly W.ok hok hx g hk (mJ hf) hd hp hs
theorem nw (W:Base C P)(g:GB C x (.ref (dF c)))(N:tl C c fa)(hf:eY C d' (.ref fa) f)(hs:SA C fx d es cs)(hc:c<2:=by exact Sl rfl)(hok:fx.ok=Se:=by assumption)(hx:x∈fx.gn:=by exact bx (by kernel_rfl))(hd:d'+1<=d:=by exact Sl rfl)(hp:aL es:=by first | exact iR | exact bc (λ_ _=>rfl) λ_=>rfl):SE C fx d (.Call (.Name x p) es [] pos) (iF c f cs):=H0 W.ok hc hok hx g N hf hd hp hs
theorem ga (W:Base C P){k:Nat}(ha:SE C fx d a ca)(hn:name=aW k:=by exact rfl)(hx:k<12:=by exact Sl rfl):SG C fx d (.Attribute a name pos) (eQ ca k):=xg W.ok W.J hn hx ha
theorem fno (W:Base C P) {xs:Sd Str}(h9:nE (aR (aZ (KH P) fa).scope) ps xs)(h10:∀us:Sd Sn,us.length=ps.length->∀s:Sr,(KH P).In s.heap->Ub s (aZ (KH P) fa) ⟨us,[]⟩ (xs.zip us))(h1:Dw (KH P) fa=Se:=by kernel_rfl)(h2:codeIn (KH P) (aZ (KH P) fa).code (aZ (KH P) fa).qualname=Se:=by kernel_rfl)(h3:(aZ (KH P) fa).body=.stmts (aI (KH P) fa):=by kernel_rfl)(h4:(aZ (KH P) fa).globals=SY:=by kernel_rfl)(h5:(aZ (KH P) fa).builtins=T6:=by kernel_rfl)
  (h6:(aZ (KH P) fa).scope.isCoroutine=ll:=by kernel_rfl) (h7:(aZ (KH P) fa).scope.isGenerator=ll:=by kernel_rfl) (h8:dT (aZ (KH P) fa).scope=Se:=by kernel_rfl):bX C fa (aZ (KH P) fa) (aI (KH P) fa) ps xs:=JN W.K h1 h2 h3 h4 h5 h6 h7 h8 h9 h10
end Base
theorem te (W:TSub C d)(ha:SE C fx d a ca)(he:∀env whole,U7 a env whole=(do let v ←whole;UC a.pos;holding [v] (truthy v)):=by exact λ_ _=>rfl):ST C fx d a (tE ca):=PQ W he ha
end
inductive Full:T->Nat->Prop
 | nil:Full .nil 0
 | node {v:O} {l r:T} {m:Nat}:Full l ((m+1) / 2)->Full r (m / 2)->Full (.node v l r) (m+1)
theorem Full.sh {t u:T} (h:Full t n)(q:Sh t u):Full u n:=by
 induction h generalizing u with
 | nil=>cases q;exact .nil
 | node a b iha ihb=>cases q with | node c d=>exact .node (iha c) (ihb d)
theorem Full.iff {t:T} (h:Full t n):∀i,(t.look i).isSome=Se↔i<n:=by
 induction h with
 | nil=>exact λi=>⟨λh=>ff h,λh=>S8 h (U3 _)⟩
 | @node v l r m a b iha ihb=>
  intro i
  induction i with
  | zero=>exact⟨λ_=>YD _,λ_=>rfl⟩
  | succ j=>
   rw[T.isSome_node,Nat.succ_lt_succ_iff]
   by_cases q:j % 2=0
   ·rw[SR q,iha,half_lte q]
   ·rw[Sz q,ihb,half_lto q]
theorem Full.isin {t:T} (h:Full t n)(i:Nat):i<n->(t.look i).isSome=Se:=(h.iff i).mpr
inductive DJ (t:T)(n:Nat)(o:O):Prop
 | mk (t':T) (e:∀k:T->Si,t.ins n o k=k t') (F:Full t' (n+1)) (l:∀j,t'.look j=if j=n then Sa o else t.look j)
theorem Full.ins {t:T} (h:Full t n)(o:O):DJ t n o:=by
 induction h with
 | nil=>exact⟨.node o .nil .nil,λ_=>rfl,.node .nil .nil,T.look_n⟩
 | @node v l r m a b iha ihb=>
  by_cases q:m % 2=0
  ·obtain⟨t',h1,h2,h3⟩:=iha
   rw[half_e q] at h1 h2 h3
   exact⟨.node v t' r,λk=>(T.ins_l q).trans (h1 _),.node ((aai (z:=2) m Nat.two_pos).symm▸h2) ((half_e q).symm▸b),T.look_l q h3⟩
  ·obtain⟨t',h1,h2,h3⟩:=ihb
   exact⟨.node v l t',λk=>(T.ins_r q).trans (h1 _),.node ((aai (z:=2) m Nat.two_pos).symm▸half_o q▸a) ((half_o q).symm▸h2),T.look_r q h3⟩
def St.Fu (s:St):Prop:=Full s.t s.n
inductive GY (s:St)(o:O):Prop
 | mk (s':St) (e:∀k,s.push o k=k s.n s') (F:s'.Fu) (n:s'.n=s.n+1) (l:∀j,s'.look j=if j=s.n then Sa o else s.look j)
inductive SetFu (s:St)(i:Nat)(o:O)(f:(St->Si)->Si):Prop
 | mk (s':St) (e:∀k,f k=k s') (F:s'.Fu) (n:s'.n=s.n) (l:∀j,s'.look j=if j=i then Sa o else s.look j)
section
variable {s:St}
theorem dM (h:s.Fu)(o:O):GY s o:=by
 obtain⟨t',h1,h2,h3⟩:=Full.ins h o
 exact⟨⟨s.n+1,t'⟩,λk=>h1 _,h2,rfl,h3⟩
theorem ib (h:s.Fu) (h4:4<=i)(hi:i<s.n)(o:O):SetFu s i o (s.set i o):=by
 refine fD (St.set_sh (o:=o) h4 (Full.isin h i hi)) λs' h1 h2 h3 h5=>?_
 refine⟨s',h1,?_,h2,h3⟩
 show Full s'.t s'.n
 rw[h2];exact Full.sh h h5
theorem nZ (h:s.Fu) (h4:4<=i)(hi:i<s.n){w:SP V}(hl:s.look i=Sa (.cell w))(v:V):SetFu s i (.cell (Sa v)) (kK i v s):=by
 obtain⟨s',h1,h2,h3,h5⟩:=ib h h4 hi (.cell (Sa v))
 exact⟨s',λk=>(St.get_of hl _).trans (h1 k),h2,h3,h5⟩
theorem St.lt (h:s.Fu) (e:s.look i=Sa o):i<s.n:=(Full.iff h i).mp (by rw[show s.t.look i=Sa o from e];rfl)
end
section
variable {s:St}{p:Nat}
theorem yj (F:s.Fu) (h:s.look p=Sa (.inst c d fs))(h4:4<=p)(x:Nat)(u:V)(hl:fs.length<=100):SetFu s p (.inst c d (dv fs x u)) (setAttr (.ref p) x u s):=by
 obtain⟨s',h1,h2,h3,h5⟩:=ib F h4 (St.lt F h) (.inst c d (dv fs x u))
 refine⟨s',λK=>(St.get_of h _).trans ?_,h2,h3,h5⟩
 show aD (SV (aK fs) 100) (s.set p (.inst c d (dv fs x u)) K) ll=_
 rw[aC,bG hl];exact h1 K
theorem QU (F:s.Fu) (h:s.look p=Sa (.lsub c d fs q))(h4:4<=p)(x:Nat)(u:V)(hl:fs.length<=100):SetFu s p (.lsub c d (dv fs x u) q) (setAttr (.ref p) x u s):=by
 obtain⟨s',h1,h2,h3,h5⟩:=ib F h4 (St.lt F h) (.lsub c d (dv fs x u) q)
 refine⟨s',λK=>(St.get_of h _).trans ?_,h2,h3,h5⟩
 show aD (SV (aK fs) 100) (s.set p (.lsub c d (dv fs x u) q) K) ll=_
 rw[aC,bG hl];exact h1 K
theorem Fk (h:s.look p=Sa (.cell (Sa w)))(K:V->Si):fC p s K=K w:=St.get_of h _
theorem xJ {K:KV}{a:Nat}{x:V}(h:s.look p=Sa (.lsub c d fs l))(hx:l[a]? = Sa x)(ha:a<=4095):cZ (.ref p) (ak a) s K=K x s:=by
 show aD (small (.ofNat a)) (s.get p λo=>gQ o λl=>GR l (.ofNat a) λv=>K v s) ll=_
 rw[bU (by lia),fw,St.get_of h]
 exact eT hx
end
noncomputable section
def uX (l:Sd OV):Nat->OV:=@SZ OV (λ_=>Nat->OV) (λ_=>none) (λo _ ih j=>@Tb (λ_=>OV) o (λm _=>ih m) j) l
def Iy (l:Sd Nat):Nat->SP Nat:=@SZ Nat (λ_=>Nat->SP Nat) (λ_=>none) (λo _ ih j=>@Tb (λ_=>SP Nat) (Sa o) (λm _=>ih m) j) l
def wI (l:Sd OV):Nat->Si:=@SZ OV (λ_=>Nat->Si) (λ_=>ll) (λ_ _ ih j=>@Tb (λ_=>Si) Se (λm _=>ih m) j) l
def yX (l:Sd OV)(v:V):Nat->Sd OV:=@SZ OV (λ_=>Nat->Sd OV) (λ_=>[]) (λo r ih j=>@Tb (λ_=>Sd OV) (Sa v::r) (λm _=>o::ih m) j) l
end
section
variable {fm fm1 fm2 fm':Fm}{s s1 s2 s3 s':St}{v w x:V}{vs us:List V}{b c:Bool}{f:Fl}{i n m:Nat}{it it':It}
def Ev (e:CE)(fm:Fm)(s:St)(v:V)(s':St):Prop:=∀k,e fm s k=k v s'
def uF (e:CA)(fm:Fm)(s:St)(vs:Sd V)(s':St):Prop:=∀k,e fm s k=k vs s'
def pG (e:CT)(fm:Fm)(s:St)(b:Si)(s':St):Prop:=∀k,e fm s k=k b s'
def qI (g:CG)(fm:Fm)(v:V)(s:St)(fm':Fm)(s':St):Prop:=∀k,g fm v s k=k fm' s'
def B7 (g:xE)(fm:Fm)(vs:Sd V)(s:St)(fm':Fm)(s':St):Prop:=∀k,g fm vs s k=k fm' s'
def gT (c:CS)(fm:Fm)(s:St)(f:Fl)(fm':Fm)(s':St):Prop:=∀k,c fm s k=k f fm' s'
def qK (F:FN)(vs:Sd V)(s:St)(v:V)(s':St):Prop:=∀k,F vs s k=k v s'
def CL (i:CI)(fm:Fm)(s:St)(it:It)(s':St):Prop:=∀k,i fm s k=k it s'
def CM (L:CF)(fm:Fm)(it:It)(s:St)(f:Fl)(fm':Fm)(s':St):Prop:=∀k,L fm it s k=k f fm' s'
theorem Fy {k:V->Si}:∀{l:Sd OV}{i:Nat},uX l i=Sa v->getL l i (λo=>cU o k) ll=k v
 | [],_,h=>nomatch h
 | o::_,0,h=>by
  have h:o=Sa v:=h
  subst h;rfl
 | _::r,i+1,h=>Fy (l:=r) (i:=i) h
theorem rH {k:Nat->Si}{z:Si}:∀{l:Sd Nat}{i n:Nat},Iy l i=Sa n->getL l i k z=k n
 | [],_,_,h=>nomatch h
 | o::_,0,n,h=>by
  have h:Sa o=Sa n:=h
  injection h with h
  subst h;rfl
 | _::r,i+1,n,h=>rH (l:=r) (i:=i) h
theorem Gg {k:Sd OV->Si}:∀{l:Sd OV}{i:Nat}{k:Sd OV->Si},wI l i=Se->nB l i (Sa v) k=k (yX l v i)
 | [],_,_,h=>nomatch h
 | _::_,0,_,_=>rfl
 | o::r,i+1,k,h=>Gg (l:=r) (i:=i) (k:=λq=>k (o::q)) h
theorem ah (h:uX fm.loc i=Sa v):Ev (aa ll i) fm s v s:=λk=>Fy (k:=λv=>k v s) h
theorem bZ (h:Iy fm.cel i=Sa n)(hl:s.look n=Sa (.cell (Sa v))):Ev (aa Se i) fm s v s:=λk=>(rH h).trans (Fk hl λv=>k v s)
theorem az:Ev (ao v) fm s v s:=λ_=>rfl
theorem bd {a b:CE}(ha:Ev a fm s v s1)(hb:Ev b fm s1 w s2)(h:∀k,op v w s2 k=k x s3):Ev (aA op a b) fm s x s3:=λk=>(ha _).trans ((hb _).trans (h k))
theorem IH {a:CE}{j:Int}(ha:Ev a fm s (.int j) s1):Ev (qA a) fm s (.int (Z3 j)) s1:=λ_=>ha _
theorem Bx {op:CP}{a b:CE}(ha:Ev a fm s v s1)(hb:Ev b fm s1 w s2)(h:∀k,op v w s2 k=k c):Ev (uA op a b) fm s (.bool c) s2:=λ_=>(ha _).trans ((hb _).trans (h _))
theorem pk (h:uF as fm s vs s1):Ev (cN as) fm s (.tup vs) s1:=λ_=>h _
theorem dX (h:uF as fm s vs s1)(hp:∀k,s1.push (.list vs) k=k n s2):Ev (d0 as) fm s (.ref n) s2:=λ_=>(h _).trans (hp _)
theorem eJ {a j:CE}(ha:Ev a fm s v s1)(hj:Ev j fm s1 w s2)(h:∀k,cZ v w s2 k=k x s3):Ev (dw a j) fm s x s3:=λk=>(ha _).trans ((hj _).trans (h k))
theorem BJ {a lo hi:CE}{u:V}(ha:Ev a fm s v s1)(hl:Ev lo fm s1 w s2)(hh:Ev hi fm s2 x s3)(h:∀k,uZ v w x s3 k=k u s'):Ev (vv a lo hi) fm s u s':=λk=>(ha _).trans ((hl _).trans ((hh _).trans (h k)))
theorem cD {a:CE}{p cs:Nat} (ha:Ev a fm s (.ref p) s1)(hp:s1.look p=Sa (.inst cs d fs))(h:∀k,dK fs n k=k v):Ev (bv a n) fm s v s1:=λk=>(ha _).trans ((St.get_of hp _).trans (h λv=>k v s1))
theorem Iu {a:CE}{p cs:Nat} (ha:Ev a fm s (.ref p) s1)(hp:s1.look p=Sa (.lsub cs d fs q))(h:∀k,dK fs n k=k v):Ev (bv a n) fm s v s1:=λk=>(ha _).trans ((St.get_of hp _).trans (h λv=>k v s1))
theorem wn {F:FN} (ha:uF as fm s vs s1)(h:qK F vs s1 v s2):Ev (fA F as) fm s v s2:=λ_=>(ha _).trans (h _)
theorem qi {F:FN}{a:CE} {p:Nat} (ha:Ev a fm s (.ref p) s1)(hp:s1.look p=Sa (.inst n d fs))(hs:uF as fm s1 vs s2)(h:qK F (.ref p::vs) s2 v s3):Ev (bz n F a as) fm s v s3:=λ_=>(ha _).trans ((St.get_of hp _).trans ((g8 (Vv n)).trans ((hs _).trans (h _))))
theorem fS {F:FN}{a:CE} {p:Nat} (ha:Ev a fm s (.ref p) s1)(hp:s1.look p=Sa (.lsub n d fs q))(hs:uF as fm s1 vs s2)(h:qK F (.ref p::vs) s2 v s3):Ev (bz n F a as) fm s v s3:=λ_=>(ha _).trans ((St.get_of hp _).trans ((g8 (Vv n)).trans ((hs _).trans (h _))))
theorem zX {F:FN} (ha:uF as fm s vs s1)(h1:∀k,s1.push .hid k=k d s2)(h2:∀k,s2.push (fQ m d) k=k n s3)(h:qK F (.ref n::vs) s3 .none s'):Ev (iF m F as) fm s (.ref n) s':=λ_=>(ha _).trans ((h1 _).trans ((h2 _).trans (h _)))
theorem gM {F:FN} (ha:uF as fm s vs s1)(h:∀k,F vs s1 k=k v s2):Ev (gv F as) fm s v s2:=λ_=>(ha _).trans (h _)
theorem nk {M:xO}{a:CE} {q:Sd Nat}(ha:Ev a fm s (.str q) s1)(hs:uF as fm s1 vs s2)(h:∀k,M (.str q) vs s2 k=k v s3):Ev (sM M a as) fm s v s3:=λ_=>(ha _).trans ((hs _).trans (h _))
theorem AU {M:xO}{a:CE} {p:Nat} (ha:Ev a fm s (.ref p) s1)(hp:s1.look p=Sa (.list q))(hs:uF as fm s1 vs s2)(h:∀k,M (.ref p) vs s2 k=k v s3):Ev (lQ M a as) fm s v s3:=λ_=>(ha _).trans ((St.get_of hp _).trans ((hs _).trans (h _)))
theorem HV {M:xO}{a:CE} {p cs:Nat} (ha:Ev a fm s (.ref p) s1)(hp:s1.look p=Sa (.lsub cs d fs q))(hs:uF as fm s1 vs s2)(h:∀k,M (.ref p) vs s2 k=k v s3):Ev (lQ M a as) fm s v s3:=λ_=>(ha _).trans ((St.get_of hp _).trans ((hs _).trans (h _)))
theorem zd {t:CT}{a b:CE}(ht:pG t fm s Se s1)(ha:Ev a fm s1 v s2):Ev (uU t a b) fm s v s2:=λ_=>(ht _).trans (ha _)
theorem Bv {t:CT}{a b:CE}(ht:pG t fm s ll s1)(hb:Ev b fm s1 v s2):Ev (uU t a b) fm s v s2:=λ_=>(ht _).trans (hb _)
theorem HJ {a:CE}(ha:Ev a fm s v s1)(h:∀k,eM v s1 k=k b s2):Ev (GH a) fm s (.bool (ee b)) s2:=λ_=>(ha _).trans (h _)
theorem GG {a e:CE}(ha:Ev a fm s v s1)(h:∀k,iT v s1 k=k c)(hv:v=.bool c)(hb:c=Se->Ev e fm s1 (.bool ll) s1):Ev (He a e) fm s (.bool ll) s1:=λ_=>(ha _).trans ((h _).trans (by
 cases c with
 | true=>exact hb rfl _
 | false=>rw[hv];rfl))
theorem Lp {a e:CE}(ha:Ev a fm s v s1)(h:∀k,iT v s1 k=k c)(hb:c=ll->Ev e fm s1 w s2)(hc:c=ll:=by rfl):Ev (Qc a e) fm s w s2:=λ_=>(ha _).trans ((h _).trans (by rw[hc];exact hb hc _))
theorem dA:uF av fm s [] s:=λ_=>rfl
theorem be {e:CE} (he:Ev e fm s v s1)(hs:uF as fm s1 vs s2):uF (ae e as) fm s (v::vs) s2:=λ_=>(he _).trans (hs _)
theorem aT {e:CE}(he:Ev e fm s v s1):uF (ae e av) fm s [v] s1:=λ_=>he _
theorem AV {e:CE}(he:Ev e fm s (.tup vs) s1)(h:aB (aK vs)=Se):uF (Al e) fm s vs s1:=λ_=>(he _).trans (g8 h)
theorem zt {a:CE}(ha:Ev a fm s v s1)(h:∀k,eM v s1 k=k b s2):pG (tE a) fm s b s2:=λ_=>(ha _).trans (h _)
theorem bN {op:CP}{a b:CE}(ha:Ev a fm s v s1)(hb:Ev b fm s1 w s2)(h:∀k,op v w s2 k=k c):pG (bR op a b) fm s c s2:=λk=>(ha _).trans ((hb _).trans (h λc=>k c s2))
theorem Es {a b:CT}(ha:pG a fm s Se s1)(hb:pG b fm s1 c s2):pG (qk a b) fm s c s2:=λ_=>(ha _).trans (hb _)
theorem BW {a b:CT}(ha:pG a fm s ll s1):pG (qk a b) fm s ll s1:=λ_=>ha _
theorem aN (h:wI fm.loc i=Se):qI (aw ll i) fm v s ⟨yX fm.loc v i,fm.cel⟩ s:=λk=>Gg (k:=λ_=>Se) h
theorem gW (h:Iy fm.cel i=Sa n)(hw:∀k,kK n v s k=k s'):qI (aw Se i) fm v s fm s':=λk=>(rH h).trans (hw _)
theorem cR {a:CE}(ha:Ev a fm s w s1)(h:∀k,setAttr w n v s1 k=k s2):qI (eQ a n) fm v s fm s2:=λ_=>(ha _).trans (h _)
theorem w6 {a j:CE}(ha:Ev a fm s w s1)(hj:Ev j fm s1 x s2)(h:∀k,mP w x v s2 k=k s3):qI (zj a j) fm v s fm s3:=λ_=>(ha _).trans ((hj _).trans (h _))
theorem wB {a lo:CE}(ha:Ev a fm s w s1)(hl:Ev lo fm s1 x s2)(h:∀k,vw w x v s2 k=k s3):qI (ED a lo) fm v s fm s3:=λ_=>(ha _).trans ((hl _).trans (h _))
theorem un:B7 eW fm [] s fm s:=λ_=>rfl
theorem eh {g:CG} (h:qI g fm v s fm1 s1)(hs:B7 gs fm1 vs s1 fm2 s2):B7 (bh g gs) fm (v::vs) s fm2 s2:=λ_=>(h _).trans (hs _)
theorem EH (hl:SD (aK vs) m=Se)(h:B7 gs fm vs s fm1 s1):qI (fM m gs) fm (.tup vs) s fm1 s1:=λ_=>(g8 hl).trans (h _)
theorem pZ:gT aH fm s .nxt fm s:=λ_=>rfl
theorem aJ {a b:CS}(ha:gT a fm s .nxt fm1 s1)(hb:gT b fm1 s1 f fm2 s2):gT (aq a b) fm s f fm2 s2:=λ_=>(ha _).trans (hb _)
theorem bk {a:CS}(ha:gT a fm s f fm1 s1):gT (aq a aH) fm s f fm1 s1:=λk=>(ha _).trans (by cases f <;> rfl)
theorem iz {a:CE}(ha:Ev a fm s v s1):gT (dq a) fm s (.ret v) fm s1:=λ_=>ha _
theorem qw {b:CS}:gT (aq u4 b) fm s .brk fm s:=λ_=>rfl
theorem my {a b:CS}(ha:gT a fm s .brk fm1 s1):gT (aq a b) fm s .brk fm1 s1:=λ_=>ha _
theorem aU {a:CE}{g:CG}(ha:Ev a fm s v s1)(hg:qI g fm v s1 fm2 s2):gT (aV a g) fm s .nxt fm2 s2:=λ_=>(ha _).trans (hg _)
theorem cX {a:CE}(ha:Ev a fm s .none s1):gT (dI a) fm s .nxt fm s1:=λ_=>ha _
theorem iQ {c:CT}{a b:CS}(hc:pG c fm s Se s1)(ha:gT a fm s1 f fm2 s2):gT (ij c a b) fm s f fm2 s2:=λ_=>(hc _).trans (ha _)
theorem vQ {c:CT}{a b:CS}(hc:pG c fm s ll s1)(hb:gT b fm s1 f fm2 s2):gT (ij c a b) fm s f fm2 s2:=λ_=>(hc _).trans (hb _)
theorem ja {c:CT}{a:CS}(hc:pG c fm s ll s1):gT (ij c a aH) fm s .nxt fm s1:=λ_=>hc _
theorem rM {g u:CG}(h:qI g fm v s fm1 s1)(hu:qI u fm1 v s1 fm2 s2):qI (tN g u) fm v s fm2 s2:=λ_=>(h _).trans (hu _)
theorem y4 (ha:uF as fm s vs s1)(hg:B7 gs fm vs s1 fm2 s2):gT (Bb as gs) fm s .nxt fm2 s2:=λ_=>(ha _).trans (hg _)
theorem BF {a j e:CE}{y z:Int}(ha:Ev a fm s v s1)(hj:Ev j fm s1 w s2)(hi:∀k,cZ v w s2 k=k (.int y) s2)(he:Ev e fm s2 (.int z) s3)(hp:∀k,mP v w (.int (gB y z)) s3 k=k s'):gT (js a j e) fm s .nxt fm s':=λ_=>(ha _).trans ((hj _).trans ((hi _).trans ((he _).trans (hp _))))
theorem y9 {e:CE}(hc:Iy fm.cel i=Sa n)(hl:s.look n=Sa (.cell (Sa v)))(he:Ev e fm s w s1)(ho:∀k,op v w s1 k=k x s2)(hw:∀k,kK n x s2 k=k s'):gT (vd Se i op e) fm s .nxt fm s':=λ_=>(rH hc).trans ((Fk hl _).trans ((he _).trans ((ho _).trans ((rH hc).trans (hw _)))))
theorem jh {t:eN}{i:CI}{a b:CS}(hi:CL i fm s it s1)(h:CM (dO t a b 200) fm it s1 f fm2 s2):gT (je t i a b) fm s f fm2 s2:=λ_=>(hi _).trans (h _)
theorem qC {t:eN}{a b:CS}{K:Fl->Fm->St->Si}:dO t a b (n+1) fm it s K=aY s it (b fm s K) λy it=>t fm y s λfm st=>a fm st λf fm st=>@Fl.rec (λ_=>Si) (dO t a b n fm it st K) (K .nxt fm st) (dO t a b n fm it st K) (λv=>K (.ret v) fm st) f:=rfl
theorem mA {t:eN}{a b:CS}(h:∀z k,aY s it z k=z)(hb:gT b fm s f fm2 s2):CM (dO t a b (n+1)) fm it s f fm2 s2:=λ_=>qC.trans ((h _ _).trans (hb _))
theorem we {t:CG}{a b:CS}(h:∀z k,aY s it z k=k (.v v) it')(ht:qI t fm v s fm1 s1)(ha:gT a fm1 s1 .nxt fm2 s2)(hl:CM (dO (em t) a b n) fm2 it' s2 f fm' s'):CM (dO (em t) a b (n+1)) fm it s f fm' s':=λ_=>qC.trans ((h _ _).trans ((ht _).trans ((ha _).trans (hl _))))
theorem pP {t:CG}{a b:CS}(h:∀z k,aY s it z k=k (.v v) it')(ht:qI t fm v s fm1 s1)(ha:gT a fm1 s1 .brk fm2 s2):CM (dO (em t) a b (n+1)) fm it s .nxt fm2 s2:=λ_=>qC.trans ((h _ _).trans ((ht _).trans (ha _)))
theorem M6 {t u:CG}{a b:CS}(h:∀z k,aY s it z k=k (.pair v w) it')(ht:qI t fm v s fm1 s1)(hu:qI u fm1 w s1 fm2 s2)(ha:gT a fm2 s2 .nxt fm' s3)(hl:CM (dO (yS t u) a b n) fm' it' s3 f fm3 s'):CM (dO (yS t u) a b (n+1)) fm it s f fm3 s':=λ_=>qC.trans ((h _ _).trans ((ht _).trans ((hu _).trans ((ha _).trans (hl _)))))
theorem qj {a:CE}{q:Sd Nat}(ha:Ev a fm s (.str q) s1)(h:fN q=Se):CL (iE a) fm s (.str q) s1:=λ_=>(ha _).trans (g8 h)
theorem D3 {a:CE}{p:Nat} (ha:Ev a fm s (.ref p) s1)(hp:s1.look p=Sa (.list q)):CL (iE a) fm s (.seq p 0) s1:=λ_=>(ha _).trans (bj hp _)
theorem wi {a:CE}{p:Nat} (ha:Ev a fm s (.ref p) s1)(hp:s1.look p=Sa (.list q)):CL (lK a) fm s (.enS 0 p 0) s1:=λ_=>(ha _).trans (bj hp _)
theorem HK {b:CE}{y:Int}(hb:Ev b fm s (.int y) s1)(h:∀k,eB 0 y 1 s1 k=k it s1):CL (tn b) fm s it s1:=λ_=>(hb _).trans (h _)
theorem GW {a b:CE}{y z:Int}(ha:Ev a fm s (.int y) s1)(hb:Ev b fm s1 (.int z) s2)(h:∀k,eB y z 1 s2 k=k it s2):CL (dG a b) fm s it s2:=λ_=>(ha _).trans ((hb _).trans (h _))
theorem GF {a b c:CE}{y z u:Int}(ha:Ev a fm s (.int y) s1)(hb:Ev b fm s1 (.int z) s2)(hc:Ev c fm s2 (.int u) s3)(h:∀k,eB y z u s3 k=k it s3):CL (BG a b c) fm s it s3:=λ_=>(ha _).trans ((hb _).trans ((hc _).trans (h _)))
def CR (g:eN)(fm:Fm)(y:du)(s:St)(fm':Fm)(s':St):Prop:=∀k,g fm y s k=k fm' s'
def QY (B:CB)(fm:Fm)(s:St)(vs:Sd V)(fm':Fm)(s':St):Prop:=∀k,B fm s k=k vs fm' s'
def yW (C:CC)(fm:Fm)(it:It)(s:St)(vs:Sd V)(fm':Fm)(s':St):Prop:=∀k,C fm it s k=k vs fm' s'
theorem qF {g:CG}(h:qI g fm v s fm1 s1):CR (em g) fm (.v v) s fm1 s1:=h
theorem vI {g u:CG}(h:qI g fm v s fm1 s1)(hu:qI u fm1 w s1 fm2 s2):CR (yS g u) fm (.pair v w) s fm2 s2:=λ_=>(h _).trans (hu _)
theorem vZ {e:CE}(h:Ev e fm s v s1):QY (gt e) fm s [v] fm s1:=λ_=>h _
theorem M8 {i:CI}{t:eN}{c:CT}{b:CB}(hi:CL i fm s it s1)(h:yW (bw t c b 200) fm it s1 vs fm2 s2):QY (IZ i t c b) fm s vs fm2 s2:=λ_=>(hi _).trans (h _)
theorem mB:pG cA fm s Se s:=λ_=>rfl
theorem pW {t:eN}{c:CT}{b:CB}{k:Sd V->Fm->St->Si}:bw t c b (n+1) fm it s k=aY s it (k [] fm s) λy it=>t fm y s λfm st=>c fm st λx st=>aD x (b fm st λvs fm st=>bw t c b n fm it st λus fm st=>k (bp vs us) fm st) (bw t c b n fm it st k):=rfl
theorem g9 {t:eN}{c:CT}{b:CB}(h:∀z k,aY s it z k=z):yW (bw t c b (n+1)) fm it s [] fm s:=λ_=>pW.trans (h _ _)
theorem rJ {t:eN}{c:CT}{b:CB}{y:du}{fm3:Fm}(h:∀z k,aY s it z k=k y it')(ht:CR t fm y s fm1 s1)(hc:pG c fm1 s1 Se s2)(hb:QY b fm1 s2 vs fm2 s3)(hl:yW (bw t c b n) fm2 it' s3 us fm3 s'):yW (bw t c b (n+1)) fm it s (bp vs us) fm3 s':=λ_=>pW.trans ((h _ _).trans ((ht _).trans ((hc _).trans ((hb _).trans (hl _)))))
theorem E2 {t:eN}{c:CT}{b:CB}{y:du}{fm3:Fm}(h:∀z k,aY s it z k=k y it')(ht:CR t fm y s fm1 s1)(hc:pG c fm1 s1 ll s2)(hl:yW (bw t c b n) fm1 it' s2 us fm3 s'):yW (bw t c b (n+1)) fm it s us fm3 s':=λ_=>pW.trans ((h _ _).trans ((ht _).trans ((hc _).trans (hl _))))
theorem lC {i:CI} {fr q:Sd Nat}{t:eN}{c:CT}{b:CB}(hq:∀k:Sd Nat->Si,xK fm.cel fr k=k q)(hi:CL i fm s it s1)(hc:yW (bw t c b 200) ⟨cq nl,q⟩ it s1 vs fm' s2)(hl:vs.length<=4095)(hp:∀k,s2.push (.list vs) k=k n s3):Ev (cI i nl 0 fr t c b) fm s (.ref n) s3:=λ_=>(hq _).trans ((hi _).trans ((hc _).trans ((g8 (by rw[aC];exact bG hl)).trans (hp _))))
theorem DC {a:CE}{q:Sd Nat}(ha:Ev a fm s (.str q) s1)(h:fN q=Se):CL (lK a) fm s (.enT 0 q) s1:=λ_=>(ha _).trans (g8 h)
theorem GO {a:CE}{q r:Sd Nat}(ha:Ev a fm s (.str q) s1)(h:aB (aK q)=Se)(e:kR q ll=r):Ev (Df a) fm s (.str r) s1:=λ_=>(ha _).trans ((g8 h).trans (by rw[e]))
theorem JY {body:CS} {l:Sd OV}(hl:SD (aK vs) (aK ps)=Se)(hb:∀K:Fm->St->Si,bindL ps vs ⟨cq nl,[]⟩ s K=K ⟨l,[]⟩ s)(h:gT body ⟨l,[]⟩ s (.ret v) fm' s'):qK (bn ps nl 0 body) vs s v s':=λ_=>(g8 hl).trans ((hb _).trans (h _))
theorem pA {body:CS} {l:Sd OV}(hl:SD (aK vs) (aK ps)=Se)(hb:∀K:Fm->St->Si,bindL ps vs ⟨cq nl,[]⟩ s K=K ⟨l,[]⟩ s)(h:gT body ⟨l,[]⟩ s .nxt fm' s'):qK (bn ps nl 0 body) vs s .none s':=λ_=>(g8 hl).trans ((hb _).trans (h _))
theorem PS {body:CS} {nc:Nat}{o:Sd Nat}{l:Sd OV}(hc:∀k,bY nc s k=k o s1)(hl:SD (aK vs) (aK ps)=Se)(hb:∀K:Fm->St->Si,bindL ps vs ⟨cq nl,o⟩ s1 K=K ⟨l,o⟩ s1)(h:gT body ⟨l,o⟩ s1 (.ret v) fm' s'):qK (bn ps nl nc body) vs s v s':=λ_=>(g8 hl).trans ((hc _).trans ((hb _).trans (h _)))
end
noncomputable section
noncomputable abbrev cy (c:Nat):V:=.tup [.str [32],.str [c]]
noncomputable abbrev xX (d i:Nat)(cur:Sd Nat):O:=.lsub 2 d [(11,ak i)] (cur.map cy)
noncomputable abbrev N2 (d M nl na:Nat):O:=.inst 1 d [(5,ak M),(6,.str [32]),(7,ak 1),(8,.str [32]),(9,.ref nl),(10,.ref na)]
noncomputable def cm (cur:Sd Nat):Sd Nat:=cur.flatMap λc=>[32,c]
end
structure Ext (s0 st:St):Prop where
 fu:st.Fu
 n:s0.n<=st.n
 keep:∀j,j<s0.n->st.look j=s0.look j
theorem Ext.refl (h:s.Fu):Ext s s:=⟨h,SQ _,λ_ _=>rfl⟩
theorem Ext.trans {a b c:St}(x:Ext a b)(y:Ext b c):Ext a c:=⟨y.fu,Sk x.n y.n,λj h=>(y.keep j (Sx h x.n)).trans (x.keep j h)⟩
theorem Ext.push {a b c:St}(x:Ext a b)(hf:c.Fu)(hn:c.n=b.n+1) (hl:∀j,c.look j=if j=b.n then Sa o else b.look j):Ext a c:=
 ⟨hf,by have:=x.n;lia,λj h=>by rw[hl,Sz (by have:=x.n;lia)];exact x.keep j h⟩
theorem Ext.set {a b c:St}(x:Ext a b)(hf:c.Fu)(hn:c.n=b.n) (hi:a.n<=i)(hl:∀j,c.look j=if j=i then Sa o else b.look j):Ext a c:=
 ⟨hf,by have:=x.n;lia,λj h=>by rw[hl,Sz (by lia)];exact x.keep j h⟩
structure Pg (s0 st:St)(pg nl na d da M i:Nat)(L:Sd (Sd Nat))(cur:Sd Nat):Prop where
 x:Ext s0 st
 at1:st.look pg=Sa (N2 d M nl na)
 ln:st.look nl=Sa (.list (L.map V.str))
 ac:st.look na=Sa (xX da i cur)
 lo:4<=s0.n/\s0.n<=pg/\s0.n<=nl/\s0.n<=na
 ne:pg≠na/\pg≠nl/\nl≠na
inductive Il (s0 st:St)(pg nl na d da M i:Nat)(L:Sd (Sd Nat))(cur:Sd Nat)(o:O):Prop
 | mk (s':St) (e:∀k,st.push o k=k st.n s') (G:Pg s0 s' pg nl na d da M i L cur) (l:s'.look st.n=Sa o) (n:s'.n=st.n+1) (k:∀j,j<st.n->s'.look j=st.look j)
inductive Ff (s0 st:St)(pg nl na d da M i:Nat)(L:Sd (Sd Nat))(cur:Sd Nat)(p:Nat)(f:(St->Si)->Si):Prop
 | mk (s':St) (e:∀k,f k=k s') (G:Pg s0 s' pg nl na d da M i L cur) (n:s'.n=st.n) (k:∀j,j≠p->s'.look j=st.look j)
inductive FL (F:FN)(vs:Sd V)(st:St)(v:V)(s0:St)(pg nl na d da M i:Nat)(L:Sd (Sd Nat))(cur:Sd Nat):Prop
 | mk (s':St) (e:qK F vs st v s') (G:Pg s0 s' pg nl na d da M i L cur)
section
variable {s0 st:St}{pg nl na d da M i:Nat}{L:List (List Nat)}{cur:List Nat}
namespace Pg
theorem push (G:Pg s0 st pg nl na d da M i L cur)(o:O):Il s0 st pg nl na d da M i L cur o:=by
 obtain⟨s',h1,h2,h3,h4⟩:=dM G.x.fu o
 have a:=St.lt G.x.fu G.at1
 have b:=St.lt G.x.fu G.ln
 have c:=St.lt G.x.fu G.ac
 exact⟨s',h1,⟨G.x.push h2 h3 h4,by rw[h4,Sz (by omega)];exact G.at1,by rw[h4,Sz (by omega)];exact G.ln,by rw[h4,Sz (by omega)];exact G.ac,G.lo,G.ne⟩,by rw[h4,SR rfl],h3,λj h=>by rw[h4,Sz (by omega)]⟩
theorem setAc (G:Pg s0 st pg nl na d da M i L cur) (i':Nat)(cur':Sd Nat)(e1:fs=[(11,ak i')])(e2:q=cur'.map cy):Ff s0 st pg nl na d da M i' L cur' na (st.set na (.lsub 2 da fs q)):=by
 have hl:=G.lo
 have hn:=G.ne
 subst e1 e2
 obtain⟨s',h1,h2,h3,h4⟩:=ib G.x.fu (by lia) (St.lt G.x.fu G.ac) (xX da i' cur')
 exact⟨s',h1,⟨G.x.set h2 h3 hl.2.2.2 h4,by rw[h4,Sz hn.1];exact G.at1,by rw[h4,Sz hn.2.2];exact G.ln,by rw[h4,SR rfl],G.lo,G.ne⟩,h3,λj h=>by rw[h4,Sz h]⟩
theorem setLn (G:Pg s0 st pg nl na d da M i L cur) (L':Sd (Sd Nat))(e2:q=L'.map V.str):Ff s0 st pg nl na d da M i L' cur nl (st.set nl (.list q)):=by
 have hl:=G.lo
 have hn:=G.ne
 subst e2
 obtain⟨s',h1,h2,h3,h4⟩:=ib G.x.fu (by lia) (St.lt G.x.fu G.ln) (.list (L'.map V.str))
 exact⟨s',h1,⟨G.x.set h2 h3 hl.2.2.1 h4,by rw[h4,Sz hn.2.1];exact G.at1,by rw[h4,SR rfl],by rw[h4,Sz hn.2.2.symm];exact G.ac,G.lo,G.ne⟩,h3,λj h=>by rw[h4,Sz h]⟩
end Pg
theorem qJ {l:Sd α}(h:l.length<=4095){a b:Si}:aD (aB (aK l)) a b=a:=by
 rw[aC,show aB l.length=Se from bG h];rfl
theorem jL (K:Sd (Sd Nat)->Si):∀cur:Sd Nat,dY dC (cur.map cy) K=K (cur.map λc=>[32,c])
 | []=>rfl
 | c::r=>by
  show dY dC (r.map cy) (λq=>K ([32,c]::q))=_
  rw[jL _ r];rfl
theorem tI:∀(cur:Sd Nat)(i:Nat),fY (cur.map λc=>[32,c]) (.ofNat i)=.ofNat (i+2*cur.length)
 | [],i=>rfl
 | c::r,i=>by
  show fY (r.map λc=>[32,c]) (.ofNat (i+2))=_
  rw[tI r];simp only[Tc];congr 1;lia
theorem qe:∀(cur:Sd Nat),jI (cur.map λc=>[32,c])=cm cur
 | []=>rfl
 | c::r=>by
  show 32::c::jI (r.map λc=>[32,c])=_
  rw[qe r];rfl
theorem ft:∀cur:Sd Nat,(cm cur).length=2*cur.length
 | []=>rfl
 | c::r=>by
  show(cm r).length+2=_
  rw[ft r,Tc];lia
theorem nP (h:st.look na=Sa (xX da i cur))(hs:i+2*cur.length<=4095)(k:KV):fh [.ref na] st k=k (ak (i+2*cur.length)) st:=by
 refine Eq.trans (St.get_of h _) ?_
 refine Eq.trans (jL _ cur) ?_
 show aD (pU 0 (.ofNat i)) (aD (small (fY (cur.map λc=>[32,c]) (.ofNat i))) (k (.int (fY (cur.map λc=>[32,c]) (.ofNat i))) st) ll) ll=_
 rw[tI,show pU 0 (.ofNat i)=Se from bG (Td _),fw,bU (by lia)];rfl
theorem mS (h:st.look na=Sa (xX da i cur))(hs:i+2*cur.length<=4095)(k:KV):dU [.ref na] st k=k (ak (i+2*cur.length)) st:=
 (St.get_of h _).trans (nP h hs k)
theorem mn (h:st.look na=Sa (xX da i cur))(hs:2*cur.length<=4095)(k:KV):vx [.ref na] st k=k (.str (cm cur)) st:=by
 refine Eq.trans (St.get_of h _) ?_
 refine Eq.trans (qJ (l:=cur.map cy) (by simp;lia)) ?_
 refine Eq.trans (jL _ cur) ?_
 refine Eq.trans (qJ (l:=jI (cur.map λc=>[32,c])) (by rw[qe,ft];exact hs)) ?_
 rw[qe]
theorem BB (G:Pg s0 st pg nl na d da M i L cur)(c:Nat)(hs:cur.length<=4095):FL I1 [.ref na,.str [32],.str [c]] st .none s0 pg nl na d da M i L (cur++[c]):=by
 obtain⟨s',h1,G',_⟩:=G.setAc i (cur++[c]) (q:=bp (cur.map cy) [cy c]) rfl (by rw[bf];simp)
 refine⟨s',?_,G'⟩
 delta I1 Ra FJ
 exact pA rfl (λ_=>rfl) (bk (cX (HV (ah rfl) G.ac (aT (pk (be (ah rfl) (aT (ah rfl))))) λk=>(St.get_of G.ac _).trans ((qJ (l:=cur.map cy) (by simpa using hs)).trans (h1 _)))))
theorem AH {a b:Nat}(k:Si->Si):Eh (ak a) (ak b) st k=k (ee (SV a b)):=rfl
theorem OX {a b:Nat}(h:a<=b)(k:Si->Si):Eh (ak a) (ak b) st k=k ll:=by rw[AH,bG h];rfl
theorem jE {a b:Nat}(h:b<a):SV a b=ll:=by
 cases e:SV a b with
 | false=>rfl
 | true=>exact S8 (Sl e) (Nat.not_le.mpr h)
theorem Jk {a b:Nat}(h:b<a)(k:Si->Si):Eh (ak a) (ak b) st k=k Se:=by rw[AH,jE h];rfl
theorem G8 (G:Pg s0 st pg nl na d da M i L cur)(c:Nat)(hs:i+2*(cur.length+1)<=M)(hM:M<=100):FL F9 [.ref pg,.str [32],.str [c]] st .none s0 pg nl na d da M i L (cur++[c]):=by
 obtain⟨s',h1,G'⟩:=BB G c (by lia)
 refine⟨s',?_,G'⟩
 have hlen:(cur++[c]).length=cur.length+1:=SU
 delta F9 c9 H9 Go
 exact pA rfl (λ_=>rfl) (aJ (cX (fS (cD (ah rfl) G.at1 λ_=>rfl) G.ac (be (ah rfl) (aT (ah rfl))) h1))
  (bk (ja (bN (gM (aT (cD (ah rfl) G'.at1 λ_=>rfl)) (mS G'.ac (by rw[hlen];lia))) (cD (ah rfl) G'.at1 λ_=>rfl) (OX (by rw[hlen];exact hs))))))
end
theorem EG (l:Sd Nat)(k:Sd Nat->Si):dB (.str l) k=k l:=rfl
theorem B9 (s:St)(k:KV):nu (.str [32]) [] s k=k (.bool Se) s:=rfl
theorem uo (b:Si)(s:St)(k:Si->St->Si):eM (.bool b) s k=k b s:=rfl
theorem pD (s:St)(k:Si->St->Si):eM (.str [32]) s k=k Se s:=rfl
theorem vq (s:St)(k:KV):cZ (.str [32]) (.int 0) s k=k (.str [32]) s:=rfl
theorem uW (c:Nat)(s:St)(k:KV):cZ (cy c) (.int 0) s k=k (.str [32]) s:=rfl
theorem Bh (s:St)(k:Si->Si):iu (.str [32]) (.str [32]) s k=k Se:=rfl
theorem MR (s:St)(k:Si->Si):sK .none .none s k=k Se:=rfl
theorem MW (q:Nat)(s:St)(k:Si->Si):sK (.ref q) .none s k=k ll:=rfl
theorem tm {c s:Int} (h:n=m+1)(k:du->It->Si):aY st (.rng c n s) stop k=k (.v (.int c)) (.rng (gB c s) m s):=by rw[h];rfl
section
variable {s0 st:St}{pg nl na d da M i:Nat}{L:List (List Nat)}{cur:List Nat}
theorem AP {p cs:Nat} {s':St}(h:st.look p=Sa (.lsub cs d fs l))(h2:st.look m=Sa (.list q))(hl:l.length<=4095)(hq:q.length<=4095)(hs:∀k,st.set p (.lsub cs d fs q) k=k s')(k:St->Si):vw (.ref p) .none (.ref m) st k=k s':=
 (St.get_of h _).trans ((bj h2 _).trans ((qJ hl).trans ((qJ hq).trans (hs k))))
theorem BQ {p cs:Nat} {s':St}(h:st.look p=Sa (.lsub cs d fs l))(h2:st.look m=Sa (.list q))(hl:l.length<=4095)(hq:q.length<=4095)(hs:∀k,st.set p (.lsub cs d fs (bp (fy l (eV (.ofNat i) (aK l))) q)) k=k s')(k:St->Si):vw (.ref p) (ak i) (.ref m) st k=k s':=
 (St.get_of h _).trans ((bj h2 _).trans ((qJ hl).trans ((qJ hq).trans (hs k))))
theorem DK {p cs x:Nat} {u:V}{s':St}(h:st.look p=Sa (.lsub cs d fs q))(hl:SV (aK fs) 100=Se)(hs:∀k,st.set p (.lsub cs d (dv fs x u) q) k=k s')(k:St->Si):setAttr (.ref p) x u st k=k s':=
 (St.get_of h _).trans ((g8 hl).trans (hs k))
theorem zo (G:Pg s0 st pg nl na d da M i L cur){q:Nat}{cur':Sd Nat} (h0:uX fm.loc 0=Sa (.ref na))(h1:uX fm.loc 1=Sa (.ref q))(hq:st.look q=Sa (.list (cur'.map cy)))(hc:cur.length<=4095)(hc':cur'.length<=4095):∃s':St,gT (aq By (aq BD aH)) fm st .nxt fm s'/\Pg s0 s' pg nl na d da M 0 L cur':=by
 obtain⟨s1,e1,G1,_⟩:=G.setAc i cur' (q:=cur'.map cy) (fs:=[(11,ak i)]) rfl rfl
 obtain⟨s2,e2,G2,_⟩:=G1.setAc 0 cur' (q:=cur'.map cy) (fs:=[(11,ak 0)]) rfl rfl
 refine⟨s2,?_,G2⟩
 delta By BD
 exact aJ (aU (ah h1) (wB (ah h0) az (AP G.ac hq (by simpa using hc) (by simpa using hc') e1))) (bk (aU az (cR (ah h0) (DK G1.ac rfl e2))))
theorem IK (G:Pg s0 st pg nl na d da M i L cur){q:Nat}{cur':Sd Nat}(hq:st.look q=Sa (.list (cur'.map cy)))(hc:cur.length<=4095)(hc':cur'.length<=4095):FL EQ [.ref na,.ref q] st .none s0 pg nl na d da M 0 L cur':=by
 refine aE (zo G (fm:=⟨[Sa (.ref na),Sa (.ref q)],[]⟩) rfl rfl hq hc hc') λs2 h2 G2=>?_
 refine⟨s2,?_,G2⟩
 delta EQ yQ BT
 exact pA rfl (λ_=>rfl) (aJ (ja (bN (ah rfl) az (MW _ _))) h2)
theorem Dr {F:FN} {s':St}(h:qK F [w,.none] st v s'):qK (sH F) [w] st v s':=λk=>h k
theorem HB (G:Pg s0 st pg nl na d da M i L cur)(hc:cur.length<=4095):FL (sH EQ) [.ref na] st .none s0 pg nl na d da M 0 L []:=by
 obtain⟨s1,h1,G1,q1,_⟩:=G.push (.list [])
 refine aE (zo G1 (cur':=[]) (fm:=⟨yX [Sa (.ref na),Sa .none] (.ref st.n) 1,[]⟩) rfl rfl q1 hc (Td _)) λs2 h2 G2=>?_
 refine⟨s2,Dr ?_,G2⟩
 delta EQ yQ BT
 exact pA rfl (λ_=>rfl) (aJ (iQ (bN (ah rfl) az (MR _)) (bk (aU (dX dA h1) (aN rfl)))) h2)
theorem DB (h:m<n):eV (.ofNat m) n=m:=by
 show @Te (λ_=>Nat) m n (SV n m)=m
 rw[jE h]
theorem zv (l:Sd α)(m:Nat)(K:Sd α->Si):cut l (ak m) .none K=K (ng l (eV (.ofNat m) (aK l))):=rfl
theorem HD {p cs:Nat} {s':St}(h:st.look p=Sa (.lsub cs d fs l))(hl:l.length<=4095)(hs:∀k,st.push (.list (ng l (eV (.ofNat m) (aK l)))) k=k n s')(k:KV):uZ (.ref p) (ak m) .none st k=k (.ref n) s':=
 (St.get_of h _).trans ((qJ hl).trans ((zv ..).trans (hs _)))
theorem oU (f:α->β)(l:Sd α)(x:α):eV (.ofNat l.length) (aK ((l++[x]).map f))=l.length:=DB (by rw[aC,S0,SU];exact SX _)
theorem yJ (f:α->β)(l:Sd α)(x:α):ng ((l++[x]).map f) (eV (.ofNat l.length) (aK ((l++[x]).map f)))=[f x]:=by
 rw[oU,tz,←Sd.map_drop,Sd.drop_left];rfl
theorem ym (f:α->β)(l:Sd α)(x:α):bp (fy ((l++[x]).map f) (eV (.ofNat l.length) (aK ((l++[x]).map f)))) []=l.map f:=by
 rw[oU,gm,bf,←Xj,Sd.take_left,TR]
inductive OB (vs:Sd V)(st s0:St)(pg nl na d da M i:Nat)(L:Sd (Sd Nat))(cur:Sd Nat)(c:Nat):Prop
 | mk (s':St) (q:Nat) (e:qK Og vs st (.ref q) s') (G:Pg s0 s' pg nl na d da M i L cur) (l:s'.look q=Sa (.list ([c].map cy)))
theorem BZ (G:Pg s0 st pg nl na d da M i L (cur++[c]))(hc:cur.length<=4000):OB [.ref na,ak cur.length] st s0 pg nl na d da M i L cur c:=by
 have h12:((cur++[c]).map cy).length<=4095:=by rw[S0,SU];exact Sk (TQ hc) (bo rfl)
 have hd:=yJ cy cur c
 have ht:=ym cy cur c
 obtain⟨s1,h1,G1,q1,n1,k1⟩:=G.push (.list (ng ((cur++[c]).map cy) (eV (.ofNat cur.length) (aK ((cur++[c]).map cy)))))
 rw[hd] at q1
 obtain⟨s2,h2,G2,q2,n2,k2⟩:=G1.push (.list [])
 obtain⟨s3,h3,G3,n3,k3⟩:=G2.setAc i cur (fs:=[(11,ak i)]) rfl ht
 have a:=St.lt G.x.fu G.ac
 refine⟨s3,st.n,?_,G3,by rw[k3 _ (Tu a),k2 _ (n1▸SX _)];exact q1⟩
 delta Og PW EZ EV E3
 exact JY rfl (λ_=>rfl) (aJ (aU (BJ (ah rfl) (ah rfl) az (HD G.ac h12 h1)) (aN rfl)) (aJ (aU (dX dA h2) (wB (ah rfl) (ah rfl) (BQ G2.ac q2 h12 (Td _) h3))) (bk (iz (ah rfl)))))
theorem wm (G:Pg s0 st pg nl na d da M i L cur)(hL:L.length<=4095)(w:Sd Nat):∃s':St,(∀k,jQ (.ref nl) [.str w] st k=k .none s')/\Pg s0 s' pg nl na d da M i (L++[w]) cur/\(∀j,j≠nl->s'.look j=st.look j):=by
 obtain⟨s1,h1,G1,n1,k1⟩:=G.setLn (L++[w]) (q:=bp (L.map V.str) [.str w]) (by rw[bf];simp)
 exact⟨s1,λk=>(St.get_of G.ln _).trans ((qJ (l:=L.map V.str) (by simpa using hL)).trans (h1 _)),G1,k1⟩
theorem z6 (h1:1<=m)(h:m<=4095)(k:It->St->Si):eB (.ofNat m) 0 (-1) s k=k (.rng (.ofNat m) m (-1)) s:=by
 unfold eB
 have e:cT (iC (.ofNat m) 0)=m:=by rw[gz,ey];simp
 rw[bU (by lia),e,show aB m=Se from bG h];rfl
theorem Ch:∀{L:Sd (Sd Nat)},Sa (O.list ([c].map cy))≠Sa (.list (L.map V.str))
 | [],e=>nomatch e
 | _::_,e=>nomatch e
theorem Ah {p cs:Nat} (h:st.look p=Sa (.lsub cs d fs l))(hl:l.length<=4095):qK Ow [.ref p] st (ak (aK l)) st:=λ_=>(St.get_of h _).trans (qJ hl)
theorem Jx (G:Pg s0 st pg nl na d da M i L cur)(c:Nat)(hne:1<=cur.length)(hs:M<i+2*(cur.length+1))(hi:i+2*cur.length<=M)(hM:M<=100)(hL:L.length<=4000):FL F9 [.ref pg,.str [32],.str [c]] st .none s0 pg nl na d da M 0 (L++[cm cur]) [c]:=by
 have hcl:cur.length<=100:=by lia
 obtain⟨s1,h1,G1⟩:=BB G c (Sk hcl (bo rfl))
 have hlen:(cur++[c]).length=cur.length+1:=SU
 obtain⟨s2,q,h2,G2,q2⟩:=BZ G1 (Sk hcl (bo rfl))
 refine fF (wm G2 (Sk hL (bo rfl)) (cm cur)) λs3 h3 G3 k3=>?_
 have hqn:q≠nl:=λe=>Ch (q2.symm.trans (e▸G2.ln))
 obtain⟨s4,h4,G4⟩:=IK G3 (cur':=[c]) (q:=q) (by rw[k3 _ hqn];exact q2) (Sk hcl (bo rfl)) (by decide:1<=4095)
 refine⟨s4,?_,G4⟩
 have hl:aK ((cur++[c]).map cy)=cur.length+1:=by rw[aC,S0,hlen]
 have hp:=Ah G1.ac (by rw[S0,hlen];exact Sk (TQ hcl) (bo rfl))
 rw[hl] at hp
 refine bH (SW hne) λm hm=>?_
 delta F9 c9 H9 Go
 exact pA rfl (λ_=>rfl) (aJ (cX (fS (cD (ah rfl) G.at1 λ_=>rfl) G.ac (be (ah rfl) (aT (ah rfl))) h1))
  (bk (iQ (bN (gM (aT (cD (ah rfl) G1.at1 λ_=>rfl)) (mS G1.ac (by rw[hlen];lia))) (cD (ah rfl) G1.at1 λ_=>rfl) (Jk (by rw[hlen];exact hs)))
   (aJ (jh (qj (cD (ah rfl) G1.at1 λ_=>rfl) rfl) (pP (λ_ _=>rfl) (aN rfl) (aJ
     (jh (GF (bd (fS (cD (ah rfl) G1.at1 λ_=>rfl) G1.ac dA hp) az (λ_=>ie (a:=cur.length+1) (b:=1) (TK _ _))) az (IH az) (z6 (m:=cur.length) hne (Sk hcl (bo rfl))))
      (pP (λ_ k=>tm hm k) (aN rfl) (my (iQ (zt (nk (ah rfl) dA (B9 _)) (uo _ _))
       (aJ (aU (eJ (eJ (cD (ah rfl) G1.at1 λ_=>rfl) (ah rfl) (λ_=>xJ G1.ac (a:=cur.length) (x:=cy c) (by rw[Vl];simp) (Sk hcl (bo rfl)))) az (uW _ _)) (aN rfl))
        (bk (iQ (Es (zt (ah rfl) (pD _)) (bN (eJ (ah rfl) az (vq _)) (ah rfl) (Bh _))) qw)))))))
     qw)))
    (aJ (aU (fS (cD (ah rfl) G1.at1 λ_=>rfl) G1.ac (aT (ah rfl)) h2) (aN rfl))
     (aJ (cX (AU (cD (ah rfl) G2.at1 λ_=>rfl) G2.ln (aT (gM (aT (cD (ah rfl) G2.at1 λ_=>rfl)) (mn G2.ac (by lia)))) h3))
      (bk (cX (fS (cD (ah rfl) G3.at1 λ_=>rfl) G3.ac (aT (ah rfl)) h4)))))))))
end
theorem QL (l:Sd α)(z:α):∃x r,l++[z]=x::r/\oJ r x=z/\nI (x::r)=l:=by
 have h:∀(l:Sd α) (z:α),∃x r,l++[z]=x::r/\oJ r x=z/\nI (x::r)=l:=by
  intro l
  induction l with
  | nil=>intro z;exact⟨z,[],rfl,rfl,rfl⟩
  | cons y l ih=>
   intro z
   refine gx (ih z) λx r e h1 h2=>?_
   refine⟨y,x::r,by rw[V8,e],h1,?_⟩
   show y::nI (x::r)=_
   rw[h2]
 exact h l z
theorem vf (hc:c<=1114111)(st:St)(K:Vd->Si):fv st 5 (cy c) K=K (.tuple [.str ⟨[32].toArray⟩,.str ⟨[c].toArray⟩]):=by
 show aD (aD (SV c 1114111) Se ll) (K (.tuple [.str ⟨[32].toArray⟩,.str ⟨[c].toArray⟩])) ll=_
 rw[bG hc];rfl
theorem Gq (hc:c<=1114111)(st:St)(k:Si->Si):kI (cy c) (.tup [.str [32],.str []]) st k=k Se:=by
 show fv st 5 (cy c) (λx=>fv st 5 (.tup [.str [32],.str []]) λy=>IY 7 x y λc=>k (ee c))=_
 exact(vf hc st _).trans rfl
def Sg (c:Nat):Prop:=33<=c/\c<=126
theorem An (h:Sg c):fR c=ll:=by
 obtain⟨h1,h2⟩:=h
 have e1:SD c 32=ll:=by cases e:SD c 32 with | false=>rfl | true=>have:=SK e;lia
 unfold fR
 rw[e1,bG (show 9<=c by lia),jE (show 13<c by lia),bG (show 28<=c by lia),jE (show 31<c by lia)];rfl
theorem pd:∀{cur:Sd Nat},(∀c∈cur,Sg c)->gu (λc=>SV c 127) (cm cur)=Se
 | [],_=>rfl
 | c::r,h=>by
  show aD (SV c 127) (gu (λc=>SV c 127) (cm r)) ll=Se
  refine tb (g8 (bG (by have:=(h c (.head _)).2;lia))) ?_
  exact pd λx m=>h x (.tail _ m)
theorem lW:∀{cur:Sd Nat},(∀c∈cur,Sg c)->gu (λc=>SV c 127) cur=Se
 | [],_=>rfl
 | c::r,h=>by
  show aD (SV c 127) (gu (λc=>SV c 127) r) ll=Se
  refine tb (g8 (bG (by have:=(h c (.head _)).2;lia))) ?_
  exact lW λx m=>h x (.tail _ m)
theorem xG (h:∀c∈cur,Sg c):aD (iN (cm cur)) (gu fR (cm cur)) ll=ll:=by
 induction cur with
 | nil=>rfl
 | cons c r=>
  show aD (fR c) (gu fR (cm r)) ll=ll
  rw[An (h c (.head _))];rfl
theorem qD {a b:Nat}(s:St)(k:Si->Si):iu (ak a) (ak b) s k=k (SD a b):=rfl
theorem D9 (h:∀c∈cur,Sg c) (k:KV):nu (.str (cm cur)) [] s k=k (.bool ll) s:=by
 show aD (gu (λc=>SV c 127) (cm cur)) (k (.bool (aD (iN (cm cur)) (gu fR (cm cur)) ll)) s) ll=_
 rw[pd h,xG h];rfl
theorem qM (b:Si)(s:St)(k:Si->Si):iT (.bool b) s k=k b:=rfl
section
variable {s0 st:St}{pg nl na d da M i:Nat}{L:List (List Nat)}{cur:List Nat}
theorem Qq (G:Pg s0 st pg nl na d da M i L (cur++[c]))(hs:cur.length<=4000):FL KL [.ref na] st (cy c) s0 pg nl na d da M i L cur:=by
 refine gx (QL (cur.map cy) (cy c)) λx r e e1 e2=>?_
 obtain⟨s1,h1,G1,_⟩:=G.setAc i cur (q:=nI (x::r)) (fs:=[(11,ak i)]) rfl e2
 have hm:(cur++[c]).map cy=x::r:=Vl.trans e
 have hl:(x::r).length=cur.length+1:=by rw[←hm,S0,SU];rfl
 have ac:st.look na=Sa (.lsub 2 da [(11,ak i)] (x::r)):=hm▸G.ac
 have hl':(x::r).length<=4095:=by rw[hl];exact Sk (TQ hs) (bo rfl)
 refine⟨s1,?_,G1⟩
 delta KL Qo EL Fb
 exact JY rfl (λ_=>rfl) (aJ (ja (bN (fS (ah rfl) ac dA (Ah ac hl')) az (qD (b:=0) _))) (bk (iz (v:=cy c) (λ_=>(St.get_of ac _).trans ((qJ hl').trans ((h1 _).trans (by rw[e1])))))))
theorem Iq (h:st.look na=Sa (xX da i cur))(hs:i+2*cur.length<=4095)(hne:1<=cur.length)(K:Si->St->Si):eM (.ref na) st K=K Se st:=by
 refine(St.get_of h _).trans ((nP h hs _).trans ?_)
 refine bH (SW (show 1<=i+2*cur.length by lia)) λm hm=>?_
 show K (ee (SD (i+2*cur.length) 0)) st=_
 rw[hm];rfl
theorem Nx (G:Pg s0 st pg nl na d da M i L cur)(hne:1<=cur.length)(hs:i+2*cur.length<=4000)(hg:∀c∈cur,Sg c):qK Ou [.ref na] st (.bool ll) st:=by
 have hs':=Sk hs (show 4000<=4095 by decide)
 delta Ou HH FB
 refine JY rfl (λ_=>rfl) (bk (iz (GG (c:=SD i 0) (Bx (Iu (ah rfl) G.ac λ_=>rfl) az (qD (b:=0) _)) (qM _ _) rfl λ_=>?_)))
 exact Lp (c:=ll) (HJ (ah rfl) (Iq G.ac hs' hne)) (qM _ _) λ_=>nk (gM (aT (ah rfl)) (mn G.ac (Sk (TK _ _) hs'))) dA (D9 hg)
theorem QB (G:Pg s0 st pg nl na d da M i L (cur++[c]))(hs:i+2*cur.length<=3000)(hg:∀x∈cur++[c],Sg x)(hL:L.length<=4000):FL F8 [.ref pg] st .none s0 pg nl na d da M 0 (L++[cm (cur++[c])]) []:=by
 have hcl:cur.length<=3000:=by lia
 obtain⟨s1,h1,G1⟩:=Qq G (Sk hcl (by decide))
 obtain⟨s2,h2,G2⟩:=BB G1 c (Sk hcl (by decide))
 have hlen:(cur++[c]).length=cur.length+1:=SU
 refine fF (wm G2 (Sk hL (by decide)) (cm (cur++[c]))) λs3 h3 G3 _=>?_
 obtain⟨s4,h4,G4⟩:=HB G3 (by rw[hlen];exact Sk (TQ hcl) (by decide))
 have hs2:i+2*(cur++[c]).length<=3002:=by rw[hlen];lia
 have hc1:1<=(cur++[c]).length:=by rw[hlen];exact TK _ _
 refine⟨s4,?_,G4⟩
 delta F8 c8 My KN Ob LX
 exact pA rfl (λ_=>rfl) (aJ (aU (fS (cD (ah rfl) G.at1 λ_=>rfl) G.ac dA h1) (aN rfl))
  (aJ (iQ (bN (ah rfl) (pk (be az (aT az))) (Gq (Sk (hg c (Y5 _ (.head _))).2 (by decide)) _)) (bk (cX (fS (cD (ah rfl) G1.at1 λ_=>rfl) G1.ac (AV (ah rfl) rfl) h2))))
   (aJ (iQ (bN (gM (aT (cD (ah rfl) G2.at1 λ_=>rfl)) (mS G2.ac (Sk hs2 (by decide)))) az (Jk (b:=0) (Sx hc1 (Sk (Nat.le_mul_of_pos_left _ (by decide)) (TK _ _)))))
     (bk (vQ (BW (zt (fS (cD (ah rfl) G2.at1 λ_=>rfl) G2.ac dA (Nx G2 hc1 (Sk hs2 (by decide)) hg)) (uo _ _)))
      (bk (cX (AU (cD (ah rfl) G2.at1 λ_=>rfl) G2.ln (aT (gM (aT (cD (ah rfl) G2.at1 λ_=>rfl)) (mn G2.ac (Sk (TK _ _) (Sk hs2 (by decide)))))) h3))))))
    (bk (cX (fS (cD (ah rfl) G3.at1 λ_=>rfl) G3.ac dA h4))))))
theorem lM (K:Sd (Sd Nat)->Si):∀L:Sd (Sd Nat),dY dB (L.map V.str) K=K L
 | []=>rfl
 | c::r=>by
  show dY dB (r.map V.str) (λq=>K (c::q))=_
  rw[lM _ r]
theorem Ni (G:Pg s0 st pg nl na d da M i L (cur++[c]))(hs:i+2*cur.length<=3000)(hg:∀x∈cur++[c],Sg x)(hL:L.length<=4000)(hj:(bP [10] (L++[cm (cur++[c])])).length<=4095):FL F7 [.ref pg,.str [10]] st (.str (bP [10] (L++[cm (cur++[c])]))) s0 pg nl na d da M 0 (L++[cm (cur++[c])]) []:=by
 obtain⟨s1,h1,G1⟩:=QB G hs hg hL
 refine⟨s1,?_,G1⟩
 delta F7 c7 Jr KS
 exact JY rfl (λ_=>rfl) (aJ (cX (qi (ah rfl) G.at1 dA h1)) (bk (iz (nk (ah rfl) (aT (cD (ah rfl) G1.at1 λ_=>rfl)) λ_=>(bj G1.ln _).trans ((lM ..).trans ((qJ (l:=[10]) (by decide)).trans (qJ hj)))))))
end
theorem u6 (s:St)(k:KV):dU [.str [32]] s k=k (ak 1) s:=rfl
theorem Hv {b:Nat}(h:b<=1000)(st:St)(k:KV):bF (.int 2) (ak b) st k=k (ak (2*b)) st:=lP (a:=2) (by lia) (by lia)
theorem SetFu.self {s':St}(l:∀j,s'.look j=if j=i then Sa o else s.look j):s'.look i=Sa o:=(l i).trans (SR rfl)
theorem SetFu.old {s':St}(l:∀j,s'.look j=if j=i then Sa o else s.look j) (h:j≠i){q:SP O}(e:s.look j=q):s'.look j=q:=(l j).trans ((Sz h).trans e)
inductive JJ (s0 st:St)(p d M i:Nat):Prop
 | mk (s':St) (nl na da:Nat) (e:qK F6 [.ref p,ak i,ak M,.str [32],.str [32]] st .none s') (G:Pg s0 s' p nl na d da M i [] [])
inductive P0 (st:St)(a i:Nat)(da:Nat):Prop
 | mk (s':St) (e:qK Kd [.ref a,ak i] st .none s') (F:s'.Fu) (n:s'.n=st.n) (l:∀j,s'.look j=if j=a then Sa (.lsub 2 da [(11,ak i)] []) else st.look j)
theorem Qj (F:st.Fu){a da:Nat}(h4:4<=a)(h:st.look a=Sa (.lsub 2 da [] [])):P0 st a i da:=by
 obtain⟨s1,e1,f1,n1,l1⟩:=QU F h h4 11 (ak i) (Td _)
 have a1:s1.look a=Sa (.lsub 2 da [(11,ak i)] []):=SetFu.self l1
 obtain⟨s2,e2,f2,n2,l2⟩:=ib f1 h4 (St.lt f1 a1) (.lsub 2 da [(11,ak i)] [])
 refine⟨s2,?_,f2,n2.trans n1,λj=>?_⟩
 ·delta Kd LF Fe FH
  exact pA rfl (λ_=>rfl) (aJ (aU (ah rfl) (cR (ah rfl) e1)) (bk (cX λ_=>(St.get_of a1 _).trans (e2 _))))
 ·rw[l2]
  by_cases q:j=a
  ·rw[SR q,SR q]
  ·rw[Sz q,Sz q,l1,Sz q]
theorem Lc {p M:Nat}(X:Ext s0 st)(h4:4<=s0.n)(hp:st.look p=Sa (.inst 1 d []))(hlo:s0.n<=p):JJ s0 st p d M i:=by
 have hpn:=St.lt X.fu hp
 have h4p:=Sk h4 hlo
 obtain⟨s3,e3,f3,n3,l3⟩:=yj X.fu hp h4p 5 (ak M) (Td _)
 obtain⟨s4,e4,f4,n4,l4⟩:=yj f3 (SetFu.self l3) h4p 6 (.str [32]) (show 1<=100 by decide)
 obtain⟨s5,e5,f5,n5,l5⟩:=yj f4 (SetFu.self l4) h4p 7 (ak 1) (show 2<=100 by decide)
 obtain⟨s6,e6,f6,n6,l6⟩:=yj f5 (SetFu.self l5) h4p 8 (.str [32]) (show 3<=100 by decide)
 have X6:Ext s0 s6:=((((X.set f3 n3 hlo l3).set f4 n4 hlo l4).set f5 n5 hlo l5).set f6 n6 hlo l6)
 have h6:p<s6.n:=by rw[n6,n5,n4,n3];exact hpn
 obtain⟨s7,e7,f7,n7,l7⟩:=dM f6 (.list [])
 obtain⟨s8,e8,f8,n8,l8⟩:=yj f7 (SetFu.old l7 (SJ h6) (SetFu.self l6)) h4p 9 (.ref s6.n) (show 4<=100 by decide)
 have n86:s8.n=s6.n+1:=n8.trans n7
 have X8:Ext s0 s8:=(X6.push f7 n7 l7).set f8 n8 hlo l8
 obtain⟨s9,e9,f9,n9,l9⟩:=dM f8 .hid
 obtain⟨s10,e10,f10,n10,l10⟩:=dM f9 (.lsub 2 s8.n [] [])
 have hn9:s0.n<=s9.n:=by rw[n9];exact Vp X8.n
 obtain⟨s12,hF,f12,n12,l12⟩:=Qj f10 (i:=i) (Sk h4 hn9) (SetFu.self l10)
 have h69:s6.n<s9.n:=by rw[n9,n86];exact Th (SX _)
 have old:∀{j:Nat} {q:SP O},j<s8.n->s8.look j=q->s12.look j=q:=λ{j q} h e=>by
  have h9:j<s9.n:=n9▸Th h
  exact SetFu.old l12 (SJ h9) (SetFu.old l10 (SJ h9) (SetFu.old l9 (SJ h) e))
 have h68:s6.n<s8.n:=n86▸SX _
 have q12:s12.look s6.n=Sa (.list []):=old h68 (SetFu.old l8 (Tu h6) (SetFu.self l7))
 obtain⟨s13,e13,f13,n13,l13⟩:=yj f12 (old (SH h6 h68) (SetFu.self l8)) h4p 10 (.ref s9.n) (show 5<=100 by decide)
 have X13:Ext s0 s13:=((((X8.push f9 n9 l9).push f10 n10 l10).set f12 n12 hn9 l12).set f13 n13 hlo l13)
 refine⟨s13,s6.n,s9.n,s8.n,?_,X13,SetFu.self l13,SetFu.old l13 (Tu h6) q12,SetFu.old l13 (Tu (SH h6 h69)) (SetFu.self l12),⟨h4,hlo,X6.n,hn9⟩,SJ (SH h6 h69),SJ h6,SJ h69⟩
 delta F6 c6 Lr Lk J2 JW NX MM
 exact pA rfl (λ_=>rfl) (aJ (aU (ah rfl) (cR (ah rfl) e3)) (aJ (aU (ah rfl) (cR (ah rfl) e4)) (aJ (aU (gM (aT (ah rfl)) (u6 _)) (cR (ah rfl) e5))
  (aJ (aU (ah rfl) (cR (ah rfl) e6)) (aJ (aU (dX dA e7) (cR (ah rfl) e8)) (bk (aU (zX (aT (ah rfl)) e9 e10 hF) (cR (ah rfl) e13))))))))
inductive Na (fm:Fm)(st:St)(ring head:Nat):Prop
 | mk (s':St) (pg nl na d da:Nat) (e:gT B8 fm st .nxt ⟨yX fm.loc (.ref pg) 4,fm.cel⟩ s') (G:Pg st s' pg nl na d da (2*ring) (2*head) [] [])
theorem K4 (F:st.Fu)(h4:4<=st.n){head:Nat}(hr:ring<=1000)(hh:head<=1000)(h1:uX fm.loc 1=Sa (ak ring))(h2:uX fm.loc 2=Sa (ak head))(hi:wI fm.loc 4=Se):Na fm st ring head:=by
 obtain⟨s1,e1,f1,n1,l1⟩:=dM F .hid
 obtain⟨s2,e2,f2,n2,l2⟩:=dM f1 (.inst 1 st.n [])
 have X1:Ext st s1:=(Ext.refl F).push f1 n1 l1
 obtain⟨s3,nl,na,da,e3,G⟩:=Lc (M:=2*ring) (i:=2*head) (X1.push f2 n2 l2) h4 (p:=s1.n) (d:=st.n) (SetFu.self l2) X1.n
 refine⟨s3,s1.n,nl,na,st.n,da,?_,G⟩
 delta B8
 exact aU (zX (be (bd az (ah h2) (Hv hh _)) (be (bd az (ah h1) (Hv hr _)) (be az (aT az)))) e1 e2 e3) (aN hi)
noncomputable def fP (ring:Nat):Nat->Sd Nat->Sd Nat->Sd (Sd Nat)
 | _,cur,[]=>[cur]
 | c0,cur,c::r=>if c0+cur.length+1<=ring then fP ring c0 (cur++[c]) r else cur::fP ring 0 [c] r
noncomputable section
abbrev La:Nat->CF:=dO (em (aw ll 5)) (aq (dI (bz 1 F9 (aa ll 4) (ae (ao (.str [32])) (ae (aa ll 5) av)))) aH) aH
noncomputable abbrev LM (a0 a1 a2 a3:OV)(pg:Nat)(o5 o6:OV):Fm:=⟨[a0,a1,a2,a3,Sa (.ref pg),o5,o6],[]⟩
end
inductive Jw (s0 st:St)(pg nl na d da ring c0:Nat)(L:Sd (Sd Nat))(cur signs:Sd Nat)(a0 a1 a2 a3 o5 o6:OV)(n:Nat):Prop
 | mk (s':St) (c0':Nat) (L':Sd (Sd Nat)) (cur':Sd Nat) (c:Nat) (o':OV) (e:CM (La n) (LM a0 a1 a2 a3 pg o5 o6) (.str signs) st .nxt (LM a0 a1 a2 a3 pg o' o6) s')
  (G:Pg s0 s' pg nl na d da (2*ring) (2*c0') L' (cur'++[c])) (g:∀x∈cur'++[c],Sg x) (le:c0'+cur'.length<=ring) (rows:L'++[cm (cur'++[c])]=L++(fP ring c0 cur signs).map cm) (len:L'.length<=L.length+signs.length)
theorem Dq {P:α->Prop}{l:Sd α}{c:α}(h:∀x∈l,P x)(hc:P c):∀x∈l++[c],P x:=λx m=>(Tf.mp m).elim (h x) λm=>Sj.mp m▸hc
theorem JC {pg na da:Nat}(hr:ring<=40){a0 a1 a2 a3 o6:OV}(signs:Sd Nat):∀{st:St}{c0:Nat}{L:Sd (Sd Nat)}{cur:Sd Nat}{n:Nat}{o5:OV},Pg s0 st pg nl na d da (2*ring) (2*c0) L cur->(∀c∈signs,Sg c)->(∀c∈cur,Sg c)->c0+cur.length<=ring->(cur=[]->c0<ring)->(cur=[]->signs≠[])->signs.length<n->L.length+signs.length<=4000 ->
  Jw s0 st pg nl na d da ring c0 L cur signs a0 a1 a2 a3 o5 o6 n:=by
 induction signs with
 | nil=>
  intro st c0 L cur n o5 G hg hgc hle h0 h1 hn hL
  refine bH (SW hn) λn e81=>?_;subst e81
  have hne:cur≠[]:=λe=>h1 e rfl
  have e:=Sd.dropLast_concat_getLast hne
  exact⟨st,c0,L,cur.dropLast,cur.getLast hne,o5,mA (λ_ _=>rfl) pZ,e.symm▸G,e.symm▸hgc,Sk (Ts (Sd.length_dropLast▸W7 _ _) _) hle,by rw[e];rfl,SQ _⟩
 | cons c r ih=>
  intro st c0 L cur n o5 G hg hgc hle h0 h1 hn hL
  refine bH (SW hn) λn e81=>?_;subst e81
  have hg':∀x∈r,Sg x:=λx m=>hg x (.tail _ m)
  have hc:=hg c (.head _)
  have hn':r.length<r.length+1+n:=Sx (SX _) (S9 _ _)
  by_cases hf:c0+cur.length+1<=ring
  ·obtain⟨s1,e1,G1⟩:=G8 G c (by lia) (by lia)
   obtain⟨s',c0',L',cur',c',o',a,b,cc,dd,e,f⟩:=ih (n:=n+(r.length+1)) (o5:=Sa (.str [c])) G1 hg' (Dq hgc hc) (by rw[SU];exact hf) (λq=>by simp at q) (λq=>by simp at q) (by lia) (Sk (TV _) hL)
   exact⟨s',c0',L',cur',c',o',we (λ_ _=>rfl) (aN rfl) (bk (cX (qi (ah rfl) G.at1 (be az (aT (ah rfl))) e1))) a,b,cc,dd,by rw[e];simp only[fP,SR hf],Sk f (TV _)⟩
  ·have hne:1<=cur.length:=match cur,h0,hf with
    | [],h0,hf=>S8 (h0 rfl) hf
    | _::_,_,_=>TK _ _
   obtain⟨s1,e1,G1⟩:=Jx G c hne (by lia) (by lia) (by lia) (by lia)
   obtain⟨s',c0',L',cur',c',o',a,b,cc,dd,e,f⟩:=ih (n:=n+(r.length+1)) (o5:=Sa (.str [c])) (c0:=0) (L:=L++[cm cur]) (cur:=[c]) G1 hg' (λx m=>Sj.mp m▸hc) (show 0+1<=ring by lia) (λq=>nomatch q) (λq=>nomatch q) (by lia) (by rw[SU];exact(Wo _ 1 _)▸hL)
   exact⟨s',c0',L',cur',c',o',we (λ_ _=>rfl) (aN rfl) (bk (cX (qi (ah rfl) G.at1 (be az (aT (ah rfl))) e1))) a,b,cc,dd,by rw[e];simp only[fP,Sz hf,Tt,UZ,Y6],by rw[SU] at f;exact Sk f (T7 (Wo _ 1 _))⟩
theorem jZ:∀(signs:Sd Nat)(c0:Nat)(cur:Sd Nat),(fP ring c0 cur signs).flatten=cur++signs
 | [],c0,cur=>by simp[fP]
 | c::r,c0,cur=>by
  unfold fP
  split
  ·rw[jZ r];simp
  ·rw[TC,jZ r];simp
theorem mO {ring:Nat}:∀(signs:Sd Nat)(c0:Nat)(cur:Sd Nat),(fP ring c0 cur signs).length<=signs.length+1
 | [],c0,cur=>by simp[fP]
 | c::r,c0,cur=>by
  unfold fP
  split
  ·have:=mO (ring:=ring) r c0 (cur++[c]);simp only[Tc];lia
  ·have:=mO (ring:=ring) r 0 [c];simp only[Tc];lia
theorem qL:∀R:Sd (Sd Nat),(bP [10] (R.map cm)).length<=2*R.flatten.length+R.length
 | []=>Td _
 | [w]=>by
  show(cm w).length<=_
  rw[ft];simp
 | w::v::r=>by
  have ih:=qL (v::r)
  show(bp (cm w) (bp [10] (bP [10] ((v::r).map cm)))).length<=_
  rw[bf,bf,SU,SU,ft,TC,SU,Tc (a:=w)]
  simp only[VS]
  lia
theorem on:∀(w:Sd Nat),(∀c∈w,c≠10)->bQ 10 w=[w]
 | [],_=>rfl
 | x::w,h=>by
  have hx:SD x 10=ll:=by cases e:SD x 10 with | false=>rfl | true=>exact S8 (SK e) (h x (.head _))
  show @Te (λ_=>Sd (Sd Nat)) (@SZ (Sd Nat) (λ_=>Sd (Sd Nat)) [[x]] (λw ws _=>(x::w)::ws) (bQ 10 w)) ([]::bQ 10 w) (SD x 10)=_
  rw[hx,on w λc m=>h c (.tail _ m)]
theorem uB:∀(w l:Sd Nat),(∀c∈w,c≠10)->bQ 10 (w++10::l)=w::bQ 10 l
 | [],l,_=>rfl
 | x::w,l,h=>by
  have hx:SD x 10=ll:=by cases e:SD x 10 with | false=>rfl | true=>exact S8 (SK e) (h x (.head _))
  show @Te (λ_=>Sd (Sd Nat)) (@SZ (Sd Nat) (λ_=>Sd (Sd Nat)) [[x]] (λw ws _=>(x::w)::ws) (bQ 10 (w++10::l))) ([]::bQ 10 (w++10::l)) (SD x 10)=_
  rw[hx,uB w l λc m=>h c (.tail _ m)]
theorem lO:∀(R:Sd (Sd Nat)),R≠[]->(∀w∈R,∀c∈w,c≠10)->bQ 10 (bP [10] R)=R
 | [],h,_=>S8 rfl h
 | [w],_,h=>on w (h w (.head _))
 | w::v::r,_,h=>by
  show bQ 10 (bp w (bp [10] (bP [10] (v::r))))=_
  rw[bf,bf]
  show bQ 10 (w++10::bP [10] (v::r))=_
  rw[uB w _ (h w (.head _)),lO (v::r) (by simp) λx m=>h x (.tail _ m)]
theorem Ak (h:∀c∈cur,Sg c):∀c∈cm cur,c≠10:=by
 intro c m
 refine aE (Sd.mem_flatMap.mp m) λx mx hx=>?_
 have:=(h x mx).1
 simp at hx
 rcases hx with rfl | rfl <;> lia
theorem yZ:∀R:Sd (Sd Nat),bP [] R=R.flatten
 | []=>rfl
 | [w]=>by show w=_;simp
 | w::v::r=>by
  show bp w (bp [] (bP [] (v::r)))=_
  rw[bf,bf,yZ (v::r)];simp
theorem wF:∀cur:Sd Nat,kR (cm cur) ll=cur
 | []=>rfl
 | c::r=>by
  show c::kR (cm r) ll=_
  rw[wF r]
noncomputable def bM:Nat->Sd Nat->Sd Nat
 | _,[]=>[]
 | j,c::r=>if c=45 then bM (j+1) r else j::bM (j+1) r
noncomputable def eO (ring:Nat):Nat->Sd Nat->Sd Nat
 | _,[]=>[]
 | p,c::r=>if c=45 then eO ring (p+1) r else (p % ring)::eO ring (p+1) r
theorem fJ:∀(l r:Sd Nat)(j:Nat),bM j (l++r)=bM j l++bM (j+l.length) r
 | [],r,j=>by simp[bM]
 | c::l,r,j=>by
  simp only[V8,bM,Tc]
  rw[fJ l r (j+1),show j+1+l.length=j+(l.length+1) by lia]
  split <;> simp
theorem ik:∀(n j:Nat),bM j (Sq n 45)=[]
 | 0,_=>rfl
 | n+1,j=>by
  show bM j (45::Sq n 45)=_
  simp only[bM,SR];exact ik n (j+1)
theorem m0:∀(l:Sd Nat)(p:Nat),eO ring (p+ring) l=eO ring p l
 | [],_=>rfl
 | c::r,p=>by
  simp only[eO]
  rw[show p+ring+1=p+1+ring by lia,m0 r,Nat.add_mod_right]
noncomputable def fk (c0:Nat):Sd (Sd Nat)->Sd Nat
 | []=>[]
 | r0::rest=>bM 0 (Sq c0 45++r0)++rest.flatMap (bM 0)
theorem u9 (R:Sd (Sd Nat)):fk 0 R=R.flatMap (bM 0):=by induction R <;> simp[fk]
theorem j0 (hr:1<=ring):∀(signs:Sd Nat)(c0:Nat)(cur:Sd Nat),c0+cur.length<=ring->fk c0 (fP ring c0 cur signs)=bM c0 cur++eO ring (c0+cur.length) signs
 | [],c0,cur,_=>by
  simp only[fP,fk,eO]
  rw[fJ,ik];simp
 | c::r,c0,cur,h=>by
  unfold fP
  split
  ·rename_i hf
   rw[j0 hr r c0 (cur++[c]) (by simp;omega),fJ,SU,VS,←Yh]
   simp only[eO,bM]
   by_cases e:c=45
   ·rw[SR e,SR e];simp
   ·rw[Sz e,Sz e,Nat.mod_eq_of_lt (by lia)];simp
  ·rename_i hf
   have ih:=j0 hr r 0 [c] (by simp;omega)
   rw[u9] at ih
   simp only[fk]
   rw[ih,fJ,ik]
   have hp:c0+cur.length=ring:=by lia
   rw[hp]
   simp only[eO,bM]
   rw[show ring+1=1+ring by lia,m0 r,Nat.mod_self]
   by_cases e:c=45
   ·rw[SR e,SR e];simp
   ·rw[Sz e,Sz e];simp
noncomputable def d7 (step:Nat):Nat->Nat->Sd (Sd Nat)
 | _,0=>[]
 | k,n+1=>(Sq (step - 1) 45++[98+k])::d7 step (k+1) n
theorem tV:∀(m p:Nat)(r:Sd Nat),eO ring p (Sq m 45++r)=eO ring (p+m) r
 | 0,p,r=>by simp
 | m+1,p,r=>by
  show eO ring p (45::(Sq m 45++r))=_
  simp only[eO,SR]
  rw[tV m,show p+1+m=p+(m+1) by lia]
theorem md {step:Nat}(h1:1<=step):∀(n k p:Nat),eO ring (p+1) (d7 step k n).flatten=(Ul n).map λj=>(p+(j+1)*step) % ring
 | 0,_,_=>rfl
 | n+1,k,p=>by
  simp only[d7,TC]
  rw[UZ,tV,Y6]
  simp only[eO]
  rw[Sz (by lia),show p+1+(step - 1)=p+step by lia,md h1 n (k+1) (p+step),WR,Tt,T9]
  congr 1
  ·simp
  ·apply U5
   intro j _
   simp only[aaM]
   congr 1
   simp only[Nat.succ_eq_add_one,Nat.add_mul];lia
theorem jO {step:Nat}(h1:1<=step):∀(n k:Nat),(d7 step k n).flatten.length=n*step
 | 0,_=>by simp[d7]
 | n+1,k=>by
  simp only[d7,TC,SU,TN,VS]
  rw[jO h1 n,Nat.add_mul];lia
theorem uy {step:Nat}:∀(n k:Nat),k+n<=20->∀c∈(d7 step k n).flatten,Sg c
 | 0,_,_,c,m=>by simp[d7] at m
 | n+1,k,h,c,m=>by
  simp only[d7,TC,Tf] at m
  rcases m with (m | m) | m
  ·rw[(Z2.mp m).2];exact⟨by lia,by lia⟩
  ·rw[Sj.mp m];exact⟨by lia,by lia⟩
  ·exact uy n (k+1) (by lia) c m
theorem yi {step head:Nat}(h1:1<=step)(hr:1<=ring)(hh:head<ring):fk head (fP ring head [] (97::(d7 step 0 many).flatten))=(Ul (many+1)).map λj=>(head+j*step) % ring:=by
 rw[j0 hr _ _ _ (by simp;lia)]
 simp only[bM,Xv,VI,Nat.add_zero,eO]
 rw[Sz (by lia),md h1,WR,Tt,T9]
 congr 1
 simp
theorem po:∀{l:Sd α}{i:Nat}{k:α->Si}{z:Si},l.length<=i->getL l i k z=z
 | [],_,_,_,_=>rfl
 | x::l,0,_,_,h=>by simp at h
 | x::l,i+1,k,z,h=>po (l:=l) (by simpa using h)
theorem mG {j:Int} (h:st.look t=Sa (.list l))(e:l[i]? = Sa v)(k:du->It->Si):aY st (.enS j t i) stop k=k (.pair (.int j) v) (.enS (gB j 1) t (i+1)):=
 (bj h _).trans (eT e)
theorem kM {j:Int} (h:st.look t=Sa (.list l))(e:l.length<=i)(k:du->It->Si):aY st (.enS j t i) stop k=stop:=
 (bj h _).trans (po e)
theorem vA (h:st.look t=Sa (.list l))(e:l[i]? = Sa v)(k:du->It->Si):aY st (.seq t i) stop k=k (.v v) (.seq t (i+1)):=
 (bj h _).trans (eT e)
theorem tG (h:st.look t=Sa (.list l))(e:l.length<=i)(k:du->It->Si):aY st (.seq t i) stop k=stop:=
 (bj h _).trans (po e)
theorem uN {a b:Nat}(h:a≠b):SD a b=ll:=by
 cases q:SD a b with
 | false=>rfl
 | true=>exact S8 (SK q) h
theorem vY (c n:Nat):cw [c] n=Sq n c:=by
 rw[gG]
 induction n with
 | zero=>rfl
 | succ n ih=>rw[TH,TC,ih];rfl
theorem sy {x:Sd Nat} (hn:n<=4095)(h:x.length*n<=4095)(s:St)(k:KV):bF (.str x) (ak n) s k=k (.str (cw x n)) s:=by
 show aD (small (.ofNat n)) (aD (aB (XD (aK x) n)) (k (.str (cw x n)) s) ll) ll=_
 rw[bU (by lia),aC,show aB (XD x.length n)=Se from bG h];rfl
theorem mz {x y:Sd Nat}(h:x.length+y.length<=4095)(s:St)(k:KV):aQ (.str x) (.str y) s k=k (.str (x++y)) s:=by
 show aD (aB (Zu (aK x) (aK y))) (k (.str (bp x y)) s) ll=_
 rw[aC,aC,show aB (Zu x.length y.length)=Se from bG h,bf];rfl
theorem ML (k:Nat)(s:St)(K:KV):aQ (.int 98) (.int (.ofNat k)) s K=K (ak (98+k)) s:=rfl
theorem IS (h1:97<=c)(h2:c<=122)(s:St)(K:KV):DW [ak c] s K=K (.str [c]) s:=by
 show aD (SV 97 c) (aD (SV c 122) (K (.str [c]) s) ll) ll=_
 rw[bG h1,bG h2];rfl
noncomputable section
abbrev Nr:CE:=aA aQ (aA bF (ao (.str [45])) (aA cj (aa ll 2) (ao (.int 1)))) (gv DW (ae (aA aQ (ao (.int 98)) (aa ll 1)) av))
abbrev Nz:Nat->CC:=bw (yS (aw ll 1) (aw ll 2)) cA (gt Nr)
end
theorem HT {step:Nat}(ht:st.look t=Sa (.list (Sq many (ak step))))(h1:1<=step)(hs:step<=100)(hm:many<=20)(n:Nat) :
  ∀{k f:Nat} {o1 o2:OV},k+n=many->n<f->∃fm',yW (Nz f) ⟨[none,o1,o2],[]⟩ (.enS (.ofNat k) t k) st ((d7 step k n).map V.str) fm' st:=by
 induction n with
 | zero=>
  intro k f o1 o2 hk hf
  refine bH (SW hf) λf e81=>?_;subst e81
  exact⟨_,g9 λ_ _=>kM ht (by rw[TN];exact T7 hk.symm) _⟩
 | succ n ih=>
  intro k f o1 o2 hk hf
  refine bH (SW hf) λf e81=>?_;subst e81
  obtain⟨fm',h⟩:=ih (k:=k+1) (f:=f+n+1) (o1:=Sa (.int (.ofNat k))) (o2:=Sa (ak step)) (by lia) (by lia)
  have hk':k<many:=by lia
  refine⟨fm',rJ (λ_ _=>mG ht (v:=ak step) (by rw[Wz,SR hk']) _) (vI (aN rfl) (aN rfl)) mB
   (vZ (v:=.str (Sq (step - 1) 45++[98+k])) (vY 45 (step - 1)▸bd (bd az (bd (ah rfl) az λ_=>ie (a:=step) (b:=1) h1) (sy (x:=[45]) (n:=step - 1) (by lia) (by simp;lia) _)) (gM (aT (bd az (ah rfl) (ML k _))) (IS (by lia) (by lia) _)) (mz (by rw[vY];simp;lia) _))) h⟩
theorem Ln {q:Nat}{R:Sd (Sd Nat)}(h:st.look q=Sa (.list (R.map V.str)))(hl:R.flatten.length<=4095)(k:KV):oG (.str []) [.ref q] st k=k (.str R.flatten) st:=by
 refine Eq.trans (EG ..) ?_
 refine Eq.trans (bj h _) ?_
 refine Eq.trans (lM ..) ?_
 refine Eq.trans (qJ (l:=([]:Sd Nat)) (by simp)) ?_
 refine Eq.trans (qJ (l:=bP [] R) (by rw[yZ];exact hl)) ?_
 rw[yZ]
inductive HZ (fm:Fm)(st:St)(step many:Nat):Prop
 | mk (s':St) (e:gT AD fm st .nxt ⟨yX fm.loc (.str (97::(d7 step 0 many).flatten)) 3,fm.cel⟩ s') (X:Ext st s')
theorem HE (F:st.Fu){step:Nat}(h0:uX fm.loc 0=Sa (.ref t))(h3:wI fm.loc 3=Se)(ht:st.look t=Sa (.list (Sq many (ak step))))(h1:1<=step)(hs:step<=10)(hm:many<=20):HZ fm st step many:=by
 have hml:∀n k,((d7 step k n).map V.str).length=n:=by
  intro n
  induction n with
  | zero=>exact λ_=>rfl
  | succ n ih=>exact λk=>SO Tv (ih (k+1))
 obtain⟨s1,e1,f1,n1,l1⟩:=dM F (.list ((d7 step 0 many).map V.str))
 have hlen:=jO h1 many 0
 have hb:many*step<=200:=Nat.mul_le_mul hm hs
 have hb':=Sk (hlen▸hb) (show 200<=4094 by decide)
 obtain⟨fm',h⟩:=HT ht h1 (Sk hs (by decide)) hm many (k:=0) (f:=200) (o1:=none) (o2:=none) (V9 _) (Tg hm (by decide))
 refine⟨s1,?_,(Ext.refl F).push f1 n1 l1⟩
 delta AD
 exact aU (bd az (nk az (aT (lC (λ_=>rfl) (wi (ah h0) ht) h (by rw[hml];exact Sk hm (by decide)) e1)) (Ln (R:=d7 step 0 many) ((l1 _).trans (SR rfl)) (Vp hb'))) (mz (x:=[97]) (Sk (T7 (Z4 1 _)) (TQ hb')) _)) (aN h3)
theorem wv (c:Nat)(s:St)(k:Si->Si):kI (.str [c]) (.str [45]) s k=k (ee (SD c 45)):=by
 show k (ee (CQ [c] [45]))=_
 rw[xo]
noncomputable section
abbrev R4:Nat->CC:=bw (yS (aw ll 2) (aw ll 3)) (bR kI (aa ll 3) (ao (.str [45]))) (gt (aa ll 2))
abbrev PF:CB:=IZ (lK (Df (aa ll 1))) (yS (aw ll 2) (aw ll 3)) (bR kI (aa ll 3) (ao (.str [45]))) (gt (aa ll 2))
abbrev Pa:Nat->CC:=bw (em (aw ll 1)) cA PF
end
theorem RS {o0 o1:OV}(l:Sd Nat):∀{j n:Nat}{o2 o3:OV},l.length<n->∃b2 b3,yW (R4 n) ⟨[o0,o1,o2,o3],[]⟩ (.enT (.ofNat j) l) st ((bM j l).map ak) ⟨[o0,o1,b2,b3],[]⟩ st:=by
 induction l with
 | nil=>
  intro j n o2 o3 h
  obtain⟨n,rfl⟩:=SW h
  exact⟨_,_,g9 λ_ _=>rfl⟩
 | cons c r ih=>
  intro j n o2 o3 h
  obtain⟨n,rfl⟩:=SW h
  refine uK (ih (j:=j+1) (n:=n+(r.length+1)) (o2:=Sa (.int (.ofNat j))) (o3:=Sa (.str [c])) (Sx (SX _) (TK _ _))) λb2 b3 e=>?_
  refine⟨b2,b3,?_⟩
  unfold bM
  by_cases q:c=45
  ·rw[SR q]
   exact E2 (λ_ _=>rfl) (vI (aN rfl) (aN rfl)) (bN (ah rfl) az λk=>(wv c _ k).trans (by rw[q];rfl)) e
  ·rw[Sz q]
   exact rJ (λ_ _=>rfl) (vI (aN rfl) (aN rfl)) (bN (ah rfl) az λk=>(wv c _ k).trans (by rw[uN q];rfl)) (vZ (ah rfl)) e
theorem PK {q:Nat}{R:Sd (Sd Nat)}(hq:st.look q=Sa (.list (R.map λr=>V.str (cm r))))(hg:∀r∈R,(∀c∈r,Sg c)/\r.length<=150){o0:OV}(l:Sd (Sd Nat)):∀{i n:Nat}{o1 o2 o3:OV},R.drop i=l->l.length<n->∃fm',yW (Pa n) ⟨[o0,o1,o2,o3],[]⟩ (.seq q i) st ((l.flatMap (bM 0)).map ak) fm' st:=by
 induction l with
 | nil=>
  intro i n o1 o2 o3 hd h
  refine bH (SW h) λn e81=>?_;subst e81
  exact⟨_,g9 λ_ _=>tG hq (by rw[S0];exact Xl.mp hd) _⟩
 | cons r l ih=>
  intro i n o1 o2 o3 hd h
  refine bH (SW h) λn e81=>?_;subst e81
  have hri:R[i]? = Sa r:=by rw[←Vk,hd];rfl
  have hd':R.drop (i+1)=l:=by rw[←WY,hd];rfl
  refine dH (hg r (Sp hri)) λhs hl=>?_
  refine uK (RS (st:=st) (o0:=o0) (o1:=Sa (.str (cm r))) r (j:=0) (n:=200) (o2:=o2) (o3:=o3) (Tg hl (bo rfl))) λb2 b3 hin=>?_
  refine bH (ih (i:=i+1) (n:=n+(l.length+1)) (o1:=Sa (.str (cm r))) (o2:=b2) (o3:=b3) hd' (Sx (SX _) (TK _ _))) λfm' e=>?_
  refine⟨fm',?_⟩
  rw[Sd.flatMap_cons,Vl,←bf]
  exact rJ (λ_ _=>vA hq (by rw[TG,hri];rfl) _) (qF (aN rfl)) mB (M8 (DC (GO (ah rfl) (by rw[aC,ft];exact bG (Sk (Xy 2 hl) (bo rfl))) (wF r)) (lW hs)) hin) e
theorem Ds {w:Sd Nat}(h:w.length<=4095)(s:St)(k:KV):vc (.str w) [.str [10]] s k=s.push (.list (fE .str (bQ 10 w))) λn s=>k (.ref n) s:=qJ (l:=w) h
theorem C7 {q:Nat}{x:V} (h:st.look q=Sa (.list (x::l)))(k:St->Si):mP (.ref q) (.int 0) v st k=st.set q (.list (v::l)) k:=by
 show bg st q (λl=>idx 0 (aK l) λj=>nB l j v λl=>st.set q (.list l) k)=_
 rw[bj h];rfl
theorem sP (head:Nat)(r:Sd Nat):cw [32,45] head++cm r=cm (Sq head 45++r):=by
 rw[gG]
 induction head with
 | zero=>rfl
 | succ n ih=>
  rw[TH,TH,TC,V8]
  show 32::45::((Sq n [32,45]).flatten++cm r)=32::45::cm (Sq n 45++r)
  rw[ih]
theorem EF {c0:Nat}{signs:Sd Nat}:fP ring c0 cur signs≠[]:=by
 induction signs generalizing c0 cur with
 | nil=>simp[fP]
 | cons c r ih=>
  unfold fP
  split
  ·exact ih
  ·simp
inductive Jy (st:St)(t ring step many head:Nat):Prop
 | mk (s':St) (q:Nat) (e:qK Ov [.ref t,ak ring,ak head] st (.ref q) s') (X:Ext st s') (n:st.n<=q) (l:s'.look q=Sa (.list (((Ul (many+1)).map λj=>(head+j*step) % ring).map ak)))
structure Ml (ring head:Nat)(signs:Sd Nat)(R:Sd (Sd Nat))(r0:Sd Nat)(rest:Sd (Sd Nat)):Prop where
 e:fP ring head [] signs=R
 c:R=r0::rest
 g:∀r∈(Sq head 45++r0)::rest,(∀c∈r,Sg c)/\r.length<=150
 l:r0.length<=signs.length
 n:rest.length<=120
 s:bQ 10 (bP [10] (R.map cm))=R.map cm
 j:(bP [10] (R.map cm)).length<=4095
theorem KZ {head:Nat}{signs:Sd Nat}(hsg:∀c∈signs,Sg c)(hl:signs.length<=106)(hh:head<=40):∃R r0 rest,Ml ring head signs R r0 rest:=by
 have hff:=jZ (ring:=ring) signs head []
 rw[Xv] at hff
 have hfl:=mO (ring:=ring) signs head []
 have hjl:=qL (fP ring head [] signs)
 have hne:=EF (ring:=ring) (c0:=head) (cur:=[]) (signs:=signs)
 generalize hfeed:fP ring head [] signs=R at *
 rw[hff] at hjl
 have hrow:∀r∈R,(∀c∈r,Sg c)/\r.length<=signs.length:=λr m=>by
  refine⟨λc mc=>hsg c (by rw[←hff];exact Sd.mem_flatten.mpr ⟨r,m,mc⟩),?_⟩
  have:r.length<=R.flatten.length:=by
   refine uK (Sd.append_of_mem m) λa b e=>?_
   rw[e];simp;lia
  rw[hff] at this;exact this
 match R,hne with
 | r0::rest,_=>
  have hr0:=hrow r0 (.head _)
  rw[Tc] at hfl hjl
  refine⟨r0::rest,r0,rest,hfeed,rfl,λr m=>?_,hr0.2,by lia,lO _ (by simp) λw m=>?_,by lia⟩
  ·rcases Sv.mp m with rfl | m
   ·refine⟨λc mc=>(Tf.mp mc).elim (λmc=>?_) (hr0.1 c),by rw[SU,TN];lia⟩
    rw[(Z2.mp mc).2];exact⟨(bo rfl),(bo rfl)⟩
   ·exact⟨(hrow r (.tail _ m)).1,Sk (hrow r (.tail _ m)).2 (Sk hl (bo rfl))⟩
  ·refine aE (XH.mp m) λr mr e82=>?_;subst e82
   exact Ak (hrow r mr).1
theorem Cf (head:Nat):(cw [32,45] head).length=2*head:=by
 have:=SO Sd.length (sP head [])
 rw[ft,SU,SU,TN] at this
 exact this
theorem Ax (F:st.Fu)(h4:4<=st.n){step head:Nat}(ht:st.look t=Sa (.list (Sq many (ak step))))(h1:1<=step)(hs:step<=7)(hm:many<=15)(hr:ring<=40)(hh:head<ring):Jy st t ring step many head:=by
 obtain⟨s1,e1,X1⟩:=HE (fm:=⟨[Sa (.ref t),Sa (ak ring),Sa (ak head),none,none,none,none],[]⟩) F rfl rfl ht h1 (Sk hs (bo rfl)) (Sk hm (bo rfl))
 have hb:many*step<=105:=Nat.mul_le_mul hm hs
 have hlen:(97::(d7 step 0 many).flatten).length<=106:=by rw[Tc,jO h1];exact TQ hb
 have hsg:∀c∈(97::(d7 step 0 many).flatten),Sg c:=λc m=>(Sv.mp m).elim (λe=>e▸⟨(bo rfl),(bo rfl)⟩) (uy many 0 (by lia) c)
 have hsn:(97::(d7 step 0 many).flatten)≠[]:=λe=>nomatch e
 have hline:=yi (many:=many) h1 (Sk (TK _ _) hh) hh
 generalize (97::(d7 step 0 many).flatten)=signs at *
 have hh40:head<=40:=Sk (TJ hh) hr
 have h1000:40<=1000:=(bo rfl)
 refine BY (KZ (ring:=ring) hsg hlen hh40) λR r0 rest hR=>?_
 rw[hR.e,hR.c] at hline
 obtain⟨s2,pg,nl,na,d,da,e2,G2⟩:=K4 (fm:=⟨yX [Sa (.ref t),Sa (ak ring),Sa (ak head),none,none,none,none] (.str signs) 3,[]⟩) X1.fu (Sk h4 X1.n) (Sk hr h1000) (Sk hh40 h1000) rfl rfl rfl
 obtain⟨s3,c0,L,cur,c,o5,e3,G3,hg3,hle3,hrows,hL3⟩:=JC (n:=200) (o5:=none) (o6:=none) (a0:=Sa (.ref t)) (a1:=Sa (ak ring)) (a2:=Sa (ak head)) (a3:=Sa (.str signs)) hr signs G2 hsg (λc m=>nomatch m) (TJ hh) (λ_=>hh) (λ_=>hsn) (by lia) (show 0+signs.length<=4000 by lia)
 rw[Xv,hR.e] at hrows
 obtain⟨s4,e4,G4⟩:=Ni G3 (by lia) hg3 (by rw[VI,V9] at hL3;lia) (by rw[hrows];exact hR.j)
 rw[hrows] at e4
 obtain⟨s5,e5,f5,n5,l5⟩:=dM G4.x.fu (.list (fE .str (bQ 10 (bP [10] (R.map cm)))))
 have q5:s5.look s4.n=Sa (.list (.str (cm r0)::rest.map λr=>V.str (cm r))):=by
  rw[l5,SR rfl,hR.s,hR.c,eq,T9];rfl
 have X4:Ext st s4:=X1.trans G4.x
 obtain⟨s6,e6,f6,n6,l6⟩:=ib f5 (i:=s4.n) (Sk h4 X4.n) (n5▸SX _) (.list (.str (cm (Sq head 45++r0))::rest.map λr=>V.str (cm r)))
 have q6:s6.look s4.n=Sa (.list (((Sq head 45++r0)::rest).map λr=>V.str (cm r))):=(l6 _).trans (SR rfl)
 refine bH (PK q6 hR.g (o0:=none) (o1:=none) (o2:=none) (o3:=none) ((Sq head 45++r0)::rest) (i:=0) (n:=200) rfl (Tg (TQ hR.n) (bo rfl))) λfm' ho=>?_
 have hcols:(((Sq head 45++r0)::rest).flatMap (bM 0))=fk head (r0::rest):=rfl
 rw[hcols,hline] at ho
 obtain⟨s7,e7,f7,n7,l7⟩:=dM f6 (.list (((Ul (many+1)).map λj=>(head+j*step) % ring).map ak))
 have X6:Ext st s6:=(X4.push f5 n5 l5).set f6 n6 X4.n l6
 refine⟨s7,s6.n,?_,X6.push f7 n7 l7,X6.n,(l7 _).trans (SR rfl)⟩
 delta Ov IO EO FA Ge Ga
 exact JY rfl (λ_=>rfl) (aJ e1 (aJ e2 (aJ (jh (qj (ah rfl) (lW hsg)) e3)
  (aJ (aU (nk (qi (ah rfl) G3.at1 (aT az) e4) (aT az) λk=>(Ds hR.j _ k).trans (e5 _)) (aN rfl))
   (aJ (aU (bd (bd az (ah rfl) (sy (x:=[32,45]) (n:=head) (Sk hh40 (bo rfl)) (Sk (Xy 2 hh40) (bo rfl)) _)) (eJ (ah rfl) az λ_=>cr (a:=0) (x:=.str (cm r0)) q5 rfl (Td _))
     (λk=>(mz (x:=cw [32,45] head) (y:=cm r0) (by rw[Cf,ft];have:=hR.l;lia) _ k).trans (by rw[sP]))) (w6 (ah rfl) az λk=>(C7 q5 k).trans (e6 k)))
    (bk (iz (lC (λ_=>rfl) (D3 (ah rfl) q6) ho (by rw[S0,S0,WH];exact Sk (TQ hm) (bo rfl)) e7))))))))
theorem eI {a b:Nat}(h1:1<=b)(hb:b<=1000000)(s:St)(k:KV):ef (ak a) (ak b) s k=k (ak (a % b)) s:=by
 show aD (small (.ofNat b)) (aD (SD b 0) ll (k (.int (.ofNat (a % b))) s)) ll=_
 have:SD b 0=ll:=uN (Tu h1)
 rw[bU (by lia),this];rfl
theorem hU (a b:Nat)(s:St)(k:KV):aQ (ak a) (ak b) s k=k (ak (a+b)) s:=rfl
theorem DD (x:Int):∃m:Nat,Cm x 1000000=.ofNat m:=by
 rw[pC]
 have h1:=Int.fmod_nonneg_of_pos x (show(0:Int)<1000000 by decide)
 exact⟨(x.fmod 1000000).toNat,by simp only[Ux];lia⟩
theorem PZ (s:St)(k:KV):D5 (.int 10) (.int 6) s k=k (.int 1000000) s:=rfl
theorem AJ (x:Int)(s:St)(k:KV):ef (.int x) (.int 1000000) s k=k (.int (Cm x 1000000)) s:=by
 delta ef
 kernel_rfl
theorem GT (h:i<n)(k:Nat->Si):idx (.ofNat i) n k=k i:=by
 show aD (SV n i) ll (k i)=_
 rw[jE h];rfl
theorem rQ {q:Nat} (h:st.look q=Sa (.list l))(hi:i<l.length)(hb:i<=4095)(k:St->Si):mP (.ref q) (ak i) v st k=st.set q (.list (l.set i v)) k:=by
 show aD (small (.ofNat i)) (bg st q (λl=>idx (.ofNat i) (aK l) λj=>nB l j v λl=>st.set q (.list l) k)) ll=_
 rw[bU (by lia),fw,bj h,aC,GT hi,w4 hi]
noncomputable section
abbrev O7:Nat->CF:=dO (yS (aw ll 2) (aw ll 3)) (aq (js (aa ll 1) (aA ef (aa ll 2) (ao (.int 5))) (aA ef (aa ll 3) (aA D5 (ao (.int 10)) (ao (.int 6))))) aH) aH
noncomputable abbrev DO (q:Nat)(o2 o3 o4 o5 o6:OV)(c:Sd Nat):Fm:=⟨[Sa (.ref 0),Sa (.ref q),o2,o3,o4,o5,o6],c⟩
end
inductive M0 (sb st:St)(i n:Nat)(o2 o3:OV)(c:Sd Nat):Prop
 | mk (st':St) (hs:Sd Nat) (o2' o3':OV) (e:CM (O7 n) (DO sb.n o2 o3 none none none c) (.enS (.ofNat i) 0 i) st .nxt (DO sb.n o2' o3' none none none c) st') (X:Ext sb st') (n:st'.n=sb.n+1) (l:st'.look sb.n=Sa (.list (hs.map ak))) (h:hs.length=5)
theorem MU {sb:St} {cl:Sd Nat}(hx:sb.look 0=Sa (.list (xs.map V.int)))(h4:4<=sb.n)(hlen:xs.length<=63)(l:Sd Int):∀{i n:Nat}{st:St}{hs:Sd Nat}{o2 o3:OV},Ext sb st->st.n=sb.n+1->st.look sb.n=Sa (.list (hs.map ak))->hs.length=5->xs.drop i=l->i<=xs.length->l.length<n->M0 sb st i n o2 o3 cl:=by
 induction l with
 | nil=>
  intro i n st hs o2 o3 X hn hq h5 hd hil hf
  obtain⟨n,rfl⟩:=SW hf
  have hxs:st.look 0=Sa (.list (xs.map V.int)):=(X.keep 0 (Sx (by decide) h4)).trans hx
  exact⟨st,hs,o2,o3,mA (λ_ _=>kM hxs (by rw[S0];exact Xl.mp hd) _) pZ,X,hn,hq,h5⟩
 | cons x l ih=>
  intro i n st hs o2 o3 X hn hq h5 hd hil hf
  obtain⟨n,rfl⟩:=SW hf
  have hxs:st.look 0=Sa (.list (xs.map V.int)):=(X.keep 0 (Sx (by decide) h4)).trans hx
  have hxi:xs[i]? = Sa x:=by rw[←Vk,hd];rfl
  have hi:i<xs.length:=(Sy.mp hxi).1
  have hd':xs.drop (i+1)=l:=by rw[←WY,hd];rfl
  obtain⟨m,hm⟩:=DD x
  have h55:i % 5<hs.length:=by rw[h5];exact Xd _ (by decide)
  have hi5:i % 5<=4095:=Sk (TJ (h5▸h55)) (by decide)
  obtain⟨s1,e1,f1,n1,l1⟩:=ib X.fu (i:=sb.n) h4 (hn▸SX _) (.list ((hs.map ak).set (i % 5) (ak (hs[i % 5]+m))))
  have q1:s1.look sb.n=Sa (.list ((hs.set (i % 5) (hs[i % 5]+m)).map ak)):=by rw[l1,SR rfl,Sd.map_set]
  obtain⟨st',hs',o2',o3',e,a,b,c,d⟩:=ih (n:=n+(l.length+1)) (o2:=Sa (.int (.ofNat i))) (o3:=Sa (.int x)) (X.set f1 n1 (SQ _) l1) (n1.trans hn) q1 ((Sd.length_set ..).trans h5) hd' hi (Sx (SX _) (TK _ _))
  refine⟨st',hs',o2',o3',M6 (λ_ _=>mG hxs (v:=.int x) (by rw[TG,hxi];rfl) _) (aN rfl) (aN rfl) (bk (BF (y:=.ofNat hs[i % 5]) (z:=.ofNat m) (ah rfl) (bd (ah rfl) az (eI (a:=i) (b:=5) (bo rfl) (bo rfl) _)) (λ_=>cr (a:=i % 5) (x:=ak hs[i % 5]) hq (by rw[TG,Sw h55];rfl) hi5)
   (bd (ah rfl) (bd az az (PZ _)) λk=>(AJ x _ k).trans (by rw[hm])) λk=>(rQ (i:=i % 5) (v:=ak (hs[i % 5]+m)) hq (by rw[S0];exact h55) hi5 _).trans (e1 _))) e,a,b,c,d⟩
noncomputable def mU (step ring:Nat):Nat->Nat->Sd Nat
 | _,0=>[]
 | a,m+1=>if a*step % ring=0 then a::mU step ring (a+1) m else mU step ring (a+1) m
noncomputable def iM (step ring:Nat):Nat:=(mU step ring 1 ring).headD 0
structure uh (ring step many:Nat):Prop where
 r:8<=ring/\ring<=15
 s:1<=step/\step<=7
 ne:2*step≠ring
 m:2<=many/\many<iM step ring
theorem B1:(Ul 16).all (λr=>(Ul 8).all λs=>!(decide (8<=r/\1<=s/\2*s≠r)) || decide (3<=iM s r/\iM s r<=15))=Se:=by decide +kernel
theorem pI (ring:Nat)(h1:ring<16)(step:Nat)(h2:step<8)(h3:8<=ring)(h4:1<=step)(h5:2*step≠ring):3<=iM step ring/\iM step ring<=15:=by
 have a:=Ta.mp (Ta.mp B1 ring (Ur.mpr h1)) step (Ur.mpr h2)
 rw[Si.or_eq_true,VU,decide_eq_true_eq,decide_eq_false_iff_not] at a
 exact a.resolve_left λn=>n ⟨h3,h4,h5⟩
theorem xC {step:Nat}(h:3<=iM step ring):∃rest,mU step ring 1 ring=iM step ring::rest:=by
 unfold iM at h ⊢
 cases e:mU step ring 1 ring with
 | nil=>rw[e] at h;simp at h
 | cons a b=>exact⟨b,rfl⟩
theorem uC (step ring:Nat):∀(m a:Nat),(mU step ring a m).length<=m
 | 0,_=>by simp[mU]
 | m+1,a=>by
  have:=uC step ring m (a+1)
  unfold mU
  split
  ·simp only[Tc];lia
  ·lia
noncomputable section
abbrev O1:Nat->CC:=bw (em (aw ll 1)) (bR iu (aA ef (aA bF (aa ll 1) (aa Se 1)) (aa Se 0)) (ao (.int 0))) (gt (aa ll 1))
end
theorem FU {a b:Nat}(h:a≠b)(s:St)(k:Si->Si):iu (ak a) (ak b) s k=k ll:=by rw[qD,uN h]
theorem zx {a b:Nat}(h:a=b)(s:St)(k:Si->Si):iu (ak a) (ak b) s k=k Se:=by rw[qD,h,Vv]
theorem Lb {c0 step:Nat}(h0:st.look c0=Sa (.cell (Sa (ak ring))))(h1:st.look c1=Sa (.cell (Sa (ak step))))(hr:1<=ring)(hr2:ring<=1000)(hs:step<=1000)(m:Nat) :
  ∀{a n:Nat} {o:OV},m<n->a+m<=1000->∃fm',yW (O1 n) ⟨[none,o],[c0,c1]⟩ (.rng (.ofNat a) m 1) st ((mU step ring a m).map ak) fm' st:=by
 induction m with
 | zero=>
  intro a n o h _
  refine bH (SW h) λn e81=>?_;subst e81
  exact⟨_,g9 λ_ _=>rfl⟩
 | succ m ih=>
  intro a n o h ha
  refine bH (SW h) λn e81=>?_;subst e81
  obtain⟨fm',e⟩:=ih (a:=a+1) (n:=n+(m+1)) (o:=Sa (ak a)) (Sx (SX _) (TK _ _)) (Ud a m▸ha)
  have ha':a<=1000:=Sk (S9 _ _) ha
  refine⟨fm',?_⟩
  have tst:∀{c:Si},(∀k,iu (ak (a*step % ring)) (ak 0) st k=k c)->pG (bR iu (aA ef (aA bF (aa ll 1) (aa Se 1)) (aa Se 0)) (ao (.int 0))) ⟨[none,Sa (ak a)],[c0,c1]⟩ st c st:=λh=>bN (bd (bd (ah rfl) (bZ rfl h1) λ_=>lP (Sk ha' (bo rfl)) (Sk hs (bo rfl))) (bZ rfl h0) (eI hr (Sk hr2 (bo rfl)) _)) az h
  unfold mU
  by_cases q:a*step % ring=0
  ·rw[SR q]
   exact rJ (λ_ _=>rfl) (qF (aN rfl)) (tst (zx q _)) (vZ (ah rfl)) e
  ·rw[Sz q]
   exact E2 (λ_ _=>rfl) (qF (aN rfl)) (tst (FU q _)) e
inductive lR (step many:Nat):Sd Nat->Prop
 | a:lR step many [step,0,9]
 | b:lR step many (Sq many step++[127,9])
 | c:lR step many (Sq many step)
 | d:lR step many [step,step,0]
theorem Ie (h:m<=4095)(k:It->St->Si):eB 1 (.ofNat (m+1)) 1 s k=k (.rng (.ofNat 1) m 1) s:=by
 unfold eB
 have e:cT (iC (.ofNat (m+1)) 1)=m:=by rw[gz,ey];simp
 rw[bU (by lia),e,show aB m=Se from bG h];rfl
theorem Ec (h:m<=4095)(k:It->St->Si):eB 0 (.ofNat m) 1 s k=k (.rng (.ofNat 0) m 1) s:=by
 unfold eB
 have e:cT (iC (.ofNat m) 0)=m:=by rw[gz,ey];simp
 rw[bU (by lia),e,show aB m=Se from bG h];rfl
inductive LH (fm:Fm)(s6:St)(c1 ring:Nat):Prop
 | mk (s7:St) (step':Nat) (F:s7.Fu) (n:s7.n=s6.n) (k:∀j,j≠c1->s7.look j=s6.look j) (l:s7.look c1=Sa (.cell (Sa (ak step')))) (h1:1<=step') (h7:step'<=7) (h:2*step'≠ring) (e:gT xh fm s6 .nxt fm s7)
theorem N5 {s6:St}(F:s6.Fu){c0 step:Nat}(h4:4<=c1)(f0:Iy fm.cel 0=Sa c0)(f1:Iy fm.cel 1=Sa c1)(h0:s6.look c0=Sa (.cell (Sa (ak ring))))(h1:s6.look c1=Sa (.cell (Sa (ak step))))(hr:8<=ring)(hs:1<=step)(hs7:step<=7):LH fm s6 c1 ring:=by
 have tst:∀{c:Si},(∀k,iu (ak (2*step)) (ak ring) s6 k=k c)->pG (bR iu (aA bF (ao (.int 2)) (aa Se 1)) (aa Se 0)) fm s6 c s6:=λh=>bN (bd az (bZ f1 h1) (Hv (Sk hs7 (bo rfl)) _)) (bZ f0 h0) h
 by_cases e:2*step=ring
 ·obtain⟨s7,e7,f7,n7,l7⟩:=nZ F h4 (St.lt F h1) h1 (ak (step - 1))
  refine⟨s7,step - 1,f7,n7,λj h=>(l7 j).trans (Sz h),(l7 _).trans (SR rfl),by lia,Sk (W7 _ _) hs7,by lia,?_⟩
  delta xh
  exact iQ (tst (zx e _)) (bk (y9 f1 h1 az (λ_=>ie (a:=step) (b:=1) hs) e7))
 ·refine⟨s6,step,F,rfl,λ_ _=>rfl,h1,hs,hs7,e,?_⟩
  delta xh
  exact ja (tst (FU e _))
theorem jq (a n:Nat):cw [ak a] n=(Sq n a).map ak:=by
 rw[gG]
 induction n with
 | zero=>rfl
 | succ n ih=>rw[TH,TC,ih];rfl
inductive CX (fm:Fm)(st:St)(step many:Nat):Prop
 | mk (s':St) (q a b c d:Nat) (X:Ext st s') (e:gT Cw fm st .nxt ⟨yX fm.loc (.ref q) 6,fm.cel⟩ s') (l:s'.look q=Sa (.list [.ref a,.ref b,.ref c,.ref d])) (la:s'.look a=Sa (.list ([step,0,9].map ak)))
  (lb:s'.look b=Sa (.list ((Sq many step++[127,9]).map ak))) (lc:s'.look c=Sa (.list ((Sq many step).map ak))) (ld:s'.look d=Sa (.list ([step,step,0].map ak)))
inductive Jt (s0 st:St)(o:O):Prop
 | mk (s':St) (e:∀k,st.push o k=k st.n s') (X:Ext s0 s') (n:st.n<s'.n) (l:s'.look st.n=Sa o) (k:∀{j:Nat} {q:SP O},j<st.n->st.look j=q->s'.look j=q)
theorem Ext.pushX (X:Ext s0 st)(o:O):Jt s0 st o:=by
 obtain⟨s1,e1,f1,n1,l1⟩:=dM X.fu o
 exact⟨s1,e1,X.push f1 n1 l1,n1▸SX _,(l1 _).trans (SR rfl),λh e=>(l1 _).trans ((Sz (SJ h)).trans e)⟩
theorem Ee (F:st.Fu){step:Nat}(f1:Iy fm.cel 1=Sa c1)(f5:uX fm.loc 5=Sa (ak many))(f6:wI fm.loc 6=Se)(h1:st.look c1=Sa (.cell (Sa (ak step))))(hm:many<=100):CX fm st step many:=by
 have hc:=St.lt F h1
 have hrl:(cw [ak step] many).length=many:=by rw[jq,S0,TN]
 have hm4:1*many<=4095:=by rw[Zr];exact Sk hm (by decide)
 have hm5:=Sk hm (show 100<=4000 by decide)
 obtain⟨s1,e1,X1,n1,l1,k1⟩:=(Ext.refl F).pushX (.list [ak step,.int 0,.int 9])
 obtain⟨s2,e2,X2,n2,l2,k2⟩:=X1.pushX (.list [ak step])
 obtain⟨s3,e3,X3,n3,l3,k3⟩:=X2.pushX (.list (cw [ak step] many))
 obtain⟨s4,e4,X4,n4,l4,k4⟩:=X3.pushX (.list [.int 127,.int 9])
 obtain⟨s5,e5,X5,n5,l5,k5⟩:=X4.pushX (.list (bp (cw [ak step] many) [.int 127,.int 9]))
 obtain⟨s6,e6,X6,n6,l6,k6⟩:=X5.pushX (.list [ak step])
 obtain⟨s7,e7,X7,n7,l7,k7⟩:=X6.pushX (.list (cw [ak step] many))
 obtain⟨s8,e8,X8,n8,l8,k8⟩:=X7.pushX (.list [ak step,ak step,.int 0])
 obtain⟨s9,e9,X9,n9,l9,k9⟩:=X8.pushX (.list [.ref st.n,.ref s4.n,.ref s6.n,.ref s7.n])
 have c:∀{s},Ext st s->s.look c1=Sa (.cell (Sa (ak step))):=λX=>(X.keep c1 hc).trans h1
 have m5:=SH n5 (SH n6 n7)
 have m1:=SH n1 (SH n2 (SH n3 (SH n4 m5)))
 have k89:∀{j q},j<s7.n->s7.look j=q->s9.look j=q:=λh e=>k9 (SH h n8) (k8 h e)
 refine⟨s9,s8.n,st.n,s4.n,s6.n,s7.n,X9,?_,l9,?_,?_,?_,k9 n8 l8⟩
 ·delta Cw
  exact aU (dX (be (dX (be (bZ f1 h1) (be az (aT az))) e1)
   (be (bd (bd (dX (aT (bZ f1 (c X1))) e2) (ah f5) λk=>(ix (l:=[ak step]) (m:=many) l2 (Sk hm (by decide)) hm4).trans (e3 _)) (dX (be az (aT az)) e4)
     λk=>(ow (l:=cw [ak step] many) (q:=[.int 127,.int 9]) (k4 n3 l3) l4 (by rw[hrl];exact V3 hm5 (show 2<=95 by decide))).trans (e5 _))
    (be (bd (dX (aT (bZ f1 (c X5))) e6) (ah f5) λk=>(ix (l:=[ak step]) (m:=many) l6 (Sk hm (by decide)) hm4).trans (e7 _))
     (aT (dX (be (bZ f1 (c X7)) (be (bZ f1 (c X7)) (aT az))) e8))))) e9) (aN f6)
 ·exact k89 m1 (k7 (SH n1 (SH n2 (SH n3 (SH n4 (SH n5 n6))))) (k6 (SH n1 (SH n2 (SH n3 (SH n4 n5)))) (k5 (SH n1 (SH n2 (SH n3 n4))) (k4 (SH n1 (SH n2 n3)) (k3 (SH n1 n2) (k2 n1 l1))))))
 ·refine k89 m5 (k7 (SH n5 n6) (k6 n5 (l5.trans ?_)))
  rw[bf,jq,Vl];rfl
 ·exact k89 n7 (l7.trans (by rw[jq]))
theorem mY:∀{cs:Sd Nat}{b:Nat},b<cs.length->gX cs b=cs.set b (cs.getD b 0+1)
 | [],b,h=>by simp at h
 | c::r,0,_=>rfl
 | c::r,b+1,h=>by
  show c::gX r b=_
  rw[mY (by simpa using h)];simp
theorem jD:∀{cs:Sd Nat}{b:Nat},cs.length<=b->gX cs b=(cs++Sq (b - cs.length+1) 0).set b 1
 | [],0,_=>rfl
 | [],b+1,_=>by
  show 0::gX [] b=_
  rw[jD (cs:=[]) (by simp)];simp[TH]
 | c::r,0,h=>by simp at h
 | c::r,b+1,h=>by
  show c::gX r b=_
  rw[jD (by simpa using h)];simp
theorem yN {cs:Sd Nat}{b:Nat}:(gX cs b).length<=max cs.length (b+1):=by
 by_cases h:b<cs.length
 ·rw[mY h];simp;lia
 ·rw[jD (by lia)];simp;lia
structure LR (p:Nat)(o o':O)(s u:St):Prop where
 n:u.n=s.n
 sh:Sh s.t u.t
 lt:p<s.n
 four:4<=p
 at_:∀i,i≠p->u.look i=s.look i\/(u.look i=Sa .hid/\(s.look i).isSome=Se/\4<=i)
 ps:s.look p=Sa o
 pu:u.look p=Sa o'
inductive Hi (p:Nat)(o o' x:O)(s u:St)(k:Nat->St->Si):Prop
 | mk (s' u':St) (e:∀K,s.push x K=K s.n s') (h:k u.n u'=Se) (R:LR p o o' s' u') (n:s'.n=s.n+1) (l:∀j,s'.look j=if j=s.n then Sa x else s.look j) (eu:∀K,u.push .hid K=K u.n u') (lu:u'.look s.n=Sa .hid)
inductive Nv (p:Nat)(o o':O)(q:Nat)(x:O)(s u:St):Prop
 | mk (s':St) (e:∀K,s.set q x K=K s') (R:LR p o o' s' u) (n:s'.n=s.n) (l:∀j,s'.look j=if j=q then Sa x else s.look j)
theorem LR.push {p:Nat}{x:O}{u:St}(R:LR p o o' s u){k:Nat->St->Si}(h:u.push .hid k=Se):Hi p o o' x s u k:=by
 obtain⟨u',s',h1,h2,h3,h4,h5,h6,h7⟩:=St.push_sh (o':=x) R.n R.sh.symm h
 have hp:p≠s.n:=SJ R.lt
 refine⟨s',u',h2,(h1 k).symm.trans h,⟨by rw[h3,h4,R.n],h7.symm,by rw[h4];exact Th R.lt,R.four,λi hi=>?_,by rw[h6,Sz hp];exact R.ps,by rw[h5,R.n,Sz hp];exact R.pu⟩,h4,h6,h1,by rw[h5,R.n,SR rfl]⟩
 rw[h5,h6,R.n]
 by_cases e:i=s.n
 ·rw[SR e,SR e]
  exact .inr ⟨rfl,rfl,by have:=R.four;have:=R.lt;lia⟩
 ·rw[Sz e,Sz e];exact R.at_ i hi
theorem LR.set {p:Nat}{x y:O}{u:St}(R:LR p o o' s u){q:Nat}(hq:q≠p)(h4:4<=q)(e:s.look q=Sa y)(hu:u.look q=Sa .hid):Nv p o o' q x s u:=by
 refine fD (St.set_sh (o:=x) h4 (by rw[e];rfl)) λs' h1 h2 h3 h5=>?_
 refine⟨s',h1,⟨by rw[h2];exact R.n,h5.symm.trans R.sh,by rw[h2];exact R.lt,R.four,λi hi=>?_,by rw[h3,Sz (Ne.symm hq)];exact R.ps,R.pu⟩,h2,h3⟩
 rw[h3]
 by_cases z:i=q
 ·subst z
  rw[SR rfl]
  exact .inr ⟨hu,rfl,h4⟩
 ·rw[Sz z];exact R.at_ i hi
noncomputable section
noncomputable abbrev GJ (p:Nat)(w:Sd Nat)(q b n nt:Nat)(o8:OV):Fm:=⟨[Sa (.ref p),Sa (.str w),Sa (.str [32]),Sa (.str [9]),Sa (.ref q),Sa (ak b),Sa (ak n),Sa (ak nt),o8],[]⟩
abbrev E5:CS:=aq (aV (aA aQ (dw (aa ll 4) (aa ll 5)) (ao (.int 1))) (zj (aa ll 4) (aa ll 5))) (aq (aV (ao (.int 0)) (aw ll 5)) aH)
abbrev RA:Nat->CF:=dO (em (aw ll 8)) (aq (ij (bR iu (aa ll 8) (aa ll 2)) (aq (aV (aA aQ (aa ll 6) (ao (.int 1))) (aw ll 6)) (aq (aV (aA aQ (aa ll 5) (ao (.int 1))) (aw ll 5)) aH)) (aq (ij (bR iu (aa ll 8) (aa ll 3)) (aq (aV (aA aQ (aa ll 6) (ao (.int 1))) (aw ll 6)) (aq (aV (aA aQ (aa ll 7) (ao (.int 1))) (aw ll 7)) (aq (ij (bR uD (aa ll 5) (gv dU (ae (aa ll 4) av))) (aq (aV (aA aQ (aa ll 4) (aA bF (d0 (ae (ao (.int 0)) av)) (aA aQ (aA cj (aa ll 5) (gv dU (ae (aa ll 4) av))) (ao (.int 1))))) (aw ll 4)) aH) aH) E5))) (aq u4 aH)) aH)) aH) aH
end
structure Ct (p:Nat)(s u:St)(q:Nat)(cs:Sd Nat):Prop where
 l:s.look q=Sa (.list (cs.map ak))
 ne:q≠p
 four:4<=q
 lt:q<s.n
 hid:u.look q=Sa .hid
inductive OC (p:Nat)(o o':O)(s u:St)(fm:Fm)(q:Nat)(cs':Sd Nat):Prop
 | mk (s2:St) (e:gT E5 fm s .nxt ⟨yX fm.loc (ak 0) 5,fm.cel⟩ s2) (R:LR p o o' s2 u) (C:Ct p s2 u q cs')
theorem Hs {p:Nat} {u:St} {q b:Nat}{cs:Sd Nat}(R:LR p o o' s u)(C:Ct p s u q cs)(f4:uX fm.loc 4=Sa (.ref q))(f5:uX fm.loc 5=Sa (ak b))(i5:wI fm.loc 5=Se)(hb:b<cs.length)(hb2:b<=4095):OC p o o' s u fm q (cs.set b (cs.getD b 0+1)):=by
 have hx:(cs.map ak)[b]? = Sa (ak (cs.getD b 0)):=by rw[TG,TM,Sw hb];rfl
 obtain⟨s2,hs,R2,n2,l2⟩:=R.set (x:=.list ((cs.map ak).set b (ak (cs.getD b 0+1)))) C.ne C.four C.l C.hid
 refine⟨s2,aJ (aU (bd (eJ (ah f4) (ah f5) λ_=>cr C.l hx hb2) az λ_=>fZ) (w6 (ah f4) (ah f5) λk=>(rQ C.l (by rw[d8];exact hb) hb2 k).trans (hs k))) (bk (aU az (aN i5))),R2,?_,C.ne,C.four,n2▸C.lt,C.hid⟩
 rw[l2,SR rfl,Sd.map_set]
theorem jg (c d:Nat)(s:St)(k:Si->Si):iu (.str [c]) (.str [d]) s k=k (SD c d):=by
 show k (CQ [c] [d])=_
 rw[xo]
theorem Ht {a b:Nat}(s:St)(k:Si->Si):uD (ak a) (ak b) s k=k (SV b a):=rfl
theorem Mn (m:Nat):cw [V.int 0] m=(Sq m 0).map ak:=jq 0 m
inductive RM (p:Nat)(w:Sd Nat)(o o':O)(k:Sd Nat->Nat->Nat->Nat->St->Si)(l:Sd Nat)(f q b n nt:Nat)(o8:OV)(s:St):Prop
 | mk (cs':Sd Nat) (q' b' n' nt':Nat) (o8':OV) (s' u':St) (e:CM (RA f) (GJ p w q b n nt o8) (.str l) s .nxt (GJ p w q' b' n' nt' o8') s') (R:LR p o o' s' u') (l:s'.look q'=Sa (.list (cs'.map ak))) (len:cs'.length<=160) (h:k cs' b' n' nt' u'=Se)
inductive JO (p:Nat)(o o':O)(s u:St)(fm:Fm)(b:Nat)(cs:Sd Nat)(K:St->Si):Prop
 | mk (cs':Sd Nat) (q':Nat) (s' u':St) (e:gT (ij (bR uD (aa ll 5) (gv dU (ae (aa ll 4) av))) (aq (aV (aA aQ (aa ll 4) (aA bF (d0 (ae (ao (.int 0)) av)) (aA aQ (aA cj (aa ll 5) (gv dU (ae (aa ll 4) av))) (ao (.int 1))))) (aw ll 4)) aH) aH) fm s .nxt ⟨yX fm.loc (.ref q') 4,fm.cel⟩ s')
  (R:LR p o o' s' u') (C:Ct p s' u' q' cs') (hb:b<cs'.length) (hl:cs'.set b (cs'.getD b 0+1)=gX cs b) (h:K u'=Se)
theorem Ag {l:Sd OV} (h:uX l i=Sa v):yX l v i=l:=by
 induction l generalizing i with
 | nil=>rfl
 | cons o l ih=>
  induction i with
  | zero=>exact SO (·::l) h.symm
  | succ i=>exact SO (o::·) (ih h)
theorem Ez {p:Nat} {u:St} {q b:Nat}{cs:Sd Nat}{K:St->Si}(R:LR p o o' s u)(C:Ct p s u q cs)(f4:uX fm.loc 4=Sa (.ref q))(f5:uX fm.loc 5=Sa (ak b))(i4:wI fm.loc 4=Se)(hcs:cs.length<=160)(hb:b<=160)(h:aD (SV (aK cs) b) (u.push .hid λ_ st=>st.push .hid λ_ st=>st.push .hid λ_ st=>K st) (K u)=Se):JO p o o' s u fm b cs K:=by
 have hc4:(cs.map ak).length<=4095:=by rw[d8];exact Sk hcs (bo rfl)
 rw[aC] at h
 have tst:pG (bR uD (aa ll 5) (gv dU (ae (aa ll 4) av))) fm s (SV cs.length b) s:=bN (ah f5) (gM (aT (ah f4)) λ_=>pM C.l hc4) λk=>(Ht s k).trans (by rw[d8])
 rcases dE h with ⟨e,h⟩ | ⟨e,h⟩
 ·have hle:=Sl e
  rw[e] at tst
  obtain⟨s1,u1,p1,h1,R1,n1,l1,_⟩:=R.push (x:=.list [.int 0]) h
  have hq1:s1.look q=Sa (.list (cs.map ak)):=by rw[l1,Sz (SJ C.lt)];exact C.l
  obtain⟨s2,u2,p2,h2,R2,n2,l2,_⟩:=R1.push (x:=.list (cw [.int 0] (b - cs.length+1))) h1
  have hlt1:q<s1.n:=n1▸Th C.lt
  have hq2:s2.look q=Sa (.list (cs.map ak)):=by rw[l2,Sz (SJ hlt1)];exact hq1
  have hz2:s2.look s1.n=Sa (.list (cw [.int 0] (b - cs.length+1))):=by rw[l2,SR rfl]
  obtain⟨s3,u3,p3,h3,R3,n3,l3,_,hu3⟩:=R2.push (x:=.list (bp (cs.map ak) (cw [.int 0] (b - cs.length+1)))) h2
  have hlen:(cs++Sq (b - cs.length+1) 0).length=b+1:=by rw[SU,TN,←Yh,Nat.add_sub_cancel' hle]
  have hm:b - cs.length+1<=161:=TQ (Sk (W7 _ _) hb)
  have hsum:(cs.map ak).length+(cw [V.int 0] (b - cs.length+1)).length<=4095:=by
   rw[d8,Mn,d8,TN]
   exact Sk (V3 hcs hm) (bo rfl)
  refine⟨cs++Sq (b - cs.length+1) 0,s2.n,s3,u3,?_,R3,⟨?_,Tu R2.lt,TJ (Tg R2.four R2.lt),n3▸SX _,hu3⟩,hlen▸SX _,?_,h3⟩
  ·exact iQ tst (bk (aU (bd (ah f4) (bd (dX (aT az) p1) (bd (bd (ah f5) (gM (aT (ah f4)) λ_=>pM hq1 hc4) λk=>by rw[d8];exact ie hle) az λ_=>fZ)
    λk=>(ix (l:=[.int 0]) (by rw[l1,SR rfl]) (Sk hm (bo rfl)) ((Zr _).symm▸Sk hm (bo rfl))).trans (p2 _)) λk=>(ow hq2 hz2 hsum).trans (p3 _)) (aN i4)))
  ·rw[l3,SR rfl,bf,Mn,←Vl]
  ·have hz:(cs++Sq (b - cs.length+1) 0).getD b 0=0:=by
    rw[TM,TZ hle,Wz,SR (SX _)];rfl
   rw[jD hle,hz]
 ·have hlt:b<cs.length:=V5 λz=>by rw[bG z] at e;cases e
  rw[e] at tst
  exact⟨cs,q,s,u,(Ag f4).symm▸ja tst,R,C,hlt,(mY hlt).symm,h⟩
theorem Dk {p:Nat} {w:Sd Nat}{k:Sd Nat->Nat->Nat->Nat->St->Si}(l:Sd Nat):∀{f:Nat}{cs:Sd Nat}{b n nt q:Nat}{o8:OV}{s u:St},l.length<f->n+l.length<=150->b<=n->cs.length<=n->LR p o o' s u->Ct p s u q cs->Oh l cs b n nt u k=Se->RM p w o o' k l f q b n nt o8 s:=by
 induction l with
 | nil=>
  intro f cs b n nt q o8 s u hf hn hb hc R C h
  obtain⟨f,rfl⟩:=SW hf
  exact⟨cs,q,b,n,nt,o8,s,u,mA (λ_ _=>rfl) pZ,R,C.l,Sk hc (Sk hn (bo rfl)),h⟩
 | cons c l ih=>
  intro f cs b n nt q o8 s u hf hn hb hc R C h
  obtain⟨f,rfl⟩:=SW hf
  have hn':n+1+l.length<=150:=Ud n l.length▸hn
  have hf':l.length<f+(l.length+1):=Sx (SX _) (TK _ _)
  have hn150:n<=150:=Sk (S9 _ _) hn
  rcases dE (show aD (SD c 32) (Oh l cs (Tv b) (Tv n) nt u k) _=Se from h) with ⟨e,h⟩ | ⟨e,h⟩
  ·obtain⟨cs',q',b',n',nt',o8',s',u',e',R',l',len',h'⟩:=ih (f:=f+(l.length+1)) (o8:=Sa (.str [c])) hf' hn' (TQ hb) (Vp hc) R C h
   exact⟨cs',q',b',n',nt',o8',s',u',we (λ_ _=>rfl) (aN rfl) (bk (iQ (bN (ah rfl) (ah rfl) λk=>(jg c 32 _ k).trans (SO k e)) (aJ (aU (bd (ah rfl) az λ_=>fZ) (aN rfl)) (bk (aU (bd (ah rfl) az λ_=>fZ) (aN rfl)))))) e',R',l',len',h'⟩
  rcases dE h with ⟨e9,h⟩ | ⟨e9,h⟩
  ·obtain⟨cs1,q1,s1,u1,e1,R1,C1,hb1,hl1,h1⟩:=Ez (fm:=⟨[Sa (.ref p),Sa (.str w),Sa (.str [32]),Sa (.str [9]),Sa (.ref q),Sa (ak b),Sa (ak (n+1)),Sa (ak (nt+1)),Sa (.str [c])],[]⟩) (K:=λst=>Oh l (gX cs b) 0 (Tv n) (Tv nt) st k) R C rfl rfl rfl (Sk hc (Sk hn150 (bo rfl))) (Sk hb (Sk hn150 (bo rfl))) h
   obtain⟨s2,e2,R2,C2⟩:=Hs (fm:=GJ p w q1 b (n+1) (nt+1) (Sa (.str [c]))) R1 C1 rfl rfl rfl hb1 (Sk hb (Sk hn150 (bo rfl)))
   rw[hl1] at C2
   have hbump:(gX cs b).length<=n+1:=Sk yN (Nat.max_le.mpr ⟨Vp hc,TQ hb⟩)
   obtain⟨cs',q',b',n',nt',o8',s',u',e',R',l',len',h'⟩:=ih (f:=f+(l.length+1)) (o8:=Sa (.str [c])) hf' hn' (Td _) hbump R2 C2 h1
   exact⟨cs',q',b',n',nt',o8',s',u',we (λ_ _=>rfl) (aN rfl) (bk (vQ (bN (ah rfl) (ah rfl) λk=>(jg c 32 _ k).trans (SO k e)) (bk (iQ (bN (ah rfl) (ah rfl) λk=>(jg c 9 _ k).trans (SO k e9))
    (aJ (aU (bd (ah rfl) az λ_=>fZ) (aN rfl)) (aJ (aU (bd (ah rfl) az λ_=>fZ) (aN rfl)) (aJ e1 e2))))))) e',R',l',len',h'⟩
  ·exact⟨cs,q,b,n,nt,Sa (.str [c]),s,u,pP (λ_ _=>rfl) (aN rfl) (my (vQ (bN (ah rfl) (ah rfl) λk=>(jg c 32 _ k).trans (SO k e)) (my (vQ (bN (ah rfl) (ah rfl) λk=>(jg c 9 _ k).trans (SO k e9)) qw)))),R,C.l,Sk hc (Sk hn150 (bo rfl)),h⟩
inductive KO (s:St)(p:Nat)(o:O)(f:(St->Si)->Si):Prop
 | mk (s':St) (e:∀K,f K=K s') (n:s'.n=s.n) (l:∀j,s'.look j=if j=p then Sa o else s.look j) (h:Sh s.t s'.t)
theorem nj {p:Nat}(h4:4<=p) (e:s.look p=Sa (.inst c d fs))(x:Nat)(v:V)(hf:SV (aK fs) 100=Se):KO s p (.inst c d (dv fs x v)) (setAttr (.ref p) x v s):=by
 refine fD (St.set_sh (o:=.inst c d (dv fs x v)) h4 (by rw[e];rfl)) λs' q1 q2 q3 q4=>?_
 exact⟨s',λK=>(St.get_of e _).trans ((g8 hf).trans (q1 _)),q2,q3,q4⟩
theorem zg {P:Prop} {k:Nat->Nat->Sd (Nat×V)->Si}(h:Cq o k=Se)(H:∀c d fs,o=.inst c d fs->k c d fs=Se->P):P:=by
 induction o with
 | inst c d fs=>exact H c d fs rfl h
 | _=>exact ff h
theorem QV {vs:Sd V} {k J:KV}(hJ:∀{v s},(∃u,HP s u/\k v u=Se)->J v s=Se)(h:I0 vs st k=Se):F0 vs st J=Se:=by
 refine nQ h λself ws e81 h=>?_;subst e81
 refine dh h λw e81 h=>?_;subst e81
 refine aM h λha h=>?_
 refine aM h λhl h=>?_
 refine bO h λp e81 h=>?_;subst e81
 refine aM h λh4 h=>?_
 refine aM h λhlt h=>?_
 refine St.get_e h λo ho h=>?_
 refine zg h λc d fs e81 h1=>?_;clear h;subst e81
 refine t9 (show ge fs _=Se from h1) λe81 h'=>?_;clear h1;subst e81
 have hl:=Sl hl
 have h4:=Sl h4
 have hlt:p<st.n:=Sl hlt
 rw[aC] at hl
 obtain⟨s0,e0,n0,l0,sh0⟩:=nj h4 ho 0 (.str w) rfl
 have R0:LR p (.inst c d [(0,.str w)]) (.inst c d []) s0 st:=⟨n0.symm,sh0.symm,n0▸hlt,h4,λi hi=>.inl ((l0 i).trans (Sz hi)).symm,(l0 p).trans (SR rfl),ho⟩
 obtain⟨s1,u1,p1,h1,R1,n1,l1,_,hu1⟩:=R0.push (x:=.list []) (show st.push .hid _=Se from h')
 have hp0:=R0.lt
 obtain⟨cs,q,b,n,nt,o8,s,u,e,R,hq,hlen,h⟩:=Dk (w:=w) (k:=λcs b n nt st=>st.set p (Om c d w cs b n nt) λst=>k .none st) w (f:=200) (nt:=0) (o8:=none) (Tg hl (bo rfl)) ((V9 _).symm▸hl) (SQ 0) (Td _) R1 (cs:=[]) ⟨(l1 _).trans (SR rfl),Tu hp0,TJ (Tg h4 hp0),n1▸SX _,hu1⟩ h1
 refine fD (St.set_sh (s:=u) (o:=Om c d w cs b n nt) h4 (by rw[R.pu];rfl)) λu' a1 a2 a3 a4=>?_
 have hqp:q≠p:=λz=>by
  have e:=Sa.inj (R.ps.symm.trans (show s.look p=_ from z▸hq))
  exact nomatch e
 obtain⟨t1,b1,c1,d1,_⟩:=nj h4 R.ps 1 (ak n) rfl
 obtain⟨t2,b2,c2,d2,_⟩:=nj h4 (SetFu.self d1) 2 (ak nt) rfl
 have q2:t2.look q=Sa (.list (cs.map ak)):=SetFu.old d2 hqp (SetFu.old d1 hqp hq)
 obtain⟨t3,b3,c3,d3,_⟩:=nj h4 (SetFu.self d2) 3 (.tup [.tup (cs.map ak),ak b]) rfl
 have q3:=SetFu.old d3 hqp q2
 obtain⟨t4,b4,c4,d4,_⟩:=nj h4 (SetFu.self d3) 4 (.bool (SV (cs.map ak).length 1)) rfl
 have hlm:(cs.map ak).length<=4095:=by rw[d8];exact Sk hlen (bo rfl)
 have main:qK F0 [.ref p,.str w] st .none t4:=by
  delta F0 c0 Oc LI Kn NS Nb MB M1 Mr Md
  exact pA rfl (λ_=>rfl) (aJ (aU (ah rfl) (cR (ah rfl) e0)) (aJ (y4 (be az (aT az)) (eh (aN rfl) (eh (aN rfl) un))) (aJ (aU (dX dA p1) (aN rfl))
   (aJ (aU az (rM (aN rfl) (rM (aN rfl) (aN rfl)))) (aJ (jh (qj (cD (ah rfl) R1.ps λ_=>rfl) ha) e)
   (aJ (aU (ah rfl) (cR (ah rfl) b1)) (aJ (aU (ah rfl) (cR (ah rfl) b2)) (aJ (aU (pk (be (gM (aT (ah rfl)) λ_=>(bj q2 _).trans (qJ hlm)) (aT (ah rfl)))) (cR (ah rfl) b3))
    (bk (aU (Bx (gM (aT (ah rfl)) λ_=>pM q3 hlm) az λ_=>rfl) (cR (ah rfl) b4)))))))))))
 refine(main J).trans (hJ ⟨u',⟨by rw[a2,R.n,c4,c3,c2,c1],λi=>?_⟩,(a1 _).symm.trans h⟩)
 by_cases z:i=p
 ·rw[z,a3,SR rfl,d4,SR rfl,Om,eq,aC,d8]
  exact .inl rfl
 ·rw[a3,Sz z,d4,Sz z,d3,Sz z,d2,Sz z,d1,Sz z]
  exact R.at_ i z
open Classical in
theorem PN (vs:Sd V)(st:St)(k:KV)(h:I0 vs st k=Se):F0 vs st (λv s=>decide (∃u,HP s u/\k v u=Se))=Se:=QV (λh=>Tq h) h
theorem fL {x:Stmt}{c c':CS}(h:c=c')(q:SS C fx d x c):SS C fx d x c':=h▸q
theorem il {x:Expr}{c c':CE}(h:c=c')(q:SE C fx d x c):SE C fx d x c':=h▸q
theorem fc {c c':FN}(h:c=c')(q:eY C d f c):eY C d f c':=h▸q
namespace BaseT
section
variable {C:Cfg}{P:Params}
theorem o14 (W:BaseT C P):bX C 211 (aZ (KH P) 211) (aI (KH P) 211) [(ll,0)] ["self"]:=W.fno (.cons rfl (λh=>nomatch h) .nil) (λus hu s _=>fo (λ_=>by kernel_rfl) us hu)
theorem b14 (W:BaseT C P):uY C (aR (aZ (KH P) 211).scope) (λenv=>env.code=.ref 210) 4 (aI (KH P) 211) (aI (KH P) 211) CN:=by
 conv=>arg 2;arg 1;whnf
 conv=>arg 6;whnf
 refine jN (λhok0=>?_) (by kernel_rfl)
 refine cY (by exact(lq (Dd W.ok W.J W.JS W.blt W.t14 rfl hok0 (rF (by kernel_rfl)) (by kernel_rfl) (by kernel_rfl) (by kernel_rfl) W.g_len W.g_sum (bx (by kernel_rfl)) rfl (by kernel_rfl) (λ_=>rfl)))) ?_
 exact bJ an
theorem f14 (W:BaseT C P):eY C 5 (.ref 211) RG:=bu W.ok W.o14 (ir W.b14 λenv x=>x.code.trans (by kernel_rfl))
theorem l14 (W:BaseT C P):eY C 5 (.ref 211) fh:=λA σ st s k l us R I r h=>by
 refine aE (tv h) λv e81 _=>?_;subst e81
 exact W.f14 A σ st s k [v] us R I r h
theorem fi14 (W:BaseT C P):Um C.K (.ref 244) "__len__"=Sa (Sa (.ref 211)):=by rw[W.K];kernel_rfl
theorem ti14 (W:BaseT C P):YN C.K (.ref 211)=Sa (.type "function"):=by rw[W.K];kernel_rfl
theorem sfLen (W:BaseT C P):SF C 6 (.builtin "len") dU:=HM (zI W.ok W.fi14 W.ti14 W.l14)
theorem tsub (W:BaseT C P) (hd:6<=d:=by decide):TSub C d:=(Mine.Internal.tsub W.ok (by rw[W.K];kernel_rfl) W.fi14 W.ti14 W.l14).up hd
theorem o15 (W:BaseT C P):bX C 218 (aZ (KH P) 218) (aI (KH P) 218) [(ll,0)] ["self"]:=W.fno (.cons rfl (λh=>nomatch h) .nil) (λus hu s _=>fo (λ_=>by kernel_rfl) us hu)
theorem b15 (W:BaseT C P):uY C (aR (aZ (KH P) 218).scope) (λenv=>env.code=.ref 217) 6 (aI (KH P) 218) (aI (KH P) 218) I7:=by
 conv=>arg 2;arg 1;whnf
 conv=>arg 6;whnf
 refine jN (λhok0=>?_) (by kernel_rfl)
 refine cY (by exact(lq (zu W.ok W.J W.JS W.blt W.t15 rfl hok0 (rF (by kernel_rfl)) (by kernel_rfl) (by kernel_rfl) (by kernel_rfl) (by kernel_rfl) W.g_EMPTY (bx (by kernel_rfl)) rfl ⟨_,λ_=>rfl⟩ ⟨_,λ_=>rfl⟩))) ?_
 exact bJ an
theorem f15 (W:BaseT C P):eY C 7 (.ref 218) RJ:=bu W.ok W.o15 (ir W.b15 λenv x=>x.code.trans (by kernel_rfl))
theorem l15 (W:BaseT C P):eY C 7 (.ref 218) pf:=λA σ st s k l us R I r h=>by
 refine aE (tv h) λv e81 _=>?_;subst e81
 exact W.f15 A σ st s k [v] us R I r h
theorem sfStr (W:BaseT C P):SF C 9 (.type "str") vx:=IU W.ok (by rw[W.K];kernel_rfl) (by rw[W.K];kernel_rfl) W.l15
theorem o18 (W:BaseT C P):bX C 241 (aZ (KH P) 241) (aI (KH P) 241) [(ll,0)] ["self"]:=W.fno (.cons rfl (λh=>nomatch h) .nil) (λus hu s _=>fo (λ_=>by kernel_rfl) us hu)
theorem b18 (W:BaseT C P):uY C (aR (aZ (KH P) 241).scope) (λenv=>gZ (aR (aZ (KH P) 241).scope) env 241 (aZ (KH P) 241)) 8 (aI (KH P) 241) (aI (KH P) 241) Rj:=by
 conv=>arg 2;arg 1;whnf
 conv=>arg 6;whnf
 refine jN (λhok0=>?_) (by kernel_rfl)
 refine cY (by exact(lq (CU W.ok W.sup W.s18 hok0 ⟨_,λ_=>rfl⟩))) ?_
 exact bJ an
theorem f18 (W:BaseT C P):eY C 9 (.ref 241) Ow:=bu W.ok W.o18 (ir W.b18 (λenv x=>jJ x (by kernel_rfl) (by kernel_rfl) (bx (by kernel_rfl)) (bx (by kernel_rfl)) (by kernel_rfl)))
theorem o13 (W:BaseT C P):bX C 204 (aZ (KH P) 204) (aI (KH P) 204) [(ll,0)] ["self"]:=W.fno (.cons rfl (λh=>nomatch h) .nil) (λus hu s _=>fo (λ_=>by kernel_rfl) us hu)
theorem b13 (W:BaseT C P):uY C (aR (aZ (KH P) 204).scope) (λenv=>gZ (aR (aZ (KH P) 204).scope) env 204 (aZ (KH P) 204)) 10 (aI (KH P) 204) (aI (KH P) 204) Qo:=by
 conv=>arg 2;arg 1;whnf
 conv=>arg 6;whnf
 refine jN (λhok0=>?_) (by kernel_rfl)
 refine cY (jW (by exact(cS (Cr d6 rfl (vX W.ok W.J ⟨_,λ_=>rfl⟩ W.m18 (mJ W.f18) (Sl rfl) iR (cC rfl hok0) ag) am) (ad (bI (vC (Sl rfl) (cO (iW (by kernel_rfl)) (cO (iW (by kernel_rfl)) ag (λ_=>rfl)) (λ_=>rfl)))) an) an))) ?_
 refine cY (by exact(lq (Dj W.ok W.sup W.s13 hok0 ⟨_,λ_=>rfl⟩))) ?_
 exact bJ an
theorem f13 (W:BaseT C P):eY C 11 (.ref 204) KL:=bu W.ok W.o13 (ir W.b13 (λenv x=>jJ x (by kernel_rfl) (by kernel_rfl) (bx (by kernel_rfl)) (bx (by kernel_rfl)) (by kernel_rfl)))
theorem o10 (W:BaseT C P):bX C 181 (aZ (KH P) 181) (aI (KH P) 181) [(ll,0),(ll,1)] ["self","initial_size"]:=W.fno (.cons rfl (λh=>nomatch h) (.cons rfl (λh=>nomatch h) .nil)) (pp (T:=173) (v:=.int 0 428) (by kernel_rfl) (by kernel_rfl) (λ_ _=>⟨_,rfl,by kernel_rfl⟩))
theorem b10 (W:BaseT C P):uY C (aR (aZ (KH P) 181).scope) (λenv=>gZ (aR (aZ (KH P) 181).scope) env 181 (aZ (KH P) 181)) 12 (aI (KH P) 181) (aI (KH P) 181) LF:=by
 conv=>arg 2;arg 1;whnf
 conv=>arg 6;whnf
 refine jN (λhok0=>?_) (by kernel_rfl)
 refine cY (jW (by exact(pO (λ_ _=>rfl) (λ_ _=>rfl) (λ_=>rfl) (cC rfl hok0) (xg W.ok W.J rfl (Sl rfl) (cC rfl hok0))))) ?_
 refine cY (by exact(BU (λ_=>rfl) (zP W.ok W.sup W.s10 hok0 ⟨_,λ_=>rfl⟩))) ?_
 exact bJ an
theorem f10 (W:BaseT C P):eY C 13 (.ref 181) Kd:=bu W.ok W.o10 (ir W.b10 (λenv x=>jJ x (by kernel_rfl) (by kernel_rfl) (bx (by kernel_rfl)) (bx (by kernel_rfl)) (by kernel_rfl)))
theorem f10_two:∀(vs:Sd V)(st:St)(k:KV),Kd vs st k=Se->vs.length=2:=λvs _ _ h=>(aC vs).symm.trans (SK (eH h).1)
theorem o11 (W:BaseT C P):bX C 188 (aZ (KH P) 188) (aI (KH P) 188) [(ll,0),(ll,1),(ll,2)] ["self","fws","string"]:=W.fno (.cons rfl (λh=>nomatch h) (.cons rfl (λh=>nomatch h) (.cons rfl (λh=>nomatch h) .nil))) (λus hu s _=>qm (λ_ _ _=>by kernel_rfl) us hu)
theorem b11 (W:BaseT C P):SL C (aR (aZ (KH P) 188).scope) 14 (aI (KH P) 188) Ra:=by
 conv=>arg 2;arg 1;whnf
 conv=>arg 4;whnf
 refine dl (λhok0=>?_) (by kernel_rfl)
 refine ad (by exact(ux (g7 W.ok W.J (fg λ_=>rfl) Uz Vc W.findAppend dN (iV (d:=0) W.ok W.J) (Sl rfl) (bc (λ_ _=>rfl) λ_=>rfl) uv (uc (up (uc uv (uc uv ag))) ag)))) ?_
 exact an
theorem f11 (W:BaseT C P):eY C 15 (.ref 188) I1:=bu W.ok W.o11 (bJ W.b11)
theorem o12 (W:BaseT C P):bX C 196 (aZ (KH P) 196) (aI (KH P) 196) [(ll,0),(ll,1)] ["self","i"]:=W.fno (.cons rfl (λh=>nomatch h) (.cons rfl (λh=>nomatch h) .nil)) (pp (T:=189) (v:=.int 0 447) (by kernel_rfl) (by kernel_rfl) (λ_ _=>⟨_,rfl,by kernel_rfl⟩))
theorem b12 (W:BaseT C P):SL C (aR (aZ (KH P) 196).scope) 16 (aI (KH P) 196) PW:=by
 conv=>arg 2;arg 1;whnf
 conv=>arg 4;whnf
 refine dl (λhok0=>?_) (by kernel_rfl)
 refine ad (by exact(ua (qf W.ok W.J W.JS uv (gj uv) jy) ug)) ?_
 refine ad (by exact(ua (ul ag) (AF W.ok W.J W.JS uv (gj uv)))) ?_
 refine ad (by exact(bI uv)) ?_
 exact an
theorem f12 (W:BaseT C P):eY C 17 (.ref 196) Og:=bu W.ok W.o12 (bJ W.b12)
theorem o16 (W:BaseT C P):bX C 226 (aZ (KH P) 226) (aI (KH P) 226) [(ll,0),(ll,1)] ["self","startval"]:=W.fno (.cons rfl (λh=>nomatch h) (.cons rfl (λh=>nomatch h) .nil)) (pp (T:=219) (v:=.none) (by kernel_rfl) (by kernel_rfl) (λ_ _=>⟨_,rfl,by kernel_rfl⟩))
theorem b16 (W:BaseT C P):SL C (aR (aZ (KH P) 226).scope) 18 (aI (KH P) 226) yQ:=by
 conv=>arg 2;arg 1;whnf
 conv=>arg 4;whnf
 refine dl (λhok0=>?_) (by kernel_rfl)
 refine ad (by exact(cS (um IF uv Dh) (ad (ua (ul ag) ug) an) an)) ?_
 refine ad (by exact(ua uv (AF W.ok W.J W.JS uv jy))) ?_
 refine ad (by exact(ua am (W.ga uv))) ?_
 exact an
theorem f16 (W:BaseT C P):eY C 19 (.ref 226) EQ:=bu W.ok W.o16 (bJ W.b16)
theorem f16d (W:BaseT C P):eY C 19 (.ref 226) (sH EQ):=xZ W.ok W.o16 (λu s X=>AT (K:=KH P) (by rw[←W.K];exact X) (T:=219) (its:=[.none]) (n:=0) (by kernel_rfl) (by kernel_rfl) rfl (by kernel_rfl)) (bJ W.b16)
theorem o17 (W:BaseT C P):bX C 233 (aZ (KH P) 233) (aI (KH P) 233) [(ll,0)] ["self"]:=W.fno (.cons rfl (λh=>nomatch h) .nil) (λus hu s _=>fo (λ_=>by kernel_rfl) us hu)
theorem b17 (W:BaseT C P):SL C (aR (aZ (KH P) 233).scope) 20 (aI (KH P) 233) HH:=by
 conv=>arg 2;arg 1;whnf
 conv=>arg 4;whnf
 refine dl (λhok0=>?_) (by kernel_rfl)
 refine ad (by exact(bI (HG (kf d6 rfl (W.ta uv) am) (NM (Ix W.tsub uv) (ky W.ok (fg λ_=>rfl) Wh Ym (rX (d:=0)) (Sl rfl) iR (jp W.ok hok0 (bx (by kernel_rfl)) W.g_str bK W.sfStr (Sl rfl) (bc (λ_ _=>rfl) λ_=>rfl) (uc uv ag)) ag))))) ?_
 exact an
theorem f17 (W:BaseT C P):eY C 21 (.ref 233) Ou:=bu W.ok W.o17 (bJ W.b17)
theorem o8 (W:BaseT C P):bX C 122 (aZ (KH P) 122) (aI (KH P) 122) [(ll,0)] ["self"]:=W.fno (.cons rfl (λh=>nomatch h) .nil) (λus hu s _=>fo (λ_=>by kernel_rfl) us hu)
theorem b8 (W:BaseT C P):SL C (aR (aZ (KH P) 122).scope) 22 (aI (KH P) 122) c8:=by
 conv=>arg 2;arg 1;whnf
 conv=>arg 4;whnf
 refine dl (λhok0=>?_) (by kernel_rfl)
 refine ad (by exact(ua (W.mt W.m13 W.f13 (W.ta uv) ag) ug)) ?_
 refine ad (by exact(cS (um eK uv (up (uc us (uc us ag)))) (ad (ux (Ed W.ok W.J (λ_=>rfl) W.m11 W.get11 W.tk11 (by kernel_rfl) W.fn11 W.f11 (Sl rfl) (W.ta uv) uv)) an) an)) ?_
 refine ad (by exact(cS (um qE (W.bi W.g_len W.sfLen (uc (W.ta uv) ag)) am) (ad (cS (kA (te W.tsub (W.mt W.m17 W.f17 (W.ta uv) ag)) (te W.tsub (W.ta uv))) (ad (nR W.ok W.J W.JS (λ_ _ _=>rfl) (W.ta uv) (iU am) (jp W.ok hok0 (bx (by kernel_rfl)) W.g_str bK W.sfStr (Sl rfl) (bc (λ_ _=>rfl) λ_=>rfl) (uc (W.ta uv) ag))) an) (ad (ux (g7 W.ok W.J (fg λ_=>rfl) Uz Vc W.findAppend dN (iV (d:=0) W.ok W.J) (Sl rfl) (bc (λ_ _=>rfl) λ_=>rfl) (W.ta uv) (uc (jp W.ok hok0 (bx (by kernel_rfl)) W.g_str bK W.sfStr (Sl rfl) (bc (λ_ _=>rfl) λ_=>rfl) (uc (W.ta uv) ag)) ag))) an)) an) an)) ?_
 refine ad (by exact(ux (W.mt W.m16 W.f16d (W.ta uv) ag))) ?_
 exact an
theorem f8 (W:BaseT C P):eY C 23 (.ref 122) F8:=bu W.ok W.o8 (bJ W.b8)
theorem o6 (W:BaseT C P):bX C 101 (aZ (KH P) 101) (aI (KH P) 101) [(ll,0),(ll,1),(ll,2),(ll,3),(ll,4)] ["self","headerlen","maxlen","continuation_ws","splitchars"]:=W.fno (.cons rfl (λh=>nomatch h) (.cons rfl (λh=>nomatch h) (.cons rfl (λh=>nomatch h) (.cons rfl (λh=>nomatch h) (.cons rfl (λh=>nomatch h) .nil))))) (λus hu s _=>Hb (λ_ _ _ _ _=>by kernel_rfl) us hu)
theorem b6 (W:BaseT C P):SL C (aR (aZ (KH P) 101).scope) 24 (aI (KH P) 101) c6:=by
 conv=>arg 2;arg 1;whnf
 conv=>arg 4;whnf
 refine dl (λhok0=>?_) (by kernel_rfl)
 refine ad (by exact(ua uv (W.ga uv))) ?_
 refine ad (by exact(ua uv (W.ga uv))) ?_
 refine ad (by exact(ua (W.bi W.g_len W.sfLen (uc uv ag)) (W.ga uv))) ?_
 refine ad (by exact(ua uv (W.ga uv))) ?_
 refine ad (by exact(ua (ul ag) (W.ga uv))) ?_
 refine ad (by exact(ua (EC W.ok hok0 (bx (by kernel_rfl)) W.g__Accumulator W.newL W.f10 f10_two (Sl rfl) (bc (λ_ _=>rfl) λ_=>rfl) (uc uv ag)) (W.ga uv))) ?_
 exact an
theorem f6 (W:BaseT C P):eY C 25 (.ref 101) F6:=bu W.ok W.o6 (bJ W.b6)
theorem o7 (W:BaseT C P):bX C 108 (aZ (KH P) 108) (aI (KH P) 108) [(ll,0),(ll,1)] ["self","linesep"]:=W.fno (.cons rfl (λh=>nomatch h) (.cons rfl (λh=>nomatch h) .nil)) (λus hu s _=>gF (λ_ _=>by kernel_rfl) us hu)
theorem b7 (W:BaseT C P):SL C (aR (aZ (KH P) 108).scope) 26 (aI (KH P) 108) c7:=by
 conv=>arg 2;arg 1;whnf
 conv=>arg 4;whnf
 refine dl (λhok0=>?_) (by kernel_rfl)
 refine ad (by exact(ux (W.mt W.m8 W.f8 uv ag))) ?_
 refine ad (by exact(bI (ky W.ok (fg λ_=>rfl) VP W2 (qx (d:=0)) (Sl rfl) (bc (λ_ _=>rfl) λ_=>rfl) uv (uc (W.ta uv) ag)))) ?_
 exact an
theorem f7 (W:BaseT C P):eY C 27 (.ref 108) F7:=bu W.ok W.o7 (bJ W.b7)
theorem o9 (W:BaseT C P):bX C 157 (aZ (KH P) 157) (aI (KH P) 157) [(ll,0),(ll,1),(ll,2)] ["self","fws","string"]:=W.fno (.cons rfl (λh=>nomatch h) (.cons rfl (λh=>nomatch h) (.cons rfl (λh=>nomatch h) .nil))) (λus hu s _=>qm (λ_ _ _=>by kernel_rfl) us hu)
theorem b9 (W:BaseT C P):SL C (aR (aZ (KH P) 157).scope) 28 (aI (KH P) 157) c9:=by
 conv=>arg 2;arg 1;whnf
 conv=>arg 4;whnf
 refine dl (λhok0=>?_) (by kernel_rfl)
 refine ad (by exact(ux (W.mt W.m11 W.f11 (W.ta uv) (uc uv (uc uv ag))))) ?_
 refine ad (by exact(cS (um qE (W.bi W.g_len W.sfLen (uc (W.ta uv) ag)) (W.ta uv)) (ad (uf (.v ug) (iG (W.ta uv)) (ad (uf (.v ug) (D1 W.ok hok0 (bx (by kernel_rfl)) W.g_range (bc (λ_ _=>rfl) λ_=>rfl) (uc (aj bV (W.mt W.m18 W.f18 (W.ta uv) ag) am) (uc am (uc (iU am) ag)))) (ad (cS (te W.tsub (ky W.ok (fg λ_=>rfl) Wh Ym (rX (d:=0)) (Sl rfl) iR uv ag)) (ad (ua (W.ts (W.ts (W.ta uv) uv) am) ug) (ad (cS (kA (te W.tsub uv) (um d6 (W.ts uv am) uv)) (ad qq an) an) an)) an) (ad (ua (W.ts (W.ts (W.ta uv) (aj bV uv am)) am) ug) (ad (cS (kA (te W.tsub uv) (um d6 (W.ts uv (iU am)) uv)) (ad qq an) an) an))) (ad Hr an)) (ad qq an)) (ad (ua (W.mt W.m13 W.f13 (W.ta uv) ag) (cV (ut ug (ut ug cf)))) (ad (cS (um qE (W.ta (W.ta uv)) am) (ad (ux (W.mt W.m8 W.f8 uv ag)) (ad (cS (Iw (te W.tsub uv)) (ad (ua us ug) an) an) an)) an) (ad (ux (W.mt W.m11 W.f11 (W.ta uv) (uc uv (uc uv ag)))) (ad DQ an))))) (ad (ua (W.mt W.m12 W.f12 (W.ta uv) (uc uv ag)) ug) (ad (ux (g7 W.ok W.J (fg λ_=>rfl) Uz Vc W.findAppend dN (iV (d:=0) W.ok W.J) (Sl rfl) (bc (λ_ _=>rfl) λ_=>rfl) (W.ta uv) (uc (jp W.ok hok0 (bx (by kernel_rfl)) W.g_str bK W.sfStr (Sl rfl) (bc (λ_ _=>rfl) λ_=>rfl) (uc (W.ta uv) ag)) ag))) (ad (ux (W.mt W.m16 W.f16 (W.ta uv) (uc uv ag))) an)))) an)) ?_
 exact an
theorem f9 (W:BaseT C P):eY C 29 (.ref 157) F9:=bu W.ok W.o9 (bJ W.b9)
theorem o0 (W:BaseT C P):bX C 38 (aZ (KH P) 38) (aI (KH P) 38) [(ll,0),(ll,1)] ["self","ws"]:=W.fno (.cons rfl (λh=>nomatch h) (.cons rfl (λh=>nomatch h) .nil)) (λus hu s _=>gF (λ_ _=>by kernel_rfl) us hu)
theorem b0 (W:BaseT C P):SL C (aR (aZ (KH P) 38).scope) 30 (aI (KH P) 38) c0:=by
 conv=>arg 2;arg 1;whnf
 conv=>arg 4;whnf
 refine dl (λhok0=>?_) (by kernel_rfl)
 refine ad (by exact(ua uv (W.ga uv))) ?_
 refine ad (by exact(Dn rfl rfl (by decide) hok0 (up (uc (kB W.ok hok0 (bx (by kernel_rfl)) W.g_Whitespace W.readsW W.attrS (λ_=>rfl)) (uc (kB W.ok hok0 (bx (by kernel_rfl)) W.g_Whitespace W.readsW W.attrT (λ_=>rfl)) ag))) (λ_=>rfl) (J7 (bx (by kernel_rfl)) (bx (by kernel_rfl)) (by kernel_rfl) (by kernel_rfl)))) ?_
 refine ad (by exact(ua (ul ag) ug)) ?_
 refine ad (by exact(Dy (λ_=>rfl) (λ_=>rfl) am ug ug ug)) ?_
 refine ad (by exact(uf (.v ug) (iG (W.ta uv)) (ad (cS (um d6 uv uv) (ad (ua (aj aF uv am) ug) (ad (ua (aj aF uv am) ug) an)) (ad (cS (um d6 uv uv) (ad (ua (aj aF uv am) ug) (ad (ua (aj aF uv am) ug) (ad (cS (um kn uv (W.bi W.g_len W.sfLen (uc uv ag))) (ad (ua (aj aF uv (aj bq (ul (uc am ag)) (aj aF (aj bV uv (W.bi W.g_len W.sfLen (uc uv ag))) am))) ug) an) an) (ad (ua (aj aF (W.ts uv uv) am) (Aa uv uv)) (ad (ua am ug) an))))) (ad qq an)) an)) an) an)) ?_
 refine ad (by exact(ua uv (W.ga uv))) ?_
 refine ad (by exact(ua uv (W.ga uv))) ?_
 refine ad (by exact(ua (up (uc (jp W.ok hok0 (bx (by kernel_rfl)) W.g_tuple bK (Ao (d:=0)) (Sl rfl) (bc (λ_ _=>rfl) λ_=>rfl) (uc uv ag)) (uc uv ag))) (W.ga uv))) ?_
 refine ad (by exact(ua (kf Bk rfl (W.bi W.g_len W.sfLen (uc uv ag)) am) (W.ga uv))) ?_
 exact an
theorem f0 (W:BaseT C P):eY C 31 (.ref 38) F0:=bu W.ok W.o0 (bJ W.b0)
theorem i0 (W:BaseT C P):eY C 31 (.ref 38) I0:=CY PN W.f0
theorem o1 (W:BaseT C P):bX C 45 (aZ (KH P) 45) (aI (KH P) 45) [(ll,0)] ["self"]:=W.fno (.cons rfl (λh=>nomatch h) .nil) (λus hu s _=>fo (λ_=>by kernel_rfl) us hu)
theorem b1 (W:BaseT C P):SL C (aR (aZ (KH P) 45).scope) 32 (aI (KH P) 45) p1:=by
 conv=>arg 2;arg 1;whnf
 conv=>arg 4;whnf
 refine dl (λhok0=>?_) (by kernel_rfl)
 refine ad (by exact(ua (W.ta uv) (cV (ut ug (ut ug cf))))) ?_
 refine ad (by exact(bI (W.bi W.g_max (k0 (d:=0)) (uc (aj bV (W.bi W.g_len W.sfLen (uc uv ag)) am) (uc uv ag))))) ?_
 exact an
theorem f1 (W:BaseT C P):eY C 33 (.ref 45) H1:=fc NB (bu W.ok W.o1 (bJ W.b1))
theorem o2 (W:BaseT C P):bX C 52 (aZ (KH P) 52) (aI (KH P) 52) [(ll,0),(ll,1)] ["self","tabsize"]:=W.fno (.cons rfl (λh=>nomatch h) (.cons rfl (λh=>nomatch h) .nil)) (λus hu s _=>gF (λ_ _=>by kernel_rfl) us hu)
theorem b2 (W:BaseT C P):SL C (aR (aZ (KH P) 52).scope) 34 (aI (KH P) 52) p2:=by
 conv=>arg 2;arg 1;whnf
 conv=>arg 4;whnf
 refine dl (λhok0=>?_) (by kernel_rfl)
 refine ad (by exact(ua (W.ta uv) (cV (ut ug (ut ug cf))))) ?_
 refine ad (by exact(ua am ug)) ?_
 refine ad (by exact(fL C6 (uf (.v ug) (et W.ok hok0 (bx (by kernel_rfl)) W.g_range (bc (λ_ _=>rfl) λ_=>rfl) (uc uv (uc (W.bi W.g_len W.sfLen (uc uv ag)) ag))) (ad (ua (aj aF uv (aj bq (aj wa uv uv) (W.ts uv uv))) ug) an) an))) ?_
 refine ad (by exact(bI (aj aF uv (aj bq uv (aj aF uv (W.ta uv)))))) ?_
 exact an
theorem f2 (W:BaseT C P):eY C 35 (.ref 52) H2:=fc L5 (bu W.ok W.o2 (bJ W.b2))
theorem o3 (W:BaseT C P):bX C 66 (aZ (KH P) 66) (aI (KH P) 66) [(ll,0),(ll,1)] ["self","other"]:=W.fno (.cons rfl (λh=>nomatch h) (.cons rfl (λh=>nomatch h) .nil)) (λus hu s _=>gF (λ_ _=>by kernel_rfl) us hu)
theorem b3 (W:BaseT C P):SL C (aR (aZ (KH P) 66).scope) 36 (aI (KH P) 66) p3:=by
 conv=>arg 2;arg 1;whnf
 conv=>arg 4;whnf
 refine dl (λhok0=>?_) (by kernel_rfl)
 refine ad (by exact(ua (aj aF (W.bi W.g_max (k0 (d:=0)) (uc (W.mt W.m1 W.f1 uv ag) (uc (W.mt W.m1 W.f1 uv ag) ag))) am) ug)) ?_
 refine ad (by exact(ua (ul ag) ug)) ?_
 refine ad (by exact(fL Ew (uf (.v ug) (et W.ok hok0 (bx (by kernel_rfl)) W.g_range (bc (λ_ _=>rfl) λ_=>rfl) (uc am (uc (aj aF uv am) ag))) (ad (cS (um eK (W.mt W.m2 W.f2 uv (uc uv ag)) (W.mt W.m2 W.f2 uv (uc uv ag))) (ad (ux (g7 W.ok W.J (fg λ_=>rfl) Uz Vc W.findAppend dN (iV (d:=0) W.ok W.J) (Sl rfl) (bc (λ_ _=>rfl) λ_=>rfl) uv (uc (up (uc uv (uc (W.mt W.m2 W.f2 uv (uc uv ag)) (uc (W.mt W.m2 W.f2 uv (uc uv ag)) ag)))) ag))) an) an) an) an))) ?_
 refine ad (by exact(bI uv)) ?_
 exact an
theorem f3 (W:BaseT C P):eY C 37 (.ref 66) H3:=fc Kb (bu W.ok W.o3 (bJ W.b3))
theorem o4 (W:BaseT C P):bX C 73 (aZ (KH P) 73) (aI (KH P) 73) [(ll,0),(ll,1)] ["self","other"]:=W.fno (.cons rfl (λh=>nomatch h) (.cons rfl (λh=>nomatch h) .nil)) (λus hu s _=>gF (λ_ _=>by kernel_rfl) us hu)
theorem b4 (W:BaseT C P):SL C (aR (aZ (KH P) 73).scope) 38 (aI (KH P) 73) p4:=by
 conv=>arg 2;arg 1;whnf
 conv=>arg 4;whnf
 refine dl (λhok0=>?_) (by kernel_rfl)
 refine ad (by exact(cS (um kn (W.ta uv) (W.ta uv)) (ad (bI cu) an) an)) ?_
 refine ad (by exact(cS (kA (te W.tsub (W.ta uv)) (te W.tsub (W.ta uv))) (ad (bI (kf Bk rfl (W.ta uv) (W.ta uv))) an) an)) ?_
 refine ad (by exact(ua (aj aF (W.bi W.g_max (k0 (d:=0)) (uc (W.mt W.m1 W.f1 uv ag) (uc (W.mt W.m1 W.f1 uv ag) ag))) am) ug)) ?_
 refine ad (by exact(fL EI (uf (.v ug) (et W.ok hok0 (bx (by kernel_rfl)) W.g_range (bc (λ_ _=>rfl) λ_=>rfl) (uc am (uc (aj aF uv am) ag))) (ad (cS (um kn (W.mt W.m2 W.f2 uv (uc uv ag)) (W.mt W.m2 W.f2 uv (uc uv ag))) (ad (bI cu) an) an) an) an))) ?_
 refine ad (by exact(bI cu)) ?_
 exact an
theorem f4 (W:BaseT C P):eY C 39 (.ref 73) H4:=fc Me (bu W.ok W.o4 (bJ W.b4))
theorem o5 (W:BaseT C P):bX C 80 (aZ (KH P) 80) (aI (KH P) 80) [(ll,0),(ll,1)] ["self","other"]:=W.fno (.cons rfl (λh=>nomatch h) (.cons rfl (λh=>nomatch h) .nil)) (λus hu s _=>gF (λ_ _=>by kernel_rfl) us hu)
theorem b5 (W:BaseT C P):SL C (aR (aZ (KH P) 80).scope) 40 (aI (KH P) 80) p5:=by
 conv=>arg 2;arg 1;whnf
 conv=>arg 4;whnf
 refine dl (λhok0=>?_) (by kernel_rfl)
 refine ad (by exact(ua (aj aF (W.bi W.g_max (k0 (d:=0)) (uc (W.mt W.m1 W.f1 uv ag) (uc (W.mt W.m1 W.f1 uv ag) ag))) am) ug)) ?_
 refine ad (by exact(ua (ul ag) ug)) ?_
 refine ad (by exact(fL Dm (uf (.v ug) (et W.ok hok0 (bx (by kernel_rfl)) W.g_range (bc (λ_ _=>rfl) λ_=>rfl) (uc am (uc (aj aF uv am) ag))) (ad (cS (um kn (W.mt W.m2 W.f2 uv (uc uv ag)) (W.mt W.m2 W.f2 uv (uc uv ag))) (ad (ux (g7 W.ok W.J (fg λ_=>rfl) Uz Vc W.findAppend dN (iV (d:=0) W.ok W.J) (Sl rfl) (bc (λ_ _=>rfl) λ_=>rfl) uv (uc (up (uc uv (uc (W.mt W.m2 W.f2 uv (uc uv ag)) (uc (W.mt W.m2 W.f2 uv (uc uv ag)) ag)))) ag))) an) an) an) an))) ?_
 refine ad (by exact(bI uv)) ?_
 exact an
theorem f5 (W:BaseT C P):eY C 41 (.ref 80) H5:=fc L8 (bu W.ok W.o5 (bJ W.b5))
theorem _root_.Mine.Internal.Base.o19 (W:Base C P):bX C 255 (aZ (KH P) 255) (aI (KH P) 255) [(ll,0)] ["s"]:=W.fno (.cons rfl (λh=>nomatch h) .nil) (λus hu s _=>fo (λ_=>by kernel_rfl) us hu)
theorem _root_.Mine.Internal.Base.b19 (W:Base C P):SL C (aR (aZ (KH P) 255).scope) 42 (aI (KH P) 255) Rl:=by
 conv=>arg 2;arg 1;whnf
 conv=>arg 4;whnf
 refine dl (λhok0=>?_) (by kernel_rfl)
 refine ad (by exact(bI uv)) ?_
 exact an
theorem _root_.Mine.Internal.Base.f19 (W:Base C P):eY C 43 (.ref 255) QZ:=fc GQ (bu W.ok W.o19 (bJ W.b19))
theorem o20 (W:BaseT C P):bX C 269 (aZ (KH P) 269) (aI (KH P) 269) [(ll,0),(ll,1)] ["s","amount"]:=W.fno (.cons rfl (λh=>nomatch h) (.cons rfl (λh=>nomatch h) .nil)) (λus hu s _=>gF (λ_ _=>by kernel_rfl) us hu)
theorem b20 (W:BaseT C P):SL C (aR (aZ (KH P) 269).scope) 44 (aI (KH P) 269) Rd:=by
 conv=>arg 2;arg 1;whnf
 conv=>arg 4;whnf
 refine dl (λhok0=>?_) (by kernel_rfl)
 refine ad (by exact(ua am ug)) ?_
 refine ad (by exact(fL As (uV (kA (te W.tsub uv) (um d6 (W.ts uv uv) us)) (ad (mQ rfl (λh=>nomatch h) hok0 yv am) (ad (mQ rfl (λh=>nomatch h) hok0 lf am) an)) an))) ?_
 refine ad (by exact(ua (aj bV (W.bi W.g_len W.sfLen (uc uv ag)) am) ug)) ?_
 refine ad (by exact(fL zT (uV (kA (te W.tsub uv) (um d6 (W.ts uv uv) us)) (ad (mQ rfl (λh=>nomatch h) hok0 lf am) (ad (mQ rfl (λh=>nomatch h) hok0 lf am) an)) an))) ?_
 refine ad (by exact(bI (qf W.ok W.J W.JS uv (gj uv) (gj (aj aF uv am))))) ?_
 exact an
theorem f20 (W:BaseT C P):eY C 45 (.ref 269) Oo:=fc Hd (bu W.ok W.o20 (bJ W.b20))
theorem o21 (W:BaseT C P):bX C 274 (aZ (KH P) 274) (aI (KH P) 274) [(ll,0)] ["script"]:=W.fno (.cons rfl (λh=>nomatch h) .nil) (λus hu s _=>fo (λ_=>by kernel_rfl) us hu)
theorem b21 (W:BaseT C P):SL C (aR (aZ (KH P) 274).scope) 46 (aI (KH P) 274) Ql:=by
 conv=>arg 2;arg 1;whnf
 conv=>arg 4;whnf
 refine dl (λhok0=>?_) (by kernel_rfl)
 refine ad (by exact(ua (ul (uc am (uc am (uc am (uc am (uc am ag)))))) ug)) ?_
 refine ad (by exact(uf (.p (λ_=>rfl) (λ_=>rfl) ug ug) (pV W.ok hok0 (bx (by kernel_rfl)) W.g_enumerate (bc (λ_ _=>rfl) λ_=>rfl) (uc uv ag)) (ad (nR W.ok W.J W.JS (λ_ _ _=>rfl) uv (aj dz uv am) (aj dz uv (aj CV am am))) an) an)) ?_
 refine ad (by exact(ua (aj aF am (aj dz (W.ts uv am) am)) ug)) ?_
 refine ad (by exact(ua (aj aF am (aj dz (W.ts uv am) am)) ug)) ?_
 refine ad (by exact(cS (um d6 (aj bq am uv) uv) (ad (mQ rfl (λ_=>bx (by kernel_rfl)) hok0 lf am) an) an)) ?_
 refine ad (by exact(ua (W.ts (cH (by kernel_rfl) rfl (λ_ _=>rfl) (et W.ok hok0 (bx (by kernel_rfl)) W.g_range (bc (λ_ _=>rfl) λ_=>rfl) (uc am (uc (aj aF uv am) ag))) (λhok1=>(.v ug)) (λhok1=>(gI (um d6 (aj dz (aj bq uv uv) uv) am))) (λhok1=>uv)) am) ug)) ?_
 refine ad (by exact(ua (aj aF am (aj dz (W.ts uv am) (aj bV uv am))) ug)) ?_
 refine ad (by exact(ua (ul (uc (ul (uc uv (uc am (uc am ag)))) (uc (aj aF (aj bq (ul (uc uv ag)) uv) (ul (uc am (uc am ag)))) (uc (aj bq (ul (uc uv ag)) uv) (uc (ul (uc uv (uc uv (uc am ag)))) ag))))) ug)) ?_
 refine ad (by exact(bI (up (uc uv (uc uv (uc uv (uc (aj dz (W.ts uv am) uv) (uc (W.ts uv (aj dz (W.ts uv am) am)) ag)))))))) ?_
 exact an
theorem f21 (W:BaseT C P):eY C 47 (.ref 274) Oe:=bu W.ok W.o21 (bJ W.b21)
theorem o22 (W:BaseT C P):bX C 279 (aZ (KH P) 279) (aI (KH P) 279) [(ll,0),(ll,1),(ll,2)] ["told","ring","head"]:=W.fno (.cons rfl (λh=>nomatch h) (.cons rfl (λh=>nomatch h) (.cons rfl (λh=>nomatch h) .nil))) (λus hu s _=>qm (λ_ _ _=>by kernel_rfl) us hu)
theorem b22 (W:BaseT C P):SL C (aR (aZ (KH P) 279).scope) 48 (aI (KH P) 279) IO:=by
 conv=>arg 2;arg 1;whnf
 conv=>arg 4;whnf
 refine dl (λhok0=>?_) (by kernel_rfl)
 refine ad (by exact(ua (aj aF us (ky W.ok (fg λ_=>rfl) VP W2 (qx (d:=0)) (Sl rfl) (bc (λ_ _=>rfl) λ_=>rfl) us (uc (cH (by kernel_rfl) rfl (λ_ _=>rfl) (pV W.ok hok0 (bx (by kernel_rfl)) W.g_enumerate (bc (λ_ _=>rfl) λ_=>rfl) (uc uv ag)) (λhok1=>(.p (λ_=>rfl) (λ_=>rfl) ug ug)) (λhok1=>dg) (λhok1=>(aj aF (aj bq us (aj bV uv am)) (W.bi W.g_chr (Ha (d:=0)) (uc (aj aF am uv) ag))))) ag))) ug)) ?_
 refine ad (by exact(ua (W.nw W.g__ValueFormatter W.new1 W.f6 (uc (aj bq am uv) (uc (aj bq am uv) (uc us (uc us ag))))) ug)) ?_
 refine ad (by exact(uf (.v ug) (iG uv) (ad (ux (W.mt W.m9 W.f9 uv (uc us (uc uv ag)))) an) an)) ?_
 refine ad (by exact(ua (ky W.ok (fg λ_=>rfl) VF PySem.F.type_str_split (Bc (d:=0)) (Sl rfl) (bc (λ_ _=>rfl) λ_=>rfl) (W.mt W.m7 W.f7 uv (uc us ag)) (uc us ag)) ug)) ?_
 refine ad (by exact(ua (aj aF (aj bq us uv) (W.ts uv am)) (Aa uv am))) ?_
 refine ad (by exact(bI (yC (by kernel_rfl) rfl (λ_ _=>rfl) (iG uv) (λhok1=>(.v ug)) (λhok1=>dg) (λ_ _=>rfl) (λhok1=>(pV W.ok hok1 (bx (by kernel_rfl)) W.g_enumerate (bc (λ_ _=>rfl) λ_=>rfl) (uc (Hy uv) ag))) (λhok1=>(.p (λ_=>rfl) (λ_=>rfl) ug ug)) (λhok1=>(gI (um eK uv us))) (λhok1=>uv)))) ?_
 exact an
theorem f22 (W:BaseT C P):eY C 49 (.ref 279) Ov:=bu W.ok W.o22 (bJ W.b22)
theorem o23 (W:BaseT C P):bX C 284 (aZ (KH P) 284) (aI (KH P) 284) [(Se,0),(Se,1)] ["places","ring"]:=W.fno (.cons rfl (λ_=>bx (by kernel_rfl)) (.cons rfl (λ_=>bx (by kernel_rfl)) .nil)) (λus hu s _=>gF (λ_ _=>by kernel_rfl) us hu)
theorem b23 (W:BaseT C P):uY C (aR (aZ (KH P) 284).scope) (λenv=>env.code=.ref 283/\env.qual="_law_lead.<locals>.") 50 (aI (KH P) 284) (aI (KH P) 284) Rg:=by
 conv=>arg 2;arg 1;whnf
 conv=>arg 6;whnf
 refine jN (λhok0=>?_) (by kernel_rfl)
 refine cY (jW (by exact(pO (ya (bx (by kernel_rfl))) (λ_ _=>rfl) (λ_=>rfl) (il z9 (cH (by kernel_rfl) rfl (λ_ _=>rfl) (iG (cC rfl hok0)) (λhok1=>(.v (iY rfl (λh=>nomatch h) hok1))) (λhok1=>dg) (λhok1=>(aj dz (aj bV (cC rfl hok1) (j5 W.ok W.J W.JS (λ_ _=>rfl) (cC rfl hok1) am)) (cC rfl hok1))))) (iY rfl (λ_=>bx (by kernel_rfl)) hok0)))) ?_
 refine cY (by exact(Du (λ_ _=>rfl) (λ_ _=>rfl) (λ_=>rfl) (W.se_sk (jp W.ok hok0 (bx (by kernel_rfl)) W.g_len ck W.sfLen (Sl rfl) (bc (λ_ _=>rfl) λ_=>rfl) (cO (cC rfl hok0) ag (λ_=>rfl))) hok0 (bx (by kernel_rfl)) (bx (by kernel_rfl)) (bc (λ_ _=>rfl) λ_=>rfl) rfl ⟨by kernel_rfl,by kernel_rfl,by kernel_rfl,by kernel_rfl,by kernel_rfl,by kernel_rfl,λ_=>rfl,λ_ _ _ _ _ _ _=>by kernel_rfl⟩ (by kernel_rfl) (λW hok1=>(ly W.ok hok1 (bx (by kernel_rfl)) W.g__strxfrm W.k19 (mJ W.f19) (Sl rfl) (bc (λ_ _=>rfl) λ_=>rfl) (cO (aj bq (iW (by kernel_rfl)) (j5 W.ok W.J W.JS (λ_ _=>rfl) (cC rfl hok1) (cC rfl hok1))) ag (λ_=>rfl))))) (iY rfl (λh=>nomatch h) hok0))) ?_
 refine cY (jW (by exact(pO (λ_ _=>rfl) (λ_ _=>rfl) (λ_=>rfl) (aj aF (il zi (cH (by kernel_rfl) rfl (λ_ _=>rfl) (iG (cC rfl hok0)) (λhok1=>(.v (iY rfl (λh=>nomatch h) hok1))) (λhok1=>dg) (λhok1=>(j5 W.ok W.J W.JS (λ_ _=>rfl) (cC rfl hok1) (cC rfl hok1))))) (AE (Sl rfl) (cO (cC rfl hok0) ag (λ_=>rfl)))) (iY rfl (λ_=>bx (by kernel_rfl)) hok0)))) ?_
 refine cY (jW (by exact(fL (SO (λe=>aV e _) Cn) (gV (by kernel_rfl) rfl (λ_ _=>rfl) (wy W.ok hok0 (bx (by kernel_rfl)) W.g_range (bc (λ_ _=>rfl) λ_=>rfl) (cO (jp W.ok hok0 (bx (by kernel_rfl)) W.g_len ck W.sfLen (Sl rfl) (bc (λ_ _=>rfl) λ_=>rfl) (cO (cC rfl hok0) ag (λ_=>rfl))) ag (λ_=>rfl))) (λhok1=>(.v (iY rfl (λh=>nomatch h) hok1))) (λhok1=>dg) (λhok1=>(ly W.ok hok1 (bx (by kernel_rfl)) W.g__strip_padding W.k20 (mJ W.f20) (Sl rfl) (bc (λ_ _=>rfl) λ_=>rfl) (cO (aj aF (aj bq (iW (by kernel_rfl)) (j5 W.ok W.J W.JS (λ_ _=>rfl) (cC rfl hok1) (aj aF (cC rfl hok1) am))) (iW (by kernel_rfl))) (cO (aj aF (j5 W.ok W.J W.JS (λ_ _=>rfl) (cC rfl hok1) (cC rfl hok1)) am) ag (λ_=>rfl)) (λ_=>rfl)))) hok0 rfl (fV (bx (by kernel_rfl)) (by kernel_rfl) (by kernel_rfl)))))) ?_
 refine cY (jW (by exact(bI (vC (Sl rfl) (cO (cC rfl hok0) (cO (ky W.ok (fg λ_=>rfl) VP W2 (qx (d:=0)) (Sl rfl) (bc (λ_ _=>rfl) λ_=>rfl) (iW (by kernel_rfl)) (cO (cC rfl hok0) ag (λ_=>rfl))) ag (λ_=>rfl)) (λ_=>rfl)))))) ?_
 exact bJ an
theorem f23 (W:BaseT C P):eY C 51 (.ref 284) EX:=fc G7 (bu W.ok W.o23 (ir W.b23 λenv x=>⟨x.code.trans (by kernel_rfl),x.qual.trans (by kernel_rfl)⟩))
theorem o24 (W:BaseT C P):bX C 289 (aZ (KH P) 289) (aI (KH P) 289) [(Se,0),(Se,1),(ll,0)] ["ring","step","count"]:=W.fno (.cons rfl (λ_=>bx (by kernel_rfl)) (.cons rfl (λ_=>bx (by kernel_rfl)) (.cons rfl (λh=>nomatch h) .nil))) (λus hu s _=>qm (λ_ _ _=>by kernel_rfl) us hu)
theorem b24 (W:BaseT C P):SL C (aR (aZ (KH P) 289).scope) 52 (aI (KH P) 289) Rt:=by
 conv=>arg 2;arg 1;whnf
 conv=>arg 4;whnf
 refine dl (λhok0=>?_) (by kernel_rfl)
 refine ad (by exact(ua (W.bi W.g_min (AQ (d:=0)) (uc (il zC (cH (by kernel_rfl) rfl (λ_ _=>rfl) (et W.ok hok0 (bx (by kernel_rfl)) W.g_range (bc (λ_ _=>rfl) λ_=>rfl) (uc am (uc uv ag))) (λhok1=>(.v ug)) (λhok1=>dg) (λhok1=>(up (uc (aj dz (aj bq uv uv) uv) (uc uv ag)))))) ag)) (cV (ut ug (ut ug cf))))) ?_
 refine ad (by exact(ua (W.bi W.g_min (AQ (d:=0)) (uc (il Am (cH (by kernel_rfl) rfl (λ_ _=>rfl) (et W.ok hok0 (bx (by kernel_rfl)) W.g_range (bc (λ_ _=>rfl) λ_=>rfl) (uc am (uc uv ag))) (λhok1=>(.v ug)) (λhok1=>dg) (λhok1=>(up (uc (aj dz (aj bq (iU uv) uv) uv) (uc uv ag)))))) ag)) (cV (ut ug (ut ug cf))))) ?_
 refine ad (by exact(ua (ul (uc am ag)) ug)) ?_
 refine ad (by exact(fL Bz (uV (um BV (W.bi W.g_len W.sfLen (uc uv ag)) uv) (ad (ua (W.ts uv (iU am)) ug) (ad (ux (g7 W.ok W.J (fg λ_=>rfl) Uz Vc W.findAppend dN (iV (d:=0) W.ok W.J) (Sl rfl) (bc (λ_ _=>rfl) λ_=>rfl) uv (uc (uH (um BV (aj aF uv uv) uv) (aj aF uv uv) (uH (um kn uv uv) (aj bV uv uv) (aj bV (aj aF uv uv) uv))) ag))) an)) an))) ?_
 refine ad (by exact(ua (ul (uc (up (uc uv (uc (aj bV uv uv) ag))) (uc (up (uc uv (uc (aj bV uv uv) ag))) (uc (up (uc (aj aF uv uv) (uc (aj bV (aj aF uv uv) uv) ag))) ag)))) ug)) ?_
 refine ad (by exact(bI (up (uc uv (uc (il BI (cH (by kernel_rfl) rfl (λ_ _=>rfl) (iG uv) (λhok1=>(.v (cV (ut ug (ut ug cf))))) (λhok1=>(gI (um qE uv am))) (λhok1=>(up (uc uv (uc uv ag)))))) ag))))) ?_
 exact an
theorem f24 (W:BaseT C P):eY C 53 (.ref 289) Os:=fc GP (bu W.ok W.o24 (bJ W.b24))
theorem o25 (W:BaseT C P):bX C 294 (aZ (KH P) 294) (aI (KH P) 294) [(Se,0)] ["sorts"]:=W.fno (.cons rfl (λ_=>bx (by kernel_rfl)) .nil) (λus hu s _=>fo (λ_=>by kernel_rfl) us hu)
theorem b25 (W:BaseT C P):SL C (aR (aZ (KH P) 294).scope) 54 (aI (KH P) 294) Rf:=by
 conv=>arg 2;arg 1;whnf
 conv=>arg 4;whnf
 refine dl (λhok0=>?_) (by kernel_rfl)
 refine ad (by exact(ua (W.bi W.g_max (IV (d:=0)) (uc (il zO (cH (by kernel_rfl) rfl (λ_ _=>rfl) (iG uv) (λhok1=>(.v (cV (ut ug (ut ug cf))))) (λhok1=>dg) (λhok1=>uv))) ag)) ug)) ?_
 refine ad (by exact(fL (SO (λe=>aV e _) Cj) (gV (by kernel_rfl) rfl (λ_ _=>rfl) (et W.ok hok0 (bx (by kernel_rfl)) W.g_range (bc (λ_ _=>rfl) λ_=>rfl) (uc am (uc (aj aF uv am) ag))) (λhok1=>(.v ug)) (λhok1=>dg) (λhok1=>(W.bi W.g_sum (y6 (d:=0)) (uc (il zG (cH (by kernel_rfl) rfl (λ_ _=>rfl) (iG uv) (λhok2=>(.v (cV (ut ug (ut ug cf))))) (λhok2=>(gI (um d6 uv uv))) (λhok2=>uv))) ag))) hok0 rfl (fV (bx (by kernel_rfl)) (by kernel_rfl) (by kernel_rfl))))) ?_
 refine ad (by exact(bI (up (uc (jp W.ok hok0 (bx (by kernel_rfl)) W.g_tuple bK (Ao (d:=0)) (Sl rfl) (bc (λ_ _=>rfl) λ_=>rfl) (uc uv ag)) (uc am ag))))) ?_
 exact an
theorem f25 (W:BaseT C P):eY C 55 (.ref 294) Ol:=fc HL (bu W.ok W.o25 (bJ W.b25))
theorem o26 (W:BaseT C P):bX C 299 (aZ (KH P) 299) (aI (KH P) 299) [(ll,0),(Se,0)] ["sorts","size"]:=W.fno (.cons rfl (λh=>nomatch h) (.cons rfl (λ_=>bx (by kernel_rfl)) .nil)) (λus hu s _=>gF (λ_ _=>by kernel_rfl) us hu)
theorem b26 (W:BaseT C P):SL C (aR (aZ (KH P) 299).scope) 56 (aI (KH P) 299) Ru:=by
 conv=>arg 2;arg 1;whnf
 conv=>arg 4;whnf
 refine dl (λhok0=>?_) (by kernel_rfl)
 refine ad (by exact(bI (aj bq uv (W.bi W.g_sum (y6 (d:=0)) (uc (il AB (cH (by kernel_rfl) rfl (λ_ _=>rfl) (iG uv) (λhok1=>(.v (cV (ut ug (ut ug cf))))) (λhok1=>dg) (λhok1=>(aj bq (iU (aj wa (iU uv) uv)) uv)))) ag))))) ?_
 exact an
theorem f26 (W:BaseT C P):eY C 57 (.ref 299) CK:=fc HF (bu W.ok W.o26 (bJ W.b26))
end
end BaseT
noncomputable section
variable (pS pR pN:Nat)(a b c d e g h i j l m p s t u A B C D E F H I L M N P Q S T:V)(oa ob oc od oe og oh oi oj ol om op os ot ou oA oB oC oD oE oF oH oI oL oM oN oP oQ oS oT:OV)(A0 A1 A2 A3 A4:V)(C0 C1 C2 C3 C4 C5:Nat)(it:It)(st:St)(k:KV)(R:Fm->SB)(κ:Fl->Fm->SB)
def uk (pS pR pN:Nat)(b e g:V)(C0 C1 C2 C3 C4 C5:Nat)(kk:OV->OV->OV->OV->OV->OV->SB)(kr:V->OV->OV->OV->OV->OV->OV->SB)(ih:OV->OV->OV->OV->OV->OV->It->SB)(oh oi oj ol om op:OV)(it:It)(st:St):Si:=aY st it (kk oh oi oj ol om op st) λy1 it2=>(@du.rec (λ_=>Si) (λv3=>((λ(J4:V->V->SB)=>((xt pS pR pN) ⟨no::sm b::no::no::sm e::sm g::Sa v3::oi::oj::ol::om::op::cq 18,[C0,C1,C2,C3,C4,C5]⟩ st λv54 s55=>(iB 2 v54 s55 λl56=>(dc l56 λv57 l58=>(dc l58 λv59 l60=>(ge l60 (J4 v57 v59 s55))))))) (λx6 x7 s5=>((λ(J8:V->V->SB)=>(fC C0 s5 λx45=>(fC C1 s5 λx46=>(Os [x45,x46,v3] s5 λv47 s48=>(iB 2 v47 s48 λl49=>(dc l49 λv50 l51=>(dc l51 λv52 l53=>(ge l53 (J8 v50 v52 s48))))))))) (λx10 x11 s9=>(aQ x7 (.str [97,9]) s9 λv12 s13=>(St.push s13 .hid λd14 s15=>St.push s15 (fQ 0 d14) λn16 s17=>I0 [(.ref n16),v12] s17 λv18 s19=>sK v18 .none s19 λb20=>aD b20 ((λ(x21:V)=>((λ(J22:Si->SB)=>(kI x6 x10 s19 λc25=>(aD c25 (J22 Se s19) (getAttr x21 3 s19 λv26 s27=>(Ol [x11] s27 λv28 s29=>(kI v26 v28 s29 λc30=>(J22 c30 s29))))))) (λb23 s24=>(aD b23 (kr (.bool ll) (Sa v3) (Sa x6) (Sa x7) (Sa x10) (Sa x11) (Sa x21) s24) (getAttr x21 1 s24 λv31 s32=>(getAttr x21 2 s32 λv33 s34=>(getAttr x21 4 s34 λv35 s36=>(fC C0 s36 λx37=>(fC C0 s36 λx38=>(iu v3 x38 s36 λc39=>(kI (.tup [v31,v33,v35]) (.tup [x37,v3,(.bool c39)]) s36 λc40=>(aD c40 (kr (.bool ll) (Sa v3) (Sa x6) (Sa x7) (Sa x10) (Sa x11) (Sa x21) s36) (bB g λn41=>St.get s36 n41 λo42=>gQ o42 λ_=>(jQ g [(.tup [x21,x7,x11])] s36 λv43 s44=>(Oz v43 (ih (Sa v3) (Sa x6) (Sa x7) (Sa x10) (Sa x11) (Sa x21) it2 s44)))))))))))))))) (.ref n16)) ll))))))) (λ_ _=>ll) y1)
def wY (pS pR pN:Nat)(b e g:V)(C0 C1 C2 C3 C4 C5:Nat)(kk:OV->OV->OV->OV->OV->OV->SB)(kr:V->OV->OV->OV->OV->OV->OV->SB)(n:Nat):OV->OV->OV->OV->OV->OV->It->SB:=@Tb (λ_=>_) (λ_ _ _ _ _ _ _ _=>ll) (λ_ ih=>(uk pS pR pN) b e g C0 C1 C2 C3 C4 C5 kk kr ih) n
def uw (pS pR pN:Nat):CS:=(aq (aV (xt pS pR pN) (fM 2 (bh (aw ll 7) (bh (aw ll 8) eW)))) (aq (aV (fA Os (ae (aa Se 0) (ae (aa Se 1) (ae (aa ll 6) av)))) (fM 2 (bh (aw ll 9) (bh (aw ll 10) eW)))) (aq (aV (iF 0 I0 (ae (aA aQ (aa ll 8) (ao (.str [97,9]))) av)) (aw ll 11)) (aq (ij (Rh (bR kI (aa ll 7) (aa ll 9)) (bR kI (bv (aa ll 11) 3) (fA Ol (ae (aa ll 10) av)))) (aq (dq (ao (.bool ll))) aH) aH) (aq (ij (bR kI (cN (ae (bv (aa ll 11) 1) (ae (bv (aa ll 11) 2) (ae (bv (aa ll 11) 4) av)))) (cN (ae (aa Se 0) (ae (aa ll 6) (ae (uA iu (aa ll 6) (aa Se 0)) av))))) (aq (dq (ao (.bool ll))) aH) aH) (aq (dI (lQ jQ (aa ll 5) (ae (cN (ae (aa ll 11) (ae (aa ll 8) (ae (aa ll 10) av)))) av))) aH))))))
def zZ (pS pR pN:Nat)(n:Nat)(κ:KF):Fs.Fn (.n (.v (.n (.n (.v (.v (.o (.o (.o (.o (.o (.o (ns 18 (.e 6)))))))))))))) (It->SB):=λb e g oh oi oj ol om op C0 C1 C2 C3 C4 C5=>wY pS pR pN b e g C0 C1 C2 C3 C4 C5 (λoh oi oj ol om op st=>κ .nxt ⟨no::sm b::no::no::sm e::sm g::oh::oi::oj::ol::om::op::cq 18,[C0,C1,C2,C3,C4,C5]⟩ st) (λv oh oi oj ol om op st=>κ (.ret v) ⟨no::sm b::no::no::sm e::sm g::oh::oi::oj::ol::om::op::cq 18,[C0,C1,C2,C3,C4,C5]⟩ st) n oh oi oj ol om op
def Gn (pS pR pN:Nat):CS:=kJ (iE (cN (ae (aa ll 1) (ae (aA aQ (aa ll 1) (ao (.int 1))) av)))) (G0 (.n (.v (.n (.n (.v (.v (.o (.o (.o (.o (.o (.o (ns 18 (.e 6)))))))))))))) (dO (em (aw ll 6)) (uw pS pR pN) aH 200) (zZ pS pR pN 200))
theorem zU:(je (em (aw ll 6)) (iE (cN (ae (aa ll 1) (ae (aA aQ (aa ll 1) (ao (.int 1))) av)))) (uw pS pR pN) aH:CS)=(Gn pS pR pN):=ko (.n (.v (.n (.n (.v (.v (.o (.o (.o (.o (.o (.o (ns 18 (.e 6)))))))))))))) (zZ pS pR pN) (λκ ih b e g oh oi oj ol om op C0 C1 C2 C3 C4 C5=>(uk pS pR pN) b e g C0 C1 C2 C3 C4 C5 (λoh oi oj ol om op st=>κ .nxt ⟨no::sm b::no::no::sm e::sm g::oh::oi::oj::ol::om::op::cq 18,[C0,C1,C2,C3,C4,C5]⟩ st) (λv oh oi oj ol om op st=>κ (.ret v) ⟨no::sm b::no::no::sm e::sm g::oh::oi::oj::ol::om::op::cq 18,[C0,C1,C2,C3,C4,C5]⟩ st) (λoh oi oj ol om op=>ih b e g oh oi oj ol om op C0 C1 C2 C3 C4 C5) oh oi oj ol om op) (λ_=>rfl) (λ_ _=>rfl) (λ_ _=>by kernel_rfl)
def sF (C0 C1:Nat)(ih:OV->It->St->(Sd V->OV->SB)->Si)(ob:OV)(it:It)(st:St)(k:Sd V->OV->SB):Si:=aY st it (k [] ob st) λy1 it2=>(@du.rec (λ_=>Si) (λv3=>(fC C1 st λx4=>(CK [x4,v3] st λv5 s6=>(fC C0 s6 λx7=>(CK [x7,v3] s6 λv8 s9=>(ih (Sa v3) it2 s9 λl10 o11 s12=>k (bp [(.tup [v3,v5,v8])] l10) o11 s12)))))) (λ_ _=>ll) y1)
def wg (C0 C1:Nat)(n:Nat):OV->It->St->(Sd V->OV->SB)->Si:=@Tb (λ_=>_) (λ_ _ _ _=>ll) (λ_ ih=>sF C0 C1 ih) n
def rV:CB:=(gt (cN (ae (aa ll 1) (ae (fA CK (ae (aa Se 1) (ae (aa ll 1) av))) (ae (fA CK (ae (aa Se 0) (ae (aa ll 1) av))) av)))))
def zA (n:Nat):Fs.Fn (.n (.o (.e 2))) (It->St->(Sd V->Fs.Fo (.n (.o (.e 2))) SB)->Si):=λob C0 C1=>wg C0 C1 n ob
def EW:CE:=eA (dG (ao (.int 1)) (aA aQ (aa Se 3) (ao (.int 1)))) 2 0 [5,4] (.n (.o (.e 2))) (bw (em (aw ll 1)) cA rV 200) (zA 200)
theorem Bn:(cI (dG (ao (.int 1)) (aA aQ (aa Se 3) (ao (.int 1)))) 2 0 [5,4] (em (aw ll 1)) cA rV:CE)=EW:=cP (.n (.o (.e 2))) zA (λih ob C0 C1=>sF C0 C1 (λob=>ih ob C0 C1) ob) rfl (λ_=>rfl) (λ_=>by kernel_rfl)
def rC (ih:OV->OV->OV->It->St->(Sd V->OV->OV->OV->SB)->Si)(ob oc od:OV)(it:It)(st:St)(k:Sd V->OV->OV->OV->SB):Si:=aY st it (k [] ob oc od st) λy1 it2=>(@du.rec (λ_=>Si) (λv3=>(iB 3 v3 st λl4=>(dc l4 λv5 l6=>(dc l6 λv7 l8=>(dc l8 λv9 l10=>(ge l10 (ih (Sa v5) (Sa v7) (Sa v9) it2 st λl11 o12 o13 o14 s15=>k (bp [(.tup [v5,v9,v7])] l11) o12 o13 o14 s15))))))) (λ_ _=>ll) y1)
def wf (n:Nat):OV->OV->OV->It->St->(Sd V->OV->OV->OV->SB)->Si:=@Tb (λ_=>_) (λ_ _ _ _ _ _=>ll) (λ_ ih=>rC  ih) n
def t5:eN:=(em (fM 3 (bh (aw ll 1) (bh (aw ll 2) (bh (aw ll 3) eW)))))
def ub:CB:=(gt (cN (ae (aa ll 1) (ae (aa ll 3) (ae (aa ll 2) av)))))
def zh (n:Nat):Fs.Fn (.n (.o (.o (.o (.e 0))))) (It->St->(Sd V->Fs.Fo (.n (.o (.o (.o (.e 0))))) SB)->Si):=λob oc od=>wf  n ob oc od
def F2:CE:=eA (iE (aa ll 17)) 4 0 [] (.n (.o (.o (.o (.e 0))))) (bw t5 cA ub 200) (zh 200)
theorem Be:(cI (iE (aa ll 17)) 4 0 [] t5 cA ub:CE)=F2:=cP (.n (.o (.o (.o (.e 0))))) zh (λih ob oc od=>rC  (λob oc od=>ih ob oc od) ob oc od) rfl (λ_=>rfl) (λ_=>by kernel_rfl)
def qQ (C0 C1:Nat)(ih:OV->It->St->(Sd V->OV->SB)->Si)(ob:OV)(it:It)(st:St)(k:Sd V->OV->SB):Si:=aY st it (k [] ob st) λy1 it2=>(@du.rec (λ_=>Si) (λv3=>(fC C1 st λx4=>(CK [x4,v3] st λv5 s6=>(fC C1 s6 λx7=>(CK [x7,v3] s6 λv8 s9=>(fC C0 s9 λx10=>(aQ v8 x10 s9 λv11 s12=>(ih (Sa v3) it2 s12 λl13 o14 s15=>k (bp [(.tup [v3,v5,v11])] l13) o14 s15)))))))) (λ_ _=>ll) y1)
def xv (C0 C1:Nat)(n:Nat):OV->It->St->(Sd V->OV->SB)->Si:=@Tb (λ_=>_) (λ_ _ _ _=>ll) (λ_ ih=>qQ C0 C1 ih) n
def sV:CB:=(gt (cN (ae (aa ll 1) (ae (fA CK (ae (aa Se 1) (ae (aa ll 1) av))) (ae (aA aQ (fA CK (ae (aa Se 1) (ae (aa ll 1) av))) (aa Se 0)) av)))))
def zM (n:Nat):Fs.Fn (.n (.o (.e 2))) (It->St->(Sd V->Fs.Fo (.n (.o (.e 2))) SB)->Si):=λob C0 C1=>xv C0 C1 n ob
def Gb:CE:=eA (dG (ao (.int 1)) (aA aQ (aa Se 3) (ao (.int 2)))) 2 0 [3,4] (.n (.o (.e 2))) (bw (em (aw ll 1)) cA sV 200) (zM 200)
theorem zs:(cI (dG (ao (.int 1)) (aA aQ (aa Se 3) (ao (.int 2)))) 2 0 [3,4] (em (aw ll 1)) cA sV:CE)=Gb:=cP (.n (.o (.e 2))) zM (λih ob C0 C1=>qQ C0 C1 (λob=>ih ob C0 C1) ob) rfl (λ_=>rfl) (λ_=>by kernel_rfl)
def rZ (ih:OV->It->St->(Sd V->OV->SB)->Si)(ob:OV)(it:It)(st:St)(k:Sd V->OV->SB):Si:=aY st it (k [] ob st) λy1 it2=>(@du.rec (λ_=>Si) (λv3=>(cZ v3 (.int 1) st λv4 s5=>(cZ v3 (.int 2) s5 λv6 s7=>(kI v4 v6 s7 λc8=>(aD c8 (ih (Sa v3) it2 s7 λl9 o10 s11=>k (bp [v3] l9) o10 s11) (ih (Sa v3) it2 s7 k)))))) (λ_ _=>ll) y1)
def wQ (n:Nat):OV->It->St->(Sd V->OV->SB)->Si:=@Tb (λ_=>_) (λ_ _ _ _=>ll) (λ_ ih=>rZ  ih) n
def sE:CT:=(bR kI (dw (aa ll 1) (ao (.int 1))) (dw (aa ll 1) (ao (.int 2))))
def Cd (n:Nat):Fs.Fn (.n (.o (.e 0))) (It->St->(Sd V->Fs.Fo (.n (.o (.e 0))) SB)->Si):=λob=>wQ  n ob
def E7:CE:=eA (iE (aa ll 25)) 2 0 [] (.n (.o (.e 0))) (bw (em (aw ll 1)) sE (gt (aa ll 1)) 200) (Cd 200)
theorem Aj:(cI (iE (aa ll 25)) 2 0 [] (em (aw ll 1)) sE (gt (aa ll 1)):CE)=E7:=cP (.n (.o (.e 0))) Cd (λih ob=>rZ  (λob=>ih ob) ob) rfl (λ_=>rfl) (λ_=>by kernel_rfl)
def sS (ih:OV->It->St->(Sd V->OV->SB)->Si)(ob:OV)(it:It)(st:St)(k:Sd V->OV->SB):Si:=aY st it (k [] ob st) λy1 it2=>(@du.rec (λ_=>Si) (λv3=>(cZ v3 (.int 1) st λv4 s5=>(cZ v3 (.int 2) s5 λv6 s7=>(uD v4 v6 s7 λc8=>(aD c8 (ih (Sa v3) it2 s7 λl9 o10 s11=>k (bp [v3] l9) o10 s11) (ih (Sa v3) it2 s7 k)))))) (λ_ _=>ll) y1)
def wK (n:Nat):OV->It->St->(Sd V->OV->SB)->Si:=@Tb (λ_=>_) (λ_ _ _ _=>ll) (λ_ ih=>sS  ih) n
def rR:CT:=(bR uD (dw (aa ll 1) (ao (.int 1))) (dw (aa ll 1) (ao (.int 2))))
def zy (n:Nat):Fs.Fn (.n (.o (.e 0))) (It->St->(Sd V->Fs.Fo (.n (.o (.e 0))) SB)->Si):=λob=>wK  n ob
def FM:CE:=eA (iE (aa ll 25)) 2 0 [] (.n (.o (.e 0))) (bw (em (aw ll 1)) rR (gt (aa ll 1)) 200) (zy 200)
theorem Cu:(cI (iE (aa ll 25)) 2 0 [] (em (aw ll 1)) rR (gt (aa ll 1)):CE)=FM:=cP (.n (.o (.e 0))) zy (λih ob=>sS  (λob=>ih ob) ob) rfl (λ_=>rfl) (λ_=>by kernel_rfl)
def sY  (kk:OV->OV->OV->SB)(kr:V->OV->OV->OV->SB)(ih:OV->OV->OV->It->SB)(oL oM oN:OV)(it:It)(st:St):Si:=aY st it (kk oL oM oN st) λy1 it2=>(@du.rec (λ_=>Si) (λv3=>(iB 3 v3 st λl4=>(dc l4 λv5 l6=>(dc l6 λv7 l8=>(dc l8 λv9 l10=>(ge l10 (dQ 0 v5 st (H3 [v5,v7] st λv14 s15=>(xx v9 s15 λit16 s17=>(wQ  200 none it16 s17 λl18 _ s19=>aD (aB (aK l18)) (St.push s19 (.list l18) λn20 s21=>(kI v14 (.ref n20) s21 λIO=>(aD IO (kr (.bool ll) (Sa v5) (Sa v7) (Sa v9) s21) (dQ 0 v5 s21 (H5 [v5,v7] s21 λv26 s27=>(xx v9 s27 λit28 s29=>(wK  200 none it28 s29 λl30 _ s31=>aD (aB (aK l30)) (St.push s31 (.list l30) λn32 s33=>(kI v26 (.ref n32) s33 λc34=>(aD c34 (kr (.bool ll) (Sa v5) (Sa v7) (Sa v9) s33) (ih (Sa v5) (Sa v7) (Sa v9) it2 s33)))) ll))))))) ll)))))))))) (λ_ _=>ll) y1)
def wG  (kk:OV->OV->OV->SB)(kr:V->OV->OV->OV->SB)(n:Nat):OV->OV->OV->It->SB:=@Tb (λ_=>_) (λ_ _ _ _ _=>ll) (λ_ ih=>sY  kk kr ih) n
def tC:eN:=(em (fM 3 (bh (aw ll 23) (bh (aw ll 24) (bh (aw ll 25) eW)))))
def tS:CS:=(aq (ij (bR kI (bz 0 H3 (aa ll 23) (ae (aa ll 24) av)) E7) (aq (dq (ao (.bool ll))) aH) aH) (aq (ij (bR kI (bz 0 H5 (aa ll 23) (ae (aa ll 24) av)) FM) (aq (dq (ao (.bool ll))) aH) aH) aH))
def Ce (n:Nat)(κ:KF):Fs.Fn (.n (.v (.n (.n (.v (.v (.o (.o (.o (.o (.o (.o (.v (.v (.v (.v (.v (.v (.v (.v (.v (.v (.v (.o (.o (.o (ns 4 (.e 6)))))))))))))))))))))))))))) (It->SB):=λb e g oh oi oj ol om op s t u A B C D E F H I oL oM oN C0 C1 C2 C3 C4 C5=>wG (λoL oM oN st=>κ .nxt ⟨no::sm b::no::no::sm e::sm g::oh::oi::oj::ol::om::op::sm s::sm t::sm u::sm A::sm B::sm C::sm D::sm E::sm F::sm H::sm I::oL::oM::oN::cq 4,[C0,C1,C2,C3,C4,C5]⟩ st) (λv oL oM oN st=>κ (.ret v) ⟨no::sm b::no::no::sm e::sm g::oh::oi::oj::ol::om::op::sm s::sm t::sm u::sm A::sm B::sm C::sm D::sm E::sm F::sm H::sm I::oL::oM::oN::cq 4,[C0,C1,C2,C3,C4,C5]⟩ st) n oL oM oN
def Fz:CS:=kJ (iE (aa ll 22)) (G0 (.n (.v (.n (.n (.v (.v (.o (.o (.o (.o (.o (.o (.v (.v (.v (.v (.v (.v (.v (.v (.v (.v (.v (.o (.o (.o (ns 4 (.e 6)))))))))))))))))))))))))))) (dO tC tS aH 200) (Ce 200))
theorem Bw:(je tC (iE (aa ll 22)) tS aH:CS)=Fz:=ko (.n (.v (.n (.n (.v (.v (.o (.o (.o (.o (.o (.o (.v (.v (.v (.v (.v (.v (.v (.v (.v (.v (.v (.o (.o (.o (ns 4 (.e 6)))))))))))))))))))))))))))) Ce (λκ ih b e g oh oi oj ol om op s t u A B C D E F H I oL oM oN C0 C1 C2 C3 C4 C5=>sY (λoL oM oN st=>κ .nxt ⟨no::sm b::no::no::sm e::sm g::oh::oi::oj::ol::om::op::sm s::sm t::sm u::sm A::sm B::sm C::sm D::sm E::sm F::sm H::sm I::oL::oM::oN::cq 4,[C0,C1,C2,C3,C4,C5]⟩ st) (λv oL oM oN st=>κ (.ret v) ⟨no::sm b::no::no::sm e::sm g::oh::oi::oj::ol::om::op::sm s::sm t::sm u::sm A::sm B::sm C::sm D::sm E::sm F::sm H::sm I::oL::oM::oN::cq 4,[C0,C1,C2,C3,C4,C5]⟩ st) (λoL oM oN=>ih b e g oh oi oj ol om op s t u A B C D E F H I oL oM oN C0 C1 C2 C3 C4 C5) oL oM oN) (λ_=>rfl) (λ_ _=>rfl) (λ_ _=>by kernel_rfl)
def tH (ih:OV->OV->OV->It->St->(Sd V->OV->OV->OV->SB)->Si)(ob oc od:OV)(it:It)(st:St)(k:Sd V->OV->OV->OV->SB):Si:=aY st it (k [] ob oc od st) λy1 it2=>(@du.rec (λ_=>Si) (λv3=>(iB 3 v3 st λl4=>(dc l4 λv5 l6=>(dc l6 λv7 l8=>(dc l8 λv9 l10=>(ge l10 (dQ 0 v5 st (H4 [v5,v7] st λv14 s15=>(IL v14 v9 s15 λyQ=>(aD yQ (ih (Sa v5) (Sa v7) (Sa v9) it2 s15 λl17 o18 o19 o20 s21=>k (bp [v9] l17) o18 o19 o20 s21) (ih (Sa v5) (Sa v7) (Sa v9) it2 s15 k))))))))))) (λ_ _=>ll) y1)
def vV (n:Nat):OV->OV->OV->It->St->(Sd V->OV->OV->OV->SB)->Si:=@Tb (λ_=>_) (λ_ _ _ _ _ _=>ll) (λ_ ih=>tH  ih) n
def qU:eN:=(em (fM 3 (bh (aw ll 1) (bh (aw ll 2) (bh (aw ll 3) eW)))))
def sZ:CT:=(bR IL (bz 0 H4 (aa ll 1) (ae (aa ll 2) av)) (aa ll 3))
def BR (n:Nat):Fs.Fn (.n (.o (.o (.o (.e 0))))) (It->St->(Sd V->Fs.Fo (.n (.o (.o (.o (.e 0))))) SB)->Si):=λob oc od=>vV  n ob oc od
def FC:CE:=eA (iE (aa ll 29)) 4 0 [] (.n (.o (.o (.o (.e 0))))) (bw qU sZ (gt (aa ll 3)) 200) (BR 200)
theorem za:(cI (iE (aa ll 29)) 4 0 [] qU sZ (gt (aa ll 3)):CE)=FC:=cP (.n (.o (.o (.o (.e 0))))) BR (λih ob oc od=>tH  (λob oc od=>ih ob oc od) ob oc od) rfl (λ_=>rfl) (λ_=>by kernel_rfl)
def M7 (pS pR pN:Nat):CS:=(Gn pS pR pN)
def NJ:CS:=(aV (lQ vD (aa ll 9) (ae (aa ll 1) av)) (aw ll 12))
def Mu:CS:=(aV (aA ef (aA bF (aA cj (dw (aA aQ (aa ll 9) (d0 (ae (ao (.int 0)) av))) (aA aQ (aa ll 12) (ao (.int 1)))) (dw (aa ll 9) (aA cj (aa ll 12) (ao (.int 1))))) (aa Se 1)) (aa Se 0)) (aw Se 3))
def M2:CS:=(aV (aa ll 5) (fM 2 (bh (fM 3 (bh (aw ll 13) (bh (aw ll 14) (bh (aw Se 4) eW)))) (bh (fM 3 (bh (aw ll 15) (bh (aw ll 16) (bh (aw Se 5) eW)))) eW))))
def Jc:CS:=(ij (bR kI (aA aQ (bz 0 H1 (aa ll 13) av) (ao (.int 1))) (aa Se 3)) (aq (dq (ao (.bool ll))) aH) aH)
def Np:CS:=(aV EW (aw ll 17))
def LY:CS:=(aV F2 (aw ll 18))
def JK:CS:=(aV Gb (aw ll 19))
def Mh:CS:=(aV (iF 0 I0 (ae (aA bF (ao (.str [9])) (aa ll 1)) av)) (aw ll 20))
def LZ:CS:=(aV (iF 0 I0 (ae (aA bF (ao (.str [9])) (aA cj (aa ll 1) (ao (.int 1)))) av)) (aw ll 21))
def Hw:CS:=(aV (d0 (ae (cN (ae (aa ll 13) (ae (aa ll 15) (ae (aa ll 17) av)))) (ae (cN (ae (aa ll 15) (ae (aa ll 13) (ae (aa ll 18) av)))) (ae (cN (ae (aa ll 20) (ae (aa ll 21) (ae (d0 (ae (cN (ae (ao (.int 1)) (ae (aa ll 1) (ae (aA cj (aa ll 1) (ao (.int 1))) av)))) av)) av)))) (ae (cN (ae (aa ll 13) (ae (iF 0 I0 (ae (aA aQ (aa ll 14) (aA bF (ao (.str [32])) (aa Se 3))) av)) (ae (aa ll 19) av)))) av))))) (aw ll 22))
def H8:CS:=Fz
def IB:CS:=(aV (iF 0 I0 (ae (aA aQ (aa ll 14) (ao (.str [32]))) av)) (aw ll 26))
def Hm:CS:=(aV (iF 0 I0 (ae (aA aQ (aA bF (ao (.str [32])) (aA cj (aa Se 0) (aa ll 1))) (aA bF (ao (.str [9])) (aa ll 1))) av)) (aw ll 27))
def ID:CS:=(aV (iF 0 I0 (ae (aA aQ (aA bF (ao (.str [9])) (aa ll 1)) (ao (.str [32]))) av)) (aw ll 28))
def IC:CS:=(aV (d0 (ae (cN (ae (aa ll 13) (ae (iF 0 I0 (ae (aA aQ (aa ll 16) (ao (.str [32]))) av)) (ae (ao (.bool Se)) av)))) (ae (cN (ae (aa ll 15) (ae (aa ll 26) (ae (ao (.bool ll)) av)))) (ae (cN (ae (aa ll 27) (ae (aa ll 26) (ae (uA iu (aa Se 3) (aA aQ (aA cj (aa Se 0) (aa ll 1)) (ao (.int 1)))) av)))) (ae (cN (ae (aa ll 13) (ae (iF 0 I0 (ae (aA aQ (ao (.str [32])) (aa ll 14)) av)) (ae (ao (.bool ll)) av)))) (ae (cN (ae (aa ll 13) (ae (aa ll 15) (ae (ao (.bool ll)) av)))) (ae (cN (ae (aa ll 20) (ae (aa ll 20) (ae (ao (.bool ll)) av)))) (ae (cN (ae (aa ll 20) (ae (aa ll 28) (ae (ao (.bool Se)) av)))) (ae (cN (ae (aa ll 28) (ae (aa ll 26) (ae (ao (.bool ll)) av)))) (ae (cN (ae (aa ll 20) (ae (iF 0 I0 (ae (aA aQ (aA bF (ao (.str [9])) (aA cj (aa ll 1) (ao (.int 1)))) (aA bF (ao (.str [32])) (aa Se 0))) av)) (ae (ao (.bool ll)) av)))) av)))))))))) (aw ll 29))
def Ho:CS:=(dq (uA iu FC (d0 av)))
noncomputable def IQ:CS:=aH
def Hu:CS:=aq Ho IQ
def HN:CS:=aq IC Hu
def Ij:CS:=aq ID HN
def Iz:CS:=aq Hm Ij
def IW:CS:=aq IB Iz
def Hc:CS:=aq H8 IW
def Hl:CS:=aq Hw Hc
def MS:CS:=aq LZ Hl
def Kj:CS:=aq Mh MS
def KA:CS:=aq JK Kj
def Km:CS:=aq LY KA
def LP:CS:=aq Np Km
def NO:CS:=aq Jc LP
def NN:CS:=aq M2 NO
def Kx:CS:=aq Mu NN
def NT:CS:=aq NJ Kx
def F4 (pS pR pN:Nat):CS:=aq (M7 pS pR pN) NT
noncomputable def Hn  (st:St)(k:KV):=k .none st
def IE (T:V)(st:St)(kk:SB)(k:KV):=(xx T st λit1 s2=>(vV  200 none none none it1 s2 λl3 _ _ _ s4=>aD (aB (aK l3)) (St.push s4 (.list l3) λn5 s6=>(St.push s6 (.list []) λn7 s8=>(iu (.ref n5) (.ref n7) s8 λc9=>(k (.bool c9) s8)))) ll))
def HQ (T:V)(st:St)(k:KV):=IE T st (λ st=>Hn  st k) k
def HX (b t u A B F P Q S:V)(C0 C3:Nat)(st:St)(kk:V->SB)(k:KV):=(aQ B (.str [32]) st λv1 s2=>(St.push s2 .hid λd3 s4=>St.push s4 (fQ 0 d3) λn5 s6=>I0 [(.ref n5),v1] s6 λv7 s8=>sK v7 .none s8 λb9=>aD b9 (fC C3 s8 λx10=>(fC C0 s8 λx11=>(cj x11 b s8 λv12 s13=>(aQ v12 (.int 1) s13 λv14 s15=>(iu x10 v14 s15 λyQ=>(aQ (.str [32]) u s15 λv17 s18=>(St.push s18 .hid λd19 s20=>St.push s20 (fQ 0 d19) λn21 s22=>I0 [(.ref n21),v17] s22 λv23 s24=>sK v23 .none s24 λb25=>aD b25 (cj b (.int 1) s24 λv26 s27=>(bF (.str [9]) v26 s27 λv28 s29=>(fC C0 s29 λx30=>(bF (.str [32]) x30 s29 λv31 s32=>(aQ v28 v31 s32 λv33 s34=>(St.push s34 .hid λd35 s36=>St.push s36 (fQ 0 d35) λn37 s38=>I0 [(.ref n37),v33] s38 λv39 s40=>sK v39 .none s40 λb41=>aD b41 (St.push s40 (.list [(.tup [t,(.ref n5),(.bool Se)]),(.tup [A,P,(.bool ll)]),(.tup [Q,P,(.bool yQ)]),(.tup [t,(.ref n21),(.bool ll)]),(.tup [t,A,(.bool ll)]),(.tup [F,F,(.bool ll)]),(.tup [F,S,(.bool Se)]),(.tup [S,P,(.bool ll)]),(.tup [F,(.ref n37),(.bool ll)])]) λn42 s43=>((λ(x44:V)=>(kk x44 s43)) (.ref n42))) ll)))))) ll))))))) ll))
def Hz (b t u A B F P Q S:V)(C0 C3:Nat)(st:St)(k:KV):=HX b t u A B F P Q S C0 C3 st (λT st=>HQ T st k) k
def Hh (b:V)(st:St)(kk:V->SB)(k:KV):=(bF (.str [9]) b st λv1 s2=>(aQ v1 (.str [32]) s2 λv3 s4=>(St.push s4 .hid λd5 s6=>St.push s6 (fQ 0 d5) λn7 s8=>I0 [(.ref n7),v3] s8 λv9 s10=>sK v9 .none s10 λb11=>aD b11 ((λ(x12:V)=>(kk x12 s10)) (.ref n7)) ll)))
def HR (b t u A B F P Q:V)(C0 C3:Nat)(st:St)(k:KV):=Hh b st (λS st=>Hz b t u A B F P Q S C0 C3 st k) k
def Hj (b:V)(C0:Nat)(st:St)(kk:V->SB)(k:KV):=(fC C0 st λx1=>(cj x1 b st λv2 s3=>(bF (.str [32]) v2 s3 λv4 s5=>(bF (.str [9]) b s5 λv6 s7=>(aQ v4 v6 s7 λv8 s9=>(St.push s9 .hid λd10 s11=>St.push s11 (fQ 0 d10) λn12 s13=>I0 [(.ref n12),v8] s13 λv14 s15=>sK v14 .none s15 λb16=>aD b16 ((λ(x17:V)=>(kk x17 s15)) (.ref n12)) ll))))))
def Gw (b t u A B F P:V)(C0 C3:Nat)(st:St)(k:KV):=Hj b C0 st (λQ st=>HR b t u A B F P Q C0 C3 st k) k
def G9 (u:V)(st:St)(kk:V->SB)(k:KV):=(aQ u (.str [32]) st λv1 s2=>(St.push s2 .hid λd3 s4=>St.push s4 (fQ 0 d3) λn5 s6=>I0 [(.ref n5),v1] s6 λv7 s8=>sK v7 .none s8 λb9=>aD b9 ((λ(x10:V)=>(kk x10 s8)) (.ref n5)) ll))
def Ig (b t u A B F:V)(C0 C3:Nat)(st:St)(k:KV):=G9 u st (λP st=>Gw b t u A B F P C0 C3 st k) k
def IG (I:V)(st:St)(kk:OV->OV->OV->SB)(k:KV):=(xx I st λit10 s11=>(wG  (λo2 o3 o4 s1=>(kk o2 o3 o4 s1)) (λv5 o7 o8 o9 s6=>(k v5 s6)) 200 none none none it10 s11))
def Gu (b t u A B F I:V)(C0 C3:Nat)(st:St)(k:KV):=IG I st (λoL oM oN st=>Ig b t u A B F C0 C3 st k) k
def HS (b t u A C D E F H:V)(C3:Nat)(st:St)(kk:V->SB)(k:KV):=(cj b (.int 1) st λv1 s2=>(St.push s2 (.list [(.tup [(.int 1),b,v1])]) λn3 s4=>(fC C3 s4 λx5=>(bF (.str [32]) x5 s4 λv6 s7=>(aQ u v6 s7 λv8 s9=>(St.push s9 .hid λd10 s11=>St.push s11 (fQ 0 d10) λn12 s13=>I0 [(.ref n12),v8] s13 λv14 s15=>sK v14 .none s15 λb16=>aD b16 (St.push s15 (.list [(.tup [t,A,C]),(.tup [A,t,D]),(.tup [F,H,(.ref n3)]),(.tup [t,(.ref n12),E])]) λn17 s18=>((λ(x19:V)=>(kk x19 s18)) (.ref n17))) ll))))))
def Hx (b t u A B C D E F H:V)(C0 C3:Nat)(st:St)(k:KV):=HS b t u A C D E F H C3 st (λI st=>Gu b t u A B F I C0 C3 st k) k
def Mo (b:V)(st:St)(kk:V->SB)(k:KV):=(cj b (.int 1) st λv1 s2=>(bF (.str [9]) v1 s2 λv3 s4=>(St.push s4 .hid λd5 s6=>St.push s6 (fQ 0 d5) λn7 s8=>I0 [(.ref n7),v3] s8 λv9 s10=>sK v9 .none s10 λb11=>aD b11 ((λ(x12:V)=>(kk x12 s10)) (.ref n7)) ll)))
def LD (b t u A B C D E F:V)(C0 C3:Nat)(st:St)(k:KV):=Mo b st (λH st=>Hx b t u A B C D E F H C0 C3 st k) k
def MJ (b:V)(st:St)(kk:V->SB)(k:KV):=(bF (.str [9]) b st λv1 s2=>(St.push s2 .hid λd3 s4=>St.push s4 (fQ 0 d3) λn5 s6=>I0 [(.ref n5),v1] s6 λv7 s8=>sK v7 .none s8 λb9=>aD b9 ((λ(x10:V)=>(kk x10 s8)) (.ref n5)) ll))
def Ji (b t u A B C D E:V)(C0 C3:Nat)(st:St)(k:KV):=MJ b st (λF st=>LD b t u A B C D E F C0 C3 st k) k
def Mt  (C3 C4:Nat)(st:St)(kk:V->SB)(k:KV):=(fC C3 st λx3=>(aQ x3 (.int 2) st λv4 s5=>(aG (.int 1) λi6=>aG v4 λi7=>eB i6 i7 1 s5 λit1 s2=>(xv C3 C4 200 none it1 s2 λl8 _ s9=>aD (aB (aK l8)) (St.push s9 (.list l8) λn10 s11=>((λ(x12:V)=>(kk x12 s11)) (.ref n10))) ll))))
def Ky (b t u A B C D:V)(C0 C3 C4:Nat)(st:St)(k:KV):=Mt C3 C4 st (λE st=>Ji b t u A B C D E C0 C3 st k) k
def N3 (C:V)(st:St)(kk:V->SB)(k:KV):=(xx C st λit1 s2=>(wf  200 none none none it1 s2 λl3 _ _ _ s4=>aD (aB (aK l3)) (St.push s4 (.list l3) λn5 s6=>((λ(x7:V)=>(kk x7 s6)) (.ref n5))) ll))
def Kv (b t u A B C:V)(C0 C3 C4:Nat)(st:St)(k:KV):=N3 C st (λD st=>Ky b t u A B C D C0 C3 C4 st k) k
def NR  (C3 C4 C5:Nat)(st:St)(kk:V->SB)(k:KV):=(fC C3 st λx3=>(aQ x3 (.int 1) st λv4 s5=>(aG (.int 1) λi6=>aG v4 λi7=>eB i6 i7 1 s5 λit1 s2=>(wg C5 C4 200 none it1 s2 λl8 _ s9=>aD (aB (aK l8)) (St.push s9 (.list l8) λn10 s11=>((λ(x12:V)=>(kk x12 s11)) (.ref n10))) ll))))
def N7 (b t u A B:V)(C0 C3 C4 C5:Nat)(st:St)(k:KV):=NR C3 C4 C5 st (λC st=>Kv b t u A B C C0 C3 C4 st k) k
def N9 (t:V)(C3:Nat)(st:St)(kk:SB)(k:KV):=(dQ 0 t st (H1 [t] st λv4 s5=>(aQ v4 (.int 1) s5 λv6 s7=>(fC C3 s7 λx8=>(kI v6 x8 s7 λc9=>(aD c9 (k (.bool ll) s7) (kk  s7)))))))
def Li (b t u A B:V)(C0 C3 C4 C5:Nat)(st:St)(k:KV):=N9 t C3 st (λ st=>N7 b t u A B C0 C3 C4 C5 st k) k
def Js (g:V)(C4 C5:Nat)(st:St)(kk:V->V->V->V->SB)(k:KV):=(iB 2 g st λl1=>(dc l1 λv2 l3=>(iB 3 v2 st λl4=>(dc l4 λv5 l6=>(dc l6 λv7 l8=>(dc l8 λv9 l10=>(kK C4 v9 st λs11=>(ge l10 (dc l3 λv12 l13=>(iB 3 v12 s11 λl14=>(dc l14 λv15 l16=>(dc l16 λv17 l18=>(dc l18 λv19 l20=>(kK C5 v19 s11 λs21=>(ge l20 (ge l13 (kk v5 v7 v15 v17 s21)))))))))))))))))
def KE (b g:V)(C0 C3 C4 C5:Nat)(st:St)(k:KV):=Js g C4 C5 st (λt u A B st=>Li b t u A B C0 C3 C4 C5 st k) k
def LW (ol:OV)(s:V)(C0 C1 C3:Nat)(st:St)(kk:SB)(k:KV):=(cU ol λx1=>(St.push st (.list [(.int 0)]) λn2 s3=>(aQ x1 (.ref n2) s3 λv4 s5=>(aQ s (.int 1) s5 λv6 s7=>(cZ v4 v6 s7 λv8 s9=>(cU ol λx10=>(cj s (.int 1) s9 λv11 s12=>(cZ x10 v11 s12 λv13 s14=>(cj v8 v13 s14 λv15 s16=>(fC C1 s16 λx17=>(bF v15 x17 s16 λv18 s19=>(fC C0 s19 λx20=>(ef v18 x20 s19 λv21 s22=>(kK C3 v21 s22 λs23=>(kk  s23)))))))))))))))
def Kr (b g:V)(ol:OV)(s:V)(C0 C1 C3 C4 C5:Nat)(st:St)(k:KV):=LW ol s C0 C1 C3 st (λ st=>KE b g C0 C3 C4 C5 st k) k
def ND (b:V)(ol:OV)(st:St)(kk:V->SB)(k:KV):=(cU ol λx1=>(bB x1 λn2=>St.get st n2 λo3=>gQ o3 λ_=>(vD x1 [b] st λv4 s5=>(kk v4 s5))))
def Mc (b g:V)(ol:OV)(C0 C1 C3 C4 C5:Nat)(st:St)(k:KV):=ND b ol st (λs st=>Kr b g ol s C0 C1 C3 C4 C5 st k) k
def LL (pS pR pN:Nat)(b e g:V)(C0 C1 C2 C3 C4 C5:Nat)(st:St)(kk:OV->OV->OV->OV->OV->OV->SB)(k:KV):=(aQ b (.int 1) st λv18 s19=>(xx (.tup [b,v18]) s19 λit16 s17=>((wY pS pR pN) b e g C0 C1 C2 C3 C4 C5 (λo2 o3 o4 o5 o6 o7 s1=>(kk o2 o3 o4 o5 o6 o7 s1)) (λv8 o10 o11 o12 o13 o14 o15 s9=>(k v8 s9)) 200 none none none none none none it16 s17)))
def Cx (pS pR pN:Nat)(b e g:V)(C0 C1 C2 C3 C4 C5:Nat)(st:St)(k:KV):=(LL pS pR pN) b e g C0 C1 C2 C3 C4 C5 st (λoh oi oj ol om op st=>Mc b g ol C0 C1 C3 C4 C5 st k) k
theorem Ej:(F4 pS pR pN) ⟨no::sm b::no::no::sm e::sm g::cq 24,[C0,C1,C2,C3,C4,C5]⟩ st (K0 k)=(Cx pS pR pN) b e g C0 C1 C2 C3 C4 C5 st k:=by kernel_rfl
end
theorem DZ {ps:Sd Int} (I:UG vs ps)(r:VRs σ h l vs):l=ps.map V.int:=by
 induction I generalizing l with
 | nil=>cases r;rfl
 | cons i t q ih=>
  cases r with
  | cons a b=>
   cases a
   rw[ih b];rfl
theorem A9 {s:Sr} {ps:Sd Int}(hfix:(0,a,cB vs n)∈C.fix)(hI:UG vs ps)(I:Inv C σ st s):st.look 0=Sa (.list (ps.map V.int)):=by
 obtain⟨_,h1,h2,l,h3⟩:=I.fix 0 a _ hfix
 obtain⟨us,m,g,r⟩:=I.list h3 h1
 rw[h2] at g
 have:vs=us:=by
  have:=Sa.inj g
  injection this with _ _ h _
  injection h with h _
  injection h
 subst this
 rw[h3,DZ hI r]
theorem De {e:Expr} {ps:Sd Int}{pS pR pN:Nat}(hfix:(0,a,cB vs n)∈C.fix)(hI:UG vs ps)(P:xu pS pR pN ps)(h:SE C fx d e (fA EX (ae (vv (aa ll 4) (ao .none) (aa ll 6)) (ae (aa Se 0) av)))):SE C fx d e (xt pS pR pN):=
 λA env σ fm st s k R E I F q=>h A env σ fm st s k R E I F (G5 P (A9 hfix hI I) q)
noncomputable section
def HC:CS:=aq E4 (aq E0 (aq Fd (aq FT (aq Gh (aq Fq aH)))))
end
namespace BaseT
section
variable {C:Cfg}{P:Params}
theorem o27 (W:BaseT C P):bX C 304 (aZ (KH P) 304) (aI (KH P) 304) [(ll,0)] ["script"]:=W.fno (.cons rfl (λh=>nomatch h) .nil) (λus hu s _=>fo (λ_=>by kernel_rfl) us hu)
theorem b27a (W:BaseT C P):SL C (aR (aZ (KH P) 304).scope) 58 ((aI (KH P) 304).take 6) HC:=by
 conv=>arg 2;arg 1;whnf
 conv=>arg 4;whnf
 refine dl (λhok0=>?_) (by decide +kernel)
 refine ad (by exact(ua (W.cl W.g__law_drawn W.k21 W.f21 (uc uv ag)) (cV (ut ug (ut ug (ut ug (ut ug (ut ug cf)))))))) ?_
 refine ad (by exact(W.ss_gz (aj aF uv am) uv hok0 (bx (by kernel_rfl)) (bx (by kernel_rfl)) (bx (by kernel_rfl)) (bc (λ_ _=>rfl) λ_=>rfl) (bc (λ_ _=>rfl) λ_=>rfl) (bc (λ_ _=>rfl) λ_=>rfl) (by kernel_rfl) (by kernel_rfl) (bx (by kernel_rfl)) (bx (by kernel_rfl)) rfl (fV (bx (by kernel_rfl)) (by kernel_rfl) (by kernel_rfl)))) ?_
 refine ad (by exact(cS (um eK uv (aj bq (ul (uc uv ag)) (uH (um GI am uv) (aj aF uv am) uv))) (ad (bI cu) an) an)) ?_
 refine ad (by exact(ua (W.cl W.g__law_columns W.k22 W.f22 (uc (qf W.ok W.J W.JS uv jy (gj uv)) (uc uv (uc uv ag)))) ug)) ?_
 refine ad (by exact(cS (um eK uv (cH (by kernel_rfl) rfl (λ_ _=>rfl) (wy W.ok hok0 (bx (by kernel_rfl)) W.g_range (bc (λ_ _=>rfl) λ_=>rfl) (uc (aj aF uv am) ag)) (λhok1=>(.v ug)) (λhok1=>dg) (λhok1=>(aj dz (aj aF uv (aj bq uv uv)) uv)))) (ad (bI cu) an) an)) ?_
 refine ad (by exact(ua (ul ag) ug)) ?_
 exact an
theorem b28 (W:BaseT C P) {ps:Sd Int}{pS pR pN:Nat}(hfix:(0,a,cB vs n)∈C.fix)(hIv:UG vs ps)(hP:xu pS pR pN ps):SL C (aR (aZ (KH P) 304).scope) 58 ((aI (KH P) 304).drop 6) (F4 pS pR pN):=by
 conv=>arg 2;arg 1;whnf
 conv=>arg 4;whnf
 refine dl (λhok0=>?_) (by decide +kernel)
 refine ad (by exact(fL (zU pS pR pN) (uf (.v ug) (iG (up (uc uv (uc (aj aF uv am) ag)))) (ad (ua (De hfix hIv hP (W.cl W.g__law_lead W.k23 W.f23 (uc (qf W.ok W.J W.JS uv jy (gj uv)) (uc uv ag)))) (cV (ut ug (ut ug cf)))) (ad (ua (W.cl W.g__law_told W.k24 W.f24 (uc uv (uc uv (uc uv ag)))) (cV (ut ug (ut ug cf)))) (ad (ua (W.nw W.g_Whitespace W.new0 W.i0 (uc (aj aF uv us) ag)) ug) (ad (cS (NP (um eK uv uv) (um eK (W.ta uv) (W.cl W.g__law_norm W.k25 W.f25 (uc uv ag)))) (ad (bI cu) an) an) (ad (cS (um eK (up (uc (W.ta uv) (uc (W.ta uv) (uc (W.ta uv) ag)))) (up (uc uv (uc uv (uc (kf d6 rfl uv uv) ag))))) (ad (bI cu) an) an) (ad (ux (g7 W.ok W.J (fg λ_=>rfl) Uz Vc W.findAppend dN (iV (d:=0) W.ok W.J) (Sl rfl) (bc (λ_ _=>rfl) λ_=>rfl) uv (uc (up (uc uv (uc uv (uc uv ag)))) ag))) an)))))) an))) ?_
 refine ad (by exact(ua (g7 W.ok W.J (fg λ_=>rfl) Yz PySem.F.type_list_index W.findIndex xQ (Bp (d:=0)) (Sl rfl) (bc (λ_ _=>rfl) λ_=>rfl) uv (uc uv ag)) ug)) ?_
 refine ad (by exact(ua (aj dz (aj bq (aj bV (W.ts (aj aF uv (ul (uc am ag))) (aj aF uv am)) (W.ts uv (aj bV uv am))) uv) uv) ug)) ?_
 refine ad (by exact(ua uv (cV (ut (cV (ut ug (ut ug (ut ug cf)))) (ut (cV (ut ug (ut ug (ut ug cf)))) cf))))) ?_
 refine ad (by exact(cS (um eK (aj aF (W.mt W.m1 W.f1 uv ag) am) uv) (ad (bI cu) an) an)) ?_
 refine ad (by exact(fL (SO (λe=>aV e _) Bn) (gV (by kernel_rfl) rfl (λ_ _=>rfl) (et W.ok hok0 (bx (by kernel_rfl)) W.g_range (bc (λ_ _=>rfl) λ_=>rfl) (uc am (uc (aj aF uv am) ag))) (λhok1=>(.v ug)) (λhok1=>dg) (λhok1=>(up (uc uv (uc (W.cl W.g__law_column W.k26 W.f26 (uc uv (uc uv ag))) (uc (W.cl W.g__law_column W.k26 W.f26 (uc uv (uc uv ag))) ag))))) hok0 rfl (fV (bx (by kernel_rfl)) (by kernel_rfl) (by kernel_rfl))))) ?_
 refine ad (by exact(fL (SO (λe=>aV e _) Be) (gV (by kernel_rfl) rfl (λ_ _=>rfl) (iG uv) (λhok1=>(.v (cV (ut ug (ut ug (ut ug cf)))))) (λhok1=>dg) (λhok1=>(up (uc uv (uc uv (uc uv ag))))) hok0 rfl (fV (bx (by kernel_rfl)) (by kernel_rfl) (by kernel_rfl))))) ?_
 refine ad (by exact(fL (SO (λe=>aV e _) zs) (gV (by kernel_rfl) rfl (λ_ _=>rfl) (et W.ok hok0 (bx (by kernel_rfl)) W.g_range (bc (λ_ _=>rfl) λ_=>rfl) (uc am (uc (aj aF uv am) ag))) (λhok1=>(.v ug)) (λhok1=>dg) (λhok1=>(up (uc uv (uc (W.cl W.g__law_column W.k26 W.f26 (uc uv (uc uv ag))) (uc (aj aF (W.cl W.g__law_column W.k26 W.f26 (uc uv (uc uv ag))) uv) ag))))) hok0 rfl (fV (bx (by kernel_rfl)) (by kernel_rfl) (by kernel_rfl))))) ?_
 refine ad (by exact(ua (W.nw W.g_Whitespace W.new0 W.i0 (uc (aj bq us uv) ag)) ug)) ?_
 refine ad (by exact(ua (W.nw W.g_Whitespace W.new0 W.i0 (uc (aj bq us (aj bV uv am)) ag)) ug)) ?_
 refine ad (by exact(ua (ul (uc (up (uc uv (uc uv (uc uv ag)))) (uc (up (uc uv (uc uv (uc uv ag)))) (uc (up (uc uv (uc uv (uc (ul (uc (up (uc am (uc uv (uc (aj bV uv am) ag)))) ag)) ag)))) (uc (up (uc uv (uc (W.nw W.g_Whitespace W.new0 W.i0 (uc (aj aF uv (aj bq us uv)) ag)) (uc uv ag)))) ag))))) ug)) ?_
 refine ad (by exact(fL Bw (uf (.v (cV (ut ug (ut ug (ut ug cf))))) (iG uv) (ad (cS (um eK (W.mt W.m3 W.f3 uv (uc uv ag)) (il Aj (cH (by kernel_rfl) rfl (λ_ _=>rfl) (iG uv) (λhok1=>(.v ug)) (λhok1=>(gI (um eK (W.ts uv am) (W.ts uv am)))) (λhok1=>uv)))) (ad (bI cu) an) an) (ad (cS (um eK (W.mt W.m5 W.f5 uv (uc uv ag)) (il Cu (cH (by kernel_rfl) rfl (λ_ _=>rfl) (iG uv) (λhok1=>(.v ug)) (λhok1=>(gI (um kn (W.ts uv am) (W.ts uv am)))) (λhok1=>uv)))) (ad (bI cu) an) an) an)) an))) ?_
 refine ad (by exact(ua (W.nw W.g_Whitespace W.new0 W.i0 (uc (aj aF uv us) ag)) ug)) ?_
 refine ad (by exact(ua (W.nw W.g_Whitespace W.new0 W.i0 (uc (aj aF (aj bq us (aj bV uv uv)) (aj bq us uv)) ag)) ug)) ?_
 refine ad (by exact(ua (W.nw W.g_Whitespace W.new0 W.i0 (uc (aj aF (aj bq us uv) us) ag)) ug)) ?_
 refine ad (by exact(ua (ul (uc (up (uc uv (uc (W.nw W.g_Whitespace W.new0 W.i0 (uc (aj aF uv us) ag)) (uc cu ag)))) (uc (up (uc uv (uc uv (uc cu ag)))) (uc (up (uc uv (uc uv (uc (kf d6 rfl uv (aj aF (aj bV uv uv) am)) ag)))) (uc (up (uc uv (uc (W.nw W.g_Whitespace W.new0 W.i0 (uc (aj aF us uv) ag)) (uc cu ag)))) (uc (up (uc uv (uc uv (uc cu ag)))) (uc (up (uc uv (uc uv (uc cu ag)))) (uc (up (uc uv (uc uv (uc cu ag)))) (uc (up (uc uv (uc uv (uc cu ag)))) (uc (up (uc uv (uc (W.nw W.g_Whitespace W.new0 W.i0 (uc (aj aF (aj bq us (aj bV uv am)) (aj bq us uv)) ag)) (uc cu ag)))) ag)))))))))) ug)) ?_
 refine ad (by exact(bI (kf d6 rfl (il za (cH (by kernel_rfl) rfl (λ_ _=>rfl) (iG uv) (λhok1=>(.v (cV (ut ug (ut ug (ut ug cf)))))) (λhok1=>(gI (um DX (W.mt W.m4 W.f4 uv (uc uv ag)) uv))) (λhok1=>uv))) (ul ag)))) ?_
 exact an
end
end BaseT
noncomputable def kT (xs:Sd Int):St:=⟨4,.node (.list (xs.map V.int)) (.node .hid (.node .hid .nil .nil) .nil) (.node .hid .nil .nil)⟩
noncomputable def isTrue1 (v:V):Si:=match v with | .bool b=>b | _=>ll
noncomputable def EE (K:Frag):Si:=K.all λp=>match p.2.cls with
 | .type "list"=>ll
 | _=>Se
theorem w2 (xs:Sd Int):(kT xs).Fu:=.node (m:=3) (.node (m:=1) (.node (m:=0) .nil .nil) .nil) (.node (m:=0) .nil .nil)
theorem pe (h:(kT xs).look i=Sa o):(i=0/\o=.list (xs.map V.int))\/((i=1\/i=2\/i=3)/\o=.hid):=match i,h,St.lt (w2 xs) h with
 | 0,h,_=>.inl ⟨rfl,(Sa.inj h).symm⟩
 | 1,h,_=>.inr ⟨.inl rfl,(Sa.inj h).symm⟩
 | 2,h,_=>.inr ⟨.inr (.inl rfl),(Sa.inj h).symm⟩
 | 3,h,_=>.inr ⟨.inr (.inr rfl),(Sa.inj h).symm⟩
 | _+4,_,q=>S8 q (Uk.mpr (TK 4 _))
section
variable {prog:Program}{w:World}{p:Program}{loose:List Str}{mean:ExcName->Option Value}{mg mb:Str->Option Value}{aaQ:Shared}{fa l:Addr}{vs:List Value}{xs:List Int}
noncomputable abbrev jc (l:Ss):Sd Ss:=[l,206,213,281]
noncomputable def gA (prog:Program)(w:World)(p:Program)(loose:Sd Str)(mg mb:Str->SP Sn)(aaQ:Sr)(l:Ss)(vs:Sd Sn):Cfg:=
 { prog,w,K:=KH w.params,aa3:=aaF aaQ.heap (jc l),p,loose,mg,mb,tabs:=[gO,gN,eC],fix:=[(0,l,cB vs 0)] }
theorem zV (hfile:∀cda∈[180,203,240],∃oc vs file tf,(KH w.params).lookup cda=Sa oc/\oc.data=.fields vs/\vs[2]? = Sa (.str file tf)/\((prog.main.file:Str) == file)=Se)(hsup:(prog.main.scope.names.lookup ("super":Str)).isSome=ll)
  (hnt:noTabs (KH w.params)=Se) (hnl:EE (KH w.params)=Se) (T:Top p loose mean mg mb aaQ.heap) (X:(KH w.params).In aaQ.heap) (hT:∀P∈([206,213,281]:Sd Ss),aaQ.heap.get? P=Sa (aax #[])) (hl:aaQ.heap.get? l=Sa (cB vs 0)) :
  BaseT (gA prog w p loose mg mb aaQ l vs) w.params/\(∀b o,aaQ.heap.get? b=Sa o->(∀q,o.data≠.fields q)->(∀q n,o.data≠.seq q n)->(aaF aaQ.heap (jc l)).get? b=Sa o):=by
 have out:∀b o,aaQ.heap.get? b=Sa o->o≠aax #[]->o≠cB vs 0->(aaF aaQ.heap (jc l)).get? b=Sa o:=λb o e n1 n2=>hideAll_get _ e λm=>by
  rcases Sv.mp m with rfl | m
  ·rw[hl] at e;exact n2 (Sa.inj e).symm
  ·rw[hT b m] at e;exact n1 (Sa.inj e).symm
 have out':∀b o,aaQ.heap.get? b=Sa o->(∀q,o.data≠.fields q)->(∀q n,o.data≠.seq q n)->(aaF aaQ.heap (jc l)).get? b=Sa o:=λb o e n1 n2=>out b o e (λq=>n1 #[] (by rw[q])) λq=>n2 vs.toArray 0 (by rw[q])
 have ns:∀{a:Ss} {mm:Str->SP Sn},aaQ.heap.Ns a mm->(aaF aaQ.heap (jc l)).Ns a mm:=λ⟨o,es,ep,e,hd,r⟩=>⟨o,es,ep,out' _ o e (λq z=>by rw[hd] at z;cases z) (λq n z=>by rw[hd] at z;cases z),hd,r⟩
 refine⟨⟨⟨rfl,⟨λa o e=>out a o (X a o e) (λq=>?_) λq=>?_,⟨ns T.g,ns T.b,let ⟨mc,a,r⟩:=T.nolimit;⟨mc,ns a,r⟩,T.builtins,T.free⟩⟩,⟨?_⟩,hfile,hsup⟩,rfl⟩,out'⟩
 ·have h2:=Ta.mp hnt (a,o) (mem_of_lookupK e)
  subst q
  exact S8 (show ll=Se from h2) Vz
 ·have h2:=Ta.mp hnl (a,o) (mem_of_lookupK e)
  subst q
  exact S8 (show ll=Se from h2) Vz
 ·refine qh (T.bmain) λbm ob a1 a2 a3 a4 a5 a6=>?_
  exact⟨bm,ob,a1,a2,out' _ _ a3 (λq z=>by rw[a6] at z;cases z) (λq n z=>by rw[a6] at z;cases z),a4,a5,a6⟩
theorem Dv (hT:∀P∈([206,213,281]:Sd Ss),aaQ.heap.get? P=Sa (aax #[]))(hl:aaQ.heap.get? l=Sa (cB vs 0))(hI:UG vs xs):Inv (gA prog w p loose mg mb aaQ l vs) (jc l) (kT xs) aaQ:=by
 have hne:l∉([206,213,281]:Sd Ss):=λm=>by
  have e:=hT l m
  rw[hl] at e
  cases e
 have noinst:∀{i c d fs q},¬((kT xs).look i=Sa (.inst c d fs)\/(kT xs).look i=Sa (.lsub c d fs q)):=λ{i c d fs q} e=>by
  rcases e with e | e <;> rcases pe e with ⟨_,z⟩ | ⟨_,z⟩ <;> cases z
 have safe:∀j,(kT xs).look j=Sa .hid->Safe (kT xs) j:=λj e=>⟨e,λi c d fs q z=>(noinst z).elim⟩
 refine⟨λb o e=>of_hideAll _ e,?_,λa m=>⟨hideAll_none _ m,?_⟩,rfl,λi o e=>?_,λi c d fs q e=>(noinst e).elim,λi j c d fs q c' d' fs' q' e=>(noinst e).elim,λt m=>?_,λi a o m=>?_⟩
 ·exact VH.mpr ⟨hne,by decide⟩
 ·rcases Sv.mp m with rfl | m
  ·rw[hl];rfl
  ·rw[hT a m];rfl
 ·rcases pe e with ⟨rfl,rfl⟩ | ⟨h,rfl⟩
  ·exact⟨l,rfl,vs,0,hl,fj hI⟩
  ·rcases h with rfl | rfl | rfl <;> exact⟨_,rfl,trivial⟩
 ·have m:t∈[gO,gN,eC]:=m
  have ok:∀t:lN,t.tab∈([206,213,281]:Sd Ss)->TabOk ((gA prog w p loose mg mb aaQ l vs).tabs.map (·.tab)) (jc l) (kT xs) aaQ.heap t:=λt h=>⟨#[],hT _ h,trivial,λ_ cv e=>by cases e⟩
  rcases Sv.mp m with rfl | m
  ·exact⟨1,rfl,safe 1 rfl,ok gO (.head _)⟩
  ·rcases Sv.mp m with rfl | m
   ·exact⟨2,rfl,safe 2 rfl,ok gN (.tail _ (.head _))⟩
   ·rw[Sj.mp m]
    exact⟨3,rfl,safe 3 rfl,ok eC (.tail _ (.tail _ (.head _)))⟩
 ·have m:(i,a,o)∈[(0,l,cB vs 0)]:=m
  cases Sj.mp m
  exact⟨(bo rfl),rfl,hl,_,rfl⟩
end
theorem oz (env:Env):∀(a b:Sd Stmt),execs (a++b) env=(execs a env >>= λf=>match f with | .next=>execs b env | f=>pure f)
 | [],b=>by
  show execs b env=(pure Flow.next >>= _)
  rw[aaz]
 | x::a,b=>by
  rw[V8,execs_cons,execs_cons,bind_assoc]
  refine SO (exec x env >>= ·) (funext λf=>?_)
  induction f with
  | next=>exact oz env a b
  | brk=>exact(aaz _ _).symm
  | cont=>exact(aaz _ _).symm
  | ret v=>exact(aaz _ _).symm
section
variable {C:Cfg}{A:Around}{σ:List Addr}{st:St}{s:Shared}{d:Nat}
theorem BM (Ok:C.Ok) {body pre post:Sd Stmt} {xs:Sd Str}{c1:CS} {us:Sd Sn}(O:bX C fa fd body ps xs)(hb:body=pre++post)(hpre:SL C (aR fd.scope) d pre c1)(R:Rm (d+1) A)(I:Inv C σ st s)(r:VRs σ s.heap l us){P:Fm->St->Si}
  (hlen:l.length=ps.length) (run:bY (au fd.scope .cell).length st (λo st=>bindL ps l ⟨cq (au fd.scope .local).length,o⟩ st λfm st=>c1 fm st λf fm st=>@Fl.rec (λ_=>Si) (P fm st) ll ll (λ_=>ll) f)=Se) 
  (hpost:∀env σ' fm st' s',bb (aR fd.scope) env->Step [] σ s σ' s'->Inv C σ' st' s'->FrR C (aR fd.scope) env fm σ' s'->s.heap.get? env.locals=none->P fm st'=Se->So C.M (A.deeper env) (execs post env) (λf s''=>∃u,f=.ret u/\Q u s'') cL s'):So C.M A (call (.ref fa) us) Q E s:=by
 refine aE (O.obj) λo ho hd=>?_
 have X:=I.X Ok
 refine UI (W1 R.top (X _ _ ho) hd O.co O.gen O.body (Z1 X O.code) ?_)
 refine O.binds us (r.length.trans hlen) s X _ _ _ _ ?_
 rw[O.glob]
 have q:=jG (A:=A.in1) (closure:=fd.closure) (q:=[]) (around:=none) (qual:=fd.qualname ++ ".<locals>.") (func:=Sa fa) (code:=fd.code) O.sc O.blt O.par I r (Td _) (λi x _ h=>S8 h (U3 _)) (k:=λfm st=>c1 fm st λf fm st=>@Fl.rec (λ_=>Si) (P fm st) ll ll (λ_=>ll) f) (by simpa using run)
 refine Sm q ?_ λ_ _ e=>e.elim
 rintro env s' ⟨σ',fm',st',En,e1,e2,e3,e4,S',I',F',dL,h'⟩
 refine⟨(Ok.T.nolimit.keeps I'.base),codeAny_func ?_⟩
 rw[hb,oz]
 refine CO (oX (Sm (hpre (A.deeper env) env σ' fm' st' s' _ R.deeper En I' F' h') ?_ λ_ _ e=>e))
 rintro f s'' ⟨σ'',fl,fm'',st'',S'',I'',F'',q,h''⟩
 have S:Step [] σ s σ'' s'':=(S'.up.trans S'').more λb m=>.inr (by rw[Sj.mp m];exact dL)
 induction fl with
 | nxt=>
  induction f <;> first | exact q.elim | skip
  refine Sm (hpost env σ'' fm'' st'' s'' En S I'' F'' dL h'') ?_ λ_ _ e=>e
  rintro f s3 ⟨u,rfl,hu⟩
  exact hu
 | brk=>exact ff h''
 | cnt=>exact ff h''
 | ret v=>exact ff h''
end
inductive IM (st:St):Prop
 | mk (s':St) (ring step many head rq:Nat) (R:Sd Nat) (e:qK Oe [.ref 0] st (.tup [ak ring,ak step,ak many,ak head,.ref rq]) s') (X:Ext st s') (V:uh ring step many) (h:head<ring) (l:s'.look rq=Sa (.list (R.map ak))) (r:lR step many R)
@[elab_as_elim] theorem qR {P:Sd Nat->Prop} {l:Sd Nat} (h:l.length=n+1) (H:∀a r,r.length=n->P (a::r)):P l:=by
 induction l with
 | nil=>exact nomatch h
 | cons a r=>exact H a r (Tv.inj h)
theorem Pc {l:Sd Nat}(h:l.length=5):∃a b c d e,l=[a,b,c,d,e]:=qR h λa _ h=>qR h λb _ h=>qR h λc _ h=>qR h λd _ h=>qR h λe _ h=>⟨a,b,c,d,e,by rw[Wt.mp h]⟩
theorem Da (P:Nat->Prop) (h:P n)(t:∀e,e<n->P e)(e:Nat)(q:e<n+1):P e:=(Nat.lt_succ_iff_lt_or_eq.mp q).elim (t e) λz=>z▸h
inductive yo (s:St)(step many e:Nat)(l:Sd V):Prop
 | mk (q:Nat) (R:Sd Nat) (h:l[e]? = Sa (.ref q)) (l:s.look q=Sa (.list (R.map ak))) (r:lR step many R)
theorem QQ {step a b:Nat}(la:s.look a=Sa (.list ([step,0,9].map ak)))(lb:s.look b=Sa (.list ((Sq many step++[127,9]).map ak)))(lc:s.look c=Sa (.list ((Sq many step).map ak)))(ld:s.look d=Sa (.list ([step,step,0].map ak))):∀{e:Nat},e<4->yo s step many e [.ref a,.ref b,.ref c,.ref d]:=
 have p0:yo s step many 0 [.ref a,.ref b,.ref c,.ref d]:=⟨a,_,rfl,la,.a⟩
 have p1:yo s step many 1 [.ref a,.ref b,.ref c,.ref d]:=⟨b,_,rfl,lb,.b⟩
 have p2:yo s step many 2 [.ref a,.ref b,.ref c,.ref d]:=⟨c,_,rfl,lc,.c⟩
 have p3:yo s step many 3 [.ref a,.ref b,.ref c,.ref d]:=⟨d,_,rfl,ld,.d⟩
 Da (λe=>yo s step many e [.ref a,.ref b,.ref c,.ref d]) p3 (Da _ p2 (Da _ p1 (Da _ p0 λ_ z=>S8 z (U3 _)))) _
theorem GU (F:st.Fu)(h4:4<=st.n) (hx:st.look 0=Sa (.list (xs.map V.int)))(hlen:xs.length<=63):IM st:=by
 obtain⟨s1,e1,X1,n1,l1,k1⟩:=(Ext.refl F).pushX (.cell none)
 obtain⟨s2,e2,X2,n2,l2,k2⟩:=X1.pushX (.cell none)
 have n02:=SH n1 n2
 have hx2:s2.look 0=Sa (.list (xs.map V.int)):=(X2.keep 0 (Sx (bo rfl) h4)).trans hx
 have c02:s2.look st.n=Sa (.cell none):=k2 n1 l1
 have h42:=Sk h4 X2.n
 obtain⟨s3,e3,f3,n3,l3⟩:=dM X2.fu (.list [.int 11,.int 4,.int 2,.int 7,.int 0])
 have X23:Ext s2 s3:=(Ext.refl X2.fu).push f3 n3 l3
 obtain⟨s4,hs,o2,o3,e4,X24,n4,q4,h5⟩:=MU (cl:=[st.n,s1.n]) (o2:=none) (o3:=none) hx2 h42 hlen xs (i:=0) (n:=200) (hs:=[11,4,2,7,0]) X23 n3 (SetFu.self l3) rfl rfl (Td _) (Tg hlen (bo rfl))
 refine OZ (Pc h5) λa b c d e e85=>?_;subst e85
 have c04:=(X24.keep _ n02).trans c02
 have CN:=(X24.keep _ n2).trans l2
 have h01:s1.n≠st.n:=Tu n1
 have h02:s2.n≠st.n:=Tu n02
 have h12:s2.n≠s1.n:=Tu n2
 have h41:=Sk h4 (TJ n1)
 obtain⟨s5,e5,f5,n5,l5⟩:=nZ X24.fu h4 (St.lt X24.fu c04) c04 (ak (8+a % 8))
 have I7:=SetFu.old l5 h01 CN
 obtain⟨s6,e6,f6,n6,l6⟩:=nZ f5 h41 (St.lt f5 I7) I7 (ak (1+b % 7))
 have c06:=SetFu.old l6 h01.symm (SetFu.self l5)
 have hr:8<=8+a % 8/\8+a % 8<=15:=⟨S9 _ _,Ts (aaj (Xd a (bo rfl))) 8⟩
 obtain⟨s7,step,f7,n7,k7,HH,hs1,hs7,hs2,e7⟩:=N5 (fm:=DO s2.n o2 o3 none none none [st.n,s1.n]) f6 h41 rfl rfl c06 (SetFu.self l6) hr.1 (S9 _ _) (Ts (aaj (Xd b (bo rfl))) 1)
 have c07:=(k7 _ h01.symm).trans c06
 have q5:=SetFu.old l5 h02 q4
 have q7:=(k7 _ h12).trans (SetFu.old l6 h12 q5)
 have hlow:∀j,j<st.n->s7.look j=st.look j:=λj h=>
  (k7 j (SJ (SH h n1))).trans (SetFu.old l6 (SJ (SH h n1)) (SetFu.old l5 (SJ h) ((X24.keep j (SH h n02)).trans (X2.keep j h))))
 have hn7:s7.n=s4.n:=n7.trans (n6.trans n5)
 have h27:s2.n<s7.n:=by rw[hn7,n4];exact SX _
 generalize hring:8+a % 8=ring at *
 have hr15:=hr.2
 obtain⟨hf3,hf15⟩:=pI ring (Uh hr15) step (Uh hs7) hr.1 hs1 hs2
 obtain⟨rest,hdiv⟩:=xC hf3
 have hr1:1<=ring:=Sk (bo rfl) hr.1
 have hr1000:ring<=1000:=Sk hr15 (bo rfl)
 generalize hfull:iM step ring=full at *
 have hm0:0<full - 2:=Nat.sub_pos_of_lt hf3
 have hmany:2<=2+c % (full - 2)/\2+c % (full - 2)<full:=⟨S9 _ _,by have:=Xd c hm0;lia⟩
 generalize hmn:2+c % (full - 2)=many at *
 obtain⟨s8,e8,X78,n8,l8,k8⟩:=(Ext.refl f7).pushX (.list ((mU step ring 1 ring).map ak))
 have n17:=SH n2 h27
 have n07:=SH n1 n17
 have b15:=Sk (TJ hmany.2) hf15
 obtain⟨s9,rq,ra,rb,rc,rd,X89,e9,hq,hra,hrb,hrc,hrd⟩:=Ee (fm:=⟨yX (yX (DO s2.n o2 o3 none none none [st.n,s1.n]).loc (ak full) 4) (ak many) 5,[st.n,s1.n]⟩) (many:=many) X78.fu rfl rfl rfl (k8 n17 HH) (Sk b15 (bo rfl))
 have X79:Ext s7 s9:=X78.trans X89
 obtain⟨qr,R,hqr,hR,hRul⟩:=QQ hra hrb hrc hrd (Xd e (show 0<4 by decide))
 obtain⟨fm',hdv⟩:=Lb c07 HH hr1 hr1000 (Sk hs7 (bo rfl)) ring (a:=1) (n:=200) (o:=none) (Tg hr15 (bo rfl)) (Sk (Ts hr15 1) (bo rfl))
 have q8:=k8 h27 q7
 have q9:=(X79.keep _ h27).trans q7
 have c09:=(X79.keep _ n07).trans c07
 refine⟨s9,ring,step,many,d % ring,qr,R,?_,⟨X79.fu,Sk (TJ n07) X79.n,λj h=>(X79.keep j (SH h n07)).trans (hlow j h)⟩,⟨hr,⟨hs1,hs7⟩,hs2,hfull▸hmany⟩,Xd _ hr1,hR,hRul⟩
 delta Oe Ql FV Fr Gf FD Gk FR Gj
 refine PS (λk=>(e1 _).trans (e2 _)) rfl (λ_=>rfl) (aJ (aU (dX (be az (be az (be az (be az (aT az))))) e3) (aN rfl))
  (aJ (jh (wi (ah rfl) ((X23.keep 0 (Sx (bo rfl) h42)).trans hx2)) e4)
  (aJ (aU (bd (w:=ak (a % 8)) az (bd (eJ (ah rfl) az λ_=>cr (a:=0) (x:=ak a) q4 rfl (Td _)) az (eI (a:=a) (b:=8) (bo rfl) (bo rfl) _)) λk=>(hU 8 (a % 8) _ k).trans (by rw[hring])) (gW rfl e5))
  (aJ (aU (bd (w:=ak (b % 7)) az (bd (eJ (ah rfl) az λ_=>cr (a:=1) (x:=ak b) q5 rfl (bo rfl)) az (eI (a:=b) (b:=7) (bo rfl) (bo rfl) _)) (hU 1 (b % 7) _)) (gW rfl e6))
  (aJ e7
  (aJ (aU (eJ (lC (λ_=>rfl) (GW az (bd (bZ rfl c07) az (hU ring 1 _)) (Ie (Sk hr1000 (bo rfl)))) hdv (by rw[S0];exact Sk (uC ..) (Sk hr1000 (bo rfl))) e8) az λ_=>cr (a:=0) (x:=ak full) l8 (by rw[hdiv];rfl) (Td _)) (aN rfl))
  (aJ (aU (bd (w:=ak (c % (full - 2))) az (bd (eJ (ah rfl) az λ_=>cr (a:=2) (x:=ak c) q8 rfl (bo rfl)) (bd (ah rfl) az λ_=>ie (a:=full) (b:=2) (TJ hf3)) (eI hm0 (Sk (W7 _ _) (Sk hf15 (bo rfl))) _)) λk=>(hU 2 (c % (full - 2)) _ k).trans (by rw[hmn])) (aN rfl))
  (aJ e9 (bk (iz (pk (be (bZ rfl c09) (be (bZ rfl ((X79.keep _ n17).trans HH)) (be (ah rfl)
   (be (bd (eJ (ah rfl) az λ_=>cr (a:=3) (x:=ak d) q9 rfl (bo rfl)) (bZ rfl c09) (eI hr1 (Sk hr1000 (bo rfl)) _))
    (aT (eJ (ah rfl) (bd (eJ (ah rfl) az λ_=>cr (a:=4) (x:=ak e) q9 rfl (bo rfl)) az (eI (a:=e) (b:=4) (bo rfl) (bo rfl) _)) λ_=>cr (a:=e % 4) hq hqr (Sk (TJ (Xd e (bo rfl))) (by decide:4<=4095)))))))))))))))))))
theorem jm (h1:i≠127)(h0:i≠0)(m:Nat)(last:SP Int)(r:Sd Int)(K:Sd Int->Si):wq (m+1) last (.ofNat i::r) K=wq m (Sa (.ofNat i)) r λq=>K (.ofNat i::q):=by
 show aD (SD i 127) (K []) (aD (SD i 0) (cU last λl=>K (cw [l] (m+1))) (wq m (Sa (.ofNat i)) r λq=>K (.ofNat i::q)))=_
 have e1:SD i 127=ll:=by cases q:SD i 127 with | false=>rfl | true=>exact S8 (SK q) h1
 have e0:SD i 0=ll:=by cases q:SD i 0 with | false=>rfl | true=>exact S8 (SK q) h0
 rw[e1,e0];rfl
theorem rY (m:Nat)(l:Int)(r:Sd Int)(K:Sd Int->Si):wq (m+1) (Sa l) (.ofNat 0::r) K=K (cw [l] (m+1)):=rfl
theorem Db (m:Nat)(last:SP Int)(r:Sd Int)(K:Sd Int->Si):wq (m+1) last (.ofNat 127::r) K=K []:=rfl
theorem CZ (m:Nat)(last:SP Int)(K:Sd Int->Si):wq (m+1) last [] K=K []:=rfl
theorem qd (h1:i≠127)(h0:i≠0)(n:Nat)(r:Sd Int):∀(j:Nat)(last:SP Int)(K:Sd Int->Si),∃last',wq (j+n) last ((Sq j i).map TA++r) K=wq n last' r λq=>K ((Sq j i).map TA++q)
 | 0,last,K=>⟨last,by simp⟩
 | j+1,last,K=>by
  obtain⟨l',ih⟩:=qd h1 h0 n r j (Sa (.ofNat i)) λq=>K (.ofNat i::q)
  refine⟨l',?_⟩
  rw[show j+1+n=(j+n)+1 by lia]
  refine Eq.trans (jm h1 h0 (j+n) last _ K) ?_
  exact ih
theorem wo (a:Int)(n:Nat):cw [a] n=Sq n a:=by
 rw[gG]
 induction n with
 | zero=>rfl
 | succ n ih=>rw[TH,TC,ih];rfl
theorem j8 (h0:i≠0)(r:Sd Int):∀n,iL 0 ((Sq n i).map TA++r)=iL 0 r
 | 0=>rfl
 | n+1=>by
  show aD (SD 0 i) Se (iL 0 ((Sq n i).map TA++r))=_
  have e0:SD 0 i=ll:=by cases q:SD 0 i with | false=>rfl | true=>exact S8 (SK q).symm h0
  rw[e0,j8 h0 r n];rfl
theorem Ic {step:Nat} (h:lR step many R)(h1:1<=step)(h7:step<=7)(hm:2<=many):∃t b,(∀K,wq (many+1) none (R.map TA) K=K ((Sq t step).map TA))/\iL 0 (R.map TA)=b/\t=@Te (λ_=>Nat) many (many+1) b:=by
 have a1:step≠127:=by lia
 have a0:step≠0:=by lia
 have e0:SD 0 step=ll:=by cases q:SD 0 step with | false=>rfl | true=>exact S8 (SK q).symm a0
 induction h with
 | a=>
  refine⟨many+1,Se,λK=>?_,?_,rfl⟩
  ·obtain⟨m,rfl⟩:∃m,many=m+1:=⟨many - 1,by lia⟩
   refine Eq.trans (jm a1 a0 (m+1) none _ K) ?_
   refine Eq.trans (rY m _ _ _) ?_
   rw[wo,XW];rfl
  ·show aD (SD 0 step) Se Se=Se
   rw[e0];rfl
 | b=>
  refine⟨many,ll,λK=>?_,?_,rfl⟩
  ·rw[Vl]
   obtain⟨l',h⟩:=qd a1 a0 1 ([127,9].map TA) many none K
   refine h.trans ?_
   refine Eq.trans (Db 0 _ _ _) ?_
   rw[TR]
  ·rw[Vl,j8 a0];rfl
 | c=>
  refine⟨many,ll,λK=>?_,?_,rfl⟩
  ·obtain⟨l',h⟩:=qd a1 a0 1 [] many none K
   rw[TR] at h
   refine h.trans ?_
   refine Eq.trans (CZ 0 _ _) ?_
   rw[TR]
  ·have:=j8 a0 [] many
   rw[TR] at this
   exact this
 | d=>
  refine⟨many+1,Se,λK=>?_,?_,rfl⟩
  ·obtain⟨m,rfl⟩:∃m,many=m+2:=⟨many - 2,by omega⟩
   refine Eq.trans (jm a1 a0 (m+2) none _ K) ?_
   refine Eq.trans (jm a1 a0 (m+1) _ _ _) ?_
   refine Eq.trans (rY m _ _ _) ?_
   rw[wo,XW];rfl
  ·show aD (SD 0 step) Se (aD (SD 0 step) Se Se)=Se
   rw[e0];rfl
theorem uS (K:Sd Int->Si):∀R:Sd Nat,iZq (R.map ak) K=K (R.map TA)
 | []=>rfl
 | c::r=>by
  show iZq (r.map ak) (λq=>K (.ofNat c::q))=_
  rw[uS _ r];rfl
theorem E8 (st:St)(K:Sd Vd->Si):∀R:Sd Nat,dY (fv st 4) (R.map ak) K=K (R.map λn=>Vu (.ofNat n))
 | []=>rfl
 | c::r=>by
  show dY (fv st 4) (r.map ak) (λq=>K (.int (.ofNat c)::q))=_
  rw[E8 st _ r];rfl
theorem Af {q:Nat} (h:st.look q=Sa (.list (R.map ak)))(K:Vd->Si):fv st 5 (.ref q) K=K (.list (R.map λn=>Vu (.ofNat n))):=by
 refine Eq.trans (St.get_of h _) ?_
 exact E8 st _ R
theorem oK (k:Si->Si):∀R:Sd Nat,yr (IY 6) (R.map λn=>Vu (.ofNat n)) (R.map λn=>Vu (.ofNat n)) k=k Se
 | []=>rfl
 | c::r=>by
  show aD (SD c c) (yr (IY 6) (r.map λn=>Vu (.ofNat n)) (r.map λn=>Vu (.ofNat n)) k) (k ll)=_
  rw[Vv,oK k r];rfl
theorem vR {a b:Nat} (h:st.look a=Sa (.list (R.map ak)))(h':st.look b=Sa (.list (R.map ak)))(k:Si->Si):kI (.ref a) (.ref b) st k=k ll:=by
 show fv st 5 (.ref a) (λx=>fv st 5 (.ref b) λy=>IY 7 x y λc=>k (ee c))=_
 refine Eq.trans (Af h _) ?_
 refine Eq.trans (Af h' _) ?_
 exact oK (λc=>k (ee c)) R
noncomputable section
abbrev QK:Nat->CC:=bw (em (aw ll 1)) cA (gt (aA ef (aA aQ (aa Se 0) (aA bF (aa ll 1) (aa Se 2))) (aa Se 1)))
end
theorem Qi {c0 c2 step head:Nat}(h0:st.look c0=Sa (.cell (Sa (ak head))))(h1:st.look c1=Sa (.cell (Sa (ak ring))))(h2:st.look c2=Sa (.cell (Sa (ak step))))(hr:1<=ring)(hr2:ring<=1000)(hs:step<=1000)(m:Nat) :
  ∀{a n:Nat} {o:OV},m<n->a+m<=1000->∃fm',yW (QK n) ⟨[none,o],[c0,c1,c2]⟩ (.rng (.ofNat a) m 1) st (((Zs a m).map λj=>(head+j*step) % ring).map ak) fm' st:=by
 induction m with
 | zero=>
  intro a n o h _
  obtain⟨n,rfl⟩:=SW h
  exact⟨_,g9 λ_ _=>rfl⟩
 | succ m ih=>
  intro a n o h ha
  obtain⟨n,rfl⟩:=SW h
  obtain⟨fm',e⟩:=ih (a:=a+1) (n:=n+(m+1)) (o:=Sa (ak a)) (Sx (SX _) (TK _ _)) (Ud a m▸ha)
  exact⟨fm',rJ (λ_ _=>rfl) (qF (aN rfl)) mB (vZ (bd (bd (bZ rfl h0) (bd (ah rfl) (bZ rfl h2) λ_=>lP (Sk (Sk (S9 _ _) ha) (bo rfl)) (Sk hs (bo rfl))) (hU head (a*step) _)) (bZ rfl h1) (eI hr (Sk hr2 (bo rfl)) _))) e⟩
theorem KT {n g:CE} {s1 s2 s3:St}{a q:Nat} (hn:Ev n fm s (ak a) s1)(ha:a<=4095)(hg:Ev g fm s1 (.ref q) s2)(hq:s2.look q=Sa (.list (R.map ak)))(hr:∀K,wq a none (R.map TA) K=K ys)(hp:∀k,s2.push (.list (fE .int ys)) k=k m s3):Ev (qg n g) fm s (.ref m) s3:=
 λ_=>(hn _).trans ((g8 (show aB (cT (.ofNat a))=Se from bG ha)).trans ((g8 (bU (Sk ha (bo rfl)))).trans ((hg _).trans ((bj hq _).trans ((uS _ R).trans ((hr _).trans (hp _)))))))
theorem HA {head x:Nat}(_hr:1<=ring):Ai (.ofNat head) ring (.ofNat ((head+x) % ring))=.ofNat (x % ring):=by
 unfold Ai
 rw[pC,ey,Int.fmod_eq_emod_of_nonneg _ (by simp)]
 simp only[Ux]
 rw[Int.natCast_emod,Int.natCast_add,Int.natCast_emod,Int.emod_def ((head:Int)+x)]
 have:(head:Int)+x - ring*(((head:Int)+x) / ring) - head=x - ring*(((head:Int)+x) / ring):=by lia
 rw[this,Int.sub_mul_emod_self_left]
theorem lV:∀n j:Nat,zp n j=Zs j n
 | 0,_=>rfl
 | n+1,j=>by
  show j::zp n (j+1)=_
  rw[lV n (j+1)];rfl
noncomputable def gH (ring step many head:Nat):Sd Nat:=(Ul (many+1)).map λj=>(head+j*step) % ring
noncomputable def fK (ring step many head:Nat):Sd Int:=(gH ring step many head).map TA
theorem yc (ring step many head:Nat):(fK ring step many head).map V.int=(gH ring step many head).map ak:=by
 unfold fK
 rw[T9];rfl
theorem GN {step head:Nat}(h1:1<=ring)(hr:ring<=1000)(hm:many<=90)(hh:head<ring):xu step ring (many+1) (fK ring step many head):=by
 refine⟨by simp[fK,gH],by lia,h1,hr,λn hn1 hn=>?_⟩
 refine⟨.ofNat head,?_,?_⟩
 ·simp only[fK,gH,TG]
  rw[Sd.getElem?_range (by lia)]
  simp[Nat.mod_eq_of_lt hh]
 ·simp only[fK,gH,Ey]
  rw[eq,lV,←Xj,←Xj,Sd.take_range,Xp hn,Zt,T9,T9,T9]
  apply U5
  intro j _
  simp only[aaM]
  rw[HA h1];rfl
noncomputable abbrev RF (x_0 x_1 x_2 x_3 x_4 x_5:V)(c_0 c_1 c_2 c_3 c_4 c_5:Nat):Fm:=⟨[Sa x_0,Sa x_1,Sa x_2,Sa x_3,Sa x_4,Sa x_5,none,none,none,none,none,none,none,none,none,none,none,none,none,none,none,none,none,none,none,none,none,none,none,none],[c_0,c_1,c_2,c_3,c_4,c_5]⟩
theorem Im (l:Sd α)(m:Nat)(K:Sd α->Si):cut l .none (ak m) K=K (fy l (eV (.ofNat m) (aK l))):=rfl
theorem fG {x y:Nat}{l:Sd Nat}(h:x<y)(p:(y::l).Pairwise (·<·)):(x::y::l).Pairwise (·<·):=.cons (λz m=>(Sv.mp m).elim (λe=>e▸h) λm=>SH h ((Sd.pairwise_cons.mp p).1 z m)) p
theorem R9 {a b:Nat}(h:10<=c)(h1:c<a)(h2:a<b):[a,4,5,6,7,8,9,b,c].Nodup:=by
 have p:[a,4,5,6,7,8,9,b,c].Perm [4,5,6,7,8,9,c,a,b]:=(Y7 (l₁:=[a]) (l₂:=[4,5,6,7,8,9,b,c])).trans (aaO.append_left [4,5,6,7,8,9] (Y7 (l₁:=[b]) (l₂:=[c,a])))
 exact p.nodup_iff.mpr (Sd.Pairwise.imp SJ (fG (bo rfl) (fG (bo rfl) (fG (bo rfl) (fG (bo rfl) (fG (bo rfl) (fG h (fG h1 (fG h2 (Sd.pairwise_singleton _ _))))))))))
inductive Hk (m:Nat)(s:St):Prop
 | mk (s':St) (e:∀k,bY m s k=k (Zs s.n m) s') (F:s'.Fu) (n:s'.n=s.n+m) (c:∀j,s.n<=j->j<s.n+m->s'.look j=Sa (.cell none)) (k:∀j,j<s.n->s'.look j=s.look j)
theorem HU (m:Nat):∀{s:St},s.Fu->Hk m s:=by
 induction m with
 | zero=>exact λF=>⟨_,λ_=>rfl,F,rfl,λj a b=>S8 a (Nat.not_le.mpr b),λ_ _=>rfl⟩
 | succ m ih=>
  intro s F
  obtain⟨s1,e1,f1,n1,l1⟩:=dM F (.cell none)
  obtain⟨s2,e2,f2,n2,c2,k2⟩:=ih f1
  rw[n1] at e2 n2 c2 k2
  refine⟨s2,λk=>(e1 λn st=>bY m st λq s=>k (n::q) s).trans (e2 _),f2,n2.trans (Ud _ _),λj a b=>?_,λj h=>by rw[k2 j (Th h),l1,Sz (SJ h)]⟩
  by_cases z:j=s.n
  ·rw[k2 j (z▸SX _),l1,SR z]
  ·exact c2 j (Nat.lt_of_le_of_ne a (Ne.symm z)) (by rw[Ud];exact b)
noncomputable section
noncomputable abbrev R8 (v:V):Sd OV:=[Sa v,none,none,none,none,none,none,none,none,none,none,none,none,none,none,none,none,none,none,none,none,none,none,none,none,none,none,none,none,none]
end
theorem HY {c:CS} {nc:Nat}{vs:Sd V}{s1 s':St}{o:Sd Nat}{l:Sd OV}{fm':Fm}(hc:∀k,bY nc s k=k o s1)(hb:∀K:Fm->St->Si,bindL ps vs ⟨cq nl,o⟩ s1 K=K ⟨l,o⟩ s1)(h:gT c ⟨l,o⟩ s1 .nxt fm' s')(k:Fl->Fm->St->Si):bY nc s (λo st=>bindL ps vs ⟨cq nl,o⟩ st λfm st=>c fm st k)=k .nxt fm' s':=(hc _).trans ((hb _).trans (h _))
theorem xS {rq:Nat}{b:Si} (f1:uX fm.loc 1=Sa (ak many))(f2:uX fm.loc 2=Sa (.ref rq))(hR:st.look rq=Sa (.list (R.map ak)))(hb:iL 0 (R.map TA)=b)(ht:t=@Te (λ_=>Nat) many (many+1) b):Ev (uU (bR Of (ao (.int 0)) (aa ll 2)) (aA aQ (aa ll 1) (ao (.int 1))) (aa ll 1)) fm st (ak t) st:=by
 have tst:pG (bR Of (ao (.int 0)) (aa ll 2)) fm st b st:=bN az (ah f2) λk=>(bj hR _).trans ((uS _ R).trans (SO k hb))
 subst ht
 match b,tst with
 | true,h=>exact zd h (bd (ah f1) az (hU many 1 _))
 | false,h=>exact Bv h (ah f1)
theorem DP {p:Nat} {s':St}(h:st.look p=Sa (.list l))(hl:l.length<=4095)(hs:∀k,st.push (.list (fy l (eV (.ofNat m) (aK l)))) k=k n s')(k:KV):uZ (.ref p) .none (ak m) st k=k (.ref n) s':=
 (St.get_of h _).trans ((qJ hl).trans ((Im ..).trans (hs _)))
theorem AO (x:V)(h:many<=t):fy (Sq t x) (eV (.ofNat many) (aK (Sq t x)))=Sq many x:=by
 have:eV (.ofNat many) (aK (Sq t x))=many:=by
  rw[aC,TN]
  show @Te (λ_=>Nat) many t (SV t many)=many
  cases e:SV t many with
  | false=>rfl
  | true=>exact UN (Sl e) h
 rw[this,gm,Sd.take_replicate,Xp h]
theorem H7 (hlen:xs.length<=63)(P:Fm->St->Si)
  (hP:∀fm st ring step many head iP i0 i1 i2 i3 i4 i5 iS iX,uh ring step many->head<ring->Shape st fm ring step many (fK ring step many head) iP i0 i1 i2 i3 i4 i5 iS iX->P fm st=Se) :
  bY 6 (kT xs) (λo st=>bindL [(ll,0)] [.ref 0] ⟨cq 30,o⟩ st λfm st=>HC fm st λf fm st=>@Fl.rec (λ_=>Si) (P fm st) ll ll (λ_=>ll) f)=Se:=by
 have h0:(kT xs).n=4:=rfl
 have hx0:(kT xs).look 0=Sa (.list (xs.map V.int)):=rfl
 have F0:=w2 xs
 generalize kT xs=s0 at *
 obtain⟨s6,e6,f6,n6,c6,k6⟩:=HU 6 F0
 rw[h0] at e6 n6 c6 k6
 have c6:∀j,4<=j->j<10->s6.look j=Sa (.cell none):=c6
 obtain⟨s7,ring,step,many,head,rq,R,e7,X67,hV,hh,hR,hRul⟩:=GU f6 (by rw[n6];decide) ((k6 0 (bo rfl)).trans hx0) hlen
 obtain⟨⟨hr8,hr15⟩,⟨hs1,hs7⟩,hne,hm2,hmf⟩:=id hV
 have hr1:1<=ring:=Sk (bo rfl) hr8
 have hr1000:ring<=1000:=Sk hr15 (bo rfl)
 have hm14:many+1<=15:=Sk hmf (pI ring (Uh hr15) step (Uh hs7) hr8 hs1 hne).2
 have n67:10<=s7.n:=Sk (T7 n6.symm) X67.n
 have cell7:∀j,4<=j->j<10->s7.look j=Sa (.cell none):=λj h h'=>(X67.keep j (by rw[n6];exact h')).trans (c6 j h h')
 have hrq:∀j,4<=j->j<10->rq≠j:=λj h h' e=>by
  rw[e,cell7 j h h'] at hR
  exact nomatch hR
 obtain⟨s8,e8,f8,n8,l8⟩:=nZ X67.fu (i:=4) (bo rfl) (Sx (bo rfl) n67) (cell7 _ (bo rfl) (bo rfl)) (ak ring)
 obtain⟨s9,e9,f9,n9,l9⟩:=nZ f8 (i:=5) (bo rfl) (Sx (bo rfl) (n8▸n67)) (SetFu.old l8 (lB rfl) (cell7 _ (bo rfl) (bo rfl))) (ak step)
 obtain⟨s10,e10,f10,n10,l10⟩:=nZ f9 (i:=6) (bo rfl) (Sx (bo rfl) (n9▸n8▸n67)) (SetFu.old l9 (lB rfl) (SetFu.old l8 (lB rfl) (cell7 _ (bo rfl) (bo rfl)))) (ak head)
 have n710:10<=s10.n:=n10▸n9▸n8▸n67
 have old:∀{j:Nat} {q:SP O},j≠4->j≠5->j≠6->s7.look j=q->s10.look j=q:=λa b c e=>SetFu.old l10 c (SetFu.old l9 b (SetFu.old l8 a e))
 have c0:s10.look 4=Sa (.cell (Sa (ak ring))):=SetFu.old l10 (lB rfl) (SetFu.old l9 (lB rfl) (SetFu.self l8))
 have c1:s10.look 5=Sa (.cell (Sa (ak step))):=SetFu.old l10 (lB rfl) (SetFu.self l9)
 have c2:s10.look 6=Sa (.cell (Sa (ak head))):=SetFu.self l10
 have hR10:=old (hrq _ (bo rfl) (bo rfl)) (hrq _ (bo rfl) (bo rfl)) (hrq _ (bo rfl) (bo rfl)) hR
 refine gx (Ic hRul hs1 hs7 hm2) λt b hg hb ht=>?_
 have htm:many<=t/\t<=many+1:=match b,ht with
  | true,e=>e▸⟨TV _,SQ _⟩
  | false,e=>e▸⟨SQ _,TV _⟩
 have ht15:t<=15:=Sk htm.2 hm14
 obtain⟨s11,e11,X11,n11,l11,k11⟩:=(Ext.refl f10).pushX (.list (fE .int ((Sq t step).map TA)))
 obtain⟨s12,e12,X12,n12,l12,k12⟩:=X11.pushX (.list [ak step])
 obtain⟨s13,e13,X13,n13,l13,k13⟩:=X12.pushX (.list (cw [ak step] t))
 have e0:fE V.int ((Sq t step).map TA)=(Sq t step).map ak:=by rw[eq,T9];rfl
 have eR:cw [ak step] t=(Sq t step).map ak:=jq step t
 have hrep:(Sq t step).map ak=Sq t (ak step):=XW
 have t13:=k13 (SH n11 n12) (k12 n11 (e0▸l11))
 obtain⟨s14,e14,X14,n14,l14,k14⟩:=X13.pushX (.list (fy ((Sq t step).map ak) (eV (.ofNat many) (aK ((Sq t step).map ak)))))
 have n1014:=SH n11 (SH n12 (SH n13 n14))
 have hlt:((Sq t step).map ak).length<=4095:=by rw[hrep,TN];exact Sk ht15 (bo rfl)
 have l14:s14.look s13.n=Sa (.list (Sq many (ak step))):=l14.trans (by rw[hrep,AO _ htm.1])
 obtain⟨s15,q,e15,X15,hq,q15⟩:=Ax X14.fu (Sk (bo rfl) (Sk n710 X14.n)) (t:=s13.n) (ring:=ring) (step:=step) (many:=many) (head:=head) l14 hs1 hs7 (Sk (TV _) hm14) (Sk hr15 (bo rfl)) hh
 have Y15:Ext s10 s15:=X14.trans X15
 have hq15:=St.lt X15.fu q15
 obtain⟨s16,e16,X16,n16,l16,k16⟩:=Y15.pushX (.list ((gH ring step many head).map ak))
 obtain⟨s17,e17,X17,n17,l17,k17⟩:=X16.pushX (.list [])
 refine bH (Qi (st:=s15) (c0:=6) (c1:=4) (c2:=5) ((Y15.keep _ (Sx (bo rfl) n710)).trans c2) ((Y15.keep _ (Sx (bo rfl) n710)).trans c0) ((Y15.keep _ (Sx (bo rfl) n710)).trans c1) hr1 hr1000 (Sk hs7 (bo rfl)) (many+1) (a:=0) (n:=200) (o:=none) (Tg hm14 (bo rfl)) (Sk (T7 (V9 _)) (Sk hm14 (bo rfl)))) λfm' hdue=>?_
 rw[←Zt] at hdue
 have cell:∀{s},Ext s10 s->∀{j o},j<10->s10.look j=o->s.look j=o:=λ{_} X {_ _} h e=>(X.keep _ (Sx h n710)).trans e
 have hm4:many+1<=4095:=Sk hm14 (bo rfl)
 refine(HY (l:=R8 (.ref 0)) (fm':=RF (.ref 0) (ak many) (.ref rq) (.ref s10.n) (.ref q) (.ref s16.n) 4 5 6 7 8 9) (s':=s17) e6 (λ_=>rfl) ?_ _).trans (hP _ _ ring step many head q 4 5 6 7 8 9 s16.n s10.n hV hh ⟨?_,rfl,rfl,rfl,rfl,rfl,?_,k17 (SH hq15 n16) ((k16 hq15 q15).trans (by rw[yc];rfl)),
  cell X17 (bo rfl) c0,cell X17 (bo rfl) c1,⟨_,cell X17 (bo rfl) c2,λe=>nomatch e⟩,cell X17 (bo rfl) (old (lB rfl) (lB rfl) (lB rfl) (cell7 _ (bo rfl) (bo rfl))),cell X17 (bo rfl) (old (lB rfl) (lB rfl) (lB rfl) (cell7 _ (bo rfl) (bo rfl))),cell X17 (bo rfl) (old (lB rfl) (lB rfl) (lB rfl) (cell7 _ (bo rfl) (bo rfl))),l17,
  ⟨_,k17 (SH (Sx n1014 X15.n) n16) (k16 (Sx n1014 X15.n) ((X15.keep _ n1014).trans (k14 (SH n11 (SH n12 n13)) t13))),λe=>nomatch e⟩⟩)
 ·delta HC E4 E0 Fd FT Gh Fq
  exact aJ (aU (wn (aT (ah rfl)) e7) (EH rfl (eh (gW rfl e8) (eh (gW rfl e9) (eh (aN rfl) (eh (gW rfl e10) (eh (aN rfl) un)))))))
   (aJ (aU (KT (a:=many+1) (bd (ah rfl) az (hU many 1 _)) hm4 (ah rfl) hR10 hg e11) (aN rfl))
   (aJ (ja (bN (ah rfl) (bd (dX (aT (bZ rfl (cell X11 (bo rfl) c1))) e12) (xS rfl rfl ((X12.keep _ (St.lt f10 hR10)).trans hR10) hb ht) λk=>(ix (l:=[ak step]) (m:=t) l12 (Sk ht15 (bo rfl)) ((Zr t).symm▸Sk ht15 (bo rfl))).trans (e13 _)) (vR t13 (eR▸l13))))
   (aJ (aU (wn (be (BJ (ah rfl) az (ah rfl) (DP t13 hlt e14)) (be (bZ rfl (cell X14 (bo rfl) c0)) (aT (bZ rfl (cell X14 (bo rfl) c2))))) e15) (aN rfl))
   (aJ (ja (bN (ah rfl) (lC (λ_=>rfl) (HK (bd (ah rfl) az (hU many 1 _)) (Ec (m:=many+1) hm4)) hdue (by rw[S0,S0,WH];exact hm4) e16) (vR (R:=gH ring step many head) (k16 hq15 q15) l16)))
   (bk (aU (dX dA e17) (aN rfl)))))))
 ·exact R9 n710 (Sx n1014 hq) (SH hq15 n16)
 ·exact⟨Sk (bo rfl) (Sk (Sk n710 (TJ n1014)) hq),(bo rfl),(bo rfl),(bo rfl),(bo rfl),(bo rfl),(bo rfl),Sk (bo rfl) (Sk n710 (Sk X14.n (Sk X15.n (TJ n16)))),Sk (bo rfl) n710⟩
section
variable {prog:Program}{w:World}{p:Program}{loose:List Str}{mean:ExcName->Option Value}{mg mb:Str->Option Value}{aaQ:Shared}{fa l:Addr}{vs:List Value}{xs:List Int}
theorem Cv (W:BaseT (gA prog w p loose mg mb aaQ l vs) w.params)(a:Ss)(o:Obj):BaseT ((gA prog w p loose mg mb aaQ l vs).pin a o) w.params:=⟨⟨W.K,⟨W.ok.X,W.ok.T⟩,⟨W.blt.1⟩,W.file,W.top⟩,W.tabs⟩
theorem zJ {o:Obj} (W:BaseT ((gA prog w p loose mg mb aaQ l vs).pin a o) w.params)(X:(KH w.params).In aaQ.heap)(hT:∀P∈([206,213,281]:Sd Ss),aaQ.heap.get? P=Sa (aax #[]))(hl:aaQ.heap.get? l=Sa (cB vs 0))(hfix:s'.heap.get? l=Sa (cB vs 0))(I:Inv ((gA prog w p loose mg mb aaQ l vs).pin a o) σ st s'):OldK aaQ.heap s'.heap:=by
 have tab:∀t,ju ((gA prog w p loose mg mb aaQ l vs).pin a o) t->t.tab∈([206,213,281]:Sd Ss)->(∃ps,s'.heap.get? t.tab=Sa { cls:=.none,data:=.fields ps })/\isCodeTable aaQ.heap t.tab:=λt k m=>by
  obtain⟨j,_,_,ps,g,_⟩:=I.tabs t k.mem
  refine⟨⟨ps,g⟩,?_⟩
  obtain⟨o,q,file,tf,flags,tg,wI,text,tt,h1,h2,h3,h4,h5,h6,h7,h8,h9⟩:=k.code
  have ta:aaQ.heap.TableAt t.code t.tab #[]:=⟨⟨o,q,X _ _ h1,h8,h2,h9⟩,hT _ m⟩
  exact ta.isCodeTable
 have tabs:∀b∈([206,213,281]:Sd Ss),(∃ps,s'.heap.get? b=Sa { cls:=.none,data:=.fields ps })/\isCodeTable aaQ.heap b:=λb m=>by
  exact dy (P:=λb=>(∃ps,s'.heap.get? b=Sa { cls:=.none,data:=.fields ps })/\isCodeTable aaQ.heap b) (tab gO W.t14 (.head _)) (dy (tab gN W.t15 (.tail _ (.head _))) (dy (tab eC W.t23 (.tail _ (.tail _ (.head _)))) uG)) b m
 have cases3:∀b o,aaQ.heap.get? b=Sa o->s'.heap.get? b=Sa o\/(b∈([206,213,281]:Sd Ss)/\o=aax #[]):=λb o e=>by
  by_cases m:b∈([206,213,281]:Sd Ss)
  ·exact .inr ⟨m,Sa.inj (e.symm.trans (hT b m))⟩
  ·by_cases z:b=l
   ·exact .inl (z▸hfix.trans (hl.symm.trans (z▸e)))
   ·exact .inl (I.base b o (hideAll_get _ e λq=>(Sv.mp q).elim z m))
 refine⟨λb o e=>?_,λb o e=>?_⟩
 ·rcases cases3 b o e with h | ⟨m,rfl⟩
  ·exact .inl h
  ·obtain⟨⟨ps,g⟩,ic⟩:=tabs b m
   exact .inr (.inl ⟨ic,rfl,#[],ps,rfl,by rw[g];simp⟩)
 ·rcases cases3 b o e with h | ⟨m,rfl⟩
  ·exact⟨o,h⟩
  ·obtain⟨⟨ps,g⟩,_⟩:=tabs b m
   exact⟨_,g⟩
theorem D2 {s:Sr}{step:Nat}{ps:Sd Int}{iP i0 i1 i2 i3 i4 i5 iS iX:Nat}{aP a0 a1 a2 a3 a4 a5 aS aX:Ss}{o:Obj}(F:FrR C fx env fm σ s)(H:Shape st fm ring step many ps iP i0 i1 i2 i3 i4 i5 iS iX)
  (hP:σ[iP]? = Sa aP) (h0:σ[i0]? = Sa a0) (h1:σ[i1]? = Sa a1) (h2:σ[i2]? = Sa a2) (h3:σ[i3]? = Sa a3) (h4:σ[i4]? = Sa a4) (h5:σ[i5]? = Sa a5) (hS:σ[iS]? = Sa aS) (hin:∀a∈[aP,206,213,281,a0,a1,a2,a3,a4,a5,aS,aX],a∈σ) :
  FrR (C.pin aP o) fx env (AZ many) [aP,206,213,281,a0,a1,a2,a3,a4,a5,aS,aX] s:=by
 refine aE (F.ns) λm hn hv=>?_
 have refe:∀{i j:Nat} {a:Ss} {u:Sn} {σ':Sd Ss},VR σ s.heap (.ref i) u->σ[i]? = Sa a->σ'[j]? = Sa a->VR σ' s.heap (.ref j) u:=λr e e'=>VR.ref_e r λa q=>.ref (e'.trans (e.symm.trans q))
 have loc:pz (λi o=>∀x v,fx.ln[i]? = Sa x->o=Sa v->∃u,m x=Sa u/\VR [aP,206,213,281,a0,a1,a2,a3,a4,a5,aS,aX] s.heap v u) (none::Sa (ak many)::none::none::Sa (.ref 0)::Sa (.ref 10)::Sq 24 (none:SP V)) 0:=
  .cons (λ_ _ _ h=>iq h) (.cons (λx v e h=>Sa.inj h▸(hv 1 x _ e H.l1).elim λu q=>⟨u,q.1,VR.int_e q.2 λ_=>.int _ _⟩) (.cons (λ_ _ _ h=>iq h) (.cons (λ_ _ _ h=>iq h) (.cons (λx v e h=>Sa.inj h▸(hv 4 x _ e H.l4).elim λu q=>⟨u,q.1,refe q.2 hP rfl⟩)
   (.cons (λx v e h=>Sa.inj h▸(hv 5 x _ e H.l5).elim λu q=>⟨u,q.1,refe q.2 hS rfl⟩) (qZ (λ_ _ _ _ h=>iq h) 24 6))))))
 have go:∀{k ii n:Nat} {a:Ss},[i0,i1,i2,i3,i4,i5][k]? = Sa ii->σ[ii]? = Sa a->[aP,206,213,281,a0,a1,a2,a3,a4,a5,aS,aX][n]? = Sa a->∃x a,fx.cn[k]? = Sa x/\env.cells.lookup x=Sa a/\[aP,206,213,281,a0,a1,a2,a3,a4,a5,aS,aX][n]? = Sa a:=λ{k ii n a} e1 e2 e3=>by
  refine gx (F.cel k ii (H.cel▸e1)) λx a' q1 q2 q3=>?_
  exact⟨x,a',q1,q2,e3.trans (e2.symm.trans q3)⟩
 have cel:pz (λi n=>∃x a,fx.cn[i]? = Sa x/\env.cells.lookup x=Sa a/\[aP,206,213,281,a0,a1,a2,a3,a4,a5,aS,aX][n]? = Sa a) [4,5,6,7,8,9] 0:=
  .cons (go rfl h0 rfl) (.cons (go rfl h1 rfl) (.cons (go rfl h2 rfl) (.cons (go rfl h3 rfl) (.cons (go rfl h4 rfl) (.cons (go rfl h5 rfl) .nil)))))
 exact⟨⟨m,hn,λi x v e e'=>Cg loc e' x v e rfl⟩,λq=>F.out (hin _ q),F.new,Sk (T7 H.len.symm) F.len,λi n e=>Cg cel e⟩
end
section
variable {prog:Program}{w:World}{p:Program}{loose:List Str}{mean:ExcName->Option Value}{mg mb:Str->Option Value}{aaQ:Shared}{fa l:Addr}{vs:List Value}{xs:List Int}
inductive EJ (fm:Fm)(st:St):Prop
 | mk (ring step many head iP i0 i1 i2 i3 i4 i5 iS iX:Nat) (V:uh ring step many) (h:head<ring) (H:Shape st fm ring step many (fK ring step many head) iP i0 i1 i2 i3 i4 i5 iS iX)
theorem Ep (r:VR σ h v u):isTrue1 v=Se->u=.bool Se:=by
 induction r using VR.cases_e with
 | bool b=>exact λhv=>SO Sn.bool hv
 | _=>exact ff
open Classical in
theorem DU (W:BaseT (gA prog w p loose mg mb aaQ l vs) w.params)(X:(KH w.params).In aaQ.heap)(T:Top p loose mean mg mb aaQ.heap)(hT:∀P∈([206,213,281]:Sd Ss),aaQ.heap.get? P=Sa (aax #[]))(hg:aaQ.gens=#[])(hmg:mg "law"=Sa (.ref fa))(hl:aaQ.heap.get? l=Sa (cB vs 0))(hI:UG vs xs)(hlen:xs.length<=63)
  (second:∀ring step many pl,uh ring step many->Cx step ring (many+1) (ak many) (.ref 0) (.ref 10) 4 5 6 7 8 9 (fi pl ring step) (λv _=>isTrue1 v)=Se) (hQ:∀s',OldK aaQ.heap s'.heap->s'.os=aaQ.os->UV s'.gens->Q (.bool Se) s'):So (model prog w) callerA (call (.ref fa) [.ref l]) Q E aaQ:=by
 have e:=mg_of X T.g (n:="law") (v:=.ref 304) (by kernel_rfl)
 rw[hmg] at e
 cases e
 have I:=Dv (prog:=prog) (w:=w) (p:=p) (loose:=loose) (mg:=mg) (mb:=mb) hT hl hI
 have e6:(au (aZ (KH w.params) 304).scope .cell).length=6:=by kernel_rfl
 have e30:(au (aZ (KH w.params) 304).scope .local).length=30:=by kernel_rfl
 have R:Rm 59 callerA:=⟨(bo rfl),(bo rfl),rfl⟩
 refine BM (l:=[V.ref 0]) (us:=[.ref l]) W.ok W.o27 (Sd.take_append_drop 6 _).symm W.b27a R I (.cons (.ref (n:=0) rfl) .nil) (P:=λfm st=>decide (EJ fm st)) rfl ?_ ?_
 ·rw[e6,e30]
  exact H7 hlen _ (λfm st ring step many head iP i0 i1 i2 i3 i4 i5 iS iX a b c=>Tq ⟨ring,step,many,head,iP,i0,i1,i2,i3,i4,i5,iS,iX,a,b,c⟩)
 ·intro env σ fm st s En S I' F dL h
  obtain⟨ring,step,many,head,iP,i0,i1,i2,i3,i4,i5,iS,iX,hV,hh,H⟩:=S4 h
  obtain⟨aP,vP,n,a0,a1,a2,a3,a4,a5,aS,aX,hP,h0,h1,h2,h3,h4,h5,hS,hIv,gP,hin,Ir⟩:=Id rfl I' H
  have W':=Cv W aP (cB vP n)
  have F':=D2 (o:=cB vP n) F H hP h0 h1 h2 h3 h4 h5 hS (λa m=>by
   refine aE (hin a m) λi hi _=>?_
   exact Sp hi)
  have hfull:=(pI ring (by have:=hV.r;lia) step (by have:=hV.s;lia) hV.r.1 hV.s.1 hV.ne).2
  have hm:=hV.m
  have hr:=hV.r
  have b:=W'.b28 (a:=aP) (vs:=vP) (n:=n) (.head _) hIv (GN (ring:=ring) (step:=step) (many:=many) (head:=head) (by lia) (by lia) (by lia) hh)
  have q:=b (callerA.deeper env) env _ (AZ many) _ s (K0 λv _=>isTrue1 v) R.deeper En Ir F' ((Ej step ring (many+1) (ak many) (.ref 0) (.ref 10) 4 5 6 7 8 9 _ _).trans (second ring step many _ hV))
  refine Sm q (λf s'' z=>?_) λ_ _ z=>z
  obtain⟨σ'',fl,fm'',st'',S'',I'',F'',r,hv⟩:=z
  clear q b hm hr hfull F' H F Ir hIv gP second
  revert hv
  refine FlR.e r ff ff ff λ{v u} r hv=>⟨u,rfl,?_⟩
  have e:u=.bool Se:=Ep r hv
  have g0:=I'.fix 0 l _ (.head _)
  refine bH (g0.2.2.2) λll hll=>?_
  refine e.symm▸hQ s'' (zJ W' X hT hl (S''.keep l _ (λm=>?_) (λm=>?_) g0.2.2.1) I'') (S''.os.trans S.os) (S''.gens (S.gens (hg.symm▸λy hy=>nomatch hy)))
  ·refine aE (hin l m) λi hi hor=>?_
   have z:i=0:=I'.inj hi g0.2.1
   exact hor.elim (λq=>S8 (show 4<=0 from z▸q) (by decide)) λq=>nomatch hll.symm.trans (show st.look 0=Sa .hid from z▸q)
  ·exact iq (dL.symm.trans (Sj.mp m▸hl))
end
noncomputable section
noncomputable def Pl (v:V):Si:=match v with | .bool b=>b | _=>ll
def rn (pl:Sd V)(ring step many:Nat):Si:=Cx step ring (many+1) (ak many) (.ref 0) (.ref 10) 4 5 6 7 8 9 (fi pl ring step) (λv _=>Pl v)
end
theorem ba {P:Nat->Prop}{a b:Nat}(h:P a)(t:∀m,a+1<=m->m<b->P m):∀m,a<=m->m<b->P m:=λm h1 h2=>(Nat.eq_or_lt_of_le h1).elim (λe=>e▸h) λl=>t m l h2
theorem jn {P:Nat->Prop}{a:Nat}:∀m,a<=m->m<a->P m:=λ_ h1 h2=>S8 h2 (Uk.mpr h1)
theorem Bu {f:Nat->Si}:∀{l:Sd Nat},gu f l=Se->∀m∈l,f m=Se
 | [],_,_,h=>by cases h
 | x::l,h,m,hm=>by
  obtain⟨h1,h2⟩:=eH h
  rcases Sv.mp hm with rfl | hm
  ·exact h1
  ·exact Bu h2 m hm
abbrev Rn (ring step:Nat):Prop:=2*step≠ring->∀pl,gu (rn pl ring step) (Zs 2 (iM step ring - 2))=Se
theorem Pq:Rn 8 1:=λ_ _=>by kernel_rfl
theorem Qy:Rn 8 2:=λ_ _=>by kernel_rfl
theorem PL:Rn 8 3:=λ_ _=>by kernel_rfl
theorem PB:Rn 8 5:=λ_ _=>by kernel_rfl
theorem Qk:Rn 8 6:=λ_ _=>by kernel_rfl
theorem PX:Rn 8 7:=λ_ _=>by kernel_rfl
theorem QP:Rn 9 1:=λ_ _=>by kernel_rfl
theorem O0:Rn 9 2:=λ_ _=>by kernel_rfl
theorem Qm:Rn 9 3:=λ_ _=>by kernel_rfl
theorem Qd:Rn 9 4:=λ_ _=>by kernel_rfl
theorem O5:Rn 9 5:=λ_ _=>by kernel_rfl
theorem P3:Rn 9 6:=λ_ _=>by kernel_rfl
theorem PU:Rn 9 7:=λ_ _=>by kernel_rfl
theorem NG:Rn 10 1:=λ_ _=>by kernel_rfl
theorem NA:Rn 10 2:=λ_ _=>by kernel_rfl
theorem Jj:Rn 10 3:=λ_ _=>by kernel_rfl
theorem JV:Rn 10 4:=λ_ _=>by kernel_rfl
theorem Ks:Rn 10 6:=λ_ _=>by kernel_rfl
theorem JM:Rn 10 7:=λ_ _=>by kernel_rfl
theorem Mw:Rn 11 1:=λ_ _=>by kernel_rfl
theorem Mi:Rn 11 2:=λ_ _=>by kernel_rfl
theorem JU:Rn 11 3:=λ_ _=>by kernel_rfl
theorem KR:Rn 11 4:=λ_ _=>by kernel_rfl
theorem M4:Rn 11 5:=λ_ _=>by kernel_rfl
theorem Mj:Rn 11 6:=λ_ _=>by kernel_rfl
theorem KM:Rn 11 7:=λ_ _=>by kernel_rfl
theorem K8:Rn 12 1:=λ_ _=>by kernel_rfl
theorem Kc:Rn 12 2:=λ_ _=>by kernel_rfl
theorem Ki:Rn 12 3:=λ_ _=>by kernel_rfl
theorem MP:Rn 12 4:=λ_ _=>by kernel_rfl
theorem LV:Rn 12 5:=λ_ _=>by kernel_rfl
theorem Le:Rn 12 7:=λ_ _=>by kernel_rfl
theorem NU:Rn 13 1:=λ_ _=>by kernel_rfl
theorem NF:Rn 13 2:=λ_ _=>by kernel_rfl
theorem KG:Rn 13 3:=λ_ _=>by kernel_rfl
theorem JQ:Rn 13 4:=λ_ _=>by kernel_rfl
theorem K6:Rn 13 5:=λ_ _=>by kernel_rfl
theorem LC:Rn 13 6:=λ_ _=>by kernel_rfl
theorem K2:Rn 13 7:=λ_ _=>by kernel_rfl
theorem Mg:Rn 14 1:=λ_ _=>by kernel_rfl
theorem JB:Rn 14 2:=λ_ _=>by kernel_rfl
theorem JR:Rn 14 3:=λ_ _=>by kernel_rfl
theorem N0:Rn 14 4:=λ_ _=>by kernel_rfl
theorem KX:Rn 14 5:=λ_ _=>by kernel_rfl
theorem MZ:Rn 14 6:=λ_ _=>by kernel_rfl
theorem Nc:Rn 15 1:=λ_ _=>by kernel_rfl
theorem MK:Rn 15 2:=λ_ _=>by kernel_rfl
theorem J9:Rn 15 3:=λ_ _=>by kernel_rfl
theorem L9:Rn 15 4:=λ_ _=>by kernel_rfl
theorem M5:Rn 15 5:=λ_ _=>by kernel_rfl
theorem MY:Rn 15 6:=λ_ _=>by kernel_rfl
theorem Nl:Rn 15 7:=λ_ _=>by kernel_rfl
theorem Ad:∀ring,8<=ring->ring<16->∀step,1<=step->step<8->Rn ring step:=ba (ba Pq (ba Qy (ba PL (ba (λh=>S8 rfl h) (ba PB (ba Qk (ba PX (jn)))))))) (ba (ba QP (ba O0 (ba Qm (ba Qd (ba O5 (ba P3 (ba PU (jn)))))))) (ba (ba NG (ba NA (ba Jj (ba JV (ba (λh=>S8 rfl h) (ba Ks (ba JM (jn)))))))) (ba (ba Mw (ba Mi (ba JU (ba KR (ba M4 (ba Mj (ba KM (jn)))))))) (ba (ba K8 (ba Kc (ba Ki (ba MP (ba LV (ba (λh=>S8 rfl h) (ba Le (jn)))))))) (ba (ba NU (ba NF (ba KG (ba JQ (ba K6 (ba LC (ba K2 (jn)))))))) (ba (ba Mg (ba JB (ba JR (ba N0 (ba KX (ba MZ (ba (λh=>S8 rfl h) (jn)))))))) (ba (ba Nc (ba MK (ba J9 (ba L9 (ba M5 (ba MY (ba Nl (jn)))))))) (jn))))))))
theorem ue (ring step many:Nat)(pl:Sd V)(h:uh ring step many):rn pl ring step many=Se:=
 Bu (Ad ring h.r.1 (by have:=h.r;omega) step h.s.1 (by have:=h.s;omega) h.ne pl) many (Sd.mem_range'_1.mpr ⟨h.m.1,by have:=h.m;omega⟩)
end Mine.Internal
namespace Mine.law_holds
theorem tw2872812170981058569:True:=⟨⟩
theorem tw11657415642715253595:True:=⟨⟩
theorem tw3310931918178840333:True:=⟨⟩
theorem tw13536078969547264968:True:=⟨⟩
theorem tw2482802953670953974:True:=⟨⟩
theorem tw7443399042715001268:True:=⟨⟩
theorem tw2217470429024006811:True:=⟨⟩
theorem tw15732109348078318572:True:=⟨⟩
theorem tw1035469204868569938:True:=⟨⟩
theorem tw10239797524603225521:True:=⟨⟩
theorem tw9691405638274900075:True:=⟨⟩
theorem tw9664006263252764366:True:=⟨⟩
theorem tw16985797341776711866:True:=⟨⟩
theorem tw4834441640324335382:True:=⟨⟩
theorem tw4946720094412051239:True:=⟨⟩
theorem tw2643271747718453845:True:=⟨⟩
theorem tw575232530192455986:True:=⟨⟩
theorem tw17974257514489008736:True:=⟨⟩
theorem tw11126432536435168541:True:=⟨⟩
theorem tw8514742172934523775:True:=⟨⟩
theorem tw3253820488102484341:True:=⟨⟩
theorem tw1767730674963353768:True:=⟨⟩
theorem tw15162217921772873613:True:=⟨⟩
theorem tw16805829885119392726:True:=⟨⟩
theorem tw11677100312832694166:True:=⟨⟩
theorem tw15154110283740273250:True:=⟨⟩
theorem tw13431030151845061361:True:=⟨⟩
theorem tw10609929442622069884:True:=⟨⟩
theorem tw6934448944433832347:True:=⟨⟩
theorem tw455179833554555240:True:=⟨⟩
theorem tw10368410895845634921:True:=⟨⟩
theorem tw545109181885906688:True:=⟨⟩
theorem tw12831907817818079685:True:=⟨⟩
theorem tw3426384778480675251:True:=⟨⟩
theorem tw5274592661964301406:True:=⟨⟩
theorem tw15274831704391544125:True:=⟨⟩
theorem tw12116493165278983582:True:=⟨⟩
theorem tw18326849912455186884:True:=⟨⟩
theorem tw3438298445031660282:True:=⟨⟩
theorem tw11100686419730198450:True:=⟨⟩
theorem tw179590077315354965:True:=⟨⟩
theorem tw8441880690091102137:True:=⟨⟩
theorem tw14498155544194170393:True:=⟨⟩
theorem tw498061464947678834:True:=⟨⟩
theorem tw17713402740875732926:True:=⟨⟩
theorem tw3776956092104397036:True:=⟨⟩
theorem tw10007947361888340627:True:=⟨⟩
theorem tw11484002064277903863:True:=⟨⟩
theorem tw9843604407834444796:True:=⟨⟩
theorem tw14991590004735058009:True:=⟨⟩
theorem tw8634839017697508684:True:=⟨⟩
theorem tw13882729330811710610:True:=⟨⟩
theorem tw5506821171919863439:True:=⟨⟩
theorem tw11182679623053108816:True:=⟨⟩
theorem tw11544315989524547432:True:=⟨⟩
theorem tw6861490101519172755:True:=⟨⟩
theorem tw8176227357466254829:True:=⟨⟩
theorem tw17993387198741990920:True:=⟨⟩
theorem tw11470271118054631628:True:=⟨⟩
theorem tw17942709131360195518:True:=⟨⟩
theorem tw447027507633508388:True:=⟨⟩
theorem tw7304591109411159013:True:=⟨⟩
theorem tw1622690429015379626:True:=⟨⟩
theorem tw13956741780833797525:True:=⟨⟩
theorem tw7636989558263936852:True:=⟨⟩
theorem tw14326059299131336239:True:=⟨⟩
theorem tw17253903310271361901:True:=⟨⟩
theorem tw4273555757443719353:True:=⟨⟩
theorem tw14385925486924208373:True:=⟨⟩
theorem tw576407869801174206:True:=⟨⟩
theorem tw1905533677188600702:True:=⟨⟩
theorem tw18340598423539479173:True:=⟨⟩
theorem tw3882201998751590657:True:=⟨⟩
theorem tw8909828626151137519:True:=⟨⟩
theorem tw8666519363043736892:True:=⟨⟩
theorem tw6765152471904792315:True:=⟨⟩
theorem tw13220211186989608806:True:=⟨⟩
theorem tw2102315897755806987:True:=⟨⟩
theorem tw2006301483956418059:True:=⟨⟩
theorem tw4889031023730116350:True:=⟨⟩
theorem tw13780023080261437657:True:=⟨⟩
theorem tw1989176631692091739:True:=⟨⟩
theorem tw7407239408455114201:True:=⟨⟩
theorem tw18203989763732354715:True:=⟨⟩
theorem tw12780804625047726367:True:=⟨⟩
theorem tw4593294709026258786:True:=⟨⟩
theorem tw519298541982818421:True:=⟨⟩
theorem tw10958410103948607464:True:=⟨⟩
theorem tw9875236377963488844:True:=⟨⟩
theorem tw8285764192309689115:True:=⟨⟩
theorem tw15448297888555860652:True:=⟨⟩
theorem tw8957123355933967898:True:=⟨⟩
theorem tw9849722394096787677:True:=⟨⟩
theorem tw12223724995276690173:True:=⟨⟩
theorem tw14160533322030094474:True:=⟨⟩
theorem tw16470317323979864763:True:=⟨⟩
theorem tw5108549723967310274:True:=⟨⟩
theorem tw4116831888350618822:True:=⟨⟩
theorem tw6709271908398517637:True:=⟨⟩
theorem tw14997073306097389879:True:=⟨⟩
theorem tw15452448965706171373:True:=⟨⟩
theorem tw14774650325386425613:True:=⟨⟩
theorem tw14571795756577361901:True:=⟨⟩
theorem tw11609493526922420660:True:=⟨⟩
theorem tw18269650602155537469:True:=⟨⟩
theorem tw15607887362523206001:True:=⟨⟩
theorem tw15014403891855920072:True:=⟨⟩
theorem tw13280740594461564331:True:=⟨⟩
theorem tw10242277825702978295:True:=⟨⟩
theorem tw3956099054510807996:True:=⟨⟩
theorem tw2644310842459337959:True:=⟨⟩
theorem tw2136269947727277649:True:=⟨⟩
theorem tw10666784280354678857:True:=⟨⟩
theorem tw1928719863018725356:True:=⟨⟩
theorem tw16883458599210261866:True:=⟨⟩
theorem tw14390095281932903014:True:=⟨⟩
theorem tw12459966957829302596:True:=⟨⟩
theorem tw15472126771306010800:True:=⟨⟩
theorem tw3850334171643177529:True:=⟨⟩
theorem tw4037582482628031876:True:=⟨⟩
theorem tw2269544990204364226:True:=⟨⟩
theorem tw16406091861079842607:True:=⟨⟩
theorem tw9288214680346807717:True:=⟨⟩
theorem tw2856731137302751260:True:=⟨⟩
theorem tw12303009252429188658:True:=⟨⟩
theorem tw8249079356659094474:True:=⟨⟩
theorem tw907578622648922086:True:=⟨⟩
theorem tw10188763426450519768:True:=⟨⟩
theorem tw12115171985352901274:True:=⟨⟩
theorem tw4030767218360268280:True:=⟨⟩
theorem tw6911747868599837429:True:=⟨⟩
theorem tw4441770287765753910:True:=⟨⟩
theorem tw13709617746848070560:True:=⟨⟩
theorem tw8369274380968253667:True:=⟨⟩
theorem tw10024239376800412576:True:=⟨⟩
theorem tw10028117763298573888:True:=⟨⟩
theorem tw10465528174321978529:True:=⟨⟩
theorem tw10566571302883470556:True:=⟨⟩
theorem tw10817052189556005596:True:=⟨⟩
theorem tw11097350217990362986:True:=⟨⟩
theorem tw11098625913536864229:True:=⟨⟩
theorem tw11289095316329951393:True:=⟨⟩
theorem tw11404014056486942332:True:=⟨⟩
theorem tw11625900857008200698:True:=⟨⟩
theorem tw11633083819707477107:True:=⟨⟩
theorem tw11690447701083486646:True:=⟨⟩
theorem tw11781800970755023335:True:=⟨⟩
theorem tw11803358882649189518:True:=⟨⟩
theorem tw11846676642670509255:True:=⟨⟩
theorem tw1186782194237197914:True:=⟨⟩
theorem tw11924911360389889469:True:=⟨⟩
theorem tw11966672015165255308:True:=⟨⟩
theorem tw12134408205421670959:True:=⟨⟩
theorem tw12296726922439171297:True:=⟨⟩
theorem tw123295346585929383:True:=⟨⟩
theorem tw12342728606916771844:True:=⟨⟩
theorem tw12626328134170644701:True:=⟨⟩
theorem tw12732824653754844360:True:=⟨⟩
theorem tw1285599515219305098:True:=⟨⟩
theorem tw12889673554181485818:True:=⟨⟩
theorem tw13028658284911697911:True:=⟨⟩
theorem tw13182730311906835528:True:=⟨⟩
theorem tw13301187468288870568:True:=⟨⟩
theorem tw13392613628428298086:True:=⟨⟩
theorem tw13397297893571687751:True:=⟨⟩
theorem tw13402424001964919149:True:=⟨⟩
theorem tw13478230802861573701:True:=⟨⟩
theorem tw13650905803964671038:True:=⟨⟩
theorem tw13766487248619392586:True:=⟨⟩
theorem tw1377309892636839040:True:=⟨⟩
theorem tw13800757232730249582:True:=⟨⟩
theorem tw1385162719727133579:True:=⟨⟩
theorem tw14051398506283589457:True:=⟨⟩
theorem tw1414043511812021011:True:=⟨⟩
theorem tw14289194402921355359:True:=⟨⟩
theorem tw14335913921861858828:True:=⟨⟩
theorem tw14497384708736915567:True:=⟨⟩
theorem tw14545874151571354728:True:=⟨⟩
theorem tw14596297492920191028:True:=⟨⟩
theorem tw14828999820898988419:True:=⟨⟩
theorem tw14883556706271630602:True:=⟨⟩
theorem tw14983226153234331074:True:=⟨⟩
theorem tw14988988175077273356:True:=⟨⟩
theorem tw15006436103509636135:True:=⟨⟩
theorem tw15609566024721092083:True:=⟨⟩
theorem tw15617896438947887921:True:=⟨⟩
theorem tw15661869461025623997:True:=⟨⟩
theorem tw15694993059591697976:True:=⟨⟩
theorem tw15802469936163623734:True:=⟨⟩
theorem tw16098122237329998606:True:=⟨⟩
theorem tw16099233806120587224:True:=⟨⟩
theorem tw16106779387088534511:True:=⟨⟩
theorem tw16273140198857503625:True:=⟨⟩
theorem tw16563099163409725306:True:=⟨⟩
theorem tw1670043908289496885:True:=⟨⟩
theorem tw16836969012518115619:True:=⟨⟩
theorem tw16893121556090616931:True:=⟨⟩
theorem tw1689763614830377041:True:=⟨⟩
theorem tw17027635718292003107:True:=⟨⟩
theorem tw17180001009569633970:True:=⟨⟩
theorem tw17237755526102222789:True:=⟨⟩
theorem tw17253691774821329096:True:=⟨⟩
theorem tw17499823404086765753:True:=⟨⟩
theorem tw1762888911704233025:True:=⟨⟩
theorem tw17911580528928914924:True:=⟨⟩
theorem tw1819975233463548508:True:=⟨⟩
theorem tw18234560199702728603:True:=⟨⟩
theorem tw18254337876149969668:True:=⟨⟩
theorem tw2055734563569237896:True:=⟨⟩
theorem tw2075624079617657780:True:=⟨⟩
theorem tw2124134355350193313:True:=⟨⟩
theorem tw2152083551845799040:True:=⟨⟩
theorem tw2387193687640843687:True:=⟨⟩
theorem tw2503670479209048990:True:=⟨⟩
theorem tw2558664710541493025:True:=⟨⟩
theorem tw2907507879108658156:True:=⟨⟩
theorem tw3158129796062787159:True:=⟨⟩
theorem tw3186734533307500241:True:=⟨⟩
theorem tw3253568177066640346:True:=⟨⟩
theorem tw3742325753681652743:True:=⟨⟩
theorem tw3756308257209627903:True:=⟨⟩
theorem tw3850375180904979519:True:=⟨⟩
theorem tw3850404396616230974:True:=⟨⟩
theorem tw3912811242725288453:True:=⟨⟩
theorem tw4329158554759489670:True:=⟨⟩
theorem tw4439653461905209652:True:=⟨⟩
theorem tw4464252984393422682:True:=⟨⟩
theorem tw4503035019201841076:True:=⟨⟩
theorem tw4515466672771955728:True:=⟨⟩
theorem tw4581845663705801772:True:=⟨⟩
theorem tw4614512636035447770:True:=⟨⟩
theorem tw4818577856007422655:True:=⟨⟩
theorem tw4916342969005030805:True:=⟨⟩
theorem tw4992725456586698614:True:=⟨⟩
theorem tw5112083995522966620:True:=⟨⟩
theorem tw5212653520564569363:True:=⟨⟩
theorem tw5731563423909890137:True:=⟨⟩
theorem tw5769158387606399586:True:=⟨⟩
theorem tw602461330855297101:True:=⟨⟩
theorem tw6159533029260741167:True:=⟨⟩
theorem tw6317479115527610633:True:=⟨⟩
theorem tw6499956759230125245:True:=⟨⟩
theorem tw6507877686720480950:True:=⟨⟩
theorem tw653560878884961445:True:=⟨⟩
theorem tw6564709946809587534:True:=⟨⟩
theorem tw6667284449218939238:True:=⟨⟩
theorem tw6723812968561706957:True:=⟨⟩
theorem tw676263390381983339:True:=⟨⟩
theorem tw6776455111828631412:True:=⟨⟩
theorem tw6869992995446874880:True:=⟨⟩
theorem tw6896717019858035522:True:=⟨⟩
theorem tw7120836010843673076:True:=⟨⟩
theorem tw718173064312146323:True:=⟨⟩
theorem tw7221428835167493151:True:=⟨⟩
theorem tw724200737284857819:True:=⟨⟩
theorem tw7408322871517469003:True:=⟨⟩
theorem tw7696488724909661519:True:=⟨⟩
theorem tw7820799176418779761:True:=⟨⟩
theorem tw7910590604623066228:True:=⟨⟩
theorem tw8549365171731915398:True:=⟨⟩
theorem tw8553002610548859549:True:=⟨⟩
theorem tw8652346329174877282:True:=⟨⟩
theorem tw8720880381367431298:True:=⟨⟩
theorem tw8785698371604719795:True:=⟨⟩
theorem tw8835965917227929528:True:=⟨⟩
theorem tw8854015012368427407:True:=⟨⟩
theorem tw8857742495270377987:True:=⟨⟩
theorem tw9069877914133315304:True:=⟨⟩
theorem tw9184033795430018204:True:=⟨⟩
theorem tw9423440377400516374:True:=⟨⟩
theorem tw9529696498207198238:True:=⟨⟩
theorem tw9552830710289189752:True:=⟨⟩
theorem tw9682718004065560343:True:=⟨⟩
end Mine.law_holds
namespace Mine.Internal
open PySem PySem.Spec PySem.Calls PyProof.Rows PySem.W Builtin Builtin.ObjectAttr
open _root_.Bool renaming false→ll,true→Se,and_eq_true→S6,rec→Te,noConfusion→Uw,false_ne_true→Vz,not_eq_true'→VU,true_and→We,false_and→WA,and_false→WC,or_eq_false_iff→Xk,and_eq_true_iff→Zn
open _root_.PySem renaming wpAny_bind→oX,wpAny_pure→Sf,wpAny_mono→Sm,Value→Sn,wpAny→So,Shared→Sr,Addr→Ss,wpAny_holding→SN,mainGlobals→SY,foldedSetIterable→Tr,wpAny_Call_Name_kw→Tw,letOwnedTupleGo→Tx,wpAny_standAt→Tz,wpAny_field→TB,wpAny_newObj_type→TF,wpAny_of_eq→TP,starEach→TY,wpAny_seqItems→T2,wpAny_callSpecial?_slot→T3,wpAny_loadName_local→T4,builtinsNs→T6,assignEach→T8,Around→Ua,BindsTo→Ub,wpAny_call_entry→Uc,IsRangeIter→Ug,wpAny_storeName_local→Up,seg_execs_cons→Us,slot_list_append→Uz,standAt→UC,IsPair→UE,wpAny_truthy_bool→UH,wpAny_call→UI,isInstance→UJ,pyNext→UK,codeAny_builtin→UO,DictEntry→US,sizeLine→UW,codeAny_call_builtin→UX,codeAny→U0,wpAny_rule→U1,wpAny_updateSeq→U2,isTrue→U7,sizeLine_eq→U8,builtinKind→U9,wpAny_isInstance→Vb,type_list_append→Vc,PyData→Vd,slot_listiter_next→Vf,wpAny_setField_rec→Vh,numAt→Vi,wpAny_specialOf→Vj,wpAny_letGo→Vo,wpAny_attempt→Vq,checkBoundCall→Vt,clipAt→Vx,rawInt→Vy,newEnv→VB,codeAny_mono→VC,getAttrByItsOwn→VG,IsZip→VJ,swapsWith→VK,swappedStores→VL,wpAny_isTrue_Compare1→VN,slot_list_getitem→VT,wpAny_Name→VW,letTemporaryGo→VZ,typeIs_str→V0,wpAny_listPart→V1,seqIndex?→V7,plainId_quiet→Wk,theTreesLotGoes→Wn,wpAny_Constant_int→Wp,call_meets→Wq,argsOk→Ws,seqItems?→Wu,getMethod→Wv,boundAndCalled→WD,wpAny_loadPart→WG,wpAny_pyNext_list_item→WI,wpAny_pyIter_list→WJ,IsRange→WL,wpAny_pyIter_enum→WM,newFunctionEnv→WO,GenState→WT,ks_wpAt_mono→WU,wpAny_tryCatch→WV,recursionLimit→WW,wpAny_pyNext_list_end→WZ,codeAny_call_function→W1,codeAmong→W3,backTo→W4,typeIs_int→W5,checkBuiltinCall→W6,wpAny_load→W8,preSum→Xa,swapsWithSole→Xg,wpAt_of_wpAny→Xh,seg_execs_nil→Xi,callWith→Xm,callSpecialIfBoundUnlessNone?→Xn,typeOf→Xq,codeAny_of_tree→Xt,wpAny_loadPart'→Xu,wpAny_Constant_none→Xz,wpAny_Constant_bool→XA,builtinType_eq_fast→XC,callSpecial?→XF,getItem→XG,loadGlobal→XN,pyIter→XO,wpAny_pyIter_range→XP,wpAny_isTrue_value→XQ,FuncData→XR,bindArgs→XT,firstArgMember→XU,slicePicked→Yb,slot_list_setitem→Yc,argBest→Yf,wpAny_assign_Name→Yg,evalPart_none→Yi,wpAny_comprehension_free→Yk,wpAny_onRaise→Yl,TriplesOk→Yn,binaryOp→Yo,callGetattribute→Ys,wpAny_askSetting→Yt,wpAny_listSubscript_int→Yu,wpAny_getItem_str_slice→Yw,strValues→Yy,noteFrame→YB,wpAny_allTrue_And_cons→YG,wpAny_mkText→YI,wpAny_getItem_list_neg→YK,wpAny_typeOf→YL,closureFor→YP,codeAny_compStart_list→YQ,wpAny_allTrue_Or_cons→YV,wpAny_pyIter_listiter→YY,exec_Assign_Name_used→YZ,builtinLookup_eq_fast→Y0,slot_list_iter→Zf,keywordEach→Zg,wpAny_alloc→Zi,compPost→Zl,isSubtype_stop→Zm,seg_Expr_Yield→Zo,splitId→Zw,setItem→Zx,updateSeq→Zy,newList→Zz,behindInMarks→ZM,evalPart_some→ZO,wpAny_release→ZP,assignInOrder→ZQ,compTurn_list→ZR,wpAny_handled→ZS,wpAny_newList→ZU,call_range_1→Z7,compTurn→aab,isSubtype→aam,specialOf→aan,storeName→aao,inplaceOp→aap,IsEnum→aar,IsPart→aaH
open _root_.Option renaming some→Sa,isSome_iff_exists→S1,map_some→Uv,bind_some→Va,map_eq_some_iff→VE,rec→ZV
open _root_ renaming List→Sd,Bool→Si,if_neg→Sz,congrArg→SO,Option→SP,if_pos→SR,of_decide_eq_true→S4,absurd→S8,decide_eq_false→Tp,decide_eq_true→Tq
open _root_.List renaming mem_singleton→Sj,mem_of_getElem?→Sp,replicate→Sq,size_toArray→Su,mem_cons→Sv,getElem?_eq_getElem→Sw,getElem?_eq_some_iff→Sy,length_append→SU,rec→SZ,length_map→S0,forall_mem_cons→S7,all_eq_true→Ta,length_cons→Tc,mem_append→Tf,getElem?_append_left→Ti,map_cons→Tt,flatten_cons→TC,getElem?_map→TG,replicate_succ→TH,getD_eq_getElem?_getD→TM,length_replicate→TN,append_nil→TR,getElem?_append_right→TZ,map_map→T9,mem_append_left→Uj,range→Ul,getElem?_toArray→Uq,mem_range→Ur,forIn_cons→Uu,lookup_cons→Uy,take_of_length_le→UL,mem_map_of_mem→UM,pairwise_iff_getElem→UQ,append_assoc→UZ,map_congr_left→U5,head?_drop→Vk,map_append→Vl,nodup_append→Vm,sum_cons→Vr,nodup_cons→VH,length_nil→VI,length_singleton→VS,getElem?_of_mem→V4,cons_append→V8,getElem?_eq_none_iff→Wa,length_eq_zero_iff→Wt,getElem?_cons_succ→Wy,getElem?_replicate→Wz,length_range→WH,forIn_nil→WN,take_add_one→WQ,range_succ_eq_map→WR,drop_drop→WY,getElem?_eq_none→W0,getElem_map→Xc,map_take→Xj,drop_eq_nil_iff→Xl,nil_append→Xv,mem_map→XH,map_replicate→XW,drop_eq_getElem_cons→XX,getElem?_zip_eq_some→XZ,all_toArray→Yp,length_take→Yx,find?_cons_of_neg→YH,mem_filter→YU,dropLast_eq_take→Y1,cons_lt_cons_iff→Y4,mem_append_right→Y5,singleton_append→Y6,perm_append_comm→Y7,lookup→Zj,mem_cons_of_mem→Zk,lt_irrefl→Zp,range'→Zs,range_eq_range'→Zt,foldl_toArray'→ZI,getElem_of_mem→ZK,filterMap_map→ZX,mem_cons_self→ZY,mem_replicate→Z2,push_toArray→aac,ext_getElem?→aag,any_toArray→aak,any_eq_true→aal,not_mem_nil→aat,perm_middle→aaw,Perm→aaO
open _root_.Nat renaming le_trans→Sk,le_of_ble_eq_true→Sl,lt_of_lt_of_le→Sx,beq→SD,lt_trans→SH,ne_of_lt→SJ,eq_of_beq_eq_true→SK,le_refl→SQ,ble→SV,exists_eq_add_of_le'→SW,lt_succ_self→SX,le_add_right→S9,rec→Tb,zero_le→Td,lt_of_le_of_lt→Tg,lt_succ_of_lt→Th,lt_irrefl→Tj,add_le_add_left→Ts,ne_of_gt→Tu,succ→Tv,le_of_lt→TJ,le_add_left→TK,succ_le_succ→TQ,ble_eq_true_of_le→TU,le_succ→TV,le_of_eq→T7,succ_add_eq_add_succ→Ud,lt_succ_of_le→Uh,not_lt→Uk,le_antisymm→UN,not_lt_zero→U3,le_succ_of_le→Vp,beq_refl→Vv,le_of_sub_eq_zero→VQ,lt_add_one→VY,add_le_add→V3,lt_of_not_le→V5,zero_add→V9,add_right_comm→Wo,lt_of_succ_le→WS,sub_le→W7,mod_lt→Xd,div→Xe,exists_eq_succ_of_ne_zero→Xo,min_eq_left→Xp,mul_le_mul_left→Xy,mul→XD,add_assoc→Yh,mod→YC,succ_pos→YD,sub_succ→YS,lt_of_sub_eq_succ→Y3,add_le_add_right→Y9,one_mul→Zr,add→Zu,mod_two_ne_zero→ZD,add_comm→Z4,lt_trichotomy→Z5,add_div_right→aai,le_of_lt_succ→aaj,pred→aaK,sub→aaP
open _root_.PySem.Obj renaming mapSeq→S5,data_mapFields→Z0,putName→aaB
open _root_.PySem.Builtin.SmallTypes renaming nextOf→Tn,ownedTupleIsFree→Ut,ownedTupleHandOut→Wd
open _root_.PySem.Builtin.Range renaming rangeSize→To
open _root_.Int renaming ofNat→TA,ofNat_eq_natCast→Ux,natCast_nonneg→UR,rec→UU,le_of_lt→V6,negSucc_lt_zero→Wb,lt_trans→XE,not_lt→XK,max_eq_right→Yv,le_trans→YF,negSucc→Y8,subNatNat_of_le→ZE,toNat_of_nonneg→ZF,toNat_of_nonpos→ZG,neg→Z3,ofNat_le→Z6,toNat_natCast→aaf
open _root_.PySem.Builtin.List renaming listItems→TS,listSubscript?→Ui,listUpdate→UA,listFitsIndex→UF
open _root_.PySem.Str renaming ofString→TT
open _root_.PySem.W renaming looks_findIn→TX,emptyDict→Ue,findIn→Um,InstAt→Uo,looks_mroIn→Vn,putName_dict→Vw,dictOf→VM,looks_nsIn→W9,callWith_of→Ye,methodObj→YA,check_slot→YJ,typeIn→YN,instObj→YO,looks_clsIn→Zb,hasDictIn→Zv,codeRec_of→Z1,findCls→aaa,alongIn→aae,keepIn→aas,specialIn→aau,tabObj→aax,clsIn→aaA,kla_obj→aaE,hideAll→aaF,lookIn→aaG,nsIn→aaI
open _root_.PySem.Value renaming ref→T5,none→XS,isStr→Ya,int→ZA,str→aaN
open _root_.PySem.F renaming plain_min_loop→Un,slot_list_getattribute→UT,slot_range_iterator_next→Vg,slot_str_split→VF,slot_str_join→VP,slot_str_getitem→Wf,slot_str_isspace→Wh,args_str_split_2→Wj,ks_slot_super_ga→Wl,entry_str_split→Wx,args_list_getattribute_2→WE,entry_min_loop→WX,type_str_join→W2,args_range_iterator_next_1→Xw,slot_zip_next→Xx,entry_range_iterator_next→XI,type_str_isspace→Ym,slot_list_index→Yz,plain_list_new→YR,entry_list_ga→YW,slot_tuple_lt→Y2,store_object→Zc
open _root_.PyProof.Rows renaming strKind→UB,IntsAre→UG,seqObj→UP,AllBare→UV,spliced_more→U6,assignInOrder_cons→VA,assign_Name→Wg,listUpdate_at→Wm,assignInOrder_nil→Yd,args_nil→Yr,Attribute_any_→Zd,tail_any→Ze,subscriptTail→ZN,arrOf→ZT,SortedToK→aav
open _root_.PySem.Builtin.Str renaming strSliceIndices→UD,partsBetween→Wi,occurrences→Ww,strKind→ZJ
open _root_.PySem.Around renaming under_plainId→UY
open _root_.ForInStep renaming yield→U4
open _root_.PySem.PyData renaming keyHash→Vs,int→Vu,canLay0→VX,eqv→Wr,depth→WB,eqvAll→Xf,canLayAll0→X0,depthAll→YT
open _root_.PySem.Manifest renaming canonical→VD,signature?→Wc
open _root_.Array renaming getElem?_toList→VO,getElem?_eq_some_iff→V2,length_toList→XB,set!_eq_setIfInBounds→XJ,getElem_toList→Zq,toList_append→ZL,size_append→Z9,toList_zip→aay
open _root_.PySem.Builtin.Builtins renaming bindParams→VV
open _root_.PySem.Calls renaming evalArgs_plain→WK
open _root_.And renaming intro→Xb
open _root_.PySem.Unicode renaming isSpace→Xr
open _root_.List.cons renaming injEq→Xs
open _root_.PySem.Bind renaming checkArgs→XM,madeBy→aaC
open _root_.PySem.Builtin.Generator renaming genWake→XY
open _root_.PySem.W.Looks renaming of_pure→Yj
open _root_.String.Pos.Raw renaming mk_le_mk→Yq
open _root_.PyProof renaming noPylong_small→YE
open _root_.PySem.Env renaming kindOf→YM
open _root_.PySem.StrLaws renaming glued_eq_join→YX
open _root_.PySem.P renaming eq_int→Za,getItem_str→ZH,iadd_int→aaq,len_str→aaD
open _root_.ForIn renaming forIn→Zh
open _root_.PySem.Code renaming quiet_builtin→ZZ
open _root_.PySem.callAny renaming viaDunder→aad
open _root_.PySem.Sem renaming bind_eq_wrap'→aah
open _root_.LawfulMonad renaming pure_bind→aaz
open _root_.Array.mk renaming injEq→aaJ
open _root_.PyProof.Rows.SortSt renaming mk'→aaL
open _root_.Function renaming comp→aaM
variable{h:Heap}{C:Cfg}{s:St}{α:Type}{abt:Nat}{fx:Fx}{z a:Addr}{elt:Expr}{σ:List Addr}{x:Str}{es:List Expr}{TI:Addr}{env:Env}{t:Nat}{l:List V}{it:It}{xs:List Int}{gens:List Comprehension}{N:Nat}{dx fa:Addr}{v:V}{st:St}{L:Addr}{gi:eN}{scope:Scope}{fd:FuncData}{af:Addr}{s0:St}{k:V->St->Bool}{c:Nat}{cs:CA}{sc lsc:Scope}{as:CA}{q:List V}{r:T}{j:Nat}{fm:Fm}{d:Nat}{st':St}{B:List Stmt}{Q E:Value->Shared->Prop}{ca cb:CE}{op:OP}{cc:CT}{ce:CE}{en:Expr}{expr:Bool}{tk:Tok}{cd:ClassData}{w:V}{ci:CI}{ct:CT}{R:List Nat}{Ex:Value->Shared->Prop}{orelse:List Stmt}{R₀:Result->Shared->Prop}{qual:Str}{func:Option Addr}{around:Option Env}{ps:List (Bool×Nat)}{d':Nat}{pl:Sem Bool}{co:CE}{apos:Pos}{g:Addr}{tp:Pos}{ifs:List Expr}{acc:Value}{cenv:Env}{target2 iter2:Expr}{ifs2:List Expr}{ty bt:String}{p0:Pos}{xa:Str}{pa pb pt px:Pos}{kt:Nat}{s'':Shared}{t1 t2:Pos}{tc:Tok}{left:Int}{TO:Addr}{e1:Pos}{eg:Expr}{cn cg:CE}{fname:Str}{z0 z1 z2 z3 z4 z5:Pos}{ks:List KP}{clos:List (Str×Addr)}{st1:St}{nl c1 ring:Nat}{cur:List Nat}{many:Nat}{o':O}{s':Shared}{ox:Obj}{gs:xE}{params:Arguments}{xb:Str}{ys:List Int}{ac:Addr}{p:Pos}{A:Around}{items:Array Value}{m:Nat}{f:Value}{target:Expr}{D:Addr}{spos:Pos}{hb:Heap}{i:Nat}{γ:Type}{i1:Addr}{aaV:Shared}{fs:List (Nat×V)}{y:Str}{od:Option Obj}{py:Pos}{b:Addr}{vs:List Value}{n:Nat}{pos:Pos}{β:Type}{G:Addr}{fp:List Addr}{stop:Bool}{h':Heap}{u:Value}{o:O}
section
set_option Elab.async true
noncomputable def AW (K:Frag)(f:Str)(a:Ss):Si:=match K.lookup a with
 | some oc=>(match oc.data with
  | .fields vs=>(match (vs[2]?:SP Sn) with
   | some (.str file _)=>f == file
   | _=>ll)
  | _=>ll)
 | none=>ll
theorem zY {K:Frag}{f:Str} (h:AW K f a=Se):∃oc vs file tf,K.lookup a=Sa oc/\oc.data=.fields vs/\vs[2]? = Sa (.str file tf)/\(f == file)=Se:=by
 unfold AW at h
 split at h
 ·rename_i oc e
  split at h
  ·rename_i vs ed
   split at h
   ·rename_i file tf ev
    exact⟨oc,vs,file,tf,e,ed,ev,h⟩
   ·cases h
  ·cases h
 ·cases h
theorem nH {P:Params}:∀{vs:Sd Sn}{xs:Sd Int},WellAll P h vs (xs.map λi=>WData.int i)->UG vs xs
 | _,[],x=>by cases x;exact .nil
 | _,i::r,x=>by
  cases x with
  | cons a b=>
   cases a
   exact .cons _ _ (nH b)
theorem yE {P:Params} {l:Ss} (x:Well P h (.ref l) (ofPy (.list (xs.map Vd.int)))):∃vs,h.get? l=Sa (cB vs 0)/\UG vs xs:=by
 have e:ofPy (.list (xs.map Vd.int))=.list (xs.map λi=>WData.int i):=by
  simp only[ofPy,ofPys_eq,T9]
  rfl
 rw[e] at x
 cases x with
 | list g r=>exact⟨_,g,nH r⟩
section
theorem _root_.Mine.law_holds:PySem.Challenge.rw_xl0030_01.Holds:=by
 w_on
 o_law
 o_head (kmHook Mine.hd0.heap_1_39 [2,3,15,17,18,20,21,32,34,35,37,38,39,41,42,44,45,46,48,49,51,52,53,55,56,58,59,60,62,63,65,66,67,69,70,72,73,74,76,77,79,80,81,82,83,84,85,95,97,98,100,101,102,104,105,107,108,109,111,112,114,115,116,118,119,121,122,123,125,126,128,129,130,132,133,135,136,137,139,140,142,143,144,146,147,149,150,151,153,154,156,157,158,159,160,161,162,165,168,173,174,175,177,178,180,181,182,184,185,187,188,189,190,192,193,195,196,197,198,200,201,203,204,205,207,208,210,211,212,214,215,217,218,219,220,222,223,225,226,227,229,230,232,233,234,235,237,238,240,241,242,243,244,245,246,249,251,252,254,255,256,258,259,261,262,263,265,266,268,269,270,273,274,275,278,279,280,283,284,285,288,289,290,293,294,295,298,299,300,303,304] (λ_=>by kernel_rfl) [206,213,281])
 case hw=>w_witness2
 k_fill
 intro w aaV aaQ mg mb G Y fa o pm cd doc dV kV ho hd hcd hD hmg hg args vals as hpre hlay hrd hwl hlo
 refine Ground.open G ?_
 intro T B D TE TW
 wrow_args hpre hlay hrd hwl hlo
 obtain⟨vs,hl,hI'⟩:=yE ‹Well w.params aaQ.heap (.ref _) _›
 have X:(KH w.params).In aaQ.heap:=Y.1
 have hT:=Y.2
 have W:=(zV (prog:=RowW.prog (OpenRow.toRowW (OpenLaw.row PySem.Challenge.rw_xl0030_01))) (mg:=mg) (mb:=mb) (λcda m=>zY (by
  rcases Sv.mp m with rfl | m
  ·kernel_rfl
  ·rcases Sv.mp m with rfl | m
   ·kernel_rfl
   ·rw[Sj.mp m];kernel_rfl)) (by kernel_rfl) (by kernel_rfl) (by kernel_rfl) T X hT hl).1
 refine DU W X T hT hg hmg hl hI' (by omega) (λring step many pl h=>ue ring step many pl h) λs' hO hos hb=>?_
 exact⟨.inl ⟨.bool Se,.bool Se,[],rfl,λ_=>by rfl,.bool _,by kernel_rfl,λ_=>⟨.nil,λa ha=>nomatch ha⟩⟩,hO,hos,hb⟩
end
end
end Mine.Internal
theorem PySem.Challenge.cw_xl0030_01_holds : PySem.Challenge.rw_xl0030_01.Holds :=
  Mine.law_holds
