import PyProof.Rows.All
import KE.KEqDat
import Open.Tops
import OpenK.KLine
import PyProof.ExcArgs
import KE.KSuper
import PyProof.StrCalls2
import KE.KDictList
import PyProof.RulesDelMore
import PyProof.TupleIter
import PyProof.ForAny
import KE.KTurns
import PyProof.Rows.DictUnroll
import PyProof.EnumMake
import PyProof.Draws
import PyProof.Rows.ChunkLeaf
import PyProof.ExcBaseAll.Exception
import PyProof.TableCode
import Open.Head
import Open.Line
import Wide.Once
import Lean
import PySem.Challenge.RW_rf0004_04
set_option Elab.async false
set_option maxRecDepth 100000
set_option linter.all false
set_option genInjectivity false
set_option genSizeOfSpec false
set_option tactic.hygienic false
set_option maxHeartbeats 0
open Array renaming length_toList→oF,toList_append→FN,getElem?_toList→Mv,eraseIdxIfInBounds→ce6,any_toList→ch3
open Bool renaming true→ae,false→ai,or_true→gz,not_eq_true'→mm,false_eq_true→qX,and_eq_true→xm,and_true→Cc,false_ne_true→Gd,or_false→MF,not_not→Xv,or_eq_true→cb8,and_assoc→cc7,true_or→cj5
open ForInStep renaming yield→cf9
open Inhabited renaming default→BP
open Int renaming add_zero→aO,le_trans→bH,natCast_nonneg→dP,le_refl→gj,add_assoc→iK,lt_of_le_of_lt→lZ,le_of_lt→mc,add_comm→me,fmod→oB,zero_add→oM,add_nonneg→qY,le_add_of_nonneg_right→sV,fdiv→uF,toNat_natCast→uQ,ne_of_gt→uR,lt_of_lt_of_le→zI,add_le_add→Cd,add_sub_cancel→Cm,sub_add_cancel→Fy,le_of_eq→Gv,neg_le_neg→Gx,add_le_add_right→Gy,lt_add_one_of_le→GC,le_add_one→Ls,sub_sub→Mz,sub_nonneg_of_le→MD,ne_of_lt→MH,natCast_add→VE,toNat_of_nonneg→VF,eq_ofNat_of_zero_le→Wa,min_eq_left→Wn,sub_zero→Wo,natCast_zero→WU,le_natAbs→WW,natAbs_natCast→Xw,ediv_one→cd4,add_mul_ediv_right→ck4,one_mul→ck5,ediv_eq_zero_of_lt→ck6,le_of_add_le_add_right→ck7,zero_mul→ck8,natCast_succ→ck9,natAbs_neg→cl0,natAbs_add_le→cl1,neg_sub→cl2,sub_eq_add_neg→cm9,sub_le_sub→cn0,add_right_inj→cn1,add_lt_add_iff_left→cn2,add_le_add_iff_left→cn3,toNat_lt→cn4,toNat_sub→cn5,min_eq_right→cn6,add_right_comm→co2,sub_le_self→co3,lt_add_of_pos_right→co4,max_eq_right→co8,ofNat_sub→cp5
open LawfulBEq renaming eq_of_beq→cH
open List renaming replicate→aJ,length_append→bp,append_assoc→bB,append_nil→bC,length_map→bF,length_cons→dh,range→gi,length_replicate→gD,map_append→iq,map→ml,lookup_cons→mR,all_append→mT,mem_append_right→nJ,size_toArray→oG,mem_append_left→oK,getLast?_concat→oN,length_singleton→oO,mem_of_getElem?→pR,cons_append→pU,mem_map_of_mem→pV,nil_append→pY,getElem?_map→qT,getElem?_eq_getElem→sN,length_take→uV,length→xC,takeWhile→xE,filter_cons→zw,drop→zx,filterMap→zA,map_map→zB,length_drop→zK,prefix_rfl→BW,getElem?_append_right→Ca,replicate_succ→Cb,getElem?_take→Cf,take_of_length_le→Cg,getD_eq_getElem?_getD→Ch,map_cons→Ci,map_replicate→Co,getElem?_append_left→FL,forIn_cons→Gc,zip_cons_cons→Ge,any_cons→Gj,flatten_cons→LJ,getElem?_drop→Ma,lookup_append→Mi,filterMap_cons→Mj,getElem?_of_mem→Ml,length_nil→Mt,cons→MC,cons_ne_nil→ME,replicate_zero→MG,foldl→VY,all_map→We,drop_zero→Wp,isEmpty→Wy,take_succ_cons→WB,dropLast_concat→Xh,all→Xj,length_reverse→Xm,reverse_cons→Xn,eq_nil_or_concat→Xq,concat_eq_append→Xr,takeWhile_cons→Xx,filter→cb1,find?_cons_of_pos→cc4,find?_cons_of_neg→cc5,getElem?_toArray→cd0,toArray→ce3,dropLast_eq_take→ce7,drop_of_length_le→cf1,all_cons→cf3,lookup→cf8,getElem_mem→cg2,filter_cons_of_neg→cg4,filter_cons_of_pos→cg5,mem_of_mem_take→cg7,find?_cons→ch8,map_congr_left→cj4,drop_eq_getElem_cons→ck1,filterMap_cons_some→cm4,drop_take→cn7,take_length_add_append→cn9,drop_left'→co0,map_nil→co1,eq_of_mem_replicate→co5,take_length→co9,length_take_le→cp0
open List.Pairwise renaming of_map→cg6
open List.cons renaming inj→kE
open Min renaming min→uW
open Nat renaming le_trans→aj,beq→aX,le_refl→ca,zero_le→cg,le_add_right→ck,le_of_eq→cx,add_le_add→cU,blt→cV,ble→eE,lt_of_le_of_lt→eK,le_of_ble_eq_true→eQ,le_add_left→fD,succ_le_succ→gY,le_of_lt→iA,lt_of_lt_of_le→jc,le_succ→jF,add_le_add_right→lG,ne_of_lt→lH,add_le_add_left→ma,exists_eq_add_of_le'→mN,eq_of_beq_eq_true→mS,add_comm→nH,add_right_comm→oz,le_of_succ_le_succ→pN,add_assoc→pO,lt_irrefl→qQ,lt_succ_self→sQ,sub_self→uY,zero_add→xe,min_le_right→xu,le_succ_of_le→xv,add_sub_cancel_left→BM,sub_add_cancel→BN,mul_le_mul_left→BO,succ_pos→Cn,min_eq_left→Ga,succ_ne_self→Gm,sub_le→GA,ne_of_gt→LF,succ→Me,le_sub_of_add_le→Mn,le_of_succ_le→Mw,mul_le_mul→Wb,le_of_not_lt→Wx,not_succ_le_zero→WA,lt_add_of_pos_right→WN,lt_succ_of_le→Xg,le_of_add_right_le→Xk,le_of_add_left_le→Xl,min_eq_right→cf0,sub_eq_zero_of_le→cg0,lt_trichotomy→cg3,succ_sub→cg9,lt_succ_of_lt→ck3,beq_refl→cm7,add_lt_add_left→cm8,sub_le_sub_right→cn8,mul_add→co6,add_sub_of_le→cp3,le_sub_one_of_lt→cp4
open Nat.succ renaming inj→Lu
open Ne renaming symm→gf
open Option renaming some→aa,bind_some→je,map_some→pX,none→BV,isSome_map→Gz,isNone_map→GB,map→Wz,or_none→cf7
open Option.some renaming inj→aS
open Prod renaming fst→oL,snd→sW
open Prod.mk renaming inj→xD,injEq→cp7
open Pure renaming pure→fO
open PyProof renaming noPylong_small→cc1
open PyProof.Rows renaming resB→sP,subscriptTail→zv,rangeSize_toNat→Gu,Attribute_any_→LW,rangeSize_toNat_le→WX,reads_list_at→cc2,slicePart_none→cd6,slot_tuple_getitem→cd8,extend_door→ce9
open PySem renaming Value→ao,wpAny_bind→aq,wpAny→au,Addr→aA,Str→aN,wpAny_pure→aR,Shared→aZ,Heap→bu,Expr→bA,model→bG,wpAny_mono→bI,eval→bM,Obj→cP,Spec→cW,exec→dE,Pos→ey,Around→eP,World→fE,Stmt→gd,sizeLine→gh,codeAny→gy,mainGlobals→gX,starEach→iN,valueAt→jD,backToKw→jG,keywordEach→jH,DictEntry→ke,wpAny_holding→kf,backTo→kD,Program→mf,Env→mh,wpAny_field→mj,CmpOp→mO,Sem→mP,sysModules→oE,wpAny_standAt→oI,Operator→pP,treeTable→pQ,codeAny_mono→pW,execs→qR,Str→sE,wpAny_newObj_type→sI,binaryOp→sL,without→sT,BoolOp→uE,Scope→uG,Params→uH,Flow→uK,Tok→uM,intKind→uN,rawInt→uO,notedBy→uP,wpAny_call→uU,wpAny_loadPart→uX,NameKind→xh,call_meets→xo,compareOp→xq,getMethod→xw,callWith→xy,Keyword→zq,importedModules→zr,strKind→zt,getItem→zu,getMethod_builtin→zy,ks_wpAt_mono→zD,stored→zH,OsState→BS,cLine→BX,noteFrame→BZ,getAttr→Ce,isSubtype→Ck,Model→FD,wpAny_setField→FH,behindInMarks→FT,standAt→FU,seqIndex?→FV,typeIs_str→FW,wpAny_of_eq→Gb,wpAt_of_wpAny→Gg,wpAny_execs_nil→Gk,isType→Go,storeName→Gp,assignEach→Gq,assign→Gr,swappedStores→Gs,clipAt→Lx,recursionLimit→LD,Reads→LK,truthy→LN,wpAny_truthy_bool→LO,subscripted→LP,wpAny_mkText→LR,attributeBase→LU,arm_eval_Attribute→LX,partValue→Mb,evalArgs→Mf,setAttr→Mq,wpAny_loadName_local→Mr,wpAny_rule→Mu,inplaceOp→Mx,letOwnedTupleGo→My,start→MI,stripLo→MJ,Expr→VJ,ExcName→VV,setFlight→VW,cameBackBy→VX,boolOp→Wf,allTrue→Wg,typeLookup→Wh,operate→Wi,isInstance→Wj,wpAny_attempt→Wk,wpAny_callSpecial?_slot→Wq,keeperOf→Wv,lookup_reverse_of_nodup→WD,sizeLine_eq→WI,wpAny_onRaise→WL,codeAny_of_tree→WO,wpAny_assignInOrder_more→WQ,swapsWithSole→WR,pyNext→WS,wpAny_load→WT,GenState→WZ,wpAt_bind→Xa,typeOf→Xb,raiseStmt→Xc,wpAny_bindName→Xd,cStatics→Xe,sliceRange→Xi,noFill_list_add→cc0,wpAny_UnaryOp→cc6,wpAny_specialOf→cc8,list_getitem_lookup→cc9,wpAny_getItem_of→cd1,boundAndCalled→cd2,codeAny_call_builtin→cd3,wpAny_sequenceKey→cd7,wpAny_call_entry→cd9,wpAny_typeOf→ce0,methodCallForm→cf4,methodCallPos→cf5,wpAny_seqItems→cg8,ks_codeAny_call_defAt→ch1,wpAny_askSetting→ch2,aRefKeyMayBeTheName_at→ch4,wpAny_updatePart→ch5,wpAny_lookBehind→ch6,pastItsLine_dict→ch7,wpAny_execs_cons→ch9,plainObj_wpAny_Assign_Attribute→ci0,wpAny_runValue→ci1,codeAny_builtin→ci2,call_isinstance→ci4,bootBuiltins→ci6,evalPairs_cons→ci7,theTreesLotGoes→ci9,wpAny_noted→cj0,wpAny_Return_some→cj1,wpAny_Assign_Name→cj2,wpAny_Expr_any→cj3,intKind→cj6,assignInOrder→cj8,wpAny_assignInOrder_none→cj9,wpAny_assign_Name→ck0,foldedSetIterable→ck2,wpAny_alloc→cl3,wpAny_update→cl4,wpAny_throw→cm0,unpackItems→cm3,unbindBehindTheSuite→cm5,stripHi→cp2
open PySem.Around renaming frames_deeper→ch0
open PySem.Bind renaming madeBy→WY,staticBase→cl5,madeHere→cl8
open PySem.Builtin.List renaming listFitsIndex→FO
open PySem.Builtin.Range renaming rangeSize→nL,small→WV
open PySem.Builtin.Slice renaming slicePlaces→LY,sliceAdjust→Wm,sliceApplied→cd5
open PySem.Builtin.Str renaming strSliceIndices→zJ
open PySem.Code renaming quiet_builtin→cl7
open PySem.Data renaming fields→cb3
open PySem.EntryCells renaming newEntry→cb6
open PySem.Expr renaming Name→sU,noConfusion→cf6
open PySem.Expr.Attribute renaming elim→Lv
open PySem.Expr.Call renaming elim→Fz
open PySem.Expr.Constant renaming elim→VG
open PySem.Expr.Name renaming elim→zp
open PySem.Expr.Slice renaming elim→VI
open PySem.Expr.Subscript renaming elim→VH
open PySem.Expr.Tuple renaming elim→Lw
open PySem.F renaming plainAttrs_list→Mh,slot_list_pop→Wr,plainAttrs_str→WH,slot_int_rmul→cb9,slot_list_append→ce4,entry_list_pop→ce5,slot_list_extend→ce8,slot_list_insert→cf2,slot_dict_delitem→cj7,slot_tuple_iterator_next→cm2
open PySem.Heap renaming lt_size→cq,get?_push_of_some→iL,get?_push_size→jd,get?_update_other→jE,SameBut→lI,size_push→qW,get?_update_self→sJ,ExtBut→cm1
open PySem.Heap.DictOf renaming new→ce2
open PySem.Heap.IsSliceOf renaming new→ce1
open PySem.Keeper renaming frame→Ws,machine→Wt,boundFrame→Wu
open PySem.Obj renaming data_mapFields→BY,mapFields→FG,mapSeq→FY,isFreed_of_fields→LG,putName→Mo,cls_mapFields→cb7
open PySem.Operator renaming casesOn→Wc
open PySem.PyData renaming keyHash→sG,canLay0→GD,canLayAll0→Xs
open PySem.SeqAt renaming shaped→cc3
open PySem.Stmt.Assign renaming elim→WJ
open PySem.Stmt.Expr renaming elim→VK
open PySem.Str renaming ofString→xi,length→xl,cps→cg1,length→co7
open PySem.Txt renaming slice→FA,stripBy→cp1
open PySem.Value renaming ref→mi,none→oC,int→xj,str→BQ,type→Ly,isInt→LL,isStrOf→LM,isInt_shape→ci5
open PySem.Value.ref renaming inj→Gl
open PySem.W renaming Frag→dc,instObj→dD,getL→fN,dictOf→gW,nsIn→il,Looks→ip,findIn→iM,kqdOk→iO,putL→kg,hasDictIn→mQ,emptyDict→nK,kqdP→oH,mroIn→qO,plainGet→qP,clsIn→qS,keepIn→qV,boot_heap→sH,looks_mroIn→uT,nameX_K→xk,looks_findIn→xr,putName_dict→xB,hideAll_size→zC,keeps_K→zE,takerIn→zF,typeIn→zG,notCls→BU,isFn→Cj,TopRead→FF,noGet→FI,specialIn→FJ,handedIn→FK,kqdPs→FQ,hideAll_get→Gf,makesIn→Gh,looks_clsIn→Gi,instIn→Gn,WellAll→Gw,topFrame→Lz,lookIn→LC,nameX_L→LH,nameX_B→LI,plainGet_of→LV,codeIn→Mk,hideAll_none→Mm,any_some→Mp,InstAt→Ms,ks_superIn→MB,topStub→MK,topRun→ML,behindTheImports→VL,SharedT→VM,boot_drawn→VN,staticsOk→VO,namesBound→VP,gensDone→VQ,laidKept→VS,openSeen→VT,openGood→VU,check_slot→Wl,callWith_of→Ww,hideAll→WC,of_hideAll→WE,codeRec_of→WG,bind_fn→WK,nd_load→WM,looseW→Xf,topFrom→Xy,Dat→ca9,kqdP→cb0,looks_typeIn→ci3,looks_instIn→cl6,ks_superObj→cm6,fencedOpening→cp6
open PySem.W.Fast renaming te14364793385576792824→LB,te17119622794617984870→cb2,te10110043849684766642→cb4,te4187177175401517315→cb5
open PySem.W.Looks renaming of_pure→Mg
open PySem.callAny renaming viaDunder→cl9
open _root_ renaming List→af,Int→ag,Nat→ah,Option→ak,Bool→al,congrArg→aD,if_neg→aM,if_pos→aT,of_decide_eq_true→bE,decide_eq_true→bK,decide_eq_false→gw,Array→nI,if_false→oJ,beq_self_eq_true→sM,True→sO,String→uI,congrFun→uJ,Decidable→xg,if_true→xt,False→xA,decide_eq_true_eq→FP,bne_self_eq_false→MA,beq_iff_eq→VZ,cond_false→Xo,cond_true→Xp,eq_true→Xu,of_decide_eq_false→ci8
local macro_rules |`(⋯)=>`(by decide)
local macro_rules |`(∅)=>`(by kernel_rfl)
local macro_rules |`(tactic|cbv)=>`(tactic|contradiction)
namespace Internal
theorem aB{G:Prop}(h:∀C:Prop,(G->C)->C):G:=h G id
theorem bg{x a:Prop}{G:Prop}(h:x/\a)(k:x->a->G):G:=
 k h.1 h.2
theorem qh{h x:Prop}(a:h)(b:x):h/\x:=⟨a,b⟩
theorem lg{x a b:Prop}{G:Prop}(h:x/\a/\b)(k:x->a->b->G):G:=
 k h.1 h.2.1 h.2.2
theorem dB{h x a:Prop}(b:h)(c:x)(d:a):h/\x/\a:=⟨b,c,d⟩
theorem pK{x a b c:Prop}{G:Prop}(h:x/\a/\b/\c)(k:x->a->b->c->G):G:=
 k h.1 h.2.1 h.2.2.1 h.2.2.2
theorem ky{h x a b:Prop}(c:h)(d:x)(e:a)(f:b):h/\x/\a/\b:=⟨c,d,e,f⟩
theorem Eh{x a b c d:Prop}{G:Prop}(h:x/\a/\b/\c/\d)(k:x->a->b->c->d->G):G:=
 k h.1 h.2.1 h.2.2.1 h.2.2.2.1 h.2.2.2.2
theorem Hw{h x a b c:Prop}(d:h)(e:x)(f:a)(g:b)(i:c):h/\x/\a/\b/\c:=⟨d,e,f,g,i⟩
theorem Kd{h x a b c d:Prop}(e:h)(f:x)(g:a)(i:b)(j:c)(k:d):h/\x/\a/\b/\c/\d:=⟨e,f,g,i,j,k⟩
theorem aI.{b}{c:Sort b}{a:c->Prop}{G:Prop}(h:∃x,a x)(k:∀x,a x->G):G:=
 h.elim λ x d=>k x d
theorem vY.{b}{x:Sort b}{a:x->Prop}(h:x)(c:a h):∃h,a h:=⟨h,c⟩
theorem aG.{d}{e:Sort d}{a b:e->Prop}{G:Prop}(h:∃x,a x/\b x)(k:∀x,a x->b x->G):G:=
 h.elim λ x c=>k x c.1 c.2
theorem aL.{c}{x:Sort c}{a b:x->Prop}(h:x)(d:a h)(e:b h):∃h,a h/\b h:=⟨h,d,e⟩
theorem dJ.{e}{f:Sort e}{b c d:f->Prop}{G:Prop}(h:∃x,b x/\c x/\d x)(k:∀x,b x->c x->d x->G):G:=
 h.elim λ x a=>k x a.1 a.2.1 a.2.2
theorem ec.{d}{x:Sort d}{a b c:x->Prop}(h:x)(e:a h)(f:b h)(g:c h):∃h,a h/\b h/\c h:=⟨h,e,f,g⟩
theorem vd.{f}{g:Sort f}{b c d e:g->Prop}{G:Prop}(h:∃x,b x/\c x/\d x/\e x)(k:∀x,b x->c x->d x->e x->G):G:=
 h.elim λ x a=>k x a.1 a.2.1 a.2.2.1 a.2.2.2
theorem nN.{e}{x:Sort e}{a b c d:x->Prop}(h:x)(f:a h)(g:b h)(i:c h)(j:d h):∃h,a h/\b h/\c h/\d h:=⟨h,f,g,i,j⟩
theorem KH.{g}{x:Sort g}{a b c d e f:x->Prop}(h:x)(i:a h)(j:b h)(k:c h)(l:d h)(m:e h)(n:f h):∃h,a h/\b h/\c h/\d h/\e h/\f h:=⟨h,i,j,k,l,m,n⟩
theorem lE.{c,d}{e:Sort c}{f:Sort d}{b:e->f->Prop}{G:Prop}(h:∃x a,b x a)(k:∀x a,b x a->G):G:=
 h.elim λ x g=>g.elim λ a i=>k x a i
theorem jT.{d,e}{a:Sort d}{b:Sort e}{c:a->b->Prop}(h:a)(x:b)(f:c h x):∃h x,c h x:=⟨h,x,f⟩
theorem cu.{e,f}{g:Sort e}{i:Sort f}{b c:g->i->Prop}{G:Prop}(h:∃x a,b x a/\c x a)(k:∀x a,b x a->c x a->G):G:=
 h.elim λ x j=>j.elim λ a d=>k x a d.1 d.2
theorem gR.{e,f}{a:Sort e}{b:Sort f}{c d:a->b->Prop}(h:a)(x:b)(g:c h x)(i:d h x):∃h x,c h x/\d h x:=⟨h,x,g,i⟩
theorem dC.{f,g}{i:Sort f}{j:Sort g}{c d e:i->j->Prop}{G:Prop}(h:∃x a,c x a/\d x a/\e x a)(k:∀x a,c x a->d x a->e x a->G):G:=
 h.elim λ x l=>l.elim λ a b=>k x a b.1 b.2.1 b.2.2
theorem gm.{f,g}{a:Sort f}{b:Sort g}{c d e:a->b->Prop}(h:a)(x:b)(i:c h x)(j:d h x)(k:e h x):∃h x,c h x/\d h x/\e h x:=⟨h,x,i,j,k⟩
theorem og.{g,i}{j:Sort g}{l:Sort i}{c d e f:j->l->Prop}{G:Prop}(h:∃x a,c x a/\d x a/\e x a/\f x a)(k:∀x a,c x a->d x a->e x a->f x a->G):G:=
 h.elim λ x m=>m.elim λ a b=>k x a b.1 b.2.1 b.2.2.1 b.2.2.2
theorem qq.{g,i}{a:Sort g}{b:Sort i}{c d e f:a->b->Prop}(h:a)(x:b)(j:c h x)(k:d h x)(l:e h x)(m:f h x):∃h x,c h x/\d h x/\e h x/\f h x:=⟨h,x,j,k,l,m⟩
theorem CZ.{i,j}{l:Sort i}{m:Sort j}{c d e f g:l->m->Prop}{G:Prop}(h:∃x a,c x a/\d x a/\e x a/\f x a/\g x a)(k:∀x a,c x a->d x a->e x a->f x a->g x a->G):G:=
 h.elim λ x n=>n.elim λ a b=>k x a b.1 b.2.1 b.2.2.1 b.2.2.2.1 b.2.2.2.2
theorem ax1.{i,j}{a:Sort i}{b:Sort j}{c d e f g:a->b->Prop}(h:a)(x:b)(k:c h x)(l:d h x)(m:e h x)(n:f h x)(o:g h x):∃h x,c h x/\d h x/\e h x/\f h x/\g h x:=⟨h,x,k,l,m,n,o⟩
theorem GQ.{j,l}{m:Sort j}{n:Sort l}{c d e f g i:m->n->Prop}{G:Prop}(h:∃x a,c x a/\d x a/\e x a/\f x a/\g x a/\i x a)(k:∀x a,c x a->d x a->e x a->f x a->g x a->i x a->G):G:=
 h.elim λ x o=>o.elim λ a b=>k x a b.1 b.2.1 b.2.2.1 b.2.2.2.1 b.2.2.2.2.1 b.2.2.2.2.2
theorem SD.{j,k}{a:Sort j}{b:Sort k}{c d e f g i:a->b->Prop}(h:a)(x:b)(l:c h x)(m:d h x)(n:e h x)(o:f h x)(p:g h x)(q:i h x):∃h x,c h x/\d h x/\e h x/\f h x/\g h x/\i h x:=⟨h,x,l,m,n,o,p,q⟩
theorem yJ.{d,e,f}{g:Sort d}{i:Sort e}{j:Sort f}{c:g->i->j->Prop}{G:Prop}(h:∃x a b,c x a b)(k:∀x a b,c x a b->G):G:=
 h.elim λ x l=>l.elim λ a m=>m.elim λ b n=>k x a b n
theorem Fo.{f,g,i}{b:Sort f}{c:Sort g}{d:Sort i}{e:b->c->d->Prop}(h:b)(x:c)(a:d)(j:e h x a):∃h x a,e h x a:=⟨h,x,a,j⟩
theorem kL.{f,g,i}{j:Sort f}{l:Sort g}{m:Sort i}{c d:j->l->m->Prop}{G:Prop}(h:∃x a b,c x a b/\d x a b)(k:∀x a b,c x a b->d x a b->G):G:=
 h.elim λ x n=>n.elim λ a o=>o.elim λ b e=>k x a b e.1 e.2
theorem mU.{g,i,j}{b:Sort g}{c:Sort i}{d:Sort j}{e f:b->c->d->Prop}(h:b)(x:c)(a:d)(k:e h x a)(l:f h x a):∃h x a,e h x a/\f h x a:=⟨h,x,a,k,l⟩
theorem eh.{g,i,j}{l:Sort g}{m:Sort i}{n:Sort j}{d e f:l->m->n->Prop}{G:Prop}(h:∃x a b,d x a b/\e x a b/\f x a b)(k:∀x a b,d x a b->e x a b->f x a b->G):G:=
 h.elim λ x o=>o.elim λ a p=>p.elim λ b c=>k x a b c.1 c.2.1 c.2.2
theorem ui.{i,j,k}{b:Sort i}{c:Sort j}{d:Sort k}{e f g:b->c->d->Prop}(h:b)(x:c)(a:d)(l:e h x a)(m:f h x a)(n:g h x a):∃h x a,e h x a/\f h x a/\g h x a:=⟨h,x,a,l,m,n⟩
theorem jY.{i,j,l}{m:Sort i}{n:Sort j}{o:Sort l}{d e f g:m->n->o->Prop}{G:Prop}(h:∃x a b,d x a b/\e x a b/\f x a b/\g x a b)(k:∀x a b,d x a b->e x a b->f x a b->g x a b->G):G:=
 h.elim λ x p=>p.elim λ a q=>q.elim λ b c=>k x a b c.1 c.2.1 c.2.2.1 c.2.2.2
theorem oy.{j,k,l}{b:Sort j}{c:Sort k}{d:Sort l}{e f g i:b->c->d->Prop}(h:b)(x:c)(a:d)(m:e h x a)(n:f h x a)(o:g h x a)(p:i h x a):∃h x a,e h x a/\f h x a/\g h x a/\i h x a:=⟨h,x,a,m,n,o,p⟩
theorem GV.{j,l,m}{n:Sort j}{o:Sort l}{p:Sort m}{d e f g i:n->o->p->Prop}{G:Prop}(h:∃x a b,d x a b/\e x a b/\f x a b/\g x a b/\i x a b)(k:∀x a b,d x a b->e x a b->f x a b->g x a b->i x a b->G):G:=
 h.elim λ x q=>q.elim λ a r=>r.elim λ b c=>k x a b c.1 c.2.1 c.2.2.1 c.2.2.2.1 c.2.2.2.2
theorem MP.{k,l,m}{b:Sort k}{c:Sort l}{d:Sort m}{e f g i j:b->c->d->Prop}(h:b)(x:c)(a:d)(n:e h x a)(o:f h x a)(p:g h x a)(q:i h x a)(r:j h x a):∃h x a,e h x a/\f h x a/\g h x a/\i h x a/\j h x a:=⟨h,x,a,n,o,p,q,r⟩
theorem HG.{l,m,n}{o:Sort l}{p:Sort m}{q:Sort n}{d e f g i j:o->p->q->Prop}{G:Prop}(h:∃x a b,d x a b/\e x a b/\f x a b/\g x a b/\i x a b/\j x a b)(k:∀x a b,d x a b->e x a b->f x a b->g x a b->i x a b->j x a b->G):G:=
 h.elim λ x r=>r.elim λ a s=>s.elim λ b c=>k x a b c.1 c.2.1 c.2.2.1 c.2.2.2.1 c.2.2.2.2.1 c.2.2.2.2.2
theorem bp6.{l,m,n}{b:Sort l}{c:Sort m}{d:Sort n}{e f g i j k:b->c->d->Prop}(h:b)(x:c)(a:d)(o:e h x a)(p:f h x a)(q:g h x a)(r:i h x a)(s:j h x a)(t:k h x a):∃h x a,e h x a/\f h x a/\g h x a/\i h x a/\j h x a/\k h x a:=⟨h,x,a,o,p,q,r,s,t⟩
theorem La.{m,n,o}{p:Sort m}{q:Sort n}{r:Sort o}{d e f g i j p6 l:p->q->r->Prop}{G:Prop}(h:∃x a b,d x a b/\e x a b/\f x a b/\g x a b/\i x a b/\j x a b/\p6 x a b/\l x a b)(k:∀x a b,d x a b->e x a b->f x a b->g x a b->i x a b->j x a b->p6 x a b->l x a b->G):G:=
 h.elim λ x s=>s.elim λ a t=>t.elim λ b c=>k x a b c.1 c.2.1 c.2.2.1 c.2.2.2.1 c.2.2.2.2.1 c.2.2.2.2.2.1 c.2.2.2.2.2.2.1 c.2.2.2.2.2.2.2
theorem Y8.{m,n,o}{b:Sort m}{c:Sort n}{d:Sort o}{e f g i j k p6 l:b->c->d->Prop}(h:b)(x:c)(a:d)(p:e h x a)(q:f h x a)(r:g h x a)(s:i h x a)(t:j h x a)(u:k h x a)(v:p6 h x a)(w:l h x a):∃h x a,e h x a/\f h x a/\g h x a/\i h x a/\j h x a/\k h x a/\p6 h x a/\l h x a:=⟨h,x,a,p,q,r,s,t,u,v,w⟩
theorem tT.{e,f,g,i}{j:Sort e}{l:Sort f}{m:Sort g}{n:Sort i}{d:j->l->m->n->Prop}{G:Prop}(h:∃x a b c,d x a b c)(k:∀x a b c,d x a b c->G):G:=
 h.elim λ x o=>o.elim λ a p=>p.elim λ b q=>q.elim λ c r=>k x a b c r
theorem JS.{i,j,k,l}{c:Sort i}{d:Sort j}{e:Sort k}{f:Sort l}{g:c->d->e->f->Prop}(h:c)(x:d)(a:e)(b:f)(m:g h x a b):∃h x a b,g h x a b:=⟨h,x,a,b,m⟩
theorem Qk.{g,i,j,l}{m:Sort g}{n:Sort i}{o:Sort j}{p:Sort l}{d e:m->n->o->p->Prop}{G:Prop}(h:∃x a b c,d x a b c/\e x a b c)(k:∀x a b c,d x a b c->e x a b c->G):G:=
 h.elim λ x q=>q.elim λ a r=>r.elim λ b s=>s.elim λ c f=>k x a b c f.1 f.2
theorem Ua.{j,k,l,m}{c:Sort j}{d:Sort k}{e:Sort l}{f:Sort m}{g i:c->d->e->f->Prop}(h:c)(x:d)(a:e)(b:f)(n:g h x a b)(o:i h x a b):∃h x a b,g h x a b/\i h x a b:=⟨h,x,a,b,n,o⟩
theorem Bk.{i,j,l,m}{n:Sort i}{o:Sort j}{p:Sort l}{q:Sort m}{e f g:n->o->p->q->Prop}{G:Prop}(h:∃x a b c,e x a b c/\f x a b c/\g x a b c)(k:∀x a b c,e x a b c->f x a b c->g x a b c->G):G:=
 h.elim λ x r=>r.elim λ a s=>s.elim λ b t=>t.elim λ c d=>k x a b c d.1 d.2.1 d.2.2
theorem Av.{k,l,m,n}{c:Sort k}{d:Sort l}{e:Sort m}{f:Sort n}{g i j:c->d->e->f->Prop}(h:c)(x:d)(a:e)(b:f)(o:g h x a b)(p:i h x a b)(q:j h x a b):∃h x a b,g h x a b/\i h x a b/\j h x a b:=⟨h,x,a,b,o,p,q⟩
theorem NU.{j,l,m,n}{o:Sort j}{p:Sort l}{q:Sort m}{r:Sort n}{e f g i:o->p->q->r->Prop}{G:Prop}(h:∃x a b c,e x a b c/\f x a b c/\g x a b c/\i x a b c)(k:∀x a b c,e x a b c->f x a b c->g x a b c->i x a b c->G):G:=
 h.elim λ x s=>s.elim λ a t=>t.elim λ b u=>u.elim λ c d=>k x a b c d.1 d.2.1 d.2.2.1 d.2.2.2
theorem EU.{l,m,n,o}{c:Sort l}{d:Sort m}{e:Sort n}{f:Sort o}{g i j k:c->d->e->f->Prop}(h:c)(x:d)(a:e)(b:f)(p:g h x a b)(q:i h x a b)(r:j h x a b)(s:k h x a b):∃h x a b,g h x a b/\i h x a b/\j h x a b/\k h x a b:=⟨h,x,a,b,p,q,r,s⟩
theorem yU.{f,g,i,j,l}{m:Sort f}{n:Sort g}{o:Sort i}{p:Sort j}{q:Sort l}{e:m->n->o->p->q->Prop}{G:Prop}(h:∃x a b c d,e x a b c d)(k:∀x a b c d,e x a b c d->G):G:=
 h.elim λ x r=>r.elim λ a s=>s.elim λ b t=>t.elim λ c u=>u.elim λ d v=>k x a b c d v
theorem av4.{j,l,m,n,o}{p:Sort j}{q:Sort l}{r:Sort m}{s:Sort n}{t:Sort o}{f g i:p->q->r->s->t->Prop}{G:Prop}(h:∃x a b c d,f x a b c d/\g x a b c d/\i x a b c d)(k:∀x a b c d,f x a b c d->g x a b c d->i x a b c d->G):G:=
 h.elim λ x u=>u.elim λ a v=>v.elim λ b w=>w.elim λ c y=>y.elim λ d e=>k x a b c d e.1 e.2.1 e.2.2
theorem XG.{m,n,o,p,q}{d:Sort m}{e:Sort n}{f:Sort o}{g:Sort p}{i:Sort q}{j k l:d->e->f->g->i->Prop}(h:d)(x:e)(a:f)(b:g)(c:i)(r:j h x a b c)(s:k h x a b c)(t:l h x a b c):∃h x a b c,j h x a b c/\k h x a b c/\l h x a b c:=⟨h,x,a,b,c,r,s,t⟩
theorem qI.{g,i,j,l,m,n}{o:Sort g}{p:Sort i}{q:Sort j}{r:Sort l}{s:Sort m}{t:Sort n}{f:o->p->q->r->s->t->Prop}{G:Prop}(h:∃x a b c d e,f x a b c d e)(k:∀x a b c d e,f x a b c d e->G):G:=
 h.elim λ x u=>u.elim λ a v=>v.elim λ b w=>w.elim λ c y=>y.elim λ d z=>z.elim λ e H=>k x a b c d e H
theorem Br.{m,n,o,p,q,r}{e:Sort m}{f:Sort n}{g:Sort o}{i:Sort p}{j:Sort q}{k:Sort r}{l:e->f->g->i->j->k->Prop}(h:e)(x:f)(a:g)(b:i)(c:j)(d:k)(s:l h x a b c d):∃h x a b c d,l h x a b c d:=⟨h,x,a,b,c,d,s⟩
theorem af2.{n,o,p,q,r,s}{t:Sort n}{u:Sort o}{v:Sort p}{w:Sort q}{y:Sort r}{z:Sort s}{g i j l m:t->u->v->w->y->z->Prop}{G:Prop}(h:∃x a b c d e,g x a b c d e/\i x a b c d e/\j x a b c d e/\l x a b c d e/\m x a b c d e)(k:∀x a b c d e,g x a b c d e->i x a b c d e->j x a b c d e->l x a b c d e->m x a b c d e->G):G:=
 h.elim λ x H=>H.elim λ a X=>X.elim λ b A=>A.elim λ c B=>B.elim λ d C=>C.elim λ e f=>k x a b c d e f.1 f.2.1 f.2.2.1 f.2.2.2.1 f.2.2.2.2
theorem bc2.{q,r,s,t,u,v}{e:Sort q}{f:Sort r}{g:Sort s}{i:Sort t}{j:Sort u}{k:Sort v}{l m n o p:e->f->g->i->j->k->Prop}(h:e)(x:f)(a:g)(b:i)(c:j)(d:k)(w:l h x a b c d)(y:m h x a b c d)(z:n h x a b c d)(H:o h x a b c d)(X:p h x a b c d):∃h x a b c d,l h x a b c d/\m h x a b c d/\n h x a b c d/\o h x a b c d/\p h x a b c d:=⟨h,x,a,b,c,d,w,y,z,H,X⟩
theorem as6.{o,p,q,r,s,t}{u:Sort o}{v:Sort p}{w:Sort q}{y:Sort r}{z:Sort s}{H:Sort t}{g i j l m n p6:u->v->w->y->z->H->Prop}{G:Prop}(h:∃x a b c d e,g x a b c d e/\i x a b c d e/\j x a b c d e/\l x a b c d e/\m x a b c d e/\n x a b c d e/\p6 x a b c d e)(k:∀x a b c d e,g x a b c d e->i x a b c d e->j x a b c d e->l x a b c d e->m x a b c d e->n x a b c d e->p6 x a b c d e->G):G:=
 h.elim λ x X=>X.elim λ a A=>A.elim λ b B=>B.elim λ c C=>C.elim λ d D=>D.elim λ e f=>k x a b c d e f.1 f.2.1 f.2.2.1 f.2.2.2.1 f.2.2.2.2.1 f.2.2.2.2.2.1 f.2.2.2.2.2.2
theorem NR.{r,s,t,u,v,w}{e:Sort r}{f:Sort s}{g:Sort t}{i:Sort u}{j:Sort v}{k:Sort w}{l m n o p q p6:e->f->g->i->j->k->Prop}(h:e)(x:f)(a:g)(b:i)(c:j)(d:k)(y:l h x a b c d)(z:m h x a b c d)(H:n h x a b c d)(X:o h x a b c d)(A:p h x a b c d)(B:q h x a b c d)(C:p6 h x a b c d):∃h x a b c d,l h x a b c d/\m h x a b c d/\n h x a b c d/\o h x a b c d/\p h x a b c d/\q h x a b c d/\p6 h x a b c d:=⟨h,x,a,b,c,d,y,z,H,X,A,B,C⟩
theorem dG{a b:al}{G:Prop}(h:(a&&b)=ae)(k:a=ae->b=ae->G):G:=by
 cases a with
 |true=>exact k rfl h
 |false=>cases h
theorem aH{a b:al}(h:(a&&b)=ae):a=ae:=by
 cases a with
 |true=>rfl
 |false=>cases h
theorem aP{a b:al}(h:(a&&b)=ae):b=ae:=by
 cases a with
 |true=>exact h
 |false=>cases h
theorem iD{a b}{x:ak a}{f:a->ak b}{w:b}{G:Prop}(h:x.bind f=aa w)(k:∀u,x=aa u->f u=aa w->G):G:=by
 cases x with
 |none=>cases h
 |some v=>exact k v rfl h
theorem Dw{a b}{x:ak a}{f:a->b}{w:b}{G:Prop}(h:x.map f=aa w)(k:∀u,x=aa u->f u=w->G):G:=by
 cases x with
 |none=>cases h
 |some v=>exact k v rfl (aS h)
theorem mB{x}{o:ak x}{p:x->al}{G:Prop}(h:o.any p=ae)(k:∀v,o=aa v->p v=ae->G):G:=by
 cases o with
 |none=>cases h
 |some v=>exact k v rfl h
theorem aV{a b:al}{G:Prop}(k:a=ae->b=ae->G)(h:(a&&b)=ae):G:=dG h k
theorem av{a b}{x:ak a}{f:a->ak b}{w:b}{G:Prop}(k:∀u,x=aa u->f u=aa w->G)(h:x.bind f=aa w):G:=iD h k
theorem dQ{a b}{x:ak a}{f:a->b}{w:b}{G:Prop}(k:∀u,x=aa u->f u=w->G)(h:x.map f=aa w):G:=Dw h k
theorem gn{x}{o:ak x}{p:x->al}{G:Prop}(k:∀v,o=aa v->p v=ae->G)(h:o.any p=ae):G:=mB h k
theorem qy{a b c d x:ag}(h:a<=x/\x<=b)(e:c<=a)(f:b<=d):c<=x/\x<=d:=⟨bH e h.1,bH h.2 f⟩
theorem Q8{a b c d x:ag}(h:a<=x/\x<=b)(e:c<=a)(f:b<d):c<=x/\x<d:=⟨bH e h.1,lZ h.2 f⟩
theorem AI{c d:ag}{n k:ah}(h:n<=k)(x:c<=0)(a:(k:ag)<=d):c<=(n:ag)/\(n:ag)<=d:=⟨bH x (dP n),bH (Int.ofNat_le.mpr h) a⟩
theorem arD{x y d L:ah}(a:1<=d)(h:y+2*d+8<L)(b:x<=y+1):x+1+2*(d-1)+8<L:=by
 obtain⟨e,rfl⟩:=mN a;exact eK (lG (aj (lG (lG b 1) (2*e)) (cx (oz y 2 (2*e)))) 8) h
theorem TK{x y d L:ah}(a:1<=d)(h:y+64+16*d<L)(b:x<=y+8):x+3+64+16*(d-1)<L:=by
 obtain⟨e,rfl⟩:=mN a;exact eK (aj (lG (lG b 67) (16*e)) (aj (cx (oz (y+64) 11 (16*e))) (ma (by decide:11<=16) (y+64+16*e)))) h
theorem ac0{a d k:ah}(h:a+1=d+1+k):a+1-(d+1)=k:=by rw[h,BM]
theorem JI{a d k:ah}(h:a+1=d+1+k):k<=a:=pN (aj (cx (nH k 1)) (aj (lG (fD 1 d) k) (cx h.symm)))
theorem Jv{a d k:ah}(h:a+1=d+1+k):d<=a:=pN (aj (ck _ _) (cx h.symm))
theorem bm9{a b c d x:ag}(h:a<=x/\x<b)(e:c<=a)(f:b<=d):c<=x/\x<=d:=⟨bH e h.1,bH (mc h.2) f⟩
theorem SY{a b c d x:ag}(h:a<=x/\x<b)(e:c<=a)(f:b<=d):c<=x+1/\x+1<=d:=⟨bH e (Ls h.1),bH h.2 f⟩
theorem Uo{a x y:ag}{n:ah}(h:0<=x-y)(e:a+y=n):a+x=((n+(x-y).toNat:ah):ag):=by
 rw[VE,VF h,<-e,iK,me y,Fy]
theorem uu{n:ag}{k:ah}:n+1+(k:ag)=n+((k+1:ah):ag):=(iK n 1 _).trans (aD (n+·) (me 1 _))
theorem bi9{D S u a b t s L:ah}(h:D+S+13*(L+1)<=8000)(x:u<=S)(c:a<=1)(d:b<=1)(f:t<=10)(g:s<=u+1):D+(S-u)+a+b+t+s+13*L<=8000:=by
 have e:D+(S-u)+1+1+10+(u+1)=D+S+13:=by
  show D+(S-u)+12+u+1=D+S+13;rw[oz (D+(S-u)),pO D,BN x]
 exact aj (lG (aj (cU (cU (cU (ma c _) d) f) g) (cx e)) _) (aj (cx (oz (D+S) 13 (13*L))) h)
theorem Ue{r p k j:ah}(h:r+1=p+1+k)(g:p+1=0+1+j):r=k+j:=by
 rw[g,xe,nH 1,oz]at h;rw[Lu h,nH]
theorem Yl{T b s L K:ah}(h:T+101*(L+1)<=K)(x:b<=1)(a:s<=100):T+b+s+101*L<=K:=
 aj (lG (cU (ma x T) a) _) (aj (cx (oz T 101 (101*L))) h)
theorem CV{n k:ah}(h:2*n<=k)(x:k<=15):n<=7:=Nat.le_of_lt_succ (Nat.lt_of_mul_lt_mul_left (a:=2) (eK h (eK x (by decide:15<2*8))))
theorem Jc{n k:ah}(h:2*n<=k)(x:k<=15):2+78*n<=700:=aj (ma (BO 78 (CV h x)) 2) ⋯
theorem VA{x:Type}{l:af x}(h:aX l.length 4=ae):∃a b c d,l=[a,b,c,d]:=by
 obtain _|⟨a,_|⟨b,_|⟨c,_|⟨d,_|_⟩⟩⟩⟩:=l
 ·cases h
 ·cases h
 ·cases h
 ·cases h
 ·exact⟨a,b,c,d,rfl⟩
 ·cases h
structure Nm where
 id:ah
 deriving DecidableEq,Inhabited
noncomputable abbrev Nm.IA:Nm:=⟨1⟩
noncomputable abbrev Nm.lL:Nm:=⟨2⟩
noncomputable abbrev Nm.bq:Nm:=⟨3⟩
noncomputable abbrev Nm.vC:Nm:=⟨4⟩
noncomputable abbrev Nm.pI:Nm:=⟨5⟩
noncomputable abbrev Nm.mv:Nm:=⟨6⟩
noncomputable abbrev Nm.iI:Nm:=⟨7⟩
noncomputable abbrev Nm.oi:Nm:=⟨8⟩
noncomputable abbrev Nm.mA:Nm:=⟨9⟩
noncomputable abbrev Nm.mw:Nm:=⟨11⟩
noncomputable abbrev Nm.qw:Nm:=⟨12⟩
noncomputable abbrev Nm.tD:Nm:=⟨14⟩
noncomputable abbrev Nm.yD:Nm:=⟨16⟩
noncomputable abbrev Nm.nu:Nm:=⟨17⟩
noncomputable abbrev Nm.uq:Nm:=⟨19⟩
noncomputable abbrev Nm.Lf:Nm:=⟨20⟩
noncomputable abbrev Nm.KU:Nm:=⟨21⟩
noncomputable abbrev Nm.qr:Nm:=⟨22⟩
noncomputable abbrev Nm.IZ:Nm:=⟨23⟩
noncomputable abbrev Nm.DF:Nm:=⟨24⟩
noncomputable abbrev Nm.kJ:Nm:=⟨25⟩
noncomputable abbrev Nm.mW:Nm:=⟨26⟩
noncomputable abbrev Nm.yp:Nm:=⟨27⟩
noncomputable abbrev Nm.sd:Nm:=⟨28⟩
noncomputable abbrev Nm.bn6:Nm:=⟨29⟩
noncomputable abbrev Nm.uh:Nm:=⟨30⟩
noncomputable abbrev Nm.Ae:Nm:=⟨31⟩
noncomputable abbrev Nm.hJ:Nm:=⟨32⟩
noncomputable abbrev Nm.ij:Nm:=⟨33⟩
noncomputable abbrev Nm.rD:Nm:=⟨34⟩
noncomputable abbrev Nm.Dl:Nm:=⟨35⟩
noncomputable abbrev Nm.HE:Nm:=⟨36⟩
noncomputable abbrev Nm.DP:Nm:=⟨37⟩
noncomputable abbrev Nm.AA:Nm:=⟨38⟩
noncomputable abbrev Nm.si:Nm:=⟨39⟩
noncomputable abbrev Nm.tm:Nm:=⟨44⟩
noncomputable abbrev Nm.uo:Nm:=⟨45⟩
noncomputable abbrev Nm.ni:Nm:=⟨47⟩
noncomputable abbrev Nm.fR:Nm:=⟨48⟩
noncomputable abbrev Nm.HC:Nm:=⟨51⟩
noncomputable abbrev Nm.Lb:Nm:=⟨52⟩
noncomputable abbrev Nm.OP:Nm:=⟨53⟩
noncomputable abbrev Nm.Po:Nm:=⟨54⟩
noncomputable abbrev Nm.Kb:Nm:=⟨55⟩
noncomputable abbrev Nm.Nv:Nm:=⟨56⟩
noncomputable abbrev Nm.PE:Nm:=⟨57⟩
noncomputable abbrev Nm.Td:Nm:=⟨58⟩
noncomputable abbrev Nm.Of:Nm:=⟨59⟩
noncomputable abbrev Nm.TR:Nm:=⟨60⟩
noncomputable abbrev Nm.TT:Nm:=⟨61⟩
noncomputable abbrev Nm.PX:Nm:=⟨62⟩
noncomputable abbrev Nm.vk:Nm:=⟨64⟩
noncomputable abbrev Nm.wt:Nm:=⟨65⟩
noncomputable abbrev Nm.vD:Nm:=⟨66⟩
noncomputable abbrev Nm.wq:Nm:=⟨67⟩
noncomputable abbrev Nm.oh:Nm:=⟨70⟩
noncomputable abbrev Nm.Vo:Nm:=⟨71⟩
noncomputable abbrev Nm.W3:Nm:=⟨72⟩
noncomputable abbrev Nm.bd7:Nm:=⟨73⟩
noncomputable abbrev Nm.rW:Nm:=⟨74⟩
noncomputable abbrev Nm.bL:Nm:=⟨75⟩
noncomputable abbrev Nm.yX:Nm:=⟨76⟩
noncomputable abbrev Nm.zV:Nm:=⟨77⟩
noncomputable abbrev Nm.fS:Nm:=⟨78⟩
noncomputable abbrev Nm.iU:Nm:=⟨79⟩
noncomputable abbrev Nm.yK:Nm:=⟨80⟩
noncomputable abbrev Nm.JL:Nm:=⟨81⟩
noncomputable abbrev Nm.SH:Nm:=⟨82⟩
noncomputable abbrev Nm.Hb:Nm:=⟨83⟩
noncomputable abbrev Nm.vp:Nm:=⟨84⟩
noncomputable abbrev Nm.km:Nm:=⟨86⟩
noncomputable abbrev Nm.eB:Nm:=⟨87⟩
noncomputable abbrev Nm.jP:Nm:=⟨88⟩
noncomputable abbrev Nm.tO:Nm:=⟨89⟩
noncomputable abbrev Nm.iP:Nm:=⟨90⟩
noncomputable abbrev Nm.uf:Nm:=⟨91⟩
noncomputable abbrev Nm.iv:Nm:=⟨92⟩
noncomputable abbrev Nm.qu:Nm:=⟨93⟩
noncomputable abbrev Nm.bu4:Nm:=⟨94⟩
noncomputable abbrev Nm.qF:Nm:=⟨95⟩
noncomputable abbrev Nm.bj1:Nm:=⟨98⟩
noncomputable abbrev Nm.ap4:Nm:=⟨102⟩
noncomputable abbrev Nm.G0:Nm:=⟨103⟩
noncomputable abbrev Nm.XJ:Nm:=⟨104⟩
noncomputable abbrev Nm.ZU:Nm:=⟨105⟩
noncomputable abbrev Nm.as2:Nm:=⟨107⟩
noncomputable abbrev Nm.P2:Nm:=⟨108⟩
noncomputable abbrev Nm.R4:Nm:=⟨109⟩
noncomputable abbrev Nm.Zl:Nm:=⟨110⟩
noncomputable abbrev Nm.be3:Nm:=⟨111⟩
noncomputable abbrev Nm.ah8:Nm:=⟨112⟩
noncomputable abbrev Nm.al3:Nm:=⟨113⟩
noncomputable abbrev Nm.ae0:Nm:=⟨114⟩
noncomputable abbrev Nm.bi1:Nm:=⟨115⟩
noncomputable abbrev Nm.H3:Nm:=⟨118⟩
noncomputable abbrev Nm.I5:Nm:=⟨119⟩
noncomputable abbrev Nm.bg3:Nm:=⟨120⟩
noncomputable abbrev Nm.iw:Nm:=⟨123⟩
noncomputable abbrev Nm.mZ:Nm:=⟨124⟩
noncomputable abbrev Nm.an3:Nm:=⟨125⟩
noncomputable abbrev Nm.an2:Nm:=⟨126⟩
noncomputable abbrev Nm.kZ:Nm:=⟨127⟩
noncomputable abbrev Nm.ag4:Nm:=⟨128⟩
noncomputable abbrev Nm.az4:Nm:=⟨129⟩
noncomputable abbrev Nm.K5:Nm:=⟨131⟩
noncomputable abbrev Nm.AL:Nm:=⟨132⟩
noncomputable abbrev Nm.bg2:Nm:=⟨133⟩
noncomputable abbrev Nm.bv8:Nm:=⟨134⟩
noncomputable abbrev Nm.bc8:Nm:=⟨135⟩
noncomputable abbrev Nm.ba6:Nm:=⟨136⟩
noncomputable abbrev Nm.F6:Nm:=⟨137⟩
noncomputable abbrev Nm.AE:Nm:=⟨138⟩
noncomputable abbrev Nm.Za:Nm:=⟨139⟩
noncomputable abbrev Nm.bt1:Nm:=⟨143⟩
noncomputable abbrev Nm.Ez:Nm:=⟨149⟩
noncomputable abbrev Nm.br3:Nm:=⟨150⟩
noncomputable abbrev Nm.wH:Nm:=⟨151⟩
noncomputable abbrev Nm.jR:Nm:=⟨157⟩
noncomputable abbrev Nm.be5:Nm:=⟨162⟩
noncomputable abbrev Nm.vI:Nm:=⟨167⟩
noncomputable abbrev Nm.vN:Nm:=⟨168⟩
noncomputable abbrev Nm.wK:Nm:=⟨169⟩
noncomputable abbrev Nm.yx:Nm:=⟨170⟩
noncomputable abbrev Nm.fy:Nm:=⟨171⟩
noncomputable abbrev Nm.eS:Nm:=⟨172⟩
noncomputable abbrev Nm.lB:Nm:=⟨173⟩
noncomputable abbrev Nm.cS:Nm:=⟨174⟩
noncomputable abbrev Nm.iX:Nm:=⟨175⟩
noncomputable abbrev Nm.mK:Nm:=⟨176⟩
noncomputable abbrev Nm.fw:Nm:=⟨177⟩
noncomputable abbrev Nm.AB:Nm:=⟨178⟩
noncomputable abbrev Nm.cz:Nm:=⟨179⟩
noncomputable abbrev Nm.vf:Nm:=⟨180⟩
noncomputable abbrev Nm.eL:Nm:=⟨181⟩
noncomputable abbrev Nm.cB:Nm:=⟨182⟩
noncomputable abbrev Nm.bY:Nm:=⟨183⟩
noncomputable abbrev Nm.jb:Nm:=⟨184⟩
noncomputable abbrev Nm.qp:Nm:=⟨185⟩
noncomputable abbrev Nm.fB:Nm:=⟨186⟩
noncomputable abbrev Nm.eM:Nm:=⟨187⟩
noncomputable abbrev Nm.lp:Nm:=⟨188⟩
noncomputable abbrev Nm.Dx:Nm:=⟨189⟩
noncomputable abbrev Nm.mz:Nm:=⟨190⟩
noncomputable abbrev Nm.lO:Nm:=⟨191⟩
noncomputable abbrev Nm.ei:Nm:=⟨192⟩
noncomputable abbrev Nm.fh:Nm:=⟨193⟩
noncomputable abbrev Nm.kT:Nm:=⟨194⟩
noncomputable abbrev Nm.ir:Nm:=⟨195⟩
noncomputable abbrev Nm.xY:Nm:=⟨196⟩
noncomputable abbrev Nm.om:Nm:=⟨197⟩
noncomputable abbrev Nm.kn:Nm:=⟨198⟩
noncomputable abbrev Nm.nM:Nm:=⟨199⟩
noncomputable abbrev Nm.iY:Nm:=⟨200⟩
noncomputable abbrev Nm.nt:Nm:=⟨201⟩
noncomputable abbrev Nm.qk:Nm:=⟨202⟩
noncomputable abbrev Nm.rM:Nm:=⟨203⟩
noncomputable abbrev Nm.sv:Nm:=⟨204⟩
noncomputable def zf:ah->ah->af ah
 |0,_=>[]
 |f+1,n=>if n=0 then[]else n%128::zf f (n/128)
noncomputable def mC:af ah:=[
 237063829118731947126971710195,226275533,53902074141372383,215692019,213610734,32425719657,
 213628140,3809077835747,3944337750754,504879006775280,36405087185281182481443737874637,514323920959459,
 16304872857467344643667939,482886601668976,16304872857435907324377456,213727214,1970061224129027266840425695,13411,
 3944333472466,3771463416435,284221613347542563250228738675,1685477,1058800102741865525490,938829261474937827570,
 58471265169110885,938756632654307293673,1882739,32277483096129982739911374632035,226063088,1059527485214894405449,
 3501677164661,4151569906032,3604769125100,1815276,443747950966758,60740384673575655,
 205336804,31379192435,8271937266907640931,7343549747291846501,62416317172217840,135619518107300325257938,
 1653103,29741479892,995170462491890711155,60740384673314661,274316733977896108517536609476,12905,
 27359129846,73636337574076764098450666735758014404,4494405369492592869329299389872068,4494405369511521246243082819385939,274316733977819388753141873235,2530125293423005433570528509277641931988645180994,
 19766603854867229949770069151367196555903497794,2143099484201713974101407298,19766603854867229949769753978731577593686652486,154426592616150233982578665245056223118358086,1206457754808592653221118910224321849587270,9425451209442130105752277701900682131014,
 62372404040463051,1021909467793612026070,35112541949354887265637625493058,274316733979335056762819311174,1021909467797328131649,130804411878027396970305,
 62372404040167636,130804411878023647228371,29749704304,27340470899,17359298317734444344570323,8776160176934450387,
 17347344494290509766522868,56743143482880754,226275565,504877396029907,213628900,1003468873011952350822,
 3981111392244,16742963729512164960696308,4015471015785,509790819792745,4940618073866353219835068965140065,1262600337343898515932902099752650771593200,
 77691117433308969373760286437591036646,30815304435,7983667725714928359,4700066750826777271094651175662318,601608544105827490700115351554568934,1849328,
 5552975008574066310220543435578741507381210143086115443,356009051463111136681514115291545927745050209301230,73636337652899056785969826531204690419,2260509221301215412849866613,130840583223875959616611,4091594230278863374794101077390054,
 32302380147653884267113731421283,32302380147653884267112926360294,1272891268027351736830914129496620872070243,1272891268027351736830914129496620067009254,67036679886471508758223055181286306915,67036679886471508758223055180481245926,
 43736210940330285822196856251817914321867932174201574,341689147971331744129823423680547294701875734852326,2303362780675205759876072784164241761684525232870,17995021725411188909516031846122201045675094758,4944760511364715828027674280669926,632929345454669348427192625580831843,
 632929345454669348427192624775770854,8776300707968545891,8776300707163484902,120326725569334723834979,120326725569333918773990,136670330745948978623206,
 17359205026156138735678182,7477051797085696742,2103817569280513034690573030,15231742681238502675133158,15391150360946126725395174,15391104751800829739872998,
 130840583223875154555622,4656642329713962385649019807053037,29204787948,1995499,245167340,356009051463111136681514115291545927745050177810675,
 5832852299171612863389927264936688480174902113279374066,3465715398753,1077894793177230553697,716574080046384077332998669342965300964343815191125635814,1069029491019009947604,37738295811256993295186089676339651883053710422389478,
 4016545003369,135618789266844846420467,58414467177279987,595891097995082626043752962835952358,4655399203086583015966820034703859,1022192056436537192947,
 27076163558,34151784891625466393410993156595,8277566698240423785,3499536134376,4151569922803,16002824865618005595812339,
 939399578019899734517,32277523723773359422323222409715,3980325123171,27357084401,3499532056548,3465715465317,
 709822214256259162049475513846775503057447509736358965747,232421354,2644293808401596562613959421597148685013372924403,7117094512134346265296088085823558314437,12624699120317567920564677,107,
 213465059,27329802482,1914729,1881187,2645361500292961927573281214233406420290303980019,3978691115123,
 601242802168052640550505162525405683,136706785762739805123703,993947757280707196140,3980297599330,4697241576414482476757578606473715,12635407892594036800255583,
 12640055963761614031189599,771134825572655986271,1069111071925943694943,97,98,31083542510,
 31115227376,245248756,232387827,31102465267,770550483795882571359,211498996,
 67483170382575199,110,3979532317412,1669860,213481830,27057353451,
 105,14945,211530987,1962220,4016016503283,213659892,
 243136498,31366934758,27321202288,443306101814002,504877396029939,1914855,
 1913581,30836308325,29741479924,1964018,27352724599,30286854771,
 3876717410796]
noncomputable def strOf(n:Nm):sE:=⟨(zf 40 (mC.getD n.id 0)).toArray⟩
noncomputable def aq6(x:sE):ah:=x.cps.toList.foldr (λ c a=>c+128*a) 0
noncomputable def Sa(k:ah):af ah->ah->ah
 |[],i=>i
 |y::l,i=>bif aX y k then i else Sa k l (i+1)
noncomputable def GH(x:sE)(n:Nm):ak Nm:=bif cV n.id 205&&(strOf n==x)then aa n else none
noncomputable def cy(x:sE):ak Nm:=GH x ⟨Sa (aq6 x) mC 0⟩
set_option genInjectivity false
set_option genSizeOfSpec false
inductive IV where
 |none|bool (b:al)|int (i:ag)|str (s:af ah)
 |tup (l:af IV)|ba (c:Nm) (fs:af (Nm×IV))
 |lst (l:af IV)|bN (l:af IV)|eD (l:af (ag×IV))|gr (l:af (af ah×IV))
 |obj|cls (c:Nm)
inductive IE where
 |con (v:IV)|var (x:Nm)|glob (x:Nm)
 |attr (e:IE) (f:Nm)
 |bx (e:IE) (m:Nm) (as:af IE) (kw:af (Nm×IE))
 |call (f:IE) (as:af IE) (kw:af (Nm×IE))
 |bin (o:pP) (a b:IE)|cmp (o:mO) (a b:IE)|jS (o p:mO) (a b c:IE)
 |bool (o:uE) (l:af IE)|not (e:IE)|ite (t a b:IE)
 |idx (e i:IE)|jN (e:IE) (lo hi:ak IE)
 |tup (l:af IE)|lst (l:af IE)|DM|qZ (s1:af ah) (e1:IE) (s2:af ah) (e2:IE)
 |bad
inductive IS where
 |expr (e:IE)|asg (x:Nm) (e:IE)|rn (o:IE) (f:Nm) (e:IE)|BC (o i e:IE)|lT (xs:af Nm) (e:IE)|ya (x y:Nm) (e:IE)
 |aug (x:Nm) (op:pP) (e:IE)|tZ (o:IE) (f:Nm) (op:pP) (e:IE)
 |ret (e:ak IE)|nD (as:af IE)|raise (e:IE)|iff (t:IE) (a b:af IS)|iE (t:IE) (b:af IS)
 |jr (xs:af Nm) (it:IE) (b:af IS)|del (o i:IE)
 |pass|brk|cont|ny (b:af IS) (c:Nm) (x:ak Nm) (h:af IS)|bad
noncomputable def aE{h:Type}(b:al)(v:h):ak h:=match b with|true=>aa v|false=>none
noncomputable def IE.opt{h:Type}(o:ak h)(k:h->IE):IE:=match o with|some v=>k v|none=>.bad
noncomputable def IE.ax(b:al)(e:IE):IE:=match b with|true=>e|false=>.bad
noncomputable def IS.opt{h:Type}(o:ak h)(k:h->IS):IS:=match o with|some v=>k v|none=>.bad
noncomputable def IS.ax(b:al)(e:IS):IS:=match b with|true=>e|false=>.bad
noncomputable def bo{x h:Type}(o:ak x)(k:x->h)(d:h):h:=match o with|some v=>k v|none=>d
noncomputable def one{h:Type}(l:af h):ak h:=match l with|[]=>none|x::r=>aE r.isEmpty x
noncomputable def two{h:Type}(l:af h):ak (h×h):=match l with|[]=>none|x::r=>(one r).map λ y=>(x,y)
noncomputable def eN{x:Type}{p:Prop}[xg p](f:p->x):ak x:=if h:p then aa (f h)else none
noncomputable def IV.cn(v:IV):ak (ag):=eN (p:=v.ctorIdx=2) λ h=>IV.int.elim v h λ i=>i
noncomputable def IV.de(v:IV):ak (af ah):=eN (p:=v.ctorIdx=3) λ h=>IV.str.elim v h λ s=>s
noncomputable def IV.Bn(v:IV):ak (al):=eN (p:=v.ctorIdx=1) λ h=>IV.bool.elim v h λ b=>b
noncomputable def IV.dH(v:IV):ak (af IV):=eN (p:=v.ctorIdx=4) λ h=>IV.tup.elim v h λ l=>l
noncomputable def IV.dX(v:IV):ak (af IV):=eN (p:=v.ctorIdx=6) λ h=>IV.lst.elim v h λ l=>l
noncomputable def IV.tM(v:IV):ak (af IV):=eN (p:=v.ctorIdx=7) λ h=>IV.bN.elim v h λ l=>l
noncomputable def IV.hM(v:IV):ak (af (ag×IV)):=eN (p:=v.ctorIdx=8) λ h=>IV.eD.elim v h λ l=>l
noncomputable def IV.Dq(v:IV):ak (af (af ah×IV)):=eN (p:=v.ctorIdx=9) λ h=>IV.gr.elim v h λ l=>l
noncomputable def IV.nh(v:IV):ak (Nm×af (Nm×IV)):=eN (p:=v.ctorIdx=5) λ h=>IV.ba.elim v h λ c x=>(c,x)
noncomputable def IV.ql(v:IV):ak (Nm):=eN (p:=v.ctorIdx=11) λ h=>IV.cls.elim v h λ c=>c
noncomputable def IV.cL(v:IV):al:=v.ctorIdx==0
noncomputable def IV.isObj(v:IV):al:=v.ctorIdx==10
noncomputable def IE.asVar(v:IE):ak (Nm):=eN (p:=v.ctorIdx=1) λ h=>IE.var.elim v h λ x=>x
noncomputable def IE.AH(v:IE):ak (Nm):=eN (p:=v.ctorIdx=2) λ h=>IE.glob.elim v h λ x=>x
noncomputable def IE.wm(v:IE):ak (IE×Nm):=eN (p:=v.ctorIdx=3) λ h=>IE.attr.elim v h λ e f=>(e,f)
noncomputable def IE.RU(v:IE):ak (IE×Nm×af IE×af (Nm×IE)):=eN (p:=v.ctorIdx=4) λ h=>IE.bx.elim v h λ e m as kw=>(e,m,as,kw)
noncomputable def IE.UU(v:IE):ak (IE×af IE×af (Nm×IE)):=eN (p:=v.ctorIdx=5) λ h=>IE.call.elim v h λ f as kw=>(f,as,kw)
noncomputable def IE.XQ(v:IE):ak (ak IE×ak IE):=eN (p:=v.ctorIdx=13) λ h=>IE.jN.elim v h λ Y lo x=>(lo,x)
noncomputable def IE.Bn(v:IE):ak (uE×af IE):=eN (p:=v.ctorIdx=9) λ h=>IE.bool.elim v h λ o l=>(o,l)
noncomputable def IE.dH(v:IE):ak (af IE):=eN (p:=v.ctorIdx=14) λ h=>IE.tup.elim v h λ l=>l
section
open PySem
noncomputable def yf:Const->ak IV
 |.none=>aa .none|.bool b=>aa (.bool b)|.int i=>aa (.int i)|.str s=>aa (.str s.cps.toList)|_=>none
noncomputable def CB(e:bA):ak Const:=eN (p:=e.ctorIdx=19) λ h=>VG e h λ c Y Y=>c
noncomputable def oY(e:bA):ak aN:=eN (p:=e.ctorIdx=23) λ h=>zp e h λ x Y=>x
noncomputable def Hp(e:bA):ak (aN×ey):=eN (p:=e.ctorIdx=23) λ h=>zp e h λ x p=>(x,p)
noncomputable def ub(e:bA):ak (bA×aN×ey):=eN (p:=e.ctorIdx=20) λ h=>Lv e h λ o x p=>(o,x,p)
noncomputable def Cp(e:bA):ak (bA×af bA×af zq×ey):=eN (p:=e.ctorIdx=16) λ h=>Fz e h λ f as kw p=>(f,as,kw,p)
noncomputable def GO(e:bA):ak (bA×bA):=eN (p:=e.ctorIdx=21) λ h=>VH e h λ o i Y=>(o,i)
noncomputable def nP(e:bA):ak (af bA):=eN (p:=e.ctorIdx=25) λ h=>Lw e h λ l Y Y=>l
noncomputable def vM(e:bA):ak (ak bA):=eN (p:=e.ctorIdx=26) λ h=>VI e h λ Y Y st Y=>st
noncomputable def W5(e:bA):ak ag:=(CB e).bind λ c=>(yf c).bind IV.cn
noncomputable def zR(e:bA):ak (af ah):=(CB e).bind λ c=>(yf c).bind IV.de
noncomputable def yT(e:bA):al:=!(e.ctorIdx==22)
noncomputable def Fv(e:bA):al:=!(e.ctorIdx==7)
noncomputable def gq(as:af bA)(kw:af zq):al:=as.all yT&&kw.all (λ k=>k.arg.isSome)&&decide (as.length+kw.length<28)
noncomputable def U5(n:Nm)(k:xh):IE:=match k with|.local=>.var n|.globalImplicit=>.glob n|_=>.bad
noncomputable def zo(sc:af (aN×xh))(x:aN):IE:=IE.opt (cy x) λ n=>IE.opt (sc.lookup x) λ k=>U5 n k
noncomputable def NC(c:Const):IE:=IE.opt (yf c) .con
noncomputable def Kk(o:UnaryOp)(e:bA)(ie:IE):IE:=match o with
 |.Not=>.not ie
 |.USub=>IE.opt (W5 e) λ i=>.con (.int (-i))
 |_=>.bad
noncomputable def Hd(os:af CmpOp)(a:IE)(bs:af IE):IE:=
 bo (one os) (λ o=>IE.opt (one bs) λ b=>.cmp o a b) (IE.opt (two os) λ o=>IE.opt (two bs) λ b=>.jS o.1 o.2 a b.1 b.2)
noncomputable def OU(h:af (ak bA))(x:af IE):IE:=match h with
 |[]=>IE.ax x.isEmpty .DM
 |_=>IE.opt (two h) λ k=>IE.opt (k.1.bind zR) λ a=>IE.opt (k.2.bind zR) λ b=>IE.opt (two x) λ e=>.qZ a e.1 b e.2
noncomputable def qe(e:bA):ak aN:=(Cp e).bind λ c=>if c.2.1.isEmpty&&c.2.2.1.isEmpty then oY c.1 else none
noncomputable def Lj(e:bA)(x:aN)(ie:IE):IE:=IE.ax (qe e).isNone (IE.opt (cy x) λ n=>.attr ie n)
noncomputable def Ee(f:bA×aN×ey)(h:IE)(x:af IE)(a:af (Nm×IE))(pos:ey):IE:=
 IE.ax ((qe f.1).isNone&&(f.2.2.endLine==pos.line)) (IE.opt h.wm λ b=>.bx b.1 b.2 x a)
noncomputable def JA(f:bA)(h:IE)(as:af bA)(kw:af zq)(x:af IE)(a:af (Nm×IE))(pos:ey):IE:=
 IE.ax (gq as kw) (bo (ub f) (λ b=>Ee b h x a pos) (IE.opt (oY f) λ Y=>.call h x a))
noncomputable def OD(i:bA)(ie h:IE):IE:=bo (vM i) (λ st=>IE.ax st.isNone (IE.opt h.XQ λ b=>.jN ie b.1 b.2)) (.idx ie h)
variable(sc:af (aN×xh))
mutual
noncomputable def ay:VJ->IE
 |.Constant c _ _=>NC c
 |.Name x _=>zo sc x
 |.BoolOp o l _=>.bool o (bV l)
 |.BinOp a op b _=>.bin op (ay a) (ay b)
 |.UnaryOp o e _=>Kk o e (ay e)
 |.IfExp t a b _=>.ite (ay t) (ay a) (ay b)
 |.Dict h d _=>OU h (bV d)
 |.List l _=>.lst (bV l)
 |.Tuple l _ _=>.tup (bV l)
 |.Compare a os bs _=>IE.ax (bs.all Fv) (Hd os (ay a) (bV bs))
 |.Call f as kw pos=>JA f (ay f) as kw (bV as) (ic kw) pos
 |.Attribute e x _=>Lj e x (ay e)
 |.Slice lo g _ _=>.jN .bad (qD lo) (qD g)
 |.Subscript e i _=>OD i (ay e) (ay i)
 |_=>.bad
noncomputable def bV:af VJ->af IE
 |[]=>[]
 |e::r=>ay e::bV r
noncomputable def qD:ak VJ->ak IE
 |none=>none
 |some e=>aa (ay e)
noncomputable def ic:af zq->af (Nm×IE)
 |[]=>[]
 |⟨n,e,_⟩::r=>bo (n.bind cy) (λ k=>(k,ay e)) (.bq,.bad)::ic r
end
noncomputable def nw(x:aN):ak Nm:=if sc.lookup x=aa .local then cy x else none
noncomputable def IK(e:bA):ak Nm:=(oY e).bind (nw sc)
noncomputable def qm(l:af bA):ak (af Nm):=match l with
 |[]=>aa []
 |e::r=>(IK sc e).bind λ x=>(qm r).map λ h=>x::h
noncomputable def Tr(a:bA×aN×ey)(k:IE->Nm->IS):IS:=IS.opt (cy a.2.1) λ n=>IS.ax (qe a.1).isNone (k (ay sc a.1) n)
noncomputable def Py(t:bA)(v:IE):IS:=
 bo (oY t) (λ x=>IS.opt (nw sc x) λ x=>.asg x v)
 (bo (ub t) (λ a=>Tr sc a λ o n=>.rn o n v)
 (bo (GO t) (λ b=>.BC (ay sc b.1) (ay sc b.2) v)
 (IS.opt (nP t) λ h=>IS.opt (qm sc h) λ c=>.lT c v)))
noncomputable def Lm(t:bA)(e:bA):ak (Nm×Nm):=(nP t).bind λ h=>(two h).bind λ t=>(Hp t.1).bind λ x=>(Hp t.2).bind λ y=>(nP e).bind λ c=>(two c).bind λ e=>
 if(ub e.1).isSome&&(ub e.2).isSome then(nw sc x.1).bind λ a=>(nw sc y.1).bind λ b=>if x.2.line=y.2.line/\a≠b then aa (a,b)else none else none
noncomputable def OA(t:bA)(e:bA)(v:IE):IS:=bo (Lm sc t e) (λ p=>.ya p.1 p.2 v) (IS.ax (!((nP t).isSome&&(nP e).isSome)) (Py sc t v))
noncomputable def Qx(t:bA)(op:Operator)(v:IE):IS:=bo (oY t) (λ x=>IS.opt (nw sc x) λ x=>.aug x op v) (IS.opt (ub t) λ a=>Tr sc a λ o n=>.tZ o n op v)
noncomputable def jw(t:bA):ak (af Nm):=bo (oY t) (λ x=>(nw sc x).map λ x=>[x]) ((nP t).bind λ a=>(qm sc a).bind λ h=>aE (decide (2<=h.length)) h)
noncomputable def Rf(h:af bA):IS:=IS.opt (one h) λ t=>IS.opt (GO t) λ b=>.del (ay sc b.1) (ay sc b.2)
noncomputable def ax2(e:bA):ak Nm:=(oY e).bind λ x=>(zo sc x).AH
mutual
noncomputable def wN:PySem.Stmt->IS
 |.Expr e _=>.expr (ay sc e)
 |.Pass _=>.pass|.Break _=>.brk|.Continue _=>.cont
 |.Return e _=>.ret (qD sc e)
 |.Assign x e _=>IS.opt (one x) λ t=>OA sc t e (ay sc e)
 |.AugAssign t op e _=>Qx sc t op (ay sc e)
 |.If t a b _=>.iff (ay sc t) (bZ a) (bZ b)
 |.While t b h _=>IS.ax h.isEmpty (.iE (ay sc t) (bZ b))
 |.For t d b h _=>IS.ax h.isEmpty (IS.opt (jw sc t) λ f=>.jr f (ay sc d) (bZ b))
 |.Raise e c _=>IS.ax c.isNone (IS.opt e λ e=>.raise (ay sc e))
 |.Delete x _=>Rf sc x
 |.Try b g h fin _=>IS.ax (h.isEmpty&&fin.isEmpty) (PW (bZ b) g)
 |_=>.bad
noncomputable def bZ:af PySem.Stmt->af IS
 |[]=>[]
 |s::r=>wN s::bZ r
noncomputable def PW(b:af IS):af ExceptHandler->IS
 |[]=>.bad
 |⟨c,x,h,_⟩::r=>IS.ax (r.isEmpty&&!h.isEmpty) (IS.opt (c.bind (ax2 sc)) λ c=>match x with
  |none=>.ny b c none (bZ h)
  |some x=>IS.opt (nw sc x) λ x=>.ny b c (aa x) (bZ h))
end
noncomputable def Sh(e:bA):al:=(Cp e).any λ c=>c.2.1.isEmpty&&c.2.2.1.isEmpty&&(oY c.1).any λ s=>s==("super":aN)
noncomputable def bw8(e:bA):ak (af bA):=(Cp e).bind λ c=>(ub c.1).bind λ a=>
 aE (Sh a.1&&(a.2.1==("__init__":aN))&&c.2.2.1.isEmpty&&gq c.2.1 []&&(a.2.2.endLine==c.2.2.2.line)) c.2.1
noncomputable def Sq(s:gd):ak bA:=eN (p:=s.ctorIdx=24) λ h=>VK s h λ e Y=>e
noncomputable def nQ(s:gd):ak (af bA):=(Sq s).bind bw8
noncomputable def GY(b:af gd):af IS:=match b with
 |st::rest=>bo (nQ st) (λ h=>.nD (bV sc h)::bZ sc rest) (bZ sc (st::rest))
 |[]=>[]
end
structure Fn where
 params:af Nm
 dflt:af (Nm×IV)
 body:af IS
structure bW where
 bx:Nm->ak Fn
 fn:Nm->ak Fn
 ba:Nm->ak (af Nm×af (Nm×IV))
 oa:Nm->Nm->ak IV
 sub:Nm->Nm->al
 con:Nm->ak IV
 cZ:Nm->Nm->al
 exc:Nm->ak (af Nm×af (Nm×IV))
 sup:ak Fn
noncomputable abbrev Loc:=af (Nm×IV)
noncomputable abbrev St:=ak (af (Nm×IV))
inductive R(ε α:Type) where
 |stuck|exc (e:ε)|ok (a:α)
noncomputable abbrev RE(h:Type):=R (IV×St) (h×St)
inductive Fl where|next|brk|cont|ret (v:IV)
noncomputable abbrev RS:=R (IV×Loc×St) (Fl×Loc×St)
noncomputable def R.aw{h a b:Type}(x:R h (a×St))(k:a->St->R h b):R h b:=match x with
 |.stuck=>.stuck|.exc e=>.exc e|.ok (v,O)=>k v O
noncomputable def R.opt{h x a:Type}(o:ak a)(k:a->R h x):R h x:=match o with|some v=>k v|none=>.stuck
noncomputable def R.ax{h a:Type}(b:al)(x:R h a):R h a:=match b with|true=>x|false=>.stuck
noncomputable def aY{h:Type}(V:Loc)(x:RE h)(k:h->St->RS):RS:=match x with
 |.stuck=>.stuck|.exc e=>.exc (e.1,V,e.2)|.ok (v,O)=>k v O
noncomputable def R.ow(x:RS)(k:Loc->St->RS):RS:=match x with
 |.ok (.next,V,O)=>k V O
 |x=>x
noncomputable def R.loop(x:RS)(k:Loc->St->RS):RS:=match x with
 |.ok (.next,V,O)=>k V O
 |.ok (.cont,V,O)=>k V O
 |.ok (.brk,V,O)=>.ok (.next,V,O)
 |x=>x
noncomputable def lk{h:Type}(x:Nm)(l:af (Nm×h)):ak h:=match l with
 |[]=>none
 |y::r=>if x=y.1 then aa y.2 else lk x r
noncomputable def put{h:Type}(x:Nm)(v:h)(l:af (Nm×h)):af (Nm×h):=match l with
 |[]=>[(x,v)]
 |y::r=>if x=y.1 then(y.1,v)::r else y::put x v r
noncomputable def iJ{h:Type}(x:ag)(l:af (ag×h)):ak h:=match l with
 |[]=>none
 |y::r=>if x=y.1 then aa y.2 else iJ x r
noncomputable def rh{h:Type}(x:ag)(v:h)(l:af (ag×h)):af (ag×h):=match l with
 |[]=>[(x,v)]
 |y::r=>if x=y.1 then(y.1,v)::r else y::rh x v r
noncomputable def sj{h:Type}(x:ag)(l:af (ag×h)):af (ag×h):=match l with
 |[]=>[]
 |y::r=>if x=y.1 then r else y::sj x r
noncomputable def jk{h:Type}(x:af ah)(l:af (af ah×h)):ak h:=match l with
 |[]=>none
 |y::r=>if x=y.1 then aa y.2 else jk x r
mutual
noncomputable def iz:IV->ca9
 |.none=>.none|.int i=>.int i|.str s=>.str ⟨s.toArray⟩
 |.tup l=>.tuple (qf l)|.lst l=>.list (qf l)|.bN l=>.list (qf l)
 |_=>.bytes #[]
noncomputable def qf:af IV->af ca9
 |[]=>[]
 |v::l=>iz v::qf l
end
noncomputable def tF(v:IV):al:=PySem.W.kqdOk 8 (iz v)
noncomputable def hX{h:Type}(a b:IV)(k:ag->ag->ak h):ak h:=a.cn.bind λ i=>b.cn.bind λ j=>k i j
noncomputable def rI{h:Type}(a b:IV)(k:af ah->af ah->ak h):ak h:=a.de.bind λ i=>b.de.bind λ j=>k i j
noncomputable def Tz(a b:IV):ak al:=(hX a b λ i j=>aa (decide (i=j))).or ((rI a b λ i j=>aa (decide (i=j))).or (aE (tF a&&tF b) (PySem.PyData.eqv (cb0 (iz a)) (cb0 (iz b)))))
noncomputable def OC(a b:IV):ak al:=(hX a b λ i j=>aa (decide (i≠j))).or (rI a b λ i j=>aa (decide (i≠j)))
noncomputable def IV.kY(v:IV):ak (af IV):=v.dX.or v.tM
noncomputable def dg{h:Type}(l:af h):al:=decide (l.length<=1000000)
noncomputable def eO(v:IV):ak al:=(aE v.cL ai).or (v.Bn.or ((v.cn.map λ i=>decide (i≠0)).or
 ((v.de.bind λ s=>aE (dg s) (!s.isEmpty)).or ((v.dH.bind λ s=>aE (dg s) (!s.isEmpty)).or (v.kY.bind λ s=>aE (dg s) (!s.isEmpty))))))
noncomputable def jC(i:ag)(n:ah):ak ah:=if-1000000<=i/\i<=1000000 then PySem.seqIndex? i n else none
noncomputable def cut{h:Type}(l:af h)(lo x:ak ag):af h:=(l.drop (lo.elim 0 (Lx l.length))).take (x.elim l.length (Lx l.length)-lo.elim 0 (Lx l.length))
noncomputable def xJ(a b:IV):ak IV:=rI a b λ s t=>aE (decide (s.length+t.length<=10000)) (.str (s++t))
noncomputable def Ip(a b:IV):ak IV:=a.dH.bind λ s=>b.dH.bind λ t=>aE (decide (0<s.length/\0<t.length/\s.length+t.length<=10000)) (.tup (s++t))
noncomputable def Df(a b:IV):ak IV:=a.dX.bind λ s=>b.dX.bind λ t=>aE (decide (s.length+t.length<=10000)) (.lst (s++t))
noncomputable def bp8(a b:IV):ak IV:=a.de.bind λ s=>b.cn.bind λ n=>aE (decide (s.length<=1000/\0<=n/\n<=1000)) (.str (aJ n.toNat s).flatten)
noncomputable def ca4(a b:IV):ak IV:=a.dX.bind λ s=>b.cn.bind λ n=>aE (decide (s.length<=1000/\0<=n/\n<=1000)) (.lst (aJ n.toNat s).flatten)
noncomputable def lX(o:pP)(a b:IV):ak IV:=match o with
 |.Add=>(hX a b λ i j=>aa (.int (i+j))).or ((xJ a b).or ((Ip a b).or (Df a b)))
 |.Sub=>hX a b λ i j=>aa (.int (i-j))
 |.Mult=>(bp8 a b).or (ca4 a b)
 |.FloorDiv=>hX a b λ i j=>aE (decide (j≠0/\j.natAbs<=1000)) (.int (uF i j))
 |.Mod=>hX a b λ i j=>aE (decide (j≠0)) (.int (oB i j))
 |_=>none
noncomputable def lQ(o:pP)(a b:IV):ak IV:=match o with
 |.Add=>(hX a b λ i j=>aa (.int (i+j))).or ((xJ a b).or (Df a b))
 |.Sub=>hX a b λ i j=>aa (.int (i-j))
 |_=>none
noncomputable def Kr(a b:IV):ak al:=(rI a b λ s l=>(one s).map λ c=>l.contains c).or ((a.cn.bind λ i=>b.hM.map λ l=>(iJ i l).isSome).or (a.de.bind λ s=>b.Dq.map λ l=>(jk s l).isSome))
noncomputable def eX(o:mO)(a b:IV):ak al:=match o with
 |.Eq=>Tz a b
 |.NotEq=>OC a b
 |.Lt=>hX a b λ i j=>aa (decide (i<j))
 |.LtE=>(hX a b λ i j=>aa (decide (i<=j))).or (rI a b λ i j=>aa (!decide (j<i)))
 |.Gt=>hX a b λ i j=>aa (decide (j<i))
 |.GtE=>hX a b λ i j=>aa (decide (j<=i))
 |.Is=>aE b.cL a.cL
 |.IsNot=>aE b.cL !a.cL
 |.In=>Kr a b
 |.NotIn=>(Kr a b).map (!·)
noncomputable def eH(h:af ah)(l:af (af ah)):af ah:=match l with
 |[]=>[]
 |x::r=>if r.isEmpty then x else x++h++eH h r
noncomputable def vB(l:af IV):ak (af (af ah)):=match l with
 |[]=>aa []
 |v::r=>v.de.bind λ s=>(vB r).map (s::·)
noncomputable def mu(v:IV):al:=v.dX.isSome
noncomputable def az(v:IV):al:=!(v.ctorIdx==6)&&!(v.ctorIdx==8)
noncomputable def freeze:IV->IV
 |.lst l=>.bN l|v=>v
noncomputable def fresh:IE->al
 |.var _=>ai|.attr _ _=>ai|.bool _ l=>fr l|.ite _ a b=>fresh a&&fresh b|.con _=>ai|_=>ae
where fr:af IE->al
 |[]=>ae
 |e::r=>fresh e&&fr r
mutual
noncomputable def pureE:IE->al
 |.con _=>ae|.var _=>ae|.glob _=>ae|.attr e _=>pureE e
 |.bin _ a b=>pureE a&&pureE b|.cmp _ a b=>pureE a&&pureE b|.jS _ _ a b c=>pureE a&&(pureE b&&pureE c)
 |.bool _ l=>pureEs l|.not e=>pureE e|.ite t a b=>pureE t&&(pureE a&&pureE b)
 |.idx e i=>pureE e&&pureE i|.tup l=>pureEs l|_=>ai
noncomputable def pureEs:af IE->al
 |[]=>ae
 |e::r=>pureE e&&pureEs r
end
mutual
noncomputable def AP:IS->al
 |.expr e=>pureE e|.asg _ e=>pureE e|.iff t a b=>pureE t&&(jL a&&jL b)|.pass=>ae|_=>ai
noncomputable def jL:af IS->al
 |[]=>ae
 |s::r=>AP s&&jL r
end
noncomputable abbrev su:=Fn->af IV->af (Nm×IV)->St->R (IV×St) ((IV×Loc)×St)
noncomputable def cR(e:IE)(v:IV):al:=az v||fresh e||e.asVar.isSome
structure bh where
 prm:af Nm
 dep:ah
 C:su
 top:al
 E:IE->Loc->St->RE IV
 T:IE->Loc->St->RE al
 S:IS->Loc->St->RS
 B:af IS->Loc->St->RS
 F:af Nm->af IV->af IS->Loc->St->RS
 fuel:ah
 quiet:al
 H:af IS->Loc->St->RS
section
variable(P:bW)(r:bh)
noncomputable def ik(l:af IE)(V:Loc)(O:St):RE (af IV):=match l with
 |[]=>.ok ([],O)
 |e::l=>(r.E e V O).aw λ v O=>R.ax (cR e v||l.isEmpty) ((ik l V O).aw λ h O=>.ok (v::h,O))
noncomputable def xR(l:af (Nm×IE))(V:Loc)(O:St):RE (af (Nm×IV)):=match l with
 |[]=>.ok ([],O)
 |e::l=>(r.E e.2 V O).aw λ v O=>R.ax (az v) ((xR l V O).aw λ h O=>.ok ((e.1,v)::h,O))
noncomputable def dq(as:af IE)(kw:af (Nm×IE))(V:Loc)(O:St):RE (af IV×af (Nm×IV)):=
 (ik r as V O).aw λ h O=>R.ax (kw.isEmpty||h.all az) ((xR r kw V O).aw λ x O=>.ok ((h,x),O))
noncomputable def DG(e:ak IE)(V:Loc)(O:St):RE (ak ag):=match e with
 |none=>.ok (none,O)
 |some e=>(r.E e V O).aw λ v O=>R.opt v.cn λ i=>.ok (aa i,O)
noncomputable def dA(params:af Nm)(dflt:af (Nm×IV))(h:af IV)(kw:af (Nm×IV)):ak (af (Nm×IV)):=match params with
 |[]=>aE (h.isEmpty&&kw.isEmpty) []
 |p::a=>match h with
  |v::h=>(dA a dflt h kw).map ((p,v)::·)
  |[]=>bo (lk p kw) (λ v=>(dA a dflt [] (kw.filter λ x=>!decide (x.1=p))).map ((p,v)::·)) ((lk p dflt).bind λ v=>(dA a dflt [] kw).map ((p,v)::·))
noncomputable def eW(x:RS):R (IV×St) ((IV×Loc)×St):=match x with
 |.stuck=>.stuck
 |.exc e=>.exc (e.1,e.2.2)
 |.ok (.ret v,V,O)=>.ok ((v,V),O)
 |.ok (.next,V,O)=>.ok ((.none,V),O)
 |.ok _=>.stuck
noncomputable def tP(f:Fn)(h:af IV)(kw:af (Nm×IV))(O:St):R (IV×St) ((IV×Loc)×St):=R.ax (decide (kw.length<=1)) (R.opt (dA f.params f.dflt h kw) λ V=>eW (r.B f.body V O))
noncomputable def oq(f:Fn)(h:af IV)(kw:af (Nm×IV))(O:St):RE IV:=R.ax (h.all az&&kw.all (λ x=>az x.2)) ((r.C f h kw O).aw λ v O=>.ok (v.1,O))
noncomputable def tJ(o:uE)(b:al):al:=match o with|.And=>!b|.Or=>b
noncomputable def bools(o:uE)(l:af IE)(V:Loc)(O:St):RE IV:=match l with
 |[]=>.stuck
 |e::l=>match l with
  |[]=>r.E e V O
  |_=>(r.E e V O).aw λ v O=>R.opt (eO v) λ b=>bif tJ o b then .ok (v,O)else bools o l V O
noncomputable def sC(o:uE)(l:af IE)(V:Loc)(O:St):RE al:=match l with
 |[]=>.ok (!tJ o ae,O)
 |e::l=>(r.T e V O).aw λ b O=>bif tJ o b then .ok (b,O)else sC o l V O
noncomputable def cG(v:IV)(f:Nm)(O:St):ak IV:=bo v.nh (λ c=>bo (lk f c.2) (λ v=>aE (P.cZ c.1 f) v) (P.oa c.1 f)) (if v.isObj&&P.cZ .bL f then O.bind λ h=>lk f h else none)
noncomputable def yj(v:IV)(i:ag):ak IV:=(v.de.bind λ s=>(jC i s.length).bind λ k=>(s[k]?).map λ c=>.str [c]).or
 ((v.kY.bind λ l=>(jC i l.length).bind λ k=>l[k]?).or ((v.dH.bind λ l=>(jC i l.length).bind λ k=>l[k]?).or (v.hM.bind λ l=>iJ i l)))
noncomputable def nG(v i:IV):ak IV:=(i.cn.bind λ i=>yj v i).or (i.de.bind λ s=>v.Dq.bind λ l=>jk s l)
noncomputable def slice(v:IV)(lo h:ak ag):ak IV:=(v.de.bind λ s=>aE (dg s) (.str (FA ⟨s.toArray⟩ lo h).cps.toList)).or
 ((v.kY.bind λ l=>aE (dg l) (.lst (cut l lo h))).or (v.dH.bind λ l=>if lo.isNone then h.bind λ n=>aE (decide (n.toNat<l.length)&&decide (0<n)&&dg l) (.tup (l.take n.toNat))else none))
noncomputable def nB(v:IV):ak ah:=(v.de.bind λ s=>aE (dg s) s.length).or (v.kY.bind λ s=>aE (dg s) s.length)
noncomputable def QX(l:af IV)(h:af IV):ak (IV×af IV):=if h.isEmpty then l.getLast?.map λ v=>(v,l.dropLast)else(one h).bind λ v=>v.cn.bind λ i=>if i=0 then l.head?.map λ v=>(v,l.tail)else none
noncomputable def nE(m:Nm)(l:af IV)(h:af IV):ak (IV×af IV):=
 if 10000<l.length then none
 else if m=.kZ then(one h).bind λ v=>aE (az v) (.none,l++[v])
 else if m=.tO then QX l h
 else if m=.AL then(two h).bind λ v=>v.1.cn.bind λ i=>aE (az v.2&&decide (0<=i)&&decide (i<=1000000)) (.none,l.take i.toNat++v.2::l.drop i.toNat)
 else if m=.Ez then(one h).bind λ v=>v.dX.bind λ k=>aE (decide (l.length+k.length<=10000)) (.none,l++k)
 else none
noncomputable def qE(m:Nm):al:=decide (m=.kZ\/m=.tO\/m=.AL\/m=.Ez)
noncomputable def Ad(m:Nm):al:=decide (m=.wH\/m=.rM\/m=.sv)
noncomputable def nf(m:Nm)(s:af ah)(h:af IV):ak IV:=
 if 1000000<s.length then none
 else if m=.wH then(one h).bind λ v=>v.dX.bind λ l=>(vB l).bind λ l=>aE (decide (s.length<=1000)&&decide (l.length<=1000)&&l.all λ x=>decide (x.length<=1000)) (.str (eH s l))
 else if m=.rM then(one h).bind λ v=>v.de.map λ c=>.str (PySem.Txt.stripChars ⟨s.toArray⟩ ⟨c.toArray⟩).cps.toList
 else if m=.sv then(one h).bind λ v=>v.de.map λ c=>.str (PySem.Txt.lstripChars ⟨s.toArray⟩ ⟨c.toArray⟩).cps.toList
 else none
noncomputable def jS(o p:mO)(a b c:IE)(V:Loc)(O:St):RE al:=
 (r.E a V O).aw λ x O=>(r.E b V O).aw λ y O=>R.ax (az x&&az y) (R.opt (eX o x y) λ t=>bif t then(r.E c V O).aw λ z O=>R.opt (eX p y z) λ v=>.ok (v,O)else .ok (ai,O))
noncomputable def yi(e:IE):ak Nm:=e.wm.bind λ b=>b.1.asVar.bind λ x=>if x=.bq then aa b.2 else none
noncomputable def nU(f:Nm):al:=decide (f=.ij\/f=.kJ\/f=.mZ\/f=.bL)||(P.fn f).isSome||(P.ba f).isSome
noncomputable def IM(m f:Nm)(x:af IV)(O:St):RE IV:=R.opt O λ h=>R.opt ((lk f h).bind IV.dX) λ l=>R.opt (nE m l x) λ w=>.ok (w.1,aa (put f (.lst w.2) h))
noncomputable def kq(o:ak IV):al:=o.any mu
noncomputable def Ao(f m:Nm)(as:af IE)(kw:af (Nm×IE))(V:Loc)(O:St):RE IV:=R.ax ((lk .bq V).any IV.isObj&&kq (cG P .obj f O)&&qE m&&kw.isEmpty) ((dq r as [] V O).aw λ h O=>IM m f h.1 O)
noncomputable def Jn(m:Nm)(as:af IE)(kw:af (Nm×IE))(V:Loc)(O:St):RE IV:=R.opt (P.bx m) λ f=>R.ax (O.any λ x=>(lk m x).isNone) ((dq r as kw V O).aw λ h O=>oq r f (.obj::h.1) h.2 O)
noncomputable def uy(s:af ah)(m:Nm)(as:af IE)(kw:af (Nm×IE))(V:Loc)(O:St):RE IV:=R.ax (Ad m&&kw.isEmpty) ((dq r as [] V O).aw λ h O=>R.opt (nf m s h.1) λ v=>.ok (v,O))
noncomputable def Cz(v:IV)(m:Nm)(as:af IE)(kw:af (Nm×IE))(V:Loc)(O:St):RE IV:=bif v.isObj then Jn P r m as kw V O else R.opt v.de λ s=>uy r s m as kw V O
noncomputable def OT(e:IE)(m:Nm)(as:af IE)(kw:af (Nm×IE))(V:Loc)(O:St):RE IV:=bo (yi e) (λ f=>Ao P r f m as kw V O) ((r.E e V O).aw λ v O=>Cz P r v m as kw V O)
noncomputable def ur(c:Nm)(h:af IV)(x:af (Nm×IV))(O:St):RE IV:=R.opt (P.ba c) λ d=>R.ax (h.all az&&decide (x.length<=1)) (R.opt (dA d.1 d.2 h x) λ a=>.ok (.ba c a,O))
noncomputable def yk(v:IV)(d:Nm):ak al:=bo v.nh (λ c=>aE ((P.ba c.1).isSome&&(P.ba d).isSome) (P.sub c.1 d)) (v.de.bind λ Y=>aE (decide (d=.mW)) ae)
noncomputable def nq(f:Nm)(h:af IV)(a:af (Nm×IV))(O:St):RE IV:=
 if f=.ij then R.ax a.isEmpty (R.opt (one h) λ v=>R.opt (nB v) λ n=>.ok (.int n,O))
 else if f=.kJ then R.ax a.isEmpty (R.opt (two h) λ v=>R.opt v.2.ql λ d=>R.opt (yk P v.1 d) λ b=>.ok (.bool b,O))
 else if f=.mZ then R.ax (a.isEmpty&&!r.quiet) (R.opt (one h) λ v=>R.opt v.hM λ l=>R.ax (decide (l.length<=10000)) (.ok (.lst (l.map λ x=>.int x.1),O)))
 else if f=.bL then R.ax O.isNone (R.opt (P.bx .lL) λ g=>(oq r g (.obj::h) a (aa [])).aw λ v O=>R.ax v.cL (.ok (.obj,O)))
 else bo (P.fn f) (λ g=>oq r g h a O) (ur P f h a O)
noncomputable def RD(f:IE)(as:af IE)(kw:af (Nm×IE))(V:Loc)(O:St):RE IV:=bo f.AH (λ f=>R.ax (nU P f) ((dq r as kw V O).aw λ h O=>nq P r f h.1 h.2 O))
 (R.opt f.asVar λ x=>R.opt ((lk x V).bind IV.ql) λ c=>R.ax (P.ba c).isSome ((dq r as kw V O).aw λ h O=>ur P c h.1 h.2 O))
noncomputable def yu(x:Nm):ak IV:=(P.con x).or (aE (decide (x=.mW)||(P.ba x).isSome) (.cls x))
noncomputable def kU(e:IE)(V:Loc)(O:St):RE IV:=match e with
 |.con v=>.ok (v,O)
 |.var x=>R.opt (lk x V) λ v=>.ok (v,O)
 |.glob x=>R.opt (yu P x) λ v=>.ok (v,O)
 |.attr e f=>(r.E e V O).aw λ v O=>R.opt (cG P v f O) λ v=>.ok (v,O)
 |.bx e m as kw=>OT P r e m as kw V O
 |.call f as kw=>RD P r f as kw V O
 |.bin o a b=>(r.E a V O).aw λ x O=>R.ax (cR a x) ((r.E b V O).aw λ y O=>R.opt (lX o x y) λ v=>.ok (v,O))
 |.cmp o a b=>(r.E a V O).aw λ x O=>R.ax (cR a x) ((r.E b V O).aw λ y O=>R.opt (eX o x y) λ v=>.ok (.bool v,O))
 |.jS o p a b c=>(jS r o p a b c V O).aw λ v O=>.ok (.bool v,O)
 |.bool o l=>bools r o l V O
 |.not e=>(r.E e V O).aw λ v O=>R.opt (eO v) λ b=>.ok (.bool !b,O)
 |.ite t a b=>(r.T t V O).aw λ c O=>bif c then r.E a V O else r.E b V O
 |.idx e i=>(r.E e V O).aw λ v O=>R.ax (cR e v||pureE i) ((r.E i V O).aw λ k O=>R.opt (nG v k) λ v=>.ok (v,O))
 |.jN e lo q=>(r.E e V O).aw λ v O=>R.ax (cR e v) ((DG r lo V O).aw λ a O=>(DG r q V O).aw λ b O=>R.opt (slice v a b) λ v=>.ok (v,O))
 |.tup l=>(ik r l V O).aw λ h O=>R.ax (h.all az&&decide (h.length<=10000)) (.ok (.tup h,O))
 |.lst l=>(ik r l V O).aw λ h O=>R.ax (h.all az&&decide (h.length<=10000)) (.ok (.lst h,O))
 |.DM=>.ok (.eD [],O)
 |.qZ d s g u=>(r.E s V O).aw λ j O=>R.ax (az j) ((r.E u V O).aw λ n O=>R.ax (az n&&!decide (d=g)) (.ok (.gr [(d,j),(g,n)],O)))
 |.bad=>.stuck
noncomputable def stepT(e:IE)(V:Loc)(O:St):RE al:=match e with
 |.not e=>(r.T e V O).aw λ b O=>.ok (!b,O)
 |.bool o l=>sC r o l V O
 |.ite t a b=>(r.T t V O).aw λ c O=>bif c then r.T a V O else r.T b V O
 |.cmp o a b=>(r.E a V O).aw λ x O=>R.ax (cR a x) ((r.E b V O).aw λ y O=>R.opt (eX o x y) λ v=>.ok (v,O))
 |.jS o p a b c=>jS r o p a b c V O
 |e=>(r.E e V O).aw λ v O=>R.opt (eO v) λ b=>.ok (b,O)
noncomputable def CF(l:af IS)(V:Loc)(O:St):RS:=match l with
 |[]=>.ok (.next,V,O)
 |s::l=>(r.S s V O).ow λ V O=>r.B l V O
noncomputable def putAll(l:af (Nm×IV))(V:Loc):Loc:=match l with
 |[]=>V
 |x::l=>putAll l (put x.1 x.2 V)
noncomputable def fT(x:Nm)(v:IV)(V:Loc):al:=!(r.prm.contains x)||(az v&&(lk x V).all az)
noncomputable def xZ(h:af Nm)(V:Loc):al:=h.all λ x=>fT r x .none V
noncomputable def jz(h:af Nm)(v:IV)(V:Loc):ak Loc:=if xZ r h V then bo (one h) (λ x=>aE (az v) (put x v V)) (v.dH.bind λ l=>aE (decide (2<=h.length)&&decide (h.length=l.length)&&decide (h.length<100)) (putAll (h.zip l) V))else none
noncomputable def Te(h:af Nm)(x:af IV)(b:af IS)(V:Loc)(O:St):RS:=match x with
 |[]=>.ok (.next,V,O)
 |v::l=>R.opt (jz r h v V) λ V=>(r.B b V O).loop λ V O=>r.F h l b V O
noncomputable def upTo:ah->ag->ag->ag->af IV
 |0,_,_,_=>[]
 |n+1,a,b,d=>if(0<d/\a<b)\/(d<0/\b<a)then .int a::upTo n (a+d) b d else[]
noncomputable def xI(h:af IV):ak (af IV):=bo (one h) (λ v=>v.cn.bind λ b=>aE (decide (b.natAbs<=1000)) (upTo b.toNat 0 b 1))
 (h.head?.bind λ v=>v.cn.bind λ a=>(two h.tail).bind λ w=>hX w.1 w.2 λ b d=>aE (decide (d≠0/\a.natAbs<=1000/\b.natAbs<=1000/\d.natAbs<=1000)) (upTo (b-a).natAbs a b d))
noncomputable def tE(i:ag)(l:af ah):af IV:=match l with
 |[]=>[]
 |c::r=>.tup [.int i,.str [c]]::tE (i+1) r
noncomputable def uv(h:Loc)(e:IE)(v:IV)(p:Nm)(V:Loc):Loc:=bif az v then V else bo (e.asVar.bind λ y=>(lk p h).map λ u=>(y,u)) (λ b=>put b.1 b.2 V) V
noncomputable def uC(a:Loc)(as:af IE)(h:af IV)(x:af Nm)(V:Loc):Loc:=match as with
 |[]=>V
 |e::as=>match h with
  |[]=>V
  |v::h=>match x with
   |[]=>V
   |p::x=>uC a as h x (uv a e v p V)
noncomputable def oS(as:af IE)(h:af IV):ak (af Nm):=match as with
 |[]=>aE h.isEmpty []
 |e::as=>match h with
  |[]=>none
  |v::h=>bif az v then oS as h else(e.asVar.bind λ y=>aE (mu v) y).bind λ y=>(oS as h).bind λ x=>aE (!x.contains y) (y::x)
noncomputable def yQ(e:IE):al:=e.asVar.any λ y=>!(r.prm.contains y)
noncomputable def zk(e:IE):al:=fresh e||yQ r e
noncomputable def oX(as:af IE)(h:af IV):al:=match as with
 |[]=>ae
 |e::as=>match h with
  |[]=>ae
  |v::h=>(az v||(yQ r e&&mu v))&&oX as h
noncomputable def Rp(e:IE)(V:Loc)(O:St):RE IV:=bo e.dH
 (λ l=>(ik r l V O).aw λ h O=>R.ax (oX r l h&&decide (h.length<=10000)) (.ok (.tup (h.map freeze),O)))
 ((r.E e V O).aw λ v O=>R.ax (az v||(zk r e&&mu v)) (.ok (v,O)))
noncomputable def mJ(e:IE):ak (Nm×af IE×af (Nm×IE)):=e.UU.bind λ c=>c.1.AH.map λ f=>(f,c.2)
noncomputable def vO(h:IE)(a:al)(V:Loc)(v:IV):ak (af IV):=(v.de.map λ s=>s.map λ c=>.str [c]).or ((v.dX.bind λ l=>aE (fresh h) l).or (v.tM.or (v.hM.bind λ l=>aE (a&&!V.isEmpty) (l.map λ x=>.int x.1))))
noncomputable def PA(h:IE)(x:al)(V:Loc)(O:St):RE (af IV):=(r.E h V O).aw λ v O=>R.opt (vO h x V v) λ l=>.ok (l,O)
noncomputable def Sn(a d:IE)(V:Loc)(O:St):RE (af IV):=(r.E a V O).aw λ v O=>bo v.tM (λ l=>R.ax (eO v==aa ae) (.ok (l,O))) (R.ax v.cL ((r.E d V O).aw λ w O=>R.opt w.dX λ l=>R.ax (fresh d) (.ok (l,O))))
noncomputable def tW(h:IE):ak (IE×IE):=h.Bn.bind λ b=>match b.1 with|.Or=>two b.2|.And=>none
noncomputable def Sf(n:Nm)(as:af IE)(kw:af (Nm×IE))(V:Loc)(O:St):RE (af IV):=R.ax kw.isEmpty ((dq r as [] V O).aw λ h O=>R.opt (if n=.jR then xI h.1 else(one h.1).bind λ v=>v.de.map (tE 0)) λ l=>.ok (l,O))
noncomputable def rG(h:IE):ak (Nm×af IE×af (Nm×IE)):=(mJ h).bind λ c=>aE (decide (c.1=.jR\/c.1=.si)) c
noncomputable def RA(h:IE)(x:al)(V:Loc)(O:St):RE (af IV):=bo (rG h) (λ c=>Sf r c.1 c.2.1 c.2.2 V O) (bo (tW h) (λ b=>Sn r b.1 b.2 V O) (PA r h x V O))
noncomputable def wA(e:IE):al:=(mJ e).any λ c=>decide (c.1=.si)
noncomputable def yq(e:IE):ak (Nm×Nm×af IE×af (Nm×IE)):=e.RU.bind λ c=>c.1.asVar.map λ x=>(x,c.2)
noncomputable def nl(h:af (Nm×IV)):ah:=(h.filter λ x=>!az x.2).length
noncomputable def tB(f:Nm):ah:=if f=.fS then 1 else if f=.JL then 2 else 0
noncomputable def wY(f:Nm)(v:IV)(h:af (Nm×IV)):al:=decide (h.length<900)&&(bo v.dX (λ Y=>(lk f h).isNone&&decide (tB f=1+nl h)&&decide (nl h<=1))
 (bo v.hM (λ Y=>(lk f h).all λ u=>u.hM.isSome&&decide (3<=nl h)) ((lk f h).all az)))
noncomputable def EI(f:Nm)(k:IV)(O:St)(u:ag->af (ag×IV)->ak (af (ag×IV)))(V:Loc):RS:=R.opt O λ h=>R.opt k.cn λ k=>R.opt ((lk f h).bind IV.hM) λ l=>R.opt (u k l) λ l=>.ok (.next,V,aa (put f (.eD l) h))
noncomputable def th(f:Nm)(v:IV)(O:St)(V:Loc):RS:=R.opt O λ h=>R.ax (wY f v h) (.ok (.next,V,aa (put f v h)))
noncomputable def tw(x m:Nm)(as:af IE)(kw:af (Nm×IE))(V:Loc)(O:St):RS:=R.ax (qE m&&kw.isEmpty) (aY V (dq r as [] V O) λ h O=>R.opt ((lk x V).bind IV.dX) λ l=>R.opt (nE m l h.1) λ w=>.ok (.next,put x (.lst w.2) V,O))
noncomputable def KZ(x:Nm)(e:IE)(V:Loc)(O:St):RS:=aY V (r.E e V O) λ v O=>R.ax ((az v||(fresh e&&mu v))&&fT r x v V) (.ok (.next,put x v V,O))
noncomputable def zg(x:Nm)(as:af IE)(h:af IV)(g:Fn)(a:af Nm)(V:Loc)(y:R (IV×St) ((IV×Loc)×St)):RS:=match y with
 |.stuck=>.stuck
 |.exc e=>R.ax a.isEmpty (.exc (e.1,V,e.2))
 |.ok v=>R.ax (fT r x v.1.1 V) (.ok (.next,put x v.1.1 (uC v.1.2 as h g.params V),v.2))
noncomputable def Cv(x:Nm)(g:Fn)(as:af IE)(kw:af (Nm×IE))(V:Loc)(O:St):RS:=R.ax (kw.isEmpty&&decide (as.length<=g.params.length)) (aY V (dq r as [] V O) λ h O=>R.opt (oS as h.1) λ a=>zg r x as h.1 g a V (r.C g h.1 [] O))
noncomputable def Il(e:IE)(V:Loc)(O:St):RS:=aY V (r.E e V O) λ Y O=>.ok (.next,V,O)
noncomputable def rL(c:Nm)(x:ak Nm)(h:af IS)(y:RS):RS:=match y with
 |.exc e=>R.opt x λ x=>R.opt e.1.nh λ d=>R.ax (P.sub d.1 c&&(P.exc c).isSome&&r.top&&fT r x .none e.2.1) (match r.H h (put x e.1 e.2.1) e.2.2 with
  |.ok (.next,V,O)=>.ok (.next,V.filter (λ p=>!decide (p.1=x)),O)
  |_=>.stuck)
 |y=>y
noncomputable def kS(s:IS)(V:Loc)(O:St):RS:=match s with
 |.pass=>.ok (.next,V,O)
 |.brk=>.ok (.brk,V,O)
 |.cont=>.ok (.cont,V,O)
 |.expr e=>bo ((yq e).bind λ c=>aE (kq (lk c.1 V)) c) (λ c=>tw r c.1 c.2.1 c.2.2.1 c.2.2.2 V O) (Il r e V O)
 |.asg x e=>bo ((mJ e).bind λ c=>(P.fn c.1).map λ g=>(g,c.2)) (λ c=>Cv r x c.1 c.2.1 c.2.2 V O) (KZ r x e V O)
 |.lT m e=>R.ax (!r.quiet) (aY V (r.E e V O) λ v O=>R.ax (decide (2<=m.length)) (R.opt (jz r m v V) λ V=>.ok (.next,V,O)))
 |.ya x y e=>aY V (r.E e V O) λ v O=>R.opt (v.dH.bind two) λ u=>R.ax (az u.1&&az u.2&&fT r x u.1 V&&fT r y u.2 V) (.ok (.next,put x u.1 (put y u.2 V),O))
 |.rn o f e=>aY V (r.E e V O) λ v O=>R.ax (az v||fresh e) (aY V (r.E o V O) λ w O=>R.ax (w.isObj&&P.cZ .bL f) (th f v O V))
 |.BC d i e=>R.opt d.wm λ b=>aY V (r.E e V O) λ v O=>R.ax (az v) (aY V (r.E b.1 V O) λ w O=>R.ax (w.isObj&&(cG P .obj b.2 O).any (λ u=>u.hM.isSome)&&pureE i) (aY V (r.E i V O) λ k O=>EI b.2 k O (λ k l=>aE (decide (l.length<900)) (rh k v l)) V))
 |.aug x op e=>R.opt (lk x V) λ a=>aY V (r.E e V O) λ b O=>R.opt (lQ op a b) λ v=>R.ax (!(az a)||fT r x v V) (.ok (.next,put x v V,O))
 |.tZ o f op e=>aY V (r.E o V O) λ w O=>R.ax w.isObj (R.opt ((cG P .obj f O).bind IV.cn) λ a=>aY V (r.E e V O) λ b O=>R.opt ((lQ op (.int a) b).bind IV.cn) λ v=>th f (.int v) O V)
 |.ret e=>bo e (λ e=>aY V (Rp r e V O) λ v O=>.ok (.ret v,V,O)) (.ok (.ret .none,V,O))
 |.nD as=>R.opt P.sup λ f=>R.ax (!r.quiet&&(lk .bq V).any IV.isObj) (aY V (dq r as [] V O) λ j O=>aY V (oq r f (.obj::j.1) [] O) λ Y O=>.ok (.next,V,O))
 |.raise e=>R.ax (!r.quiet) (R.opt (mJ e) λ c=>R.opt (P.exc c.1) λ d=>aY V (dq r c.2.1 c.2.2 V O) λ j O=>R.ax (j.1.all az&&j.2.isEmpty&&decide (j.1.length<=100)) (R.opt (dA d.1 d.2 j.1 j.2) λ p=>.exc (.ba c.1 p,V,O)))
 |.iff t a b=>aY V (r.T t V O) λ c O=>bif c then r.B a V O else r.B b V O
 |.iE t b=>aY V (r.T t V O) λ c O=>bif c then(r.B b V O).loop λ V O=>r.S (.iE t b) V O else .ok (.next,V,O)
 |.jr m n b=>R.ax (!r.quiet&&(!wA n||decide (2<=m.length))) (aY V (RA r n (jL b) V O) λ q O=>r.F m q b V O)
 |.del d i=>R.opt d.wm λ b=>aY V (r.E b.1 V O) λ w O=>R.ax (w.isObj&&(cG P .obj b.2 O).any (λ u=>u.hM.isSome)&&pureE i) (aY V (r.E i V O) λ k O=>EI b.2 k O (λ k l=>aE ((iJ k l).isSome&&decide (l.length<900)) (sj k l)) V)
 |.ny b c x h=>rL P r c x h (r.B b V O)
 |.bad=>.stuck
noncomputable def jv(h:af IS->Loc->St->RS):bh:=⟨r.prm,r.dep,r.C,r.top,kU P r,stepT r,kS P r,CF r,Te r,r.fuel+1,r.quiet,h⟩
end
noncomputable def yg:su:=λ Y Y Y Y=>.stuck
noncomputable def jQ:af IS->Loc->St->RS:=λ Y Y Y=>.stuck
noncomputable def Ed(prm:af Nm)(d:ah)(C:su)(top q:al):bh:=⟨prm,d,C,top,λ Y Y Y=>.stuck,λ Y Y Y=>.stuck,λ Y Y Y=>.stuck,jQ,λ Y Y Y Y Y=>.stuck,0,q,jQ⟩
noncomputable def iB(P:bW)(prm:af Nm)(d:ah)(top:al):ah->bh
 |0=>Ed prm d yg top ae
 |n+1=>jv P (iB P prm d top n) jQ
noncomputable def pE(P:bW)(prm:af Nm)(d:ah)(C:su)(top:al):ah->bh
 |0=>Ed prm d C top ai
 |n+1=>jv P (pE P prm d C top n) (iB P prm d top (n+1)).B
noncomputable def iS(P:bW)(N:ah):ah->su
 |0=>yg
 |d+1=>λ f=>tP (pE P f.params d (iS P N d) ai N) f
noncomputable def UI(P:bW)(N d:ah):su:=λ f=>tP (pE P f.params d (iS P N d) ae N) f
open PySem PySem.Calls PyProof.Rows PySem.W
noncomputable abbrev cQ(h:af ao)(n:ah):cP:={cls:=.type "list",data:=.seq h.toArray n}
noncomputable abbrev vH(h:af ao)(n:ah):cP:={cls:=.type "tuple",data:=.seq h.toArray n}
noncomputable abbrev pw:mf:=PySem.Challenge.pw_rf0004_04
noncomputable def lD(i:ah):gd:=pw.main.body.getD i BP
noncomputable def W1:gd->af gd|.ClassDef _ _ _ b _ _ _ _ _ _ _=>b|_=>[]
noncomputable def cb(i j:ah):gd:=(W1 (lD i)).getD j BP
noncomputable def uD:gd->aN|.FunctionDef n _ _ _ _ _ _ _ _ _=>n|_=>BP
noncomputable def lz:gd->Arguments|.FunctionDef _ a _ _ _ _ _ _ _ _=>a|_=>BP
noncomputable def rm:gd->af gd|.FunctionDef _ _ b _ _ _ _ _ _ _=>b|_=>[]
noncomputable def iC:gd->uG|.FunctionDef _ _ _ _ _ _ sc _ _ _=>sc|_=>BP
noncomputable def qn(c n:aN):aN:=⟨c.cps++n.cps⟩
noncomputable def Jg:aN:="/claim/cut.py"
structure FE where
 a:ah
 s:gd
 c:aN
 t:ah
 line:ah
 L9:ah
 x:ah
 pm:ao
 df:ao
 cl:af (aN×aA)
 ct:ao
noncomputable def FE.obj(e:FE):cP:={cls:=.type "function",data:=.func (fnX (uD e.s) (qn e.c (uD e.s)) (lz e.s) (rm e.s) (iC e.s) e.cl e.df .none .none e.pm none (.ref (e.a-1)) e.ct)}
noncomputable def FE.code(e:FE):cP:={cls:=.type "code",data:=.fields #[.str (uD e.s) e.t,.str (qn e.c (uD e.s)) (e.t+1),.str Jg (e.t+2),.int e.line 0,.int e.L9 0,.int 0 0,.int 0 0,.int 3 0,.ref (e.a-6),.bool ae,.int 181 0,.ref (e.a-5),.none,.ref (e.a-4),.ref (e.a-3),.ref (e.a-2),.int e.x 0,.int e.line 0,.str Jg (e.x+1)]}
noncomputable def dO(P:uH)(c:ao)(n:ah)(l:af (aN×ah×ao)):cP:={cls:=c,data:=.dict (l.map λ e=>⟨sG P e.1,.str e.1 e.2.1,e.2.2⟩).toArray n}
noncomputable def cO(a:ah)(n:aN)(t h:ah)(s0:ak ao)(x:ao)(bs mro sub:af ao):aA×cP:=
 (a,{cls:=.type "type",data:=.cls {name:=n,bases:=bs,mro:=mro,ns:=a-1,qualname:=n,subclasses:=sub},slots:=#[s0,none,aa (.str n t),aa (.str n h),aa x,aa (.bool ae)]})
noncomputable def lh(a:ah)(n:aN)(t h r:ah):aA×cP:=cO a n t h (aa (.ref r)) (.builtin "object.__new__") [.ref 213] [.ref a,.ref 213,.type "object"] []
noncomputable def Bj:ao:=(.str ("yaml.error":sE) 194)
noncomputable def sg:ao:=(.str ("yaml.reader":sE) 321)
noncomputable def hV:ao:=(.str ("yaml.tokens":sE) 464)
noncomputable def cI:ao:=(.str ("yaml.scanner":sE) 941)
noncomputable def vS:ao:=(.str ("law_rf0004_04":sE) 1754)
mutual
noncomputable def Bo:IV->ah->ah->ao×dc×ah×ah
 |.bool b,a,t=>(.bool b,[],a,t)
 |.int i,a,t=>(.int i t,[],a,t+1)
 |.str s,a,t=>(.str ⟨s.toArray⟩ t,[],a,t+1)
 |.tup l,a,t=>let r:=Af l a t;(.ref r.2.2.1,r.2.1++[(r.2.2.1,vH r.1 0)],r.2.2.1+1,r.2.2.2)
 |.bN l,a,t=>let r:=Af l a t;(.ref r.2.2.1,r.2.1++[(r.2.2.1,cQ r.1 0)],r.2.2.1+1,r.2.2.2)
 |_,a,t=>(.none,[],a,t)
noncomputable def Af:af IV->ah->ah->af ao×dc×ah×ah
 |[],a,t=>([],[],a,t)
 |v::l,a,t=>let r:=Bo v a t;let k:=Af l r.2.2.1 r.2.2.2;(r.1::k.1,r.2.1++k.2.1,k.2.2.1,k.2.2.2)
end
mutual
noncomputable def Ii:IV->al
 |.none|.bool _|.int _|.str _=>ae
 |.tup l|.bN l=>KJ l
 |_=>ai
noncomputable def KJ:af IV->al
 |[]=>ae
 |v::l=>Ii v&&KJ l
end
noncomputable def iT(k v:IV)(a b:ag):IV:=.tup [k,v,.int a,.int b]
noncomputable def sS(s:uI):IV:=.str (xi s).cps.toList
noncomputable def qx(s:uI)(l:af IV):IV:=.tup [sS s,.bN l]
noncomputable def wB:af IV:=[qx "w" [iT (sS "<scalar>") (sS "w") 0 1],qx "'q'" [iT (sS "<scalar>") (sS "q") 0 3],qx "\"d\"" [iT (sS "<scalar>") (sS "d") 0 3],qx "*z" [iT (sS "<alias>") (sS "z") 0 2],qx "&x" [iT (sS "<anchor>") (sS "x") 0 2],
 qx "&x w" [iT (sS "<anchor>") (sS "x") 0 2,iT (sS "<scalar>") (sS "w") 3 4],qx "!t 'q'" [iT (sS "<tag>") (.tup [sS "!",sS "t"]) 0 2,iT (sS "<scalar>") (sS "q") 3 6],qx "!t &x" [iT (sS "<tag>") (.tup [sS "!",sS "t"]) 0 2,iT (sS "<anchor>") (sS "x") 3 5],
 qx "[d]" [iT (sS "[") .none 0 1,iT (sS "<scalar>") (sS "d") 1 2,iT (sS "]") .none 2 3],qx "{e: f}" [iT (sS "{") .none 0 1,iT (sS "?") .none 1 1,iT (sS "<scalar>") (sS "e") 1 2,iT (sS ":") .none 2 3,iT (sS "<scalar>") (sS "f") 4 5,iT (sS "}") .none 5 6]]
noncomputable def EP:dc:=(Bo (.bN wB) 1072 1774).2.1
noncomputable def en(k:uI)(t:ah)(v:ao):aN×ah×ao:=(xi k,t,v)
noncomputable abbrev fV:=af (aN×ah×ao)
noncomputable def kC(s:uI)(n:ah):ao:=.str (xi s) n
noncomputable def gP(n:ah)(v:ao):aN×ah×ao:=en "__module__" n v
noncomputable def gG(n i t:ah):aN×ah×ao:=en "__firstlineno__" n (.int i t)
noncomputable def gK(n a:ah):aN×ah×ao:=en "__static_attributes__" n (.ref a)
noncomputable def aK(k:uI)(n a:ah):aN×ah×ao:=en k n (.ref a)
noncomputable def gp(n:ah):aN×ah×ao:=en "__doc__" n .none
noncomputable def HI(k:uI)(n:ah):aN×ah×ao:=en k n .none
noncomputable def d52:fV:=[gP 203 Bj,gG 207 5 206,aK "__init__" 220 35,aK "get_snippet" 236 43,aK "__str__" 245 50,gK 252 51,aK "__dict__" 254 54,aK "__weakref__" 256 55,gp 257]
noncomputable def d66:fV:=[gP 267 Bj,gG 271 43 270,gK 272 65,aK "__weakref__" 274 68,gp 275]
noncomputable def d94:fV:=[gP 287 Bj,gG 291 45 290,aK "__init__" 303 85,aK "__str__" 311 92,gK 317 93,gp 318]
noncomputable def ak9:fV:=[gP 377 sg,gG 381 84 380,aK "__init__" 389 144,aK "peek" 398 152,aK "prefix" 407 160,aK "forward" 417 168,aK "get_mark" 424 175,aK "check_printable" 435 182,aK "update" 443 189,gK 456 190,aK "__dict__" 458 193,aK "__weakref__" 460 194,gp 461]
noncomputable def ac7:fV:=[gP 473 hV,gG 477 146 476,aK "__init__" 486 210,gK 489 211,aK "__dict__" 491 214,aK "__weakref__" 493 215,gp 494]
noncomputable def ag9:fV:=[gP 573 hV,gG 577 163 576,en "id" 579 (kC "<stream start>" 578),aK "__init__" 589 275,gK 593 276,gp 594]
noncomputable def bc1:fV:=[gP 604 hV,gG 608 170 607,en "id" 610 (kC "<stream end>" 609),gK 611 288,gp 612]
noncomputable def af3:fV:=[gP 622 hV,gG 626 172 625,en "id" 628 (kC "<block sequence start>" 627),gK 629 300,gp 630]
noncomputable def ZB:fV:=[gP 640 hV,gG 644 174 643,en "id" 646 (kC "<block mapping start>" 645),gK 647 312,gp 648]
noncomputable def bn0:fV:=[gP 658 hV,gG 662 176 661,en "id" 664 (kC "<block end>" 663),gK 665 324,gp 666]
noncomputable def Q3:fV:=[gP 676 hV,gG 680 178 679,en "id" 682 (kC "[" 681),gK 683 336,gp 684]
noncomputable def by6:fV:=[gP 694 hV,gG 698 180 697,en "id" 700 (kC "{" 699),gK 701 348,gp 702]
noncomputable def Z8:fV:=[gP 712 hV,gG 716 182 715,en "id" 718 (kC "]" 717),gK 719 360,gp 720]
noncomputable def B1:fV:=[gP 730 hV,gG 734 184 733,en "id" 736 (kC "}" 735),gK 737 372,gp 738]
noncomputable def bb5:fV:=[gP 748 hV,gG 752 186 751,en "id" 754 (kC "?" 753),gK 755 384,gp 756]
noncomputable def ap6:fV:=[gP 766 hV,gG 770 188 769,en "id" 772 (kC ":" 771),gK 773 396,gp 774]
noncomputable def aw0:fV:=[gP 784 hV,gG 788 190 787,en "id" 790 (kC "-" 789),gK 791 408,gp 792]
noncomputable def bd0:fV:=[gP 820 hV,gG 824 194 823,en "id" 826 (kC "<alias>" 825),aK "__init__" 836 438,gK 840 439,gp 841]
noncomputable def ZG:fV:=[gP 851 hV,gG 855 201 854,en "id" 857 (kC "<anchor>" 856),aK "__init__" 867 457,gK 871 458,gp 872]
noncomputable def az1:fV:=[gP 882 hV,gG 886 208 885,en "id" 888 (kC "<tag>" 887),aK "__init__" 898 476,gK 902 477,gp 903]
noncomputable def Zi:fV:=[gP 913 hV,gG 917 215 916,en "id" 919 (kC "<scalar>" 918),aK "__init__" 931 496,gK 937 497,gp 938]
noncomputable def aw9:fV:=[gP 950 cI,gG 954 225 953,gK 955 509,gp 956]
noncomputable def ab0:fV:=[gP 966 cI,gG 970 227 969,aK "__init__" 983 527,gK 990 528,aK "__dict__" 992 531,aK "__weakref__" 994 532,gp 995]
noncomputable def D7:fV:=[gP 1005 cI,gG 1009 236 1008,aK "__init__" 1018 550,aK "check_token" 1026 559,aK "peek_token" 1033 566,aK "get_token" 1040 573,aK "need_more_tokens" 1047 580,aK "fetch_more_tokens" 1055 587,aK "next_possible_simple_key" 1065 594,aK "stale_possible_simple_keys" 1074 601,aK "save_possible_simple_key" 1084 608,aK "remove_possible_simple_key" 1092 615,aK "unwind_indent" 1101 622,aK "add_indent" 1109 629,aK "fetch_stream_start" 1117 636,aK "fetch_stream_end" 1125 643,aK "fetch_directive" 1132 650,aK "fetch_document_start" 1139 657,aK "fetch_document_end" 1146 664,aK "fetch_document_indicator" 1156 671,aK "fetch_flow_sequence_start" 1163 678,aK "fetch_flow_mapping_start" 1170 685,aK "fetch_flow_collection_start" 1180 692,aK "fetch_flow_sequence_end" 1187 699,aK "fetch_flow_mapping_end" 1194 706,aK "fetch_flow_collection_end" 1204 713,aK "fetch_flow_entry" 1213 720,aK "fetch_block_entry" 1223 727,aK "fetch_key" 1233 734,aK "fetch_value" 1244 741,aK "fetch_alias" 1251 748,aK "fetch_anchor" 1258 755,aK "fetch_tag" 1265 762,aK "fetch_literal" 1272 769,aK "fetch_folded" 1279 776,aK "fetch_block_scalar" 1287 783,aK "fetch_single" 1294 790,aK "fetch_double" 1301 797,aK "fetch_flow_scalar" 1309 804,aK "fetch_plain" 1316 811,aK "check_directive" 1323 818,aK "check_document_start" 1330 825,aK "check_document_end" 1337 832,aK "check_block_entry" 1344 839,aK "check_key" 1351 846,aK "check_value" 1358 853,aK "check_plain" 1366 860,aK "scan_to_next_token" 1374 867,aK "scan_directive" 1385 874,aK "scan_directive_name" 1396 881,aK "scan_yaml_directive_value" 1406 888,aK "scan_yaml_directive_number" 1417 895,aK "scan_tag_directive_value" 1427 902,aK "scan_tag_directive_handle" 1437 909,aK "scan_tag_directive_prefix" 1447 916,aK "scan_directive_ignored_line" 1456 923,aK "scan_anchor" 1471 930,aK "scan_tag" 1486 937,aK "scan_block_scalar" 1507 944,aK "scan_block_scalar_indicators" 1518 951,aK "scan_block_scalar_ignored_line" 1527 958,aK "scan_block_scalar_indentation" 1537 965,aK "scan_block_scalar_breaks" 1547 972,aK "scan_flow_scalar" 1560 979,aK "ESCAPE_REPLACEMENTS" 1615 980,aK "ESCAPE_CODES" 1625 982,aK "scan_flow_scalar_non_spaces" 1639 989,aK "scan_flow_scalar_spaces" 1654 996,aK "scan_flow_scalar_breaks" 1665 1003,aK "scan_plain" 1679 1010,aK "scan_plain_spaces" 1695 1017,aK "scan_tag_handle" 1707 1024,aK "scan_tag_uri" 1719 1031,aK "scan_uri_escapes" 1732 1038,aK "scan_line_break" 1740 1045,gK 1749 1046,gp 1751]
noncomputable def d3:fV:=[en "__name__" 165 vS,gp 166,HI "__package__" 167,en "__loader__" 168 (.builtin "__main__.__loader__#opaque"),HI "__spec__" 169,aK "__annotations__" 170 6,aK "__builtins__" 171 4,en "__file__" 173 (kC "/claim/cut.py" 172),HI "__cached__" 174,aK "_wall" 193 21,aK "Mark" 259 53,aK "YAMLError" 279 67,aK "MarkedYAMLError" 320 95,aK "ReaderError" 362 121,aK "_is_printable" 369 130,aK "Reader" 463 192,aK "Token" 496 213,aK "DirectiveToken" 529 234,aK "DocumentStartToken" 547 246,aK "DocumentEndToken" 565 258,aK "StreamStartToken" 596 278,aK "StreamEndToken" 614 290,aK "BlockSequenceStartToken" 632 302,aK "BlockMappingStartToken" 650 314,aK "BlockEndToken" 668 326,aK "FlowSequenceStartToken" 686 338,aK "FlowMappingStartToken" 704 350,aK "FlowSequenceEndToken" 722 362,aK "FlowMappingEndToken" 740 374,aK "KeyToken" 758 386,aK "ValueToken" 776 398,aK "BlockEntryToken" 794 410,aK "FlowEntryToken" 812 422,aK "AliasToken" 843 441,aK "AnchorToken" 874 460,aK "TagToken" 905 479,aK "ScalarToken" 940 499,aK "ScannerError" 958 511,aK "SimpleKey" 997 530,aK "Scanner" 1753 1048,aK "_law_COLUMNS" 1761 1057,aK "_law_OPENERS" 1767 1064,aK "_law_FORMS" 1773 1071,aK "_law_NODES" 1860 1114,aK "_law_parts" 1874 1121,aK "_law_row" 1895 1128,aK "law" 1921 1135]
noncomputable def d2:fV:=[en "type.__subclasses__.Exception.0" 276 (.int 67 0),en "type.__subclasses__.Exception.n" 277 (.int 1 0)]
noncomputable def SR:FE:=⟨35,(cb 2 0),"Mark.",208,7,7,218,Bj,.none,[],.none⟩
noncomputable def sk:FE:=⟨85,(cb 4 0),"MarkedYAMLError.",292,47,6,301,Bj,(.ref 78),[],.none⟩
noncomputable def ou:FE:=⟨210,(cb 10 0),"Token.",478,148,3,484,hV,.none,[],.none⟩
noncomputable def OK:FE:=⟨275,(cb 14 1),"StreamStartToken.",580,166,4,587,hV,(.ref 268),[],.none⟩
noncomputable def Pg:FE:=⟨438,(cb 27 1),"AliasToken.",827,197,4,834,hV,.none,[],.none⟩
noncomputable def Sb:FE:=⟨457,(cb 28 1),"AnchorToken.",858,204,4,865,hV,.none,[],.none⟩
noncomputable def OJ:FE:=⟨476,(cb 29 1),"TagToken.",889,211,4,896,hV,.none,[],.none⟩
noncomputable def NG:FE:=⟨496,(cb 30 1),"ScalarToken.",920,218,6,929,hV,(.ref 489),[],.none⟩
noncomputable def Si:FE:=⟨527,(cb 33 0),"SimpleKey.",971,229,7,981,cI,.none,[],.none⟩
noncomputable def vR:FE:=⟨144,(cb 8 0),"Reader.",382,86,2,387,sg,.none,[],.none⟩
noncomputable def wQ:FE:=⟨550,(cb 34 0),"Scanner.",1010,238,2,1016,cI,.none,[("__class__",538)],(.ref 543)⟩
noncomputable def ry:af (Nm×FE):=(.lL,wQ)::[
 (.km,⟨573,(cb 34 3),"Scanner.",1034,256,1,1038,cI,.none,[],.none⟩),
 (.eB,⟨580,(cb 34 4),"Scanner.",1041,263,1,1045,cI,.none,[],.none⟩),
 (.jP,⟨587,(cb 34 5),"Scanner.",1048,272,1,1053,cI,.none,[],.none⟩),
 (.uf,⟨594,(cb 34 6),"Scanner.",1056,319,1,1063,cI,.none,[],.none⟩),
 (.iP,⟨601,(cb 34 7),"Scanner.",1066,327,1,1072,cI,.none,[],.none⟩),
 (.an3,⟨608,(cb 34 8),"Scanner.",1075,335,1,1082,cI,.none,[],.none⟩),
 (.an2,⟨615,(cb 34 9),"Scanner.",1085,343,1,1090,cI,.none,[],.none⟩),
 (.qu,⟨622,(cb 34 10),"Scanner.",1093,350,2,1099,cI,.none,[],.none⟩),
 (.ag4,⟨629,(cb 34 11),"Scanner.",1102,358,2,1107,cI,.none,[],.none⟩),
 (.vp,⟨636,(cb 34 12),"Scanner.",1110,365,1,1115,cI,.none,[],.none⟩),
 (.qF,⟨643,(cb 34 13),"Scanner.",1118,369,1,1123,cI,.none,[],.none⟩),
 (.ap4,⟨678,(cb 34 18),"Scanner.",1157,399,1,1161,cI,.none,[],.none⟩),
 (.G0,⟨685,(cb 34 19),"Scanner.",1164,402,1,1168,cI,.none,[],.none⟩),
 (.az4,⟨692,(cb 34 20),"Scanner.",1171,405,2,1178,cI,.none,[],.none⟩),
 (.XJ,⟨699,(cb 34 21),"Scanner.",1181,414,1,1185,cI,.none,[],.none⟩),
 (.ZU,⟨706,(cb 34 22),"Scanner.",1188,417,1,1192,cI,.none,[],.none⟩),
 (.K5,⟨713,(cb 34 23),"Scanner.",1195,420,2,1202,cI,.none,[],.none⟩),
 (.P2,⟨727,(cb 34 25),"Scanner.",1214,437,1,1221,cI,.none,[],.none⟩),
 (.Zl,⟨734,(cb 34 26),"Scanner.",1224,453,1,1231,cI,.none,[],.none⟩),
 (.ah8,⟨741,(cb 34 27),"Scanner.",1234,467,1,1242,cI,.none,[],.none⟩),
 (.al3,⟨748,(cb 34 28),"Scanner.",1245,491,1,1249,cI,.none,[],.none⟩),
 (.ae0,⟨755,(cb 34 29),"Scanner.",1252,496,1,1256,cI,.none,[],.none⟩),
 (.bi1,⟨762,(cb 34 30),"Scanner.",1259,501,1,1263,cI,.none,[],.none⟩),
 (.H3,⟨790,(cb 34 34),"Scanner.",1288,517,1,1292,cI,.none,[],.none⟩),
 (.I5,⟨797,(cb 34 35),"Scanner.",1295,520,1,1299,cI,.none,[],.none⟩),
 (.bc8,⟨804,(cb 34 36),"Scanner.",1302,523,2,1307,cI,.none,[],.none⟩),
 (.bg3,⟨811,(cb 34 37),"Scanner.",1310,528,1,1314,cI,.none,[],.none⟩),
 (.bj1,⟨825,(cb 34 39),"Scanner.",1324,537,1,1328,cI,.none,[],.none⟩),
 (.as2,⟨839,(cb 34 41),"Scanner.",1338,547,1,1342,cI,.none,[],.none⟩),
 (.R4,⟨846,(cb 34 42),"Scanner.",1345,550,1,1349,cI,.none,[],.none⟩),
 (.be3,⟨853,(cb 34 43),"Scanner.",1352,556,1,1356,cI,.none,[],.none⟩),
 (.bu4,⟨860,(cb 34 44),"Scanner.",1359,562,1,1364,cI,.none,[],.none⟩),
 (.iv,⟨867,(cb 34 45),"Scanner.",1367,566,1,1372,cI,.none,[],.none⟩),
 (.bg2,⟨930,(cb 34 54),"Scanner.",1457,672,2,1469,cI,.none,[],.none⟩),
 (.bv8,⟨937,(cb 34 55),"Scanner.",1472,695,1,1484,cI,.none,[],.none⟩),
 (.ba6,⟨979,(cb 34 61),"Scanner.",1548,846,2,1558,cI,.none,[],.none⟩),
 (.br3,⟨989,(cb 34 64),"Scanner.",1626,865,3,1637,cI,.none,[],.none⟩),
 (.F6,⟨1010,(cb 34 67),"Scanner.",1666,939,1,1677,cI,.none,[],.none⟩),
 (.be5,⟨1017,(cb 34 68),"Scanner.",1680,966,3,1693,cI,.none,[],.none⟩),
 (.bt1,⟨1031,(cb 34 70),"Scanner.",1708,1016,3,1717,cI,.none,[],.none⟩),
 (.Za,⟨1045,(cb 34 72),"Scanner.",1733,1053,1,1738,cI,.none,[],.none⟩),
 (.sd,⟨152,(cb 8 1),"Reader.",391,104,2,396,sg,(.ref 145),[],.none⟩),
 (.Ae,⟨160,(cb 8 2),"Reader.",400,111,2,405,sg,(.ref 153),[],.none⟩),
 (.rD,⟨168,(cb 8 3),"Reader.",409,116,2,415,sg,(.ref 161),[],.none⟩),
 (.Dl,⟨175,(cb 8 4),"Reader.",418,130,1,422,sg,.none,[],.none⟩),
 (.yp,⟨182,(cb 8 5),"Reader.",425,136,2,433,sg,.none,[],.none⟩),
 (.uh,⟨189,(cb 8 6),"Reader.",436,142,2,441,sg,.none,[],.none⟩)]
noncomputable def tI:af (Nm×FE):=[
 (.yD,⟨130,(lD 7),"",363,82,1,367,sg,.none,[],.none⟩),
 (.vI,⟨1057,(lD 36),"",1756,1066,0,1759,vS,.none,[],.none⟩),
 (.vN,⟨1064,(lD 37),"",1762,1068,0,1765,vS,.none,[],.none⟩),
 (.wK,⟨1071,(lD 38),"",1768,1070,0,1771,vS,.none,[],.none⟩),
 (.yx,⟨1121,(lD 40),"",1861,1073,2,1872,vS,.none,[],.none⟩),
 (.vf,⟨1128,(lD 41),"",1875,1084,4,1893,vS,.none,[],.none⟩),
 (.Dx,⟨1135,(lD 42),"",1896,1107,1,1919,vS,.none,[],.none⟩)]
noncomputable def bl7:af FE:=[vR,SR,sk,ou,OK,Pg,Sb,OJ,NG,Si]
noncomputable def jX:af (Nm×ah×FE):=[(.IA,53,SR),(.HC,278,OK),(.Lb,290,ou),(.OP,302,ou),(.Po,314,ou),(.Kb,326,ou),(.Nv,338,ou),(.PE,350,ou),(.Td,362,ou),(.Of,374,ou),(.TR,386,ou),(.TT,398,ou),(.PX,410,ou),(.vk,441,Pg),(.wt,460,Sb),(.vD,479,OJ),(.wq,499,NG),(.Vo,530,Si)]
noncomputable def jM:ah:=1048
noncomputable def nA:ah:=511
noncomputable def rS:af (Nm×IV):=[(.HC,sS "<stream start>"),(.Lb,sS "<stream end>"),(.OP,sS "<block sequence start>"),(.Po,sS "<block mapping start>"),(.Kb,sS "<block end>"),(.Nv,sS "["),(.PE,sS "{"),(.Td,sS "]"),(.Of,sS "}"),(.TR,sS "?"),(.TT,sS ":"),(.PX,sS "-"),(.vk,sS "<alias>"),(.wt,sS "<anchor>"),(.vD,sS "<tag>"),(.wq,sS "<scalar>")]
noncomputable def FE.objs(e:FE):dc:=[(e.a-1,e.code),(e.a,e.obj)]
noncomputable def Kob(P:uH):af dc:=[
 [(52,dO P (.type "dict") 4 d52)],
 [cO 53 "Mark" 196 204 none (.builtin "object.__new__") [(.type "object")] [(.ref 53),(.type "object")] []],
 [(66,dO P (.type "dict") 3 d66)],
 [cO 67 "YAMLError" 260 268 (aa (.ref 58)) (.builtin "Exception.__new__") [(.type "Exception")] [(.ref 67),(.type "Exception"),(.type "BaseException"),(.type "object")] [(.ref 95),(.ref 121)]],
 [(94,dO P (.type "dict") 2 d94)],
 [cO 95 "MarkedYAMLError" 280 288 (aa (.ref 71)) (.builtin "Exception.__new__") [(.ref 67)] [(.ref 95),(.ref 67),(.type "Exception"),(.type "BaseException"),(.type "object")] [(.ref 511)]],
 [(191,dO P (.type "dict") 4 ak9)],
 [cO 192 "Reader" 370 378 (aa (.ref 131)) (.builtin "object.__new__") [(.type "object")] [(.ref 192),(.type "object")] [(.ref 1048)]],
 [(212,dO P (.type "dict") 4 ac7)],
 [cO 213 "Token" 466 474 (aa (.ref 197)) (.builtin "object.__new__") [(.type "object")] [(.ref 213),(.type "object")] [(.ref 234),(.ref 246),(.ref 258),(.ref 278),(.ref 290),(.ref 302),(.ref 314),(.ref 326),(.ref 338),(.ref 350),(.ref 362),(.ref 374),(.ref 386),(.ref 398),(.ref 410),(.ref 422),(.ref 441),(.ref 460),(.ref 479),(.ref 499)]],
 [(277,dO P (.type "dict") 2 ag9)],
 [lh 278 "StreamStartToken" 566 574 261],
 [(289,dO P (.type "dict") 2 bc1)],
 [lh 290 "StreamEndToken" 597 605 281],
 [(301,dO P (.type "dict") 2 af3)],
 [lh 302 "BlockSequenceStartToken" 615 623 293],
 [(313,dO P (.type "dict") 2 ZB)],
 [lh 314 "BlockMappingStartToken" 633 641 305],
 [(325,dO P (.type "dict") 2 bn0)],
 [lh 326 "BlockEndToken" 651 659 317],
 [(337,dO P (.type "dict") 2 Q3)],
 [lh 338 "FlowSequenceStartToken" 669 677 329],
 [(349,dO P (.type "dict") 2 by6)],
 [lh 350 "FlowMappingStartToken" 687 695 341],
 [(361,dO P (.type "dict") 2 Z8)],
 [lh 362 "FlowSequenceEndToken" 705 713 353],
 [(373,dO P (.type "dict") 2 B1)],
 [lh 374 "FlowMappingEndToken" 723 731 365],
 [(385,dO P (.type "dict") 2 bb5)],
 [lh 386 "KeyToken" 741 749 377],
 [(397,dO P (.type "dict") 2 ap6)],
 [lh 398 "ValueToken" 759 767 389],
 [(409,dO P (.type "dict") 2 aw0)],
 [lh 410 "BlockEntryToken" 777 785 401],
 [(440,dO P (.type "dict") 2 bd0)],
 [lh 441 "AliasToken" 813 821 425],
 [(459,dO P (.type "dict") 2 ZG)],
 [lh 460 "AnchorToken" 844 852 444],
 [(478,dO P (.type "dict") 2 az1)],
 [lh 479 "TagToken" 875 883 463],
 [(498,dO P (.type "dict") 2 Zi)],
 [lh 499 "ScalarToken" 906 914 482],
 [(510,dO P (.type "dict") 2 aw9)],
 [cO 511 "ScannerError" 943 951 (aa (.ref 502)) (.builtin "Exception.__new__") [(.ref 95)] [(.ref 511),(.ref 95),(.ref 67),(.type "Exception"),(.type "BaseException"),(.type "object")] []],
 [(529,dO P (.type "dict") 4 ab0)],
 [cO 530 "SimpleKey" 959 967 none (.builtin "object.__new__") [(.type "object")] [(.ref 530),(.type "object")] []],
 [(1047,dO P (.type "dict") 3 D7)],
 [cO 1048 "Scanner" 998 1006 (aa (.ref 535)) (.builtin "object.__new__") [(.ref 192)] [(.ref 1048),(.ref 192),(.type "object")] []],
 [(3,dO P (.type "dict") 47 d3),(2,dO P .none 2 d2)],
 [(78,{cls:=.type "tuple",data:=.seq #[.none,.none,.none,.none,.none] 0}),(145,{cls:=.type "tuple",data:=.seq #[(.int 0 390)] 0}),(153,{cls:=.type "tuple",data:=.seq #[(.int 1 399)] 0}),(161,{cls:=.type "tuple",data:=.seq #[(.int 1 408)] 0}),(268,{cls:=.type "tuple",data:=.seq #[.none,.none,.none] 0}),(489,{cls:=.type "tuple",data:=.seq #[.none] 0}),(538,{cls:=(.type "cell"),data:=.cell (aa (.ref 1048))})]]
noncomputable def Kf(P:uH):dc:=(Kob P).flatten++((ry.map λ e=>e.2.objs).flatten++((tI.map λ e=>e.2.objs).flatten++((bl7.map FE.objs).flatten++EP)))
noncomputable abbrev Hh:OpenLaw:=PySem.Challenge.rw_rf0004_04
theorem bq1:namesResolve PySem.Challenge.rw_rf0004_04.row.prog=ae:=(uJ PySem.W.Fast.te8377067652309620493 _).trans ∅
theorem W8:noRoadLSs {strict:=!(zr PySem.Challenge.rw_rf0004_04.row.prog.main.body).all cThrough.contains,foot:=none,bare:=cb1 (readsOut PySem.Challenge.rw_rf0004_04.row.prog PySem.Challenge.rw_rf0004_04.row.prog.main.body) ["vars","dir","locals"]} PySem.Challenge.rw_rf0004_04.row.prog.main.body=ae:=
 (uJ (uJ PySem.W.Fast.te8326940854005059898 _) _).trans ∅
theorem bs2:namesMeet PySem.Challenge.rw_rf0004_04.row.prog PySem.Challenge.rw_rf0004_04.row.prog.main.body (λ x n=>attrL n)=ae:=
 (uJ (uJ (uJ cb2 _) _) _).trans ∅
theorem bw6:namesMeet PySem.Challenge.rw_rf0004_04.prog PySem.Challenge.rw_rf0004_04.above (λ x n=>!PySem.Challenge.rw_rf0004_04.own.contains n)=ae:=
 (uJ (uJ (uJ cb2 _) _) _).trans ∅
theorem Zj:PySem.Challenge.rw_rf0004_04.wellSaid=ae:=by
 delta OpenLaw.wellSaid OpenRow.wellSaid OpenRow.partSaid looksOpen
 repeat' with_reducible refine look_both ?_ ?_
 all_goals first|with_reducible exact bq1|with_reducible exact W8|with_reducible exact bs2|with_reducible exact bw6|kernel_rfl
noncomputable def kF:mf:={pw with main:={pw.main with body:=[lD 42]}}
noncomputable def qC:af aN:=pw.boundNames.filter λ n=>n !="law"
noncomputable def vJ:DefRec:=⟨"law",lz (lD 42),rm (lD 42),iC (lD 42),⟨1107,0,1147,40⟩⟩
noncomputable def ba3(l:af cP):BT:=(l.foldl (λ(a:BT×ah) o=>(a.1.ins a.2 o,a.2+1)) (.nil,0)).1
noncomputable def CC:mh:={scope:=pw.main.scope,locals:=mainNs,globals:=mainNs,cells:=[],code:=.ref 13,frame:=aa 14}
noncomputable abbrev vu:Code:=.body (VL pw) CC
noncomputable abbrev tR:ey:=⟨0,0,0,0⟩
noncomputable abbrev Rm:ey:=⟨1107,0,1147,40⟩
noncomputable def yn:ak ao:=aa (.ref 6)
noncomputable def ak4(P:uH):af cP:=[boot_o_0 P,boot_o_1 P,boot_o_2 P,boot_o_3 P,boot_o_4 P,boot_o_5 P,boot_o_6 P,boot_o_7 P,boot_o_8 P,boot_o_9 P,boot_o_10 P,
 {cls:=Ly "tuple",data:=Data.seq #[]},
 {cls:=oC,data:=cb3 #[]},
 {cls:=Ly "code",data:=cb3 #[BQ (xi "<module>") 182,BQ (xi "<module>") 183,BQ (xi "/claim/cut.py") 184,xj 1 0,xj 0 0,xj 0 0,xj 0 0,xj 0 0,mi 11,Value.bool ai,xj 181 0,mi 12,oC,oC,oC,oC,xj 185 0,xj 1 0,BQ (xi "/claim/cut.py") 186]},
 {cls:=Ly "frame",slots:=#[aa (mi 13),aa (mi 3),aa (mi 3),none,aa (BQ (xi "__main__") 164),none,aa (mi 0)]}]
noncomputable def S0(P:uH)(os:BS):VM:=⟨ba3 (ak4 P),15,(sH P).life,#[],VN,187,os⟩
noncomputable def Hn:af aA:=(Kf {strHash:=λ Y=>0,shareClass:=λ Y=>0,mergeTok:=id,idOf:=λ Y=>0,idOfShared:=λ Y Y=>0,followText:=λ Y=>ai,idOfImm:=λ Y=>0}).map (·.1)
noncomputable def EE(w:fE)(x:uK×VM×Code×ey):=
 ((x.1,x.2.2),(VO (zr pw.main.body) (sH w.params) x.2.1.abs.heap&&VP pw x.2.1.abs.heap&&VQ x.2.1.abs&&VS (sH w.params) x.2.1.abs.heap),
  VT kF qC (zr pw.main.body) (λ Y=>ae) ae x.2.1.abs,(Kf w.params).all λ p=>cV p.1 x.2.1.n,(Kf w.params).map λ p=>(x.2.1.tree.get p.1).bind alive)
noncomputable def AV(w:fE):Prop:=∀os,(segRunT pQ pw w 11 yn 1 10400 (S0 w.params os) (piecesOf (VL pw) CC vu tR [Lz tR])).map (EE w)=aa ((.next,(vu,Rm)),ae,VU kF qC,ae,(Kf w.params).map λ p=>aa p.2)
theorem bz6(w:fE):AV (w.withFollow "special-get-raises" ai):=by
 unfold AV EE;intro os;rw[cb4,LB,cb5];kernel_rfl
theorem I7(w:fE):AV (w.withFollow "special-get-raises" ae):=by
 unfold AV EE;intro os;rw[cb4,LB,cb5];kernel_rfl
theorem EG{x}{b:al}{v w:x}{G:Prop}(h:aE b v=aa w)(k:b=ae->v=w->G):G:=by
 cases b with
 |true=>exact k rfl (aS h)
 |false=>cases h
theorem iZ{x}{b:al}{v w:x}(h:aE b v=aa w):b=ae:=by
 cases b with
 |true=>rfl
 |false=>cases h
theorem AO{x}{b:al}{v w:x}(h:aE b v=aa w):v=w:=by
 cases b with
 |true=>exact aS h
 |false=>cases h
theorem bR{x}{b:al}{v w:x}{G:Prop}(k:b=ae->v=w->G)(h:aE b v=aa w):G:=EG h k
set_option genInjectivity false
set_option genSizeOfSpec false
noncomputable abbrev Zf:=aA->ak cP
noncomputable abbrev CA:=Nm->ak aA
structure G where
 prog:mf
 w:fE
 K:dc
 cA:CA
 loose:af aN
 mean:VV->ak ao
 mg:aN->ak ao
 mb:aN->ak ao
noncomputable abbrev G.M(g:G):FD:=bG g.prog g.w
structure Sm(s s':aZ):Prop where
 os:s'.os=s.os
 gens:s'.gens=s.gens
theorem Sm.refl{s h d t}:Sm s {s with heap:=h,toks:=t,drawn:=d}:=⟨rfl,rfl⟩
theorem Sm.Vk{s}:Sm s s:=⟨rfl,rfl⟩
theorem Sm.trans{s h a}(x:Sm s h)(y:Sm h a):Sm s a:=⟨y.os.trans x.os,y.gens.trans x.gens⟩
noncomputable def CW{prog:mf}{w:fE}{K:Type}[DecidableEq K](x:KeyKind prog w K)(Z:Zf)(a:aA)(b:af (K×ao)):Prop:=
 ∃o h c,Z a=aa o/\o.ExactDict/\o.data=.dict h c/\KeysOf x h/\Pairs x h.toList b/\(b.map (·.1)).Nodup
inductive VR(g:G)(Z:Zf):IV->ao->Prop
 |none:VR g Z .none .none
 |bool (b:al):VR g Z (.bool b) (.bool b)
 |int (i:ag) (t:uM):VR g Z (.int i) (.int i t)
 |str (x:aN) (t:uM):VR g Z (.str x.cps.toList) (.str x t)
 |tup {l:af IV} {ws:af ao} {a:aA} {n:ah}:Z a=aa (vH ws n)->l.length=ws.length->(∀(i:ah) v u,l[i]? =aa v->ws[i]? =aa u->VR g Z v u)->VR g Z (.tup l) (.ref a)
 |bN {l:af IV} {ws:af ao} {a:aA} {n:ah}:Z a=aa (cQ ws n)->l.length=ws.length->(∀(i:ah) v u,l[i]? =aa v->ws[i]? =aa u->VR g Z v u)->VR g Z (.bN l) (.ref a)
 |ba {c:Nm} {C a dx:aA} {fs:af (Nm×IV)} {o od:cP} (gv:Nm->ao):g.cA c=aa C->Z a=aa o->o.cls=.ref C->BU o=ae->o.dict=aa dx->Z dx=aa od->
  (∀f v,lk f fs=aa v->LC (strOf f) od=aa (aa (gv f)))->(∀f v,lk f fs=aa v->VR g Z v (gv f))->(∀f,lk f fs=BV->LC (strOf f) od=aa BV)->VR g Z (.ba c fs) (.ref a)
 |obj {C a dx:aA}:g.cA .bL=aa C->Z a=aa (dD C dx)->VR g Z .obj (.ref a)
 |cls {c:Nm} {C:aA}:g.cA c=aa C->VR g Z (.cls c) (.ref C)
 |Fm:VR g Z (.cls .mW) (.type "str")
 |gr {l:af (af ah×IV)} {a:aA} {kvs:af (aN×ao)} (gv:af ah->ao):CW (strKind g.prog g.w) Z a kvs->(a==oE)=ai->
  (∀k v,jk k l=aa v->jD kvs ⟨k.toArray⟩=aa (gv k))->(∀k v,jk k l=aa v->VR g Z v (gv k))->(∀k,jk k l=BV->jD kvs ⟨k.toArray⟩=BV)->VR g Z (.gr l) (.ref a)
theorem VR.mono{g Z k}(zz:∀a o,Z a=aa o->k a=aa o){v w}(h:VR g Z v w):VR g k v w:=by
 induction h with
 |none=>exact .none
 |bool b=>exact .bool b
 |int i t=>exact .int i t
 |str x t=>exact .str x t
 |tup c d _ e=>exact .tup (zz _ _ c) d e
 |bN c d _ e=>exact .bN (zz _ _ c) d e
 |ba f c d l j m n p _ s e=>exact .ba f c (zz _ _ d) l j m (zz _ _ n) p e s
 |obj c d=>exact .obj c (zz _ _ d)
 |cls h=>exact .cls h
 |Fm=>exact .Fm
 |gr f c u d _ j e=>exact .gr f (kL (c) λ o y z q r=>(mU o y z (zz _ _ q) r)) u d e j
noncomputable def bD(g:G)(Z:Zf)(l:af IV)(h:af ao):Prop:=l.length=h.length/\∀(i:ah) v u,l[i]? =aa v->h[i]? =aa u->VR g Z v u
theorem bD.mono{g}{Z x:Zf}(zz:∀a o,Z a=aa o->x a=aa o){l c}(h:bD g Z l c):bD g x l c:=⟨h.1,λ i v u a b=>(h.2 i v u a b).mono zz⟩
theorem bD.nil{g}{Z:Zf}:bD g Z [] []:=⟨rfl,λ i v u a=>by simp at a⟩
theorem bD.cons{g Z v w l c}(h:VR g Z v w)(t:bD g Z l c):bD g Z (v::l) (w::c):=
 ⟨by simp[t.1],λ i x u a b=>by cases i with
  |zero=>simp at a b;subst a b;exact h
  |succ i=>simp at a b;exact t.2 i x u a b⟩
structure Step(Z Z':Zf)(W W':af aA)(h h':bu):Prop where
 zz:∀a o,Z a=aa o->Z' a=aa o
 zn:∀a o,Z' a=aa o->Z a=aa o\/h.objs.size<=a
 zh:∀a o,Z' a=aa o->h'.get? a=aa o
 keep:∀a o,a∉W->h.get? a=aa o->h'.get? a=aa o
 size:h.objs.size<=h'.objs.size
 wn:∀a∈W',a∈W\/h.objs.size<=a
 wz:∀a∈W',Z' a=none
 ww:∀a∈W',a<h'.objs.size
 big:oE<h'.objs.size
 pre:W<+:W'
structure Wd(Z:Zf)(W:af aA)(h:bu):Prop where
 zh:∀a o,Z a=aa o->h.get? a=aa o
 wz:∀a∈W,Z a=none
 ww:∀a∈W,a<h.objs.size
 big:oE<h.objs.size
theorem Step.wd{Z a W b h c}(x:Step Z a W b h c):Wd a b c:=⟨x.zh,x.wz,x.ww,x.big⟩
theorem Step.refl{Z W h}(d:Wd Z W h):Step Z Z W W h h:=⟨λ Y Y e=>e,λ Y Y e=>.inl e,d.zh,λ Y Y Y e=>e,ca _,λ Y e=>.inl e,d.wz,d.ww,d.big,BW⟩
theorem Step.trans{Z b Z'' W c W'' h d f}(x:Step Z b W c h d)(y:Step b Z'' c W'' d f):Step Z Z'' W W'' h f where
 zz a o e:=y.zz a o (x.zz a o e)
 zn a o e:=by
  obtain q|q:=y.zn a o e
  ·exact x.zn a o q
  ·exact .inr (aj x.size q)
 zh:=y.zh
 keep a o n e:=y.keep a o (λ q=>by
  obtain r|r:=x.wn a q
  ·exact n r
  ·exact absurd (cq e) (Nat.not_lt.mpr r)) (x.keep a o n e)
 size:=aj x.size y.size
 wn a e:=by
  obtain q|q:=y.wn a e
  ·exact x.wn a q
  ·exact .inr (aj x.size q)
 wz:=y.wz
 ww:=y.ww
 big:=y.big
 pre:=x.pre.trans y.pre
noncomputable def ji(Z:Zf)(x:aA)(o:cP):Zf:=λ a=>if a=x then aa o else Z a
theorem Step.grow{Z W h x}(d:Wd Z W h)(keep:∀a o,h.get? a=aa o->x.get? a=aa o)(size:h.objs.size<=x.objs.size):Step Z Z W W h x:=
 ⟨λ Y Y e=>e,λ Y Y e=>.inl e,λ a o e=>keep a o (d.zh a o e),λ a o Y e=>keep a o e,size,λ Y e=>.inl e,d.wz,λ a e=>jc (d.ww a e) size,jc d.big size,BW⟩
theorem Step.freeze{Z W h x o}(d:Wd Z W h)(c:h.get? x=aa o)(f:x∉W){jo:bu}(g:∀a o,Z a=aa o->jo.get? a=aa o)(i:jo.objs.size<=x):Wd (ji Z x o) W h/\(∀a b,Z a=aa b->ji Z x o a=aa b):=by
 refine⟨⟨λ a b e=>?_,λ a e=>?_,d.ww,d.big⟩,λ a b e=>?_⟩
 ·unfold ji at e;split at e
  ·subst_vars;cases e;exact c
  ·exact d.zh _ _ e
 ·unfold ji;split
  ·subst_vars;exact absurd e f
  ·exact d.wz a e
 ·unfold ji;split
  ·subst_vars;exact absurd (cq (g _ _ e)) (Nat.not_lt.mpr i)
  ·exact e
inductive FR(g:G)(Z:Zf)(h:bu):IV->ao->ak aA->Prop
 |val {v w}:az v=ae->VR g Z v w->FR g Z h v w none
 |lst {l ws a n}:h.get? a=aa (cQ ws n)->bD g Z l ws->FR g Z h (.lst l) (.ref a) (aa a)
 |eD {l:af (ag×IV)} {a kvs}:h.DictOf (uN g.prog g.w) a kvs->(a==oE)=ai->l.length=kvs.length->(∀(i:ah) k v k' u,l[i]? =aa (k,v)->kvs[i]? =aa (k',u)->k=k'/\VR g Z v u)->FR g Z h (.eD l) (.ref a) (aa a)
structure tS(g:G)(Z:Zf)(S:af aA)(L:aA)(T:af aA)(h:bu)(m:aN->ak ao)(V:Loc)(c:Nm->ak aA):Prop where
 has:∀x v,lk x V=aa v->∃w,m (strOf x)=aa w/\FR g Z h v w (c x)
 cell:∀x a,c x=aa a->a∈T
 qa:∀x a,c x=aa a->(lk x V).isSome=ae
 free:∀a∈T,a∉S/\Z a=none/\a≠L/\a<h.objs.size
 inj:∀x y a,c x=aa a->c y=aa a->x=y
structure jJ(g:G)(Z:Zf)(S:af aA)(h:bu)(fs:af (Nm×IV))(ι C d:aA)(es:af ke)(n:ah)(c:Nm->ak aA):Prop where
 cls:g.cA .bL=aa C
 inst:Z ι=aa (dD C d)
 uniq:∀j D,Z j=aa (dD C D)->j=ι
 dS:d∈S
 dict:h.get? d=aa (gW es n)
 len:es.length=fs.length
 has:∀f v,lk f fs=aa v->∃w,fN (strOf f) es=aa (aa w)/\FR g Z h v w (c f)
 pv:∀f,lk f fs=none->fN (strOf f) es=aa none
 cell:∀f a,c f=aa a->a∈S/\a≠d
 inj:∀x y a,c x=aa a->c y=aa a->x=y
 s0:S[0]? =aa d
 pos:∀f a l,lk f fs=aa (.lst l)->c f=aa a->S[tB f]? =aa a
 nl:nl fs<=2->S.length=1+Internal.nl fs
noncomputable def gF(g:G)(Z:Zf)(S:af aA)(h:bu):St->Prop
 |none=>S=[]/\∀C j D,g.cA .bL=aa C->Z j≠aa (dD C D)
 |some x=>∃a C d b n c,jJ g Z S h x a C d b n c
structure Act where
 nm:aN
 sc:uG
 L:aA
 fa:aA
 cd:ao
 cells:af (aN×aA)
 A:eP
 jo:bu
 outer:af mh
 d:ah
noncomputable abbrev Act.env(a:Act):mh:=envX a.nm a.sc a.L a.fa a.cd a.cells
structure yo(g:G)(r:bh)(a:Act):Prop where
 kind:a.sc.kind=.function
 K:g.K.In a.jo
 T:FF g.prog g.loose g.mg g.mb a.jo
 fr:a.A.frames=aa (a.env::a.outer)
 ff:a.jo.FunFrames {} a.outer
 dep:r.dep<=a.d
 hand:r.quiet=ai->a.A.handled=none
 top:r.top=ae->a.outer=[]
 deep:a.A.depth+2*a.d+8<LD
 units:a.A.units+64<BX
 Hx:a.A.units+64+16*a.d<BX
noncomputable def HZ(A:eP)(Z:Zf):Prop:=A.handled=none\/∃h o x,A.handled=aa (.ref h)/\Z h=aa o/\o.data=.fields x/\x[2]? =aa .none
theorem HZ.mono{A}{Z b:Zf}(x:HZ A Z)(zz:∀a o,Z a=aa o->b a=aa o):HZ A b:=x.imp id λ c=>eh c λ d o e h q r=>(ui d o e h (zz _ _ q) r)
structure wR(g:G)(a:Act)(m:aN->ak ao)(V:Loc)(O:St)(Z:Zf)(S T:af aA)(c:Nm->ak aA)(h:bu):Prop where
 F:Fr a.jo a.L h m
 wd:Wd Z S h
 loc:tS g Z S a.L T h m V c
 sc:gF g Z S h O
 hS:∀x∈S,a.jo.get? x=none
 hT:∀x∈T,a.jo.get? x=none
 LS:a.L∉S
 LZ:Z a.L=none
 kz:∀b o,g.K.lookup b=aa o->Z b=aa o
 hz:HZ a.A Z
theorem FR.map{g Z x h c}(zz:∀a o,Z a=aa o->x a=aa o){v w o}(kp:∀a,o=aa a->∀ob,h.get? a=aa ob->c.get? a=aa ob)(f:FR g Z h v w o):FR g x c v w o:=
 FR.casesOn f (λ n r Y=>.val n (r.mono zz)) (λ r s kp=>.lst (kp _ rfl _ r) (s.mono zz))
  (λ r ne a b kp=>.eD (r.at (kp _ rfl)) ne a λ i k v d u p q=>⟨(b i k v d u p q).1,(b i k v d u p q).2.mono zz⟩) kp
theorem FR.step{g Z b W d h c}(x:Step Z b W d h c){v w o}(i:∀a,o=aa a->a∉W)(f:FR g Z h v w o):FR g b c v w o:=f.map x.zz λ a e ob q=>x.keep _ _ (i a e) q
theorem Step.out{Z c W a h d}(x:Step Z c W a h d){b}(e:b<h.objs.size)(n:b∉W):b∉a:=λ q=>(x.wn b q).elim n λ r=>Nat.not_lt.mpr r e
theorem Step.um{Z a W c h d}(x:Step Z a W c h d){b}(e:b<h.objs.size)(n:Z b=none):a b=none:=
 Option.eq_none_iff_forall_ne_some.mpr λ o q=>(x.zn b o q).elim (λ r=>(by cases(n.symm.trans r))) λ r=>Nat.not_lt.mpr r e
theorem tS.step{g Z d S i L T h j m V c}(p:tS g Z S L T h m V c)(x:Step Z d S i h j):tS g d i L T j m V c:=
 ⟨λ y v e=>aG (p.has y v e) λ w k f=>(aL w k (f.step x λ b l=>(p.free b (p.cell y b l)).1)),p.cell,p.qa,λ b n=>pK (p.free b n) λ o q r a=>(ky (x.out a o) (x.um a q) r (jc a x.size)),p.inj⟩
theorem wR.L{g a m V O Z S T c h}(p:wR g a m V O Z S T c h):a.L<h.objs.size:=kL (p.F.ns) λ Y Y Y x Y=>cq x
theorem Yb{jo L h m Z c S d a}(F:Fr jo L h m)(x:Step Z c S d h a)(LS:L∉S)(hS:∀x∈S,jo.get? x=none):Fr jo L a m:=
 ⟨kL (F.ns) λ o f g i r=>(mU o f g (x.keep _ _ LS i) r),λ b j e=>x.keep _ _ (λ q=>(by cases((hS b q).symm.trans e))) (F.keep b j e),F.above⟩
theorem wR.step{g a m V O j Z d S f T c h i}(p:wR g a m V O Z S T c h)(x:Step Z d S f h i)(sc:gF g d f i j):wR g a m V j d f T c i where
 F:=Yb p.F x p.LS p.hS
 wd:=x.wd
 loc:=p.loc.step x
 sc:=sc
 hS:=λ b q=>(x.wn b q).elim (p.hS b) λ r=>Option.eq_none_iff_forall_ne_some.mpr λ o e=>Nat.not_lt.mpr r (cq (p.F.keep b o e))
 hT:=p.hT
 LS:=x.out p.L p.LS
 LZ:=x.um p.L p.LZ
 kz:=λ b o e=>x.zz b o (p.kz b o e)
 hz:=p.hz.mono x.zz
section
variable{h f b:Type}
theorem fM{p}[xg p]{a:p->h}{v}(x:eN a=aa v):∃q,a q=v:=by
 unfold eN at x;by_cases q:p
 ·exact⟨q,aS ((dif_pos q).symm.trans x)⟩
 ·exact absurd ((dif_neg q).symm.trans x) (by intro c;cbv)
theorem dY{v:IV}{i}(x:v.cn=aa i):v=.int i:=aI (fM x) λ q e=>@IV.int.elim (λ v=>∀q,IV.int.elim v q (λ j=>j)=i->v=.int i) v q (λ j q e=>e▸rfl) q e
theorem gb{v:IV}{i}(x:v.de=aa i):v=.str i:=aI (fM x) λ q e=>@IV.str.elim (λ v=>∀q,IV.str.elim v q (λ j=>j)=i->v=.str i) v q (λ j q e=>e▸rfl) q e
theorem av5{v:IV}{i}(x:v.Bn=aa i):v=.bool i:=aI (fM x) λ q e=>@IV.bool.elim (λ v=>∀q,IV.bool.elim v q (λ j=>j)=i->v=.bool i) v q (λ j q e=>e▸rfl) q e
theorem qt{v:IV}{i}(x:v.dH=aa i):v=.tup i:=aI (fM x) λ q e=>@IV.tup.elim (λ v=>∀q,IV.tup.elim v q (λ j=>j)=i->v=.tup i) v q (λ j q e=>e▸rfl) q e
theorem jm{v:IV}{i}(x:v.dX=aa i):v=.lst i:=aI (fM x) λ q e=>@IV.lst.elim (λ v=>∀q,IV.lst.elim v q (λ j=>j)=i->v=.lst i) v q (λ j q e=>e▸rfl) q e
theorem Ct{v:IV}{i}(x:v.tM=aa i):v=.bN i:=aI (fM x) λ q e=>@IV.bN.elim (λ v=>∀q,IV.bN.elim v q (λ j=>j)=i->v=.bN i) v q (λ j q e=>e▸rfl) q e
theorem nz{v:IV}{i}(x:v.hM=aa i):v=.eD i:=aI (fM x) λ q e=>@IV.eD.elim (λ v=>∀q,IV.eD.elim v q (λ j=>j)=i->v=.eD i) v q (λ j q e=>e▸rfl) q e
theorem Ru{v:IV}{i}(x:v.Dq=aa i):v=.gr i:=aI (fM x) λ q e=>@IV.gr.elim (λ v=>∀q,IV.gr.elim v q (λ j=>j)=i->v=.gr i) v q (λ j q e=>e▸rfl) q e
theorem pk{v:IV}{i}(x:v.nh=aa i):v=.ba i.1 i.2:=aI (fM x) λ q e=>@IV.ba.elim (λ v=>∀q,IV.ba.elim v q (λ c a=>(c,a))=i->v=.ba i.1 i.2) v q (λ j k q e=>e▸rfl) q e
theorem Pl{v:IV}{i}(x:v.ql=aa i):v=.cls i:=aI (fM x) λ q e=>@IV.cls.elim (λ v=>∀q,IV.cls.elim v q (λ j=>j)=i->v=.cls i) v q (λ j q e=>e▸rfl) q e
theorem rZ{v:IV}(x:v.cL=ae):v=.none:=@IV.none.elim (λ v=>v=.none) v (cH x) rfl
theorem rj{v:IV}(x:v.isObj=ae):v=.obj:=@IV.obj.elim (λ v=>v=.obj) v (cH x) rfl
theorem kb{x y}{v:h}(a:x.or y=aa v):x=aa v\/y=aa v:=by
 obtain _|u:=x
 ·exact .inr a
 ·exact .inl a
theorem yb{x}{v w:h}(a:aE x v=aa w):x=ae/\v=w:=by
 obtain _|_:=x
 ·cbv
 ·exact⟨rfl,aS a⟩
theorem uw{x}{a:h->ak f}{w}(c:x.bind a=aa w):∃u,x=aa u/\a u=aa w:=Option.bind_eq_some_iff.mp c
theorem wc{x}{a:h->f}{w}(c:x.map a=aa w):∃u,x=aa u/\a u=w:=Option.map_eq_some_iff.mp c
theorem CY{x y}{v:h}{k}(a:hX x y k=aa v):∃i j,x=.int i/\y=.int j/\k i j=aa v:=by
 refine aB λ Y c=>?_;revert a;refine av λ i d=>av λ j e a=>?_;refine c ?_;exact gm i j (dY d) (dY e) a
theorem OZ{x y}{v:h}{k}(a:rI x y k=aa v):∃i j,x=.str i/\y=.str j/\k i j=aa v:=by
 refine aB λ Y c=>?_;revert a;refine av λ i d=>av λ j e a=>?_;refine c ?_;exact gm i j (gb d) (gb e) a
theorem gu{l:af h}(x:l.isEmpty=ae):l=[]:=List.isEmpty_iff.mp x
theorem iF{l}{x:h}(a:one l=aa x):l=[x]:=by
 obtain _|⟨y,r⟩:=l
 ·cbv
 ·obtain⟨c,rfl⟩:=yb a;exact aD _ (gu c)
theorem ot{l}{x:h×h}(a:two l=aa x):l=[x.1,x.2]:=by
 obtain _|⟨y,r⟩:=l
 ·cbv
 ·obtain⟨u,c,rfl⟩:=wc a;exact aD _ (iF c)
theorem Du{v:IV}{l}(x:v.kY=aa l):v=.lst l\/v=.bN l:=(kb x).imp jm Ct
theorem dW{o:ak h}{k d}{G:f->Prop}(x:∀v,o=aa v->G (k v))(a:o=none->G d):G (bo o k d):=by
 obtain _|v:=o
 ·exact a rfl
 ·exact x v rfl
theorem Sx{o}{p:h->al}(x:o.any p=ae):∃v,o=aa v/\p v=ae:=by
 obtain _|v:=o
 ·cbv
 ·exact aL v rfl x
theorem fY{o:ak h}(x:o.isSome=ae):∃v,o=aa v:=by
 obtain _|v:=o
 ·cbv
 ·exact⟨v,rfl⟩
theorem lY{o:ak h}(x:o.isNone=ae):o=none:=by
 obtain _|v:=o
 ·rfl
 ·cbv
theorem ej{a x:al}(c:(a&&x)=ae):a=ae/\x=ae:=by
 obtain _|_:=a
 ·cbv
 ·exact⟨rfl,c⟩
theorem gV{a x:al}(c:(a||x)=ae):a=ae\/x=ae:=by
 obtain _|_:=a
 ·exact .inr c
 ·exact .inl rfl
theorem vl{v:IE}{i}(x:v.asVar=aa i):v=.var i:=aI (fM x) λ q e=>@IE.var.elim (λ v=>∀q,IE.var.elim v q (λ j=>j)=i->v=.var i) v q (λ j q e=>e▸rfl) q e
theorem mY{c:Type}{x:R b (h×St)}{a}{k:f->St->R b c}:(x.aw a).aw k=x.aw λ v O=>(a v O).aw k:=R.casesOn x rfl (λ Y=>rfl) λ Y=>rfl
theorem zW{a x}{k:h->St->R b f}:(R.ax a x).aw k=R.ax a (x.aw k):=by obtain _|_:=a<;>rfl
theorem JH{a o}{x:a->R b (h×St)}{k:h->St->R b f}:(R.opt o x).aw k=R.opt o λ v=>(x v).aw k:=by obtain _|_:=o<;>rfl
theorem qJ{x:R b (h×St)}{k:h->St->R b f}{res}(a:x.aw k=res)(c:res≠.stuck):x≠.stuck:=λ q=>c (by rw[<-a,q];rfl)
theorem Eu{x:R b (h×St)}{k:h->St->R b f}{res v O}(a:x.aw k=res)(e:x=.ok (v,O)):k v O=res:=by rw[e]at a;exact a
theorem Dv{x:R b (h×St)}{k:h->St->R b f}{res a}(c:x.aw k=res)(e:x=.exc a):res=.exc a:=by rw[e]at c;exact c.symm
theorem qH{x}{k:h->St->RS}{V res}(a:aY V x k=res)(c:res≠.stuck):x≠.stuck:=λ q=>c (by rw[<-a,q];rfl)
theorem sD{x}{k:h->St->RS}{V res v O}(a:aY V x k=res)(e:x=.ok (v,O)):k v O=res:=by rw[e]at a;exact a
theorem R8{x}{k:h->St->RS}{V res a}(c:aY V x k=res)(e:x=.exc a):res=.exc (a.1,V,a.2):=by rw[e]at c;exact c.symm
theorem cf{a}{x res:R b h}{G:Prop}(c:R.ax a x=res)(d:res≠.stuck)(k:a=ae->x=res->G):G:=by
 obtain _|_:=a
 ·exact absurd c.symm d
 ·exact k rfl c
theorem bQ{o:ak f}{x}{res:R b h}{G:Prop}(a:R.opt o x=res)(c:res≠.stuck)(k:∀v,o=aa v->x v=res->G):G:=by
 obtain _|v:=o
 ·exact absurd a.symm c
 ·exact k v rfl a
theorem fJ{c}[xg c]{x y z:h}{G:Prop}(a:(if c then x else y)=z)(d:c->x=z->G)(e:¬c->y=z->G):G:=by
 by_cases q:c
 ·exact d q ((aT q).symm.trans a)
 ·exact e q ((aM q).symm.trans a)
theorem dj{o}{k:h->IE}{p:IE->Prop}(x:p .bad)(a:∀v,o=aa v->p (k v)):p (IE.opt o k):=by
 obtain _|v:=o
 ·exact x
 ·exact a v rfl
theorem kA{x e}{p:IE->Prop}(a:p .bad)(c:x=ae->p e):p (IE.ax x e):=by
 obtain _|_:=x
 ·exact a
 ·exact c rfl
theorem mI{o}{k:h->IS}{p:IS->Prop}(x:p .bad)(a:∀v,o=aa v->p (k v)):p (IS.opt o k):=by
 obtain _|v:=o
 ·exact x
 ·exact a v rfl
theorem tC{x e}{p:IS->Prop}(a:p .bad)(c:x=ae->p e):p (IS.ax x e):=by
 obtain _|_:=x
 ·exact a
 ·exact c rfl
end
inductive Nd(base:bu)(e:aA)(cls:ao)(dx:aA)(fl:ao)(h:bu):Prop
 |mk (oe) (vs) (h1:h.get? e=aa oe) (h2:oe.cls=cls) (h3:oe.dict=aa dx) (h4:oe.data=.fields vs) (h5:1<vs.size/\vs[2]? =aa .none) (h6:((vs[1]? =aa .none/\fl=.none)\/∃T oT ts,vs[1]? =aa (.ref T)/\base.get? T=none/\T≠e/\h.get? T=aa oT/\oT.data=.fields ts/\ts[3]? =aa fl)):Nd base e cls dx fl h
noncomputable def ru(base:bu)(l:af mh)(e:aA)(cls:ao)(x:aA)(a:ao)(h:bu):Prop:=
 base.StaysIn h/\base.get? e=none/\h.FunFrames base l/\Nd base e cls x a h
section
variable{M:FD}{A:eP}{E:ao->aZ->Prop}{s:aZ}{base:bu}{env:mh}{outer l:af mh}{L e H:aA}{cls:ao}
theorem bk0(o:cP)(f):(o.mapFields f).dict=o.dict:=by unfold FG;split<;>rfl
theorem MQ{c x v N Q}(O:A.frames=aa (env::outer))(j:s.heap.FunFrames base (env::outer))(T:env.frame=aa L)
  (k:s.heap.get? e=aa c)(U:base.StaysIn s.heap)(w:base.get? e=none)(hd:c.data=.fields x)(m:1<x.size/\x[2]? =aa .none)(V:c.dict=aa H)
  (Z:∀r,ru base (env::outer) e c.cls H (uO L) r->s.heap.UpToSlots r->Q () {s with heap:=r}):
  au M A (do let a<-frameOf env;let pl<-entryPlaceOf L N;let b<-cb6 v a .none (uO L) .none pl;setField (.ref e) 1 b) Q E s:=by
 have a0:e∉(env::outer).filterMap (·.frame):=λ t=>by
  obtain⟨_,o,n,d⟩:=j.mem t;rw[k]at n;injection n with n;subst n;exact d x hd
 refine aq (wpAny_frameOf_fun O j T λ f p=>?_);refine aq (wpAny_entryPlaceOf λ pl y=>?_);delta cb6 newFields;refine aq (sI ?_ (y.sizeOk5 _ _ _ _ _));have z:=(p.2.1 e a0).trans k;have X:base.StaysIn f:=λ b o g=>(p.2.1 b λ t=>by rw[(j.mem t).1]at g;cbv).trans (U b o g)
 let B:cP:={cls:=.type "traceback",dict:=none,data:=.fields ([v,.ref L,.none,uO L,.none]++(if pl.isEmpty then aJ 6 oC else pl)).toArray}
 have C:(f.push B).get? e=aa c:=iL _ z;have D:=LF (cq z);refine FH C hd m.1 (Z _ ⟨λ b o g=>?_,w,?_,?_⟩ ?_)
 ·have i:b≠e:=λ q=>by simp only[q,w]at g;cbv
  exact(jE _ _ (gf i)).trans (iL _ (X b o g))
 ·refine j.of_keeps λ b o h d=>?_;have i:b≠e:=λ q=>by simp only[q,k]at h;injection h with h;subst h;exact d x hd
  obtain⟨I,u⟩:=p.2.2 b o h;exact aL _ ((jE _ _ (gf i)).trans (iL _ u)) rfl
 ·have J:=BY hd (·.setIfInBounds 1 (mi f.objs.size));refine⟨_,_,sJ _ C (LG J),cb7 _ _,(bk0 _ _).trans V,J,⟨by simp[m.1],by simp[Array.getElem?_setIfInBounds,m.2]⟩,.inr ⟨f.objs.size,B,_,by simp[m.1],X.fresh,D,?_,rfl,?_⟩⟩
  ·exact(jE _ _ (gf D)).trans (jd f rfl)
  ·first|(simp;done)|(rcases y with rfl|⟨_,_,_,_,_,_,_,rfl⟩<;>simp)
 ·intro b o h d;have i:b≠e:=λ q=>by simp only[q,k]at h;injection h with h;subst h;exact d x hd
  obtain⟨I,u⟩:=p.2.2 b o h;exact⟨I,(jE _ _ (gf i)).trans (iL _ u)⟩
theorem bp4{Q}(i:A.frames=aa (env::outer))(g:env.frame=aa L)(x:ru base (env::outer) e cls H .none s.heap)
  (j:∀c,ru base (env::outer) e cls H (uO L) c->s.heap.UpToSlots c->Q () {s with heap:=c}):au M A (BZ (.ref e) env) Q E s:=by
 refine aB λ Y y=>?_;obtain⟨k,m,n,I,p,f,rfl,r,hd,t,d⟩:=x;refine y ?_;unfold BZ;simp only[g];obtain⟨d,_⟩|⟨T,J,z,d,X,B,hT,fK,u⟩:=d
 ·refine aq (mj f hd d ?_);exact MQ i n g f k m hd t r j
 ·refine aq (mj f hd d ?_);refine aq (mj hT fK u ?_);refine aq (FH hT fK (Array.getElem?_eq_some_iff.mp u).1 ?_);have other:∀b,b≠T->(s.heap.update T (FG (·.setIfInBounds 3 oC))).get? b=s.heap.get? b:=λ b h=>jE _ _ (gf h);have v:∀b o,s.heap.get? b=aa o->(∀p,o.data≠.fields p)->b≠T:=λ b o h a q=>by
   simp only[q,hT]at h;injection h with h;subst h;exact a z fK
  refine MQ i (n.of_keeps λ b o h a=>⟨o,(other b (v b o h a)).trans h,rfl⟩) g ((other e (gf B)).trans f)
   (λ b o w=>(other b λ q=>by simp only[q,X]at w;cbv).trans (k b o w)) m hd t r λ c C D=>j c C λ b o h a=>D b o ((other b (v b o h a)).trans h) a
theorem GS{Q X}(x:ru base l e cls H X s.heap)
  (j:∀i,ru base l e cls H .none i->s.heap.UpToSlots i->Q () {s with heap:=i}):au M A (VW (.ref e) none) Q E s:=by
 refine aB λ Y B=>?_;obtain⟨k,m,n,p,d,g,rfl,r,hd,t,a⟩:=x;refine B ?_;obtain⟨a,C⟩|⟨T,J,D,a,u,v,hT,fK,I⟩:=a
 ·subst C;refine aq (mj g hd a ?_);exact aR (j _ ⟨k,m,n,p,d,g,rfl,r,hd,t,.inl ⟨a,rfl⟩⟩ (.refl _))
 ·have w:=(Array.getElem?_eq_some_iff.mp I).1;have other:∀b,b≠T->(s.heap.update T (FG (·.setIfInBounds 3 ((none:ak aA).elim oC λ f=>uO f)))).get? b=s.heap.get? b:=
   λ b h=>jE _ _ (gf h)
  have y:∀b o,s.heap.get? b=aa o->(∀d,o.data≠.fields d)->b≠T:=λ b o h c q=>by
   simp only[q,hT]at h;injection h with h;subst h;exact c D fK
  refine aq (mj g hd a ?_);refine FH hT fK w (j _ ⟨λ b o z=>(other b λ q=>by simp only[q,u]at z;cbv).trans (k b o z),m,
   n.of_keeps λ b o h c=>(aL o ((other b (y b o h c)).trans h) rfl),p,d,(other e (gf v)).trans g,rfl,r,hd,t,.inr ⟨T,_,_,a,u,v,sJ _ hT (LG (BY fK _)),BY fK _,by simp[w]⟩⟩ λ b o h c=>⟨o.slots,(other b (y b o h c)).trans h⟩)
inductive zj(base:bu)(l:af mh)(e:aA)(cls:ao)(H:aA)(h:bu):Prop
 |mk (fl) (h1:(fl=.none\/∃env L,l.head?=aa env/\env.frame=aa L/\fl=uO L)) (h2:ru base l e cls H fl h):zj base l e cls H h
theorem Ji{Q}(i:A.frames=aa (env::outer))(c:env.frame=aa L)(x:zj base (env::outer) e cls H s.heap)
  (f:∀d,ru base (env::outer) e cls H (uO L) d->s.heap.UpToSlots d->Q () {s with heap:=d}):au M A (BZ (.ref e) env) Q E s:=by
 refine aB λ Y b=>?_;obtain⟨m,h,x⟩:=x;obtain rfl|⟨n,o,a,g,rfl⟩:=h
 ·refine b ?_;exact bp4 i c x f
 ·cases a;refine b ?_;rw[c]at g;cases g;refine aB λ Y b=>?_;obtain⟨p,q,r,t,u,j,rfl,v,hd,w,a⟩:=id x;refine b ?_;obtain⟨_,a⟩|⟨T,y,z,a,X,B,hT,fK,k⟩:=a
  ·cbv
  ·unfold BZ;simp only[c];refine aq (mj j hd a ?_);refine aq (mj hT fK k ?_);rw[aT (by simp)];exact aR (f s.heap x (.refl _))
theorem ad3{Q}(b:A.frames=aa (env::outer))(c:env.frame=aa L)(x:zj base (env::outer) e cls H s.heap)
  (d:∀a,ru base outer e cls H .none a->s.heap.UpToSlots a->Q () {s with heap:=a}):au M A («leaving» env (.ref e)) Q E s:=by
 unfold «leaving»;refine aq (Ji b c x λ k f g=>GS f λ i h j=>?_);exact d i (ky h.1 h.2.1 h.2.2.1.2.2 h.2.2.2) (g.trans j)
theorem bp0(v:A.frames=aa (env::outer))(g:env.frame=aa L)(x:zj base (env::outer) e cls H s.heap)
  (w:∀i,zj base (env::outer) e cls H i->s.heap.UpToSlots i->E (.ref e) {s with heap:=i}):uP M A env (VX M A env E) (.ref e) s:=by
 unfold uP;refine Ji v g x λ j y z=>?_;refine aB λ Y X=>?_;obtain⟨B,C,D,I,k,m,rfl,J,hd,N,c⟩:=y;refine X ?_;obtain⟨_,h⟩|⟨T,U,O,c,n,p,hT,fK,Q⟩:=c
 ·cbv
 ·have r:=(Array.getElem?_eq_some_iff.mp Q).1;have other:∀b,b≠T->(j.update T (FG (·.setIfInBounds 3 ((aa L:ak aA).elim oC λ f=>uO f)))).get? b=j.get? b:=
   λ b a=>jE _ _ (gf a)
  have t:∀b o,j.get? b=aa o->(∀k,o.data≠.fields k)->b≠T:=λ b o a d q=>by
   simp only[q,hT]at a;injection a with a;subst a;exact d O fK
  refine aq (mj m hd c ?_);rw[aM (by simp)];rw[g];unfold VW;refine aq (mj m hd c ?_);refine FH hT fK r (w _ ⟨uO L,.inr (gm env L rfl g rfl),λ b o u=>(other b λ q=>by simp only[q,n]at u;cbv).trans (B b o u),C,
   D.of_keeps λ b o a d=>(by exact aL o ((other b (t b o a d)).trans a) rfl),I,k,(other e (gf p)).trans m,rfl,J,hd,N,.inr ⟨T,_,_,c,n,p,sJ _ hT (LG (BY fK _)),BY fK _,by simp[r]⟩⟩
   (z.trans λ b o a d=>⟨o.slots,(other b (t b o a d)).trans a⟩))
end
theorem VR.az{g Z v w}(h:VR g Z v w):az v=ae:=h.casesOn rfl (λ Y=>rfl) (λ Y Y=>rfl) (λ Y Y=>rfl) (λ Y Y Y=>rfl) (λ Y Y Y=>rfl) (λ Y Y Y Y Y Y Y Y Y Y=>rfl) (λ Y Y=>rfl) (λ Y=>rfl) rfl (λ Y Y Y Y Y Y=>rfl)
structure OX(g:G)(l:af mh)(h:bu)(Z':Zf)(S' T':af aA)(hr h':bu)(fs:af (Nm×IV))(ea:aA)(C dx:aA)(es:af ke)(n:ah)(base:bu)(FRs:af aA)(gv:Nm->ao):Prop where
 pF:zj base l ea (.ref C) dx h'
 up:hr.UpToSlots h'
 bs:∀b o,hr.get? b=aa o->b∉FRs->base.get? b=aa o
 tQ:∀b∈FRs,b∈l.filterMap (·.frame)\/(h.objs.size<=b/\Z' b=none/\b∉S'/\b∉T')
 dict:base.get? dx=aa (gW es n)
 new:hr.objs.size<=ea/\hr.objs.size<=dx
 has:∀f v,lk f fs=aa v->fN (strOf f) es=aa (aa (gv f))/\VR g Z' v (gv f)
 pv:∀f,lk f fs=none->fN (strOf f) es=aa none
inductive vW(g:G)(l:af mh)(h:bu)(Z':Zf)(S' T':af aA)(hr:bu)(v:IV)(e:ao)(h':bu):Prop
 |mk (ea:aA) (cN:Nm) (C:aA) (fs:af (Nm×IV)) (dx:aA) (es:af ke) (n:ah) (base:bu) (FRs:af aA) (gv:Nm->ao) (h1:e=.ref ea) (h2:v=.ba cN fs) (h3:g.cA cN=aa C) (w:OX g l h Z' S' T' hr h' fs ea C dx es n base FRs gv):vW g l h Z' S' T' hr v e h'
theorem vW.pre{g l h a c d f i v e j}(x:h.objs.size<=a.objs.size)(p:vW g l a c d f i v e j):vW g l h c d f i v e j:=by
 obtain⟨k,m,C,o,r,s,n,base,FRs,t,u,y,z,w⟩:=p;exact⟨k,m,C,o,r,s,n,base,FRs,t,u,y,z,{w with tQ:=λ b H=>(w.tQ b H).imp id λ q=>⟨aj x q.1,q.2⟩}⟩
structure Xt where
 O:St
 Z:Zf
 S:af aA
 s:aZ
structure Nt where
 m:aN->ak ao
 V:Loc
 T:af aA
 c:Nm->ak aA
noncomputable abbrev Kept(h x:bu):Prop:=∀b o,h.get? b=aa o->x.get? b=aa o
structure Pr(g:G)(r:bh)(a:Act)(N:Nt)(X:Xt):Prop where
 ok:yo g r a
 p:wR g a N.m N.V X.O X.Z X.S N.T N.c X.s.heap
structure aW(q:al)(X X':Xt):Prop where
 st:Step X.Z X'.Z X.S X'.S X.s.heap X'.s.heap
 sm:Sm X.s X'.s
 pu:q=ae->X'.S=X.S/\Kept X.s.heap X'.s.heap
section
variable{g:G}{r:bh}{a:Act}{N:Nt}{X H I J:Xt}{q q':al}
theorem Pr.wd(p:Pr g r a N X):Wd X.Z X.S X.s.heap:=p.p.wd
theorem Pr.zh(p:Pr g r a N X){b o}(h:X.Z b=aa o):X.s.heap.get? b=aa o:=p.p.wd.zh b o h
theorem Pr.refl(p:Pr g r a N X):aW q X X:=⟨.refl p.wd,.Vk,λ Y=>⟨rfl,λ Y Y e=>e⟩⟩
theorem aW.trans(x:aW q X H)(y:aW q' H I):aW (q&&q') X I:=
 ⟨x.st.trans y.st,x.sm.trans y.sm,λ h=>bg (ej h) λ c d=>⟨(y.pu d).1.trans (x.pu c).1,λ b o e=>(y.pu d).2 b o ((x.pu c).2 b o e)⟩⟩
noncomputable abbrev Xt.tk(X:Xt)(t:ah):Xt:={X with s:={X.s with toks:=t}}
theorem aW.tk(x:aW q X H)(t:ah):aW q X (H.tk t):=⟨x.st,⟨x.sm.os,x.sm.gens⟩,x.pu⟩
theorem Pr.tk(p:Pr g r a N X)(t:ah):Pr g r a N (X.tk t):=⟨p.ok,p.p⟩
theorem aW.le(x:aW q X H)(h:q'=ae->q=ae):aW q' X H:=⟨x.st,x.sm,λ e=>x.pu (h e)⟩
theorem aW.no(x:aW q X H):aW ai X H:=x.le (by intro h;cbv)
theorem Pr.step(p:Pr g r a N X)(x:aW q X H)(sc:gF g H.Z H.S H.s.heap H.O):Pr g r a N H:=⟨p.ok,p.p.step x.st sc⟩
inductive XE(g:G)(a:Act)(X:Xt)(v:IV)(O':St)(e:ao)(s':aZ):Prop
 |mk (hr:bu) (Z':Zf) (S':af aA) (sm:Sm X.s s') (h1:Step X.Z Z' X.S S' X.s.heap hr) (h2:gF g Z' S' hr O') (h3:vW g (a.env::a.outer) X.s.heap Z' S' [] hr v e s'.heap):XE g a X v O' e s'
theorem XE.pre{v h e b}(x:aW q X H)(p:XE g a H v h e b):XE g a X v h e b:=
 let⟨c,d,f,sm,i,j,k⟩:=p
 ⟨c,d,f,x.sm.trans sm,x.st.trans i,j,k.pre x.st.size⟩
inductive dk{α:Type}(g:G)(a:Act)(res:R (IV×St) α)(X:Xt)(e:ao)(s':aZ):Prop
 |mk (v:IV) (O':St) (h1:res=.exc (v,O')) (h2:XE g a X v O' e s'):dk g a res X e s'
noncomputable def R3(N:Nt)(ie:IE)(X H:Xt)(o:ak aA):Prop:=∀a,o=aa a->(fresh ie=ae->X.s.heap.objs.size<=a/\a∉H.S/\H.Z a=none)/\(∀x,ie=.var x->N.c x=aa a)
inductive Rs(g:G)(N:Nt)(ie:IE)(X H:Xt)(v:IV)(w:ao):Prop
 |mk (o) (f:FR g H.Z H.s.heap v w o) (k:R3 N ie X H o):Rs g N ie X H v w
theorem Rs.val{ie v w}(h:VR g H.Z v w):Rs g N ie X H v w:=⟨none,.val h.az h,nofun⟩
inductive dR(g:G)(r:bh)(a:Act)(N:Nt)(ie:IE)(res:RE IV)(X:Xt)(w:ao)(s':aZ):Prop
 |mk (v:IV) (H:Xt) (hs:s'=H.s) (h:res=.ok (v,H.O)) (x:aW (pureE ie) X H) (p:Pr g r a N H) (rs:Rs g N ie X H v w):dR g r a N ie res X w s'
theorem dR.val{ie v w}(p:Pr g r a N X)(h:VR g X.Z v w):dR g r a N ie (.ok (v,X.O)) X w X.s:=⟨v,X,rfl,rfl,p.refl,p,.val h⟩
theorem dR.vr{ie res v w}(x:aW q X H)(p:Pr g r a N H)(b:pureE ie=ae->q=ae)(h:VR g H.Z v w)(c:res=.ok (v,H.O)):dR g r a N ie res X w H.s:=⟨v,H,rfl,c,x.le b,p,.val h⟩
noncomputable abbrev fG(g:G)(r:bh)(a:Act)(N:Nt)(ie:IE)(res:RE IV)(X:Xt)(t:mP ao):Prop:=au g.M a.A t (dR g r a N ie res X) (dk g a res X) X.s
noncomputable def bJ(g:G)(r:bh):Prop:=∀a N X ex res,Pr g r a N X->r.E (ay a.sc.names ex) N.V X.O=res->res≠.stuck->fG g r a N (ay a.sc.names ex) res X (bM ex a.env)
theorem hZ{c ex k}{res:R (IV×St) c}{Q}(d:bJ g r)(f:aW q J X)(p:Pr g r a N X)
  (b:(r.E (ay a.sc.names ex) N.V X.O).aw k=res)(i:res≠.stuck)
  (j:∀v w H,aW (pureE (ay a.sc.names ex)) X H->Pr g r a N H->Rs g N (ay a.sc.names ex) X H v w->k v H.O=res->Q w H.s):
  au g.M a.A (bM ex a.env) Q (dk g a res J) X.s:=
 bI (d a N X ex _ p rfl (qJ b i)) (λ w l ⟨v,H,m,h,x,n,rs⟩=>m▸j v w H x n rs (Eu b h)) λ e l ⟨v,o,h,x⟩=>⟨v,o,Dv b h,x.pre f⟩
theorem ON{x n k}(h:GH x k=aa n):k=n/\cV n.id 205=ae/\strOf n=x:=by
 unfold GH at h;rcases q:cV k.id 205&&(strOf k==x)with _|_
 ·rw[q]at h;cbv
 ·rw[q]at h;cases h;exact dB rfl ((aH q)) (cH (aP q))
theorem eC{x n}(h:cy x=aa n):strOf n=x:=(ON h).2.2
theorem KL{k v}(h:yf k=aa v){env A Q E s c d}(fin:∀w tk,VR g X.Z v w->Q w {s with toks:=tk}):au g.M A (bM (.Constant k c d) env) Q E s:=by
 cases k with
 |none=>cases h;exact wpAny_Constant_none (fin _ _ .none)
 |bool b=>cases h;exact wpAny_Constant_bool (fin _ _ (.bool _))
 |int i=>cases h;exact wpAny_Constant_int (fin _ _ (.int _ _))
 |str x=>cases h;exact wpAny_Constant_str (fin _ _ (.str _ _))
 |_=>cbv
theorem C8{v k h x}(b:yf k=aa v)(p:Pr g r a N X):fG g r a N (.con v) (.ok (v,X.O)) X (bM (.Constant k h x) a.env):=
 KL b λ w tk q=>⟨v,X.tk tk,rfl,rfl,p.refl.tk tk,p.tk tk,.val q⟩
theorem lJ{x n}(h:cy x=aa n):(x==("__debug__":aN))=ai:=by
 rcases q:x==("__debug__":aN)with _|_
 ·rfl
 ·rw[cH q,show cy ("__debug__":aN)=none by decide+kernel]at h;cbv
theorem ZW{x n pos}(h:cy x=aa n)(d:a.sc.names.lookup x=aa .local)(p:Pr g r a N X){v}(hv:lk n N.V=aa v):
  fG g r a N (.var n) (.ok (v,X.O)) X (bM (.Name x pos) a.env):=by
 refine aB λ Y f=>?_;refine aG (p.p.loc.has n v hv) λ w c i=>?_;rw[eC h]at c;refine f ?_;exact LH p.p.F c ⟨v,X,rfl,rfl,p.refl,p,_,i,λ b q=>⟨(by intro k;cbv),λ y j=>IE.noConfusion j λ e=>e▸q⟩⟩ p.ok.kind d (lJ h)
noncomputable def Ft(K:dc)(C:aA):al:=iM K (.ref C) "__getattribute__"==aa (aa (.builtin "BaseException.__getattribute__"))&&(iM K (.ref C) "__getattr__"==aa none&&qO K C (.type "BaseException")==aa ae)
structure lV(g:G)(P:bW):Prop where
 con:∀n v,P.con n=aa v->az v=ae/\∃w,il g.K gX (strOf n)=aa (aa w)/\VR g (λ b=>g.K.lookup b) v w
 cls:∀n,(P.ba n).isSome=ae->∃C,g.cA n=aa C/\il g.K gX (strOf n)=aa (aa (.ref C))
 RG:∀f C,P.cZ .bL f=ae->g.cA .bL=aa C->qP g.K C (strOf f)=ae
 cZ:∀c f C,P.cZ c f=ae->g.cA c=aa C->(qP g.K C (strOf f)=ae\/Ft g.K C=ae)/\mQ g.K C=ae/\∃attr,iM g.K (.ref C) (strOf f)=aa attr/\FI g.K attr=ae
 QU:∀c f v C,P.oa c f=aa v->g.cA c=aa C->qP g.K C (strOf f)=ae/\mQ g.K C=ae/\∃w,iM g.K (.ref C) (strOf f)=aa (aa w)/\FJ g.K w "__get__"=aa none/\FK w=ae/\
  copiedNames.contains (strOf f)=ai/\VR g (λ b=>g.K.lookup b) v w
 str:il g.K gX (strOf .mW)=aa none/\P.con .mW=none
theorem bt8{P x n pos}(tk:lV g P)(b:cy x=aa n)(i:a.sc.names.lookup x=aa .globalImplicit)(p:Pr g r a N X){v}(hv:yu P n=aa v):
  fG g r a N (.glob n) (.ok (v,X.O)) X (bM (.Name x pos) a.env):=by
 refine aB λ Y j=>?_;obtain h|h:=kb hv
 ·obtain⟨_,w,c,d⟩:=tk.con n v h;rw[eC b]at c;refine j ?_;exact xk p.p.F p.ok.K p.ok.T c (.val p (d.mono p.p.kz)) p.ok.kind i (lJ b)
 ·revert h;refine bR λ k l=>?_;clear hv;subst l;by_cases f:n=.mW
  ·have c:=tk.str.1;rw[<-f,eC b]at c;have e:x=("str":aN):=by rw[<-eC b,f];decide+kernel
   refine j ?_;exact LI p.p.F p.ok.K p.ok.T c (v:=.type "str") (e▸by decide+kernel) (e▸by decide+kernel) (.val p (f▸.Fm)) p.ok.kind i (lJ b)
  ·refine aG (tk.cls n (((cb8 _ _).mp k).resolve_left λ q=>f (bE q))) λ C c d=>?_;rw[eC b]at d;refine j ?_;exact xk p.p.F p.ok.K p.ok.T d (.val p (.cls c)) p.ok.kind i (lJ b)
end
theorem jJ.step{g Z x S h b i l C d m n c}(q:jJ g Z S h i l C d m n c)(zz:∀a o,Z a=aa o->x a=aa o)(k:Kept h b)(u:∀j D,x j=aa (dD C D)->Z j=aa (dD C D)):jJ g x S b i l C d m n c:=
 {q with inst:=zz _ _ q.inst,uniq:=λ j D e=>q.uniq j D (u j D e),dict:=k _ _ q.dict,has:=λ f v e=>aG (q.has f v e) λ w p r=>(aL w p (r.map zz λ a Y o=>k a o))}
theorem gF.step{g Z x S h b O}(q:gF g Z S h O)(zz:∀a o,Z a=aa o->x a=aa o)(k:Kept h b)(u:∀C j D,g.cA .bL=aa C->x j=aa (dD C D)->Z j=aa (dD C D)):gF g x S b O:=by
 obtain _|l:=O
 ·exact⟨q.1,λ C j D e c=>q.2 C j D e (u C j D e c)⟩
 ·exact qI q λ f C d i n cc q=>Br f C d i n cc (q.step zz k λ j D=>u C j D q.cls)
inductive fX(g:G)(Z:Zf)(S:af aA)(s:aZ)(v:IV)(w:ao)(s':aZ):Prop
 |mk (Z':Zf) (h1:Step Z Z' S S s.heap s'.heap) (sm:Sm s s') (h2:Kept s.heap s'.heap) (h3:∀O,gF g Z S s.heap O->gF g Z' S s'.heap O) (o:ak aA) (f:FR g Z' s'.heap v w o) (k:∀a,o=aa a->s.heap.objs.size<=a/\a∉S/\Z' a=none):fX g Z S s v w s'
section
variable{g:G}{A:eP}{E:ao->aZ->Prop}{Z:Zf}{S:af aA}{s:aZ}{v:IV}{w:ao}
theorem pg(d:Wd Z S s.heap){tk}(r:VR g Z v w):fX g Z S s v w {s with toks:=tk}:=⟨Z,.refl d,.refl,λ Y Y e=>e,λ Y q=>q,none,.val r.az r,(by intros;cbv)⟩
theorem pG(d:Wd Z S s.heap):Z s.heap.objs.size=none/\s.heap.objs.size∉S:=
 ⟨Option.eq_none_iff_forall_ne_some.mpr λ o e=>qQ _ (cq (d.zh _ _ e)),λ q=>qQ _ (d.ww _ q)⟩
theorem xc(h:bu)(o:cP):(h.push o).objs.size=h.objs.size+1:=by obtain⟨⟩:=h;simp[Heap.push]
theorem kt(h:bu)(o:cP):Kept h (h.push o):=λ Y Y e=>iL _ e
theorem sZ(d:Wd Z S s.heap)(o:cP):Step Z Z S S s.heap (s.heap.push o):=.grow d (kt _ _) (by rw[xc];exact jF _)
theorem Fq(d:Wd Z S s.heap){l h}(r:bD g Z l h){n}:fX g Z S s (.lst l) (.ref s.heap.objs.size) {s with heap:=s.heap.push (cQ h n)}:=
 ⟨Z,sZ d _,.refl,kt _ _,λ Y q=>q.step (λ Y Y e=>e) (kt _ _) λ Y Y Y Y e=>e,_,.lst (jd _ rfl) r,λ a q=>aS q▸(dB (ca _) ((pG d).2) ((pG d).1))⟩
theorem oj{x o a h}(e:ji Z x o a=aa h):a=x/\o=h\/Z a=aa h:=by
 unfold ji at e;by_cases q:a=x
 ·exact .inl ⟨q,aS ((aT q).symm.trans e)⟩
 ·exact .inr ((aM q).symm.trans e)
theorem B2(d:Wd Z S s.heap)(o:cP)(x:o.isFreed=ai):Step Z (ji Z s.heap.objs.size o) S S s.heap (s.heap.push o):=
 have st:=sZ d o
 have h:=Step.freeze st.wd (jd _ x) (pG d).2 d.zh (ca _)
 ⟨h.2,λ a b e=>(oj e).symm.imp id λ q=>cx q.1.symm,h.1.zh,st.keep,st.size,st.wn,h.1.wz,st.ww,st.big,st.pre⟩
theorem DH(d:Wd Z S s.heap){l h}(r:bD g Z l h){n}:fX g Z S s (.tup l) (.ref s.heap.objs.size) {s with heap:=s.heap.push (vH h n)}:=
 have st:=B2 d (vH h n) rfl
 ⟨_,st,.refl,kt _ _,λ Y q=>q.step st.zz (kt _ _) λ C j D Y e=>(oj e).elim (λ q=>(by cases(aD Obj.data q.2))) id,none,.val rfl (.tup (aT rfl) r.1 λ i v u a b=>(r.2 i v u a b).mono st.zz),(by intros;cbv)⟩
theorem bD.append{l x c d}(a:bD g Z l c)(b:bD g Z x d):bD g Z (l++x) (c++d):=by
 refine⟨by simp[a.1,b.1],λ i v u p q=>?_⟩;by_cases h:i<l.length
 ·rw[FL h]at p;rw[FL (a.1▸h)]at q;exact a.2 i v u p q
 ·rw[Ca (Nat.not_lt.mp h)]at p;rw[Ca (a.1▸Nat.not_lt.mp h),<-a.1]at q;exact b.2 _ v u p q
theorem bD.OV{l h}(a:bD g Z l h):∀n,bD g Z (aJ n l).flatten (aJ n h).flatten
 |0=>by simp[bD.nil]
 |n+1=>by rw[Cb,Cb,LJ,LJ];exact a.append (a.OV n)
theorem VR.xO{g l x t}(h:x.cps.toList=l):VR g Z (.str l) (.str x t):=h▸.str x t
theorem RV{a:Type}(x:nI a)(n:ah):∀(h:nI a),(VY (λ b c=>b++c) h (aJ n x)).toList=h.toList++(aJ n x.toList).flatten:=by
 induction n with
 |zero=>exact λ h=>(bC _).symm
 |succ n d=>
  intro h;rw[Cb,List.foldl_cons,d,FN,bB];rfl
theorem YY(x:af ao)(n:ah):VY (λ a b=>a++b) #[] (aJ (if x.toArray.isEmpty=ae then 0 else(n:ag).toNat) x.toArray)=((aJ n x).flatten).toArray:=by
 refine Array.ext' ?_;rw[RV];by_cases h:x=[]
 ·refine h.symm▸?_;simp
 ·simp[h]
theorem ba5(x:aN)(n:ah):(Txt.mul x (n:ag)).cps.toList=(aJ ((n:ag).toNat) x.cps.toList).flatten:=by
 unfold Txt.mul;split
 ·rename_i h;obtain rfl:n=0:=by lia
  rfl
 ·split
  ·rename_i b a
   simp only[cb8,VZ]at a;obtain a|a:=a
   ·obtain rfl:n=1:=by lia
    simp
   ·have:x.cps.toList=[]:=by simpa[xl]using a
    simp[this]
  ·rw[RV];simp
theorem ao8{i}(h:0<=i)(x:i<=1000):FO i=ae:=by
 unfold FO;simp only[xm,FP];exact⟨bH ⋯ h,lZ x ⋯⟩
theorem Q6{l a k x u Q}
  (b:s.heap.get? l=aa {cls:=.type "list",dict:=none,data:=.seq a k,slots:=#[]})
  (d:-(2^63:ag)<=x)(e:x<2^63)(c:a.size*x.toNat<=2^24)
  (h:Q (.ref s.heap.objs.size) {s with heap:=s.heap.push {cls:=.type "list",data:=.seq (VY (λ f i=>f++i) #[] (aJ (if a.isEmpty=ae then 0 else x.toNat) a))}}):
  au g.M A (sL .Mult (.ref l) (.int x u)) Q E s:=
 wpAny_binaryOp_repeat_ref ⋯ (aL _ b rfl) (λ j=>typeIs_int j x u) noFill_list_mul F.fills_int_mul cb9 repeat_list F.slot_int_index.lookup
  (xo cb9 (typeIs_int s x u) F.entry_int_rmul (F.args_int_rmul_2 _ _) (int___rmul___int_list x u l a k)
   ⟨b,rfl,(aL _ b rfl),xo F.slot_list_mul (aL _ b rfl) F.entry_list_mul (F.args_list_mul_2 _ _)
    (AutoListH.list___mul___list_int_3 l a k x u (by simp[FO];exact⟨d,e⟩) (Nat.not_le.mpr (eK c ⋯)) (by simp[Builtin.List.listTooLong,gh];exact c))
    ⟨b,h⟩⟩)
theorem Hf{x y v}(h:xJ x y=aa v):∃s t,x=.str s/\y=.str t/\s.length+t.length<=10000/\.str (s++t)=v:=
 dC (OZ h) λ i j a b h=>(qq i j a b (bE (iZ h)) (AO h))
theorem yv{c d:Type}{x y}{p:c->d->Prop}[∀a b,xg (p a b)]{f:c->d->IV}{v}(h:(x.bind λ a=>y.bind λ b=>aE (decide (p a b)) (f a b))=aa v):∃a b,x=aa a/\y=aa b/\p a b/\f a b=v:=
 aG (uw h) λ i e h=>
 aG (uw h) λ j k h=>
 (qq i j e k (bE (iZ h)) (AO h))
theorem FR.vr{h v w o}(f:FR g Z h v w o)(n:az v=ae):VR g Z v w:=
 FR.casesOn f (λ Y r Y=>r) (λ Y Y n=>(by cbv)) (λ Y Y Y Y n=>(by cbv)) n
theorem FR.ints{h i w o}(f:FR g Z h (.int i) w o):∃t,w=.int i t:=by
 cases f.vr rfl;exact⟨_,rfl⟩
theorem FR.strs{h u w o}(f:FR g Z h (.str u) w o):∃x t,w=.str x t/\u=x.cps.toList:=by
 cases f.vr rfl;exact gR _ _ rfl rfl
theorem FR.rk{h l w o}(f:FR g Z h (.lst l) w o):∃b x n,w=.ref b/\o=aa b/\h.get? b=aa (cQ x n)/\bD g Z l x:=by
 cases f with
 |val n _=>cbv
 |lst a b=>exact oy _ _ _ rfl rfl a b
theorem FR.wI{h l w o}(f:FR g Z h (.lst l) w o):∃b x n,w=.ref b/\h.get? b=aa (cQ x n)/\bD g Z l x:=
 eh (f.rk) λ b x n e Y r=>(mU b x n e r)
theorem VR.uc{l w}(f:VR g Z (.tup l) w):∃b h n,w=.ref b/\Z b=aa (vH h n)/\bD g Z l h:=by
 cases f with|tup a b c=>exact oy _ _ _ rfl a b c
theorem VR.Tu{l w}(f:VR g Z (.bN l) w):∃b h n,w=.ref b/\Z b=aa (cQ h n)/\bD g Z l h:=by
 cases f with|bN a b c=>exact oy _ _ _ rfl a b c
theorem FR.uc{h l w o}(f:FR g Z h (.tup l) w o):∃b x n,w=.ref b/\Z b=aa (vH x n)/\bD g Z l x:=(f.vr rfl).uc
theorem FR.sq{h v l w o}(d:∀a o,Z a=aa o->h.get? a=aa o)(f:FR g Z h v w o)(hv:v.kY=aa l):∃b x n,w=.ref b/\h.get? b=aa (cQ x n)/\bD g Z l x:=by
 obtain rfl|rfl:=Du hv
 ·exact f.wI
 ·obtain⟨b,x,n,e,q,r⟩:=(f.vr rfl).Tu;exact ui b x n e (d _ _ q) r
theorem J6{l k c e o1 t}(d:Wd Z S s.heap)(f:FR g Z s.heap (.tup l) c o1)(i:FR g Z s.heap (.tup k) e t)(j:0<l.length/\0<k.length/\l.length+k.length<=10000):
  au g.M A (sL .Add c e) (λ w u=>fX g Z S s (.tup (l++k)) w u) E s:=by
 refine aB λ Y y=>?_;refine eh (f.uc) λ a X n z m h=>?_;clear f;subst z;refine eh (i.uc) λ b us B H o x=>?_;clear i;subst H;have p:=h.1;have r:=x.1;refine y ?_;refine P.add_tuple (d.zh _ _ m) (d.zh _ _ o) (by simp;intro q;clear h m;subst q;simp at p;simp[p]at j) (by simp;intro q;clear x o;subst q;simp at r;simp[r]at j) ?_ (by simp[gh];lia);simpa using DH d (bD.append h x)
theorem aw8{l k h x o1 o}(d:Wd Z S s.heap)(c:FR g Z s.heap (.lst l) h o1)(e:FR g Z s.heap (.lst k) x o)(u:l.length+k.length<=10000):
  au g.M A (sL .Add h x) (λ w p=>fX g Z S s (.lst (l++k)) w p) E s:=by
 refine aB λ Y q=>?_;refine eh (c.wI) λ a y n r f i=>?_;clear c;subst r;refine eh (e.wI) λ b us z t j m=>?_;clear e;subst t;have H:=i.1;have X:=m.1;refine q ?_;refine concat_meets (aL _ f rfl) (aL _ j rfl) cc0 seq_list_add PySem.F.slot_list_add PySem.F.entry_list_add (PySem.F.args_list_add_2 _ _) (PyProof.Rows.list_addW _ _ _ _ _ _ _ _ _ _ (by simp[gh];lia)) ⟨f,j,?_⟩;simpa using Fq d (bD.append i m)
theorem aw1{u i h a o1 c}(d:Wd Z S s.heap)(e:FR g Z s.heap (.str u) h o1)(f:FR g Z s.heap (.int i) a c)(b:u.length<=1000/\0<=i/\i<=1000):
  au g.M A (sL .Mult h a) (λ w j=>fX g Z S s (.str (aJ i.toNat u).flatten) w j) E s:=by
 obtain⟨x,t,rfl,rfl⟩:=e.strs;obtain⟨l,rfl⟩:=f.ints;simp only[oF]at b;obtain⟨m,o,r⟩:=b;obtain⟨n,rfl⟩:=Wa o;have p:x.length*n<=1000*1000:=Wb (by simpa[xl]using m) (by lia);refine SB.mul ⟨by simp;lia,λ Y Y=>?_,λ Y Y=>?_⟩ λ l k=>pg d (.xO ?_)
 ·intro q;have y:(1000:ag)<=(2^63-1)/(n:ag):=Int.le_ediv_of_mul_le (by lia) (by lia);simp only[xl]at q;lia
 ·simp[Builtin.Str.tooLong,gh];exact aj p ⋯
 ·exact ba5 x n
theorem ac6{l i h x o1 f}(d:Wd Z S s.heap)(j:FR g Z s.heap (.lst l) h o1)(m:FR g Z s.heap (.int i) x f)(o:l.length<=1000/\0<=i/\i<=1000):
  au g.M A (sL .Mult h x) (λ w p=>fX g Z S s (.lst (aJ i.toNat l).flatten) w p) E s:=by
 refine aB λ Y q=>?_;obtain⟨a,b,k,rfl,r,c⟩:=j.wI;obtain⟨y,rfl⟩:=m.ints;obtain⟨t,e,z⟩:=o;obtain⟨n,rfl⟩:=Wa e;have u:b.toArray.size*n<=1000*1000:=Wb (by simp;exact aj (cx c.1.symm) t) (by lia);refine q ?_;refine Q6 r (bH ⋯ e) (by lia) (by simp only[uQ];exact aj u ⋯) ?_;exact((YY b n)).symm▸Fq d (c.OV n)
theorem yV{x y c d o1 e h k}{G:Prop}(f:FR g Z h x c o1)(l:FR g Z h y d e)(hv:hX x y k=aa v)(H:∀i j a b,k i j=aa v->c=.int i a->d=.int j b->G):G:=by
 refine dC (CY hv) ?_;clear hv;intro i j m n hv;subst m;subst n;refine aI (f.ints) λ a o=>?_;refine aI (l.ints) λ b p=>?_;exact H i j a b hv o p
theorem KC{x y b c}{o1 l:ak aA}(d:Wd Z S s.heap)(h:FR g Z s.heap x b o1)(a:FR g Z s.heap y c l)(hv:(hX x y λ i j=>aa (.int (i+j)))=aa v\/xJ x y=aa v):
  au g.M A (sL .Add b c) (fX g Z S s v) E s:=by
 obtain hv|hv:=hv
 ·exact yV h a hv λ i j m n e o p=>aS e▸o▸p▸PyProof.Rows.add_int (pg d (.int _ _))
 ·refine og (Hf hv) λ u C q r f t=>?_;clear hv;subst q;subst r;clear KC;subst t;refine cu (h.strs) λ D m z H=>?_;refine z▸?_;clear h;subst H;refine cu (a.strs) λ I n X B=>?_;refine X▸?_;clear a;subst B;simp only[oF]at f;exact SB.add (λ J k=>pg d (.xO (FN ..))) (by simp only[xl,gh];exact aj f ⋯)
theorem Yu{x y i j o1 k}(d:Wd Z S s.heap)(h:FR g Z s.heap x i o1)(a:FR g Z s.heap y j k)(hv:lX .Add x y=aa v):
  au g.M A (sL .Add i j) (fX g Z S s v) E s:=by
 obtain hv|hv:=kb hv
 ·exact KC d h a (.inl hv)
 obtain hv|hv:=kb hv
 ·exact KC d h a (.inr hv)
 obtain hv|hv:=kb hv
 ·refine og (yv hv) λ u l b c f e=>?_;rw[qt b]at h;rw[qt c]at a;exact e▸J6 d h a f
 ·refine og (yv hv) λ u l b c f e=>?_;rw[jm b]at h;rw[jm c]at a;exact e▸aw8 d h a f
theorem bq9{x y i j o1 k}(d:Wd Z S s.heap)(h:FR g Z s.heap x i o1)(a:FR g Z s.heap y j k)(hv:lX .Mult x y=aa v):
  au g.M A (sL .Mult i j) (fX g Z S s v) E s:=by
 obtain hv|hv:=kb hv
 ·refine og (yv hv) λ u l b c f e=>?_;rw[gb b]at h;rw[dY c]at a;exact e▸aw1 d h a f
 ·refine og (yv hv) λ u l b c f e=>?_;rw[jm b]at h;rw[dY c]at a;exact e▸ac6 d h a f
theorem bn1{x y h a}{o1 b:ak aA}(d:Wd Z S s.heap)(c:FR g Z s.heap x h o1)(f:FR g Z s.heap y a b)(hv:hX x y (λ i j=>aa (.int (i-j)))=aa v):
  au g.M A (sL .Sub h a) (fX g Z S s v) E s:=
 yV c f hv λ i j m n e k l=>aS e▸k▸l▸PyProof.Rows.sub_int (pg d (.int _ _))
theorem ao9{op x y k l}{o1 m:ak aA}(d:Wd Z S s.heap)(a:FR g Z s.heap x k o1)(b:FR g Z s.heap y l m)(hv:lX op x y=aa v):
  au g.M A (sL op k l) (fX g Z S s v) E s:=
 Wc op
  (Yu d a b) (bn1 d a b) (bq9 d a b) (by intro h;cbv) (by intro h;cbv)
  (λ hv=>yV a b hv λ i j n o e c f=>(AO e)▸c▸f▸PyProof.Rows.mod_int (bE (iZ e)) (pg d (.int _ _))) (by intro h;cbv) (by intro h;cbv) (by intro h;cbv) (by intro h;cbv) (by intro h;cbv) (by intro h;cbv)
  (λ hv=>yV a b hv λ i j n o e c f=>(AO e)▸c▸f▸
   have hz:=bE (iZ e)
   PyProof.Rows.floordiv_int hz.1 (pg d (.int _ _)) (.inl (cc1 (eK hz.2 ⋯)))) hv
end
section
variable{g:G}{P:bW}{r:bh}{a:Act}{N:Nt}{X I A H:Xt}{q q':al}
theorem FR.own{Z h v w b}(f:FR g Z h v w (aa b)):az v=ai:=by
 generalize x:aa b=o at f;exact FR.casesOn f (λ Y Y e=>(by cbv)) (λ Y Y Y=>rfl) (λ Y Y Y Y Y=>rfl) x
theorem Rs.xF{ie v w}(p:Pr g r a N A)(rs:Rs g N ie X A v w)(h:cR ie v=ae)(x:aW q A H):∃o,FR g H.Z H.s.heap v w o/\∀b,o=aa b->∀y,ie=.var y->N.c y=aa b:=by
 obtain⟨o,f,k⟩:=rs;refine aL o (f.step x.st λ b e=>?_) (λ b e=>(k b e).2);obtain h|h:=gV h
 ·obtain h|h:=gV h
  ·exact nomatch(FR.own (e▸f)).symm.trans h
  ·exact((k b e).1 h).2.1
 ·refine aI (fY h) λ y c=>?_;exact(p.p.loc.free b (p.p.loc.cell y b ((k b e).2 y (vl c)))).1
theorem dR.made{ie res v w c}(x:aW q X H)(p:Pr g r a N H)(h:res=.ok (v,H.O))(i:∀y,ie≠.var y)(j:pureE ie=ae->q=ae)(l:fX g H.Z H.S H.s v w c):dR g r a N ie res X w c:=
 let⟨m,n,s,kp,t,o,f,k⟩:=l
 have d:=⟨n,s,λ Y=>⟨rfl,kp⟩⟩
 ⟨v,⟨H.O,m,H.S,c⟩,rfl,h,(x.trans d).le λ e=>by rw[Cc];exact j e,p.step d (t _ p.p.sc),o,f,λ b e=>⟨λ Y=>⟨aj x.st.size (k b e).1,(k b e).2⟩,λ y e=>absurd e (i y)⟩⟩
theorem as0{l c op pos res}(d:bJ g r)(p:Pr g r a N X)(m:kU P r (.bin op (ay a.sc.names l) (ay a.sc.names c)) N.V X.O=res)(b:res≠.stuck):
  fG g r a N (.bin op (ay a.sc.names l) (ay a.sc.names c)) res X (bM (.BinOp l op c pos) a.env):=by
 refine wpAny_BinOp (hZ d p.refl (q:=ae) p m b λ v w A f i n h=>?_);refine cf h b λ o h=>?_;refine hZ d f i h b λ C D H j k s h=>?_;refine aB λ Y t=>?_;refine bQ h b λ u hv h=>?_;refine aG (n.xF i o j) λ o1 y Y=>?_;obtain⟨E,z,_⟩:=s;refine t ?_;exact bI (ao9 k.wd y z hv) (λ w J B=>.made (f.trans j) k h.symm nofun id B) λ e L x=>x
inductive AR(g:G)(c:Nm->ak aA)(Z:Zf)(h:bu):af IE->af IV->af ao->Prop
 |nil:AR g c Z h [] [] []
 |cons {e v w l vs ws o}:FR g Z h v w o->(∀b,o=aa b->∀x,e=.var x->c x=aa b)->AR g c Z h l vs ws->AR g c Z h (e::l) (v::vs) (w::ws)
theorem AR.Bq{c Z h l b d}(x:AR g c Z h l b d):b.all az=ae->bD g Z b d:=
 AR.rec (λ Y=>.nil) (λ f Y Y e q=>.cons (f.vr (aH q)) (e (aP q))) x
theorem AR.len{c Z h l b d}(x:AR g c Z h l b d):b.length=d.length:=
 AR.rec rfl (λ Y Y Y e=>aD (·+1) e) x
theorem Iv{e l env}(h:yT e=ae):iN (e::l) env=(ai,bM e env)::iN l env:=by
 obtain _|_:=e<;>first|rfl|cbv
theorem at4{e l env names}(h:ay names e≠.bad):iN (e::l) env=(ai,bM e env)::iN l env:=
 Iv (by
  unfold yT
  by_cases q:e.ctorIdx=22
  ·exact absurd (@PySem.Expr.Starred.elim (λ e=>ay names e=.bad) e q λ Y Y=>rfl) h
  ·rw[beq_eq_false_iff_ne.mpr q];rfl)
theorem zS{E}(J:bJ g r)(L:∀V O,r.E .bad V O=.stuck){pos}(x:af bA):∀{q X}{k:af IV->St->R (IV×St) E}{res Q},aW q I X->Pr g r a N X->
  (ik r (bV a.sc.names x) N.V X.O).aw k=res->res≠.stuck->
  (∀s t c,aW (pureEs (bV a.sc.names x)) X c->Pr g r a N c->AR g N.c c.Z c.s.heap (bV a.sc.names x) s t->k s c.O=res->Q t c.s)->
  au g.M a.A (spliced (kD pos (iN x a.env))) Q (dk g a res I) X.s:=by
 induction x with
 |nil=>exact λ u p d j n=>Calls.spliced_nil (n _ _ _ p.refl p .nil d)
 |cons e x M=>
  intro q X k res Q u p d j n;have d:=mY.symm.trans d;have T:ay a.sc.names e≠.bad:=λ U=>absurd (U▸L _ _) (qJ d j);rw[at4 T];refine Calls.spliced_cons (hZ J u p d j λ v w A y z B i=>?_);refine cf (zW.symm.trans i) j λ l i=>?_;refine M (u.trans y) z (mY.symm.trans i) j λ s t H m C D i=>?_;obtain l|l:=gV l
  ·refine aG (B.xF z l m) λ o f h=>?_;exact n _ _ _ (y.trans m) C (.cons f h D) i
  ·obtain⟨o,f,h⟩:=B;exact n _ _ _ (y.trans m) C (.cons (f.map m.st.zz λ b Y=>(m.pu (by rw[gu l];rfl)).2 b) (λ b e=>(h b e).2) D) i
theorem Lr{x:af IV}{b:af ao}(h:x.length=b.length)(hv:x.length<=10000):b.toArray.size<=gh:=by simp only[oG,<-h];unfold gh;exact aj hv ⋯
theorem ac8{h:af bA}{k}{pos:ey}{res}(e:bJ g r)(f:∀V O,r.E .bad V O=.stuck)(p:Pr g r a N X)(i:kU P r (.tup (bV a.sc.names h)) N.V X.O=res)(b:res≠.stuck):
  fG g r a N (.tup (bV a.sc.names h)) res X (bM (.Tuple h k pos) a.env):=
 Tuple_ (zS e f h (q:=ae) p.refl p i b λ l m A j c d x=>cf x b λ hv x=>
  sI (.made j c x.symm nofun id (DH c.wd (d.Bq (aH hv)))) (Lr d.len (bE (aP hv))))
theorem A0{h:af bA}{pos:ey}{res}(e:bJ g r)(f:∀V O,r.E .bad V O=.stuck)(p:Pr g r a N X)(i:kU P r (.lst (bV a.sc.names h)) N.V X.O=res)(b:res≠.stuck):
  fG g r a N (.lst (bV a.sc.names h)) res X (bM (.List h pos) a.env):=
 List_ (zS e f h (q:=ae) p.refl p i b λ k l A j c d x=>cf x b λ hv x=>
  sI (.made j c x.symm nofun (by intro m;cbv) (Fq c.wd (d.Bq (aH hv)))) (Lr d.len (bE (aP hv))))
end
open PySem.Spec PyProof.V
theorem M7(l):qf l=l.map iz:=by
 induction l with
 |nil=>rfl
 |cons v l h=>exact aD (iz v::·) h
theorem IJ{x:Type}[BEq x][LawfulBEq x][DecidableEq x](a b:x):(a==b)=decide (a=b):=by
 by_cases h:a=b
 ·rw[h,bK rfl,sM]
 ·rw[gw h];exact beq_eq_false_iff_ne.mpr h
theorem JG{h:Type}[BEq h][LawfulBEq h][DecidableEq h](a b:h):(a !=b)=decide (a≠b):=by
 show(!(a==b))=_;simp only[IJ,decide_not]
theorem Hy{x d:Type}{R:x->d->Prop}{C:af x->af d->Prop}(n:C [] [])(c:∀{a l b k},R a b->C l k->C (a::l) (b::k))(l:af x):∀k,l.length=k.length->(∀(i:ah) a b,l[i]? =aa a->k[i]? =aa b->R a b)->C l k:=by
 induction l with
 |nil=>exact λ k e Y=>(List.length_eq_zero_iff.mp e.symm)▸n
 |cons a l f=>
  intro k e h;obtain _|⟨b,k⟩:=k
  ·cbv
  ·exact c (h 0 a b rfl rfl) (f k (Lu e) λ i=>h (i+1))
section
variable{g:G}{Z:Zf}{h:bu}
theorem Kt{n}{l:af IV}{x:af ao}(c:l.length=x.length)(d:∀(i:ah) v u,l[i]? =aa v->x[i]? =aa u->iO n (iz v)=ae->∃as,LK h u (oH (iz v)) as)(a:(qf l).all (iO n)=ae):∃as,ReadsAll h x (FQ (qf l)) as:=by
 rw[M7,We,List.all_eq_true]at a;exact Hy (C:=λ l x=>∃as,ReadsAll h x (FQ (qf l)) as) ⟨_,ReadsAll.nil⟩ (λ⟨_,q⟩ e=>aI e λ Y p=>⟨_,ReadsAll.cons q p⟩) l x c λ i v u b f=>d i v u b f (a v (pR b))
theorem Uv(zh:∀a o,Z a=aa o->h.get? a=aa o){v w}(r:VR g Z v w):∀n,iO n (iz v)=ae->∃as,LK h w (oH (iz v)) as:=by
 have no:∀n,iO n (.bytes #[])≠ae:=λ n=>Nat.casesOn n (by intro j;cbv) λ Y=>(by intro j;cbv)
 refine VR.rec (motive:=λ v w Y=>∀n,iO n (iz v)=ae->∃as,LK h w (oH (iz v)) as) (λ Y Y=>⟨_,Reads.none⟩) (λ Y n e=>absurd e (no n)) (λ Y Y Y Y=>⟨_,Reads.int _ _⟩) (λ Y Y Y Y=>⟨_,Reads.str _ _⟩) (λ x c Y d n f=>?_) (λ x c Y d n f=>?_)
  (λ Y Y Y Y Y Y Y Y Y Y Y n e=>absurd e (no n)) (λ Y Y n e=>absurd e (no n)) (λ Y n e=>absurd e (no n)) (λ n e=>absurd e (no n)) (λ Y Y Y Y Y Y Y n e=>absurd e (no n)) r
 ·obtain _|n:=n
  ·cbv
  ·obtain⟨as,q⟩:=Kt c (λ i v u a b=>d i v u a b n) f;exact vY as (reads_tuple_at (zh _ _ x) rfl rfl q)
 ·obtain _|n:=n
  ·cbv
  ·obtain⟨as,q⟩:=Kt c (λ i v u a b=>d i v u a b n) f;exact vY _ (cc2 (zh _ _ x) rfl rfl q)
theorem RF(zh:∀a o,Z a=aa o->h.get? a=aa o){v w o}(f:FR g Z h v w o)(x:tF v=ae):∃as,LK h w (oH (iz v)) as:=
 FR.casesOn f (λ Y r=>Uv zh r 8) (λ d c x=>aI (Kt c.1 (λ i v u a b=>Uv zh (c.2 i v u a b) 7) x) λ as q=>⟨_,cc2 d rfl rfl q⟩) (λ Y Y Y Y=>(by intro e;cbv)) x
end
section
variable{g:G}{A:eP}{E:ao->aZ->Prop}{Z:Zf}{s:aZ}{Q:ao->aZ->Prop}{x y:IV}{h f:ao}{o1 m:ak aA}{b:al}
theorem So{v}(c:tF v=ae):cc3 (oH (iz v))=ae:=by
 have a:=kqd_lay 8 (iz v) c;unfold cc3;simp only[a.1,Bool.true_and];exact bK (aj a.2 ⋯)
theorem BH{n d k}{v:n}{G:Prop}(e:FR g Z d x h o1)(l:FR g Z d y f m)(hv:rI x y k=aa v)(H:∀i j a c,k i.cps.toList j.cps.toList=aa v->h=.str i a->f=.str j c->G):G:=by
 refine dC (OZ hv) ?_;clear hv;intro i j o p hv;clear BH;subst o;subst p;refine cu (e.strs) λ q a r t=>?_;clear e;subst t;refine cu (l.strs) λ u c w z=>?_;clear l;subst z;exact H q u a c hv r w
theorem yA{e d k}{v:e}{G:Prop}(l:FR g Z d x h o1)(n:FR g Z d y f m)(hv:hX x y k=aa v)(H:∀i j a c,k i j=aa v->h=.int i a->f=.int j c->G):G:=by
 refine dC (CY hv) ?_;clear hv;intro i j o p hv;subst o;subst p;refine aI (l.ints) λ a q=>?_;refine aI (n.ints) λ c r=>?_;exact H i j a c hv q r
theorem ay7(zh:∀a o,Z a=aa o->s.heap.get? a=aa o)(q:A.units+64<BX)(c:FR g Z s.heap x h o1)(d:FR g Z s.heap y f m)(hv:Tz x y=aa b)
  (k:Q (.bool b) s):au g.M A (xq .Eq h f) Q E s:=by
 obtain hv|hv:=kb hv
 ·exact yA c d hv λ i j r t e l n=>l▸n▸PyProof.Rows.eq_int (by simp only[IJ,aS e];exact k)
 obtain hv|hv:=kb hv
 ·exact BH c d hv λ i j r t e l n=>l▸n▸P.eq_str (by simp only[IJ,aS e];exact k)
 ·refine aB λ Y u=>?_;refine EG hv λ v e=>?_;refine dG v λ k1 p=>?_;refine aI (RF zh c k1) λ as w=>?_;refine aI (RF zh d p) λ bs z=>?_;refine u ?_;exact eq_dataH w z (So k1) (So p) q (e.symm▸k)
theorem A7(d:FR g Z s.heap x h o1)(k:FR g Z s.heap y f m)(hv:OC x y=aa b)(l:Q (.bool b) s):au g.M A (xq .NotEq h f) Q E s:=by
 obtain hv|hv:=kb hv
 ·exact yA d k hv λ i j n o e a c=>a▸c▸PyProof.Rows.ne_int (by simp only[JG,aS e];exact l)
 ·exact BH d k hv λ i j n o e a c=>a▸c▸P.ne_str (by simp only[JG,aS e];exact l)
theorem QC{K}[DecidableEq K]{c:KeyKind g.prog g.w K}{a d}(zh:∀a o,Z a=aa o->s.heap.get? a=aa o)(z:CW c Z a d):s.heap.DictOf c a d:=
 kL (z) λ o e i q r=>(mU o e i (zh _ _ q) r)
noncomputable abbrev Ap(g:G)(Z:Zf)(l:af (ag×IV))(c:af (ag×ao)):Prop:=∀(i:ah) k v a u,l[i]? =aa (k,v)->c[i]? =aa (a,u)->k=a/\VR g Z v u
theorem RL{l}{a:af (ag×ao)}(j:l.length=a.length)(n:Ap g Z l a)(k:ag):(iJ k l=none->jD a k=none)/\(∀v,iJ k l=aa v->∃u,jD a k=aa u/\VR g Z v u):=by
 refine Hy (C:=λ l a=>(iJ k l=none->jD a k=none)/\(∀v,iJ k l=aa v->∃u,jD a k=aa u/\VR g Z v u)) ⟨λ Y=>rfl,(by intros;cbv)⟩ (λ{x l y a} r o=>?_) l a j λ i x y=>n i x.1 x.2 y.1 y.2;unfold iJ jD;by_cases c:k=x.1
 ·exact(aT c).symm▸(cc4 (p:=λ d:ag×ao=>decide (d.1=k)) (bK (r.1.symm.trans c.symm))).symm▸⟨(by intro p;cbv),λ v e=>(aL _ rfl (aS e▸r.2))⟩
 ·exact(aM c).symm▸(cc5 (p:=λ d:ag×ao=>decide (d.1=k)) (λ q=>c ((bE q).symm.trans r.1.symm))).symm▸o
theorem FR.CI{i l w o}(k:FR g Z i (.eD l) w o):∃a e,w=.ref a/\i.DictOf (uN g.prog g.w) a e/\(a==oE)=ai/\l.length=e.length/\Ap g Z l e:=by
 refine aB λ Y j=>?_;cases k with
 |val n _=>refine j ?_;cbv
 |eD a b c d=>refine j ?_;exact ax1 _ _ rfl a b c d
theorem VR.PC{l w}(n:VR g Z (.gr l) w):∃a j,∃i:af ah->ao,w=.ref a/\CW (strKind g.prog g.w) Z a j/\(a==oE)=ai/\(∀k v,jk k l=aa v->jD j ⟨k.toArray⟩=aa (i k)/\VR g Z v (i k))/\(∀k,jk k l=BV->jD j ⟨k.toArray⟩=BV):=by
 refine aB λ Y o=>?_;cases n with
 |gr i a b c d e=>refine o ?_;exact MP _ _ i rfl a b (λ k v q=>⟨c k v q,d k v q⟩) e
theorem VR.str_inv{l w}(a:VR g Z (.str l) w):∃t,w=.str ⟨l.toArray⟩ t:=by
 refine cu ((FR.val (h:=({}:bu)) a.az a).strs) λ x t c d=>?_;refine c▸?_;refine d▸?_;exact⟨t,rfl⟩
theorem VR.int_inv{i w}(a:VR g Z (.int i) w):∃t,w=.int i t:=(FR.val (h:=({}:bu)) rfl a).ints
theorem UC{l a}(d:l.length=a.length)(i:Ap g Z l a)(k:ag):(jD a k).isSome=(iJ k l).isSome:=by
 refine bg (RL d i k) λ j n=>?_;rcases c:iJ k l with _|v
 ·rw[j c];rfl
 ·obtain⟨u,e,_⟩:=n v c;rw[e];rfl
noncomputable abbrev Pa(g:G)(A:eP)(E:ao->aZ->Prop)(s:aZ)(Q:ao->aZ->Prop)(h f:ao)(b:al):Prop:=
 ((∀tk,Q (.bool b) {s with toks:=tk})->au g.M A (xq .In h f) Q E s)/\((∀tk,Q (.bool (!b)) {s with toks:=tk})->au g.M A (xq .NotIn h f) Q E s)
theorem Uc{K}[DecidableEq K]{c:KeyKind g.prog g.w K}{k d i}(j:c.is k h=ae)(hd:(d==oE)=ai)(l:s.heap.MapOf c d i)(e:(i k).isSome=b):Pa g A E s Q h (.ref d) b:=
 ⟨λ a=>wpAny_in_of j hd l (e.symm▸a _),λ a=>wpAny_notIn_of j hd l (e.symm▸a _)⟩
theorem Nk(zh:∀a o,Z a=aa o->s.heap.get? a=aa o)(d:FR g Z s.heap x h o1)(n:FR g Z s.heap y f m)(hv:Kr x y=aa b):Pa g A E s Q h f b:=by
 obtain hv|hv:=kb hv
 ·refine BH d n hv λ i j T U e w z=>?_;revert e;refine dQ λ c H e=>?_;have p:i=⟨#[c]⟩:=aD Str.mk (Array.toList_inj.mp (iF H));have e:=(StrLaws.found_one j c).trans (List.contains_eq_mem c j.cps.toList▸e);exact w▸z▸p▸⟨λ q=>P.in_str (e.symm▸q s.toks),λ q=>P.notIn_str (e.symm▸q s.toks)⟩
 obtain hv|hv:=kb hv
 ·revert hv;refine av λ i p=>dQ λ l r e=>?_;rw[dY p]at d;rw[nz r]at n;refine aI (d.ints) λ t X=>X▸?_;refine CZ (n.CI) λ a B C d1 d2 d3 D=>?_;refine C▸?_;exact Uc (by simp[uN,LL]) d2 d1.mapOf ((UC d3 D i).trans e)
 ·revert hv;refine av λ k p=>dQ λ l r e=>?_;rw[gb p]at d;rw[Ru r]at n;refine aI (VR.str_inv (d.vr rfl)) λ t I=>I▸?_;refine GV ((n.vr rfl).PC) λ a B V J L M N O=>?_;refine J▸?_;refine Uc (k:=⟨k.toArray⟩) (by simp[zt,LM]) M (QC zh L).mapOf (Eq.trans ?_ e);rcases u:jk k l with _|v
  ·rw[O k u];rfl
  ·rw[(N k v u).1];rfl
theorem is_none(a:FR g Z s.heap x h o1):plainIs h .none=ae/\(h==oC)=x.cL:=
 FR.casesOn a
  (λ Y r=>VR.casesOn r ⟨rfl,rfl⟩ (λ Y=>⟨rfl,rfl⟩) (λ Y Y=>⟨rfl,rfl⟩) (λ Y Y=>⟨rfl,rfl⟩) (λ Y Y Y=>⟨rfl,rfl⟩) (λ Y Y Y=>⟨rfl,rfl⟩) (λ Y Y Y Y Y Y Y Y Y Y=>⟨rfl,rfl⟩) (λ Y Y=>⟨rfl,rfl⟩) (λ Y=>⟨rfl,rfl⟩) ⟨rfl,rfl⟩ (λ Y Y Y Y Y Y=>⟨rfl,rfl⟩))
  (λ Y Y=>⟨rfl,rfl⟩) (λ Y Y Y Y=>⟨rfl,rfl⟩)
theorem FR.EW{a w o}(c:FR g Z a .none w o):w=.none:=by
 cases c.vr rfl;rfl
theorem EB{op:CmpOp}(zh:∀a o,Z a=aa o->s.heap.get? a=aa o)(w:A.units+64<BX)(d:FR g Z s.heap x h o1)(c:FR g Z s.heap y f m)
  (hv:eX op x y=aa b)(t:∀tk,Q (.bool b) {s with toks:=tk}):au g.M A (xq op h f) Q E s:=by
 have k:Q (.bool b) s:=t s.toks;refine CmpOp.casesOn (motive:=λ op=>eX op x y=aa b->au g.M A (xq op h f) Q E s) op (λ hv=>ay7 zh w d c hv k) (λ hv=>A7 d c hv k)
  (λ hv=>yA d c hv λ i j q r e l n=>l▸n▸P.lt_int ((aS e).symm▸k)) (λ hv=>(kb hv).elim (λ hv=>yA d c hv λ i j q r e l n=>l▸n▸P.le_int ((aS e).symm▸k))
   λ hv=>BH d c hv λ i j q r e l n=>l▸n▸P.le_str ((aS e).symm▸k))
  (λ hv=>yA d c hv λ i j q r e l n=>l▸n▸P.gt_int ((aS e).symm▸k)) (λ hv=>yA d c hv λ i j q r e l n=>l▸n▸P.ge_int ((aS e).symm▸k))
  (λ hv=>?_) (λ hv=>?_) (λ hv=>(Nk zh d c hv).1 t) (λ hv=>aG (wc hv) λ z p e=>(Nk zh d c p).2 (e.symm▸t)) hv
 ·refine EG hv λ p e=>?_;rw[rZ p]at c;refine bg (is_none d) λ u v=>?_;rw[c.EW];exact wpAny_is_plain u (by rw[v,e];exact k)
 ·refine EG hv λ p e=>?_;rw[rZ p]at c;refine bg (is_none d) λ u v=>?_;rw[c.EW];exact wpAny_isNot_plain u (by rw[v,e];exact k)
end
section
variable{g:G}{A:eP}{E:ao->aZ->Prop}{Z:Zf}{s:aZ}
theorem Ni{l:af IV}{a:af ao}(h:l.length=a.length):a.toArray.isEmpty=l.isEmpty:=by
 obtain _|⟨x,l⟩:=l
 ·rw[List.length_eq_zero_iff.mp h.symm];rfl
 ·obtain _|⟨y,a⟩:=a
  ·cbv
  ·rfl
theorem FR.bools{h b w o}(f:FR g Z h (.bool b) w o):w=.bool b:=by
 cases f.vr rfl;rfl
theorem aw6(x:aN):((x.length:ag)!=0)=!x.cps.toList.isEmpty:=by
 simp only[xl,<-oF];obtain _|_:=x.cps.toList<;>simp;exact uR (Cd (dP _) ⋯)
theorem uZ{x}{l:af x}(h:dg l=ae):l.length<=1000000:=bE h
theorem Qd{l:af IV}{x:af ao}(h:l.length=x.length)(a:dg l=ae):(x.toArray.size:ag)<2^63:=by
 have:=uZ a;simp only[oG,<-h];lia
theorem Bh{Q:al->aZ->Prop}{v w o}(zh:∀a o,Z a=aa o->s.heap.get? a=aa o)(f:FR g Z s.heap v w o){b}(hv:eO v=aa b)
  (c:∀tk,Q b {s with toks:=tk}):au g.M A (LN w) Q E s:=by
 obtain hv|hv:=kb hv
 ·revert hv;refine bR λ h e=>?_;rw[rZ h]at f;exact f.EW▸truthy_none (e▸c s.toks)
 obtain hv|hv:=kb hv
 ·rw[av5 hv]at f;exact f.bools▸LO (c s.toks)
 obtain hv|hv:=kb hv
 ·revert hv;refine dQ λ i h e=>?_;rw[dY h]at f;refine aI (f.ints) λ t l=>l▸?_;exact PyProof.Rows.truthy_int (by simp only[JG,e];exact c s.toks)
 obtain hv|hv:=kb hv
 ·revert hv;refine av λ i h=>bR λ d e=>?_;rw[gb h]at f;refine cu (f.strs) λ x t m p=>?_;refine m▸?_;clear h f;subst p;have:=uZ d;exact P.truthy_str (by simp only[xl];rw[oF]at this;lia) (by simp only[aw6,e];exact c _)
 obtain hv|hv:=kb hv
 ·revert hv;refine av λ i h=>bR λ d e=>?_;rw[qt h]at f;refine eh (f.uc) λ b q n r k j=>?_;clear f;subst r;exact truthy_tuple ⟨_,zh _ _ k,rfl,_,rfl⟩ (Qd j.1 d) (by simp only[Ni j.1,e];exact c _)
 ·revert hv;refine av λ i h=>bR λ d e=>?_;refine eh (f.sq zh h) λ b q n u k j=>?_;clear f;subst u;exact wpAny_truthy_list ⟨_,k,rfl,_,rfl⟩ (Qd j.1 d) (by simp only[Ni j.1,e];exact c _)
end
section
variable{g:G}{P:bW}{r:bh}{a:Act}{N:Nt}{X T I J:Xt}{q q':al}
theorem ah0{l x op pos res}(d:bJ g r)(j:FT op x=ai)(p:Pr g r a N X)(k:kU P r (.cmp op (ay a.sc.names l) (ay a.sc.names x)) N.V X.O=res)(b:res≠.stuck):
  fG g r a N (.cmp op (ay a.sc.names l) (ay a.sc.names x)) res X (bM (.Compare l [op] [x] pos) a.env):=by
 refine wpAny_Compare1 (hZ d p.refl (q:=ae) p k b λ v w I e f m h=>?_) j;refine cf h b λ n h=>?_;refine hZ d e f h b λ z H J i c o h=>?_;refine aB λ Y s=>?_;refine bQ h b λ u hv h=>?_;refine aG (m.xF f n i) λ o1 t Y=>?_;obtain⟨A,y,_⟩:=o;refine s ?_;exact EB c.p.wd.zh p.ok.units t y hv λ tk=>.made (e.trans i) c h.symm nofun id (pg c.wd (.bool u))
inductive tL(g:G)(r:bh)(a:Act)(N:Nt)(q:al)(res:RE al)(X:Xt)(b:al)(s':aZ):Prop
 |mk (X':Xt) (hs:s'=X'.s) (h:res=.ok (b,X'.O)) (x:aW q X X') (p:Pr g r a N X'):tL g r a N q res X b s'
noncomputable abbrev rt(g:G)(r:bh)(a:Act)(N:Nt)(q:al)(res:RE al)(X:Xt)(t:mP al):Prop:=au g.M a.A t (tL g r a N q res X) (dk g a res X) X.s
noncomputable def lN(g:G)(r:bh):Prop:=∀a N X ex res,Pr g r a N X->r.T (ay a.sc.names ex) N.V X.O=res->res≠.stuck->rt g r a N (pureE (ay a.sc.names ex)) res X (isTrue ex a.env (bM ex a.env))
theorem CT{f ex k}{res:R (IV×St) f}{Q}(i:lN g r)(j:aW q T X)(p:Pr g r a N X)
  (d:(r.T (ay a.sc.names ex) N.V X.O).aw k=res)(l:res≠.stuck)
  (m:∀b c,aW (pureE (ay a.sc.names ex)) X c->Pr g r a N c->k b c.O=res->Q b c.s):
  au g.M a.A (isTrue ex a.env (bM ex a.env)) Q (dk g a res T) X.s:=
 bI (i a N X ex _ p rfl (qJ d l)) (λ b n ⟨c,o,h,x,s⟩=>o▸m b c x s (Eu d h)) λ e n ⟨v,t,h,x⟩=>⟨v,t,Dv d h,x.pre j⟩
theorem dk.pre{c}{res:R (IV×St) c}{e b}(x:aW q X I)(h:dk g a res I e b):dk g a res X e b:=let⟨v,d,h,y⟩:=h;⟨v,d,h,y.pre x⟩
theorem dR.after{ie ie' res w c}(x:aW q X I)(d:∀y,ie≠.var y)(i:fresh ie=ae->fresh ie'=ae)(j:pureE ie=ae->(q&&pureE ie')=ae)(h:dR g r a N ie' res I w c):dR g r a N ie res X w c:=
 let⟨v,J,l,h,m,n,o,f,k⟩:=h
 ⟨v,J,l,h,(x.trans m).le j,n,o,f,λ b e=>⟨λ p=>bg ((k b e).1 (i p)) λ k1 s=>⟨aj x.st.size k1,s⟩,λ y e=>absurd e (d y)⟩⟩
theorem dR.rs{ie res v w tk}(x:aW (pureE ie) X I)(b:Pr g r a N I)(rs:Rs g N ie X I v w)(h:res=.ok (v,I.O)):dR g r a N ie res X w {I.s with toks:=tk}:=
 let⟨o,f,k⟩:=rs
 ⟨v,I.tk tk,rfl,h,x.tk tk,b.tk tk,o,f,k⟩
theorem bd2{x pos res}(e:bJ g r)(p:Pr g r a N X)(f:kU P r (.not (ay a.sc.names x)) N.V X.O=res)(d:res≠.stuck):
  fG g r a N (.not (ay a.sc.names x)) res X (bM (.UnaryOp .Not x pos) a.env):=by
 refine cc6 (hZ e p.refl (q:=ae) p f d λ v w I i h j c=>?_);refine bQ c d λ b hv c=>?_;obtain⟨o1,k,_⟩:=j;exact not_of (Bh h.wd.zh k hv λ tk=>.made i h c.symm nofun id (pg h.wd (.bool _)))
theorem Yg{t x y}{pos:ey}{res}(i:bJ g r)(l:lN g r)(p:Pr g r a N X)(m:kU P r (.ite (ay a.sc.names t) (ay a.sc.names x) (ay a.sc.names y)) N.V X.O=res)(d:res≠.stuck):
  fG g r a N (.ite (ay a.sc.names t) (ay a.sc.names x) (ay a.sc.names y)) res X (bM (.IfExp t x y pos) a.env):=by
 refine wpAny_IfExp (CT l p.refl (q:=ae) p m d λ b I c j k=>?_);obtain _|_:=b
 ·exact bI (i a N I y res j k d) (λ w f h=>h.after c nofun (λ e=>(aP e)) λ e=>by simp only[(aH e),(aP ((aP e)))];rfl) λ e f h=>h.pre c
 ·exact bI (i a N I x res j k d) (λ w f h=>h.after c nofun (λ e=>(aH e)) λ e=>by simp only[(aH e),(aH ((aP e)))];rfl) λ e f h=>h.pre c
theorem bu3{M A o pos m d l Q E s}(h:au M A m (λ v e=>au M A (LN v) (λ b c=>(tJ o b=ae->Q v c)/\(tJ o b=ai->au M A (Wf pos o (d::l)) Q E c)) E e) E s):au M A (Wf pos o (m::d::l)) Q E s:=by
 refine aq (bI h (λ v e h=>aq (oI (aq (kf (bI h (λ b c h=>?_) λ Y Y x=>x))))) λ Y Y x=>x);obtain _|_:=o
 ·obtain _|_:=b
  ·exact aR (h.1 rfl)
  ·exact h.2 rfl
 ·obtain _|_:=b
  ·exact h.2 rfl
  ·exact aR (h.1 rfl)
theorem UH{c:Type}{b}{x y z:c}{G:Prop}(h:(bif b then x else y)=z)(d:b=ae->x=z->G)(e:b=ai->y=z->G):G:=by
 obtain _|_:=b
 ·exact e rfl h
 ·exact d rfl h
theorem bm3(n:bJ g r){o}{pos:ey}(x:af bA):∀{X res},Pr g r a N X->bools r o (bV a.sc.names x) N.V X.O=res->res≠.stuck->fG g r a N (.bool o (bV a.sc.names x)) res X (Wf pos o (evalEach x a.env)):=by
 induction x with
 |nil=>exact λ p f c=>absurd f.symm c
 |cons e x t=>
  intro X res p f c;obtain _|⟨u,x⟩:=x
  ·exact bI (n a N X e res p f c) (λ w i h=>h.after (q:=ae) p.refl nofun (λ e=>(aH e)) λ e=>(aH e)) λ e i h=>h
  ·refine bu3 (hZ n p.refl (q:=ae) p f c λ v w I j k s d=>?_);refine bQ d c λ b hv d=>?_;have l:=s;obtain⟨o1,l,_⟩:=l;refine Bh k.wd.zh l hv λ tk=>⟨λ m=>?_,λ m=>?_⟩
   ·rw[m]at d;exact(dR.rs j k s d.symm).after (q:=ae) p.refl nofun (λ e=>(aH e)) λ e=>(aH e)
   ·rw[m]at d;exact bI (t (k.tk tk) d c) (λ w i h=>h.after (ie':=.bool o (bV a.sc.names (u::x))) (j.tk tk) nofun (λ e=>(aP e)) id) λ e i h=>h.pre (j.tk tk)
theorem ba7{h o pos res}(x:bJ g r)(p:Pr g r a N X)(b:kU P r (.bool o (bV a.sc.names h)) N.V X.O=res)(c:res≠.stuck):
  fG g r a N (.bool o (bV a.sc.names h)) res X (bM (.BoolOp o h pos) a.env):=by
 exact bm3 x h p b c
theorem au9{M A o x rest env Q E s}(h:au M A (isTrue x env (bM x env)) (λ b c=>(tJ o b=ae->Q b c)/\(tJ o b=ai->au M A (Wg o rest env) Q E c)) E s):au M A (Wg o (x::rest) env) Q E s:=by
 obtain _|_:=o
 ·exact wpAny_allTrue_And_cons (bI h (λ b c h=>by
   cases b with
   |true=>exact h.2 rfl
   |false=>exact h.1 rfl) λ Y Y x=>x)
 ·exact wpAny_allTrue_Or_cons (bI h (λ b c h=>by
   cases b with
   |true=>exact h.1 rfl
   |false=>exact h.2 rfl) λ Y Y x=>x)
theorem tL.after{res c b d}(x:aW q X I)(e:c=ae->(q&&q')=ae)(h:tL g r a N q' res I b d):tL g r a N c res X b d:=
 let⟨J,f,h,i,j⟩:=h
 ⟨J,f,h,(x.trans i).le e,j⟩
theorem bq5(l:lN g r){o:BoolOp}(x:af bA):∀{X res},Pr g r a N X->sC r o (bV a.sc.names x) N.V X.O=res->res≠.stuck->rt g r a N (pureEs (bV a.sc.names x)) res X (Wg o x a.env):=by
 induction x with
 |nil=>
  intro X res p c f;obtain _|_:=o
  ·exact wpAny_allTrue_And_nil ⟨X,rfl,c.symm,p.refl,p⟩
  ·exact wpAny_allTrue_Or_nil ⟨X,rfl,c.symm,p.refl,p⟩
 |cons e x m=>
  intro X res p c f;refine au9 (CT l p.refl (q:=ae) p c f λ b I i k d=>⟨λ j=>?_,λ j=>?_⟩)
  ·rw[j]at d;exact⟨I,rfl,d.symm,i.le λ e=>(aH e),k⟩
  ·rw[j]at d;exact bI (m k d f) (λ w n h=>h.after i id) λ e n h=>h.pre i
theorem ay5{h o pos x res}(b:lN g r)(p:Pr g r a N X)(c:stepT r (.bool o (bV a.sc.names h)) N.V X.O=res)(d:res≠.stuck):
 rt g r a N (pureE (.bool o (bV a.sc.names h))) res X (isTrue (.BoolOp o h pos) a.env x):=wpAny_isTrue_BoolOp (bq5 b h p c d)
theorem T3{x pos}{h:mP ao}{res}(c:lN g r)(p:Pr g r a N X)(d:stepT r (.not (ay a.sc.names x)) N.V X.O=res)(e:res≠.stuck):
  rt g r a N (pureE (.not (ay a.sc.names x))) res X (isTrue (.UnaryOp .Not x pos) a.env h):=
 isTrue_not (CT c p.refl (q:=ae) p d e λ b I f i j=>⟨I,rfl,j.symm,f,i⟩)
theorem TV{ex res}(d:bJ g r)(p:Pr g r a N X)
  (e:isTrue ex a.env (bM ex a.env)=(do let v<-bM ex a.env;FU ex.pos;holding [v] (LN v)))
  (f:((r.E (ay a.sc.names ex) N.V X.O).aw λ v O=>R.opt (eO v) λ b=>.ok (b,O))=res)(x:res≠.stuck):
  rt g r a N (pureE (ay a.sc.names ex)) res X (isTrue ex a.env (bM ex a.env)):=by
 refine wpAny_isTrue_value (hZ d p.refl (q:=ae) p f x λ v w I i c j h=>?_) e;refine bQ h x λ b hv h=>?_;obtain⟨o1,k,_⟩:=j;exact Bh c.wd.zh k hv λ tk=>⟨I.tk tk,rfl,h.symm,i.tk tk,c.tk tk⟩
theorem bindC{Q l i j o1 B k}{res:R (IV×St) Q}{F G:ao->aZ->Prop}{H:ao->aZ->Prop}(n:bJ g r)(p:Pr g r a N X)
  (U:(jS r o1 B (ay a.sc.names l) (ay a.sc.names i) (ay a.sc.names j) N.V X.O).aw k=res)(f:res≠.stuck)
  (V:∀b d tk,aW (pureE (ay a.sc.names l)&&(pureE (ay a.sc.names i)&&pureE (ay a.sc.names j))) X d->Pr g r a N d->k b d.O=res->F (.bool b) {d.s with toks:=tk})
  (Z:∀d tk,aW (pureE (ay a.sc.names l)&&(pureE (ay a.sc.names i)&&pureE (ay a.sc.names j))) X d->Pr g r a N d->k ai d.O=res->G (.bool ai) {d.s with toks:=tk})
  (hH:∀b s,au g.M a.A (bM j a.env) (λ z s=>au g.M a.A (xq B b z) F (dk g a res X) s) (dk g a res X) s->H b s):
  au g.M a.A (bM l a.env) (λ x s=>au g.M a.A (bM i a.env) (λ y s=>au g.M a.A (xq o1 x y) (λ c s=>au g.M a.A (LN c) (λ t s=>if t=ae then H y s else G c s) (dk g a res X) s) (dk g a res X) s) (dk g a res X) s) (dk g a res X) X.s:=by
 refine hZ n p.refl (q:=ae) p (mY.symm.trans U) f λ v w I C p1 a0 h=>?_;have h:=mY.symm.trans h;refine hZ n C p1 h f λ v2 w2 J D o a8 h=>?_;refine aB λ Y u=>?_;refine cf (zW.symm.trans h) f λ hs h=>?_;refine bQ (JH.symm.trans h) f λ t hv h=>?_;obtain⟨E,m⟩:=ej hs;obtain⟨_,f1,_⟩:=a0;obtain⟨_,L,_⟩:=a8;refine u ?_;refine EB o.p.wd.zh p.ok.units (.val E ((f1.vr E).mono D.st.zz)) (.val m (L.vr m)) hv λ tk=>LO ?_;have A:=C.trans D;obtain _|_:=t
 ·exact Z J tk (A.le λ e=>by simp only[(aH e),(aH ((aP e)))];rfl) o h
 ·refine hH _ _ (hZ n (A.tk tk) (o.tk tk) (mY.symm.trans h) f λ v3 w3 X3 M O a9 h=>?_);refine aB λ Y u=>?_;refine bQ (JH.symm.trans h) f λ t hv h=>?_;obtain⟨_,f3,_⟩:=a9;refine u ?_;exact EB O.p.wd.zh p.ok.units (.val m ((L.vr m).mono M.st.zz)) f3 hv λ b0=>V t X3 b0 (((A.tk tk).trans M).le λ e=>by rw[cc7];exact e) O h
theorem aa2{l f e o1 i}{pos:ey}{j res}(k:bJ g r)(m:FT i e=ai)(p:Pr g r a N X)
  (n:stepT r (.jS o1 i (ay a.sc.names l) (ay a.sc.names f) (ay a.sc.names e)) N.V X.O=res)(o:res≠.stuck):
  rt g r a N (pureE (.jS o1 i (ay a.sc.names l) (ay a.sc.names f) (ay a.sc.names e))) res X (isTrue (.Compare l [o1,i] [f,e] pos) a.env j):=by
 have self:∀x:RE al,x.aw (λ v O=>.ok (v,O))=x:=λ x=>by obtain _|_:=x<;>rfl
 have fin:∀b d tk,aW (pureE (ay a.sc.names l)&&(pureE (ay a.sc.names f)&&pureE (ay a.sc.names e))) X d->Pr g r a N d->R.ok (b,d.O)=res->tL g r a N (pureE (.jS o1 i (ay a.sc.names l) (ay a.sc.names f) (ay a.sc.names e))) res X b {d.s with toks:=tk}:=λ b d tk x p h=>
  ⟨d.tk tk,rfl,h.symm,x.tk tk,p.tk tk⟩
 exact isTrue_chain (bI (bindC k p ((self _).trans n) o (G:=λ c s=>tL g r a N _ res X ai s)
  (λ b d tk x p h=>LO (fin b d tk x p h)) (λ d tk x p h=>fin ai d tk x p h) λ b s h=>test_last h) (λ Y Y h=>test_link h) λ Y Y x=>x) m
theorem af8{l e d}{o1 f:CmpOp}{pos res}(i:bJ g r)(j:FT f d=ai)(p:Pr g r a N X)
  (k:kU P r (.jS o1 f (ay a.sc.names l) (ay a.sc.names e) (ay a.sc.names d)) N.V X.O=res)(m:res≠.stuck):
  fG g r a N (.jS o1 f (ay a.sc.names l) (ay a.sc.names e) (ay a.sc.names d)) res X (bM (.Compare l [o1,f] [e,d] pos) a.env):=by
 have fin:∀b c tk,aW (pureE (ay a.sc.names l)&&(pureE (ay a.sc.names e)&&pureE (ay a.sc.names d))) X c->Pr g r a N c->R.ok (IV.bool b,c.O)=res->dR g r a N (.jS o1 f (ay a.sc.names l) (ay a.sc.names e) (ay a.sc.names d)) res X (.bool b) {c.s with toks:=tk}:=λ b c tk x p h=>
  .made x p h.symm nofun id (pg p.wd (.bool b))
 exact Compare_chain (bI (bindC i p k m
  fin (λ c tk x p h=>fin ai c tk x p h) λ b s h=>chain_last h) (λ Y Y h=>chain_link h) λ Y Y x=>x) j
end
theorem Hc{a c}{b:al}{x res:R a c}{G:Prop}(d:res≠.stuck)(k:b=ae->x=res->G)(h:R.ax b x=res):G:=cf h d k
theorem YK{x a b}{o:ak b}{f:b->R x a}{res:R x a}{G:Prop}(c:res≠.stuck)(k:∀v,o=aa v->f v=res->G)(h:R.opt o f=res):G:=bQ h c k
theorem ki{a:Type}{c:Prop}[xg c]{x y z:a}{G:Prop}(b:c->x=z->G)(d:¬c->y=z->G)(h:(if c then x else y)=z):G:=fJ h b d
theorem fH{a:Type}{x y:ak a}{v:a}{G:Prop}(b:x=aa v->G)(c:y=aa v->G)(h:x.or y=aa v):G:=by
 obtain _|x:=x
 ·exact c h
 ·exact b h
section
variable{g:G}{A:eP}{E:ao->aZ->Prop}{Z:Zf}{s:aZ}
theorem uj{a slice o i T id ops Q}(hT:s.TypeIs o T)
  (c:Wh (.type T) "__getitem__"=fO (aa (.builtin id)))(h:au g.M A (zu o i) Q E s)
  (d:LP slice ai o i=Wi ops (zu o i)):
  au g.M A (zv a slice o i) Q E s:=by
 refine aq ?_;refine aq (cc8 hT c ?_);have fin:au g.M A (LP slice ai o i) (λ r b=>au g.M A (letTemporaryGo a o r>>=λ Y=>fO r) Q E b) E s:=by
  exact(d).symm▸wpAny_operating (bI h (λ r b e=>aq (wpAny_letTemporaryGo (aR e))) λ Y Y x=>x)
 first
  |exact aR (aq fin)
  |exact aq (aR (aq fin))
  |exact aq fin
theorem Jh{x p}[xg p]{f:p->x}(h:eN f=none):¬p:=λ q=>(by cases((dif_pos q).symm.trans h))
theorem AG{x:bA}(h:vM x=none)(o i:ao):LP x ai o i=Wi [o,i] (zu o i):=by
 replace h:=Jh h;obtain _|_:=x<;>first|rfl|exact absurd rfl h
theorem II{i n k}(h:jC i n=aa k):(-1000000<=i/\i<=1000000)/\FV i n=aa k:=by
 unfold jC at h;split at h
 ·exact⟨‹_›,h⟩
 ·cbv
theorem ca6{a}{d:af ao}{i t j x Q}(e:s.heap.IsList a d.toArray)(k:-1000000<=i)(l:i<=1000000)(b:FV i d.length=aa j)(f:d[j]? =aa x)(h:Q x s):
  au g.M A (zu (.ref a) (.int i t)) Q E s:=by
 unfold FV at b;simp only at b;by_cases c:i<0
 ·rw[aT c]at b;split at b<;>cases b
  rename_i m
  simp only[xm,FP]at m;exact wpAny_getItem_list_neg e c (by simp;lia) (bH ⋯ k) (by simpa using f) h
 ·rw[aM c]at b;split at b<;>cases b;exact wpAny_getItem_list e (Int.not_lt.mp c) (lZ l ⋯) (by simpa using f) h
theorem bD.at{l a}(r:bD g Z l a){j:ah}{u}(h:l[j]? =aa u):∃x,a[j]? =aa x/\VR g Z u x:=by
 have b:=(r.1)▸(List.getElem?_eq_some_iff.mp h).1;exact aL (a[j]) (sN b) (r.2 j u _ h (sN b))
section
variable{h slice:bA}{Q:ao->aZ->Prop}{v u:IV}{w b:ao}{o c:ak aA}
theorem am4{l:af IV}{i:ag}{t a d n}(f:vM slice=none)(e:s.heap.get? a=aa (cQ d n))(r:bD g Z l d)(hv:((jC i l.length).bind λ k=>l[k]?)=aa u)(m:∀x tk,VR g Z u x->Q x {s with toks:=tk}):
  au g.M A (zv h slice (.ref a) (.int i t)) Q E s:=by
 refine aB λ Y p=>?_;refine iD hv λ j hp hv=>?_;refine bg (II hp) λ q y=>?_;refine bg (q) λ z H=>?_;refine aG (r.at hv) λ x X B=>?_;refine p ?_;exact uj ⟨_,e,rfl⟩ cc9 (ca6 ⟨_,e,rfl,_,rfl⟩ z H ((r.1)▸y) X (m x s.toks B)) (AG f _ _)
theorem ag6{i}{t:uM}(k:vM slice=none)(zh:∀a o,Z a=aa o->s.heap.get? a=aa o)(f:FR g Z s.heap v w o)(hv:yj v i=aa u)(m:∀x tk,VR g Z u x->Q x {s with toks:=tk}):
  au g.M A (zv h slice w (.int i t)) Q E s:=by
 revert hv;refine fH (λ hv=>?_) λ hv=>?_
 ·revert hv;refine av λ l d=>av λ j hp=>dQ λ y D e=>?_;refine bg (II hp) λ I p=>?_;obtain⟨z,H⟩:=I;rw[gb d]at f;refine aI ((f.vr rfl).str_inv) λ t J=>J▸?_;refine uj (FW s _ t) slot_str_getitem.lookup (P.getItem_str (c:=y) (by simp;lia) ?_ (m _ _ (e▸.xO rfl))) (AG k _ _);show(FV i l.toArray.size).bind (l.toArray[·]?)=aa y;exact(oG).symm▸(p).symm▸(cd0 ..).trans D
 revert hv;refine fH (λ hv=>?_) λ hv=>?_
 ·revert hv;refine av λ l d hv=>?_;refine eh (f.sq zh d) λ X L n M N O=>?_;refine M▸?_;exact am4 k N O hv m
 revert hv;refine fH (λ hv=>?_) λ hv=>?_
 ·revert hv;refine av λ l d=>av λ j hp hv=>?_;refine bg (II hp) λ T p=>?_;obtain⟨z,H⟩:=T;rw[qt d]at f;refine eh (f.uc) λ X L n U B C=>?_;refine U▸?_;refine aG (C.at hv) λ x q r=>?_;exact uj ⟨_,zh _ _ B,rfl⟩ slot_tuple_getitem.lookup (PyProof.Rows.getItem_tuple ⟨_,zh _ _ B,rfl,_,rfl⟩ (bH ⋯ z) (lZ H ⋯) ((oG).symm▸(C.1)▸p) ((cd0 ..).trans q) (m x s.toks r)) (AG k _ _)
 ·revert hv;refine av λ l d hv=>?_;rw[nz d]at f;refine CZ (f.CI) λ X a0 V d1 d2 d3 d4=>?_;refine V▸?_;refine aG ((RL d3 d4 i).2 u hv) λ x q r=>?_;exact uj d1.typeIs slot_dict_getitem.lookup (cd1 (by simp[uN,LL]) d1.mapOf q (m x _ r)) (AG k _ _)
theorem ah5{k}(j:vM slice=none)(zh:∀a o,Z a=aa o->s.heap.get? a=aa o)(f:FR g Z s.heap v w o)(d:FR g Z s.heap k b c)(hv:nG v k=aa u)(m:∀x tk,VR g Z u x->Q x {s with toks:=tk}):
  au g.M A (zv h slice w b) Q E s:=by
 revert hv;refine fH (λ hv=>?_) λ hv=>?_
 ·revert hv;refine av λ i e hv=>?_;rw[dY e]at d;refine aI (d.ints) λ t p=>p▸?_;exact ag6 j zh f hv m
 ·revert hv;refine av λ i e=>av λ l q hv=>?_;rw[gb e]at d;rw[Ru q]at f;refine aI ((d.vr rfl).str_inv) λ t r=>r▸?_;refine GV ((f.vr rfl).PC) λ H X B y z C n D=>?_;refine y▸?_;have d1:=QC zh z;exact uj d1.typeIs slot_dict_getitem.lookup (cd1 (by simp[zt,LM]) d1.mapOf (n _ _ hv).1 (m _ _ (n _ _ hv).2)) (AG j _ _)
end
theorem VR.handed{v w}(h:VR g Z v w):FK w=ae:=
 VR.casesOn h rfl (λ Y=>rfl) (λ Y Y=>rfl) (λ Y Y=>rfl) (λ Y Y Y=>rfl) (λ Y Y Y=>rfl) (λ Y Y Y Y Y Y Y Y Y Y=>rfl) (λ Y Y=>rfl) (λ Y=>rfl) rfl (λ Y Y Y Y Y Y=>rfl)
theorem FR.handed{h v w o}(f:FR g Z h v w o):FK w=ae:=
 FR.casesOn f (λ Y r=>r.handed) (λ Y Y=>rfl) (λ Y Y Y Y=>rfl)
structure Iq(g:G)(Z:Zf)(c:Nm)(fs:af (Nm×IV))(w:ao)(C a dx:aA)(o od:cP)(gv:Nm->ao):Prop where
 eq:w=.ref a
 cls:g.cA c=aa C
 obj:Z a=aa o
 oc:o.cls=.ref C
 nc:BU o=ae
 T6:o.dict=aa dx
 dict:Z dx=aa od
 has:∀f v,lk f fs=aa v->LC (strOf f) od=aa (aa (gv f))
 val:∀f v,lk f fs=aa v->VR g Z v (gv f)
 pv:∀f,lk f fs=none->LC (strOf f) od=aa none
theorem VR.Rz{c b w}(h:VR g Z (.ba c b) w):∃C a d o od x,Iq g Z c b w C a d o od x:=by
 refine aB λ Y e=>?_;cases h with
 |ba x f i j k l m n p q=>refine e ?_;exact⟨_,_,_,_,_,x,rfl,f,i,j,k,l,m,n,p,q⟩
theorem Iq.at{c b w C a d o od e}(x:Iq g Z c b w C a d o od e){h}(zh:∀a o,Z a=aa o->h.get? a=aa o):InstAt h a o C (aa od):=⟨zh _ _ x.obj,x.oc,x.nc,by exact(x.T6).symm▸zh _ _ x.dict⟩
theorem VR.objs{w}(h:VR g Z .obj w):∃C a x,w=.ref a/\g.cA .bL=aa C/\Z a=aa (dD C x):=by
 refine aB λ Y b=>?_;cases h with
 |obj c d=>refine b ?_;exact ui _ _ _ rfl c d
end
section
variable{prog:mf}{w:fE}{A:eP}{E:ao->aZ->Prop}{s:aZ}{K:dc}{x C:aA}{h:cP}{od:ak cP}{name:aN}{expr:al}{Q:ao->aZ->Prop}
theorem bc0{v}(X:K.In s.heap)(I:InstAt s.heap x h C od)(b:iM K (.ref C) "__getattribute__"=aa (aa (.builtin "BaseException.__getattribute__")))(c:iM K (.ref C) "__getattr__"=aa none)(f:qO K C (.type "BaseException")=aa ae)
  (i:findObj K C od name=aa (.value v))(j:FK v=ae)(k:Q v {s with toks:=s.toks+1}):au (bG prog w) A (Ce (.ref x) name expr) Q E s:=by
 obtain⟨hp,g,d,t,os⟩:=s;have a:=I.type (M:=bG prog w);have l:=looks_find (M:=bG prog w) X I i;have m:=uT (M:=bG prog w) X f;have n:ip (bG prog w) hp (Wj (.ref x) (.type "BaseException")) ae:=a.andThen m;refine aq (LR (kf (aq (a.at (aq ((xr X b).at ?_))))));show au _ _ (getAttrByItsOwn (.ref x) (.str name t) (.ref C) (.builtin "BaseException.__getattribute__") ae expr) _ _ _;refine aq ((xr (M:=bG prog w) X c).at ?_);have e:callGetattribute (.ref x) (.str name t) (.builtin "BaseException.__getattribute__") expr=cd2 (.builtin "BaseException.__getattribute__") (.ref x) (.str name t):=by obtain _|_:=expr<;>rfl
 rw[e];unfold cd2;refine aq (Wk (kf (aq (aR ?_))));have o:splitId "BaseException.__getattribute__"=aa ("BaseException","__getattribute__"):=by decide+kernel
 refine uU ?_;refine cd3 (by decide+kernel) F.entry_bexc_ga ?_;refine Wl (i:="BaseException.__getattribute__") (by decide+kernel) o n (F.args_bexc_ga _ _) ?_;refine aq (aR ?_);refine aq (aR (aq (a.at (aq (l.at ?_)))));refine aR ?_;show au _ _ (handedOut v) _ _ _;rw[handedOut_of j];exact aR k
end
section
variable{g:G}{P:bW}{r:bh}{a:Act}{N:Nt}{X I H A:Xt}{q q':al}
theorem N8{l x pos res}(j:bJ g r)(s:vM x=none)(p:Pr g r a N X)(t:kU P r (.idx (ay a.sc.names l) (ay a.sc.names x)) N.V X.O=res)(c:res≠.stuck):
  fG g r a N (.idx (ay a.sc.names l) (ay a.sc.names x)) res X (bM (.Subscript l x pos) a.env):=by
 refine Subscript_ (hZ j p.refl (q:=ae) p t c λ v w H k m n h=>?_);refine cf h c λ y h=>?_;refine hZ j k m h c λ C D A d e z h=>?_;refine bQ h c λ u hv h=>?_;have i:∃o1,FR g A.Z A.s.heap v w o1:=by
  obtain q|q:=gV y
  ·obtain⟨o,f,_⟩:=n.xF m q d;exact vY o f
  ·obtain⟨o,f,_⟩:=n;exact vY o (f.map d.st.zz λ b Y=>(d.pu q).2 b)
 refine aI (i) λ o1 i=>?_;obtain⟨E,B,_⟩:=z;exact ah5 s e.wd.zh i B hv λ w tk vr=>.made (k.trans d) e h.symm nofun id (pg e.wd vr)
theorem yy{ex}(c:qe ex=none)(x:aN)(env:mh)(h:mP ao):LU ex x env h=h:=by
 cases ex with
 |Call f args b pos=>cases f with
  |Name=>cases args with
   |nil=>cases b with
    |nil=>cbv
    |cons=>rfl
   |cons=>rfl
  |_=>rfl
 |_=>rfl
inductive sa(S:af aA)(h:bu)(f:Nm)(x:ao):Prop
 |mk (d:aA) (es:af ke) (n:ah) (h1:S[0]? =aa d) (h2:h.get? d=aa (gW es n)) (h3:fN (strOf f) es=aa (aa x)):sa S h f x
theorem Hu{u f w}(tk:lV g P)(p:Pr g r a N X)(fr:VR g X.Z .obj w)(c:P.cZ .bL f=ae)(hv:(X.O.bind λ i=>lk f i)=aa u){Q E}
  (t:∀x j tk,FR g X.Z X.s.heap u x j->(∀l b,u=.lst l->j=aa b->X.S[tB f]? =aa b)->sa X.S X.s.heap f x->Q x {X.s with toks:=tk}):au g.M a.A (Ce w (strOf f) ae) Q E X.s:=by
 refine aB λ Y h=>?_;refine iD hv λ i v hv=>?_;have sc:=p.p.sc;rw[v]at sc;refine qI (sc) λ M C d k n cc sc=>?_;refine eh (fr.objs) λ O T U y z m=>?_;clear fr;subst y;rw[<-(aS (sc.cls.symm.trans z))]at m;refine h ?_;rw[sc.uniq _ _ m];refine aB λ Y h=>?_;refine aG (sc.has f u hv) λ x o s=>?_;obtain⟨_,B,attr,D,J⟩:=tk.cZ _ f _ c sc.cls;refine h ?_;exact get_own p.p.F p.ok.K (⟨p.zh sc.inst,rfl,rfl,sc.dict⟩:InstAt X.s.heap _ (dD C d) C (aa (gW k n))) (tk.RG f _ c sc.cls) B D J o s.handed (t _ _ _ s (λ l b e L=>sc.pos f b l (e▸hv) L) ⟨d,k,n,sc.s0,sc.dict,o⟩)
theorem be4{u f w c m}(tk:lV g P)(p:Pr g r a N X)(fr:VR g X.Z (.ba c m) w)(hv:bo (lk f m) (λ v=>aE (P.cZ c f) v) (P.oa c f)=aa u){Q E}
  (n:∀x t tk,FR g X.Z X.s.heap u x t->Q x {X.s with toks:=tk}):au g.M a.A (Ce w (strOf f) ae) Q E X.s:=by
 refine aB λ Y h=>?_;refine qI (fr.Rz) λ C b M ob od z x=>?_;have i:=x.at p.wd.zh;refine h ?_;rw[x.eq];refine dW (G:=λ o=>o=aa u->_) (λ O d hv=>?_) (λ d hv=>?_) hv
 ·refine aB λ Y h=>?_;revert hv;refine bR λ B D=>?_;clear hv;subst D;obtain⟨t1,j,attr,k,l⟩:=tk.cZ _ f _ B x.cls;have e:=x.val f _ d;have fo:=findObj_own j k l (x.has f _ d);have fin:=λ tk=>n (z f) _ tk (.val e.az e);refine h ?_;obtain t1|t1:=t1
  ·exact get_value (p.ok.K.keeps p.p.F.keep) i (LV t1).1 fo e.handed (fin _)
  ·exact bc0 (p.ok.K.keeps p.p.F.keep) i (cH (aH t1)) (cH (aH ((aP t1)))) (cH (aP ((aP t1)))) fo e.handed (fin _)
 ·refine aB λ Y h=>?_;obtain⟨t1,j,y,k,l,s,J,L⟩:=tk.QU _ f _ _ hv x.cls;have vr:=L.mono p.p.kz;refine h ?_;exact get_value (p.ok.K.keeps p.p.F.keep) i (LV t1).1 (findObj_cls j k l s J (x.pv f d)) s (n _ _ _ (.val vr.az vr))
theorem SA(tk:lV g P)(p:Pr g r a N X){v u f w o}(fr:FR g X.Z X.s.heap v w o)(hv:cG P v f X.O=aa u){Q E}
  (d:∀x b tk,FR g X.Z X.s.heap u x b->Q x {X.s with toks:=tk}):au g.M a.A (Ce w (strOf f) ae) Q E X.s:=by
 refine dW (G:=λ o=>o=aa u->au g.M a.A (Ce w (strOf f) ae) Q E X.s) (λ c h hv=>?_) (λ Y hv=>?_) hv
 ·rw[pk h]at fr;exact be4 tk p (fr.vr rfl) hv d
 ·by_cases h:(v.isObj&&P.cZ .bL f)=ae
  ·rw[aT h]at hv;rw[rj (aH h)]at fr;exact Hu tk p (fr.vr rfl) (aP h) hv λ x b tk fr Y Y=>d x b tk fr
  ·exact nomatch(aM h).symm.trans hv
theorem D0{ex x f pos res}(tk:lV g P)(j:bJ g r)(k:cy x=aa f)(p:Pr g r a N X)(l:qe ex=none)(m:kU P r (.attr (ay a.sc.names ex) f) N.V X.O=res)(d:res≠.stuck):
  fG g r a N (.attr (ay a.sc.names ex) f) res X (bM (.Attribute ex x pos) a.env):=by
 refine LW (hZ j p.refl (q:=ae) p m d λ v w H n i o h=>?_) (by simp only[LX,yy l]);refine bQ h d λ u hv h=>?_;obtain⟨o1,s,_⟩:=o;exact(eC k)▸SA tk i s hv λ x t c fr=>⟨u,H.tk c,rfl,h.symm,n.tk c,i.tk c,t,fr,λ b e=>⟨(by intro y;cbv),(by intros;cbv)⟩⟩
end
section
variable{prog:mf}{w:fE}{A:eP}{E:ao->aZ->Prop}{s:aZ}
theorem as1(b n:ah)(h:b<=n):Wm none (aa (b:ag)) 1 (n:ag)=(0,(b:ag)):=by
 unfold Wm;simp;exact Wn (Int.ofNat_le.mpr h)
theorem H9(b:ah):LY 0 (b:ag) 1=b:=by
 unfold LY;have x:(1:ag)>0:=⋯;simp only[x,xt,cd4];split
 ·rw[Wo,Fy,uQ]
 ·rename_i h;exact(Nat.eq_zero_of_not_pos λ q=>h (Int.ofNat_lt.mpr q)).symm
theorem bb7{c}{b n:ah}{u Q}(d:s.heap.IsSliceOf c .none (.int b u) .none)(e:b<=n)(h:Q (0,1,b) s):
  au (bG prog w) A (cd5 (.ref c) (fO (n:ag))) Q E s:=by
 refine aB λ Y f=>?_;refine dJ (id d) λ os x i a=>?_;refine f ?_;delta cd5 Builtin.Slice.sliceFields;refine aq (aq (mj x a (x:=.none) rfl (aq (mj x a (x:=.int b u) rfl (aq (mj x a (x:=.none) rfl (aR ?_)))))));refine aq (cd6 ?_);refine aq (cd6 (aq (slicePart_int (aq (aR ?_)))));show au _ _ (match Wm none (aa (b:ag)) 1 (n:ag)with|(lo,g)=>fO (lo,(1:ag),LY lo g 1)) _ _ s;rw[as1 b n e];show au _ _ (fO ((0:ag),(1:ag),LY 0 (b:ag) 1)) _ _ s;exact(H9 b).symm▸aR h
theorem H6(h:nI ao)(b:ah):((gi b).filterMap λ(k:ah)=>h[((0:ag)+(k:ag)*1).toNat]?).toArray=(h.toList.take b).toArray:=by
 have e:(λ(k:ah)=>h[((0:ag)+(k:ag)*1).toNat]?)=λ k=>h[0+k]? :=by
  funext k
  have:((0:ag)+(k:ag)*1).toNat=0+k:=nH _ _;exact aD _ (this)
 rw[e];have:=pick_run h 0 b;rw[List.filterMap_map]at this;have a:((λ x=>h[x]?)∘λ x=>0+x)=λ k=>h[0+k]? :=rfl;exact(this).symm▸(Wp).symm▸rfl
theorem aq7{t d}{x:nI ao}{b:ah}{u Q}(a:IsTup s.heap t x)(e:s.heap.IsSliceOf d .none (.int b u) .none)(f:b<x.size)
  (h:Q (.ref s.heap.objs.size) {s with heap:=s.heap.push {cls:=.type "tuple",data:=.seq (x.toList.take b).toArray}})
  (l:x.size<=gh):au (bG prog w) A (zu (.ref t) (.ref d)) Q E s:=by
 refine aB λ Y g=>?_;have c:sizeOk (.seq (x.toList.take b).toArray):=by
  show(x.toList.take b).toArray.size<=gh;simp only[oG,uV,oF];exact aj (xu _ _) ‹_›
 refine dJ (id e) λ os i j m=>?_;refine g ?_;unfold zu
 try with_reducible refine kf ?_
 first|refine aq (aR ?_)|skip
 refine aq (cd7 a.typeIs ⋯ ?_);refine aq (Wq a.typeIs cd8
  (cd9 cd8 a.typeIs entry_tuple_getitem ?_ (args_tuple_getitem _ _)))
 show au _ _ (Builtin.Tuple.tupleItemsOf (.ref t)>>=_) _ _ s;refine aq (tupleItemsOf_ a ?_);refine aq (ce0 ((aL os i j)) ?_);refine aq (bb7 e (iA f) ?_);have k:¬(((0:ag)==0&&(1:ag)==1&&(b==x.size))=ae):=by
  have:(b==x.size)=ai:=by rw[beq_eq_false_iff_ne];exact lH f
  rw[this];simp
 show au _ _ (if((0:ag)==0&&(1:ag)==1&&(b==x.size))=ae then _ else _) _ _ s;rw[aM k,H6 x b]
 first
  |exact aq (sI (aR (aL _ rfl (aR h))) c)
  |exact aq (sI (aq (aR (aR (by first|(exact jT _ rfl (aR h);trace "S176:0")|(exact aL _ rfl (aR h);trace "S176:1")|(exact dB _ rfl (aR h);trace "S176:2"))))) c)
  |exact aq (aq (sI (aR (aR (by first|(exact jT _ rfl (aR h);trace "S177:0")|(exact aL _ rfl (aR h);trace "S177:1")|(exact dB _ rfl (aR h);trace "S177:2")))) c))
  |exact aq (aq (sI (aR (by first|(exact jT _ rfl (aR h);trace "S178:0")|(exact aL _ rfl (aR h);trace "S178:1")|(exact dB _ rfl (aR h);trace "S178:2"))) c))
end
section
variable{g:G}{A:eP}{E:ao->aZ->Prop}{Z:Zf}{S:af aA}{s:aZ}
noncomputable abbrev we(s:aZ)(o:cP):aZ:={s with heap:=s.heap.push o}
theorem fX.push{o v w h}(d:Wd Z S s.heap)(c:fX g Z S (we s o) v w h):fX g Z S s v w h:=
 let⟨i,st,sm,k,sc,j,f,x⟩:=c
 have a:=sZ d o
 ⟨i,a.trans st,⟨sm.os,sm.gens⟩,λ b ob e=>k b ob (kt _ _ b ob e),λ O q=>sc O (q.step (λ Y Y e=>e) (kt _ _) λ Y Y Y Y e=>e),j,f,λ b q=>⟨aj a.size (x b q).1,(x b q).2⟩⟩
theorem bD.cut{l x}(r:bD g Z l x)(lo h:ak ag):bD g Z (cut l lo h) (slicePick x.toArray lo h none).toList:=by
 rw[slicePick_plain];unfold Internal.cut;simp only[oG,<-r.1];generalize lo.elim 0 (clipAt l.length)=a;generalize h.elim l.length (clipAt l.length)-a=b;refine⟨by simp[r.1],λ i v u p q=>?_⟩;rw[Cf]at p;simp only[Cf]at q;split at p
 ·rename_i h
  rw[aT h,Ma]at q;rw[Ma]at p;exact r.2 _ v u p q
 ·cbv
noncomputable abbrev yW(l u:ak (ag×uM)):cP:={cls:=.type "slice",data:=.fields #[Mb l,Mb u,.none]}
theorem QK(p:ak (ag×uM)):IsPart (Mb p) (p.map (·.1)):=by
 obtain _|⟨i,t⟩:=p
 ·exact .none
 ·exact .int i t
theorem Jp{lo h pos}(o i:ao):LP (.Slice lo h none pos) ai o i=Wi [i,o] (zu o i):=rfl
section
variable{x:bA}{lo h:ak bA}{pos:ey}{v u:IV}{w:ao}{o:ak aA}{pl pu:ak (ag×uM)}
theorem bk4{a b n l}(d:Wd Z S s.heap)(f:s.heap.get? a=aa (cQ b n))(c:bD g Z l b)(i:l.length<=1000000):
  au g.M A (zv x (.Slice lo h none pos) (.ref a) (.ref s.heap.objs.size)) (fX g Z S s (.lst (cut l (pl.map (·.1)) (pu.map (·.1))))) E (we s (yW pl pu)):=by
 have e:(s.heap.push (yW pl pu)).get? a=aa (cQ b n):=kt _ _ _ _ f;refine uj ⟨_,e,rfl⟩ cc9 (wpAny_getItem_list_slice ⟨_,e,rfl,_,rfl⟩ (ce1 ..) (QK pl) (QK pu) .none (by intro j;cbv) ?_ (by have:=c.1;simp only[oG,<-this];unfold gh;exact aj i ⋯)) (Jp _ _);have:=Fq (s:=we s (yW pl pu)) (sZ d _).wd (c.cut (pl.map (·.1)) (pu.map (·.1))) (n:=0);exact fX.push d (by simpa using this)
theorem Fp{b:Type}{l:af b}{n i:ah}{v}(p:(l.take n)[i]? =aa v):l[i]? =aa v:=by
 rw[Cf]at p;by_cases a:i<n
 ·exact(aT a).symm.trans p
 ·exact nomatch(aM a).symm.trans p
theorem bD.take{l:af IV}{a}(r:bD g Z l a)(n:ah):bD g Z (l.take n) (a.take n):=
 ⟨by exact(uV).symm▸(uV).symm▸(r.1).symm▸rfl,λ i v u p q=>r.2 i v u (Fp p) (Fp q)⟩
theorem Zn{l n}(d:Wd Z S s.heap)(f:VR g Z (.tup l) w)(hp:pu.map (·.1)=aa n)(e:n.toNat<l.length)(j:0<n)(m:l.length<=1000000):
  au g.M A (zv x (.Slice lo h none pos) w (.ref s.heap.objs.size)) (fX g Z S s (.tup (l.take n.toNat))) E (we s (yW none pu)):=by
 refine aB λ Y p=>?_;revert hp;refine dQ λ q r h=>?_;obtain⟨i,t⟩:=q;subst r;refine eh (f.uc) λ b y k z H a=>?_;clear f;subst z;have c:(s.heap.push (yW none (aa (i,t)))).get? b=aa (vH y k):=kt _ _ _ _ (d.zh _ _ H);refine p ?_;refine uj ⟨_,c,rfl⟩ slot_tuple_getitem.lookup (aq7 (b:=n.toNat) (u:=t) ⟨_,c,rfl,_,rfl⟩ ((h.trans (VF (mc j)).symm)▸ce1 ..) (by simp only[oG,<-a.1];exact e) ?_ (by simp only[oG,<-a.1];unfold gh;exact aj m ⋯)) (Jp _ _);exact fX.push d (DH (sZ d _).wd (a.take n.toNat))
theorem ap8(d:Wd Z S s.heap)(f:FR g Z s.heap v w o)(hv:slice v (pl.map (·.1)) (pu.map (·.1))=aa u):
  au g.M A (zv x (.Slice lo h none pos) w (.ref s.heap.objs.size)) (fX g Z S s u) E (we s (yW pl pu)):=by
 revert hv;refine fH (λ hv=>?_) λ hv=>?_
 ·revert hv;refine av λ l c=>bR λ a e=>?_;rw[gb c]at f;refine aI ((f.vr rfl).str_inv) λ t i=>i▸?_;refine uj (FW _ _ _) slot_str_getitem.lookup (wpAny_getItem_str_slice (st:=none) ⟨_,jd _ rfl,rfl,rfl⟩ rfl ?_) (Jp _ _);refine post_val_or_str ⟨aj (Txt.slice_le _ _ _) (by have:=uZ a;simp[xl,gh];exact aj this ⋯),λ q k=>?_⟩;exact e▸fX.push d (pg (sZ d _).wd (.str _ _))
 revert hv;refine fH (λ hv=>?_) λ hv=>?_
 ·revert hv;refine av λ l c=>bR λ a e=>?_;refine eh (f.sq d.zh c) λ b r n j m p=>?_;refine j▸?_;exact e▸bk4 d m p (uZ a)
 ·revert hv;refine av λ l c hv=>?_;rw[qt c]at f;obtain _|_:=pl
  ·revert hv;refine av λ n hp=>bR λ a e=>?_;exact e▸Zn d (f.vr rfl) hp (bE (aH ((aH a)))) (bE (aP ((aH a)))) (uZ (aP a))
  ·cbv
end
end
section
variable{g:G}{P:bW}{r:bh}{a:Act}{N:Nt}{X c h b:Xt}{q d:al}
theorem Uj{u ex k}{res:R (IV×St) u}{Q}(y:bJ g r)(z:aW q c X)(p:Pr g r a N X)
  (l:(DG r (qD a.sc.names ex) N.V X.O).aw k=res)(m:res≠.stuck)
  (n:∀s x,aW ai X x->Pr g r a N x->k (s.map (·.1)) x.O=res->Q (Mb s) x.s):
  au g.M a.A (evalPart ex a.env) Q (dk g a res c) X.s:=by
 obtain _|e:=ex
 ·rw[evalPart_none];exact aR (n none X p.refl p l)
 ·rw[evalPart_some];refine hZ y z p (mY.symm.trans l) m λ v w h H A B j=>?_;refine bQ (JH.symm.trans j) m λ i C j=>?_;obtain⟨o,f,_⟩:=B;rw[dY C]at f;refine aI (f.ints) λ t D=>D▸?_;exact n (aa (i,t)) h H.no A j
theorem bz8{l lo j}{pos y:ey}{ie res}(k:bJ g r)(p:Pr g r a N X)(z:kU P r (.jN (ay a.sc.names l) (qD a.sc.names lo) (qD a.sc.names j)) N.V X.O=res)(i:res≠.stuck)(H:ie=.jN (ay a.sc.names l) (qD a.sc.names lo) (qD a.sc.names j)):
  fG g r a N ie res X (bM (.Subscript l (.Slice lo j none y) pos) a.env):=by
 rw[H];refine Subscript_ (hZ k p.refl (q:=ae) p z i λ v w h m o A f=>?_);refine cf f i λ B f=>?_;refine wpAny_Slice (Uj k m o f i λ pl b n C f=>?_);refine Uj k (m.trans n) C f i λ pu I s t f=>?_;refine bQ f i λ u hv f=>?_;refine aG (A.xF o B (n.trans s)) λ o1 D Y=>?_;exact aR (bI (ap8 t.wd D hv) (λ w J E=>.made ((m.trans n).trans s) t f.symm nofun (by intro L;cbv) E) λ e M x=>x)
theorem br7{pos}(p:Pr g r a N X):fG g r a N .DM (.ok (.eD [],X.O)) X (bM (.Dict [] [] pos) a.env):=by
 exact wpAny_Dict_empty (.made (p.refl (q:=ae)) p rfl nofun (by intro x;cbv) ⟨X.Z,(sZ p.wd ({cls:=.type "dict",data:=.dict #[]}:cP)),.refl,kt _ _,λ Y q=>q.step (λ Y Y e=>e) (kt _ _) λ Y Y Y Y e=>e,_,.eD (ce2 _) (beq_eq_false_iff_ne.mpr (LF p.wd.big)) rfl (λ Y Y Y Y Y p=>(by cbv)),λ f q=>aS q▸(dB (ca _) ((pG p.wd).2) ((pG p.wd).1))⟩)
theorem R6{l e op pos o res}(i:bJ g r)(s:FT op e=ai)(p:Pr g r a N X)(t:stepT r (.cmp op (ay a.sc.names l) (ay a.sc.names e)) N.V X.O=res)(f:res≠.stuck):
  rt g r a N (pureE (.cmp op (ay a.sc.names l) (ay a.sc.names e))) res X (isTrue (.Compare l [op] [e] pos) a.env o):=by
 refine wpAny_isTrue_Compare1 (hZ i p.refl (q:=ae) p t f λ v w h j k y x=>?_) s;refine cf x f λ z x=>?_;refine hZ i j k x f λ D E b m n H x=>?_;refine aB λ Y A=>?_;refine bQ x f λ u hv x=>?_;refine aG (y.xF k z m) λ o1 B Y=>?_;obtain⟨I,C,_⟩:=H;refine A ?_;exact EB n.p.wd.zh p.ok.units B C hv λ tk=>LO ⟨b.tk tk,rfl,x.symm,(j.trans m).tk tk,n.tk tk⟩
theorem Yi{t x y pos o res}(j:lN g r)(p:Pr g r a N X)(s:stepT r (.ite (ay a.sc.names t) (ay a.sc.names x) (ay a.sc.names y)) N.V X.O=res)(k:res≠.stuck):
  rt g r a N (pureE (.ite (ay a.sc.names t) (ay a.sc.names x) (ay a.sc.names y))) res X (isTrue (.IfExp t x y pos) a.env o):=by
 refine isTrue_IfExp (CT j p.refl (q:=ae) p s k λ u h i m n=>?_);obtain _|_:=u
 ·exact bI (j a N h y res m n k) (λ v l f=>f.after i λ e=>by simp only[(aH e),(aP ((aP e)))];rfl) λ e l f=>f.pre i
 ·exact bI (j a N h x res m n k) (λ v l f=>f.after i λ e=>by simp only[(aH e),(aH ((aP e)))];rfl) λ e l f=>f.pre i
end
theorem oU(h:bu)(a:aA)(f:cP->cP):(h.update a f).objs.size=h.objs.size:=by obtain⟨⟩:=h;simp[Heap.update]
section
variable{g:G}{Z:Zf}{W:af aA}{h:bu}
theorem ax8(d:Wd Z W h){a}(x:a∈W)(f:cP->cP):Step Z Z W W h (h.update a f) where
 zz:=λ Y Y e=>e
 zn:=λ Y Y e=>.inl e
 zh:=λ b o e=>by
  have ne:a≠b:=λ q=>by subst q;rw[d.wz a x]at e;cbv
  exact(jE h f ne).trans (d.zh b o e)
 keep:=λ b o c e=>by
  have ne:a≠b:=λ q=>c (q▸x)
  exact(jE h f ne).trans e
 size:=cx (oU _ _ _).symm
 wn:=λ Y e=>.inl e
 wz:=d.wz
 ww:=λ b e=>by rw[oU];exact d.ww b e
 big:=by rw[oU];exact d.big
 pre:=BW
theorem Ir{a x b n f}(c:h.get? a=aa (cQ x n))(d:f x.toArray=b.toArray):∃i,(h.update a (FY f)).get? a=aa (cQ b i):=by
 refine⟨if b.toArray.size==x.toArray.size then n else n+1,?_⟩;have e:FY f (cQ x n)=cQ b (if b.toArray.size==x.toArray.size then n else n+1):=by
  show({cls:=.type "list",dict:=none,data:=.seq (f x.toArray) (if(f x.toArray).size==x.toArray.size then n else n+1),slots:=#[]}:cP)=_;rw[d]
 rw[sJ _ c (by rw[e];rfl),e]
end
theorem wZ{c}(f:Nm)(v:c)(x:Nm)(b:af (Nm×c)):lk x (put f v b)=if x=f then aa v else lk x b:=by
 induction b with
 |nil=>rfl
 |cons y r d=>
  show lk x (if f=y.1 then(y.1,v)::r else y::put f v r)=if x=f then aa v else if x=y.1 then aa y.2 else lk x r;by_cases a:f=y.1
  ·rw[aT a,a];show(if x=y.1 then aa v else lk x r)=_;by_cases h:x=y.1
   ·rw[aT h,aT h]
   ·rw[aM h,aM h,aM h]
  ·rw[aM a];show(if x=y.1 then aa y.2 else lk x (put f v r))=_;by_cases h:x=y.1
   ·rw[aT h,aT h,aM λ q=>a (q.symm.trans h)]
   ·rw[aM h,d,aM h]
theorem oQ{x f v}{h:af (Nm×x)}:lk f (put f v h)=aa v:=(wZ f v f h).trans (aT rfl)
theorem oV{b f x v}{a:af (Nm×b)}(h:x≠f):lk x (put f v a)=lk x a:=(wZ f v x a).trans (aM h)
theorem Pf{a f u v}{C:af (Nm×a)->af (Nm×a)->Prop}(d:∀y r,f=y->C ((y,u)::r) ((y,v)::r))(g:∀y r b,C r b->C (y::r) (y::b))(x:af (Nm×a))(c:lk f x=aa u):C x (put f v x):=by
 induction x with
 |nil=>cbv
 |cons y r i=>
  show C (y::r) (if f=y.1 then(y.1,v)::r else y::put f v r);by_cases h:f=y.1
  ·rw[aT h];obtain⟨y,w⟩:=y;have e:w=u:=aS ((aT h).symm.trans c);rw[e];exact d y r h
  ·rw[aM h];exact g y r _ (i ((aM h).symm.trans c))
theorem PR{a}(f:Nm){u:a}(v:a)(x:af (Nm×a))(h:lk f x=aa u):(put f v x).length=x.length:=
 Pf (u:=u) (v:=v) (C:=λ l b=>b.length=l.length) (λ Y Y Y=>rfl) (λ Y Y Y e=>aD Me e) x h
theorem CR(x:Nm×IV)(r:af (Nm×IV)):nl (x::r)=nl r+if az x.2 then 0 else 1:=by
 unfold nl;rw[zw];obtain _|_:=az x.2<;>rfl
theorem Jt(f:Nm)(u v:IV)(x:af (Nm×IV))(h:lk f x=aa u)(e:az u=az v):nl (put f v x)=nl x:=
 Pf (C:=λ l a=>nl a=nl l) (λ y r Y=>by simp only[CR,CR,e]) (λ Y Y Y e=>by simp only[CR,CR,e]) x h
theorem QM{b f v}(x:af (Nm×b))(h:lk f x=none):put f v x=x++[(f,v)]:=by
 induction x with
 |nil=>rfl
 |cons y r c=>
  have a:¬f=y.1:=λ q=>nomatch(aT q).symm.trans h;show(if f=y.1 then(y.1,v)::r else y::put f v r)=_;rw[aM a,c ((aM a).symm.trans h)];rfl
theorem Rj(f:Nm)(v:IV)(x:af (Nm×IV))(h:lk f x=none):nl (put f v x)=nl x+if az v then 0 else 1:=by
 rw[QM x h];unfold nl;simp only[List.filter_append,bp,zw];obtain _|_:=az v<;>rfl
section
variable{g:G}{Z:Zf}{W:af aA}{h i:bu}{b:af (Nm×IV)}{f:Nm}{j C d:aA}{m:af ke}{n:ah}{c:Nm->ak aA}
theorem jJ.list{l}(sc:jJ g Z W h b j C d m n c)(o:lk f b=aa (.lst l)):∃a x n,c f=aa a/\h.get? a=aa (cQ x n)/\bD g Z l x:=
 aG (sc.has f _ o) λ w s p=>
 eh (p.rk) λ q x k Y e r=>
 (mU q x k e r)
theorem jJ.Sk{u v}{a:aA}(sc:jJ g Z W h b j C d m n c)(y:lk f b=aa u)(z:c f=aa a)(B:az u=az v)(hv:∀w,FR g Z h u w (aa a)->FR g Z i v w (aa a))(D:∀l,v=.lst l->∃H,u=.lst H)
  (A:∀s o,s≠a->h.get? s=aa o->i.get? s=aa o):jJ g Z W i (put f v b) j C d m n c:=
 {sc with
  dict:=A _ _ (λ q=>(sc.cell f a z).2 q.symm) sc.dict
  len:=sc.len.trans (PR f v b y).symm
  has:=λ x E e=>by
   by_cases p:x=f
   ·rw[p,oQ]at e
    refine aG (sc.has f u y) λ w X t=>?_
    rw[p,<-aS e,z]
    exact aL w X (hv w (z▸t))
   ·rw[oV p]at e
    refine aG (sc.has x E e) λ w X t=>?_
    exact aL w X (t.map (λ Y Y q=>q) λ s I ob q=>A s ob (λ r=>p (sc.inj x f a (r▸I) z)) q)
  pv:=λ x e=>by
   by_cases p:x=f
   ·rw[p,oQ]at e;cbv
   ·rw[oV p]at e;exact sc.pv x e
  pos:=λ x s k e t=>by
   by_cases p:x=f
   ·rw[p,oQ]at e
    refine aI (D k (aS e)) λ H q=>?_
    exact p▸sc.pos f s H (q▸y) (p▸t)
   ·rw[oV p]at e
    exact sc.pos x s k e t
  nl:=by rw[Jt f u v b y B];exact sc.nl}
theorem jJ.av6{l e a k p}(sc:jJ g Z W h b j C d m n c)(r:lk f b=aa (.lst l))(s:c f=aa a)
  (t:i.get? a=aa (cQ k p))(u:bD g Z e k)(v:∀x o,x≠a->h.get? x=aa o->i.get? x=aa o):jJ g Z W i (put f (.lst e) b) j C d m n c:=
 sc.Sk r s rfl (λ w q=>eh (q.rk) λ x Y Y y z Y=>y▸aS z▸.lst t u) (λ Y Y=>⟨l,rfl⟩) v
end
noncomputable def QN(m:Nm):uI:=if m=.kZ then "list.append" else if m=.tO then "list.pop" else if m=.AL then "list.insert" else "list.extend"
section
variable{g:G}{A:eP}{E:ao->aZ->Prop}{Z:Zf}{s:aZ}
theorem bD.drop{l h}(r:bD g Z l h)(n:ah):bD g Z (l.drop n) (h.drop n):=
 ⟨by simp[r.1],λ i v u p q=>by
  rw[Ma]at p q
  exact r.2 _ v u p q⟩
noncomputable def LQ(g:G)(Z:Zf)(s:aZ)(a:aA)(b:af ao)(v:IV)(c:af IV)(w:ao)(h:aZ):Prop:=
 VR g Z v w/\Sm s h/\∃f x,h.heap=s.heap.update a (FY f)/\f b.toArray=ce3 x/\bD g Z c x
theorem D2{a h n l v w}(x:s.heap.get? a=aa (cQ h n))(b:bD g Z l h)(c:l.length<=10000)(hv:VR g Z v w):
  au g.M A (call (.builtin "list.append") [.ref a,w]) (LQ g Z s a h .none (l++[v])) E s:=by
 refine xo ce4 (aL _ x rfl) F.entry_list_append (F.args_list_append_2 _ _) (list_append a h.toArray n w (by have:=b.1;simp[gh];exact aj (cx this.symm) (aj c ⋯))) ⟨x,.none,.refl,_,h++[w],rfl,by simp,b.append (.cons hv .nil)⟩
theorem ao2{a h n l v}(d:s.heap.get? a=aa (cQ h n))(c:bD g Z l h)(e:l.length<=10000)(hv:l.getLast?=aa v):
  au g.M A (call (.builtin "list.pop") [.ref a]) (LQ g Z s a h v l.dropLast) E s:=by
 have b:=c.1;rw[List.getLast?_eq_getElem?]at hv;refine aG (c.at hv) λ x f r=>?_;refine xo Wr (aL _ d rfl) ce5 (F.args_list_pop_1 _) (MeetsSeq.list_pop_last a h.toArray n x (by simpa[<-b]using f) (by simp[gh];exact aj (cx b.symm) (aj e ⋯))) ⟨d,r,.refl,_,h.dropLast,rfl,?_,?_⟩
 ·have i:0<h.length:=by
   rw[<-b];obtain _|⟨y,l⟩:=l
   ·simp at hv
   ·simp
  simp[ce6];intro q;exact absurd q (Nat.not_le.mpr (Nat.sub_lt i ⋯))
 ·simp only[ce7,ce7,b];exact c.take _
theorem bw0{a h n l v t}(d:s.heap.get? a=aa (cQ h n))(b:bD g Z (v::l) h)(f:l.length<10000):
  au g.M A (call (.builtin "list.pop") [.ref a,.int 0 t]) (LQ g Z s a h v l) E s:=by
 have c:=b.1;refine aG (b.at (j:=0) rfl) λ x e r=>?_;cases h with
 |nil=>simp at c
 |cons y h=>
 simp at e;subst e;refine xo Wr (aL _ d rfl) ce5 (F.args_list_pop_2 _ _) (MeetsSeq.list_pop_at a (y::h).toArray n 0 t 0 y (ao8 (⋯) (⋯)) (by simp[FV]) (by simp) (by simp at c;simp[gh];exact aj (cx c.symm) (aj (iA f) ⋯))) ⟨d,r,.refl,_,h,rfl,by simp[ce6],b.drop 1⟩
theorem V8{a b h us n k l x}(d:s.heap.get? a=aa (cQ h n))(e:bD g Z l h)(i:s.heap.get? b=aa (cQ us k))(f:bD g Z x us)(j:l.length+x.length<=10000):
  au g.M A (call (.builtin "list.extend") [.ref a,.ref b]) (LQ g Z s a h .none (l++x)) E s:=by
 have m:=e.1;have o:=f.1;have c:h.toArray.size+us.toArray.size<=gh:=by simp[gh];lia
 refine xo ce8 (aL _ d rfl) F.entry_list_extend (F.args_list_extend_2 _ _) (AutoSeq1.list_extend_list_list_0 a h.toArray n b us.toArray k (ce9 c) (aj (ck _ _) c) (xv c)) ⟨d,i,.none,.refl,_,h++us,rfl,by simp,e.append f⟩
theorem bd6(h:af ao)(i:ag)(c:0<=i)(y:ao):(λ(x:nI ao)=>have k:=if i<0 then(i+(x.size:ag)).toNat else uW i.toNat x.size;(x.extract 0 k).push y++x.extract k) h.toArray=(h.take i.toNat++y::h.drop i.toNat).toArray:=by
 simp only[(Int.not_lt.mpr c),oJ];apply Array.ext';simp;generalize i.toNat=k;by_cases b:k<=h.length
 ·rw[Ga b,Cg (l:=zx k h) (by simp)]
 ·have a:=iA (Nat.not_le.mp b);simp only[cf0 a,cf1 a,cf1 (l:=h) (ca _),Cg a,Cg (l:=h) (ca _)];simp
theorem ai6{a h n l v w i t}(b:s.heap.get? a=aa (cQ h n))(x:bD g Z l h)(d:l.length<=10000)(c:0<=i)(e:i<=1000000)(hv:VR g Z v w):
  au g.M A (call (.builtin "list.insert") [.ref a,.int i t,w]) (LQ g Z s a h .none (l.take i.toNat++v::l.drop i.toNat)) E s:=by
 have f:FO i=ae:=by
  unfold FO;simp only[xm,FP];exact⟨bH ⋯ c,lZ e ⋯⟩
 refine xo cf2 (aL _ b rfl) F.entry_list_insert (F.args_list_insert_3 _ _ _) (AutoSeq1.list_insert_list_int_val_1 a h.toArray n i t w (by rw[f];simp) (by simp[gh];exact aj (cx x.1.symm) (aj d ⋯))) ⟨b,.none,.refl,_,_,rfl,bd6 h i c w,(x.take _).append (.cons hv (x.drop _))⟩
end
inductive KR(g:G)(Z:Zf):af (Nm×IV)->af (aN×ao)->Prop
 |nil:KR g Z [] []
 |cons {n v w l l'}:VR g Z v w->KR g Z l l'->KR g Z ((n,v)::l) ((strOf n,w)::l')
section
variable{g:G}{P:bW}{r:bh}{a:Act}{N:Nt}{X h b d:Xt}{q f:al}
theorem KR.mono{Z c}(zz:∀a o,Z a=aa o->c a=aa o){l e}(x:KR g Z l e):KR g c l e:=KR.rec .nil (λ i Y j=>.cons (i.mono zz) j) x
theorem AR.step{Z i k m c}(zz:∀a o,Z a=aa o->i a=aa o){l e j}(x:AR g c Z k l e j):e.all az=ae->AR g c i m l e j:=
 AR.rec (λ Y=>.nil) (λ n s Y p q=>.cons (.val (aH q) ((n.vr (aH q)).mono zz)) (by intros;cbv) (p (aP q))) x
theorem Ol{pos env c}:c.all yT=ae->(kD pos (iN c env)).all (λ x=>!x.1)=ae/\(kD pos (iN c env)).any (·.1)=ai/\(kD pos (iN c env)).length=c.length:=by
 induction c with
 |nil=>exact λ Y=>(dB rfl rfl rfl)
 |cons e c j=>
  intro i;refine lg (j (aP i)) λ k l m=>?_;rw[Iv (aH i)];exact dB k l (aD (·+1) m)
theorem Dc{pos env x}:x.all (λ k=>k.arg.isSome)=ae->(jG pos (jH x env)).all (·.1.isSome)=ae/\(jG pos (jH x env)).any (·.1.isNone)=ai:=by
 induction x with
 |nil=>exact λ Y=>⟨rfl,rfl⟩
 |cons e x i=>
  intro c;obtain⟨n,e,p⟩:=e;refine aI (fY (aH c)) λ n j=>?_;subst j;exact i (aP c)
theorem MU{M A E u pos env c i Q}(j:c.all yT=ae)(l:i.all (λ k=>k.arg.isSome)=ae)
  (m:au M A (spliced (kD pos (iN c env))) (λ n o=>au M A (evalAll ((jG pos (jH i env)).map (·.2)))
   (λ p t=>Q ⟨n,((jG pos (jH i env)).filterMap (·.1)).zip p⟩ t) E o) E s):au M A (Mf u ae (kD pos (iN c env)) (jG pos (jH i env))) Q E s:=by
 obtain _|⟨e,c⟩:=c
 ·unfold Mf
  refine aq (bI m (λ n o v=>?_) λ Y Y x=>x)
  refine kf ?_
  simp only[(Dc l).1,xt]
  refine aq (bI v (λ p t w=>?_) λ Y Y x=>x)
  exact aq (aR (aR w))
 ·simp only[cf3,xm]at j
  exact evalArgs_kw2 (Dc l).1 m (Iv j.1)
theorem N4{A}(B:bJ g r)(C:∀V O,r.E .bad V O=.stuck){pos}(c:af zq):∀{q X}{k:af (Nm×IV)->St->R (IV×St) A}{res Q},aW q h X->Pr g r a N X->
  (xR r (ic a.sc.names c) N.V X.O).aw k=res->res≠.stuck->
  (∀s t i,aW ai X i->Pr g r a N i->KR g i.Z s (((jG pos (jH c a.env)).filterMap (·.1)).zip t)->k s i.O=res->Q t i.s)->
  au g.M a.A (evalAll ((jG pos (jH c a.env)).map (·.2))) Q (dk g a res h) X.s:=by
 induction c with
 |nil=>exact λ u p x j m=>kwAll_nil (m _ _ _ p.refl p .nil x)
 |cons e c D=>
  intro q X k res Q u p x j m;obtain⟨n,e,kp⟩:=e;replace x:(xR r (bo (n.bind cy) (λ k=>(k,ay a.sc.names e)) (.bq,.bad)::ic a.sc.names c) N.V X.O).aw k=res:=x;rcases y:n.bind cy with _|Z
  ·rw[y]at x;exact absurd (C _ _) (qJ (mY.symm.trans x) j)
  ·refine iD y λ n' E I=>?_;subst E;rw[y]at x;rw[<-eC I]at m⊢;refine kwAll_cons (hZ B u p (mY.symm.trans x) j λ v w b z J L l=>?_);refine cf (zW.symm.trans l) j λ M l=>?_;refine D (u.trans z) J (mY.symm.trans l) j λ s t d H T kr l=>?_;obtain⟨o,U,_⟩:=L;exact m _ _ _ (z.trans H).no T (.cons ((U.vr M).mono H.st.zz) kr) l
theorem Hi{i j pos c k}{res:R (IV×St) i}{Q}(l:bJ g r)(m:∀V O,r.E .bad V O=.stuck)(n:c.all yT=ae)
  (o:aW q h X)(p:Pr g r a N X)(s:(dq r (bV a.sc.names c) [] N.V X.O).aw k=res)(t:res≠.stuck)
  (u:∀e us x,aW ai X x->Pr g r a N x->AR g N.c x.Z x.s.heap (bV a.sc.names c) e us->k (e,[]) x.O=res->Q ⟨us,[]⟩ x.s):
  au g.M a.A (Mf j ae (kD pos (iN c a.env)) (jG pos (jH [] a.env))) Q (dk g a res h) X.s:=by
 refine MU n rfl (zS l m c o p (mY.symm.trans s) t λ e H b v w y z=>?_);exact kwAll_nil (u e _ b v.no w y z)
theorem Zc{D E pos j l k}{res:R (IV×St) D}{Q}(s:bJ g r)(t:∀V O,r.E .bad V O=.stuck)(u:gq j l=ae)
  (v:aW q h X)(p:Pr g r a N X)(A:(dq r (bV a.sc.names j) (ic a.sc.names l) N.V X.O).aw k=res)(m:res≠.stuck)
  (w:∀i y us B x,aW ai X x->Pr g r a N x->AR g N.c x.Z x.s.heap (bV a.sc.names j) i us->KR g x.Z y B->k (i,y) x.O=res->Q ⟨us,B⟩ x.s):
  au g.M a.A (Mf E ae (kD pos (iN j a.env)) (jG pos (jH l a.env))) Q (dk g a res h) X.s:=by
 obtain _|⟨k,y⟩:=l
 ·exact Hi s t (aH ((aH u))) v p A m λ i us b o z H c=>w i [] us [] b o z H .nil c
 ·obtain⟨n,e,kp⟩:=k;refine MU (aH ((aH u))) (aP ((aH u))) (zS s t j v p (mY.symm.trans A) m λ i M b o z H c=>?_);refine cf (zW.symm.trans c) m λ I c=>?_;exact N4 s t _ (v.trans o) z (mY.symm.trans c) m λ J us d C L kr c=>w i J _ _ d (o.trans C).no L (H.step C.st.zz ((gV I).resolve_left (by intro w;cbv))) kr c
end
section
variable{g:G}{P:bW}{r:bh}{a:Act}{N:Nt}{X H I J:Xt}{q q':al}{s:aZ}{Z:Zf}{c:Nm->ak aA}
theorem Ox{pos env x h}(b:gq x h=ae):cf4 (x.length+h.length) (kD pos (iN x env)) (jG pos (jH h env))=ae:=by
 have d:=bE (aP b);unfold cf4;rw[(Ol (aH ((aH b)))).1,(Dc (aP ((aH b)))).1];have:x.length+h.length+(if(jG pos (jH h env)).isEmpty then 0 else 1)<30:=by split;exact jc d ⋯;exact gY (aj d ⋯)
 simpa using this
theorem GL{pos env h x}(b:gq h x=ae):((kD pos (iN h env)).any (·.1)||(jG pos (jH x env)).any (·.1.isNone))=ai:=by
 rw[(Ol (aH ((aH b)))).2.1,(Dc (aP ((aH b)))).2];rfl
theorem HY{M A E env o name f pos x b Q}
  (l:LU o name env (bM o env)=bM o env)(m:gq x b=ae)(n:(f.endLine==pos.line)=ae)
  (h:au M A (bM o env) (λ i j=>∀pl,au M A (xw i name pl) (λ d k=>au M A (xy pos d.1 d.2 (kD pos (iN x env)) (jG pos (jH b env))) Q E k) E j) E s):
  au M A (bM (.Call (.Attribute o name f) x b pos) env) Q E s:=by
 simp only[arm_eval_Call,l];refine aq (bI h (λ i j p=>aq (oI ?_)) λ Y Y e=>e);unfold methodCall;rw[Ox m];refine aq (kf (bI (p _) (λ d k t=>?_) λ Y Y e=>e));exact aq (Gb (by unfold cf5;simp[n]) t)
theorem Am{M id}:∀h,(λ(_:bu)=>sO) h->∃k,(k=Ws\/k=Wt\/k=Wu)/\ip M h (Wv (.builtin id)) k:=
 λ h Y=>(aL .machine (.inr (.inl rfl)) (Mg rfl))
noncomputable abbrev BB(g:G)(x:bu->Prop)(f:ao):Prop:=∀h,x h->∃k,(k=Ws\/k=Wt\/k=Wu)/\ip g.M h (Wv f) k
theorem BK{m f first pos x b k}{res:R (IV×St) m}{Q d}(n:bJ g r)(o:∀V O,r.E .bad V O=.stuck)(e:gq x b=ae)
  (t:BB g d f)(u:aW q H X)(p:Pr g r a N X)(v:(dq r (bV a.sc.names x) (ic a.sc.names b) N.V X.O).aw k=res)(w:res≠.stuck)
  (y:∀i j us l h,aW ai X h->Pr g r a N h->AR g N.c h.Z h.s.heap (bV a.sc.names x) i us->KR g h.Z j l->k (i,j) h.O=res->
   d h.s.heap/\au g.M a.A (call f (first++us) l) Q (dk g a res H) h.s):
  au g.M a.A (xy pos f first (kD pos (iN x a.env)) (jG pos (jH b a.env))) Q (dk g a res H) X.s:=
 Ww (GL e) t (Zc n o e u p v w y)
theorem Ab{j f first pos x b k}{res:R (IV×St) j}{Q PH}(l:bJ g r)(m:∀V O,r.E .bad V O=.stuck)(d:gq x b=ae)
  (y:(ic a.sc.names b).isEmpty=ae)(o:BB g PH f)(t:aW q H X)(p:Pr g r a N X)(u:(dq r (bV a.sc.names x) [] N.V X.O).aw k=res)(v:res≠.stuck)
  (w:∀i us h,aW ai X h->Pr g r a N h->AR g N.c h.Z h.s.heap (bV a.sc.names x) i us->k (i,[]) h.O=res->
   PH h.s.heap/\au g.M a.A (call f (first++us) []) Q (dk g a res H) h.s):
  au g.M a.A (xy pos f first (kD pos (iN x a.env)) (jG pos (jH b a.env))) Q (dk g a res H) X.s:=by
 obtain _|⟨k,z⟩:=b
 ·exact Ww (GL d) o (Hi l m (aH ((aH d))) t p u v w)
 ·obtain⟨n,e,kp⟩:=k;cbv
theorem KR.nil_inv{x}(h:KR g Z [] x):x=[]:=by cases h;rfl
structure X7(g:G)(c:Nm->ak aA)(Z:Zf)(h:bu)(l:af IE)(us:af ao)(v:IV)(vs:af IV)(e:IE)(l':af IE)(w:ao)(us':af ao)(o:ak aA):Prop where
 l:l=e::l'
 us:us=w::us'
 fr:FR g Z h v w o
 own:∀b,o=aa b->∀x,e=.var x->c x=aa b
 tl:AR g c Z h l' vs us'
theorem AR.cons_inv{h:bu}{l us v x}(b:AR g c Z h l (v::x) us):∃e d w i o,X7 g c Z h l us v x e d w i o:=by
 cases b with|cons f j t=>exact⟨_,_,_,_,_,rfl,rfl,f,j,t⟩
theorem AR.nil_inv{h:bu}{l us}(x:AR g c Z h l [] us):us=[]:=by cases x;rfl
theorem AR.wi{h l us v}(b:AR g c Z h l [v] us):∃w o,us=[w]/\FR g Z h v w o:=
 yU (b.cons_inv) λ Y Y w Y o x=>
 (gR w o (x.us.trans (aD _ x.tl.nil_inv)) x.fr)
theorem AR.DS{h l us v}(x:AR g c Z h l [v] us)(hv:az v=ae):∃w,us=[w]/\VR g Z v w:=
 cu (x.wi) λ w Y e f=>(aL w e (f.vr hv))
theorem AR.bi8{h l us u v}(b:AR g c Z h l [u,v] us)(d:az u=ae)(hv:az v=ae):∃x w,us=[x,w]/\VR g Z u x/\VR g Z v w:=
 yU (b.cons_inv) λ Y Y x Y Y y=>
 aG (y.tl.DS hv) λ w e k=>
 (gm x w (y.us.trans (aD _ e)) (y.fr.vr d) k)
section
variable{A:eP}{E:ao->aZ->Prop}{b:aA}{h us:af ao}{n:ah}{l a:af IV}{f:af IE}{y:IV×af IV}
theorem am9(d:s.heap.get? b=aa (cQ h n))(i:bD g Z l h)(x:AR g c Z s.heap f a us)(j:l.length<=10000)(k:((one a).bind λ v=>aE (az v) (IV.none,l++[v]))=aa y):
  au g.M A (call (.builtin "list.append") (.ref b::us)) (LQ g Z s b h y.1 y.2) E s:=by
 refine aB λ Y m=>?_;revert k;refine av λ v hv=>bR λ o e=>?_;rw[iF hv]at x;refine aG (x.DS o) λ w p r=>?_;refine m ?_;exact(p).symm▸(e)▸D2 d i j r
theorem YN(m:s.heap.get? b=aa (cQ h n))(o:bD g Z l h)(j:AR g c Z s.heap f a us)(p:l.length<=10000)(d:QX l a=aa y):
  au g.M A (call (.builtin "list.pop") (.ref b::us)) (LQ g Z s b h y.1 y.2) E s:=by
 revert d;refine ki (λ hv d=>?_) λ Y d=>?_
 ·revert d;refine dQ λ v z e=>?_;rw[gu hv]at j;exact(j.nil_inv).symm▸(e)▸ao2 m o p z
 ·refine aB λ Y k=>?_;revert d;refine av λ v hv=>av λ i B d=>?_;refine k ?_;revert d;refine ki (λ C d=>?_) λ Y q=>(by cbv)
  refine aB λ Y k=>?_;revert d;refine dQ λ u D e=>?_;simp only[iF hv,dY B,C]at j;refine aG (j.DS rfl) λ w L r=>?_;refine aI (r.int_inv) λ t M=>?_;refine k ?_;simp only[L,M,<-e];clear e;obtain _|⟨x,l⟩:=l
  ·cbv
  ·exact aS D▸bw0 m o p
theorem ai1(k:s.heap.get? b=aa (cQ h n))(m:bD g Z l h)(j:AR g c Z s.heap f a us)(o:l.length<=10000)
  (p:((two a).bind λ v=>v.1.cn.bind λ i=>aE (az v.2&&decide (0<=i)&&decide (i<=1000000)) (IV.none,l.take i.toNat++v.2::l.drop i.toNat))=aa y):
  au g.M A (call (.builtin "list.insert") (.ref b::us)) (LQ g Z s b h y.1 y.2) E s:=by
 refine aB λ Y u=>?_;revert p;refine av λ v hv=>av λ i z=>bR λ d e=>?_;rw[ot hv,dY z]at j;refine dC (j.bi8 rfl (aH ((aH d)))) λ x w B C D=>?_;refine aI (C.int_inv) λ t L=>?_;refine u ?_;exact(B).symm▸(L).symm▸(e)▸ai6 k m o (bE (aP ((aH d)))) (bE (aP d)) D
theorem aa7(i:s.heap.get? b=aa (cQ h n))(m:bD g Z l h)(x:AR g c Z s.heap f a us)(p:((one a).bind λ v=>v.dX.bind λ k=>aE (decide (l.length+k.length<=10000)) (IV.none,l++k))=aa y):
  au g.M A (call (.builtin "list.extend") (.ref b::us)) (LQ g Z s b h y.1 y.2) E s:=by
 refine aB λ Y t=>?_;revert p;refine av λ v hv=>av λ k u=>bR λ z e=>?_;rw[iF hv,jm u]at x;refine cu (x.wi) λ w o B C=>?_;refine eh (C.wI) λ d O j D L M=>?_;refine t ?_;exact(B).symm▸(D).symm▸(e)▸V8 i m L M (bE z)
theorem QO{mt:Nm}(e:s.heap.get? b=aa (cQ h n))(i:bD g Z l h)(j:AR g c Z s.heap f a us)
  (x:nE mt l a=aa y):au g.M A (call (.builtin (QN mt)) (.ref b::us)) (LQ g Z s b h y.1 y.2) E s:=
 fJ x (λ Y q=>(by cbv)) λ k x=>
  fJ x (λ d x=>d▸am9 e i j (Nat.not_lt.mp k) x) λ Y x=>fJ x (λ d x=>d▸YN e i j (Nat.not_lt.mp k) x) λ Y x=>
  fJ x (λ d x=>d▸ai1 e i j (Nat.not_lt.mp k) x) λ Y x=>fJ x (λ d x=>d▸aa7 e i j x) λ Y q=>(by cbv)
end
theorem Uz{M A E b f n mt pl Q}(d:s.heap.get? b=aa (cQ f n))(i:mt=.kZ\/mt=.tO\/mt=.AL\/mt=.Ez)
  (h:Q (.builtin (QN mt),[.ref b]) s):au M A (xw (.ref b) (strOf mt) pl) Q E s:=by
 have hd:∀x,mi b=.ref x->∃o,s.heap.get? x=aa o/\o.dict=none:=λ x e=>by cases e;exact aL _ d rfl
 obtain rfl|rfl|rfl|rfl:=i
 ·exact zy (aL _ d rfl) Mh ce4 F.type_list_append hd h
 ·exact zy (aL _ d rfl) Mh Wr F.type_list_pop hd h
 ·exact zy (aL _ d rfl) Mh cf2 F.type_list_insert hd h
 ·exact zy (aL _ d rfl) Mh ce8 F.type_list_extend hd h
noncomputable def fK:af (af ah):=[[9],[18],[6],[10,0,18],[18],[11],[16,17,18],[18],[18],[18],[18],[18],[18],[18],[18],[7,8,18],[4,5,18],[18],[18],[0,18],[3,18],[12,13,18],[18],[1,2,18],[15],[14],[13]]
noncomputable abbrev gO(l:af ah)(ie:IE):Prop:=l.contains ie.ctorIdx=ae
theorem ym{n k i:ah}(b:[18].contains k=ai)(hd:∀n<27,(fK.getD n [18]).contains k=ae->n=i)(h:(fK.getD n [18]).contains k=ae):n=i:=by
 by_cases x:n<27
 ·exact hd n x h
 ·simp only[Ch,List.getElem?_eq_none (Wx x:fK.length<=n),Option.getD_none,b]at h;cbv
theorem SK{sc:af (aN×xh)}(e:bA):gO (fK.getD e.ctorIdx [18]) (ay sc e):=by
 cases e with
 |Constant k _ _=>exact dj (p:=gO [0,18]) rfl λ Y Y=>rfl
 |Name x _=>exact dj (p:=gO [1,2,18]) rfl λ Y Y=>dj rfl λ k Y=>by obtain _|_:=k<;>rfl
 |UnaryOp o e _=>exact UnaryOp.casesOn (motive:=λ o=>gO [10,0,18] (Kk o e (ay sc e))) o rfl rfl rfl (dj rfl λ Y Y=>rfl)
 |Dict h _ _=>cases h with
  |nil=>exact kA (p:=gO [16,17,18]) rfl λ Y=>rfl
  |cons=>exact dj (p:=gO [16,17,18]) rfl λ Y Y=>dj rfl λ Y Y=>dj rfl λ Y Y=>dj rfl λ Y Y=>rfl
 |Compare x os bs _=>exact kA (p:=gO [7,8,18]) rfl λ Y=>dW (λ Y Y=>dj (p:=gO [7,8,18]) rfl λ Y Y=>rfl) λ Y=>dj (p:=gO [7,8,18]) rfl λ Y Y=>dj (p:=gO [7,8,18]) rfl λ Y Y=>rfl
 |Call _ _ _ _=>exact kA (p:=gO [4,5,18]) rfl λ Y=>dW (G:=gO [4,5,18]) (λ Y Y=>kA (p:=gO [4,5,18]) rfl λ Y=>dj (p:=gO [4,5,18]) rfl λ Y Y=>rfl) λ Y=>dj (p:=gO [4,5,18]) rfl λ Y Y=>rfl
 |Attribute _ _ _=>exact kA (p:=gO [3,18]) rfl λ Y=>dj (p:=gO [3,18]) rfl λ Y Y=>rfl
 |Subscript _ _ _=>exact dW (G:=gO [12,13,18]) (λ Y Y=>kA (p:=gO [12,13,18]) rfl λ Y=>dj (p:=gO [12,13,18]) rfl λ Y Y=>rfl) λ Y=>rfl
 |_=>rfl
theorem yr{sc e ie}(h:ay sc e=ie):gO (fK.getD e.ctorIdx [18]) ie:=h▸SK e
theorem bu7{e:bA}(h:(fK.getD e.ctorIdx [18]).contains 1=ae):∃x p,e=.Name x p:=
 zp e (ym rfl (by decide+kernel) h) λ x p=>(jT x p rfl)
theorem Y0{e:bA}(h:(fK.getD e.ctorIdx [18]).contains 3=ae):∃o x p,e=.Attribute o x p:=
 Lv e (ym rfl (by decide+kernel) h) λ o x p=>(Fo o x p rfl)
theorem bj3{e:bA}(h:(fK.getD e.ctorIdx [18]).contains 5=ae):∃f as kw p,e=.Call f as kw p:=
 Fz e (ym rfl (by decide+kernel) h) λ f as kw p=>(JS f as kw p rfl)
theorem Yn{e:bA}(h:(fK.getD e.ctorIdx [18]).contains 4=ae):∃f as kw p,e=.Call f as kw p:=
 Fz e (ym rfl (by decide+kernel) h) λ f as kw p=>(JS f as kw p rfl)
theorem ZT{e:bA}(h:(fK.getD e.ctorIdx [18]).contains 9=ae):∃o l p,e=.BoolOp o l p:=
 PySem.Expr.BoolOp.elim e (ym rfl (by decide+kernel) h) λ o l p=>(Fo o l p rfl)
theorem bf9{e:bA}(h:(fK.getD e.ctorIdx [18]).contains 14=ae):∃l k p,e=.Tuple l k p:=
 Lw e (ym rfl (by decide+kernel) h) λ l k p=>(Fo l k p rfl)
theorem Oz{sc x ie}(h:zo sc x=ie)(b:ie≠.bad):∃n,cy x=aa n/\((sc.lookup x=aa .local/\ie=.var n)\/(sc.lookup x=aa .globalImplicit/\ie=.glob n)):=by
 refine dj (p:=λ z=>z=ie->_) (λ q=>absurd q.symm b) (λ n e=>dj (p:=λ z=>z=ie->_) (λ q=>absurd q.symm b) λ k d h=>⟨n,e,?_⟩) h;cases k with
 |«local»=>exact .inl ⟨d,h.symm⟩
 |globalImplicit=>exact .inr ⟨d,h.symm⟩
 |_=>exact absurd h.symm b
theorem Ja{sc e n}(h:ay sc e=.var n):∃x p,e=.Name x p/\cy x=aa n/\sc.lookup x=aa .local:=by
 refine aB λ Y f=>?_;refine lE (bu7 (yr h)) λ x p i=>?_;subst i;refine aG (Oz h (by intro l;cbv)) λ m j k=>?_;obtain⟨b,d⟩|⟨b,d⟩:=k;refine f ?_
 ·exact IE.noConfusion d λ e=>(gm x p rfl (e▸j) b)
 ·exact(by cbv)
theorem HT{sc x n}(h:zo sc x=.glob n):cy x=aa n/\sc.lookup x=aa .globalImplicit:=by
 refine aG (Oz h (by intro j;cbv)) λ m f i=>?_;obtain⟨b,d⟩|⟨b,d⟩:=i
 ·exact(by cbv)
 ·exact IE.noConfusion d λ e=>⟨e▸f,b⟩
theorem zP{sc e ie n}(h:ay sc e=.attr ie n):∃o x p,e=.Attribute o x p/\cy x=aa n/\ay sc o=ie/\qe o=none:=by
 refine yJ (Y0 (yr h)) λ o x p b=>?_;subst b;refine kA (p:=λ z=>z=.attr ie n->_) nofun (λ d=>dj (p:=λ z=>z=.attr ie n->_) nofun λ m f h=>?_) h;exact IE.noConfusion h λ i j=>(oy o x p rfl (j▸f) i (lY d))
theorem tj{e:bA}{b}(h:ub e=aa b):e=.Attribute b.1 b.2.1 b.2.2:=aI (fM h) λ q h=>@Lv (λ e=>∀q,(Lv e q λ o x p=>(o,x,p))=b->e=.Attribute b.1 b.2.1 b.2.2) e q (λ o x p q h=>h▸rfl) q h
theorem oP{e:bA}{x}(h:oY e=aa x):∃p,e=.Name x p:=aI (fM h) λ q h=>@zp (λ e=>∀q,(zp e q λ x Y=>x)=x->∃p,e=.Name x p) e q (λ x p q h=>h▸⟨p,rfl⟩) q h
theorem bh6{e:bA}{st}(h:vM e=aa st):∃lo x p,e=.Slice lo x st p:=aI (fM h) λ q h=>@VI (λ e=>∀q,(VI e q λ Y Y st Y=>st)=st->∃lo x p,e=.Slice lo x st p) e q (λ lo x st p q h=>h▸(Fo lo x p rfl)) q h
theorem BE{e:IE}{b}(h:e.wm=aa b):e=.attr b.1 b.2:=aI (fM h) λ q h=>@IE.attr.elim (λ e=>∀q,(IE.attr.elim e q λ o x=>(o,x))=b->e=.attr b.1 b.2) e q (λ o x q h=>h▸rfl) q h
theorem Je{e:IE}{b}(h:e.AH=aa b):e=.glob b:=aI (fM h) λ q h=>@IE.glob.elim (λ e=>∀q,(IE.glob.elim e q λ o=>o)=b->e=.glob b) e q (λ o q h=>h▸rfl) q h
theorem Qm{e:IE}{b}(h:e.RU=aa b):e=.bx b.1 b.2.1 b.2.2.1 b.2.2.2:=aI (fM h) λ q h=>@IE.bx.elim (λ e=>∀q,(IE.bx.elim e q λ o x p y=>(o,x,p,y))=b->e=.bx b.1 b.2.1 b.2.2.1 b.2.2.2) e q (λ o x p y q h=>h▸rfl) q h
theorem Vg{e:IE}{b}(h:e.UU=aa b):e=.call b.1 b.2.1 b.2.2:=aI (fM h) λ q h=>@IE.call.elim (λ e=>∀q,(IE.call.elim e q λ o x p=>(o,x,p))=b->e=.call b.1 b.2.1 b.2.2) e q (λ o x p q h=>h▸rfl) q h
theorem al7{e:IE}{b}(h:e.Bn=aa b):e=.bool b.1 b.2:=aI (fM h) λ q h=>@IE.bool.elim (λ e=>∀q,(IE.bool.elim e q λ o x=>(o,x))=b->e=.bool b.1 b.2) e q (λ o x q h=>h▸rfl) q h
theorem be8{e:IE}{b}(h:e.dH=aa b):e=.tup b:=aI (fM h) λ q h=>@IE.tup.elim (λ e=>∀q,(IE.tup.elim e q λ o=>o)=b->e=.tup b) e q (λ o q h=>h▸rfl) q h
theorem PY{b x ie d e pos}(h:Ee b x d e pos=ie)(f:ie≠.bad):qe b.1=none/\(b.2.2.endLine==pos.line)=ae/\∃z:IE×Nm,x=.attr z.1 z.2/\ie=.bx z.1 z.2 d e:=
 kA (p:=λ z=>z=ie->_) (λ q=>absurd q.symm f) (λ i=>dj (p:=λ z=>z=ie->_) (λ q=>absurd q.symm f) λ z hz h=>⟨lY (aH i),(aP i),z,BE hz,h.symm⟩) h
theorem MZ{f d ie as kw i j pos}(h:JA f d as kw i j pos=ie)(k:ie≠.bad):gq as kw=ae/\((∃b,f=.Attribute b.1 b.2.1 b.2.2/\Ee b d i j pos=ie)\/(∃x p,f=.Name x p/\ie=.call d i j)):=
 kA (p:=λ z=>z=ie->_) (λ q=>absurd q.symm k) (λ l=>dW (G:=λ z=>z=ie->_) (λ b m h=>⟨l,.inl (aL b (tj m) h)⟩) λ Y=>dj (p:=λ z=>z=ie->_) (λ q=>absurd q.symm k) λ x n h=>aI (oP n) λ p e=>⟨l,.inr (gR x p e h.symm)⟩) h
structure XF(sc:af (aN×xh))(e:bA)(c:Nm×af IE×af (Nm×IE))(x:aN)(p1:ey)(es:af bA)(kws:af zq)(pos:ey):Prop where
 eq:e=.Call (.Name x p1) es kws pos
 nm:cy x=aa c.1
 gl:sc.lookup x=aa .globalImplicit
 pl:gq es kws=ae
 as:c.2=(bV sc es,ic sc kws)
theorem Jy{sc e c}(h:mJ (ay sc e)=aa c):∃x l d i pos,XF sc e c x l d i pos:=by
 refine aB λ Y j=>?_;revert h;refine av λ b k=>dQ λ f m n=>?_;subst n;have h:=Vg k;refine tT (bj3 (yr h)) λ f d i pos o=>?_;clear k;subst o;refine bg (MZ h (by intro t;cbv)) ?_;clear h;intro hp h;refine j ?_;obtain⟨z,_,u⟩|⟨x,p,rfl,q⟩:=h
 ·refine aB λ Y j=>?_;obtain⟨_,_,_,_,q⟩:=PY u (by intro t;cbv);refine j ?_;exact(by cbv)
 ·refine IE.noConfusion q λ v w y=>?_;refine bg (HT (v.symm.trans (Je m))) λ A B=>?_;exact⟨x,p,d,i,pos,rfl,A,B,hp,Prod.ext w y⟩
structure az0(sc:af (aN×xh))(e:bA)(c:Nm×Nm×af IE×af (Nm×IE))(xs:aN)(p1:ey)(mn:aN)(apos:ey)(es:af bA)(kws:af zq)(pos:ey):Prop where
 eq:e=.Call (.Attribute (.Name xs p1) mn apos) es kws pos
 nx:cy xs=aa c.1
 lo:sc.lookup xs=aa .local
 nm:cy mn=aa c.2.1
 pl:gq es kws=ae
 li:(apos.endLine==pos.line)=ae
 as:c.2.2=(bV sc es,ic sc kws)
theorem I4{sc e c}(h:yq (ay sc e)=aa c):∃d i n o j k pos,az0 sc e c d i n o j k pos:=by
 refine aB λ Y l=>?_;revert h;refine av λ b m=>dQ λ f t u=>?_;subst u;have h:=Qm m;refine tT (Yn (yr h)) λ f j k pos v=>?_;clear m;subst v;refine bg (MZ h (by intro w;cbv)) ?_;clear h;intro hp h;refine l ?_;obtain⟨z,rfl,A⟩|⟨x,p,rfl,q⟩:=h
 ·refine aB λ Y l=>?_;obtain⟨_,B,y,C,q⟩:=PY A (by intro w;cbv);refine jY (zP C) λ o' y' p' D E L Y=>?_;refine l ?_;refine IE.noConfusion q λ M O Q T=>cf6 D λ U V e3=>?_;refine dC (Ja (L.trans (M.symm.trans (vl t)))) λ d i h3 a0 a8=>?_;exact⟨d,i,z.2.1,z.2.2,j,k,pos,by exact(U).symm▸(h3).symm▸rfl,a0,a8,by exact(V).symm▸E.trans (aD aa O.symm),hp,B,Prod.ext Q T⟩
 ·exact(by cbv)
theorem bu1{sc e b}(h:tW (ay sc e)=aa b):∃x p,e=.BoolOp .Or x p/\bV sc x=[b.1,b.2]:=by
 refine aB λ Y i=>?_;revert h;refine av λ b f h=>?_;have d:=al7 f;refine yJ (ZT (yr d)) λ o x p j=>?_;clear f;subst j;obtain⟨k,l⟩:=b;refine i ?_;refine IE.noConfusion d λ m n=>?_;clear d;obtain _|_:=k
 ·cbv
 ·exact gR x p (m▸rfl) (n.trans (ot h))
theorem bb6{sc e l}(h:ay sc e=.tup l):∃x k p,e=.Tuple x k p/\bV sc x=l:=by
 refine yJ (bf9 (yr h)) λ x k p b=>?_;subst b;exact mU x k p rfl (IE.noConfusion h id)
end
section
variable{g:G}{P:bW}{r:bh}{a:Act}{N:Nt}{X b h f:Xt}{q j:al}
theorem EN{x v O}(c:cG P .obj x O=aa v):P.cZ .bL x=ae/\(O.bind λ d=>lk x d)=aa v:=
 fJ c (λ q c=>⟨(aP q),c⟩) λ Y q=>(by cbv)
theorem bz9{ex c l Q E}(tk:lV g P)(i:ay a.sc.names ex=.attr (.var .bq) c)(p:Pr g r a N X)
  (t:lk .bq N.V=aa .obj)(u:cG P .obj c X.O=aa (.lst l))(v:∀d z,X.S[tB c]? =aa d->Q (.ref d) {X.s with toks:=z}):au g.M a.A (bM ex a.env) Q E X.s:=by
 refine aB λ Y H=>?_;refine jY (zP i) λ o x M A B k C=>?_;clear i;subst A;refine dC (Ja k) λ y O D m I=>?_;clear k;subst D;refine aG (p.p.loc.has _ _ t) λ w s fr=>?_;rw[eC m]at s;refine bg (EN u) λ J hv=>?_;refine H ?_;refine LW (LH p.p.F s ?_ p.ok.kind I (lJ m)) (by simp only[LX,yy C]);rw[<-eC B];refine Hu tk p (fr.vr rfl) J hv λ x T tk c hp Y=>?_;refine eh (c.rk) λ d U n e L Y=>?_;rw[e];exact v d tk (hp l d rfl L)
theorem gF.lst{Z S e i d l}(sc:gF g Z S e (aa i))(k:lk d i=aa (.lst l)):∃x c n,S[tB d]? =aa x/\e.get? x=aa (cQ c n)/\bD g Z l c:=
 qI (sc) λ Y Y Y Y Y Y sc=>
 eh (sc.list k) λ x c n m q r=>
 (ui x c n (sc.pos d x l k m) q r)
theorem gF.Yd{Z S t i m e p u y l v}(sc:gF g Z S t (aa m))(s:lk e m=aa (.lst l))(z:S[tB e]? =aa p)(H:i.get? p=aa (cQ u y))(A:bD g Z v u)(B:∀x o,x≠p->t.get? x=aa o->i.get? x=aa o):
  gF g Z S i (aa (put e (.lst v) m)):=
 qI (sc) λ D C d E n c sc=>
 eh (sc.list s) λ I J k w q r=>
 (Br D C d E n c (sc.av6 s ((aS ((sc.pos e I l s w).symm.trans z))▸w) H A B))
theorem bn3{c d m s n l i v w k}(p:Pr g r a N X)(z:X.O=aa c)(H:lk d c=aa (.lst l))(t:X.S[tB d]? =aa m)(A:X.s.heap.get? m=aa (cQ s n))(B:LQ g X.Z X.s m s v i w k):
  VR g X.Z v w/\aW ai X ⟨aa (put d (.lst i) c),X.Z,X.S,k⟩/\Pr g r a N ⟨aa (put d (.lst i) c),X.Z,X.S,k⟩:=by
 refine aB λ Y C=>?_;obtain⟨vr,sm,D,J,u,E,I⟩:=B;refine aI (Ir A E) λ L y=>?_;have st:=ax8 p.wd (pR t) (FY D);rw[<-u]at st y;have x:aW ai X ⟨aa (put d (.lst i) c),X.Z,X.S,k⟩:=⟨st,sm,(by intro M;cbv)⟩
 refine C ?_;refine dB vr x (p.step x ((z▸p.p.sc:gF g X.Z X.S X.s.heap (aa c)).Yd H t y I λ x o ne e=>?_));rw[u];exact(jE _ _ (gf ne)).trans e
theorem aW.pos(x:aW q X h){i:ah}{c}(d:X.S[i]? =aa c):h.S[i]? =aa c:=
 aI (x.st.pre) λ k e=>
 e▸(FL (List.getElem?_eq_some_iff.mp d).1).trans d
theorem Vz{o}(x:kq o=ae):∃l,o=aa (.lst l):=by
 refine mB x λ v hv x=>?_;refine aI (fY x) λ l c=>?_;exact⟨l,hv.trans (aD aa (jm c))⟩
theorem ba4{o}(x:o.any IV.isObj=ae):o=aa .obj:=by
 refine mB x λ v hv x=>?_;exact hv.trans (aD aa (rj x))
theorem ai8{ex A mt x t u B pos ie res}(tk:lV g P)(M:bJ g r)(Q:∀V O,r.E .bad V O=.stuck)(T:cy x=aa mt)(C:gq t u=ae)(U:(B.endLine==pos.line)=ae)
  (D:ay a.sc.names ex=.attr (.var .bq) A)(p:Pr g r a N X)(Z:pureE ie=ai)
  (v:Ao P r A mt (bV a.sc.names t) (ic a.sc.names u) N.V X.O=res)(i:res≠.stuck):
  fG g r a N ie res X (bM (.Call (.Attribute ex x B) t u pos) a.env):=by
 refine aB λ Y z=>?_;refine cf v i λ c v=>?_;refine dG c λ c a0=>?_;refine dG c λ c a8=>?_;refine dG c λ a9 k=>?_;refine aI (Vz k) λ l0 E=>?_;refine jY (zP D) λ o y H b0 hy ho b8=>?_;subst b0;refine z ?_;refine HY (by rw[yy rfl]) C U (bz9 tk D p (ba4 a9) E λ b9 m c pl=>?_);refine iD ((EN E).2) λ fs b4 hf=>?_;refine eh ((b4▸p.p.sc:gF g X.Z X.S X.s.heap (aa fs)).lst hf) λ b' ws n b5 I g2=>?_;rw[aS (b5.symm.trans c)]at I;rw[<-eC T];refine Uz I (bE a8) (Ab M Q C a0 Am (p.refl.tk m:aW ae X (X.tk m)) (p.tk m) v i λ vs us h J H ar d=>⟨trivial,?_⟩);refine aB λ Y z=>?_;refine bQ d i λ Ah L d=>bQ d i λ l s d=>bQ d i λ y hm d=>?_;refine iD s λ v1 s b6=>?_;rw[jm b6]at s;refine eh ((L▸H.p.sc).lst s) λ b2 c7 n2 k k1 k2=>?_;have e2:=aS (k.symm.trans (J.pos c));rw[e2]at k k1;refine z ?_;refine bI (QO k1 k2 ar hm) (λ w s2 b7=>?_) λ Y Y x=>x;refine lg (bn3 H L s k k1 b7) λ vr x2 p2=>?_;have x0:aW ae X (X.tk m):=p.refl.tk m;exact dR.vr ((x0.trans J).trans x2) p2 (λ e=>(absurd (Z.symm.trans e) ⋯)) vr d.symm
end
noncomputable def EL(h:af (aN×ao))(l:af (aN×ao)):af (aN×ao):=l.foldl (λ h x=>if(h.lookup x.1).isNone then h++[x]else h) h
theorem YH(n:aN)(l:af (aN×ao)):∀(h:af (aN×ao)),(EL h l).lookup n=(h.lookup n).or (l.lookup n):=by
 induction l with
 |nil=>exact λ h=>(cf7 ..).symm
 |cons x l b=>
  intro h;show(EL (if(h.lookup x.1).isNone then h++[x]else h) l).lookup n=_;rw[b,mR];by_cases a:(h.lookup x.1).isNone=ae
  ·rw[aT a,Mi,mR,Option.or_assoc];obtain _|_:=n==x.1<;>rfl
  ·rw[aM a];rcases c:n==x.1 with _|_
   ·rfl
   ·rw[cH c];rcases q:h.lookup x.1 with _|y
    ·rw[q]at a;exact absurd rfl a
    ·rfl
noncomputable def Ib(names:af aN)(us:af ao)(kw df:af (aN×ao)):af (aN×ao):=names.filterMap λ n=>(((names.zip us++kw).lookup n).or (df.lookup n)).map λ x=>(n,x)
section
variable{M:FD}{A:eP}{E:ao->aZ->Prop}{s:aZ}{h a:Type}
theorem Hl{c}[xg c]{t e}{Q:h->aZ->Prop}(x:¬c)(k:au M A e Q E s):au M A (if c then t else e) Q E s:=(aM x).symm▸k
theorem ab1{x b b'}{f:a->h->mP (ForInStep h)}{Q}(c:au M A (f x b) (λ r s=>r=.yield b'/\Q b' s) E s):au M A (forIn [x] b f) Q E s:=by
 rw[Gc];refine aq (bI c (λ r s c=>?_) λ Y Y x=>x);exact(c.1).symm▸aR c.2
theorem G4{l b Q}(c:Q (EL b l) s):au M A (forIn l b λ x(__s:af (aN×ao))=>if(cf8 x.fst __s).isNone=ae then(fO (cf9 (__s++[(x.fst,x.snd)])):mP _)else fO (cf9 __s)) Q E s:=by
 induction l generalizing b with
 |nil=>exact aR c
 |cons x l d=>
  rw[Gc];have c:Q (EL (if(b.lookup x.1).isNone then b++[x]else b) l) s:=c;refine aq ?_;by_cases e:(b.lookup x.1).isNone=ae
  ·rw[aT e]at c⊢;exact aR (d c)
  ·rw[aM e]at c⊢;exact aR (d c)
end
theorem bj5{a M A E s kw b b'}{f:aN×ao->a->mP (ForInStep a)}{Q}(c:kw=[]->b'=b)(d:∀x,kw=[x]->f x b=fO (.yield b'))(g:kw=[]\/∃x,kw=[x])(h:Q b' s):au M A (forIn kw b f) Q E s:=by
 obtain e|⟨x,e⟩:=g
 ·exact(e).symm▸aR (c e▸h)
 ·exact(e).symm▸ab1 (b':=b') ((d x e).symm▸aR ⟨rfl,h⟩)
theorem Nf{fd us kw as m o}(hp:fd.params=⟨[],as,none,[],m,none,o⟩){s h M A E Q x}(p:(x.getD #[]).toList=h)
  (hd:∀{Q:ak (nI ao)->aZ->Prop},Q x s->au M A (seqItems? fd.defaults) Q E s)(b:us.length<=as.length)(c:h.length<=as.length)
  (r:kw=[]\/∃x,kw=[x])(d:∀x,kw=[x]->x.1∈as.map (·.arg)/\((as.map (·.arg)).zip us).lookup x.1=none)
  (g:∀n∈(as.map (·.arg)).take (as.length-h.length),(((as.map (·.arg)).zip us++kw).lookup n).isSome=ae)
  (i:Q (Ib (as.map (·.arg)) us kw (((as.map (·.arg)).drop (as.length-h.length)).zip h)) s):au M A (bindArgs fd ⟨us,kw⟩) Q E s:=by
 have a:(ml (λ x=>x.arg) as).length=as.length:=bF ..;have j:zx (h.length-(ml (λ x=>x.arg) as).length) h=h:=by rw[a,cg0 c];rfl
 have k:cb1 (λ n=>(cf8 n ((ml (λ x=>x.arg) as).zip us++kw)).isNone) (List.take (as.length-h.length) (ml (λ x=>x.arg) as))=[]:=
  List.filter_eq_nil_iff.mpr λ n a=>by exact(Option.isNone_eq_false_iff.mpr (g n a)).symm▸(by intro t;cbv)
 rw[<-a,<-j]at k i;rw[<-a]at b;clear j g c;subst p;obtain⟨⟩:=fd;subst hp;refine aq (bj5 (b':=((as.map (·.arg)).zip us++kw,[])) (λ e=>by simp only[show kw=[]from e,bC];rfl) (λ x e=>?_) r (aq (hd (Hl (λ q=>absurd (bE (aH q)) (Nat.not_lt.mpr b))
  (Hl (λ q=>Gd ((aD (λ l=>!Wy l) k).symm.trans q)) (aq (G4 (aq (aR (Hl (by intro t;cbv) (aR ?_)))))))))))
 ·exact(show kw=[x]from e).symm▸(aT (by rw[(List.contains_iff_mem.mpr (d x e).1)];rfl)).trans (aM λ q=>Gd ((aD Option.isSome (d x e).2).symm.trans q))
 ·refine cast (aD (λ l=>Q l s) ?_) i;refine Eq.trans ?_ (aD (zA _) (bC (ml (λ x=>x.arg) as)).symm);exact aD (λ f=>zA f (ml (λ x=>x.arg) as)) (funext λ n=>aD (Wz λ x=>(n,x)) (YH n ((zx ((ml (λ x=>x.arg) as).length-(zx ((x.getD #[]).toList.length-(ml (λ x=>x.arg) as).length) (x.getD #[]).toList).length) (ml (λ x=>x.arg) as)).zip (zx ((x.getD #[]).toList.length-(ml (λ x=>x.arg) as).length) (x.getD #[]).toList)) ((ml (λ x=>x.arg) as).zip us++kw)).symm)
noncomputable def Im:af ah->ah
 |[]=>0
 |c::l=>c+128*Im l
theorem Lk:∀(f n:ah),n<128^f->Im (zf f n)=n
 |0,n,h=>by simp at h;subst h;rfl
 |f+1,n,h=>by
  simp only[zf]
  split
  ·rename_i e;subst e;rfl
  ·simp only[Im]
   rw[Lk f (n/128) (Nat.div_lt_of_lt_mul (Nat.mul_comm (128^f) 128▸h))]
   exact Nat.mod_add_div n 128
noncomputable def pM(n:Nm):al:=decide (n.id<205)
theorem RM:(mC.all λ n=>decide (n<128^40)&&!decide (n=0))=ae:=by decide+kernel
theorem Hq:mC.length=205:=by decide+kernel
theorem TH:mC.Nodup:=by decide+kernel
theorem DT{n k}(a:pM n=ae)(h:strOf n=strOf k):n=k:=by
 replace a:=bE a;have ok:∀i,mC.getD i 0<128^40:=λ i=>by
  rw[Ch];rcases q:mC[i]? with _|x
  ·simp
  ·have:=List.all_eq_true.mp RM x (pR q);simp only[xm,FP]at this;simpa using this.1
 have e:mC.getD n.id 0=mC.getD k.id 0:=by
  have f:zf 40 (mC.getD n.id 0)=zf 40 (mC.getD k.id 0):=by
   have:=aD (λ x=>cg1 x) h;simpa[strOf]using this
  exact(Lk 40 _ (ok n.id))▸(f).symm▸(Lk 40 _ (ok k.id)).symm▸rfl
 simp only[Ch,Ch,sN ((Hq).symm▸a)]at e;rcases q:mC[k.id]? with _|x
 ·have:=List.all_eq_true.mp RM _ (cg2 (show n.id<mC.length by rw[Hq];exact a));rw[q]at e;simp at e;simp[e]at this
 ·rw[q]at e;simp at e;refine aI (List.getElem?_eq_some_iff.mp q) λ b c=>?_;subst e;have d:n.id<mC.length:=by rw[Hq];exact a
  have:n.id=k.id:=by
   obtain q|q|q:=cg3 n.id k.id
   ·exact absurd c.symm (List.pairwise_iff_getElem.mp TH _ _ d b q)
   ·exact q
   ·exact absurd c (List.pairwise_iff_getElem.mp TH _ _ b d q)
  obtain⟨⟩:=n;obtain⟨⟩:=k;simp at this;exact aD _ (this)
theorem MR{x n}(h:cy x=aa n):pM n=ae:=bK (eQ (ON h).2.1)
theorem yL{b p q}(ne:q≠p)(l:af (Nm×b)):lk q (l.filter λ x=>!decide (x.1=p))=lk q l:=by
 induction l with
 |nil=>rfl
 |cons x l a=>
  by_cases h:x.1=p
  ·rw[cg4 (by rw[bK h];exact(by intro c;cbv)),a];exact(aM λ e=>ne (e.trans h)).symm
  ·rw[cg5 (by rw[gw h];rfl)];show(if q=x.1 then aa x.2 else lk q _)=if q=x.1 then aa x.2 else lk q l;exact aD _ (a)
theorem Fu{dflt}{C:af Nm->af IV->af (Nm×IV)->af (Nm×IV)->Prop}(i:C [] [] [] [])(j:∀{p b v c a V},C b c a V->C (p::b) (v::c) a ((p,v)::V))
  (k:∀{p b v a V},lk p a=aa v->C b [] (a.filter λ x=>!decide (x.1=p)) V->C (p::b) [] a ((p,v)::V))(l:∀{p b v a V},lk p a=none->lk p dflt=aa v->C b [] a V->C (p::b) [] a ((p,v)::V))(b:af Nm):
  ∀c a V,dA b dflt c a=aa V->C b c a V:=by
 induction b with
 |nil=>
  intro c a V e;revert e;refine bR λ h m=>m▸?_;exact(gu (aH h)).symm▸(gu (aP h)).symm▸i
 |cons p b f=>
  intro c a V e;obtain _|⟨v,c⟩:=c
  ·refine dW (G:=λ o=>o=aa V->_) (λ v hv e=>?_) (λ hv e=>?_) e
   ·obtain⟨g,d,rfl⟩:=wc e;exact k hv (f _ _ _ d)
   ·revert e;refine av λ v hd e=>?_;obtain⟨g,d,rfl⟩:=wc e;exact l hv hd (f _ _ _ d)
  ·obtain⟨g,d,rfl⟩:=wc e;exact j (f _ _ _ d)
section
variable{g:G}{Z:Zf}{h:bu}
inductive dU(g:G)(Z:Zf)(h:bu):af IV->af ao->af (ak aA)->Prop
 |nil:dU g Z h [] [] []
 |cons {v w o l b os}:FR g Z h v w o->dU g Z h l b os->dU g Z h (v::l) (w::b) (o::os)
inductive BR(g:G)(Z:Zf)(h:bu):af (Nm×IV)->af (aN×ao)->af (ak aA)->Prop
 |nil:BR g Z h [] [] []
 |cons {p v w o l b os}:FR g Z h v w o->BR g Z h l b os->BR g Z h ((p,v)::l) ((strOf p,w)::b) (o::os)
 |rest {p v w l b}:FR g Z h v w none->BR g Z h l b []->BR g Z h ((p,v)::l) ((strOf p,w)::b) []
structure OpC(g:G)(Z:Zf)(h:bu)(v:IV)(l:af IV)(us:af ao)(os:af (ak aA))(w:ao)(o:ak aA)(b:af ao)(os':af (ak aA)):Prop where
 us:us=w::b
 os:os=o::os'
 fr:FR g Z h v w o
 tl:dU g Z h l b os'
theorem dU.cons_inv{v l us os}(x:dU g Z h (v::l) us os):∃w o b a,OpC g Z h v l us os w o b a:=by
 cases x with|cons f t=>exact⟨_,_,_,_,rfl,rfl,f,t⟩
theorem dU.nil_inv{us os}(x:dU g Z h [] us os):us=[]/\os=[]:=by cases x;exact⟨rfl,rfl⟩
structure pA(g:G)(Z:Zf)(dflt:af (Nm×IV))(look:aN->ak ao)(ps:af Nm)(us:af ao)(ks:af (Nm×IV)):Prop where
 pos:∀(i:ah) p u,ps[i]? =aa p->us[i]? =aa u->look (strOf p)=aa u
 kw:∀(i:ah) p,ps[i]? =aa p->us.length<=i->∀v,lk p ks=aa v->∃w,look (strOf p)=aa w/\VR g Z v w
 df:∀(i:ah) p,ps[i]? =aa p->us.length<=i->lk p ks=none->∀v,lk p dflt=aa v->∃w,look (strOf p)=aa w/\VR g Z v w
theorem pA.tl{dflt look p b w us c}(x:pA g Z dflt look (p::b) (w::us) c):pA g Z dflt look b us c:=
 ⟨λ i=>x.pos (i+1),λ i p hp a=>x.kw (i+1) p hp (gY a),λ i p hp a=>x.df (i+1) p hp (gY a)⟩
theorem pA.Ex{dflt look p a b}(x:pA g Z dflt look (p::a) [] b):pA g Z dflt look a [] b:=
 ⟨λ i=>x.pos (i+1),λ i p hp c=>x.kw (i+1) p hp (cg _),λ i p hp c=>x.df (i+1) p hp (cg _)⟩
theorem pA.tlk{dflt look p b d}(nd:p∉b)(x:pA g Z dflt look (p::b) [] d):pA g Z dflt look b [] (d.filter λ x=>!decide (x.1=p)):=
 have ne:∀{i q},b[i]? =aa q->q≠p:=λ a e=>nd (e▸pR a)
 ⟨x.Ex.pos,λ i q a c=>by rw[yL (ne a)];exact x.Ex.kw i q a c,λ i q a c=>by rw[yL (ne a)];exact x.Ex.df i q a c⟩
structure Aw(g:G)(Z:Zf)(h:bu)(look:aN->ak ao)(ps:af Nm)(us:af ao)(os:af (ak aA))(V:af (Nm×IV)):Prop where
 br:BR g Z h V ((ps.map strOf).filterMap λ n=>(look n).map λ x=>(n,x)) os
 len:us.length<=ps.length
 all:∀(i:ah) p,ps[i]? =aa p->(look (strOf p)).isSome=ae
theorem Aw.up{look p x us a os c V v w}(e:look (strOf p)=aa w)(t:Aw g Z h look x us os V)(f:∀b,BR g Z h V b os->BR g Z h ((p,v)::V) ((strOf p,w)::b) c)(j:a.length<=us.length+1):Aw g Z h look (p::x) a c ((p,v)::V):=
 ⟨by simp only[Ci,Mj,e];exact f _ t.br,aj j (gY t.len),λ i q d=>by
  obtain _|i:=i
  ·rw[<-aS d,e];rfl
  ·exact t.all i q d⟩
theorem ZI{dflt}{look:aN->ak ao}{c i us os f V}(e:dA c dflt i f=aa V)(nd:c.Nodup)(d:dU g Z h i us os)(a:pA g Z dflt look c us f):Aw g Z h look c us os V:=by
 refine Fu (C:=λ c i f V=>∀us os,c.Nodup->dU g Z h i us os->pA g Z dflt look c us f->Aw g Z h look c us os V) ?_ (λ{p c v i f V} j us os nd d a=>?_) (λ{p c v f V} hv j us os nd d a=>?_) (λ{p c v f V} hv hd j us os nd d a=>?_) c i f V e us os nd d a
 ·intro us os _ d _;refine bg (d.nil_inv) λ k l=>?_;exact(k).symm▸(l).symm▸⟨.nil,ca _,(by intros;cbv)⟩
 ·refine tT (d.cons_inv) λ w o b q x=>?_;rw[x.us]at a⊢;rw[x.os];exact(j b q (List.nodup_cons.mp nd).2 x.tl a.tl).up (a.pos 0 p w rfl rfl) (λ Y t=>.cons x.fr t) (ca _)
 ·refine bg (d.nil_inv) λ k l=>?_;rw[k]at a⊢;rw[l];refine aG (a.kw 0 p rfl (cg _) v hv) λ w n m=>?_;exact(j [] [] (List.nodup_cons.mp nd).2 .nil (a.tlk (List.nodup_cons.mp nd).1)).up n (λ Y t=>.rest (.val m.az m) t) (cg _)
 ·refine bg (d.nil_inv) λ k l=>?_;rw[k]at a⊢;rw[l];refine aG (a.df 0 p rfl (cg _) hv v hd) λ w n m=>?_;exact(j [] [] (List.nodup_cons.mp nd).2 .nil a.Ex).up n (λ Y t=>.rest (.val m.az m) t) (cg _)
end
set_option genInjectivity false
set_option genSizeOfSpec false
structure SStep(Z Z':Zf)(S S' T T':af aA)(L:aA)(h h':bu):Prop where
 zz:∀a o,Z a=aa o->Z' a=aa o
 zn:∀a o,Z' a=aa o->Z a=aa o\/h.objs.size<=a\/a∈T
 keep:∀a o,a∉S->a∉T->a≠L->h.get? a=aa o->h'.get? a=aa o
 size:h.objs.size<=h'.objs.size
 sn:∀a∈S',a∈S\/h.objs.size<=a
 tn:∀a∈T',a∈T\/h.objs.size<=a
 pre:S<+:S'
theorem SStep.refl{Z S T L h}:SStep Z Z S S T T L h h:=⟨λ Y Y e=>e,λ Y Y e=>.inl e,λ Y Y Y Y Y e=>e,ca _,λ Y e=>.inl e,λ Y e=>.inl e,BW⟩
theorem SStep.of{Z b S c T L h d}(x:Step Z b S c h d):SStep Z b S c T T L h d:=
 ⟨x.zz,λ a o e=>(x.zn a o e).imp id .inl,λ a o n Y Y e=>x.keep a o n e,x.size,x.wn,λ Y e=>.inl e,x.pre⟩
theorem SStep.trans{Z b c S d f T g i L h j k}(x:SStep Z b S d T g L h j)(y:SStep b c d f g i L j k):SStep Z c S f T i L h k where
 zz a o e:=y.zz a o (x.zz a o e)
 zn a o e:=(y.zn a o e).elim (x.zn a o) λ q=>q.elim (λ q=>.inr (.inl (aj x.size q))) λ q=>.inr ((x.tn a q).symm)
 keep a o l m n e:=y.keep a o (λ q=>(x.sn a q).elim l λ r=>Nat.not_lt.mpr r (cq e)) (λ q=>(x.tn a q).elim m λ r=>Nat.not_lt.mpr r (cq e)) n (x.keep a o l m n e)
 size:=aj x.size y.size
 sn a e:=(y.sn a e).elim (x.sn a) λ q=>.inr (aj x.size q)
 tn a e:=(y.tn a e).elim (x.tn a) λ q=>.inr (aj x.size q)
 pre:=x.pre.trans y.pre
noncomputable abbrev Dz(L:aA)(h x:bu):Prop:=∀b o,b≠L->h.get? b=aa o->x.get? b=aa o
structure bU(a:Act)(q:al)(prm:af Nm)(N:Nt)(X:Xt)(N':Nt)(X':Xt):Prop where
 st:SStep X.Z X'.Z X.S X'.S N.T N'.T a.L X.s.heap X'.s.heap
 sm:Sm X.s X'.s
 cc:∀x∈prm,N'.c x=N.c x
 pu:q=ae->X'.S=X.S/\Dz a.L X.s.heap X'.s.heap
structure xM(g:G)(prm:af Nm)(N:Nt)(X:Xt)(N':Nt)(X':Xt)(v:IV)(w:ao):Prop where
 wd:Wd X'.Z X'.S X'.s.heap
 sc:gF g X'.Z X'.S X'.s.heap X'.O
 own:∀p∈prm,∀b,N.c p=aa b->b∉X'.S/\X'.Z b=none/\∃u,lk p N'.V=aa u/\FR g X'.Z X'.s.heap u (.ref b) (aa b)
 val:∃o,FR g X'.Z X'.s.heap v w o/\∀b,o=aa b->(b∈N'.T\/X.s.heap.objs.size<=b)/\b∉X'.S/\X'.Z b=none/\∀x∈prm,N.c x≠aa b
inductive End(g:G)(r:bh)(a:Act)(N:Nt)(X:Xt)(N':Nt)(X':Xt):Fl->uK->Prop
 |next(p:Pr g r a N' X'):End g r a N X N' X' .next .next
 |brk (p:Pr g r a N' X'):End g r a N X N' X' .brk .brk
 |cont (p:Pr g r a N' X'):End g r a N X N' X' .cont .cont
 |ret {v w} (p:xM g r.prm N X N' X' v w):End g r a N X N' X' (.ret v) (.ret w)
inductive fU(g:G)(r:bh)(a:Act)(q:al)(res:RS)(N:Nt)(X:Xt)(fl:uK)(s':aZ):Prop
 |mk (f:Fl) (N':Nt) (X':Xt) (hs:s'=X'.s) (h:res=.ok (f,N'.V,X'.O)) (x:bU a q r.prm N X N' X') (e:End g r a N X N' X' f fl):fU g r a q res N X fl s'
inductive EX(g:G)(r:bh)(a:Act)(res:RS)(N:Nt)(X:Xt)(e:ao)(s':aZ):Prop
 |mk (v:IV) (N':Nt) (X':Xt) (h:res=.exc (v,N'.V,X'.O)) (x:bU a ai r.prm N X N' X') (p:Pr g r a N' X') (sm:Sm X'.s s') (f:vW g (a.env::a.outer) X.s.heap X'.Z X'.S N'.T X'.s.heap v e s'.heap):EX g r a res N X e s'
section
variable{g:G}{r:bh}{a:Act}{N b f c:Nt}{X h i d:Xt}{q q':al}
theorem bU.trans{prm}(x:bU a q prm N X b h)(y:bU a q' prm b h f i):bU a (q&&q') prm N X f i:=
 ⟨x.st.trans y.st,x.sm.trans y.sm,λ p hp=>(y.cc p hp).trans (x.cc p hp),λ n=>bg (ej n) λ j k=>⟨(y.pu k).1.trans (x.pu j).1,λ l o m e=>(y.pu k).2 l o m ((x.pu j).2 l o m e)⟩⟩
theorem bU.le{prm}(x:bU a q prm N X b h)(j:q'=ae->q=ae):bU a q' prm N X b h:={x with pu:=λ e=>x.pu (j e)}
theorem bU.no{prm}(x:bU a q prm N X b h):bU a ai prm N X b h:=x.le (by intro e;cbv)
theorem bU.refl{prm}:bU a q prm N X N X:=⟨.refl,.Vk,λ Y Y=>rfl,λ Y=>⟨rfl,λ Y Y Y e=>e⟩⟩
theorem aW.ss{prm}(x:aW q X h):bU a q prm N X N h:=⟨.of x.st,x.sm,λ Y Y=>rfl,λ e=>⟨(x.pu e).1,λ j o Y=>(x.pu e).2 j o⟩⟩
theorem xM.pre{v w}(x:bU a q r.prm N X c d)(p:xM g r.prm c d b h v w):xM g r.prm N X b h v w:=
 {p with
  own:=λ y j l e=>p.own y j l ((x.cc y j).trans e)
  val:=aG (p.val) λ o m k=>(aL o m (λ l e=>pK (k l e) λ k1 n s t=>⟨k1.imp id (aj x.st.size),n,s,λ y j q=>t y j ((x.cc y j).trans q)⟩))}
theorem End.pre{j k}(x:bU a q r.prm N X c d)(e:End g r a c d b h j k):End g r a N X b h j k:=
 End.casesOn e .next .brk .cont λ p=>.ret (p.pre x)
theorem fU.pre{res j k l}(x:bU a q r.prm N X c d)(m:l=ae->(q&&q')=ae)(p:fU g r a q' res c d j k):fU g r a l res N X j k:=
 let⟨n,b,h,o,s,y,e⟩:=p
 ⟨n,b,h,o,s,(x.trans y).le m,e.pre x⟩
theorem EX.pre{res e j}(x:bU a q r.prm N X c d)(p:EX g r a res c d e j):EX g r a res N X e j:=
 let⟨v,b,h,k,y,l,sm,m⟩:=p
 ⟨v,b,h,k,(x.trans y).no,l,sm,m.pre x.st.size⟩
theorem EX.of{res v j e k}(p:Pr g r a N X)(o:res=.exc (v,N.V,j))(x:XE g a X v j e k):EX g r a res N X e k:=
 let⟨s,t,u,sm,z,H,A,B,C,E,I,J,n,base,FRs,L,M,O,Q,w⟩:=x
 have l:aW ai X ⟨j,t,u,{X.s with heap:=s}⟩:=⟨z,.refl,(by intro U;cbv)⟩
 ⟨v,N,_,o,l.ss,p.step l H,⟨sm.os,sm.gens⟩,A,B,C,E,I,J,n,base,FRs,L,M,O,Q,{w with tQ:=λ m T=>(w.tQ m T).imp id λ q=>(ky q.1 q.2.1 q.2.2.1 (λ hT=>absurd (p.p.loc.free m hT).2.2.2 (Nat.not_lt.mpr q.1)))}⟩
end
noncomputable abbrev eY(g:G)(r:bh)(a:Act)(q:al)(res:RS)(N:Nt)(X:Xt)(t:mP uK):Prop:=au g.M a.A t (fU g r a q res N X) (EX g r a res N X) X.s
noncomputable def Ha(g:G)(r:bh):Prop:=∀a N X st res,Pr g r a N X->r.S (wN a.sc.names st) N.V X.O=res->res≠.stuck->eY g r a (AP (wN a.sc.names st)) res N X (dE st a.env)
noncomputable def lW(g:G)(r:bh):Prop:=∀a N X b res,Pr g r a N X->r.B (bZ a.sc.names b) N.V X.O=res->res≠.stuck->eY g r a (jL (bZ a.sc.names b)) res N X (qR b a.env)
structure tG(g:G)(sc:uG)(fa:aA)(cd:ao)(cl:af (aN×aA)):Prop where
 sup:sc.names.lookup ("super":aN)=aa .globalImplicit
 cls:sc.names.lookup ("__class__":aN)=aa .free
 Vf:sc.names.lookup (strOf .bq)=aa .local
 To:il g.K gX ("super":aN)=aa none
 top:(g.prog.main.scope.names.lookup ("super":aN)).isSome=ai
 fn:∃oc od fd osl ar,g.K.lookup fa=aa ⟨oc,od,.func fd,osl⟩/\(fd.params.posonlyargs++fd.params.args).head?=aa ar/\ar.arg=strOf .bq
 code:∃cc oc od vs osl file tf,cd=.ref cc/\g.K.lookup cc=aa ⟨oc,od,.fields vs,osl⟩/\vs[2]? =aa (.str file tf)/\((g.prog.main.file:aN)==file)=ae
 cell:∃x C cls cld csl cdC,cl.lookup ("__class__":aN)=aa x/\g.K.lookup x=aa ⟨cls,cld,.cell (aa (.ref C)),csl⟩/\g.cA .bL=aa C/\qS g.K C=aa cdC/\qO g.K C (.ref C)=aa ae
noncomputable def Iu(g:G)(r:bh):Prop:=∀a N X body st h res,Pr g r a N X->tG g a.sc a.fa a.cd a.cells->nQ st=aa h->r.S (.nD (bV a.sc.names h)) N.V X.O=res->res≠.stuck->
 _root_.PySem.wpAt g.M a.A (.func body a.env) (dE st a.env) (fU g r a ai res N X) (EX g r a res N X) X.s
noncomputable def Ac(g:G)(r:bh):Prop:=∀a N X st rest h res,Pr g r a N X->tG g a.sc a.fa a.cd a.cells->nQ st=aa h->r.B (.nD (bV a.sc.names h)::bZ a.sc.names rest) N.V X.O=res->res≠.stuck->
 _root_.PySem.wpAt g.M a.A (.func (st::rest) a.env) (qR (st::rest) a.env) (fU g r a ai res N X) (EX g r a res N X) X.s
noncomputable def zU(g:G)(x:ao)(fn:Fn):Prop:=∃h:af ao,((x=.none/\h=[])\/∃T o a n,x=.ref T/\g.K.lookup T=aa o/\o.data=.seq a n/\a.toList=h)/\h.length<=fn.params.length/\
 (∀p v,lk p fn.dflt=aa v->∃w,(((fn.params.map strOf).drop (fn.params.length-h.length)).zip h).lookup (strOf p)=aa w/\VR g (λ b=>g.K.lookup b) v w)
inductive mE(g:G)(fn:Fn)(fa:aA):Prop
 |mk (oc) (od) (osl) (nm) (q) (as) (kd) (ds) (body) (sc) (cl) (dV) (kV) (doc) (pm) (an) (cd) (ct) (h1:g.K.lookup fa=aa ⟨oc,od,.func (fnX nm q ⟨[],as,none,[],kd,none,ds⟩ body sc cl dV kV doc pm an cd ct),osl⟩) (h2:Mk g.K cd q=ae) (h3:fn.body=bZ sc.names body\/∃st rest es,body=st::rest/\nQ st=aa es/\fn.body=.nD (bV sc.names es)::bZ sc.names rest/\tG g sc fa cd cl) (h4:as.map (·.arg)=fn.params.map strOf) (h5:sc.kind=.function) (h6:sc.isCoroutine=ai) (h7:sc.isGenerator=ai) (h8:(∀x∈sc.names,x.2≠.cell)) (h9:(∀p∈fn.params,sc.names.lookup (strOf p)=aa .local)) (h10:(fn.params.map strOf).Nodup) (h11:zU g dV fn):mE g fn fa
structure qB(Z Z':Zf)(S S' U:af aA)(h h':bu):Prop where
 zz:∀a o,Z a=aa o->Z' a=aa o
 zn:∀a o,Z' a=aa o->Z a=aa o\/h.objs.size<=a
 keep:∀a o,a∉S->a∉U->h.get? a=aa o->h'.get? a=aa o
 size:h.objs.size<=h'.objs.size
 sn:∀a∈S',a∈S\/h.objs.size<=a
 pre:S<+:S'
 wd:Wd Z' S' h'
theorem qB.step{Z b S c h d}(x:qB Z b S c [] h d):Step Z b S c h d:=
 ⟨x.zz,x.zn,x.wd.zh,λ a o n e=>x.keep a o n (by intro f;cases f) e,x.size,x.sn,x.wd.wz,x.wd.ww,x.wd.big,x.pre⟩
noncomputable def dz(os:af (ak aA)):af aA:=os.filterMap id
inductive CQ(g:G)(fn:Fn)(res:R (IV×St) ((IV×Loc)×St))(X:Xt)(os:af (ak aA))(w:ao)(s':aZ):Prop
 |mk (v:IV) (Vc:Loc) (X':Xt) (hs:s'=X'.s) (h:res=.ok ((v,Vc),X'.O)) (st:qB X.Z X'.Z X.S X'.S (dz os) X.s.heap X'.s.heap) (sm:Sm X.s X'.s) (sc:gF g X'.Z X'.S X'.s.heap X'.O)
  (own:∀(i:ah) p b,fn.params[i]? =aa p->os[i]? =aa (aa b)->b∉X'.S/\X'.Z b=none/\∃u,lk p Vc=aa u/\FR g X'.Z X'.s.heap u (.ref b) (aa b))
  (o:ak aA) (f:FR g X'.Z X'.s.heap v w o) (k:∀b,o=aa b->X.s.heap.objs.size<=b/\b∉X'.S/\X'.Z b=none):CQ g fn res X os w s'
structure xX(A A₁:eP):Prop where
 frames:A₁.frames=A.frames
 hand:A₁.handled=A.handled
 depth:A₁.depth<=A.depth+1
 units:A₁.units<=A.units+8
theorem xX.refl(A:eP):xX A A:=⟨rfl,rfl,jF _,ck _ _⟩
noncomputable def Bf(g:G)(a:Act)(fn:Fn)(res:R (IV×St) ((IV×Loc)×St))(X:Xt)(os:af (ak aA))(rs:Except ao uK)(h:aZ):Prop:=match rs with
 |.ok (.ret w)=>CQ g fn res X os w h
 |.ok _=>xA
 |.error e=>∃v x,res=.exc (v,x)/\(dz os=[]->XE g a X v x e h)
structure CIn(g:G)(N:Nt)(X:Xt)(vs:af IV)(us:af ao)(os:af (ak aA))(ks:af (Nm×IV))(uks:af (aN×ao)):Prop where
 ops:dU g X.Z X.s.heap vs us os
 Nj:∀b∈dz os,b∈N.T
 nd:(dz os).Nodup
 kr:KR g X.Z ks uks
noncomputable def zT(g:G)(C:su)(d:ah):Prop:=∀h a N X fn fa x us os b c res,Pr g h a N X->d<=h.dep->h.quiet=ai->mE g fn fa->CIn g N X x us os b c->C fn x b X.O=res->res≠.stuck->
 ∀e,xX a.A e->gy g.M e (.call (.ref fa) ⟨us,c⟩) (Bf g a fn res X os) X.s
theorem bk9{n u}(ns:af aN):∀(us:af ao)(i:ah),ns.Nodup->ns[i]? =aa n->us[i]? =aa u->(ns.zip us).lookup n=aa u:=by
 induction ns with
 |nil=>exact λ us i Y h=>(by cbv)
 |cons k ns b=>
  intro us i nd x a;obtain _|⟨y,us⟩:=us
  ·exact(by cbv)
  ·simp only[Ge,mR];obtain _|i:=i
   ·simp only[aS x,aS a,sM]
   ·have ne:(n==k)=ai:=beq_eq_false_iff_ne.mpr λ e=>(List.nodup_cons.mp nd).1 (e▸pR x);rw[ne];exact b us i (List.nodup_cons.mp nd).2 x a
theorem PD{n}(ns:af aN):∀(us:af ao),n∉ns.take us.length->(ns.zip us).lookup n=none:=by
 induction ns with
 |nil=>exact λ us Y=>rfl
 |cons k ns x=>
  intro us h;obtain _|⟨y,us⟩:=us
  ·rfl
  ·have ne:(n==k)=ai:=beq_eq_false_iff_ne.mpr λ e=>h (e▸.head _);simp only[Ge,mR,ne];exact x us λ q=>h (.tail _ q)
theorem Z6{dflt h b a V}(e:dA h dflt b a=aa V):∀x∈a,∃i:ah,h[i]? =aa x.1/\b.length<=i:=
 Fu (C:=λ h b a Y=>∀x∈a,∃i:ah,h[i]? =aa x.1/\b.length<=i) (by intros;cbv) (λ c x d=>aG (c x d) λ i f g=>(aL (i+1) f (gY g)))
  (λ{p h v a V} hv c x d=>by
   by_cases hp:x.1=p
   ·exact aL 0 (aD aa hp.symm) (ca _)
   ·refine aG (c x (List.mem_filter.mpr ⟨d,by rw[gw hp];rfl⟩)) λ i f Y=>?_
    (exact aL (i+1) f (cg _)))
  (λ Y Y c x d=>aG (c x d) λ i f Y=>(aL (i+1) f (cg _))) h b a V e
theorem zQ{dflt h a b V}(e:dA h dflt a b=aa V):V.map (·.1)=h:=
 Fu (C:=λ h Y Y V=>V.map (·.1)=h) rfl (λ x=>aD (_::·) x) (λ Y x=>aD (_::·) x) (λ Y Y x=>aD (_::·) x) h a b V e
theorem aj0{dflt x a b V n}(e:dA x dflt a b=aa V)(h:a.length=n):n<=x.length:=
 h▸Fu (C:=λ x a Y Y=>a.length<=x.length) (ca _) (λ c=>gY c) (λ Y Y=>cg _) (λ Y Y Y=>cg _) x a b V e
theorem F2{a b:Type}{f g:a->ak b}{l:af a}(h:∀x∈l,f x=g x):l.filterMap f=l.filterMap g:=by
 induction l with
 |nil=>rfl
 |cons x l c=>simp only[Mj,Mj,h x (.head _),c λ y d=>h y (.tail _ d)]
theorem Lq{d:Type}{l:af d}(nd:l.Nodup){i j:ah}{x}(e:l[i]? =aa x)(f:l[j]? =aa x):i=j:=by
 refine aI (List.getElem?_eq_some_iff.mp e) λ h a=>?_;refine aI (List.getElem?_eq_some_iff.mp f) λ b c=>?_;obtain q|q|q:=cg3 i j
 ·exact absurd (a.trans c.symm) (List.pairwise_iff_getElem.mp nd _ _ h b q)
 ·exact q
 ·exact absurd (c.trans a.symm) (List.pairwise_iff_getElem.mp nd _ _ b h q)
theorem TF{x:Type}{l:af x}{n i v}(p:(l.take n)[i]? =aa v):i<n:=by
 by_cases h:i<n
 ·exact h
 ·rw[Cf,aM h]at p;cbv
theorem bb4{b:Type}{l:af b}(nd:l.Nodup){i n:ah}{x}(c:l[i]? =aa x)(h:n<=i):x∉l.take n:=λ d=>by
 refine aI (Ml d) λ j a=>?_
 exact Nat.not_lt.mpr h (Lq nd c (Fp a)▸TF a)
section
variable{g:G}{Z:Zf}{s:aZ}
theorem dU.len{h a us os}(x:dU g Z h a us os):a.length=us.length:=dU.rec rfl (λ Y Y b=>aD (·+1) b) x
theorem dU.ar7{h a us os}(x:dU g Z h a us os):os.length=us.length:=dU.rec rfl (λ Y Y b=>aD (·+1) b) x
theorem KR.one{x a}(kr:KR g Z x a)(h:x.length<=1):(x=[]/\a=[])\/∃k v w,x=[(k,v)]/\a=[(strOf k,w)]/\VR g Z v w:=by
 cases kr with
 |nil=>exact .inl ⟨rfl,rfl⟩
 |cons hv kr=>cases kr with
  |nil=>exact .inr (ui _ _ _ rfl rfl hv)
  |cons=>exact absurd (Nat.succ_le_succ_iff.mp h) (WA _)
theorem KR.look{a b p}(kr:KR g Z a b)(h:a.length<=1)(f:∀x∈a,strOf p=strOf x.1->p=x.1):
  (∀v,lk p a=aa v->∃w,b.lookup (strOf p)=aa w/\VR g Z v w)/\(lk p a=none->b.lookup (strOf p)=none):=by
 refine aB λ Y i=>?_;obtain⟨c,d⟩|⟨k,v,w,c,d,vr⟩:=kr.one h
 ·refine i ?_;rw[c,d];exact⟨(by intros;cbv),λ Y=>rfl⟩
 ·refine i ?_;rw[c]at f⊢;rw[d,mR];show(∀u,(if p=k then aa v else none)=aa u->_)/\_;by_cases hp:p=k
  ·rw[aT hp,hp,sM];exact⟨λ u e=>(aL w rfl (aS e▸vr)),λ q=>(by cases((aT rfl:(if k=k then aa v else none)=aa v).symm.trans q))⟩
  ·rw[aM hp,beq_eq_false_iff_ne.mpr λ q=>hp (f (k,v) (.head _) q)];exact⟨(by intros;cbv),λ Y=>rfl⟩
theorem bt4{x y:ak ao}(h:y=none):x.or y=x:=h▸cf7
structure Q1(g:G)(Z:Zf)(h:bu)(ps:af Nm)(dv us:af ao)(os:af (ak aA))(uks:af (aN×ao))(V:Loc):Prop where
 br:BR g Z h V (Ib (ps.map strOf) us uks (((ps.map strOf).drop (ps.length-dv.length)).zip dv)) os
 len:us.length<=ps.length
 k0:uks=[]\/∃x,uks=[x]
 k1:∀x,uks=[x]->x.1∈ps.map strOf/\((ps.map strOf).zip us).lookup x.1=none
 all:∀n∈(ps.map strOf).take (ps.length-dv.length),(((ps.map strOf).zip us++uks).lookup n).isSome=ae
theorem NN{d dflt r}(nd:(d.map strOf).Nodup)(kz:∀b o,g.K.lookup b=aa o->Z b=aa o)
  (hd:∀p v,lk p dflt=aa v->∃w,(((d.map strOf).drop (d.length-r.length)).zip r).lookup (strOf p)=aa w/\VR g (λ b=>g.K.lookup b) v w)
  {B:af IV}{us os y z}{V:Loc}(C:dU g Z s.heap B us os)(kr:KR g Z y z)(H:y.length<=1)
  (D:dA d dflt B y=aa V):Q1 g Z s.heap d r us os z V:=by
 have idx:∀{i:ah}{p},d[i]? =aa p->(d.map strOf)[i]? =aa (strOf p):=λ h=>by simp only[qT,h];rfl
 have E:=Z6 D;have I:∀{i p},d[i]? =aa p->_:=λ{i p} c=>kr.look H λ x t q=>by
  refine aG (E x t) λ j l Y=>?_;have e:=Lq nd (idx c) (q▸idx l);rw[e]at c;exact aS (c.symm.trans l)
 have hz:∀{i p},d[i]? =aa p->us.length<=i->((d.map strOf).zip us).lookup (strOf p)=none:=λ c m=>PD _ _ (bb4 nd (idx c) m);have b:=ZI (look:=λ n=>((((d.map strOf).zip us)++z).lookup n).or ((((d.map strOf).drop (d.length-r.length)).zip r).lookup n)) D (cg6 strOf (λ a b h e=>h (e▸rfl)) nd) C
  ⟨λ i p u c L=>by simp only[Mi,bk9 _ _ i nd (idx c) L];rfl,
   λ i p c m v e=>by
    refine aG ((I c).1 v e) λ w X A=>?_
    exact(aL w (by simp only[Mi,hz c m,X];rfl) A),
   λ i p c m e v f=>by
    refine aG (hd p v f) λ w X A=>?_
    exact(aL w (by simp only[Mi,hz c m,(I c).2 e,X];rfl) (A.mono kz))⟩
 refine⟨b.br,b.len,?_,λ x t=>?_,λ n M=>?_⟩
 ·obtain⟨_,f⟩|⟨k,v,w,_,f,_⟩:=kr.one H
  · exact .inl f
  · exact .inr ⟨_,f⟩
 ·obtain⟨_,f⟩|⟨k,v,w,N,f,_⟩:=kr.one H
  · exact(by cases(f.symm.trans t))
  · refine aG (E (k,v) (N▸.head _)) λ j l m=>?_;have e:=(kE (f.symm.trans t)).1;rw[<-e];exact⟨pR (idx l),hz l (C.len▸m)⟩
 ·refine aI (Ml M) λ i c=>?_;have T:=TF c;refine Dw ((qT ..).symm.trans (Fp c)) λ p J e=>?_;rw[<-e];have O:=b.all i p J;rwa[bt4 (PD _ _ λ Q=>by
    refine aI (Ml (cg7 Q)) λ j l=>?_
    rw[Ma]at l
    have:=Lq nd (idx J) l
    lia)]at O
theorem RC{K:dc}{M A E s}(X:K.In s.heap){b c}(i:(b=.none/\c=[])\/∃T o a n,b=.ref T/\K.lookup T=aa o/\o.data=.seq a n/\a.toList=c):
  ∃x:ak (nI ao),(x.getD #[]).toList=c/\∀{Q},Q x s->au M A (seqItems? b) Q E s:=by
 refine aB λ Y f=>?_;obtain⟨d,e⟩|⟨T,o,a,n,d,e,j,k⟩:=i
 ·refine f ?_;exact aL none e.symm (λ h=>d▸aR h)
 ·refine f ?_;exact aL (aa a) k (λ h=>d▸cg8 (X _ _ e) j h)
theorem Pz{fn:Fn}{fd as k l}(hp:fd.params=⟨[],as,none,[],k,none,l⟩)(h:as.map (·.arg)=fn.params.map strOf)(nd:(fn.params.map strOf).Nodup)(m:zU g fd.defaults fn)
  (X:g.K.In s.heap)(kz:∀b o,g.K.lookup b=aa o->Z b=aa o){e us os d f}{V:Loc}(n:dU g Z s.heap e us os)(kr:KR g Z d f)(p:d.length<=1)
  (q:dA fn.params fn.dflt e d=aa V):∃i,BindsTo s fd ⟨us,f⟩ i/\BR g Z s.heap V i os:=by
 refine aB λ Y r=>?_;refine dJ (m) λ y t u hd=>?_;have a:as.length=fn.params.length:=by rw[<-bF,h,bF]
 have c:=NN nd kz hd n kr p q;refine r ?_;refine aL _ (λ M A E Q j=>?_) c.br;obtain⟨x,v,w⟩:=RC X t;rw[<-h,<-a]at j;exact Nf hp v w (a▸c.len) (a▸u) c.k0 (h▸c.k1) (h▸a▸c.all) j
theorem XU{fn:Fn}{fd as w H f x}(hp:fd.params=⟨[],as,none,[],w,none,H⟩)(d:as.map (·.arg)=f::fn.params.map strOf)(nd:(f::fn.params.map strOf).Nodup)(B:zU g fd.defaults fn)
  {j}(X:g.K.In j.heap)(kz:∀b o,g.K.lookup b=aa o->Z b=aa o){m us os k p}{V:Loc}(C:dU g Z s.heap m us os)(kr:KR g Z k p)(D:k.length<=1)
  (I:dA fn.params fn.dflt m k=aa V):∃q,BindsTo j fd ⟨x::us,p⟩ ((f,x)::q)/\BR g Z s.heap V q os:=by
 refine aB λ Y J=>?_;refine dJ (B) λ r L t hd=>?_;have i:as.length=fn.params.length+1:=by rw[<-bF,d,dh,bF]
 refine bg (List.nodup_cons.mp nd) λ N O=>?_;have c:=NN O kz hd C kr D I;have ne:∀n∈fn.params.map strOf,(n==f)=ai:=λ n a=>beq_eq_false_iff_ne.mpr λ e=>N (e▸a);have u:fn.params.length+1-r.length=(fn.params.length-r.length)+1:=cg9 t;refine J ?_;refine aL _ (λ M A E Q T=>?_) c.br;obtain⟨y,U,hQ⟩:=RC X L;refine Nf hp U hQ (by rw[i];exact gY c.len) (by rw[i];exact xv t) c.k0 (λ z hz=>?_) (λ n a=>?_) ?_
 ·refine bg (c.k1 z hz) λ v h2=>?_;simp only[d,Ge,mR,ne _ v];exact qh (.tail _ v) h2
 ·simp only[d,i,u,WB]at a;simp only[d,Ge,pU,mR];obtain h|h:=List.mem_cons.mp a
  ·simp only[h,sM];rfl
  ·rw[ne n (cg7 h)];exact c.all n h
 ·rw[d,i,u,List.drop_succ_cons];refine cast (aD (λ l=>Q l j) ?_) T;unfold Ib;rw[Mj,Ge,pU,mR,sM];exact aD (_::·) (F2 λ n a=>by simp only[mR,ne n a])
end
noncomputable def lr(h:af Nm)(os:af (ak aA))(x:Nm):ak aA:=(lk x (h.zip os)).bind id
theorem J0{b x o}{a:af Nm}:∀{os:af b},lk x (a.zip os)=aa o->∃i:ah,a[i]? =aa x/\os[i]? =aa o:=by
 induction a with
 |nil=>exact λ h=>(by cbv)
 |cons p a c=>
  intro os h;obtain _|⟨g,os⟩:=os
  ·cbv
  ·refine fJ (c:=x=p) h (λ e h=>(aL 0 (aD aa e.symm) h)) λ Y h=>?_;refine aG (c h) λ i d f=>?_;exact aL (i+1) d f
theorem bj8{d x o}{a:af Nm}:∀{os:af d}{i:ah},a.Nodup->a[i]? =aa x->os[i]? =aa o->lk x (a.zip os)=aa o:=by
 induction a with
 |nil=>exact λ Y h=>(by cbv)
 |cons p a f=>
  intro os i nd b c;obtain _|⟨g,os⟩:=os
  ·exact(by cbv)
  ·show(if x=p then aa g else lk x (a.zip os))=aa o;obtain _|i:=i
   ·rw[aT (aS b).symm];exact c
   ·have b:a[i]? =aa x:=b;have ne:¬x=p:=λ e=>(List.nodup_cons.mp nd).1 (e▸pR b);rw[aM ne];exact f (List.nodup_cons.mp nd).2 b c
theorem GG{a os x}{b:aA}(h:lr a os x=aa b):∃i:ah,a[i]? =aa x/\os[i]? =aa (aa b):=
 aG (uw h) λ o c d=>
 J0 ((d)▸c)
theorem Ut{h os}{x:Nm}{b:aA}{i:ah}(nd:h.Nodup)(a:h[i]? =aa x)(c:os[i]? =aa (aa b)):lr h os x=aa b:=by
 unfold lr;rw[bj8 nd a c];rfl
theorem Kh{os b}:b∈dz os↔∃i:ah,os[i]? =aa (aa b):=by
 unfold dz;rw[List.mem_filterMap];constructor
 ·rintro⟨o,x,a⟩;refine aI (Ml x) λ i h=>?_;exact vY i (by rw[h];exact aD aa a)
 ·rintro⟨i,h⟩;exact aL (aa b) (pR h) rfl
theorem aj6{b os}:∀{i j:ah},(dz os).Nodup->os[i]? =aa (aa b)->os[j]? =aa (aa b)->i=j:=by
 induction os with
 |nil=>exact λ Y h=>(by cbv)
 |cons o os d=>
  intro i j nd a c;have f:(dz os).Nodup:=by
   clear c a;obtain _|x:=o
   ·exact nd
   ·exact(List.nodup_cons.mp nd).2
  have no:∀{j},o=aa b->os[j]? =aa (aa b)->xA:=λ e h=>(List.nodup_cons.mp (e▸nd:(dz (aa b::os)).Nodup)).1 (Kh.mpr ⟨_,h⟩);obtain _|i:=i
  ·obtain _|j:=j
   ·rfl
   ·exact(no (aS a) c).elim
  ·obtain _|j:=j
   ·exact(no (aS c) a).elim
   ·exact aD (·+1) (d f a c)
theorem ca5{x:Type}{k v}{l:af (aN×x)}:l.lookup k=aa v->k∈l.map (·.1):=by
 induction l with
 |nil=>exact λ h=>(by cbv)
 |cons y l a=>
  intro h;rw[mR]at h;rcases q:k==y.1 with _|_
  ·rw[q]at h;exact .tail _ (a h)
  ·rw[cH q];exact .head _
section
variable{g:G}{Z:Zf}{h:bu}
theorem BR.names{V b os}(x:BR g Z h V b os):b.map (·.1)=V.map (λ x=>strOf x.1):=
 BR.rec rfl (λ Y Y a=>aD (_::·) a) (λ Y Y a=>aD (_::·) a) x
theorem Vl{p x v u w}{l:af (Nm×IV)}{b}{C:ao->Prop}(c:b.map (·.1)=l.map (λ x=>strOf x.1))(nd:strOf p∉l.map (λ x=>strOf x.1))(e:lk x ((p,v)::l)=aa u)
  (d:x=p->v=u->C w)(f:x≠p->lk x l=aa u->∃y,b.lookup (strOf x)=aa y/\C y):∃y,((strOf p,w)::b).lookup (strOf x)=aa y/\C y:=by
 refine fJ (c:=x=p) e (λ q e=>(aL w (by simp only[mR,q,sM]) (d q (aS e)))) λ q e=>?_;refine aG (f q e) λ y a i=>?_;have ne:(strOf x==strOf p)=ai:=beq_eq_false_iff_ne.mpr λ j=>nd (by simp only[<-j,<-c];exact ca5 a);exact aL y (by simp only[mR,ne];exact a) i
theorem TM{a x}:lr a [] x=none:=by unfold lr;rw[List.zip_nil_right];rfl
theorem Yc{a os p x o}:lr (p::a) (o::os) x=if x=p then o else lr a os x:=by
 show(if x=p then aa o else lk x (a.zip os)).bind id=_;by_cases q:x=p
 ·rw[aT q,aT q];rfl
 ·rw[aM q,aM q];rfl
theorem BR.has{V i os}(t:BR g Z h V i os):(V.map (λ x=>strOf x.1)).Nodup->∀x v,lk x V=aa v->∃w,i.lookup (strOf x)=aa w/\FR g Z h v w (lr (V.map (·.1)) os x):=by
 refine BR.rec (by intros;cbv) (λ{p v w o l b os} f t a nd x u e=>?_) (λ{p v w l b} f t a nd x u e=>?_) t
 ·obtain⟨c,d⟩:=List.nodup_cons.mp nd;simp only[Ci,Yc];exact Vl t.names c e (λ q e=>by rw[aT q,<-e];exact f) λ q e=>by rw[aM q];exact a d x u e
 ·obtain⟨c,d⟩:=List.nodup_cons.mp nd;rw[TM];exact Vl t.names c e (λ q e=>e▸f) λ q e=>by rw[<-TM];exact a d x u e
end
theorem UL{a x}{l:af (Nm×a)}:x∈l.map (·.1)->(lk x l).isSome=ae:=by
 induction l with
 |nil=>exact λ h=>(by cbv)
 |cons y l b=>
  intro h;show(if x=y.1 then aa y.2 else lk x l).isSome=ae;by_cases q:x=y.1
  ·rw[aT q];rfl
  ·rw[aM q];exact b ((List.mem_cons.mp h).resolve_left q)
section
variable{g:G}{h:bh}{a:Act}{N:Nt}{X:Xt}
theorem aj4{b}(p:Pr g h a N X)(c:b∈X.S\/b∈N.T):b∉(a.env::a.outer).filterMap (·.frame):=λ f=>by
 refine aG (List.mem_filterMap.mp f) λ env he x=>?_
 obtain e|he:=List.mem_cons.mp he
 ·rw[e]at x
  have x:=aS x
  exact c.elim (λ q=>p.p.LS (x▸q)) λ q=>(p.p.loc.free b q).2.2.1 x.symm
 ·refine aG ((p.ok.ff.mem (List.mem_filterMap.mpr (aL env he x))).2) λ o d Y=>?_
  exact c.elim (λ q=>nomatch(p.p.hS b q).symm.trans d) λ q=>nomatch(p.p.hT b q).symm.trans d
theorem Pr.frames(p:Pr g h a N X):X.s.heap.FunFrames {} (a.env::a.outer):=by
 refine aB λ Y x=>?_;refine eh (p.p.F.ns) λ o d f c hd Y=>?_;refine x ?_;exact dB (by rw[p.ok.kind];decide) (qq a.L o rfl rfl c (λ i q=>(by cases(hd.symm.trans q)))) (p.ok.ff.of_keeps λ b o e Y=>(aL o (p.p.F.keep b o e) rfl))
noncomputable abbrev Em(a:Act)(X:Xt)(x:eP)(q:aN)(sc:uG)(fa:aA)(cd:ao)(cl:af (aN×aA))(os:af (ak aA)):Act:=
 ⟨q,sc,X.s.heap.objs.size,fa,cd,cl,x.deeper (envX q sc X.s.heap.objs.size fa cd cl),WC X.s.heap (X.S++dz os),a.env::a.outer,a.d-1⟩
noncomputable abbrev QI(b:af Nm)(os:af (ak aA))(c:Loc)(d:af (aN×ao)):Nt:=⟨λ x=>d.reverse.lookup x,c,dz os,lr b os⟩
theorem Cx{c os x b}(d:lr c os x=aa b):b∈dz os/\x∈c:=aG (GG d) λ i e f=>⟨Kh.mpr ⟨i,f⟩,pR e⟩
theorem af4(p:Pr g h a N X){f os}{c:Loc}{n k}
  (hT:∀b∈dz os,b∈N.T)(s:(dz os).Nodup)(br:BR g X.Z X.s.heap c n os)(l:c.map (·.1)=f)(nd:(f.map strOf).Nodup)
  (t:X.s.heap.objs.size<=k.objs.size)(u:Kept X.s.heap k):tS g X.Z X.S X.s.heap.objs.size (dz os) k (λ x=>n.reverse.lookup x) c (lr f os):=by
 have o:(c.map λ x=>strOf x.1).Nodup:=by simp only[<-l,zB]at nd;exact nd
 refine⟨λ x v e=>?_,λ x b e=>(Cx e).1,λ x b e=>UL (l▸(Cx e).2),λ b z=>?_,λ x y b m d=>?_⟩
 ·refine aG (br.has o x v e) λ w m d=>?_;rw[l]at d;exact aL w (by rw[WD _ (br.names▸o)];exact m) (d.map (λ Y Y e=>e) λ b Y=>u b)
 ·refine pK (p.p.loc.free b (hT b z)) λ H A E q=>?_;exact ky H A (lH q) (jc q t)
 ·refine aG (GG m) λ i r B=>?_;refine aG (GG d) λ j C D=>?_;rw[aj6 s B D]at r;exact aS (r.symm.trans C)
theorem Z0{l}(r:l.handled=none)(p:Pr g h a N X){fa q sc cd cl d os}{f:Loc}{i j}
  (hT:∀b∈dz os,b∈N.T)(s:(dz os).Nodup)(br:BR g X.Z X.s.heap f i os)(t:f.map (·.1)=d)(nd:(d.map strOf).Nodup)
  (m:j.Ns X.s.heap.objs.size λ x=>i.reverse.lookup x)(c:Kept X.s.heap j):
  wR g (Em a X l q sc fa cd cl os) (λ x=>i.reverse.lookup x) f X.O X.Z X.S (dz os) (lr d os) j:=
 have n:=iA m.lt
 ⟨⟨m,λ b o e=>c b o (WE _ e),cx (zC _ _)⟩,(Step.grow p.wd c n).wd,af4 p hT s br t nd n c,p.p.sc.step (λ Y Y e=>e) c λ Y Y Y Y e=>e,
  λ b k=>Mm _ (oK _ k),λ b k=>Mm _ (nJ _ k),(pG p.wd).2,(pG p.wd).1,p.p.kz,.inl r⟩
theorem YJ{d}(x:xX a.A d)(p:Pr g h a N X){r fa q sc cd cl os}(hT:∀b∈dz os,b∈N.T)
  (i:sc.kind=.function)(hd:r.dep+1<=h.dep)(j:r.top=ai)(k:h.quiet=ai):yo g r (Em a X d q sc fa cd cl os):=by
 have dep:=p.ok.dep;have f:∀b∈X.S++dz os,b∈X.S\/b∈N.T:=λ b c=>(List.mem_append.mp c).imp id (hT b);have st:=λ b o e=>Gf _ (p.p.F.keep b o e) λ l=>
  (f b l).elim (λ q=>nomatch(p.p.hS b q).symm.trans e) λ q=>nomatch(p.p.hT b q).symm.trans e
 refine⟨i,λ b o e=>st b o (p.ok.K b o e),p.ok.T.keeps st,ch0 (x.frames.trans p.ok.fr),funFrames_hideAll p.frames λ env m b c n=>aj4 p (f b c) (List.mem_filterMap.mpr (aL env m n)),?_,λ Y=>x.hand.trans (p.ok.hand k),λ q=>(nomatch j.symm.trans q),?_,?_,?_⟩
 ·exact Mn (aj hd dep)
 ·exact arD (aj (fD 1 _) (aj hd dep)) p.ok.deep x.depth
 ·exact eK (ck _ _) (TK (aj (fD 1 _) (aj hd dep)) p.ok.Hx x.units)
 ·exact TK (aj (fD 1 _) (aj hd dep)) p.ok.Hx x.units
end
section
variable{g:G}{r r0:bh}{a H:Act}{N J U:Nt}{X A I:Xt}{q:al}
structure Ju(fn:Fn)(X:Xt)(os:af (ak aA))(J:Nt)(A:Xt)(H:Act):Prop where
 L:H.L=X.s.heap.objs.size
 Z:A.Z=X.Z
 S:A.S=X.S
 kept:Kept X.s.heap A.s.heap
 size:X.s.heap.objs.size<A.s.heap.objs.size
 sm:Sm X.s A.s
 T:J.T=dz os
 c:J.c=lr fn.params os
theorem Nc{fn res os v w q}(h:Ju fn X os J A H)(nd:fn.params.Nodup)(s:os.length<=fn.params.length)
  (x:bU H q fn.params J A U I)(j:xM g fn.params J A U I v w)(t:res=.ok ((v,U.V),I.O)):CQ g fn res X os w I.s:=by
 have own:∀(i:ah) p b,fn.params[i]? =aa p->os[i]? =aa (aa b)->b∉I.S/\I.Z b=none/\∃u,lk p U.V=aa u/\FR g I.Z I.s.heap u (.ref b) (aa b):=λ i p b c d=>j.own p (pR c) b (by rw[h.c];exact Ut nd c d);have m:∀b∈dz os,∃(i:ah)(p:Nm),fn.params[i]? =aa p/\os[i]? =aa (aa b):=λ b l=>
  aI (Kh.mp l) λ i n=>
  ⟨i,_,sN (jc (List.getElem?_eq_some_iff.mp n).1 s),n⟩
 have st:=x.st;have sz:=iA h.size;simp only[h.Z,h.S,h.T,h.L]at st;refine aG (j.val) λ o f k=>?_;refine⟨v,_,I,rfl,t,⟨st.zz,λ b o e=>(st.zn b o e).imp id λ q=>q.elim (aj sz) λ q=>?_,λ b o y z e=>st.keep b o y z (λ q=>qQ _ (q▸cq e)) (h.kept b o e),aj sz st.size,λ b l=>(st.sn b l).imp id (aj sz),st.pre,j.wd⟩,h.sm.trans x.sm,j.sc,own,o,f,λ b e=>⟨(k b e).1.elim (λ q=>(st.tn b q).elim (λ q=>?_) (aj sz)) (aj sz),(k b e).2.1,(k b e).2.2.1⟩⟩
 ·refine cu (m b q) λ i p c d=>?_;exact absurd (by rw[h.c];exact Ut nd c d) ((k b e).2.2.2 p (pR c))
 ·refine cu (m b q) λ i p c d=>?_;exact nomatch(own i p b c d).2.1.symm.trans e
theorem FR.cell{Z Z':Zf}{h v w b}(f:FR g Z h v w (aa b)):w=.ref b:=by
 generalize x:aa b=o at f;exact FR.casesOn f (λ Y Y e=>(by cbv)) (λ Y Y e=>aD mi (aS e).symm) (λ Y Y Y Y e=>aD mi (aS e).symm) x
theorem Lo{prm:af Nm}(p:Pr g r a U I)(d:∀x∈prm,U.c x=N.c x):xM g prm N X U I .none .none where
 wd:=p.wd
 sc:=p.p.sc
 own x i b e:=by
  refine aB λ Y j=>?_
  have h:=(d x i).trans e
  refine pK (p.p.loc.free b (p.p.loc.cell x b h)) λ k l Y Y=>?_
  refine aI (fY (p.p.loc.qa x b h)) λ u c=>?_
  refine aG (p.p.loc.has x u c) λ w Y f=>?_
  rw[h]at f
  refine j ?_
  exact⟨k,l,u,c,f.cell (Z':=I.Z)▸f⟩
 val:=(aL none (.val rfl .none) (by intros;cbv))
theorem F9{fn os sP e j Q E}
  (p:yo g r H)(k:H.outer=a.env::a.outer)(c:Ju fn X os J A H)(x:EX g r H sP J A e j)
  (s:∀v t l m,sP=.exc (v,t,l)->(dz os=[]->XE g a X v l e m)->Q () m):au g.M H.A («leaving» H.env e) Q E j:=by
 obtain⟨v,U,I,h,x,d,sm,u,y,C,z,B,D,n,base,FRs,L,rfl,M,O,w⟩:=x;refine ad3 p.fr rfl w.pF λ h' T up=>s v U.V I.O _ h λ V=>?_;have st:=x.st;have sz:=iA c.size;simp only[c.Z,c.S,c.T,c.L,V]at st;have sm:=(c.sm.trans x.sm).trans sm;refine⟨I.s.heap,I.Z,I.S,⟨sm.os,sm.gens⟩,⟨st.zz,λ b o q=>(st.zn b o q).imp id λ q=>q.elim (aj sz) nofun,d.wd.zh,λ b o Z q=>st.keep b o Z nofun (λ q2=>qQ _ (q2▸cq q)) (c.kept b o q),aj sz st.size,λ b f=>(st.sn b f).imp id (aj sz),d.wd.wz,d.wd.ww,d.wd.big,st.pre⟩,
  d.p.sc,u,y,C,z,B,D,n,base,FRs,L,rfl,M,O,{w with pF:=⟨.none,.inl rfl,k▸T⟩,up:=w.up.trans up,tQ:=λ b f=>(w.tQ b f).elim (λ q=>?_) λ q=>.inr (ky (aj sz q.1) q.2.1 q.2.2.1 nofun)}⟩
 refine aG (List.mem_filterMap.mp q) λ env he i=>?_;obtain e|he:=List.mem_cons.mp he
 ·rw[e]at i;rw[<-(aS i)];exact .inr (ky (cx c.L.symm) d.p.LZ d.p.LS nofun)
 ·rw[k]at he;exact .inl (List.mem_filterMap.mpr (aL env he i))
theorem Ug{fn:Fn}{sc fa cd cl body sP}(k:lW g r)(l:Ac g r)(x:fn.body=bZ sc.names body\/∃st rest c,body=st::rest/\nQ st=aa c/\fn.body=.nD (bV sc.names c)::bZ sc.names rest/\tG g sc fa cd cl)
  (m:H.sc=sc)(n:H.fa=fa)(o:H.cd=cd)(s:H.cells=cl)(p:Pr g r H J A)(d:r.B fn.body J.V A.O=sP)(i:sP≠.stuck):
  _root_.PySem.wpAt g.M H.A (.func body H.env) (qR body H.env) (λ f b=>∃pu,fU g r H pu sP J A f b) (EX g r H sP J A) A.s:=by
 refine aB λ Y j=>?_;subst m n o s;obtain x|⟨st,rest,c,rfl,t,x,u⟩:=x
 ·rw[x]at d;refine j ?_;exact Gg (bI (k H J A body sP p d i) (λ f b h=>⟨_,h⟩) λ e b h=>h)
 ·rw[x]at d;refine j ?_;exact zD (l H J A st rest c sP p u t d i) (λ f b h=>⟨_,h⟩) λ e b h=>h
theorem az5{d:ah}{rs:Fn->bh}(V:∀fn,lW g (rs fn))(Z:∀fn,Ac g (rs fn))(s:∀fn,(rs fn).prm=fn.params)(a0:∀fn,(rs fn).dep=d)(a8:∀fn,(rs fn).top=ai):zT g (λ fn=>tP (rs fn) fn) (d+1):=by
 intro r0 a N X fn fa vs us os ks d7 res p hd t a9 i c j u l;refine aB λ Y kK=>?_;obtain⟨oc,od,d8,nm,q,as,kd,ds,body,sc,cl,dV,kV,b0,pm,an,cd,ct,b4,b5,b6,ha,w,b7,b8,b9,c7,nd,c8⟩:=a9;have K:=p.ok.K.keeps p.p.F.keep;refine cf c j λ c9 c=>bQ c j λ B m c=>?_;have C:fn.params.Nodup:=cg6 strOf (λ a b h e=>h (e▸rfl)) nd;have names:=zQ m;refine aG (Pz (fd:=fnX nm q ⟨[],as,none,[],kd,none,ds⟩ body sc cl dV kV b0 pm an cd ct) rfl ha nd c8 K p.p.kz i.ops i.kr (bE c9) m) λ k d5 br=>?_;have D:=i.ops.ar7▸(aj0 m i.ops.len);have d6:∀y∈k,sc.names.lookup y.1=aa .local:=λ y hy=>by
  have:=pV (f:=oL) hy;rw[br.names]at this;refine aG (List.mem_map.mp this) λ z hz e=>?_;rw[<-e];exact c7 z.1 (by rw[<-names];exact pV hz)
 refine kK ?_;refine ch1 (eK (aj l.depth (aj (lG (ck _ _) 1) (ma (by decide:1<=8) _))) p.ok.deep) (K _ _ b4) rfl (p.ok.T.nolimit.keeps p.p.F.keep) (WG K b5) rfl d5 b9 d6 (λ E L M=>?_) b7 b8 w;have O:=YJ l (fa:=fa) (q:=q) (cd:=cd) (cl:=cl) p i.Nj w (by rw[a0];exact hd) (a8 fn) t;have p':Pr g (rs fn) (Em a X u q sc fa cd cl os) (QI fn.params os B k) ⟨X.O,X.Z,X.S,{X.s with heap:=E,toks:=X.s.toks+k.length}⟩:=⟨O,Z0 (l.hand.trans (p.ok.hand t)) p i.Nj i.nd br names nd L M⟩
 have n:Ju fn X os (QI fn.params os B k) ⟨X.O,X.Z,X.S,{X.s with heap:=E,toks:=X.s.toks+k.length}⟩ (Em a X u q sc fa cd cl os):=⟨rfl,rfl,rfl,M,L.lt,.refl,rfl,rfl⟩
 refine zD (Ug (V fn) (Z fn) b6 rfl rfl rfl rfl p' rfl (λ e=>j (by simp only[<-c,e];rfl))) (λ fl s' h=>?_) λ e s' h=>?_
 ·obtain⟨pu,f,U,I,rfl,o,x,e⟩:=h;have c:=(aD eW o).symm.trans c;have Q:=x.cc;rw[s]at x Q;cases e with
  |brk=>exact absurd c.symm j
  |cont=>exact absurd c.symm j
  |next pe=>exact Nc n C D x (Lo pe Q) c.symm
  |ret T=>
   rw[s]at T;exact Nc n C D x T c.symm
 ·exact F9 O rfl n h λ v V' O' d9 o xp=>(gR v O' (((aD eW o).symm.trans c).symm) xp)
end
structure oZ(g:G)(P:bW):Prop where
 bx:∀mn fn,P.bx mn=aa fn->∃C fa,g.cA .bL=aa C/\qP g.K C (strOf mn)=ae/\iM g.K (.ref C) (strOf mn)=aa (aa (.ref fa))/\Cj g.K (.ref fa)=ae/\mE g fn fa/\qV g.K (.ref fa)=ae
 Kx:∃C,g.cA .bL=aa C/\il g.K gX (strOf .bL)=aa (aa (.ref C))/\Gh g.K C=ae/\qV g.K (.ref C)=ae
 fn:∀n fn,P.fn n=aa fn->∃fa,il g.K gX (strOf n)=aa (aa (.ref fa))/\mE g fn fa/\qV g.K (.ref fa)=ae
noncomputable def jj(g:G)(r:bh):Prop:=r.C=yg\/(r.quiet=ai/\zT g r.C r.dep)
noncomputable abbrev Cs:IE:=.lst []
section
variable{g:G}{P:bW}{r:bh}{a:Act}{N:Nt}{X b h f:Xt}{q i:al}{s:aZ}{Z:Zf}{c:Nm->ak aA}
theorem AR.ops{e l d us}(x:AR g c Z e l d us):d.all az=ae->∃os,dU g Z e d us os/\dz os=[]:=
 AR.rec (λ Y=>(aL ([]) .nil rfl))
  (λ j Y Y k q=>aG (k (aP q)) λ os m n=>(aL (none::os) (.cons (.val (aH q) (j.vr (aH q))) m) n)) x
theorem Bf.wp{A fn res os v us l s Q E}(j:gy g.M A (.call v ⟨us,l⟩) (Bf g a fn res X os) s)(m:∀w d,CQ g fn res X os w d->Q w d)(n:∀e d v k,res=.exc (v,k)->(dz os=[]->XE g a X v k e d)->E e d):au g.M A (call v us l) Q E s:=
 uU (pW j λ rs d j=>by
  obtain e|o:=rs
  ·obtain⟨v,k,p,x⟩:=j;exact n e d v k p x
  ·cases o with
   |ret w=>exact m w d j
   |_=>exact j.elim)
theorem UQ(l:jj g r)(p:Pr g r a N X){fn fa}(fo:mE g fn fa){n us os t d res}
  (B:dU g X.Z X.s.heap n us os)(m:dz os=[])(kr:KR g X.Z t d)(j:oq r fn n t X.O=res)(y:res≠.stuck)
  {z H}(C:∀R,gy g.M a.A (.call (.ref fa) ⟨us,d⟩) R X.s->gy g.M a.A (.call z ⟨H,d⟩) R X.s):fG g r a N Cs res X (call z H d):=by
 refine cf j y λ hv j=>?_;have ns:=qJ j y;have l:=l.resolve_left λ e=>ns (by rw[e];rfl);refine Bf.wp (C _ (l.2 r a N X fn fa n us os t d _ p (ca _) l.1 fo ⟨B,by rw[m];exact(by intros;cbv),by rw[m];exact .nil,kr⟩ rfl ns _ (.refl _))) (λ w D E=>?_) λ e D v I u x=>⟨v,I,Dv j u,x m⟩
 obtain⟨v,M,A,rfl,u,st,sm,sc,_,o,J,k⟩:=E;rw[m]at st;have x:aW ai X A:=⟨st.step,sm,(by intro O;cbv)⟩
 exact⟨v,A,rfl,(Eu j u).symm,x,p.step x sc,o,J,λ L e=>⟨λ Y=>k L e,(by intros;cbv)⟩⟩
theorem Ta(j:jj g r)(p:Pr g r a N X){fn fa}(fo:mE g fn fa){x us os d e res}
  (k:dU g X.Z X.s.heap x us os)(l:dz os=[])(kr:KR g X.Z d e)(m:oq r fn x d X.O=res)(n:res≠.stuck):fG g r a N Cs res X (call (.ref fa) us e):=
 UQ j p fo k l kr m n λ Y o=>o
theorem CJ{fn x d O res}(e:oq r fn x d O=res)(j:res≠.stuck):x.all az=ae:=cf e j λ k Y=>(aH k)
theorem KD{ie res t}(x:aW q X h)(j:∀y,ie≠.var y)(hp:pureE ie=ai)(d:fG g r a N Cs res h t):au g.M a.A t (dR g r a N ie res X) (dk g a res X) h.s:=
 bI d (λ Y Y d=>d.after x j (λ Y=>rfl) λ e=>(absurd (hp.symm.trans e) ⋯)) λ Y Y d=>d.pre x
theorem bm8(o:oZ g P){x}(p:Pr g r a N X)(t:X.O=aa x){w mt fn}(u:P.bx mt=aa fn)(v:lk mt x=none)(vr:VR g X.Z .obj w){pl Q E}
  (e:∀fa,mE g fn fa->qV g.K (.ref fa)=ae->Q (.ref fa,[w]) X.s):au g.M a.A (xw w (strOf mt) pl) Q E X.s:=by
 refine GQ (o.bx _ _ u) λ C fa y j k z H A=>?_;have sc:=p.p.sc;rw[t]at sc;refine qI (sc) λ J l d B n cc sc=>?_;refine eh (vr.objs) λ C2 L M D I m=>?_;clear vr;subst D;rw[<-aS (sc.cls.symm.trans I)]at m;rw[<-aS (sc.cls.symm.trans y)]at j k;rw[sc.uniq _ _ m]at e⊢;exact method_inst p.p.F p.ok.K (⟨p.zh sc.inst,rfl,rfl,sc.dict⟩:InstAt X.s.heap _ (dD l d) l (aa (gW B n))) j k z (sc.pv _ v) (e fa H A)
end
noncomputable def zX(m:Nm):uI:=if m=.wH then "str.join" else if m=.rM then "str.strip" else "str.lstrip"
section
variable{g:G}{P:bW}{r:bh}{a:Act}{N:Nt}{X h d b:Xt}{q f:al}{s:aZ}{Z:Zf}{c:Nm->ak aA}
theorem ca8(s:aN)(l:af aN):(Str.join s l).cps.toList=eH s.cps.toList (l.map λ x=>x.cps.toList):=by
 induction l with
 |nil=>rfl
 |cons x l e=>cases l with
  |nil=>rfl
  |cons y r=>
   show(Str.append (Str.append x s) (Str.join s (y::r))).cps.toList=x.cps.toList++s.cps.toList++eH s.cps.toList ((y::r).map λ x=>x.cps.toList);exact(e)▸(FN ..).trans (aD (·++_) (FN ..))
theorem bp9{l}:∀{i ss},vB l=aa ss->bD g Z l i->∃q:af (aN×uM),i=strValues q/\(q.map (·.1)).map (λ x=>x.cps.toList)=ss:=by
 induction l with
 |nil=>
  intro i ss e v;exact(List.length_eq_zero_iff.mp v.1.symm).symm▸aL ([]) rfl (aS e)
 |cons x l k=>
  intro i ss e v;obtain _|⟨w,i⟩:=i
  ·exact(by cases(v.1))
  ·revert e;refine av λ u m=>dQ λ A n o=>?_;subst o;refine aG (k n (v.drop 1)) λ q p t=>?_;subst p;refine t▸?_;have j:=v.2 0 x w rfl rfl;rw[gb m]at j;refine cu ((FR.val (h:=({}:bu)) rfl j).strs) λ y tk z H=>?_;refine z▸?_;refine H▸?_;exact aL ((y,tk)::q) rfl rfl
section
variable{A:eP}{E Q:ao->aZ->Prop}{x:aN}{t:uM}{us:af ao}{a:af IV}{j:af IE}{v:IV}
theorem SP(i:AR g c Z s.heap j a us)(C:((one a).bind λ v=>v.dX.bind λ l=>(vB l).bind λ l=>aE (decide (x.cps.toList.length<=1000)&&decide (l.length<=1000)&&l.all λ x=>decide (x.length<=1000)) (IV.str (eH x.cps.toList l)))=aa v)
  (D:∀w tk,VR g Z v w->Q w {s with toks:=tk}):au g.M A (call (.builtin "str.join") (.str x t::us)) Q E s:=by
 refine aB λ Y I=>?_;revert C;refine av λ u J=>av λ l L=>av λ ss e=>bR λ m hv=>?_;rw[iF J,jm L]at i;refine cu (i.wi) λ w o M z=>?_;clear i SP;subst M;refine eh (z.wI) λ a0 xs n O T H=>?_;clear z;subst O;refine aG (bp9 e H) λ q U p=>?_;clear H;subst U;refine I ?_;refine SC.join ⟨_,T,rfl,_,rfl⟩ rfl ?_ λ V k=>D _ _ ?_
 ·unfold JoinOk;rw[mm];refine StrLaws.joinFits (B:=1000) (λ y hy=>?_) ?_
  ·have:=bE (List.all_eq_true.mp (aP m) y.cps.toList ((p)▸pV hy));rwa[oF]at this
  ·have h3:q.length<=1000:=by
    have:=bE (aP ((aH m)));rwa[<-p,bF,bF]at this
   have B:=bE (aH ((aH m)));rw[oF]at B;rw[bF];have:=Wb h3 B;show q.length*1000+q.length*x.cps.size<=16777216;lia
 ·rw[<-hv,<-p,<-ca8,<-StrLaws.glued_eq_join];exact VR.str (Txt.join x (q.map (·.1))) V
theorem S8{mt}(o:AR g c Z s.heap j a us)(l:nf mt x.cps.toList a=aa v)(p:∀w tk,VR g Z v w->Q w {s with toks:=tk}):au g.M A (call (.builtin (zX mt)) (.str x t::us)) Q E s:=by
 revert l;refine ki (λ Y q=>nomatch q) λ m l=>?_;have m:x.length<=gh:=by rw[oF]at m;simp only[gh];exact aj (Nat.not_lt.mp m) ⋯
 have arg:∀{k},((one a).bind λ v=>v.de.map k)=aa v->∃y tk,us=[.str y tk]/\k y.cps.toList=v:=λ l=>by
  revert l;refine av λ u z=>dQ λ i H e=>?_;rw[iF z,gb H]at o;refine aG (o.DS rfl) λ w B r=>?_;refine B▸?_;refine cu ((FR.val (h:=({}:bu)) rfl r).strs) λ y tk C D=>?_;refine C▸?_;subst D;exact gR y tk rfl e
 revert l;refine ki (λ n l=>n▸SP o l p) λ Y=>ki (λ n l=>?_) λ Y=>ki (λ n l=>?_) λ Y q=>nomatch q
 ·refine cu (arg l) λ y tk I e=>?_;refine I▸?_;exact n▸SC.stripChars (λ J k=>p _ _ (e▸.str _ _)) m
 ·refine cu (arg l) λ y tk L e=>?_;refine L▸?_;exact n▸SC.lstripChars (λ J k=>p _ _ (e▸.str _ _)) m
end
theorem T7{M A E x t mt pl Q}(k:Ad mt=ae)
  (i:Q (.builtin (zX mt),[.str x t]) s):au M A (xw (.str x t) (strOf mt) pl) Q E s:=by
 have hd:∀j,BQ x t=.ref j->∃o,s.heap.get? j=aa o/\o.dict=none:=λ j e=>by cbv
 obtain rfl|rfl|rfl:=bE k
 ·rw[show strOf .wH=("join":aN) by decide+kernel];rw[show zX .wH="str.join" by decide+kernel]at i
  with_reducible exact zy (FW _ _ _) WH F.slot_str_join F.type_str_join hd i
 ·rw[show strOf .rM=("strip":aN) by decide+kernel];rw[show zX .rM="str.strip" by decide+kernel]at i
  with_reducible exact zy (FW _ _ _) WH F.slot_str_strip F.type_str_strip hd i
 ·rw[show strOf .sv=("lstrip":aN) by decide+kernel];rw[show zX .sv="str.lstrip" by decide+kernel]at i
  with_reducible exact zy (FW _ _ _) WH F.slot_str_lstrip F.type_str_lstrip hd i
theorem C6{mt i j pos w pl ie res}(u:oZ g P)(v:jj g r)(z:bJ g r)(H:∀V O,r.E .bad V O=.stuck)(A:gq i j=ae)(B:∀y,ie≠.var y)(hp:pureE ie=ai)
  (l:aW q h X)(p:Pr g r a N X)(vr:VR g X.Z .obj w)(x:Jn P r mt (bV a.sc.names i) (ic a.sc.names j) N.V X.O=res)(e:res≠.stuck):
  au g.M a.A (xw w (strOf mt) pl) (λ m C=>au g.M a.A (xy pos m.1 m.2 (kD pos (iN i a.env)) (jG pos (jH j a.env))) (dR g r a N ie res h) (dk g a res h) C) (dk g a res h) X.s:=by
 refine aB λ Y D=>?_;refine bQ x e λ fn E x=>cf x e λ k x=>?_;refine mB k λ Q k I=>?_;refine D ?_;refine bm8 u p k E (lY I) vr λ fa fo J=>BK z H A (zE J) l p x e λ T U us a0 b n o L kr t=>⟨p.ok.K.keeps o.p.F.keep,?_⟩
 refine aG (L.ops (aP (CJ t e))) λ os ops M=>?_;exact KD (l.trans n) B hp (Ta v o fo (.cons (.val rfl (vr.mono n.st.zz)) ops) M kr t e)
theorem bi6{mt x i pos w pl ie res u}(z:bJ g r)(H:∀V O,r.E .bad V O=.stuck)(A:gq x i=ae)(hp:pureE ie=ai)
  (m:aW q h X)(p:Pr g r a N X)(vr:VR g X.Z (.str u) w)(j:uy r u mt (bV a.sc.names x) (ic a.sc.names i) N.V X.O=res)(k:res≠.stuck):
  au g.M a.A (xw w (strOf mt) pl) (λ n B=>au g.M a.A (xy pos n.1 n.2 (kD pos (iN x a.env)) (jG pos (jH i a.env))) (dR g r a N ie res h) (dk g a res h) B) (dk g a res h) X.s:=by
 revert j;refine Hc k λ o j=>?_;refine cu ((FR.val (h:=({}:bu)) rfl vr).strs) λ y tk C D=>?_;refine C▸?_;clear vr;subst D;refine T7 (aH o) (Ab z H A (aP o) Am m p j k λ M us b E I J l=>⟨trivial,?_⟩);revert l;refine YK k λ v L l=>?_;exact S8 J L λ w t hv=>dR.vr ((m.trans E).tk t) (I.tk t) (λ e=>(absurd (hp.symm.trans e) ⋯)) hv l.symm
theorem ZF{ex mt x i j o pos res}(H:oZ g P)(A:jj g r)(m:bJ g r)(t:∀V O,r.E .bad V O=.stuck)(B:cy x=aa mt)
  (n:gq i j=ae)(C:(o.endLine==pos.line)=ae)(D:qe ex=none)(p:Pr g r a N X)
  (E:((r.E (ay a.sc.names ex) N.V X.O).aw λ v O=>Cz P r v mt (bV a.sc.names i) (ic a.sc.names j) N.V O)=res)(k:res≠.stuck):
  fG g r a N (.bx (ay a.sc.names ex) mt (bV a.sc.names i) (ic a.sc.names j)) res X (bM (.Call (.Attribute ex x o) i j pos) a.env):=by
 rw[<-eC B];refine HY (yy D _ _ _) n C (hZ m p.refl (q:=ae) p E k λ v w d y z I e=>λ pl=>?_);obtain⟨o1,l,_⟩:=I;refine UH e (λ hv e=>?_) λ Y e=>bQ e k λ u J e=>?_
 ·rw[rj hv]at l;exact C6 H A m t n nofun rfl y z (l.vr rfl) e k
 ·rw[gb J]at l;exact bi6 m t n rfl y z (l.vr rfl) e k
end
section
variable{prog:mf}{w:fE}{A:eP}{E:ao->aZ->Prop}{s:aZ}{K:dc}{x C b:aA}{d:cP}{name:aN}{v:ao}{h:af ke}{n:ah}
noncomputable def QE(l:af ao):al:=l==[.type "object"]||(l==[.type "Exception",.type "BaseException",.type "object"])
noncomputable def JR:af ao->al
 |.ref _::r=>JR r
 |l=>QE l
noncomputable def vw(K:dc)(C:aA):al:=(qS K C).any λ cd=>JR cd.mro
theorem Y4{x0 l}:JR l=ae->refuseLoop x0 "__setattr__" l=fO ()/\l.contains (.type "object")=ae:=by
 induction l with
 |nil=>exact(by intro f;cbv)
 |cons c r a=>
  intro e;have base:∀l,QE l=ae->refuseLoop x0 "__setattr__" l=fO ()/\l.contains (.type "object")=ae:=λ l e=>by
   obtain e|e:=gV e
   ·rw[cH e];exact⟨PySem.F.store_object.passes x0,rfl⟩
   ·rw[cH e];exact⟨PySem.F.store_Exception.passes x0,rfl⟩
  cases c with
  |ref c=>exact⟨(refuseLoop_ref ..).trans (a e).1,by simp only[List.contains_cons,(a e).2,gz]⟩
  |_=>exact base _ e
theorem Qe{R od tk}(X:K.In s.heap)(I:InstAt s.heap x d C od)(hp:vw K C=ae)(o:zF K C name=aa none)
  (p:∀j,au (bG prog w) A.in1 (Builtin.ObjectAttr.storeInOwnDict (.ref x) (.ref C) (.str name tk) name v j)
   (λ fin g=>match fin with|.done f=>R (.ok f) g|.again l=>l.quiet=ae/\gy (bG prog w) A l R g) (λ e g=>R (.error e) g) s):
  gy (bG prog w) A (.call (.builtin "object.__setattr__") ⟨[.ref x,.str name tk,v],[]⟩) R s:=by
 refine aB λ Y r=>?_;have c:=PySem.F.store_object;refine mB hp λ cd m k=>?_;refine bg (Y4 (x0:=.ref x) k) λ k i=>?_;have ne:cd.mro.isEmpty=ai:=by
  rcases q:cd.mro with _|_
  ·rw[q]at i;cbv
  ·rfl
 have t:ip (bG prog w) s.heap (mroOf (.ref C)) cd.mro:=(Gi X m).andThen .now;refine r ?_;refine cd3 c.slot.plain c.entry (@Wl (bG prog w) _ _ s "object.__setattr__" "object" "__setattr__" (.ref x) [.str name tk,v] [] _ c.kind c.split (I.type.andThen (uT X (by simp only[qO,m,je,ne,i];rfl))) (c.args (.ref x) (.str name tk) v) ?_);refine iD o λ attr u y=>?_;have z:ip (bG prog w) s.heap (Builtin.ObjectAttr.storeTaker? attr) none:=by
  obtain _|a:=attr
  ·exact .now
  ·refine Dw y λ j i e=>?_;refine(looks_takesIn X i).andThen ?_;obtain _|_:=j
   ·exact .now
   ·cbv
 rw[osa_eq,refuse_eq];refine aq (aq (I.type.here (aq (t.here ?_))));rw[k];exact aR (aq (I.type.here (aq ((xr X u).here (aq (z.here (p _)))))))
set_option tactic.hygienic true in
theorem K3{R tk}(X:K.In s.heap)(I:InstAt s.heap x d C (aa (gW h n)))(hd:d.dict=aa b)(a:s.heap.get? b=aa (gW h n))
  (hp:vw K C=ae)(i:zF K C name=aa none)(j:mQ K C=ae)(e:(fN name h).isSome=ae)(hz:(kg name (sG w.params name) (.str name s.toks) v h).length<=1000)
  (k:R (.ok (.ret .none)) {s with heap:=s.heap.update b (Mo name (sG w.params name) (.str name s.toks) v),toks:=s.toks+1}):
  gy (bG prog w) A (.call (.builtin "object.__setattr__") ⟨[.ref x,.str name tk,v],[]⟩) R s:=by
 refine Qe X I hp i λ t=>?_;refine aB λ Y l=>?_;refine aG (Mp j) λ cd m o=>?_;obtain⟨p,f,q,-⟩:=I;obtain⟨oc,u,y,H⟩:=d;refine l ?_;dsimp only at f hd;clear q;subst f hd;unfold fN at e;refine aq (aR (aq (aq (uX p (aq ((Gi X m).here ?_))))));rw[o];refine aR (aq (aR (aq ?_)));refine aq (aq (ch2 (aR (aq (LR (aq (uX a ?_)))))));dsimp only;have c:(!h.toArray.any (·.key.isStr name)&&h.toArray.any (·.refKey))=ai:=by
  rw[<-ch3,<-ch3];split at e
  ·rename_i en g
   rw[List.any_eq_true.mpr ⟨en,List.mem_of_find?_eq_some g,List.find?_some g⟩];rfl
  ·split at e
   ·cbv
   ·rename_i z;rw[Bool.not_eq_true]at z;simp[z]
 rw[ch4,c];refine ch5 a ?_;have r:(s.heap.update b (Mo name (sG w.params name) (.str name s.toks) v)).get? b=aa (gW (kg name (sG w.params name) (.str name s.toks) v h) (putN name h n)):=by
  rw[sJ _ a (by rw[xB];rfl),xB]
 refine aq (ch6 r (ch7 (by simp only[oG,WI];exact aj hz ⋯)) ?_);exact aR k
theorem Vd{Q}(X:K.In s.heap)(I:InstAt s.heap x d C (aa (gW h n)))(hd:d.dict=aa b)(c:s.heap.get? b=aa (gW h n))
  (j:iM K (.ref C) "__setattr__"=aa (aa (.builtin "object.__setattr__")))(hp:vw K C=ae)(k:zF K C name=aa none)(l:mQ K C=ae)(g:(fN name h).isSome=ae)(hz:h.length<=900)
  (i:∀a tk f m,(s.heap.update b f).get? b=aa (gW (kg name a (.str name tk) v h) m)->Q () {s with heap:=s.heap.update b f,toks:=s.toks+2}):
  au (bG prog w) A (Mq (.ref x) name v) Q E s:=by
 have o:∀a key,(kg name a key v h).length<=h.length+1:=λ a key=>by
  clear c i I g hz;induction h with
  |nil=>simp[kg]
  |cons e r p=>
   simp only[kg];split
   ·simp
   ·simpa using p
 refine set_plain X I j (K3 X I hd c hp k l g (aj (o _ _) (eK hz ⋯)) ?_);refine i (sG w.params name) (s.toks+1) _ (putN name h n) ?_;rw[sJ _ c (by rw[xB];rfl),xB]
end
theorem Dr(x:aN)(h:af ke):fN x h=match(h.find? (·.key.isStr x)).map (·.val)with|some v=>aa (aa v)|none=>if h.any (·.refKey)then none else aa none:=by
 unfold fN;cases h.find? (·.key.isStr x)<;>rfl
theorem isStr_of{k:ao}{name x}(q:k.isStr name=ae):k.isStr x=(name==x):=by
 cases k with
 |str s t=>rw[<-cH (q)];rfl
 |_=>exact absurd q Gd
theorem Ew{x e}{r:af ke}:((e::r).find? (·.key.isStr x)).map (·.val)=bif e.key.isStr x then aa e.val else(r.find? (·.key.isStr x)).map (·.val):=by
 rw[ch8];cases e.key.isStr x<;>rfl
theorem Hm{name h k v e r}{x:Type}(f:af ke->x):f (kg name h k v (e::r))=bif e.key.isStr name then f (⟨e.hash,e.key,v⟩::r)else f (e::kg name h k v r):=by
 show f (if e.key.isStr name=ae then _ else _)=_;cases e.key.isStr name<;>rfl
theorem Ov{name x:aN}{a tk v h}:((kg name a (.str name tk) v h).find? (·.key.isStr x)).map (·.val)=bif name==x then aa v else(h.find? (·.key.isStr x)).map (·.val):=by
 induction h with
 |nil=>exact Ew
 |cons e r b=>
  simp only[Hm (λ l=>(l.find? (·.key.isStr x)).map (·.val)),Ew,Ew,Ew,b];rcases q:e.key.isStr name with _|_
  ·cases c:e.key.isStr x with
   |false=>rfl
   |true=>
    cases d:name==x with
    |false=>rfl
    |true=>simp only[cH d,c]at q;cases q
  ·rw[isStr_of q];cases name==x<;>rfl
set_option tactic.hygienic true in
theorem Ij{name h tk v x}:fN name (kg name h (.str name tk) v x)=aa (aa v):=by
 simp only[Dr,Ov,sM];rfl
theorem any_put{name x tk v h}:(kg name x (.str name tk) v h).any (·.refKey)=h.any (·.refKey):=by
 induction h with
 |nil=>rfl
 |cons e r a=>
  simp only[Hm (λ l=>l.any (·.refKey)),Gj,Gj,Gj,a];cases e.key.isStr name<;>rfl
theorem yd{name x a tk v}(ne:name≠x){h}:fN x (kg name a (.str name tk) v h)=fN x h:=by
 simp only[Dr,Dr,Ov,any_put,beq_false_of_ne ne];rfl
theorem Yx{name x tk v h}:(kg name x (.str name tk) v h).length=if(h.find? (·.key.isStr name)).isSome then h.length else h.length+1:=by
 induction h with
 |nil=>rfl
 |cons e r a=>
  rw[Hm xC,ch8,dh,dh,dh,a];obtain _|_:=e.key.isStr name
  ·cases(r.find? (·.key.isStr name)).isSome<;>rfl
  ·rfl
theorem KY{name hsh tk v x}:(∀w,fN name x=aa (aa w)->(kg name hsh (.str name tk) v x).length=x.length)/\(fN name x=aa none->(kg name hsh (.str name tk) v x).length=x.length+1):=by
 rw[Yx,Dr];cases a:x.find? (·.key.isStr name)with
 |some e=>exact⟨λ Y Y=>rfl,λ h=>by simp at h⟩
 |none=>
  refine⟨λ w h=>?_,λ Y=>rfl⟩;simp only[Option.map_none]at h;split at h<;>cases h
set_option genInjectivity false
set_option genSizeOfSpec false
noncomputable def Qv(s:gd):ak (af bA×bA):=eN (p:=s.ctorIdx=5) λ h=>WJ s h λ x e Y=>(x,e)
noncomputable def OM(s:gd):ak (aN×aN×aN):=(Qv s).bind λ a=>(one a.1).bind λ t=>(ub t).bind λ b=>(oY b.1).bind λ s=>(oY a.2).map λ x=>(s,b.2.1,x)
noncomputable def rF(names:af (aN×xh))(l:af gd)(h:af Nm):al:=match l with
 |[]=>h.isEmpty
 |st::b=>match h with
  |[]=>ai
  |p::h=>((OM st).any λ t=>t.1==strOf .bq&&(t.2.1==strOf p&&(t.2.2==strOf p&&(decide (names.lookup t.1=aa .local)&&(decide (names.lookup t.2.2=aa .local)&&(cy t.2.2).isSome)))))&&rF names b h
theorem Yq{s b}(h:Qv s=aa b):∃p,s=.Assign b.1 b.2 p:=aI (fM h) λ q h=>@WJ (λ s=>∀q,(WJ s q λ x e Y=>(x,e))=b->∃p,s=.Assign b.1 b.2 p) s q (λ x e p q h=>h▸⟨p,rfl⟩) q h
theorem bx4{s t}(h:OM s=aa t):∃c g d f,s=.Assign [.Attribute (.Name t.1 c) t.2.1 g] (.Name t.2.2 d) f:=by
 refine aB λ Y i=>?_;refine iD h λ a j=>av λ u k=>av λ b l=>av λ y m=>dQ λ x n o=>?_;subst o;refine aI (Yq j) λ f e=>?_;refine aI (oP m) λ c p=>?_;refine aI (oP n) λ d q=>?_;refine i ?_;exact JS c b.2.2 d f ((e).symm▸(iF k).symm▸(tj l).symm▸(p).symm▸(q).symm▸rfl)
structure wo(K:dc)(C:aA)(f:aN):Prop where
 set:iM K (.ref C) "__setattr__"=aa (aa (.builtin "object.__setattr__"))
 over:vw K C=ae
 JV:zF K C f=aa none
 dict:mQ K C=ae
theorem af5{x}(h:(cy x).isSome=ae):(x==("__debug__":aN))=ai:=aI (fY h) λ Y q=>lJ q
section
variable{prog:mf}{w:fE}{A:eP}{E:ao->aZ->Prop}{K:dc}{x C H L:aA}{sc:uG}{env:mh}{m:aN->ak ao}{u:Nm->ao}
structure DA(sc:uG)(env:mh)(L:aA)(m:aN->ak ao)(x:aA):Prop where
 kind:sc.kind=.function
 scope:env.scope=sc
 locals:env.locals=L
 kindOf:∀y k,sc.names.lookup y=aa k->k=.local->env.kindOf y=aa .local
 self:m (strOf .bq)=aa (.ref x)
structure XM(K:dc)(C x H L:aA)(ox:cP):Prop where
 dK:K.lookup H=none
 Ld:L≠H
 xd:x≠H
 cls:ox.cls=.ref C
 nc:BU ox=ae
 od:ox.dict=aa H
structure P8(K:dc)(x H L:aA)(m:aN->ak ao)(ox:cP)(es:af ke)(n:ah)(h:bu):Prop where
 ns:h.Ns L m
 K:K.In h
 x:h.get? x=aa ox
 d:h.get? H=aa (gW es n)
structure YZ(H:aA)(ps:af Nm)(u:Nm->ao)(es:af ke)(h h':bu)(es':af ke)(n':ah):Prop where
 d:h'.get? H=aa (gW es' n')
 keep:∀b,b≠H->h'.get? b=h.get? b
 size:h'.objs.size=h.objs.size
 has:∀p∈ps,fN (strOf p) es'=aa (aa (u p))
 other:∀z,z∉ps.map strOf->fN z es'=fN z es
 len:es'.length=es.length+ps.length
theorem Oa{st body p d Q}(ie:DA sc env L m x)(c:rF sc.names (st::body) (p::d)=ae)(ns:s.heap.Ns L m)(hv:m (strOf p)=aa (u p))
  (h:rF sc.names body d=ae->au (bG prog w) A (Mq (.ref x) (strOf p) (u p)) (λ Y s=>au (bG prog w) A (qR body env) Q E s) E s):au (bG prog w) A (qR (st::body) env) Q E s:=by
 refine aB λ Y g=>?_;revert c;refine aV λ c i=>?_;revert c;refine gn λ t j=>aV λ k=>aV λ l=>aV λ n=>aV λ a=>aV λ b f=>?_;have a:=bE a;have b:=bE b;refine tT (bx4 j) λ o q r v e=>?_;rw[cH k]at a e;rw[cH n]at b f e;rw[cH l]at e;refine g ?_;rw[e];refine ch9 (ci0 (wpAny_Name (Mr (by rw[ie.scope];exact ie.kind) (ie.kindOf _ _ b rfl) (by rw[ie.locals];exact ns) hv ?_) (af5 f)) rfl);exact wpAny_Name (Mr (by rw[ie.scope];exact ie.kind) (ie.kindOf _ _ a rfl) (by rw[ie.locals];exact ns) ie.self (h i)) (by decide+kernel)
theorem Nq{ox}(ie:DA sc env L m x)(i:XM K C x H L ox)(body:af gd):∀(c:af Nm)(g:af ke)(n:ah)(s:aZ)(Q:uK->aZ->Prop),rF sc.names body c=ae->(c.map strOf).Nodup->(∀p∈c,wo K C (strOf p)/\m (strOf p)=aa (u p)/\fN (strOf p) g=aa none)->g.length+c.length<=900->
  P8 K x H L m ox g n s.heap->(∀j tk t v,YZ H c u g s.heap j t v->Q .next {s with heap:=j,toks:=tk})->au (bG prog w) A (qR body env) Q E s:=by
 induction body with
 |nil=>
  intro c g n s Q y nd hp X d h;rw[gu y]at h;exact Gk (h s.heap s.toks g n ⟨d.d,λ Y Y=>rfl,rfl,(by intros;cbv),λ Y Y=>rfl,rfl⟩)
 |cons st body M=>
  intro c g n s Q y nd hp X d h;refine aB λ Y B=>?_;obtain _|⟨p,c⟩:=c
  ·refine B ?_;cbv
  ·refine lg (hp p (.head _)) λ k hv D=>?_;refine bg (List.nodup_cons.mp nd) λ I N=>?_;refine B ?_;refine Oa ie y d.ns hv λ O=>?_;refine Vd d.K (⟨d.x,i.cls,i.nc,by exact(i.od).symm▸d.d⟩:Ms s.heap x _ C (aa (gW g n))) i.od d.d k.set k.over k.JV k.dict (by rw[D];rfl) (aj (ck _ _) X) λ T tk U v V=>?_;have keep:∀b,b≠H->(s.heap.update H U).get? b=s.heap.get? b:=λ b l=>jE _ _ (gf l);have J:=(KY (hsh:=T) (tk:=tk) (v:=u p)).2 D;refine M c _ v _ Q O N (λ q h=>(dB ((hp q (.tail _ h)).1) ((hp q (.tail _ h)).2.1) ((yd (λ e:strOf p=strOf q=>I ((e).symm▸pV h))).trans (hp q (.tail _ h)).2.2))) (by rw[J];exact aj (cx (oz _ _ _)) ‹_›)
    ⟨kL (d.ns) λ o Z ep ho r=>(mU o Z ep ((keep L i.Ld).trans ho) r),λ a o e=>(keep a ((λ e q=>by rw[q,i.dK]at e;cbv) e)).trans (d.K a o e),(keep x i.xd).trans d.x,V⟩ λ j a0 t n2 f=>?_
   refine h j a0 t n2 ⟨f.d,λ b l=>(f.keep b l).trans (keep b l),f.size.trans (oU _ _ _),λ q h=>?_,λ z hz=>(f.other z λ q=>hz (.tail _ q)).trans (yd (λ q:strOf p=z=>hz ((q)▸.head _))),by simp only[f.len,J,dh];lia⟩;obtain e|h:=List.mem_cons.mp h
   ·rw[e,f.other _ I];exact Ij
   ·exact f.has q h
end
structure Vx(g:G)(C:aA)(ps:af Nm)(ds:af (Nm×IV))(fI:aA)(oc:ao)(od:ak aA)(osl:nI (ak ao))(fd:FuncData)(nm q:aN)(as:af Arg)(kd:af (ak bA))(qd:af bA)(body:af gd)(sc:uG)(cl:af (aN×aA))(dV kV doc pm:ao)(an:ak aA)(cd ct:ao):Prop where
 look:g.K.lookup fI=aa ⟨oc,od,.func fd,osl⟩
 fd:fd=fnX nm q ⟨[],as,none,[],kd,none,qd⟩ body sc cl dV kV doc pm an cd ct
 code:Mk g.K cd q=ae
 args:as.map (·.arg)=strOf .bq::ps.map strOf
 kind:sc.kind=.function
 co:sc.isCoroutine=ai
 gen:sc.isGenerator=ai
 cell:∀x∈sc.names,x.2≠.cell
 loc:∀p∈.bq::ps,sc.names.lookup (strOf p)=aa .local
 nd:(strOf .bq::ps.map strOf).Nodup
 df:zU g dV ⟨ps,ds,[]⟩
 El:rF sc.names body ps=ae
 set:∀p∈ps,wo g.K C (strOf p)/\pM p=ae
 len:ps.length<=800
inductive rH(g:G)(C:aA)(ps:af Nm)(ds:af (Nm×IV))(fI:aA):Prop
 |mk (oc od osl fd nm q as kd qd body sc cl dV kV doc pm an cd ct) (find:iM g.K (.ref C) "__init__"=aa (aa (.ref fI))) (Cj:Cj g.K (.ref fI)=ae) (w:Vx g C ps ds fI oc od osl fd nm q as kd qd body sc cl dV kV doc pm an cd ct):rH g C ps ds fI
inductive Nb(g:G)(c:Nm)(ps:af Nm)(ds:af (Nm×IV)):Prop
 |mk (C fI:aA) (h1:g.cA c=aa C) (h2:Gh g.K C=ae) (h3:qV g.K (.ref C)=ae) (h4:∀D,g.cA .bL=aa D->D≠C) (h5:rH g C ps ds fI):Nb g c ps ds
structure vz(g:G)(Z:Zf)(s:aZ)(ps:af Nm)(ds fs:af (Nm×IV))(vs:af IV)(us:af ao)(os:af (ak aA))(ks:af (Nm×IV))(uks:af (aN×ao)):Prop where
 kz:∀b o,g.K.lookup b=aa o->Z b=aa o
 ops:dU g Z s.heap vs us os
 os:dz os=[]
 kr:KR g Z ks uks
 k1:ks.length<=1
 aw:dA ps ds vs ks=aa fs
section
variable{g:G}{Z:Zf}{s:aZ}
structure PT(g:G)(Z:Zf)(C x:aA)(ps:af Nm)(fs:af (Nm×IV))(sc:uG)(body:af gd)(env:mh)(L:aA)(m:aN->ak ao)(u:Nm->ao):Prop where
 ie:DA sc env L m x
 El:rF sc.names body ps=ae
 nd:(ps.map strOf).Nodup
 hp:∀p∈ps,wo g.K C (strOf p)/\m (strOf p)=aa (u p)
 len:ps.length<=800
 has:∀f v,lk f fs=aa v->f∈ps/\VR g Z v (u f)
 ue:∀f,lk f fs=none->strOf f∉ps.map strOf
theorem bv5{a f v}{x:af (Nm×a)}:lk f x=aa v->f∈x.map (·.1):=by
 induction x with
 |nil=>exact λ h=>(by cbv)
 |cons y l b=>exact λ h=>fJ h (λ e Y=>e▸.head _) λ Y h=>.tail _ (b h)
theorem vz.has{x d h j us os k l a}(i:vz g Z s x d h j us os k l)(nd:(x.map strOf).Nodup)(br:BR g Z s.heap h a os){f v}(e:lk f h=aa v):∃w,a.lookup (strOf f)=aa w/\VR g Z v w:=by
 refine aG (br.has (by simp only[<-(zQ i.aw),zB]at nd;exact nd) f v e) λ w m c=>?_;have n:lr (h.map (·.1)) os f=none:=Option.eq_none_iff_forall_ne_some.mpr λ b q=>by
  have:=(Cx q).1;rw[i.os]at this;cases this
 rw[n]at c;exact aL w m (FR.casesOn (motive:=λ v w o Y=>o=none->VR g Z v w) c (λ Y r Y=>r) (λ Y Y=>nofun) (λ Y Y Y Y=>nofun) rfl)
theorem bl9{C x o L a m b r us os t z oc od H fd nm q as X qd body sc cl A B D pm E cd ct h}{env:mh}(w:Vx g C a m o oc od H fd nm q as X qd body sc cl A B D pm E cd ct)(i:vz g Z s a m b r us os t z)(br:BR g Z s.heap b h os)
  (I:env.scope=sc)(J:env.locals=L)(M:∀y k,sc.names.lookup y=aa k->k=.local->env.kindOf y=aa .local):PT g Z C x a b sc body env L (λ y=>((strOf .bq,mi x)::h).reverse.lookup y) (λ p=>(h.lookup (strOf p)).getD .none):=by
 have names:=zQ i.aw;refine bg (List.nodup_cons.mp w.nd) λ N d=>?_;have O:h.map (·.1)=a.map strOf:=by simp only[br.names,<-names,zB];rfl
 have c:∀y,((strOf .bq,mi x)::h).reverse.lookup y=((strOf .bq,mi x)::h).lookup y:=λ y=>WD _ (by simp only[Ci,O];exact w.nd) y;have n:∀{p},p∈a->∃v,lk p b=aa v:=λ hp=>fY (UL ((names).symm▸hp));refine⟨⟨w.kind,I,J,M,by simp only[c,mR,sM]⟩,w.El,d,λ p hp=>⟨(w.set p hp).1,?_⟩,w.len,λ f v e=>⟨names▸bv5 e,?_⟩,λ f e c=>?_⟩
 ·refine aI (n hp) λ v hv=>?_;refine aG (i.has d br hv) λ u j Y=>?_;simp only[c,mR,beq_eq_false_iff_ne.mpr (λ e:strOf p=strOf .bq=>N ((e)▸pV hp))];rw[j];rfl
 ·refine aG (i.has d br e) λ u j l=>?_;exact(j).symm▸l
 ·refine aG (List.mem_map.mp c) λ p hp l=>?_;refine aI (n hp) λ v hv=>?_;rw[DT (w.set p hp).2 l,e]at hv;cbv
theorem Pw{R A C x j c l n p us os r o}{s2:aZ}(t:rH g C c l j)(X:g.K.In s2.heap)
  (nl:s2.heap.NoLimit)(v:A.depth<LD)(i:vz g Z s c l n p us os r o){Fin:bu->Prop}
  (H:∀sc body env L m u b(B:ah)(D:eP)(Q:uK->aZ->Prop)(E:ao->aZ->Prop),PT g Z C x c n sc body env L m u->b.Ns L m->s2.heap.objs.size=L->Kept s2.heap b->
   (∀a tk,Fin a->Q .next {s2 with heap:=a,toks:=tk})->au g.M D (qR body env) Q E {s2 with heap:=b,toks:=B})
  (I:∀a tk,Fin a->R (.ok (.ret .none)) {s2 with heap:=a,toks:=tk}):
  gy g.M A (.call (.ref j) ⟨.ref x::us,o⟩) R s2:=by
 refine aB λ Y J=>?_;obtain⟨oc,od,b4,fd,nm,q,as,M,qd,body,sc,cl,N,O,T,pm,U,cd,ct,_,_,w⟩:=t;refine aG (XU (fd:=fnX nm q ⟨[],as,none,[],M,none,qd⟩ body sc cl N O T pm U cd ct) (x:=.ref x) rfl w.args w.nd w.df X i.kz i.ops i.kr i.k1 i.aw) λ V a0 br=>?_;have a8:∀y∈(strOf .bq,mi x)::V,sc.names.lookup y.1=aa .local:=λ y d=>by
  obtain e|d:=List.mem_cons.mp d
  ·rw[e];exact w.loc _ (.head _)
  ·have:=pV (f:=oL) d;rw[br.names]at this;refine aG (List.mem_map.mp this) λ z hz e=>?_;rw[<-e];exact w.loc z.1 (.tail _ (by rw[<-zQ i.aw];exact pV hz))
 refine J ?_;refine codeAny_call_def v (X _ _ (w.fd▸w.look)) rfl nl (WG X w.code) rfl a0 w.cell a8 (λ b a9 b0=>?_) w.co w.gen w.kind;exact H sc body _ s2.heap.objs.size _ _ b _ _ _ _ (bl9 w i br rfl rfl λ y k h e=>e▸h) a9 rfl b0 λ a tk f=>I a tk f
structure aa3(g:G)(Z:Zf)(dx:aA)(fs:af (Nm×IV))(h h':bu)(es:af ke)(n:ah)(gv:Nm->ao):Prop where
 d:h'.get? dx=aa (gW es n)
 keep:∀b o,b≠dx->h.get? b=aa o->h'.get? b=aa o
 size:h.objs.size<=h'.objs.size
 has:∀f v,lk f fs=aa v->fN (strOf f) es=aa (aa (gv f))/\VR g Z v (gv f)
 ue:∀f,lk f fs=none->fN (strOf f) es=aa none
theorem ac9{R A C x d t q w y D us os I z}{c:aZ}(J:rH g C q w t)(X:g.K.In c.heap)
  (nl:c.heap.NoLimit)(M:A.depth<LD)(i:vz g Z s q w y D us os I z)
  (N:c.heap.get? x=aa {cls:=.ref C,dict:=aa d,data:=.plain})(hd:c.heap.get? d=aa (gW [] 0))(O:x≠d)(T:g.K.lookup d=none)
  (U:∀j tk k n(r:Nm->ao),aa3 g Z d y c.heap j k n r->R (.ok (.ret .none)) {c with heap:=j,toks:=tk}):
  gy g.M A (.call (.ref t) ⟨.ref x::us,z⟩) R c:=by
 refine Pw J X nl M i (λ sc body env L m u V a0 A' Q E a H B l hq=>?_) λ j tk hP=>yJ hP λ k n r h=>U j tk k n r h;refine Nq (s:={c with heap:=V,toks:=a0}) (ox:=dD C d) a.ie ⟨T,λ e=>?_,O,rfl,rfl,rfl⟩ body q [] 0 _ a.El a.nd (λ p hp=>(dB ((a.hp p hp).1) ((a.hp p hp).2) rfl))
  (by have:=a.len;simp only[Mt];lia) ⟨H,λ b o e=>l b o (X b o e),l _ _ N,l _ _ hd⟩ λ j tk k n f=>hq j tk ⟨k,n,u,f.d,λ b o nb e=>(f.keep b nb).trans (l b o e),?_,λ p v e=>⟨f.has p (a.has p v e).1,(a.has p v e).2⟩,λ p e=>(f.other _ (a.ue p e)).trans rfl⟩
 ·rw[<-e,<-B]at hd;exact absurd (cq hd) (qQ _)
 ·simp only[f.size,B];exact iA H.lt
end
section
variable{g:G}{P:bW}{r:bh}{a:Act}{N:Nt}{X h b c:Xt}{q f:al}{s:aZ}{Z:Zf}{S:af aA}
noncomputable def RI(Z:Zf)(x d:aA)(o od:cP):Zf:=ji (ji Z d od) x o
theorem Bw{Z x o}:ji Z x o x=aa o:=aT rfl
theorem rJ{Z x d o}(e:d≠x):ji Z x o d=Z d:=aM e
theorem bh7{x m:aA}{o od l n}(d:Wd Z S l)(v:l.objs.size<=x)(w:l.objs.size<=m)(H:n.get? x=aa o)(hd:n.get? m=aa od)(kp:Kept l n)(p:l.objs.size<=n.objs.size):Step Z (RI Z x m o od) S S l n:=by
 have y:∀{i j},RI Z x m o od i=aa j->(i=x/\o=j)\/(i=m/\od=j)\/Z i=aa j:=λ e=>(oj e).imp id λ e=>oj e;have z:∀{i},i<l.objs.size->i≠x/\i≠m:=λ k=>⟨λ q=>Nat.not_lt.mpr v (q▸k),λ q=>Nat.not_lt.mpr w (q▸k)⟩
 refine⟨λ i j e=>?_,λ i j e=>(y e).elim (λ q=>.inr (q.1▸v)) λ q=>q.elim (λ q=>.inr (q.1▸w)) .inl,λ i j e=>(y e).elim (λ q=>by simp only[q.1,<-q.2];exact H) λ q=>q.elim (λ q=>by simp only[q.1,<-q.2];exact hd) λ q=>kp _ _ (d.zh i j q),
  λ i j Y e=>kp i j e,p,λ i k=>.inl k,λ i k=>?_,λ i k=>jc (d.ww i k) p,jc d.big p,BW⟩
 ·refine bg (z (cq (d.zh i j e))) λ t u=>?_;exact(rJ t).trans ((rJ u).trans e)
 ·refine bg (z (d.ww i k)) λ t u=>?_;exact(rJ t).trans ((rJ u).trans (d.wz i k))
theorem SI{y}{C x l:aA}{m p n o}{t:Nm->ao}{k}(d:Wd Z S s.heap)(sm:Sm s k)(H:g.cA y=aa C)(hS:∀D,g.cA .bL=aa D->D≠C)(u:o.cls=.ref C)(A:BU o=ae)(B:o.dict=aa l)(I:s.heap.objs.size<=x)(J:s.heap.objs.size<=l)(L:x≠l)
  (M:k.heap.get? x=aa o)(hd:k.heap.get? l=aa (gW p n))(kp:Kept s.heap k.heap)(Q:s.heap.objs.size<=k.heap.objs.size)
  (z:∀i v,lk i m=aa v->fN (strOf i) p=aa (aa (t i))/\VR g Z v (t i))(T:∀i,lk i m=none->fN (strOf i) p=aa none):fX g Z S s (.ba y m) (.ref x) k:=by
 have st:=bh7 d I J M hd kp Q;refine⟨_,st,sm,kp,λ O sc=>sc.step st.zz kp λ D j E U e=>?_,none,.val rfl (.ba t H Bw u A B ((rJ (gf L)).trans Bw) (λ i v e=>(z i v e).1) (λ i v e=>(z i v e).2.mono st.zz) T),(by intros;cbv)⟩;obtain⟨_,w⟩|q:=oj e
 ·rw[w]at u;exact absurd (Gl u) (hS D U)
 ·obtain⟨_,w⟩|q:=oj q
  ·exact(by cases(aD Obj.cls w))
  ·exact q
theorem SX{A:eP}{C us x}:(A.under (.builtin "type.__call__" ⟨.ref C::us,x⟩)).depth=A.depth+1:=rfl
theorem bu6{m C A t u v B us os}{I:af (Nm×IV)}{y E}(p:Pr g r a N X)(J:g.cA m=aa C)(L:Gh g.K C=ae)(hS:∀D,g.cA .bL=aa D->D≠C)(z:rH g C t u A)
  (i:vz g X.Z X.s t u v B us os I y):au g.M a.A (call (.ref C) us y) (fX g X.Z X.S X.s (.ba m v)) E X.s:=by
 obtain⟨oc,od,a0,fd,nm,q,as,kd,qd,body,sc,cl,dV,kV,a8,pm,an,cd,ct,M,Q,w⟩:=id z;obtain⟨O,Z,S,s⟩:=X;have K:=p.ok.K.keeps p.p.F.keep;have d:Wd Z S s.heap:=p.wd;have T:=Option.eq_none_iff_forall_ne_some.mpr λ o q=>qQ _ (cq (d.zh _ _ (p.p.kz _ _ q)));obtain⟨x,gg,dd,tt,oo⟩:=s;have U:((x.push nK).push (dD C x.objs.size)).objs.size=x.objs.size+2:=by rw[qW,qW]
 have l:Kept x ((x.push nK).push (dD C x.objs.size)):=λ j o e=>iL _ (iL _ e);have H:((x.push nK).push (dD C x.objs.size)).get? (x.objs.size+1)=aa (dD C x.objs.size):=by
  have:=jd (x.push nK) (o:=dD C x.objs.size) rfl;rwa[qW]at this
 have V:((x.push nK).push (dD C x.objs.size)).get? x.objs.size=aa (gW [] 0):=iL _ (jd x rfl);refine uU (make_core (makes_of K L) (xr K M) (λ self=>WK K self (beq_iff_eq.mp Q)) (.inl rfl) ?_);refine ac9 (Z:=Z) z (λ j o e=>l j o (K j o e)) ((p.ok.T.nolimit.keeps p.p.F.keep).keeps l) (by rw[SX];exact eK (cU (ck _ _) ⋯) p.ok.deep) i H V (Gm _) T λ h' tk es n gv k=>⟨rfl,?_⟩
 have q3:=aj (ck _ 2) (U▸k.size);exact SI d .refl J hS rfl rfl rfl (jF _) (ca _) (Gm _) (k.keep _ _ (Gm _) H) k.d (λ j o e=>k.keep j o (λ q=>qQ _ (cq (q▸e))) (l j o e)) q3 k.has k.ue
end
noncomputable def BD(K:dc)(B C:aA):al:=decide (B≠C)&&(qS K C).isSome&&zG K (.ref C)==aa (.type "type")&&Gn K (.ref C) (.type "type")==aa ae&&subIn K (.ref B) (.ref C)==aa ai&&
 qP K B "__class__"&&mQ K B&&iM K (.ref B) "__class__"==aa (aa (.builtin "object.__class__"))&&FJ K (.builtin "object.__class__") "__get__"==aa (aa (.builtin "getset_descriptor.__get__"))&&
 takesIn K (.builtin "object.__class__")==aa ae&&qO K B (.type "object")==aa ae
section
variable{prog:mf}{w:fE}{A:eP}{E:ao->aZ->Prop}{s:aZ}{K:dc}{x B C:aA}{h od:cP}
theorem P5{Q}(X:K.In s.heap)(I:InstAt s.heap x h B (aa od))(a:qP K B "__class__"=ae)(c:mQ K B=ae)(d:iM K (.ref B) "__class__"=aa (aa (.builtin "object.__class__")))
  (e:FJ K (.builtin "object.__class__") "__get__"=aa (aa (.builtin "getset_descriptor.__get__")))(f:takesIn K (.builtin "object.__class__")=aa ae)(g:qO K B (.type "object")=aa ae)(i:Q (aa (.ref B)) {s with toks:=s.toks+1}):
  au (bG prog w) A (getAttr? (.ref x) "__class__") Q E s:=by
 have b:=I.type (M:=bG prog w);have j:=looks_find (M:=bG prog w) X I (findObj_data (by obtain⟨cd,k,_⟩:=Mp c;rw[k];rfl:(qS K B).isSome=ae) d e f);refine aq (LR (aq (Wk ?_)));refine kf (aq (b.at (aq ((xr (M:=bG prog w) X (LV a).1).at ?_))));refine aq (WL (ci1 (ci2 F.plainObj_entry_getattr_hooked ?_)));refine aq (aR (aq (b.at (aq (j.at (aq ((xr X (LV a).2).at ?_)))))));refine aq (kf (uU (class_get X I g ?_)));exact aR (handed_on rfl (aR i))
theorem Zu{dep tk Q}(X:K.In s.heap)(I:InstAt s.heap x h B (aa od))(e:BD K B C=ae)
  (j:Q (.done (.ret (.bool ai))) {s with toks:=s.toks+1}):au (bG prog w) A (Builtin.«isinstance.nested» ⟨[.ref x,.ref C,.int dep tk],[]⟩) Q E s:=by
 refine aB λ Y k=>?_;unfold BD at e;simp only[xm,FP,VZ]at e;obtain⟨⟨⟨⟨⟨⟨⟨⟨⟨⟨ne,a⟩,l⟩,z⟩,m⟩,n⟩,b⟩,o⟩,p⟩,r⟩,t⟩:=e;have c:=I.type (M:=bG prog w);obtain⟨u,g,d,H,os⟩:=s;refine k ?_;refine aq (c.at ?_);rw[aM (λ q=>ne (by cases beq_iff_eq.mp q;rfl))];have f:ip (bG prog w) u (Ck (.ref B) (.ref C)) ai:=looks_subIn X m;refine aq ((ci3 X l).at ?_);rw[aT ⋯]
 k_delta "plainIsInstance"
 unfold Go
 repeat lk
 unfold qS at a;split at a
 ·rename_i v
  refine WM (X _ _ v) (nd_pure (aR ?_));refine aq ((c.andThen f).at ?_);simp only[qX,oJ];refine aq (P5 X I n b o p r t ?_);refine aG (Mp b) λ D i Y=>?_;unfold qS at i;split at i
  ·rename_i y
   refine aq (WM (X _ _ y) (aR ?_));refine aq (Mu ?_);refine f.at ?_;exact aR j
  ·cbv
 ·cbv
theorem Yt{Q}(X:K.In s.heap)(I:InstAt s.heap x h B (aa od))(e:BD K B C=ae)(b:Q (.bool ai) {s with toks:=s.toks+1}):
  au (bG prog w) A (call (.builtin "isinstance") [.ref x,.ref C]) Q E s:=
 ci4 (S:=λ Y R s=>(K.In s.heap/\InstAt s.heap x h B (aa od))/\R (.ok (.ret (.bool ai))) {s with toks:=s.toks+1})
  (λ Y Y Y Y Y a=>isinstance_outer (Zu a.1.1 a.1.2 e a.2) (λ q=>by cbv)) ⟨⟨X,I⟩,b⟩
theorem bo7{Q}(X:K.In s.heap)(I:InstAt s.heap x h B (aa od))(e:isIn K (.ref B) C=ae)(a:Q (.bool ae) s):
  au (bG prog w) A (call (.builtin "isinstance") [.ref x,.ref C]) Q E s:=
 isi_call X (λ M=>I.type) e (λ q=>by cbv) a
end
section
variable{g:G}{Z:Zf}{S:af aA}{s:aZ}{A:eP}{E Q:ao->aZ->Prop}{w:ao}{o:ak aA}
theorem fits63{k:ah}(h:k<=1000000):(k:ag)<2^63:=Int.ofNat_lt.mpr (eK h (by decide:1000000<2^63))
theorem bl6{v n}(d:Wd Z S s.heap)(f:FR g Z s.heap v w o)(h:nB v=aa n)(a:∀t tk,Q (.int n t) {s with toks:=tk}):
  au g.M A (call (.builtin "len") [w]) Q E s:=by
 revert h;refine fH (λ h=>?_) λ h=>?_
 ·revert h;refine av λ l c=>bR λ i e=>?_;rw[gb c]at f;refine cu (f.strs) λ x t m p=>?_;refine m▸?_;clear c f;subst p;rw[<-e,oF]at a;have:=uZ i;exact P.len_str (Int.not_le.mpr (fits63 this)) (a _ _)
 ·revert h;refine av λ l c=>bR λ i e=>?_;refine eh (f.sq d.zh c) λ b u k q r j=>?_;refine q▸?_;rw[<-e,j.1]at a;have:=uZ i;rw[j.1]at this;exact call_len_list ⟨_,r,rfl,_,rfl⟩ (fits63 this) (a _ _)
theorem be2{l}(m:A.handled=none)(d:Wd Z S s.heap)(f:FR g Z s.heap (.eD l) w o)(n:l.length<=10000):au g.M A (call (.type "list") [w]) (fX g Z S s (.lst (l.map λ x=>.int x.1))) E s:=by
 refine aB λ Y p=>?_;refine CZ (f.CI) λ a M r hd ne e z=>?_;clear f;subst r;refine aI (hd.dictAt) λ N H=>?_;refine p ?_;refine kdl_call (kdl_dict ne) m H (by rw[<-e];simp[gh];exact aj n ⋯) λ T tk U V h c j=>?_;refine⟨Z,(.grow d h (iA (cq c))),.refl,h,λ O sc=>sc.step (λ Y Y e=>e) h λ Y Y Y Y e=>e,aa s.heap.objs.size,?_,λ b q=>aS q▸(dB (ca _) ((pG d).2) ((pG d).1))⟩;refine .lst c ⟨(bF _).trans (e.trans (j.1.symm.trans (oF).symm)),λ i v u X B=>?_⟩;refine cu (j.2 i u ((Mv)▸B)) λ k x C D=>?_;refine aI (ci5 D) λ t I=>I▸?_;refine Dw ((qT ..).symm.trans X) λ y J L=>?_;exact(L)▸((z i y.1 y.2 k x J C).1).symm▸.int _ _
theorem at0{u}(r:VR g Z (.str u) w)(h:Q (.bool ae) s):au g.M A (call (.builtin "isinstance") [w,.type "str"]) Q E s:=by
 refine cu ((FR.val (h:=({}:bu)) rfl r).strs) λ x t a Y=>?_;refine a▸?_;exact ci4 (isinstance_true F.isi_meta_str F.sub_str_str) ⟨rfl,h⟩
end
structure kH(g:G)(P:bW):Prop where
 ba:∀n ps ds,P.ba n=aa (ps,ds)->Nb g n ps ds
 sub:∀c d C D,(P.ba c).isSome=ae->(P.ba d).isSome=ae->g.cA c=aa C->g.cA d=aa D->if P.sub c d then isIn g.K (.ref C) D=ae else BD g.K C D=ae
 HN:g.cA .mW=none
 set:∀f C,P.cZ .bL f=ae->g.cA .bL=aa C->wo g.K C (strOf f)/\pM f=ae
 len:il g.K gX (strOf .ij)=aa none
 qA:il g.K gX (strOf .kJ)=aa none
 list:il g.K gX (strOf .mZ)=aa none
 qy:il g.K gX (strOf .jR)=aa none
 Us:il g.K gX (strOf .si)=aa none
theorem vZ{M A E x p pos as kw env Q}
  (h:au M A (bM (.Name x p) env) (λ f a=>au M A (xy pos f [] (kD pos (iN as env)) (jG pos (jH kw env))) Q E a) E s):au M A (bM (.Call (.Name x p) as kw pos) env) Q E s:=by
 exact aq h
theorem IG{M n}:∀h,(λ(_:bu)=>sO) h->∃k,(k=Ws\/k=Wt\/k=Wu)/\ip M h (Wv (.type n)) k:=
 λ h Y=>(aL .machine (.inr (.inl rfl)) (Mg rfl))
section
variable{g:G}{P:bW}{r:bh}{a:Act}{N:Nt}{X H A I:Xt}{q q':al}{Z:Zf}{c:Nm->ak aA}
theorem AR.two{h l us u v}(d:AR g c Z h l [u,v] us):∃w o x b,us=[w,x]/\FR g Z h u w o/\FR g Z h v x b:=
 yU (d.cons_inv) λ Y Y w Y o y=>
 cu (y.tl.wi) λ x b e f=>
 (Av w o x b (y.us.trans (aD _ e)) y.fr f)
theorem VR.JU{n w}(h:VR g Z (.cls n) w):(∃C,g.cA n=aa C/\w=.ref C)\/(n=.mW/\w=.type "str"):=by
 refine aB λ Y x=>?_;cases h with
 |cls h=>refine x ?_;exact .inl (aL _ h rfl)
 |Fm=>refine x ?_;exact .inr ⟨rfl,rfl⟩
theorem kH.Ri(b:kH g P):P.ba .mW=none:=Option.eq_none_iff_forall_ne_some.mpr λ x q=>by
 obtain⟨C,_,h,_⟩:=b.ba _ x.1 x.2 q
 exact(by cases(b.HN.symm.trans h))
inductive ud(g:G)(P:bW)(f:Nm):ao->Prop
 |len (h:f=.ij):ud g P f (.builtin "len")
 |qA (h:f=.kJ):ud g P f (.builtin "isinstance")
 |list (h:f=.mZ):ud g P f (.type "list")
 |fn {fn fa} (h1:f≠.ij) (h2:f≠.kJ) (h3:f≠.mZ) (h:P.fn f=aa fn) (fo:mE g fn fa):ud g P f (.ref fa)
 |ba {C} (h1:f≠.ij) (h2:f≠.kJ) (h3:f≠.mZ) (h:P.fn f=none) (hc:g.cA f=aa C):ud g P f (.ref C)
section
variable{ie:IE}{res:RE IV}{h:af IV}{b:af (Nm×IV)}{us:af ao}{f:af (aN×ao)}{i:af IE}
theorem P7(k:aW q H X)(p:Pr g r a N X)(hp:pureE ie=ai)(j:AR g c X.Z X.s.heap i h us)(kr:KR g X.Z b f)(d:res≠.stuck)(x:R.ax b.isEmpty (R.opt (one h) λ v=>R.opt (nB v) λ n=>.ok (.int n,X.O))=res):
  au g.M a.A (call (.builtin "len") us f) (dR g r a N ie res H) (dk g a res H) X.s:=by
 refine aB λ Y l=>?_;refine cf x d λ m x=>bQ x d λ v hv x=>bQ x d λ n s x=>?_;rw[gu m]at kr;rw[iF hv]at j;refine cu (j.wi) λ w o u y=>?_;refine l ?_;refine u▸?_;exact(kr.nil_inv).symm▸bl6 p.wd y s λ t tk=>dR.vr (k.tk tk) (p.tk tk) (λ e=>(absurd (hp.symm.trans e) ⋯)) (.int _ _) x.symm
theorem bw4(o:kH g P)(p:Pr g r a N X){j d s k w C Q E}(v1:VR g X.Z (.ba j s) w)(hd:g.cA d=aa C)(t:aE ((P.ba j).isSome&&(P.ba d).isSome) (P.sub j d)=aa k)(m:∀tk,Q (.bool k) {X.s with toks:=tk}):
  au g.M a.A (call (.builtin "isinstance") [w,.ref C]) Q E X.s:=by
 refine aB λ Y u=>?_;revert t;refine bR λ x e=>?_;refine qI (v1.Rz) λ v y z B od D l=>?_;have n:=l.at p.wd.zh;have K:=p.ok.K.keeps p.p.F.keep;have x:=o.sub _ _ _ _ (aH x) (aP x) l.cls hd;refine u ?_;rw[l.eq];rw[e]at x;clear e;obtain _|_:=k
 ·exact Yt K n x (m _)
 ·exact bo7 K n x (m X.s.toks)
theorem bq8(n:kH g P)(B:aW q H X)(p:Pr g r a N X)(hp:pureE ie=ai)(z:AR g c X.Z X.s.heap i h us)(kr:KR g X.Z b f)(l:res≠.stuck)(j:R.ax b.isEmpty (R.opt (two h) λ v=>R.opt v.2.ql λ d=>R.opt (yk P v.1 d) λ s=>.ok (.bool s,X.O))=res):
  au g.M a.A (call (.builtin "isinstance") us f) (dR g r a N ie res H) (dk g a res H) X.s:=by
 refine aB λ Y D=>?_;refine cf j l λ E j=>bQ j l λ v hv j=>bQ j l λ d hd j=>bQ j l λ s k j=>?_;rw[gu E]at kr;rw[ot hv,Pl hd]at z;refine Bk (z.two) λ w o x Q J m t=>?_;refine D ?_;refine J▸?_;rw[kr.nil_inv];have fin:=λ tk=>dR.vr (B.tk tk) (p.tk tk) (λ e=>nomatch hp.symm.trans e) (.bool _) j.symm;refine dW (G:=λ o=>o=aa s->au g.M a.A (call (.builtin "isinstance") [w,x] []) (dR g r a N ie res H) (dk g a res H) X.s) (λ c L k=>?_) (λ Y k=>?_) k
 ·rw[pk L]at m;obtain⟨C,y,rfl⟩|⟨e,rfl⟩:=(t.vr rfl).JU
  ·exact bw4 n p (m.vr rfl) y k fin
  ·have:=(aP ((iZ k)))
   rw[e,n.Ri]at this;cbv
 ·revert k;refine av λ u M=>bR λ O e=>?_;rw[gb M]at m;rw[bE O]at t;obtain⟨C,y,_⟩|⟨_,rfl⟩:=(t.vr rfl).JU
  ·exact nomatch n.HN.symm.trans y
  ·exact at0 (m.vr rfl) (e▸fin X.s.toks)
theorem Yp(n:aW q H X)(p:Pr g r a N X)(s:∀y,ie≠.var y)(hp:pureE ie=ai)(k:AR g c X.Z X.s.heap i h us)(kr:KR g X.Z b f)(j:res≠.stuck)(d:R.ax (b.isEmpty&&!r.quiet) (R.opt (one h) λ v=>R.opt v.hM λ l=>R.ax (decide (l.length<=10000)) (.ok (.lst (l.map λ x=>.int x.1),X.O)))=res):
  au g.M a.A (call (.type "list") us f) (dR g r a N ie res H) (dk g a res H) X.s:=by
 refine aB λ Y t=>?_;refine cf d j λ m d=>bQ d j λ v hv d=>bQ d j λ l u d=>cf d j λ z d=>?_;rw[gu (aH m)]at kr;simp only[iF hv,nz u]at k;refine cu (k.wi) λ w o B C=>?_;clear k;subst B;refine t ?_;exact(kr.nil_inv).symm▸bI (be2 (p.ok.hand ((mm _).mp (aP m))) p.wd C (bE z)) (λ w E D=>.made n p d.symm s (λ e=>(absurd (hp.symm.trans e) ⋯)) D) λ Y Y x=>x
theorem NS(o:kH g P){k C}(s:g.cA k=aa C)(t:aW q H X)(p:Pr g r a N X)(u:∀y,ie≠.var y)(hp:pureE ie=ai)(v:AR g c X.Z X.s.heap i h us)(kr:KR g X.Z b f)(j:res≠.stuck)(d:ur P k h b X.O=res):
  au g.M a.A (call (.ref C) us f) (dR g r a N ie res H) (dk g a res H) X.s:=by
 refine aB λ Y z=>?_;refine bQ d j λ l B d=>cf d j λ m d=>bQ d j λ Q D d=>?_;obtain⟨T,U,n,E,V,J,L⟩:=o.ba _ l.1 l.2 B;refine aG (v.ops (aH m)) λ os ops M=>?_;refine z ?_;exact(aS (s.symm.trans n)).symm▸bI (bu6 p n E J L ⟨p.p.kz,ops,M,kr,bE (aP m),D⟩) (λ w s' O=>.made t p d.symm u (λ e=>(absurd (hp.symm.trans e) ⋯)) O) λ Y Y x=>x
theorem M5{n}(s:kH g P)(t:jj g r)(k:aW q H X)(p:Pr g r a N X)(l:AR g c X.Z X.s.heap i h us)(kr:KR g X.Z b f)(o:∀y,ie≠.var y)(hp:pureE ie=ai)(u:n≠.bL)(d:nq P r n h b X.O=res)(j:res≠.stuck){F}(m:ud g P n F):
  au g.M a.A (call F us f) (dR g r a N ie res H) (dk g a res H) X.s:=by
 revert d;refine ki (λ e d=>?_) λ v=>ki (λ e d=>?_) λ w=>ki (λ e d=>?_) λ z=>ki (λ e Y=>absurd e u) λ Y d=>?_
 ·cases m with
  |len x=>exact P7 k p hp l kr j d
  |qA x=>rw[e]at x;cbv
  |list x=>rw[e]at x;cbv
  |fn x=>exact absurd e x
  |ba x=>exact absurd e x
 ·cases m with
  |len x=>rw[e]at x;cbv
  |qA x=>exact bq8 s k p hp l kr j d
  |list x=>rw[e]at x;cbv
  |fn _ x=>exact absurd e x
  |ba _ x=>exact absurd e x
 ·cases m with
  |len x=>rw[e]at x;cbv
  |qA x=>rw[e]at x;cases x
  |list x=>exact Yp k p o hp l kr j d
  |fn _ _ x=>exact absurd e x
  |ba _ _ x=>exact absurd e x
 ·cases m with
  |len x=>exact absurd x v
  |qA x=>exact absurd x w
  |list x=>exact absurd x z
  |fn _ _ _ x fo=>
   rw[x]at d;refine aG (l.ops (CJ d j)) λ os ops B=>?_;exact KD k o hp (Ta t p fo ops B kr d j)
  |ba _ _ _ x C=>
   rw[x]at d;exact NS s C k p o hp l kr j d
end
end
section
variable{g:G}{P:bW}{r:bh}{a:Act}{N:Nt}{X I J H:Xt}{q q':al}
inductive GJ(g:G)(P:bW)(r:bh)(a:Act)(f:Nm)(x:aN)(pos:ey):Prop
 |mk (F:ao) (PH:bu->Prop) (fo:ud g P f F) (hPH:∀h,g.K.In h->PH h) (hk:BB g PH F) (ev:∀N X Q E,Pr g r a N X->Q F X.s->au g.M a.A (bM (.Name x pos) a.env) Q E X.s):GJ g P r a f x pos
theorem HL{f b x y pos F}(e:f=b)(fo:f=b->ud g P f F)(j:BB g (λ Y=>sO) F)(d:cy x=aa f)(k:a.sc.names.lookup x=aa .globalImplicit)(h:il g.K gX (strOf b)=aa none)(i:strOf b=y)
  (l:ci6 y=aa F)(m:y≠"__name__"):GJ g P r a f x pos:=
 have c:=(eC d).symm.trans (e▸i)
 ⟨F,λ Y=>sO,fo e,λ Y Y=>trivial,j,λ N X Q E p q=>LI p.p.F p.ok.K p.ok.T (c▸i▸h) (c▸l) (c▸m) q p.ok.kind k (lJ d)⟩
theorem Yz{f x pos}(tk:lV g P)(u:oZ g P)(e:kH g P)(b:cy x=aa f)(c:a.sc.names.lookup x=aa .globalImplicit)(v:nU P f=ae)(w:f≠.bL):GJ g P r a f x pos:=by
 by_cases i:f=.ij
 ·exact HL (y:="len") i .len Am b c e.len (by decide+kernel) (by decide+kernel) (by decide+kernel)
 by_cases j:f=.kJ
 ·exact HL (y:="isinstance") j .qA Am b c e.qA (by decide+kernel) (by decide+kernel) (by decide+kernel)
 by_cases k:f=.mZ
 ·exact HL (y:="list") k .list IG b c e.list (by decide+kernel) (by decide+kernel) (by decide+kernel)
 rcases l:P.fn f with _|fn
 ·have o:(P.ba f).isSome=ae:=by
   obtain q|q:=gV v
   ·obtain q|q:=gV q
    ·obtain q|q|q|q:=bE q
     ·exact absurd q i
     ·exact absurd q j
     ·exact absurd q k
     ·exact absurd q w
    ·rw[l]at q;cbv
   ·exact q
  refine aG (tk.cls _ o) λ C d m=>?_;rw[eC b]at m;refine aI (fY o) λ s y=>?_;obtain⟨z,A,n,_,t,_,_⟩:=e.ba _ s.1 s.2 y;rw[<-aS (d.symm.trans n)]at t;exact⟨_,g.K.In,.ba i j k l d,λ Y h=>h,zE t,λ N X Q E p q=>xk p.p.F p.ok.K p.ok.T m q p.ok.kind c (lJ b)⟩
 ·refine dJ (u.fn _ _ l) λ fa d m n=>?_;rw[eC b]at d;exact⟨_,g.K.In,.fn i j k l m,λ Y h=>h,zE n,λ N X Q E p q=>xk p.p.F p.ok.K p.ok.T d q p.ok.kind c (lJ b)⟩
theorem ah4{x f l pos h b ie res}(tk:lV g P)(m:oZ g P)(j:kH g P)(n:jj g r)(o:bJ g r)(s:∀V O,r.E .bad V O=.stuck)
  (t:cy x=aa f)(u:a.sc.names.lookup x=aa .globalImplicit)(v:gq h b=ae)(k:f≠.bL)(p:Pr g r a N X)(w:∀y,ie≠.var y)(hp:pureE ie=ai)
  (c:R.ax (nU P f) ((dq r (bV a.sc.names h) (ic a.sc.names b) N.V X.O).aw λ d O=>nq P r f d.1 d.2 O)=res)(e:res≠.stuck):
  fG g r a N ie res X (bM (.Call (.Name x l) h b pos) a.env):=by
 refine cf c e λ z c=>?_;obtain⟨F,Q,A,B,C,D⟩:=Yz tk m j t u z k;exact vZ (D N X _ _ p (BK o s v C (p.refl (q:=ae)) p c e λ d T us U H E i L kr M=>⟨B _ (i.ok.K.keeps i.p.F.keep),M5 j n (p.refl.trans E:aW (ae&&ai) X H) i L kr w hp k M e A⟩))
theorem aq1{x y z pos d f ie res}(i:kH g P)(A:bJ g r)(B:∀V O,r.E .bad V O=.stuck)
  (l:cy x=aa y)(D:a.sc.names.lookup x=aa .local)(E:gq d f=ae)(p:Pr g r a N X)(L:∀y,ie≠.var y)(hp:pureE ie=ai)
  (h:(R.opt ((lk y N.V).bind IV.ql) λ c=>R.ax (P.ba c).isSome ((dq r (bV a.sc.names d) (ic a.sc.names f) N.V X.O).aw λ j O=>ur P c j.1 j.2 O))=res)(b:res≠.stuck):
  fG g r a N ie res X (bM (.Call (.Name x z) d f pos) a.env):=by
 refine aB λ Y m=>?_;refine bQ h b λ cN hv h=>cf h b λ n h=>?_;refine iD hv λ v hv M=>?_;rw[Pl M]at hv;refine aG (p.p.loc.has _ _ hv) λ w o fr=>?_;rw[eC l]at o;refine aI (fY n) λ s Q=>?_;obtain⟨C,fI,T,_,t,_,_⟩:=i.ba _ s.1 s.2 Q;obtain⟨C',u,rfl⟩|⟨e,_⟩:=(fr.vr rfl).JU
 ·rw[aS (T.symm.trans u)]at t;refine m ?_;exact vZ (LH p.p.F o (BK A B E (zE t) (p.refl (q:=ae)) p h b λ j ks us a0 H U k Z kr hk=>⟨k.ok.K.keeps k.p.F.keep,NS i u (p.refl.trans U:aW (ae&&ai) X H) k L hp Z kr b hk⟩) p.ok.kind D (lJ l))
 ·refine m ?_;rw[e,i.Ri]at n;cbv
theorem ak1{A C us h}:xX A (A.under (.builtin "type.__call__" ⟨.ref C::us,h⟩)):=⟨rfl,rfl,ca _,by
 show A.units+1<=_
 exact cU (ca _) ⋯⟩
theorem dU.mono{h c Z d}(zz:∀a o,Z a=aa o->d a=aa o)(k:Kept h c){l us os}(x:dU g Z h l us os):dU g d c l us os:=
 dU.rec .nil (λ f Y e=>.cons (f.map zz λ b Y=>k b) e) x
theorem bs1{Z h C}(d:Wd Z [] h)(k:g.cA .bL=aa C)(no:∀C j D,g.cA .bL=aa C->Z j≠aa (dD C D)):
  Step Z (ji Z (h.objs.size+1) (dD C h.objs.size)) [] [h.objs.size] h ((h.push nK).push (dD C h.objs.size))/\gF g (ji Z (h.objs.size+1) (dD C h.objs.size)) [h.objs.size] ((h.push nK).push (dD C h.objs.size)) (aa [])/\
   Kept h ((h.push nK).push (dD C h.objs.size)):=by
 have l:((h.push nK).push (dD C h.objs.size)).objs.size=h.objs.size+2:=by rw[qW,qW]
 have m:h.objs.size<=((h.push nK).push (dD C h.objs.size)).objs.size:=by rw[l];exact ck _ _
 have i:Kept h ((h.push nK).push (dD C h.objs.size)):=λ b o e=>iL _ (iL _ e);have n:((h.push nK).push (dD C h.objs.size)).get? (h.objs.size+1)=aa (dD C h.objs.size):=by
  have:=jd (h.push nK) (o:=dD C h.objs.size) rfl;rwa[qW]at this
 refine dB ⟨(λ b x e=>(rJ λ q=>Nat.not_succ_le_self _ (Mw (q▸cq (d.zh b x e)))).trans e),λ b x e=>(oj e).symm.imp id (λ q=>by rw[q.1];exact jF _),λ b x e=>(oj e).elim (λ q=>by simp only[q.1,<-q.2];exact n) λ q=>i _ _ (d.zh b x q),λ b x Y e=>i b x e,m,λ b c=>?_,λ b c=>?_,λ b c=>?_,jc d.big m,List.nil_prefix⟩ ⟨h.objs.size+1,C,h.objs.size,[],0,λ Y=>none,k,Bw,λ j D e=>(oj e).elim (λ q=>q.1) λ q=>absurd q (no C j D k),.head _,iL _ (jd h rfl),rfl,(by intros;cbv),λ f Y=>rfl,(by intros;cbv),(by intros;cbv),rfl,(by intros;cbv),λ Y=>rfl⟩ i
 ·rw[List.mem_singleton.mp c];exact .inr (ca _)
 ·rw[List.mem_singleton.mp c];refine(rJ (lH (sQ _))).trans ?_;exact Option.eq_none_iff_forall_ne_some.mpr λ o q=>qQ _ (cq (d.zh _ _ q))
 ·simp only[List.mem_singleton.mp c,l];exact WN ⋯
theorem bj7{ie res n}(p:aW q I H)(s:Pr g r a N H)(y:r.quiet=ai)(A:zT g r.C r.dep)(hp:pureE ie=ai){fn fa x}(B:mE g fn fa){b us os c}
  {d}(C:dU g H.Z H.s.heap (.obj::b) (.ref x::us) os)(h:dz os=[])(kr:KR g H.Z c d)(D:VR g H.Z .obj (.ref x))(i:((r.C fn (.obj::b) c H.O).aw λ v O=>(R.ok (v.1,O):RE IV).aw λ v O=>R.ax v.cL (.ok (.obj,O)))=res)(t:res≠.stuck)
  (E:xX a.A n):gy g.M n (.call (.ref fa) ⟨.ref x::us,d⟩) (InitBack x λ rs j=>match rs with|.ok (.ret v)=>dR g r a N ie res I v j|.ok _=>xA|.error e=>dk g a res I e j) H.s:=by
 refine pW (A r a N H fn fa (.obj::b) (.ref x::us) os c d _ s (ca _) y B ⟨C,by rw[h];exact(by intros;cbv),by rw[h];exact .nil,kr⟩ rfl (qJ i t) _ E) λ rs j z=>?_;obtain e|w:=rs
 ·refine cu (z) λ v L l M=>?_;exact⟨v,L,Dv i l,(M h).pre p⟩
 ·cases w with
  |ret w=>
   obtain⟨v,Z,Q,rfl,l,m,sm,T,_,o,f,k⟩:=z;rw[h]at m;refine cf (Eu i l) t λ U V=>?_;rw[show v=.none from rZ U]at f;rw[f.EW];have u:aW ai H Q:=⟨m.step,sm,(by intro hQ;cbv)⟩
   exact⟨rfl,dR.vr (p.trans u) (s.step u T) (λ e=>(absurd (hp.symm.trans e) ⋯)) (D.mono m.zz) V.symm⟩
  |_=>exact z
theorem bv9{ie res}(i:oZ g P)(x:jj g r)(z:aW q I X)(p:Pr g r a N X)(hp:pureE ie=ai)(A:X.O.isNone=ae){fn C}(B:P.bx .lL=aa fn)(b:g.cA .bL=aa C){j us os k}
  {l}(D:dU g X.Z X.s.heap j us os)(E:dz os=[])(kr:KR g X.Z k l)(h:((oq r fn (.obj::j) k (aa [])).aw λ v O=>R.ax v.cL (.ok (.obj,O)))=res)(d:res≠.stuck):
  au g.M a.A (call (.ref C) us l) (dR g r a N ie res I) (dk g a res I) X.s:=by
 refine vd (i.Kx) λ L f T m U=>?_;rw[<-aS (b.symm.trans f)]at m;refine GQ (i.bx _ _ B) λ L fa f V n M Q t9=>?_;rw[<-aS (b.symm.trans f),show strOf .lL=("__init__":aN) by decide+kernel]at n;refine cf (zW.symm.trans h) d λ hv h=>?_;have h:=mY.symm.trans h;have x:=x.resolve_left λ e=>(qJ h d) (by rw[e];rfl)
 have K:=p.ok.K.keeps p.p.F.keep;obtain⟨O,Z,S,c,o,s,t,u⟩:=X;obtain rfl:O=none:=lY A;obtain⟨rfl,no⟩:=p.p.sc;refine lg (bs1 p.wd b no) λ st sc kp=>?_;have w:aW ai ⟨none,Z,[],c,o,s,t,u⟩ ⟨aa [],_,_,_,o,s,t,u⟩:=⟨st,.refl,nofun⟩
 refine uU (make_core (makes_of K m) (xr K n) (λ self=>WK K self (beq_iff_eq.mp M)) (.inl rfl) ?_);have y:VR g (ji Z (c.objs.size+1) (dD C c.objs.size)) .obj (.ref (c.objs.size+1)):=.obj b Bw;exact bj7 (z.trans w) (p.step w sc) x.1 x.2 hp Q (.cons (.val rfl y) (D.mono st.zz kp)) E (kr.mono st.zz) y h d ak1
theorem E7{x n pos c d ie res}(k:oZ g P)(o:jj g r)(s:bJ g r)(t:∀V O,r.E .bad V O=.stuck)
  (l:cy x=aa .bL)(u:a.sc.names.lookup x=aa .globalImplicit)(v:gq c d=ae)(p:Pr g r a N X)(hp:pureE ie=ai)
  (e:R.ax (nU P .bL) ((dq r (bV a.sc.names c) (ic a.sc.names d) N.V X.O).aw λ f O=>nq P r .bL f.1 f.2 O)=res)(h:res≠.stuck):
  fG g r a N ie res X (bM (.Call (.Name x n) c d pos) a.env):=by
 refine aB λ Y i=>?_;refine cf e h λ L e=>?_;refine vd (k.Kx) λ C w m M y=>?_;rw[eC l]at m;refine i ?_;refine vZ (xk p.p.F p.ok.K p.ok.T m (BK s t v (zE y) (p.refl (q:=ae)) p e h λ f Q us T H z j A kr b=>⟨j.ok.K.keeps j.p.F.keep,?_⟩) p.ok.kind u (lJ l));refine aB λ Y i=>?_;refine cf b h λ B b=>bQ b h λ fn D b=>?_;refine aG (A.ops (aP (CJ rfl (qJ b h)))) λ os ops E=>?_;refine i ?_;exact bv9 k o (p.refl.trans z:aW (ae&&ai) X H) j hp B D w ops E kr b h
end
section
variable{g:G}{P:bW}{r:bh}{a:Act}{N:Nt}{X i f b h:Xt}{q m:al}{Z:Zf}{S:af aA}
theorem gF.wU{x l p}(zz:∀a o,Z a=aa o->x a=aa o)(k:∀s∈S,∀o,l.get? s=aa o->p.get? s=aa o)(u:∀C j D,g.cA .bL=aa C->x j=aa (dD C D)->Z j=aa (dD C D)){O}(q:gF g Z S l O):gF g x S p O:=
 match O,q with
 |none,q=>⟨q.1,λ C j D e c=>q.2 C j D e (u C j D e c)⟩
 |some A,⟨y,C,d,z,n,cc,q⟩=>(Br y C d z n cc ({q with inst:=zz _ _ q.inst,uniq:=λ j D e=>q.uniq j D (u C j D q.cls e),dict:=k _ q.dS _ q.dict,has:=λ t v e=>aG (q.has t v e) λ w H c=>⟨w,H,c.map zz λ a e=>k a (q.cell t a e).1⟩}))
theorem br0{x k u}{l:af (aN×ao)}:jD ((x,u)::l) k=if x=k then aa u else jD l k:=by
 unfold jD;by_cases c:x=k
 ·rw[cc4 (p:=λ d:aN×ao=>decide (d.1=k)) (bK c),aT c];rfl
 ·rw[cc5 (p:=λ d:aN×ao=>decide (d.1=k)) (λ q=>c (bE q)),aM c]
noncomputable def pL(g:G)(Z:Zf)(l:af (af ah×IV))(x:af (aN×ao)):Prop:=∀k,(jk k l=none->jD x ⟨k.toArray⟩=none)/\∀v,jk k l=aa v->∃u,jD x ⟨k.toArray⟩=aa u/\VR g Z v u
theorem pL.nil:pL g Z [] []:=λ k=>⟨λ Y=>rfl,λ Y e=>(by cbv)⟩
theorem pL.cons{l c x v u}(d:VR g Z v u)(t:pL g Z l c):pL g Z ((x.cps.toList,v)::l) ((x,u)::c):=λ k=>by
 rw[br0]
 show((if k=x.cps.toList then aa v else jk k l)=none->_)/\∀w,(if k=x.cps.toList then aa v else jk k l)=aa w->_
 by_cases e:k=x.cps.toList
 ·rw[aT e,aT (by rw[e])]
  exact⟨(by intro j;cbv),λ w q=>⟨u,rfl,aS q▸d⟩⟩
 ·rw[aM e,aM (λ q=>e (by rw[q]))]
  exact t k
theorem pL.gr{l x d}(c:pL g Z l x)(hz:CW (zt g.prog g.w) Z d x)(hd:(d==oE)=ai):VR g Z (.gr l) (.ref d):=by
 have at':∀{k v},jk k l=aa v->jD x ⟨k.toArray⟩=aa ((jD x ⟨k.toArray⟩).getD .none)/\VR g Z v ((jD x ⟨k.toArray⟩).getD .none):=λ{k v} e=>by
  refine aG ((c k).2 v e) λ u q r=>?_;rw[q];exact⟨rfl,r⟩
 exact .gr (λ k=>(jD x ⟨k.toArray⟩).getD .none) hz hd (λ k v e=>(at' e).1) (λ k v e=>(at' e).2) λ k e=>(c k).1 e
theorem by1{w}{d:aA}{l B}(x:aW q X h)(E:Pr g r a N X)(p:Pr g r a N h)(hd:X.s.heap.objs.size<=d)(hS:d∉h.S)(hz:h.Z d=none)(I:(d==oE)=ai)(J:w.DictOf (zt g.prog g.w) d B)
  (sb:lI d h.s.heap w)(rel:pL g h.Z l B){tk}:∃z,aW ai X ⟨h.O,z,h.S,{h.s with heap:=w,toks:=tk}⟩/\Pr g r a N ⟨h.O,z,h.S,{h.s with heap:=w,toks:=tk}⟩/\VR g z (.gr l) (.ref d):=by
 refine aB λ Y L=>?_;refine eh (J) λ o M O Q H T=>?_;refine bg (sb) λ sz kp=>?_;have ne:∀{c s},h.Z c=aa s->c≠d:=λ e q=>by simp only[q,hz]at e;cbv
 have A:∀c s,h.Z c=aa s->ji h.Z d o c=aa s:=λ c s e=>(rJ (ne e)).trans e;have lt:∀{c},c<X.s.heap.objs.size->c≠d:=λ t q=>Nat.not_lt.mpr hd (q▸t);have st:Step X.Z (ji h.Z d o) X.S h.S X.s.heap w:=
  ⟨λ c s e=>A c s (x.st.zz c s e),λ c s e=>(oj e).elim (λ q=>.inr (by rw[q.1];exact hd)) (x.st.zn c s),λ c s e=>(oj e).elim (λ q=>by simp only[q.1,<-q.2];exact Q) λ e=>(kp c (ne e)).trans (p.zh e),
   λ c s n e=>(kp c (lt (cq e))).trans (x.st.keep c s n e),sz▸x.st.size,x.st.wn,λ c t=>(rJ (λ q:c=d=>hS (q▸t))).trans (x.st.wz c t),λ c t=>sz▸x.st.ww c t,sz▸x.st.big,x.st.pre⟩
 have y:aW ai X ⟨h.O,ji h.Z d o,h.S,{h.s with heap:=w,toks:=tk}⟩:=⟨st,⟨x.sm.os,x.sm.gens⟩,nofun⟩
 refine L ?_;refine ec (ji h.Z d o) y (E.step y (p.p.sc.wU A (λ c t s e=>(kp c λ q=>hS (q▸t)).trans e) λ C j D Y e=>(oj e).elim (λ q=>?_) id)) (pL.gr (λ k=>⟨(rel k).1,λ v e=>aG ((rel k).2 v e) λ u U V=>(aL u U (V.mono A))⟩) (ui o M O Bw H T) I);rw[q.2]at H;exact nomatch H.1
theorem Qt{e d}(x:CB e=aa d):∃k p,e=.Constant d k p:=aI (fM x) λ q x=>@VG (λ e=>∀q,(VG e q λ c Y Y=>c)=d->∃k p,e=.Constant d k p) e q (λ c k p q x=>x▸(jT k p rfl)) q x
theorem SU{e l A env s Q E}(j:zR e=aa l)(fin:∀x t tk,x.cps.toList=l->Q (.str x t) {s with toks:=tk}):au g.M A (bM e env) Q E s:=by
 refine aB λ Y n=>?_;revert j;refine av λ c d=>av λ v hv o=>?_;refine lE (Qt d) λ k p u=>?_;clear d;subst u;refine n ?_;refine KL (X:=⟨none,λ Y=>none,[],s⟩) hv λ w tk r=>?_;rw[gb o]at r;refine cu ((FR.val (h:=({}:bu)) rfl r).strs) λ x t y e=>?_;refine y▸?_;exact fin x t tk e.symm
noncomputable abbrev zO:cP:={cls:=.type "dict",data:=.dict #[]}
theorem bb2{k1 j v k pos w y res}(U:zR k1=aa w)(V:zR v=aa y)(D:bJ g r)(p:Pr g r a N X)(hr:kU P r (.qZ w (ay a.sc.names j) y (ay a.sc.names k)) N.V X.O=res)(l:res≠.stuck):
  fG g r a N (.qZ w (ay a.sc.names j) y (ay a.sc.names k)) res X (bM (.Dict [aa k1,aa v] [j,k] pos) a.env):=by
 have n:aW ae X ⟨X.O,X.Z,X.S,we X.s zO⟩:=⟨sZ p.wd zO,.refl,λ Y=>⟨rfl,kt _ _⟩⟩
 have E:=p.step n (p.p.sc.step (λ Y Y e=>e) (kt _ _) λ Y Y Y Y e=>e);refine wpAny_Dict_pairs (knd:=zt g.prog g.w) (pairs:=[(bM k1 a.env,do let x<-bM j a.env;FU pos;fO x),(bM v a.env,do let x<-bM k a.env;FU pos;fO x)]) rfl (by intro hQ;cbv) (by show 2<=15;decide) ?_;refine ci7 (SU U λ s t1 d I=>aq (hZ D (n.tk d) (E.tk d) hr l λ v1 z f H q1 a0 c=>?_));refine cf c l λ n1 c=>aq (oI (aR ?_));refine ci7 (SU V λ t t2 u J=>aq (hZ D (((n.tk d).trans H).tk u) (q1.tk u) c l λ v2 A b B q2 a8 c=>?_));refine cf c l λ L c=>aq (oI (aR (evalPairs_nil ?_)));obtain⟨_,f1,_⟩:=a0;obtain⟨_,f2,_⟩:=a8;have ne:s≠t:=λ e=>ci8 ((mm _).mp (aP L)) (by simp only[<-I,<-J,e]);have C:=((E.tk d).refl (q:=ae).trans H).tk u|>.trans B;have M:=(pG p.wd).2;have lt:∀{O},O=X.s.heap.objs.size->O<(we X.s zO).heap.objs.size:=λ e=>by rw[e];rw[xc];exact sQ _
 have Q:(X.s.heap.push zO).get? X.s.heap.objs.size=aa zO:=jd _ rfl;refine ec ([(s,z),(t,A)]) (Hw (by simp[zt,LM]) rfl (by simp[zt,LM]) rfl trivial) ((ce2 X.s.heap).at λ o q=>by rw[Q]at q;cases q;exact(C.st.keep _ _ M Q)) (λ h' T sb=>?_);have mg:merged [] [(s,z),(t,A)]=[(s,z),(t,A)]:=by simp[merged,zH,ne]
 rw[mg]at T;refine dJ (by1 ((((n.tk d).trans H).tk u).trans B) p q2 (ca _) (C.st.out (lt rfl) M) (C.st.um (lt rfl) (pG p.wd).1) (beq_eq_false_iff_ne.mpr (LF p.wd.big)) T sb (pL.cons ((f1.vr n1).mono B.st.zz) (pL.cons (f2.vr (aH L)) .nil)) (tk:=b.s.toks+2)) λ Z5 x5 p5 vr=>?_;rw[I,J]at vr;exact dR.vr x5 p5 (by intro hQ;cbv) vr c.symm
end
structure js(g:G)(P:bW):Prop where
 ok:lV g P
 c:oZ g P
 r:kH g P
section
variable{g:G}{P:bW}{r:bh}{a:Act}{N:Nt}{X h d f j:Xt}{q m:al}
theorem ar5{e i}(c:yi e=aa i):e=.attr (.var .bq) i:=by
 revert c;refine av λ b k=>av λ x l c=>?_;refine fJ c (λ e c=>?_) λ Y q=>(by cbv)
 simp only[BE k,vl l,e,aS c]
theorem EF{op e}(x:Fv e=ae):FT op e=ai:=by
 obtain _|_:=e<;>first|rfl|cbv
theorem ay6{r x}(b:x.dep=r.dep)(c:x.top=r.top)(e:x.quiet=r.quiet)(ok:yo g x a):yo g r a:=
 {ok with dep:=by rw[<-b];exact ok.dep,hand:=λ q=>ok.hand (by rw[e];exact q),top:=λ q=>ok.top (by rw[c];exact q)}
theorem Pr.of{r r'}(x:r'.dep=r.dep)(b:r'.top=r.top)(c:r'.quiet=r.quiet)(p:Pr g r' a N X):Pr g r a N X:=⟨ay6 x b c p.ok,p.p⟩
theorem Pr.nx{x}(p:Pr g (jv P r x) a N X):Pr g r a N X:=Pr.of (r':=jv P r x) rfl rfl rfl p
theorem Pr.un{x}(p:Pr g r a N X):Pr g (jv P r x) a N X:=Pr.of (r':=r) rfl rfl rfl p
theorem End.un{N x X b c i k}(e:End g r a N X x b c i):End g (jv P r k) a N X x b c i:=End.casesOn e (λ p=>.next p.un) (λ p=>.brk p.un) (λ p=>.cont p.un) λ p=>.ret p
theorem fU.un{N X q res b c i}(x:fU g r a q res N X b c):fU g (jv P r i) a q res N X b c:=let⟨k,l,n,o,p,x,e⟩:=x;⟨k,l,n,o,p,x,e.un⟩
theorem EX.un{N X res e b c}(x:EX g r a res N X e b):EX g (jv P r c) a res N X e b:=let⟨v,i,k,l,x,p,sm,n⟩:=x;⟨v,i,k,l,x,p.un,sm,n⟩
theorem Ia{sc l b}(x:one (bV sc l)=aa b):∃e,l=[e]/\ay sc e=b:=by
 obtain _|⟨e,l⟩:=l
 ·cbv
 ·obtain _|_:=l
  ·exact aL e rfl ((kE (iF x)).1)
  ·cbv
theorem Fs{sc l b}(x:two (bV sc l)=aa b):∃i c,l=[i,c]/\ay sc i=b.1/\ay sc c=b.2:=by
 replace x:=ot x;obtain _|⟨e,l⟩:=l
 ·cbv
 ·refine aG (Ia (by rw[(kE x).2];rfl)) λ c k n=>?_;exact gm e c (by rw[k]) ((kE x).1) n
noncomputable def oW(g:G)(P:bW)(r:bh)(a:Act)(N:Nt)(X:Xt)(res:RE IV)(t:mP ao)(ie:IE):Prop:=kU P r ie N.V X.O=res->fG g r a N ie res X t
section
variable{res:RE IV}(b:res≠.stuck)(p:Pr g r a N X)
include b
theorem gQ{t}:oW g P r a N X res t .bad:=λ x=>absurd x.symm b
include p
theorem az6{k x c}:oW g P r a N X res (bM (.Constant k x c) a.env) (NC k):=dj (gQ b) λ v e i=>i▸C8 e p
theorem al9(tk:js g P){x pos}:oW g P r a N X res (bM (.Name x pos) a.env) (zo a.sc.names x):=
 dj (gQ b) λ n e=>dj (gQ b) λ k i=>by
  cases k with
  |«local»=>exact λ c=>bQ c b λ v hv c=>c▸ZW e i p hv
  |globalImplicit=>exact λ c=>bQ c b λ v hv c=>c▸bt8 tk.ok e i p hv
  |_=>exact gQ b
theorem ad1(l:bJ g r){op x pos}:oW g P r a N X res (bM (.UnaryOp op x pos) a.env) (Kk op x (ay a.sc.names x)):=by
 obtain _|_|_|_:=op
 ·exact gQ b
 ·exact λ e=>bd2 l p e b
 ·exact gQ b
 ·refine dj (gQ b) λ i n e=>?_;revert n;refine av λ c o=>av λ v hv s=>?_;refine lE (Qt o) λ k z u=>u▸?_;refine cc6 (KL (X:=X) hv λ w tk q=>?_);rw[dY s]at q;refine aI (q.int_inv) λ t y=>y▸?_;exact PySem.P.neg_int (dR.vr (p.refl.tk _:aW ae X (X.tk (tk+1))) (p.tk _) (λ Y=>rfl) (.int _ _) e.symm)
theorem bx8(o:bJ g r){x i pos}:oW g P r a N X res (bM (.Dict x i pos) a.env) (OU x (bV a.sc.names i)):=by
 obtain _|⟨k,x⟩:=x
 ·refine kA (gQ b) λ H c=>?_;obtain _|_:=i
  ·exact c▸br7 p
  ·cbv
 ·refine dj (gQ b) λ A s=>dj (gQ b) λ B l=>dj (gQ b) λ C n=>dj (gQ b) λ e t c=>?_;refine dC (Fs t) λ D E u v w=>?_;refine u▸?_;refine iD l λ k1 y l=>?_;refine iD n λ I z n=>?_;simp only[ot s,y,z];simp only[<-v,<-w]at c⊢;exact bb2 l n o p c b
theorem ae5(l:bJ g r){x os bs pos}:oW g P r a N X res (bM (.Compare x os bs pos) a.env) (IE.ax (bs.all Fv) (Hd os (ay a.sc.names x) (bV a.sc.names bs))):=by
 refine kA (gQ b) λ n=>dW (λ o k=>dj (gQ b) λ s c i=>?_) λ Y=>dj (gQ b) λ o k=>dj (gQ b) λ s c i=>?_
 ·refine aG (Ia c) λ e t u=>?_;clear c;subst t;subst u;rw[iF k];exact ah0 l (EF (aH n)) p i b
 ·refine dC (Fs c) λ z H v w y=>?_;clear c;subst v;rw[ot k];rw[<-w,<-y]at i⊢;exact af8 l (EF (aH ((aP n)))) p i b
theorem P1(tk:js g P)(c:bJ g r){e x pos}:oW g P r a N X res (bM (.Attribute e x pos) a.env) (Lj e x (ay a.sc.names e)):=
 kA (gQ b) λ i=>dj (gQ b) λ n k l=>D0 tk.ok c k p (lY i) l b
theorem bm2(l:bJ g r){e i pos}:oW g P r a N X res (bM (.Subscript e i pos) a.env) (OD i (ay a.sc.names e) (ay a.sc.names i)):=by
 refine dW (λ st x=>kA (gQ b) λ n=>dj (gQ b) λ o k c=>?_) λ x c=>N8 l x p c b;refine yJ (bh6 x) λ lo s u t=>?_;clear x;subst t;rw[lY n];have k:(qD a.sc.names lo,qD a.sc.names s)=o:=aS k;rw[<-k]at c⊢;exact bz8 l p c b rfl
theorem H2(tk:js g P)(u:jj g r)(i:bJ g r)(k:∀V O,r.E .bad V O=.stuck){o x l pos as kw}(n:gq as kw=ae):
  oW g P r a N X res (bM (.Call (.Attribute o x l) as kw pos) a.env) (Ee (o,x,l) (Lj o x (ay a.sc.names o)) (bV a.sc.names as) (ic a.sc.names kw) pos):=by
 refine kA (gQ b) λ v=>dj (gQ b) λ e w c=>?_;refine dG v λ y s=>?_;refine kA (p:=λ z=>z=.attr e.1 e.2->_) (by intro H;cbv) (λ Y=>dj (p:=λ z=>z=.attr e.1 e.2->_) (by intro H;cbv) λ mt t A=>?_) (BE w);refine IE.noConfusion A λ B C=>?_;rw[<-B,<-C]at c⊢;refine dW (G:=λ z=>z=res->_) (λ E D c=>?_) (λ Y c=>ZF tk.c u i k t n s (lY y) p c b) c;exact ai8 tk.ok i k t n s (ar5 D) p rfl c b
theorem bq2(tk:js g P)(s:jj g r)(l:bJ g r)(n:∀V O,r.E .bad V O=.stuck){x t pos as kw}(o:gq as kw=ae):
  oW g P r a N X res (bM (.Call (.Name x t) as kw pos) a.env) (.call (zo a.sc.names x) (bV a.sc.names as) (ic a.sc.names kw)):=by
 intro c;refine dW (G:=λ z=>z=res->_) (λ v w c=>?_) (λ Y c=>bQ c b λ y H c=>?_) c
 ·refine bg (HT (Je w)) λ i k=>?_;by_cases u:v=.bL
  ·rw[u]at c i;exact E7 tk.c s l n i k o p rfl c b
  ·exact ah4 tk.ok tk.c tk.r s l n i k o u p nofun rfl c b
 ·refine dC (Ja (e:=.Name x t) (vl H)) λ A B e i k=>?_;refine cf6 e λ e Y=>?_;rw[<-e]at i k;exact aq1 tk.r l n i k o p nofun rfl c b
theorem bq3(tk:js g P)(k:jj g r)(l:bJ g r)(n:∀V O,r.E .bad V O=.stuck){c as kw pos}:
  oW g P r a N X res (bM (.Call c as kw pos) a.env) (JA c (ay a.sc.names c) as kw (bV a.sc.names as) (ic a.sc.names kw) pos):=by
 refine kA (gQ b) λ o=>dW (λ s i=>?_) λ Y=>dj (gQ b) λ x i=>?_
 ·have e:=tj i;rw[e];exact H2 b p tk k l n o
 ·refine aI (oP i) λ t e=>?_;rw[e];exact bq2 b p tk k l n o
end
theorem Z7(tk:js g P)(H:jj g r)(n:bJ g r)(A:lN g r)(u:∀V O,r.E .bad V O=.stuck){B}:bJ g (jv P r B):=by
 intro a N X ex res C b c;have p:=C.nx;refine bI (Q:=dR g r a N (ay a.sc.names ex) res X) ?_ (λ w D s=>let⟨v,E,I,s,x,z,rs⟩:=s;⟨v,E,I,s,x,z.un,rs⟩) λ e D s=>s;replace b:kU P r (ay a.sc.names ex) N.V X.O=res:=b;cases ex with
 |Constant k z J=>exact az6 c p b
 |Name x pos=>exact al9 c p tk b
 |BoolOp o l pos=>exact ba7 n p b c
 |BinOp x op y pos=>exact as0 n p b c
 |UnaryOp op x pos=>exact ad1 c p n b
 |IfExp t x y pos=>exact Yg n A p b c
 |Dict L M pos=>exact bx8 c p n b
 |List l pos=>exact A0 n u p b c
 |Tuple l k pos=>exact ac8 n u p b c
 |Compare x os bs pos=>exact ae5 c p n b
 |Call Q as kw pos=>exact bq3 c p tk H n u b
 |Attribute e x pos=>exact P1 c p tk n b
 |Subscript e i pos=>exact bm2 c p n b
 |Slice lo T st pos=>exact absurd (u _ _) (qJ b c)
 |_=>exact absurd b.symm c
theorem M0{e V O}(x:[7,8,9,10,11].contains e.ctorIdx=ai):stepT r e V O=(r.E e V O).aw λ v O=>R.opt (eO v) λ b=>.ok (b,O):=by
 obtain _|_:=e<;>first|rfl|cbv
theorem Xz{l ie}(x:gO l ie)(b:(l.all λ n=>![7,8,9,10,11].contains n)=ae):[7,8,9,10,11].contains ie.ctorIdx=ai:=
 (mm _).mp (List.all_eq_true.mp b _ (List.contains_iff_mem.mp x))
noncomputable def Nl(g:G)(r:bh)(a:Act)(N:Nt)(X:Xt)(res:RE al)(t:mP al)(ie:IE):Prop:=stepT r ie N.V X.O=res->rt g r a N (pureE ie) res X t
theorem yE(x:∀V O,r.E .bad V O=.stuck){res}(b:res≠.stuck){t}:Nl g r a N X res t .bad:=λ c=>absurd (x _ _) (qJ (c) b)
theorem J9(s:bJ g r)(k:∀V O,r.E .bad V O=.stuck){res}(c:res≠.stuck)(p:Pr g r a N X){x os bs pos u}:Nl g r a N X res (isTrue (.Compare x os bs pos) a.env u) (IE.ax (bs.all Fv) (Hd os (ay a.sc.names x) (bV a.sc.names bs))):=by
 refine kA (yE k c) λ t=>dW (λ o n=>dj (yE k c) λ b i l=>?_) λ Y=>dj (yE k c) λ o n=>dj (yE k c) λ b i l=>?_
 ·refine aG (Ia i) λ e v w=>?_;clear i;subst v;subst w;rw[iF n];exact R6 s (EF (aH t)) p l c
 ·refine dC (Fs i) λ A B y z H=>?_;clear i;subst y;rw[ot n];rw[<-z,<-H]at l⊢;exact aa2 s (EF (aH ((aP t)))) p l c
theorem D8(s:bJ g r)(u:lN g r)(z:∀V O,r.E .bad V O=.stuck){H}:lN g (jv P r H):=by
 intro a N X ex res A i c;have p:=A.nx;refine bI (Q:=tL g r a N (pureE (ay a.sc.names ex)) res X) ?_ (λ w B k=>let⟨C,D,k,x,E⟩:=k;⟨C,D,k,x,E.un⟩) λ e B k=>k;have pl:∀{l},gO l (ay a.sc.names ex)->(l.all λ n=>![7,8,9,10,11].contains n)=ae->((r.E (ay a.sc.names ex) N.V X.O).aw λ v O=>R.opt (eO v) λ b=>.ok (b,O))=res:=λ I J=>(M0 (Xz I J)).symm.trans i;cases ex with
 |BoolOp o l pos=>exact ay5 u p i c
 |UnaryOp op x pos=>
  obtain _|_|_|_:=op
  ·exact yE z c i
  ·exact T3 u p i c
  ·exact yE z c i
  ·exact TV s p rfl (pl (dj (p:=gO [0,18]) rfl λ Y Y=>rfl) rfl) c
 |IfExp t x y pos=>exact Yi u p i c
 |Compare x os bs pos=>exact J9 s z c p i
 |_=>exact TV s p rfl (pl (SK _) rfl) c
end
section
variable{g:G}{P:bW}{r:bh}{a:Act}{N J N1 U:Nt}{X T I X2 H:Xt}{q q':al}{res:RS}{s:aZ}
theorem JT(ok:yo g r a){e b}(x:EX g r a res N X e b):uP g.M a.A a.env (VX g.M a.A a.env (EX g r a res N X)) e b:=by
 obtain⟨v,U,H,h,x,c,sm,d,f,C,i,j,k,n,base,FRs,l,rfl,m,o,w⟩:=x;exact bp0 ok.fr rfl w.pF λ t p up=>⟨v,U,H,h,x,c,⟨sm.os,sm.gens⟩,d,f,C,i,j,k,n,base,FRs,l,rfl,m,o,{w with pF:=p,up:=w.up.trans up}⟩
theorem dk.ex{d b}{k:d->St->RS}{e c}(p:Pr g r a N X)(f:bU a q r.prm J T N X)(i:aY N.V b k=res)(h:dk g a b X e c):EX g r a res J T e c:=
 let⟨_,_,h,x⟩:=h
 (EX.of p (R8 i h) x).pre f
theorem kO{ex k}{Q:ao->aZ->Prop}(c:bJ g r)(d:bU a q r.prm J T N X)(p:Pr g r a N X)(b:aY N.V (r.E (ay a.sc.names ex) N.V X.O) k=res)(f:res≠.stuck)
  (i:∀v w H,aW (pureE (ay a.sc.names ex)) X H->Pr g r a N H->Rs g N (ay a.sc.names ex) X H v w->k v H.O=res->Q w H.s):au g.M a.A (bM ex a.env) Q (EX g r a res J T) X.s:=
 bI (c a N X ex _ p rfl (qH b f)) (λ w j ⟨v,H,l,h,x,m,rs⟩=>l▸i v w H x m rs (sD b h)) λ e j h=>h.ex p d b
theorem TS{ex k}{Q:al->aZ->Prop}(c:lN g r)(d:bU a q r.prm J T N X)(p:Pr g r a N X)(b:aY N.V (r.T (ay a.sc.names ex) N.V X.O) k=res)(f:res≠.stuck)
  (i:∀v H,aW (pureE (ay a.sc.names ex)) X H->Pr g r a N H->k v H.O=res->Q v H.s):au g.M a.A (isTrue ex a.env (bM ex a.env)) Q (EX g r a res J T) X.s:=
 bI (c a N X ex _ p rfl (qH b f)) (λ w j ⟨H,l,h,x,m⟩=>l▸i w H x m (sD b h)) λ e j h=>h.ex p d b
theorem DU{h b}{x:R b (h×St)}:x.aw (λ v O=>.ok (v,O))=x:=by obtain _|_:=x<;>rfl
theorem tA(x:aW q' X H)(h:Pr g r a N H)(hp:q=ae->q'=ae)(b:res=.ok (.next,N.V,H.O)):fU g r a q res N X .next H.s:=⟨.next,N,H,rfl,b,x.ss.le hp,.next h⟩
theorem yB{e t n env}(h:ay a.sc.names e≠.bad):swapsWith e t n env=fO ai:=by
 obtain _|_:=e<;>first|rfl|exact absurd rfl h
theorem bt9{prog w A R h body env}
  (turn:au (bG prog w) A (isTrue h env (bM h env)) (λ b j=>
    if b then au (bG prog w) A (qR body env) (λ f c=>match f with
     |.next|.cont=>gy (bG prog w) A (.whileLoop h body [] env) R c
     |.brk=>R (.ok .next) c
     |.ret v=>R (.ok (.ret v)) c) (uP (bG prog w) A env λ e k=>R (.error e) k) j
    else R (.ok .next) j)
    (uP (bG prog w) A env λ e k=>R (.error e) k) s):gy (bG prog w) A (.whileLoop h body [] env) R s:=by
 refine WO ?_
 show au _ A ((whileTurn h body [] env).onRaise (λ x=>do BZ x env;ci9 x)) _ _ s
 refine cj0 ?_
 refine aq (bI turn (λ b j d=>?_) λ Y Y l=>l)
 obtain _|_:=b
 ·simp only[qX,oJ]at d⊢
  exact aq (Gk (aR d))
 ·simp only[xt]at d⊢
  refine aq (bI d (λ f c i=>?_) λ Y Y l=>l)
  obtain _|_|_|v:=f
  ·exact aR ⟨rfl,i⟩
  ·exact aR i
  ·exact aR ⟨rfl,i⟩
  ·exact aR i
theorem KP{prm:af Nm}(p:Pr g r a N X):∀x∈prm,∀b,N.c x=aa b->b∉X.S/\X.Z b=none/\∃u,lk x N.V=aa u/\FR g X.Z X.s.heap u (.ref b) (aa b):=(Lo (X:=X) p λ Y Y=>rfl).own
theorem bc4(p:Pr g r a N X){y b}(e:N.c y=aa b){C D}:X.s.heap.get? b≠aa (dD C D):=by
 refine aB λ Y d=>?_;obtain⟨_,_,u,_,f⟩:=KP (prm:=[y]) p y (.head _) b e;refine d ?_;intro q;generalize i:aa b=o at f;refine FR.casesOn f (by intros;cbv) (λ{l k j n} h Y e=>?_) (λ{l j m} h Y Y Y e=>?_) i
 ·simp only[<-aS e,q]at h;cases h
 ·refine eh (h) λ o t v x c Y=>?_;simp only[<-aS e,q]at x;rw[<-aS x]at c;exact(by cases(c.1))
noncomputable def Kz(c:Nm->ak aA)(h:af IE)(x:af IV):af aA:=match h with
 |[]=>[]
 |e::h=>match x with
  |[]=>[]
  |v::x=>(bif az v then[]else(e.asVar.bind c).toList)++Kz c h x
theorem bb9{c b d}:∀{x},oX r d x=ae->b∈Kz c d x->∃y,c y=aa b/\y∉r.prm:=by
 induction d with
 |nil=>exact λ Y h=>(by cbv)
 |cons e d k=>
  intro x i h;refine aB λ Y f=>?_;obtain _|⟨v,x⟩:=x
  ·refine f ?_;cbv
  ·refine dG i λ j i=>?_;obtain h|h:=List.mem_append.mp h
   ·rcases hv:az v with _|_
    ·rw[hv]at h j;refine mB ((aH j)) λ y l hp=>?_;rw[l]at h;refine f ?_;refine aL y (Option.mem_toList.mp h) (λ q=>?_);rw[List.contains_iff_mem.mpr q]at hp;cbv
    ·refine f ?_;rw[hv]at h;cbv
   ·refine f ?_;exact k i h
theorem bl2{v}(h:az v=ae):freeze v=v:=by obtain _|_:=v<;>first|rfl|cbv
theorem RO{v}(h:mu v=ae):∃l,v=.lst l:=aI (fY h) λ l h=>⟨l,jm h⟩
theorem aj8{Z j h c}(zz:∀a o,Z a=aa o->j a=aa o){k x us}(A:AR g c Z h k x us):oX r k x=ae->(∀b∈Kz c k x,j b=h.get? b)->bD g j (x.map freeze) us:=by
 refine AR.rec (λ Y Y=>.nil) (λ{e v w l x B o} f C Y D m hz=>.cons ?_ (D (aP m) λ b E=>hz b (nJ _ E))) A;rcases hv:az v with _|_
 ·have d:=(aH m)
  rw[hv]at d;refine mB ((aH d)) λ y t Y=>?_;refine aI (RO (aP d)) λ l L=>?_;clear d hv m;subst L;refine jY (f.rk) λ b B n M O Q z=>?_;refine M▸?_;refine .bN ((hz b (oK _ ?_)).trans Q) z.1 λ i v u p q=>(z.2 i v u p q).mono zz;exact(t).symm▸Option.mem_toList.mpr (C b O y (vl t))
 ·exact(bl2 hv).symm▸(f.vr hv).mono zz
noncomputable def vG(Z:Zf)(h:bu)(x:af aA):Zf:=λ b=>if b∈x then h.get? b else Z b
theorem SJ{Z h x b}(c:b∈x):vG Z h x b=h.get? b:=aT c
theorem DV{Z h x b}(c:b∉x):vG Z h x b=Z b:=aM c
theorem Ku{Z h x b o}(e:vG Z h x b=aa o):(b∈x/\h.get? b=aa o)\/Z b=aa o:=by
 by_cases c:b∈x
 ·exact .inl ⟨c,(SJ c).symm.trans e⟩
 ·exact .inr ((DV c).symm.trans e)
structure ZC(g:G)(N:Nt)(X:Xt)(cs:af aA):Prop where
 wd:Wd (vG X.Z X.s.heap cs) X.S X.s.heap
 zz:∀b o,X.Z b=aa o->vG X.Z X.s.heap cs b=aa o
 sc:gF g (vG X.Z X.s.heap cs) X.S X.s.heap X.O
theorem ab8(p:Pr g r a N X){x}(d:∀b∈x,∃y,N.c y=aa b):ZC g N X x:=by
 have fr:∀{b},b∈x->b∉X.S/\X.Z b=none:=λ h=>aI (d _ h) λ y c=>let f:=p.p.loc.free _ (p.p.loc.cell y _ c);⟨f.1,f.2.1⟩;have zz:∀b o,X.Z b=aa o->vG X.Z X.s.heap x b=aa o:=λ b o e=>(DV λ h=>by rw[(fr h).2]at e;cbv).trans e;exact⟨⟨λ b o e=>(Ku e).elim (λ q=>q.2) (p.p.wd.zh b o),λ b h=>(DV λ q=>(fr q).1 h).trans (p.wd.wz b h),p.wd.ww,p.wd.big⟩,zz,p.p.sc.wU zz (λ Y Y Y e=>e) λ C j D i e=>(Ku e).elim (λ q=>aI (d _ q.1) λ y c=>absurd q.2 (bc4 p c)) id⟩
theorem am5{l k}{L pos:ey}(M:bJ g r)(Q:∀V O,r.E .bad V O=.stuck)(p:Pr g r a N X)
  (n:aY N.V ((ik r (bV a.sc.names l) N.V X.O).aw λ f O=>R.ax (oX r (bV a.sc.names l) f&&decide (f.length<=10000)) (.ok (.tup (f.map freeze),O))) (λ v O=>.ok (.ret v,N.V,O))=res)(Z:res≠.stuck):
  eY g r a ai res N X (dE (.Return (aa (.Tuple l k L)) pos) a.env):=by
 have ns:=qH n Z;refine cj1 (Tuple_ (bI (zS M Q l (q:=ae) p.refl p rfl ns λ f us X2 d i A t=>?_) (λ Y Y x=>x) λ e s' h=>h.ex p (.refl:bU a ae r.prm N X N X) n));refine cf t ns λ hv t=>?_;have B:=(aH hv)
 have w:=λ b c=>bb9 (c:=N.c) (b:=b) B c;have m:=ab8 i λ b c=>aG (w b c) λ y h Y=>⟨y,h⟩
 refine sI ?_ (Lr A.len (bE (aP hv)));refine aB λ Y z=>?_;obtain⟨Z4,j,a0,C,a8,o,f4,_⟩:=DH m.wd (aj8 m.zz A B λ b c=>SJ c);have D:=λ b o e=>j.zz b o (m.zz b o e);refine z ?_;refine⟨.ret (.tup (f.map freeze)),N,⟨X2.O,Z4,X2.S,_⟩,rfl,(sD n t.symm).symm,⟨⟨λ b o e=>D b o (d.st.zz b o e),λ b o e=>?_,λ b o n1 Y Y e=>C b o (d.st.keep b o n1 e),aj d.st.size j.size,d.st.wn,λ b c=>.inl c,d.st.pre⟩,d.sm.trans a0,λ Y Y=>rfl,(by intro hQ;cbv)⟩,.ret ⟨j.wd,a8 _ m.sc,λ x E b e=>?_,none,.val rfl (f4.vr rfl),(by intros;cbv)⟩⟩
 ·refine(j.zn b o e).elim (λ q=>(Ku q).elim (λ q=>?_) λ q=>(d.st.zn b o q).imp id .inl) λ q=>.inr (.inl (aj d.st.size q));refine aG (w b q.1) λ y hy Y=>?_;exact .inr (.inr (p.p.loc.cell y b hy))
 ·refine aB λ Y z=>?_;obtain⟨q1,q2,u,q3,q4⟩:=KP i x E b e;refine z ?_;exact⟨q1,j.um (i.p.loc.free b (i.p.loc.cell x b e)).2.2.2 ((DV (λ c=>aG (w b c) λ y h1 h2=>h2 (i.p.loc.inj x y b e h1▸E))).trans q2),u,q3,q4.map D λ b Y=>C b⟩
theorem K4{ex}{pos:ey}(m:bJ g r)(p:Pr g r a N X)
  (d:aY N.V ((r.E (ay a.sc.names ex) N.V X.O).aw λ v O=>R.ax (az v||(zk r (ay a.sc.names ex)&&mu v)) (.ok (v,O))) (λ v O=>.ok (.ret v,N.V,O))=res)(n:res≠.stuck):eY g r a ai res N X (dE (.Return (aa ex) pos) a.env):=by
 have ns:=qH d n;refine cj1 (bI (hZ m (q:=ae) p.refl p rfl ns λ v w I t c u i=>?_) (λ Y Y x=>x) λ e E h=>h.ex p (.refl:bU a ae r.prm N X N X) d);refine cf i ns λ hv i=>?_;obtain⟨o,f,k⟩:=u;refine⟨.ret v,N,I,rfl,(sD d i.symm).symm,t.no.ss,.ret ⟨c.wd,c.p.sc,KP c,o,f,λ b e=>?_⟩⟩;rw[((e▸f:FR g I.Z I.s.heap v w (aa b)).own)]at hv;obtain hf|hf:=gV (aH hv)
 ·refine lg ((k b e).1 hf) λ k1 z A=>?_;exact ky (.inr k1) z A (λ x l e=>Nat.not_lt.mpr k1 (p.p.loc.free b (p.p.loc.cell x b e)).2.2.2)
 ·refine mB hf λ y B hp=>?_;have j:=(k b e).2 y (vl B);refine pK (c.p.loc.free b (c.p.loc.cell y b j)) λ C D L M=>?_;refine ky (.inl (c.p.loc.cell y b j)) C D (λ x l e=>?_);rw[<-c.p.loc.inj x y b e j,List.contains_iff_mem.mpr l]at hp;cbv
theorem TQ(p:Pr g r a N X):fU g r a q (.ok (.next,N.V,X.O)) N X .next X.s:=tA (p.refl) p id rfl
theorem bm6{pos}(p:Pr g r a N X):eY g r a q (.ok (.next,N.V,X.O)) N X (dE (.Pass pos) a.env):=wpAny_Pass (TQ p)
theorem bz5{pos}(p:Pr g r a N X):eY g r a q (.ok (.brk,N.V,X.O)) N X (dE (.Break pos) a.env):=wpAny_Break ⟨.brk,N,X,rfl,rfl,.refl,.brk p⟩
theorem ag5{pos}(p:Pr g r a N X):eY g r a q (.ok (.cont,N.V,X.O)) N X (dE (.Continue pos) a.env):=wpAny_Continue ⟨.cont,N,X,rfl,rfl,.refl,.cont p⟩
theorem aw4{pos}(p:Pr g r a N X):eY g r a q (.ok (.ret .none,N.V,X.O)) N X (dE (.Return none pos) a.env):=
 wpAny_Return_none ⟨.ret .none,N,X,rfl,rfl,.refl,.ret (Lo p λ Y Y=>rfl)⟩
theorem Na{x y:RS}{k f V O}(h:x.ow k=y)(e:x=.ok (f,V,O)):(f=.next/\k V O=y)\/(f≠.next/\y=.ok (f,V,O)):=by
 rw[e]at h;clear e;cases f with
 |next=>exact .inl ⟨rfl,h⟩
 |_=>exact .inr ⟨(by intro b;cbv),h.symm⟩
theorem Sd{x y:RS}{k}(h:x.ow k=y)(b:y≠.stuck):x≠.stuck:=λ q=>b (by rw[<-h,q];rfl)
theorem OE{x y:RS}{k e}(h:x.ow k=y)(q:x=.exc e):y=.exc e:=by rw[q]at h;exact h.symm
theorem EX.to{b e c}(h:∀e,b=.exc e->res=.exc e)(x:EX g r a b N X e c):EX g r a res N X e c:=let⟨v,U,H,d,i,j,sm,f⟩:=x;⟨v,U,H,h _ d,i,j,sm,f⟩
theorem C7(l:Ha g r)(m:lW g r){n:af IS->Loc->St->RS}:lW g (jv P r n):=by
 intro a N X b res o x i;have p:=o.nx;refine bI (Q:=fU g r a (jL (bZ a.sc.names b)) res N X) (E:=EX g r a res N X) ?_ (λ w t h=>h.un) λ e t h=>h.un;obtain _|⟨st,b⟩:=b
 ·exact Gk (x▸TQ p)
 ·replace x:(r.S (wN a.sc.names st) N.V X.O).ow (λ V O=>r.B (bZ a.sc.names b) V O)=res:=x;refine ch9 (bI (l a N X st _ p rfl (Sd x i)) (λ j u h=>?_) λ e u h=>h.to λ e q=>OE x q);obtain⟨f,N1,I,rfl,v,c,en⟩:=h;obtain⟨k,d⟩|⟨k,d⟩:=Na x v
  ·cases en with
   |next y=>exact bI (m a N1 I b res y d i) (λ j z h=>h.pre c id) λ e z h=>h.pre c
   |_=>cbv
  ·have fin:fU g r a (jL (wN a.sc.names st::bZ a.sc.names b)) res N X j I.s:=⟨f,N1,I,rfl,d,c.le λ e=>(aH e),en⟩
   cases en with
   |next=>exact absurd rfl k
   |_=>exact fin
end
section
variable{g:G}{P:bW}{r:bh}{a:Act}{N J A U:Nt}{X X0 H I X':Xt}{q q':al}{res:RS}{s:aZ}
noncomputable def Nt.set(N:Nt)(x:Nm)(v:IV)(w:ao)(o:ak aA):Nt:=⟨λ y=>if y=strOf x then aa w else N.m y,put x v N.V,N.T++o.toList,λ y=>if y=x then o else N.c y⟩
structure CM(a:Act)(N:Nt)(X:Xt)(x:Nm)(b:aA):Prop where
 S:b∉X.S
 Z:X.Z b=none
 L:b≠a.L
 lt:b<X.s.heap.objs.size
 jo:a.jo.get? b=none
 no:∀y,y≠x->N.c y≠aa b
noncomputable abbrev Xt.hp(X:Xt)(h:bu)(tk:ah):Xt:={X with s:={X.s with heap:=h,toks:=tk}}
theorem yH{T o}{b:aA}(h:b∈T++o.toList):b∈T\/o=aa b:=(List.mem_append.mp h).imp id Option.mem_toList.mp
theorem Ze(p:Pr g r a N X){x v w o l}(m:pM x=ae)(f:FR g X.Z X.s.heap v w o)(j:∀b,o=aa b->CM a N X x b)(k:lI a.L X.s.heap l):
  tS g X.Z X.S a.L (N.T++o.toList) l (λ y=>if y=strOf x then aa w else N.m y) (put x v N.V) (λ y=>if y=x then o else N.c y):=by
 refine⟨λ y u e=>?_,λ y b e=>?_,λ y b e=>?_,λ b n=>?_,λ y z b i d=>?_⟩
 ·by_cases h:y=x
  ·rw[h,oQ]at e;rw[h,<-aS e,aT rfl,aT rfl];exact aL w rfl (f.map (λ Y Y e=>e) λ b e ob q=>(k.2 b (j b e).L).trans q)
  ·rw[oV h]at e;refine aG (p.p.loc.has y u e) λ t i d=>?_;rw[aM λ q=>h (DT m q.symm).symm,aM h];exact aL t i (d.map (λ Y Y e=>e) λ b e ob q=>(k.2 b (p.p.loc.free b (p.p.loc.cell y b e)).2.2.1).trans q)
 ·exact fJ e (λ Y e=>nJ _ (Option.mem_toList.mpr e)) λ Y e=>oK _ (p.p.loc.cell y b e)
 ·by_cases h:y=x
  ·rw[h,oQ];rfl
  ·rw[oV h];exact p.p.loc.qa y b ((aM h).symm.trans e)
 ·rw[k.1];exact(yH n).elim (p.p.loc.free b) λ e=>let c:=j b e;(ky c.S c.Z c.L c.lt)
 ·exact fJ i (λ h i=>fJ d (λ hz Y=>h.trans hz.symm) λ hz d=>absurd d ((j b i).no z hz)) λ h i=>fJ d (λ Y d=>absurd i ((j b d).no y h)) λ Y d=>p.p.loc.inj y z b i d
theorem ap5(p:Pr g r a N X){x v w o c tk}(j:pM x=ae)(f:FR g X.Z X.s.heap v w o)(i:∀b,o=aa b->CM a N X x b)(k:c.Ns a.L (N.set x v w o).m)(h:lI a.L X.s.heap c):
  Pr g r a (N.set x v w o) (X.hp c tk):=
 ⟨p.ok,{F:=p.p.F.set k h,wd:=⟨λ b ob e=>(h.2 b (λ q=>by simp only[q,p.p.LZ]at e;cbv)).trans (p.zh e),p.wd.wz,λ b e=>h.1▸p.wd.ww b e,h.1▸p.wd.big⟩,loc:=Ze p j f i h,sc:=p.p.sc.wU (λ Y Y e=>e) (λ b d ob e=>(h.2 b λ q=>p.p.LS (q▸d)).trans e) λ Y Y Y Y e=>e,hS:=p.p.hS,hT:=λ b d=>(yH d).elim (p.p.hT b) λ e=>(i b e).jo,LS:=p.p.LS,LZ:=p.p.LZ,kz:=p.p.kz,hz:=p.p.hz}⟩
theorem rC{x c v w o}(p:Pr g r a N X)(d:cy c=aa x)(e:a.sc.names.lookup c=aa .local)(f:FR g X.Z X.s.heap v w o)
  (j:∀b,o=aa b->CM a N X x b){Q E}(k:∀h tk,lI a.L X.s.heap h->Pr g r a (N.set x v w o) (X.hp h tk)->Q () (X.hp h tk).s):au g.M a.A (Gp a.env c w) Q E X.s:=by
 rw[<-eC d]at e⊢;refine wpAny_storeName_local e p.p.F.ns (λ h l i=>k h _ i (ap5 p (MR d) f j l i)) ?_;rw[p.ok.kind];rfl
theorem FR.Cy{Z h v w o}(f:FR g Z h v w o)(hv:az v=ae):o=none:=Option.eq_none_iff_forall_ne_some.mpr λ b e=>nomatch(FR.own (e▸f)).symm.trans hv
theorem SO(p:Pr g r a N X){x}(h:(lk x N.V).all az=ae):N.c x=none:=by
 refine Option.eq_none_iff_forall_ne_some.mpr λ b e=>?_;refine aI (fY (p.p.loc.qa x b e)) λ u c=>?_;refine aG (p.p.loc.has x u c) λ w Y f=>?_;rw[c]at h;exact nomatch(f.Cy h).symm.trans e
theorem BI{prm:af Nm}{x v w o Z h}(p:Pr g r a N X)(f:FR g Z h v w o)(c:fT r x v N.V=ae):∀y∈r.prm,(N.set x v w o).c y=N.c y:=λ y d=>by
 show(if y=x then o else N.c y)=N.c y
 by_cases b:y=x
 ·rw[aT b]
  rw[fT,<-b,List.contains_iff_mem.mpr d]at c
  refine dG c λ e i=>?_
  simp only[f.Cy e,SO p i]
 ·exact aM b
theorem PL{b:aA}{v w x}(p:Pr g r a N X)(c:X.s.heap.objs.size<=b)(d:b∉H.S)(i:H.Z b=none)(f:FR g H.Z H.s.heap v w (aa b)):CM a N H x b:=by
 refine⟨d,i,λ q=>Nat.not_lt.mpr (q▸c) p.p.L,?_,Option.eq_none_iff_forall_ne_some.mpr λ o q=>Nat.not_lt.mpr c (cq (p.p.F.keep b o q)),λ y Y e=>Nat.not_lt.mpr c (p.p.loc.free b (p.p.loc.cell y b e)).2.2.2⟩;generalize j:aa b=o at f;exact FR.casesOn f (λ Y Y e=>(by cbv)) (λ h Y e=>aS e▸cq h) (λ h Y Y Y e=>kL (h) λ Y Y Y k Y=>aS e▸cq k) j
theorem vK{prm x v w o d tk}(h:bU a q prm N X A H)(c:lI a.L H.s.heap d)(cc:∀y∈prm,(A.set x v w o).c y=A.c y)(hT:∀b,o=aa b->b∈A.T\/X.s.heap.objs.size<=b):bU a q prm N X (A.set x v w o) (H.hp d tk):=
 ⟨{h.st with
  keep:=λ b ob k l f e=>(c.2 b f).trans (h.st.keep b ob k l f e)
  size:=aj h.st.size (cx c.1.symm)
  tn:=λ b m=>(yH m).elim (h.st.tn b) λ e=>(hT b e).elim (h.st.tn b) .inr},⟨h.sm.os,h.sm.gens⟩,λ y i=>(cc y i).trans (h.cc y i),λ e=>⟨(h.pu e).1,λ b ob j n=>(c.2 b j).trans ((h.pu e).2 b ob j n)⟩⟩
theorem NV{x:Nm}{h v w o}(p:Pr g r a N X)(d:cy h=aa x)(i:a.sc.names.lookup h=aa .local)(j:aW q X H)(k:Pr g r a N H)(f:FR g H.Z H.s.heap v w o)
  (c:∀b,o=aa b->X.s.heap.objs.size<=b/\b∉H.S/\H.Z b=none)(l:fT r x v N.V=ae)(m:res=.ok (.next,put x v N.V,H.O)){E}:au g.M a.A (Gp a.env h w) (λ Y n=>fU g r a q res N X .next n) E H.s:=
 rC k d i f (λ b e=>lg (c b e) λ k1 t u=>PL p k1 t u (e▸f)) λ y tk z B=>
  ⟨.next,N.set x v w o,H.hp y tk,rfl,m,vK (j.ss) z (BI (prm:=r.prm) p f l) λ b e=>.inr (c b e).1,.next B⟩
theorem al4{x h ex l pos}(m:bJ g r)(p:Pr g r a N X)(n:cy h=aa x)(t:a.sc.names.lookup h=aa .local)(u:ay a.sc.names ex≠.bad)
  (y:KZ r x (ay a.sc.names ex) N.V X.O=res)(d:res≠.stuck):eY g r a (pureE (ay a.sc.names ex)) res N X (dE (.Assign [.Name h l] ex pos) a.env):=by
 refine cj2 (kO m (.refl:bU a ae r.prm N X N X) p y d λ v w H z B C c=>cf c d λ i c=>?_) (yB u);obtain⟨o,f,k⟩:=C;refine NV p n t z B f (λ b e=>?_) (aP i) c.symm;have j:=(aH i)
 rw[(e▸f:FR g H.Z H.s.heap v w (aa b)).own]at j;exact(k b e).1 (aH j)
theorem ZO{ex pos}(h:bJ g r)(p:Pr g r a N X)(x:ay a.sc.names ex≠.bad)(b:Il r (ay a.sc.names ex) N.V X.O=res)(c:res≠.stuck):
  eY g r a (pureE (ay a.sc.names ex)) res N X (dE (.Expr ex pos) a.env):=
 cj3 (kO h (.refl:bU a ae r.prm N X N X) p b c λ v w H d e i f=>tA d e id f.symm) (by show(a.sc.kind==.module&&_)=ai;rw[p.ok.kind];rfl) (yB x)
theorem C9{t x b pos}(l:lN g r)(i:lW g r)(p:Pr g r a N X)(m:kS P r (.iff (ay a.sc.names t) (bZ a.sc.names x) (bZ a.sc.names b)) N.V X.O=res)(d:res≠.stuck):
  eY g r a (AP (.iff (ay a.sc.names t) (bZ a.sc.names x) (bZ a.sc.names b))) res N X (dE (.If t x b pos) a.env):=by
 refine wpAny_If (TS l (.refl:bU a ae r.prm N X N X) p m d λ v H c j k=>?_);obtain _|_:=v
 ·exact bI (i a N H b res j k d) (λ n f h=>h.pre c.ss λ e=>by simp only[(aH e),(aP ((aP e)))];rfl) λ e f h=>h.pre c.ss
 ·exact bI (i a N H x res j k d) (λ n f h=>h.pre c.ss λ e=>by simp only[(aH e),(aH ((aP e)))];rfl) λ e f h=>h.pre c.ss
noncomputable def mq(g:G)(r:bh)(a:Act)(res:RS)(N:Nt)(X:Xt)(rs:Except ao uK)(h:aZ):Prop:=match rs with
 |.ok x=>fU g r a ai res N X x h
 |.error e=>VX g.M a.A a.env (EX g r a res N X) e h
noncomputable def AQ(g:G)(r:bh):Prop:=∀a N X t b res,Pr g r a N X->r.S (.iE (ay a.sc.names t) (bZ a.sc.names b)) N.V X.O=res->res≠.stuck->gy g.M a.A (.whileLoop t b [] a.env) (mq g r a res N X) X.s
theorem mq.pre{rs b}(x:bU a q r.prm N X A H)(h:mq g r a res A H rs b):mq g r a res N X rs b:=by
 obtain e|c:=rs
 ·exact bI h (λ Y Y y=>y.pre x) λ Y Y y=>y.pre x
 ·exact fU.pre x (by intro d;cbv) h
theorem mq.un{rs x b}(h:mq g r a res N X rs x):mq g (jv P r b) a res N X rs x:=by
 obtain e|c:=rs
 ·exact bI h (λ Y Y y=>y.un) λ Y Y y=>y.un
 ·exact fU.un h
theorem PQ{x y:RS}{k}(h:x.loop k=y)(b:y≠.stuck):x≠.stuck:=λ q=>b (by rw[<-h,q];rfl)
theorem Pu{x y:RS}{k e}(h:x.loop k=y)(q:x=.exc e):y=.exc e:=by rw[q]at h;exact h.symm
theorem NA{x y:RS}{k f V O}(h:x.loop k=y)(q:x=.ok (f,V,O)):(R.ok (f,V,O):RS).loop k=y:=by rw[q]at h;exact h
theorem Nr{t:bA}{b}(o:lN g r)(u:lW g r)(l:AQ g r)(p:Pr g r a N X)(w:kS P r (.iE (ay a.sc.names t) (bZ a.sc.names b)) N.V X.O=res)(d:res≠.stuck):gy g.M a.A (.whileLoop t b [] a.env) (mq g r a res N X) X.s:=by
 refine bt9 (bI (TS o (.refl:bU a ae r.prm N X N X) p w d λ v H i m x=>?_) (λ Y Y h=>h) λ e n h=>JT p.ok h);obtain _|_:=v
 ·exact tA i m (by intro E;cbv) x.symm
 ·have x:(r.B (bZ a.sc.names b) N.V H.O).loop (λ V O=>r.S (.iE (ay a.sc.names t) (bZ a.sc.names b)) V O)=res:=x;refine bI (u a N H b _ m rfl (PQ x d)) (λ L y h=>?_) λ e y h=>JT p.ok ((h.to λ e q=>Pu x q).pre i.ss);obtain⟨f,j,I,rfl,B,C,en⟩:=h;have x:=NA x B;have k:=(i.ss).trans C;cases en with
  |next c=>exact pW (l a j I t b res c x d) λ rs n z=>z.pre k
  |cont c=>exact pW (l a j I t b res c x d) λ rs n z=>z.pre k
  |brk c=>exact⟨.next,j,I,rfl,x.symm,k.no,.next c⟩
  |ret D=>exact⟨_,j,I,rfl,x.symm,k.no,.ret (D.pre (i.ss (a:=a)))⟩
theorem ah9(x:lN g r)(c:lW g r)(d:AQ g r){e}:AQ g (jv P r e):=λ a N X t b res p f i=>pW (Nr (P:=P) x c d p.nx f i) λ rs j h=>h.un
end
section
variable{g:G}{P:bW}{r:bh}{a:Act}{N c b f:Nt}{X m h t u:Xt}{q v:al}{res:RS}{s:aZ}{Z:Zf}
noncomputable abbrev Nt.lst(N:Nt)(x:Nm)(l:af IV):Nt:={N with V:=put x (.lst l) N.V}
theorem Ny(p:Pr g r a N X){x l n i A C s2}(D:lk x N.V=aa (.lst l))(j:N.c x=aa i)(E:s2.heap.get? i=aa (cQ A C))(I:bD g X.Z n A)(sb:lI i X.s.heap s2.heap):
  Pr g r a (N.lst x n) {X with s:=s2}:=by
 refine aB λ Y J=>?_;refine pK (p.p.loc.free i (p.p.loc.cell x i j)) λ L M O f4=>?_;refine bg (sb) λ H kp=>?_;have k:∀{y o},y≠i->X.s.heap.get? y=aa o->s2.heap.get? y=aa o:=λ ne e=>(kp _ ne).trans e;have loc:tS g X.Z X.S a.L N.T s2.heap N.m (put x (.lst n) N.V) N.c:=by
  refine⟨λ y Q e=>?_,p.p.loc.cell,λ y z e=>?_,λ y e=>H▸p.p.loc.free y e,p.p.loc.inj⟩
  ·by_cases d:y=x
   ·rw[d,oQ]at e;refine aG (p.p.loc.has x _ D) λ w T B=>?_;rw[j]at B;rw[d,<-aS e,j];exact aL w T (B.cell (Z':=X.Z)▸.lst E I)
   ·rw[oV d]at e;refine aG (p.p.loc.has y Q e) λ U V e2=>?_;exact aL U V (e2.map (λ Y Y e=>e) λ z ez ob q=>k (λ qz=>d (p.p.loc.inj y x z ez (qz▸j))) q)
  ·by_cases d:y=x
   ·rw[d,oQ];rfl
   ·rw[oV d];exact p.p.loc.qa y z e
 refine J ?_;exact⟨p.ok,{F:=⟨kL (p.p.F.ns) λ o es ep ho r=>(mU o es ep (k (gf O) ho) r),λ y o e=>k (λ q=>by rw[q,p.p.hT i (p.p.loc.cell x i j)]at e;cbv) (p.p.F.keep y o e),p.p.F.above⟩,wd:=⟨λ y o e=>k (λ q=>by simp only[q,M]at e;cbv) (p.zh e),p.wd.wz,λ y e=>H▸p.wd.ww y e,H▸p.wd.big⟩,loc:=loc,sc:=p.p.sc.wU (λ Y Y e=>e) (λ y d o e=>k (λ q=>L (q▸d)) e) λ Y Y Y Y e=>e,hS:=p.p.hS,hT:=p.p.hT,LS:=p.p.LS,LZ:=p.p.LZ,kz:=p.p.kz,hz:=p.p.hz}⟩
theorem UM{prm x i j d}(k:bU a q prm N X b h)(sm:Sm h.s d)(l:j∈b.T)(sb:lI j h.s.heap d.heap):bU a ai prm N X (b.lst x i) {h with s:=d}:=
 have y:bU a ai prm b h (b.lst x i) {h with s:=d}:=⟨⟨λ Y Y e=>e,λ Y Y e=>.inl e,λ y o Y n Y e=>(sb.2 y λ q=>n (q▸l)).trans e,cx sb.1.symm,λ Y e=>.inl e,λ Y e=>.inl e,BW⟩,sm,λ Y Y=>rfl,(by intro p;cbv)⟩
 (k.trans y).no
theorem bj0{x j l k w e}(o:LQ g Z s x j l k w e){n}(p:s.heap.get? x=aa (cQ j n)):lI x s.heap e.heap/\∃d i,e.heap.get? x=aa (cQ d i)/\bD g Z k d:=by
 refine aB λ Y z=>?_;obtain⟨_,_,D,d,H,A,B⟩:=o;refine aI (Ir p A) λ i C=>?_;refine z ?_;exact(H).symm▸⟨⟨oU _ _ _,λ y ne=>jE _ _ (gf ne)⟩,d,i,C,B⟩
theorem bm4{C I x mt D E j J pos a9}(IH:bJ g r)(b0:∀V O,r.E .bad V O=.stuck)(p:Pr g r a N X)(L:cy C=aa x)(b4:a.sc.names.lookup C=aa .local)
  (b5:cy I=aa mt)(M:gq D E=ae)(b6:(J.endLine==pos.line)=ae)(d:kq (lk x N.V)=ae)(k:tw r x mt (bV a.sc.names D) (ic a.sc.names E) N.V X.O=res)(H:res≠.stuck):
  eY g r a ai res N X (dE (.Expr (.Call (.Attribute (.Name C j) I J) D E pos) a9) a.env):=by
 refine aB λ Y o=>?_;refine cf k H λ Q k=>?_;refine aI (Vz d) λ l0 d=>?_;refine aG (p.p.loc.has x _ d) λ w T U=>?_;rw[eC L]at T;refine jY (U.rk) λ b7 ws n b8 A g1 g2=>?_;clear U;subst b8;refine o ?_;rw[<-eC b5];refine cj3 (bI (HY rfl M b6 (LH p.p.F T (λ pl=>Uz g1 (bE (aH Q)) ?_) p.ok.kind b4 (lJ L))) (λ Y Y x=>x) λ e s' i=>dk.ex p (.refl:bU a ae r.prm N X N X) k i) (by show(a.sc.kind==.module&&_)=ai;rw[p.ok.kind];rfl) rfl;refine Ab IH b0 M (aP Q) Am (p.refl (q:=ae)) p DU (qH k H) λ vs us h x1 j ar z=>⟨trivial,?_⟩
 refine aB λ Y o=>?_;refine bQ (sD k z.symm) H λ l B z=>bQ z H λ y b9 z=>?_;refine aG (j.p.loc.has x _ d) λ w1 c7 f1=>?_;refine iD B λ v1 a0 B=>?_;rw[d]at a0;have e:l0=l:=by rw[<-aS a0]at B;exact aS B
 rw[e]at d f1;refine jY (f1.rk) λ b' c8 n1 Y a8 k1 k2=>?_;refine o ?_;refine bI (QO (aS (A.symm.trans a8)▸k1) k2 ar b9) (λ w s2 i=>?_) λ Y Y i=>i;refine aB λ Y o=>?_;obtain⟨sb,c9,n',q1,q2⟩:=bj0 i (aS (A.symm.trans a8)▸k1);refine o ?_;exact⟨.next,N.lst x y.2,{h with s:=s2},rfl,z.symm,UM x1.ss i.2.1 (j.p.loc.cell x b7 A) sb,.next (Ny j d A q1 q2 sb)⟩
theorem bd8{i}(x:Nm)(e w:i)(l:af (Nm×i)):put x e (put x w l)=put x e l:=by
 induction l with
 |nil=>exact aT rfl
 |cons y l j=>
  show put x e (if x=y.1 then(y.1,w)::l else y::put x w l)=if x=y.1 then(y.1,e)::l else y::put x e l;by_cases d:x=y.1
  ·rw[aT d,aT d];exact aT d
  ·rw[aM d,aM d];exact(aM d).trans (aD (y::·) j)
theorem Ob:isSeqSlot (aa (.builtin "list.__iadd__"))=ae:=by decide+kernel
theorem bc9{A E Q x d e us n k l i}(p:s.heap.get? x=aa (cQ e n))(w:bD g Z l e)(y:s.heap.get? d=aa (cQ us k))(z:bD g Z i us)(L:l.length+i.length<=10000)
  (D:∀H B,H e.toArray=ce3 B->bD g Z (l++i) B->Q (.ref x) {s with heap:=s.heap.update x (FY H)}):au g.M A (Mx .Add (.ref x) (.ref d)) Q E s:=by
 have M:=w.1;have O:=z.1;have j:s.TypeIs (.ref x) "list":=(aL _ p rfl)
 have I:fillsInplaceSlot (.type "list") "add" (Operator.Add==.Add)=fO ai:=by
  show(Wh (.type "list") (dunderI "add")>>=λ C=>fO (C.isSome&&!isSeqSlot C))=fO ai;rw[F.slot_list_iadd.lookup,pure_bind,Ob];rfl
 have J:seqSlot? (.type "list") (dunderI "add")=fO (aa (.builtin "list.__iadd__")):=by
  unfold seqSlot?;rw[F.slot_list_iadd.lookup,pure_bind,Ob];rfl
 refine kf ?_;refine aq (ce0 j (aq (Gb I ?_)));refine aq (wpAny_binaryOp1_none j ((aL _ y rfl)) cc0 ?_);refine aq (Gb J ?_);refine aq (Mu ?_);have o:e.toArray.size+us.toArray.size<=gh:=by simp[gh];lia
 refine xo F.slot_list_iadd j F.entry_list_iadd (F.args_list_iadd_2 _ _) (AutoSeq1.list___iadd___list_list_0 x e.toArray n d us.toArray k (ce9 o) (aj (ck _ _) o) (xv o)) (dB p y (D _ (e++us) (by simp) (w.append z)))
section
variable{A:eP}{E Q:ao->aZ->Prop}{x y a:IV}{p r:ao}{o1 z:ak aA}
theorem UR(l:FR g Z s.heap x p o1)(n:FR g Z s.heap y r z)(hv:lQ .Add x y=aa a)(o:az x=ae)(H:∀w tk,VR g Z a w->Q w {s with toks:=tk}):au g.M A (Mx .Add p r) Q E s:=by
 revert hv;refine fH (λ hv=>?_) λ hv=>?_
 ·exact yV l n hv λ i j C D e d I=>d▸I▸PySem.P.iadd_int (H _ _ (aS e▸.int _ _))
 revert hv;refine fH (λ hv=>?_) λ hv=>?_
 ·refine aB λ Y J=>?_;refine og (Hf hv) λ L M O T B U=>?_;clear o hv UR;subst O;subst T;subst U;refine cu (l.strs) λ x1 C V a0=>?_;subst V;subst a0;refine cu (n.strs) λ x2 D a8 a9=>?_;subst a8;subst a9;simp only[oF]at B;refine J ?_;exact SB.iadd (λ t' k=>H _ _ (.xO (FN ..))) (by simp only[xl,gh];exact aj B ⋯)
 ·refine cu (yv hv) λ L M d Y=>?_;rw[jm d]at o;cbv
theorem Oj{op}(k:FR g Z s.heap x p o1)(l:FR g Z s.heap y r z)(hv:lQ op x y=aa a)(o:az x=ae)(n:∀w tk,VR g Z a w->Q w {s with toks:=tk}):au g.M A (Mx op p r) Q E s:=
 Wc op (λ hv=>UR k l hv o n)
  (λ hv=>yV k l hv λ i j C D e H B=>H▸B▸PySem.P.isub_int (n _ _ (aS e▸.int _ _))) (by intro d;cbv) (by intro d;cbv) (by intro d;cbv) (by intro d;cbv) (by intro d;cbv) (by intro d;cbv) (by intro d;cbv) (by intro d;cbv) (by intro d;cbv) (by intro d;cbv) (by intro d;cbv) hv
theorem K1{op}(hv:lQ op x y=aa a)(n:az x=ai):op=.Add/\∃l j,x=.lst l/\y=.lst j/\l.length+j.length<=10000/\.lst (l++j)=a:=by
 have no:∀{k},hX x y k≠aa a:=λ q=>by
  refine cu (CY q) λ i Y o Y=>?_;rw[o]at n;cbv
 refine Wc (motive:=λ op=>lQ op x y=aa a->op=.Add/\∃l j,x=.lst l/\y=.lst j/\l.length+j.length<=10000/\.lst (l++j)=a) op (λ hv=>⟨rfl,?_⟩) (λ hv=>absurd hv no) (by intro d;cbv) (by intro d;cbv) (by intro d;cbv) (by intro d;cbv) (by intro d;cases d) (by intro d;cases d) (by intro d;cases d) (by intro d;cases d) (by intro d;cases d) (by intro d;cases d) (by intro d;cases d) hv;revert hv;refine fH (λ hv=>?_) λ hv=>?_
 ·exact absurd hv no
 revert hv;refine fH (λ hv=>?_) λ hv=>?_
 ·refine cu (Hf hv) λ w Y o Y=>?_;rw[o]at n;cases n
 ·refine og (yv hv) λ w H B C D e=>?_;exact qq w H (jm B) (jm C) D e
theorem A9{op}(o:FR g Z s.heap x p o1)(i:FR g Z s.heap y r z)(B:lQ op x y=aa a)(C:az x=ai)
  (H:∀e l w i j k,p=.ref e->o1=aa e->x=.lst l->a=.lst w->i.get? e=aa (cQ j k)->bD g Z w j->lI e s.heap i->Q (.ref e) {s with heap:=i}):au g.M A (Mx op p r) Q E s:=by
 refine aB λ Y D=>?_;obtain⟨rfl,l,l2,rfl,rfl,I,rfl⟩:=K1 B C;refine jY (o.rk) λ e ws n J L k1 M=>?_;clear o;subst J;refine eh (i.wI) λ d us n2 O T U=>?_;clear i;subst O;refine D ?_;refine bc9 k1 M T U I λ fu j V q3=>?_;obtain⟨k,a0⟩:=Ir k1 V;exact H e l _ _ j k rfl L rfl rfl a0 q3 ⟨oU _ _ _,λ y ne=>jE _ _ (gf ne)⟩
end
theorem br1{x n l z d H C i E}(D:aW ai X h)(o:Pr g r a N h)(I:cy n=aa x)(J:a.sc.names.lookup n=aa .local)(hv:lk x N.V=aa (.lst l))(j:N.c x=aa d)
  (A:i.get? d=aa (cQ H C))(B:bD g h.Z z H)(sb:lI d h.s.heap i)(L:res=.ok (.next,put x (.lst z) N.V,h.O)):au g.M a.A (Gp a.env n (.ref d)) (λ Y M=>fU g r a ai res N X .next M) E {h.s with heap:=i}:=by
 refine aB λ Y O=>?_;have k:=o.p.loc.cell x d j;have p:=Ny (s2:={h.s with heap:=i}) o hv j A B sb;refine pK (p.p.loc.free d k) λ Q T U a0=>?_;refine O ?_;refine rC p I J (.lst A B) (λ y e=>aS e▸⟨Q,T,U,a0,p.p.hT d k,λ y ne e=>ne (o.p.loc.inj y x d e j)⟩) λ h' tk hs p'=>?_;refine⟨.next,_,_,rfl,?_,vK (UM (D.ss) (Sm.refl:Sm h.s {h.s with heap:=i}) k sb) hs (λ y hy=>?_) λ y e=>.inl (aS e▸k),.next p'⟩
 ·exact(L).symm▸aD (λ V=>R.ok (Fl.next,V,h.O)) (bd8 x _ _ _).symm
 ·show(if y=x then aa d else N.c y)=N.c y;by_cases w:y=x
  ·exact(aT w).symm▸(w).symm▸(j).symm▸rfl
  ·exact aM w
theorem bs7{x j ex op L pos}(M:bJ g r)(p:Pr g r a N X)(k:cy j=aa x)(n:a.sc.names.lookup j=aa .local)
  (e:kS P r (.aug x op (ay a.sc.names ex)) N.V X.O=res)(i:res≠.stuck):eY g r a ai res N X (dE (.AugAssign (.Name j L) op ex pos) a.env):=by
 refine aB λ Y o=>?_;refine bQ e i λ y hv e=>?_;refine aG (p.p.loc.has x y hv) λ w0 B f0=>?_;have C:=B;rw[eC k]at C;refine o ?_;refine wpAny_AugAssign_Name (Mr p.ok.kind n p.p.F.ns C (kO M (.refl:bU a ae r.prm N X N X) p e i λ a0 w h D z O d=>?_));refine aB λ Y o=>?_;refine bQ d i λ v' E d=>cf d i λ I d=>?_;obtain⟨o2,J,_⟩:=O;refine aG (z.p.loc.has x y hv) λ a8 Q H=>?_;rw[<-aS (B.symm.trans Q)]at H;refine o ?_;rcases A:az y with _|_
 ·exact A9 H J E A λ a9 l l' h2 b0 n' e1 T U V hg e sb=>br1 D.no z k n (U▸hv) T hg e sb (V▸d.symm)
 ·rw[A]at I;exact Oj H J E A λ w' tk vr=>NV p k n (D.no.tk tk) (z.tk tk) (.val vr.az vr) (by intros;cbv) I d.symm
end
theorem bl0{a}(f:Nm)(v:a)(x:af (Nm×a))(h:lk f x=none):(put f v x).length=x.length+1:=by simp only[QM x h,bp];rfl
theorem Ou{v}(h:v.dX=none)(x:v.hM=none):az v=ae:=by
 unfold az;simp only[beq_eq_false_iff_ne.mpr (Jh h),beq_eq_false_iff_ne.mpr (Jh x)];rfl
theorem VB{x:Type}{o p}{u:x}(h:o.all p=ae)(e:o=aa u):p u=ae:=by rw[e]at h;exact h
theorem Tp{f v x}(h:wY f v x=ae):x.length<900/\(∀u,lk f x=aa u->az u=az v/\(az v=ai->3<=nl x))/\∀l,v=.lst l->tB f=1+nl x/\nl x<=1:=by
 refine dG h λ d h=>?_;refine⟨bE d,dW (G:=λ z=>z=ae->_) (λ l a h=>?_) (λ a h=>dW (G:=λ z=>z=ae->_) (λ l hd h=>?_) (λ hd h=>?_) h) h⟩
 ·refine dG h λ h g=>?_;refine dG h λ b c=>?_;exact⟨λ u e=>((by cases((lY b).symm.trans e))),λ l Y=>⟨bE c,bE g⟩⟩
 ·refine⟨λ u e=>?_,λ l e=>?_⟩
  ·refine bg (ej (VB (p:=λ u=>u.hM.isSome&&decide (3<=nl x)) h e)) λ b c=>?_;refine aI (fY b) λ k i=>?_;rw[nz i,nz hd];exact⟨rfl,λ Y=>bE c⟩
  ·rw[e]at a;cbv
 ·refine⟨λ u e=>⟨(VB h e).trans (Ou a hd).symm,λ q=>(absurd ((Ou a hd).symm.trans q) ⋯)⟩,λ l e=>?_⟩;rw[e]at a;cbv
section
variable{g:G}{Z:Zf}{S:af aA}{h a:bu}
theorem FR.CP{v w o}(f:FR g Z h v w o)(hv:az v=ai):∃b,o=aa b:=
 FR.casesOn f (λ n Y e=>(absurd (n.symm.trans e) ⋯)) (λ Y Y Y=>⟨_,rfl⟩) (λ Y Y Y Y Y=>⟨_,rfl⟩) hv
theorem jJ.set{m f v w o A C d t n cc}(J:pM f=ae)(L:wY f v m=ae)(q:jJ g Z S h m A C d t n cc)
  (fr:FR g Z h v w o)(z:∀b,o=aa b->b∉S){B tk D}(hd:a.get? d=aa (gW (kg (strOf f) B (.str (strOf f) tk) w t) D))(E:∀b,b≠d->a.get? b=h.get? b):
  jJ g Z (S++o.toList) a (put f v m) A C d (kg (strOf f) B (.str (strOf f) tk) w t) D (λ x=>if x=f then o else cc x):=by
 refine lg (Tp L) λ Y H M=>?_;have I:∀b,o=aa b->b≠d:=λ b e r=>z b e (r▸q.dS);have ne:∀x,x≠f->strOf f≠strOf x:=λ x c r=>c (DT J r).symm;refine⟨q.cls,q.inst,q.uniq,oK _ q.dS,hd,?_,λ x u e=>?_,λ x e=>?_,λ x b e=>?_,λ x y b i j=>?_,(FL (List.getElem?_eq_some_iff.mp q.s0).1).trans q.s0,λ x b l i j=>?_,λ p=>?_⟩
 ·rcases k:lk f m with _|u
  ·rw[(KY).2 (q.pv f k),bl0 f v m k,q.len]
  ·obtain⟨X,i,_⟩:=q.has f u k;rw[(KY).1 X i,PR f v m k,q.len]
 ·by_cases c:x=f
  ·rw[c,oQ]at e;rw[c,<-aS e,aT rfl];exact aL w Ij (fr.map (λ Y Y e=>e) λ b e ob r=>(E b (I b e)).trans r)
  ·rw[oV c]at e;refine aG (q.has x u e) λ X i j=>?_;rw[aM c];exact aL X ((yd (ne x c)).trans i) (j.map (λ Y Y e=>e) λ b e ob r=>(E b (q.cell x b e).2).trans r)
 ·by_cases c:x=f
  ·rw[c,oQ]at e;cbv
  ·rw[oV c]at e;exact(yd (ne x c)).trans (q.pv x e)
 ·exact fJ e (λ Y e=>⟨nJ _ (Option.mem_toList.mpr e),I b e⟩) λ Y e=>⟨oK _ (q.cell x b e).1,(q.cell x b e).2⟩
 ·exact fJ i (λ c i=>fJ j (λ s Y=>c.trans s.symm) λ s j=>absurd (q.cell y b j).1 (z b i)) λ c i=>fJ j (λ s j=>absurd (q.cell x b i).1 (z b j)) λ s j=>q.inj x y b i j
 ·by_cases c:x=f
  ·rw[c,oQ]at i;refine bg (M l (aS i)) λ N O=>?_;simp only[c,N,<-q.nl (aj O ⋯),Ca (ca _),uY,(aT c).symm.trans j];rfl
  ·rw[oV c]at i;have:=q.pos x b l i ((aM c).symm.trans j);rw[FL (List.getElem?_eq_some_iff.mp this).1];exact this
 ·rcases hv:az v with _|_
  ·refine aI (fr.CP hv) λ b Q=>Q▸?_;rcases k:lk f m with _|u
   ·rw[Rj f v m k,hv]at p⊢;simp only[bp,q.nl (aj (ck _ _) p)];rfl
   ·rw[Jt f u v m k (H u k).1]at p;have:=(H u k).2 hv;exact absurd this (Nat.not_lt.mpr p)
  ·simp only[fr.Cy hv,Option.toList_none,bC];rcases k:lk f m with _|u
   ·rw[Rj f v m k,hv]at p⊢;exact q.nl p
   ·rw[Jt f u v m k (H u k).1]at p⊢;exact q.nl p
end
section
variable{g:G}{P:bW}{r:bh}{a:Act}{N j l m:Nt}{X s b h c:Xt}{q f:al}{res:RS}
theorem FR.lt{Z x v w d}(i:FR g Z x v w (aa d)):d<x.objs.size:=by
 generalize k:aa d=o at i;exact FR.casesOn i (λ Y Y e=>(by cbv)) (λ x Y e=>aS e▸cq x) (λ x Y Y Y e=>kL (x) λ Y Y Y n Y=>aS e▸cq n) k
theorem Tb{d}{o:ak aA}{p}(x:aW q X h)(wd:Wd h.Z h.S h.s.heap)(dS:d∈h.S)(sb:lI d h.s.heap p)(n:∀i,o=aa i->X.s.heap.objs.size<=i/\h.Z i=none/\i<h.s.heap.objs.size):Step X.Z h.Z X.S (h.S++o.toList) X.s.heap p:=
 {x.st with
  zh:=λ i ob e=>(sb.2 i (λ q=>by simp only[q,wd.wz d dS]at e;cbv)).trans (wd.zh i ob e)
  keep:=λ i ob t e=>(sb.2 i (λ q=>(x.st.wn d dS).elim (λ r=>t (q▸r)) λ r=>Nat.not_lt.mpr r (q▸cq e))).trans (x.st.keep i ob t e)
  size:=sb.1▸x.st.size
  wn:=λ i k=>(yH k).elim (x.st.wn i) λ e=>.inr (n i e).1
  wz:=λ i k=>(yH k).elim (wd.wz i) λ e=>(n i e).2.1
  ww:=λ i k=>sb.1▸(yH k).elim (wd.ww i) λ e=>(n i e).2.2
  big:=sb.1▸x.st.big
  pre:=x.st.pre.trans (List.prefix_append _ _)}
theorem Ur{t i v w A o}(U:kH g P)(p:Pr g r a N X)(x:aW q X h)(y:Pr g r a N h)(V:h.O=aa t)
  (B:wY i v t=ae)(Z:P.cZ .bL i=ae)(fr:FR g h.Z h.s.heap v w o)(H:∀k,o=aa k->X.s.heap.objs.size<=k/\k∉h.S/\h.Z k=none)(D:VR g h.Z .obj A){Q E}
  (I:∀c,c.O=aa (put i v t)->aW ai X c->Pr g r a N c->Q () c.s):au g.M a.A (Mq A (strOf i) w) Q E h.s:=by
 refine aB λ Y kK=>?_;have sc:=y.p.sc;rw[V]at sc;refine qI (sc) λ ι C d J n cc sc=>?_;refine eh (D.objs) λ C' b0 dx a0 h1 L=>?_;clear D;subst a0;rw[<-aS (sc.cls.symm.trans h1)]at L;refine kK ?_;rw[sc.uniq _ _ L];refine bg (U.set i C Z sc.cls) λ z a8=>?_;have a9:(fN (strOf i) J).isSome=ae:=by
  rcases M:lk i t with _|u
  ·rw[sc.pv i M];rfl
  ·obtain⟨w0,e1,_⟩:=sc.has i u M;rw[e1];rfl
 refine Vd (y.ok.K.keeps y.p.F.keep) (⟨y.zh sc.inst,rfl,rfl,sc.dict⟩:InstAt h.s.heap _ (dD C d) C (aa (gW J n))) rfl sc.dict z.set z.over z.JV z.dict a9 (by have:=(Tp B).1;have:=sc.len;lia) λ b4 tk fu n' hd=>?_;generalize hh:h.s.heap.update d fu=O at hd⊢;have sb:lI d h.s.heap O:=hh▸⟨oU _ _ _,λ k hb=>jE _ _ (gf hb)⟩;have T:aW ai X ⟨aa (put i v t),h.Z,h.S++o.toList,{h.s with heap:=O,toks:=h.s.toks+2}⟩:=⟨Tb x y.wd sc.dS sb λ k e=>(dB ((H k e).1) ((H k e).2.2) (FR.lt (e▸fr))),⟨x.sm.os,x.sm.gens⟩,(by intro I;cbv)⟩
 exact I _ rfl T (p.step T (Br ι C d _ _ _ (sc.set a8 B fr (λ k e=>(H k e).2.1) hd sb.2)))
theorem bc3{ie v w}(y:aW q X b)(d:aW f b h)(rs:Rs g N ie X b v w)(i:(az v||fresh ie)=ae):∃o,FR g h.Z h.s.heap v w o/\∀x,o=aa x->X.s.heap.objs.size<=x/\x∉h.S/\h.Z x=none:=by
 obtain⟨o,fr,k⟩:=rs;have n:∀x,o=aa x->(X.s.heap.objs.size<=x/\x∉b.S/\b.Z x=none)/\x<b.s.heap.objs.size:=λ x e=>by
  have fr:=e▸fr;rw[fr.own]at i;exact qh ((k x e).1 i) fr.lt
 exact aL o (fr.step d.st λ x e=>(n x e).1.2.1) (λ x e=>let⟨⟨k1,t,u⟩,p⟩:=n x e;(dB k1 (d.st.out p t) (d.st.um p u)))
theorem aa9{ob ex k n H pos}(A:kH g P)(t:bJ g r)(p:Pr g r a N X)(B:cy k=aa n)(C:ay a.sc.names ex≠.bad)
  (D:kS P r (.rn (ay a.sc.names ob) n (ay a.sc.names ex)) N.V X.O=res)(d:res≠.stuck):eY g r a ai res N X (dE (.Assign [.Attribute ob k H] ex pos) a.env):=by
 rw[<-eC B];refine ci0 (kO t (.refl:bU a ae r.prm N X N X) p D d λ v w b i E I x=>cf x d λ J x=>?_) (yB C);refine kO t i.ss E x d λ Z w2 h u L M x=>cf x d λ y x=>bQ x d λ fs O x=>cf x d λ Q x=>?_;refine aG (bc3 i u I J) λ o fr T=>?_;obtain⟨o2,z,_⟩:=M;rw[rj (aH y)]at z;exact Ur A p (i.trans u) L O Q (aP y) fr T (z.vr rfl) λ c e U V=>tA U V (by intro hQ;cbv) (e▸x.symm)
theorem bl1{ob ex H A op I pos}(tk:lV g P)(J:kH g P)(B:bJ g r)(p:Pr g r a N X)(L:cy H=aa A)
  (M:kS P r (.tZ (ay a.sc.names ob) A op (ay a.sc.names ex)) N.V X.O=res)(d:res≠.stuck):eY g r a ai res N X (dE (.AugAssign (.Attribute ob H I) op ex pos) a.env):=by
 rw[<-eC L];refine wpAny_AugAssign_AttributeAny (kO B (.refl:bU a ae r.prm N X N X) p M d λ v w b C D O x=>cf x d λ Q x=>bQ x d λ i n x=>?_);obtain⟨o1,t,_⟩:=O;rw[rj Q]at t;refine iD n λ u n T=>?_;rw[dY T]at n;refine SA tk D t n λ b0 o' y U=>kO B (C.tk y).ss (D.tk y) x d λ v2 w2 h z V Z x=>bQ x d λ k o x=>bQ x d λ fs a0 x=>cf x d λ a8 x=>?_;obtain⟨o2,f2,_⟩:=Z;refine iD o λ v' o a9=>?_;rw[dY a9]at o;refine Oj (.val rfl ((U.vr rfl).mono z.st.zz)) f2 o rfl λ new E vr=>?_;exact Ur J p (((C.tk y).trans z).tk E) (V.tk E) a0 a8 (EN n).1 (.val rfl vr) (by intros;cbv) ((t.vr rfl).mono z.st.zz) λ c e x' p'=>tA x' p' (by intro hQ;cbv) (e▸x.symm)
end
section
variable{h:af (ag×ao)}{k a:ag}{u b:ao}
theorem au3(d:a∉h.map (·.1)):zH ((a,b)::h) a u=(a,u)::h:=by
 have f:h.map (λ c=>if c.1=a then(c.1,u)else c)=h:=by
  conv=>rhs;rw[<-List.map_id h]
  exact cj4 λ x g=>aM (λ e:x.1=a=>d ((e)▸pV g))
 simp only[zH,Gj,decide_true,cj5,xt,Ci,f]
theorem Zw(x:a≠k):zH ((a,b)::h) k u=(a,b)::zH h k u:=by
 simp only[zH,Gj,x,decide_false,Bool.false_or,Ci,oJ];split<;>rfl
theorem O0(c:a∉h.map (·.1)):sT ((a,b)::h) a=h:=by
 have d:sT h a=h:=List.filter_eq_self.mpr λ x f=>by
  have:x.1≠a:=λ e=>c ((e)▸pV f);simp[this]
 have:sT ((a,b)::h) a=sT h a:=by simp[sT]
 exact(this).symm▸(d).symm▸rfl
theorem I8(x:a≠k):sT ((a,b)::h) k=(a,b)::sT h k:=by simp[sT,x]
end
inductive DR(g:G)(Z:Zf):af (ag×IV)->af (ag×ao)->Prop
 |nil:DR g Z [] []
 |cons {k v u l kvs} (r:VR g Z v u) (t:DR g Z l kvs):DR g Z ((k,v)::l) ((k,u)::kvs)
section
variable{g:G}{Z:Zf}{S:af aA}{h H:bu}
theorem DR.of{l c}(d:l.length=c.length)(e:Ap g Z l c):DR g Z l c:=
 Hy .nil (λ{x l y k} r t=>by
  obtain⟨a,b⟩:=x
  obtain⟨f,j⟩:=y
  exact(show a=f from r.1)▸.cons r.2 t) l c d λ i x y=>e i x.1 x.2 y.1 y.2
theorem DR.len{l a}(x:DR g Z l a):l.length=a.length:=DR.rec rfl (λ Y Y b=>aD (·+1) b) x
theorem DR.rel{l e}(x:DR g Z l e):Ap g Z l e:=
 DR.rec (λ Y Y Y Y Y p=>(by cbv)) (λ{k v u l e} r Y f i a b c d p q=>by
  obtain _|i:=i
  ·refine bg (xD (aS p)) λ j m=>?_
   refine bg (xD (aS q)) λ n o=>?_
   exact⟨j.symm.trans n,m▸o▸r⟩
  ·exact f i a b c d p q) x
theorem DR.put{k v u}(r:VR g Z v u){l d}(x:DR g Z l d):(d.map (·.1)).Nodup->DR g Z (rh k v l) (zH d k u):=
 DR.rec (λ Y=>.cons r .nil) (λ{a b c l d} f t i nd=>by
  refine bg (List.nodup_cons.mp nd) λ j m=>?_
  show DR g Z (if k=a then(a,v)::l else(a,b)::rh k v l) _
  by_cases e:k=a
  ·rw[aT e,e,au3 j];exact .cons r t
  ·rw[aM e,Zw (gf e)];exact .cons f (i m)) x
theorem DR.del{k l d}(x:DR g Z l d):(d.map (·.1)).Nodup->DR g Z (sj k l) (sT d k):=
 DR.rec (λ Y=>.nil) (λ{a b c l d} f t i nd=>by
  refine bg (List.nodup_cons.mp nd) λ j m=>?_
  show DR g Z (if k=a then l else(a,b)::sj k l) _
  by_cases e:k=a
  ·rw[aT e,e,O0 j];exact t
  ·rw[aM e,I8 (gf e)];exact .cons f (i m)) x
structure Kq(g:G)(Z:Zf)(h:bu)(l:af (ag×IV))(w:ao)(o:ak aA)(b:aA)(kvs:af (ag×ao)):Prop where
 w:w=.ref b
 o:o=aa b
 d:h.DictOf (uN g.prog g.w) b kvs
 ne:(b==oE)=ai
 r:DR g Z l kvs
 nd:(kvs.map (·.1)).Nodup
theorem FR.JC{l w o}(f:FR g Z h (.eD l) w o):∃b x,Kq g Z h l w o b x:=by
 refine aB λ Y a=>?_;refine CZ (f.CI) λ b x c d1 d2 d3 d=>?_;subst c;refine aI (f.CP rfl) λ i e=>?_;refine a ?_;exact⟨b,x,rfl,e.trans (aD aa (Gl ((e▸f:FR g Z h (.eD l) (.ref b) (aa i)).cell (Z':=Z))).symm),d1,d2,DR.of d3 d,by obtain⟨_,_,_,_,_,_,_,_,nd⟩:=d1;exact nd⟩
theorem jJ.Ys{x f l a w e C d i n c b p j}(sc:jJ g Z S h x e C d i n c)(r:lk f x=aa (.eD l))(k:Kq g Z h l w (c f) b p)
  (hd:H.DictOf (uN g.prog g.w) b j)(m:DR g Z a j)(s:∀y o,y≠b->h.get? y=aa o->H.get? y=aa o):jJ g Z S H (put f (.eD a) x) e C d i n c:=
 sc.Sk r k.o rfl (λ w q=>by exact(q.cell (Z':=Z)).symm▸.eD hd k.ne m.len m.rel) (by intros;cbv) s
end
section
variable{g:G}{P:bW}{r:bh}{a:Act}{N f j m:Nt}{X u c b h v:Xt}{q y:al}{res:RS}
theorem Rn{w e l Q E}(tk:lV g P)(p:Pr g r a N X)(i:VR g X.Z .obj w)(k:cG P .obj e X.O=aa (.eD l))
  (n:∀d o,sa X.S X.s.heap e (.ref d)->Q (.ref d) {X.s with toks:=o}):au g.M a.A (Ce w (strOf e) ae) Q E X.s:=by
 refine bg (EN k) λ s hv=>?_;refine Hu tk p i s hv λ x z tk fr Y hd=>?_;refine lE (fr.JC) λ d H t=>?_;rw[t.w]at hd⊢;exact n d tk hd
theorem sa.keep{S e i l x}(d:sa S e l x)(k:Kept e i):sa S i l x:=let⟨d,o,n,p,s,t⟩:=d;⟨d,o,n,p,k _ _ s,t⟩
theorem RR{z k l s}(p:Pr g r a N X)(x:aW q X h)(E:Pr g r a N h)(Q:h.O=aa z)(I:lk k z=aa (.eD l))(A:sa h.S h.s.heap k (.ref s)):
  ∃B,Kq g h.Z h.s.heap l (.ref s) (aa s) s B/\∀t D H tk,t.DictOf (uN g.prog g.w) s D->DR g h.Z H D->lI s h.s.heap t->
   aW ai X ⟨aa (put k (.eD H) z),h.Z,h.S,{h.s with heap:=t,toks:=tk}⟩/\Pr g r a N ⟨aa (put k (.eD H) z),h.Z,h.S,{h.s with heap:=t,toks:=tk}⟩:=by
 refine aB λ Y T=>?_;have sc:=E.p.sc;rw[Q]at sc;refine qI (sc) λ U C d J n cc sc=>?_;obtain⟨d0,V,n0,Z,L,z3⟩:=A;refine aG (sc.has k _ I) λ w M e2=>?_;refine lE (e2.JC) λ b' B i=>?_;simp only[aS (Z.symm.trans sc.s0),sc.dict]at L;have a0:J=V:=by
  have:=aD Obj.data (aS L);exact List.toArray_inj (Data.dict.inj this).1
 simp only[a0,z3]at M;have A:=Gl ((aS (aS M)).trans i.w);rw[<-A]at i;have bS:=(sc.cell k s i.o).1;refine T ?_;refine aL B ⟨rfl,rfl,i.d,i.ne,i.r,i.nd⟩ (λ t D H tk dd rr sb=>?_);have st:=Tb (o:=none) x E.wd bS sb (by intros;cbv);rw[show h.S++(none:ak aA).toList=h.S from bC _]at st;have O:aW ai X ⟨aa (put k (.eD H) z),h.Z,h.S,{h.s with heap:=t,toks:=tk}⟩:=⟨st,⟨x.sm.os,x.sm.gens⟩,(by intro hQ;cbv)⟩
 exact qh O (p.step O (Br U C d J n cc (sc.Ys I i dd rr λ a8 o ne e=>(sb.2 a8 ne).trans e)))
theorem UZ{i l n k Q}(t:bJ g r)(x:aW q X b)(z:Pr g r a N b)(p:pureE (ay a.sc.names i)=ae)(H:sa b.S b.s.heap l (.ref n))(A:aY N.V (r.E (ay a.sc.names i) N.V b.O) k=res)(B:res≠.stuck)
  (C:∀d w h,aW ai X h->Pr g r a N h->sa h.S h.s.heap l (.ref n)->VR g h.Z d w\/az d=ai->(∀s o,b.Z s=aa o->h.Z s=aa o)->k d h.O=res->Q w h.s):au g.M a.A (bM i a.env) Q (EX g r a res N X) b.s:=
 kO t (x.ss) z A B λ d w h e D E I=>by
  obtain⟨o,fr,_⟩:=E
  refine C d w h (x.trans e).no D ((e.pu p).1▸H.keep (e.pu p).2) ?_ e.st.zz I
  rcases hv:az d with _|_
  ·exact .inr rfl
  ·exact .inl (fr.vr hv)
theorem Sw{Z x w k}(d:VR g Z x w\/az x=ai)(e:x.cn=aa k):∃t,w=.int k t:=by
 rw[dY e]at d;exact(d.resolve_right (by intro i;cbv)).int_inv
theorem ay0{ob i ex A B M O pos}(tk:lV g P)(z:bJ g r)(p:Pr g r a N X)(Q:cy A=aa B)(T:qe ob=none)(U:ay a.sc.names ex≠.bad)
  (V:kS P r (.BC (.attr (ay a.sc.names ob) B) (ay a.sc.names i) (ay a.sc.names ex)) N.V X.O=res)(d:res≠.stuck):eY g r a ai res N X (dE (.Assign [.Subscript (.Attribute ob A M) i O] ex pos) a.env):=by
 rw[<-eC Q];refine wpAny_Assign_Subscript (kO z (.refl:bU a ae r.prm N X N X) p V d λ c7 w c C Z a0 x=>cf x d λ hv x=>?_) (yB U);refine aB λ Y n=>?_;obtain⟨o1,f1,_⟩:=a0;refine n ?_;refine LW (kO z C.ss Z x d λ v2 w2 b D E a8 x=>cf x d λ H x=>?_) (by simp only[LX,yy T]);refine aB λ Y n=>?_;obtain⟨o2,I,_⟩:=a8;revert H;refine aV λ H a9=>?_;revert H;refine aV λ b0=>gn λ b4 J hd=>?_;refine aI (fY hd) λ l0 hd=>?_;rw[nz hd]at J;rw[rj b0]at I;refine n ?_;refine Rn tk E (I.vr rfl) J λ c8 L hb=>?_;refine UZ z ((C.trans D).tk L) (E.tk L) a9 hb x d λ v3 w3 h x3 p3 b5 vr zz x=>bQ x d λ fs b6 x=>bQ x d λ k b7 x=>bQ x d λ l o x=>bQ x d λ l' hu x=>?_;refine aB λ Y n=>?_;revert o;refine av λ b4 o hd=>?_;rw[nz hd]at o;revert hu;refine bR λ b8 e=>?_;refine aI (Sw vr b7) λ t b9=>?_;clear vr;subst b9;refine aG (RR p x3 p3 b6 o b5) λ c9 s fin=>?_;refine n ?_;refine wpAny_setItem_pairs (k:=k) (by simp[cj6,LL]) s.d (λ h' dd sb=>?_) (by rw[<-s.r.len];have:=bE b8;simp[gh];exact aj (iA this) ⋯);refine aB λ Y n=>?_;obtain⟨x4,p4⟩:=fin h' _ l' _ dd (e▸s.r.put (((f1.vr hv).mono D.st.zz).mono zz) s.nd) sb;refine n ?_;exact tA x4 p4 (by intro hQ;cbv) x.symm
theorem al0{prog w A E K}[DecidableEq K]{i:KeyKind prog w K}{k key d x Q}(n:i.is k key=ae)(l:s.heap.DictOf i d x)(hv:(jD x k).isSome=ae)
  (o:x.length<=gh)(p:∀e,e.DictOf i d (sT x k)->lI d s.heap e->Q () {s with heap:=e,toks:=s.toks+1}):au (bG prog w) A (delItem (.ref d) key) Q E s:=by
 unfold delItem
 try with_reducible refine kf ?_
 refine aq (cd7 l.typeIs ⋯ ?_);refine aq (Wq l.typeIs cj7
  (call_meetsIn cj7 l.typeIs PySem.F.entry_dict_delitem (PySem.F.args_dict_delitem_2 _ _) (meets_dict_delitem_pairs i d n) ⟨x,l,o,hv,λ e t z=>?_⟩))
 exact aR (p e t z)
theorem ag7{ob i z}{H:Nm}{I J pos:ey}(tk:lV g P)(A:bJ g r)(p:Pr g r a N X)(L:cy z=aa H)(M:qe ob=none)
  (O:kS P r (.del (.attr (ay a.sc.names ob) H) (ay a.sc.names i)) N.V X.O=res)(d:res≠.stuck):eY g r a ai res N X (dE (.Delete [.Subscript (.Attribute ob z I) i J] pos) a.env):=by
 rw[<-eC L];refine wpAny_Delete (wpAny_deleteEach_cons (wpAny_delete_Subscript (LW (kO A (.refl:bU a ae r.prm N X N X) p O d λ v2 w2 b Q B T x=>cf x d λ n x=>?_) (by simp only[LX,yy M]))));refine aB λ Y s=>?_;obtain⟨o2,C,_⟩:=T;revert n;refine aV λ n U=>?_;revert n;refine aV λ V=>gn λ Z D hd=>?_;refine aI (fY hd) λ l0 hd=>?_;rw[nz hd]at D;rw[rj V]at C;refine s ?_;refine Rn tk B (C.vr rfl) D λ b0 E hb=>?_;refine UZ A (Q.tk E) (B.tk E) U hb x d λ v3 w3 h x3 p3 a0 vr zz x=>bQ x d λ fs a8 x=>bQ x d λ k a9 x=>bQ x d λ l w x=>bQ x d λ l' hu x=>?_;refine aB λ Y s=>?_;revert w;refine av λ Z w hd=>?_;rw[nz hd]at w;obtain⟨n,e⟩:=yb hu;obtain⟨t,rfl⟩:=Sw vr a9;refine aG (RR p x3 p3 a8 w a0) λ b4 o fin=>?_;refine s ?_;refine al0 (by simp[cj6,LL]) o.d ((UC o.r.len o.r.rel k).trans (aH n)) (by rw[<-o.r.len];have:=bE (aP n);simp[gh];exact aj (iA this) ⋯) λ h' dd sb=>?_;refine aB λ Y s=>?_;obtain⟨x4,p4⟩:=fin h' _ l' _ dd (e▸o.r.del o.nd) sb;refine s ?_;exact wpAny_deleteEach_nil (tA x4 p4 (by intro hQ;cbv) x.symm)
end
section
variable{g:G}{P:bW}{r:bh}{a:Act}{N J N1 N':Nt}{X X0 A I X3 H:Xt}{q q':al}{res:RS}{Z:Zf}{h:bu}{c:Nm->ak aA}
theorem by7{o os}:dz (o::os)=o.toList++dz os:=by obtain _|_:=o<;>rfl
structure pZ(g:G)(Z:Zf)(h:bu)(c:Nm->ak aA)(es:af IE)(vs:af IV)(us:af ao)(ys:af Nm)(os:af (ak aA)):Prop where
 ops:dU g Z h vs us os
 nd:ys.Nodup
 own:∀b∈dz os,∃y∈ys,c y=aa b
 at':∀y∈ys,∃(i:ah)(b:aA)(l:af IV),es[i]? =aa (.var y)/\vs[i]? =aa (.lst l)/\os[i]? =aa (aa b)/\c y=aa b
 JJ:(∀x y b,c x=aa b->c y=aa b->x=y)->(dz os).Nodup
theorem pZ.emp{i j us d os}(x:pZ g Z h c i j us d os)(e:d=[]):dz os=[]:=List.eq_nil_iff_forall_not_mem.mpr λ b k=>by
 refine aG (x.own b k) λ y f Y=>?_
 rw[e]at f;cases f
theorem pZ.no{d j us k os e v w o}(x:pZ g Z h c d j us k os)(f:FR g Z h v w o)(hv:az v=ae):pZ g Z h c (e::d) (v::j) (w::us) k (o::os):=by
 have e:dz (o::os)=dz os:=by rw[by7,f.Cy hv];rfl
 exact⟨.cons f x.ops,x.nd,e▸x.own,λ y m=>jY (x.at' y m) λ i b l k1 n p s=>(oy (i+1) b l k1 n p s),e▸x.JJ⟩
theorem pZ.yes{n o us d os y l w b}(x:pZ g Z h c n o us d os)(f:FR g Z h (.lst l) w (aa b))(j:c y=aa b)(p:y∉d):pZ g Z h c (.var y::n) (.lst l::o) (w::us) (y::d) (aa b::os):=by
 refine⟨.cons f x.ops,List.nodup_cons.mpr ⟨p,x.nd⟩,λ m t=>?_,λ z hz=>?_,λ s=>List.nodup_cons.mpr ⟨λ q=>?_,x.JJ s⟩⟩
 ·obtain e|q:=List.mem_cons.mp (t)
  ·exact aL y (.head _) (e▸j)
  ·refine aG (x.own m q) λ z hz k=>?_;exact aL z (.tail _ hz) k
 ·obtain e|hz:=List.mem_cons.mp hz
  ·exact oy 0 b l (aD (λ y=>aa (IE.var y)) e.symm) rfl rfl (e▸j)
  ·refine jY (x.at' z hz) λ i m u k1 v B C=>?_;exact oy (i+1) m u k1 v B C
 ·refine aG (x.own b q) λ z hz k=>?_;exact p (s y z b j k▸hz)
theorem Pb{e b v d f}(h:oS (e::b) (v::d)=aa f):(az v=ae/\oS b d=aa f)\/(az v=ai/\∃y l x,e=.var y/\v=.lst l/\oS b d=aa x/\y∉x/\f=y::x):=
 UH h (λ hv h=>.inl ⟨hv,h⟩) λ hv h=>by
  refine aB λ Y i=>?_
  revert h
  refine av λ y j=>av λ x k=>bR λ m e=>?_
  revert j
  refine av λ t n=>bR λ o p=>?_
  refine aI (RO o) λ l s=>?_
  refine i ?_
  exact .inr ⟨hv,y,l,x,(vl n).trans (aD _ p),s,k,(λ q=>by rw[List.contains_iff_mem.mpr q]at m;cbv),e.symm⟩
theorem ag0{j i us}(p:AR g c Z h j i us):∀d,oS j i=aa d->∃os,pZ g Z h c j i us d os:=
 AR.rec (λ d e=>by
  obtain⟨_,s⟩:=yb e
  refine s▸?_
  exact⟨[],.nil,.nil,(by intros;cbv),(by intros;cbv),λ Y=>.nil⟩) (λ{e v w l i C o} f t Y n d u=>by
  obtain⟨hv,m⟩|⟨hv,y,k,z,rfl,rfl,m,B,rfl⟩:=Pb u
  ·obtain⟨os,x⟩:=n d m
   exact vY (o::os) (x.no f hv)
  ·obtain⟨os,x⟩:=n z m
   obtain⟨b,rfl⟩:=f.CP hv
   (exact vY (aa b::os) (x.yes f (t b rfl y rfl) B))) p
structure NM(Vc:Loc)(es:af IE)(vs:af IV)(ps:af Nm)(ys:af Nm)(V V':Loc):Prop where
 no:∀y,y∉ys->lk y V'=lk y V
 at':∀(i:ah)(y p:Nm)(l:af IV)(u:IV),es[i]? =aa (.var y)->vs[i]? =aa (.lst l)->ps[i]? =aa p->lk p Vc=aa u->lk y V'=aa u
theorem B4{d:Loc}{f}:∀{j m n V},oS f j=aa n->f.length<=m.length->(∀(i:ah)(y p:Nm)(l:af IV),f[i]? =aa (.var y)->j[i]? =aa (.lst l)->m[i]? =aa p->(lk p d).isSome=ae)->
  NM d f j m n V (uC d f j m V):=by
 induction f with
 |nil=>exact λ e Y Y=>⟨λ Y Y=>rfl,λ Y Y Y Y Y h=>nomatch(List.getElem?_nil.symm.trans h)⟩
 |cons e f D=>
  intro j m n V Q T E;obtain _|⟨v,j⟩:=j
  ·cbv
  ·obtain _|⟨p,m⟩:=m
   ·cbv
   ·have L:∀(i:ah)(y p:Nm)(l:af IV),f[i]? =aa (.var y)->j[i]? =aa (.lst l)->m[i]? =aa p->(lk p d).isSome=ae:=λ i=>E (i+1);have M:=pN T;show NM d (e::f) (v::j) (p::m) n V (uC d f j m (uv d e v p V));obtain⟨hv,B⟩|⟨hv,y,k,a0,rfl,rfl,B,U,rfl⟩:=Pb Q
    ·have C:uv d e v p V=V:=by unfold uv;rw[hv];rfl
     rw[C];have x:=D (V:=V) B M L;refine⟨x.no,λ i y q l u o s t w=>?_⟩;obtain _|i:=i
     ·rw[aS s]at hv;cbv
     ·exact x.at' i y q l u o s t w
    ·obtain⟨u,O⟩:=fY (E 0 y p k rfl rfl rfl);have C:uv d (.var y) (.lst k) p V=put y u V:=by
      show bo ((lk p d).map λ u=>(y,u)) (λ b=>put b.1 b.2 V) V=_;rw[O];rfl
     rw[C];have x:=D (V:=put y u V) B M L;refine⟨λ z hz=>(x.no z λ q=>hz (.tail _ q)).trans (oV λ q=>hz (q▸.head _)),λ i z q l' u' o s t w=>?_⟩;obtain _|i:=i
     ·have e1:=IE.noConfusion (aS o) id;exact(e1)▸(x.no y U).symm▸(oQ).symm▸(O)▸((aS t)).symm▸(w).symm▸rfl
     ·exact x.at' i z q l' u' o s t w
theorem qB.out{Z e S d U h f}(x:qB Z e S d U h f){b}(i:b<h.objs.size)(n:b∉S):b∉d:=λ q=>(x.sn b q).elim n λ r=>Nat.not_lt.mpr r i
theorem qB.um{Z d S e U h f}(x:qB Z d S e U h f){b}(i:b<h.objs.size)(n:Z b=none):d b=none:=Option.eq_none_iff_forall_ne_some.mpr λ o q=>(x.zn b o q).elim (λ r=>(by cases(n.symm.trans r))) λ r=>Nat.not_lt.mpr r i
theorem qB.sstep{Z d S f U T h i L}(x:qB Z d S f U h i)(j:∀b∈U,b∈T):SStep Z d S f T T L h i:=
 ⟨x.zz,λ b o e=>(x.zn b o e).imp id .inl,λ b o k l Y e=>x.keep b o k (λ q=>l (j b q)) e,x.size,x.sn,λ b m=>.inl m,x.pre⟩
noncomputable abbrev Nt.loc(N:Nt)(x:Loc):Nt:={N with V:=x}
theorem Q7{U}{l:Loc}{i:af Nm}(p:Pr g r a N X)(x:qB X.Z H.Z X.S H.S U X.s.heap H.s.heap)(sc:gF g H.Z H.S H.s.heap H.O)(t:∀b∈U,∃y∈i,N.c y=aa b)(B:∀y∈i,∃b u,N.c y=aa b/\lk y l=aa u/\FR g H.Z H.s.heap u (.ref b) (aa b))(C:∀y,y∉i->lk y l=lk y N.V):
  Pr g r a (N.loc l) H:=by
 have D:∀{b},b∈U->b∈N.T:=λ j=>aG (t _ j) λ y Y k=>p.p.loc.cell y _ k;have loc:tS g H.Z H.S a.L N.T H.s.heap N.m l N.c:=by
  refine⟨λ y v e=>?_,p.p.loc.cell,λ y b e=>?_,λ b j=>pK (p.p.loc.free b j) λ L M O n=>(ky (x.out n L) (x.um n M) O (jc n x.size)),p.p.loc.inj⟩
  ·by_cases d:y∈i
   ·refine dC (B y d) λ b u k1 s Q=>?_;refine aI (fY (p.p.loc.qa y b k1)) λ T V=>?_;refine aG (p.p.loc.has y T V) λ w m f=>?_;rw[k1]at f;rw[f.cell (Z':=X.Z)]at m;simp only[<-aS (s.symm.trans e),k1];exact aL _ m Q
   ·rw[C y d]at e;refine aG (p.p.loc.has y v e) λ w m f=>?_;refine aL w m (f.map x.zz λ b E ob q=>x.keep b ob (p.p.loc.free b (p.p.loc.cell y b E)).1 (λ qU=>?_) q);refine aG (t b qU) λ z hz k=>?_;exact d (p.p.loc.inj y z b E k▸hz)
  ·by_cases d:y∈i
   ·refine dC (B y d) λ b' u Y s Y=>?_;rw[s];rfl
   ·rw[C y d];exact p.p.loc.qa y b e
 exact⟨p.ok,{F:=⟨kL (p.p.F.ns) λ o es ep ho r=>(mU o es ep (x.keep _ _ p.p.LS (λ q=>(p.p.loc.free _ (D q)).2.2.1 rfl) ho) r),λ b o e=>x.keep b o (λ q=>(nomatch(p.p.hS b q).symm.trans e)) (λ q=>(nomatch(p.p.hT b (D q)).symm.trans e)) (p.p.F.keep b o e),p.p.F.above⟩,wd:=x.wd,loc:=loc,sc:=sc,hS:=λ b j=>(x.sn b j).elim (p.p.hS b) λ q=>Option.eq_none_iff_forall_ne_some.mpr λ o e=>Nat.not_lt.mpr q (cq (p.p.F.keep b o e)),hT:=p.p.hT,LS:=x.out p.p.L p.p.LS,LZ:=x.um p.p.L p.p.LZ,kz:=λ b o e=>x.zz b o (p.p.kz b o e),hz:=p.p.hz.mono x.zz}⟩
theorem dU.at'{d us os}(x:dU g Z h d us os):∀{i:ah}{v},d[i]? =aa v->az v=ai->∃b,os[i]? =aa (aa b):=
 dU.rec (motive:=λ d Y os Y=>∀{i v},d[i]? =aa v->az v=ai->∃b,os[i]? =aa (aa b)) (λ h=>(by cbv)) (λ{v w o l b os} f Y j{i u} h hv=>by
  obtain _|i:=i
  ·rw[aS h]at f
   refine aI (f.CP hv) λ b e=>?_
   exact⟨b,aD aa e⟩
  ·exact j h hv) x
theorem ba9{x as b fn i V y v d O}{G:Prop}(f:zg r x as b fn i V y=res)(j:res≠.stuck)(e:y=.ok ((v,d),O))(k:fT r x v V=ae->R.ok (.next,put x v (uC d as b fn.params V),O)=res->G):G:=by
 rw[e]at f;exact cf f j k
theorem am6{x as i fn d V y b}{G:Prop}(f:zg r x as i fn d V y=res)(j:res≠.stuck)(e:y=.exc b)(k:d=[]->R.exc (b.1,V,b.2)=res->G):G:=by
 rw[e]at f;exact cf f j λ h=>k (gu h)
theorem U3{x as b fn d V y}(e:zg r x as b fn d V y=res)(f:res≠.stuck):y≠.stuck:=λ q=>f (by simp only[<-e,q];rfl)
theorem ak5{x n fn d f us s os y w B E}(p:Pr g r a N X)(C:aW ai X A)(t:Pr g r a N A)(Q:cy n=aa x)(T:a.sc.names.lookup n=aa .local)
  (D:d.length<=fn.params.length)(U:oS d f=aa s)(j:pZ g A.Z A.s.heap N.c d f us s os)(V:zg r x d f fn s N.V y=res)(hn:res≠.stuck)(h:CQ g fn y A os w B):
  au g.M a.A (Gp a.env n w) (λ Y s'=>fU g r a ai res N X .next s') E B:=by
 obtain⟨v,Vc,I,rfl,e2,L,sm,sc,m,o,fr,k⟩:=h;refine ba9 V hn e2 λ a0 hk=>?_;have UT:=λ b m=>aG (j.own b m) λ y Y k=>t.p.loc.cell y b k;have M:=B4 (V:=N.V) U D λ i y p l h1 h2 h3=>by
  refine aI (j.ops.at' h2 rfl) λ b a8=>?_;obtain⟨_,_,u,z,_⟩:=m i p b h3 a8;rw[z];rfl
 have p2:=Q7 t L sc j.own (λ y a9=>by
  refine jY (j.at' y a9) λ i b l k1 k2 k3 k4=>?_
  have O:=jc (List.getElem?_eq_some_iff.mp k1).1 D
  obtain⟨_,_,u,z,q2⟩:=m i _ b (sN O) k3
  (exact gm b u k4 (M.at' i y _ l u k1 k2 (sN O) z) q2)) M.no
 have x2:bU a ai r.prm N X (N.loc (uC Vc d f fn.params N.V)) I:=(C.ss).trans (q':=ai) ⟨L.sstep UT,sm,λ Y Y=>rfl,(by intro hQ;cbv)⟩;refine rC p2 Q T fr (λ b e=>?_) λ h' tk hs p'=>⟨.next,_,_,rfl,hk.symm,vK x2 hs (show∀y∈r.prm,(N.set x v w o).c y=N.c y from BI (prm:=r.prm) p fr a0) λ b e=>.inr (aj C.st.size (k b e).1),.next p'⟩
 have c:=PL (x:=x) t (k b e).1 (k b e).2.1 (k b e).2.2 (e▸fr);exact⟨c.S,c.Z,c.L,c.lt,c.jo,c.no⟩
theorem af1{x f o s fn t m Q T U pos}(tc:oZ g P)(hC:jj g r)(IH:bJ g r)(a0:∀V O,r.E .bad V O=.stuck)(p:Pr g r a N X)
  (a8:cy o=aa x)(hl:a.sc.names.lookup o=aa .local)(z:cy s=aa f)(a9:a.sc.names.lookup s=aa .globalImplicit)(B:gq t m=ae)(b0:P.fn f=aa fn)
  (hr:Cv r x fn (bV a.sc.names t) (ic a.sc.names m) N.V X.O=res)(i:res≠.stuck):eY g r a ai res N X (dE (.Assign [.Name o Q] (.Call (.Name s T) t m U) pos) a.env):=by
 revert hr;refine Hc i λ C u=>?_;refine dJ (tc.fn _ _ b0) λ fa D t2 t3=>?_;rw[eC z]at D;refine cj2 (vZ (xk p.p.F p.ok.K p.ok.T D (Ww (GL B) (zE t3) ?_) p.ok.kind a9 (lJ z))) rfl;have b4:=gu (aH C);clear b4;obtain _|⟨k,ks⟩:=m
 ·refine bI (Hi IH a0 (aH ((aH B))) (p.refl (q:=ae)) p DU (qH u i) λ vs us A E j ar d=>?_) (λ Y Y x=>x) λ e s' h=>dk.ex p (.refl:bU a ae r.prm N X N X) u h;refine⟨p.ok.K.keeps j.p.F.keep,bQ (sD u d.symm) i λ ys L d=>?_⟩;have ns:=U3 d i;have M:=hC.resolve_left λ e=>ns (by rw[e];rfl);refine aI (ag0 ar ys L) λ os l=>?_;refine Bf.wp (M.2 r a N A fn fa vs us os [] [] _ j (ca _) M.1 t2 ⟨l.ops,(λ b hb=>aG (l.own b hb) λ y Y k=>j.p.loc.cell y b k),l.JJ j.p.loc.inj,.nil⟩ rfl ns _ (.refl _)) (λ w s2 h=>ak5 p E j a8 hl (bE (aP C)) L l d i h) λ e s2 v O2 e2 xp=>am6 d i e2 λ b5 d=>?_;exact(EX.of j d.symm (xp (l.emp b5))).pre E.ss
 ·obtain⟨n,e,kp⟩:=k;cbv
end
theorem HQ{M d p t f s c e}(h:Runs M d p t f s e c):s.heap.objs.size<=c.heap.objs.size:=by
 induction h with
 |update _ _ b=>exact aj (cx (oU _ _ _).symm) b
 |alloc _ b=>refine aj ?_ b;rw[qW];exact jF _
 |call _ _ x a=>exact aj x a
 |resumeFresh _ _ _ _ x a=>exact aj x a
 |resumeSuspended _ _ _ _ x a=>exact aj x a
 |segRet _ _ x a=>exact aj x a
 |segGen _ _ x a=>exact aj x a
 |segSuspGen _ _ _ _ x a=>exact aj x a
 |_=>first|exact ca _|assumption
theorem F7{M b p n r s a res}(h:Wakes M b p n r s res a):s.heap.objs.size<=a.heap.objs.size:=by
 unfold Wakes at h;split at h
 ·exact h.elim
 ·split at h
  ·refine og (h) λ c d x Y Y e=>e▸?_;have:=HQ x;exact this
  ·exact(h.2).symm▸ca _
  ·exact(h.2).symm▸ca _
 ·refine og (h) λ c d x Y Y f=>f▸?_;have:=HQ x;exact this
 ·exact(h.2).symm▸ca _
 ·exact(h.2).symm▸ca _
theorem at6{v M w}:∀(t:mP v)(Q:v->ey->aZ->Prop)(E:ao->ey->aZ->Prop)(p:ey)(s:aZ)(n:ah),n<=s.heap.objs.size->Sem.wp M w t Q E p s->
  Sem.wp M w t (λ a u d=>n<=d.heap.objs.size/\Q a u d) (λ e u d=>n<=d.heap.objs.size/\E e u d) p s:=by
 intro t;induction t with
 |pure a=>intro Q E p s n x h;exact qh x h
 |«raise» e=>intro Q E p s n x h;exact qh x h
 |load a part k b=>intro Q E p s n x h;obtain⟨o,i,j⟩:=h;exact aL o i (b o _ _ _ _ n x j)
 |update a part f k b=>intro Q E p s n x h;exact qh h.1 (b () _ _ _ _ n (by rw[oU];exact x) h.2)
 |alloc o k b=>intro Q E p s n x h;exact b _ _ _ _ _ n (by rw[qW];exact xv x) h
 |choose y m k b=>intro Q E p s n x h;exact qh h.1 (b _ _ _ _ _ n x h.2)
 |call c hd g l k b=>
  intro Q E p s n x h;refine cu (h) λ r d i j=>?_;exact gR r d i (b _ _ _ _ _ n (aj x (HQ i)) j)
 |genState g k b=>intro Q E p s n x h;obtain⟨st,i,j⟩:=h;exact aL st i (b _ _ _ _ _ n x j)
 |resume g r l k b=>intro Q E p s n x h;obtain⟨res,d,i,j⟩:=h;exact gR res d i (b _ _ _ _ _ n (aj x (F7 i)) j)
 |rule z k b=>intro Q E p s n x h;exact b _ _ _ _ _ n x h
 |«at» u k b=>intro Q E p s n x h;exact b _ _ _ _ _ n x h
 |loadIfAlive a k b=>intro Q E p s n x h;exact b _ _ _ _ _ n x h
 |point l k b=>intro Q E p s n x h;exact b _ _ _ _ _ n x h
 |fresh k b=>intro Q E p s n x h;exact b _ _ _ _ _ n x h
 |ask k b=>intro Q E p s n x h;exact b _ _ _ _ _ n x h
 |os q l k b=>intro Q E p s n x h;exact b _ _ _ _ _ n x h
 |handled own k b=>intro Q E p s n x h;exact b _ _ _ _ _ n x h
 |newGen c k b=>intro Q E p s n x h;exact b _ _ _ _ _ n x h
 |stack k b=>intro Q E p s n x h;exact b _ _ _ _ _ n x h
 |thread k b=>intro Q E p s n x h;exact b _ _ _ _ _ n x h
 |_=>intro Q E p s n x h;exact h.elim
theorem AZ{a M A t}{Q:a->aZ->Prop}{E s}(h:au M A t Q E s):
 au M A t (λ v x=>s.heap.objs.size<=x.heap.objs.size/\Q v x) (λ e x=>s.heap.objs.size<=x.heap.objs.size/\E e x) s:=λ b p c=>at6 t _ _ p s _ (ca _) (h b p c)
section
variable{g:G}{P:bW}{r:bh}{a:Act}{N I N1 H:Nt}{X J U X2 X3 X':Xt}{q q':al}{res:RS}{Z:Zf}{h:bu}{c:Nm->ak aA}{s:aZ}
theorem wF{sc b x}(h:nw sc b=aa x):cy b=aa x/\sc.lookup b=aa .local:=fJ h (λ d h=>⟨h,d⟩) λ Y q=>(by cbv)
theorem Pm{sc t x}(h:IK sc t=aa x):∃b d,t=.Name b d/\cy b=aa x/\sc.lookup b=aa .local:=by
 refine aB λ Y f=>?_;refine iD h λ b i h=>?_;refine aI (oP i) λ d e=>?_;refine f ?_;exact gR b d e (wF h)
theorem QV{sc t d f}(h:qm sc (t::d)=aa f):∃x b,f=x::b/\IK sc t=aa x/\qm sc d=aa b:=by
 refine aB λ Y i=>?_;revert h;refine av λ x j=>dQ λ b k e=>?_;refine i ?_;exact gm x b e.symm j k
structure UG(N:Nt)(xs:af Nm)(l:af IV)(H:Nt):Prop where
 V:H.V=putAll (xs.zip l) N.V
 T:H.T=N.T
 c:∀y,H.c y=if y∈xs then none else N.c y
theorem bg6{E Q i}:∀{d l b N X},qm a.sc.names i=aa d->d.length=l.length->bD g X.Z l b->Pr g r a N X->
  (∀H e tk,UG N d l H->lI a.L X.s.heap e->Pr g r a H (X.hp e tk)->Q () (X.hp e tk).s)->au g.M a.A (cj8 ((Gq i a.env).map (·.2)) b) Q E X.s:=by
 induction i with
 |nil=>
  intro d l b N X j k vr p f;rw[<-aS j]at k f;rw[(List.eq_nil_of_length_eq_zero k.symm)]at vr f;exact cj9 (f N X.s.heap X.s.toks ⟨rfl,rfl,λ Y=>rfl⟩ (.refl _ _) p)
 |cons t i B=>
  intro d l b N X j k vr p f;refine dC (QV j) λ x u C z D=>?_;clear j;subst C;refine dC (Pm z) λ xn pn L M O=>?_;refine L▸?_;obtain _|⟨v,l⟩:=l
  ·cbv
  ·obtain _|⟨w,b⟩:=b
   ·exact(by cases(vr.1))
   ·have A:=vr.2 0 v w rfl rfl;refine WQ (ck0 (rC p M O (.val A.az A) (by intros;cbv) λ z a8 T V=>?_));refine B D (Lu k) (vr.drop 1) V λ H e tk o a0 p'=>f H e tk ⟨o.V,o.T.trans (bC _),λ y=>?_⟩ (T.trans a0) p';rw[o.c y];show(if y∈u then none else if y=x then none else N.c y)=_;by_cases m:y∈u
    ·rw[aT m,aT (.tail _ m)]
    ·rw[aM m];by_cases n:y=x
     ·rw[aT n,aT (n▸.head _)]
     ·rw[aM n,aM λ q=>(List.mem_cons.mp q).elim n m]
theorem bz3{b env}:∀{d},qm a.sc.names b=aa d->(Gq b env).length=d.length/\(Gq b env).findIdx? (·.1)=none:=by
 induction b with
 |nil=>exact λ h=>aS h▸⟨rfl,rfl⟩
 |cons t b j=>
  intro d k;refine dC (QV k) λ x v l m n=>?_;refine l▸?_;refine dC (Pm m) λ f i o Y Y=>?_;refine o▸?_;refine bg (j n) λ p u=>?_;have e:Gq (.Name f i::b) env=(ai,Gr (.Name f i) env)::Gq b env:=rfl;exact(e).symm▸⟨aD (·+1) p,by simp[List.findIdx?_cons,u]⟩
theorem Rd{W l w}(wd:Wd Z W h)(vr:VR g Z (.tup l) w):∃t x,w=.ref t/\h.IsTuple t x.toArray/\bD g Z l x:=
 eh (vr.uc) λ b x n e d f=>(gm b x e ⟨_,wd.zh _ _ d,rfl,_,rfl⟩ f)
structure IL(r:bh)(a:Act)(N:Nt)(X:Xt)(V2:Loc)(H:Nt)(h':bu):Prop where
 V:H.V=V2
 T:H.T=N.T
 c:∀x∈r.prm,H.c x=N.c x
 kp:Dz a.L X.s.heap h'
 sz:X.s.heap.objs.size<=h'.objs.size
theorem IL.ss{k d tk}(w:IL r a N X k H d)(x:bU a q r.prm I J N X):bU a q r.prm I J H (X.hp d tk):=
 ⟨{x.st with keep:=λ b o l m f e=>w.kp b o f (x.st.keep b o l m f e),size:=aj x.st.size w.sz,tn:=(w.T).symm▸x.st.tn},⟨x.sm.os,x.sm.gens⟩,λ y i=>(w.c y i).trans (x.cc y i),λ e=>⟨(x.pu e).1,λ b o j n=>w.kp b o j ((x.pu e).2 b o j n)⟩⟩
theorem ax9{j f k z l}{Q:Unit->aZ->Prop}{E}(A:a.A.handled=none)(p:Pr g r a N X)(m:qm a.sc.names j=aa f)(n:f.length=l.length){t i}(B:X.s.heap.IsTuple t i.toArray)(vr:bD g X.Z l i)
  (C:∀H d tk,UG N f l H->Dz a.L X.s.heap d->X.s.heap.objs.size<=d.objs.size->Pr g r a H (X.hp d tk)->Q () (X.hp d tk).s):au g.M a.A (Gr (.Tuple j k z) a.env (.ref t)) Q E X.s:=by
 refine bg (bz3 (env:=a.env) m) λ D L=>?_;refine aq (oI ?_);unfold unpack;simp only[D,L,show f.length=i.toArray.size by simp only[oG,<-vr.1,n]];refine aq (kf (bI (AZ (Q:=λ u M=>u=i/\∃d,M={X.s with heap:=d}/\Kept X.s.heap d) (wpAny_unpackItems_tuple A B λ d O=>⟨rfl,d,rfl,λ b o e=>O b o (lH (cq e)) e⟩)) (λ u s1 h=>?_) λ Y Y h=>h.2));obtain⟨v,rfl,d,rfl,kp⟩:=h;have x:aW ae X (X.hp d X.s.toks):=⟨.grow p.wd kp v,.refl,λ Y=>⟨rfl,kp⟩⟩
 exact bg6 (X:=X.hp d X.s.toks) m n vr (p.step x (p.p.sc.step (λ Y Y e=>e) kp λ Y Y Y Y e=>e)) λ H T tk w y V=>C H T tk w (λ b o nb e=>(y.2 b nb).trans (kp b o e)) (y.1▸v) V
noncomputable def Itm(g:G)(Z:Zf)(h:bu)(b:af Nm)(v:IV)(u:ao):Prop:=VR g Z v u\/(2<=b.length/\∃l t x,v=.tup l/\u=.ref t/\h.IsTuple t x.toArray/\bD g Z l x)
theorem Itm.tup{W d l u}(wd:Wd Z W h)(i:Itm g Z h d (.tup l) u):∃t x,u=.ref t/\h.IsTuple t x.toArray/\bD g Z l x:=by
 refine aB λ Y b=>?_;obtain i|⟨_,f,t,x,q,i⟩:=i
 ·refine b ?_;exact Rd wd i
 ·refine b ?_;exact IV.noConfusion q λ e=>(jT t x (e▸i))
theorem Itm.mono{x d v u}(zz:∀b o,Z b=aa o->x b=aa o)(i:Itm g Z h d v u):Itm g x h d v u:=
 i.imp (λ i=>i.mono zz) λ⟨q,l,t,e,f,j,k,m⟩=>⟨q,l,t,e,f,j,k,m.mono zz⟩
theorem yz{e l}(h:nP e=aa l):∃k p,e=.Tuple l k p:=aI (fM h) λ q h=>@Lw (λ e=>∀q,(Lw e q λ l Y Y=>l)=l->∃k p,e=.Tuple l k p) e q (λ l k p q h=>h▸(jT k p rfl)) q h
theorem Tf{b v V d}(h:jz r b v V=aa d):xZ r b V=ae/\((∃x,b=[x]/\az v=ae/\put x v V=d)\/(2<=b.length/\∃l,v=.tup l/\b.length=l.length/\putAll (b.zip l) V=d)):=
 fJ h (λ i h=>⟨i,dW (G:=λ z=>z=aa d->_) (λ x j h=>bg (yb h) λ k e=>.inl (ec x (iF j) k e)) (λ Y h=>by
  revert h
  refine av λ l m=>bR λ f e=>?_
  exact .inr ⟨bE (aH ((aH f))),l,qt m,bE (aP ((aH f))),e⟩) h⟩) λ Y q=>(by cbv)
theorem Oi{b}(p:Pr g r a N X)(d:xZ r b N.V=ae){x}(e:x∈b)(hp:x∈r.prm):N.c x=none:=by
 have:=List.all_eq_true.mp d x e;simp only[fT,List.contains_iff_mem.mpr hp]at this;exact SO p (ej (show(az IV.none&&(lk x N.V).all az)=ae from this)).2
theorem Om{n m v u O Q E}(V:a.A.handled=none)(p:Pr g r a N X)(d:jw a.sc.names n=aa m)(j:jz r m v N.V=aa O)(vr:Itm g X.Z X.s.heap m v u)
  (A:∀H f tk,IL r a N X O H f->Pr g r a H (X.hp f tk)->Q () (X.hp f tk).s):au g.M a.A (Gr n a.env u) Q E X.s:=by
 refine bg (Tf j) ?_;clear j;intro B j;refine dW (G:=λ z=>z=aa m->au g.M a.A (Gr n a.env u) Q E X.s) (λ xn hx d=>?_) (λ Y d=>?_) d
 ·revert d;refine dQ λ x C e=>?_;refine aI (oP hx) λ pn a0=>a0▸?_;refine bg (wF C) λ hn a8=>?_;rw[<-e]at j B vr;obtain⟨x',ex,hv,rfl⟩|⟨D,_⟩:=j
  ·rw[<-(kE ex).1]at A;refine ck0 (rC p hn a8 (.val hv (vr.resolve_right λ q=>absurd q.1 (Nat.not_le.mpr (sQ 1)))) (by intros;cbv) λ f tk T L=>A _ f tk ⟨rfl,bC _,λ y M=>?_,λ b o nb e=>(T.2 b nb).trans e,cx T.1.symm⟩ L);show(if y=x then none else N.c y)=N.c y;by_cases i:y=x
   ·exact(aT i).symm▸(Oi p B (i▸.head _) M).symm▸rfl
   ·exact aM i
  ·exact absurd D (Nat.not_le.mpr (sQ 1))
 ·revert d;refine av λ ts C=>av λ a9 D=>bR λ h3 b0=>?_;subst b0;refine lE (yz C) λ k pt b4=>b4▸?_;obtain⟨x',rfl,_⟩|⟨_,l,rfl,b5,rfl⟩:=j
  ·cbv
  ·refine dC (vr.tup p.wd) ?_;clear d;intro t ws b6 d vs;refine b6▸?_;refine ax9 V p D b5 d vs λ H f tk w kp b7 L=>A H f tk ⟨w.V,w.T,λ y M=>?_,kp,b7⟩ L;rw[w.c y];by_cases i:y∈a9
   ·exact(aT i).symm▸(Oi p B i M).symm▸rfl
   ·exact aM i
theorem aw2{d x ex k j pos}(n:bJ g r)(p:Pr g r a N X)(o:qm a.sc.names d=aa x)(t:ay a.sc.names ex≠.bad)(u:Gs [.Tuple d k j] ex a.env=fO none)
  (i:kS P r (.lT x (ay a.sc.names ex)) N.V X.O=res)(f:res≠.stuck):eY g r a ai res N X (dE (.Assign [.Tuple d k j] ex pos) a.env):=by
 refine cf i f λ y i=>?_;refine wpAny_Assign_stores (kO n (.refl:bU a ae r.prm N X N X) p i f λ v w U z A B b=>cf b f λ C b=>bQ b f λ M m b=>?_) (by unfold WR;exact yB t) u;obtain⟨o1,D,_⟩:=B;have hv:az v=ae:=by
  obtain⟨_,_,h,_⟩|⟨_,l,e,_⟩:=(Tf m).2
  ·exact h
  ·rw[e];rfl
 refine Om (p.ok.hand ((mm _).mp y)) A ?_ m (.inl (D.vr hv)) λ H E tk w L=>⟨.next,H,U.hp E tk,rfl,by exact(w.V).symm▸b.symm,w.ss z.no.ss,.next L⟩
 show(qm a.sc.names d).bind _=aa x;rw[o];show aE (decide (2<=x.length)) x=aa x;rw[C];rfl
theorem Sz{prog w A R i j body env}
  (turn:au (bG prog w) A (WS j) (λ m n=>match m with
   |none=>R (.ok .next) n
   |some v=>au (bG prog w) A (My i j v) (λ Y o=>au (bG prog w) A (Gr i env v) (λ Y p=>au (bG prog w) A (qR body env) (λ f k=>match f with
    |.next|.cont=>gy (bG prog w) A (.forLoop i j body [] env) R k
    |.brk=>R (.ok .next) k
    |.ret v=>R (.ok (.ret v)) k) (uP (bG prog w) A env λ e b=>R (.error e) b) p) (uP (bG prog w) A env λ e b=>R (.error e) b) o) (uP (bG prog w) A env λ e b=>R (.error e) b) n)
   (uP (bG prog w) A env λ e b=>R (.error e) b) s):gy (bG prog w) A (.forLoop i j body [] env) R s:=by
 refine WO ?_
 show au _ A ((forTurn i j body [] env).onRaise (λ x=>do BZ x env;ci9 x)) _ _ s
 refine cj0 ?_
 refine aq (oI (aq (WL (bI turn (λ m n t=>?_) λ Y Y d=>oI d))))
 obtain _|v:=m
 ·exact aR ⟨rfl,codeAny_block (Gk t)⟩
 ·refine aq (bI t (λ Y o u=>?_) λ Y Y d=>d)
  refine aq (bI u (λ Y p y=>aq (bI y (λ f k l=>?_) λ Y Y d=>d)) λ Y Y d=>d)
  obtain _|_|_|v:=f
  ·exact aR ⟨rfl,l⟩
  ·exact aR l
  ·exact aR ⟨rfl,l⟩
  ·exact aR l
end
section
variable{g:G}{P:bW}{r:bh}{a:Act}{N A J U:Nt}{X H I X2 T X':Xt}{q q':al}{res:RS}{Z:Zf}{h:bu}{c:Nm->ak aA}{s:aZ}
structure yO(a:Act)(N:Nt)(X:Xt)(x:aA):Prop where
 s:x∉X.S
 t:x∉N.T
 l:x≠a.L
 z:X.Z x=none
 o:a.jo.get? x=none
 lt:x<X.s.heap.objs.size
theorem yO.next{prm b}(x:yO a N X b)(y:bU a q prm N X J I):yO a J I b:=
 ⟨λ q=>(y.st.sn b q).elim x.s λ q=>Nat.not_lt.mpr q x.lt,λ q=>(y.st.tn b q).elim x.t λ q=>Nat.not_lt.mpr q x.lt,x.l,Option.eq_none_iff_forall_ne_some.mpr λ o q=>(y.st.zn b o q).elim (λ q=>(by cases(x.z.symm.trans q))) λ q=>q.elim (λ q=>Nat.not_lt.mpr q x.lt) x.t,x.o,jc x.lt y.st.size⟩
noncomputable abbrev yl(x:af aA)(h d:bu):Prop:=∀b o,b∉x->h.get? b=aa o->d.get? b=aa o
theorem TJ{l d tk}(p:Pr g r a N X)(x:∀b∈l,yO a N X b)(k:yl l X.s.heap d)(i:X.s.heap.objs.size<=d.objs.size):Pr g r a N (X.hp d tk):=
 ⟨p.ok,{F:=⟨kL (p.p.F.ns) λ o m n t r=>(mU o m n (k _ _ (λ q=>(x _ q).l rfl) t) r),λ b o e=>k b o (λ q=>(nomatch(x b q).o.symm.trans e)) (p.p.F.keep b o e),p.p.F.above⟩,wd:=⟨λ b o e=>k b o (λ q=>(nomatch(x b q).z.symm.trans e)) (p.zh e),p.wd.wz,λ b e=>jc (p.wd.ww b e) i,jc p.wd.big i⟩,loc:=⟨λ y v e=>aG (p.p.loc.has y v e) λ w u f=>(aL w u (f.map (λ Y Y e=>e) λ b z ob q=>k b ob (λ B=>(x b B).t (p.p.loc.cell y b z)) q)),p.p.loc.cell,p.p.loc.qa,λ b j=>pK (p.p.loc.free b j) λ C D E L=>(ky C D E (jc L i)),p.p.loc.inj⟩,sc:=p.p.sc.wU (λ Y Y e=>e) (λ b j o e=>k b o (λ q=>(x b q).s j) e) λ Y Y Y Y e=>e,hS:=p.p.hS,hT:=p.p.hT,LS:=p.p.LS,LZ:=p.p.LZ,kz:=p.p.kz,hz:=p.p.hz}⟩
theorem Oo{prm}{f:af aA}{b tk}(x:bU a q prm A H N X)(i:∀d∈f,H.s.heap.objs.size<=d)(k:yl f X.s.heap b)(j:X.s.heap.objs.size<=b.objs.size):bU a ai prm A H N (X.hp b tk):=
 ⟨{x.st with keep:=λ y o l m n e=>k y o (λ q=>Nat.not_lt.mpr (i y q) (cq e)) (x.st.keep y o l m n e),size:=aj x.st.size j},⟨x.sm.os,x.sm.gens⟩,x.cc,(by intro p;cbv)⟩
section
variable{target:bA}{xs:af Nm}{a0:aA}{fp wr:af aA}{n:ah}{Pv Md:ah->ao->bu->Prop}{Sj:ah->bu->Prop}{items:af IV}{pb:al}
structure mM(g:G)(a:Act)(target:bA)(xs:af Nm)(a0:aA)(fp wr:af aA)(n:ah)(Pv Md:ah->ao->bu->Prop)(St:ah->bu->Prop)(items:af IV)(pb:al)(N:Nt)(X:Xt):Prop where
 k:KTurns g.prog g.w a.A target a0 fp wr n Pv Md St
 len:items.length=n
 rK:∀b∈wr,yO a N X b
 zi:∀d∈fp,d∉wr->d<X.s.heap.objs.size/\d≠a.L/\(pb=ae\/(d∉X.S/\d∉N.T))
 hv:∀(i:ah) u v h,Pv i u h->items[i]? =aa v->Itm g X.Z h xs v u
noncomputable def jI(g:G)(r:bh):Prop:=∀a,r.quiet=ai->∀target xs b,jw a.sc.names target=aa xs->∀a0 fp wr n Pv Md St(items:af IV)(j:ah),j<=n->
 ∀A H N X res,mM g a target xs a0 fp wr n Pv Md St items (jL (bZ a.sc.names b)) N X->Pr g r a N X->bU a ai r.prm A H N X->(∀d∈wr,H.s.heap.objs.size<=d)->St j X.s.heap->
 r.F xs (items.drop j) (bZ a.sc.names b) N.V X.O=res->res≠.stuck->gy g.M a.A (.forLoop target (.ref a0) b [] a.env) (mq g r a res A H) X.s
theorem mM.grow{x tk}(t:mM g a target xs a0 fp wr n Pv Md Sj items pb N X)(e:X.s.heap.objs.size<=x.objs.size):mM g a target xs a0 fp wr n Pv Md Sj items pb N (X.hp x tk):=
 ⟨t.k,t.len,λ b f=>{t.rK b f with lt:=jc (t.rK b f).lt e},λ d i j=>⟨jc (t.zi d i j).1 e,(t.zi d i j).2⟩,t.hv⟩
theorem mM.next{prm}(t:mM g a target xs a0 fp wr n Pv Md Sj items pb N X)(y:bU a q prm N X J I):mM g a target xs a0 fp wr n Pv Md Sj items pb J I:=
 ⟨t.k,t.len,λ b f=>(t.rK b f).next y,λ d d1 d2=>lg (t.zi d d1 d2) λ e j x=>(dB (jc e y.st.size) j (x.imp id λ x=>⟨λ q=>(y.st.sn d q).elim x.1 λ q=>Nat.not_lt.mpr q e,λ q=>(y.st.tn d q).elim x.2 λ q=>Nat.not_lt.mpr q e⟩)),λ i u v h p q=>(t.hv i u v h p q).mono y.st.zz⟩
theorem mM.st{prm j}(t:mM g a target xs a0 fp wr n Pv Md Sj items pb N X)(b:Sj j X.s.heap)(y:bU a pb prm N X J I):Sj j I.s.heap:=
 t.k.frame _ _ _ b λ d hd o e=>by
  by_cases x:d∈wr
  ·have l:=t.rK d x;exact y.st.keep d o l.s l.t l.l e
  ·refine lg (t.zi d hd x) λ Y d2 d3=>?_
   exact d3.elim (λ d3=>(y.pu d3).2 d o d2 e) λ d3=>y.st.keep d o d3.1 d3.2 d2 e
theorem mM.names{x b j}(t:mM g a target xs a0 fp wr n Pv Md Sj items pb N X)(i:Sj j x)(k:Dz a.L x b):Sj j b:=
 t.k.frame _ _ _ i λ d hd o e=>k d o (by
  by_cases f:d∈wr
  ·exact(t.rK d f).l
  ·exact(t.zi d hd f).2.1) e
theorem mM.take{j}{R:ao->aZ->Prop}{E C k}(t:mM g a target xs a0 fp wr n Pv Md Sj items pb N X)(D:j<n)(L:Sj j X.s.heap)
  (M:∀u f,au g.M a.A (My target (.ref a0) u) (λ Y=>R u) C f->k (aa u) f)
  (O:∀u x tk,Pv j u x->Sj (j+1) x->X.s.heap.objs.size<=x.objs.size->yl wr X.s.heap x->R u (X.hp x tk).s):
  au g.M a.A (WS (.ref a0)) k E X.s:=by
 refine bI (AZ (E:=λ Y Y=>xA) (t.k.item j X.s (λ y f=>∃u x tk,y=aa u/\f=(X.hp x tk).s/\Md j u x/\yl wr X.s.heap x) _ D L λ v x tk i d=>(oy v x tk rfl rfl i d))) (λ y f h=>?_) λ Y Y h=>h.2.elim;obtain⟨Q,u,i,l,rfl,rfl,V,k1⟩:=h;refine M u _ (bI (AZ (E:=λ Y Y=>xA) (t.k.go j u (X.hp i l).s (λ Y z=>∃d,z=(X.hp d l).s/\Pv j u d/\Sj (j+1) d/\yl wr i d) _ V λ x m p w=>(by exact nN x rfl m p w))) (λ Y z h=>?_) λ Y Y h=>h.2.elim);obtain⟨a8,d,rfl,m,p,w⟩:=h;exact O u d l m p (aj Q a8) λ b o B e=>w b o B (k1 b o B e)
theorem an7(IB:lW g r)(IF:jI g r){hB:af IS->Loc->St->RS}:jI g (jv P r hB):=by
 intro a hq target xs b M a0 fp wr n Pv Md Sj items j hj A H N X res x p' x0 z O i B;have p:=p'.nx;have Q:r.quiet=ai:=hq;refine pW (R:=mq g r a res A H) ?_ λ rs s' h=>h.un;by_cases m:j<n
 ·have a9:j<items.length:=by rw[x.len];exact m
  rw[ck1 a9]at i;refine bQ i B λ V2 hu i=>?_;refine Sz (x.take m O (λ u V h=>h) λ u h1 b6 hP b5 k o=>?_);refine Om (p.ok.hand Q) (TJ p x.rK o k) M hu (x.hv j u _ _ hP (sN a9)) λ N2 h2 a8 w p2=>?_;have x2:bU a ai r.prm A H N2 (X.hp h2 a8):=w.ss (Oo x0 z o k);have C:mM g a target xs a0 fp wr n Pv Md Sj items (jL (bZ a.sc.names b)) N2 (X.hp h2 a8):=
   let t:=x.grow (aj k w.sz);⟨t.k,t.len,λ b hb=>{t.rK b hb with t:=by rw[w.T];exact(t.rK b hb).t},λ d d1 d2=>by rw[w.T];exact t.zi d d1 d2,t.hv⟩
  have b0:=x.names b5 w.kp;rw[<-w.V]at i;refine bI (IB a N2 (X.hp h2 a8) b _ p2 rfl (PQ i B)) (λ fl s3 h=>?_) λ e s3 h=>JT p.ok ((h.to λ e q=>Pu i q).pre x2);obtain⟨f,D,T,rfl,e3,v,en⟩:=h;have E:=NA i e3;have L:=x2.trans v;cases en with
  |next y=>exact IF a Q target xs b M a0 fp wr n Pv Md Sj items (j+1) m A H D T res (C.next v) y L.no z (C.st b0 v) E B
  |cont y=>exact IF a Q target xs b M a0 fp wr n Pv Md Sj items (j+1) m A H D T res (C.next v) y L.no z (C.st b0 v) E B
  |brk y=>exact⟨.next,D,T,rfl,E.symm,L.no,.next y⟩
  |ret rp=>exact⟨_,D,T,rfl,E.symm,L.no,.ret (rp.pre x2)⟩
 ·have b4:=Nat.le_antisymm hj (Wx m);rw[b4,List.drop_eq_nil_of_le (cx x.len)]at i;rw[b4]at O;refine Sz (bI (AZ (E:=λ Y Y=>xA) (x.k.done X.s (λ rv V=>∃l tk,rv=none/\V=(X.hp l tk).s/\yl wr X.s.heap l) _ O λ l tk h3=>(gm l tk rfl rfl h3))) (λ rv V h=>?_) λ Y Y h=>h.2.elim);obtain⟨k,l,tk,rfl,rfl,o⟩:=h;exact⟨.next,N,X.hp l tk,rfl,i.symm,Oo x0 z o k,.next (TJ p x.rK o k)⟩
theorem Pr.more{s2}(p:Pr g r a N X)(sm:Sm X.s s2)(b:Kept X.s.heap s2.heap)(d:X.s.heap.objs.size<=s2.heap.objs.size):aW ae X {X with s:=s2}/\Pr g r a N {X with s:=s2}:=
 have x:=⟨.grow p.wd b d,sm,λ Y=>⟨rfl,b⟩⟩
 ⟨x,p.step x (p.p.sc.step (λ Y Y e=>e) b λ Y Y Y Y e=>e)⟩
theorem Pr.am2{d}{b:aA}(p:Pr g r a N X)(x:X.s.heap.objs.size<=b)(e:b<d.heap.objs.size):yO a N {X with s:=d} b:=
 ⟨λ q=>Nat.not_lt.mpr x (p.wd.ww _ q),λ q=>Nat.not_lt.mpr x (p.p.loc.free _ q).2.2.2,λ q=>Nat.not_lt.mpr x (q▸p.p.L),Option.eq_none_iff_forall_ne_some.mpr λ o q=>Nat.not_lt.mpr x (cq (p.zh q)),Option.eq_none_iff_forall_ne_some.mpr λ o q=>Nat.not_lt.mpr x (cq (p.p.F.keep _ _ q)),e⟩
theorem Qf{b}(k:jI g r)(l:r.quiet=ai)(m:jw a.sc.names target=aa xs)(p:Pr g r a N X)(K:KTurns g.prog g.w a.A target a0 fp wr n Pv Md Sj)(o:items.length=n){e}(sm:Sm X.s e)(t:Kept X.s.heap e.heap)(w:X.s.heap.objs.size<=e.heap.objs.size)
  (f:∀d∈wr,X.s.heap.objs.size<=d/\d<e.heap.objs.size)(y:Sj 0 e.heap)(z:∀d∈fp,d∉wr->d<e.heap.objs.size/\d≠a.L/\(jL (bZ a.sc.names b)=ae\/(d∉X.S/\d∉N.T)))(hv:∀(i:ah) u v h,Pv i u h->items[i]? =aa v->Itm g X.Z h xs v u)
  (B:r.F xs items (bZ a.sc.names b) N.V X.O=res)(C:res≠.stuck):gy g.M a.A (.forLoop target (.ref a0) b [] a.env) (mq g r a res N X) e:=
 bg (p.more sm t w) λ x D=>
 k a l target xs b m a0 fp wr n Pv Md Sj items 0 (cg _) N X N {X with s:=e} res ⟨K,o,λ b j=>p.am2 (f b j).1 (f b j).2,z,hv⟩ D x.no.ss (λ d hd=>(f d hd).1) y B C
end
theorem ZS{pos e d b}(h:au g.M a.A (bM d a.env) (λ x f=>au g.M a.A (pyIter x) (λ u i=>gy g.M a.A (.forLoop e u b [] a.env) (mq g r a res N X) i) (EX g r a res N X) f) (EX g r a res N X) X.s)
  (j:∀x,ck2 d a.env x=fO x):eY g r a ai res N X (dE (.For e d b [] pos) a.env):=
 wpAny_For (bI h (λ x f h=>bI h (λ u i h=>pW h λ rs k z=>by obtain _|_:=rs<;>exact z) λ Y Y h=>h) λ Y Y h=>h) j
end
section
variable{g:G}{P:bW}{r:bh}{a:Act}{N:Nt}{X c l:Xt}{q:al}{res:RS}
variable{h:bA}{f:af Nm}{b:af gd}{j:af IV}{x:ao}
noncomputable def Kj:af uI:=["enumerate","zip","dict_itemiterator","dict_reverseitemiterator","odict_iterator","itertools.zip_longest","itertools.pairwise"]
theorem bt5{prog w A E sc}(d:jw sc h=aa f){I o n i v Q s}(m:s.heap.get? I=aa o)(u:o.cls=.type n)(hd:o.data=.fields i)
  (z:Kj.contains n=ai)(e:Q () s):au (bG prog w) A (My h (.ref I) v) Q E s:=by
 refine dW (G:=λ y=>y=aa f->_) (λ x H Y=>?_) (λ Y d=>?_) d
 ·refine aI (oP H) λ p B=>B▸?_;exact aR e
 ·revert d;refine av λ J C Y=>?_;refine lE (yz C) λ k p D=>D▸?_;cases v with
  |ref t=>
   unfold My;refine aq (WT m ?_);rw[u,hd];show au _ _ (if(List.contains Kj n&&_)=ae then _ else fO PUnit.unit) _ _ _;rw[z,Bool.false_and];exact aR e
  |_=>exact aR e
noncomputable def oR(g:G)(r:bh)(a:Act)(h:bA)(b:af gd)(res:RS)(N:Nt)(c:Xt)(x:ao)(s:aZ):Prop:=
 au g.M a.A (pyIter x) (λ u d=>gy g.M a.A (.forLoop h u b [] a.env) (mq g r a res N c) d) (EX g r a res N c) s
theorem AW(B:jI g r)(C:r.quiet=ai)(w:jw a.sc.names h=aa f)(D:aW q c X)(p:Pr g r a N X){nm m y n Pv s}
  (W:Walks g.prog g.w a.A X.s.heap.objs.size y [X.s.heap.objs.size] n Pv s)(I:j.length=n){k}(sm:Sm X.s k)(z:k.heap=X.s.heap.push {cls:=.type nm,data:=.fields m})(J:s 0 k.heap)
  (L:∀i e,s i e->∃o,e.get? X.s.heap.objs.size=aa o/\o.cls=.type nm/\∃m,o.data=.fields m)(M:Kj.contains nm=ai)
  (H:∀d∈y,d∉[X.s.heap.objs.size]->d<X.s.heap.objs.size/\d≠a.L/\(jL (bZ a.sc.names b)=ae\/(d∉X.S/\d∉N.T)))(hv:∀(i:ah) u v,Pv i u->j[i]? =aa v->VR g X.Z v u)
  (O:r.F f j (bZ a.sc.names b) N.V X.O=res)(T:res≠.stuck):gy g.M a.A (.forLoop h (.ref X.s.heap.objs.size) b [] a.env) (mq g r a res N c) k:=by
 have t:k.heap.objs.size=X.s.heap.objs.size+1:=by rw[z];exact xc ..
 refine pW (Qf B C w p (KTurns.ofWalks W λ i v U Q E hS e=>?_) I sm (by rw[z];exact kt _ _) (by rw[t];exact jF _)
  (λ d hd=>by rw[List.mem_singleton.mp hd,t];exact⟨ca _,sQ _⟩) J (λ d hd A=>⟨by rw[t];exact ck3 (H d hd A).1,(H d hd A).2⟩) (λ i u v e hp V=>.inl (hv i u v hp V)) O T) λ rs U e=>e.pre D.ss
 refine aB λ Y Z=>?_;obtain⟨o,h1,h2,m,h3⟩:=L i _ hS;refine Z ?_;exact bt5 w h1 h2 h3 M e
theorem Rc{u}(A:jI g r)(s:r.quiet=ai)(B:jw a.sc.names h=aa f)(C:aW q c X)(p:Pr g r a N X)(vr:VR g X.Z (.str u) x)
  (D:r.F f (u.map λ k=>.str [k]) (bZ a.sc.names b) N.V X.O=res)(E:res≠.stuck):oR g r a h b res N c x X.s:=by
 refine aB λ Y M=>?_;refine cu ((FR.val (h:=X.s.heap) rfl vr).strs) λ y tk O Q=>?_;clear vr Rc;subst O;subst Q;have hv:∀(i:ah) u v,SignAt y i u->(y.cps.toList.map λ k=>IV.str [k])[i]? =aa v->VR g X.Z v u:=λ i u v n m=>by
  refine cu (n) λ k t e T=>T▸?_;simp only[qT,Mv,e]at m;cases m;exact .str ⟨#[k]⟩ t
 have I:(y.cps.toList.map λ k=>IV.str [k]).length=y.cps.size:=(bF _).trans oF;have J:=p.ok.hand s;refine M ?_;rcases L:y.cps.all (·<128)with _|_
 ·exact wpAny_pyIter_wide L (AW A s B C p (Walks.strWide J _ y tk) I ⟨rfl,rfl⟩ rfl ⟨_,jd _ rfl,rfl,rfl⟩ (λ i U w=>dJ w λ o n m z=>⟨o,n,m,_,z⟩) ⋯ (λ d hd H=>absurd hd H) hv D E)
 ·exact wpAny_pyIter_ascii L (AW A s B C p (Walks.strAscii J _ y tk) I ⟨rfl,rfl⟩ rfl ⟨_,jd _ rfl,rfl,rfl⟩ (λ i U w=>dJ w λ o n m z=>⟨o,n,m,_,z⟩) ⋯ (λ d hd H=>absurd hd H) hv D E)
end
section
variable{g:G}{P:bW}{r:bh}{a:Act}{N:Nt}{X h j:Xt}{q:al}{res:RS}
variable{c:bA}{f:af Nm}{b:af gd}{m:af IV}{x:ao}
theorem Uk{l k d n}(H:jI g r)(y:r.quiet=ai)(A:jw a.sc.names c=aa f)(B:aW q h X)(p:Pr g r a N X)(hd:X.s.heap.get? d=aa (cQ k n))(z:bD g X.Z l k)(C:d≠a.L)(hS:d∉X.S)(hT:d∉N.T)
  (D:r.F f l (bZ a.sc.names b) N.V X.O=res)(E:res≠.stuck):oR g r a c b res N h (.ref d) X.s:=by
 refine wpAny_pyIter_list (⟨_,hd,rfl,_,rfl⟩) (AW H y A B p (Walks.list (p.ok.hand y) _ d (lH (cq hd)) k.toArray) (z.1.trans List.size_toArray.symm) ⟨rfl,rfl⟩ rfl
  ⟨⟨_,jd _ rfl,rfl,rfl⟩,⟨_,iL _ hd,rfl,_,rfl⟩⟩ (λ i L ⟨⟨o,s,t,I⟩,_⟩=>⟨o,s,t,_,I⟩) ⋯ (λ e w J=>?_) (λ i u v s t=>z.2 i v u t (List.getElem?_toArray.symm.trans s)) D E)
 exact(List.mem_cons.mp w).elim (λ q=>absurd (List.mem_singleton.mpr q) J) λ w=>List.mem_singleton.mp w▸(dB (cq hd) C (.inr ⟨hS,hT⟩))
theorem DR.key{g Z l e}(x:DR g Z l e):∀(i:ah) k v,e[i]? =aa (k,v)->(l.map λ x=>IV.int x.1)[i]? =aa (.int k):=by
 induction x with
 |nil=>intro i k v d;cbv
 |cons r t n=>
  intro i k v d;obtain _|i:=i
  ·cases d;rfl
  ·exact n i k v d
theorem ax3{l d s}(C:jI g r)(A:r.quiet=ai)(D:jw a.sc.names c=aa f)(E:aW q h X)(p:Pr g r a N X)(hd:X.s.heap.DictOf (uN g.prog g.w) d s)(I:(d==oE)=ai)
  (B:DR g X.Z l s)(J:d≠a.L)(hp:jL (bZ a.sc.names b)=ae)
  (L:r.F f (l.map λ x=>.int x.1) (bZ a.sc.names b) N.V X.O=res)(M:res≠.stuck):oR g r a c b res N h (.ref d) X.s:=by
 refine aI (hd.dictAt) λ O n=>?_;refine wpAny_pyIter_dict I n (AW C A D E p (Walks.dictKeys (p.ok.hand A) _ d (lH n.lt_size) s O) ((bF _).trans B.len) ⟨rfl,rfl⟩ rfl
  ⟨⟨_,jd _ rfl,rfl,rfl⟩,n.push _⟩ (λ i Z ⟨⟨o,w,z,Q⟩,_⟩=>⟨o,w,z,_,Q⟩) ⋯ (λ e H T=>?_) (λ i u v w z=>?_) L M)
 ·exact(List.mem_cons.mp H).elim (λ q=>absurd (List.mem_singleton.mpr q) T) λ H=>List.mem_singleton.mp H▸(dB n.lt_size J (.inl hp))
 ·refine cu (w) λ k y e U=>?_;refine aI (ci5 U) λ t V=>V▸?_;cases(B.key i k y e).symm.trans z;exact .int _ _
theorem Zk{u v d}(hd:0<d)(i:u<v):nL u v d=nL (u+d) v d+1:=by
 have e:(v-u-1)/d=(v-(u+d)-1)/d+1:=by
  rw[<-ck4 _ 1 (uR hd)];exact aD (·/d) (by rw[ck5,<-Mz,Mz (v-u),me d,<-Mz,Fy])
 unfold nL;rw[aT hd,aT i,aT hd];split
 ·rw[e]
 ·rw[ck6 (by lia) (by lia)]
theorem ai0{u v d}(hd:d<0)(i:v<u):nL u v d=nL (u+d) v d+1:=by
 have e:(u-v-1)/(-d)=(u+d-v-1)/(-d)+1:=by
  rw[<-ck4 _ 1 (by lia)];congr 1;lia
 unfold nL;rw[aM (Int.not_lt.mpr (mc hd)),aT (show u>v from i),aM (Int.not_lt.mpr (mc hd))];split
 ·rw[e]
 ·rw[ck6 (by lia) (by lia)]
theorem bk2{v d}(hd:d≠0)(k:ah):∀(u:ag),nL u v d<=k->(upTo k u v d).length=(nL u v d).toNat:=by
 induction k with
 |zero=>exact λ u i=>(Int.toNat_eq_zero.mpr i).symm
 |succ k n=>
  intro u i;show(if _ then _ else _:af IV).length=_;by_cases l:(0<d/\u<v)\/(d<0/\v<u)
  ·have e:=l.elim (λ q=>Zk q.1 q.2) λ q=>ai0 q.1 q.2;rw[e]at i⊢;rw[aT l,dh,n (u+d) (ck7 i),Gu (u+d) v d];rfl
  ·have e:nL u v d=0:=by
    unfold nL;by_cases q:0<d
    ·rw[aT q,aM λ i=>l (.inl ⟨q,i⟩)]
    ·rw[aM q,aM λ i=>l (.inr ⟨Int.lt_iff_le_and_ne.mpr ⟨Int.not_lt.mp q,hd⟩,i⟩)]
   rw[aM l,e];rfl
theorem K8{v d}(k:ah):∀(u:ag)(i:ah)(y:IV),(upTo k u v d)[i]? =aa y->y=.int (u+i*d):=by
 induction k with
 |zero=>intro u i y e;cases e
 |succ k l=>
  intro u i y e;replace e:(if(0<d/\u<v)\/(d<0/\v<u)then IV.int u::upTo k (u+d) v d else[])[i]? =aa y:=e;by_cases q:(0<d/\u<v)\/(d<0/\v<u)
  ·rw[aT q]at e;obtain _|i:=i
   ·simp only[<-aS e,WU,ck8,aO]
   ·rw[l (u+d) i y e,ck9,Int.add_mul,ck5,iK,me d]
  ·rw[aM q]at e;cases e
theorem QY{u v d s z H n}{k:ah}(A:jI g r)(o:r.quiet=ai)(B:jw a.sc.names c=aa f)(C:aW q h X)(p:Pr g r a N X)(D:IsRange X.s.heap n u v d s z H)(hd:d≠0)(E:WV u v d=ae)
  (I:nL u v d<=k)(J:r.F f (upTo k u v d) (bZ a.sc.names b) N.V X.O=res)(L:res≠.stuck):oR g r a c b res N h (.ref n) X.s:=by
 refine wpAny_pyIter_range D E (AW A o B C p (Walks.range (p.ok.hand o) _ u d (nL u v d).toNat) (bk2 hd k u I) ⟨rfl,rfl⟩ rfl ?_ (λ i T l=>⟨_,l,rfl,_,rfl⟩) ⋯ (λ d hd M=>absurd hd M) (λ i w y l O=>?_) J L)
 ·have e:u+((0:ah):ag)*d=u:=by simp only[WU,ck8,aO]
  have Q:((nL u v d).toNat:ag)-((0:ah):ag)=nL u v d:=by rw[<-Gu];exact Wo _
  simp only[e,Q];exact jd _ rfl
 ·obtain⟨t,rfl⟩:=l;rw[K8 k u i y O];exact .int _ _
end
section
variable{g:G}{P:bW}{r:bh}{a:Act}{N:Nt}{X s f:Xt}{q:al}{res:RS}{Z:Zf}{c:Nm->ak aA}
variable{m:bA}{h:af Nm}{b:af gd}{u:af IV}{x:ao}
theorem Er{d V b}{x:RE d}{k}:aY V (R.ax b x) k=R.ax b (aY V x k):=by obtain _|_:=b<;>rfl
theorem CG{e i V o}{d:i->RE e}{k}:aY V (R.opt o d) k=R.opt o λ v=>aY V (d v) k:=by obtain _|_:=o<;>rfl
theorem zd{e i V x}{d:e->St->RE i}{k}:aY V (x.aw d) k=aY V x λ v O=>aY V (d v O) k:=R.casesOn x rfl (λ Y=>rfl) λ Y=>rfl
theorem Qi{l pos i n k Q}(t:bJ g r)(v:∀V O,r.E .bad V O=.stuck)(w:gq i n=ae)(y:(ic a.sc.names n).isEmpty=ae)(z:BB g (λ Y=>sO) l)
  (p:Pr g r a N X)(o:aY N.V (dq r (bV a.sc.names i) [] N.V X.O) k=res)(H:res≠.stuck)
  (A:∀E j us d,aW ai X d->Pr g r a N d->AR g N.c d.Z d.s.heap (bV a.sc.names i) j us->k (j,[]) d.O=res->au g.M a.A (call l us []) Q E d.s):
  au g.M a.A (xy pos l [] (kD pos (iN i a.env)) (jG pos (jH n a.env))) Q (EX g r a res N X) X.s:=
 bI (Ab (q:=ae) t v w y z p.refl p DU (qH o H) λ j us d x B C D=>⟨trivial,A _ j us d x B C (sD o D.symm)⟩) (λ Y Y x=>x) λ e J I=>I.ex p (bU.refl (q:=ae)) o
theorem zl{i}(d:i.natAbs<=4000):Builtin.Range.rangeFitsLong i=ae:=
 xm .. |>.mpr ⟨bK (bH ⋯ (Int.neg_le_of_neg_le (bH WW (Int.ofNat_le.mpr (cl0 i▸d))))),bK (lZ (bH WW (Int.ofNat_le.mpr d)) ⋯)⟩
theorem K2{a b:ag}(x:a.natAbs<=1000)(y:b.natAbs<=1000):(a-b).natAbs<=2000:=aj (Int.natAbs_sub_le a b) (cU x y)
theorem Qb{i v d}(j:i.natAbs<=1000)(hv:v.natAbs<=1000)(hd:d.natAbs<=1000):WV i v d=ae:=by
 have t:∀{a b:ag},a.natAbs<=1000->b.natAbs<=1000->(a-b).toNat<=2000:=λ x y=>Int.toNat_le.mpr (bH WW (Int.ofNat_le.mpr (K2 x y)));have e:∀{x},x.natAbs<=1->(v+(d+x)).natAbs<=4000:=λ k=>aj (cl1 v _) (aj (cU hv (aj (cl1 d _) (cU hd k))) ⋯);unfold WV;rw[zl (aj j ⋯),zl (aj hv ⋯),zl (aj hd ⋯),zl (Gu i v d▸aj (WX i v d) (cU (t hv j) (t j hv))),zl (i:=v+(d-1)) (e ⋯),zl (e ⋯),ite_self,gz];rfl
theorem I1{n l}(e:xI n=aa l):(∃v,n=[.int v]/\v.natAbs<=1000/\upTo v.toNat 0 v 1=l)\/
  ∃o v d,n=[.int o,.int v,.int d]/\(d≠0/\o.natAbs<=1000/\v.natAbs<=1000/\d.natAbs<=1000)/\upTo (v-o).natAbs o v d=l:=by
 refine dW (G:=λ y=>y=aa l->_) (λ v hv e=>.inl ?_) (λ Y e=>.inr ?_) e
 ·revert e;refine av λ i t=>bR λ z e=>?_;exact ec i ((iF hv).trans (aD (λ x=>[x]) (dY t))) (bE z) e
 ·revert e;refine av λ v t=>av λ i z=>av ?_;clear e;intro w p e;refine dC (CY e) λ j k H A e=>?_;revert e;refine bR λ B e=>?_;refine ui i j k ?_ (bE B) e;replace p:=ot p;rw[H,A]at p;obtain _|⟨y,n⟩:=n
  ·cbv
  ·cases t;rw[dY z];exact aD _ p
theorem AR.int{j l us k n}(o:AR g c Z j l (.int k::n) us):∃i t d,us=.int k t::d/\AR g c Z j i n d:=
 yU (o.cons_inv) λ Y i Y d Y y=>
 aI (y.fr.ints) λ t e=>
 (mU i t d (y.us.trans (e▸rfl)) y.tl)
theorem TL:∀(d:af ah)(k:ag),(tE k d).length=d.length
 |[],_=>rfl
 |_::d,k=>aD Me (TL d (k+1))
theorem aw5(e:af ah):∀(k:ag)(i:ah)(y:IV),(tE k e)[i]? =aa y->∃d,e[i]? =aa d/\y=.tup [.int (k+i),.str [d]]:=by
 induction e with
 |nil=>intro k i y j;cases j
 |cons d e l=>
  intro k i y j;obtain _|i:=i
  ·exact⟨d,rfl,by simp only[<-aS j,WU,aO]⟩
  ·exact aG (l (k+1) i y j) λ d n o=>aL d n (by rw[o,ck9,iK,me 1])
theorem ab4{t}(d:jw a.sc.names t=aa h):(∃x,h=[x])\/∃i k p,t=.Tuple i k p/\2<=h.length:=by
 refine dW (G:=λ y=>y=aa h->_) (λ x v d=>?_) (λ Y d=>?_) d
 ·revert d;refine dQ λ x Y j=>j▸?_;exact .inl ⟨x,rfl⟩
 ·revert d;refine av λ i l d=>?_;refine lE (yz l) λ k p e=>?_;revert d;refine av λ w z=>bR λ n o=>o▸?_;exact .inr (mU i k p e (bE n))
theorem PJ{y n tk s2}(I:jI g r)(J:r.quiet=ai)(o:jw a.sc.names m=aa h)(l:2<=h.length)(L:aW q s X)(p:Pr g r a N X)
  (D:Draws g.prog g.w a.A.in1 X.s.heap.objs.size [X.s.heap.objs.size] y.cps.size (λ i v=>∃c z,y.cps[i]? =aa c/\v=.str ⟨#[c]⟩ z) (λ i j=>j.IsStrIter X.s.heap.objs.size n y tk i))(sm:Sm X.s s2)
  (H:IsEnum s2.heap (X.s.heap.objs.size+1) X.s.heap.objs.size 0 .none)(M:s2.heap.IsStrIter X.s.heap.objs.size n y tk 0)(A:s2.heap.objs.size=X.s.heap.objs.size+2)(O:Kept X.s.heap s2.heap)
  (Q:r.F h (tE 0 y.cps.toList) (bZ a.sc.names b) N.V X.O=res)(T:res≠.stuck):oR g r a m b res N s (.ref (X.s.heap.objs.size+1)) s2:=by
 have B:X.s.heap.objs.size+1≠X.s.heap.objs.size:=Gm _;obtain⟨x,e⟩|⟨ts,k,pt,rfl,_⟩:=ab4 o
 ·rw[e]at l;exact absurd l (qQ 1)
 refine wpAny_pyIter_enum H (pW (Qf I J o p (KTurns.ofWalksU (WalksT.toU (WalksT.enumerateD D (X.s.heap.objs.size+1) B (λ q=>B (List.mem_singleton.mp q)) (.head _)))) ((TL ..).trans oF) sm O (by rw[A];exact ck _ 2)
  (λ d hd=>?_) ⟨⟨_,H⟩,M⟩ (λ d hd U=>absurd hd U) (λ i z v j hp C=>.inr ⟨l,?_⟩) Q T) λ rs s' j=>j.pre L.ss)
 ·rw[A];exact(List.mem_cons.mp hd).elim (λ q=>q▸⟨jF _,sQ _⟩) λ hd=>List.mem_singleton.mp hd▸⟨ca _,WN ⋯⟩
 ·refine aB λ Y V=>?_;refine dC (hp) λ t b0 a0 a8 hT=>?_;clear hp;subst a0;obtain⟨t1,w,⟨e,E,he,rfl⟩,rfl⟩:=a8;refine aG (aw5 _ _ _ _ C) λ d hd a9=>?_;clear C;subst a9;simp only[Mv,he]at hd;cases hd;refine V ?_;exact oy _ t ([.int i t1,.str ⟨#[e]⟩ E]) rfl rfl hT (.cons (by rw[oM];exact .int _ _) (.cons (.str ⟨#[e]⟩ E) .nil))
theorem Pr.Bz{o tk}(p:Pr g r a N X):aW ae X {X with s:={X.s with heap:=X.s.heap.push o,toks:=tk}}/\Pr g r a N {X with s:={X.s with heap:=X.s.heap.push o,toks:=tk}}:=
 p.more ⟨rfl,rfl⟩ (kt _ _) (by rw[xc];exact jF _)
theorem Y1{it}{Q:Nm×af IE×af (Nm×IE)}(tr:kH g P)(IH:bJ g r)(T:jI g r)(a9:∀V O,r.E .bad V O=.stuck)(C:r.quiet=ai)(U:jw a.sc.names m=aa h)(p:Pr g r a N X)(hc:rG (ay a.sc.names it)=aa Q)
  (b7:(!wA (ay a.sc.names it)||decide (2<=h.length))=ae)(k:aY N.V (Sf r Q.1 Q.2.1 Q.2.2 N.V X.O) (λ u O=>r.F h u (bZ a.sc.names b) N.V O)=res)(j:res≠.stuck):
  au g.M a.A (bM it a.env) (oR g r a m b res N X) (EX g r a res N X) X.s:=by
 refine aB λ Y kK=>?_;revert hc;refine av λ b8 B=>bR λ h2 b9=>?_;subst b9;obtain⟨y,z,es,f9,pos,rfl,H,A,b0,e2⟩:=Jy B;obtain⟨n,as,kw⟩:=b8;cases e2;replace k:=(Er).symm.trans k;refine kK ?_;revert k;refine Hc j λ b4 k=>?_;replace k:=zd.symm.trans k;obtain e|e:=bE h2
 ·replace e:n=.jR:=e;subst e;replace H:cy y=aa .jR:=H;have D:=tr.qy;rw[eC H]at D;replace e:y=("range":aN):=by rw[<-eC H];decide+kernel
  subst e;refine vZ (LI p.p.F p.ok.K p.ok.T D (v:=.type "range") (by decide+kernel) (by decide+kernel) ?_ p.ok.kind A (by decide+kernel));refine Qi IH a9 b0 b4 IG p k j λ E vs us f I z J i=>?_;refine bQ (CG.symm.trans i) j ?_;clear A;clear i;intro l A i;obtain⟨v,rfl,B,rfl⟩|⟨a0,v,d,rfl,⟨h0,B,h2,L⟩,rfl⟩:=I1 A
  ·refine kL (J.int) λ Y t ws c7 a8=>?_;refine c7▸?_;cases a8.nil_inv;exact call_range_1<|QY T C U (I.trans z.Bz.1) z.Bz.2 (jd _ rfl) ⋯ (Qb ⋯ B ⋯) (by have:=Gu 0 v 1;have:=WX 0 v 1;rw[PyProof.Rows.rangeSize_nat];lia) i j
  ·refine kL (J.int) λ Y t1 ws c8 a8=>?_;refine c8▸?_;refine kL (a8.int) λ Y t2 ws c9 d5=>?_;refine c9▸?_;refine kL (d5.int) λ Y t3 ws d6 d7=>?_;refine d6▸?_;cases d7.nil_inv;exact call_range_3 h0 (QY T C U (I.trans z.Bz.1) z.Bz.2 (jd _ rfl) h0 (Qb B h2 L) (by have:=Gu a0 v d;have:=WX a0 v d;exact bH (Gv ‹_›) (Int.ofNat_le.mpr (aj ‹_› (cx (by rw[<-cl2 v a0,Int.toNat_add_toNat_neg_eq_natAbs]))))) i j) (.inl (cc1 (eK L ⋯)))
 ·replace e:n=.si:=e;clear h2;subst e;replace H:cy y=aa .si:=H;have b5:=(gV b7).elim (λ q=>by rw[show wA (ay a.sc.names _)=ae from(aD (Option.any _) B).trans rfl]at q;cbv) bE;replace D:=tr.Us;rw[eC H]at D;replace e:y=("enumerate":aN):=by rw[<-eC H];decide+kernel
  subst e;refine vZ (LI p.p.F p.ok.K p.ok.T D (v:=.type "enumerate") (by decide+kernel) (by decide+kernel) ?_ p.ok.kind A (by decide+kernel));refine Qi IH a9 b0 b4 IG p k j λ E vs us f I z J i=>?_;refine bQ (CG.symm.trans i) j λ l A i=>?_;obtain⟨v,L,h4⟩:=uw A;revert h4;refine dQ λ a0 h5 d8=>?_;subst d8;obtain rfl:=iF L;obtain rfl:=gb h5;refine cu (J.wi) λ w o d9 b6=>?_;clear J;subst d9;refine cu (b6.strs) λ y tk f5 f7=>?_;clear b6;subst f5;clear h5 L;subst f7;refine call_enumerate_str λ h' g1 M g3 g4=>?_;unfold strIterType at M;have hh:=p.ok.hand C;rcases q:y.cps.all (·<128)with _|_
  ·rw[q]at M;exact PJ (s2:={f.s with heap:=h'}) T C U b5 I z (Draws.strWide (A:=a.A.in1) hh _ y tk) ⟨rfl,rfl⟩ g1 M g3 g4 i j
  ·rw[q]at M;exact PJ (s2:={f.s with heap:=h'}) T C U b5 I z (Draws.strAscii (A:=a.A.in1) hh _ y tk) ⟨rfl,rfl⟩ g1 M g3 g4 i j
end
section
variable{g:G}{P:bW}{r:bh}{a:Act}{N:Nt}{X j h:Xt}{q:al}{res:RS}{Z:Zf}{c:Nm->ak aA}
variable{f:bA}{i:af Nm}{b:af gd}{m:af IV}{x:ao}
theorem af0{sc e env x}(d:ay sc e≠.bad):ck2 e env x=fO x:=by
 cases e with
 |Set _ _ _=>exact absurd rfl d
 |_=>rfl
theorem NP{l}(d:jI g r)(k:r.quiet=ai)(o:jw a.sc.names f=aa i)(s:aW q j X)(p:Pr g r a N X)(vr:VR g X.Z (.bN l) x)
  (u:r.F i l (bZ a.sc.names b) N.V X.O=res)(v:res≠.stuck):oR g r a f b res N j x X.s:=
 eh (vr.Tu) λ t y n e hz w=>
 e▸Uk d k o s p (p.zh hz) w (λ q=>nomatch(q▸p.p.LZ:X.Z t=none).symm.trans hz) (λ q=>nomatch(p.wd.wz _ q).symm.trans hz) (λ q=>nomatch(p.p.loc.free _ q).2.1.symm.trans hz) u v
theorem TU{l ie}(o:jI g r)(s:r.quiet=ai)(u:jw a.sc.names f=aa i)(v:aW q j X)(d:Pr g r a N X)(w:aW q X h)(p:Pr g r a N h)(rs:Rs g N ie X h (.lst l) x)(y:fresh ie=ae)
  (z:r.F i l (bZ a.sc.names b) N.V h.O=res)(H:res≠.stuck):oR g r a f b res N j x h.s:=
 let⟨_,A,B⟩:=rs
 jY (A.rk) λ t J n e C D E=>
 let⟨k,I,L⟩:=(B t C).1 y
 e▸Uk o s u (v.trans w) p D E (λ q=>Nat.not_lt.mpr k (q▸d.p.L)) I (λ q=>Nat.not_lt.mpr k (d.p.loc.free _ q).2.2.2) z H
theorem Pr.bv2{d z}(p:Pr g r a N X)(hd:X.s.heap.DictOf (uN g.prog g.w) d z)(H:N.V.isEmpty=ai):d≠a.L:=λ A=>by
 refine jY (p.p.F.ns) λ o B T C D E I=>?_
 refine GV (hd) λ U V a0 s Y J L Y=>?_
 refine lE (List.ne_nil_iff_exists_cons.mp (λ q:N.V=[]=>by rw[q]at H;cbv)) λ y l M=>?_
 refine aG (p.p.loc.has y.1 y.2 (by rw[M];exact aT rfl)) λ w u Y=>?_
 simp only[A,C]at s
 cases s
 cases D.symm.trans J
 rw[<-I]at u
 rcases q:B.toList with _|⟨e,l'⟩
 ·rw[Array.toList_eq_nil_iff.mp q]at u;cbv
 ·have v:=Array.mem_toList_iff.mp (by rw[q];exact .head _)
  refine lE (E e v) λ n t O=>?_
  refine aG (L e v) λ k Q Y=>?_
  rw[O]at Q
  cbv
theorem SS{ie v}(n:jI g r)(o:r.quiet=ai)(s:jw a.sc.names f=aa i)(t:aW q j X)(E:Pr g r a N X)(w:aW q X h)(p:Pr g r a N h)(rs:Rs g N ie X h v x)(C:vO ie (jL (bZ a.sc.names b)) N.V v=aa m)
  (y:r.F i m (bZ a.sc.names b) N.V h.O=res)(z:res≠.stuck):oR g r a f b res N j x h.s:=by
 obtain⟨o1,A,_⟩:=id rs;obtain e|e:=kb C
 ·revert e;refine dQ λ u k I=>?_;clear C SS;subst I;cases gb k;exact Rc n o s (t.trans w) p (A.vr rfl) y z
 revert e;refine fH (λ e=>?_) λ e=>?_
 ·obtain⟨l,k,B⟩:=uw e;obtain⟨H,rfl⟩:=yb B;cases jm k;exact TU n o s t E w p rs H y z
 revert e;refine fH (λ e=>?_) λ e=>?_
 ·cases Ct e;exact NP n o s (t.trans w) p (A.vr rfl) y z
 ·revert e;refine av λ l k B=>?_;obtain⟨H,rfl⟩:=yb B;cases nz k;obtain⟨d,M,rfl,_,D,J,L,_⟩:=A.JC;exact ax3 n o s (t.trans w) p D J L (p.bv2 D (mm _|>.mp (aP H))) (aH H) y z
theorem W9{k}(n:bJ g r)(o:jI g r)(s:r.quiet=ai)(t:jw a.sc.names f=aa i)(p:Pr g r a N X)
  (u:aY N.V (PA r (ay a.sc.names k) (jL (bZ a.sc.names b)) N.V X.O) (λ m O=>r.F i m (bZ a.sc.names b) N.V O)=res)(d:res≠.stuck):
  au g.M a.A (bM k a.env) (oR g r a f b res N X) (EX g r a res N X) X.s:=
 kO n (bU.refl (q:=ae)) p (zd.symm.trans u) d λ v A h w y z e=>bQ (CG.symm.trans e) d λ l H e=>SS o s t p.refl p w.no y z H e d
theorem E0{z d}(H:bJ g r)(A:jI g r)(B:r.quiet=ai)(C:jw a.sc.names f=aa i)(p:Pr g r a N X)(hd:tW (ay a.sc.names z)=aa d)
  (D:aY N.V (Sn r d.1 d.2 N.V X.O) (λ m O=>r.F i m (bZ a.sc.names b) N.V O)=res)(e:res≠.stuck):
  au g.M a.A (bM z a.env) (oR g r a f b res N X) (EX g r a res N X) X.s:=by
 refine aB λ Y I=>?_;refine cu (bu1 hd) λ es pos J E=>?_;clear hd;subst J;refine dC (Fs (b:=d) (by rw[E];rfl)) λ e1 e2 L M Q=>?_;clear E;subst L;rw[<-M,<-Q]at D;refine I ?_;rw[arm_eval_BoolOp];refine aq (kO H (bU.refl (q:=ae)) p (zd.symm.trans D) e λ v w1 h o n T k=>?_);obtain⟨o1,s,_⟩:=T;refine dW (G:=λ y=>aY _ y _=res->_) (λ l t k=>?_) (λ Y k=>?_) k
 ·refine cf (Er.symm.trans k) e λ U u=>?_;obtain rfl:=Ct t;exact aq (oI (aq (kf (Bh n.wd.zh s (cH U) λ tk=>aR (NP A B C ((p.refl (q:=ae)).trans (o.tk tk)) (n.tk tk) (s.vr rfl) u e)))))
 ·refine cf (Er.symm.trans k) e ?_;clear k;intro V k;obtain rfl:=rZ V;refine aq (oI (aq (kf (Bh n.wd.zh s rfl λ tk=>?_))));refine kO H (o.tk tk).ss (n.tk tk) (zd.symm.trans k) e λ w w2 X2 x2 p2 a0 a8=>?_;refine bQ (CG.symm.trans a8) e λ l t u=>cf (Er.symm.trans u) e λ hf a9=>?_;obtain rfl:=jm t;exact TU (q:=ai) A B C ((p.refl (q:=ai)).trans (o.tk tk)) (n.tk tk) x2.no p2 a0 hf a9 e
theorem bf6{pos u}(z:kH g P)(o:bJ g r)(s:jI g r)(v:∀V O,r.E .bad V O=.stuck)(t:jw a.sc.names f=aa i)(p:Pr g r a N X)
  (k:kS P r (.jr i (ay a.sc.names u) (bZ a.sc.names b)) N.V X.O=res)(l:res≠.stuck):eY g r a ai res N X (dE (.For f u b [] pos) a.env):=by
 refine cf k l λ H k=>?_;refine dG H λ n A=>?_;replace n:=mm _|>.mp n;refine ZS ?_ λ x=>af0 (sc:=a.sc.names) λ e=>?_
 ·refine dW (G:=λ y=>aY _ y _=res->_) (λ c B k=>?_) (λ Y k=>dW (G:=λ y=>aY _ y _=res->_) (λ d hd k=>?_) (λ Y k=>?_) k) k
  ·exact Y1 z o s v n t p B A k l
  ·exact E0 o s n t p hd k l
  ·exact W9 o s n t p k l
 ·rw[e]at k;have w:=(zd).symm.trans k;rw[v]at w;exact l w.symm
end
section
variable{prog:mf}{w:fE}{A:eP}{E:ao->aZ->Prop}{s:aZ}{K:dc}{x C a:aA}{h:cP}{name:aN}{v:ao}{b:af ke}{n:ah}
noncomputable def Rr{c:Type}(d:Data)(t u:c):c:=match d with|.cls _=>u|_=>t
theorem br2{c d}{t u:c}(e:(match d with|.cls _=>ai|_=>ae)=ae):Rr d t u=t:=by
 obtain _|_:=d<;>first|rfl|cbv
noncomputable def qM(c:bu)(x:aA):bu:=(c.push nK).update x λ o=>{o with dict:=aa c.objs.size}
theorem H0{d}:({h with dict:=d}:cP).isFreed=h.isFreed:=by
 obtain⟨_,_,c,_⟩:=h;obtain _|_:=c<;>rfl
theorem bo5{c}(d:c.get? x=aa h):(qM c x).get? x=aa {h with dict:=aa c.objs.size}:=
 sJ _ (iL _ d) (H0.trans (Heap.get?_some_iff.mp d).2)
theorem QL{c}(d:c.get? x=aa h):(qM c x).get? c.objs.size=aa (gW [] 0):=
 (jE _ _ (lH (cq d))).trans (jd c rfl)
theorem ad8{d c o}(f:c≠x)(e:d.get? c=aa o):(qM d x).get? c=aa o:=
 (jE _ _ (gf f)).trans (iL _ e)
set_option tactic.hygienic true in
theorem Zq{R}{tk:uM}(X:K.In s.heap)(I:InstAt s.heap x h C none)(hd:h.dict=none)
  (hp:vw K C=ae)(j:zF K C name=aa none)(k:mQ K C=ae)
  (l:R (.ok (.ret .none)) {s with heap:=(qM s.heap x).update s.heap.objs.size (Mo name (sG w.params name) (.str name s.toks) v),toks:=s.toks+1}):
  gy (bG prog w) A (.call (.builtin "object.__setattr__") ⟨[.ref x,.str name tk,v],[]⟩) R s:=by
 refine Qe X I hp j λ t=>?_;obtain⟨cd,m,p⟩:=Mp k;obtain⟨e,g,q,-⟩:=I;obtain⟨oc,u,i,y⟩:=h;dsimp only at g hd;subst g hd;refine aq (aR (aq (aq (uX e (aq ((Gi X m).here ?_))))));rw[p];show au _ _ (Rr i (do
   let d<-alloc {cls:=Ly "dict",data:=Data.dict #[]}
   update x λ o=>{o with dict:=aa d}
   dictMade (.ref C) x d) (fO none)) _ _ _
 rw[br2 (by clear e;obtain _|_:=i<;>first|rfl|exact q)];refine aq (cl3 (aq (cl4 (iL _ e) (aR (aq (aR (aq ?_)))))));have f:=QL e;unfold nsSet;refine aq (aq (ch2 (aR (aq (LR (aq (uX f ?_)))))));dsimp only;have c:(!([]:af ke).toArray.any (·.key.isStr name)&&([]:af ke).toArray.any (·.refKey))=ai:=by simp
 rw[ch4,c];refine ch5 f ?_;have r:((qM s.heap x).update s.heap.objs.size (Mo name (sG w.params name) (.str name s.toks) v)).get? s.heap.objs.size=aa (gW (kg name (sG w.params name) (.str name s.toks) v []) (putN name [] 0)):=by
  rw[sJ _ f (by rw[xB];rfl),xB]
 refine aq (ch6 r (ch7 (by simp only[oG,WI];exact fD 1 16777216)) ?_);exact aR l
theorem aa1{Q}(X:K.In s.heap)(I:InstAt s.heap x h C none)(hd:h.dict=none)
  (c:iM K (.ref C) "__setattr__"=aa (aa (.builtin "object.__setattr__")))(hp:vw K C=ae)(d:zF K C name=aa none)(e:mQ K C=ae)
  (g:∀i tk f j,((qM s.heap x).update s.heap.objs.size f).get? s.heap.objs.size=aa (gW (kg name i (.str name tk) v []) j)->Q () {s with heap:=(qM s.heap x).update s.heap.objs.size f,toks:=s.toks+2}):
  au (bG prog w) A (Mq (.ref x) name v) Q E s:=by
 refine set_plain X I c (Zq X I hd hp d e ?_);refine g (sG w.params name) (s.toks+1) _ (putN name [] 0) ?_;rw[sJ _ (QL I.at_) (by rw[xB];rfl),xB]
end
noncomputable def uA(K:dc)(C:aA):al:=match K.lookup C with
 |some ⟨_,_,.cls cd,h⟩=>!cd.hasDel&&(h.toList[4]?).join==aa (.builtin "Exception.__new__")&&!cd.mro.isEmpty&&cd.mro.contains (.ref C)&&cd.mro.contains (.type "Exception")&&cd.mro.contains (.type "BaseException")&&
  !cd.mro.contains (.type "AttributeError")&&!cd.mro.contains (.type "NameError")&&FJ K (.ref C) "__call__"==aa (aa (.builtin "type.__call__"))&&Gn K (.ref C) (.type "type")==aa ae
 |_=>ai
structure JP(M:FD)(h:bu)(C:aA):Prop where
 obj:∃oc od cd sl,h.get? C=aa ⟨oc,od,.cls cd,sl⟩/\cd.hasDel=ai/\cd.mro.isEmpty=ai
 made:ip M h (WY (.ref C)) (aa "Exception.__new__")
 base:ip M h (cl5 (.ref C)) (.ref C)
 self:ip M h (Ck (.ref C) (.ref C)) ae
 exc:ip M h (Ck (.ref C) (.type "Exception")) ae
 EC:ip M h (Ck (.ref C) (.type "BaseException")) ae
 TX:ip M h (Ck (.ref C) (.type "AttributeError")) ai
 Oc:ip M h (Ck (.ref C) (.type "NameError")) ai
 call:ip M h (specialOf (.ref C) "__call__") (aa (.builtin "type.__call__"))
 typ:ip M h (Wj (.ref C) (.type "type")) ae
set_option tactic.hygienic true in
theorem KS{K M h}(X:K.In h){C}(e:uA K C=ae):JP M h C:=by
 unfold uA at e;split at e
 ·rename_i oc od cd i a
  refine aB λ Y j=>?_;simp only[xm,mm,VZ]at e;refine bg (e) λ m n=>?_;refine bg (m) λ o p=>?_;obtain⟨⟨⟨⟨⟨⟨⟨t,u⟩,x⟩,v⟩,w⟩,y⟩,z⟩,H⟩:=o;have d:qS K C=aa cd:=by unfold qS;rw[a]
  have f:ip M h (mroOf (.ref C)) cd.mro:=(Gi X d).andThen .now;obtain⟨c,l,g⟩:∃c l,cd.mro=c::l:=by cases q:cd.mro with|nil=>rw[q]at x;cases x|cons c l=>exact jT c l rfl
  have made:ip M h (WY (.ref C)) (aa "Exception.__new__"):=by
   intro A Q E s k q;unfold WY;refine aq (f A _ E s k ?_);rw[g,Gc];refine aq (aq (aq (aq (uX (k _ _ (X _ _ a)) (aR ?_)))));dsimp only;rw[<-Mv,u];exact aR (aR (aR q))
  have sub:∀b r,cd.mro.contains b=r->qO K C b=aa r:=λ b r q=>by
   unfold qO;rw[d,je,aM (by rw[x];decide),q]
  refine j ?_;refine⟨(Av oc od cd i (X _ _ a) t x),made,?_,uT X (sub _ _ v),uT X (sub _ _ w),uT X (sub _ _ y),uT X (sub _ _ z),uT X (sub _ _ H),looks_specialIn X p,cl6 X n⟩;intro A Q E s k q;unfold cl5;refine aq (f A _ E s k ?_);rw[g,Gc];exact aq (aq (aq (made A _ E s k (aR (aR (aR q))))))
 ·cbv
noncomputable abbrev qL(C t:aA):cP:={cls:=.ref C,data:=.fields #[.ref t,.none,.none,.none,.bool ai,.none]}
noncomputable abbrev sh(rest:af ao):cP:={cls:=.type "tuple",data:=.seq rest.toArray}
section
variable{prog:mf}{w:fE}{A:eP}{K:dc}{C:aA}{R:Result->aZ->Prop}{h:bu}{g:nI WZ}{d:Drawn}{t:ah}{os:BS}
theorem bf5{rest}(x:JP (bG prog w) h C)(a:rest.length<=1000)
  (b:R (.ok (.ret (.ref (h.objs.size+1)))) ⟨(h.push (sh rest)).push (qL C h.objs.size),g,d,t,os⟩):
  gy (bG prog w) A (.call (.builtin "Exception.__new__") ⟨.ref C::rest,[]⟩) R ⟨h,g,d,t,os⟩:=by
 refine aB λ Y c=>?_;obtain⟨⟨oc,od,cd,i,e,f,j⟩,made,base,self,exc,EC,TX,Oc,call,typ⟩:=x;have F:=PySem.F.excBase_Exception;have k:=F.noStar;refine c ?_;refine codeAny_call_builtin_code (cl7 _ F.quiet) ?_;simp only[checkBuiltinCall,F.newKind,F.newSplit,F.newRow];have l:ip (bG prog w) h (cl8 "Exception.__new__" (.ref C)) ():=base.andThen (made.andThen (Mg (by simp only[pX,MA,qX,oJ])));have m:ip (bG prog w) h (cl8 "BaseException.__new__" (.ref C)) ():=base.andThen (made.andThen (Mg (by simp only[pX,F.canon,MA,qX,oJ])))
 repeat(first|simp only[MA,qX,oJ]|lk)
 have n:=F.ends;refine codeAny_builtinAt F.entry ?_;delta Builtin.«BaseException.__new__»;refine Xa ?_;refine Xa (PySem.wpAt_stack λ p o=>Gg ?_)
 wp_walk
 refine Gg ?_;rw[F.owner]
 repeat(first|dsimp only[MA,qX,oJ]|lk)
 rw[aM (by rw[oG,WI];exact Nat.not_le.mpr (eK a ⋯))];refine wpAny_newObjAsIs_type (aq ?_);show au _ _ (newObjAsIs _ _ _) _ _ _;delta newObjAsIs classHasDel;refine aq (cl3 (aq (aq (WT (iL _ (iL _ e)) (aR ?_)))));rw[f];refine aR (aR ?_);show R _ _;rw[qW];exact b
theorem bc6{rest init}(x:JP (bG prog w) h C)(c:rest.length<=1000)(f:ip (bG prog w) h (Wh (.ref C) "__init__") (aa init))
  (i:∀self,ip (bG prog w) h (bindSpecial init self) (init,[self]))
  (j:gy (bG prog w) (A.under (.builtin "type.__call__" ⟨.ref C::rest,[]⟩)) (.call init ⟨.ref (h.objs.size+1)::rest,[]⟩) (InitBack (h.objs.size+1) R) ⟨(h.push (sh rest)).push (qL C h.objs.size),g,d,t,os⟩):
  gy (bG prog w) A (.call (.ref C) ⟨rest,[]⟩) R ⟨h,g,d,t,os⟩:=by
 refine aB λ Y l=>?_;have m:=x;obtain⟨⟨oc,od,cd,p,a,q,n⟩,made,base,self,exc,EC,TX,Oc,call,typ⟩:=x;refine l ?_;refine WO ?_;refine WM a ?_;show au _ _ (cl9 (.ref C) _) _ _ _;unfold cl9;refine aq (call.at ?_);dsimp only;rw[tc_bind];refine aq (aR (aq (aR ?_)));refine aR (a:=Fin.again (.call (.builtin "type.__call__") ⟨.ref C::rest,[]⟩)) (And.intro rfl ?_);refine codeAny_call_builtin_at (cl7 _ (by decide+kernel)) entry_typeCall (Wl tc_kind tc_split typ (tc_args _ _ _) ?_);unfold Builtin.«type.__call__»;have s:ip (bG prog w) h (mroOf (.ref C)) cd.mro:=((Looks.ld a).andThen .now).andThen .now
 repeat(first|simp only[n,qX,oJ]|with_reducible refine uU ?_|lk)
 refine bf5 m c ?_;have k:∀b o,h.get? b=aa o->((h.push (sh rest)).push (qL C h.objs.size)).get? b=aa o:=λ b o e=>iL _ (iL _ e);have u:ip (bG prog w) ((h.push (sh rest)).push (qL C h.objs.size)) (Xb (.ref (h.objs.size+1))) (.ref C):=(Looks.ld (by heap_get)).andThen .now;have y:=self.keeps k;have H:=f.keeps k;have X:=(i (.ref (h.objs.size+1))).keeps k;unfold Wj callSpecial? specialOf
 repeat(first|with_reducible refine uU ?_|lk)
 refine pW j λ r B z=>?_;obtain e|(v|_|_|_):=r<;>first|exact z|exact z.elim|skip
 obtain⟨rfl,z⟩:=z;exact aR (aR z)
end
section
variable{prog:mf}{w:fE}{A:eP}{E:ao->aZ->Prop}{s:aZ}{K:dc}{x C H L:aA}{ox:cP}{sc:uG}{env:mh}{m:aN->ak ao}{u:Nm->ao}
structure J8(H x:aA)(ox:cP)(ps:af Nm)(u:Nm->ao)(h h':bu)(es:af ke)(n:ah):Prop where
 ob:h'.get? x=aa {ox with dict:=aa H}
 d:h'.get? H=aa (gW es n)
 keep:∀b o,b≠x->h.get? b=aa o->h'.get? b=aa o
 size:h.objs.size<=h'.objs.size
 has:∀q∈ps,fN (strOf q) es=aa (aa (u q))
 ue:∀z,z∉ps.map strOf->fN z es=aa none
structure XY(K:dc)(C x L:aA)(ox:cP)(h:bu):Prop where
 at_:h.get? x=aa ox
 cls:ox.cls=.ref C
 nc:BU ox=ae
 od:ox.dict=none
 xL:x≠L
 xK:K.lookup x=none
theorem D3(ie:DA sc env L m x)(h:XY K C x L ox s.heap)(I:K.lookup s.heap.objs.size=none)(i:s.heap.Ns L m)(X:K.In s.heap){body p c Q}(J:rF sc.names body (p::c)=ae)(nd:((p::c).map strOf).Nodup)
  (hp:∀q∈p::c,wo K C (strOf q)/\m (strOf q)=aa (u q))(y:(p::c).length<=800)
  (a:∀d tk M n,J8 s.heap.objs.size x ox (p::c) u s.heap d M n->Q .next {s with heap:=d,toks:=tk}):au (bG prog w) A (qR body env) Q E s:=by
 obtain _|⟨st,body⟩:=body
 ·cbv
 ·refine bg (hp p (.head _)) λ g hv=>?_;refine bg (List.nodup_cons.mp nd) λ B N=>?_;refine Oa ie J i hv λ O=>?_;have j:=h.at_;have D:=cq j;refine aa1 X (⟨j,h.cls,h.nc,by rw[h.od];trivial⟩:Ms s.heap x ox C none) h.od g.set g.over g.JV g.dict λ a9 tk k T l=>?_;have keep:∀b o,b≠x->s.heap.get? b=aa o->((qM s.heap x).update s.heap.objs.size k).get? b=aa o:=λ b o t e=>(jE _ _ (gf (lH (cq e)))).trans (ad8 t e);have v:((qM s.heap x).update s.heap.objs.size k).get? x=aa {ox with dict:=aa s.heap.objs.size}:=(jE _ _ (gf (lH D))).trans (bo5 j);generalize(qM s.heap x).update s.heap.objs.size k=U at l keep v⊢;have hd:=lH D;refine Nq (s:={s with heap:=U,toks:=s.toks+2}) (ox:={ox with dict:=aa s.heap.objs.size}) ie ⟨I,lH i.lt,hd,h.cls,h.nc,rfl⟩ body c _ T Q O N
   (λ q a=>(dB ((hp q (.tail _ a)).1) ((hp q (.tail _ a)).2) ((yd λ e:strOf p=strOf q=>B (by rw[e];exact pV a)).trans rfl))) (by rw[dh]at y;exact aj (cx (nH 1 _)) (aj y ⋯))
   ⟨kL (i) λ o V Z ho r=>(mU o V Z (keep _ _ (gf h.xL) ho) r),λ b o e=>keep b o (λ q=>nomatch(q▸h.xK:K.lookup b=none).symm.trans e) (X b o e),v,l⟩ λ d a0 a8 n2 f=>a d a0 a8 n2
   ⟨(f.keep x hd).trans v,f.d,λ b o t e=>(f.keep b (lH (cq e))).trans (keep b o t e),by rw[f.size];exact iA (cq l),λ q a=>?_,λ z hz=>(f.other z λ q=>hz (.tail _ q)).trans ((yd λ q:strOf p=z=>hz (by rw[<-q];exact .head _)).trans rfl)⟩
  obtain e|a:=List.mem_cons.mp a
  ·rw[e,f.other _ B];exact Ij
  ·exact f.has q a
end
inductive Nz(g:G)(c:Nm)(ps:af Nm)(ds:af (Nm×IV)):Prop
 |mk (C fI:aA) (h1:g.cA c=aa C) (h2:uA g.K C=ae) (h3:qV g.K (.ref C)=ae) (h4:zG g.K (.ref C)=aa (.type "type")) (h5:rH g C ps ds fI) (h6:ps.isEmpty=ai) (h7:il g.K gX (strOf c)=aa (aa (.ref C))):Nz g c ps ds
structure Uu(g:G)(Z:Zf)(fs:af (Nm×IV))(C:aA)(h h':bu)(dx:aA)(es:af ke)(n:ah)(gv:Nm->ao):Prop where
 x:h'.get? (h.objs.size+1)=aa {qL C h.objs.size with dict:=aa dx}
 d:h'.get? dx=aa (gW es n)
 new:h.objs.size<=dx
 keep:Kept h h'
 size:h.objs.size<=h'.objs.size
 has:∀f v,lk f fs=aa v->fN (strOf f) es=aa (aa (gv f))/\VR g Z v (gv f)
 ue:∀f,lk f fs=none->fN (strOf f) es=aa none
section
variable{g:G}{P:bW}{r:bh}{a:Act}{N:Nt}{X:Xt}{res:RS}
theorem XV{j O T vs us os C fI Q E}(p:Pr g r a N X)(B:uA g.K C=ae)(U:rH g C j O fI)(b6:j.isEmpty=ai)
  (i:vz g X.Z X.s j O T vs us os [] [])(a9:us.length<=1000)(hQ:∀d tk D k n I,Uu g X.Z T C X.s.heap d D k n I->Q (.ref (X.s.heap.objs.size+1)) {X.s with heap:=d,toks:=tk}):
  au g.M a.A (call (.ref C) us []) Q E X.s:=by
 have l:=p.ok.K.keeps p.p.F.keep;have V:∀b,X.s.heap.objs.size<=b->g.K.lookup b=none:=λ b hb=>Option.eq_none_iff_forall_ne_some.mpr λ o q=>Nat.not_lt.mpr hb (cq (p.zh (p.p.kz _ _ q)));have z:Kept X.s.heap ((X.s.heap.push (sh us)).push (qL C X.s.heap.objs.size)):=λ b o e=>kt _ _ b o (kt _ _ b o e);have Z:((X.s.heap.push (sh us)).push (qL C X.s.heap.objs.size)).objs.size=X.s.heap.objs.size+1+1:=by rw[xc,xc]
 have a0:((X.s.heap.push (sh us)).push (qL C X.s.heap.objs.size)).get? (X.s.heap.objs.size+1)=aa (qL C X.s.heap.objs.size):=by rw[<-xc X.s.heap (sh us)];exact jd _ rfl
 obtain⟨_,_,_,_,_,_,_,_,_,_,_,_,_,_,_,_,_,_,_,hf,b0,_⟩:=id U;refine uU (bc6 (KS l B) a9 (xr l hf) (λ self=>WK l self (beq_iff_eq.mp b0)) ?_);generalize(X.s.heap.push (sh us)).push (qL C X.s.heap.objs.size)=B at z Z a0⊢;refine Pw (s2:={X.s with heap:=B}) U (λ b o e=>z b o (l b o e)) ((p.ok.T.nolimit.keeps p.p.F.keep).keeps z) (by rw[SX];exact eK (cU (ck _ _) ⋯) p.ok.deep) i
  (λ sc body env L m u b4 b5 A' Q E c a8 A J hq=>?_) λ d tk hP=>tT hP λ D k n I h=>⟨rfl,hQ d tk D k n I h⟩
 obtain _|⟨q,j⟩:=j
 ·cbv
 ·have A:=Z.symm.trans A;have M:=aj (ck _ 2) (aj (cx A) (iA a8.lt));exact D3 (s:={X.s with heap:=b4,toks:=b5}) c.ie ⟨J _ _ a0,rfl,rfl,rfl,λ q=>Gm _ (A.trans q.symm),V _ (jF _)⟩ (V _ M) a8 (λ b o e=>J b o (z b o (l b o e))) c.El c.nd c.hp c.len
   λ d tk k n f=>hq d tk ⟨_,k,n,u,f.ob,f.d,M,λ b o e=>f.keep b o (lH (ck3 (cq e))) (J b o (z b o e)),aj M f.size,λ H v e=>⟨f.has H (c.has H v e).1,(c.has H v e).2⟩,λ H e=>f.ue _ (c.ue H e)⟩
end
section
variable{prog:mf}{w:fE}{A:eP}{E:ao->aZ->Prop}{s:aZ}{K:dc}{C:aA}{env:mh}
structure Raisable(M:FD)(K:dc)(C:aA)(v:ao)(s1:aZ):Prop where
 K:K.In s1.heap
 at_:∃ea oe vs,v=.ref ea/\s1.heap.get? ea=aa oe/\oe.cls=.ref C/\oe.data=.fields vs/\vs[1]? =aa .none
theorem aj5{x Q}(j:A.handled=none)(k:uA K C=ae)(l:zG K (.ref C)=aa (.type "type"))
  (h:au (bG prog w) A x (λ v a=>Raisable (bG prog w) K C v a/\E v a) E s):au (bG prog w) A (Xc env (aa x) none) Q E s:=by
 delta Xc;refine aq (bI h (λ v a m=>?_) λ Y Y x=>x);refine aB λ Y n=>?_;obtain⟨⟨X,e,r,t,rfl,c,o,f,p⟩,q⟩:=m;have g:∀{b},b ai a->au (bG prog w) A (Go (.ref e)) b E a:=by
  intro b d;simp only[Go,loadHead];refine aq (uX c ?_);rw[f];exact aR d
 have i:∀{b},b (.ref C) a->au (bG prog w) A (Xb (.ref e)) b E a:=by
  intro b d;refine aq (uX c ?_);rw[o];exact aR d
 refine n ?_;refine aq (aR ?_);dsimp only;refine aq (kf ?_);delta excFromValue isExcClass;refine aq (aq (g ?_));dsimp only[qX,oJ];refine aR ?_;simp only[qX,oJ];refine aq (aq (i ((KS X k).EC.here ?_)));simp only[xt];refine aR ?_;refine aq (g ?_);simp only[qX,oJ];delta raisedInstance;refine aq (aq (i (aq ((ci3 X l).here ?_))));rw[aT (by rfl)];refine aR ?_;delta VW;refine aq (aq (mj c f p ?_));rw[aM ⋯];exact aR (wpAny_raiseNew_none j q)
end
structure qb(g:G)(P:bW):Prop where
 exc:∀n ps ds,P.exc n=aa (ps,ds)->Nz g n ps ds
 sub:∀d c C,P.sub d c=ae->(P.exc c).isSome=ae->g.cA d=aa C->(∀S,g.cA .bL=aa S->S≠C)/\∃D,il g.K gX (strOf c)=aa (aa (.ref D))/\Gn g.K (.ref D) (.type "tuple")=aa ai/\uA g.K D=ae/\qO g.K C (.ref D)=aa ae
section
variable{g:G}{P:bW}{r:bh}{a:Act}{N:Nt}{X h:Xt}{res:RS}
theorem bm7{f C i d j k n l}(p:Pr g r a N X)(s:g.cA f=aa C)(x:Uu g X.Z i C X.s.heap d j k n l):vW g (a.env::a.outer) X.s.heap X.Z X.S N.T X.s.heap (.ba f i) (.ref (X.s.heap.objs.size+1)) d:=by
 have t:j≠X.s.heap.objs.size+1:=λ q=>by have m:=x.x;rw[<-q,x.d]at m;cases m
 have lt:∀b∈(a.env::a.outer).filterMap (·.frame),b<X.s.heap.objs.size:=λ b c=>by
  obtain⟨o,u,_⟩:=(p.frames.mem c).2;exact cq u
 refine⟨X.s.heap.objs.size+1,f,C,i,j,k,n,WC d ((X.s.heap.objs.size+1)::(a.env::a.outer).filterMap (·.frame)),(a.env::a.outer).filterMap (·.frame),l,rfl,rfl,s,
  {pF:=⟨.none,.inl rfl,λ b o q=>WE _ q,Mm _ (.head _),funFrames_hide ((p.more (s2:={X.s with heap:=d}) ⟨rfl,rfl⟩ x.keep x.size).2.frames) λ env v b c=>.tail _ (List.mem_filterMap.mpr (aL env v c)),⟨_,_,x.x,rfl,rfl,rfl,⟨by show 1<6;decide,rfl⟩,.inl ⟨rfl,rfl⟩⟩⟩,up:=.of_keeps x.keep,bs:=λ b o e c=>Gf _ (x.keep b o e) λ q=>?_,tQ:=λ b c=>.inl c,dict:=Gf _ x.d λ q=>?_,new:=⟨jF _,x.new⟩,has:=x.has,pv:=x.ue}⟩
 ·obtain q|q:=List.mem_cons.mp q
  ·rw[q]at e;exact absurd (cq e) (Nat.not_lt.mpr (jF _))
  ·exact c q
 ·obtain q|q:=List.mem_cons.mp q
  ·exact t q
  ·exact absurd (lt _ q) (Nat.not_lt.mpr x.new)
theorem U8{ex pos}(z:qb g P)(H:bJ g r)(A:∀V O,r.E .bad V O=.stuck)(p:Pr g r a N X)
  (f:kS P r (.raise (ay a.sc.names ex)) N.V X.O=res)(j:res≠.stuck):eY g r a ai res N X (dE (.Raise (aa ex) none pos) a.env):=by
 refine aB λ Y B=>?_;refine cf f j λ D f=>bQ f j λ c E f=>bQ f j ?_;clear f;intro d hd f;obtain⟨y,i,l,I,J,rfl,m,L,M,Q⟩:=Jy E;obtain⟨n,as,kw⟩:=c;cases Q;obtain⟨C,fI,T,q,s,U,Z,h6,t⟩:=z.exc _ _ _ hd;rw[eC m]at t;refine B ?_;show au _ _ (do FU pos;Xc a.env (aa (do let v<-bM (.Call (.Name y i) l I J) a.env;FU pos;fO v)) none) _ _ X.s;refine aq (oI (aj5 (p.ok.hand (mm _|>.mp D)) q U (aq (vZ (xk p.p.F p.ok.K p.ok.T t ?_ p.ok.kind L (lJ m))))));refine bI (BK (q:=ae) H A M (zE s) p.refl p DU (qH f j) λ vs ks us b4 h u i w kr hk=>⟨i.ok.K.keeps i.p.F.keep,?_⟩) (λ Y Y x=>x) λ e s' a0=>a0.ex p (bU.refl (q:=ae)) f;refine cf (sD f hk.symm) j λ hg a8=>bQ a8 j λ fs hb a9=>?_;obtain⟨k,g3⟩:=ej hg;obtain⟨k,g2⟩:=ej k;obtain rfl:=gu g2;refine aG (w.ops k) λ os ops b0=>?_;cases kr.nil_inv;refine XV i q Z h6 ⟨i.p.kz,ops,b0,.nil,cg _,hb⟩ (aj (aj (cx w.len.symm) (bE g3)) ⋯) λ s tk dx l n2 gv x=>?_;exact aq (oI (aR ⟨⟨λ b o e=>x.keep b o (i.ok.K.keeps i.p.F.keep b o e),_,_,_,rfl,x.x,rfl,rfl,rfl⟩,.ba n fs,N,h,a9.symm,u.no.ss,i,⟨rfl,rfl⟩,(bm7 i T x).pre u.st.size⟩))
end
section
variable{prog:mf}{w:fE}{A:eP}{E:ao->aZ->Prop}{s:aZ}
inductive pC(A:eP)(h:bu):Prop
 |none (h1:A.handled=none):pC A h
 |exc (ea:aA) (o:cP) (vs:nI ao) (h1:A.handled=aa (.ref ea)) (h2:h.get? ea=aa o) (h3:o.data=.fields vs) (h4:vs[2]? =aa .none):pC A h
theorem XD:entryFor table "proto.unchain"=aa Builtin.«proto.unchain»:=entryFor_of_tree ∅
theorem W4{j e a f Q}(H:pC A s.heap)(c:s.heap.get? e=aa a)(hd:a.data=.fields f)(k:2<f.size)(l:∀x,A.handled=aa (.ref x)->x≠e)
  (h:∀g,(∀b o,b≠e->s.heap.get? b=aa o->g.get? b=aa o)->(∃i,g.get? e=aa i/\i.cls=a.cls)->E (.ref e) {s with heap:=g}):au (bG prog w) A (raiseNew (.ref e):mP j) Q E s:=by
 refine aq (wpAny_handled ?_);obtain d|⟨x,o,u,d,m,n,p⟩:=H
 ·rw[d];exact aq (aR (cm0 (h s.heap (λ Y Y Y e=>e) (aL a c rfl))))
 ·rw[d];show au _ _ (if(mi x !=mi e)=ae then _ else _) _ _ _;rw[aT (by rw[bne_iff_ne];exact λ q=>(l x d) (Gl q))];refine aq (kf (ci1 (ci2 XD ?_)));refine aq (mj m n p ?_);refine aR ?_;refine aq (aq (WT c ?_));rw[hd];show au _ _ (if 2<f.size then _ else _) _ _ _;rw[aT k];refine cl4 c ?_;refine cm0 (h _ (λ b o r t=>(jE _ _ (gf r)).trans t) ⟨_,sJ _ c (LG (BY hd _)),cb7 _ _⟩)
theorem Zz{a t i n Q}(H:pC A s.heap)(r:∀h,A.handled=aa (.ref h)->h≠a)(g:s.heap.IsTupleIter a t i)(u:s.heap.IsTuple t n)(v:n[i]? =none)
  (y:∀j,cm1 a s.heap j->Q none {s with heap:=j}):au (bG prog w) A (WS (.ref a)) Q E s:=by
 refine aB λ Y z=>?_;refine dJ (id g) λ o k J hd=>?_;obtain⟨L,X,M,nl,B⟩:=id u;refine z ?_;refine aq (Wk (Wq g.typeIs cm2
  (cd9 cm2 g.typeIs F.entry_tuple_iterator_next ?_ (F.args_tuple_iterator_next_1 _))))
 show au _ _ (field (.ref a) 0>>=_) _ _ s;refine aq (mj k hd (x:=.ref t) rfl ?_);refine aq (mj k hd (x:=.int i 0) rfl ?_);refine aq (cg8 X B ?_);simp only[uQ,v];refine aq (Mu (aq (FH k hd (by simp) ?_)));refine aq ?_;refine aq (sI ?_ (by size_fits));refine aq (Gb (a:=oC) (by rfl) ?_);refine sI ?_ (by size_fits);have kp:∀{o1 p} b c,b≠a->s.heap.get? b=aa c->(((s.heap.update a (FG (·.setIfInBounds 0 oC))).push o1).push p).get? b=aa c:=λ{o1 p} b c l e=>iL _ (iL _ ((jE _ _ (gf l)).trans e));have lt:∀h,A.handled=aa (.ref h)->h<s.heap.objs.size:=λ h x=>by
  obtain d|⟨N,_,_,f,d⟩:=H
  ·rw[x]at d;cbv
  ·rw[x]at f;cases f;exact cq d
 refine W4 ?_ (jd _ rfl) rfl (by show 2<6;decide) (λ h x q=>?_) λ j k1 m=>?_
 ·obtain x|⟨h,o,C,x,d,f,D⟩:=H
  ·exact .none x
  ·exact .exc h o C x (kp h o (r h x) d) f D
 ·have:=lt h x;simp only[q,qW,oU]at this;exact absurd this (Nat.not_lt.mpr (jF _))
 ·refine aG (m) λ c m I=>?_;refine aq (wpAny_isInstance (aL c m I) isSubtype_stop ?_);refine aR (y _ λ b o l e=>k1 b o (λ q=>?_) (kp b o l e));have:=cq e;simp only[q,qW,oU]at this;exact absurd this (Nat.not_lt.mpr (jF _))
theorem pC.lt(H:pC A s.heap){a}(h:A.handled=aa (.ref a)):a<s.heap.objs.size:=by
 obtain x|⟨c,_,_,b,x⟩:=H
 ·rw[h]at x;cbv
 ·rw[h]at b;cases b;exact cq x
theorem pC.more{h a}(H:pC A h)(k:∀b o,h.get? b=aa o->a.get? b=aa o):pC A a:=by
 obtain x|⟨c,o,d,x,e,f,g⟩:=H
 ·exact .none x
 ·exact .exc c o d x (k _ _ e) f g
theorem aq0{t n a}(g:n=a.size){Q}(H:pC A s.heap)(x:s.heap.IsTuple t a)
  (i:∀c,cm1 s.heap.objs.size s.heap c->Q a.toList {s with heap:=c}):au (bG prog w) A (cm3 (.ref t) n none) Q E s:=by
 subst g;have d:t≠s.heap.objs.size:=by obtain⟨o,j,_⟩:=x;exact lH (cq j)
 refine aq ?_;refine aq (cc8 x.typeIs F.slot_tuple_iter.lookup ?_);refine aR ?_;refine aq (kf (wpAny_pyIter_tuple x ?_));refine aq (kf (wpAny_draw_tuple d a.size 0 _ _ ⟨_,jd _ rfl,rfl,rfl⟩ (x.push _) (cx (xe _)) λ q k f=>?_));have kp:=λ b o e=>f.extBut b o (lH (cq e)) (iL _ e);rw[Wp,Cg (by simp),aM (by simp)];refine aq (kf (Zz (H.more kp) (λ r h=>lH (H.lt h)) k ((x.push _).extBut f.extBut d) (by simp) λ l m=>?_));exact aR (i l λ b o p e=>m b o p (kp b o e))
end
section
variable{g:G}{P:bW}{r:bh}{a:Act}{N:Nt}{X H:Xt}{res:RS}
theorem P9{M A E env c b pos names Q}
  (h:au M A (bM b env) (λ v d=>au M A (cm3 v names.length none) (λ e f=>au M A (cj8 (names.reverse.map λ n=>bindName env n) e.reverse) (λ Y=>Q .next) E f) E d) E s)
  (i:WR c b pos.line env=fO ai)(j:Gs c b env=fO (aa names)):au M A (dE (.Assign c b pos) env) Q E s:=by
 refine aq (oI ?_);rw[i];refine aq (aR ?_);refine aq (bI h (λ v d k=>?_) λ Y Y x=>x);rw[j];refine aq (aR ?_);exact aq (Mu (aq (bI k (λ e o l=>aq (bI l (λ Y p m=>aR m) λ Y Y x=>x)) λ Y Y x=>x)))
structure S9(sc:af (aN×xh))(t e:bA)(w:Nm×Nm)(x y:aN×ey)(k1:ah)(p1:ey)(a1 a2:bA×aN×ey)(k2:ah)(p2:ey):Prop where
 t:t=.Tuple [.Name x.1 x.2,.Name y.1 y.2] k1 p1
 e:e=.Tuple [.Attribute a1.1 a1.2.1 a1.2.2,.Attribute a2.1 a2.2.1 a2.2.2] k2 p2
 lx:nw sc x.1=aa w.1
 ly:nw sc y.1=aa w.2
 ln:x.2.line=y.2.line
 ne:w.1≠w.2
theorem Ow{e x}(h:Hp e=aa x):e=.Name x.1 x.2:=aI (fM h) λ q h=>@zp (λ e=>∀q,(zp e q λ x p=>(x,p))=x->e=.Name x.1 x.2) e q (λ x p q h=>h▸rfl) q h
theorem L6{sc t e w}(h:Lm sc t e=aa w):∃x y k1 c d f i j,S9 sc t e w x y k1 c d f i j:=by
 refine aB λ Y b=>?_;revert h;refine av λ I l=>av λ J m=>av λ x n=>av λ y o=>av λ L p=>av λ M q h=>?_;refine b ?_;refine fJ h (λ s h=>?_) λ Y h=>nomatch h;refine aB λ Y b=>?_;revert h;refine av λ O u=>av λ Q v h=>?_;refine b ?_;refine fJ h (λ k h=>?_) λ Y h=>nomatch h;refine aB λ Y b=>?_;refine lE (yz l) λ k1 c z=>?_;refine lE (yz p) λ i j A=>?_;revert s;refine aV λ B C=>?_;refine aI (fY B) λ d D=>?_;refine aI (fY C) λ f E=>?_;have h:=aS h;refine b ?_;exact⟨x,y,k1,c,d,f,i,j,by exact(z).symm▸(ot m).symm▸(Ow n).symm▸(Ow o).symm▸rfl,by exact(A).symm▸(ot q).symm▸(tj D).symm▸(tj E).symm▸rfl,by exact(h)▸u,by exact(h)▸v,k.1,by exact(h)▸k.2⟩
theorem HZ.ok{h A Z}(x:HZ A Z)(zh:∀a o,Z a=aa o->h.get? a=aa o):pC A h:=
 x.elim .none λ b=>jY b λ c o d e f i j=>.exc c o d e (zh _ _ f) i j
theorem bu9{x y p q b c d e o1 f i j k1 k}(l:Pr g r a N X)(m:a.sc.names.lookup x=aa .local)(n:a.sc.names.lookup y=aa .local)(o:p.line=q.line)(s:x≠y):
  Gs [.Tuple [.Name x p,.Name y q] k1 b] (.Tuple [.Attribute o1 i d,.Attribute f j e] k c) a.env=fO (aa [x,y]):=by
 have t:a.env.blockKind=.function:=by
  show(if a.sc.kind.isAnnotationScope=ae then ScopeKind.function else a.sc.kind)=_;rw[l.ok.kind];rfl
 have u:a.env.kindOf x=aa .local:=m;have v:a.env.kindOf y=aa .local:=n;have w:∀{F},F (.Name x p)=aa x->F (.Name y q)=aa y->zA F [sU x p,sU y q]=[x,y]:=λ h z=>by rw[cm4 h,cm4 z];rfl
 have A:([x,y].length !=2||[x,y].eraseDups.length !=[x,y].length)=ai:=by
  rw[List.eraseDups_cons,zw,aD not (beq_eq_false_iff_ne.mpr (gf s))];rfl
 unfold Gs;rw[t];show(if _ then _ else if _ then _ else(if((zA _ [sU x p,sU y q]).length !=_||(zA _ [sU x p,sU y q]).eraseDups.length !=(zA _ [sU x p,sU y q]).length)=ae then _ else if _ then _ else if _ then _ else fO (aa (zA _ [sU x p,sU y q]))):mP (ak (af aN)))=_;rw[w (by show(if(a.env.kindOf x==aa .local&&p.line==p.line)=ae then aa x else none)=_;rw[u,sM p.line];rfl) (by show(if(a.env.kindOf y==aa .local&&q.line==p.line)=ae then aa y else none)=_;rw[v,o,sM q.line];rfl)];show(if([x,y].length !=2||[x,y].eraseDups.length !=[x,y].length)=ae then _ else _:mP (ak (af aN)))=_;rw[A];rfl
theorem bD.un{Z u l d}(h:bD g Z (u::l) d):∃x c,d=x::c/\VR g Z u x/\bD g Z l c:=by
 obtain _|⟨x,c⟩:=d
 ·cases h.1
 ·exact qq x c rfl (h.2 0 _ _ rfl rfl) (Lu h.1) (λ i v w a b=>h.2 (i+1) v w a b)
theorem bD.emp{Z x}(h:bD g Z [] x):x=[]:=List.length_eq_zero_iff.mp h.1.symm
theorem bD.two{Z u v b}(h:bD g Z [u,v] b):∃x y,b=[x,y]/\VR g Z u x/\VR g Z v y:=
 dC (h.un) λ x Y c d e=>
 dC (e.un) λ y Y f i j=>
 (gm x y ((c).symm▸(f).symm▸(j.emp).symm▸rfl) d i)
theorem W0{t ex w pos}(L:bJ g r)(p:Pr g r a N X)(M:Lm a.sc.names t ex=aa w)(O:ay a.sc.names ex≠.bad)
  (Q:kS P r (.ya w.1 w.2 (ay a.sc.names ex)) N.V X.O=res)(i:res≠.stuck):eY g r a ai res N X (dE (.Assign [t] ex pos) a.env):=by
 refine aB λ Y j=>?_;obtain⟨x,y,k1,d,a1,a2,k2,k,T,U,lx,ly,V,n⟩:=L6 M;refine bg (wF lx) λ s lx=>?_;refine bg (wF ly) λ z ly=>?_;refine j ?_;refine P9 (kO L (bU.refl (q:=ae)) p Q i λ v wv H Z d a0 hk=>?_) (by unfold WR;exact yB O) (by simp only[T,U];exact bu9 p lx ly V (λ q=>n (aS (s.symm.trans ((aD cy q).trans z)))));refine aB λ Y j=>?_;refine bQ hk i λ u hu a8=>cf a8 i λ f a9=>?_;refine iD hu λ l h1 h2=>?_;obtain⟨f,g4⟩:=ej f;obtain⟨f,g3⟩:=ej f;obtain⟨A,B⟩:=ej f;obtain⟨o1,m,_⟩:=a0;rw[qt h1,ot h2]at m;refine dC (Rd d.wd (m.vr rfl)) λ t ws b0 ht C=>?_;clear m;subst b0;refine dC (C.two) λ wu ww b4 D E=>?_;clear C;subst b4;refine j ?_;refine bI (AZ (E:=λ Y Y=>xA) (aq0 (n:=2) (Q:=λ I s'=>∃c,I=[wu,ww]/\s'={H.s with heap:=c}/\Kept H.s.heap c) rfl (d.p.hz.ok d.wd.zh) ht λ c he=>(ec c rfl rfl (λ b o e=>he b o (lH (cq e)) e)))) (λ I s2 h=>?_) λ Y Y h=>h.2.elim;obtain⟨hs,c,rfl,rfl,kp⟩:=h;obtain⟨x2,k⟩:=d.more (s2:={H.s with heap:=c}) ⟨rfl,rfl⟩ kp hs;refine WQ (Xd (rC k z ly (.val B E) (by intros;cbv) λ h3 b7 b5 J=>?_));refine WQ (Xd (rC J s lx (.val A D) (by intros;cbv) λ h4 b8 b6 p4=>cj9 ?_));refine⟨.next,_,_,rfl,a9.symm,vK (vK ((Z.trans x2).no.ss) b5 (BI (prm:=r.prm) k (FR.val (h:=h3) B E) g4) (by intros;cbv)) b6 (BI (prm:=r.prm) J (FR.val (h:=h4) A D) ?_) (by intros;cbv),.next p4⟩;show fT r w.1 u.1 (put w.2 u.2 N.V)=ae;unfold fT;rw[wZ,aM n];exact g3
end
section
variable{prog:mf}{w:fE}{A:eP}{E:ao->aZ->Prop}{s:aZ}{K:dc}{C D:aA}
theorem an5{x b Q}(X:K.In s.heap)(d:s.heap.get? x=aa b)(e:b.cls=.ref C)(f:Gn K (.ref D) (.type "tuple")=aa ai)(g:uA K D=ae)(i:qO K C (.ref D)=aa ae)
  (j:Q ae s):au (bG prog w) A (excMatches (.ref x) (.ref D)) Q E s:=by
 refine aB λ Y k=>?_;have c:=KS (M:=bG prog w) X g;refine Bk (c.obj) λ oc od cd p l Y Y=>?_;have m:=c.EC;have n:∀{h},h ae s->au (bG prog w) A (Go (.ref D)) h E s:=by
  intro h a;simp only[Go,loadHead];exact aq (uX l (aR a))
 have o:∀{h},h (.ref C) s->au (bG prog w) A (Xb (.ref x)) h E s:=by
  intro h a;refine aq (uX d ?_);rw[e];exact aR a
 refine k ?_;unfold excMatches;refine aq ((cl6 (M:=bG prog w) X f).here ?_);dsimp only[qX,oJ];refine aq (aR ?_);simp only[Gc,List.forIn_nil];refine aq (aq (aq ?_));unfold isExcClass;refine aq (n ?_);simp only[xt];refine m.here ?_;refine aR (aR (aq (o (aq (aq (aq ((uT X i).here ?_)))))));exact aR (aR (aR j))
end
section
variable{g:G}{P:bW}{r rq:bh}{a:Act}{N I:Nt}{X A:Xt}{q:al}{res:RS}
noncomputable abbrev Act.DZ(a:Act)(h:aA):Act:={a with A:=a.A.mark (aa (.ref h))}
structure Jd(g:G)(r rq:bh):Prop where
 B:lW g rq
 H:r.H=rq.B
 prm:rq.prm=r.prm
 dep:rq.dep=r.dep
 top:rq.top=r.top
 q:rq.quiet=ae
structure CN(g:G)(rq:bh)(a:Act)(N:Nt)(X:Xt)(h0:bu)(v:IV)(ea:aA)(s3:aZ)(Z':Zf):Prop where
 sm:Sm X.s s3
 zz:∀b o,X.Z b=aa o->Z' b=aa o
 zn:∀b o,Z' b=aa o->X.Z b=aa o\/X.s.heap.objs.size<=b
 p:Pr g rq (a.DZ ea) N {X with Z:=Z',s:=s3}
 vr:VR g Z' v (.ref ea)
 keep:∀b o,b<h0.objs.size->b≠a.L->X.s.heap.get? b=aa o->s3.heap.get? b=aa o
 size:X.s.heap.objs.size<=s3.heap.objs.size
theorem CN.ss{prm v f h c}(w:CN g rq a N X A.s.heap v f h c)(x:bU a q prm I A N X):bU a ai prm I A N {X with Z:=c,s:=h}:=
 ⟨⟨λ b o e=>w.zz b o (x.st.zz b o e),λ b o e=>(w.zn b o e).elim (x.st.zn b o) λ q=>.inr (.inl (aj x.st.size q)),λ b o i j d e=>w.keep b o (cq e) d (x.st.keep b o i j d e),aj x.st.size w.size,x.st.sn,x.st.tn,x.st.pre⟩,x.sm.trans w.sm,x.cc,(by intro k;cbv)⟩
theorem VR.YD{Z b c x}(v:VR g Z (.ba b c) (.ref x)):∃o,Z x=aa o:=by
 cases v with|ba _ _ h=>exact⟨_,h⟩
theorem QW{t C i u z J n base j L s3 FRs M O}(Q:Jd g r rq)(p:Pr g r a N X)(sm:Sm X.s s3)(T:g.cA t=aa C)(U:∀D,g.cA .bL=aa D->D≠C)(V:a.jo.objs.size<=j.objs.size)
  (w:OX g [a.env] j X.Z X.S N.T X.s.heap L z i C u J n base FRs M)(pF:ru base [a.env] i (.ref C) u O s3.heap)(up:X.s.heap.UpToSlots s3.heap):∃k,CN g rq a N X j (.ba t z) i s3 k:=by
 refine aB λ Y Z=>?_;obtain⟨st,a0,_,oe,vs,c,a8,a9,H,⟨_,b0⟩,_⟩:=pF;have b4:=λ b h=>(w.tQ b h).imp_left λ q=>
  let⟨env,c,hf⟩:=List.mem_filterMap.mp q
  (aS ((List.mem_singleton.mp c▸hf:a.env.frame=aa b))).symm
 have d:∀b,b≠a.L->(b<j.objs.size\/X.Z b≠none\/b∈X.S\/b∈N.T)->b∉FRs:=λ b m h q=>
  (b4 b q).elim m λ hP=>pK hP λ q1 l q3 q4=>h.elim (λ h=>Nat.not_lt.mpr q1 h) λ h=>h.elim (λ h=>h l) λ h=>h.elim q3 q4
 have kp:=λ b o e q=>st b o (w.bs b o e q);have nZ:∀b o,X.Z b=aa o->b∉FRs:=λ b o e=>d b (λ q=>nomatch(q▸p.p.LZ:X.Z b=none).symm.trans e) (.inr (.inl (by rw[e];exact Option.some_ne_none _)));have nS:=λ b h=>d b (λ q=>p.p.LS (q▸h)) (.inr (.inr (.inl h)));have nT:=λ b h=>d b (p.p.loc.free b h).2.2.1 (.inr (.inr (.inr h)));have s:=iA (eK w.new.1 (cq c));obtain⟨k,x,_,_,b5,o,f,_⟩:=SI (s:={X.s with heap:=WC X.s.heap FRs}) ⟨λ b o e=>Gf _ (p.zh e) (nZ b o e),p.wd.wz,λ b h=>by rw[zC];exact p.wd.ww b h,by rw[zC];exact p.wd.big⟩ ⟨sm.os,sm.gens⟩ T U a8 (by unfold BU;rw[H]) a9
  (by rw[zC];exact w.new.1) (by rw[zC];exact w.new.2) (λ q=>by rw[q,w.dict]at a0;cbv) c (st _ _ w.dict) (λ b o e=>kp b o (WE _ e) λ q=>by rw[Mm _ q]at e;cbv) (by rw[zC];exact s) w.has w.pv
 have vr:=f.vr rfl;have zn:=λ b o e=>(x.zn b o e).imp_right λ q=>by rw[zC]at q;exact q
 have B:∀b,b<X.s.heap.objs.size->X.Z b=none->k b=none:=λ b h hz=>Option.eq_none_iff_forall_ne_some.mpr λ o q=>(zn b o q).elim (λ q=>nomatch hz.symm.trans q) λ q=>Nat.not_lt.mpr q h;refine Z ?_;refine⟨k,sm,x.zz,zn,⟨⟨p.ok.kind,p.ok.K,p.ok.T,p.ok.fr,p.ok.ff,Q.dep▸p.ok.dep,(λ q=>nomatch Q.q.symm.trans q),λ q=>p.ok.top (Q.top▸q),p.ok.deep,p.ok.units,p.ok.Hx⟩,
  {F:=⟨up.ns p.p.F.ns,λ b o e=>kp b o (p.p.F.keep b o e) (d b (λ q=>Nat.not_lt.mpr p.p.F.above (q▸cq e)) (.inl (jc (cq e) V))),p.p.F.above⟩,wd:=x.wd,loc:=⟨λ y v e=>aG (p.p.loc.has y v e) λ w hm f=>(aL w hm (f.map x.zz λ b eb ob q=>kp b ob q (nT b (p.p.loc.cell y b eb)))),p.p.loc.cell,p.p.loc.qa,λ b h=>pK (p.p.loc.free b h) λ f1 f2 f3 E=>(ky f1 (B b E f2) f3 (jc E s)),p.p.loc.inj⟩,sc:=b5 _ (p.p.sc.wU (λ Y Y e=>e) (λ b h o e=>Gf _ e (nS b h)) λ Y Y Y Y e=>e),hS:=p.p.hS,hT:=p.p.hT,LS:=p.p.LS,LZ:=B _ p.p.L p.p.LZ,kz:=λ b o e=>x.zz b o (p.p.kz b o e),hz:=.inr ⟨i,oe,vs,rfl,?_,H,b0⟩}⟩,vr,λ b o h m e=>kp b o e (d b m (.inl h)),s⟩
 refine aI (vr.YD) λ o2 l=>?_;exact l.trans ((x.zh _ _ l).symm.trans c)
end
section
variable{g:G}{P:bW}{r rq:bh}{a:Act}{N b:Nt}{X h:Xt}{q:al}{res:RS}
theorem Qo{x y}{l:Loc}:lk y (l.filter λ p=>!decide (p.1=x))=if y=x then none else lk y l:=by
 by_cases c:y=x
 ·rw[aT c,c];induction l with
  |nil=>rfl
  |cons z l d=>
   by_cases hz:z.1=x
   ·rw[cg4 (by rw[bK hz];exact(by intro e;cbv))];exact d
   ·rw[cg5 (by rw[gw hz];rfl)];exact(aM (gf hz)).trans d
 ·rw[aM c,yL c]
noncomputable abbrev Nt.gone(N:Nt)(x:Nm)(u:ak ao)(c:Loc):Nt:=⟨λ y=>if y=strOf x then u else N.m y,c.filter λ p=>!decide (p.1=x),N.T,N.c⟩
theorem Pr.gone{k x u}{j:Loc}{tk}(p:Pr g r a N X)(n:pM x=ae)(m:∀y,y≠x->lk y N.V=lk y j)(s:k.Ns a.L (N.gone x u j).m)(d:lI a.L X.s.heap k)(t:N.c x=none):
  Pr g r a (N.gone x u j) (X.hp k tk):=by
 refine⟨p.ok,{F:=⟨s,λ c o e=>(d.2 c λ q=>Nat.not_lt.mpr p.p.F.above (q▸cq e)).trans (p.p.F.keep c o e),p.p.F.above⟩,wd:=⟨λ c o e=>(d.2 c λ q=>nomatch(q▸p.p.LZ:X.Z c=none).symm.trans e).trans (p.zh e),p.wd.wz,λ c e=>d.1▸p.wd.ww c e,d.1▸p.wd.big⟩,loc:=⟨λ y v e=>?_,p.p.loc.cell,λ y c e=>?_,λ c l=>d.1▸p.p.loc.free c l,p.p.loc.inj⟩,sc:=p.p.sc.wU (λ Y Y e=>e) (λ c l o e=>(d.2 c λ q=>p.p.LS (q▸l)).trans e) λ Y Y Y Y e=>e,hS:=p.p.hS,hT:=p.p.hT,LS:=p.p.LS,LZ:=p.p.LZ,kz:=p.p.kz,hz:=p.p.hz}⟩
 ·have e:=e;rw[Qo]at e;refine fJ e (λ Y e=>nomatch e) λ i e=>?_;refine aG (p.p.loc.has y v ((m y i).trans e)) λ w z f=>?_;exact aL w ((aM λ q=>i (DT n q.symm).symm).trans z) (f.map (λ Y Y e=>e) λ c H ob q=>(d.2 c (p.p.loc.free c (p.p.loc.cell y c H)).2.2.1).trans q)
 ·show(lk y (j.filter λ p=>!decide (p.1=x))).isSome=ae;have i:y≠x:=λ q=>nomatch(q▸t:N.c y=none).symm.trans e;rw[Qo,aM i,<-m y i];exact p.p.loc.qa y c e
noncomputable def AK(g:G)(r:bh):Prop:=r.H=jQ\/(r.quiet=ai/\∃rq,Jd g r rq)
theorem YV{prm x u k d tk}(c:bU a q prm b h N X)(f:lI a.L X.s.heap d):bU a ai prm b h (N.gone x u k) (X.hp d tk):=
 ⟨{c.st with keep:=λ i ob l m j e=>(f.2 i j).trans (c.st.keep i ob l m j e),size:=aj c.st.size (cx f.1.symm)},⟨c.sm.os,c.sm.gens⟩,c.cc,(by intro n;cbv)⟩
theorem I3{x v V}(hv:az v=ae)(c:fT r x .none V=ae):fT r x v V=ae:=by
 unfold fT at*;rw[hv];exact c
theorem bj2{n k x v i J L o U pos E V Z}(Q:Jd g r rq)(hq:r.quiet=ai)(hx:nw a.sc.names k=aa x)(x0:bU a q r.prm b h N X)(p:Pr g r a N X)(a0:fT r x .none N.V=ae)(t:az v=ae)
  (l:CN g rq a N X h.s.heap v i o U)(w:rq.B (bZ a.sc.names n) (put x v N.V) X.O=.ok (.next,J,L))(hr:R.ok (.next,J.filter (λ p=>!decide (p.1=x)),L)=res):
  au g.M (a.DZ i).A (Gp a.env k (.ref i)) (λ Y s4=>au g.M (a.DZ i).A (qR n a.env) (λ f H=>au g.M a.A (do bindName a.env k oC;cm5 a.env k pos) (λ Y s=>fU g r a ai res b h f s) E H) V s4) Z o:=by
 refine bg (wF hx) λ j A=>?_;refine rC l.p j A (.val t l.vr) (by intros;cbv) λ h4 a8 a9 p4=>?_;refine bI (Q.B (a.DZ i) _ _ n _ p4 rfl (λ q=>(by cases(w.symm.trans q)))) (λ f H c=>?_) λ e H c=>?_
 ·refine aB λ Y B=>?_;obtain⟨f',d,C,rfl,c,m,en⟩:=c;replace c:=w.symm.trans c;obtain⟨⟩:=c;refine B ?_;cases en with|next p5=>?_
  have b0:=(vK (tk:=a8) (l.ss x0) a9 (BI (prm:=r.prm) p (FR.val (h:=o.heap) t l.vr) (I3 t a0)) (by intros;cbv)).no.trans (q':=ai) ⟨m.st,m.sm,λ z hz=>m.cc z (Q.prm▸hz),(by intro hQ;cbv)⟩;have c6:=λ y D=>by
   show(if y=x then none else d.c y)=d.c y;by_cases I:y=x
   ·rw[aT I,m.cc y (Q.prm▸D)];exact(aT I).symm
   ·exact aM I
  refine aq (Xd (rC (⟨p.ok,{p5.p with hz:=.inl (p.ok.hand hq)}⟩) j A (.val rfl .none) (by intros;cbv) λ h6 M b4 p6=>?_));refine aG (p6.p.loc.has x .none (by rw[show(d.set x .none .none none).V=put x .none d.V from rfl,wZ,aT rfl])) λ w6 O Y=>?_;rw[eC j]at O;unfold cm5;refine WL (wpAny_unbindName_local A p6.p.F.ns O (by rw[p.ok.kind];rfl) λ h7 u b5 T=>?_);exact⟨.next,(d.set x .none .none none).gone x u d.V,C.hp h7 M,rfl,hr.symm,YV (X:=C.hp h6 M) (vK b0 b4 c6 (by intros;cbv)) T,.next (p6.gone (MR j) (λ y D=>(wZ ..).trans (aM D)) (by simp only[Nt.gone,eC j];exact b5) T (aT rfl))⟩
 ·refine aB λ Y B=>?_;obtain⟨v,d,C,c,_⟩:=c;refine B ?_;cases w.symm.trans c
end
section
variable{g:G}{P:bW}{r rq:bh}{a:Act}{N A:Nt}{X I:Xt}{q:al}{res:RS}
structure XC(P:bW)(r:bh)(c:Nm)(x:ak Nm)(h:af IS)(e:IV×Loc×St)(xx:Nm)(d:Nm×af (Nm×IV))(V2:Loc)(O2:St)(res:RS):Prop where
 x:x=aa xx
 ex:e.1=.ba d.1 d.2
 sub:P.sub d.1 c=ae
 exc:(P.exc c).isSome=ae
 top:r.top=ae
 ok:fT r xx .none e.2.1=ae
 H:r.H h (put xx e.1 e.2.1) e.2.2=.ok (.next,V2,O2)
 res:R.ok (.next,V2.filter (λ p=>!decide (p.1=xx)),O2)=res
theorem be9{c x h z}(b:rL P r c x h (.ok z)=res):res=.ok z:=b.symm
theorem bx9{c x h e}(b:rL P r c x h (.exc e)=res)(i:res≠.stuck):∃k d m n,XC P r c x h e k d m n res:=by
 refine aB λ Y l=>?_;refine bQ b i λ k o b=>bQ b i λ d hd b=>cf b i λ j b=>?_;refine dG j λ j p=>?_;refine dG j λ j s=>?_;refine dG j λ t u=>?_;rcases q:r.H h (put k e.1 e.2.1) e.2.2 with _|_|z
 ·refine l ?_;rw[q]at b;exact absurd b.symm i
 ·refine l ?_;rw[q]at b;exact absurd b.symm i
 ·rw[q]at b;obtain⟨f,m,n⟩:=z;cases f with
  |next=>refine l ?_;exact⟨k,d,m,n,o,pk hd,t,u,s,p,q,b⟩
  |_=>refine l ?_;exact absurd b.symm i
theorem Ud{b i l cp B x m hp pos}(tx:qb g P)(IB:lW g r)(o:AK g r)(s:Pr g r a A I)(E:cy l=aa m)(a0:a.sc.names.lookup l=aa .globalImplicit)
  (hx:∀j,x=aa j->∃u,B=aa u/\nw a.sc.names u=aa j)(b7:i.isEmpty=ai)(c:kS P r (.ny (bZ a.sc.names b) m x (bZ a.sc.names i)) A.V I.O=res)(J:res≠.stuck):
  eY g r a ai res A I (dE (.Try b [.ExceptHandler (aa (.Name l cp)) B i hp] [] [] pos) a.env):=by
 replace c:rL P r m x (bZ a.sc.names i) (r.B (bZ a.sc.names b) A.V I.O)=res:=c;refine wpAny_Try_except (bI (IB a A I b _ s rfl (λ q=>J (by simp only[<-c,q];rfl))) (λ L k h=>?_) λ e k h=>?_)
 ·obtain⟨f,N,X,rfl,h,x,en⟩:=h;rw[h]at c;have z:fU g r a ai res A I L X.s:=⟨f,N,X,rfl,be9 c,x.no,en⟩
  clear en;cases L with
  |next=>exact Gk z
  |_=>exact z
 ·obtain⟨v,N,X,h,x,p,sm,ea,dN,C,fs,dx,es,n,base,FRs,gv,rfl,rfl,y,w⟩:=h;rw[h]at c;refine tT (bx9 c J) λ j d V2 O2 t=>?_;refine aG (hx j t.x) λ u a8 a9=>?_;refine a8▸?_;obtain o|⟨hq,rq,Q⟩:=o
  ·replace e:=t.H;rw[o]at e;cbv
  obtain⟨M,D,O,t2,t3,t4⟩:=tx.sub _ _ _ t.sub t.exc (by rw[<-(IV.noConfusion t.ex λ e Y=>e:dN=d.1)];exact y);rw[eC E]at O;have b0:=p.ok.top t.top;have T:=p.ok.fr;have pF:=w.pF;rw[b0]at T pF w;have U:=aj s.p.F.above (iA s.p.L);refine Ji T rfl pF λ h1 b4 u1=>GS b4 λ V H u2=>?_;have Z:=(w.up.trans u1).trans u2;obtain⟨Z2,w2⟩:=QW (s3:={k with heap:=V}) Q p ⟨sm.os,sm.gens⟩ y M U w H Z;refine wpAny_handleBy_cons (codeAny_handlers_test (xk (s:={k with heap:=V}) w2.p.p.F p.ok.K p.ok.T O ?_ p.ok.kind a0 (lJ E))) (by intro hQ;cbv);obtain⟨oe,vs,he,b5,_,_,_,_⟩:=id H.2.2.2;refine an5 (p.ok.K.keeps w2.p.p.F.keep) he b5 t2 t3 t4 ?_;obtain _|⟨b8,i⟩:=i
  ·cbv
  ·refine codeAny_handlers_suite_as (GS H λ h3 b6 u3=>?_);obtain⟨Z3,w3⟩:=QW (s3:={k with heap:=h3}) Q p ⟨sm.os,sm.gens⟩ y M U w b6 (Z.trans u3);have tH:=t.H;rw[Q.H]at tH;exact bj2 Q hq a9 x p t.ok rfl w3 tH t.res
end
section
variable{g:G}{P:bW}{r:bh}{a:Act}{N:Nt}{X:Xt}{q h:al}{res:RS}
theorem eY.less{t}(b:eY g r a q res N X t)(hp:h=ae->q=ae):eY g r a h res N X t:=
 bI b (λ Y Y ⟨f,c,d,i,b,x,e⟩=>⟨f,c,d,i,b,x.le hp,e⟩) λ Y Y x=>x
theorem xS{e V O k}(x:∀V O,r.E .bad V O=.stuck)(b:aY V (r.E e V O) k=res)(c:res≠.stuck):e≠.bad:=λ q=>qH b c (by rw[q];exact x _ _)
noncomputable def jl(g:G)(P:bW)(r:bh)(a:Act)(N:Nt)(X:Xt)(res:RS)(t:mP uK)(x:IS):Prop:=kS P r x N.V X.O=res->eY g r a (AP x) res N X t
section
variable(b:res≠.stuck)(p:Pr g r a N X)(e:∀V O,r.E .bad V O=.stuck)(d:bJ g r)
include b in
theorem jl.bad{t}:jl g P r a N X res t .bad:=λ x=>absurd x.symm b
include b p e d
theorem ar9{ex pos}:jl g P r a N X res (dE (.Expr ex pos) a.env) (.expr (ay a.sc.names ex)):=λ i=>by
 refine dW (G:=λ y=>y=res->_) (λ c j x=>?_) (λ Y x=>ZO d p (xS e x b) x b) i
 refine aB λ Y k=>?_
 revert j
 refine av λ s f=>bR λ l n=>?_
 subst n
 obtain⟨t,u,v,w,z,H,A,m⟩:=I4 f
 revert f
 refine av λ B o Y=>?_
 rw[m.as]at x
 refine k ?_
 rw[m.eq]
 exact(bm4 d e p m.nx m.lo m.nm m.pl m.li l x b).less λ q=>absurd q (by rw[<-m.eq,Qm o];exact Gd)
theorem af9{j x ex n pos}(o:oZ g P)(s:jj g r)(i:nw a.sc.names j=aa x):jl g P r a N X res (dE (.Assign [.Name j n] ex pos) a.env) (.asg x (ay a.sc.names ex)):=λ t=>by
 refine bg (wF i) λ i k=>?_
 refine dW (G:=λ y=>y=res->_) (λ c u f=>?_) (λ Y f=>al4 d p i k (xS e f b) f b) t
 refine aB λ Y v=>?_
 revert u
 refine av λ A l=>dQ λ fn w z=>?_
 subst z
 refine yU (Jy l) λ y B C D E m=>?_
 revert l
 refine av λ I H Y=>?_
 rw[m.as]at f
 refine v ?_
 rw[m.eq]
 exact(af1 o s d e p i k m.nm m.gl m.pl w f b).less λ q=>absurd q (by rw[<-m.eq,Vg H];exact Gd)
theorem av0{ex pos}:jl g P r a N X res (dE (.Return (aa ex) pos) a.env) (.ret (aa (ay a.sc.names ex))):=λ f=>by
 refine dW (G:=λ y=>aY _ y _=res->_) (λ l c x=>?_) (λ Y x=>K4 d p x b) f
 refine kL (bb6 (be8 c)) λ m k n i j=>?_
 refine i▸?_
 clear c
 subst j
 exact am5 d e p x b
theorem ab2{o i ex f pos}(tk:js g P):jl g P r a N X res (dE (.Assign [.Subscript o i f] ex pos) a.env) (.BC (ay a.sc.names o) (ay a.sc.names i) (ay a.sc.names ex)):=λ c=>by
 refine bQ c b λ s x j=>?_
 have x:=BE x
 refine jY (zP x) λ ob t u k l m n=>?_
 refine k▸?_
 rw[x,<-m]at c
 exact ay0 tk.ok d p l n (xS e j b) c b
theorem ap1{o i f pos}(tk:js g P):jl g P r a N X res (dE (.Delete [.Subscript o i f] pos) a.env) (.del (ay a.sc.names o) (ay a.sc.names i)):=λ c=>by
 refine bQ c b λ n x s=>?_
 have x:=BE x
 refine jY (zP x) λ ob t u j k l m=>?_
 refine j▸?_
 rw[x,<-l]at c
 exact ag7 tk.ok d p k m c b
end
end
section
variable{g:G}{P:bW}{r:bh}{a:Act}{N:Nt}{X:Xt}{q h:al}{res:RS}
theorem Th{e b}(x:GO e=aa b):∃p,e=.Subscript b.1 b.2 p:=aI (fM x) λ q x=>@VH (λ e=>∀q,(VH e q λ o i Y=>(o,i))=b->∃p,e=.Subscript b.1 b.2 p) e q (λ o i p q x=>x▸⟨p,rfl⟩) q x
theorem bh1{t ex env}(x:nP ex=none):Gs [t] ex env=fO none:=by
 replace x:(nP ex).isNone=ae:=by rw[x];rfl
 cases t with
 |Tuple b k p=>obtain _|_:=ex<;>first|rfl|cbv
 |List b p=>obtain _|_:=ex<;>first|rfl|cbv
 |_=>rfl
section
variable(b:res≠.stuck)(p:Pr g r a N X)(d:∀V O,r.E .bad V O=.stuck)(c:bJ g r)
include b p d c
theorem bk8{t ex pos}(tk:js g P)(o:jj g r)(l:(nP t).isSome=ae->nP ex=none):jl g P r a N X res (dE (.Assign [t] ex pos) a.env) (Py a.sc.names t (ay a.sc.names ex)):=by
 have B:=jl.bad (g:=g) (P:=P) (r:=r) (a:=a) (N:=N) (X:=X) b (t:=dE (.Assign [t] ex pos) a.env);refine dW (λ x i=>?_) (λ Y=>dW (λ s j=>?_) (λ Y=>dW (λ s j=>?_) (λ Y=>?_)))
 ·refine aI (oP i) λ y u=>?_;clear l;subst u;exact mI B λ x i=>af9 b p d c tk.c o i
 ·obtain rfl:=tj j;exact mI B λ n v=>tC B λ z f=>aa9 tk.r c p v (xS d f b) f b
 ·refine aI (Th j) λ H w=>w▸?_;exact ab2 b p d c tk
 ·refine mI B λ A m=>mI B λ C i f=>?_;refine lE (yz m) λ k D e=>?_;refine e▸?_;exact aw2 c p i (cf f b λ Y f=>xS d f b) (bh1 (l (by rw[m];rfl))) f b
theorem Q4{t ex pos}(tk:js g P)(f:jj g r):jl g P r a N X res (dE (.Assign [t] ex pos) a.env) (OA a.sc.names t ex (ay a.sc.names ex)):=
 dW (λ w i x=>W0 c p i (xS d x b) x b) λ Y=>tC (.bad b) λ e=>bk8 b p d c tk f λ j=>by
  rw[j]at e
  rcases q:nP ex with _|_
  ·rfl
  ·rw[q]at e;cbv
theorem bi3{t ex op pos}(tk:js g P):jl g P r a N X res (dE (.AugAssign t op ex pos) a.env) (Qx a.sc.names t op (ay a.sc.names ex)):=by
 have B:=jl.bad (g:=g) (P:=P) (r:=r) (a:=a) (N:=N) (X:=X) b (t:=dE (.AugAssign t op ex pos) a.env);refine dW (λ x e=>?_) λ Y=>mI B λ o i=>?_
 ·refine aI (oP e) λ s j=>?_;subst j;exact mI B λ x e f=>bg (wF e) λ k l=>bs7 c p k l f b
 ·obtain rfl:=tj i;exact mI B λ n m=>tC B λ u f=>bl1 tk.ok tk.r c p m f b
end
theorem bv1{b c pos}(x:res≠.stuck)(p:Pr g r a N X)(f:qb g P)(i:lW g r)(j:AK g r):jl g P r a N X res (dE (.Try b c [] [] pos) a.env) (PW a.sc.names (bZ a.sc.names b) c):=by
 obtain _|⟨n,c⟩:=c
 ·exact .bad x
 ·obtain⟨ct,o,C,hp⟩:=n;refine tC (.bad x) λ s=>mI (.bad x) λ D t=>?_;revert s;refine aV λ u d=>?_;obtain rfl:=gu u;revert t;refine av λ E v w=>?_;subst v;revert w;refine av λ I k z=>?_;refine aI (oP k) λ J H=>?_;clear k;subst H;obtain⟨l,m⟩:=HT (Je z);replace d:=mm _|>.mp d;obtain _|xs:=o
  ·exact λ e=>Ud f i j p l m (λ Y q=>(by cbv)) d e x
  ·exact mI (.bad x) λ L A e=>Ud f i j p l m (λ y B=>(aL xs rfl (A.trans B))) d e x
theorem ba2{c pos}(x:res≠.stuck)(p:Pr g r a N X)(e:bJ g r)(f:∀V O,r.E .bad V O=.stuck)(tk:js g P):jl g P r a N X res (dE (.Delete c pos) a.env) (Rf a.sc.names c):=
 mI (.bad x) λ t i=>mI (.bad x) λ b d=>by
  refine aI (Th d) λ k j=>?_
  clear d
  subst j
  rw[iF i]
  exact ap1 x p f e tk
theorem ae4(tk:js g P)(m:qb g P)(u:jj g r)(d:bJ g r)(n:lN g r)(k:lW g r)(v:AQ g r)(y:jI g r)(H:AK g r)(f:∀V O,r.E .bad V O=.stuck){A}:
  Ha g (jv P r A):=by
 intro a N X st res B x c;have p:=B.nx;replace x:kS P r (wN a.sc.names st) N.V X.O=res:=x
 suffices eY g r a (AP (wN a.sc.names st)) res N X (dE st a.env)from bI this (λ w o l=>l.un) λ e o l=>l.un
 cases st with
 |Expr e pos=>exact ar9 c p f d x
 |Pass pos=>exact x▸bm6 p
 |Break pos=>exact x▸bz5 p
 |Continue pos=>exact x▸ag5 p
 |Return e pos=>
  obtain _|e:=e
  ·exact x▸aw4 p
  ·exact av0 c p f d x
 |Assign C e pos=>
  refine mI (p:=jl g P r a N X res _) (.bad c) (λ t D=>?_) x;rw[iF D];exact Q4 c p f d tk u
 |AugAssign t op e pos=>exact bi3 c p f d tk x
 |If t I J pos=>exact C9 n k p x c
 |While t b s pos=>
  refine tC (p:=jl g P r a N X res _) (.bad c) (λ i x=>?_) x;rw[gu i];exact wpAny_While (pW (Nr n k v p x c) λ rs o z=>by obtain _|_:=rs<;>exact z)
 |For t L b s pos=>
  refine tC (p:=jl g P r a N X res _) (.bad c) (λ i=>mI (.bad c) λ M E x=>?_) x;rw[gu i];exact bf6 tk.r d y f E p x c
 |Raise e Q pos=>
  refine tC (p:=jl g P r a N X res _) (.bad c) (λ j=>mI (.bad c) λ e i x=>?_) x;simp only[lY j,i];exact U8 m d f p x c
 |Delete C pos=>exact ba2 c p d f tk x
 |Try b T s fin pos=>
  refine tC (p:=jl g P r a N X res _) (.bad c) (λ j=>?_) x;simp only[gu (aH j),gu (aP j)];exact bv1 c p m k H
 |_=>exact absurd x.symm c
end
structure vL(g:G)(P:bW):Prop where
 sup:∀f,P.sup=aa f->∃C fI,g.cA .bL=aa C/\mE g f fI/\MB g.K C C "__init__"=aa (aa (.ref fI))/\zG g.K (.ref fI)=aa (.type "function")/\fnIn g.K fI=ae/\il g.K Xe "thirdparty.any"=aa none
section
variable{g:G}{P:bW}{r:bh}{a:Act}{N:Nt}{X H:Xt}{q:al}{res:RS}{s:aZ}
theorem UJ{e b}(h:Cp e=aa b):e=.Call b.1 b.2.1 b.2.2.1 b.2.2.2:=aI (fM h) λ q h=>@Fz (λ e=>∀q,(Fz e q λ f as kw p=>(f,as,kw,p))=b->e=.Call b.1 b.2.1 b.2.2.1 b.2.2.2) e q (λ f as kw p q h=>h▸rfl) q h
theorem H8{s e}(h:Sq s=aa e):∃p,s=.Expr e p:=aI (fM h) λ q h=>@VK (λ s=>∀q,(VK s q λ e Y=>e)=e->∃p,s=.Expr e p) s q (λ e p q h=>h▸⟨p,rfl⟩) q h
theorem az9{e}(h:Sh e=ae):∃b d,e=.Call (.Name ("super":aN) b) [] [] d:=by
 refine aB λ Y f=>?_;revert h;refine gn λ c i=>aV λ j k=>?_;revert j;refine aV λ l m=>?_;revert k;refine gn λ x n o=>?_;refine aI (oP n) λ p t=>?_;refine f ?_;exact jT p c.2.2.2 (by simp only[UJ i,t,gu l,gu m,cH o])
structure G1(st:gd)(es:af bA)(p0 p1 ap ps pos:ey):Prop where
 eq:st=.Expr (.Call (.Attribute (.Call (.Name ("super":aN) p0) [] [] p1) ("__init__":aN) ap) es [] ps) pos
 pl:gq es []=ae
 ln:(ap.endLine==ps.line)=ae
theorem bl5{st i}(h:nQ st=aa i):∃d f j k pos,G1 st i d f j k pos:=by
 refine aB λ Y l=>?_;revert h;refine av λ e m=>av λ c n=>av λ b o=>bR λ x p=>?_;subst p;revert x;refine aV λ x t=>?_;revert x;refine aV λ x u=>?_;revert x;refine aV λ x v=>?_;revert x;refine aV λ x w=>?_;refine lE (az9 x) λ d f y=>?_;refine aI (H8 m) λ pos z=>?_;refine l ?_;exact⟨d,f,b.2.2,c.2.2.2,pos,by simp only[z,UJ n,tj o,y,cH w,gu v],u,t⟩
theorem be6{M A cd E env o name d pos x b Q}
  (k:gq x b=ae)(l:(d.endLine==pos.line)=ae)
  (h:_root_.PySem.wpAt M A cd (LU o name env (bM o env)) (λ f i=>∀pl,au M A (xw f name pl) (λ c j=>au M A (xy pos c.1 c.2 (kD pos (iN x env)) (jG pos (jH b env))) Q E j) E i) E s):
  _root_.PySem.wpAt M A cd (bM (.Call (.Attribute o name d) x b pos) env) Q E s:=by
 refine Xa (zD h (λ f i m=>Gg (aq (oI ?_))) λ Y Y e=>e);unfold methodCall;rw[Ox k];refine aq (kf (bI (m _) (λ c j n=>?_) λ Y Y e=>e));exact aq (Gb (by unfold cf5;simp[l]) n)
theorem ZL{w}(vr:VR g X.Z .obj w)(p:Pr g r a N X):∃h C b od,w=.ref h/\g.cA .bL=aa C/\InstAt X.s.heap h (dD C b) C (aa od):=by
 refine aB λ Y f=>?_;refine eh (vr.objs) λ C h b i c x=>?_;clear vr;subst i;have sc:=p.p.sc;refine f ?_;rcases e:X.O with _|k
 ·rw[e]at sc;exact absurd x (sc.2 _ _ _ c)
 ·rw[e]at sc;refine qI (sc) λ j l d m n cc sc=>?_;rw[<-aS (sc.cls.symm.trans c)]at x;rw[sc.uniq _ _ x];exact⟨_,_,_,_,rfl,sc.cls,p.zh sc.inst,rfl,rfl,sc.dict⟩
theorem J5{body u v whole Q E}(b:tG g a.sc a.fa a.cd a.cells)(p:Pr g r a N X)(y:lk .bq N.V=aa .obj)
  (h:∀j C z od d,g.cA .bL=aa C->VR g X.Z .obj (.ref j)->InstAt X.s.heap j z C od->d.get? X.s.heap.objs.size=aa (cm6 C j C)->Kept X.s.heap d->Q (.ref X.s.heap.objs.size) {X.s with heap:=d}):
  _root_.PySem.wpAt g.M a.A (.func body a.env) (LU (.Call (.Name "super" u) [] [] v) "__init__" a.env whole) Q E X.s:=by
 refine aB λ Y A=>?_;refine av4 (b.fn) λ oc od fd a9 ar B hp D=>?_;obtain⟨cc,b0,b4,vs,b5,b6,tf,J,L,M,O⟩:=b.code;refine af2 (b.cell) λ x C cls b7 b8 T U V n l Z=>?_;have i:=p.ok.K.keeps p.p.F.keep;refine aG (p.p.loc.has _ _ y) λ w hm f=>?_;have vr:=f.vr rfl;refine Bk (ZL vr p) λ j C' dx b9 a0 a8 I=>?_;clear f;subst a0;refine A ?_;cases n.symm.trans a8;obtain⟨m,o,t⟩:∃m,X.s.heap.get? C=aa m/\m.data=.cls T:=by
  unfold qS at l;split at l
  ·rename_i ho
   cases l;exact aL _ (i _ _ ho) rfl
  ·cbv
 refine PySem.ks_wpAt_super_base b.sup b.cls ⋯ rfl (i _ _ B) rfl hp J (i _ _ L) rfl M O b.top ?_;refine ks_loadName_global p.ok.kind b.sup (loadGlobal_builtin (p.ok.T.g.keeps p.p.F.keep) (mg_none_of p.ok.K p.ok.T.g b.To) (p.ok.T.b.keeps p.p.F.keep) ((p.ok.T.builtins _ (by decide+kernel)).trans (by decide+kernel:ci6 "super"=aa (.type "super"))) ⟨rfl,?_⟩);refine wpAny_loadName_free p.ok.kind b.cls U (aL _ (i _ _ V) rfl) ?_;rw[D];refine Mr p.ok.kind b.Vf p.p.F.ns hm ?_;refine PySem.ks_wpAny_isType_cls o t ⟨rfl,?_⟩;exact PySem.ks_wpAny_call_super o t I.at_ I.cls (λ c e=>by cbv) (uT i Z) λ d e k=>h _ _ _ _ d n vr I e k
theorem J7{h f x C e od}(I:Ms h x e C od)(k:∀b o,h.get? b=aa o->f.get? b=aa o):Ms f x e C od:=by
 obtain⟨i,j,l,c⟩:=I;refine⟨k _ _ i,j,l,?_⟩;rcases q:e.dict with _|d
 ·rw[q]at c;obtain _|_:=od<;>exact c
 ·rw[q]at c;obtain _|o:=od
  ·exact c
  ·exact k _ _ c
theorem Zp{i e C x l od pl Q E A}(X:g.K.In s.heap)(m:s.heap.get? i=aa (cm6 C e C))(I:InstAt s.heap e l C od)
  (b:MB g.K C C "__init__"=aa (aa (.ref x)))(n:zG g.K (.ref x)=aa (.type "function"))(o:il g.K Xe "thirdparty.any"=aa none)
  (h:Q (.ref s.heap.objs.size,[]) {s with heap:=s.heap.push (methodObj (.ref x) (.ref e)),toks:=s.toks+1}):au (bG g.prog g.w) A (xw (.ref i) "__init__" pl) Q E s:=by
 refine aB λ Y j=>?_;obtain⟨p,w,d,t,os⟩:=s;unfold MB at b;rcases c:qS g.K C with _|cd
 ·refine j ?_;rw[c]at b;cbv
 ·rw[c]at b;obtain⟨of,u,v⟩:∃of,p.get? x=aa of/\of.cls=.type "function":=by
   have f:(g.K.lookup x).map (·.cls)=aa (.type "function"):=n;rcases z:g.K.lookup x with _|of
   ·rw[z]at f;cbv
   ·rw[z]at f;exact aL of (X _ _ z) (aS f)
  refine j ?_;exact PySem.ks_wpAny_getMethod_super m (looks_opaque X o) (λ A Q E s k q=>aq ((Gi X c) A _ E s k (aR q))) rfl X b u v (ks_ne X I c) ⋯ h
theorem ad5(D:vL g P)(E:jj g r)(J:bJ g r)(L:∀V O,r.E .bad V O=.stuck){M}:Iu g (jv P r M):=by
 intro a N X body st es res d Q T b i;have p:=d.nx;refine zD (Q:=fU g r a ai res N X) (E:=EX g r a res N X) ?_ (λ w j h=>h.un) λ e j h=>h.un;refine aB λ Y U=>?_;refine bQ b i λ f Z b=>cf b i λ hg b=>?_;have b:=zd.trans b;refine mB ((aP hg)) λ v hv ho=>?_;rw[rj ho]at hv;refine GQ (D.sup f Z) λ C t a0 fo t1 t2 t3 t4=>?_;refine yU (bl5 T) λ p0 k ap ps pos c=>?_;refine U ?_;rw[c.eq];refine PySem.ks_wpAt_Expr_any (be6 c.pl c.ln (J5 Q p hv λ u C' ox od l a8 vr I m kp pl=>?_)) (by show(a.sc.kind==.module&&_)=ai;rw[p.ok.kind];rfl) rfl;obtain⟨⟩:=a0.symm.trans a8;refine bg (p.more (s2:={X.s with heap:=l}) ⟨rfl,rfl⟩ kp (iA (cq m))) λ y k=>?_;refine Zp (s:={X.s with heap:=l}) (p.ok.K.keeps k.p.F.keep) m (J7 I kp) t1 t2 t4 ?_;refine bg (k.Bz (o:=methodObj (.ref t) (.ref u)) (tk:=X.s.toks+1)) λ z p2=>?_;have ns:=qH b i;refine bI (Q:=dR g r a N Cs _ X) (Ab (first:=[]) (PH:=MethP g.K l.objs.size t (.ref u)) J L c.pl rfl (keeps_M t3) (y.trans z) p2 rfl ns λ vs us X3 n o ar A=>?_) (λ w j ⟨v,X',hs,h,x,d,rs⟩=>hs▸tA x d (by intro hQ;cbv) (sD b h).symm) λ e j h=>h.ex p (bU.refl (q:=ae)) b;have B:=n.st.keep _ _ (λ q=>Nat.not_lt.mpr (iA (cq m)) (p.wd.ww _ q)) (jd _ rfl);refine⟨⟨B,o.ok.K.keeps o.p.F.keep⟩,?_⟩;refine aG (ar.ops (aP (CJ A ns))) λ os ops a9=>?_;exact KD ((y.trans z).trans n) nofun rfl (UQ E o fo (.cons (.val rfl (vr.mono n.st.zz)) ops) a9 .nil A ns λ R h=>PySem.ks_codeAny_call_bound B h)
end
section
variable{g:G}{P:bW}{r:bh}
theorem am0(m:Iu g r)(n:lW g r){o}:Ac g (jv P r o):=by
 intro a N X st rest p res s t u x i;refine zD (Q:=fU g r a ai res N X) (E:=EX g r a res N X) ?_ (λ w v h=>h.un) λ e v h=>h.un;have x:=x;refine PySem.ks_wpAt_execs_cons (zD (m a N X (st::rest) st p _ s.nx t u rfl (Sd x i)) (λ j y h=>?_) λ e y h=>h.to λ e q=>OE x q);obtain⟨f,k,b,rfl,z,c,en⟩:=h;obtain⟨l,d⟩|⟨l,d⟩:=Na x z
 ·cases en with
  |next H=>exact Gg (bI (n a k b rest res H d i) (λ j A h=>h.pre c (by intro B;cbv)) λ e A h=>h.pre c)
  |_=>cbv
 ·have fin:fU g r a ai res N X j b.s:=⟨f,k,b,rfl,d,c,en⟩
  cases en with
  |next=>exact absurd rfl l
  |_=>exact fin
structure As(g:G)(r:bh):Prop where
 E:bJ g r
 T:lN g r
 S:Ha g r
 B:lW g r
 W:AQ g r
 F:jI g r
 U:Iu g r
 D:Ac g r
 bad:∀V O,r.E .bad V O=.stuck
theorem Tl{prm d C top q}:As g (Ed prm d C top q) where
 E:=λ Y Y Y Y Y Y h x=>absurd h.symm x
 T:=λ Y Y Y Y Y Y h x=>absurd h.symm x
 S:=λ Y Y Y Y Y Y h x=>absurd h.symm x
 B:=λ Y Y Y Y Y Y h x=>absurd h.symm x
 W:=λ Y Y Y Y Y Y Y h x=>absurd h.symm x
 F:=λ Y Y Y Y Y Y Y Y Y Y Y Y Y Y Y Y Y Y Y Y Y Y Y Y Y Y h x=>absurd h.symm x
 U:=λ Y Y Y Y Y Y Y Y Y Y h x=>absurd h.symm x
 D:=λ Y Y Y Y Y Y Y Y Y Y h x=>absurd h.symm x
 bad:=λ Y Y=>rfl
theorem Vh{r}(tk:js g P)(a:qb g P)(b:vL g P)(x:As g r)(h:jj g r)(c:AK g r)(d:af IS->Loc->St->RS):As g (jv P r d) where
 E:=Z7 tk h x.E x.T x.bad
 T:=D8 x.E x.T x.bad
 S:=ae4 tk a h x.E x.T x.B x.W x.F c x.bad
 B:=C7 x.S x.B
 W:=ah9 x.T x.B x.W
 F:=an7 x.B x.F
 U:=ad5 b h x.E x.bad
 D:=am0 x.U x.B
 bad:=λ Y Y=>rfl
structure Qp(r:bh)(prm:af Nm)(d:ah)(top q:al)(C:su):Prop where
 prm:r.prm=prm
 dep:r.dep=d
 top:r.top=top
 q:r.quiet=q
 C:r.C=C
theorem Ei{prm d top}:∀n,Qp (iB P prm d top n) prm d top ae yg/\(iB P prm d top n).H=jQ
 |0=>⟨⟨rfl,rfl,rfl,rfl,rfl⟩,rfl⟩
 |n+1=>let⟨⟨a,b,c,d,e⟩,_⟩:=Ei n;⟨⟨a,b,c,d,e⟩,rfl⟩
theorem PB(tk:js g P)(h:qb g P)(x:vL g P){prm d top}:∀n,As g (iB P prm d top n)
 |0=>Tl
 |n+1=>Vh tk h x (PB tk h x n) (.inl (Ei n).1.C) (.inl (Ei n).2) jQ
theorem qg{prm d C top}:∀n,Qp (pE P prm d C top n) prm d top ai C
 |0=>⟨rfl,rfl,rfl,rfl,rfl⟩
 |n+1=>let⟨a,b,c,d,e⟩:=qg n;⟨a,b,c,d,e⟩
theorem an1(tk:js g P)(h:qb g P)(x:vL g P){prm d C top}:∀n,AK g (pE P prm d C top n)
 |0=>.inl rfl
 |n+1=>let q:=(Ei (n+1)).1;let t:=qg n
  .inr ⟨t.q,iB P prm d top (n+1),(PB tk h x (n+1)).B,rfl,q.prm.trans t.prm.symm,q.dep.trans t.dep.symm,q.top.trans t.top.symm,q.q⟩
theorem Ej(tk:js g P)(h:qb g P)(x:vL g P){prm d C top}(a:zT g C d):∀n,As g (pE P prm d C top n)
 |0=>Tl
 |n+1=>Vh tk h x (Ej tk h x a n) (.inr ⟨(qg n).q,by rw[(qg n).C,(qg n).dep];exact a⟩) (an1 tk h x n) _
theorem IX(tk:js g P)(x:qb g P)(a:vL g P)(N:ah):∀d,zT g (iS P N d) d
 |0=>λ Y Y Y Y Y Y Y Y Y Y Y Y Y Y Y Y Y h b=>absurd h.symm b
 |d+1=>az5 (λ fn=>(Ej tk x a (IX tk x a N d) N).B) (λ fn=>(Ej tk x a (IX tk x a N d) N).D) (λ fn=>(qg N).prm) (λ fn=>(qg N).dep) λ fn=>(qg N).top
end
section
variable{g:G}{P:bW}{r:bh}{s:aZ}{Z:Zf}
structure CX(g:G)(s:aZ)(Z:Zf):Prop where
 K:g.K.In s.heap
 T:FF g.prog g.loose g.mg g.mb s.heap
 zh:∀b o,Z b=aa o->s.heap.get? b=aa o
 kz:∀b o,g.K.lookup b=aa o->Z b=aa o
 big:oE<s.heap.objs.size
 noS:∀C j D,g.cA .bL=aa C->Z j≠aa (dD C D)
theorem CX.fresh(t:CX g s Z):Z s.heap.objs.size=none:=Option.eq_none_iff_forall_ne_some.mpr λ o e=>qQ _ (cq (t.zh _ _ e))
theorem bn9{fn fa u us os b H X}(t:CX g s Z)(L:lW g r)(M:Ac g r)(d5:r.prm=fn.params)(hd:r.dep<=300)(N:mE g fn fa)(ops:dU g Z s.heap u us os)(O:dz os=[])
  (a:tP r fn u [] none=.ok ((.bool b,H),X)):gy g.M callerA (.call (.ref fa) ⟨us,[]⟩) (λ rs d=>rs=.ok (.ret (.bool b))/\Kept s.heap d.heap/\Sm s d) s:=by
 refine aB λ Y j=>?_;obtain⟨oc,od,d6,nm,q,as,Q,T,body,sc,cl,U,V,a0,pm,an,cd,ct,a8,a9,b0,ha,A,b4,b5,b6,b7,nd,b8⟩:=N;have k:(R.ok ((IV.bool b,H),X):R (IV×St) ((IV×Loc)×St))≠.stuck:=(by intro c;cbv)
 refine cf a k λ b9 a=>bQ a k ?_;clear a;intro B C a;have names:=zQ C;refine aG (Pz (fd:=fnX nm q ⟨[],as,none,[],Q,none,T⟩ body sc cl U V a0 pm an cd ct) rfl ha nd b8 t.K t.kz ops .nil (bE b9) C) λ l c7 br=>?_;have c8:∀y∈l,sc.names.lookup y.1=aa .local:=λ y hy=>by
  have:=pV (f:=oL) hy;rw[br.names]at this;refine aG (List.mem_map.mp this) λ z hz e=>?_;rw[<-e];exact b7 z.1 (by rw[<-names];exact pV hz)
 refine j ?_;refine ch1 ⋯ (t.K _ _ a8) rfl t.T.nolimit (WG t.K a9) rfl c7 b6 c8 (λ c9 D i=>?_) b4 b5 A;have E:(B.map λ x=>strOf x.1).Nodup:=by simp only[<-names,zB]at nd;exact nd
 have p:Pr g r ⟨q,sc,s.heap.objs.size,fa,cd,cl,callerA.deeper (envX q sc s.heap.objs.size fa cd cl),s.heap,[],300⟩ ⟨λ x=>l.reverse.lookup x,B,[],lr fn.params os⟩ ⟨none,Z,[],{s with heap:=c9,toks:=s.toks+l.length}⟩:=by
  have m:∀x b,lr fn.params os x≠aa b:=λ x b e=>(by cases((O▸(Cx e).1:b∈[])))
  refine⟨⟨A,t.K,t.T,ch0 rfl,trivial,hd,λ Y=>rfl,λ Y=>rfl,by show(1+claimMargin)+1+2*300+8<LD;decide,by show 4+3+64<BX;decide,by show 4+3+64+16*300<BX;decide⟩,
   ⟨⟨D,λ b o e=>i b o e,ca _⟩,⟨λ b o e=>i b o (t.zh b o e),(by intros;cbv),(by intros;cbv),jc t.big (iA D.lt)⟩,⟨λ x v e=>?_,λ x b e=>absurd e (m x b),λ x b e=>absurd e (m x b),(by intros;cbv),λ x y b e Y=>absurd e (m x b)⟩,⟨rfl,t.noS⟩,(by intros;cbv),(by intros;cbv),(by intro c;cases c),t.fresh,t.kz,.inl rfl⟩⟩
  refine aG (br.has E x v e) λ w n I=>?_;rw[names]at I;exact aL w ((WD _ (br.names▸E) _).trans n) (I.map (λ Y Y e=>e) λ b Y=>i b)
 refine zD (Ug L M b0 rfl rfl rfl rfl p rfl (λ e=>k (by simp only[<-a,e];rfl))) (λ fl d h=>?_) λ e d h=>?_
 ·obtain⟨pu,f,N',J,rfl,n,x,e⟩:=h;replace a:=(aD eW n).symm.trans a;have kp:Kept s.heap J.s.heap:=λ b o q=>x.st.keep b o (by intro c;cases c) (by intro c;cases c) (λ e=>qQ _ (e▸cq q)) (i b o q);cases e with
  |brk=>cases a
  |cont=>cases a
  |next pe=>cases a
  |ret rp=>
   refine aB λ Y j=>?_;cases a;refine aG (rp.val) λ o f Y=>?_;refine j ?_;cases f.vr rfl;exact dB rfl kp (⟨x.sm.os,x.sm.gens⟩)
 ·obtain⟨v,N',J,h,_⟩:=h;exact(by cases((aD eW h).symm.trans a))
end
noncomputable def QP(x:aN):Nm:=(cy x).getD ⟨999⟩
noncomputable def qd(l:af Arg)(e:af bA):af (Nm×IV):=((l.drop (l.length-e.length)).zip e).map λ p=>(QP p.1.arg,((CB p.2).bind yf).getD .none)
noncomputable def iH(s:gd):Fn:=⟨(lz s).args.map λ a=>QP a.arg,qd (lz s).args (lz s).defaults,GY (iC s).names (rm s)⟩
noncomputable def jq(s:gd):af Nm×af (Nm×IV):=((iH s).params.tail,(iH s).dflt)
noncomputable def Ln:af Nm:=[.vC,.uq,.Lf,.KU,.oi,.mA,.qr,.IZ,.DF,.pI,.mv,.iI,.yX,.zV,.fS,.iU,.yK,.JL,.SH,.Hb]
noncomputable def Ek(c:Nm):af Nm:=bif aX c.id Nm.bL.id then Ln else bif aX c.id Nm.oh.id then(jq sk.s).1 else bo (lk c jX) (λ e=>(jq e.2.s).1) []
noncomputable def aC:bW where
 bx m:=(lk m ry).map λ e=>iH e.s
 fn f:=(lk f tI).map λ e=>iH e.s
 ba c:=(lk c jX).map λ e=>jq e.2.s
 oa c f:=bif aX f.id Nm.ni.id then lk c rS else none
 sub c d:=aX c.id d.id
 con x:=bif aX x.id Nm.AB.id then aa (.bN wB)else none
 cZ c f:=(Ek c).any λ x=>aX x.id f.id
 exc c:=bif aX c.id Nm.oh.id then aa (jq sk.s)else none
 sup:=aa (iH vR.s)
noncomputable def wg(c:Nm):ak aA:=bif aX c.id Nm.bL.id then aa jM else bif aX c.id Nm.oh.id then aa nA else(lk c jX).map λ e=>e.1
noncomputable def gI(w:fE)(loose:af aN)(mean:VV->ak ao)(mg mb:aN->ak ao):G:=⟨pw,w,Kf w.params,wg,loose,mean,mg,mb⟩
section
variable{h a:Type}
theorem ib{x l}{v:h}(b:lk x l=aa v):(x,v)∈l:=by
 induction l with
 |nil=>cbv
 |cons y l c=>exact fJ b (λ e b=>by cases b;rw[e];exact .head _) λ Y b=>.tail _ (c b)
theorem wJ{f g:h->a}{l:af h}(b:l.map f=l.map g):∀x∈l,f x=g x:=List.map_inj_left.mp b
end
noncomputable def KT(K:dc)(df:ao):ak (af ao):=match df with
 |.none=>aa []
 |.ref T=>(match K.lookup T with|some ⟨_,_,.seq h _,_⟩=>aa h.toList|_=>none)
 |_=>none
noncomputable def Qn(v:IV)(w:ao):al:=(v.cL&&w==.none)||v.cn.any λ i=>match w with|.int j _=>decide (i=j)|_=>ai
noncomputable def An(K:dc)(df:ao)(h:af Nm)(b:af (Nm×IV)):al:=(KT K df).any λ a=>decide (a.length<=h.length)&&b.all λ x=>(((h.map strOf).drop (h.length-a.length)).zip a).lookup (strOf x.1)|>.any (Qn x.2)
noncomputable def OI(A:Arguments):al:=A.posonlyargs.isEmpty&&(A.vararg.isNone&&(A.kwonlyargs.isEmpty&&A.kwarg.isNone))
noncomputable def Au(K:dc)(e:FE)(more h:af Nm):al:=OI (lz e.s)&&(decide ((lz e.s).args.map (·.arg)=(more++h).map strOf)&&(decide ((iC e.s).kind=.function)&&(!(iC e.s).isCoroutine&&(!(iC e.s).isGenerator&&((iC e.s).names.all (λ x=>decide (x.2≠.cell))&&
 ((more++h).all (λ p=>decide ((iC e.s).names.lookup (strOf p)=aa .local))&&(decide (((more++h).map strOf).Nodup)&&Mk K (.ref (e.a-1)) (qn e.c (uD e.s)))))))))
structure BodyOk(K:dc)(e:FE)(more ps:af Nm):Prop where
 args:lz e.s=⟨[],(lz e.s).args,none,[],(lz e.s).kw_defaults,none,(lz e.s).defaults⟩
 names:(lz e.s).args.map (·.arg)=(more++ps).map strOf
 kind:(iC e.s).kind=.function
 co:(iC e.s).isCoroutine=ai
 gen:(iC e.s).isGenerator=ai
 cell:∀x∈(iC e.s).names,x.2≠.cell
 loc:∀p∈more++ps,(iC e.s).names.lookup (strOf p)=aa .local
 nd:((more++ps).map strOf).Nodup
 code:Mk K (.ref (e.a-1)) (qn e.c (uD e.s))=ae
theorem bx0{A}(h:OI A=ae):A=⟨[],A.args,none,[],A.kw_defaults,none,A.defaults⟩:=by
 revert h;refine aV λ x=>aV λ a=>aV λ b c=>?_;obtain⟨d,as,e,f,g,kw,i⟩:=A;have x:d=[]:=gu x;have a:e=none:=lY a;have b:f=[]:=gu b;have c:kw=none:=lY c;simp only[x,a,b,c]
theorem not_true{b}(h:(!b)=ae):b=ai:=(mm b).mp h
theorem Rg{K e more a}(h:Au K e more a=ae):BodyOk K e more a:=by
 refine aB λ Y b=>?_;revert h;refine aV λ c=>aV λ d=>aV λ f=>aV λ g=>aV λ i=>aV λ j=>aV λ k=>aV λ l m=>?_;refine b ?_;exact⟨bx0 c,bE d,bE f,not_true g,not_true i,λ x n=>bE (List.all_eq_true.mp j x n),λ p hp=>bE (List.all_eq_true.mp k p hp),bE l,m⟩
section
variable{g:G}{e:FE}
theorem ab6{Z v w}(h:Qn v w=ae):VR g Z v w:=by
 obtain h|h:=gV h
 ·revert h;refine aV λ a x=>?_;simp only[rZ a,cH x];exact .none
 ·revert h;refine gn λ i a x=>?_;rw[dY a];clear h;cases w with
  |int j t=>rw[bE x];exact .int j t
  |_=>cases x
theorem bf1{K df a}(h:KT K df=aa a):(df=.none/\a=[])\/∃T o x n,df=.ref T/\K.lookup T=aa o/\o.data=.seq x n/\x.toList=a:=by
 cases df with
 |none=>cases h;exact .inl ⟨rfl,rfl⟩
 |ref T=>
  unfold KT at h;dsimp only at h;rcases q:K.lookup T with _|o
  ·rw[q]at h;cbv
  ·obtain⟨c,d,b,f⟩:=o;rw[q]at h;cases b with
   |seq x n=>cases h;exact .inr (EU T _ x n rfl q rfl rfl)
   |_=>cbv
 |_=>cbv
theorem TI{df}{fn:Fn}(h:An g.K df fn.params fn.dflt=ae):zU g df fn:=by
 revert h;refine gn λ x a=>aV λ b c=>?_;refine ec x (bf1 a) (bE b) (λ p v hp=>?_);refine mB (List.all_eq_true.mp c _ (ib hp)) λ w d f=>?_;exact aL w d (ab6 f)
theorem Nh(b:BodyOk g.K e more x)(h:g.K.lookup e.a=aa e.obj):g.K.lookup e.a=aa ⟨.type "function",none,.func (fnX (uD e.s) (qn e.c (uD e.s)) ⟨[],(lz e.s).args,none,[],(lz e.s).kw_defaults,none,(lz e.s).defaults⟩ (rm e.s) (iC e.s) e.cl e.df .none .none e.pm none (.ref (e.a-1)) e.ct),#[]⟩:=by
 rw[<-b.args];exact h
theorem bb3{sc l Q}(x:(l.head?.bind nQ).isNone=ae\/Q):GY sc l=bZ sc l\/∃st rest h,l=st::rest/\nQ st=aa h/\GY sc l=.nD (bV sc h)::bZ sc rest/\Q:=by
 obtain _|⟨st,rest⟩:=l
 ·exact .inl rfl
 ·refine dW (G:=λ y=>y=bZ sc (st::rest)\/∃a b h,st::rest=a::b/\nQ a=aa h/\y=.nD (bV sc h)::bZ sc b/\Q) (λ h c=>?_) λ Y=>.inl rfl;refine x.elim (λ x=>?_) λ x=>.inr (oy st rest h rfl c rfl x);rw[show(List.head? (st::rest)).bind nQ=aa h from c]at x;cbv
theorem O6(h:g.K.lookup e.a=aa e.obj)(x:Au g.K e [] (iH e.s).params=ae)(a:An g.K e.df (iH e.s).params (iH e.s).dflt=ae)(c:((rm e.s).head?.bind nQ).isNone=ae\/tG g (iC e.s) e.a (.ref (e.a-1)) e.cl):mE g (iH e.s) e.a:=by
 have b:=Rg x;exact⟨_,_,_,_,_,_,_,_,rm e.s,iC e.s,e.cl,_,_,_,_,_,_,_,Nh b h,b.code,bb3 c,b.names,b.kind,b.co,b.gen,b.cell,b.loc,b.nd,TI a⟩
theorem ad2{C h x}(a:g.K.lookup e.a=aa e.obj)(c:Au g.K e [.bq] h=ae)(d:An g.K e.df h x=ae)(f:iM g.K (.ref C) "__init__"=aa (aa (.ref e.a)))(i:Cj g.K (.ref e.a)=ae)
  (j:rF (iC e.s).names (rm e.s) h=ae)(k:∀p∈h,wo g.K C (strOf p)/\pM p=ae)(l:h.length<=800):rH g C h x e.a:=
 have b:=Rg c
 ⟨_,_,_,_,_,_,_,_,_,_,iC e.s,e.cl,_,_,_,_,_,_,_,f,i,⟨Nh b a,rfl,b.code,b.names,b.kind,b.co,b.gen,b.cell,b.loc,b.nd,TI d,j,k,l⟩⟩
end
section
variable(P:uH)
theorem Sl:(ry.map λ x=>(Kf P).lookup x.2.a)=ry.map λ x=>aa x.2.obj:=∅
theorem ao0:(tI.map λ x=>(Kf P).lookup x.2.a)=tI.map λ x=>aa x.2.obj:=∅
theorem X9:(jX.map λ x=>(Kf P).lookup x.2.2.a)=jX.map λ x=>aa x.2.2.obj:=∅
theorem Qj:([vR,sk].map λ x=>(Kf P).lookup x.a)=[vR,sk].map λ x=>aa x.obj:=∅
theorem YR:(EP.map λ x=>(Kf P).lookup x.1)=EP.map λ x=>aa x.2:=∅
noncomputable def DN(K:dc)(e:FE):al:=Au K e [] (iH e.s).params&&An K e.df (iH e.s).params (iH e.s).dflt
theorem Zb:(ry.all λ x=>DN (Kf P) x.2)=ae:=∅
theorem bg0:(tI.all λ x=>DN (Kf P) x.2)=ae:=∅
theorem Yh:DN (Kf P) vR=ae:=∅
noncomputable def Yw(K:dc)(x:Nm×FE):al:=qP K jM (strOf x.1)&&(iM K (.ref jM) (strOf x.1)==aa (aa (.ref x.2.a))&&(Cj K (.ref x.2.a)&&qV K (.ref x.2.a)))
theorem ab9:(ry.all λ x=>Yw (Kf P) x)=ae:=∅
noncomputable def U2(K:dc)(x:Nm×FE):al:=il K gX (strOf x.1)==aa (aa (.ref x.2.a))&&qV K (.ref x.2.a)
theorem bd9:(tI.all λ x=>U2 (Kf P) x)=ae:=∅
noncomputable def Fb(e:FE):al:=((rm e.s).head?.bind nQ).isNone
theorem bf0:(ry.tail.all λ x=>Fb x.2)=ae:=∅
theorem ae7:(tI.all λ x=>Fb x.2)=ae:=∅
theorem E4:Fb vR=ae:=∅
noncomputable def Lc(K:dc)(C:aA)(f:Nm):al:=iM K (.ref C) "__setattr__"==aa (aa (.builtin "object.__setattr__"))&&(vw K C&&(zF K C (strOf f)==aa none&&(mQ K C&&pM f)))
noncomputable def Ih(K:dc)(C:aA)(e:FE):al:=Au K e [.bq] (jq e.s).1&&(An K e.df (jq e.s).1 (jq e.s).2&&(iM K (.ref C) "__init__"==aa (aa (.ref e.a))&&(Cj K (.ref e.a)&&(rF (iC e.s).names (rm e.s) (jq e.s).1&&((jq e.s).1.all (Lc K C)&&decide ((jq e.s).1.length<=800))))))
noncomputable def Vj(K:dc)(x:Nm×ah×FE):al:=Gh K x.2.1&&(qV K (.ref x.2.1)&&(decide (jM≠x.2.1)&&(Ih K x.2.1 x.2.2&&il K gX (strOf x.1)==aa (aa (.ref x.2.1)))))
theorem bw2:(jX.all λ x=>Vj (Kf P) x)=ae:=∅
theorem bt7:(jX.all λ x=>wg x.1==aa x.2.1)=ae:=∅
noncomputable def IY(K:dc)(C:aA)(f:Nm):al:=qP K C (strOf f)&&(mQ K C&&(iM K (.ref C) (strOf f)).any λ a=>FI K a)
theorem aq3:(jX.all λ x=>(jq x.2.2.s).1.all (IY (Kf P) x.2.1))=ae:=∅
theorem NY:(Ln.all (IY (Kf P) jM))=ae:=∅
theorem bv4:(Ln.all (Lc (Kf P) jM))=ae:=∅
theorem I2:(jX.all λ x=>jX.all λ y=>bif aX x.1.id y.1.id then isIn (Kf P) (.ref x.2.1) y.2.1 else BD (Kf P) x.2.1 y.2.1)=ae:=∅
noncomputable def Rl(K:dc)(C:aA)(f:Nm):al:=Ft K C&&(mQ K C&&(iM K (.ref C) (strOf f)).any λ a=>FI K a)
theorem Yy:((jq sk.s).1.all (Rl (Kf P) nA))=ae:=∅
noncomputable def MV(v:IV)(w:ao):al:=v.de.any λ s=>match w with|.str y _=>decide (y.cps.toList=s)|_=>ai
noncomputable def Y7(K:dc)(x:Nm×IV):al:=(lk x.1 jX).any λ e=>qP K e.1 (strOf .ni)&&(mQ K e.1&&(iM K (.ref e.1) (strOf .ni)).any λ o=>o.any λ w=>FJ K w "__get__"==aa none&&(FK w&&MV x.2 w))
theorem H5:(rS.all (Y7 (Kf P)))=ae:=∅
theorem bp1:copiedNames.contains (strOf .ni)=ai:=∅
noncomputable def ae9(K:dc)(n:Nm):al:=il K gX (strOf n)==aa none
theorem Ym:([Nm.mW,.ij,.kJ,.mZ,.jR,.si].all (ae9 (Kf P)))=ae:=∅
theorem YO:(il (Kf P) gX (strOf .AB)==aa (aa (Bo (.bN wB) 1072 1774).1))=ae:=∅
theorem Hs:(il (Kf P) gX (strOf .bL)==aa (aa (.ref jM))&&(Gh (Kf P) jM&&qV (Kf P) (.ref jM)))=ae:=∅
theorem PI:(uA (Kf P) nA&&(qV (Kf P) (.ref nA)&&(zG (Kf P) (.ref nA)==aa (.type "type")&&(Ih (Kf P) nA sk&&(!(jq sk.s).1.isEmpty&&(il (Kf P) gX (strOf .oh)==aa (aa (.ref nA))&&
 (Gn (Kf P) (.ref nA) (.type "tuple")==aa ai&&qO (Kf P) nA (.ref nA)==aa ae)))))))=ae:=∅
theorem bi4:(MB (Kf P) jM jM "__init__"==aa (aa (.ref 144))&&(zG (Kf P) (.ref 144)==aa (.type "function")&&(fnIn (Kf P) 144&&il (Kf P) Xe "thirdparty.any"==aa none)))=ae:=∅
theorem ac4:Ii (.bN wB)=ae:=∅
theorem aq2:(jX.all λ x=>!(aX x.1.id Nm.bL.id||aX x.1.id Nm.oh.id))=ae:=∅
theorem by9:(Kf P).lookup 549=aa wQ.code:=∅
theorem ZA:(Kf P).lookup 538=aa {cls:=.type "cell",data:=.cell (aa (.ref jM))}:=∅
theorem bu5:qS (Kf P) jM=aa {name:="Scanner",bases:=[.ref 192],mro:=[.ref 1048,.ref 192,.type "object"],ns:=1047,qualname:="Scanner",subclasses:=[]}:=∅
noncomputable def ar8(o:cP):al:=match o.data with|.plain=>ai|_=>ae
theorem at8:((Kf P).all λ x=>ar8 x.2)=ae:=∅
end
theorem bP{a:Type}{p}{l:af a}(h:l.all p=ae){x}(b:x∈l):p x=ae:=List.all_eq_true.mp h x b
theorem nC{a b:Nm}(h:aX a.id b.id=ae):a=b:=by
 exact aD Nm.mk (mS h)
theorem Bv{a:Type}{b x}{y:a}(h:(bif b then aa x else none)=aa y):b=ae/\x=y:=by
 obtain _|_:=b
 ·cbv
 ·exact⟨rfl,aS h⟩
mutual
theorem Qc{g Z}:∀(v:IV)(a t:ah),Ii v=ae->(∀x∈(Bo v a t).2.1,Z x.1=aa x.2)->VR g Z v (Bo v a t).1
 |.none,_,_,_,_=>.none
 |.bool _,_,_,_,_=>.bool _
 |.int _,_,_,_,_=>.int _ _
 |.str s,_,t,_,_=>VR.xO rfl
 |.tup l,a,t,h,hz=>.tup (hz _ (nJ _ (.head _))) (AN (g:=g) l a t h λ x b=>hz x (oK _ b)).1 (AN l a t h λ x b=>hz x (oK _ b)).2
 |.bN l,a,t,h,hz=>.bN (hz _ (nJ _ (.head _))) (AN (g:=g) l a t h λ x b=>hz x (oK _ b)).1 (AN l a t h λ x b=>hz x (oK _ b)).2
theorem AN{g Z}:∀(l:af IV)(a t:ah),KJ l=ae->(∀x∈(Af l a t).2.1,Z x.1=aa x.2)->bD g Z l (Af l a t).1
 |[],_,_,_,_=>.nil
 |v::l,a,t,h,hz=>.cons (Qc v a t (ej h).1 λ x b=>hz x (oK _ b)) (AN l _ _ (ej h).2 λ x b=>hz x (nJ _ b))
end
section
variable(w:fE)(loose:af aN)(mean:VV->ak ao)(mg mb:aN->ak ao)
noncomputable abbrev gT:G:=gI w loose mean mg mb
theorem zY{c e}(h:lk c jX=aa e):wg c=aa e.1:=by
 exact cH (bP bt7 (ib h))
theorem Hv{e:FE}(x:(Kf w.params).lookup e.a=aa e.obj)(h:DN (Kf w.params) e=ae)(a:Fb e=ae\/tG (gT w loose mean mg mb) (iC e.s) e.a (.ref (e.a-1)) e.cl):mE (gT w loose mean mg mb) (iH e.s) e.a:=
 O6 x (ej h).1 (ej h).2 a
theorem PK{K C f}(h:Lc K C f=ae):wo K C (strOf f)/\pM f=ae:=by
 refine aB λ Y x=>?_;revert h;refine aV λ a=>aV λ b=>aV λ c=>aV λ d e=>?_;refine x ?_;exact⟨⟨cH a,b,cH c,d⟩,e⟩
theorem Ub{C}{e:FE}(x:(Kf w.params).lookup e.a=aa e.obj)(h:Ih (Kf w.params) C e=ae):rH (gT w loose mean mg mb) C (jq e.s).1 (jq e.s).2 e.a:=by
 refine aB λ Y a=>?_;revert h;refine aV λ b=>aV λ c=>aV λ d=>aV λ f=>aV λ g=>aV λ i j=>?_;refine a ?_;exact ad2 x b c (cH d) f g (λ p hp=>PK (bP i hp)) (bE j)
theorem zm{n:Nm}(h:n∈[Nm.mW,.ij,.kJ,.mZ,.jR,.si]):il (Kf w.params) gX (strOf n)=aa none:=cH (bP (Ym w.params) h)
theorem E1{g Z v y}(h:MV v y=ae):VR g Z v y:=by
 revert h;refine gn λ s a b=>?_;rw[gb a];cases y with
 |str x t=>exact VR.xO (bE b)
 |_=>cbv
theorem ap2:tG (gT w loose mean mg mb) (iC wQ.s) wQ.a (.ref (wQ.a-1)) wQ.cl where
 sup:=by kernel_rfl
 cls:=by kernel_rfl
 Vf:=by kernel_rfl
 To:=by kernel_rfl
 top:=by kernel_rfl
 fn:=(XG (.type "function") none _ (#[]) ((lz wQ.s).args.headD BP) (wJ (Sl w.params) _ (.head _)) ∅ ∅)
 code:=⟨549,.type "code",none,_,#[],Jg,1012,rfl,by9 w.params,by kernel_rfl,by kernel_rfl⟩
 cell:=(bc2 538 jM (.type "cell") none (#[]) _ ∅ (ZA w.params) rfl (bu5 w.params) ∅)
theorem Qa{c e}(h:lk c jX=aa e):Vj (Kf w.params) (c,e)=ae/\(Kf w.params).lookup e.2.a=aa e.2.obj:=
 ⟨bP (bw2 w.params) (ib h),wJ (X9 w.params) _ (ib h)⟩
theorem Fg{c x}(h:aC.ba c=aa x):∃e,lk c jX=aa e/\jq e.2.s=x:=wc h
theorem kz(b:aA)(o:cP)(h:(b,o)∈EP):(Kf w.params).lookup b=aa o:=wJ (YR w.params) _ h
theorem RP{K C f}(h:IY K C f=ae):(qP K C (strOf f)=ae\/Ft K C=ae)/\mQ K C=ae/\∃attr,iM K (.ref C) (strOf f)=aa attr/\FI K attr=ae:=
 (dB (.inl (aH h)) (aH ((aP h))) (Sx (aP ((aP h)))))
theorem av1{K C f}(h:Rl K C f=ae):(qP K C (strOf f)=ae\/Ft K C=ae)/\mQ K C=ae/\∃attr,iM K (.ref C) (strOf f)=aa attr/\FI K attr=ae:=
 (dB (.inr (aH h)) (aH ((aP h))) (Sx (aP ((aP h)))))
theorem IQ{c C}(h:wg c=aa C):(c=.bL/\C=jM)\/(c=.oh/\C=nA)\/∃e,lk c jX=aa e/\e.1=C:=by
 unfold wg at h;refine aB λ Y x=>?_;rcases a:aX c.id Nm.bL.id with _|_
 ·rw[a]at h;rcases b:aX c.id Nm.oh.id with _|_
  ·refine x ?_;rw[b]at h;exact .inr (.inr (wc h))
  ·refine x ?_;rw[b]at h;exact .inr (.inl ⟨nC b,(aS h).symm⟩)
 ·refine x ?_;rw[a]at h;exact .inl ⟨nC a,(aS h).symm⟩
theorem Ak{c f:Nm}(h:aC.cZ c f=ae):f∈Ek c:=by
 refine aG (List.any_eq_true.mp h) λ x a b=>?_;exact nC b▸a
theorem aj9{c e}(h:lk c jX=aa e):Ek c=(jq e.2.s).1:=by
 have x:(aX c.id Nm.bL.id||aX c.id Nm.oh.id)=ai:=not_true (bP aq2 (ib h));refine bg (Bool.or_eq_false_iff.mp x) λ x a=>?_;unfold Ek;simp only[x,a,h];rfl
theorem Y3:lV (gT w loose mean mg mb) aC where
 con n v h:=by
  refine aB λ Y d=>?_;refine bg (Bv h) λ b i=>?_;subst i;refine d ?_;rw[nC b];exact⟨rfl,_,cH (YO w.params),Qc _ _ _ ac4 λ x j=>kz w x.1 x.2 j⟩
 cls n h:=by
  refine aB λ Y d=>?_;refine aI (fY h) λ x h=>?_;refine aG (Fg h) λ e h Y=>?_;refine bg (Qa w h) λ a Y=>?_;refine d ?_;exact aL e.1 (zY h) (cH (ej (aP ((aP ((ej a).2))))).2)
 RG f C g a:=by
  obtain⟨_,rfl⟩|⟨e,_⟩|⟨e,h,_⟩:=IQ (show wg .bL=aa C from a)
  ·exact(aH (bP (NY w.params) (Ak g)))
  ·cbv
  ·cbv
 cZ c f C g a:=by
  obtain⟨rfl,rfl⟩|⟨rfl,rfl⟩|⟨e,h,rfl⟩:=IQ (a)
  ·exact RP (bP (NY w.params) (Ak g))
  ·exact av1 (bP (Yy w.params) (Ak g))
  ·exact RP (bP (bP (aq3 w.params) (ib h)) (aj9 h▸Ak g))
 QU c f v C h a:=by
  rcases q:aX f.id Nm.ni.id with _|_
  ·rw[show aC.oa c f=none from by show(bif aX f.id Nm.ni.id then lk c rS else none)=none;rw[q];rfl]at h;cbv
  ·refine aB λ Y d=>?_;have h:(bif aX f.id Nm.ni.id then lk c rS else none)=aa v:=h;rw[q]at h;refine mB (bP (H5 w.params) (ib h)) λ e k b=>?_;rw[(aS ((zY k).symm.trans a))]at b;revert b;refine aV λ b=>aV λ l=>gn λ o m=>gn λ y p=>aV λ r=>aV λ s t=>?_;refine d ?_;rw[nC q];exact⟨b,l,y,m.trans (aD aa p),cH r,s,bp1,E1 t⟩
 str:=⟨zm w (by decide+kernel),rfl⟩
theorem av9{x e}(h:(x,e)∈ry):mE (gT w loose mean mg mb) (iH e.s) e.a:=by
 refine Hv w loose mean mg mb (wJ (Sl w.params) _ h) (bP (Zb w.params) h) ?_;obtain h|h:=List.mem_cons.mp h
 ·cases h;exact .inr (ap2 w loose mean mg mb)
 ·exact .inl (bP bf0 h)
theorem Pp:oZ (gT w loose mean mg mb) aC where
 bx i fn h:=by
  revert h;refine dQ λ e x c=>c▸?_;refine dG (bP (ab9 w.params) (ib x)) λ b a=>?_;revert a;refine aV λ a=>aV λ d f=>?_;exact SD jM e.a rfl b (cH a) d (av9 w loose mean mg mb (ib x)) f
 Kx:=(nN jM rfl (cH (aH (Hs w.params))) (aH ((aP (Hs w.params)))) (aP ((aP (Hs w.params)))))
 fn n fn h:=by
  revert h;refine dQ λ e x g=>g▸?_;refine dG (bP (bd9 w.params) (ib x)) λ b a=>?_;exact ec e.a (cH b) (Hv w loose mean mg mb (wJ (ao0 w.params) _ (ib x)) (bP (bg0 w.params) (ib x)) (.inl (bP ae7 (ib x)))) a
theorem bt6:kH (gT w loose mean mg mb) aC where
 ba n t u h:=by
  refine aB λ Y b=>?_;refine aG (Fg h) λ e j k=>?_;refine bg (Qa w j) λ a l=>?_;revert a;refine aV λ m=>aV λ o=>aV λ p a=>?_;have i:=Ub w loose mean mg mb l (aH a);rw[k]at i;refine b ?_;exact⟨e.1,e.2.a,zY j,m,o,λ D g=>by cases g;exact bE p,i⟩
 sub c d C D a hd r g:=by
  refine aB λ Y b=>?_;refine aI (fY a) λ x a=>?_;refine aG (Fg a) λ e a Y=>?_;refine aI (fY hd) λ y hd=>?_;refine aG (Fg hd) λ f hd Y=>?_;have h:=bP (bP (I2 w.params) (ib a)) (ib hd);rw[(aS ((zY a).symm.trans r)),(aS ((zY hd).symm.trans g))]at h;refine b ?_;show if aX c.id d.id=ae then _ else _;rcases q:aX c.id d.id with _|_
  ·rw[q]at h;exact h
  ·rw[q]at h;exact h
 HN:=rfl
 set f C s a:=by
  obtain⟨_,rfl⟩|⟨e,_⟩|⟨e,h,_⟩:=IQ (show wg .bL=aa C from a)
  ·exact PK (bP (bv4 w.params) (Ak s))
  ·cbv
  ·cbv
 len:=zm w (by decide+kernel)
 qA:=zm w (by decide+kernel)
 list:=zm w (by decide+kernel)
 qy:=zm w (by decide+kernel)
 Us:=zm w (by decide+kernel)
theorem Tw:js (gT w loose mean mg mb) aC:=⟨Y3 ..,Pp ..,bt6 ..⟩
theorem Ot:qb (gT w loose mean mg mb) aC where
 exc n q r h:=by
  refine aB λ Y f=>?_;refine bg (Bv h) λ g o=>?_;refine dG (PI w.params) λ j a=>?_;revert a;refine aV λ k=>aV λ l=>aV λ m=>aV λ b a=>?_;have i:=Ub w loose mean mg mb (wJ (Qj w.params) _ (.tail _ (.head _))) m;have b:=not_true b;rw[o]at i b;refine f ?_;rw[nC g];exact⟨nA,85,rfl,j,k,cH l,i,b,cH (aH a)⟩
 sub d c C h a hd:=by
  refine aI (fY a) λ x a=>?_;refine bg (Bv a) λ g Y=>?_;have e:=nC h;rw[nC g]at e⊢;refine aB λ Y f=>?_;rw[e]at hd;cases hd;refine dG (PI w.params) λ j a=>?_;revert a;refine aV λ k=>aV λ l=>aV λ m=>aV λ b=>aV λ p a=>?_;refine f ?_;exact⟨λ S hS=>by cases hS;decide,nA,cH p,cH (aH a),j,cH (aP a)⟩
theorem RX:vL (gT w loose mean mg mb) aC where
 sup f h:=by
  refine aB λ Y a=>?_;cases h;refine dG (bi4 w.params) λ b x=>?_;revert x;refine aV λ x=>aV λ c d=>?_;refine a ?_;exact SD jM 144 rfl (Hv w loose mean mg mb (wJ (Qj w.params) _ (.head _)) (Yh w.params) (.inl E4)) (cH b) (cH x) c (cH d)
end
theorem ag8{x}(h:Hh.row.toRowW.pre.holds [] {args:=[.list x]}=ae):x.length<=63:=by
 have e:Hh.row.toRowW.pre=.and (.not (.lt (.lit (.int 63)) (.len (.arg 0)))) (.lit (.bool ae)):=rfl;rw[e]at h;refine Wx λ q=>?_;have v:=aD (Wz WData.bool) (aD aa (bK (Int.ofNat_lt.mpr q)));cases condW_of (holds_andW h).1 (w_not v)
theorem bg8{P h v i}(w:Well P h v (.int i)):∃t,v=.int i t:=by cases w;exact⟨_,rfl⟩
theorem Qy{P h x d c}(w:Gw P h x (d::c)):∃v e,x=v::e/\Well P h v d/\Gw P h e c:=by
 cases w with|cons a b=>exact gm _ _ rfl a b
theorem Od{P h x}(w:Gw P h x []):x=[]:=by cases w;rfl
theorem YG{P h v x}(w:Well P h v (.list x)):∃a c,v=.ref a/\h.get? a=aa {cls:=.type "list",data:=.seq c.toArray}/\Gw P h c x:=by
 cases w with|list a b=>exact gm _ _ rfl a b
theorem bt2{P h g Z R x}:∀{a},Gw P h a x->(∀d∈x,WShape.has R d .int=ae)->∃l:af ag,bD g Z (l.map .int) a/\l.length=x.length:=by
 induction x with
 |nil=>exact λ w Y=>(aL ([]) (Od w▸.nil) rfl)
 |cons d x c=>
  intro a w b;obtain⟨v,a,rfl,w,t⟩:=Qy w;refine aI (hasW_int (b d (.head _))) λ i e=>?_;subst e;obtain⟨f,j⟩:=bg8 w;refine j▸?_;refine aG (c t λ d hd=>b d (.tail _ hd)) λ l k m=>?_;exact aL (i::l) (.cons (.int i f) k) (aD Me m)
noncomputable def vh:af aN:=Xf kF qC++((recsOf kF).map (·.name)++((litsOf kF).map (·.1)++(clssOf kF (Xf kF qC)).map (·.name)))
theorem bh9{mg mb h}(T:FF kF (Xf kF qC) mg mb h):FF pw vh mg mb h:=
 ⟨T.g,T.b,T.nolimit,T.builtins,λ x b a Y Y Y=>T.free x b (λ q=>a (oK _ q)) (λ q=>a (nJ _ (oK _ q))) (λ q=>a (nJ _ (nJ _ (oK _ q)))) λ q=>a (nJ _ (nJ _ (nJ _ q)))⟩
noncomputable def aa4:Prop:=∀l:af ag,l.length<=63->∃N d V O,d<=300/\UI aC N d (iH (lD 42)) [.bN (l.map .int)] [] none=.ok ((.bool ae,V),O)
theorem bz0:aC.fn .Dx=aa (iH (lD 42)):=∅
theorem ax5:strOf .Dx="law":=∅
theorem H4{K:dc}{j o}(h:K.lookup j=aa o):(j,o)∈K:=by
 induction K with
 |nil=>cbv
 |cons x K a=>
  rw[mR]at h;rcases q:j==x.1 with _|_
  ·rw[q]at h;exact .tail _ (a h)
  ·rw[q]at h;cases h;rw[cH q];exact .head _
theorem J4{P:uH}{j C D}:(Kf P).lookup j≠aa (dD C D):=λ h=>by
 have:=bP (at8 P) (H4 h)
 cbv
noncomputable def Vb(K:dc)(b:aA)(o:cP):Zf:=λ x=>if x=b then aa o else K.lookup x
theorem D6{w mean mg mb s b a}(T:FF pw vh mg mb s.heap)(c:(Kf w.params).In s.heap)(d:s.heap.get? b=aa (cQ a 0))(f:oE<s.heap.objs.size):
  CX (gT w vh mean mg mb) s (Vb (Kf w.params) b (cQ a 0)):=by
 refine⟨c,T,λ x o h=>?_,λ x o h=>?_,f,λ C j D Y h=>?_⟩
 ·exact fJ h (λ e h=>by simp only[e,<-aS h];exact d) λ Y h=>c x o h
 ·show(if x=b then aa (cQ a 0)else(Kf w.params).lookup x)=aa o;by_cases e:x=b
  ·rw[aT e,<-d,<-e];exact c x o h
  ·rw[aM e];exact h
 ·exact fJ h (λ Y h=>by cases aS h) λ Y h=>J4 h
theorem al8(H:aa4){p}:WalkO kF qC p (InK Kf) Hh.row.toRowW vJ [] λ f g=>PySem.call f g:=by
 intro w a0 a8 mg mb G c a o pm cd a9 dV kV ho hd b0 hD s t args b4 as i u y j b5;refine bg (pre_splitW i) λ x k=>?_;replace x:=hasAllW_cons x;obtain⟨d,r,rfl,m,x⟩:=x;rw[hasAllW_nil x]at k j⊢;refine aG (hasW_list m) λ xs z X=>?_;clear m y u i;subst z;refine dC (Qy j) λ v g A B C=>?_;refine A▸?_;rw[Od C];refine dC (YG B) λ b D E I J=>?_;refine E▸?_;have n:=bh9 (topRead_of G.T);have c:=c;refine aG (bt2 (g:=gT w vh (λ Y=>none) mg mb) (Z:=Vb (Kf w.params) b (cQ D 0)) J (hasItemsW_at X)) λ l Bq L=>?_;refine Qk (H l (L▸ag8 k)) λ N M V O Q T=>?_;refine dJ ((Pp w vh (λ Y=>none) mg mb).fn .Dx _ bz0) λ fa U fo Y=>?_;have e:a=fa:=by
  have q:=mg_of c n.g U;rw[ax5]at q;exact Gl (aS (s.symm.trans q))
 have S:=Ej (Tw w vh (λ Y=>none) mg mb) (Ot ..) (RX ..) (prm:=(iH (lD 42)).params) (top:=ae) (IX (Tw w vh (λ Y=>none) mg mb) (Ot ..) (RX ..) N M) N;rw[e];refine uU (pW (bn9 (D6 n c I G.low) S.B S.D (qg N).prm (by rw[(qg N).dep];exact Q) fo (.cons (.val rfl (.bN (aT rfl) Bq.1 Bq.2)) .nil) rfl T) λ rs s' h=>?_);refine lg (h) λ Z kp sm=>?_;refine Z▸?_;exact ky (.inl (MP (.bool ae) (.bool ae) ([]) rfl (λ Y=>rfl) (.bool _) ∅ (λ Y=>⟨.nil,(by intros;cbv)⟩))) (.of_keep kp) sm.os (.of_eq (sm.gens.trans t))
noncomputable def ix(x:ag):ah:=match x with
 |.ofNat n=>(n+549755813888)/1099511627776
 |.negSucc _=>0
noncomputable def dt(x:ag):ag:=x-((ix x*1099511627776:ah):ag)
noncomputable def hY(x:ag):al:=match x with
 |.ofNat n=>cV n 549755813888
 |.negSucc n=>cV n 549755813888
noncomputable def yS(x y:ag):al:=match x with
 |.ofNat n=>(match y with|.ofNat m=>aX n m|.negSucc _=>ai)
 |.negSucc n=>(match y with|.ofNat _=>ai|.negSucc m=>aX n m)
noncomputable def cM:ah:=16777216
structure fg where
 i:ah->ag
 s:ah->af ah
 l:ah->af IV
noncomputable def ju(v:IV):ak ah:=v.ql.bind λ c=>aE (eE 1000 c.id) (c.id-1000)
section
variable(h:fg)
noncomputable def ri(x:ag):ag:=h.i (ix x)+dt x
noncomputable def rs:af ah->af ah
 |[]=>[]
 |c::s=>(bif cV c cM then[c]else h.s (c-cM))++rs s
mutual
noncomputable def re:IV->IV
 |.int x=>.int (ri h x)
 |.str s=>.str (rs h s)
 |.tup l=>.tup (rl l)
 |.ba c a=>.ba c (rf a)
 |.lst l=>.lst (rl l)
 |.bN l=>.bN (rl l)
 |.eD l=>.eD (rd l)
 |.gr l=>.gr (rq l)
 |v=>v
noncomputable def rl:af IV->af IV
 |[]=>[]
 |v::l=>bo (ju v) h.l [re v]++rl l
noncomputable def rf:af (Nm×IV)->af (Nm×IV)
 |[]=>[]
 |x::l=>(x.1,re x.2)::rf l
noncomputable def rd:af (ag×IV)->af (ag×IV)
 |[]=>[]
 |x::l=>(x.1,re x.2)::rd l
noncomputable def rq:af (af ah×IV)->af (af ah×IV)
 |[]=>[]
 |x::l=>(x.1,re x.2)::rq l
end
noncomputable def bl(O:St):St:=O.map (rf h)
end
noncomputable def dI(s:af ah):al:=s.all λ c=>cV c cM
mutual
noncomputable def cl:IV->al
 |.int x=>hY x
 |.str s=>dI s
 |.tup l=>rO l
 |.ba _ h=>ng h
 |.lst l=>rO l
 |.bN l=>rO l
 |.eD l=>Hr l
 |.gr l=>Jb l
 |.cls c=>cV c.id 1000
 |_=>ae
noncomputable def rO:af IV->al
 |[]=>ae
 |v::l=>cl v&&rO l
noncomputable def ng:af (Nm×IV)->al
 |[]=>ae
 |x::l=>cl x.2&&ng l
noncomputable def Hr:af (ag×IV)->al
 |[]=>ae
 |x::l=>cl x.2&&Hr l
noncomputable def Jb:af (af ah×IV)->al
 |[]=>ae
 |x::l=>cl x.2&&Jb l
end
noncomputable def fC(l:af IV):al:=l.all λ v=>(ju v).isNone
noncomputable def tN(s:af ah):ah:=s.foldr (λ c n=>n+bif cV c cM then 1 else 1000) 0
noncomputable def rx(l:af IV):ah:=l.foldr (λ v n=>n+bo (ju v) (λ Y=>1000) 1) 0
structure fP where
 Lg:af (mO×ag×ag×al)
 ops:af (pP×ag×ag×ag)
 wV:af (ah×ag)
 Ax:af (ah×ag)
structure eZ(Φ:fP)(ρ:fg):Prop where
 zero:ρ.i 0=0
 cmp:∀x∈Φ.Lg,eX x.1 (.int (ri ρ x.2.1)) (.int (ri ρ x.2.2.1))=aa x.2.2.2
 op:∀x∈Φ.ops,lX x.1 (.int (ri ρ x.2.1)) (.int (ri ρ x.2.2.1))=aa (.int (ri ρ x.2.2.2))
 wV:∀x∈Φ.wV,ri ρ x.2=(ρ.s x.1).length
 Ax:∀x∈Φ.Ax,ri ρ x.2=(ρ.l x.1).length
 sb:∀k,(ρ.s k).length<=1000
 lb:∀k,(ρ.l k).length<=1000
 tk:∀k n,k<1000->ρ.s (k+1000*(n+1))=(ρ.s k).take (n+1)
noncomputable def Jq(o:mO)(x y:ag):af (mO×ag×ag×al)->ak al
 |[]=>none
 |f::l=>bif yS f.2.2.1 y&&(yS f.2.1 x&&decide (f.1=o))then aa f.2.2.2 else Jq o x y l
noncomputable def Ay(o:pP)(x y:ag):af (pP×ag×ag×ag)->ak ag
 |[]=>none
 |f::l=>bif yS f.2.2.1 y&&(yS f.2.1 x&&decide (f.1=o))then aa f.2.2.2 else Ay o x y l
noncomputable def Bx(k:ah):af (ah×ag)->ak ag
 |[]=>none
 |f::l=>bif aX f.1 k then aa f.2 else Bx k l
section
variable(h:fP)
noncomputable def jW(x:ag):al:=decide (-100000000<=dt x/\dt x<=100000000)
noncomputable def NH(o:mO)(x y:ag):ak al:=
 bif aX (ix x) (ix y)then eX o (.int (dt x)) (.int (dt y))else Jq o x y h.Lg
noncomputable def Su(o:mO):al:=match o with|.Is=>ae|.IsNot=>ae|_=>ai
noncomputable def JB:af ah->af ah->al
 |c::s,d::t=>cV c cM&&(cV d cM&&(!aX c d||JB s t))
 |_,_=>ai
noncomputable def BA(o:mO)(a b:IV):ak al:=
 bo (a.cn.bind λ x=>b.cn.map λ y=>(x,y)) (λ p=>NH h o p.1 p.2)
 (bif Su o then eX o a b else bif cl a&&cl b then eX o a b else
  match o with
  |.In=>a.cn.bind λ i=>b.hM.bind λ l=>aE (hY i) (iJ i l).isSome
  |.Eq=>(a.de.bind λ s=>b.de.bind λ t=>aE (JB s t) ai).or (aE (a.cL&&b.cn.isSome) ai)
  |_=>none)
noncomputable def Ve(o:pP)(x y:ag):ak ag:=match o with
 |.Add=>bif hY y then aa (x+y)else bif hY x then aa (y+x)else Ay o x y h.ops
 |.Sub=>bif hY y then aa (x-y)else bif aX (ix x) (ix y)then aa (dt x-dt y)else Ay o x y h.ops
 |_=>Ay o x y h.ops
noncomputable def DO(o:pP)(a b:IV):ak IV:=
 bif cl a&&cl b then(lX o a b).bind λ v=>aE (cl v) v else
 bo (a.cn.bind λ x=>b.cn.map λ y=>(x,y)) (λ p=>(aE (jW p.1&&jW p.2) p).bind λ p=>(Ve h o p.1 p.2).map .int)
 (match o with
  |.Add=>(a.de.bind λ s=>b.de.bind λ t=>aE (eE (tN s+tN t) 10000) (.str (s++t))).or (a.dX.bind λ s=>b.dX.bind λ t=>aE (eE (rx s+rx t) 10000) (.lst (s++t)))
  |_=>none)
noncomputable def Hk(o:pP)(a b:IV):ak IV:=(aE a.dH.isNone ()).bind λ Y=>match o with|.Add=>DO h o a b|.Sub=>DO h o a b|_=>none
noncomputable def xW(v:IV):ak al:=
 bif cl v then eO v else
 (v.de.bind λ s=>aE (eE (tN s) 1000000&&s.any λ c=>cV c cM) ae).or (v.kY.bind λ l=>aE (eE (rx l) 1000000&&l.any λ x=>(ju x).isNone) ae)
noncomputable def JX(i:ag)(l:af IV):ak IV:=bif decide (0<=i)then(aE (fC (l.take (i.toNat+1))) ()).bind λ Y=>l[i.toNat]? else(aE (i==-1) ()).bind λ Y=>l.getLast?.bind λ v=>aE (ju v).isNone v
noncomputable def JO(s:af ah)(x:ag):ak (af ah×ah):=s.head?.bind λ c=>(aE (!cV c cM) ()).bind λ Y=>(Bx (c-cM) h.wV).bind λ y=>aE (aX (ix x) (ix y)&&decide (0<=dt x-dt y/\dt x-dt y<=10000)) (s.tail,(dt x-dt y).toNat)
noncomputable def Rt(v i:IV):ak IV:=i.cn.bind λ i=>v.de.bind λ s=>(JO h s i).bind λ p=>(aE (dI (p.1.take (p.2+1))) ()).bind λ Y=>(p.1[p.2]?).map λ c=>.str [c]
noncomputable def Ux(v i:IV):ak IV:=(Rt h v i).or<|bif cl v&&cl i then(nG v i).bind λ u=>aE (cl u) u else
 i.cn.bind λ i=>(aE (decide (-1000<=i/\i<=1000)) ()).bind λ Y=>(v.de.bind λ s=>(aE (decide (0<=i)&&dI (s.take (i.toNat+1))) ()).bind λ Y=>(s[i.toNat]?).map λ c=>.str [c]).or
  ((v.kY.bind λ l=>(aE (eE (rx l) 1000000) ()).bind λ Y=>JX i l).or ((v.dH.bind λ l=>(aE (fC l&&eE (rx l) 1000000) ()).bind λ Y=>JX i l).or (v.hM.bind λ l=>iJ i l)))
noncomputable def NJ(t:af ah)(j:ah):ak (af ah):=(aE (dI (t.take j)&&(eE j t.length||dI t)) (t.take j)).or (t.getLast?.bind λ c=>aE (dI t.dropLast&&(cV t.dropLast.length j&&(eE cM c&&cV (c-cM) 1000))) (t.dropLast++[c+1000*(j-t.dropLast.length)]))
noncomputable def Qu(v:IV)(lo a:ak ag):ak IV:=v.de.bind λ s=>lo.bind λ x=>a.bind λ z=>(JO h s x).bind λ p=>(aE (eE (tN s) 10000&&(aX (ix x) (ix z)&&decide (dt x<=dt z))) ()).bind λ Y=>(NJ p.1 (p.2+(dt z-dt x).toNat)).bind λ s=>aE (dI (s.take p.2)&&eE p.2 s.length) (.str (s.drop p.2))
noncomputable def QA(v:IV)(lo x:ak ag):ak IV:=(Qu h v lo x).or<|(aE (cl v&&(lo.all hY&&x.all hY)) v).bind λ v=>(slice v lo x).bind λ u=>aE (cl u) u
noncomputable def Ho(v:IV):ak ag:=bif cl v then(nB v).map Int.ofNat else
 (v.de.bind λ s=>s.head?.bind λ c=>(aE (!cV c cM&&(dI s.tail&&eE s.tail.length 10000)) ()).bind λ Y=>(Bx (c-cM) h.wV).bind λ x=>aE (jW x) (x+(s.tail.length:ag))).or
 (v.kY.bind λ l=>bif fC l then aE (eE l.length 10000) (l.length:ag)else l.head?.bind λ c=>(ju c).bind λ k=>(aE (fC l.tail&&eE l.tail.length 10000) ()).bind λ Y=>(Bx k h.Ax).bind λ x=>aE (jW x) (x+(l.tail.length:ag)))
noncomputable def Jx(m:Nm)(l:af IV)(x:af IV):ak (IV×af IV):=(aE (eE (rx l) 9000) ()).bind λ Y=>
 if m=.kZ then(one x).bind λ v=>aE (az v&&(ju v).isNone) (.none,l++[v])
 else if m=.tO then(if x.isEmpty then l.getLast?.bind λ v=>aE (ju v).isNone (v,l.dropLast)else(one x).bind λ v=>v.cn.bind λ i=>if i=0 then l.head?.bind λ v=>aE (ju v).isNone (v,l.tail)else none)
 else if m=.AL then(two x).bind λ v=>v.1.cn.bind λ i=>aE (az v.2&&((ju v.2).isNone&&(decide (0<=i/\i<=1000)&&(fC (l.take i.toNat)&&decide (i.toNat<=l.length))))) (.none,l.take i.toNat++v.2::l.drop i.toNat)
 else if m=.Ez then(one x).bind λ v=>v.dX.bind λ k=>aE (eE (rx l+rx k) 10000) (.none,l++k)
 else none
end
noncomputable def yY{h:Type}(x:Nm)(l:af (Nm×h)):ak h:=match l with
 |[]=>none
 |y::r=>bif aX x.id y.1.id then aa y.2 else yY x r
theorem Ph{b x}{l:af (Nm×b)}:yY x l=lk x l:=by
 induction l with
 |nil=>rfl
 |cons y l a=>
  show(bif aX x.id y.1.id then aa y.2 else yY x l)=if x=y.1 then aa y.2 else lk x l;rw[a];by_cases q:x=y.1
  ·rw[aT q,q,cm7];rfl
  ·rw[aM q,(Bool.eq_false_iff (b:=aX x.id y.1.id)).mpr λ h=>q (by clear a;obtain⟨⟩:=x;cases c:y.1;exact aD Nm.mk (by rw[c]at h;exact mS h))];rfl
noncomputable def Lh(P:bW)(v:IV)(f:Nm)(O:St):ak IV:=bo v.nh (λ c=>bo (yY f c.2) (λ v=>aE (P.cZ c.1 f) v) (P.oa c.1 f)) (bif v.isObj&&P.cZ .bL f then O.bind λ h=>yY f h else none)
theorem au1{P v f}{O:St}:Lh P v f O=cG P v f O:=by
 delta Lh cG;simp only[Ph];obtain _|_:=v.isObj&&P.cZ .bL f<;>rfl
section
variable(h:fP)(P:bW)(r:bh)(b:Nm->ak Fn->af IV->af (Nm×IV)->St->RE IV)
noncomputable def Hj(e:ak IE)(V:Loc)(O:St):RE (ak ag):=match e with
 |none=>.ok (none,O)
 |some e=>(r.E e V O).aw λ v O=>R.opt v.cn λ i=>.ok (aa i,O)
noncomputable def Io(o:uE)(l:af IE)(V:Loc)(O:St):RE IV:=match l with
 |[]=>.stuck
 |e::l=>match l with
  |[]=>r.E e V O
  |_=>(r.E e V O).aw λ v O=>R.opt (xW v) λ x=>bif tJ o x then .ok (v,O)else Io o l V O
noncomputable def HF(o p:mO)(a d c:IE)(V:Loc)(O:St):RE al:=
 (r.E a V O).aw λ x O=>(r.E d V O).aw λ y O=>R.ax (az x&&az y) (R.opt (BA h o x y) λ t=>bif t then(r.E c V O).aw λ z O=>R.opt (BA h p y z) λ v=>.ok (v,O)else .ok (ai,O))
noncomputable def JY(f:Fn)(a:af IV)(c:af (Nm×IV))(O:St)(n:Nm):RE IV:=R.ax (a.all az&&c.all (λ x=>az x.2)) (b n (aa f) a c O)
noncomputable def MO(m f:Nm)(a:af IV)(O:St):RE IV:=R.opt O λ x=>R.opt ((lk f x).bind IV.dX) λ l=>R.opt (Jx m l a) λ w=>.ok (w.1,aa (put f (.lst w.2) x))
noncomputable def QT(f m:Nm)(as:af IE)(kw:af (Nm×IE))(V:Loc)(O:St):RE IV:=R.ax ((lk .bq V).any IV.isObj&&kq (cG P .obj f O)&&qE m&&kw.isEmpty) ((dq r as [] V O).aw λ x O=>MO m f x.1 O)
noncomputable def Ra(m:Nm)(as:af IE)(kw:af (Nm×IE))(V:Loc)(O:St):RE IV:=R.opt (P.bx m) λ f=>R.ax (O.any λ a=>(lk m a).isNone) ((dq r as kw V O).aw λ x O=>JY b f (.obj::x.1) x.2 O m)
noncomputable def Oh(s:af ah)(m:Nm)(as:af IE)(kw:af (Nm×IE))(V:Loc)(O:St):RE IV:=R.ax (Ad m&&kw.isEmpty) ((dq r as [] V O).aw λ x O=>R.ax (dI s&&rO x.1) (R.opt (nf m s x.1) λ v=>R.ax (cl v) (.ok (v,O))))
noncomputable def Ht(v:IV)(m:Nm)(as:af IE)(kw:af (Nm×IE))(V:Loc)(O:St):RE IV:=bif v.isObj then Ra P r b m as kw V O else R.opt v.de λ s=>Oh r s m as kw V O
noncomputable def OO(e:IE)(m:Nm)(as:af IE)(kw:af (Nm×IE))(V:Loc)(O:St):RE IV:=bo (yi e) (λ f=>QT P r f m as kw V O) ((r.E e V O).aw λ v O=>Ht P r b v m as kw V O)
noncomputable def RY(f:Nm)(a:af IV)(c:af (Nm×IV))(O:St):RE IV:=
 if f=.ij then R.ax c.isEmpty (R.opt (one a) λ v=>R.opt (Ho h v) λ n=>.ok (.int n,O))
 else if f=.kJ then R.ax c.isEmpty (R.opt (two a) λ v=>R.opt v.2.ql λ d=>R.opt (yk P v.1 d) λ e=>.ok (.bool e,O))
 else if f=.mZ then R.ax (c.isEmpty&&!r.quiet) (R.opt (one a) λ v=>R.opt v.hM λ l=>R.ax (decide (l.length<=10000)) (R.ax (l.all λ x=>hY x.1) (.ok (.lst (l.map λ x=>.int x.1),O))))
 else if f=.bL then .stuck
 else bo (P.fn f) (λ g=>JY b g a c O f) (ur P f a c O)
noncomputable def Vi(f:IE)(as:af IE)(kw:af (Nm×IE))(V:Loc)(O:St):RE IV:=bo f.AH (λ f=>R.ax (nU P f) ((dq r as kw V O).aw λ a O=>RY h P r b f a.1 a.2 O))
 (R.opt f.asVar λ x=>R.opt ((lk x V).bind IV.ql) λ c=>R.ax (P.ba c).isSome ((dq r as kw V O).aw λ a O=>ur P c a.1 a.2 O))
noncomputable def Oq(e:IE)(V:Loc)(O:St):RE IV:=match e with
 |.con v=>R.ax (cl v) (.ok (v,O))
 |.var x=>R.opt (yY x V) λ v=>.ok (v,O)
 |.glob x=>R.opt (yu P x) λ v=>R.ax (cl v) (.ok (v,O))
 |.attr e f=>(r.E e V O).aw λ v O=>R.opt (Lh P v f O) λ v=>.ok (v,O)
 |.bx e m as kw=>OO P r b e m as kw V O
 |.call f as kw=>Vi h P r b f as kw V O
 |.bin o a d=>(r.E a V O).aw λ x O=>R.ax (cR a x) ((r.E d V O).aw λ y O=>R.opt (DO h o x y) λ v=>.ok (v,O))
 |.cmp o a d=>(r.E a V O).aw λ x O=>R.ax (cR a x) ((r.E d V O).aw λ y O=>R.opt (BA h o x y) λ v=>.ok (.bool v,O))
 |.jS o p a d c=>(HF h r o p a d c V O).aw λ v O=>.ok (.bool v,O)
 |.bool o l=>Io r o l V O
 |.not e=>(r.E e V O).aw λ v O=>R.opt (xW v) λ d=>.ok (.bool !d,O)
 |.ite t a d=>(r.T t V O).aw λ c O=>bif c then r.E a V O else r.E d V O
 |.idx e i=>(r.E e V O).aw λ v O=>R.ax (cR e v||pureE i) ((r.E i V O).aw λ k O=>R.opt (Ux h v k) λ v=>.ok (v,O))
 |.jN e lo u=>(r.E e V O).aw λ v O=>R.ax (cR e v) ((Hj r lo V O).aw λ a O=>(Hj r u V O).aw λ d O=>R.opt (QA h v a d) λ v=>.ok (v,O))
 |.tup l=>(ik r l V O).aw λ g O=>R.ax (g.all az&&decide (g.length<=10000)) (R.ax (fC g) (.ok (.tup g,O)))
 |.lst l=>(ik r l V O).aw λ g O=>R.ax (g.all az&&decide (g.length<=10000)) (R.ax (fC g) (.ok (.lst g,O)))
 |.DM=>.ok (.eD [],O)
 |.qZ j w n z=>(r.E w V O).aw λ q O=>R.ax (az q) ((r.E z V O).aw λ s O=>R.ax (az s&&!decide (j=n)) (.ok (.gr [(j,q),(n,s)],O)))
 |.bad=>.stuck
noncomputable def PG(e:IE)(V:Loc)(O:St):RE al:=match e with
 |.not e=>(r.T e V O).aw λ d O=>.ok (!d,O)
 |.bool o l=>sC r o l V O
 |.ite t a d=>(r.T t V O).aw λ c O=>bif c then r.T a V O else r.T d V O
 |.cmp o a d=>(r.E a V O).aw λ x O=>R.ax (cR a x) ((r.E d V O).aw λ y O=>R.opt (BA h o x y) λ v=>.ok (v,O))
 |.jS o p a d c=>HF h r o p a d c V O
 |e=>(r.E e V O).aw λ v O=>R.opt (xW v) λ d=>.ok (d,O)
noncomputable def Iw(x:af Nm)(v:IV)(V:Loc):ak Loc:=bif v.dH.all fC then jz r x v V else none
noncomputable def Vp(x:af Nm)(c:af IV)(a:af IS)(V:Loc)(O:St):RS:=match c with
 |[]=>.ok (.next,V,O)
 |v::l=>R.opt (Iw r x v V) λ V=>(r.B a V O).loop λ V O=>r.F x l a V O
noncomputable def NO(a:IE)(c:al)(V:Loc)(v:IV):ak (af IV):=bif(v.de.all dI&&(v.kY.all fC&&v.hM.all λ l=>l.all λ x=>hY x.1))then vO a c V v else none
noncomputable def bw7(x:IE)(a:al)(V:Loc)(O:St):RE (af IV):=(r.E x V O).aw λ v O=>R.opt (NO x a V v) λ l=>.ok (l,O)
noncomputable def bd4(a d:IE)(V:Loc)(O:St):RE (af IV):=(r.E a V O).aw λ v O=>bo v.tM (λ l=>R.ax (xW v==aa ae) (R.ax (fC l) (.ok (l,O)))) (R.ax v.cL ((r.E d V O).aw λ w O=>R.opt w.dX λ l=>R.ax (fresh d) (R.ax (fC l) (.ok (l,O)))))
noncomputable def bg5(n:Nm)(as:af IE)(kw:af (Nm×IE))(V:Loc)(O:St):RE (af IV):=R.ax kw.isEmpty ((dq r as [] V O).aw λ x O=>R.ax (rO x.1) (R.opt (if n=.jR then xI x.1 else(one x.1).bind λ v=>v.de.map (tE 0)) λ l=>R.ax (rO l) (.ok (l,O))))
noncomputable def MN(x:IE)(d:al)(V:Loc)(O:St):RE (af IV):=bo (rG x) (λ c=>bg5 r c.1 c.2.1 c.2.2 V O) (bo (tW x) (λ a=>bd4 r a.1 a.2 V O) (bw7 r x d V O))
noncomputable def GI(f:Nm)(k:IV)(O:St)(u:ag->af (ag×IV)->ak (af (ag×IV)))(V:Loc):RS:=R.ax (k.cn.all hY) (EI f k O u V)
noncomputable def Oe(x m:Nm)(as:af IE)(kw:af (Nm×IE))(V:Loc)(O:St):RS:=R.ax (qE m&&kw.isEmpty) (aY V (dq r as [] V O) λ a O=>R.opt ((lk x V).bind IV.dX) λ l=>R.opt (Jx m l a.1) λ w=>.ok (.next,put x (.lst w.2) V,O))
noncomputable def Sg(e:IE)(V:Loc)(O:St):RE IV:=bo e.dH
 (λ l=>(ik r l V O).aw λ x O=>R.ax (oX r l x&&decide (x.length<=10000)) (R.ax (fC x) (.ok (.tup (x.map freeze),O))))
 ((r.E e V O).aw λ v O=>R.ax (az v||(zk r e&&mu v)) (.ok (v,O)))
noncomputable def Ss(s:IS)(V:Loc)(O:St):RS:=match s with
 |.pass=>.ok (.next,V,O)
 |.brk=>.ok (.brk,V,O)
 |.cont=>.ok (.cont,V,O)
 |.expr e=>bo ((yq e).bind λ c=>aE (kq (lk c.1 V)) c) (λ c=>Oe r c.1 c.2.1 c.2.2.1 c.2.2.2 V O) (Il r e V O)
 |.asg x e=>R.ax ((mJ e).bind λ c=>P.fn c.1).isNone (KZ r x e V O)
 |.lT j e=>R.ax (!r.quiet) (aY V (r.E e V O) λ v O=>R.ax (decide (2<=j.length)) (R.opt (Iw r j v V) λ V=>.ok (.next,V,O)))
 |.ya x y e=>aY V (r.E e V O) λ v O=>R.ax (v.dH.all fC) (R.opt (v.dH.bind two) λ u=>R.ax (az u.1&&az u.2&&fT r x u.1 V&&fT r y u.2 V) (.ok (.next,put x u.1 (put y u.2 V),O)))
 |.rn o f e=>aY V (r.E e V O) λ v O=>R.ax (az v||fresh e) (aY V (r.E o V O) λ w O=>R.ax (w.isObj&&P.cZ .bL f) (th f v O V))
 |.BC d i e=>R.opt d.wm λ g=>aY V (r.E e V O) λ v O=>R.ax (az v) (aY V (r.E g.1 V O) λ w O=>R.ax (w.isObj&&(cG P .obj g.2 O).any (λ u=>u.hM.isSome)&&pureE i) (aY V (r.E i V O) λ k O=>GI g.2 k O (λ k l=>aE (decide (l.length<900)) (rh k v l)) V))
 |.aug x op e=>R.opt (lk x V) λ a=>aY V (r.E e V O) λ g O=>R.opt (Hk h op a g) λ v=>R.ax (!(az a)||fT r x v V) (.ok (.next,put x v V,O))
 |.tZ o f op e=>aY V (r.E o V O) λ w O=>R.ax w.isObj (R.opt ((cG P .obj f O).bind IV.cn) λ a=>aY V (r.E e V O) λ g O=>R.opt ((Hk h op (.int a) g).bind IV.cn) λ v=>th f (.int v) O V)
 |.ret e=>bo e (λ e=>aY V (Sg r e V O) λ v O=>.ok (.ret v,V,O)) (.ok (.ret .none,V,O))
 |.nD _=>.stuck
 |.raise e=>R.ax (!r.quiet) (R.opt (mJ e) λ c=>R.opt (P.exc c.1) λ d=>aY V (dq r c.2.1 c.2.2 V O) λ m O=>R.ax (m.1.all az&&m.2.isEmpty&&decide (m.1.length<=100)) (R.opt (dA d.1 d.2 m.1 m.2) λ p=>.exc (.ba c.1 p,V,O)))
 |.iff t a g=>aY V (r.T t V O) λ c O=>bif c then r.B a V O else r.B g V O
 |.iE t g=>aY V (r.T t V O) λ c O=>bif c then(r.B g V O).loop λ V O=>r.S (.iE t g) V O else .ok (.next,V,O)
 |.jr j n g=>R.ax (!r.quiet&&(!wA n||decide (2<=j.length))) (aY V (MN r n (jL g) V O) λ q O=>r.F j q g V O)
 |.del d i=>R.opt d.wm λ g=>aY V (r.E g.1 V O) λ w O=>R.ax (w.isObj&&(cG P .obj g.2 O).any (λ u=>u.hM.isSome)&&pureE i) (aY V (r.E i V O) λ k O=>GI g.2 k O (λ k l=>aE ((iJ k l).isSome&&decide (l.length<900)) (sj k l)) V)
 |.ny g c x z=>match r.B g V O with|.exc _=>.stuck|y=>y
 |.bad=>.stuck
noncomputable def aq9:bh:=⟨r.prm,r.dep,yg,r.top,Oq h P r b,PG h r,Ss h P r,CF r,Vp r,r.fuel+1,r.quiet,jQ⟩
end
noncomputable def iW(h:fP)(P:bW)(prm:af Nm)(x:Nm->ak Fn->af IV->af (Nm×IV)->St->RE IV):ah->bh
 |0=>Ed prm 0 yg ai ai
 |n+1=>aq9 h P (iW h P prm x n) x
noncomputable abbrev Jf:=Nm->ak (af IV->af (Nm×IV)->St->RE IV)
noncomputable def gC(h:fP)(P:bW)(x:Jf)(N:ah):ah->Nm->ak Fn->af IV->af (Nm×IV)->St->RE IV
 |0,_,_,_,_,_=>.stuck
 |d+1,n,f,a,b,O=>bo (x n) (λ k=>k a b O) (R.opt f λ f=>(tP (iW h P f.params (gC h P x N d) N) f a b O).aw λ v O=>.ok (v.1,O))
section
variable{h:fg}
theorem jf{a:Type}{b x y}{p:a->Prop}(c:b=ae->p x)(d:b=ai->p y):p (bif b then x else y):=by
 obtain _|_:=b
 ·exact d rfl
 ·exact c rfl
theorem Ff{x y}(a:yS x y=ae):x=y:=by
 obtain _|_:=x<;>obtain _|_:=y<;>first|cbv;done|exact aD _ (mS a)
theorem vi{x}:hY x=ae↔-549755813888<=x/\x<549755813888:=by
 obtain n|n:=x
 ·show cV n 549755813888=ae↔-549755813888<=(n:ag)/\(n:ag)<549755813888;rw[Nat.blt_eq];exact⟨λ a=>⟨bH ⋯ (dP n),Int.ofNat_lt.mpr a⟩,λ a=>Int.ofNat_lt.mp a.2⟩
 ·show cV n 549755813888=ae↔-549755813888<=-((n+1:ah):ag)/\-((n+1:ah):ag)<549755813888;rw[Nat.blt_eq];exact⟨λ a=>⟨Gx (Int.ofNat_le.mpr a),zI (Int.negSucc_lt_zero n) ⋯⟩,λ a=>Int.ofNat_le.mp (Int.neg_le_neg_iff.mp a.1)⟩
theorem as8{x}:ix x=(x.toNat+549755813888)/1099511627776:=by
 obtain n|n:=x
 ·rfl
 ·exact(by decide:(0:ah)=(0+549755813888)/1099511627776)
theorem KN{t k}(x:-549755813888<=k)(a:k<549755813888):ix (((t*1099511627776:ah):ag)+k)=t/\dt (((t*1099511627776:ah):ag)+k)=k:=by
 have e:ix (((t*1099511627776:ah):ag)+k)=t:=by
  rw[as8];refine Nat.div_eq_of_lt_le (Int.ofNat_le.mp (bH ?_ (Gy (Int.self_le_toNat _) 549755813888))) ?_
  ·rw[iK];exact sV (bH ⋯ (Gy x 549755813888))
  ·rw[Nat.succ_mul];refine eK (lG (Int.toNat_le.mpr (show _<=((t*1099511627776+549755813887:ah):ag)from Int.add_le_add_left (Int.le_sub_one_of_lt a) _)) _) ?_;rw[pO];exact cm8 ⋯ _
 exact⟨e,by unfold dt;rw[e,me,Cm]⟩
theorem za{x}(a:hY x=ae):ix x=0/\dt x=x:=by
 have a:=vi.mp a;have:=KN (t:=0) a.1 a.2;rw[show((0*1099511627776:ah):ag)+x=x from oM x]at this;exact this
theorem pB{x}:ri h x=h.i (ix x)+dt x:=rfl
theorem kM{x}(b:h.i 0=0)(a:hY x=ae):ri h x=x:=by
 simp only[pB,(za a).1,(za a).2,b,oM]
theorem Ql{x y}(c:jW x=ae)(d:hY y=ae)(f:jW y=ae):ix (x+y)=ix x/\dt (x+y)=dt x+y:=by
 have b:=bE c;have a:=bE f;rw[(za d).2]at a;have e:((ix x*1099511627776:ah):ag)+(dt x+y)=x+y:=by unfold dt;rw[<-iK,me (_:ag) (x-_),Fy]
 rw[<-e];have:=KN (t:=ix x) (bH ⋯ (Cd b.1 a.1)) (lZ (Cd b.2 a.2) ⋯);exact this
theorem Ai{x y}(d:h.i 0=0)(b:jW x=ae)(a:hY y=ae)(c:jW y=ae):ri h (x+y)=ri h x+ri h y:=by
 simp only[kM d a,pB,pB,(Ql b a c).1,(Ql b a c).2,iK]
theorem af6{y}(b:hY y=ae)(c:jW y=ae):hY (-y)=ae/\jW (-y)=ae:=by
 have x:=bE c;rw[(za b).2]at x;have a:=vi.mpr ⟨Gx (bH x.2 (by decide:(100000000:ag)<=549755813888)),lZ (Gx x.1) ⋯⟩;exact⟨a,bK (by rw[(za a).2];exact⟨Gx x.2,Gx x.1⟩)⟩
theorem ax4{x y}(a:h.i 0=0)(d:jW x=ae)(b:hY y=ae)(e:jW y=ae):ri h (x-y)=ri h x-ri h y:=by
 refine bg (af6 b e) λ c f=>?_;simp only[cm9,Ai a d c f,kM a c,kM a b,cm9]
theorem au8{x y}(c:h.i 0=0)(d:jW x=ae)(f:jW y=ae)(e:ix x=ix y):ri h (dt x-dt y)=ri h x-ri h y:=by
 have a:=bE d;have b:=bE f;rw[kM c (vi.mpr ⟨bH ⋯ (cn0 a.1 b.2),lZ (cn0 a.2 b.1) ⋯⟩),pB,pB,e,me _ (dt x),me _ (dt y),Int.add_sub_add_right]
theorem tU(s t:af ah):rs h (s++t)=rs h s++rs h t:=by
 induction s with
 |nil=>rfl
 |cons c s x=>show _++rs h (s++t)=_++rs h s++_;simp only[x,bB]
theorem vg{c s}(x:cV c cM=ae):rs h (c::s)=c::rs h s:=by
 show(bif cV c cM then[c]else h.s (c-cM))++rs h s=_;rw[x];rfl
theorem kB{s}(x:dI s=ae):rs h s=s:=by
 induction s with
 |nil=>rfl
 |cons c s a=>rw[vg (aH x),a (aP x)]
theorem Bs(sb:∀k,(h.s k).length<=1000)(s:af ah):(rs h s).length<=tN s:=by
 induction s with
 |nil=>exact ca _
 |cons c s x=>
  show((bif cV c cM then[c]else h.s (c-cM))++rs h s).length<=tN s+bif cV c cM then 1 else 1000;rw[bp,nH];refine cU x ?_;obtain _|_:=cV c cM
  ·exact sb _
  ·exact ca _
theorem yC(v:IV)(l:af IV):rl h (v::l)=bo (ju v) h.l [re h v]++rl h l:=rfl
theorem uk(s t:af IV):rl h (s++t)=rl h s++rl h t:=by
 induction s with
 |nil=>rfl
 |cons c s x=>simp only[pU,yC,yC,x,bB]
theorem lA{v l}(x:(ju v).isNone=ae):rl h (v::l)=re h v::rl h l:=by simp only[yC,lY x];rfl
theorem jZ{l}(x:fC l=ae):rl h l=l.map (re h):=by
 induction l with
 |nil=>rfl
 |cons v l a=>rw[lA (aH x),a (aP x)];rfl
theorem yI(lb:∀k,(h.l k).length<=1000)(l:af IV):(rl h l).length<=rx l:=by
 induction l with
 |nil=>exact ca _
 |cons v l x=>
  rw[yC,bp,nH];refine cU x ?_;obtain _|k:=ju v
  ·exact ca _
  ·exact lb k
theorem BG(l:af (Nm×IV)):rf h l=l.map λ x=>(x.1,re h x.2):=by
 induction l with
 |nil=>rfl
 |cons x l a=>exact aD (MC (x.1,re h x.2)) a
theorem bv3(l:af (ag×IV)):rd h l=l.map λ x=>(x.1,re h x.2):=by
 induction l with
 |nil=>rfl
 |cons x l a=>exact aD (MC (x.1,re h x.2)) a
section
variable(v:IV)
theorem JQ:(re h v).ctorIdx=v.ctorIdx:=by obtain _|_:=v<;>rfl
theorem ye:(re h v).cn=v.cn.map (ri h):=by obtain _|_:=v<;>rfl
theorem Dg:(re h v).de=v.de.map (rs h):=by obtain _|_:=v<;>rfl
theorem EZ:(re h v).dH=v.dH.map (rl h):=by obtain _|_:=v<;>rfl
theorem yR:(re h v).dX=v.dX.map (rl h):=by obtain _|_:=v<;>rfl
theorem RN:(re h v).tM=v.tM.map (rl h):=by obtain _|_:=v<;>rfl
theorem vT:(re h v).hM=v.hM.map (rd h):=by obtain _|_:=v<;>rfl
theorem Bi:(re h v).nh=v.nh.map λ c=>(c.1,rf h c.2):=by obtain _|_:=v<;>rfl
theorem SG:(re h v).ql=v.ql:=by obtain _|_:=v<;>rfl
theorem De:(re h v).cL=v.cL:=by unfold IV.cL;rw[JQ]
theorem vm:(re h v).isObj=v.isObj:=by unfold IV.isObj;rw[JQ]
theorem gJ:az (re h v)=az v:=by unfold az;rw[JQ]
theorem Fd:mu (re h v)=mu v:=by unfold mu;rw[yR];obtain _|_:=v.dX<;>rfl
theorem KX:(re h v).kY=v.kY.map (rl h):=by unfold IV.kY;simp only[yR,RN];obtain _|_:=v.dX<;>rfl
end
theorem Cq{v}(x:cl v=ae):(ju v).isNone=ae:=by
 cases v with
 |cls c=>
  show(aE (eE 1000 c.id) (c.id-1000)).isNone=ae;rcases q:eE 1000 c.id with _|_
  ·rfl
  ·exact absurd (eQ x) (Nat.not_le.mpr (Xg (eQ q)))
 |_=>rfl
mutual
theorem gL(b:h.i 0=0):∀v:IV,cl v=ae->re h v=v
 |.int x,a=>aD IV.int (kM b a)
 |.str s,a=>aD IV.str (kB a)
 |.tup l,a=>aD IV.tup (DK b l a)
 |.ba c d,a=>aD (IV.ba c) (Kv b d a)
 |.lst l,a=>aD IV.lst (DK b l a)
 |.bN l,a=>aD IV.bN (DK b l a)
 |.eD l,a=>aD IV.eD (OR b l a)
 |.gr l,a=>aD IV.gr (UB b l a)
 |.none,_=>rfl
 |.bool _,_=>rfl
 |.obj,_=>rfl
 |.cls _,_=>rfl
theorem DK(a:h.i 0=0):∀l:af IV,rO l=ae->rl h l=l
 |[],_=>rfl
 |v::l,x=>(lA (Cq (ej x).1)).trans (congr (aD MC (gL a v (ej x).1)) (DK a l (ej x).2))
theorem Kv(a:h.i 0=0):∀l:af (Nm×IV),ng l=ae->rf h l=l
 |[],_=>rfl
 |x::l,b=>by show(x.1,re h x.2)::rf h l=x::l;rw[gL a x.2 (ej b).1,Kv a l (ej b).2]
theorem OR(a:h.i 0=0):∀l:af (ag×IV),Hr l=ae->rd h l=l
 |[],_=>rfl
 |x::l,b=>by show(x.1,re h x.2)::rd h l=x::l;rw[gL a x.2 (ej b).1,OR a l (ej b).2]
theorem UB(a:h.i 0=0):∀l:af (af ah×IV),Jb l=ae->rq h l=l
 |[],_=>rfl
 |x::l,b=>by show(x.1,re h x.2)::rq h l=x::l;rw[gL a x.2 (ej b).1,UB a l (ej b).2]
end
end
section
variable{h:fg}{f:fP}
theorem aq5{o x y t l}(a:Jq o x y l=aa t):(o,x,y,t)∈l:=by
 induction l with
 |nil=>cbv
 |cons g l b=>
  refine jf (p:=λ z=>z=aa t->_) (λ q a=>?_) (λ Y a=>.tail _ (b a)) a;revert q;refine aV λ c=>aV λ d e=>?_;simp only[<-Ff c,<-Ff d,<-bE e,<-aS a];exact .head _
theorem HK{o x y z l}(a:Ay o x y l=aa z):(o,x,y,z)∈l:=by
 induction l with
 |nil=>cbv
 |cons g l b=>
  refine jf (p:=λ u=>u=aa z->_) (λ q a=>?_) (λ Y a=>.tail _ (b a)) a;revert q;refine aV λ c=>aV λ d e=>?_;simp only[<-Ff c,<-Ff d,<-bE e,<-aS a];exact .head _
theorem Ic{k x l}(a:Bx k l=aa x):(k,x)∈l:=by
 induction l with
 |nil=>cbv
 |cons c l b=>
  refine jf (p:=λ u=>u=aa x->_) (λ q a=>?_) (λ Y a=>.tail _ (b a)) a;simp only[<-mS q,<-aS a];exact .head _
theorem be0{o a b c t}(x:eX o (.int a) (.int b)=aa t):eX o (.int (c+a)) (.int (c+b))=aa t:=by
 rw[<-x];clear x;cases o with
 |Eq=>exact aD aa (decide_eq_decide.mpr (cn1 ..))
 |NotEq=>exact aD aa (decide_eq_decide.mpr (not_congr (cn1 ..)))
 |Lt=>exact aD aa (decide_eq_decide.mpr (cn2 ..))
 |LtE=>exact aD aa (decide_eq_decide.mpr (cn3 ..))
 |Gt=>exact aD aa (decide_eq_decide.mpr (cn2 ..))
 |GtE=>exact aD aa (decide_eq_decide.mpr (cn3 ..))
 |_=>rfl
theorem ai4(H:eZ f h){o x y t}(a:NH f o x y=aa t):eX o (.int (ri h x)) (.int (ri h y))=aa t:=by
 refine jf (p:=λ z=>z=aa t->_) (λ q a=>?_) (λ Y a=>H.cmp _ (aq5 a)) a;simp only[pB,pB,mS q];exact be0 a
theorem Og{a b:IV}{p}(c:(a.cn.bind λ x=>b.cn.map λ y=>(x,y))=aa p):a=.int p.1/\b=.int p.2:=by
 revert c;refine av λ x d=>dQ λ y e g=>?_;subst g;exact⟨dY d,dY e⟩
theorem bu8{s t}(x:JB s t=ae):rs h s≠rs h t:=by
 induction s generalizing t with
 |nil=>obtain _|_:=t<;>cbv
 |cons c s a=>
  obtain _|⟨d,t⟩:=t
  ·cbv
  ·revert x;refine aV λ b=>aV λ g x=>?_;rw[vg b,vg g];refine λ e=>(gV x).elim (λ q=>?_) λ q=>a q (kE e).2;rw[(kE e).1,cm7]at q;cbv
theorem Km{i l}:iJ i (rd h l)=(iJ i l).map (re h):=by
 induction l with
 |nil=>rfl
 |cons x l a=>
  show(if i=x.1 then aa (re h x.2)else iJ i (rd h l))=(if i=x.1 then aa x.2 else iJ i l).map (re h);by_cases q:i=x.1
  ·rw[aT q,aT q];rfl
  ·rw[aM q,aM q,a]
theorem at5{o a b x c}(g:Su o=ae)(d:x.cL=a.cL)(e:c.cL=b.cL):eX o x c=eX o a b:=by
 cases o with
 |Is=>show aE c.cL x.cL=aE b.cL a.cL;simp only[d,e]
 |IsNot=>show aE c.cL (!x.cL)=aE b.cL !a.cL;simp only[d,e]
 |_=>cbv
theorem VC(i:ag):eX .Eq .none (.int i)=aa ai:=rfl
theorem Cw(H:eZ f h){o:mO}{a b t}(x:BA f o a b=aa t):eX o (re h a) (re h b)=aa t:=by
 refine dW (G:=λ z=>z=aa t->_) (λ p hp x=>?_) (λ n x=>?_) x
 ·refine bg (Og hp) λ g j=>?_;refine g▸?_;refine j▸?_;exact ai4 H x
 refine jf (p:=λ z=>z=aa t->_) (λ q x=>(at5 q (De a) (De b)).trans x) (λ Y x=>jf (p:=λ z=>z=aa t->_) (λ q x=>?_) (λ Y x=>?_) x) x
 ·simp only[gL H.zero _ (aH q),gL H.zero _ (aP q)];exact x
 ·cases o with
  |In=>
   revert x;refine av λ i c=>av λ l d=>bR λ e k=>?_;obtain rfl:=dY c;obtain rfl:=nz d;rw[<-k];show aa (iJ (ri h i) (rd h l)).isSome=_;simp only[kM H.zero e,Km,Gz]
  |Eq=>
   revert x;refine fH (λ x=>?_) λ x=>?_
   ·revert x;refine av λ s c=>av λ u d=>bR λ q e=>?_;obtain rfl:=gb c;obtain rfl:=gb d;rw[<-e];exact aD aa (gw (bu8 q))
   ·revert x;refine bR λ q m=>m▸?_;refine aI (fY (aP q)) λ i c=>?_;simp only[rZ (aH q),dY c];exact VC _
  |_=>cbv
theorem lM{x b}{v:x}(a:b=ae):aE b v=aa v:=by rw[a];rfl
theorem O7(H:eZ f h){o x y z}(b:jW x=ae)(c:jW y=ae)(a:Ve f o x y=aa z):lX o (.int (ri h x)) (.int (ri h y))=aa (.int (ri h z)):=by
 cases o with
 |Add=>
  refine jf (p:=λ u=>u=aa z->_) (λ q a=>?_) (λ Y a=>jf (p:=λ u=>u=aa z->_) (λ q a=>?_) (λ Y a=>H.op _ (HK a)) a) a
  ·simp only[<-aS a,Ai H.zero b q c];rfl
  ·rw[<-aS a,Ai H.zero c q b,me];rfl
 |Sub=>
  refine jf (p:=λ u=>u=aa z->_) (λ q a=>?_) (λ Y a=>jf (p:=λ u=>u=aa z->_) (λ q a=>?_) (λ Y a=>H.op _ (HK a)) a) a
  ·simp only[<-aS a,ax4 H.zero b q c];rfl
  ·simp only[<-aS a,au8 H.zero b c (mS q)];rfl
 |_=>exact H.op _ (HK a)
theorem Kp(H:eZ f h){o:pP}{a b v:IV}(x:DO f o a b=aa v):lX o (re h a) (re h b)=aa (re h v):=by
 refine jf (p:=λ u=>u=aa v->_) (λ q x=>?_) (λ Y x=>dW (G:=λ u=>u=aa v->_) (λ p hp x=>?_) (λ Y x=>?_) x) x
 ·revert x;refine av λ u c=>bR λ d i=>i▸?_;simp only[gL H.zero _ (aH q),gL H.zero _ (aP q),gL H.zero _ d,c]
 ·refine bg (Og hp) λ j k=>?_;revert x;refine av λ y c e=>?_;revert c;refine bR λ g l=>?_;subst l;revert e;refine dQ λ z d m=>m▸?_;simp only[j,k];exact O7 H (aH g) (aP g) d
 ·cases o with
  |Add=>
   revert x;refine fH (λ x=>?_) λ x=>?_
   ·revert x;refine av λ s c=>av λ t e=>bR λ d n=>?_;clear x;subst n;cases gb c;obtain rfl:=gb e;have r:=Bs H.sb t;show(aE (decide ((rs h s).length+(rs h t).length<=10000)) (IV.str (rs h s++rs h t))).or _=aa (IV.str (rs h (s++t)));simp only[lM (bK (aj (cU (Bs H.sb s) r) (eQ d))),tU];rfl
   ·revert x;refine av λ s c=>av λ t e=>bR λ d w=>?_;clear x;subst w;cases jm c;obtain rfl:=jm e;show aE (decide ((rl h s).length+(rl h t).length<=10000)) (IV.lst (rl h s++rl h t))=aa (IV.lst (rl h (s++t)));simp only[lM (bK (aj (cU (yI H.lb s) (yI H.lb t)) (eQ d))),uk]
  |_=>cbv
theorem NQ(H:eZ f h){o a b v}(c:Hk f o a b=aa v):lQ o (re h a) (re h b)=aa (re h v):=by
 revert c;refine av λ Y d c=>?_;have e:∀{x},lX .Add (re h a) (re h b)=x->lQ .Add (re h a) (re h b)=x:=λ c=>by
  rw[<-c];show(hX _ _ _).or ((xJ _ _).or (Df _ _))=(hX _ _ _).or ((xJ _ _).or ((Ip _ _).or (Df _ _)));unfold Ip;rw[EZ,(lY (iZ d))];rfl
 cases o with
 |Add=>exact e (Kp H c)
 |Sub=>exact Kp H c
 |_=>cbv
theorem Nx{x:Type}{s t:af x}(a:t.isEmpty=ai):(s++t).isEmpty=ai:=by
 obtain _|_:=s
 ·exact a
 ·rfl
theorem I0{s:af ah}(x:(s.any λ c=>cV c cM)=ae):(rs h s).isEmpty=ai:=by
 induction s with
 |nil=>cbv
 |cons c s a=>
  obtain x|x:=gV x
  ·rw[vg x];rfl
  ·exact Nx (a x)
theorem W6{l:af IV}(a:(l.any λ x=>(ju x).isNone)=ae):(rl h l).isEmpty=ai:=by
 induction l with
 |nil=>cbv
 |cons c s b=>
  obtain a|a:=gV a
  ·rw[lA a];rfl
  ·exact Nx (b a)
theorem Pj{x}{l:af x}{n}(a:l.length<=n)(b:eE n 1000000=ae):dg l=ae:=bK (aj a (eQ b))
theorem B3{v}{l:af IV}(a:v.kY=aa l)(x:dg l=ae):eO v=aa !l.isEmpty:=by
 obtain rfl|rfl:=Du a
 ·exact lM x
 ·exact lM x
theorem AM(H:eZ f h){v}{b:al}(x:xW v=aa b):eO (re h v)=aa b:=by
 refine jf (p:=λ u=>u=aa b->_) (λ q x=>?_) (λ Y x=>?_) x
 ·rw[gL H.zero _ q];exact x
 revert x;refine fH (λ x=>?_) λ x=>?_
 ·revert x;refine av λ s c=>bR λ a e=>e▸?_;revert a;refine aV λ a d=>?_;obtain rfl:=gb c;show(aE (dg (rs h s)) (!(rs h s).isEmpty)).or _=_;rw[lM (Pj (Bs H.sb s) a),I0 d];rfl
 ·revert x;refine av λ l c=>bR λ a g=>g▸?_;revert a;refine aV λ a d=>?_;rw[B3 (by simp only[KX,c];rfl) (Pj (yI H.lb l) a),W6 d];rfl
end
section
variable{ρ:fg}{h:fP}
theorem TC{i}(x:-1000<=i/\i<=1000):hY i=ae:=vi.mpr ⟨bH ⋯ x.1,lZ x.2 ⋯⟩
theorem Bd{i}{n:ah}(x:-1000000<=i/\i<=1000000){j}(e:(if i<0 then i+(n:ag)else i)=j)(a:0<=j)(b:j<n):jC i n=aa j.toNat:=by
 show(if-1000000<=i/\i<=1000000 then(if(decide (0<=(if i<0 then i+(n:ag)else i))&&decide ((if i<0 then i+(n:ag)else i)<(n:ag)))=ae then aa (if i<0 then i+(n:ag)else i).toNat else none)else none)=_;rw[aT x,e,bK a,bK b];rfl
theorem Pn{i}{n:ah}(a:-1000<=i/\i<=1000)(x:0<=i)(b:i.toNat<n):jC i n=aa i.toNat:=
 Bd ⟨bH ⋯ a.1,bH a.2 ⋯⟩ (aM (Int.not_lt.mpr x)) x ((cn4 x).mp b)
theorem Vm{n:ah}(x:0<n):jC (-1) n=aa (n-1):=by
 rw[Bd (j:=(n:ag)-1) ⋯ (by rw[aT ⋯];exact rfl) (MD (Int.ofNat_le.mpr x)) (Int.sub_lt_self _ ⋯)];exact aD aa (cn5 n 1)
theorem bx6{l k v}(x:fC (l.take (k+1))=ae)(a:l[k]? =aa v):(rl ρ l)[k]? =aa (re ρ v):=by
 induction l generalizing k with
 |nil=>cbv
 |cons u l b=>
  rw[lA (aH x)];obtain _|k:=k
  ·cases a;rfl
  ·exact b (aP x) a
theorem RT{l k v}(x:dI (l.take (k+1))=ae)(a:l[k]? =aa v):(rs ρ l)[k]? =aa v:=by
 induction l generalizing k with
 |nil=>cbv
 |cons u l b=>
  rw[vg (aH x)];obtain _|k:=k
  ·cases a;rfl
  ·exact b (aP x) a
theorem Bl{x:Type}{l:af x}{k v}(a:l[k]? =aa v):k<l.length:=(List.getElem?_eq_some_iff.mp a).1
theorem Js{x:Type}{l}{v:x}(a:l.getLast?=aa v):l=l.dropLast++[v]:=by
 refine aI (List.getLast?_eq_some_iff.mp a) λ t b=>b▸?_;rw[Xh]
theorem TB{l}{v:IV}(x:l.getLast?=aa v)(a:(ju v).isNone=ae):rl ρ l=rl ρ l.dropLast++[re ρ v]:=by
 conv=>lhs;rw[Js x]
 simp only[uk,lA a];rfl
theorem Pk{x:Type}{l t}{v:x}(a:l=t++[v]):0<l.length/\l[l.length-1]? =aa v:=by
 simp only[a,bp];exact⟨Cn _,List.getElem?_concat_length⟩
theorem TY{l i v}(b:-1000<=i/\i<=1000)(x:JX i l=aa v):(jC i (rl ρ l).length).bind (λ k=>(rl ρ l)[k]?)=aa (re ρ v):=by
 refine jf (p:=λ u=>u=aa v->_) (λ q x=>?_) (λ Y x=>?_) x
 ·revert x;refine av λ Y a c=>?_;have e:=bx6 (ρ:=ρ) (iZ a) c;exact(Pn b (bE q) (Bl e)).symm▸e
 ·revert x;refine av λ Y a=>av λ u d=>bR λ f g=>g▸?_;rw[cH (iZ a)];have e:=Pk (TB (ρ:=ρ) d f);rw[Vm e.1];exact e.2
theorem OG(H:eZ h ρ){s x p}(f:JO h s x=aa p):∃k,rs ρ s=ρ.s k++rs ρ p.1/\ri ρ x=(((ρ.s k).length+p.2:ah):ag)/\(ρ.s k).length+p.2<=20000:=by
 revert f;refine av λ c b=>av λ Y q=>av λ y g=>bR λ a i=>?_;subst i;have e:ri ρ y=((ρ.s (c-cM)).length:ag):=H.wV _ (Ic g);refine⟨c-cM,?_,?_,by exact aj (cU (H.sb (c-cM)) (Int.toNat_le.mpr (bE (aP a)).2)) ⋯⟩
 ·obtain _|⟨d,u⟩:=s
  ·cases b
  ·cases b;show(bif cV c cM then[c]else ρ.s (c-cM))++rs ρ u=_;rw[(mm _).mp (iZ q)];rfl
 ·simp only[pB,(mS (aH a))];rw[pB]at e;exact Uo (bE (aP a)).1 e
theorem bg7{a b n:ah}:zJ (aa (a:ag)) (aa (b:ag)) 1 n=zJ (aa (a:ag)) (aa ((uW b n:ah):ag)) 1 n:=by
 have e:=λ{k}=>Int.not_lt.mpr (dP k);obtain x|x:=Nat.le_total b n
 ·rw[Ga x]
 ·rw[cf0 x];show Xi _ (max 0 (uW (if(b:ag)<0 then _ else _) _)) 1=Xi _ (max 0 (uW (if(n:ag)<0 then _ else _) _)) 1;rw[aM e,aM e,cn6 (Int.ofNat_le.mpr x),Int.min_self]
theorem at9{l:af ah}{a b}(c:a<=b)(d:a<=l.length):(FA ⟨l.toArray⟩ (aa (a:ag)) (aa (b:ag))).cps.toList=(l.take b).drop a:=by
 have q:(l.take b).drop a=(l.drop a).take (uW b l.length-a):=by
  rw[cn7,List.take_eq_take_iff,zK];exact(Nat.sub_min_sub_right ..).trans (Ga (cn8 (xu b _) _)).symm
 rw[q];show(cg1 (if((1:ag)==1&&(zJ (aa (a:ag)) (aa (b:ag)) 1 l.length).length==l.length)=ae then(⟨l.toArray⟩:sE)else⟨((zJ (aa (a:ag)) (aa (b:ag)) 1 l.length).filterMap (l.toArray[·]?)).toArray⟩)).toList=_;rw[bg7];by_cases x:((1:ag)==1&&(zJ (aa (a:ag)) (aa ((uW b l.length:ah):ag)) 1 l.length).length==l.length)=ae
 ·rw[aT x];rw[PySem.StrLaws.strSliceIndices_plain (Nat.le_min.mpr ⟨c,d⟩) (xu b l.length),bF,List.length_range]at x;have x:=cH (aP x);rw[x,Cg (by rw[zK];exact GA _ _)];exact((List.drop_suffix a l).eq_of_length_le (by rw[zK];exact aj (cx x.symm) (cn8 (xu b _) _))).symm
 ·rw[aM x];exact(PySem.StrLaws.sliced_plain ⟨l.toArray⟩ (Nat.le_min.mpr ⟨c,d⟩) (xu b l.length))
theorem as5(H:eZ h ρ){v i u:IV}(b:Rt h v i=aa u):nG (re ρ v) (re ρ i)=aa (re ρ u):=by
 refine aB λ Y f=>?_;revert b;refine av λ x g=>av λ s l=>av λ m n b=>?_;obtain⟨t,j⟩:=m;revert b;refine av λ Y a=>dQ λ c d o=>?_;subst o;obtain⟨k,p,q,r⟩:∃k,rs ρ s=ρ.s k++rs ρ t/\ri ρ x=(((ρ.s k).length+j:ah):ag)/\(ρ.s k).length+j<=20000:=OG H n;replace a:=(iZ a)
 have e:=RT (ρ:=ρ) a d;have w:dI [c]=ae:=by
  have:=List.all_eq_true.mp a c (List.mem_iff_getElem?.mpr ⟨j,by rw[Cf,aT (sQ _)];exact d⟩);show(cV c cM&&ae)=ae;rw[Cc];exact this
 refine f ?_;rw[dY g,gb l];show(((jC (ri ρ x) (rs ρ s).length).bind λ k=>((rs ρ s)[k]?).map λ c=>IV.str [c]).or _).or _=aa (IV.str (rs ρ [c]));rw[q,p,Bd (AI r ⋯ ⋯) (aM (Int.not_lt.mpr (dP _))) (dP _) (by have:j<(rs ρ t).length:=Bl e;rw[bp];exact Int.ofNat_lt.mpr (cm8 this _))];rw[uQ,je,Ca (ck ..),BM,e,kB w];rfl
theorem XK{t}{n:ah}(x:dI (t.take n)=ae)(a:(eE n t.length||dI t)=ae):(rs ρ t).take n=t.take n:=by
 induction t generalizing n with
 |nil=>rfl
 |cons c t b=>
  obtain _|n:=n
  ·rfl
  ·rw[vg (aH x),WB,WB,b (aP x)];obtain q|q:=gV a
   ·rw[show eE n t.length=ae from q];rfl
   ·rw[show dI t=ae from(aP q),gz]
theorem QF{t}(x:dI t=ae){c:ah}(a:eE cM c=ae):rs ρ (t++[c])=t++ρ.s (c-cM):=by
 rw[tU,kB x];show _++((bif cV c cM then[c]else ρ.s (c-cM))++[])=_;rw[Bool.eq_false_iff.mpr λ q=>absurd (eQ a) (Nat.not_le.mpr (Nat.blt_eq.mp q)),bC];rfl
theorem bn7(H:eZ h ρ){t u}{j:ah}(a:NJ t j=aa u):(rs ρ t).take j=rs ρ u:=by
 revert a;refine fH (λ a=>?_) λ a=>?_
 ·revert a;refine bR λ x l=>l▸?_;exact(XK (aH x) (aP x)).symm▸(kB (aH x)).symm▸rfl
 ·revert a;refine av λ c x=>bR λ d m=>?_;subst m;have g:=(aH d)
  refine dG ((aP d)) λ f b=>?_;clear d;revert b;refine aV λ b o=>?_;replace f:t.dropLast.length<j:=Nat.blt_eq.mp f;have i:=eQ b;have e:=Js x;generalize t.dropLast=k at*;clear x;subst e;obtain⟨n,rfl⟩:∃n,j=k.length+(n+1):=Nat.exists_eq_add_of_lt f;rw[QF g b,QF g (Nat.ble_eq.mpr (aj i (ck ..))),cn9,BM,<-H.tk _ n (Nat.blt_eq.mp o),Nat.sub_add_comm i]
theorem al2{w i}(x:dI (w.take i)=ae)(a:i<=w.length):rs ρ (w.drop i)=(rs ρ w).drop i/\i<=(rs ρ w).length:=by
 induction w generalizing i with
 |nil=>obtain rfl:=Nat.le_zero.mp a;exact⟨rfl,cg _⟩
 |cons c w b=>
  obtain _|i:=i
  ·exact⟨rfl,cg _⟩
  ·rw[vg (aH x)];have:=b (aP x) (pN a);exact⟨this.1,gY this.2⟩
theorem ad7(H:eZ h ρ){v u:IV}{lo e}(b:Qu h v lo e=aa u):slice (re ρ v) (lo.map (ri ρ)) (e.map (ri ρ))=aa (re ρ u):=by
 refine aB λ Y m=>?_;revert b;refine av λ s n=>av λ x o=>av λ z hz=>av λ p r b=>?_;obtain⟨t,i⟩:=p;revert b;refine av λ Y y=>av λ w a=>bR λ c X=>?_;subst X;revert c;refine aV λ c A=>?_;refine dG ((iZ y)) λ B f=>?_;obtain⟨k,g,d,_⟩:∃k,rs ρ s=ρ.s k++rs ρ t/\ri ρ x=(((ρ.s k).length+i:ah):ag)/\(ρ.s k).length+i<=20000:=OG H r;have C:ri ρ z=(((ρ.s k).length+(i+(dt z-dt x).toNat):ah):ag):=by simp only[pB,<-(mS (aH f))];rw[pB]at d;exact(Uo (MD (bE (aP f))) d).trans (aD Int.ofNat (pO ..))
 have D:i<=i+(dt z-dt x).toNat:=ck ..;have a:(rs ρ t).take (i+(dt z-dt x).toNat)=rs ρ w:=bn7 H a;refine m ?_;generalize i+(dt z-dt x).toNat=j at*;refine bg (al2 (ρ:=ρ) c (eQ A)) λ E I=>?_;have q:(ρ.s k).length+i<=(rs ρ s).length:=by
  have l:=aD xC a;rw[uV]at l;simp only[g,bp];exact ma (aj I (l▸xu _ _)) _
 simp only[gb n,o,hz];show(aE (dg (rs ρ s)) (IV.str (FA ⟨(rs ρ s).toArray⟩ (aa (ri ρ x)) (aa (ri ρ z))).cps.toList)).or _=aa (IV.str (rs ρ (w.drop i)));rw[lM (b:=dg _) (bK (aj (Bs H.sb s) (aj (eQ B) ⋯))),d,C,at9 (cU (ca _) D) q,g,cn9,List.drop_length_add_append,a,E];rfl
theorem br8(H:eZ h ρ){v i u:IV}(x:Ux h v i=aa u):nG (re ρ v) (re ρ i)=aa (re ρ u):=by
 revert x;refine fH (λ x=>?_) λ x=>?_
 ·exact as5 H x
 refine jf (p:=λ z=>z=aa u->_) (λ q x=>?_) (λ Y x=>?_) x
 ·revert x;refine av λ w g=>bR λ a n=>n▸?_;exact(gL H.zero _ (aH q)).symm▸(gL H.zero _ (aP q)).symm▸(gL H.zero _ a).symm▸(g).symm▸rfl
 revert x;refine av λ j g=>av ?_;clear x;intro _ o x;have b:=bE (iZ o);have e:re ρ i=.int j:=by rw[dY g];exact aD IV.int (kM H.zero (TC b))
 rw[e];have fin:yj (re ρ v) j=aa (re ρ u)->(yj (re ρ v) j).or ((IV.int j).de.bind λ s=>(re ρ v).Dq.bind λ l=>jk s l)=aa (re ρ u):=λ x=>by rw[x];rfl
 refine fin ?_;unfold yj;rw[Dg,KX,EZ,vT];revert x;refine fH (λ x=>?_) λ x=>?_
 ·revert x;refine av λ s a=>av λ Y d=>dQ λ c m p=>p▸?_;refine dG ((iZ d)) λ r d=>?_;have f:=RT (ρ:=ρ) d m;have t:dI [c]=ae:=by
   have:=List.all_eq_true.mp d c (List.mem_iff_getElem?.mpr ⟨j.toNat,by rw[Cf,aT (sQ _)];exact m⟩);show(cV c cM&&ae)=ae;rw[Cc];exact this
  rw[a];show((jC j (rs ρ s).length).bind λ k=>((rs ρ s)[k]?).map λ c=>IV.str [c]).or _=aa (IV.str (rs ρ [c]));simp only[Pn b (bE r) (Bl f),je,f,kB t];rfl
 revert x;refine fH (λ x=>?_) λ x=>?_
 ·revert x;refine av λ l a=>av λ Y Y x=>?_;have f:=TY (ρ:=ρ) b x;rw[a];have:v.de=none:=by obtain e|e:=Du a<;>rw[e]<;>rfl
  rw[this];show((jC j (rl ρ l).length).bind λ k=>(rl ρ l)[k]?).or _=_;rw[f];rfl
 revert x;refine fH (λ x=>?_) λ x=>?_
 ·revert x;refine av λ l a=>av λ Y Y y=>?_;cases qt a;show((jC j (rl ρ l).length).bind λ k=>(rl ρ l)[k]?).or _=_;rw[(TY b y)];rfl
 ·revert x;refine av λ l a X=>?_;cases nz a;show iJ j (rd ρ l)=_;simp only[Km,X];rfl
theorem af7(H:eZ h ρ){v u lo c}(a:QA h v lo c=aa u):slice (re ρ v) (lo.map (ri ρ)) (c.map (ri ρ))=aa (re ρ u):=by
 revert a;refine fH (λ a=>?_) λ a=>?_
 ·exact ad7 H a
 revert a;refine av λ m f=>av λ w g i=>?_;revert f;refine bR λ b j=>?_;subst j;revert b;refine aV λ b d=>?_;have e:∀{o:ak ag},o.all hY=ae->o.map (ri ρ)=o:=λ{o} q=>by cases o with|none=>rfl|some x=>exact aD aa (kM H.zero q)
 simp only[e (aH d),e (aP d)];revert i;refine bR λ k l=>l▸?_;exact(gL H.zero _ b).symm▸(gL H.zero _ k).symm▸(g).symm▸rfl
theorem Qz{v l}(a:v.kY=aa l)(x:dg l=ae):nB v=aa l.length:=by
 obtain rfl|rfl:=Du a
 ·exact lM x
 ·exact lM x
theorem Tg{x}{n:ah}(H:eZ h ρ)(c:jW x=ae)(b:eE n 10000=ae):ri ρ (x+(n:ag))=ri ρ x+(n:ag):=by
 have b:=eQ b;have a:hY (n:ag)=ae:=vi.mpr (by lia);simp only[Ai H.zero c a (bK (by rw[(za a).2];lia)),kM H.zero a]
theorem KV{n:ah}(x:n<=1000000):hY (n:ag)=ae:=vi.mpr ⟨bH ⋯ (dP n),Int.ofNat_lt.mpr (eK x ⋯)⟩
theorem E8(H:eZ h ρ){v n}(a:Ho h v=aa n):∃k:ah,nB (re ρ v)=aa k/\ri ρ n=(k:ag):=by
 refine jf (p:=λ z=>z=aa n->_) (λ q a=>?_) (λ Y a=>?_) a
 ·revert a;refine dQ λ k b X=>X▸?_;have o:k<=1000000:=by
   revert b;refine fH (λ b=>?_) λ b=>?_
   ·revert b;refine av λ s Y=>bR λ g A=>A▸?_;exact bE g
   ·revert b;refine av λ s Y=>bR λ g B=>B▸?_;exact bE g
  exact aL k ((gL H.zero _ q).symm▸(b).symm▸rfl) (kM H.zero (KV o))
 revert a;refine fH (λ a=>?_) λ a=>?_
 ·revert a;refine av λ s b=>av λ c f=>av λ Y g=>av λ x p=>bR λ r w=>w▸?_;refine dG ((iZ g)) λ C j=>?_;revert j;refine aV λ j m=>?_;cases gb b;clear w g b a;obtain _|⟨d,t⟩:=s
  ·cases f
  ·cases f;have e:rs ρ (c::t)=ρ.s (c-cM)++t:=by
    show(bif cV c cM then[c]else ρ.s (c-cM))++rs ρ t=_;simp only[(mm _).mp C,kB (s:=t) j];rfl
   have D:=H.wV _ (Ic p);have i:(rs ρ (c::t)).length=(ρ.s (c-cM)).length+t.length:=by simp only[e,bp]
   have E:=H.sb (c-cM);have I:t.length<=10000:=eQ m;refine aL ((rs ρ (c::t)).length) ?_ ?_
   ·show(aE (dg (rs ρ (c::t))) (rs ρ (c::t)).length).or _=_;rw[lM (b:=dg _) (bK (by rw[i];lia))];rfl
   ·have u:eE t.length 10000=ae:=m;show ri ρ (x+(t.length:ag))=_;simp only[Tg H r u,D,i];rfl
 ·revert a;refine av λ l b a=>?_;have y:(re ρ v).kY=aa (rl ρ l):=by simp only[KX,b];rfl
  refine jf (p:=λ z=>z=aa n->_) (λ q a=>?_) (λ Y a=>?_) a
  ·revert a;refine bR λ f J=>J▸?_;have i:(rl ρ l).length=l.length:=by simp only[jZ q,bF]
   have f:=eQ f;exact aL _ (Qz y (bK (by rw[i];exact aj f ⋯))) (by rw[i];exact kM H.zero (KV (aj f ⋯)))
  ·revert a;refine av λ c f=>av λ k o=>av λ Y g=>av λ x p=>bR λ r L=>L▸?_;refine dG ((iZ g)) λ j m=>?_;clear g b a;obtain _|⟨d,t⟩:=l
   ·cases f
   ·cases f;have i:(rl ρ (c::t)).length=(ρ.l k).length+t.length:=by simp only[yC,o,jZ (l:=t) j,bp,bF];rfl
    have E:=H.lb k;have I:t.length<=10000:=eQ m;refine aL _ (Qz y (bK (by rw[i];lia))) ?_;have u:eE t.length 10000=ae:=m;show ri ρ (x+(t.length:ag))=_;simp only[Tg H r u,(H.Ax _ (Ic p)),i];rfl
theorem SM(H:eZ h ρ){m l p w}(x:Jx m l p=aa w):nE m (rl ρ l) (p.map (re ρ))=aa (re ρ w.1,rl ρ w.2):=by
 revert x;refine av λ Y y x=>?_;have I:=aj (yI H.lb l) (eQ (iZ y));unfold nE;rw[aM (by lia)];revert x;refine ki (λ q x=>?_) λ q=>ki (λ j x=>?_) λ j=>ki (λ f x=>?_) λ f=>ki (λ n x=>?_) λ n x=>nomatch x
 ·revert x;refine av λ v b=>bR λ a z=>?_;subst z;rw[aT q,iF b];show aE (az (re ρ v)) (IV.none,rl ρ l++[re ρ v])=_;rw[gJ,lM (aH a),uk,lA (aP a)];rfl
 ·rw[aM q,aT j];revert x;refine ki (λ f x=>?_) λ f x=>?_
  ·revert x;refine av λ v b=>bR λ a X=>?_;subst X;rw[gu f];show((rl ρ l).getLast?.map λ v=>(v,(rl ρ l).dropLast))=_;rw[TB b a,oN,Xh];rfl
  ·revert x;refine av λ v b=>av λ i a x=>?_;revert x;refine ki (λ n x=>?_) λ Y x=>nomatch x;revert x;refine av λ u d=>bR λ o A=>?_;subst A;simp only[iF b,dY a,n];obtain _|⟨c,t⟩:=l
   ·cases d
   ·cases d;show(if ri ρ 0=0 then((rl ρ (u::t)).head?.map λ B=>(B,(rl ρ (u::t)).tail))else none)=_;rw[aT (show ri ρ 0=0 from kM H.zero (KV ⋯)),lA o];rfl
 ·revert x;refine av λ v b=>av λ i a=>bR λ d C=>?_;subst C;revert d;refine aV λ d=>aV λ o=>aV λ g=>aV λ r D=>?_;have g:=bE g;have e:rl ρ l=(l.take i.toNat).map (re ρ)++rl ρ (l.drop i.toNat):=by
   conv=>lhs;rw[<-List.take_append_drop i.toNat l]
   rw[uk,jZ r]
  have s:((l.take i.toNat).map (re ρ)).length=i.toNat:=by simp only[bF,uV,Ga (bE D)]
  rw[aM q,aM j,aT f,ot b,dY a];show aE (az (re ρ v.2)&&decide (0<=ri ρ i)&&decide (ri ρ i<=1000000)) (IV.none,(rl ρ l).take (ri ρ i).toNat++re ρ v.2::(rl ρ l).drop (ri ρ i).toNat)=aa (IV.none,rl ρ (l.take i.toNat++v.2::l.drop i.toNat));simp only[(kM H.zero (TC (qy g ⋯ ⋯))),gJ,d,bK g.1,bK (show i<=1000000 from bH g.2 ⋯),e,List.take_left' s,co0 s,uk,lA o,jZ r];rfl
 ·revert x;refine av λ v b=>av λ k a=>bR λ d E=>?_;subst E;have J:=yI H.lb l;have L:=yI H.lb k;have d:=eQ d;rw[aM q,aM j,aM f,aT n,iF b,jm a];show aE (decide ((rl ρ l).length+(rl ρ k).length<=10000)) (IV.none,rl ρ l++rl ρ k)=_;rw[lM (bK (aj (cU ‹_› ‹_›) ‹_›)),uk];rfl
end
noncomputable def R.mp{h x b c:Type}(d:h->b)(fa:x->c):R h x->R b c
 |.stuck=>.stuck|.exc e=>.exc (d e)|.ok a=>.ok (fa a)
noncomputable def Le{h a b c:Type}(d:h->b)(fa:a->c)(g:R h a)(x:R b c):Prop:=g=.stuck\/x=g.mp d fa
section
variable(h:fg)
noncomputable def NW:Fl->Fl
 |.ret v=>.ret (re h v)|x=>x
noncomputable abbrev LE{b c:Type}(f:b->c)(g:RE b)(x:RE c):Prop:=Le (λ e:IV×St=>(re h e.1,bl h e.2)) (λ a:b×St=>(f a.1,bl h a.2)) g x
noncomputable abbrev LS(g:RS)(x:RS):Prop:=Le (λ e:IV×Loc×St=>(re h e.1,rf h e.2.1,bl h e.2.2)) (λ a:Fl×Loc×St=>(NW h a.1,rf h a.2.1,bl h a.2.2)) g x
noncomputable def GR(p:af IV×af (Nm×IV)):af IV×af (Nm×IV):=(p.1.map (re h),rf h p.2)
noncomputable abbrev LA:RE (af IV×af (Nm×IV))->RE (af IV×af (Nm×IV))->Prop:=LE h (GR h)
end
section
variable{h:fg}{p j m i l n:Type}{b:p->m}{fa:j->i}
theorem eA{o x k a}(f:l->n)(c:∀v,o=aa v->x=aa (f v))(d:∀v,o=aa v->Le b fa (k v) (a (f v))):Le b fa (R.opt o k) (R.opt x a):=by
 obtain _|v:=o
 ·exact .inl rfl
 ·rw[c v rfl];exact d v rfl
theorem iu{o x k a}{f:l->n}(c:x=o.map f)(d:∀v,o=aa v->Le b fa (k v) (a (f v))):Le b fa (R.opt o k) (R.opt x a):=
 eA f (λ v e=>by simp only[c,e];rfl) d
theorem cD{a c g x}(d:a=ae->c=ae)(e:a=ae->Le b fa g x):Le b fa (R.ax a g) (R.ax c x):=by
 obtain _|_:=a
 ·exact .inl rfl
 ·rw[d rfl];exact e rfl
theorem lC{a g x}(c:a=ae->Le b fa g x):Le b fa (R.ax a g) x:=by
 obtain _|_:=a
 ·exact .inl rfl
 ·exact c rfl
theorem Hg{o x k a d c}{f:l->n}(g:x=o.map f)(q:∀v,o=aa v->Le b fa (k v) (a (f v)))(hd:o=none->Le b fa d c):Le b fa (bo o k d) (bo x a c):=by
 refine aB λ Y e=>?_;subst g;obtain _|v:=o
 ·refine e ?_;exact hd rfl
 ·refine e ?_;exact q v rfl
theorem vU{o k}{x:l->R m i}{d}{a:R m i}(c:∀v,o=aa v->Le b fa (k v) (x v))(hd:o=none->Le b fa d a):Le b fa (bo o k d) (bo o x a):=
 Hg (by clear hd c;obtain _|_:=o<;>rfl) c hd
theorem ua{a g d x y}(c:Le b fa g x)(e:Le b fa d y):Le b fa (bif a then g else d) (bif a then x else y):=by
 obtain _|_:=a
 ·exact e
 ·exact c
theorem HO{c}[xg c]{g d x y}(a:c->Le b fa g x)(e:¬c->Le b fa d y):Le b fa (if c then g else d) (if c then x else y):=by
 by_cases q:c
 ·rw[aT q,aT q];exact a q
 ·rw[aM q,aM q];exact e q
theorem cF{o q f c g x}{k:j->St->RE o}{d:i->St->RE q}(r:LE h f g x)(s:∀v O,LE h c (k v O) (d (f v) (bl h O))):LE h c (g.aw k) (x.aw d):=by
 obtain rfl|rfl:=r
 ·exact .inl rfl
 obtain _|e|a:=g
 ·exact .inl rfl
 ·exact .inr rfl
 ·exact s a.1 a.2
theorem iV{f g x V}{k:j->St->RS}{c:i->St->RS}(d:LE h f g x)(o:∀v O,LS h (k v O) (c (f v) (bl h O))):LS h (aY V g k) (aY (rf h V) x c):=by
 obtain rfl|rfl:=d
 ·exact .inl rfl
 obtain _|e|a:=g
 ·exact .inl rfl
 ·exact .inr rfl
 ·exact o a.1 a.2
theorem at3{g x}{k d:Loc->St->RS}(f:LS h g x)(o:∀V O,LS h (k V O) (d (rf h V) (bl h O))):LS h (g.ow k) (x.ow d):=by
 obtain rfl|rfl:=f
 ·exact .inl rfl
 obtain _|e|a:=g
 ·exact .inl rfl
 ·exact .inr rfl
 ·obtain⟨a,q,c⟩:=a;cases a with
  |next=>exact o q c
  |_=>exact .inr rfl
theorem Sy{g x}{k d:Loc->St->RS}(q:LS h g x)(f:∀V O,LS h (k V O) (d (rf h V) (bl h O))):LS h (g.loop k) (x.loop d):=by
 obtain rfl|rfl:=q
 ·exact .inl rfl
 obtain _|e|a:=g
 ·exact .inl rfl
 ·exact .inr rfl
 ·obtain⟨a,o,c⟩:=a;obtain _|_|_|_:=a
  ·exact f o c
  ·exact .inr rfl
  ·exact f o c
  ·exact .inr rfl
theorem cT{f:j->i}{v w O}(x:w=f v):LE h f (.ok (v,O)) (.ok (w,bl h O)):=by rw[x];exact .inr rfl
end
section
variable{ρ:fg}
theorem eV{x}{l:af (Nm×IV)}:lk x (rf ρ l)=(lk x l).map (re ρ):=by
 induction l with
 |nil=>rfl
 |cons y l h=>
  show(if x=y.1 then aa (re ρ y.2)else lk x (rf ρ l))=(if x=y.1 then aa y.2 else lk x l).map (re ρ);by_cases q:x=y.1
  ·rw[aT q,aT q];rfl
  ·rw[aM q,aM q,h]
theorem nO{x v l}:put x (re ρ v) (rf ρ l)=rf ρ (put x v l):=by
 induction l with
 |nil=>rfl
 |cons y l h=>
  show(if x=y.1 then(y.1,re ρ v)::rf ρ l else(y.1,re ρ y.2)::put x (re ρ v) (rf ρ l))=rf ρ (if x=y.1 then(y.1,v)::l else y::put x v l);by_cases q:x=y.1
  ·rw[aT q,aT q];rfl
  ·rw[aM q,aM q,h];rfl
theorem ay4{x v l}:rh x (re ρ v) (rd ρ l)=rd ρ (rh x v l):=by
 induction l with
 |nil=>rfl
 |cons y l h=>
  show(if x=y.1 then(y.1,re ρ v)::rd ρ l else(y.1,re ρ y.2)::rh x (re ρ v) (rd ρ l))=rd ρ (if x=y.1 then(y.1,v)::l else y::rh x v l);by_cases q:x=y.1
  ·rw[aT q,aT q];rfl
  ·rw[aM q,aM q,h];rfl
theorem ai7{x}{l:af (ag×IV)}:sj x (rd ρ l)=rd ρ (sj x l):=by
 induction l with
 |nil=>rfl
 |cons y l h=>
  show(if x=y.1 then rd ρ l else(y.1,re ρ y.2)::sj x (rd ρ l))=rd ρ (if x=y.1 then l else y::sj x l);by_cases q:x=y.1
  ·rw[aT q,aT q]
  ·rw[aM q,aM q,h];rfl
theorem Iy{l:af (ag×IV)}:(rd ρ l).length=l.length:=by simp only[bv3,bF]
theorem Ep{l:af (Nm×IV)}:(rf ρ l).length=l.length:=by simp only[BG,bF]
theorem AJ{l:af (Nm×IV)}:(rf ρ l).isEmpty=l.isEmpty:=by obtain _|_:=l<;>rfl
theorem yM{l:af IV}:(l.map (re ρ)).all az=l.all az:=by
 rw[We];exact aD (Xj l) (funext λ v=>gJ v)
theorem bd3{l:af (Nm×IV)}:((rf ρ l).all λ x=>az x.2)=l.all λ x=>az x.2:=by
 rw[BG,We];exact aD (Xj l) (funext λ v=>gJ v.2)
theorem JN{h a l}{f:h->a}:one (l.map f)=(one l).map f:=by
 obtain _|⟨x,l⟩:=l
 ·rfl
 ·obtain _|_:=l<;>rfl
theorem ND{a b l}{f:a->b}:two (l.map f)=(two l).map λ p=>(f p.1,f p.2):=by
 obtain _|⟨x,l⟩:=l
 ·rfl
 ·show(one (l.map f)).map _=_;rw[JN];rcases h:one l with _|_<;>simp[two,h]
theorem Qr{o:ak IV}:kq (o.map (re ρ))=kq o:=by
 obtain _|v:=o
 ·rfl
 ·exact Fd v
theorem bj9{l:af (Nm×IV)}:nl (rf ρ l)=nl l:=by
 induction l with
 |nil=>rfl
 |cons y l h=>
  show((y.1,re ρ y.2)::rf ρ l|>.filter λ x=>!az x.2).length=(y::l|>.filter λ x=>!az x.2).length;simp only[zw,zw];rw[gJ];have h:((rf ρ l).filter λ x=>!az x.2).length=(l.filter λ x=>!az x.2).length:=h;by_cases q:(!az y.2)=ae
  ·simp only[aT q,aT q,dh,dh,h]
  ·simp only[aM q,aM q,h]
theorem KA(x:ρ.i 0=0){l:af IV}(h:rO l=ae):l.map (re ρ)=l:=by
 induction l with
 |nil=>rfl
 |cons v l a=>simp only[Ci,gL x v (aH h),a (aP h)]
theorem T8{l}{V:Loc}:putAll (rf ρ l) (rf ρ V)=rf ρ (putAll l V):=by
 induction l generalizing V with
 |nil=>rfl
 |cons x l h=>show putAll (rf ρ l) (put x.1 (re ρ x.2) (rf ρ V))=_;simp only[nO,h];rfl
theorem an9{h:af Nm}{l:af IV}:h.zip (l.map (re ρ))=rf ρ (h.zip l):=by
 induction h generalizing l with
 |nil=>rfl
 |cons x h a=>
  obtain _|⟨v,l⟩:=l
  ·rfl
  ·exact aD (MC (x,re ρ v)) a
theorem K6{x}{V:Loc}:(lk x (rf ρ V)).any IV.isObj=(lk x V).any IV.isObj:=by
 rw[eV];obtain _|v:=lk x V
 ·rfl
 ·exact vm v
theorem yN{e}{v:IV}:cR e (re ρ v)=cR e v:=by unfold cR;rw[gJ]
theorem as4{l}{p:Nm->al}:(rf ρ l).filter (λ x=>p x.1)=rf ρ (l.filter λ x=>p x.1):=by
 induction l with
 |nil=>rfl
 |cons y l h=>
  show((y.1,re ρ y.2)::rf ρ l).filter _=_;simp only[zw,zw,h];obtain _|_:=p y.1<;>rfl
theorem Cr(d:ρ.i 0=0){a df}(hd:ng df=ae){b h}:dA a df (b.map (re ρ)) (rf ρ h)=(dA a df b h).map (rf ρ):=by
 have f:∀{p v},lk p df=aa v->re ρ v=v:=λ{p v} e=>by
  have:=eV (ρ:=ρ) (x:=p) (l:=df);rw[Kv d df hd,e]at this;exact(aS this).symm
 induction a generalizing b h with
 |nil=>
  obtain _|_:=b<;>obtain _|_:=h<;>rfl
 |cons p a c=>
  obtain _|⟨v,b⟩:=b
  ·show bo (lk p (rf ρ h)) (λ v=>(dA a df [] ((rf ρ h).filter λ x=>!decide (x.1=p))).map ((p,v)::·)) ((lk p df).bind λ v=>(dA a df [] (rf ρ h)).map ((p,v)::·))=(bo (lk p h) (λ v=>(dA a df [] (h.filter λ x=>!decide (x.1=p))).map ((p,v)::·)) ((lk p df).bind λ v=>(dA a df [] h).map ((p,v)::·))).map (rf ρ);rw[eV];obtain _|v:=lk p h
   ·show((lk p df).bind λ v=>(dA a df [] (rf ρ h)).map ((p,v)::·))=((lk p df).bind λ v=>(dA a df [] h).map ((p,v)::·)).map (rf ρ);have e:=c (b:=[]) (h:=h);rw[co1]at e;rw[e];rcases hp:lk p df with _|v
    ·rfl
    ·obtain _|l:=dA a df [] h
     ·rfl
     ·show aa ((p,v)::rf ρ l)=aa ((p,re ρ v)::rf ρ l);rw[f hp]
   ·show(dA a df [] ((rf ρ h).filter λ x=>!decide (x.1=p))).map _=((dA a df [] (h.filter λ x=>!decide (x.1=p))).map _).map _;have e:=c (b:=[]) (h:=h.filter λ x=>!decide (x.1=p));rw[as4 (p:=λ x=>!decide (x=p))];rw[co1]at e;rw[e];obtain _|_:=dA a df [] (h.filter λ x=>!decide (x.1=p))<;>rfl
  ·show(dA a df (b.map (re ρ)) (rf ρ h)).map _=((dA a df b h).map _).map _;rw[c];obtain _|_:=dA a df b h<;>rfl
end
structure ER(P:bW):Prop where
 attr:∀c f v,P.oa c f=aa v->cl v=ae
 bx:∀n f,P.bx n=aa f->ng f.dflt=ae
 fn:∀n f,P.fn n=aa f->ng f.dflt=ae
 ba:∀c d,P.ba c=aa d->ng d.2=ae
 exc:∀c d,P.exc c=aa d->ng d.2=ae
structure vV(ρ:fg)(g r:bh):Prop where
 prm:g.prm=r.prm
 quiet:g.quiet=r.quiet
 E:∀e V O,LE ρ (re ρ) (g.E e V O) (r.E e (rf ρ V) (bl ρ O))
 T:∀e V O,LE ρ id (g.T e V O) (r.T e (rf ρ V) (bl ρ O))
 S:∀s V O,LS ρ (g.S s V O) (r.S s (rf ρ V) (bl ρ O))
 B:∀b V O,LS ρ (g.B b V O) (r.B b (rf ρ V) (bl ρ O))
 F:∀xs l b V O,LS ρ (g.F xs l b V O) (r.F xs (l.map (re ρ)) b (rf ρ V) (bl ρ O))
noncomputable abbrev Kw:=Nm->ak Fn->af IV->af (Nm×IV)->St->RE IV
noncomputable def ED(h:fg)(P:bW)(C:su)(b:Kw):Prop:=∀n f,(P.bx n=aa f\/P.fn n=aa f)->∀x a O,LE h (re h) (b n (aa f) x a O) ((C f (x.map (re h)) (rf h a) (bl h O)).aw λ v O=>.ok (v.1,O))
section
variable{h:fg}{v:fP}{P:bW}{g r:bh}{u:Kw}(H:eZ v h)(f:ER P)(b:vV h g r)(j:ED h P r.C u)
include b in
theorem DE(l:af IE)(V:Loc)(O:St):LE h (ml (re h)) (ik g l V O) (ik r l (rf h V) (bl h O)):=by
 induction l generalizing O with
 |nil=>exact cT rfl
 |cons e l x=>exact cF (b.E ..) λ c O=>cD (λ a=>by exact(yN).symm▸a) λ Y=>cF (x O) λ d O=>cT rfl
include b in
theorem Zr(l:af (Nm×IE))(V:Loc)(O:St):LE h (rf h) (xR g l V O) (xR r l (rf h V) (bl h O)):=by
 induction l generalizing O with
 |nil=>exact cT rfl
 |cons e l x=>exact cF (b.E ..) λ a O=>cD (λ c=>(gJ a).trans c) λ Y=>cF (x O) λ d O=>cT rfl
include b in
theorem ug(as:af IE)(kw:af (Nm×IE))(V:Loc)(O:St):LA h (dq g as kw V O) (dq r as kw (rf h V) (bl h O)):=
 cF (DE b as V O) λ a O=>cD (λ x=>by exact(yM).symm▸x) λ Y=>cF (Zr b kw V O) λ c O=>cT rfl
include H f in
theorem zN(a:IV)(x:Nm)(O:St):cG P (re h a) x (bl h O)=(cG P a x O).map (re h):=by
 unfold cG;rw[Bi,vm];obtain _|c:=a.nh
 ·show(if(a.isObj&&P.cZ .bL x)=ae then(bl h O).bind λ d=>lk x d else none)=(if(a.isObj&&P.cZ .bL x)=ae then O.bind λ d=>lk x d else none).map (re h);by_cases q:(a.isObj&&P.cZ .bL x)=ae
  ·rw[aT q,aT q];obtain _|d:=O
   ·rfl
   ·exact eV
  ·rw[aM q,aM q];rfl
 ·show bo (lk x (rf h c.2)) (λ a=>aE (P.cZ c.1 x) a) (P.oa c.1 x)=(bo (lk x c.2) (λ a=>aE (P.cZ c.1 x) a) (P.oa c.1 x)).map (re h);rw[eV];obtain _|w:=lk x c.2
  ·show P.oa c.1 x=(P.oa c.1 x).map (re h);rcases q:P.oa c.1 x with _|w
   ·rfl
   ·exact aD aa (gL H.zero w (f.attr _ _ _ q)).symm
  ·show aE _ _=(aE _ _).map _;obtain _|_:=P.cZ c.1 x<;>rfl
include f H in
theorem Ui(c:Nm)(a:af IV)(e:af (Nm×IV))(O:St):LE h (re h) (ur P c a e O) (ur P c (a.map (re h)) (rf h e) (bl h O)):=
 eA id (λ Y x=>x) λ d hd=>cD (λ x=>by exact(yM).symm▸(Ep).symm▸x) λ Y=>iu (Cr H.zero (f.ba _ _ hd)) λ i Y=>cT rfl
include j in
theorem RK{n x}(d:P.bx n=aa x\/P.fn n=aa x)(a:af IV)(c:af (Nm×IV))(O:St):LE h (re h) (JY u x a c O n) (oq r x (a.map (re h)) (rf h c) (bl h O)):=
 cD (λ e=>by exact(yM).symm▸(bd3).symm▸e) λ Y=>j n x d a c O
include H in
theorem ay9(m x:Nm)(c:af IV)(O:St):LE h (re h) (MO m x c O) (IM m x (c.map (re h)) (bl h O)):=
 iu rfl λ a Y=>iu (f:=rl h) (by rw[eV];cases lk x a with|none=>rfl|some d=>exact yR d) λ l Y=>eA (λ w=>(re h w.1,rl h w.2)) (λ w e=>SM H e) λ w Y=>by
  show LE h (re h) (.ok (w.1,aa (put x (.lst w.2) a))) (.ok (re h w.1,aa (put x (re h (.lst w.2)) (rf h a))))
  exact(nO).symm▸cT rfl
include H f b in
theorem Yv(x m:Nm)(as:af IE)(kw:af (Nm×IE))(V:Loc)(O:St):LE h (re h) (QT P g x m as kw V O) (Ao P r x m as kw (rf h V) (bl h O)):=
 cD (λ a=>by exact(K6).symm▸(zN H f .obj x O).symm▸(Qr).symm▸a) λ Y=>cF (ug b as [] V O) λ c O=>ay9 H m x c.1 O
include b j in
theorem ak7(m:Nm)(as:af IE)(kw:af (Nm×IE))(V:Loc)(O:St):LE h (re h) (Ra P g u m as kw V O) (Jn P r m as kw (rf h V) (bl h O)):=
 eA id (λ Y x=>x) λ e c=>cD (λ x=>by
  obtain _|d:=O
  ·exact x
  ·show(lk m (rf h d)).isNone=ae;exact(eV).symm▸(GB).symm▸x) λ Y=>cF (ug b as kw V O) λ a O=>RK j (.inl c) (.obj::a.1) a.2 O
include H b in
theorem bj4(s:af ah)(m:Nm)(as:af IE)(kw:af (Nm×IE))(V:Loc)(O:St):LE h (re h) (Oh g s m as kw V O) (uy r (rs h s) m as kw (rf h V) (bl h O)):=
 cD (λ x=>x) λ Y=>cF (ug b as [] V O) λ a O=>lC λ x=>by
  exact(kB (aH x)).symm▸(show(GR h a).1=a.1 from KA H.zero (aP x)).symm▸eA id (λ Y x=>x) λ c Y=>lC λ hv=>cT (gL H.zero c hv).symm
include H b j in
theorem bt0(x:IV)(m:Nm)(as:af IE)(kw:af (Nm×IE))(V:Loc)(O:St):LE h (re h) (Ht P g u x m as kw V O) (Cz P r (re h x) m as kw (rf h V) (bl h O)):=by
 delta Ht Cz;rw[vm];exact ua (ak7 b j m as kw V O) (iu (Dg x) λ s Y=>bj4 H b s m as kw V O)
include H f b j in
theorem be1(e:IE)(m:Nm)(as:af IE)(kw:af (Nm×IE))(V:Loc)(O:St):LE h (re h) (OO P g u e m as kw V O) (OT P r e m as kw (rf h V) (bl h O)):=
 vU (λ x Y=>Yv H f b x m as kw V O) λ Y=>cF (b.E ..) λ a O=>bt0 H b j a m as kw V O
theorem M8(x:IV)(d:Nm):yk P (re h x) d=yk P x d:=by
 unfold yk;rw[Bi,Dg];obtain _|c:=x.nh
 ·obtain _|_:=x.de<;>rfl
 ·rfl
theorem Rx{l}(c:h.i 0=0)(a:(l.all λ x=>hY x.1)=ae):(rd h l).map (λ x=>IV.int x.1)=(l.map λ x=>IV.int x.1).map (re h):=by
 induction l with
 |nil=>rfl
 |cons x l d=>
  show IV.int x.1::_=IV.int (ri h x.1)::_;exact(kM c (aH a)).symm▸(d (aP a)).symm▸rfl
theorem az8{a:Type}{l:af a}{c:a->ag}:fC (l.map λ x=>IV.int (c x))=ae:=by
 induction l with
 |nil=>rfl
 |cons x l d=>exact d
include H f j b in
theorem Zm(c:Nm)(e:af IV)(i:af (Nm×IV))(O:St):LE h (re h) (RY v P g u c e i O) (nq P r c (e.map (re h)) (rf h i) (bl h O)):=by
 refine HO (λ Y=>?_) λ Y=>HO (λ Y=>?_) λ Y=>HO (λ Y=>?_) λ Y=>?_
 ·refine cD (λ x=>by rw[AJ];exact x) λ Y=>iu JN λ a Y=>?_;rcases q:Ho v a with _|n
  ·exact .inl rfl
  ·refine aG (E8 H q) λ k m o=>?_;exact(m).symm▸cT (aD IV.int o.symm)
 ·exact cD (λ x=>by rw[AJ];exact x) λ Y=>iu ND λ a Y=>eA id (λ d x=>(SG a.2).trans x) λ d Y=>eA id (λ p x=>(M8 a.1 d).trans x) λ p Y=>cT rfl
 ·exact cD (λ x=>by exact(AJ).symm▸(b.quiet)▸x) λ Y=>iu JN λ a Y=>iu (vT a) λ l Y=>cD (λ x=>by exact(Iy).symm▸x) λ Y=>lC λ x=>cT (aD IV.lst ((Rx H.zero x).trans (jZ az8).symm))
 ·by_cases q:c=.bL
  ·rw[aT q];exact .inl rfl
  ·rw[aM q,aM q];exact vU (λ d hd=>RK j (.inr hd) e i O) λ Y=>Ui H f c e i O
include H f j b in
theorem aq8(e:IE)(as:af IE)(kw:af (Nm×IE))(V:Loc)(O:St):LE h (re h) (Vi v P g u e as kw V O) (RD P r e as kw (rf h V) (bl h O)):=
 vU (λ e Y=>cD (λ a=>a) λ Y=>cF (ug b as kw V O) λ d O=>Zm H f b j e d.1 d.2 O) λ Y=>
  eA id (λ Y a=>a) λ x Y=>eA id (λ c a=>by
   refine iD a λ i k l=>?_
   exact(eV).symm▸(k).symm▸(SG i).trans l) λ c Y=>cD (λ a=>a) λ Y=>cF (ug b as kw V O) λ d O=>Ui H f c d.1 d.2 O
include H b in
theorem U6(o:uE)(l:af IE)(V:Loc)(O:St):LE h (re h) (Io g o l V O) (bools r o l (rf h V) (bl h O)):=by
 induction l generalizing O with
 |nil=>exact .inl rfl
 |cons e l x=>
  obtain _|⟨d,l⟩:=l
  ·exact b.E ..
  ·exact cF (b.E ..) λ i O=>eA id (λ a c=>AM H c) λ a Y=>ua (cT rfl) (x O)
include b in
theorem ab5(o:uE)(l:af IE)(V:Loc)(O:St):LE h id (sC g o l V O) (sC r o l (rf h V) (bl h O)):=by
 induction l generalizing O with
 |nil=>exact cT rfl
 |cons e l x=>exact cF (b.T ..) λ a O=>ua (cT rfl) (x O)
include H b in
theorem Rk(o p:mO)(a e c:IE)(V:Loc)(O:St):LE h id (HF v g o p a e c V O) (jS r o p a e c (rf h V) (bl h O)):=
 cF (b.E ..) λ x O=>cF (b.E ..) λ y O=>cD (λ d=>by simp only[gJ,gJ];exact d) λ Y=>eA id (λ t d=>Cw H d) λ t Y=>ua (cF (b.E ..) λ z O=>eA id (λ t d=>Cw H d) λ i Y=>cT rfl) (cT rfl)
include H b in
theorem Un(e:ak IE)(V:Loc)(O:St):LE h (Wz (ri h)) (Hj g e V O) (DG r e (rf h V) (bl h O)):=by
 obtain _|e:=e
 ·exact cT rfl
 ·exact cF (b.E ..) λ x O=>iu (ye x) λ i Y=>cT rfl
include H f b j in
theorem Y2(e:IE)(V:Loc)(O:St):LE h (re h) (Oq v P g u e V O) (kU P r e (rf h V) (bl h O)):=by
 obtain n|x|x|⟨e,s⟩|⟨e,m,as,kw⟩|⟨s,as,kw⟩|⟨o,a,q⟩|⟨o,a,q⟩|⟨o,p,a,q,c⟩|⟨o,l⟩|e|⟨t,a,q⟩|⟨e,i⟩|⟨e,lo,z⟩|l|l|_|⟨B,C,D,E⟩|_:=e
 ·exact lC λ d=>cT (gL H.zero n d).symm
 ·exact iu (eV.trans (by rw[Ph])) λ n Y=>cT rfl
 ·exact eA id (λ Y d=>d) λ n Y=>lC λ d=>cT (gL H.zero n d).symm
 ·exact cF (b.E ..) λ n O=>iu ((zN H f n s O).trans (by rw[au1])) λ w Y=>cT rfl
 ·exact be1 H f b j e m as kw V O
 ·exact aq8 H f b j s as kw V O
 ·exact cF (b.E ..) λ x O=>cD (λ d=>by rw[yN];exact d) λ Y=>cF (b.E ..) λ y O=>eA (re h) (λ n d=>Kp H d) λ n Y=>cT rfl
 ·exact cF (b.E ..) λ x O=>cD (λ d=>by rw[yN];exact d) λ Y=>cF (b.E ..) λ y O=>eA id (λ n d=>Cw H d) λ n Y=>cT rfl
 ·exact cF (Rk H b o p a q c V O) λ n O=>cT rfl
 ·exact U6 H b o l V O
 ·exact cF (b.E ..) λ n O=>eA id (λ q d=>AM H d) λ q Y=>cT rfl
 ·exact cF (b.T ..) λ c O=>ua (b.E ..) (b.E ..)
 ·exact cF (b.E ..) λ n O=>cD (λ d=>by exact(yN).symm▸d) λ Y=>cF (b.E ..) λ k O=>eA (re h) (λ n d=>br8 H d) λ n Y=>cT rfl
 ·exact cF (b.E ..) λ n O=>cD (λ d=>by rw[yN];exact d) λ Y=>cF (Un H b lo V O) λ a O=>cF (Un H b z V O) λ q O=>eA (re h) (λ n d=>af7 H d) λ n Y=>cT rfl
 ·exact cF (DE b l V O) λ X O=>cD (λ d=>by rw[yM,bF];exact d) λ Y=>lC λ d=>cT (aD IV.tup (jZ d).symm)
 ·exact cF (DE b l V O) λ X O=>cD (λ d=>by rw[yM,bF];exact d) λ Y=>lC λ d=>cT (aD IV.lst (jZ d).symm)
 ·exact cT rfl
 ·exact cF (b.E ..) λ A O=>cD (λ d=>(gJ A).trans d) λ Y=>cF (b.E ..) λ I O=>cD (λ d=>by rw[gJ];exact d) λ Y=>cT rfl
 ·exact .inl rfl
include H b in
theorem ag3(e:IE)(V:Loc)(O:St):LE h id (PG v g e V O) (stepT r e (rf h V) (bl h O)):=by
 cases e with
 |not e=>exact cF (b.T ..) λ d O=>cT rfl
 |bool o l=>exact ab5 b o l V O
 |ite t a d=>exact cF (b.T ..) λ c O=>ua (b.T ..) (b.T ..)
 |cmp o a d=>exact cF (b.E ..) λ x O=>cD (λ i=>by exact(yN).symm▸i) λ Y=>cF (b.E ..) λ y O=>eA id (λ k i=>Cw H i) λ k Y=>cT rfl
 |jS o p a d c=>exact Rk H b o p a d c V O
 |_=>exact cF (b.E ..) λ k O=>eA id (λ d i=>AM H i) λ d Y=>cT rfl
end
section
variable{h:fg}{j:fP}{P:bW}{g r:bh}{n:Kw}(H:eZ j h)(f:ER P)(b:vV h g r)(u:ED h P r.C n)
theorem Ig{c:Type}{a x}{v:c}(d:(bif a then x else none)=aa v):a=ae/\x=aa v:=by
 obtain _|_:=a
 ·cbv
 ·exact⟨rfl,d⟩
theorem Jo{x}{V:Loc}{p}(hp:∀v,p (re h v)=p v):(lk x (rf h V)).all p=(lk x V).all p:=by
 rw[eV];obtain _|v:=lk x V
 ·rfl
 ·exact hp v
theorem VD{o:ak IV}{p}(hp:∀v,p (re h v)=p v):(o.map (re h)).any p=o.any p:=by
 obtain _|v:=o
 ·rfl
 ·exact hp v
include b in
theorem BF(x:Nm)(v:IV)(V:Loc):fT r x (re h v) (rf h V)=fT g x v V:=by
 unfold fT;rw[gJ,Jo gJ,b.prm]
include b in
theorem bm0(a:af Nm)(V:Loc):xZ r a (rf h V)=xZ g a V:=aD (Xj a) (funext λ x=>BF b x .none V)
include b in
theorem SN{c v V e}(a:Iw g c v V=aa e):jz r c (re h v) (rf h V)=aa (rf h e):=by
 refine bg (Ig a) ?_;clear a;intro q a;unfold jz;revert a;refine ki (λ k a=>?_) λ Y a=>(by cbv)
 rw[bm0 b,aT k];rcases i:one c with _|x
 ·rw[i]at a;revert a;refine av λ l d=>bR λ m o=>?_;subst o;rw[d]at q;rw[EZ,d];show aE (decide (2<=c.length)&&decide (c.length=(rl h l).length)&&decide (c.length<100)) (putAll (c.zip (rl h l)) (rf h V))=_;rw[jZ q,bF,lM m,an9,T8]
 ·rw[i]at a;revert a;refine bR λ d p=>?_;subst p;show aE (az (re h v)) (put x (re h v) (rf h V))=_;simp only[gJ,lM d,nO]
theorem by2(x:Nm)(v:IV)(a:af (Nm×IV)):wY x (re h v) (rf h a)=wY x v a:=by
 unfold wY;rw[Ep,bj9,yR,vT,Jo gJ,Jo (λ c=>by rw[vT,Gz]),eV,GB];obtain _|l:=v.dX
 ·obtain _|l:=v.hM
  ·rfl
  ·rfl
 ·rfl
theorem Vw(x:Nm)(v:IV)(O:St)(V:Loc):LS h (th x v O V) (th x (re h v) (bl h O) (rf h V)):=
 iu rfl λ a Y=>cD (λ c=>(by2 x v a).trans c) λ Y=>by rw[nO];exact .inr rfl
include H in
theorem Rw(x:Nm)(k:IV)(O:St){a c}(o:∀i l,c i (rd h l)=(a i l).map (rd h))(V:Loc):LS h (GI x k O a V) (EI x (re h k) (bl h O) c (rf h V)):=by
 refine lC λ d=>iu rfl λ m Y=>eA id (λ i e=>?_) λ i Y=>iu ?_ λ l Y=>iu (o i l) λ l Y=>?_
 ·simp only[ye,e];rw[e]at d;exact aD aa (kM H.zero d)
 ·rw[eV];obtain _|v:=lk x m
  ·rfl
  ·exact vT v
 ·show LS h _ (.ok (.next,rf h V,aa (put x (re h (.eD l)) (rf h m))));rw[nO];exact .inr rfl
include H b in
theorem U0(x m:Nm)(as:af IE)(kw:af (Nm×IE))(V:Loc)(O:St):LS h (Oe g x m as kw V O) (tw r x m as kw (rf h V) (bl h O)):=
 cD (λ a=>a) λ Y=>iV (ug b as [] V O) λ c O=>iu (f:=rl h) (by rw[eV];cases lk x V with|none=>rfl|some v=>exact yR v) λ l Y=>eA (λ w=>(re h w.1,rl h w.2)) (λ w a=>SM H a) λ w Y=>by
  show LS h _ (.ok (.next,put x (re h (.lst w.2)) (rf h V),bl h O))
  rw[nO]
  exact .inr rfl
include b in
theorem TG{e}:yQ r e=yQ g e:=by unfold yQ;rw[b.prm]
include b in
theorem ax0{as x}:oX r as (x.map (re h))=oX g as x:=by
 induction as generalizing x with
 |nil=>rfl
 |cons e as a=>
  obtain _|⟨v,x⟩:=x
  ·rfl
  ·show((az (re h v)||(yQ r e&&mu (re h v)))&&oX r as (x.map (re h)))=_;simp only[gJ,Fd,TG b,a];rfl
theorem B6(v:IV):freeze (re h v)=re h (freeze v):=by obtain _|_:=v<;>rfl
theorem XA{l}(x:fC l=ae):fC (l.map freeze)=ae:=by
 induction l with
 |nil=>rfl
 |cons v l a=>
  show((ju (freeze v)).isNone&&fC (l.map freeze))=ae;simp only[a (aP x),Cc];cases v with
  |cls c=>exact(aH x)
  |_=>rfl
include b in
theorem au7(e:IE)(V:Loc)(O:St):LE h (re h) (Sg g e V O) (Rp r e (rf h V) (bl h O)):=
 vU (λ l Y=>cF (DE b l V O) λ a O=>cD (λ x=>by rw[ax0 b,bF];exact x) λ Y=>lC λ x=>cT (aD IV.tup (by
  simp only[jZ (XA x),zB,zB]
  exact aD (λ c=>ml c a) (funext B6)))) λ Y=>
  cF (b.E ..) λ v O=>cD (λ x=>by simp only[gJ,Fd,show zk r e=zk g e by unfold zk;rw[TG b]];exact x) λ Y=>cT rfl
theorem bd5{s}(x:dI s=ae):(s.map λ c=>IV.str [c]).map (re h)=s.map λ c=>IV.str [c]:=by
 induction s with
 |nil=>rfl
 |cons c s a=>
  show IV.str (rs h [c])::_=IV.str [c]::_;rw[kB (by show(cV c cM&&ae)=ae;rw[show cV c cM=ae from(aH x)];rfl)];exact aD _ (a (aP x))
include H in
theorem B0{e i V v l}(a:NO e i V v=aa l):vO e i (rf h V) (re h v)=aa (l.map (re h)):=by
 refine bg (Ig a) ?_;clear a;intro q a;revert q;refine aV λ k=>aV λ o p=>?_;unfold vO;revert a;refine fH (λ a=>?_) λ a=>?_
 ·revert a;refine dQ λ s d t=>t▸?_;rw[d]at k;rw[Dg,d];show aa ((rs h s).map λ c=>IV.str [c])=_;rw[kB k,bd5 k]
 revert a;refine fH (λ a=>?_) λ a=>?_
 ·revert a;refine av λ s d=>bR λ m w=>?_;subst w;obtain rfl:=jm d;show(aE (fresh e) (rl h s)).or _=_;rw[lM m,jZ o];rfl
 revert a;refine fH (λ a=>?_) λ a=>?_
 ·obtain rfl:=Ct a;show aa (rl h l)=_;rw[jZ o]
 ·revert a;refine av λ s d=>bR λ m y=>y▸?_;obtain rfl:=nz d;show aE (i&&!(rf h V).isEmpty) ((rd h s).map λ x=>IV.int x.1)=_;rw[AJ,lM m,Rx H.zero p]
include H b in
theorem N6(a:IE)(d:al)(V:Loc)(O:St):LE h (ml (re h)) (MN g a d V O) (RA r a d (rf h V) (bl h O)):=
 vU (λ c Y=>cD (λ x=>x) λ Y=>cF (ug b c.2.1 [] V O) λ e O=>lC λ x=>by
   rw[show(GR h e).1=e.1 from KA H.zero x]
   exact eA id (λ Y x=>x) λ l Y=>lC λ x=>cT (KA H.zero x).symm) λ Y=>
  vU (λ i Y=>cF (b.E ..) λ v O=>Hg (RN v) (λ l Y=>cD (λ x=>by rw[AM H (cH x)];rfl) λ Y=>lC λ x=>cT (jZ x)) λ Y=>
    cD (λ x=>(De v).trans x) λ Y=>cF (b.E ..) λ w O=>iu (yR w) λ l Y=>cD (λ x=>x) λ Y=>lC λ x=>cT (jZ x)) λ Y=>
   cF (b.E ..) λ v O=>eA (ml (re h)) (λ l x=>B0 H x) λ l Y=>cT rfl
include b in
theorem ad0(x:af Nm)(l:af IV)(a:af IS)(V:Loc)(O:St):LS h (Vp g x l a V O) (Te r x (l.map (re h)) a (rf h V) (bl h O)):=by
 obtain _|⟨v,l⟩:=l
 ·exact .inr rfl
 ·exact eA (rf h) (λ V c=>SN b c) λ V Y=>Sy (b.B ..) λ V O=>b.F ..
include b in
theorem Zt(l:af IS)(V:Loc)(O:St):LS h (CF g l V O) (CF r l (rf h V) (bl h O)):=by
 obtain _|⟨s,l⟩:=l
 ·exact .inr rfl
 ·exact at3 (b.S ..) λ V O=>b.B ..
theorem xT{h}{V x:Loc}{O}(a:x=rf h V):LS h (.ok (.next,V,O)) (.ok (.next,x,bl h O)):=by rw[a];exact .inr rfl
include H f b in
theorem bf4(s:IS)(V:Loc)(O:St):LS h (Ss j P g s V O) (kS P r s (rf h V) (bl h O)):=by
 obtain e|⟨x,e⟩|⟨o,z,e⟩|⟨d,i,e⟩|⟨D,e⟩|⟨x,y,e⟩|⟨x,op,e⟩|⟨o,z,op,e⟩|e|as|e|⟨t,a,p⟩|⟨t,p⟩|⟨D,E,p⟩|⟨d,i⟩|_|_|_|⟨p,c,x,m⟩|_:=s
 ·refine Hg (f:=id) ?_ (λ c Y=>U0 H b c.1 c.2.1 c.2.2.1 c.2.2.2 V O) λ Y=>iV (b.E ..) λ Y O=>xT rfl;rw[Option.map_id];exact aD _ (funext λ c=>by simp only[eV,Qr])
 ·refine lC λ m=>?_;have I:((mJ e).bind λ c=>(P.fn c.1).map λ g=>(g,c.2))=none:=by
   have m:=lY m;rcases q:mJ e with _|c
   ·rfl
   ·rw[q]at m;show(P.fn c.1).map _=none;rw[show P.fn c.1=none from m];rfl
  show LS h _ (bo _ _ _);rw[I];exact iV (b.E ..) λ v O=>cD (λ m=>by simp only[gJ,Fd,BF b];exact m) λ Y=>xT nO
 ·exact iV (b.E ..) λ v O=>cD (λ m=>by rw[gJ];exact m) λ Y=>iV (b.E ..) λ w O=>cD (λ m=>by rw[vm];exact m) λ Y=>Vw z v O V
 ·refine eA id (λ Y m=>m) λ p Y=>iV (b.E ..) λ v O=>cD (λ m=>(gJ v).trans m) λ Y=>iV (b.E ..) λ w O=>cD (λ m=>?_) λ Y=>iV (b.E ..) λ k O=>Rw H _ k O (λ i l=>?_) V
  ·rw[vm,show cG P .obj (id p).2 (bl h O)=_ from zN H f .obj p.2 O,VD (λ v=>by rw[vT,Gz])];exact m
  ·rw[Iy,ay4];obtain _|_:=decide (l.length<900)<;>rfl
 ·exact cD (λ m=>by rw[<-b.quiet];exact m) λ Y=>iV (b.E ..) λ v O=>cD (λ m=>m) λ Y=>eA (rf h) (λ V m=>SN b m) λ V Y=>xT rfl
 ·refine iV (b.E ..) λ v O=>lC λ m=>eA (λ X=>(re h X.1,re h X.2)) (λ X A=>?_) λ X Y=>cD (λ m=>by simp only[gJ,gJ,BF b,BF b];exact m) λ Y=>xT (by simp only[nO,nO]);refine iD A λ l C J=>?_;rw[C]at m;simp only[EZ,C];show two (rl h l)=_;simp only[jZ m,ND,J];rfl
 ·exact iu eV λ a Y=>iV (b.E ..) λ p O=>eA (re h) (λ v m=>NQ H m) λ v Y=>cD (λ m=>by simp only[gJ,BF b];exact m) λ Y=>xT nO
 ·refine iV (b.E ..) λ w O=>cD (λ m=>(vm w).trans m) λ Y=>iu (f:=ri h) ?_ λ a Y=>iV (b.E ..) λ p O=>eA (ri h) (λ v m=>?_) λ v Y=>Vw z (.int v) O V
  ·rw[show cG P .obj z (bl h O)=_ from zN H f .obj z O];obtain _|v:=cG P .obj z O
   ·rfl
   ·exact ye v
  ·refine iD m λ X L A=>?_;rw[show lQ op (.int (ri h a)) (re h p)=_ from NQ H L];show(re h X).cn=_;simp only[ye,A];rfl
 ·exact vU (λ e Y=>iV (au7 b e V O) λ v O=>.inr rfl) λ Y=>.inr rfl
 ·exact .inl rfl
 ·exact cD (λ m=>by rw[<-b.quiet];exact m) λ Y=>eA id (λ Y m=>m) λ c Y=>eA id (λ Y m=>m) λ d hd=>iV (ug b c.2.1 c.2.2 V O) λ B O=>cD (λ m=>by
   show((B.1.map (re h)).all az&&(rf h B.2).isEmpty&&decide ((B.1.map (re h)).length<=100))=ae
   simp only[yM,AJ,bF];exact m) λ Y=>iu (Cr H.zero (f.exc _ _ hd)) λ M Y=>.inr rfl
 ·exact iV (b.T ..) λ c O=>ua (b.B ..) (b.B ..)
 ·exact iV (b.T ..) λ c O=>ua (Sy (b.B ..) λ V O=>b.S ..) (xT rfl)
 ·exact cD (λ m=>by rw[<-b.quiet];exact m) λ Y=>iV (N6 H b E (jL p) V O) λ l O=>b.F ..
 ·refine eA id (λ Y m=>m) λ p Y=>iV (b.E ..) λ w O=>cD (λ m=>?_) λ Y=>iV (b.E ..) λ k O=>Rw H _ k O (λ i l=>?_) V
  ·rw[vm,show cG P .obj (id p).2 (bl h O)=_ from zN H f .obj p.2 O,VD (λ v=>by rw[vT,Gz])];exact m
  ·simp only[Iy,ai7,Km,Gz];obtain _|_:=(iJ i l).isSome&&decide (l.length<900)<;>rfl
 ·exact .inr rfl
 ·exact .inr rfl
 ·exact .inr rfl
 ·show LS h (match g.B p V O with|.exc _=>.stuck|y=>y) (rL P r c x m (r.B p (rf h V) (bl h O)));obtain e|e:=b.B p V O
  ·rw[e];exact .inl rfl
  ·rw[e];obtain _|e|a:=g.B p V O
   ·exact .inl rfl
   ·exact .inl rfl
   ·exact .inr rfl
 ·exact .inl rfl
end
section
variable{ρ:fg}{I:fP}{P:bW}(H:eZ I ρ)(A:ER P)
theorem jh{prm d C top}:∀m,(pE P prm d C top m).quiet=ai/\(pE P prm d C top m).prm=prm/\(pE P prm d C top m).C=C
 |0=>⟨rfl,rfl,rfl⟩
 |m+1=>jh m
include H A in
theorem EA{prm d top C gc}(a:ED ρ P C gc):∀n m,n<=m->vV ρ (iW I P prm gc n) (pE P prm d C top m)
 |0,m,_=>⟨(jh m).2.1.symm,(jh m).1.symm,λ Y Y Y=>.inl rfl,λ Y Y Y=>.inl rfl,λ Y Y Y=>.inl rfl,λ Y Y Y=>.inl rfl,λ Y Y Y Y Y=>.inl rfl⟩
 |n+1,0,h=>absurd h (WA n)
 |n+1,m+1,h=>by
  have x:=EA (prm:=prm) (d:=d) (top:=top) a n m (pN h)
  exact⟨x.prm,x.quiet,Y2 H A x (by rw[(jh m).2.2];exact a),ag3 H x,bf4 H A x,Zt x,ad0 x⟩
noncomputable def rB(ρ:fg)(p:IV×Loc):IV×Loc:=(re ρ p.1,rf ρ p.2)
theorem Jl{g x}(h:LS ρ g x):LE ρ (rB ρ) (eW g) (eW x):=by
 obtain rfl|rfl:=h
 ·exact .inl rfl
 obtain _|e|a:=g
 ·exact .inl rfl
 ·exact .inr rfl
 ·obtain⟨a,b,c⟩:=a;obtain _|_|_|v:=a
  ·exact .inr rfl
  ·exact .inl rfl
  ·exact .inl rfl
  ·exact .inr rfl
include H in
theorem bw5{g r}(b:vV ρ g r){f}(c:ng f.dflt=ae)(x:af IV)(a:af (Nm×IV))(O:St):LE ρ (rB ρ) (tP g f x a O) (tP r f (x.map (re ρ)) (rf ρ a) (bl ρ O)):=
 cD (λ h=>by rw[Ep];exact h) λ Y=>iu (Cr H.zero c) λ V Y=>Jl (b.B ..)
noncomputable def QJ(ρ:fg)(P:bW)(a:Jf)(b:ah):Prop:=∀n k,a n=aa k->∀f,(P.bx n=aa f\/P.fn n=aa f)->∀N d,b<=N->3<=d->∀h x O,LE ρ (re ρ) (k h x O) ((iS P N d f (h.map (re ρ)) (rf ρ x) (bl ρ O)).aw λ v O=>.ok (v.1,O))
include H A in
theorem JM{b i}(j:QJ ρ P b i){N a}(l:i<=a)(m:N<=a):∀d x,d+3<=x->ED ρ P (iS P a x) (gC I P b N d)
 |0,x,_=>λ n f g c e O=>.inl rfl
 |d+1,0,h=>absurd h (WA _)
 |d+1,x+1,h=>λ n f g c e O=>by
  show LE ρ (re ρ) (bo (b n) (λ k=>k c e O) _) _
  cases q:b n with
  |some k=>exact j n k q f g a (x+1) l (aj (fD 3 _) ‹_›) c e O
  |none=>
   have hd:=g.elim (A.bx n f) (A.fn n f)
   exact cF (bw5 H (EA H A (JM j l m d x (pN h)) N a m) hd c e O) λ v O=>cT rfl
structure Mc where
 prm:af Nm
 N:ah
 d:ah
 top:al
include H A in
end
noncomputable def NI(h:af IV)(a:af (Nm×IV))(O:St):al:=a.isEmpty&&((aX h.length 1||(aX h.length 2&&h.tail.all λ v=>v.cn.isSome))&&(h.head?.any IV.isObj&&O.any λ x=>((lk .mA x).bind IV.cn).isSome&&(((lk .oi x).bind IV.de).any (λ s=>eE (tN s) 10000)&&((lk .qr x).any IV.cL&&(lk .uh x).isNone))))
noncomputable def wd(h:fP)(m:Nm)(x:af IV)(a:af (Nm×IV))(O:St):RE IV:=R.opt (aC.bx m) λ f=>R.ax (NI x a O) ((tP (iW h aC f.params (gC h aC (λ Y=>none) 0 0) 60) ⟨f.params,f.dflt,f.body.tail⟩ x a O).aw λ v O=>.ok (v.1,O))
noncomputable def jU(h:fP):Jf:=λ n=>bif aX n.id Nm.Ae.id||aX n.id Nm.rD.id then aa (wd h n)else none
noncomputable def fQ(f:Nm):IE:=.attr (.var .bq) f
noncomputable def Dy(e h:IE):IS:=.iff (.cmp .GtE e (.call (.glob .ij) [fQ .oi] [])) [.expr (.bx (.var .bq) .uh [h] [])] []
theorem bl3:aC.bx .uh=aa ⟨[.bq,.hJ],[],[.iff (.cmp .Is (fQ .qr) (.con .none)) [.ret none] []]⟩:=∅
noncomputable def mF(m:Nm):Fn:=(aC.bx m).getD ⟨[],[],[]⟩
theorem bv6:aC.bx .rD=aa ⟨[.bq,.hJ],[(.hJ,.int 1)],Dy (.bin .Add (.bin .Add (fQ .mA) (.var .hJ)) (.con (.int 1))) (.bin .Add (.var .hJ) (.con (.int 1)))::(mF .rD).body.tail⟩:=∅
theorem bu2:aC.bx .Ae=aa ⟨[.bq,.hJ],[(.hJ,.int 1)],Dy (.bin .Add (fQ .mA) (.var .hJ)) (.var .hJ)::(mF .Ae).body.tail⟩:=∅
section
variable{r:bh}{hB:af IS->Loc->St->RS}{V:Loc}{O O' b:St}{h:af (Nm×IV)}{v w u:IV}{x f:Nm}
noncomputable abbrev nR(r:bh)(hB:af IS->Loc->St->RS):bh:=jv aC r hB
theorem qK(a:lk x V=aa v):(nR r hB).E (.var x) V O=.ok (v,O):=by show R.opt _ _=_;rw[a];rfl
theorem JW{e}(a:r.E e V O=.ok (v,O'))(g:cG aC v f O'=aa w):(nR r hB).E (.attr e f) V O=.ok (w,O'):=by show R.aw _ _=_;rw[a];show R.opt _ _=_;rw[g];rfl
theorem Al{o a c}(d:r.E a V O=.ok (v,O'))(e:cR a v=ae)(i:r.E c V O'=.ok (w,b))(g:lX o v w=aa u):(nR r hB).E (.bin o a c) V O=.ok (u,b):=by
 show R.aw _ _=_;rw[d];show R.ax _ _=_;rw[e];rw[i];show R.opt _ _=_;rw[g];rfl
theorem Bt{o a c t}(d:r.E a V O=.ok (v,O'))(e:cR a v=ae)(i:r.E c V O'=.ok (w,b))(g:eX o v w=aa t):(nR r hB).T (.cmp o a c) V O=.ok (t,b):=by
 show R.aw _ _=_;rw[d];show R.ax _ _=_;rw[e];rw[i];show R.opt _ _=_;rw[g];rfl
theorem UK{e n}(a:r.E e V O=.ok (v,O'))(c:(cR e v||ae)=ae)(g:nB v=aa n):(nR r hB).E (.call (.glob .ij) [e] []) V O=.ok (.int n,O'):=by
 show R.aw (R.aw (R.aw (r.E e V O) _) _) _=_;rw[a];show R.aw (R.aw (R.ax (cR e v||ae) _) _) _=_;rw[c];show R.opt (nB v) _=_;rw[g];rfl
theorem Ey{t a d c y}(e:r.T t V O=.ok (c,O'))(g:(bif c then r.B a V O' else r.B d V O')=y):(nR r hB).S (.iff t a d) V O=y:=by
 show aY _ _ _=_;rw[e];exact g
theorem bc7:(nR r hB).B [] V O=.ok (.next,V,O):=rfl
theorem yP{s l a y}(c:r.S s V O=.ok (.next,a,O'))(g:r.B l a O'=y):(nR r hB).B (s::l) V O=y:=by
 show R.ow _ _=_;rw[c];exact g
theorem UO{s l a f}(d:f.ctorIdx≠0)(c:r.S s V O=.ok (f,a,O')):(nR r hB).B (s::l) V O=.ok (f,a,O'):=by
 show R.ow _ _=_;rw[c];clear c;cases f with|next=>exact absurd rfl d|_=>rfl
theorem OL{s l e}(a:r.S s V O=.exc e):(nR r hB).B (s::l) V O=.exc e:=by
 show R.ow _ _=_;rw[a];rfl
theorem HM{m F as kw vs ks y}(j:lk x V=aa .obj)(a:aC.bx m=aa F)(c:(lk m h).isNone=ae)(d:dq r as kw V (aa h)=.ok ((vs,ks),O'))(e:r.E (.var x) V (aa h)=.ok (.obj,aa h))
  (g:((IV.obj::vs).all az&&ks.all (λ x=>az x.2))=ae)(i:((r.C F (.obj::vs) ks O').aw λ v O=>R.ok (v.1,O))=y):(nR r hB).E (.bx (.var x) m as kw) V (aa h)=y:=by
 show R.aw (r.E (.var x) V (aa h)) _=_;rw[e];show R.opt (aC.bx m) _=_;rw[a];show R.ax (lk m h).isNone _=_;rw[c];show R.aw (dq r as kw V (aa h)) _=_;rw[d];show R.ax _ _=_;rw[g];exact i
end
section
variable{V:Loc}{O:St}{fs:af (Nm×IV)}{p n:ag}{s:af ah}{prm:af Nm}{d N k h:ah}{top:al}
noncomputable abbrev rA(prm:af Nm)(d N:ah)(top:al)(n:ah):bh:=pE aC prm d (iS aC N d) top n
theorem vE:(rA prm d N top h).C=iS aC N d:=(jh h).2.2
theorem DQ{f v}(x:lk .bq V=aa .obj)(a:aC.cZ .bL f=ae)(b:lk f fs=aa v):(rA prm d N top (k+2)).E (fQ f) V (aa fs)=.ok (v,aa fs):=
 JW (qK x) (by show(if(ae&&aC.cZ .bL f)=ae then lk f fs else none)=_;rw[a];exact b)
theorem bs0(a:lk .qr fs=aa .none){x}:∃w,iS aC (k+9) (d+1) ⟨[.bq,.hJ],[],[.iff (.cmp .Is (fQ .qr) (.con .none)) [.ret none] []]⟩ [.obj,.int x] [] (aa fs)=.ok ((.none,w),aa fs):=by
 refine⟨[(.bq,.obj),(.hJ,.int x)],?_⟩;show eW ((rA _ _ _ _ (k+9)).B _ [(.bq,.obj),(.hJ,.int x)] _)=_;rw[show(rA [.bq,.hJ] d (k+9) ai (k+9)).B [.iff (.cmp .Is (fQ .qr) (.con .none)) [.ret none] []] [(.bq,.obj),(.hJ,.int x)] (aa fs)=.ok (.ret .none,[(.bq,.obj),(.hJ,.int x)],aa fs)from UO ⋯ (Ey (Bt (DQ rfl ∅ a) rfl rfl rfl) rfl)];rfl
theorem ay8{e a x}(b:lk .bq V=aa .obj)(c:lk .oi fs=aa (.str s))(f:s.length<=1000000)(g:(lk .uh fs).isNone=ae)(i:lk .qr fs=aa .none)
  (j:∀k,(rA prm (d+1) (N+20) top (k+4)).E e V (aa fs)=.ok (.int n,aa fs))(l:cR e (.int n)=ae)(m:∀k,(rA prm (d+1) (N+20) top (k+4)).E a V (aa fs)=.ok (.int x,aa fs))(r:cR a (.int x)=ae):
  (rA prm (d+1) (N+20) top (k+20)).S (Dy e a) V (aa fs)=.ok (.next,V,aa fs):=by
 refine Ey (c:=decide ((s.length:ag)<=n)) (Bt (j _) l (UK (DQ b ∅ c) (gz _) (by show(aE (dg s) s.length).or _=_;rw[show dg s=ae from bK f];rfl)) rfl) ?_;obtain _|_:=decide ((s.length:ag)<=n)
 ·rfl
 ·refine aI (bs0 (d:=d) (k:=N+11) i (x:=x)) λ w o=>?_;refine yP ?_ rfl;show bo (aE (kq (lk .bq V)) _) _ _=_;rw[b];show aY V ((rA prm (d+1) (N+20) top (k+17)).E (.bx (.var .bq) .uh [a] []) V (aa fs)) _=_;have q:(rA prm (d+1) (N+20) top (k+17)).E (.bx (.var .bq) .uh [a] []) V (aa fs)=.ok (.none,aa fs):=by
   refine HM b bl3 g (vs:=[.int x]) (ks:=[]) (O':=aa fs) ?_ (qK b) rfl ?_
   ·show R.aw (R.aw ((rA prm (d+1) (N+20) top (k+12+4)).E a V (aa fs)) _) _=_;rw[m];rfl
   ·rw[vE];rw[o];rfl
  rw[q];rfl
end
theorem Yk:(ry.all λ x=>ng (iH x.2.s).dflt)=ae:=∅
theorem ap3:(tI.all λ x=>ng (iH x.2.s).dflt)=ae:=∅
theorem W7:(jX.all λ x=>ng (jq x.2.2.s).2)=ae:=∅
theorem Ks:(rS.all λ x=>cl x.2)=ae:=∅
theorem A8:ng (jq sk.s).2=ae:=∅
theorem Ec:ER aC:=by
 refine⟨λ c f v h=>?_,λ n f h=>?_,λ n f h=>?_,λ c d h=>?_,λ c d h=>?_⟩
 ·refine bg (Ig h) λ Y h=>?_;exact bP Ks (ib h)
 ·revert h;refine dQ λ e x a=>?_;subst a;exact bP Yk (ib x)
 ·revert h;refine dQ λ e x b=>?_;subst b;exact bP ap3 (ib x)
 ·revert h;refine dQ λ e x g=>?_;subst g;exact bP W7 (ib x)
 ·refine bg (Bv h) λ Y i=>i▸?_;exact A8
section
variable{h:fg}{x:fP}
theorem P4{a d O}(e:NI a d O=ae):d=[]/\(a=[.obj]\/∃n,a=[.obj,.int n])/\∃b p s,O=aa b/\lk .mA b=aa (.int p)/\lk .oi b=aa (.str s)/\tN s<=10000/\lk .qr b=aa .none/\(lk .uh b).isNone=ae:=by
 revert e;refine aV λ f=>aV λ c=>aV λ g i=>?_;revert g;refine gn λ v j k=>?_;revert i;refine gn λ b l=>aV λ m=>aV λ o=>aV λ r y=>?_;refine aI (fY m) λ p z=>?_;revert z;refine av λ w H X=>?_;revert o;refine gn λ s A B=>?_;revert A;refine av λ u C D=>?_;revert r;refine gn λ t E I=>?_;obtain rfl:=dY X;obtain rfl:=gb D;obtain rfl:=rZ I;refine⟨gu f,?_,b,p,s,l,H,C,eQ B,E,y⟩;obtain _|⟨J,a⟩:=a
 ·cbv
 ·cases j;obtain rfl:=rj k;obtain q|q:=gV c
  ·clear c;cases a with|nil=>exact .inl rfl|cons=>obtain⟨⟩:=mS q
  ·revert q;refine aV λ q L=>?_;clear c;obtain _|⟨J,a⟩:=a
   ·cases mS q
   ·obtain _|_:=a
    ·obtain⟨n,M⟩:=fY (aH L);cases dY M;exact .inr ⟨n,rfl⟩
    ·cases mS q
theorem TA(H:eZ x h){m e c b}(u:aC.bx m=aa ⟨[.bq,.hJ],[(.hJ,.int 1)],Dy e c::b⟩)
  (w:∀{V a p n},lk .bq V=aa .obj->lk .hJ V=aa (.int n)->lk .mA a=aa (.int p)->∃q,cR e (.int q)=ae/\∀prm d N top k,(rA prm d N top (k+4)).E e V (aa a)=.ok (.int q,aa a))
  (y:∀{V a n},lk .hJ V=aa (.int n)->∃q,cR c (.int q)=ae/\∀prm d N top k,(rA prm d N top (k+4)).E c V (aa a)=.ok (.int q,aa a))
  {f}(g:aC.bx m=aa f){N d}(hN:100<=N)(hd:3<=d)(i j O):LE h (re h) (wd x m i j O) ((iS aC N d f (i.map (re h)) (rf h j) (bl h O)).aw λ v O=>.ok (v.1,O)):=by
 unfold wd;rw[u]at g⊢;cases g;refine lC λ z=>cF (f:=rB h) ?_ λ v O=>cT rfl;refine aB λ Y l=>?_;obtain⟨rfl,X,a,p,s,rfl,A,B,C,D,E⟩:=P4 z;obtain⟨N,rfl⟩:=mN (aj (by decide:21<=100) ‹100<=N›);obtain⟨d,rfl⟩:=mN (aj (by decide:2<=3) ‹3<=d›);refine l ?_;refine cD (λ I=>I) λ Y=>iu (Cr H.zero ∅) λ V o=>Jl ?_;have J:lk .bq V=aa .obj/\∃n,lk .hJ V=aa (.int n):=by
  obtain rfl|⟨n,rfl⟩:=X
  ·cases o;exact⟨rfl,_,rfl⟩
  ·cases o;exact⟨rfl,_,rfl⟩
 refine aB λ Y l=>?_;obtain⟨L,n,M⟩:=J;have r:lk .bq (rf h V)=aa .obj:=by simp only[eV,L];rfl
 have t:lk .hJ (rf h V)=aa (.int (ri h n)):=by simp only[eV,M];rfl
 have Q:lk .mA (rf h a)=aa (.int (ri h p)):=by simp only[eV,A];rfl
 refine aG (w r t Q) λ q T U=>?_;refine aG (y (a:=rf h a) t) λ q2 Z g2=>?_;refine l ?_;exact Eq.mpr (aD (LS h _) (yP (ay8 (prm:=[.bq,.hJ]) (N:=N+1) (top:=ai) (k:=N) (fs:=rf h a) (s:=rs h s) r (by simp only[eV,B];rfl) (aj (Bs H.sb s) (aj C ⋯)) (by simp only[eV,GB];exact E) (by simp only[eV,D];rfl) (λ k=>U ..) T (λ k=>g2 ..) Z) rfl)) ((EA H Ec (prm:=[.bq,.hJ]) (d:=d+1) (top:=ai) (C:=iS aC (N+21) (d+1)) (gc:=gC x aC (λ Y=>none) 0 0) (λ n f g i j O=>.inl rfl) 60 (N+20) (aj (by decide:60<=99) (pN ‹100<=N+21›))).B ..)
theorem Uh(H:eZ x h):QJ h aC (jU x) 100:=by
 intro n k e f l N d m hd o r O;refine bg (Bv e) λ g i=>?_;rw[<-i];obtain q|q:=gV g
 ·replace q:=nC q;clear i g e;subst q;exact TA H bu2 (λ{V j p n} a b c=>(aL (p+n) rfl (λ prm d N top k=>Al (DQ a ∅ c) rfl (qK b) rfl))) (λ{V j n} b=>(aL n rfl (λ prm d N top k=>qK b))) (l.resolve_right (by rw[show aC.fn Nm.Ae=none by kernel_rfl];nofun)) m hd o r O
 ·replace q:=nC q;clear i g e;subst q;exact TA H bv6 (λ{V j p n} a b c=>(aL (p+n+1) rfl (λ prm d N top k=>Al (Al (DQ a ∅ c) rfl (qK b) rfl) rfl rfl rfl))) (λ{V j n} b=>(aL (n+1) rfl (λ prm d N top k=>Al (qK b) rfl rfl rfl))) (l.resolve_right (by rw[show aC.fn Nm.rD=none by kernel_rfl];nofun)) m hd o r O
end
noncomputable def cY(x:af ah)(h ln cl:ag)(a:al)(b:ag)(tk:af IV)(tn c:ag)(d:af IV)(ask:al)(e:af (ag×IV)):af (Nm×IV):=
 [(.vC,.str [60,117,110,105,99,111,100,101,32,115,116,114,105,110,103,62]),(.uq,.none),(.Lf,.int 0),(.KU,.bool ae),(.oi,.str x),(.mA,.int h),(.qr,.none),(.IZ,.none),(.DF,.none),(.pI,.int h),(.mv,.int ln),(.iI,.int cl),
  (.yX,.bool a),(.zV,.int b),(.fS,.lst tk),(.iU,.int tn),(.yK,.int c),(.JL,.lst d),(.SH,.bool ask),(.Hb,.eD e)]
noncomputable def sy(t:ah)(k:ag):ag:=((t*1099511627776:ah):ag)+k
noncomputable def uS(k:ah):ah:=cM+k
noncomputable def uL(k:ah):IV:=.cls ⟨1000+k⟩
noncomputable def kW(h:fP)(m:Nm)(x:af IV)(O:St):RE IV:=gC h aC (jU h) 60 8 m (aC.bx m) x [] O
noncomputable def mH(f:Nm)(h:af (Nm×IV)):ak (ag×ag):=(lk f h).bind λ m=>m.nh.bind λ c=>(aE (aX c.1.id Nm.IA.id) ()).bind λ Y=>((lk .mv c.2).bind IV.cn).bind λ a=>((lk .iI c.2).bind IV.cn).map λ b=>(a,b)
noncomputable def wx(c:Nm):al:=aX c.id Nm.wq.id||(aX c.id Nm.vk.id||(aX c.id Nm.wt.id||aX c.id Nm.vD.id))
noncomputable def dF(t:IV):ak IV:=t.nh.bind λ c=>(aE (lk .ni c.2).isNone ()).bind λ Y=>(lk c.1 rS).bind λ i=>(mH .tm c.2).bind λ a=>(mH .uo c.2).bind λ b=>(bif wx c.1 then lk .fR c.2 else aa .none).bind λ v=>aE (az v) (.tup [i,v,.int a.1,.int a.2,.int b.1,.int b.2])
noncomputable def eg(m:Nm)(O:St):al:=O.any λ h=>(lk m h).isNone
noncomputable def KQ(x:fP)(p:af IV×St):ak (af IV×St):=match kW x .eB [.obj] p.2 with
 |.ok (v,O)=>(xW v).bind λ b=>bif b then(match kW x .jP [.obj] O with|.ok (_,a)=>aE (eg .eB p.2&&eg .jP O) (p.1,a)|_=>none)
  else O.bind λ h=>((lk .fS h).bind IV.dX).bind λ l=>l.head?.bind λ t=>(dF t).bind λ u=>((lk .iU h).bind IV.cn).bind λ n=>aE (jW n&&(fC l&&(eE l.length 100&&(cV h.length 900&&(u.dH.all fC&&(eg .eB p.2&&eg .km (aa h))))))) (p.1++[u],aa (put .fS (.lst l.tail) (put .iU (.int (n+1)) h)))
 |_=>none
noncomputable def bs9(k:ag)(O:St):al:=O.any λ h=>((lk .mA h).bind IV.cn).any (yS k)&&(((lk .fS h).bind IV.dX).any Wy||!((lk .Hb h).bind IV.hM).any Wy)
noncomputable def Fw(h:fP)(k:ag):ah->af IV×St->ak (af IV×St)
 |0,_=>none
 |n+1,p=>bif bs9 k p.2 then aa p else(KQ h p).bind (Fw h k n)
noncomputable def vX(h:fP)(O:St):RE IV:=(eW ((iW h aC [.bq] (gC h aC (jU h) 60 8) 60).B ((mF .jP).body.drop 3) [(.bq,.obj)] O)).aw λ Y O=>.ok (.none,O)
noncomputable def st(dm:af ah)(k:ag)(h:ag)(x:af IV)(ask:al)(tk:af IV)(tn:ag)(a:af (ag×IV)):St:=aa (cY (uS 0::dm) (sy 1 k) (sy 2 0) (sy 3 k) ai 0 tk tn h x ask a)
noncomputable def Bu:ah->af ag
 |0=>[]
 |n+1=>(n:ag)::Bu n
noncomputable def Ie(c0:al):af (mO×ag×ag×al):=[(.Eq,sy 3 0,0,c0)]
noncomputable def Fx(lt:al)(l:af (mO×ag×ag×al)):fP:=⟨(.Lt,sy 5 0,sy 3 0,lt)::(.Eq,sy 5 0,sy 3 0,!lt)::l++(Bu 9).map (λ i=>(.Gt,sy 5 0,sy 3 i,ai))++(Bu 9).map (λ i=>(.Eq,sy 1 (i+1),0,ai))++(Bu 9).map (λ i=>(.Eq,sy 5 0,sy 3 (i+1),ai)),[(.Add,sy 4 0,sy 6 0,sy 7 0)],[(0,sy 1 0)],[(2,sy 6 0)]⟩
noncomputable def markV(idx ln cl:ag)(h:af ah):IV:=.ba .IA [(.vC,.str [60,117,110,105,99,111,100,101,32,115,116,114,105,110,103,62]),(.pI,.int idx),(.mv,.int ln),(.iI,.int cl),(.oi,.str h),(.mA,.int idx)]
noncomputable def jn(num:ag)(h:al)(idx ln cl:ag)(x:af ah):IV:=.ba .Vo [(.W3,.int num),(.bd7,.bool h),(.pI,.int idx),(.mv,.int ln),(.iI,.int cl),(.rW,markV idx ln cl x)]
noncomputable def resT(r:RE IV):af IV:=match r with
 |.ok (_,aa h)=>(((lk .fS h).bind IV.dX).getD [])
 |_=>[]
noncomputable def fW(c:ah):IV:=bif aX c 45 then sS "<block sequence start>" else sS "<block mapping start>"
noncomputable def atT(k v:IV)(n a b:ag):IV:=.tup [k,v,.int n,.int a,.int n,.int b]
noncomputable def eU(n at_:ag)(c:af IV):af IV:=c.map λ t=>(t.dH.bind λ l=>(two (l.take 2)).bind λ h=>(two (l.drop 2)).bind λ x=>x.1.cn.bind λ a=>x.2.cn.map λ b=>atT h.1 h.2 n (at_+a) (at_+b)).getD .none
noncomputable def kI(c:ah)(n at_:ag):IV:=atT (.str [c]) .none n at_ (at_+1)
structure C1 where
 c:ah
 fo:ah
 lt:al
 c0:al
noncomputable def C1.dm(x:C1):af ah:=[x.c,x.fo,uS 1]
noncomputable def C1.run(x:C1):RE IV:=vX (Fx x.lt (Ie x.c0)) (st x.dm 0 (sy 5 0) [uL 1] ae [uL 2] (sy 4 0) [])
noncomputable def C1.out(x:C1):RE IV:=.ok (.none,st x.dm 1 (bif x.lt then sy 3 0 else sy 5 0) (bif x.lt then[uL 1,.int (sy 5 0)]else[uL 1]) ae (uL 2::(resT x.run).tail) (sy 4 0) [])
noncomputable def C1.tup(x:C1):af IV:=(bif x.lt then[atT (fW x.c) .none (sy 2 0) (sy 3 0) (sy 3 0)]else[])++[kI x.c (sy 2 0) (sy 3 0)]
noncomputable def am8:af (al×al):=[(ae,ae),(ae,ai),(ai,ae),(ai,ai)]
noncomputable def Fj:af C1:=[45,63,58].flatMap λ c=>[32,10,0].flatMap λ f=>am8.map λ b=>⟨c,f,b.1,b.2⟩
noncomputable def bO(j:ah):af ah:=((wB.getD j .none).dH.bind λ l=>l.head?.bind IV.de).getD []
noncomputable def ed(j:ah):af IV:=((wB.getD j .none).dH.bind λ l=>l.getLast?.bind IV.tM).getD []
noncomputable def rV(j:ah):af (af ah):=bif aX j 0||aX j 5 then[[58,32],[58,10],[58,0],[32,35]]else bif aX j 1||(aX j 3||(aX j 4||(aX j 6||aX j 7)))then[[58],[10],[0]]else[[]]
structure C2 where
 j:ah
 fo:af ah
 lt:al
noncomputable def C2.dm(x:C2):af ah:=bO x.j++(x.fo++[uS 1])
noncomputable def C2.len(x:C2):ah:=(bO x.j).length+bif x.fo.contains 35 then 1 else 0
noncomputable def C2.d1(x:C2):RE IV:=vX (Fx x.lt []) (st x.dm 0 (sy 5 0) [uL 1] ae [uL 2] (sy 4 0) [])
noncomputable def C2.key(x:C2):IV:=jn (sy 7 0) (!x.lt) (sy 1 0) (sy 2 0) (sy 3 0) (uS 0::x.dm)
noncomputable def C2.fm(x:C2):al:=aX x.j 8||aX x.j 9
noncomputable def hO(dm:af ah)(k h:ag)(ask:al)(tk:af IV)(tn:ag)(x:af (ag×IV)):St:=aa (cY (uS 0::dm) (sy 1 k) (sy 2 0) (sy 3 k) ai h tk tn (sy 5 0) [uL 1] ask x)
noncomputable def jy(r:RE IV):ag:=match r with
 |.ok (_,aa h)=>(((lk .mA h).bind IV.cn).getD 0)-sy 1 0
 |_=>0
noncomputable def W2(x:ag):al:=decide (-1000<=x/\x<=1000)
noncomputable def RH(r:RE IV):al:=W2 (jy r)&&(fC (resT r).tail&&aX (resT r).tail.length 1)
noncomputable def C2.o1(x:C2):RE IV:=.ok (.none,hO x.dm (jy x.d1) (bif x.fm then 1 else 0) x.fm (uL 2::(resT x.d1).tail) (sy 4 0) [(0,x.key)])
noncomputable def C2.run(x:C2):ak (af IV×St):=Fw (Fx x.lt []) (sy 1 x.len) 40 ([],hO x.dm (jy x.d1) (bif x.fm then 1 else 0) x.fm (resT x.d1).tail (sy 7 0) [(0,x.key)])
noncomputable def C2.nV(x:C2):af IV:=match x.run with
 |some (_,aa h)=>(((lk .fS h).bind IV.dX).getD [])
 |_=>[]
noncomputable def C2.out(x:C2):ak (af IV×St):=aa ([],hO x.dm x.len 0 ai x.nV (sy 7 0) [(0,x.key)])
noncomputable def C2.tup(x:C2):af IV:=eU (sy 2 0) (sy 3 0) (ed x.j)
noncomputable def vq:af C2:=(gi 10).flatMap λ j=>(rV j).flatMap λ f=>[⟨j,f,ae⟩,⟨j,f,ai⟩]
noncomputable def C3.d1(x:C2):RE IV:=vX (Fx ae []) (st x.dm 0 (sy 5 0) [uL 1] ai [uL 2] (sy 4 0) [])
noncomputable def C3.o1(x:C2):RE IV:=.ok (.none,hO x.dm (jy (C3.d1 x)) (bif x.fm then 1 else 0) x.fm (uL 2::(resT (C3.d1 x)).tail) (sy 4 0) [])
noncomputable def C3.run(x:C2):ak (af IV×St):=Fw (Fx ae []) (sy 1 x.len) 40 ([],hO x.dm (jy (C3.d1 x)) (bif x.fm then 1 else 0) x.fm (resT (C3.d1 x)).tail (sy 7 0) [])
noncomputable def C3.out(x:C2):ak (af IV×St):=aa (x.tup,hO x.dm x.len 0 ai [] (sy 7 (x.tup.length)) [])
noncomputable def vA:af C2:=(gi 10).flatMap λ j=>(rV j).map λ f=>⟨j,f,ae⟩
structure C4 where
 fo:ah
 lt:al
noncomputable def C4.dm(x:C4):af ah:=[58,x.fo,uS 1]
noncomputable def F4(lt:al):fP:=⟨[(.Lt,sy 5 0,sy 8 0,lt)],[],[(0,sy 1 0)],[]⟩
noncomputable def C4.run(x:C4):RE IV:=vX (F4 x.lt) (hO x.dm 0 0 ai [uL 3] (sy 4 0) [(0,jn (sy 4 0) (!x.lt) (sy 9 0) (sy 2 0) (sy 8 0) (uS 0::x.dm))])
noncomputable def C4.nV(x:C4):af IV:=(resT x.run).take (bif x.lt then 2 else 1)
noncomputable def C4.val(x:C4):IV:=(resT x.run).getLastD .none
noncomputable def C4.out(x:C4):RE IV:=.ok (.none,st x.dm 1 (bif x.lt then sy 8 0 else sy 5 0) (bif x.lt then[uL 1,.int (sy 5 0)]else[uL 1]) ai (x.nV++[uL 3,x.val]) (sy 4 0) [])
noncomputable def C4.tup(x:C4):af IV:=(bif x.lt then[atT (fW 0) .none (sy 2 0) (sy 8 0) (sy 8 0)]else[])++[atT (.str [63]) .none (sy 2 0) (sy 8 0) (sy 8 0)]
noncomputable def Et:af C4:=[32,10,0].flatMap λ f=>[⟨f,ae⟩,⟨f,ai⟩]
noncomputable def C5.run(x:C1):RE IV:=vX (Fx ae (Ie ai)) (hO x.dm 0 0 ai [] (sy 4 0) [])
noncomputable def lP(e:IV):ak ((ag×ag)×ak (ag×ag)):=e.nh.bind λ c=>(aE (aX c.1.id Nm.oh.id) ()).bind λ Y=>(mH .tD c.2).bind λ p=>(lk .qw c.2).bind λ m=>bif m.cL then aa (p,none)else(mH .qw c.2).map λ q=>(p,aa q)
noncomputable def Ko:af C1:=[45,63,58].flatMap λ c=>[32,10,0].map λ f=>⟨c,f,ae,ai⟩
theorem ca1:(Fj.map λ x=>(x.run,(resT x.run).tail.map dF))=Fj.map λ x=>(x.out,x.tup.map aa):=∅
theorem bl8:(vq.map λ x=>(x.d1,RH x.d1))=vq.map λ x=>(x.o1,ae):=∅
theorem XN:(vq.map λ x=>(x.run,x.nV.map dF))=vq.map λ x=>(x.out,x.tup.map aa):=∅
theorem I6:(vA.map λ x=>(C3.d1 x,RH (C3.d1 x)))=vA.map λ x=>(C3.o1 x,ae):=∅
theorem F3:vA.map C3.run=vA.map C3.out:=∅
theorem G2:(Et.map λ x=>(x.run,x.nV.map dF,dF x.val))=Et.map λ x=>(x.out,x.tup.map aa,aa (kI 58 (sy 2 0) (sy 3 0))):=∅
theorem E6:(Ko.map λ x=>match C5.run x with|.exc (e,_)=>lP e|_=>none)=Ko.map λ x=>aa ((sy 2 0,sy 3 0),none):=∅
noncomputable def Ev{h:Type}(D:ah)(f:ah->ah->ah->h)(y:h):Prop:=∃k,∀N d n,k<=N->D<=d->k<=n->f N d n=y
section
variable{b c i:Type}{D:ah}{f:ah->ah->ah->b}{g:ah->ah->ah->c}{h:ah->ah->ah->i}{x:b}{y:c}{z:i}
theorem Ev.mk(e:∀N d n,h N d (n+1)=z):Ev D h z:=⟨1,λ N d n Y Y q=>by obtain⟨n,rfl⟩:=Nat.exists_eq_succ_of_ne_zero (LF q);exact e N d n⟩
theorem Ev.up(a:Ev D f x)(e:∀N d n,f N d n=x->h N d (n+1)=z):Ev D h z:=by
 refine aI (a) λ k a=>?_;refine⟨k+1,λ N d n l m j=>?_⟩;obtain⟨n,rfl⟩:=mN (aj (fD 1 _) j);exact e N d n (a N d n (aj (ck _ _) l) m (pN j))
theorem Ev.both(a:Ev D f x)(e:Ev D g y):Ev D (λ N d n=>(f N d n,g N d n)) (x,y):=by
 refine aB λ Y p=>?_;refine aI (a) λ k a=>?_;refine aI (e) λ l e=>?_;refine p ?_;exact⟨k+l,λ N d n j m o=>congr (aD Prod.mk (a N d n (aj (ck _ _) j) m (aj (ck _ _) o))) (e N d n (aj (fD _ _) j) m (aj (fD _ _) o))⟩
theorem Ev.ek(a:Ev D f x)(j:Ev D g y)(e:∀N d n,f N d n=x->g N d n=y->h N d (n+1)=z):Ev D h z:=
 (a.both j).up λ N d n q=>e N d n (aD oL q) (aD sW q)
theorem Ev.le{e}(a:Ev D f x)(q:D<=e):Ev e f x:=aI (a) λ k a=>⟨k,λ N d n j l m=>a N d n j (aj q l) m⟩
end
section
variable(D:ah)(prm:af Nm)(top:al)
noncomputable abbrev YE(e:IE)(V:Loc)(O:St)(y:RE IV):Prop:=Ev D (λ N d n=>(rA prm d N top n).E e V O) y
noncomputable abbrev YT(e:IE)(V:Loc)(O:St)(y:RE al):Prop:=Ev D (λ N d n=>(rA prm d N top n).T e V O) y
noncomputable abbrev YS(s:IS)(V:Loc)(O:St)(y:RS):Prop:=Ev D (λ N d n=>(rA prm d N top n).S s V O) y
noncomputable abbrev YB(b:af IS)(V:Loc)(O:St)(y:RS):Prop:=Ev D (λ N d n=>(rA prm d N top n).B b V O) y
end
noncomputable abbrev YC(D:ah)(f:Fn)(h:af IV)(x:af (Nm×IV))(O:St)(y:R (IV×St) ((IV×Loc)×St)):Prop:=Ev D (λ N d Y=>iS aC N d f h x O) y
noncomputable def v1(x:R (IV×St) ((IV×Loc)×St)):RE IV:=x.aw λ v O=>.ok (v.1,O)
noncomputable abbrev YM(D:ah)(m:Nm)(h:af IV)(O:St)(y:RE IV):Prop:=Ev D (λ N d Y=>v1 (iS aC N d (mF m) h [] O)) y
section
variable{D:ah}{prm:af Nm}{top:al}{V V':Loc}{O O' h:St}{j:af (Nm×IV)}{v w u:IV}{x f m:Nm}{e a b t:IE}{s:IS}{l i:af IS}{y:RS}
theorem YE.var(c:lk x V=aa v):YE D prm top (.var x) V O (.ok (v,O)):=.mk λ N d n=>qK c
theorem YE.con:YE D prm top (.con v) V O (.ok (v,O)):=.mk λ N d n=>rfl
theorem YE.attr(c:YE D prm top e V O (.ok (v,O')))(g:cG aC v f O'=aa w):YE D prm top (.attr e f) V O (.ok (w,O')):=c.up λ N d n q=>JW q g
theorem YE.bin{o}(c:YE D prm top a V O (.ok (v,O')))(k:cR a v=ae)(p:YE D prm top b V O' (.ok (w,h)))(g:lX o v w=aa u):YE D prm top (.bin o a b) V O (.ok (u,h)):=c.ek p λ N d n q r=>Al q k r g
theorem YT.cmp{o c}(k:YE D prm top a V O (.ok (v,O')))(p:cR a v=ae)(q:YE D prm top b V O' (.ok (w,h)))(g:eX o v w=aa c):YT D prm top (.cmp o a b) V O (.ok (c,h)):=k.ek q λ N d n r z=>Bt r p z g
theorem YT.not{c}(g:YT D prm top e V O (.ok (c,O'))):YT D prm top (.not e) V O (.ok (!c,O')):=g.up λ N d n q=>by show R.aw _ _=_;rw[q];rfl
theorem YB.nil:YB D prm top [] V O (.ok (.next,V,O)):=.mk λ N d n=>bc7
theorem YB.cons(c:YS D prm top s V O (.ok (.next,V',O')))(g:YB D prm top l V' O' y):YB D prm top (s::l) V O y:=c.ek g λ N d n k o=>yP k o
theorem YB.fin{f}(c:f.ctorIdx≠0)(g:YS D prm top s V O (.ok (f,V',O'))):YB D prm top (s::l) V O (.ok (f,V',O')):=g.up λ N d n q=>UO c q
theorem YB.exc{e}(c:YS D prm top s V O (.exc e)):YB D prm top (s::l) V O (.exc e):=c.up λ N d n q=>OL q
theorem YS.jx(c:YT D prm top t V O (.ok (ae,O')))(g:YB D prm top l V O' y):YS D prm top (.iff t l i) V O y:=c.ek g λ N d n k o=>Ey k o
theorem YS.gk(c:YT D prm top t V O (.ok (ai,O')))(g:YB D prm top i V O' y):YS D prm top (.iff t l i) V O y:=c.ek g λ N d n k o=>Ey k o
theorem YS.wa(c:YT D prm top t V O (.ok (ai,O'))):YS D prm top (.iE t l) V O (.ok (.next,V,O')):=c.up λ N d n q=>by show aY _ _ _=_;rw[q];rfl
theorem YS.ti(o:YT D prm top t V O (.ok (ae,O')))(g:YB D prm top l V O' (.ok (.next,V',h)))(k:YS D prm top (.iE t l) V' h y):YS D prm top (.iE t l) V O y:=
 (o.both g).ek k λ N d n c p=>by
  show aY _ _ _=_
  rw[show(rA prm d N top n).T t V O=_ from aD oL c]
  show R.loop ((rA prm d N top n).B l V O') _=_
  rw[show(rA prm d N top n).B l V O'=_ from aD sW c]
  exact p
theorem YS.Vu{e}(c:YT D prm top t V O (.ok (ae,O')))(g:YB D prm top l V O' (.exc e)):YS D prm top (.iE t l) V O (.exc e):=
 c.ek g λ N d n k o=>by
  show aY _ _ _=_
  rw[k]
  show R.loop _ _=_
  rw[o];rfl
end
noncomputable def iR(h:af ag)(ss:af (af ah))(x:af (af IV)):fg:=⟨λ t=>(0::h).getD t 0,λ k=>if k<1000 then ss.getD k []else(ss.getD (k%1000) []).take (k/1000),λ k=>x.getD k []⟩
section
variable{b:af ag}{ss:af (af ah)}{a:af (af IV)}{d:fP}{h:fg}
theorem HJ{c:Type}{l:af (af c)}(e:∀x∈l,x.length<=1000)(k:ah):(l.getD k []).length<=1000:=by
 rw[Ch];rcases q:l[k]? with _|x
 ·exact cg _
 ·exact e x (pR q)
theorem BL(e:∀s∈ss,s.length<=1000)(f:∀l∈a,l.length<=1000)(g:∀x∈d.Lg,eX x.1 (.int (ri (iR b ss a) x.2.1)) (.int (ri (iR b ss a) x.2.2.1))=aa x.2.2.2)
  (i:∀x∈d.ops,lX x.1 (.int (ri (iR b ss a) x.2.1)) (.int (ri (iR b ss a) x.2.2.1))=aa (.int (ri (iR b ss a) x.2.2.2)))
  (j:∀x∈d.wV,ri (iR b ss a) x.2=((iR b ss a).s x.1).length)(m:∀x∈d.Ax,ri (iR b ss a) x.2=((iR b ss a).l x.1).length):eZ d (iR b ss a):=by
 refine⟨rfl,g,i,j,m,λ k=>?_,HJ f,λ k n c=>?_⟩
 ·show(if k<1000 then ss.getD k []else(ss.getD (k%1000) []).take (k/1000)).length<=1000;split
  ·exact HJ e k
  ·exact aj (List.length_take_le' _ _) (HJ e _)
 ·show(if k+1000*(n+1)<1000 then ss.getD (k+1000*(n+1)) []else(ss.getD ((k+1000*(n+1))%1000) []).take ((k+1000*(n+1))/1000))=(if k<1000 then ss.getD k []else(ss.getD (k%1000) []).take (k/1000)).take (n+1);rw[aM (by lia),aT c,Nat.add_mul_mod_self_left,Nat.mod_eq_of_lt c,Nat.add_mul_div_left _ _ ⋯,Nat.div_eq_of_lt c,xe]
theorem aU{t k}(x:-1000000<=k/\k<=1000000):ri h (sy t k)=h.i t+k:=by
 have x:=KN (t:=t) (bH ⋯ x.1) (lZ x.2 ⋯);show h.i (ix (((t*1099511627776:ah):ag)+k))+dt (((t*1099511627776:ah):ag)+k)=_;rw[x.1,x.2]
theorem my{k}(x:h.i 0=0)(c:-1000000<=k/\k<=1000000):ri h k=k:=kM x (vi.mpr (Q8 c ⋯ ⋯))
theorem fq{k l}:rl h (uL k::l)=h.l k++rl h l:=by
 rw[yC];show bo (aE (eE 1000 (1000+k)) (1000+k-1000)) _ _++_=_;rw[Nat.ble_eq.mpr (ck ..),BM];rfl
theorem kP{k s}:rs h (uS k::s)=h.s k++rs h s:=by
 show(bif cV (cM+k) cM then _ else h.s (cM+k-cM))++_=_;simp only[show cV (cM+k) cM=ai from Bool.eq_false_iff.mpr λ q=>absurd (Nat.blt_eq.mp q) (Nat.not_lt.mpr (ck ..)),BM];rfl
theorem yh(k:h.i 0=0){x c ln cl e f tk tn g i ask j}:bl h (aa (cY x c ln cl e f tk tn g i ask j))=aa (cY (rs h x) (ri h c) (ri h ln) (ri h cl) e (ri h f) (rl h tk) (ri h tn) (ri h g) (rl h i) ask (rd h j)):=by
 show aa (rf h (cY x c ln cl e f tk tn g i ask j))=_;unfold cY;rw[BG];show aa [(_,IV.str (rs h _)),_,(_,.int (ri h 0)),_,_,_,_,_,_,_,_,_,_,_,_,_,_,_,_,_]=_;rw[my k ⋯,kB ⋯];rfl
theorem Va(e:h.i 0=0){i l c x}:re h (markV i l c x)=markV (ri h i) (ri h l) (ri h c) (rs h x):=by
 show IV.ba _ (rf h _)=_;rw[BG];show IV.ba _ [(_,IV.str (rs h _)),_,_,_,_,_]=_;rw[kB ⋯];rfl
theorem Bb(f:h.i 0=0){num e i l c x}:re h (jn num e i l c x)=jn (ri h num) e (ri h i) (ri h l) (ri h c) (rs h x):=by
 show IV.ba _ (rf h _)=_;rw[BG];show IV.ba _ [_,_,_,_,_,(_,re h (markV i l c x))]=_;rw[Va f];rfl
end
section
variable{h:fg}{a:fP}(H:eZ a h)
theorem Aj{m}(x:(aC.bx m).isSome=ae):aC.bx m=aa (mF m):=by
 unfold mF;rcases q:aC.bx m with _|f
 ·rw[q]at x;cbv
 ·rfl
include H in
theorem UY{m}(b:(aC.bx m).isSome=ae){N d}(c:100<=N)(hd:11<=d)(x O):LE h (re h) (kW a m x O) (v1 (iS aC N d (mF m) (x.map (re h)) [] (bl h O))):=by
 unfold kW;rw[Aj b];exact JM H Ec (Uh H) c (aj ⋯ c) 8 d hd m (mF m) (.inl (Aj b)) x [] O
include H in
theorem YM.g{m x O b v}(e:kW a m x O=.ok (v,b))(c:(aC.bx m).isSome=ae):YM 11 m (x.map (re h)) (bl h O) (.ok (re h v,bl h b)):=
 ⟨100,λ N d n f g Y=>(UY H c f g x O).elim (λ q=>by rw[e]at q;cbv) λ q=>by rw[e]at q;exact q⟩
include H in
theorem YM.gx{m b O x}(e:kW a m b O=.exc x)(c:(aC.bx m).isSome=ae):YM 11 m (b.map (re h)) (bl h O) (.exc (re h x.1,bl h x.2)):=
 ⟨100,λ N d n f g Y=>(UY H c f g b O).elim (λ q=>by rw[e]at q;cbv) λ q=>by rw[e]at q;exact q⟩
include H in
theorem KW{prm N d n top}(x:100<=N)(hd:11<=d)(b:60<=n):vV h (iW a aC prm (gC a aC (jU a) 60 8) 60) (rA prm d N top n):=
 EA H Ec (JM H Ec (Uh H) x (aj ⋯ x) 8 d hd) 60 n b
end
section
variable{D:ah}{prm:af Nm}{top:al}{V j:Loc}{O h p:St}{i:af (Nm×IV)}{v w u:IV}{x f m:Nm}{e a b t:IE}{s:IS}{l H:af IS}
theorem YE.kh{y}(g:lk x V=aa .obj)(k:(aC.bx m).isSome=ae)(o:(lk m i).isNone=ae)(c:YM D m [.obj] (aa i) y):YE D prm top (.bx (.var x) m [] []) V (aa i) y:=
 (YE.var g).ek c λ N d n q r=>HM g (Aj k) o rfl q rfl (by rw[vE];exact r)
theorem YE.KO{y}(g:lk x V=aa .obj)(o:(aC.bx m).isSome=ae)(q:(lk m i).isNone=ae)(r:YE D prm top a V (aa i) (.ok (v,h)))(hv:az v=ae)(c:YM D m [.obj,v] h y):YE D prm top (.bx (.var x) m [a] []) V (aa i) y:=
 (r.both (YE.var g)).ek c λ N d n k z=>HM g (Aj o) q (by
  show R.aw (R.aw ((rA prm d N top n).E a V (aa i)) _) _=_
  rw[show(rA prm d N top n).E a V (aa i)=.ok (v,h)from aD oL k]
  show R.aw (R.ax (cR a v||ae) _) _=_
  rw[gz];rfl) (aD sW k) (by show(ae&&(az v&&ae)&&ae)=ae;rw[hv];rfl) (by rw[vE];exact z)
theorem YS.expr(k:((yq e).bind λ c=>aE (kq (lk c.1 V)) c)=none)(g:YE D prm top e V O (.ok (v,h))):YS D prm top (.expr e) V O (.ok (.next,V,h)):=g.up λ N d n q=>by
 show bo _ _ _=_;rw[k];show aY _ _ _=_;rw[q];rfl
theorem YS.QB{z}(k:((yq e).bind λ c=>aE (kq (lk c.1 V)) c)=none)(g:YE D prm top e V O (.exc z)):YS D prm top (.expr e) V O (.exc (z.1,V,z.2)):=g.up λ N d n q=>by
 show bo _ _ _=_;rw[k];show aY _ _ _=_;rw[q];rfl
theorem mX{as kw}(d:lk x V=aa .obj):((yq (.bx (.var x) m as kw)).bind λ c=>aE (kq (lk c.1 V)) c)=none:=by
 show aE (kq (lk x V)) _=_;rw[d];rfl
theorem YT.of{c}(k:∀r:bh,stepT r e V O=(r.E e V O).aw λ v O=>R.opt (eO v) λ b=>.ok (b,O))(g:YE D prm top e V O (.ok (v,h)))(hv:eO v=aa c):YT D prm top e V O (.ok (c,h)):=g.up λ N d n q=>by
 show stepT _ e V O=_;rw[k,q];show R.opt _ _=_;rw[hv];rfl
theorem YE.self(c:lk .bq V=aa .obj)(g:cG aC .obj f O=aa v):YE D prm top (fQ f) V O (.ok (v,O)):=(YE.var c).attr g
theorem YS.ret(c:e.dH=none)(g:YE D prm top e V O (.ok (v,h)))(hv:az v=ae):YS D prm top (.ret (aa e)) V O (.ok (.ret v,V,h)):=g.up λ N d n q=>by
 show aY V (bo e.dH _ _) _=_
 rw[c]
 rw[q]
 show aY V (R.ax (az v||_) _) _=_
 rw[hv];rfl
theorem YM.of{y}(q:dA (mF m).params (mF m).dflt [.obj] []=aa V)(c:YB D (mF m).params ai (mF m).body V O y):YM (D+1) m [.obj] O (v1 (eW y)):=by
 refine aI (c) λ k c=>?_;refine⟨k,λ N d n g o r=>?_⟩;obtain⟨d,rfl⟩:=mN (aj (fD 1 _) o);show v1 (R.opt _ _)=_;rw[q];show v1 (eW ((rA (mF m).params d N ai N).B _ _ _))=_;rw[show(rA (mF m).params d N ai N).B (mF m).body V O=y from c N d N g (pN o) g]
end
noncomputable abbrev iG(m:Nm):IE:=.bx (.var .bq) m [] []
theorem EO:(mF .eB).body=[.iff (fQ .yX) [.ret (aa (.con (.bool ai)))] [],.iff (.not (fQ .fS)) [.ret (aa (.con (.bool ae)))] [],.expr (iG .iP),.iff (.cmp .Eq (iG .uf) (fQ .iU)) [.ret (aa (.con (.bool ae)))] []]:=∅
section
variable{D:ah}{buf:af ah}{ptr ln cl fl tn ind:ag}{tk inds:af IV}{ask:al}{ks h:af (ag×IV)}{t v:IV}
noncomputable abbrev sF(buf:af ah)(ptr ln cl:ag)(fl:ag)(tk:af IV)(tn ind:ag)(inds:af IV)(ask:al)(ks:af (ag×IV)):St:=aa (cY buf ptr ln cl ai fl tk tn ind inds ask ks)
noncomputable abbrev lS:Loc:=[(.bq,.obj)]
theorem at1{d}:cG aC .obj .yX (aa (cY buf ptr ln cl d fl tk tn ind inds ask ks))=aa (.bool d):=∅
theorem bx1{d}:cG aC .obj .fS (aa (cY buf ptr ln cl d fl tk tn ind inds ask ks))=aa (.lst tk):=∅
theorem bb1{d}:cG aC .obj .iU (aa (cY buf ptr ln cl d fl tk tn ind inds ask ks))=aa (.int tn):=∅
theorem Dm{l}(x:l.length<=1000000):eO (.lst l)=aa !l.isEmpty:=by
 show aE (dg l) _=_;rw[show dg l=ae from bK x];rfl
theorem Eg{d prm}:YT D prm ai (fQ .yX) lS (aa (cY buf ptr ln cl d fl tk tn ind inds ask ks)) (.ok (d,aa (cY buf ptr ln cl d fl tk tn ind inds ask ks))):=
 .of (λ r=>rfl) (.self rfl at1) rfl
theorem SE{d prm}(x:tk.length<=1000000):YT D prm ai (fQ .fS) lS (aa (cY buf ptr ln cl d fl tk tn ind inds ask ks)) (.ok (!tk.isEmpty,aa (cY buf ptr ln cl d fl tk tn ind inds ask ks))):=
 .of (λ r=>rfl) (.self rfl bx1) (Dm x)
theorem Nw:YM (D+1) .eB [.obj] (aa (cY buf ptr ln cl ae fl tk tn ind inds ask ks)) (.ok (.bool ai,aa (cY buf ptr ln cl ae fl tk tn ind inds ask ks))):=by
 refine YM.of (V:=lS) (y:=.ok (.ret (.bool ai),lS,_)) ∅ ?_;rw[EO];exact .fin ⋯ (.jx Eg (.fin ⋯ (.ret rfl .con rfl)))
theorem aj3:YM (D+1) .eB [.obj] (sF buf ptr ln cl fl [] tn ind inds ask ks) (.ok (.bool ae,sF buf ptr ln cl fl [] tn ind inds ask ks)):=by
 refine YM.of (V:=lS) (y:=.ok (.ret (.bool ae),lS,_)) ∅ ?_;rw[EO];exact .cons (.gk Eg .nil) (.fin ⋯ (.jx (.not (SE ⋯)) (.fin ⋯ (.ret rfl .con rfl))))
theorem Kl{b}(f:tk≠[])(c:tk.length<=1000000)(a:YM D .iP [.obj] (sF buf ptr ln cl fl tk tn ind inds ask ks) (.ok (.none,sF buf ptr ln cl fl tk tn ind inds ask h)))
  (d:YM D .uf [.obj] (sF buf ptr ln cl fl tk tn ind inds ask h) (.ok (v,sF buf ptr ln cl fl tk tn ind inds ask h)))(hv:az v=ae)(g:eX .Eq v (.int tn)=aa b):
  YM (D+1) .eB [.obj] (sF buf ptr ln cl fl tk tn ind inds ask ks) (.ok (bif b then .bool ae else .none,sF buf ptr ln cl fl tk tn ind inds ask h)):=by
 have x:(!(!tk.isEmpty))=ai:=by clear d a c;cases tk with|nil=>exact absurd rfl f|cons=>rfl
 have x:=x▸YT.not (SE (D:=D) (d:=ai) (prm:=(mF .eB).params) (buf:=buf) (ptr:=ptr) (ln:=ln) (cl:=cl) (fl:=fl) (tn:=tn) (ind:=ind) (inds:=inds) (ask:=ask) (ks:=ks) c);have e:YT D (mF .eB).params ai (.cmp .Eq (iG .uf) (fQ .iU)) lS (sF buf ptr ln cl fl tk tn ind inds ask h) (.ok (b,sF buf ptr ln cl fl tk tn ind inds ask h)):=
  .cmp (.kh rfl ∅ ∅ d) (by show(az v||_||_)=ae;rw[hv];rfl) (.self rfl bb1) g
 obtain _|_:=b
 ·refine YM.of (V:=lS) (y:=.ok (.next,lS,_)) ∅ ?_;rw[EO];exact .cons (.gk Eg .nil) (.cons (.gk x .nil) (.cons (.expr (mX rfl) (.kh rfl ∅ ∅ a)) (.cons (.gk e .nil) .nil)))
 ·refine YM.of (V:=lS) (y:=.ok (.ret (.bool ae),lS,_)) ∅ ?_;rw[EO];exact .cons (.gk Eg .nil) (.cons (.gk x .nil) (.cons (.expr (mX rfl) (.kh rfl ∅ ∅ a)) (.fin ⋯ (.jx e (.fin ⋯ (.ret rfl .con rfl))))))
end
noncomputable def IU:IS:=.iE (iG .eB) [.expr (iG .jP)]
noncomputable def Z9:af IS:=[.iff (fQ .fS) [.tZ (.var .bq) .iU .Add (.con (.int 1)),.ret (aa (.bx (fQ .fS) .tO [.con (.int 0)] []))] []]
theorem JE:(mF .km).body=IU::Z9:=∅
noncomputable def GW(O h:St):Prop:=YS 20 (mF .km).params ai IU lS O (.ok (.next,lS,h))
noncomputable def GX(O:St)(e:IV):Prop:=∃h,YS 20 (mF .km).params ai IU lS O (.exc (e,lS,h))
inductive bX:af IV->St->af IV->ak ((ag×ag)×ak (ag×ag))->Prop
 |tok {got O fs t tk tn u due met}:GW O (aa fs)->lk .fS fs=aa (.lst (t::tk))->lk .iU fs=aa (.int tn)->fs.length<900->tk.length<=1000->eg .km (aa fs)=ae->dF t=aa u->bX (got++[u]) (aa (put .fS (.lst tk) (put .iU (.int (tn+1)) fs))) due met->bX got O due met
 |fin {got O buf ptr ln cl dn fl tn ind inds ask ks}:GW O (aa (cY buf ptr ln cl dn fl [] tn ind inds ask ks))->bX got O got none
 |exc {got O e m}:GX O e->lP e=aa m->bX got O got (aa m)
section
variable{O h x:St}{got b:af IV}{f:ak ((ag×ag)×ak (ag×ag))}{v:IV}
noncomputable def FC(O a:St):Prop:=∃v,YM 19 .jP [.obj] O (.ok (v,a))
noncomputable def FX(O:St)(e:IV):Prop:=∃a,YM 19 .jP [.obj] O (.exc (e,a))
theorem Fe{c}(a:eg .eB O=ae)(d:YM 19 .eB [.obj] O (.ok (v,h)))(hv:eO v=aa c):YT 20 (mF .km).params ai (iG .eB) lS O (.ok (c,h)):=by
 revert a;refine gn λ g e a=>?_;subst e;exact .of (λ r=>rfl) (.kh rfl ∅ a (d.le ⋯)) hv
theorem FC.e{m prm v}(c:(aC.bx m).isSome=ae)(a:eg m O=ae)(d:YM 19 m [.obj] O (.ok (v,h))):YS 20 prm ai (.expr (iG m)) lS O (.ok (.next,lS,h)):=by
 revert a;refine gn λ g e a=>?_;subst e;exact .expr (mX rfl) (.kh rfl c a (d.le ⋯))
theorem GW.rP(d:eg .eB O=ae)(e:YM 19 .eB [.obj] O (.ok (v,h)))(hv:eO v=aa ae)(g:eg .jP h=ae)(a:FC h x){c}(k:GW x c):GW O c:=by
 refine aI (a) λ w a=>?_;exact .ti (Fe d e hv) (.cons (FC.e ∅ g a) .nil) k
theorem GX.rP(c:eg .eB O=ae)(d:YM 19 .eB [.obj] O (.ok (v,h)))(hv:eO v=aa ae)(g:eg .jP h=ae)(a:FC h x){e}(k:GX x e):GX O e:=by
 refine aI (a) λ w a=>?_;refine aI (k) λ i k=>?_;exact⟨i,.ti (Fe c d hv) (.cons (FC.e ∅ g a) .nil) k⟩
theorem bX.rP(l:eg .eB O=ae)(m:YM 19 .eB [.obj] O (.ok (v,h)))(hv:eO v=aa ae)(n:eg .jP h=ae)(o:FC h x)(k:bX got x b f):bX got O b f:=by
 cases k with
 |tok a p c d e j g i=>exact .tok (.rP l m hv n o a) p c d e j g i
 |fin a=>exact .fin (.rP l m hv n o a)
 |exc a p=>exact .exc (.rP l m hv n o a) p
theorem bX.Ea{e m}(d:eg .eB O=ae)(g:YM 19 .eB [.obj] O (.ok (v,h)))(hv:eO v=aa ae)(c:eg .jP h=ae)(a:FX h e)(i:lP e=aa m):bX got O got (aa m):=by
 refine aB λ Y j=>?_;refine aI (a) ?_;clear a;intro k a;revert c;refine gn λ n l c=>?_;subst l;refine j ?_;exact .exc ⟨k,.Vu (Fe d g hv) (.exc (.QB (mX rfl) (.kh rfl ∅ c (a.le ⋯))))⟩ i
theorem GW.no(a:eg .eB O=ae)(c:YM 19 .eB [.obj] O (.ok (v,h)))(hv:eO v=aa ai):GW O h:=.wa (Fe a c hv)
theorem bX.Kn{e g ln cl i j t tk tn k l ask m u}(a:GW O (aa (cY e g ln cl i j (t::tk) tn k l ask m)))(n:tk.length<=1000)(c:dF t=aa u)(d:bX (got++[u]) (aa (cY e g ln cl i j tk (tn+1) k l ask m)) b f):bX got O b f:=
 .tok a ∅ ∅ (by show 20<900;decide) n ∅ c d
end
section
variable{h:fg}
theorem Dp{f e p}(g:mH f e=aa p):mH f (rf h e)=aa (ri h p.1,ri h p.2):=by
 refine aB λ Y i=>?_;revert g;refine av λ m j=>av λ c k=>av λ Y l=>av λ a x=>dQ λ b d n=>?_;subst n;revert x;refine av λ r x o=>?_;revert d;refine av λ s d q=>?_;refine i ?_;unfold mH;rw[eV,j,pX,je,Bi,k,pX,je,l,je,eV,x,pX,je,ye,o,pX,je,eV,d,pX,je,ye,q];rfl
theorem HB(e:h.i 0=0){t u}(f:dF t=aa u)(g:u.dH.all fC=ae):dF (re h t)=aa (re h u):=by
 refine aB λ Y j=>?_;revert f;refine av λ c k=>av λ Y l=>av λ i d=>av λ a m=>av λ b n=>av λ v x=>bR λ hv o=>?_;subst o;refine j ?_;unfold dF;rw[Bi,k];show((aE (lk .ni (rf h c.2)).isNone ()).bind λ Y=>(lk c.1 rS).bind λ i=>(mH .tm (rf h c.2)).bind λ a=>(mH .uo (rf h c.2)).bind λ b=>(bif wx c.1 then lk .fR (rf h c.2)else aa .none).bind _)=_;rw[eV,GB,l,je,d,je,Dp m,je,Dp n,je];have p:(bif wx c.1 then lk .fR (rf h c.2)else aa .none)=aa (re h v):=by
  rcases q:wx c.1 with _|_
  ·rw[q]at x;cases x;rfl
  ·rw[q]at x;exact eV.trans (by rw[show lk .fR c.2=aa v from x];rfl)
 simp only[p,je,gJ,hv];show aa (IV.tup [i,re h v,_,_,_,_])=aa (IV.tup (rl h _));rw[lA (Cq (bP Ks (ib d))),(gL e i (bP Ks (ib d)))];rw[lA (aH ((aP g)))];rfl
theorem It{e m}(x:lP e=aa m):lP (re h e)=aa ((ri h m.1.1,ri h m.1.2),m.2.map λ q=>(ri h q.1,ri h q.2)):=by
 refine aB λ Y a=>?_;revert x;refine av λ c b=>av λ Y d=>av λ p f=>av λ k g x=>?_;refine a ?_;unfold lP;rw[Bi,b];show((aE (aX c.1.id Nm.oh.id) ()).bind λ Y=>(mH .tD (rf h c.2)).bind λ p=>(lk .qw (rf h c.2)).bind λ m=>bif m.cL then aa (p,none)else(mH .qw (rf h c.2)).map λ q=>(p,aa q))=_;simp only[d,je,Dp f,je,eV,g,pX,je,De];rcases q:k.cL with _|_
 ·rw[q]at x;revert x;refine dQ λ r i j=>j▸?_;rw[Dp i];rfl
 ·rw[q]at x;cases x;rfl
end
noncomputable def FS:fP:=⟨[(.Gt,sy 10 0,1024,ai),(.NotEq,sy 11 0,sy 2 0,ae)],[(.Sub,sy 1 0,sy 8 0,sy 10 0)],[],[]⟩
noncomputable def rE(b:al)(l:ag):ag×IV:=(0,jn (sy 7 0) b (sy 8 0) l (sy 9 0) [uS 0,uS 1])
noncomputable def gS(h:ag)(ask:al)(x:af (ag×IV)):St:=hO [uS 1] 0 h ask [uL 3] (sy 4 0) x
theorem ag1(ask:al)(h:ag):kW FS .iP [.obj] (gS h ask [])=.ok (.none,gS h ask []):=∅
theorem am3(ask b:al)(h:ag):kW FS .iP [.obj] (gS h ask [rE b (sy 2 0)])=.ok (.none,gS h ask [rE b (sy 2 0)]):=∅
theorem ad9(ask:al)(h:ag):kW FS .iP [.obj] (gS h ask [rE ai (sy 11 0)])=.ok (.none,gS h ask []):=∅
noncomputable def Vn(ask:al)(h:ag):IV:=match kW FS .iP [.obj] (gS h ask [rE ae (sy 11 0)])with|.exc (e,_)=>e|_=>.none
theorem aa8(ask:al)(h:ag):kW FS .iP [.obj] (gS h ask [rE ae (sy 11 0)])=.exc (Vn ask h,gS h ask [rE ae (sy 11 0)]):=∅
theorem ZZ(ask:al)(h:ag):lP (Vn ask h)=aa ((sy 2 0,sy 3 0),aa (sy 11 0,sy 9 0)):=∅
theorem bk3(ask:al)(h:ag):kW FS .uf [.obj] (gS h ask [])=.ok (.none,gS h ask []):=∅
theorem ao7(ask b:al)(h:ag):kW FS .uf [.obj] (gS h ask [rE b (sy 2 0)])=.ok (.int (sy 7 0),gS h ask [rE b (sy 2 0)]):=∅
section
variable{h:af ah}{ptr ln cl num idx kl kc tn ind:ag}{tk c:af IV}{ask b:al}{fl:ag}(d:-1000000<=fl/\fl<=1000000)
include d in
theorem wG{x}:bl (iR [ptr,ln,cl,tn,ind,0,num,idx,kc,ptr-idx,kl] [h] [[],c,[],tk]) (gS fl ask x)=sF h ptr ln cl fl tk tn ind c ask (rd (iR [ptr,ln,cl,tn,ind,0,num,idx,kc,ptr-idx,kl] [h] [[],c,[],tk]) x):=by
 delta gS hO;rw[yh rfl,kP,kP,fq,fq,aU ⋯,aU ⋯,aU ⋯,aU ⋯,aU ⋯,my rfl d];show aa (cY (h++([]++[])) (ptr+0) (ln+0) (cl+0) ai fl (tk++[]) (tn+0) (ind+0) (c++[]) ask _)=_;simp only[bC,bC,bC,bC,aO,aO,aO,aO,aO]
noncomputable def fj(num:ag)(b:al)(idx kl kc:ag)(h:af ah):ag×IV:=(0,jn num b idx kl kc h)
theorem Eo{t x}(a:(iR [ptr,ln,cl,tn,ind,0,num,idx,kc,ptr-idx,kl] [h] [[],c,[],tk]).i t=x):rd (iR [ptr,ln,cl,tn,ind,0,num,idx,kc,ptr-idx,kl] [h] [[],c,[],tk]) [rE b (sy t 0)]=[fj num b idx x kc h]:=by
 show[(0,re _ (jn _ _ _ _ _ _))]=_;rw[Bb rfl,kP,kP,aU ⋯,aU ⋯,aU ⋯,aU ⋯,a];show[(0,jn (num+0) b (idx+0) (x+0) (kc+0) (h++([]++[])))]=_;simp only[bC,bC,aO,aO,aO,aO];rfl
theorem eI{a:Type}{p:a->Prop}:∀x∈([]:af a),p x:=(by intros;cbv)
theorem all2{e:Type}{p:e->Prop}{a l}(k:p a)(g:∀x∈l,p x):∀x∈a::l,p x:=List.forall_mem_cons.mpr ⟨k,g⟩
theorem xG(x:ptr-idx<=1024)(a:kl≠ln)(f:h.length<=1000)(i:c.length<=1000)(j:tk.length<=1000):eZ FS (iR [ptr,ln,cl,tn,ind,0,num,idx,kc,ptr-idx,kl] [h] [[],c,[],tk]):=by
 refine BL (all2 f eI) (all2 (cg _) (all2 i (all2 (cg _) (all2 j eI)))) (all2 ?_ (all2 ?_ eI)) (all2 ?_ eI) eI eI
 ·rw[aU ⋯,my rfl ⋯];exact aD aa (gw (Int.not_lt.mpr (bH (Gv (aO _)) x)))
 ·rw[aU ⋯,aU ⋯];exact aD aa (bK (λ e=>a (by rw[<-aO kl,<-aO ln];exact e)))
 ·rw[aU ⋯,aU ⋯,aU ⋯];exact aD (λ z=>aa (IV.int z)) (by show(ptr+0)-(idx+0)=ptr-idx+0;simp only[aO,aO,aO])
variable(f:h.length<=1000)(i:c.length<=1000)(j:tk.length<=1000)
include f i j d
theorem Fc:YM 11 .iP [.obj] (sF h ptr ln cl fl tk tn ind c ask []) (.ok (.none,sF h ptr ln cl fl tk tn ind c ask [])):=by
 have:=YM.g (xG (ptr:=ptr) (idx:=ptr) (ln:=ln) (cl:=cl) (num:=0) (kc:=0) (tn:=tn) (ind:=ind) (by lia) (uR (gj _)) f i j) (ag1 ask fl) ∅;rw[wG d]at this;exact this
theorem br9:YM 11 .uf [.obj] (sF h ptr ln cl fl tk tn ind c ask []) (.ok (.none,sF h ptr ln cl fl tk tn ind c ask [])):=by
 have:=YM.g (xG (ptr:=ptr) (idx:=ptr) (ln:=ln) (cl:=cl) (num:=0) (kc:=0) (tn:=tn) (ind:=ind) (by lia) (uR (gj _)) f i j) (bk3 ask fl) ∅;rw[wG d]at this;exact this
theorem CL(x:ptr-idx<=1024):YM 11 .iP [.obj] (sF h ptr ln cl fl tk tn ind c ask [fj num b idx ln kc h]) (.ok (.none,sF h ptr ln cl fl tk tn ind c ask [fj num b idx ln kc h])):=by
 have:=YM.g (xG (ln:=ln) (cl:=cl) (num:=num) (kc:=kc) (tn:=tn) (ind:=ind) x (uR (gj _)) f i j) (am3 ask b fl) ∅;rw[wG d,Eo rfl]at this;exact this
theorem Px(x:ptr-idx<=1024):YM 11 .uf [.obj] (sF h ptr ln cl fl tk tn ind c ask [fj num b idx ln kc h]) (.ok (.int num,sF h ptr ln cl fl tk tn ind c ask [fj num b idx ln kc h])):=by
 have:=YM.g (xG (ln:=ln) (cl:=cl) (num:=num) (kc:=kc) (tn:=tn) (ind:=ind) x (uR (gj _)) f i j) (ao7 ask b fl) ∅;rw[wG d,Eo (x:=ln) rfl]at this;have e:re (iR [ptr,ln,cl,tn,ind,0,num,idx,kc,ptr-idx,ln+1] [h] [[],c,[],tk]) (.int (sy 7 0))=.int num:=by
  exact aD IV.int (aO _)
 rw[e]at this;exact this
theorem OQ(x:kl≠ln)(a:ptr-idx<=1024):YM 11 .iP [.obj] (sF h ptr ln cl fl tk tn ind c ask [fj num ai idx kl kc h]) (.ok (.none,sF h ptr ln cl fl tk tn ind c ask [])):=by
 have:=YM.g (xG (cl:=cl) (num:=num) (kc:=kc) (tn:=tn) (ind:=ind) a x f i j) (ad9 ask fl) ∅;rw[wG d,wG d,Eo rfl]at this;exact this
theorem Tt(x:kl≠ln)(a:ptr-idx<=1024):∃e g,YM 11 .iP [.obj] (sF h ptr ln cl fl tk tn ind c ask [fj num ae idx kl kc h]) (.exc (e,g))/\lP e=aa ((ln,cl),aa (kl,kc)):=by
 have:=YM.gx (xG (cl:=cl) (num:=num) (kc:=kc) (tn:=tn) (ind:=ind) a x f i j) (aa8 ask fl) ∅;rw[wG d,Eo rfl]at this;refine gR _ _ this ((It (ZZ ask fl)).trans ?_);show aa ((ln+0,cl+0),aa (kl+0,kc+0))=_;simp only[aO,aO,aO,aO]
end
section
variable{h:af ah}{a ln cl num idx kl kc tn ind:ag}{tk c:af IV}{ask b:al}{got d:af IV}{f:ak ((ag×ag)×ak (ag×ag))}
theorem bo2{x y}(e:x≠y):eX .Eq (.int x) (.int y)=aa ai:=aD aa (gw e)
theorem Jr{x}:YM 19 .eB [.obj] (sF h a ln cl 0 [] tn ind c ask x) (.ok (.bool ae,sF h a ln cl 0 [] tn ind c ask x)):=aj3
section
variable{fl:ag}(e:-1000000<=fl/\fl<=1000000)(i:h.length<=1000)(j:c.length<=1000)(x:tk.length<=1000)(k:tk≠[])
include i j x k e
theorem CH(g:a-idx<=1024):YM 19 .eB [.obj] (sF h a ln cl fl tk tn ind c ask [fj tn b idx ln kc h]) (.ok (.bool ae,sF h a ln cl fl tk tn ind c ask [fj tn b idx ln kc h])):=
 (Kl k (aj x ⋯) (CL e i j x g) (Px e i j x g) rfl (aD aa (bK rfl))).le ⋯
theorem bm1:YM 19 .eB [.obj] (sF h a ln cl fl tk tn ind c ask []) (.ok (.none,sF h a ln cl fl tk tn ind c ask [])):=
 (Kl k (aj x ⋯) (Fc e i j x) (br9 e i j x) rfl (VC _)).le ⋯
theorem ae3(g:a-idx<=1024)(l:num≠tn):YM 19 .eB [.obj] (sF h a ln cl fl tk tn ind c ask [fj num b idx ln kc h]) (.ok (.none,sF h a ln cl fl tk tn ind c ask [fj num b idx ln kc h])):=
 (Kl k (aj x ⋯) (CL e i j x g) (Px e i j x g) rfl (bo2 l)).le ⋯
end
theorem Jz(i:h.length<=1000)(j:c.length<=1000){us}:∀{q tn got},q.length<=1000->q.map dF=us.map aa->bX (got++us) (sF h a ln cl 0 [] (tn+us.length) ind c ask []) d f->bX got (sF h a ln cl 0 q tn ind c ask []) d f:=by
 induction us with
 |nil=>
  intro q tn got _ x L;obtain _|_:=q
  ·rwa[bC,show tn+(([]:af IV).length:ag)=tn from aO _]at L
  ·cbv
 |cons u us k=>
  intro q tn got e x L;obtain _|⟨t,q⟩:=q
  ·cbv
  ·refine bg (kE x) λ l x=>?_;have g:=Mw e;refine .Kn (.no ∅ (bm1 ⋯ i j e (ME _ _)) rfl) g l (k g x ?_);rw[bB];exact(uu.symm)▸L
theorem ZX{x}(k:-1000000<=x/\x<=1000000)(l:h.length<=1000)(m:c.length<=1000)(n:a-idx<=1024){r us}:∀{q tn got},(q++r).length<=1000->q.map dF=us.map aa->bX (got++us) (sF h a ln cl x r (tn+us.length) ind c ask [fj (tn+us.length) b idx ln kc h]) d f->bX got (sF h a ln cl x (q++r) tn ind c ask [fj (tn+us.length) b idx ln kc h]) d f:=by
 induction us with
 |nil=>
  intro q tn got _ g L;obtain _|_:=q
  ·rw[bC]at L;rw[show tn+(([]:af IV).length:ag)=tn from aO _]at L⊢;exact L
  ·cbv
 |cons u us o=>
  intro q tn got i g L;obtain _|⟨t,q⟩:=q
  ·cbv
  ·refine bg (kE g) λ p g=>?_;have j:(q++r).length<=1000:=Mw i;have e:tn+((u::us).length:ag)=tn+1+us.length:=uu.symm;rw[e]at L⊢;refine .Kn (.no ∅ (ae3 (tk:=t::(q++r)) k l m i (ME _ _) n (by lia)) rfl) j p (o j g ?_);rw[bB];exact L
end
section
variable{D:ah}{prm:af Nm}{top:al}{V j:Loc}{O h i:St}{p:af (Nm×IV)}{v w u:IV}{x f m:Nm}{e a b t:IE}{s:IS}{l r:af IS}
theorem YS.ny{c x k z}(g:YB D prm top l V O (.ok z)):YS D prm top (.ny l c x k) V O (.ok z):=g.up λ N d n q=>by
 show rL _ _ _ _ _ _=_;rw[q];rfl
theorem YE.idx(c:YE D prm top a V O (.ok (v,h)))(k:(cR a v||pureE b)=ae)(o:YE D prm top b V h (.ok (w,i)))(g:nG v w=aa u):YE D prm top (.idx a b) V O (.ok (u,i)):=c.ek o λ N d n q y=>by
 show R.aw _ _=_;rw[q];show R.ax _ _=_;rw[k];rw[y];show R.opt _ _=_;rw[g];rfl
theorem YS.asg(k:((mJ e).bind λ c=>(aC.fn c.1).map λ g=>(g,c.2))=none)(g:YE D prm top e V O (.ok (v,h)))(hv:az v=ae)(o:prm.contains x=ai):YS D prm top (.asg x e) V O (.ok (.next,put x v V,h)):=g.up λ N d n q=>by
 show bo _ _ _=_
 rw[k]
 show aY V _ _=_
 rw[q]
 show R.ax ((az v||_)&&(!((rA prm d N top n).prm.contains x)||_)) _=_
 simp only[show(rA prm d N top n).prm=prm from(jh n).2.1,hv,o];rfl
theorem YT.UA{l}(c:YT D prm top e V O (.ok (ai,h))):YT D prm top (.bool .And (e::l)) V O (.ok (ai,h)):=c.up λ N d n q=>by show R.aw _ _=_;rw[q];rfl
theorem YT.Dj{c}(o:YT D prm top e V O (.ok (ae,h)))(g:YT D prm top t V h (.ok (c,i))):YT D prm top (.bool .And [e,t]) V O (.ok (c,i)):=o.ek g λ N d n q k=>by
 show R.aw _ _=_;rw[q];show R.aw ((rA prm d N top n).T t V h) _=_;rw[k];clear k g;obtain _|_:=c<;>rfl
theorem YM.DY{g y}(z:dA (mF m).params (mF m).dflt g []=aa V)(c:YB D (mF m).params ai (mF m).body V O y):YM (D+1) m g O (v1 (eW y)):=by
 refine aI (c) λ k c=>?_;refine⟨k,λ N d n o q H=>?_⟩;obtain⟨d,rfl⟩:=mN (aj (fD 1 _) q);show v1 (R.opt _ _)=_;rw[z];show v1 (eW ((rA (mF m).params d N ai N).B _ _ _))=_;rw[show(rA (mF m).params d N ai N).B (mF m).body V O=y from c N d N o (pN q) o]
end
theorem aj1{p s c}(h:p.length<=1000):nG (.str (p++c::s)) (.int (p.length:ag))=aa (.str [c]):=by
 show(((jC (p.length:ag) (p++c::s).length).bind λ k=>((p++c::s)[k]?).map λ c=>IV.str [c]).or _).or _=_;rw[Bd (by lia) (aM (Int.not_lt.mpr (dP _))) (dP _) (by simp only[bp,dh];exact Int.ofNat_lt.mpr (Xg (ck _ _)))];simp only[uQ,je,Ca (ca _),uY];rfl
noncomputable def bm5(l:af IS):af IS:=match l with|.ny _ _ _ h::_=>h|_=>[]
theorem YQ:(mF .sd).body=[.ny [.ret (aa (.idx (fQ .oi) (.bin .Add (fQ .mA) (.var .pI))))] .bn6 none (bm5 (mF .sd).body)]:=∅
theorem mx{v}:(Fl.ret v).ctorIdx≠0:=by show(3:ah)≠0;decide
section
variable{pre rest:af ah}{c:ah}{d ln cl h tn x:ag}{tk a:af IV}{ask:al}{b:af (ag×IV)}{D:ah}
theorem ax6{e}:cG aC .obj .oi (sF e d ln cl h tk tn x a ask b)=aa (.str e):=∅
theorem bc5{e}:cG aC .obj .mA (sF e d ln cl h tk tn x a ask b)=aa (.int d):=∅
theorem U1{e}:cG aC .obj .pI (sF e d ln cl h tk tn x a ask b)=aa (.int d):=∅
noncomputable abbrev sR(pre rest:af ah)(ln cl h:ag)(tk:af IV)(tn x:ag)(a:af IV)(ask:al)(b:af (ag×IV)):St:=sF (pre++rest) (pre.length:ag) ln cl h tk tn x a ask b
theorem Qh(e:pre.length<=1000):YM (D+1) .sd [.obj] (sR pre (c::rest) ln cl h tk tn x a ask b) (.ok (.str [c],sR pre (c::rest) ln cl h tk tn x a ask b)):=by
 refine YM.DY (V:=[(.bq,.obj),(.pI,.int 0)]) (y:=.ok (.ret (.str [c]),[(.bq,.obj),(.pI,.int 0)],_)) ∅ ?_;rw[YQ];exact .fin mx (.ny (.fin mx (.ret rfl (.idx (.self rfl ax6) rfl (.bin (.self rfl bc5) rfl (.var rfl) (by show aa (IV.int ((pre.length:ag)+0))=_;rw[aO])) (aj1 e)) rfl)))
end
section
variable{h:fg}{a:fP}(H:eZ a h){prm:af Nm}{top:al}{V b:Loc}{O c:St}
include H
theorem YB.g{x f}(e:(iW a aC prm (gC a aC (jU a) 60 8) 60).B x V O=.ok (f,b,c)):YB 11 prm top x (rf h V) (bl h O) (.ok (NW h f,rf h b,bl h c)):=
 ⟨100,λ N d n g i j=>((KW H g i (aj ⋯ j):vV h _ (rA prm d N top n)).B x V O).elim (λ q=>by rw[e]at q;cbv) λ q=>by rw[e]at q;exact q⟩
theorem YB.gx{f x}(e:(iW a aC prm (gC a aC (jU a) 60 8) 60).B f V O=.exc x):YB 11 prm top f (rf h V) (bl h O) (.exc (re h x.1,rf h x.2.1,bl h x.2.2)):=
 ⟨100,λ N d n g i j=>((KW H g i (aj ⋯ j):vV h _ (rA prm d N top n)).B f V O).elim (λ q=>by rw[e]at q;cbv) λ q=>by rw[e]at q;exact q⟩
end
noncomputable def OF(s:IS):af IS:=match s with|.iE _ b=>b|_=>[]
noncomputable def spS:IS:=.iE (.cmp .Eq (iG .sd) (.con (.str [32]))) [.expr (iG .rD)]
noncomputable def ro:af IS:=(OF ((mF .iv).body.getD 2 .bad)).drop 1
theorem bi2:(mF .iv).body=[.iff (.bool .And [.cmp .Eq (fQ .pI) (.con (.int 0)),.cmp .Eq (iG .sd) (.con (.str [65279]))]) [.expr (iG .rD)] [],.asg .AE (.con (.bool ai)),.iE (.not (.var .AE)) (spS::ro)]:=∅
noncomputable def kG(dm:af ah)(o:ak al):af (ag×IV):=match o with|none=>[]|some b=>[(0,jn (sy 7 0) b (sy 8 0) (sy 9 0) (sy 10 0) (uS 0::dm))]
noncomputable def kR(o:ak al)(num idx kl kc:ag)(h:af ah):af (ag×IV):=match o with|none=>[]|some b=>[fj num b idx kl kc h]
noncomputable def gN(dm:af ah)(p l c:ag)(ask:al)(o:ak al):St:=aa (cY (uS 0::dm) p l c ai 0 [uL 3] (sy 4 0) (sy 5 0) [uL 1] ask (kG dm o))
noncomputable def F0:fP:=⟨[],[],[(0,sy 1 0)],[]⟩
noncomputable def lF(b:al):Loc:=[(.bq,.obj),(.AE,.bool b)]
noncomputable abbrev gB(prm:af Nm)(b:af IS)(V:Loc)(O:St):RS:=(iW F0 aC prm (gC F0 aC (jU F0) 60 8) 60).B b V O
noncomputable abbrev gH:af Nm:=(mF .iv).params
theorem ca2(ask:al)(o:ak al):kW F0 .rD [.obj] (gN [32,uS 1] (sy 1 0) (sy 2 0) (sy 3 0) ask o)=.ok (.none,gN [32,uS 1] (sy 1 1) (sy 2 0) (sy 3 1) ask o):=by obtain _|_:=o<;>kernel_rfl
theorem U4(ask:al)(o:ak al):gB gH ro (lF ai) (gN [10,uS 1] (sy 1 0) (sy 2 0) (sy 3 0) ask o)=.ok (.next,lF ai,gN [10,uS 1] (sy 1 1) (sy 2 1) 0 ae o):=by obtain _|_:=o<;>kernel_rfl
theorem bz2(ask:al)(o:ak al):gB gH ro (lF ai) (gN [35,10,uS 1] (sy 1 0) (sy 2 0) (sy 3 0) ask o)=.ok (.next,lF ai,gN [35,10,uS 1] (sy 1 2) (sy 2 1) 0 ae o):=by obtain _|_:=o<;>kernel_rfl
theorem ak8(ask:al)(o:ak al):gB gH ro (lF ai) (gN [35,0,uS 1] (sy 1 0) (sy 2 0) (sy 3 0) ask o)=.ok (.next,lF ae,gN [35,0,uS 1] (sy 1 1) (sy 2 0) (sy 3 1) ask o):=by obtain _|_:=o<;>kernel_rfl
noncomputable def mV:af ah:=[45,63,58,119,39,34,42,38,33,91,123,0]
theorem bx3(ask:al)(o:ak al):mV.map (λ c=>gB gH ro (lF ai) (gN [c,uS 1] (sy 1 0) (sy 2 0) (sy 3 0) ask o))=mV.map λ c=>.ok (.next,lF ae,gN [c,uS 1] (sy 1 0) (sy 2 0) (sy 3 0) ask o):=by obtain _|_:=o<;>kernel_rfl
section
variable{x pre rest:af ah}{a ln cl num idx kl kc tn ind:ag}{tk h:af IV}{ask:al}{o:ak al}
noncomputable abbrev rN(p:ah)(ln cl tn ind num idx kl kc:ag)(pre rest:af ah)(h tk:af IV):fg:=iR [(p:ag),ln,cl,tn,ind,0,num,idx,kl,kc] [pre,rest] [[],h,[],tk]
theorem Rb(b:(pre++rest).length<=1000)(c:h.length<=1000)(d:tk.length<=1000):eZ F0 (rN pre.length ln cl tn ind num idx kl kc pre rest h tk):=by
 rw[bp]at b;exact BL (all2 (Xk b) (all2 (Xl b) eI)) (all2 (cg _) (all2 c (all2 (cg _) (all2 d eI)))) eI eI (all2 (by rw[aU ⋯];exact aO _) eI) eI
theorem F5{s}(c:dI s=ae):rd (rN pre.length ln cl tn ind num idx kl kc pre rest h tk) (kG (s++[uS 1]) o)=kR o num idx kl kc (pre++(s++rest)):=by
 obtain _|b:=o
 ·rfl
 ·show[(0,re _ (jn _ _ _ _ _ _))]=[(0,_)];rw[Bb rfl,kP,tU,kB c,kP,aU ⋯,aU ⋯,aU ⋯,aU ⋯];show[(0,jn (num+0) b (idx+0) (kl+0) (kc+0) (pre++(s++(rest++[]))))]=_;simp only[bC,aO,aO,aO,aO]
theorem Fi{s}(b:dI s=ae){k j c}(d:-1000000<=k/\k<=1000000)(e:-1000000<=j/\j<=1000000):bl (rN pre.length ln cl tn ind num idx kl kc pre rest h tk) (gN (s++[uS 1]) (sy 1 k) (sy 2 j) c ask o)=sF (pre++(s++rest)) (pre.length+k) (ln+j) (ri (rN pre.length ln cl tn ind num idx kl kc pre rest h tk) c) 0 tk tn ind h ask (kR o num idx kl kc (pre++(s++rest))):=by
 unfold gN;rw[yh rfl,F5 b,kP,tU,kB b,kP,fq,fq,aU d,aU e,aU ⋯,aU ⋯,my (k:=0) rfl ⋯];show aa (cY (pre++(s++(rest++[]))) (pre.length+k) (ln+j) _ ai 0 (tk++[]) (tn+0) (ind+0) (h++[]) ask _)=_;simp only[bC,bC,bC,aO,aO]
end
section
variable{h:af ah}{num idx kl kc tn ind:ag}{tk inds:af IV}{o:ak al}(a:h.length<=1000)(b:inds.length<=1000)(f:tk.length<=1000)
noncomputable abbrev sA(h:af ah)(tk:af IV)(tn ind:ag)(inds:af IV)(o:ak al)(num idx kl kc:ag)(pre:af ah)(ln cl:ag)(ask:al):St:=sF h (pre.length:ag) ln cl 0 tk tn ind inds ask (kR o num idx kl kc h)
theorem vQ{pre rest s h:af ah}(a:h.length<=1000)(x:pre++(s++rest)=h):(pre++rest).length<=1000:=by
 rw[<-x,bp,bp]at a;rw[bp];exact aj (cU (ca _) (fD _ _)) a
theorem xN{pre s:af ah}:(((pre++s).length:ah):ag)=(pre.length:ag)+(s.length:ag):=by rw[bp];rfl
include a b f
theorem bv0{pre rest ln cl ask}(x:pre++32::rest=h):YM 11 .rD [.obj] (sA h tk tn ind inds o num idx kl kc pre ln cl ask) (.ok (.none,sA h tk tn ind inds o num idx kl kc (pre++[32]) ln (cl+1) ask)):=by
 have:=YM.g (Rb (ln:=ln) (cl:=cl) (tn:=tn) (ind:=ind) (num:=num) (idx:=idx) (kl:=kl) (kc:=kc) (vQ (s:=[32]) a x) b f) (ca2 ask o) ∅;rw[show[32,uS 1]=[32]++[uS 1]from rfl,Fi ⋯ ⋯ ⋯,Fi ⋯ ⋯ ⋯,aU ⋯,aU ⋯,show pre++([32]++rest)=h from x]at this;simp only[aO]at this;simp only[sA,sA,xN];exact this
theorem E9{s pre rest ln cl ask x d k j c}(e:dI s=ae)(i:pre++(s++rest)=h)(l:-1000000<=k/\k<=1000000)(m:-1000000<=j/\j<=1000000)(g:gB gH ro (lF ai) (gN (s++[uS 1]) (sy 1 0) (sy 2 0) (sy 3 0) ask o)=.ok (.next,lF d,gN (s++[uS 1]) (sy 1 k) (sy 2 j) c x o)):
  YB 11 gH ai ro (lF ai) (sA h tk tn ind inds o num idx kl kc pre ln cl ask) (.ok (.next,lF d,sF h (pre.length+k) (ln+j) (ri (rN pre.length ln cl tn ind num idx kl kc pre rest inds tk) c) 0 tk tn ind inds x (kR o num idx kl kc h))):=by
 have:=YB.g (top:=ai) (Rb (ln:=ln) (cl:=cl) (tn:=tn) (ind:=ind) (num:=num) (idx:=idx) (kl:=kl) (kc:=kc) (vQ a i) b f) g;rw[Fi e ⋯ ⋯,Fi e l m,aU ⋯,i]at this;simp only[aO]at this;exact this
omit a b f in
theorem Jj{prm pre rest c d ln cl ask}{V:Loc}(e:lk .bq V=aa .obj)(hp:pre.length<=1000)(g:pre++c::rest=h):YT 11 prm ai (.cmp .Eq (iG .sd) (.con (.str [d]))) V (sA h tk tn ind inds o num idx kl kc pre ln cl ask) (.ok (decide (c=d),sA h tk tn ind inds o num idx kl kc pre ln cl ask)):=by
 subst g;refine .cmp (.kh e ∅ ∅ (Qh hp)) rfl .con ?_;show aa (decide ([c]=[d]))=_;exact aD aa (decide_eq_decide.mpr ⟨λ x=>(kE x).1,λ x=>by rw[x]⟩)
omit b f in
theorem Ka{pre rest}(x:pre++rest=h):pre.length<=1000:=by rw[<-x,bp]at a;exact aj (ck _ _) a
theorem bk6{rest ln ask c}(d:c≠32):∀{k pre cl},pre++(aJ k 32++c::rest)=h->YS 11 gH ai spS (lF ai) (sA h tk tn ind inds o num idx kl kc pre ln cl ask) (.ok (.next,lF ai,sA h tk tn ind inds o num idx kl kc (pre++aJ k 32) ln (cl+(k:ag)) ask)):=by
 intro k;induction k with
 |zero=>
  intro pre cl x;have:=Jj (d:=32) (prm:=gH) (V:=lF ai) (tk:=tk) (tn:=tn) (ind:=ind) (inds:=inds) (o:=o) (num:=num) (idx:=idx) (kl:=kl) (kc:=kc) (ln:=ln) (cl:=cl) (ask:=ask) rfl (Ka a x) x;rw[gw d]at this;simp only[show pre++aJ 0 32=pre from bC _,show cl+((0:ah):ag)=cl from aO _];exact .wa this
 |succ k e=>
  intro pre cl x;have x:pre++32::(aJ k 32++c::rest)=h:=x;have:=e (pre:=pre++[32]) (cl:=cl+1) (by rw[bB];exact x);simp only[show pre++[32]++aJ k 32=pre++aJ (k+1) 32 by rw[bB];rfl,uu]at this;exact .ti (Jj (d:=32) (c:=32) (rest:=aJ k 32++c::rest) (prm:=gH) (V:=lF ai) (tk:=tk) (tn:=tn) (ind:=ind) (inds:=inds) (o:=o) (num:=num) (idx:=idx) (kl:=kl) (kc:=kc) (ln:=ln) (cl:=cl) (ask:=ask) rfl (Ka a x) x) (.cons (.expr (mX rfl) (.kh rfl ∅ ∅ (bv0 a b f x))) .nil) this
noncomputable abbrev wO:IS:=.iE (.not (.var .AE)) (spS::ro)
omit a b f in
theorem NK{x O}:YT 11 gH ai (.not (.var .AE)) (lF x) O (.ok (!x,O)):=.not (.of (λ r=>rfl) (.var rfl) (by obtain _|_:=x<;>rfl))
theorem EJ{s rest c k pre ln cl ask d n j x y}(l:dI (c::s)=ae)(m:c≠32)(e:pre++(aJ k 32++(c::s++rest))=h)(p:-1000000<=n/\n<=1000000)(q:-1000000<=j/\j<=1000000){i}
  (g:gB gH ro (lF ai) (gN (c::s++[uS 1]) (sy 1 0) (sy 2 0) (sy 3 0) ask o)=.ok (.next,lF i,gN (c::s++[uS 1]) (sy 1 n) (sy 2 j) x d o))
  (r:YS 11 gH ai wO (lF i) (sF h ((pre++aJ k 32).length+n) (ln+j) (ri (rN (pre++aJ k 32).length ln (cl+k) tn ind num idx kl kc (pre++aJ k 32) rest inds tk) x) 0 tk tn ind inds d (kR o num idx kl kc h)) y):
  YS 11 gH ai wO (lF ai) (sA h tk tn ind inds o num idx kl kc pre ln cl ask) y:=
 .ti NK (.cons (bk6 a b f m e) (E9 a b f l (by rw[bB];exact e) p q g)) r
theorem ak2{rest k pre ln cl ask y}(c:pre++(aJ k 32++10::rest)=h)(x:YS 11 gH ai wO (lF ai) (sA h tk tn ind inds o num idx kl kc (pre++(aJ k 32++[10])) (ln+1) 0 ae) y):YS 11 gH ai wO (lF ai) (sA h tk tn ind inds o num idx kl kc pre ln cl ask) y:=by
 refine EJ a b f (s:=[]) ⋯ ⋯ c ⋯ ⋯ (U4 ask o) ?_;rw[sA,<-bB,xN]at x;exact x
theorem ad6{rest pre ln cl ask y}(c:pre++35::10::rest=h)(x:YS 11 gH ai wO (lF ai) (sA h tk tn ind inds o num idx kl kc (pre++[35,10]) (ln+1) 0 ae) y):YS 11 gH ai wO (lF ai) (sA h tk tn ind inds o num idx kl kc pre ln cl ask) y:=by
 refine EJ a b f (s:=[10]) (k:=0) ⋯ ⋯ c ⋯ ⋯ (bz2 ask o) ?_;rw[my rfl ⋯,show pre++aJ 0 32=pre from bC _];rw[sA,xN]at x;exact x
omit a b f in
theorem Pt{O}:YS 11 gH ai wO (lF ae) O (.ok (.next,lF ae,O)):=.wa NK
theorem bj6{pre ln cl ask}(x:pre++[35,0]=h):YS 11 gH ai wO (lF ai) (sA h tk tn ind inds o num idx kl kc pre ln cl ask) (.ok (.next,lF ae,sA h tk tn ind inds o num idx kl kc (pre++[35]) ln (cl+1) ask)):=by
 refine EJ a b f (s:=[0]) (k:=0) ⋯ ⋯ x ⋯ ⋯ (ak8 ask o) ?_;rw[aU ⋯,show pre++aJ 0 32=pre from bC _,aO,sA,xN];show YS 11 gH ai wO (lF ae) (sF h _ ln (cl+0+1) _ _ _ _ _ _ _) _;rw[aO];exact Pt
theorem N9{rest c}(x:c∈mV){k pre ln cl ask}(g:pre++(aJ k 32++c::rest)=h):YS 11 gH ai wO (lF ai) (sA h tk tn ind inds o num idx kl kc pre ln cl ask) (.ok (.next,lF ae,sA h tk tn ind inds o num idx kl kc (pre++aJ k 32) ln (cl+k) ask)):=by
 have d:c≠32/\dI [c]=ae:=(bP (p:=λ c=>!aX c 32&&dI [c]) ⋯ x|>ej).imp (λ q e=>by rw[e]at q;cbv) id;refine EJ a b f d.2 d.1 g ⋯ ⋯ (List.map_inj_left.mp (bx3 ask o) c x) ?_;rw[aU ⋯,aO,aO];rw[aO];exact Pt
noncomputable def nj(x:af ah):af ah:=x.flatMap λ k=>aJ k 32++[10]
theorem PU{rest c k}(d:c∈mV):∀{ks pre ln cl ask},pre++(nj ks++(aJ k 32++c::rest))=h->
  YS 11 gH ai wO (lF ai) (sA h tk tn ind inds o num idx kl kc pre ln cl ask) (.ok (.next,lF ae,sA h tk tn ind inds o num idx kl kc (pre++(nj ks++aJ k 32)) (ln+(ks.length:ag)) ((bif ks.isEmpty then cl else 0)+k) (ask||!ks.isEmpty))):=by
 intro ks;induction ks with
 |nil=>
  intro pre ln cl ask x;have:=N9 a b f d (ln:=ln) (cl:=cl) (ask:=ask) (tn:=tn) (ind:=ind) (o:=o) (num:=num) (idx:=idx) (kl:=kl) (kc:=kc) x;show YS 11 gH ai wO _ _ (.ok (.next,_,sA _ _ _ _ _ _ _ _ _ _ _ (ln+((0:ah):ag)) (cl+k) (ask||ai)));simp only[MF,show ln+((0:ah):ag)=ln from aO _];exact this
 |cons n ks g=>
  intro pre ln cl ask x;have e:nj (n::ks)=(aJ n 32++[10])++nj ks:=rfl;rw[e]at x⊢;refine ak2 a b f (rest:=nj ks++(aJ k 32++c::rest)) (by rw[<-x];simp only[bB];rfl) ?_;have:=g (pre:=pre++(aJ n 32++[10])) (ln:=ln+1) (cl:=0) (ask:=ae) (by rw[<-x];simp only[bB]);simp only[show ln+1+(ks.length:ag)=ln+((n::ks).length:ag)from uu,cj5]at this;rw[show(ask||!(n::ks).isEmpty)=ae from gz _];simp only[bB]at this⊢;obtain _|_:=ks
  ·exact this
  ·exact this
end
noncomputable def AU:af IS:=OF ((mF .qu).body.getD 1 .bad)
noncomputable abbrev AD:af Nm:=(mF .qu).params
theorem az2:(mF .qu).body=[.iff (fQ .zV) [.ret none] [],.iE (.cmp .Gt (fQ .yK) (.var .iI)) AU]:=∅
noncomputable def gU(h:ag)(x tk:af IV)(ask:al)(o:ak al):St:=aa (cY [uS 0,uS 1] (sy 1 0) (sy 2 0) (sy 3 0) ai 0 tk (sy 4 0) h x ask (kG [uS 1] o))
noncomputable def lU(c:ag)(m:ak IV):Loc:=(.bq,.obj)::(.iI,.int c)::match m with|none=>[]|some v=>[(.rW,v)]
noncomputable def kX(v:IV):IV:=.ba .Kb [(.tm,v),(.uo,v)]
noncomputable def mG:IV:=markV (sy 1 0) (sy 2 0) (sy 3 0) [uS 0,uS 1]
noncomputable def FZ:fP:=⟨[],[],[],[]⟩
theorem aj2(ask b:al)(o:ak al):(iW FZ aC AD (gC FZ aC (jU FZ) 60 8) 60).B AU (lU (sy 11 0) (bif b then aa mG else none)) (gU (sy 5 0) [uL 1,.int (sy 6 0)] [uL 3] ask o)=.ok (.next,lU (sy 11 0) (aa mG),gU (sy 6 0) [uL 1] [uL 3,kX mG] ask o):=by obtain _|_:=b<;>obtain _|_:=o<;>kernel_rfl
noncomputable def bt(c:ag):af ag->af ag
 |[]=>[]
 |d::r=>if c<d then bt c r else d::r
section
variable{h:af ah}{p ln cl num idx kl kc tn ind e c:ag}{tk inds:af IV}{ask b:al}{o:ak al}
noncomputable abbrev rU(h:af ah)(p ln cl tn ind e num idx kl kc c:ag)(inds tk:af IV):fg:=iR [p,ln,cl,tn,ind,e,num,idx,kl,kc,c] [h] [[],inds,[],tk]
theorem JZ(x:h.length<=1000)(a:inds.length<=1000)(d:tk.length<=1000):eZ FZ (rU h p ln cl tn ind e num idx kl kc c inds tk):=
 BL (all2 x eI) (all2 (cg _) (all2 a (all2 (cg _) (all2 d eI)))) eI eI eI eI
theorem ES:rs (rU h p ln cl tn ind e num idx kl kc c inds tk) [uS 0,uS 1]=h:=by
 show h++([]++[])=h;simp only[bC,bC]
theorem Vq:rd (rU h p ln cl tn ind e num idx kl kc c inds tk) (kG [uS 1] o)=kR o num idx kl kc h:=by
 obtain _|b:=o
 ·rfl
 ·show[(0,re _ (jn _ _ _ _ _ _))]=[(0,_)];rw[Bb rfl,ES,aU ⋯,aU ⋯,aU ⋯,aU ⋯];show[(0,jn (num+0) b (idx+0) (kl+0) (kc+0) h)]=_;simp only[aO,aO,aO,aO]
theorem EY:re (rU h p ln cl tn ind e num idx kl kc c inds tk) mG=markV p ln cl h:=by
 unfold mG;rw[Va rfl,ES,aU ⋯,aU ⋯,aU ⋯];show markV (p+0) (ln+0) (cl+0) h=_;simp only[aO,aO,aO]
theorem Tv{i x a}:bl (rU h p ln cl tn ind e num idx kl kc c inds tk) (gU (sy i 0) x a ask o)=sF h p ln cl 0 (rl (rU h p ln cl tn ind e num idx kl kc c inds tk) a) tn ((rU h p ln cl tn ind e num idx kl kc c inds tk).i i) (rl (rU h p ln cl tn ind e num idx kl kc c inds tk) x) ask (kR o num idx kl kc h):=by
 unfold gU;rw[yh rfl,ES,Vq,aU ⋯,aU ⋯,aU ⋯,aU ⋯,aU ⋯,my rfl ⋯];show aa (cY h (p+0) (ln+0) (cl+0) _ _ _ (tn+0) _ _ _ _)=_;simp only[aO,aO,aO,aO,aO]
theorem Ng{m}:rf (rU h p ln cl tn ind e num idx kl kc c inds tk) (lU (sy 11 0) m)=lU c (m.map (re (rU h p ln cl tn ind e num idx kl kc c inds tk))):=by
 have x:IV.int (ri (rU h p ln cl tn ind e num idx kl kc c inds tk) (sy 11 0))=.int c:=by rw[aU ⋯];exact aD IV.int (aO c)
 obtain _|v:=m
 ·show[_,(_,IV.int _)]=_;rw[x];rfl
 ·show[_,(_,IV.int _),_]=_;rw[x];rfl
theorem P6(x:h.length<=1000)(a:inds.length<=1000)(d:tk.length<=1000):YB 11 AD ai AU (lU c (bif b then aa (markV p ln cl h)else none)) (sF h p ln cl 0 tk tn ind (inds++[.int e]) ask (kR o num idx kl kc h)) (.ok (.next,lU c (aa (markV p ln cl h)),sF h p ln cl 0 (tk++[kX (markV p ln cl h)]) tn e inds ask (kR o num idx kl kc h))):=by
 have:=YB.g (top:=ai) (JZ (p:=p) (ln:=ln) (cl:=cl) (tn:=tn) (ind:=ind) (e:=e) (num:=num) (idx:=idx) (kl:=kl) (kc:=kc) (c:=c) x a d) (aj2 ask b o);simp only[Ng,Ng,Tv,Tv,fq,fq,fq,fq,pX,EY]at this;rw[show(bif b then aa mG else none).map (re (rU h p ln cl tn ind e num idx kl kc c inds tk))=bif b then aa (markV p ln cl h)else none by cases b with|true=>exact aD aa EY|false=>rfl]at this;rw[show rl (rU h p ln cl tn ind e num idx kl kc c inds tk) [.int (sy 6 0)]=[.int e] by show[IV.int (ri _ (sy 6 0))]=_;rw[aU ⋯];exact aD (λ z=>[IV.int z]) (aO e)]at this;rw[show rl (rU h p ln cl tn ind e num idx kl kc c inds tk) [kX mG]=[kX (markV p ln cl h)] by show[IV.ba _ [(_,re _ mG),(_,re _ mG)]]=_;rw[EY];rfl]at this;have q:YB 11 AD ai AU (lU c (bif b then aa (markV p ln cl h)else none)) (sF h p ln cl 0 (tk++[]) tn ind (inds++[.int e]) ask (kR o num idx kl kc h)) (.ok (.next,lU c (aa (markV p ln cl h)),sF h p ln cl 0 (tk++[kX (markV p ln cl h)]) tn e (inds++[]) ask (kR o num idx kl kc h))):=this;rw[bC,bC]at q;exact q
noncomputable def aQ(r:af ag):af IV:=r.reverse.map .int
theorem UX{D:ah}{x d a}:cG aC .obj .yK (aa (cY h p ln cl d x tk tn ind inds ask a))=aa (.int ind):=∅
theorem al6{x d a}:cG aC .obj .zV (aa (cY h p ln cl d x tk tn ind inds ask a))=aa (.int x):=∅
theorem Y5(v:h.length<=1000):∀{r d tk b},r.length<=1000->tk.length+r.length<=1000->(∃x∈d::r,x<=c)->∃a f k m,bt c (d::r)=a::f/\(d::r).length=(a::f).length+k/\
  YS 11 AD ai (.iE (.cmp .Gt (fQ .yK) (.var .iI)) AU) (lU c (bif b then aa (markV p ln cl h)else none)) (sF h p ln cl 0 tk tn d (aQ r) ask (kR o num idx kl kc h)) (.ok (.next,lU c m,sF h p ln cl 0 (tk++aJ k (kX (markV p ln cl h))) tn a (aQ f) ask (kR o num idx kl kc h))):=by
 intro r;induction r with
 |nil=>
  intro d tk b _ _ ⟨x,j,g⟩;cases List.mem_singleton.mp j;have n:=Int.not_lt.mpr g;refine Av d ([]) 0 (bif b then aa (markV p ln cl h)else none) (aM n) rfl ?_;simp only[MG,bC];exact .wa (.cmp (.self rfl (UX (D:=0))) rfl (.var rfl) (aD aa (gw n)))
 |cons e r w=>
  intro d tk b l s ⟨x,j,g⟩;have i:YT 11 AD ai (.cmp .Gt (fQ .yK) (.var .iI)) (lU c (bif b then aa (markV p ln cl h)else none)) (sF h p ln cl 0 tk tn d (aQ (e::r)) ask (kR o num idx kl kc h)) (.ok (decide (c<d),sF h p ln cl 0 tk tn d (aQ (e::r)) ask (kR o num idx kl kc h))):=.cmp (.self rfl (UX (D:=0))) rfl (.var rfl) rfl;by_cases q:c<d
  ·rw[bK q]at i;rw[dh]at l s;refine Bk (w (tk:=tk++[kX (markV p ln cl h)]) (b:=ae) (aj (ck _ _) l) (by rw[bp];exact(by lia:tk.length+1+r.length<=1000)) (aL x ((List.mem_cons.mp j).resolve_left λ y=>absurd q (Int.not_lt.mpr (y▸g))) g)) λ a f k m z H t=>?_;refine Av a f (k+1) m ((aT q).trans z) (by simp only[dh,H];rfl) ?_;rw[bB]at t;have u:=P6 (p:=p) (ln:=ln) (cl:=cl) (num:=num) (idx:=idx) (kl:=kl) (kc:=kc) (tn:=tn) (ind:=d) (e:=e) (c:=c) (ask:=ask) (b:=b) (o:=o) (inds:=aQ r) (tk:=tk) v (by unfold aQ;simp only[bF,Xm];exact aj (ck _ _) l) (aj (ck _ _) s);rw[show aQ r++[.int e]=aQ (e::r) by unfold aQ;simp only[Xn,iq];rfl]at u;exact .ti i u t
  ·rw[gw q]at i;refine Av d (e::r) 0 (bif b then aa (markV p ln cl h)else none) (aM q) rfl ?_;simp only[MG,bC];exact .wa i
theorem Vs(g:h.length<=1000){r d}(i:r.length<=1000)(j:tk.length+r.length<=1000)(l:∃x∈d::r,x<=c):∃a f k,bt c (d::r)=a::f/\(d::r).length=(a::f).length+k/\
  YM 12 .qu [.obj,.int c] (sF h p ln cl 0 tk tn d (aQ r) ask (kR o num idx kl kc h)) (.ok (.none,sF h p ln cl 0 (tk++aJ k (kX (markV p ln cl h))) tn a (aQ f) ask (kR o num idx kl kc h))):=by
 refine aB λ Y n=>?_;refine Bk (Y5 (b:=ai) g i j l (p:=p) (ln:=ln) (cl:=cl) (tn:=tn) (ask:=ask) (o:=o) (num:=num) (idx:=idx) (kl:=kl) (kc:=kc)) λ a f k m q s t=>?_;refine n ?_;refine ui a f k q s ?_;refine YM.DY (V:=lU c none) (y:=.ok (.next,lU c m,_)) ∅ ?_;rw[az2];exact .cons (.gk (.of (λ r=>rfl) (.self rfl al6) rfl) .nil) (.cons t .nil)
end
noncomputable abbrev tV:af Nm:=(mF .jP).params
noncomputable def nY:af IS:=(mF .jP).body.drop 3
theorem Up:(mF .jP).body=.expr (iG .iv)::.expr (iG .iP)::.expr (.bx (.var .bq) .qu [fQ .iI] [])::nY:=∅
noncomputable abbrev RB:=R (IV×St) ((IV×Loc)×St)
section
variable{h:Type}{D:ah}{prm:af Nm}{top:al}{V V':Loc}{O O':St}{s:IS}{l:af IS}{z:h}{F:RS->h}
theorem Dt.cons(x:YS D prm top s V O (.ok (.next,V',O')))(g:Ev D (λ N d n=>F ((rA prm d N top n).B l V' O')) z):Ev D (λ N d n=>F ((rA prm d N top n).B (s::l) V O)) z:=
 x.ek g λ N d n a b=>by rw[<-b];exact aD F (yP a rfl)
end
noncomputable def QR(O:St)(z:RB):Prop:=Ev 18 (λ N d n=>eW ((rA tV d N ai n).B nY lS O)) z
noncomputable def DC(O h:St):Prop:=∃w,QR O (.ok (w,h))
noncomputable def DX(O:St)(e:IV):Prop:=∃h,QR O (.exc (e,h))
theorem YM.OW{m D}{V:Loc}{O}{z:RB}(b:dA (mF m).params (mF m).dflt [.obj] []=aa V)(h:Ev D (λ N d n=>eW ((rA (mF m).params d N ai n).B (mF m).body V O)) z):YM (D+1) m [.obj] O (v1 z):=by
 refine aI (h) λ k h=>?_;refine⟨k,λ N d n x a c=>?_⟩;obtain⟨d,rfl⟩:=mN (aj (fD 1 _) a);show v1 (R.opt _ _)=_;rw[b];exact aD v1 (h N d N x (pN a) x)
section
variable{O x h b f:St}{c:ag}{z:RB}
theorem QZ{v j k}(a:YM 18 .iv [.obj] O (.ok (v,x)))(l:YM 18 .iP [.obj] x (.ok (j,h)))(m:cG aC .obj .iI h=aa (.int c))(u:YM 18 .qu [.obj,.int c] h (.ok (k,b)))
  (e:eg .iv O=ae)(g:eg .iP x=ae)(i:eg .qu h=ae)(d:QR b z):YM 19 .jP [.obj] O (v1 z):=by
 refine aB λ Y n=>?_;revert e;refine gn λ Y o e=>?_;subst o;revert g;refine gn λ Y p g=>?_;subst p;revert i;refine gn λ Y q i=>?_;subst q;refine n ?_;refine YM.OW (V:=lS) ∅ ?_;rw[Up];exact Dt.cons (.expr (mX rfl) (.kh rfl ∅ e a)) (Dt.cons (.expr (mX rfl) (.kh rfl ∅ g l)) (Dt.cons (.expr (mX rfl) (.KO rfl ∅ i (.self rfl m) rfl u)) d))
theorem Np{v e}(a:YM 18 .iv [.obj] O (.ok (v,x)))(j:YM 18 .iP [.obj] x (.exc (e,h)))
  (g:eg .iv O=ae)(i:eg .iP x=ae):FX O e:=by
 revert g;refine gn λ Y k g=>?_;subst k;revert i;refine gn λ Y l i=>?_;subst l;refine⟨h,?_⟩;refine YM.OW (V:=lS) (z:=.exc (e,h)) ∅ ?_;rw[Up];refine Dt.cons (.expr (mX rfl) (.kh rfl ∅ g a)) ?_;exact(YS.QB (mX rfl) (.kh rfl ∅ i j)).up λ N d n q=>aD eW (OL q)
end
section
variable{h:fg}{a:fP}(H:eZ a h){O b:St}
include H
theorem MW{N d n}(x:100<=N)(c:18<=d)(e:60<=n):LE h (rB h) (eW ((iW a aC [.bq] (gC a aC (jU a) 60 8) 60).B nY lS O)) (eW ((rA tV d N ai n).B nY (rf h lS) (bl h O))):=
 Jl ((KW H x (aj ⋯ c) e).B ..)
theorem DC.g(e:vX a O=.ok (.none,b)):DC (bl h O) (bl h b):=by
 replace e:(eW ((iW a aC [.bq] (gC a aC (jU a) 60 8) 60).B nY lS O)).aw (λ Y O=>R.ok (IV.none,O))=.ok (.none,b):=e;rcases q:eW ((iW a aC [.bq] (gC a aC (jU a) 60 8) 60).B nY lS O)with _|x|w
 ·rw[q]at e;cbv
 ·rw[q]at e;cbv
 ·rw[q]at e;cases e;refine jT (rB h w.1) 100 (λ N d n f g i=>?_);exact(MW H f g (aj ⋯ i)).elim (λ c=>by rw[q]at c;cbv) λ c=>by rw[q]at c;exact c
theorem DX.g{x}(e:vX a O=.exc x):DX (bl h O) (re h x.1):=by
 refine aB λ Y f=>?_;have e:(eW ((iW a aC [.bq] (gC a aC (jU a) 60 8) 60).B nY lS O)).aw (λ Y O=>R.ok (IV.none,O))=.exc x:=e;rcases q:eW ((iW a aC [.bq] (gC a aC (jU a) 60 8) 60).B nY lS O)with _|w|x
 ·refine f ?_;rw[q]at e;cbv
 ·rw[q]at e;cases e;refine f ?_;refine jT (bl h x.2) 100 (λ N d n g i j=>?_);exact(MW H g i (aj ⋯ j)).elim (λ c=>by rw[q]at c;cbv) λ c=>by rw[q]at c;exact c
 ·refine f ?_;rw[q]at e;cbv
omit H in
theorem Dk{m}:eg m (bl h O)=eg m O:=by
 obtain _|x:=O
 ·rfl
 ·show(lk m (rf h x)).isNone=_;simp only[eV,GB];rfl
theorem YX{f g o p r}(e:KQ a (g,O)=aa (o,b))(L:bX (f++rl h o) (bl h b) p r):bX (f++rl h g) (bl h O) p r:=by
 unfold KQ at e;refine aB λ Y c=>?_;rcases q:kW a .eB [.obj] O with _|x|w
 ·refine c ?_;rw[q]at e;cases e
 ·refine c ?_;rw[q]at e;cases e
 ·obtain⟨v,A⟩:=w;rw[q]at e;have s:=(YM.g H q ∅).le (show 11<=19 by decide);revert e;refine av λ B i e=>?_;replace i:=AM H i;obtain _|_:=B
  ·revert e;refine av λ C D e=>?_;clear q;subst D;revert e;refine av λ l d=>av λ t j=>av λ u y=>av λ n m=>bR λ E e=>?_;revert E;refine aV λ I=>aV λ z=>aV λ J=>aV λ M=>aV λ N=>aV λ Q T=>?_;cases e;revert d;refine av λ vt d X=>?_;revert m;refine av λ vn m U=>?_;refine c ?_;cases jm X;cases dY U;clear X;obtain _|⟨t',l⟩:=l
   ·cases j
   ·cases j;have V:(ju u).isNone=ae:=by
     revert y;refine av λ Y Y=>av λ Y Y=>av λ Y Y=>av λ Y Y=>av λ Y Y=>av λ Y Y=>bR λ Y Z=>Z▸?_;rfl
    refine .tok (.no (by rw[Dk];exact Q) s i) (tk:=rl h l) (tn:=ri h n) ?_ ?_ ?_ ?_ (by show eg .km (bl h (aa C))=ae;rw[Dk];exact T) (HB H.zero y N) ?_
    ·simp only[eV,d,pX];show aa (IV.lst (rl h (t::l)))=_;rw[lA (aH z)]
    ·rw[eV,m];rfl
    ·rw[Ep];exact Nat.blt_eq.mp M
    ·rw[jZ (aP z),bF];have:=eQ J;rw[dh]at this;exact iA (aj this ⋯)
    ·have e1:f++rl h (g++[u])=f++rl h g++[re h u]:=by simp only[uk,lA V,bB];rfl
     rw[e1]at L;simp only[show IV.lst (rl h l)=re h (.lst l)from rfl,show IV.int (ri h n+1)=re h (.int (n+1))from aD IV.int (by rw[Ai H.zero I ⋯ ⋯,my (k:=1) H.zero ⋯]),nO,nO];exact L
  ·rcases k:kW a .jP [.obj] A with _|x|w
   ·refine c ?_;rw[k]at e;cases e
   ·refine c ?_;rw[k]at e;cases e
   ·rw[k]at e;revert e;refine bR λ d j=>?_;cases j;refine c ?_;exact .rP (by rw[Dk];exact(aH d)) s i (by rw[Dk];exact(aP d)) ⟨_,(YM.g H k ∅).le ⋯⟩ L
theorem KI{k f d g}:∀{n p x},Fw a k n p=aa x->bX (f++rl h x.1) (bl h x.2) d g->bX (f++rl h p.1) (bl h p.2) d g
 |0,_,_,e,_=>nomatch e
 |n+1,p,x,e,L=>by
  refine jf (p:=λ z=>z=aa x->_) (λ Y c=>by cases c;exact L) (λ Y c=>?_) e
  refine iD c λ q i j=>?_
  exact YX H i (KI j L)
end
section
variable{h:fg}(b:h.i 0=0)
theorem Eb{t k}(x:-1000000<=k/\k<=1000000):ri h (sy t 0+k)=h.i t+k:=by
 simp only[show sy t 0+k=sy t k from by unfold sy;rw[aO],aU x]
include b
theorem Ar{k v n a x}(c:cl k=ae)(hv:cl v=ae):re h (atT k v n a x)=atT k v (ri h n) (ri h a) (ri h x):=by
 show IV.tup (rl h [k,v,.int n,.int a,.int n,.int x])=_;simp only[lA (Cq c),lA (Cq hv),gL b k c,gL b v hv];rfl
noncomputable def Ts(t:IV):al:=t.dH.any λ l=>aX l.length 4&&((l.take 2).all cl&&((l.drop 2).all λ v=>v.cn.any λ a=>decide (-1000<=a/\a<=1000)))
theorem SV{c}(m:c.all Ts=ae):(eU (sy 2 0) (sy 3 0) c).map (re h)=eU (h.i 2) (h.i 3) c:=by
 induction c with
 |nil=>rfl
 |cons t c n=>
  revert m;refine aV λ o p=>?_;show re h _::(eU (sy 2 0) (sy 3 0) c).map (re h)=_::eU (h.i 2) (h.i 3) c;rw[n p];refine aD (·::_) ?_;revert o;refine gn λ l e=>aV λ g=>?_;obtain rfl:=qt e;refine tT (VA g) λ k v a u q=>?_;subst q;clear g;refine aV λ i j=>?_;refine mB ((aH j)) λ x r d=>?_;refine mB ((aH ((ej j).2))) λ y s f=>?_;obtain rfl:=dY r;obtain rfl:=dY s;replace d:=bE d;replace f:=bE f;show re h (atT k v (sy 2 0) (sy 3 0+x) (sy 3 0+y))=atT k v (h.i 2) (h.i 3+x) (h.i 3+y);rw[Ar b (aH i) (aH ((aP i))),Eb (qy d ⋯ ⋯),Eb (qy f ⋯ ⋯),aU ⋯,aO]
end
section
variable{h pre rest:af ah}{ln cl tn ind qn:ag}{inds q g:af IV}
noncomputable abbrev rX(p:ah)(ln cl tn ind:ag)(qn:ah)(pre rest:af ah)(inds q g:af IV):fg:=iR [(p:ag),ln,cl,tn,ind,(qn:ag),tn+(qn:ag)] [pre,rest] [[],inds,q,g]
theorem GP{n i}(x:i∈Bu n):0<=i/\i<n:=by
 induction n with
 |zero=>cbv
 |succ n a=>
  refine aB λ Y b=>?_;obtain rfl|x:=List.mem_cons.mp x
  ·refine b ?_;exact⟨dP _,Int.ofNat_lt.mpr (sQ _)⟩
  ·exact b ⟨(a x).1,Int.lt_trans (a x).2 (Int.ofNat_lt.mpr (sQ _))⟩
theorem CK{l}(c:(pre++rest).length<=1000)(e:inds.length<=1000)(f:q.length<=1000)(j:g.length<=1000)(d:ind<=cl)
  (k:∀x∈l,eX x.1 (.int (ri (rX pre.length ln cl tn ind q.length pre rest inds q g) x.2.1)) (.int (ri (rX pre.length ln cl tn ind q.length pre rest inds q g) x.2.2.1))=aa x.2.2.2):eZ (Fx (decide (ind<cl)) l) (rX pre.length ln cl tn ind q.length pre rest inds q g):=by
 rw[bp]at c;refine BL (all2 (Xk c) (all2 (Xl c) eI)) (all2 (cg _) (all2 e (all2 f (all2 j eI)))) ?_ (all2 ?_ eI) (all2 ?_ eI) (all2 ?_ eI)
 ·refine List.forall_mem_append.mpr ⟨List.forall_mem_append.mpr ⟨List.forall_mem_append.mpr ⟨all2 ?_ (all2 ?_ k),?_⟩,?_⟩,?_⟩
  ·rw[aU ⋯,aU ⋯];exact aD aa (decide_eq_decide.mpr (by show ind+0<cl+0↔_;rw[aO,aO]))
  ·rw[aU ⋯,aU ⋯];show aa (decide (ind+0=cl+0))=aa (!decide (ind<cl));rw[aO,aO];by_cases b:ind<cl
   ·rw[bK b,gw (MH b)];rfl
   ·rw[gw b,bK (Int.le_antisymm d (Int.not_lt.mp b))];rfl
  ·refine List.forall_mem_map.mpr λ i a=>?_;have:=GP a;show eX .Gt (.int (ri _ (sy 5 0))) (.int (ri _ (sy 3 i)))=aa ai;rw[aU ⋯,aU (bm9 this ⋯ ⋯)];exact aD aa (gw (Int.not_lt.mpr (Cd d this.1)))
  ·refine List.forall_mem_map.mpr λ i a=>?_;have:=GP a;show eX .Eq (.int (ri _ (sy 1 (i+1)))) (.int (ri _ 0))=aa ai;rw[aU (SY this ⋯ ⋯),my rfl ⋯];exact aD aa (gw (uR (Int.add_pos_of_nonneg_of_pos (dP _) (GC this.1))))
  ·refine List.forall_mem_map.mpr λ i a=>?_;have:=GP a;rw[aU ⋯,aU (SY this ⋯ ⋯)];exact aD aa (gw (MH (Int.add_lt_add_of_le_of_lt d (GC this.1))))
 ·rw[aU ⋯,aU ⋯,aU ⋯];exact aD (λ z=>aa (IV.int z)) (by exact co2 _ _ _)
 ·rw[aU ⋯];exact aO _
 ·rw[aU ⋯];exact aO _
theorem NB:∀x∈Ie (decide (cl=0)),eX x.1 (.int (ri (rX pre.length ln cl tn ind q.length pre rest inds q g) x.2.1)) (.int (ri (rX pre.length ln cl tn ind q.length pre rest inds q g) x.2.2.1))=aa x.2.2.2:=by
 refine all2 ?_ eI;rw[aU ⋯,my (k:=0) rfl ⋯];exact aD aa (decide_eq_decide.mpr (by show cl+0=0↔_;rw[aO]))
theorem CD{s}(a:dI s=ae){k fl tnG indG tk is ask ks}(x:-1000000<=k/\k<=1000000):bl (rX pre.length ln cl tn ind q.length pre rest inds q g) (aa (cY (uS 0::(s++[uS 1])) (sy 1 k) (sy 2 0) (sy 3 k) ai fl tk tnG indG is ask ks))=
  sF (pre++(s++rest)) (pre.length+k) ln (cl+k) (ri (rX pre.length ln cl tn ind q.length pre rest inds q g) fl) (rl (rX pre.length ln cl tn ind q.length pre rest inds q g) tk) (ri (rX pre.length ln cl tn ind q.length pre rest inds q g) tnG) (ri (rX pre.length ln cl tn ind q.length pre rest inds q g) indG) (rl (rX pre.length ln cl tn ind q.length pre rest inds q g) is) ask (rd (rX pre.length ln cl tn ind q.length pre rest inds q g) ks):=by
 rw[yh rfl,kP,tU,kB a,kP,aU x,aU ⋯,aU x];show aa (cY (pre++(s++(rest++[]))) (pre.length+k) (ln+0) (cl+k) _ _ _ _ _ _ _ _)=_;rw[bC,aO]
end
noncomputable def yG(c:ah)(n at_ h:ag):af IV:=(bif decide (h<at_)then[atT (fW c) .none n at_ at_]else[])++[kI c n at_]
noncomputable def dy(c:ag)(p:ag×af ag):ag×af ag:=bif decide (p.1<c)then(c,p.1::p.2)else p
theorem Qw{c}:cl (fW c)=ae:=by unfold fW;obtain _|_:=aX c 45<;>decide
section
variable{h pre rest:af ah}{ln cl tn d:ag}{r:af ag}{q:af IV}{us:af IV}{c fo:ah}
theorem BJ{d}:aQ (d::r)=aQ r++[.int d]:=by unfold aQ;simp only[Xn,iq];rfl
theorem lu:(aQ r).length=r.length:=by unfold aQ;simp only[bF,Xm]
theorem GZ{ρ}(e:ρ.i 0=0){l us:af IV}(x:l.map dF=us.map aa)(a:(us.all λ u=>u.dH.all fC)=ae):rl ρ l=l.map (re ρ)/\(l.map (re ρ)).map dF=(us.map (re ρ)).map aa:=by
 induction us generalizing l with
 |nil=>cases l with|nil=>exact⟨rfl,rfl⟩|cons=>cbv
 |cons u us f=>
  obtain _|⟨t,l⟩:=l
  ·cbv
  ·refine bg (kE x) λ b g=>?_;refine bg (f g (aP a)) λ i j=>?_;refine⟨by rw[lA (by obtain⟨c,x,_⟩:=uw b;rw[pk x];rfl),i];rfl,?_⟩;show dF (re ρ t)::(l.map (re ρ)).map dF=aa (re ρ u)::(us.map (re ρ)).map aa;simp only[j,HB e b (aH a)]
theorem UD(x:c∈[45,63,58])(e:fo∈[32,10,0])(a b:al):(⟨c,fo,a,b⟩:C1)∈Fj:=
 List.mem_flatMap.mpr ⟨c,x,List.mem_flatMap.mpr ⟨fo,e,List.mem_map.mpr ⟨(a,b),by obtain _|_:=a<;>obtain _|_:=b<;>decide,rfl⟩⟩⟩
theorem Vv:(Fj.all λ x=>dI [x.c,x.fo]&&(x.tup.all λ u=>u.dH.all fC))=ae:=∅
theorem PO(I:c∈[45,63,58])(J:fo∈[32,10,0])(t:pre++([c,fo]++rest)=h)(u:h.length<=1000)(g:r.length<=900)(w:q.length<=900)(M:d<=cl)(N:q.map dF=us.map aa):
  ∃y,DC (sF h pre.length ln cl 0 q tn d (aQ r) ae []) y/\∀{got z X},bX (got++(us++yG c ln cl d)) (sF h ((pre++[c]).length:ah) ln (cl+1) 0 [] (tn+(us++yG c ln cl d).length) (dy cl (d,r)).1 (aQ (dy cl (d,r)).2) ae []) z X->bX got y z X:=by
 refine aB λ Y O=>?_;have i:=UD I J (decide (d<cl)) (decide (cl=0));have e:=List.map_inj_left.mp ca1 _ i;refine bg (xD e) ?_;clear e;intro e j;have l:=bP Vv i;have H:=CK (ln:=ln) (tn:=tn) (g:=[]) (vQ u t) (by rw[lu];exact aj g ⋯) (aj w ⋯) (cg _) M NB;have f:(rX pre.length ln cl tn d q.length pre rest (aQ r) q []).i 0=0:=rfl;refine bg (GZ f j (aP l)) λ A m=>?_;have n:dI [c,fo]=ae:=(aH l)
 refine O ?_;generalize b:rX pre.length ln cl tn d q.length pre rest (aQ r) q []=a at*;generalize o:(⟨c,fo,decide (d<cl),decide (cl=0)⟩:C1)=x at*;have D:DC (bl a (aa (cY (uS 0::([c,fo]++[uS 1])) (sy 1 0) (sy 2 0) (sy 3 0) ai 0 [uL 2] (sy 4 0) (sy 5 0) [uL 1] ae []))) (bl a (aa (cY (uS 0::([c,fo]++[uS 1])) (sy 1 1) (sy 2 0) (sy 3 1) ai 0 (uL 2::(resT x.run).tail) (sy 4 0) (bif decide (d<cl)then sy 3 0 else sy 5 0) (bif decide (d<cl)then[uL 1,.int (sy 5 0)]else[uL 1]) ae []))):=by
  clear m A l j i;subst o;exact DC.g H e
 have Q:x.tup.map (re a)=yG c ln cl d:=by
  refine o▸?_;show((bif decide (d<cl)then[atT (fW c) .none (sy 2 0) (sy 3 0) (sy 3 0)]else[])++[atT (.str [c]) .none (sy 2 0) (sy 3 0) (sy 3 0+1)]).map (re a)=_;have B:a.i 2=ln:=by rw[<-b];rfl
  have C:a.i 3=cl:=by rw[<-b];rfl
  have T:∀{k v},Internal.cl k=ae->Internal.cl v=ae->re a (atT k v (sy 2 0) (sy 3 0) (sy 3 0))=atT k v ln cl cl:=λ U hv=>by rw[Ar f U hv,aU ⋯,aU ⋯,B,C,aO,aO]
  have V:Internal.cl (.str [c])=ae:=by show dI [c]=ae;show(cV c cM&&ae)=ae;rw[show cV c cM=ae from(aH n)];rfl
  have E:re a (atT (.str [c]) .none (sy 2 0) (sy 3 0) (sy 3 0+1))=kI c ln cl:=by rw[Ar f V rfl,aU ⋯,aU ⋯,Eb ⋯,B,C,aO,aO];rfl
  unfold yG;obtain _|_:=decide (d<cl)
  ·show[re a _]=_;rw[E];rfl
  ·show[re a _,re a _]=_;rw[T Qw rfl,E];rfl
 rw[Q]at m;have Z:a.i 4=tn:=by rw[<-b];rfl
 have p:a.i 5=d:=by rw[<-b];rfl
 have s:a.l 1=aQ r:=by rw[<-b];rfl
 have l2:a.l 2=q:=by rw[<-b];rfl
 have p1:ri a (bif decide (d<cl)then sy 3 0 else sy 5 0)=(dy cl (d,r)).1:=by
  unfold dy;obtain _|_:=decide (d<cl)
  ·show ri a (sy 5 0)=d;rw[aU ⋯,p,aO]
  ·show ri a (sy 3 0)=cl;rw[aU ⋯,<-b];exact aO _
 have p2:rl a (bif decide (d<cl)then[uL 1,.int (sy 5 0)]else[uL 1])=aQ (dy cl (d,r)).2:=by
  unfold dy;obtain _|_:=decide (d<cl)
  ·show rl a [uL 1]=aQ r;rw[fq,s];exact bC _
  ·show rl a [uL 1,.int (sy 5 0)]=aQ (d::r);simp only[fq,s,BJ];show _++[IV.int (ri a (sy 5 0))]=_;rw[aU ⋯,p,aO]
 rw[<-b,CD n ⋯,CD n ⋯,b,t,fq,fq,fq,A,aU ⋯,aU ⋯,my f ⋯,p1,p2,Z,p,s,l2]at D;have D:DC (sF h (pre.length+0) ln (cl+0) 0 (q++[]) (tn+0) (d+0) (aQ r++[]) ae []) (sF h (pre.length+1) ln (cl+1) 0 (q++(resT x.run).tail.map (re a)) (tn+0) (dy cl (d,r)).1 (aQ (dy cl (d,r)).2) ae []):=D;simp only[aO,bC]at D;refine aL _ D (λ L=>?_);have hn:(resT x.run).tail.length<=2:=by
  have:=aD xC j;simp only[bF,bF]at this;rw[this];refine o▸?_;show((bif decide (d<cl)then[_]else[])++[_]:af IV).length<=2;cases decide (d<cl)with|true=>exact ca 2|false=>exact jF 1
 rw[xN]at L;refine Jz u ?_ ?_ ?_ L
 ·rw[lu];unfold dy;cases decide (d<cl)with|true=>exact aj (gY g) ⋯|false=>exact aj g ⋯
 ·rw[bp,bF];exact aj (cU w ‹_›) ⋯
 ·simp only[iq,iq,N,m]
end
section
variable{h pre rest:af ah}{ln cl tn d:ag}{r:af ag}{q:af IV}{us:af IV}{j:ah}{fo:af ah}
theorem Nn(x:j∈gi 10)(a:fo∈rV j)(lt:al):(⟨j,fo,lt⟩:C2)∈vq:=
 List.mem_flatMap.mpr (aL j x (List.mem_flatMap.mpr ⟨fo,a,by cases lt with|true=>exact .head _|false=>exact .tail _ (.head _)⟩))
theorem bs6(x:j∈gi 10)(a:fo∈rV j):(⟨j,fo,ae⟩:C2)∈vA:=
 List.mem_flatMap.mpr (aL j x (List.mem_map.mpr ⟨fo,a,rfl⟩))
noncomputable def OS(x:C2):al:=dI (bO x.j++x.fo)&&((x.tup.all λ u=>u.dH.all fC)&&((ed x.j).all Ts&&(eE x.len 100&&(eE x.tup.length 100&&cV 0 x.len))))
theorem Zx:vq.all OS=ae:=∅
theorem bl4:vA.all OS=ae:=∅
noncomputable abbrev rY(h pre rest:af ah)(ln cl tn d:ag)(r:af ag)(q:af IV):fg:=rX pre.length ln cl tn d q.length pre rest (aQ r) q []
theorem tK{x:C2}(f:dI (bO x.j++x.fo)=ae)(g:pre++(bO x.j++(x.fo++rest))=h){k a b tk ask c}(i:-1000000<=k/\k<=1000000)(l:-1000000<=a/\a<=1000000):
  bl (rY h pre rest ln cl tn d r q) (hO x.dm k a ask tk b c)=sF h (pre.length+k) ln (cl+k) a (rl (rY h pre rest ln cl tn d r q) tk) (ri (rY h pre rest ln cl tn d r q) b) d (aQ r) ask (rd (rY h pre rest ln cl tn d r q) c):=by
 unfold hO;have e:x.dm=(bO x.j++x.fo)++[uS 1]:=(bB ..).symm;rw[e,CD f i,my rfl l,aU ⋯,fq,bB (bO x.j),g];show sF h (pre.length+k) ln (cl+k) a _ _ (d+0) (aQ r++[]) ask _=_;rw[aO,bC]
theorem Ik{x:C2}(a:dI (bO x.j++x.fo)=ae)(b:pre++(bO x.j++(x.fo++rest))=h):rd (rY h pre rest ln cl tn d r q) [(0,x.key)]=[fj (tn+q.length) (!x.lt) pre.length ln cl h]:=by
 have e:x.dm=(bO x.j++x.fo)++[uS 1]:=(bB ..).symm;show[(0,re _ (jn _ _ _ _ _ _))]=[(0,_)];rw[Bb rfl,kP,e,tU,kB a,kP,aU ⋯,aU ⋯,aU ⋯,aU ⋯];show[(0,jn (tn+q.length+0) _ (pre.length+0) (ln+0) (cl+0) (pre++((bO x.j++x.fo)++(rest++[]))))]=_;simp only[bC,bB (bO x.j),b,aO,aO,aO,aO]
theorem zZ{b}:-1000000<=(bif b then 1 else 0:ag)/\(bif b then 1 else 0:ag)<=1000000:=by obtain _|_:=b<;>decide
theorem Tj{x:C2}(f:x∈vq)(w:x.lt=decide (d<cl))(a:pre++(bO x.j++(x.fo++rest))=h)(i:h.length<=1000)(k:r.length<=900)(l:q.length<=900)(y:d<=cl)(m:q.map dF=us.map aa):
  ∃n o,DC (sF h pre.length ln cl 0 q tn d (aQ r) ae []) n/\o.map dF=(eU ln cl (ed x.j)).map aa/\∀{got p s},bX (got++us) (sF h (pre.length+(x.len:ah)) ln (cl+(x.len:ah)) 0 o (tn+us.length) d (aQ r) ai [fj (tn+us.length) (!x.lt) pre.length ln cl h]) p s->bX got n p s:=by
 refine aB λ Y z=>?_;refine bg (xD (List.map_inj_left.mp bl8 _ f)) λ X A=>?_;refine bg (xD (List.map_inj_left.mp XN _ f)) λ B C=>?_;refine dG (bP Zx f) λ b g=>?_;revert g;refine aV λ E=>aV λ I=>aV λ J g=>?_;have T:=eQ (aH g);have H:=CK (ln:=ln) (tn:=tn) (g:=[]) (vQ i (by rw[bB];exact a:pre++((bO x.j++x.fo)++rest)=h)) (by rw[lu];exact aj k ⋯) (aj l ⋯) (cg _) y eI;rw[<-w]at H;revert A;refine aV λ c t=>?_;have c:=bE c;have e:us.length=q.length:=by have:=aD xC m;simp only[bF,bF]at this;exact this.symm
 have D:DC (bl (rY h pre rest ln cl tn d r q) (hO x.dm 0 0 ae [uL 2] (sy 4 0) [])) (bl (rY h pre rest ln cl tn d r q) (hO x.dm (jy x.d1) (bif x.fm then 1 else 0) x.fm (uL 2::(resT x.d1).tail) (sy 4 0) [(0,x.key)])):=DC.g H X;have u:rl (rY h pre rest ln cl tn d r q) (resT x.d1).tail=(resT x.d1).tail.map (re (rY h pre rest ln cl tn d r q)):=jZ (aH t);rw[tK b a ⋯ ⋯,tK b a (qy c ⋯ ⋯) zZ,Ik b a,fq,fq,u,aU ⋯]at D;have D:DC (sF h (pre.length+0) ln (cl+0) 0 (q++[]) (tn+0) d (aQ r) ae []) (sF h (pre.length+jy x.d1) ln (cl+jy x.d1) (bif x.fm then 1 else 0) (q++(resT x.d1).tail.map (re (rY h pre rest ln cl tn d r q))) (tn+0) d (aQ r) x.fm [fj (tn+q.length) (!x.lt) pre.length ln cl h]):=D;simp only[aO,bC]at D;refine bg (GZ (ρ:=rY h pre rest ln cl tn d r q) rfl C E) λ M N=>?_;refine z ?_;refine gm _ _ D (N.trans (by rw[show x.tup.map (re (rY h pre rest ln cl tn d r q))=eU ln cl (ed x.j)from SV rfl I])) (λ L=>?_);rw[<-e];refine ZX zZ i (by rw[lu];exact aj k ⋯) (by rw[me,Cm];exact bH c.2 ⋯) (by simp only[bp,bF,(mS (aP t))];exact eK l ⋯) m ?_;have v:ri (rY h pre rest ln cl tn d r q) (sy 7 0)=tn+us.length:=by rw[aU ⋯,e];exact aO _
 have O:bl (rY h pre rest ln cl tn d r q) (hO x.dm (jy x.d1) (bif x.fm then 1 else 0) x.fm (resT x.d1).tail (sy 7 0) [(0,x.key)])=sF h (pre.length+jy x.d1) ln (cl+jy x.d1) (bif x.fm then 1 else 0) ((resT x.d1).tail.map (re (rY h pre rest ln cl tn d r q))) (tn+us.length) d (aQ r) x.fm [fj (tn+us.length) (!x.lt) pre.length ln cl h]:=by
  rw[tK b a (qy c ⋯ ⋯) zZ,Ik b a,u,v,e]
 have Q:bl (rY h pre rest ln cl tn d r q) (hO x.dm x.len 0 ai x.nV (sy 7 0) [(0,x.key)])=sF h (pre.length+(x.len:ah)) ln (cl+(x.len:ah)) 0 (x.nV.map (re (rY h pre rest ln cl tn d r q))) (tn+us.length) d (aQ r) ai [fj (tn+us.length) (!x.lt) pre.length ln cl h]:=by
  rw[tK b a (AI (eQ J) ⋯ ⋯) ⋯,Ik b a,M,v,e]
 have W:=KI H B (by rw[show rl _ ([],hO x.dm x.len 0 ai x.nV (sy 7 0) [(0,x.key)]).1=[]from rfl,bC];exact Q▸L);rw[show rl _ (([],hO x.dm (jy x.d1) (bif x.fm then 1 else 0) x.fm (resT x.d1).tail (sy 7 0) [(0,x.key)]):af IV×St).1=[]from rfl,bC]at W;exact O▸W
end
section
variable{h pre rest:af ah}{ln cl tn d:ag}{r:af ag}{us:af IV}
theorem be7{x}(g:x∈vA)(U:x.lt=ae)(c:pre++(bO x.j++(x.fo++rest))=h)(z:h.length<=1000)(X:r.length<=900)(n:d<cl):
  ∃o,DC (sF h pre.length ln cl 0 [] tn d (aQ r) ai []) o/\∀{got i j},bX (got++eU ln cl (ed x.j)) (sF h (pre.length+(x.len:ah)) ln (cl+(x.len:ah)) 0 [] (tn+(eU ln cl (ed x.j)).length) d (aQ r) ai []) i j->bX got o i j:=by
 refine aB λ Y A=>?_;refine bg (xD (List.map_inj_left.mp I6 _ g)) λ B C=>?_;refine dG (bP bl4 g) λ e k=>?_;revert k;refine aV λ V=>aV λ E=>aV λ m k=>?_;have m:=eQ m;have H:=CK (ln:=ln) (tn:=tn) (inds:=aQ r) (q:=[]) (g:=[]) (vQ z (by rw[bB];exact c:pre++((bO x.j++x.fo)++rest)=h)) (by rw[lu];exact aj X ⋯) (cg _) (cg _) (mc n) eI;rw[bK n]at H;revert C;refine aV λ f I=>?_;have f:=bE f;have D:DC (bl (rY h pre rest ln cl tn d r []) (hO x.dm 0 0 ai [uL 2] (sy 4 0) [])) (bl (rY h pre rest ln cl tn d r []) (hO x.dm (jy (C3.d1 x)) (bif x.fm then 1 else 0) x.fm (uL 2::(resT (C3.d1 x)).tail) (sy 4 0) [])):=DC.g H B;have p:rl (rY h pre rest ln cl tn d r []) (resT (C3.d1 x)).tail=(resT (C3.d1 x)).tail.map (re (rY h pre rest ln cl tn d r [])):=jZ (aH I);rw[tK e c ⋯ ⋯,tK e c (qy f ⋯ ⋯) zZ,fq,fq,p,aU ⋯]at D;have D:DC (sF h (pre.length+0) ln (cl+0) 0 [] (tn+0) d (aQ r) ai []) (sF h (pre.length+jy (C3.d1 x)) ln (cl+jy (C3.d1 x)) (bif x.fm then 1 else 0) ((resT (C3.d1 x)).tail.map (re (rY h pre rest ln cl tn d r []))) (tn+0) d (aQ r) x.fm []):=D;simp only[aO]at D;have s:x.tup.map (re (rY h pre rest ln cl tn d r []))=eU ln cl (ed x.j):=SV rfl E;have en:(eU ln cl (ed x.j)).length=x.tup.length:=by simp only[<-s,bF]
 have J:rl (rY h pre rest ln cl tn d r []) x.tup=x.tup.map (re (rY h pre rest ln cl tn d r [])):=by
  refine jZ (List.all_eq_true.mpr λ u M=>?_);refine aG (List.mem_map.mp M) λ t Y N=>N▸?_;rcases q:(t.dH.bind λ l=>(two (l.take 2)).bind λ v=>(two (l.drop 2)).bind λ y=>y.1.cn.bind λ a=>y.2.cn.map λ b=>atT v.1 v.2 (sy 2 0) (sy 3 0+a) (sy 3 0+b))with _|w
  ·rfl
  ·revert q;refine av λ Y Y=>av λ Y Y=>av λ Y Y=>av λ Y Y=>dQ λ Y Y O=>?_;subst O;rfl
 refine A ?_;refine aL _ D (λ{got i j} L=>?_);have Q:bl (rY h pre rest ln cl tn d r []) (hO x.dm (jy (C3.d1 x)) (bif x.fm then 1 else 0) x.fm (resT (C3.d1 x)).tail (sy 7 0) [])=sF h (pre.length+jy (C3.d1 x)) ln (cl+jy (C3.d1 x)) (bif x.fm then 1 else 0) ((resT (C3.d1 x)).tail.map (re (rY h pre rest ln cl tn d r []))) tn d (aQ r) x.fm []:=by
  rw[tK e c (qy f ⋯ ⋯) zZ,p,aU ⋯];show sF h _ ln _ _ _ (tn+0+0) d _ _ _=_;rw[aO,aO];rfl
 have T:bl (rY h pre rest ln cl tn d r []) (hO x.dm x.len 0 ai [] (sy 7 x.tup.length) [])=sF h (pre.length+(x.len:ah)) ln (cl+(x.len:ah)) 0 [] (tn+(eU ln cl (ed x.j)).length) d (aQ r) ai []:=by
  rw[tK e c (AI m ⋯ ⋯) ⋯,aU (AI (eQ (aH k)) ⋯ ⋯),en];show sF h _ ln _ _ _ (tn+0+_) d _ _ _=_;rw[aO];rfl
 have W:=KI H (List.map_inj_left.mp F3 _ g) (by rw[J.trans s];exact T▸L);rw[show rl _ (([],hO x.dm (jy (C3.d1 x)) (bif x.fm then 1 else 0) x.fm (resT (C3.d1 x)).tail (sy 7 0) []):af IV×St).1=[]from rfl,bC]at W;exact Q▸W
theorem ab3{c fo}(x:c∈[45,63,58])(a:fo∈[32,10,0]):(⟨c,fo,ae,ai⟩:C1)∈Ko:=
 List.mem_flatMap.mpr ⟨c,x,List.mem_map.mpr ⟨fo,a,rfl⟩⟩
theorem as3{c fo}(x:c∈[45,63,58])(a:fo∈[32,10,0]):dI [c,fo]=ae:=(aH (bP Vv (UD x a ae ae)))
theorem M4{c fo}(b:c∈[45,63,58])(f:fo∈[32,10,0])(g:pre++([c,fo]++rest)=h)(j:h.length<=1000)(k:r.length<=900)(i:d<cl)(l:cl≠0):
  ∃e,DX (sF h pre.length ln cl 0 [] tn d (aQ r) ai []) e/\lP e=aa ((ln,cl),none):=by
 refine aB λ Y a=>?_;have x:=List.map_inj_left.mp E6 _ (ab3 b f);have H:=CK (ln:=ln) (tn:=tn) (q:=[]) (g:=[]) (vQ j g) (by rw[lu];exact aj k ⋯) (cg _) (cg _) (mc i) NB;rw[bK i,gw l]at H;rcases q:C5.run ⟨c,fo,ae,ai⟩with _|w|w
 ·refine a ?_;rw[q]at x;cbv
 ·rw[q]at x;have D:DX (bl (rX pre.length ln cl tn d 0 pre rest (aQ r) [] []) (aa (cY (uS 0::([c,fo]++[uS 1])) (sy 1 0) (sy 2 0) (sy 3 0) ai 0 [] (sy 4 0) (sy 5 0) [uL 1] ai []))) (re (rX pre.length ln cl tn d 0 pre rest (aQ r) [] []) w.1):=DX.g H q;have:=CD (pre:=pre) (rest:=rest) (ln:=ln) (cl:=cl) (tn:=tn) (ind:=d) (inds:=aQ r) (q:=[]) (g:=[]) (fl:=0) (tnG:=sy 4 0) (indG:=sy 5 0) (tk:=[]) (is:=[uL 1]) (ask:=ai) (ks:=[]) (as3 b f) (k:=0) ⋯;rw[show([]:af IV).length=0 from rfl]at this;rw[this,fq,aU (t:=4) ⋯,aU (t:=5) ⋯,my (k:=0) rfl ⋯,g]at D;have D:DX (sF h (pre.length+0) ln (cl+0) 0 [] (tn+0) (d+0) (aQ r++[]) ai []) _:=D;simp only[aO,bC]at D;refine a ?_;refine aL _ D ((It x).trans ?_);show aa ((ri _ (sy 2 0),ri _ (sy 3 0)),none)=_;rw[aU ⋯,aU ⋯];exact aD (λ z=>aa (z,none)) (congr (aD Prod.mk (aO ln)) (aO cl))
 ·refine a ?_;rw[q]at x;cbv
end
section
variable{h pre rest:af ah}{ln cl tn d num idx kl kc:ag}{tk a:af IV}{ask:al}{o o':ak al}{r:af ag}{p:ag}
theorem MX{x b c}:cG aC .obj .iI (sF h p ln cl x tk tn c a ask b)=aa (.int cl):=∅
theorem SZ{c0 b}(e:h.length<=1000)(c:pre++c0::rest=h)(f:c0≠65279)(W:YS 11 gH ai wO (lF ai) (sA h tk tn d a o num idx kl kc pre ln cl ask) (.ok (.next,lF ae,b))):YM 18 .iv [.obj] (sA h tk tn d a o num idx kl kc pre ln cl ask) (.ok (.none,b)):=by
 refine Ev.le (D:=12) ?_ ⋯;refine YM.of (V:=lS) (y:=.ok (.next,lF ae,b)) ∅ ?_;rw[bi2];refine .cons (.gk ?_ .nil) (.cons (V':=lF ai) (.asg rfl .con rfl ∅) (.cons W .nil));have x:YT 11 (mF .iv).params ai (.cmp .Eq (fQ .pI) (.con (.int 0))) lS (sA h tk tn d a o num idx kl kc pre ln cl ask) (.ok (decide ((pre.length:ag)=0),sA h tk tn d a o num idx kl kc pre ln cl ask)):=.cmp (.self rfl U1) rfl .con rfl;by_cases q:(pre.length:ag)=0
 ·rw[bK q]at x;have hp:=Jj (d:=65279) (prm:=(mF .iv).params) (V:=lS) (tk:=tk) (tn:=tn) (ind:=d) (inds:=a) (o:=o) (num:=num) (idx:=idx) (kl:=kl) (kc:=kc) (ln:=ln) (cl:=cl) (ask:=ask) rfl (Ka e c) c;rw[gw f]at hp;exact .Dj x hp
 ·rw[gw q]at x;exact .UA x
theorem JF{S0 v n}(g:eg .iv S0=ae)(i:YM 18 .iv [.obj] S0 (.ok (v,sF h p ln cl 0 tk tn d (aQ r) ask (kR o num idx kl kc h))))(j:YM 18 .iP [.obj] (sF h p ln cl 0 tk tn d (aQ r) ask (kR o num idx kl kc h)) (.ok (n,sF h p ln cl 0 tk tn d (aQ r) ask (kR o' num idx kl kc h))))
  (q:h.length<=1000)(l:r.length<=900)(s:tk.length<=90)(t:∃x∈d::r,x<=cl):∃b c k,bt cl (d::r)=b::c/\(d::r).length=(b::c).length+k/\
   (∀{m},DC (sF h p ln cl 0 (tk++aJ k (kX (markV p ln cl h))) tn b (aQ c) ask (kR o' num idx kl kc h)) m->FC S0 m)/\∀{e},DX (sF h p ln cl 0 (tk++aJ k (kX (markV p ln cl h))) tn b (aQ c) ask (kR o' num idx kl kc h)) e->FX S0 e:=by
 refine aB λ Y y=>?_;refine eh (Vs (p:=p) (ln:=ln) (cl:=cl) (tn:=tn) (ask:=ask) (o:=o') (num:=num) (idx:=idx) (kl:=kl) (kc:=kc) (tk:=tk) q (aj l ⋯) (aj (cU s l) ⋯) t) λ b c k z H u=>?_;refine y ?_;refine oy b c k z H (λ f=>aI f λ w D=>⟨_,QZ i j MX (u.le ⋯) g ∅ ∅ D⟩) (λ f=>aI f λ w D=>⟨_,QZ i j MX (u.le ⋯) g ∅ ∅ D⟩)
end
section
variable{a pre rest:af ah}{ln cl tn d idx kc:ag}{r:af ag}{h us:af IV}
noncomputable def wD(n kc d:ag):af IV:=(bif decide (d<kc)then[atT (fW 0) .none n kc kc]else[])++[atT (.str [63]) .none n kc kc]
noncomputable abbrev r4(p:ah)(ln cl tn d kc idx:ag)(pre rest:af ah)(r:af ag)(h:af IV):fg:=iR [(p:ag),ln,cl,tn,d,0,0,kc,idx] [pre,rest] [[],aQ r,[],h]
theorem B8(x:(pre++rest).length<=1000)(b:r.length<=900)(c:h.length<=90):eZ (F4 (decide (d<kc))) (r4 pre.length ln cl tn d kc idx pre rest r h):=by
 rw[bp]at x;refine BL (all2 (Xk x) (all2 (Xl x) eI)) (all2 (cg _) (all2 (by rw[lu];exact aj b ⋯) (all2 (cg _) (all2 (aj c ⋯) eI)))) (all2 ?_ eI) eI (all2 ?_ eI) eI
 ·rw[aU ⋯,aU ⋯];exact aD aa (decide_eq_decide.mpr (by show d+0<kc+0↔_;rw[aO,aO]))
 ·rw[aU ⋯];exact aO _
theorem bf8{fo}(x:fo∈[32,10,0])(lt:al):(⟨fo,lt⟩:C4)∈Et:=List.mem_flatMap.mpr (aL fo x (by cases lt with|true=>exact .head _|false=>exact .tail _ (.head _)))
theorem by8:(Et.all λ x=>dI [58,x.fo]&&((x.tup.all λ u=>u.dH.all fC)&&(kI 58 (sy 2 0) (sy 3 0)).dH.all fC))=ae:=∅
theorem bw3{fo}(J:fo∈[32,10,0])(i:pre++([58,fo]++rest)=a)(w:a.length<=1000)(j:r.length<=900)(M:h.length<=90)(N:h.map dF=us.map aa):
  ∃y,DC (sF a pre.length ln cl 0 h tn d (aQ r) ai [fj tn (!decide (d<kc)) idx ln kc a]) y/\∀{got z H},bX (got++(wD ln kc d++us++[kI 58 ln cl])) (sF a ((pre++[58]).length:ah) ln (cl+1) 0 [] (tn+(wD ln kc d++us++[kI 58 ln cl]).length) (dy kc (d,r)).1 (aQ (dy kc (d,r)).2) ai []) z H->bX got y z H:=by
 refine aB λ Y O=>?_;have X:=bf8 J (decide (d<kc));refine bg (xD (List.map_inj_left.mp G2 _ X)) λ Q e=>?_;refine bg (xD e) ?_;clear e;intro e hv;refine dG (bP by8 X) λ f A=>?_;replace f:dI [58,fo]=ae:=f;have g:(r4 pre.length ln cl tn d kc idx pre rest r h).i 0=0:=rfl;refine bg (GZ g e (aH A)) λ T l=>?_;have m:=HB g hv (aP A);have B:(r4 pre.length ln cl tn d kc idx pre rest r h).i 2=ln:=rfl;have U:(r4 pre.length ln cl tn d kc idx pre rest r h).i 3=cl:=rfl;have n:(r4 pre.length ln cl tn d kc idx pre rest r h).i 5=d:=rfl;have C:(r4 pre.length ln cl tn d kc idx pre rest r h).i 8=kc:=rfl;have o:(r4 pre.length ln cl tn d kc idx pre rest r h).l 1=aQ r:=rfl;have V:(r4 pre.length ln cl tn d kc idx pre rest r h).l 3=h:=rfl;have b:rd (r4 pre.length ln cl tn d kc idx pre rest r h) [(0,jn (sy 4 0) (!decide (d<kc)) (sy 9 0) (sy 2 0) (sy 8 0) (uS 0::[58,fo,uS 1]))]=[fj tn (!decide (d<kc)) idx ln kc a]:=by
  show[(0,re _ (jn _ _ _ _ _ _))]=[(0,_)];rw[Bb rfl,kP,show[58,fo,uS 1]=[58,fo]++[uS 1]from rfl,tU,kB f,kP,aU ⋯,aU ⋯,aU ⋯,aU ⋯];show[(0,jn (tn+0) _ (idx+0) (ln+0) (kc+0) (pre++([58,fo]++(rest++[]))))]=_;simp only[bC,i,aO,aO,aO,aO]
 have E:∀{k p q s t},-1000000<=k/\k<=1000000->bl (r4 pre.length ln cl tn d kc idx pre rest r h) (aa (cY (uS 0::([58,fo]++[uS 1])) (sy 1 k) (sy 2 0) (sy 3 k) ai 0 p (sy 4 0) q s ai t))=sF a (pre.length+k) ln (cl+k) 0 (rl (r4 pre.length ln cl tn d kc idx pre rest r h) p) tn (ri (r4 pre.length ln cl tn d kc idx pre rest r h) q) (rl (r4 pre.length ln cl tn d kc idx pre rest r h) s) ai (rd (r4 pre.length ln cl tn d kc idx pre rest r h) t):=by
  intro k p q s t b;rw[yh rfl,kP,tU,kB f,kP,aU b,aU ⋯,aU b,aU ⋯,my rfl ⋯];show aa (cY (pre++([58,fo]++(rest++[]))) (pre.length+k) (ln+0) (cl+k) _ _ _ (tn+0) _ _ _ _)=_;simp only[bC,i,aO,aO]
 refine O ?_;generalize I:(⟨fo,decide (d<kc)⟩:C4)=x at*;have D:DC (bl (r4 pre.length ln cl tn d kc idx pre rest r h) (aa (cY (uS 0::([58,fo]++[uS 1])) (sy 1 0) (sy 2 0) (sy 3 0) ai 0 [uL 3] (sy 4 0) (sy 5 0) [uL 1] ai [(0,jn (sy 4 0) (!decide (d<kc)) (sy 9 0) (sy 2 0) (sy 8 0) (uS 0::[58,fo,uS 1]))])))
   (bl (r4 pre.length ln cl tn d kc idx pre rest r h) (aa (cY (uS 0::([58,fo]++[uS 1])) (sy 1 1) (sy 2 0) (sy 3 1) ai 0 (x.nV++[uL 3,x.val]) (sy 4 0) (bif decide (d<kc)then sy 8 0 else sy 5 0) (bif decide (d<kc)then[uL 1,.int (sy 5 0)]else[uL 1]) ai []))):=by
  clear m;subst I;exact DC.g (B8 (vQ w i) j M) Q
 have Z:x.tup.map (re (r4 pre.length ln cl tn d kc idx pre rest r h))=wD ln kc d:=by
  refine I▸?_;have u:∀{k v},Internal.cl k=ae->Internal.cl v=ae->re (r4 pre.length ln cl tn d kc idx pre rest r h) (atT k v (sy 2 0) (sy 8 0) (sy 8 0))=atT k v ln kc kc:=λ b hv=>by rw[Ar g b hv,aU ⋯,aU ⋯,B,C,aO,aO]
  unfold wD;obtain _|_:=decide (d<kc)
  ·show[re _ _]=_;rw[u rfl rfl];rfl
  ·show[re _ _,re _ _]=_;rw[u Qw rfl,u rfl rfl];rfl
 rw[Z]at l;replace hv:(ju x.val).isNone=ae:=by obtain⟨c,a0,_⟩:=uw hv;rw[pk a0];rfl
 have hw:re (r4 pre.length ln cl tn d kc idx pre rest r h) (kI 58 (sy 2 0) (sy 3 0))=kI 58 ln cl:=by
  show re _ (atT (.str [58]) .none (sy 2 0) (sy 3 0) (sy 3 0+1))=_;rw[Ar g ⋯ rfl,aU ⋯,aU ⋯,Eb ⋯,B,U,aO,aO];rfl
 rw[hw]at m;have p1:ri (r4 pre.length ln cl tn d kc idx pre rest r h) (bif decide (d<kc)then sy 8 0 else sy 5 0)=(dy kc (d,r)).1:=by
  unfold dy;obtain _|_:=decide (d<kc)
  ·show ri _ (sy 5 0)=d;rw[aU ⋯,n,aO]
  ·show ri _ (sy 8 0)=kc;rw[aU ⋯,C,aO]
 have p2:rl (r4 pre.length ln cl tn d kc idx pre rest r h) (bif decide (d<kc)then[uL 1,.int (sy 5 0)]else[uL 1])=aQ (dy kc (d,r)).2:=by
  unfold dy;obtain _|_:=decide (d<kc)
  ·simp only[fq,o];exact bC _
  ·show rl _ [uL 1,.int (sy 5 0)]=aQ (d::r);simp only[fq,o,BJ];show _++[IV.int (ri _ (sy 5 0))]=_;rw[aU ⋯,n,aO]
 rw[E ⋯,E ⋯,b,fq,fq,uk,fq,lA hv,T,p1,p2,o,V,aU ⋯,n]at D;replace D:DC (sF a (pre.length+0) ln (cl+0) 0 (h++[]) tn (d+0) (aQ r++[]) ai [fj tn (!decide (d<kc)) idx ln kc a]) (sF a (pre.length+1) ln (cl+1) 0 (x.nV.map (re (r4 pre.length ln cl tn d kc idx pre rest r h))++(h++[re (r4 pre.length ln cl tn d kc idx pre rest r h) x.val])) tn (dy kc (d,r)).1 (aQ (dy kc (d,r)).2) ai []):=D;simp only[aO,bC]at D;refine aL _ D (λ L=>?_);rw[xN]at L;have hn:x.nV.length<=2:=by
  have:=aD xC l;simp only[bF,bF,bF]at this;rw[this];unfold wD;cases decide (d<kc)with|true=>exact ca 2|false=>exact jF 1
 rw[<-bB];refine Jz w ?_ ?_ ?_ L
 ·rw[lu];unfold dy;cases decide (d<kc)with|true=>exact aj (gY j) ⋯|false=>exact aj j ⋯
 ·simp only[bp,bp,bF];exact(aj (gY (cU ‹_› ‹_›)) ⋯:x.nV.length+h.length+1<=1000)
 ·simp only[iq,iq,iq,iq,l,N];show _++[dF _]=_;rw[m];rfl
end
noncomputable abbrev ph:af Nm:=(mF .qF).params
noncomputable def pJ:af IS:=(mF .qF).body.drop 1
theorem Rq:(mF .qF).body=.expr (.bx (.var .bq) .qu [.con (.int (-1))] [])::pJ:=∅
theorem OH:nY=.asg .nu (iG .sd)::.iff (.cmp .Eq (.var .nu) (.con (.str [0]))) [.ret (aa (iG .qF))] []::nY.drop 2:=∅
noncomputable def gE(o:ak al)(ask h:al)(tk:af IV):St:=aa (cY [uS 0,uS 1] (sy 1 0) (sy 2 0) (sy 3 0) h 0 tk (sy 4 0) (sy 5 0) [uL 1] ask (kG [uS 1] o))
noncomputable def rQ(v:IV):IV:=.ba .Lb [(.tm,v),(.uo,v)]
theorem bo3(ask:al):(iW FZ aC ph (gC FZ aC (jU FZ) 60 8) 60).B pJ lS (gE none ask ai [uL 3])=.ok (.next,[(.bq,.obj),(.rW,mG)],gE none ai ae [uL 3,rQ mG]):=∅
theorem G7(ask:al):(iW FZ aC ph (gC FZ aC (jU FZ) 60 8) 60).B pJ lS (gE (aa ai) ask ai [uL 3])=.ok (.next,[(.bq,.obj),(.rW,mG)],gE none ai ae [uL 3,rQ mG]):=∅
noncomputable def Tn(ask:al):IV×Loc×St:=match(iW FZ aC ph (gC FZ aC (jU FZ) 60 8) 60).B pJ lS (gE (aa ae) ask ai [uL 3])with|.exc e=>e|_=>(.none,[],none)
theorem Ye(ask:al):(iW FZ aC ph (gC FZ aC (jU FZ) 60 8) 60).B pJ lS (gE (aa ae) ask ai [uL 3])=.exc (Tn ask):=∅
theorem ac1(ask:al):lP (Tn ask).1=aa ((sy 2 0,sy 3 0),aa (sy 9 0,sy 10 0)):=∅
section
variable{h pre:af ah}{p ln cl num idx kl kc tn d:ag}{tk inds:af IV}{ask:al}{o:ak al}{r:af ag}
theorem GK{x a}:bl (rU h p ln cl tn d 0 num idx kl kc 0 inds tk) (gE o ask x a)=aa (cY h p ln cl x 0 (rl (rU h p ln cl tn d 0 num idx kl kc 0 inds tk) a) tn d inds ask (kR o num idx kl kc h)):=by
 unfold gE;rw[yh rfl,ES,Vq,fq,aU ⋯,aU ⋯,aU ⋯,aU ⋯,aU ⋯,my rfl ⋯];show aa (cY h (p+0) (ln+0) (cl+0) _ _ _ (tn+0) (d+0) (inds++[]) _ _)=_;simp only[aO,aO,aO,aO,aO,bC]
theorem D1(x:h.length<=1000)(a:inds.length<=1000)(b:tk.length<=1000)(c:o≠aa ae):∃V,YB 11 ph ai pJ lS (sF h p ln cl 0 tk tn d inds ask (kR o num idx kl kc h)) (.ok (.next,V,aa (cY h p ln cl ae 0 (tk++[rQ (markV p ln cl h)]) tn d inds ai []))):=by
 have H:=JZ (p:=p) (ln:=ln) (cl:=cl) (tn:=tn) (ind:=d) (e:=0) (num:=num) (idx:=idx) (kl:=kl) (kc:=kc) (c:=0) x a b;have hv:rl (rU h p ln cl tn d 0 num idx kl kc 0 inds tk) [rQ mG]=[rQ (markV p ln cl h)]:=by show[IV.ba _ [(_,re _ mG),(_,re _ mG)]]=_;rw[EY];rfl
 have key:∀{g:St},(iW FZ aC ph (gC FZ aC (jU FZ) 60 8) 60).B pJ lS (gE o ask ai [uL 3])=.ok (.next,[(.bq,.obj),(.rW,mG)],gE none ai ae [uL 3,rQ mG])->∃V,YB 11 ph ai pJ lS (sF h p ln cl 0 tk tn d inds ask (kR o num idx kl kc h)) (.ok (.next,V,aa (cY h p ln cl ae 0 (tk++[rQ (markV p ln cl h)]) tn d inds ai []))):=λ{g} e=>by
  have:=YB.g (top:=ai) H e;simp only[GK,GK,fq,fq,hv]at this;have this:YB 11 ph ai pJ lS (sF h p ln cl 0 (tk++[]) tn d inds ask (kR o num idx kl kc h)) _:=this;rw[bC]at this;exact⟨_,this⟩
 clear x a b H hv;obtain _|_|_:=o
 ·exact key (g:=none) (bo3 ask)
 ·exact key (g:=none) (G7 ask)
 ·exact absurd rfl c
theorem ah6(x:h.length<=1000)(a:inds.length<=1000)(b:tk.length<=1000):∃e,YB 11 ph ai pJ lS (sF h p ln cl 0 tk tn d inds ask (kR (aa ae) num idx kl kc h)) (.exc e)/\lP e.1=aa ((ln,cl),aa (kl,kc)):=by
 have:=YB.gx (top:=ai) (JZ (p:=p) (ln:=ln) (cl:=cl) (tn:=tn) (ind:=d) (e:=0) (num:=num) (idx:=idx) (kl:=kl) (kc:=kc) (c:=0) x a b) (Ye ask);rw[GK,fq]at this;have this:YB 11 ph ai pJ lS (sF h p ln cl 0 (tk++[]) tn d inds ask (kR (aa ae) num idx kl kc h)) _:=this;rw[bC]at this;refine aL _ this ((It (ac1 ask)).trans ?_);show aa ((ri _ (sy 2 0),ri _ (sy 3 0)),aa (ri _ (sy 9 0),ri _ (sy 10 0)))=_;rw[aU ⋯,aU ⋯,aU ⋯,aU ⋯];show aa ((ln+0,cl+0),aa (kl+0,kc+0))=_;simp only[aO,aO,aO,aO]
theorem RW{z}(g:h.length<=1000)(m:pre++[0]=h)(c:YM 17 .qF [.obj] (sA h tk tn d inds o num idx kl kc pre ln cl ask) z):(∀{x},z=.ok (.none,x)->DC (sA h tk tn d inds o num idx kl kc pre ln cl ask) x)/\∀{e},z=.exc e->DX (sA h tk tn d inds o num idx kl kc pre ln cl ask) e.1:=by
 subst m;have i:YS 18 tV ai (.asg .nu (iG .sd)) lS (sA (pre++[0]) tk tn d inds o num idx kl kc pre ln cl ask) (.ok (.next,[(.bq,.obj),(.nu,.str [0])],sA (pre++[0]) tk tn d inds o num idx kl kc pre ln cl ask)):=
  .asg rfl (.kh rfl ∅ ∅ (Qh (by rw[bp]at g;exact aj (ck _ _) g))) rfl ∅
 have j:YT 18 tV ai (.cmp .Eq (.var .nu) (.con (.str [0]))) [(.bq,.obj),(.nu,.str [0])] (sA (pre++[0]) tk tn d inds o num idx kl kc pre ln cl ask) (.ok (ae,sA (pre++[0]) tk tn d inds o num idx kl kc pre ln cl ask)):=.cmp (.var rfl) rfl .con rfl;have l:YE 18 tV ai (iG .qF) [(.bq,.obj),(.nu,.str [0])] (sA (pre++[0]) tk tn d inds o num idx kl kc pre ln cl ask) z:=.kh rfl ∅ ∅ (c.le ⋯);constructor
 ·rintro x rfl;have:YB 18 tV ai nY lS (sA (pre++[0]) tk tn d inds o num idx kl kc pre ln cl ask) (.ok (.ret .none,[(.bq,.obj),(.nu,.str [0])],x)):=by
   rw[OH];exact .cons i (.fin mx (.jx j (.fin mx (.ret rfl l rfl))))
  exact⟨_,aI (this) λ k f=>⟨k,λ N d n a b c=>aD eW (f N d n a b c)⟩⟩
 ·rintro e rfl;have s:YS 18 tV ai (.ret (aa (iG .qF))) [(.bq,.obj),(.nu,.str [0])] (sA (pre++[0]) tk tn d inds o num idx kl kc pre ln cl ask) (.exc (e.1,[(.bq,.obj),(.nu,.str [0])],e.2)):=l.up λ N d n q=>by
   show aY _ (R.aw _ _) _=_;rw[q];rfl
  have:YB 18 tV ai nY lS (sA (pre++[0]) tk tn d inds o num idx kl kc pre ln cl ask) (.exc (e.1,[(.bq,.obj),(.nu,.str [0])],e.2)):=by
   rw[OH];exact .cons i (.exc (.jx j (.exc s)))
  exact⟨_,aI (this) λ k f=>⟨k,λ N d n a b c=>aD eW (f N d n a b c)⟩⟩
end
section
variable{h pre rest:af ah}{p ln cl num idx kl kc tn d:ag}{tk b:af IV}{ask:al}{o:ak al}{r:af ag}{got us:af IV}
theorem Se(j:h.length<=1000)(g:r.length<=90)(m:tk.length<=900)(t:∃x∈d::r,x<=-1):∃f c k,bt (-1) (d::r)=f::c/\(d::r).length=(f::c).length+k/\
  (o≠aa ae->YM 17 .qF [.obj] (sF h p ln cl 0 tk tn d (aQ r) ask (kR o num idx kl kc h)) (.ok (.none,aa (cY h p ln cl ae 0 (tk++aJ k (kX (markV p ln cl h))++[rQ (markV p ln cl h)]) tn f (aQ c) ai []))))/\
  (o=aa ae->∃e,YM 17 .qF [.obj] (sF h p ln cl 0 tk tn d (aQ r) ask (kR o num idx kl kc h)) (.exc e)/\lP e.1=aa ((ln,cl),aa (kl,kc))):=by
 refine aB λ Y n=>?_;refine eh (Vs (p:=p) (ln:=ln) (cl:=cl) (tn:=tn) (ask:=ask) (o:=o) (num:=num) (idx:=idx) (kl:=kl) (kc:=kc) (tk:=tk) j (aj g ⋯) (aj (cU m g) ⋯) t) λ f c k v i u=>?_;simp only[dh,dh]at i;have a:YS 16 ph ai (.expr (.bx (.var .bq) .qu [.con (.int (-1))] [])) lS (sF h p ln cl 0 tk tn d (aQ r) ask (kR o num idx kl kc h)) (.ok (.next,lS,sF h p ln cl 0 (tk++aJ k (kX (markV p ln cl h))) tn f (aQ c) ask (kR o num idx kl kc h))):=
  .expr (mX rfl) (.KO rfl ∅ ∅ .con rfl (u.le ⋯))
 have q:(aQ c).length<=1000:=by rw[lu];exact aj (Jv i) (aj g ⋯)
 have s:(tk++aJ k (kX (markV p ln cl h))).length<=1000:=by simp only[bp,gD];exact aj (cU m (aj (JI i) g)) ⋯
 refine n ?_;refine oy f c k v (by simp only[dh,dh];exact i) (λ l=>?_) (λ l=>?_)
 ·refine aI (D1 (p:=p) (ln:=ln) (cl:=cl) (num:=num) (idx:=idx) (kl:=kl) (kc:=kc) (tn:=tn) (d:=f) (inds:=aQ c) (ask:=ask) j q s l) λ V B=>?_;refine YM.of (D:=16) (V:=lS) (y:=.ok (.next,V,_)) ∅ ?_;rw[Rq];exact .cons a (B.le ⋯)
 ·clear u n Se;subst l;refine aG (ah6 (p:=p) (ln:=ln) (cl:=cl) (num:=num) (idx:=idx) (kl:=kl) (kc:=kc) (tn:=tn) (d:=f) (inds:=aQ c) (ask:=ask) j q s) λ e B w=>?_;refine aL (e.1,e.2.2) (YM.of (D:=16) (V:=lS) (y:=.exc e) ∅ ?_) w;rw[Rq];exact .cons a (B.le ⋯)
theorem ac5{c}:∀{us q tn got},q.length<=1000->q.map dF=us.map aa->bX got (aa (cY h p ln cl ae 0 q tn d b ask c)) (got++us) none:=by
 intro us;induction us with
 |nil=>
  intro q tn got _ x;obtain _|_:=q
  ·rw[bC];exact .fin (.no ∅ (Nw) rfl)
  ·cbv
 |cons u us e=>
  intro q tn got f x;obtain _|⟨t,q⟩:=q
  ·cbv
  ·refine bg (kE x) λ g x=>?_;have a:=Mw f;have:=e (got:=got++[u]) (tn:=tn+1) a x;rw[bB]at this;exact .Kn (.no ∅ (Nw) rfl) a g this
noncomputable def vF(cm:al)(x:af ah):af ah:=(bif cm then[35,10]else[])++nj x
noncomputable def Bm(cm:al)(x:af ah)(cl:ag)(c:ah):ag:=(bif cm||!x.isEmpty then 0 else cl)+(c:ag)
noncomputable def qj(cm:al)(x:af ah)(ln:ag):ag:=ln+((bif cm then 1 else 0:ah)+x.length:ah)
theorem at7{cm ks c x}(a:x∈mV):∃c0 f,vF cm ks++(aJ c 32++x::rest)=c0::f/\c0≠65279:=by
 obtain _|_:=cm
 ·obtain _|⟨k,ks⟩:=ks
  ·obtain _|c:=c
   ·exact gR x _ rfl (λ e=>by rw[e]at a;revert a;decide)
   ·exact gR 32 _ rfl ⋯
  ·obtain _|k:=k
   ·exact gR 10 _ rfl ⋯
   ·exact gR 32 _ rfl ⋯
 ·exact gR 35 _ rfl ⋯
theorem By{cm ks c x}(f:h.length<=1000)(g:b.length<=1000)(i:tk.length<=1000)(j:x∈mV)(a:pre++(vF cm ks++(aJ c 32++x::rest))=h):
  YM 18 .iv [.obj] (sA h tk tn d b o num idx kl kc pre ln cl ask) (.ok (.none,sA h tk tn d b o num idx kl kc (pre++(vF cm ks++aJ c 32)) (qj cm ks ln) (Bm cm ks cl c) (ask||(cm||!ks.isEmpty)))):=by
 refine cu (at7 (rest:=rest) (cm:=cm) (ks:=ks) (c:=c) j) λ c0 n e m=>?_;have l:=a;rw[e]at l;refine SZ f l m ?_;clear e;obtain _|_:=cm
 ·have:=PU (tn:=tn) (ind:=d) (o:=o) (num:=num) (idx:=idx) (kl:=kl) (kc:=kc) f g i j (ks:=ks) (pre:=pre) (ln:=ln) (cl:=cl) (ask:=ask) a;rw[show ln+(ks.length:ag)=qj ai ks ln by unfold qj;rw[VE];show _=ln+(0+_);rw[oM]]at this;clear a;obtain _|_:=ks
  ·exact this
  ·exact this
 ·have k:pre++35::10::(nj ks++(aJ c 32++x::rest))=h:=a;refine ad6 f g i k ?_;have:=PU (k:=c) (tn:=tn) (ind:=d) (o:=o) (num:=num) (idx:=idx) (kl:=kl) (kc:=kc) f g i j (ks:=ks) (pre:=pre++[35,10]) (ln:=ln+1) (cl:=0) (ask:=ae) (by rw[bB];exact k);rw[bB]at this;rw[show ln+1+(ks.length:ag)=qj ae ks ln by unfold qj;rw[VE];exact iK ..]at this;rw[show(ask||(ae||!ks.isEmpty))=ae from gz _];clear k a;obtain _|_:=ks
  ·exact this
  ·exact this
end
noncomputable def aF(k:ah):al:=cV k 10
noncomputable def bj(k:ah):af ah:=bif aF k then bO k else[k]
noncomputable def cC:al->af ah->af ah
 |_,[]=>[]
 |b,k::l=>(bif b then[32]else[])++(bj k++cC (!aF k) l)
noncomputable def fv:af ah->al
 |[]=>ai
 |[k]=>aX k 0||aX k 5
 |_::l=>fv l
noncomputable def cE(l:af ah):af ah:=bif fv l then[32,35]else[]
noncomputable abbrev Row:=ah×af ah
noncomputable def bb(x:Row):af ah:=aJ x.1 32++(cC ai x.2++cE x.2)
noncomputable def cJ(n at_:ag):IV:=atT (sS "<block end>") .none n at_ at_
noncomputable def mD(k:ah)(n at_:ag):af IV:=bif aF k then eU n at_ (ed k)else[kI k n at_]
noncomputable def hd(st:af ag):ag:=st.headD 0
noncomputable def bT(n:ag):ag->al->al->af ah->af ag->af IV->af ag×af IV×ak (ag×al)
 |_,_,_,[],st,h=>(st,h,none)
 |a,free,x,k::l,st,h=>
  bif free&&aF k&&(l.isEmpty&&decide (hd (bt a st)=a))then(bt a st,h++aJ (st.length-(bt a st).length) (cJ n a),aa (a,ae))else
  bif !aF k&&(!free&&!x)then(bt a st,h++aJ (st.length-(bt a st).length) (cJ n a),aa (a,ai))else
  bT n (a+(bj k).length+(bif aF k then 0 else 1)) (free&&!aF k) (free&&aF k&&!l.isEmpty) l
   (bif(free&&(!aF k||!l.isEmpty))&&decide (hd (bt a st)<a)then a::bt a st else bt a st)
   (h++aJ (st.length-(bt a st).length) (cJ n a)++(bif(free&&(!aF k||!l.isEmpty))&&decide (hd (bt a st)<a)then[atT (fW k) .none n a a]else[])++(bif free&&aF k&&!l.isEmpty then[atT (.str [63]) .none n a a]else[])++mD k n a)
noncomputable def di:af ag->Prop
 |[]=>xA
 |[x]=>x=-1
 |a::b::r=>b<a/\di (b::r)
theorem di.low{st}(h:di st):∃x∈st,x<=-1:=by
 induction st with
 |nil=>cbv
 |cons a r c=>
  obtain _|⟨b,r⟩:=r
  ·exact aL a (.head _) (Gv h)
  ·obtain⟨x,d,e⟩:=c h.2;exact aL x (.tail _ d) e
theorem di.len{d r}(h:di (d::r)):(r.length:ag)<=d+1:=by
 induction r generalizing d with
 |nil=>have:=h;rw[this];decide
 |cons b r x=>exact bH (Gy (x h.2) 1) (Gy h.1 1)
theorem di.bt{c}(x:-1<=c){st}(h:di st):di (bt c st)/\hd (bt c st)<=c:=by
 induction st with
 |nil=>cbv
 |cons d r a=>
  unfold Internal.bt;by_cases q:c<d
  ·rw[aT q];obtain _|⟨b,r⟩:=r
   ·exact absurd (lZ x q) (h▸Int.lt_irrefl _)
   ·exact a h.2
  ·rw[aM q];exact⟨h,Int.not_lt.mp q⟩
theorem di.push{d c r}(h:di (d::r))(x:d<c):di (c::d::r):=⟨x,h⟩
theorem ZE{st}(h:di st):bt (-1) st=[-1]:=by
 induction st with
 |nil=>cbv
 |cons d r x=>
  obtain _|⟨b,r⟩:=r
  ·have:=h;refine this.symm▸?_;rfl
  ·have a:∀{d r},di (d::r)->-1<=d:=λ h=>by have:=h.len;lia
   have:=a h.2;have:=h.1;exact(aT (by lia)).trans (x h.2)
section
variable{S0:St}{h p rest:af ah}{n cl tn d:ag}{ask:al}{q us got b:af IV}{r:af ag}{f:ak ((ag×ag)×ak (ag×ag))}
noncomputable def sX(S0:St)(h p:af ah)(n cl:ag)(ask:al)(q:af IV)(tn d:ag)(r:af ag):Prop:=
 eg .eB S0=ae/\eg .jP S0=ae/\eg .iv S0=ae/\(∃v,YM 19 .eB [.obj] S0 (.ok (v,S0))/\eO v=aa ae)/\
  ∃o num idx kl kc v x,YM 18 .iv [.obj] S0 (.ok (v,sF h p.length n cl 0 q tn d (aQ r) ask (kR o num idx kl kc h)))/\YM 18 .iP [.obj] (sF h p.length n cl 0 q tn d (aQ r) ask (kR o num idx kl kc h)) (.ok (x,sF h p.length n cl 0 q tn d (aQ r) ask []))
theorem RQ{x}:dF (kX (markV x n cl h))=aa (cJ n cl):=∅
theorem Jm(z:sX S0 h p n cl ask q tn d r)(H:h.length<=1000)(A:r.length<=900)(s:q.length<=90)(B:∃x∈d::r,x<=cl)(C:q.map dF=us.map aa):∃g c i,bt cl (d::r)=g::c/\c.length<=r.length/\i.length<=90+r.length/\i.map dF=(us++aJ ((d::r).length-(g::c).length) (cJ n cl)).map aa/\
  (∀{l},DC (sF h p.length n cl 0 i tn g (aQ c) ask []) l->∀{got b f},bX got l b f->bX got S0 b f)/\∀{e},DX (sF h p.length n cl 0 i tn g (aQ c) ask []) e->∀{got m},lP e=aa m->bX got S0 got (aa m):=by
 refine aB λ Y E=>?_;obtain⟨t,u,I,⟨v,w,y⟩,o,num,idx,kl,kc,v1,O,J,M⟩:=z;refine jY (JF (o':=none) I J M H A s B) λ g c k N j D X=>?_;simp only[dh,dh]at j;refine E ?_;refine bp6 g c (q++aJ k (kX (markV p.length n cl h))) N (Jv j) (by simp only[bp,gD];exact cU s (JI j)) ?_ (λ{l} a{_ _ _} L=>.rP t w y u (D a) L) (λ{e} a{_ _} m=>.Ea t w y u (X a) m);simp only[iq,iq,C,Co,Co,RQ,dh,dh,ac0 j]
theorem EH{pre c x}(i:x∈mV)(j:pre++(aJ c 32++x::rest)=h)(a:h.length<=1000)(k:r.length<=900):sX (sF h pre.length n cl 0 [] tn d (aQ r) ask []) h (pre++aJ c 32) n (cl+c) ask [] tn d r:=by
 have e:(aQ r).length<=1000:=by rw[lu];exact aj k ⋯
 have g:=By (tk:=[]) (o:=none) (num:=0) (idx:=0) (kl:=0) (kc:=0) (cm:=ai) (ks:=[]) (ln:=n) (cl:=cl) (tn:=tn) (d:=d) (ask:=ask) a e (cg _) i j;refine⟨by kernel_rfl,by kernel_rfl,by kernel_rfl,(aL _ Jr rfl),none,0,0,0,0,.none,.none,?_,(Fc ⋯ a e (cg _)).le ⋯⟩;simp only[show(ask||(ai||!([]:af ah).isEmpty))=ask from MF _,show qj ai [] n=n from aO _]at g;exact g
theorem bk1{pre c e idx kc}(w:pre++(58::rest)=h)(g:h.length<=1000)(m:r.length<=900)(o:c.length<=90)(y:c≠[])(s:(pre.length:ag)-idx<=1024)(z:∃x∈d::r,x<=cl)(hd:d<=cl):
  ∀{i},DC (sF h pre.length n cl 0 c tn d (aQ r) ai [fj tn e idx n kc h]) i->∀{got b f},bX got i b f->bX got (sF h pre.length n cl 0 c tn d (aQ r) ai [fj tn e idx n kc h]) b f:=by
 have j:(aQ r).length<=1000:=by rw[lu];exact aj m ⋯
 have l:c.length<=1000:=aj o ⋯;have t:=By (o:=aa e) (num:=tn) (idx:=idx) (kl:=n) (kc:=kc) (cm:=ai) (ks:=[]) (c:=0) (ln:=n) (cl:=cl) (tn:=tn) (d:=d) (ask:=ai) g j l (x:=58) ⋯ w;simp only[show pre++(vF ai []++aJ 0 32)=pre from bC _,show qj ai [] n=n from aO _,show Bm ai [] cl 0=cl from aO _]at t;obtain⟨B,C,k,u,v,D,X⟩:=JF (o':=aa e) ∅ t ((CL ⋯ g j l s).le ⋯) g m o z;have H:bt cl (d::r)=d::r:=aM (Int.not_lt.mpr hd);rw[H]at u;obtain⟨rfl,rfl⟩:=kE u;have A:k=0:=Nat.add_left_cancel (v.symm.trans (Nat.add_zero _).symm);clear X v;subst A;simp only[MG,bC]at D;exact λ{i} a{_ _ _} L=>.rP ∅ (CH ⋯ g j l y s) rfl ∅ (D a) L
end
section
variable{S0:St}{buf p G:af ah}{n cl tn d:ag}{ask:al}{q us got due:af IV}{r:af ag}{H:ak ((ag×ag)×ak (ag×ag))}{k:ah}{l:af ah}
inductive pH(w:ah)(buf G:af ah)(n:ag):af IV->af IV->af ag->ak ag->ag->al->St->Prop
 |a {pre:af ah} {due:af IV} {tn d cl:ag} {r:af ag} {ask cm:al} (h1:di (d::r)) (h2:d<=80) (h3:pre++(aJ w 32++((bif cm then[35]else[])++G))=buf):pH w buf G n due due (d::r) none cl cm (sF buf pre.length n cl 0 [] tn d (aQ r) ask [])
 |k {pre:af ah} {got us ts:af IV} {tn d cl idx kc:ag} {r:af ag} {cm:al} (h1:di (d::r)) (h2:d<=80) (h3:pre++(aJ w 32++((bif cm then[35]else[])++G))=buf) (h4:ts≠[]) (h5:ts.length<=10) (h6:ts.map dF=us.map aa) (h7:0<=idx):pH w buf G n got (got++us) (d::r) none cl cm (sF buf pre.length n cl 0 ts tn d (aQ r) ai [fj tn ai idx n kc buf])
 |r {pre:af ah} {due us ts:af IV} {tn d cl idx kc:ag} {r:af ag} {cm:al} (h1:di (d::r)) (h2:d<=80) (h3:pre++(aJ w 32++((bif cm then[35]else[])++G))=buf) (h4:ts≠[]) (h5:ts.length<=10) (h6:ts.map dF=us.map aa) (h7:0<=idx):pH w buf G n due due (d::r) (aa kc) cl cm (sF buf pre.length n cl 0 ts tn d (aQ r) ai [fj tn ae idx n kc buf])
noncomputable abbrev zb:=pH 0
theorem pH.qo{w cl cm st h S}(C:pH w buf G n got due st h cl cm S):di st/\hd st<=80:=by
 induction C<;>exact⟨by assumption,by assumption⟩
noncomputable def cK:af ah:=[45,63,58]
noncomputable def tb(l:af ah):al:=match l with
 |[]=>ae
 |[k]=>cV k 10||cK.contains k
 |[k,c]=>cV k 10&&aX c 58
 |_=>ai
noncomputable def iy:af ah->al
 |[]=>ae
 |k::l=>bif aF k then(l.isEmpty||(l.headD 0==58&&tb l.tail))else cK.contains k&&iy l
theorem ku(h:aF k=ae):k∈gi 10:=List.mem_range.mpr (Nat.blt_eq.mp h)
theorem vj:∀{k},(aF k=ae\/k∈cK)->∃x s,bj k=x::s/\x∈mV:=by
 intro k h;unfold bj;rcases q:aF k with _|_
 ·have h:=h.resolve_left (by rw[q];nofun);refine gR k ([]) rfl ?_;revert h;exact λ h=>(by decide:∀x∈cK,x∈mV) k h
 ·refine mB (bP (p:=λ j=>(bO j).head?.any λ x=>mV.contains x) ∅ (ku q)) λ x a b=>?_;show∃x s,bO k=x::s/\_;rcases e:bO k with _|⟨y,s⟩
  ·rw[e]at a;cbv
  ·rw[e]at a;cases a;exact gR x s rfl (List.contains_iff_mem.mp b)
noncomputable def bf(b:al):ah:=bif b then 1 else 0
theorem Qq{j}(x:aF j=ae){y G}(h:y∈[10,0]):∃fo R,fo∈rV j/\cE [j]++y::G=fo++R/\fo.contains 35=fv [j]/\fo.take (bf (fv [j]))=(bif fv [j]then[32]else[]):=by
 unfold cE fv rV;rcases q:aX j 0||aX j 5 with _|_
 ·obtain _|_:=aX j 1||(aX j 3||(aX j 4||(aX j 6||aX j 7)))
  ·exact qq ([]) (y::G) (.head _) rfl rfl rfl
  ·exact qq ([y]) G ((by decide:∀y∈[10,0],[y]∈[[58],[10],[0]]) y h) rfl (by revert h;exact λ h=>(by decide:∀y∈[10,0],[y].contains 35=ai) y h) rfl
 ·exact qq ([32,35]) (y::G) (.tail _ (.tail _ (.tail _ (.head _)))) rfl rfl rfl
theorem PM{j y G}(h:y∈[32,10,0]):∃fo R,fo∈rV j/\58::y::G=fo++R/\fo.contains 35=ai:=by
 unfold rV;rcases q:aX j 0||aX j 5 with _|_
 ·obtain _|_:=aX j 1||(aX j 3||(aX j 4||(aX j 6||aX j 7)))
  ·exact gm ([]) (58::y::G) (.head _) rfl rfl
  ·exact gm ([58]) (y::G) (.head _) rfl rfl
 ·exact gm ([58,y]) G ((by decide:∀y∈[32,10,0],[58,y]∈[[58,32],[58,10],[58,0],[32,35]]) y h) rfl ((by decide:∀y∈[32,10,0],[58,y].contains 35=ai) y h)
theorem NX{fo R pre c}(h:aF k=ae)(v:fo∈rV k)(j:pre++(aJ c 32++(bO k++(fo++R)))=buf)(a:buf.length<=1000)(o:di (d::r))(b:r.length<=90)(hd:d<cl+c)
  (K:∀{t u},t=pre++(aJ c 32++(bO k++fo.take (bf (fo.contains 35))))->bX (got++eU n (cl+c) (ed k)) (sF buf (t.length:ah) n (cl+c+((bO k).length+bf (fo.contains 35):ah)) 0 [] u d (aQ r) ai []) due H):bX got (sF buf pre.length n cl 0 [] tn d (aQ r) ai []) due H:=by
 refine aB λ Y w=>?_;refine cu (vj (.inl h)) λ x s e z=>?_;have e:bO k=x::s:=by unfold bj at e;rw[h]at e;exact e
 have f:=j;rw[e]at f;refine aG (o.low) λ y X A=>?_;refine HG (Jm (us:=[]) (EH (ask:=ai) (n:=n) (tn:=tn) z f a (aj b ⋯)) a (aj b ⋯) (cg _) (aL y X (bH (bH A ⋯) (bH (bH (dP _) o.len) hd))) rfl) λ T U B g C E I J Y=>?_;rw[show bt (cl+c) (d::r)=d::r from aM (Int.not_lt.mpr (mc hd))]at g;refine bg (kE g) λ M N=>?_;clear g;subst M;clear C;subst N;rw[uY]at I;refine w ?_;clear E;obtain _|_:=B
 ·refine aG (be7 (tn:=tn) (ln:=n) (bs6 (ku h) v) rfl (by rw[bB];exact j) a (aj b ⋯) (hd)) λ V D L=>?_;refine J D (L ?_);have i:((⟨k,fo,ae⟩:C2).len)=(bO k).length+bf (fo.contains 35):=rfl;have O:bf (fo.contains 35)<=fo.length:=by
   rcases q:fo.contains 35 with _|_
   ·exact cg _
   ·clear i L f;cases fo with|nil=>cases q|cons=>exact gY (cg _)
  have:=K (u:=tn+(eU n (cl+c) (ed k)).length) rfl;generalize bf (fo.contains 35)=m at*;have Q:(((pre++(aJ c 32++(bO k++fo.take m))).length:ah):ag)=(((pre++aJ c 32).length:ah):ag)+((⟨k,fo,ae⟩:C2).len:ah):=by
   rw[i];simp only[bp,uV,gD,Ga O];omega
  rw[Q]at this;rw[i]at this⊢;exact this
 ·cbv
theorem SQ{y G pre c}(f:k∈cK)(j:y∈[32,10,0])(g:pre++(aJ c 32++(k::y::G))=buf)(h:buf.length<=1000)(i:di (d::r))(a:r.length<=90)(hd:d<cl+c)(m:cl+c≠0):bX got (sF buf pre.length n cl 0 [] tn d (aQ r) ai []) got (aa ((n,cl+c),none)):=by
 refine aB λ Y o=>?_;refine aG (i.low) λ x s t=>?_;refine HG (Jm (us:=[]) (EH (ask:=ai) (n:=n) (tn:=tn) ((by decide:∀x∈cK,x∈mV) k f) g h (aj a ⋯)) h (aj a ⋯) (cg _) (aL x s (bH (bH t ⋯) (bH (bH (dP _) i.len) hd))) rfl) λ E I u b v w z Y X=>?_;rw[show bt (cl+c) (d::r)=d::r from aM (Int.not_lt.mpr (mc hd))]at b;refine bg (kE b) λ A B=>?_;clear b;subst A;clear v;subst B;rw[uY]at z;refine o ?_;clear w;obtain _|_:=u
 ·refine aG (M4 (tn:=tn) (ln:=n) f j (by rw[bB];exact g) h (aj a ⋯) (hd) m) λ e D C=>?_;exact X D C
 ·cbv
theorem rR{a free h st}:bT n a free h (k::l) st due=bif free&&aF k&&(l.isEmpty&&decide (hd (bt a st)=a))then(bt a st,due++aJ (st.length-(bt a st).length) (cJ n a),aa (a,ae))else
 bif !aF k&&(!free&&!h)then(bt a st,due++aJ (st.length-(bt a st).length) (cJ n a),aa (a,ai))else
 bT n (a+(bj k).length+(bif aF k then 0 else 1)) (free&&!aF k) (free&&aF k&&!l.isEmpty) l
  (bif(free&&(!aF k||!l.isEmpty))&&decide (hd (bt a st)<a)then a::bt a st else bt a st)
  (due++aJ (st.length-(bt a st).length) (cJ n a)++(bif(free&&(!aF k||!l.isEmpty))&&decide (hd (bt a st)<a)then[atT (fW k) .none n a a]else[])++(bif free&&aF k&&!l.isEmpty then[atT (.str [63]) .none n a a]else[])++mD k n a):=rfl
theorem PN{a st}(h:aF k=ae)(x:bt a st=st):bT n a ai ai (k::l) st due=bT n (a+(bO k).length) ai ai l st (due++eU n a (ed k)):=by
 rw[rR,h,x,uY];unfold bj mD;rw[h];show bT n (a+(bO k).length+0) ai ai l st (due++[]++[]++[]++eU n a (ed k))=_;rw[aO,bC,bC,bC]
theorem Uy{a st}(h:aF k=ai)(x:bt a st=st):bT n a ai ai (k::l) st due=(st,due,aa (a,ai)):=by
 rw[rR,h,x,uY];show(st,due++[],aa (a,ai))=_;rw[bC]
theorem ao4{k}(h:k∈cK):aF k=ai:=(by decide:∀k∈cK,aF k=ai) k h
theorem qi{k}(h:cK.contains k=ae):k∈cK:=List.contains_iff_mem.mp h
theorem br4{y G pre}(B:tb l=ae)(C:y∈[10,0])(x:pre++(cC ae l++(cE l++y::G))=buf)(g:buf.length<=1000)(b:di (d::r))(i:r.length<=90)(hd:d<cl)(E:d<=80)(I:0<=cl){D M}
  (s:∀{j f},bT n (cl+1) ai ai l (d::r) due=(j,f,none)->∀{J L N cm},zb buf (y::G) n J f j none N cm L->N+(bf cm:ag)=cl+((cC ae l++cE l).length:ah)->bX J L D M)
  (t:∀{j f a},bT n (cl+1) ai ai l (d::r) due=(j,f,aa (a,ai))->D=f/\M=aa ((n,a),none)):bX due (sF buf pre.length n cl 0 [] tn d (aQ r) ai []) D M:=by
 have m:∀{a},cl<=a->bt a (d::r)=d::r:=λ h=>aM (Int.not_lt.mpr (bH (mc hd) h));have u:y∈[32,10,0]:=.tail _ C;obtain _|⟨k,_|⟨c,_|⟨_,l⟩⟩⟩:=l
 ·exact s rfl (cm:=ai) (.a b E x) rfl
 ·rcases q:aF k with _|_
  ·have O:=qi ((gV B).resolve_left (by rw[show cV k 10=ai from q];nofun));refine bg (t (Uy q (m (mc (gj _))))) λ T U=>?_;clear t s;subst T;subst U;refine SQ (c:=1) O u ?_ g b i (by exact lZ (mc hd) (gj _)) (by exact uR (lZ I (gj _))) (G:=G);rw[<-x];have hS:bj k=[k]:=by unfold bj;rw[q];rfl
   have v:cE [k]=[]:=by unfold cE fv;rw[(by decide:∀k∈cK,(aX k 0||aX k 5)=ai) k O];rfl
   rw[v];show _=pre++(([32]++(bj k++[]))++_);rw[hS];rfl
  ·refine og (Qq (G:=G) q C) λ fo R w z o V=>?_;have hS:bj k=bO k:=by unfold bj;rw[q];rfl
   have Z:pre++(aJ 1 32++(bO k++(fo++R)))=buf:=by
    simp only[<-x,<-z];show _=pre++(([32]++(bj k++[]))++_);simp only[hS,bC,bB];rfl
   refine NX q w Z g b i (by exact lZ (mc hd) (gj _)) λ{A Q} e=>?_;simp only[o,V]at e;rw[o];refine s (by rw[PN q (m (mc (gj _)))];rfl) (cm:=fv [k]) (.a b E ?_) ?_
   ·simp only[e,<-x];show _=pre++(([32]++(bj k++[]))++_);simp only[hS,bC];unfold cE;obtain _|_:=fv [k]
    ·simp only[Xo,bB,bC,pY];rfl
    ·simp only[Xp,bB];rfl
   ·show cl+1+((bO k).length+bf (fv [k]):ah)+(bf (fv [k]):ag)=cl+((([32]++(bj k++[]))++cE [k]).length:ah);simp only[hS,bC,bp,bp];unfold cE bf;obtain _|_:=fv [k]
    ·exact(aO _).trans (iK _ _ _)
    ·exact(iK (cl+1) _ 1).trans (iK cl 1 _)
 ·revert B;refine aV λ q v=>?_;have q:aF k=ae:=q;obtain rfl:=mS v;refine dC (PM (j:=k) (G:=G) u) λ fo R w z o=>?_;have hS:bj k=bO k:=by unfold bj;rw[q];rfl
  have a0:cC ae [k,58]++(cE [k,58]++y::G)=aJ 1 32++(bO k++58::y::G):=by
   show(([32]++(bj k++((bif !aF k then[32]else[])++(bj 58++[]))))++([]++y::G))=_;simp only[hS,q];show([32]++(bO k++([]++([58]++[]))))++([]++y::G)=_;simp only[bB,pY,bC];rfl
  rw[a0]at x;refine bg (t ((PN q (m (mc (gj _)))).trans (Uy rfl (m (mc (sV (dP _))))))) λ a8 a9=>?_;refine a8▸?_;refine a9▸?_;refine NX q w (by rw[<-z];exact x) g b i (by exact lZ (mc hd) (gj _)) λ{A Q} e=>?_;rw[o]at e⊢;have e:A=pre++(aJ 1 32++(bO k++[])):=e;rw[bC]at e;have X:=SQ (got:=due++eU n (cl+1) (ed k)) (tn:=Q) (n:=n) (cl:=cl+1+((bO k).length+0:ah)) (c:=0) (k:=58) (pre:=A) (G:=G) ⋯ u (by simp only[e,<-x];simp only[bB];rfl) g b i (zI hd (bH (Ls (gj _)) (bH (sV (dP _)) (sV (dP _))))) (uR (zI (GC I) (bH (sV (dP _)) (sV (dP _)))));rw[show cl+1+((bO k).length+0:ah)+((0:ah):ag)=cl+1+((bO k).length:ag)from aO _]at X;exact X
 ·cbv
end
section
variable{h:af ah}{n a d:ag}{us got due:af IV}{r:af ag}{k:ah}{l:af ah}{st:af ag}
theorem Lp{d r a}:(bif decide (d<a)then a::d::r else d::r)=(dy a (d,r)).1::(dy a (d,r)).2:=by unfold dy;obtain _|_:=decide (d<a)<;>rfl
theorem Uw(x:aF k=ai)(b:bt a st=d::r):bT n a ae ai (k::l) st due=bT n (a+1+1) ae ai l ((dy a (d,r)).1::(dy a (d,r)).2) (due++aJ (st.length-(d::r).length) (cJ n a)++yG k n a d):=by
 rw[rR,x,b,<-Lp];delta mD bj;rw[x];show bT n (a+1+1) ae ai l _ (due++_++(bif decide (d<a)then _ else[])++[]++[kI k n a])=_;rw[bC,bB (due++_)];rfl
theorem bx5(x:aF k=ae)(b:bt a st=d::r):bT n a ae ai [k] st due=bif decide (d=a)then(d::r,due++aJ (st.length-(d::r).length) (cJ n a),aa (a,ae))else(d::r,due++aJ (st.length-(d::r).length) (cJ n a)++eU n a (ed k),none):=by
 rw[rR,x,b];unfold mD;rw[x];show(bif decide (d=a)then _ else(d::r,due++_++[]++[]++eU n a (ed k),none))=_;rw[bC,bC]
theorem bp3(x:aF k=ae):fW k=fW 0:=by
 unfold fW;rw[(by decide:∀j∈gi 10,aX j 45=ai) k (ku x)];rfl
theorem CE{a}(hd:d<=a):(dy a (d,r)).1<=a:=by
 unfold dy;obtain _|_:=decide (d<a)
 ·exact hd
 ·exact gj a
theorem Zh(x:aF k=ae)(c:bt a st=d::r)(hd:d<=a):bT n a ae ai (k::58::l) st due=bT n (a+(bO k).length+1+1) ai ai l ((dy a (d,r)).1::(dy a (d,r)).2) (due++aJ (st.length-(d::r).length) (cJ n a)++(wD n a d++eU n a (ed k)++[kI 58 n (a+(bO k).length)])):=by
 have e:∀{b},a<=b->bt b ((dy a (d,r)).1::(dy a (d,r)).2)=(dy a (d,r)).1::(dy a (d,r)).2:=λ f=>aM (Int.not_lt.mpr (bH (CE hd) f));rw[rR,x,c,<-Lp];delta mD bj;rw[x];show bT n (a+(bO k).length+0) ai ae (58::l) (bif decide (d<a)then a::d::r else d::r) (due++_++(bif decide (d<a)then[atT (fW k) .none n a a]else[])++[atT (.str [63]) .none n a a]++eU n a (ed k))=_;rw[Lp,aO,rR,e (sV (dP _)),uY];show bT n (a+(bO k).length+1+1) ai ai l _ (due++_++(bif decide (d<a)then[atT (fW k) .none n a a]else[])++[atT (.str [63]) .none n a a]++eU n a (ed k)++[]++[]++[]++[kI 58 n _])=_;rw[bp3 x];delta wD;simp only[bC,bB];rfl
theorem Ky(x:di (d::r))(hd:d<=a):di ((dy a (d,r)).1::(dy a (d,r)).2):=by
 unfold dy;by_cases q:d<a
 ·exact(bK q).symm▸x.push q
 ·exact(gw q).symm▸x
theorem yF:((gi 10).all λ j=>cV 0 (ed j).length&&(eE (ed j).length 10&&eE (bO j).length 100))=ae:=∅
variable{D:af IV}{M:ak ((ag×ag)×ak (ag×ag))}
theorem ca0(a x y:ag):a+x+1+y=a+(x+(y+1)):=by rw[iK (a+x),me 1 y,iK a]
theorem UP(a z:ag):a+1+1+z=a+(z+1+1):=(aD (·+z) (iK a 1 1)).trans ((iK a (1+1) z).trans (aD (a+·) ((me (1+1) z).trans (iK z 1 1).symm)))
theorem di.wW(x:di (d::r))(hd:d<=80):r.length<=81:=Int.ofNat_le.mp (bH x.len (Gy hd 1))
theorem di.Tc(b:di st)(c:0<=a):∃x∈st,x<=a:=aG b.low λ x e f=>(aL x e (bH (bH f ⋯) c))
theorem uz{p T}(x:h.length<=80)(b:p++T=h):p.length+T.length<=80:=bp▸(aD xC b).symm▸x
theorem ay3{y G}(hy:y∈[10,0])(h1:h.length<=80):∀{l k S0 p a q us tn d r got},iy (k::l)=ae->p++(bj k++(cC (!aF k) l++(cE (k::l)++y::G)))=h->sX S0 h p n a ae q tn d r->q.map dF=us.map aa->q.length<=90->di (d::r)->d<=80->0<=a->a<=p.length->
  (∀{o j},bT n a ae ai (k::l) (d::r) (got++us)=(o,j,none)->∀{w z v cm},zb h (y::G) n w j o none v cm z->v+(bf cm:ag)=a+((bj k++(cC (!aF k) l++cE (k::l))).length:ah)->bX w z D M)->
  (∀{o j H},bT n a ae ai (k::l) (d::r) (got++us)=(o,j,aa (H,ae))->∀{w z v cm},zb h (y::G) n w j o (aa H) v cm z->v+(bf cm:ag)=a+((bj k++(cC (!aF k) l++cE (k::l))).length:ah)->bX w z D M)->
  (∀{o j H},bT n a ae ai (k::l) (d::r) (got++us)=(o,j,aa (H,ai))->D=j/\M=aa ((n,H),none))->bX got S0 D M:=by
 intro l;have MI:∀{k}{l:af ah}{S0 p a q us tn d r T},p++(bj k++T)=h->sX S0 h p n a ae q tn d r->q.map dF=us.map aa->q.length<=90->di (d::r)->d<=80->0<=a->a<=p.length->∃f g Z,bt a (d::r)=f::g/\di (f::g)/\f<=a/\g.length<=81/\a<=80/\Z.length<=900/\Z.map dF=(us++aJ ((d::r).length-(f::g).length) (cJ n a)).map aa/\
   (∀{S4},DC (sF h p.length n a 0 Z tn f (aQ g) ae []) S4->∀{got due d8},bX got S4 due d8->bX got S0 due d8):=by
  intro k l S0 p a q us tn d r T t N O Q B U X I;have A:=B.wW U;refine HG (Jm N (aj h1 ⋯) (aj A ⋯) Q (B.Tc X) O) λ f g Z V J m L E Y=>?_;have hs:=B.bt (bH ⋯ X);rw[V]at hs;exact Y8 f g Z V hs.1 hs.2 (aj J A) (bH I (Int.ofNat_le.mpr (aj (ck _ _) (uz h1 t)))) (aj m (aj (ma A 90) ⋯)) L E
 have key:∀{k l S0 p a q us tn d r got},aF k=ae->iy (k::l)=ae->p++(bj k++(cC (!aF k) l++(cE (k::l)++y::G)))=h->sX S0 h p n a ae q tn d r->q.map dF=us.map aa->q.length<=90->di (d::r)->d<=80->0<=a->a<=p.length->
  (∀{o j},bT n a ae ai (k::l) (d::r) (got++us)=(o,j,none)->∀{w z v cm},zb h (y::G) n w j o none v cm z->v+(bf cm:ag)=a+((bj k++(cC (!aF k) l++cE (k::l))).length:ah)->bX w z D M)->
  (∀{o j H},bT n a ae ai (k::l) (d::r) (got++us)=(o,j,aa (H,ae))->∀{w z v cm},zb h (y::G) n w j o (aa H) v cm z->v+(bf cm:ag)=a+((bj k++(cC (!aF k) l++cE (k::l))).length:ah)->bX w z D M)->
  (∀{o j H},bT n a ae ai (k::l) (d::r) (got++us)=(o,j,aa (H,ai))->D=j/\M=aa ((n,H),none))->bX got S0 D M:=by
  intro k l S0 p a q us tn d r got i A t N O Q B U X I hK hR hF;refine La (MI (l:=l) t N O Q B U X I) λ f g Z V J m L E g6 g7 g8=>?_;have hS:bj k=bO k:=by unfold bj;rw[i];rfl
  have c9:=bP yF (ku i);have b9:=Nat.blt_eq.mp (aH c9);have d5:=eQ (aH ((aP c9)));have j3:=eQ (aP ((aP c9)));have d9:(eU n a (ed k)).length=(ed k).length:=by unfold eU;rw[bF]
  have b6:h.length<=1000:=aj h1 ⋯;replace A:(l.isEmpty||(l.headD 0==58&&tb l.tail))=ae:=by
   have:(bif aF k then(l.isEmpty||(l.headD 0==58&&tb l.tail))else cK.contains k&&iy l)=ae:=A;rw[i]at this;exact this
  obtain _|⟨c,l⟩:=l
  ·refine og (Qq (G:=G) i hy) λ fo R f1 f2 f3 f4=>?_;rw[hS]at t;have a0:p++(bO k++(fo++R))=h:=by rw[<-f2];exact t
   refine dC (Tj (tn:=tn) (ln:=n) (x:=⟨k,fo,decide (f<a)⟩) (Nn (ku i) f1 _) rfl a0 b6 (aj L ⋯) g6 m g7) λ S4 ts D4 b4 L4=>?_;have hm:(fo.take (bf (fv [k]))).length=bf (fv [k]):=by rw[f4];obtain _|_:=fv [k]<;>rfl
   have d6:(((p++(bO k++fo.take (bf (fv [k])))).length:ah):ag)=(p.length:ag)+(((⟨k,fo,decide (f<a)⟩:C2).len:ah):ag):=by
    simp only[bp,bp,hm];show _=(p.length:ag)+(((bO k).length+bf (fo.contains 35):ah):ag);rw[f3];exact rfl
   have a8:ts.length=(ed k).length:=by have:=aD xC b4;simp only[bF,bF]at this;exact this.trans d9
   have f5:(p++(bO k++fo.take (bf (fv [k]))))++((bif fv [k]then[35]else[])++y::G)=h:=by
    simp only[f4,<-t];show _=p++(bO k++([]++(cE [k]++y::G)));unfold cE;obtain _|_:=fv [k]
    ·simp only[Xo,bB,bC,pY]
    ·simp only[Xp,bB];rfl
   have a9:(a+(((⟨k,fo,decide (f<a)⟩:C2).len:ah):ag))+(bf (fv [k]):ag)=a+((bj k++(cC (!aF k) []++cE [k])).length:ah):=by
    rw[hS];show(a+(((bO k).length+bf (fo.contains 35):ah):ag))+(bf (fv [k]):ag)=a+((bO k++([]++cE [k])).length:ah);simp only[f3,pY,bp];unfold cE bf;obtain _|_:=fv [k]
    ·exact iK _ _ _
    ·exact iK _ _ _
   have f7:(0:ag)<=(p.length:ag):=dP _;have c7:ts≠[]:=λ e=>by rw[e]at a8;rw[<-a8]at b9;exact absurd b9 ⋯
   refine g8 D4 (L4 ?_);have u:=bx5 (n:=n) (due:=got++us) i V;rw[bB got us]at u;rw[<-d6];by_cases q:f=a
   ·rw[bK q]at u;rw[aD not (gw (Int.not_lt.mpr (Gv q.symm)))];exact hR u (.r J (bH m E) f5 c7 (a8▸d5) b4 f7) a9
   ·rw[gw q]at u;rw[aD not (bK (Int.lt_iff_le_and_ne.mpr ⟨m,q⟩))];exact hK u (.k J (bH m E) f5 c7 (a8▸d5) b4 f7) a9
  ·refine aB λ Y kK=>?_;refine dG ((gV A).resolve_left (by intro hQ;cbv)) λ hc hB=>?_;have j4:c=58:=cH hc;subst j4;replace hB:tb l=ae:=hB;have f9:cE (k::58::l)=cE l:=by obtain _|_:=l<;>rfl
   have b5:cC (!aF k) (58::l)=58::cC ae l:=by rw[i];rfl
   simp only[hS,f9,b5]at t;obtain⟨y2,T2,e2,g9⟩:∃y2 T2,cC ae l++(cE l++y::G)=y2::T2/\y2∈[32,10,0]:=by
    obtain _|_:=l
    ·exact gR y G rfl (.tail _ hy)
    ·exact gR 32 _ rfl (.head _)
   have i0:p++(bO k++(58::y2::T2))=h:=by rw[<-e2];exact t
   refine dC (PM (j:=k) (G:=T2) g9) λ fo R f1 f2 f3=>?_;refine dC (Tj (tn:=tn) (ln:=n) (cl:=a) (d:=f) (r:=g) (pre:=p) (rest:=R) (x:=⟨k,fo,decide (f<a)⟩) (Nn (ku i) f1 _) rfl (by rw[<-f2];exact i0) b6 (aj L ⋯) g6 m g7) λ S4 ts D4 b4 L4=>?_;replace a8:ts.length=(ed k).length:=by have:=aD xC b4;simp only[bF,bF]at this;exact this.trans d9
   replace c7:ts≠[]:=λ e=>by rw[e]at a8;rw[<-a8]at b9;exact absurd b9 ⋯
   have i6:(((⟨k,fo,decide (f<a)⟩:C2).len:ah):ag)=((bO k).length:ag):=by
    show((((bO k).length+bf (fo.contains 35)):ah):ag)=_;rw[f3];rfl
   replace d6:(p.length:ag)+(((⟨k,fo,decide (f<a)⟩:C2).len:ah):ag)=(((p++bO k).length:ah):ag):=by simp only[i6,bp];exact rfl
   have i9:ts.length<=90:=a8▸aj d5 ⋯;have b7:(p++bO k)++([58,y2]++T2)=h:=by rw[bB];exact i0
   refine aG (bw3 (ln:=n) (cl:=a+((bO k).length:ag)) (tn:=tn+((us++aJ ((d::r).length-(f::g).length) (cJ n a)).length:ah)) (d:=f) (idx:=(p.length:ag)) (kc:=a) (r:=g) g9 b7 b6 (aj L ⋯) i9 b4) λ S5 D5 L5=>?_;have b8:=Ky (a:=a) J m;have b0:=CE (r:=g) m;have j6:0<(bO k).length:=by
    refine cu (vj (.inl i)) λ x s e Y=>?_;simp only[<-hS,e];exact Cn _
   refine kK ?_;refine g8 D4 (L4 ?_);rw[d6,i6];refine bk1 b7 b6 (aj L ⋯) i9 c7 (by rw[bp];exact bH (Int.sub_left_le_of_le_add (gj _)) (Int.ofNat_le.mpr (aj j3 ⋯))) (J.Tc (qY X (dP _))) (bH m (sV (dP _))) D5 (L5 ?_);replace u:=Zh (n:=n) (l:=l) (due:=got++us) i V m;rw[bB got us]at u;refine br4 (n:=n) (cl:=a+((bO k).length:ag)+1) (d:=(dy a (f,g)).1) (r:=(dy a (f,g)).2) hB hy (by rw[<-t];simp only[bB];rfl) b6 b8 (aj (b8.wW (bH b0 E)) ⋯) (GC (bH b0 (sV (dP _)))) (bH b0 E) (qY (qY X (dP _)) ⋯) (λ{_ _} e{w z v cm} C a9=>hK (u.trans e) C (a9.trans ?_)) (λ{_ _ _} e=>hF (u.trans e));simp only[hS,f9,b5,bp (as:=bO k),pU,dh];exact ca0 _ _ _
 induction l with
 |nil=>
  intro k S0 p a q us tn d r got A t N O Q B U X I hK hR hF;rcases i:aF k with _|_
  ·refine aB λ Y kK=>?_;have c8:k∈cK:=by
    have:(bif aF k then ae else cK.contains k&&iy [])=ae:=A;rw[i]at this;exact qi (aH this)
   refine La (MI (l:=[]) t N O Q B U X I) λ f g Z V J m L E g6 g7 g8=>?_;replace hS:bj k=[k]:=by unfold bj;rw[i];rfl
   replace hc:cE [k]=[]:=by unfold cE fv;rw[(by decide:∀k∈cK,(aX k 0||aX k 5)=ai) k c8];rfl
   replace a0:p++([k,y]++G)=h:=by simp only[<-t,hS,hc];rfl
   refine aG (PO (tn:=tn) (ln:=n) (cl:=a) (d:=f) (r:=g) c8 (.tail _ hy) a0 (aj h1 ⋯) (aj L ⋯) g6 m g7) λ S4 D4 L4=>?_;replace u:=Uw (n:=n) (l:=[]) (due:=got++us) i V;simp only[bB got us,bB got]at u;refine kK ?_;refine g8 D4 (L4 ?_);replace b0:=CE (r:=g) m;refine hK u (cm:=ai) (v:=a+1) (.a (pre:=p++[k]) (Ky J m) (bH b0 E) ?_) ?_
   ·simp only[<-a0,bB];rfl
   ·simp only[hS,hc];exact iK _ _ _
  ·exact key i A t N O Q B U X I hK hR hF
 |cons b l ih=>
  intro k S0 p a q us tn d r got A t N O Q B U X I hK hR hF;rcases i:aF k with _|_
  ·refine aB λ Y kK=>?_;have d7:(cK.contains k&&iy (b::l))=ae:=by
    have:(bif aF k then((b::l).isEmpty||((b::l).headD 0==58&&tb (b::l).tail))else cK.contains k&&iy (b::l))=ae:=A;rw[i]at this;exact this
   replace c8:=qi (aH d7);refine La (MI (l:=b::l) t N O Q B U X I) λ f g Z V J m L E g6 g7 g8=>?_;replace hS:bj k=[k]:=by unfold bj;rw[i];rfl
   replace hc:cE (k::b::l)=cE (b::l):=rfl;replace b5:cC (!aF k) (b::l)=32::(bj b++cC (!aF b) l):=by rw[i];rfl
   rw[hS,hc,b5]at t;replace a0:p++([k,32]++(bj b++(cC (!aF b) l++(cE (b::l)++y::G))))=h:=by rw[<-t];simp only[bB,pU,pY]
   replace b7:(p++[k])++(aJ 1 32++(bj b++(cC (!aF b) l++(cE (b::l)++y::G))))=h:=by rw[<-a0];simp only[bB];rfl
   have j7:=aj (ma (fD 2 _) _) (uz h1 a0);refine aG (PO (tn:=tn) (ln:=n) (cl:=a) (d:=f) (r:=g) c8 (.head _) a0 (aj h1 ⋯) (aj L ⋯) g6 m g7) λ S4 D4 L4=>?_;replace u:=Uw (n:=n) (l:=b::l) (due:=got++us) i V;rw[bB got us,bB got]at u;have j5:aF b=ae\/b∈cK:=by
    have:(bif aF b then(l.isEmpty||(l.headD 0==58&&tb l.tail))else cK.contains b&&iy l)=ae:=(aP d7)
    rcases q:aF b with _|_
    ·rw[q]at this;exact .inr (qi (aH this))
    ·exact .inl rfl
   refine cu (vj j5) λ x s ex hx=>?_;replace b8:=Ky (a:=a) J m;replace b0:=CE (r:=g) m;refine kK ?_;refine g8 D4 (L4 ?_);have j0:=b7;rw[ex]at j0;refine ih (k:=b) (q:=[]) (us:=[]) (a:=a+1+((1:ah):ag)) (p:=(p++[k])++aJ 1 32) (aP d7) (by rw[bB];exact b7) (EH (ask:=ae) (n:=n) (cl:=a+1) (tn:=tn+((us++aJ ((d::r).length-(f::g).length) (cJ n a)++yG k n a f).length:ah)) (d:=(dy a (f,g)).1) (r:=(dy a (f,g)).2) hx j0 (aj h1 ⋯) (aj (b8.wW (bH b0 E)) ⋯)) rfl (cg _) b8 (bH b0 E) (qY (qY X ⋯) ⋯) (by rw[bp,bp];exact Cd (Cd I (gj 1)) (gj 1)) ?_ ?_ ?_
   ·intro o j e w z v cm C a9;rw[bC]at e;refine hK (u.trans e) C (a9.trans ?_);rw[hS,hc,b5];show _=a+((((32::(bj b++cC (!aF b) l))++cE (b::l)).length+1:ah):ag);rw[pU,bB];exact UP _ _
   ·intro o j H e w z v cm C a9;rw[bC]at e;refine hR (u.trans e) C (a9.trans ?_);rw[hS,hc,b5];show _=a+((((32::(bj b++cC (!aF b) l))++cE (b::l)).length+1:ah):ag);rw[pU,bB];exact UP _ _
   ·intro o j H e;rw[bC]at e;exact hF (u.trans e)
  ·exact key i A t N O Q B U X I hK hR hF
end
noncomputable def jV:af Row->af ah
 |[]=>[0]
 |x::R=>10::(bb x++jV R)
noncomputable def jt(n:ag)(h:ah):af Row->ag×ag
 |[]=>(n-1,h)
 |x::R=>bif x.2.isEmpty then jt (n+1) x.1 R else(n,x.1)
noncomputable def jO(n a:ag):IV:=atT (sS "<stream end>") .none n a a
noncomputable def eF(n:ag)(c:ah):af Row->af ag->af IV->af IV×ak ((ag×ag)×ak (ag×ag))
 |[],st,b=>(b++aJ (st.length-1) (cJ (n-1) c)++[jO (n-1) c],none)
 |x::R,st,b=>match bT n x.1 ae ai x.2 st b with
  |(d,h,none)=>eF (n+1) (bb x).length R d h
  |(_,h,aa (a,ae))=>(h,aa (jt (n+1) (bb x).length R,aa (n,a)))
  |(_,h,aa (a,ai))=>(h,aa ((n,a),none))
noncomputable def qN(B:af Row):al:=B.all λ x=>x.2.isEmpty
theorem wy{x}(h:x.2.isEmpty=ae):bb x=aJ x.1 32:=by
 unfold bb;rw[gu h];exact bC _
theorem IP{B R x}(h:qN B=ae):jV (B++x::R)=10::(nj (B.map (·.1))++(bb x++jV R)):=by
 induction B with
 |nil=>rfl
 |cons b B a=>
  show 10::(bb b++jV (B++x::R))=_;simp only[a (aP h),wy (aH h)];show _=10::((aJ b.1 32++[10])++nj (B.map (·.1))++_);simp only[bB,pU,pY]
section
variable{S:St}{h G rest:af ah}{n cl:ag}{got f:af IV}{st:af ag}{cm:al}{i:ak ag}{b:af ah}{c x:ah}
theorem MM{w cm b T}(a:cm=ae->w=0):aJ w 32++((bif cm then[35]else[])++10::(nj b++T))=vF cm (bif cm then b else w::b)++T:=by
 obtain _|_:=cm
 ·show _=((aJ w 32++[10])++nj b)++T;simp only[bB];rfl
 ·rw[a rfl];rfl
theorem ux{p:af ah}{k idx}(a:p.length+k<=80)(d:0<=idx):(p.length:ag)-idx<=1024:=bH (co3 _ d) (Int.ofNat_le.mpr (aj (aj (ck _ _) a) ⋯))
theorem Ry{k:ah}:n≠n+1+(k:ag):=MH (zI (GC (gj n)) (sV (dP k)))
theorem HA{w pre tn d j}(l:h.length<=1000)(m:j.length<=1000)(q:x∈mV)(r:cm=ae->w=0)(g:pre++(aJ w 32++((bif cm then[35]else[])++10::(nj b++(aJ c 32++x::rest))))=h):
  ∃p,p++x::rest=h/\(c:ag)<=p.length/\∀{ask tk o num idx kl kc},tk.length<=1000->YM 18 .iv [.obj] (sA h tk tn d j o num idx kl kc pre n cl ask) (.ok (.none,sA h tk tn d j o num idx kl kc p (n+1+b.length) c ae)):=by
 rw[MM r]at g;have e:∀{k},k=(bif cm then b else w::b)->qj cm k n=n+1+b.length/\Bm cm k cl c=c/\∀{a},(a||(cm||!k.isEmpty))=ae:=by
  intro k e;rw[e,iK];obtain _|_:=cm
  ·exact(dB (aD (n+·) (by show((0+(b.length+1):ah):ag)=_;rw[xe,me];rfl)) (oM _) (λ{a}=>by cases a<;>rfl))
  ·exact(dB rfl (oM _) (λ{a}=>by cases a<;>rfl))
 generalize s:(bif cm then b else w::b)=k at g;refine lg (e s.symm) λ t u v=>?_;refine ec (pre++(vF cm k++aJ c 32)) (by simp only[<-g,bB,bB]) ?_ λ{ask tk o num idx kl kc} y=>?_
 ·simp only[bp,bp,gD];exact Int.ofNat_le.mpr (aj (fD _ _) (fD _ _))
 ·have:=By (o:=o) (num:=num) (idx:=idx) (kl:=kl) (kc:=kc) (ln:=n) (cl:=cl) (tn:=tn) (d:=d) (ask:=ask) l m y q g;simp only[t,u,v]at this;exact this
theorem Tq{w:ah}(s:h.length<=80)(z:x∈mV)(H:cm=ae->w=0)(C:pH w h (10::(nj b++(aJ c 32++x::rest))) n got f st i cl cm S):
  (i=none->∃p q us tn d r,st=d::r/\p++x::rest=h/\(c:ag)<=p.length/\sX S h p (n+1+b.length) c ae q tn d r/\q.map dF=us.map aa/\f=got++us/\q.length<=10)/\
  (∀kc,i=aa kc->f=got/\bX got S got (aa ((n+1+b.length,(c:ag)),aa (n,kc)))):=by
 have j:h.length<=1000:=aj s ⋯;have l:∀{d r},di (d::r)->d<=80->(aQ r).length<=1000:=λ X hd=>lu▸aj (X.wW hd) ⋯;induction C with
 |@a pre _ tn d cl r ask _ g hd m=>
  refine dJ (HA (n:=n) (cl:=cl) (tn:=tn) (d:=d) j (l g hd) z H m) λ p hp u sc=>?_;exact⟨λ Y=>NR p [] [] tn d r rfl hp u ⟨by kernel_rfl,by kernel_rfl,by kernel_rfl,(aL _ Jr rfl),none,0,0,0,0,_,.none,sc (o:=none) (cg _),(Fc ⋯ j (l g hd) (cg _)).le ⋯⟩ rfl (bC _).symm (cg _),nofun⟩
 |@k pre _ us v tn d cl idx kc r _ g hd m A y B t=>
  refine dJ (HA (n:=n) (cl:=cl) (tn:=tn) (d:=d) j (l g hd) z H m) λ p hp u sc=>?_;have o:v.length<=1000:=aj y ⋯;exact⟨λ Y=>NR p v us tn d r rfl hp u ⟨by kernel_rfl,by kernel_rfl,by kernel_rfl,(aL _ (CH ⋯ j (l g hd) o A (ux (uz s m) t)) rfl),aa ai,tn,idx,n,kc,_,.none,sc (o:=aa ai) (num:=tn) (idx:=idx) (kl:=n) (kc:=kc) o,(OQ ⋯ j (l g hd) o Ry (ux (uz s hp) t)).le ⋯⟩ B rfl y,nofun⟩
 |@r pre _ us v tn d cl idx kc r _ g hd m A y B t=>
  refine dJ (HA (n:=n) (cl:=cl) (tn:=tn) (d:=d) j (l g hd) z H m) λ p hp u sc=>?_;have o:v.length<=1000:=aj y ⋯;refine⟨nofun,λ I X=>?_⟩;cases X;refine⟨rfl,?_⟩;refine cu (Tt (fl:=0) (ptr:=(p.length:ag)) (idx:=idx) (ln:=n+1+b.length) (cl:=(c:ag)) (num:=tn) (kc:=kc) (kl:=n) (tn:=tn) (ind:=d) (ask:=ae) ⋯ j (l g hd) o Ry (ux (uz s hp) t)) λ e J D E=>?_;exact .Ea ∅ (CH ⋯ j (l g hd) o A (ux (uz s m) t)) rfl ∅ (Np (sc (o:=aa ae) (num:=tn) (idx:=idx) (kl:=n) (kc:=kc) o) (D.le ⋯) ∅ ∅) E
theorem HW{S0 p tk us tn d g a num idx kl kc r ask o o' v M w}(H:eg .eB S0=ae)(X:eg .jP S0=ae)(N:eg .iv S0=ae)(C:YM 19 .eB [.obj] S0 (.ok (w,S0)))(D:eO w=aa ae)
  (O:YM 18 .iv [.obj] S0 (.ok (v,sF h p.length g a 0 tk tn d (aQ r) ask (kR o num idx kl kc h))))(Q:YM 18 .iP [.obj] (sF h p.length g a 0 tk tn d (aQ r) ask (kR o num idx kl kc h)) (.ok (M,sF h p.length g a 0 tk tn d (aQ r) ask (kR o' num idx kl kc h))))
  (l:h.length<=1000)(I:di (d::r))(m:r.length<=90)(q:tk.length<=10)(J:0<=a)(L:p++[0]=h)(T:tk.map dF=us.map aa):
  (o'≠aa ae->bX got S0 (got++(us++aJ ((d::r).length-1) (cJ g a)++[jO g a])) none)/\(o'=aa ae->bX got S0 got (aa ((g,a),aa (kl,kc)))):=by
 refine aB λ Y U=>?_;refine aG (I.low) λ y V Z=>?_;refine jY (JF N O Q l (aj m ⋯) (aj q ⋯) (aL y V (bH (bH Z ⋯) J))) λ d' r' k e1 j DD XX=>?_;have s:=(I.bt (bH ⋯ J)).1;rw[e1]at s;simp only[dh,dh]at j;have a0:(tk++aJ k (kX (markV p.length g a h))).length<=101:=by simp only[bp,gD];exact aj (cU q (aj (JI j) m)) ⋯
 refine jY (Se (p:=p.length) (ln:=g) (cl:=a) (num:=num) (idx:=idx) (kl:=kl) (kc:=kc) (tn:=tn) (ask:=ask) (o:=o') l (aj (Jv j) m) (aj a0 ⋯) s.low) λ d2 r2 k2 t u A B=>?_;rw[ZE s]at t;refine bg (kE t) λ a8 a9=>?_;clear t;subst a8;subst a9;simp only[dh,dh,Mt]at u;refine U ?_;constructor
 ·intro z;refine .rP H C D X (DD ((RW l L (A z)).1 rfl)) ?_;have hk:(d::r).length-1=k+k2:=Ue j u;rw[hk];refine ac5 ?_ ?_
  ·simp only[bp,bp,gD];have:[rQ (markV (p.length:ag) g a h)].length=1:=rfl;exact aj (gY (aj (cx (pO ..)) (cU q (aj (cx (Ue j u).symm) m)))) ⋯
  ·rw[iq,iq,iq,T,Co,Co,RQ,<-List.replicate_append_replicate,iq,iq,iq,Co,Co,bB (us.map aa)];rfl
 ·intro z;refine aG (B z) λ e E he=>?_;exact .Ea H C D X (XX ((RW l L E).2 rfl)) he
end
section
variable{S:St}{h:af ah}{n cl:ag}{got b:af IV}{st:af ag}{cm:al}{f:ak ag}{w:ah}
noncomputable def gZ(c:ag)(B:af Row):ag:=match B.getLast? with|none=>c|some x=>x.1
theorem ZQ{B pre tn d i}(m:h.length<=1000)(r:i.length<=1000)(s:cm=ae->w=0)(t:0<=cl)(j:qN B=ae)(x:pre++(aJ w 32++((bif cm then[35]else[])++jV B))=h):
  ∃p a,p++[0]=h/\0<=gZ (cl+w+bf cm) B/\∀{ask tk o num idx kl kc},tk.length<=1000->YM 18 .iv [.obj] (sA h tk tn d i o num idx kl kc pre n cl ask) (.ok (.none,sA h tk tn d i o num idx kl kc p (n+B.length) (gZ (cl+w+bf cm) B) (ask||a))):=by
 obtain rfl|⟨c,q,rfl⟩:=Xq B
 ·obtain _|_:=cm
  ·refine gm (pre++aJ w 32) ai (by simp only[<-x,bB];rfl) (qY (qY t (dP _)) (gj 0)) (λ{ask tk o num idx kl kc} l=>?_);have:=By (o:=o) (num:=num) (idx:=idx) (kl:=kl) (kc:=kc) (cm:=ai) (ks:=[]) (ln:=n) (cl:=cl) (tn:=tn) (d:=d) (ask:=ask) m r l ⋯ x;show YM 18 _ _ _ (.ok (.none,sA h tk tn d i o num idx kl kc (pre++aJ w 32) (n+0) (cl+w+0) (ask||ai)));rw[aO (cl+w)];exact this
  ·obtain rfl:=s rfl;refine gm (pre++[35]) ai (by simp only[<-x,bB];rfl) (qY (qY t (gj 0)) ⋯) (λ{ask tk o num idx kl kc} l=>?_);rw[MF];show YM 18 _ _ _ (.ok (.none,sA h tk tn d i o num idx kl kc (pre++[35]) (n+0) (cl+0+1) ask));rw[aO,aO];exact SZ m x ⋯ (bj6 m r l x)
 ·rw[Xr]at j x⊢;unfold qN at j;rw[mT]at j;rw[IP (R:=[]) (aH j),MM s,wy (aH (aP j))]at x;have u:∀{g},g=(bif cm then c.map (·.1)else w::c.map (·.1))->qj cm g n=n+((c++[q]).length:ah)/\Bm cm g cl q.1=gZ (cl+w+bf cm) (c++[q])/\(cm||!g.isEmpty)=ae:=by
   intro g e;unfold qj gZ Bm;rw[e,oN,bp];obtain _|_:=cm
   ·exact(dB (aD (λ k:ah=>n+(k:ag)) (by show 0+((c.map (·.1)).length+1)=_;rw[bF,xe];rfl)) (oM _) rfl)
   ·exact(dB (aD (λ k:ah=>n+(k:ag)) (by show 1+(c.map (·.1)).length=_;rw[bF,nH];rfl)) (oM _) rfl)
  generalize v:(bif cm then c.map (·.1)else w::c.map (·.1))=g at x;refine lg (u v.symm) λ y z H=>?_;refine gm (pre++(vF cm g++aJ q.1 32)) ae (by simp only[<-x,bB,bB];rfl) (by unfold gZ;rw[oN];exact dP _) (λ{ask tk o num idx kl kc} l=>?_);simp only[<-y,<-z,<-H];exact By m r l ⋯ x
section
variable{B:af Row}{pre:af ah}{tn d idx kc:ag}{r:af ag}{k us:af IV}{c:al}
variable(j:h.length<=80)(m:cm=ae->w=0)(q:0<=cl)(s:qN B=ae)(i:di (d::r))(hd:d<=80)(l:pre++(aJ w 32++((bif cm then[35]else[])++jV B))=h)
include j m q s i hd l
theorem MT:(aQ r).length<=1000/\∃p a,p++[0]=h/\0<=gZ (cl+w+bf cm) B/\∀{ask tk o num idx kl kc},tk.length<=1000->YM 18 .iv [.obj] (sA h tk tn d (aQ r) o num idx kl kc pre n cl ask) (.ok (.none,sA h tk tn d (aQ r) o num idx kl kc p (n+B.length) (gZ (cl+w+bf cm) B) (ask||a))):=
 have x:=lu▸aj (i.wW hd) ⋯
 ⟨x,ZQ (aj j ⋯) x m q s l⟩
theorem bf3{ask}:bX b (sF h pre.length n cl 0 [] tn d (aQ r) ask []) (b++aJ ((d::r).length-1) (cJ (n+B.length) (gZ (cl+w+bf cm) B))++[jO (n+B.length) (gZ (cl+w+bf cm) B)]) none:=by
 refine bg (MT (n:=n) (tn:=tn) j m q s i hd l) λ e g=>dC g λ p a hp o sc=>?_;have x:h.length<=1000:=aj j ⋯;rw[bB];exact(HW (o':=none) (num:=0) (idx:=0) (kl:=0) (kc:=0) (us:=[]) ∅ ∅ ∅ Jr rfl (sc (o:=none) (cg _)) ((Fc ⋯ x e (cg _)).le ⋯) x i (aj (i.wW hd) ⋯) (cg _) o hp rfl).1 nofun
variable(y:k≠[])(u:k.length<=10)(v:k.map dF=us.map aa)(t:0<=idx)
include y u v t
theorem Qs:(c=ai->bX got (sF h pre.length n cl 0 k tn d (aQ r) ai [fj tn c idx n kc h]) (got++(us++aJ ((d::r).length-1) (cJ (n+B.length) (gZ (cl+w+bf cm) B))++[jO (n+B.length) (gZ (cl+w+bf cm) B)])) none)/\
  (c=ae->bX got (sF h pre.length n cl 0 k tn d (aQ r) ai [fj tn c idx n kc h]) got (aa ((n+B.length,gZ (cl+w+bf cm) B),aa (n,kc)))):=by
 refine bg (MT (n:=n) (tn:=tn) j m q s i hd l) λ H L=>dC L λ p a hp C sc=>?_;have g:h.length<=1000:=aj j ⋯;have M:=uz j l;have D:=uz j hp;have I:r.length<=90:=aj (i.wW hd) ⋯;clear m s l q;generalize gZ (cl+w+bf cm) B=z at sc C⊢;have o:k.length<=1000:=aj u ⋯;have X:=CH (fl:=0) (ln:=n) (cl:=cl) (tn:=tn) (ind:=d) (kc:=kc) (ask:=ai) (b:=c) ⋯ g H o y (ux M t);have A:=sc (o:=aa c) (num:=tn) (idx:=idx) (kl:=n) (kc:=kc) (ask:=ai) o;obtain _|⟨x,B⟩:=B
 ·have E:=HW (o:=aa c) (o':=aa c) (num:=tn) (idx:=idx) (kl:=n) (kc:=kc) (us:=us) (got:=got) ∅ ∅ ∅ X rfl A (by
   rw[show n+(([]:af Row).length:ag)=n from aO n]
   exact(CL (b:=c) ⋯ g H o (ux D t)).le ⋯) g i I u C hp v
  exact⟨λ e=>E.1 (e▸nofun),λ e=>E.2 (e▸rfl)⟩
 ·have J:n≠n+((x::B).length:ag):=MH (co4 _ (Int.ofNat_lt.mpr (Cn _)));refine⟨λ e=>?_,λ e=>?_⟩
  ·exact(HW (o:=aa c) (o':=none) (num:=tn) (idx:=idx) (kl:=n) (kc:=kc) (us:=us) (got:=got) ∅ ∅ ∅ X rfl A (by rw[e];exact(OQ ⋯ g H o J (ux D t)).le ⋯) g i I u C hp v).1 nofun
  ·rw[e]at X A⊢;refine cu (Tt (fl:=0) (ptr:=(p.length:ag)) (idx:=idx) (ln:=n+(x::B).length) (cl:=z) (num:=tn) (kc:=kc) (kl:=n) (tn:=tn) (ind:=d) (ask:=ai||a) ⋯ g H o J (ux D t)) λ e Q N O=>?_;exact .Ea ∅ X rfl ∅ (Np A (N.le ⋯) ∅ ∅) O
end
theorem Um{B}(d:h.length<=80)(e:cm=ae->w=0)(g:0<=cl)(i:qN B=ae)(C:pH w h (jV B) n got b st f cl cm S):
  (f=none->bX got S (b++aJ (st.length-1) (cJ (n+B.length) (gZ (cl+w+bf cm) B))++[jO (n+B.length) (gZ (cl+w+bf cm) B)]) none)/\
  (∀kc,f=aa kc->b=got/\bX got S got (aa ((n+B.length,gZ (cl+w+bf cm) B),aa (n,kc)))):=by
 induction C with
 |a x hd c=>exact⟨λ Y=>bf3 d e g i x hd c,nofun⟩
 |@k _ _ us _ _ _ _ _ _ _ _ x hd c j l m o=>
  refine⟨λ Y=>?_,nofun⟩;rw[bB,bB,<-bB us];exact(Qs d e g i x hd c j l m o).1 rfl
 |r x hd c j l m o=>exact⟨nofun,λ q p=>by cases p;exact⟨rfl,(Qs d e g i x hd c j l m o).2 rfl⟩⟩
end
section
variable{h:af ah}{D:af IV}{M:ak ((ag×ag)×ak (ag×ag))}
theorem H7{R}:∃y G,jV R=y::G/\y∈[10,0]:=by
 obtain _|⟨x,R⟩:=R
 ·exact gR 0 ([]) rfl (.tail _ (.head _))
 ·exact gR 10 _ rfl (.head _)
theorem Dn{k l}(x:iy (k::l)=ae):aF k=ae\/k∈cK:=by
 have:(bif aF k then(l.isEmpty||(l.headD 0==58&&tb l.tail))else cK.contains k&&iy l)=ae:=x;rcases q:aF k with _|_
 ·rw[q]at this;exact .inr (qi (aH this))
 ·exact .inl rfl
theorem Rv{B x}(a:qN B=ae)(b:x.2.isEmpty=ae):qN (B++[x])=ae:=by
 unfold qN at*;rw[mT,a];show(x.2.isEmpty&&ae)=ae;rw[b];rfl
theorem Ef{x k l}(a:x.2=k::l):bb x=aJ x.1 32++(bj k++(cC (!aF k) l++cE (k::l))):=by
 unfold bb;rw[a];show _++(([]++(bj k++cC (!aF k) l))++_)=_;simp only[pY,bB (bj k)]
theorem E5(m:h.length<=80):∀{R B S n cl kc got b st cm}{a w:ah},(R.all λ x=>iy x.2)=ae->qN B=ae->(cm=ae->w=0)->0<=cl->(a:ag)=gZ (cl+w+bf cm) B->pH w h (jV (B++R)) n got b st (aa kc) cl cm S->bX got S b (aa (jt (n+1+B.length) a R,aa (n,kc))):=by
 intro R;induction R with
 |nil=>
  intro B S n cl kc got b st cm a w d f g j o C;rw[bC]at C;refine bg ((Um m g j f C).2 kc rfl) λ q L=>?_;refine q.symm▸?_;rw[show jt (n+1+B.length) a []=(n+B.length,gZ (cl+w+bf cm) B) by rw[<-o];exact aD (·,(a:ag)) (by lia)];exact L
 |cons x R r=>
  intro B S n cl kc got b st cm a w d f g j o C;refine dG d λ i d=>?_;have i:iy x.2=ae:=i;rcases e:x.2 with _|⟨k,l⟩
  ·have p:x.2.isEmpty=ae:=by rw[e];rfl
   have:=r d (Rv f p) g j (by unfold gZ;rw[oN]) (by rw[bB];exact C);rw[show jt (n+1+B.length) a (x::R)=jt (n+1+(B++[x]).length) x.1 R by
    show(bif x.2.isEmpty then jt (n+1+B.length+1) x.1 R else _)=_
    rw[p,bp]
    exact aD (jt · x.1 R) (by exact iK _ _ _)]
   exact this
  ·rw[e]at i;refine cu (vj (Dn i)) λ c s t u=>?_;rw[IP f,Ef e,t,bB]at C;refine bg ((Tq m u g C).2 kc rfl) λ v L=>?_;refine v.symm▸?_;rw[show jt (n+1+B.length) a (x::R)=(n+1+(B.map (·.1)).length,(x.1:ag)) by
    show(bif x.2.isEmpty then _ else(n+1+(B.length:ag),(x.1:ag)))=_
    rw[e,bF];rfl]
   exact L
theorem QH(w:h.length<=80){R x k l}(A:(R.all λ x=>iy x.2)=ae)(z:x.2=k::l)(H:iy (k::l)=ae){S0 n p q us got tn d r}
  (B:∀{S cl got t st}{cm:al}{f:ah},0<=cl->(f:ag)=cl+bf cm->zb h (jV R) n got t st none cl cm S->bX got S (eF (n+1) f R st t).1 (eF (n+1) f R st t).2)
  (X:p++(bj k++(cC (!aF k) l++(cE (k::l)++jV R)))=h)(E:sX S0 h p n x.1 ae q tn d r)(I:q.map dF=us.map aa)(J:q.length<=90)(L:di (d::r))(N:d<=80)(O:(x.1:ag)<=p.length):
  ∀{f},bX got S0 (eF n f (x::R) (d::r) (got++us)).1 (eF n f (x::R) (d::r) (got++us)).2:=by
 intro f;refine aB λ Y Q=>?_;refine cu (H7 (R:=R)) λ y G e T=>?_;rw[e]at X;have U:(bb x).length=x.1+(bj k++(cC (!aF k) l++cE (k::l))).length:=by rw[Ef z,bp,gD]
 have u:eF n f (x::R) (d::r) (got++us)=match bT n x.1 ae ai (k::l) (d::r) (got++us)with
  |(m,g,none)=>eF (n+1) (bb x).length R m g
  |(_,g,aa (a,ae))=>(g,aa (jt (n+1) (bb x).length R,aa (n,a)))
  |(_,g,aa (a,ai))=>(g,aa ((n,a),none)):=by rw[<-z];rfl
 have o:∀{b cm},b+(bf cm:ag)=(x.1:ag)+((bj k++(cC (!aF k) l++cE (k::l))).length:ah)->0<=b/\(((bb x).length:ah):ag)=b+(bf cm:ag):=λ{b cm} v=>by
  have V:bf cm<=1:=by clear v;obtain _|_:=cm<;>decide
  refine cu (vj (Dn H)) λ c s Z Y=>?_;have h3:1<=(bj k++(cC (!aF k) l++cE (k::l))).length:=by rw[Z];exact gY (cg _)
  exact⟨ck7 (by rw[oM,v];exact Int.ofNat_le.mpr (aj V (aj h3 (fD _ _)))),by rw[U];exact v.symm⟩
 refine Q ?_;refine ay3 T w H X E I J L N (dP _) O (λ{m g} i{a0 S' b cm} C j=>?_) (λ{m g a'} i{a0 S' b cm} C j=>?_) (λ{m g a'} i=>?_)
 ·rw[u,i];rw[<-e]at C;exact B (o j).1 (o j).2 C
 ·rw[u,i];rw[<-e]at C;have:=E5 (B:=[]) w A rfl (λ Y=>rfl) (o j).1 (by show _=b+((0:ah):ag)+bf cm;rw[show b+((0:ah):ag)=b from aO _];exact(o j).2) C;rw[show n+1+(([]:af Row).length:ag)=n+1 from aO _]at this;exact this
 ·rw[u,i];exact⟨rfl,rfl⟩
theorem ay1(t:h.length<=80):∀{R B S n cl got b st}{cm:al}{f w:ah},(R.all λ x=>iy x.2)=ae->qN B=ae->(cm=ae->w=0)->0<=cl->(f:ag)=gZ (cl+w+bf cm) B->pH w h (jV (B++R)) n got b st none cl cm S->bX got S (eF (n+1+B.length) f R st b).1 (eF (n+1+B.length) f R st b).2:=by
 intro R;induction R with
 |nil=>
  intro B S n cl got b st cm f w g m o u v C;rw[bC]at C;rw[show eF (n+1+B.length) f [] st b=(b++aJ (st.length-1) (cJ (n+B.length) (gZ (cl+w+bf cm) B))++[jO (n+B.length) (gZ (cl+w+bf cm) B)],none) by
   show(b++aJ (st.length-1) (cJ (n+1+B.length-1) f)++[jO (n+1+B.length-1) f],none)=_
   rw[v,show n+1+(B.length:ag)-1=n+B.length by rw[co2,Cm]]]
  exact((Um t o u m C).1 rfl)
 |cons x R y=>
  intro B S n cl got b st cm f w g m o u v C;refine dG g λ i g=>?_;have i:iy x.2=ae:=i;rcases e:x.2 with _|⟨k,l⟩
  ·have z:x.2.isEmpty=ae:=by rw[e];rfl
   have:=y g (Rv m z) o u (by unfold gZ;rw[oN]) (by rw[bB];exact C);rw[show eF (n+1+B.length) f (x::R) st b=eF (n+1+(B++[x]).length) x.1 R st b by
    show(match bT (n+1+B.length) x.1 ae ai x.2 st b with
     |(A,j,none)=>eF (n+1+B.length+1) (bb x).length R A j
     |(_,j,aa (a,ae))=>(j,aa (jt (n+1+B.length+1) (bb x).length R,aa (n+1+B.length,a)))
     |(_,j,aa (a,ai))=>(j,aa ((n+1+B.length,a),none)))=_
    rw[e,wy z,gD,bp]
    exact aD (eF · x.1 R st b) (by exact iK _ _ _)]
   exact this
  ·rw[e]at i;refine cu (vj (Dn i)) λ c s H E=>?_;have I:=C.qo.1;rw[IP m,Ef e,H,bB]at C;refine as6 ((Tq t E o C).1 rfl) λ p q us tn d r J hp L X N O Q=>?_;subst J;refine O▸?_;rw[bF]at X;have hp:p++(c::s++(cC (!aF k) l++cE (k::l))++jV R)=h:=hp;refine QH t g e i (λ{S cl got b st cm f} T U C=>?_) (by simp only[H,<-hp];simp only[bB]) X N (aj Q ⋯) I C.qo.2 L;have:=y (B:=[]) g rfl (λ Y=>rfl) T (by show _=cl+((0:ah):ag)+bf cm;rw[show cl+((0:ah):ag)=cl from aO _];exact U) C;rw[show n+1+(B.length:ag)+1+(([]:af Row).length:ag)=n+1+B.length+1 from aO _]at this;exact this
end
noncomputable def fZ:IV:=atT (sS "<stream start>") .none 0 0 0
noncomputable def qc(h:af ah):IV:=.ba .HC [(.tm,markV 0 0 0 h),(.uo,markV 0 0 0 h),(.DF,.none)]
theorem ao3{x R h b}(f:bb x++jV R=b)(j:b.length<=80)(m:((x::R).all λ x=>iy x.2)=ae)(mk:af ah):bX [] (sF b 0 0 0 0 [qc mk] 0 (-1) [] ae []) (eF 0 h (x::R) [-1] [fZ]).1 (eF 0 h (x::R) [-1] [fZ]).2:=by
 refine dG m λ g m=>?_;have g:iy x.2=ae:=g;refine Jz (us:=[fZ]) (aj j ⋯) ⋯ (by show 1<=1000;decide) ∅ ?_;have r:∀{S n cl got d st cm}{h w:ah},(cm=ae->w=0)->0<=cl->(h:ag)=cl+w+bf cm->pH w b (jV R) n got d st none cl cm S->bX got S (eF (n+1) h R st d).1 (eF (n+1) h R st d).2:=λ{S n cl got d st cm h w} u o p C=>by
  have:=ay1 (B:=[]) j m rfl u o p C;rw[show n+1+(([]:af Row).length:ag)=n+1 from aO _]at this;exact this
 rcases e:x.2 with _|⟨k,l⟩
 ·have t:x.2.isEmpty=ae:=by rw[e];rfl
  rw[wy t]at f;have:=r (d:=[fZ]) (cm:=ai) (S:=sF b 0 0 0 0 [] (0+([fZ]:af IV).length) (-1) [] ae []) (by intro X;cbv) ⋯ (by show(x.1:ag)=0+x.1+0;lia) (.a (pre:=[]) (r:=[]) rfl ⋯ f);rw[show eF 0 h (x::R) [-1] [fZ]=eF (0+1) x.1 R [-1] [fZ] by
   show(match bT 0 x.1 ae ai x.2 [-1] [fZ]with
    |(v,i,none)=>eF (0+1) (bb x).length R v i
    |(_,i,aa (a,ae))=>(i,aa (jt (0+1) (bb x).length R,aa (0,a)))
    |(_,i,aa (a,ai))=>(i,aa ((0,a),none)))=_
   rw[e,wy t,gD]
   rfl]
  exact this
 ·rw[e]at g;refine cu (vj (Dn g)) λ c s y z=>?_;rw[Ef e]at f;have H:[]++(aJ x.1 32++c::(s++(cC (!aF k) l++cE (k::l))++jV R))=b:=by rw[<-f,y];simp only[bB,pU,pY]
  have q:=EH (r:=[]) (ask:=ae) (n:=0) (cl:=0) (tn:=0+([fZ]:af IV).length) (d:=-1) z H (aj j ⋯) ⋯;have q:sX (sF b 0 0 0 0 [] (0+([fZ]:af IV).length) (-1) [] ae []) b (aJ x.1 32) 0 x.1 ae [] (0+([fZ]:af IV).length) (-1) []:=by
   have:=q;simp only[show(0:ag)+(x.1:ag)=x.1 from oM _,pY]at this;exact this
  exact QH (us:=[]) (q:=[]) (p:=aJ x.1 32) j m e g (λ{S cl got d st cm h} o p C=>r (w:=0) (λ Y=>rfl) o (by rw[show cl+((0:ah):ag)=cl from aO _];exact p) C) (by rw[<-f];simp only[bB]) q rfl ⋯ (rfl) ⋯ (by rw[gD];exact gj _)
section
variable{D:ah}{prm:af Nm}{top:al}{V V':Loc}{O O' i:St}{j:af (Nm×IV)}{v w u:IV}{x f m:Nm}{e a b t:IE}{s:IS}{l p:af IS}{h:af IV}{as:af IE}
noncomputable abbrev YA(D:ah)(prm:af Nm)(top:al)(as:af IE)(V:Loc)(O:St)(y:RE (af IV)):Prop:=Ev D (λ N d n=>ik (rA prm d N top n) as V O) y
theorem YA.nil:YA D prm top [] V O (.ok ([],O)):=⟨0,λ N d n Y Y Y=>rfl⟩
theorem YA.cons(c:YE D prm top e V O (.ok (v,O')))(o:(cR e v||as.isEmpty)=ae)(g:YA D prm top as V O' (.ok (h,i))):YA D prm top (e::as) V O (.ok (v::h,i)):=by
 refine aI (c.both g) λ k c=>?_;refine⟨k,λ N d n r y z=>?_⟩;have q:=c N d n r y z;show R.aw _ _=_;rw[show(rA prm d N top n).E e V O=.ok (v,O')from aD oL q];show R.ax _ _=_;rw[o];rw[show ik (rA prm d N top n) as V O'=.ok (h,i)from aD sW q];rfl
theorem qv{r}(c:ik r as V O=.ok (h,O')):dq r as [] V O=.ok ((h,[]),O'):=by
 unfold dq;rw[c];rfl
theorem YE.tup{l}(c:YA D prm top l V O (.ok (h,O')))(hv:h.all az=ae)(g:h.length<=10000):YE D prm top (.tup l) V O (.ok (.tup h,O')):=c.up λ N d n q=>by
 show R.aw _ _=_;rw[q];show R.ax _ _=_;simp only[hv,bK g];rfl
theorem YE.lst{l}(c:YA D prm top l V O (.ok (h,O')))(hv:h.all az=ae)(g:h.length<=10000):YE D prm top (.lst l) V O (.ok (.lst h,O')):=c.up λ N d n q=>by
 show R.aw _ _=_;rw[q];show R.ax _ _=_;simp only[hv,bK g];rfl
theorem YE.glob(c:yu aC x=aa v):YE D prm top (.glob x) V O (.ok (v,O)):=.mk λ N d n=>by show R.opt _ _=_;rw[c];rfl
theorem YE.nq{y}(c:nU aC f=ae)(g:YA D prm top as V O (.ok (h,O')))(k:∀N d n,Internal.nq aC (rA prm d N top n) f h [] O'=y):YE D prm top (.call (.glob f) as []) V O y:=g.up λ N d n q=>by
 show R.ax (nU aC f) _=_
 rw[c]
 rw[qv q]
 exact k N d n
theorem YE.qA{c g d}(k:lk x V=aa (.ba c g))(hd:yu aC d=aa (.cls d))(o:(aC.ba c).isSome=ae)(q:(aC.ba d).isSome=ae):YE D prm top (.call (.glob .kJ) [.var x,.glob d] []) V O (.ok (.bool (aX c.id d.id),O)):=
 .nq ∅ (.cons (.var k) rfl (.cons (.glob hd) rfl .nil)) λ N r n=>by
  show R.opt (aE ((aC.ba c).isSome&&(aC.ba d).isSome) _) _=_
  simp only[o,q];rfl
theorem DL{b c r l}(d:r.T e V O=.ok (b,O))(g:sC r .Or l V O=.ok (c,O)):sC r .Or (e::l) V O=.ok (b||c,O):=by
 show R.aw _ _=_;rw[d];clear d;cases b with|true=>rfl|false=>exact g
end
section
variable{D:ah}{prm:af Nm}{top:al}{V:Loc}{O b h:St}{c:af (Nm×IV)}{v:IV}{x f:Nm}{e:IE}{o:IE}
theorem YS.tZ{op a z i y}(j:YE D prm top o V O (.ok (.obj,O)))(g:cG aC .obj f O=aa (.int a))(k:YE D prm top e V O (.ok (i,h)))(hv:lQ op (.int a) i=aa (.int z))(l:th f (.int z) h V=y):YS D prm top (.tZ o f op e) V O y:=j.ek k λ N d n m p=>by
 show aY V _ _=_
 rw[m]
 show R.opt ((cG aC .obj f O).bind IV.cn) _=_
 rw[g]
 rw[p]
 show R.opt ((lQ op (.int a) i).bind IV.cn) _=_
 rw[hv]
 exact l
theorem YE.Ao{m y}(a:lk .bq V=aa .obj)(g:kq (cG aC .obj f O)=ae)(i:qE m=ae)(j:YE D prm top e V O (.ok (v,O)))(hp:IM m f [v] O=y):YE D prm top (.bx (fQ f) m [e] []) V O y:=j.up λ N d n q=>by
 show R.ax ((lk .bq V).any IV.isObj&&kq (cG aC .obj f O)&&qE m&&ae) _=_
 rw[a,g,i]
 rw[qv (show ik _ [e] V O=.ok ([v],O) by show R.aw _ _=_;rw[q];show R.ax (cR e v||ae) _=_;rw[gz];rfl)]
 exact hp
end
theorem bc{x y v}{l:af (Nm×IV)}(h:x≠y):lk x (put y v l)=lk x l:=(wZ ..).trans (aM h)
theorem cj{x v}{l:af (Nm×IV)}:lk x (put x v l)=aa v:=(wZ ..).trans (aT rfl)
theorem G6{O h t tk tn}(a:GW O (aa h))(x:lk .fS h=aa (.lst (t::tk)))(b:lk .iU h=aa (.int tn))(e:h.length<900)(c:tk.length<=1000)(f:az t=ae):
  YM 21 .km [.obj] O (.ok (t,aa (put .fS (.lst tk) (put .iU (.int (tn+1)) h)))):=by
 refine YM.of (V:=lS) (y:=.ok (.ret t,lS,_)) ∅ ?_;rw[JE];have d:lk .fS (put .iU (.int (tn+1)) h)=aa (.lst (t::tk)):=(bc ⋯).trans x;have g:cG aC .obj .fS (aa (put .iU (.int (tn+1)) h))=aa (.lst (t::tk)):=d;refine .cons a (.fin mx (.jx (.of (λ r=>rfl) (.self rfl x) ((Dm (by rw[dh];exact eK c ⋯)).trans rfl)) (.cons (.tZ (.var rfl) b .con rfl ?_) (.fin mx (.ret rfl (.Ao rfl (by rw[g];rfl) ⋯ .con ?_) f)))))
 ·show R.ax (decide (h.length<900)&&(lk .iU h).all az) _=_;simp only[b,bK e];rfl
 ·show R.opt ((lk .fS (put .iU (.int (tn+1)) h)).bind IV.dX) _=_;rw[d];show R.opt (if 10000<(t::tk).length then none else _) _=_;rw[aM (by rw[dh];exact Nat.not_lt.mpr (eK c ⋯))];rfl
theorem Zg{O h}(a:GW O (aa h))(x:lk .fS h=aa (.lst [])):YM 21 .km [.obj] O (.ok (.none,aa h)):=by
 refine YM.of (V:=lS) (y:=.ok (.next,lS,_)) ∅ ?_;rw[JE];exact .cons a (.cons (.gk (.of (λ r=>rfl) (.self rfl x) (Dm ⋯)) .nil) .nil)
theorem by0{O e}(a:GX O e):∃h,YM 21 .km [.obj] O (.exc (e,h)):=by
 refine aI (a) λ h a=>?_;refine⟨h,YM.of (V:=lS) (y:=.exc (e,lS,h)) ∅ ?_⟩;rw[JE];exact .exc a
noncomputable def jg:Fn:=iH (lD 42)
noncomputable abbrev bz:af Nm:=jg.params
noncomputable def trB(s:IS):af IS:=match s with|.ny b _ _ _=>b|_=>[]
noncomputable def zM:af IS:=trB (jg.body.getD 13 .bad)
noncomputable abbrev AX:IE:=.bx (.var .xY) .km [] []
noncomputable abbrev Fk(f g:Nm):IE:=.attr (.attr (.var .iY) f) g
noncomputable abbrev Az(c:Nm):IE:=.call (.glob .kJ) [.var .iY,.glob c] []
noncomputable def ET:af IS:=[.asg .cz (.con .none),.iff (.bool .Or [Az .wq,Az .vk,Az .wt,Az .vD]) [.asg .cz (.attr (.var .iY) .fR)] [],
 .expr (.bx (.var .om) .kZ [.tup [.attr (.var .iY) .ni,.var .cz,Fk .tm .mv,Fk .tm .iI,Fk .uo .mv,Fk .uo .iI]] []),.asg .iY AX]
noncomputable def JD:IS:=.iE (.cmp .IsNot (.var .iY) (.con .none)) ET
theorem OY:zM=[.asg .iY AX,JD]:=∅
theorem ap7:(rS.all λ x=>(aC.ba x.1).isSome&&(aC.cZ x.1 .tm&&(aC.cZ x.1 .uo&&((!wx x.1||aC.cZ x.1 .fR)&&(lk .ni (((aC.ba x.1).getD ([],[])).1.map λ y=>(y,IV.none))).isNone))))=ae:=∅
theorem by5:([Nm.wq,.vk,.wt,.vD].all λ d=>(aC.ba d).isSome)=ae:=∅
section
variable{D:ah}{V:Loc}{O h:St}{got b:af IV}{f:ak ((ag×ag)×ak (ag×ag))}{t u v:IV}
noncomputable def rz(V:Loc)(got:af IV):Prop:=lk .xY V=aa .obj/\lk .om V=aa (.lst got)
noncomputable def mL(V a:Loc):Prop:=∀x,x≠.iY->x≠.cz->x≠.om->lk x a=lk x V
theorem mL.put{V a x v}(c:mL V a)(d:x=.iY\/x=.cz\/x=.om):mL V (put x v a):=λ y e g i=>by
 rw[bc (by obtain rfl|rfl|rfl:=d<;>assumption)];exact c y e g i
theorem DB{c e d a}(l:mH d e=aa a)(n:aC.cZ c d=ae):∃m,(∀{O},cG aC (.ba c e) d O=aa m)/\(∀{O},cG aC m .mv O=aa (.int a.1))/\∀{O},cG aC m .iI O=aa (.int a.2):=by
 refine aB λ Y o=>?_;revert l;refine av λ m p=>av λ k q=>av λ Y r=>av λ x g=>dQ λ y i s=>?_;subst s;revert g;refine av λ H g w=>?_;revert i;refine av λ X i z=>?_;refine o ?_;obtain rfl:=dY w;obtain rfl:=dY z;obtain rfl:=pk q;have j:=nC (iZ r);refine ec (.ba k.1 k.2) (λ{O}=>?_) (λ{O}=>?_) (λ{O}=>?_)
 ·show bo (lk d e) (λ v=>aE (aC.cZ c d) v) _=_;simp only[p,n];rfl
 ·show bo (lk .mv k.2) (λ v=>aE (aC.cZ k.1 .mv) v) _=_;simp only[g,j];kernel_rfl
 ·show bo (lk .iI k.2) (λ v=>aE (aC.cZ k.1 .iI) v) _=_;simp only[i,j];kernel_rfl
theorem YS.tw{prm top x m e l w}(a:lk x V=aa (.lst l))(c:YE D prm top e V O (.ok (v,h)))(g:nE m l [v]=aa w)(i:qE m=ae):YS D prm top (.expr (.bx (.var x) m [e] [])) V O (.ok (.next,put x (.lst w.2) V,h)):=c.up λ N d n q=>by
 show bo (aE (kq (lk x V)) _) _ _=_
 rw[a]
 show R.ax (qE m&&ae) (aY V (dq (rA prm d N top n) [e] [] V O) λ j O=>R.opt ((lk x V).bind IV.dX) λ l=>R.opt (nE m l j.1) λ w=>.ok (.next,put x (.lst w.2) V,O))=_
 simp only[i,qv (show ik _ [e] V O=.ok ([v],h) by show R.aw _ _=_;rw[q];show R.ax (cR e v||ae) _=_;rw[gz];rfl)]
 rw[a]
 show R.opt (nE m l [v]) _=_
 rw[g];rfl
theorem YS.Y6{prm top x e z}(a:((mJ e).bind λ c=>(aC.fn c.1).map λ g=>(g,c.2))=none)(g:YE D prm top e V O (.exc z)):YS D prm top (.asg x e) V O (.exc (z.1,V,z.2)):=g.up λ N d n q=>by
 show bo _ _ _=_
 rw[a]
 show aY V _ _=_
 rw[q];rfl
theorem Q9{prm top a x c d p q r s}(i:YT D prm top a V O (.ok (p,O)))(j:YT D prm top x V O (.ok (q,O)))(k:YT D prm top c V O (.ok (r,O)))(l:YT D prm top d V O (.ok (s,O))):YT D prm top (.bool .Or [a,x,c,d]) V O (.ok (p||(q||(r||(s||ai))),O)):=
 ((i.both j).ek (k.both l) λ N m n e g=>DL (aD oL e) (DL (aD sW e) (DL (aD oL g) (DL (aD sW g) rfl))))
theorem bo8(hS:rz V got)(L:lk .iY V=aa t)(M:dF t=aa u)(N:got.length<=10000):∃H,mL V H/\rz H (got++[u])/\∀y,YB D bz ae [.asg .iY AX] H O y->YB D bz ae ET V O y:=by
 refine aB λ Y m=>?_;revert M;refine av λ c Q=>av λ Y U=>av λ i X=>av λ a Z=>av λ g h5=>av λ v j=>bR λ A a0=>?_;subst a0;refine m ?_;obtain rfl:=pk Q;refine aB ?_;clear m;intro _ m;have B:=bP ap7 (ib X);revert B;refine aV λ k1=>aV λ k2=>aV λ k3=>aV λ n B=>?_;have a8:∀d∈[Nm.wq,.vk,.wt,.vD],(aC.ba d).isSome=ae:=λ d hd=>bP by5 hd;have o:∀{x w V},x≠.cz->lk x (put .cz w V)=lk x V:=λ p=>bc p;refine dJ (DB Z k2) λ m1 C a2 a3=>?_;refine dJ (DB h5 k3) λ m2 E b2 b3=>?_;have s:∀{w},lk .iY (put .cz w V)=aa (.ba c.1 c.2):=λ{w}=>(o ⋯).trans L;have z:∀{d},d∈[Nm.wq,.vk,.wt,.vD]->yu aC d=aa (.cls d)->YT D bz ae (Az d) (put .cz .none V) O (.ok (aX c.1.id d.id,O)):=λ hd a9=>.of (λ r=>rfl) (YE.qA s a9 k1 (a8 _ hd)) rfl;have T:=Q9 (z (.head _) ∅) (z (.tail _ (.head _)) ∅) (z (.tail _ (.tail _ (.head _))) ∅) (z (.tail _ (.tail _ (.tail _ (.head _)))) ∅);rw[MF]at T;have T:YT D bz ae _ _ _ (.ok (wx c.1,O)):=T;refine m ?_;obtain⟨e,e1,I,k,e4⟩:∃e,mL V e/\rz e got/\(lk .cz e=aa v/\lk .iY e=aa (.ba c.1 c.2))/\∀y,YB D bz ae (ET.drop 2) e O y->YB D bz ae ET V O y:=by
  have s0:mL V V:=λ Y Y Y Y=>rfl;have o1:∀{w V},rz V got->rz (put .cz w V) got:=λ p=>⟨(o ⋯).trans p.1,(o ⋯).trans p.2⟩
  rcases q:wx c.1 with _|_
  ·rw[q]at j T;cases j;exact nN _ (s0.put (.inr (.inl rfl))) (o1 hS) ⟨cj,s⟩ (λ y l=>.cons (.asg rfl .con rfl ∅) (.cons (.gk T .nil) l))
  ·rw[q]at j T n;have j:lk .fR c.2=aa v:=j;have n:aC.cZ c.1 .fR=ae:=n;refine nN _ ((s0.put (.inr (.inl rfl))).put (.inr (.inl rfl))) (o1 (o1 hS)) ⟨cj,(o ⋯).trans s⟩ (λ y l=>.cons (.asg rfl .con rfl ∅) (.cons (.jx T (.cons (.asg rfl (.attr (.var s) ?_) A ∅) .nil)) l));show bo (lk .fR c.2) (λ v=>aE (aC.cZ c.1 .fR) v) _=_;simp only[j,n];rfl
 have b0:cG aC (.ba c.1 c.2) .ni O=aa i:=by
  show bo (lk .ni c.2) _ (lk c.1 rS)=_;simp only[lY (iZ U),X];rfl
 have J:az i=ae:=by
  have:=bP (p:=λ x:Nm×IV=>az x.2) ∅ (ib X);exact this
 refine ec (put .om (.lst (got++[.tup [i,v,.int a.1,.int a.2,.int g.1,.int g.2]])) e) (e1.put (.inr (.inr rfl))) ⟨(bc ⋯).trans I.1,cj⟩ (λ y l=>e4 y (.cons (.tw (w:=(.none,got++[.tup [i,v,.int a.1,.int a.2,.int g.1,.int g.2]])) I.2 (.tup (.cons (.attr (.var k.2) b0) ?_ (.cons (.var k.1) ?_ (.cons (.attr (.attr (.var k.2) C) a2) rfl (.cons (.attr (.attr (.var k.2) C) a3) rfl (.cons (.attr (.attr (.var k.2) E) b2) rfl (.cons (.attr (.attr (.var k.2) E) b3) rfl .nil)))))) ?_ (by show 6<=10000;decide)) ?_ rfl) l))
 ·show(az i||_||_||_)=ae;rw[J];rfl
 ·show(az v||_||_||_)=ae;rw[A];rfl
 ·show(az i&&(az v&&_))=ae;simp only[J,A];rfl
 ·show(if 10000<got.length then none else aa (IV.none,got++[.tup [i,v,.int a.1,.int a.2,.int g.1,.int g.2]]))=_;rw[aM (Nat.not_lt.mpr N)]
end
section
variable{V:Loc}{O h:St}{got b:af IV}{f:ak ((ag×ag)×ak (ag×ag))}{t u v:IV}
theorem bX.len(L:bX got O b f):got.length<=b.length:=by
 induction L with
 |tok a i c d e j k g x=>rw[bp]at x;exact aj (ck ..) x
 |fin a=>exact ca _
 |exc a i=>exact ca _
noncomputable abbrev Ds:IS:=.asg .iY AX
noncomputable def Ul(V:Loc)(O:St)(b:af IV)(f:ak ((ag×ag)×ak (ag×ag))):Prop:=∃x h,mL V x/\rz x b/\match f with
 |none=>∃a c,YS 21 bz ae Ds V O (.ok (.next,a,c))/\YS 21 bz ae JD a c (.ok (.next,x,h))
 |some m=>∃e,lP e=aa m/\(YS 21 bz ae Ds V O (.exc (e,x,h))\/∃a c,YS 21 bz ae Ds V O (.ok (.next,a,c))/\YS 21 bz ae JD a c (.exc (e,x,h)))
theorem IC{y}(hS:rz V got)(x:eg .km O=ae)(a:YM 21 .km [.obj] O y):YE 21 bz ae AX V O y:=by
 revert x;refine gn λ d c x=>?_;subst c;exact .kh hS.1 ∅ x a
theorem PF{x}(a:lk .iY V=aa t)(c:t.cL=x):YT 21 bz ae (.cmp .IsNot (.var .iY) (.con .none)) V O (.ok (!x,O)):=.cmp (.var a) (by unfold cR;simp only[show(IE.var Nm.iY).asVar.isSome=ae from rfl,gz]) .con (by show aa (!t.cL)=_;rw[c])
theorem mL.trans{a d c}(k:mL a d)(g:mL d c):mL a c:=λ x e i j=>(g x e i j).trans (k x e i j)
theorem XZ(L:bX got O b f)(l:eg .km O=ae):b.length<=10000->∀{V},rz V got->Ul V O b f:=by
 induction L with
 |@tok got O i t tk tn u b f a n c d e j q g r=>
  intro hd V hS;have s:=g.len;rw[bp]at s;have w:∃c:Nm×af (Nm×IV),t=.ba c.1 c.2:=by obtain⟨c,y,_⟩:=uw q;exact⟨c,pk y⟩
  refine aI (w) λ k z=>?_;clear w;subst z;have A:YS 21 bz ae Ds V O _:=.asg rfl (IC hS l (G6 a n c d e rfl)) rfl ∅;have H:mL V (put .iY (.ba k.1 k.2) V):=mL.put (λ Y Y Y Y=>rfl) (.inl rfl);refine dJ (bo8 (D:=21) (O:=aa (put .fS (.lst tk) (put .iU (.int (tn+1)) i))) (⟨(bc ⋯).trans hS.1,(bc ⋯).trans hS.2⟩) cj q (aj (aj (ck _ _) s) hd)) λ Z C D B=>?_;have T:=PF (O:=aa (put .fS (.lst tk) (put .iU (.int (tn+1)) i))) (V:=put .iY (.ba k.1 k.2) V) cj rfl;have E:eg .km (aa (put .fS (.lst tk) (put .iU (.int (tn+1)) i)))=ae:=by
   show(lk .km (put .fS _ (put .iU _ i))).isNone=ae;rw[bc ⋯,bc ⋯];exact j
  refine dC (r E hd D) λ I h J M R=>?_;refine gm I h ((H.trans C).trans J) M ?_;clear r g;obtain _|m:=f
  ·refine cu (R) λ N Q o p=>?_;exact gR _ _ A (.ti T (B _ (.cons o .nil)) p)
  ·refine aG (R) λ x U R=>?_;refine aL x U (.inr ⟨_,_,A,?_⟩);obtain R|⟨N,Q,o,p⟩:=R
   ·exact .Vu T (B _ (.exc R))
   ·exact .ti T (B _ (.cons o .nil)) p
 |@fin got O a0 a8 ln cl dn fl tn a9 b0 ask ks a=>
  intro hd V hS;exact⟨_,_,mL.put (λ Y Y Y Y=>rfl) (.inl rfl),⟨(bc ⋯).trans hS.1,(bc ⋯).trans hS.2⟩,_,_,(.asg rfl (IC hS l (Zg a ∅)) rfl ∅),.wa (PF cj rfl)⟩
 |@exc got O e m a n=>
  intro hd V hS;refine aI (by0 a) λ h X=>?_;exact⟨V,h,λ Y Y Y Y=>rfl,hS,e,n,.inl (.Y6 rfl (IC hS l X))⟩
end
section
variable{r:bh}{hB:af IS->Loc->St->RS}{V j:Loc}{O h d:St}{v w u:IV}{x y f:Nm}{e a b t:IE}{i:af IV}{l:af IE}
theorem TO(c:r.E e V O=.ok (v,h))(k:(cR e v||l.isEmpty)=ae)(g:ik r l V h=.ok (i,d)):ik r (e::l) V O=.ok (v::i,d):=by
 show R.aw _ _=_;rw[c];show R.ax _ _=_;rw[k];rw[g];rfl
theorem DI(g:r.E a V O=.ok (v,O))(k:r.E b V O=.ok (w,O))(c:az v=ae)(m:az w=ae):(nR r hB).E (.tup [a,b]) V O=.ok (.tup [v,w],O):=by
 show R.aw (ik r [a,b] V O) _=_;rw[TO g (by unfold cR;rw[c];rfl) (TO k (by rw[Bool.or_comm];rfl) rfl)];show R.ax ((az v&&(az w&&ae))&&decide (2<=10000)) _=_;rw[c,m];rfl
theorem Oy{c z}(k:r.T t V O=.ok (c,h))(g:(bif c then r.E a V h else r.E b V h)=z):(nR r hB).E (.ite t a b) V O=z:=by
 show R.aw _ _=_;rw[k];exact g
theorem bo1(k:((mJ e).bind λ c=>(aC.fn c.1).map λ g=>(g,c.2))=none)(m:r.E e V O=.ok (v,h))(hv:az v=ae)(n:r.prm.contains x=ai):(nR r hB).S (.asg x e) V O=.ok (.next,put x v V,h):=by
 show bo _ _ _=_;rw[k];show aY V _ _=_;rw[m];show R.ax ((az v||_)&&(!(r.prm.contains x)||_)) _=_;rw[hv,n];rfl
theorem bz1(c:r.E e V O=.ok (.tup [v,w],h))(g:az v=ae)(k:az w=ae)(m:r.prm.contains x=ai)(n:r.prm.contains y=ai):(nR r hB).S (.ya x y e) V O=.ok (.next,put x v (put y w V),h):=by
 show aY V _ _=_;rw[c];show R.ax (az v&&az w&&(!(r.prm.contains x)||_)&&(!(r.prm.contains y)||_)) _=_;simp only[g,k,m,n];rfl
end
theorem XB{r h c x e k V O}(hd:e.1.nh=aa k)(a:aC.sub k.1 c=ae)(b:(aC.exc c).isSome=ae)(d:r.top=ae)(f:r.prm.contains x=ai)(g:r.H h (put x e.1 e.2.1) e.2.2=.ok (.next,V,O)):rL aC r c (aa x) h (.exc e)=.ok (.next,V.filter (λ p=>!decide (p.1=x)),O):=by
 unfold rL;simp only[R.opt,hd,a,b,d,fT,f,g];rfl
theorem NL{prm d N top}:∀m,(rA prm d N top m).top=top
 |0=>rfl
 |m+1=>NL m
theorem Uq{prm d top}:∀m,(iB aC prm d top m).prm=prm
 |0=>rfl
 |m+1=>Uq m
noncomputable def UN:af IS:=[.ya .qk .mw (.tup [.attr (.var .nM) .tD,.attr (.var .nM) .qw]),
 .asg .kn (.tup [.tup [.attr (.var .qk) .mv,.attr (.var .qk) .iI],.ite (.cmp .Is (.var .mw) (.con .none)) (.con .none) (.tup [.attr (.var .mw) .mv,.attr (.var .mw) .iI])])]
theorem M3:jg.body.getD 13 .bad=.ny zM .oh (aa .nM) UN:=∅
noncomputable def kx(p:ag×ag):IV:=.tup [.int p.1,.int p.2]
noncomputable def Kg(q:ak (ag×ag)):IV:=match q with|none=>.none|some q=>kx q
noncomputable def qG(m:ak ((ag×ag)×ak (ag×ag))):IV:=match m with|none=>.none|some (p,q)=>.tup [kx p,Kg q]
section
variable{V h:Loc}{O a:St}{got f:af IV}{b:ak ((ag×ag)×ak (ag×ag))}{D:ah}{l:af IS}
theorem yw{r hB c x v w}{V:Loc}{O}(d:lk x V=aa v)(g:∀{O},cG aC v c O=aa w):(nR (nR r hB) hB).E (.attr (.var x) c) V O=.ok (w,O):=JW (qK d) g
theorem ap0{c:Nm×af (Nm×IV)}{m}(t:lP (.ba c.1 c.2)=aa m):∃u,(∀{d k},(iB aC bz d ae (k+9)).B UN (put .nM (.ba c.1 c.2) V) O=.ok (.next,u,O))/\lk .kn u=aa (qG (aa m))/\∀x,x≠.qk->x≠.mw->x≠.nM->x≠.kn->lk x u=lk x V:=by
 refine aB λ Y Q=>?_;replace t:((aE (aX c.1.id Nm.oh.id) ()).bind λ Y=>(mH .tD c.2).bind λ p=>(lk .qw c.2).bind λ m=>bif m.cL then aa (p,none)else(mH .qw c.2).map λ q=>(p,aa q))=aa m:=t;revert t;refine av λ Y w=>av λ p j=>av λ mk n o=>?_;have y:=nC (iZ w);have hp:∀{d} m,(iB aC bz d ae m).prm.contains .qk=ai/\(iB aC bz d ae m).prm.contains .mw=ai/\(iB aC bz d ae m).prm.contains .kn=ai:=λ m=>by rw[Uq];exact dB ∅ ∅ ∅
 refine dJ (DB (c:=c.1) j (by rw[y];kernel_rfl)) λ r C T U=>?_;have E:∀{O},cG aC (.ba c.1 c.2) .qw O=aa mk:=λ{O}=>by
  show bo (lk .qw c.2) (λ v=>aE (aC.cZ c.1 .qw) v) _=_;rw[n,y];kernel_rfl
 have I:az r=ae:=by
  revert j;refine av λ J z=>av λ Z H g=>?_;have:=C (O:=none);have e:cG aC (.ba c.1 c.2) .tD none=aE (aC.cZ c.1 .tD) J:=by
   show bo (lk .tD c.2) (λ v=>aE (aC.cZ c.1 .tD) v) _=_;rw[z];rfl
  rw[e]at this;rw[<-(AO this),pk H];rfl
 refine Q ?_;obtain⟨L,q,hq,hE⟩:az mk=ae/\∃q,aa m=aa (p,q)/\∀{V d k},lk .mw V=aa mk->(iB aC bz d ae (k+4)).E (.ite (.cmp .Is (.var .mw) (.con .none)) (.con .none) (.tup [.attr (.var .mw) .mv,.attr (.var .mw) .iI])) V O=.ok (Kg q,O):=by
  rcases X:mk.cL with _|_
  ·rw[X]at o;revert o;refine dQ λ q s h5=>?_;refine dJ (DB (c:=c.1) s (by rw[y];kernel_rfl)) λ m2 b1 b2 b3=>?_;have A:=aS ((E (O:=none)).symm.trans b1);subst A;revert s;refine av λ J z=>av λ Z H g=>?_;have e3:=aS (z.symm.trans n);subst e3;have B:=pk H;refine⟨by rw[B];rfl,aa q,h5.symm▸rfl,λ{V d k} i=>Oy (Bt (t:=ai) (qK i) (by rw[B];rfl) rfl (by rw[B];rfl)) ?_⟩;exact DI (yw i b2) (yw i b3) rfl rfl
  ·rw[X]at o;obtain rfl:=rZ X;exact⟨rfl,none,o.symm,λ{V d k} i=>Oy (Bt (qK i) rfl rfl rfl) rfl⟩
 have M:lk .nM (put .nM (.ba c.1 c.2) V)=aa (.ba c.1 c.2):=cj;refine ec (put .kn (qG (aa m)) (put .qk r (put .mw mk (put .nM (.ba c.1 c.2) V)))) (λ{d k}=>?_) cj (λ x w j n s=>by rw[bc s,bc w,bc j,bc n]);have N:lk .qk (put .qk r (put .mw mk (put .nM (.ba c.1 c.2) V)))=aa r:=cj;have hv:qG (aa m)=.tup [kx p,Kg q]:=by cases hq;rfl
 replace A:=bo1 (hB:=jQ) rfl (DI (hB:=jQ) (DI (r:=iB aC bz d ae (k+4)) (hB:=jQ) (yw (r:=iB aC bz d ae (k+2)) (hB:=jQ) N T) (yw (r:=iB aC bz d ae (k+2)) (hB:=jQ) N U) rfl rfl) (hE (k:=k+1) ((bc ⋯).trans cj)) rfl (by obtain _|_:=q<;>rfl)) rfl (hp _).2.2;rw[hv];exact yP (r:=iB aC bz d ae (k+8)) (hB:=jQ) (bz1 (r:=iB aC bz d ae (k+7)) (hB:=jQ) (x:=.qk) (y:=.mw) (O:=O) (V:=put .nM (.ba c.1 c.2) V) (DI (r:=iB aC bz d ae (k+6)) (hB:=jQ) (yw (r:=iB aC bz d ae (k+4)) (hB:=jQ) M C) (yw (r:=iB aC bz d ae (k+4)) (hB:=jQ) M E) I L) I L (hp _).1 (hp _).2.1) (yP (r:=iB aC bz d ae (k+7)) (hB:=jQ) A rfl)
theorem ai5(Q:Ul V O f b)(v:lk .kn V=aa .none):∃h a,YS 21 bz ae (jg.body.getD 13 .bad) V O (.ok (.next,h,a))/\lk .om h=aa (.lst f)/\lk .kn h=aa (qG b)/\∀x∈[Nm.bY,.ir],lk x h=lk x V:=by
 refine dC (Q) ?_;clear Q;intro h a o hS Q;rw[M3];have hd:∀x∈[Nm.bY,.ir,.kn],x≠.iY/\x≠.cz/\x≠.om/\x≠.qk/\x≠.mw/\x≠.nM:=by decide
 obtain _|m:=b
 ·refine cu (Q) λ w y q r=>?_;have g:=hd .kn (.tail _ (.tail _ (.head _)));refine qq h a (.ny (by rw[OY];exact .cons q (.cons r .nil))) hS.2 ((o _ g.1 g.2.1 g.2.2.1).trans v) (λ x i=>?_);have g:=hd x ((by decide:∀x∈[Nm.bY,.ir],x∈[Nm.bY,.ir,.kn]) x i);exact o _ g.1 g.2.1 g.2.2.1
 ·refine aG (Q) ?_;clear Q;intro e s Q;have X:YB 21 bz ae zM V O (.exc (e,h,a)):=by
   rw[OY];obtain Q|⟨w,y,q,r⟩:=Q
   ·exact .exc Q
   ·exact .cons q (.exc r)
  refine iD s λ c z=>av λ Y A Y=>?_;obtain rfl:=pk z;refine aI (X) ?_;clear X;intro k X;refine dJ (ap0 (V:=h) (O:=a) s) λ B H C t=>?_;refine qq (B.filter (λ p=>!decide (p.1=.nM))) a ⟨k+12,λ N d n E I u=>?_⟩ ?_ ?_ (λ x i=>?_)
  ·obtain⟨j,rfl⟩:=mN (aj (aj (by decide:11<=12) (fD 12 k)) u);show rL aC (rA bz d N ae (j+10)) _ _ _ ((rA bz d N ae (j+10)).B zM V O)=_;rw[show(rA bz d N ae (j+10)).B zM V O=.exc (.ba c.1 c.2,h,a)from X N d (j+10) (aj (ck _ _) E) I (Nat.le_of_add_le_add_right (aj (ma (by decide:1<=12) k) u))];exact XB (k:=(c.1,c.2)) rfl (by rw[(nC (iZ A))];kernel_rfl) ∅ (NL _) (by rw[(jh _).2.1];kernel_rfl) (H)
  ·rw[yL ⋯,t _ ⋯ ⋯ ⋯ ⋯];exact hS.2
  ·rw[yL ⋯];exact C
  ·have g:=hd x ((by decide:∀x∈[Nm.bY,.ir],x∈[Nm.bY,.ir,.kn]) x i);rw[yL g.2.2.2.2.2,t _ g.2.2.2.1 g.2.2.2.2.1 g.2.2.2.2.2 ((by decide:∀x∈[Nm.bY,.ir],x≠.kn) x i)];exact o _ g.1 g.2.1 g.2.2.1
end
mutual
theorem Tx:∀(n:ah)(d:Dat),iO n d=ae->(oH d).canLay0=ae
 |_,.none,_=>by simp[oH,GD]
 |_,.int _,_=>by simp[oH,GD]
 |_,.str x,h=>by simp only[iO]at h;simpa[oH,GD]using h
 |n+1,.tuple a,h=>by simp only[iO]at h;simpa[oH,GD]using JK n a h
 |n+1,.list a,h=>by simp only[iO]at h;simpa[oH,GD]using JK n a h
 |0,.tuple _,h=>by simp[iO]at h
 |0,.list _,h=>by simp[iO]at h
 |_,.bool _,h=>by simp[iO]at h
 |_,.bytes _,h=>by simp[iO]at h
theorem JK:∀(n:ah)(x:af Dat),x.all (iO n)=ae->Xs (FQ x)=ae
 |_,[],_=>by simp[FQ,Xs]
 |n,d::x,h=>by
  obtain⟨a,b⟩:=ej h
  simp only[FQ,Xs,Tx n d a,JK n x b,Bool.and_self]
end
theorem eq_self{v}(h:tF v=ae)(x:v.cn=none)(a:v.de=none):eX .Eq v v=aa ae:=by
 show(hX v v _).or ((rI v v _).or (aE (tF v&&tF v) (PyData.eqv (oH (iz v)) (oH (iz v)))))=_;delta hX rI;rw[x,a,h,PySem.SeqAt.eqv_refl _ (Tx 8 _ h)];rfl
noncomputable def eG(u:IV):al:=iO 7 (iz u)
theorem ar6{l}(h:l.all eG=ae):(qf l).all (iO 7)=ae:=by
 induction l with
 |nil=>rfl
 |cons v l x=>show(iO 7 (iz v)&&(qf l).all (iO 7))=ae;simp only[x (aP h),Cc];exact(aH h)
theorem br5{l}(h:l.all eG=ae):tF (.lst l)=ae:=by
 exact ar6 h
theorem au0(m:ak ((ag×ag)×ak (ag×ag))):eX .Eq (qG m) (qG m)=aa ae:=by
 match m with
 |none=>exact eq_self rfl rfl rfl
 |some (p,none)=>exact eq_self rfl rfl rfl
 |some (p,aa q)=>exact eq_self rfl rfl rfl
theorem wL{k n a b}(h:iO 6 (iz k)=ae):eG (atT k .none n a b)=ae:=by
 show iO 7 (.tuple [iz k,.none,.int n,.int a,.int n,.int b])=ae;simp only[iO,cf3,h];rfl
theorem bw1(n a:ag):((gi 10).all λ j=>(eU n a (ed j)).all eG)=ae:=∅
section
variable{n:ag}
theorem as7{c a}(h:c∈cK):eG (kI c n a)=ae:=wL (bP (p:=λ c=>iO 6 (iz (.str [c]))) ∅ h)
theorem bg9{a}:eG (cJ n a)=ae:=wL ∅
theorem QD{c a b}:eG (atT (fW c) .none n a b)=ae:=wL (by unfold fW;obtain _|_:=aX c 45<;>kernel_rfl)
theorem NT{k a}(h:aF k=ae\/k∈cK):(mD k n a).all eG=ae:=by
 unfold mD;rcases q:aF k with _|_
 ·show(eG (kI k n a)&&ae)=ae;rw[as7 (h.resolve_left (by rw[q];nofun))];rfl
 ·exact bP (bw1 n a) (ku q)
theorem Sp{k a}:(mD k n a).length<=10:=by
 unfold mD;rcases q:aF k with _|_
 ·exact(by decide:1<=10)
 ·show(eU n a (ed k)).length<=10;unfold eU;rw[bF];exact eQ (aH ((aP (bP yF (ku q)))))
theorem EK{c st}:(bt c st).length<=st.length:=by
 induction st with
 |nil=>exact ca _
 |cons d r h=>
  unfold bt;by_cases q:c<d
  ·rw[aT q];exact xv h
  ·rw[aM q];exact ca _
theorem Ll{k a}:(aJ k (cJ n a)).all eG=ae:=List.all_eq_true.mpr λ x h=>by rw[co5 h];exact bg9
noncomputable def ll(l:af ah):al:=l.all λ k=>aF k||cK.contains k
theorem bh5{A u p s q t N L}(h:A+u=N)(x:p+s<=u+2)(a:q<=1)(b:t<=10):A+p+q+t+s+13*L<=N+13*(L+1):=by
 rw[<-h,co6,<-pO];have e:A+p+q+t+s=A+(p+s)+(q+t):=by rw[pO (A+p),oz (A+p),pO A]
 exact aj (lG (show _<=A+(u+2)+11 from e▸cU (ma x A) (cU a b)) _) (cx (show A+u+13+13*L=_ from oz _ _ _))
theorem Pd{k n a u b}:((bif b then[atT (fW k) .none n a a]else[]).all eG=ae)/\(bif b then[atT (fW k) .none n a a]else[]).length+(bif b then a::u else u).length<=u.length+2:=by
 obtain _|_:=b
 ·exact⟨rfl,aj (cx (xe _)) (ck _ 2)⟩
 ·exact⟨(aD (·&&ae) QD).trans rfl,cx (nH 1 _)⟩
theorem QQ{n a b}:((bif b then[atT (.str [63]) .none n a a]else[]).all eG=ae)/\(bif b then[atT (.str [63]) .none n a a]else[]).length<=1:=by
 obtain _|_:=b
 ·exact⟨rfl,cg _⟩
 ·exact⟨(aD (·&&ae) (wL ∅)).trans rfl,ca _⟩
theorem KG:∀{l a free keyed st due},ll l=ae->due.all eG=ae->((bT n a free keyed l st due).2.1.all eG=ae)/\(bT n a free keyed l st due).2.1.length+(bT n a free keyed l st due).1.length<=due.length+st.length+13*l.length:=by
 intro l;induction l with
 |nil=>exact λ Y h=>⟨h,ca _⟩
 |cons k l e=>
  intro a free keyed st due b hd;refine dG b λ f b=>?_;have x:(due++aJ (st.length-(bt a st).length) (cJ n a)).all eG=ae:=by simp only[mT,hd,Ll];rfl
  have c:(due++aJ (st.length-(bt a st).length) (cJ n a)).length+(bt a st).length=due.length+st.length:=by simp only[bp,gD,pO,BN EK]
  simp only[rR,dh];generalize due++aJ (st.length-(bt a st).length) (cJ n a)=D at x c⊢;have d:D.length+(bt a st).length<=due.length+st.length+13*(l.length+1):=aj (cx c) (ck _ _);refine jf (p:=λ z:af ag×af IV×ak (ag×al)=>z.2.1.all eG=ae/\z.2.1.length+z.1.length<=_) (λ Y=>⟨x,d⟩) λ Y=>jf (p:=λ z:af ag×af IV×ak (ag×al)=>z.2.1.all eG=ae/\z.2.1.length+z.1.length<=_) (λ Y=>⟨x,d⟩) λ Y=>?_;refine bg (e b (by simp only[mT,mT,mT,x,(Pd (u:=[])).1,QQ.1,NT ((gV f).imp id qi)];rfl)) λ g i=>⟨g,aj i ?_⟩
  simp only[bp,bp,bp];exact bh5 c Pd.2 QQ.2 Sp
noncomputable def cnt:af Row->ah
 |[]=>0
 |x::R=>x.2.length+cnt R
theorem au5:∀{R n last st due},(R.all λ x=>ll x.2)=ae->due.all eG=ae->(eF n last R st due).1.all eG=ae/\(eF n last R st due).1.length<=due.length+st.length+13*cnt R+1:=by
 intro R;induction R with
 |nil=>
  intro n last st due _ hd;refine⟨?_,?_⟩
  ·show(due++aJ (st.length-1) (cJ (n-1) last)++[jO (n-1) last]).all eG=ae;simp only[mT,mT,hd,Ll];show(eG (jO (n-1) last)&&ae)=ae;rw[show eG (jO (n-1) last)=ae from wL ∅];rfl
  ·show(due++aJ (st.length-1) (cJ (n-1) last)++[jO (n-1) last]).length<=_;simp only[bp,bp,gD,oO];exact cU (ma (GA _ _) _) ⋯
 |cons x R f=>
  intro n last st due e hd;refine dG e λ g e=>?_;refine bg (KG (n:=n) (a:=x.1) (free:=ae) (keyed:=ai) (st:=st) g hd) λ d b=>?_;show(match bT n x.1 ae ai x.2 st due with
   |(c,h,none)=>eF (n+1) (bb x).length R c h
   |(_,h,aa (a,ae))=>(h,aa (jt (n+1) (bb x).length R,aa (n,a)))
   |(_,h,aa (a,ai))=>(h,aa ((n,a),none))).1.all eG=ae/\(match bT n x.1 ae ai x.2 st due with
   |(c,h,none)=>eF (n+1) (bb x).length R c h
   |(_,h,aa (a,ae))=>(h,aa (jt (n+1) (bb x).length R,aa (n,a)))
   |(_,h,aa (a,ai))=>(h,aa ((n,a),none))).1.length<=due.length+st.length+13*(x.2.length+cnt R)+1
  generalize bT n x.1 ae ai x.2 st due=z at*
  match z,d,b with
  |(c,h,none),d,b=>
   have:=f (n:=n+1) (last:=(bb x).length) (st:=c) (due:=h) e d;exact⟨this.1,aj this.2 (by replace b:h.length+c.length<=due.length+st.length+13*x.2.length:=b;exact gY (by rw[co6,<-pO];exact lG b _))⟩
  |(c,h,aa (a,ae)),d,b=>exact⟨d,by replace b:h.length+c.length<=due.length+st.length+13*x.2.length:=b;exact aj (ck _ _) (aj b (xv (ma (BO 13 (ck _ _)) _)))⟩
  |(c,h,aa (a,ai)),d,b=>exact⟨d,by replace b:h.length+c.length<=due.length+st.length+13*x.2.length:=b;exact aj (ck _ _) (aj b (xv (ma (BO 13 (ck _ _)) _)))⟩
end
noncomputable def fF(n:Nm):Fn:=(aC.fn n).getD ⟨[],[],[]⟩
noncomputable abbrev YF(D:ah)(prm:af Nm)(top:al)(h:af Nm)(x:af IV)(b:af IS)(V:Loc)(O:St)(y:RS):Prop:=Ev D (λ N d n=>(rA prm d N top n).F h x b V O) y
section
variable{D:ah}{prm:af Nm}{top:al}{V V' l:Loc}{O O' p:St}{v:IV}{a:af Nm}{i h:af IV}{b:af IS}{j e:IE}{y:RS}{as:af IE}{f:Nm}{g:Fn}
theorem X8{r}(x:f≠.ij/\f≠.kJ/\f≠.mZ/\f≠.bL)(c:aC.fn f=aa g):nq aC r f h [] O=oq r g h [] O:=by
 unfold nq;rw[aM x.1,aM x.2.1,aM x.2.2.1,aM x.2.2.2,c];rfl
theorem YE.HR{z:RB}(x:nU aC f=ae)(k:f≠.ij/\f≠.kJ/\f≠.mZ/\f≠.bL)(m:aC.fn f=aa g)(o:YA D prm top as V O (.ok (h,O')))(hv:h.all az=ae)(c:YC D g h [] O' z):YE D prm top (.call (.glob f) as []) V O (v1 z):=o.ek c λ N d n q r=>by
 show R.ax (nU aC f) _=_
 rw[x]
 rw[qv q]
 show Internal.nq aC (rA prm d N top n) f h [] O'=_
 rw[X8 k m]
 show R.ax (h.all az&&ae) _=_
 rw[hv]
 rw[vE,r]
 rfl
theorem YC.of{V:Loc}(o:dA g.params g.dflt h []=aa V)(x:YB D g.params ai g.body V O y):YC (D+1) g h [] O (eW y):=by
 refine aI (x) λ k x=>?_;refine⟨k,λ N d n c m q=>?_⟩;obtain⟨d,rfl⟩:=mN (aj (fD 1 _) m);show R.opt _ _=_;rw[o];exact aD eW (x N d N c (pN m) c)
theorem YF.nil:YF D prm top a [] b V O (.ok (.next,V,O)):=.mk λ N d n=>rfl
theorem YF.cons{x}(c:x=.next\/x=.cont)(m:∀r:bh,r.prm=prm->jz r a v V=aa V')(o:YB D prm top b V' O (.ok (x,l,p)))(k:YF D prm top a i b l p y):YF D prm top a (v::i) b V O y:=o.ek k λ N d n q s=>by
 show R.opt (jz (rA prm d N top n) a v V) _=_
 rw[m _ (jh _).2.1]
 show R.loop _ _=_
 rw[q]
 obtain rfl|rfl:=c<;>exact s
theorem YS.Dh{n}(x:rG j=aa (n,as,[]))(c:(!wA j||decide (2<=a.length))=ae)(o:YA D prm top as V O (.ok (h,O')))(q:(if n=.jR then xI h else(one h).bind λ v=>v.de.map (tE 0))=aa i)(k:YF D prm top a i b V O' y):YS D prm top (.jr a j b) V O y:=o.ek k λ N d m r s=>by
 show R.ax (!(rA prm d N top m).quiet&&_) _=_
 simp only[show(rA prm d N top m).quiet=ai from(jh _).1,c]
 show aY V (bo (rG j) _ _) _=_
 rw[x]
 show aY V (R.aw (dq (rA prm d N top m) as [] V O) _) _=_
 rw[qv r]
 show aY V (R.opt (if n=.jR then xI h else _) _) _=_
 rw[q]
 exact s
theorem Dd{r x}(hp:prm.contains x=ai)(c:r.prm=prm)(hv:az v=ae):jz r [x] v V=aa (put x v V):=by
 show(if(!(r.prm.contains x)||_)&&ae then aE (az v) _ else none)=_;simp only[c,hp,hv];rfl
theorem GN{r x y v w}(hp:prm.contains x=ai)(c:prm.contains y=ai)(d:r.prm=prm):jz r [x,y] (.tup [v,w]) V=aa (put y w (put x v V)):=by
 show(if(!(r.prm.contains x)||_)&&((!(r.prm.contains y)||_)&&ae)then _ else none)=_;simp only[d,hp,c];rfl
end
noncomputable def na:af ah:=[32,45,63,58,119,39,113,34,100,42,122,38,120,33,116,91,93,123,101,102,125,35,10]
theorem bi7(N d:ah)(O:St):(na.map λ c=>iS aC (N+40) (d+1) (fF .yD) [.str [c]] [] O)=na.map λ c=>.ok ((.bool ae,[(.nu,.str [c])]),O):=∅
noncomputable abbrev MS:af Nm:=(mF .yp).params
noncomputable def En:af IS:=match(mF .yp).body with|[.jr _ _ b]=>b|_=>[]
noncomputable def N7:af IS:=match En with|[.iff _ a _]=>a|_=>[]
theorem U9:(mF .yp).body=[.jr [.DP,.AA] (.call (.glob .si) [.var .HE] []) En]:=∅
theorem aw7:En=[.iff (.not (.call (.glob .yD) [.var .AA] [])) N7 []]:=∅
theorem ZH:aC.fn .yD=aa (fF .yD):=∅
theorem G9{O}:∀{s i V},(s.all λ c=>na.contains c)=ae->∃x,YF 3 MS ai [.DP,.AA] (tE i s) En V O (.ok (.next,x,O)):=by
 intro s;induction s with
 |nil=>exact λ Y=>⟨_,.nil⟩
 |cons c s a=>
  intro i V h;refine dG h λ b h=>?_;refine aI (a (i:=i+1) (V:=put .AA (.str [c]) (put .DP (.int i) V)) h) λ x k=>?_;refine⟨x,.cons (.inl rfl) (λ r e=>GN ∅ ∅ e) ?_ k⟩;have C:YC 3 (fF .yD) [.str [c]] [] O (.ok ((.bool ae,[(.nu,.str [c])]),O)):=⟨40,λ N d n f g j=>by
   obtain⟨N,rfl⟩:=mN f
   obtain⟨d,rfl⟩:=mN (aj (by decide:1<=3) g)
   exact List.map_inj_left.mp (bi7 N d O) c (List.contains_iff_mem.mp b)⟩
  rw[aw7];exact .cons (.gk (.not (.of (λ r=>rfl) (YE.HR (prm:=MS) (top:=ai) (V:=put .AA (.str [c]) (put .DP (.int i) V)) ∅ ⋯ ZH (.cons (.var cj) rfl .nil) rfl C) rfl)) .nil) .nil
theorem ak0{O s}(h:(s.all λ c=>na.contains c)=ae):YM 4 .yp [.obj,.str s] O (.ok (.none,O)):=by
 refine aI (G9 (O:=O) (i:=0) (V:=[(.bq,.obj),(.HE,.str s)]) h) λ x k=>?_;refine YM.DY (V:=[(.bq,.obj),(.HE,.str s)]) (y:=.ok (.next,x,O)) ∅ ?_;rw[U9];exact .cons (.Dh (n:=.si) rfl rfl (.cons (.var rfl) rfl .nil) rfl k) .nil
section
variable{D:ah}{prm:af Nm}{top:al}{V b:Loc}{O h i:St}{v:IV}{A l:af IS}{y:RS}{e o:IE}{f:Nm}{as:af IE}{a:af IV}
theorem bs8{N d}:∀{A V O n},(rA prm d N top n).B A V O=.ok (.next,b,h)->(rA prm d N top n).B (A++l) V O=(rA prm d N top (n-A.length)).B l b h:=by
 intro A;induction A with
 |nil=>
  intro V O n c;obtain _|n:=n
  ·cbv
  ·obtain⟨⟩:=c;rfl
 |cons s A g=>
  intro V O n c;obtain _|n:=n
  ·cbv
  ·have c:R.ow ((rA prm d N top n).S s V O) (λ V O=>(rA prm d N top n).B A V O)=.ok (.next,b,h):=c;show R.ow ((rA prm d N top n).S s V O) (λ V O=>(rA prm d N top n).B (A++l) V O)=_;rw[show n+1-(s::A).length=n-A.length from Nat.add_sub_add_right _ 1 _];rcases q:(rA prm d N top n).S s V O with _|x|z
   ·rw[q]at c;cbv
   ·rw[q]at c;cbv
   ·rw[q]at c;obtain⟨j,k,m⟩:=z;clear q;cases j with
    |next=>exact g c
    |_=>cases c
theorem YB.app(x:YB D prm top A V O (.ok (.next,b,h)))(g:YB D prm top l b h y):YB D prm top (A++l) V O y:=by
 refine aI (x) λ k x=>?_;refine aI (g) λ p g=>?_;refine⟨k+p+A.length,λ N d n c j m=>?_⟩;show(rA prm d N top n).B (A++l) V O=y;rw[bs8 (x N d n (aj (ck _ _) (aj (ck _ _) c)) j (aj (ck _ _) (aj (ck _ _) m)))];exact g N d _ (aj (fD _ _) (aj (ck _ _) c)) j (Mn (aj (lG (fD _ _) _) m))
theorem YS.rn(x:YE D prm top e V O (.ok (v,h)))(hv:(az v||fresh e)=ae)(c:YE D prm top o V h (.ok (.obj,i)))(g:aC.cZ .bL f=ae)(j:th f v i V=y):YS D prm top (.rn o f e) V O y:=x.ek c λ N d n k m=>by
 show aY V _ _=_
 rw[k]
 show R.ax (az v||fresh e) _=_
 rw[hv]
 rw[m]
 rw[g]
 exact j
theorem YS.nD{g w x}(j:aC.sup=aa g)(k:lk .bq V=aa .obj)(m:YA D prm top as V O (.ok (a,h)))(hv:a.all az=ae)(c:YC D g (.obj::a) [] h (.ok ((w,x),i))):YS D prm top (.nD as) V O (.ok (.next,V,i)):=m.ek c λ N d n p q=>by
 show R.opt (aC.sup) (λ f=>R.ax (!(rA prm d N top n).quiet&&(lk .bq V).any IV.isObj) (aY V (dq (rA prm d N top n) as [] V O) λ a O=>aY V (oq (rA prm d N top n) f (.obj::a.1) [] O) λ Y O=>.ok (.next,V,O)))=_
 rw[j]
 rw[(jh _).1,k]
 rw[qv p]
 show aY V (R.ax (((IV.obj::a).all az)&&ae) (R.aw ((rA prm d N top n).C g (.obj::a) [] h) _)) _=_
 rw[show(IV.obj::a).all az=ae from hv,vE,q]
 rfl
end
noncomputable def Ba:Fn:=iH vR.s
noncomputable def Jw:af (Nm×IV):=[(.vC,.none),(.uq,.none),(.Lf,.int 0),(.KU,.bool ae),(.oi,.str []),(.mA,.int 0),(.qr,.none),(.IZ,.none),(.DF,.none),(.pI,.int 0),(.mv,.int 0),(.iI,.int 0)]
noncomputable def Iz:af ah:=[60,117,110,105,99,111,100,101,32,115,116,114,105,110,103,62]
noncomputable abbrev Sr(f:Nm)(e:IE):IS:=.rn (.var .bq) f e
theorem ah3:Ba.body=Ba.body.take 12++[.iff (.call (.glob .kJ) [.var .uq,.glob .mW] []) [Sr .vC (.con (.str Iz)),.expr (.bx (.var .bq) .yp [.var .uq] []),Sr .oi (.bin .Add (.var .uq) (.con (.str [0])))] []]:=∅
noncomputable def lR(s:af ah):Loc:=[(.bq,.obj),(.uq,.str s)]
theorem bb8(N d n:ah)(s:af ah):(rA Ba.params d N ai (n+40)).B (Ba.body.take 12) (lR s) (aa [])=.ok (.next,lR s,aa Jw):=∅
theorem bi0:(mF .lL).body=.nD [.var .uq]::(mF .lL).body.tail:=∅
noncomputable def Ah(s:af ah):af (Nm×IV):=put .oi (.str s) (put .vC (.str Iz) Jw)
noncomputable def tY(b:af ah)(tk:af IV):af (Nm×IV):=Ah b++[(.yX,.bool ai),(.zV,.int 0),(.fS,.lst tk)]
noncomputable def xQ:af IS:=(mF .lL).body.tail
theorem M1:xQ=xQ.take 3++(.expr (iG .vp)::xQ.drop 4):=∅
theorem ai3(N d n:ah)(s b:af ah):(rA (mF .lL).params d N ai (n+40)).B (xQ.take 3) (lR s) (aa (Ah b))=.ok (.next,lR s,aa (tY b [])):=∅
theorem ZD(N d n:ah)(s b:af ah):(rA (mF .lL).params d N ai (n+40)).B (xQ.drop 4) (lR s) (aa (tY b [qc b]))=.ok (.next,lR s,sF b 0 0 0 0 [qc b] 0 (-1) [] ae []):=∅
theorem bd1(N d n:ah)(b:af ah):(rA (mF .Dl).params d N ai (n+40)).B (mF .Dl).body lS (aa (tY b []))=.ok (.ret (markV 0 0 0 b),lS,aa (tY b [])):=∅
theorem ba1:(mF .vp).body=.asg .rW (iG .Dl)::(mF .vp).body.tail:=∅
theorem bb0(N d n:ah)(b:af ah):(rA (mF .vp).params d N ai (n+40)).B (mF .vp).body.tail [(.bq,.obj),(.rW,markV 0 0 0 b)] (aa (tY b []))=.ok (.next,[(.bq,.obj),(.rW,markV 0 0 0 b)],aa (tY b [qc b])):=∅
theorem YB.run{D prm top l V O y}(h:∀N d n,(rA prm d N top (n+40)).B l V O=y):YB D prm top l V O y:=⟨40,λ N d n Y Y x=>by
 obtain⟨n,rfl⟩:=mN x
 exact h N d n⟩
theorem ak3{s b}:YB 9 (mF .lL).params ai xQ (lR s) (aa (Ah b)) (.ok (.next,lR s,sF b 0 0 0 0 [qc b] 0 (-1) [] ae [])):=by
 have f:YM 9 .vp [.obj] (aa (tY b [])) (.ok (.none,aa (tY b [qc b]))):=by
  refine YM.of (V:=lS) (y:=.ok (.next,[(.bq,.obj),(.rW,markV 0 0 0 b)],_)) ∅ ?_;rw[ba1];exact .cons (.asg rfl (.kh rfl ∅ ∅ (YM.of ∅ (.run λ N d n=>bd1 N d n b))) rfl ∅) (.run λ N d n=>bb0 N d n b)
 rw[M1];exact .app (.run λ N d n=>ai3 N d n s b) (.cons (.expr (mX rfl) (.kh rfl ∅ ∅ f)) (.run λ N d n=>ZD N d n s b))
theorem EV{s t}(h:s.length+t.length<=10000):lX .Add (.str s) (.str t)=aa (.str (s++t)):=by
 show(aE (decide (s.length+t.length<=10000)) (IV.str (s++t))).or _=_;rw[bK h];rfl
theorem aq4{s}(h:(s.all λ c=>na.contains c)=ae)(x:s.length<=1000):∃V,YC 5 Ba [.obj,.str s] [] (aa []) (.ok ((.none,V),aa (Ah (s++[0])))):=by
 refine⟨lR s,YC.of (V:=lR s) (y:=.ok (.next,lR s,_)) ∅ ?_⟩;rw[ah3];exact .app (.run λ N d n=>bb8 N d n s) (.cons (.jx (.of (λ r=>rfl) (.nq ∅ (.cons (.var rfl) rfl (.cons (.glob (v:=.cls .mW) ∅) rfl .nil)) λ N d n=>by rfl) rfl) (.cons (O':=aa (put .vC (.str Iz) Jw)) (.rn .con rfl (.var rfl) ∅ ∅) (.cons (.expr (mX rfl) (.KO rfl ∅ ∅ (.var rfl) rfl (ak0 h))) (.cons (.rn (V:=lR s) (.bin (.var rfl) rfl .con (EV (by exact eK x ⋯))) rfl (.var rfl) ∅ ∅) .nil)))) .nil)
theorem Zs{s}(h:(s.all λ c=>na.contains c)=ae)(x:s.length<=1000):YM 10 .lL [.obj,.str s] (aa []) (.ok (.none,sF (s++[0]) 0 0 0 0 [qc (s++[0])] 0 (-1) [] ae [])):=by
 refine aI (aq4 h x) λ V C=>?_;refine YM.DY (V:=lR s) (y:=.ok (.next,lR s,_)) ∅ ?_;rw[bi0];exact .cons (.nD ∅ rfl (.cons (.var rfl) rfl .nil) rfl (C.le ⋯)) ak3
theorem B9{r h x}:nq aC r .bL h x none=R.opt (aC.bx .lL) λ g=>(oq r g (.obj::h) x (aa [])).aw λ v O=>R.ax v.cL (.ok (.obj,O)):=by
 rfl
theorem YE.al5{D prm top V s e}(a:YE (D+10) prm top e V none (.ok (.str s,none)))(h:(s.all λ c=>na.contains c)=ae)(b:s.length<=1000):YE (D+10) prm top (.call (.glob .bL) [e] []) V none (.ok (.obj,sF (s++[0]) 0 0 0 0 [qc (s++[0])] 0 (-1) [] ae [])):=a.ek ((Zs h b).le (fD ..)) λ N d n f x=>by
 show R.ax (nU aC .bL) _=_
 rw[show nU aC .bL=ae by kernel_rfl]
 show R.aw (dq _ [e] [] V none) _=_
 rw[qv (show ik _ [e] V none=.ok ([.str s],none) by show R.aw _ _=_;rw[f];show R.ax (cR e (.str s)||ae) _=_;rw[gz];rfl)]
 simp only[B9,Aj (m:=.lL) ∅]
 show R.aw (R.aw ((rA prm d N top n).C (mF .lL) [.obj,.str s] [] (aa [])) _) _=_
 rw[vE]
 have x:R.aw (iS aC N d (mF .lL) [.obj,.str s] [] (aa [])) (λ v O=>.ok (v.1,O))=.ok (.none,sF (s++[0]) 0 0 0 0 [qc (s++[0])] 0 (-1) [] ae []):=x
 rw[x]
 rfl
section
variable{D:ah}{prm:af Nm}{top:al}{V i:Loc}{O h f:St}{v w:IV}{e a b:IE}{x m:Nm}
theorem YS.xU(j:((mJ e).bind λ c=>(aC.fn c.1).map λ g=>(g,c.2))=none)(g:YE D prm top e V O (.ok (v,h)))(hv:(fresh e&&mu v)=ae)(k:prm.contains x=ai):YS D prm top (.asg x e) V O (.ok (.next,put x v V,h)):=g.up λ N d n q=>by
 show bo _ _ _=_
 rw[j]
 show aY V _ _=_
 rw[q]
 show R.ax ((az v||(fresh e&&mu v))&&(!((rA prm d N top n).prm.contains x)||_)) _=_
 simp only[show(rA prm d N top n).prm=prm from(jh n).2.1,hv,k,gz];rfl
theorem YE.uy{s}(p:yi (.bx a m [b] [])=none\/sO)(c:yi a=none)(g:YE D prm top a V O (.ok (.str s,h)))(j:Ad m=ae)(k:YE D prm top b V h (.ok (v,f)))(hv:nf m s [v]=aa w):YE D prm top (.bx a m [b] []) V O (.ok (w,f)):=g.ek k λ N d n l o=>by
 show bo (yi a) _ _=_
 rw[c]
 rw[l]
 show R.ax (Ad m&&ae) _=_
 rw[j]
 rw[qv (show ik _ [b] V h=.ok ([v],f) by show R.aw _ _=_;rw[o];show R.ax (cR b v||ae) _=_;rw[gz];rfl)]
 show R.opt (nf m s [v]) _=_
 rw[hv];rfl
theorem YE.cmp{o c}(j:YE D prm top a V O (.ok (v,h)))(k:cR a v=ae)(l:YE D prm top b V h (.ok (w,f)))(g:eX o v w=aa c):YE D prm top (.cmp o a b) V O (.ok (.bool c,f)):=j.ek l λ N d n p q=>by
 show R.aw _ _=_;rw[p];show R.ax _ _=_;rw[k];rw[q];show R.opt _ _=_;rw[g];rfl
theorem YE.Dj(c:YE D prm top a V O (.ok (.bool ae,h)))(g:YE D prm top b V h (.ok (v,f))):YE D prm top (.bool .And [a,b]) V O (.ok (v,f)):=c.ek g λ N d n j k=>by
 show R.aw _ _=_;rw[j];exact k
end
theorem bn2{l}:vB (l.map .str)=aa l:=by
 induction l with
 |nil=>rfl
 |cons s l h=>show(vB (l.map .str)).map (s::·)=_;rw[h];rfl
theorem join_rows{x R}:eH [10] ((x::R).map bb)++[0]=bb x++jV R:=by
 induction R generalizing x with
 |nil=>rfl
 |cons y R h=>
  show(bb x++[10]++eH [10] ((y::R).map bb))++[0]=bb x++10::(bb y++jV R);rw[<-h,bB,bB];rfl
theorem PV{l}(h:l.length<=1000)(a:∀s∈l,s.length<=1000):nf .wH [10] [.lst (l.map .str)]=aa (.str (eH [10] l)):=by
 show(vB (l.map .str)).bind (λ l=>aE (decide (1<=1000)&&decide (l.length<=1000)&&l.all λ x=>decide (x.length<=1000)) (IV.str (eH [10] l)))=_;rw[bn2];show aE (ae&&decide (l.length<=1000)&&l.all λ x=>decide (x.length<=1000)) _=_;rw[bK h,List.all_eq_true.mpr λ s b=>bK (a s b)];rfl
noncomputable def zL(e:IE):IE:=.bx (.con (.str [10])) .wH [e] []
theorem an0:jg.body.drop 10=[.asg .xY (.call (.glob .bL) [zL (.var .ei)] []),.asg .om (.lst []),.asg .kn (.con .none),jg.body.getD 13 .bad,.ret (aa (.bool .And [.cmp .Eq (.var .om) (.var .bY),.cmp .Eq (.var .kn) (.var .ir)]))]:=∅
theorem fL{x v}:cR (.var x) v=ae:=gz _
theorem Q2{x R}{V:Loc}(f:((x::R).all λ x=>iy x.2)=ae)(g:((x::R).all λ x=>ll x.2)=ae)(i:((eH [10] ((x::R).map bb)).all λ c=>na.contains c)=ae)(b:(eH [10] ((x::R).map bb)).length<=40)(w:cnt (x::R)<=100)(j:(x::R).length<=1000)(k:∀s∈(x::R).map bb,s.length<=1000)
  (l:lk .ei V=aa (.lst (((x::R).map bb).map .str)))(m:lk .bY V=aa (.lst (eF 0 0 (x::R) [-1] [fZ]).1))(n:lk .ir V=aa (qG (eF 0 0 (x::R) [-1] [fZ]).2)):∃h a,YB 30 bz ae (jg.body.drop 10) V none (.ok (.ret (.bool ae),h,a)):=by
 refine aB λ Y o=>?_;have p:(eH [10] ((x::R).map bb)++[0]).length<=80:=by rw[bp];exact eK b ⋯
 refine bg (au5 (n:=0) (last:=0) (st:=[-1]) (due:=[fZ]) g (by show(eG fZ&&ae)=ae;rw[show eG fZ=ae from wL ∅];rfl)) λ o1 q=>?_;have r:=aj q (by show 1+1+13*cnt (x::R)+1<=10000;lia);have E:YE 30 bz ae (.call (.glob .bL) [zL (.var .ei)] []) V none (.ok (.obj,sF (eH [10] ((x::R).map bb)++[0]) 0 0 0 0 [qc (eH [10] ((x::R).map bb)++[0])] 0 (-1) [] ae [])):=
  .al5 (.uy (.inr trivial) rfl .con rfl (.var l) (PV (by rw[bF];exact j) k)) i (aj b ⋯)
 have hS:rz (put .kn .none (put .om (.lst []) (put .xY .obj V))) []:=⟨(bc ⋯).trans ((bc ⋯).trans cj),(bc ⋯).trans cj⟩
 refine og (ai5 (XZ (ao3 (join_rows (x:=x) (R:=R)).symm p f (eH [10] ((x::R).map bb)++[0])) ∅ r hS) cj) λ h a T t u d=>?_;have e:∀y∈[Nm.bY,.ir],lk y (put .kn .none (put .om (.lst []) (put .xY .obj V)))=lk y V:=λ y v=>by
  have:=(by decide:∀y∈[Nm.bY,.ir],y≠.kn/\y≠.om/\y≠.xY) y v;rw[bc this.1,bc this.2.1,bc this.2.2]
 refine o ?_;refine jT h a ?_;rw[an0];exact .cons (.asg rfl E rfl ∅) (.cons (.xU rfl (.lst .nil rfl ⋯) rfl ∅) (.cons (.asg rfl .con rfl ∅) (.cons (T.le ⋯) (.fin mx (.ret rfl (.Dj (.cmp (.var t) fL (.var ((d .bY (.head _)).trans ((e _ (.head _)).trans m))) (eq_self (br5 o1) rfl rfl)) (.cmp (.var u) fL (.var ((d .ir (.tail _ (.head _))).trans ((e _ (.tail _ (.head _))).trans n))) (au0 _))) rfl)))))
section
variable{D:ah}{prm:af Nm}{top:al}{V j:Loc}{O h c:St}{v w u:IV}{e a b t i:IE}{x y m:Nm}{l:af IE}{vs p:af IV}{f:af IS}{z:RS}
theorem YE.EM{y}(k:YT D prm top t V O (.ok (ae,h)))(g:YE D prm top a V h y):YE D prm top (.ite t a b) V O y:=k.ek g λ N d n o q=>by show R.aw _ _=_;rw[o];exact q
theorem YE.CO{y}(k:YT D prm top t V O (.ok (ai,h)))(g:YE D prm top b V h y):YE D prm top (.ite t a b) V O y:=k.ek g λ N d n o q=>by show R.aw _ _=_;rw[o];exact q
theorem YE.len{n}(o:YE D prm top e V O (.ok (v,h)))(g:nB v=aa n):YE D prm top (.call (.glob .ij) [e] []) V O (.ok (.int n,h)):=o.up λ N d k q=>UK q (gz _) g
theorem YE.an6{k}(o:YE D prm top e V O (.ok (v,h)))(q:cR e v=ae)(g:YE D prm top a V h (.ok (.int k,c)))(hv:slice v (aa k) none=aa w):YE D prm top (.jN e (aa a) none) V O (.ok (w,c)):=o.ek g λ N d n r s=>by
 show R.aw _ _=_
 rw[r]
 show R.ax (cR e v) _=_
 rw[q]
 show R.aw (R.aw ((rA prm d N top n).E a V h) _) _=_
 rw[s]
 show R.opt (slice v (aa k) none) _=_
 rw[hv];rfl
theorem YE.Nu{k}(o:YE D prm top e V O (.ok (v,h)))(q:cR e v=ae)(g:YE D prm top a V h (.ok (.int k,c)))(hv:slice v none (aa k)=aa w):YE D prm top (.jN e none (aa a)) V O (.ok (w,c)):=o.ek g λ N d n r s=>by
 show R.aw _ _=_
 rw[r]
 show R.ax (cR e v) _=_
 rw[q]
 show R.aw (R.aw ((rA prm d N top n).E a V h) _) _=_
 rw[s]
 show R.opt (slice v none (aa k)) _=_
 rw[hv];rfl
theorem YS.aug{op}(k:lk x V=aa v)(o:YE D prm top e V O (.ok (w,h)))(g:lQ op v w=aa u)(r:prm.contains x=ai):YS D prm top (.aug x op e) V O (.ok (.next,put x u V,h)):=o.up λ N d n q=>by
 show R.opt (lk x V) _=_
 rw[k]
 rw[q]
 show R.opt (lQ op v w) _=_
 rw[g]
 show R.ax (!(az v)||(!((rA prm d N top n).prm.contains x)||(az u&&(lk x V).all az))) _=_
 rw[(jh n).2.1,r]
 show R.ax (!(az v)||ae) _=_
 rw[gz];rfl
theorem YS.lT{g j}(k:YE D prm top e V O (.ok (v,h)))(o:2<=g.length)(s:∀r:bh,r.prm=prm->jz r g v V=aa j):YS D prm top (.lT g e) V O (.ok (.next,j,h)):=k.up λ N d n q=>by
 show R.ax (!(rA prm d N top n).quiet) _=_
 rw[(jh _).1]
 rw[q]
 show R.ax (decide (2<=g.length)) (R.opt (jz (rA prm d N top n) g v V) _)=_
 rw[bK o,s _ (jh _).2.1];rfl
theorem YS.bt3{o g}(q:rG g=none)(r:tW g=none)(s:(!wA g||decide (2<=o.length))=ae)(H:YE D prm top g V O (.ok (v,h)))(X:vO g (jL f) V v=aa p)(k:YF D prm top o p f V h z):YS D prm top (.jr o g f) V O z:=H.ek k λ N d n A B=>by
 show R.ax (!(rA prm d N top n).quiet&&_) _=_
 simp only[show(rA prm d N top n).quiet=ai from(jh _).1,s]
 show aY V (bo (rG g) _ (bo (tW g) _ _)) _=_
 rw[q,r]
 show aY V (R.aw _ _) _=_
 rw[A]
 show aY V (R.opt (vO g (jL f) V v) _) _=_
 rw[X]
 exact B
theorem YS.UE(g:e.dH=aa l)(k:YA D prm top l V O (.ok (vs,h)))(o:∀r:bh,r.prm=prm->oX r l vs=ae)(s:vs.length<=10000):YS D prm top (.ret (aa e)) V O (.ok (.ret (.tup (vs.map freeze)),V,h)):=k.up λ N d n q=>by
 show aY V (bo e.dH _ _) _=_
 rw[g]
 show aY V (R.aw _ _) _=_
 rw[q]
 show aY V (R.ax (oX (rA prm d N top n) l vs&&_) _) _=_
 rw[o _ (jh _).2.1,bK s];rfl
theorem YE.qZ{s1 s2}(g:YE D prm top a V O (.ok (v,h)))(k:az v=ae)(o:YE D prm top b V h (.ok (w,c)))(q:az w=ae)(r:s1≠s2):YE D prm top (.qZ s1 a s2 b) V O (.ok (.gr [(s1,v),(s2,w)],c)):=g.ek o λ N d n s H=>by
 show R.aw _ _=_
 rw[s]
 show R.ax (az v) _=_
 rw[k]
 rw[H]
 show R.ax (az w&&!decide (s1=s2)) _=_
 rw[q,gw r];rfl
end
noncomputable def lq:af ah:=[0,2,0,4,2,0,3,1]
noncomputable def td:af (af ah):=[[],[45],[63],[],[58],[45,45],[45,63],[63,45]]
noncomputable def sY:af (af ah):=[[78,58,77],[78,58],[78],[],[78,58,77],[78,58],[78],[78,58,77,58],[78,58,45],[78,58,63]]
noncomputable def code(h x c:ah):ah:=bif aX c 78 then h else bif aX c 77 then x else c
noncomputable def wC:ah->al->af ah->af (ah×ah)
 |_,_,[]=>[]
 |p,b,k::l=>(p+bf b,k)::wC (p+bf b+(bj k).length) (!aF k) l
noncomputable def dZ(k:ah):IV:=bif aF k then .bN (ed k)else .none
noncomputable def eJ(x:ah×ah):IV:=.tup [.int x.1,.str (bj x.2),dZ x.2]
noncomputable abbrev ka:af Nm:=(fF .yx).params
noncomputable def Bg:af IS:=match(fF .yx).body with|[_,_,_,.jr _ _ b,_]=>b|_=>[]
noncomputable def wb(x:Nm)(e:IE):IE:=.idx (.call (.glob x) [] []) e
noncomputable def sr(e:IE)(k:ag):IE:=.bin .Mod e (.con (.int k))
noncomputable def yZ(e:IE)(k:ag):IE:=.bin .FloorDiv e (.con (.int k))
theorem K9:(fF .yx).body=[.asg .lB (.qZ [78] (.idx (.glob .AB) (sr (.var .eS) 10)) [77] (.idx (.glob .AB) (sr (yZ (.var .eS) 100) 10))),
 .asg .cS (.lst []),.asg .iX (.bin .Mult (.con (.str [32])) (wb .vI (sr (.var .fy) 8))),
 .jr [.mK] (.bin .Add (wb .vN (sr (yZ (.var .fy) 8) 8)) (wb .wK (sr (yZ (.var .eS) 10) 10))) Bg,
 .ret (aa (.tup [.bin .Add (.var .iX) (.ite (.cmp .Eq (.jN (.var .iX) (aa (.con (.int (-1)))) none) (.con (.str [119]))) (.con (.str [32,35])) (.con (.str []))),.var .cS]))]:=∅
theorem bv7:Bg=[.lT [.fw,.cz] (.ite (.cmp .In (.var .mK) (.var .lB)) (.idx (.var .lB) (.var .mK)) (.tup [.var .mK,.con .none])),
 .iff (.bool .And [.var .cS,.cmp .Is (.idx (.idx (.var .cS) (.con (.int (-1)))) (.con (.int 2))) (.con .none)]) [.aug .iX .Add (.con (.str [32]))] [],
 .expr (.bx (.var .cS) .kZ [.tup [.call (.glob .ij) [.var .iX] [],.var .fw,.var .cz]] []),.aug .iX .Add (.var .fw)]:=∅
noncomputable def kQ(j:ah):IV:=.tup [.str (bO j),.bN (ed j)]
theorem al1:(gi 10).map (λ j=>wB[j]?)=(gi 10).map λ j=>aa (kQ j):=∅
noncomputable def vc(h x:ah):IV:=.gr [([78],kQ h),([77],kQ x)]
noncomputable def lj(h:af (ah×ah)):al:=match h.getLast? with|none=>ai|some x=>!aF x.2
noncomputable def pT(h:af (ah×ah))(T:af ah):af ah:=T++bif lj h then[32]else[]
theorem HD{l v}(h:l.getLast?=aa v):nG (.lst l) (.int (-1))=aa v:=by
 show(yj (.lst l) (-1)).or _=_;have e:=Pk (Js h);show(((jC (-1) l.length).bind λ k=>l[k]?).or _).or _=_;simp only[Vm e.1,je,e.2];rfl
theorem xP{k}:(dZ k).cL=!aF k:=by unfold dZ;obtain _|_:=aF k<;>rfl
theorem bh8{s}(h:s.length<=1000000):nB (.str s)=aa s.length:=by show(aE (dg s) s.length).or _=_;rw[show dg s=ae from bK h];rfl
theorem add_str{s t}(h:s.length+t.length<=10000):lQ .Add (.str s) (.str t)=aa (.str (s++t)):=by
 show(aE (decide (s.length+t.length<=10000)) (IV.str (s++t))).or _=_;rw[bK h];rfl
section
variable{V:Loc}{O:St}{j1 j2 c:ah}{h:af (ah×ah)}{T:af ah}
noncomputable def wM(V:Loc)(j1 j2:ah)(h:af (ah×ah))(T:af ah):Prop:=lk .lB V=aa (vc j1 j2)/\lk .cS V=aa (.lst (h.map eJ))/\lk .iX V=aa (.str T)
theorem ah2{c}(x:c∈cK):code j1 j2 c=c/\c≠78/\c≠77:=(dB (by unfold code;rw[(by decide:∀c∈cK,aX c 78=ai/\aX c 77=ai) c x|>.1,(by decide:∀c∈cK,aX c 78=ai/\aX c 77=ai) c x|>.2];rfl) ((by decide:∀c∈cK,c≠78/\c≠77) c x|>.1) ((by decide:∀c∈cK,c≠78/\c≠77) c x|>.2))
theorem ao5{s}:eX .In (.str s) (vc j1 j2)=aa (jk s [([78],kQ j1),([77],kQ j2)]).isSome:=rfl
theorem av3(I:j1<10)(J:j2<10)(l:c=78\/c=77\/c∈cK)(hT:T.length<=1000)(hp:h.length<=100)(L:wM V j1 j2 h T)(p:lk .mK V=aa (.str [c])):∃C,wM C j1 j2 (h++[((pT h T).length,code j1 j2 c)]) (pT h T++bj (code j1 j2 c))/\YB 5 ka ai Bg V O (.ok (.next,C,O)):=by
 refine lg (L) λ s M N=>?_;have t:∀{w u x}{V:Loc},x≠.cz->x≠.fw->lk x (put .cz w (put .fw u V))=lk x V:=λ a b=>(bc a).trans (bc b);have a9:(bj (code j1 j2 c)).length<=100:=by
  unfold bj;rcases q:aF (code j1 j2 c)with _|_
  ·exact(by decide:1<=100)
  ·exact eQ (ej (aP (bP yF (ku q)))).2
 have Q:YS 5 ka ai (.lT [.fw,.cz] (.ite (.cmp .In (.var .mK) (.var .lB)) (.idx (.var .lB) (.var .mK)) (.tup [.var .mK,.con .none]))) V O (.ok (.next,put .cz (dZ (code j1 j2 c)) (put .fw (.str (bj (code j1 j2 c))) V),O)):=by
  have D:∀{b},(jk [c] [([78],kQ j1),([77],kQ j2)]).isSome=b->YT 5 ka ai (.cmp .In (.var .mK) (.var .lB)) V O (.ok (b,O)):=λ f=>.cmp (.var p) fL (.var s) (by simp only[ao5,f]);have nd:∀{j},j<10->jk [c] [([78],kQ j1),([77],kQ j2)]=aa (kQ j)->code j1 j2 c=j->YE 5 ka ai (.ite (.cmp .In (.var .mK) (.var .lB)) (.idx (.var .lB) (.var .mK)) (.tup [.var .mK,.con .none])) V O (.ok (.tup [.str (bj (code j1 j2 c)),dZ (code j1 j2 c)],O)):=λ{j} U m v=>by
   have k:aF j=ae:=Nat.blt_eq.mpr U;rw[v,show bj j=bO j by unfold bj;rw[k];rfl,show dZ j=.bN (ed j) by unfold dZ;rw[k];rfl];exact .EM (D (by rw[m];rfl)) (.idx (.var s) (by rw[fL];rfl) (.var p) (show(none:ak IV).or (jk [c] [([78],kQ j1),([77],kQ j2)])=aa (kQ j) by rw[m];rfl))
  refine .lT ?_ ⋯ λ r Z=>GN ∅ ∅ Z;obtain rfl|rfl|l:=l
  ·exact nd I rfl rfl
  ·exact nd J rfl rfl
  ·refine lg (ah2 (j1:=j1) (j2:=j2) l) λ m v y=>?_;have k:=ao4 l;rw[m,show bj c=[c] by unfold bj;rw[k];rfl,show dZ c=.none by unfold dZ;rw[k];rfl];refine .CO (D ?_) (.tup (.cons (.var p) (by rw[fL];rfl) (.cons .con rfl .nil)) rfl (by show 2<=10000;decide));show(if[c]=[78]then aa (kQ j1)else if[c]=[77]then aa (kQ j2)else none).isSome=ai;rw[aM (λ f=>v (kE f).1),aM (λ f=>y (kE f).1)];rfl
 have g:lk .cS (put .cz (dZ (code j1 j2 c)) (put .fw (.str (bj (code j1 j2 c))) V))=_:=(t ⋯ ⋯).trans M;have H:lk .iX (put .cz (dZ (code j1 j2 c)) (put .fw (.str (bj (code j1 j2 c))) V))=_:=(t ⋯ ⋯).trans N;have X:lk .lB (put .cz (dZ (code j1 j2 c)) (put .fw (.str (bj (code j1 j2 c))) V))=_:=(t ⋯ ⋯).trans s;have A:lk .fw (put .cz (dZ (code j1 j2 c)) (put .fw (.str (bj (code j1 j2 c))) V))=aa (.str (bj (code j1 j2 c))):=(bc ⋯).trans cj;have B:lk .cz (put .cz (dZ (code j1 j2 c)) (put .fw (.str (bj (code j1 j2 c))) V))=aa (dZ (code j1 j2 c)):=cj;generalize put .cz (dZ (code j1 j2 c)) (put .fw (.str (bj (code j1 j2 c))) V)=i at*;obtain⟨d,s2,r1,r2,E,r4,r5⟩:∃d,YS 5 ka ai (.iff (.bool .And [.var .cS,.cmp .Is (.idx (.idx (.var .cS) (.con (.int (-1)))) (.con (.int 2))) (.con .none)]) [.aug .iX .Add (.con (.str [32]))] []) i O (.ok (.next,d,O))/\lk .lB d=aa (vc j1 j2)/\lk .cS d=aa (.lst (h.map eJ))/\lk .iX d=aa (.str (pT h T))/\lk .fw d=aa (.str (bj (code j1 j2 c)))/\lk .cz d=aa (dZ (code j1 j2 c)):=by
  have tp:YT 5 ka ai (.var .cS) i O (.ok (!(h.map eJ).isEmpty,O)):=.of (λ r=>rfl) (.var g) (Dm (by rw[bF];exact aj hp ⋯));rcases e:h.getLast? with _|x
  ·have n:pT h T=T:=by unfold pT lj;rw[e];exact bC T
   have:=List.getLast?_eq_none_iff.mp e;rw[n];clear n e;subst this;exact KH i (.gk (.UA tp) .nil) X g H A B
  ·have a0:(!(h.map eJ).isEmpty)=ae:=by clear tp g;cases h with|nil=>cases e|cons=>rfl
   rw[a0]at tp;have hl:nG (.lst (h.map eJ)) (.int (-1))=aa (eJ x):=HD (by simp only[List.getLast?_map,e];rfl);have tn:YT 5 ka ai (.cmp .Is (.idx (.idx (.var .cS) (.con (.int (-1)))) (.con (.int 2))) (.con .none)) i O (.ok (!aF x.2,O)):=.cmp (.idx (.idx (.var g) (by rw[fL];rfl) .con hl) rfl .con (by rfl)) (by unfold cR;rw[show fresh (.idx (.idx (.var .cS) (.con (.int (-1)))) (.con (.int 2)))=ae from rfl,gz];rfl) .con (by show aa (dZ x.2).cL=_;rw[xP]);have o:=YT.Dj tp tn;have n:pT h T=T++bif !aF x.2 then[32]else[]:=by unfold pT lj;rw[e]
   rw[n];rcases f:aF x.2 with _|_
   ·rw[f]at o;exact KH (put .iX (.str (T++[32])) i) (.jx o (.cons (.aug H .con (add_str (by exact eK hT ⋯)) ∅) .nil)) ((bc ⋯).trans X) ((bc ⋯).trans g) cj ((bc ⋯).trans A) ((bc ⋯).trans B)
   ·rw[f]at o;exact KH i (.gk o .nil) X g (H.trans (aD (λ z=>aa (IV.str z)) (bC T).symm)) A B
 have a8:(pT h T).length<=1001:=by unfold pT;rw[bp];cases lj h with|true=>exact gY hT|false=>exact xv hT
 have y:az (dZ (code j1 j2 c))=ae:=by unfold dZ;obtain _|_:=aF (code j1 j2 c)<;>rfl
 have s3:YS 5 ka ai (.expr (.bx (.var .cS) .kZ [.tup [.call (.glob .ij) [.var .iX] [],.var .fw,.var .cz]] [])) d O (.ok (.next,put .cS (.lst ((h++[((pT h T).length,code j1 j2 c)]).map eJ)) d,O)):=by
  refine .tw (w:=(.none,(h++[((pT h T).length,code j1 j2 c)]).map eJ)) r2 (.tup (.cons (.len (.var E) (bh8 (aj a8 ⋯))) rfl (.cons (.var r4) (by rw[fL];rfl) (.cons (.var r5) (by rw[fL];rfl) .nil))) (by show(ae&&(ae&&(az (dZ (code j1 j2 c))&&ae)))=ae;rw[y];rfl) (by show 3<=10000;decide)) ?_ ⋯;show(if 10000<(h.map eJ).length then none else aa (IV.none,h.map eJ++[eJ ((pT h T).length,code j1 j2 c)]))=_;rw[aM (by rw[bF];exact Nat.not_le.mpr (eK hp ⋯)),iq];rfl
 refine aL (put .iX (.str (pT h T++bj (code j1 j2 c))) (put .cS (.lst ((h++[((pT h T).length,code j1 j2 c)]).map eJ)) d)) (dB ((bc ⋯).trans ((bc ⋯).trans r1)) ((bc ⋯).trans cj) cj) ?_;rw[bv7];exact .cons Q (.cons s2 (.cons s3 (.cons (.aug ((bc ⋯).trans E) (.var ((bc ⋯).trans r4)) (add_str (by lia)) ∅) .nil)))
end
theorem bp2{s c}(h:s.length<=1000):slice (.str (s++[c])) (aa (-1)) none=aa (.str [c]):=by
 have x:(s++[c]).length=s.length+1:=by rw[bp];rfl
 have a:co7 ⟨(s++[c]).toArray⟩=s.length+1:=by simp[co7]
 have e:zJ (aa (-1)) none 1 (s.length+1)=[s.length]:=by
  have b:max (0:ag) (uW (-1+((s.length+1:ah):ag)) ((s.length+1:ah):ag))=(s.length:ag):=by rw[show-1+((s.length+1:ah):ag)=s.length from(aD (-1+·) (me (s.length:ag) 1)).trans (Int.neg_add_cancel_left 1 _),Wn (Int.ofNat_le.mpr (jF _)),co8 (dP _)]
  simp only[zJ,Xi,show((-1:ag)<0)=sO from Xu ⋯,xt,show((1:ag)>0)=sO from Xu ⋯,b];have d:((s.length:ag)<((s.length+1:ah):ag))=sO:=Xu (gj _);simp only[d,xt];have f:((((s.length+1:ah):ag)-(s.length:ag)+1-1)/1).toNat=1:=by rw[cd4,Cm,show((s.length+1:ah):ag)-(s.length:ag)=1 from(aD (·-(s.length:ag)) (me (s.length:ag) 1)).trans (Cm 1 _)];rfl
  rw[f];simp
 show(aE (dg (s++[c])) (IV.str (FA ⟨(s++[c]).toArray⟩ (aa (-1)) none).cps.toList)).or _=_;rw[show dg (s++[c])=ae from bK (by rw[x];exact eK h ⋯)];show aa (IV.str _)=_
 congr 2
 unfold FA;rw[a,e];split
 ·next q=>
  have:=List.length_eq_zero_iff.mp (by simpa using(cH (aP q)).symm);refine this.symm▸?_;rfl
 ·simp
theorem bg1:slice (.str []) (aa (-1)) none=aa (.str []):=by rfl
noncomputable def lK(s:af ah):af ah:=match s.getLast? with|none=>[]|some c=>[c]
theorem am7{s}(h:s.length<=1000):slice (.str s) (aa (-1)) none=aa (.str (lK s)):=by
 obtain rfl|⟨t,c,rfl⟩:=Xq s
 ·exact bg1
 ·rw[Xr]at h⊢;rw[bp]at h;unfold lK;rw[oN];exact bp2 (aj (ck _ _) h)
theorem ah1:((gi 10).all λ j=>decide (lK (bO j)=[119])==(aX j 0||aX j 5)&&!(bO j).isEmpty)=ae:=∅
theorem Zy{s t}(h:t.isEmpty=ai):lK (s++t)=lK t:=by
 obtain rfl|⟨u,c,rfl⟩:=Xq t
 ·cbv
 ·rw[Xr,<-bB];unfold lK;simp only[oN,oN]
theorem bn4{k}(h:aF k=ae\/k∈cK):decide (lK (bj k)=[119])=(aX k 0||aX k 5)/\(bj k).isEmpty=ai:=by
 unfold bj;rcases q:aF k with _|_
 ·exact⟨(by decide:∀k∈cK,decide (lK [k]=[119])=(aX k 0||aX k 5)) k (h.resolve_left (by rw[q];nofun)),rfl⟩
 ·have:=bP ah1 (ku q);exact⟨cH (aH this),(mm _).mp (aP this)⟩
theorem bh4:∀{l b s},ll l=ae->l≠[]->decide (lK (s++cC b l)=[119])=fv l:=by
 intro l;induction l with
 |nil=>exact λ Y h=>absurd rfl h
 |cons k l d=>
  intro b s h _;revert h;refine aV λ g i=>?_;refine bg (bn4 ((gV g).imp id qi)) λ j o=>?_;obtain _|⟨c,l⟩:=l
  ·show decide (lK (s++((bif b then[32]else[])++(bj k++[])))=[119])=_;rw[bC,<-bB,Zy o,j];rfl
  ·show decide (lK (s++((bif b then[32]else[])++(bj k++cC (!aF k) (c::l))))=[119])=fv (c::l);rw[<-bB,<-bB];exact d i (ME _ _)
theorem ZR{c}:decide (lK (aJ c 32)=[119])=ai:=by
 unfold lK;obtain _|c:=c
 ·rfl
 ·simp only[List.replicate_succ',oN];rfl
theorem bq0{x:Row}(h:ll x.2=ae):decide (lK (aJ x.1 32++cC ai x.2)=[119])=fv x.2:=by
 rcases e:x.2 with _|⟨k,l⟩
 ·show decide (lK (aJ x.1 32++[])=[119])=ai;rw[bC,ZR]
 ·rw[e]at h;exact bh4 h (ME _ _)
theorem by3{h x}:lj (h++[x])=!aF x.2:=by unfold lj;exact(oN).symm▸rfl
section
variable{O:St}{h x:ah}
theorem Zo(i:h<10)(j:x<10):∀{cs:af ah}{V a T},(∀c∈cs,c=78\/c=77\/c∈cK)->T.length+101*cs.length<=1000->a.length+cs.length<=100->wM V h x a T->
  ∃d,wM d h x (a++wC T.length (lj a) (cs.map (code h x))) (T++cC (lj a) (cs.map (code h x)))/\YF 5 ka ai [.mK] (cs.map λ c=>.str [c]) Bg V O (.ok (.next,d,O)):=by
 intro cs;induction cs with
 |nil=>intro V a T _ _ _ b;exact aL V (by show wM V h x (a++[]) (T++[]);simp only[bC,bC];exact b) .nil
 |cons c cs k=>
  intro V a T e hT hp b;rw[dh]at hT hp;refine aG (av3 (O:=O) i j (e c (.head _)) (aj (ck _ _) hT) (aj (ck _ _) hp) ((dB ((bc ⋯).trans b.1) ((bc ⋯).trans b.2.1) ((bc ⋯).trans b.2.2))) cj) λ u l B=>?_;have m:(bj (code h x c)).length<=100:=by
   delta bj;rcases q:aF (code h x c)with _|_
   ·exact(by decide:1<=100)
   ·exact eQ (ej (aP (bP yF (ku q)))).2
  have f:(pT a T).length=T.length+bf (lj a):=by delta pT bf;rw[bp];obtain _|_:=lj a<;>rfl
  refine aG (k (λ c n=>e c (.tail _ n)) (by simp only[bp,f];exact Yl hT (by obtain _|_:=lj a<;>decide) m) (by simp only[bp,oO];exact aj (cx (oz _ _ _)) hp) l) λ o g F=>?_;refine aL o ?_ (.cons (.inl rfl) (λ r p=>Dd ∅ p rfl) B F);simp only[by3,bp,f]at g;have s:a++wC T.length (lj a) ((c::cs).map (code h x))=a++[(T.length+bf (lj a),code h x c)]++wC (T.length+bf (lj a)+(bj (code h x c)).length) (!aF (code h x c)) (cs.map (code h x)):=by
   rw[bB];rfl
  have t:T++cC (lj a) ((c::cs).map (code h x))=pT a T++bj (code h x c)++cC (!aF (code h x c)) (cs.map (code h x)):=by
   delta pT;show T++((bif lj a then[32]else[])++(bj _++cC _ _))=_;simp only[bB]
  simp only[s,t];exact g
end
noncomputable def cA(a:ag):ah:=(oB a 8).toNat
noncomputable def oA(a:ag):ah:=(oB (uF a 8) 8).toNat
noncomputable def jA(b:ag):ah:=(oB b 10).toNat
noncomputable def jB(b:ag):ah:=(oB (uF b 100) 10).toNat
noncomputable def fA(b:ag):ah:=(oB (uF b 10) 10).toNat
noncomputable def wj(a b:ag):af ah:=td.getD (oA a) []++sY.getD (fA b) []
noncomputable def dM(a b:ag):Row:=(lq.getD (cA a) 0,(wj a b).map (code (jA b) (jB b)))
theorem qs{a}{k:ah}(b:0<k):oB a k=((oB a k).toNat:ag)/\(oB a k).toNat<k:=by
 have h:=Int.ofNat_lt.mpr b;have x:=Int.fmod_nonneg_of_pos a h;exact⟨(VF x).symm,(cn4 x).mpr (Int.fmod_lt_of_pos a h)⟩
section
variable{D:ah}{prm:af Nm}{top:al}{V:Loc}{O:St}{e:IE}{i:ag}
theorem AF{k}{n:ah}(x:k≠0)(h:YE D prm top e V O (.ok (.int i,O)))(a:oB i k=(n:ag)):YE D prm top (sr e k) V O (.ok (.int n,O)):=.bin h rfl .con (by
 show aE (decide (k≠0)) (IV.int (oB i k))=_
 simp only[bK x,a];rfl)
theorem Hz{k}(x:k≠0/\k.natAbs<=1000)(h:YE D prm top e V O (.ok (.int i,O))):YE D prm top (yZ e k) V O (.ok (.int (uF i k),O)):=.bin h rfl .con (by
 show aE (decide (k≠0/\k.natAbs<=1000)) (IV.int (uF i k))=_
 rw[bK x];rfl)
theorem xH{l}{n:ah}{v}(x:l.length<=1000)(h:l[n]? =aa v):nG (.lst l) (.int n)=aa v/\nG (.bN l) (.int n)=aa v:=by
 have e:(jC (n:ag) l.length).bind (λ k=>l[k]?)=aa v:=by
  have:=Bl h;simp only[Bd (AI (aj (iA this) x) ⋯ ⋯) (aM (Int.not_lt.mpr (dP _))) (dP _) (Int.ofNat_lt.mpr this),uQ];exact h
 constructor
 ·show(((jC (n:ag) l.length).bind λ k=>l[k]?).or _).or _=_;rw[e];rfl
 ·show(((jC (n:ag) l.length).bind λ k=>l[k]?).or _).or _=_;rw[e];rfl
end
theorem M6:([Nm.vI,.vN,.wK].all λ f=>nU aC f&&(aC.fn f).isSome)=ae:=∅
theorem ah7(N d:ah)(O:St):iS aC (N+40) (d+1) (fF .vI) [] [] O=.ok ((.lst (lq.map λ(c:ah)=>IV.int (c:ag)),[]),O):=∅
theorem T4(N d:ah)(O:St):iS aC (N+40) (d+1) (fF .vN) [] [] O=.ok ((.lst (td.map .str),[]),O):=∅
theorem ap9(N d:ah)(O:St):iS aC (N+40) (d+1) (fF .wK) [] [] O=.ok ((.lst (sY.map .str),[]),O):=∅
theorem YC.run{D g x O}{z:RB}(h:∀N d,iS aC (N+40) (d+1) g x [] O=z):YC (D+1) g x [] O z:=⟨40,λ N d n a b Y=>by
 obtain⟨N,rfl⟩:=mN a
 obtain⟨d,rfl⟩:=mN (aj (fD 1 _) b)
 exact h N d⟩
theorem YU{f}(h:(aC.fn f).isSome=ae):aC.fn f=aa (fF f):=by
 unfold fF;rcases q:aC.fn f with _|f
 ·rw[q]at h;cbv
 ·rfl
theorem HV{D prm top V O e}{n:ah}{f l v}(x:f∈[Nm.vI,.vN,.wK])(b:∀N d,iS aC (N+40) (d+1) (fF f) [] [] O=.ok ((.lst l,[]),O))(c:YE (D+1) prm top e V O (.ok (.int n,O)))(g:l.length<=1000)(h:l[n]? =aa v):YE (D+1) prm top (wb f e) V O (.ok (v,O)):=by
 have a:=ej (bP M6 x);exact .idx (.HR a.1 ((by decide:∀f∈[Nm.vI,.vN,.wK],f≠.ij/\f≠.kJ/\f≠.mZ/\f≠.bL) f x) (YU a.2) .nil rfl (.run b)) rfl c (xH g h).1
theorem Vt{D prm top V O e}{n:ah}(h:n<10)(x:YE D prm top e V O (.ok (.int n,O))):YE D prm top (.idx (.glob .AB) e) V O (.ok (kQ n,O)):=
 .idx (.glob ∅) rfl x (xH ⋯ (List.map_inj_left.mp al1 n (List.mem_range.mpr h))).2
theorem bu0{n}:(aJ n [32]).flatten=aJ n 32:=by
 induction n with
 |zero=>rfl
 |succ n h=>simp only[Cb,LJ,h];rfl
theorem XO:((gi 8).all λ o=>(gi 10).all λ f=>(td.getD o []++sY.getD f []).all λ c=>aX c 78||(aX c 77||cK.contains c))=ae:=∅
theorem YW:((gi 8).all λ o=>(gi 10).all λ f=>eE (td.getD o []++sY.getD f []).length 6)=ae:=∅
theorem bf7:((gi 8).all λ o=>(gi 10).all λ f=>(gi 10).all λ h=>(gi 10).all λ x=>iy ((td.getD o []++sY.getD f []).map (code h x))&&ll ((td.getD o []++sY.getD f []).map (code h x)))=ae:=∅
section
variable{a b:ag}{O:St}
theorem Be:oA a<8:=(qs ⋯).2
theorem Ti:cA a<8:=(qs ⋯).2
theorem DJ:jA b<10:=(qs ⋯).2
theorem DW:jB b<10:=(qs ⋯).2
theorem Bp:fA b<10:=(qs ⋯).2
theorem Ki:iy (dM a b).2=ae/\ll (dM a b).2=ae:=
 ej (bP (bP (bP (bP bf7 (List.mem_range.mpr Be)) (List.mem_range.mpr Bp)) (List.mem_range.mpr DJ)) (List.mem_range.mpr DW))
theorem Q5:∀c∈wj a b,c=78\/c=77\/c∈cK:=λ c x=>by
 have:=bP (bP (bP XO (List.mem_range.mpr Be)) (List.mem_range.mpr Bp)) x
 exact(gV this).imp mS λ h=>(gV h).imp mS qi
theorem QG:(wj a b).length<=6:=eQ (bP (bP YW (List.mem_range.mpr Be)) (List.mem_range.mpr Bp))
theorem CS{x:Type}{l:af x}{d n}(h:n<l.length):l[n]? =aa (l.getD n d):=by simp only[Ch,sN h];rfl
noncomputable def iQ(x:Row):af (ah×ah):=wC x.1 ai x.2
theorem Jk:lq.getD (cA a) 0<=4:=(by decide:∀i∈gi 8,lq.getD i 0<=4) _ (List.mem_range.mpr Ti)
theorem K0{x:Row}(h:ll x.2=ae):(cC ai x.2).length<=102*x.2.length:=by
 have:∀{l b},ll l=ae->(cC b l).length<=102*l.length:=by
  intro l;induction l with
  |nil=>exact λ Y=>cg _
  |cons k l c=>
   intro b h;have:=c (b:=!aF k) (aP h);have d:(bj k).length<=100:=by
    unfold bj;rcases q:aF k with _|_
    ·exact(by decide:1<=100)
    ·exact eQ (ej (aP (bP yF (ku q)))).2
   show((bif b then[32]else[])++(bj k++cC (!aF k) l)).length<=_;simp only[bp,bp,dh];exact aj (cU (by obtain _|_:=b<;>decide) (cU d this)) (aj (cx ((pO 1 100 _).symm.trans (nH 101 _))) (jF _))
 exact this h
theorem bs5:∃V,YC 7 (fF .yx) [.int a,.int b] [] O (.ok ((.tup [.str (bb (dM a b)),.bN ((iQ (dM a b)).map eJ)],V),O)):=by
 refine aB λ Y m=>?_;have n:YS 6 ka ai _ [(.fy,.int a),(.eS,.int b)] O _:=.asg (x:=.lB) rfl (.qZ (s1:=[78]) (s2:=[77]) (Vt DJ (AF (k:=10) (n:=jA b) ⋯ (YE.var (D:=6) (prm:=ka) (top:=ai) (O:=O) (V:=[(.fy,.int a),(.eS,.int b)]) (x:=.eS) (v:=.int b) rfl) (qs (a:=b) (k:=10) ⋯).1)) rfl (Vt DW (AF (k:=10) ⋯ (Hz ⋯ (YE.var (D:=6) (prm:=ka) (top:=ai) (O:=O) (V:=[(.fy,.int a),(.eS,.int b)]) (x:=.eS) rfl)) (qs (a:=uF b 100) (k:=10) ⋯).1)) rfl ⋯) rfl ∅;have g:∀{x:Nm}{i:ag}{V},lk x V=aa (.int i)->YE 6 ka ai (.var x) V O (.ok (.int i,O)):=λ h=>.var h;have o:lX .Mult (.str [32]) (.int (lq.getD (cA a) 0:ah))=aa (.str (aJ (lq.getD (cA a) 0) 32)):=by
  show(aE (decide ([32].length<=1000/\(0:ag)<=(lq.getD (cA a) 0:ah)/\((lq.getD (cA a) 0:ah):ag)<=1000)) (IV.str (aJ ((lq.getD (cA a) 0:ah):ag).toNat [32]).flatten)).or _=_;rw[bK (dB ⋯ (dP _) (by exact Int.ofNat_le.mpr (aj (Jk (a:=a)) ⋯))),uQ,bu0];rfl
 have p:YS 6 ka ai (.asg .iX (.bin .Mult (.con (.str [32])) (wb .vI (sr (.var .fy) 8)))) [(.fy,.int a),(.eS,.int b),(.lB,vc (jA b) (jB b)),(.cS,.lst [])] O (.ok (.next,[(.fy,.int a),(.eS,.int b),(.lB,vc (jA b) (jB b)),(.cS,.lst []),(.iX,.str (aJ (lq.getD (cA a) 0) 32))],O)):=
  .asg rfl (.bin .con rfl (HV (D:=5) (n:=cA a) (.head _) (λ N d=>ah7 N d O) (AF ⋯ (g rfl) (qs (a:=a) (k:=8) ⋯).1) ⋯ (by rw[qT,CS (d:=0) Ti];rfl)) o) rfl ∅
 have s:wM [(.fy,.int a),(.eS,.int b),(.lB,vc (jA b) (jB b)),(.cS,.lst []),(.iX,.str (aJ (lq.getD (cA a) 0) 32))] (jA b) (jB b) [] (aJ (lq.getD (cA a) 0) 32):=(dB rfl rfl rfl)
 have j:=Jk (a:=a);have e:=QG (a:=a) (b:=b);refine aG (Zo (O:=O) DJ DW (cs:=wj a b) Q5 (by rw[gD];exact aj (cU j (BO 101 e)) ⋯) (by rw[Mt];exact aj (cx (xe _)) (aj e ⋯)) s) λ c L F=>?_;rw[gD]at L;have L:wM c (jA b) (jB b) (iQ (dM a b)) (aJ (dM a b).1 32++cC ai (dM a b).2):=L;have k:=Ki (a:=a) (b:=b);have t:(dM a b).2.length<=6:=by show((wj a b).map _).length<=6;rw[bF];exact e
 have hT:(aJ (dM a b).1 32++cC ai (dM a b).2).length<=1000:=by
  rw[bp,gD];have:(dM a b).1<=4:=j;exact aj (cU this (aj (K0 k.2) (BO 102 t))) ⋯
 have u:YS 6 ka ai (.jr [.mK] (.bin .Add (wb .vN (sr (yZ (.var .fy) 8) 8)) (wb .wK (sr (yZ (.var .eS) 10) 10))) Bg) [(.fy,.int a),(.eS,.int b),(.lB,vc (jA b) (jB b)),(.cS,.lst []),(.iX,.str (aJ (lq.getD (cA a) 0) 32))] O (.ok (.next,c,O)):=
  .bt3 (v:=.str (wj a b)) rfl rfl rfl (.bin (v:=.str (td.getD (oA a) [])) (w:=.str (sY.getD (fA b) [])) (HV (D:=5) (n:=oA a) (.tail _ (.head _)) (λ N d=>T4 N d O) (AF ⋯ (Hz ⋯ (g rfl)) (qs (a:=uF a 8) (k:=8) ⋯).1) ⋯ (by rw[qT,CS (d:=[]) Be];rfl)) rfl (HV (D:=5) (n:=fA b) (.tail _ (.tail _ (.head _))) (λ N d=>ap9 N d O) (AF ⋯ (Hz ⋯ (g rfl)) (qs (a:=uF b 10) (k:=10) ⋯).1) ⋯ (by rw[qT,CS (d:=[]) Bp];rfl)) (EV (aj (by have:=e;unfold wj at this;rw[bp]at this;exact this) ⋯))) rfl (F.le (show 5<=6 by decide))
 refine m ?_;generalize l:aJ (dM a b).1 32++cC ai (dM a b).2=v at*;have w:bb (dM a b)=v++cE (dM a b).2:=by unfold bb;rw[<-l,bB]
 have f:YT 6 ka ai (.cmp .Eq (.jN (.var .iX) (aa (.con (.int (-1)))) none) (.con (.str [119]))) c O (.ok (fv (dM a b).2,O)):=.cmp (.an6 (.var L.2.2) fL .con (am7 hT)) rfl .con (by exact aD _ (((l)▸bq0 k.2)));have y:YE 6 ka ai (.bin .Add (.var .iX) (.ite (.cmp .Eq (.jN (.var .iX) (aa (.con (.int (-1)))) none) (.con (.str [119]))) (.con (.str [32,35])) (.con (.str [])))) c O (.ok (.str (bb (dM a b)),O)):=by
  rw[w];unfold cE;rcases q:fv (dM a b).2 with _|_
  ·rw[q]at f;exact .bin (.var L.2.2) fL (.CO f .con) (EV (by exact aj hT ⋯))
  ·rw[q]at f;exact .bin (.var L.2.2) fL (.EM f .con) (EV (by exact Xg (eK hT ⋯)))
 refine⟨c,YC.of (V:=[(.fy,.int a),(.eS,.int b)]) (y:=.ok (.ret (.tup [.str (bb (dM a b)),.bN ((iQ (dM a b)).map eJ)]),c,O)) ∅ ?_⟩;exact(K9).symm▸.cons n (.cons (.xU rfl (.lst .nil rfl ⋯) rfl ∅) (.cons p (.cons u (.fin mx (.UE (vs:=[.str (bb (dM a b)),.lst ((iQ (dM a b)).map eJ)]) rfl (.cons y rfl (.cons (.var L.2.1) (by rw[fL];rfl) .nil)) (λ r z=>by
  show(ae&&(((az _)||(!(r.prm.contains .cS)&&ae))&&ae))=ae
  rw[z,show ka.contains .cS=ai by kernel_rfl]
  rfl) (by show 2<=10000;decide))))))
end
section
variable{D:ah}{prm:af Nm}{top:al}{V H X:Loc}{O B A:St}{v w u:IV}{e a b t i:IE}{x y m:Nm}{l:af IE}{j f:af IV}{s:af IS}{z:RS}{h:af Nm}
noncomputable abbrev YL(D:ah)(prm:af Nm)(top:al)(o:uE)(l:af IE)(V:Loc)(O:St)(y:RE al):Prop:=Ev D (λ N d n=>sC (rA prm d N top n) o l V O) y
theorem YL.Di:YL D prm top .And [] V O (.ok (ae,O)):=⟨0,λ Y Y Y Y Y Y=>rfl⟩
theorem YL.T9:YL D prm top .Or [] V O (.ok (ai,O)):=⟨0,λ Y Y Y Y Y Y=>rfl⟩
theorem YL.pq{p q}(c:YT D prm top e V O (.ok (p,O)))(g:YL D prm top .And l V O (.ok (q,O))):YL D prm top .And (e::l) V O (.ok (p&&q,O)):=by
 refine aI (c.both g) ?_;clear c;intro k c;refine⟨k,λ N d n o r C=>?_⟩;have z:=c N d n o r C;show R.aw _ _=_;rw[show(rA prm d N top n).T e V O=.ok (p,O)from aD oL z];clear c;obtain _|_:=p
 ·rfl
 ·exact aD sW z
theorem YL.RZ{p q}(c:YT D prm top e V O (.ok (p,O)))(g:YL D prm top .Or l V O (.ok (q,O))):YL D prm top .Or (e::l) V O (.ok (p||q,O)):=by
 refine aI (c.both g) ?_;clear c;intro k c;refine⟨k,λ N d n o r C=>?_⟩;have z:=c N d n o r C;show R.aw _ _=_;rw[show(rA prm d N top n).T e V O=.ok (p,O)from aD oL z];clear c;obtain _|_:=p
 ·exact aD sW z
 ·rfl
theorem YT.bool{o y}(c:YL D prm top o l V O y):YT D prm top (.bool o l) V O y:=c.up λ N d n q=>q
theorem YE.ao1{p q r c}(k:YE D prm top a V O (.ok (.bool p,O)))(o:YE D prm top b V O (.ok (.bool q,O)))(C:YE D prm top c V O (.ok (.bool r,O))):YE D prm top (.bool .And [a,b,c]) V O (.ok (.bool (p&&(q&&r)),O)):=(k.both o).ek C λ N d n g E=>by
 show R.aw _ _=_
 rw[show(rA prm d N top n).E a V O=.ok (.bool p,O)from aD oL g]
 clear k
 obtain _|_:=p
 ·rfl
 ·show R.aw ((rA prm d N top n).E b V O) _=_
  rw[show(rA prm d N top n).E b V O=.ok (.bool q,O)from aD sW g]
  clear g o
  obtain _|_:=q
  ·rfl
  ·exact E
theorem YE.XT{p q}(c:YE D prm top a V O (.ok (.bool p,O)))(k:YE D prm top b V O (.ok (.bool q,O))):YE D prm top (.bool .And [a,b]) V O (.ok (.bool (p&&q),O)):=c.ek k λ N d n g o=>by
 show R.aw _ _=_
 rw[g]
 clear g c
 obtain _|_:=p
 ·rfl
 ·exact o
theorem YT.tX{p}(c:lk x V=aa (.bool p)):YT D prm top (.var x) V O (.ok (p,O)):=.of (λ r=>rfl) (.var c) rfl
theorem YS.bn5{l w}(c:lk x V=aa (.lst l))(g:nE m l []=aa w)(k:qE m=ae):YS D prm top (.expr (.bx (.var x) m [] [])) V O (.ok (.next,put x (.lst w.2) V,O)):=.mk λ N d n=>by
 show bo (aE (kq (lk x V)) _) _ _=_
 rw[c]
 show R.ax (qE m&&ae) (aY V (dq (rA prm d N top n) [] [] V O) λ j O=>R.opt ((lk x V).bind IV.dX) λ l=>R.opt (nE m l j.1) λ w=>.ok (.next,put x (.lst w.2) V,O))=_
 simp only[k,qv (show ik (rA prm d N top n) [] V O=.ok ([],O)from rfl)]
 show R.opt ((lk x V).bind IV.dX) _=_
 rw[c]
 show R.opt (nE m l []) _=_
 rw[g];rfl
theorem YF.ret{r}(c:∀r:bh,r.prm=prm->jz r h v V=aa H)(g:YB D prm top s H O (.ok (.ret r,X,A))):YF D prm top h (v::f) s V O (.ok (.ret r,X,A)):=g.up λ N d n q=>by
 show R.opt (jz (rA prm d N top n) h v V) _=_
 rw[c _ (jh _).2.1]
 show R.loop _ _=_
 rw[q];rfl
theorem Ke{r l}(hp:∀x∈h,prm.contains x=ai)(k:r.prm=prm)(c:2<=h.length)(d:h.length=l.length)(g:h.length<100):jz r h (.tup l) V=aa (putAll (h.zip l) V):=by
 unfold jz;rw[aT (show xZ r h V=ae from List.all_eq_true.mpr λ x n=>by show(!(r.prm.contains x)||_)=ae;rw[k,hp x n];rfl)];have e:one h=none:=by
  clear g d hp Ke;obtain _|⟨x,h⟩:=h
  ·rfl
  ·cases h with|nil=>exact absurd c (by show¬2<=1;decide)|cons=>rfl
 rw[e];show(aE (decide (2<=h.length)&&decide (h.length=l.length)&&decide (h.length<100)) _)=_;simp only[bK c,bK d,bK g];rfl
theorem YS.ae8{c}(p:rG c=none)(q:tW c=aa (a,b))(r:(!wA c||decide (2<=h.length))=ae)(C:YE D prm top a V O (.ok (v,O)))(E:YE D prm top b V O (.ok (.lst j,O)))(I:fresh b=ae)(J:(v=.bN f/\eO v=aa ae)\/(v=.none/\f=j))(k:YF D prm top h f s V O z):YS D prm top (.jr h c s) V O z:=(C.both E).ek k λ N d n g o=>by
 show R.ax (!(rA prm d N top n).quiet&&_) _=_
 simp only[show(rA prm d N top n).quiet=ai from(jh _).1,r]
 show aY V (bo (rG c) _ (bo (tW c) _ _)) _=_
 rw[p,q]
 show aY V (R.aw ((rA prm d N top n).E a V O) _) _=_
 rw[show(rA prm d N top n).E a V O=.ok (v,O)from aD oL g]
 obtain⟨rfl,L⟩|⟨rfl,rfl⟩:=J
 ·show aY V (R.ax (eO (.bN f)==aa ae) _) _=_
  rw[L];exact o
 ·show aY V (R.aw ((rA prm d N top n).E b V O) _) _=_
  rw[show(rA prm d N top n).E b V O=.ok (.lst f,O)from aD sW g]
  rw[I];exact o
end
noncomputable abbrev dT:af Nm:=(fF .vf).params
noncomputable abbrev wX(x:Nm)(l:af IE):IS:=.expr (.bx (.var x) .kZ [.tup l] [])
noncomputable abbrev rT:IE:=.idx (.var .cB) (.con (.int (-1)))
noncomputable abbrev p6(k v:IE):af IE:=[k,v,.var .eL,.var .eM,.var .eL,.var .eM]
noncomputable def US:IS:=.iE (.cmp .Gt rT (.var .eM)) [.expr (.bx (.var .cB) .tO [] []),wX .bY (p6 (.con (sS "<block end>")) (.con .none))]
noncomputable def SW:IS:=.jr [.lp,.fR,.fy,.eS] (.bool .Or [.var .cz,.lst [.tup [.var .fw,.con .none,.con (.int 0),.con (.int 1)]]]) [wX .bY [.var .lp,.var .fR,.var .eL,.bin .Add (.var .eM) (.var .fy),.var .eL,.bin .Add (.var .eM) (.var .eS)]]
noncomputable def xV:af IS:=[.lT [.eM,.fw,.cz] (.idx (.var .cS) (.var .fB)),US,
 .asg .iw (.bool .And [.var .jb,.cmp .IsNot (.var .cz) (.con .none),.cmp .Lt (.bin .Add (.var .fB) (.con (.int 1))) (.call (.glob .ij) [.var .cS] [])]),
 .iff (.bool .And [.cmp .IsNot (.var .cz) (.con .none),.var .jb,.not (.var .iw),.cmp .Eq rT (.var .eM)]) [.ret (aa (.tup [.var .eL,.var .eM,.con (.bool ae)]))] [],
 .iff (.bool .And [.cmp .Is (.var .cz) (.con .none),.not (.var .jb),.not (.var .qp)]) [.ret (aa (.tup [.var .eL,.var .eM,.con (.bool ai)]))] [],
 .iff (.bool .And [.bool .Or [.var .iw,.bool .And [.cmp .Is (.var .cz) (.con .none),.var .jb]],.cmp .Lt rT (.var .eM)]) [.expr (.bx (.var .cB) .kZ [.var .eM] []),wX .bY (p6 (.ite (.cmp .Eq (.var .fw) (.con (.str [45]))) (.con (sS "<block sequence start>")) (.con (sS "<block mapping start>"))) (.con .none))] [],
 .iff (.var .iw) [wX .bY (p6 (.con (.str [63])) (.con .none))] [],SW,
 .asg .jb (.bool .And [.var .jb,.cmp .Is (.var .cz) (.con .none)]),.asg .qp (.var .iw)]
theorem bs4:(fF .vf).body=[.asg .jb (.con (.bool ae)),.asg .qp (.con (.bool ai)),.jr [.fB] (.call (.glob .jR) [.call (.glob .ij) [.var .cS] []] []) xV,.ret (aa (.con .none))]:=∅
section
variable{D:ah}{V h:Loc}{O:St}{c l b:af IV}{v:IV}{e:IE}{f:af IE}{n a:ag}{d:ag}{st r:af ag}{k:ah}
theorem Aq{x}(g:lk x V=aa (.lst l))(i:YE D dT ai e V O (.ok (v,O)))(hv:az v=ae)(j:l.length<=10000):YS D dT ai (.expr (.bx (.var x) .kZ [e] [])) V O (.ok (.next,put x (.lst (l++[v])) V,O)):=
 .tw (w:=(.none,l++[v])) g i (by
  show(if 10000<l.length then none else aE (az v) (IV.none,l++[v]))=_
  rw[aM (Nat.not_lt.mpr j),hv];rfl) rfl
theorem KB{kv vv k v}(x:lk .eL V=aa (.int n))(g:lk .eM V=aa (.int a))(m:YE D dT ai kv V O (.ok (k,O)))(hv:YE D dT ai vv V O (.ok (v,O)))(i:az k=ae)(j:az v=ae):YE D dT ai (.tup (p6 kv vv)) V O (.ok (atT k v n a a,O)):=
 .tup (.cons m (by unfold cR;rw[i];rfl) (.cons hv (by unfold cR;rw[j];rfl) (.cons (.var x) rfl (.cons (.var g) rfl (.cons (.var x) rfl (.cons (.var g) rfl .nil)))))) (by show(az k&&(az v&&_))=ae;rw[i,j];rfl) (by show 6<=10000;decide)
noncomputable def AY(V h:Loc):Prop:=∀x,x≠.cB->x≠.bY->lk x h=lk x V
theorem AY.put{V h x v}(g:AY V h)(i:x=.cB\/x=.bY):AY V (put x v h):=λ y j m=>by
 rw[bc (by obtain rfl|rfl:=i<;>assumption)];exact g y j m
theorem Pc:nG (.lst (aQ (d::r))) (.int (-1))=aa (.int d):=HD (by simp only[BJ,oN])
theorem ag2:∀{st b}{V:Loc},(∃x∈st,x<=a)->st.length<=1000->b.length+st.length<=9000->lk .cB V=aa (.lst (aQ st))->lk .bY V=aa (.lst b)->lk .eL V=aa (.int n)->lk .eM V=aa (.int a)->
  ∃h,AY V h/\lk .cB h=aa (.lst (aQ (bt a st)))/\lk .bY h=aa (.lst (b++aJ (st.length-(bt a st).length) (cJ n a)))/\YS D dT ai US V O (.ok (.next,h,O)):=by
 intro st;induction st with
 |nil=>exact λ w=>aG w λ x i Y=>nomatch i
 |cons d r H=>
  intro b V ⟨x,X,p⟩ g j m s t o;have T:YT D dT ai (.cmp .Gt rT (.var .eM)) V O (.ok (decide (a<d),O)):=.cmp (.idx (.var m) (by rw[fL];rfl) .con Pc) rfl (.var o) rfl;by_cases q:a<d
  ·rw[bK q]at T;have e:bt a (d::r)=bt a r:=aT q;rw[e];have P:YS D dT ai (.expr (.bx (.var .cB) .tO [] [])) V O (.ok (.next,put .cB (.lst (aQ r)) V,O)):=.bn5 (w:=(.int d,aQ r)) m (by
    show(if 10000<(aQ (d::r)).length then none else(aQ (d::r)).getLast?.map λ v=>(v,(aQ (d::r)).dropLast))=_
    rw[aM (by rw[lu];exact Nat.not_le.mpr (eK g ⋯)),BJ,oN,Xh];rfl) rfl
   have B:lk .bY (put .cB (.lst (aQ r)) V)=_:=(bc ⋯).trans s;have A:=Aq (O:=O) (D:=D) B (KB (kv:=.con (sS "<block end>")) (vv:=.con .none) ((bc ⋯).trans t) ((bc ⋯).trans o) .con .con rfl rfl) rfl (aj (aj (ck _ _) j) ⋯);rw[dh]at g j;refine vd (H (V:=put .bY (.lst (b++[cJ n a])) (put .cB (.lst (aQ r)) V)) (aL x ((List.mem_cons.mp X).resolve_left (λ i=>absurd p (Int.not_le.mpr (i▸q)))) p) (aj (ck _ _) g) (by simp only[bp,oO];exact aj (cx (oz _ _ _)) j) ((bc ⋯).trans cj) cj ((bc ⋯).trans ((bc ⋯).trans t)) ((bc ⋯).trans ((bc ⋯).trans o))) λ h k1 C E I=>?_;have s0:AY V V:=λ Y Y Y=>rfl;refine nN h (λ y u g=>(k1 y u g).trans (((s0.put (.inl rfl)).put (.inr rfl)) y u g)) C ?_ (.ti T (.cons P (.cons A .nil)) I);simp only[E,dh,cg9 (EK (c:=a) (st:=r)),bB];rfl
  ·rw[gw q]at T;have e:bt a (d::r)=d::r:=aM q;rw[e,uY];exact nN V (λ Y Y Y=>rfl) m (s.trans (aD (λ z=>aa (IV.lst z)) (bC b).symm)) (.wa T)
noncomputable def GF(t:IV):al:=t.dH.any λ l=>aX l.length 4&&((l.take 2).all az&&((l.drop 2).all λ v=>v.cn.isSome))
theorem L8:((gi 10).all λ j=>(ed j).all GF)=ae:=∅
noncomputable def aj7(V h:Loc):Prop:=∀x,x≠.bY->x≠.lp->x≠.fR->x≠.fy->x≠.eS->lk x h=lk x V
theorem ba8{w}(J:w=[wX .bY [.var .lp,.var .fR,.var .eL,.bin .Add (.var .eM) (.var .fy),.var .eL,.bin .Add (.var .eM) (.var .eS)]]):∀{g b}{V:Loc},g.all GF=ae->b.length+g.length<=9000->lk .bY V=aa (.lst b)->lk .eL V=aa (.int n)->lk .eM V=aa (.int a)->
  ∃h,aj7 V h/\lk .bY h=aa (.lst (b++eU n a g))/\YF D dT ai [.lp,.fR,.fy,.eS] g w V O (.ok (.next,h,O)):=by
 intro g;induction g with
 |nil=>intro b V _ _ p _ _;exact ec V (λ Y Y Y Y Y Y=>rfl) (p.trans (aD (λ z=>aa (IV.lst z)) (bC b).symm)) .nil
 |cons t g L=>
  intro b V M q p N Q;revert M;refine aV λ s U=>?_;revert s;refine gn λ l e=>aV λ m=>?_;obtain rfl:=qt e;refine tT (VA m) λ k v x y Z=>?_;subst Z;clear m;refine aV λ o H=>?_;refine aI (fY (aH H)) λ i e1=>?_;refine aI (fY (aH ((aP H)))) λ j e2=>?_;obtain rfl:=dY e1;obtain rfl:=dY e2;have nk:=(aH o)
  have hu:∀r:bh,r.prm=dT->jz r [.lp,.fR,.fy,.eS] (.tup [k,v,.int i,.int j]) V=aa (put .eS (.int j) (put .fy (.int i) (put .fR v (put .lp k V)))):=λ r hr=>Ke (by intro x hx;exact bP (p:=λ x=>!(dT.contains x)) ∅ hx|>(mm _).mp) hr ⋯ rfl ⋯;have ne:∀{x},x≠.lp->x≠.fR->x≠.fy->x≠.eS->lk x (put .eS (.int j) (put .fy (.int i) (put .fR v (put .lp k V))))=lk x V:=λ s h2 m o=>(bc o).trans ((bc m).trans ((bc h2).trans (bc s)));have g1:lk .lp (put .eS (.int j) (put .fy (.int i) (put .fR v (put .lp k V))))=aa k:=(bc ⋯).trans ((bc ⋯).trans ((bc ⋯).trans cj));have g2:lk .fR (put .eS (.int j) (put .fy (.int i) (put .fR v (put .lp k V))))=aa v:=(bc ⋯).trans ((bc ⋯).trans cj);have g3:lk .fy (put .eS (.int j) (put .fy (.int i) (put .fR v (put .lp k V))))=aa (.int i):=(bc ⋯).trans cj;have g4:lk .eS (put .eS (.int j) (put .fy (.int i) (put .fR v (put .lp k V))))=aa (.int j):=cj;have gU:=(ne ⋯ ⋯ ⋯ ⋯).trans p;have gN:=(ne ⋯ ⋯ ⋯ ⋯).trans N;have u:=(ne ⋯ ⋯ ⋯ ⋯).trans Q;generalize put .eS (.int j) (put .fy (.int i) (put .fR v (put .lp k V)))=X at*;have T:YE D dT ai (.tup [.var .lp,.var .fR,.var .eL,.bin .Add (.var .eM) (.var .fy),.var .eL,.bin .Add (.var .eM) (.var .eS)]) X O (.ok (atT k v n (a+i) (a+j),O)):=
   .tup (.cons (.var g1) (by rw[fL];rfl) (.cons (.var g2) (by rw[fL];rfl) (.cons (.var gN) rfl (.cons (.bin (.var u) rfl (.var g3) rfl) rfl (.cons (.var gN) rfl (.cons (.bin (.var u) rfl (.var g4) rfl) rfl .nil)))))) (by show(az k&&(az v&&_))=ae;simp only[nk,((aH ((aP o))))];rfl) (by show 6<=10000;decide)
  rw[dh]at q;refine dJ (L (V:=put .bY (.lst (b++[atT k v n (a+i) (a+j)])) X) U (by simp only[bp,oO];exact aj (cx (oz _ _ _)) q) cj ((bc ⋯).trans gN) ((bc ⋯).trans u)) λ h k1 k2 k3=>?_;refine ec h (λ x A B C E I=>(k1 x A B C E I).trans ((bc A).trans (ne B C E I))) ?_ (.cons (.inl rfl) hu (by rw[J];exact .cons (Aq gU T rfl (aj (aj (ck _ _) q) ⋯)) .nil) k3);rw[k2,bB];rfl
end
theorem P0{k}(h:aF k=ae\/k∈cK):decide (bj k=[45])=aX k 45:=by
 unfold bj;rcases q:aF k with _|_
 ·exact(by decide:∀k∈cK,decide ([k]=[45])=aX k 45) k (h.resolve_left (by rw[q];nofun))
 ·exact cH (bP (p:=λ k=>decide (bO k=[45])==aX k 45) ∅ (ku q))
section
variable{V:Loc}{O:St}{n:ag}{P:af (ah×ah)}{st:af ag}{due:af IV}{free keyed:al}{k i a:ah}{l:af ah}
noncomputable abbrev I9:IS:=.iff (.bool .And [.bool .Or [.var .iw,.bool .And [.cmp .Is (.var .cz) (.con .none),.var .jb]],.cmp .Lt rT (.var .eM)]) [.expr (.bx (.var .cB) .kZ [.var .eM] []),wX .bY (p6 (.ite (.cmp .Eq (.var .fw) (.con (.str [45]))) (.con (sS "<block sequence start>")) (.con (sS "<block mapping start>"))) (.con .none))] []
noncomputable abbrev ZK:IS:=.iff (.var .iw) [wX .bY (p6 (.con (.str [63])) (.con .none))] []
noncomputable def vP(V:Loc)(n:ag)(P:af (ah×ah))(st:af ag)(due:af IV)(free keyed:al):Prop:=lk .eL V=aa (.int n)/\lk .cS V=aa (.bN (P.map eJ))/\lk .cB V=aa (.lst (aQ st))/\lk .bY V=aa (.lst due)/\lk .jb V=aa (.bool free)/\lk .qp V=aa (.bool keyed)
structure ja(V:Loc)(n:ag)(P:af (ah×ah))(st:af ag)(due:af IV)(free keyed:al)(k a:ah):Prop where
 r:vP V n P st due free keyed
 a:lk .eM V=aa (.int a)
 s:lk .fw V=aa (.str (bj k))
 t:lk .cz V=aa (dZ k)
noncomputable abbrev AS:af Nm:=[.eL,.cS,.jb,.qp,.eM,.fw,.cz]
theorem ja.to{b:Loc}{c d}(A:ja V n P st due free keyed k a)(w:∀x∈AS,lk x b=lk x V)(e:lk .cB b=aa (.lst (aQ c)))(f:lk .bY b=aa (.lst d)):ja b n P c d free keyed k a:=
 have m {x} (h:AS.contains x=ae):lk x b=lk x V:=w x (List.contains_iff_mem.mp h)
 ⟨(Kd ((m rfl).trans A.r.1) ((m rfl).trans A.r.2.1) e f ((m rfl).trans A.r.2.2.2.2.1) ((m rfl).trans A.r.2.2.2.2.2)),(m rfl).trans A.a,(m rfl).trans A.s,(m rfl).trans A.t⟩
theorem pj{y}(h:AS.all (λ x=>!(x==y))=ae):∀x∈AS,x≠y:=λ x b e=>by
 have:=List.all_eq_true.mp h x b
 rw[beq_iff_eq.mpr e]at this;cases this
theorem aw3(d:P[i]? =aa (a,k))(e:P.length<=1000)(h:vP V n P st due free keyed)(c:lk .fB V=aa (.int i)):∃b,ja b n P st due free keyed k a/\lk .fB b=aa (.int i)/\YS 9 dT ai (.lT [.eM,.fw,.cz] (.idx (.var .cS) (.var .fB))) V O (.ok (.next,b,O)):=by
 have ne:∀{x},x≠.cz->x≠.fw->x≠.eM->lk x (put .cz (dZ k) (put .fw (.str (bj k)) (put .eM (.int a) V)))=lk x V:=λ f g j=>(bc f).trans ((bc g).trans (bc j));exact(ec _ ⟨⟨(ne ⋯ ⋯ ⋯).trans h.1,(ne ⋯ ⋯ ⋯).trans h.2.1,(ne ⋯ ⋯ ⋯).trans h.2.2.1,(ne ⋯ ⋯ ⋯).trans h.2.2.2.1,(ne ⋯ ⋯ ⋯).trans h.2.2.2.2.1,(ne ⋯ ⋯ ⋯).trans h.2.2.2.2.2⟩,(bc ⋯).trans ((bc ⋯).trans cj),(bc ⋯).trans cj,cj⟩ ((ne ⋯ ⋯ ⋯).trans c) (.lT (.idx (.var h.2.1) (by rw[fL];rfl) (.var c) (xH (by rw[bF];exact e) (by simp only[qT,d];rfl)).2) ⋯ λ r m=>Ke (by intro x o;exact bP (p:=λ x=>!(dT.contains x)) (l:=[Nm.eM,.fw,.cz]) ∅ o|>(mm _).mp) m ⋯ rfl ⋯))
theorem az7{a}(c:∃x∈st,x<=a):∃d r,bt a st=d::r:=by
 refine aG c λ x=>?_;induction st with
 |nil=>exact λ h=>nomatch h
 |cons d r f=>
  intro h b;by_cases q:a<d
  ·rw[show bt a (d::r)=bt a r from aT q];exact f (aL x ((List.mem_cons.mp h).resolve_left λ e=>absurd (zI q (e▸gj _)) (Int.not_lt.mpr b)) b) ((List.mem_cons.mp h).resolve_left λ e=>absurd (zI q (e▸gj _)) (Int.not_lt.mpr b)) b
  ·exact jT d r (aM q)
theorem ja.put{x v}(A:ja V n P st due free keyed k a)(h:AS.all (λ y=>!(y==x))=ae)(b:Nm.cB≠x)(c:Nm.bY≠x):ja (put x v V) n P st due free keyed k a:=
 A.to (λ y d=>bc (pj h y d)) ((bc b).trans A.r.2.2.1) ((bc c).trans A.r.2.2.2.1)
noncomputable abbrev iKe:IS:=.asg .iw (.bool .And [.var .jb,.cmp .IsNot (.var .cz) (.con .none),.cmp .Lt (.bin .Add (.var .fB) (.con (.int 1))) (.call (.glob .ij) [.var .cS] [])])
theorem tdN(h:lk .cz V=aa (dZ k)):YE 9 dT ai (.cmp .IsNot (.var .cz) (.con .none)) V O (.ok (.bool (aF k),O)):=.cmp (.var h) fL .con (by show aa (!(dZ k).cL)=_;simp only[xP,Xv])
theorem tdI(h:lk .cz V=aa (dZ k)):YE 9 dT ai (.cmp .Is (.var .cz) (.con .none)) V O (.ok (.bool (!aF k),O)):=.cmp (.var h) fL .con (by show aa (dZ k).cL=_;rw[xP])
theorem bo9(x:decide ((i:ag)+1<P.length)=!l.isEmpty)(c:P.length<=1000)(A:ja V n P st due free keyed k a)(d:lk .fB V=aa (.int i)):∃h,ja h n P st due free keyed k a/\lk .iw h=aa (.bool (free&&aF k&&!l.isEmpty))/\YS 9 dT ai iKe V O (.ok (.next,h,O)):=by
 exact(ec _ (A.put rfl ⋯ ⋯) (cj.trans (aD (λ b=>aa (IV.bool b)) (cc7 ..).symm)) (.asg rfl (.ao1 (.var A.r.2.2.2.2.1) (tdN A.t) (.cmp (.bin (.var d) rfl .con rfl) rfl (.len (.var A.r.2.1) (by show aE (dg (P.map eJ)) (P.map eJ).length=_;rw[show dg (P.map eJ)=ae from bK (by rw[bF];exact aj c ⋯),bF];rfl)) (by show aa (decide ((i:ag)+1<P.length))=_;rw[x]))) rfl ∅))
theorem Ro{s d r}(h:lk .cB V=aa (.lst (aQ (d::r)))):YE 9 dT ai rT V s (.ok (.int d,s)):=.idx (.var h) (by rw[fL];rfl) .con Pc
theorem bh2{d r g}(A:ja V n P (d::r) due free keyed k a)(h:lk .iw V=aa (.bool (free&&aF k&&g))):YT 9 dT ai (.bool .And [.cmp .IsNot (.var .cz) (.con .none),.var .jb,.not (.var .iw),.cmp .Eq rT (.var .eM)]) V O (.ok (free&&aF k&&(!g&&decide (d=a)),O)):=by
 rw[show(free&&aF k&&(!g&&decide (d=(a:ag))))=(aF k&&(free&&(!(free&&aF k&&g)&&(decide (d=a)&&ae)))) by cases aF k<;>cases free<;>cases g<;>cases decide (d=(a:ag))<;>rfl];exact .bool (.pq (.cmp (.var A.t) fL .con (by show aa (!(dZ k).cL)=_;rw[xP,Xv])) (.pq (.tX A.r.2.2.2.2.1) (.pq (.not (.tX h)) (.pq (.cmp (Ro A.r.2.2.1) rfl (.var A.a) rfl) .Di))))
theorem bw9(A:ja V n P st due free keyed k a):YT 9 dT ai (.bool .And [.cmp .Is (.var .cz) (.con .none),.not (.var .jb),.not (.var .qp)]) V O (.ok (!aF k&&(!free&&!keyed),O)):=by
 rw[<-Cc (!keyed)];exact .bool (.pq (.cmp (.var A.t) fL .con (by show aa (dZ k).cL=_;rw[xP])) (.pq (.not (.tX A.r.2.2.2.2.1)) (.pq (.not (.tX A.r.2.2.2.2.2)) .Di)))
theorem bn8{d r g}(A:ja V n P (d::r) due free keyed k a)(h:lk .iw V=aa (.bool (free&&aF k&&g))):YT 9 dT ai (.bool .And [.bool .Or [.var .iw,.bool .And [.cmp .Is (.var .cz) (.con .none),.var .jb]],.cmp .Lt rT (.var .eM)]) V O (.ok (free&&(!aF k||g)&&decide (d<a),O)):=by
 rw[show(free&&(!aF k||g)&&decide (d<(a:ag)))=(((free&&aF k&&g)||((!aF k&&(free&&ae))||ai))&&(decide (d<a)&&ae)) by cases aF k<;>cases free<;>cases g<;>cases decide (d<(a:ag))<;>rfl];exact .bool (.pq (.bool (.RZ (.tX h) (.RZ (.bool (.pq (.cmp (.var A.t) fL .con (by show aa (dZ k).cL=_;rw[xP])) (.pq (.tX A.r.2.2.2.2.1) .Di))) .T9))) (.pq (.cmp (Ro A.r.2.2.1) rfl (.var A.a) rfl) .Di))
theorem RJ{b}(A:ja V n P st due free keyed k a):YS 9 dT ai (.ret (aa (.tup [.var .eL,.var .eM,.con (.bool b)]))) V O (.ok (.ret (.tup [.int n,.int a,.bool b]),V,O)):=.UE (vs:=[.int n,.int a,.bool b]) rfl (.cons (.var A.r.1) rfl (.cons (.var A.a) rfl (.cons .con rfl .nil))) (λ r h=>rfl) (by show 3<=10000;decide)
theorem G8{d r h c}(g:aF k=ae\/k∈cK)(A:ja V n P (d::r) due free keyed k a)(e:lk .iw V=aa (.bool c))(C:YT 9 dT ai (.bool .And [.bool .Or [.var .iw,.bool .And [.cmp .Is (.var .cz) (.con .none),.var .jb]],.cmp .Lt rT (.var .eM)]) V O (.ok (h,O)))(j:r.length<=9000)(m:due.length<=9000):
  ∃b,ja b n P (bif h then(a:ag)::d::r else d::r) (due++(bif h then[atT (fW k) .none n a a]else[])) free keyed k a/\lk .iw b=aa (.bool c)/\YS 9 dT ai I9 V O (.ok (.next,b,O)):=by
 obtain _|_:=h
 ·exact(ec V ((bC due).symm▸A) e (.gk C .nil))
 ·have B:YE 9 dT ai (.ite (.cmp .Eq (.var .fw) (.con (.str [45]))) (.con (sS "<block sequence start>")) (.con (sS "<block mapping start>"))) (put .cB (.lst (aQ (d::r)++[.int a])) V) O (.ok (fW k,O)):=by
   have t:YT 9 dT ai (.cmp .Eq (.var .fw) (.con (.str [45]))) (put .cB (.lst (aQ (d::r)++[.int a])) V) O (.ok (aX k 45,O)):=.cmp (.var ((bc ⋯).trans A.s)) fL .con (by show aa (decide (bj k=[45]))=_;rw[P0 g]);unfold fW;revert t;obtain _|_:=aX k 45
   ·exact λ t=>.CO t .con
   ·exact λ t=>.EM t .con
  exact(ec _ (A.to (λ x f=>(bc (pj rfl x f)).trans (bc (pj rfl x f))) ((bc ⋯).trans (cj.trans (aD (λ z=>aa (IV.lst z)) BJ.symm))) cj) ((bc ⋯).trans ((bc ⋯).trans e)) (.jx C (.cons (Aq (D:=9) (O:=O) A.r.2.2.1 (.var A.a) rfl (aj (by rw[lu];exact gY j) ⋯)) (.cons (Aq ((bc ⋯).trans A.r.2.2.2.1) (KB ((bc ⋯).trans A.r.1) ((bc ⋯).trans A.a) B (YE.con) (by unfold fW;cases aX k 45<;>rfl) rfl) rfl (aj m ⋯)) .nil))))
theorem Q0{h}(A:ja V n P st due free keyed k a)(b:lk .iw V=aa (.bool h))(d:due.length<=9000):
  ∃c,ja c n P st (due++(bif h then[atT (.str [63]) .none n a a]else[])) free keyed k a/\lk .iw c=aa (.bool h)/\YS 9 dT ai ZK V O (.ok (.next,c,O)):=by
 obtain _|_:=h
 ·exact(ec V ((bC due).symm▸A) b (.gk (.tX b) .nil))
 ·exact(ec _ (A.to (λ x e=>bc (pj rfl x e)) ((bc ⋯).trans A.r.2.2.1) cj) ((bc ⋯).trans b) (.jx (.tX b) (.cons (Aq A.r.2.2.2.1 (KB A.r.1 A.a (YE.con) (YE.con) rfl rfl) rfl (aj d ⋯)) .nil)))
theorem Vy{b}{x:IV}:(bif b then[x]else[]).length<=1:=by
 cases b
 ·exact cg _
 ·exact ca _
theorem ar0(x:aF k=ae\/k∈cK):∃h:af IV,h.all GF=ae/\h.length<=10/\eU n a h=mD k n a/\((dZ k=.bN h/\eO (dZ k)=aa ae)\/(dZ k=.none/\h=[.tup [.str (bj k),.none,.int 0,.int 1]])):=by
 unfold dZ mD bj;rcases q:aF k with _|_
 ·exact nN ([.tup [.str [k],.none,.int 0,.int 1]]) rfl (by show 1<=10;decide) (by show[atT (.str [k]) .none n ((a:ag)+0) ((a:ag)+1)]=[kI k n a];rw[aO];rfl) (.inr ⟨rfl,rfl⟩)
 ·exact nN (ed k) (bP L8 (ku q)) (eQ (aH (aP (bP yF (ku q))))) rfl (.inl ⟨rfl,cH (bP (p:=λ k=>eO (.bN (ed k))==aa ae) ∅ (ku q))⟩)
theorem O8{g}(c:aF k=ae\/k∈cK)(A:ja V n P st due free keyed k a)(d:lk .iw V=aa g)(e:due.length<=8990):
  ∃h,ja h n P st (due++mD k n a) free keyed k a/\lk .iw h=aa g/\YS 9 dT ai SW V O (.ok (.next,h,O)):=by
 refine vd (ar0 (n:=n) (a:=a) c) λ s f j m o=>?_;refine dJ (ba8 (D:=9) (O:=O) rfl f (cU e j) A.r.2.2.2.1 A.r.1 A.a) λ h p q r=>?_;have w:=λ{x}=>p x;refine⟨h,A.to (λ x b=>w (pj rfl x b) (pj rfl x b) (pj rfl x b) (pj rfl x b) (pj rfl x b)) ((w ⋯ ⋯ ⋯ ⋯ ⋯).trans A.r.2.2.1) (m▸q),(w ⋯ ⋯ ⋯ ⋯ ⋯).trans d,?_⟩;exact .ae8 rfl rfl rfl (.var A.t) (.lst (.cons (.tup (.cons (.var A.s) rfl (.cons .con rfl (.cons .con rfl (.cons .con rfl .nil)))) rfl (by show 4<=10000;decide)) rfl .nil) rfl (by show 1<=10000;decide)) rfl o r
theorem bk7{b}(A:ja V n P st due free keyed k a)(d:lk .iw V=aa (.bool b)):∃c,vP c n P st due (free&&!aF k) b/\YB 9 dT ai [.asg .jb (.bool .And [.var .jb,.cmp .Is (.var .cz) (.con .none)]),.asg .qp (.var .iw)] V O (.ok (.next,c,O)):=by
 have p:∀{x w},x≠.qp->x≠.jb->lk x V=aa w->lk x (put .qp (.bool b) (put .jb (.bool (free&&!aF k)) V))=aa w:=λ e f h=>(bc e).trans ((bc f).trans h);exact(aL _ ⟨p ⋯ ⋯ A.r.1,p ⋯ ⋯ A.r.2.1,p ⋯ ⋯ A.r.2.2.1,p ⋯ ⋯ A.r.2.2.2.1,(bc ⋯).trans cj,cj⟩ (.cons (.asg rfl (.XT (.var A.r.2.2.2.2.1) (tdI A.t)) rfl ∅) (.cons (.asg rfl (.var ((bc ⋯).trans d)) rfl ∅) .nil)))
theorem bo0(q:aF k=ae\/k∈cK)(X:P[i]? =aa (a,k))(A:decide ((i:ag)+1<P.length)=!l.isEmpty)(s:P.length<=1000)(t:∃x∈st,x<=(a:ag))(B:st.length<=900)(u:due.length+st.length<=8000)(C:vP V n P st due free keyed)(D:lk .fB V=aa (.int i)):
  ∃b,lk .cS b=aa (.bN (P.map eJ))/\lk .eL b=aa (.int n)/\
  (bif free&&aF k&&(l.isEmpty&&decide (hd (bt a st)=a))then lk .cB b=aa (.lst (aQ (bt a st)))/\lk .bY b=aa (.lst (due++aJ (st.length-(bt a st).length) (cJ n a)))/\YB 9 dT ai xV V O (.ok (.ret (.tup [.int n,.int a,.bool ae]),b,O))
   else bif !aF k&&(!free&&!keyed)then lk .cB b=aa (.lst (aQ (bt a st)))/\lk .bY b=aa (.lst (due++aJ (st.length-(bt a st).length) (cJ n a)))/\YB 9 dT ai xV V O (.ok (.ret (.tup [.int n,.int a,.bool ai]),b,O))
   else vP b n P (bif(free&&(!aF k||!l.isEmpty))&&decide (hd (bt a st)<a)then(a:ag)::bt a st else bt a st)
    (due++aJ (st.length-(bt a st).length) (cJ n a)++(bif(free&&(!aF k||!l.isEmpty))&&decide (hd (bt a st)<a)then[atT (fW k) .none n a a]else[])++(bif free&&aF k&&!l.isEmpty then[atT (.str [63]) .none n a a]else[])++mD k n a) (free&&!aF k) (free&&aF k&&!l.isEmpty)/\YB 9 dT ai xV V O (.ok (.next,b,O))):=by
 refine aB λ Y c=>?_
 refine dJ (aw3 (O:=O) X s C D) λ V1 f E m=>?_
 refine vd (ag2 (D:=9) (O:=O) t (aj B ⋯) (aj u ⋯) f.r.2.2.1 f.r.2.2.2.1 f.r.1 f.a) λ V2 v I J W=>?_
 have g:(due++aJ (st.length-(bt a st).length) (cJ n a)).length+(bt a st).length<=8000:=by
  simp only[bp,gD,pO,BN (EK (c:=(a:ag)) (st:=st))];exact u
 refine dJ (bo9 (O:=O) A s (f.to (λ x w=>v x (pj rfl x w) (pj rfl x w)) I J) ((v .fB ⋯ ⋯).trans E)) λ y h j o=>?_;refine lE (az7 t) λ d r e=>?_;rw[e]at h g c;generalize due++aJ (st.length-(d::r).length) (cJ n a)=L at h g c;have z:=aj (ck _ _) g;have C1:=bh2 (O:=O) h j;have C2:=bw9 (O:=O) h;have C3:=bn8 (O:=O) h j;rw[Xv]at C1;rw[show hd (d::r)=d from rfl]at c;generalize(free&&aF k&&(l.isEmpty&&decide (d=(a:ag))))=M at C1 c;generalize(!aF k&&(!free&&!keyed))=N at C2 c;generalize(free&&(!aF k||!l.isEmpty)&&decide (d<(a:ag)))=Q at C3 c;generalize(free&&aF k&&!l.isEmpty)=bk at j c;obtain _|_:=M
 ·obtain _|_:=N
  · refine dJ (G8 q h j C3 (aj (aj (jF _) (aj (fD _ _) g)) ⋯) (aj z ⋯)) λ V4 T U Z=>?_;have H:(L++(bif Q then[atT (fW k) .none n a a]else[])).length<=8001:=by
     rw[bp];exact cU z Vy
    refine dJ (Q0 (O:=O) T U (aj H ⋯)) λ V5 A5 y5 S5=>?_;refine dJ (O8 (O:=O) q A5 y5 (aj (by rw[bp];exact cU H Vy) ⋯)) λ V6 A6 y6 S6=>?_;refine aG (bk7 (O:=O) A6 y6) λ V7 p S7=>?_;exact c (ec V7 p.2.1 p.1 ⟨p,.cons m (.cons W (.cons o (.cons (.gk C1 .nil) (.cons (.gk C2 .nil) (.cons Z (.cons S5 (.cons S6 S7)))))))⟩)
  · exact c (ec y h.r.2.1 h.r.1 (dB h.r.2.2.1 h.r.2.2.2.1 (.cons m (.cons W (.cons o (.cons (.gk C1 .nil) (.fin mx (.jx C2 (.fin mx (RJ h))))))))))
 ·exact c (ec y h.r.2.1 h.r.1 (dB h.r.2.2.1 h.r.2.2.2.1 (.cons m (.cons W (.cons o (.fin mx (.jx C1 (.fin mx (RJ h)))))))))
end
theorem Pe:∀{l p b},(wC p b l).length=l.length:=by
 intro l;induction l with
 |nil=>exact rfl
 |cons k l h=>exact aD Me h
theorem ar4{m i L:ah}(h:i<L):upTo (m+1) i L 1=.int i::upTo m ((i+1:ah):ag) L 1:=aT (.inl ⟨by decide,by exact Int.ofNat_lt.mpr h⟩)
section
variable{O:St}{n:ag}{P:af (ah×ah)}
noncomputable def ca3(n:ag)(f:ak (ag×al))(V:Loc)(O:St):RS:=match f with|none=>.ok (.next,V,O)|some (a,t)=>.ok (.ret (.tup [.int n,.int a,.bool t]),V,O)
theorem as9:∀{l pre p b free f st a V},ll l=ae->P=pre++wC p b l->P.length<=900->di st->st.length+l.length<=900->a.length+st.length+13*l.length<=8000->a.all eG=ae->vP V n P st a free f->
  ∃g,lk .cB g=aa (.lst (aQ (bT n ((p+bf b:ah):ag) free f l st a).1))/\lk .bY g=aa (.lst (bT n ((p+bf b:ah):ag) free f l st a).2.1)/\YF 9 dT ai [.fB] (upTo l.length pre.length P.length 1) xV V O (ca3 n (bT n ((p+bf b:ah):ag) free f l st a).2.2 g O):=by
 intro l;induction l with
 |nil=>intro pre p b free f st a V _ i _ _ _ _ _ c;exact ec V c.2.2.1 c.2.2.2.1 .nil
 |cons k l A=>
  intro pre p b free f st a V w i B C t u D c;refine dG w λ v E=>?_;have v:=(gV v).imp id qi;have z:P.length=pre.length+(l.length+1):=by simp only[i,bp,Pe,dh]
  have U:P[pre.length]? =aa (p+bf b,k):=by
   simp only[i,Ca (ca _),uY];rfl
  have Z:decide ((pre.length:ag)+1<P.length)=!l.isEmpty:=by
   rw[z];clear z E u t w A i;obtain _|_:=l
   ·exact gw (by rw[Mt];exact Int.not_le.mpr (gj _))
   ·exact bK (Int.add_lt_add_left (Int.ofNat_lt.mpr (Nat.succ_lt_succ (Cn _))) _)
  refine aG (C.low) λ x hx a0=>?_;have ne:∀{y},y≠.fB->lk y (put .fB (.int pre.length) V)=lk y V:=λ h=>bc h;rw[dh]at t u;refine dJ (bo0 (O:=O) v U Z (aj B ⋯) (aL x hx (bH a0 (bH ⋯ (dP _)))) (aj (ck _ _) t) (aj (ck _ _) u) (Kd ((ne ⋯).trans c.1) ((ne ⋯).trans c.2.1) ((ne ⋯).trans c.2.2.1) ((ne ⋯).trans c.2.2.2.1) ((ne ⋯).trans c.2.2.2.2.1) ((ne ⋯).trans c.2.2.2.2.2)) cj) λ g q1 q2 Q=>?_;simp only[dh,ar4 (eK (ck _ _) (cx z.symm))];have H:∀r:bh,r.prm=dT->jz r [.fB] (.int pre.length) V=aa (put .fB (.int pre.length) V):=λ r hr=>Dd ∅ hr rfl;refine bg (KG (n:=n) (a:=((p+bf b:ah):ag)) (free:=free) (keyed:=f) (st:=st) (l:=[k]) (due:=a) (by show((aF k||cK.contains k)&&ae)=ae;rw[show(aF k||cK.contains k)=ae from(aH w)];rfl) D) λ o1 o2=>?_;rw[rR];have j:=C.bt (c:=((p+bf b:ah):ag)) (bH ⋯ (dP _));have I:=EK (c:=((p+bf b:ah):ag)) (st:=st);rcases J:free&&aF k&&(l.isEmpty&&decide (hd (bt ((p+bf b:ah):ag) st)=((p+bf b:ah):ag)))with _|_
  ·rw[J]at Q;rcases L:!aF k&&(!free&&!f)with _|_
   ·rw[L]at Q;refine bg (Q) λ m o=>?_;have ea:((p+bf b:ah):ag)+(bj k).length+(bif aF k then 0 else 1)=((p+bf b+(bj k).length+bf (!aF k):ah):ag):=by
     obtain _|_:=aF k
     ·exact rfl
     ·exact rfl
    have s:(bif(free&&(!aF k||!l.isEmpty))&&decide (hd (bt ((p+bf b:ah):ag) st)<((p+bf b:ah):ag))then[atT (fW k) .none n ((p+bf b:ah):ag) ((p+bf b:ah):ag)]else[]).length<=1/\(bif(free&&(!aF k||!l.isEmpty))&&decide (hd (bt ((p+bf b:ah):ag) st)<((p+bf b:ah):ag))then[atT (fW k) .none n ((p+bf b:ah):ag) ((p+bf b:ah):ag)]else[]).all eG=ae/\di (bif(free&&(!aF k||!l.isEmpty))&&decide (hd (bt ((p+bf b:ah):ag) st)<((p+bf b:ah):ag))then((p+bf b:ah):ag)::bt ((p+bf b:ah):ag) st else bt ((p+bf b:ah):ag) st)/\(bif(free&&(!aF k||!l.isEmpty))&&decide (hd (bt ((p+bf b:ah):ag) st)<((p+bf b:ah):ag))then((p+bf b:ah):ag)::bt ((p+bf b:ah):ag) st else bt ((p+bf b:ah):ag) st).length<=(bt ((p+bf b:ah):ag) st).length+1:=by
     rcases q:(free&&(!aF k||!l.isEmpty))&&decide (hd (bt ((p+bf b:ah):ag) st)<((p+bf b:ah):ag))with _|_
     ·exact ky (cg _) rfl j.1 (jF _)
     ·refine ky (ca 1) (by show(eG _&&ae)=ae;rw[QD];rfl) ?_ (ca _);have M:=bE (aP q);rcases e:bt ((p+bf b:ah):ag) st with _|⟨d,r⟩
      ·rw[e]at j;cases j.1
      ·rw[e]at j M;exact j.1.push M
    have N:(bif free&&aF k&&!l.isEmpty then[atT (.str [63]) .none n ((p+bf b:ah):ag) ((p+bf b:ah):ag)]else[]).length<=1/\(bif free&&aF k&&!l.isEmpty then[atT (.str [63]) .none n ((p+bf b:ah):ag) ((p+bf b:ah):ag)]else[]).all eG=ae:=by
     obtain _|_:=free&&aF k&&!l.isEmpty
     ·exact qh (cg _) rfl
     ·exact qh (ca 1) (by show(eG _&&ae)=ae;rw[wL ∅];rfl)
    rw[ea];refine dJ (A (pre:=pre++[(p+bf b,k)]) (p:=p+bf b+(bj k).length) (b:=!aF k) E (by simp only[i,bB];rfl) B s.2.2.1 (aj (lG (aj s.2.2.2 (gY I)) _) (aj (cx (Nat.succ_add_eq_add_succ _ _)) t)) (by simp only[bp,gD];exact bi9 u I s.1 N.1 (Sp (n:=n) (k:=k) (a:=((p+bf b:ah):ag))) s.2.2.2) (by simp only[mT,mT,mT,mT,D,Ll,s.2.1,N.2,NT v];rfl) m) λ V2 f1 f2 T=>?_;simp only[bp,oO]at T;exact ec V2 f1 f2 (.cons (.inl rfl) H o T)
   ·rw[L]at Q;refine lg (Q) λ m X o=>?_;exact ec g m X (.ret H o)
  ·rw[J]at Q;refine lg (Q) λ m X o=>?_;exact ec g m X (.ret H o)
theorem ZJ{x st h}(g:ll x.2=ae)(i:di st)(c:x.2.length<=100)(f:st.length<=700)(j:h.length<=5000)(k:h.all eG=ae):∃b,lk .cB b=aa (.lst (aQ (bT n x.1 ae ai x.2 st h).1))/\lk .bY b=aa (.lst (bT n x.1 ae ai x.2 st h).2.1)/\
  YC 10 (fF .vf) [.int n,.bN ((iQ x).map eJ),.lst (aQ st),.lst h] [] O (eW (match(bT n x.1 ae ai x.2 st h).2.2 with|none=>.ok (.ret .none,b,O)|some (a,t)=>.ok (.ret (.tup [.int n,.int a,.bool t]),b,O))):=by
 refine aB λ Y l=>?_;have m:vP [(.eL,.int n),(.cS,.bN ((iQ x).map eJ)),(.cB,.lst (aQ st)),(.bY,.lst h),(.jb,.bool ae),(.qp,.bool ai)] n (iQ x) st h ae ai:=(Kd rfl rfl rfl rfl rfl rfl)
 have e:(iQ x).length=x.2.length:=Pe;refine dJ (as9 (O:=O) (P:=iQ x) (pre:=[]) g rfl (by rw[e];exact aj c ⋯) i (aj (cU f c) ⋯) (aj (cU (cU j f) (BO 13 c)) ⋯) k m) λ b o p F=>?_;refine l ?_;refine ec b o p (YC.of (V:=[(.eL,.int n),(.cS,.bN ((iQ x).map eJ)),(.cB,.lst (aQ st)),(.bY,.lst h)]) ∅ ?_);rw[bs4];have q:(if Nm.jR=.jR then xI [.int (x.2.length:ah)]else none)=aa (upTo x.2.length (([]:af (ah×ah)).length:ah) (iQ x).length 1):=by
  rw[aT rfl,e];show aE (decide (((x.2.length:ah):ag).natAbs<=1000)) (upTo ((x.2.length:ah):ag).toNat 0 (x.2.length:ah) 1)=_;rw[bK (by rw[Xw];exact aj c ⋯),uQ];rfl
 have d:YS 9 dT ai (.jr [.fB] (.call (.glob .jR) [.call (.glob .ij) [.var .cS] []] []) xV) _ O _:=.Dh (n:=.jR) rfl rfl (.cons (.len (.var rfl) (by show aE (dg ((iQ x).map eJ)) ((iQ x).map eJ).length=_;simp only[show dg ((iQ x).map eJ)=ae from bK (by rw[bF];exact aj (cx e) (aj c ⋯)),bF,e];rfl)) rfl .nil) q F;refine .cons (.asg rfl .con rfl ∅) (.cons (.asg rfl .con rfl ∅) ?_);rw[show(((x.1+bf ai:ah)):ag)=(x.1:ag)from rfl]at d;revert d;generalize bT n x.1 ae ai x.2 st h=z;intro d;obtain⟨r,s,_|⟨a,t⟩⟩:=z
 ·exact .cons d (.fin mx (.ret rfl .con rfl))
 ·exact .fin mx d
end
section
variable{D:ah}{prm:af Nm}{top:al}{V l j:Loc}{O f k:St}{v w u:IV}{x:Nm}{e a b t:IE}{as:af IE}{h:af IV}{i:af Nm}{g:Fn}
theorem YS.Cv(m:((mJ e).bind λ c=>(aC.fn c.1).map λ g=>(g,c.2))=aa (g,as,[]))(o:as.length<=g.params.length)(p:YA D prm top as V O (.ok (h,f)))(q:oS as h=aa i)(c:YC D g h [] f (.ok ((v,j),k)))(r:prm.contains x=ai):YS D prm top (.asg x e) V O (.ok (.next,put x v (uC j as h g.params V),k)):=p.ek c λ N d n s y=>by
 show bo _ _ _=_
 rw[m]
 show R.ax (ae&&decide (as.length<=g.params.length)) (aY V (dq (rA prm d N top n) as [] V O) _)=_
 simp only[bK o,qv s]
 show R.opt (oS as h) (λ i=>zg (rA prm d N top n) x as h g i V ((rA prm d N top n).C g h [] f))=_
 simp only[q,vE,y]
 show R.ax (!((rA prm d N top n).prm.contains x)||_) _=_
 simp only[show(rA prm d N top n).prm=prm from(jh n).2.1,r];rfl
end
noncomputable abbrev Flt:=ak (ag×ag×al)
noncomputable abbrev kj:=af ag×af IV×Flt
noncomputable def Fh(n:ag)(f:ak (ag×al)):Flt:=match f with
 |none=>none
 |some p=>aa (n,p.1,p.2)
noncomputable def mr(n:ag):af Row->af ag->af IV->kj
 |[],st,h=>(st,h,none)
 |x::R,st,h=>match bT n x.1 ae ai x.2 st h with
  |(a,b,none)=>mr (n+1) R a b
  |(a,b,aa p)=>(a,b,aa (n,p.1,p.2))
noncomputable def nX(n:ag)(x:Row)(z:kj):kj:=match z.2.2 with
 |some f=>z
 |none=>((bT n x.1 ae ai x.2 z.1 z.2.1).1,(bT n x.1 ae ai x.2 z.1 z.2.1).2.1,Fh n (bT n x.1 ae ai x.2 z.1 z.2.1).2.2)
theorem TP{x}:∀{R n st h},mr n (R++[x]) st h=nX (n+R.length) x (mr n R st h):=by
 intro R;induction R with
 |nil=>
  intro n st h;show(match bT n x.1 ae ai x.2 st h with|(a,b,none)=>(a,b,none)|(a,b,aa p)=>(a,b,aa (n,p.1,p.2)))=((bT (n+0) x.1 ae ai x.2 st h).1,(bT (n+0) x.1 ae ai x.2 st h).2.1,Fh (n+0) (bT (n+0) x.1 ae ai x.2 st h).2.2);rw[aO]
  match bT n x.1 ae ai x.2 st h with
  |(_,_,none)=>rfl
  |(_,_,aa _)=>rfl
 |cons y R c=>
  intro n st h;show(match bT n y.1 ae ai y.2 st h with|(a,b,none)=>mr (n+1) (R++[x]) a b|(a,b,aa p)=>(a,b,aa (n,p.1,p.2)))=nX (n+((y::R).length:ah)) x (match bT n y.1 ae ai y.2 st h with|(a,b,none)=>mr (n+1) R a b|(a,b,aa p)=>(a,b,aa (n,p.1,p.2)))
  match bT n y.1 ae ai y.2 st h with
  |(a,b,none)=>
   simp only[c,dh,uu]
  |(_,_,aa _)=>rfl
noncomputable def pz(h:ah):af Row->ah
 |[]=>h
 |x::R=>pz (bb x).length R
noncomputable def pl(d:ag×ag)(n:ag):af Row->ag×ag
 |[]=>d
 |x::R=>bif x.2.isEmpty then pl d (n+1) R else(n,x.1)
theorem ai9:∀{R n h},jt n h R=pl (n+R.length-1,pz h R) n R:=by
 intro R;induction R with
 |nil=>intro n h;show(n-1,(h:ag))=(n+0-1,(h:ag));rw[aO]
 |cons x R a=>
  intro n h;show(bif x.2.isEmpty then jt (n+1) x.1 R else(n,(x.1:ag)))=bif x.2.isEmpty then pl (n+((x::R).length:ah)-1,pz (bb x).length R) (n+1) R else(n,(x.1:ag))
  rcases q:x.2.isEmpty with _|_
  ·rfl
  ·show jt (n+1) x.1 R=pl (n+((x::R).length:ah)-1,pz (bb x).length R) (n+1) R;simp only[a,wy q,gD,dh,show n+1+(R.length:ag)-1=n+((R.length+1:ah):ag)-1 from aD (·-1) uu]
theorem MY:∀{R n st due f},(mr n R st due).2.2=aa f->n<=f.1/\f.1<n+R.length:=by
 intro R;induction R with
 |nil=>intro n st due f h;cbv
 |cons x R c=>
  intro n st due f h;replace h:(match bT n x.1 ae ai x.2 st due with|(a,b,none)=>mr (n+1) R a b|(a,b,aa p)=>(a,b,aa (n,p.1,p.2))).2.2=aa f:=h;rw[dh];revert h
  match bT n x.1 ae ai x.2 st due with
  |(a,b,none)=>intro h;have:=c h;exact⟨bH (Ls (gj n)) this.1,zI this.2 (Gv uu)⟩
  |(_,_,aa p)=>intro h;cases h;exact⟨gj _,co4 n (Int.ofNat_lt.mpr (Cn _))⟩
noncomputable def Aa(m:ag)(w:ah)(n:ag)(R:af Row)(z:kj):af IV×ak ((ag×ag)×ak (ag×ag)):=match z.2.2 with
 |none=>(z.2.1++aJ (z.1.length-1) (cJ m w)++[jO m w],none)
 |some f=>(z.2.1,aa (bif f.2.2 then(pl (m,w) (f.1+1) (R.drop (f.1+1-n).toNat),aa (f.1,f.2.1))else((f.1,f.2.1),none)))
theorem av7:∀{R n d st c},eF n d R st c=Aa (n+R.length-1) (pz d R) n R (mr n R st c):=by
 intro R;induction R with
 |nil=>
  intro n d st c;show(c++aJ (st.length-1) (cJ (n-1) d)++[jO (n-1) d],none)=(c++aJ (st.length-1) (cJ (n+0-1) d)++[jO (n+0-1) d],none);rw[aO]
 |cons x R i=>
  intro n d st c;have e:n+((x::R).length:ah)-1=n+1+R.length-1:=aD (·-1) uu.symm;show(match bT n x.1 ae ai x.2 st c with|(b,h,none)=>eF (n+1) (bb x).length R b h|(_,h,aa (a,ae))=>(h,aa (jt (n+1) (bb x).length R,aa (n,a)))|(_,h,aa (a,ai))=>(h,aa ((n,a),none)))=Aa (n+((x::R).length:ah)-1) (pz (bb x).length R) n (x::R) (match bT n x.1 ae ai x.2 st c with|(b,h,none)=>mr (n+1) R b h|(b,h,aa p)=>(b,h,aa (n,p.1,p.2)));rw[e]
  match bT n x.1 ae ai x.2 st c with
  |(b,h,none)=>
   show eF (n+1) (bb x).length R b h=Aa _ _ n (x::R) (mr (n+1) R b h);rw[i];unfold Aa;have g:=λ f=>MY (R:=R) (n:=n+1) (st:=b) (due:=h) (f:=f)
   match mr (n+1) R b h,g with
   |(_,_,none),_=>rfl
   |(_,_,aa f),g=>
    have:=g f rfl;show(_,aa (bif f.2.2 then(pl _ (f.1+1) (R.drop (f.1+1-(n+1)).toNat),aa (f.1,f.2.1))else _))=(_,aa (bif f.2.2 then(pl _ (f.1+1) ((x::R).drop (f.1+1-n).toNat),aa (f.1,f.2.1))else _));rw[show(f.1+1-n).toNat=(f.1+1-(n+1)).toNat+1 by rw[<-Int.toNat_add_nat (MD (bH this.1 (Ls (gj _)))) 1,<-Mz];exact aD Int.toNat (Fy _ 1).symm];rfl
  |(_,h,aa (a,ae))=>
   show(h,aa (jt (n+1) (bb x).length R,aa (n,a)))=(h,aa (pl (n+1+R.length-1,pz (bb x).length R) (n+1) ((x::R).drop (n+1-n).toNat),aa (n,a)));rw[show(n+1-n).toNat=1 by lia,ai9];rfl
  |(_,_,aa (a,ai))=>rfl
noncomputable def Rh:IS->af IS|.jr _ _ b=>b|_=>[]
noncomputable def bi5:IS->af IS|.iff _ a _=>a|_=>[]
noncomputable def ao6:IS->af IS|.iff _ _ b=>b|_=>[]
noncomputable def eu(k:ah):IS:=jg.body.getD k .bad
noncomputable def gM(e:IE):IE:=.call (.glob .ij) [e] []
noncomputable def ID(as:af IE):IE:=.call (.glob .jR) as []
noncomputable def cX(k:ag):IE:=.con (.int k)
theorem bs3:jg.body=eu 0::eu 1::eu 2::eu 3::eu 4::eu 5::eu 6::eu 7::eu 8::eu 9::jg.body.drop 10:=∅
theorem O9:eu 0=.asg .lO (.bool .Or [.jN (.var .mz) none (aa (cX 14)),.lst [cX 0]]):=∅
theorem an8:eu 1=.asg .ei (.lst []):=∅
theorem ZY:eu 2=.asg .cB (.lst [cX (-1)]):=∅
theorem ZP:eu 3=.asg .bY (.lst [.tup [.con (sS "<stream start>"),.con .none,cX 0,cX 0,cX 0,cX 0]]):=∅
theorem B5:eu 4=.asg .fh (.con .none):=∅
noncomputable def Es:af IS:=Rh (eu 5)
theorem ab7:eu 5=.jr [.fB] (ID [cX 0,gM (.var .lO),cX 2]) Es:=∅
noncomputable def HX:IE:=.call (.glob .yx) [.idx (.var .lO) (.var .fB),.ite (.cmp .Lt (.bin .Add (.var .fB) (cX 1)) (gM (.var .lO))) (.idx (.var .lO) (.bin .Add (.var .fB) (cX 1))) (cX 0)] []
noncomputable def He:IE:=.call (.glob .vf) [gM (.var .ei),.var .cS,.var .cB,.var .bY] []
theorem bg4:Es=[.lT [.nt,.cS] HX,.iff (.cmp .Gt (gM (zL (.bin .Add (.var .ei) (.lst [.var .nt])))) (cX 32)) [.cont] [],.iff (.cmp .Is (.var .fh) (.con .none)) [.asg .fh He] [],.expr (.bx (.var .ei) .kZ [.var .nt] [])]:=∅
theorem ak6:eu 6=.iff (.cmp .Eq (.bin .Mod (gM (.var .mz)) (cX 2)) (cX 1)) [.expr (.bx (.var .ei) .kZ [.con (.str [])] [])] []:=∅
theorem ac3:eu 7=.asg .kT (.tup [.bin .Sub (gM (.var .ei)) (cX 1),gM (.idx (.var .ei) (cX (-1)))]):=∅
theorem aa6:eu 8=.asg .ir (.con .none):=∅
noncomputable def Ag:af IS:=Rh ((bi5 ((ao6 (eu 9)).getD 0 .bad)).getD 0 .bad)
noncomputable def ze(e:IE):IE:=.bin .Add (.bin .Add e (.var .kT)) (.var .kT)
theorem QS:eu 9=.iff (.cmp .Is (.var .fh) (.con .none)) [.aug .bY .Add (.bin .Add (.bin .Mult (.lst [ze (.tup [.con (sS "<block end>"),.con .none])]) (.bin .Sub (gM (.var .cB)) (cX 1))) (.lst [ze (.tup [.con (sS "<stream end>"),.con .none])]))]
 [.iff (.idx (.var .fh) (cX 2)) [.jr [.eL] (ID [.bin .Sub (gM (.var .ei)) (cX 1),.idx (.var .fh) (cX 0),cX (-1)]) Ag,.asg .ir (.tup [.var .kT,.jN (.var .fh) none (aa (cX 2))])] [.asg .ir (.tup [.jN (.var .fh) none (aa (cX 2)),.con .none])]]:=∅
theorem Yj:Ag=[.iff (.bx (.idx (.var .ei) (.var .eL)) .rM [.con (.str [32])] []) [.asg .kT (.tup [.var .eL,.bin .Sub (gM (.idx (.var .ei) (.var .eL))) (gM (.bx (.idx (.var .ei) (.var .eL)) .sv [.con (.str [32])] []))])] []]:=∅
section
variable{D:ah}{prm:af Nm}{top:al}{V c:Loc}{O h f:St}{v w u:IV}{x:Nm}{e a b t:IE}{l:af IE}{i:af Nm}
theorem YE.ae1(g:YE D prm top a V O (.ok (v,h)))(j:eO v=aa ae):YE D prm top (.bool .Or (a::b::l)) V O (.ok (v,h)):=g.up λ N d n q=>by
 show R.aw _ _=_;rw[q];show R.opt (eO v) _=_;rw[j];rfl
theorem YE.G5{y}(j:YE D prm top a V O (.ok (v,h)))(k:eO v=aa ai)(g:YE D prm top b V h y):YE D prm top (.bool .Or [a,b]) V O y:=j.ek g λ N d n m o=>by
 show R.aw _ _=_;rw[m];show R.opt (eO v) _=_;rw[k];exact o
end
theorem bx7{l}(h:l.length<=1000):slice (.bN l) none (aa 14)=aa (.lst (l.take 14)):=by
 show(aE (dg l) (IV.lst ((l.drop 0).take (Lx l.length 14-0)))).or none=_;simp only[show dg l=ae from bK (aj h ⋯),Wp,Nat.sub_zero];show aa (IV.lst (l.take (max 0 (uW (14:ag) l.length)).toNat))=_;by_cases q:14<=l.length
 ·rw[Wn (show(14:ag)<=l.length from Int.ofNat_le.mpr q)];rfl
 ·have q:=iA (Nat.not_le.mp q);simp only[cn6 (show(l.length:ag)<=14 from Int.ofNat_le.mpr q),co8 (dP _),uQ,co9,Cg q]
noncomputable def gs(l:af ag):af ag:=bif(l.take 14).isEmpty then[0]else l.take 14
theorem CU{l}:1<=(gs l).length/\(gs l).length<=14:=by
 unfold gs;rcases q:(l.take 14).isEmpty with _|_
 ·refine⟨?_,cp0 _ _⟩;rcases e:l.take 14 with _|_
  ·rw[e]at q;cbv
  ·exact gY (cg _)
 ·exact⟨ca 1,by show 1<=14;decide⟩
theorem az3{D prm top}{V:Loc}{O l}(b:l.length<=63)(h:lk .mz V=aa (.bN (l.map .int)))(c:prm.contains .lO=ai):YS D prm top (eu 0) V O (.ok (.next,put .lO (.lst ((gs l).map .int)) V,O)):=by
 rw[O9];have a:YE D prm top (.jN (.var .mz) none (aa (cX 14))) V O (.ok (.lst ((l.take 14).map .int),O)):=.Nu (.var h) fL .con (by rw[bx7 (by rw[bF];exact aj b ⋯),List.map_take]);refine .xU rfl ?_ rfl c;unfold gs;rcases q:l.take 14 with _|⟨x,r⟩
 ·rw[q]at a;exact .G5 a rfl (.lst (.cons .con rfl .nil) rfl ⋯)
 ·rw[q]at a;exact .ae1 a (by
   show aE (dg ((x::r).map IV.int)) (!((x::r).map IV.int).isEmpty)=_
   rw[show dg ((x::r).map IV.int)=ae from bK (by rw[bF];exact aj (q▸cp0 14 l) ⋯)];rfl)
theorem A2{n}:∀{l a free b st e},0<=a->di st->di (bT n a free b l st e).1:=by
 intro l;induction l with
 |nil=>exact λ Y h=>h
 |cons k l g=>
  intro a free b st e f i;rw[rR];have x:=(i.bt (bH ⋯ f)).1;have j:0<=a+((bj k).length:ag)+(bif aF k then 0 else 1):=by obtain _|_:=aF k<;>simp only[Xp,Xo]<;>exact qY (qY f (dP _)) ⋯
  obtain _|_:=free&&aF k&&(l.isEmpty&&decide (hd (bt a st)=a))
  ·obtain _|_:=!aF k&&(!free&&!b)
   ·refine g j ?_;rcases q:(free&&(!aF k||!l.isEmpty))&&decide (hd (bt a st)<a)with _|_
    ·exact x
    ·have c:=bE (aP q);revert c x;obtain _|⟨d,r⟩:=bt a st
     ·exact λ h Y=>h.elim
     ·exact λ h c=>h.push c
   ·exact x
  ·exact x
structure yc(z:kj)(k:ah):Prop where
 qo:di z.1
 ok:z.2.1.all eG=ae
 len:z.2.1.length+z.1.length<=k
theorem M9{n x z k}(a:ll x.2=ae)(h:yc z k):yc (nX n x z) (k+13*x.2.length):=by
 unfold nX;have:=h.len;obtain _|f:=z.2.2
 ·obtain⟨o1,b⟩:=KG a h.ok;exact⟨A2 (dP _) h.qo,o1,aj b (lG this _)⟩
 ·exact⟨h.qo,h.ok,aj this (ck _ _)⟩
noncomputable def ac2(l:af ah):al:=eE (cC ai l++cE l).length 28&&(cC ai l++cE l).all λ c=>na.contains c
theorem bf2:((gi 8).all λ o=>(gi 10).all λ f=>(gi 10).all λ h=>(gi 10).all λ x=>ac2 ((td.getD o []++sY.getD f []).map (code h x)))=ae:=∅
section
variable{a b:ag}
theorem Qg:(bb (dM a b)).length<=32/\((bb (dM a b)).all λ c=>na.contains c)=ae:=by
 refine bg (ej (bP (bP (bP (bP bf2 (List.mem_range.mpr (Be (a:=a)))) (List.mem_range.mpr (Bp (b:=b)))) (List.mem_range.mpr (DJ (b:=b)))) (List.mem_range.mpr (DW (b:=b))))) λ h d=>?_;have h:=eQ h;have x:=Jk (a:=a);constructor
 ·show(aJ (lq.getD (cA a) 0) 32++(cC ai (dM a b).2++cE (dM a b).2)).length<=32;rw[bp,gD];exact cU x h
 ·show((aJ (lq.getD (cA a) 0) 32++(cC ai (dM a b).2++cE (dM a b).2)).all _)=ae;rw[mT,show((aJ (lq.getD (cA a) 0) 32).all λ c=>na.contains c)=ae from List.all_eq_true.mpr λ c x=>by rw[co5 x];rfl];exact d
theorem F1:(dM a b).2.length<=6:=by show(ml _ _).length<=6;rw[bF];exact QG
end
noncomputable def pD(x:Row):Prop:=(∃a b,x=dM a b)\/x=(0,[])
theorem pD.all{x}(h:pD x):iy x.2=ae/\ll x.2=ae/\x.2.length<=6/\(bb x).length<=32/\((bb x).all λ c=>na.contains c)=ae:=by
 obtain⟨a,b,rfl⟩|rfl:=h
 ·exact Hw Ki.1 Ki.2 F1 Qg.1 Qg.2
 ·exact Hw rfl rfl (cg _) (cg _) rfl
noncomputable def Pq(f:Flt):IV:=match f with
 |none=>.none
 |some f=>.tup [.int f.1,.int f.2.1,.bool f.2.2]
structure eT(V:Loc)(l:af ag)(R:af Row)(z:kj):Prop where
 sc:lk .mz V=aa (.bN (l.map .int))
 tp:lk .lO V=aa (.lst ((gs l).map .int))
 rw:lk .ei V=aa (.lst ((R.map bb).map .str))
 dp:lk .cB V=aa (.lst (aQ z.1))
 du:lk .bY V=aa (.lst z.2.1)
 ft:lk .fh V=aa (Pq z.2.2)
theorem eT.put{V l R z x v}(h:eT V l R z)(a:∀y∈[Nm.mz,.lO,.ei,.cB,.bY,.fh],y≠x):eT (put x v V) l R z:=
 have k:=λ y b=>bc (a y b)
 ⟨(k _ (.head _)).trans h.sc,(k _ (.tail _ (.head _))).trans h.tp,(k _ (.tail _ (.tail _ (.head _)))).trans h.rw,(k _ (.tail _ (.tail _ (.tail _ (.head _))))).trans h.dp,(k _ (.tail _ (.tail _ (.tail _ (.tail _ (.head _)))))).trans h.du,(k _ (.tail _ (.tail _ (.tail _ (.tail _ (.tail _ (.head _))))))).trans h.ft⟩
noncomputable def uB(t:af ag)(k:ah):ag:=bif decide (k+1<t.length)then t.getD (k+1) 0 else 0
section
variable{D:ah}{V:Loc}{O:St}{l:af ag}{R:af Row}{z:kj}{k:ah}
theorem xb{t}(h:t.length<=1000):nB (.lst t)=aa t.length/\nB (.bN t)=aa t.length:=by
 have e:dg t=ae:=bK (aj h ⋯);constructor
 ·show aE (dg t) t.length=_;rw[e];rfl
 ·show aE (dg t) t.length=_;rw[e];rfl
theorem len_str{t}(h:t.length<=1000):nB (.str t)=aa t.length:=by
 show(aE (dg t) t.length).or none=_;rw[show dg t=ae from bK (aj h ⋯)];rfl
theorem XS{t}(a:lk .lO V=aa (.lst (t.map .int)))(d:lk .fB V=aa (.int k))(g:k<t.length)(i:t.length<=1000):YE 30 bz ae HX V O (.ok (.tup [.str (bb (dM (t.getD k 0) (uB t k))),.bN ((iQ (dM (t.getD k 0) (uB t k))).map eJ)],O)):=by
 have b:(t.map IV.int).length<=1000:=by rw[bF];exact i
 have e:YE 30 bz ae (.bin .Add (.var .fB) (cX 1)) V O (.ok (.int ((k+1:ah):ag),O)):=.bin (.var d) rfl .con rfl;have x:YT 30 bz ae (.cmp .Lt (.bin .Add (.var .fB) (cX 1)) (gM (.var .lO))) V O (.ok (decide (((k+1:ah):ag)<((t.map IV.int).length:ah)),O)):=.cmp e rfl (.len (.var a) (xb b).1) rfl;have f:∀{j},j<t.length->(t.map IV.int)[j]? =aa (.int (t.getD j 0)):=λ h=>by simp only[qT,CS h (d:=0)];rfl
 have m:YE 30 bz ae (.ite (.cmp .Lt (.bin .Add (.var .fB) (cX 1)) (gM (.var .lO))) (.idx (.var .lO) (.bin .Add (.var .fB) (cX 1))) (cX 0)) V O (.ok (.int (uB t k),O)):=by
  rw[bF]at x;unfold uB;by_cases q:k+1<t.length
  ·rw[bK (show((k+1:ah):ag)<(t.length:ah) by exact Int.ofNat_lt.mpr q)]at x;rw[bK q];exact .EM x (.idx (.var a) (gz _) e (xH b (f q)).1)
  ·rw[gw (show¬((k+1:ah):ag)<(t.length:ah) by exact Int.not_lt.mpr (Int.ofNat_le.mpr (Nat.not_lt.mp q)))]at x;rw[gw q];exact .CO x .con
 obtain⟨n,c⟩:=bs5;exact .HR ∅ ⋯ ∅ (.cons (.idx (.var a) (gz _) (.var d) (xH b (f g)).1) rfl (.cons m rfl .nil)) rfl (c.le ⋯)
end
noncomputable def turn(R:af Row)(z:kj)(x:Row):af Row×kj:=bif decide ((32:ag)<((eH [10] ((R++[x]).map bb)).length:ah))then(R,z)else(R++[x],nX R.length x z)
theorem ZM:∀{L},(∀s∈L,s.length<=32)->(eH [10] L).length<=33*L.length:=by
 intro L;induction L with
 |nil=>exact λ Y=>ca _
 |cons s L a=>
  intro h;have x:=h s (.head _);obtain _|⟨t,L⟩:=L
  ·show s.length<=33;exact aj x ⋯
  ·show(s++[10]++eH [10] (t::L)).length<=33*((t::L).length+1);simp only[bp,bp,oO];exact aj (cU (gY x) (a λ s b=>h s (.tail _ b))) (cx (nH 33 _))
theorem PS{s t}(h:s.length+t.length<=10000):lX .Add (.lst s) (.lst t)=aa (.lst (s++t)):=by
 show aE (decide (s.length+t.length<=10000)) (IV.lst (s++t))=_;rw[bK h];rfl
theorem ax7{s v}(h:s.length<=10000)(hv:az v=ae):nE .kZ s [v]=aa (.none,s++[v]):=by
 unfold nE;rw[aM (Nat.not_lt.mpr h),aT rfl];show aE (az v) (IV.none,s++[v])=_;rw[hv];rfl
section
variable{V h:Loc}{O:St}{l:af ag}{R:af Row}{z:kj}{x:Row}{K:ah}
theorem br6(b:lk .ei V=aa (.lst ((R.map bb).map .str)))(d:lk .nt V=aa (.str (bb x)))(f:∀y∈R++[x],pD y)(c:R.length<=20):YE 30 bz ae (gM (zL (.bin .Add (.var .ei) (.lst [.var .nt])))) V O (.ok (.int ((eH [10] ((R++[x]).map bb)).length:ah),O)):=by
 have a:∀s∈(R++[x]).map bb,s.length<=32:=λ s a=>by
  refine aG (List.mem_map.mp a) λ y g i=>i▸?_;exact(f y g).all.2.2.2.1
 have j:((R++[x]).map bb).length<=21:=by simp only[bF,bp,oO];exact eK c ⋯
 have:=ZM a;have e:(R.map bb).map IV.str++[.str (bb x)]=((R++[x]).map bb).map IV.str:=by simp only[iq,iq];rfl
 refine .len (.uy (.inr trivial) rfl .con rfl (.bin (.var b) fL (.lst (.cons (.var d) (gz _) .nil) rfl (by show 1<=10000;decide)) (PS (by simp only[bF,bF,oO];exact eK c ⋯))) ?_) (len_str (by lia));rw[e];exact PV (aj j ⋯) λ s b=>by have:=a s b;exact aj this ⋯
theorem bz7:(fF .vf).params=[.eL,.cS,.cB,.bY]:=∅
theorem ay2{n P a b c d}(e:lk .cB h=aa (.lst c))(f:lk .bY h=aa (.lst d)):uC h [gM (.var .ei),.var .cS,.var .cB,.var .bY] [.int n,.bN P,.lst a,.lst b] (fF .vf).params V=put .bY (.lst d) (put .cB (.lst c) V):=by
 rw[bz7];show uv h (.var .bY) (.lst b) .bY (uv h (.var .cB) (.lst a) .cB V)=_;have g:uv h (.var .cB) (.lst a) .cB V=put .cB (.lst c) V:=by show bo ((lk .cB h).map _) _ _=_;rw[e];rfl
 rw[g];show bo ((lk .bY h).map _) _ _=_;rw[f];rfl
theorem bk5{n f}:eW (match f with|none=>.ok (.ret .none,h,O)|some (a,t)=>.ok (.ret (.tup [.int n,.int a,.bool t]),h,O))=.ok ((Pq (Fh n f),h),O):=by
 match f with
 |none=>rfl
 |some _=>rfl
theorem Ev.ZV{a D f}{y w:a}(b:Ev D f y)(e:y=w):Ev D f w:=e▸b
theorem ZN(a:eT V l R z)(hp:lk .cS V=aa (.bN ((iQ x).map eJ)))(m:pD x)(hz:yc z K)(i:K<=700)(n:R.length<=20):∃h,YS 30 bz ae (.iff (.cmp .Is (.var .fh) (.con .none)) [.asg .fh He] []) V O (.ok (.next,h,O))/\eT h l R (nX R.length x z)/\lk .nt h=lk .nt V:=by
 refine aB λ Y o=>?_;refine Eh (m.all) λ w p r H X=>?_;have j:=hz.len;refine o ?_;rcases q:z.2.2 with _|f
 ·have b:=a.ft;rw[q]at b;refine dJ (ZJ (O:=O) (n:=(R.length:ah)) p hz.qo (aj r ⋯) (aj (aj (fD _ _) j) i) (aj (ck _ _) (aj j (aj i ⋯))) hz.ok) λ A s t C=>?_;have k:((R.map bb).map IV.str).length=R.length:=by rw[bF,bF]
  have sz:=(xb (aj (cx k) (aj n ⋯))).1;rw[k]at sz;have u:YA 30 bz ae [gM (.var .ei),.var .cS,.var .cB,.var .bY] V O (.ok ([.int (R.length:ah),.bN ((iQ x).map eJ),.lst (aQ z.1),.lst z.2.1],O)):=
   .cons (.len (.var a.rw) sz) rfl (.cons (.var hp) rfl (.cons (.var a.dp) (Bool.or_eq_true_iff.mpr (.inl fL)) (.cons (.var a.du) (gz _) .nil)))
  have S:YS 30 bz ae (.asg .fh He) V O _:=.Cv ∅ (eQ ∅) u rfl ((C.ZV bk5).le ⋯) ∅;rw[ay2 s t]at S;refine ec _ (.jx (.cmp (.var b) rfl .con rfl) (.cons S .nil)) ?_ ?_
  ·have e:nX R.length x z=((bT (R.length:ah) x.1 ae ai x.2 z.1 z.2.1).1,(bT (R.length:ah) x.1 ae ai x.2 z.1 z.2.1).2.1,Fh (R.length:ah) (bT (R.length:ah) x.1 ae ai x.2 z.1 z.2.1).2.2):=by unfold nX;rw[q]
   rw[e];have c:∀{y v},y≠.fh->lk y (put .fh v (put .bY (.lst (bT (R.length:ah) x.1 ae ai x.2 z.1 z.2.1).2.1) (put .cB (.lst (aQ (bT (R.length:ah) x.1 ae ai x.2 z.1 z.2.1).1)) V)))=_:=λ a=>bc a;have d:∀{y v},y≠.bY->lk y (put .bY v (put .cB (.lst (aQ (bT (R.length:ah) x.1 ae ai x.2 z.1 z.2.1).1)) V))=_:=λ a=>bc a;have g:∀{y v},y≠.cB->lk y (put .cB v V)=_:=λ a=>bc a;exact⟨((c ⋯).trans ((d ⋯).trans (g ⋯))).trans a.sc,((c ⋯).trans ((d ⋯).trans (g ⋯))).trans a.tp,((c ⋯).trans ((d ⋯).trans (g ⋯))).trans a.rw,(c ⋯).trans ((d ⋯).trans cj),(c ⋯).trans cj,cj⟩
  ·exact(bc ⋯).trans ((bc ⋯).trans (bc ⋯))
 ·have b:=a.ft;rw[q]at b;have e:nX R.length x z=z:=by unfold nX;rw[q]
  rw[e];exact ec V (.gk (.cmp (.var b) rfl .con rfl) .nil) a rfl
end
section
variable{V h:Loc}{O:St}{l:af ag}{R:af Row}{z:kj}{x:Row}{K k:ah}
theorem yt:∀y∈[Nm.mz,.lO,.ei,.cB,.bY,.fh],y≠.nt/\y≠.cS/\y≠.fB/\y≠.kT/\y≠.ir/\y≠.eL:=by decide
theorem PZ{s:af ah}{e}(a:lk .ei V=aa (.lst ((R.map bb).map .str)))(b:YE 30 bz ae e V O (.ok (.str (bb x),O)))(c:R.length<=20):YS 30 bz ae (.expr (.bx (.var .ei) .kZ [e] [])) V O (.ok (.next,put .ei (.lst (((R++[x]).map bb).map .str)) V,O)):=by
 have d:(R.map bb).map IV.str++[.str (bb x)]=((R++[x]).map bb).map IV.str:=by simp only[iq,iq];rfl
 have:=YS.tw a b (ax7 (by simp only[bF,bF];exact aj c ⋯) rfl) ⋯;rw[d]at this;exact this
theorem eT.rows{b}(a:eT V l R z):eT (Internal.put .ei (.lst ((b.map bb).map .str)) V) l b z:=
 have n:∀{y v},y≠.ei->lk y (Internal.put .ei v V)=_:=λ a=>bc a
 ⟨(n ⋯).trans a.sc,(n ⋯).trans a.tp,cj,(n ⋯).trans a.dp,(n ⋯).trans a.du,(n ⋯).trans a.ft⟩
theorem am1(b:eT V l R z)(o:lk .fB V=aa (.int k))(p:k<(gs l).length)(s:∀y∈R,pD y)(hz:yc z K)(t:K<=700)(e:R.length<=20):∃h f,(f=.next\/f=.cont)/\YB 30 bz ae Es V O (.ok (f,h,O))/\eT h l (turn R z (dM ((gs l).getD k 0) (uB (gs l) k))).1 (turn R z (dM ((gs l).getD k 0) (uB (gs l) k))).2:=by
 have c:pD (dM ((gs l).getD k 0) (uB (gs l) k)):=.inl (jT _ _ rfl);have w:=CU (l:=l);have P:=XS (O:=O) b.tp o p (aj (CU (l:=l)).2 ⋯);revert c P;generalize dM ((gs l).getD k 0) (uB (gs l) k)=x;intro c P;have i:YS 30 bz ae (.lT [.nt,.cS] HX) V O (.ok (.next,put .cS (.bN ((iQ x).map eJ)) (put .nt (.str (bb x)) V),O)):=.lT P (ca 2) λ r u=>GN ∅ ∅ u;have g:=(b.put (v:=.str (bb x)) λ y a=>(yt y a).1).put (v:=.bN ((iQ x).map eJ)) λ y a=>(yt y a).2.1;have j:lk .nt (put .cS (.bN ((iQ x).map eJ)) (put .nt (.str (bb x)) V))=aa (.str (bb x)):=(bc ⋯).trans cj;have T:YT 30 bz ae (.cmp .Gt (gM (zL (.bin .Add (.var .ei) (.lst [.var .nt])))) (cX 32)) _ O (.ok (decide ((32:ag)<((eH [10] ((R++[x]).map bb)).length:ah)),O)):=.cmp (br6 (O:=O) g.rw j (λ y a=>(List.mem_append.mp a).elim (s y) λ b=>List.mem_singleton.mp b▸c) e) rfl .con rfl;rw[bg4];unfold turn;rcases q:decide ((32:ag)<((eH [10] ((R++[x]).map bb)).length:ah))with _|_
 ·rw[q]at T;refine dJ (ZN (O:=O) g cj c hz t e) λ H F m v=>?_;exact gm _ .next (.inl rfl) (.cons i (.cons (.gk T .nil) (.cons F (.cons (PZ (s:=[]) m.rw (.var (v.trans j)) e) .nil)))) m.rows
 ·rw[q]at T;exact gm _ .cont (.inr rfl) (.cons i (.fin ⋯ (.jx T (.fin ⋯ (.mk λ N d n=>rfl))))) g
end
structure Inv(R:af Row)(z:kj)(k:ah):Prop where
 ok:∀y∈R,pD y
 eq:z=mr 0 R [-1] [fZ]
 fo:yc z (2+78*R.length)
 n:2*R.length<=k
 Cu:k<=15
 j:(eH [10] (R.map bb)).length<=32
 ne:k≠0->R≠[]
theorem Inv.turn{R z k x}(h:Inv R z k)(a:k<=13)(b:pD x):Inv (turn R z x).1 (turn R z x).2 (k+2):=by
 refine aB λ Y d=>?_;refine Eh (b.all) λ j g l m n=>?_;have c:=h.n;refine d ?_;unfold Internal.turn;rcases q:decide ((32:ag)<((eH [10] ((R++[x]).map bb)).length:ah))with _|_
 ·have q:=ci8 q;have e:nX R.length x z=mr 0 (R++[x]) [-1] [fZ]:=by simp only[TP,<-h.eq,oM]
  have f:=M9 (n:=R.length) g h.fo;refine⟨λ y i=>(List.mem_append.mp i).elim (h.ok y) λ h=>List.mem_singleton.mp h▸b,e,⟨f.qo,f.ok,?_⟩,?_,by exact lG a _,?_,λ Y e=>nomatch List.append_eq_nil_iff.mp e⟩
  ·have:=f.len;show _<=2+78*(R++[x]).length;simp only[bp,oO];exact aj this (by lia)
  ·show 2*(R++[x]).length<=_;simp only[bp,oO];exact cU (aj c (ca _)) ⋯
  ·show(eH [10] ((R++[x]).map bb)).length<=32;lia
 ·refine⟨h.ok,h.eq,h.fo,by exact aj c (ck _ _),by exact lG a _,h.j,λ Y e=>?_⟩;have q:=bE q;have e:R=[]:=e;rw[e]at q;have:(bb x).length>32:=by have q:=q;exact Int.ofNat_lt.mp q
  lia
theorem YI{m k L:ah}(h:k<L):upTo (m+1) k L 2=.int k::upTo m ((k+2:ah):ag) L 2:=aT (.inl ⟨by decide,by exact Int.ofNat_lt.mpr h⟩)
theorem au6{m k L:ah}(h:L<=k):upTo m k L 2=[]:=by
 obtain _|m:=m
 ·rfl
 ·exact aM (λ q=>q.elim (λ q=>Int.not_lt.mpr (Int.ofNat_le.mpr h) q.2) (λ q=>absurd q.1 ⋯))
theorem ae6{O l}:∀{m k R z V},eT V l R z->Inv R z k->(gs l).length<=k+m->∃a b c d,YF 30 bz ae [.fB] (upTo m k (gs l).length 2) Es V O (.ok (.next,a,O))/\eT a l b c/\Inv b c d/\(gs l).length<=d:=by
 intro m;induction m with
 |zero=>exact λ h x e=>(EU _ _ _ _ .nil h x e)
 |succ m j=>
  intro k R z V h x e;refine aB λ Y f=>?_;have g:=CU (l:=l);by_cases q:k<(gs l).length
  ·have i:=x.n;refine dC (am1 (O:=O) (h.put λ y n=>(yt y n).2.2.1) cj q x.ok x.fo (Jc i (aj (iA q) (aj g.2 ⋯))) (aj (CV i (aj (iA q) (aj g.2 ⋯))) ⋯)) λ u v o B p=>?_;refine Qk (j p (x.turn (by lia) (.inl (jT _ _ rfl))) (aj e (Nat.add_lt_add_of_lt_of_le (jF _) (ca _)))) λ a b c d F s=>?_;refine f ?_;refine Ua a b c d ?_ s;rw[YI q];exact .cons o (λ r t=>Dd ∅ t rfl) B F
  ·refine f ?_;rw[au6 (Nat.not_lt.mp q)];exact EU _ _ _ _ .nil h x (Nat.not_lt.mp q)
theorem ae2{O l V}(h:eT V l [] ([-1],[fZ],none)):∃x R z k,YS 30 bz ae (eu 5) V O (.ok (.next,x,O))/\eT x l R z/\Inv R z k/\R≠[]:=by
 refine aB λ Y d=>?_;have a:=CU (l:=l);have b:((gs l).map IV.int).length=(gs l).length:=bF _;have sz:=(xb (aj (cx b) (aj a.2 ⋯))).1;rw[b]at sz;refine NU (ae6 (O:=O) h ⟨((by intros;cbv)),rfl,⟨rfl,by kernel_rfl,by decide⟩,ca _,by decide,by decide,λ h=>absurd rfl h⟩ (fD _ _)) λ x R z k F e c f=>?_;refine d ?_;refine EU x R z k ?_ e c (c.ne (by lia));rw[ab7];refine .Dh (n:=.jR) rfl rfl (.cons .con rfl (.cons (.len (.var h.tp) sz) rfl (.cons .con rfl .nil))) ?_ F;rw[aT rfl];show(none:ak (af IV)).or (aE (decide ((2:ag)≠0/\(0:ag).natAbs<=1000/\((gs l).length:ag).natAbs<=1000/\(2:ag).natAbs<=1000)) (upTo (((gs l).length:ag)-0).natAbs 0 (gs l).length 2))=_;rw[bK (by rw[Xw];(exact ky ⋯ ⋯ (aj a.2 ⋯) ⋯)),Wo,Xw];rfl
structure tq(R:af Row)(z:kj):Prop where
 ok:∀y∈R,pD y
 eq:z=mr 0 R [-1] [fZ]
 fo:yc z 700
 n:R.length<=10
 j:(eH [10] (R.map bb)).length<=40
 ne:R≠[]
theorem bp5:∀{L},(eH [10] (L++[[]])).length<=(eH [10] L).length+1:=by
 intro L;induction L with
 |nil=>exact cg _
 |cons s L h=>
  obtain _|⟨t,L⟩:=L
  ·show(s++[10]++[]).length<=s.length+1;simp
  ·show(s++[10]++eH [10] (t::L++[[]])).length<=(s++[10]++eH [10] (t::L)).length+1;rw[bp,bp (bs:=eH [10] (t::L))];exact ma h _
theorem Inv.fin{R z k}(h:Inv R z k)(x:R≠[]):tq R z:=⟨h.ok,h.eq,⟨h.fo.qo,h.fo.ok,aj h.fo.len (Jc h.n h.Cu)⟩,aj (CV h.n h.Cu) ⋯,aj h.j ⋯,x⟩
theorem aa5{n z}:nX n (0,[]) z=z:=by
 obtain⟨a,b,c⟩:=z;obtain _|_:=c<;>rfl
theorem Inv.bq7{R z k}(h:Inv R z k):tq (R++[(0,[])]) z:=by
 have n:=h.n;have k:=h.Cu;refine⟨λ y x=>(List.mem_append.mp x).elim (h.ok y) λ h=>.inr (List.mem_singleton.mp h),?_,⟨h.fo.qo,h.fo.ok,aj h.fo.len (Jc n k)⟩,by simp only[bp,oO];exact aj (gY (CV n k)) ⋯,?_,λ e=>nomatch List.append_eq_nil_iff.mp e⟩
 ·simp only[TP,<-h.eq,aa5]
 ·have:=bp5 (L:=R.map bb);rw[iq];exact aj this (eK h.j ⋯)
section
variable{V h:Loc}{O:St}{l:af ag}{R:af Row}{z:kj}{K k:ah}
theorem U7(x:eT V l R z)(a:Inv R z k)(c:R≠[])(d:l.length<=63):∃h b,YS 30 bz ae (eu 6) V O (.ok (.next,h,O))/\eT h l b z/\tq b z:=by
 have e:=a.n;have f:=a.Cu;have T:YT 30 bz ae (.cmp .Eq (.bin .Mod (gM (.var .mz)) (cX 2)) (cX 1)) V O (.ok (decide (oB ((l.map IV.int).length:ah) 2=1),O)):=.cmp (.bin (.len (.var x.sc) ((xb (t:=l.map IV.int) (by rw[bF];exact aj d ⋯)).2)) rfl .con rfl) rfl .con rfl;rw[ak6];rcases q:decide (oB ((l.map IV.int).length:ah) 2=1)with _|_
 ·rw[q]at T;exact gm _ _ (.gk T .nil) x (a.fin c)
 ·rw[q]at T;exact gm _ _ (.jx T (.cons (PZ (s:=[]) x.rw .con (by lia)) .nil)) x.rows a.bq7
theorem C0{x}:∀{R d},pz d (R++[x])=(bb x).length:=by
 intro R;induction R with
 |nil=>exact rfl
 |cons y R a=>exact a
theorem ai2(b:eT V l R z)(a:tq R z):YS 30 bz ae (eu 7) V O (.ok (.next,put .kT (kx ((R.length:ah)-1,(pz 0 R:ah))) V,O)):=by
 obtain⟨A,x,rfl⟩:∃A x,R=A++[x]:=(jT _ _ ((List.dropLast_concat_getLast a.ne).symm))
 have c:(((A++[x]).map bb).map IV.str).length=(A++[x]).length:=by rw[bF,bF]
 have sz:=(xb (aj (cx c) (aj a.n ⋯))).1;rw[c]at sz;rw[ac3,C0];refine .asg rfl (.tup (.cons (.bin (.len (.var b.rw) sz) rfl .con rfl) rfl (.cons (.len (.idx (.var b.rw) (gz _) .con (HD ?_)) (len_str (aj ((a.ok x (nJ _ (.head _))).all.2.2.2.1) ⋯))) rfl .nil)) rfl (by show 2<=10000;decide)) rfl ∅;simp only[iq,iq];exact oN
end
theorem ca7{h:Type}{a:h}{k}:(aJ k [a]).flatten=aJ k a:=by
 induction k with
 |zero=>rfl
 |succ k x=>simp only[Cb,LJ,x];rfl
section
variable{V h:Loc}{O:St}{l:af ag}{R:af Row}{z:kj}{m w:ag}
theorem OB{k}(x:az k=ae)(a:lk .kT V=aa (kx (m,w))):YE 30 bz ae (ze (.tup [.con k,.con .none])) V O (.ok (.tup [k,.none,.int m,.int w,.int m,.int w],O)):=
 .bin (.bin (.tup (.cons .con (by show(((az k||_)||_)||_)=ae;rw[x];rfl) (.cons .con rfl .nil)) (by show(az k&&ae)=ae;rw[x];rfl) (by show 2<=10000;decide)) rfl (.var a) rfl) rfl (.var a) rfl
theorem XH(x:eT V l R z)(c:tq R z)(hp:lk .kT V=aa (kx (m,w)))(q:z.2.2=none):YS 30 bz ae (eu 9) V O (.ok (.next,put .bY (.lst (z.2.1++aJ (z.1.length-1) (cJ m w)++[jO m w])) V,O)):=by
 have a:=c.fo.len;have d:(aQ z.1).length=z.1.length:=lu;have b:1<=z.1.length:=by
  have:=c.fo.qo;revert this;obtain _|_:=z.1
  ·exact λ x=>x.elim
  ·exact λ Y=>gY (cg _)
 have sz:=(xb (aj (cx d) (aj (aj (fD _ _) a) ⋯))).1;rw[d]at sz;have T:YT 30 bz ae (.cmp .Is (.var .fh) (.con .none)) V O (.ok (ae,O)):=.cmp (.var (q▸x.ft)) rfl .con rfl;have e:YE 30 bz ae (.bin .Sub (gM (.var .cB)) (cX 1)) V O (.ok (.int ((z.1.length:ah)-1),O)):=.bin (.len (.var x.dp) sz) rfl .con rfl;have f:YE 30 bz ae (.lst [ze (.tup [.con (sS "<block end>"),.con .none])]) V O (.ok (.lst [cJ m w],O)):=.lst (.cons (OB rfl hp) (gz _) .nil) rfl (by show 1<=10000;decide);have g:YE 30 bz ae (.lst [ze (.tup [.con (sS "<stream end>"),.con .none])]) V O (.ok (.lst [jO m w],O)):=.lst (.cons (OB rfl hp) (gz _) .nil) rfl (by show 1<=10000;decide);have i:YE 30 bz ae (.bin .Mult (.lst [ze (.tup [.con (sS "<block end>"),.con .none])]) (.bin .Sub (gM (.var .cB)) (cX 1))) V O (.ok (.lst (aJ (z.1.length-1) (cJ m w)),O)):=.bin f rfl e (by
  show aE (decide (1<=1000/\0<=((z.1.length:ah):ag)-1/\((z.1.length:ah):ag)-1<=1000)) (IV.lst (aJ (((z.1.length:ah):ag)-1).toNat [cJ m w]).flatten)=_
  rw[bK (by exact dB ⋯ (MD (Int.ofNat_le.mpr b)) (bH (co3 _ ⋯) (Int.ofNat_le.mpr (aj (aj (fD _ _) a) ⋯)))),ca7,show(((z.1.length:ah):ag)-1).toNat=z.1.length-1 from cn5 z.1.length 1];rfl)
 rw[QS,bB];refine .jx T (.cons (.aug x.du (YE.bin i rfl g (PS (by simp only[gD,oO];exact aj (cx (BN b)) (aj (aj (fD _ _) a) ⋯)))) ?_ ∅) .nil);show aE (decide (z.2.1.length+(aJ (z.1.length-1) (cJ m w)++[jO m w]).length<=10000)) (IV.lst (z.2.1++(aJ (z.1.length-1) (cJ m w)++[jO m w])))=_;rw[bK (by simp only[bp,gD,oO];rw[BN b];exact aj a ⋯)];rfl
end
noncomputable def jK(c:ah):al:=(#[32]:nI ah).contains c
theorem XW:jK 32=ae:=by simp[jK]
theorem R9{c}(h:c≠32):jK c=ai:=by
 unfold jK;simp[h]
theorem GU{n t}:(xE jK (aJ n 32++t)).length=n+(xE jK t).length:=by
 induction n with
 |zero=>simp only[MG,pY,xe]
 |succ n h=>simp only[Cb,pU,Xx,aT XW,dh,h];exact oz _ _ _
theorem Kc{c t}(h:c≠32):xE jK (c::t)=[]:=by rw[Xx,aM (by rw[R9 h];decide)]
theorem Zv{c}(h:c≠32):∀{t},(xE jK (t++[c])).length<=t.length:=by
 intro t;induction t with
 |nil=>simp only[pY,Kc h];exact ca 0
 |cons a t x=>
  simp only[pU,Xx];split
  ·exact gY x
  ·exact cg _
theorem TN{s:af ah}{l r}:(cp1 (#[32]:nI ah).contains l r ⟨s.toArray⟩).cps.toList=(s.take (cp2 jK r ⟨s.toArray⟩ (MJ jK l ⟨s.toArray⟩))).drop (MJ jK l ⟨s.toArray⟩):=by
 rw[PySem.W.stripBy_eq];show(s.toArray.extract (MJ jK l ⟨s.toArray⟩) (cp2 jK r ⟨s.toArray⟩ (MJ jK l ⟨s.toArray⟩))).toList=_;simp only[Array.toList_extract,List.extract_eq_take_drop,cn7]
section
variable{n c:ah}{t s:af ah}
theorem K7(h:s.length<=1000):∃w,nf .rM s [.str [32]]=aa (.str w)/\w=(s.take (s.length-(xE jK (zx (xE jK s).length s).reverse).length)).drop (xE jK s).length:=by
 refine aL _ ?_ (TN (l:=ae) (r:=ae));unfold nf;rw[aM (by lia)];rfl
theorem G3(h:s.length<=1000):∃w,nf .sv s [.str [32]]=aa (.str w)/\w.length=s.length-(xE jK s).length:=by
 have e:nf .sv s [.str [32]]=aa (.str (cp1 (#[32]:nI ah).contains ae ai ⟨s.toArray⟩).cps.toList):=by unfold nf;rw[aM (by lia)];rfl
 refine aL _ e ?_;rw[TN,zK];show(s.take s.length).length-_=_;rw[co9];rfl
end
theorem bh0:((gi 10).all λ j=>!(aX ((bO j).headD 32) 32))=ae:=∅
theorem bz4{k}(h:(aF k||cK.contains k)=ae):∃c t,bj k=c::t/\c≠32:=by
 have:(bj k).headD 32≠32:=by
  unfold bj;rcases q:aF k with _|_
  ·rw[q]at h;exact(by decide:∀k∈cK,[k].headD 32≠32) k (qi h)
  ·have:=bP bh0 (ku q);show(bO k).headD 32≠32;intro e;rw[e]at this;cbv
 revert this;obtain _|⟨c,t⟩:=bj k
 ·exact λ h=>absurd rfl h
 ·exact λ h=>(gR c t rfl h)
theorem NF{x}(h:ll x.2=ae)(d:x.2.isEmpty=ai):∃c t,bb x=aJ x.1 32++(c::t)/\c≠32:=by
 obtain⟨a,l⟩:=x;obtain _|⟨k,l⟩:=l
 ·cbv
 ·refine cu (bz4 (aH h)) λ c t e b=>?_;refine gR c (t++(cC (!aF k) l++cE (k::l))) ?_ b;show aJ a 32++(([]++(bj k++cC (!aF k) l))++cE (k::l))=_;rw[e];simp only[pY,pU,bB]
theorem bh3{X T K}(h:K<=T):1<=uW (X+(T+1)-K) (X+(T+1))-(X+0):=
 Mn (nH 1 X▸Nat.le_min.mpr ⟨Mn (pO X 1 K▸ma (nH 1 K▸gY h) X),ma (gY (cg T)) X⟩)
theorem X6{x}(h:ll x.2=ae)(f:(bb x).length<=1000):∃w,nf .rM (bb x) [.str [32]]=aa (.str w)/\w.isEmpty=x.2.isEmpty/\w.length<=1000:=by
 refine aG (K7 f) λ w b a=>?_;have d:w.length<=1000:=by
  simp only[a,zK,uV];exact aj (GA _ _) (aj (xu _ _) f)
 refine ec w b ?_ d;rcases g:x.2.isEmpty with _|_
 ·refine cu (NF h g) λ c t e i=>?_;have j:=Zv i (t:=t.reverse);simp only[e,GU,Kc i,show zx (x.1+([]:af ah).length) (aJ x.1 32++c::t)=c::t from co0 (by rw[gD];rfl),Xn]at a;rw[Xm]at j;have:1<=w.length:=by simp only[a,zK,uV,bp,gD,dh];exact bh3 j
  clear d a b;obtain _|_:=w
  ·cbv
  ·rfl
 ·have e:bb x=aJ x.1 32++[]:=by simp only[wy g,bC]
  rw[e,GU]at a;have:w.length=0:=by simp only[a,zK,uV,bp,gD];exact cg0 (xu _ _)
  clear d a b;obtain _|_:=w
  ·rfl
  ·cbv
theorem ba0{x}(h:ll x.2=ae)(b:(bb x).length<=1000)(d:x.2.isEmpty=ai):∃w,nf .sv (bb x) [.str [32]]=aa (.str w)/\((bb x).length:ag)-(w.length:ah)=x.1/\w.length<=1000:=by
 refine aB λ Y f=>?_;refine aG (G3 b) λ w g a=>?_;refine cu (NF h d) λ c t e i=>?_;refine f ?_;refine ec w g ?_ (aj (aj (cx a) (GA _ _)) b);simp only[e,GU,Kc i,bp,gD]at a;simp only[a,e,bp,gD];show((x.1+(c::t).length:ah):ag)-((x.1+(c::t).length-x.1:ah):ag)=x.1;rw[BM];exact Cm (x.1:ag) ((c::t).length:ag)
theorem ad4{w}(h:w.length<=1000):eO (.str w)=aa (!w.isEmpty):=by
 show(aE (dg w) (!w.isEmpty)).or _=_;rw[show dg w=ae from bK (aj h ⋯)];rfl
section
variable{V h:Loc}{O:St}{l:af ag}{R:af Row}{z:kj}{x:Row}{d:ag×ag}{i f:ah}
noncomputable def Bc:IE:=.idx (.var .ei) (.var .eL)
theorem Yr(a:eT V l R z)(b:lk .eL V=aa (.int i))(c:R[i]? =aa x)(e:R.length<=10):YE 30 bz ae Bc V O (.ok (.str (bb x),O)):=
 .idx (.var a.rw) (gz _) (.var b) (xH (by simp only[bF,bF];exact aj e ⋯) (by simp only[qT,qT,c];rfl)).1
theorem eT.pl(a:eT V l R z){v}:eT (Internal.put .kT v V) l R z:=a.put λ y b=>(yt y b).2.2.2.1
theorem bq4(b:eT V l R z)(a:R[i]? =aa x)(m:pD x)(n:R.length<=10)(g:lk .eL V=aa (.int i))(hp:lk .kT V=aa (kx (pl d ((i+1:ah):ag) (R.drop (i+1))))):∃h,YB 30 bz ae Ag V O (.ok (.next,h,O))/\eT h l R z/\lk .kT h=aa (kx (Internal.pl d i (R.drop i))):=by
 refine aB λ Y o=>?_;refine Eh (m.all) λ B j C c D=>?_;have k:=Bl a;have e:R.drop i=x::R.drop (i+1):=by
  rw[ck1 k];rw[sN k]at a;rw[aS a]
 refine dJ (X6 j (aj c ⋯)) λ w p s t=>?_;have A:=Yr (O:=O) b g a n;have T:YT 30 bz ae (.bx Bc .rM [.con (.str [32])] []) V O (.ok (!w.isEmpty,O)):=.of (λ r=>rfl) (.uy (.inr trivial) rfl A rfl .con p) (ad4 t);refine o ?_;rw[Yj,e];rw[s]at T;rcases q:x.2.isEmpty with _|_
 ·rw[q]at T;refine dJ (ba0 j (aj c ⋯) q) λ v k1 u y=>?_;have H:YE 30 bz ae (gM Bc) V O (.ok (.int ((bb x).length:ah),O)):=.len A (len_str (aj c ⋯));have X:YE 30 bz ae (.bin .Sub (gM Bc) (gM (.bx Bc .sv [.con (.str [32])] []))) V O (.ok (.int (x.1:ah),O)):=.bin H rfl (.len (.uy (.inr trivial) rfl A rfl .con k1) (len_str y)) (by show aa (IV.int (((bb x).length:ag)-(v.length:ah)))=_;rw[u]);refine ec _ (.cons (.jx T (.cons (.asg rfl (.tup (.cons (.var g) rfl (.cons X rfl .nil)) rfl (by show 2<=10000;decide)) rfl ∅) .nil)) .nil) b.pl ?_;show _=aa (kx (bif x.2.isEmpty then _ else _));rw[q];exact cj
 ·rw[q]at T;refine ec V (.cons (.gk T .nil) .nil) b ?_;show _=aa (kx (bif x.2.isEmpty then _ else _));rw[q];exact hp
theorem F8{m a}{b:ah}(c:(b:ag)<a):upTo (m+1) a b (-1)=.int a::upTo m (a+-1) b (-1):=aT (.inr ⟨by decide,c⟩)
theorem R7(b:tq R z):∀{j V},eT V l R z->f+j<R.length->lk .kT V=aa (kx (pl d ((f+j+1:ah):ag) (R.drop (f+j+1))))->∃h,YF 30 bz ae [.eL] (upTo j ((f+j:ah):ag) f (-1)) Ag V O (.ok (.next,h,O))/\eT h l R z/\lk .kT h=aa (kx (pl d ((f+1:ah):ag) (R.drop (f+1)))):=by
 intro j;induction j with
 |zero=>exact λ a Y hp=>(ec _ .nil a hp)
 |succ j e=>
  intro V a c hp;refine dJ (bq4 (O:=O) (a.put λ y g=>(yt y g).2.2.2.2.2) (sN c) (b.ok _ (cg2 c)) b.n cj ((bc ⋯).trans hp)) λ q B k m=>?_;refine aG (e k (by lia) m) λ n F o=>?_;refine aL n ?_ o;rw[F8 (Int.ofNat_lt.mpr (WN (Cn j))),show((f+(j+1):ah):ag)+-1=((f+j:ah):ag)from Int.add_neg_cancel_right ((f+j:ah):ag) 1];exact .cons (.inl rfl) (λ r p=>Dd ∅ p rfl) B F
end
section
variable{V h:Loc}{O:St}{l:af ag}{R:af Row}{z:kj}{m w a b:ag}{t:al}{f:ah}
theorem Sv{k:ah}{v}(x:lk .fh V=aa (.tup [.int a,.int b,.bool t]))(hv:nG (.tup [.int a,.int b,.bool t]) (.int k)=aa v):YE 30 bz ae (.idx (.var .fh) (cX k)) V O (.ok (v,O)):=.idx (.var x) (gz _) .con hv
theorem Vr(x:lk .fh V=aa (.tup [.int a,.int b,.bool t])):YE 30 bz ae (.jN (.var .fh) none (aa (cX 2))) V O (.ok (kx (a,b),O)):=.Nu (.var x) fL .con rfl
theorem NZ{f n}(x:f<n):f+(n-1-f)+1=n:=by
 rw[cp3 (cp4 x),BN (eK (cg f) x)]
theorem UW(x:eT V l R z)(i:tq R z)(hp:lk .kT V=aa (kx (m,w)))(q:z.2.2=aa ((f:ag),b,t))(c:f<R.length):∃h,YS 30 bz ae (eu 9) V O (.ok (.next,h,O))/\lk .ei h=aa (.lst ((R.map bb).map .str))/\lk .bY h=aa (.lst z.2.1)/\lk .ir h=aa (qG (aa (bif t then(pl (m,w) ((f:ag)+1) (R.drop (f+1)),aa ((f:ag),b))else(((f:ag),b),none)))):=by
 have e:=i.n;have d:∀{V},eT V l R z->lk .fh V=aa (.tup [.int f,.int b,.bool t]):=λ x=>by have:=x.ft;rw[q]at this;exact this
 have T:YT 30 bz ae (.cmp .Is (.var .fh) (.con .none)) V O (.ok (ai,O)):=.cmp (.var (d x)) rfl .con rfl;have j:YT 30 bz ae (.idx (.var .fh) (cX 2)) V O (.ok (t,O)):=.of (λ r=>rfl) (Sv (d x) rfl) rfl;rw[QS];clear q UW;obtain _|_:=t
 ·have E:YS 30 bz ae (.asg .ir (.tup [.jN (.var .fh) none (aa (cX 2)),.con .none])) V O (.ok (.next,put .ir (.tup [kx ((f:ag),b),.none]) V,O)):=.asg rfl (.tup (.cons (Vr (d x)) rfl (.cons .con rfl .nil)) rfl (by show 2<=10000;decide)) rfl ∅;exact nN _ (.gk T (.cons (.gk j (.cons E .nil)) .nil)) ((bc ⋯).trans x.rw) ((bc ⋯).trans x.du) cj
 ·have sz:=(xb (t:=(R.map bb).map IV.str) (by simp only[bF,bF];exact aj e ⋯)).1;simp only[bF,bF]at sz;refine dJ (R7 (O:=O) i x (cx (NZ c)) (by rw[NZ c,List.drop_length];exact hp)) λ n F g o=>?_;have S:YS 30 bz ae (.jr [.eL] (ID [.bin .Sub (gM (.var .ei)) (cX 1),.idx (.var .fh) (cX 0),cX (-1)]) Ag) V O (.ok (.next,n,O)):=by
   refine .Dh (n:=.jR) rfl rfl (.cons (.bin (.len (.var x.rw) sz) rfl .con rfl) rfl (.cons (Sv (d x) rfl) rfl (.cons .con rfl .nil))) ?_ F;rw[aT rfl];show(none:ak (af IV)).or (aE (decide ((-1:ag)≠0/\(((R.length:ah):ag)-1).natAbs<=1000/\(f:ag).natAbs<=1000/\(-1:ag).natAbs<=1000)) (upTo ((f:ag)-(((R.length:ah):ag)-1)).natAbs (((R.length:ah):ag)-1) f (-1)))=_;have k:=cp4 c;rw[show((R.length:ah):ag)-1=((R.length-1:ah):ag)from(cp5 (eK (cg f) c)).symm,bK (p:=(-1:ag)≠0/\((R.length-1:ah):ag).natAbs<=1000/\(f:ag).natAbs<=1000/\(-1:ag).natAbs<=1000) (ky ⋯ (aj (GA _ _) (aj e ⋯)) (aj (iA c) (aj e ⋯)) ⋯),show((f:ag)-((R.length-1:ah):ag)).natAbs=R.length-1-f by rw[<-cl2,cl0,<-cp5 k];rfl,cp3 k];rfl
  exact nN _ (.gk T (.cons (.jx j (.cons S (.cons (.asg rfl (.tup (.cons (.var o) rfl (.cons (Vr (d g)) rfl .nil)) rfl (by show 2<=10000;decide)) rfl ∅) .nil))) .nil)) ((bc ⋯).trans g.rw) ((bc ⋯).trans g.du) cj
theorem bo4(c:eT V l R z)(x:tq R z)(hp:lk .kT V=aa (kx ((R.length:ah)-1,(pz 0 R:ah))))(e:lk .ir V=aa .none):∃h,YS 30 bz ae (eu 9) V O (.ok (.next,h,O))/\lk .ei h=aa (.lst ((R.map bb).map .str))/\lk .bY h=aa (.lst (eF 0 0 R [-1] [fZ]).1)/\lk .ir h=aa (qG (eF 0 0 R [-1] [fZ]).2):=by
 simp only[av7,<-x.eq,oM];have d:=λ g=>MY (R:=R) (n:=0) (st:=[-1]) (due:=[fZ]) (f:=g);rw[<-x.eq]at d;unfold Aa;rcases q:z.2.2 with _|g
 ·exact nN _ (XH c x hp q) ((bc ⋯).trans c.rw) cj ((bc ⋯).trans e)
 ·obtain⟨a,b,t⟩:=g;have:=d _ q;refine aI (Wa this.1) λ f i=>?_;subst i;refine vd (UW (O:=O) c x hp q (by have:=this.2;rw[oM]at this;exact Int.ofNat_lt.mp this)) λ h S j k n=>?_;refine nN h S j k ?_;show _=aa (qG (aa (bif t then(pl _ ((f:ag)+1) (R.drop ((f:ag)+1-0).toNat),_)else _)));rw[show((f:ag)+1-0).toNat=f+1 by exact rfl];exact n
end
theorem Y9{p}(hp:p 10=ae):∀{L},(∀s∈L,s.all p=ae)->(eH [10] L).all p=ae:=by
 intro L;induction L with
 |nil=>exact λ Y=>rfl
 |cons s L x=>
  intro h;have a:=h s (.head _);have b:=x λ s c=>h s (.tail _ c);clear h x;obtain _|⟨t,L⟩:=L
  ·exact a
  ·show(s++[10]++eH [10] (t::L)).all p=ae;simp only[mT,mT,a,b];show(ae&&(p 10&&ae)&&ae)=ae;rw[hp];rfl
theorem Zd:∀{R},(∀y∈R,pD y)->cnt R<=6*R.length:=by
 intro R;induction R with
 |nil=>exact λ Y=>ca _
 |cons x R a=>
  intro h;have c:=(h x (.head _)).all.2.2.1;have d:=a λ y b=>h y (.tail _ b);exact aj (cU ‹_› ‹_›) (cx (nH 6 _))
theorem an4{l:af ag}(i:l.length<=63):∃f g,YB 30 bz ae jg.body [(.mz,.bN (l.map .int))] none (.ok (.ret (.bool ae),f,g)):=by
 refine aB λ Y m=>?_;have s0:=az3 (D:=30) (prm:=bz) (top:=ae) (O:=none) (V:=[(.mz,.bN (l.map .int))]) i rfl ∅;have n:∀{V},YS 30 bz ae (eu 1) V none (.ok (.next,put .ei (.lst []) V,none)):=by rw[an8];exact .xU rfl (.lst .nil rfl ⋯) rfl ∅
 have o:∀{V},YS 30 bz ae (eu 2) V none (.ok (.next,put .cB (.lst [.int (-1)]) V,none)):=by rw[ZY];exact .xU rfl (.lst (.cons .con rfl .nil) rfl ⋯) rfl ∅
 have p:∀{V},YS 30 bz ae (eu 3) V none (.ok (.next,put .bY (.lst [fZ]) V,none)):=by rw[ZP];exact .xU rfl (.lst (.cons (.tup (.cons .con rfl (.cons .con rfl (.cons .con rfl (.cons .con rfl (.cons .con rfl (.cons .con rfl .nil)))))) rfl ⋯) rfl .nil) rfl ⋯) rfl ∅
 have q:∀{V},YS 30 bz ae (eu 4) V none (.ok (.next,put .fh .none V,none)):=by rw[B5];exact .asg rfl .con rfl ∅
 have r:∀{V},YS 30 bz ae (eu 8) V none (.ok (.next,put .ir .none V,none)):=by rw[aa6];exact .asg rfl .con rfl ∅
 have ne:∀{x y v V},x≠y->lk x (put y v V)=lk x V:=λ h=>bc h;have t:eT (put .fh .none (put .bY (.lst [fZ]) (put .cB (.lst [.int (-1)]) (put .ei (.lst []) (put .lO (.lst ((gs l).map .int)) [(.mz,.bN (l.map .int))]))))) l [] ([-1],[fZ],none):=
  ⟨(ne ⋯).trans ((ne ⋯).trans ((ne ⋯).trans ((ne ⋯).trans (ne ⋯)))),(ne ⋯).trans ((ne ⋯).trans ((ne ⋯).trans ((ne ⋯).trans cj))),(ne ⋯).trans ((ne ⋯).trans ((ne ⋯).trans cj)),(ne ⋯).trans ((ne ⋯).trans cj),(ne ⋯).trans cj,cj⟩
 refine NU (ae2 (O:=none) t) λ U Z z k u w H X=>?_;refine dC (U7 (O:=none) w H X i) λ V6 R A j a=>?_;have B:=j.pl (v:=kx ((R.length:ah)-1,(pz 0 R:ah)));have C:=B.put (v:=.none) λ y b=>(yt y b).2.2.2.2.1;refine vd (bo4 (O:=none) C a ((ne ⋯).trans cj) cj) λ V9 D E I J=>?_;obtain⟨x,d,rfl⟩:∃x d,R=x::d:=by
  rcases L:R with _|⟨x,d⟩
  ·exact absurd L a.ne
  ·exact jT x d rfl
 have e:∀s∈(x::d).map bb,s.length<=1000/\(s.all λ c=>na.contains c)=ae:=λ s e=>by
  refine aG (List.mem_map.mp e) λ y b M=>M▸?_;refine Eh ((a.ok y b).all) λ Y Y Y N O=>?_;exact qh (aj N ⋯) O
 have hc:=Zd a.ok;have Q:=a.n;refine lE (Q2 (List.all_eq_true.mpr λ y b=>(a.ok y b).all.1) (List.all_eq_true.mpr λ y b=>(a.ok y b).all.2.1) (Y9 ⋯ λ s h=>(e s h).2) a.j (by lia) (aj Q ⋯) (λ s h=>(e s h).1) E I J) λ f g T=>?_;refine m ?_;refine jT f g ?_;rw[bs3];exact .cons s0 (.cons n (.cons o (.cons p (.cons q (.cons u (.cons A (.cons (ai2 (O:=none) j a) (.cons r (.cons D T)))))))))
theorem J2:∀l:af ag,l.length<=63->∃N d V O,d<=300/\UI aC N d jg [.bN (l.map .int)] [] none=.ok ((.bool ae,V),O):=by
 intro l h;refine aB λ Y x=>?_;refine yJ (an4 h) λ a b k T=>?_;refine x ?_;refine Ua k 30 a b ⋯ ?_;show R.ax ae (R.opt (dA jg.params jg.dflt [.bN (l.map .int)] []) λ V=>eW ((rA bz 30 k ae k).B jg.body V none))=_;rw[show dA jg.params jg.dflt [.bN (l.map .int)] []=aa [(.mz,.bN (l.map .int))] by kernel_rfl];show eW ((rA bz 30 k ae k).B jg.body [(.mz,.bN (l.map .int))] none)=_;rw[show(rA bz 30 k ae k).B jg.body [(.mz,.bN (l.map .int))] none=_ from(T k 30 k (ca _) (ca _) (ca _))];rfl
theorem av8(w:fE):AV w:=byRow2 "special-get-raises" bz6 I7 w
theorem J1(w:fE)(os:BS):topGo pQ pw w 11 yn 12 ⟨sH w.params,#[],VN,boot_toks,os⟩ (MK pw)=aa ((S0 w.params os).abs,⟨denote pQ vu,vu,tR,[Lz tR]⟩):=by
 rw[PySem.W.Fast.te15667345088766844465,PySem.W.Fast.te11892475500146522536,LB];kernel_rfl
theorem Yo(w:fE)(os:BS):segRun pQ pw w 11 yn 1 1 (S0 w.params os).abs (blockOf (VL pw) CC vu tR [Lz tR])=aa (.next,(S0 w.params os).abs,vu,tR):=by
 rw[PySem.W.Fast.te14374325043358763698,LB];kernel_rfl
theorem aa0(w:fE)(s:aZ)(c:Code)(p:ey):ML pQ pw w 11 yn 3 s ⟨doneF .next,c,p,[Lz tR]⟩=aa s:=by
 obtain⟨h,g,d,t,os⟩:=s;rfl
theorem D9{p q:mf}{loose:af aN}{Xt:aZ->al}{i:Type}{j:aZ->i}{l:fE->i}{N M c:ah}{m:al}{x:uH->bu}{e:nI WZ}{n:Drawn}{o:ah}{f:ak ao}
  (u:∀w:fE,(cp6 pQ p w N).map (λ s=>(s.heap,s.gens,s.drawn,s.toks))=aa (x w.params,e,n,o))
  (size:∀w:fE,((x w.params).isNs gX&&e.size==0)=ae/\(x w.params).objs.size=c/\(x w.params).nsMap gX "__annotations__"=f)
  (run:∀(w:fE)(os:BS),∃a,ML pQ p w c f M ⟨x w.params,e,n,o,os⟩ (MK p)=aa a/\
   (VO (zr p.main.body) (x w.params) a.heap&&VP p a.heap&&VQ a&&VS (x w.params) a.heap)=ae/\
   VT q loose (zr p.main.body) Xt m a=VU q loose/\j a=l w)(le:M<=N):LeftO p q loose Xt j l N m:=by
 intro w
 have b:=u w
 unfold openEnds
 cases r:cp6 pQ p w N with
 |none=>rw[r]at b;cases b
 |some v=>
  rw[r]at b
  obtain⟨h,g,d,k,os⟩:=v
  simp only[pX,Option.some.injEq,cp7]at b
  obtain⟨y,z,H,X⟩:=b
  subst y z H X
  obtain⟨A,B,C⟩:=size w
  obtain⟨a,D,E,I,r4⟩:=run w os
  have J:ML pQ p w c f N ⟨x w.params,g,d,k,os⟩ (MK p)=aa a:=by
   have q:=topRun_mono (N-M) _ _ _ _ D
   rwa[Nat.add_sub_cancel' le]at q
  show((Xy pQ p w N ⟨x w.params,g,d,k,os⟩).map _)=_
  have t:Xy pQ p w N ⟨x w.params,g,d,k,os⟩=aa a:=by
   simp only[Xy,A,B,C,J,je,E]
  rw[t,pX,I,r4]
theorem bx2{S:VM}{K:dc}(h:K.all (λ p=>cV p.1 S.n)=ae)(e:K.map (λ p=>(S.tree.get p.1).bind alive)=K.map λ p=>aa p.2):(K.map (·.1)).map S.abs.heap.get?=K.map λ p=>aa p.2:=by
 rw[zB];refine cj4 λ p hp=>?_;obtain⟨o,x,a⟩:=Option.bind_eq_some_iff.mp (List.map_inj_left.mp e p hp);exact(abs_get (Nat.blt_eq.mp (List.all_eq_true.mp h p hp)) x).trans a
theorem TZ(P:uH):Hn=(Kf P).map (·.1):=∅
theorem av2(w:fE)(os:BS):∃h,ML pQ pw w 11 yn (12+(1+(10400+3))) ⟨sH w.params,Array.mk [],VN,boot_toks,os⟩ (MK pw)=aa h/\
  (VO (zr pw.main.body) (sH w.params) h.heap&&VP pw h.heap&&VQ h&&VS (sH w.params) h.heap)=ae/\
  VT kF qC (zr pw.main.body) (λ Y=>ae) ae h=VU kF qC/\Hn.map h.heap.get?=(Kf w.params).map λ p=>aa p.2:=by
 obtain⟨⟨f,S,c,p⟩,a,x⟩:=Option.map_eq_some_iff.mp (av8 w os);simp only[EE,cp7]at x;obtain⟨⟨b,d,e⟩,g,i,j,l⟩:=x;subst b d e;refine⟨S.abs,go_top (J1 w os) (piece_block (Yo w os) ?_),g,i,TZ w.params▸bx2 j l⟩;have k:=piece_app (rest:=[]) (segRun_of a) (piece_nil (env:=CC) (aa0 w S.abs vu Rm));rwa[bC]at k
theorem XI:opening pw=plainProg pw.main.scope.names:=∅
theorem O5(s:aZ):fenceModules? pw s=aa s:=∅
theorem bp7(w:fE):((sH w.params).isNs gX&&(Array.mk ([]:af WZ)).size==0)=ae/\(sH w.params).objs.size=11/\(sH w.params).nsMap gX "__annotations__"=yn:=
 ⟨by kernel_rfl,by kernel_rfl,by kernel_rfl⟩
theorem au2:LeftO pw kF qC (λ Y=>ae) (λ s=>Hn.map s.heap.get?) (λ w=>(Kf w.params).map λ p=>aa p.2) 20000:=
 D9 (boot_open XI ⋯ O5) bp7 av2 ⋯
theorem B7:defOf kF "law"=aa (vJ,[]):=∅
theorem J3:pw.theDef "law"=aa (vJ.params,vJ.body,vJ.scope):=by rw[PySem.W.Fast.te10235530238920679567];kernel_rfl
theorem bq6:kwWritten? vJ.params.kwonlyargs vJ.params.kw_defaults=aa []:=∅
theorem bo6:(chainsOk kF&&opensWell pw&&(frees PySem.Challenge.rw_rf0004_04.row.toRowW&&PySem.Challenge.rw_rf0004_04.row.toRowW.within.isEmpty))=ae:=∅
theorem XR:pw.bare:=⟨rfl,rfl,rfl,rfl,rfl,by decide+kernel⟩
theorem au4:PySem.Challenge.rw_rf0004_04.row.toRowW.promised:=⟨[.list []],by decide+kernel,by decide+kernel⟩
theorem cp8:PySem.Challenge.rw_rf0004_04.Holds:=
 holds_law Zj λ h=>holds_open (q:=kF) (loose:=qC) (Xt:=λ Y=>ae) (XP:=λ Y Y=>sO) (YP:=InK Kf) au2 (λ w s e=>InK.of TZ w s e) InK.keeps (λ Y Y=>trivial) (λ Y Y Y Y Y=>trivial) B7 J3 bq6 (λ Y Y=>recFacts_of rfl) rfl h bo6 XR au4 (al8 J2)
end Internal
theorem PySem.Challenge.cw_rf0004_04_holds : PySem.Challenge.rw_rf0004_04.Holds :=
 Internal.cp8
