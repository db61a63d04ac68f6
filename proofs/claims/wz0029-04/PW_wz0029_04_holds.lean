import PyProof.Rows.All
import Wide.All
import OpenK.AllK
import Wide.FinOn
import KE.KTab
import PySem.Sre
import OpenK.ZHead
import Lean
import PySem.Challenge.RW_wz0029_04
set_option Elab.async false
set_option maxRecDepth 100000
set_option linter.all false
set_option genSizeOf false
set_option genSizeOfSpec false
set_option genInjectivity false
open Array renaming append_empty→ut,empty_append→gg,eq_empty_of_size_eq_zero→uu,getD_eq_getD_getElem?→gh,getElem?_eq_getElem→Gx,getElem?_eq_none→gi,getElem?_eq_none_iff→gj,getElem?_eq_some_iff→UV,getElem?_toList→Jz,length_toList→En,mem_toList_iff→uv,not_mem_empty→uw,size_extract→YT,size_push→YU,toList→ux,toList_append→YV,toList_eq_nil_iff→uy,toList_extract→YW,toList_inj→uz,toList_push→UW
open Bool renaming and_eq_true→MR,and_eq_true_iff→IR,and_false→LH,and_true→Qa,eq_false_iff→HR,eq_iff_iff→Qb,false→AD,false_and→gk,false_eq_true→gm,false_ne_true→C2,not_eq_true'→YX,or_eq_false_iff→gn,or_eq_true→Qc,or_eq_true_iff→Hs,or_true→u0,true→AC,true_and→YY
open Classical renaming byContradiction→Qd,em→u3
open Eq renaming trans→gp
open False renaming elim→gq
open ForIn renaming forIn→LJ
open ForInStep renaming yield→u4
open Iff renaming rfl→Fh
open Int renaming add_assoc→UX,add_comm→Qe,add_zero→Qf,le_antisymm→gr,le_of_lt→OE,le_refl→YZ,le_trans→OF,lt_irrefl→u5,lt_of_le_of_lt→Yb,lt_of_lt_of_le→Yc,lt_trans→IS,max_eq_right→Yd,natCast_nonneg→Fi,negSucc_eq→u6,neg_lt_neg→u7,neg_lt_neg_iff→u8,neg_neg_of_pos→u9,not_le→Qg,not_lt→LK,ofNat_le→JB,ofNat_lt→J0,ofNat_ne_zero→u_,sub_add_cancel→vB,toNat_of_nonneg→Yg,zero_add→Qh
open Int.ofNat renaming inj→Ye
open LawfulBEq renaming eq_of_beq→CH
open LawfulMonad renaming pure_bind→Fj
open List renaming all_append→gu,all_cons→UY,all_eq_true→FF,all_map→vJ,any_cons→vO,any_eq_true→gv,any_map→gy,append_assoc→B2,append_cons→vR,append_eq_nil_iff→Yh,append_nil→BJ,append_toArray→gz,cons_append→vU,contains_iff_mem→Yj,dropLast_concat→vV,drop_append_of_le_length→vY,drop_drop→MS,drop_eq_nil_iff→J1,drop_eq_nil_of_le→va,drop_zero→g7,eq_nil_of_length_eq_zero→g8,ext_getElem?→Qi,extract_eq_take_drop→Yk,filter_append→vb,filter_cons→OG,filter_cons_of_neg→vc,filter_cons_of_pos→vd,find?_cons_of_neg→ve,find?_cons_of_pos→MT,findIdx?_cons→vf,findIdx?_eq_some_iff_getElem→g9,flatMap_append→vg,flatMap_cons→UZ,flatten_append→Yl,flatten_cons→g_,flatten_eq_nil_iff→vh,foldl_append→vi,foldl_cons→Ua,forIn_cons→hH,forall_mem_cons→Ht,getD_eq_getElem?_getD→Qj,getElem?_append_left→MU,getElem?_append_right→Qk,getElem?_drop→JC,getElem?_eq_getElem→B8,getElem?_eq_none→Ga,getElem?_eq_none_iff→OH,getElem?_eq_some_iff→Gb,getElem?_map→Cm,getElem?_nil→hU,getElem?_range→hV,getElem?_set_ne→Ub,getElem?_set_self→hW,getElem?_take→h_,getElem?_toArray→IT,getElem?_zip_eq_some→Ql,getElem_mem→LL,getElem_toArray→vj,intercalate→Gc,isEmpty_iff→Uc,isPrefixOf_iff_prefix→vk,length→JD,length_append→A1,length_cons→Du,length_drop→OI,length_eq_zero_iff→Gy,length_eraseIdx_of_lt→vm,length_map→Ay,length_nil→vn,length_range→OJ,length_set→Ud,length_singleton→iA,length_take→JE,length_zip→J2,lookup_cons→iB,map→iC,map_append→EO,map_congr_left→vo,map_cons→J3,map_eq_nil_iff→Ym,map_fst_zip→Yn,map_id→Qm,map_map→Hu,map_nil→Yo,map_snd_zip→iD,map_take→Ue,mem_append→D8,mem_append_left→Yp,mem_append_right→iE,mem_cons→Cf,mem_cons_of_mem→Ef,mem_cons_self→CP,mem_iff_getElem?→Yq,mem_map→HS,mem_map_of_mem→Qn,mem_of_find?_eq_some→iF,mem_of_getElem?→Dv,mem_of_mem_take→vp,mem_range→Uf,mem_replicate→vq,mem_singleton→Ca,mergeSort_perm→vr,nil_append→Ug,nodup_append→Yr,nodup_cons→HT,nodup_nil→Qo,not_mem_nil→D9,pairwise_cons→JF,pairwise_iff_getElem→iG,pairwise_lt_range→vt,pairwise_map→Ys,pairwise_mergeSort→vy,perm_cons→vz,range→Eo,range'→iH,range_succ_eq_map→v4,rec→LM,replicate→Ep,replicate_succ→v8,reverse_cons→v9,singleton_perm_singleton→v_,size_toArray→DC,sum_cons→MV,take_add_one→wA,take_append_drop→iI,take_append_of_le_length→wB,take_left→iJ,take_length→OK,take_nil→wC,take_of_length_le→Yt,take_succ_cons→wD,take_zero→wE,zip_cons_cons→Yu
open List.Perm renaming swap→vH
open List.cons renaming inj→Yi
open Nat renaming add_assoc→Qp,add_comm→OL,add_le_add→Bf,add_le_add_left→EP,add_le_add_right→C3,add_lt_add_right→wF,add_right_comm→Er,add_sub_add_left→wG,add_sub_cancel→wH,add_sub_cancel'→Yv,div_lt_of_lt_mul→iK,exists_eq_add_of_le→Uh,exists_eq_succ_of_ne_zero→wI,le_add_left→JG,le_add_right→GE,le_antisymm→Ui,le_mul_of_pos_left→wJ,le_of_add_le_add_left→wK,le_of_add_left_le→MW,le_of_add_right_le→LN,le_of_eq→BR,le_of_lt→Et,le_of_lt_succ→MX,le_of_not_le→iL,le_of_not_lt→Yw,le_of_sub_eq_zero→Yx,le_of_succ_le→Gz,le_of_succ_le_succ→Hv,le_one_iff_eq_zero_or_eq_one→Yy,le_refl→BL,le_succ→Da,le_succ_of_le→HU,le_trans→AO,le_zero→Yz,lt_add_of_pos_right→Qq,lt_irrefl→Eu,lt_of_le_of_lt→Bg,lt_of_lt_of_le→CI,lt_of_not_le→J4,lt_of_sub_pos→wL,lt_of_succ_lt→iM,lt_of_succ_lt_succ→wM,lt_or_eq_of_le→wN,lt_succ_of_lt→Qr,lt_succ_self→J5,lt_trans→C4,lt_trichotomy→wO,min_def→iN,min_eq_left→LO,min_eq_right→wP,min_le_left→Qs,min_le_right→Uj,min_self→LP,mod_lt→Dw,mod_two_eq_zero_or_one→wQ,mul_le_mul_left→DM,mul_le_mul_right→Uk,ne_of_gt→HV,ne_of_lt→IU,not_le→Ul,not_le_of_lt→Qt,not_lt→Cp,not_lt_of_le→IV,not_lt_zero→iO,not_succ_le_zero→wR,rec→Y0,sub_eq_zero_of_le→JH,sub_le→Um,sub_le_sub_right→iP,sub_pos_of_lt→Un,sub_self→LR,succ_add_eq_add_succ→Uo,succ_le_succ→CT,succ_lt_succ→wS,succ_ne_self→wT,succ_pos→IW,zero_add→IX,zero_le→D2
open Nat.succ renaming inj→Hw
open Option renaming bind_eq_some_iff→C5,elim→OM,isSome_iff_exists→Y1,isSome_none→wU,isSome_some→wV,map→G1,map_eq_none_iff→iQ,map_eq_some_iff→DD,map_some→Qu,none→AB,some→AA
open Option.some renaming inj→CU
open Prod renaming fst→iR
open Prod.mk renaming inj→Up
open Pure renaming pure→Ax
open PyProof.Rows renaming IntsAre→JJ,exec_Assign→wX,get?_update_seq→Y2,seqObj→ON,slicePart_none→wY,spliced_more→wZ,truthy_none→wa
open PyProof.Rows.F renaming entry_set_update_loop→wW,plain_set_update_loop→iS
open PyProof.Rows.IntsAre renaming int_at→Bf7,length→iT
open PySem renaming Addr→AK,Args→HW,Around→BZ,BindsTo→G2,Builtin→B9,Carries→Y8,Code→JK,Comprehension→Qx,DefRec→Us,DictEntry→GF,ElemsOf→Qy,Env→A7,ExceptHandler→IY,Expr→Ab,FuncData→GG,Heap→BS,IsPart→Q4,Keyword→JM,Model→GH,NameKind→Q5,Obj→BG,Operator→LU,PlainAttrs→Y_,Pos→BK,Program→Fk,Result→EQ,Scope→ER,Sem→Ao,SetTable→Fl,Shared→AN,Slot→LX,Stmt→Bd,Str→AQ,Thread→Hx,Tok→Cg,Value→AE,WalksS→Mc,World→C6,again→RB,argsOk→J7,assign→RC,assignEach→Md,assignInOrder→ZD,attributeBase→U2,backTo→Dd,backToKw→G3,behindInMarks→RD,bindC→RE,bootBuiltins→ZE,builtinLookup_eq_fast→JO,builtinType_eq_fast→xd,builtinsNs→U3,cLine→FG,call→ZF,callSpecial?→i4,callWith→Mf,call_meets→Hy,call_meetsIn→i5,callerA→Od,classAt→J8,codeAny→HX,codeAny_builtin→Oe,codeAny_call_builtin→ZG,codeAny_of_tree→i6,compEnvC→Mg,denote→Lb,entryFor→Mh,entryFor_of_tree→ZH,eval→B_,evalArgs→Mi,excClassObj→i7,fits_of_scanBound→xe,foldedSetIterable→Mj,getItem→Hz,handleBy→ZI,holding→HY,importEnds→i8,importedModules→U4,intKind→Dl,intKind_is→Og,intText?→FH,interactive→U5,isSubtype_type→U6,keywordEach→G4,leaving→U7,leftWithCleanup→Oh,letOwnedTupleGo→i9,letTemporaryGo→U8,mainGlobals→Ia,markTheRefusal→i_,markedEach→jA,methodCall→ZJ,methodCallForm→RG,model→Bo,newFunctionEnv→ZK,noteFrame→U9,nsFind→J9,operate→Oi,outcomeOf→U_,plainId_quiet→U',pyIter→Oj,pyNext→Ib,pythonCodeMadeTheCall→jB,rawInt→C7,recursionLimit→jC,relayAll→Mm,scanBound→JP,seqIndex?→ZM,setNext→VA,setsByText→ZN,sizeLine→FI,sliceRange_one→jD,slot_dict_getitem→xf,specialOf→VB,spliced→ZO,standAt→GI,starEach→CX,stored→Ol,strKind_is→jE,strValues→HZ,sub_set_self→jF,subscripted→Mn,swappedStores→Mo,swapsWithSole→Mp,sysModules→Lc,table→JQ,treeTable→VD,truthy→VE,typeIs_str→Ha,typeLookup→JS,typeLookup_type→JT,typeOf→Ld,unsupported→jG,weight_type_call_type→xg,wpAny→Ac,wpAny_askSetting→Om,wpAny_bind→AR,wpAny_call→VF,wpAny_callSpecial?_slot→jH,wpAny_call_entry→RH,wpAny_dictEntries→ZP,wpAny_field→RI,wpAny_fieldsOf→ZQ,wpAny_holding→D_,wpAny_isInstance→RJ,wpAny_ite_split→J_,wpAny_load→jI,wpAny_loadName_local→xh,wpAny_mkText→jJ,wpAny_mono→J',wpAny_newList→VG,wpAny_newObj_type→Le,wpAny_newTuple→jK,wpAny_of_eq→Ic,wpAny_pure→Aa,wpAny_pyIter_list→jL,wpAny_pyIter_listiter→xi,wpAny_pyIter_slot→xj,wpAny_release→jM,wpAny_rule→Hb,wpAny_seqItems→VH,wpAny_setEntries_of→jN,wpAny_setEpoch_of→xk,wpAny_setField_rec→RK,wpAny_setState_of→RL,wpAny_specialOf→jO,wpAny_specialOf_own→xl,wpAny_standAt→ZR,wpAny_storeSet_of→xm,wpAny_truthy_bool→xo,wpAny_typeOf→ZS,wpAny_updateSeq→jP
open PySem.Around renaming in1_units→Uq,under_plain→wb,under_plainId→Qv
open PySem.AutoListH renaming list_append_list_val_0→wc
open PySem.BindsTo renaming of_defaults→we,of_eq→Eg
open PySem.Builtin renaming vars→AI
open PySem.Builtin.Dict renaming dictSlotArgs→wf,samePairs→wg
open PySem.Builtin.Frozenset renaming newClass→Bf8,updateFrom→Bf9
open PySem.Builtin.List renaming listExtendWith→wh,listFitsIndex→iU,listSameRef→wi,listTooLong→wj
open PySem.Builtin.Range renaming rangeFitsLong→wk,rangeSize→iV,small→wl
open PySem.Builtin.Re renaming reLiteralCannotBeTurned→wm,reNamed→Y3,reSlice→Y4,reTurnSteps→Y5
open PySem.Builtin.Slice renaming sliceAdjust→iW,sliceApplied→wn,slicePlaces→Y6
open PySem.Builtin.Str renaming Writer→Db,occurrences→Qw,partsBetween→Y7,strKind→Ur,strOf→wo,strSliceIndices→wu,tooLong→Gd
open PySem.Calls renaming Name_function_global→iX,evalArgs_plain→wv,loadGlobal_global→ww
open PySem.Challenge renaming pw_wz0029_04→Bg0,rw_wz0029_04→OO
open PySem.Code renaming compLoop→Y9,isCaller→wy,quiet_builtin→iY
open PySem.Env renaming kindOf→LS
open PySem.ExcName renaming means→Ut
open PySem.F renaming args_list_append_2→wz,args_str_split_2→iZ,args_str_split_3→ia,called_int→Uu,called_set→OP,entry_list_append→w_,entry_list_iadd→xA,entry_str_split→Qz,entry_type_call→xB,excStr_ValueError→ic,plainAttrs_dict→ie,plainAttrs_list→xC,plain_list_iadd→xD,plain_set_new→xE,slot_dict_eq→xF,slot_dict_items→xG,slot_dict_update→xH,slot_dict_values→xI,slot_int_rmul→xJ,slot_list_append→ig,slot_list_iadd→xK,slot_list_pop→xL,slot_str_find→xM,slot_str_split→OQ,slot_tuple_getitem→ii
open PySem.Heap renaming ExtBut→ij,MadeExc→xN,MadeExcOf→Q2,SameBut→JL,get?_push_of_some→CW,get?_push_size→CQ,get?_update_other→xP,get?_update_self→Uv,lt_size→Ew,mk→ik,size_push→Q3
open PySem.Heap.IsList renaming typeIs→Q0
open PySem.Heap.SameBut renaming update→OR
open PySem.IsL renaming isList→xQ
open PySem.NameKind renaming free→Uw
open PySem.Obj renaming data_mapFields→xR,mapFields→im,mapSeq→JN,putSet→OS
open PySem.Sem renaming wp→Ux,wp_bind'→Uy,wp_mono→OT
open PySem.SeqAt renaming EqAt→LV,RcAt→LW
open PySem.SeqAt.EqAt renaming same→xS
open PySem.SetTable renaming below→Fm,grown→Q7
open PySem.SetTable.below renaming go→Q6
open PySem.SetTable.probe renaming go→io
open PySem.Shared renaming TypeIs→xT,heap→xU,rest→xV,setGen→ip
open PySem.Spec renaming ltCps→MY
open PySem.Sre renaming Frame→LY,M→MZ,forSearch→LZ,inSet→IZ,ops→Dc
open PySem.Sre.M renaming admitted→Y',attemptAt→OU,attemptFrom→OW,exec→Ma,runFor→OX,word→OY
open PySem.Str renaming join→ZA,ofString→CR
open PySem.StrLaws renaming glued_eq_join→iq
open PySem.Thread renaming atExitBegin→xW
open PySem.Txt renaming slice→ir
open PySem.Value renaming isInt_shape→xX,isStrOf_shape→xY,none→Uz,str→U0,type→OZ
open PySem.W renaming GoodWG→U1,SharedT→J6,WData→Oc,absHeap→ZC,defOf→Q8,exmOne→Q9,namesBound→iz,opening→La,stepT→Q_
open PySem.W.Fast renaming tw10156331382660048174→xZ,tw1435165496053646825→xa
open PySem.W.Frag.In renaming keeps→xb
open PySem.W.KPc renaming Good→Oa,obj_none→Mb,range_list→iu,short_good→iw,turn→ix
open PySem.W.Looks renaming ld→iy
open PySem.W.RowW renaming records→xc
open PySem.W.WData renaming layableAll→ZB
open PySem.pickOrder renaming go→ZL
open String renaming splitOn→xp,splitOnAux→xq
open ToString renaming toString→Ey
namespace Mine
section
open PySem
section
universe u v w x y z
theorem A3{α:Sort u}{p:α->Prop}{b:Prop}(h:∃a,p a)(k:∀a,p a->b):b:=h.elim k
theorem B7{α:Sort u}{β:Sort v}{p:α->β->Prop}{b:Prop}(h:∃a c,p a c)(k:∀a c,p a c->b):b:=h.elim λa h=>h.elim (k a)
theorem Hr{α:Sort u}{β:Sort v}{γ:Sort w}{p:α->β->γ->Prop}{b:Prop}(h:∃a c d,p a c d)(k:∀a c d,p a c d->b):b:=h.elim λa h=>B7 h (k a)
theorem YS{α:Sort u}{β:Sort v}{γ:Sort w}{δ:Sort x}{p:α->β->γ->δ->Prop}{b:Prop}(h:∃a c d e,p a c d e)(k:∀a c d e,p a c d e->b):b:=h.elim λa h=>Hr h (k a)
theorem xe5{α:Sort u}{β:Sort v}{γ:Sort w}{δ:Sort x}{ε:Sort y}{p:α->β->γ->δ->ε->Prop}{b:Prop}(h:∃a c d e f,p a c d e f)(k:∀a c d e f,p a c d e f->b):b:=h.elim λa h=>YS h (k a)
theorem uo{α:Sort u}{β:Sort v}{γ:Sort w}{δ:Sort x}{ε:Sort y}{ζ:Sort z}{p:α->β->γ->δ->ε->ζ->Prop}{b:Prop}(h:∃a c d e f g,p a c d e f g)(k:∀a c d e f g,p a c d e f g->b):b:=h.elim λa h=>xe5 h (k a)
section
variable{M:GH}{A:BZ}{α:Type}{a b:Ao α}{Q:α->AN->Prop}{E:AE->AN->Prop}{s:AN}{c:Prop}[Decidable c]
theorem MQ(h:c)(x:Ac M A a Q E s):Ac M A (if c then a else b) Q E s:=by rw[if_pos h];exact x
theorem QX(h:¬c)(x:Ac M A b Q E s):Ac M A (if c then a else b) Q E s:=by rw[if_neg h];exact x
theorem Bd7(x:Ac M A b Q E s):Ac M A (if AD=AC then a else b) Q E s:=x
theorem UO{d:Bool}(h:d=AD)(x:Ac M A b Q E s):Ac M A (if d=AC then a else b) Q E s:=QX (HR.mp h) x
end
theorem QE{a c j k n:Nat}(hj:j<=c)(h:a+c*(k+1)<=n):a+j+c*k<=n:=by
 rw[Er]
 exact AO (EP hj _) (by rw[Qp];exact h)
end
noncomputable def Jk{M:Ab->Type}(e:Ab)(o:∀e,M e)(name:∀n p,M (.Name n p):=λ_ _=>o _)(con:∀c k p,M (.Constant c k p):=λ_ _ _=>o _)(bin:∀l op x p,M (.BinOp l op x p):=λ_ _ _ _=>o _)(un:∀op x p,M (.UnaryOp op x p):=λ_ _ _=>o _)
  (cmp:∀l Dc xs p,M (.Compare l Dc xs p):=λ_ _ _ _=>o _) (ife:∀t x y p,M (.IfExp t x y p):=λ_ _ _ _=>o _) (sub:∀l x p,M (.Subscript l x p):=λ_ _ _=>o _) (slc:∀a b c p,M (.Slice a b c p):=λ_ _ _ _=>o _)
  (tup:∀es k p,M (.Tuple es k p):=λ_ _ _=>o _) (lst:∀es p,M (.List es p):=λ_ _=>o _) (dic:∀ks es p,M (.Dict ks es p):=λ_ _ _=>o _) (att:∀x n p,M (.Attribute x n p):=λ_ _ _=>o _) (call:∀f es ks p,M (.Call f es ks p):=λ_ _ _ _=>o _)
  (bop:∀op es p,M (.BoolOp op es p):=λ_ _ _=>o _) (lc:∀x g s p,M (.ListComp x g s p):=λ_ _ _ _=>o _) (dc:∀x y g s p,M (.DictComp x y g s p):=λ_ _ _ _ _=>o _):M e:=
 match e with
 | .Name n p=>name n p
 | .Constant c k p=>con c k p
 | .BinOp l op x p=>bin l op x p
 | .UnaryOp op x p=>un op x p
 | .Compare l a b p=>cmp l a b p
 | .IfExp t x y p=>ife t x y p
 | .Subscript l x p=>sub l x p
 | .Slice a b c p=>slc a b c p
 | .Tuple es k p=>tup es k p
 | .List es p=>lst es p
 | .Dict ks es p=>dic ks es p
 | .Attribute x n p=>att x n p
 | .Call f es ks p=>call f es ks p
 | .BoolOp op es p=>bop op es p
 | .ListComp x g s p=>lc x g s p
 | .DictComp x y g s p=>dc x y g s p
 |e=>o e
noncomputable def HH{M:Ab->Type}(e:Ab)(o:∀e,M e)(name:∀n p,M (.Name n p):=λ_ _=>o _)(att:∀x n p,M (.Attribute x n p):=λ_ _ _=>o _)(call:∀f es ks p,M (.Call f es ks p):=λ_ _ _ _=>o _):M e:=Jk e o (name:=name) (att:=att) (call:=call)
noncomputable def S6{M:Ab->Type}(e:Ab)(o:∀e,M e)(name:∀n p,M (.Name n p):=λ_ _=>o _)(sub:∀l x p,M (.Subscript l x p):=λ_ _ _=>o _)(tup:∀es k p,M (.Tuple es k p):=λ_ _ _=>o _)(lc:∀x g s p,M (.ListComp x g s p):=λ_ _ _ _=>o _):M e:=Jk e o (name:=name) (sub:=sub) (tup:=tup) (lc:=lc)
noncomputable def gC{M:Bd->Type}(s:Bd)(o:∀s,M s)(fd:∀a b c d e f g h i p,M (.FunctionDef a b c d e f g h i p):=λ_ _ _ _ _ _ _ _ _ _=>o _)(cd:∀a b c d e f g h i j p,M (.ClassDef a b c d e f g h i j p):=λ_ _ _ _ _ _ _ _ _ _ _=>o _)
  (ret:∀e p,M (.Return e p):=λ_ _=>o _) (asg:∀t e p,M (.Assign t e p):=λ_ _ _=>o _) (aug:∀t op e p,M (.AugAssign t op e p):=λ_ _ _ _=>o _) (fr:∀t i b c p,M (.For t i b c p):=λ_ _ _ _ _=>o _) (whl:∀t b c p,M (.While t b c p):=λ_ _ _ _=>o _)
  (ifs:∀t b c p,M (.If t b c p):=λ_ _ _ _=>o _) (rai:∀e c p,M (.Raise e c p):=λ_ _ _=>o _) (tri:∀b h e f p,M (.Try b h e f p):=λ_ _ _ _ _=>o _) (exp:∀e p,M (.Expr e p):=λ_ _=>o _) (pas:∀p,M (.Pass p):=λ_=>o _) (brk:∀p,M (.Break p):=λ_=>o _):M s:=
 match s with
 | .FunctionDef a b c d e f g h i p=>fd a b c d e f g h i p
 | .ClassDef a b c d e f g h i j p=>cd a b c d e f g h i j p
 | .Return e p=>ret e p
 | .Assign t e p=>asg t e p
 | .AugAssign t op e p=>aug t op e p
 | .For t i b c p=>fr t i b c p
 | .While t b c p=>whl t b c p
 | .If t b c p=>ifs t b c p
 | .Raise e c p=>rai e c p
 | .Try b h e f p=>tri b h e f p
 | .Expr e p=>exp e p
 | .Pass p=>pas p
 | .Break p=>brk p
 |s=>o s
end
section
open PySem PySem.Sre
noncomputable def Iw:Array Nat:= #[14,9,4,1,2,16,10,16,13,0,7,7,16,13,16,10,15,18,5,16,10,15,13,11,16,13,5,5,0,16,10,1,15,2,0,1]
noncomputable def IA:Array Nat:= #[14,4,0,1,1,6,1,16,46,1]
noncomputable def ML(code text:Array Nat)(pos lim pc:Nat)(z_:Bool):M:=
 {code,text,lim,start:=pos,pc,pos,handed:=pos,marks:= #[],mustAdvance:=z_,seen:=({}:Seen).add 14}
theorem BF2(text:Array Nat)(pos lim:Nat):LZ Iw text 0 pos lim AD=
  (if pos>lim||lim - pos<1 then(ML Iw text pos lim 10 AD).say AD else{ML Iw text pos lim 10 AD with lastStart:=lim}.attemptFrom pos AC):=by
 rfl
theorem BF1(text:Array Nat)(pos lim:Nat):LZ IA text 0 pos lim AD=
  (if pos>lim||lim - pos<1 then(ML IA text pos lim 5 AD).say AD else{ML IA text pos lim 5 AD with lastStart:=lim}.attemptFrom pos AC):=by
 rfl
structure At(m:M):Prop where
 o:m.outcome=AB
 a:m.answer=AB
 p:m.pc<m.code.size
theorem At.step{m:M}(h:At m):m.step=m.exec:=by
 unfold M.step
 simp only[h.o,h.a]
 simp[h.p]
theorem Ad5{m:M}(h:Dc[m.word 0]? =AA .LITERAL)(hp:m.pos<m.lim)(ht:m.text.getD m.pos 0=m.word 1):∃sn,m.exec={m with seen:=sn,pc:=m.pc+2,pos:=m.pos+1}:=by
 refine⟨m.seen.add (m.word 0),?_⟩
 unfold Ma
 have hw:m.code.getD m.pc 0=m.word 0:=by simp[OY]
 simp only[h,accepts,itemWidth,hw,(by simp[OY]:m.code.getD (m.pc+1) 0=m.word 1),ht]
 have:¬m.pos≥m.lim:=by exact Ul.mpr (by assumption)
 simp[this]
theorem Ad4{m:M}(h:Dc[m.word 0]? =AA .LITERAL)(hp:m.pos≥m.lim\/m.text.getD m.pos 0≠m.word 1):∃sn,m.exec={m with seen:=sn,answer:=AA AD}:=by
 refine⟨m.seen.add (m.word 0),?_⟩
 unfold Ma
 have hw:m.code.getD m.pc 0=m.word 0:=by simp[OY]
 have za:m.code.getD (m.pc+1) 0=m.word 1:=by simp[OY]
 simp only[h,accepts,itemWidth,hw,za]
 by_cases hx:m.pos≥m.lim
 ·simp[hx,M.say]
 ·simp only[hx,if_false]
  have B3:m.text.getD m.pos 0≠m.word 1:=by rcases hp with h1|h1;exact absurd h1 hx;exact h1
  have:(m.text.getD m.pos 0==m.word 1)=AD:=by simpa using B3
  rw[this];rfl
theorem Ad3{m:M}(h:Dc[m.word 0]? =AA .JUMP):∃sn,m.exec={m with seen:=sn,pc:=m.pc+1+m.word 1}:=by
 refine⟨m.seen.add (m.word 0),?_⟩
 unfold Ma
 simp only[h];rfl
theorem Ad6{m:M}(h:Dc[m.word 0]? =AA .SUCCESS)(hw:m.wholeText=AD)(hm:m.mustAdvance=AD):∃sn,m.exec={m with seen:=sn,handed:=m.pos,answer:=AA AC}:=by
 refine⟨m.seen.add (m.word 0),?_⟩
 unfold Ma
 simp only[h,hw,hm]
 simp[M.say]
theorem Ad0{m:M}(h:Dc[m.word 0]? =AA .AT)(h1:m.word 1=1):∃sn,m.exec=if(m.pos==0||m.text.getD (m.pos - 1) 0==10)then{m with seen:=sn,pc:=m.pc+2}else{m with seen:=sn,answer:=AA AD}:=by
 refine⟨(m.seen.add (m.word 0)).add (43+m.word 1),?_⟩
 unfold Ma
 have e:∀sn,M.isAt {m with seen:=sn} (OY {m with seen:=sn} 1)= .ok (m.pos==0||m.text.getD (m.pos - 1) 0==10):=λsn=>by
  show M.isAt _ (m.word 1)=_
  rw[h1];rfl
 simp only[h,e]
 split<;>rfl
theorem Ad1{m:M}(h:Dc[m.word 0]? =AA .BRANCH):∃sn,m.exec=({m with seen:=sn}:M).alternative (m.pc+1) (m.keep m.inner.isSome):=by
 refine⟨m.seen.add (m.word 0),?_⟩
 unfold Ma
 simp only[h];rfl
theorem Ac9{m:M}(h:Dc[m.word 0]? =AA .ASSERT_NOT)(hi:m.inner=AB)(h2:m.word 2=0):∃sn,m.exec=({m with seen:=sn}:M).attempt {wait:= .lookNot,pc:=m.pc,pos:=m.pos,outermost:=m.outermost,kept:=m.keep AD} (m.pc+3) m.pos AD:=by
 refine⟨m.seen.add (m.word 0),?_⟩
 unfold Ma
 rw[h]
 have hk:∀b,(m.keep (b&&m.inner.isSome))=m.keep AD:=by intro b;rw[hi];simp
 show(if m.pos<m.word 2 then _ else M.attempt _ {wait:= .lookNot,pc:=m.pc,pos:=m.pos,outermost:=m.outermost,kept:=m.keep (AC&&m.inner.isSome)} (m.pc+3) (m.pos - m.word 2) AD)=_
 rw[h2,hk]
 rfl
theorem Sh{m:M}{f:LY}{t p:Nat}{b:Bool}(hk:f.kept.marks= #[])(hw:m.weight<1000000):m.attempt f t p b={m with frames:=f::m.frames,weight:=m.weight+1,pc:=t,pos:=p,handed:=p,outermost:=b}:=by
 unfold M.attempt
 simp[hk]
 exactλh=>absurd (CI h hw) (by decide)
theorem AK3{m:M}{BP:Nat}{k:Sre.Kept}(hk:k.marks= #[])(hw:m.weight<1000000)(h0:m.code.getD BP 0≠0):
  m.alternative BP k={m with frames:={wait:= .nextBranch,pc:=BP,pos:=m.pos,outermost:=m.outermost,kept:=k}::m.frames,weight:=m.weight+1,pc:=BP+1,handed:=m.pos}:=by
 unfold M.alternative
 have:(m.code.getD BP 0==0)=AD:=by simpa using h0
 rw[this]
 rw[if_neg (by simp),Sh hk hw]
 rfl
theorem UH{m:M}{f:LY}{fs:List LY}{b:Bool}(ho:m.outcome=AB)(ha:m.answer=AA b)(hf:m.frames=f::fs):
  m.step=M.resume {m with answer:=AB,frames:=fs,weight:=m.weight - (1+f.kept.marks.size),pc:=f.pc,pos:=f.pos,outermost:=f.outermost} f b:=by
 unfold M.step
 rw[ho,ha,hf]
 rfl
theorem BQ1{m:M}{b:Bool}(ho:m.outcome=AB)(ha:m.answer=AA b)(hf:m.frames=[]):
  m.step={m with outcome:=AA (if b then .matched else .failed)}:=by
 unfold M.step
 rw[ho,ha,hf]
 rfl
theorem fe{m:M}{n:Nat}(ho:m.outcome=AB):OX (n+1) m=OX n m.step:=if_neg (c:=m.outcome.isSome=AC) (by rw[ho];exact C2)
theorem MM{m:M}{n:Nat}(ho:m.outcome.isSome):OX n m=m:=by
 cases n with
 |zero=>rfl
 |succ n=>exact if_pos ho
theorem Tc{m:M}(a b:Nat):OX (a+b) m=OX b (OX a m):=by
 induction a generalizing m with
 |zero=>rw[IX];rfl
 |succ a ih=>
  by_cases h:m.outcome.isSome
  ·rw[MM h,MM h,MM h]
  ·have ho:m.outcome=AB:=by simpa using h
   rw[show a+1+b=(a+b)+1 from Er a 1 b,fe ho,ih,fe ho]
noncomputable def Iq(n:Nat)(m m':M):Prop:=OX n m=m'/\m'.outcome.isSome
theorem Iq.step{n:Nat}{m m':M}(ho:m.outcome=AB)(h:Iq n m.step m'):Iq (n+1) m m':=
 ⟨by rw[fe ho];exact h.1,h.2⟩
theorem Iq.now{m:M}(n:Nat)(h:m.outcome.isSome):Iq n m m:=⟨MM h,h⟩
theorem Iq.mono{n k:Nat}{m m':M}(h:Iq n m m')(hk:n<=k):Iq k m m':=by
 refine A3 (Uh hk) λd AD6=>?_
 obtain rfl:=AD6
 exact⟨by rw[Tc,h.1,MM h.2],h.2⟩
section
noncomputable def BI(n:Nat)(m:M)(P:M->Prop):Prop:=∃m',Iq n m m'/\P m'
theorem BI.mono{n k:Nat}{m:M}{P:M->Prop}(h:BI n m P)(hk:n<=k):BI k m P:=by
 obtain⟨m',h1,h2⟩:=h;exact⟨m',h1.mono hk,h2⟩
noncomputable def S(code text:Array Nat)(lim ls s pc pos hd:Nat)(om:Bool)(fr:List LY)(wt:Nat)(VI:Option Bool)(sn:Seen):M:=
 {code,text,lim,start:=s,lastStart:=ls,pc,pos,handed:=hd,outermost:=om,marks:= #[],frames:=fr,weight:=wt,answer:=VI,seen:=sn}
noncomputable def K0:Sre.Kept:={lastmark:= -1,lastindex:= -1,whole:=AD,marks:= #[]}
variable{code text:Array Nat}{lim ls s pc pos hd:Nat}{om:Bool}{fr:List LY}{wt n:Nat}{sn:Seen}{P:M->Prop}
theorem NI{VI:Option Bool}(h:BI n (S code text lim ls s pc pos hd om fr wt VI sn).step P):BI (n+1) (S code text lim ls s pc pos hd om fr wt VI sn) P:=by
 refine A3 (h) λm' lY=>?_
 exact⟨m',lY.1.step rfl,lY.2⟩
theorem Lz(hp:pc<code.size)(h:BI n (S code text lim ls s pc pos hd om fr wt AB sn).exec P):BI (n+1) (S code text lim ls s pc pos hd om fr wt AB sn) P:=by
 refine NI ?_
 rw[At.step ⟨rfl,rfl,hp⟩];exact h
theorem SU(hp:pc<code.size)(h:Dc[code.getD pc 0]? =AA .LITERAL)(hl:pos<lim)(ht:text.getD pos 0=code.getD (pc+1) 0)
  (hk:∀sn,BI n (S code text lim ls s (pc+2) (pos+1) hd om fr wt AB sn) P):BI (n+1) (S code text lim ls s pc pos hd om fr wt AB sn) P:=by
 refine Lz hp ?_
 obtain⟨sn',e⟩:=Ad5 (m:=S code text lim ls s pc pos hd om fr wt AB sn) h hl ht
 rw[e];exact hk sn'
theorem SS(hp:pc<code.size)(h:Dc[code.getD pc 0]? =AA .LITERAL)(hl:pos≥lim\/text.getD pos 0≠code.getD (pc+1) 0)
  (hk:∀sn,BI n (S code text lim ls s pc pos hd om fr wt (AA AD) sn) P):BI (n+1) (S code text lim ls s pc pos hd om fr wt AB sn) P:=by
 refine Lz hp ?_
 obtain⟨sn',e⟩:=Ad4 (m:=S code text lim ls s pc pos hd om fr wt AB sn) h hl
 rw[e];exact hk sn'
theorem ap(hp:pc<code.size)(h:Dc[code.getD pc 0]? =AA .JUMP)
  (hk:∀sn,BI n (S code text lim ls s (pc+1+code.getD (pc+1) 0) pos hd om fr wt AB sn) P):BI (n+1) (S code text lim ls s pc pos hd om fr wt AB sn) P:=by
 refine Lz hp ?_
 obtain⟨sn',e⟩:=Ad3 (m:=S code text lim ls s pc pos hd om fr wt AB sn) h
 rw[e];exact hk sn'
theorem SV(hp:pc<code.size)(h:Dc[code.getD pc 0]? =AA .SUCCESS)
  (hk:∀sn,BI n (S code text lim ls s pc pos pos om fr wt (AA AC) sn) P):BI (n+1) (S code text lim ls s pc pos hd om fr wt AB sn) P:=by
 refine Lz hp ?_
 obtain⟨sn',e⟩:=Ad6 (m:=S code text lim ls s pc pos hd om fr wt AB sn) h rfl rfl
 rw[e];exact hk sn'
theorem mG(hp:pc<code.size)(h:Dc[code.getD pc 0]? =AA .AT)(h1:code.getD (pc+1) 0=1)(b:Bool)(hb:(pos==0||text.getD (pos - 1) 0==10)=b)
  (hk:∀sn,BI n (S code text lim ls s (if b then pc+2 else pc) pos hd om fr wt (if b then AB else AA AD) sn) P):BI (n+1) (S code text lim ls s pc pos hd om fr wt AB sn) P:=by
 refine Lz hp ?_
 obtain⟨sn',e⟩:=Ad0 (m:=S code text lim ls s pc pos hd om fr wt AB sn) h h1
 rw[e]
 rw[show(((S code text lim ls s pc pos hd om fr wt AB sn).pos==0||(S code text lim ls s pc pos hd om fr wt AB sn).text.getD ((S code text lim ls s pc pos hd om fr wt AB sn).pos - 1) 0==10))=b from hb]
 cases b<;>exact(hk sn')
theorem mF{BP:Nat}(h0:code.getD BP 0≠0)(hw:wt<1000000)
  (hk:BI n (S code text lim ls s (BP+1) pos pos om ({wait:= .nextBranch,pc:=BP,pos,outermost:=om,kept:=K0}::fr) (wt+1) AB sn) P):
  BI n ((S code text lim ls s pc pos hd om fr wt AB sn).alternative BP K0) P:=by
 rw[AK3 rfl hw h0];exact hk
theorem AJ2(hp:pc<code.size)(h:Dc[code.getD pc 0]? =AA .BRANCH)(h0:code.getD (pc+1) 0≠0)(hw:wt<1000000)
  (hk:∀sn,BI n (S code text lim ls s (pc+2) pos pos om ({wait:= .nextBranch,pc:=pc+1,pos,outermost:=om,kept:=K0}::fr) (wt+1) AB sn) P):
  BI (n+1) (S code text lim ls s pc pos hd om fr wt AB sn) P:=by
 refine Lz hp ?_
 obtain⟨sn',e⟩:=Ad1 (m:=S code text lim ls s pc pos hd om fr wt AB sn) h
 rw[e]
 exact mF (n:=n) (sn:=sn') h0 hw (hk sn')
theorem AI8(hp:pc<code.size)(h:Dc[code.getD pc 0]? =AA .ASSERT_NOT)(h2:code.getD (pc+2) 0=0)(hw:wt<1000000)
  (hk:∀sn,BI n (S code text lim ls s (pc+3) pos pos AD ({wait:= .lookNot,pc,pos,outermost:=om,kept:=K0}::fr) (wt+1) AB sn) P):
  BI (n+1) (S code text lim ls s pc pos hd om fr wt AB sn) P:=by
 refine Lz hp ?_
 obtain⟨sn',e⟩:=Ac9 (m:=S code text lim ls s pc pos hd om fr wt AB sn) h rfl h2
 rw[e,Sh rfl hw]
 exact hk sn'
theorem mH{b:Bool}(hp:∀(m':M),m'.outcome=AA (if b then .matched else .failed)->m'.start=s->m'.handed=hd->m'.marks= #[]->m'.lastmark= -1->P m'):BI (n+1) (S code text lim ls s pc pos hd om [] wt (AA b) sn) P:=by
 refine NI ?_
 rw[BQ1 (b:=b) rfl rfl rfl]
 exact⟨_,Iq.now _ rfl,hp _ rfl rfl rfl rfl rfl⟩
theorem Ly{f:LY}(hw:f.wait= .nextBranch\/f.wait= .nextStart)
  (hk:BI n (S code text lim ls s f.pc f.pos hd f.outermost fr (wt - (1+f.kept.marks.size)) (AA AC) sn) P):
  BI (n+1) (S code text lim ls s pc pos hd om (f::fr) wt (AA AC) sn) P:=by
 refine NI ?_
 rw[UH (b:=AC) (f:=f) (fs:=fr) rfl rfl rfl]
 unfold M.resume
 rcases hw with hw|hw<;>(rw[hw];exact hk)
theorem ao{EA Dx:Nat}{fo:Bool}(h0:code.getD (EA+code.getD EA 0) 0≠0)(hw:wt<1000000)
  (hk:BI n (S code text lim ls s (EA+code.getD EA 0+1) Dx Dx fo ({wait:= .nextBranch,pc:=EA+code.getD EA 0,pos:=Dx,outermost:=fo,kept:=K0}::fr) (wt - 1+1) AB sn) P):
  BI (n+1) (S code text lim ls s pc pos hd om ({wait:= .nextBranch,pc:=EA,pos:=Dx,outermost:=fo,kept:=K0}::fr) wt (AA AD) sn) P:=by
 refine NI ?_
 rw[UH (b:=AD) rfl rfl rfl]
 exact mF (n:=n) (pc:=EA) (hd:=hd) (wt:=wt - 1) h0 (by exact Nat.sub_lt_of_lt (by assumption)) hk
theorem AJ0{EA Dx:Nat}{fo b:Bool}
  (hk:BI n (S code text lim ls s (if b then EA else EA+1+code.getD (EA+1) 0) Dx hd fo fr (wt - 1) (if b then AA AD else AB) sn) P):
  BI (n+1) (S code text lim ls s pc pos hd om ({wait:= .lookNot,pc:=EA,pos:=Dx,outermost:=fo,kept:=K0}::fr) wt (AA b) sn) P:=by
 refine NI ?_
 rw[UH (b:=b) rfl rfl rfl]
 cases b<;>exact hk
end
noncomputable def fS(pc s:Nat):LY:={wait:= .nextStart,pc:=pc,pos:=s,outermost:=AC}
noncomputable def NG(s e:Nat)(m':M):Prop:=m'.outcome=AA .matched/\m'.start=s/\m'.handed=e
noncomputable def WF(m':M):Prop:=m'.outcome=AA .failed
theorem TJ{code text:Array Nat}{lim ls s e wt n pc pos:Nat}{om:Bool}{sn:Seen}:BI (n+1) (S code text lim ls s pc pos e om [] wt (AA AC) sn) (NG s e):=
 mH λ_ h1 h2 h3 _ _=>⟨h1,h2,h3⟩
theorem XQ{code text:Array Nat}{lim ls s e wt n pc pos:Nat}{om:Bool}{sn:Seen}:BI (n+1) (S code text lim ls s pc pos e om [] wt (AA AD) sn) WF:=
 mH λ_ h1 _ _ _ _=>h1
noncomputable def FZ(text:Array Nat)(lim s:Nat):Nat:=if text.getD s 0=13/\s+1<lim/\text.getD (s+1) 0=10 then 2 else 1
theorem BD3{text:Array Nat}{lim ls s hd:Nat}{sn:Seen}(hs:s<lim)(hc:text.getD s 0=10\/text.getD s 0=13):
  BI 30 (S Iw text lim ls s 10 s hd AC [fS 10 s] 1 AB sn) (NG s (s+FZ text lim s)):=by
 refine AJ2 (n:=29) (by decide) rfl (by decide) (by decide) λsn=>?_
 by_cases JV:text.getD s 0=13
 ·refine SU (n:=28) (by decide) rfl hs JV λsn=>?_
  by_cases CF:s+1<lim/\text.getD (s+1) 0=10
  ·have hl:FZ text lim s=2:=by unfold FZ;rw[if_pos ⟨JV,CF⟩]
   rw[hl]
   refine SU (n:=27) (by decide) rfl CF.1 CF.2 λsn=>?_
   refine ap (n:=26) (by decide) rfl λsn=>?_
   refine SV (n:=25) (by decide) rfl λsn=>?_
   refine Ly (n:=24) (.inl rfl) ?_
   refine Ly (n:=23) (.inr rfl) ?_
   exact TJ
  ·have hl:FZ text lim s=1:=by unfold FZ;rw[if_neg (λh=>CF h.2)]
   rw[hl]
   have kD:s+1≥lim\/text.getD (s+1) 0≠10:=by
    by_cases hx:s+1<lim
    ·exact .inr λh=>CF ⟨hx,h⟩
    ·exact .inl (by exact Yw (by assumption))
   refine SS (n:=27) (by decide) rfl kD λsn=>?_
   refine ao (n:=26) (by decide) (by decide) ?_
   refine SS (n:=25) (by decide) rfl (.inr (by rw[JV];decide)) λsn=>?_
   refine ao (n:=24) (by decide) (by decide) ?_
   refine SU (n:=23) (by decide) rfl hs JV λsn=>?_
   refine AI8 (n:=22) (by decide) rfl rfl (by decide) λsn=>?_
   refine SS (n:=21) (by decide) rfl kD λsn=>?_
   refine AJ0 (n:=20) (b:=AD) ?_
   refine ap (n:=19) (by decide) rfl λsn=>?_
   refine SV (n:=18) (by decide) rfl λsn=>?_
   refine Ly (n:=17) (.inl rfl) ?_
   refine Ly (n:=16) (.inr rfl) ?_
   exact TJ
 ·have CF:text.getD s 0=10:=by rcases hc with h|h;exact h;exact absurd h JV
  have hl:FZ text lim s=1:=by unfold FZ;rw[if_neg (λh=>JV h.1)]
  rw[hl]
  refine SS (n:=28) (by decide) rfl (.inr JV) λsn=>?_
  refine ao (n:=27) (by decide) (by decide) ?_
  refine SU (n:=26) (by decide) rfl hs CF λsn=>?_
  refine ap (n:=25) (by decide) rfl λsn=>?_
  refine SV (n:=24) (by decide) rfl λsn=>?_
  refine Ly (n:=23) (.inl rfl) ?_
  refine Ly (n:=22) (.inr rfl) ?_
  exact TJ
noncomputable def nl(c:Nat):Bool:=c==10||c==13
theorem Am9(c:Nat)(sn:Seen):∃sn',IZ Iw c Iw.size 5 AC sn= .ok (nl c,sn'):=by
 have e:IZ Iw c Iw.size 5 AC sn=if c==10 then .ok (AC,sn.add 16)else if c==13 then .ok (AC,(sn.add 16).add 16)else .ok (AD,((sn.add 16).add 16).add 0):=rfl
 rw[e]
 unfold nl
 cases c==10 with
 |true=>exact⟨_,rfl⟩
 |false=>cases c==13 with
  |true=>exact⟨_,rfl⟩
  |false=>exact⟨_,rfl⟩
noncomputable def Gu(f:Nat->Bool)(text:Array Nat)(lim:Nat):Nat->Nat->Option Nat
 |0,_=>AB
 |fuel+1,s=>if s≥lim then AB else if f (text.getD s 0)then AA s else Gu f text lim fuel (s+1)
section
variable{f:Nat->Bool}{text:Array Nat}{lim fuel s r:Nat}
theorem Xy(h:lim<=s):Gu f text lim fuel s=AB:=by
 cases fuel with
 |zero=>rfl
 |succ n=>exact if_pos h
theorem fu(hs:s<lim)(h:f (text.getD s 0)=AC):Gu f text lim (fuel+1) s=AA s:=(if_neg (Qt hs)).trans (if_pos h)
theorem fy(hs:s<lim)(h:f (text.getD s 0)=AD):Gu f text lim (fuel+1) s=Gu f text lim fuel (s+1):=(if_neg (Qt hs)).trans (if_neg (h▸C2))
theorem fw:∀{s:Nat},Gu f text lim fuel s=AA r->r<lim/\s<=r/\f (text.getD r 0)=AC:=by
 induction fuel with
 |zero=>exactλh=>by cases h
 |succ n ih=>
  intro s h
  by_cases hs:lim<=s
  ·rw[Xy hs]at h;cases h
  ·have hs:=J4 hs
   cases hb:f (text.getD s 0)with
   |true=>rw[fu hs hb]at h;cases h;exact⟨hs,BL _,hb⟩
   |false=>
    rw[fy hs hb]at h
    exact⟨(ih h).1,Gz (ih h).2.1,(ih h).2.2⟩
theorem AJ9{code:Array Nat}(set1:∀c sn,∃sn',IZ code c code.size 5 AC sn= .ok (f c,sn')){m:M}(hc:m.code=code)(ht:m.text=text)(hl:m.lim=lim):∀(s:Nat) (sn:Seen),∃sn',Y' m fuel s sn= .ok (Gu f text lim fuel s,sn'):=by
 induction fuel with
 |zero=>exactλs sn=>⟨sn,rfl⟩
 |succ n ih=>
  intro s sn
  by_cases hs:lim<=s
  ·exact⟨sn,(if_pos (hl.symm▸hs)).trans (by rw[Xy hs])⟩
  ·have hs:=J4 hs
   obtain⟨sn',e⟩:=set1 (text.getD s 0) sn
   have e:IZ m.code (m.text.getD s 0) m.code.size 5 AC sn= .ok (f (text.getD s 0),sn'):=by rw[hc,ht];exact e
   have a:Y' m (n+1) s sn=_:=if_neg (Qt (hl.symm▸hs))
   rw[a,e]
   cases hb:f (text.getD s 0)with
   |true=>rw[fu hs hb];exact⟨sn',rfl⟩
   |false=>rw[fy hs hb];exact ih _ _
theorem AL3{m:M}(h:m.hasFirstSet=AC)(s:Nat)(b:Bool):m.attemptFrom s b=(match Y' m (m.lim+1 - s) s m.seen with
   | .ok (AA s,seen)=>OU {m with mustAdvance:=AD,seen} s b
   | .ok (AB,seen)=>M.say {m with seen} AD
   | .error why=>m.stick why):=by
 unfold OW;rw[h];rfl
noncomputable def M0(code text:Array Nat)(pos lim pc:Nat):M:={ML code text pos lim pc AD with lastStart:=lim}
noncomputable def WD(e:Nat->Nat)(r:Option Nat):M->Prop:=r.elim WF λs=>NG s (e s)
theorem s7{code:Array Nat}{pc pos n:Nat}{e:Nat->Nat}(hp:pos<=lim)(yn:LZ code text 0 pos lim AD=(if pos>lim||lim - pos<1 then(ML code text pos lim pc AD).say AD else(M0 code text pos lim pc).attemptFrom pos AC))
  (first:((match Dc[code.getD 0 0]? with|some .INFO=>AC|_=>AD)&&code.getD 2 0==4)=AC) (set1:∀c sn,∃sn',IZ code c code.size 5 AC sn= .ok (f c,sn'))
  (hk:∀s sn,s<lim->f (text.getD s 0)=AC->BI (n+1) (S code text lim lim s pc s s AC [{wait:= .nextStart,pc:=pc,pos:=s,outermost:=AC}] 1 AB sn) (NG s (e s))):
  BI (n+1) (LZ code text 0 pos lim AD) (WD e (Gu f text lim (lim+1 - pos) pos)):=by
 rw[yn]
 by_cases hl:lim<=pos
 ·rw[if_pos (Hs.mpr (.inr (decide_eq_true (by rw[JH hl];decide)))),Xy hl]
  exact XQ (n:=n) (code:=code) (text:=text) (lim:=lim) (ls:=0) (s:=pos) (pc:=pc) (pos:=pos) (e:=pos) (om:=AC) (wt:=0)
 ·have hl:=J4 hl
  rw[if_neg (λq=>(Hs.mp q).elim (λq=>absurd (of_decide_eq_true q) (IV hp)) λq=>absurd (of_decide_eq_true q) (IV (Un hl))),AL3 (m:=M0 code text pos lim pc) first]
  refine A3 (AJ9 (fuel:=lim+1 - pos) set1 (m:=M0 code text pos lim pc) rfl rfl rfl pos (({}:Seen).add 14)) λsn' e1=>?_
  have e2:Y' (M0 code text pos lim pc) ((M0 code text pos lim pc).lim+1 - pos) pos (M0 code text pos lim pc).seen= .ok (Gu f text lim (lim+1 - pos) pos,sn'):=e1
  rw[e2]
  cases hn:Gu f text lim (lim+1 - pos) pos with
  |none=>exact XQ (n:=n) (code:=code) (text:=text) (lim:=lim) (ls:=lim) (s:=pos) (pc:=pc) (pos:=pos) (e:=pos) (om:=AC) (wt:=0) (sn:=sn')
  |some s=>
   show BI (n+1) (OU {M0 code text pos lim pc with mustAdvance:=AD,seen:=sn'} s AC) (NG s (e s))
   unfold OU
   rw[Sh rfl (show(0:Nat)<_ by decide)]
   exact hk s sn' (fw hn).1 (fw hn).2.2
end
noncomputable def K9(text:Array Nat)(lim fuel s:Nat):Option Nat:=Gu nl text lim fuel s
theorem eu{text:Array Nat}{lim fuel s r:Nat}(h:K9 text lim fuel s=AA r):r<lim/\s<=r/\nl (text.getD r 0)=AC:=fw h
theorem Ag6(text:Array Nat)(pos lim:Nat)(hp:pos<=lim):BI 40 (LZ Iw text 0 pos lim AD) (WD (λs=>s+FZ text lim s) (K9 text lim (lim+1 - pos) pos)):=
 s7 (n:=39) hp (BF2 ..) rfl Am9 λs sn hs h=>BI.mono (BD3 hs ((Hs.mp h).imp CH CH)) (by decide)
noncomputable def EY(text:Array Nat)(lim s:Nat):Bool:=(s==0||text.getD (s - 1) 0==10)&&(decide (s<lim)&&text.getD s 0==46)
noncomputable def Gq(text:Array Nat)(lim:Nat):Nat->Nat->Option Nat
 |0,s=>if EY text lim s then AA s else AB
 |fuel+1,s=>if EY text lim s then AA s else Gq text lim fuel (s+1)
section
variable{code text:Array Nat}{lim ls s pc pos hd EA Dx fuel:Nat}{om fo:Bool}{fr:List LY}{wt n:Nat}{sn:Seen}{P:M->Prop}
theorem AI9(hf:(match Dc[code.getD 0 0]? with|some .INFO=>AC|_=>AD)=AC)(h2:code.getD 2 0=0)(hw:wt - 1<1000000)(h:Dx<ls)
  (hk:BI n (S code text lim ls (Dx+1) EA (Dx+1) (Dx+1) AD ({wait:= .nextStart,pc:=EA,pos:=Dx+1,outermost:=AD}::fr) (wt - 1+1) AB sn) P):
  BI (n+1) (S code text lim ls s pc pos hd om ({wait:= .nextStart,pc:=EA,pos:=Dx,outermost:=fo}::fr) wt (AA AD) sn) P:=by
 refine NI ?_
 rw[UH (b:=AD) rfl rfl rfl]
 show BI n (if Dx<ls then OW (S code text lim ls s EA Dx hd fo fr (wt - 1) AB sn) (Dx+1) AD else _) P
 rw[if_pos h]
 have hh:(S code text lim ls s EA Dx hd fo fr (wt - 1) AB sn).hasFirstSet=AD:=by
  unfold M.hasFirstSet
  show((match Dc[code.getD 0 0]? with|some .INFO=>AC|_=>AD)&&code.getD 2 0==4)=AD
  rw[hf,h2];rfl
 unfold OW
 rw[hh]
 show BI n (OU _ _ _) _
 unfold OU
 rw[Sh rfl hw]
 exact hk
theorem AJ1(h:¬Dx<ls)(hk:BI n (S code text lim ls s EA Dx hd fo fr (wt - 1) (AA AD) sn) P):BI (n+1) (S code text lim ls s pc pos hd om ({wait:= .nextStart,pc:=EA,pos:=Dx,outermost:=fo}::fr) wt (AA AD) sn) P:=by
 refine NI ?_
 rw[UH (b:=AD) rfl rfl rfl]
 show BI n (if Dx<ls then OW (S code text lim ls s EA Dx hd fo fr (wt - 1) AB sn) (Dx+1) AD else _) P
 rw[if_neg h]
 exact hk
noncomputable def T1(text:Array Nat)(lim s hd:Nat)(om:Bool)(sn:Seen):M:=S IA text lim lim s 5 s hd om [{wait:= .nextStart,pc:=5,pos:=s,outermost:=om}] 1 AB sn
noncomputable def G8(text:Array Nat)(lim fuel s:Nat):M->Prop:=WD (·+1) (Gq text lim fuel s)
theorem Ws(h:EY text lim s=AC):Gq text lim fuel s=AA s:=by
 cases fuel<;>exact if_pos h
theorem Ai8(h:EY text lim s=AC):G8 text lim fuel s=NG s (s+1):=by unfold G8;rw[Ws h];rfl
theorem pQ(h:EY text lim s=AD):G8 text lim 0 s=WF:=by unfold G8;rw[show Gq text lim 0 s=AB from if_neg (h▸C2)];rfl
theorem Ai9(h:EY text lim s=AD):G8 text lim (fuel+1) s=G8 text lim fuel (s+1):=by unfold G8;rw[show Gq text lim (fuel+1) s=Gq text lim fuel (s+1)from if_neg (h▸C2)]
theorem sv(VY:EY text lim s=AD)(hf:s+fuel=lim)(ih:∀f,fuel=f+1->BI (6*f+12) (T1 text lim (s+1) (s+1) AD sn) (G8 text lim f (s+1))):
  BI (6*fuel+10) (S IA text lim lim s pc pos hd om [{wait:= .nextStart,pc:=5,pos:=s,outermost:=fo}] 1 (AA AD) sn) (G8 text lim fuel s):=by
 cases fuel with
 |zero=>
  simp only[pQ VY]
  exact AJ1 (n:=9) (IV (BR hf.symm)) XQ
 |succ f=>
  rw[Ai9 VY]
  exact AI9 (n:=6*f+15) rfl rfl (by decide) (hf▸Qq (IW f)) (BI.mono (ih f rfl) (EP (by decide) (6*f)))
theorem su(hf:s+fuel=lim)(ih:∀f,fuel=f+1->∀sn,BI (6*f+12) (T1 text lim (s+1) (s+1) AD sn) (G8 text lim f (s+1))):BI (6*fuel+12) (T1 text lim s hd om sn) (G8 text lim fuel s):=by
 cases hb:(s==0||text.getD (s - 1) 0==10)with
 |false=>
  refine mG (n:=6*fuel+11) (by decide) rfl rfl AD hb λsn=>?_
  exact BI.mono (sv (by unfold EY;rw[hb];rfl) hf λf e=>ih f e sn) (Da _)
 |true=>
  refine mG (n:=6*fuel+11) (by decide) rfl rfl AC hb λsn=>?_
  by_cases hc:s<lim/\text.getD s 0=46
  ·rw[Ai8 (by unfold EY;rw[hb,decide_eq_true hc.1,hc.2];rfl)]
   exact SU (n:=6*fuel+10) (by decide) rfl hc.1 hc.2 λsn=>SV (n:=6*fuel+9) (by decide) rfl λsn=>Ly (n:=6*fuel+8) (.inr rfl) TJ
  ·have VY:EY text lim s=AD:=by
    unfold EY
    rw[hb]
    exact HR.mpr λq=>have q:=IR.mp (IR.mp q).2;hc ⟨of_decide_eq_true q.1,CH q.2⟩
   refine SS (n:=6*fuel+10) (by decide) rfl ?_ λsn=>sv VY hf λf e=>ih f e sn
   by_cases hx:s<lim
   ·exact .inr λh=>hc ⟨hx,h⟩
   ·exact .inl (Yw hx)
theorem BD2{fuel:Nat}:∀{s hd:Nat} {om:Bool} {sn:Seen},s+fuel=lim->BI (6*fuel+12) (T1 text lim s hd om sn) (G8 text lim fuel s):=by
 induction fuel with
 |zero=>exactλ{_ _ _ _} hf=>su hf λf e=>by cases e
 |succ n ih=>exactλ{s _ _ _} hf=>su hf λf e sn=>by cases e;exact ih ((Uo s n).trans hf)
theorem Ag5(text:Array Nat)(pos lim:Nat)(hp:pos<=lim):BI (6*lim+20) (LZ IA text 0 pos lim AD) (G8 text lim (lim - pos) pos):=by
 rw[BF1]
 by_cases hl:lim<=pos
 ·have e:=JH hl
  rw[if_pos (Hs.mpr (.inr (decide_eq_true (by rw[e];decide)))),e,pQ (by unfold EY;rw[decide_eq_false (IV hl),gk,LH])]
  exact XQ (n:=6*lim+19) (code:=IA) (text:=text) (lim:=lim) (ls:=0) (s:=pos) (pc:=5) (pos:=pos) (e:=pos) (om:=AC) (wt:=0)
 ·have hl:=J4 hl
  rw[if_neg (λq=>(Hs.mp q).elim (λq=>absurd (of_decide_eq_true q) (IV hp)) λq=>absurd (of_decide_eq_true q) (IV (Un hl)))]
  have he:OW (M0 IA text pos lim 5) pos AC=T1 text lim pos pos AC (({}:Seen).add 14):=by
   unfold OW
   rw[show M.hasFirstSet (M0 IA text pos lim 5)=AD from rfl]
   show OU _ _ _=_
   unfold OU
   rw[Sh rfl (show(0:Nat)<_ by decide)]
   rfl
  show BI _ (OW (M0 IA text pos lim 5) pos AC) _
  rw[he]
  exact BI.mono (BD2 (Yv hp)) (Bf (DM 6 (Um ..)) (by decide))
end
noncomputable def Pb:Array Nat:= #[14,10,4,1,1,22,0,31,16,127,0,13,7,22,0,31,16,127,0,1]
noncomputable def Ks:Array Nat:= #[14,14,4,1,1,9,4294966783,0,0,2147483648,0,0,0,0,0,13,11,9,4294966783,0,0,2147483648,0,0,0,0,0,1]
noncomputable def EW(c:Nat):Bool:=decide (c<=31)||c==127
noncomputable def F8(c:Nat):Bool:=(decide (c<=31)&&c !=9)||c==127
structure SQ(code:Array Nat)(pc:Nat)(f:Nat->Bool):Prop where
 eq:∀(text:Array Nat) (pos lim:Nat),LZ code text 0 pos lim AD=
  (if pos>lim||lim - pos<1 then(ML code text pos lim pc AD).say AD else{ML code text pos lim pc AD with lastStart:=lim}.attemptFrom pos AC)
 first:(match Dc[code.getD 0 0]? with|some .INFO=>AC|_=>AD)&&code.getD 2 0==4
 set1:∀c sn,∃sn',IZ code c code.size 5 AC sn= .ok (f c,sn')
 set2:∀c sn,∃sn',IZ code c code.size (pc+2) AC sn= .ok (f c,sn')
 op:Dc[code.getD pc 0]? =AA .IN
 lt:pc<code.size
 next:pc+(1+code.getD (pc+1) 0)<code.size
 succ:Dc[code.getD (pc+(1+code.getD (pc+1) 0)) 0]? =AA .SUCCESS
theorem s9(i:Nat)(hi:i=5\/i=13)(c:Nat)(sn:Seen):∃sn',IZ Pb c Pb.size i AC sn= .ok (EW c,sn'):=by
 have e:IZ Pb c Pb.size i AC sn=if(decide (0<=c)&&decide (c<=31))then .ok (AC,sn.add 22)else if c==127 then .ok (AC,(sn.add 22).add 16)else .ok (AD,((sn.add 22).add 16).add 0):=by
  rcases hi with rfl|rfl<;>rfl
 rw[e]
 unfold EW
 by_cases h1:c<=31
 ·exact⟨sn.add 22,by simp[h1]⟩
 ·by_cases h2:c=127
  ·exact⟨(sn.add 22).add 16,by simp[h2]⟩
  ·exact⟨((sn.add 22).add 16).add 0,by simp[h1,h2]⟩
theorem A15:SQ Pb 11 EW where
 eq _ _ _:=rfl
 first:=rfl
 set1:=s9 5 (.inl rfl)
 set2:=s9 13 (.inr rfl)
 op:=rfl
 lt:=by decide
 next:=by decide
 succ:=rfl
theorem AP3:∀c,c<256->((#[4294966783,0,0,2147483648,0,0,0,0]:Array Nat).getD (c/32) 0).testBit (c % 32)=F8 c:=by
 decide+kernel
theorem s_(i:Nat)(hi:i=5\/i=17)(c:Nat)(sn:Seen):∃sn',IZ Ks c Ks.size i AC sn= .ok (F8 c,sn'):=by
 have e:IZ Ks c Ks.size i AC sn=if(decide (c<256)&&(Ks.getD (i+(1+c/32)) 0).testBit (c % 32))then .ok (AC,sn.add 9)else .ok (AD,(sn.add 9).add 0):=by
  rcases hi with rfl|rfl<;>rfl
 rw[e]
 by_cases hc:c<256
 ·have h8:c/32<8:=iK (show c<32*8 from hc)
  have e2:Ks.getD (i+(1+c/32)) 0=(#[4294966783,0,0,2147483648,0,0,0,0]:Array Nat).getD (c/32) 0:=by
   generalize c/32=k at h8
   have:∀k,k<8->Ks.getD (i+(1+k)) 0=(#[4294966783,0,0,2147483648,0,0,0,0]:Array Nat).getD k 0:=by
    rcases hi with rfl|rfl<;>decide
   exact this k h8
  rw[e2,AP3 c hc]
  cases h:F8 c
  ·exact⟨(sn.add 9).add 0,by simp⟩
  ·exact⟨sn.add 9,by simp[hc]⟩
 ·have h:F8 c=AD:=by
   unfold F8
   simp[(show ¬c<=31 fromλz=>hc (Bg z (by decide))),(show c≠127 fromλz=>hc (by rw[z];decide))]
  rw[h]
  exact⟨(sn.add 9).add 0,by simp[hc]⟩
theorem A16:SQ Ks 15 F8 where
 eq _ _ _:=rfl
 first:=rfl
 set1:=s_ 5 (.inl rfl)
 set2:=s_ 17 (.inr rfl)
 op:=rfl
 lt:=by decide
 next:=by decide
 succ:=rfl
theorem BG0{f:Nat->Bool}{text:Array Nat}{fuel:Nat}:∀{s:Nat},text.size<=s+fuel->(Gu f text text.size fuel s).isSome=(text.toList.drop s).any f:=by
 induction fuel with
 |zero=>exactλ{s} (h:text.size<=s)=>by rw[va (AO (BR En) h)];rfl
 |succ n ih=>
  intro s h
  by_cases hs:text.size<=s
  ·rw[Xy hs,va (AO (BR En) hs)];rfl
  ·have hs:=J4 hs
   have hg:text.getD s 0=text.toList[s]'(CI hs (BR En.symm)):=by
    rw[gh,Gx hs];exact(Array.getElem_toList hs).symm
   simp only[List.drop_eq_getElem_cons (CI hs (BR En.symm)),vO,<-hg]
   cases hb:f (text.getD s 0)with
   |true=>rw[fu hs hb];rfl
   |false=>rw[fy hs hb];exact ih (AO h (BR (Uo s n).symm))
theorem Ad2{m:M}(h:Dc[m.word 0]? =AA .IN)(hp:m.pos<m.lim){sn':Seen}(ha:IZ m.code (m.text.getD m.pos 0) m.code.size (m.pc+2) AC (m.seen.add (m.word 0))= .ok (AC,sn')):
  m.exec={m with seen:=sn',pc:=m.pc+(1+m.word 1),pos:=m.pos+1}:=by
 unfold Ma
 simp only[h,accepts,itemWidth,(by simp[OY]:m.code.getD m.pc 0=m.word 0),(by simp[OY]:m.code.getD (m.pc+1) 0=m.word 1)]
 have:¬m.pos≥m.lim:=by exact Ul.mpr (by assumption)
 rw[if_neg this]
 simp only[ha]
theorem AJ3{code text:Array Nat}{lim ls s pc pos hd:Nat}{om:Bool}{fr:List LY}{wt n:Nat}{sn:Seen}{P:M->Prop}{f:Nat->Bool}(o:SQ code pc f)(hl:pos<lim)(ht:f (text.getD pos 0)=AC)
  (hk:∀sn,BI n (S code text lim ls s (pc+(1+code.getD (pc+1) 0)) (pos+1) hd om fr wt AB sn) P):BI (n+1) (S code text lim ls s pc pos hd om fr wt AB sn) P:=by
 refine Lz o.lt ?_
 refine A3 (o.set2 (text.getD pos 0) (sn.add (code.getD pc 0))) λsn' e=>?_
 rw[ht]at e
 rw[Ad2 (m:=S code text lim ls s pc pos hd om fr wt AB sn) o.op hl (sn':=sn') e]
 exact hk sn'
theorem Ag8{code:Array Nat}{pc:Nat}{f:Nat->Bool}(o:SQ code pc f)(text:Array Nat)(pos lim:Nat)(hp:pos<=lim):BI 10 (LZ code text 0 pos lim AD) (WD (·+1) (Gu f text lim (lim+1 - pos) pos)):=
 s7 (n:=9) hp (o.eq ..) o.first o.set1 λs sn hs h=>AJ3 (n:=9) (wt:=1) (ls:=lim) o hs h λsn=>SV (n:=8) o.next o.succ λsn=>Ly (n:=7) (.inr rfl) TJ
end
section
open PySem PySem.W PyProof.Rows
section
open PySem.W.Fast
set_option maxRecDepth 1000000
section
variable(st:J6->Hx->Option (J6×Hx))
noncomputable def W9(ae:Hx->Option (List AE)):Nat->J6->Hx->Option J6
 |0,_,_=>AB
 |n+1,s,t=>match ae t with
  |some []=>AA s
  |some (_::_)=>AB
  |none=>match st s t with
   |some (s',t')=>W9 ae n s' t'
   |none=>AB
noncomputable def YI(ok:Hx->Bool):Nat->J6->Hx->Option J6
 |0,_,_=>AB
 |n+1,s,t=>match through t with
  |true=>AA s
  |false=>match ok t with
   |false=>AB
   |true=>match st s t with
    |some (s',t')=>YI ok n s' t'
    |none=>AB
end
section
variable{tb:String->Option B9}{p:Fk}{w:C6}
theorem pf:∀{n:Nat} {s s':J6} {t:Hx},W9 (Q_ (Lb tb) p w) xW n s t=AA s'->i8 tb p w n s.abs t=AA s'.abs
 |0,_,_,_,h=>by cases h
 |n+1,s,s',t,h=>by
  unfold W9 at h
  unfold i8
  cases ha:t.atExitBegin with
  |some l=>rw[ha]at h;cases l with
   |nil=>cases h;rfl
   |cons=>cases h
  |none=>
   rw[ha]at h
   cases hs:Q_ (Lb tb) p w s t with
   |none=>rw[hs]at h;cases h
   |some r=>obtain⟨E8,AE8⟩:=r;rw[hs]at h;rw[stepT_spec hs];exact pf h
theorem t9{Z':Nat}{ann:Option AE}:∀{n:Nat} {s s':J6} {t:Hx},YI (Q_ (Lb tb) p w) (stepOk Z' ann) n s t=AA s'->topRun tb p w Z' ann n s.abs t=AA s'.abs
 |0,_,_,_,h=>by cases h
 |n+1,s,s',t,h=>by
  unfold YI at h
  unfold topRun
  cases ha:through t with
  |true=>rw[ha]at h;cases h;rfl
  |false=>
   rw[ha]at h
   cases hk:stepOk Z' ann t with
   |false=>rw[hk]at h;cases h
   |true=>
    rw[hk]at h
    cases hs:Q_ (Lb tb) p w s t with
    |none=>rw[hs]at h;cases h
    |some r=>obtain⟨E8,AE8⟩:=r;rw[hs]at h;rw[stepT_spec hs];exact t9 h
end
noncomputable def UN:BT->Nat->List BG->Option BT
 |t,_,[]=>AA t
 |t,n,o::r=>match((t.ins n o).get n).isSome with
  |true=>UN (t.ins n o) (n+1) r
  |false=>AB
theorem t_{life:Life}:∀{l:List BG} {t T:BT} {n:Nat},UN t n l=AA T->ZC T (n+l.length) life=⟨(ZC t n life).objs++l.toArray,life⟩
 |[],t,T,n,h=>by cases h;rw[ut];rfl
 |o::r,t,T,n,h=>by
  unfold UN at h
  cases e:((t.ins n o).get n).isSome with
  |false=>rw[e]at h;cases h
  |true=>
   rw[e]at h
   have:=t_ (life:=life) h
   rw[show n+(o::r).length=n+1+r.length from(Er n 1 r.length).symm,this,absHeap_ins e]
   show ik ((ZC t n life).objs.push o++r.toArray) life=_
   exact congrArg (ik · life) (uz.mp (by simp))
theorem BT7{h:BS}{T:BT}(e:UN .nil 0 h.objs.toList=AA T):ZC T h.objs.size h.life=h:=by
 have:=t_ (life:=h.life) e
 rw[IX,En]at this
 rw[this]
 show ik (#[]++h.1.toList.toArray) h.2=_
 rw[gg]
noncomputable def d5(AE5 AE6:J6->Hx->Option (J6×Hx))(ae:Hx->Option (List AE))(ok:Hx->Bool)(yI:AN->Option AN)(s:AN)(t u:Hx)(N:Nat):Option (AN×AN):=
 (W9 AE5 ae N ⟨.nil,0,s.heap.life,s.gens,s.drawn,s.toks,s.os⟩ t).bind λa=>(yI a.abs).bind λBH=>(UN .nil 0 BH.heap.objs.toList).bind λT=>
  (YI AE6 ok N ⟨T,BH.heap.objs.size,BH.heap.life,BH.gens,BH.drawn,BH.toks,BH.os⟩ u).map λb=>(BH,b.abs)
theorem As6{p q:Fk}{R2:List AQ}{Xt:AN->Bool}{α:Type}{Yf:AN->α}{Ya:C6->α}{N m₀:Nat}{ann:Option AE}{g0:Bool}
  (h:∀w:C6,(d5 (Q_ (Lb VD) (La p) w) (Q_ (Lb VD) p w) xW (stepOk m₀ ann) (fenceModules? p) (start (La p)).1 (start (La p)).2 (topStub p) N).map
   (λr=>((r.1.heap.isNs Ia&&r.1.gens.size==0,r.1.heap.objs.size,r.1.heap.nsMap Ia "__annotations__"),staticsOk (U4 p.main.body) r.1.heap r.2.heap&&iz p r.2.heap&&gensDone r.2&&laidKept r.1.heap r.2.heap,openSeen q R2 (U4 p.main.body) Xt g0 r.2,Yf r.2))=
   AA ((AC,m₀,ann),AC,openGood q R2,Ya w)):LeftO p q R2 Xt Yf Ya N g0:=λw=>by
 obtain⟨⟨BH,A0⟩,e,e'⟩:=DD.mp (h w)
 unfold d5 at e
 obtain⟨a,e1,e⟩:=C5.mp e
 obtain⟨lr,e2,e⟩:=C5.mp e
 obtain⟨T,e3,e⟩:=C5.mp e
 obtain⟨b,e4,e⟩:=DD.mp e
 cases e
 obtain⟨⟨z1,z2,z3⟩,l1,l2,l3⟩:(_/\_/\_)/\_/\_/\_:=by simpa only[Prod.mk.injEq] using e'
 have e4:=t9 e4
 have hs:(SharedT.mk T BH.heap.objs.size BH.heap.life BH.gens BH.drawn BH.toks BH.os).abs=BH:=by
  unfold SharedT.abs
  rw[BT7 e3]
 rw[hs]at e4
 unfold openEnds fencedOpening
 have x3:i8 VD (La p) w N (start (La p)).1 (start (La p)).2=AA a.abs:=(pf e1)
 rw[x3]
 show((fenceModules? p a.abs).bind (topFrom VD p w N)).map _=_
 rw[e2]
 show(topFrom VD p w N BH).map _=_
 unfold topFrom
 rw[z1,z2,z3,e4]
 show(match staticsOk (U4 p.main.body) BH.heap b.abs.heap&&iz p b.abs.heap&&gensDone b.abs&&laidKept BH.heap b.abs.heap with|true=>AA b.abs|false=>AB:Option AN).map _=_
 rw[l1]
 exact congrArg AA (Prod.ext l2 l3)
end
section
open PySem.W.Fast
set_option maxRecDepth 1000000
noncomputable section
noncomputable abbrev pE:Fk:=OO.row.prog
noncomputable abbrev bE:List Bd:=Bg0.main.body
noncomputable def sA(i:Nat):Bd:=bE.getD i (.Pass default)
noncomputable def sM(i j:Nat):Bd:=gC (M:=λ_=>Bd) (sA i) (λ_=> .Pass default) (cd:=λ_ _ _ b _ _ _ _ _ _ _=>b.getD j (.Pass default))
noncomputable abbrev tO(l:List AE):BG:={cls:= .type "tuple",data:= .seq l.toArray}
noncomputable abbrev xO(c:AE)(l:List AE):BG:={cls:=c,data:= .fields l.toArray}
noncomputable abbrev dO(P:Params)(c:AE)(ep:Nat)(l:List (AQ×Cg×AE)):BG:={cls:=c,data:= .dict (l.map λe=>{hash:=PyData.keyHash P e.1,key:= .str e.1 e.2.1,val:=e.2.2}).toArray ep}
noncomputable def noF(q:AQ)(d k m c:AE):GG:={name:=q,qualname:=q,params:={posonlyargs:=[],args:=[],vararg:=AB,kwonlyargs:=[],kw_defaults:=[],kwarg:=AB,defaults:=[]},body:= .stmts [],scope:={kind:= .function,names:=[],isGenerator:=AD,isCoroutine:=AD},globals:=0,closure:=[],defaults:=d,kwdefaults:=k,pyModule:=m,code:=c}
noncomputable def fdO(s:Bd)(q:AQ)(d k m c:AE):GG:=gC (M:=λ_=>GG) s (λ_=>noF q d k m c) (fd:=λn a b _ _ _ sc _ _ _=>{name:=n,qualname:=q,params:=a,body:= .stmts b,scope:=sc,globals:=3,closure:=[],defaults:=d,kwdefaults:=k,pyModule:=m,code:=c})
noncomputable abbrev fO(s:Bd)(q:AQ)(d k m c:AE):BG:={cls:= .type "function",data:= .func (fdO s q d k m c)}
noncomputable abbrev cO(n:AQ)(bs mro:List AE)(ns:AK)(sub:List AE)(sl:List (Option AE)):BG:={cls:= .type "type",data:= .cls {name:=n,bases:=bs,mro:=mro,ns:=ns,qualname:=n,subclasses:=sub},slots:=sl.toArray}
noncomputable abbrev e(k:AQ)(t:Cg)(v:AE):AQ×Cg×AE:=(k,t,v)
noncomputable abbrev n(a:AK)(o:BG):Nat×BG:=(a,o)
noncomputable def K5(P:Params):Frag:=[
 n 2 (dO P (.none) 11 [e "\x69mport.loaded._sre" 183 (.bool AC),e "class._frozen_importlib.BuiltinImporter" 185 (.ref 14),e "watched.\x69mport" 206 (.ref 18),e "class._frozen_importlib.ModuleSpec" 216 (.ref 22),e "sys.modules.booked-epoch" 245 (.int 3 0),e "\x69mport.later-laid._sre" 270 (.bool AC),e "watched.library" 272 (.ref 27),e "watched.library-objects" 0 (.str "\x0c" 0),e "watched.library-deep._sre" 273 (.str "\x04\x00\x00\x0b\x04\x00\x00\x0b\x04\x00\x00\x03\x04\x00\x00\x0b\x08\x04dict\x02" 0),e "type.__subclasses__.Exception.0" 307 (.int 48 0),e "type.__subclasses__.Exception.n" 308 (.int 1 0)]),n 3 (dO P (.type "dict") 35 [e "__name__" 165 (.str "law_wz0029_04" 745),e "__doc__" 166 (.none),e "__package__" 167 (.none),e "__loader__" 168 (.builtin "__main__.__loader__#opaque"),e "__spec__" 169 (.none),e "__annotations__" 170 (.ref 6),e "__builtins__" 171 (.ref 4),e "__file__" 173 (.str "/claim/cut.py" 172),e "__cached__" 174 (.none),e "_sre" 275 (.ref 12),e "_wall" 288 (.ref 38),e "Error" 310 (.ref 48),e "error_reply" 326 (.ref 61),e "error_proto" 342 (.ref 73),e "parse229" 355 (.ref 82),e "parse257" 366 (.ref 89),e "TupleComp" 410 (.ref 113),e "func_std_string" 418 (.ref 124),e "add_func_stats" 436 (.ref 131),e "add_callers" 447 (.ref 138),e "count_calls" 456 (.ref 145),e "_twin_re_1" 474 (.ref 150),e "_twin_re_2" 516 (.ref 155),e "CRLF" 518 (.str "\x0d\n" 517),e "quotedata" 525 (.ref 162),e "_name_disallowed_re" 553 (.ref 167),e "_value_disallowed_re" 587 (.ref 172),e "Headers" 744 (.ref 295),e "_law_letter" 766 (.ref 306),e "_law_read" 777 (.ref 313),e "_law_post" 794 (.ref 320),e "_law_deeds" 800 (.ref 325),e "_law_deed" 806 (.ref 330),e "_law_laid" 818 (.ref 337),e "law" 824 (.ref 342)]),n 47 (dO P (.type "dict") 3 [e "__module__" 298 (.str "cpy313.ftplib" 289),e "__firstlineno__" 302 (.int 6 301),e "__static_attributes__" 303 (.ref 46),e "__weakref__" 305 (.ref 49),e "__doc__" 306 (.none)]),n 48 (cO "Error" [.type "Exception"] [.ref 48, .type "Exception", .type "BaseException", .type "object"] 47 [.ref 61, .ref 73] [AA (.ref 39),AB,AA (.str "Error" 291),AA (.str "Error" 299),AA (.builtin "Exception.__new__"),AA (.bool AC)]),n 60 (dO P (.type "dict") 2 [e "__module__" 318 (.str "cpy313.ftplib" 289),e "__firstlineno__" 322 (.int 8 321),e "__static_attributes__" 323 (.ref 59),e "__doc__" 324 (.none)]),n 61 (cO "error_reply" [.ref 48] [.ref 61, .ref 48, .type "Exception", .type "BaseException", .type "object"] 60 [] [AA (.ref 52),AB,AA (.str "error_reply" 311),AA (.str "error_reply" 319),AA (.builtin "Exception.__new__"),AA (.bool AC)]),n 72 (dO P (.type "dict") 2 [e "__module__" 334 (.str "cpy313.ftplib" 289),e "__firstlineno__" 338 (.int 10 337),e "__static_attributes__" 339 (.ref 71),e "__doc__" 340 (.none)]),n 73 (cO "error_proto" [.ref 48] [.ref 73, .ref 48, .type "Exception", .type "BaseException", .type "object"] 72 [] [AA (.ref 64),AB,AA (.str "error_proto" 327),AA (.str "error_proto" 335),AA (.builtin "Exception.__new__"),AA (.bool AC)]),n 81 (xO (.type "code") [.str "parse229" 343, .str "parse229" 344, .str "/claim/cut.py" 345, .int 12 0, .int 2 0, .int 0 0, .int 0 0, .int 3 0, .ref 76, .bool AC, .int 276 0, .ref 77, .none, .ref 78, .ref 79, .ref 80, .int 353 0, .int 12 0, .str "/claim/cut.py" 354]),n 82 (fO (sA 6) "parse229" (.none) (.none) (.str "cpy313.ftplib" 289) (.ref 81)),n 88 (xO (.type "code") [.str "parse257" 356, .str "parse257" 357, .str "/claim/cut.py" 358, .int 29 0, .int 1 0, .int 0 0, .int 0 0, .int 3 0, .ref 83, .bool AC, .int 276 0, .ref 84, .none, .ref 85, .ref 86, .ref 87, .int 364 0, .int 29 0, .str "/claim/cut.py" 365]),n 89 (fO (sA 7) "parse257" (.none) (.none) (.str "cpy313.ftplib" 289) (.ref 88)),n 102 (xO (.type "code") [.str "__init__" 381, .str "TupleComp.__init__" 382, .str "/claim/cut.py" 383, .int 49 0, .int 2 0, .int 0 0, .int 0 0, .int 3 0, .ref 97, .bool AC, .int 276 0, .ref 98, .none, .ref 99, .ref 100, .ref 101, .int 386 0, .int 49 0, .str "/claim/cut.py" 387]),n 103 (fO (sM 9 0) "TupleComp.__init__" (.none) (.none) (.str "cpy313.pstats" 367) (.ref 102)),n 109 (xO (.type "code") [.str "compare" 389, .str "TupleComp.compare" 390, .str "/claim/cut.py" 391, .int 52 0, .int 3 0, .int 0 0, .int 0 0, .int 3 0, .ref 104, .bool AC, .int 276 0, .ref 105, .none, .ref 106, .ref 107, .ref 108, .int 399 0, .int 52 0, .str "/claim/cut.py" 400]),n 110 (fO (sM 9 1) "TupleComp.compare" (.none) (.none) (.str "cpy313.pstats" 367) (.ref 109)),n 112 (dO P (.type "dict") 4 [e "__module__" 376 (.str "cpy313.pstats" 367),e "__firstlineno__" 380 (.int 47 379),e "__init__" 388 (.ref 103),e "compare" 401 (.ref 110),e "__static_attributes__" 403 (.ref 111),e "__dict__" 405 (.ref 114),e "__weakref__" 407 (.ref 115),e "__doc__" 408 (.none)]),n 113 (cO "TupleComp" [.type "object"] [.ref 113, .type "object"] 112 [] [AB,AB,AA (.str "TupleComp" 369),AA (.str "TupleComp" 377),AA (.builtin "object.__new__"),AA (.bool AC)]),n 123 (xO (.type "code") [.str "func_std_string" 411, .str "func_std_string" 412, .str "/claim/cut.py" 413, .int 61 0, .int 1 0, .int 0 0, .int 0 0, .int 3 0, .ref 118, .bool AC, .int 276 0, .ref 119, .none, .ref 120, .ref 121, .ref 122, .int 416 0, .int 61 0, .str "/claim/cut.py" 417]),n 124 (fO (sA 10) "func_std_string" (.none) (.none) (.str "cpy313.pstats" 367) (.ref 123)),n 130 (xO (.type "code") [.str "add_func_stats" 419, .str "add_func_stats" 420, .str "/claim/cut.py" 421, .int 70 0, .int 2 0, .int 0 0, .int 0 0, .int 3 0, .ref 125, .bool AC, .int 276 0, .ref 126, .none, .ref 127, .ref 128, .ref 129, .int 434 0, .int 70 0, .str "/claim/cut.py" 435]),n 131 (fO (sA 11) "add_func_stats" (.none) (.none) (.str "cpy313.pstats" 367) (.ref 130)),n 137 (xO (.type "code") [.str "add_callers" 437, .str "add_callers" 438, .str "/claim/cut.py" 439, .int 74 0, .int 2 0, .int 0 0, .int 0 0, .int 3 0, .ref 132, .bool AC, .int 276 0, .ref 133, .none, .ref 134, .ref 135, .ref 136, .int 445 0, .int 74 0, .str "/claim/cut.py" 446]),n 138 (fO (sA 12) "add_callers" (.none) (.none) (.str "cpy313.pstats" 367) (.ref 137)),n 144 (xO (.type "code") [.str "count_calls" 448, .str "count_calls" 449, .str "/claim/cut.py" 450, .int 87 0, .int 1 0, .int 0 0, .int 0 0, .int 3 0, .ref 139, .bool AC, .int 276 0, .ref 140, .none, .ref 141, .ref 142, .ref 143, .int 454 0, .int 87 0, .str "/claim/cut.py" 455]),n 145 (fO (sA 13) "count_calls" (.none) (.none) (.str "cpy313.pstats" 367) (.ref 144)),n 149 (tO [.int 14 0, .int 4 0, .int 0 0, .int 1 0, .int 1 0, .int 6 0, .int 1 0, .int 16 0, .int 46 0, .int 1 0]),n 150 (xO (.type "re.Pattern") [.str "(?m)^\\." 460, .int 40 473, .int 0 0, .none, .none, .ref 149, .int 0 0]),n 154 (tO [.int 14 0, .int 9 0, .int 4 0, .int 1 0, .int 2 0, .int 16 0, .int 10 0, .int 16 0, .int 13 0, .int 0 0, .int 7 0, .int 7 0, .int 16 0, .int 13 0, .int 16 0, .int 10 0, .int 15 0, .int 18 0, .int 5 0, .int 16 0, .int 10 0, .int 15 0, .int 13 0, .int 11 0, .int 16 0, .int 13 0, .int 5 0, .int 5 0, .int 0 0, .int 16 0, .int 10 0, .int 1 0, .int 15 0, .int 2 0, .int 0 0, .int 1 0]),n 155 (xO (.type "re.Pattern") [.str "(?:\\r\\n|\\n|\\r(?!\\n))" 476, .int 32 515, .int 0 0, .none, .none, .ref 154, .int 0 0]),n 161 (xO (.type "code") [.str "quotedata" 519, .str "quotedata" 520, .str "/claim/cut.py" 521, .int 96 0, .int 1 0, .int 0 0, .int 0 0, .int 3 0, .ref 156, .bool AC, .int 276 0, .ref 157, .none, .ref 158, .ref 159, .ref 160, .int 523 0, .int 96 0, .str "/claim/cut.py" 524]),n 162 (fO (sA 18) "quotedata" (.none) (.none) (.str "cpy313.smtplib" 457) (.ref 161)),n 166 (tO [.int 14 0, .int 10 0, .int 4 0, .int 1 0, .int 1 0, .int 22 0, .int 0 0, .int 31 0, .int 16 0, .int 127 0, .int 0 0, .int 13 0, .int 7 0, .int 22 0, .int 0 0, .int 31 0, .int 16 0, .int 127 0, .int 0 0, .int 1 0]),n 167 (xO (.type "re.Pattern") [.str "[\\x00-\\x1F\\x7F]" 529, .int 32 552, .int 0 0, .none, .none, .ref 166, .int 0 0]),n 171 (tO [.int 14 0, .int 14 0, .int 4 0, .int 1 0, .int 1 0, .int 9 0, .int 4294966783 0, .int 0 0, .int 0 0, .int 2147483648 0, .int 0 0, .int 0 0, .int 0 0, .int 0 0, .int 0 0, .int 13 0, .int 11 0, .int 9 0, .int 4294966783 0, .int 0 0, .int 0 0, .int 2147483648 0, .int 0 0, .int 0 0, .int 0 0, .int 0 0, .int 0 0, .int 1 0]),n 172 (xO (.type "re.Pattern") [.str "[\\x00-\\x08\\x0A-\\x1F\\x7F]" 555, .int 32 586, .int 0 0, .none, .none, .ref 171, .int 0 0]),n 180 (tO [.none]),n 186 (xO (.type "code") [.str "__init__" 600, .str "Headers.__init__" 601, .str "/claim/cut.py" 602, .int 103 0, .int 2 0, .int 0 0, .int 0 0, .int 3 0, .ref 181, .bool AC, .int 276 0, .ref 182, .none, .ref 183, .ref 184, .ref 185, .int 607 0, .int 103 0, .str "/claim/cut.py" 608]),n 187 (fO (sM 22 0) "Headers.__init__" (.ref 180) (.none) (.str "cpy313.wsgiref.headers" 526) (.ref 186)),n 193 (xO (.type "code") [.str "_convert_string_type" 610, .str "Headers._convert_string_type" 611, .str "/claim/cut.py" 612, .int 113 0, .int 2 0, .int 0 0, .int 1 0, .int 3 0, .ref 188, .bool AC, .int 276 0, .ref 189, .none, .ref 190, .ref 191, .ref 192, .int 617 0, .int 113 0, .str "/claim/cut.py" 618]),n 194 (fO (sM 22 1) "Headers._convert_string_type" (.none) (.none) (.str "cpy313.wsgiref.headers" 526) (.ref 193)),n 200 (xO (.type "code") [.str "__len__" 620, .str "Headers.__len__" 621, .str "/claim/cut.py" 622, .int 121 0, .int 1 0, .int 0 0, .int 0 0, .int 3 0, .ref 195, .bool AC, .int 276 0, .ref 196, .none, .ref 197, .ref 198, .ref 199, .int 624 0, .int 121 0, .str "/claim/cut.py" 625]),n 201 (fO (sM 22 2) "Headers.__len__" (.none) (.none) (.str "cpy313.wsgiref.headers" 526) (.ref 200)),n 226 (xO (.type "code") [.str "__contains__" 650, .str "Headers.__contains__" 651, .str "/claim/cut.py" 652, .int 135 0, .int 2 0, .int 0 0, .int 0 0, .int 3 0, .ref 221, .bool AC, .int 276 0, .ref 222, .none, .ref 223, .ref 224, .ref 225, .int 655 0, .int 135 0, .str "/claim/cut.py" 656]),n 227 (fO (sM 22 6) "Headers.__contains__" (.none) (.none) (.str "cpy313.wsgiref.headers" 526) (.ref 226)),n 235 (tO [.none]),n 241 (xO (.type "code") [.str "get" 666, .str "Headers.get" 667, .str "/claim/cut.py" 668, .int 141 0, .int 3 0, .int 0 0, .int 0 0, .int 3 0, .ref 236, .bool AC, .int 276 0, .ref 237, .none, .ref 238, .ref 239, .ref 240, .int 674 0, .int 141 0, .str "/claim/cut.py" 675]),n 242 (fO (sM 22 8) "Headers.get" (.ref 235) (.none) (.str "cpy313.wsgiref.headers" 526) (.ref 241)),n 258 (xO (.type "code") [.str "items" 689, .str "Headers.items" 690, .str "/claim/cut.py" 691, .int 154 0, .int 1 0, .int 0 0, .int 0 0, .int 3 0, .ref 253, .bool AC, .int 276 0, .ref 254, .none, .ref 255, .ref 256, .ref 257, .int 693 0, .int 154 0, .str "/claim/cut.py" 694]),n 259 (fO (sM 22 11) "Headers.items" (.none) (.none) (.str "cpy313.wsgiref.headers" 526) (.ref 258)),n 284 (xO (.type "code") [.str "setdefault" 716, .str "Headers.setdefault" 717, .str "/claim/cut.py" 718, .int 166 0, .int 3 0, .int 0 0, .int 0 0, .int 3 0, .ref 279, .bool AC, .int 276 0, .ref 280, .none, .ref 281, .ref 282, .ref 283, .int 723 0, .int 166 0, .str "/claim/cut.py" 724]),n 285 (fO (sM 22 15) "Headers.setdefault" (.none) (.none) (.str "cpy313.wsgiref.headers" 526) (.ref 284)),n 294 (dO P (.type "dict") 4 [e "__module__" 595 (.str "cpy313.wsgiref.headers" 526),e "__firstlineno__" 599 (.int 101 598),e "__init__" 609 (.ref 187),e "_convert_string_type" 619 (.ref 194),e "__len__" 626 (.ref 201),e "__setitem__" 635 (.ref 208),e "__delitem__" 641 (.ref 213),e "__getitem__" 649 (.ref 220),e "__contains__" 657 (.ref 227),e "get_all" 665 (.ref 234),e "get" 676 (.ref 242),e "keys" 682 (.ref 247),e "values" 688 (.ref 252),e "items" 695 (.ref 259),e "__repr__" 702 (.ref 266),e "__str__" 708 (.ref 271),e "__bytes__" 715 (.ref 278),e "setdefault" 725 (.ref 285),e "add_header" 735 (.ref 292),e "__static_attributes__" 737 (.ref 293),e "__dict__" 739 (.ref 296),e "__weakref__" 741 (.ref 297),e "__doc__" 742 (.none)]),n 295 (cO "Headers" [.type "object"] [.ref 295, .type "object"] 294 [] [AB,AB,AA (.str "Headers" 588),AA (.str "Headers" 596),AA (.builtin "object.__new__"),AA (.bool AC)]),n 305 (xO (.type "code") [.str "_law_letter" 747, .str "_law_letter" 748, .str "/claim/cut.py" 749, .int 177 0, .int 5 0, .int 0 0, .int 0 0, .int 3 0, .ref 300, .bool AC, .int 276 0, .ref 301, .none, .ref 302, .ref 303, .ref 304, .int 764 0, .int 177 0, .str "/claim/cut.py" 765]),n 306 (fO (sA 24) "_law_letter" (.none) (.none) (.str "law_wz0029_04" 745) (.ref 305)),n 312 (xO (.type "code") [.str "_law_read" 767, .str "_law_read" 768, .str "/claim/cut.py" 769, .int 189 0, .int 2 0, .int 0 0, .int 0 0, .int 3 0, .ref 307, .bool AC, .int 276 0, .ref 308, .none, .ref 309, .ref 310, .ref 311, .int 775 0, .int 189 0, .str "/claim/cut.py" 776]),n 313 (fO (sA 25) "_law_read" (.none) (.none) (.str "law_wz0029_04" 745) (.ref 312)),n 319 (xO (.type "code") [.str "_law_post" 778, .str "_law_post" 779, .str "/claim/cut.py" 780, .int 199 0, .int 6 0, .int 0 0, .int 0 0, .int 3 0, .ref 314, .bool AC, .int 276 0, .ref 315, .none, .ref 316, .ref 317, .ref 318, .int 792 0, .int 199 0, .str "/claim/cut.py" 793]),n 320 (fO (sA 26) "_law_post" (.none) (.none) (.str "law_wz0029_04" 745) (.ref 319)),n 324 (xO (.type "code") [.str "_law_deeds" 795, .str "_law_deeds" 796, .str "/claim/cut.py" 797, .int 206 0, .int 1 0, .int 0 0, .int 0 0, .int 3 0, .ref 321, .bool AC, .int 276 0, .ref 322, .none, .none, .none, .ref 323, .int 798 0, .int 206 0, .str "/claim/cut.py" 799]),n 325 (fO (sA 27) "_law_deeds" (.none) (.none) (.str "law_wz0029_04" 745) (.ref 324)),n 329 (xO (.type "code") [.str "_law_deed" 801, .str "_law_deed" 802, .str "/claim/cut.py" 803, .int 210 0, .int 4 0, .int 0 0, .int 0 0, .int 3 0, .ref 326, .bool AC, .int 276 0, .ref 327, .none, .none, .none, .ref 328, .int 804 0, .int 210 0, .str "/claim/cut.py" 805]),n 330 (fO (sA 28) "_law_deed" (.none) (.none) (.str "law_wz0029_04" 745) (.ref 329)),n 336 (xO (.type "code") [.str "_law_laid" 807, .str "_law_laid" 808, .str "/claim/cut.py" 809, .int 236 0, .int 3 0, .int 0 0, .int 0 0, .int 3 0, .ref 331, .bool AC, .int 276 0, .ref 332, .none, .ref 333, .ref 334, .ref 335, .int 816 0, .int 236 0, .str "/claim/cut.py" 817]),n 337 (fO (sA 29) "_law_laid" (.none) (.none) (.str "law_wz0029_04" 745) (.ref 336)),n 341 (xO (.type "code") [.str "law" 819, .str "law" 820, .str "/claim/cut.py" 821, .int 243 0, .int 1 0, .int 0 0, .int 0 0, .int 3 0, .ref 338, .bool AC, .int 276 0, .ref 339, .none, .none, .none, .ref 340, .int 822 0, .int 243 0, .str "/claim/cut.py" 823]),n 342 (fO (sA 30) "law" (.none) (.none) (.str "law_wz0029_04" 745) (.ref 341))]
noncomputable def as5:List AK:=[2,3,47,48,60,61,72,73,81,82,88,89,102,103,109,110,112,113,123,124,130,131,137,138,144,145,149,150,154,155,161,162,166,167,171,172,180,186,187,193,194,200,201,226,227,235,241,242,258,259,284,285,294,295,305,306,312,313,319,320,324,325,329,330,336,337,341,342]
noncomputable def q5:Fk:={pE with main:={pE.main with body:=[sA 0,sA 30]}}
noncomputable def P0:List AQ:=["_wall","Error","error_reply","error_proto","parse229","parse257","TupleComp","func_std_string","add_func_stats","add_callers","count_calls","_twin_re_1","_twin_re_2","CRLF","quotedata","_name_disallowed_re","_value_disallowed_re","Headers","_law_letter","_law_read","_law_post","_law_deeds","_law_deed","_law_laid"]
noncomputable abbrev K2:Hook:=kHook K5 as5 (λ_=>rfl)
noncomputable abbrev t5:=tw11892475500146522536 tw14364793385576792824
theorem BG6(w:C6):(d5 (xZ t5 (La pE) w) (xZ t5 pE w) tw3805553451399329143 (tw6613529449190102663 28 (AA (.ref 6))) (tw14289696077712309145 pE) (xa (La pE)).1 (xa (La pE)).2 (topStub pE) 5004).map
   (λr=>((r.1.heap.isNs Ia&&r.1.gens.size==0,r.1.heap.objs.size,r.1.heap.nsMap Ia "__annotations__"),staticsOk (U4 pE.main.body) r.1.heap r.2.heap&&iz pE r.2.heap&&gensDone r.2&&laidKept r.1.heap r.2.heap,tw4187177175401517315 q5 P0 (U4 pE.main.body) (λs=>xlAt q5 [] s&&recOk (xc OO.row.toRowW) s) AC r.2,(K2.obs r.2,decide (0<r.2.toks))))=
   AA ((AC,28,AA (.ref 6)),AC,openGood q5 P0,(K2.val w,AC)):=by
 kernel_rfl
noncomputable abbrev uq(s:AN):Bool:=xlAt q5 [] s&&recOk (xc OO.row.toRowW) s
theorem lf:LeftO pE q5 P0 uq (λs=>(K2.obs s,decide (0<s.toks))) (λw=>(K2.val w,AC)) 5004 AC:=As6 (m₀:=28) (ann:=AA (.ref 6)) λw=>by
 rw[te10156331382660048174,te11892475500146522536,te14364793385576792824,te3805553451399329143,te6613529449190102663,te14289696077712309145,te1435165496053646825,te4187177175401517315]
 exact BG6 w
end
end
theorem Runs.toks{M:GH}{Γ:Ctx}{p:BK}{t:Ao Fin}{fs:List Frame}{s:AN}{e:End}{s':AN}(h:Runs M Γ p t fs s e s'):s.toks<=s'.toks:=by
 induction h<;>(try simp only[ip]at*)<;>(first|exact BL _|assumption|exact Gz (by assumption)|exact AO (by assumption) (by assumption)|lia)
theorem Wakes.toks{M:GH}{Γ:Ctx}{p:BK}{g:Nat}{r:Resume}{s:AN}{res:GenResult}{s':AN}(h:Wakes M Γ p g r s res s'):s.toks<=s'.toks:=by
 unfold Wakes at h
 split at h
 ·exact h.elim
 ·split at h
  ·obtain⟨yH,A0,h1,_,_,rfl⟩:=h
   have:=Runs.toks h1
   simpa [ip] using this
  ·obtain⟨_,rfl⟩:=h;exact BL _
  ·obtain⟨_,rfl⟩:=h;exact BL _
 ·obtain⟨yH,A0,h1,_,_,rfl⟩:=h
  have:=Runs.toks h1
  simpa [ip] using this
 ·obtain⟨_,rfl⟩:=h;exact BL _
 ·obtain⟨_,rfl⟩:=h;exact BL _
theorem gZ{α:Type}{M:GH}{Γ:Ctx}(t:Ao α):∀{Q:α->BK->AN->Prop} {E:AE->BK->AN->Prop} {p:BK} {s:AN} (n:Nat),n<=s.toks->
  Ux M Γ t (λa p' s'=>n<=s'.toks->Q a p' s') (λa p' s'=>n<=s'.toks->E a p' s') p s->Ux M Γ t Q E p s:=by
 induction t with
 |pure a=>intro Q E p s n hn h;exact h hn
 |raise a=>intro Q E p s n hn h;exact h hn
 |unsupported a=>intro Q E p s n hn h;exact h
 |finish a=>intro Q E p s n hn h;exact h
 |rule a k ih=>intro Q E p s n hn h;exact ih _ n hn h
 |«at» a k ih=>intro Q E p s n hn h;exact ih _ n hn h
 |load a b k ih=>intro Q E p s n hn h;obtain⟨o,h1,h2⟩:=h;exact⟨o,h1,ih _ n hn h2⟩
 |update a b f k ih=>intro Q E p s n hn h;obtain⟨h1,h2⟩:=h;exact⟨h1,ih _ n hn h2⟩
 |loadIfAlive a k ih=>intro Q E p s n hn h;exact ih _ n hn h
 |point a k ih=>intro Q E p s n hn h;exact ih _ n hn h
 |register a k ih=>intro Q E p s n hn h;exact h
 |alloc o k ih=>intro Q E p s n hn h;exact ih _ n hn h
 |fresh k ih=>intro Q E p s n hn h;exact ih _ n (HU hn) h
 |ask k ih=>intro Q E p s n hn h;exact ih _ n hn h
 |choose a b k ih=>intro Q E p s n hn h;exact⟨h.1,ih _ n hn h.2⟩
 |os a b k ih=>intro Q E p s n hn h;exact ih _ n hn h
 |call a b c d k ih=>intro Q E p s n hn h;obtain⟨r,s',h1,h2⟩:=h;exact⟨r,s',h1,ih _ n (AO hn (Runs.toks h1)) h2⟩
 |handled a k ih=>intro Q E p s n hn h;exact ih _ n hn h
 |genState a k ih=>intro Q E p s n hn h;obtain⟨st,h1,h2⟩:=h;exact⟨st,h1,ih _ n hn h2⟩
 |newGen a k ih=>intro Q E p s n hn h;exact ih _ n hn h
 |resume a b c k ih=>intro Q E p s n hn h;obtain⟨r,s',h1,h2⟩:=h;exact⟨r,s',h1,ih _ n (AO hn (Wakes.toks h1)) h2⟩
 |yield a b c k ih=>intro Q E p s n hn h;exact h
 |stack k ih=>intro Q E p s n hn h;exact ih _ n hn h
 |fork a k ih=>intro Q E p s n hn h;exact h
 |thread k ih=>intro Q E p s n hn h;exact ih _ n hn h
 |await a b c d k ih=>intro Q E p s n hn h;exact h
theorem uj{α:Type}{M:GH}{A:BZ}{t:Ao α}{Q:α->AN->Prop}{E:AE->AN->Prop}{s:AN}
  (h:Ac M A t (λa s'=>s.toks<=s'.toks->Q a s') (λa s'=>s.toks<=s'.toks->E a s') s):Ac M A t Q E s:=
 λΓ p CK=>gZ t s.toks (BL _) (h Γ p CK)
theorem Af{α:Type}{c:α}{P:Prop}(e:AB=AA c):P:=by cases e
noncomputable def R_(l:List (JK×BK)):Prop:=l.any (λx=>x.1.isCaller)=AC
noncomputable def aW(Γ:Ctx):Prop:=Γ.code.isCaller=AC\/R_ Γ.below
noncomputable def wq(m:Bool){α:Type}(M:GH)(A:BZ)(t:Ao α)(Q:α->AN->Prop)(E:AE->AN->Prop)(s:AN):Prop:=
 ∀Γ p,Γ.In A->(m=AC->aW Γ)->Ux M Γ t (λa _ s'=>Q a s') (λe _ s'=>E e s') p s
noncomputable def Dg(m:Bool)(M:GH)(A:BZ)(c:JK)(R:EQ->AN->Prop)(s:AN):Prop:=
 ∀Γ p,Γ.code=c->Γ.Below A->(m=AC->R_ Γ.below)->wpCode M Γ R p s
section
variable{m:Bool}{α β:Type}{M:GH}{A:BZ}{E:AE->AN->Prop}{s:AN}
theorem wq.of{t:Ao α}{Q:α->AN->Prop}(h:Ac M A t Q E s):wq m M A t Q E s:=λΓ p CK _=>h Γ p CK
theorem Dg.of{c:JK}{R:EQ->AN->Prop}(h:HX M A c R s):Dg m M A c R s:=λΓ p hc CK _=>h Γ p hc CK
theorem EM{a:α}{Q:α->AN->Prop}(h:Q a s):wq m M A (Ax a) Q E s:=λ_ _ _ _=>h
theorem OC{t:Ao α}{Q Q':α->AN->Prop}{E':AE->AN->Prop}(h:wq m M A t Q E s)(hQ:∀a s,Q a s->Q' a s)(hE:∀e s,E e s->E' e s):wq m M A t Q' E' s:=
 λΓ p CK hc=>OT M Γ t (λa _ s=>hQ a s) (λe _ s=>hE e s) p s (h Γ p CK hc)
theorem Bm{t:Ao α}{f:α->Ao β}{Q:β->AN->Prop}(h:wq m M A t (λa s'=>wq m M A (f a) Q E s') E s):wq m M A (t>>=f) Q E s:=λΓ p CK hc=>by
 rw[Uy]
 exact OT M Γ t (λa p' s' h'=>h' Γ p' CK hc) (λ_ _ _ h'=>h') p s (h Γ p CK hc)
theorem QZ{t:Ao α}{k:AE->Ao Unit}{Q:α->AN->Prop}(h:wq m M A t Q (λe s'=>wq m M A (k e) (λ_ He=>E e He) E s') s):wq m M A (t.onRaise k) Q E s:=λΓ p CK hc=>by
 rw[Sem.wp_onRaise]
 exact OT M Γ t (λ_ _ _ h'=>h') (λe p' s' h'=>h' Γ p' CK hc) p s (h Γ p CK hc)
theorem Be8{t:Ao α}{Q:Except AE α->AN->Prop}(h:wq m M A t (λa=>Q (.ok a)) (λe=>Q (.error e)) s):wq m M A t.attempt Q E s:=λΓ p CK hc=>by
 rw[Sem.wp_attempt];exact h Γ p CK hc
theorem UQ{vs:List AE}{t:Ao α}{Q:α->AN->Prop}(h:wq m M A t Q E s):wq m M A (HY vs t) Q E s:=λΓ p CK hc=>by
 rw[Sem.wp_holding];exact h Γ p CK hc
theorem Be9{vs:List AE}{t:Ao α}{Q:α->AN->Prop}(h:wq m M A t Q E s):wq m M A (t.keep vs) Q E s:=λΓ p CK hc=>by
 rw[Sem.wp_keep];exact h Γ p CK hc
theorem UR{pos:BK}{Q:Unit->AN->Prop}(h:Q () s):wq m M A (GI pos) Q E s:=λ_ _ _ _=>h
theorem m4{Γ:Ctx}{c:JK}{h:Option AE}{p:BK}(hc:m=AC->aW Γ):m=AC->R_ (Γ.enter c h p).below:=λe=>by
 replace hc:=hc e
 show R_ ((Γ.code,p)::Γ.below)
 unfold R_
 simp only[vO,Qc]
 exact hc
theorem Bf1{c:JK}{h:Option AE}{Q:Flow->AN->Prop}(hc:Dg m M (A.mark h) c (λr s'=>match r with| .ok f=>Q f s'| .error e=>E e s') s)(zE:h≠AA byPass):wq m M A (run c h) Q E s:=
 λΓ p CK hC=>by rw[Sem.wp_run];exact hc _ p rfl (CK.enter c h p zE) (m4 hC)
theorem Bf2{c:JK}{Q:AE->AN->Prop}(hc:Dg m M A c (λr s'=>match r with| .ok (.ret v)=>Q v s'| .ok _=>False| .error e=>E e s') s):wq m M A (runValue c) Q E s:=
 λΓ p CK hC=>by rw[Sem.wp_runValue];exact hc _ p rfl (CK.enter c AB p (by intro x;cases x)) (m4 hC)
theorem gb{f:AE}{pos:List AE}{kw:List (AQ×AE)}{Q:AE->AN->Prop}(hc:Dg m M A (.call f ⟨pos,kw⟩) (λr s'=>match r with| .ok (.ret v)=>Q v s'| .ok _=>False| .error e=>E e s') s):wq m M A (call f pos kw) Q E s:=Bf2 hc
theorem AU1{c:JK}{R R':EQ->AN->Prop}(h:Dg m M A c R s)(hR:∀r s,R r s->R' r s):Dg m M A c R' s:=λΓ p hc CK hb=>wpCode_mono hR (h Γ p hc CK hb)
theorem Pd{c:JK}{R:EQ->AN->Prop}(h:wq m M (A.under c) (M.den c) (λfin s'=>match fin with| .done f=>R (.ok f) s'| .again c'=>c'.quiet=AC/\Dg m M A c' R s') (λe s'=>R (.error e) s') s):Dg m M A c R s:=λΓ p hc CK hb=>by
 rw[wpCode_iff_wp,hc]
 refine OT M Γ _ (λfin p' s' h'=>?_) (λ_ _ _ h'=>h') p s (h Γ p (hc▸CK.in) λe=> .inr (hb e))
 cases fin with
 |done f=>exact h'
 |again c'=>exact⟨h'.1,h'.2 (Γ.goto c') p' rfl (CK.goto c') hb⟩
theorem bV{c:JK}{R:EQ->AN->Prop}(hq:c.quiet=AC)(I:Nat->AN->Prop)
  (turn:∀n s,I n s->wq m M (A.under c) (M.den c) (λfin s'=>match fin with| .done f=>R (.ok f) s'| .again c'=>(c'=c/\∃n',n'<n/\I n' s')\/(c'.quiet=AC/\Dg m M A c' R s')) (λe s'=>R (.error e) s') s)
  (n:Nat) (h:I n s):Dg m M A c R s:=by
 induction n using Nat.strongRecOn generalizing s with
 |ind n ih=>
  refine Pd (OC (turn n s h) (λfin s' hf=>?_) λ_ _ h'=>h')
  cases fin with
  |done f=>exact hf
  |again c'=>
   rcases hf with⟨rfl,n',hm,hI⟩|hf
   ·exact⟨hq,ih n' hm hI⟩
   ·exact hf
theorem Bf0{own:List String}{e:AE}{Q:Unit->AN->Prop}(h:Q () s):wq AC M A (i_ own e) Q E s:=λΓ p CK hc=>by
 replace hc:=hc rfl
 have hp:jB own (((Γ.code,p)::Γ.below).map (·.1))=AD:=by
  have Rb:(((Γ.code,p)::Γ.below).map (·.1)).any wy=AC:=by
   rw[gy]
   show(Γ.code.isCaller||Γ.below.any (λx=>x.1.isCaller))=AC
   rw[Qc]
   exact hc
  unfold jB
  change ((!(((Γ.code,p)::Γ.below).map (·.1)).any wy)&&_&&_)=AD
  rw[Rb];rfl
 unfold i_
 rw[Uy]
 show Ux M Γ (if jB own (((Γ.code,p)::Γ.below).map (·.1))=AC then _ else _) _ _ p s
 rw[hp]
 exact h
end
theorem wq.any{α:Type}{M:GH}{A:BZ}{t:Ao α}{Q:α->AN->Prop}{E:AE->AN->Prop}{s:AN}(h:wq AD M A t Q E s):Ac M A t Q E s:=λΓ p CK=>h Γ p CK (by intro h;cases h)
structure mJ(mg:AQ->Option AE)(BH:AN):Prop where
 g:BH.heap.Ns Ia mg
 b:∃mb,BH.heap.Ns U3 mb/\∀x:AQ,x≠"__name__"->mb x=ZE x
 nolimit:BH.heap.NoLimit
 nodigits:BH.heap.NoDigits
 nobook:NoneBooked BH.heap
 gens:BH.gens= #[]
noncomputable abbrev GX:=C6×AN×(AQ->Option AE)
noncomputable def PM(x:GX):Prop:=mJ x.2.2 x.2.1/\(K5 x.1.params).In x.2.1.heap/\0<x.2.1.toks
noncomputable def PP(x:GX):Prop:=∀(l:AK) (xs:List Int),xs.length<=63->Well x.1.params x.2.1.heap (.ref l) (ofPy (.list (xs.map .int)))->∀(Q:AE->AN->Prop) (E:AE->AN->Prop),(∀s':AN,(∀b o,x.2.1.heap.get? b=AA o->s'.heap.get? b=AA o)->s'.os=x.2.1.os->s'.gens=x.2.1.gens->Q (.bool AC) s')->wq AC (Bo pE x.1) Od (call (.ref 342) [.ref l]) Q E x.2.1
theorem rN{K:Frag}{h:BS}{a:AK}{m:AQ->Option AE}(x:h.Ns a m)(k:K.In h){c:AE}{d:Option AK}{es:Array GF}{ep:Nat}{sl}(e:K.lookup a=AA ⟨c,d, .dict es ep,sl⟩)(n:AQ):m n=J9 es n:=by
 refine Hr (x) λo Lf RP o31=>?_
 obtain⟨h1,h2,_,h3⟩:=o31
 cases CU (h1.symm.trans (k a _ e))
 cases h2
 exact(h3 n).symm
theorem pP{y:C6}{s:AN}{p:Fk}{R2:List AQ}{z8:ExcName->Option AE}{mg mb:AQ->Option AE}(T:PyProof.Rows.Top p R2 z8 mg mb s.heap)(k:(K5 y.params).In s.heap)(hg:s.gens= #[])(ht:0<s.toks):PM (y,s,mg):=by
 refine A3 (T.nodigits) λmc Vz=>?_
 refine⟨⟨T.g,⟨mb,T.b,T.builtins⟩,T.nolimit,⟨mc,Vz.1,Vz.2⟩,⟨mc,Vz.1,?_⟩,hg⟩,k,ht⟩
 rw[rN Vz.1 k (a:=2) rfl]
 kernel_rfl
theorem ch5:chainsOk q5=AC:=by kernel_rfl
theorem BO3:∃x,PM x:=by
 obtain⟨⟨s',Lp⟩,h⟩:=lf.behind (XP:=λmg h=>XL q5 [] mg h) (λs hs=>xl_of s (IR.mp hs).1) ch5 ⟨λ_ _=>0,{strHash:=λ_=>0,shareClass:=λ_=>0,mergeTok:=id,idOf:=λ_=>0,idOfShared:=λ_ _=>0,followText:=λ_=>AD,idOfImm:=λ_=>0}⟩
 obtain⟨BH,_,_,s,_,_,hg,_,G,y⟩:=h s' Lp
 exact⟨_,pP G.T (K2.of _ _ (congrArg iR y)) (uu (beq_iff_eq.mp hg)) (of_decide_eq_true (congrArg Prod.snd y))⟩
open Classical in
theorem TZ:∃x,PM x/\(PP x->∀y,PM y->PP y):=by
 by_cases h:∃y,PM y/\¬PP y
 ·refine A3 (h) λy lK=>?_
  exact⟨y,lK.1,λz=>absurd z lK.2⟩
 ·obtain⟨y,h1⟩:=BO3
  exact⟨y,h1,λ_ z hz=>Qd λq=>h ⟨z,hz,q⟩⟩
noncomputable def UU:GX:=TZ.choose
noncomputable def w:C6:=UU.1
noncomputable def BH:AN:=UU.2.1
noncomputable def mg:AQ->Option AE:=UU.2.2
theorem As0:PP UU->∀y,PM y->PP y:=TZ.choose_spec.2
theorem TF:mJ mg BH:=TZ.choose_spec.1.1
theorem KX:(K5 w.params).In BH.heap:=TZ.choose_spec.1.2.1
theorem BT0:0<BH.toks:=TZ.choose_spec.1.2.2
noncomputable def Ak:GH:=Bo pE w
noncomputable abbrev T:=List Nat
noncomputable abbrev AU(l:T):AQ:=⟨l.toArray⟩
inductive DK where
 |s (ks:List T)
 |i (ks:List Int)
 deriving DecidableEq,Inhabited
inductive CV where
 |none
 |bool (b:Bool)
 |int (i:Int)
 |str (s:T)
 |tup (vs:List CV)
 |lst (vs:List CV)
 |dct (ks:DK) (vs:List CV)
 |obj (i:Nat)
 |top (v:AE)
 |exc (cls:AE) (BM:Option T)
 |mat
 |rng (n:Nat)
 |itm (ks:DK) (vs:List CV)
 |vls (ks:DK) (vs:List CV)
 deriving Inhabited
noncomputable def DX{M:Type}(c:CV)(o:M)(zn:M:=o)(zb:Bool->M:=λ_=>o)(zi:Int->M:=λ_=>o)(zs:T->M:=λ_=>o)(zt:List CV->M:=λ_=>o)(zl:List CV->M:=λ_=>o)(zd:DK->List CV->M:=λ_ _=>o)(zo:Nat->M:=λ_=>o)(zv:AE->M:=λ_=>o)(ze:AE->Option T->M:=λ_ _=>o)(zm:M:=o)(zr:Nat->M:=λ_=>o)(zk:DK->List CV->M:=λ_ _=>o)(zw:DK->List CV->M:=λ_ _=>o):M:=match c with
 | .none=>zn
 | .bool a=>zb a
 | .int a=>zi a
 | .str a=>zs a
 | .tup a=>zt a
 | .lst a=>zl a
 | .dct a b=>zd a b
 | .obj a=>zo a
 | .top a=>zv a
 | .exc a b=>ze a b
 | .mat=>zm
 | .rng a=>zr a
 | .itm a b=>zk a b
 | .vls a b=>zw a b
inductive CO where
 |list (vs:List CV)
 |dict (ks:DK) (vs:List CV)
 |inst (c:AK) (fn:AQ) (f:Option CV)
 |dead
 deriving Inhabited
noncomputable abbrev AL:=List CO
noncomputable abbrev AY:=List (Option CV)
inductive R(α:Type) where
 |ok (a:α) (h:AL)
 |err (e:CV) (h:AL)
 |no
noncomputable abbrev D:=AY->AL->R CV
inductive RS where
 |next (v:AY) (h:AL)
 |brk (v:AY) (h:AL)
 |ret (a:CV) (h:AL)
 |err (e:CV) (v:AY) (h:AL)
 |no
noncomputable abbrev DS:=AY->AL->RS
inductive SK where
 |loc (n:AQ)
 |cel (n:AQ)
 |off
 deriving DecidableEq
structure Wd where
 ρ:List (AK×AK)
 M:AK->Prop
 F:AK->Prop
noncomputable def Wd.om(W:Wd)(a:AK):Prop:=∃p∈W.ρ,a=p.1\/a=p.2
structure St where
 W:Wd
 o:AL
 s:AN
noncomputable abbrev St.h(σ:St):BS:=σ.s.heap
noncomputable abbrev Dk(items:Array AE)(n:Nat):BG:={cls:= .type "list",dict:=AB,data:= .seq items n,slots:= #[]}
noncomputable abbrev Hq(items:Array AE)(n:Nat):BG:={cls:= .type "tuple",dict:=AB,data:= .seq items n,slots:= #[]}
noncomputable def IC:AE->Bool
 | .ref _=>AC
 | .type n=>n=="ValueError"
 |_=>AD
noncomputable def K_(o:BG):Prop:=(∀vs,o.data≠ .fields vs)\/IC o.cls=AD
noncomputable def Do(h:BS)(a:AK)(ks:DK)(ws:List AE):Prop:=(a==Lc)=AD/\match ks with
 | .s ks=>h.DictOf (strKind pE w) a ((ks.map AU).zip ws)/\ks.length=ws.length
 | .i ks=>h.DictOf (Dl pE w) a (ks.zip ws)/\ks.length=ws.length
noncomputable def St.pl(σ:St)(a:AK)(o:BG):Prop:=σ.h.get? a=AA o/\¬σ.W.M a
inductive AG1(σ:St)(cls:AE)(BM:Option T)(a:AK):Prop
 |mk (o:BG) (vs:Array AE) (t:AK) (items:Array AE) (n:Nat) (h1:σ.h.get? a=AA o) (h2:o.cls=cls) (h3:o.data= .fields vs) (h4:vs[0]? =AA (.ref t)) (h5:σ.pl t (Hq items n)) (h6:∀m,BM=AA m->∃tk,items= #[.str (AU m) tk])
structure WC(σ:St)(cls:AE)(BM:Option T)(a:AK):Prop where
 M:σ.W.M a
 om:¬σ.W.om a
 F:¬σ.W.F a
 x:IC cls=AC
 at_:AG1 σ cls BM a
noncomputable def St.sq(σ:St)(T:String)(a:AK)(ws:List AE):Prop:=∃n,σ.pl a {cls:= .type T,dict:=AB,data:= .seq ws.toArray n,slots:= #[]}
noncomputable def St.dc(σ:St)(ks:DK)(a:AK)(ws:List AE):Prop:=∃o,σ.pl a o/\Do σ.h a ks ws
noncomputable def St.vw(σ:St)(T:String)(ks:DK)(a:AK)(ws:List AE):Prop:=∃o d,σ.pl a o/\o.cls= .type T/\o.data= .fields #[.ref d]/\σ.dc ks d ws
noncomputable def St.mt(σ:St)(a:AK):Prop:=∃o,σ.pl a o/\o.cls= .type "re.Match"
noncomputable def St.rg(σ:St)(n:Nat)(a:AK):Prop:=∃o t u t',σ.pl a o/\IsRange σ.h a 0 n 1 t u t'
inductive EV(P:AK->List AE->Prop)(Q:List AE->Prop)(v:AE):Prop
 |mk (a:AK) (ws:List AE) (e:v= .ref a) (p:P a ws) (q:Q ws)
inductive Rf(P:AK->Prop)(v:AE):Prop
 |mk (a:AK) (e:v= .ref a) (p:P a)
theorem EV.imp{P P':AK->List AE->Prop}{Q Q':List AE->Prop}{v:AE}(h:EV P Q v)(f:∀a ws,P a ws->P' a ws)(g:∀{ws},Q ws->Q' ws):EV P' Q' v:=let⟨a,ws,e,p,q⟩:=h;⟨a,ws,e,f a ws p,g q⟩
theorem Rf.imp{P P':AK->Prop}{v:AE}(h:Rf P v)(f:∀a,P a->P' a):Rf P' v:=let⟨a,e,p⟩:=h;⟨a,e,f a p⟩
mutual
noncomputable def V(σ:St):CV->AE->Prop
 | .none,v=>v= .none
 | .bool b,v=>v= .bool b
 | .int i,v=>∃t,v= .int i t
 | .str s,v=>∃t,v= .str (AU s) t
 | .top u,v=>v=u
 | .obj i,v=>∃p,σ.W.ρ[i]? =AA p/\v= .ref p.1
 | .tup vs,v=>EV (σ.sq "tuple") (Vs σ vs) v
 | .lst vs,v=>EV (σ.sq "list") (Vs σ vs) v
 | .dct ks vs,v=>EV (σ.dc ks) (Vs σ vs) v
 | .itm ks vs,v=>EV (σ.vw "dict_items" ks) (Vs σ vs) v
 | .vls ks vs,v=>EV (σ.vw "dict_values" ks) (Vs σ vs) v
 | .exc cls BM,v=>Rf (WC σ cls BM) v
 | .mat,v=>Rf σ.mt v
 | .rng n,v=>Rf (σ.rg n) v
noncomputable def Vs(σ:St):List CV->List AE->Prop
 |[],vs=>vs=[]
 |c::cs,vs=>∃v r,vs=v::r/\V σ c v/\Vs σ cs r
end
inductive AH6(σ:St)(p:AK×AK)(c:AK)(fn:AQ)(f:Option CV):Prop
 |mk (ob:BG) (m:AQ->Option AE) (h1:σ.h.get? p.1=AA ob) (h2:ob.cls= .ref c) (h3:ob.dict=AA p.2) (h4:p.2≠p.1) (h5:∀c,ob.data≠ .cls c) (h6:σ.h.Ns1 p.2 m) (h7:f.elim (∀x,m x=AB) λv=>∃u,(∀x,m x=if x=fn then AA u else AB)/\V σ v u)
noncomputable def GN(σ:St)(o:CO)(p:AK×AK):Prop:=match o with
 | .list vs=>p.2=p.1/\∃ws n,σ.h.get? p.1=AA (Dk ws.toArray n)/\Vs σ vs ws
 | .dict ks vs=>p.2=p.1/\∃ob ws,σ.h.get? p.1=AA ob/\Do σ.h p.1 ks ws/\Vs σ vs ws
 | .inst c fn f=>AH6 σ p c fn f
 | .dead=>True
structure Av(X:AK->Prop)(σ τ:St):Prop where
 rho:∃t,τ.W.ρ=σ.W.ρ++t
 mono:∀a,σ.W.M a->τ.W.M a
 fresh:∀a,τ.W.M a->σ.W.M a\/σ.h.get? a=AB
 omf:∀a,τ.W.om a->σ.W.om a\/σ.h.get? a=AB
 ff:∀a,τ.W.F a↔σ.W.F a
 live:∀a o,σ.h.get? a=AA o->∃o',τ.h.get? a=AA o'
 kept:∀a o,σ.h.get? a=AA o->¬σ.W.om a->¬X a->(¬σ.W.F a->τ.h.get? a=AA o)/\∃sl,τ.h.get? a=AA {o with slots:=sl}
noncomputable abbrev HJ:AK->Prop:=λ_=>False
noncomputable abbrev Lt:=Av HJ
structure Ok(σ:St):Prop where
 len:σ.W.ρ.length=σ.o.length
 dist:∀(i j:Nat) p q,σ.W.ρ[i]? =AA p->σ.W.ρ[j]? =AA q->i≠j->p.1≠q.1/\p.1≠q.2/\p.2≠q.1/\p.2≠q.2
 omM:∀a,σ.W.om a->σ.W.M a/\¬σ.W.F a
 FM:∀a,σ.W.F a->σ.W.M a/\∃o es ep,σ.h.get? a=AA o/\o.data= .dict es ep
 Mlt:∀a,σ.W.M a->(∃o,σ.h.get? a=AA o)/\BH.heap.get? a=AB
 keep:∀b o,BH.heap.get? b=AA o->σ.h.get? b=AA o
 gens:σ.s.gens=BH.gens
 os:σ.s.os=BH.os
 rel:∀(i:Nat) o p,σ.o[i]? =AA o->σ.W.ρ[i]? =AA p->GN σ o p
theorem Bt{P:Prop}{h:BS}{a:AK}{o:BG}(x:h.get? a=AA o)(y:h.get? a=AB):P:=nomatch x.symm.trans y
theorem D0{h:BS}{a:AK}{o o':BG}(x:h.get? a=AA o)(y:h.get? a=AA o'):o=o':=CU (x.symm.trans y)
structure Kp(σ τ:St):Prop where
 p:∀a o,σ.pl a o->τ.pl a o
 ob:∀(i:Nat) q,σ.W.ρ[i]? =AA q->τ.W.ρ[i]? =AA q
 ex:∀c m a,WC σ c m a->WC τ c m a
theorem Do.at{h h':BS}{a:AK}{ks:DK}{ws:List AE}(x:Do h a ks ws)(hk:∀o,h.get? a=AA o->h'.get? a=AA o):Do h' a ks ws:=
 ⟨x.1,match ks,x.2 with
  | .s _,y=>⟨y.1.at hk,y.2⟩
  | .i _,y=>⟨y.1.at hk,y.2⟩⟩
noncomputable def Pl(σ τ:St):Prop:=∀a o,σ.pl a o->τ.pl a o
section
variable{σ τ:St}(k:Pl σ τ)
include k
theorem Pl.at{a:AK}{o:BG}(h:σ.pl a o):∀o',σ.h.get? a=AA o'->τ.h.get? a=AA o':=λo' e=>D0 h.1 e▸(k _ _ h).1
theorem Pl.sq(T:String)(a:AK)(ws:List AE)(h:σ.sq T a ws):τ.sq T a ws:=h.imp λ_ h=>k _ _ h
theorem Pl.dc(ks:DK)(a:AK)(ws:List AE)(h:σ.dc ks a ws):τ.dc ks a ws:=h.imp λ_ h=>⟨k _ _ h.1,h.2.at (Pl.at k h.1)⟩
theorem Pl.vw(T:String)(ks:DK)(a:AK)(ws:List AE)(h:σ.vw T ks a ws):τ.vw T ks a ws:=h.imp λ_ h=>h.imp λd h=>⟨k _ _ h.1,h.2.1,h.2.2.1,Pl.dc k ks d ws h.2.2.2⟩
theorem Pl.mt(a:AK)(h:σ.mt a):τ.mt a:=h.imp λ_ h=>⟨k _ _ h.1,h.2⟩
theorem Pl.rg(n:Nat)(a:AK)(h:σ.rg n a):τ.rg n a:=h.imp λ_ h=>h.imp λ_ h=>h.imp λ_ h=>h.imp λ_ h=>⟨k _ _ h.1,Pl.at k h.1 _ h.2⟩
end
section
variable{σ τ:St}(k:Kp σ τ)
include k
theorem Kp.sq(T:String)(a:AK)(ws:List AE)(h:σ.sq T a ws):τ.sq T a ws:=Pl.sq k.p T a ws h
theorem Kp.dc(ks:DK)(a:AK)(ws:List AE)(h:σ.dc ks a ws):τ.dc ks a ws:=Pl.dc k.p ks a ws h
mutual
theorem Kp.v:∀(c:CV) {v:AE},V σ c v->V τ c v
 | .none,_,h| .bool _,_,h| .int _,_,h| .str _,_,h| .top _,_,h=>h
 | .tup vs,_,h| .lst vs,_,h=>EV.imp h (k.sq _) (Kp.vs vs)
 | .dct _ vs,_,h=>EV.imp h (k.dc _) (Kp.vs vs)
 | .obj _,_,⟨p,h1,h2⟩=>⟨p,k.ob _ _ h1,h2⟩
 | .exc _ _,_,h=>Rf.imp h (k.ex _ _)
 | .mat,_,h=>Rf.imp h (Pl.mt k.p)
 | .rng _,_,h=>Rf.imp h (Pl.rg k.p _)
 | .itm _ vs,_,h| .vls _ vs,_,h=>EV.imp h (Pl.vw k.p _ _) (Kp.vs vs)
theorem Kp.vs:∀(c:List CV) {v:List AE},Vs σ c v->Vs τ c v
 |[],_,h=>h
 |c::cs,_,⟨x,r,e,h1,h2⟩=>⟨x,r,e,Kp.v c h1,Kp.vs cs h2⟩
end
end
section
variable{X Y:AK->Prop}{σ τ υ:St}{A:BZ}
theorem Av.refl(X:AK->Prop)(σ:St):Av X σ σ:=⟨⟨[],(BJ _).symm⟩,λ_ h=>h,λ_ h=> .inl h,λ_ h=> .inl h,λ_=>Fh,λ_ o h=>⟨o,h⟩,λ_ o h _ _=>⟨λ_=>h,o.slots,h⟩⟩
theorem Av.back(x:Av X σ τ){a:AK}(h:τ.h.get? a=AB):σ.h.get? a=AB:=match e:σ.h.get? a with
 |none=>rfl
 |some o=>(x.live a o e).elim λ_ q=>Bt q h
theorem Av.trans(x:Av X σ τ)(y:Av X τ υ):Av X σ υ where
 rho:=x.rho.elim λt e=>y.rho.elim λt' e'=>⟨t++t',by rw[e',e,B2]⟩
 mono a h:=y.mono a (x.mono a h)
 fresh a h:=(y.fresh a h).elim (x.fresh a) λq=> .inr (x.back q)
 omf a h:=(y.omf a h).elim (x.omf a) λq=> .inr (x.back q)
 ff a:=(y.ff a).trans (x.ff a)
 live a o h:=(x.live a o h).elim λo' q=>y.live a o' q
 kept a o h ho hx:=
  have Vh:¬τ.W.om a:=λq=>(x.omf a q).elim ho (Bt h)
  ⟨λhf=>(y.kept a o ((x.kept a o h ho hx).1 hf) Vh hx).1 λq=>hf ((x.ff a).mp q),(x.kept a o h ho hx).2.elim λ_ q=>(y.kept a _ q Vh hx).2⟩
theorem Av.weaken(x:Av X σ τ)(h:∀a,X a->Y a\/σ.h.get? a=AB):Av Y σ τ:=
 ⟨x.rho,x.mono,x.fresh,x.omf,x.ff,x.live,λa o e ho hy=>x.kept a o e ho λhx=>(h a hx).elim hy (Bt e)⟩
theorem Av.up(h:Lt σ τ):Av X σ τ:=h.weaken λ_=>gq
theorem Av.kp(st:Av X σ τ)(ok:Ok σ)(hX:∀a,X a->σ.W.M a/\∀o,σ.h.get? a=AA o->K_ o):Kp σ τ:=
 have p:∀a o,σ.pl a o->τ.pl a o:=λa o h=>⟨(st.kept a o h.1 (λq=>h.2 (ok.omM a q).1) λq=>h.2 (hX a q).1).1 λq=>h.2 (ok.FM a q).1,λq=>(st.fresh a q).elim h.2 (Bt h.1)⟩
 ⟨p,λi q h=>st.rho.elim λt e=>by rw[e,MU (Gb.mp h).1];exact h,λc m a h=>
  let⟨o,vs,t,it,n,h1,h2,h3,h4,h5,h6⟩:=h.at_
  ⟨st.mono _ h.M,λq=>(st.omf a q).elim h.om (Bt h1),λq=>h.F ((st.ff a).mp q),h.x,o,vs,t,it,n,(st.kept a o h1 h.om λq=>((hX a q).2 o h1).elim (λz=>z vs h3) λz=>by rw[h2,h.x]at z;cases z).1 h.F,h2,h3,h4,p _ _ h5,h6⟩⟩
theorem Ok.kp(ok:Ok σ)(st:Lt σ τ):Kp σ τ:=st.kp ok λ_=>gq
structure Bi8(env:A7):Prop where
 g:env.globals=Ia
 b:env.builtins=U3
structure Fx where
 scope:ER
 sc:List SK
 fn:Bool:=AC
structure Dp(fx:Fx):Prop where
 kind:fx.scope.kind= .function
 loc:∀n,SK.loc n∈fx.sc->fx.scope.names.lookup n=AA .local/\(n==("__debug__":AQ))=AD
 cel:∀n,SK.cel n∈fx.sc->fx.scope.names.lookup n=AA .cell/\(n==("__debug__":AQ))=AD
 once:∀(i j:Nat) k,fx.sc[i]? =AA k->fx.sc[j]? =AA k->k≠ .off->i=j
structure Bl(fx:Fx)(σ:St)(env:A7)(AI:AY):Prop where
 scope:env.scope=fx.scope
 func:fx.fn=AC->env.func.isSome=AC
 globals:env.globals=Ia
 builtins:env.builtins=U3
 frame:∃L,env.frame=AA L/\σ.W.F L
 own:σ.W.M env.locals/\¬σ.W.om env.locals
 cells:∀n c,(n,c)∈env.cells->σ.W.M c/\¬σ.W.om c/\¬σ.W.F c/\c≠env.locals/\∃u,σ.h.IsCell c u
 apart:env.cells.Pairwise λx y=>x.2≠y.2
 len:AI.length=fx.sc.length
 ns:∃m,σ.h.Ns env.locals m/\∀(i:Nat) n v,fx.sc[i]? =AA (.loc n)->AI[i]? =AA (some v)->∃u,m n=AA u/\V σ v u
 cel:∀(i:Nat) n,fx.sc[i]? =AA (.cel n)->∃c u,env.cells.lookup n=AA c/\σ.h.IsCell c u/\∀v,AI[i]? =AA (some v)->∃x,u=AA x/\V σ v x
noncomputable def DB(env:A7):AK->Prop:=λa=>a=env.locals\/(env.func.isSome=AC/\∃n,(n,a)∈env.cells)
structure Bs(A:BZ)(k:Nat)(q:Bool)(σ:St):Prop where
 depth:A.depth+10*k<=990
 units:A.units+300*k<=9000
 hand:q=AC->A.handled=AB
 frames:∃l,A.frames=AA l/\∀e∈l,e.scope.kind≠ .module/\∃L,e.frame=AA L/\σ.W.F L
theorem Bs.step{k:Nat}{q:Bool}(h:Bs A k q σ)(st:Av X σ τ):Bs A k q τ:=
 ⟨h.depth,h.units,h.hand,h.frames.imp λ_ h=>⟨h.1,λe he=>⟨(h.2 e he).1,(h.2 e he).2.imp λL q=>⟨q.1,(st.ff L).mpr q.2⟩⟩⟩⟩
theorem Bs.le{k k':Nat}{q:Bool}(h:Bs A k q σ)(hk:k'<=k):Bs A k' q σ:=
 ⟨AO (EP (DM _ hk) _) h.depth,AO (EP (DM _ hk) _) h.units,h.hand,h.frames⟩
theorem Bs.any{k:Nat}(h:Bs A k AC σ)(q:Bool):Bs A k q σ:=⟨h.depth,h.units,λ_=>h.hand rfl,h.frames⟩
theorem Ns.slots{h h':BS}{a:AK}{m:AQ->Option AE}(x:h.Ns a m)(hk:∀o,h.get? a=AA o->∃sl,h'.get? a=AA {o with slots:=sl}):h'.Ns a m:=
 let⟨o,es,ep,ho,hd,r⟩:=x;(hk o ho).elim λ_ hs=>⟨_,es,ep,hs,hd,r⟩
theorem IsCell.slots{h h':BS}{a:AK}{u:Option AE}(x:h.IsCell a u)(hk:∀o,h.get? a=AA o->∃sl,h'.get? a=AA {o with slots:=sl}):h'.IsCell a u:=
 let⟨o,ho,hd⟩:=x;(hk o ho).elim λ_ hs=>⟨_,hs,hd⟩
section
variable{fx:Fx}{env:A7}{AI:AY}
noncomputable def Fe(env:A7)(a:AK):Prop:=a=env.locals\/∃n,(n,a)∈env.cells
theorem Bl.moveV(E:Bl fx σ env AI)(k:∀(i:Nat) v,AI[i]? =AA (AA v)->∀u,V σ v u->V τ v u)(hF:∀a,τ.W.F a↔σ.W.F a)(h:∀a,Fe env a->τ.W.M a/\¬τ.W.om a/\∀o,σ.h.get? a=AA o->∃sl,τ.h.get? a=AA {o with slots:=sl}):Bl fx τ env AI:=
 have hl:=h _ (.inl rfl)
 ⟨E.scope,E.func,E.globals,E.builtins,E.frame.imp λL h=>⟨h.1,(hF L).mpr h.2⟩,⟨hl.1,hl.2.1⟩,λn c hc=>let⟨_,_,h3,h4,u,h5⟩:=E.cells n c hc;let h:=h c (.inr ⟨n,hc⟩);⟨h.1,h.2.1,λq=>h3 ((hF c).mp q),h4,u,IsCell.slots h5 h.2.2⟩,E.apart,E.len,E.ns.imp λm h=>⟨Ns.slots h.1 hl.2.2,λi n v h1 h2=>(h.2 i n v h1 h2).imp λu q=>⟨q.1,k i v h2 _ q.2⟩⟩,λi n hi=>(E.cel i n hi).imp λc h'=>h'.imp λu h'=>⟨h'.1,IsCell.slots h'.2.1 (h c (.inr ⟨n,mem_of_lookup h'.1⟩)).2.2,λv hv=>(h'.2.2 v hv).imp λx q=>⟨q.1,k i v hv _ q.2⟩⟩⟩
theorem Bl.move(E:Bl fx σ env AI)(k:Kp σ τ)(hF:∀a,τ.W.F a↔σ.W.F a)(h:∀a,Fe env a->τ.W.M a/\¬τ.W.om a/\∀o,σ.h.get? a=AA o->∃sl,τ.h.get? a=AA {o with slots:=sl}):Bl fx τ env AI:=E.moveV (λ_ _ _ _=>k.v _) hF h
theorem Bl.ownM(E:Bl fx σ env AI){a:AK}(h:Fe env a):σ.W.M a/\¬σ.W.om a:=h.elim (λe=>e▸E.own) λ⟨n,h⟩=>⟨(E.cells n a h).1,(E.cells n a h).2.1⟩
theorem Bl.stepX(E:Bl fx σ env AI)(ok:Ok σ)(st:Av X σ τ)(k:Kp σ τ)(hX:∀a,Fe env a->¬X a):Bl fx τ env AI:=E.move k st.ff λa h=>
 have m:=E.ownM h
 ⟨st.mono a m.1,λq=>(st.omf a q).elim m.2 λq=>(ok.Mlt a m.1).1.elim λo h=>Bt h q,λo e=>(st.kept a o e m.2 (hX a h)).2⟩
theorem Bl.step(E:Bl fx σ env AI)(ok:Ok σ)(st:Lt σ τ):Bl fx τ env AI:=E.stepX ok st (ok.kp st) λ_ _=>id
structure BW(A:BZ)(k:Nat)(q:Bool)(fx:Fx)(env:A7)(σ:St)(AI:AY):Prop where
 r:Bs A k q σ
 e:Bl fx σ env AI
 ok:Ok σ
 t:fx.fn=AC->∃l,A.frames=AA (env::l)
theorem BW.step{k:Nat}{q:Bool}(p:BW A k q fx env σ AI)(st:Lt σ τ)(ok:Ok τ):BW A k q fx env τ AI:=⟨p.r.step st,p.e.step p.ok st,ok,p.t⟩
end
inductive Tb(σ τ:St)(a:AK)(u:Option AE):Prop
 |none (h:u=AA .none)
 |some (T:AK) (oT:BG) (ts:Array AE) (h1:u=AA (.ref T)) (h2:T≠a) (h3:σ.h.get? T=AB) (h4:τ.W.M T/\¬τ.W.om T/\¬τ.W.F T) (h5:τ.h.get? T=AA oT) (h6:oT.data= .fields ts) (h7:ts[3]? =AA .none)
inductive Tr(σ τ:St)(v:AE):Prop
 |mk (a:AK) (o:BG) (vs:Array AE) (e:v= .ref a) (h1:σ.h.get? a=AB) (h2:τ.h.get? a=AA o) (h3:o.data= .fields vs) (tb:Tb σ τ a vs[1]?)
structure HB(σ τ:St)(c:CV)(v:AE):Prop where
 vv:V τ c v
 tr:Tr σ τ v
theorem Tb.after(st:Av X σ τ){a:AK}{u:Option AE}:Tb τ υ a u->Tb σ υ a u
 | .none h=> .none h
 | .some T oT ts h1 h2 h3 h4 h5 h6 h7=> .some T oT ts h1 h2 (st.back h3) h4 h5 h6 h7
theorem HB.after(st:Av X σ τ){c:CV}{v:AE}(h:HB τ υ c v):HB σ υ c v:=
 ⟨h.1,let⟨a,o,vs,h1,h2,h3,h4,h5⟩:=h.2;⟨a,o,vs,h1,st.back h2,h3,h4,h5.after st⟩⟩
section
variable{α β γ δ:Type}{rel:St->α->β->Prop}{rel':St->δ->γ->Prop}
noncomputable def VC(rel:St->α->β->Prop)(σ:St)(r:R α)(Q:β->AN->Prop):Prop:=∀a v τ,r= .ok a τ.o->Lt σ τ->Ok τ->rel τ a v->Q v τ.s
noncomputable def EC(σ:St)(r:R α)(E:AE->AN->Prop):Prop:=∀c v τ,r= .err c τ.o->Lt σ τ->Ok τ->HB σ τ c v->E v τ.s
noncomputable def Ev(m:Bool)(rel:St->α->β->Prop)(A:BZ)(t:Ao β)(σ:St)(r:R α):Prop:=r≠ .no->0<σ.s.toks->∀Q E,VC rel σ r Q->EC σ r E->wq m Ak A t Q E σ.s
variable{m:Bool}
theorem OD{t:Ao β}{Q:β->AN->Prop}{E:AE->AN->Prop}{s:AN}(h:wq m Ak A t (λa s'=>s.toks<=s'.toks->Q a s') E s):wq m Ak A t Q E s:=
 λΓ p CK hc=>gZ t s.toks (BL _) (OT Ak Γ t (λ_ _ _ h=>h) (λ_ _ s' h (_:s.toks<=s'.toks)=>h) p s (h Γ p CK hc))
noncomputable def R.bind(x:R α)(f:α->AL->R δ):R δ:=match x with
 | .ok a h=>f a h
 | .err e h=> .err e h
 | .no=> .no
theorem R.bind_ne{x:R α}{f:α->AL->R δ}(h:x.bind f≠ .no):x≠ .no:=λq=>h (by rw[q];rfl)
theorem EC.bind{r:R α}{f:α->AL->R δ}{E:AE->AN->Prop}(h:EC σ (r.bind f) E):EC σ r E:=λc v τ e=>h c v τ (by rw[e];rfl)
theorem EC.after{r:R α}{E:AE->AN->Prop}(h:EC σ r E)(st:Lt σ τ):EC τ r E:=λc v υ e s' ok x=>h c v υ e (st.trans s') ok (x.after st)
theorem VC.after{r:R α}{Q:β->AN->Prop}(h:VC rel σ r Q)(st:Lt σ τ):VC rel τ r Q:=λc v υ e s' ok x=>h c v υ e (st.trans s') ok x
theorem Ev.bind{t:Ao β}{f:β->Ao γ}{r:R α}{g:α->AL->R δ}(h:Ev m rel A t σ r)(k:∀a v τ,Lt σ τ->Ok τ->rel τ a v->Ev m rel' A (f v) τ (g a τ.o)):Ev m rel' A (t>>=f) σ (r.bind g):=λhn ht Q E hQ hE=>
 Bm (OD (h (R.bind_ne hn) ht _ _ (λa v τ e st ok x hle=>by subst e;exact k a v τ st ok x hn (CI ht hle) Q E (hQ.after st) (hE.after st)) hE.bind))
theorem Ev.of{t:Ao β}{r:R α}(h:r≠ .no->∀Q E,VC rel σ r Q->EC σ r E->Ac Ak A t Q E σ.s):Ev m rel A t σ r:=λhn _ Q E hQ hE=>wq.of (h hn Q E hQ hE)
theorem Ev.holding{t:Ao β}{r:R α}{vs:List AE}(h:Ev m rel A t σ r):Ev m rel A (HY vs t) σ r:=λhn ht Q E hQ hE=>UQ (h hn ht Q E hQ hE)
theorem Ev.stand{t:Ao β}{r:R α}{p:BK}(h:Ev m rel A t σ r):Ev m rel A (GI p>>=λ_=>t) σ r:=λhn ht Q E hQ hE=>Bm (UR (h hn ht Q E hQ hE))
theorem Ev.op{t:Ao AE}{rel:St->α->AE->Prop}{r:R α}{vs:List AE}(h:Ev m rel A t σ r):Ev m rel A (Oi vs t) σ r:=λhn ht Q E hQ hE Γ p h1 h2=>by rw[Sem.wp_operate];exact h hn ht Q E hQ hE Γ p h1 h2
theorem Ev.run{t:Ao β}{r:R α}{Q:β->AN->Prop}{E:AE->AN->Prop}(h:Ev m rel A t σ r)(hn:r≠ .no)(ht:0<σ.s.toks)(hQ:∀a v τ,r= .ok a τ.o->Lt σ τ->Ok τ->0<τ.s.toks->rel τ a v->Q v τ.s)(hE:EC σ r E):wq m Ak A t Q E σ.s:=
 OD (h hn ht _ _ (λa v τ e st ok x hle=>hQ a v τ e st ok (CI ht hle) x) hE)
theorem Ev.ret{a:α}{v:β}(ok:Ok σ)(h:rel σ a v):Ev m rel A (Ax v) σ (.ok a σ.o):=λ_ _ _ _ hQ _=>EM (hQ a v σ rfl (.refl ..) ok h)
end
noncomputable abbrev St.tk(σ:St)(t:Nat):St:={σ with s:={σ.s with toks:=t}}
theorem Av.tk(x:Av X σ τ)(t:Nat):Av X σ (τ.tk t):=⟨x.rho,x.mono,x.fresh,x.omf,x.ff,x.live,x.kept⟩
theorem GN.kp(k:Kp σ τ){o:CO}{p:AK×AK}(h1:∀ob,σ.h.get? p.1=AA ob->τ.h.get? p.1=AA ob)(h2:∀ob,σ.h.get? p.2=AA ob->τ.h.get? p.2=AA ob)(h:GN σ o p):GN τ o p:=by
 cases o with
 |list vs=>exact⟨h.1,h.2.imp λi h=>h.imp λn h=>⟨h1 _ h.1,k.vs _ h.2⟩⟩
 |dict ks vs=>exact⟨h.1,h.2.imp λb h=>h.imp λw h=>⟨h1 _ h.1,h.2.1.at h1,k.vs _ h.2.2⟩⟩
 |inst c fn f=>
  cases h with
  |mk b m a1 a2 a3 a4 a5 a6 a7=>
   refine⟨b,m,h1 _ a1,a2,a3,a4,a5,a6.imp λo h=>h.imp λes h=>h.imp λep h=>⟨h2 _ h.1,h.2⟩,?_⟩
   cases f with
   |none=>exact a7
   |some v=>exact a7.imp λu q=>⟨q.1,k.v _ q.2⟩
 |dead=>trivial
theorem Kp.tk(σ:St)(t:Nat):Kp σ (σ.tk t):=⟨λ_ _ h=>h,λ_ _ h=>h,λ_ _ _ h=>⟨h.1,h.2,h.3,h.4,let⟨o,vs,t,it,n,h1,h2,h3,h4,h5,h6⟩:=h.5;⟨o,vs,t,it,n,h1,h2,h3,h4,h5,h6⟩⟩⟩
theorem Ok.tk(x:Ok σ){t:Nat}:Ok (σ.tk t):=⟨x.len,x.dist,x.omM,x.FM,x.Mlt,x.keep,x.gens,x.os,λi o p h1 h2=>(x.rel i o p h1 h2).kp (Kp.tk σ t) (λ_ h=>h) λ_ h=>h⟩
section
variable{α β:Type}{rel:St->α->β->Prop}{Q:β->AN->Prop}{a:α}{v:β}{r:R α}
theorem VC.here(h:VC rel σ r Q)(e:r= .ok a σ.o)(ok:Ok σ)(x:rel σ a v):Q v σ.s:=h a v σ e (.refl ..) ok x
theorem VC.tk(h:VC rel σ r Q){t:Nat}(e:r= .ok a σ.o)(ok:Ok σ)(x:rel (σ.tk t) a v):Q v {σ.s with toks:=t}:=h a v (σ.tk t) e ((Av.refl ..).tk _) ok.tk x
end
noncomputable def Aj(m:Bool)(k:Nat)(q:Bool)(fx:Fx)(e:Ab)(d:D):Prop:=∀A env σ AI,BW A k q fx env σ AI->Ev m V A (B_ e env) σ (d AI σ.o)
noncomputable def BA(m:Bool)(k:Nat)(q:Bool)(t:List AE->Ao AE)(f:List CV->AL->R CV):Prop:=∀A σ cs vs,Bs A k q σ->Ok σ->Vs σ cs vs->Ev m V A (t vs) σ (f cs σ.o)
noncomputable def AF(i:Nat):D:=λAI objs=>match AI[i]? with
 |some (AA v)=> .ok v objs
 |_=> .no
noncomputable def AG(c:CV):D:=λ_ objs=> .ok c objs
noncomputable def AJ(f:List CV->AL->R CV)(a b:D):D:=λAI objs=>(a AI objs).bind λx h=>(b AI h).bind λy h'=>f [x,y] h'
noncomputable def NZ(f:List CV->AL->R CV)(a:D):D:=λAI objs=>(a AI objs).bind λx h=>f [x] h
theorem Vs.one{c:CV}{v:AE}(x:V σ c v):Vs σ [c] [v]:=⟨v,[],rfl,x,rfl⟩
theorem Vs.two{c d:CV}{v u:AE}(x:V σ c v)(y:V σ d u):Vs σ [c,d] [v,u]:=⟨v,_,rfl,x, .one y⟩
section
variable{m:Bool}{k:Nat}{q:Bool}{fx:Fx}{n:AQ}{pos:BK}{i:Nat}{e l r:Ab}{a b:D}{f:List CV->AL->R CV}{kd:Nat}
theorem be{v:CV}{AI:AY}{o:AL}(h:AI[i]? =AA (AA v)):AF i AI o= .ok v o:=by unfold AF;rw[h]
theorem bc{AI:AY}{o:AL}(h:AF i AI o≠ .no):∃v,AI[i]? =AA (AA v):=match e:AI[i]? with
 |some (AA v)=>⟨v,rfl⟩
 |some AB|none=>absurd (by unfold AF;rw[e]) h
theorem BM0(fo:Dp fx)(i:Nat)(hi:fx.sc[i]? =AA (.loc n)):Aj m k q fx (.Name n pos) (AF i):=λA env σ AI p=> .of λhn Q E hQ hE=>
 have lN:=fo.loc n (Dv hi)
 have⟨v,hv⟩:=bc hn
 have⟨mm,hm,hr⟩:=p.e.ns
 have⟨u,hu,Zx⟩:=hr i n v hi hv
 wpAny_Name (xh (by rw[p.e.scope];exact fo.kind) (by unfold LS;rw[p.e.scope];exact lN.1) hm hu (hQ.here (be hv) p.ok Zx)) lN.2
theorem BK5(fo:Dp fx)(i:Nat)(hi:fx.sc[i]? =AA (.cel n)):Aj m k q fx (.Name n pos) (AF i):=λA env σ AI p=> .of λhn Q E hQ hE=>
 have lQ:=fo.cel n (Dv hi)
 have⟨v,hv⟩:=bc hn
 have⟨c,u,h1,h2,h3⟩:=p.e.cel i n hi
 have⟨x,e,Zx⟩:=h3 v hv
 wpAny_Name (wpAny_loadName_cell (by rw[p.e.scope];exact fo.kind) (by unfold LS;rw[p.e.scope];exact lQ.1) h1 (e▸h2) (hQ.here (be hv) p.ok Zx)) lQ.2
theorem tL(fo:Dp fx){v:AE}(hl:fx.scope.names.lookup n=AA .globalImplicit)(hv:mg n=AA v)(hd:(n==("__debug__":AQ))=AD):Aj m k q fx (.Name n pos) (AG (.top v)):=λA env σ AI p=> .of λhn Q E hQ hE=>
 iX (by rw[p.e.scope];exact fo.kind) (by unfold LS;rw[p.e.scope];exact hl) (ww (by rw[p.e.globals];exact TF.g.keeps p.ok.keep) hv (hQ.here rfl p.ok rfl)) hd
theorem tK(fo:Dp fx){v:AE}(hl:fx.scope.names.lookup n=AA .globalImplicit)(hv:mg n=AB)(hb:ZE n=AA v)(hn:n≠"__name__")(hd:(n==("__debug__":AQ))=AD):Aj m k q fx (.Name n pos) (AG (.top v)):=λA env σ AI p=> .of λ_ Q E hQ hE=>
 have⟨mb,hB,VP⟩:=TF.b
 iX (by rw[p.e.scope];exact fo.kind) (by unfold LS;rw[p.e.scope];exact hl)
  (Calls.loadGlobal_builtin (by rw[p.e.globals];exact TF.g.keeps p.ok.keep) hv (by rw[p.e.builtins];exact hB.keeps p.ok.keep) ((VP n hn).trans hb) (hQ.here rfl p.ok rfl)) hd
theorem BM6:Aj m k q fx (.Constant .none kd pos) (AG .none):=λA env σ AI p=> .ret p.ok rfl
theorem BK2{b:Bool}:Aj m k q fx (.Constant (.bool b) kd pos) (AG (.bool b)):=λA env σ AI p=> .ret p.ok rfl
theorem BL9{i:Int}:Aj m k q fx (.Constant (.int i) kd pos) (AG (.int i)):=λA env σ AI p=> .of λhn Q E hQ hE=>
 wpAny_mkInt (hQ.tk rfl p.ok ⟨_,rfl⟩)
theorem BN7{x:AQ}{t:T}(e:x=AU t):Aj m k q fx (.Constant (.str x) kd pos) (AG (.str t)):=λA env σ AI p=> .of λhn Q E hQ hE=>
 jJ (hQ.tk rfl p.ok ⟨_,by rw[e]⟩)
theorem tJ{op:LU}(ha:Aj m k q fx l a)(hb:Aj m k q fx r b)(hf:BA m k q (λvs=>binaryOp op (vs.getD 0 .none) (vs.getD 1 .none)) f):Aj m k q fx (.BinOp l op r pos) (AJ f a b):=λA env σ AI p=>
 (ha _ _ _ _ p).bind λc v τ st ok h=>(hb _ _ _ _ (p.step st ok)).holding.bind λd u υ Bp A6 h'=> .stand (.op (hf _ _ _ [v,u] ((p.r.step st).step Bp) A6 (.two ((ok.kp Bp).v _ h) h')))
end
end
section
variable{X Y:AK->Prop}{σ τ υ:St}{A:BZ}{α β:Type}{m:Bool}{k:Nat}{q:Bool}
theorem Vs.len{cs:List CV}:∀{vs:List AE},Vs σ cs vs->cs.length=vs.length:=by
 induction cs with
 |nil=>intro vs h;cases h;rfl
 |cons c cs ih=>
  intro vs h
  obtain⟨v,r,rfl,_,b⟩:=h
  exact congrArg (·+1) (ih b)
theorem Vs.append{cs ds:List CV}{us:List AE}:∀{vs:List AE},Vs σ cs vs->Vs σ ds us->Vs σ (cs++ds) (vs++us):=by
 induction cs with
 |nil=>intro vs h y;cases h;exact y
 |cons c cs ih=>
  intro vs h y
  obtain⟨v,r,rfl,a,b⟩:=h
  exact⟨v,_,rfl,a,ih b y⟩
theorem Vs.get{cs:List CV}{c:CV}:∀{vs:List AE} {i:Nat},Vs σ cs vs->cs[i]? =AA c->∃v,vs[i]? =AA v/\V σ c v:=by
 induction cs with
 |nil=>exactλ{vs i} _ q=>Af q
 |cons d cs ih=>
  intro vs i h
  obtain⟨v,r,rfl,a,b⟩:=h
  cases i with
  |zero=>intro q;cases q;exact⟨v,rfl,a⟩
  |succ i=>exact ih (i:=i) b
theorem Vs.take{cs:List CV}:∀{vs:List AE} (i:Nat),Vs σ cs vs->Vs σ (cs.take i) (vs.take i):=by
 induction cs with
 |nil=>intro vs i h;cases h;cases i<;>rfl
 |cons d cs ih=>
  intro vs i h
  obtain⟨v,r,rfl,a,b⟩:=h
  cases i with
  |zero=>rfl
  |succ i=>exact⟨v,_,rfl,a,ih i b⟩
theorem Vs.drop{cs:List CV}:∀{vs:List AE} (i:Nat),Vs σ cs vs->Vs σ (cs.drop i) (vs.drop i):=by
 induction cs with
 |nil=>intro vs i h;cases h;cases i<;>rfl
 |cons d cs ih=>
  intro vs i h
  obtain⟨v,r,rfl,a,b⟩:=h
  cases i with
  |zero=>exact⟨v,r,rfl,a,b⟩
  |succ i=>exact ih i b
theorem Vs.replicate{cs:List CV}{vs:List AE}(x:Vs σ cs vs):∀n,Vs σ (Ep n cs).flatten (Ep n vs).flatten
 |0=>rfl
 |n+1=>x.append (x.replicate n)
noncomputable abbrev St.push(σ:St)(o:BG)(t:Nat):St:={σ with s:={σ.s with heap:=σ.s.heap.push o,toks:=t}}
theorem Av.push(o:BG)(t:Nat):Av X σ (σ.push o t):=
 ⟨⟨[],(BJ _).symm⟩,λ_ h=>h,λ_ h=> .inl h,λ_ h=> .inl h,λ_=>Fh,λ_ o' h=>⟨o',CW o h⟩,λ_ o' h _ _=>⟨λ_=>CW o h,o'.slots,CW o h⟩⟩
theorem Ok.push(x:Ok σ)(o:BG)(t:Nat):Ok (σ.push o t):=
 have p:∀{a o'},σ.h.get? a=AA o'->(σ.push o t).h.get? a=AA o':=λh=>CW o h
 ⟨x.len,x.dist,x.omM,λa h=>⟨(x.FM a h).1,(x.FM a h).2.imp λ_ h=>h.imp λ_ h=>h.imp λ_ h=>⟨p h.1,h.2⟩⟩,λa h=>⟨(x.Mlt a h).1.imp λ_ h=>p h,(x.Mlt a h).2⟩,λb o' h=>p (x.keep b o' h),x.gens,x.os,λi o' q h1 h2=>(x.rel i o' q h1 h2).kp (x.kp (Av.push o t)) (λ_ h=>p h) λ_ h=>p h⟩
theorem Ok.notM(x:Ok σ):¬σ.W.M σ.h.objs.size:=λh=>(x.Mlt _ h).1.elim λ_ h'=>Eu _ (Ew h')
theorem VC.newTup{r:R CV}{Q:AE->AN->Prop}(h:VC V σ r Q){cs:List CV}{vs:List AE}{t:Nat}(ok:Ok σ)(hv:Vs σ cs vs)(e:r= .ok (.tup cs) σ.o):
  Q (.ref σ.h.objs.size) {σ.s with heap:=σ.s.heap.push {cls:= .type "tuple",data:= .seq vs.toArray},toks:=t}:=
 h _ _ (σ.push _ t) e (.push _ _) (ok.push _ _) ⟨_,_,rfl,⟨_,CQ _ rfl,ok.notM⟩,(ok.kp (.push _ t)).vs _ hv⟩
theorem VC.newLst{r:R CV}{Q:AE->AN->Prop}(h:VC V σ r Q){cs:List CV}{vs:List AE}{t:Nat}(ok:Ok σ)(hv:Vs σ cs vs)(e:r= .ok (.lst cs) σ.o):
  Q (.ref σ.h.objs.size) {σ.s with heap:=σ.s.heap.push {cls:= .type "list",data:= .seq vs.toArray},toks:=t}:=
 h _ _ (σ.push _ t) e (.push _ _) (ok.push _ _) ⟨_,_,rfl,⟨_,CQ _ rfl,ok.notM⟩,(ok.kp (.push _ t)).vs _ hv⟩
noncomputable def Eb(X:AL->CV->Option α)(F:α->AL->R CV)(cs:List CV)(o:AL):R CV:=match cs with
 |[x]=>(X o x).elim .no λa=>F a o
 |_=> .no
noncomputable def BN(X:AL->CV->Option α)(Y:AL->CV->Option β)(F:α->β->AL->R CV)(cs:List CV)(o:AL):R CV:=match cs with
 |[x,y]=>(X o x).elim .no λa=>(Y o y).elim .no λb=>F a b o
 |_=> .no
noncomputable def BP(f g:List CV->AL->R CV)(cs:List CV)(o:AL):R CV:=match f cs o with
 | .no=>g cs o
 |r=>r
theorem Ev.ite{rel:St->α->β->Prop}{t:Ao β}{r:R α}{c:Prop}[Decidable c](h:c->Ev m rel A t σ r):Ev m rel A t σ (if c then r else .no):=by
 by_cases e:c
 ·rw[if_pos e];exact h e
 ·rw[if_neg e];exactλz=>absurd rfl z
theorem Ev.no{rel:St->α->β->Prop}{t:Ao β}{P:Prop}{r:R α}(e:r= .no):Ev m rel A t σ r:=λz=>absurd e z
theorem HG{x:Option α}{f:α->R β}(h:x.elim .no f≠ .no):∃a,x=AA a:=match x,h with
 |some a,_=>⟨a,rfl⟩
 |none,h=>absurd rfl h
theorem A13{X:AL->CV->Option α}{F:α->AL->R CV}{cs:List CV}{o:AL}(h:Eb X F cs o≠ .no):∃x a,cs=[x]/\X o x=AA a/\Eb X F cs o=F a o:=match cs,h with
 |[x],h=>(HG h).elim λa e=>⟨x,a,rfl,e,by show(X o x).elim _ _=_;rw[e];rfl⟩
 |[],h|_::_::_,h=>absurd rfl h
theorem rT{X:AL->CV->Option α}{Y:AL->CV->Option β}{F:α->β->AL->R CV}{cs:List CV}{o:AL}(h:BN X Y F cs o≠ .no):∃x y a b,cs=[x,y]/\X o x=AA a/\Y o y=AA b/\BN X Y F cs o=F a b o:=match cs,h with
 |[x,y],h=>(HG h).elim λa e=>(HG (x:=Y o y) λz=>h (by show(X o x).elim _ _=_;rw[e];exact z)).elim λb e'=>⟨x,y,a,b,rfl,e,e',by show(X o x).elim _ _=_;rw[e];show(Y o y).elim _ _=_;rw[e'];rfl⟩
 |[],h|[_],h|_::_::_::_,h=>absurd rfl h
noncomputable def Vw(X:AL->CV->Option α)(rel:St->α->AE->Prop):Prop:=∀{σ c a v},Ok σ->X σ.o c=AA a->V σ c v->rel σ a v
variable{t:List AE->Ao AE}
theorem BA.on1{X:AL->CV->Option α}{rX:St->α->AE->Prop}{F:α->AL->R CV}(hX:Vw X rX)(h:∀A σ a u,Bs A k q σ->Ok σ->rX σ a u->Ev m V A (t [u]) σ (F a σ.o)):BA m k q t (Eb X F):=λA σ cs vs hR ok hv hn ht=>by
 refine B7 (A13 hn) λx a aO=>?_
 obtain rfl:=aO.1
 refine B7 (hv) λu _ aP=>?_
 obtain rfl:=aP.1
 obtain rfl:=aP.2.2
 rw[aO.2.2]at hn⊢
 exact h A σ a u hR ok (hX ok aO.2.1 aP.2.1) hn ht
theorem BA.on2{X:AL->CV->Option α}{Y:AL->CV->Option β}{rX:St->α->AE->Prop}{rY:St->β->AE->Prop}{F:α->β->AL->R CV}(hX:Vw X rX)(hY:Vw Y rY)(h:∀A σ a b u v,Bs A k q σ->Ok σ->rX σ a u->rY σ b v->Ev m V A (t [u,v]) σ (F a b σ.o)):BA m k q t (BN X Y F):=λA σ cs vs hR ok hv hn ht=>by
 refine YS (rT hn) λx y a b V4=>?_
 obtain rfl:=V4.1
 obtain⟨u,_,rfl,hu,v,_,rfl,hv,rfl⟩:=hv
 rw[V4.2.2.2]at hn⊢
 exact h A σ a b u v hR ok (hX ok V4.2.1 hu) (hY ok V4.2.2.1 hv) hn ht
theorem BA.alt{f g:List CV->AL->R CV}(hf:BA m k q t f)(hg:BA m k q t g):BA m k q t (BP f g):=λA σ cs vs hR ok hv hn ht=>by
 have h1:=hf A σ cs vs hR ok hv
 unfold Mine.BP at hn⊢
 cases e:f cs σ.o with
 |no=>rw[e]at hn;exact hg A σ cs vs hR ok hv hn ht
 |ok=>rw[e]at h1;exact h1 (by intro h;cases h) ht
 |err=>rw[e]at h1;exact h1 (by intro h;cases h) ht
theorem Am{α:Type}{p:α->Prop}:∀a,(AB:Option α)=AA a->p a:=(by intro _ h;cases h)
theorem CV.only{α:Type}{f:CV->Option α}{P:CV->α->Prop}{c:CV}{a:α}(h:f c=AA a)(n:∀a,f .none=AA a->P .none a)(b:∀x a,f (.bool x)=AA a->P (.bool x) a)(i:∀x a,f (.int x)=AA a->P (.int x) a)
  (s:∀x a,f (.str x)=AA a->P (.str x) a) (t:∀x a,f (.tup x)=AA a->P (.tup x) a) (l:∀x a,f (.lst x)=AA a->P (.lst x) a) (d:∀x y a,f (.dct x y)=AA a->P (.dct x y) a)
  (o:∀x a,f (.obj x)=AA a->P (.obj x) a) (p:∀x a,f (.top x)=AA a->P (.top x) a) (e:∀x y a,f (.exc x y)=AA a->P (.exc x y) a) (m:∀a,f .mat=AA a->P .mat a)
  (r:∀x a,f (.rng x)=AA a->P (.rng x) a) (it:∀x y a,f (.itm x y)=AA a->P (.itm x y) a) (vl:∀x y a,f (.vls x y)=AA a->P (.vls x y) a):P c a:=by
 cases c
 ·exact n a h
 ·exact b _ a h
 ·exact i _ a h
 ·exact s _ a h
 ·exact t _ a h
 ·exact l _ a h
 ·exact d _ _ a h
 ·exact o _ a h
 ·exact p _ a h
 ·exact e _ _ a h
 ·exact m a h
 ·exact r _ a h
 ·exact it _ _ a h
 ·exact vl _ _ a h
theorem QP{α:Type}{c:Prop}[Decidable c]{x:Option α}{a:α}(h:(if c then x else AB)=AA a):c/\x=AA a:=by
 by_cases e:c
 ·exact⟨e,(if_pos e).symm.trans h⟩
 ·exact absurd ((if_neg e).symm.trans h) (by intro h;cases h)
noncomputable def Bq(_:AL)(c:CV):Option Int:=DX c AB (zi:=λi=>AA i)
noncomputable def BX(_:AL)(c:CV):Option T:=DX c AB (zs:=λi=>AA i)
noncomputable def H9(_:AL)(c:CV):Option (List CV):=DX c AB (zt:=λi=>AA i)
noncomputable def bA(_:AL)(c:CV):Option (List CV):=DX c AB (zt:=λx=>match x with
  |a::as=>AA (a::as)
  |_=>AB)
noncomputable def EI:CO->Option (List CV)
 | .list vs=>AA vs
 |_=>AB
noncomputable def Cj(objs:AL)(c:CV):Option (List CV):=DX c AB (zl:=λvs=>AA vs) (zo:=λi=>objs[i]?.bind EI)
theorem vI:Vw Bq λσ i=>V σ (.int i):=λ{σ c a v} _ e=>CV.only (f:=Bq σ.o) (P:=λc a=>V σ c v->V σ (.int a) v) e Am (λ_=>Am) (λ_ _ e h=>CU e▸h) (λ_=>Am) (λ_=>Am) (λ_=>Am) (λ_ _=>Am) (λ_=>Am) (λ_=>Am) (λ_ _=>Am) Am (λ_=>Am) (λ_ _=>Am) (λ_ _=>Am)
theorem vS:Vw BX λσ i=>V σ (.str i):=λ{σ c a v} _ e=>CV.only (f:=BX σ.o) (P:=λc a=>V σ c v->V σ (.str a) v) e Am (λ_=>Am) (λ_=>Am) (λ_ _ e h=>CU e▸h) (λ_=>Am) (λ_=>Am) (λ_ _=>Am) (λ_=>Am) (λ_=>Am) (λ_ _=>Am) Am (λ_=>Am) (λ_ _=>Am) (λ_ _=>Am)
theorem vT:Vw H9 λσ i=>V σ (.tup i):=λ{σ c a v} _ e=>CV.only (f:=H9 σ.o) (P:=λc a=>V σ c v->V σ (.tup a) v) e Am (λ_=>Am) (λ_=>Am) (λ_=>Am) (λ_ _ e h=>CU e▸h) (λ_=>Am) (λ_ _=>Am) (λ_=>Am) (λ_=>Am) (λ_ _=>Am) Am (λ_=>Am) (λ_ _=>Am) (λ_ _=>Am)
inductive WE(σ:St)(cs:List CV)(v:AE):Prop
 |mk (l:AK) (ws:List AE) (n:Nat) (e:v= .ref l) (h:σ.h.get? l=AA (Dk ws.toArray n)) (x:Vs σ cs ws)
theorem Ok.obj(ok:Ok σ){i:Nat}{o:CO}{v:AE}(h:V σ (.obj i) v)(e:σ.o[i]? =AA o):∃p,v= .ref p.1/\σ.W.ρ[i]? =AA p/\GN σ o p:=h.imp λp h=>⟨h.2,h.1,ok.rel i o p e h.1⟩
theorem vL:Vw Cj WE:=λ{σ c a v} ok e h=>by
 cases c with
 |lst vs=>cases e;obtain⟨l,ws,rfl,⟨n,hp⟩,hv⟩:=h;exact⟨l,ws,n,rfl,hp.1,hv⟩
 |obj i=>
  obtain⟨o,e1,e2⟩:=C5.mp e
  obtain⟨p,rfl,_,hr⟩:=ok.obj h e1
  cases o<;>cases e2
  obtain⟨_,ws,n,h1,h2⟩:=hr
  exact⟨p.1,ws,n,rfl,h1,h2⟩
 |_=>first|exact Af e|cases e
noncomputable abbrev Ah:Nat:=16777216
theorem At2:Ah=FI:=rfl
noncomputable def B1(i:Int):Bool:=i.natAbs<1073741824
theorem qy(a b:T):AU a++AU b=AU (a++b):=congrArg Str.mk (by simp)
noncomputable abbrev II(op:LU):List AE->Ao AE:=λvs=>binaryOp op (vs.getD 0 .none) (vs.getD 1 .none)
noncomputable def Ai:List CV->AL->R CV:=
 BP (BN Bq Bq λa b o=> .ok (.int (a+b)) o) (BP (BN BX BX λa b o=>if a.length+b.length<=Ah then .ok (.str (a++b)) o else .no)
  (BP (BN bA bA λa b o=>if a.length+b.length<=Ah then .ok (.tup (a++b)) o else .no) (BN Cj Cj λa b o=>if a.length+b.length<=Ah then .ok (.lst (a++b)) o else .no)))
theorem uW:Vw bA λσ i v=>i≠[]/\V σ (.tup i) v:=λ{σ c a v} _ e h=>by
 cases c with
 |tup l=>cases l<;>cases e;exact⟨(by intro h;cases h),h⟩
 |_=>first|exact Af e|cases e
theorem A49:BA m k q (II .Add) Ai:=
 .alt (.on2 vI vI λA σ a b u v _ ok h h'=> .of λ_ Q E hQ _=>by obtain⟨t,rfl⟩:=h;obtain⟨t',rfl⟩:=h';exact PyProof.Rows.add_int (hQ.tk rfl ok ⟨_,rfl⟩))
 (.alt (.on2 vS vS λA σ a b u v _ ok h h'=> .ite λhl=> .of λ_ Q E hQ _=>by
   obtain⟨t,rfl⟩:=h;obtain⟨t',rfl⟩:=h'
   exact PyProof.Rows.add_str (λKb tk=>by rw[qy];exact hQ.tk rfl ok ⟨_,rfl⟩) hl)
 (.alt (.on2 uW uW λA σ a b u v _ ok h h'=> .ite λhl=> .of λ_ Q E hQ _=>by
   obtain⟨n1,x,ws,rfl,⟨n,hx⟩,h1⟩:=h
   obtain⟨n2,y,us,rfl,⟨m,hy⟩,h2⟩:=h'
   refine P.add_tuple hx.1 hy.1 (λe=>n1 ?_) (λe=>n2 ?_) ?_ ?_
   ·exact Gy.mp (h1.len.trans (by simpa using e))
   ·exact Gy.mp (h2.len.trans (by simpa using e))
   ·rw[gz];exact hQ.newTup ok (h1.append h2) rfl
   ·simp only[DC,DC,<-h1.len,<-h2.len];exact hl)
 (.on2 vL vL λA σ a b u v _ ok h h'=> .ite λhl=> .of λ_ Q E hQ _=>by
   obtain⟨x,ws,n,rfl,hx,h1⟩:=h
   obtain⟨y,us,m,rfl,hy,h2⟩:=h'
   refine P.add_list hx hy ?_ ?_
   ·rw[gz];exact hQ.newLst ok (h1.append h2) rfl
   ·simp only[DC,DC,<-h1.len,<-h2.len];exact hl)))
end
section
variable{X Y:AK->Prop}{σ τ υ:St}{A:BZ}{α β:Type}{m:Bool}{k:Nat}{q:Bool}
theorem qY{i:Int}{n:Nat}(h:i.natAbs<n): -(n:Int)<i/\i<n:=by
 cases i with
 |ofNat k=>exact⟨Yc (u9 (J0.mpr (Bg (D2 _) h))) (Fi k),J0.mpr h⟩
 |negSucc k=>exact⟨by rw[u6];exact u7 (J0.mpr h),Yc (Int.negSucc_lt_zero k) (Fi n)⟩
theorem m7{i:Int}(h:B1 i=AC):Builtin.Int.intBits i<=64:=by
 have h:=of_decide_eq_true h
 exact intBits_le_64 (IS (by decide) (qY h).1) (IS (qY h).2 (by decide))
noncomputable def TX:List CV->AL->R CV:=BN Bq Bq λa b o=> .ok (.int (a - b)) o
noncomputable def EJ:List CV->AL->R CV:=BN Bq Bq λa b o=>if(b !=0&&B1 b)=AC then .ok (.int (a.fdiv b)) o else .no
noncomputable def fI:List CV->AL->R CV:=BN Bq Bq λa b o=>if(b !=0)=AC then .ok (.int (a.fmod b)) o else .no
noncomputable def LB:List CV->AL->R CV:=BN Bq Bq λa n o=>if(decide (0<=n)&&decide (n<=1000)&&B1 a)=AC then .ok (.int (a^n.toNat)) o else .no
noncomputable def MI:List CV->AL->R CV:=Eb Bq λa o=> .ok (.int (-a)) o
theorem A68:BA m k q (II .Sub) TX:= .on2 vI vI λA σ a b u v _ ok ⟨t,h⟩ ⟨t',h'⟩=> .of λ_ Q E hQ _=>by subst h h';exact PyProof.Rows.sub_int (hQ.tk rfl ok ⟨_,rfl⟩)
theorem A50:BA m k q (II .FloorDiv) EJ:= .on2 vI vI λA σ a b u v _ ok ⟨t,h⟩ ⟨t',h'⟩=> .ite λhc=> .of λ_ Q E hQ _=>by
 subst h h';rw[MR]at hc
 exact PyProof.Rows.floordiv_int (ne_of_beq_false (YX _▸hc.1)) (hQ.tk rfl ok ⟨_,rfl⟩) (.inl (PyProof.noPylong_small (of_decide_eq_true hc.2)))
theorem A60:BA m k q (II .Mod) fI:= .on2 vI vI λA σ a b u v _ ok ⟨t,h⟩ ⟨t',h'⟩=> .ite λhc=> .of λ_ Q E hQ _=>by
 subst h h'
 exact PyProof.Rows.mod_int' (ne_of_beq_false (YX _▸hc)) (hQ.tk rfl ok ⟨_,rfl⟩)
theorem A67:BA m k q (II .Pow) LB:= .on2 vI vI λA σ a b u v _ ok ⟨t,h⟩ ⟨t',h'⟩=> .ite λhc=> .of λ_ Q E hQ _=>by
 subst h h';simp only[MR,decide_eq_true_eq,B1]at hc
 exact PyProof.Rows.pow_int_small hc.1.1 (OF hc.1.2 (by decide)) (C4 hc.2 (by decide)) (hQ.tk rfl ok ⟨_,rfl⟩)
theorem A65:BA m k q (λvs=>unaryOp .USub (vs.getD 0 .none)) MI:= .on1 vI λA σ a u _ ok ⟨t,h⟩=> .of λ_ Q E hQ _=>by subst h;exact PyProof.Rows.neg_int (hQ.tk rfl ok ⟨_,rfl⟩)
noncomputable def B5{K α:Type}[DecidableEq K]:List K->List α->K->Option α
 |k::ks,v::vs,x=>if k=x then AA v else B5 ks vs x
 |_,_,_=>AB
noncomputable def NQ(f:CV->CV->Option Bool)(CB:List T)(Gi:List CV):List T->List CV->Option Bool
 |k::ks,v::vs=>((B5 CB Gi k).elim (AA AD) (f v)).bind λe=>(NQ f CB Gi ks vs).map (e&&·)
 |_,_=>AA AC
noncomputable def AS8(f:CV->CV->Option Bool)(k:DK)(vs:List CV)(k':DK)(Gi:List CV):Option Bool:=match k with
 | .s ks=>match k' with
  | .s CB=>(NQ f CB Gi ks vs).map (ks.length==CB.length&&·)
  |_=>AB
 |_=>AB
noncomputable def Ei(f:CV->CV->Option Bool):List CV->List CV->Option Bool
 |[],[]=>AA AC
 |x::xs,y::ys=>(f x y).bind λa=>(Ei f xs ys).bind λb=>AA (a&&b)
 |_,_=>AA AD
noncomputable def Bz:Nat->CV->CV->Option Bool
 |0,_,_=>AB
 |n+1,x,y=>match x with
  | .int a=>match y with
   | .int b=>AA (a==b)
   | .none=>AA AD
   |_=>AB
  | .str a=>match y with
   | .str b=>AA (a==b)
   | .none=>AA AD
   |_=>AB
  | .none=>match y with
   | .none=>AA AC
   | .int _| .str _| .tup _=>AA AD
   |_=>AB
  | .bool a=>match y with
   | .bool b=>AA (a==b)
   |_=>AB
  | .tup a=>match y with
   | .tup b=>Ei (Bz n) a b
   | .none=>AA AD
   |_=>AB
  | .lst a=>match y with
   | .lst b=>Ei (Bz n) a b
   |_=>AB
  | .dct k vs=>match y with
   | .dct k' Gi=>AS8 (Bz n) k vs k' Gi
   |_=>AB
  |_=>AB
inductive CE(n:Nat):CV->CV->Bool->Prop
 |none:CE n .none .none AC
 |int (a b:Int):CE n (.int a) (.int b) (a==b)
 |str (a b:T):CE n (.str a) (.str b) (a==b)
 |bool (a b:Bool):CE n (.bool a) (.bool b) (a==b)
 |tup {a b:List CV} {c:Bool} (h:Ei (Bz n) a b=AA c):CE n (.tup a) (.tup b) c
 |lst {a b:List CV} {c:Bool} (h:Ei (Bz n) a b=AA c):CE n (.lst a) (.lst b) c
 |dct {ks CB:List T} {vs Gi:List CV} {c:Bool} (h:NQ (Bz n) CB Gi ks vs=AA c):CE n (.dct (.s ks) vs) (.dct (.s CB) Gi) (ks.length==CB.length&&c)
 |ni (a:Int):CE n .none (.int a) AD
 |in_ (a:Int):CE n (.int a) .none AD
 |ns (a:T):CE n .none (.str a) AD
 |sn (a:T):CE n (.str a) .none AD
 |nt (a:List CV):CE n .none (.tup a) AD
 |tn (a:List CV):CE n (.tup a) .none AD
theorem ce:∀{n:Nat} {x y:CV} {c:Bool},Bz n x y=AA c->∃m,n=m+1/\CE m x y c
 |n+1,x,y,c,h=>⟨n,rfl,by
  cases x with
  |int=>cases y with
   |int=>cases h;exact .int ..
   |none=>cases h;exact .in_ _
   |_=>first|exact Af h|exact nomatch h
  |str=>cases y with
   |str=>cases h;exact .str ..
   |none=>cases h;exact .sn _
   |_=>first|exact Af h|exact nomatch h
  |bool=>cases y with
   |bool=>cases h;exact .bool ..
   |_=>first|exact Af h|exact nomatch h
  |tup=>cases y with
   |tup=>exact .tup h
   |none=>cases h;exact .tn _
   |_=>first|exact Af h|exact nomatch h
  |lst=>cases y with
   |lst=>exact .lst h
   |_=>first|exact Af h|exact nomatch h
  |dct k=>cases y with
   |dct k'=>
    cases k with
    |s=>cases k' with
     |s=>obtain⟨c,h',rfl⟩:=DD.mp h;exact .dct h'
     |i=>first|exact Af h|exact nomatch h
    |i=>first|exact Af h|exact nomatch h
   |_=>first|exact Af h|exact nomatch h
  |none=>cases y with
   |int=>cases h;exact .ni _
   |str=>cases h;exact .ns _
   |tup=>cases h;exact .nt _
   |none=>cases h;exact .none
   |_=>first|exact Af h|exact nomatch h
  |_=>first|exact Af h|exact nomatch h⟩
end
section
variable{X Y:AK->Prop}{σ τ υ:St}{A:BZ}{α β γ:Type}{m:Bool}{k:Nat}{q:Bool}
section
theorem GV{l:List α}{i:Nat}{x:α}(h:l[i]? =AA x):i<l.length:=(Gb.mp h).1
theorem Nt{a b:T}(h:AU a=AU b):a=b:=congrArg (λx=>x.cps.toList) h
theorem eW(a b:T):(AU a==AU b)=(a==b):=by
 rw[Qb,beq_iff_eq,beq_iff_eq]
 exact⟨Nt,λh=>by rw[h]⟩
inductive OV(σ:St):Option CV->Option AE->Prop
 |none:OV σ AB AB
 |some {c v} (h:V σ c v):OV σ (some c) (some v)
theorem OV.get{c:CV}{u:Option AE}(h:OV σ (AA c) u):∃v,u=AA v/\V σ c v:=by cases h with|some h=>exact⟨_,rfl,h⟩
theorem OV.isSome{o:Option CV}{u:Option AE}(h:OV σ o u):u.isSome=o.isSome:=by cases h<;>rfl
theorem eM{K:Type}[DecidableEq K]{ks:List K}:∀{cs:List CV} {ws:List AE},Vs σ cs ws->∀x:K,OV σ (B5 ks cs x) (B5 ks ws x):=by
 induction ks with
 |nil=>exactλ{cs ws} _ _=> .none
 |cons k ks ih=>
  intro cs ws h x
  cases cs with
  |nil=>cases h;exact .none
  |cons c cs=>
   obtain⟨v,r,rfl,a,b⟩:=h
   show OV σ (if k=x then AA c else B5 ks cs x) (if k=x then AA v else B5 ks r x)
   by_cases e:k=x
   ·rw[if_pos e,if_pos e];exact .some a
   ·rw[if_neg e,if_neg e];exact ih b x
inductive SE(h:BS)(a:AK)(ks:List T)(ws:List AE):Prop
 |mk (o:BG) (es:Array GF) (ep:Nat) (h1:h.get? a=AA o) (h2:o.cls= .type "dict") (h3:o.data= .dict es ep) (hl:es.size=ks.length) (Mq:∀(i:Nat) e,es[i]? =AA e->∃k t,ks[i]? =AA k/\ws[i]? =AA e.val/\e.key= .str (AU k) t) (hw:ks.length=ws.length) (nd:ks.Nodup) (hs:(a==Lc)=AD)
theorem SE.len{h:BS}{a:AK}{ks:List T}{ws:List AE}:SE h a ks ws->ks.length=ws.length
 |⟨_,_,_,_,_,_,_,_,hw,_,_⟩=>hw
theorem A30{K:Type}[DecidableEq K]{knd:PySem.KeyKind pE w K}{es:List GF}{BO:List (K×AE)}(h:Pairs knd es BO):∀(i:Nat) e,es[i]? =AA e->∃kv,BO[i]? =AA kv/\knd.is kv.1 e.key=AC/\e.val=kv.2:=by
 induction h with
 |nil=>exactλi e h=>by cases h
 |cons h1 h2 _ ih=>
  intro i e h
  cases i with
  |zero=>cases h;exact⟨_,rfl,h1,h2⟩
  |succ i=>exact ih i e h
theorem UA{h:BS}{a:AK}{ks:List T}{ws:List AE}(x:Do h a (.s ks) ws):SE h a ks ws:=by
 obtain⟨hs,⟨o,es,ep,g1,g2,g3,g4,g5,g6⟩,hl⟩:=x
 refine⟨o,es,ep,g1,g2.1,g3,?_,λi e he=>?_,hl,?_,hs⟩
 ·have:=g5.length
  rw[J2,Ay,<-hl,LP]at this
  exact this
 ·rw[<-Jz]at he
  obtain⟨kv,h1,h2,h3⟩:=A30 g5 i e he
  rw[Ql,Cm]at h1
  obtain⟨k',y2,e1⟩:=DD.mp h1.1
  obtain⟨t,ht⟩:=xY h2
  exact⟨k',t,y2,h3▸h1.2,e1▸ht⟩
 ·rw[Yn (by rw[Ay];exact BR hl)]at g6
  exact(Ys.mp g6).imp λh e=>h (congrArg AU e)
theorem p8{k:T}:∀{ks:List T} {vs:List α},ks.length=vs.length->B5 ks vs k=(ks.findIdx? (·==k)).bind (λj=>vs[j]?):=λ{ks}=>by
 induction ks with
 |nil=>intros;rfl
 |cons x ks ih=>
  intro vs h
  cases vs with
  |nil=>first|exact Af h|cases h
  |cons v vs=>
   rw[vf]
   show(if x=k then AA v else B5 ks vs k)=_
   by_cases hx:x=k
   ·rw[if_pos hx,beq_iff_eq.mpr hx];rfl
   ·rw[if_neg hx,beq_eq_false_iff_ne.mpr hx,ih (Hw h)]
    cases ks.findIdx? (·==k)<;>rfl
theorem Aq0{k:T}{ks:List T}{vs:List α}(nd:ks.Nodup)(hl:ks.length=vs.length){i:Nat}(h:ks[i]? =AA k):B5 ks vs k=vs[i]?:=by
 rw[p8 hl]
 obtain⟨hi,e⟩:=Gb.mp h
 have hf:ks.findIdx? (·==k)=AA i:=g9.mpr ⟨hi,beq_iff_eq.mpr e,λj hj q=>(iG.mp nd j i (C4 hj hi) hi hj) ((beq_iff_eq.mp q).trans e.symm)⟩
 rw[hf];rfl
section
variable{P':Fk}{w':C6}{E:AE->AN->Prop}{s:AN}{a b:AK}{ks CB:List T}{ws Fw:List AE}
theorem SE.find(y:SE s.heap b CB Fw){k:T}{t:Cg}{CZ:Int}{Q:Option Nat->AN->Prop}(hq:Q (CB.findIdx? (·==k)) s):Ac (Bo P' w') A (dictFind b (.str (AU k) t) CZ) Q E s:=by
 obtain⟨o,es,ep,h1,h2,h3,hl,Mq,hw,nd,hs⟩:=y
 refine KTD.kt_dictFind_strs h1 h3 (Array.all_eq_true.mpr λi hi=>?_) ?_
 ·obtain⟨_,t',_,_,e⟩:=Mq i _ (Gx hi)
  rw[e];rfl
 ·have e:es.findIdx? (λe=>e.key.isStr (AU k))=CB.findIdx? (·==k):=by
   have e1:es.toList.map (·.key.isStr (AU k))=CB.map (·==k):=Qi λi=>by
    simp only[Cm,Cm,Jz]
    cases he:es[i]? with
    |none=>rw[Ga (hl▸gj.mp he)];rfl
    |some e=>
     obtain⟨k2,t',h4,_,h5⟩:=Mq i e he
     simp only[h4]
     show AA (e.key.isStr (AU k))=AA (k2==k)
     rw[h5]
     exact congrArg AA (eW k2 k)
   have e2:∀{β:Type} (l:List β) (p:β->Bool),l.findIdx? p=(l.map p).findIdx? id:=λl p=>by simp only[List.findIdx?_map];rfl
   rw[show es.findIdx? (λe=>e.key.isStr (AU k))=es.toList.findIdx? (λe=>e.key.isStr (AU k))from(List.findIdx?_toArray ..),e2,e1,<-e2]
  rw[e];exact hq
theorem SE.same(x:SE s.heap a ks ws)(y:SE s.heap a CB Fw):ks=CB/\ws=Fw:=by
 obtain⟨o,es,ep,h1,h2,h3,hl,Mq,hw,nd,hs⟩:=x
 obtain⟨o',Lf,RP,g1,g2,g3,gl,ZW,gw,yJ,gs⟩:=y
 cases D0 h1 g1
 have e:=h3.symm.trans g3
 injection e with e
 subst e
 have both:∀i:Nat,ks[i]? =CB[i]?/\ws[i]? =Fw[i]?:=λi=>by
  cases he:es[i]? with
  |none=>
   have hle:=gj.mp he
   rw[Ga (hl▸hle),Ga (gl▸hle),Ga (hw▸hl▸hle),Ga (gw▸gl▸hle)]
   exact⟨rfl,rfl⟩
  |some e=>
   obtain⟨k,t,e1,e2,e3⟩:=Mq i e he
   obtain⟨k',t',f1,f2,f3⟩:=ZW i e he
   rw[e3]at f3
   injection f3 with f3
   rw[e1,f1,Nt f3]
   exact⟨rfl,e2.trans f2.symm⟩
 exact⟨Qi λi=>(both i).1,Qi λi=>(both i).2⟩
theorem SE.walk(x:SE s.heap a ks ws)(y:SE s.heap b CB Fw){g:Nat->Bool}(hg:ks.length=CB.length->∀(i:Nat) k v,ks[i]? =AA k->ws[i]? =AA v->B5 CB Fw k=AB/\g i=AD\/∃u,B5 CB Fw k=AA u/\LV A s v u (g i)){id:String}{Q:Bool->AN->Prop}
  (hq:Q (ks.length==CB.length&&(Eo ks.length).all g) s):Ac (Bo P' w') A (wg id a b) Q E s:=by
 obtain⟨o,es,ep,h1,h2,h3,hl,Mq,hw,nd,hs⟩:=x
 have y0:=y
 obtain⟨o',Lf,RP,g1,g2,g3,gl,ZW,gw,yJ,gs⟩:=y
 unfold wg Builtin.Dict.showsAll
 rw[hs,gs]
 refine AR (Aa (AR (Aa (AR (ZP h1 h3 (AR (ZP g1 g3 ?_)))))))
 rw[hl,gl]
 by_cases B3:ks.length=CB.length
 case neg=>
  rw[beq_eq_false_iff_ne.mpr B3]at hq
  refine MQ (bne_iff_ne.mpr B3) ?_
  exact AR (Hb (Aa hq))
 case pos=>
  have hg:=hg B3
  rw[beq_iff_eq.mpr B3,YY]at hq
  refine QX (by rw[bne_iff_ne];exactλh=>h B3) ?_
  refine AR (wpAny_dictEpoch h1 h3 (AR ?_))
  rw[iu]
  refine wpAny_forIn_list _ (λrest q s'=>s'=s/\q=(AB,())/\∃i,rest=iH i (ks.length - i)/\(Eo ks.length).all g=rest.all g) _ ?_ ?_ _ _ ⟨rfl,rfl,0,rfl,by rw[List.range_eq_range']⟩
  ·rintro i rest q s' ⟨rfl,rfl,i',hr,Dm⟩
   have CY:i'<ks.length:=J4 λq=>by rw[JH q]at hr;first|exact Af hr|cases hr
   rw[show ks.length - i'=ks.length - (i'+1)+1 from(Nat.sub_add_cancel (Un CY)).symm.trans (by rw[Nat.sub_sub]),List.range'_succ]at hr
   obtain⟨rfl,rfl⟩:=Yi hr
   have he:=Gx (hl▸CY:i<es.size)
   obtain⟨k,t,e1,e2,e3⟩:=Mq i _ he
   refine AR (ZP h1 h3 ?_)
   rw[he]
   refine AR (D_ ?_)
   rw[e3]
   refine AR (y0.find ?_)
   have hf:=p8 (k:=k) gw
   rw[UY]at Dm
   cases hj:CB.findIdx? (·==k)with
   |none=>
    rw[hj]at hf
    rcases hg i k _ e1 e2 with⟨_,h⟩|⟨u,h,_⟩
    ·rw[h]at Dm;rw[Dm]at hq
     exact Aa (Aa (Aa hq))
    ·cases hf.symm.trans h
   |some j=>
    rw[hj]at hf
    obtain⟨yz,_⟩:=g9.mp hj
    have VZ:=Gx (gl▸yz:j<Lf.size)
    obtain⟨k2,t2,f1,f2,f3⟩:=ZW j _ VZ
    refine AR (ZP g1 g3 ?_)
    rw[VZ]
    rcases hg i k _ e1 e2 with⟨h,_⟩|⟨u,h,hE⟩
    ·cases h.symm.trans (hf.trans f2)
    ·cases (hf.trans f2).symm.trans h
     refine D_ (hE P' w' _ _ ?_)
     cases jy:g i with
     |false=>rw[jy]at Dm;rw[Dm]at hq;exact Aa (Aa hq)
     |true=>
      rw[jy]at Dm
      refine AR (wpAny_dictEpoch h1 h3 ?_)
      refine QX (by rw[bne_self_eq_false];exact C2) ?_
      exact Aa ⟨rfl,rfl,i+1,rfl,Dm⟩
  ·rintro q s' ⟨rfl,rfl,i,hr,Dm⟩
   rw[Dm]at hq
   exact Aa hq
theorem SE.rc{s:AN}(x:SE s.heap a ks ws)(y:SE s.heap b CB Fw)(hu:A.units<FG){g:Nat->Bool}(hg:ks.length=CB.length->∀(i:Nat) k v,ks[i]? =AA k->ws[i]? =AA v->B5 CB Fw k=AB/\g i=AD\/∃u,B5 CB Fw k=AA u/\LV A.in1 s v u (g i)):
  LW A s (.ref a) (.ref b) (ks.length==CB.length&&(Eo ks.length).all g):=λP' w' E Q hq=>by
 have tx:s.TypeIs (.ref a) "dict":=let⟨o,_,_,h1,h2,_,_,_,_,_,_⟩:=x;⟨o,h1,h2⟩
 have ty:s.TypeIs (.ref b) "dict":=let⟨o,_,_,h1,h2,_,_,_,_,_,_⟩:=y;⟨o,h1,h2⟩
 refine wpAny_richCompare_same_room (op:= .Eq) tx ty xF (RH xF tx PySem.F.entry_dict_eq ?_ (PySem.F.args_dict_eq_2 _ _)) hu
 show Ac _ _ (wf "__eq__" ⟨[.ref a, .ref b],[]⟩>>=_) _ _ s
 unfold wf
 refine AR (AR (wpAny_notOrdered_dict tx (Aa (AR (RJ (T:="dict") ty PySem.F.sub_dict_dict ?_)))))
 refine AR (Aa (AR (Aa (AR (x.walk y hg (Aa ⟨_,rfl,(λh=>by cases h),?_⟩))))))
 rw[beq_true];exact hq
end
end
end
section
variable{X Y:AK->Prop}{σ τ υ:St}{A:BZ}{α β:Type}{m:Bool}{k:Nat}{q:Bool}
inductive AF4(f:CV->CV->Option Bool)(xs ys:List CV)(b:Bool):Prop
 |mk (g:Nat->Bool) (h:∀(j:Nat) x y,xs[j]? =AA x->ys[j]? =AA y->f x y=AA (g j)) (e:b=((Eo (min xs.length ys.length)).all g&&xs.length==ys.length))
theorem AS9{f:CV->CV->Option Bool}{xs:List CV}:∀{ys:List CV} {b:Bool},Ei f xs ys=AA b->AF4 f xs ys b:=by
 induction xs with
 |nil=>
  intro ys b h
  cases ys with
  |nil=>exact⟨λ_=>AC,λ_ _ _ h=>Af (hU.symm.trans h),(CU h).symm⟩
  |cons=>exact⟨λ_=>AC,λ_ _ _ h=>Af (hU.symm.trans h),(CU h).symm⟩
 |cons x xs ih=>
  intro ys b h
  cases ys with
  |nil=>exact⟨λ_=>AC,λ_ _ _ _ h=>Af (hU.symm.trans h),(CU h).symm⟩
  |cons y ys=>
   obtain⟨a,ha,h⟩:=C5.mp h
   refine A3 (C5.mp h) λc lF=>?_
   obtain⟨g,h1,h2⟩:=ih lF.1
   refine⟨λj=>j.casesOn a g,λj u v hu hv=>?_,?_⟩
   ·cases j with
    |zero=>rw[<-CU hu,<-CU hv];exact ha
    |succ j=>exact h1 j u v hu hv
   ·simp only[<-CU lF.2,h2,Du,Du,Nat.succ_min_succ,v4,UY,vJ,Bool.and_assoc]
    exact congrArg (a&&·) (congrArg (_&&·) (by rw[Qb,beq_iff_eq,beq_iff_eq];exact(Nat.succ_inj).symm))
theorem nN{f:CV->CV->Option Bool}{CB:List T}{Gi:List CV}{ks:List T}:∀{vs:List CV} {b:Bool},ks.length=vs.length->NQ f CB Gi ks vs=AA b->∃g:Nat->Bool,(∀(i:Nat) k v,ks[i]? =AA k->vs[i]? =AA v->(B5 CB Gi k).elim (AA AD) (f v)=AA (g i))/\b=(Eo ks.length).all g:=by
 induction ks with
 |nil=>exactλ_ h=>⟨λ_=>AC,nofun,by cases h;rfl⟩
 |cons k ks ih=>
  intro vs b hl h
  cases vs with
  |nil=>first|exact Af hl|cases hl
  |cons v vs=>
   refine A3 (C5.mp h) λe lG=>?_
   refine A3 (DD.mp lG.2) λc lH=>?_
   obtain rfl:=lH.2
   obtain⟨g,h3,rfl⟩:=ih (Hw hl) lH.1
   refine⟨λj=>j.casesOn e g,λj u v hu hv=>?_,?_⟩
   ·cases j with
    |zero=>cases hu;cases hv;exact lG.1
    |succ j=>exact h3 j u v hu hv
   ·simp only[Du,v4,UY,vJ];rfl
theorem Bu{c:AE}{h:BS}{a:AK}{ws:List AE}{n:Nat}(e:h.get? a=AA {cls:=c,dict:=AB,data:= .seq ws.toArray n,slots:= #[]}):∃o:BG,h.get? a=AA o/\o.cls=c/\∃m,o.data= .seq ws.toArray m:=⟨_,e,rfl,n,rfl⟩
theorem pv{P:AE->AE->Bool->Prop}{n:Nat}{xs ys:List CV}{ws us:List AE}{b:Bool}(hx:Vs σ xs ws)(hy:Vs σ ys us)(e:Ei (Bz n) xs ys=AA b)
  (eq:∀x y u v c,V σ x u->V σ y v->Bz n x y=AA c->P u v c):
  ∃g:Nat->Bool,b=((Eo (min ws.toArray.size us.toArray.size)).all g&&ws.toArray.size==us.toArray.size)/\∀j (h1:j<ws.toArray.size) (h2:j<us.toArray.size),P ws.toArray[j] us.toArray[j] (g j):=by
 obtain⟨g,h1,h2⟩:=AS9 e
 rw[hx.len,hy.len]at h2
 refine⟨g,h2,λj l1 l2=>?_⟩
 rw[DC]at l1 l2
 obtain⟨u,hu,ru⟩:=hx.get (B8 (hx.len▸l1:j<xs.length))
 obtain⟨v,hv,rv⟩:=hy.get (B8 (hy.len▸l2:j<ys.length))
 rw[B8 l1]at hu
 rw[B8 l2]at hv
 simp only[vj,vj,CU hu,CU hv]
 exact eq _ _ _ _ _ ru rv (h1 j _ _ (B8 (hx.len▸l1:j<xs.length)) (B8 (hy.len▸l2:j<ys.length)))
theorem aw{g:Nat->Bool}{m n:Nat}(h:m=n):((Eo (min m n)).all g&&m==n)=(Eo m).all g:=by subst h;rw[LP,beq_self_eq_true,Qa]
theorem s5{m:Nat}(ih:∀{x y:CV} {v:AE} {b:Bool},V σ x v->V σ y v->Bz m x y=AA b->b=AC){a:AK}{c:AE}{xs ys:List CV}{ws us:List AE}{n n':Nat}{b:Bool}(h1:σ.h.get? a=AA {cls:=c,dict:=AB,data:= .seq ws.toArray n,slots:= #[]})
  (h2:σ.h.get? a=AA {cls:=c,dict:=AB,data:= .seq us.toArray n',slots:= #[]}) (hx:Vs σ xs ws) (hy:Vs σ ys us) (e:Ei (Bz m) xs ys=AA b):b=AC:=by
 have e2:=D0 h1 h2
 injection e2 with _ _ e2
 injection e2 with e2
 have e2:ws=us:=congrArg ux e2
 subst e2
 obtain⟨g,rfl,h⟩:=pv (P:=λu v c=>u=v->c=AC) hx hy e λx y u v c h1 h2 e q=>ih h1 (q▸h2) e
 rw[aw rfl,FF]
 exactλj hj=>h j (Uf.mp hj) (Uf.mp hj) rfl
theorem BF0{m:Nat}(ih:∀{x y:CV} {v:AE} {b:Bool},V σ x v->V σ y v->Bz m x y=AA b->b=AC){x y:CV}{b:Bool}(e:CE m x y b){v:AE}(hx:V σ x v)(hy:V σ y v):b=AC:=by
 cases e with
 |none=>rfl
 |int=>obtain⟨t,rfl⟩:=hx;obtain⟨t',e⟩:=hy;cases e;exact beq_self_eq_true _
 |str=>obtain⟨t,rfl⟩:=hx;obtain⟨t',e⟩:=hy;injection e with e;rw[Nt e];exact beq_self_eq_true _
 |bool=>cases hx;cases hy;exact beq_self_eq_true _
 |tup h=>obtain⟨a,ws,rfl,⟨n,hp⟩,h1⟩:=hx;obtain⟨a',us,e,⟨n',hp'⟩,h2⟩:=hy;cases e;exact s5 ih hp.1 hp'.1 h1 h2 h
 |lst h=>obtain⟨a,ws,rfl,⟨n,hp⟩,h1⟩:=hx;obtain⟨a',us,e,⟨n',hp'⟩,h2⟩:=hy;cases e;exact s5 ih hp.1 hp'.1 h1 h2 h
 |dct h=>
  obtain⟨a,ws,rfl,⟨o,hp⟩,h1⟩:=hx;obtain⟨a',us,e,⟨o',hp'⟩,h2⟩:=hy;first|exact Af e|cases e
  obtain⟨rfl,rfl⟩:=(UA hp.2).same (s:=σ.s) (UA hp'.2)
  obtain⟨_,_,_,_,_,_,_,_,hw,nd,_⟩:=(UA hp.2)
  obtain⟨g,h3,rfl⟩:=nN (hw.trans h1.len.symm) h
  rw[beq_self_eq_true,YY,FF]
  intro i hi
  have hi:=Uf.mp hi
  have h4:=h3 i _ _ (B8 hi) (B8 (h1.len▸hw▸hi:i<_))
  rw[Aq0 nd (hw.trans h2.len.symm) (B8 hi),(B8 (h2.len▸hw▸hi:i<_))]at h4
  obtain⟨u,hu,r1⟩:=h1.get (B8 (h1.len▸hw▸hi:i<_))
  obtain⟨u',zY,r2⟩:=h2.get (B8 (h2.len▸hw▸hi:i<_))
  cases hu.symm.trans zY
  exact ih r1 r2 h4
 |ni=>exact hy.elim λ_ q=>nomatch hx.symm.trans q
 |in_=>exact hx.elim λ_ q=>nomatch hy.symm.trans q
 |ns=>exact hy.elim λ_ q=>nomatch hx.symm.trans q
 |sn=>exact hx.elim λ_ q=>nomatch hy.symm.trans q
 |nt=>obtain⟨_,_,e⟩:=hy;exact nomatch hx.symm.trans e
 |tn=>obtain⟨_,_,e⟩:=hx;exact nomatch hy.symm.trans e
theorem nO(n:Nat):∀{x y:CV} {v:AE} {b:Bool},V σ x v->V σ y v->Bz n x y=AA b->b=AC:=by
 induction n with
 |zero=>exactλ_ _ e=>nomatch e
 |succ n ih=>exactλhx hy e=>(ce e).elim λm h=>BF0 (m:=n) ih (Hw h.1▸h.2) hx hy
theorem sY{x y:AK}{ws us:List AE}{n m:Nat}{g:Nat->Bool}(h1:σ.h.get? x=AA (Dk ws.toArray n))(h2:σ.h.get? y=AA (Dk us.toArray m))(hu:A.units<FG)
  (h:∀j (h1:j<ws.toArray.size) (h2:j<us.toArray.size),LV A.in1 σ.s ws.toArray[j] us.toArray[j] (g j)):LW A σ.s (.ref x) (.ref y) ((Eo (min ws.toArray.size us.toArray.size)).all g&&ws.toArray.size==us.toArray.size):=by
 by_cases hs:ws.toArray.size=us.toArray.size
 ·rw[aw hs];exact SeqAt.RcAt.lists (Bu h1) (Bu h2) hs hu h
 ·simp only[beq_eq_false_iff_ne.mpr hs,LH];exact SeqAt.RcAt.lists_lengths (Bu h1) (Bu h2) (bne_iff_ne.mpr hs) hu
noncomputable abbrev aa(σ:St)(n:Nat):Prop:=∀(A:BZ) x y u v c,A.units+n<FG->V σ x u->V σ y v->Bz n x y=AA c->LW A σ.s u v c/\LV A σ.s u v c
theorem Sy{n:Nat}(ih:aa σ n)(hu:A.units+(n+1)<FG){xs ys:List CV}{ws us:List AE}{b:Bool}(hx:Vs σ xs ws)(hy:Vs σ ys us)(e:Ei (Bz n) xs ys=AA b):
  ∃g:Nat->Bool,b=((Eo (min ws.toArray.size us.toArray.size)).all g&&ws.toArray.size==us.toArray.size)/\∀j (h1:j<ws.toArray.size) (h2:j<us.toArray.size),LV A.in1 σ.s ws.toArray[j] us.toArray[j] (g j):=
 pv hx hy e λx y u v c r1 r2 hc=>(ih A.in1 x y u v c (by rw[Uq,Er];exact hu) r1 r2 hc).2
theorem cU{a b:AK}{c:Bool}(same:a=b->c=AC)(rc:LW A σ.s (.ref a) (.ref b) c):LW A σ.s (.ref a) (.ref b) c/\LV A σ.s (.ref a) (.ref b) c:=by
 refine⟨rc,?_⟩
 by_cases h:a=b
 ·simp only[same h];subst h;exact xS _
 ·exact SeqAt.EqAt.of_refs h rc
theorem Am1{x:Option CV}{y:Option AE}{f:CV->Option Bool}{c:Bool}{P:AE->Prop}(r:OV σ x y)(h:x.elim (AA AD) f=AA c)(k:∀{d v},V σ d v->f d=AA c->P v):y=AB/\c=AD\/∃u,y=AA u/\P u:=by
 cases r with
 |none=>exact .inl ⟨rfl,(CU h).symm⟩
 |some r=>exact .inr ⟨_,rfl,k r h⟩
theorem Ab5{n:Nat}(ih:aa σ n)(hu:A.units+(n+1)<FG){x y:CV}{u v:AE}{c:Bool}(hx:V σ x u)(hy:V σ y v)(e:CE n x y c)(same:u=v->c=AC):LW A σ.s u v c/\LV A σ.s u v c:=by
 have M8:A.units<FG:=Bg (GE _ _) hu
 cases e with
 |none=>cases hx;cases hy;exact⟨SeqAt.RcAt.none_none,xS _⟩
 |int=>obtain⟨t,rfl⟩:=hx;obtain⟨t',rfl⟩:=hy;exact⟨SeqAt.RcAt.int_int _ _ _ _,SeqAt.EqAt.int_int _ _ _ _⟩
 |str=>obtain⟨t,rfl⟩:=hx;obtain⟨t',rfl⟩:=hy;rw[<-eW];exact⟨SeqAt.RcAt.str_str _ _ _ _,SeqAt.EqAt.str_str _ _ _ _⟩
 |bool=>cases hx;cases hy;exact⟨SeqAt.RcAt.bool_bool _ _,SeqAt.EqAt.bool_bool _ _⟩
 |tup h=>
  obtain⟨a,ws,rfl,⟨n,hp⟩,h1⟩:=hx;obtain⟨b,us,rfl,⟨n',hp'⟩,h2⟩:=hy
  obtain⟨g,rfl,hg⟩:=Sy ih hu h1 h2 h
  exact cU (λq=>same (q▸rfl)) (SeqAt.RcAt.tuples (Bu hp.1) (Bu hp'.1) M8 hg)
 |lst h=>
  obtain⟨a,ws,rfl,⟨n,hp⟩,h1⟩:=hx;obtain⟨b,us,rfl,⟨n',hp'⟩,h2⟩:=hy
  obtain⟨g,rfl,hg⟩:=Sy ih hu h1 h2 h
  exact cU (λq=>same (q▸rfl)) (sY hp.1 hp'.1 M8 hg)
 |dct h=>
  obtain⟨a,ws,rfl,⟨o,hp⟩,h1⟩:=hx;obtain⟨b,us,rfl,⟨o',hp'⟩,h2⟩:=hy
  have sx:=UA hp.2
  obtain⟨g,h3,rfl⟩:=nN ((sx.len).trans h1.len.symm) h
  refine cU (λq=>same (q▸rfl)) (sx.rc (s:=σ.s) (UA hp'.2) M8 λ_ i k v e1 e2=>?_)
  have e4:=B8 (h1.len▸GV e2:i<_)
  refine A3 (h1.get e4) λu lI=>?_
  cases lI.1.symm.trans e2
  exact Am1 (eM h2 k) (h3 i _ _ e1 e4) λr2 h5=>(ih A.in1 _ _ _ _ _ (by rw[Uq,Er];exact hu) lI.2 r2 h5).2
 |ni=>cases hx;obtain⟨t,rfl⟩:=hy;exact⟨SeqAt.RcAt.none_int _ _,SeqAt.EqAt.none_int _ _⟩
 |in_=>cases hy;obtain⟨t,rfl⟩:=hx;exact⟨SeqAt.RcAt.int_none _ _,SeqAt.EqAt.int_none _ _⟩
 |ns=>cases hx;obtain⟨t,rfl⟩:=hy;exact⟨SeqAt.RcAt.none_str _ _,SeqAt.EqAt.none_str _ _⟩
 |sn=>cases hy;obtain⟨t,rfl⟩:=hx;exact⟨SeqAt.RcAt.str_none _ _,SeqAt.EqAt.str_none _ _⟩
 |nt=>cases hx;obtain⟨_,_,rfl,⟨n,hp⟩,_⟩:=hy;exact⟨SeqAt.RcAt.none_tuple (Bu hp.1) M8,SeqAt.EqAt.none_tuple (Bu hp.1) M8⟩
 |tn=>cases hy;obtain⟨_,_,rfl,⟨n,hp⟩,_⟩:=hx;exact⟨SeqAt.RcAt.tuple_none (Bu hp.1) M8,SeqAt.EqAt.tuple_none (Bu hp.1) M8⟩
theorem Pm(n:Nat):aa σ n:=by
 induction n with
 |zero=>exactλ_ _ _ _ _ _ _ _ _ e=>nomatch e
 |succ n ih=>exactλA x y u v c hu hx hy e=>(ce e).elim λm h=>Ab5 ih hu hx hy (Hw h.1▸h.2) λq=>nO _ hx (q▸hy) e
noncomputable def Si(objs:AL)(x y:CV):Option Bool:=match Cj objs x,Cj objs y with
 |some a,AA b=>Ei (Bz 60) a b
 |_,_=>Bz 60 x y
end
section
variable{X Y:AK->Prop}{σ τ υ:St}{A:BZ}{α β:Type}{m:Bool}{k:Nat}{q:Bool}
theorem Bs.u(h:Bs A k q σ):A.units<=9000:=AO (GE _ _) h.units
theorem Bs.c(h:Bs A k q σ):A.units<FG:=Bg h.u (by decide)
theorem Ev.opt{rel:St->α->β->Prop}{t:Ao β}{γ:Type}{x:Option γ}{f:γ->R α}(h:∀a,x=AA a->Ev m rel A t σ (f a)):Ev m rel A t σ (x.elim .no f):=match x,h with
 |some a,h=>h a rfl
 |none,_=> .no (P:=True) rfl
noncomputable def FV(_:AL)(c:CV):Option CV:=AA c
theorem vC:Vw FV V:=λ_ e h=>CU e▸h
noncomputable abbrev GA(op:CmpOp):List AE->Ao AE:=λvs=>compareOp op (vs.getD 0 .none) (vs.getD 1 .none)
theorem BC5(ok:Ok σ)(hu:A.units<=9000){x y:CV}{u v:AE}{c:Bool}(hx:V σ x u)(hy:V σ y v)(e:Si σ.o x y=AA c):LW A σ.s u v c:=by
 have hl:FG=9900:=rfl
 unfold Si at e
 cases ea:Cj σ.o x with
 |none=>rw[ea]at e;exact(λe=>(Pm 60 A x y u v c (Bg (C3 hu _) (by decide)) hx hy e).1:Bz 60 x y=AA c->LW A σ.s u v c) e
 |some a=>cases eb:Cj σ.o y with
  |none=>rw[ea,eb]at e;exact(λe=>(Pm 60 A x y u v c (Bg (C3 hu _) (by decide)) hx hy e).1:Bz 60 x y=AA c->LW A σ.s u v c) e
  |some b=>
   rw[ea,eb]at e
   obtain⟨p,ws,n,rfl,h1,h2⟩:=vL ok ea hx
   obtain⟨p',us,m,rfl,h3,h4⟩:=vL ok eb hy
   obtain⟨g,rfl,hg⟩:=Sy (Pm 60) (A:=A) (Bg (C3 hu _) (by decide)) h2 h4 e
   exact sY h1 h3 (by exact Bg (by assumption) (by decide)) hg
noncomputable def BV:List CV->AL->R CV:=BN FV FV λx y o=>(Si o x y).elim .no λb=> .ok (.bool b) o
theorem A51:BA m k q (GA .Eq) BV:= .on2 vC vC λA σ a b u v hR ok h h'=> .opt λc e=> .of λ_ Q E hQ _=>BC5 ok hR.u h h' e pE w _ _ (hQ.here rfl ok rfl)
theorem Ay9{x y:AK}{ws us:List AE}{n m:Nat}{g:Nat->Bool}(h1:σ.h.get? x=AA (Dk ws.toArray n))(h2:σ.h.get? y=AA (Dk us.toArray m))(hu:A.units<FG)
  (h:∀j (h1:j<ws.toArray.size) (h2:j<us.toArray.size),LV A.in1 σ.s ws.toArray[j] us.toArray[j] (g j)):SeqAt.RcNeAt A σ.s (.ref x) (.ref y) (!((Eo (min ws.toArray.size us.toArray.size)).all g&&ws.toArray.size==us.toArray.size)):=by
 by_cases hs:ws.toArray.size=us.toArray.size
 ·rw[aw hs];exact SeqAt.RcNeAt.lists (Bu h1) (Bu h2) hs hu h
 ·simp only[beq_eq_false_iff_ne.mpr hs,LH];exact SeqAt.RcNeAt.lists_lengths (Bu h1) (Bu h2) (bne_iff_ne.mpr hs) hu
noncomputable def Dq:List CV->AL->R CV:=
 BP (BN Bq Bq λa b o=> .ok (.bool (!(a==b))) o) (BP (BN BX BX λa b o=> .ok (.bool (!(a==b))) o)
  (BP (BN H9 H9 λa b o=>(Ei (Bz 59) a b).elim .no λc=> .ok (.bool (!c)) o) (BN Cj Cj λa b o=>(Ei (Bz 60) a b).elim .no λc=> .ok (.bool (!c)) o)))
theorem A64:BA m k q (GA .NotEq) Dq:=
 .alt (.on2 vI vI λA σ a b u v _ ok ⟨t,h⟩ ⟨t',h'⟩=> .of λ_ Q E hQ _=>by subst h h';exact PyProof.Rows.ne_int (hQ.here rfl ok rfl))
 (.alt (.on2 vS vS λA σ a b u v _ ok ⟨t,h⟩ ⟨t',h'⟩=> .of λ_ Q E hQ _=>by subst h h';exact PyProof.Rows.ne_str (by simp only[bne,eW];exact hQ.here rfl ok rfl))
 (.alt (.on2 vT vT λA σ a b u v hR ok h h'=> .opt λc e=> .of λ_ Q E hQ _=>by
   have hl:FG=9900:=rfl
   have hu:=hR.u
   obtain⟨x,ws,rfl,⟨n,hx⟩,h1⟩:=h
   obtain⟨y,us,rfl,⟨m,hy⟩,h2⟩:=h'
   obtain⟨g,rfl,hg⟩:=Sy (Pm 59) (A:=A) (Bg (C3 hu _) (by decide)) h1 h2 e
   exact SeqAt.RcNeAt.tuples (Bu hx.1) (Bu hy.1) hR.c hg pE w _ _ (hQ.here rfl ok rfl))
 (.on2 vL vL λA σ a b u v hR ok h h'=> .opt λc e=> .of λ_ Q E hQ _=>by
   have hl:FG=9900:=rfl
   have hu:=hR.u
   obtain⟨x,ws,n,rfl,hx,h1⟩:=h
   obtain⟨y,us,m,rfl,hy,h2⟩:=h'
   obtain⟨g,rfl,hg⟩:=Sy (Pm 60) (A:=A) (Bg (C3 hu _) (by decide)) h1 h2 e
   exact Ay9 hx hy hR.c hg pE w _ _ (hQ.here rfl ok rfl))))
noncomputable def LF(a b:T):Bool:=decide (a<b)
noncomputable def Js:List CV->AL->R CV:=BP (BN Bq Bq λa b o=> .ok (.bool (decide (a<b))) o) (BN BX BX λa b o=> .ok (.bool (LF a b)) o)
noncomputable def TV:List CV->AL->R CV:=BP (BN Bq Bq λa b o=> .ok (.bool (decide (b<a))) o) (BN BX BX λa b o=> .ok (.bool (LF b a)) o)
noncomputable def Xf:List CV->AL->R CV:=BN Bq Bq λa b o=> .ok (.bool (decide (b<=a))) o
theorem A59:BA m k q (GA .Lt) Js:=
 .alt (.on2 vI vI λA σ a b u v _ ok ⟨t,h⟩ ⟨t',h'⟩=> .of λ_ Q E hQ _=>by subst h h';exact PyProof.Rows.lt_int (hQ.here rfl ok rfl))
  (.on2 vS vS λA σ a b u v _ ok ⟨t,h⟩ ⟨t',h'⟩=> .of λ_ Q E hQ _=>by subst h h';exact PyProof.Rows.lt_str (hQ.here rfl ok rfl))
theorem A53:BA m k q (GA .Gt) TV:=
 .alt (.on2 vI vI λA σ a b u v _ ok ⟨t,h⟩ ⟨t',h'⟩=> .of λ_ Q E hQ _=>by subst h h';exact PyProof.Rows.gt_int (hQ.here rfl ok rfl))
  (.on2 vS vS λA σ a b u v _ ok ⟨t,h⟩ ⟨t',h'⟩=> .of λ_ Q E hQ _=>by subst h h';exact PySem.P.gt_str (hQ.here rfl ok rfl))
theorem A52:BA m k q (GA .GtE) Xf:= .on2 vI vI λA σ a b u v _ ok ⟨t,h⟩ ⟨t',h'⟩=> .of λ_ Q E hQ _=>by subst h h';exact PyProof.Rows.ge_int (hQ.here rfl ok rfl)
noncomputable def WQ(_:AL)(c:CV):Option Unit:=DX c AB (zn:=AA ())
noncomputable def mW(_:AL)(c:CV):Option Unit:=DX c AB (zo:=λ_=>AA ()) (zs:=λ_=>AA ()) (zl:=λ_=>AA ()) (zt:=λ_=>AA ())
noncomputable def bC(_:AL)(c:CV):Option String:=DX c AB (zv:=λx=>match x with
  | .type a=>AA a
  |_=>AB)
theorem vN:Vw WQ λ_ _ v=>v= .none:=λ{σ c a v} _ e h=>by cases c<;>cases e;exact h
theorem vK:Vw mW λ_ _ v=>(∃a,v= .ref a)\/∃x t,v= .str x t:=λ{σ c a v} _ e h=>by
 cases c with
 |obj=>exact .inl (h.imp' _ λ_ h=>h.2)
 |str=>exact .inr ⟨_,h⟩
 |lst|tup=>obtain⟨a,_,rfl,_⟩:=h;exact .inl ⟨a,rfl⟩
 |_=>first|exact Af e|cases e
theorem uX:Vw bC λ_ a v=>v= .type a:=λ{σ c a v} _ e h=>by
 cases c with
 |top u=>cases u<;>cases e;exact h
 |_=>first|exact Af e|cases e
noncomputable def eF(f:Bool->Bool):List CV->AL->R CV:=
 BP (BN WQ WQ λ_ _ o=> .ok (.bool (f AC)) o) (BP (BN mW WQ λ_ _ o=> .ok (.bool (f AD)) o) (BN bC bC λa b o=> .ok (.bool (f (a==b))) o))
noncomputable def Nx:=eF id
noncomputable def TW:=eF not
theorem rp(f:Bool->Bool)(t:List AE->Ao AE)(h:∀u v,t [u,v]=isSame u v>>=λb=>Ax (Value.bool (f b))):BA m k q t (eF f):=
 .alt (.on2 vN vN λA σ a b u v _ ok h1 h2=> .of λ_ Q E hQ _=>by rw[h];subst h1 h2;exact AR (Aa (Aa (hQ.here rfl ok rfl))))
 (.alt (.on2 vK vN λA σ a b u v _ ok h1 h2=> .of λ_ Q E hQ _=>by
   rw[h];subst h2
   rcases h1 with⟨a,rfl⟩|⟨x,t,rfl⟩<;>exact AR (Aa (Aa (hQ.here rfl ok rfl))))
 (.on2 uX uX λA σ a b u v _ ok h1 h2=> .of λ_ Q E hQ _=>by
   rw[h];subst h1 h2
   refine AR (Aa (a:=(OZ a==OZ b)) (Aa ?_))
   rw[show(OZ a==OZ b)=(a==b) by rw[Qb,beq_iff_eq,beq_iff_eq];exact⟨λh=>Value.type.inj h,λh=>by rw[h]⟩]
   exact hQ.here rfl ok rfl))
theorem A57:BA m k q (GA .Is) Nx:=rp id _ λ_ _=>rfl
theorem A58:BA m k q (GA .IsNot) TW:=rp not _ λ_ _=>rfl
end
section
variable{X Y:AK->Prop}{σ τ υ:St}{A:BZ}{α β:Type}{m:Bool}{k:Nat}{q:Bool}
noncomputable def Bj{K α:Type}[DecidableEq K]:List K->List α->K->α->List K×List α
 |k::ks,v::vs,x,y=>if k=x then(k::ks,y::vs)else(k::(Bj ks vs x y).1,v::(Bj ks vs x y).2)
 |_,_,x,y=>([x],[y])
noncomputable def Pg(ks:DK)(vs:List CV)(c:CV):Option (Option CV):=match ks with
 | .s l=>(BX [] c).map (B5 l vs)
 | .i l=>(Bq [] c).map (B5 l vs)
noncomputable def TS:CO->Option (DK×List CV)
 | .dict ks vs=>AA (ks,vs)
 |_=>AB
noncomputable def PS(objs:AL)(c:CV):Option (DK×List CV):=DX c AB (zd:=λks vs=>AA (ks,vs)) (zo:=λi=>objs[i]?.bind TS)
inductive aj(σ:St)(d:DK×List CV)(v:AE):Prop
 |mk (a:AK) (ws:List AE) (e:v= .ref a) (h:Do σ.h a d.1 ws) (x:Vs σ d.2 ws)
theorem vD:Vw PS aj:=λ{σ c a v} ok e h=>by
 cases c with
 |dct ks vs=>cases e;obtain⟨l,ws,rfl,⟨n,hp⟩,hv⟩:=h;exact⟨l,ws,rfl,hp.2,hv⟩
 |obj i=>
  obtain⟨o,e1,e2⟩:=C5.mp e
  obtain⟨p,rfl,_,hr⟩:=ok.obj h e1
  cases o<;>cases e2
  obtain⟨_,ob,ws,_,h1,h2⟩:=hr
  exact⟨p.1,ws,rfl,h1,h2⟩
 |_=>first|exact Af e|cases e
section
variable{K K':Type}[DecidableEq K][DecidableEq K'](f:K->K')(Vm:∀a b,f a=f b->a=b)
include Vm
theorem uY(ks:List K):∀(ws:List AE) (k:K),valueAt ((ks.map f).zip ws) (f k)=B5 ks ws k:=by
 induction ks with
 |nil=>exactλ_ _=>rfl
 |cons a ks ih=>
  intro ws k
  cases ws with
  |nil=>rfl
  |cons v ws=>
   show G1 _ (match decide (f a=f k)with|true=>_|false=>_)=if a=k then AA v else B5 ks ws k
   by_cases e:a=k
   ·rw[if_pos e,decide_eq_true (congrArg f e)];rfl
   ·rw[if_neg e,decide_eq_false λh=>e (Vm _ _ h)];exact ih ws k
end
inductive KD(σ:St)(a:AK)(v:AE)(o:Option CV):Prop
 |mk {K:Type} [DecidableEq K] (knd:KeyKind pE w K) (x:K) (ps:List (K×AE)) (hs:(a==Lc)=AD) (hd:σ.h.DictOf knd a ps) (hk:knd.is x v=AC) (ho:OV σ o (valueAt ps x))
theorem kd{a:AK}{ks:DK}{ws:List AE}{cs:List CV}{x:CV}{v:AE}{o:Option CV}(ok:Ok σ)(hd:Do σ.h a ks ws)(hr:Vs σ cs ws)(hx:V σ x v)(e:Pg ks cs x=AA o):KD σ a v o:=by
 cases ks with
 |s l=>
  obtain⟨y,e1,rfl⟩:=DD.mp e
  obtain⟨t,rfl⟩:=vS ok e1 hx
  exact⟨strKind pE w,AU y,_,hd.1,hd.2.1,jE pE w _ t,by rw[uY AU λ_ _=>Nt];exact eM hr y⟩
 |i l=>
  obtain⟨y,e1,rfl⟩:=DD.mp e
  obtain⟨t,rfl⟩:=vI ok e1 hx
  exact⟨Dl pE w,y,_,hd.1,hd.2.1,Og pE w _ t,by
   have:=uY (id:Int->Int) (λ_ _ h=>h) l ws y
   rw[Qm]at this
   rw[show valueAt (l.zip ws) y=B5 l ws y from this];exact eM hr y⟩
noncomputable def eB(x:CV):List CV->Option (List (CV×Bool))
 |[]=>AA []
 |y::ys=>(Bz 60 y x).bind λb=>(eB x ys).map λr=>(y,b)::r
noncomputable def mQ(r:List (CV×Bool)):Bool:=r.all λp=>r.all λp'=>p.2==p'.2||Bz 60 p.1 p'.1==AA AD
noncomputable def eA(x:CV)(ys:List CV):Option Bool:=(eB x ys).bind λr=>if mQ r then AA (r.any (·.2))else AB
inductive InR(σ:St)(x:CV)(ws:List AE)(r:List (CV×Bool)):Prop
 |mk (l:List (AE×CV×Bool)) (e1:ws=l.map (·.1)) (e2:r=l.map (·.2)) (h:∀p∈l,V σ p.2.1 p.1/\Bz 60 p.2.1 x=AA p.2.2)
theorem Am8{x:CV}{ys:List CV}:∀{ws:List AE} {r:List (CV×Bool)},Vs σ ys ws->eB x ys=AA r->InR σ x ws r:=by
 induction ys with
 |nil=>intro ws r h e;cases h;cases e;exact⟨[],rfl,rfl,λ_ h=>absurd h D9⟩
 |cons y ys ih=>
  intro ws r h e
  refine B7 (h) λv q aB=>?_
  obtain⟨b,e2,e⟩:=C5.mp e
  refine A3 (DD.mp e) λr' ky=>?_
  obtain⟨l,e4,e5,hl⟩:=ih aB.2.2 ky.1
  exact⟨(v,y,b)::l,aB.1.trans (congrArg (v::·) e4),ky.2.symm.trans (congrArg ((y,b)::·) e5),Ht.mpr ⟨⟨aB.2.1,e2⟩,hl⟩⟩
theorem eC{x:CV}{v:AE}{ys:List CV}{ws:List AE}{b:Bool}(hu:A.units+60<FG)(hr:Vs σ ys ws)(hx:V σ x v)(e:eA x ys=AA b):
  ∃f:AE->Bool,(∀y,y∈ws.toArray->LV A σ.s y v (f y))/\ws.toArray.any f=b:=by
 refine A3 (C5.mp e) λr AB5=>?_
 obtain⟨e1,e⟩:=AB5
 obtain⟨l,rfl,rfl,hl⟩:=Am8 hr e1
 by_cases hc:mQ (l.map (·.2))=AC
 ·rw[if_pos hc]at e
  have hf:∀p∈l,decide (∃p'∈l,p'.1=p.1/\p'.2.2=AC)=p.2.2:=λp hp=>by
   cases hb:p.2.2 with
   |true=>exact decide_eq_true ⟨p,hp,rfl,hb⟩
   |false=>
    refine decide_eq_false λ⟨p',hp',e1,e2⟩=>?_
    have:=FF.mp (FF.mp hc _ (Qn hp')) _ (Qn hp)
    rw[e2,hb]at this
    exact Bool.noConfusion (nO 60 (e1▸(hl p' hp').1) (hl p hp).1 (beq_iff_eq.mp this))
  refine⟨λu=>decide (∃p'∈l,p'.1=u/\p'.2.2=AC),λy hy=>?_,?_⟩
  ·refine A3 (HS.mp (List.mem_toArray.mp hy)) λp Vy=>?_
   obtain rfl:=Vy.2
   simp only[hf p Vy.1]
   exact(Pm 60 A _ _ _ _ _ hu (hl p Vy.1).1 hx (hl p Vy.1).2).2
  ·rw[<-CU e,<-Array.any_toList,gy,gy]
   rw[Qb,gv,gv]
   exact exists_congr λp=>and_congr_right λhp=>by show(decide _=AC)↔(p.2.2=AC);rw[hf p hp]
 ·rw[if_neg hc]at e;first|exact Af e|cases e
noncomputable def mY(_:AL)(c:CV):Option Nat:=DX c AB (zs:=λx=>match x with
  |[c]=>AA c
  |_=>AB)
theorem uV:Vw mY λσ c v=>V σ (.str [c]) v:=λ{σ c a v} _ e h=>by
 cases c with
 |str l=>cases l with
  |nil=>first|exact Af e|cases e
  |cons x l=>cases l<;>cases e;exact h
 |_=>first|exact Af e|cases e
theorem rQ(b:T)(c:Nat):(!(Qw (AU b) (AU [c]) 0 (AU b).length 1).isEmpty)=b.contains c:=by
 have h:=StrLaws.found_one (AU b) c
 rw[show(AU [c])=(⟨#[c]⟩:AQ)from rfl,h]
 simp[AU]
noncomputable abbrev nb(neg b:Bool):Bool:=if neg then !b else b
noncomputable def MH(neg:Bool):List CV->AL->R CV:=
 BP (BN FV Cj λx ys o=>(eA x ys).elim .no λb=> .ok (.bool (nb neg b)) o) (BP (BN FV PS λx d o=>(Pg d.1 d.2 x).elim .no λb=> .ok (.bool (nb neg b.isSome)) o) (BN mY BX λx a o=> .ok (.bool (nb neg (a.contains x))) o))
theorem A55:BA m k q (GA .In) (MH AD):=
 .alt (.on2 vC vL λA σ x ys u v hR ok h h'=> .opt λb e=> .of λ_ Q E hQ _=>by
   have hl:FG=9900:=rfl
   have hu:=hR.u
   obtain⟨l,ws,n,rfl,h1,h2⟩:=h'
   obtain⟨f,hf,rfl⟩:=eC (A:=A.in1) (by rw[Uq];exact Bg (C3 (C3 hu 1) 60) (by decide)) h2 h e
   exact SeqAt.in_listAt f (Bu h1) hf (hQ.here rfl ok rfl))
 (.alt (.on2 vC vD λA σ x d u v hR ok h h'=> .opt λb e=> .of λ_ Q E hQ _=>by
   obtain⟨l,ws,rfl,h1,h2⟩:=h'
   obtain⟨knd,y,ps,hs,hd,hk,ho⟩:=kd ok h1 h2 h e
   exact wpAny_in_of hk hs hd.mapOf (by rw[ho.isSome];exact hQ.tk rfl ok rfl))
 (.on2 uV vS λA σ c a u v hR ok ⟨t,h⟩ ⟨t',h'⟩=> .of λ_ Q E hQ _=>by subst h h';exact PyProof.Rows.in_str (by rw[rQ];exact hQ.here rfl ok rfl)))
theorem rq:BA m k q (GA .NotIn) (MH AC):=
 .alt (.on2 vC vL λA σ x ys u v hR ok h h'=> .opt λb e=> .of λ_ Q E hQ _=>by
   have hl:FG=9900:=rfl
   have hu:=hR.u
   obtain⟨l,ws,n,rfl,h1,h2⟩:=h'
   obtain⟨f,hf,rfl⟩:=eC (A:=A.in1) (by rw[Uq];exact Bg (C3 (C3 hu 1) 60) (by decide)) h2 h e
   exact SeqAt.notIn_listAt f (Bu h1) hf (hQ.here rfl ok rfl))
 (.alt (.on2 vC vD λA σ x d u v hR ok h h'=> .opt λb e=> .of λ_ Q E hQ _=>by
   obtain⟨l,ws,rfl,h1,h2⟩:=h'
   obtain⟨knd,y,ps,hs,hd,hk,ho⟩:=kd ok h1 h2 h e
   exact wpAny_notIn_of hk hs hd.mapOf (by rw[ho.isSome];exact hQ.tk rfl ok rfl))
 (.on2 uV vS λA σ c a u v hR ok ⟨t,h⟩ ⟨t',h'⟩=> .of λ_ Q E hQ _=>by subst h h';exact PyProof.Rows.notIn_str (by rw[rQ];exact hQ.here rfl ok rfl)))
end
section
variable{X Y:AK->Prop}{σ τ υ:St}{A:BZ}{α β γ:Type}{m:Bool}{k:Nat}{q:Bool}
section
variable{fx:Fx}{n:AQ}{pos p1 p2:BK}{e l r x y:Ab}{es:List Ab}{f:List CV->AL->R CV}{kd:Nat}
theorem Ev.post{rel:St->α->β->Prop}{rel':St->α->γ->Prop}{t:Ao β}{f:β->Ao γ}{r:R α}(h:Ev m rel A t σ r)(k:∀a v τ,Lt σ τ->Ok τ->rel τ a v->Ev m rel' A (f v) τ (.ok a τ.o)):Ev m rel' A (t>>=f) σ r:=λhn ht Q E hQ hE=>
 Bm (h.run hn ht (λa v τ e st ok ht x=>k a v τ st ok x (by intro h;cases h) ht Q E (λa' v' υ e' Bp=>hQ a' v' υ (by injection e' with h1 h2;rw[e,h1,h2]) (st.trans Bp)) λ_ _ _ e=>nomatch e) hE)
noncomputable abbrev Wz{α:Type}:St->α->α->Prop:=λ_ a b=>a=b
noncomputable abbrev DT:=AY->AL->R Bool
noncomputable def Eh(m:Bool)(k:Nat)(q:Bool)(fx:Fx)(e:Ab)(d:DT):Prop:=∀A env σ AI,BW A k q fx env σ AI->Ev m Wz A (isTrue e env (B_ e env)) σ (d AI σ.o)
noncomputable def asB(c:CV):Option Bool:=DX c AB (zb:=λb=>AA b) (zn:=AA AD)
noncomputable def mh:CV->AL->R Bool:=λc h=>(asB c).elim .no λb=> .ok b h
noncomputable def Aq(d:D):DT:=λAI objs=>(d AI objs).bind mh
theorem o7{c:CV}{v:AE}(ok:Ok σ)(hv:V σ c v):Ev m Wz A (VE v) σ (mh c σ.o):= .opt λb e=> .of λ_ Q E hQ _=>by
 cases c with
 |bool=>cases e;cases hv;exact xo (hQ.here rfl ok rfl)
 |none=>cases e;cases hv;exact wa (hQ.here rfl ok rfl)
 |_=>first|exact Af e|cases e
theorem tM{d:D}(h:Aj m k q fx e d)(he:∀env whole,isTrue e env whole=(do let v<-whole;GI e.pos;HY [v] (VE v))):Eh m k q fx e (Aq d):=λA env σ AI p=>by
 rw[he]
 exact(h _ _ _ _ p).bind λc v τ st ok hv=> .stand (o7 ok hv).holding
theorem R.bind_bind{δ:Type}(a:R α)(f:α->AL->R β)(g:β->AL->R δ):(a.bind f).bind g=a.bind λx h=>(f x h).bind g:=by cases a<;>rfl
theorem qp{op:CmpOp}{env:A7}(hm:RD op r=AD):jA [op] [r] [B_ r env]=[B_ r env]:=by
 show [markedBehindIn op r (B_ r env)]=_
 unfold markedBehindIn;rw[hm]
section
variable{op:CmpOp}{a b:D}(ha:Aj m k q fx l a)(hb:Aj m k q fx r b)(hf:BA m k q (GA op) f)(hm:RD op r=AD)
include ha hb hf
theorem BK7(hm:RD op r=AD):Eh m k q fx (.Compare l [op] [r] pos) (Aq (AJ f a b)):=λA env σ AI p=>by
 show Ev m Wz A (B_ l env>>=λu=>testChain pos u [op] (jA [op] [r] [B_ r env])) σ (Aq (AJ f a b) AI σ.o)
 rw[qp hm]
 unfold Aq AJ
 rw[R.bind_bind]
 refine(ha _ _ _ _ p).bind λc u τ st ok h=>?_
 simp only[R.bind_bind]
 exact(hb _ _ _ _ (p.step st ok)).holding.bind λd v υ Bp A6 h'=> .stand ((Ev.op (hf _ _ _ [u,v] ((p.r.step st).step Bp) A6 (.two ((ok.kp Bp).v _ h) h'))).bind λz u Jc BF BE h2=>(o7 BE h2).holding)
theorem BK6(hm:RD op r=AD):Aj m k q fx (.Compare l [op] [r] pos) (AJ f a b):=λA env σ AI p=>by
 show Ev m V A (B_ l env>>=λu=>compareChain pos u [op] (jA [op] [r] [B_ r env])) σ _
 rw[qp hm]
 exact(ha _ _ _ _ p).bind λc u τ st ok h=>(hb _ _ _ _ (p.step st ok)).holding.bind λd v υ Bp A6 h'=> .stand (.op (hf _ _ _ [u,v] ((p.r.step st).step Bp) A6 (.two ((ok.kp Bp).v _ h) h')))
end
noncomputable def AV5(d:DT):DT:=λAI objs=>(d AI objs).bind λb h=> .ok (!b) h
noncomputable def Ek(a b:DT):DT:=λAI objs=>(a AI objs).bind λx h=>if x then b AI h else .ok AD h
noncomputable def GS(a b:DT):DT:=λAI objs=>(a AI objs).bind λx h=>if x then .ok AC h else b AI h
noncomputable def NX:DT:=λ_ objs=> .ok AC objs
noncomputable def Pf:DT:=λ_ objs=> .ok AD objs
noncomputable def Cc(t:DT)(a b:D):D:=λAI objs=>(t AI objs).bind λx h=>if x then a AI h else b AI h
theorem BM7{d:DT}(h:Eh m k q fx x d):Eh m k q fx (.UnaryOp .Not x pos) (AV5 d):=λA env σ AI p=>(h _ _ _ _ p).bind λc v τ st ok e=> .ret ok (congrArg not e)
theorem BJ5:Eh m k q fx (.BoolOp .And [] pos) NX:=λA env σ AI p=> .ret p.ok rfl
theorem BN0:Eh m k q fx (.BoolOp .Or [] pos) Pf:=λA env σ AI p=> .ret p.ok rfl
theorem BJ4{a b:DT}(ha:Eh m k q fx x a)(hb:Eh m k q fx (.BoolOp .And es pos) b):Eh m k q fx (.BoolOp .And (x::es) pos) (Ek a b):=λA env σ AI p=>(ha _ _ _ _ p).bind λc v τ st ok e=>by
 cases e
 cases c with
 |false=>exact .ret ok rfl
 |true=>exact hb _ _ _ _ (p.step st ok)
theorem BM9{a b:DT}(ha:Eh m k q fx x a)(hb:Eh m k q fx (.BoolOp .Or es pos) b):Eh m k q fx (.BoolOp .Or (x::es) pos) (GS a b):=λA env σ AI p=>(ha _ _ _ _ p).bind λc v τ st ok e=>by
 cases e
 cases c with
 |true=>exact .ret ok rfl
 |false=>exact hb _ _ _ _ (p.step st ok)
theorem BL8{t:Ab}{dt:DT}{a b:D}(ht:Eh m k q fx t dt)(ha:Aj m k q fx x a)(hb:Aj m k q fx y b):Aj m k q fx (.IfExp t x y pos) (Cc dt a b):=λA env σ AI p=>(ht _ _ _ _ p).bind λc v τ st ok e=>by
 cases e
 cases c with
 |true=>exact ha _ _ _ _ (p.step st ok)
 |false=>exact hb _ _ _ _ (p.step st ok)
theorem BO1{op:UnaryOp}{a:D}(ha:Aj m k q fx x a)(hf:BA m k q (λvs=>unaryOp op (vs.getD 0 .none)) f):Aj m k q fx (.UnaryOp op x pos) (NZ f a):=λA env σ AI p=>(ha _ _ _ _ p).bind λc v τ st ok h=> .stand (hf _ _ _ [v] (p.r.step st) ok (.one h)).holding
noncomputable abbrev DL:=AY->AL->R (List CV)
noncomputable def Iu(m:Bool)(k:Nat)(q:Bool)(fx:Fx)(es:List Ab)(d:DL):Prop:=∀pos A env σ AI,BW A k q fx env σ AI->Ev m Vs A (ZO (Dd pos (CX es env))) σ (d AI σ.o)
noncomputable def AP:DL:=λ_ objs=> .ok [] objs
noncomputable def AH(a:D)(b:DL):DL:=λAI objs=>(a AI objs).bind λx h=>(b AI h).bind λxs h'=> .ok (x::xs) h'
theorem tI:Iu m k q fx [] AP:=λpos A env σ AI p=> .ret p.ok rfl
theorem tH{a:D}{b:DL}(ha:Aj m k q fx e a)(hb:Iu m k q fx es b)(he:∀env,CX (e::es) env=(AD,B_ e env)::CX es env):Iu m k q fx (e::es) (AH a b):=λpos A env σ AI p=>by
 rw[he env]
 exact(ha _ _ _ _ p).bind λc v τ st ok h=>(hb pos _ _ _ _ (p.step st ok)).holding.bind λcs vs υ Bp A6 h'=> .ret A6 ⟨v,vs,rfl,(ok.kp Bp).v _ h,h'⟩
noncomputable def q_(cs:List CV)(h:AL):R CV:=if cs.length<=Ah then .ok (.tup cs) h else .no
noncomputable def qx(cs:List CV)(h:AL):R CV:=if cs.length<=Ah then .ok (.lst cs) h else .no
noncomputable def A2(a:DL):D:=λAI objs=>(a AI objs).bind q_
noncomputable def BU(a:DL):D:=λAI objs=>(a AI objs).bind qx
theorem Ac5{cs:List CV}{vs:List AE}(ok:Ok σ)(h:Vs σ cs vs):Ev m V A (newTuple vs) σ (q_ cs σ.o):= .ite λhl=> .of λ_ Q E hQ _=>jK (hQ.newTup ok h rfl) (h.len▸hl)
theorem Ac1{cs:List CV}{vs:List AE}(ok:Ok σ)(h:Vs σ cs vs):Ev m V A (newList vs) σ (qx cs σ.o):= .ite λhl=> .of λ_ Q E hQ _=>VG (hQ.newLst ok h rfl) (h.len▸hl)
theorem BO0{a:DL}(h:Iu m k q fx es a):Aj m k q fx (.Tuple es kd pos) (A2 a):=λA env σ AI p=> .stand ((h _ _ _ _ _ p).bind λcs vs τ st ok h=>Ac5 ok h)
theorem BM1{a:DL}(h:Iu m k q fx es a):Aj m k q fx (.List es pos) (BU a):=λA env σ AI p=> .stand ((h _ _ _ _ _ p).bind λcs vs τ st ok h=>Ac1 ok h)
end
section
variable{fx:Fx}{n:AQ}{pos p1 p2:BK}{e l r x y:Ab}{es:List Ab}{f g:List CV->AL->R CV}{kd:Nat}
theorem Ev.leaf{rel:St->α->β->Prop}{t:Ao γ}{f:γ->Ao β}{r:R α}(x:γ)(h:∀(Q:γ->AN->Prop) E,Q x σ.s->Ac Ak A t Q E σ.s)(k:Ev m rel A (f x) σ r):Ev m rel A (t>>=f) σ r:=λhn ht Q E hQ hE=>Bm (wq.of (h _ _ (k hn ht Q E hQ hE)))
noncomputable def Km(σ:St)(u:AE):Prop:=∃T id,JS (.type T) "__getitem__"=Ax (AA (.builtin id))/\σ.s.TypeIs u T
structure Kg(m:Bool)(k:Nat)(q:Bool)(f:List CV->AL->R CV):Prop where
 ty:∀{σ c d u},Ok σ->V σ c u->f [c,d] σ.o≠ .no->Km σ u
 ev:BA m k q (λvs=>Hz (vs.getD 0 .none) (vs.getD 1 .none)) f
theorem Kg.on2{X:AL->CV->Option α}{Y:AL->CV->Option β}{rX:St->α->AE->Prop}{F:α->β->AL->R CV}(hX:Vw X rX)(hT:∀{σ a u},rX σ a u->Km σ u)(h:BA m k q (λvs=>Hz (vs.getD 0 .none) (vs.getD 1 .none)) (BN X Y F)):Kg m k q (BN X Y F):=
 ⟨λok hv hn=>(rT hn).elim λx h=>by obtain⟨y,a,b,e,e1,_⟩:=h;cases e;exact hT (hX ok e1 hv),h⟩
theorem Kg.alt(hf:Kg m k q f)(hg:Kg m k q g):Kg m k q (BP f g):=⟨λ{σ c d u} ok hv hn=>by
 unfold Mine.BP at hn
 cases e:f [c,d] σ.o with
 |no=>rw[e]at hn;exact hg.ty ok hv hn
 |ok=>exact hf.ty (d:=d) ok hv (by rw[e];nofun)
 |err=>exact hf.ty (d:=d) ok hv (by rw[e];nofun),hf.ev.alt hg.ev⟩
theorem oz{aU slice:Ab}{u v:AE}{rr:R CV}(h:Km σ u)(hg:Ev m V A (Hz u v) σ rr)(hs:Mn slice AD u v=Oi [u,v] (Hz u v)\/Mn slice AD u v=Oi [v,u] (Hz u v)):
  Ev m V A (getitemInPython u>>=λb=>Mn slice b u v>>=λr=>U8 aU u r>>=λ_=>Ax r) σ rr:=by
 refine B7 (h) λT id aJ=>?_
 rw[getitemInPython_of_ne aJ.2.not_modules]
 have fin:Ev m V A (Mn slice AD u v>>=λr=>U8 aU u r>>=λ_=>Ax r) σ rr:=by
  have Ip:∀{vs},Ev m V A (Oi vs (Hz u v)>>=λr=>U8 aU u r>>=λ_=>Ax r) σ rr:=(Ev.op hg).post λa v τ st ok h=> .leaf () (λQ E h=>wpAny_letTemporaryGo h) (.ret ok h)
  rcases hs with hs|hs<;>rw[hs]<;>exact Ip
 intro hn ht Q E hQ hE
 refine Bm (Bm (wq.of (jO aJ.2 aJ.1 ?_)))
 exact EM (fin hn ht Q E hQ hE)
theorem BN8{a b:D}(hf:Kg m k q f)(ha:Aj m k q fx l a)(hb:Aj m k q fx r b)(hs:∀o i,Mn r AD o i=Oi [o,i] (Hz o i)\/Mn r AD o i=Oi [i,o] (Hz o i)):
  Aj m k q fx (.Subscript l r pos) (AJ f a b):=λA env σ AI p=>(ha _ _ _ _ p).bind λc u τ st ok h=>(hb _ _ _ _ (p.step st ok)).holding.bind λd v υ Bp A6 h'=> .stand λhn=>
   have h:=(ok.kp Bp).v _ h
   oz (hf.ty A6 h hn) (hf.ev _ _ _ [u,v] ((p.r.step st).step Bp) A6 (.two h h')) (hs u v) hn
noncomputable def at?{α:Type}(l:List α)(i:Int):Option α:=if 0<=i then l[i.toNat]? else if 0<=i+l.length then l[(i+l.length).toNat]? else AB
noncomputable def Bx(x:AQ):T:=x.cps.toList
theorem qz(x:AQ):AU (Bx x)=x:=rfl
theorem gK(x:T):Bx (AU x)=x:=rfl
theorem BY(l:T):(AU l).length=l.length:=by exact DC
theorem at?_idx{l:List α}{i:Int}{x:α}(h:at? l i=AA x):∃k,ZM i l.length=AA k/\l[k]? =AA x:=by
 unfold at? at h
 unfold ZM
 by_cases h0:0<=i
 ·rw[if_pos h0]at h
  have hl:=(Gb.mp h).1
  exact⟨i.toNat,by simp[show ¬i<0 from LK.mpr h0,show 0<=i/\i<(l.length:Int)from⟨h0,(Int.toNat_lt h0).mp hl⟩],h⟩
 ·rw[if_neg h0]at h
  by_cases h3:0<=i+(l.length:Int)
  ·rw[if_pos h3]at h
   have hl:=(Gb.mp h).1
   exact⟨(i+l.length).toNat,by simp[show i<0 from Qg.mp h0,show 0<=i+(l.length:Int)/\i+(l.length:Int)<(l.length:Int)from⟨h3,(Int.toNat_lt h3).mp hl⟩],h⟩
  ·rw[if_neg h3]at h;first|exact Af h|cases h
theorem X8{i:Int}(h:B1 i=AC): -1073741824<i/\i<1073741824:=by
 cases i with
 |ofNat k=>exact⟨Yc (by decide) (Fi k),J0.mpr (of_decide_eq_true h)⟩
 |negSucc k=>
  rw[u6]
  exact⟨u7 (J0.mpr (of_decide_eq_true h):((k+1:Nat):Int)<(1073741824:Nat)),IS (u9 (Int.natCast_pos.mpr (IW k))) (show(0:Int)<1073741824 by decide)⟩
theorem uC{cs:List CV}{u:AE}(h:WE σ cs u):Km σ u:=by obtain⟨l,ws,n,rfl,h,_⟩:=h;exact⟨"list",_,list_getitem_lookup,Q0 (Bu h)⟩
theorem uF{cs:List CV}{u:AE}(h:V σ (.tup cs) u):Km σ u:=by obtain⟨l,ws,rfl,⟨n,h⟩,_⟩:=h;exact⟨"tuple",_,ii.lookup,Heap.IsTuple.typeIs (Bu h.1)⟩
theorem uD{t:T}{u:AE}(h:V σ (.str t) u):Km σ u:=by obtain⟨t,rfl⟩:=h;exact⟨"str",_,F.slot_str_getitem.lookup,Ha _ _ _⟩
theorem BV0{d:DK×List CV}{u:AE}(h:aj σ d u):Km σ u:=by
 obtain⟨a,ws,rfl,h,_⟩:=h
 obtain⟨ks,vs⟩:=d
 cases ks
 ·exact⟨"dict",_,xf.lookup,h.2.1.typeIs⟩
 ·exact⟨"dict",_,xf.lookup,h.2.1.typeIs⟩
noncomputable def Iv(mk:α->CV)(l:List α)(i:Int)(o:AL):R CV:=if B1 i=AC then(at? l i).elim .no λx=> .ok (mk x) o else .no
noncomputable def AW:List CV->AL->R CV:=BP (BN Cj Bq (Iv id)) (BP (BN H9 Bq (Iv id)) (BP (BN BX Bq (Iv λx=> .str [x])) (BN PS FV λd c o=>((Pg d.1 d.2 c).bind id).elim .no λx=> .ok x o)))
theorem ro:Kg m k q AW:=
 .alt (.on2 vL uC (.on2 vL vI λA σ a b u v hR ok h h'=> .ite λhs=> .opt λx hx=> .of λ_ Q E hQ _=>by
   obtain⟨p,ws,n,rfl,h1,h2⟩:=h
   refine A3 (h') λt AB9=>?_
   obtain rfl:=AB9
   have hb:=X8 hs
   unfold at? at hx
   by_cases h0:0<=b
   ·rw[if_pos h0]at hx
    refine A3 (h2.get hx) λz k_=>?_
    exact wpAny_getItem_list (Bu h1) h0 (IS hb.2 (by decide)) (by rw[IT];exact k_.1) (hQ.here rfl ok k_.2)
   ·rw[if_neg h0]at hx
    by_cases h3:0<=b+(a.length:Int)
    ·rw[if_pos h3,h2.len]at hx
     refine A3 (h2.get hx) λz lA=>?_
     rw[h2.len]at h3
     have Vl:ws.toArray.size=ws.length:=DC
     exact wpAny_getItem_list_neg (Bu h1) (Qg.mp h0) (by rw[Vl];exact Int.sub_nonneg.mp (by rw[Int.sub_neg];exact h3)) (OE (IS (by decide) hb.1)) (by rw[IT,Vl];exact lA.1) (hQ.here rfl ok lA.2)
    ·rw[if_neg h3]at hx;cases hx))
 (.alt (.on2 vT uF (.on2 vT vI λA σ a b u v hR ok h h'=> .ite λhs=> .opt λx hx=> .of λ_ Q E hQ _=>by
   obtain⟨p,ws,rfl,⟨n,h1⟩,h2⟩:=h
   obtain⟨t,rfl⟩:=h'
   have hb:=X8 hs
   refine A3 (at?_idx hx) λk' lB=>?_
   refine A3 (h2.get lB.2) λz lC=>?_
   exact PySem.P.getItem_tuple h1.1 (OE (IS (by decide) hb.1)) (IS hb.2 (by decide)) (by simp only[DC,<-h2.len];exact lB.1) (by rw[IT];exact lC.1) (hQ.here rfl ok lC.2)))
 (.alt (.on2 vS uD (.on2 vS vI λA σ a b u v hR ok ⟨t,h⟩ ⟨t',h'⟩=> .ite λhs=> .opt λx hx=> .of λ_ Q E hQ _=>by
   subst h h'
   have hb:=X8 hs
   refine A3 (at?_idx hx) λk' Nu=>?_
   refine PySem.P.getItem_str (c:=x) ?_ ?_ (hQ.tk rfl ok ⟨_,rfl⟩)
   ·rw[gn];exact⟨decide_eq_false (LK.mpr (OE (IS (by decide) hb.1))),decide_eq_false (Qg.mpr (IS hb.2 (by decide)))⟩
   ·rw[BY,Nu.1];exact(IT ..).trans Nu.2))
 (.on2 vD BV0 (.on2 vD vC λA σ d c u v hR ok h h'=> .opt λx hx=> .of λ_ Q E hQ _=>by
   obtain⟨a,ws,rfl,h1,h2⟩:=h
   refine A3 (C5.mp hx) λo lD=>?_
   obtain rfl:=lD.2
   obtain⟨knd,y,ps,hs,hd,hk,ho⟩:=kd ok h1 h2 h' lD.1
   refine A3 (ho.get) λz lE=>?_
   exact wpAny_getItem_of hk hd.mapOf lE.1 (hQ.tk rfl ok ((Kp.tk σ _).v _ lE.2))))))
section
theorem Ev.move{rel:St->α->β->Prop}{t:Ao γ}{f:γ->Ao β}{r:R α}(x:γ)(τ:St)(h:∀(Q:γ->AN->Prop) E,Q x τ.s->Ac Ak A t Q E σ.s)(st:Lt σ τ)(hle:σ.s.toks<=τ.s.toks)(k:Ev m rel A (f x) τ r):Ev m rel A (t>>=f) σ r:=λhn ht Q E hQ hE=>Bm (wq.of (h _ _ (k hn (CI ht hle) Q E (hQ.after st) (hE.after st))))
theorem Wd.om_mem{W:Wd}{i:Nat}{p:AK×AK}(h:W.ρ[i]? =AA p):W.om p.1/\W.om p.2:=⟨⟨p,Dv h, .inl rfl⟩,⟨p,Dv h, .inr rfl⟩⟩
theorem Ok.FMk{F:AK->Prop}(ok:Ok σ){s':AN}(hk:∀a o,σ.W.F a->σ.h.get? a=AA o->s'.heap.get? a=AA o):∀a,σ.W.F a->σ.W.M a/\∃o es ep,s'.heap.get? a=AA o/\o.data= .dict es ep:=λa h=>⟨(ok.FM a h).1,(ok.FM a h).2.imp λo h'=>h'.imp λ_ h'=>h'.imp λ_ h'=>⟨hk a o h h'.1,h'.2⟩⟩
section
variable{s':AN}(ok:Ok σ)(hk:∀a o,σ.h.get? a=AA o->s'.heap.get? a=AA o)(hg:s'.gens=σ.s.gens)(ho:s'.os=σ.s.os)
include hk
theorem Av.grow:Av X σ {σ with s:=s'}:=⟨⟨[],(BJ _).symm⟩,λ_ h=>h,λ_ h=> .inl h,λ_ h=> .inl h,λ_=>Fh,λa o e=>⟨o,hk a o e⟩,λa o e _ _=>⟨λ_=>hk a o e,o.slots,hk a o e⟩⟩
include ok hg ho
theorem Ok.grow:Ok {σ with s:=s'}:=⟨ok.len,ok.dist,ok.omM,ok.FMk (F:=σ.W.F) λa o _ h=>hk a o h,λa h=>⟨(ok.Mlt a h).1.imp λo h'=>hk a o h',(ok.Mlt a h).2⟩,λb o h=>hk b o (ok.keep b o h),hg.trans ok.gens,ho.trans ok.os,λi o p hi hp=>(ok.rel i o p hi hp).kp (ok.kp (.grow hk)) (hk _) (hk _)⟩
theorem VC.grow{rel:St->α->β->Prop}{r:R α}{Q:β->AN->Prop}(h:VC rel σ r Q){a:α}{v:β}(e:r= .ok a σ.o)(x:rel {σ with s:=s'} a v):Q v s':=h a v {σ with s:=s'} e (.grow hk) (ok.grow hk hg ho) x
end
section
variable{s':AN}{i:Nat}{p:AK×AK}{o':AL}
theorem Av.set(hi:σ.W.ρ[i]? =AA p)(E7:∀a o,σ.h.get? a=AA o->∃o',s'.heap.get? a=AA o')(hk:∀a o,σ.h.get? a=AA o->a≠p.1->a≠p.2->s'.heap.get? a=AA o):Av X σ ⟨σ.W,o',s'⟩:=
 ⟨⟨[],(BJ _).symm⟩,λ_ h=>h,λ_ h=> .inl h,λ_ h=> .inl h,λ_=>Fh,E7,λa o e ho _=>
  have h:=hk a o e (λq=>ho (q▸(Wd.om_mem hi).1)) λq=>ho (q▸(Wd.om_mem hi).2)
  ⟨λ_=>h,o.slots,h⟩⟩
theorem Ok.set(ok:Ok σ)(hi:σ.W.ρ[i]? =AA p)(E7:∀a o,σ.h.get? a=AA o->∃o',s'.heap.get? a=AA o')(hk:∀a o,σ.h.get? a=AA o->a≠p.1->a≠p.2->s'.heap.get? a=AA o)(hg:s'.gens=σ.s.gens)(ho:s'.os=σ.s.os){o':CO}
  (hr:GN ⟨σ.W,σ.o.set i o',s'⟩ o' p):Ok ⟨σ.W,σ.o.set i o',s'⟩:=by
 have B3:∀a,¬σ.W.om a->a≠p.1/\a≠p.2:=λa h=>⟨λq=>h (q▸(Wd.om_mem hi).1),λq=>h (q▸(Wd.om_mem hi).2)⟩
 refine⟨by show _=(σ.o.set i o').length;rw[Ud];exact ok.len,ok.dist,ok.omM,ok.FMk (F:=σ.W.F) λa o hF h=>hk a o h (B3 a λq=>(ok.omM a q).2 hF).1 (B3 a λq=>(ok.omM a q).2 hF).2,λa h=>⟨(ok.Mlt a h).1.elim λo h'=>E7 a o h',(ok.Mlt a h).2⟩,λb o h=>hk b o (ok.keep b o h) (λq=>Bt h (q▸(ok.Mlt _ (ok.omM _ (Wd.om_mem hi).1).1).2)) λq=>Bt h (q▸(ok.Mlt _ (ok.omM _ (Wd.om_mem hi).2).1).2),hg.trans ok.gens,ho.trans ok.os,λj o q h1 h2=>?_⟩
 by_cases e:i=j
 ·subst e
  cases (hi.symm.trans h2)
  have h1:(σ.o.set i o')[i]? =AA o:=h1
  rw[hW (by simp only[<-ok.len];exact GV hi)]at h1
  exact CU h1▸hr
 ·have h1:(σ.o.set i o')[j]? =AA o:=h1
  rw[Ub e]at h1
  exact(ok.rel j o q h1 h2).kp (ok.kp (Av.set (o':=σ.o.set i o') hi E7 hk)) (λob Zv=>hk _ ob Zv (ok.dist j i q p h2 hi λx=>e x.symm).1 (ok.dist j i q p h2 hi λx=>e x.symm).2.1) λob Zv=>hk _ ob Zv (ok.dist j i q p h2 hi λx=>e x.symm).2.2.1 (ok.dist j i q p h2 hi λx=>e x.symm).2.2.2
noncomputable def Wd.add(W:Wd)(p:AK×AK):Wd:={ρ:=W.ρ++[p],M:=λa=>W.M a\/a=p.1\/a=p.2,F:=W.F}
theorem Wd.om_add{W:Wd}{a:AK}:(W.add p).om a↔W.om a\/a=p.1\/a=p.2:=
 ⟨λ⟨q,hq,e⟩=>(D8.mp hq).elim (λh=> .inl ⟨q,h,e⟩) λh=> .inr (Ca.mp h▸e),λh=>h.elim (λ⟨q,h,e⟩=>⟨q,Yp _ h,e⟩) λe=>⟨p,iE _ (Ca.mpr rfl),e⟩⟩
theorem Av.add(h1:σ.h.get? p.1=AB)(h2:σ.h.get? p.2=AB)(hk:∀a o,σ.h.get? a=AA o->s'.heap.get? a=AA o):Av X σ ⟨σ.W.add p,o',s'⟩:=
 have new:∀{P:Prop} {a},P\/a=p.1\/a=p.2->P\/σ.h.get? a=AB:=λh=>h.imp id λh=>h.elim (λe=>e▸h1) λe=>e▸h2
 ⟨⟨[p],rfl⟩,λa h=> .inl h,λa h=>new h,λa h=>new (Wd.om_add.mp h),λ_=>Fh,λa o e=>⟨o,hk a o e⟩,λa o e _ _=>⟨λ_=>hk a o e,o.slots,hk a o e⟩⟩
theorem Ok.none_of(ok:Ok σ){a:AK}(h:σ.h.get? a=AB):BH.heap.get? a=AB:=match e:BH.heap.get? a with
 |none=>rfl
 |some o=>Bt (ok.keep a o e) h
theorem Fa{h:BS}{a b:AK}(x:∃o,h.get? a=AA o)(y:h.get? b=AB):a≠b:=λe=>x.elim λ_ x=>Bt x (e▸y)
theorem Je{l:List α}{a:α}{i:Nat}{q:α}(h:(l++[a])[i]? =AA q):l[i]? =AA q/\i<l.length\/i=l.length/\q=a:=by
 rcases wO i l.length with h'|h'|h'
 ·rw[MU h']at h;exact .inl ⟨h,h'⟩
 ·subst h';rw[Qk (BL _),LR]at h;exact .inr ⟨rfl,(CU h).symm⟩
 ·have:=GV h;rw[A1]at this;exact absurd this (Cp.mpr h')
theorem Ok.add(ok:Ok σ)(h1:σ.h.get? p.1=AB)(h2:σ.h.get? p.2=AB)(l1:∃o,s'.heap.get? p.1=AA o)(l2:∃o,s'.heap.get? p.2=AA o)(hk:∀a o,σ.h.get? a=AA o->s'.heap.get? a=AA o)(hg:s'.gens=σ.s.gens)(ho:s'.os=σ.s.os){o':CO}
  (hr:GN ⟨σ.W.add p,σ.o++[o'],s'⟩ o' p):Ok ⟨σ.W.add p,σ.o++[o'],s'⟩:=by
 have lt:∀{i:Nat} {q:AK×AK},σ.W.ρ[i]? =AA q->q.1≠p.1/\q.1≠p.2/\q.2≠p.1/\q.2≠p.2:=λe=>
  ⟨Fa ((ok.Mlt _ (ok.omM _ (Wd.om_mem e).1).1).1) h1,Fa ((ok.Mlt _ (ok.omM _ (Wd.om_mem e).1).1).1) h2,Fa ((ok.Mlt _ (ok.omM _ (Wd.om_mem e).2).1).1) h1,Fa ((ok.Mlt _ (ok.omM _ (Wd.om_mem e).2).1).1) h2⟩
 refine⟨by show(σ.W.ρ++[p]).length=(σ.o++[o']).length;simp only[A1,A1,ok.len];rfl,λi j q r hi hj B3=>?_,λa h=>(Wd.om_add.mp h).elim (λh=>⟨.inl (ok.omM a h).1,(ok.omM a h).2⟩) λh=>⟨.inr h,(λa h q=>h.elim (Fa (ok.Mlt a (ok.FM a q).1).1 h1) (Fa (ok.Mlt a (ok.FM a q).1).1 h2):∀a,a=p.1\/a=p.2->¬σ.W.F a) a h⟩,λa h=>(ok.FMk (F:=σ.W.F) (λa o _ h=>hk a o h) a h).imp_left .inl,λa h=>h.elim (λh=>⟨(ok.Mlt a h).1.imp λo h'=>hk a o h',(ok.Mlt a h).2⟩) λh=>h.elim (λh=>h▸⟨l1,ok.none_of h1⟩) λh=>h▸⟨l2,ok.none_of h2⟩,λb o h=>hk b o (ok.keep b o h),hg.trans ok.gens,ho.trans ok.os,λi o q hi hj=>?_⟩
 ·rcases Je hi with⟨a1,b1⟩|⟨a1,rfl⟩<;>rcases Je hj with⟨a2,b2⟩|⟨a2,rfl⟩
  ·exact ok.dist i j q r a1 a2 B3
  ·exact lt a1
  ·have c:=lt a2;exact⟨c.1.symm,c.2.2.1.symm,c.2.1.symm,c.2.2.2.symm⟩
  ·exact absurd (a1.trans a2.symm) B3
 ·rcases Je hj with⟨a1,b1⟩|⟨a1,rfl⟩
  ·rcases Je hi with⟨c1,_⟩|⟨c1,_⟩
   ·exact(ok.rel i o q c1 a1).kp (ok.kp (Av.add (o':=σ.o++[o']) h1 h2 hk)) (hk _) (hk _)
   ·rw[c1,ok.len]at b1;exact absurd b1 (Eu _)
  ·rcases Je hi with⟨_,b1⟩|⟨_,rfl⟩
   ·rw[a1,ok.len]at b1;exact absurd b1 (Eu _)
   ·exact hr
end
theorem get?_size(h:BS):h.get? h.objs.size=AB:=match e:h.get? h.objs.size with
 |none=>rfl
 |some o=>absurd (Ew e) (Eu _)
theorem Wd.add_at{W:Wd}{p:AK×AK}{n:Nat}(h:W.ρ.length=n):(W.add p).ρ[n]? =AA p:=by
 show(W.ρ++[p])[n]? =_
 rw[<-h,Qk (BL _),LR];rfl
noncomputable abbrev St.newL(σ:St)(vs:List AE)(t:Nat):AN:={σ.s with heap:=σ.s.heap.push {cls:= .type "list",data:= .seq vs.toArray},toks:=t}
noncomputable abbrev St.me(σ:St):AK×AK:=(σ.h.objs.size,σ.h.objs.size)
theorem VC.newObj{r:R CV}{Q:AE->AN->Prop}(h:VC V σ r Q){cs:List CV}{vs:List AE}{t:Nat}(ok:Ok σ)(hv:Vs σ cs vs)(e:r= .ok (.obj σ.o.length) (σ.o++[.list cs])):Q (.ref σ.h.objs.size) (σ.newL vs t):=
 have hk:∀a o,σ.h.get? a=AA o->(σ.newL vs t).heap.get? a=AA o:=λa o h=>CW _ h
 h (.obj σ.o.length) _ ⟨σ.W.add σ.me,σ.o++[.list cs],σ.newL vs t⟩ e (Av.add (X:=HJ) (p:=σ.me) (o':=σ.o++[.list cs]) (get?_size _) (get?_size _) hk) (ok.add (p:=σ.me) (s':=σ.newL vs t) (o':= .list cs) (get?_size _) (get?_size _) ⟨_,(CQ _ rfl:(σ.newL vs t).heap.get? σ.h.objs.size=AA (Dk vs.toArray 0))⟩ ⟨_,(CQ _ rfl:(σ.newL vs t).heap.get? σ.h.objs.size=AA (Dk vs.toArray 0))⟩ hk rfl rfl ⟨rfl,vs,0,(CQ _ rfl:(σ.newL vs t).heap.get? σ.h.objs.size=AA (Dk vs.toArray 0)),(ok.kp (Av.add (X:=HJ) (p:=σ.me) (o':=σ.o++[.list cs]) (get?_size _) (get?_size _) hk)).vs _ hv⟩) ⟨_,Wd.add_at ok.len,rfl⟩
noncomputable def Ay0(cs:List CV)(h:AL):R CV:=if cs.length<=Ah then .ok (.obj h.length) (h++[.list cs])else .no
noncomputable def Go(a:DL):D:=λAI objs=>(a AI objs).bind Ay0
theorem BM8{a:DL}(h:Iu m k q fx es a):Aj m k q fx (.List es pos) (Go a):=λA env σ AI p=> .stand ((h _ _ _ _ _ p).bind λcs vs τ st ok h=> .ite λhl=> .of λ_ Q E hQ _=>VG (hQ.newObj ok h rfl) (h.len▸hl))
end
noncomputable def Cx(o:Option Int)(n d:Nat):Nat:=match o with
 |none=>d
 |some i=>(max 0 (min (if i<0 then i+n else i) n)).toNat
noncomputable def Cy{α:Type}(l:List α)(lo hi:Option Int):List α:=(l.drop (Cx lo l.length 0)).take (Cx hi l.length l.length - Cx lo l.length 0)
theorem bP{x:Int}:((max 0 x).toNat:Int)=max 0 x:=Yg (Int.le_max_left ..)
theorem AQ2(lo hi:Option Int)(n:Nat):sliceBounds lo hi AB n=((Cx lo n 0:Int),(Cx hi n n:Int),1):=by
 cases lo<;>cases hi<;>simp only[Cx,bP]<;>rfl
theorem tZ(lo hi:Option Int)(n:Nat):wu lo hi 1 n=sliceRange (Cx lo n 0:Int) (Cx hi n n:Int) 1:=by
 cases lo<;>cases hi<;>simp only[Cx,bP]<;>rfl
theorem AT4(i:Int)(n:Nat):(if i<0 then max (i+n) 0 else min i n)=((max 0 (min (if i<0 then i+n else i) (n:Int))).toNat:Int):=by
 rw[bP]
 by_cases h:i<0
 ·rw[if_pos h,if_pos h,Int.min_eq_left (OF (Int.add_le_add_right (OE h) n) (Int.le_of_eq (Qh _))),Int.max_comm]
 ·rw[if_neg h,if_neg h,Yd (Int.le_min.mpr ⟨LK.mp h,Fi n⟩)]
theorem AJ8(lo hi:Option Int)(n:Nat):iW lo hi 1 (n:Int)=((Cx lo n 0:Int),(Cx hi n n:Int)):=by
 unfold iW Cx
 cases lo<;>cases hi<;>simp only[if_neg (show ¬(1:Int)<0 by decide),AT4]<;>rfl
theorem nQ(hi:Option Int)(n:Nat):Cx hi n n<=n:=by
 cases hi with
 |none=>exact BL n
 |some i=>exact Int.toNat_le.mpr (Int.max_le.mpr ⟨Fi n,Int.min_le_right _ _⟩)
theorem A42(a b:Nat):Y6 (a:Int) (b:Int) 1=b - a:=by
 unfold Y6
 rw[if_pos (by decide),Int.ediv_one]
 by_cases h:(a:Int)<b
 ·rw[if_pos h,vB]
  exact Int.toNat_sub b a
 ·rw[if_neg h]
  exact(JH (JB.mp (LK.mp h))).symm
theorem eS(l:List α)(lo hi:Option Int):(Cy l lo hi).length=Cx hi l.length l.length - Cx lo l.length 0:=by
 unfold Cy
 rw[JE,OI]
 exact LO (iP (nQ hi l.length) _)
theorem BH1(ws:List AE)(lo hi:Option Int):slicePick ws.toArray lo hi AB=(Cy ws lo hi).toArray:=by
 unfold slicePick
 rw[AQ2]
 simp only[jD,pick_run]
 unfold Cy
 rw[DC]
theorem AV3(l:List α)(lo hi:Option Int)(h:(Cy l lo hi).length=l.length):Cy l lo hi=l:=by
 have h2:=nQ hi l.length
 rw[eS]at h
 unfold Cy
 rw[h]
 cases l with
 |nil=>simp only[List.drop_nil,wC]
 |cons a l=>
  rw[Yz.mp (wK (AO (Nat.add_le_of_le_sub (Et (wL (by rw[h];exact IW _))) (BR h.symm)) h2)),g7,OK]
theorem BU9(a:T)(lo hi:Option Int):ir (AU a) lo hi=AU (Cy a lo hi):=by
 have e:(wu lo hi 1 (AU a).length).filterMap ((AU a).cps[·]?)=Cy a lo hi:=by
  simp only[tZ,jD,pick_run,BY];rfl
 unfold ir
 split
 ·rename_i h
  rw[MR]at h
  have h2:=CH h.2
  rw[tZ,jD,Ay,OJ,BY]at h2
  rw[AV3 _ _ _ ((eS ..).trans h2)]
 ·rw[e]
theorem Vs.cut{cs:List CV}{vs:List AE}(lo hi:Option Int)(x:Vs σ cs vs):Vs σ (Mine.Cy cs lo hi) (Mine.Cy vs lo hi):=by
 unfold Mine.Cy
 rw[x.len]
 exact(x.drop _).take _
theorem tE{E:AE->AN->Prop}{s:AN}{v:AE}{o:Option Int}(hp:Q4 v o){Q:Option Int->AN->Prop}(h:Q o s):Ac Ak A (Builtin.Slice.slicePartIndex v) Q E s:=by
 cases hp with
 |none=>exact wY h
 |int i t=>exact PyProof.Rows.slicePart_int h
theorem BH0{E:AE->AN->Prop}{s:AN}{sl:AK}{n:Nat}{vl vu:AE}{lo hi:Option Int}{Q:Int×Int×Nat->AN->Prop}(hs:s.heap.IsSliceOf sl vl vu .none)(pl:Q4 vl lo)(pu:Q4 vu hi)
  (h:Q ((Cx lo n 0:Int),1,Cx hi n n - Cx lo n 0) s):Ac Ak A (wn (.ref sl) (Ax (n:Int))) Q E s:=by
 refine A3 (hs) λos PB=>?_
 unfold wn Builtin.Slice.sliceFields
 refine AR (AR (RI PB.1 PB.2.2 (x:=vl) rfl (AR (RI PB.1 PB.2.2 (x:=vu) rfl (AR (RI PB.1 PB.2.2 (x:= .none) rfl (Aa ?_)))))))
 refine AR (wY ?_)
 refine AR (tE pl (AR (tE pu (AR (Aa ?_)))))
 show Ac _ _ (match iW lo hi 1 (n:Int)with|(lo,hi)=>Ax (lo,(1:Int),Y6 lo hi 1)) _ _ s
 rw[AJ8]
 show Ac _ _ (Ax ((Cx lo n 0:Int),(1:Int),Y6 (Cx lo n 0:Int) (Cx hi n n:Int) 1)) _ _ s
 rw[A42]
 exact Aa h
theorem A41(xs:List AE)(a k:Nat):((Eo k).filterMap λ(k:Nat)=>xs.toArray[((a:Int)+(k:Int)*1).toNat]?).toArray=((xs.drop a).take k).toArray:=by
 rw[(funext λk=>congrArg (xs.toArray[·]?) (show((a:Int)+(k:Int)*1).toNat=a+k by rw[Int.mul_one];rfl):(λ(k:Nat)=>xs.toArray[((a:Int)+(k:Int)*1).toNat]?)=(λx=>xs.toArray[x]?)∘λx=>a+x),<-List.filterMap_map,pick_run]
theorem Ai6{E:AE->AN->Prop}{s:AN}{t sl:AK}{ws:List AE}{n:Nat}{vl vu:AE}{lo hi:Option Int}{Q:AE->AN->Prop}(ht:s.heap.get? t=AA (Hq ws.toArray n))(hs:s.heap.IsSliceOf sl vl vu .none)(pl:Q4 vl lo)(pu:Q4 vu hi)
  (CY:(Cy ws lo hi).length<ws.length) (h:Q (.ref s.heap.objs.size) {s with heap:=s.heap.push {cls:= .type "tuple",data:= .seq (Cy ws lo hi).toArray}}) (Fu:ws.length<=FI):Ac Ak A (Hz (.ref t) (.ref sl)) Q E s:=by
 have M6:IsTup s.heap t ws.toArray:=⟨_,ht,by first|exact⟨rfl,n,rfl⟩|exact⟨rfl,rfl,n,rfl⟩|exact⟨rfl,rfl⟩⟩
 have yl:sizeOk (.seq (Cy ws lo hi).toArray):=by
  show(Cy ws lo hi).toArray.size<=FI
  rw[DC];exact AO (Et CY) Fu
 have yV:s.TypeIs (.ref sl) "slice":=hs.elim λos h=>⟨os,h.1,h.2.1⟩
 unfold Hz
 refine D_ ?_
 refine AR (wpAny_sequenceKey M6.typeIs (by decide) ?_)
 refine AR (jH (name:=CR "__getitem__") M6.typeIs ii (RH ii M6.typeIs F.entry_tuple_getitem ?_ (F.args_tuple_getitem_2 _ _)))
 show Ac _ _ (Builtin.Tuple.tupleItemsOf (.ref t)>>=_) _ _ s
 refine AR (tupleItemsOf_ M6 (AR (ZS yV ?_)))
 refine MQ (by decide) ?_
 refine AR (BH0 hs pl pu ?_)
 rw[DC]
 rw[eS]at CY
 show Ac _ _ (if((Cx lo ws.length 0:Int)==0&&(1:Int)==1&&(Cx hi ws.length ws.length - Cx lo ws.length 0)==ws.length)=AC then _ else _) _ _ s
 rw[beq_eq_false_iff_ne.mpr (IU CY),LH,if_neg (by decide),A41]
 exact AR (Le (Aa ⟨_,rfl,Aa h⟩) yl)
noncomputable def NL(m:Bool)(k:Nat)(q:Bool)(fx:Fx)(e:Option Ab)(d:D):Prop:=∀A env σ AI,BW A k q fx env σ AI->Ev m V A (evalPart e env) σ (d AI σ.o)
theorem BJ1:NL m k q fx AB (AG .none):=λA env σ AI p=>by simp only[evalPart_none];exact .ret p.ok rfl
theorem BJ2{d:D}(h:Aj m k q fx e d):NL m k q fx (AA e) d:=λA env σ AI p=>by simp only[evalPart_some];exact h _ _ _ _ p
noncomputable def F5(_:AL)(c:CV):Option (Option Int):=DX c AB (zn:=AA AB) (zi:=λi=>AA (AA i))
noncomputable def am(_:St)(o:Option Int)(v:AE):Prop:=∃p:Option (Int×Cg),v=partValue p/\p.map (·.1)=o/\Q4 v o
theorem uU:Vw F5 am:=λ{σ c a v} _ e h=>by
 cases c with
 |none=>cases e;cases h;exact⟨AB,rfl,rfl, .none⟩
 |int i=>cases e;obtain⟨t,rfl⟩:=h;exact⟨AA (i,t),rfl,rfl, .int i t⟩
 |_=>first|exact Af e|cases e
noncomputable def I5{δ:Type}(X:AL->CV->Option α)(Y:AL->CV->Option β)(Z:AL->CV->Option δ)(F:α->β->δ->AL->R CV)(cs:List CV)(o:AL):R CV:=match cs with
 |[x,y,z]=>(X o x).elim .no λa=>(Y o y).elim .no λb=>(Z o z).elim .no λc=>F a b c o
 |_=> .no
theorem rV{δ:Type}{X:AL->CV->Option α}{Y:AL->CV->Option β}{Z:AL->CV->Option δ}{F:α->β->δ->AL->R CV}{cs:List CV}{o:AL}(h:I5 X Y Z F cs o≠ .no):∃x y z a b c,cs=[x,y,z]/\X o x=AA a/\Y o y=AA b/\Z o z=AA c/\I5 X Y Z F cs o=F a b c o:=match cs,h with
 |[x,y,z],h=>by
  obtain⟨a,ea⟩:=HG (x:=X o x) h
  have e1:I5 X Y Z F [x,y,z] o=(Y o y).elim .no λb=>(Z o z).elim .no λc=>F a b c o:=by show(X o x).elim _ _=_;rw[ea];rfl
  rw[e1]at h
  obtain⟨b,eb⟩:=HG h
  rw[eb]at h e1
  obtain⟨c,ec⟩:=HG (x:=Z o z) h
  exact⟨x,y,z,a,b,c,rfl,ea,eb,ec,by rw[e1];show(Z o z).elim _ _=_;rw[ec];rfl⟩
 |[],h|[_],h|[_,_],h|_::_::_::_::_,h=>absurd rfl h
theorem BA.on3{δ:Type}{t:List AE->Ao AE}{X:AL->CV->Option α}{Y:AL->CV->Option β}{Z:AL->CV->Option δ}{rX:St->α->AE->Prop}{rY:St->β->AE->Prop}{rZ:St->δ->AE->Prop}{F:α->β->δ->AL->R CV}(hX:Vw X rX)(hY:Vw Y rY)(hZ:Vw Z rZ)
  (h:∀A σ a b c u v z,Bs A k q σ->Ok σ->rX σ a u->rY σ b v->rZ σ c z->Ev m V A (t [u,v,z]) σ (F a b c σ.o)):BA m k q t (I5 X Y Z F):=λA σ cs vs hR ok hv hn ht=>by
 refine uo (rV hn) λx y z a b c R5=>?_
 obtain rfl:=R5.1
 obtain⟨u,_,rfl,hu,v,_,rfl,hv,z,_,rfl,hz,rfl⟩:=hv
 rw[R5.2.2.2.2]at hn⊢
 exact h A σ a b c u v z hR ok (hX ok R5.2.1 hu) (hY ok R5.2.2.1 hv) (hZ ok R5.2.2.2.1 hz) hn ht
noncomputable def C1:List CV->AL->R CV:=BP (I5 Cj F5 F5 λl a b o=>if l.length<=Ah then .ok (.lst (Cy l a b)) o else .no) (BP (I5 BX F5 F5 λl a b o=>if l.length<=Ah then .ok (.str (Cy l a b)) o else .no)
 (I5 H9 F5 F5 λl a b o=>if l.length<=Ah/\(Cy l a b).length<l.length then .ok (.tup (Cy l a b)) o else .no))
structure Kh(m:Bool)(k:Nat)(q:Bool)(f:List CV->AL->R CV):Prop where
 h:∀{A σ c x y u vl vu s},Bs A k q σ->Ok σ->V σ c u->V σ x vl->V σ y vu->σ.h.IsSliceOf s vl vu .none->f [c,x,y] σ.o≠ .no->Km σ u/\Ev m V A (Hz u (.ref s)) σ (f [c,x,y] σ.o)
theorem Kh.alt(hf:Kh m k q f)(hg:Kh m k q g):Kh m k q (BP f g):=⟨λ{A σ c x y u vl vu s} hR ok h1 h2 h3 hs hn=>by
 have hf:=hf.h hR ok h1 h2 h3 hs
 unfold Mine.BP at hn⊢
 cases e:f [c,x,y] σ.o with
 |no=>rw[e]at hn;exact hg.h hR ok h1 h2 h3 hs hn
 |ok=>rw[e]at hf;exact hf (by intro h;cases h)
 |err=>rw[e]at hf;exact hf (by intro h;cases h)⟩
theorem Kh.on{X:AL->CV->Option α}{rX:St->α->AE->Prop}{F:α->Option Int->Option Int->AL->R CV}(hX:Vw X rX)(hT:∀{σ a u},rX σ a u->Km σ u)
  (h:∀{A σ a x y u vl vu s},Bs A k q σ->Ok σ->rX σ a u->am σ x vl->am σ y vu->σ.h.IsSliceOf s vl vu .none->Ev m V A (Hz u (.ref s)) σ (F a x y σ.o)):Kh m k q (I5 X F5 F5 F):=⟨λ{A σ c x y u vl vu s} hR ok h1 h2 h3 hs hn=>by
 refine uo (rV hn) λ_ _ _ a b d PC=>?_
 cases PC.1
 rw[PC.2.2.2.2]
 exact⟨hT (hX ok PC.2.1 h1),h hR ok (hX ok PC.2.1 h1) (uU ok PC.2.2.1 h2) (uU ok PC.2.2.2.1 h3) hs⟩⟩
theorem A48:Kh m k q C1:=
 .alt (.on vL uC λ{A σ l a b u vl vu s} hR ok h ha hb hs=> .ite λhl=> .of λ_ Q E hQ _=>by
   obtain⟨z,ws,n,rfl,h1,h2⟩:=h
   refine wpAny_getItem_list_slice (Bu h1) hs ha.choose_spec.2.2 hb.choose_spec.2.2 .none (by intro h;cases h) ?_ (by simp only[DC,<-h2.len];exact hl)
   rw[BH1]
   exact hQ.newLst ok (h2.cut a b) rfl)
 (.alt (.on vS uD λ{A σ l a b u vl vu s} hR ok h ha hb hs=> .ite λhl=> .of λ_ Q E hQ _=>by
   obtain⟨t,rfl⟩:=h
   obtain⟨p,rfl,rfl,_⟩:=ha
   obtain⟨p',rfl,rfl,_⟩:=hb
   refine wpAny_getItem_str_slice (l:=p) (u:=p') (st:=AB) hs rfl (post_val_or_str ⟨?_,λt' k=>?_⟩)
   ·exact AO (Txt.slice_le _ _ _) (by rw[<-At2,BY];exact hl)
   ·show Q (.str (ir (AU l) (p.map (·.1)) (p'.map (·.1))) t') _
    rw[BU9]
    exact hQ.tk rfl ok ⟨_,rfl⟩)
 (.on vT uF λ{A σ l a b u vl vu s} hR ok h ha hb hs=> .ite λhl=> .of λ_ Q E hQ _=>by
   obtain⟨z,ws,rfl,⟨n,h1⟩,h2⟩:=h
   refine Ai6 h1.1 hs ha.choose_spec.2.2 hb.choose_spec.2.2 ?_ (hQ.newTup ok (h2.cut a b) rfl) (by rw[<-h2.len];exact hl.1)
   simp only[<-(h2.cut a b).len,<-h2.len];exact hl.2))
noncomputable def DY(f:List CV->AL->R CV)(a b c:D):D:=λAI objs=>(a AI objs).bind λx h=>(b AI h).bind λy h'=>(c AI h').bind λz JU=>f [x,y,z] JU
inductive AI2(σ:St)(p:CV×CV)(v:AE):Prop
 |mk (s:AK) (vl vu:AE) (e:v= .ref s) (h:σ.h.IsSliceOf s vl vu .none) (h1:V σ p.1 vl) (h2:V σ p.2 vu)
theorem Ac4{lo hi:Option Ab}{b c:D}{env:A7}{AI:AY}(hb:NL m k q fx lo b)(hc:NL m k q fx hi c)(p:BW A k q fx env σ AI):Ev m AI2 A (B_ (.Slice lo hi AB p1) env) σ ((b AI σ.o).bind λy h=>(c AI h).bind λz h=> .ok (y,z) h):=
 (hb _ _ _ _ p).bind λy vl τ st ok h=>((hc _ _ _ _ (p.step st ok)).holding.bind λz vu υ Bp A6 h'=> .leaf Uz (λQ E h=>D_ (Aa h)) (.of λ_ Q E hQ _=>Le
  (hQ _ _ (υ.push _ _) rfl (.push _ _) (A6.push _ _) ⟨_,_,_,rfl,⟨_,CQ _ rfl,rfl,rfl⟩,(A6.kp (.push _ _)).v _ ((ok.kp Bp).v _ h),(A6.kp (.push _ _)).v _ h'⟩)))
theorem BN5{lo hi:Option Ab}{a b c:D}(hf:Kh m k q f)(ha:Aj m k q fx l a)(hb:NL m k q fx lo b)(hc:NL m k q fx hi c):Aj m k q fx (.Subscript l (.Slice lo hi AB p1) pos) (DY f a b c):=λA env σ AI p=>
 (ha _ _ _ _ p).bind λx u τ st ok h=>by
  have key:=(Ac4 (p1:=p1) hb hc (p.step st ok)).holding (vs:=[u])|>.bind (rel':=V) (g:=λz h=>f [x,z.1,z.2] h) (f:=λi=>GI pos>>=λ_=>getitemInPython u>>=λb=>Mn (.Slice lo hi AB p1) b u i>>=λr=>U8 l u r>>=λ_=>Ax r)
   λz v υ Bp A6 hz=> .stand λhn=>by
    obtain⟨s,vl,vu,rfl,hs,h1,h2⟩:=hz
    have:=hf.h ((p.step st ok).r.step Bp) A6 ((ok.kp Bp).v _ h) h1 h2 hs hn
    exact oz this.1 this.2 (.inr rfl) hn
  rw[R.bind_bind]at key
  simp only[R.bind_bind]at key
  exact key
theorem Ev.keep{rel:St->α->β->Prop}{t:Ao β}{r:R α}{vs:List AE}(h:Ev m rel A t σ r):Ev m rel A (t.keep vs) σ r:=λhn ht Q E hQ hE=>Be9 (h hn ht Q E hQ hE)
theorem Ev.cond{rel:St->α->β->Prop}{t u:Ao β}{r:R α}{c:Prop}[Decidable c](h:Ev m rel A t σ r)(h':Ev m rel A u σ r):Ev m rel A (if c then t else u) σ r:=by by_cases e:c;rw[if_pos e];exact h;rw[if_neg e];exact h'
noncomputable abbrev G_(f:AE):Prop:=∃k,Looks Ak BH.heap (keeperOf f) k
theorem MB{id:String}:G_ (.builtin id):=⟨.machine, .now⟩
theorem Nn{id:String}:G_ (.type id):=⟨.machine, .now⟩
theorem Em{f:AE}(h:keepIn (K5 w.params) f=AC):G_ f:=(keeps_K h _ KX).imp λ_ h=>h.2
theorem S4{δ:Type}{rel':St->δ->AE->Prop}{rel:St->α->HW->Prop}{fv:AE}{first:List AE}{args:List (Bool×Ao AE)}{kws:List (Option AQ×Ao AE)}{ra:R α}{g:α->AL->R δ}(Rs:(args.any (·.1)||kws.any (·.1.isNone))=AD)(hk:G_ fv)
  (ha:Ev m rel A (Mi fv AC args kws) σ ra) (hc:∀cs a τ,Lt σ τ->Ok τ->rel τ cs a->Ev m rel' A (call fv (first++a.pos) a.kw) τ (g cs τ.o)):Ev m rel' A (Mf pos fv first args kws) σ (ra.bind g):=by
 unfold Mf
 refine ha.holding.bind λcs a τ st ok h=> .stand ?_
 revert Rs
 generalize (args.any (·.1)||kws.any (·.1.isNone))=b
 intro Rs
 subst Rs
 obtain⟨kk,L⟩:=hk
 refine .leaf kk (λQ E hq=>(L.keeps ok.keep).here hq) ?_
 have Ip:∀{t:Ao AE},Ev m rel' A t τ (g cs τ.o)->Ev m rel' A (t>>=λr=>HY [r] point>>=λ_=>Ax r) τ (g cs τ.o):=λh=>h.post λa v τ st ok h=> .leaf () (λQ E h=>D_ (wpAny_point h)) (.ret ok h)
 cases kk
 ·exact .cond (Ip (hc cs a τ st ok h)) (Ip (hc cs a τ st ok h).keep)
 ·exact .cond (Ip (hc cs a τ st ok h)) (Ip (hc cs a τ st ok h).keep)
 ·exact Ip (hc cs a τ st ok h)
 ·exact Ip (hc cs a τ st ok h).op
noncomputable def Bi(m:Bool)(k:Nat)(q:Bool)(fv:AE)(ns:List AQ)(g:List CV->AL->R CV):Prop:=∀A σ cs vs ks,Bs A k q σ->Ok σ->Vs σ cs (vs++ks)->ks.length=ns.length->Ev m V A (call fv vs (ns.zip ks)) σ (g cs σ.o)
theorem BA.callP{fv:AE}(h:BA m k q (λvs=>call fv vs) g):Bi m k q fv [] g:=λA σ cs vs ks hR ok hv hl=>by
 rw[Gy.mp hl,BJ]at hv
 exact h A σ cs vs hR ok hv
noncomputable def RA(ns:List AQ)(σ:St)(cs:List CV)(x:HW):Prop:=∃ks,x.kw=ns.zip ks/\Vs σ cs (x.pos++ks)/\ks.length=ns.length
structure H6(m:Bool)(k:Nat)(q:Bool)(fx:Fx)(pos:BK)(es:List Ab)(kws:List JM)(ns:List AQ)(d:DL):Prop where
 plain:∀env,((Dd pos (CX es env)).any (·.1)||(G3 pos (G4 kws env)).any (·.1.isNone))=AD
 few:∀env,RG (es.length+kws.length) (Dd pos (CX es env)) (G3 pos (G4 kws env))=AC
 ev:∀f A env σ AI,BW A k q fx env σ AI->Ev m (RA ns) A (Mi f AC (Dd pos (CX es env)) (G3 pos (G4 kws env))) σ (d AI σ.o)
noncomputable def NR(n:Nat)(σ:St)(cs:List CV)(ks:List AE):Prop:=Vs σ cs ks/\ks.length=n
noncomputable def Hj(a b:DL):DL:=λAI objs=>(a AI objs).bind λxs h=>(b AI h).bind λys h'=> .ok (xs++ys) h'
theorem AV4(a:DL):Hj a AP=a:=funext λv=>funext λo=>by
 unfold Hj AP
 cases a v o with
 |ok xs h=>show R.ok (xs++[]) h=_;rw[BJ]
 |_=>rfl
structure SW(m:Bool)(k:Nat)(q:Bool)(fx:Fx)(pos:BK)(kws:List JM)(ns:List AQ)(b:DL):Prop where
 all:∀env,(G3 pos (G4 kws env)).all (·.1.isSome)=AC
 some:∀env,(G3 pos (G4 kws env)).any (·.1.isNone)=AD
 nm:∀env,(G3 pos (G4 kws env)).filterMap (·.1)=ns
 ev:∀A env σ AI,BW A k q fx env σ AI->Ev m (NR ns.length) A (evalAll ((G3 pos (G4 kws env)).map (·.2))) σ (b AI σ.o)
theorem f7:SW m k q fx pos [] [] AP:=⟨λ_=>rfl,λ_=>rfl,λ_=>rfl,λA env σ AI p=> .ret p.ok ⟨rfl,rfl⟩⟩
theorem BI6{d:D}(h:Aj m k q fx e d):SW m k q fx pos [⟨AA n,e,p1⟩] [n] (AH d AP):=⟨λ_=>rfl,λ_=>rfl,λ_=>rfl,λA env σ AI p=>
 have h1:Ev m V A (B_ e env>>=λv=>GI pos>>=λ_=>Ax v) σ (d AI σ.o):=(h _ _ _ _ p).post λc v τ st ok h=> .stand (.ret ok h)
 h1.bind λc v τ st ok h=> .of λ_ Q E hQ _=>AR (D_ (Aa (Aa (hQ.here rfl ok ⟨Vs.one h,rfl⟩))))⟩
theorem tG{kws:List JM}{ns:List AQ}{a b:DL}(ha:Iu m k q fx es a)(hb:SW m k q fx pos kws ns b)(plain:∀env,(Dd pos (CX es env)).any (·.1)=AD)
  (few:∀env,RG (es.length+kws.length) (Dd pos (CX es env)) (G3 pos (G4 kws env))=AC):H6 m k q fx pos es kws ns (Hj a b):=
 ⟨λenv=>by simp only[plain env,hb.some env];rfl,few,λf A env σ AI p=>by
  have h:=ha pos _ _ _ _ p
  have hp:=plain env
  have hs:=hb.all env
  have hn:=hb.nm env
  have hk:=λτ st ok=>hb.ev _ _ τ _ (p.step st ok)
  revert hp h hs hn hk
  generalize Dd pos (CX es env)=args
  generalize G3 pos (G4 kws env)=Bh8
  intro h hp hs hn hk
  rcases args with _|⟨⟨_|_,x⟩,rest⟩
  rotate_right;·exact absurd hp (by intro h;cases h)
  all_goals
   unfold Mi
   refine h.bind λcs vs τ st ok hv=> .holding ?_
   simp only[hs,if_true,hn]
   exact(hk τ st ok).bind λds ks υ Bp A6 h'=> .of λ_ Q E hQ _=>AR (Aa (Aa (hQ.here rfl A6 ⟨ks,rfl,((ok.kp Bp).vs _ hv).append h'.1,h'.2⟩)))⟩
theorem BH4{a:DL}(ha:Iu m k q fx es a)(plain:∀env,(Dd pos (CX es env)).any (·.1)=AD)
  (few:∀env,RG es.length (Dd pos (CX es env)) []=AC):H6 m k q fx pos es [] [] a:=AV4 a▸tG ha f7 plain few
noncomputable def A_(f:List CV->AL->R CV)(a:DL):D:=λAI objs=>(a AI objs).bind f
theorem oo{fv:AE}{first:List AE}{fcs:List CV}{kws:List JM}{ns:List AQ}{d:DL}{env:A7}{AI:AY}(hk:G_ fv)(ha:H6 m k q fx pos es kws ns d)(hg:Bi m k q fv ns g)(p:BW A k q fx env σ AI)(hf:Vs σ fcs first):
  Ev m V A (Mf p1 fv first (Dd pos (CX es env)) (G3 pos (G4 kws env))) σ ((d AI σ.o).bind λcs h=>g (fcs++cs) h):=
 S4 (ha.plain env) hk (ha.ev _ _ _ _ _ p) λcs a τ st ok ⟨ks,e,hv,hl⟩=>by
  rw[e]
  exact hg _ _ _ _ _ (p.r.step st) ok (by rw[B2];exact((p.ok.kp st).vs _ hf).append hv) hl
theorem Ev.one{δ:Type}{rel:St->α->β->Prop}{rel':St->δ->γ->Prop}{t:Ao β}{f:β->Ao γ}{a:α}{g:AL->R δ}(h:Ev m rel A t σ (.ok a σ.o))(k:∀v τ,Lt σ τ->Ok τ->rel τ a v->Ev m rel' A (f v) τ (g τ.o)):Ev m rel' A (t>>=f) σ (g σ.o):=λhn ht Q E hQ hE=>
 Bm (h.run nofun ht (λa' v τ e st ok ht x=>by injection e with e1 e2;subst e1;rw[e2]at hn hQ hE;exact k v τ st ok x hn ht Q E (hQ.after st) (hE.after st)) λ_ _ _ e=>nomatch e)
theorem BK4{fv:AE}{kws:List JM}{ns:List AQ}{a:DL}(hk:G_ fv)(hx:Aj m k q fx (.Name n p1) (AG (.top fv)))(ha:H6 m k q fx pos es kws ns a)(hg:Bi m k q fv ns g):Aj m k q fx (.Call (.Name n p1) es kws pos) (A_ g a):=λA env σ AI p=>
 Ev.one (f:=λf=>Mf pos f [] (Dd pos (CX es env)) (G3 pos (G4 kws env))) (g:=A_ g a AI) (hx _ _ _ _ p) λv τ st ok h=>by cases h;exact oo (fcs:=[]) hk ha hg (p.step st ok) rfl
structure ai(σ:St)(u:AE)(n:AQ)(fv:AE):Prop where
 h:∀A pl (Q:AE×List AE->AN->Prop) E,Q (fv,[u]) σ.s->Ac Ak A (getMethod u n pl) Q E σ.s
structure DH(m:Bool)(k:Nat)(q:Bool)(n:AQ)(is:AL->CV->Bool)(fv:AE)(ns:List AQ)(g:List CV->AL->R CV):Prop where
 get:∀{σ c u},Ok σ->V σ c u->is σ.o c=AC->ai σ u n fv
 keep:G_ fv
 call:Bi m k q fv ns g
theorem DH.built{T id:String}{is:AL->CV->Bool}(pa:Y_ T)(slot:LX T n id)(M7:Ld (.builtin id)=Ax (.type "method_descriptor"))(hT:∀{σ c u},Ok σ->V σ c u->is σ.o c=AC->σ.s.TypeIs u T/\∀a,u= .ref a->∃ob,σ.h.get? a=AA ob/\ob.dict=AB)
  (h:BA m k q (λvs=>ZF (.builtin id) vs) g):DH m k q n is (.builtin id) [] g:=⟨λok hv hi=>⟨λA pl Q E h=>getMethod_builtin (hT ok hv hi).1 pa slot M7 (hT ok hv hi).2 h⟩,MB,h.callP⟩
noncomputable def Bi9(is:AL->CV->Bool)(g:List CV->AL->R CV)(a:D)(b:DL):D:=λAI objs=>(a AI objs).bind λc h=>if is h c then(b AI h).bind λxs h'=>g (c::xs) h' else .no
theorem ou{fv u:AE}{env:A7}{nn:Nat}{args:List (Bool×Ao AE)}{kws:List (Option AQ×Ao AE)}{r:R CV}(few:RG nn args kws=AC)(Rl:(p1.endLine==pos.line)=AC)(Zk:ai σ u n fv)
  (h:Ev m V A (Mf pos fv [u] args kws) σ r):Ev m V A (ZJ x n p1 pos env u nn args kws) σ r:=by
 unfold ZJ
 rw[few]
 refine .leaf (fv,[u]) (λQ E hq=>D_ (Zk.h _ _ _ _ hq)) (.leaf pos (λQ E hq=>Ic ?_ hq) h)
 unfold methodCallPos
 rw[Rl];rfl
noncomputable def Ho:List CV->AL->R CV:=BP (Eb Cj λl o=>if l.length<=Ah then .ok (.int l.length) o else .no) (BP (Eb BX λl o=>if l.length<=Ah then .ok (.int l.length) o else .no) (Eb H9 λl o=>if l.length<=Ah then .ok (.int l.length) o else .no))
theorem W0{n:Nat}(h:n<=Ah):(n:Int)<2^63:=Yb (JB.mpr h) (by decide)
noncomputable abbrev HL(f:AE):List AE->Ao AE:=λvs=>call f vs
theorem bL:BA m k q (HL (.builtin "len")) Ho:=
 .alt (.on1 vL λA σ l u _ ok h=> .ite λhl=> .of λ_ Q E hQ _=>by
  obtain⟨z,ws,n,rfl,h1,h2⟩:=h
  exact Calls.call_len_list (Bu h1) (by rw[DC,<-h2.len];exact W0 hl) (hQ.tk rfl ok ⟨_,by rw[h2.len,DC]⟩))
 (.alt (.on1 vS λA σ l u _ ok ⟨t,h⟩=> .ite λhl=> .of λ_ Q E hQ _=>by
  subst h
  exact PySem.P.len_str (by rw[BY];exact Qg.mpr (W0 hl)) (hQ.tk rfl ok ⟨_,by rw[BY]⟩))
 (.on1 vT λA σ l u _ ok h=> .ite λhl=> .of λ_ Q E hQ _=>by
  obtain⟨z,ws,rfl,⟨n,h1⟩,h2⟩:=h
  exact PySem.P.len_tuple h1.1 (by rw[DC,<-h2.len];exact Qg.mpr (W0 hl)) (hQ.tk rfl ok ⟨_,by rw[h2.len,DC]⟩)))
noncomputable def Az(a:Int):T:=Bx (CR (Ey a))
noncomputable def Xn:List CV->AL->R CV:=Eb Bq λa o=>if B1 a=AC then .ok (.str (Az a)) o else .no
theorem call_str:BA m k q (HL (.type "str")) Xn:= .on1 vI λA σ a u _ ok ⟨t,h⟩=> .ite λhs=> .of λ_ Q E hQ _=>by
 subst h
 have hb:=X8 hs
 exact PyProof.Rows.str_of_int_fit (N:=1073741824) (by split<;>first|exact hb.2|exact Yb (Int.le_of_eq (Int.zero_sub a)) (Int.neg_lt_of_neg_lt hb.1)) (by decide) λ_=>hQ.tk rfl ok ⟨_,rfl⟩
noncomputable def ml(_:AL)(c:CV):Option Unit:=DX c AB (zv:=λx=>if x= .type "tuple" then AA ()else AB)
theorem Bc8:Vw ml λ_ _ v=>v= .type "tuple":=λ{σ c a v} _ e h=>by
 cases c with
 |top x=>exact gp h (QP e).1
 |_=>exact Af e
noncomputable def Xh:List CV->AL->R CV:=BN Bq ml λ_ _ o=> .ok (.bool AD) o
theorem AQ7:BA m k q (HL (.builtin "isinstance")) Xh:= .on2 vI Bc8 λA σ a b u v _ ok ⟨t,h⟩ h'=> .of λ_ Q E hQ _=>by
 subst h h'
 exact call_isinstance (isinstance_false_int (by decide+kernel) F.isi_meta_tuple F.sub_int_tuple) (hQ.tk rfl ok rfl)
noncomputable def TY:List CV->AL->R CV:=BP (Eb Cj λ_ o=> .ok (.top (.type "list")) o) (Eb BX λ_ o=> .ok (.top (.type "str")) o)
theorem AR5:BA m k q (HL (.type "type")) TY:=
 .alt (.on1 vL λA σ l u _ ok ⟨z,ws,n,e,h1,h2⟩=> .of λ_ Q E hQ _=>by subst e;exact call_type_of (Q0 (Bu h1)) (by decide) (hQ.here rfl ok rfl))
 (.on1 vS λA σ l u _ ok ⟨t,h⟩=> .of λ_ Q E hQ _=>by subst h;exact call_type_of (Ha _ _ t) (by decide) (hQ.here rfl ok rfl))
noncomputable def Gm:List CV->Option (List Int)
 |[]=>AA []
 | .int i::r=>(Gm r).bind λl=>if B1 i=AC then AA (i::l)else AB
 |_::_=>AB
structure AH7(vs:List AE)(l:List Int):Prop where
 are:JJ vs l
 items:∃xs:List (Int×Cg),vs=xs.map (λp=> .int p.1 p.2)/\xs.map (·.1)=l
inductive l7(cs:List CV):CV->List Int->Prop
 |mk (i:Int) (l:List Int) (e:Gm cs=AA l) (h:B1 i=AC):l7 cs (.int i) (i::l)
theorem AK8{c:CV}{cs:List CV}{l:List Int}(e:Gm (c::cs)=AA l):l7 cs c l:=by
 cases c with
 |int i=>
  obtain⟨l',e1,e2⟩:=C5.mp e
  by_cases hs:Mine.B1 i=AC
  ·cases (if_pos hs).symm.trans e2;exact .mk i l' e1 hs
  ·exact Af ((if_neg hs).symm.trans e2)
 |_=>exact Af e
theorem mV{cs:List CV}:∀{vs:List AE} {l:List Int},Vs σ cs vs->Gm cs=AA l->AH7 vs l:=by
 induction cs with
 |nil=>intro vs l x e;cases x;cases e;exact⟨.nil,[],rfl,rfl⟩
 |cons c cs ih=>
  intro vs l x e
  refine B7 (x) λv r AC1=>?_
  obtain⟨e1,h1,h2⟩:=AC1
  cases AK8 e with
  |mk i l' e' hs=>
   obtain⟨t,h1⟩:=h1
   have q:=ih h2 e'
   rw[e1,h1]
   exact⟨.cons _ _ q.are,q.items.elim λxs q=>⟨(i,t)::xs,congrArg (_::·) q.1,congrArg (i::·) q.2⟩⟩
noncomputable def N1:List CV->AL->R CV:=Eb (λo c=>(Cj o c).bind Gm) λns o=>if ns.length<=1024 then .ok (.int ns.sum) o else .no
inductive AI0(σ:St)(ns:List Int)(v:AE):Prop
 |mk (z:AK) (xs:List (Int×Cg)) (e:v= .ref z) (h:σ.h.IsList z (intItems xs.toArray)) (e':xs.map (·.1)=ns)
theorem vIs:Vw (λo c=>(Cj o c).bind Gm) AI0:=λ{σ c a v} ok e h=>by
 obtain⟨l,e1,e2⟩:=C5.mp e
 obtain⟨z,ws,n,rfl,h1,h2⟩:=vL ok e1 h
 obtain⟨_,xs,h3,h4⟩:=mV h2 e2
 rw[h3]at h1
 have e:intItems xs.toArray=(xs.map λp:Int×Cg=>Value.int p.1 p.2).toArray:=List.map_toArray
 exact⟨z,xs,rfl,e▸Bu h1,h4⟩
theorem AR4:BA m k AC (HL (.builtin "sum")) N1:= .on1 vIs λA σ ns u hR ok h=> .ite λBh=> .of λ_ Q E hQ _=>by
 obtain⟨z,xs,rfl,hl,h4⟩:=h
 have Li:∀i,numAt xs.toArray i=ns.getD i 0:=λi=>by
  unfold numAt
  rw[<-h4,Qj,Cm,IT]
 have JZ:preSum (numAt xs.toArray) xs.toArray.size=ns.sum:=by simp only[funext Li,preSum_getD,show xs.toArray.size=ns.length by rw[<-h4,Ay,DC],OK]
 refine sum_intListG (hR.hand rfl) hl λh' tk t' hk=>?_
 rw[JZ]
 exact hQ.grow (s':={σ.s with heap:=h',toks:=tk}) ok hk rfl rfl rfl ⟨_,rfl⟩
theorem IntsAre.back{vs:List AE}{ns:List Int}(h:JJ vs ns):Vs σ (ns.map .int) vs:=by
 induction h with
 |nil=>rfl
 |cons n t r ih=>exact⟨_,_,rfl,⟨t,rfl⟩,ih⟩
noncomputable def W_(l:List Int):List Int:=l.mergeSort (λa b=>decide (a<=b))
theorem Ao9{l m:List Int}(hp:m.Perm l)(hs:m.Pairwise (·<=·)):m=W_ l:=
 have h:(W_ l).Pairwise λa b=>decide (a<=b)=AC:=vy (le:=λa b:Int=>decide (a<=b)) (λa b c h1 h2=>decide_eq_true (OF (of_decide_eq_true h1) (of_decide_eq_true h2))) (λa b=>Hs.mpr ((Int.le_total a b).imp decide_eq_true decide_eq_true)) l
 List.Perm.eq_of_pairwise (le:=(·<=·)) (λa b _ _ h1 h2=>gr h1 h2) hs (h.imp λh=>of_decide_eq_true h) (hp.trans (vr _ _).symm)
noncomputable abbrev FY{α:Type}(X:AL->CV->Option α)(o:AL)(c:CV):Bool:=(X o c).isSome
noncomputable def NC(T:String)(σ:St)(u:AE):Prop:=σ.s.TypeIs u T/\∀a,u= .ref a->∃ob,σ.h.get? a=AA ob/\ob.dict=AB
theorem DH.v{T id:String}{X:AL->CV->Option α}{rX:St->α->AE->Prop}(hX:Vw X rX)(hT:∀{σ a u},rX σ a u->NC T σ u)(pa:Y_ T)(slot:LX T n id)(M7:Ld (.builtin id)=Ax (.type "method_descriptor"))(h:BA m k q (HL (.builtin id)) g):DH m k q n (FY X) (.builtin id) [] g:=
 .built pa slot M7 (λok hv hi=>(Y1.mp hi).elim λ_ e=>hT (hX ok e hv)) h
theorem AL9{t:T}{u:AE}(h:V σ (.str t) u):NC "str" σ u:=by obtain⟨t,rfl⟩:=h;exact⟨Ha _ _ _,nofun⟩
noncomputable def FA:=FY BX
theorem P3{id:String}(slot:LX "str" n id)(M7:Ld (.builtin id)=Ax (.type "method_descriptor"))(h:BA m k q (HL (.builtin id)) g):DH m k q n FA (.builtin id) [] g:= .v vS AL9 F.plainAttrs_str slot M7 h
noncomputable def UL(x y:T):Int:=Txt.find (AU x) (AU y)
noncomputable def UM(x y:T)(i:Int):Int:=match Qw (AU x) (AU y) (fromIndex x.length i) x.length 1 with
 |k::_=>(k:Int)
 |[]=> -1
noncomputable def fF:List CV->AL->R CV:=BP (BN BX BX λx y o=> .ok (.int (UL x y)) o) (I5 BX BX Bq λx y i o=> .ok (.int (UM x y i)) o)
theorem Aw8:DH m k q "find" FA (.builtin "str.find") [] fF:=P3 xM F.type_str_find
 (.alt (.on2 vS vS λA σ x y u v _ ok ⟨t,h⟩ ⟨t',h'⟩=> .of λ_ Q E hQ _=>by subst h h';exact SC.find (hQ.tk rfl ok ⟨_,rfl⟩))
 (.on3 vS vS vI λA σ x y i u v z _ ok ⟨t,h⟩ ⟨t',h'⟩ ⟨Kb,JU⟩=> .of λ_ Q E hQ _=>by
  subst h h' JU
  refine call_gives xM (Ha _ _ _) F.entry_str_find (F.args_str_find_3 _ _ _) (gives_str_find_from (AU x) (AU y) i t t' Kb) ?_
  rw[BY]
  exact hQ.tk rfl ok ⟨_,rfl⟩))
noncomputable def fN:List CV->AL->R CV:=BN BX BX λx y o=> .ok (.bool (Txt.startswith (AU x) (AU y))) o
theorem Ax4:DH m k q "startswith" FA (.builtin "str.startswith") [] fN:=P3 F.slot_str_startswith F.type_str_startswith (.on2 vS vS λA σ x y u v _ ok ⟨t,h⟩ ⟨t',h'⟩=> .of λ_ Q E hQ _=>by subst h h';exact SC.startswith (hQ.here rfl ok rfl))
noncomputable def fE:List CV->AL->R CV:=BN BX BX λx y o=> .ok (.bool (Txt.endswith (AU x) (AU y))) o
theorem Aw7:DH m k q "endswith" FA (.builtin "str.endswith") [] fE:=P3 F.slot_str_endswith F.type_str_endswith (.on2 vS vS λA σ x y u v _ ok ⟨t,h⟩ ⟨t',h'⟩=> .of λ_ Q E hQ _=>by subst h h';exact SC.endswith (hQ.here rfl ok rfl))
noncomputable def Xl:List CV->AL->R CV:=Eb BX λx o=>if x.length<=5592405 then .ok (.str (Bx (Txt.lower (AU x)))) o else .no
theorem Ax1:DH m k q "lower" FA (.builtin "str.lower") [] Xl:=P3 F.slot_str_lower F.type_str_lower (.on1 vS λA σ x u _ ok ⟨t,h⟩=> .ite λhl=> .of λ_ Q E hQ _=>by subst h;exact SC.lower (fit_lower (by rw[BY];exact hl)) (hQ.tk rfl ok ⟨_,rfl⟩))
noncomputable def Kr(x y:T):Bool:=decide (x.length<y.length)||decide (Ur (AU x)<Ur (AU y))
noncomputable def I9(x y:T)(n:Nat):List Nat:=Qw (AU x) (AU y) 0 x.length n
noncomputable def LC(x y:T)(n:Nat):List T:=if Kr x y=AC then [x]else if(I9 x y n).isEmpty=AC then [x]else(Y7 (AU x) (I9 x y n) y.length).map Bx
theorem Vs.strs:∀(l:List AQ) (tk:Nat),Vs σ ((l.map Bx).map .str) (strsFrom tk l)
 |[],_=>rfl
 |_::r,tk=>⟨_,_,rfl,⟨_,rfl⟩,Vs.strs r (tk+1)⟩
noncomputable def Ju(x y:T)(n:Nat)(o:AL):R CV:=if 0<y.length/\x.length<=Ah/\(LC x y n).length<=Ah then .ok (.lst ((LC x y n).map .str)) o else .no
noncomputable def a_(_:AL)(c:CV):Option Unit:=DX c AB (zi:=λi=>if i=1 then AA ()else AB)
theorem pe{c:Prop}[Decidable c]{a b:α}(e:(if c then AA a else AB)=AA b):c:=by
 by_cases h:c
 ·exact h
 ·exact Af ((if_neg h).symm.trans e)
theorem Bc3:Vw a_ λσ _ v=>V σ (.int 1) v:=λ{σ c a v} _ e=>CV.only (f:=a_ σ.o) (P:=λc _=>V σ c v->V σ (.int 1) v) e Am (λ_=>Am) (λ_ _ e h=>pe e▸h) (λ_=>Am) (λ_=>Am) (λ_=>Am) (λ_ _=>Am) (λ_=>Am) (λ_=>Am) (λ_ _=>Am) Am (λ_=>Am) (λ_ _=>Am) (λ_ _=>Am)
noncomputable def N0:List CV->AL->R CV:=BP (BN BX BX λx y o=>Ju x y (x.length+1) o) (I5 BX BX a_ λx y _ o=>Ju x y 1 o)
theorem oy{x y:T}{n:Nat}{t:Cg}{c:Ao AE}(ok:Ok σ)
  (h0:∀{Q:AE->AN->Prop} {E},Kr x y=AC->Q (.ref σ.h.objs.size) {σ.s with heap:=σ.s.heap.push {cls:= .type "list",data:= .seq [U0 (AU x) t].toArray}}->Ac Ak A c Q E σ.s)
  (h1:∀{Q:AE->AN->Prop} {E},Kr x y=AD->0<y.length->(I9 x y n).isEmpty=AC->Q (.ref σ.h.objs.size) {σ.s with heap:=σ.s.heap.push {cls:= .type "list",data:= .seq [U0 (AU x) t].toArray}}->Ac Ak A c Q E σ.s)
  (h2:∀{Q:AE->AN->Prop} {E},Kr x y=AD->0<y.length->(I9 x y n).isEmpty=AD->x.length<=Ah->(Y7 (AU x) (I9 x y n) y.length).length<=Ah->
   Q (.ref σ.h.objs.size) {σ.s with toks:=σ.s.toks+(Y7 (AU x) (I9 x y n) y.length).length,heap:=σ.s.heap.push {cls:= .type "list",data:= .seq (strsFrom σ.s.toks (Y7 (AU x) (I9 x y n) y.length)).toArray}}->Ac Ak A c Q E σ.s):
  Ev m V A c σ (Ju x y n σ.o):= .ite λhc=> .of λ_ Q E hQ _=>by
 unfold LC at hc hQ
 cases e1:Kr x y with
 |true=>rw[e1]at hc hQ;exact h0 e1 (hQ.newLst ok (.one ⟨t,rfl⟩:Vs σ [.str x] [.str (AU x) t]) rfl)
 |false=>cases e2:(I9 x y n).isEmpty with
  |true=>rw[e1,e2]at hc hQ;exact h1 e1 hc.1 e2 (hQ.newLst ok (.one ⟨t,rfl⟩:Vs σ [.str x] [.str (AU x) t]) rfl)
  |false=>
   rw[e1,e2,if_neg C2,if_neg C2]at hc hQ
   exact h2 e1 hc.1 e2 hc.2.1 (by rw[<-Ay (f:=Bx)];exact hc.2.2) (hQ.newLst ok (.strs _ _) rfl)
theorem XS{x:T}(h:0<x.length):((AU x).length==0)=AD:=by rw[BY];exact beq_eq_false_iff_ne.mpr (HV h)
theorem Ax3:DH m k q "split" FA (.builtin "str.split") [] N0:=P3 OQ F.type_str_split
 (.alt (.on2 vS vS λA σ x y u v _ ok ⟨t,h⟩ ⟨t',h'⟩=>by
   subst h h'
   refine oy (t:=t) ok (λh0 hq=>?_) (λh0 h1 h2 hq=>?_) λh0 h1 h2 h3 h4 hq=>?_
   ·exact Hy OQ (Ha _ _ _) Qz (iZ _ _) (meets_str_split_cannot_occur (AU x) (AU y) t t' (by rw[BY,BY];exact h0)) hq
   ·exact Hy OQ (Ha _ _ _) Qz (iZ _ _) (meets_str_split_not_found (AU x) (AU y) t t' (by rw[BY,BY];exact h0) (XS h1) (by rw[BY];exact h2)) hq
   ·rw[<-BY y]at h4 hq;unfold I9 at h4 hq;rw[<-BY x]at h4 hq
    exact Hy OQ (Ha _ _ _) Qz (iZ _ _) (meets_str_split_sep (AU x) (AU y) t t' (by rw[BY,BY];exact h0) (XS h1) (by rw[BY];exact h2) (by rw[BY];exact h3) h4) hq)
 (.on3 vS vS Bc3 λA σ x y _ u v z _ ok ⟨t,h⟩ ⟨t',h'⟩ ⟨Kb,JU⟩=>by
   subst h h' JU
   refine oy (t:=t) ok (λh0 hq=>?_) (λh0 h1 h2 hq=>?_) λh0 h1 h2 h3 h4 hq=>?_
   ·exact Hy OQ (Ha _ _ _) Qz (ia _ _ _) (meets_str_split_max_cannot_occur (AU x) (AU y) 1 t t' Kb (by decide) (by rw[BY,BY];exact h0)) hq
   ·exact Hy OQ (Ha _ _ _) Qz (ia _ _ _) (meets_str_split_max_not_found (AU x) (AU y) 1 t t' Kb (by decide) (by rw[BY,BY];exact h0) (XS h1) (by rw[BY];exact h2)) hq
   ·rw[<-BY y]at h4 hq;unfold I9 at h4 hq;rw[<-BY x]at h4 hq
    exact Hy OQ (Ha _ _ _) Qz (ia _ _ _) (meets_str_split_sep_max (AU x) (AU y) 1 t t' Kb (by decide) (by rw[BY,BY];exact h0) (XS h1) (by rw[BY];exact h2) (by rw[BY];exact h3) h4) hq))
noncomputable def H8:List CV->Option (List T)
 |[]=>AA []
 | .str x::r=>(H8 r).map (x::·)
 |_::_=>AB
inductive AJ6(vs:List AE)(l:List T):Prop
 |mk (ps:List (AQ×Cg)) (e:vs=HZ ps) (e':ps.map (·.1)=l.map AU)
inductive mI(cs:List CV):CV->List T->Prop
 |mk (x:T) (l:List T) (e:H8 cs=AA l):mI cs (.str x) (x::l)
theorem AL1{c:CV}{cs:List CV}{l:List T}(e:H8 (c::cs)=AA l):mI cs c l:=by
 cases c with
 |str x=>obtain⟨l',e1,e2⟩:=DD.mp e;exact e2▸ .mk x l' e1
 |_=>exact Af e
theorem mi{cs:List CV}:∀{vs:List AE} {l:List T},Vs σ cs vs->H8 cs=AA l->AJ6 vs l:=by
 induction cs with
 |nil=>intro vs l x e;cases x;cases e;exact⟨[],rfl,rfl⟩
 |cons c cs ih=>
  intro vs l x e
  obtain⟨v,r,e1,h1,h2⟩:=x
  cases AL1 e with
  |mk x l' e'=>
   obtain⟨t,h1⟩:=h1
   obtain⟨ps,h3,h4⟩:=ih h2 e'
   simp only[e1,h1,h3]
   exact⟨(AU x,t)::ps,rfl,congrArg (AU x::·) h4⟩
inductive AI3(σ:St)(l:List T)(v:AE):Prop
 |mk (z:AK) (ps:List (AQ×Cg)) (e:v= .ref z) (h:σ.h.IsList z (HZ ps).toArray) (e':ps.map (·.1)=l.map AU)
noncomputable def bB(o:AL)(c:CV):Option (List T):=(Cj o c).bind H8
theorem vTs:Vw bB AI3:=λ{σ c a v} ok e h=>by
 obtain⟨l,e1,e2⟩:=C5.mp e
 obtain⟨z,ws,n,rfl,h1,h2⟩:=vL ok e1 h
 obtain⟨ps,rfl,h4⟩:=mi h2 e2
 exact⟨z,ps,rfl,Bu h1,h4⟩
noncomputable def tm(sep:T)(l:List T):T:=Bx (Txt.join (AU sep) (l.map AU))
noncomputable def Xj:List CV->AL->R CV:=BN BX bB λx ts o=>if JoinOk (AU x) (ts.map AU)then .ok (.str (tm x ts)) o else .no
theorem Ax0:DH m k q "join" FA (.builtin "str.join") [] Xj:=P3 F.slot_str_join F.type_str_join (.on2 vS vTs λA σ x ts u v _ ok ⟨t,h⟩ h'=> .ite λRr=> .of λ_ Q E hQ _=>by
 subst h
 obtain⟨z,ps,rfl,h1,h2⟩:=h'
 exact SC.join (l:=ps) (texts:=ts.map AU) h1 h2 Rr λt' kk=>hQ.tk rfl ok ⟨_,rfl⟩)
noncomputable def Jy(x y z:T):T:=Bx (Txt.replace (AU x) (AU y) (AU z))
noncomputable def A28(y z:T)(c:CV)(objs:AL):R CV:=(BX objs c).elim .no λx=>if x.length+(x.length+1)*z.length<=16777216 then .ok (.str (Jy x y z)) objs else .no
noncomputable def L5(y z:T)(a:D):D:=λAI objs=>(a AI objs).bind (A28 y z)
noncomputable def RT(y z:AQ)(_:St)(_:Unit)(x:HW):Prop:=∃t:Nat,t≠0/\x=⟨[.str y t, .str z (t+1)],[]⟩
theorem Ac6{y z:AQ}{k1 k2:Nat}{pa pb:BK}{fv:AE}{env:A7}(ok:Ok σ):Ev m (RT y z) A (Mi fv AC (Dd pos (CX [.Constant (.str y) k1 pa, .Constant (.str z) k2 pb] env)) []) σ (.ok () σ.o):=λ_ ht Q E hQ _=>wq.of (wv (by
 refine wZ (e:= .Constant (.str y) k1 pa) ?_ rfl
 refine jJ (wZ (e:= .Constant (.str z) k2 pb) ?_ rfl)
 exact jJ (PyProof.Rows.spliced_none (hQ.tk (t:=σ.s.toks+1+1) rfl ok ⟨_,HV ht,rfl⟩))))
theorem BN3{xy xz:AQ}{k1 k2:Nat}{pa pb:BK}{y z:T}{a:D}(ho:Aj m k q fx x a)(ey:xy=AU y)(ez:xz=AU z)(B3:(xy==xz)=AD)
  (Os:∀env,U2 x "replace" env (B_ x env)=B_ x env) (Rl:(p1.endLine==pos.line)=AC):
  Aj m k q fx (.Call (.Attribute x "replace" p1) [.Constant (.str xy) k1 pa, .Constant (.str xz) k2 pb] [] pos) (L5 y z a):=λA env σ AI p=>by
 show Ev m V A (U2 x "replace" env (B_ x env)>>=λov=>GI p1.atName>>=λ_=>ZJ x "replace" p1 pos env ov 2 (Dd pos (CX [.Constant (.str xy) k1 pa, .Constant (.str xz) k2 pb] env)) []) σ _
 rw[Os]
 refine(ho _ _ _ _ p).bind λc u τ st ok h=> .stand (.opt λa e=> .ite λhl=>?_)
 refine ou rfl Rl (⟨λA pl Q E hq=>by obtain⟨t,rfl⟩:=vS ok e h;with_reducible exact GM.replace hq⟩:ai τ u "replace" (.builtin "str.replace")) (S4 (ra:= .ok () τ.o) (g:=λ_ o=> .ok (CV.str (Jy a y z)) o) rfl MB (Ac6 (y:=xy) (z:=xz) ok) λ_ x υ Bp A6 ⟨t',h1,h2⟩=> .of λ_ Q E hQ _=>?_)
 obtain⟨t,rfl⟩:=vS ok e h
 subst h2 ey ez
 exact SC.replace (show @Ne Nat t' 0 from h1) (show @Ne Nat (t'+1) 0 from(by intro h;cases h)) (show @Ne Nat t' (t'+1)from IU (J5 _)) B3 (by rw[BY,BY];exact hl) λ_ kk=>hQ.tk rfl A6 ⟨_,rfl⟩
section
variable{env:A7}{AI:AY}{st:Bd}{ss:List Bd}
section
theorem Bl.quiet(E:Bl fx σ env AI):∀a,DB env a->σ.W.M a/\∀o,σ.h.get? a=AA o->K_ o:=λa h=>h.elim (λe=>by
  subst e
  obtain⟨m,⟨o',es,ep,h1,h2,_⟩,_⟩:=E.ns
  exact⟨E.own.1,λo ho=> .inl λvs q=>by rw[<-D0 h1 ho,h2]at q;cases q⟩) λ⟨_,n,hn⟩=>by
  obtain⟨h1,_,_,_,u,o',h2,h3⟩:=E.cells n a hn
  exact⟨h1,λo ho=> .inl λvs q=>by rw[<-D0 h2 ho,h3]at q;cases q⟩
theorem BW.kp(p:BW A k q fx env σ AI)(st:Av (DB env) σ τ):Kp σ τ:=st.kp p.ok p.e.quiet
theorem BW.go{u:AY}(p:BW A k q fx env σ AI)(st:Av X σ τ)(ok:Ok τ)(e:Bl fx τ env u):BW A k q fx env τ u:=⟨p.r.step st,e,ok,p.t⟩
section
variable{r:RS}{fr:RS->St->β->Prop}{fr':RS->St->γ->Prop}
noncomputable def FC(env:A7)(fr:RS->St->β->Prop)(σ:St)(r:RS)(Q:β->AN->Prop):Prop:=∀f τ,Av (DB env) σ τ->Ok τ->fr r τ f->Q f τ.s
noncomputable def XC(fx:Fx)(env:A7)(σ:St)(r:RS)(E:AE->AN->Prop):Prop:=∀c v vs τ,r= .err c vs τ.o->Av (DB env) σ τ->Ok τ->Bl fx τ env vs->HB σ τ c v->E v τ.s
noncomputable def Es(m:Bool)(fx:Fx)(env:A7)(fr:RS->St->β->Prop)(A:BZ)(t:Ao β)(σ:St)(r:RS):Prop:=r≠ .no->0<σ.s.toks->∀Q E,FC env fr σ r Q->XC fx env σ r E->wq m Ak A t Q E σ.s
inductive FR(fx:Fx)(env:A7):RS->St->Flow->Prop
 |next {τ:St} {v:AY} (e:Bl fx τ env v):FR fx env (.next v τ.o) τ .next
 |brk {τ:St} {v:AY} (e:Bl fx τ env v):FR fx env (.brk v τ.o) τ .brk
 |ret {τ:St} {c:CV} {v:AE} {u:AY} (h:V τ c v) (e:Bl fx τ env u):FR fx env (.ret c τ.o) τ (.ret v)
inductive GR(fx:Fx)(env:A7):RS->St->Unit->Prop
 |next {τ:St} {v:AY} (e:Bl fx τ env v):GR fx env (.next v τ.o) τ ()
noncomputable def DV(m:Bool)(k:Nat)(q:Bool)(fx:Fx)(st:Bd)(d:DS):Prop:=∀A env σ AI,BW A k q fx env σ AI->Es m fx env (FR fx env) A (exec st env) σ (d AI σ.o)
noncomputable def Dy(m:Bool)(k:Nat)(q:Bool)(fx:Fx)(ss:List Bd)(d:DS):Prop:=∀A env σ AI,BW A k q fx env σ AI->Es m fx env (FR fx env) A (execs ss env) σ (d AI σ.o)
theorem FC.after{Q:β->AN->Prop}(h:FC env fr σ r Q)(st:Av (DB env) σ τ):FC env fr τ r Q:=λf υ s ok x=>h f υ (st.trans s) ok x
theorem XC.after{E:AE->AN->Prop}(h:XC fx env σ r E)(st:Av (DB env) σ τ):XC fx env τ r E:=λc v vs υ e s ok h' x=>h c v vs υ e (st.trans s) ok h' (x.after st)
noncomputable def RS.bind(r:RS)(f:AY->AL->RS):RS:=match r with
 | .next v h=>f v h
 |r=>r
noncomputable def R.s(r:R α)(AI:AY)(f:α->AL->RS):RS:=match r with
 | .ok c o=>f c o
 | .err c o=> .err c AI o
 | .no=> .no
theorem Es.run{t:Ao β}{Q:β->AN->Prop}{E:AE->AN->Prop}(h:Es m fx env fr A t σ r)(hn:r≠ .no)(ht:0<σ.s.toks)(hQ:∀f τ,Av (DB env) σ τ->Ok τ->0<τ.s.toks->fr r τ f->Q f τ.s)(hE:XC fx env σ r E):wq m Ak A t Q E σ.s:=
 OD (h hn ht _ _ (λf τ st ok x hle=>hQ f τ st ok (CI ht hle) x) hE)
theorem Es.of{t:Ao β}(h:r≠ .no->∀Q E,FC env fr σ r Q->XC fx env σ r E->Ac Ak A t Q E σ.s):Es m fx env fr A t σ r:=λhn _ Q E hQ hE=>wq.of (h hn Q E hQ hE)
theorem Es.ret{f:β}(ok:Ok σ)(x:fr r σ f):Es m fx env fr A (Ax f) σ r:=λ_ _ _ _ hQ _=>EM (hQ f σ (.refl ..) ok x)
theorem Es.stand{t:Ao β}{p:BK}(h:Es m fx env fr A t σ r):Es m fx env fr A (GI p>>=λ_=>t) σ r:=λhn ht Q E hQ hE=>Bm (UR (h hn ht Q E hQ hE))
theorem Es.holding{t:Ao β}{vs:List AE}(h:Es m fx env fr A t σ r):Es m fx env fr A (HY vs t) σ r:=λhn ht Q E hQ hE=>UQ (h hn ht Q E hQ hE)
theorem Es.leaf{t:Ao γ}{f:γ->Ao β}(x:γ)(h:∀(Q:γ->AN->Prop) E,Q x σ.s->Ac Ak A t Q E σ.s)(k:Es m fx env fr A (f x) σ r):Es m fx env fr A (t>>=f) σ r:=λhn ht Q E hQ hE=>Bm (wq.of (h _ _ (k hn ht Q E hQ hE)))
theorem R.s_ne{x:R α}{f:α->AL->RS}(h:x.s AI f≠ .no):x≠ .no:=λe=>h (by rw[e];rfl)
theorem Es.bind{rel:St->α->γ->Prop}{t:Ao γ}{f:γ->Ao β}{x:R α}{g:α->AL->RS}(h:Ev m rel A t σ x)(p:BW A k q fx env σ AI)(k':∀a v τ,Lt σ τ->BW A k q fx env τ AI->rel τ a v->Es m fx env fr A (f v) τ (g a τ.o)):Es m fx env fr A (t>>=f) σ (x.s AI g):=λhn ht Q E hQ hE=>
 Bm (h.run (R.s_ne hn) ht (λa v τ e st ok ht x=>by subst e;exact k' a v τ st (p.step st ok) x hn ht Q E (hQ.after st.up) (hE.after st.up))
  λc v τ e st ok x=>hE c v AI τ (by rw[e];rfl) st.up ok (p.step st ok).e x)
theorem RS.bind_ne{x:RS}{f:AY->AL->RS}(h:x.bind f≠ .no):x≠ .no:=λe=>h (by rw[e];rfl)
theorem Es.then{t:Ao Unit}{f:Unit->Ao β}{x:RS}{g:AY->AL->RS}(h:Es m fx env (GR fx env) A t σ x)(p:BW A k q fx env σ AI)(k':∀vs τ,Av (DB env) σ τ->BW A k q fx env τ vs->Es m fx env fr A (f ()) τ (g vs τ.o)):Es m fx env fr A (t>>=f) σ (x.bind g):=λhn ht Q E hQ hE=>
 Bm (h.run (RS.bind_ne hn) ht (λu τ st ok ht x=>by cases x with|next e=>exact k' _ τ st (p.go st ok e) hn ht Q E (hQ.after st) (hE.after st)) λc v vs τ e=>hE c v vs τ (by rw[e];rfl))
theorem Es.ite{t:Ao β}{c:Prop}[Decidable c](h:c->Es m fx env fr A t σ r):Es m fx env fr A t σ (if c then r else .no):=by
 by_cases e:c
 ·rw[if_pos e];exact h e
 ·rw[if_neg e];exactλz=>absurd rfl z
theorem Es.opt{t:Ao β}{x:Option γ}{f:γ->RS}(h:∀a,x=AA a->Es m fx env fr A t σ (f a)):Es m fx env fr A t σ (x.elim .no f):=match x,h with
 |some a,h=>h a rfl
 |none,_=>λz=>absurd rfl z
end
noncomputable def AZ:DS:=λv h=> .next v h
noncomputable def AM(a b:DS):DS:=λv h=>(a v h).bind b
theorem BH6:Dy m k q fx [] AZ:=λA env σ AI p=> .ret p.ok (.next p.e)
theorem BH5{a b:DS}(ha:DV m k q fx st a)(hb:Dy m k q fx ss b):Dy m k q fx (st::ss) (AM a b):=λA env σ AI p hn ht Q E hQ hE=>by
 refine Bm ((ha _ _ _ _ p).run (RS.bind_ne hn) ht (λf τ st ok ht x=>?_) λc v vs τ e=>hE c v vs τ (by unfold AM;rw[e];rfl))
 unfold AM at hn hQ hE
 revert hn hQ hE x
 generalize a AI σ.o=r
 intro hn hQ hE x
 revert hn hQ hE
 cases x with
 |next e=>exactλhn hQ hE=>hb _ _ _ _ (p.go st ok e) hn ht Q E (hQ.after st) (hE.after st)
 |brk e=>exactλhn hQ hE=>EM (hQ _ _ st ok (.brk e))
 |ret h e=>exactλhn hQ hE=>EM (hQ _ _ st ok (.ret h e))
noncomputable def Pe(a:D)(f:CV->AY->AL->RS):DS:=λAI objs=>(a AI objs).s AI λc o=>f c AI o
noncomputable def Bb(a:D):DS:=Pe a λc _ o=> .ret c o
theorem BN4{d:D}(h:Aj m k q fx e d):DV m k q fx (.Return (AA e) pos) (Bb d):=λA env σ AI p=> .stand (.bind (h _ _ _ _ p) p λc v τ st p h=> .ret p.ok (.ret h p.e))
noncomputable def Wg:DS:=λv h=> .brk v h
theorem BK3:DV m k q fx (.Break pos) Wg:=λA env σ AI p=> .stand (.ret p.ok (.brk p.e))
theorem BN1:DV m k q fx (.Pass pos) AZ:=λA env σ AI p=> .stand (.ret p.ok (.next p.e))
noncomputable def E_(a:D):DS:=Pe a λ_ v o=> .next v o
theorem BL3{d:D}(h:Aj m k q fx e d)(hi:∀env,env.scope=fx.scope->U5 env=AD)(hs:∀env,swapsWith e AB pos.line env=Ax AD):DV m k q fx (.Expr e pos) (E_ d):=λA env σ AI p=>by
 rw[exec_Expr env e pos (hi env p.e.scope) (hs env)]
 exact .stand (.bind (h _ _ _ _ p) p λc v τ st p h=> .of λ_ Q E hQ _=>wpAny_dropValue (hQ _ _ (.refl ..) p.ok (.next p.e)))
noncomputable def Br(t:DT)(a b:DS):DS:=λAI objs=>(t AI objs).s AI λc o=>if c then a AI o else b AI o
theorem BL7{Im:List Bd}{dt:DT}{a b:DS}(ht:Eh m k q fx x dt)(ha:Dy m k q fx ss a)(hb:Dy m k q fx Im b):DV m k q fx (.If x ss Im pos) (Br dt a b):=λA env σ AI p=> .stand (.bind (ht _ _ _ _ p) p λc v τ st p e=>by
 cases e
 cases c with
 |true=>exact ha _ _ _ _ p
 |false=>exact hb _ _ _ _ p)
end
section
section
variable{a:AK}{s':AN}(p:BW A k q fx env σ AI)(hX:DB env a)(KP:¬σ.W.om a)(hs:∀b,b≠a->s'.heap.get? b=σ.h.get? b)(hl:∃o,s'.heap.get? a=AA o)
include hs hl
theorem fB:∀b o,σ.h.get? b=AA o->∃o',s'.heap.get? b=AA o':=λb o h=>by
 by_cases e:b=a
 ·exact e▸hl
 ·exact⟨o,(hs b e).trans h⟩
include hX
theorem Nv:Av (DB env) σ {σ with s:=s'}:=⟨⟨[],(BJ _).symm⟩,λ_ h=>h,λ_ h=> .inl h,λ_ h=> .inl h,λ_=>Fh,fB hs hl,λb o h _ hx=>
 have h':=(hs b λe=>hx (e▸hX)).trans h
 ⟨λ_=>h',o.slots,h'⟩⟩
include p KP
theorem fC(hF:σ.W.F a->∃o es ep,s'.heap.get? a=AA o/\o.data= .dict es ep)(hg:s'.gens=σ.s.gens)(ho:s'.os=σ.s.os):Ok {σ with s:=s'}:=
 have ok:=p.ok
 ⟨ok.len,ok.dist,ok.omM,λb h=>⟨(ok.FM b h).1,by
   by_cases e:b=a
   ·subst e;exact hF h
   ·exact(ok.FM b h).2.imp λo h=>h.imp λ_ h=>h.imp λ_ h=>⟨(hs b e).trans h.1,h.2⟩⟩,λb h=>⟨(ok.Mlt b h).1.elim λo h'=>fB hs hl b o h',(ok.Mlt b h).2⟩,λb o h=>(hs b λe=>Bt h (e▸(ok.Mlt _ (p.e.quiet a hX).1).2)).trans (ok.keep b o h),hg.trans ok.gens,ho.trans ok.os,λj o q h1 h2=>(ok.rel j o q h1 h2).kp (p.kp (Nv hX hs hl)) (λob h=>(hs _ ((λh e=>KP (e▸h):∀{b},σ.W.om b->b≠a) (Wd.om_mem h2).1)).trans h) λob h=>(hs _ ((λh e=>KP (e▸h):∀{b},σ.W.om b->b≠a) (Wd.om_mem h2).2)).trans h⟩
end
section
variable{i:Nat}{c:CV}{v:AE}{s':AN}(fo:Dp fx)(p:BW A k q fx env σ AI)(hv:V σ c v)
include fo p hv
theorem BG2{mm:AQ->Option AE}(hi:fx.sc[i]? =AA (.loc n))(zC:∀(i:Nat) n v,fx.sc[i]? =AA (.loc n)->AI[i]? =AA (AA v)->∃u,mm n=AA u/\V σ v u)
  (hn:s'.heap.Ns env.locals (λx=>if x=n then AA v else mm x)) (hs:JL env.locals σ.h s'.heap):Bl fx {σ with s:=s'} env (AI.set i (AA c)):=
 have hl:∃o,s'.heap.get? env.locals=AA o:=hn.imp λ_ h=>h.elim λ_ h=>h.elim λ_ h=>h.1
 have kp:Kp σ {σ with s:=s'}:=p.kp (Nv (.inl rfl) hs.2 hl)
 have E:=p.e
 ⟨E.scope,E.func,E.globals,E.builtins,E.frame,E.own,λn' c' hc=>let⟨h1,h2,h3,h4,u,o,h5,h6⟩:=E.cells n' c' hc;⟨h1,h2,h3,h4,u,o,(hs.2 _ h4).trans h5,h6⟩,E.apart,by rw[Ud];exact E.len,⟨_,hn,λj n' v' h1 h2=>by
   by_cases e:i=j
   ·subst e
    rw[hi]at h1;first|exact Af h1|cases h1
    rw[hW (by simp only[E.len];exact GV hi)]at h2
    cases h2
    exact⟨v,if_pos rfl,kp.v _ hv⟩
   ·rw[Ub e]at h2
    obtain⟨u,h3,h4⟩:=zC j n' v' h1 h2
    exact⟨u,by rw[if_neg λe':n'=n=>e (fo.once i j _ hi (e'▸h1) (by intro h;cases h))];exact h3,kp.v _ h4⟩⟩,λj n' h1=>by
   refine B7 (E.cel j n' h1) λc' u AC2=>?_
   obtain⟨h2,⟨o,h3,RW⟩,h4⟩:=AC2
   refine⟨c',u,h2,⟨o,(hs.2 _ (E.cells n' c' (mem_of_lookup h2)).2.2.2.1).trans h3,RW⟩,λv' h5=>?_⟩
   rw[Ub λe=>by subst e;rw[hi]at h1;cases h1]at h5
   exact(h4 v' h5).imp λx h=>⟨h.1,kp.v _ h.2⟩⟩
theorem AS6{l:List (AQ×AK)}(h:l.Pairwise λx y=>x.2≠y.2){x y:AQ×AK}(hx:x∈l)(hy:y∈l)(h1:x.1≠y.1):x.2≠y.2:=by
 induction h with
 |nil=>first|exact Af hx|cases hx
 |cons h _ ih=>
  rcases Cf.mp hx with e|hx<;>rcases Cf.mp hy with e'|hy
  ·exact absurd (e.trans e'.symm▸rfl) h1
  ·exact e▸h _ hy
  ·exact e'▸(h _ hx).symm
  ·exact ih hx hy
theorem BG1{a:AK}(Ih:fx.fn=AC)(hi:fx.sc[i]? =AA (.cel n))(ha:env.cells.lookup n=AA a)(hn:s'.heap.IsCell a (AA v))(hs:JL a σ.h s'.heap):Bl fx {σ with s:=s'} env (AI.set i (AA c)):=
 have E:=p.e
 have hm:=mem_of_lookup ha
 have hl:∃o,s'.heap.get? a=AA o:=hn.imp λ_ h=>h.1
 have kp:Kp σ {σ with s:=s'}:=p.kp (Nv (.inr ⟨E.func Ih,n,hm⟩) hs.2 hl)
 ⟨E.scope,E.func,E.globals,E.builtins,E.frame,E.own,λn' c' hc=>by
   obtain⟨h1,h2,h3,h4,u,o,h5,h6⟩:=E.cells n' c' hc
   refine⟨h1,h2,h3,h4,?_⟩
   by_cases e:c'=a
   ·subst e;exact⟨_,hn⟩
   ·exact⟨u,o,(hs.2 _ e).trans h5,h6⟩,E.apart,by rw[Ud];exact E.len,by
   obtain⟨m,⟨o,es,ep,h1,h2⟩,hr⟩:=E.ns
   refine⟨m,⟨o,es,ep,(hs.2 _ (E.cells n a hm).2.2.2.1.symm).trans h1,h2⟩,λj n' v' h3 h4=>?_⟩
   rw[Ub λe=>by subst e;rw[hi]at h3;cases h3]at h4
   exact(hr j n' v' h3 h4).imp λx h=>⟨h.1,kp.v _ h.2⟩,λj n' h1=>by
   refine B7 (E.cel j n' h1) λc' u AC3=>?_
   obtain⟨h2,⟨o,h3,RW⟩,h4⟩:=AC3
   by_cases e:i=j
   ·subst e
    rw[hi]at h1;first|exact Af h1|cases h1
    refine⟨a,AA v,ha,hn,λv' h5=>⟨v,rfl,?_⟩⟩
    rw[hW (by simp only[E.len];exact GV hi)]at h5
    cases h5;exact kp.v _ hv
   ·have B3:c'≠a:=AS6 fo p hv E.apart (mem_of_lookup h2) hm λe'=>e (fo.once i j _ hi (by rw[h1];exact congrArg (AA∘SK.cel) e') (by intro h;cases h))
    refine⟨c',u,h2,⟨o,(hs.2 _ B3).trans h3,RW⟩,λv' h5=>?_⟩
    rw[Ub e]at h5
    exact(h4 v' h5).imp λx h=>⟨h.1,kp.v _ h.2⟩⟩
end
noncomputable abbrev DG:=CV->AY->AL->RS
noncomputable def DU(m:Bool)(k:Nat)(q:Bool)(fx:Fx)(tgt:Ab)(g:DG):Prop:=∀A env σ AI c v,BW A k q fx env σ AI->V σ c v->Es m fx env (GR fx env) A (RC tgt env v) σ (g c AI σ.o)
noncomputable def AX(i:Nat):DG:=λc AI objs=> .next (AI.set i (AA c)) objs
theorem WW{i:Nat}{c:CV}{v:AE}(fo:Dp fx)(hi:fx.sc[i]? =AA (.loc n))(p:BW A k q fx env σ AI)(hv:V σ c v):Es m fx env (GR fx env) A (storeName env n v) σ (AX i c AI σ.o):= .of λ_ Q E hQ _=>by
 refine A3 (p.e.ns) λmm lJ=>?_
 refine wpAny_storeName_local (by unfold LS;rw[p.e.scope];exact(fo.loc n (Dv hi)).1) lJ.1 (λh' h1 h2=>?_) (by rw[p.e.scope,fo.kind];rfl)
 have hd:∃o es ep,h'.get? env.locals=AA o/\o.data= .dict es ep:=h1.imp λ_ h=>h.imp λ_ h=>h.imp λ_ h=>⟨h.1,h.2.1⟩
 have hl:∃o,h'.get? env.locals=AA o:=hd.imp λ_ h=>h.elim λ_ h=>h.elim λ_ h=>h.1
 have E:=BG2 (s':={σ.s with heap:=h',toks:=σ.s.toks+1}) fo p hv hi lJ.2 h1 h2
 exact hQ () _ (Nv (.inl rfl) h2.2 hl) (fC p (.inl rfl) p.e.own.2 h2.2 hl (λ_=>hd) rfl rfl) (.next E)
theorem AP2{i:Nat}{c:CV}{v:AE}(fo:Dp fx)(Ih:fx.fn=AC)(hi:fx.sc[i]? =AA (.cel n))(p:BW A k q fx env σ AI)(hv:V σ c v):Es m fx env (GR fx env) A (storeName env n v) σ (AX i c AI σ.o):= .of λ_ Q E hQ _=>by
 refine B7 (p.e.cel i n hi) λa u V0=>?_
 refine wpAny_storeName_cell (by rw[p.e.scope];exact fo.kind) (by unfold LS;rw[p.e.scope];exact(fo.cel n (Dv hi)).1) V0.1 V0.2.1 (λh' h4 h5=>?_)
 have hm:=mem_of_lookup V0.1
 exact hQ () _ (Nv (.inr ⟨p.e.func Ih,n,hm⟩:DB env a) h5.2 (h4.imp λ_ h=>h.1:∃o,h'.get? a=AA o)) (fC p (.inr ⟨p.e.func Ih,n,hm⟩:DB env a) (p.e.cells n a hm).2.1 h5.2 (h4.imp λ_ h=>h.1:∃o,h'.get? a=AA o) (λhF=>absurd hF (p.e.cells n a hm).2.2.1) rfl rfl) (.next (BG1 (s':={σ.s with heap:=h'}) fo p hv Ih hi V0.1 h4 h5))
theorem Es.name{r:RS}{v:AE}(h:Es m fx env (GR fx env) A (storeName env n v) σ r):Es m fx env (GR fx env) A (bindName env n v) σ r:=λhn ht Q E hQ hE Γ p h1 h2=>by rw[Sem.wp_bindName];exact h hn ht Q E hQ hE Γ p h1 h2
theorem BH9(fo:Dp fx)(i:Nat)(hi:fx.sc[i]? =AA (.loc n)):DU m k q fx (.Name n pos) (AX i):=λA env σ AI c v p hv=> .stand (.name (WW fo hi p hv))
theorem BH8(fo:Dp fx)(Ih:fx.fn=AC)(i:Nat)(hi:fx.sc[i]? =AA (.cel n)):DU m k q fx (.Name n pos) (AX i):=λA env σ AI c v p hv=> .stand (.name (AP2 fo Ih hi p hv))
noncomputable abbrev FQ:=List CV->AY->AL->RS
structure NJ(m:Bool)(k:Nat)(q:Bool)(fx:Fx)(ts:List Ab)(g:FQ):Prop where
 len:∀env,(Md ts env).length=ts.length
 star:∀env,(Md ts env).findIdx? (·.1)=AB
 ev:∀A env σ AI cs vs,BW A k q fx env σ AI->Vs σ cs vs->Es m fx env (GR fx env) A (ZD ((Md ts env).map (·.2)) vs) σ (g cs AI σ.o)
noncomputable def CS:FQ:=λcs AI objs=>match cs with
 |[]=> .next AI objs
 |_=> .no
noncomputable def A5(a:DG)(b:FQ):FQ:=λcs AI objs=>match cs with
 |[]=> .no
 |c::cs=>(a c AI objs).bind λv o=>b cs v o
theorem BI3:NJ m k q fx [] CS:=⟨λ_=>rfl,λ_=>rfl,λA env σ AI cs vs p hv=>match cs,hv with
 |[],_=> .ret p.ok (.next p.e)
 |_::_,_=>λz=>absurd rfl z⟩
theorem oq{ts:AE->Ao Unit}{tr:List (AE->Ao Unit)}{a:DG}{b:FQ}{cs:List CV}{vs:List AE}(ha:∀{c v},V σ c v->Es m fx env (GR fx env) A (ts v) σ (a c AI σ.o))(hb:∀{τ u cs vs},BW A k q fx env τ u->Vs τ cs vs->Es m fx env (GR fx env) A (ZD tr vs) τ (b cs u τ.o))
  (p:BW A k q fx env σ AI) (hv:Vs σ cs vs):Es m fx env (GR fx env) A (ZD (ts::tr) vs) σ (A5 a b cs AI σ.o):=match cs,hv with
 |[],_=>λz=>absurd rfl z
 |c::cs,⟨v,r,e,h1,h2⟩=>by
  subst e
  exact .then (ha h1).holding p λvs τ st p'=>hb p' ((p.kp st).vs _ h2)
theorem BI2{a:DG}{b:FQ}(ha:DU m k q fx x a)(hb:NJ m k q fx es b)(he:∀env,Md (x::es) env=(AD,RC x env)::Md es env):NJ m k q fx (x::es) (A5 a b):=
 ⟨λenv=>by rw[he];exact congrArg (·+1) (hb.len env),λenv=>by rw[he,vf,hb.star env];rfl,λA env σ AI cs vs p hv=>by
  rw[he]
  exact oq (λh=>ha _ _ _ _ _ _ p h) (λp h=>hb.ev _ _ _ _ _ _ p h) p hv⟩
end
section
noncomputable def mf(objs:AL)(c:CV):Option (List CV):=DX c (Cj objs c) (zt:=λl=>AA l)
inductive l_(σ:St)(l:List CV)(v:AE):Prop
 |l (h:WE σ l v)
 |t (h:V σ (.tup l) v)
theorem vQ:Vw mf l_:=λ{σ c a v} ok e h=>by
 cases c with
 |tup l=>cases e;exact .t h
 |lst vs=>exact .l (vL (c:= .lst vs) ok e h)
 |obj i=>exact .l (vL (c:= .obj i) ok e h)
 |_=>first|exact Af e|cases e
theorem o8{l:List CV}{v:AE}{ts:Nat}(hh:A.handled=AB)(ok:Ok σ)(h:l_ σ l v)(hl:l.length=ts):Ev m Vs A (unpackItems v ts AB) σ (.ok l σ.o):= .of λ_ Q E hQ _=>by
 have fin:∀{ws:List AE} h',Vs σ l ws->ij σ.h.objs.size σ.h h'->Q ws {σ.s with heap:=h'}:=λ{ws} h' hv hx=>hQ.grow (s':={σ.s with heap:=h'}) ok (λa o h=>hx a o (IU (Ew h)) h) rfl rfl rfl ((ok.kp (.grow λa o h=>hx a o (IU (Ew h)) h)).vs _ hv)
 subst hl
 cases h with
 |l h=>
  obtain⟨z,ws,n,rfl,h1,h2⟩:=h
  rw[h2.len,<-DC]
  exact kun_itemsOf hh (Bu h1) λh' hx=>fin h' h2 hx
 |t h=>
  obtain⟨z,ws,rfl,⟨n,h1⟩,h2⟩:=h
  rw[h2.len,<-DC]
  exact wpAny_unpackItems_tuple hh (Bu h1.1) λh' hx=>fin h' h2 hx
noncomputable def DA(ts:Nat)(b:FQ):DG:=λc AI objs=>(mf objs c).elim .no λl=>if l.length=ts then b l AI objs else .no
theorem BI1{b:FQ}(hb:NJ m k AC fx es b):DU m k AC fx (.Tuple es kd pos) (DA es.length b):=λA env σ AI c v p hv=> .stand (.opt λl el=> .ite λhl=>by
 unfold unpack
 rw[hb.star,hb.len]
 exact .bind (g:=λl o=>b l AI o) ((o8 (p.r.hand rfl) p.ok (vQ p.ok el hv) hl).holding) p λl vs τ st p h=>hb.ev _ _ _ _ _ _ p h)
section
variable{K K' α:Type}[DecidableEq K][DecidableEq K']
theorem Nm{k x:K}{ks:List K}{c' c:α}{cs:List α}(e:k=x):Bj (k::ks) (c'::cs) x c=(k::ks,c::cs):=if_pos e
theorem MA{k x:K}{ks:List K}{c' c:α}{cs:List α}(e:¬k=x):Bj (k::ks) (c'::cs) x c=(k::(Bj ks cs x c).1,c'::(Bj ks cs x c).2):=if_neg e
noncomputable def KR(σ:St)(p:List K×List CV)(q:List K×List AE):Prop:=p.1=q.1/\Vs σ p.2 q.2/\q.1.length=q.2.length
theorem KR.cons{k:K}{c:CV}{v:AE}{p:List K×List CV}{q:List K×List AE}(h1:V σ c v)(h:KR σ p q):KR σ (k::p.1,c::p.2) (k::q.1,v::q.2):=⟨congrArg (k::·) h.1,⟨_,_,rfl,h1,h.2.1⟩,congrArg (·+1) h.2.2⟩
theorem qB{c:CV}{v:AE}(hv:V σ c v)(x:K){ks:List K}:∀{cs:List CV} {ws:List AE},Vs σ cs ws->ks.length=ws.length->KR σ (Bj ks cs x c) (Bj ks ws x v):=by
 induction ks with
 |nil=>exactλ_ _=>⟨rfl, .one hv,rfl⟩
 |cons k ks ih=>
  intro cs ws hr hl
  cases cs with
  |nil=>cases hr;first|exact Af hl|cases hl
  |cons c' cs=>
   refine B7 (hr) λv' r AC4=>?_
   obtain⟨e,h1,h2⟩:=AC4
   rw[e]at hl⊢
   by_cases e:k=x
   ·rw[Nm e,Nm e];exact⟨rfl,⟨_,_,rfl,hv,h2⟩,hl⟩
   ·rw[MA e,MA e]
    exact(ih h2 (Hw hl)).cons h1
noncomputable def zf(f:K->K')(p:List K×List AE):List (K'×AE):=(p.1.map f).zip p.2
theorem BQ3{k:K}{v w:AE}{l:List (K×AE)}(h:k∉l.map (·.1)):Ol ((k,w)::l) k v=(k,v)::l:=by
 have e:(((k,w)::l).any λkv=>decide (kv.1=k))=AC:=Hs.mpr (.inl (decide_eq_true rfl))
 refine(if_pos e).trans ?_
 show(if k=k then(k,v)else(k,w))::l.map _=_
 rw[if_pos rfl]
 exact congrArg ((k,v)::·) ((vo λp hp=>if_neg λq:p.1=k=>h (q▸(Qn (f:=(·.1)) hp))).trans (Qm _))
theorem BQ4{k a:K}{v w:AE}{l:List (K×AE)}(h:¬a=k):Ol ((a,w)::l) k v=(a,w)::Ol l k v:=by
 show(if(decide (a=k)||l.any λkv=>decide (kv.1=k))=AC then(if a=k then(a,v)else(a,w))::l.map _ else(a,w)::(l++[(k,v)]))=_
 rw[if_neg h,decide_eq_false h,Bool.false_or]
 exact(apply_ite (λl=>(a,w)::l) _ _ _).symm
theorem tY(f:K->K')(Vm:∀a b,f a=f b->a=b)(k:K)(v:AE){ks:List K}:∀{ws:List AE},ks.length=ws.length->((zf f (ks,ws)).map (·.1)).Nodup->Ol (zf f (ks,ws)) (f k) v=zf f (Bj ks ws k v):=by
 induction ks with
 |nil=>exactλh _=>by cases Gy.mp h.symm;rfl
 |cons a ks ih=>
  intro ws h nd
  cases ws with
  |nil=>first|exact Af h|cases h
  |cons w ws=>
   by_cases e:a=k
   ·rw[Nm e,<-e];exact BQ3 (HT.mp nd).1
   ·rw[MA e]
    exact(BQ4 λh=>e (Vm _ _ h)).trans (congrArg ((f a,w)::·) (ih (Hw h) (HT.mp nd).2))
theorem oM{knd:KeyKind pE w K}{h:BS}{a:AK}{BO:List (K×AE)}(d:h.DictOf knd a BO):(BO.map (·.1)).Nodup:=
 d.elim λ_ d=>d.elim λ_ d=>d.elim λ_ d=>d.2.2.2.2.2
theorem cL{knd:KeyKind pE w K}{z6:KeyKind pE w K'}{h:BS}{a:AK}(d:h.DictOf knd a []):h.DictOf z6 a []:=by
 refine Hr (d) λo es ep AC5=>?_
 obtain⟨h1,h2,h3,h4,h5,h6⟩:=AC5
 have e:es.toList=[]:=by
  cases e:es.toList with
  |nil=>rfl
  |cons=>rw[e]at h5;first|exact Af h5|cases h5
 rw[uy.mp e]at h3
 exact⟨o, #[],ep,h1,h2,h3,λ_ he=>absurd he (uw _), .nil, .nil⟩
end
noncomputable def Kt(ks:DK)(vs:List CV)(c v:CV):Option (DK×List CV):=match ks with
 | .s ks=>match c with
  | .str x=>AA (.s (Bj ks vs x v).1,(Bj ks vs x v).2)
  | .int x=>if ks=[]then AA (.i [x],[v])else AB
  |_=>AB
 | .i ks=>match c with
  | .int x=>AA (.i (Bj ks vs x v).1,(Bj ks vs x v).2)
  | .str x=>if ks=[]then AA (.s [x],[v])else AB
  |_=>AB
inductive KS(σ:St)(a:AK)(iv v:AE)(d:DK×List CV)(n:Nat):Prop
 |mk {K:Type} [DecidableEq K] (knd:KeyKind pE w K) (x:K) (BO:List (K×AE)) (Fw:List AE) (hk:knd.is x iv=AC) (hd:σ.h.DictOf knd a BO) (hn:BO.length=n) (hr:∀h':BS,h'.DictOf knd a (Ol BO x v)->Do h' a d.1 Fw) (hv:Vs σ d.2 Fw)
section
variable{a:AK}{cs:List CV}{ws:List AE}{iv v:AE}{c:CV}
theorem qH{ks:List T}(hd:Do σ.h a (.s ks) ws)(hr:Vs σ cs ws)(hc:V σ c v){x:T}{t:Cg}:KS σ a (.str (AU x) t) v (.s (Bj ks cs x c).1,(Bj ks cs x c).2) cs.length:=
 have k:=qB hc x hr hd.2.2
 have st:Ol ((ks.map AU).zip ws) (AU x) v=((Bj ks ws x v).1.map AU).zip (Bj ks ws x v).2:=tY AU (λ_ _=>Nt) x v hd.2.2 (oM hd.2.1)
 .mk (strKind pE w) (AU x) _ (Bj ks ws x v).2 (jE pE w _ t) hd.2.1 (by rw[J2,Ay,hd.2.2,LP,hr.len]) (λh' h=>⟨hd.1,by rw[k.1];exact⟨st▸h,k.2.2⟩⟩) k.2.1
theorem qF{ks:List Int}(hd:Do σ.h a (.i ks) ws)(hr:Vs σ cs ws)(hc:V σ c v){x:Int}{t:Cg}:KS σ a (.int x t) v (.i (Bj ks cs x c).1,(Bj ks cs x c).2) cs.length:=
 have k:=qB hc x hr hd.2.2
 have st:Ol (ks.zip ws) x v=(Bj ks ws x v).1.zip (Bj ks ws x v).2:=by
  have:=tY (id:Int->Int) (λ_ _ h=>h) x v hd.2.2 (by unfold zf;rw[Qm];exact oM hd.2.1)
  unfold zf at this
  rw[Qm,Qm]at this
  exact this
 .mk (Dl pE w) x _ (Bj ks ws x v).2 (Og pE w _ t) hd.2.1 (by rw[J2,hd.2.2,LP,hr.len]) (λh' h=>⟨hd.1,by rw[k.1];exact⟨st▸h,k.2.2⟩⟩) k.2.1
theorem Do.swap{ks:DK}(hd:Do σ.h a ks ws)(h:ks= .s []\/ks= .i []):ws=[]/\Do σ.h a (.s []) []/\Do σ.h a (.i []) []:=by
 cases h with
 |inl h=>
  rw[h]at hd
  have e:ws=[]:=Gy.mp hd.2.2.symm
  rw[e]at hd
  exact⟨e,hd,hd.1,cL hd.2.1,rfl⟩
 |inr h=>
  rw[h]at hd
  have e:ws=[]:=Gy.mp hd.2.2.symm
  rw[e]at hd
  exact⟨e,⟨hd.1,cL hd.2.1,rfl⟩,hd⟩
theorem Vs.nil_of(hr:Vs σ cs ws)(e:ws=[]):cs=[]:=Gy.mp (hr.len.trans (congrArg JD e))
inductive SD(vs:List CV)(c:CV):DK->CV->DK×List CV->Prop
 |s (l:List T) (x:T):SD vs c (.s l) (.str x) (.s (Bj l vs x c).1,(Bj l vs x c).2)
 |i (l:List Int) (x:Int):SD vs c (.i l) (.int x) (.i (Bj l vs x c).1,(Bj l vs x c).2)
 |si (x:Int):SD vs c (.s []) (.int x) (.i [x],[c])
 |is (x:T):SD vs c (.i []) (.str x) (.s [x],[c])
theorem XU{α:Type}{d:α}{P:Prop}(e:AB=AA d):P:=by cases e
theorem dSI{vs:List CV}{ks:DK}{y:CV}{d:DK×List CV}(e:Kt ks vs y c=AA d):SD vs c ks y d:=by
 cases ks with
 |s l=>cases y with
  |str x=>cases e;exact .s l x
  |int x=>cases l with
   |nil=>cases e;exact .si x
   |cons=>exact XU e
  |_=>exact XU e
 |i l=>cases y with
  |int x=>cases e;exact .i l x
  |str x=>cases l with
   |nil=>cases e;exact .is x
   |cons=>exact XU e
  |_=>exact XU e
theorem qG{ks:DK}{y:CV}{d:DK×List CV}(ok:Ok σ)(hd:Do σ.h a ks ws)(hr:Vs σ cs ws)(hy:V σ y iv)(hc:V σ c v)(e:Kt ks cs y c=AA d):KS σ a iv v d cs.length:=by
 cases dSI e with
 |s l x=>exact hy.elim λt e=>e▸qH hd hr hc
 |i l x=>exact hy.elim λt e=>e▸qF hd hr hc
 |si x=>
  have h:=hd.swap (.inl rfl)
  have Rd:=hr.nil_of h.1
  rw[h.1,Rd]at hr
  rw[Rd]
  exact hy.elim λt e=>e▸qF (ks:=[]) h.2.2 hr hc
 |is x=>
  have h:=hd.swap (.inr rfl)
  have Rd:=hr.nil_of h.1
  rw[h.1,Rd]at hr
  rw[Rd]
  exact hy.elim λt e=>e▸qH (ks:=[]) h.2.1 hr hc
end
end
section
inductive l9(σ:St)(d:Nat×List CV)(v:AE):Prop
 |mk (p:AK×AK) (ws:List AE) (n:Nat) (e:v= .ref p.1) (hp:σ.W.ρ[d.1]? =AA p) (e2:p.2=p.1) (h:σ.h.get? p.1=AA (Dk ws.toArray n)) (x:Vs σ d.2 ws)
inductive ak(σ:St)(d:Nat×DK×List CV)(v:AE):Prop
 |mk (p:AK×AK) (ws:List AE) (e:v= .ref p.1) (hp:σ.W.ρ[d.1]? =AA p) (e2:p.2=p.1) (h:Do σ.h p.1 d.2.1 ws) (x:Vs σ d.2.2 ws)
noncomputable def WR{α:Type}(f:CO->Option α)(objs:AL)(c:CV):Option (Nat×α):=DX c AB (zo:=λi=>(objs[i]?.bind f).map λa=>(i,a))
noncomputable def GP:=WR EI
noncomputable def Sf:=WR TS
theorem a9{f:CO->Option α}{o:AL}{c:CV}{a:Nat×α}(e:WR f o c=AA a):∃x,c= .obj a.1/\o[a.1]? =AA x/\f x=AA a.2:=by
 cases c with
 |obj i=>
  refine A3 (DD.mp e) λb lL=>?_
  obtain rfl:=lL.2
  exact(C5.mp lL.1).imp λx h=>⟨rfl,h⟩
 |_=>first|exact Af e|cases e
theorem QW:Vw GP l9:=λ{σ c a v} ok e h=>by
 obtain⟨x,rfl,e1,e2⟩:=a9 e
 obtain⟨p,rfl,hp,hr⟩:=ok.obj h e1
 cases x<;>cases e2
 obtain⟨e2,ws,n,h1,h2⟩:=hr
 exact⟨p,ws,n,rfl,hp,e2,h1,h2⟩
theorem gR:Vw Sf ak:=λ{σ c a v} ok e h=>by
 obtain⟨x,rfl,e1,e2⟩:=a9 e
 obtain⟨p,rfl,hp,hr⟩:=ok.obj h e1
 obtain⟨i,d⟩:=a
 cases x<;>cases e2
 obtain⟨e2,_,ws,_,h1,h2⟩:=hr
 exact⟨p,ws,rfl,hp,e2,h1,h2⟩
section
variable{rel:St->α->β->Prop}{r:R α}{Q:β->AN->Prop}{a:α}{v:β}{i:Nat}{p:AK×AK}{s':AN}{o':CO}
theorem VC.set(h:VC rel σ r Q)(ok:Ok σ)(hp:σ.W.ρ[i]? =AA p)(hs:∀b,b≠p.1->s'.heap.get? b=σ.h.get? b)(hl:∃o,s'.heap.get? p.1=AA o)(hg:s'.gens=σ.s.gens)(ho:s'.os=σ.s.os)(hr:Kp σ ⟨σ.W,σ.o.set i o',s'⟩->GN ⟨σ.W,σ.o.set i o',s'⟩ o' p)
  (e:r= .ok a (σ.o.set i o')) (x:Kp σ ⟨σ.W,σ.o.set i o',s'⟩->rel ⟨σ.W,σ.o.set i o',s'⟩ a v):Q v s':=
 have E7:=fB hs hl
 have hk:∀b o,σ.h.get? b=AA o->b≠p.1->b≠p.2->s'.heap.get? b=AA o:=λb o h h1 _=>(hs b h1).trans h
 have st:=Av.set (X:=HJ) (o':=σ.o.set i o') hp E7 hk
 have k:=ok.kp st
 h a v ⟨σ.W,σ.o.set i o',s'⟩ e st (ok.set hp E7 hk hg ho (hr k)) (x k)
theorem VC.updL(h:VC rel σ r Q)(ok:Ok σ){l':List CV}{ws:List AE}{n t:Nat}(hp:σ.W.ρ[i]? =AA p)(e2:p.2=p.1)(h1:σ.h.get? p.1=AA (Dk ws.toArray n))(f:Array AE->Array AE)(hl:Vs σ l' (f ws.toArray).toList)
  (e:r= .ok a (σ.o.set i (.list l'))) (x:∀τ,Kp σ τ->rel τ a v):Q v {σ.s with heap:=σ.h.update p.1 (JN f),toks:=t}:=
 have Vf:=Y2 h1 f
 h.set (s':={σ.s with heap:=σ.h.update p.1 (JN f),toks:=t}) (o':= .list l') ok hp (λb hb=>xP σ.h _ hb.symm) ⟨_,Vf⟩ rfl rfl (λk=>⟨e2,(f ws.toArray).toList,_,Vf,k.vs _ hl⟩) e λk=>x _ k
end
theorem Vs.set{c:CV}{v:AE}(hc:V σ c v){cs:List CV}:∀{vs:List AE} (j:Nat),Vs σ cs vs->Vs σ (cs.set j c) (vs.set j v):=by
 induction cs with
 |nil=>intro vs j x;cases x;rfl
 |cons d cs ih=>
  intro vs j h
  obtain⟨u,r,rfl,a,b⟩:=h
  cases j with
  |zero=>exact⟨_,_,rfl,hc,b⟩
  |succ j=>exact⟨_,_,rfl,a,ih j b⟩
noncomputable def Ff(x y c:CV)(o:AL):R Unit:=match GP o x with
 |some l=>(Bq o y).elim .no λj=>if 0<=j/\j<l.2.length/\l.2.length<=Ah then .ok () (o.set l.1 (.list (l.2.set j.toNat c)))else .no
 |none=>(Sf o x).elim .no λd=>if d.2.2.length<=Ah then(Kt d.2.1 d.2.2 y c).elim .no λd'=> .ok () (o.set d.1 (.dict d'.1 d'.2))else .no
noncomputable abbrev rU:St->Unit->Unit->Prop:=λ_ _ _=>True
theorem ow{x y c:CV}{ov iv v:AE}(ok:Ok σ)(hx:V σ x ov)(hy:V σ y iv)(hc:V σ c v):Ev m rU A (setItem ov iv v) σ (Ff x y c σ.o):=by
 unfold Ff
 cases e:GP σ.o x with
 |some l=>
  exact .opt λj ej=> .ite λhj=> .of λ_ Q E hQ _=>by
   obtain⟨p,ws,n,rfl,hp,e2,h1,h2⟩:=QW ok e hx
   obtain⟨t,rfl⟩:=vI ok ej hy
   have hz:ws.toArray.size=l.2.length:=by rw[DC,h2.len]
   exact ki_setAt h1 hj.1 (IS hj.2.1 (W0 hj.2.2)) (by rw[hz];exact hj.2.1) (hQ.updL (t:=σ.s.toks) ok hp e2 h1 (·.setIfInBounds j.toNat v) (by simp only[Array.toList_setIfInBounds];exact Vs.set hc _ h2) rfl λ_ _=>trivial)
 |none=>
  exact .opt λd ed=> .ite λhl=> .opt λd' es=> .of λ_ Q E hQ _=>by
   obtain⟨p,ws,rfl,hp,e2,h1,h2⟩:=gR ok ed hx
   obtain⟨knd,z,BO,Fw,hk,hd,hn,hr,hv⟩:=qG ok h1 h2 hy hc es
   refine wpAny_setItem_pairs hk hd (λh' h3 hs=>?_) (by rw[hn];exact hl)
   have De:∃o,h'.get? p.1=AA o:=h3.imp λ_ h=>h.elim λ_ h=>h.elim λ_ h=>h.1
   exact hQ.set (s':={σ.s with heap:=h',toks:=σ.s.toks+1}) (o':= .dict d'.1 d'.2) ok hp hs.2 De rfl rfl (λk=>⟨e2,De.choose,Fw,De.choose_spec,hr h' h3,k.vs _ hv⟩) rfl λ_=>trivial
noncomputable def Gr(a b:D):DG:=λc AI objs=>(a AI objs).s AI λx o1=>(b AI o1).s AI λy o2=>(Ff x y c o2).s AI λ_ o3=> .next AI o3
theorem BI0{a b:D}(ha:Aj m k q fx l a)(hb:Aj m k q fx r b):DU m k q fx (.Subscript l r pos) (Gr a b):=λA env σ AI c v p hv=>
 .bind (ha _ _ _ _ p).holding p λx u τ st p1 hx=> .bind (hb _ _ _ _ p1).holding p1 λy i υ Bp p2 hy=> .stand (.bind (ow p2.ok ((p1.ok.kp Bp).v _ hx) hy ((p.ok.kp (st.trans Bp)).v _ hv)).holding p2 λ_ _ Jc BF p3 _=> .of λ_ Q E hQ _=>jM (hQ _ _ (.refl ..) p3.ok (.next p3.e)))
end
theorem RS.bind_next(r:RS):r.bind (λv o=> .next v o)=r:=by cases r<;>rfl
theorem Es.done{t:Ao Unit}{r:RS}(h:Es m fx env (GR fx env) A t σ r)(p:BW A k q fx env σ AI):Es m fx env (FR fx env) A (t>>=λ_=>Ax Flow.next) σ r:=RS.bind_next r▸Es.then h p λvs τ st p=> .ret p.ok (.next p.e)
theorem An0{s:AN}{E:AE->AN->Prop}{l b:AK}{items M':Array AE}{n n2:Nat}{Q:AE->AN->Prop}(hl:s.heap.get? l=AA (Dk items n))(hb:s.heap.get? b=AA (Dk M' n2))
  (Fu:items.size+M'.size<=FI) (h:Q (.ref l) {s with heap:=s.heap.update l (JN λx=>x++M'),toks:=s.toks}):Ac Ak A (inplaceOp .Add (.ref l) (.ref b)) Q E s:=by
 have il:s.heap.IsList l items:=xQ (n:=n) hl
 have ib:s.heap.IsList b M':=xQ (n:=n2) hb
 unfold inplaceOp
 refine D_ ?_
 have Ov:JS (.type "list") (dunderI "add")=Ax (AA (.builtin "list.__iadd__")):=xK.lookup
 have kK:isSeqSlot (AA (.builtin "list.__iadd__"))=AC:=by decide+kernel
 have yq:fillsInplaceSlot (.type "list") "add" (Operator.Add== .Add)=Ax AD:=by
  unfold fillsInplaceSlot
  show(JS (.type "list") (dunderI "add")>>=λfi=>Ax (fi.isSome&& !isSeqSlot fi))=Ax AD
  rw[Ov]
  show Ax ((AA (Value.builtin "list.__iadd__")).isSome&& !isSeqSlot (AA (.builtin "list.__iadd__")))=(Ax AD:Ao Bool)
  rw[kK];rfl
 refine AR (ZS il.typeIs (AR (Ic yq ?_)))
 refine QX C2 ?_
 refine AR (binaryOp1_none (nm:="add") il.typeIs ib.typeIs noFill_list_add ?_)
 refine AR (Ic (PySem.seqSlot_of Ov kK) (AR (Hb ?_)))
 have h1:¬(!items.isEmpty&&wj (items.size+M'.size))=AC:=by
  rw[show wj (items.size+M'.size)=AD from decide_eq_false (Cp.mpr Fu),LH];exact C2
 exact Hy xK il.typeIs xA (F.args_list_iadd_2 _ _) (AutoSeq1.list___iadd___list_list_0 l items n b M' n2 h1 (AO (GE _ _) Fu) (HU Fu)) ⟨hl,hb,h⟩
noncomputable abbrev Xg(op:LU):List AE->Ao AE:=λvs=>inplaceOp op (vs.getD 0 .none) (vs.getD 1 .none)
noncomputable def Ed:List CV->AL->R CV:=BP (BN Bq Bq λa b o=> .ok (.int (a+b)) o) (BP (BN BX BX λa b o=>if a.length+b.length<=Ah then .ok (.str (a++b)) o else .no)
 (BN GP Cj λd c o=>if d.2.length+c.length<=Ah then .ok (.obj d.1) (o.set d.1 (.list (d.2++c)))else .no))
theorem A54:BA m k q (Xg .Add) Ed:=
 .alt (.on2 vI vI λA σ a b u v _ ok ⟨t,h⟩ ⟨t',h'⟩=> .of λ_ Q E hQ _=>by subst h h';exact PyProof.Rows.iadd_int (hQ.tk rfl ok ⟨_,rfl⟩))
 (.alt (.on2 vS vS λA σ a b u v _ ok ⟨t,h⟩ ⟨t',h'⟩=> .ite λhl=> .of λ_ Q E hQ _=>by subst h h';exact SB.iadd (λKb tk=>by rw[qy];exact hQ.tk rfl ok ⟨_,rfl⟩) (by rw[BY,BY];exact hl))
 (.on2 QW vL λA σ d c u v _ ok h h'=> .ite λhl=> .of λ_ Q E hQ _=>by
   obtain⟨p,ws,n,rfl,hp,e2,h1,h2⟩:=h
   obtain⟨b,us,n',rfl,h3,h4⟩:=h'
   exact An0 h1 h3 (by simp only[DC,DC,<-h2.len,<-h4.len];exact hl) (hQ.updL (t:=σ.s.toks) ok hp e2 h1 (λx=>x++us.toArray) (by simp only[YV];exact h2.append h4) rfl λτ kp=>⟨p,kp.ob _ _ hp,rfl⟩)))
theorem Ac0(fo:Dp fx){i:Nat}(hi:fx.sc[i]? =AA (.loc n))(p:BW A k q fx env σ AI):Ev m V A (loadName env n) σ (AF i AI σ.o):= .of λhn Q E hQ hE=>by
 obtain⟨v,hv⟩:=bc hn
 refine A3 (p.e.ns) λmm lO=>?_
 refine A3 (lO.2 i n v hi hv) λu lP=>?_
 exact xh (by rw[p.e.scope];exact fo.kind) (by unfold LS;rw[p.e.scope];exact(fo.loc n (Dv hi)).1) lO.1 lP.1 (hQ.here (be hv) p.ok lP.2)
noncomputable def Jh(f:List CV->AL->R CV)(i:Nat)(a:D):DS:=λAI objs=>(AF i AI objs).s AI λG7 o=>(a AI o).s AI λv o1=>(f [G7,v] o1).s AI λr o2=> .next (AI.set i (AA r)) o2
theorem BK0(fo:Dp fx){op:LU}{a:D}(i:Nat)(hi:fx.sc[i]? =AA (.loc n))(ha:Aj m k q fx e a)(hf:BA m k q (Xg op) f):DV m k q fx (.AugAssign (.Name n p1) op e pos) (Jh f i a):=λA env σ AI p=>
 .stand (.bind (Ac0 fo hi p) p λG7 u τ st p1 h=> .bind (ha _ _ _ _ p1).holding p1 λc v υ Bp p2 h'=> .stand (.bind (hf _ _ _ [u,v] p2.r p2.ok (.two ((p1.ok.kp Bp).v _ h) h')).op p2 λr z Jc BF p3 hz=> .stand (.done (.name (WW fo hi p3 hz)) p3)))
noncomputable def HE(f:List CV->AL->R CV)(a b c:D):DS:=λAI objs=>(a AI objs).s AI λx o1=>(b AI o1).s AI λy o2=>((AW [x,y] o2).bind λG7 o3=>(c AI o3).bind λv o4=>f [G7,v] o4).s AI λr o5=>(Ff x y r o5).s AI λ_ o6=> .next AI o6
theorem BK1{op:LU}{a b c:D}(ha:Aj m k q fx l a)(hb:Aj m k q fx r b)(hc:Aj m k q fx e c)(hf:BA m k q (Xg op) f)
  (hi:∀ov iv new,augStore r ov iv new=(do HY [new,ov,iv] (setItem ov iv new);release [new,ov,iv] [];Ax .next)):DV m k q fx (.AugAssign (.Subscript l r p1) op e pos) (HE f a b c):=λA env σ AI p=>
 .stand (.bind (ha _ _ _ _ p) p λx ov τ st p1 hx=> .bind (hb _ _ _ _ p1).holding p1 λy iv υ Bp p2 hy=>
  have kS:=(p1.ok.kp Bp).v _ hx
  .bind (Ev.holding (.stand ((ro.ev _ _ _ [ov,iv] p2.r p2.ok (.two kS hy)).bind λG7 u σ1 s1 Fd ho=>(hc _ _ _ _ (p2.step s1 Fd)).holding.bind λd v σ2 s2 BE hd=> .stand (.op (hf _ _ _ [u,v] ((p2.r.step s1).step s2) BE (.two ((Fd.kp s2).v _ ho) hd)))))) p2 λg new σ3 s3 p3 hg=> .stand (by
   rw[hi]
   exact .bind (ow p3.ok ((p2.ok.kp s3).v _ kS) ((p2.ok.kp s3).v _ hy) hg).holding p3 λ_ _ Fy s4 p4 _=> .leaf () (λQ E h=>jM h) (.ret p4.ok (.next p4.e))))
noncomputable def Ar(a:D)(g:DG):DS:=λAI objs=>(a AI objs).s AI λc o=>g c AI o
theorem BJ6{a:D}{g:DG}(ha:Aj m k q fx e a)(hg:DU m k q fx x g)(hs:∀env:A7,env.scope=fx.scope->Mp [x] e pos.line env=Ax AD)(hw:∀env:A7,env.scope=fx.scope->Mo [x] e env=Ax AB)
  (zJ:∀env,Md [x] env=[(AD,RC x env)]):DV m k q fx (.Assign [x] e pos) (Ar a g):=λA env σ AI p=>by
 simp only[wX,hs env p.e.scope]
 refine .stand (.leaf AD (λQ E h=>Aa h) (.bind (ha _ _ _ _ p) p λc v τ st p1 h=>?_))
 rw[hw env p1.e.scope]
 refine .leaf AB (λQ E h=>Aa h) ?_
 rw[zJ env]
 exact .done (hg _ _ _ _ _ _ p1 h) p1
noncomputable def NK(m:Bool)(k:Nat)(q:Bool)(fx:Fx)(ns:List AQ)(g:FQ):Prop:=∀A env σ AI cs vs,BW A k q fx env σ AI->Vs σ cs vs->Es m fx env (GR fx env) A (ZD (ns.map λn=>bindName env n) vs) σ (g cs AI σ.o)
theorem BI8:NK m k q fx [] CS:=λA env σ AI cs vs p hv=>match cs,hv with
 |[],_=> .ret p.ok (.next p.e)
 |_::_,_=>λz=>absurd rfl z
theorem BI7(fo:Dp fx){ns:List AQ}{b:FQ}(i:Nat)(hi:fx.sc[i]? =AA (.loc n))(hb:NK m k q fx ns b):NK m k q fx (n::ns) (A5 (AX i) b):=λA env σ AI cs vs p hv=>oq (λh=> .name (WW fo hi p h)) (λp h=>hb _ _ _ _ _ _ p h) p hv
theorem Vs.reverse{cs:List CV}:∀{vs:List AE},Vs σ cs vs->Vs σ cs.reverse vs.reverse:=by
 induction cs with
 |nil=>intro vs x;cases x;rfl
 |cons c cs ih=>
  intro vs h
  obtain⟨v,r,rfl,a,b⟩:=h
  rw[v9,v9];exact(ih b).append (.one a)
noncomputable def L_(n:Nat)(b:FQ):DG:=λc AI objs=>(H9 objs c).elim .no λl=>if l.length=n then b l.reverse AI objs else .no
theorem BJ8{a:D}{b:FQ}{names ns:List AQ}(ha:Aj m k AC fx e a)(hb:NK m k AC fx ns b)(hw:∀env:A7,env.scope=fx.scope->Mo [.Tuple es kd p1] e env=Ax (AA names))(kI:names.reverse=ns)
  (hs:∀env:A7,Mp [.Tuple es kd p1] e pos.line env=Ax AD):DV m k AC fx (.Assign [.Tuple es kd p1] e pos) (Ar a (L_ ns.length b)):=λA env σ AI p=>by
 simp only[wX,hs env]
 refine .stand (.leaf AD (λQ E h=>Aa h) (.bind (ha _ _ _ _ p) p λc v τ st p1 h=>?_))
 rw[hw env p1.e.scope]
 refine .leaf (AA names) (λQ E h=>Aa h) (.leaf () (λQ E h=>Hb h) (.opt λl el=> .ite λhl=>?_))
 rw[<-kI,List.length_reverse]at hl
 refine .bind (g:=λl o=>b l.reverse AI o) (o8 (p1.r.hand rfl) p1.ok (.t (vT p1.ok el h)) hl) p1 λl vs υ Bp p2 h=>?_
 rw[kI]
 exact .done (hb _ _ _ _ _ _ p2 h.reverse) p2
section
noncomputable abbrev Cv:=AL->Nat->Option (Option CV)
structure Ci(Xs:AK->Prop)(σ:St):Prop where
 M:∀a,Xs a->σ.W.M a/\¬σ.W.om a/\¬σ.W.F a
 ne:∀a,Xs a->∀o,σ.h.get? a=AA o->K_ o
structure Cu(Xs:AK->Prop)(σ:St)(s':AN):Prop where
 kept:∀a o,σ.h.get? a=AA o->¬Xs a->s'.heap.get? a=AA o
 gens:s'.gens=σ.s.gens
 os:s'.os=σ.s.os
noncomputable abbrev St.to(σ:St)(s':AN):St:={σ with s:=s'}
noncomputable abbrev St.off(σ:St)(Xs:AK->Prop)(s':AN):St:={W:={ρ:=σ.W.ρ,M:=λa=>σ.W.M a/\¬Xs a,F:=σ.W.F},o:=σ.o,s:=s'}
section
variable{Xs:AK->Prop}{s':AN}(ok:Ok σ)(O:Ci Xs σ)(H:Cu Xs σ s')
include ok O H
theorem Cu.dict:∀a,σ.W.F a->∃o es ep,s'.heap.get? a=AA o/\o.data= .dict es ep:=λa h=>(ok.FM a h).2.imp λo h'=>h'.imp λ_ h'=>h'.imp λ_ h'=>⟨H.kept a o h'.1 λx=>(O.M a x).2.2 h,h'.2⟩
theorem Cu.old:∀b o,BH.heap.get? b=AA o->s'.heap.get? b=AA o:=λb o h=>H.kept b o (ok.keep b o h) λx=>Bt h (ok.Mlt b (O.M b x).1).2
theorem Cu.rel(k:Kp σ τ)(e:τ.s=s'):∀(i:Nat) o p,σ.o[i]? =AA o->σ.W.ρ[i]? =AA p->GN τ o p:=λi o p h1 h2=>by
 subst e
 exact(ok.rel i o p h1 h2).kp k (λob h=>H.kept _ ob h λx=>(O.M _ x).2.1 (Wd.om_mem h2).1) λob h=>H.kept _ ob h λx=>(O.M _ x).2.1 (Wd.om_mem h2).2
theorem Cu.step(hl:∀a,Xs a->∃o,s'.heap.get? a=AA o):Av Xs σ (σ.to s'):=⟨⟨[],(BJ _).symm⟩,λ_ h=>h,λ_ h=> .inl h,λ_ h=> .inl h,λ_=>Fh,λa o h=>(u3 (Xs a)).elim (hl a) λx=>⟨o,H.kept a o h x⟩,λa o h _ x=>⟨λ_=>H.kept a o h x,o.slots,H.kept a o h x⟩⟩
theorem Cu.kp(hl:∀a,Xs a->∃o,s'.heap.get? a=AA o):Kp σ (σ.to s'):=(H.step ok O hl).kp ok λa h=>⟨(O.M a h).1,O.ne a h⟩
theorem Cu.good(hl:∀a,Xs a->∃o,s'.heap.get? a=AA o):Ok (σ.to s'):=⟨ok.len,ok.dist,ok.omM,λa h=>⟨(ok.FM a h).1,H.dict ok O a h⟩,λa h=>⟨(ok.Mlt a h).1.elim λo h=>(H.step ok O hl).live a o h,(ok.Mlt a h).2⟩,H.old ok O,H.gens.trans ok.gens,H.os.trans ok.os,Cu.rel (σ:=σ) ok O H (H.kp ok O hl) rfl⟩
theorem Cu.kpOff:Kp σ (σ.off Xs s'):=
 have p:∀a o,σ.pl a o->(σ.off Xs s').pl a o:=λa o h=>⟨H.kept a o h.1 λx=>h.2 (O.M a x).1,λq=>h.2 q.1⟩
 ⟨p,λ_ _ h=>h,λc m a h=>
  let⟨o,vs,t,it,n,h1,h2,h3,h4,h5,h6⟩:=h.at_
  have nx:¬Xs a:=λx=>(O.ne a x o h1).elim (λz=>z vs h3) λz=>by rw[h2,h.x]at z;first|exact Af z|cases z
  ⟨⟨h.M,nx⟩,h.om,h.F,h.x,o,vs,t,it,n,H.kept a o h1 nx,h2,h3,h4,p _ _ h5,h6⟩⟩
theorem Cu.okOff:Ok (σ.off Xs s'):=⟨ok.len,ok.dist,λa h=>⟨⟨(ok.omM a h).1,λx=>(O.M a x).2.1 h⟩,(ok.omM a h).2⟩,λa h=>⟨⟨(ok.FM a h).1,λx=>(O.M a x).2.2 h⟩,H.dict ok O a h⟩,λa h=>⟨(ok.Mlt a h.1).1.imp λo h'=>H.kept a o h' h.2,(ok.Mlt a h.1).2⟩,H.old ok O,H.gens.trans ok.gens,H.os.trans ok.os,Cu.rel (σ:=σ) ok O H (H.kpOff ok O) rfl⟩
end
noncomputable abbrev GY(X Xs:AK->Prop):AK->Prop:=λa=>X a\/Xs a
section
variable{Xs:AK->Prop}{s':AN}{σ₀:St}(B':Av (GY X Xs) σ₀ σ)(hf:∀a,Xs a->σ₀.h.get? a=AB)
include B' hf
theorem Av.close:Av X σ₀ σ:=B'.weaken λa h=>h.imp id (hf a)
theorem Cu.close(ok:Ok σ₀)(H:Cu Xs σ s'):Av X σ₀ (σ.off Xs s'):=
 have nx:∀{a o},σ₀.h.get? a=AA o->¬Xs a:=λh x=>Bt h (hf _ x)
 ⟨B'.rho,λa h=>⟨B'.mono a h,(ok.Mlt a h).1.elim λ_ h=>nx h⟩,λa h=>B'.fresh a h.1,B'.omf,B'.ff,λa o h=>(B'.live a o h).imp λo' h'=>H.kept a o' h' (nx h),λa o h ho hx=>
  ⟨λf=>H.kept a o ((B'.kept a o h ho λz=>z.elim hx (nx h)).1 f) (nx h),(B'.kept a o h ho λz=>z.elim hx (nx h)).2.imp λ_ h'=>H.kept a _ h' (nx h)⟩⟩
end
structure Kf(k:Nat)(tgt:Ab)(it:AE)(Xs:AK->Prop)(src:Cv)(I:St->Nat->Prop):Prop where
 keep:∀{X σ τ n},Av X σ τ->Kp σ τ->Ci Xs σ->(∀a,Xs a->¬X a)->I σ n->I τ n
 live:∀{σ n},I σ n->∀a,Xs a->∃o,σ.h.get? a=AA o
 ne:∀{σ n},I σ n->∀a,Xs a->∀o,σ.h.get? a=AA o->K_ o
 next:∀{A σ n r} {Q:Option AE->AN->Prop} {E},Bs A k AC σ->Ok σ->Ci Xs σ->I σ n->src σ.o n=AA r->(∀s',r=AB->Cu Xs σ s'->Q AB s')->
  (∀c v s1,r=some c->(∀(Q':Unit->AN->Prop) E',(∀s',Cu Xs σ s'->(Kp σ (σ.to s')->V (σ.to s') c v/\I (σ.to s') (n+1))->(∀a,Xs a->∃o,s'.heap.get? a=AA o)->Q' () s')->Ac Ak A (i9 tgt it v) Q' E' s1)->Q (some v) s1)->Ac Ak A (Ib it) Q E σ.s
noncomputable def RS.goK(r:RS)(k:AY->AL->RS):RS:=match r with
 | .next v o=>k v o
 | .brk v o=> .next v o
 | .ret c o=> .ret c o
 |_=> .no
noncomputable def ID(src:Cv)(g:DG)(b:DS)(f:Nat):Nat->AY->AL->RS:=
 f.rec (λ_ _ _=> .no) λ_ k i v o=>(src o i).elim .no λx=>x.elim (.next v o) λc=>((g c v o).bind b).goK (k (i+1))
end
section
theorem Be7{δ:Type}{t:Ao α}{u:α->Ao β}{f:β->Ao δ}{Q:δ->AN->Prop}{E:AE->AN->Prop}{s:AN}(h:wq m Ak A ((t>>=u)>>=f) Q E s):wq m Ak A (t>>=λa=>u a>>=f) Q E s:=λΓ p h1 h2=>by
 have h:=h Γ p h1 h2
 rw[Uy,Uy]at h
 simp only[Uy]
 exact h
theorem QA{a:AK}(h:DB env a):Fe env a:=h.imp id λh=>h.2
section
variable{Xs:AK->Prop}{it:AE}{src:Cv}{I:St->Nat->Prop}{g:DG}{b:DS}{tgt:Ab}{σ₀:St}{AE9:AY}{r:RS}{R:EQ->AN->Prop}
theorem Ci.on(O:Ci Xs σ)(ok:Ok σ)(st:Av X σ τ)(hn:∀a,Xs a->∀o,τ.h.get? a=AA o->K_ o):Ci Xs τ:=
 ⟨λa h=>have m:=O.M a h;⟨st.mono a m.1,λq=>(st.omf a q).elim m.2.1 λq=>(ok.Mlt a m.1).1.elim λo h=>Bt h q,λq=>m.2.2 ((st.ff a).mp q)⟩,hn⟩
inductive FJ(A:BZ)(k:Nat)(fx:Fx)(env:A7)(σ₀:St)(Xs:AK->Prop)(I:St->Nat->Prop)(src:Cv)(g:DG)(b:DS)(r:RS)(n:Nat)(s:AN):Prop
 |mk (i:Nat) (σ:St) (AI:AY) (e:σ.s=s) (p:BW A k AC fx env σ AI) (O:Ci Xs σ) (st:Av (GY (DB env) Xs) σ₀ σ) (hi:I σ i) (hr:ID src g b n i AI σ.o=r) (ht:0<σ.s.toks)
theorem pJ(hI:Kf k tgt it Xs src I)(hg:DU m k AC fx tgt g)(hb:Dy m k AC fx ss b)(ok0:Ok σ₀)(E0:Bl fx σ₀ env AE9)(hf:∀a,Xs a->σ₀.h.get? a=AB)(hn:r≠ .no)(hR:∀f τ,Av (DB env) σ₀ τ->Ok τ->FR fx env r τ f->R (.ok f) τ.s)
  {N:Nat} {s:AN} (h:FJ A k fx env σ₀ Xs I src g b r N s):Dg m Ak A (.forLoop tgt it ss [] env) R s:=by
 have hx:∀a,Fe env a->¬Xs a:=λa h x=>(ok0.Mlt a (E0.ownM h).1).1.elim λo h'=>Bt h' (hf a x)
 refine bV rfl (FJ A k fx env σ₀ Xs I src g b r) (λn s h=>?_) N h
 obtain⟨i,σ,AI,rfl,p,O,B',hi,hr,ht⟩:=h
 cases n with
 |zero=>exact absurd hr.symm hn
 |succ n=>
  show wq m Ak A ((forTurn tgt it ss [] env).onRaise _) _ _ σ.s
  refine QZ (OC (E:=λ_ _=>False) ?_ (λ_ _ q=>q) λ_ _ h=>h.elim)
  unfold forTurn
  refine Bm (UR (Bm (QZ (OC (E:=λ_ _=>False) (OD (wq.of ?_)) (λ_ _ q=>q) λ_ _ h=>h.elim))))
  cases hs:src σ.o i with
  |none=>exact absurd (hr.symm.trans (congrArg (λx=>OM x _ _) hs)) hn
  |some rr=>
   have hr:=(congrArg (λx=>OM x _ _) hs).symm.trans hr
   refine hI.next p.r p.ok O hi hs (λs' e H _=>?_) λc v s1 e Zl hle=>?_
   ·subst e
    have hF:=hR .next (σ.off Xs s') (H.close B' hf ok0) (H.okOff p.ok O) (hr▸ .next (p.e.move (H.kpOff p.ok O) (λ_=>Fh) λa h=>⟨⟨(p.e.ownM h).1,hx a h⟩,(p.e.ownM h).2,λo e=>⟨o.slots,H.kept a o e (hx a h)⟩⟩))
    exact EM (.inr ⟨rfl,Dg.of (codeAny_block (wpAny_execs_nil hF))⟩)
   ·subst e
    refine Bm (OD (wq.of (Zl _ _ λs2 H hv hl Zp=>?_)))
    have BF:=H.step p.ok O hl
    have k2:=H.kp p.ok O hl
    have BE:=H.good p.ok O hl
    have V1:=hv k2
    have p2:BW A k AC fx env (σ.to s2) AI:=p.go BF BE (p.e.stepX p.ok BF k2 hx)
    have O2:=O.on p.ok BF (hI.ne V1.2)
    refine Be7 (Bm ((.then (hg _ _ _ _ _ _ p2 V1.1) p2 λvs τ st p=>hb _ _ _ _ p:Es m fx env (FR fx env) A (RC tgt env v>>=λ_=>execs ss env) (σ.to s2) ((g c AI σ.o).bind b)).run (λz=>hn (hr.symm.trans (congrArg (λx=>RS.goK x _) z))) (CI ht (AO hle Zp)) (λf τ Bp A6 M6 x=>?_) λc v vs τ e=>absurd (hr.symm.trans (congrArg (λx=>RS.goK x _) e)) hn))
    have FO:Av (GY (DB env) Xs) σ₀ τ:=(B'.trans (BF.weaken λa h=> .inl (.inr h))).trans (Bp.weaken λa h=> .inl (.inl h))
    change ((g c AI σ.o).bind b).goK _=r at hr
    revert hr x
    generalize (g c AI σ.o).bind b=rb
    intro x
    cases x with
    |next e=>exactλhr=>EM (.inl ⟨rfl,n,J5 n, .mk (i+1) τ _ rfl (p2.go Bp A6 e) (O2.on BE Bp (hI.ne (hI.keep Bp (p2.kp Bp) O2 (λa h q=>hx a (QA q) h) V1.2))) FO (hI.keep Bp (p2.kp Bp) O2 (λa h q=>hx a (QA q) h) V1.2) hr M6⟩)
    |brk e=>exactλhr=>EM (hR .next τ (FO.close hf) A6 (by rw[<-hr];exact .next e))
    |ret h e=>exactλhr=>EM (hR (.ret _) τ (FO.close hf) A6 (by rw[<-hr];exact .ret h e))
end
end
noncomputable def TU:List String:=["enumerate","zip","dict_itemiterator","dict_reverseitemiterator","odict_iterator","itertools.zip_longest","itertools.pairwise"]
theorem At0{s:AN}{E:AE->AN->Prop}{it a:AK}{o:BG}{n:String}{Q:Unit->AN->Prop}(ho:s.heap.get? it=AA o)(hc:o.cls= .type n)(hn:TU.contains n=AD)(h:Q () s):Ac Ak A (do
   let o<-load it
   match o.cls,o.data with
   | .type n, .fields vs=>
    if(TU.contains n&&vs[0]? ==AA (C7 a))=AC then(do
     rule "for.unpacks-the-owned-tuple"
     updateField it 0 .none)
    else Ax ()
   |_,_=>Ax ()) Q E s:=by
 refine AR (jI ho ?_)
 rw[hc]
 cases o.data with
 |fields vs=>
  show Ac _ _ (if(TU.contains n&&vs[0]? ==AA (C7 a))=AC then _ else _) Q E s
  rw[hn]
  exact Aa h
 |_=>exact Aa h
theorem qS{s:AN}{E:AE->AN->Prop}{tgt:Ab}{it:AK}{v:AE}{o:BG}{n:String}{Q:Unit->AN->Prop}(ho:s.heap.get? it=AA o)(hc:o.cls= .type n)(hn:TU.contains n=AD)(h:Q () s):Ac Ak A (i9 tgt (.ref it) v) Q E s:=by
 cases tgt with
 |Tuple|List=>
  cases v with
  |ref a=>exact At0 ho hc hn h
  |_=>exact Aa h
 |_=>exact Aa h
structure WK(it:AK)(T:String)(P:St->List AE->Prop)(J:BS->Nat->Prop):Prop where
 same:∀{h h' n},(∀o,h.get? it=AA o->h'.get? it=AA o)->J h n->J h' n
 o:∀{h n},J h n->∃o,h.get? it=AA o/\o.cls= .type T
 t:IC (.type T)=AD/\TU.contains T=AD
 fin:∀{A σ n ws} {Q:Option AE->AN->Prop} {E},A.handled=AB->P σ ws->J σ.h n->ws[n]? =AB->(∀h',ij it σ.h h'->Q AB {σ.s with heap:=h'})->Ac Ak A (Ib (.ref it)) Q E σ.s
 item:∀{A σ n ws x} {Q:Option AE->AN->Prop} {E},P σ ws->J σ.h n->ws[n]? =AA x->(∀h',J h' (n+1)->JL it σ.h h'->Q (some x) {σ.s with heap:=h'})->Ac Ak A (Ib (.ref it)) Q E σ.s
noncomputable abbrev Be(it:AK):AK->Prop:=λa=>a=it
theorem d_{it:AK}{h':BS}(hb:ij it σ.h h'):Cu (Be it) σ {σ.s with heap:=h'}:=⟨λa o e q=>hb a o q e,rfl,rfl⟩
theorem TK{it:AK}{h':BS}{t:Nat}(hb:JL it σ.h h'):Cu (Be it) σ {σ.s with heap:=h',toks:=t}:=⟨λa o e q=>(hb.2 a q).trans e,rfl,rfl⟩
theorem Ci.keepIt{it:AK}(O:Ci (Be it) σ)(st:Av X σ τ)(h:¬X it):∀o,σ.h.get? it=AA o->τ.h.get? it=AA o:=λo e=>(st.kept it o e (O.M it rfl).2.1 h).1 (O.M it rfl).2.2
structure SO(P:St->List AE->Prop)(src:Cv)(K:St->Prop):Prop where
 kp:∀{σ τ},Kp σ τ->K σ->K τ
 look:∀{σ n r},Ok σ->K σ->src σ.o n=AA r->∃cs ws,r=cs[n]?/\Vs σ cs ws/\P σ ws
theorem XD{it:AK}{T:String}{P:St->List AE->Prop}{J:BS->Nat->Prop}{src:Cv}{K:St->Prop}{tgt:Ab}(S:WK it T P J)(L:SO P src K):Kf k tgt (.ref it) (Be it) src (λσ n=>K σ/\J σ.h n) where
 keep st kp O h hi:=⟨L.kp kp hi.1,S.same (O.keepIt st (h it rfl)) hi.2⟩
 live hi a e:=e▸(S.o hi.2).imp λ_ h=>h.1
 ne hi a e o ho:= .inr (by subst e;obtain⟨o',h1,h2⟩:=S.o hi.2;rw[<-D0 h1 ho,h2];exact S.t.1)
 next:=λ{A σ n r Q E} hR ok O hi hs Mv KM=>by
  refine B7 (L.look ok hi.1 hs) λcs ws AC6=>?_
  obtain⟨rfl,hv,hP⟩:=AC6
  cases hx:ws[n]? with
  |none=>
   refine S.fin (hR.hand rfl) hP hi.2 hx λh' hb=>Mv _ ?_ (d_ hb)
   rw[OH]at hx⊢
   rw[hv.len];exact hx
  |some x=>
   refine S.item hP hi.2 hx λh' hJ hb=>?_
   obtain⟨u,hu,Rx⟩:=hv.get (B8 _:cs[n]? =AA (cs[n]'(by simp only[hv.len];exact GV hx)))
   rw[hx]at hu;first|exact Af hu|cases hu
   obtain⟨o,ho,Ft⟩:=S.o hJ
   refine KM _ x _ (B8 _:cs[n]? =AA (cs[n]'(by simp only[hv.len];exact GV hx))) λQ' E' hq=>qS ho Ft S.t.2 (hq _ (TK (t:=σ.s.toks) hb) (λkp=>⟨kp.v _ Rx,L.kp kp hi.1,hJ⟩) λa e=>e▸⟨o,ho⟩)
section
theorem bN{h h':BS}{a:AK}{p:BG->Prop}(hk:∀o,h.get? a=AA o->h'.get? a=AA o):(∃o,h.get? a=AA o/\p o)->∃o,h'.get? a=AA o/\p o:=λx=>x.imp λo h=>⟨hk o h.1,h.2⟩
noncomputable def PL(l:AK)(σ:St)(ws:List AE):Prop:=∃n,σ.h.get? l=AA (Dk ws.toArray n)
noncomputable def PT(l:AK)(σ:St)(ws:List AE):Prop:=∃n,σ.h.get? l=AA (Hq ws.toArray n)
theorem s8(it l:AK):WK it "list_iterator" (PL l) λh n=>h.IsListIter it l n:=
 ⟨bN,λh=>h.imp λ_ h=>⟨h.1,h.2.1⟩,⟨by decide,by decide⟩,λhh hP hJ hx hq=>hP.elim λ_ h=>wpAny_pyNext_list_end hh hJ (Bu h) (by rw[IT];exact hx) hq,λhP hJ hx hq=>hP.elim λ_ h=>wpAny_pyNext_list_item hJ (Bu h) (by rw[IT];exact hx) hq⟩
theorem BF8(it l:AK):WK it "tuple_iterator" (PT l) λh n=>h.IsTupleIter it l n:=
 ⟨bN,λh=>h.imp λ_ h=>⟨h.1,h.2.1⟩,⟨by decide,by decide⟩,λhh hP hJ hx hq=>hP.elim λ_ h=>wpAny_pyNext_tuple_end hh hJ (Bu h) (by rw[IT];exact hx) hq,λhP hJ hx hq=>hP.elim λ_ h=>wpAny_pyNext_tuple_item hJ (Bu h) (by rw[IT];exact hx) hq⟩
noncomputable def KL(T:String)(l:AK)(cs:List CV)(σ:St):Prop:=∃ws,σ.sq T l ws/\Vs σ cs ws
theorem Au5(l:AK)(cs:List CV):SO (PL l) (λ_ n=>AA cs[n]?) (KL "list" l cs):=⟨λk h=>h.imp λ_ h=>⟨k.sq _ _ _ h.1,k.vs _ h.2⟩,λok h e=>h.elim λws h=>⟨cs,ws,(CU e).symm,h.2,h.1.imp λ_ h=>h.1⟩⟩
theorem Au7(l:AK)(cs:List CV):SO (PT l) (λ_ n=>AA cs[n]?) (KL "tuple" l cs):=⟨λk h=>h.imp λ_ h=>⟨k.sq _ _ _ h.1,k.vs _ h.2⟩,λok h e=>h.elim λws h=>⟨cs,ws,(CU e).symm,h.2,h.1.imp λ_ h=>h.1⟩⟩
noncomputable def I_(j:Nat):Cv:=λobjs n=>(objs[j]?.bind EI).map λl=>l[n]?
noncomputable def KO(j:Nat)(l:AK)(σ:St):Prop:=∃p,σ.W.ρ[j]? =AA p/\p.1=l
theorem Au6(j:Nat)(l:AK):SO (PL l) (I_ j) (KO j l):=⟨λk h=>h.imp λp h=>⟨k.ob _ _ h.1,h.2⟩,λok ⟨p,h1,h2⟩ e=>by
 obtain⟨cs,e1,rfl⟩:=DD.mp e
 obtain⟨o,e1,e2⟩:=C5.mp e1
 have hr:=ok.rel j o p e1 h1
 cases o<;>cases e2
 obtain⟨_,ws,n,h3,h4⟩:=hr
 exact⟨_,ws,rfl,h4,n,h2▸h3⟩⟩
section
variable{K:Type}[DecidableEq K]{knd:KeyKind pE w K}{d:AK}{BO:List (K×AE)}{ep:Nat}
noncomputable def PV(knd:KeyKind pE w K)(d:AK)(BO:List (K×AE))(ep:Nat)(σ:St)(ws:List AE):Prop:=σ.h.DictAt knd d BO ep/\ws=BO.map (·.2)
theorem BF9(it:AK):WK it "dict_valueiterator" (PV knd d BO ep) λh n=>h.IsValIter it d n BO.length ep:=
 ⟨bN,λh=>h.imp λ_ h=>⟨h.1,h.2.1⟩,⟨by decide,by decide⟩,λhh hP hJ hx hq=>wpAny_pyNext_values_end hh hJ hP.1 (by rw[hP.2,OH,Ay]at hx;exact OH.mpr hx) hq,λhP hJ hx hq=>by
   rw[hP.2,Cm]at hx
   obtain⟨kv,zh,rfl⟩:=DD.mp hx
   exact wpAny_pyNext_values_item hJ hP.1 zh hq⟩
noncomputable def KV(d:AK)(BO:List (K×AE))(od:BG)(cs:List CV)(σ:St):Prop:=σ.pl d od/\Vs σ cs (BO.map (·.2))
theorem Au8{od:BG}(cs:List CV)(h:∀h:BS,h.get? d=AA od->h.DictAt knd d BO ep):SO (PV knd d BO ep) (λ_ n=>AA cs[n]?) (KV d BO od cs):=⟨λk x=>⟨k.p _ _ x.1,k.vs _ x.2⟩,λok x e=>⟨cs,_,(CU e).symm,x.2,h _ x.1.1,rfl⟩⟩
end
end
section
noncomputable def YB(N:Nat):Cv:=λ_ n=>AA (if n<N then AA (.int n)else AB)
noncomputable def JR(it:AK)(N:Nat)(σ:St)(n:Nat):Prop:=n<=N/\IsRangeIter σ.h it n ((N:Int) - n) 1
theorem Ap4{tgt:Ab}(it:AK)(N:Nat):Kf k tgt (.ref it) (Be it) (YB N) (JR it N) where
 keep st kp O h hi:=⟨hi.1,O.keepIt st (h it rfl) _ hi.2⟩
 live hi a e:=e▸⟨_,hi.2⟩
 ne hi a e o ho:= .inr (by subst e;rw[<-D0 hi.2 ho];exact(by decide:IC (.type "range_iterator")=AD))
 next:=λ{A σ n r Q E} hR ok O hi hs Mv KM=>by
  cases hs
  by_cases CY:n<N
  ·refine wpAny_pyNext_range_item hi.2 (Int.sub_pos.mpr (J0.mpr CY)) λh' Lj hb=>KM (.int n) _ _ (if_pos CY) λQ' E' hq=>?_
   rw[(Int.sub_sub (N:Int) n 1:((N:Int) - n - 1)=(N:Int) - ((n+1:Nat):Int))]at Lj
   exact qS Lj rfl (by decide) (hq _ (TK hb) (λ_=>⟨⟨_,rfl⟩,CY,Lj⟩) λa e=>e▸⟨_,Lj⟩)
  ·exact wpAny_pyNext_range_end (hR.hand rfl) hi.2 (Int.sub_nonpos_of_le (JB.mpr (Cp.mp CY))) λh' hb=>Mv _ (if_neg CY) (d_ hb)
section
variable{K:Type}[DecidableEq K]{knd:KeyKind pE w K}{d it:AK}{BO:List (K×AE)}{ep:Nat}{od:BG}{ks cs:List CV}{elts:List Ab}
noncomputable def JI(it d:AK)(n ep:Nat)(h:BS)(i:Nat):Prop:=∃ok ov,IsItemIter h it d i n ep ok ov
theorem Ap2(hd:∀h:BS,h.get? d=AA od->h.DictAt knd d BO ep)(hk:ks.length=BO.length)(Mw:∀(n:Nat) x v σ,BO[n]? =AA x->knd.is x.1 v=AC->∃c,ks[n]? =AA c/\V σ c v):
  Kf k (.Tuple elts kd pos) (.ref it) (Be it) (λ_ n=>AA ((ks.zip cs)[n]?.map λp=>CV.tup [p.1,p.2])) (λσ n=>KV d BO od cs σ/\JI it d BO.length ep σ.h n) where
 keep st kp O h hi:=⟨⟨kp.p _ _ hi.1.1,kp.vs _ hi.1.2⟩,hi.2.imp λ_ x=>x.imp λ_ x=>O.keepIt st (h it rfl) _ x⟩
 live hi a e:=e▸hi.2.elim λ_ x=>x.elim λ_ x=>⟨_,x⟩
 ne hi a e o ho:= .inr (by subst e;obtain⟨_,_,x⟩:=hi.2;rw[<-D0 x ho];exact(by decide:IC (.type "dict_itemiterator")=AD))
 next:=λ{A σ n r Q E} hR ok O hi hs Mv KM=>by
  obtain⟨⟨hp,hv⟩,_,_,h4⟩:=hi
  cases hs
  have hm:=hd _ hp.1
  cases hx:BO[n]? with
  |none=>
   refine wpAny_pyNext_items_end (hR.hand rfl) h4 hm hx λh' hb=>Mv _ ?_ (d_ hb)
   rw[OH.mpr];rfl
   rw[J2,hk]
   exact AO (Qs _ _) (OH.mp hx)
  |some x=>
   refine wpAny_pyNext_items_item (k:=x.1) (v:=x.2) h4 hm hx λkey h' j_ Lj ht Fu hb=>?_
   have O8:(BO.map (·.2))[n]? =AA x.2:=by rw[Cm,hx];rfl
   obtain⟨u,hu,Rx⟩:=hv.get (B8 _:cs[n]? =AA (cs[n]'(by simp only[hv.len];exact GV O8)))
   rw[O8]at hu;first|exact Af hu|cases hu
   obtain⟨kc,Rk,_⟩:=Mw n x key σ hx j_
   refine KM (.tup [kc,_]) _ _ (by simp only[(Ql (z:=(kc,cs[n]'(by rw[hv.len];exact GV O8)))).mpr ⟨Rk,(B8 _:cs[n]? =AA (cs[n]'(by simp only[hv.len];exact GV O8)))⟩];rfl) λQ' E' hq=>wpAny_letOwnedTupleGo_items Lj λJU jz GJ=>?_
   refine hq _ ⟨λa o q e=>(GJ.2 a e).trans (hb a o e q),rfl,rfl⟩ (λkp=>⟨⟨_,[key,x.2],rfl,⟨0,(GJ.2 _ (λq=>Eu _ (q▸Ew h4):σ.h.objs.size≠it)).trans ht,ok.notM⟩,?_⟩,⟨⟨(GJ.2 d (λq=>O.M it rfl|>.1|>(q▸hp.2))).trans (hb d _ (λq=>O.M it rfl|>.1|>(q▸hp.2)) hp.1),hp.2⟩,kp.vs _ hv⟩,_,_,jz⟩) λa e=>e▸⟨_,jz⟩
   obtain⟨kc',j8,Z3⟩:=Mw n x key _ hx j_
   rw[Rk]at j8;cases j8
   exact .two Z3 (kp.v _ Rx)
end
end
section
noncomputable def Jp:DK->List CV
 | .s l=>l.map .str
 | .i l=>l.map .int
noncomputable def Hp(objs:AL)(c:CV):Option (Cv×Nat):=DX c AB (zl:=λl=>AA (λ_ n=>AA l[n]?,l.length+1)) (zt:=λl=>AA (λ_ n=>AA l[n]?,l.length+1)) (zo:=λj=>(objs[j]?.bind EI).map λl=>(I_ j,l.length+1)) (zr:=λn=>if n<=1024 then AA (YB n,n+1)else AB) (zw:=λ_ vs=>AA (λ_ n=>AA vs[n]?,vs.length+1)) (zk:=λks vs=>AA (λ_ n=>AA (((Jp ks).zip vs)[n]?.map λp=>CV.tup [p.1,p.2]),vs.length+1))
noncomputable def eH(e:Ab):Bool:=Jk (M:=λ_=>Bool) e (λ_=>AD) (tup:=λ_ _ _=>AC)
noncomputable def FX(c:CV):Bool:=DX c AD (zk:=λ_ _=>AC)
noncomputable abbrev St.it(σ:St)(o:BG):St:={W:={ρ:=σ.W.ρ,M:=λa=>σ.W.M a\/a=σ.h.objs.size,F:=σ.W.F},o:=σ.o,s:={σ.s with heap:=σ.s.heap.push o}}
section
variable(ok:Ok σ)(o:BG)
include ok
theorem Av.it:Av X σ (σ.it o):=⟨⟨[],(BJ _).symm⟩,λ_ h=> .inl h,λa h=>h.imp id λe:a=σ.h.objs.size=>e▸get?_size _,λ_ h=> .inl h,λ_=>Fh,λ_ o' h=>⟨o',CW o h⟩,λ_ o' h _ _=>⟨λ_=>CW o h,o'.slots,CW o h⟩⟩
theorem Ok.it(hf:o.isFreed=AD):Ok (σ.it o):=⟨ok.len,ok.dist,λa h=>⟨.inl (ok.omM a h).1,(ok.omM a h).2⟩,λa h=>⟨.inl (ok.FM a h).1,(ok.FM a h).2.imp λ_ h=>h.imp λ_ h=>h.imp λ_ h=>⟨CW o h.1,h.2⟩⟩,λa h=>h.elim (λh=>⟨(ok.Mlt a h).1.imp λ_ h=>CW o h,(ok.Mlt a h).2⟩) λe=>e▸⟨⟨o,CQ _ hf⟩,ok.none_of (get?_size _)⟩,λb o' h=>CW o (ok.keep b o' h),ok.gens,ok.os,λi o' q h1 h2=>(ok.rel i o' q h1 h2).kp (ok.kp (Av.it ok o)) (λ_ h=>CW o h) λ_ h=>CW o h⟩
theorem Ci.it(hf:o.isFreed=AD){T:String}(hc:o.cls= .type T)(ht:IC (.type T)=AD):Ci (Be σ.h.objs.size) (σ.it o):=⟨λa e=>by
  have n:¬σ.W.M a:=e▸ok.notM
  exact⟨.inr e,λh=>n (ok.omM a h).1,λh=>n (ok.FM a h).1⟩,λa e o' h=> .inr (by rw[e,CQ _ hf]at h;cases h;rw[hc];exact ht)⟩
end
noncomputable def aq(it:AE)(I:St->Nat->Prop):Prop:=∀A E σ n (Q:AE->AN->Prop),I σ n->Q it σ.s->Ac Ak A (Oj it) Q E σ.s
noncomputable def af(k:Nat)(tgt:Ab)(σ:St)(src:Cv)(self:Prop)(Q:AE->AN->Prop):Prop:=∀it Xs I τ,Kf k tgt (.ref it) Xs src I->(self->aq (.ref it) I)->I τ 0->Lt σ τ->Ok τ->τ.o=σ.o->σ.s.toks=τ.s.toks->Ci Xs τ->(∀a,Xs a->σ.h.get? a=AB)->Q (.ref it) τ.s
theorem af.use{tgt:Ab}{src:Cv}{self:Prop}{Q:AE->AN->Prop}(hQ:af k tgt σ src self Q)(ok:Ok σ){o:BG}{T:String}{I:St->Nat->Prop}(hf:o.isFreed=AD)(hc:o.cls= .type T)(ht:IC (.type T)=AD)(hI:Kf k tgt (.ref σ.h.objs.size) (Be σ.h.objs.size) src I)(hs:self->aq (.ref σ.h.objs.size) I)
  (h0:Kp σ (σ.it o)->(σ.it o).h.get? σ.h.objs.size=AA o->I (σ.it o) 0):Q (.ref σ.h.objs.size) {σ.s with heap:=σ.s.heap.push o}:=
 hQ _ _ _ (σ.it o) hI hs (h0 (ok.kp (Av.it ok o)) (CQ _ hf)) (Av.it ok o) (ok.it o hf) rfl rfl (.it ok o hf hc ht) λa e=>e▸get?_size _
theorem Ao8{x:AQ}{v:AE}(h:(strKind pE w).is x v=AC):∃u,v= .str x u:=xY h
theorem Ao6{x:Int}{v:AE}(h:(Dl pE w).is x v=AC):∃u,v= .int x u:=xX h
inductive AH8(σ:St)(T:String)(ks:List CV)(cs:List CV)(v:AE):Prop
 |mk {K:Type} [DecidableEq K] (knd:KeyKind pE w K) (a d:AK) (BO:List (K×AE)) (ep:Nat) (od:BG) (e:v= .ref a) (hv:∃o,σ.h.get? a=AA o/\o.cls= .type T/\o.data= .fields #[.ref d]) (hp:σ.pl d od) (hd:∀h:BS,h.get? d=AA od->h.DictAt knd d BO ep)
  (hr:Vs σ cs (BO.map (·.2))) (hk:ks.length=BO.length) (Mw:∀(n:Nat) x v σ,BO[n]? =AA x->knd.is x.1 v=AC->∃c,ks[n]? =AA c/\V σ c v)
theorem oL{K:Type}[DecidableEq K]{knd:KeyKind pE w K}{h:BS}{a:AK}{BO:List (K×AE)}{o:BG}(ho:h.get? a=AA o):h.DictOf knd a BO->∃ep,∀h':BS,h'.get? a=AA o->h'.DictAt knd a BO ep
 |⟨o',es,ep,h1,r⟩=>⟨ep,λ_ h=>⟨o,es,h,D0 h1 ho▸r⟩⟩
theorem gV{T:String}{ks:DK}{cs:List CV}{v:AE}(h:EV (σ.vw T ks) (Vs σ cs) v):AH8 σ T (Jp ks) cs v:=by
 obtain⟨a,ws,rfl,⟨o,d,h1,h2,h3,od,h4,h5⟩,hr⟩:=h
 cases ks with
 |s l=>
  obtain⟨_,h6,h7⟩:=h5
  obtain⟨ep,hd⟩:=oL h4.1 h6
  refine⟨strKind pE w,a,d,_,ep,od,rfl,⟨o,h1.1,h2,h3⟩,h4,hd,by rw[iD (by rw[Ay];exact BR h7.symm)];exact hr,by simp only[Jp,Ay,J2,Ay,h7,LP],λn x v σ hx hv=>?_⟩
  obtain⟨u,rfl⟩:=Ao8 hv
  rw[Ql,Cm]at hx
  obtain⟨t,ht,e⟩:=DD.mp hx.1
  exact⟨.str t,by simp only[Jp,Cm,ht];rfl,u,by rw[e]⟩
 |i l=>
  obtain⟨_,h6,h7⟩:=h5
  obtain⟨ep,hd⟩:=oL h4.1 h6
  refine⟨Dl pE w,a,d,_,ep,od,rfl,⟨o,h1.1,h2,h3⟩,h4,hd,by rw[iD (BR h7.symm)];exact hr,by rw[Jp,Ay,J2,h7,LP],λn x v σ hx hv=>?_⟩
  obtain⟨u,rfl⟩:=Ao6 hv
  rw[Ql]at hx
  exact⟨.int x.1,by simp only[Jp,Cm,hx.1];rfl,u,rfl⟩
theorem sX{n:Nat}(hn:n<=1024):iV 0 n 1=(n:Int)/\wl 0 n 1=AC:=by
 have e:iV 0 n 1=(n:Int):=by
  unfold iV
  rw[if_pos (by decide),Int.ediv_one]
  split
  ·rw[vB];exact Int.sub_zero _
  ·rename_i h;exact gr (Fi n) (LK.mp h)
 refine⟨e,?_⟩
 have f3:wk (n:Int)=AC:=by
  unfold wk
  simp only[MR,decide_eq_true_eq,decide_eq_true_eq];lia
 unfold wl
 rw[e,show(n:Int)+(1 - 1)=n from Qf _,f3]
 simp(config:={decide:=true})
theorem eJ{c:CV}{v:AE}{tgt:Ab}{src:Cv}{N:Nat}(ok:Ok σ)(hv:V σ c v)(hs:Hp σ.o c=AA (src,N))(ht:eH tgt=AC\/FX c=AD){Q:AE->AN->Prop}{E:AE->AN->Prop}(hQ:af k tgt σ src (FX c=AD) Q):Ac Ak A (Oj v) Q E σ.s:=by
 cases c with
 |lst l=>
  cases hs
  obtain⟨a,ws,rfl,h1,h3⟩:=hv
  exact jL (Bu h1.choose_spec.1) (hQ.use ok rfl rfl (by decide) (XD (s8 _ a) (Au5 a l)) (λ_ _ _ _ _ _ h hq=>xi h.2 hq) λkp e=>⟨⟨ws,kp.sq _ _ _ h1,kp.vs _ h3⟩,_,e,rfl,rfl⟩)
 |tup l=>
  cases hs
  obtain⟨a,ws,rfl,h1,h3⟩:=hv
  exact wpAny_pyIter_tuple (Bu h1.choose_spec.1) (hQ.use ok rfl rfl (by decide) (XD (BF8 _ a) (Au7 a l)) (λ_ _ _ _ _ _ h hq=>wpAny_pyIter_tupleiter h.2 hq) λkp e=>⟨⟨ws,kp.sq _ _ _ h1,kp.vs _ h3⟩,_,e,rfl,rfl⟩)
 |obj j=>
  obtain⟨l,e1,e2⟩:=DD.mp hs
  cases e2
  obtain⟨o,e1,e2⟩:=C5.mp e1
  obtain⟨p,rfl,hp,hr⟩:=ok.obj hv e1
  cases o<;>cases e2
  obtain⟨_,ws,n,h1,_⟩:=hr
  exact jL (Bu h1) (hQ.use ok rfl rfl (by decide) (XD (s8 _ p.1) (Au6 j p.1)) (λ_ _ _ _ _ _ h hq=>xi h.2 hq) λkp e=>⟨⟨p,hp,rfl⟩,_,e,rfl,rfl⟩)
 |rng n=>
  by_cases hn:n<=1024
  ·have hs:=(if_pos hn).symm.trans hs
   cases hs
   obtain⟨a,rfl,o,t,u,t',h1,h2⟩:=hv
   refine wpAny_pyIter_range h2 (sX hn).2 (hQ.use ok rfl rfl (by decide) (Ap4 _ n) (λ_ _ _ _ _ _ h hq=>wpAny_pyIter_rangeiter h.2 hq) λkp e=>⟨D2 _,?_⟩)
   rw[(sX hn).1]at e⊢
   exact e
  ·exact absurd ((if_neg hn).symm.trans hs) (by intro h;cases h)
 |vls ks vs=>
  cases hs
  obtain⟨knd,a,d,BO,ep,od,rfl,hw,hp,hd,hr,_,_⟩:=gV hv
  exact wpAny_pyIter_values hw (hd _ hp.1) (hQ.use ok rfl rfl (by decide) (XD (BF9 _) (Au8 vs hd)) (λ_ _ _ _ _ _ h hq=>wpAny_pyIter_valiter h.2 hq) λkp e=>⟨⟨kp.p _ _ hp,kp.vs _ hr⟩,_,e,rfl,rfl⟩)
 |itm ks vs=>
  cases hs
  obtain⟨knd,a,d,BO,ep,od,rfl,hw,hp,hd,hr,hk,Mw⟩:=gV hv
  cases tgt with
  |Tuple=>exact wpAny_pyIter_items hw (hd _ hp.1) (hQ.use ok rfl rfl (by decide) (Ap2 hd hk Mw) (λq=>nomatch q) λkp e=>⟨⟨kp.p _ _ hp,kp.vs _ hr⟩,_,_,e⟩)
  |_=>exact ht.elim (by intro h;cases h) (by intro h;cases h)
 |_=>first|exact Af hs|cases hs
end
theorem gc{M:GH}{E:AE->AN->Prop}{s:AN}{c:JK}{Q:Flow->AN->Prop}(hc:Dg m M A c (λr s'=>match r with| .ok f=>Q f s'| .error _=>False) s):wq m M A (runOwn c env) Q E s:=
 QZ (Bf1 (h:=AB) (AU1 hc λr s' h=>match r,h with
  | .ok f,h=>h) (by intro h;cases h))
noncomputable def EX(tup:Bool)(a:D)(g:DG)(b:DS):DS:=λAI objs=>(a AI objs).s AI λc o=>if(tup|| !FX c)=AC then(Hp o c).elim .no λx=>ID x.1 g b x.2 0 AI o else .no
theorem A17{a b:Bool}(h:(a|| !b)=AC):a=AC\/b=AD:=by cases a<;>cases b<;>first|exact .inl rfl|exact .inr rfl|cases h
theorem BL4{tgt:Ab}{a:D}{g:DG}{b:DS}(ha:Aj m k AC fx e a)(hg:DU m k AC fx tgt g)(hb:Dy m k AC fx ss b)(hs:∀env x,Mj e env x=Ax x):DV m k AC fx (.For tgt e ss [] pos) (EX (eH tgt) a g b):=λA env σ AI p=>by
 refine .stand (.bind (ha _ _ _ _ p) p λc v τ st p1 h=> .ite λht=> .opt λx hx=>?_)
 simp only[hs env v]
 refine .leaf v (λQ E h=>Aa h) (.stand λhn CA Q E hQ hE=>Bm (UQ (wq.of (eJ (k:=k) p1.ok h hx (A17 ht) λit Xs I υ hI _ hi BF BE eo et O hf=>?_))))
 refine gc (pJ hI hg hb p1.ok p1.e hf hn (λf Jc FO Hd h=>hQ f Jc FO Hd h) (.mk 0 υ AI rfl (p1.step BF BE) O BF.up hi (by rw[eo]) (et▸CA)))
theorem mz{d:Nat×List CV}{u:AE}(h:l9 σ d u):NC "list" σ u:=by obtain⟨p,ws,n,rfl,_,_,h1,_⟩:=h;exact⟨Q0 (Bu h1),λa e=>by cases e;exact⟨_,h1,rfl⟩⟩
inductive DR(h:BS)(a:AK):Prop
 |mk {K:Type} [DecidableEq K] (knd:KeyKind pE w K) (BO:List (K×AE)) (hs:(a==Lc)=AD) (hd:h.DictOf knd a BO)
theorem Do.dr{h:BS}{a:AK}{ks:DK}{ws:List AE}(x:Do h a ks ws):DR h a:=match ks,x with
 | .s _,x=>⟨strKind pE w,_,x.1,x.2.1⟩
 | .i _,x=>⟨Dl pE w,_,x.1,x.2.1⟩
theorem mx{a:AK}(x:DR σ.h a):NC "dict" σ (.ref a):=by
 obtain⟨_,_,_,hd⟩:=x
 exact⟨hd.typeIs,λb e=>by cases e;exact hd.imp λo h=>h.elim λ_ h=>h.elim λ_ h=>⟨h.1,h.2.1.2.1⟩⟩
noncomputable def K4:=FY GP
noncomputable def eE:=FY Sf
theorem AL8{d:Nat×DK×List CV}{u:AE}(h:ak σ d u):NC "dict" σ u:=by obtain⟨p,ws,rfl,_,_,h1,_⟩:=h;exact mx h1.dr
noncomputable def Sa(_:AL)(c:CV):Option (DK×List CV):=DX c AB (zd:=λks vs=>AA (ks,vs))
theorem YM:Vw Sa λσ d v=>V σ (.dct d.1 d.2) v:=λ{σ c a v} _ e=>CV.only (f:=Sa σ.o) (P:=λc d=>V σ c v->V σ (.dct d.1 d.2) v) e Am (λ_=>Am) (λ_=>Am) (λ_=>Am) (λ_=>Am) (λ_=>Am) (λ_ _ _ e h=>CU e▸h) (λ_=>Am) (λ_=>Am) (λ_ _=>Am) Am (λ_=>Am) (λ_ _=>Am) (λ_ _=>Am)
noncomputable def Pv:=FY Sa
theorem my{d:DK×List CV}{u:AE}(h:V σ (.dct d.1 d.2) u):NC "dict" σ u:=by obtain⟨a,ws,rfl,⟨o,_,h1⟩,_⟩:=h;exact mx h1.dr
noncomputable def Nw:List CV->AL->R CV:=BN GP FV λd x o=>if d.2.length<Ah then .ok .none (o.set d.1 (.list (d.2++[x])))else .no
theorem Aw6:DH m k q "append" K4 (.builtin "list.append") [] Nw:= .v QW mz xC ig F.type_list_append (.on2 QW vC λA σ d x u v _ ok h h'=> .ite λhl=> .of λ_ Q E hQ _=>by
 obtain⟨p,ws,n,rfl,hp,e2,h1,h2⟩:=h
 have hz:ws.toArray.size=d.2.length:=by simp only[DC,h2.len]
 have O7:FI=Ah:=rfl
 exact Hy ig (Q0 (Bu h1)) w_ (wz _ _) (wc p.1 ws.toArray n v (AO (BR hz) (Et hl))) ⟨h1,hQ.updL (t:=σ.s.toks) ok hp e2 h1 (λx=>x.push v) (by simp only[UW];exact h2.append (.one h')) rfl λ_ _=>rfl⟩)
noncomputable def WS(_:AL)(c:CV):Option Unit:=DX c AB (zi:=λi=>if i=0 then AA ()else AB)
theorem vZ:Vw WS λσ _ v=>V σ (.int 0) v:=λ{σ c a v} _ e=>CV.only (f:=WS σ.o) (P:=λc _=>V σ c v->V σ (.int 0) v) e Am (λ_=>Am) (λ_ _ e h=>pe e▸h) (λ_=>Am) (λ_=>Am) (λ_=>Am) (λ_ _=>Am) (λ_=>Am) (λ_=>Am) (λ_ _=>Am) Am (λ_=>Am) (λ_ _=>Am) (λ_ _=>Am)
noncomputable def Xm:List CV->AL->R CV:=BN GP WS λd _ o=>match d.2 with
 |x::l=>if l.length<Ah then .ok x (o.set d.1 (.list l))else .no
 |[]=> .no
theorem Ax2:DH m k q "pop" K4 (.builtin "list.pop") [] Xm:= .v QW mz xC xL F.type_list_pop (.on2 QW vZ λA σ d x u v _ ok h h'=>by
 obtain⟨i,l⟩:=d
 cases l with
 |nil=>exactλz=>absurd rfl z
 |cons x l=>
  refine .ite λhl=> .of λ_ Q E hQ _=>?_
  obtain⟨p,ws,n,rfl,hp,e2,h1,y,r,e3,h3,h4⟩:=h
  obtain⟨t,rfl⟩:=h'
  subst e3
  have O7:FI=Ah:=rfl
  have hz:(y::r).toArray.size=l.length+1:=by simp only[DC,Du,h4.len]
  have hk:ZM 0 (y::r).toArray.size=AA 0:=by
   unfold ZM;simp[hz]
  exact Hy xL (Q0 (Bu h1)) F.entry_list_pop (F.args_list_pop_2 _ _) (MeetsSeq.list_pop_at p.1 (y::r).toArray n 0 t 0 y (by decide) hk rfl (by exact AO (AO (BR (by assumption)) (by assumption)) (by decide))) ⟨h1,hQ.updL (t:=σ.s.toks) ok hp e2 h1 (λxs=>xs.eraseIdxIfInBounds 0) (by simp only[Array.toList_eraseIdxIfInBounds];exact h4) rfl λτ kp=>kp.v _ h3⟩)
theorem VC.newVw{r:R CV}{Q:AE->AN->Prop}(h:VC V σ r Q){T:String}{ks:DK}{vs:List CV}{a:AK}{ws:List AE}{c:CV}(ok:Ok σ)(hd:σ.dc ks a ws)(hv:Vs σ vs ws)(e:r= .ok c σ.o)(hc:∀{τ v},EV (τ.vw T ks) (Vs τ vs) v->V τ c v):
  Q (.ref σ.h.objs.size) {σ.s with heap:=σ.s.heap.push {cls:= .type T,data:= .fields #[.ref a]}}:=
 h _ _ (σ.push _ _) e (.push _ _) (ok.push _ _) (hc ⟨_,ws,rfl,⟨_,a,⟨CQ _ rfl,ok.notM⟩,rfl,rfl,(ok.kp (Av.push {cls:= .type T,data:= .fields #[.ref a]} σ.s.toks)).dc _ _ _ hd⟩,(ok.kp (Av.push {cls:= .type T,data:= .fields #[.ref a]} σ.s.toks)).vs _ hv⟩)
noncomputable def Xi:List CV->AL->R CV:=Eb Sa λd o=> .ok (.itm d.1 d.2) o
noncomputable def fR:List CV->AL->R CV:=Eb Sa λd o=> .ok (.vls d.1 d.2) o
theorem Aw9:DH m k q "items" Pv (.builtin "dict.items") [] Xi:= .v YM my ie xG F.type_dict_items (.on1 YM λA σ d u _ ok h=> .of λ_ Q E hQ _=>by
 obtain⟨a,ws,rfl,h1,h2⟩:=h
 obtain⟨knd,BO,hs,hd⟩:=h1.choose_spec.2.dr
 exact i5 xG hd.typeIs F.entry_dict_items (F.args_dict_items_1 _) (meets_dict_items knd a hs) ⟨⟨_,hd⟩,hQ.newVw ok h1 h2 rfl id⟩)
theorem Ax6:DH m k q "values" Pv (.builtin "dict.values") [] fR:= .v YM my ie xI F.type_dict_values (.on1 YM λA σ d u _ ok h=> .of λ_ Q E hQ _=>by
 obtain⟨a,ws,rfl,h1,h2⟩:=h
 obtain⟨knd,BO,hs,hd⟩:=h1.choose_spec.2.dr
 exact i5 xI hd.typeIs F.entry_dict_values (F.args_dict_values_1 _) (meets_dict_values knd a hs) ⟨⟨_,hd⟩,hQ.newVw ok h1 h2 rfl id⟩)
noncomputable def Ny:List CV->AL->R CV:=Eb Bq λn o=>if 0<=n/\n<=1024 then .ok (.rng n.toNat) o else .no
theorem AR0:BA m k q (HL (.type "range")) Ny:= .on1 vI λA σ n u _ ok ⟨t,h⟩=> .ite λhc=> .of λ_ Q E hQ _=>by
 subst h
 refine call_range_1 (hQ _ _ (σ.push _ _) rfl (.push _ _) (ok.push _ _) ⟨_,rfl,_,σ.s.toks,t,σ.s.toks+1,⟨CQ _ rfl,ok.notM⟩,?_⟩)
 rw[show((n.toNat:Nat):Int)=n from Yg hc.1]
 exact CQ _ rfl
section
noncomputable abbrev St.reg(σ:St)(d:AK)(o':CO)(s':AN):St:={W:={ρ:=σ.W.ρ++[(d,d)],M:=σ.W.M,F:=σ.W.F},o:=σ.o++[o'],s:=s'}
theorem Wd.om_snoc{W:Wd}{d a:AK}:({W with ρ:=W.ρ++[(d,d)]}:Wd).om a↔W.om a\/a=d:=
 ⟨λ⟨q,hq,e⟩=>(D8.mp hq).elim (λh=> .inl ⟨q,h,e⟩) λh=> .inr (by rw[Ca.mp h]at e;exact e.elim id id),λh=>h.elim (λ⟨q,h,e⟩=>⟨q,Yp _ h,e⟩) λe=>⟨(d,d),iE _ (Ca.mpr rfl), .inl e⟩⟩
section
variable{d:AK}{s':AN}{o':CO}(ok:Ok σ)(O:Ci (Be d) σ)(H:Cu (Be d) σ s')
include ok O H
theorem Cu.kpReg:Kp σ (σ.reg d o' s'):=
 have p:∀a o,σ.pl a o->(σ.reg d o' s').pl a o:=λa o h=>⟨H.kept a o h.1 λx=>h.2 (O.M a x).1,h.2⟩
 ⟨p,λi q h=>by show(σ.W.ρ++[_])[i]? =_;rw[MU (GV h)];exact h,λc m a h=>
  let⟨o,vs,t,it,n,h1,h2,h3,h4,h5,h6⟩:=h.at_
  have nx:¬Be d a:=λx=>(O.ne a x o h1).elim (λz=>z vs h3) λz=>by rw[h2,h.x]at z;first|exact Af z|cases z
  ⟨h.M,λq=>(Wd.om_snoc.mp q).elim h.om nx,h.F,h.x,o,vs,t,it,n,H.kept a o h1 nx,h2,h3,h4,p _ _ h5,h6⟩⟩
theorem Cu.okReg(hl:∃o,s'.heap.get? d=AA o)(hr:GN (σ.reg d o' s') o' (d,d)):Ok (σ.reg d o' s'):=by
 have ne:∀{i:Nat} {q:AK×AK},σ.W.ρ[i]? =AA q->q.1≠d/\q.2≠d:=λh=>⟨λz=>(O.M d rfl).2.1 (z▸(Wd.om_mem h).1),λz=>(O.M d rfl).2.1 (z▸(Wd.om_mem h).2)⟩
 refine⟨by show(σ.W.ρ++[_]).length=(σ.o++[_]).length;simp only[A1,A1,ok.len];rfl,λi j q r hi hj j5=>?_,λa h=>(Wd.om_snoc.mp h).elim (ok.omM a) λe=>⟨(O.M a e).1,(O.M a e).2.2⟩,λa h=>⟨(ok.FM a h).1,H.dict ok O a h⟩,λa h=>⟨?_,(ok.Mlt a h).2⟩,H.old ok O,H.gens.trans ok.gens,H.os.trans ok.os,λi o q h1 h2=>?_⟩
 ·rcases Je hi with⟨a1,b1⟩|⟨a1,rfl⟩<;>rcases Je hj with⟨a2,b2⟩|⟨a2,rfl⟩
  ·exact ok.dist i j q r a1 a2 j5
  ·have c:=ne a1;exact⟨c.1,c.1,c.2,c.2⟩
  ·have c:=ne a2;exact⟨c.1.symm,c.2.symm,c.1.symm,c.2.symm⟩
  ·exact absurd (a1.trans a2.symm) j5
 ·exact(u3 (a=d)).elim (λe=>e▸hl) λe=>(ok.Mlt a h).1.imp λo h=>H.kept a o h e
 ·rcases Je h2 with⟨a1,b1⟩|⟨a1,rfl⟩
  ·rcases Je h1 with⟨c1,_⟩|⟨c1,_⟩
   ·exact Cu.rel (σ:=σ) ok O H (H.kpReg ok O) rfl i o q c1 a1
   ·rw[c1,ok.len]at b1;exact absurd b1 (Eu _)
  ·rcases Je h1 with⟨_,b1⟩|⟨_,rfl⟩
   ·rw[a1,ok.len]at b1;exact absurd b1 (Eu _)
   ·exact hr
end
theorem Cu.closeReg{σ₀:St}{d:AK}{s':AN}{o':CO}(B':Av (GY X (Be d)) σ₀ σ)(hf:σ₀.h.get? d=AB)(H:Cu (Be d) σ s'):Av X σ₀ (σ.reg d o' s'):=
 have nx:∀{a o},σ₀.h.get? a=AA o->¬Be d a:=λh x=>Bt (x▸h) hf
 ⟨B'.rho.imp' (·++[(d,d)]) λt e=>by show σ.W.ρ++_=_;rw[e,B2],B'.mono,B'.fresh,λa h=>(Wd.om_snoc.mp h).elim (B'.omf a) λe=> .inr (e▸hf),B'.ff,λa o h=>(B'.live a o h).imp λo' h'=>H.kept a o' h' (nx h),λa o h ho hx=>
  ⟨λf=>H.kept a o ((B'.kept a o h ho λz=>z.elim hx (nx h)).1 f) (nx h),(B'.kept a o h ho λz=>z.elim hx (nx h)).2.imp λ_ h'=>H.kept a _ h' (nx h)⟩⟩
end
noncomputable def ay:List CV->Option (List Int)
 |[]=>AA []
 | .int i::r=>(ay r).map (i::·)
 |_::_=>AB
noncomputable def L6(ps:List (CV×CV)):Option (DK×List CV):=match H8 (ps.map (·.1))with
 |some ts=>if ts.Nodup then AA (.s ts,ps.map (·.2))else AB
 |none=>(ay (ps.map (·.1))).bind λis=>if is.Nodup then AA (.i is,ps.map (·.2))else AB
noncomputable abbrev DP:=AY->AL->R (List (CV×CV))
noncomputable def PR(σ:St)(ps:List (CV×CV))(vs:List (AE×AE)):Prop:=Vs σ (ps.map (·.1)) (vs.map (·.1))/\Vs σ (ps.map (·.2)) (vs.map (·.2))
noncomputable def NM(m:Bool)(k:Nat)(q:Bool)(fx:Fx)(ks:List (Option Ab))(es:List Ab)(d:DP):Prop:=∀pos A env σ AI,BW A k q fx env σ AI->Ev m PR A (evalPairs (pairTrees ks es env pos)) σ (d AI σ.o)
noncomputable def NV:DP:=λ_ o=> .ok [] o
noncomputable def GT(a b:D)(c:DP):DP:=λv o=>(a v o).bind λx o1=>(b v o1).bind λy o2=>(c v o2).bind λr o3=> .ok ((x,y)::r) o3
theorem BJ0:NM m k q fx [] [] NV:=λpos A env σ AI p=> .ret p.ok ⟨rfl,rfl⟩
theorem BI9{ks:List (Option Ab)}{a b:D}{c:DP}(ha:Aj m k q fx x a)(hb:Aj m k q fx y b)(hc:NM m k q fx ks es c):NM m k q fx (AA x::ks) (y::es) (GT a b c):=λpos A env σ AI p=>
 (ha _ _ _ _ p).bind λc u τ st ok h=>
  have p1:=p.step st ok
  ((hb _ _ _ _ p1).post λa v τ st ok h=> .stand (.ret ok h):Ev m V A (B_ y env>>=λx=>GI pos>>=λ_=>Ax x) τ (b AI τ.o)).holding.bind λd v υ Bp A6 h'=>(hc pos _ _ _ _ (p1.step Bp A6)).holding.bind λr vs Jc s2 BE h2=> .ret BE ⟨⟨_,_,rfl,(A6.kp s2).v _ ((ok.kp Bp).v _ h),h2.1⟩,_,_,rfl,(A6.kp s2).v _ h',h2.2⟩
theorem AR8{ps:List (CV×CV)}:∀{vs:List (AE×AE)} {ts:List T},Vs σ (ps.map (·.1)) (vs.map (·.1))->H8 (ps.map (·.1))=AA ts->Y8 (strKind pE w) vs ((ts.map AU).zip (vs.map (·.2)))/\ts.length=vs.length:=by
 induction ps with
 |nil=>
  intro vs ts h e
  cases e
  rw[Ym.mp h]
  exact⟨trivial,rfl⟩
 |cons p ps ih=>
  intro vs ts h e
  obtain⟨c,p2⟩:=p
  obtain⟨v,r,e1,h1,h2⟩:=h
  cases vs with
  |nil=>first|exact Af e1|cases e1
  |cons u vs=>
   obtain⟨u1,u2⟩:=u
   cases e1
   cases c with
   |str x=>
    obtain⟨l,e1,rfl⟩:=DD.mp e
    obtain⟨t,rfl⟩:=h1
    exact⟨⟨jE ..,rfl,(ih h2 e1).1⟩,congrArg (·+1) (ih h2 e1).2⟩
   |_=>first|exact Af e|cases e
theorem AR7{ps:List (CV×CV)}:∀{vs:List (AE×AE)} {ts:List Int},Vs σ (ps.map (·.1)) (vs.map (·.1))->ay (ps.map (·.1))=AA ts->Y8 (Dl pE w) vs ((ts).zip (vs.map (·.2)))/\ts.length=vs.length:=by
 induction ps with
 |nil=>
  intro vs ts h e
  cases e
  rw[Ym.mp h]
  exact⟨trivial,rfl⟩
 |cons p ps ih=>
  intro vs ts h e
  obtain⟨c,p2⟩:=p
  obtain⟨v,r,e1,h1,h2⟩:=h
  cases vs with
  |nil=>first|exact Af e1|cases e1
  |cons u vs=>
   obtain⟨u1,u2⟩:=u
   cases e1
   cases c with
   |int x=>
    obtain⟨l,e1,rfl⟩:=DD.mp e
    obtain⟨t,rfl⟩:=h1
    exact⟨⟨Og ..,rfl,(ih h2 e1).1⟩,congrArg (·+1) (ih h2 e1).2⟩
   |_=>first|exact Af e|cases e
inductive KN(ps:List (CV×CV))(d:DK×List CV):Prop
 |mk {K:Type} [DecidableEq K] (knd:KeyKind pE w K) (e:d.2=ps.map (·.2)) (h:∀{τ vs},PR τ ps vs->∃BO,Y8 knd vs BO/\(BO.map (·.1)).Nodup/\∀(h':BS) a,(a==Lc)=AD->h'.DictOf knd a BO->Do h' a d.1 (vs.map (·.2)))
theorem kn{ps:List (CV×CV)}{d:DK×List CV}(e:L6 ps=AA d):KN ps d:=by
 unfold L6 at e
 cases ht:H8 (ps.map (·.1))with
 |some ts=>
  rw[ht]at e
  by_cases nd:ts.Nodup
  ·have e:=(if_pos nd).symm.trans e
   cases e
   refine⟨strKind pE w,rfl,λ{_ vs} hp=>?_⟩
   have c:=AR8 hp.1 ht
   have hl:ts.length=(vs.map (·.2)).length:=c.2.trans (Ay _).symm
   exact⟨_,c.1,by rw[Yn (by rw[Ay];exact BR hl)];exact Ys.mpr (nd.imp λh q=>h (Nt q)),λh' a hs hd=>⟨hs,hd,hl⟩⟩
  ·exact absurd ((if_neg nd).symm.trans e) nofun
 |none=>
  rw[ht]at e
  obtain⟨ts,hi,e⟩:=C5.mp e
  by_cases nd:ts.Nodup
  ·have e:=(if_pos nd).symm.trans e
   cases e
   refine⟨Dl pE w,rfl,λ{_ vs} hp=>?_⟩
   have c:=AR7 hp.1 hi
   have hl:ts.length=(vs.map (·.2)).length:=c.2.trans (Ay _).symm
   exact⟨_,c.1,by simp only[Yn (BR hl)];exact nd,λh' a hs hd=>⟨hs,hd,hl⟩⟩
  ·exact absurd ((if_neg nd).symm.trans e) nofun
theorem gG(ok:Ok σ):(σ.h.objs.size==Lc)=AD:=by
 refine A3 (TF.nolimit) λmm AC7=>?_
 exact beq_eq_false_iff_ne.mpr λq=>absurd (q▸(AC7.1.keeps ok.keep).lt) (by decide)
noncomputable abbrev Dh:BG:={cls:= .type "dict",data:= .dict #[]}
theorem cM{K:Type}[DecidableEq K]{knd:KeyKind pE w K}{h:BS}{a:AK}(e:h.get? a=AA Dh):h.DictOf knd a []:=⟨_, #[],0,e,⟨rfl,rfl,rfl⟩,rfl,λ_ he=>absurd he (uw _), .nil, .nil⟩
theorem Ci.dict(ok:Ok σ):Ci (Be σ.h.objs.size) (σ.it Dh):=⟨λa e=>by
  have n:¬σ.W.M a:=e▸ok.notM
  exact⟨.inr e,λh=>n (ok.omM a h).1,λh=>n (ok.FM a h).1⟩,λa e o' h=> .inl (by rw[e,CQ _ rfl]at h;cases h;exact nofun)⟩
theorem oP{ks:List (Option Ab)}{c:DP}(hc:NM AD k q fx ks es c)(Dm:ks.all (·.isSome)=AC)(hl:ks.length=es.length)(h0:ks≠[])(Bh:ks.length<=15)(p:BW A k q fx env σ AI){g:DK×List CV->AL->R CV}{rr:R CV}(hr:rr=(c AI σ.o).bind λps o=>(L6 ps).elim .no λd=>g d o)
  (hQ:∀{Q:AE->AN->Prop} {d τ s' ws},VC V σ (g d τ.o) Q->Av (GY HJ (Be σ.h.objs.size)) σ τ->Ok τ->Ci (Be σ.h.objs.size) τ->Cu (Be σ.h.objs.size) τ s'->Do s'.heap σ.h.objs.size d.1 ws->Vs τ d.2 ws->Q (.ref σ.h.objs.size) s'):Ev m V A (B_ (.Dict ks es pos) env) σ rr:=λhn ht Q E yR hE=>by
 subst hr
 have p1:BW A k q fx env (σ.it Dh) AI:=p.step (Av.it p.ok Dh) (p.ok.it Dh rfl)
 have yj:(σ.it Dh).h.get? σ.h.objs.size=AA Dh:=CQ _ rfl
 have go:∀{K:Type} [DecidableEq K] (knd:KeyKind pE w K),(∀ps d,c AI σ.o= .ok ps d->∃d',L6 ps=AA d'/\d'.2=ps.map (·.2)/\∀{τ vs},PR τ ps vs->∃BO,Y8 knd vs BO/\(BO.map (·.1)).Nodup/\∀(h':BS) a,(a==Lc)=AD->h'.DictOf knd a BO->Do h' a d'.1 (vs.map (·.2)))->wq m Ak A (B_ (.Dict ks es pos) env) Q E σ.s:=λ{K} _ knd H=>
  wq.of (wpAny_Dict_walk (knd:=knd) Dm hl h0 Bh ((hc pos _ _ _ _ p1).run (R.bind_ne hn) ht (λps vs τ e st ok M6 hp=>by
   refine A3 (H ps τ.o e) λd aL=>?_
   refine A3 (aL.2.2 hp) λBO aM=>?_
   have j9:=(st.kept _ _ yj ((Ci.dict p.ok).M _ rfl).2.1 id).1 ((Ci.dict p.ok).M _ rfl).2.2
   refine⟨BO,aM.1,cM j9,λh' hd hs=>?_⟩
   rw[merged_nil_of_nodup _ aM.2.1]at hd
   exact hQ (d:=d) (τ:=τ) (λa v υ er=>yR a v υ (by rw[(e:c AI (σ.it Dh).o=_)];show(L6 ps).elim R.no (λd=>g d τ.o)=_;rw[aL.1];exact er)) ((Av.it p.ok Dh).trans st).up ok ((Ci.dict p.ok).on (p.ok.it Dh rfl) st λa x o h=> .inl (by rw[x,j9]at h;cases h;exact nofun)) (TK hs) (aM.2.2 h' _ (gG p.ok) hd) (aL.2.1▸hp.2))
   λc' v τ (e:c AI (σ.it Dh).o=_) st ok x=>hE c' v τ (by rw[show c AI σ.o=_ from(e:c AI (σ.it Dh).o=_)];rfl) ((Av.it p.ok Dh).trans st) ok (x.after (X:=HJ) (Av.it p.ok Dh)):wq AD Ak A _ _ _ _).any)
 cases VX:c AI σ.o with
 |no=>exact absurd VX (R.bind_ne hn)
 |err e o=>exact go (strKind pE w) λps d e=>by rw[VX]at e;first|exact Af e|cases e
 |ok ps o=>
  rw[VX]at hn
  obtain⟨d,e⟩:=HG (x:=L6 ps) hn
  obtain⟨knd,e2,hk⟩:=kn e
  exact go knd λps' o' e'=>by rw[VX]at e';cases e';exact⟨d,e,e2,hk⟩
noncomputable def Sn(c:DP):D:=λv o=>(c v o).bind λps o=>(L6 ps).elim .no λd=> .ok (.dct d.1 d.2) o
noncomputable def bZ(c:DP):D:=λv o=>(c v o).bind λps o=>(L6 ps).elim .no λd=> .ok (.obj o.length) (o++[.dict d.1 d.2])
theorem Do.live{h:BS}{a:AK}{ks:DK}{ws:List AE}(x:Do h a ks ws):∃o,h.get? a=AA o:=by
 obtain⟨_,_,_,hd⟩:=x.dr
 exact hd.imp λo h=>h.elim λ_ h=>h.elim λ_ h=>h.1
theorem BK9{ks:List (Option Ab)}{c:DP}(hc:NM AD k q fx ks es c)(Dm:ks.all (·.isSome)=AC)(hl:ks.length=es.length)(h0:ks≠[])(Bh:ks.length<=15):Aj m k q fx (.Dict ks es pos) (Sn c):=λA env σ AI p=>
 oP hc Dm hl h0 Bh p rfl λ{Q d τ s' ws} hQ st ok O H hd hv=>by
  obtain⟨o,ho⟩:=hd.live
  exact hQ _ _ (τ.off (Be σ.h.objs.size) s') rfl (H.close st (λa e=>e▸get?_size _) p.ok) (H.okOff ok O) ⟨_,ws,rfl,⟨o,⟨ho,λh=>h.2 rfl⟩,hd⟩,(H.kpOff ok O).vs _ hv⟩
theorem BL1{ks:List (Option Ab)}{c:DP}(hc:NM AD k q fx ks es c)(Dm:ks.all (·.isSome)=AC)(hl:ks.length=es.length)(h0:ks≠[])(Bh:ks.length<=15):Aj m k q fx (.Dict ks es pos) (bZ c):=λA env σ AI p=>
 oP hc Dm hl h0 Bh p rfl λ{Q d τ s' ws} hQ st ok O H hd hv=>by
  obtain⟨o,ho⟩:=hd.live
  exact hQ _ _ (τ.reg σ.h.objs.size (.dict d.1 d.2) s') rfl (H.closeReg st (get?_size _)) (H.okReg ok O ⟨o,ho⟩ ⟨rfl,o,ws,ho,hd,(H.kpReg ok O).vs _ hv⟩) ⟨(σ.h.objs.size,σ.h.objs.size),by
   rw[<-ok.len,Qk (BL _),LR];rfl,rfl⟩
noncomputable def Wh:D:=λ_ o=> .ok (.dct (.s []) []) o
noncomputable def nv:D:=λ_ o=> .ok (.obj o.length) (o++[.dict (.s []) []])
theorem oN(ok:Ok σ):Do (σ.push Dh σ.s.toks).h σ.h.objs.size (.s []) []:=⟨gG ok,cM (CQ _ rfl),rfl⟩
theorem BL0:Aj m k q fx (.Dict [] [] pos) Wh:=λA env σ AI p=> .of λ_ Q E hQ _=>wpAny_Dict_empty (hQ _ _ (σ.push _ _) rfl (.push _ _) (p.ok.push _ _) ⟨_,[],rfl,⟨_,⟨CQ _ rfl,p.ok.notM⟩,oN p.ok⟩,rfl⟩)
theorem BL2:Aj m k q fx (.Dict [] [] pos) nv:=λA env σ AI p=> .of λ_ Q E hQ _=>by
 have ok:=p.ok
 exact wpAny_Dict_empty (hQ (.obj σ.o.length) _ ⟨σ.W.add σ.me,σ.o++[.dict (.s []) []],(σ.push Dh σ.s.toks).s⟩ rfl (.add (p:=σ.me) (get?_size _) (get?_size _) (λa o h=>CW _ h:∀a o,σ.h.get? a=AA o->(σ.push Dh σ.s.toks).s.heap.get? a=AA o))
  (ok.add (p:=σ.me) (s':=(σ.push Dh σ.s.toks).s) (o':= .dict (.s []) []) (get?_size _) (get?_size _) ⟨_,(CQ _ rfl:(σ.h.push Dh).get? σ.h.objs.size=AA Dh)⟩ ⟨_,(CQ _ rfl:(σ.h.push Dh).get? σ.h.objs.size=AA Dh)⟩ (λa o h=>CW _ h:∀a o,σ.h.get? a=AA o->(σ.push Dh σ.s.toks).s.heap.get? a=AA o) rfl rfl ⟨rfl,_,[],(CQ _ rfl:(σ.h.push Dh).get? σ.h.objs.size=AA Dh),oN ok,rfl⟩) ⟨_,Wd.add_at ok.len,rfl⟩)
noncomputable def ma(o:AL)(c:CV):Option (Nat×List T×List CV):=(Sf o c).bind λd=>match d.2.1 with
 | .s l=>AA (d.1,l,d.2.2)
 | .i _=>AB
noncomputable def mZ(_:AL):CV->Option (List T×List CV)
 | .dct (.s l) vs=>AA (l,vs)
 |_=>AB
theorem vSD:Vw ma λσ d v=>ak σ (d.1, .s d.2.1,d.2.2) v:=λ{σ c a v} ok e h=>by
 obtain⟨d,e1,e2⟩:=C5.mp e
 obtain⟨i,ks,vs⟩:=d
 cases ks<;>cases e2
 exact gR ok e1 h
theorem vSC:Vw mZ λσ d v=>V σ (.dct (.s d.1) d.2) v:=λ{σ c a v} _ e h=>by
 cases c with
 |dct ks vs=>cases ks<;>cases e;exact h
 |_=>first|exact Af e|cases e
noncomputable def fQ:List CV->AL->R CV:=BN ma mZ λa b o=>if(a.2.1++b.1).Nodup/\(a.2.1++b.1).length<=Ah then .ok .none (o.set a.1 (.dict (.s (a.2.1++b.1)) (a.2.2++b.2)))else .no
theorem ge{a b:List T}{ws wx:List AE}(h:a.length=ws.length):((a.map AU).zip ws)++((b.map AU).zip wx)=((a++b).map AU).zip (ws++wx):=by rw[EO,List.zip_append (by rw[Ay];exact h)]
theorem Ax5:DH m k q "update" eE (.builtin "dict.update") [] fQ:= .v gR AL8 ie xH F.type_dict_update (.on2 vSD vSC λA σ a b u v _ ok h h'=> .ite λhc=> .of λ_ Q E hQ _=>by
 obtain⟨p,ws,rfl,hp,e2,⟨hs,hd,hl⟩,h3⟩:=h
 obtain⟨x,wx,rfl,⟨ox,zL,zy,zq,zu⟩,O8⟩:=h'
 have Bh:(a.2.1++b.1).length=(ws++wx).length:=by simp only[A1,A1,hl,zu]
 have nd:((((a.2.1.map AU).zip ws)++((b.1.map AU).zip wx)).map (·.1)).Nodup:=by
  rw[(ge (b:=b.1) (wx:=wx) hl),Yn (by rw[Ay];exact BR Bh)]
  exact Ys.mpr (hc.1.imp λh q=>h (Nt q))
 refine i5 xH hd.typeIs F.entry_dict_update (F.args_dict_update_2 _ _) (meets_dict_update (strKind pE w) p.1 x (λq=>zL.2 (q▸(ok.omM _ (Wd.om_mem hp).1).1):p.1≠x) zy) ⟨_,_,hd,zq,?_,λh' q1 q2 q3=>?_⟩
 ·rw[<-A1,(ge (b:=b.1) (wx:=wx) hl),J2,Ay,Bh,LP,<-Bh];exact hc.2
 ·rw[merged_append_of_fresh _ _ nd,(ge (b:=b.1) (wx:=wx) hl)]at q1
  have De:∃o,h'.get? p.1=AA o:=q1.imp λ_ h=>h.elim λ_ h=>h.elim λ_ h=>h.1
  show Q .none {σ.s with heap:=h'}
  exact hQ.set (s':={σ.s with heap:=h'}) (o':= .dict (.s (a.2.1++b.1)) (a.2.2++b.2)) ok hp q3.2 De rfl rfl (λk=>⟨e2,De.choose,ws++wx,De.choose_spec,⟨hs,q1,Bh⟩,(k.vs _ h3).append (k.vs _ O8)⟩) rfl λ_=>rfl)
noncomputable def WP(_:AL)(c:CV):Option (DK×List CV):=DX c AB (zk:=λks vs=>AA (ks,vs))
theorem Bc2:Vw WP λσ d v=>V σ (.itm d.1 d.2) v:=λ{σ c a v} _ e=>CV.only (f:=WP σ.o) (P:=λc d=>V σ c v->V σ (.itm d.1 d.2) v) e Am (λ_=>Am) (λ_=>Am) (λ_=>Am) (λ_=>Am) (λ_=>Am) (λ_ _=>Am) (λ_=>Am) (λ_=>Am) (λ_ _=>Am) Am (λ_=>Am) (λ_ _ _ e h=>CU e▸h) (λ_ _=>Am)
noncomputable def Xk:List CV->AL->R CV:=Eb WP λd o=>if d.2.length<=Ah then .ok (.lst (((Jp d.1).zip d.2).map λp=> .tup [p.1,p.2])) o else .no
theorem Vs.of{cs:List CV}:∀{vs:List AE},cs.length=vs.length->(∀(j:Nat) c v,cs[j]? =AA c->vs[j]? =AA v->V σ c v)->Vs σ cs vs:=by
 induction cs with
 |nil=>exactλe _=>Gy.mp e.symm
 |cons c cs ih=>
  intro vs e H
  cases vs with
  |nil=>first|exact Af e|cases e
  |cons v vs=>exact⟨v,vs,rfl,H 0 c v rfl rfl,ih (Hw e) λj=>H (j+1)⟩
theorem AQ9:BA m k AC (HL (.type "list")) Xk:= .on1 Bc2 λA σ d u hR ok h=> .ite λhl=> .of λ_ Q E hQ _=>by
 obtain⟨knd,a,dd,BO,ep,od,rfl,hw,hp,hd,hr,hk,Mw⟩:=gV h
 have Bh:d.2.length=BO.length:=hr.len.trans (Ay _)
 refine kdx_call (hR.hand rfl) hw (hd _ hp.1) (by rw[<-Bh];exact hl) λh' tk acc c as Vd hS KF hG VV=>?_
 have ea:acc=(as.map Value.ref).toArray:=by rw[<-VV]
 subst ea
 refine hQ.grow (s':={σ.s with heap:=h',toks:=tk}) ok Vd rfl rfl rfl ⟨_,as.map .ref,rfl,⟨c,hS,ok.notM⟩,Vs.of (by simp only[Ay,Ay,J2,hk,Bh,LP,KF]) λj cc v h1 h2=>?_⟩
 rw[Cm]at h1 h2
 obtain⟨p,h3,rfl⟩:=DD.mp h1
 obtain⟨b,h4,rfl⟩:=DD.mp h2
 have h1:=Ql.mp h3
 refine Hr (hG.pairs j b h4) λkey kk x AC8=>?_
 obtain⟨g1,g2,g3⟩:=AC8
 obtain⟨x',kR,zx⟩:=hr.get h1.2
 rw[Cm,g1]at kR
 cases kR
 obtain⟨kc,Rk,y6⟩:=Mw j (kk,x) key (σ.to {σ.s with heap:=h',toks:=tk}) g1 g2
 rw[h1.1]at Rk
 cases Rk
 refine⟨b,[key,x],rfl,⟨0,g3,λq=>?_⟩, .two y6 ((ok.kp (Av.grow (s':={σ.s with heap:=h',toks:=tk}) Vd)).v _ zx)⟩
 exact(ok.Mlt b q).1.elim λo h=>Eu _ (C4 (Ew h) (hG.above b (Dv h4)))
section
mutual
noncomputable def C8(n:Nat):CV->Bool
 | .tup vs=>C9 n vs
 | .lst vs=>C9 n vs
 | .dct _ vs=>C9 n vs
 | .itm _ vs=>C9 n vs
 | .vls _ vs=>C9 n vs
 | .obj i=>decide (i<n)
 | .exc _ _=>AD
 |_=>AC
noncomputable def C9(n:Nat):List CV->Bool
 |[]=>AC
 |c::cs=>C8 n c&&C9 n cs
end
noncomputable def H'(n:Nat):CO->Bool
 | .list vs=>C9 n vs
 | .dict _ vs=>C9 n vs
 | .inst _ _ (AA v)=>C8 n v
 |_=>AC
structure H5(n:Nat)(σ τ:St):Prop where
 p:Pl σ τ
 ob:∀i q,i<n->σ.W.ρ[i]? =AA q->τ.W.ρ[i]? =AA q
section
variable{N:Nat}(C:H5 N σ τ)
include C
mutual
theorem H5.v:∀(c:CV) {v:AE},C8 N c=AC->V σ c v->V τ c v
 | .none,_,_,h| .bool _,_,_,h| .int _,_,_,h| .str _,_,_,h| .top _,_,_,h=>h
 | .tup vs,_,e,h| .lst vs,_,e,h=>EV.imp h (Pl.sq C.p _) (H5.vs vs e)
 | .dct _ vs,_,e,h=>EV.imp h (Pl.dc C.p _) (H5.vs vs e)
 | .obj _,_,e,⟨p,h1,h2⟩=>⟨p,C.ob _ _ (of_decide_eq_true e) h1,h2⟩
 | .exc _ _,_,e,_=>nomatch e
 | .mat,_,_,h=>Rf.imp h (Pl.mt C.p)
 | .rng _,_,_,h=>Rf.imp h (Pl.rg C.p _)
 | .itm _ vs,_,e,h| .vls _ vs,_,e,h=>EV.imp h (Pl.vw C.p _ _) (H5.vs vs e)
theorem H5.vs:∀(c:List CV) {v:List AE},C9 N c=AC->Vs σ c v->Vs τ c v
 |[],_,_,h=>h
 |c::cs,_,e,⟨x,r,e',h1,h2⟩=>⟨x,r,e',H5.v c (IR.mp e).1 h1,H5.vs cs (IR.mp e).2 h2⟩
end
theorem H5.o{o:CO}{p:AK×AK}(e:H' N o=AC)(h1:∀ob,σ.h.get? p.1=AA ob->τ.h.get? p.1=AA ob)(h2:∀ob,σ.h.get? p.2=AA ob->τ.h.get? p.2=AA ob)(h:GN σ o p):GN τ o p:=by
 cases o with
 |list vs=>exact⟨h.1,h.2.imp λi h=>h.imp λn h=>⟨h1 _ h.1,C.vs _ e h.2⟩⟩
 |dict ks vs=>exact⟨h.1,h.2.imp λb h=>h.imp λw h=>⟨h1 _ h.1,h.2.1.at h1,C.vs _ e h.2.2⟩⟩
 |inst c fn f=>
  cases h with
  |mk b m a1 a2 a3 a4 a5 a6 a7=>
   refine⟨b,m,h1 _ a1,a2,a3,a4,a5,a6.imp λo h=>h.imp λes h=>h.imp λep h=>⟨h2 _ h.1,h.2⟩,?_⟩
   cases f with
   |none=>exact a7
   |some v=>exact a7.imp λu q=>⟨q.1,C.v _ e q.2⟩
 |dead=>trivial
end
noncomputable def Kz(f:CV->Option CV):List CV->Option (List CV)
 |[]=>AA []
 |c::cs=>(f c).bind λa=>(Kz f cs).bind λb=>AA (a::b)
noncomputable def IE(objs:AL)(n:Nat):Nat->CV->Option CV
 |0,_=>AB
 |k+1,c=>if C8 n c=AC then AA c else match c with
  | .obj i=>objs[i]?.bind λo=>match o with
   | .list l=>(Kz (IE objs n k) l).map .lst
   | .dict ks vs=>(Kz (IE objs n k) vs).map (.dct ks)
   |_=>AB
  | .tup vs=>(Kz (IE objs n k) vs).map .tup
  | .lst vs=>(Kz (IE objs n k) vs).map .lst
  | .dct ks vs=>(Kz (IE objs n k) vs).map (.dct ks)
  |_=>AB
theorem S9{f:CV->Option CV}(hf:∀{c c' v},V σ c v->f c=AA c'->V τ c' v){cs:List CV}:∀{VJ:List CV} {vs:List AE},Vs σ cs vs->Kz f cs=AA VJ->Vs τ VJ vs:=by
 induction cs with
 |nil=>intro VJ vs h e;cases e;exact h
 |cons c cs ih=>
  intro VJ vs h e
  refine B7 (h) λu r aN=>?_
  obtain rfl:=aN.1
  obtain⟨a,ea,e⟩:=C5.mp e
  obtain⟨b,eb,e⟩:=C5.mp e
  cases e
  exact⟨u,r,rfl,hf aN.2.1 ea,ih aN.2.2 eb⟩
theorem Ai1{N:Nat}(C:H5 N σ τ)(ok:Ok σ)(new:∀(i:Nat) p,N<=i->σ.W.ρ[i]? =AA p->¬τ.W.M p.1/\∀o,σ.h.get? p.1=AA o->τ.h.get? p.1=AA o):∀(k:Nat) {c c':CV} {v:AE},V σ c v->IE σ.o N k c=AA c'->V τ c' v:=by
 intro k
 induction k with
 |zero=>intro c c' v h e;first|exact Af e|cases e
 |succ k ih=>
  intro c c' v h e
  by_cases hc:C8 N c=AC
  ·cases (if_pos hc).symm.trans e;exact C.v _ hc h
  ·replace e:=(if_neg hc).symm.trans e
   cases c with
   |obj i=>
    obtain⟨o,e1,e2⟩:=C5.mp e
    obtain⟨p,rfl,hp,hr⟩:=ok.obj h e1
    have hn:=new i p (Cp.mp λq=>hc (decide_eq_true q)) hp
    cases o with
    |list l=>
     obtain⟨l',hl,rfl⟩:=DD.mp e2
     obtain⟨_,ws,m,h1,h2⟩:=hr
     exact⟨_,ws,rfl,⟨m,hn.2 _ h1,hn.1⟩,S9 ih h2 hl⟩
    |dict ks vs=>
     obtain⟨l',hl,rfl⟩:=DD.mp e2
     obtain⟨_,ob,ws,h1,h2,h3⟩:=hr
     exact⟨_,ws,rfl,⟨ob,⟨hn.2 _ h1,hn.1⟩,h2.at hn.2⟩,S9 ih h3 hl⟩
    |_=>first|exact Af e2|cases e2
   |tup vs=>
    obtain⟨l',hl,rfl⟩:=DD.mp e
    exact EV.imp h (Pl.sq C.p _) λq=>S9 ih q hl
   |lst vs=>
    obtain⟨l',hl,rfl⟩:=DD.mp e
    exact EV.imp h (Pl.sq C.p _) λq=>S9 ih q hl
   |dct ks vs=>
    obtain⟨l',hl,rfl⟩:=DD.mp e
    exact EV.imp h (Pl.dc C.p _) λq=>S9 ih q hl
   |_=>first|exact Af e|cases e
noncomputable def fin(n:Nat)(c:CV)(o:AL):R CV:=if(o.take n).all (H' n)=AC then(IE o n 20 c).elim .no λc'=> .ok c' (o.take n)else .no
end
section
section
variable{kindOf:AQ->Option Q5}{n:AQ}{v:AE}
theorem AP1{ps:List AQ}:∀{vs:List AE} {m:AQ->Option AE},n∉ps->bindL kindOf (ps.zip vs) m n=m n:=by
 induction ps with
 |nil=>intros;rfl
 |cons p ps ih=>
  intro vs m h
  cases vs with
  |nil=>rfl
  |cons v vs=>
   simp only[Yu]
   unfold bindL
   rw[ih λq=>h (Ef _ q)]
   split
   ·exact if_neg λq:n=p=>h (q▸CP)
   ·rfl
theorem AO9{ps:List AQ}:∀{vs:List AE} {m:AQ->Option AE},n∉ps->RE kindOf (ps.zip vs) m n=m n:=by
 induction ps with
 |nil=>intros;rfl
 |cons p ps ih=>
  intro vs m h
  cases vs with
  |nil=>rfl
  |cons v vs=>
   simp only[Yu]
   unfold RE
   rw[ih λq=>h (Ef _ q)]
   split
   ·rfl
   ·exact if_neg λq:n=p=>h (q▸CP)
theorem AP0{ps:List AQ}:∀{vs:List AE} {m:AQ->Option AE} {i:Nat},ps.Nodup->ps[i]? =AA n->vs[i]? =AA v->kindOf n=AA .local->bindL kindOf (ps.zip vs) m n=AA v:=by
 induction ps with
 |nil=>intro _ _ _ _ h;first|exact Af h|cases h
 |cons p ps ih=>
  intro vs m i nd h1 h2 hk
  have nd:=HT.mp nd
  cases vs with
  |nil=>first|exact Af h2|cases h2
  |cons u vs=>
   simp only[Yu]
   unfold bindL
   cases i with
   |zero=>cases h1;cases h2;rw[if_pos hk,AP1 nd.1,if_pos rfl]
   |succ i=>exact ih nd.2 h1 h2 hk
theorem AO8{ps:List AQ}:∀{vs:List AE} {m:AQ->Option AE} {i:Nat},ps.Nodup->ps[i]? =AA n->vs[i]? =AA v->kindOf n≠AA .local->RE kindOf (ps.zip vs) m n=AA v:=by
 induction ps with
 |nil=>intro _ _ _ _ h;first|exact Af h|cases h
 |cons p ps ih=>
  intro vs m i nd h1 h2 hk
  have nd:=HT.mp nd
  cases vs with
  |nil=>first|exact Af h2|cases h2
  |cons u vs=>
   simp only[Yu]
   unfold RE
   cases i with
   |zero=>cases h1;cases h2;rw[if_neg hk,AO9 nd.1,if_pos rfl]
   |succ i=>exact ih nd.2 h1 h2 hk
end
theorem qU{l:List (AQ×α)}{n:AQ}(h:n∈l.map (·.1)):∃c,l.lookup n=AA c:=by
 induction l with
 |nil=>first|exact Af h|cases h
 |cons x l ih=>
  rw[iB]
  cases hb:n==x.1 with
  |true=>exact⟨_,rfl⟩
  |false=>exact ih ((Cf.mp h).resolve_left (ne_of_beq_false hb))
theorem Au9{l:List (AQ×α)}{n:AQ}{c:α}(nd:(l.map (·.1)).Nodup)(h:(n,c)∈l):l.lookup n=AA c:=by
 induction l with
 |nil=>first|exact Af h|cases h
 |cons x l ih=>
  rw[iB]
  rcases Cf.mp h with e|h
  ·rw[<-e,beq_self_eq_true]
  ·rw[beq_eq_false_iff_ne.mpr λe:n=x.1=>(HT.mp nd).1 (show x.1∈l.map (·.1)from e▸(Qn (f:=(·.1)) h))]
   exact ih (HT.mp nd).2 h
structure DN(a:AK)(fd:GG)(fx:Fx)(ps cn:List AQ)(body:List Bd):Prop where
 obj:∃o,BH.heap.get? a=AA o/\o.data= .func fd
 code:BH.heap.CodeRec fd.code fd.qualname
 body:fd.body= .stmts body
 clo:fd.closure=[]
 scope:fd.scope=fx.scope
 globals:fd.globals=Ia
 builtins:fd.builtins=U3
 co:fd.scope.isCoroutine=AD
 gen:fd.scope.isGenerator=AD
 cells:∀n,(cellsFrom n fd.scope.names []).map (·.1)=cn
 nodup:cn.Nodup
 slots:∀n,SK.cel n∈fx.sc->n∈cn
 par:∀(i:Nat) n,ps[i]? =AA n->fx.sc[i]? =AA (.loc n)\/fx.sc[i]? =AA (.cel n)
 pnd:ps.Nodup
noncomputable def Fg(fx:Fx)(args:List CV):AY:=args.map AA++Ep (fx.sc.length - args.length) AB
noncomputable abbrev St.fr(σ:St)(L:AK)(cs:List (AQ×AK))(s':AN):St:={W:={ρ:=σ.W.ρ,M:=λa=>σ.W.M a\/a=L\/∃n,(n,a)∈cs,F:=λa=>σ.W.F a\/a=L},o:=σ.o,s:=s'}
section
variable{L:AK}{cs:List (AQ×AK)}{s':AN}(ok:Ok σ)(hk:∀a o,σ.h.get? a=AA o->s'.heap.get? a=AA o)(hL:σ.h.get? L=AB)(hc:∀n a,(n,a)∈cs->σ.h.get? a=AB/\∃o,s'.heap.get? a=AA o)
include ok hk hL hc
theorem pK:Kp σ (σ.fr L cs s'):=
 have p:Pl σ (σ.fr L cs s'):=λa o h=>⟨hk a o h.1,λq=>q.elim h.2 λq=>q.elim (λe=>Bt h.1 (e▸hL)) λ⟨n,q⟩=>Bt h.1 (hc n a q).1⟩
 ⟨p,λ_ _ h=>h,λc m a h=>
  let⟨o,vs,t,it,n,h1,h2,h3,h4,h5,h6⟩:=h.at_
  ⟨.inl h.M,h.om,λq=>q.elim h.F λe=>Bt h1 (e▸hL),h.x,o,vs,t,it,n,hk _ _ h1,h2,h3,h4,p _ _ h5,h6⟩⟩
theorem Ah7(hd:∃o es ep,s'.heap.get? L=AA o/\o.data= .dict es ep)(hg:s'.gens=σ.s.gens)(ho:s'.os=σ.s.os):Ok (σ.fr L cs s'):=
 ⟨ok.len,ok.dist,λa h=>⟨.inl (ok.omM a h).1,λq=>q.elim (ok.omM a h).2 λq=>Fa (ok.Mlt a (ok.omM a h).1).1 hL q⟩,λa h=>h.elim (λh=>⟨.inl (ok.FM a h).1,(ok.FM a h).2.imp λ_ h=>h.imp λ_ h=>h.imp λ_ h=>⟨hk _ _ h.1,h.2⟩⟩) λe=>⟨.inr (.inl e),e▸hd⟩,λa h=>h.elim (λh=>⟨(ok.Mlt a h).1.imp λ_ h=>hk _ _ h,(ok.Mlt a h).2⟩) λh=>h.elim (λe=>by subst e;exact⟨hd.imp λ_ h=>h.elim λ_ h=>h.elim λ_ h=>h.1,ok.none_of hL⟩) λ⟨n,h⟩=>⟨(hc n a h).2,ok.none_of (hc n a h).1⟩,λb o h=>hk b o (ok.keep b o h),hg.trans ok.gens,ho.trans ok.os,λi o p h1 h2=>(ok.rel i o p h1 h2).kp (pK ok hk hL hc) (hk _) (hk _)⟩
end
end
end
section
variable{env:A7}{AI:AY}{ss:List Bd}
noncomputable def dT(n:Nat)(c:CV)(o:AL):R CV:=DX c .no (ze:=λ_ _=>if(o.take n).all (H' n)=AC then .err c (o.take n)else .no)
noncomputable def Gn(n:Nat)(r:RS):R CV:=match r with
 | .ret c o=>fin n c o
 | .next _ o=>fin n .none o
 | .err c _ o=>dT n c o
 |_=> .no
theorem sk(h:BS)(R:AK->Prop):∃base:BS,(∀a,R a->base.get? a=AB)/\(∀a,¬R a->base.get? a=h.get? a):=by
 classical
 refine⟨{h with objs:=h.objs.mapIdx λi o=>if R i then{o with data:= .freed}else o},λa hr=>?_,λa hr=>?_⟩<;>unfold Heap.get?<;>rw[Array.getElem?_mapIdx]<;>cases h.objs[a]? with
 |none=>rfl
 |some o=>first|(rw[Qu,if_pos hr];done)|(rw[Qu,if_pos hr];rfl)|(rw[Qu,if_neg hr];done)|(rw[Qu,if_neg hr];rfl)
structure Lv(σ τ:St)(R0 N:AK->Prop)(s':AN):Prop where
 gens:s'.gens=τ.s.gens
 os:s'.os=τ.s.os
 keep:∀b o,τ.h.get? b=AA o->¬τ.W.F b->¬R0 b->s'.heap.get? b=AA o
 fr:∀b o,τ.h.get? b=AA o->τ.W.F b->∃sl,s'.heap.get? b=AA {o with slots:=sl}
 r0:∀b,R0 b->σ.h.get? b=AB/\τ.W.M b/\¬τ.W.om b/\¬τ.W.F b
 new:∀b,N b->σ.h.get? b=AB/\(∃o,s'.heap.get? b=AA o)/\(τ.W.M b\/τ.h.get? b=AB)/\¬τ.W.om b/\¬τ.W.F b
noncomputable abbrev St.lv(σ:St)(N:AK->Prop)(o:AL)(s':AN):St:={W:={ρ:=σ.W.ρ,M:=λa=>σ.W.M a\/N a,F:=σ.W.F},o:=o,s:=s'}
section
variable{L:AK}{cs:List (AQ×AK)}{A0 s':AN}{R0 N:AK->Prop}{o':AL}(ok:Ok σ)(hk:∀a o,σ.h.get? a=AA o->A0.heap.get? a=AA o)(hL:σ.h.get? L=AB)(hX:∀a,X a->σ.h.get? a=AB)
 (st:Av X (σ.fr L cs A0) τ) (A6:Ok τ) (lv:Lv σ τ R0 N s')
include ok hk hL hX st A6 lv
theorem Lv.old{a:AK}{o:BG}(h:σ.h.get? a=AA o):(τ.W.F a↔σ.W.F a)/\¬X a/\¬R0 a:=⟨(st.ff a).trans ⟨λz=>z.elim id λz=>Bt h (z▸hL), .inl⟩,λq=>Bt h (hX a q),λq=>Bt h (lv.r0 a q).1⟩
theorem Lv.one{a:AK}{o:BG}(h:σ.h.get? a=AA o)(ho:¬σ.W.om a):(¬σ.W.F a->s'.heap.get? a=AA o)/\∃sl,s'.heap.get? a=AA {o with slots:=sl}:=by
 have R6:=lv.old ok hk hL hX st A6 h
 have h1:¬σ.W.F a->s'.heap.get? a=AA o:=λnf=>lv.keep a o ((st.kept a o (hk a o h) ho R6.2.1).1 λq=>q.elim nf λz=>Bt h (z▸hL)) (λq=>nf (R6.1.mp q)) R6.2.2
 refine⟨h1,?_⟩
 by_cases f:σ.W.F a
 ·refine A3 ((st.kept a o (hk a o h) ho R6.2.1).2) λsl h2=>?_
  exact(lv.fr a _ h2 (R6.1.mpr f)).imp λ_ h=>h
 ·exact⟨o.slots,h1 f⟩
theorem Lv.live:∀a o,σ.h.get? a=AA o->∃o',s'.heap.get? a=AA o':=λa o h=>by
 have AC9:=lv.old ok hk hL hX st A6 h
 obtain⟨o1,h1⟩:=st.live a o (hk a o h)
 by_cases f:τ.W.F a
 ·exact(lv.fr a o1 h1 f).imp' _ λ_ h=>h
 ·exact⟨o1,lv.keep a o1 h1 f AC9.2.2⟩
theorem Lv.step:Lt σ (σ.lv N o' s'):=⟨⟨[],(BJ _).symm⟩,λ_ h=> .inl h,λa h=>h.imp id λh=>(lv.new a h).1,λ_ h=> .inl h,λ_=>Fh,lv.live ok hk hL hX st A6,λa o h ho _=>lv.one ok hk hL hX st A6 h ho⟩
theorem Lv.cut:H5 σ.o.length τ (σ.lv N o' s'):=⟨λa o h=>⟨lv.keep a o h.1 (λq=>h.2 (A6.FM a q).1) λq=>h.2 (lv.r0 a q).2.1,λq=>q.elim (λq=>h.2 (st.mono a (.inl q))) λq=>(lv.new a q).2.2.1.elim h.2 (Bt h.1)⟩,λi p hi h=>by
 obtain⟨t,e⟩:=st.rho
 rw[e,MU (by rw[<-ok.len]at hi;exact hi)]at h
 exact h⟩
theorem Lv.fine(Dm:(τ.o.take σ.o.length).all (H' σ.o.length)=AC):Ok (σ.lv N (τ.o.take σ.o.length) s'):=by
 refine A3 (st.rho) λt e=>?_
 have hl:σ.o.length<=τ.o.length:=by simp only[<-A6.len,e,A1,<-ok.len];exact GE _ _
 refine⟨by simp only[JE,LO hl];exact ok.len,ok.dist,λa h=>⟨.inl (ok.omM a h).1,(ok.omM a h).2⟩,λa h=>⟨.inl (ok.FM a h).1,?_⟩,λa h=>h.elim (λh=>⟨(ok.Mlt a h).1.elim λo q=>(lv.live ok hk hL hX st A6) a o q,(ok.Mlt a h).2⟩) λh=>⟨(lv.new a h).2.1,ok.none_of (lv.new a h).1⟩,λb o h=>lv.keep b o (A6.keep b o h) (λz=>Bt h (A6.Mlt b (A6.FM b z).1).2) λz=>Bt h (ok.none_of (lv.r0 b z).1),lv.gens.trans A6.gens,lv.os.trans A6.os,λi o p h1 h2=>?_⟩
 ·have f:=(st.ff a).mpr (.inl h)
  obtain⟨_,o,es,ep,q1,q2⟩:=A6.FM a f
  exact(lv.fr a o q1 f).elim λsl h=>⟨_,es,ep,h,q2⟩
 ·have Ft:=FF.mp Dm o (Dv h1)
  rw[h_,if_pos (ok.len▸GV h2:i<σ.o.length)]at h1
  have ZY:τ.W.ρ[i]? =AA p:=by rw[e,MU (GV h2)];exact h2
  exact(lv.cut (o':=τ.o.take σ.o.length) ok hk hL hX st A6).o Ft ((λh ob q=>lv.keep _ ob q (A6.omM _ h).2 λz=>(lv.r0 _ z).2.2.1 h:∀{a},τ.W.om a->∀ob,τ.h.get? a=AA ob->s'.heap.get? a=AA ob) (Wd.om_mem ZY).1) ((λh ob q=>lv.keep _ ob q (A6.omM _ h).2 λz=>(lv.r0 _ z).2.2.1 h:∀{a},τ.W.om a->∀ob,τ.h.get? a=AA ob->s'.heap.get? a=AA ob) (Wd.om_mem ZY).2) (A6.rel i o p h1 ZY)
end
theorem sp{c:CV}{v:AE}{r:R CV}{Q:AE->AN->Prop}{L:AK}{cs:List (AQ×AK)}{A0:AN}(ok:Ok σ)(hk:∀a o,σ.h.get? a=AA o->A0.heap.get? a=AA o)(hL:σ.h.get? L=AB)(hX:∀a,X a->σ.h.get? a=AB)(st:Av X (σ.fr L cs A0) τ)(A6:Ok τ)
  (hv:V τ c v) (hr:r=fin σ.o.length c τ.o) (hn:r≠ .no) (hQ:VC V σ r Q):Q v τ.s:=by
 have lv:Lv σ τ HJ HJ τ.s:=⟨rfl,rfl,λ_ _ h _ _=>h,λ_ o h _=>⟨o.slots,h⟩,nofun,nofun⟩
 subst hr
 unfold fin at hn hQ
 by_cases Dm:(τ.o.take σ.o.length).all (H' σ.o.length)=AC
 ·rw[if_pos Dm]at hn hQ
  refine A3 (HG hn) λc' e=>?_
  rw[e]at hQ
  refine hQ c' v (σ.lv HJ (τ.o.take σ.o.length) τ.s) rfl (lv.step ok hk hL hX st A6) (lv.fine ok hk hL hX st A6 Dm) (Ai1 (lv.cut ok hk hL hX st A6) A6 (λi p hi hp=>⟨λhM=>?_,λ_ h=>h⟩) 20 hv e)
  have hM:σ.W.M p.1:=hM.elim id gq
  rcases st.omf p.1 (Wd.om_mem hp).1 with h|h
  ·obtain⟨t,e⟩:=st.rho
   refine A3 (h) λq lS=>?_
   refine A3 (List.mem_iff_getElem.mp lS.1) λj V2=>?_
   have hq':τ.W.ρ[j]? =AA q:=by rw[e,MU V2.1,B8 V2.1,V2.2]
   have j7:j<σ.o.length:=ok.len▸V2.1
   exact lS.2.elim (A6.dist i j p q hp hq' (HV (CI j7 hi))).1 (A6.dist i j p q hp hq' (HV (CI j7 hi))).2.1
  ·obtain⟨o,ho⟩:=(ok.Mlt _ hM).1
   exact Bt (hk _ _ ho) h
 ·rw[if_neg Dm]at hn;exact absurd rfl hn
end
section
variable{env:A7}{AI:AY}{ss:List Bd}
noncomputable def ah(σ:St)(l:List A7):Prop:=∀e∈l,e.scope.kind≠ .module/\∃L,e.frame=AA L/\σ.W.F L
noncomputable def XW(σ τ:St)(N:AK->Prop)(s':AN)(c:CV)(v:AE):Prop:=∀υ:St,υ.s=s'->(∀a,N a->υ.W.M a/\¬υ.W.om a/\¬υ.W.F a)->(∀a,υ.W.M a->τ.W.M a\/N a)->HB σ υ c v
theorem Ok.no_new(ok:Ok σ){b:AK}(h:σ.h.get? b=AB):¬σ.W.om b/\¬σ.W.F b:=⟨λq=>Fa (ok.Mlt b (ok.omM b q).1).1 h rfl,λq=>Fa (ok.Mlt b (ok.FM b q).1).1 h rfl⟩
theorem XW.lv{R0 N:AK->Prop}{s':AN}{c:CV}{v:AE}(x:XW σ τ N s' c v)(ok:Ok σ)(mono:∀a,σ.W.M a->τ.W.M a)(lv:Lv σ τ R0 N s')(o:AL):HB σ (σ.lv N o s') c v:=x _ rfl (λa h=>⟨.inr h,ok.no_new (lv.new a h).1⟩) λa h=>h.imp (mono a) id
section
variable{aR:List A7}{cls:AE}{BM:Option T}{v:AE}{E:AE->AN->Prop}{Q:Unit->AN->Prop}
theorem Ok.frD(ok:Ok τ){b:AK}(h:τ.W.F b):∃o,τ.h.get? b=AA o/\∀vs,o.data≠ .fields vs:=(ok.FM b h).2.imp λo h=>⟨h.elim λ_ h=>h.elim λ_ h=>h.1,h.elim λ_ h=>h.elim λ_ h=>λvs q=>by rw[h.2]at q;cases q⟩
theorem dX(ok:Ok τ){base:BS}(hb:∀b,τ.W.F b->base.get? b=AB):∀{l:List A7},ah τ l->τ.h.FunFrames base l
 |[],_=>trivial
 |x::l,hl=>
  have⟨h1,L,h2,h3⟩:=hl x CP
  have⟨o,h4,h5⟩:=ok.frD h3
  ⟨h1,⟨L,o,h2,hb L h3,h4,h5⟩,dX ok hb λy hy=>hl y (Ef _ hy)⟩
section
variable(ok:Ok τ){e t:AK}{oe:BG}{vs items:Array AE}{n:Nat}(Ja:σ.h.get? e=AB)(hM:τ.W.M e)(KP:¬τ.W.om e)(Ve:¬τ.W.F e)(hx:IC cls=AC)(hc:oe.cls=cls)(ht:τ.pl t (Hq items n))(hm:∀m,BM=AA m->∃tk,items= #[.str (AU m) tk])
include ok Ja hM KP Ve hx hc ht hm
theorem As5{base h':BS}{l:List A7}{R:AK->Prop}(Zc:∀a,τ.h.get? a=AB->σ.h.get? a=AB)(GJ:∀b,¬R b->base.get? b=τ.h.get? b)(hF:∀b,τ.W.F b->R b)(hR:∀b,R b->τ.W.F b\/σ.h.get? b=AB/\τ.W.M b/\¬τ.W.om b)(hRe:R e)(hl:Heap.LeftW base l e oe.cls (.ref t) τ.h h'):
  ∃R0 N,Lv σ τ R0 N {τ.s with heap:=h'}/\XW σ τ N {τ.s with heap:=h'} (.exc cls BM) (.ref e):=by
 obtain⟨k1,_,⟨o2,lu,T,oT,ts,q1,⟨q2,q3⟩,q4,q5,q6,q7,q8,q9,q10⟩,k4⟩:=hl
 have jo:¬τ.W.F T:=λz=>by
  obtain⟨o,z1,z2⟩:=ok.frD z
  obtain⟨sl,z3⟩:=k4 T o z1 z2
  have z3:h'.get? T=AA {o with slots:=sl}:=z3
  rw[z3]at q8;first|exact Af q8|cases q8
  exact z2 _ q9
 have hT:σ.h.get? T=AB/\(τ.W.M T\/τ.h.get? T=AB)/\¬τ.W.om T:=by
  by_cases z:R T
  ·exact(hR T z).elim (λz=>absurd z jo) λz=>⟨z.1, .inl z.2.1,z.2.2⟩
  ·have z:=(GJ T z).symm.trans q6
   exact⟨Zc T z, .inr z,(ok.no_new z).1⟩
 have keep:∀b o,τ.h.get? b=AA o->¬R b->h'.get? b=AA o:=λb o h z=>k1 b o ((GJ b z).trans h)
 refine⟨λb=>R b/\¬τ.W.F b,λb=>b=e\/b=T,⟨rfl,rfl,λb o h hf hr=>keep b o h λz=>hr ⟨z,hf⟩,λb o h hf=>k4 b o h ?_,λb h=>have z:=(hR b h.1).resolve_left h.2;⟨z.1,z.2.1,z.2.2,h.2⟩,λb h=>h.elim (λz=>z▸⟨Ja,⟨_,q1⟩, .inl hM,KP,Ve⟩) λz=>z▸⟨hT.1,⟨_,q8⟩,hT.2.1,hT.2.2,jo⟩⟩,λυ hs hN hw=>?_⟩
 ·refine A3 (ok.frD hf) λo3 lT=>?_
  exact D0 lT.1 h▸lT.2
 ·have e1:=hN e (.inl rfl)
  have e2:=hN T (.inr rfl)
  have hs:υ.h=h':=congrArg xU hs
  rw[<-hs]at q1 q8
  refine⟨⟨e,rfl,⟨e1.1,e1.2.1,e1.2.2,hx,o2,lu,t,items,n,q1,q2.trans hc,q4,q3,⟨hs▸keep t _ ht.1 λz=>(hR t z).elim (λz=>ht.2 (ok.FM t z).1) λz=>ht.2 z.2.1,λz=>?_⟩,hm⟩⟩,e,o2,lu,rfl,Ja,q1,q4, .some T oT ts q5 q7 hT.1 e2 q8 q9 q10⟩
  exact(hw t z).elim ht.2 λz=>z.elim (λz=>ht.2 (z▸hM)) λz=>hT.2.1.elim (λh=>ht.2 (z▸h)) λh=>Bt ht.1 (z▸h)
end
theorem qP(KJ:A.frames=AA (env::aR))(hF:ah τ (env::aR))(ok:Ok τ)(Zc:∀a,τ.h.get? a=AB->σ.h.get? a=AB)(hx:HB σ τ (.exc cls BM) v)
  (hQ:∀R0 N s',Lv σ τ R0 N s'->XW σ τ N s' (.exc cls BM) v->Q () s'):Ac Ak A (U7 env v) Q E τ.s:=by
 obtain⟨⟨e,rfl,hM,KP,Ve,zp,oe,vs,t,items,n,Lm,hc,hd,h0,ht,Zt⟩,a,o',Gi,ea,Ja,Vh,G5,tb⟩:=hx
 cases ea
 cases D0 Lm Vh
 have e2:=hd.symm.trans G5
 injection e2 with e2
 subst e2
 obtain⟨_,L,hL,hLF⟩:=hF env CP
 have me:τ.W.F e\/σ.h.get? e=AB/\τ.W.M e/\¬τ.W.om e:= .inr ⟨Ja,hM,KP⟩
 have go:∀{base h':BS} {R:AK->Prop},(∀b,¬R b->base.get? b=τ.h.get? b)->(∀b,τ.W.F b->R b)->(∀b,R b->τ.W.F b\/σ.h.get? b=AB/\τ.W.M b/\¬τ.W.om b)->R e->Heap.LeftW base (env::aR) e oe.cls (.ref t) τ.h h'->Q () {τ.s with heap:=h'}:=λh1 h2 h3 h4 h5=>by
  refine B7 (As5 ok Ja hM KP Ve zp hc ht Zt Zc h1 h2 h3 h4 h5) λR0 N lU=>?_
  exact hQ R0 N _ lU.1 lU.2
 have lp:∀{R:AK->Prop} {base:BS},(∀b,R b->base.get? b=AB)->(∀b,¬R b->base.get? b=τ.h.get? b)->base.StaysIn τ.h:=λ{R base} h1 h2 b o q=>by
  by_cases z:R b
  ·exact Bt q (h1 b z)
  ·exact(h2 b z).symm.trans q
 generalize hu:vs[1]? =u at tb
 cases tb with
 |none h1=>
  subst h1
  obtain⟨base,b1,b2⟩:=sk τ.h λb=>τ.W.F b\/b=e
  exact wpAny_leaving_firstW (base:=base) (a0:= .ref t) KJ (dX ok (λb q=>b1 b (.inl q)) hF) hL Lm (lp b1 b2) (b1 e (.inr rfl)) hd hu h0 λh' hl=>go b2 (λ_=> .inl) (λb h=>h.elim .inl λh=>h▸me) (.inr rfl) hl
 |some T oT ts h1 h2 h3 h4 h5 h6 h7=>
  subst h1
  refine A3 (sk τ.h λb=>τ.W.F b\/b=e\/b=T) λbase PD=>?_
  exact wpAny_leaving_nextW (base:=base) (cls:=oe.cls) (a0:= .ref t) KJ (dX ok (λb q=>PD.1 b (.inl q)) hF) hL ⟨oe,vs,T,oT,ts,Lm,⟨rfl,h0⟩,hd,hu,PD.1 T (.inr (.inr rfl)),h2,h5,h6,h7⟩ (lp PD.1 PD.2) (PD.1 e (.inr (.inl rfl)))
   λh' hl=>go PD.2 (λ_=> .inl) (λb h=>h.elim .inl λh=>h.elim (λh=>h▸me) λh=>h▸ .inr ⟨h3,h4.1,h4.2.1⟩) (.inr (.inl rfl)) hl
end
end
end
section
variable{fx:Fx}{n:AQ}{pos p1 p2:BK}{e l r:Ab}{es:List Ab}{f g:List CV->AL->R CV}{kd:Nat}{env:A7}{AI:AY}{ss:List Bd}
theorem AU0{R:EQ->AN->Prop}{s:AN}{body:List Bd}
  (h:wq m Ak (A.deeper env) (execs body env) (λf s'=>R (.ok (.ret (match f with| .ret v=>v|_=> .none))) s')
   (λe s'=>Ac Ak (A.deeper env) (U7 env e) (λ_ He=>R (.error e) He) (λe' He=>R (.error e') He) s') s):Dg m Ak A (.func body env) R s:=by
 refine Pd ?_
 show wq m _ (A.deeper env) (do point;match<-(execs body env).onRaise (U7 env)with| .ret v=>ret v|_=>ret .none) _ _ s
 refine Bm (wq.of (wpAny_point ?_))
 refine Bm (QZ (OC h (λf s' h'=>?_) λ_ _ h'=>wq.of h'))
 cases f<;>exact EM h'
theorem AT9{R:EQ->AN->Prop}{s:AN}{a:AK}{args:HW}{o:BG}{fd:GG}{body:List Bd}(O5:A.depth<jC)(ho:s.heap.get? a=AA o)
  (G5:o.data= .func fd) (yi:fd.scope.isCoroutine=AD) (Rj:fd.scope.isGenerator=AD) (yd:fd.body= .stmts body) (yf:s.heap.CodeRec fd.code fd.qualname)
  (h:Ac Ak A.in1 (bindArgs fd args) (λjV A0=>
   Ac Ak A.in1 (ZK fd.scope fd.globals fd.closure jV (fd.qualname++".<locals>.") (AA a) fd.code AB fd.builtins)
    (λenv E8=>E8.heap.NoLimit/\Dg m Ak A (.func body env) R E8) (λe s'=>R (.error e) s') A0) (λe s'=>R (.error e) s') s):Dg m Ak A (.call (.ref a) args) R s:=by
 refine Pd (wq.of ?_)
 show Ac _ A.in1 (callAny (.ref a) args) _ _ s
 unfold callAny
 refine AR (jI ho ?_)
 refine YS (yf) λc oc vs tq R7=>?_
 rw[G5]
 unfold callFunction
 dsimp only
 rw[yi,Rj,yd,R7.1]
 rw[R7.1]at h
 refine AR (m:=field (.ref c) 1) (RI R7.2.1 R7.2.2.1 R7.2.2.2 (AR (Aa ?_)))
 exact AR (J' h (λjV A0 z5=>AR (J' z5 (λenv E8 kU=>AR (wpAny_enterFrame kU.1 O5
  (Aa (And.intro rfl kU.2)))) λ_ _ h'=>h')) λ_ _ h'=>h')
section
variable{a:AK}{fd:GG}{ps cn:List AQ}{body:List Bd}{d:DS}{cs:List CV}{vs:List AE}
theorem pM(F:DN a fd fx ps cn body){j:Nat}{x n:AQ}(hx:ps[j]? =AA x)(h:fx.sc[j]? =AA (.loc n)\/fx.sc[j]? =AA (.cel n)):x=n:=by
 rcases F.par j x hx with h'|h'<;>rcases h with h|h<;>rw[h']at h<;>cases h<;>rfl
theorem mT(hv:Vs σ cs vs)(hl:cs.length=ps.length){j:Nat}{v:CV}(h:(Fg fx cs)[j]? =AA (AA v)):∃u n,vs[j]? =AA u/\V σ v u/\ps[j]? =AA n:=by
 unfold Fg at h
 by_cases hj:j<cs.length
 ·rw[MU (by rw[Ay];exact hj),Cm]at h
  obtain⟨c,hc,e⟩:=DD.mp h
  cases e
  refine A3 (hv.get hc) λu lV=>?_
  exact⟨u,ps[j]'(hl▸hj),lV.1,lV.2,B8 _⟩
 ·rw[Qk (by rw[Ay];exact Cp.mp hj),List.getElem?_replicate]at h
  split at h<;>cases h
theorem A31(F:DN a fd fx ps cn body):ps.length<=fx.sc.length:=by
 cases hp:ps.length with
 |zero=>exact D2 _
 |succ i=>
  rcases F.par i _ (B8 (by rw[hp];exact J5 i))with h|h<;>exact GV h
section
variable{V7:AQ}{A0:AN}(fo:Dp fx)(F:DN a fd fx ps cn body)(ok:Ok σ)(he:env=newEnv fd.scope σ.h.objs.size fd.globals (cellsFrom (σ.h.objs.size+1) fd.scope.names []) V7 (AA a) fd.code AB fd.builtins)
 (x:InCallC σ.s env.locals (bindL env.kindOf (ps.zip vs) λ_=>AB) env.cells (RE env.kindOf (ps.zip vs) λ_=>AB) A0)
include he
theorem rD:env.locals=σ.h.objs.size:=by rw[he];rfl
theorem en:σ.h.get? env.locals=AB:=by rw[rD he];exact get?_size _
include F
theorem rF:env.cells.map (·.1)=cn:=by rw[he];exact F.cells (σ.h.objs.size+1)
theorem rG(n:AQ):env.kindOf n=fx.scope.names.lookup n:=by rw[<-F.scope,he];rfl
include x
theorem rE{n:AQ}{c:AK}(h:(n,c)∈env.cells):A0.heap.IsCell c (RE env.kindOf (ps.zip vs) (λ_=>AB) n):=x.cell n c (Au9 (rF F he▸F.nodup) h)
theorem ei:∀n c,(n,c)∈env.cells->σ.h.get? c=AB/\∃o,A0.heap.get? c=AA o:=λn c h=>⟨by
 have h1:=x.above n c h
 rw[rD he]at h1
 cases q:σ.h.get? c with
 |none=>rfl
 |some o=>exact absurd (Ew q) (Cp.mpr (Et h1)),(rE F he x h).imp λ_ h=>h.1⟩
include ok
theorem Az4:Ok (σ.fr env.locals env.cells A0):=by
 refine B7 (x.toInCall.same) λh t e=>?_
 exact Ah7 ok x.toInCall.keep (en he) (ei F he x) (x.toInCall.ns.imp λ_ h=>h.imp λ_ h=>h.imp λ_ h=>⟨h.1,h.2.1⟩) (by rw[e]) (by rw[e])
include fo
theorem Az3(hv:Vs σ cs vs)(hl:cs.length=ps.length):Bl fx (σ.fr env.locals env.cells A0) env (Fg fx cs):=by
 have hL:=en he
 have hc:=ei F he x
 have kp:=pK ok x.toInCall.keep hL hc
 have om:∀b,σ.h.get? b=AB->¬σ.W.om b/\¬σ.W.F b:=λb h=>⟨λq=>Fa (ok.Mlt b (ok.omM b q).1).1 h rfl,λq=>Fa (ok.Mlt b (ok.FM b q).1).1 h rfl⟩
 refine⟨by rw[he];exact F.scope,λ_=>by rw[he];rfl,by rw[he];exact F.globals,by rw[he];exact F.builtins,⟨env.locals,by rw[he];rfl, .inr rfl⟩,⟨.inr (.inl rfl),(om _ hL).1⟩,λn c h=>⟨.inr (.inr ⟨n,h⟩),(om _ (hc n c h).1).1,λq=>q.elim (om _ (hc n c h).1).2 (HV (x.above n c h)),HV (x.above n c h),_,rE F he x h⟩,x.apart,?_,⟨_,x.toInCall.ns,λj n v h1 h2=>?_⟩,λj n h1=>?_⟩
 ·unfold Fg;simp only[A1,Ay,List.length_replicate];exact Yv (hl▸A31 F)
 ·refine B7 (mT hv hl h2) λu n' V3=>?_
  cases pM F V3.2.2 (.inl h1)
  exact⟨u,AP0 F.pnd V3.2.2 V3.1 ((rG F he _).trans (fo.loc _ (Dv h1)).1),kp.v _ V3.2.1⟩
 ·obtain⟨c,js⟩:=qU (by rw[rF F he];exact F.slots _ (Dv h1))
  refine⟨c,_,js,x.cell n c js,λv h2=>?_⟩
  refine B7 (mT hv hl h2) λu n' AD0=>?_
  obtain⟨h4,h5,h6⟩:=AD0
  cases pM F h6 (.inr h1)
  exact⟨u,AO8 F.pnd h6 h4 (by rw[rG F he,(fo.cel _ (Dv h1)).1];decide),kp.v _ h5⟩
end
theorem Bs.fr(h:Bs A k q σ){l:List A7}(e:A.frames=AA l):ah σ l:=by
 obtain⟨l',e',h⟩:=h.frames
 cases e.symm.trans e'
 exact h
theorem Tb.old{a:AK}{u:Option AE}(h:∀a,σ.h.get? a=AB->υ.h.get? a=AB):Tb σ τ a u->Tb υ τ a u
 | .none h=> .none h
 | .some T oT ts h1 h2 h3 h4 h5 h6 h7=> .some T oT ts h1 h2 (h _ h3) h4 h5 h6 h7
theorem HB.old{c:CV}{v:AE}(h:∀a,σ.h.get? a=AB->υ.h.get? a=AB)(x:HB σ τ c v):HB υ τ c v:=⟨x.1,let⟨a,o,vs,h1,h2,h3,h4,h5⟩:=x.2;⟨a,o,vs,h1,h _ h2,h3,h4,h5.old h⟩⟩
theorem Bs.deeper{A0:AN}{L:AK}{cells:List (AQ×AK)}(h:Bs A (k+1) q σ)(hk:env.scope.kind≠ .module)(hf:env.frame=AA L):Bs (A.deeper env) k q (σ.fr L cells A0):=by
 have h1:=h.depth
 have h2:=h.units
 refine⟨QE (by decide) h1,QE (by decide) h2,λz=>h.hand z,?_⟩
 refine A3 (h.frames) λl lW=>?_
 exact⟨env::l,by show A.frames.map (env::·)=_;rw[lW.1];rfl,Ht.mpr ⟨⟨hk,L,hf, .inr rfl⟩,λe he=>(lW.2 e he).imp_right λh=>h.imp λ_ h=>h.imp_right .inl⟩⟩
noncomputable def AH4(fv:AE)(args:HW)(m:Bool)(A:BZ)(σ:St)(r:R CV):Prop:=r≠ .no->0<σ.s.toks->∀Q E,VC V σ r Q->EC σ r E->Dg m Ak A (.call fv args) (λr s'=>match r with| .ok (.ret v)=>Q v s'| .ok _=>False| .error e=>E e s') σ.s
theorem Ai2(fo:Dp fx)(F:DN a fd fx ps cn body)(hb:Dy m k q fx body d){args:HW}(hR:Bs A (k+1) q σ)(ok:Ok σ)(hv:Vs σ cs vs)(hl:cs.length=ps.length)(Zd:G2 σ.s fd args (ps.zip vs)):
  AH4 (.ref a) args m A σ (Gn σ.o.length (d (Fg fx cs) σ.o)):=λhn ht Q E hQ hE=>by
 refine A3 (F.obj) λo lX=>?_
 have O5:A.depth<jC:=Bg (LN hR.depth) (by decide:990<jC)
 refine AT9 O5 (ok.keep a o lX.1) lX.2 F.co F.gen F.body (F.code.keeps ok.keep) ?_
 rw[F.clo]
 have kind:∀x∈ps.zip vs,fd.scope.names.lookup x.1=AA .local\/(fd.scope.names.lookup x.1=AA .cell/\((cellsFrom (σ.h.objs.size+1) fd.scope.names []).lookup x.1).isSome=AC):=λx hx=>by
  refine A3 (Yq.mp (List.of_mem_zip hx).1) λi hi=>?_
  rw[F.scope]
  rcases F.par i _ hi with h|h
  ·exact .inl (fo.loc _ (Dv h)).1
  ·exact .inr ⟨(fo.cel _ (Dv h)).1,Y1.mpr (qU (by rw[<-F.scope,F.cells (σ.h.objs.size+1)];exact F.slots _ (Dv h)))⟩
 refine Zd _ _ _ _ (uj (wpAny_newFunctionEnv_cells (by rw[F.scope];exact fo.kind) kind λenv he A0 x hle=>⟨(TF.nolimit.keeps ok.keep:σ.h.NoLimit).keeps x.toInCall.keep,AU0 ?_⟩))
 have hk:=x.toInCall.keep
 have hL:=en he
 have sc:env.scope=fx.scope:=by rw[he];exact F.scope
 have jk:Bs (A.deeper env) k q (σ.fr env.locals env.cells A0):=hR.deeper (by rw[sc,fo.kind];decide) (by rw[he];rfl)
 refine A3 (hR.frames) λl0 AD1=>?_
 have KJ:(A.deeper env).frames=AA (env::l0):=by show A.frames.map (env::·)=_;rw[AD1.1];rfl
 have hX:∀b,DB env b->σ.h.get? b=AB:=λb h=>h.elim (λq=>q▸hL) λ⟨_,n,q⟩=>((ei F he x) n b q).1
 have yc:∀{τ},Av (DB env) (σ.fr env.locals env.cells A0) τ->∀a,τ.h.get? a=AB->σ.h.get? a=AB:=λst a h=>match e:σ.h.get? a with
  |none=>rfl
  |some o=>Bt (hk a o e) (st.back h)
 refine(hb _ _ _ _ ⟨jk,Az3 fo F ok he x hv hl,(Az4 F ok he x),λ_=>⟨l0,KJ⟩⟩).run (λz=>hn (by show Gn _ (d (Fg fx cs) (σ.fr env.locals env.cells A0).o)=_;rw[z];rfl)) (CI ht hle) (λf τ st A6 _ h=>?_) λc v vs τ e st A6 _ hx=>?_
 ·have e:d (Fg fx cs) (σ.fr env.locals env.cells A0).o=d (Fg fx cs) σ.o:=rfl
  rw[e]at h
  revert hn hQ h
  generalize d (Fg fx cs) σ.o=r
  intro hn hQ h
  cases h with
  |next _=>exact sp (c:= .none) (r:=Gn _ _) ok hk hL hX st A6 rfl rfl hn hQ
  |brk _=>exact absurd rfl hn
  |ret h _=>exact sp (r:=Gn _ _) ok hk hL hX st A6 h rfl hn hQ
 ·have e:d (Fg fx cs) σ.o=_:=e
  rw[e]at hn hE
  cases c with
  |exc cls BM=>
   by_cases Dm:(τ.o.take σ.o.length).all (H' σ.o.length)=AC
   ·have e2:Gn σ.o.length (.err (.exc cls BM) vs τ.o)= .err (.exc cls BM) (τ.o.take σ.o.length):=if_pos Dm
    rw[e2]at hE
    exact qP (σ:=σ) KJ ((jk.step st).fr KJ) A6 (yc st) (hx.old λa h=>match e:σ.h.get? a with
     |none=>rfl
     |some o=>Bt (hk a o e) h) λR0 N s' lv h=>hE _ _ (σ.lv N (τ.o.take σ.o.length) s') rfl (lv.step ok hk hL hX st A6) (lv.fine ok hk hL hX st A6 Dm) (h.lv ok (λa h=>st.mono a (.inl h)) lv _)
   ·exact absurd (if_neg Dm) hn
  |_=>exact absurd rfl hn
end
end
section
variable{fx:Fx}{n:AQ}{pos p1 p2:BK}{e l r x y:Ab}{es:List Ab}{f g:List CV->AL->R CV}{kd:Nat}
section
variable{env:A7}{AI:AY}{ss:List Bd}
noncomputable def CM(fx:Fx)(ps:List AQ)(E6:List CV)(d:DS):List CV->AL->R CV:=λcs objs=>if(cs++E6).length=ps.length then Gn objs.length (d (Fg fx (cs++E6)) objs)else .no
noncomputable def Ct(fd:GG)(ps kws:List AQ)(E6:List CV):Prop:=∃VK:List AE,(∀σ,Vs σ E6 VK)/\
 ∀(s:AN) (vs ks:List AE),(∀b o,BH.heap.get? b=AA o->s.heap.get? b=AA o)->ks.length=kws.length->(vs++ks++VK).length=ps.length->G2 s fd ⟨vs,kws.zip ks⟩ (ps.zip (vs++ks++VK))
theorem D3{a:AK}{fd:GG}{ps cn kws:List AQ}{E6:List CV}{body:List Bd}{d:DS}(fo:Dp fx)(F:DN a fd fx ps cn body)(yb:Ct fd ps kws E6)(hb:Dy m k q fx body d):Bi m (k+1) q (.ref a) kws (CM fx ps E6 d):=λA σ cs vs ks hR ok hv hl=>
 have⟨VK,hd,Zd⟩:=yb
 .ite λBh hn ht Q E hQ hE=>gb (Ai2 fo F hb hR ok (hv.append (hd σ)) Bh (Zd σ.s vs ks ok.keep hl ((hv.append (hd σ)).len▸Bh)) hn ht Q E hQ hE)
inductive AF9(C:AK)(mN:AQ->Option AE):Prop
 |mk N nm q bs sn sub col dd k0 k1 k2 k3 k5 (h1:BH.heap.get? C=AA (i7 nm q C N bs [.type "object"] AC sn sub AD col dd k0 k1 k2 k3 k5 "object.__new__")) (h2:BH.heap.Ns N mN)
structure SA(C:AK)(mN:AQ->Option AE):Prop where
 obj:AF9 C mN
 ga:mN "__getattribute__"=AB
 gt:mN "__getattr__"=AB
 sa:mN "__setattr__"=AB
noncomputable def Xc:CO->Option (AK×AQ×Option CV)
 | .inst c fn f=>AA (c,fn,f)
 |_=>AB
noncomputable def Sc:=WR Xc
inductive AH9(σ:St)(d:Nat×AK×AQ×Option CV)(v:AE):Prop
 |mk (p:AK×AK) (e:v= .ref p.1) (hp:σ.W.ρ[d.1]? =AA p) (h:GN σ (.inst d.2.1 d.2.2.1 d.2.2.2) p)
theorem gQ:Vw Sc AH9:=λ{σ c a v} ok e h=>by
 obtain⟨x,rfl,e1,e2⟩:=a9 e
 obtain⟨p,rfl,hp,hr⟩:=ok.obj h e1
 obtain⟨i,d⟩:=a
 cases x<;>cases e2
 exact⟨p,rfl,hp,hr⟩
noncomputable def Cz(C:AK)(name:AQ)(objs:AL)(c:CV):Bool:=(Sc objs c).elim AD λd=>decide (d.2.1=C/\d.2.2.1≠name)
structure PO(C:AK)(mN:AQ->Option AE)(name:AQ)(f:AK):Prop where
 cls:SA C mN
 at_:mN name=AA (.ref f)
 fn:∃of,BH.heap.get? f=AA of/\of.cls= .type "function"
 hB:∃y:Option AE,JS (.type "object") name=Ax y
theorem pk{C:AK}{name:AQ}{c:CV}{u:AE}(ok:Ok σ)(hv:V σ c u)(hi:Cz C name σ.o c=AC):∃x mA,u= .ref x/\σ.h.Inst x C mA/\mA name=AB:=by
 unfold Cz at hi
 cases e:Sc σ.o c with
 |none=>rw[e]at hi;first|exact Af hi|cases hi
 |some d=>
  rw[e]at hi
  obtain⟨hC,B3⟩:=of_decide_eq_true hi
  obtain⟨p,rfl,hp,ob,mm,h1,h2,h3,h4,h5,h6,h7⟩:=gQ ok e hv
  refine⟨p.1,mm,rfl,hC▸⟨ob,h1,h2,h5, .inr ⟨p.2,h3,h4,h6⟩⟩,?_⟩
  cases ef:d.2.2.2 with
  |none=>rw[ef]at h7;exact h7 name
  |some v=>rw[ef]at h7;obtain⟨u,h8,_⟩:=h7;rw[h8 name,if_neg λq=>B3 q.symm]
theorem TN{C f:AK}{mN:AQ->Option AE}{name:AQ}{ns:List AQ}(M:PO C mN name f)(hk:G_ (.ref f))(hg:Bi m k q (.ref f) ns g):DH m k q name (Cz C name) (.ref f) ns g:=⟨λ{σ c u} ok hv hi=>⟨λA pl Q E h=>by
 refine B7 (pk ok hv hi) λx mA aK=>?_
 obtain rfl:=aK.1
 obtain⟨N,nm,q,bs,sn,sub,col,dd,k0,k1,k2,k3,k5,Lh,hN⟩:=M.cls.obj
 refine A3 (M.fn) λof lM=>?_
 obtain⟨y,hy⟩:=M.hB
 exact method_of (ok.keep _ _ Lh) (hN.keeps ok.keep) M.cls.ga M.cls.gt M.at_ (ok.keep _ _ lM.1) lM.2 hy aK.2.1 aK.2.2 h⟩,hk,hg⟩
noncomputable def eG(c:CV):Bool:=DX c AD (zo:=λ_=>AC) (zl:=λ_=>AC) (zt:=λ_=>AC) (zd:=λ_ _=>AC)
theorem Ao7{c:CV}{v:AE}(hv:V σ c v)(e:eG c=AC):∃a,v= .ref a:=by
 have h:∀{P Q},EV P Q v->∃a,v= .ref a:=λh=>by obtain⟨a,_,e,_⟩:=h;exact⟨a,e⟩
 cases c with
 |obj=>exact hv.imp' _ λ_ h=>h.2
 |lst|tup|dct=>exact h hv
 |_=>first|exact Af e|cases e
noncomputable def fD(C:AK)(name:AQ)(objs:AL)(c:CV):Option CV:=(Sc objs c).bind λd=>if d.2.1=C/\d.2.2.1=name then d.2.2.2.bind λv=>if eG v=AC then AA v else AB else AB
noncomputable def Hk(C:AK)(name:AQ)(a:D):D:=λAI objs=>(a AI objs).bind λc h=>(fD C name h c).elim .no λv=> .ok v h
structure PN(C:AK)(mN:AQ->Option AE)(name:AQ):Prop where
 cls:SA C mN
 no:mN name=AB
 hB:JS (.type "object") name=Ax AB
theorem BJ9{name:AQ}{C:AK}{mN:AQ->Option AE}{a:D}(IF:PN C mN name)(ho:Aj m k q fx (.Name n p1) a):Aj m k q fx (.Attribute (.Name n p1) name pos) (Hk C name a):=λA env σ AI p=>by
 refine Ev.bind (f:=λo=>GI pos.atName>>=λ_=>HY [o] (getAttr o name AC)>>=λr=>U8 (.Name n p1) o r>>=λ_=>Ax r) (ho _ _ _ _ p) λc u τ st ok h=> .stand (.opt λv e=>?_)
 have hg:Ev m V A (getAttr u name AC) τ (.ok v τ.o):= .of λ_ Q E hQ _=>by
  obtain⟨d,e1,e2⟩:=C5.mp e
  obtain⟨i,C',fn,f⟩:=d
  have e2:(if C'=C/\fn=name then f.bind λv=>if eG v=AC then AA v else AB else AB)=AA v:=e2
  obtain⟨⟨rfl,rfl⟩,e5⟩:=QP e2
  obtain⟨v',rfl,e4⟩:=C5.mp e5
  obtain⟨hc,e4⟩:=QP e4
  cases e4
  obtain⟨pp,rfl,hp,ob,mm,h1,h2,h3,h4,h5,h6,h7⟩:=gQ ok e1 h
  obtain⟨u,h7,h8⟩:=h7
  obtain⟨b,rfl⟩:=Ao7 h8 hc
  obtain⟨N,nm,q',bs,sn,sub,col,dd,k0,k1,k2,k3,k5,Lh,hN⟩:=IF.cls.obj
  exact load_attr (ok.keep _ _ Lh) (hN.keeps ok.keep) IF.cls.ga IF.no IF.hB (mA:=mm) ⟨ob,h1,h2,h5, .inr ⟨pp.2,h3,h4,h6⟩⟩ ((h7 _).trans (if_pos rfl)) rfl (hQ.tk (t:=τ.s.toks+1) rfl ok ((Kp.tk τ _).v _ h8))
 exact hg.holding.post λa v τ st ok h=> .leaf () (λQ E h=>Aa h) (.ret ok h)
noncomputable def ri(C:AK)(name:AQ)(x c:CV)(o:AL):R Unit:=(Sc o x).elim .no λd=>if d.2.1=C/\d.2.2.1=name/\d.2.2.2.isNone=AC then .ok () (o.set d.1 (.inst C name (AA c)))else .no
theorem Ac3{name:AQ}{C:AK}{mN:AQ->Option AE}{x c:CV}{ov v:AE}(IF:PN C mN name)(ok:Ok σ)(hx:V σ x ov)(hc:V σ c v):Ev m rU A (setAttr ov name v) σ (ri C name x c σ.o):= .opt λd e=> .ite λhd=> .of λ_ Q E hQ _=>by
 obtain⟨i,C',fn,f⟩:=d
 obtain⟨rfl,rfl,hf⟩:=hd
 cases Option.isNone_iff_eq_none.mp hf
 obtain⟨p,rfl,hp,ob,mm,h1,h2,h3,h4,h5,h6,h7⟩:=gQ ok e hx
 obtain⟨N,nm,q',bs,sn,sub,col,dd,k0,k1,k2,k3,k5,Lh,hN⟩:=IF.cls.obj
 have zj:p.1≠C':=λz=>Bt Lh (z▸(ok.Mlt _ (ok.omM _ (Wd.om_mem hp).1).1).2)
 refine store_attr (ns:=[]) PySem.F.store_object (ok.keep _ _ Lh) (hN.keeps ok.keep) IF.cls.sa IF.no IF.hB zj (mA:=mm) ⟨ob,h1,h2,h5, .inr ⟨p.2,h3,h4,h6⟩⟩ (λh' PH I' Vd KU=>?_) (λy hy=>absurd (h7 y) hy) (by decide)
 refine A3 (KU ob h1) λBi1 lZ=>?_
 obtain⟨o',e',xw,nc',G5⟩:=I'
 cases D0 e' lZ.1
 have Zh:=lZ.2.2.2.2 _ h3
 have Ik:h'.Ns1 p.2 (λy=>if y=fn then AA v else mm y):=by
  rcases G5 with⟨My,_⟩|⟨d',G5,_,Zu⟩
  ·rw[Zh]at My;first|exact Af My|cases My
  ·rw[Zh]at G5;cases G5;exact Zu
 have kk:∀a o,σ.h.get? a=AA o->a≠p.1->a≠p.2->h'.get? a=AA o:=λa o h z1 z2=>Vd a o z1 (λBi0 dx e0 ed=>by cases D0 h1 e0;rw[h3]at ed;cases ed;exact z2) h
 have E7:∀a o,σ.h.get? a=AA o->∃o',h'.get? a=AA o':=λa o h=>by
  by_cases z1:a=p.1
  ·exact z1▸⟨_,e'⟩
  ·by_cases z2:a=p.2
   ·subst z2;exact Ik.imp λ_ h=>h.elim λ_ h=>h.elim λ_ h=>h.1
   ·exact⟨o,kk a o h z1 z2⟩
 exact hQ () () ⟨σ.W,σ.o.set i (.inst C' fn (AA c)),{σ.s with heap:=h',toks:=PH}⟩ rfl (Av.set (X:=HJ) (s':={σ.s with heap:=h',toks:=PH}) (o':=σ.o.set i (.inst C' fn (AA c))) hp E7 kk) (ok.set (s':={σ.s with heap:=h',toks:=PH}) (o':= .inst C' fn (AA c)) hp E7 kk rfl rfl ⟨_,_,e',xw,Zh,h4,nc',Ik,v,λx=>by by_cases z:x=fn;rw[if_pos z,if_pos z];rw[if_neg z,if_neg z];exact h7 x,(ok.kp (Av.set (X:=HJ) (s':={σ.s with heap:=h',toks:=PH}) (o':=σ.o.set i (.inst C' fn (AA c))) hp E7 kk)).v _ hc⟩) trivial
noncomputable def dY(C:AK)(name:AQ)(b:D):DG:=λc AI objs=>(b AI objs).s AI λx o1=>(ri C name x c o1).s AI λ_ o2=> .next AI o2
theorem BH7{name:AQ}{C:AK}{mN:AQ->Option AE}{b:D}(IF:PN C mN name)(hb:Aj m k q fx e b):DU m k q fx (.Attribute e name pos) (dY C name b):=λA env σ AI c v p hv=>by
 exact .bind (hb _ _ _ _ p).holding p λx u τ st p1 hx=> .stand (.bind (Ac3 IF p1.ok hx ((p.ok.kp st).v _ hv)).holding p1 λ_ _ Jc BF p3 _=> .of λ_ Q E hQ _=>jM (hQ _ _ (.refl ..) p3.ok (.next p3.e)))
noncomputable def mX(c:CV):Bool:=DX c AD (zn:=AC)
noncomputable def Pp(C:AK)(fn:AQ)(g:List CV->AL->R CV):List CV->AL->R CV:=λcs objs=>match g (.obj objs.length::cs) (objs++[.inst C fn AB])with
 | .ok c o=>if mX c=AC then .ok (.obj objs.length) o else .no
 |_=> .no
theorem Bs.under(h:Bs A (k+1) q σ)(C:AK)(vs:List AE):Bs (A.under (.builtin "type.__call__" ⟨.ref C::vs,[]⟩)) k q σ:=by
 have h1:=h.depth
 have h2:=h.units
 exact⟨show A.depth+1+10*k<=990 from QE (by decide) h1,show A.units+1+300*k<=9000 from QE (by decide) h2,h.hand,h.frames⟩
theorem nJ{C f:AK}{fn:AQ}{mN:AQ->Option AE}(X:SA C mN)(hi:mN "__init__"=AA (.ref f))(hf:∃of,BH.heap.get? f=AA of/\of.cls= .type "function")(hg:Bi AD k q (.ref f) [] g):
  Bi m (k+1) q (.ref C) [] (Pp C fn g):=BA.callP λA σ cs vs hR ok hv hn ht Q E hQ hE=>wq.of (by
 obtain⟨N,nm,q',bs,sn,sub,col,dd,k0,k1,k2,k3,k5,Lh,hN⟩:=X.obj
 refine A3 (hf) λof kg=>?_
 refine wpAny_call_obj_init PySem.F.objNew (ok.keep _ _ Lh) (hN.keeps ok.keep) hi (ok.keep _ _ kg.1) kg.2 λh' x dx Mk=>?_
 refine A3 (Mk.inst) λox O'=>?_
 have Rg:=Mk.dict ox O'.1
 have Zf:dx≠x/\h'.Ns1 dx λ_=>AB:=by
  rcases O'.2.2.2 with⟨My,_⟩|⟨d',G5,B3,Zu⟩
  ·rw[My]at Rg;first|exact Af Rg|cases Rg
  ·rw[Rg]at G5;cases G5;exact⟨B3,Zu⟩
 have st:=Av.add (X:=HJ) (p:=(x,dx)) (s':={σ.s with heap:=h'}) (o':=σ.o++[.inst C fn AB]) Mk.newX Mk.newD Mk.keeps
 have A6:=ok.add (p:=(x,dx)) (s':={σ.s with heap:=h'}) (o':= .inst C fn AB) Mk.newX Mk.newD ⟨_,O'.1⟩ (Zf.2.imp λ_ h=>h.elim λ_ h=>h.elim λ_ h=>h.1:∃o,h'.get? dx=AA o) Mk.keeps rfl rfl ⟨ox,_,O'.1,O'.2.1,Rg,Zf.1,O'.2.2.1,Zf.2,λ_=>rfl⟩
 have O6:V ⟨σ.W.add (x,dx),σ.o++[.inst C fn AB],{σ.s with heap:=h'}⟩ (.obj σ.o.length) (.ref x):=⟨(x,dx),Wd.add_at ok.len,rfl⟩
 unfold Pp at hn hQ hE
 refine((hg _ _ (.obj σ.o.length::cs) (.ref x::vs) [] ((hR.under C vs).step st) A6 ⟨_,_,rfl,O6,by show Vs _ _ (vs++[]);rw[BJ];exact(ok.kp st).vs _ hv⟩ rfl).run (λz=>hn (by rw[z])) ht (λa v τ e BF BE _ h=>?_) λc v τ e=>?_:wq AD Ak _ _ _ _ _).any
 ·have e:g (.obj σ.o.length::cs) (σ.o++[.inst C fn AB])=_:=e
  rw[e]at hn hQ
  by_cases hc:mX a=AC
  ·cases a<;>cases hc
   exact⟨h,hQ _ _ τ rfl (st.trans BF) BE ((A6.kp BF).v _ O6)⟩
  ·exact absurd (if_neg hc) hn
 ·have e:g (.obj σ.o.length::cs) (σ.o++[.inst C fn AB])=_:=e
  rw[e]at hn;exact absurd rfl hn)
end
section
variable{env:A7}{AI:AY}{st:Bd}{ss:List Bd}
section
noncomputable def Pi:DS:=λ_ _=> .no
theorem BM5:DV m k q fx st Pi:=λ_ _ _ _ _ hn=>absurd rfl hn
noncomputable def So:D:=λ_ _=> .no
theorem BM4:Aj m k q fx e So:=λ_ _ _ _ _ hn=>absurd rfl hn
noncomputable def R.opt(r:R α):Option (α×AL):=match r with
 | .ok a o=>AA (a,o)
 |_=>AB
noncomputable def XM(r:RS)(f:DS):RS:=match r with
 | .next v o=>f v o
 | .brk v o=> .next v o
 | .ret c o=> .ret c o
 |_=> .no
noncomputable def IQ(t:DT)(b:DS)(n:Nat):DS:=Y0 Pi (λ_ w v o=>(t v o).opt.elim .no λp=>if p.1=AC then XM (b v p.2) w else .next v p.2) n
theorem R.opt_some{r:R α}{p:α×AL}(h:r.opt=AA p):r= .ok p.1 p.2:=by
 cases r<;>cases h
 rfl
section
variable{t:DT}{b:DS}{σ₀:St}{r:RS}{R:EQ->AN->Prop}
inductive WJ(A:BZ)(k:Nat)(fx:Fx)(env:A7)(σ₀:St)(t:DT)(b:DS)(r:RS)(n:Nat)(s:AN):Prop
 |mk (σ:St) (AI:AY) (e:σ.s=s) (p:BW A k AC fx env σ AI) (st:Av (DB env) σ₀ σ) (hr:IQ t b n AI σ.o=r) (ht:0<σ.s.toks)
theorem Bd6(zX:Eh m k AC fx e t)(hb:Dy m k AC fx ss b)(hn:r≠ .no)(hR:∀f τ,Av (DB env) σ₀ τ->Ok τ->FR fx env r τ f->R (.ok f) τ.s){N:Nat}{s:AN}(h:WJ A k fx env σ₀ t b r N s):Dg m Ak A (.whileLoop e ss [] env) R s:=by
 refine bV rfl (WJ A k fx env σ₀ t b r) (λn s h=>?_) N h
 obtain⟨σ,AI,rfl,p,st,hr,ht⟩:=h
 cases n with
 |zero=>exact absurd hr.symm hn
 |succ n=>
  have hr:(t AI σ.o).opt.elim .no (λp=>if p.1=AC then XM (b AI p.2) (IQ t b n)else .next AI p.2)=r:=hr
  cases e1:(t AI σ.o).opt with
  |none=>rw[e1]at hr;exact absurd hr.symm hn
  |some c=>
   rw[e1]at hr
   show wq m Ak A ((whileTurn e ss [] env).onRaise _) _ _ σ.s
   refine QZ (OC (E:=λ_ _=>False) ?_ (λ_ _ q=>q) λ_ _ h=>h.elim)
   unfold whileTurn
   refine Bm ((zX _ _ _ _ p).run (by rw[(Mine.R.opt_some e1)];nofun) ht (λa v τ e2 Io Fd Fv x=>?_) λc v τ e2=>by rw[(Mine.R.opt_some e1)]at e2;cases e2)
   subst x
   rw[(Mine.R.opt_some e1)]at e2
   obtain⟨c1,c2⟩:=c
   cases e2
   have p1:=p.step Io Fd
   have V9:=st.trans Io.up
   cases c1 with
   |false=>exact Bm (EM (EM (hR .next τ V9 Fd (hr▸ .next p1.e))))
   |true=>
    have hr:XM (b AI τ.o) (IQ t b n)=r:=hr
    refine Bm ((hb _ _ _ _ p1).run (λz=>by rw[z]at hr;exact hn hr.symm) Fv (λf υ BF BE Zz h=>?_) λc v vs υ e2=>by rw[e2]at hr;exact absurd hr.symm hn)
    revert hr h
    generalize b AI τ.o=rb
    intro hr h
    revert hr
    cases h with
    |next e=>exactλhr=>EM (.inl ⟨rfl,n,J5 n, .mk υ _ rfl (p1.go BF BE e) (V9.trans BF) hr Zz⟩)
    |brk e=>exactλhr=>EM (hR .next υ (V9.trans BF) BE (hr▸ .next e))
    |ret h e=>exactλhr=>EM (hR (.ret _) υ (V9.trans BF) BE (hr▸ .ret h e))
end
theorem BO2{t:DT}{b:DS}(fuel:Nat)(ht:Eh m k AC fx e t)(hb:Dy m k AC fx ss b):DV m k AC fx (.While e ss [] pos) (IQ t b fuel):=λA env σ AI p=>
 .stand λhn CA Q E hQ hE=>gc (Bd6 ht hb hn (λf Jc FO Hd h=>hQ f Jc FO Hd h) (.mk σ AI rfl p (.refl ..) rfl CA))
inductive AG2(C:AK):Prop
 |mk nm q N bs bm hdct sn sub ab col dd k0 k1 k2 k3 k5 Z9 B kV ZU mN (h1:BH.heap.get? C=AA (i7 nm q C N bs bm hdct sn sub ab col dd k0 k1 k2 k3 k5 Z9)) (h2:BH.heap.Ns N mN) (h3:OwnTail BH.heap ZU bm) (h4:ExcBaseFacts B Z9 kV ZU) (h5:bm.contains (.type "BaseException")=AC) (h6:mN "__init__"=AB)
structure SF(C:AK):Prop where
 ex:AG2 C
noncomputable abbrev St.mk'(σ:St)(a:AK)(h':BS):St:={W:={ρ:=σ.W.ρ,M:=λb=>σ.W.M b\/b=a,F:=σ.W.F},o:=σ.o,s:={σ.s with heap:=h'}}
theorem K8{h':BS}{a:AK}{cls v:AE}{t:T}(ok:Ok σ)(hv:V σ (.str t) v)(hx:IC cls=AC)(hm:Q2 σ.h h' a cls [v]):Lt σ (σ.mk' a h')/\Ok (σ.mk' a h')/\HB σ (σ.mk' a h') (.exc cls (AA t)) (.ref a):=by
 refine A3 (hm.there) λtp AD2=>?_
 obtain⟨h1,h2,h3⟩:=AD2
 obtain⟨tk,rfl⟩:=hv
 have hk:=hm.keeps
 have st:Lt σ (σ.mk' a h'):=⟨⟨[],(BJ _).symm⟩,λ_ h=> .inl h,λb h=>h.imp id λe:b=a=>e▸hm.new,λ_ h=> .inl h,λ_=>Fh,λb o h=>⟨o,hk b o h⟩,λb o h _ _=>⟨λ_=>hk b o h,o.slots,hk b o h⟩⟩
 refine⟨st,⟨ok.len,ok.dist,λb h=>⟨.inl (ok.omM b h).1,(ok.omM b h).2⟩,λb h=>⟨.inl (ok.FM b h).1,(ok.FM b h).2.imp λ_ h=>h.imp λ_ h=>h.imp λ_ h=>⟨hk _ _ h.1,h.2⟩⟩,λb h=>h.elim (λh=>⟨(ok.Mlt b h).1.imp λ_ h=>hk b _ h,(ok.Mlt b h).2⟩) λe=>by subst e;exact⟨⟨_,h1⟩,ok.none_of hm.new⟩,λb o h=>hk b o (ok.keep b o h),ok.gens,ok.os,λi o p hi hp=>(ok.rel i o p hi hp).kp (ok.kp st) (hk _) (hk _)⟩,⟨a,rfl, .inr rfl,λz=>(λh=>Fa (ok.Mlt _ h).1 hm.new:∀{b},σ.W.M b->b≠a) (ok.omM _ z).1 rfl,λz=>(λh=>Fa (ok.Mlt _ h).1 hm.new:∀{b},σ.W.M b->b≠a) (ok.FM _ z).1 rfl,hx,_,_,tp,_,0,h1,rfl,rfl,rfl,⟨h3,λz=>z.elim (λz=>Fa (ok.Mlt _ z).1 h2 rfl) λz=>?_⟩,λm' zA=>?_⟩,a,_,_,rfl,hm.new,h1,rfl, .none rfl⟩
 ·have h3:h'.get? tp=AA {cls:= .type "tuple",data:= .seq [U0 (AU t) tk].toArray}:=h3
  rw[z,h1]at h3;first|exact Af h3|cases h3
 ·cases zA;exact⟨tk,rfl⟩
noncomputable def HF(cls:AE)(a:D):DS:=λAI o=>(a AI o).s AI λc o'=>(BX o' c).elim .no λt=> .err (.exc cls (AA t)) AI o'
theorem Ac7{E:AE->AN->Prop}{s:AN}{f:AE}{Q:HW->AN->Prop}(he:CX (e::es) env=(AD,B_ e env)::CX es env)
  (h:Ac Ak A (ZO (Dd pos (CX (e::es) env))) (λvs s'=>Q {pos:=vs} s') E s):Ac Ak A (Mi f AC (Dd pos (CX (e::es) env)) []) Q E s:=by
 rw[he]at h⊢
 exact wv h
structure SR(cls:AE):Prop where
 x:IC cls=AC
 h:∀{A:BZ} {n:AQ} {p1 p2 pos:BK} {args:List Ab} {env:A7} {Q:Flow->AN->Prop} {E:AE->AN->Prop} {s:AN},A.handled=AB->(Dd p2 (CX args env)).any (·.1)=AD->
  Ac Ak A (B_ (.Name n p1) env) (λf A0=>f=cls/\Ac Ak A (Mi cls AC (Dd p2 (CX args env)) []) (λa E8=>a.kw=[]/\a.pos.length<=FI/\(∀b o,BH.heap.get? b=some o->E8.heap.get? b=some o)/\
   ∀h' e,Q2 E8.heap h' e cls a.pos->E (.ref e) {E8 with heap:=h'}) E A0) E s->Ac Ak A (exec (.Raise (some (.Call (.Name n p1) args [] p2)) AB pos) env) Q E s
theorem SF.raise{C:AK}(W:SF C):SR (.ref C):=⟨rfl,λhh hp h=>by
 obtain⟨nm,q,N,bs,bm,hdct,sn,sub,ab,col,dd,k0,k1,k2,k3,k5,Z9,B,kV,ZU,mN,hC,hN,hT,hF,hB,hi⟩:=W.ex
 refine wpAny_Raise_call_subT (C:=C) (nm:=nm) (q:=q) (N:=N) (bs:=bs) (hdct:=hdct) (sn:=sn) (sub:=sub) (ab:=ab) (col:=col) (dd:=dd) (k0:=k0) (k1:=k1) (k2:=k2) (k3:=k3) (k5:=k5) hF hB hh hp hi (J' h (λf A0 h=>⟨h.1,J' h.2 (λa E8 h=>?_) λ_ _ h=>h⟩) λ_ _ h=>h)
 exact⟨h.1,h.2.1,h.2.2.1 _ _ hC,hN.keeps h.2.2.1,hT.keeps h.2.2.1,h.2.2.2⟩⟩
theorem BC1:SR (.type "ValueError"):=⟨rfl,λhh hp h=>wpAny_Raise_call F.excCall_ValueError F.excRaise_ValueError hh hp (J' h (λf A0 h=>⟨h.1,J' h.2 (λa E8 h=>⟨h.1,h.2.1,λh' e hm=>h.2.2.2 h' e ⟨hm.keeps,hm.new,hm.there⟩⟩) λ_ _ h=>h⟩) λ_ _ h=>h)⟩
theorem BC2{a:D}{o:AL}{F:CV->AL->RS}(h:(a AI o).s AI F≠ .no):((a AI o).bind λx h=>(.ok [x] h:R (List CV)))≠ .no:=λz=>h (by cases e:a AI o<;>rw[e]at z<;>first|rfl|cases z)
theorem BN2{cls:AE}{a:D}(W:SR cls)(hx:Aj AD k AC fx (.Name n p1) (AG (.top cls)))(ha:Aj AD k AC fx e a)
  (he:∀env,CX [e] env=(AD,B_ e env)::CX [] env) (Rs:∀env,(Dd p2 (CX [e] env)).any (·.1)=AD):
  DV m k AC fx (.Raise (AA (.Call (.Name n p1) [e] [] p2)) AB pos) (HF cls a):=λA env σ AI p hn ht Q E hQ hE=>wq.of (by
 unfold HF at hn hE
 refine W.h (p.r.hand rfl) (Rs env) (((hx _ _ _ _ p).run nofun ht (λc v τ e1 st ok ht h=>?_) λc v τ e1=>nomatch e1:wq AD Ak _ _ _ _ _).any)
 injection e1 with e1 e3
 subst e1
 refine⟨h,?_⟩
 have p1:=p.step st ok
 have hE:=hE.after st.up
 rw[e3]at hn hE
 have hl:Ev AD Vs A (ZO (Dd p2 (CX [e] env))) τ ((a AI τ.o).bind λx h=> .ok [x] h):=tH ha tI he p2 _ _ _ _ p1
 refine Ac7 (he env) ((hl.run (BC2 hn) ht (λcs x υ e2 BF BE _ hv=>?_) (λc v υ e2 BF BE h2=>?_):wq AD Ak _ _ _ _ _).any)
 ·cases e:a AI τ.o with
  |ok c o=>
   rw[e]at e2 hn hE
   cases e2
   obtain⟨d,e4⟩:∃d,BX υ.o c=AA d:=Option.ne_none_iff_exists'.mp λe4=>hn (show(BX υ.o c).elim RS.no _=_ by rw[e4];rfl)
   refine B7 (hv) λv _ NA=>?_
   obtain rfl:=NA.1
   obtain rfl:=NA.2.2
   refine⟨rfl,show 1<=FI by decide,BE.keep,λh' ex hm=>?_⟩
   exact hE _ _ AI (υ.mk' ex h') (show(BX υ.o c).elim RS.no _=_ by rw[e4];rfl) (BF.trans (K8 BE (vS BE e4 NA.2.1) W.x hm).1).up (K8 BE (vS BE e4 NA.2.1) W.x hm).2.1 ((p1.step BF BE).step (K8 BE (vS BE e4 NA.2.1) W.x hm).1 (K8 BE (vS BE e4 NA.2.1) W.x hm).2.1).e ((K8 BE (vS BE e4 NA.2.1) W.x hm).2.2.after BF)
  |_=>rw[e]at e2;first|exact Af e2|cases e2
 ·cases e:a AI τ.o with
  |err c' o=>rw[e]at e2 hE;cases e2;exact hE c _ AI υ rfl BF.up BE (p1.step BF BE).e h2
  |_=>rw[e]at e2;cases e2)
end
end
end
section
variable{fx:Fx}{n:AQ}{pos p1 p2:BK}{l r x y:Ab}{es:List Ab}{f g:List CV->AL->R CV}{kd:Nat}{env:A7}{AI:AY}{st:Bd}{ss:List Bd}
section
variable{E:AE->AN->Prop}{s:AN}
theorem BV1(v:AE):∃rest:AE->Ao Fin,Builtin.«type.__call__» ⟨[.type "int",v],[]⟩=(HY [.builtin "int.__new__"] (call (.builtin "int.__new__") [.type "int",v] [])>>=rest):=by
 unfold Builtin.«type.__call__»
 dsimp only
 rw[if_neg (by rw[(Uu.notType)];decide),if_neg (by rw[(Uu.canCreate)];decide),(F.typeCall_int_1 v),Fj,(F.mro_int),Fj,if_neg (by decide),(Uu.made),Fj]
 exact⟨_,rfl⟩
theorem An5(x:AQ)(u:Cg):∃rest:AE->Ao Fin,Builtin.«int.__new__» ⟨[.type "int", .str x u],[]⟩=((int_private% "intFromObject") (.str x u)>>=rest):=by
 unfold Builtin.«int.__new__»
 dsimp only
 rw[(by rfl:isType (.type "int")=Ax AC),Fj,(F.conv_sub_int),(F.madeHere_int)]
 exact⟨_,rfl⟩
theorem An4(x:AQ)(u:Cg):(int_private% "intFromObject") (.str x u)=(int_private% "intFromText") (.str x u) (numTextOf x) 10:=by
 have f6:Ld (.str x u)=Ax (.type "str"):=rfl
 have c1:∀a b,i4 (.str x u) "__int__" a b=Ax AB:=λa b=>by unfold i4 VB;rw[f6,Fj,(KIN.str_int)];rfl
 have c2:VB (.str x u) "__index__"=Ax AB:=by unfold VB;rw[f6,Fj,(KIN.str_idx)]
 have c3:VB (.str x u) "__trunc__"=Ax AB:=by unfold VB;rw[f6,Fj,(KIN.str_trunc)]
 k_delta "intFromObject"
 dsimp only
 rw[c1,Fj]
 rw[c2,Fj]
 rw[c3,Fj]
 rw[if_neg (by decide)]
 have c4:(int_private% "numeralText?") (.str x u)=Ax (AA (numTextOf x)):=by
  k_delta "numeralText?"
  rfl
 rw[c4,Fj]
theorem sj(x:AQ)(hl:x.length<=640)(hc:∀c∈x.cps.toList,c<16^8):(reprText x).length<=FI:=by
 have h:=StrLaws.reprText_len x hc
 have h4:FI=16777216:=rfl
 exact AO h (AO (C3 (DM 10 hl) 2) (by decide))
theorem ry{x:AQ}{u:Cg}{Q:AQ->AN->Prop}(hx:(reprText x).length<=FI)(h:Q (reprText x) {s with toks:=s.toks+1}):Ac Ak A (pyRepr (.str x u)) Q E s:=by
 unfold pyRepr
 refine AR (pyReprObj_str ?_ hx)
 k_delta "charactersOf"
 exact Aa h
theorem BS4(x:AQ)(u:Cg)(hl:x.length<=640)(hc:∀c∈x.cps.toList,c<16^8)(hn:FH x=AB){Q:AE->AN->Prop}
  (h:∀h' e m tk,xN s.heap h' e "ValueError" [.str m tk]->E (.ref e) {s with heap:=h',toks:=s.toks+2}) (hh:A.handled=AB):
  wq AC Ak A ((int_private% "intFromText") (.str x u) (numTextOf x) 10) Q E s:=by
 have hs:(numSeenOf x).length<=640:=AO (seen_length x) hl
 have cb:(int_private% "bytesOf?") (.str x u)=Ax AB:=by
  k_delta "bytesOf?"
  rfl
 k_delta "intFromText"
 dsimp only
 rcases read0 x hs with⟨m,h1,_⟩|⟨_,h1⟩
 ·rw[hn]at h1;first|exact Af h1|cases h1
 rw[if_pos hs,Fj]
 have Ip:∀sh:AQ,wq AC Ak A (do
   let a<-mkStr (CR (Ey "invalid literal for int() with base "++Ey 10++Ey ": ")++({cps:=sh.cps.extract 0 200}:AQ))
   let ln<-newExc (OZ "ValueError") [a]
   i_ ["int.__new__"] ln
   raiseNew ln:Ao AE) Q E {s with toks:=s.toks+1}:=by
  intro sh
  refine Bm (wq.of (wpAny_mkStr ?_ ?_))
  ·refine Bm (wq.of (wpAny_newExc_plain plainExc_ValueError (λh' e hm=>?_) (by show 1<=FI;decide)))
   refine Bm (Bf0 ?_)
   exact wq.of (wpAny_raiseNew_none hh (h h' e _ _ hm))
  ·have h1:(CR (Ey "invalid literal for int() with base "++Ey 10++Ey ": ")).length=40:=by decide+kernel
   have h2:(sh.cps.extract 0 200).size<=200:=by rw[YT];exact AO (Um _ _) (Qs _ _)
   show((CR (Ey "invalid literal for int() with base "++Ey 10++Ey ": ")).cps++(sh.cps.extract 0 200)).size<=16777216
   have yK:(CR (Ey "invalid literal for int() with base "++Ey 10++Ey ": ")).cps.size=40:=h1
   rw[Array.size_append,yK]
   exact AO (EP (by assumption) _) (by decide)
 rcases h1 with h1|⟨i,h1,h2⟩
 ·rw[h1]
  dsimp only
  rw[cb,Fj,wU,gk,if_neg (by decide)]
  refine Bm (wq.of (Hb ?_))
  rw[Fj]
  exact Bm (wq.of (ry (sj x hl hc) (Ip _)))
 ·rw[h1]
  dsimp only
  rw[if_neg h2]
  refine Bm (wq.of (Hb ?_))
  rw[cb,Fj]
  exact Bm (wq.of (ry (sj x hl hc) (Ip _)))
theorem nY{id:String}{args:HW}{B:B9}{R:EQ->AN->Prop}(he:Mh JQ id=AA B)
  (h:wq AC Ak (A.under (.builtin id args)) (B args) (λfin s'=>match fin with| .done f=>R (.ok f) s'| .again c'=>c'.quiet=AC/\Dg AC Ak A c' R s') (λe s'=>R (.error e) s') s):Dg AC Ak A (.builtin id args) R s:=by
 refine Pd ?_
 show wq AC _ _ (match Mh JQ id with|some b=>b args|none=>jG ((withoutEnding? id "#data").getD id)) _ _ _
 rw[he]
 exact h
theorem AQ6{Q:AE->AN->Prop}(x:AQ)(u:Cg)(hl:x.length<=640)(hc:∀c∈x.cps.toList,c<16^8)(hn:FH x=AB)(hh:A.handled=AB)
  (h:∀h' e m tk,xN s.heap h' e "ValueError" [.str m tk]->E (.ref e) {s with heap:=h',toks:=s.toks+2}):wq AC Ak A (call (.type "int") [.str x u]) Q E s:=by
 refine gb (Pd ?_)
 refine EM ⟨iY _ (by decide+kernel),nY xB ?_⟩
 rw[wb (xg "int" [.str x u] []) (units_type_call_type "int" [.str x u] [])]
 obtain⟨rest,e⟩:=BV1 (.str x u)
 rw[e]
 refine Bm (UQ (gb (Pd ?_)))
 show wq AC _ _ (checkBuiltinCall "int.__new__" ⟨[.type "int", .str x u],[]⟩>>=λ_=>RB (.builtin "int.__new__" ⟨[.type "int", .str x u],[]⟩)) _ _ _
 rw[F.newCall_int_1,Fj]
 refine EM ⟨U' Uu.plain _,nY F.entry_int_new ?_⟩
 rw[Qv Uu.plain]
 refine A3 (An5 x u) λBi4 e2=>?_
 rw[e2]
 refine Bm ?_
 rw[An4]
 exact BS4 x u hl hc hn h hh
end
theorem Tb.tk{a:AK}{u:Option AE}{t:Nat}:Tb σ τ a u->Tb σ (τ.tk t) a u
 | .none h=> .none h
 | .some T oT ts h1 h2 h3 h4 h5 h6 h7=> .some T oT ts h1 h2 h3 h4 h5 h6 h7
theorem Ac8{cls:AE}{BM:Option T}{v:AE}(h:V σ (.exc cls BM) v):V σ (.exc cls AB) v:=Rf.imp h λa h=>⟨h.M,h.om,h.F,h.x,let⟨o,vs,t,it,n,h1,h2,h3,h4,h5,_⟩:=h.at_;⟨o,vs,t,it,n,h1,h2,h3,h4,h5,nofun⟩⟩
noncomputable def fG:List CV->AL->R CV:=Eb BX λa o=>(FH (AU a)).elim (if a.length<=640/\a.all (λc=>decide (c<4294967296))=AC then .err (.exc (.type "ValueError") AB) o else .no) λn=>if a.length<=640 then .ok (.int n) o else .no
theorem AQ5:BA AC k AC (HL (.type "int")) fG:= .on1 vS λA σ a u hR ok ⟨t,h⟩=>by
 subst h
 cases hi:FH (AU a)with
 |some n=>exact .ite λhl=> .of λ_ Q E hQ _=>KIN.call_text hi (by rw[(BY a:(AU a).length=a.length)];exact hl) (hQ.tk rfl ok ⟨_,rfl⟩)
 |none=>
  exact .ite λhl hn ht Q E hQ hE=>AQ6 (AU a) t (by rw[(BY a:(AU a).length=a.length)];exact hl.1) (λc hc=>of_decide_eq_true (FF.mp hl.2 c hc)) hi (hR.hand rfl) λh' e m tk hm=>by
   exact hE _ _ ((σ.mk' e h').tk _) rfl ((K8 (t:=m.cps.toList) ok ⟨tk,rfl⟩ rfl (⟨hm.keeps,hm.new,hm.there⟩:Q2 σ.h h' e (.type "ValueError") [.str m tk])).1.tk _) (K8 (t:=m.cps.toList) ok ⟨tk,rfl⟩ rfl (⟨hm.keeps,hm.new,hm.there⟩:Q2 σ.h h' e (.type "ValueError") [.str m tk])).2.1.tk ⟨Ac8 ((Kp.tk _ _).v _ (K8 (t:=m.cps.toList) ok ⟨tk,rfl⟩ rfl (⟨hm.keeps,hm.new,hm.there⟩:Q2 σ.h h' e (.type "ValueError") [.str m tk])).2.2.1),let⟨a,o,vs,h1,h2,h3,h4,h5⟩:=(K8 (t:=m.cps.toList) ok ⟨tk,rfl⟩ rfl (⟨hm.keeps,hm.new,hm.there⟩:Q2 σ.h h' e (.type "ValueError") [.str m tk])).2.2.2;⟨a,o,vs,h1,h2,h3,h4,h5.tk⟩⟩
end
section
variable{fx:Fx}{n:AQ}{pos p1 p2:BK}{e l r x y:Ab}{es:List Ab}{f g:List CV->AL->R CV}{kd:Nat}
section
variable{env:A7}{AI:AY}{ss:List Bd}
noncomputable def L3(AI:AY)(o:AL):Bool:=o.all (H' o.length)&&AI.all λx=>x.elim AC (C8 o.length)
noncomputable abbrev St.mv(τ:St)(R0 N:AK->Prop)(s':AN):St:={W:={ρ:=τ.W.ρ,M:=λa=>(τ.W.M a/\¬R0 a)\/N a,F:=τ.W.F},o:=τ.o,s:=s'}
structure Ke(k:Nat)(fx:Fx)(A:BZ)(env:A7)(σ τ:St)(AI:AY)(cls:AE)(BM:Option T)(v:AE):Prop where
 room:Bs A k AC τ
 ok0:Ok σ
 own:∀a,Fe env a->∃o,σ.h.get? a=AA o
 st:Av (DB env) σ τ
 ok:Ok τ
 top:fx.fn=AC->∃l,A.frames=AA (env::l)
 env:Bl fx τ env AI
 x:HB σ τ (.exc cls BM) v
 cl:L3 AI τ.o=AC
theorem Lv.any{R0 N:AK->Prop}{s':AN}(lv:Lv σ τ R0 N s'){a:AK}{o:BG}(h:τ.h.get? a=AA o)(n:¬R0 a):∃sl,s'.heap.get? a=AA {o with slots:=sl}:=by
 by_cases f:τ.W.F a
 ·exact lv.fr a o h f
 ·exact⟨o.slots,lv.keep a o h f n⟩
theorem pY{R0 N:AK->Prop}{s':AN}{cls:AE}{BM:Option T}{v:AE}(room:Bs A k AC τ)(ok0:Ok σ)(own:∀a,Fe env a->∃o,σ.h.get? a=AA o)(st:Av (DB env) σ τ)(ok:Ok τ)(E:Bl fx τ env AI)(cl:L3 AI τ.o=AC)(top:fx.fn=AC->∃l,A.frames=AA (env::l))
  (lv:Lv σ τ R0 N s') (x:XW σ τ N s' (.exc cls BM) v):Ke k fx A env σ (τ.mv R0 N s') AI cls BM v:=by
 have nR:∀{a o},σ.h.get? a=AA o->¬R0 a:=λh z=>Bt h (lv.r0 _ z).1
 have Cy:H5 τ.o.length τ (τ.mv R0 N s'):=⟨λa o h=>⟨lv.keep a o h.1 (λz=>h.2 (ok.FM a z).1) λz=>h.2 (lv.r0 a z).2.1,λz=>z.elim (λz=>h.2 z.1) λz=>(lv.new a z).2.2.1.elim h.2 (Bt h.1)⟩,λ_ _ _ h=>h⟩
 have hl:∀{a o},τ.h.get? a=AA o->¬R0 a->∃o',s'.heap.get? a=AA o':=λh n=>(lv.any h n).imp' _ λ_ h=>h
 refine⟨⟨room.depth,room.units,room.hand,room.frames⟩,ok0,own,⟨st.rho,λa h=> .inl ⟨st.mono a h,(ok0.Mlt a h).1.elim λo h=>nR h⟩,λa h=>h.elim (λh=>st.fresh a h.1) λh=> .inr (lv.new a h).1,st.omf,st.ff,λa o h=>(st.live a o h).elim λo' h'=>hl h' (nR h),λa o h ho hx=>?_⟩,⟨ok.len,ok.dist,λa h=>⟨.inl ⟨(ok.omM a h).1,λz=>(lv.r0 a z).2.2.1 h⟩,(ok.omM a h).2⟩,λa h=>⟨.inl ⟨(ok.FM a h).1,λz=>(lv.r0 a z).2.2.2 h⟩,?_⟩,λa h=>h.elim (λh=>⟨(ok.Mlt a h.1).1.elim λo h'=>hl h' h.2,(ok.Mlt a h.1).2⟩) λh=>⟨(lv.new a h).2.1,ok0.none_of (lv.new a h).1⟩,λb o h=>lv.keep b o (ok.keep b o h) (λz=>Bt h (ok.Mlt b (ok.FM b z).1).2) λz=>Bt h (ok0.none_of (lv.r0 b z).1),lv.gens.trans ok.gens,lv.os.trans ok.os,λi o p h1 h2=>?_⟩,top,E.moveV (λi v h u hv=>Cy.v v (FF.mp (IR.mp cl).2 _ (Dv h)) hv) (λ_=>Fh) (λa h=>⟨.inl ⟨(E.ownM h).1,(own a h).elim λo h=>nR h⟩,(E.ownM h).2,λo e=>lv.any e ((own a h).elim λo h=>nR h)⟩),x _ rfl (λa h=>⟨.inr h,(lv.new a h).2.2.2.1,(lv.new a h).2.2.2.2⟩) λa h=>h.imp And.left id,cl⟩
 ·have kk:=st.kept a o h ho hx
  exact⟨λnf=>lv.keep a o (kk.1 nf) (λz=>nf ((st.ff a).mp z)) (nR h),kk.2.elim λsl h2=>(lv.any h2 (nR h)).imp λ_ h=>h⟩
 ·obtain⟨_,o,es,ep,q1,q2⟩:=ok.FM a h
  exact(lv.fr a o q1 h).elim λsl h=>⟨_,es,ep,h,q2⟩
 ·have om:=Wd.om_mem h2
  exact Cy.o (FF.mp (IR.mp cl).1 o (Dv h1)) ((λh ob q=>lv.keep _ ob q (ok.omM _ h).2 λz=>(lv.r0 _ z).2.2.1 h:∀{a},τ.W.om a->∀ob,τ.h.get? a=AA ob->s'.heap.get? a=AA ob) om.1) ((λh ob q=>lv.keep _ ob q (ok.omM _ h).2 λz=>(lv.r0 _ z).2.2.1 h:∀{a},τ.W.om a->∀ob,τ.h.get? a=AA ob->s'.heap.get? a=AA ob) om.2) (ok.rel i o p h1 h2)
section
variable{cls:AE}{BM:Option T}{v:AE}(H:Ke k fx A env σ τ AI cls BM v)
include H
theorem Ke.exc:∃e o vs,v= .ref e/\WC τ cls BM e/\σ.h.get? e=AB/\τ.h.get? e=AA o/\o.cls=cls/\o.data= .fields vs/\Tb σ τ e vs[1]?:=by
 obtain⟨⟨e,rfl,X⟩,a,o,vs,ea,h1,h2,h3,tb⟩:=H.x
 cases ea
 obtain⟨o',Gi,t,items,n,q1,q2,_⟩:=X.at_
 cases D0 h2 q1
 exact⟨e,o,vs,rfl,X,h1,h2,q2,h3,tb⟩
theorem Ke.step(st:Lt τ υ)(A6:Ok υ)(e:υ.o=τ.o):Ke k fx A env σ υ AI cls BM v:=by
 obtain⟨a,o,vs,rfl,X,h1,h2,_,h3,tb⟩:=H.exc
 refine⟨H.room.step st,H.ok0,H.own,H.st.trans st.up,A6,H.top,H.env.step H.ok st,⟨(H.ok.kp st).v _ H.x.1,a,o,vs,rfl,h1,(st.kept a o h2 X.om id).1 X.F,h3,?_⟩,by rw[e];exact H.cl⟩
 generalize vs[1]? =u at tb
 cases tb with
 |none h=>exact .none h
 |some T oT ts r1 r2 r3 r4 r5 r6 r7=>exact .some T oT ts r1 r2 r3 ⟨st.mono _ r4.1,λz=>(st.omf _ z).elim r4.2.1 λz=>Bt r5 z,λz=>r4.2.2 ((st.ff _).mp z)⟩ ((st.kept T oT r5 r4.2.1 id).1 r4.2.2) r6 r7
theorem Ke.flight{A':BZ}{E:AE->AN->Prop}{Q:Unit->AN->Prop}(hQ:∀EU,Ke k fx A env σ EU AI cls BM v->EU.o=τ.o->EU.s.toks=τ.s.toks->Q () EU.s):Ac Ak A' (setFlight v AB) Q E τ.s:=by
 refine B7 (H.exc) λe o AD3=>?_
 obtain⟨vs,rfl,X,Ja,ho,hc,hd,tb⟩:=AD3
 generalize hu:vs[1]? =u at tb
 cases tb with
 |none h=>
  subst h
  unfold setFlight
  exact AR (RI ho hd hu (Aa (hQ τ H rfl rfl)))
 |some T oT ts h1 h2 h3 h4 h5 h6 h7=>
  subst h1
  have Fu:3<ts.size:=(UV.mp h7).1
  refine wpAny_setFlight_none ho hd hu h5 h6 Fu ?_
  have KU:∀b,b≠T->(τ.h.update T (im (·.setIfInBounds 3 .none))).get? b=τ.h.get? b:=(OR ..).2
  have jn:=Uv (im (·.setIfInBounds 3 .none)) h5 (Obj.isFreed_of_fields (xR h6 (·.setIfInBounds 3 .none)))
  have hM:=X.M
  have lv:Lv σ τ (λb=>b=e\/b=T) (λb=>b=e\/b=T) {τ.s with heap:=τ.h.update T (im (·.setIfInBounds 3 .none))}:=⟨rfl,rfl,λb ob h _ n=>(KU b λz=>n (.inr z)).trans h,λb ob h f=>⟨ob.slots,(KU b λz=>h4.2.2 (z▸f)).trans h⟩,λb h=>h.elim (λz=>z▸⟨Ja,X.M,X.om,X.F⟩) λz=>z▸⟨h3,h4.1,h4.2.1,h4.2.2⟩,λb h=>h.elim (λz=>by subst z;exact⟨Ja,⟨o,(KU _ h2.symm).trans ho⟩, .inl X.M,X.om,X.F⟩) λz=>by subst z;exact⟨h3,⟨_,jn⟩, .inl h4.1,h4.2.1,h4.2.2⟩⟩
  refine hQ (τ.mv _ _ _) (pY H.room H.ok0 H.own H.st H.ok H.env H.cl H.top lv λυ hs hN hw=>?_) rfl rfl
  obtain⟨o',Gi,t,items,n,q1,q2,q3,q4,q5,q6⟩:=X.at_
  cases D0 ho q1
  have e2:=hd.symm.trans q3
  injection e2 with e2
  subst e2
  have hs:υ.h=_:=congrArg xU hs
  have he:υ.h.get? e=AA o:=by rw[hs];exact(KU e h2.symm).trans ho
  refine⟨⟨e,rfl,(hN e (.inl rfl)).1,(hN e (.inl rfl)).2.1,(hN e (.inl rfl)).2.2,X.x,o,vs,t,items,n,he,q2,hd,q4,⟨?_,λz=>(hw t z).elim q5.2 λz=>q5.2 (z.elim (λz=>z▸X.M) λz=>z▸h4.1)⟩,q6⟩,e,o,vs,rfl,Ja,he,hd,hu▸ .some T _ _ rfl h2 h3 (hN T (.inr rfl)) (by rw[hs];exact jn) (xR h6 (·.setIfInBounds 3 .none)) (Array.getElem?_setIfInBounds_self_of_lt Fu)⟩
  rw[hs];exact(KU t λz=>q5.2 (z▸h4.1)).trans q5.1
end
end
section
variable{env:A7}{AI:AY}{ss:List Bd}
structure HC where
 mt:AE->Option Bool
 slot:Option Nat
 d:DS
noncomputable def Jv(r:RS):RS:=match r with
 | .ret c o=> .ret c o
 |_=> .no
noncomputable def IB(hs:List HC)(cls:AE)(BM:Option T):DS:=hs.foldr (λh rest v o=>(h.mt cls).elim .no λb=>if b=AC then Jv (h.d (h.slot.elim v λi=>v.set i (AA (.exc cls BM))) o)else rest v o) Pi
noncomputable def Kj(k:Nat)(fx:Fx)(cs:List IY)(hs:List HC):Prop:=∀A env σ τ AI cls BM v,Ke k fx A env σ τ AI cls BM v->IB hs cls BM AI τ.o≠ .no->0<τ.s.toks->∀Q E,FC env (FR fx env) σ (IB hs cls BM AI τ.o) Q->XC fx env σ (IB hs cls BM AI τ.o) E->Ac Ak A (ZI v env cs) Q E τ.s
theorem BI5:Kj k fx [] []:=λ_ _ _ _ _ _ _ _ _ hn=>absurd rfl hn
theorem Bs.mark{x:Option AE}(h:Bs A k AC σ):Bs (A.mark x) k AD σ:=⟨h.depth,h.units,nofun,h.frames⟩
noncomputable def WM(k:Nat)(fx:Fx)(name:Option AQ)(ss:List Bd)(h:HC):Prop:=∀A env σ τ AI cls BM v pos,Ke k fx A env σ τ AI cls BM v->Jv (h.d (h.slot.elim AI λi=>AI.set i (AA (.exc cls BM))) τ.o)≠ .no->0<τ.s.toks->∀Q E,FC env (FR fx env) σ (Jv (h.d (h.slot.elim AI λi=>AI.set i (AA (.exc cls BM))) τ.o)) Q->
 HX Ak (A.mark (AA v)) (.handlers v [.ExceptHandler AB name ss pos] env) (λr E8=>match r with
  | .ok f=>(match(generalizing:=false) name with
   |none=>Q f E8
   |some n=>Ac Ak A (do bindName env n .none;unbindBehindTheSuite env n pos) (λ_ aT=>Q f aT) E E8)
  | .error x=>cameBackBy Ak A env E x E8) τ.s
theorem BI4{t:Ab}{name:Option AQ}{rest:List IY}{tv:AE}{h:HC}{hs:List HC}(ht:Aj AD k AD fx t (AG (.top tv)))(hm:∀c b,h.mt c=AA b->Q9 (K5 w.params) c tv=AA b)(hb:WM k fx name ss h)(hr:Kj k fx rest hs):
  Kj k fx (.ExceptHandler (AA t) name ss pos::rest) (h::hs):=λA env σ τ AI cls BM v H hn CA Q E hQ hE=>by
 have B3:v≠byPass:=by obtain⟨e,_,_,rfl,_⟩:=H.exc;nofun
 refine wpAny_handleBy_cons (codeAny_handlers_test (((ht (A.mark (AA v)) env τ AI ⟨H.room.mark,H.env,H.ok,H.top⟩).run nofun CA (λc u υ e1 st Fd CA h1=>?_) λc u υ e1=>nomatch e1:wq AD Ak _ _ _ _ _).any)) B3
 ·injection e1 with e1 e3
  subst e1
  cases h1
  have H1:=H.step st Fd e3.symm
  refine Hr (H1.exc) λe o vs aQ=>?_
  obtain rfl:=aQ.1
  have e4:IB (h::hs) cls BM AI τ.o=(h.mt cls).elim .no λb=>if b=AC then Jv (h.d (h.slot.elim AI λi=>AI.set i (AA (.exc cls BM))) υ.o)else IB hs cls BM AI υ.o:=by rw[<-e3];rfl
  rw[e4]at hn hQ hE
  cases Zs:h.mt cls with
  |none=>rw[Zs]at hn;exact absurd rfl hn
  |some b=>
   rw[Zs]at hn hQ hE
   refine(exm_one (xb KX Fd.keep) (by simp only[<-aQ.2.2.2.2.1];exact(iy aQ.2.2.2.1).andThen .now) (hm cls b Zs)).here ?_
   cases b with
   |false=>exact hr _ _ _ _ _ _ _ _ H1 hn CA Q E hQ hE
   |true=>exact hb _ _ _ _ _ _ _ _ _ H1 hn CA Q E hQ
theorem so{r:RS}(h:Jv r≠ .no):∃c o,r= .ret c o:=by
 cases r with
 |ret c o=>exact⟨c,o,rfl⟩
 |_=>exact absurd rfl h
theorem BR6{st:Bd}{mt:AE->Option Bool}{d:DS}(hb:Dy AD k AD fx (st::ss) d):WM k fx AB (st::ss) ⟨mt,AB,d⟩:=λA env σ τ AI cls BM v pos H hn CA Q E hQ=>by
 have hn:Jv (d AI τ.o)≠ .no:=hn
 have hQ:FC env (FR fx env) σ (Jv (d AI τ.o)) Q:=hQ
 obtain⟨c,o,e⟩:=so hn
 refine codeAny_handlers_suite (H.flight λυ H1 eo et=>?_)
 rw[<-eo]at e hQ
 refine((hb _ _ _ _ ⟨H1.room.mark,H1.env,H1.ok,H1.top⟩).run (by rw[e];nofun) (et▸CA) (λf EU st A6 _ h=>?_) (λc v vs EU e'=>by rw[e]at e';cases e'):wq AD Ak _ _ _ _ _).any
 ·rw[e]at hQ h
  exact hQ f EU (H1.st.trans st) A6 h
theorem Bl.lose{s':AN}{mm:AQ->Option AE}(E:Bl fx σ env AI)(hn:s'.heap.Ns env.locals mm)(hs:JL env.locals σ.h s'.heap):Bl fx {σ with s:=s'} env (fx.sc.map λ_=>AB):=
 ⟨E.scope,E.func,E.globals,E.builtins,E.frame,E.own,λn' c' hc=>let⟨h1,h2,h3,h4,u,o,h5,h6⟩:=E.cells n' c' hc;⟨h1,h2,h3,h4,u,o,(hs.2 _ h4).trans h5,h6⟩,E.apart,by rw[Ay],⟨_,hn,λj n' v h1 h2=>by rw[Cm,h1]at h2;cases h2⟩,λj n' h1=>by
  refine B7 (E.cel j n' h1) λc' u AD4=>?_
  obtain⟨h2,⟨o,h3,RW⟩,h4⟩:=AD4
  exact⟨c',u,h2,⟨o,(hs.2 _ (E.cells n' c' (mem_of_lookup h2)).2.2.2.1).trans h3,RW⟩,λv h5=>by rw[Cm,h1]at h5;cases h5⟩⟩
theorem Aj0{i:Nat}{c:CV}{AI:AY}{o:AL}{τ:St}{u:Unit}{env:A7}(h:GR fx env (AX i c AI o) τ u):Bl fx τ env (AI.set i (AA c))/\o=τ.o:=by
 generalize er:AX i c AI o=r at h
 cases h with
 |next E=>cases er;exact⟨E,rfl⟩
inductive AH1(fx:Fx)(env:A7)(τ:St)(c:CV)(o:AL)(f:Flow):Prop
 |mk (v:AE) (u:AY) (ef:f= .ret v) (hv:V τ c v) (eo:o=τ.o) (E:Bl fx τ env u)
theorem Ah8{env:A7}{c:CV}{o:AL}{f:Flow}(h:FR fx env (.ret c o) τ f):AH1 fx env τ c o f:=by
 generalize er:RS.ret c o=r at h
 cases h<;>cases er
 exact⟨_,_,rfl, ‹_›,rfl, ‹_›⟩
theorem BR5{st:Bd}{mt:AE->Option Bool}{d:DS}(fo:Dp fx)(i:Nat)(hi:fx.sc[i]? =AA (.loc n))(hb:Dy AD k AD fx (st::ss) d):WM k fx (AA n) (st::ss) ⟨mt,AA i,d⟩:=λA env σ τ AI cls BM v pos H hn CA Q E hQ=>by
 have hn:Jv (d (AI.set i (AA (.exc cls BM))) τ.o)≠ .no:=hn
 have hQ:FC env (FR fx env) σ (Jv (d (AI.set i (AA (.exc cls BM))) τ.o)) Q:=hQ
 obtain⟨c,o,e⟩:=so hn
 refine codeAny_handlers_suite_as (H.flight λυ H1 eo et=>?_)
 rw[<-eo]at e hQ
 have p:BW (A.mark (AA v)) k AD fx env υ AI:=⟨H1.room.mark,H1.env,H1.ok,H1.top⟩
 have g1:∀{u PJ},GR fx env (AX i (.exc cls BM) AI υ.o) PJ u->Bl fx PJ env (AI.set i (AA (.exc cls BM)))/\d (AI.set i (AA (.exc cls BM))) PJ.o= .ret c o:=λ{u PJ} h=>(Aj0 h).imp id λ(q:υ.o=PJ.o)=>q▸e
 rw[e]at hQ
 refine((WW fo hi p H1.x.1).run nofun (et▸CA) (λu PJ Io Fd Fv h1=>?_) (λc v vs EU e'=>nomatch e'):wq AD Ak _ _ _ _ _).any
 refine((hb _ _ _ _ (p.go Io Fd (g1 h1).1)).run (by rw[(g1 h1).2];nofun) Fv (λf EU st A6 _ h=>?_) (λc v vs EU e'=>by rw[(g1 h1).2]at e';cases e'):wq AD Ak _ _ _ _ _).any
 rw[(g1 h1).2]at h
 cases Ah8 h with
 |mk w' u ef hv yD E2=>
  cases ef
  refine A3 (E2.ns) λmm AD5=>?_
  have p2:=(p.go Io Fd (g1 h1).1).go st A6 E2
  refine wpAny_nameGoes (by unfold LS;rw[E2.scope];exact(fo.loc n (Dv hi)).1) AD5.1 (by rw[E2.scope,fo.kind];rfl) λh' m' Ro H4=>?_
  have E7:∃o,h'.get? env.locals=AA o:=Ro.imp λ_ h=>h.elim λ_ h=>h.elim λ_ h=>h.1
  subst yD
  exact hQ (.ret w') {EU with s:={EU.s with heap:=h',toks:=EU.s.toks+1}} (((H1.st.trans Io).trans st).trans (Nv (σ:=EU) (s':={EU.s with heap:=h',toks:=EU.s.toks+1}) (env:=env) (.inl rfl) H4.2 E7)) (fC p2 (.inl rfl) E2.own.2 H4.2 E7 (λ_=>Ro.imp λ_ h=>h.imp λ_ h=>h.imp λ_ h=>⟨h.1,h.2.1⟩) rfl rfl) (.ret ((p2.kp (Nv (σ:=EU) (s':={EU.s with heap:=h',toks:=EU.s.toks+1}) (env:=env) (.inl rfl) H4.2 E7)).v _ hv) (E2.lose Ro H4))
theorem BT9{body lm:Ao Flow}{h:IY}{hs:List IY}:tryStmt AD body (h::hs) lm [] env=(body.attempt>>=λr=>match r with
  | .ok .next=>lm
  | .ok f=>Ax f
  | .error e=>U7 env e>>=λ_=>ZI e env (h::hs)):=by
 unfold tryStmt
 dsimp only[List.isEmpty_nil]
 rw[if_pos rfl]
 refine congrArg (body.attempt>>=·) (funext λr=>?_)
 cases r with
 |error e=>
  exact(bind_assoc (U9 e env) (λ_=>setFlight e AB) λ_=>ZI e env (h::hs)).symm
 |ok f=>cases f<;>rfl
noncomputable def YK(hs:List HC)(r:RS):RS:=match r with
 | .err (.exc cls BM) v o=>if L3 v o=AC then IB hs cls BM v o else .no
 | .err _ _ _=> .no
 |r=>r
noncomputable def NY(b:DS)(hs:List HC):DS:=λv o=>YK hs (b v o)
theorem BT8{cs:List IY}{hs:List HC}{cls:AE}{BM:Option T}{v:AE}{v0:AY}(hh:Kj k fx cs hs)(Ih:fx.fn=AC)(p:BW A k AC fx env σ v0)(st:Av (DB env) σ τ)(ok:Ok τ)(E1:Bl fx τ env AI)(hx:HB σ τ (.exc cls BM) v)(cl:L3 AI τ.o=AC)
  (hn:IB hs cls BM AI τ.o≠ .no) (ht:0<τ.s.toks) {Q:Flow->AN->Prop} {E:AE->AN->Prop} (hQ:FC env (FR fx env) σ (IB hs cls BM AI τ.o) Q) (hE:XC fx env σ (IB hs cls BM AI τ.o) E):Ac Ak A (U7 env v>>=λ_=>ZI v env cs) Q E τ.s:=by
 refine A3 (p.t Ih) λl KJ=>?_
 have r:=p.r.step st
 exact AR (uj (qP KJ (r.fr KJ) ok (λa h=>st.back h) hx λR0 N s' lv x hle=>hh _ _ _ (τ.mv R0 N s') _ _ _ _ (pY r p.ok (λa h=>(p.ok.Mlt a (p.e.ownM h).1).1:∀a,Fe env a->∃o,σ.h.get? a=AA o) st ok E1 cl p.t lv x) hn (CI ht hle) Q E hQ hE))
theorem Bf3{t:Ao β}{Q:β->AN->Prop}{E:AE->AN->Prop}{s:AN}(h:wq m Ak A t Q (λa s'=>s.toks<=s'.toks->E a s') s):wq m Ak A t Q E s:=λΓ p CK hc=>by
 refine gZ t s.toks (BL _) ?_
 exact OT Ak Γ t (λa _ s' (h:Q a s') (_:s.toks<=s'.toks)=>h) (λ_ _ _ h=>h) p s (h Γ p CK hc)
theorem BN9{h:IY}{cs:List IY}{b:DS}{hs:List HC}(Ih:fx.fn=AC)(hb:Dy m k AC fx ss b)(hh:Kj k fx (h::cs) hs):DV m k AC fx (.Try ss (h::cs) [] [] pos) (NY b hs):=λA env σ AI p=>by
 refine .stand ?_
 rw[BT9]
 intro hn ht Q E hQ hE
 unfold NY at hn hQ hE
 refine Bm (Be8 (Bf3 ((hb _ _ _ _ p).run (λz=>hn (by rw[z];rfl)) ht (λf τ st ok _ h=>wq.of ?_) λc v vs τ e st ok E1 hx hle=>wq.of ?_)))
 ·generalize b AI σ.o=r at*
  cases h with
  |next e=>exact wpAny_execs_nil (hQ _ τ st ok (.next e))
  |brk e=>exact Aa (hQ _ τ st ok (.brk e))
  |ret h e=>exact Aa (hQ _ τ st ok (.ret h e))
 ·rw[e]at hn hQ hE
  cases c with
  |exc cls BM=>
   by_cases cl:L3 vs τ.o=AC
   ·have e2:YK hs (.err (.exc cls BM) vs τ.o)=IB hs cls BM vs τ.o:=if_pos cl
    rw[e2]at hn hQ hE
    exact BT8 hh Ih p st ok E1 hx cl hn (CI ht hle) hQ hE
   ·exact absurd (if_neg cl) hn
  |_=>exact absurd rfl hn
end
section
variable{env:A7}{AI:AY}{st:Bd}{ss:List Bd}
section
section
variable{P':Fk}{w':C6}{E:AE->AN->Prop}{s:AN}{a t0:AK}{oe ot:BG}{vs:Array AE}{j:Nat}{tx:AQ}{tk:Cg}
open Builtin.BaseException in
theorem AO7{Q:Fin->AN->Prop}(ho:s.heap.get? a=AA oe)(hd:oe.data= .fields vs)(h0:vs[0]? =AA (.ref t0))(Z1:s.heap.get? t0=AA ot)(Z0:ot.data= .seq #[.str tx tk] j)
  (hq:Q (.done (.ret (.str tx tk))) s):Ac (Bo P' w') A (Builtin.«BaseException.__str__» ⟨[.ref a],[]⟩) Q E s:=by
 have hb:∀{Q:AE×List AE->AN->Prop},Q (.ref t0,[.str tx tk]) s->Ac (Bo P' w') A (bexcArgs (.ref a)) Q E s:=λhq=>by
  unfold bexcArgs
  exact AR (RI ho hd h0 (AR (VH Z1 Z0 (Aa hq))))
 unfold Builtin.«BaseException.__str__»
 repeat (first|with_reducible refine hb ?_|wp_step)
 exact hq
theorem BQ6{K:Frag}{C:AK}{Q:AE->AN->Prop}(X:K.In s.heap)(hs:findIn K (.ref C) "__str__"=AA (AA (.builtin "BaseException.__str__")))(hm:mroIn K C (.type "BaseException")=AA AC)
  (hu:A.units<FG) (ho:s.heap.get? a=AA oe) (hc:oe.cls= .ref C) (hd:oe.data= .fields vs) (h0:vs[0]? =AA (.ref t0)) (Z1:s.heap.get? t0=AA ot) (Z0:ot.data= .seq #[.str tx tk] j) (hq:Q (.str tx tk) s):
  Ac (Bo P' w') A (wo (.ref a)) Q E s:=by
 unfold wo
 refine AR (m:=cRoomFor _ _) (wpAny_cRoomFor hu ?_)
 refine AR (m:=i4 (.ref a) (CR "__str__")) ?_
 refine AR (AR ((hc▸(iy ho).andThen .now:Looks (Bo P' w') s.heap (Ld (.ref a)) (.ref C)).here ((looks_findIn X hs).here (D_ (AR ((Looks.of_pure (ic.str.bind _)).here (AR ?_)))))))
 refine VF (ZG ic.str.plain PySem.F.entry_bexc_str (check_slot (i:="BaseException.__str__") (owner:="BaseException") (n:="__str__") (by decide+kernel) (by decide+kernel) ((hc▸(iy ho).andThen .now:Looks (Bo P' w') s.heap (Ld (.ref a)) (.ref C)).andThen (looks_mroIn X hm)) (PySem.F.args_bexc_str _) ?_))
 exact AO7 ho hd h0 Z1 Z0 (Aa (Aa hq))
end
noncomputable def mn(_:AL):CV->Option (AE×T)
 | .exc c (AA t)=>AA (c,t)
 |_=>AB
theorem vX:Vw mn λσ d v=>V σ (.exc d.1 (AA d.2)) v:=λ{σ c a v} _ e h=>by
 cases c with
 |exc c t=>cases t<;>cases e;exact h
 |_=>first|exact Af e|cases e
noncomputable def fP(Cs:List AK):List CV->AL->R CV:=BP (Eb mn λd o=>if d.1= .type "ValueError"\/∃C∈Cs,d.1= .ref C then .ok (.str d.2) o else .no) Xn
theorem AR3{Cs:List AK}(hC:∀C∈Cs,findIn (K5 w.params) (.ref C) "__str__"=AA (AA (.builtin "BaseException.__str__"))/\mroIn (K5 w.params) C (.type "BaseException")=AA AC):BA m k q (HL (.type "str")) (fP Cs):=
 .alt (.on1 vX λA σ d u hR ok h=> .ite λhc=> .of λ_ Q E hQ _=>by
  obtain⟨c,t⟩:=d
  have hu:A.units+2<FG:=Bg (C3 hR.u 2) (by decide)
  obtain⟨e,rfl,_,_,_,_,oe,es,tp,items,n,Lm,Ft,hd,h0,ht,Zt⟩:=h
  obtain⟨tk,rfl⟩:=Zt t rfl
  have hq:Q (.str (AU t) tk) σ.s:=hQ.here rfl ok ⟨tk,rfl⟩
  rcases hc with rfl|⟨C,hm,rfl⟩
  ·exact P.str_of_exc_one ic hu ⟨oe,es,Lm,Ft,hd,h0⟩ ⟨_,n,ht.1,rfl,rfl⟩ hq
  ·have lb:=hC C hm
   exact callType_new F.called_str (by decide) (F.typeCall_str_1 _) (F.newCall_str_1 _) (λobj=>F.args_object_init_2 obj _) F.entry_str_new
    (meets_str_new (S:=λA' R s'=>A'.units+1<FG/\s'=σ.s/\R (.ok (.ret (.str (AU t) tk))) s')
     λBi2 w' A' R' s' hq=>by
      obtain rfl:=hq.2.1
      exact BQ6 (A:=A'.in1) (xb KX ok.keep) lb.1 lb.2 hq.1 Lm Ft hd h0 ht.1 rfl hq.2.2)
    ⟨(show A.units+1+1<FG from hu),rfl,Ha _ _ _,hq⟩) call_str
theorem BK8:Aj m k q fx (.Name "__debug__" pos) (AG (.bool AC)):=λA env σ AI p=>by
 refine .stand (.of λ_ Q E hQ _=>?_)
 refine MQ (by decide) ?_
 exact AR (Hb (Aa (hQ.here rfl p.ok rfl)))
theorem BL6(fo:Dp fx){tx:AQ}{t:Cg}(y:CV)(hy:y= .str (Bx tx))(hl:fx.scope.names.lookup n=AA .globalImplicit)(hv:mg n=AA (.str tx t))(hd:(n==("__debug__":AQ))=AD):Aj m k q fx (.Name n pos) (AG y):=λA env σ AI p=> .of λhn Q E hQ hE=>
 iX (by rw[p.e.scope];exact fo.kind) (by unfold LS;rw[p.e.scope];exact hl) (ww (by rw[p.e.globals];exact TF.g.keeps p.ok.keep) hv (hQ.here rfl p.ok (hy▸⟨t,rfl⟩))) hd
namespace RF
theorem noBool_match:JS (.type "re.Match") "__bool__"=Ax AB:=by rw[JT,JO];kernel_rfl
theorem noLen_match:JS (.type "re.Match") "__len__"=Ax AB:=by rw[JT,JO];kernel_rfl
end RF
noncomputable def asM(c:CV):Option Bool:=DX c AB (zm:=AA AC) (zn:=AA AD)
noncomputable def Ph(d:D):DT:=λAI objs=>(d AI objs).bind λc h=>(asM c).elim .no λb=> .ok b h
theorem BM2{d:D}(h:Aj m k q fx e d)(he:∀env whole,isTrue e env whole=(do let v<-whole;GI e.pos;HY [v] (VE v))):Eh m k q fx e (Ph d):=λA env σ AI p=>by
 rw[he]
 refine(h _ _ _ _ p).bind λc v τ st ok h=> .stand (.holding (.opt λb hb=> .of λ_ Q E hQ _=>?_))
 cases c with
 |mat=>
  cases hb
  obtain⟨a,rfl,o,ho,hc⟩:=h
  unfold VE
  exact AR (wpAny_callSpecial?_none (⟨o,ho.1,hc⟩:τ.s.TypeIs (.ref a) "re.Match") RF.noBool_match (AR (jO (⟨o,ho.1,hc⟩:τ.s.TypeIs (.ref a) "re.Match") RF.noLen_match (Aa (hQ.here rfl ok rfl)))))
 |none=>cases hb;cases h;exact wa (hQ.here rfl ok rfl)
 |_=>first|exact Af hb|cases hb
end
end
end
end
section
open Builtin Builtin.Re
variable{X Y:AK->Prop}{σ τ υ:St}{A:BZ}{α β γ:Type}{M:GH}{E:AE->AN->Prop}{s:AN}{P:AK}{code text:Array Nat}{x:AQ}{t:Cg}
namespace RF
theorem plainAttrs_pattern:Y_ "re.Pattern":=
 ⟨⟨"object.__getattribute__",by rw[JT,JO];kernel_rfl,by decide+kernel⟩,by rw[JT,JO];kernel_rfl⟩
theorem slot_sub:LX "re.Pattern" "sub" "re.Pattern.sub":=
 .of (owner:="re.Pattern") (n:="sub") (by rw[JT,JO];kernel_rfl) (by decide+kernel) (by decide+kernel) (by decide+kernel)
  (by first|exact .inl (by decide+kernel)|exact .inr (by decide+kernel)) (by rw[U6];kernel_rfl)
theorem slot_search:LX "re.Pattern" "search" "re.Pattern.search":=
 .of (owner:="re.Pattern") (n:="search") (by rw[JT,JO];kernel_rfl) (by decide+kernel) (by decide+kernel) (by decide+kernel)
  (by first|exact .inl (by decide+kernel)|exact .inr (by decide+kernel)) (by rw[U6];kernel_rfl)
theorem type_sub:Ld (.builtin "re.Pattern.sub")=Ax (.type "method_descriptor"):=by show builtinType _=_;rw[xd];kernel_rfl
theorem type_search:Ld (.builtin "re.Pattern.search")=Ax (.type "method_descriptor"):=by show builtinType _=_;rw[xd];kernel_rfl
theorem entry_sub:Mh JQ "re.Pattern.sub"=AA Builtin.«re.Pattern.sub»:=ZH (by kernel_rfl)
theorem entry_search:Mh JQ "re.Pattern.search"=AA Builtin.«re.Pattern.search»:=ZH (by kernel_rfl)
theorem entry_loop:Mh JQ "re.Pattern.sub.loop"=AA Builtin.«re.Pattern.sub.loop»:=ZH (by kernel_rfl)
theorem args_sub(a b c:AE):J7 "re.Pattern.sub" ⟨[a,b,c],[]⟩:=by
 unfold J7;kernel_rfl
theorem args_search(a b:AE):J7 "re.Pattern.search" ⟨[a,b],[]⟩:=by
 unfold J7;kernel_rfl
theorem quiet_loop(args:HW):(Code.builtin "re.Pattern.sub.loop" args).quiet=AC:=iY _ (by decide+kernel)
theorem call_str:JS (.type "str") "__call__"=Ax AB:=by rw[JT,JO];kernel_rfl
end RF
theorem Be5{m':MZ}(NB:Nat):∀(n:Nat) (m:MZ) {Q:MZ->AN->Prop},Iq n m m'->n<=4*NB->0<NB->Q m' s->Ac M A (reDrive NB m) Q E s:=by
 induction NB with
 |zero=>exactλ_ _ _ _ _ h0 _=>absurd h0 (Eu 0)
 |succ NB ih=>
  intro n m Q h hn _ hq
  unfold reDrive
  by_cases ho:(m.runFor Y5).outcome.isSome=AC
  ·simp only[ho,if_true]
   have e:m.runFor Y5=m':=by
    rcases Nat.le_total Y5 n with hle|hle
    ·obtain⟨d,rfl⟩:=Uh hle
     have:=h.1
     rw[Tc,MM ho]at this
     exact this
    ·obtain⟨d,hd⟩:=Uh hle
     rw[hd,Tc,h.1,MM h.2]
   rw[e]
   exact Aa hq
  ·simp only[ho]
   have CY:Y5<n:=by
    refine J4 λyv=>?_
    obtain⟨d,hd⟩:=Uh yv
    rw[hd,Tc,h.1,MM h.2]at ho
    exact absurd h.2 ho
   refine AR (Hb ?_)
   obtain⟨d,rfl⟩:=Uh (Et CY)
   have h5:d<=4*NB:=wK (AO hn (BR (OL (4*NB) 4)))
   exact ih d _ ⟨by rw[<-Tc];exact h.1,h.2⟩ h5 (Nat.pos_of_lt_mul_left (CI (Nat.pos_of_lt_add_right CY) h5)) hq
theorem uh{n:Nat}{m:MZ}{P:MZ->Prop}{Q:Option MZ->AN->Prop}(h:BI n m P)(hn:n<=2^64)(hq:∀m',P m'->(m'.outcome=AA .matched/\Q (AA m') s)\/(m'.outcome=AA .failed/\Q AB s)):
  Ac M A (reRunToEnd m) Q E s:=by
 refine A3 (h) λm' kt=>?_
 unfold reRunToEnd
 refine AR (Be5 (2^64) n m kt.1 (AO hn (wJ _ (by decide))) (by decide) (AR ?_))
 refine wpAny_forIn_list _ (λ_ _ s'=>s'=s) (λ_ s'=>_) ?_ ?_ _ _ rfl
 ·rintro x rest b s' rfl
  exact J_ (λ_=>AR (Hb (Aa rfl))) λ_=>Aa rfl
 ·rintro b s' rfl
  rcases hq m' kt.2 with⟨e,q⟩|⟨e,q⟩<;>rw[e]<;>exact Aa q
inductive G'(h:BS)(P:AK)(code:Array Nat):Prop
 |mk (o:BG) (fs:Array AE) (c:AK) (oc:BG) (items:Array AE) (n:Nat) (h1:h.get? P=AA o) (h2:o.cls= .type "re.Pattern") (h3:o.dict=AB) (h4:o.data= .fields fs) (h5:reRawNat (fs.getD 2 .none)=0) (h6:reRawNat (fs.getD 6 .none)=0)
  (h7:fs.getD 5 .none= .ref c) (h8:h.get? c=AA oc) (h9:oc.data= .seq items n) (CF:(items.map reRawOf).map (·.toNat)=code)
theorem G'.keeps{h h':BS}(x:G' h P code)(k:∀b o,h.get? b=AA o->h'.get? b=AA o):G' h' P code:=let⟨o,fs,c,oc,items,n,h1,h2,h3,h4,h5,h6,h7,h8,h9,CF⟩:=x;⟨o,fs,c,oc,items,n,k _ _ h1,h2,h3,h4,h5,h6,h7,k _ _ h8,h9,CF⟩
noncomputable def tgt(P:AK)(code:Array Nat)(x:AQ)(t:Cg):ReTarget:={pattern:= .ref P,string:= .str x t,code:=code,text:=x.cps,kind:=0,groups:=0,pos:=0,lim:=x.cps.size}
theorem ui{Q:Array Nat×Nat->AN->Prop}(hq:Q (x.cps,0) s):Ac M A (reTextOf (.str x t)) Q E s:=by
 unfold reTextOf
 exact AR (Ic (a:=AA x) rfl (Aa hq))
theorem ug{c:AK}{oc:BG}{items:Array AE}{n:Nat}{Q:Array Int->AN->Prop}(h1:s.heap.get? c=AA oc)(h2:oc.data= .seq items n)(hq:Q (items.map reRawOf) s):Ac M A (reRawItems (.ref c)) Q E s:=by
 unfold reRawItems
 exact AR (VH h1 h2 (Aa hq))
theorem uk(hp:G' s.heap P code){Q:ReTarget->AN->Prop}(hq:Q (tgt P code x t) s):Ac M A (reWholeTarget (.ref P) (.str x t)) Q E s:=by
 obtain⟨o,fs,c,oc,items,n,h1,h2,h3,h4,h5,h6,h7,h8,h9,CF⟩:=hp
 unfold reWholeTarget
 refine AR (ZQ h1 h4 (AR (ui ?_)))
 rw[h6]
 refine AR ?_
 rw[h7]
 refine Aa (AR (ug h8 h9 (Aa ?_)))
 rw[h5,CF]
 exact hq
structure SJ(code text:Array Nat)(lim:Nat)(F:Nat->Option (Nat×Nat)):Prop where
 run:∀p,p<=lim->∃n,n<=2^64/\BI n (LZ code text 0 p lim AD) ((F p).elim WF λr=>NG r.1 r.2)
 ord:∀p r,F p=AA r->p<=r.1/\r.1<r.2/\r.2<=lim
noncomputable def Gw(F:Nat->Option (Nat×Nat))(text:Array Nat)(lim:Nat)(EB:List Nat)(fuel:Nat):Nat->List Nat:=Y0 (λ_=>[]) (λ_ ih d=>(F d).elim (text.extract d lim).toList λr=>(text.extract d r.1).toList++EB++ih r.2) fuel
structure LI(ET:AN)(L:AK)(acc:List Nat)(cnt:Nat)(s:AN):Prop where
 keep:∀a o,ET.heap.get? a=AA o->s.heap.get? a=AA o
 items:∃(ps:List (AQ×Cg)) (n:Nat),s.heap.get? L=AA (Dk (HZ ps).toArray n)/\ps.length<=cnt/\(ps.map (λp=>p.1.cps.toList)).flatten=acc
 gens:s.gens=ET.gens
 os:s.os=ET.os
theorem BQ8(a b:List (AQ×Cg)):HZ (a++b)=HZ a++HZ b:=by
 unfold HZ;simp
section
variable{ET:AN}{L:AK}{acc:List Nat}{cnt:Nat}
theorem LI.push(hL:ET.heap.get? L=AB)(z:LI ET L acc cnt s)(hc:cnt<=1000000){y:AQ}{Q:Unit->AN->Prop}(hq:∀s',LI ET L (acc++y.cps.toList) (cnt+1) s'->Q () s'):Ac M A (updateSeq L (·.push (.str y t))) Q E s:=by
 refine B7 (z.items) λps n AA7=>?_
 obtain⟨h1,h2,h3⟩:=AA7
 have h4:=AO (BR (DC.trans (Ay _):(HZ ps).toArray.size=ps.length)) (AO h2 (AO hc (by decide:1000000<=FI)))
 refine jP h1 rfl (hq _ ⟨λa o h=>(xP _ _ λe:L=a=>Bt h (e▸hL)).trans (z.keep a o h),⟨ps++[(y,t)],_,(Uv (JN (·.push (.str y t))) h1 rfl).trans (by rw[BQ8];simp[JN,HZ];rfl),?_,by rw[EO,Yl,h3];simp⟩,z.gens,z.os⟩) h4 (by rw[YU];exact CT h4)
 rw[A1];exact CT h2
theorem LI.slice(z:LI ET L acc cnt s){b e:Nat}(ht:text.size<=100000){Q:AE->AN->Prop}(hq:∀s' t,LI ET L acc cnt s'->Q (.str ⟨text.extract b e⟩ t) s'):Ac M A (Y4 text 0 b e) Q E s:=by
 unfold Y4
 refine MQ (by decide) ?_
 exact wpAny_mkStr (hq _ _ ⟨z.keep,z.items,z.gens,z.os⟩) (by show(text.extract b e).size<=_;rw[YT];exact AO (Um _ _) (AO (Uj _ _) (AO ht (by decide))))
theorem LI.piece{K:Unit->Ao β}{Q:β->AN->Prop}(hL:ET.heap.get? L=AB)(z:LI ET L acc cnt s)(hc:cnt<=1000000)(ht:text.size<=100000){d b:Nat}(k:∀s',LI ET L (acc++(text.extract d b).toList) (cnt+1) s'->Ac M A (K ()) Q E s'):
  Ac M A (if d<b then Y4 text 0 d b>>=λv=>updateSeq L (·.push v)>>=K else K ()) Q E s:=by
 by_cases h:d<b
 ·refine MQ h ?_
  exact AR (z.slice ht λs' tt z'=>AR (z'.push hL hc λHe z''=>k He z''))
 ·refine QX h ?_
  have hz:(text.extract d b).toList=[]:=by rw[uy,Array.extract_eq_empty_iff];exact AO (Qs ..) (Cp.mp h)
  rw[hz,BJ]at k
  exact k s ⟨z.keep,z.items.imp λ_ h=>h.imp λ_ h=>⟨h.1,HU h.2.1,h.2.2⟩,z.gens,z.os⟩
theorem p6:∀l:List AQ,(ZA ⟨#[]⟩ l).cps.toList=(l.map (λs=>s.cps.toList)).flatten
 |[]=>rfl
 |[x]=>by rw[J3,Yo,g_,List.flatten_nil,BJ];rfl
 |x::y::r=>by
  have e:∀a b:AQ,(a++b).cps.toList=a.cps.toList++b.cps.toList:=λa b=>YV
  show(x++(⟨#[]⟩:AQ)++ZA ⟨#[]⟩ (y::r)).cps.toList=_
  rw[e,e,p6 (y::r),BJ];rfl
theorem LI.join(z:LI ET L acc cnt s)(ha:acc.length<=10000000){Q:AE->AN->Prop}(hq:∀s' t,LI ET L acc cnt s'->Q (.str ⟨acc.toArray⟩ t) s'):Ac Ak A (call (.builtin "str.join") [.str ⟨#[]⟩ t, .ref L]) Q E s:=by
 refine B7 (z.items) λps n PA=>?_
 have hl:((ps.map (·.1)).map (·.length)).sum<=10000000:=by
  have e:((ps.map (·.1)).map (·.length)).sum=acc.length:=by
   rw[<-PA.2.2,List.length_flatten]
   simp[Hu,Function.comp_def,Str.length]
  rw[e];exact ha
 refine SC.join (l:=ps) (texts:=ps.map (·.1)) (Bu PA.1) rfl ?_ λt' kk=>?_
 ·unfold JoinOk
  rw[StrLaws.joinTotal]
  unfold Gd
  rw[decide_eq_false];rfl
  have:(⟨#[]⟩:AQ).length=0:=rfl
  show ¬_>FI
  rw[this];exact Cp.mpr (AO hl (by decide:10000000<=FI))
 ·have e:Txt.join ⟨#[]⟩ (ps.map (·.1))=⟨acc.toArray⟩:=by
   show Builtin.Str.glued _ _=_
   rw[iq]
   have:=p6 (ps.map (·.1))
   rw[Hu]at this
   exact congrArg Str.mk (uz.mp (this.trans PA.2.2))
  rw[e]
  exact hq _ _ ⟨z.keep,⟨ps,n,PA.1,PA.2.1,PA.2.2⟩,z.gens,z.os⟩
theorem LI.fin(z:LI ET L acc cnt s)(ha:acc.length<=10000000){Q:Fin->AN->Prop}(hx:text.size<=100000)(hq:∀s' t,LI ET L acc cnt s'->Q (.done (.ret (.str ⟨acc.toArray⟩ t))) s'):
  Ac Ak A (Y4 text 0 0 0>>=λj=>seqItems? (.ref L)>>=λy=>if(y.getD #[]).isEmpty=AC then Ax j>>=λv=>ret v else call (.builtin "str.join") [j, .ref L]>>=λv=>ret v) Q E s:=by
 refine AR (z.slice hx λs3 t3 z3=>?_)
 rw[(Array.extract_eq_empty_of_le (Qs ..):text.extract 0 0= #[])]
 refine B7 (z3.items) λps n AA8=>?_
 obtain⟨h1,h2,h3⟩:=AA8
 refine AR (VH h1 rfl (J_ (λhe=>AR (Aa ?_)) λhe=>AR (z3.join ha λs4 t4 z4=>Aa (hq s4 t4 z4))))
 have:ps=[]:=by unfold HZ at(he:(HZ ps).toArray.isEmpty=AC);simpa using (he:(HZ ps).toArray.isEmpty=AC)
 subst this
 cases h3
 exact Aa (hq s3 t3 z3)
end
end
section
open Builtin Builtin.Re
variable{X Y:AK->Prop}{σ τ υ:St}{A:BZ}{α β γ:Type}{m:Bool}{k:Nat}{q:Bool}{E:AE->AN->Prop}{s:AN}{P:AK}{code text:Array Nat}{x:AQ}{t:Cg}
theorem Be4{F:Nat->Option (Nat×Nat)}(hF:SJ code x.cps x.cps.size F){d:Nat}(hd:d<=x.cps.size){Q:Option MZ->AN->Prop}(hn:F d=AB->Q AB s)(hs:∀r,F d=AA r->∀m:MZ,m.start=r.1->m.handed=r.2->Q (AA m) s):
  Ac Ak A (reNextFound (tgt P code x t) d AD) Q E s:=by
 unfold reNextFound
 refine A3 (hF.run d hd) λn lg=>?_
 refine uh lg.2 lg.1 λm' hm=>?_
 cases hf:F d with
 |none=>rw[hf]at hm;exact .inr ⟨hm,hn hf⟩
 |some r=>rw[hf]at hm;exact .inl ⟨hm.1,hs r hf m' hm.2.1 hm.2.2⟩
theorem Be0{Q:Unit->AN->Prop}(hq:Q () s):Ac Ak A (wm (.str x t)) Q E s:=by
 unfold wm
 exact AR (Ic (a:=AA x) rfl (Aa hq))
theorem Av1{EB:AQ}{tr:Cg}{F:Nat->Option (Nat×Nat)}(hF:SJ code x.cps x.cps.size F)(hx:x.cps.size<=100000)(hr:EB.cps.size<=10)(ET:AN)(hP:G' ET.heap P code){R:EQ->AN->Prop}{L:AK}(hL:ET.heap.get? L=AB)(fuel:Nat):
  ∀(d:Nat) (cnt:Int) (s:AN) (acc:List Nat),x.cps.size<fuel+d->d<=x.cps.size->LI ET L acc (2*d) s->acc.length<=11*d->
   (∀s' t' c,LI ET L (acc++Gw F x.cps x.cps.size EB.cps.toList fuel d) c s'->R (.ok (.ret (.str ⟨(acc++Gw F x.cps x.cps.size EB.cps.toList fuel d).toArray⟩ t'))) s')->
   HX Ak A (.builtin "re.Pattern.sub.loop" ⟨[.ref P, .str x t, .str EB tr,C7 0,C7 0,C7 cnt,C7 d,C7 d, .bool AD, .ref L, .bool AD],[]⟩) R s:=by
 induction fuel with
 |zero=>exactλd cnt s acc hf hd _ _ _=>absurd hf (Cp.mpr (AO (BR (IX d)) hd))
 |succ fuel ih=>
  intro d cnt s acc hf hd z KF hR
  refine Oe RF.entry_loop ?_
  unfold Builtin.«re.Pattern.sub.loop»
  refine AR (uk (hP.keeps z.keep) (AR (Be0 (AR (Be4 hF hd (λhn=>?_) λr hs m j' kA=>?_)))))
  ·have M5:Gw F x.cps x.cps.size EB.cps.toList (fuel+1) d=(x.cps.extract d x.cps.size).toList:=by show(F d).elim _ _=_;simp only[hn];rfl
   rw[M5]at hR
   have Bh:(x.cps.extract d x.cps.size).toList.length<=x.cps.size:=by rw[En,YT];exact AO (Um _ _) (Qs _ _)
   have FL:(acc++(x.cps.extract d x.cps.size).toList).length<=10000000:=by rw[A1];exact AO (Bf (AO KF (DM 11 (AO hd hx))) (AO Bh hx)) (by decide)
   exact z.piece hL (AO (DM 2 (AO hd hx)) (by decide)) hx λs' z'=>z'.fin FL hx λs4 t4 z4=>hR s4 t4 _ z4
  ·obtain⟨b,e⟩:=r
   obtain⟨o1,o2,o3⟩:=hF.ord d _ hs
   have M5:Gw F x.cps x.cps.size EB.cps.toList (fuel+1) d=(x.cps.extract d b).toList++EB.cps.toList++Gw F x.cps x.cps.size EB.cps.toList fuel e:=by show(F d).elim _ _=_;simp only[hs];rfl
   rw[M5,<-B2,<-B2]at hR
   have hex:(x.cps.extract d b).toList.length<=b - d:=by rw[En,YT];exact iP (Qs _ _) _
   dsimp only at o1 o2 o3 j' kA
   subst j' kA
   refine z.piece hL (AO (DM 2 (AO hd hx)) (by decide)) hx λs1 z1=>AR (Aa ?_)
   show Ac _ _ (if(U0 EB tr !=Uz)=AC then _ else _) _ _ _
   refine MQ (show(U0 EB tr !=Uz)=AC from rfl) ?_
   refine AR (z1.push hL (AO (CT (DM 2 (AO hd hx))) (by decide)) λs2 z2=>Aa ⟨RF.quiet_loop _,?_⟩)
   rw[beq_eq_false_iff_ne.mpr (HV o2)]
   exact ih _ (cnt+1) s2 _ (CI hf (by rw[Qp,OL 1 d];exact EP (Bg o1 o2) _)) o3 ⟨z2.keep,z2.items.imp λ_ h=>h.imp λ_ h=>⟨h.1,AO h.2.1 (DM 2 (Bg o1 o2)),h.2.2⟩,z2.gens,z2.os⟩ (by
    rw[A1,A1]
    refine AO (Bf (Bf KF (AO hex (wJ _ (by decide:0<11)))) (hr:EB.cps.toList.length<=10)) ?_
    rw[<-Nat.mul_add,Nat.add_sub_of_le o1]
    exact AO (EP (by decide:10<=11) _) (DM 11 o2)) hR
end
section
open Builtin Builtin.Re
variable{X Y:AK->Prop}{σ τ υ:St}{A:BZ}{α β γ:Type}{m:Bool}{k:Nat}{q:Bool}{f g:List CV->AL->R CV}{P:AK}{code text:Array Nat}{x:AQ}{t:Cg}
noncomputable def F2(text:Array Nat)(d:Nat):Option (Nat×Nat):=(K9 text text.size (text.size+1 - d) d).map λs=>(s,s+FZ text text.size s)
noncomputable def F1(text:Array Nat)(d:Nat):Option (Nat×Nat):=(Gq text text.size (text.size - d) d).map λs=>(s,s+1)
theorem cN{lim:Nat}:∀{fuel s r:Nat},Gq text lim fuel s=AA r->s<=r/\r<lim:=λ{fuel}=>by
 have at_:∀{s},EY text lim s=AC->s<lim:=λh=>of_decide_eq_true (IR.mp (IR.mp h).2).1
 induction fuel with
 |zero=>
  intro s r h
  by_cases hd:EY text lim s=AC
  ·cases (Ws hd).symm.trans h;exact⟨BL _,at_ hd⟩
  ·exact Af ((if_neg hd).symm.trans h)
 |succ f ih=>
  intro s r h
  by_cases hd:EY text lim s=AC
  ·cases (Ws hd).symm.trans h;exact⟨BL _,at_ hd⟩
  ·have h:Gq text lim f (s+1)=AA r:=(if_neg hd).symm.trans h
   exact⟨Gz (ih h).1,(ih h).2⟩
theorem Ah3(_:text.size<=100000):SJ Iw text text.size (F2 text) where
 run p hp:=by
  refine⟨40,by decide,?_⟩
  have:=Ag6 text p text.size hp
  unfold F2
  cases h:K9 text text.size (text.size+1 - p) p<;>rw[h]at this<;>exact this
 ord p r h:=by
  obtain⟨s,hn,rfl⟩:=DD.mp h
  have hl:(1<=FZ text text.size s)/\s+FZ text text.size s<=text.size:=by
   unfold FZ
   by_cases hh:text.getD s 0=13/\s+1<text.size/\text.getD (s+1) 0=10
   ·rw[if_pos hh];exact⟨by decide,hh.2.1⟩
   ·rw[if_neg hh];exact⟨by decide,(eu hn).1⟩
  exact⟨(eu hn).2.1,Qq hl.1,hl.2⟩
theorem Ah2(ht:text.size<=100000):SJ IA text text.size (F1 text) where
 run p hp:=by
  refine⟨6*text.size+20,AO (C3 (DM 6 ht) 20) (by decide),?_⟩
  have:=Ag5 text p text.size hp
  unfold F1
  unfold G8 at this
  cases h:Gq text text.size (text.size - p) p<;>rw[h]at this<;>exact this
 ord p r h:=by
  obtain⟨s,hn,rfl⟩:=DD.mp h
  exact⟨(cN hn).1,J5 _,(cN hn).2⟩
noncomputable def LD(F:Array Nat->Nat->Option (Nat×Nat))(EB x:T):T:=Gw (F x.toArray) x.toArray x.length EB (x.length+1) 0
noncomputable def FW(P:AK)(_:AL)(c:CV):Option Unit:=DX c AB (zv:=λx=>match x with
  | .ref a=>if a=P then AA ()else AB
  |_=>AB)
theorem vP:Vw (FW P) λ_ _ v=>v= .ref P:=λ{σ c a v} _ e h=>by
 cases c with
 |top u=>
  cases u with
  |ref b=>exact(QP e).1▸h
  |_=>first|exact Af e|cases e
 |_=>first|exact Af e|cases e
theorem bF(hP:G' BH.heap P code)(ok:Ok σ):NC "re.Pattern" σ (.ref P):=by
 obtain⟨o,fs,c,oc,items,n,h1,h2,h3,_⟩:=hP.keeps ok.keep
 exact⟨⟨o,h1,h2⟩,λb q=>by cases q;exact⟨o,h1,h3⟩⟩
theorem DH.p{id:String}{n:AQ}(hP:G' BH.heap P code)(pa:Y_ "re.Pattern")(slot:LX "re.Pattern" n id)(M7:Ld (.builtin id)=Ax (.type "method_descriptor"))(h:BA m k q (HL (.builtin id)) g):DH m k q n (FY (FW P)) (.builtin id) [] g:=
 .built pa slot M7 (λ{σ c u} ok hv hi=>by
  obtain⟨a,e⟩:=Y1.mp hi
  cases vP ok e hv
  exact bF hP ok) h
theorem Ay6(id f:String)(a b:AE):Y3 id f ["repl","string","count"] 2 [a,b] []=Ax [AA a,AA b,AB]:=rfl
noncomputable def MJ(F:Array Nat->Nat->Option (Nat×Nat))(P:AK):List CV->AL->R CV:=I5 (FW P) BX BX λ_ EB x o=>if x.length<=100000/\EB.length<=10/\EB.contains 92=AD then .ok (.str (LD F EB x)) o else .no
theorem qu{F:Array Nat->Nat->Option (Nat×Nat)}(hP:G' BH.heap P code)(hF:∀text:Array Nat,text.size<=100000->SJ code text text.size (F text)):DH m k q "sub" (FY (FW P)) (.builtin "re.Pattern.sub") [] (MJ F P):=
 .p hP RF.plainAttrs_pattern RF.slot_sub RF.type_sub (.on3 vP vS vS λA σ a EB x u v z hR ok h h' JU=> .ite λhc=> .of λ_ Q E hQ _=>by
  obtain⟨tr,rfl⟩:=h'
  obtain⟨tx,rfl⟩:=JU
  subst h
  have hp:=hP.keeps ok.keep
  refine VF (ZG RF.slot_sub.plain RF.entry_sub (RF.slot_sub.check _ _ _ _ _ _ _ _ (bF hP ok).1 (RF.args_sub _ _ _) ?_))
  unfold Builtin.«re.Pattern.sub» reSubstitute
  show Ac _ _ (Y3 _ _ _ 2 [_,_] []>>=_) _ _ _
  rw[Ay6]
  refine AR (Aa (AR (Aa (AR (wpAny_specialOf_val rfl RF.call_str (AR (Ic (a:=AA (AU EB)) rfl ?_)))))))
  have y':(!(AU EB).cps.contains 92)=AC:=by simp only[YX,<-hc.2.2];exact List.contains_toArray
  refine AR (Aa ?_)
  rw[y']
  refine AR (Aa (AR (D_ (uk hp (AR (VG (Aa ⟨RF.quiet_loop _,?_⟩)))))))
  refine Av1 (F:=F (AU x).cps) (hF _ hc.1) hc.1 hc.2.1 σ.s hp (get?_size _) (x.length+1) 0 0 _ [] (J5 _) (D2 _) ⟨λb ob h=>CW _ h,⟨[],_,CQ _ rfl,BL _,rfl⟩,rfl,rfl⟩ (D2 _) λs' t' c z=>?_
  exact hQ.grow (s':=s') ok z.keep z.gens z.os rfl ⟨t',rfl⟩)
theorem Ay7(id f:String)(a:AE):Y3 id f ["string","pos","endpos"] 1 [a] []=Ax [AA a,AB,AB]:=rfl
theorem Be6{E:AE->AN->Prop}{s:AN}(hp:G' s.heap P code)(hx:x.cps.size<=100000){id f:String}{Q:ReTarget->AN->Prop}(hq:Q (tgt P code x t) s):Ac Ak A (reTarget id f ⟨[.ref P, .str x t],[]⟩) Q E s:=by
 obtain⟨o,fs,c,oc,items,n,h1,h2,h3,h4,h5,h6,h7,h8,h9,CF⟩:=hp
 unfold reTarget
 show Ac _ _ (Y3 _ _ _ 1 [_] []>>=_) _ _ _
 rw[Ay7]
 refine AR (Aa (AR (Aa (AR (Aa (AR (ZQ h1 h4 (AR (ui ?_)))))))))
 rw[h6]
 refine AR ?_
 rw[h7]
 refine Aa (AR (ug h8 h9 (Aa ?_)))
 simp only[h5,CF,show min (0:Int).toNat x.cps.size=0 from Nat.zero_min _,show min (2^63 - 1:Int).toNat x.cps.size=x.cps.size from wP (AO hx (by decide))]
 exact hq
noncomputable def Nz(f:Nat->Bool)(P:AK):List CV->AL->R CV:=BN (FW P) BX λ_ x o=>if x.length<=100000 then .ok (if x.any f=AC then .mat else .none) o else .no
theorem qt{pc:Nat}{f:Nat->Bool}(hP:G' BH.heap P code)(o:SQ code pc f):DH m k q "search" (FY (FW P)) (.builtin "re.Pattern.search") [] (Nz f P):=
 .p hP RF.plainAttrs_pattern RF.slot_search RF.type_search (.on2 vP vS λA σ a x u z hR ok h h'=> .ite λhx=> .of λ_ Q E hQ _=>by
  refine A3 (h') λtx AA4=>?_
  obtain rfl:=AA4
  subst h
  refine VF (ZG RF.slot_search.plain RF.entry_search (RF.slot_search.check _ _ _ _ _ _ _ _ (bF hP ok).1 (RF.args_search _ _) ?_))
  unfold Builtin.«re.Pattern.search»
  refine AR (Be6 (hP.keeps ok.keep) hx ?_)
  unfold reAnswer
  have yY:(Gu f (AU x).cps (AU x).cps.size ((AU x).cps.size+1) 0).isSome=x.any f:=BG0 (AO (Da _) (JG ..))
  refine AR (uh (Ag8 o (AU x).cps 0 (AU x).cps.size (D2 _)) (by decide) λm' hm=>?_)
  rw[<-yY]at hQ
  rw[Nat.sub_zero]at hm
  cases hs:Gu f (AU x).cps (AU x).cps.size ((AU x).cps.size+1) 0 with
  |none=>rw[hs]at hm hQ;exact .inr ⟨hm,Aa (hQ.here rfl ok rfl)⟩
  |some i=>
   rw[hs]at hm hQ
   refine .inl ⟨hm.1,AR ?_⟩
   unfold reNewMatch
   refine AR (jK (items:=[C7 (m'.start:Nat),C7 (m'.handed:Nat)]) (Le (T:="re.Match") (Aa ?_) (by show(5:Nat)+1<=_;decide)))
   exact hQ .mat _ ((σ.push _ σ.s.toks).push _ σ.s.toks) rfl ((Av.push _ _).trans (Av.push _ _)) ((ok.push _ _).push _ _) ⟨_,rfl,_,⟨CQ _ rfl,(ok.push _ σ.s.toks).notM⟩,rfl⟩)
end
section
variable{X Y:AK->Prop}{σ τ υ:St}{A:BZ}{α β γ:Type}{m:Bool}{k:Nat}{q:Bool}
section
variable{fx:Fx}{n:AQ}{pos p1 p2:BK}{e l r x y:Ab}{es:List Ab}{f g:List CV->AL->R CV}{kd:Nat}
section
variable{env:A7}{AI:AY}{st:Bd}{ss:List Bd}
section
theorem Bs.in1(h:Bs A (k+1) q σ):Bs A.in1 k q σ:=by
 have h1:=h.depth
 have h2:=h.units
 exact⟨QE (j:=0) (by decide) h1,QE (by decide) h2,h.hand,h.frames⟩
noncomputable def Sd(C:AK)(name:AQ)(o:AL)(c:CV):Option CV:=if Cz C name o c=AC then AA c else AB
theorem uR{C:AK}{name:AQ}:Vw (Sd C name) λσ c v=>V σ c v/\Cz C name σ.o c=AC:=λ{σ c a v} ok e h=>by
 obtain⟨h1,h2⟩:=QP e
 cases h2;exact⟨h,h1⟩
theorem rf{C f:AK}{mN:AQ->Option AE}{name:AQ}{c:CV}{u:AE}(M:PO C mN name f)(ok:Ok σ)(h:V σ c u/\Cz C name σ.o c=AC):∃x,u= .ref x/\σ.h.OwnSpecial x C f "object" name:=by
 refine B7 (pk ok h.1 h.2) λx mA lh=>?_
 obtain rfl:=lh.1
 obtain⟨N,nm,q,bs,sn,sub,col,dd,k0,k1,k2,k3,k5,hC,hN⟩:=M.cls.obj
 refine A3 (M.fn) λof li=>?_
 obtain⟨y,hy⟩:=M.hB
 refine A3 (lh.2.1) λob lj=>?_
 exact⟨x,rfl,ob,of,nm,q,N,bs,_,AC,sn,sub,AD,col,dd,k0,k1,k2,k3,k5,_,mN,y,lj.1,lj.2.1,ok.keep _ _ hC,hN.keeps ok.keep,M.at_,ok.keep _ _ li.1,li.2,rfl,hy⟩
noncomputable def fH(C:AK)(g:List CV->AL->R CV):List CV->AL->R CV:=BP (Eb (Sd C "__len__") λc o=>(g [c] o).bind λr o'=>(Bq o' r).elim .no λn=>if 0<=n/\n<2^62 then .ok (.int n) o' else .no) Ho
theorem AQ8{C f:AK}{mN:AQ->Option AE}(M:PO C mN "__len__" f)(hg:Bi AD k q (.ref f) [] g):BA m (k+1) q (HL (.builtin "len")) (fH C g):=
 .alt (.on1 uR λA σ c u hR ok h hn ht Q E hQ hE=>wq.of (by
  obtain⟨x,rfl,S⟩:=rf M ok h
  refine len_own S (((hg A.in1 σ [c] [.ref x] [] hR.in1 ok (.one h.1) rfl).run (R.bind_ne hn) ht (λa v τ e st A6 _ hv=>?_) hE.bind:wq AD Ak _ _ _ _ _).any)
  rw[e]at hn hQ
  obtain⟨n,e2⟩:=HG (x:=Bq τ.o a) hn
  have e3:(Bq τ.o a).elim R.no (λn=>if 0<=n/\n<2^62 then R.ok (CV.int n) τ.o else .no)=if 0<=n/\n<2^62 then R.ok (CV.int n) τ.o else .no:=by rw[e2];rfl
  obtain⟨tk,rfl⟩:=vI A6 e2 hv
  by_cases hs:0<=n/\n<2^62
  ·rw[if_pos hs]at e3
   exact⟨n,tk,rfl,hs.1,IS hs.2 (by decide),(hQ.after st).tk e3 A6 ⟨_,rfl⟩⟩
  ·exact absurd (e3.trans (if_neg hs)) hn)) bL
noncomputable def SZ(c:CV):Option Bool:=DX c AB (zb:=λb=>AA b)
theorem vBo{c:CV}{b:Bool}{v:AE}(e:SZ c=AA b)(h:V σ c v):v= .bool b:=(CV.only (f:=SZ) (P:=λc b=>V σ c v->v= .bool b) e Am (λ_ _ e h=>CU e▸h) (λ_=>Am) (λ_=>Am) (λ_=>Am) (λ_=>Am) (λ_ _=>Am) (λ_=>Am) (λ_=>Am) (λ_ _=>Am) Am (λ_=>Am) (λ_ _=>Am) (λ_ _=>Am):V σ c v->_) h
noncomputable def fL(C:AK)(g:List CV->AL->R CV):List CV->AL->R CV:=BN FV (Sd C "__contains__") λx c o=>(g [c,x] o).bind λr o'=>(SZ r).elim .no λb=> .ok (.bool (!b)) o'
theorem A66{C f:AK}{mN:AQ->Option AE}(M:PO C mN "__contains__" f)(hg:Bi AD k q (.ref f) [] g):BA m k q (GA .NotIn) (fL C g):= .on2 vC uR λA σ x c u v hR ok h h' hn ht Q E hQ hE=>wq.of (by
 obtain⟨y,rfl,S⟩:=rf M ok h'
 show Ac _ _ (compareOp .NotIn u (.ref y)) _ _ _
 unfold compareOp contains
 refine AR (D_ ?_)
 rw[stdlibNamesSay?_ref]
 refine AR (xl S ?_)
 obtain⟨of,Ri,yp⟩:=M.fn
 refine AR ?_
 unfold callSpecialUnlessNone?
 refine AR (xl S (D_ (AR (wpAny_bindSpecial_def (ok.keep _ _ Ri) yp (AR ?_)))))
 refine((hg A σ [c,x] [.ref y,u] [] hR ok (.two h'.1 h) rfl).run (R.bind_ne hn) ht (λa v τ e st A6 _ hv=>?_) hE.bind:wq AD Ak _ _ _ _ _).any
 rw[e]at hn hQ
 obtain⟨b,e2⟩:=HG (x:=SZ a) hn
 cases vBo e2 hv
 exact Aa (xo (Aa ((hQ.after st).here (a:=CV.bool (!b)) (show(SZ a).elim R.no _=_ by rw[e2];rfl) A6 rfl))))
noncomputable abbrev St.plc(σ:St)(Xs:AK->Prop)(s':AN):St:={W:={ρ:=σ.W.ρ,M:=λa=>σ.W.M a\/Xs a,F:=σ.W.F},o:=σ.o,s:=s'}
section
variable{Xs:AK->Prop}{s':AN}(ok:Ok σ)(hk:∀a o,σ.h.get? a=AA o->s'.heap.get? a=AA o)(hg:s'.gens=σ.s.gens)(ho:s'.os=σ.s.os)(hn:∀a,Xs a->σ.h.get? a=AB/\∃o,s'.heap.get? a=AA o)
include hk hn
theorem Av.plc:Av X σ (σ.plc Xs s'):=⟨⟨[],(BJ _).symm⟩,λ_ h=> .inl h,λa h=>h.imp id λh=>(hn a h).1,λ_ h=> .inl h,λ_=>Fh,λa o h=>⟨o,hk a o h⟩,λa o h _ _=>⟨λ_=>hk a o h,o.slots,hk a o h⟩⟩
include ok hg ho
theorem Ok.plc:Ok (σ.plc Xs s'):=⟨ok.len,ok.dist,λa h=>⟨.inl (ok.omM a h).1,(ok.omM a h).2⟩,λa h=>⟨.inl (ok.FM a h).1,(ok.FM a h).2.imp λ_ h=>h.imp λ_ h=>h.imp λ_ h=>⟨hk _ _ h.1,h.2⟩⟩,λa h=>h.elim (λh=>⟨(ok.Mlt a h).1.imp λ_ h=>hk a _ h,(ok.Mlt a h).2⟩) λh=>⟨(hn a h).2,ok.none_of (hn a h).1⟩,λb o h=>hk b o (ok.keep b o h),hg.trans ok.gens,ho.trans ok.os,λi o p h1 h2=>(ok.rel i o p h1 h2).kp (ok.kp (Av.plc hk hn)) (hk _) (hk _)⟩
omit hk hg ho in
theorem Ci.plc(ne:∀a,Xs a->∀o,s'.heap.get? a=AA o->K_ o):Ci Xs (σ.plc Xs s'):=⟨λa h=>have n:=ok.no_new (hn a h).1;⟨.inr h,n⟩,ne⟩
end
noncomputable def YA(cs:List CV):Cv:=λ_ n=>AA (cs[n]?.map λx=>CV.tup [.int n,x])
theorem pw{elts:List Ab}{e it:AK}(cs:List CV):Kf k (.Tuple elts kd pos) (.ref e) (λa=>a=e\/a=it) (YA cs) λσ n=>e≠it/\(∃l ws,σ.sq "list" l ws/\Vs σ cs ws/\σ.h.IsListIter it l n)/\∃G7,IsEnum σ.h e it n G7 where
 keep:=λ{X σ τ n} st kp O h hi=>by
  have kk:∀a,(a=e\/a=it)->∀o,σ.h.get? a=AA o->τ.h.get? a=AA o:=λa ha o ho=>(st.kept a o ho (O.M a ha).2.1 (h a ha)).1 (O.M a ha).2.2
  exact⟨hi.1,hi.2.1.imp λl h=>h.imp λws h=>⟨kp.sq _ _ _ h.1,kp.vs _ h.2.1,h.2.2.imp λo h=>⟨kk _ (.inr rfl) _ h.1,h.2⟩⟩,hi.2.2.imp λ_ h=>kk _ (.inl rfl) _ h⟩
 live hi a e:=e.elim (λe=>e▸hi.2.2.imp' _ λ_ h=>h) λe=>e▸hi.2.1.elim λ_ h=>h.elim λ_ h=>h.2.2.imp λ_ h=>h.1
 ne hi a e o ho:= .inr (e.elim (λe=>by subst e;obtain⟨_,h⟩:=hi.2.2;rw[<-D0 h ho];exact(by decide:IC (.type "enumerate")=AD)) λe=>by subst e;obtain⟨_,_,_,_,o',h1,h2,_⟩:=hi.2.1;rw[<-D0 h1 ho,h2];exact(by decide:IC (.type "list_iterator")=AD))
 next:=λ{A σ n r Q E} hR ok O hi hs Mv KM=>by
  obtain⟨B3,⟨l,ws,h1,h3,h4⟩,G7,h8⟩:=hi
  cases hs
  have hl:=Bu h1.choose_spec.1
  cases hx:ws.toArray[n]? with
  |none=>
   refine wpAny_pyNext_enum_end (hR.hand rfl) h8 h4 hl hx λh' hb=>Mv _ ?_ ⟨λa o q1 q2=>hb a o (λq=>q2 (.inr q)) q1,rfl,rfl⟩
   rw[IT,OH,<-h3.len,<-OH]at hx
   rw[hx];rfl
  |some x=>
   refine wpAny_pyNext_enum_item h8 h4 hl hx B3 λh' VZ Lj ht Fu hb=>?_
   rw[IT]at hx
   obtain⟨u,hu,Rx⟩:=h3.get (B8 _:cs[n]? =AA (cs[n]'(by simp only[h3.len];exact GV hx)))
   rw[hx]at hu;first|exact Af hu|cases hu
   refine KM (.tup [.int n,_]) _ _ (by simp only[(B8 _:cs[n]? =AA (cs[n]'(by simp only[h3.len];exact GV hx)))];rfl) λQ' E' hq=>wpAny_letOwnedTupleGo_enum VZ λJU jv GJ=>?_
   have Vc:JU.IsListIter it l (n+1):=Lj.imp λo h=>⟨(GJ.2 it B3.symm).trans h.1,h.2⟩
   refine hq _ ⟨λa o q1 q2=>(GJ.2 a λq=>q2 (.inl q)).trans (hb a o (λq=>q2 (.inl q)) (λq=>q2 (.inr q)) q1),rfl,rfl⟩ (λkp=>⟨⟨_,[_,x],rfl,⟨0,(GJ.2 _ (λq=>Eu _ (q▸Ew h8):σ.h.objs.size≠e)).trans ht,ok.notM⟩, .two ⟨_,rfl⟩ (kp.v _ Rx)⟩,B3,⟨l,ws,kp.sq _ _ _ h1,kp.vs _ h3,Vc⟩,_,jv⟩) λa h=>h.elim (λh=>h▸⟨_,jv⟩) λh=>h▸Vc.imp λ_ h=>h.1
noncomputable def L1:List CV->Option (List CV)
 |[.lst l]=>AA l
 |_=>AB
noncomputable def mB(σ:St)(elts:List Ab)(kd:Nat)(pos:BK)(k:Nat)(τ:St)(cs:List CV)(v:AE):Prop:=∃Xs I υ,Kf k (.Tuple elts kd pos) v Xs (YA cs) I/\aq v I/\I τ 0/\Lt σ υ/\Ok υ/\Lt υ τ/\υ.o=τ.o/\Ci Xs τ/\∀a,Xs a->υ.h.get? a=AB
theorem Ab9{elts:List Ab}{l:List CV}{vs:List AE}(ok:Ok υ)(st:Lt σ υ)(hv:Vs υ l vs):Ev m (mB σ elts kd pos k) A (call (.type "enumerate") vs) υ ((L1 l).elim .no λcs=> .ok cs υ.o):= .opt λcs e=> .of λ_ Q E hQ _=>by
 cases l with
 |nil=>first|exact Af e|cases e
 |cons c l=>
  cases l with
  |nil=>
   cases c<;>cases e
   obtain⟨v,_,rfl,⟨l,ws,rfl,h1,h3⟩,rfl⟩:=hv
   refine call_enumerate_1 h1.choose_spec.1 λh' he hi Fu hk=>?_
   have hn:∀a,(a=υ.h.objs.size+1\/a=υ.h.objs.size)->υ.h.get? a=AB/\∃o,h'.get? a=AA o:=λa h=>h.elim (λh=>by
    subst h
    refine⟨?_,_,he⟩
    cases q:υ.h.get? (υ.h.objs.size+1)with
    |none=>rfl
    |some o=>exact absurd (Ew q) (Cp.mpr (Da _))) λh=>h▸⟨get?_size _,hi.imp λ_ h=>h.1⟩
   have BF:=Av.plc (X:=HJ) (σ:=υ) (s':={υ.s with heap:=h'}) hk hn
   have I0:υ.h.objs.size+1≠υ.h.objs.size/\(∃l ws,(υ.plc _ {υ.s with heap:=h'}).sq "list" l ws/\Vs (υ.plc _ {υ.s with heap:=h'}) cs ws/\h'.IsListIter υ.h.objs.size l 0)/\∃G7,IsEnum h' (υ.h.objs.size+1) υ.h.objs.size 0 G7:=⟨wT _,⟨l,ws,(ok.kp BF).sq _ _ _ h1,(ok.kp BF).vs _ h3,hi⟩,_,he⟩
   exact hQ cs _ (υ.plc _ {υ.s with heap:=h'}) rfl BF (ok.plc hk rfl rfl hn) ⟨_,_,υ,(pw (k:=k) (elts:=elts) (kd:=kd) (pos:=pos) (e:=υ.h.objs.size+1) (it:=υ.h.objs.size) cs),λ_ _ _ _ _ h hq=>h.2.2.elim λ_ h=>wpAny_pyIter_enum h hq,I0,st,ok,BF,rfl, .plc ok hn λa h=>(pw (k:=k) (elts:=elts) (kd:=kd) (pos:=pos) (e:=υ.h.objs.size+1) (it:=υ.h.objs.size) cs).ne (n:=0) I0 a h,λa h=>(hn a h).1⟩
  |cons=>cases c<;>cases e
noncomputable def NU(d:DL)(g:DG)(b:DS):DS:=λAI objs=>((d AI objs).bind λl o=>(L1 l).elim .no λcs=> .ok cs o).s AI λcs o=>ID (YA cs) g b (cs.length+1) 0 AI o
theorem BL5{elts:List Ab}{d:DL}{g:DG}{b:DS}(hx:Aj m k AC fx (.Name n p1) (AG (.top (.type "enumerate"))))(ha:H6 m k AC fx p2 [e] [] [] d)(hg:DU m k AC fx (.Tuple elts kd pos) g)(hb:Dy m k AC fx ss b)
  (hs:∀env x',Mj (.Call (.Name n p1) [e] [] p2) env x'=Ax x') {p3:BK}:DV m k AC fx (.For (.Tuple elts kd pos) (.Call (.Name n p1) [e] [] p2) ss [] p3) (NU d g b):=λA env σ AI p=>by
 have EN:Ev m (mB σ elts kd pos k) A (B_ (.Call (.Name n p1) [e] [] p2) env) σ ((d AI σ.o).bind λl o=>(L1 l).elim .no λcs=> .ok cs o):=
  Ev.one (f:=λf=>Mf p2 f [] (Dd p2 (CX [e] env)) (G3 p2 (G4 [] env))) (g:=λo=>(d AI o).bind λl o=>(L1 l).elim .no λcs=> .ok cs o) (hx _ _ _ _ p) λv τ st ok h=>by
   cases h
   refine S4 (ha.plain env) Nn (ha.ev _ _ _ _ _ (p.step st ok)) λcs x υ BF BE ⟨ks,Zo,hv,hl⟩=>?_
   cases Gy.mp hl
   rw[BJ]at hv
   rw[Zo]
   exact Ab9 BE (st.trans BF) hv
 refine .stand λhn ht Q E hQ hE=>Bm (EN.run (R.s_ne hn) ht (λcs v τ e st ok ht h=>?_) λc v τ e st ok x=>hE c v AI τ (by unfold NU;rw[e];rfl) st.up ok (p.step st ok).e x)
 refine Hr (h) λXs I υ G6=>?_
 unfold NU at hn hQ
 rw[e]at hn hQ
 rw[hs env v]
 exact Bm (EM (Bm (UR (Bm (UQ (wq.of (G6.2.1 _ _ _ _ _ G6.2.2.1 (gc (pJ (N:=cs.length+1) G6.1 hg hb G6.2.2.2.2.1 (p.step G6.2.2.2.1 G6.2.2.2.2.1).e G6.2.2.2.2.2.2.2.2 hn (λf Jc FO Hd h=>hQ f Jc (G6.2.2.2.1.up.trans FO) Hd h) (.mk 0 τ AI rfl ((p.step G6.2.2.2.1 G6.2.2.2.2.1).step G6.2.2.2.2.2.1 ok) G6.2.2.2.2.2.2.2.1 G6.2.2.2.2.2.1.up G6.2.2.1 rfl ht))))))))))
end
end
end
end
section
set_option maxHeartbeats 4000000
variable{X Y:AK->Prop}{σ τ υ:St}{A:BZ}{α β γ:Type}{m:Bool}{k:Nat}{q:Bool}
section
open Builtin Builtin.Str KPc
variable{M:GH}{A:BZ}{E:AE->AN->Prop}{s:AN}{f:Nat->List AE×Db×List Nat->Ao (ForInStep (List AE×Db×List Nat))}{Q:List AE×Db×List Nat->AN->Prop}
theorem YR{α:Type}{M:GH}{A:BZ}{E:AE->AN->Prop}{s:AN}{x y:Ao α}{Q:α->AN->Prop}(e:x=y)(h:Ac M A y Q E s):Ac M A x Q E s:=e▸h
theorem MK{i:Nat}{l r r':List Nat}{p p':List AE}{w:Db}{T x y:AQ}{N:Nat}{o:Option AE}{X:Ao (ForInStep (List AE×Db×List Nat))}(h:f i (p,w,r)=if Gd w.total=AC then X else Ax (.yield (p',w.add x o,r')))(g:Oa w T N)(hN:N<=16777216)(hx:x=y)(ho:KPc.Obj o y)
  (k:∀w',Oa w' (T++y) (N+y.length)->Ac M A (LJ l (p',w',r') f) Q E s):Ac M A (LJ (i::l) (p,w,r) f) Q E s:=
 ix (by subst hx;rw[h,if_neg (iw g hN)];exact Aa (k _ (good_add g ho)))
theorem rk{i:Nat}{l r:List Nat}{p:List AE}{w:Db}{T:AQ}{N:Nat}{X:Ao (ForInStep (List AE×Db×List Nat))}(h:f i (p,w,r)=if Gd w.total=AC then X else Ax (.done (p,w,r)))(g:Oa w T N)(hN:N<=16777216)(k:Q (p,w,r) s):Ac M A (LJ (i::l) (p,w,r) f) Q E s:=
 ix (by rw[h,if_neg (iw g hN)];exact Aa k)
theorem A37{v:AE}{y:AQ}{o0 o1 o2:Option AE}{X0 X1 X2 X3:Db->Ao (ForInStep (List AE×Db×List Nat))}(hy:y.length<=1000000)
  (h0:∀w:Db,f 0 ([v],w,[123,37,115,125])=if Gd w.total=AC then X0 w else Ax (.yield ([v],w.add ⟨#[123]⟩ o0,[37,115,125])))
  (h1:∀w:Db,f 1 ([v],w,[37,115,125])=if Gd w.total=AC then X1 w else Ax (.yield ([],w.add ⟨y.cps.toList.toArray⟩ o1,[125])))
  (h2:∀w:Db,f 2 ([],w,[125])=if Gd w.total=AC then X2 w else Ax (.yield ([],w.add ⟨#[125]⟩ o2,[])))
  (h3:∀w:Db,f 3 ([],w,[])=if Gd w.total=AC then X3 w else Ax (.done ([],w,[])))
  (e:o0=AB/\o1=AB/\o2=AB) (k:∀w',Oa w' (((Str.empty++⟨#[123]⟩)++y)++⟨#[125]⟩) (0+1+y.length+1)->Q ([],w',[]) s):Ac M A (LJ [0,1,2,3] ([v],({}:Db),[123,37,115,125]) f) Q E s:=
 MK (h0 _) good0 (by decide) rfl (Mb e.1) λw g=>MK (h1 w) g (show 1<=16777216 by decide) rfl (Mb e.2.1) λw g=>MK (h2 w) g (show 0+1+y.length<=16777216 by exact AO (EP (by assumption) _) (by decide)) rfl (Mb e.2.2) λw g=>rk (h3 w) g (show 0+1+y.length+1<=16777216 from AO (CT (EP hy (0+1))) (by decide)) (k w g)
theorem Aw4(t u:Cg):∀z:AQ,z.length<=1000000->Meets («str.__mod__» ⟨[.str (⟨#[123,37,115,125]⟩:AQ) t, .str z u],[]⟩) (λ_ R s=>∀t' k,R (.ok (.ret (.str ((CR "{"++z)++CR "}") t'))) {s with toks:=k}):=λz hz=>meets_of λ_ _ _ _ _ _ hq=>by
 refine YR (entry_is_s _ _ _ _) ?_
 refine AR (RJ (Ha _ _ _) F.sub_str_tuple (AR (Ic (a:=AA _) rfl (AR (wp_fills_str λb=>AR (Ic (a:=[.str z u]) rfl (AR (YR (iu _ _ _) (A37 (y:=z) hz (λw=>rfl) (λw=>rfl) (λw=>rfl) (λw=>rfl) ⟨rfl,rfl,rfl⟩ λw' g=>?_)))))))))
 exact(finish_ok g (show 0+1+z.length+1<=16777216 from AO (CT (EP hz (0+1))) (by decide)) (by rw[empty_app];rfl) hq:Ac _ _ (w'.finish "str.__mod__") _ _ _)
theorem A39{prog:Fk}{wd:C6}{l r r':List Nat}{i:Nat}{p p':List AE}{w:Db}{T:AQ}{N:Nat}{n:Int}{c:Percent}(h0:0<=n)(h1:n<10^10)
  (h:∀Q':ForInStep (List AE×Db×List Nat)->AN->Prop,¬Gd w.total=AC->n.natAbs.log2<1920->(∀tk,Q' (.yield (p',w.add ⟨(percentInt c (decide (n<0)) (CR (Ey ((n.natAbs:Nat):Int))).cps.toList).toArray⟩ AB,r')) {s with toks:=tk})->Ac (Bo prog wd) A (f i (p,w,r)) Q' E s)
  (c1:c.alt=AD) (c2:c.type=100) (c3:c.prec=AB) (g:Oa w T N) (hN:N<=16777216) (k:∀w' tk,Oa w' (T++CR (Ey n)) (N+10)->Ac (Bo prog wd) A (LJ l (p',w',r') f) Q E {s with toks:=tk}):Ac (Bo prog wd) A (LJ (i::l) (p,w,r) f) Q E s:=
 ix (h _ (iw g hN) (shown (N:=2^1920) (Yc (by decide) h0) (IS h1 (by decide)) (YZ _)) λtk=>KPc.after_int g c1 (.inl c2) c3 h0 h1 rfl rfl λw' g=>k w' tk g)
theorem A38{prog:Fk}{wd:C6}{x y:AQ}{n:Int}{t1 t2 t3:Cg}{c:Percent}{X0 X1 X3 X4 X5 X6:Db->Ao (ForInStep (List AE×Db×List Nat))}{o0 o1 o3 o4 o5:Option AE}(hx:x.length<=1000000)(hy:y.length<=1000000)(My:0<=n)(zD:n<10^10)
  (h0:∀w:Db,f 0 ([.str x t1, .int n t2, .str y t3],w,[37,115,58,37,100,40,37,115,41])=if Gd w.total=AC then X0 w else Ax (.yield ([.int n t2, .str y t3],w.add ⟨x.cps.toList.toArray⟩ o0,[58,37,100,40,37,115,41])))
  (h1:∀w:Db,f 1 ([.int n t2, .str y t3],w,[58,37,100,40,37,115,41])=if Gd w.total=AC then X1 w else Ax (.yield ([.int n t2, .str y t3],w.add ⟨#[58]⟩ o1,[37,100,40,37,115,41])))
  (h2:∀(w:Db) (Q':ForInStep (List AE×Db×List Nat)->AN->Prop),¬Gd w.total=AC->n.natAbs.log2<1920->(∀tk,Q' (.yield ([.str y t3],w.add ⟨(percentInt c (decide (n<0)) (CR (Ey ((n.natAbs:Nat):Int))).cps.toList).toArray⟩ AB,[40,37,115,41])) {s with toks:=tk})->Ac (Bo prog wd) A (f 2 ([.int n t2, .str y t3],w,[37,100,40,37,115,41])) Q' E s)
  (h3:∀w:Db,f 3 ([.str y t3],w,[40,37,115,41])=if Gd w.total=AC then X3 w else Ax (.yield ([.str y t3],w.add ⟨#[40]⟩ o3,[37,115,41])))
  (h4:∀w:Db,f 4 ([.str y t3],w,[37,115,41])=if Gd w.total=AC then X4 w else Ax (.yield ([],w.add ⟨y.cps.toList.toArray⟩ o4,[41])))
  (h5:∀w:Db,f 5 ([],w,[41])=if Gd w.total=AC then X5 w else Ax (.yield ([],w.add ⟨#[41]⟩ o5,[])))
  (h6:∀w:Db,f 6 ([],w,[])=if Gd w.total=AC then X6 w else Ax (.done ([],w,[])))
  (e:(c.alt=AD/\c.type=100/\c.prec=AB)/\o0=AB/\o1=AB/\o3=AB/\o4=AB/\o5=AB)
  (k:∀w' N tk,N<=16777216->Oa w' ((((((Str.empty++x)++⟨#[58]⟩)++CR (Ey n))++⟨#[40]⟩)++y)++⟨#[41]⟩) N->Q ([],w',[]) {s with toks:=tk}):Ac (Bo prog wd) A (LJ [0,1,2,3,4,5,6,7,8] ([.str x t1, .int n t2, .str y t3],({}:Db),[37,115,58,37,100,40,37,115,41]) f) Q E s:=by
 have b1:0+x.length<=1000000:=AO (BR (IX _)) hx
 have b2:0+x.length+1+10+1+y.length<=2000012:=Bf (C3 (C3 (C3 b1 1) 10) 1) hy
 have jU {m:Nat} (h:m<=2000012):m+1<=16777216:=AO (CT h) (by decide)
 have b3:0+x.length+1+10+1<=2000012:=AO (GE _ _) b2
 have b4:0+x.length+1+10<=2000012:=AO (Da _) b3
 exact MK (h0 _) good0 (by decide) rfl (Mb e.2.1) λw g=>MK (h1 w) g (AO b1 (by decide)) rfl (Mb e.2.2.1) λw g=>A39 My zD (h2 w) e.1.1 e.1.2.1 e.1.2.2 g (AO (AO (GE _ _) b4:0+x.length+1<=2000012) (by decide)) λw tk g=>
  MK (h3 w) g (AO b4 (by decide)) rfl (Mb e.2.2.2.1) λw g=>MK (h4 w) g (AO b3 (by decide)) rfl (Mb e.2.2.2.2.1) λw g=>MK (h5 w) g (AO b2 (by decide)) rfl (Mb e.2.2.2.2.2) λw g=>rk (h6 w) g (jU b2) (k w _ tk (jU b2) g)
theorem Aw5(t t1 t2 t3:Cg)(b:AK)(x y:AQ)(n:Int)(hx:x.length<=1000000)(hy:y.length<=1000000)(h0:0<=n)(h1:n<10^10):
  Meets («str.__mod__» ⟨[.str (⟨#[37,115,58,37,100,40,37,115,41]⟩:AQ) t, .ref b],[]⟩) (λ_ R s=>IsTup s.heap b #[.str x t1, .int n t2, .str y t3]/\∀t' k,R (.ok (.ret (.str (((((x++CR ":")++CR (Ey n))++CR "(")++y)++CR ")") t'))) {s with toks:=k}):=KPt.meets_tup λ_ _ _ _ _ _ ⟨o,G,C,N,D⟩ hq=>by
 refine YR (KPt.entry_is_r _ _ _) ?_
 refine AR (RJ (T:="tuple") ⟨o,G,C⟩ KPt.sub_tt (AR (KPt.asStr_ref G D (AR (KPt.fills_ref ⟨o,G,C⟩ λb=>AR (VH G D (AR (Aa (AR (YR (iu _ _ _) ?_))))))))))
 refine A38 (x:=x) (y:=y) (c:={type:=100}) hx hy h0 h1 (λw=>rfl) (λw=>rfl) ?h2 (λw=>rfl) (λw=>rfl) (λw=>rfl) (λw=>rfl) ⟨⟨rfl,rfl,rfl⟩,rfl,rfl,rfl,rfl,rfl⟩ λw' N tk hN g=>?k
 case h2=>
  intro w Q' ht hd hk
  refine wpAny_ite (ite_no ht ?_)
  repeat kpc_if
  refine AR (D_ ?_)
  repeat kpc_if
  kpt_conv
  refine Aa (Aa (hk _))
 exact finish_ok g hN (by rw[empty_app];rfl) hq
end
noncomputable def qK:T:=[123,37,115,125]
noncomputable def eO:T:=[37,115,58,37,100,40,37,115,41]
noncomputable def ax(a:T)(o:AL)(c:CV):Option Unit:=(BX o c).bind λx=>if x=a then AA ()else AB
theorem uQ{a:T}:Vw (ax a) λσ _ v=>∃t,v= .str (AU a) t:=λ{σ c d v} ok e h=>by
 obtain⟨x,e1,e2⟩:=C5.mp e
 obtain rfl:=(QP e2).1
 exact vS ok e1 h
noncomputable def md(o:AL)(c:CV):Option (T×Int×T):=(H9 o c).bind λl=>match l with
 |[a,b,c]=>(BX o a).bind λx=>(Bq o b).bind λn=>(BX o c).bind λy=>AA (x,n,y)
 |_=>AB
inductive AI1(σ:St)(d:T×Int×T)(v:AE):Prop
 |mk (b:AK) (j:Nat) (t1 t2 t3:Cg) (e:v= .ref b) (h:σ.h.get? b=AA (Hq #[.str (AU d.1) t1, .int d.2.1 t2, .str (AU d.2.2) t3] j))
theorem Bc6:Vw md AI1:=λ{σ c a v} ok e h=>by
 obtain⟨l,e1,e2⟩:=C5.mp e
 obtain⟨b,ws,rfl,⟨j,ha⟩,hv⟩:=vT ok e1 h
 match l,e2,hv with
 |[x,y,z],e2,hv=>
  obtain⟨a1,q1,e2⟩:=C5.mp e2
  obtain⟨a2,q2,e2⟩:=C5.mp e2
  obtain⟨a3,q3,e2⟩:=C5.mp e2
  cases e2
  obtain⟨v1,r1,rfl,h1,v2,r2,rfl,h2,v3,r3,rfl,h3,rfl⟩:=hv
  obtain⟨t1,rfl⟩:=vS ok q1 h1
  obtain⟨t2,rfl⟩:=vI ok q2 h2
  obtain⟨t3,rfl⟩:=vS ok q3 h3
  exact⟨b,j,t1,t2,t3,rfl,ha.1⟩
noncomputable def fJ:List CV->AL->R CV:=BP (BN (ax qK) BX λ_ z o=>if z.length<=100000 then .ok (.str ([123]++z++[125])) o else .no)
 (BN (ax eO) md λ_ d o=>if d.1.length<=100000/\d.2.2.length<=100000/\0<=d.2.1/\d.2.1<10^10 then .ok (.str (d.1++[58]++Az d.2.1++[40]++d.2.2++[41])) o else .no)
theorem OA(a b:AQ):Bx (a++b)=Bx a++Bx b:=YV
theorem A61:BA m k q (II .Mod) fJ:=
 .alt (.on2 uQ vS λA σ a z u v _ ok ⟨t,h⟩ ⟨t',h'⟩=> .ite λhl=> .of λ_ Q E hQ _=>by
  subst h h'
  refine KPc.mod_str (X:=AU qK) (T:=λz=>(CR "{"++z)++CR "}") (X':=⟨#[123,37,115,125]⟩) rfl (by rw[BY];exact AO hl (by decide)) (Aw4 t t') λKb kk=>?_
  have e:(CR "{"++AU z)++CR "}"=AU ([123]++z++[125]):=by
   rw[<-qz ((CR "{"++AU z)++CR "}"),OA,OA,gK];rfl
  rw[e]
  exact hQ.tk rfl ok ⟨_,rfl⟩)
 (.on2 uQ Bc6 λA σ a d u v _ ok ⟨t,h⟩ h'=> .ite λhc=> .of λ_ Q E hQ _=>by
  subst h
  obtain⟨b,j,t1,t2,t3,rfl,ha⟩:=h'
  have e:(((((AU d.1++CR ":")++CR (Ey d.2.1))++CR "(")++AU d.2.2)++CR ")")=AU (d.1++[58]++Az d.2.1++[40]++d.2.2++[41]):=by
   rw[<-qz (((((AU d.1++CR ":")++CR (Ey d.2.1))++CR "(")++AU d.2.2)++CR ")"),OA,OA,OA,OA,OA,gK,gK];rfl
  exact KPt.bin_left (T:="str") (U:="tuple") (op:= .Mod) (by decide) (Ha σ.s (AU eO) t) (⟨_,ha,rfl⟩:σ.s.TypeIs (.ref b) "tuple") F.fills_str_mod KPt.fills_tuple F.slot_str_mod
   (Hy F.slot_str_mod (Ha σ.s (AU eO) t) F.entry_str_mod (F.args_str_mod_2 _ _) (Aw5 t t1 t2 t3 b (AU d.1) (AU d.2.2) d.2.1 (by rw[BY];exact AO hc.1 (by decide)) (by rw[BY];exact AO hc.2.1 (by decide)) hc.2.2.1 hc.2.2.2) ⟨(⟨_,ha,rfl,j,rfl⟩:IsTup σ.h b #[.str (AU d.1) t1, .int d.2.1 t2, .str (AU d.2.2) t3]),λt' kk=>⟨(λe=>nomatch e),by rw[e];exact hQ.tk rfl ok ⟨_,rfl⟩⟩⟩))
end
noncomputable def FT(xs:Array Nat):Prop:=xs.toList.Pairwise (·<·)
noncomputable def Lo(xs:Array Nat)(j p:Nat):Prop:=∀(i a:Nat),i<p->xs[i]? =AA a->a<j
noncomputable def Hi(xs:Array Nat)(j p:Nat):Prop:=∀(i a:Nat),p<=i->xs[i]? =AA a->j<=a
section
variable{xs:Array Nat}{i j k a b p:Nat}
theorem FT.at(hr:FT xs)(h:i<j)(ha:xs[i]? =AA a)(hb:xs[j]? =AA b):a<b:=by
 rw[<-Jz]at ha hb
 have kb:=Gb.mp ha
 have ke:=Gb.mp hb
 have:=iG.mp hr i j kb.1 ke.1 h
 rw[kb.2,ke.2]at this
 exact this
theorem PU(h:i<xs.size):xs[i]? =AA (xs.getD i j):=by rw[gh,Gx h];rfl
theorem qT(hr:FT xs)(e:xs[i]? =AA a)(h:a<j):Lo xs j (i+1):=λk v q w=>
 (wN (MX q)).elim (λq=>C4 (hr.at q w e) h) λq=>by rw[q,e]at w;cases w;exact h
theorem pZ(hr:FT xs)(e:xs[i]? =AA a)(h:j<=a):Hi xs j i:=λk v q w=>
 (wN q).elim (λq=>Et (Bg h (hr.at q e w))) λq=>by rw[<-q,e]at w;cases w;exact h
theorem Ax7{lo hi:Nat}(h:lo<hi):lo<=(lo+hi)/2/\(lo+hi)/2<hi:=
 ⟨(Nat.le_div_iff_mul_le (by decide)).mpr (Nat.mul_two lo▸EP (Et h) lo),iK (Nat.two_mul hi▸wF h hi)⟩
theorem AO3(hr:FT xs)(j:Nat){fuel:Nat}:∀{lo hi:Nat},hi<=lo+fuel->lo<=hi->hi<=xs.size->Lo xs j lo->Hi xs j hi->
  Q6 xs j fuel lo hi<=xs.size/\Lo xs j (Q6 xs j fuel lo hi)/\Hi xs j (Q6 xs j fuel lo hi):=by
 induction fuel with
 |zero=>exactλh1 h2 h3 h4 h5=>⟨AO h2 h3,h4,Ui h1 h2▸h5⟩
 |succ f ih=>
  intro lo hi h1 h2 h3 h4 h5
  by_cases CY:lo<hi
  ·have hm:=Ax7 CY
   by_cases hc:xs.getD ((lo+hi)/2) j<j
   ·rw[show Q6 xs j (f+1) lo hi=_ from(if_pos CY).trans (if_pos hc)]
    exact ih (AO h1 (AO (BR (Uo lo f).symm) (C3 (CT hm.1) f))) hm.2 h3 (qT hr (PU (CI hm.2 h3):xs[(lo+hi)/2]? =AA (xs.getD ((lo+hi)/2) j)) hc) h5
   ·rw[show Q6 xs j (f+1) lo hi=_ from(if_pos CY).trans (if_neg hc)]
    exact ih (MX (CI hm.2 h1)) hm.1 (AO (Et hm.2) h3) h4 (pZ hr (PU (CI hm.2 h3):xs[(lo+hi)/2]? =AA (xs.getD ((lo+hi)/2) j)) (Yw hc))
  ·rw[show Q6 xs j (f+1) lo hi=_ from if_neg CY]
   exact⟨AO h2 h3,h4,Ui (Yw CY) h2▸h5⟩
theorem bH(hr:FT xs)(j:Nat):Fm xs j<=xs.size/\Lo xs j (Fm xs j)/\Hi xs j (Fm xs j):=
 AO3 hr j (BR (IX _).symm) (D2 _) (BL _) (λi a h=>absurd h (iO _)) λi a h e=>Af ((gj.mpr h).symm.trans e)
theorem bG(hr:FT xs)(hp:p<=xs.size)(h1:Lo xs j p)(h2:Hi xs j p):Fm xs j=p:=by
 have s:=bH hr j
 exact(wO (Fm xs j) p).elim (λq=>absurd (h1 _ _ q (PU (j:=0) (CI q hp))) (IV (s.2.2 _ _ (BL _) (PU (CI q hp))))) λq=>q.elim id λq=>
  absurd (s.2.1 _ _ q (PU (j:=0) (CI q s.1))) (IV (h2 _ _ (BL _) (PU (CI q s.1))))
theorem AO6(hr:FT xs):Fm xs 0=0:=bG hr (D2 _) (λ_ _ h=>absurd h (iO _)) λ_ _ _ _=>D2 _
theorem AO4(hr:FT xs)(hi:xs[i]? =AA a):Fm xs (a+1)=i+1:=
 bG hr (UV.mp hi).1 (qT hr hi (J5 a)) λ_ _ q w=>hr.at q hi w
theorem AO5(hr:FT xs)(h:(xs[Fm xs j]? ==AA j)=AD)(i:Nat):xs[i]?≠AA j:=λhi=>by
 rw[bG hr (Et (UV.mp hi).1) (λk v q w=>hr.at q w hi) (pZ hr hi (BL _)),hi,beq_self_eq_true]at h
 cases h
theorem BC8(hr:FT xs)(hn:∀(i:Nat),xs[i]?≠AA j):FT (SetTable.insertAt xs (Fm xs j) j):=by
 have h1:∀a∈xs.toList.take (Fm xs j),a<j:=λa h=>by
  obtain⟨i,e⟩:=Yq.mp h
  rw[h_]at e
  by_cases q:i<Fm xs j
  ·rw[if_pos q,Jz]at e;exact(bH hr j).2.1 i a q e
  ·rw[if_neg q]at e;exact Af e
 have h2:∀b∈xs.toList.drop (Fm xs j),j<b:=λb h=>by
  obtain⟨i,e⟩:=Yq.mp h
  rw[JC,Jz]at e
  exact Nat.lt_of_le_of_ne ((bH hr j).2.2 _ b (GE ..) e) λq=>hn _ (e.trans (congrArg AA q.symm))
 unfold FT
 rw[SetTable.toList_insertAt]
 exact List.pairwise_append.mpr ⟨hr.sublist (List.take_sublist ..),JF.mpr ⟨h2,hr.sublist (List.drop_sublist ..)⟩,λa ha b hb=>(Cf.mp hb).elim (λe=>e▸h1 a ha) λhb=>C4 (h1 a ha) (h2 b hb)⟩
theorem BD0(n:Nat):FT (Array.range n):=by
 unfold FT;rw[Array.toList_range];exact vt
theorem BC9{β:Type}(n:Nat)(f:Nat->Option β):FT ((((Eo n).filterMap λj=>(f j).map (j,·)).map (·.1)).toArray):=
 Ys.mpr (List.pairwise_filterMap.mpr ((vt (n:=n)).imp λ{a b} Oq x hx y hy=>by
  obtain⟨_,_,rfl⟩:=DD.mp hx
  obtain⟨_,_,rfl⟩:=DD.mp hy
  exact Oq))
end
noncomputable def TP(led:Bool)(t:Fl):Prop:=t.led=led/\t.dummies= #[]/\FT t.place
noncomputable def GO(led:Bool)(n:Nat)(t:Fl):Prop:=t.fits n=AC/\TP led t
theorem GO.fits{l:Bool}{n:Nat}{t:Fl}(x:GO l n t):t.fits n=AC:=x.1
theorem GO.led{l:Bool}{n:Nat}{t:Fl}(x:GO l n t):t.led=l:=x.2.1
theorem GO.rise{l:Bool}{n:Nat}{t:Fl}(x:GO l n t):FT t.place:=x.2.2.2
section
variable{led:Bool}{n m j slot:Nat}{t:Fl}{es:Array (Int×AE)}{h:Int}
theorem BS7(led:Bool):GO led 0 (.fresh 0 0 led):=⟨rfl,rfl,rfl, .nil⟩
theorem YJ(x:TP led t):TP led (t.standIn m):=⟨x.1,rfl,BD0 m⟩
theorem pT(x:TP led t):SetTable.has t.dummies j=AD:=by rw[x.2.1];rfl
theorem tF(x:TP led t):t.slot j=if(t.place[Fm t.place j]? ==AA j)=AC then .live (Fm t.place j)else .empty:=by
 unfold SetTable.slot;rw[pT x];rfl
theorem BH2(x:TP led t)(e:t.slot j= .empty):∀(i:Nat),t.place[i]?≠AA j:=by
 rw[tF x]at e
 cases q:t.place[Fm t.place j]? ==AA j with
 |true=>rw[q]at e;cases e
 |false=>exact AO5 x.2.2 q
theorem A69(x:TP led t){fuel:Nat}:∀{p:SetTable.Probe} {d:Option Nat},p.dummy=AB->io t (λ_=>h+1) h fuel p=AA (.empty j d)->d=AB/\t.slot j= .empty:=by
 induction fuel with
 |zero=>exactλ_ e=>Af e
 |succ f ih=>
  intro p d hp e
  have e:(match t.slot p.j with
   | .empty=>AA (.empty p.j p.dummy)
   | .dummy=>io t (λ_=>h+1) h f (t.advance {p with dummy:=AA p.j})
   | .live i=>if(h+1==h)=AC then AA (.candidate p.j i (t.advance p))else io t (λ_=>h+1) h f (t.advance p))=AA (SetTable.Met.empty j d):=e
  cases hs:t.slot p.j with
  |empty=>rw[hs]at e;cases e;exact⟨hp,hs⟩
  |dummy=>
   rw[tF x]at hs
   by_cases q:(t.place[Fm t.place p.j]? ==AA p.j)=AC
   ·rw[if_pos q]at hs;cases hs
   ·rw[if_neg q]at hs;cases hs
  |live i=>
   rw[hs]at e
   refine ih ?_ ((if_neg (λq=>absurd (CH q) (Int.ne_of_gt (Int.lt_add_one_of_le (YZ h))):¬(h+1==h)=AC)).symm.trans e)
   unfold SetTable.advance
   by_cases q:p.more>0
   ·rw[if_pos q];exact hp
   ·rw[if_neg q];exact hp
theorem Ah9(x:TP led t){b:Bool}(e:t.freeSlot h=AA (slot,b)):∀(i:Nat),t.place[i]?≠AA slot:=by
 unfold SetTable.freeSlot at e
 cases hp:t.probe (λ_=>h+1) h (t.probeStart h)with
 |none=>rw[hp]at e;cases e
 |some z=>cases z with
  |candidate=>rw[hp]at e;cases e
  |empty j d=>
   have q:=A69 x rfl hp
   rw[hp,q.1]at e
   cases e
   exact BH2 x q.2
theorem BT4(x:TP led t):TP led (t.orStandIn n):=by
 unfold SetTable.orStandIn
 by_cases h:t.fits n=AC
 ·rw[if_pos h];exact x
 ·rw[if_neg h];exact YJ x
theorem BT5(x:TP led t)(hn:∀(i:Nat),t.place[i]?≠AA slot):TP led (t.put slot).1:=
 ⟨x.1,(if_neg (pT x▸C2)).trans x.2.1,BC8 x.2.2 hn⟩
theorem BS8(x:GO led es.size t)(h:Int)(v:AE):GO led (layNew t es h v).1.size (layNew t es h v).2.1:=⟨layNew_fits t es h v,by
 unfold layNew
 cases e:t.freeSlot h with
 |none=>exact YJ x.2
 |some sd=>exact BT4 (BT5 x.2 (Ah9 x.2 e))⟩
theorem BT3{α β:Type}{c:Prop}[Decidable c]{a b:α×Fl×β}(ha:TP led a.2.1)(hb:TP led b.2.1):TP led (if c then a else b).2.1:=by
 by_cases h:c
 ·rw[if_pos h];exact ha
 ·rw[if_neg h];exact hb
theorem BT6{hs:Array Int}{k:Nat}{r:Fl×Array Nat}(x:TP led t)(e:t.relaid hs k=AA r):TP led r.1:=by
 obtain⟨owner,_,h⟩:=C5.mp e
 cases h
 exact⟨x.1,rfl,BC9 _ _⟩
theorem BS9(x:GO led es.size t)(k:Nat):GO led (Mm t es k).1.size (Mm t es k).2.1:=⟨relayAll_fits t es k,by
 unfold Mm
 cases e:t.relaid (es.map (·.1)) k with
 |none=>exact YJ x.2
 |some r=>exact BT3 (BT6 x.2 e) (YJ x.2)⟩
end
noncomputable def GD(e:Int×AE):Int:=match e.2 with
 | .int n _=>n
 |_=>0
noncomputable def N_(σ:List Int)(n:Int):List Int:=if σ.contains n then σ else σ++[n]
section
variable{prog:Fk}{w:C6}
inductive Fz(prog:Fk)(w:C6)(led:Bool)(h:BS)(S:AK)(σ:List Int):Prop
 |mk (o:BG) (es:Array (Int×AE)) (ep:Nat) (t:Fl) (h1:h.get? S=AA o) (h2:o.ExactSet) (h3:o.data= .set es ep t) (h4:Qy (Dl prog w) es.toList) (h5:GO led es.size t) (h6:(es.toList.map GD).Perm σ) (h7:es.size<JP)
theorem eD{n:Int}{e:Int×AE}(h:(Dl prog w).is n e.2=AC):GD e=n/\∃t,e.2= .int n t:=by
 refine A3 (xX h) λt ht=>?_
 refine⟨?_,t,ht⟩
 unfold GD;rw[ht]
variable{A:BZ}{E:AE->AN->Prop}{s:AN}
theorem Fz.mem{led:Bool}{h:BS}{S:AK}{σ:List Int}{es:Array (Int×AE)}(FK:Qy (Dl prog w) es.toList)(hp:(es.toList.map GD).Perm σ)(n:Int):σ.contains n=(es.toList.findIdx? (λe=>(Dl prog w).is n e.2)).isSome:=by
 have h1:σ.contains n=AC↔∃e∈es.toList,(Dl prog w).is n e.2=AC:=by
  rw[Yj,<-hp.mem_iff,HS]
  constructor
  ·rintro ⟨e,he,rfl⟩
   obtain⟨⟨k,hk,_⟩,_⟩:=FK e he
   have:=(eD hk).1
   rw[this]
   exact⟨e,he,hk⟩
  ·rintro ⟨e,he,hk⟩
   exact⟨e,he,(eD hk).1⟩
 rw[Qb,h1]
 cases hf:es.toList.findIdx? (λe=>(Dl prog w).is n e.2)with
 |none=>
  simp only[wU,gm,iff_false]
  rintro ⟨e,he,hk⟩
  have:=List.findIdx?_eq_none_iff.mp hf e he
  rw[hk]at this;first|exact Af this|cases this
 |some j=>
  simp only[wV,iff_true]
  have kf:=g9.mp hf
  exact⟨_,LL kf.1,kf.2.1⟩
theorem tX{led:Bool}{S:AK}{o:BG}{es:Array (Int×AE)}{ep:Nat}{t:Fl}(ho:s.heap.get? S=AA o)(hex:o.ExactSet)(hd:o.data= .set es ep t){σ:List Int}{Bw:Array (Int×AE)}{t1:Fl}
  (FK:Qy (Dl prog w) Bw.toList) (ht:GO led Bw.size t1) (hp:(Bw.toList.map GD).Perm σ) (hb:Bw.size<JP):∃o',(s.heap.update S (OS Bw t1)).get? S=AA o'/\o'.ExactSet/\o'.data= .set Bw (ep+1) t1/\Fz prog w led (s.heap.update S (OS Bw t1)) S σ:=by
 have hg:(s.heap.update S (OS Bw t1)).get? S=AA {o with data:= .set Bw (ep+1) t1}:=by
  have:=Uv (OS Bw t1) ho (by rw[putSet_of Bw t1 hd];rfl)
  rw[putSet_of Bw t1 hd]at this;exact this
 exact⟨_,hg,hex,rfl,_,Bw,ep+1,t1,hg,hex,rfl,FK,ht,hp,hb⟩
theorem tz{g:Bool->Ao Unit}(hg:∀(b:Bool) (A0:AN) (Q':Unit->AN->Prop),Q' () A0->Ac (Bo prog w) A (g b) Q' E A0)
  {led:Bool} {S:AK} {o:BG} {es:Array (Int×AE)} {ep:Nat} {t:Fl} (ho:s.heap.get? S=AA o) (hex:o.ExactSet) (hd:o.data= .set es ep t) {σ:List Int} {Bw:Array (Int×AE)} {t2:Fl}
  (FK:Qy (Dl prog w) Bw.toList) (ht:GO led Bw.size t2) (hp:(Bw.toList.map GD).Perm σ) (hb:Bw.size<JP) {lw:Bool} {R:Option Bool->AN->Prop}
  (h:∀h',JL S s.heap h'->Fz prog w led h' S σ->R (AA AC) {s with heap:=h'}):
  Ac (Bo prog w) A (do
    storeSet S Bw t2
    if(!lw&&t2.tooFull)=AC then do
      g (Mm t2 Bw (Q7 Bw.size)).2.2
      storeSet S (Mm t2 Bw (Q7 Bw.size)).1 (Mm t2 Bw (Q7 Bw.size)).2.1
      Ax (AA AC)
     else Ax (AA AC)) R E s:=by
 refine A3 (tX ho hex hd FK ht hp hb) λo' O_=>?_
 refine AR (xm ho hd ?_ (xe hb))
 refine J_ (λ_=>?_) (λ_=>?_)
 ·have JY:=relayAll_perm t2 Bw (Q7 Bw.size)
  have GJ:(Mm t2 Bw (Q7 Bw.size)).1.size<JP:=by rw[(by rw[<-En,JY.length_eq,En]:(Mm t2 Bw (Q7 Bw.size)).1.size=Bw.size)];exact hb
  refine AR (hg _ _ _ ?_)
  refine AR (xm O_.1 O_.2.2.1 ?_ (xe GJ))
  refine A3 (tX (s:={s with heap:=s.heap.update S (OS Bw t2)}) O_.1 O_.2.1 O_.2.2.1 (FK.perm JY) (BS9 ht _) ((JY.map GD).trans hp) GJ) λ_ AA3=>?_
  exact Aa (h _ ((OR s.heap S (OS Bw t2)).trans (OR _ S _)) AA3.2.2.2)
 ·exact Aa (h _ (OR s.heap S (OS Bw t2)) O_.2.2.2)
theorem AJ7{led:Bool}{S:AK}{σ:List Int}(hS:Fz prog w led s.heap S σ)(O5:σ.length+1<JP){n:Int}{tk:Cg}{Q:Bool->AN->Prop}
  (h:∀h' b,JL S s.heap h'->Fz prog w led h' S (N_ σ n)->Q b {s with heap:=h'}):Ac (Bo prog w) A (setAddHashed S (.int n tk) ((Dl prog w).hash n)) Q E s:=by
 obtain⟨o,es,ep,t,ho,hex,hd,FK,ht,hp,hb⟩:=id hS
 have Bh:es.size=σ.length:=by have:=hp.length_eq;simpa using this
 unfold setAddHashed setAddHashedIn
 refine D_ (AR (RL ho hd ht.fits ?_))
 dsimp only
 rw[byScan_of rfl hb FK]
 unfold setAddByScan
 refine AR ?_
 refine AR (Hb ?_)
 refine AR (wpAny_setScan_of (Og prog w n tk:(Dl prog w).is n (.int n tk)=AC) ho hd ht.fits FK ?_)
 have Ox:=Fz.mem (led:=led) (h:=s.heap) (S:=S) FK hp n
 cases hr:List.findIdx? (λe=>(Dl prog w).is n e.2) es.toList with
 |some j=>
  rw[hr]at Ox
  refine Aa (Aa ?_)
  have:=h s.heap AD (Heap.SameBut.refl S s.heap) (by unfold N_;rw[Ox];exact hS)
  exact this
 |none=>
  rw[hr]at Ox
  have JY:=layNew_perm t es ((Dl prog w).hash n) (.int n tk)
  have CA:=BS8 ht ((Dl prog w).hash n) (.int n tk)
  generalize hL:layNew t es ((Dl prog w).hash n) (.int n tk)=L at JY CA⊢
  obtain⟨Bw,t1,lw,Bg4⟩:=L
  dsimp only at JY CA⊢
  rw[UW]at JY
  have jw:Qy (Dl prog w) Bw.toList:=(FK.push (Og prog w n tk:(Dl prog w).is n (.int n tk)=AC) rfl).perm JY
  have kM:Bw.size=es.size+1:=by rw[<-En,JY.length_eq,A1,En];rfl
  have kF:(Bw.toList.map GD).Perm (N_ σ n):=by
   unfold N_
   rw[Ox]
   refine(JY.map GD).trans ?_
   rw[EO]
   exact hp.append_right _
  have yw:∀(b:Bool) {A0:AN} {Q':Unit->AN->Prop},Q' () A0->Ac (Bo prog w) A (match b with|true=>rule "set.scan.the-table-gave-way"|false=>Ax ()) Q' E A0:=
   λb A0 Q' hq=>by cases b<;>first|exact Aa hq|exact Hb hq
  refine AR (yw _ ?_)
  refine J_ (λ_=>?_) (λ_=>?_)
  ·refine AR ?_
   rw[hashByValue_scannable 8 rfl]
   refine Aa ?_
   refine tz (λb A0 Q' hq=>by cases b<;>first|exact Aa hq|exact Hb hq) ho hex hd jw CA kF (Bg (BR (kM.trans (congrArg (·+1) Bh))) O5:Bw.size<JP) λh' H4 KC=>?_
   dsimp only
   exact Aa (h h' AC H4 KC)
  ·refine AR (Aa ?_)
   refine tz (λb A0 Q' hq=>by cases b<;>first|exact Aa hq|exact Hb hq) ho hex hd jw CA kF (Bg (BR (kM.trans (congrArg (·+1) Bh))) O5:Bw.size<JP) λh' H4 KC=>?_
   dsimp only
   exact Aa (h h' AC H4 KC)
noncomputable def Gp(l:List Int):List Int:=l.foldl N_ []
theorem Bb8{I:AK}{fp wr:List AK}{G:Array GenState->Array GenState->Prop}{ns:List Int}{P:Nat->AE->Prop}{St:Nat->AN->Prop}{R:EQ->AN->Prop}(W:Mc prog w A.in1 I fp wr G ns.length P St)(S:AK)(VT:S∉fp)
  (Z4:∀i v,P i v->∃n t,ns[i]? =AA n/\v= .int n t) (hb:ns.length+1<JP) {led:Bool}:
  ∀(k i:Nat) (s:AN),ns.length - i=k->i<=ns.length->St i s->Fz prog w led s.heap S (Gp (ns.take i))->(Gp (ns.take i)).length<=i->
   (∀s',Moved (S::wr) G s s'->Fz prog w led s'.heap S (Gp ns)->R (.ok (.ret .none)) s')->
   HX (Bo prog w) A (.builtin "set.update.loop" ⟨[.ref S, .ref I],[]⟩) R s:=by
 have Vj:∀b∈wr,b∈S::wr:=λb hb=>Ef _ hb
 have kW:∀{s s':AN} {σ:List Int},Moved wr G s s'->Fz prog w led s.heap S σ->Fz prog w led s'.heap S σ:=λhm hS=>by
  obtain⟨o,es,ep,t,ho,r2,r3,r4,r5,r6,r7⟩:=hS
  exact⟨o,es,ep,t,hm.heap S _ (λh=>VT (W.sub _ h):S∉wr) ho,r2,r3,r4,r5,r6,r7⟩
 intro k
 induction k with
 |zero=>
  intro i s hk hi B' hS _ hR
  have Gh:i=ns.length:=Ui hi (Yx hk)
  subst Gh
  rw[OK]at hS
  refine Oe wW ?_
  rw[Qv iS _]
  show Ac _ A.in1 (Ib (.ref I)>>=_) _ _ s
  refine AR (W.done s _ _ B' λs' hm=>?_)
  exact Aa (hR s' (hm.mono Vj) (kW hm hS))
 |succ k ih=>
  intro i s hk hi B' hS Bh hR
  have CY:i<ns.length:=wL (by rw[hk];exact IW k)
  refine Oe wW ?_
  rw[Qv iS _]
  show Ac _ A.in1 (Ib (.ref I)>>=_) _ _ s
  refine AR (W.item i s _ _ CY B' λv s' hP zS hm=>?_)
  refine B7 (Z4 i v hP) λn t kh=>?_
  obtain rfl:=kh.2
  have KC:=kW hm hS
  refine AR (D_ ?_)
  unfold setAdd
  refine D_ ?_
  refine AR ((Dl prog w).pyHash (k:=n) (Og _ _ _ _) ?_)
  have kO:Gp (ns.take (i+1))=N_ (Gp (ns.take i)) n:=by
   rw[List.take_succ,kh.1]
   unfold Gp
   simp only[Option.toList_some,vi];rfl
  refine AJ7 (s:={s' with toks:=s'.toks+1}) KC (Bg (CT (AO Bh hi)) hb) λh' b H4 jm=>?_
  rw[<-kO]at jm
  refine Aa ⟨U' iS _,ih (i+1) _ (show Nat.pred (ns.length - i)=k from congrArg Nat.pred hk) CY (W.frame _ s' _ _ zS (Da _) λb hb o e=>?_) jm ?_ λHe zB yT=>?_⟩
  ·rw[H4.2 b (λh:b=S=>VT (by simp only[<-h];exact hb))];exact e
  ·rw[kO];unfold N_;split
   ·exact HU Bh
   ·rw[A1];exact CT Bh
  ·refine hR He (Moved.trans W.gtrans ((hm.mono Vj).then_heap (Da _) λb o hb e=>?_) zB) yT
   rw[H4.2 b (λh:b=S=>hb (by simp only[h];exact CP))];exact e
end
noncomputable def I4(w:C6):Bool:= !w.params.followText "set-order"
noncomputable abbrev I8(w:C6):BG:={cls:= .type "set",dict:=AB,data:= .set #[] 0 (.fresh 0 0 (I4 w))}
section
variable{prog:Fk}{w:C6}{A:BZ}{E:AE->AN->Prop}{s:AN}
theorem BG4(a:AE){Q₁:AE->AN->Prop}(h:Q₁ (.ref s.heap.objs.size) {s with heap:=s.heap.push (I8 w)}):
  HX (Bo prog w) A (.call (.builtin "set.__new__") ⟨[.type "set",a],[]⟩) (wants Q₁ E) s:=by
 refine i6 ?_
 refine AR (Ic (PySem.F.newCall_set_1 a) (Aa ⟨U' xE _,Oe PySem.F.entry_set_new ?_⟩))
 rw[Qv xE _]
 unfold Builtin.«set.__new__» Bf8
 have Vj:=jF
 obtain⟨hp,g,d,tk,os⟩:=s
 wp_walk
 refine Om (Aa ?_)
 dsimp only
 refine AR (wpAny_alloc (Aa ?_))
 exact Aa h
noncomputable abbrev itO(l:AK):BG:={cls:= .type "list_iterator",data:= .fields #[.ref l, .int 0 0]}
theorem BG3{l:AK}{items:Array AE}{nl:Nat}{ns:List Int}{R:EQ->AN->Prop}(hh:A.handled=AB)(Oz:s.heap.get? l=AA (Dk items nl))(hi:JJ items.toList ns)(hb:ns.length+1<JP)
  (h:∀(h':BS) (tk:Nat),s.toks<=tk->Fz prog w (I4 w) h' s.heap.objs.size (Gp ns)->(∀b o,s.heap.get? b=AA o->h'.get? b=AA o)->R (.ok (.ret .none)) {s with heap:=h',toks:=tk}):
  HX (Bo prog w) A (.builtin "set.update.loop" ⟨[.ref s.heap.objs.size, .ref (s.heap.push (I8 w)).objs.size],[]⟩) R {s with heap:=(s.heap.push (I8 w)).push (itO l)}:=by
 have Gh:items.size=ns.length:=En.symm.trans (iT hi)
 have hS:(s.heap.push (I8 w)).get? s.heap.objs.size=AA (I8 w):=CQ _ rfl
 have JX:(s.heap.push (I8 w)).IsList l items:=⟨_,CW _ Oz,rfl,nl,rfl⟩
 have y9:l<s.heap.objs.size:=Ew Oz
 have kE:∀{b o},s.heap.get? b=AA o->b≠(s.heap.push (I8 w)).objs.size:=λe=>by
  rw[Q3];exact IU (Qr (Ew e))
 have VT:s.heap.objs.size∉[(s.heap.push (I8 w)).objs.size,l]:=λz=>(Cf.mp z).elim (λz=>by
  rw[Q3]at z;exact IU (J5 _) z) λz=>HV y9 (Ca.mp z)
 have Z4:∀(i:Nat) (v:AE),items[i]? =AA v->∃n t,ns[i]? =AA n/\v= .int n t:=λi v hv=>
  (Bf7 hi i v (Jz.trans hv)).elim λt e=>
   have CY:i<ns.length:=Gh▸(UV.mp hv).1
   ⟨ns.getD i 0,t,by rw[B8 CY,List.getD,B8 CY];rfl,e⟩
 have W:=(Walks.list (prog:=prog) (w:=w) (A:=A.in1) (by simp[hh]) _ l (kE Oz) items).toS
 rw[Gh]at W
 exact Bb8 W s.heap.objs.size VT Z4 hb (led:=I4 w) (ns.length - 0) 0 _ rfl (D2 _)
  ⟨⟨_,CQ _ rfl,rfl,rfl⟩,(JX.push _)⟩ ⟨_, #[],0,_,CW _ hS,⟨rfl,rfl,rfl⟩,rfl,λe he=>(nomatch he),BS7 _, .refl _,by decide⟩ (BL _)
  λs' hm KC=>by
   have e:{s with heap:=s'.heap,toks:=s'.toks}=s':=by
    obtain⟨_,g,d,o,_⟩:=hm
    cases s'
    cases g
    cases d
    cases o
    rfl
   rw[<-e]
   exact h s'.heap s'.toks hm.toks KC λb o e=>hm.heap b o (λz=>(Cf.mp z).elim (IU (Ew e)) λz=>kE e (Ca.mp z)) (CW _ (CW _ e))
set_option maxHeartbeats 3200000 in
theorem AR1{l:AK}{items:Array AE}{nl:Nat}{ns:List Int}{Q:AE->AN->Prop}(hh:A.handled=AB)(Oz:s.heap.get? l=AA (Dk items nl))(hi:JJ items.toList ns)(hb:ns.length+1<JP)
  (h:∀(h':BS) (tk:Nat),s.toks<=tk->Fz prog w (I4 w) h' s.heap.objs.size (Gp ns)->(∀b o,s.heap.get? b=AA o->h'.get? b=AA o)->Q (.ref s.heap.objs.size) {s with heap:=h',toks:=tk}):
  Ac (Bo prog w) A (call (.type "set") [.ref l]) Q E s:=by
 obtain⟨c,tl,Bh3⟩:=OP.mro
 have Bh2:=OP.made
 have Vj:=OP.sub
 have h1:=OP.notType
 have h2:=OP.canCreate
 have hct:=PySem.F.typeCall_set_1 (.ref l)
 have hT:xT {s with heap:=s.heap.push (I8 w)} (.ref s.heap.objs.size) "set":=⟨_,CQ _ rfl,rfl⟩
 have JX:(s.heap.push (I8 w)).IsList l items:=⟨_,CW _ Oz,rfl,nl,rfl⟩
 have Bh6:=PySem.F.sub_list_set
 have Bh5:=PySem.F.sub_list_frozenset
 have B3:(OZ "list"==OZ "dict")=AD:=by decide
 have z7:=λ(R:EQ->AN->Prop) hR=> @BG3 prog w A.in1.in1 s l items nl ns R (by simp[hh]) Oz hi hb hR
 refine VF (i6 ?_)
 refine Aa ⟨iY _ (by decide+kernel),Oe xB ?_⟩
 rw[wb (xg "set" [.ref l] []) rfl]
 repeat (any_goals (first|assumption|wp_step))
 refine codeAny_mono (BG4 (.ref l) (E:=E) (Q₁:=λobj A0=>obj= .ref s.heap.objs.size/\A0={s with heap:=s.heap.push (I8 w)}) ⟨rfl,rfl⟩) λr A0 hr=>?_
 cases r with
 |error e=>exact hr
 |ok fl=>
  cases fl with
  |ret obj=>
   obtain⟨rfl,rfl⟩:=hr
   refine AR (RJ hT jF ?_)
   refine UO rfl ?_
   refine AR (D_ (jH (name:=CR "__init__") hT OP.init (VF (ZG OP.init.plain PySem.F.entry_set_init (check_set_init_1 hT ?_)))))
   unfold Builtin.«set.__init__» noKeywords Bf9
   generalize yQ:Oj=PI
   wp_walk
   subst yQ
   refine jL JX (AR (wpAny_runValue (z7 _ λh' tk et KC hk=>?_)))
   refine Aa ?_
   exact Aa (Aa (h h' tk et KC hk))
  |_=>exact hr.elim
end
section
open Builtin
namespace RF
theorem slot_setiter_next:LX "set_iterator" "__next__" "set_iterator.__next__":=
 .of (owner:="set_iterator") (n:="__next__") (by rw[JT,JO];kernel_rfl) (by decide+kernel) (by decide+kernel) (by decide+kernel)
  (by first|exact .inl (by decide+kernel)|exact .inr (by decide+kernel)) (by rw[U6];kernel_rfl)
theorem entry_setiter_next:Mh JQ "set_iterator.__next__"=AA Builtin.«set_iterator.__next__»:=ZH (by kernel_rfl)
theorem args_setiter_next(a:AE):J7 "set_iterator.__next__" ⟨[a],[]⟩:=by unfold J7;kernel_rfl
theorem slot_setiter_iter:LX "set_iterator" "__iter__" "set_iterator.__iter__":=
 .of (owner:="set_iterator") (n:="__iter__") (by rw[JT,JO];kernel_rfl) (by decide+kernel) (by decide+kernel) (by decide+kernel)
  (by first|exact .inl (by decide+kernel)|exact .inr (by decide+kernel)) (by rw[U6];kernel_rfl)
theorem entry_setiter_iter:Mh JQ "set_iterator.__iter__"=AA Builtin.«dict_keyiterator.__iter__»:=
 entryFor_alias (id':="dict_keyiterator.__iter__") (by kernel_rfl) (by first|rfl|decide+kernel|(unfold xp;simp+decide [xq])) (by decide+kernel) (by kernel_rfl)
theorem args_setiter_iter(a:AE):J7 "set_iterator.__iter__" ⟨[a],[]⟩:=by unfold J7;kernel_rfl
theorem slot_set_iter:LX "set" "__iter__" "set.__iter__":=
 .of (owner:="set") (n:="__iter__") (by rw[JT,JO];kernel_rfl) (by decide+kernel) (by decide+kernel) (by decide+kernel)
  (by first|exact .inl (by decide+kernel)|exact .inr (by decide+kernel)) (by rw[U6];kernel_rfl)
theorem entry_set_iter:Mh JQ "set.__iter__"=AA Builtin.«frozenset.__iter__»:=
 entryFor_alias (id':="frozenset.__iter__") (by kernel_rfl) (by first|rfl|decide+kernel|(unfold xp;simp+decide [xq])) (by decide+kernel) (by kernel_rfl)
theorem args_set_iter(a:AE):J7 "set.__iter__" ⟨[a],[]⟩:=by unfold J7;kernel_rfl
theorem len_set:JS (.type "set") "__len__"=Ax (AA (.builtin "set.__len__")):=by rw[JT,JO];kernel_rfl
end RF
section
variable{prog:Fk}{w:C6}{A:BZ}{E:AE->AN->Prop}{s:AN}
theorem cV{α:Type}:∀{l:List α} {i:Nat} (h:i<l.length),(l[i]::l.eraseIdx i).Perm l
 |[],i,h=>by simp at h
 |x::l,0,_=> .refl _
 |x::l,i+1,h=>by
  have h':i<l.length:=by simpa using h
  exact(vH x l[i] (l.eraseIdx i)).trans ((cV h').cons x)
theorem Bd9{M:GH}{src:Source}{n:Nat}{Q:Nat->AN->Prop}(hn:n≠0)(h:∀i d,i<n->Q i {s with drawn:=d}):Ac M A (choose src n) Q E s:=by
 intro Γ p CK
 refine⟨hn,?_⟩
 exact h _ _ (Dw _ (Nat.pos_of_ne_zero hn))
theorem uf{M:GH}:∀(n:Nat) (l:List Nat) {s:AN} {Q:List Nat->AN->Prop},l.length<=n->(∀l' d,l'.Perm l->Q l' {s with drawn:=d})->Ac M A (drawOrder n l) Q E s
 |0,[],s,Q,_,h=>Aa (h [] s.drawn (.refl _))
 |0,_::_,s,Q,hl,_=>by simp at hl
 |n+1,[],s,Q,_,h=>Aa (h [] s.drawn (.refl _))
 |n+1,x::l,s,Q,hl,h=>by
  unfold drawOrder
  refine AR (Bd9 (by simp) λi d hi=>?_)
  rw[(B8 hi:(x::l)[i]? =AA (x::l)[i])]
  refine AR (uf n ((x::l).eraseIdx i) (s:={s with drawn:=d}) ?_ λl' d' hp=>?_)
  ·rw[vm hi];exact Hv hl
  ·refine Aa (h _ d' ?_)
   exact(hp.cons _).trans (cV hi)
theorem rl{α:Type}(f:Nat->Nat):∀(fuel k:Nat) (left:List α) (out:Array α),left.length<=fuel->(ZL f fuel k left out).toList.Perm (out.toList++left)
 |0,k,[],out,_=>by unfold ZL;simp
 |0,k,_::_,out,h=>by simp at h
 |fuel+1,k,[],out,_=>by unfold ZL;simp
 |fuel+1,k,x::l,out,h=>by
  unfold ZL
  have hi:f k % (x::l).length<(x::l).length:=Dw _ (by simp)
  rw[(B8 hi:(x::l)[f k % (x::l).length]? =AA (x::l)[f k % (x::l).length])]
  refine(rl f fuel (k+1) _ _ ?_).trans ?_
  ·rw[vm hi];exact Hv h
  ·rw[UW,B2]
   exact List.Perm.append_left _ (cV hi)
theorem Xo{α:Type}(f:Nat->Nat)(xs:Array α):(pickOrder f xs).toList.Perm xs.toList:=by
 have:=rl f xs.size 0 xs.toList #[] (by simp)
 simpa [pickOrder] using this
theorem sW{α:Type}{Q:α->AN->Prop}(hh:A.handled=AB)(hE:∀h' e,(∀b o,s.heap.get? b=AA o->h'.get? b=AA o)->(∃o,h'.get? e=AA o/\o.cls= .type "StopIteration")->E (.ref e) {s with heap:=h'}):
  Ac (Bo prog w) A (newExc (.type "StopIteration") []>>=raiseNew) Q E s:=by
 refine AR ?_
 refine AR (Le ?_ (by size_fits))
 refine AR (m:=firstArgMember _ _) (Ic (a:=Uz) (by first|rfl|(rw[firstArgMember];rfl)) ?_)
 refine Le ?_ (by size_fits)
 refine AR (wpAny_handled ?_)
 rw[hh]
 refine AR (Aa (wpAny_throw ?_))
 exact hE _ _ (λb o h=>CW _ (CW _ h)) ⟨_,CQ _ rfl,rfl⟩
end
end
section
open Builtin
noncomputable abbrev HN(first:AE)(i:Nat)(S:AK)(n ep:Nat):BG:={cls:= .type "set_iterator",dict:=AB,data:= .fields #[first,C7 i, .ref S,C7 n,C7 ep],slots:= #[]}
section
variable{prog:Fk}{w:C6}{A:BZ}{E:AE->AN->Prop}{s:AN}
noncomputable def N'(w:C6)(S:AK)(ep:Nat)(es:Array (Int×AE)):Array (Int×AE):=pickOrder (w.params.setOrder S ep) es
theorem tB{S:AK}{o:BG}{es:Array (Int×AE)}{ep:Nat}{t:Fl}(ho:s.heap.get? S=AA o)(hd:o.data= .set es ep t)(hf:t.fits es.size=AC)(hb:w.params.followText "set-order"=AC){slot i:Nat}{Q:Option (AE×Nat)->AN->Prop}
  (hq:Q (((N' w S ep es)[i]?).map λe=>(e.2,slot)) s):Ac (Bo prog w) A (VA S slot i ep) Q E s:=by
 unfold VA
 refine AR (RL ho hd hf ?_)
 unfold ZN
 refine AR (AR (Om (Aa ?_)))
 refine MQ hb (UO (bne_self_eq_false _) ?_)
 refine AR ?_
 unfold setWalk
 refine AR (RL ho hd hf ?_)
 dsimp only
 unfold ZN
 refine AR (AR (Om (Aa ?_)))
 refine MQ hb ?_
 refine AR (Om ?_)
 exact Aa (Aa hq)
theorem tA{S:AK}{o:BG}{es:Array (Int×AE)}{ep:Nat}{t:Fl}(ho:s.heap.get? S=AA o)(hd:o.data= .set es ep t)(ht:GO AC es.size t)(hb:w.params.followText "set-order"=AD)(KQ:t.plain=AC\/es.size<=1){slot i:Nat}(VW:Fm t.place slot=i){Q:Option (AE×Nat)->AN->Prop}
  (hq:Q (match es[i]?,t.place[i]? with|some (_,x),AA j=>AA (x,j+1)|_,_=>AB) s):Ac (Bo prog w) A (VA S slot i ep) Q E s:=by
 unfold VA
 refine AR (RL ho hd ht.fits ?_)
 dsimp only
 unfold ZN
 refine AR (AR (Om (Aa ?_)))
 refine UO hb ?_
 have Oy:¬((!t.plain&&decide (es.size>1))=AC):=by
  rcases KQ with h|h
  ·rw[h];simp
  ·have:¬es.size>1:=by exact Cp.mpr (by assumption)
   simp[this]
 refine J_ (λh=>absurd h Oy) (λ_=>?_)
 refine AR ?_
 refine UO (by rw[ht.led];rfl) ?_
 refine Aa ?_
 rw[VW]
 exact Aa hq
theorem rx{I:AK}{first:AE}{i:Nat}{S:AK}{n ep:Nat}(hI:s.heap.get? I=AA (HN first i S n ep)){Q:Option AE->AN->Prop}
  (h:Ac (Bo prog w) A.in1 (Builtin.«set_iterator.__next__» ⟨[.ref I],[]⟩) (λfin s'=>∃v,fin= .done (.ret v)/\Q (AA v) s') (λe s'=>∃a o,e= .ref a/\s'.heap.get? a=AA o/\o.cls= .type "StopIteration"/\Q AB s') s):
  Ac (Bo prog w) A (Ib (.ref I)) Q E s:=by
 unfold Ib
 refine AR (wpAny_attempt (jH (name:=CR "__next__") (⟨_,hI,rfl⟩:s.TypeIs (.ref I) "set_iterator") RF.slot_setiter_next
  (RH RF.slot_setiter_next (⟨_,hI,rfl⟩:s.TypeIs (.ref I) "set_iterator") RF.entry_setiter_next (J' h (λfin s' hp=>?_) λe s' hp=>?_) (RF.args_setiter_next _))))
 ·obtain⟨v,rfl,hq⟩:=hp
  exact⟨v,rfl,Aa hq⟩
 ·refine B7 (hp) λa o Vo=>?_
  obtain rfl:=Vo.1
  refine AR (RJ (T:="StopIteration") (b:=AC) ⟨o,Vo.2.1,Vo.2.2.1⟩ isSubtype_stop ?_)
  exact Aa Vo.2.2.2
theorem YC{I:AK}{slot i:Nat}{S:AK}{n ep:Nat}(hI:s.heap.get? I=AA (HN (C7 slot) i S n ep))(hh:A.handled=AB){o:BG}{es:Array (Int×AE)}{t:Fl}(ho:s.heap.get? S=AA o)(hd:o.data= .set es ep t)(hf:t.fits es.size=AC)(hn:n=es.size)
  {r:Option (AE×Nat)} (zF:∀{Q':Option (AE×Nat)->AN->Prop} {E':AE->AN->Prop},Q' r s->Ac (Bo prog w) A.in1 (VA S slot i ep) Q' E' s) {Q:Option AE->AN->Prop}
  (zR:∀x nx,r=AA (x,nx)->∀h',h'.get? I=AA (HN (C7 nx) (i+1) S n ep)->JL I s.heap h'->Q (AA x) {s with heap:=h'})
  (Ll:r=AB->∀h',(∀b o,b≠I->s.heap.get? b=AA o->h'.get? b=AA o)->Q AB {s with heap:=h'}):Ac (Bo prog w) A (Ib (.ref I)) Q E s:=by
 refine rx hI ?_
 have hIS:I≠S:=λe=>by subst e;rw[hI]at ho;cases ho;first|exact Af hd|cases hd
 unfold Builtin.«set_iterator.__next__»
 show Ac _ _ (fieldsOf (.ref I)>>=_) _ _ _
 refine AR (ZQ hI rfl ?_)
 refine AR (jN ho hd hf ?_)
 refine J_ (λh=>absurd h (by simp[hn])) (λ_=>?_)
 refine AR (zF ?_)
 cases r with
 |none=>
  refine AR (RK hI (by simp) λh1 Oo Il=>?_)
  refine sW hh λh' e hk he=>?_
  obtain⟨oe,Lm,yg⟩:=he
  exact⟨e,oe,rfl,Lm,yg,Ll rfl h' λb ob hb q=>hk b ob ((Il.2 b hb).trans q)⟩
 |some xn=>
  refine AR (RK hI (by simp) λh1 Oo Il=>?_)
  refine AR (RK Oo (by simp) λh2 jg Rv=>?_)
  exact Aa ⟨xn.1,rfl,zR xn.1 xn.2 rfl h2 jg (Il.trans Rv)⟩
theorem tV{I T:AK}{i:Nat}{S:AK}{n ep:Nat}(hI:s.heap.get? I=AA (HN (.ref T) i S n ep))(hh:A.handled=AB){o:BG}{es:Array (Int×AE)}{t:Fl}(ho:s.heap.get? S=AA o)(hd:o.data= .set es ep t)(hf:t.fits es.size=AC)(hn:n=es.size)
  {l:List Nat} {k:Nat} (hT:s.heap.get? T=AA (Hq ((l.map λ(i:Nat)=>C7 i).toArray) k)) {Q:Option AE->AN->Prop}
  (hq:match l[i]? with
   |some p=>∃e,es[p]? =AA e/\∀h',h'.get? I=AA (HN (.ref T) (i+1) S n ep)->JL I s.heap h'->Q (AA e.2) {s with heap:=h'}
   |none=>∀h',(∀b o,b≠I->s.heap.get? b=AA o->h'.get? b=AA o)->Q AB {s with heap:=h'}):Ac (Bo prog w) A (Ib (.ref I)) Q E s:=by
 refine rx hI ?_
 unfold Builtin.«set_iterator.__next__»
 show Ac _ _ (fieldsOf (.ref I)>>=_) _ _ _
 refine AR (ZQ hI rfl ?_)
 refine AR (jN ho hd hf ?_)
 refine J_ (λh=>absurd h (by simp[hn])) (λ_=>?_)
 refine AR (VH hT rfl ?_)
 have Zk:((l.map λ(i:Nat)=>C7 i).toArray)[(i:Int).toNat]? =(l[i]?).map λ(i:Nat)=>C7 i:=by simp
 dsimp only
 rw[Zk]
 cases hl:l[i]? with
 |none=>
  rw[hl]at hq
  dsimp only at hq
  refine AR (RK hI (by simp) λh1 Oo Il=>?_)
  refine AR (RK Oo (by simp) λh2 jg Rv=>?_)
  refine sW hh λh' e hk he=>?_
  refine A3 (he) λoe kj=>?_
  exact⟨e,oe,rfl,kj.1,kj.2,hq h' λb ob hb q=>hk b ob (((Il.trans Rv).2 b hb).trans q)⟩
 |some p=>
  rw[hl]at hq
  dsimp only at hq
  refine A3 (hq) λe km=>?_
  show Ac _ _ (setNextDrawn S p ep>>=_) _ _ _
  refine AR ?_
  unfold setNextDrawn
  refine AR (RL ho hd hf ?_)
  refine UO (bne_self_eq_false _) ?_
  rw[km.1]
  refine Aa ?_
  refine AR (RK hI (by simp) λh1 Oo Il=>?_)
  exact Aa ⟨e.2,rfl,km.2 h1 Oo Il⟩
end
end
section
open Builtin
section
variable{prog:Fk}{w:C6}{A:BZ}{E:AE->AN->Prop}{s:AN}
theorem gW{I S:AK}{n ep:Nat}{first:Nat->AE}{Cq:List AE}(hn:Cq.length=n)(Fr:List AK)(Cr:BS->Prop)(Os:∀h h':BS,Cr h->(∀b∈Fr,∀o,h.get? b=AA o->h'.get? b=AA o)->Cr h')(yM:I∉Fr)
  (KM:∀(i:Nat) (s:AN) (Q:Option AE->AN->Prop) (E:AE->AN->Prop),i<n->Cr s.heap->s.heap.get? I=AA (HN (first i) i S n ep)->(∀v h',Cq[i]? =AA v->h'.get? I=AA (HN (first (i+1)) (i+1) S n ep)->JL I s.heap h'->Q (AA v) {s with heap:=h'})->Ac (Bo prog w) A (Ib (.ref I)) Q E s)
  (yk:∀(s:AN) (Q:Option AE->AN->Prop) (E:AE->AN->Prop),Cr s.heap->s.heap.get? I=AA (HN (first n) n S n ep)->(∀h',(∀b o,b≠I->s.heap.get? b=AA o->h'.get? b=AA o)->Q AB {s with heap:=h'})->Ac (Bo prog w) A (Ib (.ref I)) Q E s):
  Mc prog w A I (I::Fr) [I] (λa b=>b=a) n (λi v=>Cq[i]? =AA v) (λi s=>Cr s.heap/\s.heap.get? I=AA (HN (first i) i S n ep)) where
 sub:=λb hb=>by simp only[Ca.mp hb];exact CP
 grefl:=λ_=>rfl
 gtrans:=λa b c h1 h2=>h2.trans h1
 frame:=λi s h' tk st _ hk=>⟨Os _ _ st.1 λb hb o e=>hk b (Ef _ hb) o e,hk I CP _ st.2⟩
 item:=λi s Q E hi st hQ=>KM i s Q E hi st.1 st.2 λv h' hv h1 h2=>hQ v _ hv ⟨Os _ _ st.1 λb hb o e=>by
   rw[h2.2 b (λq=>yM (q▸hb))];exact e,h1⟩ ⟨λb o hb e=>by
   rw[h2.2 b (λq=>hb (Ca.mpr q))];exact e,rfl,rfl,rfl,BL _⟩
 done:=λs Q E st hQ=>yk s Q E st.1 st.2 λh' hk=>hQ _ ⟨λb o hb e=>hk b o (λq=>hb (Ca.mpr q)) e,rfl,rfl,rfl,BL _⟩
 self:=λi s Q E st h=>by
  refine xj (⟨_,st.2,rfl⟩:s.TypeIs (.ref I) "set_iterator") RF.slot_setiter_iter (RH RF.slot_setiter_iter (⟨_,st.2,rfl⟩:s.TypeIs (.ref I) "set_iterator") RF.entry_setiter_iter ?_ (RF.args_setiter_iter _))
  exact Aa ⟨_,rfl,"set_iterator",_,(⟨_,st.2,rfl⟩:s.TypeIs (.ref I) "set_iterator"),RF.slot_setiter_next.lookup,h⟩
theorem gU{es:List (Int×AE)}(FK:Qy (Dl prog w) es):JJ (es.map (·.2)) (es.map GD):=by
 induction es with
 |nil=>exact .nil
 |cons e r ih=>
  obtain⟨⟨k,hk,_⟩,_⟩:=FK.head
  obtain⟨h1,t,ht⟩:=eD hk
  show JJ (e.2::r.map (·.2)) (GD e::r.map GD)
  rw[h1,ht]
  exact .cons _ _ (ih FK.tail)
theorem A02{I S T:AK}(h1:I≠S)(h2:I≠T):I∉[S,T]:=λh=>(Cf.mp h).elim h1 λh=>h2 (Ca.mp h)
section
variable{I S T:AK}{o:BG}{es:Array (Int×AE)}{ep c:Nat}{t:Fl}{A':BZ}(hd:o.data= .set es ep t)(hf:t.fits es.size=AC)(hh:A'.handled=AB)
include hd hf hh
noncomputable def Pj(l:List Nat)(es:Array (Int×AE)):List (Int×AE):=l.map λp=>(es[p]?).getD (0,Uz)
theorem Bd2{l:List Nat}(hl:l.Perm (Eo es.size))(hI:I∉[S,T]):Mc prog w A' I [I,S,T] [I] (λa b=>b=a) es.size (λi v=>((Pj l es).map (·.2))[i]? =AA v)
  (λi s=>(s.heap.get? S=AA o/\s.heap.get? T=AA (Hq ((l.map λ(i:Nat)=>C7 i).toArray) c))/\s.heap.get? I=AA (HN (.ref T) i S es.size ep)):=
 have Bh:l.length=es.size:=hl.length_eq.trans OJ
 gW (first:=λ_=> .ref T) (by rw[Ay,Pj,Ay,Bh]) [S,T] (λh=>h.get? S=AA o/\h.get? T=AA (Hq ((l.map λ(i:Nat)=>C7 i).toArray) c))
  (λh h' hb hk=>⟨hk S (.head _) _ hb.1,hk T (.tail _ (.head _)) _ hb.2⟩) hI
  (λi s1 Q1 E1 hi hb Ij Ig=>tV Ij hh hb.1 hd hf rfl hb.2 (by
   rw[B8 (Bh.symm▸hi)]
   have KQ:l[i]'(Bh.symm▸hi)<es.size:=Uf.mp (hl.subset (LL _))
   refine⟨es[l[i]'(Bh.symm▸hi)],Gx KQ,λh' q1 q2=>Ig _ h' ?_ q1 q2⟩
   rw[Cm,Pj,Cm,B8 (Bh.symm▸hi),Qu,Gx KQ];rfl))
  λs1 Q1 E1 hb Ij Ig=>tV Ij hh hb.1 hd hf rfl hb.2 (by
   rw[Ga (BR Bh)]
   exact Ig)
theorem Bd4(JW:w.params.followText "set-order"=AC)(hI:I∉[S]):Mc prog w A' I [I,S] [I] (λa b=>b=a) es.size (λi v=>((N' w S ep es).toList.map (·.2))[i]? =AA v)
  (λi s=>s.heap.get? S=AA o/\s.heap.get? I=AA (HN (C7 0) i S es.size ep)):=
 have Bh:(N' w S ep es).size=es.size:=by have:=(Xo (w.params.setOrder S ep) es).length_eq;rw[En,En]at this;exact this
 gW (first:=λ_=>C7 0) (by rw[Ay,En,Bh]) [S] (λh=>h.get? S=AA o) (λh h' hb hk=>hk S (.head _) _ hb) hI
  (λi s1 Q1 E1 hi hb Ij Ig=>by
   have he:=Gx (Bh.symm▸hi:i<(N' w S ep es).size)
   refine YC (slot:=0) (r:=((N' w S ep es)[i]?).map λe=>(e.2,0)) Ij hh hb hd hf rfl (λhq=>tB hb hd hf JW hq) (λx nx hr h' q1 q2=>?_) λhr=>?_
   ·rw[he]at hr
    cases hr
    refine Ig _ h' ?_ q1 q2
    rw[Cm,Jz,he];rfl
   ·rw[he]at hr;exact Af hr.symm)
  λs1 Q1 E1 hb Ij Ig=>YC (slot:=0) (r:=((N' w S ep es)[es.size]?).map λe=>(e.2,0)) Ij hh hb hd hf rfl (λhq=>tB hb hd hf JW hq) (λx nx hr=>by rw[gi (BR Bh)]at hr;exact Af hr) λ_=>Ig
omit hf in
theorem Bd3(ht:GO AC es.size t)(JW:w.params.followText "set-order"=AD)(KQ:t.plain=AC\/es.size<=1)(hI:I∉[S]):Mc prog w A' I [I,S] [I] (λa b=>b=a) es.size (λi v=>(es.toList.map (·.2))[i]? =AA v)
  (λi s=>s.heap.get? S=AA o/\s.heap.get? I=AA (HN (C7 ((if i=0 then 0 else(t.place.getD (i - 1) 0)+1:Nat):Int)) i S es.size ep)):=
 have hp:t.place.size=es.size:=CH (IR.mp ht.fits).1
 have Li:∀i,i<es.size->t.place[i]? =AA (t.place.getD i 0):=λi hi=>(Gx (hp.symm▸hi)).trans (congrArg AA (dif_pos (hp.symm▸hi:i<t.place.size)).symm)
 have VW:∀i,i<=es.size->Fm t.place (if i=0 then 0 else(t.place.getD (i - 1) 0)+1)=i:=λi hi=>by
  cases i with
  |zero=>exact AO6 ht.rise
  |succ i=>rw[if_neg (Nat.succ_ne_zero i)];exact AO4 ht.rise (Li i hi)
 gW (first:=λi=>C7 ((if i=0 then 0 else(t.place.getD (i - 1) 0)+1:Nat):Int)) (by rw[Ay,En]) [S] (λh=>h.get? S=AA o) (λh h' hb hk=>hk S (.head _) _ hb) hI
  (λi s1 Q1 E1 hi hb Ij Ig=>by
   refine YC (r:=match es[i]?,t.place[i]? with|some (_,x),AA j=>AA (x,j+1)|_,_=>AB) Ij hh hb hd ht.fits rfl (λhq=>tA hb hd ht JW KQ (VW i (Et hi)) hq) (λx nx hr h' q1 q2=>?_) λhr=>?_
   ·rw[(Gx hi),(Li i hi)]at hr
    cases hr
    refine Ig _ h' ?_ q1 q2
    rw[Cm,Jz,(Gx hi)];rfl
   ·rw[(Gx hi),(Li i hi)]at hr;exact Af hr.symm)
  λs1 Q1 E1 hb Ij Ig=>YC (r:=match es[es.size]?,t.place[es.size]? with|some (_,x),AA j=>AA (x,j+1)|_,_=>AB) Ij hh hb hd ht.fits rfl (λhq=>tA hb hd ht JW KQ (VW es.size (BL _)) hq) (λx nx hr=>by
   rw[gi (BL es.size)]at hr;exact Af hr) λ_=>Ig
end
theorem Aw2{es:Array (Int×AE)}{β:Type}(f:Int×AE->β):(Eo es.size).map (λp=>f ((es[p]?).getD (0, .none)))=es.toList.map f:=Qi λi=>by
 rw[Cm,Cm,Jz (xs:=es)]
 by_cases hi:i<es.size
 ·rw[hV hi,Qu,Gx hi];rfl
 ·rw[gi (Cp.mp hi),Ga (by rw[OJ];exact Cp.mp hi)];rfl
theorem oU{h:BS}:h.get? (h.objs.size+1)=AB:=by
 cases q:h.get? (h.objs.size+1)with
 |none=>rfl
 |some o=>exact absurd (Ew q) (Cp.mpr (Da _))
theorem py{S:AK}{σ:List Int}{A':BZ}{Q:AE->AN->Prop}{n ep:Nat}
  (hQ:∀(I:AK) (s':AN) (fp:List AK) (Cq:List AE) (n:Nat) (St:Nat->AN->Prop),Cq.length=n->(∀b o,s.heap.get? b=AA o->s'.heap.get? b=AA o)->s'.gens=s.gens->s'.os=s.os->s'.toks=s.toks->
   Mc prog w A' I fp [I] (λa b=>b=a) n (λi v=>Cq[i]? =AA v) St->St 0 s'->s.heap.get? I=AB->I∈fp->(∀b∈fp,b=S\/s.heap.get? b=AB)->(∃ns,JJ Cq ns/\ns.Perm σ)->Q (.ref I) s')
  (Ll:s.heap.get? s.heap.objs.size=AB) (Cq:List AE) (St:Nat->AN->Prop) (M9:Cq.length=n) (W:Mc prog w A' s.heap.objs.size [s.heap.objs.size,S] [s.heap.objs.size] (λa b=>b=a) n (λi v=>Cq[i]? =AA v) St) (st:St 0 {s with heap:=s.heap.push (HN (C7 0) 0 S n ep)}) (Ik:∃ns,JJ Cq ns/\ns.Perm σ):
  Ac (Bo prog w) A.in1 (ret (.ref s.heap.objs.size)) (λfin s'=>∃v,fin= .done (.ret v)/\∃T' r,s'.TypeIs v T'/\JS (.type T') (CR "__next__")=Ax (AA r)/\Q v s') E {s with heap:=s.heap.push (HN (C7 0) 0 S n ep)}:=
 Aa ⟨_,rfl,"set_iterator",_,⟨_,CQ _ rfl,rfl⟩,RF.slot_setiter_next.lookup,hQ s.heap.objs.size _ _ _ _ _ M9 (λb ob h=>CW _ h) rfl rfl rfl W st Ll CP (λb hb=>(Cf.mp hb).elim (λe=> .inr (e▸Ll)) λhb=> .inl (Ca.mp hb)) Ik⟩
theorem Ap5{S:AK}{σ:List Int}(hS:Fz prog w (I4 w) s.heap S σ){A':BZ}(hh:A'.handled=AB){Q:AE->AN->Prop}
  (hQ:∀(I:AK) (s':AN) (fp:List AK) (Cq:List AE) (n:Nat) (St:Nat->AN->Prop),Cq.length=n->(∀b o,s.heap.get? b=AA o->s'.heap.get? b=AA o)->s'.gens=s.gens->s'.os=s.os->s'.toks=s.toks->
   Mc prog w A' I fp [I] (λa b=>b=a) n (λi v=>Cq[i]? =AA v) St->St 0 s'->s.heap.get? I=AB->I∈fp->(∀b∈fp,b=S\/s.heap.get? b=AB)->(∃ns,JJ Cq ns/\ns.Perm σ)->Q (.ref I) s'):
  Ac (Bo prog w) A (Oj (.ref S)) Q E s:=by
 obtain⟨o,es,ep,t,ho,hex,hd,FK,ht,hp,hb⟩:=hS
 have hT:s.TypeIs (.ref S) "set":=⟨o,ho,hex.1⟩
 have hf:=ht.fits
 have Ll:s.heap.get? s.heap.objs.size=AB:=get?_size _
 have VU:S<s.heap.objs.size:=Ew ho
 have B3:s.heap.objs.size∉[S]:=λh=>absurd VU (by rw[Ca.mp h];exact Eu _)
 have e0:Frozenset.slot0 "__iter__" ⟨[.ref S],[]⟩=Ax S:=by kernel_rfl
 refine xj hT RF.slot_set_iter (RH RF.slot_set_iter hT RF.entry_set_iter ?_ (RF.args_set_iter _))
 unfold Builtin.«frozenset.__iter__»
 refine AR (Ic e0 (AR ?_))
 unfold Frozenset.sizeOf
 refine AR (jN ho hd hf (Aa (AR ?_)))
 unfold setDrawn
 refine AR (RL ho hd hf ?_)
 unfold ZN
 refine AR (AR (Om (Aa (Aa ?_))))
 refine J_ (λhc=>?_) (λhc=>?_)
 ·refine AR (uf es.size (Eo es.size) (BR OJ) λl d hl=>?_)
  refine AR (jK (items:=l.map λ(i:Nat)=>C7 i) ?_ (by rw[Ay,hl.length_eq,OJ];exact AO (Et hb) (by decide)))
  refine AR (xk (o:=o) (es:=es) (t:=t) (ep:=ep) (CW _ ho:(s.heap.push (Hq ((l.map λ(i:Nat)=>C7 i).toArray) 0)).get? S=AA o) hd hf ?_)
  refine AR (Le ?_ (by show(5:Nat)<=_;decide))
  rw[(Q3 .. :(s.heap.push (Hq ((l.map λ(i:Nat)=>C7 i).toArray) 0)).objs.size=s.heap.objs.size+1)]
  refine Aa ⟨_,rfl,"set_iterator",_,⟨_,((Q3 .. :(s.heap.push (Hq ((l.map λ(i:Nat)=>C7 i).toArray) 0)).objs.size=s.heap.objs.size+1)▸CQ _ rfl),rfl⟩,RF.slot_setiter_next.lookup,?_⟩
  exact hQ (s.heap.objs.size+1) _ _ _ _ _ (by rw[Ay,Pj,Ay,hl.length_eq,OJ]) (λb ob h=>CW _ (CW _ h)) rfl rfl rfl
   (Bd2 (c:=0) hd hf hh hl (A02 (λe=>absurd VU (by rw[<-e];exact Cp.mpr (Da _))) (wT _))) ⟨⟨CW _ (CW _ ho:(s.heap.push (Hq ((l.map λ(i:Nat)=>C7 i).toArray) 0)).get? S=AA o),CW _ (CQ _ rfl)⟩,((Q3 .. :(s.heap.push (Hq ((l.map λ(i:Nat)=>C7 i).toArray) 0)).objs.size=s.heap.objs.size+1)▸CQ _ rfl)⟩ (oU:s.heap.get? (s.heap.objs.size+1)=AB) CP
   (λb hb=>(Cf.mp hb).elim (λe=> .inr (e▸(oU:s.heap.get? (s.heap.objs.size+1)=AB))) λhb=>(Cf.mp hb).imp id λe=>by rw[Ca.mp e];exact Ll)
   ⟨(Pj l es).map GD,gU (prog:=prog) (w:=w) λe he=>(HS.mp he).elim λp h=>h.2▸(Gx (Uf.mp (hl.subset h.1))▸FK _ (Array.getElem_mem_toList _)),by
    refine List.Perm.trans ?_ hp
    rw[<-Aw2 (es:=es) GD,Pj,Hu]
    exact hl.map _⟩
 ·have Rb:¬(!w.params.followText "set-order"&&(!t.plain&&decide (es.size>1)))=AC:=hc
  refine AR (Aa (AR (xk ho hd hf (AR (Le ?_ (by show(5:Nat)<=_;decide))))))
  cases JW:w.params.followText "set-order" with
  |true=>
   exact(@py prog w A E s S σ A' Q es.size ep hQ Ll) _ _ (by rw[Ay,En];have:=(Xo (w.params.setOrder S ep) es).length_eq;rw[En,En]at this;exact this) (Bd4 hd hf hh JW B3) ⟨CW _ ho,CQ _ rfl⟩ ⟨(N' w S ep es).toList.map GD,gU (prog:=prog) (w:=w) λe he=>FK e ((Xo (w.params.setOrder S ep) es).mem_iff.mp he),((Xo (w.params.setOrder S ep) es).map GD).trans hp⟩
  |false=>
   rw[show I4 w=AC by unfold I4;rw[JW];rfl]at ht
   refine(@py prog w A E s S σ A' Q es.size ep hQ Ll) _ _ (by rw[Ay,En]) (Bd3 hd hh ht JW ?_ B3) ⟨CW _ ho,CQ _ rfl⟩ ⟨es.toList.map GD,gU (prog:=prog) (w:=w) FK,hp⟩
   rw[JW]at Rb
   cases hq:t.plain with
   |true=>exact .inl rfl
   |false=>rw[hq]at Rb;exact .inr (Cp.mp λz=>Rb (decide_eq_true z))
end
end
section
open Builtin
section
variable{prog:Fk}{w:C6}{A:BZ}{E:AE->AN->Prop}{s:AN}
theorem Am0{S:AK}(hT:s.TypeIs (.ref S) "set"){Q:Bool->AN->Prop}(hq:Q AD s):Ac (Bo prog w) A (List.listLengthHint (.ref S)) Q E s:=by
 unfold List.listLengthHint
 refine AR (jO hT RF.len_set ?_)
 have hs:splitId "set.__len__"=AA ("set","__len__"):=by decide+kernel
 dsimp only
 rw[hs]
 dsimp only
 refine AR (RJ (b:=AC) hT jF ?_)
 refine Bd7 ?_
 refine J_ (λ_=>?_) (λh=>absurd (by decide+kernel) h)
 refine AR (ZS hT ?_)
 exact Aa hq
theorem BT2{L:AK}{items:Array AE}{c:Nat}(hL:s.heap.get? L=AA (Dk items c))(Fu:items.size<10000){Q:Unit->AN->Prop}(hq:∀h' c',h'.get? L=AA (Dk items c')->JL L s.heap h'->Q () {s with heap:=h'}):
  Ac (Bo prog w) A (List.listTouch (.ref L)) Q E s:=by
 unfold List.listTouch List.listUpdate
 have O7:FI=16777216:=rfl
 refine AR (jP hL rfl ?_ (by exact AO (Et (by assumption)) (by decide)) (by rw[YU];exact AO (by assumption) (by decide)))
 have h1:=Uv (JN (·.push .none)) hL rfl
 obtain⟨c1,e1⟩:∃c1,JN (·.push .none) (Dk items c)=Dk (items.push .none) c1:=⟨_,rfl⟩
 rw[e1]at h1
 refine jP (s:={s with heap:=s.heap.update L (JN (·.push .none))}) h1 rfl ?_ (by rw[YU];exact AO (by assumption) (by decide)) (by simp;exact AO (Et (by assumption)) (by decide))
 have h2:=Uv (JN (·.pop)) h1 rfl
 obtain⟨c2,e2⟩:∃c2,JN (·.pop) (Dk (items.push .none) c1)=Dk ((items.push .none).pop) c2:=⟨_,rfl⟩
 rw[e2,Array.pop_push]at h2
 exact hq _ _ h2 ((OR ..).trans (OR ..))
theorem AU4{S:AK}{σ:List Int}(hS:Fz prog w (I4 w) s.heap S σ)(hh:A.handled=AB){Q:List AE->AN->Prop}
  (hQ:∀s' vs,(∀b o,s.heap.get? b=AA o->s'.heap.get? b=AA o)->s'.gens=s.gens->s'.os=s.os->s.toks<=s'.toks->(∃ns,JJ vs ns/\ns.Perm σ)->Q vs s'):Ac (Bo prog w) A (collect (.ref S)) Q E s:=by
 have VU:S<s.heap.objs.size:=by obtain⟨o,es,ep,t,ho,_⟩:=hS;exact Ew ho
 have O7:FI=16777216:=rfl
 have z0:σ.length<4096:=by
  obtain⟨o,es,ep,t,ho,_,_,_,_,hp,hb⟩:=hS
  have:=hp.length_eq
  have H4:JP=4096:=rfl
  simp at this;exact this▸hb
 unfold collect
 refine AR (wpAny_runValue (Oe PySem.F.entry_proto_collect ?_))
 rw[Qv PySem.F.plain_proto_collect _]
 show Ac _ A.in1 (newList []>>=λl=>RB (.builtin "list.__iadd__" ⟨[l, .ref S],[]⟩)) _ _ s
 refine AR (Le ?_)
 refine Aa ⟨U' xD _,Oe xA ?_⟩
 rw[Qv xD _]
 have Z6:∀b o,s.heap.get? b=AA o->(s.heap.push {cls:= .type "list",data:= .seq ([]:List AE).toArray}).get? b=AA o:=λb o h=>CW _ h
 have jl:Fz prog w (I4 w) (s.heap.push {cls:= .type "list",data:= .seq ([]:List AE).toArray}) S σ:=by
  obtain⟨o,es,ep,t,ho,r2,r3,r4,r5,r6,r7⟩:=hS
  exact⟨o,es,ep,t,Z6 _ _ ho,r2,r3,r4,r5,r6,r7⟩
 have hT:xT {s with heap:=s.heap.push {cls:= .type "list",data:= .seq ([]:List AE).toArray}} (.ref S) "set":=by
  obtain⟨o,es,ep,t,ho,hex,_⟩:=jl
  exact⟨o,ho,hex.1⟩
 have jh:(s.heap.push {cls:= .type "list",data:= .seq ([]:List AE).toArray}).get? s.heap.objs.size=AA (Dk #[] 0):=CQ _ rfl
 have B3:s.heap.objs.size≠S:=λh=>absurd VU (by rw[<-h];exact Eu _)
 show Ac _ A.in1 (wh (.ref s.heap.objs.size) (.ref S) (.ref s.heap.objs.size)) _ _ _
 unfold wh
 refine AR (ZS hT ?_)
 refine QX (by rw[(by simp[wi,B3]:wi (.ref s.heap.objs.size) (.ref S)=AD)];decide) ?_
 refine AR (Ap5 (A':=A.in1) jl hh λI s2 fp Cq n St M9 k2 g2 o2 t2 W st yN Bg7 yr Ik=>?_)
 have yU:s2.TypeIs (.ref S) "set":=by
  refine A3 (hT) λo ko=>?_
  exact⟨o,k2 _ _ ko.1,ko.2⟩
 refine AR (D_ (Am0 yU ?_))
 have ji:s.heap.objs.size∉fp:=λhm=>by
  rcases yr _ hm with h|h
  ·exact B3 h
  ·rw[jh]at h;first|exact Af h|cases h
 have hnv:n<4096:=by
  refine A3 (Ik) λns kq=>?_
  have q1:=iT kq.1
  have q2:=kq.2.length_eq
  exact Bg (BR (M9.symm.trans (q1.trans q2))) z0
 refine J_ (λ_=>?_) (λh=>absurd (by decide+kernel) h)
 refine AR (Hb ?_)
 refine AR (BT2 (k2 _ _ jh) (by decide) λh3 c3 yO kJ=>?_)
 refine Aa ⟨U' PySem.F.plain_extend_loop _,?_⟩
 have FO:=W.frame 0 s2 h3 s2.toks st (BL _) λb hb o e=>by
  rw[kJ.2 b (λq=>ji (q▸hb))];exact e
 refine codeAny_extend_loopS W (by exact AO (Et (by assumption)) (by decide)) s.heap.objs.size ji _ n 0 {s2 with heap:=h3} #[] c3 rfl (D2 _) FO yO (ItemsOf.nil _) λs4 acc c4 hm yP VV=>?_
 refine AR (jI yP ?_)
 have ya:acc.toList=Cq:=by
  apply Qi
  intro j
  by_cases hj:j<acc.size
  ·have he:=Gx hj
   simp only[Jz (xs:=acc),he,VV.2 j _ he]
  ·rw[Ga (by simpa using hj),Ga (AO (BR (M9.trans VV.1.symm)) (Cp.mp hj))]
 refine Aa (hQ s4 acc.toList (λb o hb=>?_) ?_ ?_ ?_ (by rw[ya];exact Ik))
 ·have CY:=Ew hb
  have q2:h3.get? b=AA o:=by rw[kJ.2 b (λq=>absurd CY (by rw[q];exact Eu _))];exact(k2 _ _ (Z6 _ _ hb))
  refine hm.heap b o (λOx=>?_) q2
  rcases Cf.mp Ox with h|h
  ·exact absurd CY (by rw[h];exact Eu _)
  ·rw[Ca.mp h]at hb
   have:=Z6 _ _ hb
   rw[yN]at this;first|exact Af this|cases this
 ·exact hm.gens.trans g2
 ·exact hm.os.trans o2
 ·have:=hm.toks
  have q:s2.toks<=s4.toks:=this
  rw[t2]at q;exact q
end
end
section
open PySem.Spec (ltCps)
section
variable{prog:Fk}{w:C6}
open Builtin
set_option maxHeartbeats 2000000 in
theorem BO6{A:BZ}{E:AE->AN->Prop}{s:AN}{S:AK}{σ:List Int}(hS:Fz prog w (I4 w) s.heap S σ)(hh:A.handled=AB)(Za:σ.length<64){Q:AE->AN->Prop}
  (hQ:∀D s' out e KZ,(∀b o,s.heap.get? b=AA o->s'.heap.get? b=AA o)->s'.gens=s.gens->s'.os=s.os->s'.heap.get? D=AA (Dk out e)->s.heap.get? D=AB->JJ out.toList KZ->KZ.Perm σ->KZ.Pairwise (·<=·)->Q (.ref D) s'):
  Ac (Bo prog w) A (call (.builtin "sorted") [.ref S]) Q E s:=by
 refine Calls.call_function_entry kind_sorted plain_sorted entry_sorted (args_sorted1 _) ?_
 unfold Builtin.«sorted»
 refine AR (m:=checkCount "sorted" 1 1 _) (Aa ?_)
 refine AR (AU4 (A:=A.in1) hS hh λs1 vs k1 g1 o1 t1 Ik=>?_)
 refine A3 (Ik) λns Vt=>?_
 have M9:vs.length<64:=by
  rw[iT Vt.1,Vt.2.length_eq];exact Za
 refine AR (VG ?_ (AO (Et M9) (by decide)))
 show Ac _ _ _ _ _ {s1 with heap:=s1.heap.push (ON "list" vs.toArray 0)}
 refine AR (D_ (RH slot_list_sort ⟨_,(CQ _ rfl:(s1.heap.push (ON "list" vs.toArray 0)).get? s1.heap.objs.size=AA (ON "list" vs.toArray 0)),rfl⟩ entry_list_sort (list_sort_tree (CQ _ rfl:(s1.heap.push (ON "list" vs.toArray 0)).get? s1.heap.objs.size=AA (ON "list" vs.toArray 0)) Vt.1 M9 λout KZ a1 a2 a3=>⟨_,rfl,?_⟩) (args_list_sort _)))
 obtain⟨e,he⟩:=sortedHeap_at (out:=out) (CQ _ rfl:(s1.heap.push (ON "list" vs.toArray 0)).get? s1.heap.objs.size=AA (ON "list" vs.toArray 0))
 have hD:s.heap.get? s1.heap.objs.size=AB:=by
  cases q:s.heap.get? s1.heap.objs.size with
  |none=>rfl
  |some o=>exact absurd (Ew (k1 _ _ q)) (Eu _)
 refine Aa ⟨_,rfl,hQ _ _ out e KZ (λb o h=>?_) g1 o1 he hD a1 (a2.trans Vt.2) a3⟩
 have q1:=k1 b o h
 show(sortedHeap _ _ _ _).get? b=AA o
 rw[sortedHeap_old (IU (Ew q1)) (by rw[Q3];exact Qr (Ew q1))]
 exact CW _ q1
end
variable{X Y:AK->Prop}{σ τ υ:St}{A:BZ}{α β γ:Type}{m:Bool}{k:Nat}{q:Bool}{fx:Fx}{n n2:AQ}{pos p1 p2 p3 p4:BK}{e l r x y:Ab}{es:List Ab}{f g:List CV->AL->R CV}{kd:Nat}{env:A7}{AI:AY}
theorem Aj.up{d:D}(h:Aj AD k q fx e d):Aj m k q fx e d:=λA env σ AI p hn ht Q E hQ hE=>wq.of (h A env σ AI p hn ht Q E hQ hE).any
theorem Ab8{rel:St->α->AE->Prop}{r:R α}{fv:AE}{t:Ao AE}(h:Ev m rel A t σ r):Ev m (λτ a x=>∃v,x=⟨[v],[]⟩/\rel τ a v) A (Mi fv AC [(AD,t)] []) σ r:=by
 unfold Mi
 have h1:Ev m (λτ a vs=>∃v,vs=[v]/\rel τ a v) A (ZO [(AD,t)]) σ r:=by
  refine Ev.post (rel':=λτ a vs=>∃v,vs=[v]/\rel τ a v) h λa v τ st ok h=>?_
  have e:∃v',[v]=[v']/\rel τ a v':=⟨v,rfl,h⟩
  show Ev m _ A (if AD=AC then _ else _) _ _
  rw[if_neg C2]
  exact Ev.leaf (f:=λl=>Ax ([v]++l)) [] (λQ E h=>D_ (Aa h)) (Ev.ret (rel:=λτ a vs=>∃v,vs=[v]/\rel τ a v) (a:=a) (v:=[v]) ok e)
 refine Ev.post (rel':=λτ a x=>∃v,x=(⟨[v],[]⟩:HW)/\rel τ a v) h1 λa vs τ st ok ⟨v,e,h⟩=>?_
 subst e
 have e:∃v',(⟨[v],[]⟩:HW)=⟨[v'],[]⟩/\rel τ a v':=⟨v,rfl,h⟩
 refine Ev.holding ?_
 exact Ev.leaf (f:=λ_=>Ax (⟨[v],[]⟩:HW)) [] (λQ E h=>Aa h) (Ev.ret (rel:=λτ a x=>∃v,x=(⟨[v],[]⟩:HW)/\rel τ a v) (a:=a) (v:=(⟨[v],[]⟩:HW)) ok e)
noncomputable def mC(τ:St)(ns:List Int)(v:AE):Prop:=∃S,v= .ref S/\Fz pE w (I4 w) τ.h S (Gp ns)
theorem Ac2{l:List CV}{vs:List AE}(hR:Bs A k AC σ)(ok:Ok σ)(hv:Vs σ l vs):Ev AD mC A (call (.type "set") vs) σ ((L1 l).elim .no λcs=>(Gm cs).elim .no λns=>if ns.length<4000 then .ok ns σ.o else .no):= .opt λcs e=> .opt λns hi=> .ite λhc=> .of λ_ Q E hQ _=>by
 cases l with
 |nil=>first|exact Af e|cases e
 |cons c l=>
  cases l with
  |nil=>
   cases c<;>cases e
   obtain⟨v,_,rfl,⟨l,ws,rfl,h1,h3⟩,rfl⟩:=hv
   obtain⟨j,h1⟩:=h1
   refine AR1 (hR.hand rfl) h1.1 (mV h3 hi).are (Bg hc (by decide)) λh' tk ht hS hk=>?_
   exact hQ.grow (s':={σ.s with heap:=h',toks:=tk}) ok hk rfl rfl rfl ⟨_,rfl,hS⟩
  |cons=>cases c<;>cases e
noncomputable def NW(d:DL):D:=λAI o=>((d AI o).bind λl o=>(L1 l).elim .no λcs=>(Gm cs).elim .no λns=>if ns.length<4000 then .ok ns o else .no).bind λns o=>if(Gp ns).length<64 then .ok (.lst ((W_ (Gp ns)).map .int)) o else .no
theorem BN6{d:DL}(hx:Aj AD k AC fx (.Name n p1) (AG (.top (.builtin "sorted"))))(hy:Aj AD k AC fx (.Name n2 p2) (AG (.top (.type "set"))))(ha:H6 AD k AC fx p3 [e] [] [] d)
  (ht:∀env,Dd p4 (CX [.Call (.Name n2 p2) [e] [] p3] env)=[(AD,B_ (.Call (.Name n2 p2) [e] [] p3) env)]:=by intro env;rfl):Aj m k AC fx (.Call (.Name n p1) [.Call (.Name n2 p2) [e] [] p3] [] p4) (NW d):= .up λA env σ AI p=>by
 refine Ev.one (f:=λf=>Mf p4 f [] (Dd p4 (CX [.Call (.Name n2 p2) [e] [] p3] env)) []) (g:=λo=>NW d AI o) (hx _ _ _ _ p) λv τ st ok h=>?_
 cases h
 have V6:=p.step st ok
 rw[ht env]
 have EN:Ev AD mC A (B_ (.Call (.Name n2 p2) [e] [] p3) env) τ ((d AI τ.o).bind λl o=>(L1 l).elim .no λcs=>(Gm cs).elim .no λns=>if ns.length<4000 then .ok ns o else .no):=
  Ev.one (f:=λf=>Mf p3 f [] (Dd p3 (CX [e] env)) (G3 p3 (G4 [] env))) (g:=λo=>(d AI o).bind λl o=>(L1 l).elim .no λcs=>(Gm cs).elim .no λns=>if ns.length<4000 then .ok ns o else .no) (hy _ _ _ _ V6) λv υ st ok h=>by
   cases h
   refine S4 (ha.plain env) Nn (ha.ev _ _ _ _ _ (V6.step st ok)) λcs x ω BF BE ⟨ks,Zo,hv,hl⟩=>?_
   cases Gy.mp hl
   rw[BJ]at hv
   rw[Zo]
   exact Ac2 (((V6.r.step st).step BF)) BE hv
 refine S4 (fv:= .builtin "sorted") (kws:=[]) rfl MB (Ab8 EN) λns x υ BF BE ⟨v,e,S,e2,hS⟩=> .ite λZa=> .of λ_ Q E hQ _=>?_
 subst e e2
 refine BO6 hS (V6.r.hand rfl) Za λD s' out e KZ k1 g1 o1 hD VS j1 j2 j3=>?_
 refine hQ.grow (s':=s') BE k1 g1 o1 rfl ⟨D,out.toList,rfl,⟨e,hD,λq=>(BE.Mlt _ q).1.elim λo h=>Bt h VS⟩,?_⟩
 rw[<-Ao9 j2 j3];exact IntsAre.back j1
noncomputable def f_(l:List T):List T:=match l with
 |[x,y]=>if MY y x=AC then [y,x]else [x,y]
 |l=>l
theorem Av4{a:List Nat}:∀{b:List Nat},MY a b=AD->MY b a=AD->a=b:=by
 induction a with
 |nil=>
  intro b h _
  cases b with
  |nil=>rfl
  |cons=>first|exact Af h|cases h
 |cons x a ih=>
  intro b h1 h2
  cases b with
  |nil=>first|exact Af h2|cases h2
  |cons y b=>
   unfold MY at h1 h2
   rw[gn]at h1 h2
   cases Ui (Cp.mp (of_decide_eq_false h2.1)) (Cp.mp (of_decide_eq_false h1.1))
   rw[beq_self_eq_true,YY]at h1 h2
   rw[ih h1.2 h2.2]
theorem A40{x y a b:α}(h:[a,b].Perm [x,y]):a=x/\b=y\/a=y/\b=x:=by
 rcases Cf.mp (h.subset CP)with rfl|h1
 ·exact .inl ⟨rfl,v_.mp ((vz _).mp h)⟩
 ·cases Ca.mp h1
  exact .inr ⟨rfl,v_.mp ((vz _).mp (h.trans (vH ..)))⟩
theorem BO4{ts:List T}{Im:List AQ}(hp:Im.Perm (ts.map AU))(hs:sortedS Im=AC)(hl:ts.length<=2):Im.map Bx=f_ ts:=by
 match ts,hl with
 |[],_=>cases List.Perm.eq_nil hp;rfl
 |[x],_=>cases List.perm_singleton.mp hp;rfl
 |[x,y],_=>
  match Im,hp.length_eq with
  |[a,b],_=>
   have Lp:MY (Bx b) (Bx a)=AD:=by simpa [sortedS,risingS,Bx] using hs
   show [Bx a,Bx b]=if MY y x=AC then [y,x]else [x,y]
   rcases A40 hp with⟨rfl,rfl⟩|⟨rfl,rfl⟩
   ·exact(if_neg (HR.mp Lp)).symm
   ·cases zz:MY y x with
    |true=>rfl
    |false=>cases Av4 Lp zz;rfl
theorem StrsAre.of{ps:List (AQ×Cg)}:StrsAre (HZ ps) (ps.map (·.1)):=by
 induction ps with
 |nil=>exact .nil
 |cons p r ih=>exact .cons _ _ ih
theorem StrsAre.back:∀{vs:List AE} {ss:List AQ},StrsAre vs ss->Vs σ ((ss.map Bx).map .str) vs
 |_,_, .nil=>rfl
 |_,_, .cons y t r=>⟨_,_,rfl,⟨t,rfl⟩,StrsAre.back r⟩
noncomputable def fM:List CV->AL->R CV:=Eb Cj λl o=>if l.length<=2 then(H8 l).elim .no λts=> .ok (.lst ((f_ ts).map .str)) o else .no
theorem AR2:BA m k q (HL (.builtin "sorted")) fM:= .on1 vL λA σ l u hR ok h=> .ite λhl=> .opt λts ht=> .of λ_ Q E hQ _=>by
 obtain⟨z,ws,n,rfl,h1,h2⟩:=h
 obtain⟨ps,i1,i2⟩:=mi h2 ht
 refine sorted_strs (ss:=ps.map (·.1)) (Bu h1) (by rw[i1];exact StrsAre.of) (by rw[<-h2.len];exact Bg hl (by decide)) λout Im j1 j2 j3=>?_
 obtain⟨e,he⟩:=sortedAll_at σ.h ws out
 have O7:ts.length<=2:=by
  have q1:ps.length=ws.length:=by rw[i1];unfold HZ;rw[Ay]
  have:=congrArg JD i2
  rw[Ay,Ay,q1,<-h2.len]at this
  exact this▸hl
 refine hQ.grow (s':={σ.s with heap:=sortedAll σ.h ws out}) ok (λa o h=>sortedAll_old h) rfl rfl rfl ⟨_,out.toList,rfl,⟨e,he,λq=>Fa (ok.Mlt _ q).1 ?_ rfl⟩,(BO4 (i2▸j2) j3 O7:Im.map Bx=f_ ts)▸StrsAre.back j1⟩
 cases q:σ.h.get? (σ.h.objs.size+1)with
 |none=>rfl
 |some o=>exact absurd (Ew q) (Cp.mpr (Da _))
end
section
variable{X Y:AK->Prop}{σ τ υ:St}{A:BZ}{α β γ:Type}{m:Bool}{k:Nat}{q:Bool}
section
variable{fx A8:Fx}{n:AQ}{env:A7}{AI:AY}{scope:ER}{tls:List (Option Nat)}{c:AK}{cells:List (AQ×AK)}
noncomputable def se(scope out:ER):ER:={scope with names:=scope.names.map λ(n,k)=>if(k== .free&&out.kind== .function&&out.names.lookup n==AA .cell)then(n, .cell)else(n,k)}
structure ND(fx A8:Fx)(scope:ER)(tls:List (Option Nat)):Prop where
 sco:A8.scope=se scope fx.scope
 fn:A8.fn=AD
 len:tls.length=A8.sc.length
 loc:∀(i:Nat) n,A8.sc[i]? =AA (.loc n)->tls[i]? =AA AB
 cel:∀(i:Nat) n,A8.sc[i]? =AA (SK.cel n)->∃j:Nat,tls[i]? =AA (some j)/\fx.sc[j]? =AA (SK.cel n)/\(n,Uw)∈scope.names
 free:∀n,(n,Uw)∈scope.names->∃j:Nat,fx.sc[j]? =AA (SK.cel n)
 fnodup:((scope.names.filter (·.2== .free)).map (·.1)).Nodup
 nocell:∀x∈scope.names,x.2≠ .cell
 kind:scope.kind= .function
 names:∀x∈scope.names,x.2= .local->scope.names.lookup x.1=AA .local
noncomputable def NS(cells:List (AQ×AK))(cs:List (AQ×AK))(x:AQ×Q5):List (AQ×AK):=if x.2= .free then(cells.lookup x.1).elim cs λc=>(x.1,c)::cs else cs
noncomputable def H_(scope:ER)(env:A7):List (AQ×AK):=scope.names.foldl (NS env.cells) []
theorem AT7(h:∀n,(n,Uw)∈scope.names->∃c,env.cells.lookup n=AA c):closureFor scope env=Ax (H_ scope env):=by
 unfold closureFor H_
 generalize ([]:List (AQ×AK))=cs
 revert cs
 revert h
 generalize scope.names=l
 induction l with
 |nil=>intros;rfl
 |cons x l ih=>
  intro h cs
  have ih:=λcs=>ih (λn hn=>h n (Ef _ hn)) cs
  simp only[bind_pure]at ih⊢
  simp only[hH,Ua]
  obtain⟨n,k⟩:=x
  by_cases hk:k= .free
  ·subst hk
   obtain⟨c,hc⟩:=h n CP
   have e:cellOf env n=Ax c:=by unfold cellOf;rw[hc]
   simp only[beq_self_eq_true,if_true,e,Fj]
   rw[show NS env.cells cs (n, .free)=(n,c)::cs by unfold NS;rw[if_pos rfl,hc];rfl]
   exact ih _
  ·simp only[beq_eq_false_iff_ne.mpr hk,gm,if_false,Fj]
   rw[show NS env.cells cs (n,k)=cs from if_neg hk]
   exact ih _
structure aY(cells:List (AQ×AK))(done:List AQ)(cs:List (AQ×AK)):Prop where
 mem:∀n c,(n,c)∈cs->n∈done/\cells.lookup n=AA c
 has:∀n c,n∈done->cells.lookup n=AA c->cs.lookup n=AA c
 apart:cs.Pairwise λx y=>x.2≠y.2
theorem A29{l:List (AQ×AK)}(h:l.Pairwise (λx y=>x.2≠y.2)){p q:AQ×AK}(hp:p∈l)(hq:q∈l)(e:p.2=q.2):p.1=q.1:=Qd λn=>by
 induction h with
 |nil=>first|exact Af hp|cases hp
 |cons h1 _ ih=>
  rcases Cf.mp hp with e1|hp'<;>rcases Cf.mp hq with e2|hq'
  ·exact n (e1.trans e2.symm▸rfl)
  ·exact h1 q hq' (e1▸e)
  ·exact h1 p hp' (e2▸e.symm)
  ·exact ih hp' hq'
theorem clI(ha:cells.Pairwise λx y=>x.2≠y.2):∀(l:List (AQ×Q5)) {done:List AQ} {cs:List (AQ×AK)},((l.filter (·.2== .free)).map (·.1)).Nodup->(∀n∈done,n∉(l.filter (·.2== .free)).map (·.1))->aY cells done cs->aY cells (done++(l.filter (·.2== .free)).map (·.1)) (l.foldl (NS cells) cs):=λl=>by
 induction l with
 |nil=>intro done cs _ _ I;simp only[List.filter_nil,Yo,BJ];exact I
 |cons x l ih=>
  intro done cs nd dj I
  obtain⟨n,k⟩:=x
  simp only[Ua]
  by_cases hk:k= .free
  ·subst hk
   rw[vd (by rfl),J3]at nd dj⊢
   rw[vR]
   refine ih (HT.mp nd).2 (λx hx=>(D8.mp hx).elim (λh q=>dj x h (Ef _ q)) λh=>Ca.mp h▸(HT.mp nd).1) ?_
   have e:NS cells cs (n, .free)=(cells.lookup n).elim cs λc=>(n,c)::cs:=if_pos rfl
   simp only[e]
   cases hc:cells.lookup n with
   |none=>exact⟨λm c h=>⟨Yp _ (I.mem m c h).1,(I.mem m c h).2⟩,λm c h h'=>(D8.mp h).elim (λh=>I.has m c h h') λh=>(by rw[Ca.mp h,hc]at h';cases h'),I.apart⟩
   |some c=>
    refine⟨λm d h=>(Cf.mp h).elim (λe=>by cases e;exact⟨iE _ (Ca.mpr rfl),hc⟩) λh=>⟨Yp _ (I.mem m d h).1,(I.mem m d h).2⟩,λm d h h'=>?_,JF.mpr ⟨λy hy e=>?_,I.apart⟩⟩
    ·show((n,c)::cs).lookup m=AA d
     rw[iB]
     by_cases hb:m=n
     ·rw[beq_iff_eq.mpr hb];rw[hb,hc]at h';exact h'
     ·rw[beq_eq_false_iff_ne.mpr hb]
      exact(D8.mp h).elim (λh=>I.has m d h h') λh=>absurd (Ca.mp h) hb
    ·have kT:=I.mem y.1 y.2 hy
     have e2:n=y.1:=A29 ha (mem_of_lookup hc) (mem_of_lookup kT.2) e
     exact(λh=>dj n h CP:n∉done) (e2▸kT.1)
  ·rw[vc (by show ¬(k==Uw)=AC;rw[beq_iff_eq];exact hk)]at nd dj⊢
   rw[show NS cells cs (n,k)=cs from if_neg hk]
   exact ih nd dj I
theorem bO(ca:ND fx A8 scope tls)(ha:env.cells.Pairwise λx y=>x.2≠y.2):aY env.cells ((scope.names.filter (·.2== .free)).map (·.1)) (H_ scope env):=clI ha scope.names (done:=[]) ca.fnodup (λ_ h=>absurd h D9) ⟨(by intro _ _ h;cases h),(by intro _ _ h;cases h), .nil⟩
theorem Ai0(h:(n,Uw)∈scope.names):n∈(scope.names.filter (·.2== .free)).map (·.1):=HS.mpr ⟨(n, .free),List.mem_filter.mpr ⟨h,rfl⟩,rfl⟩
noncomputable def Ej(tls:List (Option Nat))(AI:AY):AY:=tls.map λj=>j.bind λj=>(AI[j]?).join
theorem AU8(ca:ND fx A8 scope tls){C:AK}(E:Bl fx σ env AI)(kp:Kp σ τ)(hC:τ.W.M C/\¬τ.W.om C)(Ik:τ.h.Ns C λ_=>AB)(Ft:∀n c,(n,c)∈env.cells->τ.W.M c/\¬τ.W.om c/\c≠C/\τ.h.get? c=σ.h.get? c)(hF:∀a,τ.W.F a↔σ.W.F a):
  Bl A8 τ (Mg scope (H_ scope env) C env) (Ej tls AI):=by
 have I:=bO (env:=env) ca E.apart
 refine⟨?_,λq=>(by rw[ca.fn]at q;cases q),E.globals,E.builtins,E.frame.imp λL h=>⟨h.1,(hF L).mpr h.2⟩,hC,λn c hc=>?_,I.apart,by unfold Ej;rw[Ay];exact ca.len,⟨_,Ik,λi n v h1 h2=>?_⟩,λi n h1=>?_⟩
 ·simp only[ca.sco,<-E.scope];rfl
 ·have hm:=mem_of_lookup (I.mem n c hc).2
  obtain⟨_,_,k3,_,u,o,k5,k6⟩:=E.cells n c hm
  exact⟨(Ft n c hm).1,(Ft n c hm).2.1,λq=>k3 ((hF c).mp q),(Ft n c hm).2.2.1,u,o,(Ft n c hm).2.2.2.trans k5,k6⟩
 ·unfold Ej at h2
  rw[Cm,ca.loc i n h1]at h2
  cases h2
 ·refine A3 (ca.cel i n h1) λj aA=>?_
  refine B7 (E.cel j n aA.2.1) λc u AA5=>?_
  obtain⟨h5,⟨o,h6,yL⟩,h7⟩:=AA5
  refine⟨c,u,I.has n c (Ai0 aA.2.2) h5,⟨o,(Ft n c (mem_of_lookup h5)).2.2.2.trans h6,yL⟩,λv hv=>?_⟩
  unfold Ej at hv
  rw[Cm,aA.1]at hv
  exact(h7 v (Option.join_eq_some_iff.mp (CU hv:(AI[j]?).join=AA v))).imp λx h=>⟨h.1,kp.v _ h.2⟩
theorem Be3{E:AE->AN->Prop}{s:AN}{globals:AK}{cl:List (AQ×AK)}{V7:AQ}{func:Option AK}{code:AE}{bi:AK}{Q:A7->AN->Prop}(hc:∀x∈scope.names,x.2≠ .cell)
  (hQ:Q (newEnv scope s.heap.objs.size globals cl V7 func code (AA env) bi) {s with heap:=s.heap.push {cls:= .type "dict",data:= .dict #[]}}):
  Ac Ak A (ZK scope globals cl [] V7 func code (AA env) bi) Q E s:=by
 simp only[ZK,wV,if_true]
 refine AR (wpAny_alloc ?_)
 rw[forIn_yield_id cl (λx hx c=>by
  simp only[beq_eq_false_iff_ne.mpr (hc _ hx),gm,if_false])]
 refine AR (Aa (AR ?_))
 exact Aa (Aa hQ)
end
section
variable{fx A8:Fx}{n:AQ}{env A4:A7}{AI:AY}{e x tgt iter:Ab}{ifs:List Ab}{D:AK}
noncomputable def S_(r:RS):Option (AY×AL):=match r with
 | .next v o=>AA (v,o)
 |_=>AB
noncomputable abbrev DE:=AY->AL->CO->R (AY×CO)
noncomputable def C_(src:Cv)(g:DG)(t:DT)(de:DE)(n:Nat):Nat->AY->AL->CO->R (AY×CO):=Y0 (λ_ _ _ _=> .no) (λ_ ih i v o acc=>(src o i).elim .no λr=>r.elim (.ok (v,acc) o) λc=>(S_ (g c v o)).elim .no λp=>(t p.1 p.2).opt.elim .no λq=>
 if q.1=AC then(de p.1 q.2 acc).opt.elim .no λz=>ih (i+1) z.1.1 z.2 z.1.2 else ih (i+1) p.1 q.2 acc) n
noncomputable def H7(m:Bool)(k:Nat)(q:Bool)(fx:Fx)(ifs:List Ab)(d:DT):Prop:=∀A env σ AI,BW A k q fx env σ AI->Ev m Wz A (LJ ifs AC λc r=>if r=AC then do let ok<-isTrue c env (B_ c env);Ax (u4 ok)else Ax (u4 r)) σ (d AI σ.o)
noncomputable def El:DT:=λ_ o=> .ok AC o
theorem f8:H7 m k q fx [] El:=λA env σ AI p=>by simp only[List.forIn_nil];exact .ret p.ok rfl
theorem BJ3{d:DT}(h:Eh AD k q fx x d):H7 AD k q fx [x] d:=λA env σ AI p hn ht Q E hQ hE=>wq.of (wpAny_tests_one (h A env σ AI p hn ht Q E hQ hE).any)
noncomputable def Kl(X:Ab)(dp:Nat)(tgt iter:Ab)(ifs:List Ab)(Fs:AE->A7->Ao Unit):Prop:=∀it (d:AK) A4,compTurn X dp it (.ref d) A4=(do
   GI iter.pos
   match<-Ib it with
   |none=>Ax (.done .next)
   |some v=>
    i9 tgt it v
    RC tgt A4 v
    let mut ok:=AC
    for c in ifs do
     if ok then ok<-isTrue c A4 (B_ c A4)
    if ok then Fs (.ref d) A4
    RB (.compLoop X dp it (.ref d) A4))
structure FP(σ:St)(D:AK)(acc:CO):Prop where
 own:Ci (Be D) σ
 rel:GN σ acc (D,D)
noncomputable def Kd(k:Nat)(A8:Fx)(Fs:AE->A7->Ao Unit)(de:DE):Prop:=∀A A4 D σ v acc (Q:Unit->AN->Prop),BW A k AC A8 A4 σ v->¬Fe A4 D->FP σ D acc->de v σ.o acc≠ .no->0<σ.s.toks->
 (∀v' D' τ,de v σ.o acc= .ok (v',D') τ.o->Av (GY (DB A4) (Be D)) σ τ->Ok τ->Bl A8 τ A4 v'->FP τ D D'->0<τ.s.toks->Q () τ.s)->Ac Ak A (Fs (.ref D) A4) Q (λ_ _=>False) σ.s
section
variable{X:Ab}{dp:Nat}{it:AE}{Xs:AK->Prop}{src:Cv}{I:St->Nat->Prop}{g:DG}{t:DT}{de:DE}{Fs:AE->A7->Ao Unit}{σ₀:St}{r:R (AY×CO)}
inductive CJ(A:BZ)(k:Nat)(A8:Fx)(A4:A7)(D:AK)(σ₀:St)(Xs:AK->Prop)(I:St->Nat->Prop)(src:Cv)(g:DG)(t:DT)(de:DE)(r:R (AY×CO))(n:Nat)(s:AN):Prop
 |mk (i:Nat) (σ:St) (AI:AY) (acc:CO) (e:σ.s=s) (p:BW A k AC A8 A4 σ AI) (O:Ci Xs σ) (a:FP σ D acc) (st:Av (GY (GY (DB A4) (Be D)) Xs) σ₀ σ) (hi:I σ i) (hr:C_ src g t de n i AI σ.o acc=r) (ht:0<σ.s.toks)
theorem FP.on{acc:CO}(a:FP σ D acc)(ok:Ok σ)(st:Av Y σ τ)(kp:Kp σ τ)(hY:¬Y D):FP τ D acc:=by
 have hr:=a.rel.kp kp (a.own.keepIt st hY:∀o,σ.h.get? D=AA o->τ.h.get? D=AA o) (a.own.keepIt st hY:∀o,σ.h.get? D=AA o->τ.h.get? D=AA o)
 refine⟨a.own.on ok st λb e o ho=>?_,hr⟩
 cases e
 obtain⟨o',h'⟩:=(ok.Mlt D (a.own.M D rfl).1).1
 exact D0 ((a.own.keepIt st hY:∀o,σ.h.get? D=AA o->τ.h.get? D=AA o) o' h') ho▸a.own.ne D rfl o' h'
theorem ng(hq:(Y9 X dp it (.ref D) A4).quiet=AC)(Zg:Ak.den (.compLoop X dp it (.ref D) A4)=(compTurn X dp it (.ref D) A4).onRaise λx=>do U9 x A4;theTreesLotGoes x)(Z2:∀A:BZ,A.under (.compLoop X dp it (.ref D) A4)=A)
  (KY:Kl X dp tgt iter ifs Fs) (hI:Kf k tgt it Xs src I) (hg:DU AD k AC A8 tgt g) (ht:H7 AD k AC A8 ifs t) (KH:Kd k A8 Fs de) (nD:¬Fe A4 D) (nX:¬Xs D) (hX:∀a,Fe A4 a->¬Xs a) (hn:r≠ .no) {R:EQ->AN->Prop}
  (hR:∀v' D' τ s',r= .ok (v',D') τ.o->BW A k AC A8 A4 τ v'->Ci Xs τ->FP τ D D'->Av (GY (GY (DB A4) (Be D)) Xs) σ₀ τ->Cu Xs τ s'->0<s'.toks->R (.ok .next) s') {N:Nat} {s:AN} (h:CJ A k A8 A4 D σ₀ Xs I src g t de r N s):
  Dg AD Ak A (.compLoop X dp it (.ref D) A4) R s:=by
 refine bV hq (CJ A k A8 A4 D σ₀ Xs I src g t de r) (λn s h=>?_) N h
 obtain⟨i,σ,AI,acc,rfl,p,O,a,B',hi,hr,CA⟩:=h
 cases n with
 |zero=>exact absurd hr.symm hn
 |succ n=>
  have hr:(src σ.o i).elim .no (λr=>r.elim (.ok (AI,acc) σ.o) λc=>(S_ (g c AI σ.o)).elim .no λp=>(t p.1 p.2).opt.elim .no λq=>if q.1=AC then(de p.1 q.2 acc).opt.elim .no λz=>C_ src g t de n (i+1) z.1.1 z.2 z.1.2 else C_ src g t de n (i+1) p.1 q.2 acc)=r:=hr
  rw[Z2,Zg]
  refine QZ (OC (E:=λ_ _=>False) ?_ (λ_ _ q=>q) λ_ _ h=>h.elim)
  rw[KY]
  refine Bm (UR (Bm (OD (wq.of ?_))))
  cases hs:src σ.o i with
  |none=>rw[hs]at hr;exact absurd hr.symm hn
  |some rr=>
   rw[hs]at hr
   refine hI.next p.r p.ok O hi hs (λs' e H hle=>?_) λc v s1 e Zl hle=>?_
   ·subst e
    exact EM (hR _ _ σ s' hr.symm p O a B' H (CI CA hle))
   ·subst e
    have hr:(S_ (g c AI σ.o)).elim .no (λp=>(t p.1 p.2).opt.elim .no λq=>if q.1=AC then(de p.1 q.2 acc).opt.elim .no λz=>C_ src g t de n (i+1) z.1.1 z.2 z.1.2 else C_ src g t de n (i+1) p.1 q.2 acc)=r:=hr
    refine Bm (OD (wq.of (Zl _ _ λs2 H hv hl Zp=>?_)))
    have BF:=H.step p.ok O hl
    have k2:=H.kp p.ok O hl
    have BE:=H.good p.ok O hl
    have p2:BW A k AC A8 A4 (σ.to s2) AI:=p.go BF BE (p.e.stepX p.ok BF k2 hX)
    have O2:=O.on p.ok BF (hI.ne (hv k2).2)
    cases Gg:S_ (g c AI σ.o)with
    |none=>rw[Gg]at hr;exact absurd hr.symm hn
    |some pp=>
     rw[Gg]at hr
     obtain⟨v1,o1⟩:=pp
     have Gg:g c AI σ.o= .next v1 o1:=by revert Gg;generalize g c AI σ.o=z;intro Gg;cases z<;>cases Gg;rfl
     refine Bm ((hg A A4 (σ.to s2) AI c v p2 (hv k2).1).run (λz=>by have z:g c AI σ.o=_:=z;rw[Gg]at z;cases z) (CI CA (AO hle Zp)) (λu τ FO Hd zV x=>?_) λc' v' vs τ e=>by have e:g c AI σ.o=_:=e;rw[Gg]at e;cases e)
     have x:GR A8 A4 (g c AI σ.o) τ u:=x
     rw[Gg]at x
     obtain⟨E3,eo⟩:Bl A8 τ A4 v1/\o1=τ.o:=by
      revert x;generalize hz:RS.next v1 o1=z;intro x;cases x with|next E=>cases hz;exact⟨E,rfl⟩
     subst eo
     have p3:=p2.go FO Hd E3
     have k3:=p2.kp FO
     have kY:∀b,Xs b->¬DB A4 b:=λb h q=>hX b (QA q) h
     have j0:=hI.keep FO k3 O2 kY (hv k2).2
     have O3:=O2.on BE FO (hI.ne j0)
     have a3:=(a.on p.ok BF k2 nX).on BE FO k3 λq=>nD (QA q)
     have zT:=(B'.trans (BF.weaken λb h=> .inl (.inr h))).trans (FO.weaken λb h=> .inl (.inl (.inl h)))
     have hr:(t v1 τ.o).opt.elim .no (λq=>if q.1=AC then(de v1 q.2 acc).opt.elim .no λz=>C_ src g t de n (i+1) z.1.1 z.2 z.1.2 else C_ src g t de n (i+1) v1 q.2 acc)=r:=hr
     cases Fv:(t v1 τ.o).opt with
     |none=>rw[Fv]at hr;exact absurd hr.symm hn
     |some qq=>
      rw[Fv]at hr
      obtain⟨b,o4⟩:=qq
      refine Bm ((ht A A4 τ v1 p3).run (by simp only[(Mine.R.opt_some Fv)];nofun) zV (λb' u υ e GL PE kN x=>?_) λc' v' υ e=>by rw[(Mine.R.opt_some Fv)]at e;cases e)
      rw[(Mine.R.opt_some Fv)]at e
      cases x
      injection e with e1 e2
      cases e1
      subst e2
      have p4:=p3.step GL PE
      have k4:=Hd.kp GL
      have Ou:=hI.keep GL k4 O3 (λ_ _=>id) j0
      have O4:=O3.on Hd GL (hI.ne Ou)
      have a4:=a3.on Hd GL k4 id
      have kL:=zT.trans GL.up
      cases b with
      |false=>
       exact EM (.inl ⟨rfl,n,J5 n, .mk (i+1) υ v1 acc rfl p4 O4 a4 kL Ou hr kN⟩)
      |true=>
       have hr:(de v1 υ.o acc).opt.elim .no (λz=>C_ src g t de n (i+1) z.1.1 z.2 z.1.2)=r:=hr
       refine Bm (wq.of (KH A A4 D υ v1 acc _ p4 nD a4 (λz=>hn (by rw[<-hr,z];rfl)) kN λv5 xr ω e R8 ok5 E5 a5 zW=>?_))
       rw[e]at hr
       have yW:∀b,GY (DB A4) (Be D) b->υ.W.M b/\∀o,υ.h.get? b=AA o->K_ o:=λb h=>h.elim (p4.e.quiet b) λh=>⟨(a4.own.M b h).1,a4.own.ne b h⟩
       have j4:=hI.keep R8 (R8.kp PE yW) O4 (λb h q=>q.elim (kY b h) λq=>nX (q▸h)) Ou
       exact EM (.inl ⟨rfl,n,J5 n, .mk (i+1) ω v5 xr rfl (p4.go R8 ok5 E5) (O4.on PE R8 (hI.ne j4)) a5 (kL.trans (R8.weaken λb h=> .inl (.inl h))) j4 hr zW⟩)
end
end
section
variable{fx A8:Fx}{n:AQ}{env A4:A7}{AI:AY}{e x tgt iter:Ab}{ifs:List Ab}{D:AK}{scope:ER}{tls:List (Option Nat)}{src:Cv}{g:DG}{t:DT}{de:DE}{Fs:AE->A7->Ao Unit}{XX:Ab}{dp:Nat}{acc:CO}{Xs:AK->Prop}{s':AN}
theorem nW{R:EQ->AN->Prop}{s:AN}{it acc:AE}{gens:List Qx}(Zg:Ak.den (.compStart XX dp it acc env)=(compStart XX dp it acc env).onRaise λx=>do U9 x env;GI theWindowsPlace)(Z2:∀A:BZ,A.under (.compStart XX dp it acc env)=A)(kH:(Y9 XX dp it acc env).quiet=AC/\∀it,(Y9 XX dp it acc env).quiet=AC)(hc:clausesOf XX=gens)(hg:gens[dp]? =AA ⟨tgt,iter,ifs,0⟩)
  (h0:HX Ak A (.compLoop XX dp it acc env) R s) (h:Ac Ak A (Oj it) (λZ5 s'=>HX Ak A (.compLoop XX dp Z5 acc env) R s') (λ_ _=>False) s):HX Ak A (.compStart XX dp it acc env) R s:=by
 refine i6 ?_
 rw[Z2,Zg]
 refine wpAny_onRaise (J' (E:=λ_ _=>False) ?_ (λ_ _ q=>q) λ_ _ h=>h.elim)
 unfold compStart
 rw[hc,hg]
 show Ac _ _ (ask>>=_) _ _ s
 refine AR (Om (wpAny_ite ?_))
 split
 ·exact Aa ⟨kH.1,h0⟩
 ·exact AR (Hb (AR (ZR (AR (J' h (λZ5 s' h'=>Aa ⟨kH.2 Z5,h'⟩) λ_ _ x=>x)))))
structure PK(XX:Ab)(dp:Nat)(gens:List Qx):Prop where
 cl:clausesOf XX=gens
 dl:∀it D A4,Ak.den (.compLoop XX dp it (.ref D) A4)=(compTurn XX dp it (.ref D) A4).onRaise λx=>do U9 x A4;theTreesLotGoes x
 ul:∀it D A4 (A:BZ),A.under (.compLoop XX dp it (.ref D) A4)=A
 ds:∀it D A4,Ak.den (.compStart XX dp it (.ref D) A4)=(compStart XX dp it (.ref D) A4).onRaise λx=>do U9 x A4;GI theWindowsPlace
 us:∀it D A4 (A:BZ),A.under (.compStart XX dp it (.ref D) A4)=A
 q:∀it D A4,(Y9 XX dp it (.ref D) A4).quiet=AC
theorem Dg.any{M:GH}{c:JK}{R:EQ->AN->Prop}{s:AN}(h:Dg AD M A c R s):HX M A c R s:=λΓ p h1 h2=>h Γ p h1 h2 (by intro h;cases h)
theorem FP.off(a:FP σ D acc)(ok:Ok σ)(O:Ci Xs σ)(H:Cu Xs σ s')(nX:¬Xs D):FP (σ.off Xs s') D acc:=by
 have kk:∀o,σ.h.get? D=AA o->s'.heap.get? D=AA o:=λo h=>H.kept D o h nX
 refine⟨⟨λb e=>?_,λb e o ho=>?_⟩,a.rel.kp (H.kpOff ok O) kk kk⟩
 ·cases e;have m:=a.own.M D rfl;exact⟨⟨m.1,nX⟩,m.2⟩
 ·cases e
  obtain⟨o',h'⟩:=(ok.Mlt D (a.own.M D rfl).1).1
  exact D0 (kk o' h') ho▸a.own.ne D rfl o' h'
theorem Bl.off(E:Bl fx σ env AI)(ok:Ok σ)(O:Ci Xs σ)(H:Cu Xs σ s')(hX:∀a,Fe env a->¬Xs a):Bl fx (σ.off Xs s') env AI:=
 E.move (H.kpOff ok O) (λ_=>Fh) λa h=>⟨⟨(E.ownM h).1,hX a h⟩,(E.ownM h).2,λo e=>⟨o.slots,H.kept a o e (hX a h)⟩⟩
noncomputable def Su(a:Mine.D)(g:DG)(t:DT)(de:DE):DE:=λv o acc=>(a v o).opt.elim .no λp=>if FX p.1=AC then .no else(Hp p.2 p.1).elim .no λx=>C_ x.1 g t de x.2 0 v p.2 acc
noncomputable abbrev Wx(X:Ab)(dp:Nat)(iter:Ab)(av:AE)(A4:A7):Ao Unit:=do
 let x<-B_ iter A4
 GI iter.pos
 let x<-Mj iter A4 x
 let _<-runOwn (.compStart X dp (<-HY [x] (Oj x)) av A4) A4
theorem Aa8{a:Mine.D}{gens:List Qx}(cc:PK XX dp gens)(Rj:gens[dp]? =AA ⟨tgt,iter,ifs,0⟩)(KY:Kl XX dp tgt iter ifs Fs)(ha:Aj AD k AC A8 iter a)(hg:DU AD k AC A8 tgt g)(ht:H7 AD k AC A8 ifs t)(KH:Kd k A8 Fs de)
  (hs:∀env x,Mj iter env x=Ax x):Kd k A8 (Wx XX dp iter) (Su a g t de):=λA A4 D σ v acc Q p nD aD hn CA hQ=>by
 unfold Su at hn hQ
 cases ea:(a v σ.o).opt with
 |none=>rw[ea]at hn;exact absurd rfl hn
 |some pr=>
  rw[ea]at hn hQ
  obtain⟨c,o1⟩:=pr
  refine AR (((ha _ _ _ _ p).run (by simp only[(R.opt_some ea)];nofun) CA (λc' u τ e st ok Fv hv=>?_) (λc' u τ e=>by rw[(R.opt_some ea)]at e;cases e):wq AD Ak _ _ _ _ _).any)
  rw[(R.opt_some ea)]at e
  injection e with e1 e2
  subst e1 e2
  by_cases Zm:FX c=AC
  ·exact absurd (if_pos Zm) hn
  have e3:∀{z:R (AY×CO)},(if FX c=AC then R.no else z)=z:=λ{z}=>if_neg Zm
  rw[OM]at hn hQ
  rw[e3]at hn hQ
  cases Rw:Hp τ.o c with
  |none=>rw[Rw]at hn;exact absurd rfl hn
  |some sr=>
   rw[Rw]at hn hQ
   have itm:FX c=AD:=HR.mpr Zm
   have a1:=aD.on p.ok st (p.ok.kp st) id
   refine AR (ZR (AR (Ic (hs A4 u) (AR (D_ ?_)))))
   refine eJ (k:=k) (tgt:=tgt) ok hv Rw (.inr itm) λit Xs I υ hI O6 hi BF BE eo et O hf=>?_
   have p2:=(p.step st ok).step BF BE
   have a2:=a1.on ok BF (ok.kp BF) id
   have nX:∀b,τ.W.M b->¬Xs b:=λb h z=>(ok.Mlt b h).1.elim λo h=>Bt h (hf b z)
   have hX:∀b,Fe A4 b->¬Xs b:=λb h=>nX b ((p.step st ok).e.ownM h).1
   have kZ:=nX D (a1.own.M D rfl).1
   have Rn:HX Ak (A.mark AB) (.compLoop XX dp (.ref it) (.ref D) A4) (λr' s'=>match r' with| .ok _=>Q () s'| .error _=>False) υ.s:=Dg.any (ng (A:=A.mark AB) (σ₀:=τ) (r:=C_ sr.1 g t de sr.2 0 v τ.o acc) (cc.q _ _ _) (cc.dl _ _ _) (cc.ul _ _ _) KY hI hg ht KH nD kZ hX hn (λv' D' ω s' e Ka Oω ZT aS H CA=>by
     exact hQ v' D' (ω.off Xs s') e (st.up.trans (H.close aS hf ok)) (H.okOff Ka.ok Oω) (Ka.e.off Ka.ok Oω H hX) (ZT.off Ka.ok Oω H kZ) CA) (.mk 0 υ v acc rfl p2 O a2 BF.up hi (by rw[eo]) (et▸Fv)))
   refine AR (wpAny_runOwn (h:=AB) (codeAny_mono (nW (cc.ds _ _ _) (cc.us _ _ _) ⟨cc.q _ _ _,λ_=>cc.q _ _ _⟩ cc.cl Rj Rn (O6 itm _ _ _ _ _ hi Rn)) λr' s' h=>?_))
   cases r' with
   |ok f=>exact Aa h
   |error x=>exact h.elim
section
variable{od:BG}{new:Ao AE}{ES:CO}{c:CV}{v:AE}{N:Nat}{gens:List Qx}{E:AE->AN->Prop}{r:R (AY×CO)}
structure R9(od:BG)(new:Ao AE)(ES:CO):Prop where
 new:∀{A:BZ} {Q:AE->AN->Prop} {E:AE->AN->Prop} {s:AN},Q (.ref s.heap.objs.size) {s with heap:=s.heap.push od}->Ac Ak A new Q E s
 free:od.isFreed=AD
 ne:K_ od
 rel:∀{σ:St},Ok σ->∀τ:St,τ.h.get? σ.h.objs.size=AA od->GN τ ES (σ.h.objs.size,σ.h.objs.size)
theorem AU7(ca:ND fx A8 scope tls)(cc:PK XX 0 gens)(Rj:gens[0]? =AA ⟨tgt,iter,ifs,0⟩)(KY:Kl XX 0 tgt iter ifs Fs)(an:R9 od new ES)(hg:DU AD k AC A8 tgt g)(ht:H7 AD k AC A8 ifs t)(KH:Kd k A8 Fs de)(p:BW A k AC fx env σ AI)(hv:V σ c v)(itm:FX c=AD)
  (Rw:Hp σ.o c=AA (src,N)) (hr:C_ src g t de N 0 (Ej tls AI) σ.o ES=r) (hn:r≠ .no) (CA:0<σ.s.toks) {RR:AE->AK->EQ->AN->Prop}
  (yS:∀D C τ v' D',r= .ok (v',D') τ.o->D≠C->σ.h.get? D=AB->σ.h.get? C=AB->Lt σ τ->Ok τ->FP τ D D'->Ci (Be C) τ->(∃m,τ.h.Ns C m)->0<τ.s.toks->RR (.ref D) C (.ok .next) τ.s):
  Ac Ak A (Oj v) (λit E8=>Ac Ak A new (λacc aT=>Ac Ak A (ZK scope env.globals (H_ scope env) [] env.qual AB .none (AA env)) (λA4 AE7=>
   HX Ak A (.compStart XX 0 it acc {A4 with scope:=relabel scope env}) (RR acc A4.locals) AE7) E aT) E E8) E σ.s:=by
 refine eJ (k:=k) (tgt:=tgt) p.ok hv Rw (.inr itm) λit Xs I υ hI O6 hi BF BE eo et O hf=>an.new (Be3 ca.nocell ?_)
 have Hd:=BE.it od an.free
 have PE:=Hd.it ({cls:= .type "dict",data:= .dict #[]}:BG) rfl
 have GL:Lt υ ((υ.it od).it ({cls:= .type "dict",data:= .dict #[]}:BG)):=(Av.it BE od).trans (Av.it Hd _)
 have Vn:=BE.kp GL
 generalize M_:(υ.it od).it ({cls:= .type "dict",data:= .dict #[]}:BG)=Fy at PE GL Vn
 have RY:υ.h.get? υ.h.objs.size=AB:=get?_size _
 have jf:(υ.it od).h.get? (υ.it od).h.objs.size=AB:=get?_size _
 have VQ:υ.h.get? (υ.it od).h.objs.size=AB:=(Av.it (X:=HJ) BE od).back jf
 have jq:(υ.it od).h.get? υ.h.objs.size=AA od:=CQ _ an.free
 have jr:Fy.h.get? υ.h.objs.size=AA od:=M_▸CW _ jq
 have zG:Fy.h.Ns (υ.it od).h.objs.size λ_=>AB:=M_▸Heap.Ns.new _ (.type "dict")
 have jj:Fy.W.M υ.h.objs.size/\Fy.W.M (υ.it od).h.objs.size:=M_▸⟨.inl (.inr rfl), .inr rfl⟩
 have RZ:(∀a,Fy.W.om a↔υ.W.om a)/\∀a,Fy.W.F a↔υ.W.F a:=M_▸⟨λ_=>Fh,λ_=>Fh⟩
 have yE:Fy.o=υ.o:=M_▸rfl
 have yF:({(υ.it od).s with heap:=(υ.it od).s.heap.push {cls:= .type "dict",data:= .dict #[]}}:AN)=Fy.s:=M_▸rfl
 have yG:Fy.s.toks=υ.s.toks:=M_▸rfl
 have VR:υ.h.objs.size≠(υ.it od).h.objs.size:=λq=>Bt jq (q▸jf)
 have p2:=p.step BF BE
 have nD:=BE.no_new RY
 have nC:=BE.no_new VQ
 have live:∀a,υ.W.M a->a≠(υ.it od).h.objs.size/\a≠υ.h.objs.size:=λa h=>⟨Fa (BE.Mlt a h).1 VQ,Fa (BE.Mlt a h).1 RY⟩
 have E4:Bl A8 Fy (Mg scope (H_ scope env) (υ.it od).h.objs.size env) (Ej tls AI):=by
  refine AU8 ca p2.e Vn ⟨jj.2,λq=>nC.1 ((RZ.1 _).mp q)⟩ zG (λn c h=>?_) RZ.2
  obtain⟨h1,h2,h3,_,u,o,h5,_⟩:=p2.e.cells n c h
  exact⟨GL.mono _ h1,λq=>h2 ((RZ.1 _).mp q),(live c h1).1,((GL.kept c o h5 h2 id).1 h3).trans h5.symm⟩
 have zN:=an.rel BE Fy jr
 have VS:=BF.back RY
 have Zb:=BF.back VQ
 simp only[yF]
 show HX Ak A (.compStart XX 0 (.ref it) (.ref υ.h.objs.size) (Mg scope (H_ scope env) (υ.it od).h.objs.size env)) (RR (.ref υ.h.objs.size) (υ.it od).h.objs.size) Fy.s
 generalize υ.h.objs.size=D at*
 generalize (υ.it od).h.objs.size=C at*
 have a4:FP Fy D ES:=⟨⟨λb e=>e▸⟨jj.1,λq=>nD.1 ((RZ.1 _).mp q),λq=>nD.2 ((RZ.2 _).mp q)⟩,λb e o h=>by cases e;exact D0 jr h▸an.ne⟩,zN⟩
 have O4:=O.on BE GL (hI.ne (hI.keep GL Vn O (λ_ _=>id) hi))
 have Ou:=hI.keep GL Vn O (λ_ _=>id) hi
 have nX:∀b,υ.h.get? b=AB->¬Xs b:=λb h z=>(hI.live hi b z).elim λo q=>Bt q h
 have hX:∀b,Fe (Mg scope (H_ scope env) C env) b->¬Xs b:=λb h=>h.elim (λe=>e▸nX C VQ) λ⟨n,h⟩=>(λb h z=>(p.ok.Mlt b h).1.elim λo h=>Bt h (hf b z):∀b,σ.W.M b->¬Xs b) b (p.e.cells n b (mem_of_lookup ((bO (env:=env) ca p.e.apart).mem n b h).2)).1
 have nDl:¬Fe (Mg scope (H_ scope env) C env) D:=λh=>h.elim VR λ⟨n,h⟩=>(live D (p2.e.cells n D (mem_of_lookup ((bO (env:=env) ca p.e.apart).mem n D h).2)).1).2 rfl
 have Vf:∀b,GY (DB (Mg scope (H_ scope env) C env)) (Be D) b->σ.h.get? b=AB:=λb h=>h.elim (λh=>h.elim (λe=>e▸Zb) λh=>nomatch h.1) λe=>e▸VS
 have Rn:HX Ak A (.compLoop XX 0 (.ref it) (.ref D) (Mg scope (H_ scope env) C env)) (RR (.ref D) C) Fy.s:=Dg.any (ng (σ₀:=σ) (r:=r) (cc.q _ _ _) (cc.dl _ _ _) (cc.ul _ _ _) KY hI hg ht KH nDl (nX D RY) hX hn (λv' D' ω s' e Ka Oω ZT aS H CA=>by
  have Ec:=Ka.e.off Ka.ok Oω H hX
  have lq:Lt σ (ω.off Xs s'):=(H.close aS hf p.ok).weaken λb h=> .inr (Vf b h)
  refine A3 (Ec.ns) λmm AA6=>?_
  exact yS D C (ω.off Xs s') v' D' e VR VS Zb lq (H.okOff Ka.ok Oω) (ZT.off Ka.ok Oω H (nX D RY)) ⟨λb e=>by cases e;exact⟨Ec.own.1,Ec.own.2,λq=>(p.ok.no_new Zb).2 ((lq.ff _).mp q)⟩,λb e o h=>by cases e;exact Ec.quiet C (.inl rfl)|>.2 o h⟩ ⟨mm,AA6.1⟩ CA) (.mk 0 Fy _ ES rfl (⟨p2.r.step GL,E4,PE,λq=>by rw[ca.fn]at q;cases q⟩:BW A k AC A8 (Mg scope (H_ scope env) C env) Fy (Ej tls AI)) O4 a4 (BF.trans GL).up Ou (by rw[yE,eo];exact hr) (by simp only[yG,<-et];exact CA)))
 exact nW (cc.ds _ _ _) (cc.us _ _ _) ⟨cc.q _ _ _,λ_=>cc.q _ _ _⟩ cc.cl Rj Rn (O6 itm _ _ _ _ _ Ou Rn)
end
end
section
variable{fx A8:Fx}{n:AQ}{env A4:A7}{AI:AY}{e x y tgt iter:Ab}{ifs:List Ab}{scope:ER}{tls:List (Option Nat)}{src:Cv}{g:DG}{t:DT}{de:DE}{Fs:AE->A7->Ao Unit}{XX:Ab}{dp:Nat}{acc:CO}{Xs:AK->Prop}{s':AN}{pos:BK}{gens:List Qx}{a b:D}
noncomputable def CC(e:D):DE:=λv o acc=>(e v o).opt.elim .no λp=>(EI acc).elim .no λl=>if l.length<Ah then .ok (v, .list (l++[p.1])) p.2 else .no
noncomputable abbrev Wy(DF:Ab)(av:AE)(A4:A7):Ao Unit:=do let _<-call (.builtin "list.append") [av,<-B_ DF A4]
theorem FP.fill{d:AK}{o':CO}(a:FP σ d acc)(p:BW A k q fx A4 σ AI)(nD:¬Fe A4 d)(H:Cu (Be d) σ s')(hl:∃o,s'.heap.get? d=AA o)(B3:∀o,s'.heap.get? d=AA o->K_ o)(hr:Kp σ (σ.to s')->GN (σ.to s') o' (d,d)):
  Av (GY (DB A4) (Be d)) σ (σ.to s')/\Ok (σ.to s')/\Bl fx (σ.to s') A4 AI/\FP (σ.to s') d o':=by
 have De:∀b,Be d b->∃o,s'.heap.get? b=AA o:=λb e=>e▸hl
 exact⟨(H.step p.ok a.own De).weaken λb h=> .inl (.inr h),H.good p.ok a.own De,p.e.stepX p.ok (H.step p.ok a.own De) (H.kp p.ok a.own De) λb h e=>nD (e▸h),a.own.on p.ok (H.step p.ok a.own De) λb e=>by cases e;exact B3,hr (H.kp p.ok a.own De)⟩
theorem cR(he:Aj AD k AC A8 e a):Kd k A8 (Wy e) (CC a):=λA A4 D σ v acc Q p nD aD hn CA hQ=>by
 unfold CC at hn hQ
 cases ea:(a v σ.o).opt with
 |none=>rw[ea]at hn;exact absurd rfl hn
 |some pr=>
  rw[ea]at hn hQ
  obtain⟨c,o1⟩:=pr
  have ea:=R.opt_some ea
  refine AR (((he _ _ _ _ p).run (by rw[ea];nofun) CA (λc' u τ e st ok Fv hv=>?_) (λc' u τ e=>by rw[ea]at e;cases e):wq AD Ak _ _ _ _ _).any)
  rw[ea]at e
  injection e with e1 e2
  subst e1 e2
  cases acc with
  |list l=>
   have a1:=aD.on p.ok st (p.ok.kp st) id
   obtain⟨_,ws,j,h1,h2⟩:=a1.rel
   have hl:=(λh=>Qd λq=>h (if_neg q):∀{z:R (AY×CO)},(if l.length<Ah then z else .no)≠ .no->l.length<Ah) hn
   have O7:FI=Ah:=rfl
   have hz:ws.toArray.size=l.length:=by rw[DC,h2.len]
   refine AR (Hy ig (Q0 (Bu h1)) w_ (wz _ _) (wc D ws.toArray j u (AO (BR hz) (Et hl))) ⟨h1,Aa ?_⟩)
   have Vp:=a1.fill (s':={τ.s with heap:=τ.h.update D (JN (·.push u))}) (o':= .list (l++[c])) (p.step st ok) nD (TK (t:=τ.s.toks) (OR ..)) ⟨_,(Y2 h1 (·.push u))⟩ (λo h=> .inl λvs z=>by rw[<-D0 (Y2 h1 (·.push u)) h]at z;cases z) λkp=>⟨rfl,(ws.toArray.push u).toList,_,(Y2 h1 (·.push u)),by rw[UW];exact(kp.vs _ h2).append (.one (kp.v _ hv))⟩
   exact hQ v (.list (l++[c])) (τ.to _) (if_pos hl) (st.up.trans Vp.1) Vp.2.1 Vp.2.2.1 Vp.2.2.2 Fv
  |_=>exact absurd rfl hn
noncomputable def Ku(a b:D):DE:=λv o acc=>(a v o).opt.elim .no λp=>(b v p.2).opt.elim .no λr=>(TS acc).elim .no λd=>if d.2.length<=Ah then(Kt d.1 d.2 p.1 r.1).elim .no λd'=> .ok (v, .dict d'.1 d'.2) r.2 else .no
noncomputable abbrev oY(kx vx:Ab)(av:AE)(A4:A7):Ao Unit:=match av with
 | .ref d=>do
  let kv<-B_ kx A4
  let vv<-HY [kv] (B_ vx A4)
  GI {kx.pos with endLine:=vx.pos.endLine,endCol:=vx.pos.endCol}
  HY [kv,vv] (dictSet d kv vv)
 |_=>Ax ()
theorem Aa9(ha:Aj AD k AC A8 x a)(hb:Aj AD k AC A8 y b):Kd k A8 (oY x y) (Ku a b):=λA A4 D σ v acc Q p nD aD hn CA hQ=>by
 unfold Ku at hn hQ
 cases ea:(a v σ.o).opt with
 |none=>rw[ea]at hn;exact absurd rfl hn
 |some pr=>
  rw[ea]at hn hQ
  obtain⟨c,o1⟩:=pr
  have ea:=R.opt_some ea
  refine AR (((ha _ _ _ _ p).run (by rw[ea];nofun) CA (λc' u τ e st ok Fv hv=>?_) (λc' u τ e=>by rw[ea]at e;cases e):wq AD Ak _ _ _ _ _).any)
  rw[ea]at e
  injection e with e1 e2
  subst e1 e2
  have p1:=p.step st ok
  cases eb:(b v τ.o).opt with
  |none=>
   have hn:(b v τ.o).opt.elim R.no _≠ .no:=hn
   rw[eb]at hn;exact absurd rfl hn
  |some pr2=>
   have hn:(b v τ.o).opt.elim R.no _≠ .no:=hn
   simp only[OM]at hQ hn
   rw[eb]at hn hQ
   obtain⟨c2,o2⟩:=pr2
   have eb:=R.opt_some eb
   refine AR (D_ (((hb _ _ _ _ p1).run (by rw[eb];nofun) Fv (λc' u2 υ e BF BE Zz zZ=>?_) (λc' u τ e=>by rw[eb]at e;cases e):wq AD Ak _ _ _ _ _).any))
   rw[eb]at e
   injection e with e1 e2
   subst e1 e2
   cases acc with
   |dict ks vs=>
    have a2:=(aD.on p.ok st (p.ok.kp st) id).on ok BF (ok.kp BF) id
    obtain⟨_,ob,ws,h1,h2,h3⟩:=a2.rel
    have hl:vs.length<=Ah:=Qd λq=>hn (if_neg q)
    have hn:(if vs.length<=Ah then(Kt ks vs c c2).elim R.no λd'=>R.ok (v,CO.dict d'.1 d'.2) υ.o else .no)≠ .no:=hn
    rw[if_pos hl]at hn
    obtain⟨d',G5⟩:=HG hn
    obtain⟨knd,z,BO,Fw,hk,hd,Ro,hr,Z3⟩:=qG BE h2 h3 ((ok.kp BF).v _ hv) zZ G5
    refine AR (ZR (D_ (wpAny_dictSet_pairs hk hd (λh' h4 hs=>?_) (by rw[Ro];exact hl))))
    have E7:∃o,h'.get? D=AA o:=h4.imp λ_ h=>h.elim λ_ h=>h.elim λ_ h=>h.1
    have Vq:=a2.fill (s':={υ.s with heap:=h',toks:=υ.s.toks+1}) (o':= .dict d'.1 d'.2) (p1.step BF BE) nD (TK hs) E7 (λo h=> .inl λvs z=>by obtain⟨o',es,ep,q1,q2,q3,_⟩:=h4;cases D0 q1 h;rw[q3]at z;cases z) λkp=>⟨rfl,E7.choose,Fw,E7.choose_spec,hr h' h4,kp.vs _ Z3⟩
    exact hQ v (.dict d'.1 d'.2) (υ.to _) ((if_pos hl).trans (by rw[G5])) ((st.trans BF).up.trans Vq.1) Vq.2.1 Vq.2.2.1 Vq.2.2.2 (IW _)
   |_=>exact absurd rfl hn
end
section
variable{fx A8:Fx}{n:AQ}{env A4:A7}{AI:AY}{e x y DF tgt iter t1 i1 t2 i2 kx vx:Ab}{ifs:List Ab}{scope:ER}{tls:List (Option Nat)}{src:Cv}{a:D}{g:DG}{t:DT}{de:DE}{Fs:AE->A7->Ao Unit}{XX:Ab}{dp:Nat}{acc:CO}{Xs:AK->Prop}{s':AN}{pos jZ px:BK}{gens rest:List Qx}{od:BG}{new:Ao AE}{ES:CO}{N:AQ}
theorem uA:Kl (.ListComp DF [⟨tgt,iter,ifs,0⟩] scope pos) 0 tgt iter ifs (Wy DF):=λ_ _ _=>rfl
theorem BU4:Kl (.DictComp kx vx [⟨tgt,iter,ifs,0⟩] scope pos) 0 tgt iter ifs (oY kx vx):=λ_ _ _=>rfl
theorem WV{α β:Type}{m:Ao α}{f g:α->Ao β}(h:∀a,f a=g a):(m>>=f)=(m>>=g):=by rw[funext h]
theorem BU2:Kl (.ListComp DF [⟨t1,i1,[],0⟩,⟨t2,i2,[],0⟩] scope pos) 0 t1 i1 [] (Wx (.ListComp DF [⟨t1,i1,[],0⟩,⟨t2,i2,[],0⟩] scope pos) 1 i2):=λit d A4=>by
 refine WV λ_=>WV λr=>?_
 cases r with
 |none=>rfl
 |some v=>
  refine WV λ_=>WV λ_=>?_
  show _=Wx (.ListComp DF [⟨t1,i1,[],0⟩,⟨t2,i2,[],0⟩] scope pos) 1 i2 (.ref d) A4>>=λ_=>RB (.compLoop (.ListComp DF [⟨t1,i1,[],0⟩,⟨t2,i2,[],0⟩] scope pos) 0 it (.ref d) A4)
  simp only[Wx,bind_assoc]
  rfl
theorem BU3:Kl (.ListComp DF [⟨t1,i1,[],0⟩,⟨t2,i2,[],0⟩] scope pos) 1 t2 i2 [] (Wy DF):=λ_ _ _=>rfl
theorem Wb:PK (.ListComp DF gens scope pos) dp gens:=⟨rfl,λ_ _ _=>rfl,λ_ _ _ _=>rfl,λ_ _ _=>rfl,λ_ _ _ _=>rfl,λ_ _ _=>rfl⟩
theorem AU5:PK (.DictComp kx vx gens scope pos) dp gens:=⟨rfl,λ_ _ _=>rfl,λ_ _ _ _=>rfl,λ_ _ _=>rfl,λ_ _ _ _=>rfl,λ_ _ _=>rfl⟩
theorem eg:R9 (Dk #[] 0) (newList []) (.list []):=⟨λh=>VG (items:=[]) h,rfl, .inl (by intro _ h;cases h),λok τ h=>⟨rfl,[],0,h,rfl⟩⟩
theorem Az1:R9 Dh newDict (.dict (.s []) []):=⟨λh=>Le h,rfl, .inl (by intro _ h;cases h),λok τ h=>⟨rfl,_,[],h,⟨gG ok,cM h,rfl⟩,rfl⟩⟩
noncomputable def Kn:CO->Option CV
 | .list l=>AA (.lst l)
 | .dict ks vs=>AA (.dct ks vs)
 |_=>AB
noncomputable def CL(tls:List (Option Nat))(ES:CO)(a:D)(g:DG)(t:DT)(de:DE):D:=λv o=>(a v o).bind λc o=>if FX c=AC then .no else(Hp o c).elim .no λx=>(C_ x.1 g t de x.2 0 (Ej tls v) o ES).opt.elim .no λz=>(Kn z.1.2).elim .no λy=> .ok y z.2
theorem FP.val{D:AK}{y:CV}(p:FP σ D acc)(k:Kp σ τ)(hk:∀o,σ.h.get? D=AA o->τ.pl D o)(e:Kn acc=AA y):V τ y (.ref D):=match acc,p.rel with
 | .list l,⟨_,ws,n,h,hv⟩=>by cases e;exact⟨D,ws,rfl,⟨n,hk _ h⟩,k.vs _ hv⟩
 | .dict ks vs,⟨_,ob,ws,h,hd,hv⟩=>by cases e;exact⟨D,ws,rfl,⟨ob,hk _ h,hd.at λo h=>(hk o h).1⟩,k.vs _ hv⟩
 | .inst ..,_=>by cases e
 | .dead,_=>by cases e
section
variable{σ:St}{AI:AY}{E:AE->AN->Prop}{Q:AE->AN->Prop}{use:Option (AE->Ao Unit)}
structure AF8(σ:St)(D C:AK)(τ:St)(acc:CO):Prop where
 ne:D≠C
 d:σ.h.get? D=AB
 c:σ.h.get? C=AB
 st:Lt σ τ
 ok:Ok τ
 acc:FP τ D acc
 own:Ci (Be C) τ
 ns:∃m,τ.h.Ns C m
 tk:0<τ.s.toks
theorem nh(ca:ND fx A8 scope tls)(cc:PK XX 0 (⟨tgt,iter,ifs,0⟩::rest))(KY:Kl XX 0 tgt iter ifs Fs)(an:R9 od new ES)(ha:Aj AD k AC fx iter a)(hg:DU AD k AC A8 tgt g)(ht:H7 AD k AC A8 ifs t)(KH:Kd k A8 Fs de)(p:BW A k AC fx env σ AI)(hn:CL tls ES a g t de AI σ.o≠ .no)(CA:0<σ.s.toks)
  (hE:EC σ (CL tls ES a g t de AI σ.o) E) (M1:∀D C τ D' y,CL tls ES a g t de AI σ.o= .ok y τ.o->Kn D'=AA y->AF8 σ D C τ D'->compPost Ak A E use Q (.ref D) C (.ok .next) τ.s) (hs:∀x,Mj iter env x=Ax x):Ac Ak A (comprehension XX scope env pos new AD (B_ iter env) use) Q E σ.s:=
 wpAny_comprehension_free cc.cl hs (AT7 λn hm=>(ca.free n hm).elim λj hj=>(p.e.cel j n hj).elim λc h=>h.elim λ_ h=>⟨c,h.1⟩) ca.kind ca.names (((ha _ _ _ _ p).run (R.bind_ne hn) CA (λc v τ e st ok Fv hv=>by
  have hd:CL tls ES a g t de AI σ.o=if FX c=AC then .no else(Hp τ.o c).elim .no λx=>(C_ x.1 g t de x.2 0 (Ej tls AI) τ.o ES).opt.elim .no λz=>(Kn z.1.2).elim .no λy=> .ok y z.2:=by unfold CL;simp only[e];rfl
  rw[hd]at hn M1
  by_cases hi:FX c=AC
  ·exact absurd (if_pos hi) hn
  rw[if_neg hi]at hn M1
  refine A3 (HG hn) λz ez=>?_
  rw[ez]at hn M1
  obtain⟨w,ew⟩:=HG (x:=(C_ z.1 g t de z.2 0 (Ej tls AI) τ.o ES).opt) hn
  exact AU7 (N:=z.2) (src:=z.1) ca cc rfl KY an hg ht KH (p.step st ok) hv (HR.mpr hi) ez rfl (by rw[(R.opt_some ew)];nofun) Fv λD C υ v' D' e3 VR h1 h2 Bp A6 aD O hm PH=>by
   have hn:(C_ z.1 g t de z.2 0 (Ej tls AI) τ.o ES).opt.elim R.no (λz=>(Kn z.1.2).elim .no λy=> .ok y z.2)≠ .no:=hn
   have M1:∀D C (EU:St) D' y,(C_ z.1 g t de z.2 0 (Ej tls AI) τ.o ES).opt.elim R.no (λz=>(Kn z.1.2).elim .no λy=> .ok y z.2)= .ok y EU.o->_:=M1
   rw[(e3:C_ z.1 g t de z.2 0 (Ej tls AI) τ.o ES=_)]at hn M1
   obtain⟨y,ey⟩:=HG (x:=Kn D') hn
   exact M1 D C υ D' y (by show(Kn D').elim R.no _=_;rw[ey];rfl) ey ⟨VR,st.back h1,st.back h2,st.trans Bp,A6,aD,O,hm,PH⟩)
  hE.bind:wq AD Ak A _ _ _ _).any)
theorem f9(ca:ND fx A8 scope tls)(cc:PK XX 0 (⟨tgt,iter,ifs,0⟩::rest))(KY:Kl XX 0 tgt iter ifs Fs)(an:R9 od new ES)(ha:Aj AD k AC fx iter a)(hg:DU AD k AC A8 tgt g)(ht:H7 AD k AC A8 ifs t)(KH:Kd k A8 Fs de)(yo:∀env,B_ XX env=comprehension XX scope env pos new AD (B_ iter env) AB)(hs:∀env x,Mj iter env x=Ax x):
  Aj m k AC fx XX (CL tls ES a g t de):=λA env σ AI p hn CA Q E hQ hE=>wq.of (by
  rw[yo]
  refine nh ca cc KY an ha hg ht KH p hn CA hE (λD C τ D' y e ey c=>c.ns.elim λmm hm=>⟨mm,hm,λh' hb=>?_⟩) (hs env)
  have H:Cu (GY (Be C) (Be D)) τ {τ.s with heap:=h'}:=⟨λa o e q=>(hb.2 a λz=>q (.inl z)).trans e,rfl,rfl⟩
  have O:Ci (GY (Be C) (Be D)) τ:=⟨λb h=>h.elim (c.own.M b) (c.acc.own.M b),λb h=>h.elim (c.own.ne b) (c.acc.own.ne b)⟩
  exact hQ y _ (τ.off (GY (Be C) (Be D)) {τ.s with heap:=h'}) e (H.close c.st.up (λb h=>h.elim (λh=>h▸c.c) λh=>h▸c.d) p.ok) (H.okOff c.ok O) (c.acc.val (H.kpOff c.ok O) (λo h=>⟨(hb.2 D c.ne).trans h,λz=>z.2 (.inr rfl)⟩) ey))
theorem BJ7{gx:DG}(ca:ND fx A8 scope tls)(ha:Aj AD k AC fx iter a)(hg:DU AD k AC A8 tgt g)(ht:H7 AD k AC A8 ifs t)(he:Kd k A8 (Wy DF) de)(yx:DU AD k AC fx (.Name N px) gx)
  (zU:∀env:A7,env.scope=fx.scope->swapsWith (.ListComp DF [⟨tgt,iter,ifs,0⟩] scope jZ) (AA (.Name N px)) pos.line env=Ax AC) (hs:∀env x,Mj iter env x=Ax x):
  DV m k AC fx (.Assign [.Name N px] (.ListComp DF [⟨tgt,iter,ifs,0⟩] scope jZ) pos) (Ar (CL tls (.list []) a g t de) gx):=λA env σ AI p hn CA Q E hQ hE=>wq.of (by
  rw[exec_Assign_Name_used _ _ _ _ (zU env p.e.scope)]
  refine AR (ZR (AR (AR (J' (Q:=λ_ s'=>Q .next s') (E:=E) ?_ (λ_ s' h=>Aa (Aa h)) λ_ _ h=>h))))
  refine nh ca Wb uA eg ha hg ht he p (R.s_ne hn) CA (λc v τ e st ok x=>hE c v AI τ (by show(CL tls (.list []) a g t de AI σ.o).s AI _=_;rw[e];rfl) st.up ok (p.step st ok).e x) (λD C τ D' y e ey c=>?_) (hs env)
  have H1:Cu (Be D) τ τ.s:=⟨λ_ _ e _=>e,rfl,rfl⟩
  have Io:Lt σ (τ.off (Be D) τ.s):=H1.close c.st.up (λb e=>e▸c.d) p.ok
  have Fd:=H1.okOff c.ok c.acc.own
  have O1:Ci (Be C) (τ.off (Be D) τ.s):=⟨λb h=>⟨⟨(c.own.M b h).1,λq=>c.ne (q.symm.trans h)⟩,(c.own.M b h).2⟩,c.own.ne⟩
  have e':Ar (CL tls (.list []) a g t de) gx AI σ.o=gx y AI (τ.off (Be D) τ.s).o:=by unfold Ar;rw[e];rfl
  rw[e']at hn hQ hE
  refine((yx A env _ AI y (.ref D) (p.step Io Fd) (c.acc.val (H1.kpOff c.ok c.acc.own) (λo h=>⟨h,λz=>z.2 rfl⟩) ey)).run hn c.tk (λu υ BF BE Zz x=>?_) (λc' v vs υ e st ok h x=>hE c' v vs υ e (Io.up.trans st) ok h (x.after Io)):wq AD Ak A _ _ _ _).any
  have hC:∀b,Fe env b->b≠C:=λb h=>Fa (p.ok.Mlt b (p.e.ownM h).1).1 c.c
  obtain⟨mm,hm⟩:=c.ns
  have O2:Ci (Be C) υ:=O1.on Fd BF λb e o h=>by
   cases e
   refine Hr (hm) λo' es ep kr=>?_
   exact D0 ((O1.keepIt BF λh=>hC C (QA h) rfl) o' kr.1) h▸c.own.ne C rfl o' kr.1
  refine⟨mm,Ns.slots hm λo h=>⟨o.slots,(O1.keepIt BF λh=>hC C (QA h) rfl) o h⟩,λh' hb=>?_⟩
  have H2:Cu (Be C) υ {υ.s with heap:=h'}:=⟨λa o e q=>(hb.2 a q).trans e,rfl,rfl⟩
  have x:GR fx env (gx y AI (τ.off (Be D) τ.s).o) υ u:=x
  refine hQ .next (υ.off (Be C) {υ.s with heap:=h'}) (H2.close (Io.up.trans (BF.weaken λb h=> .inl (.inl h))) (λb e=>e▸c.c) p.ok) (H2.okOff BE O2) ?_
  generalize gx y AI (τ.off (Be D) τ.s).o=r at x
  cases x with
  |next E=>exact .next (τ:=υ.off (Be C) {υ.s with heap:=h'}) (E.off BE O2 H2 hC))
end
end
section
variable{fx A8:Fx}{n:AQ}{AI:AY}{s':AN}
theorem pH{α:Type}(a:Array α)(n:Nat):∀acc:Array α,List.foldl (λx y=>x++y) acc (Ep n a)=acc++(Ep n a.toList).flatten.toArray:=by
 induction n with
 |zero=>exactλacc=>(ut (xs:=acc)).symm
 |succ n ih=>
  intro acc
  rw[v8,Ua,ih,v8,g_,Array.append_assoc,<-gz]
theorem Ah5{b:Int}(h0:0<=b)(h1:b<=1024):¬(!iU b)=AC:=by
 have h:iU b=AC:=by
  unfold iU
  simp only[MR,decide_eq_true_eq]
  exact⟨OF (by decide) h0,Yb h1 (by decide)⟩
 rw[h];exact C2
theorem Ay2(a:T)(b:Int)(h0:0<=b):Txt.mul (AU a) b=AU (Ep b.toNat a).flatten:=by
 unfold Txt.mul
 split
 ·rw[show b.toNat=0 from Int.toNat_eq_zero.mpr (Int.le_of_lt_add_one (by assumption:b<0+1))];rfl
 ·split
  ·rename_i h1 h
   rcases(Qc _ _).mp h with h|h
   ·rw[show b.toNat=1 by rw[CH h];rfl]
    show AU a=AU (a++[])
    rw[BJ]
   ·have:a=[]:=Gy.mp (BY a▸(CH h:(AU a).length=0))
    rw[this,show ∀n,(Ep n ([]:T)).flatten=[]fromλn=>vh.mpr λl h=>(vq.mp h).2]
  ·rw[pH,gg]
noncomputable def HP(a:List α)(b:Int):List α:=(Ep b.toNat a).flatten
noncomputable abbrev LA(a:List α)(b:Int):Prop:=0<=b/\b<=1024/\a.length<=1024
theorem AK5(items:Array α)(b:Int):List.foldl (λx1 x2=>x1++x2) #[] (Ep (if items.isEmpty=AC then 0 else b.toNat) items)=(HP items.toList b).toArray:=by
 rw[pH]
 by_cases he:items.isEmpty=AC
 ·have:items.toList=[]:=by rw[Array.isEmpty_iff.mp he]
  rw[if_pos he,HP,this,show(Ep b.toNat ([]:List α)).flatten=[]from vh.mpr λl h=>(vq.mp h).2];rfl
 ·rw[if_neg he,gg];rfl
theorem rA{a:List CV}{b:Int}{u v:AE}{Q:AE->AN->Prop}{E:AE->AN->Prop}(hu:WE σ a u)(hv:∃t,v= .int b t)(hc:LA a b)(hQ:∀ws,Vs σ (HP a b) ws->Q (.ref σ.h.objs.size) {σ.s with heap:=σ.s.heap.push {cls:= .type "list",data:= .seq ws.toArray}}):Ac Ak A (binaryOp .Mult u v) Q E σ.s:=by
 obtain⟨t,rfl⟩:=hv
 obtain⟨l,ws,n,rfl,h1,h2⟩:=hu
 have hz:ws.toArray.size=a.length:=by rw[DC,h2.len]
 have hs:ws.toArray.size*b.toNat<=1024*1024:=Nat.mul_le_mul (hz▸hc.2.2) (Int.toNat_le.mpr hc.2.1)
 refine wpAny_binaryOp_repeat_ref (T:="list") (U:="int") (by decide) ⟨_,h1,rfl⟩ (λs'=>typeIs_int s' b t) noFill_list_mul F.fills_int_mul xJ repeat_list F.slot_int_index.lookup
  (Hy xJ (typeIs_int _ b t) F.entry_int_rmul (F.args_int_rmul_2 _ _) (int___rmul___int_list b t l ws.toArray n)
   ⟨h1,rfl,⟨_,h1,rfl⟩,Hy F.slot_list_mul ⟨_,h1,rfl⟩ F.entry_list_mul (F.args_list_mul_2 _ _)
    (AutoListH.list___mul___list_int_3 l ws.toArray n b t (Ah5 hc.1 hc.2.1) (Cp.mpr (AO hs (by decide))) (λh=>absurd (of_decide_eq_true h) (Cp.mpr (AO hs (by decide)))))
    ⟨h1,?_⟩⟩)
 rw[AK5]
 exact hQ _ (h2.replicate _)
noncomputable def FD:List CV->AL->R CV:=BP (BN Bq Bq λa b o=>if(B1 a||B1 b)=AC then .ok (.int (a*b)) o else .no) (BP (BN BX Bq λa b o=>if LA a b then .ok (.str (HP a b)) o else .no) (BN Cj Bq λa b o=>if LA a b then .ok (.lst (HP a b)) o else .no))
theorem A62:BA m k q (II .Mult) FD:= .alt (.on2 vI vI λA σ a b u v _ ok ⟨t,h⟩ ⟨t',h'⟩=> .ite λhc=> .of λ_ Q E hQ _=>by
  subst h h'
  exact PyProof.Rows.mul_int (hQ.tk rfl ok ⟨_,rfl⟩) (((Qc _ _).mp hc).elim (λh=>IntMulOk.of_left (m7 h)) λh=>IntMulOk.of_right (m7 h)))
 (.alt (.on2 vS vI λA σ a b u v _ ok ⟨t,h⟩ ⟨t',h'⟩=> .ite λhc=> .of λ_ Q E hQ _=>by
  subst h h'
  exact SB.mul (mulOk_of 1024 1024 (by show a.toArray.size<=1024;rw[DC];exact hc.2.2) hc.2.1 (OF (by decide) hc.1) (by decide) (by decide)) λKb tk=>by
   rw[Ay2 a b hc.1]
   exact hQ.tk rfl ok ⟨_,rfl⟩)
 (.on2 vL vI λA σ a b u v _ ok h h'=> .ite λhc=> .of λ_ Q E hQ _=>rA h h' hc λws hw=>hQ.newLst ok hw rfl))
noncomputable def fK:List CV->AL->R CV:=BN Cj Bq λa b o=>if LA a b then .ok (.obj o.length) (o++[.list (HP a b)])else .no
theorem A63:BA m k q (II .Mult) fK:= .on2 vL vI λA σ a b u v _ ok h h'=> .ite λhc=> .of λ_ Q E hQ _=>rA h h' hc λws hw=>hQ.newObj ok hw rfl
noncomputable def mU(objs:AL)(c:CV):Option Unit:=(PS objs c).bind λd=>if d.1= .s []/\d.2=[]then AA ()else AB
theorem vD0:Vw mU λσ _ v=>aj σ (.s [],[]) v:=λ{σ c a v} ok e h=>by
 obtain⟨d,e1,e2⟩:=C5.mp e
 by_cases q:d.1= .s []/\d.2=[]
 ·have:=vD ok e1 h;rwa [show d=(.s [],[])from Prod.ext q.1 q.2]at this
 ·rw[if_neg q]at e2;first|exact Af e2|cases e2
noncomputable def IJ:List CV->AL->R CV:=BP (MH AD) (BP (BN Bq mU λx _ o=> .ok (.bool AD) o) (BN FV H9 λx ys o=>(eA x ys).elim .no λb=> .ok (.bool b) o))
theorem A56:BA m k q (GA .In) IJ:= .alt A55 (.alt (.on2 vI vD0 λA σ x _ u v hR ok ⟨t,h⟩ h'=> .of λ_ Q E hQ _=>by
  subst h
  obtain⟨a,ws,rfl,h1,h2⟩:=h'
  have hw:ws=[]:=Gy.mp h2.len.symm
  subst hw
  exact wpAny_in_of (Og pE w x t) h1.1 (cL h1.2.1).mapOf (hQ.tk rfl ok rfl))
 (.on2 vC vT λA σ x ys u v hR ok h h'=> .opt λb e=> .of λ_ Q E hQ _=>by
  have hl:FG=9900:=rfl
  have hu:=hR.u
  obtain⟨l,ws,rfl,⟨n,h1⟩,h2⟩:EV (σ.sq "tuple") (Vs σ ys) v:=h'
  obtain⟨f,hf,rfl⟩:=eC (A:=A.in1) (by rw[Uq];exact Bg (C3 (C3 hu 1) 60) (by decide)) h2 h e
  exact SeqAt.in_tupleAt f ⟨_,h1.1,rfl,n,rfl⟩ hf (hQ.here rfl ok rfl)))
end
section
variable{fx A8:Fx}{n:AQ}{AI:AY}{e x l r:Ab}{es:List Ab}{pos p1:BK}{scope:ER}{sc:List SK}{tls:List (Option Nat)}
noncomputable def BG8(sc:ER):SK->Bool
 | .loc n=>sc.names.lookup n==AA .local&& !(n==("__debug__":AQ))
 | .cel n=>sc.names.lookup n==AA .cell&& !(n==("__debug__":AQ))
 | .off=>AC
noncomputable def DZ(fx:Fx):Bool:=fx.scope.kind== .function&&(fx.sc.all (BG8 fx.scope)&&decide (fx.sc.Pairwise λa b=>a= .off\/a≠b))
theorem BB{a b:Bool}(h:(a&&b)=AC):a=AC/\b=AC:=(MR _ _).mp h
theorem XY{a:Bool}(h:(!a)=AC):a=AD:=(YX _).mp h
theorem rt{R:α->α->Prop}{l:List α}{i j:Nat}{x:α}(h:l.Pairwise R)(hl:i<j)(hi:l[i]? =AA x)(hj:l[j]? =AA x):R x x:=by
 obtain⟨h1,e1⟩:=Gb.mp hi
 obtain⟨h2,e2⟩:=Gb.mp hj
 have:=iG.mp h i j h1 h2 hl
 rw[e1,e2]at this
 exact this
theorem CD(h:DZ fx=AC):Dp fx:=
 have h2:=BB (BB h).2
 have h3:=FF.mp h2.1
 ⟨CH (BB h).1,λn hn=>(BB (h3 _ hn)).imp CH XY,λn hn=>(BB (h3 _ hn)).imp CH XY,λi j k hi hj hk=>Qd λq=>
  (Nat.lt_or_gt_of_ne q).elim (λq=>(rt (of_decide_eq_true h2.2) q hi hj).elim hk λz=>z rfl) λq=>(rt (of_decide_eq_true h2.2) q hj hi).elim hk λz=>z rfl⟩
noncomputable def qw(fx:Fx)(scope:ER)(sc:List SK):Fx:={scope:=se scope fx.scope,sc:=sc,fn:=AD}
noncomputable def tlB(fx:Fx)(scope:ER)(x:SK×Option Nat):Bool:=match x.1 with
 | .loc _=>x.2==AB
 | .cel n=>x.2.elim AD λj=>fx.sc[j]? ==AA (.cel n)&&scope.names.contains (n, .free)
 | .off=>AC
noncomputable def nmB(fx:Fx)(scope:ER)(x:AQ×Q5):Bool:=(x.2 != .free||fx.sc.contains (.cel x.1))&&(x.2 != .cell&&(x.2 != .local||scope.names.lookup x.1==AA .local))
noncomputable def bW(fx:Fx)(scope:ER)(sc:List SK)(tls:List (Option Nat)):Bool:=
 tls.length==sc.length&&((sc.zip tls).all (tlB fx scope)&&(scope.names.all (nmB fx scope)&&(decide ((scope.names.filter (·.2== .free)).map (·.1)).Nodup&&scope.kind== .function)))
theorem ur{l:List α}{r:List β}{i:Nat}{x:α}(hl:r.length=l.length)(h:l[i]? =AA x):∃y,r[i]? =AA y/\(x,y)∈l.zip r:=
 ⟨_,(B8 (hl.symm▸(Gb.mp h).1:i<r.length)),Dv (Ql.mpr ⟨h,(B8 (hl.symm▸(Gb.mp h).1:i<r.length))⟩)⟩
theorem re{a:Q5}{b:Q5}{c:Bool}(h:(a !=b||c)=AC)(e:a=b):c=AC:=((Qc _ _).mp h).elim (λh=>absurd e (bne_iff_ne.mp h)) id
theorem Wa(h:bW fx scope sc tls=AC):ND fx (qw fx scope sc) scope tls:=
 have h2:=BB (BB h).2
 have h3:=BB h2.2
 have hl:=CH (BB h).1
 have t:=FF.mp h2.1
 have n:=λx hx=>BB (FF.mp h3.1 x hx)
 ⟨rfl,rfl,hl,λi m hi=>(ur hl hi).elim λy h=>h.1.trans (congrArg AA (CH (t _ h.2))),λi m hi=>(ur hl hi).elim λy h=>by
  cases y with
  |none=>exact absurd (t _ h.2) C2
  |some j=>exact⟨j,h.1,(BB (t _ h.2)).imp CH λh=>Yj.mp h⟩,λm hm=>Yq.mp (Yj.mp (re (n _ hm).1 rfl)),of_decide_eq_true (BB h3.2).1,λx hx=>bne_iff_ne.mp (BB (n x hx).2).1,CH (BB h3.2).2,λx hx e=>CH (re (BB (n x hx).2).2 e)⟩
noncomputable def IL(e:Ab):Bool:=e.ctorIdx==22
theorem gB(h:IL e=AD)(es:List Ab)(env:A7):CX (e::es) env=(AD,B_ e env)::CX es env:=by
 cases e<;>first|rfl|cases h
theorem mo(h:IL e=AD)(es:List Ab)(env:A7):Md (e::es) env=(AD,RC e env)::Md es env:=by
 cases e<;>first|rfl|cases h
theorem tU(h:es.all (!IL ·)=AC)(env:A7)(pos:BK):(Dd pos (CX es env)).all (!·.1)=AC:=by
 induction es with
 |nil=>rfl
 |cons e es ih=>
  rw[UY]at h
  rw[gB (XY (BB h).1)]
  exact ih (BB h).2
theorem gA(h:es.all (!IL ·)=AC)(env:A7)(pos:BK):(Dd pos (CX es env)).any (·.1)=AD:=
 HR.mpr λz=>(gv.mp z).elim λx hx=>absurd hx.2 (HR.mp (XY (FF.mp (tU h env pos) x hx.1)))
noncomputable def nj(e:Ab):Bool:= !([0,3,5,15]:List Nat).contains e.ctorIdx
theorem bX(h:nj e=AC)(env:A7)(whole:Ao AE):isTrue e env whole=(do let v<-whole;GI e.pos;HY [v] (VE v)):=by
 cases e with
 |UnaryOp=>cases h
 |BoolOp=>cases h
 |IfExp=>cases h
 |Compare=>cases h
 |_=>rfl
noncomputable def N7(e:Ab):Bool:=e.ctorIdx==7
theorem QO(h:N7 e=AD)(env:A7)(x:AE):Mj e env x=Ax x:=by cases e<;>first|rfl|cases h
noncomputable def WU(e:Ab):Bool:=Jk (M:=λ_=>Bool) e (λ_=>AC) (call:=λ_ es _ _=> !es.isEmpty)
theorem m2(h:WU e=AC)(n:AQ)(env:A7):U2 e n env (B_ e env)=B_ e env:=by
 cases e with
 |Call f es ks p=>cases es with
  |nil=>first|exact Af h|cases h
  |cons=>cases f<;>rfl
 |_=>rfl
noncomputable def X7(e:Ab):Bool:=e.ctorIdx==26
theorem BR4(h:X7 e=AD)(o i:AE):Mn e AD o i=Oi [o,i] (Hz o i):=by cases e<;>first|rfl|cases h
theorem AL4(h:X7 e=AD)(ov iv new:AE):augStore e ov iv new=(do HY [new,ov,iv] (setItem ov iv new);release [new,ov,iv] [];Ax .next):=by cases e<;>first|rfl|cases h
noncomputable def nZ(e:Ab):Bool:=([8,9,10]:List Nat).contains e.ctorIdx
theorem Aa3(h:nZ e=AD)(l:Nat)(env:A7):swapsWith e AB l env=Ax AD:=by cases e<;>first|rfl|cases h
noncomputable abbrev Iy(fx:Fx):A7:={scope:=fx.scope,locals:=0,globals:=0,cells:=[]}
theorem th{l:Nat}{env:A7}(h:env.scope=fx.scope):Mp [x] e l env=Mp [x] e l (Iy fx):=by cases env;cases h;rfl
theorem tf{env:A7}(h:env.scope=fx.scope):Mo [x] e env=Mo [x] e (Iy fx):=by cases env;cases h;rfl
theorem An6{env:A7}(h:env.scope=fx.scope):U5 env=U5 (Iy fx):=by unfold U5;rw[h]
noncomputable def MN:Ao α->Option α
 | .pure a=>AA a
 |_=>AB
theorem Xx{t:Ao α}{a:α}(h:MN t=AA a):t=Ax a:=by
 cases t with
 |pure b=>exact congrArg Sem.pure (CU h)
 |_=>exact Af h
structure Me where
 is:AL->CV->Bool
 fv:AE
 g:List CV->AL->R CV
noncomputable def BC(ms:List Me)(a:D)(b:DL):D:=λAI objs=>(a AI objs).bind λc h=>(ms.find? λx=>x.is h c).elim .no λx=>(b AI h).bind λxs h'=>x.g (c::xs) h'
theorem BM3{kws:List JM}{ns:List AQ}{ms:List Me}{a:D}{b:DL}(hm:∀x∈ms,DH m k q n x.is x.fv ns x.g)(ho:Aj m k q fx x a)(ha:H6 m k q fx pos es kws ns b)(Os:∀env,U2 x n env (B_ x env)=B_ x env)
  (Rl:(p1.endLine==pos.line)=AC):Aj m k q fx (.Call (.Attribute x n p1) es kws pos) (BC ms a b):=λA env σ AI p=>by
 show Ev m V A (U2 x n env (B_ x env)>>=λov=>GI p1.atName>>=λ_=>ZJ x n p1 pos env ov (es.length+kws.length) (Dd pos (CX es env)) (G3 pos (G4 kws env))) σ _
 simp only[Os]
 exact(ho _ _ _ _ p).bind λc u τ st ok h=> .stand (.opt λy hy=>ou (ha.few env) Rl ((hm y (iF hy)).get ok h (List.find?_some (p:=λx:Me=>x.is τ.o c) hy)) (oo (fcs:=[c]) (hm y (iF hy)).keep ha (hm y (iF hy)).call (p.step st ok) (.one h)))
end
end
noncomputable section
noncomputable abbrev PG:=List CV->AL->R CV
noncomputable abbrev UE(m:Bool)(k:Nat)(q:Bool)(fx:Fx)(e:Ab):={d:D//Aj m k q fx e d}
noncomputable abbrev UT(m:Bool)(k:Nat)(q:Bool)(fx:Fx)(e:Ab):={d:DT//Eh m k q fx e d}
noncomputable abbrev UG(m:Bool)(k:Nat)(q:Bool)(fx:Fx)(e:Ab):={d:DG//DU m k q fx e d}
noncomputable abbrev US(m:Bool)(k:Nat)(q:Bool)(fx:Fx)(s:Bd):={d:DS//DV m k q fx s d}
noncomputable def AI5(n:AQ)(v:AE):Prop:=mg n=AA v\/(mg n=AB/\ZE n=AA v/\n≠"__name__")
structure SP where
 nm:(n:AQ)->Option {v:AE//AI5 n v}
 tx:(n:AQ)->Option {x:AQ//∃t,mg n=AA (.str x t)}
 fd:(n:AQ)->Option {x:AK×(AQ->Option AE)//PN x.1 x.2 n}
 rs:(v:AE)->Option (PLift (SR v))
 mt:(v:AE)->Option {f:AE->Option Bool//∀c b,f c=AA b->Q9 (K5 w.params) c v=AA b}
 chg:BK->Bool
structure WN(m:Bool)(k:Nat)(q:Bool) where
 call:(v:AE)->(ns:List AQ)->Option {g:PG//G_ v/\Bi m k q v ns g}
 meth:(n:AQ)->(ns:List AQ)->{l:List Me//∀x∈l,DH m k q n x.is x.fv ns x.g}
 bin:(op:LU)->{g:PG//BA m k q (II op) g}
 mul:{g:PG//BA m k q (II .Mult) g}
 un:(op:UnaryOp)->{g:PG//BA m k q (λvs=>unaryOp op (vs.getD 0 .none)) g}
 cmp:(op:CmpOp)->{g:PG//BA m k q (GA op) g}
 aug:(op:LU)->{g:PG//BA m k q (Xg op) g}
 item:{g:PG//Kg m k q g}
 slice:{g:PG//Kh m k q g}
structure Rc(k:Nat) where
 e:(m q:Bool)->(fx:Fx)->Dp fx->(e:Ab)->UE m k q fx e
 t:(m q:Bool)->(fx:Fx)->Dp fx->(e:Ab)->UT m k q fx e
 g:(m q:Bool)->(fx:Fx)->Dp fx->(e:Ab)->UG m k q fx e
 s:(m q:Bool)->(fx:Fx)->Dp fx->(s:Bd)->US m k q fx s
variable{m:Bool}{k:Nat}{q:Bool}{fx:Fx}
noncomputable def EG(e:Ab):UE m k q fx e:=⟨So,BM4⟩
noncomputable def TQ(e:Ab):UT m k q fx e:=⟨λ_ _=> .no,λ_ _ _ _ _ hn=>absurd rfl hn⟩
noncomputable def P5(e:Ab):UG m k q fx e:=⟨λ_ _ _=> .no,λ_ _ _ _ _ _ _ _ hn=>absurd rfl hn⟩
noncomputable def DJ(s:Bd):US m k q fx s:=⟨Pi,BM5⟩
noncomputable def noL(es:List Ab):{d:DL//Iu m k q fx es d}:=⟨λ_ _=> .no,λ_ _ _ _ _ _ hn=>absurd rfl hn⟩
section
variable(N:SP)(T:(m q:Bool)->WN m k q)(r:Rc k)(fo:Dp fx)
include fo
noncomputable def BW1(n:AQ)(pos:BK):UE m k q fx (.Name n pos):=
 if h:fx.sc[fx.sc.findIdx (·== .loc n)]? =AA (.loc n)then⟨AF _,BM0 fo _ h⟩else if h:fx.sc[fx.sc.findIdx (·== .cel n)]? =AA (.cel n)then⟨AF _,BK5 fo _ h⟩else
 if hd:(n==("__debug__":AQ))=AC then⟨AG (.bool AC),CH hd▸BK8⟩else if hl:fx.scope.names.lookup n=AA .globalImplicit then(N.nm n).elim ((N.tx n).elim (EG _) λx=>⟨AG (.str (Bx x.1)),x.2.elim λt h=>BL6 fo _ rfl hl h (HR.mpr hd)⟩)
  λx=>⟨AG (.top x.1),x.2.elim (λh=>tL fo hl h (HR.mpr hd)) λh=>tK fo hl h.1 h.2.1 h.2.2 (HR.mpr hd)⟩else EG _
noncomputable def QV(n:AQ):Option {v:AE//∀m q pos,Aj m k q fx (.Name n pos) (AG (.top v))}:=
 if hd:(n==("__debug__":AQ))=AC then AB else if hl:fx.scope.names.lookup n=AA .globalImplicit then(N.nm n).map λx=>⟨x.1,λm q pos=>x.2.elim (λh=>tL fo hl h (HR.mpr hd)) λh=>tK fo hl h.1 h.2.1 h.2.2 (HR.mpr hd)⟩else AB
noncomputable def OB(m q:Bool)(es:List Ab):{d:DL//Iu m k q fx es d}:=LM (motive:=λes=>{d:DL//Iu m k q fx es d}) ⟨AP,tI⟩ (λe es ih=>if h:IL e=AD then⟨AH (r.e m q fx fo e).1 ih.1,tH (r.e m q fx fo e).2 ih.2 λenv=>gB h es env⟩else noL _) es
noncomputable def BW0(pos:BK):(kws:List JM)->Option {x:List AQ×DL//SW m k q fx pos kws x.1 x.2}
 |[]=>AA ⟨([],AP),f7⟩
 |[⟨AA n,e,_⟩]=>AA ⟨([n],AH (r.e m q fx fo e).1 AP),BI6 (r.e m q fx fo e).2⟩
 |_=>AB
omit fo in
theorem o_{pos:BK}{es:List Ab}{kws:List JM}{ns:List AQ}{b:DL}(hs:es.all (!IL ·)=AC)(hk:SW m k q fx pos kws ns b)(hl:es.length+kws.length+1<30)(env:A7):RG (es.length+kws.length) (Dd pos (CX es env)) (G3 pos (G4 kws env))=AC:=by
 unfold RG
 simp only[tU hs,hk.all env]
 exact decide_eq_true (Bg (by split<;>first|exact BL _|exact Da _) hl)
noncomputable def YL(m q:Bool)(pos:BK)(es:List Ab):(kws:List JM)->Option {x:List AQ×DL//H6 m k q fx pos es kws x.1 x.2}
 |[]=>if h:es.all (!IL ·)=AC/\es.length+0+1<30 then AA ⟨([],(OB r fo m q es).1),BH4 (OB r fo m q es).2 (gA h.1 · pos) (o_ (fx:=fx) h.1 (f7 (m:=m) (k:=k) (q:=q)) h.2)⟩else AB
 |kws=>if h:es.all (!IL ·)=AC/\es.length+kws.length+1<30 then(BW0 r fo pos kws).map λx=>⟨(x.1.1,Hj (OB r fo m q es).1 x.1.2),tG (OB r fo m q es).2 x.2 (gA h.1 · pos) (o_ h.1 x.2 h.2)⟩else AB
noncomputable def uH(m q:Bool):(e:Option Ab)->{d:D//NL m k q fx e d}
 |none=>⟨_,BJ1⟩
 |some e=>⟨_,BJ2 (r.e m q fx fo e).2⟩
noncomputable def gM(m q:Bool):(ks:List (Option Ab))->(es:List Ab)->{d:DP//NM m k q fx ks es d}
 |[],[]=>⟨_,BJ0⟩
 |some x::ks,y::es=>⟨_,BI9 (r.e m q fx fo x).2 (r.e m q fx fo y).2 (gM m q ks es).2⟩
 |_,_=>⟨λ_ _=> .no,λ_ _ _ _ _ _ hn=>absurd rfl hn⟩
noncomputable def gN:(ifs:List Ab)->{d:DT//H7 AD k AC fx ifs d}
 |[]=>⟨_,f8⟩
 |[x]=>⟨_,BJ3 (r.t AD AC fx fo x).2⟩
 |_=>⟨λ_ _=> .no,λ_ _ _ _ _ hn=>absurd rfl hn⟩
noncomputable def Wc(s:ER):List SK:=(s.names.filterMap λx=>if x.2== .local&&x.1.cps[0]? !=AA 46 then AA (.loc x.1)else AB)++s.names.filterMap λx=>if x.2== .free then AA (.cel x.1)else AB
noncomputable def AU6(fx:Fx)(sc:List SK):List (Option Nat):=sc.map λx=>match x with
 | .cel n=>AA (fx.sc.findIdx (·== .cel n))
 |_=>AB
noncomputable abbrev A8(fx:Fx)(s:ER):Fx:=qw fx s (Wc s)
noncomputable abbrev QT(fx:Fx)(s:ER):List (Option Nat):=AU6 fx (Wc s)
structure Kc(q:Bool)(fx:Fx)(s:ER)(iter:Ab)(a:Int):Prop where
 q:q=AC
 st:N7 iter=AD
 a:a=0
 c:bW fx s (Wc s) (QT fx s)=AC
 f:DZ (A8 fx s)=AC
instance (q:Bool) (fx:Fx) (s:ER) (iter:Ab) (a:Int):Decidable (Kc q fx s iter a):=decidable_of_iff (q=AC/\N7 iter=AD/\a=0/\bW fx s (Wc s) (QT fx s)=AC/\DZ (A8 fx s)=AC) ⟨λ⟨a,b,c,d,e⟩=>⟨a,b,c,d,e⟩,λ⟨a,b,c,d,e⟩=>⟨a,b,c,d,e⟩⟩
omit fo
theorem WT{m q:Bool}{e:Ab}{a:D}(h:q=AC)(x:Aj m k AC fx e a):Aj m k q fx e a:=h▸x
theorem mu{m q:Bool}{s:Bd}{a:DS}(h:q=AC)(x:DV m k AC fx s a):DV m k q fx s a:=h▸x
theorem bD{m q:Bool}{e:Ab}{v v':AE}(h:v=v')(x:Aj m k q fx e (AG (.top v))):Aj m k q fx e (AG (.top v')):=h▸x
theorem mr{m q:Bool}{es:List Ab}{kws:List JM}{pos:BK}{ns KZ:List AQ}{b:DL}(h:ns=KZ)(x:H6 m k q fx pos es kws ns b):H6 m k q fx pos es kws KZ b:=h▸x
section
variable{m q:Bool}{t i t2 i2 DF kx vx:Ab}{ifs:List Ab}{s:ER}{pos:BK}{a b:Int}{di de ja dv:D}{dt:DT}{dg RN:DG}
theorem BZ8(h:Kc q fx s i a)(hi:Aj AD k AC fx i di)(hg:DU AD k AC (A8 fx s) t dg)(ht:H7 AD k AC (A8 fx s) ifs dt)(he:Aj AD k AC (A8 fx s) DF de):Aj m k q fx (.ListComp DF [⟨t,i,ifs,a⟩] s pos) (CL (QT fx s) (.list []) di dg dt (CC de)):=
 WT h.q (h.a▸f9 (Wa h.c) Wb uA eg hi hg ht (cR he) (λ_=>rfl) (QO h.st))
theorem BZ5(h:Kc q fx s i a)(hi:Aj AD k AC fx i di)(hg:DU AD k AC (A8 fx s) t dg)(ht:H7 AD k AC (A8 fx s) ifs dt)(he:Aj AD k AC (A8 fx s) kx de)(hv:Aj AD k AC (A8 fx s) vx dv):Aj m k q fx (.DictComp kx vx [⟨t,i,ifs,a⟩] s pos) (CL (QT fx s) (.dict (.s []) []) di dg dt (Ku de dv)):=
 WT h.q (h.a▸f9 (Wa h.c) AU5 BU4 Az1 hi hg ht (Aa9 he hv) (λ_=>rfl) (QO h.st))
theorem Ba6(h:Kc q fx s i a)(hb:b=0)(hs:N7 i2=AD)(hi:Aj AD k AC fx i di)(hg:DU AD k AC (A8 fx s) t dg)(Vc:Aj AD k AC (A8 fx s) i2 ja)(yu:DU AD k AC (A8 fx s) t2 RN)(he:Aj AD k AC (A8 fx s) DF de):
  Aj m k q fx (.ListComp DF [⟨t,i,[],a⟩,⟨t2,i2,[],b⟩] s pos) (CL (QT fx s) (.list []) di dg El (Su ja RN El (CC de))):=by
 cases h.a
 cases hb
 exact WT h.q (f9 (Wa h.c) Wb BU2 eg hi hg f8 (Aa8 Wb rfl BU3 Vc yu f8 (cR he) (QO hs)) (λ_=>rfl) (QO h.st))
end
include fo
noncomputable def BV5(m q:Bool)(e:Ab):UE m k q fx e:=Jk (M:=λe=>UE m k q fx e) e EG
 (lc:=λDF g s pos=>match g with
  |[⟨t,i,ifs,a⟩]=>if h:Kc q fx s i a then⟨_,BZ8 h (r.e AD AC fx fo i).2 (r.g AD AC _ (CD h.f) t).2 (gN r (CD h.f) ifs).2 (r.e AD AC _ (CD h.f) DF).2⟩else EG _
  |[⟨t,i,[],a⟩,⟨t2,i2,[],b⟩]=>if h:Kc q fx s i a/\b=0/\N7 i2=AD then⟨_,Ba6 h.1 h.2.1 h.2.2 (r.e AD AC fx fo i).2 (r.g AD AC _ (CD h.1.f) t).2 (r.e AD AC _ (CD h.1.f) i2).2 (r.g AD AC _ (CD h.1.f) t2).2 (r.e AD AC _ (CD h.1.f) DF).2⟩else EG _
  |_=>EG _)
 (dc:=λkx vx g s pos=>match g with
  |[⟨t,i,ifs,a⟩]=>if h:Kc q fx s i a then⟨_,BZ5 h (r.e AD AC fx fo i).2 (r.g AD AC _ (CD h.f) t).2 (gN r (CD h.f) ifs).2 (r.e AD AC _ (CD h.f) kx).2 (r.e AD AC _ (CD h.f) vx).2⟩else EG _
  |_=>EG _)
end
end
noncomputable section
variable(N:SP){k:Nat}(T:(m q:Bool)->WN m k q)(r:Rc k){fx:Fx}(fo:Dp fx)
noncomputable def W1:Nat:=200000
theorem Ba2{m q:Bool}{v v':AE}{e:Ab}{n n2:AQ}{p1 p2 p3 p4:BK}{ns:List AQ}{d:DL}(h:q=AC/\v= .builtin "sorted"/\v'= .type "set"/\ns=[])(hx:Aj AD k AC fx (.Name n p1) (AG (.top v)))(hy:Aj AD k AC fx (.Name n2 p2) (AG (.top v')))(ha:H6 AD k AC fx p3 [e] [] ns d):Aj m k q fx (.Call (.Name n p1) [.Call (.Name n2 p2) [e] [] p3] [] p4) (NW d):=
 WT h.1 (BN6 (bD h.2.1 hx) (bD h.2.2.1 hy) (mr h.2.2.2 ha))
noncomputable def BW6(m q:Bool)(e:Ab):Option (UE m k q fx e):=HH (M:=λe=>Option (UE m k q fx e)) e (λ_=>AB) (call:=λf es ks p4=>match es,ks with
 |[e],[]=>HH (M:=λf=>Option (UE m k q fx (.Call f [e] [] p4))) f (λ_=>AB) (name:=λn p1=>HH (M:=λe=>Option (UE m k q fx (.Call (.Name n p1) [e] [] p4))) e (λ_=>AB) (call:=λf es ks p3=>match es,ks with
  |[e],[]=>HH (M:=λf=>Option (UE m k q fx (.Call (.Name n p1) [.Call f [e] [] p3] [] p4))) f (λ_=>AB) (name:=λn2 p2=>(QV N fo n).bind λx=>(QV N fo n2).bind λy=>(YL r fo AD AC p3 [e] []).bind λa=>
   if h:q=AC/\x.1= .builtin "sorted"/\y.1= .type "set"/\a.1.1=[]then AA ⟨NW a.1.2,Ba2 h (x.2 _ _ _) (y.2 _ _ _) a.2⟩else AB)
  |_,_=>AB))
 |_,_=>AB)
noncomputable def ta(e:Ab):Option {x:AQ×Nat×BK//e= .Constant (.str x.1) x.2.1 x.2.2}:=Jk (M:=λe=>Option {x:AQ×Nat×BK//e= .Constant (.str x.1) x.2.1 x.2.2}) e (λ_=>AB) (con:=λc k p=>match c with
 | .str y=>AA ⟨(y,k,p),rfl⟩
 |_=>AB)
theorem Ba1{m q:Bool}{x a b:Ab}{n:AQ}{p1 pos:BK}{d:D}{y z:AQ×Nat×BK}(ha:a= .Constant (.str y.1) y.2.1 y.2.2)(hb:b= .Constant (.str z.1) z.2.1 z.2.2)(h:n="replace"/\(y.1==z.1)=AD/\WU x=AC/\(p1.endLine==pos.line)=AC)(hx:Aj m k q fx x d):
  Aj m k q fx (.Call (.Attribute x n p1) [a,b] [] pos) (L5 (Bx y.1) (Bx z.1) d):=by
 cases ha
 cases hb
 cases h.1
 exact BN3 hx rfl rfl h.2.1 (m2 h.2.2.1 _) h.2.2.2
noncomputable def BW5(m q:Bool)(e:Ab):Option (UE m k q fx e):=HH (M:=λe=>Option (UE m k q fx e)) e (λ_=>AB) (call:=λf es ks pos=>match es,ks with
 |[a,b],[]=>HH (M:=λf=>Option (UE m k q fx (.Call f [a,b] [] pos))) f (λ_=>AB) (att:=λx n p1=>(ta a).bind λy=>(ta b).bind λz=>
  if h:n="replace"/\(y.1.1==z.1.1)=AD/\WU x=AC/\(p1.endLine==pos.line)=AC then AA ⟨L5 (Bx y.1.1) (Bx z.1.1) (r.e m q fx fo x).1,Ba1 y.2 z.2 h (r.e m q fx fo x).2⟩else AB)
 |_,_=>AB)
noncomputable def BV4(m q:Bool)(f:Ab)(es:List Ab)(kws:List JM)(pos:BK):UE m k q fx (.Call f es kws pos):=HH (M:=λf=>UE m k q fx (.Call f es kws pos)) f (λ_=>EG _)
 (name:=λn p1=>((QV N fo n).bind λx=>(YL r fo m q pos es kws).bind λa=>((T m q).call x.1 a.1.1).map λg=>(⟨A_ g.1 a.1.2,BK4 g.2.1 (x.2 m q p1) a.2 g.2.2⟩:UE m k q fx _)).getD (EG _))
 (att:=λx n p1=>if h:WU x=AC/\(p1.endLine==pos.line)=AC then((YL r fo m q pos es kws).map λa=>(⟨BC ((T m q).meth n a.1.1).1 (r.e m q fx fo x).1 a.1.2,BM3 ((T m q).meth n a.1.1).2 (r.e m q fx fo x).2 a.2 (m2 h.1 n) h.2⟩:UE m k q fx _)).getD (EG _)else EG _)
noncomputable def BV6(m q:Bool)(c:Const)(kd:Nat)(pos:BK):UE m k q fx (.Constant c kd pos):=match c with
 | .none=>⟨_,BM6⟩
 | .bool b=>⟨AG (.bool b),BK2⟩
 | .int i=>⟨AG (.int i),BL9⟩
 | .str x=>⟨AG (.str (Bx x)),BN7 rfl⟩
 |c=>EG _
theorem BZ9{m q:Bool}{l x:Ab}{op:LU}{pos:BK}{a b:D}{g:PG}(h:op= .Mult)(ha:Aj m k q fx l a)(hb:Aj m k q fx x b)(hg:BA m k q (II .Mult) g):Aj m k q fx (.BinOp l op x pos) (AJ g a b):=h▸tJ ha hb hg
noncomputable def uE(m q:Bool)(e:Ab):UE m k q fx e:=Jk (M:=λe=>UE m k q fx e) e (BV5 r fo m q)
 (name:=λn pos=>BW1 N fo n pos)
 (con:=λc kd pos=>BV6 m q c kd pos)
 (bin:=λl op x pos=>if h:op= .Mult/\N.chg pos=AC then⟨_,BZ9 h.1 (r.e m q fx fo l).2 (r.e m q fx fo x).2 (T m q).mul.2⟩else⟨_,tJ (r.e m q fx fo l).2 (r.e m q fx fo x).2 ((T m q).bin op).2⟩)
 (un:=λop x _=>⟨_,BO1 (r.e m q fx fo x).2 ((T m q).un op).2⟩)
 (cmp:=λl Dc xs _=>match Dc,xs with
  |[op],[x]=>if h:RD op x=AD then⟨_,BK6 (r.e m q fx fo l).2 (r.e m q fx fo x).2 ((T m q).cmp op).2 h⟩else EG _
  |_,_=>EG _)
 (ife:=λt x y _=>⟨_,BL8 (r.t m q fx fo t).2 (r.e m q fx fo x).2 (r.e m q fx fo y).2⟩)
 (sub:=λl x p=>Jk (M:=λx=>UE m k q fx (.Subscript l x p)) x (λx=>if h:X7 x=AD then⟨_,BN8 (T m q).item.2 (r.e m q fx fo l).2 (r.e m q fx fo x).2 λo i=> .inl (BR4 h o i)⟩else EG _)
  (slc:=λlo hi st _=>match st with
   |none=>⟨_,BN5 (T m q).slice.2 (r.e m q fx fo l).2 (uH r fo m q lo).2 (uH r fo m q hi).2⟩
   |_=>EG _))
 (tup:=λes _ _=>⟨_,BO0 (OB r fo m q es).2⟩)
 (lst:=λes pos=>if N.chg pos then⟨_,BM8 (OB r fo m q es).2⟩else⟨_,BM1 (OB r fo m q es).2⟩)
 (dic:=λks es pos=>match ks,es with
  |[],[]=>if N.chg pos then⟨_,BL2⟩else⟨_,BL0⟩
  |a::ks,es=>if h:(a::ks).all (·.isSome)=AC/\(a::ks).length=es.length/\(a::ks).length<=15 then(if N.chg pos then⟨_,BL1 (gM r fo AD q (a::ks) es).2 h.1 h.2.1 nofun h.2.2⟩else⟨_,BK9 (gM r fo AD q (a::ks) es).2 h.1 h.2.1 nofun h.2.2⟩)else EG _
  |_,_=>EG _)
 (att:=λe a p=>HH (M:=λe=>UE m k q fx (.Attribute e a p)) e (λ_=>EG _) (name:=λn p1=>(N.fd a).elim (EG _) λx=>⟨_,BJ9 x.2 (r.e m q fx fo (.Name n p1)).2⟩))
 (call:=λf es kws pos=>(BW6 N r fo m q (.Call f es kws pos)).getD ((BW5 r fo m q (.Call f es kws pos)).getD (BV4 N T r fo m q f es kws pos)))
noncomputable def BV2(m q:Bool)(es:List Ab)(pos:BK):UT m k q fx (.BoolOp .And es pos):=LM (motive:=λes=>UT m k q fx (.BoolOp .And es pos)) ⟨_,BJ5⟩ (λx es ih=>⟨_,BJ4 (r.t m q fx fo x).2 ih.2⟩) es
noncomputable def uOr(m q:Bool)(es:List Ab)(pos:BK):UT m k q fx (.BoolOp .Or es pos):=LM (motive:=λes=>UT m k q fx (.BoolOp .Or es pos)) ⟨_,BN0⟩ (λx es ih=>⟨_,BM9 (r.t m q fx fo x).2 ih.2⟩) es
noncomputable def uI(m q:Bool)(e:Ab):UT m k q fx e:=if h:nj e=AC then⟨_,tM (r.e m q fx fo e).2 (bX h)⟩else TQ _
noncomputable def uT(m q:Bool)(e:Ab):UT m k q fx e:=Jk (M:=λe=>UT m k q fx e) e (uI r fo m q)
 (bop:=λop es pos=>match op with
  | .And=>BV2 r fo m q es pos
  | .Or=>uOr r fo m q es pos)
 (un:=λop x _=>match op with
  | .Not=>⟨_,BM7 (r.t m q fx fo x).2⟩
  |_=>TQ _)
 (cmp:=λl Dc xs _=>match Dc,xs with
  |[op],[x]=>if h:RD op x=AD then⟨_,BK7 (r.e m q fx fo l).2 (r.e m q fx fo x).2 ((T m q).cmp op).2 h⟩else TQ _
  |_,_=>TQ _)
 (call:=λf es kws pos=>HH (M:=λf=>UT m k q fx (.Call f es kws pos)) f (λf=>uI r fo m q (.Call f es kws pos))
  (att:=λx n p1=>if n="search" then⟨_,BM2 (r.e m q fx fo (.Call (.Attribute x n p1) es kws pos)).2 (bX rfl)⟩else⟨_,tM (r.e m q fx fo (.Call (.Attribute x n p1) es kws pos)).2 (bX rfl)⟩))
noncomputable def BW9(m q:Bool)(es:List Ab):Option {d:FQ//NJ m k q fx es d}:=LM (motive:=λes=>Option {d:FQ//NJ m k q fx es d}) (AA ⟨_,BI3⟩) (λe es ih=>if h:IL e=AD then ih.map λx=>⟨_,BI2 (r.g m q fx fo e).2 x.2 (mo h es)⟩else AB) es
theorem Ba5{m q:Bool}{es:List Ab}{kd:Nat}{pos:BK}{d:FQ}(h:q=AC)(x:NJ m k q fx es d):DU m k q fx (.Tuple es kd pos) (DA es.length d):=by
 cases h
 exact BI1 x
noncomputable def uG(m q:Bool)(e:Ab):UG m k q fx e:=Jk (M:=λe=>UG m k q fx e) e P5
 (name:=λn pos=>if h:fx.sc[fx.sc.findIdx (·== .loc n)]? =AA (.loc n)then⟨AX _,BH9 fo _ h⟩else if h:fx.sc[fx.sc.findIdx (·== .cel n)]? =AA (.cel n)/\fx.fn=AC then⟨AX _,BH8 fo h.2 _ h.1⟩else P5 _)
 (tup:=λes kd pos=>if h:q=AC then(BW9 r fo m q es).elim (P5 _) λx=>⟨DA es.length x.1,Ba5 h x.2⟩else P5 _)
 (sub:=λl x pos=>⟨_,BI0 (r.e m q fx fo l).2 (r.e m q fx fo x).2⟩)
 (att:=λe n pos=>(N.fd n).elim (P5 _) λx=>⟨_,BH7 x.2 (r.e m q fx fo e).2⟩)
end
noncomputable section
variable(N:SP){k:Nat}(T:(m q:Bool)->WN m k q)(r:Rc k){fx:Fx}(fo:Dp fx)
noncomputable def uB(m q:Bool)(ss:List Bd):{d:DS//Dy m k q fx ss d}:=LM (motive:=λss=>{d:DS//Dy m k q fx ss d}) ⟨_,BH6⟩ (λs ss ih=>⟨_,BH5 (r.s m q fx fo s).2 ih.2⟩) ss
noncomputable def uNs(m q:Bool)(ns:List AQ):Option {d:FQ//NK m k q fx ns d}:=LM (motive:=λns=>Option {d:FQ//NK m k q fx ns d}) (AA ⟨_,BI8⟩) (λn ns ih=>if h:fx.sc[fx.sc.findIdx (·== .loc n)]? =AA (.loc n)then ih.map λx=>⟨_,BI7 fo _ h x.2⟩else AB) ns
theorem BU1{e:Ab}{es:List Ab}{kd:Nat}{p:BK}(l:Nat)(env:A7):Mp [.Tuple es kd p] e l env=Ax AD:=by cases e<;>rfl
section
variable{m q:Bool}{t i x e DF:Ab}{ss:List Bd}{es elts:List Ab}{ifs:List Ab}{s:ER}{pos p1 p2 cp tp px:BK}{kd:Nat}{n:AQ}{a:Int}{di de da:D}{dt:DT}{dg RN:DG}{db:DS}{names:List AQ}{dn:FQ}{v:AE}{dl:DL}{ns:List AQ}{h:IY}{cs:List IY}{hc:List HC}
theorem BZ7(h:q=AC/\N7 i=AD)(hi:Aj m k q fx i di)(hg:DU m k q fx t dg)(hb:Dy m k q fx ss db):DV m k q fx (.For t i ss [] pos) (EX (eH t) di dg db):=by
 cases h.1
 exact BL4 hi hg hb (QO h.2)
theorem Ba8(h:q=AC)(ht:Eh m k q fx e dt)(hb:Dy m k q fx ss db):DV m k q fx (.While e ss [] pos) (IQ dt db W1):=by
 cases h
 exact BO2 W1 ht hb
theorem Ba7(h:Kc q fx s i a)(hw:MN (Mp [.Name n px] (.ListComp DF [⟨t,i,ifs,a⟩] s cp) pos.line (Iy fx))=AA AC)(hi:Aj AD k AC fx i di)(hg:DU AD k AC (A8 fx s) t dg)(ht:H7 AD k AC (A8 fx s) ifs dt)(he:Aj AD k AC (A8 fx s) DF de)(hx:DU AD k AC fx (.Name n px) RN):
  DV m k q fx (.Assign [.Name n px] (.ListComp DF [⟨t,i,ifs,a⟩] s cp) pos) (Ar (CL (QT fx s) (.list []) di dg dt (CC de)) RN):=by
 cases h.a
 exact mu h.q (BJ7 (Wa h.c) hi hg ht (cR he) hx (λenv he=>(th (x:= .Name n px) he).trans (Xx hw)) (QO h.st))
theorem Ba3(h:q=AC/\MN (Mo [.Tuple es kd p1] e (Iy fx))=AA (AA names))(ha:Aj m k q fx e da)(hb:NK m k q fx names.reverse dn):DV m k q fx (.Assign [.Tuple es kd p1] e pos) (Ar da (L_ names.reverse.length dn)):=by
 cases h.1
 exact BJ8 ha hb (λenv he=>(tf he).trans (Xx h.2)) rfl λenv=>BU1 pos.line env
theorem BZ6(h:q=AC/\v= .type "enumerate"/\ns=[])(hx:Aj m k q fx (.Name n p1) (AG (.top v)))(ha:H6 m k q fx p2 [e] [] ns dl)(hg:DU m k q fx (.Tuple elts kd tp) dg)(hb:Dy m k q fx ss db):DV m k q fx (.For (.Tuple elts kd tp) (.Call (.Name n p1) [e] [] p2) ss [] pos) (NU dl dg db):=by
 cases h.1
 exact BL5 (bD h.2.1 hx) (mr h.2.2 ha) hg hb λ_ _=>rfl
theorem Ba0(w:SR v)(h:q=AC/\IL e=AD)(hx:Aj AD k AC fx (.Name n p1) (AG (.top v)))(ha:Aj AD k AC fx e da):DV m k q fx (.Raise (AA (.Call (.Name n p1) [e] [] p2)) AB pos) (HF v da):=
 mu h.1 (BN2 w hx ha (λenv=>gB h.2 [] env) λenv=>gA (by simp only[UY,h.2];rfl) env p2)
theorem Ba4(c:q=AC/\fx.fn=AC)(hb:Dy m k q fx ss db)(hh:Kj k fx (h::cs) hc):DV m k q fx (.Try ss (h::cs) [] [] pos) (NY db hc):=by
 cases c.1
 exact BN9 c.2 hb hh
end
noncomputable def BX1(m q:Bool)(x e:Ab)(pos:BK):US m k q fx (.Assign [x] e pos):=S6 (M:=λx=>US m k q fx (.Assign [x] e pos)) x (λ_=>DJ _) (name:=λn px=>S6 (M:=λe=>US m k q fx (.Assign [.Name n px] e pos)) e (λ_=>DJ _) (lc:=λDF g s cp=>match g with
 |[⟨t,i,ifs,a⟩]=>if h:Kc q fx s i a/\MN (Mp [.Name n px] (.ListComp DF [⟨t,i,ifs,a⟩] s cp) pos.line (Iy fx))=AA AC then⟨_,Ba7 h.1 h.2 (r.e AD AC fx fo i).2 (r.g AD AC _ (CD h.1.f) t).2 (gN r (CD h.1.f) ifs).2 (r.e AD AC _ (CD h.1.f) DF).2 (r.g AD AC fx fo (.Name n px)).2⟩else DJ _
 |_=>DJ _))
noncomputable def BW8(m q:Bool)(x e:Ab)(pos:BK)(names:List AQ):US m k q fx (.Assign [x] e pos):=S6 (M:=λx=>US m k q fx (.Assign [x] e pos)) x (λ_=>DJ _) (tup:=λes kd p1=>(uNs fo m q names.reverse).elim (DJ _) λb=>if h:q=AC/\MN (Mo [.Tuple es kd p1] e (Iy fx))=AA (AA names)then⟨_,Ba3 h (r.e m q fx fo e).2 b.2⟩else DJ _)
noncomputable def BV3(m q:Bool)(x e:Ab)(pos:BK):US m k q fx (.Assign [x] e pos):=match MN (Mo [x] e (Iy fx))with
 |some (AA names)=>BW8 r fo m q x e pos names
 |_=>if h:MN (Mo [x] e (Iy fx))=AA AB/\MN (Mp [x] e pos.line (Iy fx))=AA AD/\IL x=AD then⟨_,BJ6 (r.e m q fx fo e).2 (r.g m q fx fo x).2 (λenv he=>(th he).trans (Xx h.2.1)) (λenv he=>(tf he).trans (Xx h.1)) λenv=>mo h.2.2 [] env⟩else BX1 r fo m q x e pos
noncomputable def BV8(m q:Bool)(t i:Ab)(ss:List Bd)(pos:BK):US m k q fx (.For t i ss [] pos):=if h:q=AC/\N7 i=AD then⟨_,BZ7 h (r.e m q fx fo i).2 (r.g m q fx fo t).2 (uB r fo m q ss).2⟩else DJ _
noncomputable def BV7(m q:Bool)(t i:Ab)(ss:List Bd)(pos:BK):Option (US m k q fx (.For t i ss [] pos)):=S6 (M:=λt=>Option (US m k q fx (.For t i ss [] pos))) t (λ_=>AB) (tup:=λelts kd tp=>HH (M:=λi=>Option (US m k q fx (.For (.Tuple elts kd tp) i ss [] pos))) i (λ_=>AB) (call:=λf es ks p2=>match es,ks with
 |[e],[]=>HH (M:=λf=>Option (US m k q fx (.For (.Tuple elts kd tp) (.Call f [e] [] p2) ss [] pos))) f (λ_=>AB) (name:=λn p1=>(QV N fo n).bind λx=>(YL r fo m q p2 [e] []).bind λa=>if h:q=AC/\x.1= .type "enumerate"/\a.1.1=[]then AA ⟨_,BZ6 h (x.2 _ _ _) a.2 (r.g m q fx fo (.Tuple elts kd tp)).2 (uB r fo m q ss).2⟩else AB)
 |_,_=>AB))
noncomputable def BW4(m q:Bool)(e:Ab)(pos:BK):US m k q fx (.Raise (AA e) AB pos):=HH (M:=λe=>US m k q fx (.Raise (AA e) AB pos)) e (λ_=>DJ _) (call:=λf es ks p2=>match es,ks with
 |[e],[]=>HH (M:=λf=>US m k q fx (.Raise (AA (.Call f [e] [] p2)) AB pos)) f (λ_=>DJ _) (name:=λn p1=>(QV N fo n).elim (DJ _) λx=>(N.rs x.1).elim (DJ _) λw=>if h:q=AC/\IL e=AD then⟨_,Ba0 w.down h (x.2 _ _ _) (r.e AD AC fx fo e).2⟩else DJ _)
 |_,_=>DJ _)
noncomputable def BW7(name:Option AQ)(ss:List Bd)(mt:AE->Option Bool):Option {h:HC//(h.mt=mt)/\WM k fx name ss h}:=match name,ss with
 |none,s::ss=>AA ⟨⟨mt,AB,(uB r fo AD AD (s::ss)).1⟩,rfl,BR6 (uB r fo AD AD (s::ss)).2⟩
 |some n,s::ss=>if h:fx.sc[fx.sc.findIdx (·== .loc n)]? =AA (.loc n)then AA ⟨⟨mt,AA (fx.sc.findIdx (·== .loc n)),(uB r fo AD AD (s::ss)).1⟩,rfl,BR5 fo _ h (uB r fo AD AD (s::ss)).2⟩else AB
 |_,_=>AB
noncomputable def BV9(hs:List IY):Option {x:List HC//Kj k fx hs x}:=LM (motive:=λhs=>Option {x:List HC//Kj k fx hs x}) (AA ⟨[],BI5⟩) (λh rest ih=>ih.bind λy=>match h with
 |⟨AB,_,_,_⟩=>AB
 |⟨AA t,name,ss,pos⟩=>HH (M:=λt=>Option {x:List HC//Kj k fx (⟨AA t,name,ss,pos⟩::rest) x}) t (λ_=>AB) (name:=λn p=>(QV N fo n).bind λx=>(N.mt x.1).bind λf=>(BW7 r fo name ss f.1).map λh=>⟨h.1::y.1,BI4 (x.2 _ _ _) (λc b e=>f.2 c b ((congrFun h.2.1 c).symm.trans e)) h.2.2 y.2⟩)) hs
noncomputable def BX0(m q:Bool)(ss:List Bd)(h:IY)(cs:List IY)(pos:BK):US m k q fx (.Try ss (h::cs) [] [] pos):=(BV9 N r fo (h::cs)).elim (DJ _) λx=>if c:q=AC/\fx.fn=AC then⟨_,Ba4 c (uB r fo m q ss).2 x.2⟩else DJ _
noncomputable def uS(m q:Bool)(s:Bd):US m k q fx s:=gC (M:=λs=>US m k q fx s) s DJ
 (ret:=λe _=>match e with
  |some e=>⟨_,BN4 (r.e m q fx fo e).2⟩
  |none=>DJ _)
 (asg:=λts e pos=>match ts with
  |[x]=>BV3 r fo m q x e pos
  |_=>DJ _)
 (aug:=λx op e pos=>S6 (M:=λx=>US m k q fx (.AugAssign x op e pos)) x (λ_=>DJ _) (name:=λn p1=>if h:fx.sc[fx.sc.findIdx (·== .loc n)]? =AA (.loc n)then⟨_,BK0 fo _ h (r.e m q fx fo e).2 ((T m q).aug op).2⟩else DJ _)
  (sub:=λl x p1=>if h:X7 x=AD then⟨_,BK1 (r.e m q fx fo l).2 (r.e m q fx fo x).2 (r.e m q fx fo e).2 ((T m q).aug op).2 (AL4 h)⟩else DJ _))
 (fr:=λt i ss es pos=>match es with
  |[]=>(BV7 N r fo m q t i ss pos).getD (BV8 r fo m q t i ss pos)
  |_=>DJ _)
 (whl:=λe ss es pos=>match es with
  |[]=>if h:q=AC then⟨_,Ba8 h (r.t m q fx fo e).2 (uB r fo m q ss).2⟩else DJ _
  |_=>DJ _)
 (ifs:=λx ss Im _=>⟨_,BL7 (r.t m q fx fo x).2 (uB r fo m q ss).2 (uB r fo m q Im).2⟩)
 (brk:=λ_=>⟨_,BK3⟩)
 (pas:=λ_=>⟨_,BN1⟩)
 (exp:=λe pos=>if h:U5 (Iy fx)=AD/\nZ e=AD then⟨_,BL3 (r.e m q fx fo e).2 (λenv he=>(An6 he).trans h.1) λenv=>Aa3 h.2 _ env⟩else DJ _)
 (tri:=λss hs es fs pos=>match hs,es,fs with
  |h::cs,[],[]=>BX0 N r fo m q ss h cs pos
  |_,_,_=>DJ _)
 (rai:=λe c pos=>match e,c with
  |some e,AB=>BW4 N r fo m q e pos
  |_,_=>DJ _)
noncomputable def rc(n:Nat):Rc k:=Y0 ⟨λ_ _ _ _=>EG,λ_ _ _ _=>TQ,λ_ _ _ _=>P5,λ_ _ _ _=>DJ⟩ (λ_ r=>⟨λm q _ fo=>uE N T r fo m q,λm q _ fo=>uT T r fo m q,λm q _ fo=>uG N r fo m q,λm q _ fo=>uS N T r fo m q⟩) n
end
noncomputable section
noncomputable abbrev KW:Frag:=K5 w.params
noncomputable def Sz(a:AK):Array GF:=match KW.lookup a with
 |some ⟨_,_, .dict es _,_⟩=>es
 |_=> #[]
theorem A09{h:BS}{a:AK}{m:AQ->Option AE}(x:h.Ns a m)(k:KW.In h){c:AE}{d:Option AK}{es:Array GF}{ep:Nat}{sl}(e:KW.lookup a=AA ⟨c,d, .dict es ep,sl⟩)(n:AQ):m n=J9 es n:=by
 refine Hr (x) λo Lf RP AA9=>?_
 obtain⟨h1,h2,_,h3⟩:=AA9
 cases D0 h1 (k a _ e)
 cases h2
 exact(h3 n).symm
noncomputable def YD(es:Array GF):Bool:=es.toList.all λe=>match e.key with
 | .str _ _=>AC
 |_=>AD
theorem BQ5{es:Array GF}(h:YD es=AC):StrKeys es:=λe he=>by
 have:=FF.mp h e (uv.mpr he)
 revert this
 cases e.key with
 |str n t=>exactλ_=>⟨n,t,rfl⟩
 |_=>exactλz=>absurd z C2
theorem Xa{a:AK}{c:AE}{d:Option AK}{es:Array GF}{ep:Nat}{sl}(e:KW.lookup a=AA ⟨c,d, .dict es ep,sl⟩)(hs:YD es=AC):BH.heap.Ns a (λn=>J9 es n):=⟨_,es,ep,KX a _ e,rfl,BQ5 hs,λ_=>rfl⟩
noncomputable def Ab7:Array GF:=Sz 294
noncomputable def Ab6:Array GF:=Sz 112
noncomputable def nH(n:AQ):Option AE:=J9 Ab7 n
noncomputable def nT(n:AQ):Option AE:=J9 Ab6 n
theorem eV(n:AQ):mg n=J9 (Sz 3) n:=A09 TF.g KX (a:=3) rfl n
theorem bR:SA 295 nH:=⟨⟨294,_,_,_,_,_,_,_,_,_,_,_,_,KX 295 _ rfl,Xa (a:=294) rfl (by kernel_rfl)⟩,by kernel_rfl,by kernel_rfl,by kernel_rfl⟩
theorem bS:SA 113 nT:=⟨⟨112,_,_,_,_,_,_,_,_,_,_,_,_,KX 113 _ rfl,Xa (a:=112) rfl (by kernel_rfl)⟩,by kernel_rfl,by kernel_rfl,by kernel_rfl⟩
theorem ifH:PN 295 nH "_headers":=⟨bR,by kernel_rfl,by rfl⟩
theorem ifT:PN 113 nT "comp_select_list":=⟨bS,by kernel_rfl,by rfl⟩
theorem Ps{f:AK}{n:AQ}(h:nH n=AA (.ref f))(hf:∃o,KW.lookup f=AA o/\o.cls= .type "function")(hb:∃y,JS (.type "object") n=Ax y):PO 295 nH n f:=⟨bR,h,hf.imp λ_ h=>⟨KX _ _ h.1,h.2⟩,hb⟩
theorem imT:PO 113 nT "compare" 110:=⟨bS,by kernel_rfl,⟨_,KX 110 _ rfl,rfl⟩,⟨_,rfl⟩⟩
theorem um{C E M:AK}{es Lf:Array GF}{nm q bs hdct sn sub ab col dd k0 k1 k2 k3 k5}{c0:AE}{d0 cd sl c d ep sl' c' d' RP AE4}(h1:KW.lookup C=AA (i7 nm q C M bs [.ref E, .type "Exception", .type "BaseException", .type "object"] hdct sn sub ab col dd k0 k1 k2 k3 k5 "Exception.__new__"))
  (h2:KW.lookup M=AA ⟨c,d, .dict es ep,sl⟩) (h3:YD es=AC) (h4:KW.lookup E=AA ⟨c0,d0, .cls cd,sl'⟩) (h5:KW.lookup cd.ns=AA ⟨c',d', .dict Lf RP,AE4⟩) (h6:YD Lf=AC) (h7:J9 es "__init__"=AB) (h8:J9 Lf "__init__"=AB):SF C:=
 ⟨⟨nm,q,M,bs,_,hdct,sn,sub,ab,col,dd,k0,k1,k2,k3,k5,_,_,_,_,_,KX _ _ h1,Xa h2 h3, .own (KX _ _ h4) (Xa h5 h6) h8 .base,PySem.F.excBase_Exception,rfl,h7⟩⟩
theorem x61:SF 61:=um rfl rfl (by kernel_rfl) rfl rfl (by kernel_rfl) (by kernel_rfl) (by kernel_rfl)
theorem x73:SF 73:=um rfl rfl (by kernel_rfl) rfl rfl (by kernel_rfl) (by kernel_rfl) (by kernel_rfl)
theorem A33:G' BH.heap 150 IA:= .mk _ _ _ _ _ _ (KX 150 _ rfl) rfl rfl rfl (by kernel_rfl) (by kernel_rfl) rfl (KX _ _ rfl) rfl (by kernel_rfl)
theorem A34:G' BH.heap 155 Iw:= .mk _ _ _ _ _ _ (KX 155 _ rfl) rfl rfl rfl (by kernel_rfl) (by kernel_rfl) rfl (KX _ _ rfl) rfl (by kernel_rfl)
theorem A35:G' BH.heap 167 Pb:= .mk _ _ _ _ _ _ (KX 167 _ rfl) rfl rfl rfl (by kernel_rfl) (by kernel_rfl) rfl (KX _ _ rfl) rfl (by kernel_rfl)
theorem A36:G' BH.heap 172 Ks:= .mk _ _ _ _ _ _ (KX 172 _ rfl) rfl rfl rfl (by kernel_rfl) (by kernel_rfl) rfl (KX _ _ rfl) rfl (by kernel_rfl)
theorem BQ9:∀C∈[61,73],findIn KW (.ref C) "__str__"=AA (AA (.builtin "BaseException.__str__"))/\mroIn KW C (.type "BaseException")=AA AC:=Ht.mpr ⟨⟨rfl,rfl⟩,Ht.mpr ⟨⟨rfl,rfl⟩,(λ_ h=>absurd h D9)⟩⟩
noncomputable def IH(b1 b2 b3:Bool)(c:AE):Option Bool:=if c= .ref 61 then AA b1 else if c= .ref 73 then AA b2 else if c= .type "ValueError" then AA b3 else AB
theorem d6{b1 b2 b3:Bool}{v:AE}(h1:Q9 KW (.ref 61) v=AA b1)(h2:Q9 KW (.ref 73) v=AA b2)(h3:Q9 KW (.type "ValueError") v=AA b3):∀c b,IH b1 b2 b3 c=AA b->Q9 KW c v=AA b:=λc b h=>by
 unfold IH at h
 split at h
 ·rename_i e;rw[e,h1];exact h
 ·split at h
  ·rename_i e;rw[e,h2];exact h
  ·split at h
   ·rename_i e;rw[e,h3];exact h
   ·cases h
noncomputable def BQ7:AE->Bool
 | .str _ _=>AC
 |_=>AD
noncomputable def N4(chg:BK->Bool):SP where
 nm n:=match h:J9 (Sz 3) n with
  |some v=>if BQ7 v=AC then AB else AA ⟨v, .inl ((eV n).trans h)⟩
  |none=>match h':ZE n with
   |some v=>if hn:n≠"__name__" then AA ⟨v, .inr ⟨(eV n).trans h,h',hn⟩⟩else AB
   |none=>AB
 tx n:=match h:J9 (Sz 3) n with
  |some (.str x t)=>AA ⟨x,t,(eV n).trans h⟩
  |_=>AB
 fd n:=if h:n="_headers" then AA ⟨(295,nH),h▸ifH⟩else if h:n="comp_select_list" then AA ⟨(113,nT),h▸ifT⟩else AB
 rs v:=if h:v= .ref 61 then AA ⟨h▸x61.raise⟩else if h:v= .ref 73 then AA ⟨h▸x73.raise⟩else if h:v= .type "ValueError" then AA ⟨h▸BC1⟩else AB
 mt v:=if h:v= .ref 61 then AA ⟨IH AC AD AD,h▸d6 rfl rfl rfl⟩else if h:v= .ref 73 then AA ⟨IH AD AC AD,h▸d6 rfl rfl rfl⟩else if h:v= .type "ValueError" then AA ⟨IH AD AD AC,h▸d6 rfl rfl rfl⟩else AB
 chg:=chg
end
noncomputable section
structure L0(lev:Nat)(mm qq:Bool)(m:Bool)(k:Nat)(q:Bool):Prop where
 k:lev<=k
 m:mm=AC->m=AC
 q:qq=AC->q=AC
instance {lev:Nat} {mm qq m:Bool} {k:Nat} {q:Bool}:Decidable (L0 lev mm qq m k q):=decidable_of_iff (lev<=k/\(mm=AC->m=AC)/\(qq=AC->q=AC)) ⟨λ⟨a,b,c⟩=>⟨a,b,c⟩,λ⟨a,b,c⟩=>⟨a,b,c⟩⟩
structure ED where
 v:AE
 ns:List AQ
 g:PG
 lev:Nat
 mm:Bool
 qq:Bool
 ok:∀m k q,L0 lev mm qq m k q->G_ v/\Bi m k q v ns g
structure Ir where
 n:AQ
 ns:List AQ
 x:Me
 lev:Nat
 mm:Bool
 qq:Bool
 ok:∀m k q,L0 lev mm qq m k q->DH m k q n x.is x.fv ns x.g
noncomputable def Ag7(m:Bool)(k:Nat)(q:Bool)(v:AE)(ns:List AQ)(l:List ED):Option {g:PG//G_ v/\Bi m k q v ns g}:=LM (motive:=λ_=>Option {g:PG//G_ v/\Bi m k q v ns g}) AB (λe _ ih=>if h:e.v=v/\e.ns=ns/\L0 e.lev e.mm e.qq m k q then AA ⟨e.g,h.1▸h.2.1▸e.ok m k q h.2.2⟩else ih) l
theorem Ah1{m:Bool}{k:Nat}{q:Bool}{n:AQ}{ns:List AQ}{e:Ir}{l:List Me}(h:e.n=n/\e.ns=ns/\L0 e.lev e.mm e.qq m k q)(ih:∀x∈l,DH m k q n x.is x.fv ns x.g):∀x∈e.x::l,DH m k q n x.is x.fv ns x.g:=Ht.mpr ⟨h.1▸h.2.1▸e.ok m k q h.2.2,ih⟩
noncomputable def Ag9(m:Bool)(k:Nat)(q:Bool)(n:AQ)(ns:List AQ)(l:List Ir):{l:List Me//∀x∈l,DH m k q n x.is x.fv ns x.g}:=LM (motive:=λ_=>{l:List Me//∀x∈l,DH m k q n x.is x.fv ns x.g}) ⟨[],λ_ h=>absurd h D9⟩ (λe _ ih=>if h:e.n=n/\e.ns=ns/\L0 e.lev e.mm e.qq m k q then⟨e.x::ih.1,Ah1 h ih.2⟩else ih) l
theorem Bi.le{m:Bool}{k k':Nat}{q:Bool}{f:AE}{ns:List AQ}{g:PG}(h:Bi m k q f ns g)(hk:k<=k'):Bi m k' q f ns g:=λA σ cs vs ks hR=>h A σ cs vs ks (hR.le hk)
noncomputable def PQ(v:AE)(g:PG)(hk:G_ v)(h:∀m k q,BA m k q (λvs=>call v vs) g):ED:=⟨v,[],g,0,AD,AD,λm k q _=>⟨hk,(h m k q).callP⟩⟩
noncomputable def qE(v:AE)(g:PG)(hk:G_ v)(h:∀m k,BA m k AC (λvs=>call v vs) g):ED:=⟨v,[],g,0,AD,AC,λm k q u=>⟨hk,by cases u.q rfl;exact(h m k).callP⟩⟩
noncomputable def Gl(n:AQ)(is:AL->CV->Bool)(id:String)(g:PG)(h:∀m k q,DH m k q n is (.builtin id) [] g):Ir:=⟨n,[],⟨is, .builtin id,g⟩,0,AD,AD,λm k q _=>h m k q⟩
noncomputable def cT:List ED:=[PQ (.builtin "len") Ho MB λ_ _ _=>bL,PQ (.type "str") (BP Xn (fP [61,73])) Nn λ_ _ _=> .alt call_str (AR3 BQ9),PQ (.builtin "isinstance") Xh MB λ_ _ _=>AQ7,PQ (.type "type") TY Nn λ_ _ _=>AR5,qE (.builtin "sum") N1 MB λ_ _=>AR4,PQ (.type "range") Ny Nn λ_ _ _=>AR0,PQ (.builtin "sorted") fM MB λ_ _ _=>AR2,qE (.type "list") Xk Nn λ_ _=>AQ9,⟨.type "int",[],fG,0,AC,AC,λm k q u=>⟨Nn,by cases u.q rfl;cases u.m rfl;exact AQ5.callP⟩⟩]
noncomputable def Kw:List Ir:=[Gl "find" FA _ fF λ_ _ _=>Aw8,Gl "startswith" FA _ fN λ_ _ _=>Ax4,Gl "endswith" FA _ fE λ_ _ _=>Aw7,Gl "lower" FA _ Xl λ_ _ _=>Ax1,Gl "split" FA _ N0 λ_ _ _=>Ax3,Gl "join" FA _ Xj λ_ _ _=>Ax0,Gl "append" K4 _ Nw λ_ _ _=>Aw6,Gl "pop" K4 _ Xm λ_ _ _=>Ax2,Gl "items" Pv _ Xi λ_ _ _=>Aw9,Gl "values" Pv _ fR λ_ _ _=>Ax6,Gl "update" eE _ fQ λ_ _ _=>Ax5,Gl "sub" (FY (FW 150)) _ (MJ F1 150) λ_ _ _=>qu A33 λ_ h=>Ah2 h,Gl "sub" (FY (FW 155)) _ (MJ F2 155) λ_ _ _=>qu A34 λ_ h=>Ah3 h,Gl "search" (FY (FW 167)) _ (Nz EW 167) λ_ _ _=>qt A35 A15,Gl "search" (FY (FW 172)) _ (Nz F8 172) λ_ _ _=>qt A36 A16]
noncomputable def BR7(m:Bool)(k:Nat)(q:Bool):(op:LU)->{g:PG//BA m k q (II op) g}
 | .Add=>⟨Ai,A49⟩
 | .Sub=>⟨TX,A68⟩
 | .Mult=>⟨FD,A62⟩
 | .FloorDiv=>⟨EJ,A50⟩
 | .Mod=>⟨BP fI fJ, .alt A60 A61⟩
 | .Pow=>⟨LB,A67⟩
 |_=>⟨λ_ _=> .no,λ_ _ _ _ _ _ _ hn=>absurd rfl hn⟩
noncomputable def BR8(m:Bool)(k:Nat)(q:Bool)(ni:Option {g:PG//BA m k q (GA .NotIn) g}):(op:CmpOp)->{g:PG//BA m k q (GA op) g}
 | .Eq=>⟨BV,A51⟩
 | .NotEq=>⟨Dq,A64⟩
 | .Lt=>⟨Js,A59⟩
 | .Gt=>⟨TV,A53⟩
 | .GtE=>⟨Xf,A52⟩
 | .Is=>⟨Nx,A57⟩
 | .IsNot=>⟨TW,A58⟩
 | .In=>⟨IJ,A56⟩
 | .NotIn=>ni.elim ⟨MH AC,rq⟩ λx=>⟨BP (MH AC) x.1, .alt rq x.2⟩
 |_=>⟨λ_ _=> .no,λ_ _ _ _ _ _ _ hn=>absurd rfl hn⟩
noncomputable def tab(es:List ED)(ms:List Ir)(ni:(m:Bool)->(k:Nat)->(q:Bool)->Option {g:PG//BA m k q (GA .NotIn) g})(k:Nat)(m q:Bool):WN m k q where
 call v ns:=Ag7 m k q v ns es
 meth n ns:=Ag9 m k q n ns ms
 bin:=BR7 m k q
 mul:=⟨fK,A63⟩
 un op:=match op with
  | .USub=>⟨MI,A65⟩
  |_=>⟨λ_ _=> .no,λ_ _ _ _ _ _ _ hn=>absurd rfl hn⟩
 cmp:=BR8 m k q (ni m k q)
 aug op:=match op with
  | .Add=>⟨Ed,A54⟩
  |_=>⟨λ_ _=> .no,λ_ _ _ _ _ _ _ hn=>absurd rfl hn⟩
 item:=⟨AW,ro⟩
 slice:=⟨C1,A48⟩
end
noncomputable section
noncomputable def Ck:PG:=BP fI fJ
noncomputable def HM:PG:=BP Xn (fP [61,73])
noncomputable def A00:GG:={name:="",qualname:="",params:={posonlyargs:=[],args:=[],vararg:=AB,kwonlyargs:=[],kw_defaults:=[],kwarg:=AB,defaults:=[]},body:= .stmts [],scope:={kind:= .function,names:=[],isGenerator:=AD,isCoroutine:=AD},globals:=0,closure:=[],defaults:= .none,kwdefaults:= .none,pyModule:= .none,code:= .none}
noncomputable def Bc(a:AK):GG:=match KW.lookup a with
 |some ⟨_,_, .func fd,_⟩=>fd
 |_=>A00
noncomputable def Ba(a:AK):List Bd:=match(Bc a).body with
 | .stmts b=>b
 |_=>[]
noncomputable abbrev Aw(a:AK)(sc:List SK):Fx:={scope:=(Bc a).scope,sc:=sc}
noncomputable def qj:List Me:=[⟨FA, .builtin "str.find",fF⟩]
noncomputable def Aw0:List Me:=[⟨FA, .builtin "str.startswith",fN⟩]
noncomputable def Av7:List Me:=[⟨FA, .builtin "str.endswith",fE⟩]
noncomputable def Jq:List Me:=[⟨FA, .builtin "str.lower",Xl⟩]
noncomputable def TM:List Me:=[⟨FA, .builtin "str.split",N0⟩]
noncomputable def Av8:List Me:=[⟨FA, .builtin "str.join",Xj⟩]
noncomputable def P2:List Me:=[⟨K4, .builtin "list.append",Nw⟩]
noncomputable def Av9:List Me:=[⟨K4, .builtin "list.pop",Xm⟩]
noncomputable def eU:List Me:=[⟨Pv, .builtin "dict.items",Xi⟩]
noncomputable def Aw1:List Me:=[⟨Pv, .builtin "dict.values",fR⟩]
noncomputable def qn:List Me:=[⟨eE, .builtin "dict.update",fQ⟩]
noncomputable def qm:List Me:=[⟨FY (FW 150), .builtin "re.Pattern.sub",MJ F1 150⟩,⟨FY (FW 155), .builtin "re.Pattern.sub",MJ F2 155⟩]
noncomputable def XO:List Me:=[⟨FY (FW 167), .builtin "re.Pattern.search",Nz EW 167⟩,⟨FY (FW 172), .builtin "re.Pattern.search",Nz F8 172⟩]
noncomputable def T7:List SK:=[.loc "resp", .loc "peer", .loc "left", .loc "right", .loc "parts", .loc "host", .loc "port"]
noncomputable def AX2:DS:=(Br (Aq (AJ Dq (DY C1 (AF 0) (AG .none) (AG (.int 3))) (AG (.str [50,50,57])))) (AM (HF (.ref 61) (AF 0))
  AZ) AZ)
noncomputable def AX3:DS:=(Ar (BC qj (AF 0) (AH (AG (.str [40])) AP)) (AX 2))
noncomputable def AX5:DS:=(Br (Aq (AJ Js (AF 2) (AG (.int 0)))) (AM (HF (.ref 73) (AF 0))
  AZ) AZ)
noncomputable def AX6:DS:=(Ar (BC qj (AF 0) (AH (AG (.str [41])) (AH (AJ Ai (AF 2) (AG (.int 1))) AP))) (AX 3))
noncomputable def AX7:DS:=(Br (Aq (AJ Js (AF 3) (AG (.int 0)))) (AM (HF (.ref 73) (AF 0))
  AZ) AZ)
noncomputable def AX8:DS:=(Br (Aq (AJ Dq (AJ AW (AF 0) (AJ Ai (AF 2) (AG (.int 1)))) (AJ AW (AF 0) (AJ TX (AF 3) (AG (.int 1)))))) (AM (HF (.ref 73) (AF 0))
  AZ) AZ)
noncomputable def AX9:DS:=(Ar (BC TM (DY C1 (AF 0) (AJ Ai (AF 2) (AG (.int 1))) (AF 3)) (AH (AJ AW (AF 0) (AJ Ai (AF 2) (AG (.int 1)))) AP)) (AX 4))
noncomputable def AY0:DS:=(Br (Aq (AJ Dq (A_ Ho (AH (AF 4) AP)) (AG (.int 5)))) (AM (HF (.ref 73) (AF 0))
  AZ) AZ)
noncomputable def AY1:DS:=(Ar (AJ AW (AF 1) (AG (.int 0))) (AX 5))
noncomputable def AY2:DS:=(Ar (A_ fG (AH (AJ AW (AF 4) (AG (.int 3))) AP)) (AX 6))
noncomputable def AX4:DS:=(Bb (A2 (AH (AF 5) (AH (AF 6) AP))))
noncomputable def BA9:DS:=AM AX4 AZ
noncomputable def BB3:DS:=AM AY2 BA9
noncomputable def BB2:DS:=AM AY1 BB3
noncomputable def sV:DS:=AM AY0 BB2
noncomputable def BB1:DS:=AM AX9 sV
noncomputable def sU:DS:=AM AX8 BB1
noncomputable def fY:DS:=AM AX7 sU
noncomputable def BB0:DS:=AM AX6 fY
noncomputable def sT:DS:=AM AX5 BB0
noncomputable def BA8:DS:=AM AX3 sT
noncomputable def BA7:DS:=AM AX2 BA8
noncomputable def Nb:DS:=BA7
noncomputable def F':PG:=CM (Aw 82 T7) ["resp","peer"] [] Nb
noncomputable def T8:List SK:=[.loc "resp", .loc "dirname", .loc "i", .loc "n", .loc "c"]
noncomputable def AY3:DS:=(Br (Aq (AJ Dq (DY C1 (AF 0) (AG .none) (AG (.int 3))) (AG (.str [50,53,55])))) (AM (HF (.ref 61) (AF 0))
  AZ) AZ)
noncomputable def AY4:DS:=(Br (Aq (AJ Dq (DY C1 (AF 0) (AG (.int 3)) (AG (.int 5))) (AG (.str [32,34])))) (AM (Bb (AG (.str [])))
  AZ) AZ)
noncomputable def AY5:DS:=(Ar (AG (.str [])) (AX 1))
noncomputable def AY6:DS:=(Ar (AG (.int 5)) (AX 2))
noncomputable def AY7:DS:=(Ar (A_ Ho (AH (AF 0) AP)) (AX 3))
noncomputable def AY8:DS:=(IQ (Aq (AJ Js (AF 2) (AF 3))) (AM (Ar (AJ AW (AF 0) (AF 2)) (AX 4))
  (AM (Ar (AJ Ai (AF 2) (AG (.int 1))) (AX 2))
  (AM (Br (Aq (AJ BV (AF 4) (AG (.str [34])))) (AM (Br (GS (Aq (AJ Xf (AF 2) (AF 3))) (GS (Aq (AJ Dq (AJ AW (AF 0) (AF 2)) (AG (.str [34])))) Pf)) (AM Wg
  AZ) AZ)
  (AM (Ar (AJ Ai (AF 2) (AG (.int 1))) (AX 2))
  AZ)) AZ)
  (AM (Ar (AJ Ai (AF 1) (AF 4)) (AX 1))
  AZ)))) W1)
noncomputable def AY9:DS:=(Bb (AF 1))
noncomputable def BC0:DS:=AM AY9 AZ
noncomputable def BB9:DS:=AM AY8 BC0
noncomputable def BB8:DS:=AM AY7 BB9
noncomputable def BB7:DS:=AM AY6 BB8
noncomputable def BB6:DS:=AM AY5 BB7
noncomputable def BB5:DS:=AM AY4 BB6
noncomputable def BB4:DS:=AM AY3 BB5
noncomputable def cH:DS:=BB4
noncomputable def I2:PG:=CM (Aw 89 T8) ["resp"] [] cH
noncomputable def Tu:List SK:=[.loc "self", .loc "comp_select_list"]
noncomputable def bn:DS:=(AM (Ar (AF 1) (dY 113 "comp_select_list" (AF 0)))
  AZ)
noncomputable def dh:PG:=CM (Aw 103 Tu) ["self","comp_select_list"] [] bn
noncomputable def Tt:List SK:=[.loc "self", .loc "left", .loc "right", .loc "index", .loc "direction", .loc "l", .loc "r"]
noncomputable def Na:DS:=(AM (EX AC (Hk 113 "comp_select_list" (AF 0)) (DA 2 (A5 (AX 3) (A5 (AX 4) CS))) (AM (Ar (AJ AW (AF 1) (AF 3)) (AX 5))
  (AM (Ar (AJ AW (AF 2) (AF 3)) (AX 6))
  (AM (Br (Aq (AJ Js (AF 5) (AF 6))) (AM (Bb (NZ MI (AF 4)))
  AZ) AZ)
  (AM (Br (Aq (AJ TV (AF 5) (AF 6))) (AM (Bb (AF 4))
  AZ) AZ)
  AZ)))))
  (AM (Bb (AG (.int 0)))
  AZ))
noncomputable def TB:PG:=CM (Aw 110 Tt) ["self","left","right"] [] Na
noncomputable def qh:List Me:=[⟨Cz 113 "compare", .ref 110,TB⟩]
noncomputable def T5:List SK:=[.loc "func_name", .loc "name"]
noncomputable def bw:DS:=(AM (Br (Aq (AJ BV (DY C1 (AF 0) (AG .none) (AG (.int 2))) (A2 (AH (AG (.str [126])) (AH (AG (.int 0)) AP))))) (AM (Ar (AJ AW (AF 0) (AG (.int 2))) (AX 1))
  (AM (Br (Ek (Aq (BC Aw0 (AF 1) (AH (AG (.str [60])) AP))) (Ek (Aq (BC Av7 (AF 1) (AH (AG (.str [62])) AP))) NX)) (AM (Bb (AJ Ck (AG (.str [123,37,115,125])) (DY C1 (AF 1) (AG (.int 1)) (NZ MI (AG (.int 1))))))
  AZ) (AM (Bb (AF 1))
  AZ))
  AZ)) (AM (Bb (AJ Ck (AG (.str [37,115,58,37,100,40,37,115,41])) (AF 0)))
  AZ))
  AZ)
noncomputable def dm:PG:=CM (Aw 124 T5) ["func_name"] [] bw
noncomputable def QN:List SK:=[.loc "target", .loc "source", .loc "new_callers", .loc "func", .loc "caller"]
noncomputable def n9:DS:=(Ar nv (AX 2))
noncomputable def n_:DS:=(EX AC (BC eU (AF 0) AP) (DA 2 (A5 (AX 3) (A5 (AX 4) CS))) (AM (Ar (AF 4) (Gr (AF 2) (AF 3)))
  AZ))
noncomputable def oA:DS:=(EX AC (BC eU (AF 1) AP) (DA 2 (A5 (AX 3) (A5 (AX 4) CS))) (AM (Br (Aq (AJ IJ (AF 3) (AF 2))) (AM (Br (Aq (A_ Xh (AH (AF 4) (AH (AG (.top (.type "tuple"))) AP)))) (AM (Ar So (Gr (AF 2) (AF 3)))
  AZ) (AM (HE Ed (AF 2) (AF 3) (AF 4))
  AZ))
  AZ) (AM (Ar (AF 4) (Gr (AF 2) (AF 3)))
  AZ))
  AZ))
noncomputable def AW9:DS:=(Bb (AF 2))
noncomputable def r9:DS:=AM AW9 AZ
noncomputable def r8:DS:=AM oA r9
noncomputable def rz:DS:=AM n_ r8
noncomputable def A99:DS:=AM n9 rz
noncomputable def Wm:DS:=A99
noncomputable def Nj:PG:=CM (Aw 138 QN) ["target","source"] [] Wm
noncomputable def T3:List SK:=[.loc "target", .loc "source", .loc "cc", .loc "nc", .loc "tt", .loc "ct", .loc "callers", .loc "t_cc", .loc "t_nc", .loc "t_tt", .loc "t_ct", .loc "t_callers"]
noncomputable def Wn:DS:=(Ar (AF 1) (DA 5 (A5 (AX 2) (A5 (AX 3) (A5 (AX 4) (A5 (AX 5) (A5 (AX 6) CS)))))))
noncomputable def Wo:DS:=(Ar (AF 0) (DA 5 (A5 (AX 7) (A5 (AX 8) (A5 (AX 9) (A5 (AX 10) (A5 (AX 11) CS)))))))
noncomputable def AX0:DS:=(Bb (A2 (AH (AJ Ai (AF 2) (AF 7)) (AH (AJ Ai (AF 3) (AF 8)) (AH (AJ Ai (AF 4) (AF 9)) (AH (AJ Ai (AF 5) (AF 10)) (AH (A_ Nj (AH (AF 11) (AH (AF 6) AP))) AP)))))))
noncomputable def Xr:DS:=AM AX0 AZ
noncomputable def BA1:DS:=AM Wo Xr
noncomputable def BA0:DS:=AM Wn BA1
noncomputable def bu:DS:=BA0
noncomputable def TC:PG:=CM (Aw 131 T3) ["target","source"] [] bu
noncomputable def T4:List SK:=[.loc "callers", .loc "nc", .loc "calls"]
noncomputable def oB:DS:=(Ar (AG (.int 0)) (AX 1))
noncomputable def oD:DS:=(EX AD (BC Aw1 (AF 0) AP) (AX 2) (AM (Jh Ed 1 (AF 2))
  AZ))
noncomputable def AX1:DS:=(Bb (AF 1))
noncomputable def sB:DS:=AM AX1 AZ
noncomputable def r_:DS:=AM oD sB
noncomputable def BA2:DS:=AM oB r_
noncomputable def bv:DS:=BA2
noncomputable def W4:PG:=CM (Aw 145 T4) ["callers"] [] bv
noncomputable def T_:List SK:=[.loc "data"]
noncomputable def cI:DS:=(AM (Bb (BC qm (AG (.top (.ref 150))) (AH (AG (.str [46,46])) (AH (BC qm (AG (.top (.ref 155))) (AH (AG (.str [13,10])) (AH (AF 0) AP))) AP))))
  AZ)
noncomputable def TG:PG:=CM (Aw 162 T_) ["data"] [] cI
noncomputable def Tj:List SK:=[.loc "self", .loc "value", .loc "name", .loc "regex"]
noncomputable def Wi:DS:=(AM (Br (Aq (AJ Nx (A_ TY (AH (AF 1) AP)) (AG (.top (.type "str"))))) (AM (Ar (Cc (Aq (AF 2)) (AG (.top (.ref 167))) (AG (.top (.ref 172)))) (AX 3))
  (AM (Br (Ph (BC XO (AF 3) (AH (AF 1) AP))) (AM (HF (.type "ValueError") (AG (.str [67,111,110,116,114,111,108,32,99,104,97,114,97,99,116,101,114,115,32,110,111,116,32,97,108,108,111,119,101,100,32,105,110,32,104,101,97,100,101,114,115])))
  AZ) AZ)
  (AM (Bb (AF 1))
  AZ))) AZ)
  (AM Pi
  AZ))
noncomputable def S':PG:=CM (Aw 194 Tj) ["self","value","name"] [] Wi
noncomputable def Nr:List Me:=[⟨Cz 295 "_convert_string_type", .ref 194,S'⟩]
noncomputable def Tl:List SK:=[.loc "self", .loc "headers", .loc "k", .loc "v"]
noncomputable def AV9:DS:=(Ar (Cc (Aq (AJ TW (AF 1) (AG .none))) (AF 1) (BU AP)) (AX 1))
noncomputable def AW0:DS:=(Br (Aq (AJ TW (A_ TY (AH (AF 1) AP)) (AG (.top (.type "list"))))) (AM Pi
  AZ) AZ)
noncomputable def AW1:DS:=(Ar (AF 1) (dY 295 "_headers" (AF 0)))
noncomputable def AW2:DS:=(Br (Aq (AG (.bool AC))) (AM (EX AC (AF 1) (DA 2 (A5 (AX 2) (A5 (AX 3) CS))) (AM (E_ (BC Nr (AF 0) (Hj (AH (AF 2) AP) (AH (AG (.bool AC)) AP))))
  (AM (E_ (BC Nr (AF 0) (Hj (AH (AF 3) AP) (AH (AG (.bool AD)) AP))))
  AZ)))
  AZ) AZ)
noncomputable def A81:DS:=AM AW2 AZ
noncomputable def A80:DS:=AM AW1 A81
noncomputable def A79:DS:=AM AW0 A80
noncomputable def A78:DS:=AM AV9 A79
noncomputable def bh:DS:=A78
noncomputable def dZ:PG:=CM (Aw 187 Tl) ["self","headers"] [] bh
noncomputable def Tk:List SK:=[.loc "self", .loc "name", .loc "default", .loc "k", .loc "v"]
noncomputable def nw:DS:=(Ar (BC Nr (AF 0) (Hj (AH (BC Jq (AF 1) AP) AP) (AH (AG (.bool AC)) AP))) (AX 1))
noncomputable def AV7:DS:=(EX AC (Hk 295 "_headers" (AF 0)) (DA 2 (A5 (AX 3) (A5 (AX 4) CS))) (AM (Br (Aq (AJ BV (BC Jq (AF 3) AP) (AF 1))) (AM (Bb (AF 4))
  AZ) AZ)
  AZ))
noncomputable def AV8:DS:=(Bb (AF 2))
noncomputable def A77:DS:=AM AV8 AZ
noncomputable def A76:DS:=AM AV7 A77
noncomputable def A75:DS:=AM nw A76
noncomputable def bg:DS:=A75
noncomputable def TA:PG:=CM (Aw 242 Tk) ["self","name","default"] [.none] bg
noncomputable def qk:List Me:=[⟨Cz 295 "get", .ref 242,TA⟩]
noncomputable def Tq:List SK:=[.loc "self", .loc "name", .loc "value", .loc "result"]
noncomputable def Sp:DS:=(AM (Ar (BC qk (AF 0) (AH (AF 1) AP)) (AX 3))
  (AM (Br (Aq (AJ Nx (AF 3) (AG .none))) (AM (E_ (BC P2 (Hk 295 "_headers" (AF 0)) (AH (A2 (AH (BC Nr (AF 0) (Hj (AH (AF 1) AP) (AH (AG (.bool AC)) AP))) (AH (BC Nr (AF 0) (Hj (AH (AF 2) AP) (AH (AG (.bool AD)) AP))) AP))) AP)))
  (AM (Bb (AF 2))
  AZ)) (AM (Bb (AF 3))
  AZ))
  AZ))
noncomputable def Jm:PG:=CM (Aw 285 Tq) ["self","name","value"] [] Sp
noncomputable def ql:List Me:=[⟨Cz 295 "setdefault", .ref 285,Jm⟩]
noncomputable def Tw:List SK:=[.loc "kind", .loc "k", .loc "sender", .loc "number", .loc "word", .loc "end", .loc "m", .loc "odd", .loc "texts", .loc "code", .loc "second", .loc "text", .loc "first", .loc "dues"]
noncomputable def ny:DS:=(Ar (A2 (AH (AJ AW (BU (AH (AG (.str [10])) (AH (AG (.str [13])) (AH (AG (.str [13,10])) AP)))) (AJ Ck (AF 1) (AG (.int 3)))) (AH (A_ HM (AH (AF 3) AP)) (AH (AJ Ck (AF 1) (AG (.int 2))) AP)))) (L_ 3 (A5 (AX 7) (A5 (AX 6) (A5 (AX 5) CS)))))
noncomputable def nz:DS:=(Ar (Go (AH (AJ Ai (AJ Ai (AG (.str [50,50,57,32,111,110,32,40,124,124,124])) (AF 6)) (AG (.str [124,41]))) (AH (AJ Ai (AJ Ai (AG (.str [50,50,57,32,40,33,97,33,98,33])) (AF 6)) (AG (.str [33,41]))) (AH (AJ Ai (AJ Ai (AJ Ai (AJ Ai (AG (.str [50,50,57])) (AF 5)) (AG (.str [46,40,124,124,124]))) (AF 6)) (AG (.str [124,41]))) (AH (AJ Ai (AJ Ai (AJ Ai (AJ Ai (AG (.str [50,50,57,32,41])) (AF 5)) (AG (.str [46,46,40,46,46,46]))) (AF 6)) (AG (.str [46,41]))) AP))))) (AX 8))
noncomputable def AW6:DS:=(Jh Ed 8 (BU (AH (AJ Ai (AJ Ai (AJ Ai (AJ Ai (AJ Ai (AJ Ai (AG (.str [50,50,57])) (AF 5)) (AG (.str [46]))) (AF 5)) (AG (.str [40,124,124,124]))) (AF 6)) (AG (.str [124,41,40,124,124,124,55,124,41]))) (AH (AJ Ai (AJ Ai (AJ Ai (AJ Ai (AG (.str [50,50,57,32,40])) (AJ FD (AF 5) (AG (.int 3)))) (AF 6)) (AF 5)) (AG (.str [41]))) (AH (AJ Ai (AJ Ai (AJ Ai (AG (.str [50,50,57,32,40,124,124,124,32])) (AF 6)) (AF 5)) (AG (.str [124,41]))) AP)))))
noncomputable def AW7:DS:=(Jh Ed 8 (BU (AH (AJ Ai (AJ Ai (AG (.str [50,50,57,32,40,124,124,124,43,48])) (AF 6)) (AG (.str [124,41]))) (AH (AJ Ai (AJ Ai (AG (.str [50,50,57,32,40,120,120,120])) (AF 6)) (AG (.str [120,41]))) (AH (AJ Ai (AJ Ai (AG (.str [50,50,57,32,40,124,124,124])) (AF 6)) (AG (.str [124,41]))) (AH (AJ Ai (AJ Ai (AG (.str [50,50,57,50])) (AF 6)) (AG (.str [50,41]))) (AH (AJ Ai (AJ Ai (AG (.str [50,50,57,32,40,124,124,124])) (AF 6)) (AG (.str [124,33,41]))) AP)))))))
noncomputable def n4:DS:=(Jh Ed 8 (BU (AH (AJ AW (BU (AH (AJ Ai (AJ Ai (AG (.str [50,50,57,32,40,124,124])) (AF 6)) (AG (.str [124,41]))) (AH (AJ Ai (AJ Ai (AG (.str [50,50,57,32,40,124,124,124])) (AF 6)) (AG (.str [124,124,41]))) AP))) (AF 7)) (AH (AJ Ai (AJ Ai (AJ Ai (AJ Ai (AG (.str [50,50,57])) (AF 5)) (AG (.str [40,124,124,124]))) (AF 6)) (AG (.str [124,124]))) (AH (AJ Ai (AJ Ai (AG (.str [50,50,57,32,40,124,124,124])) (AF 6)) (AG (.str [45,124,41]))) AP)))))
noncomputable def AW8:DS:=(Jh Ed 8 (BU (AH (AJ Ai (AJ Ai (AG (.str [46,50,50,57,32,40,124,124,124])) (AF 6)) (AG (.str [124,41]))) (AH (AJ Ai (AJ Ai (AG (.str [50,50,57,32,40,124,124,124])) (AF 6)) (AG (.str [124,41]))) (AH (AJ Ai (AJ Ai (AG (.str [50,50,57,32,40,124,124,124])) (AF 6)) (AG (.str [124,41]))) AP)))))
noncomputable def n5:DS:=(Ar (Cc (Aq (AJ BV (AF 0) (AG (.int 9)))) (AJ AW (BU (AH (AG (.str [50,53,55,45,34])) (AH (AG (.str [50,53,55,32,45])) AP))) (AF 7)) (Cc (Aq (AJ BV (AF 0) (AG (.int 16)))) (AG (.str [50,53,48,32,34])) (Cc (Aq (AJ BV (AF 0) (AG (.int 17)))) (AG (.str [46,50,53,55,32,34])) (AG (.str [50,53,55,32,34]))))) (AX 9))
noncomputable def n6:DS:=(Ar (AJ Ai (AJ Ai (AF 9) (L5 [34] [34,34] (AF 4))) (AJ AW (BU (AH (AG (.str [34])) (AH (AG (.str [34,32,105,115,32,34,105,116,34])) (AH (AG (.str [])) AP)))) (AJ Ck (AJ EJ (AF 1) (AG (.int 3))) (AG (.int 3))))) (AX 10))
noncomputable def n7:DS:=(Ar (A2 (AH (AJ Ai (AJ Ai (AJ Ai (AJ Ai (AJ AW (AF 8) (AF 0)) (AF 5)) (AG (.str [126]))) (AF 5)) (AF 10)) (AH (L5 [13] [10] (L5 [13,10] [10] (AJ AW (AF 8) (AF 0)))) AP))) (L_ 2 (A5 (AX 12) (A5 (AX 11) CS))))
noncomputable def n8:DS:=(Ar (AJ Ai (AJ Ai (AJ Ai (AJ FD (BU (AH (A2 (AH (AF 2) (AH (AF 3) (AH (AF 4) AP)))) AP)) (AG (.int 9))) (BU (AH (A2 (AH (AF 2) (AH (AF 3) (AH (AG (.str [])) AP)))) AP))) (AJ FD (BU (AH (A2 (AH (AG (.str [112,114,111,116,111])) (AH (AF 12) AP))) AP)) (AG (.int 4)))) (BU (AH (A2 (AH (AG (.str [118,97,108,117,101])) (AH (AG (.str [])) AP))) (AH (A2 (AH (AG (.str [114,101,112,108,121])) (AH (AF 12) AP))) AP)))) (AX 13))
noncomputable def n3:DS:=(Bb (A2 (AH (AF 11) (AH (A2 (AH (AJ Ai (AJ Ai (AF 12) (AG (.str [10,126,10]))) (AF 10)) (AH (AJ AW (AJ Ai (AF 13) (AJ FD (BU (AH (A2 (AH (AG (.str [114,101,112,108,121])) (AH (AF 10) AP))) AP)) (AG (.int 2)))) (AF 0)) AP))) AP))))
noncomputable def A90:DS:=AM n3 AZ
noncomputable def A98:DS:=AM n8 A90
noncomputable def A97:DS:=AM n7 A98
noncomputable def A96:DS:=AM n6 A97
noncomputable def A95:DS:=AM n5 A96
noncomputable def A94:DS:=AM AW8 A95
noncomputable def A93:DS:=AM n4 A94
noncomputable def A92:DS:=AM AW7 A93
noncomputable def A91:DS:=AM AW6 A92
noncomputable def A89:DS:=AM nz A91
noncomputable def A88:DS:=AM ny A89
noncomputable def Wk:DS:=A88
noncomputable def Pr:PG:=CM (Aw 306 Tw) ["kind","k","sender","number","word"] [] Wk
noncomputable def Tz:List SK:=[.loc "come", .loc "sender", .loc "first", .loc "second", .loc "refusal"]
noncomputable def bt:DS:=(AM (Ar (BC TM (AF 0) (AH (AG (.str [10,126,10])) AP)) (DA 2 (A5 (AX 2) (A5 (AX 3) CS))))
  (AM (NY (AM (Bb (AJ Ai (A_ F' (AH (AF 2) (AH (A2 (AH (AF 1) (AH (AG (.int 21)) AP))) AP))) (A2 (AH (A_ I2 (AH (AF 3) AP)) AP))))
  AZ) [⟨IH AC AD AD,AA 4,(AM (Bb (A2 (AH (AG (.str [114,101,112,108,121])) (AH (A_ HM (AH (AF 4) AP)) AP))))
  AZ)⟩,⟨IH AD AC AD,AA 4,(AM (Bb (A2 (AH (AG (.str [112,114,111,116,111])) (AH (A_ HM (AH (AF 4) AP)) AP))))
  AZ)⟩,⟨IH AD AD AC,AB,(AM (Bb (A2 (AH (AG (.str [118,97,108,117,101])) (AH (AG (.str [])) AP))))
  AZ)⟩])
  AZ))
noncomputable def K1:PG:=CM (Aw 313 Tz) ["come","sender"] [] bt
noncomputable def Tx:List SK:=[.loc "world", .loc "targets", .loc "k", .loc "who", .loc "number", .loc "word", .loc "kind", .loc "text", .loc "due", .loc "wire", .loc "line"]
noncomputable def Wl:DS:=(AM (EX AD (AJ Ai (Cc (Aq (AJ BV (AJ Ck (AF 2) (AG (.int 3))) (AG (.int 0)))) (BU (AH (AJ Ai (AJ Ck (AJ EJ (AF 2) (AG (.int 3))) (AG (.int 9))) (AG (.int 9))) AP)) (BU AP)) (BU (AH (AJ Ck (AJ EJ (AF 2) (AG (.int 27))) (AG (.int 9))) AP))) (AX 6) (AM (Ar (A_ Pr (AH (AF 6) (AH (AJ EJ (AF 2) (AG (.int 243))) (AH (AJ AW (AJ AW (AF 0) (AG (.str [110,97,109,101,115]))) (AF 3)) (AH (AF 4) (AH (AF 5) AP)))))) (DA 2 (A5 (AX 7) (A5 (AX 8) CS))))
  (AM (Ar (AJ Ai (A_ TG (AH (AF 7) AP)) (AG (.str [13,10,46,13,10]))) (AX 9))
  (AM (EX AD (AF 1) (AX 10) (AM (HE Ed (AJ AW (AF 0) (AG (.str [108,105,110,101,115]))) (AF 10) (AF 9))
  (AM (E_ (BC P2 (AJ AW (AJ AW (AF 0) (AG (.str [115,101,110,116]))) (AF 10)) (AH (AF 8) AP)))
  AZ)))
  AZ))))
  AZ)
noncomputable def Nh:PG:=CM (Aw 320 Tx) ["world","targets","k","who","number","word"] [] Wl
noncomputable def Tv:List SK:=[.loc "world", .cel "lines", .cel "heads", .loc "takes"]
noncomputable def bp:DS:=(Ar (A2 (AH (AJ AW (AF 0) (AG (.str [108,105,110,101,115]))) (AH (AJ AW (AF 0) (AG (.str [104,101,97,100,115]))) AP))) (DA 2 (A5 (AX 1) (A5 (AX 2) CS))))
noncomputable def bq:DS:=(Ar (AJ Ai (CL [AB,AA 1] (.list []) (A2 (AH (AG (.int 0)) (AH (AG (.int 1)) AP))) (AX 0) (Aq (AJ Dq (AJ AW (AF 1) (AF 0)) (AG (.str [])))) (CC (A2 (AH (AG (.int 0)) (AH (AF 0) AP))))) (CL [AB,AA 2,AA 1] (.list []) (A2 (AH (AG (.int 0)) (AH (AG (.int 1)) AP))) (AX 0) (Ek (Aq (AJ Dq (AJ AW (AF 2) (AJ Ai (AG (.int 2)) (AF 0))) (AG (.str [])))) (Ek (Aq (AJ Nx (AJ AW (AF 1) (AF 0)) (AG .none))) NX)) (CC (A2 (AH (AG (.int 1)) (AH (AF 0) AP)))))) (AX 3))
noncomputable def br:DS:=(Bb (AJ Ai (AF 3) (Cc (Aq (AJ (MH AC) (AG .none) (AF 2))) (BU (AH (A2 (AH (AG (.int 2)) (AH (AG (.int 0)) AP))) AP)) (BU AP))))
noncomputable def A84:DS:=AM br AZ
noncomputable def A83:DS:=AM bq A84
noncomputable def A82:DS:=AM bp A83
noncomputable def bo:DS:=A82
noncomputable def W3:PG:=CM (Aw 325 Tv) ["world"] [] bo
noncomputable def Ti:List SK:=[.loc "self", .loc "name"]
noncomputable def bf:DS:=(AM (Bb (AJ TW (BC qk (AF 0) (AH (AF 1) AP)) (AG .none)))
  AZ)
noncomputable def W2:PG:=CM (Aw 227 Ti) ["self","name"] [] bf
noncomputable def rh:PG:=BP (MH AC) (fL 295 W2)
noncomputable def N6:List SK:=[.loc "world", .loc "kind", .loc "i", .loc "k", .cel "heads", .loc "seen", .loc "first", .cel "comp", .loc "line", .loc "head", .loc "come", .loc "told", .loc "made", .loc "number", .loc "word", .loc "minus", .cel "name"]
noncomputable def BD7:DS:=(Ar (A2 (AH (AJ AW (AF 11) (AG (.int 1))) (AH (AJ AW (AF 11) (AG (.int 2))) (AH (NZ MI (AJ AW (AF 11) (AG (.int 1)))) AP)))) (Gr (AF 4) (AF 2)))
noncomputable def BD8:DS:=(Ar (AJ FD (AJ AW (AF 11) (AG (.int 1))) (AJ AW (AJ AW (AF 0) (AG (.str [102,97,99,116,111,114,115]))) (AF 2))) (AX 12))
noncomputable def BE1:DS:=(HE Ed (AJ AW (AF 0) (AG (.str [109,97,100,101]))) (AF 2) (AG (.int 1)))
noncomputable def BE2:DS:=(Ar (A_ TC (AH (AJ AW (AJ AW (AF 0) (AG (.str [98,111,111,107,115]))) (AF 2)) (AH (A2 (AH (AG (.int 1)) (AH (AG (.int 2)) (AH (AJ AW (AF 11) (AG (.int 1))) (AH (AF 12) (AH (Sn (GT (AJ AW (AF 11) (AG (.int 2))) (AG (.int 1)) NV)) AP)))))) AP))) (Gr (AJ AW (AF 0) (AG (.str [98,111,111,107,115]))) (AF 2)))
noncomputable def BE3:DS:=(E_ (A_ Nh (AH (AF 0) (AH (BU (AH (AJ Ai (AG (.int 2)) (AF 2)) AP)) (AH (AF 3) (AH (AF 2) (AH (AF 12) (AH (AJ Ai (AJ AW (AF 11) (AG (.int 2))) (AJ AW (AG (.str [34,46])) (AF 2))) AP))))))))
noncomputable def QI:DS:=(Ar (AJ Ai (AJ FD (AG (.int 2)) (AF 1)) (AF 2)) (AX 8))
noncomputable def QJ:DS:=(Ar (BC TM (AJ AW (AJ AW (AF 0) (AG (.str [108,105,110,101,115]))) (AF 8)) (AH (AG (.str [13,10,46,13,10])) (AH (AG (.int 1)) AP))) (DA 2 (A5 (AX 9) (A5 (Gr (AJ AW (AF 0) (AG (.str [108,105,110,101,115]))) (AF 8)) CS))))
noncomputable def N5:DS:=(Ar (BC Av8 (AG (.str [10])) (AH (CL [AB] (.list []) (BC TM (AF 9) (AH (AG (.str [13,10])) AP)) (AX 0) El (CC (Cc (Aq (AJ BV (DY C1 (AF 0) (AG .none) (AG (.int 1))) (AG (.str [46])))) (DY C1 (AF 0) (AG (.int 1)) (AG .none)) (AF 0)))) AP)) (AX 10))
noncomputable def QK:DS:=(Ar (A_ K1 (AH (AF 10) (AH (AJ AW (AJ AW (AF 0) (AG (.str [110,97,109,101,115]))) (Cc (Aq (AJ BV (AF 1) (AG (.int 0)))) (AG (.int 2)) (AF 2))) AP))) (AX 11))
noncomputable def QL:DS:=(HE Ed (AF 0) (AG (.str [119,114,111,110,103])) (Cc (Aq (AJ BV (A2 (AH (AF 10) (AH (AF 11) AP))) (BC Av9 (AJ AW (AJ AW (AF 0) (AG (.str [115,101,110,116]))) (AF 8)) (AH (AG (.int 0)) AP)))) (AG (.int 0)) (AG (.int 1))))
noncomputable def sw:DS:=(Br (Ek (Aq (AJ BV (A_ Ho (AH (AF 11) AP)) (AG (.int 3)))) (Ek (Aq (AJ Dq (AJ AW (AF 11) (AG (.int 2))) (AG (.str [])))) (Ek (Aq (AJ BV (AF 1) (AG (.int 1)))) NX))) (AM BD7
  AZ) AZ)
noncomputable def sy:DS:=(Br (Ek (Aq (AJ BV (A_ Ho (AH (AF 11) AP)) (AG (.int 3)))) (Ek (Aq (AJ Dq (AJ AW (AF 11) (AG (.int 2))) (AG (.str [])))) (Ek (Aq (AJ BV (AF 1) (AG (.int 0)))) NX))) (AM BD8
  (AM BE1
  (AM BE2
  (AM BE3
  AZ)))) AZ)
noncomputable def BD9:DS:=(E_ (BC P2 (AF 6) (AH (A2 (AH (AF 16) (AH (AF 14) AP))) AP)))
noncomputable def BE0:DS:=(E_ (A_ Nh (AH (AF 0) (AH (BU (AH (AG (.int 0)) (AH (AG (.int 1)) AP))) (AH (AJ EJ (AF 3) (AG (.int 2))) (AH (AG (.int 2)) (AH (AF 13) (AH (AF 14) AP))))))))
noncomputable def N3:DS:=(Ar (CL [AB,AB,AA 7,AA 4] (.list []) (A2 (AH (A2 (AH (AG (.int 0)) (AH (AG (.int 1)) AP))) (AH (A2 (AH (AG (.int 1)) (AH (AG (.int 0)) AP))) (AH (A2 (AH (AG (.int 0)) (AH (AG (.int 0)) AP))) AP)))) (DA 2 (A5 (AX 0) (A5 (AX 1) CS))) El (CC (A_ HM (AH (BC qh (AF 2) (AH (AJ AW (AF 3) (AF 0)) (AH (AJ AW (AF 3) (AF 1)) AP))) AP)))) (AX 11))
noncomputable def QF:DS:=(HE Ed (AF 0) (AG (.str [119,114,111,110,103])) (Cc (Aq (AJ IJ (AF 11) (A2 (AH (BU (AH (AG (.str [45,49])) (AH (AG (.str [49])) (AH (AG (.str [48])) AP)))) (AH (BU (AH (AG (.str [49])) (AH (AG (.str [45,49])) (AH (AG (.str [48])) AP)))) AP))))) (AG (.int 0)) (AG (.int 1))))
noncomputable def QG:DS:=(Ar (AJ AW (AF 4) (Cc (Aq (AJ BV (AJ AW (AF 11) (AG (.int 0))) (AG (.str [45,49])))) (AG (.int 0)) (AG (.int 1)))) (DA 3 (A5 (AX 13) (A5 (AX 14) (A5 (AX 15) CS)))))
noncomputable def QH:DS:=(Ar (AG .none) (Gr (AF 4) (Cc (Aq (AJ BV (AJ AW (AF 11) (AG (.int 0))) (AG (.str [45,49])))) (AG (.int 0)) (AG (.int 1)))))
noncomputable def Xv:DS:=(Ar (AJ Ai (AJ AW (AG (.str [110,78])) (AJ Ck (AF 3) (AG (.int 2)))) (A_ HM (AH (AF 13) AP))) (AX 16))
noncomputable def Xw:DS:=(Ar (A_ Nj (AH (AJ AW (AF 0) (AG (.str [99,97,109,101]))) (AH (Sn (GT (AF 13) (AG (.int 1)) NV)) AP))) (Gr (AF 0) (AG (.str [99,97,109,101]))))
noncomputable def Td:DS:=(Br (Aq (AJ rh (AF 16) (AF 5))) (AM BD9
  (AM BE0
  AZ)) AZ)
noncomputable def Tf:DS:=(HE Ed (AF 0) (AG (.str [119,114,111,110,103])) (Cc (Aq (AJ BV (BU (AH (BC ql (AF 5) (AH (AF 16) (AH (AF 14) AP))) AP)) (CL [AB,AA 16] (.list []) (AF 6) (AX 0) (Aq (AJ BV (BC Jq (AJ AW (AF 0) (AG (.int 0))) AP) (BC Jq (AF 1) AP))) (CC (AJ AW (AF 0) (AG (.int 1))))))) (AG (.int 0)) (AG (.int 1))))
noncomputable def Ss:DS:=(AM (Ar (A2 (AH (AJ AW (AF 0) (AG (.str [104,101,97,100,115]))) (AH (AJ AW (AF 0) (AG (.str [115,101,101,110]))) (AH (AJ AW (AF 0) (AG (.str [102,105,114,115,116]))) (AH (AJ AW (AF 0) (AG (.str [99,111,109,112]))) AP))))) (DA 4 (A5 (AX 4) (A5 (AX 5) (A5 (AX 6) (A5 (AX 7) CS))))))
  (AM (Br (Aq (AJ Js (AF 1) (AG (.int 2)))) (AM QI
  (AM QJ
  (AM N5
  (AM QK
  (AM QL
  (AM sw
  (AM sy
  AZ))))))) (AM N3
  (AM QF
  (AM QG
  (AM QH
  (AM Xv
  (AM Xw
  (AM Td
  (AM Tf
  AZ)))))))))
  AZ))
noncomputable def Hl:PG:=CM (Aw 330 N6) ["world","kind","i","k"] [] Ss
noncomputable def Tn:List SK:=[.loc "self"]
noncomputable def bj:DS:=(AM (Bb (DY C1 (Hk 295 "_headers" (AF 0)) (AG .none) (AG .none)))
  AZ)
noncomputable def Pq:PG:=CM (Aw 259 Tn) ["self"] [] bj
noncomputable def MD:List Me:=⟨Cz 295 "items", .ref 259,Pq⟩::eU
noncomputable def QM:List SK:=[.loc "table", .loc "name", .loc "word", .loc "kept", .loc "told", .loc "refusal"]
noncomputable def AW3:DS:=(Ar (BC MD (AF 0) AP) (AX 3))
noncomputable def AW4:DS:=(NY (AM (Ar (BC ql (AF 0) (AH (AF 1) (AH (AF 2) AP))) (AX 4))
  AZ) [⟨IH AD AD AC,AA 5,(AM (Bb (Cc (Aq (AJ BV (BC MD (AF 0) AP) (AF 3))) (A_ HM (AH (AF 5) AP)) (AG (.str []))))
  AZ)⟩])
noncomputable def AW5:DS:=(Bb (Cc (Aq (AJ BV (BC MD (AF 0) AP) (AJ Ai (AF 3) (BU (AH (A2 (AH (AF 1) (AH (AF 2) AP))) AP))))) (AF 4) (AG (.str []))))
noncomputable def A87:DS:=AM AW5 AZ
noncomputable def A86:DS:=AM AW4 A87
noncomputable def A85:DS:=AM AW3 A86
noncomputable def Wj:DS:=A85
noncomputable def I1:PG:=CM (Aw 337 QM) ["table","name","word"] [] Wj
noncomputable def To:List SK:=[.loc "self"]
noncomputable def bl:DS:=(AM (Bb (A_ Ho (AH (Hk 295 "_headers" (AF 0)) AP)))
  AZ)
noncomputable def df:PG:=CM (Aw 201 To) ["self"] [] bl
noncomputable def I6:PG:=BP Ho (fH 295 df)
noncomputable def T6:List SK:=[.loc "script", .loc "cells", .loc "place", .loc "number", .loc "menu", .cel "factors", .loc "sign", .loc "keys", .loc "world", .loc "step", .loc "n", .loc "deeds", .loc "numbers", .cel "words", .loc "copies", .cel "x", .loc "ways", .loc "first", .loc "shown", .loc "i", .loc "made", .loc "due", .loc "refused", .loc "told"]
noncomputable def fg:DS:=(HE Ed (AF 1) (AJ Ck (AF 2) (AG (.int 12))) (AJ Ck (AF 3) (AJ LB (AG (.int 10)) (AG (.int 6)))))
noncomputable def fh:DS:=(Ar (A2 (AH (AJ EJ (AJ AW (AF 1) (AJ Ck (AF 9) (AG (.int 11)))) (AJ LB (AG (.int 5)) (AJ EJ (AF 9) (AG (.int 11))))) (AH (A_ W3 (AH (AF 8) AP)) AP))) (L_ 2 (A5 (AX 11) (A5 (AX 10) CS))))
noncomputable def sz:DS:=(Br (GS (Aq (AJ BV (A_ I6 (AH (AJ AW (AF 8) (AG (.str [115,101,101,110]))) AP)) (AG (.int 6)))) (GS (Aq (AJ BV (AF 11) (BU AP))) Pf)) (AM Wg
  AZ) AZ)
noncomputable def fm:DS:=(E_ (A_ Hl (AH (AF 8) (AH (AJ AW (AJ AW (AF 11) (AJ Ck (AF 10) (A_ I6 (AH (AF 11) AP)))) (AG (.int 0))) (AH (AJ AW (AJ AW (AF 11) (AJ Ck (AF 10) (A_ I6 (AH (AF 11) AP)))) (AG (.int 1))) (AH (AJ EJ (AF 10) (AG (.int 5))) AP))))))
noncomputable def BE5:DS:=(Ar (A_ fM (AH (CL [AB,AA 5,AA 13,AA 15] (.list []) (A2 (AH (AG (.int 0)) (AH (AG (.int 1)) AP))) (AX 0) (Ek (Aq (AJ BV (AJ Ck (AF 3) (AJ AW (AF 1) (AF 0))) (AG (.int 0)))) (Ek (Aq (AJ IJ (AJ EJ (AF 3) (AJ AW (AF 1) (AF 0))) (AF 2))) NX)) (CC (AJ Ai (AJ AW (AF 2) (AJ EJ (AF 3) (AJ AW (AF 1) (AF 0)))) (AJ AW (AG (.str [34,46])) (AF 0))))) AP)) (AX 16))
noncomputable def BE6:DS:=(Ar (AJ AW (AF 16) (Cc (Aq (AJ BV (AF 6) (AG (.int 1)))) (AG (.int 0)) (NZ MI (AG (.int 1))))) (Gr (AF 13) (AF 15)))
noncomputable def BE7:DS:=(E_ (BC P2 (AF 14) (AH (A2 (AH (AF 15) (AH (Cc (Aq (AJ BV (AF 15) (AJ AW (AF 12) (AG (.int 5))))) (AG (.int 1)) (A_ I6 (AH (AF 16) AP))) AP))) AP)))
noncomputable def BE8:DS:=(Bb (AG (.bool AD)))
noncomputable def BE9:DS:=(Bb (AG (.bool AD)))
noncomputable def fq:DS:=(Ar (AJ AW (AJ AW (AF 8) (AG (.str [109,97,100,101]))) (AF 19)) (AX 20))
noncomputable def fj:DS:=(Ar (A2 (AH (AF 20) (AH (AJ FD (AG (.int 2)) (AF 20)) (AH (A_ N1 (AH (DY C1 (AF 12) (AG .none) (AF 20)) AP)) (AH (AJ FD (AJ AW (AF 5) (AF 19)) (A_ N1 (AH (DY C1 (AF 12) (AG .none) (AF 20)) AP))) (AH (CL [AB,AA 13] (.dict (.s []) []) (DY C1 (AF 12) (AG .none) (AF 20)) (AX 0) El (Ku (AJ AW (AF 1) (AF 0)) (AG (.int 1)))) AP)))))) (AX 21))
noncomputable def fk:DS:=(Br (Aq (AJ Dq (AJ AW (AJ AW (AF 8) (AG (.str [98,111,111,107,115]))) (AF 19)) (AF 21))) (AM BE9
  AZ) AZ)
noncomputable def BE4:DS:=(Bb (AG (.bool AD)))
noncomputable def oE:DS:=(Ar (Go (AH (AG (.int 1375)) (AH (AG (.int 2911)) (AH (AG (.int 5005)) (AH (AG (.int 9581)) (AH (AG (.int 10)) (AH (AG (.int 680)) (AH (AG (.int 25)) (AH (AG (.int 2175)) (AH (AG (.int 2036)) (AH (AG (.int 5455)) (AH (AG (.int 481)) (AH (AG (.int 521560)) AP))))))))))))) (AX 1))
noncomputable def bx:DS:=(NU (AH (DY C1 (AF 0) (AG .none) (AG (.int 60))) AP) (DA 2 (A5 (AX 2) (A5 (AX 3) CS))) (AM fg
  AZ))
noncomputable def cB:DS:=(Ar (BU (AH (A2 (AH (A2 (AH (AG (.str [126])) (AH (AG (.int 0)) (AH (AG (.str [60,112,62])) AP)))) (AH (AG (.str [123,112,125])) AP))) (AH (A2 (AH (A2 (AH (AG (.str [126])) (AH (AG (.int 0)) (AH (AG (.str [113,34])) AP)))) (AH (AG (.str [113,34])) AP))) (AH (A2 (AH (A2 (AH (AG (.str [46,114])) (AH (AG (.int 0)) (AH (AG (.str [60,115,62])) AP)))) (AH (AG (.str [46,114,58,48,40,60,115,62,41])) AP))) (AH (A2 (AH (A2 (AH (AG (.str [126])) (AH (AG (.int 12)) (AH (AG (.str [60,116,62])) AP)))) (AH (AG (.str [126,58,49,50,40,60,116,62,41])) AP))) AP))))) (AX 4))
noncomputable def oH:DS:=(Ar (DY C1 (DY C1 (AJ FD (AJ Ai (AF 4) (BU (AH (A2 (AH (A2 (AH (AG (.str [126])) (AH (AG (.int 0)) (AH (AG (.str [60,117])) AP)))) (AH (AG (.str [60,117])) AP))) (AH (A2 (AH (A2 (AH (AG (.str [126])) (AH (AG (.int 0)) (AH (AG (.str [119,62])) AP)))) (AH (AG (.str [119,62])) AP))) AP)))) (AG (.int 2))) (AJ Ck (AJ EJ (AJ AW (AF 1) (AG (.int 11))) (AG (.int 20))) (AG (.int 6))) (AG .none)) (AG .none) (AG (.int 3))) (AX 4))
noncomputable def oI:DS:=(Ar (BU (AH (AJ Ai (AG (.int 2)) (AJ Ck (AJ AW (AF 1) (AG (.int 11))) (AG (.int 5)))) (AH (AJ Ai (AG (.int 2)) (AJ Ck (AJ Ai (AJ Ai (AJ Ck (AJ AW (AF 1) (AG (.int 11))) (AG (.int 5))) (AG (.int 1))) (AJ Ck (AJ EJ (AJ AW (AF 1) (AG (.int 11))) (AG (.int 5))) (AG (.int 4)))) (AG (.int 5)))) AP))) (AX 5))
noncomputable def oJ:DS:=(Ar (A2 (AH (AJ TX (AG (.int 1)) (AJ FD (AG (.int 2)) (AJ Ck (AJ EJ (AJ AW (AF 1) (AG (.int 11))) (AG (.int 120))) (AG (.int 2))))) (AH (AJ AW (BU (AH (A2 (AH (AG (.int 0)) (AH (AG (.int 1)) AP))) (AH (A2 (AH (AG (.int 2)) (AH (NZ MI (AG (.int 1))) AP))) AP))) (AJ Ck (AJ EJ (AJ AW (AF 1) (AG (.int 11))) (AG (.int 240))) (AG (.int 2)))) AP))) (L_ 2 (A5 (AX 7) (A5 (AX 6) CS))))
noncomputable def cD:DS:=(Ar (bZ (GT (AG (.str [110,97,109,101,115])) (CL [AB,AB] (.list []) (AF 4) (DA 2 (A5 (AX 0) (A5 (AX 1) CS))) El (CC (A_ dm (AH (AF 0) AP)))) (GT (AG (.str [108,105,110,101,115])) (AJ fK (BU (AH (AG (.str [])) AP)) (AG (.int 4))) (GT (AG (.str [115,101,110,116])) (BU (AH (Go AP) (AH (Go AP) (AH (Go AP) (AH (Go AP) AP))))) (GT (AG (.str [104,101,97,100,115])) (Go (AH (AG .none) (AH (AG .none) AP))) NV))))) (AX 8))
noncomputable def cE:DS:=(E_ (BC qn (AF 8) (AH (Sn (GT (AG (.str [115,101,101,110])) (A_ (Pp 295 "_headers" dZ) (AH (Go (AH (A2 (AH (AG (.str [110,49])) (AH (AG (.str [115])) AP))) AP)) AP)) (GT (AG (.str [102,105,114,115,116])) (Go (AH (A2 (AH (AG (.str [110,49])) (AH (AG (.str [115])) AP))) AP)) (GT (AG (.str [109,97,100,101])) (Go (AH (AG (.int 0)) (AH (AG (.int 0)) AP))) (GT (AG (.str [99,97,109,101])) Wh (GT (AG (.str [102,97,99,116,111,114,115])) (AF 5) (GT (AG (.str [119,114,111,110,103])) (AG (.int 0)) NV))))))) AP)))
noncomputable def cF:DS:=(E_ (BC qn (AF 8) (AH (Sn (GT (AG (.str [98,111,111,107,115])) (Go (AH (A2 (AH (AG (.int 0)) (AH (AG (.int 0)) (AH (AG (.int 0)) (AH (AG (.int 0)) (AH Wh AP)))))) (AH (A2 (AH (AG (.int 0)) (AH (AG (.int 0)) (AH (AG (.int 0)) (AH (AG (.int 0)) (AH Wh AP)))))) AP))) (GT (AG (.str [99,111,109,112])) (A_ (Pp 113 "comp_select_list" dh) (AH (BU (AH (AF 7) (AH (A2 (AH (AG (.int 1)) (AH (AF 6) AP))) AP))) AP)) NV))) AP)))
noncomputable def cG:DS:=(E_ (A_ Nh (AH (AF 8) (AH (BU (AH (AG (.int 0)) (AH (AG (.int 1)) AP))) (AH (AJ EJ (AJ AW (AF 1) (AG (.int 11))) (AG (.int 480))) (AH (AG (.int 2)) (AH (AG (.int 1)) (AH (AG (.str [115])) AP))))))))
noncomputable def oF:DS:=(EX AD (A_ Ny (AH (AG (.int 51)) AP)) (AX 9) (AM fh
  (AM sz
  (AM fm
  AZ))))
noncomputable def bz:DS:=(Ar (DY C1 (NW (AH (CL [AB,AB,AA 5] (.list []) (A_ Ny (AH (AG (.int 6)) AP)) (AX 0) El (Su (A_ Ny (AH (AG (.int 6)) AP)) (AX 1) El (CC (AJ FD (AJ LB (AJ AW (AF 2) (AG (.int 0))) (AF 0)) (AJ LB (AJ AW (AF 2) (AG (.int 1))) (AF 1)))))) AP)) (AG .none) (AG (.int 6))) (AX 12))
noncomputable def b5:DS:=(Ar (A2 (AH (bZ (GT (AG (.int 1)) (AG (.str [115])) NV)) (AH (Go AP) AP))) (DA 2 (A5 (AX 13) (A5 (AX 14) CS))))
noncomputable def b6:DS:=(EX AD (DY C1 (AF 12) (AG (.int 1)) (AG .none)) (AX 15) (AM BE5
  (AM BE6
  (AM BE7
  AZ))))
noncomputable def b7:DS:=(Ar (A2 (AH (AJ AW (AF 8) (AG (.str [102,105,114,115,116]))) (AH (CL [AB,AA 13] (.list []) (AF 12) (AX 0) El (CC (A2 (AH (AJ Ai (AG (.str [110])) (A_ HM (AH (AF 0) AP))) (AH (AJ AW (AF 1) (AF 0)) AP))))) AP))) (L_ 2 (A5 (AX 18) (A5 (AX 17) CS))))
noncomputable def b8:DS:=(Br (GS (Aq (AJ Dq (CL [AB,AB] (.list []) (AF 17) (DA 2 (A5 (AX 0) (A5 (AX 1) CS))) El (CC (A2 (AH (BC Jq (AF 0) AP) (AH (AF 1) AP))))) (AF 18))) (GS (Aq (AJ Dq (BC MD (AJ AW (AF 8) (AG (.str [115,101,101,110]))) AP) (AF 17))) (GS (Aq (AJ Dq (A_ Xk (AH (BC MD (AJ AW (AF 8) (AG (.str [99,97,109,101]))) AP) AP)) (AF 14))) Pf))) (AM BE8
  AZ) AZ)
noncomputable def b9:DS:=(EX AD (A2 (AH (AG (.int 0)) (AH (AG (.int 1)) AP))) (AX 19) (AM fq
  (AM fj
  (AM fk
  AZ))))
noncomputable def b_:DS:=(Ar (A2 (AH (AJ AW (BU (AH (AG (.str [10])) (AH (AG (.str [13])) (AH (AG (.str [0])) (AH (AG (.str [127])) (AH (AG (.str [32])) (AH (AG (.str [9])) (AH (AG (.str [31])) (AH (AG (.str [126])) AP))))))))) (AJ Ck (AJ AW (AF 1) (AG (.int 3))) (AG (.int 8)))) (AH (AG (.str [67,111,110,116,114,111,108,32,99,104,97,114,97,99,116,101,114,115,32,110,111,116,32,97,108,108,111,119,101,100,32,105,110,32,104,101,97,100,101,114,115])) AP))) (L_ 2 (A5 (AX 22) (A5 (AX 6) CS))))
noncomputable def Wq:DS:=(Ar (BU (AH (A_ I1 (AH (AJ AW (AF 8) (AG (.str [115,101,101,110]))) (AH (AJ Ai (AG (.str [111])) (AF 6)) (AH (AG (.str [115])) AP)))) (AH (A_ I1 (AH (AJ AW (AF 8) (AG (.str [115,101,101,110]))) (AH (AG (.str [112])) (AH (AJ Ai (AG (.str [115])) (AF 6)) AP)))) AP))) (AX 23))
noncomputable def cA:DS:=(Br (Aq (AJ Dq (AF 23) (BU (AH (Cc (Aq (AJ IJ (AF 6) (AG (.str [32,126])))) (AG (.str [115])) (AF 22)) (AH (Cc (Aq (AJ IJ (AF 6) (AG (.str [32,126,9])))) (AJ Ai (AG (.str [115])) (AF 6)) (AF 22)) AP))))) (AM BE4
  AZ) AZ)
noncomputable def cC:DS:=(Ar (BU (AH (AJ AW (AF 8) (AG (.str [110,97,109,101,115]))) (AH (A_ HM (AH (A_ W4 (AH (AJ AW (AF 8) (AG (.str [99,97,109,101]))) AP)) AP)) (AH (AJ AW (AF 8) (AG (.str [119,114,111,110,103]))) AP)))) (AX 23))
noncomputable def oG:DS:=(Bb (AJ BV (AF 23) (BU (AH (CL [AB,AB] (.list []) (AF 4) (DA 2 (A5 (AX 0) (A5 (AX 1) CS))) El (CC (AF 1))) (AH (A_ HM (AH (A_ N1 (AH (CL [AB,AB] (.list []) (AF 14) (DA 2 (A5 (AX 0) (A5 (AX 1) CS))) El (CC (AF 1))) AP)) AP)) (AH (AG (.int 0)) AP))))))
noncomputable def sN:DS:=AM oG AZ
noncomputable def sL:DS:=AM cC sN
noncomputable def sK:DS:=AM cA sL
noncomputable def sJ:DS:=AM Wq sK
noncomputable def sI:DS:=AM b_ sJ
noncomputable def sH:DS:=AM b9 sI
noncomputable def sG:DS:=AM b8 sH
noncomputable def BA5:DS:=AM b7 sG
noncomputable def BA4:DS:=AM b6 BA5
noncomputable def sF:DS:=AM b5 BA4
noncomputable def sE:DS:=AM bz sF
noncomputable def sD:DS:=AM oF sE
noncomputable def sS:DS:=AM cG sD
noncomputable def BA6:DS:=AM cF sS
noncomputable def sR:DS:=AM cE BA6
noncomputable def fX:DS:=AM cD sR
noncomputable def sQ:DS:=AM oJ fX
noncomputable def sP:DS:=AM oI sQ
noncomputable def sO:DS:=AM oH sP
noncomputable def fW:DS:=AM cB sO
noncomputable def sC:DS:=AM bx fW
noncomputable def BA3:DS:=AM oE sC
noncomputable def Wp:DS:=BA3
noncomputable def Nk:PG:=CM (Aw 342 T6) ["script"] [] Wp
noncomputable def AT2(p:BK):Bool:=[(75,18,75,20),(179,12,179,134),(244,12,244,80),(251,12,251,137),(251,79,251,87),(251,98,251,100),(251,102,251,104),(251,106,251,108),(251,110,251,112),(251,124,251,136),(252,34,252,47),(252,59,252,72),(252,82,252,88),(253,27,253,63),(261,21,261,29),(261,31,261,33)].contains (p.line,p.col,p.endLine,p.endCol)
end
noncomputable section
noncomputable abbrev NN:SP:=N4 AT2
noncomputable abbrev Ni:=(m:Bool)->(k:Nat)->(q:Bool)->Option {g:PG//BA m k q (GA .NotIn) g}
noncomputable def CN:Ni:=λ_ _ _=>AB
noncomputable abbrev ub(es:List ED)(ms:List Ir)(ni:Ni)(k:Nat)(m q:Bool){a:AK}{sc:List SK}(h:DZ (Aw a sc)=AC):{d:DS//Dy m k q (Aw a sc) (Ba a) d}:=uB (rc NN (λm q=>tab es ms ni k m q) 60) (CD h) m q (Ba a)
theorem Bi.any{m m':Bool}{k k':Nat}{q q':Bool}{v:AE}{ns:List AQ}{g:PG}(h:Bi m k q v ns g)(u:L0 k m q m' k' q'):Bi m' k' q' v ns g:=λA σ cs vs ks hR ok hv hl=>by
 have hR:Bs A k q σ:=⟨(hR.le u.k).1,(hR.le u.k).2,λe=>hR.hand (u.q e),hR.frames⟩
 have h:=h A σ cs vs ks hR ok hv hl
 cases m with
 |true=>cases u.m rfl;exact h
 |false=>cases m' with
  |false=>exact h
  |true=>exactλhn ht Q E hQ hE=>wq.of (h hn ht Q E hQ hE).any
theorem D7{m:Bool}{k:Nat}{q:Bool}{fx:Fx}{ss:List Bd}(x:{d:DS//Dy m k q fx ss d}){d:DS}(e:x.1=d):Dy m k q fx ss d:=e▸x.2
noncomputable def BH3(sc:List SK)(cn:List AQ):Bool:=sc.all λk=>match k with
 | .cel n=>cn.contains n
 |_=>AC
theorem D6{sc:List SK}{cn:List AQ}(h:BH3 sc cn=AC):∀n,SK.cel n∈sc->n∈cn:=λn hn=>Yj.mp (FF.mp h _ hn)
noncomputable def fT:List AQ->List SK->Bool
 |[],_=>AC
 |n::ps, .loc x::sc=>n==x&&fT ps sc
 |n::ps, .cel x::sc=>n==x&&fT ps sc
 |_,_=>AD
theorem Dr:∀{ps:List AQ} {sc:List SK},fT ps sc=AC->∀(i:Nat) n,ps[i]? =AA n->sc[i]? =AA (.loc n)\/sc[i]? =AA (.cel n)
 |n::_, .loc x::_,h,0,_,e=>by cases e;exact .inl (congrArg (λz=>AA (SK.loc z)) (CH (BB h).1).symm)
 |n::_, .cel x::_,h,0,_,e=>by cases e;exact .inr (congrArg (λz=>AA (SK.cel z)) (CH (BB h).1).symm)
 |_::_, .loc _::_,h,i+1,n,e=>Dr (BB h).2 i n e
 |_::_, .cel _::_,h,i+1,n,e=>Dr (BB h).2 i n e
theorem Hm{α:Type}{l:List α}{n:Nat}(h:l.length=n+1):∃a l',l=a::l'/\l'.length=n:=match l,h with
 |a::l',h=>⟨a,l',rfl,Hw h⟩
theorem No{α:Type}{l:List α}(h:l.length=0):l=[]:=Gy.mp h
theorem eR{α β:Type}{vs ks ds:List α}{ps:List β}(h:(vs++ks++ds).length=ps.length):vs.length=ps.length - ds.length - ks.length:=by rw[<-h,A1,A1,wH,wH]
theorem PZ{fd:GG}{ps:List AQ}(h:∀s vs,vs.length=ps.length->G2 s fd ⟨vs,[]⟩ (ps.zip vs)):Ct fd ps [] []:=⟨[],λ_=>rfl,λs vs ks hk hl hs=>by
 cases Gy.mp hl
 rw[BJ,BJ]at hs⊢
 exact h s vs hs⟩
theorem qZ{α:Type}{P:List α->Prop}{l:List α}(h:l.length=1)(k:∀a,P [a]):P l:=Hm h|>.elim λa h=>h.elim λr h=>h.1▸(No h.2).symm▸k a
theorem qa{α:Type}{P:List α->Prop}{l:List α}(h:l.length=2)(k:∀a b,P [a,b]):P l:=Hm h|>.elim λa h=>h.elim λr h=>h.1▸qZ (P:=λr=>P (a::r)) h.2 (k a)
theorem qb{α:Type}{P:List α->Prop}{l:List α}(h:l.length=3)(k:∀a b c,P [a,b,c]):P l:=Hm h|>.elim λa h=>h.elim λr h=>h.1▸qa (P:=λr=>P (a::r)) h.2 (k a)
theorem qc{α:Type}{P:List α->Prop}{l:List α}(h:l.length=4)(k:∀a b c d,P [a,b,c,d]):P l:=Hm h|>.elim λa h=>h.elim λr h=>h.1▸qb (P:=λr=>P (a::r)) h.2 (k a)
theorem qd{α:Type}{P:List α->Prop}{l:List α}(h:l.length=5)(k:∀a b c d e,P [a,b,c,d,e]):P l:=Hm h|>.elim λa h=>h.elim λr h=>h.1▸qc (P:=λr=>P (a::r)) h.2 (k a)
theorem lv6{α:Type}{P:List α->Prop}{l:List α}(h:l.length=6)(k:∀a b c d e f,P [a,b,c,d,e,f]):P l:=Hm h|>.elim λa h=>h.elim λr h=>h.1▸qd (P:=λr=>P (a::r)) h.2 (k a)
theorem L2{fd:GG}{ps:List AQ}(hp:ps.length=1)(h:∀s a,G2 s fd ⟨[a],[]⟩ (ps.zip [a])):Ct fd ps [] []:=PZ λs vs e=>qZ (P:=λvs=>G2 s fd ⟨vs,[]⟩ (ps.zip vs)) (e.trans hp) (h s)
theorem Pa{fd:GG}{ps:List AQ}(hp:ps.length=2)(h:∀s a b,G2 s fd ⟨[a,b],[]⟩ (ps.zip [a,b])):Ct fd ps [] []:=PZ λs vs e=>qa (P:=λvs=>G2 s fd ⟨vs,[]⟩ (ps.zip vs)) (e.trans hp) (h s)
theorem bJ{fd:GG}{ps:List AQ}(hp:ps.length=3)(h:∀s a b c,G2 s fd ⟨[a,b,c],[]⟩ (ps.zip [a,b,c])):Ct fd ps [] []:=PZ λs vs e=>qb (P:=λvs=>G2 s fd ⟨vs,[]⟩ (ps.zip vs)) (e.trans hp) (h s)
theorem bn4{fd:GG}{ps:List AQ}(hp:ps.length=4)(h:∀s a b c d,G2 s fd ⟨[a,b,c,d],[]⟩ (ps.zip [a,b,c,d])):Ct fd ps [] []:=PZ λs vs e=>qc (P:=λvs=>G2 s fd ⟨vs,[]⟩ (ps.zip vs)) (e.trans hp) (h s)
theorem bn5{fd:GG}{ps:List AQ}(hp:ps.length=5)(h:∀s a b c d e,G2 s fd ⟨[a,b,c,d,e],[]⟩ (ps.zip [a,b,c,d,e])):Ct fd ps [] []:=PZ λs vs e=>qd (P:=λvs=>G2 s fd ⟨vs,[]⟩ (ps.zip vs)) (e.trans hp) (h s)
theorem bn6{fd:GG}{ps:List AQ}(hp:ps.length=6)(h:∀s a b c d e f,G2 s fd ⟨[a,b,c,d,e,f],[]⟩ (ps.zip [a,b,c,d,e,f])):Ct fd ps [] []:=PZ λs vs e=>lv6 (P:=λvs=>G2 s fd ⟨vs,[]⟩ (ps.zip vs)) (e.trans hp) (h s)
theorem dN:DZ (Aw 82 T7)=AC:=by kernel_rfl
theorem BZ2:(ub cT Kw CN 2 AC AC dN).1=Nb:=by kernel_rfl
theorem Af8:DN 82 (Bc 82) (Aw 82 T7) ["resp","peer"] [] (Ba 82):=
 ⟨⟨_,KX _ _ rfl,rfl⟩,⟨_,_,_,_,rfl,KX _ _ rfl,rfl,rfl⟩,rfl,rfl,rfl,rfl,rfl,rfl,rfl,λ_=>rfl,by decide,D6 rfl,Dr rfl,by decide⟩
theorem AO0:Ct (Bc 82) ["resp","peer"] [] []:=Pa rfl λs a b=>Eg rfl
theorem Al4:Bi AC 3 AC (.ref 82) [] F':=D3 (CD dN) Af8 AO0 (@D7 AC 2 AC (Aw 82 T7) (Ba 82) (@ub cT Kw CN 2 AC AC 82 T7 dN) Nb BZ2)
noncomputable def cm:List ED:=⟨.ref 82,[],F',3,AC,AC,λ_ _ _ u=>⟨Em rfl,Al4.any u⟩⟩::cT
theorem dP:DZ (Aw 89 T8)=AC:=by kernel_rfl
theorem BZ3:(ub cm Kw CN 2 AD AC dP).1=cH:=by kernel_rfl
theorem Af9:DN 89 (Bc 89) (Aw 89 T8) ["resp"] [] (Ba 89):=
 ⟨⟨_,KX _ _ rfl,rfl⟩,⟨_,_,_,_,rfl,KX _ _ rfl,rfl,rfl⟩,rfl,rfl,rfl,rfl,rfl,rfl,rfl,λ_=>rfl,by decide,D6 rfl,Dr rfl,by decide⟩
theorem AO1:Ct (Bc 89) ["resp"] [] []:=L2 rfl λs a=>Eg rfl
theorem Al5:Bi AD 3 AC (.ref 89) [] I2:=D3 (CD dP) Af9 AO1 (@D7 AD 2 AC (Aw 89 T8) (Ba 89) (@ub cm Kw CN 2 AD AC 89 T8 dP) cH BZ3)
noncomputable def cq:List ED:=⟨.ref 89,[],I2,3,AD,AC,λ_ _ _ u=>⟨Em rfl,Al5.any u⟩⟩::cm
theorem dB:DZ (Aw 103 Tu)=AC:=by kernel_rfl
theorem BY0:(ub cq Kw CN 2 AD AC dB).1=bn:=by kernel_rfl
theorem Ae6:DN 103 (Bc 103) (Aw 103 Tu) ["self","comp_select_list"] [] (Ba 103):=
 ⟨⟨_,KX _ _ rfl,rfl⟩,⟨_,_,_,_,rfl,KX _ _ rfl,rfl,rfl⟩,rfl,rfl,rfl,rfl,rfl,rfl,rfl,λ_=>rfl,by decide,D6 rfl,Dr rfl,by decide⟩
theorem AM8:Ct (Bc 103) ["self","comp_select_list"] [] []:=Pa rfl λs a b=>Eg rfl
theorem Aj9:Bi AD 3 AC (.ref 103) [] dh:=D3 (CD dB) Ae6 AM8 (@D7 AD 2 AC (Aw 103 Tu) (Ba 103) (@ub cq Kw CN 2 AD AC 103 Tu dB) bn BY0)
noncomputable def S0:List ED:=⟨.ref 113,[],Pp 113 "comp_select_list" dh,4,AD,AC,λ_ _ _ u=>⟨Em rfl,Bi.any (nJ bS (by kernel_rfl) ⟨_,KX 103 _ rfl,rfl⟩ Aj9) u⟩⟩::cq
theorem dA:DZ (Aw 110 Tt)=AC:=by kernel_rfl
theorem BX9:(ub S0 Kw CN 2 AD AC dA).1=Na:=by kernel_rfl
theorem Ae5:DN 110 (Bc 110) (Aw 110 Tt) ["self","left","right"] [] (Ba 110):=
 ⟨⟨_,KX _ _ rfl,rfl⟩,⟨_,_,_,_,rfl,KX _ _ rfl,rfl,rfl⟩,rfl,rfl,rfl,rfl,rfl,rfl,rfl,λ_=>rfl,by decide,D6 rfl,Dr rfl,by decide⟩
theorem AM7:Ct (Bc 110) ["self","left","right"] [] []:=bJ rfl λs a b c=>Eg rfl
theorem Aj8:Bi AD 3 AC (.ref 110) [] TB:=D3 (CD dA) Ae5 AM7 (@D7 AD 2 AC (Aw 110 Tt) (Ba 110) (@ub S0 Kw CN 2 AD AC 110 Tt dA) Na BX9)
noncomputable def Hn:List Ir:=⟨"compare",[],⟨Cz 113 "compare", .ref 110,TB⟩,3,AD,AC,λ_ _ _ u=>TN imT (Em rfl) (Aj8.any u)⟩::Kw
theorem dL:DZ (Aw 124 T5)=AC:=by kernel_rfl
theorem BZ0:(ub S0 Hn CN 2 AD AC dL).1=bw:=by kernel_rfl
theorem Af6:DN 124 (Bc 124) (Aw 124 T5) ["func_name"] [] (Ba 124):=
 ⟨⟨_,KX _ _ rfl,rfl⟩,⟨_,_,_,_,rfl,KX _ _ rfl,rfl,rfl⟩,rfl,rfl,rfl,rfl,rfl,rfl,rfl,λ_=>rfl,by decide,D6 rfl,Dr rfl,by decide⟩
theorem AN8:Ct (Bc 124) ["func_name"] [] []:=L2 rfl λs a=>Eg rfl
theorem Al0:Bi AD 3 AC (.ref 124) [] dm:=D3 (CD dL) Af6 AN8 (@D7 AD 2 AC (Aw 124 T5) (Ba 124) (@ub S0 Hn CN 2 AD AC 124 T5 dL) bw BZ0)
noncomputable def cj:List ED:=⟨.ref 124,[],dm,3,AD,AC,λ_ _ _ u=>⟨Em rfl,Al0.any u⟩⟩::S0
theorem dI:DZ (Aw 138 QN)=AC:=by kernel_rfl
theorem BY7:(ub cj Hn CN 2 AD AC dI).1=Wm:=by kernel_rfl
theorem Af3:DN 138 (Bc 138) (Aw 138 QN) ["target","source"] [] (Ba 138):=
 ⟨⟨_,KX _ _ rfl,rfl⟩,⟨_,_,_,_,rfl,KX _ _ rfl,rfl,rfl⟩,rfl,rfl,rfl,rfl,rfl,rfl,rfl,λ_=>rfl,by decide,D6 rfl,Dr rfl,by decide⟩
theorem AN5:Ct (Bc 138) ["target","source"] [] []:=Pa rfl λs a b=>Eg rfl
theorem Ak6:Bi AD 3 AC (.ref 138) [] Nj:=D3 (CD dI) Af3 AN5 (@D7 AD 2 AC (Aw 138 QN) (Ba 138) (@ub cj Hn CN 2 AD AC 138 QN dI) Wm BY7)
noncomputable def cf:List ED:=⟨.ref 138,[],Nj,3,AD,AC,λ_ _ _ u=>⟨Em rfl,Ak6.any u⟩⟩::cj
theorem dJ:DZ (Aw 131 T3)=AC:=by kernel_rfl
theorem BY8:(ub cf Hn CN 4 AD AC dJ).1=bu:=by kernel_rfl
theorem Af4:DN 131 (Bc 131) (Aw 131 T3) ["target","source"] [] (Ba 131):=
 ⟨⟨_,KX _ _ rfl,rfl⟩,⟨_,_,_,_,rfl,KX _ _ rfl,rfl,rfl⟩,rfl,rfl,rfl,rfl,rfl,rfl,rfl,λ_=>rfl,by decide,D6 rfl,Dr rfl,by decide⟩
theorem AN6:Ct (Bc 131) ["target","source"] [] []:=Pa rfl λs a b=>Eg rfl
theorem Ak7:Bi AD 5 AC (.ref 131) [] TC:=D3 (CD dJ) Af4 AN6 (@D7 AD 4 AC (Aw 131 T3) (Ba 131) (@ub cf Hn CN 4 AD AC 131 T3 dJ) bu BY8)
noncomputable def cg:List ED:=⟨.ref 131,[],TC,5,AD,AC,λ_ _ _ u=>⟨Em rfl,Ak7.any u⟩⟩::cf
theorem dK:DZ (Aw 145 T4)=AC:=by kernel_rfl
theorem BY9:(ub cg Hn CN 2 AD AC dK).1=bv:=by kernel_rfl
theorem Af5:DN 145 (Bc 145) (Aw 145 T4) ["callers"] [] (Ba 145):=
 ⟨⟨_,KX _ _ rfl,rfl⟩,⟨_,_,_,_,rfl,KX _ _ rfl,rfl,rfl⟩,rfl,rfl,rfl,rfl,rfl,rfl,rfl,λ_=>rfl,by decide,D6 rfl,Dr rfl,by decide⟩
theorem AN7:Ct (Bc 145) ["callers"] [] []:=L2 rfl λs a=>Eg rfl
theorem Ak9:Bi AD 3 AC (.ref 145) [] W4:=D3 (CD dK) Af5 AN7 (@D7 AD 2 AC (Aw 145 T4) (Ba 145) (@ub cg Hn CN 2 AD AC 145 T4 dK) bv BY9)
noncomputable def ci:List ED:=⟨.ref 145,[],W4,3,AD,AC,λ_ _ _ u=>⟨Em rfl,Ak9.any u⟩⟩::cg
theorem dQ:DZ (Aw 162 T_)=AC:=by kernel_rfl
theorem BZ4:(ub ci Hn CN 2 AD AC dQ).1=cI:=by kernel_rfl
theorem Ag0:DN 162 (Bc 162) (Aw 162 T_) ["data"] [] (Ba 162):=
 ⟨⟨_,KX _ _ rfl,rfl⟩,⟨_,_,_,_,rfl,KX _ _ rfl,rfl,rfl⟩,rfl,rfl,rfl,rfl,rfl,rfl,rfl,λ_=>rfl,by decide,D6 rfl,Dr rfl,by decide⟩
theorem AO2:Ct (Bc 162) ["data"] [] []:=L2 rfl λs a=>Eg rfl
theorem Al6:Bi AD 3 AC (.ref 162) [] TG:=D3 (CD dQ) Ag0 AO2 (@D7 AD 2 AC (Aw 162 T_) (Ba 162) (@ub ci Hn CN 2 AD AC 162 T_ dQ) cI BZ4)
noncomputable def S3:List ED:=⟨.ref 162,[],TG,3,AD,AC,λ_ _ _ u=>⟨Em rfl,Al6.any u⟩⟩::ci
theorem cu:DZ (Aw 194 Tj)=AC:=by kernel_rfl
theorem BX3:(ub S3 Hn CN 2 AD AC cu).1=Wi:=by kernel_rfl
theorem Ad9:DN 194 (Bc 194) (Aw 194 Tj) ["self","value","name"] [] (Ba 194):=
 ⟨⟨_,KX _ _ rfl,rfl⟩,⟨_,_,_,_,rfl,KX _ _ rfl,rfl,rfl⟩,rfl,rfl,rfl,rfl,rfl,rfl,rfl,λ_=>rfl,by decide,D6 rfl,Dr rfl,by decide⟩
theorem AM1:Ct (Bc 194) ["self","value","name"] ["name"] []:=by
 refine⟨[],λ_=>rfl,λs vs ks hk hl hs=>?_⟩
 have hv:=eR hs
 rw[hl]at hv
 obtain⟨k0,ks,rfl,y3⟩:=Hm hl
 cases No y3
 obtain⟨v0,vs,rfl,Ry⟩:=Hm hv
 obtain⟨v1,vs,rfl,Rz⟩:=Hm Ry
 cases No Rz
 exact Eg rfl
theorem Aj2:Bi AD 3 AC (.ref 194) ["name"] S':=D3 (CD cu) Ad9 AM1 (@D7 AD 2 AC (Aw 194 Tj) (Ba 194) (@ub S3 Hn CN 2 AD AC 194 Tj cu) Wi BX3)
noncomputable def TO:List Ir:=⟨"_convert_string_type",["name"],⟨Cz 295 "_convert_string_type", .ref 194,S'⟩,3,AD,AC,λ_ _ _ u=>TN (Ps (f:=194) (n:="_convert_string_type") (by kernel_rfl) ⟨_,rfl,rfl⟩ ⟨_,rfl⟩) (Em rfl) (Aj2.any u)⟩::Hn
theorem cx:DZ (Aw 187 Tl)=AC:=by kernel_rfl
theorem BX5:(ub S3 TO CN 4 AD AC cx).1=bh:=by kernel_rfl
theorem Ae1:DN 187 (Bc 187) (Aw 187 Tl) ["self","headers"] [] (Ba 187):=
 ⟨⟨_,KX _ _ rfl,rfl⟩,⟨_,_,_,_,rfl,KX _ _ rfl,rfl,rfl⟩,rfl,rfl,rfl,rfl,rfl,rfl,rfl,λ_=>rfl,by decide,D6 rfl,Dr rfl,by decide⟩
theorem AM3:Ct (Bc 187) ["self","headers"] [] []:=by
 refine⟨[],λ_=>rfl,λs vs ks hk hl hs=>?_⟩
 have hv:=eR hs
 rw[hl]at hv
 cases No hl
 obtain⟨v0,vs,rfl,Ry⟩:=Hm hv
 obtain⟨v1,vs,rfl,Rz⟩:=Hm Ry
 cases No Rz
 exact we rfl (hk _ _ (KX 180 _ rfl)) rfl rfl rfl
theorem Aj4:Bi AD 5 AC (.ref 187) [] dZ:=D3 (CD cx) Ae1 AM3 (@D7 AD 4 AC (Aw 187 Tl) (Ba 187) (@ub S3 TO CN 4 AD AC 187 Tl cx) bh BX5)
noncomputable def Nf:List ED:=⟨.ref 295,[],Pp 295 "_headers" dZ,6,AD,AC,λ_ _ _ u=>⟨Em rfl,Bi.any (nJ bR (by kernel_rfl) ⟨_,KX 187 _ rfl,rfl⟩ Aj4) u⟩⟩::S3
theorem cw:DZ (Aw 242 Tk)=AC:=by kernel_rfl
theorem BX4:(ub Nf TO CN 4 AD AC cw).1=bg:=by kernel_rfl
theorem Ae0:DN 242 (Bc 242) (Aw 242 Tk) ["self","name","default"] [] (Ba 242):=
 ⟨⟨_,KX _ _ rfl,rfl⟩,⟨_,_,_,_,rfl,KX _ _ rfl,rfl,rfl⟩,rfl,rfl,rfl,rfl,rfl,rfl,rfl,λ_=>rfl,by decide,D6 rfl,Dr rfl,by decide⟩
theorem AM2:Ct (Bc 242) ["self","name","default"] [] [.none]:=by
 refine⟨[.none],λ_=>⟨_,_,rfl,rfl,rfl⟩,λs vs ks hk hl hs=>?_⟩
 have hv:=eR hs
 rw[hl]at hv
 cases No hl
 obtain⟨v0,vs,rfl,Ry⟩:=Hm hv
 obtain⟨v1,vs,rfl,Rz⟩:=Hm Ry
 cases No Rz
 exact we rfl (hk _ _ (KX 235 _ rfl)) rfl rfl rfl
theorem Aj3:Bi AD 5 AC (.ref 242) [] TA:=D3 (CD cw) Ae0 AM2 (@D7 AD 4 AC (Aw 242 Tk) (Ba 242) (@ub Nf TO CN 4 AD AC 242 Tk cw) bg BX4)
noncomputable def eX:List Ir:=⟨"get",[],⟨Cz 295 "get", .ref 242,TA⟩,5,AD,AC,λ_ _ _ u=>TN (Ps (f:=242) (n:="get") (by kernel_rfl) ⟨_,rfl,rfl⟩ ⟨_,rfl⟩) (Em rfl) (Aj3.any u)⟩::TO
theorem c_:DZ (Aw 285 Tq)=AC:=by kernel_rfl
theorem BX8:(ub Nf eX CN 6 AD AC c_).1=Sp:=by kernel_rfl
theorem Ae4:DN 285 (Bc 285) (Aw 285 Tq) ["self","name","value"] [] (Ba 285):=
 ⟨⟨_,KX _ _ rfl,rfl⟩,⟨_,_,_,_,rfl,KX _ _ rfl,rfl,rfl⟩,rfl,rfl,rfl,rfl,rfl,rfl,rfl,λ_=>rfl,by decide,D6 rfl,Dr rfl,by decide⟩
theorem AM6:Ct (Bc 285) ["self","name","value"] [] []:=bJ rfl λs a b c=>Eg rfl
theorem Aj7:Bi AD 7 AC (.ref 285) [] Jm:=D3 (CD c_) Ae4 AM6 (@D7 AD 6 AC (Aw 285 Tq) (Ba 285) (@ub Nf eX CN 6 AD AC 285 Tq c_) Sp BX8)
noncomputable def Gs:List Ir:=⟨"setdefault",[],⟨Cz 295 "setdefault", .ref 285,Jm⟩,7,AD,AC,λ_ _ _ u=>TN (Ps (f:=285) (n:="setdefault") (by kernel_rfl) ⟨_,rfl,rfl⟩ ⟨_,rfl⟩) (Em rfl) (Aj7.any u)⟩::eX
theorem dF:DZ (Aw 306 Tw)=AC:=by kernel_rfl
theorem BY4:(ub Nf Gs CN 2 AD AC dF).1=Wk:=by kernel_rfl
theorem Af0:DN 306 (Bc 306) (Aw 306 Tw) ["kind","k","sender","number","word"] [] (Ba 306):=
 ⟨⟨_,KX _ _ rfl,rfl⟩,⟨_,_,_,_,rfl,KX _ _ rfl,rfl,rfl⟩,rfl,rfl,rfl,rfl,rfl,rfl,rfl,λ_=>rfl,by decide,D6 rfl,Dr rfl,by decide⟩
theorem AN2:Ct (Bc 306) ["kind","k","sender","number","word"] [] []:=bn5 rfl λs a b c d e=>Eg rfl
theorem Ak3:Bi AD 3 AC (.ref 306) [] Pr:=D3 (CD dF) Af0 AN2 (@D7 AD 2 AC (Aw 306 Tw) (Ba 306) (@ub Nf Gs CN 2 AD AC 306 Tw dF) Wk BY4)
noncomputable def cX:List ED:=⟨.ref 306,[],Pr,3,AD,AC,λ_ _ _ u=>⟨Em rfl,Ak3.any u⟩⟩::Nf
theorem dH:DZ (Aw 313 Tz)=AC:=by kernel_rfl
theorem BY6:(ub cX Gs CN 4 AC AC dH).1=bt:=by kernel_rfl
theorem Af2:DN 313 (Bc 313) (Aw 313 Tz) ["come","sender"] [] (Ba 313):=
 ⟨⟨_,KX _ _ rfl,rfl⟩,⟨_,_,_,_,rfl,KX _ _ rfl,rfl,rfl⟩,rfl,rfl,rfl,rfl,rfl,rfl,rfl,λ_=>rfl,by decide,D6 rfl,Dr rfl,by decide⟩
theorem AN4:Ct (Bc 313) ["come","sender"] [] []:=Pa rfl λs a b=>Eg rfl
theorem Ak5:Bi AC 5 AC (.ref 313) [] K1:=D3 (CD dH) Af2 AN4 (@D7 AC 4 AC (Aw 313 Tz) (Ba 313) (@ub cX Gs CN 4 AC AC 313 Tz dH) bt BY6)
noncomputable def cZ:List ED:=⟨.ref 313,[],K1,5,AC,AC,λ_ _ _ u=>⟨Em rfl,Ak5.any u⟩⟩::cX
theorem dG:DZ (Aw 320 Tx)=AC:=by kernel_rfl
theorem BY5:(ub cZ Gs CN 4 AD AC dG).1=Wl:=by kernel_rfl
theorem Af1:DN 320 (Bc 320) (Aw 320 Tx) ["world","targets","k","who","number","word"] [] (Ba 320):=
 ⟨⟨_,KX _ _ rfl,rfl⟩,⟨_,_,_,_,rfl,KX _ _ rfl,rfl,rfl⟩,rfl,rfl,rfl,rfl,rfl,rfl,rfl,λ_=>rfl,by decide,D6 rfl,Dr rfl,by decide⟩
theorem AN3:Ct (Bc 320) ["world","targets","k","who","number","word"] [] []:=bn6 rfl λs a b c d e f=>Eg rfl
theorem Ak4:Bi AD 5 AC (.ref 320) [] Nh:=D3 (CD dG) Af1 AN3 (@D7 AD 4 AC (Aw 320 Tx) (Ba 320) (@ub cZ Gs CN 4 AD AC 320 Tx dG) Wl BY5)
noncomputable def cY:List ED:=⟨.ref 320,[],Nh,5,AD,AC,λ_ _ _ u=>⟨Em rfl,Ak4.any u⟩⟩::cZ
theorem dD:DZ (Aw 325 Tv)=AC:=by kernel_rfl
theorem BY2:(ub cY Gs CN 2 AD AC dD).1=bo:=by kernel_rfl
theorem Ae8:DN 325 (Bc 325) (Aw 325 Tv) ["world"] ["heads","lines"] (Ba 325):=
 ⟨⟨_,KX _ _ rfl,rfl⟩,⟨_,_,_,_,rfl,KX _ _ rfl,rfl,rfl⟩,rfl,rfl,rfl,rfl,rfl,rfl,rfl,λ_=>rfl,by decide,D6 rfl,Dr rfl,by decide⟩
theorem AN0:Ct (Bc 325) ["world"] [] []:=L2 rfl λs a=>Eg rfl
theorem Ak1:Bi AD 3 AC (.ref 325) [] W3:=D3 (CD dD) Ae8 AN0 (@D7 AD 2 AC (Aw 325 Tv) (Ba 325) (@ub cY Gs CN 2 AD AC 325 Tv dD) bo BY2)
noncomputable def S2:List ED:=⟨.ref 325,[],W3,3,AD,AC,λ_ _ _ u=>⟨Em rfl,Ak1.any u⟩⟩::cY
theorem ct:DZ (Aw 227 Ti)=AC:=by kernel_rfl
theorem BX2:(ub S2 Gs CN 6 AD AC ct).1=bf:=by kernel_rfl
theorem Ad8:DN 227 (Bc 227) (Aw 227 Ti) ["self","name"] [] (Ba 227):=
 ⟨⟨_,KX _ _ rfl,rfl⟩,⟨_,_,_,_,rfl,KX _ _ rfl,rfl,rfl⟩,rfl,rfl,rfl,rfl,rfl,rfl,rfl,λ_=>rfl,by decide,D6 rfl,Dr rfl,by decide⟩
theorem AM0:Ct (Bc 227) ["self","name"] [] []:=Pa rfl λs a b=>Eg rfl
theorem Aj1:Bi AD 7 AC (.ref 227) [] W2:=D3 (CD ct) Ad8 AM0 (@D7 AD 6 AC (Aw 227 Ti) (Ba 227) (@ub S2 Gs CN 6 AD AC 227 Ti ct) bf BX2)
noncomputable def Jr:Ni:=λm k q=>if h:L0 7 AD AC m k q then AA ⟨fL 295 W2,A66 (Ps (f:=227) (n:="__contains__") (by kernel_rfl) ⟨_,rfl,rfl⟩ ⟨_,rfl⟩) (Aj1.any ⟨h.1,nofun,h.3⟩)⟩else AB
theorem dC:DZ (Aw 330 N6)=AC:=by kernel_rfl
theorem BY1:(ub S2 Gs Jr 10 AC AC dC).1=Ss:=by kernel_rfl
theorem Ae7:DN 330 (Bc 330) (Aw 330 N6) ["world","kind","i","k"] ["name","comp","heads"] (Ba 330):=
 ⟨⟨_,KX _ _ rfl,rfl⟩,⟨_,_,_,_,rfl,KX _ _ rfl,rfl,rfl⟩,rfl,rfl,rfl,rfl,rfl,rfl,rfl,λ_=>rfl,by decide,D6 rfl,Dr rfl,by decide⟩
theorem AM9:Ct (Bc 330) ["world","kind","i","k"] [] []:=bn4 rfl λs a b c d=>Eg rfl
theorem Ak0:Bi AC 11 AC (.ref 330) [] Hl:=D3 (CD dC) Ae7 AM9 (@D7 AC 10 AC (Aw 330 N6) (Ba 330) (@ub S2 Gs Jr 10 AC AC 330 N6 dC) Ss BY1)
noncomputable def S1:List ED:=⟨.ref 330,[],Hl,11,AC,AC,λ_ _ _ u=>⟨Em rfl,Ak0.any u⟩⟩::S2
theorem cy:DZ (Aw 259 Tn)=AC:=by kernel_rfl
theorem BX6:(ub S1 Gs Jr 2 AD AD cy).1=bj:=by kernel_rfl
theorem Ae2:DN 259 (Bc 259) (Aw 259 Tn) ["self"] [] (Ba 259):=
 ⟨⟨_,KX _ _ rfl,rfl⟩,⟨_,_,_,_,rfl,KX _ _ rfl,rfl,rfl⟩,rfl,rfl,rfl,rfl,rfl,rfl,rfl,λ_=>rfl,by decide,D6 rfl,Dr rfl,by decide⟩
theorem AM4:Ct (Bc 259) ["self"] [] []:=L2 rfl λs a=>Eg rfl
theorem Aj5:Bi AD 3 AD (.ref 259) [] Pq:=D3 (CD cy) Ae2 AM4 (@D7 AD 2 AD (Aw 259 Tn) (Ba 259) (@ub S1 Gs Jr 2 AD AD 259 Tn cy) bj BX6)
noncomputable def P4:List Ir:=⟨"items",[],⟨Cz 295 "items", .ref 259,Pq⟩,3,AD,AD,λ_ _ _ u=>TN (Ps (f:=259) (n:="items") (by kernel_rfl) ⟨_,rfl,rfl⟩ ⟨_,rfl⟩) (Em rfl) (Aj5.any u)⟩::Gs
theorem dE:DZ (Aw 337 QM)=AC:=by kernel_rfl
theorem BY3:(ub S1 P4 Jr 10 AD AC dE).1=Wj:=by kernel_rfl
theorem Ae9:DN 337 (Bc 337) (Aw 337 QM) ["table","name","word"] [] (Ba 337):=
 ⟨⟨_,KX _ _ rfl,rfl⟩,⟨_,_,_,_,rfl,KX _ _ rfl,rfl,rfl⟩,rfl,rfl,rfl,rfl,rfl,rfl,rfl,λ_=>rfl,by decide,D6 rfl,Dr rfl,by decide⟩
theorem AN1:Ct (Bc 337) ["table","name","word"] [] []:=bJ rfl λs a b c=>Eg rfl
theorem Ak2:Bi AD 11 AC (.ref 337) [] I1:=D3 (CD dE) Ae9 AN1 (@D7 AD 10 AC (Aw 337 QM) (Ba 337) (@ub S1 P4 Jr 10 AD AC 337 QM dE) Wj BY3)
noncomputable def cW:List ED:=⟨.ref 337,[],I1,11,AD,AC,λ_ _ _ u=>⟨Em rfl,Ak2.any u⟩⟩::S1
theorem cz:DZ (Aw 201 To)=AC:=by kernel_rfl
theorem BX7:(ub cW P4 Jr 2 AD AC cz).1=bl:=by kernel_rfl
theorem Ae3:DN 201 (Bc 201) (Aw 201 To) ["self"] [] (Ba 201):=
 ⟨⟨_,KX _ _ rfl,rfl⟩,⟨_,_,_,_,rfl,KX _ _ rfl,rfl,rfl⟩,rfl,rfl,rfl,rfl,rfl,rfl,rfl,λ_=>rfl,by decide,D6 rfl,Dr rfl,by decide⟩
theorem AM5:Ct (Bc 201) ["self"] [] []:=L2 rfl λs a=>Eg rfl
theorem Aj6:Bi AD 3 AC (.ref 201) [] df:=D3 (CD cz) Ae3 AM5 (@D7 AD 2 AC (Aw 201 To) (Ba 201) (@ub cW P4 Jr 2 AD AC 201 To cz) bl BX7)
noncomputable def ol:List ED:=⟨.builtin "len",[],I6,4,AD,AC,λ_ _ _ u=>⟨MB,Bi.any (BA.callP (.alt bL (AQ8 (Ps (f:=201) (n:="__len__") (by kernel_rfl) ⟨_,rfl,rfl⟩ ⟨_,rfl⟩) Aj6))) u⟩⟩::cW
theorem dM:DZ (Aw 342 T6)=AC:=by kernel_rfl
theorem BZ1:(ub ol P4 Jr 20 AC AC dM).1=Wp:=by kernel_rfl
theorem Af7:DN 342 (Bc 342) (Aw 342 T6) ["script"] ["x","words","factors"] (Ba 342):=
 ⟨⟨_,KX _ _ rfl,rfl⟩,⟨_,_,_,_,rfl,KX _ _ rfl,rfl,rfl⟩,rfl,rfl,rfl,rfl,rfl,rfl,rfl,λ_=>rfl,by decide,D6 rfl,Dr rfl,by decide⟩
theorem AN9:Ct (Bc 342) ["script"] [] []:=L2 rfl λs a=>Eg rfl
theorem Al2:Bi AC 21 AC (.ref 342) [] Nk:=D3 (CD dM) Af7 AN9 (@D7 AC 20 AC (Aw 342 T6) (Ba 342) (@ub ol P4 Jr 20 AC AC 342 T6 dM) Wp BZ1)
end
section
open PySem.Calls
set_option maxHeartbeats 8000000
theorem AR6:aW ⟨.builtin "claim.caller" {},AB,AB,[],AB⟩:= .inl (by decide+kernel)
theorem Ab2{prog:Fk}{w:C6}{t:Ao PySem.Fin}{s:AN}{R:EQ->AN->Prop}(zM:s.asleep)
  (h:wq AC (Bo prog w) Od t (λfin s'=>∃f,fin= .done f/\(R (.ok f) s'/\Oh s'.gens=AD)) (λe s'=>R (.error e) s'/\Oh s'.gens=AD) s):
  ∃n r s' He,runN (Lb JQ) prog w n s ⟨t, .builtin "claim.caller" {},default,[]⟩= .halted (U_ r) s'/\
   schedN (Lb JQ) prog w n (.single s ⟨t, .builtin "claim.caller" {},default,[]⟩)= .halted (U_ r) s'/\s'.forget=He.forget/\R r He:=by
 have hw:Ux (Bo prog w) ⟨.builtin "claim.caller" {},AB,AB,[],AB⟩ t (Sem.finPost (Bo prog w) ⟨.builtin "claim.caller" {},AB,AB,[],AB⟩ λr s'=>R r s'/\Oh s'.gens=AD) (λe _ s'=>R (.error e) s'/\Oh s'.gens=AD) default s:=
  OT _ _ t (λfin p' s' h'=>by obtain⟨f,rfl,hf⟩:=h';exact hf) (λ_ _ _ h'=>h') default s (h _ default caller_in λ_=>AR6)
 obtain⟨n,r,A0,E8,hs,hn,Ri,hR⟩:=wp_halts_full (M:=Bo prog w) (R:=R) zM hw
 exact⟨n,r,E8,A0,hn,hs,Ri,hR⟩
abbrev rW:OpenRow:=OO.row
noncomputable def ar(d:Us):Prop:=
 ∀(w:C6) (s A0:AN) (mg mb:AQ->Option AE),Ground q5 P0 rW.records (XL q5 []) w s mg mb A0.heap->K2.says w A0.heap->0<s.toks->∀(a:AK),mg d.name=AA (.ref a)->A0.gens= #[]->
  ∀(args:List Oc) (Cq:List AE) (as:List AK) ord,layAllW rW.records (J8 s.heap) w.params ord args s=AA (Cq,A0)->rW.claim.pre args=AC->ZB args=AC->ReadsAllW rW.records (J8 s.heap) A0.heap Cq args as->WellAll w.params A0.heap Cq args->(∀a∈as,(a==Lc)=AD)->
   wq AC (Bo rW.prog w) Od (ZF (.ref a) Cq) (λv s'=>U1 rW.claim (J8 s.heap) (Ut s.heap) args A0 (.ok (.ret v)) s')
    (λe s'=>U1 rW.claim (J8 s.heap) (Ut s.heap) args A0 (.error e) s') A0
noncomputable abbrev WB(s:AN)(args:List Oc)(vs:List AE)(A0:AN)(rr:EQ)(s':AN):Prop:=rW.claim.Ends s args vs A0 rr s'/\s'.os=s.os
section
variable{w:C6}{s A0:AN}{args:List Oc}{vs:List AE}{as:List AK}
theorem oa{rr:EQ}{s':AN}(L:Laid rW.records w s A0 args vs as)(g:U1 rW.claim (J8 s.heap) (Ut s.heap) args A0 rr s'):WB s args vs A0 rr s'/\Oh s'.gens=AD:=by
 obtain⟨KU,hu,ha,yZ,_⟩:=frees_parts (r:=rW.toRowW) (by rfl)
 have z:=g.laid (c:=rW.claim) KU (Uc.mp (by rfl:rW.within.isEmpty=AC)) (ident_freeW hu ha yZ) L
 exact⟨⟨z.1,z.2.1⟩,leftWithCleanup_false_of_bare z.2.2⟩
theorem AU3{mg:AQ->Option AE}{a:AK}(T:A0.heap.Ns Ia mg)(h1:mg rW.name=AA (.ref a))(L:Laid rW.records w s A0 args vs as)
  (Ze:wq AC (Bo rW.prog w) Od (ZF (.ref a) vs) (λv s'=>U1 rW.claim (J8 s.heap) (Ut s.heap) args A0 (.ok (.ret v)) s') (λe s'=>U1 rW.claim (J8 s.heap) (Ut s.heap) args A0 (.error e) s') A0):
  wq AC (Bo rW.claim.prog w) Od (do match<-nsGet mainNs rW.name with
   |some f=>do ret (<-ZF f vs)
   |none=>jG "claim.caller:no-such-global") (λfin s'=>∃f,fin= .done f/\(WB s args vs A0 (.ok f) s'/\Oh s'.gens=AD)) (λe s'=>WB s args vs A0 (.error e) s'/\Oh s'.gens=AD) A0:=
 Bm (wq.of (wpAny_nsGet T (by rw[h1];exact Bm (OC Ze (λv s' g=>EM ⟨_,rfl,oa L g⟩) λe s' g=>oa L g))))
end
inductive mE(w:C6)(s:AN)(args:List Oc)(ord:List GF->List GF):Prop
 |mk (vs:List AE) (A0 s':AN) (n:Nat) (rr:EQ) (at_:layAllW rW.records (J8 s.heap) w.params ord args s=AA (vs,A0)) (run:schedN (Lb JQ) rW.prog w n (.single A0 (callStub rW.name vs))= .halted (U_ rr) s') (Bg2:rW.claim.Ends s args vs A0 rr s') (life:s'.heap.life=s.heap.life) (os:xV s'=xV s)
theorem BD5{w:C6}{s:AN}{mg mb:AQ->Option AE}{d:Us}{O9:List (AQ×Ab)}(Rh:Q8 q5 rW.name=AA (d,O9))(call:ar d)(G:Ground q5 P0 rW.records (XL q5 []) w s mg mb s.heap)(Y:K2.says w s.heap)(ht:0<s.toks)(hz:s.asleep)(Ii:s.gens= #[])
  {args:List Oc} {ord:List GF->List GF} (JZ:rW.claim.pre args=AC) (Lk:ZB args=AC) (O0:∀l,(ord l).Perm l):mE w s args ord:=by
 obtain⟨⟨vs,A0⟩,FN⟩:=Y1.mp (layAllW_isSome (P:=w.params) (ord:=ord) G.has args rW.args s (pre_splitW JZ).1)
 have Z7:=layAllW_keeps _ _ _ FN
 have KF:=layAllW_rest _ _ _ FN
 obtain⟨as,Ru,Gh,zI⟩:=reads_layAllW O0 _ _ _ FN Lk A0.heap (λ_ _ e=>e)
 have L:Laid rW.records w s A0 args vs as:=⟨⟨ord,O0,FN⟩,Ru,Gh,zI,Z7,KF.1.trans Ii,KF.2.2.1⟩
 have G₁:=G.keeps XL.keeps Z7
 obtain⟨a,h1⟩:∃a,mg rW.name=AA (.ref a):=(G₁.fn Rh).imp λ_ h=>h.elim λ_ h=>h.elim λ_ h=>h.elim λ_ h=>h.elim λ_ h=>h.elim λ_ h=>h.elim λ_ h=>h.1
 have Ze:=call w s A0 _ _ G₁ (K2.keeps _ _ _ Y Z7) ht a (defOf_name Rh▸h1) L.gens args vs as ord FN JZ Lk L.reads L.well (L.low G.low)
 obtain⟨k,rr,s',He,zO,zP,Ri,ye,zK⟩:=Ab2 (prog:=rW.claim.prog) (w:=w) (s:=A0) (R:=WB s args vs A0) (Shared.asleep_of_life KF.2.2.2 hz) (AU3 G₁.T.g h1 L Ze)
 obtain⟨eh,_,_,eo,_⟩:=Shared.forget_eq Ri
 exact⟨vs,A0,s',k,rr,FN,zP,ye.congr eh,(runN_life _ _ _ zO).trans KF.2.2.2,Shared.rest_eq (eo▸zK)⟩
theorem AQ4{w:C6}{lr s:AN}(Ii:s.gens= #[])(h:∀{args ord},rW.claim.pre args=AC->ZB args=AC->(∀l,(ord l).Perm l)->mE w s args ord):
  rW.claim.CallFrom (callStub rW.name) w (λb=>rW.writes=AC/\madeByTheTop lr s b) (rW.writes=AD) (λh'=>rW.writes=AC->namesKept rW.claim.prog rW.keeps s.heap h'/\∀x∈rW.claim.records,∀a,J8 s.heap x.1=AA a->recordClass h' a x.1 (x.2.map (·.1))=AC) s:=λargs JZ Lk ord O0=>
 match h JZ Lk O0 with
 |⟨vs,A0,s',n,rr,h1,h2,h3,h4,h5⟩=>⟨vs,A0,h1,n,_,s',h2,h3.imp (λh=>h.imp λv h=>⟨congrArg U_ h.1,h.2.1,h.2.2.1,h.2.2.2.1,λb o y _=>h.2.2.2.2.1 b o y,h.2.2.2.2.2⟩) λh=>h.imp λe h=>h.imp λob h=>h.imp λcls h=>⟨congrArg U_ h.1,h.2.1,h.2.2.1,h.2.2.2.1,h.2.2.2.2.1,λb o y _=>h.2.2.2.2.2 b o y⟩,(λ_ i x hx=>by rw[Ii]at hx;cases (UV.mp hx).1),(λh=>by cases h),by rw[h4],h5⟩
theorem Am3{d:Us}{O9:List (AQ×Ab)}(Rh:Q8 q5 rW.name=AA (d,O9))(hp:rW.prog.theDef rW.name=AA (d.params,d.body,d.scope))(hk:kwWritten? d.params.kwonlyargs d.params.kw_defaults=AA O9)
  (k1:rW.wellSaid=AC) (hw:rW.toRowW.promised) (call:ar d):rW.Holds:=by
 have hX:∀s,uq s=AC->XL q5 [] (s.heap.nsMap Ia) s.heap/\RecFacts rW.records s.heap:=λs e=>⟨xl_of s (IR.mp e).1,recFacts_of (IR.mp e).2⟩
 have KG:chainsOk q5=AC:=by rfl
 refine⟨k1,hw,⟨⟨⟨rfl,rfl,rfl,rfl,rfl,by decide+kernel⟩,by decide+kernel,by rfl⟩,hw.witness,λw=>⟨(lf.behind (λs e=>(hX s e).1) KG w).1,λs' Lp=>?_⟩⟩⟩
 obtain⟨BH,hf,yt,s,hT,hz,Ii,hg,G00,y⟩:=(lf.behind (XP:=λmg h=>XL q5 [] mg h/\RecFacts rW.records h) hX KG w).2 s' Lp
 have G0:Ground q5 P0 [] (XL q5 []) w s (s.heap.nsMap Ia) (s.heap.nsMap U3) s.heap:=⟨G00.T,G00.B,G00.D,G00.TE,G00.TD,G00.W,G00.X.1,G00.cls,G00.has,G00.apart,G00.once,G00.K⟩
 have RF:=G00.X.2
 refine⟨BH,hf,yt,s,hT,?_,RF.1,RF.2.1,?_⟩
 ·intro n hn
  obtain rfl:n=rW.name:=by split at hn<;>simp_all
  exact pinned_of_view hg G0 Rh hp hk
 have Ii:=uu (beq_iff_eq.mp Ii)
 exact AQ4 Ii (BD5 Rh call (RF.ground G0) (K2.of _ _ (congrArg iR y)) (of_decide_eq_true (congrArg Prod.snd y)) hz Ii)
noncomputable section
noncomputable def uZ:Wd:=⟨[],λ_=>False,λ_=>False⟩
noncomputable abbrev σ₀:St:=⟨uZ,[],BH⟩
theorem rS{a:AK}(h:uZ.om a):False:=by obtain⟨p,hp,_⟩:=h;first|exact Af hp|cases hp
theorem Bc9{P:Params}{h:BS}{σ:St}{xs:List Int}:∀{vs:List AE},WellAll P h vs (ofPys (xs.map .int))->Vs σ (xs.map .int) vs:=by
 induction xs with
 |nil=>intro vs x;cases x;rfl
 |cons n xs ih=>
  intro vs x
  cases x with
  |cons a b=>
   cases a
   exact⟨_,_,rfl,⟨_,rfl⟩,ih b⟩
theorem ok0:Ok σ₀:=⟨rfl,λi j p q h=>(by cases h),λa h=>(rS h).elim,λa h=>h.elim,λa h=>h.elim,λb o h=>h,rfl,rfl,λi o p h=>(by cases h)⟩
theorem As3(plain:∀xs:List Int,xs.length<=63->Nk [.lst (xs.map .int)] []= .ok (.bool AC) []):PP UU:=λl xs hx hw Q E hQ=>by
 have hv:Vs σ₀ [.lst (xs.map .int)] [.ref l]:=by
  cases hw with
  |list h1 h2=>exact .one ⟨_,_,rfl,⟨_,h1,λq=>q⟩,Bc9 h2⟩
 have hR:Bs Od 21 AC σ₀:=⟨by decide,by decide,λ_=>rfl,[],rfl,λe h=>absurd h D9⟩
 exact Al2 Od σ₀ _ [.ref l] [] hR ok0 hv rfl (by rw[show σ₀.o=[]from rfl,plain xs hx];exactλz=>by cases z) BT0 Q E (λa v τ e st ok h=>by
  have e:Nk [.lst (xs.map .int)] []=_:=e
  rw[plain xs hx]at e
  injection e with e1 e2
  subst e1
  cases h
  exact hQ τ.s (λb o h=>(st.kept b o h rS id).1 id) ok.os ok.gens) λc v τ e=>by
  have e:Nk [.lst (xs.map .int)] []=_:=e
  rw[plain xs hx]at e;first|exact Af e|cases e
theorem As1{w:C6}{h:BS}{mg:AQ->Option AE}(g:h.Ns Ia mg)(k:(K5 w.params).In h):mg "law"=AA (.ref 342):=(rN g k (a:=3) rfl _).trans (by kernel_rfl)
theorem As4{R:WRecords}{cl:AQ->Option AK}{P:Params}{ord:List GF->List GF}{xs:List Int}{s A0:AN}{Cq:List AE}(h:layAllW R cl P ord [ofPy (.list (xs.map .int))] s=AA (Cq,A0)):s.toks<=A0.toks:=by
 obtain⟨a,q,h1,h2,e⟩:=layAllW_cons h
 obtain⟨r,h3,rfl⟩:=layW_list h1
 have h2:AA _=AA q:=h2
 cases h2
 cases e
 exact(PySem.W.X.lay_ints_toks xs s r h3:s.toks<=r.2.toks)
inductive AF5(w:C6)(A0:AN)(args:List Oc)(Cq:List AE):Prop
 |mk (xs:List Int) (b:AK) (ha:args=[ofPy (.list (xs.map .int))]) (hv:Cq=[.ref b]) (hx:xs.length<=63) (w1:Well w.params A0.heap (.ref b) (ofPy (.list (xs.map .int))))
theorem AK4{w:C6}{s A0:AN}{args:List Oc}{Cq:List AE}{as:List AK}(JZ:rW.claim.pre args=AC)(Lk:ZB args=AC)(Ru:ReadsAllW rW.records (J8 s.heap) A0.heap Cq args as)(Jb:WellAll w.params A0.heap Cq args)(Ow:∀a∈as,(a==Lc)=AD):AF5 w A0 args Cq:=by
 have zg:=Jb
 wrow_args JZ Lk Ru Jb Ow
 cases zg with
 |cons w1 _=>exact⟨_,_,rfl,rfl,by lia,w1⟩
theorem Bd1(plain:∀xs:List Int,xs.length<=63->Nk [.lst (xs.map .int)] []= .ok (.bool AC) []){d:Us}{O9:List (AQ×Ab)}(hd:Q8 q5 rW.name=AA (d,O9)):ar d:=by
 intro w s A0 mg mb G Y ht a kB Ii args Cq as ord FN JZ Lk Ru Jb Ow
 rw[defOf_name hd]at kB
 have ea:=Value.ref.inj (CU (kB.symm.trans (As1 G.T.g (kIn_of Y))))
 obtain⟨xs,b,rfl,rfl,hx,w1⟩:=AK4 JZ Lk Ru Jb Ow
 rw[ea]
 exact As0 (As3 plain) _ (pP G.T (kIn_of Y) Ii (CI ht (As4 FN))) _ _ hx w1 _ _ λs' h1 h2 h3=>GoodW.toG ⟨.inl ⟨_, .bool AC,[],rfl,raisesW_false (by wrow_none_raised), .bool AC,by wrow_post,λ_=>⟨Qo,λa h=>by cases h⟩⟩,h1,h2,h3.trans Ii⟩
theorem oK:(Q8 q5 rW.name).isSome=AC:=by kernel_rfl
noncomputable def oQ:Us×List (AQ×Ab):=(Q8 q5 rW.name).get oK
theorem oR:Q8 q5 rW.name=AA (oQ.1,oQ.2):=(Option.some_get oK).symm
theorem Am2(plain:∀xs:List Int,xs.length<=63->Nk [.lst (xs.map .int)] []= .ok (.bool AC) []):OO.Holds:=
 holds_law (by decide+kernel) λAE1=>Am3 oR (by kernel_rfl) (by kernel_rfl) AE1 (by w_witness2) (Bd1 plain oR)
end
end
section
variable{a b:DS}{d e f:D}{t u:DT}{l:DL}{g:DG}{p:PG}{v v' w':AY}{o o' o1 o2:AL}{c x y z:CV}{cs:List CV}{r:RS}{R':R CV}{i:Nat}
theorem Sq(h:a v o= .next v' o')(k:b v' o'=r):AM a b v o=r:=by unfold AM;rw[h];exact k
theorem Sr(h:a v o= .ret c o'):AM a b v o= .ret c o':=by unfold AM;rw[h];rfl
theorem Se(h:a v o= .err c v' o'):AM a b v o= .err c v' o':=by unfold AM;rw[h];rfl
theorem Sb(h:a v o= .brk v' o'):AM a b v o= .brk v' o':=by unfold AM;rw[h];rfl
theorem As(h:e v o= .ok c o')(hv:v.set i (AA c)=v'):Ar e (AX i) v o= .next v' o':=by unfold Ar;rw[h,<-hv];rfl
theorem Ag(h:e v o= .ok c o')(k:g c v o'=r):Ar e g v o=r:=by unfold Ar;rw[h];exact k
theorem It(h:t v o= .ok AC o')(k:a v o'=r):Br t a b v o=r:=by unfold Br;rw[h];exact k
theorem If(h:t v o= .ok AD o')(k:b v o'=r):Br t a b v o=r:=by unfold Br;rw[h];exact k
theorem Bn(h:d v o= .ok x o1)(h':e v o1= .ok y o2)(k:p [x,y] o2=R'):AJ p d e v o=R':=by unfold AJ;rw[h];show(e v o1).bind _=_;rw[h'];exact k
theorem Hf(h:d v o= .ok x o1)(h':e v o1= .ok y o2)(h2:f v o2= .ok z o')(k:p [x,y,z] o'=R'):DY p d e f v o=R':=by unfold DY;rw[h];show(e v o1).bind _=_;rw[h'];show(f v o2).bind _=_;rw[h2];exact k
theorem Ts{bb:Bool}(h:d v o= .ok (.bool bb) o'):Aq d v o= .ok bb o':=by unfold Aq;rw[h];rfl
theorem Cl(h:l v o= .ok cs o')(k:p cs o'=R'):A_ p l v o=R':=by unfold A_;rw[h];exact k
theorem Cn{l:DL}(h:d v o= .ok x o1)(k:l v o1= .ok cs o2):AH d l v o= .ok (x::cs) o2:=by unfold AH;rw[h];show(l v o1).bind _=_;rw[k];rfl
theorem Rt(h:e v o= .ok c o'):Bb e v o= .ret c o':=by unfold Bb Pe;rw[h];rfl
theorem Ra{k:AE}{m:T}(h:e v o= .ok (.str m) o'):HF k e v o= .err (.exc k (AA m)) v o':=by unfold HF;rw[h];rfl
theorem Ms{ms:List Me}{is:AL->CV->Bool}{fv:AE}{g:PG}(h:d v o= .ok x o1)(hm:ms.find? (λy=>y.is o1 x)=AA ⟨is,fv,g⟩)(h':l v o1= .ok cs o2)(k:g (x::cs) o2=R'):BC ms d l v o=R':=by unfold BC;rw[h];show(ms.find? _).elim _ _=_;rw[hm];show(l v o1).bind _=_;rw[h'];exact k
theorem Ot(h:t v o= .ok AC o'):GS t u v o= .ok AC o':=by unfold GS;rw[h];rfl
theorem Of{k:R Bool}(h:t v o= .ok AD o')(k':u v o'=k):GS t u v o=k:=by unfold GS;rw[h];exact k'
noncomputable abbrev Ch(o:AL):Prop:=o.all (H' o.length)=AC
theorem dW{o:AL}{n k:Nat}{c:CV}(hc:C8 n c=AC):IE o n (k+1) c=AA c:=if_pos hc
theorem fin_same{o:AL}{c:CV}(h:Ch o)(hc:C8 o.length c=AC):fin o.length c o= .ok c o:=by
 unfold fin;rw[OK,if_pos h,dW hc];rfl
theorem Ag3{o e:AL}{c:CV}(h:Ch o)(hc:C8 o.length c=AC):fin o.length c (o++e)= .ok c o:=by
 unfold fin;rw[iJ,if_pos h,dW hc];rfl
theorem Ag2{o:AL}{cls:AE}{m:Option T}(h:Ch o):dT o.length (.exc cls m) o= .err (.exc cls m) o:=by
 unfold dT;rw[OK];exact if_pos h
theorem F_{fx:Fx}{ps:List AQ}{E6:List CV}(hn:(cs++E6).length=ps.length)(h:a (Fg fx (cs++E6)) o= .ret c o)(hc:Ch o)(hb:C8 o.length c=AC):CM fx ps E6 a cs o= .ok c o:=by
 unfold CM;rw[if_pos hn,h];exact fin_same hc hb
theorem Iz{fx:Fx}{ps:List AQ}{E6:List CV}{k:AE}{m:Option T}(hn:(cs++E6).length=ps.length)(h:a (Fg fx (cs++E6)) o= .err (.exc k m) v o)(hc:Ch o):CM fx ps E6 a cs o= .err (.exc k m) o:=by
 unfold CM;rw[if_pos hn,h];exact Ag2 hc
theorem WY(i n d:Nat):Cx (AA (i:Int)) n d=min i n:=by
 show(max 0 (min (if(i:Int)<0 then _ else(i:Int)) (n:Int))).toNat=_
 rw[if_neg (LK.mpr (Fi i)),Int.min_def,iN]
 by_cases h:i<=n
 ·rw[if_pos h,if_pos (JB.mpr h),Yd (Fi _)]
  rfl
 ·rw[if_neg h,if_neg λz=>h (JB.mp z),Yd (Fi _)]
  rfl
theorem NT{α:Type}(l:List α)(i:Nat):Cy l AB (AA (i:Int))=l.take i:=by
 show(l.drop 0).take (Cx (AA (i:Int)) l.length l.length - 0)=_
 simp only[WY,Nat.sub_zero,g7,iN]
 split
 ·rfl
 ·rename_i h;rw[OK,Yt (iL h)]
theorem nu{α:Type}(l:List α)(i:Nat):Cy l (AA (i:Int)) AB=l.drop i:=by
 show(l.drop (Cx (AA (i:Int)) l.length 0)).take (l.length - Cx (AA (i:Int)) l.length 0)=_
 rw[WY,iN]
 split
 ·exact Yt (by rw[OI];exact BL _)
 ·rename_i h;simp only[LR,wE,List.drop_of_length_le (iL h)]
theorem bY{α:Type}(l:List α)(i j:Nat)(hi:i<=l.length)(hj:j<=l.length):Cy l (AA (i:Int)) (AA (j:Int))=(l.drop i).take (j - i):=by
 show(l.drop (Cx (AA (i:Int)) l.length 0)).take (Cx (AA (j:Int)) l.length l.length - Cx (AA (i:Int)) l.length 0)=_
 simp only[WY,WY,LO hi,LO hj]
theorem Kq{α:Type}(l:List α)(i:Nat):at? l (i:Int)=l[i]?:=by
 unfold at?
 rw[if_pos (Fi i)]
 rfl
theorem MP{n:Nat}(h:n<1073741824):B1 (n:Int)=AC:=decide_eq_true h
end
section
variable{a b:DS}{t:DT}{v v':AY}{o o' o1:AL}{c d x y z:CV}{r:RS}{n:Nat}{s s':T}{i j:Int}
theorem F3(h:s.length+s'.length<=16777216):Ai [.str s, .str s'] o= .ok (.str (s++s')) o:=by
 show(match(if s.length+s'.length<=16777216 then R.ok (CV.str (s++s')) o else .no)with| .no=>_|r=>r)=_
 rw[if_pos h]
theorem N8{p q:Option Int}(hp:F5 o x=AA p)(hq:F5 o y=AA q)(h:s.length<=Ah):C1 [.str s,x,y] o= .ok (.str (Cy s p q)) o:=by
 show(match((F5 o x).elim R.no λp=>(F5 o y).elim R.no λq=>if s.length<=Ah then R.ok (CV.str (Cy s p q)) o else .no)with| .no=>_|r=>r)=_
 rw[hp,hq]
 show(match(if s.length<=Ah then R.ok (CV.str (Cy s p q)) o else .no)with| .no=>_|r=>r)=_
 rw[if_pos h]
theorem Px{c:Nat}(hs:B1 i=AC)(h:at? s i=AA c):AW [.str s, .int i] o= .ok (.str [c]) o:=by
 show(match Iv _ s i o with| .no=>_|r=>r)=_
 unfold Iv
 rw[if_pos hs,h]
 rfl
theorem As9(h:s.length<=Ah):Ho [.str s] o= .ok (.int s.length) o:=by
 show(match(if s.length<=Ah then R.ok (CV.int s.length) o else .no)with| .no=>_|r=>r)=_
 rw[if_pos h]
theorem Wt(h:t v o= .ok AC o1)(k:XM (b v o1) (IQ t b n)=r):IQ t b (n+1) v o=r:=by
 show(t v o).opt.elim _ _=_
 rw[h];exact k
theorem Wf(h:t v o= .ok AD o1):IQ t b (n+1) v o= .next v o1:=by
 show(t v o).opt.elim _ _=_
 rw[h];rfl
noncomputable def FE:T->T
 |[]=>[]
 |c::r=>if(c==34)=AC then(match r with
  |[]=>[]
  |d::r'=>if(d==34)=AC then 34::FE r' else [])else c::FE r
noncomputable def YG:DT:=(Aq (AJ Js (AF 2) (AF 3)))
noncomputable def PW:DS:=(AM (Ar (AJ AW (AF 0) (AF 2)) (AX 4))
  (AM (Ar (AJ Ai (AF 2) (AG (.int 1))) (AX 2))
  (AM (Br (Aq (AJ BV (AF 4) (AG (.str [34])))) (AM (Br (GS (Aq (AJ Xf (AF 2) (AF 3))) (GS (Aq (AJ Dq (AJ AW (AF 0) (AF 2)) (AG (.str [34])))) Pf)) (AM Wg
  AZ) AZ)
  (AM (Ar (AJ Ai (AF 2) (AG (.int 1))) (AX 2))
  AZ)) AZ)
  (AM (Ar (AJ Ai (AF 1) (AF 4)) (AX 1))
  AZ))))
noncomputable abbrev S5(x d:T)(i n:Nat)(c:Option CV):AY:=[AA (.str x),AA (.str d),AA (.int i),AA (.int n),c]
section
variable{x d r:T}{p n c c':Nat}{k:Option CV}(hp:p<1000)(h:x[p]? =AA c)(hd:d.length<1000)
include hp h
theorem gL:Ar (AJ AW (AF 0) (AF 2)) (AX 4) (S5 x d p n k) o= .next (S5 x d p n (AA (.str [c]))) o:=As (Bn rfl rfl (Px (MP (C4 hp (by decide))) ((Kq x p).trans h))) rfl
theorem A14(hd:d.length<1000)(hc:(c==34)=AD):PW (S5 x d p n k) o= .next (S5 x (d++[c]) (p+1) n (AA (.str [c]))) o:=
 Sq (gL hp h) (Sq (v':=S5 x d (p+1) n (AA (.str [c]))) rfl (Sq (If (Ts (congrArg (λb=>R.ok (CV.bool b) o) (by show(c==34&&AC)=AD;rw[hc];rfl))) rfl) (Sq (As (Bn rfl rfl (F3 (by show d.length+1<=_;exact AO hd (by decide)))) rfl) rfl)))
theorem BU5(hd:d.length<1000)(hc:c=34)(hn:p+1<n)(hp':p+1<1000)(h':x[p+1]? =AA 34):PW (S5 x d p n k) o= .next (S5 x (d++[34]) (p+2) n (AA (.str [34]))) o:=by
 subst hc
 exact Sq (gL hp h) (Sq (v':=S5 x d (p+1) n (AA (.str [34]))) rfl (Sq (It rfl (Sq (If (Of (Ts (congrArg (λb=>R.ok (CV.bool b) o) (decide_eq_false (λz=>Ul.mpr hn (JB.mp z))))) (Of (Ts (Bn (Bn rfl rfl (Px (MP (C4 hp' (by decide))) ((Kq x (p+1)).trans h'))) rfl rfl)) rfl)) rfl) (Sq (v':=S5 x d (p+2) n (AA (.str [34]))) rfl rfl))) (Sq (As (Bn rfl rfl (F3 (by show d.length+1<=_;exact AO hd (by decide)))) rfl) rfl)))
theorem oZ(hc:c=34)(he:n<=p+1\/p+1<n/\p+1<1000/\x[p+1]? =AA c'/\(c'==34)=AD):PW (S5 x d p n k) o= .brk (S5 x d (p+1) n (AA (.str [34]))) o:=by
 subst hc
 refine Sq (gL hp h) (Sq (v':=S5 x d (p+1) n (AA (.str [34]))) rfl (Sb (It rfl (Sb (It ?_ rfl)))))
 obtain he|⟨h1,h2,h3,h4⟩:=he
 ·exact Ot (Ts (congrArg (λb=>R.ok (CV.bool b) o) (decide_eq_true (JB.mpr he))))
 ·exact Of (Ts (congrArg (λb=>R.ok (CV.bool b) o) (decide_eq_false (λz=>Ul.mpr h1 (JB.mp z))))) (Ot (Ts (Bn (Bn rfl rfl (Px (MP (C4 h2 (by decide))) ((Kq x (p+1)).trans h3))) rfl (congrArg (λb=>R.ok (CV.bool b) o) (by show(!(c'==34&&AC))=AC;rw[h4];rfl)))))
end
theorem oV{x r:T}{p c:Nat}(h:x.drop p=c::r):x[p]? =AA c/\p<x.length/\x.drop (p+1)=r:=by
 have e:(x.drop p)[0]? =x[p]?:=JC
 rw[h]at e
 exact⟨e.symm,(Gb.mp e.symm).1,by rw[<-MS,h];rfl⟩
theorem uJ{c:Nat}(h:(c==34)=AD)(r:T):FE (c::r)=c::FE r:=by
 cases r with
 |nil=>show(if(c==34)=AC then []else c::FE [])=_;rw[h];rfl
 |cons d r=>show(if(c==34)=AC then _ else c::FE (d::r))=_;rw[h];rfl
theorem Bb4{c:Nat}(h:(c==34)=AD)(r:T):FE (34::c::r)=[]:=by show(if(c==34)=AC then _ else [])=_;rw[h];rfl
theorem uK(r:T):FE (34::34::r)=34::FE r:=rfl
theorem Bd0{x:T}{o:AL}(hx:x.length<999):∀(N:Nat) {s d:T} {p f:Nat} {k:Option CV},s.length<=N->x.drop p=s->s.length<f->d.length+s.length<1000->∃i' c',IQ YG PW f (S5 x d p x.length k) o= .next (S5 x (d++FE s) i' x.length c') o:=λN=>by
 induction N with
 |zero=>
  intro s d p f k hN hs hf hd
  cases Gy.mp (Yz.mp hN)
  obtain⟨f,rfl⟩:=wI (HV hf)
  have hp:=J1.mp hs
  exact⟨p,k,by rw[show FE []=[]from rfl,BJ];exact Wf (Ts (congrArg (λb=>R.ok (CV.bool b) o) (decide_eq_false (λz=>Cp.mpr hp (J0.mp z)))))⟩
 |succ N ih=>
  intro s d p f k hN hs hf hd
  obtain⟨f,rfl⟩:=wI (HV (Bg (D2 _) hf))
  cases s with
  |nil=>
   have hp:=J1.mp hs
   exact⟨p,k,by rw[show FE []=[]from rfl,BJ];exact Wf (Ts (congrArg (λb=>R.ok (CV.bool b) o) (decide_eq_false (λz=>Cp.mpr hp (J0.mp z)))))⟩
  |cons c r=>
   obtain⟨h1,h2,h3⟩:=oV hs
   rw[Du]at hN hf hd
   have ht:YG (S5 x d p x.length k) o= .ok AC o:=Ts (congrArg (λb=>R.ok (CV.bool b) o) (decide_eq_true (J0.mpr h2)))
   cases hc:c==34 with
   |false=>
    refine B7 (ih (s:=r) (d:=d++[c]) (p:=p+1) (f:=f) (k:=AA (.str [c])) (Hv hN) h3 (wM hf) (by rw[A1];exact Bg (BR (Er _ 1 _)) hd)) λi' c' e=>?_
    exact⟨i',c',Wt ht (by rw[A14 (C4 h2 (C4 hx (by decide))) h1 (Bg (GE _ _) hd) hc,uJ hc];show IQ YG PW f _ o=_;rw[e,B2];rfl)⟩
   |true=>
    have hc:=CH hc
    subst hc
    cases r with
    |nil=>
     have hp:=J1.mp h3
     exact⟨p+1,AA (.str [34]),Wt ht (by rw[oZ (c':=0) (C4 h2 (C4 hx (by decide))) h1 rfl (.inl hp),show FE [34]=[]from rfl,BJ];rfl)⟩
    |cons c2 r=>
     obtain⟨g1,g2,g3⟩:=oV h3
     rw[Du]at hN hf hd
     cases hc:c2==34 with
     |false=>exact⟨p+1,AA (.str [34]),Wt ht (by rw[oZ (C4 h2 (C4 hx (by decide))) h1 rfl (.inr ⟨g2,C4 g2 (C4 hx (by decide)),g1,hc⟩),Bb4 hc,BJ];rfl)⟩
     |true=>
      have hc:=CH hc
      subst hc
      refine B7 (ih (s:=r) (d:=d++[34]) (p:=p+2) (f:=f) (k:=AA (.str [34])) (Gz (Hv hN)) g3 (iM (wM hf)) (by rw[A1];exact Bg (BR (Er _ 1 _)) (iM hd))) λi' c' e=>?_
      exact⟨i',c',Wt ht (by rw[BU5 (C4 h2 (C4 hx (by decide))) h1 (Bg (GE _ _) hd) rfl g2 (C4 g2 (C4 hx (by decide))) g1,uK];show IQ YG PW f _ o=_;rw[e,B2];rfl)⟩
section
variable{x:T}{o:AL}(hc:Ch o)
include hc
theorem A26(hl:x.length<=Ah)(h:(x.take 3==[50,53,55])=AD):I2 [.str x] o= .err (.exc (.ref 61) (AA x)) o:=
 Iz rfl (Se (It (Ts (Bn (Hf rfl rfl rfl (N8 (p:=AB) (q:=AA (3:Nat)) rfl rfl hl)) rfl (congrArg (λb=>R.ok (CV.bool (!b)) o) ((congrArg (·==([50,53,55]:T)) (NT x 3)).trans h)))) (Se (Ra rfl)))) hc
noncomputable abbrev e_(b:Bool)(o:AL):R CV:= .ok (.bool b) o
omit hc in
theorem XT{v:AY}{i n:Nat}{y:T}{b:Bool}(hv:v[i]? =AA (AA (.str x)))(hl:x.length<=Ah)(h:(x.take n==y)=b):Aq (AJ Dq (DY C1 (AF i) (AG .none) (AG (.int n))) (AG (.str y))) v o= .ok (!b) o:=
 Ts (Bn (Hf (by unfold AF;rw[hv]) rfl rfl (N8 (p:=AB) (q:=AA (n:Int)) rfl rfl hl)) rfl (congrArg (λb=>e_ (!b) o) ((congrArg (·==y) (NT x n)).trans h)))
theorem A25(hl:x.length<=Ah)(h5:5<=x.length)(h:(x.take 3==[50,53,55])=AC)(h2:((x.drop 3).take 2==[32,34])=AD):I2 [.str x] o= .ok (.str []) o:=
 F_ rfl (Sq (If (XT rfl hl h) rfl) (Sr (It (Ts (Bn (Hf rfl rfl rfl (N8 (p:=AA (3:Nat)) (q:=AA (5:Nat)) rfl rfl hl)) rfl (congrArg (λb=>e_ (!b) o) ((congrArg (·==([32,34]:T)) (bY x 3 5 (by exact MW (by assumption)) h5)).trans h2)))) (Sr (Rt rfl))))) hc rfl
theorem A27{s:T}(hl:s.length<900):I2 [.str ([50,53,55,32,34]++s)] o= .ok (.str (FE s)) o:=by
 have hx:([50,53,55,32,34]++s:T).length=s.length+5:=by rw[A1];exact OL ..
 have De:([50,53,55,32,34]++s:T).length<=Ah:=by rw[hx];exact AO (C3 (Et hl) 5) (by decide)
 refine B7 (Bd0 (x:=[50,53,55,32,34]++s) (o:=o) (by rw[hx];exact CI (wF hl 5) (by decide)) s.length (s:=s) (d:=[]) (p:=5) (f:=W1) (k:=AB) (BL _) rfl (by show _<200000;exact AO (by assumption) (by decide)) (by rw[vn,IX];exact C4 hl (by decide))) λi' c' e=>?_
 exact F_ rfl (Sq (If (XT rfl De rfl) rfl) (Sq (If (Ts (Bn (Hf rfl rfl rfl (N8 (p:=AA (3:Nat)) (q:=AA (5:Nat)) rfl rfl De)) rfl (congrArg (λb=>e_ (!b) o) (congrArg (·==([32,34]:T)) (bY _ 3 5 (by rw[hx];exact AO (by decide:3<=5) (JG 5 _)) (by rw[hx];exact JG 5 _)))))) rfl)
  (Sq (v':=[AA (.str ([50,53,55,32,34]++s)),AA (.str []),AB,AB,AB]) rfl (Sq (v':=[AA (.str ([50,53,55,32,34]++s)),AA (.str []),AA (.int 5),AB,AB]) rfl (Sq (As (Cl (Cn rfl rfl) (As9 De)) rfl) (Sq e (Sr (Rt rfl)))))))) hc rfl
end
end
section
open PySem.StrLaws Builtin.Str
noncomputable def Fc(y:T):T->Nat->Nat->Nat->List Nat
 |[],_,_,_=>[]
 |c::r,n,k,p=>match k with
  |k+1=>Fc y r n k (p+1)
  |0=>match n with
   |0=>[]
   |n+1=>if y.isPrefixOf (c::r)then p::Fc y r n (y.length - 1) (p+1)else Fc y r (n+1) 0 (p+1)
noncomputable def D1(y:T):T->Nat->Nat->T->List T
 |[],_,_,acc=>[acc]
 |c::r,n,k,acc=>match k with
  |k+1=>D1 y r n k acc
  |0=>match n with
   |0=>[acc++c::r]
   |n+1=>if y.isPrefixOf (c::r)then acc::D1 y r n (y.length - 1) []else D1 y r (n+1) 0 (acc++[c])
section
variable{x y z rest:T}{p a n c:Nat}
theorem N9{acc:T}(h:y.isPrefixOf (c::rest)=AC):D1 y (c::rest) (n+1) 0 acc=acc::D1 y rest n (y.length - 1) []:=if_pos h
theorem HO{acc:T}(h:y.isPrefixOf (c::rest)=AD):D1 y (c::rest) (n+1) 0 acc=D1 y rest (n+1) 0 (acc++[c]):=if_neg (h▸C2)
theorem e9(h:y.isPrefixOf (c::rest)=AC):Fc y (c::rest) (n+1) 0 p=p::Fc y rest n (y.length - 1) (p+1):=if_pos h
theorem Xd(h:y.isPrefixOf (c::rest)=AD):Fc y (c::rest) (n+1) 0 p=Fc y rest (n+1) 0 (p+1):=if_neg (h▸C2)
theorem Nc(h:x.drop p=c::rest):x.drop (p+1)=rest:=by rw[<-MS,h];rfl
theorem Pk(h:x.drop p=rest):x.length - p=rest.length:=(congrArg JD h)▸OI.symm
theorem A47{l:T}:y.isPrefixOf l=AC↔l.take y.length=y:=by
 rw[vk,List.prefix_iff_eq_take]
 exact eq_comm
theorem fV{l:T}(h:y.isPrefixOf l=AC):y.length<=l.length:=(vk.mp h).length_le
theorem gF(h:x.drop p=rest):subAt (AU x) (AU y) p=y.isPrefixOf rest:=by
 rw[subAt_eq,Qb,beq_iff_eq,A47]
 rw[BY,h]
noncomputable def Ki(x y:T)(GK:Nat)(l:List Nat)(found:Array Nat)(free:Nat):List Nat:=(LJ l (found,free) (occBody (AU x) (AU y) x.length GK)).run.fst.toList
variable{GK free:Nat}{l:List Nat}{found:Array Nat}
theorem AI7(h1:found.size<GK)(h2:free<=p)(h3:p+y.length<=x.length)(h4:subAt (AU x) (AU y) p=AC):Ki x y GK (p::l) found free=Ki x y GK l (found.push p) (p+y.length):=by
 unfold Ki
 rw[hH,show occBody (AU x) (AU y) x.length GK p (found,free)=_ from if_pos ⟨⟨⟨h1,h2⟩,(BY y).symm▸h3⟩,h4⟩,BY];rfl
theorem WI(h:found.size<GK->free<=p->p+y.length<=x.length->subAt (AU x) (AU y) p=AC->False):Ki x y GK (p::l) found free=Ki x y GK l found free:=by
 unfold Ki
 rw[hH,show occBody (AU x) (AU y) x.length GK p (found,free)=_ from if_neg λq=>h q.1.1.1 q.1.1.2 (BY y▸q.1.2) q.2];rfl
theorem AI6:Ki x y found.size l found free=found.toList:=by
 induction l with
 |nil=>rfl
 |cons a l ih=>exact(WI λh=>absurd h (Eu _)).trans ih
theorem Ah4(hy:1<=y.length)(h:x.drop p=rest)(q:y.isPrefixOf rest=AC):p+y.length<=x.length:=by
 have q':y.length<=x.length - p:=(Pk h).symm▸fV q
 exact Nat.add_le_of_le_sub' (Et (Nat.sub_pos_iff_lt.mp (CI hy q'))) q'
theorem QS{a p:Nat}(h:p<a):a - p=(a - (p+1))+1:=(Nat.succ_pred_eq_of_pos (Un h)).symm
theorem A11(hy:1<=y.length):∀{p n free:Nat} {found:Array Nat},x.drop p=rest->GK=found.size+n->Ki x y GK (iH p (rest.length+1)) found free=found.toList++Fc y rest n (free - p) p:=by
 induction rest with
 |nil=>exactλ{p n free found} h _=>(WI (l:=[]) λ_ _ _ q=>by
   have:=fV ((gF h).symm.trans q);exact absurd (AO hy this) (wR 0)).trans (BJ _).symm
 |cons c r ih=>
  intro p n free found h hl
  show Ki x y GK (p::iH (p+1) (r.length+1)) found free=_
  by_cases hf:free<=p
  ·have e0:=JH hf
   simp only[e0]
   cases n with
   |zero=>rw[hl];exact AI6.trans (BJ _).symm
   |succ n=>
    cases hp:y.isPrefixOf (c::r)with
    |true=>
     rw[AI7 (hl▸Qq (IW n):found.size<GK) hf (Ah4 hy h hp) ((gF h).trans hp),ih (Nc h) (hl.trans (by rw[YU];exact(Nat.succ_add _ _).symm)),e9 hp,wG,UW,B2];rfl
    |false=>rw[WI λ_ _ _ q=>absurd (hp.symm.trans ((gF h).symm.trans q)) C2,ih (Nc h) hl,(JH (HU hf):free - (p+1)=0),Xd hp]
  ·rw[WI λ_ q=>absurd q hf,ih (Nc h) hl,QS (J4 hf)];rfl
theorem Xe(hy:1<=y.length)(hp:p<=x.length):Qw (AU x) (AU y) p x.length GK=Fc y (x.drop p) GK 0 p:=by
 rw[occ_eq,show x.length+1 - p=(x.drop p).length+1 by rw[OI,Nat.succ_sub hp]]
 exact(A11 (free:=p) (found:= #[]) hy rfl (IX _).symm).trans (by rw[LR];rfl)
theorem t8(x:T)(a b:Nat):Bx (strSub (AU x) a b)=(x.drop a).take (b - a):=strSub_toList _ _ _
theorem BS3(h:x.drop p=c::rest)(hf:a<=p):(x.drop a).take (p+1 - a)=(x.drop a).take (p - a)++[c]:=by
 simp only[Nat.succ_sub hf,wA,JC,Yv hf]
 have:x[p]? =(x.drop p)[0]?:=by rw[JC];rfl
 rw[this,h];rfl
theorem eP:(partsFrom (AU x) n a []).map Bx=[x.drop a]:=by
 show [Bx (strSub (AU x) a (AU x).length)]=_
 rw[t8,BY,Yt (BR OI)]
theorem A32(hy:1<=y.length):∀{p n a:Nat},x.drop p=rest->
  (partsFrom (AU x) y.length a (Fc y rest n (a - p) p)).map Bx=D1 y rest n (a - p) ((x.drop a).take (p - a)):=by
 induction rest with
 |nil=>exactλ{p n a} h=>eP.trans (congrArg (λq=>[q]) (Yt (OI▸iP (Yx (Pk h)) a)).symm)
 |cons c r ih=>
  intro p n a h
  have h':=Nc h
  by_cases hf:a<=p
  ·rw[JH hf]
   cases n with
   |zero=>
    refine eP.trans (congrArg (λq=>[q]) ?_)
    simp only[<-h,<-(by rw[MS,Yv hf]:(x.drop a).drop (p - a)=x.drop p),iI]
   |succ n=>
    have i:=ih (n:=n) (a:=p+y.length) h'
    have j:=ih (n:=n+1) (a:=a) h'
    rw[wG,show p+1 - (p+y.length)=0 from JH (EP hy p)]at i
    rw[(JH (HU hf):a - (p+1)=0),BS3 h hf]at j
    cases hp:y.isPrefixOf (c::r)with
    |true=>
     rw[e9 hp,N9 hp,<-t8]
     exact congrArg (Bx (strSub (AU x) a p)::·) i
    |false=>rw[Xd hp,HO hp];exact j
  ·have i:=ih (n:=n) (a:=a) h'
   rw[QS (J4 hf),(JH (iL hf)).trans (JH (J4 hf)).symm]
   exact i
theorem A10:∀{p:Nat},rest.length<y.length->Fc y rest n 0 p=[]:=by
 induction rest with
 |nil=>exactλ_=>rfl
 |cons c r ih=>
  intro p h
  cases n with
  |zero=>rfl
  |succ n=>exact(Xd (HR.mpr λq=>absurd (fV q) (Qt h))).trans (ih (iM h))
theorem fU(hy:1<=y.length)(n:Nat):(partsFrom (AU x) y.length 0 (Fc y x n 0 0)).map Bx=D1 y x n 0 []:=A32 (a:=0) (p:=0) hy rfl
theorem f'(hy:1<=y.length)(h:Fc y x n 0 0=[]):D1 y x n 0 []=[x]:=by
 rw[<-fU hy,h];exact eP
theorem rd{p:Prop}[Decidable p]{a b:Nat}(ha:1<=a)(hb:1<=b):1<=if p then a else b:=by
 by_cases h:p
 ·rw[if_pos h];exact ha
 ·rw[if_neg h];exact hb
theorem YH(hy:1<=y.length)(hs:∀c∈y,c<256)(n:Nat):LC x y n=D1 y x n 0 []:=by
 have y4:Ur (AU y)=1:=if_pos (Array.all_eq_true_iff_forall_mem.mpr λc hc=>decide_eq_true (hs c (uv.mpr hc)))
 have y5:¬Ur (AU x)<Ur (AU y):=by
  rw[y4]
  exact IV (rd (by decide) (rd (by decide) (by decide)))
 have ho:I9 x y n=Fc y x n 0 0:=Xe hy (D2 _)
 unfold LC
 rw[ho]
 by_cases h1:x.length<y.length
 ·rw[if_pos (show Kr x y=AC by unfold Kr;rw[decide_eq_true h1];rfl),f' hy (A10 h1)]
 ·rw[if_neg (show ¬Kr x y=AC by unfold Kr;rw[decide_eq_false h1,decide_eq_false y5];exact C2)]
  by_cases h2:(Fc y x n 0 0).isEmpty=AC
  ·rw[if_pos h2,f' hy (Uc.mp h2)]
  ·rw[if_neg h2,partsBetween_eq];exact fU hy n
noncomputable def Ky(c:Nat):T->Option Nat
 |[]=>AB
 |a::r=>if a=c then AA 0 else(Ky c r).map (·+1)
theorem pG(r:T):Ky c (c::r)=AA 0:=if_pos rfl
theorem dV(h:a≠c)(r:T):Ky c (a::r)=(Ky c r).map (·+1):=if_neg h
theorem rn(r:T):([c]:T).isPrefixOf (c::r)=AC:=(Qa _).trans (beq_self_eq_true c)
theorem rm(h:a≠c)(r:T):([c]:T).isPrefixOf (a::r)=AD:=(Qa _).trans (beq_eq_false_iff_ne.mpr h.symm)
theorem rP:∀{p:Nat},(Fc [c] x 1 0 p).head? =(Ky c x).map (·+p):=by
 induction x with
 |nil=>exactλ{p}=>rfl
 |cons a r ih=>
  intro p
  by_cases h:a=c
  ·rw[h,e9 (rn r),pG];exact congrArg AA (IX p).symm
  ·simp only[Xd (rm h r),dV h,ih,Option.map_map]
   exact congrArg (G1 · _) (funext λk=>(Qp k p 1).symm.trans (Er k p 1))
noncomputable def S7(k:Option Nat):Int:=k.elim (-1) λk=>(k:Int)
theorem pF(l:List Nat):(match l with|k::_=>(k:Int)|[]=> -1)=S7 l.head?:=by
 cases l<;>rfl
theorem tj(x:T)(c:Nat):UL x [c]=S7 (Ky c x):=by
 show(match Qw (AU x) (AU [c]) 0 (AU x).length 1 with|i::_=>(i:Int)|[]=> -1)=_
 rw[BY,Xe (y:=[c]) (BL 1) (D2 _),g7]
 exact(pF _).trans (congrArg S7 (rP.trans Option.map_id'))
theorem ti(x:T)(c i:Nat)(hi:i<=x.length):UM x [c] (i:Int)=S7 ((Ky c (x.drop i)).map (·+i)):=by
 have e:fromIndex x.length (i:Int)=i:=by
  unfold fromIndex
  rw[if_neg (LK.mpr (Fi i)),Yd (Fi i)];rfl
 unfold UM
 rw[e,Xe (y:=[c]) (BL 1) hi]
 exact(pF _).trans (congrArg S7 rP)
theorem EH{b:T}(h:c∉a::b):a≠c/\c∉b:=⟨λe=>h (e▸CP),λe=>h (Ef _ e)⟩
theorem pC{a:T}(h:c∉a)(b:T):Ky c (a++c::b)=AA a.length:=by
 induction a with
 |nil=>exact pG b
 |cons x r ih=>exact(dV (EH h).1 _).trans (congrArg (G1 (·+1)) (ih (EH h).2))
theorem pD{a:T}(h:c∉a):Ky c a=AB:=by
 induction a with
 |nil=>rfl
 |cons x r ih=>exact(dV (EH h).1 _).trans (congrArg (G1 (·+1)) (ih (EH h).2))
noncomputable def DO(c:Nat):T->T->List T
 |acc,[]=>[acc]
 |acc,a::r=>if a=c then acc::DO c [] r else DO c (acc++[a]) r
theorem UF(acc r:T):DO c acc (c::r)=acc::DO c [] r:=if_pos rfl
theorem QQ(h:a≠c)(acc r:T):DO c acc (a::r)=DO c (acc++[a]) r:=if_neg h
theorem tQ(c:Nat)(x:T):∀(acc:T) (n:Nat),x.length<=n->D1 [c] x n 0 acc=DO c acc x:=by
 induction x with
 |nil=>exactλ_ _ _=>rfl
 |cons a r ih=>
  intro acc n h
  cases n with
  |zero=>first|exact Af h|cases h
  |succ n=>
   by_cases hc:a=c
   ·rw[hc,N9 (rn r),UF];exact congrArg (acc::·) (ih [] n (Hv h))
   ·rw[HO (rm hc r),QQ hc];exact ih _ _ (Gz h)
theorem t7(a b:AQ):Bx (a++b)=Bx a++Bx b:=(congrArg ux (Str.cps_append a b)).trans YV
theorem p7(z:T)(l:List T):Bx (ZA (AU z) (l.map AU))=Gc z l:=by
 induction l with
 |nil=>rfl
 |cons a l ih=>
  cases l with
  |nil=>exact(BJ a).symm
  |cons b r=>
   show Bx (AU a++AU z++ZA (AU z) ((b::r).map AU))=a++(z++Gc z (b::r))
   simp only[t7,t7,ih,B2];rfl
theorem BR9(z:T)(l:List T):tm z l=Gc z l:=(congrArg Bx (iq (AU z) (l.map AU))).trans (p7 z l)
theorem Aw3(l:List AQ):(l.map Bx).map AU=l:=Hu.trans (Qm l)
theorem tu(hy:1<=y.length):Jy x y z=Gc z (D1 y x (x.length+1) 0 []):=by
 have ho:Qw (AU x) (AU y) 0 x.length (x.length+1)=Fc y x (x.length+1) 0 0:=Xe hy (D2 _)
 unfold Jy Txt.replace
 rw[BY,ho,BY]
 by_cases h:(Fc y x (x.length+1) 0 0).isEmpty=AC
 ·rw[f' hy (Uc.mp h),h];exact(BJ x).symm
 ·rw[if_neg (λq=>(Hs.mp q).elim h λq=>absurd (CH (BB q).1) (HV hy)),iq,partsBetween_eq,<-fU hy,<-p7,Aw3]
end
end
noncomputable def GW:T->Bool->T
 |[],_=>[]
 |c::r,b=>if c=13 then 10::GW r AC else if b=AC/\c=10 then GW r AD else c::GW r AD
noncomputable def CG(x:T):T:=GW x AD
noncomputable def Kx(z t:T):T:=t.flatMap λc=>if c=10 then z else [c]
noncomputable def Ji(z:T):T->Bool->T
 |[],_=>[]
 |c::r,b=>if(b&&c==46)=AC then z++Ji z r AD else c::Ji z r (c==10)
noncomputable def EK:Bool->T->T
 |_,[]=>[]
 |b,c::r=>if c=10 then 13::10::EK AC r else if b=AC/\c=46 then 46::46::EK AD r else c::EK AD r
section
variable{x z r t:T}{c d fuel:Nat}{b:Bool}
theorem P7(h:c≠13)(r:T):CG (c::r)=c::CG r:=(if_neg h).trans (if_neg λq=>absurd q.1 C2)
theorem P6(r:T):GW (13::r) b=10::GW r AC:=if_pos rfl
theorem A06(r:T):GW (10::r) AC=CG r:=(if_neg (by decide)).trans (if_pos ⟨rfl,rfl⟩)
theorem A05(h:c≠10)(r:T):GW (c::r) AC=CG (c::r):=by
 by_cases q:c=13
 ·rw[q];exact(P6 r).trans (P6 r).symm
 ·exact((if_neg q).trans (if_neg λq=>h q.2)).trans (P7 q r).symm
theorem A08(r:T):CG (13::10::r)=10::CG r:=(P6 _).trans (congrArg (10::·) (A06 r))
theorem e7(h:c≠10)(r:T):CG (13::c::r)=10::CG (c::r):=(P6 _).trans (congrArg (10::·) (A05 h r))
theorem A07(r:T):CG (10::r)=10::CG r:=P7 (by decide) r
theorem dR:Kx z (10::t)=z++Kx z t:=UZ
theorem dS(h:c≠10):Kx z (c::t)=c::Kx z t:=UZ.trans (by rw[if_neg h];rfl)
theorem oS(h:(b&&c==46)=AC):Ji z (c::r) b=z++Ji z r AD:=if_pos h
theorem Wu(h:(b&&c==46)=AD):Ji z (c::r) b=c::Ji z r (c==10):=if_neg (h▸C2)
theorem QB(r:T):EK b (10::r)=13::10::EK AC r:=if_pos rfl
theorem QC(r:T):EK AC (46::r)=46::46::EK AD r:=(if_neg (by decide)).trans (if_pos ⟨rfl,rfl⟩)
theorem QD(h:c≠10)(h':(b&&c==46)=AD)(r:T):EK b (c::r)=c::EK AD r:=(if_neg h).trans (if_neg λq=>absurd (h'.symm.trans (show(b&&c==46)=AC by rw[q.1,q.2];rfl)) C2)
theorem I3(h:x.drop d=c::r):x.toArray.getD d 0=c/\d<x.length/\x.drop (d+1)=r:=by
 have h1:x[d]? =AA c:=by
  have:x[d]? =(x.drop d)[0]?:=by rw[JC];rfl
  rw[this,h];rfl
 refine⟨?_,(Gb.mp h1).1,Nc h⟩
 rw[gh,IT,h1];rfl
theorem o9{s:Nat}(h:x.drop d=c::r)(hs:d<s):(x.toArray.extract d s).toList=c::(x.toArray.extract (d+1) s).toList:=by
 simp only[YW,YW,Yk,Yk]
 show(x.drop d).take (s - d)=c::(x.drop (d+1)).take (s - (d+1))
 simp only[h,Nc h,QS hs,wD]
theorem Ad7{t:Array Nat}:(t.extract d d).toList=[]:=by rw[YW,Yk,LR];rfl
theorem cr(h:x.drop d=[]){s:Nat}:(x.toArray.extract d s).toList=[]:=by
 simp only[YW,Yk]
 show(x.drop d).take _=[]
 rw[h];exact wC
variable{F:Nat->Option (Nat×Nat)}{s e:Nat}{tx:Array Nat}{l:Nat}
theorem UK(h:F d=AB):Gw F tx l z (fuel+1) d=(tx.extract d l).toList:=by
 show(F d).elim _ _=_
 rw[h];rfl
theorem gE(h:F d=AA (s,e)):Gw F tx l z (fuel+1) d=(tx.extract d s).toList++z++Gw F tx l z fuel e:=by
 show(F d).elim _ _=_
 simp only[h];rfl
theorem tc(h:F d=AA (d,e)):Gw F tx l z (fuel+1) d=z++Gw F tx l z fuel e:=(gE h).trans (by rw[Ad7];rfl)
theorem td(h:x.drop d=c::r)(hF:F d=F (d+1))(O0:∀s e,F (d+1)=AA (s,e)->d+1<=s):
  Gw F x.toArray x.length z (fuel+1) d=c::Gw F x.toArray x.length z (fuel+1) (d+1):=by
 cases hc:F (d+1)with
 |none=>rw[UK (hF.trans hc),UK hc];exact o9 h (I3 h).2.1
 |some p=>rw[gE (hF.trans hc),gE hc,o9 h (O0 _ _ hc)];rfl
theorem Az5{lim f:Nat}(h:lim<=s):K9 tx lim f s=AB:=by
 cases f with
 |zero=>rfl
 |succ f=>exact if_pos h
theorem Az6{lim f:Nat}(hs:s<lim)(h:(tx.getD s 0==10||tx.getD s 0==13)=AC):K9 tx lim (f+1) s=AA s:=(if_neg (Qt hs)).trans (if_pos h)
theorem Az7{lim f:Nat}(hs:s<lim)(h:¬(tx.getD s 0==10||tx.getD s 0==13)=AC):K9 tx lim (f+1) s=K9 tx lim f (s+1):=(if_neg (Qt hs)).trans (if_neg h)
theorem SH:F2 x.toArray d=(K9 x.toArray x.length (x.length+1 - d) d).map λs=>(s,s+FZ x.toArray x.length s):=by
 unfold F2;rw[DC]
theorem l4(h:x.drop d=[]):F2 x.toArray d=AB:=by rw[SH,Az5 (Yx (Pk h))];rfl
theorem AG8(h:x.drop d=c::r)(hc:(c==10||c==13)=AC):F2 x.toArray d=AA (d,d+FZ x.toArray x.length d):=by
 have g:=I3 h
 rw[SH,QS (Qr g.2.1),Az6 g.2.1 (g.1.symm▸hc)];rfl
theorem AH0(h:x.drop d=c::r)(hc:¬(c==10||c==13)=AC):F2 x.toArray d=F2 x.toArray (d+1):=by
 have g:=I3 h
 rw[SH,SH,QS (Qr g.2.1),Az7 g.2.1 (g.1.symm▸hc)]
theorem AG9:F2 x.toArray d=AA (s,e)->d<=s:=λh=>by
 rw[SH]at h
 obtain⟨s',h1,h2⟩:=DD.mp h
 cases h2
 exact(eu h1).2.1
theorem AK0(h:x.drop d=c::r)(hc:(c==10||c==13)=AC):∃r1,x.drop (d+FZ x.toArray x.length d)=r1/\CG (c::r)=10::CG r1/\r1.length<=r.length:=by
 have hc:=(Hs.mp hc).imp CH CH
 cases r with
 |nil=>
  have e1:FZ x.toArray x.length d=1:=if_neg λq=>absurd (Un q.2.1) (Pk (I3 h).2.2▸Eu 0)
  rw[e1]
  exact⟨[],(I3 h).2.2,hc.elim (λq=>by rw[q];rfl) (λq=>by rw[q];rfl),BL _⟩
 |cons a r=>
  have g':=I3 (I3 h).2.2
  by_cases q:c=13/\a=10
  ·have e1:FZ x.toArray x.length d=2:=if_pos ⟨(I3 h).1.trans q.1,g'.2.1,g'.1.trans q.2⟩
   rw[e1,q.1,q.2]
   exact⟨r,g'.2.2,A08 r,Da _⟩
  ·have e1:FZ x.toArray x.length d=1:=if_neg λp=>q ⟨(I3 h).1.symm.trans p.1,g'.1.symm.trans p.2.2⟩
   rw[e1]
   exact⟨a::r,(I3 h).2.2,hc.elim (λq=>q▸A07 _) (λp=>by rw[p];exact e7 (λw=>q ⟨p,w⟩) r),BL _⟩
theorem BR3(x z:T){n:Nat}:∀{d fuel:Nat} {rest:T},rest.length<=n->x.drop d=rest->rest.length+1<=fuel->Gw (F2 x.toArray) x.toArray x.length z fuel d=Kx z (CG rest):=by
 induction n with
 |zero=>
  intro d fuel rest hn h hf
  cases fuel with
  |zero=>first|exact Af hf|cases hf
  |succ f=>cases g8 (Yz.mp hn);exact(UK (l4 h)).trans (cr h)
 |succ n ih=>
  intro d fuel rest hn h hf
  cases fuel with
  |zero=>first|exact Af hf|cases hf
  |succ f=>cases rest with
   |nil=>exact(UK (l4 h)).trans (cr h)
   |cons c r=>
    by_cases hc:(c==10||c==13)=AC
    ·refine A3 (AK0 h hc) λr1 Vr=>?_
     rw[tc (AG8 h hc),Vr.2.1,dR,ih (AO Vr.2.2 (Hv hn)) Vr.1 (AO (CT Vr.2.2) (Hv hf))]
    ·have hq:=not_or.mp λq=>hc (Hs.mpr q)
     rw[td h (AH0 h hc) (λ_ _=>AG9),ih (Hv hn) (Nc h) (Gz hf),P7 (λe=>hq.2 (beq_iff_eq.mpr e)),dS (λe=>hq.1 (beq_iff_eq.mpr e))]
theorem tw(x z:T):LD F2 z x=Kx z (CG x):=BR3 x z (BL _) rfl (BL _)
theorem SG:F1 x.toArray d=(Gq x.toArray x.length (x.length - d) d).map λs=>(s,s+1):=by
 unfold F1;rw[DC]
theorem AG5(h:EY x.toArray x.length d=AC):F1 x.toArray d=AA (d,d+1):=by rw[SG,Ws h];rfl
theorem AG4(h:x.drop d=[]):F1 x.toArray d=AB:=by
 have e:EY x.toArray x.length d=AD:=by unfold EY;rw[decide_eq_false (IV (Yx (Pk h))),gk,LH]
 rw[SG,Pk h]
 show(Gq x.toArray x.length 0 d).map _=AB
 rw[show Gq x.toArray x.length 0 d=AB from if_neg (e▸C2)];rfl
theorem AG7(h:d<x.length)(e:EY x.toArray x.length d=AD):F1 x.toArray d=F1 x.toArray (d+1):=by
 rw[SG,SG,QS h,show ∀f,Gq x.toArray x.length (f+1) d=Gq x.toArray x.length f (d+1)fromλf=>if_neg (e▸C2)]
theorem AG6:F1 x.toArray d=AA (s,e)->d<=s:=λh=>by
 rw[SG]at h
 obtain⟨s',h1,h2⟩:=DD.mp h
 cases h2
 exact(cN h1).1
theorem BR1(x z:T){rest:T}:∀{d fuel:Nat} {b:Bool},x.drop d=rest->(d==0||x.toArray.getD (d - 1) 0==10)=b->rest.length+1<=fuel->
  Gw (F1 x.toArray) x.toArray x.length z fuel d=Ji z rest b:=by
 induction rest with
 |nil=>
  intro d fuel b h _ hf
  cases fuel with
  |zero=>first|exact Af hf|cases hf
  |succ f=>exact(UK (AG4 h)).trans (cr h)
 |cons c r ih=>
  intro d fuel b h hb hf
  cases fuel with
  |zero=>first|exact Af hf|cases hf
  |succ f=>
   have g:=I3 h
   have e:EY x.toArray x.length d=(b&&c==46):=by unfold EY;simp only[hb,g.1,decide_eq_true g.2.1,YY]
   cases q:b&&c==46 with
   |true=>
    have RX:(c==10)=AD:=by rw[CH (BB q).2];rfl
    rw[tc (AG5 (e.trans q)),oS q,ih g.2.2 ((congrArg (·==10) g.1:(d+1==0||x.toArray.getD (d+1 - 1) 0==10)=(c==10)).trans RX) (Hv hf)]
   |false=>rw[td h (AG7 g.2.1 (e.trans q)) (λ_ _=>AG6),Wu q,ih g.2.2 (congrArg (·==10) g.1:(d+1==0||x.toArray.getD (d+1 - 1) 0==10)=(c==10)) (Gz hf)]
theorem BS0(x z:T):LD F1 z x=Ji z x AC:=BR1 x z rfl rfl (BL _)
theorem A04(x:T):∀b,13∉GW x b:=by
 induction x with
 |nil=>exactλ_=>D9
 |cons c r ih=>
  intro b h
  by_cases q:c=13
  ·rw[show GW (c::r) b=_ from if_pos q]at h
   exact(Cf.mp h).elim (by decide) (ih _)
  ·by_cases p:b=AC/\c=10
   ·rw[show GW (c::r) b=_ from(if_neg q).trans (if_pos p)]at h
    exact ih _ h
   ·rw[show GW (c::r) b=_ from(if_neg q).trans (if_neg p)]at h
    exact(Cf.mp h).elim (λe=>q e.symm) (ih _)
theorem rM(x:T):13∉CG x:=A04 x AD
theorem Aa1{y:T}:∀{b:Bool},13∉y->Ji [46,46] (Kx [13,10] y) b=EK b y:=by
 induction y with
 |nil=>exactλ_=>rfl
 |cons c r ih=>
  intro b h
  by_cases CF:c=10
  ·rw[CF,dR,QB]
   show Ji [46,46] (13::10::Kx [13,10] r) b=_
   rw[Wu (LH b),Wu rfl]
   exact congrArg (λy=>13::10::y) (ih (EH h).2)
  ·rw[dS CF]
   cases q:b&&c==46 with
   |true=>
    rw[oS q,ih (EH h).2,(BB q).1,CH (BB q).2,QC];rfl
   |false=>rw[Wu q,QD CF q,beq_eq_false_iff_ne.mpr CF,ih (EH h).2]
theorem A73(x:T):LD F1 [46,46] (LD F2 [13,10] x)=EK AC (CG x):=by
 rw[tw,BS0];exact Aa1 (rM x)
end
noncomputable def Gv:T->T
 |[]=>[]
 |c::r=>if c=46 then 46::46::r else c::r
noncomputable def gO:T->T
 |[]=>[]
 |c::r=>if c=46 then r else c::r
noncomputable def F9:T->T
 |[]=>[]
 |c::r=>if c=34 then 34::34::F9 r else c::F9 r
noncomputable def GB(c:Nat)(z t:T):T:=t.flatMap λa=>if a=c then z else [a]
noncomputable def l8(e:T):Prop:=e=[10]\/e=[13]\/e=[13,10]
noncomputable abbrev NH:T:=[13,10,46,13,10]
section
variable{a b x y z t r acc:T}{c d n k:Nat}
theorem rK(h:13∉a)(b:T):CG (a++b)=a++CG b:=by
 induction a with
 |nil=>rfl
 |cons c r ih=>exact(P7 (EH h).1 _).trans (congrArg (c::·) (ih (EH h).2))
theorem Jt(h:c≠d):(d::t).isPrefixOf (c::r)=AD:=by
 show(d==c&&_)=AD
 rw[beq_eq_false_iff_ne.mpr h.symm];rfl
theorem BF7(y rest:T)(h:13∉y):NH.isPrefixOf (13::10::(EK AC y++NH++rest))=AD:=by
 cases y with
 |nil=>rfl
 |cons c r=>
  by_cases CF:c=10
  ·rw[CF,QB];rfl
  ·by_cases hd:c=46
   ·rw[hd,QC];rfl
   ·rw[QD (b:=AC) CF (beq_eq_false_iff_ne.mpr hd)]
    exact Jt (t:=[13,10]) hd
theorem BO8:D1 y x 0 0 acc=[acc++x]:=by
 cases x with
 |nil=>exact congrArg (λq=>[q]) (BJ acc).symm
 |cons c r=>rfl
theorem NO(acc:T)(c:Nat)(r:T):acc++[c]++r=acc++c::r:=B2 acc [c] r
theorem mS(acc:T)(c d:Nat)(r:T):acc++[c]++[d]++r=acc++c::d::r:=(NO _ d r).trans (NO acc c _)
theorem BP3(y:T):∀(b:Bool) (acc rest:T),13∉y->D1 NH (EK b y++NH++rest) 1 0 acc=[acc++EK b y,rest]:=by
 induction y with
 |nil=>exactλb acc rest _=>(N9 (y:=NH) (c:=13) (rest:=10::46::13::10::rest) rfl).trans (by
   show acc::D1 NH rest 0 0 []=_
   rw[BO8]
   exact congrArg (λq=>[q,rest]) (BJ acc).symm)
 |cons c r ih=>
  intro b acc rest h
  by_cases CF:c=10
  ·rw[CF,QB,<-mS acc]
   exact(HO (BF7 r rest (EH h).2)).trans ((HO (Jt (by decide))).trans (ih AC _ rest (EH h).2))
  ·cases q:b&&c==46 with
   |true=>
    rw[(BB q).1,CH (BB q).2,QC,<-mS acc]
    exact(HO (Jt (by decide))).trans ((HO (Jt (by decide))).trans (ih AD _ rest (EH h).2))
   |false=>
    rw[QD CF q,<-NO acc]
    exact(HO (Jt (EH h).1)).trans (ih AD _ rest (EH h).2)
theorem UI(h:c≠46):Gv (c::r)=c::r:=if_neg h
theorem uL(l:T):gO (Gv l)=l:=by
 cases l with
 |nil=>rfl
 |cons c r=>
  by_cases h:c=46
  ·rw[h];rfl
  ·rw[UI h];exact if_neg h
theorem BQ2(h:a≠[])(b:T):Gv (a++b)=Gv a++b:=by
 cases a with
 |nil=>exact absurd rfl h
 |cons c r=>
  by_cases h:c=46
  ·rw[h];rfl
  ·rw[UI h];exact UI h
theorem Ab0:(acc++[c]).isEmpty=AD:=by cases acc<;>rfl
theorem BP2(y:T):∀(acc:T) (n:Nat),13∉y->(EK acc.isEmpty y).length<=n->D1 [13,10] (EK acc.isEmpty y) n 0 (Gv acc)=(DO 10 acc y).map Gv:=by
 induction y with
 |nil=>exactλ_ _ _ _=>rfl
 |cons c r ih=>
  intro acc n h hn
  have h:=EH h
  cases n with
  |zero=>
   have:=g8 (Yz.mp hn)
   by_cases CF:c=10
   ·rw[CF,QB]at this;first|exact Af this|cases this
   ·cases q:acc.isEmpty&&c==46 with
    |true=>rw[(BB q).1,CH (BB q).2,QC]at this;first|exact Af this|cases this
    |false=>rw[QD CF q]at this;first|exact Af this|cases this
  |succ n=>
   by_cases CF:c=10
   ·rw[CF,QB]at hn⊢
    rw[N9 rfl,UF]
    exact congrArg (Gv acc::·) (ih [] n h.2 (Gz (Hv hn)))
   ·rw[QQ CF]
    cases q:acc.isEmpty&&c==46 with
    |true=>
     rw[(Uc.mp (BB q).1),CH (BB q).2]at hn⊢
     show D1 [13,10] (EK AC (46::r)) (n+1) 0 []=_
     have hn:(EK AC (46::r)).length<=n+1:=hn
     rw[QC]at hn⊢
     rw[HO (Jt (by decide)),HO (Jt (by decide))]
     exact ih [46] (n+1) h.2 (Gz (Gz hn))
    |false=>
     rw[QD CF q]at hn⊢
     have e:Gv acc++[c]=Gv (acc++[c]):=by
      cases acc with
      |nil=>exact(UI (beq_eq_false_iff_ne.mp q)).symm
      |cons a l=>exact(BQ2 (a:=a::l) (λh=>by cases h) [c]).symm
     have i:=ih (acc++[c]) (n+1) h.2
     rw[Ab0]at i
     rw[HO (Jt h.1),e]
     exact i (Gz hn)
theorem An7(z a b:T)(r:List T):Gc z (a::b::r)=a++z++Gc z (b::r):=(B2 a z _).symm
theorem pn{l:List T}(h:∃a r,l=a::r):Gc z (acc::l)=acc++(z++Gc z l):=h.elim λ_ h=>h.elim λ_ h=>h▸rfl
theorem tP(c:Nat)(x:T):∀acc:T,∃a r,DO c acc x=a::r:=by
 induction x with
 |nil=>exactλacc=>⟨acc,[],rfl⟩
 |cons a r ih=>
  intro acc
  by_cases h:a=c
  ·exact⟨acc,_,if_pos h⟩
  ·rw[QQ h];exact ih _
theorem BP0(x:T):∀(n k:Nat) (acc:T),∃a r,D1 y x n k acc=a::r:=by
 induction x with
 |nil=>exactλ_ _ acc=>⟨acc,[],rfl⟩
 |cons c r ih=>
  intro n k acc
  cases k with
  |succ k=>exact ih n k acc
  |zero=>cases n with
   |zero=>exact⟨_,[],rfl⟩
   |succ n=>cases h:y.isPrefixOf (c::r)with
    |true=>exact⟨acc,_,N9 h⟩
    |false=>rw[HO h];exact ih _ _ _
theorem UJ:GB c z (c::t)=z++GB c z t:=UZ.trans (by rw[if_pos rfl];rfl)
theorem QR(h:d≠c):GB c z (d::t)=d::GB c z t:=UZ.trans (by rw[if_neg h];rfl)
theorem gD:GB c z (a++b)=GB c z a++GB c z b:=vg
theorem te(c:Nat)(z x:T):∀acc:T,Gc z (DO c acc x)=acc++GB c z x:=by
 induction x with
 |nil=>exactλacc=>rfl
 |cons a r ih=>
  intro acc
  by_cases h:a=c
  ·rw[h,UF,UJ,pn (tP c r []),ih];rfl
  ·rw[QQ h,QR h,ih,NO]
theorem BR2(c:Nat)(x:T):GB c [c] x=x:=by
 induction x with
 |nil=>rfl
 |cons a r ih=>
  by_cases h:a=c
  ·rw[h,UJ,ih];rfl
  ·rw[QR h,ih]
theorem po(c:Nat)(x acc:T):Gc [c] (DO c acc x)=acc++x:=(te c [c] x acc).trans (congrArg (acc++·) (BR2 c x))
theorem gH:Jy x [c] z=GB c z x:=by
 rw[tu (y:=[c]) (BL 1),tQ c x [] _ (Da _)];exact te c z x []
theorem BP1(h:d∉x):∀{acc:T},D1 (d::t) x n 0 acc=[acc++x]:=by
 induction x with
 |nil=>exactλ{acc}=>congrArg (λq=>[q]) (BJ acc).symm
 |cons c r ih=>
  intro acc
  cases n with
  |zero=>rfl
  |succ n=>rw[HO (Jt (EH h).1),ih (EH h).2,NO]
theorem BO9(a:T):∀(acc b:T) (n:Nat),126∉a->10∉b->D1 [10,126,10] (a++10::126::10::b) (n+1) 0 acc=[acc++a,b]:=by
 induction a with
 |nil=>exactλacc b n _ hb=>(N9 (y:=[10,126,10]) (c:=10) (rest:=126::10::b) rfl).trans (by
   show acc::D1 [10,126,10] b n 0 []=_
   rw[BP1 hb]
   exact congrArg (λq=>[q,b]) (BJ acc).symm)
 |cons c r ih=>
  intro acc b n ha hb
  have e:([10,126,10]:T).isPrefixOf (c::(r++10::126::10::b))=AD:=by
   cases r with
   |nil=>exact LH _
   |cons d r=>exact(congrArg ((10==c)&&·) (Jt (t:=[10]) (EH ((EH ha).2)).1)).trans (LH _)
  rw[<-NO acc]
  exact(HO e).trans (ih _ b n ((EH ha).2) hb)
theorem BR0:(GB 13 [10] x).length=x.length:=by
 induction x with
 |nil=>rfl
 |cons a r ih=>
  by_cases h:a=13
  ·rw[h,UJ];exact congrArg (·+1) ih
  ·rw[QR h];exact congrArg (·+1) ih
theorem BU8(x:T):(∀(n:Nat) (acc:T),x.length<=n->GB 13 [10] (Gc [10] (D1 [13,10] x n 0 acc))=GB 13 [10] acc++CG x)/\
  (∀(n:Nat) (acc:T),x.length<=n+1->x.head? =AA 10->GB 13 [10] (Gc [10] (D1 [13,10] x n 1 acc))=GB 13 [10] acc++GW x AC):=by
 induction x with
 |nil=>exact⟨λ_ acc _=>gD (a:=acc) (b:=[]),λ_ _ _ h=>by cases h⟩
 |cons c r ih=>
  refine⟨λn acc h=>?_,λn acc h e=>?_⟩
  ·cases n with
   |zero=>first|exact Af h|cases h
   |succ n=>cases hp:([13,10]:T).isPrefixOf (c::r)with
    |true=>
     have e2:r.head? =AA 10:=by
      have:=(BB hp).2
      cases r with
      |nil=>first|exact Af this|cases this
      |cons d r=>exact congrArg AA (CH (BB this).1).symm
     rw[N9 hp,pn (BP0 r _ _ _),gD,<-(CH (BB hp).1:13=c)]
     exact congrArg (GB 13 [10] acc++·) ((QR (by decide)).trans ((congrArg (10::·) (ih.2 n [] (Gz h) e2)).trans (P6 r).symm))
    |false=>
     simp only[HO hp,ih.1 _ _ (Gz h),gD,B2]
     refine congrArg (GB 13 [10] acc++·) ?_
     by_cases q:c=13
     ·rw[q]at hp
      rw[q,UJ]
      cases r with
      |nil=>rfl
      |cons d r=>
       by_cases w:d=10
       ·rw[w]at hp;first|exact Af hp|cases hp
       ·exact(e7 w r).symm
     ·rw[QR q];exact(P7 q r).symm
  ·cases e
   exact ih.1 n acc (Hv h)
theorem sf(x:T):Jy (Jy x [13,10] [10]) [13] [10]=CG x:=by
 rw[gH,tu (y:=[13,10]) (by decide)]
 exact(BU8 x).1 _ [] (Da _)
theorem cJ(r:T):F9 (34::r)=34::34::F9 r:=if_pos rfl
theorem cK(h:c≠34)(r:T):F9 (c::r)=c::F9 r:=if_neg h
theorem fb(x:T):Jy x [34] [34,34]=F9 x:=by
 rw[gH]
 induction x with
 |nil=>rfl
 |cons a r ih=>
  by_cases h:a=34
  ·rw[h,UJ,ih];rfl
  ·rw[QR h,ih];exact(if_neg h).symm
end
theorem Ae{e:D}{g:DG}{v:AY}{o o':AL}{c:CV}(h:e v o= .err c o'):Ar e g v o= .err c v o':=by unfold Ar;rw[h];rfl
theorem Ce{l:DL}{p:PG}{v:AY}{o o1 o':AL}{c:CV}{cs:List CV}(h:l v o= .ok cs o1)(k:p cs o1= .err c o'):A_ p l v o= .err c o':=by unfold A_;rw[h];exact k
noncomputable abbrev W7(x:T)(p:CV)(l r ps h q:Option CV):AY:=[AA (.str x),AA p,l,r,ps,h,q]
section
variable{o:AL}(hc:Ch o){x:T}{p:CV}(hl:x.length<=Ah)
include hc hl
theorem A22(h:(x.take 3==[50,50,57])=AD):F' [.str x,p] o= .err (.exc (.ref 61) (AA x)) o:=Iz rfl (Se (It (XT rfl hl h) (Se (Ra rfl)))) hc
variable(h3:(x.take 3==[50,50,57])=AC)
include h3
omit hc in
theorem uM{r:RS}{l:Int}(h:UL x [40]=l)(k:sT (W7 x p (AA (.int l)) AB AB AB AB) o=r):Nb (W7 x p AB AB AB AB AB) o=r:=Sq (If (XT rfl hl h3) rfl) (Sq (As (Ms rfl rfl rfl rfl) rfl) (by rw[h];exact k))
theorem A21(h:40∉x):F' [.str x,p] o= .err (.exc (.ref 73) (AA x)) o:=Iz rfl (uM hl h3 (l:= -1) (by rw[tj,pD h];rfl) (Se (It rfl (Se (Ra rfl))))) hc
omit hc in
theorem uN{r:RS}{i:Nat}{j:Int}(h:UL x [40]=i)(h':UM x [41] ((i+1:Nat):Int)=j)(k:fY (W7 x p (AA (.int i)) (AA (.int j)) AB AB AB) o=r):Nb (W7 x p AB AB AB AB AB) o=r:=
 uM hl h3 h (Sq (If rfl rfl) (Sq (As (Ms rfl rfl (Cn rfl rfl) rfl) rfl) (by show fY (W7 x p _ (AA (.int (UM x [41] ((i+1:Nat):Int)))) AB AB AB) o=r;rw[h'];exact k)))
end
section
variable{o:AL}(hc:Ch o){A B C M:T}{a b:Nat}{p:CV}
theorem pA(hA:40∉A):UL (A++40::B) [40]=A.length:=by rw[tj,pC hA];rfl
theorem Sv:(A++40::B).drop (A.length+1)=B:=by rw[<-MS,List.drop_left];rfl
theorem qQ:(A++40::B).length=A.length+(B.length+1):=by rw[A1];rfl
theorem A18(hc:Ch o)(hl:(A++40::B).length<=Ah)(h3:((A++40::B).take 3==[50,50,57])=AC)(hA:40∉A)(hB:41∉B):F' [.str (A++40::B),p] o= .err (.exc (.ref 73) (AA (A++40::B))) o:=
 Iz rfl (uN hl h3 (pA hA) (j:= -1) (by rw[ti _ _ _ (by rw[qQ];exact EP (JG 1 _) _),Sv,pD hB];rfl) (Se (It rfl (Se (Ra rfl))))) hc
noncomputable abbrev DI(A M C:T)(a b:Nat):T:=A++40::(a::(M++b::41::C))
theorem Pz:(DI A M C a b).length=A.length+M.length+C.length+4:=by simp only[qQ,Du,A1,Du,Du];exact(Qp A.length M.length (C.length+4)).symm
theorem XH:A.length+1<=A.length+M.length+C.length+4:=Bf (AO (GE _ _) (GE _ C.length)) (by decide:1<=4)
theorem qN:A.length+M.length+3<=A.length+M.length+C.length+4:=Bf (GE _ _) (by decide:3<=4)
theorem qO:M.length+3<=A.length+M.length+C.length+4:=Bf (AO (JG _ A.length) (GE _ C.length)) (by decide:3<=4)
theorem f4(hl:(DI A M C a b).length<=100000){i:Nat}(h:i<=A.length+M.length+C.length+4):i<=100000:=AO h (AO (BR Pz.symm) hl)
theorem f5(hl:(DI A M C a b).length<=100000){i:Nat}(h:i<=A.length+M.length+C.length+4):B1 (i:Int)=AC:=MP (Bg (f4 hl h) (by decide))
theorem mq:(DI A M C a b)[A.length+1]? =AA a:=by rw[<-JC (i:=A.length+1) (j:=0),Sv];rfl
theorem AL2:(DI A M C a b)[A.length+M.length+2]? =AA b:=by
 rw[show A.length+M.length+2=(A.length+1)+(M.length+1)from(congrArg (·+1) (Er A.length 1 M.length)).symm,<-JC,Sv,List.getElem?_cons_succ,Qk (BL _),LR];rfl
theorem AV2:((DI A M C a b).drop (A.length+1)).take (A.length+M.length+3 - (A.length+1))=a::(M++[b]):=by
 simp only[Sv,show A.length+M.length+3 - (A.length+1)=(M.length+1)+1 from Nat.sub_eq_of_eq_add (congrArg (·+1) (OL (M.length+2) A.length)).symm,wD,vR M b (41::C)]
 show a::List.take (M.length+[b].length) _=_
 rw[<-A1,iJ]
variable(hl:(DI A M C a b).length<=100000)(h3:((DI A M C a b).take 3==[50,50,57])=AC)(hA:40∉A)(hM:41∉a::(M++[b]))
include hl h3 hA hM
theorem uO{r:RS}(k:sU (W7 (DI A M C a b) p (AA (.int A.length)) (AA (.int (A.length+M.length+3:Nat))) AB AB AB) o=r):Nb (W7 (DI A M C a b) p AB AB AB AB AB) o=r:=
 uN (AO hl (by decide)) h3 (pA hA) (j:=(A.length+M.length+3:Nat)) (by
  rw[ti _ _ _ (by rw[Pz];exact XH),Sv,show a::(M++b::41::C)=(a::(M++[b]))++41::C by simp only[vU,B2];rfl,pC hM,Du,A1,iA]
  exact congrArg Int.ofNat (congrArg (·+1) (OL (M.length+2) A.length))) (Sq (If rfl rfl) k)
theorem og:Aq (AJ Dq (AJ AW (AF 0) (AJ Ai (AF 2) (AG (.int 1)))) (AJ AW (AF 0) (AJ TX (AF 3) (AG (.int 1))))) (W7 (DI A M C a b) p (AA (.int A.length)) (AA (.int (A.length+M.length+3:Nat))) AB AB AB) o= .ok (!(a==b&&AC)) o:=
 Ts (Bn (Bn rfl rfl (Px (i:=(A.length+1:Nat)) (f5 hl XH) ((Kq _ _).trans mq))) (Bn rfl rfl (by
  rw[show((A.length+M.length+3:Nat):Int) - 1=(A.length+M.length+2:Nat)from Int.add_sub_cancel ((A.length+M.length+2:Nat):Int) 1]
  exact Px (f5 hl (Gz qN)) ((Kq _ _).trans AL2))) rfl)
include hc
theorem A23(Oq:(a==b)=AD):F' [.str (DI A M C a b),p] o= .err (.exc (.ref 73) (AA (DI A M C a b))) o:=Iz rfl (uO hl h3 hA hM (Se (It ((og hl h3 hA hM).trans (by rw[Oq];rfl)) (Se (Ra rfl))))) hc
end
theorem BG9{o:AL}{A C M:T}{a b:Nat}(hl:(DI A M C a b).length<=100000):C1 [.str (DI A M C a b), .int (A.length+1:Nat), .int (A.length+M.length+3:Nat)] o= .ok (.str (a::(M++[b]))) o:=by
 rw[N8 (p:=AA (A.length+1:Nat)) (q:=AA (A.length+M.length+3:Nat)) rfl rfl (AO hl (by decide)),(bY (DI A M C a b) (A.length+1) (A.length+M.length+3) (by rw[Pz];exact XH) (by rw[Pz];exact qN)),AV2]
theorem tN(c:Nat):∀(x acc:T),(DO c acc x).length<=x.length+1:=λx=>by
 induction x with
 |nil=>intro acc;exact BL _
 |cons z r ih=>
  intro acc
  by_cases h:z=c
  ·rw[h,UF];exact CT (ih _)
  ·rw[QQ h];exact HU (ih _)
theorem BP7{B:T}{a:Nat}{o:AL}(hB:B.length<=100000)(ha:a<256):N0 [.str B, .str [a]] o= .ok (.lst ((DO a [] B).map .str)) o:=by
 show(match Ju B [a] (B.length+1) o with| .no=>_|r=>r)=_
 unfold Ju
 rw[(by rw[YH (y:=[a]) (BL 1) (λc h=>by rw[Ca.mp h];exact ha),tQ a B [] _ (Da _)]:LC B [a] (B.length+1)=DO a [] B),if_pos ⟨Nat.zero_lt_one,AO hB (by decide),AO (tN ..) (AO (CT hB) (by decide))⟩]
theorem As8{l:List CV}{o:AL}(h:l.length<=Ah):Ho [.lst l] o= .ok (.int l.length) o:=by
 show(match(if l.length<=Ah then R.ok (CV.int l.length) o else .no)with| .no=>_|r=>r)=_
 rw[if_pos h]
section
variable{o:AL}{A B C M:T}{a:Nat}{host:T}(hc:Ch o)(hl:(DI A M C a a).length<=100000)(h3:((DI A M C a a).take 3==[50,50,57])=AC)(hA:40∉A)(hM:41∉a::(M++[a]))(ha:a<256)
include hl h3 hA hM ha
theorem gP{p:CV}{r:RS}(k:sV (W7 (DI A M C a a) p (AA (.int A.length)) (AA (.int (A.length+M.length+3:Nat))) (AA (.lst ((DO a [] (a::(M++[a]))).map .str))) AB AB) o=r):Nb (W7 (DI A M C a a) p AB AB AB AB AB) o=r:=
 uO hl h3 hA hM (Sq (If ((og hl h3 hA hM).trans (by rw[beq_self_eq_true];rfl)) rfl) (Sq (As (Ms (Hf rfl rfl rfl (BG9 hl)) rfl (Cn (Bn rfl rfl (Px (i:=(A.length+1:Nat)) (f5 hl XH) ((Kq _ _).trans mq))) rfl) (BP7 (by
   have:=Pz (A:=A) (M:=M) (C:=C) (a:=a) (b:=a)
   rw[Du,A1,iA];exact f4 hl (Gz qO)) ha)) rfl) k))
theorem eQ:Aq (AJ Dq (A_ Ho (AH (AF 4) AP)) (AG (.int 5))) (W7 (DI A M C a a) p (AA (.int A.length)) (AA (.int (A.length+M.length+3:Nat))) (AA (.lst ((DO a [] (a::(M++[a]))).map .str))) AB AB) o= .ok (!(((DO a [] (a::(M++[a]))).length:Int)==5)) o:=
 Ts (Bn (Cl (Cn rfl rfl) (As8 (by
  have h1:=tN a (a::(M++[a])) []
  have:=Pz (A:=A) (M:=M) (C:=C) (a:=a) (b:=a)
  rw[Du,A1,iA]at h1
  rw[Ay];exact AO h1 (AO (f4 hl qO) (by decide))))) rfl (by rw[Ay];rfl))
include hc
theorem A19{p:CV}(h5:(((DO a [] (a::(M++[a]))).length:Int)==5)=AD):F' [.str (DI A M C a a),p] o= .err (.exc (.ref 73) (AA (DI A M C a a))) o:=
 Iz rfl (gP hl h3 hA hM ha (Se (It ((eQ hl h3 hA hM ha).trans (by rw[h5];rfl)) (Se (Ra rfl))))) hc
variable{p0 p1 p2 p3 p4:T}(h5:DO a [] (a::(M++[a]))=[p0,p1,p2,p3,p4])(hp:p3.length<=640)
include h5 hp
theorem A20{n:Int}(hn:FH (AU p3)=AA n):F' [.str (DI A M C a a), .tup [.str host, .int 21]] o= .ok (.tup [.str host, .int n]) o:=
 F_ rfl (gP hl h3 hA hM ha (Sq (If ((eQ hl h3 hA hM ha).trans (by rw[h5];rfl)) rfl) (by
  rw[h5]
  exact Sq (As rfl rfl) (Sq (As (Cl (Cn rfl rfl) (by show(FH (AU p3)).elim _ _=_;rw[hn];exact if_pos hp)) rfl) (Sr (Rt rfl)))))) hc rfl
theorem A24(hn:FH (AU p3)=AB)(hs:p3.all (λc=>decide (c<4294967296))=AC):F' [.str (DI A M C a a), .tup [.str host, .int 21]] o= .err (.exc (.type "ValueError") AB) o:=
 Iz rfl (gP hl h3 hA hM ha (Sq (If ((eQ hl h3 hA hM ha).trans (by rw[h5];rfl)) rfl) (by
  rw[h5]
  exact Sq (As rfl rfl) (Se (Ae (Ce (Cn rfl rfl) (by show(FH (AU p3)).elim _ _=_;rw[hn];exact if_pos ⟨hp,hs⟩))))))) hc
end
inductive Pc
 |L (t:T)
 |E
 |M
 |R
noncomputable def Pc.d:Pc->D
 | .L t=>AG (.str t)
 | .E=>AF 5
 | .M=>AF 6
 | .R=>AJ FD (AF 5) (AG (.int 3))
noncomputable def Pc.v(e m:T):Pc->T
 | .L t=>t
 | .E=>e
 | .M=>m
 | .R=>HP e 3
noncomputable def Pc.n:Pc->Nat
 | .L t=>t.length
 | .E=>2
 | .M=>100
 | .R=>6
noncomputable def nK:List Pc->D
 |[]=>So
 |p::ps=>ps.foldl (λd p=>AJ Ai d p.d) p.d
noncomputable def EF(e m:T)(ps:List Pc):T:=(ps.map (Pc.v e m)).flatten
noncomputable def F6(ps:List Pc):Nat:=(ps.map Pc.n).sum
noncomputable def fc:List (List Pc)->DL
 |[]=>AP
 |p::ps=>AH (nK p) (fc ps)
section
variable{v:AY}{o:AL}{e m:T}
structure SM(v:AY)(e m:T):Prop where
 h5:v[5]? =AA (some (.str e))
 h6:v[6]? =AA (some (.str m))
 he:e.length<=2
 hm:m.length<=100
theorem ba{i:Nat}{c:CV}(h:v[i]? =AA (AA c)):AF i v o= .ok c o:=by unfold AF;rw[h]
theorem Ay1{a:T}{b:Int}(h:LA a b):FD [.str a, .int b] o= .ok (.str (HP a b)) o:=by
 show(match(if LA a b then R.ok (CV.str (HP a b)) o else .no)with| .no=>_|r=>r)=_
 rw[if_pos h]
theorem Pc.run(H:SM v e m):∀p:Pc,p.d v o= .ok (.str (p.v e m)) o/\(p.v e m).length<=p.n
 | .L t=>⟨rfl,BL _⟩
 | .E=>⟨ba H.h5,H.he⟩
 | .M=>⟨ba H.h6,H.hm⟩
 | .R=>⟨Bn (ba H.h5) rfl (Ay1 ⟨by decide,by decide,AO H.he (by decide:2<=1024)⟩),by
   show(e++(e++(e++[]))).length<=6
   rw[BJ,A1,A1]
   exact Bf H.he (Bf H.he H.he)⟩
theorem pI(H:SM v e m)(ps:List Pc):∀(d:D) (a:T),d v o= .ok (.str a) o->a.length+F6 ps<=16777216->(ps.foldl (λd p=>AJ Ai d p.d) d) v o= .ok (.str (a++EF e m ps)) o/\(a++EF e m ps).length<=a.length+F6 ps:=by
 induction ps with
 |nil=>intro d a h hl;rw[show EF e m []=[]from rfl,BJ];exact⟨h,BL _⟩
 |cons p ps ih=>
  intro d a h hl
  have r:=p.run (o:=o) H
  have hn:F6 (p::ps)=p.n+F6 ps:=MV
  have Bh:(a++p.v e m).length=a.length+(p.v e m).length:=A1
  have h4:(a++p.v e m).length+F6 ps<=a.length+F6 (p::ps):=by rw[Bh,Qp,hn];exact EP (C3 r.2 _) _
  have h5:=AO h4 hl
  have x:=ih (AJ Ai d p.d) (a++p.v e m) (Bn h r.1 (F3 (AO (BR Bh.symm) (AO (GE _ (F6 ps)) h5)))) h5
  rw[B2]at x
  exact⟨x.1,AO x.2 h4⟩
theorem AS0(H:SM v e m){ps:List Pc}(h:F6 ps<=400/\ps≠[]):nK ps v o= .ok (.str (EF e m ps)) o/\(EF e m ps).length<=F6 ps:=by
 cases ps with
 |nil=>exact absurd rfl h.2
 |cons p ps=>
  have r:=p.run (o:=o) H
  have hn:F6 (p::ps)=p.n+F6 ps:=MV
  have h4:(p.v e m).length+F6 ps<=F6 (p::ps):=hn▸C3 r.2 _
  have x:=pI H ps p.d (p.v e m) r.1 (AO h4 (AO h.1 (by decide)))
  exact⟨x.1,AO x.2 h4⟩
noncomputable abbrev IK(e m:T)(l:List (List Pc)):List CV:=l.map λp=> .str (EF e m p)
noncomputable def rR(l:List (List Pc)):Bool:=l.all λp=>decide (F6 p<=400)&& !p.isEmpty
theorem Ta(H:SM v e m):∀{l:List (List Pc)},rR l=AC->fc l v o= .ok (IK e m l) o
 |[],_=>rfl
 |p::l,h=>Cn (AS0 H ⟨of_decide_eq_true (BB (BB h).1).1,λe=>by have h:=(BB (BB h).1).2;rw[e]at h;cases h⟩).1 (Ta H (BB h).2)
end
noncomputable def X1:List (List Pc):=[[.L [50,50,57,32,111,110,32,40,124,124,124], .M, .L [124,41]],[.L [50,50,57,32,40,33,97,33,98,33], .M, .L [33,41]],[.L [50,50,57], .E, .L [46,40,124,124,124], .M, .L [124,41]],[.L [50,50,57,32,41], .E, .L [46,46,40,46,46,46], .M, .L [46,41]]]
noncomputable def X2:List (List Pc):=[[.L [50,50,57], .E, .L [46], .E, .L [40,124,124,124], .M, .L [124,41,40,124,124,124,55,124,41]],[.L [50,50,57,32,40], .R, .M, .E, .L [41]],[.L [50,50,57,32,40,124,124,124,32], .M, .E, .L [124,41]]]
noncomputable def X3:List (List Pc):=[[.L [50,50,57,32,40,124,124,124,43,48], .M, .L [124,41]],[.L [50,50,57,32,40,120,120,120], .M, .L [120,41]],[.L [50,50,57,32,40,124,124,124], .M, .L [124,41]],[.L [50,50,57,50], .M, .L [50,41]],[.L [50,50,57,32,40,124,124,124], .M, .L [124,33,41]]]
noncomputable def XA:List Pc:=[.L [50,50,57,32,40,124,124], .M, .L [124,41]]
noncomputable def XB:List Pc:=[.L [50,50,57,32,40,124,124,124], .M, .L [124,124,41]]
noncomputable def X4:List (List Pc):=[[.L [50,50,57], .E, .L [40,124,124,124], .M, .L [124,124]],[.L [50,50,57,32,40,124,124,124], .M, .L [45,124,41]]]
noncomputable def X5:List (List Pc):=[[.L [46,50,50,57,32,40,124,124,124], .M, .L [124,41]],[.L [50,50,57,32,40,124,124,124], .M, .L [124,41]],[.L [50,50,57,32,40,124,124,124], .M, .L [124,41]]]
noncomputable def Jl(Lq:Nat):List (List Pc):=X1++X2++X3++((if Lq=0 then XA else XB)::X4)++X5
section
variable{o:AL}{kind k:Nat}{snd w e m:T}{n:Int}{v:AY}{i:Nat}{d:D}{p:PG}{x y z:CV}{o1 o2:AL}{v':AY}{l:DL}{cs:List CV}
theorem An(h:AF i v o= .ok x o)(h':d v o= .ok y o1)(k:p [x,y] o1= .ok z o2)(hv:v.set i (AA z)=v'):Jh p i d v o= .next v' o2:=by
 unfold Jh;rw[h];show(d v o).s v _=_;rw[h'];show(p [x,y] o1).s v _=_;rw[k,<-hv];rfl
theorem Tp(h:l v o= .ok cs o1)(hl:cs.length<=Ah):A2 l v o= .ok (.tup cs) o1:=by unfold A2;rw[h];exact if_pos hl
theorem Ls(h:l v o= .ok cs o1)(hl:cs.length<=Ah):BU l v o= .ok (.lst cs) o1:=by unfold BU;rw[h];exact if_pos hl
theorem Ob(h:l v o= .ok cs o1)(hl:cs.length<=Ah):Go l v o= .ok (.obj o1.length) (o1++[.list cs]):=by unfold Go;rw[h];exact if_pos hl
theorem TI(o:AL)(x:CO):(o++[x])[o.length]? =AA x:=by rw[Qk (BL _),LR];rfl
theorem tC(o:AL)(x y:CO):(o++[x]).set o.length y=o++[y]:=by rw[List.set_append_right _ _ (BL _),LR];rfl
theorem Am4{a b:List CV}(h:o[i]? =AA (.list a))(hl:a.length+b.length<=Ah):Ed [.obj i, .lst b] o= .ok (.obj i) (o.set i (.list (a++b))):=by
 show(GP o (.obj i)).elim R.no (λd=>if d.2.length+b.length<=Ah then R.ok (CV.obj d.1) (o.set d.1 (.list (d.2++b)))else .no)=_
 rw[show GP o (.obj i)=AA (i,a) by show G1 (λa=>(i,a)) (o[i]?.bind EI)=_;rw[h];rfl]
 exact if_pos hl
theorem pd{a b:List CV}(hl:a.length+b.length<=Ah):Ed [.obj o.length, .lst b] (o++[.list a])= .ok (.obj o.length) (o++[.list (a++b)]):=by rw[Am4 (TI o _) hl,tC]
theorem Pw{l:List CV}{j:Nat}{c:CV}(hs:j<1073741824)(h:l[j]? =AA c):AW [.lst l, .int (j:Int)] o= .ok c o:=by
 show(match Iv id l j o with| .no=>_|r=>r)=_
 unfold Iv
 rw[if_pos (MP hs),Kq,h];rfl
theorem FB{k n:Nat}(h:0<n):Ck [.int (k:Int), .int (n:Int)] o= .ok (.int (k % n:Nat)) o:=by
 show(match(if((n:Int) !=0)=AC then R.ok (CV.int ((k:Int).fmod n)) o else .no)with| .no=>_|r=>r)=_
 rw[if_pos (bne_iff_ne.mpr (u_.mpr (HV h))),Int.fmod_eq_emod_of_nonneg _ (Fi n)];rfl
theorem Ix{k n:Nat}(h:0<n/\n<1073741824):EJ [.int (k:Int), .int (n:Int)] o= .ok (.int (k/n:Nat)) o:=by
 show(if(((n:Int) !=0)&&B1 n)=AC then R.ok (CV.int ((k:Int).fdiv n)) o else .no)=_
 rw[if_pos (by rw[MP h.2,bne_iff_ne.mpr (u_.mpr (HV h.1))];rfl),Int.fdiv_eq_ediv_of_nonneg _ (Fi n)];rfl
theorem m3(k:Nat):k % 3=0\/k % 3=1\/k % 3=2:=by lia
noncomputable def Di(k:Nat):T:=([[10],[13],[13,10]]:List T).getD (k % 3) []
theorem Ab1(k:Nat):([CV.str [10],CV.str [13],CV.str [13,10]])[k % 3]? =AA (.str (Di k)):=by unfold Di;rcases m3 k with h|h|h<;>rw[h]<;>rfl
noncomputable def IM(k:Nat):T:=([[34],[34,32,105,115,32,34,105,116,34],[]]:List T).getD (k/3 % 3) []
theorem BS2(k:Nat):([CV.str [34],CV.str [34,32,105,115,32,34,105,116,34],CV.str []])[k/3 % 3]? =AA (.str (IM k)):=by unfold IM;rcases m3 (k/3)with h|h|h<;>rw[h]<;>rfl
theorem cS(k:Nat):l8 (Di k):=by unfold Di;rcases m3 k with h|h|h<;>rw[h]<;>first|exact .inl rfl|exact .inr (.inl rfl)|exact .inr (.inr rfl)
theorem K7(k:Nat):(Di k).length<=2:=by rcases cS k with h|h|h<;>rw[h]<;>decide
theorem XJ(k:Nat):(IM k).length<=9:=by unfold IM;rcases m3 (k/3)with h|h|h<;>rw[h]<;>decide
noncomputable abbrev SL(kind k:Nat)(snd:T)(n:Int)(w:T)(e m od x8 c9 c10 GQ On KA:Option CV):AY:=[AA (.int kind),AA (.int k),AA (.str snd),AA (.int n),AA (.str w),e,m,od,x8,c9,c10,GQ,On,KA]
theorem ll0(hn:B1 n=AC):ny (SL kind k snd n w AB AB AB AB AB AB AB AB AB) o= .next (SL kind k snd n w (AA (.str (Di k))) (AA (.str (Az n))) (AA (.int (k % 2:Nat))) AB AB AB AB AB AB) o:=
 Ag (Tp (cs:=[.str (Di k), .str (Az n), .int (k % 2:Nat)]) (Cn (Bn rfl (Bn rfl rfl (FB (n:=3) (by decide))) (Pw (C4 (Dw k (by decide)) (by decide)) (Ab1 k))) (Cn (Cl (Cn rfl rfl) (by show(match(if B1 n=AC then R.ok (CV.str (Az n)) o else .no)with| .no=>_|r=>r)=_;rw[if_pos hn])) (Cn (Bn rfl rfl (FB (n:=2) (by decide))) rfl))) (show 3<=Ah by decide)) rfl
variable(he:e.length<=2)(hm:m.length<=100){od:Nat}{a:List CV}
include he hm
theorem W6{x8 c9 c10 GQ On KA:Option CV}:SM (SL kind k snd n w (AA (.str e)) (AA (.str m)) (AA (.int od)) x8 c9 c10 GQ On KA) e m:=⟨rfl,rfl,he,hm⟩
theorem ll1:nz (SL kind k snd n w (AA (.str e)) (AA (.str m)) (AA (.int od)) AB AB AB AB AB AB) o= .next (SL kind k snd n w (AA (.str e)) (AA (.str m)) (AA (.int od)) (AA (.obj o.length)) AB AB AB AB AB) (o++[.list (IK e m X1)]):=
 As (Ob (Ta (l:=X1) (W6 he hm) (by decide)) (by rw[Ay];decide)) rfl
theorem eT{X:List (List Pc)}(h:rR X=AC)(hl:a.length+X.length<=100):Jh Ed 8 (BU (fc X)) (SL kind k snd n w (AA (.str e)) (AA (.str m)) (AA (.int od)) (AA (.obj o.length)) AB AB AB AB AB) (o++[.list a])= .next (SL kind k snd n w (AA (.str e)) (AA (.str m)) (AA (.int od)) (AA (.obj o.length)) AB AB AB AB AB) (o++[.list (a++IK e m X)]):=
 An rfl (Ls (Ta (W6 he hm) h) (by rw[Ay];show _<=16777216;exact AO (MW hl) (by decide))) (pd (by rw[Ay];show _<=16777216;exact AO hl (by decide))) rfl
omit he hm
theorem W'{l:List CV}{j:Nat}{c:CV}(hi:o[i]? =AA (.list l))(hs:j<1073741824)(h:l[j]? =AA c):AW [.obj i, .int (j:Int)] o= .ok c o:=by
 show(match(o[i]?.bind EI).elim R.no (λl=>Iv id l j o)with| .no=>_|r=>r)=_
 rw[hi]
 show(match Iv id l j o with| .no=>_|r=>r)=_
 unfold Iv
 rw[if_pos (MP hs),Kq,h];rfl
theorem Dt{t:DT}{a b:D}{r:R CV}(h:t v o= .ok AC o1)(k:a v o1=r):Cc t a b v o=r:=by unfold Cc;rw[h];exact k
theorem Df{t:DT}{a b:D}{r:R CV}(h:t v o= .ok AD o1)(k:b v o1=r):Cc t a b v o=r:=by unfold Cc;rw[h];exact k
theorem Rp{y z a:T}(h:d v o= .ok (.str a) o1)(hl:a.length+(a.length+1)*z.length<=16777216):L5 y z d v o= .ok (.str (Jy a y z)) o1:=by unfold L5;rw[h];exact if_pos hl
theorem Te{b:Bool}(h:d v o= .ok (.bool b) o1){c:Bool}(e:b=c):Aq d v o= .ok c o1:=e▸Ts h
theorem Ko{a b:List CV}(h:a.length+b.length<=16777216):Ai [.lst a, .lst b] o= .ok (.lst (a++b)) o:=by
 show(if a.length+b.length<=16777216 then R.ok (CV.lst (a++b)) o else .no)=_
 rw[if_pos h]
theorem eY{a:List CV}{b:Int}(h:LA a b):FD [.lst a, .int b] o= .ok (.lst (HP a b)) o:=by
 show(if LA a b then R.ok (CV.lst (HP a b)) o else .no)=_
 rw[if_pos h]
noncomputable def L4(kind od:Nat):T:=if((kind:Int)==9)=AC then([[50,53,55,45,34],[50,53,55,32,45]]:List T).getD od []else if((kind:Int)==16)=AC then [50,53,48,32,34]else if((kind:Int)==17)=AC then [46,50,53,55,32,34]else [50,53,55,32,34]
noncomputable def Ee(kind k:Nat)(w:T):T:=L4 kind (k % 2)++F9 w++IM k
end
section
variable{o:AL}{kind k od:Nat}{snd w e m t first Dn:T}{n:Int}{a ts:List CV}{c9 c10 GQ On KA:Option CV}
theorem A03(x:T):∀b,(GW x b).length<=x.length:=by
 induction x with
 |nil=>exactλ_=>BL _
 |cons c r ih=>
  intro b
  by_cases h:c=13
  ·rw[h,P6];exact CT (ih _)
  ·by_cases p:b=AC/\c=10
   ·rw[show GW (c::r) b=_ from(if_neg h).trans (if_pos p)];exact HU (ih _)
   ·rw[show GW (c::r) b=_ from(if_neg h).trans (if_neg p)];exact CT (ih _)
theorem e8(x:T):(CG x).length<=x.length:=A03 x AD
theorem BC7(t:T):(Jy t [13,10] [10]).length<=t.length:=by
 have h:=e8 t
 rw[<-sf,gH,BR0]at h
 exact h
theorem Wr(w:T):(F9 w).length<=2*w.length:=by
 induction w with
 |nil=>exact BL _
 |cons c r ih=>
  by_cases h:c=34
  ·rw[h,cJ];exact C3 ih 2
  ·rw[cK h];exact HU (CT ih)
noncomputable abbrev S8(kind k:Nat)(snd:T)(n:Int)(w e m:T)(od i:Nat)(c9 c10 GQ On KA:Option CV):AY:=SL kind k snd n w (AA (.str e)) (AA (.str m)) (AA (.int od)) (AA (.obj i)) c9 c10 GQ On KA
theorem ll4(he:e.length<=2)(hm:m.length<=100)(ho:od<2)(hl:a.length+3<=100):n4 (S8 kind k snd n w e m od o.length AB AB AB AB AB) (o++[.list a])= .next (S8 kind k snd n w e m od o.length AB AB AB AB AB) (o++[.list (a++IK e m ((if od=0 then XA else XB)::X4))]):=
 An rfl (Ls (Cn (Bn (Ls (Ta (l:=[XA,XB]) (W6 he hm) (by decide)) (show 2<=Ah by decide)) rfl (Pw (c:= .str (EF e m (if od=0 then XA else XB))) (by exact AO (by assumption) (by decide)) (by
  rcases(by exact Yy.mp (MX (by assumption)):od=0\/od=1)with h|h<;>rw[h]<;>rfl))) (Ta (l:=X4) (W6 he hm) (by decide))) (show 3<=Ah by decide)) (pd (show a.length+3<=16777216 by exact AO (by assumption) (by decide))) rfl
theorem ll6(ho:od<2):n5 (S8 kind k snd n w e m od o.length AB AB AB AB AB) (o++[.list a])= .next (S8 kind k snd n w e m od o.length (AA (.str (L4 kind od))) AB AB AB AB) (o++[.list a]):=by
 refine As ?_ rfl
 unfold L4
 cases h9:((kind:Int)==9)with
 |true=>exact Dt (Te (b:=((kind:Int)==9)) rfl h9) (Bn rfl rfl (Pw (by exact AO (by assumption) (by decide)) (by rcases(by exact Yy.mp (MX (by assumption)):od=0\/od=1)with h|h<;>rw[h]<;>rfl)))
 |false=>
  refine Df (Te (b:=((kind:Int)==9)) rfl h9) ?_
  cases VO:((kind:Int)==16)with
  |true=>exact Dt (Te (b:=((kind:Int)==16)) rfl VO) rfl
  |false=>
   refine Df (Te (b:=((kind:Int)==16)) rfl VO) ?_
   cases jd:((kind:Int)==17)with
   |true=>exact Dt (Te (b:=((kind:Int)==17)) rfl jd) rfl
   |false=>exact Df (Te (b:=((kind:Int)==17)) rfl jd) rfl
theorem qR(kind:Nat)(ho:od<2):(L4 kind od).length<=6:=by
 unfold L4
 repeat' split
 ·rcases(by exact Yy.mp (MX (by assumption)):od=0\/od=1)with h|h<;>rw[h]<;>decide
 all_goals decide
theorem ll7{c:T}(hc:c.length<=6)(hw:w.length<=100):n6 (S8 kind k snd n w e m od o.length (AA (.str c)) AB AB AB AB) (o++[.list a])= .next (S8 kind k snd n w e m od o.length (AA (.str c)) (AA (.str (c++F9 w++IM k))) AB AB AB) (o++[.list a]):=by
 have h1:=Wr w
 have h2:=XJ k
 refine As (Bn (Bn rfl (Rp rfl (show w.length+(w.length+1)*2<=16777216 by exact AO (Bf (by assumption) (Uk _ (CT (by assumption)))) (by decide))) (F3 (by rw[fb];exact AO (Bf (by assumption) (AO (by assumption) (DM 2 (by assumption)))) (by decide)))) (Bn rfl (Bn (Bn rfl rfl (Ix (n:=3) (by decide))) rfl (FB (n:=3) (by decide))) (Pw (by exact C4 (Dw _ (by decide)) (by decide)) (BS2 k))) (F3 (by rw[fb,A1];exact AO (Bf (Bf (by assumption) (AO (by assumption) (DM 2 (by assumption)))) (by assumption)) (by decide)))) (by rw[fb];rfl)
theorem ll8{i:Nat}{c:Option CV}(ho:o[i]? =AA (.list ts))(hk:kind<18)(ht:ts[kind]? =AA (.str t))(hl:t.length<=400)(he:e.length<=2)(hs:Dn.length<=300):n7 (S8 kind k snd n w e m od i c (AA (.str Dn)) AB AB AB) o= .next (S8 kind k snd n w e m od i c (AA (.str Dn)) (AA (.str (t++e++[126]++e++Dn))) (AA (.str (CG t))) AB) o:=by
 have j6:AW [.obj i, .int (kind:Int)] o= .ok (.str t) o:=W' ho (by exact AO (by assumption) (by decide)) ht
 have h2:=BC7 t
 refine Ag (Tp (cs:=[.str (t++e++[126]++e++Dn), .str (CG t)]) (Cn (Bn (Bn (Bn (Bn (Bn rfl rfl j6) rfl (F3 (by exact AO (Bf (by assumption) (by assumption)) (by decide)))) rfl (F3 (by rw[A1];show _+1<=_;exact AO (CT (Bf (by assumption) (by assumption))) (by decide)))) rfl (F3 (by rw[A1,A1];show _+1+_<=_;exact AO (Bf (CT (Bf (by assumption) (by assumption))) (by assumption)) (by decide)))) rfl (F3 (by rw[A1,A1,A1];show _+1+_+_<=_;exact AO (Bf (Bf (CT (Bf (by assumption) (by assumption))) (by assumption)) (by assumption)) (by decide)))) (Cn (sf t▸Rp (Rp (Bn rfl rfl j6) (show t.length+(t.length+1)*1<=16777216 by exact AO (Bf (by assumption) (Uk _ (CT (by assumption)))) (by decide))) (show _+(_+1)*1<=16777216 by exact AO (Bf (AO (by assumption) (by assumption)) (Uk _ (CT (AO (by assumption) (by assumption))))) (by decide))) rfl)) (show 2<=Ah by decide)) rfl
theorem Fd{x:CV}{n:Nat}(h:n<=1024):LA [x] (n:Int):=⟨Fi n,JB.mpr h,(by decide:1<=1024)⟩
noncomputable def cP(snd:T)(n:Int)(w first Dn:T):List CV:=HP [.tup [.str snd, .int n, .str w]] 9++[.tup [.str snd, .int n, .str []]]++HP [.tup [.str [112,114,111,116,111], .str first]] 4++[.tup [.str [118,97,108,117,101], .str []], .tup [.str [114,101,112,108,121], .str first]]
noncomputable def Wv(snd:T)(n:Int)(w first Dn:T):List CV:=cP snd n w first Dn++HP [.tup [.str [114,101,112,108,121], .str Dn]] 2
theorem ll9{i:Nat}{c c10 GQ:Option CV}:n8 (S8 kind k snd n w e m od i c c10 GQ (AA (.str first)) AB) o= .next (S8 kind k snd n w e m od i c c10 GQ (AA (.str first)) (AA (.lst (cP snd n w first Dn)))) o:=
 As (Bn (Bn (Bn (Bn rfl rfl (eY (b:=(9:Nat)) (Fd (by decide)))) rfl (Ko (show 9+1<=16777216 by decide))) (Bn rfl rfl (eY (b:=(4:Nat)) (Fd (by decide)))) (Ko (show 10+4<=16777216 by decide))) rfl (Ko (show 14+2<=16777216 by decide))) rfl
theorem At5{i:Nat}{c:Option CV}{V_ due:CV}(hk:kind<18)(hd:(Wv snd n w first Dn)[kind]? =AA due)(hf:first.length<=400)(hs:Dn.length<=300):n3 (S8 kind k snd n w e m od i c (AA (.str Dn)) (AA V_) (AA (.str first)) (AA (.lst (cP snd n w first Dn)))) o= .ret (.tup [V_, .tup [.str (first++[10,126,10]++Dn),due]]) o:=
 Rt (Tp (Cn rfl (Cn (Tp (Cn (Bn (Bn rfl rfl (F3 (show _+3<=_ by exact AO (C3 (by assumption) _) (by decide)))) rfl (F3 (by rw[A1];show _+3+_<=_;exact AO (Bf (C3 (by assumption) _) (by assumption)) (by decide)))) (Cn (Bn (Bn rfl (Bn rfl rfl (eY (b:=(2:Nat)) (Fd (by decide)))) (Ko (show 16+2<=16777216 by decide))) rfl (Pw (by exact AO (by assumption) (by decide)) hd)) rfl)) (show 2<=Ah by decide)) rfl)) (show 2<=Ah by decide))
theorem Ai4{a:DS}{cs:List CV}{x:AL}{c:CV}{fx:Fx}{ps:List AQ}{E6:List CV}(hn:(cs++E6).length=ps.length)(h:a (Fg fx (cs++E6)) o= .ret c (o++x))(hc:Ch o)(hb:C8 o.length c=AC):CM fx ps E6 a cs o= .ok c o:=by
 unfold CM;rw[if_pos hn,h];exact Ag3 hc hb
theorem Bj0(hc:Ch o)(hk:kind<18)(hn:B1 n=AC)(hm:(Az n).length<=100)(hw:w.length<=100){t:T}(ht:(IK (Di k) (Az n) (Jl (k % 2)))[kind]? =AA (.str t))(hl:t.length<=400){due:CV}(hd:(Wv snd n w (CG t) (Ee kind k w))[kind]? =AA due)(Ft:C8 o.length due=AC):
  Pr [.int kind, .int k, .str snd, .int n, .str w] o= .ok (.tup [.str (t++Di k++[126]++Di k++Ee kind k w), .tup [.str (CG t++[10,126,10]++Ee kind k w),due]]) o:=by
 have ho:k % 2<2:=Dw _ (by decide)
 have h1:=qR (od:=k % 2) kind ho
 have h2:=Wr w
 have h3:=XJ k
 have hs:(Ee kind k w).length<=300:=by unfold Ee;rw[A1,A1];exact AO (Bf (Bf (by assumption) (AO (by assumption) (DM 2 (by assumption)))) (by assumption)) (by decide)
 have e1:IK (Di k) (Az n) (Jl (k % 2))=(((IK (Di k) (Az n) X1++IK (Di k) (Az n) X2)++IK (Di k) (Az n) X3)++IK (Di k) (Az n) ((if k % 2=0 then XA else XB)::X4))++IK (Di k) (Az n) X5:=by
  unfold Jl IK;simp only[EO,EO,EO,EO]
 rw[e1]at ht
 have body:Wk (SL kind k snd n w AB AB AB AB AB AB AB AB AB) o= .ret _ (o++[_]):=Sq (ll0 hn) (Sq (ll1 (K7 k) hm) (Sq (eT (K7 k) hm (X:=X2) (by decide) (by rw[Ay];decide)) (Sq (eT (K7 k) hm (X:=X3) (by decide) (by rw[A1,Ay,Ay];decide)) (Sq (ll4 (K7 k) hm ho (by simp only[A1,A1,Ay,Ay,Ay];decide)) (Sq (eT (K7 k) hm (X:=X5) (by decide) (by simp only[A1,A1,A1,Ay,Ay,Ay,Ay,Du];decide))
  (Sq (ll6 ho) (Sq (ll7 h1 hw) (Sq (ll8 (TI _ _) hk ht hl (K7 k) hs) (Sq ll9 (Sr (At5 hk hd (AO (e8 _) hl:(CG t).length<=400) hs)))))))))))
 exact Ai4 rfl body hc (by show(AC&&(AC&&C8 _ due&&AC)&&AC)=AC;rw[Ft];rfl)
end
noncomputable abbrev Sg:=List (Option Nat)
noncomputable def Pc.sg:Pc->Sg
 | .L t=>t.map AA
 | .E=>[AA 10]
 | .M=>[AB]
 | .R=>[AA 10,AA 10,AA 10]
noncomputable def Ds(ps:List Pc):Sg:=(ps.map Pc.sg).flatten
noncomputable def val(m:T)(s:Sg):T:=s.flatMap λx=>x.elim m λc=>[c]
noncomputable def Pc.low:Pc->Bool
 | .L t=>t.all λc=>c !=10&&c !=13
 |_=>AC
theorem LG{m:T}{a b:Sg}:val m (a++b)=val m a++val m b:=vg
theorem YO{m:T}:∀t:T,val m (t.map AA)=t
 |[]=>rfl
 |c::t=>congrArg (c::·) (YO t)
section
variable{e m:T}(he:l8 e)(CF:10∉m)(JV:13∉m)
theorem qW{t:T}(h:(Pc.L t).low=AC):10∉t/\13∉t:=⟨λq=>bne_iff_ne.mp (BB (FF.mp h _ q)).1 rfl,λq=>bne_iff_ne.mp (BB (FF.mp h _ q)).2 rfl⟩
include CF in
theorem rH:∀{ps:List Pc},ps.all Pc.low=AC->10∉EF [13] m ps
 |[],_=>D9
 |p::ps,h=>λq=>(D8.mp q).elim (λq=>by
   cases p with
   |L t=>exact(qW (BB h).1).1 q
   |E=>exact absurd (Ca.mp q) (by decide)
   |M=>exact CF q
   |R=>exact absurd (show 10∈[13,13,13]from q) (by decide)) (rH (BB h).2)
include he in
theorem XZ{z:T}(hz:e=[13]->10∉z):CG (e++z)=10::CG z:=by
 rcases he with rfl|rfl|rfl
 ·exact P7 (by decide) z
 ·cases z with
  |nil=>rfl
  |cons b z=>exact e7 (λh=>hz rfl (h▸CP)) z
 ·rfl
include he CF JV in
theorem rL{ps:List Pc}:ps.all Pc.low=AC->CG (EF e m ps)=val m (Ds ps):=by
 induction ps with
 |nil=>exactλ_=>rfl
 |cons p ps ih=>
  intro h
  have ih:=ih (BB h).2
  have hz:e=[13]->10∉EF e m ps:=λq=>q▸rH CF (BB h).2
  show CG (p.v e m++EF e m ps)=val m (p.sg++Ds ps)
  simp only[LG,<-ih]
  cases p with
  |L t=>rw[show val m (Pc.L t).sg=t from YO t];exact rK (qW (BB h).1).2 _
  |E=>exact XZ he hz
  |M=>rw[show val m Pc.M.sg=m from BJ m];exact rK JV _
  |R=>
   have no:∀{a z:T},(e=[13]->10∉a)->(e=[13]->10∉z)->e=[13]->10∉a++z:=λha hz q r=>(D8.mp r).elim (ha q) (hz q)
   have hE:e=[13]->10∉e:=λq=>by rw[q];decide
   show CG ((e++(e++(e++[])))++EF e m ps)=10::10::10::CG (EF e m ps)
   simp only[BJ,B2,B2,XZ he (no hE (no hE hz)),XZ he (no hE hz),XZ he hz]
end
inductive Lx
 |reply
 |proto
 |num (p:Sg)
 |bad
 deriving DecidableEq
noncomputable def brk(c:Nat):Sg->Sg->Option (Sg×Sg)
 |_,[]=>AB
 |acc,x::r=>if x=AA c then AA (acc,r)else brk c (acc++[x]) r
noncomputable def Jx(a:Nat):Sg->Sg->List Sg
 |acc,[]=>[acc]
 |acc,x::r=>if x=AA a then acc::Jx a [] r else Jx a (acc++[x]) r
noncomputable def qv(l:List Sg):Lx:=if l.length=5 then .num (l.getD 3 [])else if l.length=4\/l.length=6 then .proto else .bad
noncomputable def mid(a b:Nat)(M:Sg):Lx:=if(a==b)=AC then qv (Jx a [] (AA a::(M++[AA a])))else .proto
noncomputable def Ax9(B:Sg)(a:Nat):Lx:=(B.getLast?.bind id).elim .bad λb=>if(decide (a<256)&&(decide (a<48)||decide (57<a)))=AC then mid a b B.dropLast else .bad
noncomputable def Nu(s:Sg):Lx:=if((s.take 3)==[AA 50,AA 50,AA 57])=AC then(brk 40 [] s).elim .proto λx=>(brk 41 [] x.2).elim .proto λy=>(y.1.head?.bind id).elim .bad (Ax9 y.1.tail)
 else if((s.take 3).all (·.isSome)&&decide (3<=s.length))=AC then .reply else .bad
noncomputable def wants(kind Lq:Nat):Lx:=if kind=6 then .num [AA 32,AB,AA 10]else if kind=7 then .num [AA 43,AA 48,AB]else if kind<10\/16<=kind then .num [AB]else if kind=14 then .num [AB,AA 45]else if kind=15 then .reply else .proto
section
variable{m:T}{c:Nat}{x:Option Nat}{acc r s:Sg}
theorem m_:brk c acc (AA c::r)=AA (acc,r):=if_pos rfl
theorem nE(h:x≠AA c):brk c acc (x::r)=brk c (acc++[x]) r:=if_neg h
theorem BP5:Jx c acc (AA c::r)=acc::Jx c [] r:=if_pos rfl
theorem BP6(h:x≠AA c):Jx c acc (x::r)=Jx c (acc++[x]) r:=if_neg h
noncomputable def tD(m:T)(x:Option Nat):T:=x.elim m λc=>[c]
theorem gS:val m (x::r)=tD m x++val m r:=UZ
theorem fz(hm:c∉m)(h:x≠AA c):c∉tD m x:=by
 cases x with
 |none=>exact hm
 |some d=>exactλq=>h (congrArg AA (Ca.mp q).symm)
theorem nF(hm:c∉m):∀{acc:Sg},brk c acc s=AB->c∉val m s:=by
 induction s with
 |nil=>exactλ_=>D9
 |cons x r ih=>
  intro acc h q
  by_cases e:x=AA c
  ·rw[e,m_]at h;cases h
  ·exact(D8.mp (gS▸q)).elim (fz hm e) (ih ((nE e).symm.trans h))
theorem nG(hm:c∉m):∀{acc A z:Sg},brk c acc s=AA (A,z)->∃A',s=A'++AA c::z/\c∉val m A'/\A=acc++A':=by
 induction s with
 |nil=>exactλh=>Af h
 |cons x r ih=>
  intro acc A z h
  by_cases e:x=AA c
  ·rw[e,m_]at h;cases h;rw[e]
   exact⟨[],rfl,D9,(BJ _).symm⟩
  ·refine A3 (ih ((nE e).symm.trans h)) λA' aC=>?_
   exact⟨x::A',congrArg (x::·) aC.1,λq=>(D8.mp (gS▸q)).elim (fz hm e) aC.2.1,aC.2.2.trans (B2 _ _ _)⟩
theorem BO7{u:T}:∀{acc b:T},c∉u->DO c acc (u++b)=DO c (acc++u) b:=by
 induction u with
 |nil=>exactλ{acc b} _=>by rw[BJ];rfl
 |cons d u ih=>
  intro acc b h
  exact(QQ (EH h).1 acc (u++b)).trans ((ih (EH h).2).trans (congrArg (DO c · b) (NO acc d u)))
theorem BP4(hm:c∉m):∀{s acc:Sg},DO c (val m acc) (val m s)=(Jx c acc s).map (val m):=λ{s}=>by
 induction s with
 |nil=>exactλ{_}=>rfl
 |cons x r ih=>
  intro acc
  by_cases e:x=AA c
  ·rw[e,BP5];exact(UF _ _).trans (congrArg (val m acc::·) (ih (acc:=[])))
  ·rw[BP6 e,<-ih,gS,BO7 (fz hm e),LG]
   exact congrArg (λq=>DO c (val m acc++q) (val m r)) (BJ _).symm
end
theorem au:∀Lq<2,∀kind<18,(Jl Lq)[kind]?.map (λps=>Nu (Ds ps))=AA (wants kind Lq)/\(Jl Lq)[kind]?.map (λps=>ps.all Pc.low)=AA AC:=by decide+kernel
section
variable{m:T}{o:AL}{host:T}
noncomputable def SX(o:AL)(host m:T)(x:T)(r:R CV):Lx->Prop
 | .reply=>r= .err (.exc (.ref 61) (AA x)) o
 | .proto=>r= .err (.exc (.ref 73) (AA x)) o
 | .num p=>(val m p).length<=640->(∀n,FH (AU (val m p))=AA n->r= .ok (.tup [.str host, .int n]) o)/\(FH (AU (val m p))=AB->(val m p).all (λc=>decide (c<4294967296))=AC->r= .err (.exc (.type "ValueError") AB) o)
 | .bad=>True
inductive NF{α:Type}:List α->Prop
 |mk (a b c d e:α):NF [a,b,c,d,e]
theorem Sm{α:Type}{l:List α}{n:Nat}{P:List α->Prop}(h:l.length=n+1)(k:∀a r,r.length=n->P (a::r)):P l:=by
 cases l with
 |nil=>cases h
 |cons a r=>exact k a r (Hw h)
theorem Ah6{α:Type}{l:List α}(h:l.length=5):NF l:=Sm (P:=NF) h λa _ h=>Sm (P:=λl=>NF (a::l)) h λb _ h=>Sm (P:=λl=>NF (a::b::l)) h λc _ h=>Sm (P:=λl=>NF (a::b::c::l)) h λd _ h=>Sm (P:=λl=>NF (a::b::c::d::l)) h λe l h=>by
 rw[g8 h];exact .mk a b c d e
theorem AK2{l:Sg}(h:l.all (·.isSome)=AC):∃t:T,l=t.map AA:=by
 induction l with
 |nil=>exact⟨[],rfl⟩
 |cons x r ih=>
  cases x with
  |none=>cases (BB h).1
  |some c=>exact(ih (BB h).2).elim λt e=>⟨c::t,congrArg (AA c::·) e⟩
theorem Ax8(hc:Ch o){A M C:Sg}{a b:Nat}(ha:a<256)(hm:a∉m)(hl:(DI (val m A) (val m M) (val m C) a b).length<=100000)(h3:((DI (val m A) (val m M) (val m C) a b).take 3==[50,50,57])=AC)(hA:40∉val m A)(hM:41∉a::(val m M++[b])):
  SX o host m (DI (val m A) (val m M) (val m C) a b) (F' [.str (DI (val m A) (val m M) (val m C) a b), .tup [.str host, .int 21]] o) (mid a b M):=by
 unfold mid
 cases Oq:a==b with
 |false=>exact A23 hc hl h3 hA hM Oq
 |true=>
  have e:=CH Oq
  subst e
  have hs:DO a [] (a::(val m M++[a]))=(Jx a [] (AA a::(M++[AA a]))).map (val m):=by
   rw[<-BP4 hm]
   show _=DO a [] (a::val m (M++[AA a]))
   rw[LG];rfl
  rw[if_pos rfl]
  generalize Jx a [] (AA a::(M++[AA a]))=l at hs
  unfold qv
  by_cases h5:l.length=5
  ·rw[if_pos h5]
   cases Ah6 h5
   exactλhp=>⟨λn hn=>A20 hc hl h3 hA hM ha hs hp hn,λhn hb=>A24 hc hl h3 hA hM ha hs hp hn hb⟩
  ·rw[if_neg h5]
   by_cases RX:l.length=4\/l.length=6
   ·rw[if_pos RX]
    exact A19 hc hl h3 hA hM ha (by rw[hs,Ay];exact RX.elim (λh=>by rw[h];rfl) (λh=>by rw[h];rfl))
   ·rw[if_neg RX];trivial
theorem BT1(hc:Ch o)(hd:∀c∈m,48<=c/\c<=57){s:Sg}(hl:(val m s).length<=100000):SX o host m (val m s) (F' [.str (val m s), .tup [.str host, .int 21]] o) (Nu s):=by
 have no:∀{c},c<48\/57<c->c∉m:=λh q=>h.elim (λz=>Cp.mpr (hd _ q).1 z) λz=>Cp.mpr (hd _ q).2 z
 have De:(val m s).length<=Ah:=AO hl (by decide)
 unfold Nu
 by_cases h:(s.take 3==[AA 50,AA 50,AA 57])=AC
 ·rw[if_pos h]
  have h3:((val m s).take 3==[50,50,57])=AC:=by
   rw[<-iI 3 s,CH h];rfl
  cases hb:brk 40 [] s with
  |none=>exact A21 hc De h3 (nF (no (by decide)) hb)
  |some x=>
   obtain⟨A,r⟩:=x
   refine A3 (nG (m:=m) (no (by decide)) hb) λA Vu=>?_
   obtain rfl:=Vu.2.2
   have e:val m s=val m A++40::val m r:=by rw[Vu.1,LG];rfl
   rw[e]at hl De h3⊢
   show SX o host m _ _ (OM (brk 41 [] r) .proto _)
   cases GJ:brk 41 [] r with
   |none=>exact A18 hc De h3 Vu.2.1 (nF (no (by decide)) GJ)
   |some y=>
    obtain⟨B,C⟩:=y
    obtain⟨B,h2,hB,rfl⟩:=nG (m:=m) (no (by decide)) GJ
    cases B with
    |nil=>trivial
    |cons a B=>cases a with
     |none=>trivial
     |some a=>
      show SX _ _ _ _ _ ((B.getLast?.bind id).elim .bad _)
      cases hg:B.getLast? with
      |none=>trivial
      |some b=>cases b with
       |none=>trivial
       |some b=>
        have VP:B=B.dropLast++[AA b]:=by
         obtain⟨ys,e⟩:=List.getLast?_eq_some_iff.mp hg
         rw[e,vV]
        have e2:val m r=a::(val m B.dropLast++b::41::val m C):=by
         rw[h2,LG,VP,vV]
         show a::val m (B.dropLast++[AA b])++41::val m C=_
         simp only[LG,vU,B2];rfl
        have hM:41∉a::(val m B.dropLast++[b]):=by
         rw[VP]at hB
         have:val m (AA a::(B.dropLast++[AA b]))=a::(val m B.dropLast++[b]):=by show a::val m (B.dropLast++[AA b])=_;rw[LG];rfl
         rw[this]at hB;exact hB
        rw[e2]at hl h3⊢
        show SX _ _ _ _ _ (if(decide (a<256)&&(decide (a<48)||decide (57<a)))=AC then mid a b B.dropLast else .bad)
        by_cases q:(decide (a<256)&&(decide (a<48)||decide (57<a)))=AC
        ·rw[if_pos q]
         exact Ax8 hc (of_decide_eq_true (BB q).1) (no (((Qc _ _).mp (BB q).2).imp of_decide_eq_true of_decide_eq_true)) hl h3 Vu.2.1 hM
        ·rw[if_neg q];trivial
 ·rw[if_neg h]
  by_cases h':((s.take 3).all (·.isSome)&&decide (3<=s.length))=AC
  ·rw[if_pos h']
   refine A22 hc De (HR.mpr λq=>h ?_)
   obtain⟨t,e⟩:=AK2 (BB h').1
   rw[<-iI 3 s,LG,e,YO,List.take_left' (by rw[<-Ay (f:=AA),<-e,JE,LO (of_decide_eq_true (BB h').2)]:t.length=3)]at q
   rw[e,CH q];rfl
  ·rw[if_neg h'];trivial
end
section
variable{d e:D}{l:DL}{p:PG}{v:AY}{o o1 o':AL}{c x:CV}{cs:List CV}
theorem Be1(h:d v o= .err c o'):AJ p d e v o= .err c o':=by unfold AJ;rw[h];rfl
theorem Be2(h:d v o= .ok x o1)(h':e v o1= .err c o'):AJ p d e v o= .err c o':=by unfold AJ;rw[h];show(e v o1).bind _=_;rw[h'];rfl
theorem mK(h:l v o= .err c o'):A2 l v o= .err c o':=by unfold A2;rw[h];rfl
theorem aZ(h:d v o= .err c o'):AH d l v o= .err c o':=by unfold AH;rw[h];rfl
theorem mD(h:e v o= .err c o'):Bb e v o= .err c v o':=by unfold Bb Pe;rw[h];rfl
theorem Ty{b:DS}{hs:List HC}{r r':RS}(h:b v o=r)(k:YK hs r=r'):NY b hs v o=r':=by unfold NY;rw[h];exact k
theorem Th{hs:List HC}{r:RS}{cls:AE}{m:Option T}(hc:L3 v o=AC)(k:IB hs cls m v o=r):YK hs (.err (.exc cls m) v o)=r:=(if_pos hc).trans k
end
section
variable{o:AL}(hc:Ch o){f s snd w:T}{n:Int}{m:T}
noncomputable abbrev V5(f s snd:T):AY:=[AA (.str (f++10::126::10::s)),AA (.str snd),AA (.str f),AA (.str s),AB]
include hc in
theorem nP:L3 (V5 f s snd) o=AC:=by show(o.all _&&AC)=AC;rw[hc];rfl
variable(h1:126∉f)(h2:10∉s)(hl:f.length+s.length<=10000)
include h1 h2 hl in
theorem dz:N0 [.str (f++10::126::10::s), .str [10,126,10]] o= .ok (.lst [.str f, .str s]) o:=by
 have hx:(f++10::126::10::s).length=f.length+s.length+3:=by rw[A1];show f.length+(s.length+3)=_;lia
 have e:LC (f++10::126::10::s) [10,126,10] ((f++10::126::10::s).length+1)=[f,s]:=by rw[YH (by decide) (by decide),BO9 f [] s _ h1 h2];rfl
 show(match Ju (f++10::126::10::s) [10,126,10] ((f++10::126::10::s).length+1) o with| .no=>_|r=>r)=_
 unfold Ju
 rw[e,if_pos ⟨(by decide:0<3),by rw[hx];show _<=16777216;exact AO (C3 (by assumption) _) (by decide),(by decide:2<=Ah)⟩];rfl
include hc h1 h2 hl
theorem sb{y:T}(g1:F' [.str f, .tup [.str snd, .int 21]] o= .ok (.tup [.str snd, .int n]) o)(g2:I2 [.str s] o= .ok (.str y) o):K1 [.str (f++10::126::10::s), .str snd] o= .ok (.tup [.str snd, .int n, .str y]) o:=
 F_ rfl (Sq (Ag (Ms rfl rfl (Cn rfl rfl) (dz h1 h2 hl)) rfl) (Sr (Ty (Sr (Rt (Bn (Cl (Cn rfl (Cn (Tp (Cn rfl (Cn rfl rfl)) (show 2<=Ah by decide)) rfl)) g1) (Tp (Cn (Cl (Cn rfl rfl) g2) rfl) (show 1<=Ah by decide)) rfl))) rfl))) hc rfl
theorem fZ{k:AE}{mm:Option T}{c:CV}(g1:F' [.str f, .tup [.str snd, .int 21]] o= .err (.exc k mm) o)(hh:IB [⟨IH AC AD AD,AA 4,(AM (Bb (A2 (AH (AG (.str [114,101,112,108,121])) (AH (A_ HM (AH (AF 4) AP)) AP))))
  AZ)⟩,⟨IH AD AC AD,AA 4,(AM (Bb (A2 (AH (AG (.str [112,114,111,116,111])) (AH (A_ HM (AH (AF 4) AP)) AP))))
  AZ)⟩,⟨IH AD AD AC,AB,(AM (Bb (A2 (AH (AG (.str [118,97,108,117,101])) (AH (AG (.str [])) AP))))
  AZ)⟩] k mm (V5 f s snd) o= .ret c o) (hb:C8 o.length c=AC):K1 [.str (f++10::126::10::s), .str snd] o= .ok c o:=
 F_ rfl (Sq (Ag (Ms rfl rfl (Cn rfl rfl) (dz h1 h2 hl)) rfl) (Sr (Ty (Se (mD (Be1 (Ce (Cn rfl (Cn (Tp (Cn rfl (Cn rfl rfl)) (show 2<=Ah by decide)) rfl)) g1)))) (Th (nP hc) hh)))) hc hb
theorem BC6{mm:T}(g1:F' [.str f, .tup [.str snd, .int 21]] o= .ok (.tup [.str snd, .int n]) o)(g2:I2 [.str s] o= .err (.exc (.ref 61) (AA mm)) o):K1 [.str (f++10::126::10::s), .str snd] o= .ok (.tup [.str [114,101,112,108,121], .str mm]) o:=
 F_ rfl (Sq (Ag (Ms rfl rfl (Cn rfl rfl) (dz h1 h2 hl)) rfl) (Sr (Ty (Se (mD (Be2 (Cl (Cn rfl (Cn (Tp (Cn rfl (Cn rfl rfl)) (show 2<=Ah by decide)) rfl)) g1) (mK (aZ (Ce (Cn rfl rfl) g2)))))) (Th (nP hc) rfl)))) hc rfl
end
structure FS(n:Int):Prop where
 sm:B1 n=AC
 ne:Az n≠[]
 len:(Az n).length<=20
 dig:∀c∈Az n,48<=c/\c<=57
 i0:FH (AU (Az n))=AA n
 i1:FH (AU (32::(Az n++[10])))=AA n
 i2:FH (AU (43::48::Az n))=AA n
 i3:FH (AU (Az n++[45]))=AB
structure HA(w:T):Prop where
 ne:w≠[]
 len:w.length<=100
 n10:10∉w
 n13:13∉w
noncomputable def Kv(snd:T)(n:Int)(w first Dn:T)(kind:Nat):CV:=
 if kind<9 then .tup [.str snd, .int n, .str w]else if kind=9 then .tup [.str snd, .int n, .str []]else if kind<14 then .tup [.str [112,114,111,116,111], .str first]
 else if kind=14 then .tup [.str [118,97,108,117,101], .str []]else if kind=15 then .tup [.str [114,101,112,108,121], .str first]else .tup [.str [114,101,112,108,121], .str Dn]
theorem Aa5(snd:T)(n:Int)(w first Dn:T):Wv snd n w first Dn=(Eo 18).map (Kv snd n w first Dn):=rfl
theorem Aa4{snd:T}{n:Int}{w first Dn:T}{kind:Nat}(h:kind<18):(Wv snd n w first Dn)[kind]? =AA (Kv snd n w first Dn kind):=by
 simp only[Aa5,Cm,hV h];rfl
theorem bQ(N kind:Nat)(snd:T)(n:Int)(w first Dn:T):C8 N (Kv snd n w first Dn kind)=AC:=by
 unfold Kv
 repeat' split
 all_goals rfl
theorem gT{m:T}{c:Nat}(hm:c∉m):∀{s:Sg},s.all (· !=AA c)=AC->c∉val m s
 |[],_=>D9
 |some d::s,h=>λq=>(Cf.mp q).elim (λq=>bne_iff_ne.mp (BB h).1 (congrArg AA q.symm)) (gT hm (BB h).2)
 |none::s,h=>λq=>(D8.mp q).elim hm (gT hm (BB h).2)
theorem YN{m:T}(hm:m.length<=20):∀s:Sg,(val m s).length<=s.length*20
 |[]=>D2 _
 |some d::s=>by
  have:=YN hm s
  show(val m s).length+1<=(s.length+1)*20
  rw[Nat.succ_mul]
  exact Bf this (by decide)
 |none::s=>by
  have:=YN hm s
  show(m++val m s).length<=(s.length+1)*20
  rw[A1,OL,Nat.succ_mul];exact Bf this hm
theorem AZ0{c:Nat}{w:T}(h:c∈F9 w):c∈w:=by
 induction w with
 |nil=>exact h
 |cons a r ih=>
  by_cases e:a=34
  ·rw[e,cJ]at h;rw[e]
   exact(Cf.mp h).elim (λq=>q▸CP) λh=>(Cf.mp h).elim (λq=>q▸CP) λh=>Ef _ (ih h)
  ·rw[cK e]at h
   exact(Cf.mp h).elim (λq=>q▸CP) λh=>Ef _ (ih h)
theorem AU2(kind od:Nat)(ho:od<2):∀c,c=10\/c=13->c∉L4 kind od:=by
 intro c hc
 unfold L4
 repeat' split
 ·rcases(Yy.mp (MX ho):od=0\/od=1)with h|h<;>rw[h]<;>rcases hc with rfl|rfl<;>decide
 all_goals rcases hc with rfl|rfl<;>decide
theorem ft{c:Nat}(hc:c=10\/c=13){w:T}(hw:c∉w)(kind k:Nat):c∉Ee kind k w:=λq=>(D8.mp q).elim
 (λq=>(D8.mp q).elim (AU2 kind _ (Dw _ (by decide)) c hc) λq=>hw (AZ0 q))
 (by unfold IM;rcases m3 (k/3)with h|h|h<;>rw[h]<;>rcases hc with rfl|rfl<;>decide)
theorem UB{w:T}(hw:w.length<=100)(kind k:Nat):(Ee kind k w).length<=215:=by
 have h1:=qR (od:=k % 2) kind (Dw _ (by decide))
 have h2:=Wr w
 have h3:=XJ k
 unfold Ee;rw[A1,A1];exact AO (Bf (Bf h1 (AO h2 (DM 2 hw))) h3) (by decide)
theorem mP:∀Lq<2,∀kind<18,(Jl Lq)[kind]?.map (λps=>(Ds ps).all (· !=AA 126)&&(decide ((Ds ps).length<=40)&&decide (F6 ps<=200)))=AA AC:=by decide+kernel
theorem Bb2:∀(w t:T),FE (F9 w++t)=w++FE t:=λw t=>by
 induction w with
 |nil=>rfl
 |cons c r ih=>
  by_cases e:c=34
  ·rw[e,cJ];show FE (34::34::(F9 r++t))=_;simp only[uK,ih];rfl
  ·rw[cK e];show FE (c::(F9 r++t))=_;rw[uJ (beq_eq_false_iff_ne.mpr e),ih];rfl
theorem Bb3(k:Nat):FE (IM k)=[]:=by unfold IM;rcases m3 (k/3)with h|h|h<;>rw[h]<;>rfl
section
variable{o:AL}(hc:Ch o){kind k:Nat}{w:T}(hw:HA w)
include hc hw
theorem BF4(h:((kind:Int)==9)=AD/\((kind:Int)==16)=AD/\((kind:Int)==17)=AD):I2 [.str (Ee kind k w)] o= .ok (.str w) o:=by
 have e:Ee kind k w=[50,53,55,32,34]++(F9 w++IM k):=by unfold Ee L4;rw[h.1,h.2.1,h.2.2,B2];rfl
 have:=A27 hc (s:=F9 w++IM k) (by have h2:=Wr w;have h3:=XJ k;have:=hw.len;rw[A1];exact Bg (Bf (AO h2 (DM 2 this)) h3) (by decide))
 rw[Bb2,Bb3,BJ]at this
 rw[e];exact this
theorem BF3:I2 [.str (Ee 9 k w)] o= .ok (.str []) o:=by
 have hl:=UB hw.len 9 k
 have e:Ee 9 k w=([[50,53,55,45,34],[50,53,55,32,45]]:List T).getD (k % 2) []++(F9 w++IM k):=by unfold Ee;rw[B2];rfl
 rw[e]at hl⊢
 rcases(by exact(wQ _):k % 2=0\/k % 2=1)with h|h<;>rw[h]at hl⊢<;>exact A25 hc (AO hl (by decide)) (JG _ _) rfl rfl
theorem BF5(h:kind=16\/kind=17):I2 [.str (Ee kind k w)] o= .err (.exc (.ref 61) (AA (Ee kind k w))) o:=by
 refine A26 hc (AO (UB hw.len kind k) (by decide)) ?_
 rcases h with rfl|rfl<;>rfl
end
section
variable{o:AL}(hc:Ch o){kind k:Nat}(hk:kind<18){n:Int}(hN:FS n){w snd:T}(hw:HA w){ps:List Pc}(hp:(Jl (k % 2))[kind]? =AA ps)
include hc hk hN hw hp
theorem At1:K1 [.str (val (Az n) (Ds ps)++10::126::10::Ee kind k w), .str snd] o= .ok (Kv snd n w (val (Az n) (Ds ps)) (Ee kind k w) kind) o:=by
 have a1:=(au _ (Dw _ (by decide):k % 2<2) _ hk).1
 have a2:=mP _ (Dw _ (by decide):k % 2<2) _ hk
 rw[hp]at a1 a2
 have a1:Nu (Ds ps)=wants kind (k % 2):=CU a1
 have y7:=of_decide_eq_true (BB (BB (CU a2)).2).1
 have hf:(val (Az n) (Ds ps)).length<=800:=AO (YN hN.len (Ds ps)) (Uk 20 y7)
 have hs:=UB hw.len kind k
 have h1:126∉val (Az n) (Ds ps):=gT (λq=>absurd (hN.dig _ q) (by decide)) (BB (CU a2)).1
 have h2:=ft (.inl rfl) hw.n10 kind k
 have hl:(val (Az n) (Ds ps)).length+(Ee kind k w).length<=10000:=AO (Bf hf hs) (by decide)
 have T9:=BT1 (o:=o) (host:=snd) hc hN.dig (s:=Ds ps) (AO hf (by decide))
 rw[a1]at T9
 have proto:wants kind (k % 2)= .proto->K1 [.str (val (Az n) (Ds ps)++10::126::10::Ee kind k w), .str snd] o= .ok (.tup [.str [112,114,111,116,111], .str (val (Az n) (Ds ps))]) o:=λe=>by
  rw[e]at T9;exact fZ hc h1 h2 hl T9 rfl rfl
 have num:∀p,wants kind (k % 2)= .num p->(val (Az n) p).length<=640->FH (AU (val (Az n) p))=AA n->F' [.str (val (Az n) (Ds ps)), .tup [.str snd, .int 21]] o= .ok (.tup [.str snd, .int n]) o:=λp e hp hi=>by
  rw[e]at T9;exact(T9 hp).1 n hi
 have Zr:=hN.len
 have v0:val (Az n) [AB]=Az n:=BJ _
 have v6:val (Az n) [AA 32,AB,AA 10]=32::(Az n++[10]):=rfl
 have v7:val (Az n) [AA 43,AA 48,AB]=43::48::Az n:=congrArg (λz=>43::48::z) (BJ _)
 have Z_:kind<10\/16<=kind->F' [.str (val (Az n) (Ds ps)), .tup [.str snd, .int 21]] o= .ok (.tup [.str snd, .int n]) o:=λh=>by
  by_cases h6:kind=6
  ·exact num [AA 32,AB,AA 10] (if_pos h6) (by rw[v6,Du,A1];show _+1+1<=_;exact AO (CT (CT Zr)) (by decide)) (by rw[v6];exact hN.i1)
  ·by_cases h7:kind=7
   ·exact num [AA 43,AA 48,AB] ((if_neg h6).trans (if_pos h7)) (by rw[v7];exact AO (CT (CT Zr)) (by decide)) (by rw[v7];exact hN.i2)
   ·exact num [AB] ((if_neg h6).trans ((if_neg h7).trans (if_pos h))) (by rw[v0];exact AO Zr (by decide)) (by rw[v0];exact hN.i0)
 have out:∀{e:Lx},¬(kind<10\/16<=kind)->(if kind=14 then Lx.num [AB,AA 45]else if kind=15 then .reply else .proto)=e->wants kind (k % 2)=e:=λh q=>by
  unfold wants
  rw[if_neg (λe=>h (.inl (by rw[e];decide))),if_neg (λe=>h (.inl (by rw[e];decide))),if_neg h];exact q
 unfold Kv
 by_cases c1:kind<9
 ·rw[if_pos c1]
  exact sb hc h1 h2 hl (Z_ (.inl (Qr c1))) (BF4 hc hw ⟨beq_eq_false_iff_ne.mpr λz=>IU c1 (Ye z),beq_eq_false_iff_ne.mpr λz=>IU (CI c1 (by decide:9<=16)) (Ye z),beq_eq_false_iff_ne.mpr λz=>IU (CI c1 (by decide:9<=17)) (Ye z)⟩)
 rw[if_neg c1]
 by_cases c2:kind=9
 ·rw[if_pos c2]
  have:=Z_ (.inl (by rw[c2];decide))
  subst c2
  exact sb hc h1 h2 hl this (BF3 hc hw)
 rw[if_neg c2]
 by_cases c3:kind<14
 ·rw[if_pos c3]
  exact proto (out (λz=>z.elim (λz=>c2 (Ui (MX z) (Cp.mp c1))) (λz=>Ul.mpr (C4 c3 (by decide)) z)) ((if_neg (by exact IU (by assumption))).trans (if_neg (λz=>absurd c3 (by rw[z];decide)))))
 rw[if_neg c3]
 by_cases c4:kind=14
 ·rw[if_pos c4]
  rw[out (e:= .num [AB,AA 45]) (by rw[c4];decide) (if_pos c4)]at T9
  have v1:val (Az n) [AB,AA 45]=Az n++[45]:=rfl
  have T9:=(T9 (by rw[v1,A1];show _+1<=_;exact Bg (by assumption) (by decide))).2 (by rw[v1];exact hN.i3) (by
   rw[v1,gu,MR]
   exact⟨FF.mpr λc h=>decide_eq_true (Bg (hN.dig c h).2 (by decide)),rfl⟩)
  exact fZ hc h1 h2 hl T9 rfl rfl
 rw[if_neg c4]
 by_cases c5:kind=15
 ·rw[if_pos c5]
  rw[out (e:= .reply) (by rw[c5];decide) ((if_neg c4).trans (if_pos c5))]at T9
  exact fZ hc h1 h2 hl T9 rfl rfl
 rw[if_neg c5]
 exact BC6 hc h1 h2 hl (Z_ (.inr (by lia))) (BF5 hc hw (by lia))
end
noncomputable def BD(x:T):T:=Bx (Txt.lower (AU x))
noncomputable abbrev FU:=List (T×T)
noncomputable def Bv(p:T×T):CV:= .tup [.str p.1, .str p.2]
noncomputable def E9:T:=[67,111,110,116,114,111,108,32,99,104,97,114,97,99,116,101,114,115,32,110,111,116,32,97,108,108,111,119,101,100,32,105,110,32,104,101,97,100,101,114,115]
theorem Ap{l k:DL}{v:AY}{o o1 o2:AL}{cs ds:List CV}(h:l v o= .ok cs o1)(h':k v o1= .ok ds o2):Hj l k v o= .ok (cs++ds) o2:=by unfold Hj;rw[h];show(k v o1).bind _=_;rw[h'];rfl
theorem Sx{a b:DS}{v:AY}{o:AL}{r:RS}(h:a v o=r)(hr:∀(v:AY) (o':AL),r≠ .next v o'):AM a b v o=r:=by
 unfold AM;rw[h]
 cases r<;>first|rfl|exact absurd rfl (hr _ _)
theorem aV{e:D}{g:DG}{v:AY}{o o1:AL}{c:CV}(h:e v o= .err c o1):Ar e g v o= .err c v o1:=by unfold Ar;rw[h];rfl
theorem Ml{ms:List Me}{m:Me}{d:D}{l:DL}{v:AY}{o o1 o':AL}{x c:CV}(h:d v o= .ok x o1)(hm:ms.find? (λy=>y.is o1 x)=AA m)(h':l v o1= .err c o'):BC ms d l v o= .err c o':=by unfold BC;rw[h];show(ms.find? _).elim _ _=_;rw[hm];show(l v o1).bind _=_;rw[h'];rfl
theorem Ex{d:D}{v:AY}{o o1:AL}{c:CV}(h:d v o= .ok c o1):E_ d v o= .next v o1:=by unfold E_ Pe;rw[h];rfl
theorem Exe{d:D}{v:AY}{o o1:AL}{c:CV}(h:d v o= .err c o1):E_ d v o= .err c v o1:=by unfold E_ Pe;rw[h];rfl
theorem Mt{d:D}{v:AY}{o o1:AL}{b:Bool}(h:d v o= .ok (if b=AC then .mat else .none) o1):Ph d v o= .ok b o1:=by unfold Ph;rw[h];cases b<;>rfl
theorem AG0{d:D}{l:DL}{v:AY}{o o1 o':AL}{c x:CV}(h:d v o= .ok x o1)(h':l v o1= .err c o'):AH d l v o= .err c o':=by unfold AH;rw[h];show(l v o1).bind _=_;rw[h'];rfl
section
variable{o:AL}{self:CV}{x:T}(hc:Ch o)(hl:x.length<=100000)
theorem pB{b:Bool}:XO.find? (λy=>y.is o (if b=AC then .top (.ref 167)else .top (.ref 172)))=AA (if b=AC then⟨FY (FW 167), .builtin "re.Pattern.search",Nz EW 167⟩else⟨FY (FW 172), .builtin "re.Pattern.search",Nz F8 172⟩):=by cases b<;>rfl
noncomputable abbrev nr(b:Bool):Nat->Bool:=if b=AC then EW else F8
include hl in
theorem nq{b:Bool}{r:RS}(k:AM (Br (Ph (BC XO (AF 3) (AH (AF 1) AP))) (AM (HF (.type "ValueError") (AG (.str E9))) AZ) AZ) (AM (Bb (AF 1)) AZ) [AA self,AA (.str x),AA (.bool b),AA (if b=AC then .top (.ref 167)else .top (.ref 172))] o=r)(hr:∀(v:AY) (o':AL),r≠ .next v o'):
  Wi [AA self,AA (.str x),AA (.bool b),AB] o=r:=by
 have h1:Br (Aq (AJ Nx (A_ TY (AH (AF 1) AP)) (AG (.top (.type "str"))))) (AM (Ar (Cc (Aq (AF 2)) (AG (.top (.ref 167))) (AG (.top (.ref 172)))) (AX 3)) (AM (Br (Ph (BC XO (AF 3) (AH (AF 1) AP))) (AM (HF (.type "ValueError") (AG (.str E9))) AZ) AZ) (AM (Bb (AF 1)) AZ))) AZ [AA self,AA (.str x),AA (.bool b),AB] o=r:=
  It rfl (Sq (As (c:=if b=AC then .top (.ref 167)else .top (.ref 172)) (by cases b<;>rfl) rfl) k)
 exact Sx h1 hr
include hc hl
theorem We{b:Bool}(h:x.any (nr b)=AD):S' [self, .str x, .bool b] o= .ok (.str x) o:=
 F_ rfl (nq hl (Sq (If (Mt (b:=AD) (Ms rfl pB rfl (by cases b<;>(show(if x.length<=100000 then R.ok (if x.any _=AC then CV.mat else .none) o else .no)=_;rw[if_pos hl];exact congrArg (λb=>R.ok (if b=AC then CV.mat else .none) o) h)))) rfl) (Sr (Rt rfl))) nofun) hc rfl
theorem nk{b:Bool}(h:x.any (nr b)=AC):S' [self, .str x, .bool b] o= .err (.exc (.type "ValueError") (AA E9)) o:=
 Iz rfl (nq hl (Se (It (Mt (b:=AC) (Ms rfl pB rfl (by cases b<;>(show(if x.length<=100000 then R.ok (if x.any _=AC then CV.mat else .none) o else .no)=_;rw[if_pos hl];exact congrArg (λb=>R.ok (if b=AC then CV.mat else .none) o) h)))) (Se (Ra rfl)))) nofun) hc
end
structure Gk(o:AL)(i j:Nat)(rows:FU):Prop where
 clo:Ch o
 inst:o[i]? =AA (.inst 295 "_headers" (some (.obj j)))
 list:o[j]? =AA (.list (rows.map Bv))
 short:rows.length<=1000
 names:∀p∈rows,p.1.length<=1000
section
variable{o:AL}{i j:Nat}{rows:FU}(h:Gk o i j rows)
include h
theorem Gk.asI:Mine.Sc o (CV.obj i)=AA (i,295,CR "_headers",AA (CV.obj j)):=by show G1 _ (o[i]?.bind Xc)=_;rw[h.inst];rfl
theorem Gk.attr{v:AY}{k:Nat}(hv:v[k]? =AA (AA (.obj i))):Hk 295 "_headers" (AF k) v o= .ok (.obj j) o:=by
 unfold Hk AF fD
 rw[hv]
 show((Mine.Sc o (CV.obj i)).bind _).elim _ _=_
 rw[h.asI];rfl
theorem Gk.inst1{nm:AQ}{f:AE}{g:PG}(hn:("_headers":AQ)≠nm):[(⟨Cz 295 nm,f,g⟩:Me)].find? (λy=>y.is o (.obj i))=AA ⟨Cz 295 nm,f,g⟩:=by
 have e:Cz 295 nm o (.obj i)=AC:=by
  unfold Cz;rw[h.asI];exact decide_eq_true ⟨rfl,hn⟩
 exact MT (p:=λy:Me=>y.is o (.obj i)) (a:=⟨Cz 295 nm,f,g⟩) e
theorem Gk.isL:K4 o (.obj j)=AC:=by
 show((G1 _ (o[j]?.bind EI)).isSome)=AC
 rw[h.list];rfl
end
section
variable{src:Cv}{g:DG}{b:DS}{f i N:Nat}{v v1 v2:AY}{o o1 o2:AL}{c x:CV}{r:RS}{tup:Bool}{a:D}
theorem Fo(h:a v o= .ok c o1)(ht:(tup|| !FX c)=AC)(hs:Hp o1 c=AA (src,N))(k:ID src g b N 0 v o1=r):EX tup a g b v o=r:=by
 unfold EX;rw[h]
 show(if(tup|| !FX c)=AC then _ else _)=_
 rw[if_pos ht,hs];exact k
theorem F0(h:src o i=AA AB):ID src g b (f+1) i v o= .next v o:=congrArg (λx=>OM x _ _) h
theorem dw{f:AY->AL->RS}{r':RS}(h:src o i=AA (AA c))(hg:g c v o= .next v1 o1)(hb:b v1 o1=r'):((src o i).elim .no λx=>x.elim (.next v o) λc=>((g c v o).bind b).goK f)=r'.goK f:=by
 rw[h,<-hb];exact congrArg (λx=>RS.goK (RS.bind x b) f) hg
theorem Fn(h:src o i=AA (AA c))(hg:g c v o= .next v1 o1)(hb:b v1 o1= .next v2 o2)(k:ID src g b f (i+1) v2 o2=r):ID src g b (f+1) i v o=r:=(dw h hg hb).trans k
theorem Fr(h:src o i=AA (AA c))(hg:g c v o= .next v1 o1)(hb:b v1 o1= .ret x o2):ID src g b (f+1) i v o= .ret x o2:=dw h hg hb
end
theorem Sl(n:Nat):∀rows:FU,C9 n (rows.map Bv)=AC
 |[]=>rfl
 |p::r=>Sl n r
noncomputable def Dj(rows:FU)(name:T):Option T:=(rows.find? λp=>BD p.1==name).map (·.2)
theorem P1{x:T}{o:AL}(h:x.length<=5592405):Xl [.str x] o= .ok (.str (BD x)) o:=if_pos h
section
variable{o:AL}{i j:Nat}{rows:FU}(h:Gk o i j rows)
include h
theorem Gk.src:Hp o (.obj j)=AA (I_ j,rows.length+1):=by
 show(o[j]?.bind EI).map _=_
 rw[h.list]
 show AA (I_ j,(rows.map Bv).length+1)=_
 rw[Ay]
theorem Gk.srcAt(n:Nat):I_ j o n=AA (rows[n]?.map Bv):=by
 show(o[j]?.bind EI).map _=_
 rw[h.list]
 show AA ((rows.map Bv)[n]?)=_
 rw[Cm]
noncomputable abbrev vG(i:Nat)(name:T)(c3 c4:Option CV):AY:=[AA (.obj i),AA (.str name),AA .none,c3,c4]
noncomputable def AL6:DS:=AM (Br (Aq (AJ BV (BC Jq (AF 3) AP) (AF 1))) (AM (Bb (AF 4)) AZ) AZ) AZ
noncomputable abbrev Ai3:DG:=DA 2 (A5 (AX 3) (A5 (AX 4) CS))
theorem Ai7(name:T)(rest:FU):∀{n:Nat} {c3 c4:Option CV},rows.drop n=rest->∃Fp KB,ID (I_ j) Ai3 AL6 (rest.length+1) n (vG i name c3 c4) o=match rest.find? λp=>BD p.1==name with
  |some p=> .ret (.str p.2) o
  |none=> .next (vG i name Fp KB) o:=by
 induction rest with
 |nil=>
  intro n c3 c4 hr
  exact⟨c3,c4,F0 (by rw[h.srcAt,Ga (J1.mp hr)];rfl)⟩
 |cons p rest ih=>
  intro n c3 c4 hr
  have e:(rows.drop n)[0]? =rows[n]?:=JC
  rw[hr]at e
  have hs:I_ j o n=AA (AA (Bv p)):=by rw[h.srcAt,<-e];rfl
  have KQ:=h.names p (Dv e.symm)
  have ht:Aq (AJ BV (BC Jq (AF 3) AP) (AF 1)) (vG i name (AA (.str p.1)) (AA (.str p.2))) o= .ok (BD p.1==name) o:=Ts (Bn (Ms rfl rfl rfl (P1 (AO KQ (by decide)))) rfl rfl)
  cases hq:BD p.1==name with
  |true=>
   refine⟨c3,c4,?_⟩
   rw[MT (p:=λp:T×T=>BD p.1==name) hq]
   exact Fr hs rfl (Sr (It (ht.trans (by rw[hq])) (Sr (Rt rfl))))
  |false=>
   refine B7 (ih (n:=n+1) (c3:=AA (.str p.1)) (c4:=AA (.str p.2)) (by rw[<-MS,hr];rfl)) λFp KB ih=>?_
   refine⟨Fp,KB,?_⟩
   rw[ve (p:=λp:T×T=>BD p.1==name) (λz=>C2 (hq.symm.trans z))]
   exact Fn hs rfl (Sq (If (ht.trans (by rw[hq])) rfl) rfl) ih
variable{name w:T}(hl:name.length<=5592405)(FL:(BD name).length<=100000)
include hl FL
theorem np(hx:(BD name).any EW=AD):nw (vG i name AB AB) o= .next (vG i (BD name) AB AB) o:=
 As (Ms rfl (h.inst1 (by decide)) (Ap (Cn (Ms rfl rfl rfl (P1 hl)) rfl) rfl) (We (b:=AC) h.clo FL hx)) rfl
theorem dy(hx:(BD name).any EW=AD):TA [.obj i, .str name] o= .ok (match Dj rows (BD name)with|some v=> .str v|none=> .none) o:=by
 refine B7 (Ai7 h (BD name) rows (n:=0) (c3:=AB) (c4:=AB) rfl) λFp KB e=>?_
 unfold Dj
 cases hf:rows.find? λp=>BD p.1==BD name with
 |none=>
  rw[hf]at e
  exact F_ rfl (Sq (np h hl FL hx) (Sq (Fo (h.attr rfl) rfl h.src e) (Sr (Rt rfl)))) h.clo rfl
 |some p=>
  rw[hf]at e
  exact F_ rfl (Sq (np h hl FL hx) (Sr (Fo (h.attr rfl) rfl h.src e))) h.clo rfl
theorem Al1(hx:(BD name).any EW=AC):TA [.obj i, .str name] o= .err (.exc (.type "ValueError") (AA E9)) o:=
 Iz rfl (Se (aV (Ms rfl (h.inst1 (by decide)) (Ap (Cn (Ms rfl rfl rfl (P1 hl)) rfl) rfl) (nk (b:=AC) h.clo FL hx)))) h.clo
theorem Ak8(hx:(BD name).any EW=AD):W2 [.obj i, .str name] o= .ok (.bool (Dj rows (BD name)).isSome) o:=
 F_ rfl (Sr (Rt (Bn (Ms rfl (h.inst1 (by decide)) (Cn rfl rfl) (dy h hl FL hx)) rfl (by cases Dj rows (BD name)<;>rfl)))) h.clo rfl
theorem Al9(hx:(BD name).any EW=AD){v:T}(hf:Dj rows (BD name)=AA v):Jm [.obj i, .str name, .str w] o= .ok (.str v) o:=
 F_ rfl (Sq (As (Ms rfl (h.inst1 (by decide)) (Cn rfl rfl) (dy h hl FL hx)) rfl) (by rw[hf];exact Sr (If rfl (Sr (Rt rfl))))) h.clo rfl
theorem Al8(hx:(BD name).any EW=AC):Jm [.obj i, .str name, .str w] o= .err (.exc (.type "ValueError") (AA E9)) o:=
 Iz rfl (Se (aV (Ms rfl (h.inst1 (by decide)) (Cn rfl rfl) (Al1 h hl FL hx)))) h.clo
variable(JX:name.length<=100000)(hw:w.length<=100000)(hx:(BD name).any EW=AD)(hf:Dj rows (BD name)=AB)(h3:name.any EW=AD)
include JX hw hx hf h3
theorem s6{r:RS}(k:AM (E_ (BC P2 (Hk 295 "_headers" (AF 0)) (AH (A2 (AH (BC Nr (AF 0) (Hj (AH (AF 1) AP) (AH (AG (.bool AC)) AP))) (AH (BC Nr (AF 0) (Hj (AH (AF 2) AP) (AH (AG (.bool AD)) AP))) AP))) AP))) (AM (Bb (AF 2)) AZ) [AA (.obj i),AA (.str name),AA (.str w),AA .none] o=r)(hr:∀(v:AY) (o':AL),r≠ .next v o'):
  Sp [AA (.obj i),AA (.str name),AA (.str w),AB] o=r:=
 Sq (As (Ms rfl (h.inst1 (by decide)) (Cn rfl rfl) (dy h hl FL hx)) rfl) (by rw[hf];exact Sx (It rfl k) hr)
theorem pS(h4:w.any F8=AD)(yh:Ch (o.set j (.list ((rows++[(name,w)]).map Bv)))):Jm [.obj i, .str name, .str w] o= .ok (.str w) (o.set j (.list ((rows++[(name,w)]).map Bv))):=by
 have e:Nw [.obj j, .tup [.str name, .str w]] o= .ok .none (o.set j (.list ((rows++[(name,w)]).map Bv))):=by
  show((GP o (.obj j)).elim R.no λd=>if d.2.length<Ah then R.ok CV.none (o.set d.1 (.list (d.2++[.tup [.str name, .str w]])))else .no)=_
  rw[show GP o (.obj j)=AA (j,rows.map Bv) by show G1 (λa=>(j,a)) (o[j]?.bind EI)=_;rw[h.list];rfl,EO]
  exact if_pos (by rw[Ay];exact Bg h.short (by decide))
 have b:=s6 h hl FL JX hw hx hf h3 (r:= .ret (.str w) (o.set j (.list ((rows++[(name,w)]).map Bv)))) (Sq (Ex (Ms (is:=K4) (fv:= .builtin "list.append") (g:=Nw) (h.attr rfl) (MT h.isL) (Cn (Tp (Cn (Ms rfl (h.inst1 (by decide)) (Ap (Cn rfl rfl) rfl) (We (b:=AC) h.clo JX h3)) (Cn (Ms rfl (h.inst1 (by decide)) (Ap (Cn rfl rfl) rfl) (We (b:=AD) h.clo hw h4)) rfl)) (show 2<=Ah by decide)) rfl) e)) (Sr (Rt rfl))) (by intro _ _ h;cases h)
 unfold Jm CM
 refine(if_pos rfl).trans ?_
 show Gn o.length (Sp [AA (.obj i),AA (.str name),AA (.str w),AB] o)=_
 rw[b,<-Ud (as:=o) (i:=j) (a:= .list ((rows++[(name,w)]).map Bv))]
 exact fin_same yh rfl
theorem Al7(h4:w.any F8=AC):Jm [.obj i, .str name, .str w] o= .err (.exc (.type "ValueError") (AA E9)) o:=
 Iz rfl (s6 h hl FL JX hw hx hf h3 (Se (Exe (Ml (m:=⟨K4, .builtin "list.append",Nw⟩) (h.attr rfl) (MT h.isL) (aZ (mK (AG0 (Ms rfl (h.inst1 (by decide)) (Ap (Cn rfl rfl) rfl) (We (b:=AC) h.clo JX h3)) (aZ (Ms rfl (h.inst1 (by decide)) (Ap (Cn rfl rfl) rfl) (nk (b:=AD) h.clo hw h4))))))))) (by intro _ _ h;cases h)) h.clo
omit hl FL JX hw hx hf h3
theorem pR:Pq [.obj i] o= .ok (.lst (rows.map Bv)) o:=by
 refine F_ rfl (Sr (Rt (Hf (h.attr rfl) rfl rfl ?_))) h.clo (Sl _ _)
 show(match(o[j]?.bind EI).elim R.no (λl=>if l.length<=Ah then R.ok (CV.lst (Cy l AB AB)) o else .no)with| .no=>_|r=>r)=_
 rw[h.list]
 show(match(if(rows.map Bv).length<=Ah then R.ok (CV.lst (Cy (rows.map Bv) AB AB)) o else .no)with| .no=>_|r=>r)=_
 rw[if_pos (by rw[Ay];exact AO h.short (by decide))]
 exact congrArg (λl=>R.ok (CV.lst l) o) OK
theorem Al3:df [.obj i] o= .ok (.int rows.length) o:=by
 refine F_ rfl (Sr (Rt (Cl (Cn (h.attr rfl) rfl) ?_))) h.clo rfl
 show(match(o[j]?.bind EI).elim R.no (λl=>if l.length<=Ah then R.ok (CV.int l.length) o else .no)with| .no=>_|r=>r)=_
 rw[h.list]
 show(match(if(rows.map Bv).length<=Ah then R.ok (CV.int (rows.map Bv).length) o else .no)with| .no=>_|r=>r)=_
 rw[Ay,if_pos (AO h.short (by decide))]
end
section
variable{K α β:Type}[DecidableEq K]
theorem eK{k x:K}{ks:List K}{c:α}{cs:List α}(e:k=x):B5 (k::ks) (c::cs) x=AA c:=if_pos e
theorem XF{k x:K}{ks:List K}{c:α}{cs:List α}(e:¬k=x):B5 (k::ks) (c::cs) x=B5 ks cs x:=if_neg e
variable{ks:List K}{k:K}{v:α}
theorem eN:∀{vs:List α},k∉ks->ks.length=vs.length->Bj ks vs k v=(ks++[k],vs++[v]):=by
 induction ks with
 |nil=>intro vs _ hl;cases vs with
  |nil=>rfl
  |cons=>cases hl
 |cons a ks ih=>intro vs h hl;cases vs with
  |nil=>cases hl
  |cons b vs=>
   have e:¬a=k:=λe=>h (e▸CP)
   rw[MA e,ih (λq=>h (Ef _ q)) (Hw hl)];rfl
theorem eL:∀{vs:List α},B5 ks vs k=AA v->k∈ks:=by
 induction ks with
 |nil=>exactλh=>Af h
 |cons a ks ih=>intro vs h;cases vs with
  |nil=>exact Af h
  |cons b vs=>
   by_cases e:a=k
   ·rw[e];exact CP
   ·exact Ef _ (ih ((XF e).symm.trans h))
theorem Aq1{vs:List α}(h:k∉ks):B5 ks vs k=AB:=by
 cases e:B5 ks vs k with
 |none=>rfl
 |some v=>exact absurd (eL e) h
theorem qA:∀{vs:List α},k∈ks->ks.length=vs.length->(Bj ks vs k v).1=ks/\(Bj ks vs k v).2.length=ks.length:=by
 induction ks with
 |nil=>exactλh _=>absurd h D9
 |cons a ks ih=>intro vs h hl;cases vs with
  |nil=>cases hl
  |cons b vs=>
   by_cases e:a=k
   ·rw[Nm e];exact⟨rfl,hl.symm⟩
   ·have x:=ih ((Cf.mp h).resolve_left λq=>e q.symm) (Hw hl)
    rw[MA e];exact⟨congrArg (a::·) x.1,congrArg (·+1) x.2⟩
theorem p9(f:α->β)(ks:List K):∀(vs:List α) (k:K),B5 ks (vs.map f) k=(B5 ks vs k).map f:=by
 induction ks with
 |nil=>exactλ_ _=>rfl
 |cons a ks ih=>intro vs k;cases vs with
  |nil=>rfl
  |cons b vs=>
   by_cases e:a=k
   ·rw[eK e];exact eK e
   ·rw[XF e,<-ih vs k];exact XF e
theorem XG(f:α->β)(ks:List K):∀(vs:List α) (k:K) (v:α),Bj ks (vs.map f) k (f v)=((Bj ks vs k v).1,(Bj ks vs k v).2.map f):=by
 induction ks with
 |nil=>exactλ_ _ _=>rfl
 |cons a ks ih=>intro vs k v;cases vs with
  |nil=>rfl
  |cons b vs=>
   by_cases e:a=k
   ·rw[Nm e];exact Nm e
   ·rw[MA e];exact(MA e).trans (by rw[ih vs k v];rfl)
theorem p_:∀{vs:List α},B5 ks vs k=AB->ks.length=vs.length->k∉ks:=by
 induction ks with
 |nil=>exactλ_ _=>D9
 |cons a ks ih=>intro vs h hl;cases vs with
  |nil=>cases hl
  |cons b vs=>
   by_cases e:a=k
   ·exact Af (h.symm.trans (eK e))
   ·exactλq=>(Cf.mp q).elim (λq=>e q.symm) (ih ((XF e).symm.trans h) (Hw hl))
theorem rI{α:Type}{l:List α}{x:α}(h:l.Nodup)(hx:x∉l):(l++[x]).Nodup:=Yr.mpr ⟨h,HT.mpr ⟨D9,Qo⟩,λa ha b hb e=>hx (Ca.mp hb▸e▸ha)⟩
noncomputable def Cb(ks:List K)(vs:List Int)(x:K):List K×List Int:=(B5 ks vs x).elim (ks++[x],vs++[1]) λv=>Bj ks vs x (v+1)
theorem bK{ks:List K}{vs:List Int}(hn:ks.Nodup)(hl:ks.length=vs.length)(x:K):(Cb ks vs x).1.Nodup/\(Cb ks vs x).1.length=(Cb ks vs x).2.length:=by
 unfold Cb
 cases h:B5 ks vs x with
 |some v=>
  have:=qA (v:=v+1) (eL h) hl
  exact⟨by show(Bj ks vs x (v+1)).1.Nodup;simp only[this.1];exact hn,by show(Bj ks vs x (v+1)).1.length=(Bj ks vs x (v+1)).2.length;rw[this.1,this.2]⟩
 |none=>
  have hx:x∉ks:=p_ h hl
  exact⟨rI hn hx,by show(ks++[x]).length=(vs++[1]).length;simp only[A1,A1,hl];rfl⟩
end
noncomputable def L7:List Int->DK
 |[]=> .s []
 |ks=> .i ks
structure SN(K:Type)[DecidableEq K] where
 k:K->CV
 dk:List K->DK
 set:∀{ks:List K} {vs:List CV} {x:K} {v:CV},ks.length=vs.length->Kt (dk ks) vs (k x) v=AA (dk (Bj ks vs x v).1,(Bj ks vs x v).2)
 has:∀{o:AL} {i:Nat} {ks:List K} {vs:List CV} {x:K},ks.length=vs.length->o[i]? =AA (.dict (dk ks) vs)->IJ [k x, .obj i] o= .ok (.bool (B5 ks vs x).isSome) o
 item:∀{o:AL} {i:Nat} {ks:List K} {vs:List CV} {x:K} {v:CV},o[i]? =AA (.dict (dk ks) vs)->B5 ks vs x=AA v->AW [.obj i,k x] o= .ok v o
 keys:∀ks,Jp (dk ks)=ks.map k
 nil:dk []= .s []
section
variable{α β:Type}{f g:PG}{cs:List CV}{o o':AL}{x y c:CV}{X:AL->CV->Option α}{Y:AL->CV->Option β}{F:α->β->AL->R CV}{a:α}{b:β}
theorem F4(h:f cs o= .no):BP f g cs o=g cs o:=by unfold BP;rw[h]
theorem Hg(h:f cs o= .ok c o'):BP f g cs o= .ok c o':=by unfold BP;rw[h]
theorem HK(hx:X o x=AA a)(hy:Y o y=AA b):BN X Y F [x,y] o=F a b o:=by show(X o x).elim _ _=_;rw[hx];show(Y o y).elim _ _=_;rw[hy];rfl
theorem MG(hx:X o x=AB):BN X Y F [x,y] o= .no:=by show(X o x).elim _ _=_;rw[hx];rfl
theorem P9(hy:Y o y=AB):BN X Y F [x,y] o= .no:=by show(X o x).elim _ _=_;cases X o x with|none=>rfl|some a=>show(Y o y).elim _ _=_;rw[hy];rfl
end
section
variable{o:AL}{i:Nat}{ks:DK}{vs:List CV}(h:o[i]? =AA (.dict ks vs))
include h
theorem WO:PS o (.obj i)=AA (ks,vs):=by show o[i]?.bind TS=_;rw[h];rfl
theorem a8:Cj o (.obj i)=AB:=by show o[i]?.bind EI=_;rw[h];rfl
theorem ph{c:CV}{b:Option CV}(hb:Pg ks vs c=AA b):IJ [c, .obj i] o= .ok (.bool b.isSome) o:=
 Hg ((F4 (P9 (a8 h))).trans (Hg ((HK (X:=FV) (a:=c) rfl (WO h)).trans (by rw[hb];rfl))))
theorem eI{c v:CV}(hb:Pg ks vs c=AA (AA v)):AW [.obj i,c] o= .ok v o:=
 (F4 (MG (a8 h))).trans ((F4 (MG rfl)).trans ((F4 (MG rfl)).trans ((HK (WO h) (Y:=FV) (b:=c) rfl).trans (by show((Pg ks vs c).bind id).elim _ _=_;rw[hb];rfl))))
end
noncomputable def KT:SN T where
 k:= .str
 dk:= .s
 set _:=rfl
 has _ h:=ph h rfl
 item h hv:=eI h (congrArg AA hv)
 keys _:=rfl
 nil:=rfl
theorem Aq3{ks:List Int}{vs:List CV}{x:Int}{v:CV}:L7 (Bj ks vs x v).1= .i (Bj ks vs x v).1:=by
 cases ks with
 |nil=>rfl
 |cons a ks=>cases vs with
  |nil=>rfl
  |cons b vs=>
   by_cases e:a=x
   ·rw[Nm e];rfl
   ·rw[MA e];rfl
noncomputable def KI:SN Int where
 k:= .int
 dk:=L7
 set {ks vs x v} hl:=by
  rw[Aq3]
  cases ks with
  |nil=>cases vs with
   |nil=>rfl
   |cons=>first|exact Af hl|cases hl
  |cons=>rfl
 has {o i ks vs x} hl h:=by
  cases ks with
  |nil=>
   cases vs with
   |nil=>exact(F4 ((F4 (P9 (a8 h))).trans ((F4 ((HK (X:=FV) (a:= .int x) rfl (WO h)).trans rfl)).trans (P9 rfl)))).trans (Hg ((HK (a:=x) (b:=()) rfl (by show(PS o (.obj i)).bind _=_;rw[WO h];rfl)).trans rfl))
   |cons=>first|exact Af hl|cases hl
  |cons=>exact ph h rfl
 item {o i ks vs x v} h hv:=by
  cases ks with
  |nil=>cases vs<;>cases hv
  |cons=>exact eI h (congrArg AA hv)
 keys ks:=by cases ks<;>rfl
 nil:=rfl
noncomputable def GU(g:DG)(b:DS)(l:List CV):AY->AL->RS:=
 l.rec .next λc _ k v o=>((g c v o).bind b).goK k
theorem Po{src:Cv}{g:DG}{b:DS}{l:List CV}(hs:∀o n,src o n=AA l[n]?){rest:List CV}:∀{n:Nat} {v:AY} {o:AL},l.drop n=rest->ID src g b (rest.length+1) n v o=GU g b rest v o:=by
 induction rest with
 |nil=>exactλ{n v o} h=>F0 (by rw[hs,Ga (J1.mp h)])
 |cons c r ih=>
  intro n v o h
  have e:(l.drop n)[0]? =l[n]?:=JC
  rw[h]at e
  have h2:l.drop (n+1)=r:=by rw[<-MS,h];rfl
  refine(congrArg (λx=>OM x _ _) ((hs o n).trans (congrArg AA e.symm))).trans ?_
  exact congrArg (RS.goK ((g c v o).bind b)) (funext λ_=>funext λ_=>ih h2)
theorem Ln{g:DG}{b:DS}{c:CV}{l:List CV}{v v1 v2:AY}{o o1 o2:AL}{r:RS}(hg:g c v o= .next v1 o1)(hb:b v1 o1= .next v2 o2)(k:GU g b l v2 o2=r):GU g b (c::l) v o=r:=by
 exact((congrArg (λx=>RS.goK (RS.bind x b) _) hg).trans (congrArg (λx=>RS.goK x _) hb)).trans k
section
variable{K:Type}[DecidableEq K](κ:SN K)
noncomputable abbrev N2(κ:SN K)(ks:List K)(vs:List Int):List CV:=(ks.zip vs).map λp=> .tup [κ.k p.1, .int p.2]
theorem gf:∀{ks:List K} {vs:List Int},((ks.map κ.k).zip (vs.map CV.int)).map (λp=>CV.tup [p.1,p.2])=N2 κ ks vs
 |[],_=>rfl
 |_::_,[]=>rfl
 |a::ks,b::vs=>congrArg (_::·) (gf (ks:=ks) (vs:=vs))
theorem l5{a:D}{g:DG}{b:DS}{v:AY}{o:AL}{ks:List K}{vs:List Int}{r:RS}(hl:ks.length=vs.length)(h:a v o= .ok (.itm (κ.dk ks) (vs.map .int)) o)(k:GU g b (N2 κ ks vs) v o=r):EX AC a g b v o=r:=by
 have Bh:(N2 κ ks vs).length=(vs.map CV.int).length:=by simp only[Ay,J2,Ay,hl,LP]
 refine Fo h rfl (src:=λ_ n=>AA ((N2 κ ks vs)[n]?)) (N:=(N2 κ ks vs).length+1) ?_ ((Po (l:=N2 κ ks vs) (λ_ _=>rfl) rfl).trans k)
 show AA (((λ_ n=>AA ((((Jp (κ.dk ks)).zip (vs.map CV.int))[n]?).map λp:CV×CV=>CV.tup [p.1,p.2])):Cv),(vs.map CV.int).length+1)=_
 rw[Bh,κ.keys,<-gf]
 exact congrArg (λz:Cv=>AA (z,(vs.map CV.int).length+1)) (funext λ_=>funext λn=>congrArg AA Cm.symm)
variable{o:AL}{tg sc0:CV}{c3 c4:Option CV}
noncomputable abbrev vA(tg sc0:CV)(N:Nat)(c3 c4:Option CV):AY:=[AA tg,AA sc0,AA (.obj N),c3,c4]
noncomputable abbrev Ng:DG:=DA 2 (A5 (AX 3) (A5 (AX 4) CS))
noncomputable def AL5:DS:=AM (Ar (AF 4) (Gr (AF 2) (AF 3))) AZ
theorem tW{ks:List K}{vs:List CV}{x:K}{v:CV}(hl:ks.length=vs.length)(hs:vs.length<=Ah):Ff (.obj o.length) (κ.k x) v (o++[.dict (κ.dk ks) vs])= .ok () (o++[.dict (κ.dk (Bj ks vs x v).1) (Bj ks vs x v).2]):=by
 have hg:=TI o (.dict (κ.dk ks) vs)
 unfold Ff
 rw[show GP (o++[CO.dict (κ.dk ks) vs]) (.obj o.length)=AB by show G1 _ ((o++[CO.dict (κ.dk ks) vs])[o.length]?.bind EI)=_;rw[hg];rfl,show Sf (o++[CO.dict (κ.dk ks) vs]) (.obj o.length)=AA (o.length,κ.dk ks,vs) by show G1 _ ((o++[CO.dict (κ.dk ks) vs])[o.length]?.bind TS)=_;rw[hg];rfl]
 show(if vs.length<=Ah then(Kt (κ.dk ks) vs (κ.k x) v).elim R.no _ else .no)=_
 rw[if_pos hs,κ.set hl]
 show R.ok () ((o++[CO.dict (κ.dk ks) vs]).set o.length _)=_
 rw[tC]
theorem Kk{a b e:D}{v:AY}{o o':AL}{c x y:CV}(he:e v o= .ok c o)(ha:a v o= .ok x o)(hb:b v o= .ok y o)(k:Ff x y c o= .ok () o'):Ar e (Gr a b) v o= .next v o':=Ag he (by
 unfold Gr;rw[ha];show(b v o).s v _=_;rw[hb];show(Ff x y c o).s v _=_;rw[k];rfl)
noncomputable def lz(tg sc0:CV)(o:AL)(ps:List K)(qs:List Int)(ks:List K)(vs:List Int)(c3 c4:Option CV):Prop:=∃Fp KB,GU Ng AL5 (N2 κ ps qs) (vA tg sc0 o.length c3 c4) (o++[.dict (κ.dk ks) (vs.map .int)])= .next (vA tg sc0 o.length Fp KB) (o++[.dict (κ.dk (ks++ps)) ((vs++qs).map .int)])
theorem AV1{ps:List K}:∀{qs:List Int} {ks:List K} {vs:List Int} {c3 c4:Option CV},ps.length=qs.length->(ks++ps).Nodup->ks.length=vs.length->vs.length+qs.length<=1000->lz κ tg sc0 o ps qs ks vs c3 c4:=by
 induction ps with
 |nil=>intro qs ks vs c3 c4 hl _ _ _;cases qs with
  |nil=>exact⟨c3,c4,by rw[BJ,BJ];rfl⟩
  |cons=>cases hl
 |cons p ps ih=>intro qs ks vs c3 c4 hp hn hl hs;cases qs with
  |nil=>cases hp
  |cons q qs=>
   have hx:p∉ks:=λh=>(Yr.mp hn).2.2 p h p CP rfl
   have hv:vs.length<=1000:=AO (GE ..) hs
   have i:=ih (qs:=qs) (ks:=ks++[p]) (vs:=vs++[q]) (c3:=AA (κ.k p)) (c4:=AA (.int q)) (Hw hp) (by simp only[B2];exact hn) (by simp only[A1,A1,hl];rfl) (by rw[A1];exact AO (BR (Uo _ _)) hs)
   unfold lz at i
   rw[B2,B2]at i
   exact i.elim λFp i=>i.elim λKB i=>⟨Fp,KB,Ln rfl (Sq (Kk rfl rfl rfl (tW κ (by rw[Ay,hl]) (by rw[Ay];exact AO hv (by decide)))) rfl) (by simp only[XG CV.int ks vs p q,eN hx hl];exact i)⟩
end
section
variable{K:Type}[DecidableEq K](κ:SN K){o:AL}{tg sc0:CV}{c3 c4:Option CV}{ks:List K}{vs:List Int}{x:K}
noncomputable def bUp:DS:=(AM (Br (Aq (AJ IJ (AF 3) (AF 2))) (AM (Br (Aq (A_ Xh (AH (AF 4) (AH (AG (.top (.type "tuple"))) AP)))) (AM (Ar So (Gr (AF 2) (AF 3)))
  AZ) (AM (HE Ed (AF 2) (AF 3) (AF 4))
  AZ))
  AZ) (AM (Ar (AF 4) (Gr (AF 2) (AF 3)))
  AZ))
  AZ)
theorem ly{a b d:D}{p:PG}{v:AY}{o o':AL}{x y G7 c r:CV}(ha:a v o= .ok x o)(hb:b v o= .ok y o)(ho:AW [x,y] o= .ok G7 o)(hd:d v o= .ok c o)(hp:p [G7,c] o= .ok r o)(k:Ff x y r o= .ok () o'):HE p a b d v o= .next v o':=by
 unfold HE
 rw[ha];show(b v o).s v _=_
 simp only[hb];show((AW [x,y] o).bind _).s v _=_
 rw[ho];show((d v o).bind _).s v _=_
 rw[hd];show(p [G7,c] o).s v _=_
 rw[hp];show(Ff x y r o).s v _=_
 rw[k];rfl
theorem Bb7(hl:ks.length=vs.length)(hs:vs.length<=1000):bUp (vA tg sc0 o.length (AA (κ.k x)) (AA (.int 1))) (o++[.dict (κ.dk ks) (vs.map .int)])= .next (vA tg sc0 o.length (AA (κ.k x)) (AA (.int 1))) (o++[.dict (κ.dk (Cb ks vs x).1) ((Cb ks vs x).2.map .int)]):=by
 have hg:=TI o (.dict (κ.dk ks) (vs.map .int))
 have De:ks.length=(vs.map CV.int).length:=by rw[Ay,hl]
 have hh:=κ.has (x:=x) De hg
 rw[p9 CV.int]at hh
 have B':=λ(v:Int)=>tW κ (o:=o) (x:=x) (v:= .int v) De (by rw[Ay];show _<=16777216;exact AO (by assumption) (by decide))
 unfold Cb
 cases e:B5 ks vs x with
 |some v=>
  rw[e]at hh
  have hi:=κ.item (x:=x) (v:= .int v) hg (by rw[p9,e];rfl)
  refine Sq (It (Ts (Bn rfl rfl hh)) (Sq (If rfl (Sq (ly rfl rfl hi rfl rfl (B' (v+1))) rfl)) rfl)) ?_
  simp only[XG CV.int ks vs x (v+1)];rfl
 |none=>
  rw[e]at hh
  refine Sq (If (Ts (Bn rfl rfl hh)) (Sq (Kk rfl rfl rfl (B' 1)) rfl)) ?_
  rw[XG CV.int ks vs x 1,eN (p_ e hl) hl];rfl
theorem Sj(n:Nat):∀vs:List Int,C9 n (vs.map CV.int)=AC
 |[]=>rfl
 |_::r=>Sj n r
theorem pL(o:AL)(n k:Nat):∀vs:List Int,Kz (IE o n (k+1)) (vs.map CV.int)=AA (vs.map CV.int)
 |[]=>rfl
 |a::r=>by
  show(IE o n (k+1) (.int a)).bind _=_
  rw[dW rfl]
  rw[pL o n k r];rfl
theorem Ag4(hc:Ch o){D:DK}:fin o.length (.obj o.length) (o++[.dict D (vs.map CV.int)])= .ok (.dct D (vs.map CV.int)) o:=by
 unfold fin
 rw[iJ,if_pos hc]
 have:IE (o++[.dict D (vs.map CV.int)]) o.length 20 (.obj o.length)=AA (.dct D (vs.map CV.int)):=by
  show(if decide (o.length<o.length)=AC then _ else((o++[CO.dict D (vs.map CV.int)])[o.length]?.bind _))=_
  rw[decide_eq_false (Eu _),if_neg C2,TI]
  show(Kz (IE _ o.length 19) (vs.map CV.int)).map _=_
  rw[pL];rfl
 rw[this];rfl
theorem mL(hc:Ch o)(hn:ks.Nodup)(hl:ks.length=vs.length)(hs:vs.length<=900):Nj [.dct (κ.dk ks) (vs.map .int), .dct (κ.dk [x]) [.int 1]] o= .ok (.dct (κ.dk (Cb ks vs x).1) ((Cb ks vs x).2.map .int)) o:=by
 refine B7 (AV1 κ (o:=o) (tg:= .dct (κ.dk ks) (vs.map .int)) (sc0:= .dct (κ.dk [x]) [.int 1]) (ps:=ks) (qs:=vs) (ks:=[]) (vs:=[]) (c3:=AB) (c4:=AB) hl hn rfl (by show 0+_<=_;exact AO (EP (by assumption) _) (by decide))) λFp KB e=>?_
 rw[κ.nil,Ug,Ug]at e
 have b:Wm (Fg (Aw 138 QN) ([.dct (κ.dk ks) (vs.map .int), .dct (κ.dk [x]) [.int 1]]++[])) o= .ret (.obj o.length) (o++[.dict (κ.dk (Cb ks vs x).1) ((Cb ks vs x).2.map .int)]):=
  Sq (a:=n9) (b:=rz) (As rfl rfl) (Sq (a:=n_) (b:=r8) (l5 κ hl (Ms rfl rfl rfl rfl) e) (Sq (a:=oA) (b:=r9) (l5 κ (ks:=[x]) (vs:=[1]) rfl (Ms rfl rfl rfl rfl) (Ln rfl (Bb7 κ hl (by exact AO (by assumption) (by decide))) rfl)) (Sr (Rt rfl))))
 unfold Nj CM
 refine(if_pos rfl).trans ?_
 rw[b];exact Ag4 hc
end
section
variable{o:AL}(hc:Ch o){ks:List T}{vs:List Int}{x:T}
include hc
omit hc in
noncomputable abbrev vF(a' b' c' d':Int)(e':CV)(x7 x8 x9 x10 V_:Option CV)(a b c d:Int)(e:CV):AY:=[AA (.tup [.int a, .int b, .int c, .int d,e]),AA (.tup [.int a', .int b', .int c', .int d',e']),AA (.int a'),AA (.int b'),AA (.int c'),AA (.int d'),AA e',x7,x8,x9,x10,V_]
theorem mM(hn:ks.Nodup)(hl:ks.length=vs.length)(hs:vs.length<=900){a b c d a' b' c' d':Int}:
  TC [.tup [.int a, .int b, .int c, .int d, .dct (.s ks) (vs.map .int)], .tup [.int a', .int b', .int c', .int d', .dct (.s [x]) [.int 1]]] o= .ok (.tup [.int (a'+a), .int (b'+b), .int (c'+c), .int (d'+d), .dct (.s (Cb ks vs x).1) ((Cb ks vs x).2.map .int)]) o:=by
 have h:=mL KT hc (x:=x) hn hl hs
 have h:Nj [.dct (.s ks) (vs.map .int), .dct (.s [x]) [.int 1]] o= .ok (.dct (.s (Cb ks vs x).1) ((Cb ks vs x).2.map .int)) o:=h
 have b2:Xr (vF a' b' c' d' (.dct (.s [x]) [.int 1]) (AA (.int a)) (AA (.int b)) (AA (.int c)) (AA (.int d)) (AA (.dct (.s ks) (vs.map .int))) a b c d (.dct (.s ks) (vs.map .int))) o= .ret (.tup [.int (a'+a), .int (b'+b), .int (c'+c), .int (d'+d), .dct (.s (Cb ks vs x).1) ((Cb ks vs x).2.map .int)]) o:=
  Sr (Rt (Tp (Cn rfl (Cn rfl (Cn rfl (Cn rfl (Cn (Cl (Cn rfl (Cn rfl rfl)) h) rfl))))) (show 5<=Ah by decide)))
 have e1:Wo (vF a' b' c' d' (.dct (.s [x]) [.int 1]) AB AB AB AB AB a b c d (.dct (.s ks) (vs.map .int))) o= .next (vF a' b' c' d' (.dct (.s [x]) [.int 1]) (AA (.int a)) (AA (.int b)) (AA (.int c)) (AA (.int d)) (AA (.dct (.s ks) (vs.map .int))) a b c d (.dct (.s ks) (vs.map .int))) o:=rfl
 have e0:Wn [AA (.tup [.int a, .int b, .int c, .int d, .dct (.s ks) (vs.map .int)]),AA (.tup [.int a', .int b', .int c', .int d', .dct (.s [x]) [.int 1]]),AB,AB,AB,AB,AB,AB,AB,AB,AB,AB] o= .next (vF a' b' c' d' (.dct (.s [x]) [.int 1]) AB AB AB AB AB a b c d (.dct (.s ks) (vs.map .int))) o:=rfl
 have b0:AM Wn (AM Wo Xr) [AA (.tup [.int a, .int b, .int c, .int d, .dct (.s ks) (vs.map .int)]),AA (.tup [.int a', .int b', .int c', .int d', .dct (.s [x]) [.int 1]]),AB,AB,AB,AB,AB,AB,AB,AB,AB,AB] o=_:=Sq e0 (Sq e1 b2)
 have g0:TC [.tup [.int a, .int b, .int c, .int d, .dct (.s ks) (vs.map .int)], .tup [.int a', .int b', .int c', .int d', .dct (.s [x]) [.int 1]]] o=Gn o.length (AM Wn (AM Wo Xr) [AA (.tup [.int a, .int b, .int c, .int d, .dct (.s ks) (vs.map .int)]),AA (.tup [.int a', .int b', .int c', .int d', .dct (.s [x]) [.int 1]]),AB,AB,AB,AB,AB,AB,AB,AB,AB,AB] o):=by kernel_rfl
 simp only[g0,b0]
 exact fin_same hc (by show(AC&&(AC&&(AC&&(AC&&(C9 _ _&&AC)))))=AC;rw[Sj];rfl)
omit hc in
theorem AS1{tg:CV}{vs:List Int}:∀{n:Int} {c2:Option CV},∃H0,GU (AX 2) (AM (Jh Ed 1 (AF 2)) AZ) (vs.map .int) [AA tg,AA (.int n),c2] o= .next [AA tg,AA (.int (n+vs.sum)),H0] o:=by
 induction vs with
 |nil=>exactλ{n c2}=>⟨c2,by rw[show n+([]:List Int).sum=n from Qf n];rfl⟩
 |cons a r ih=>
  intro n c2
  obtain⟨H0,e⟩:=ih (n:=n+a) (c2:=AA (.int a))
  rw[UX]at e
  exact⟨H0,Ln rfl (Sq (An rfl rfl rfl rfl) rfl) (e.trans (by simp only[MV]))⟩
theorem cc{D:DK}:W4 [.dct D (vs.map .int)] o= .ok (.int vs.sum) o:=by
 refine A3 (AS1 (o:=o) (tg:= .dct D (vs.map .int)) (vs:=vs) (n:=0) (c2:=AB)) λH0 e=>?_
 rw[Qh]at e
 exact F_ rfl (Sq (a:=oB) (b:=r_) (v':=[AA (.dct D (vs.map .int)),AA (.int 0),AB]) rfl (Sq (a:=oD) (b:=sB) (Fo (Ms rfl rfl rfl rfl) rfl (src:=λ_ n=>AA ((vs.map CV.int)[n]?)) (N:=(vs.map CV.int).length+1) rfl ((Po (l:=vs.map CV.int) (λ_ _=>rfl) rfl).trans e)) (Sr (Rt rfl)))) hc rfl
end
section
variable{o:AL}(hc:Ch o)
theorem sZ{F:Array Nat->Nat->Option (Nat×Nat)}{P:AK}{z x:T}(hl:x.length<=100000)(hz:z.length<=10/\z.contains 92=AD):MJ F P [.top (.ref P), .str z, .str x] o= .ok (.str (LD F z x)) o:=by
 show(FW P o (.top (.ref P))).elim R.no _=_
 rw[show FW P o (.top (.ref P))=AA ()from if_pos rfl]
 exact if_pos ⟨hl,hz⟩
theorem BU7(y:T):(Kx [13,10] y).length<=2*y.length:=by
 induction y with
 |nil=>exact BL _
 |cons c r ih=>
  by_cases h:c=10
  ·rw[h,dR];exact C3 ih 2
  ·rw[dS h];exact HU (CT ih)
include hc in
theorem A74{x:T}(hl:x.length<=10000):TG [.str x] o= .ok (.str (EK AC (CG x))) o:=by
 have h1:(LD F2 [13,10] x).length<=100000:=by
  rw[tw]
  exact AO (BU7 (CG x)) (AO (DM 2 (AO (e8 x) hl)) (by decide))
 have e2:MJ F1 150 [.top (.ref 150), .str [46,46], .str (LD F2 [13,10] x)] o= .ok (.str (EK AC (CG x))) o:=(sZ h1 ⟨by decide,by decide⟩).trans (by rw[(A73 x)])
 exact F_ rfl (Sr (Rt (Ms rfl rfl (Cn rfl (Cn (Ms rfl rfl (Cn rfl (Cn rfl rfl)) (sZ (AO hl (by decide)) ⟨by decide,by decide⟩:MJ F2 155 [.top (.ref 155), .str [13,10], .str x] o= .ok (.str (LD F2 [13,10] x)) o)) rfl)) e2))) hc rfl
noncomputable def F7(sgn n0:Int)(w0:T)(n1:Int)(w1:T):Int:=if n0<n1 then -1 else if n1<n0 then 1 else if LF w0 w1=AC then -sgn else if LF w1 w0=AC then sgn else 0
noncomputable def PX:DS:=(AM (Ar (AJ AW (AF 1) (AF 3)) (AX 5))
  (AM (Ar (AJ AW (AF 2) (AF 3)) (AX 6))
  (AM (Br (Aq (AJ Js (AF 5) (AF 6))) (AM (Bb (NZ MI (AF 4)))
  AZ) AZ)
  (AM (Br (Aq (AJ TV (AF 5) (AF 6))) (AM (Bb (AF 4))
  AZ) AZ)
  AZ))))
noncomputable abbrev HQ(s l r:CV)(i d x y:Option CV):AY:=[AA s,AA l,AA r,i,d,x,y]
noncomputable abbrev K3(n:Int)(w:T):CV:= .tup [.int n, .str w, .int (-n)]
theorem turn{s l r x y:CV}{i d:Int}{lt gt:Bool}{x5 x6:Option CV}(hl:AW [l, .int i] o= .ok x o)(hr:AW [r, .int i] o= .ok y o)(h1:Js [x,y] o= .ok (.bool lt) o)(h2:TV [x,y] o= .ok (.bool gt) o):
  PX (HQ s l r (AA (.int i)) (AA (.int d)) x5 x6) o=if lt=AC then .ret (.int (-d)) o else if gt=AC then .ret (.int d) o else .next (HQ s l r (AA (.int i)) (AA (.int d)) (AA x) (AA y)) o:=by
 cases lt with
 |true=>exact Sq (As (Bn rfl rfl hl) rfl) (Sq (As (Bn rfl rfl hr) rfl) (Sr (It (Ts (Bn rfl rfl h1)) (Sr (Rt rfl)))))
 |false=>cases gt with
  |true=>exact Sq (As (Bn rfl rfl hl) rfl) (Sq (As (Bn rfl rfl hr) rfl) (Sq (If (Ts (Bn rfl rfl h1)) rfl) (Sr (It (Ts (Bn rfl rfl h2)) (Sr (Rt rfl))))))
  |false=>exact Sq (As (Bn rfl rfl hl) rfl) (Sq (As (Bn rfl rfl hr) rfl) (Sq (If (Ts (Bn rfl rfl h1)) rfl) (Sq (If (Ts (Bn rfl rfl h2)) rfl) rfl)))
theorem Lr{g:DG}{b:DS}{c x:CV}{l:List CV}{v v1:AY}{o o1 o2:AL}(hg:g c v o= .next v1 o1)(hb:b v1 o1= .ret x o2):GU g b (c::l) v o= .ret x o2:=by
 exact(congrArg (λx=>RS.goK (RS.bind x b) _) hg).trans (congrArg (λx=>RS.goK x _) hb)
noncomputable def Cd(up:Bool):CV:=if up=AC then .tup [.int 0, .int 1]else .tup [.int 2, .int (-1)]
include hc in
theorem AV0{i:Nat}{up:Bool}{sgn n0 n1:Int}{w0 w1:T}(h:o[i]? =AA (.inst 113 "comp_select_list" (AA (.lst [Cd up, .tup [.int 1, .int sgn]])))):TB [.obj i,K3 n0 w0,K3 n1 w1] o= .ok (.int (F7 sgn n0 w0 n1 w1)) o:=by
 have Li:Hk 113 "comp_select_list" (AF 0) (HQ (.obj i) (K3 n0 w0) (K3 n1 w1) AB AB AB AB) o= .ok (.lst [Cd up, .tup [.int 1, .int sgn]]) o:=by
  unfold Hk fD
  show((Mine.Sc o (CV.obj i)).bind _).elim _ _=_
  rw[show Mine.Sc o (CV.obj i)=AA (i,113,CR "comp_select_list",AA (.lst [Cd up, .tup [.int 1, .int sgn]])) by show G1 _ (o[i]?.bind Xc)=_;rw[h];rfl]
  rfl
 rw[(by kernel_rfl:TB [.obj i,K3 n0 w0,K3 n1 w1] o=Gn o.length (Na (HQ (.obj i) (K3 n0 w0) (K3 n1 w1) AB AB AB AB) o))]
 have VN:∀{z:Int},GU Ng PX [Cd up, .tup [.int 1, .int sgn]] (HQ (.obj i) (K3 n0 w0) (K3 n1 w1) AB AB AB AB) o= .ret (.int z) o->Gn o.length (Na (HQ (.obj i) (K3 n0 w0) (K3 n1 w1) AB AB AB AB) o)= .ok (.int z) o:=λhr=>by
  rw[show Na (HQ (.obj i) (K3 n0 w0) (K3 n1 w1) AB AB AB AB) o= .ret (.int _) o from Sr ((λhr=>Fo Li rfl rfl ((Po (l:=[Cd up, .tup [.int 1, .int sgn]]) (rest:=[Cd up, .tup [.int 1, .int sgn]]) (n:=0) (λ_ _=>rfl) rfl).trans hr):∀{r},GU Ng PX [Cd up, .tup [.int 1, .int sgn]] (HQ (.obj i) (K3 n0 w0) (K3 n1 w1) AB AB AB AB) o=r->EX AC (Hk 113 "comp_select_list" (AF 0)) Ng PX (HQ (.obj i) (K3 n0 w0) (K3 n1 w1) AB AB AB AB) o=r) hr)];exact fin_same hc rfl
 obtain⟨ki,kd,ek,e1,e2,e3,e4⟩:∃ki kd:Int,Cd up= .tup [.int ki, .int kd]/\(∃a b:Int,AW [K3 n0 w0, .int ki] o= .ok (.int a) o/\AW [K3 n1 w1, .int ki] o= .ok (.int b) o/\(a<b↔if up=AC then n0<n1 else n1<n0)/\(b<a↔if up=AC then n1<n0 else n0<n1))/\(kd=if up=AC then 1 else -1)/\True/\True:=by
  cases up with
  |true=>exact⟨0,1,rfl,⟨n0,n1,rfl,rfl,Fh,Fh⟩,rfl,trivial,trivial⟩
  |false=>exact⟨2, -1,rfl,⟨-n0, -n1,rfl,rfl,u8,u8⟩,rfl,trivial,trivial⟩
 obtain⟨a,b,p1,p2,q1,q2⟩:=e1
 have T1:=turn (s:= .obj i) (d:=kd) (x5:=AB) (x6:=AB) p1 p2 (lt:=decide (a<b)) (gt:=decide (b<a)) rfl rfl
 have Gg:Ng (Cd up) (HQ (.obj i) (K3 n0 w0) (K3 n1 w1) AB AB AB AB) o= .next (HQ (.obj i) (K3 n0 w0) (K3 n1 w1) (AA (.int ki)) (AA (.int kd)) AB AB) o:=by rw[ek];rfl
 have T2:=turn (o:=o) (s:= .obj i) (l:=K3 n0 w0) (r:=K3 n1 w1) (x:= .str w0) (y:= .str w1) (i:=1) (d:=sgn) (x5:=AA (.int a)) (x6:=AA (.int b)) rfl rfl (lt:=LF w0 w1) (gt:=LF w1 w0) rfl rfl
 unfold F7
 by_cases l1:a<b
 ·rw[decide_eq_true l1,if_pos rfl]at T1
  refine(VN (Lr Gg T1)).trans ?_
  have:=q1.mp l1
  cases up with
  |true=>rw[if_pos (show n0<n1 from this),e2];rfl
  |false=>have h:n1<n0:=this;rw[if_neg (LK.mpr (OE h)),if_pos h,e2];rfl
 ·by_cases l2:b<a
  ·rw[decide_eq_false l1,decide_eq_true l2,if_neg C2,if_pos rfl]at T1
   refine(VN (Lr Gg T1)).trans ?_
   have:=q2.mp l2
   cases up with
   |true=>have h:n1<n0:=this;rw[if_neg (LK.mpr (OE h)),if_pos h,e2];rfl
   |false=>rw[if_pos (show n0<n1 from this),e2];rfl
  ·rw[decide_eq_false l1,decide_eq_false l2,if_neg C2,if_neg C2]at T1
   have hn:¬n0<n1/\¬n1<n0:=by
    cases up with
    |true=>exact⟨λh=>l1 (q1.mpr h),λh=>l2 (q2.mpr h)⟩
    |false=>exact⟨λh=>l2 (q2.mpr h),λh=>l1 (q1.mpr h)⟩
   rw[if_neg hn.1,if_neg hn.2]
   cases c1:LF w0 w1 with
   |true=>rw[c1,if_pos rfl]at T2;exact VN (Ln Gg T1 (Lr rfl T2))
   |false=>
    cases c2:LF w1 w0 with
    |true=>rw[c1,c2,if_neg C2,if_pos rfl]at T2;exact VN (Ln Gg T1 (Lr rfl T2))
    |false=>
     rw[c1,c2,if_neg C2,if_neg C2]at T2
     rw[show Na (HQ (.obj i) (K3 n0 w0) (K3 n1 w1) AB AB AB AB) o= .ret (.int 0) o from Sq ((λhr=>Fo Li rfl rfl ((Po (l:=[Cd up, .tup [.int 1, .int sgn]]) (rest:=[Cd up, .tup [.int 1, .int sgn]]) (n:=0) (λ_ _=>rfl) rfl).trans hr):∀{r},GU Ng PX [Cd up, .tup [.int 1, .int sgn]] (HQ (.obj i) (K3 n0 w0) (K3 n1 w1) AB AB AB AB) o=r->EX AC (Hk 113 "comp_select_list" (AF 0)) Ng PX (HQ (.obj i) (K3 n0 w0) (K3 n1 w1) AB AB AB AB) o=r) (Ln Gg T1 (Ln rfl T2 rfl))) (Sr (Rt rfl))]
     exact fin_same hc rfl
end
structure AV where
 kind:Nat
 k:Nat
 snd:T
 n:Int
 w:T
noncomputable def AV.ps(L:AV):List Pc:=((Jl (L.k % 2))[L.kind]?).getD []
noncomputable def AV.first(L:AV):T:=val (Az L.n) (Ds L.ps)
noncomputable def AV.second(L:AV):T:=Ee L.kind L.k L.w
noncomputable def AV.come(L:AV):T:=L.first++10::126::10::L.second
noncomputable def AV.text(L:AV):T:=EF (Di L.k) (Az L.n) L.ps++Di L.k++[126]++Di L.k++L.second
noncomputable def AV.due(L:AV):CV:=Kv L.snd L.n L.w L.first L.second L.kind
noncomputable def AV.head(L:AV):T:=EK AC L.come
noncomputable def AV.wire(L:AV):T:=L.head++[13,10,46,13,10]
noncomputable def AV.item(L:AV):CV:= .tup [.str L.come,L.due]
noncomputable def Al(q:List AV):T:=(q.map AV.wire).flatten
structure AV.Ok(L:AV):Prop where
 kind:L.kind<18
 num:FS L.n
 word:HA L.w
theorem A72(b:Bool)(x:T):(EK b x).length<=2*x.length:=by
 induction x generalizing b with
 |nil=>exact D2 _
 |cons c r ih=>
  by_cases h:c=10
  ·rw[h,QB];exact C3 (ih AC) 2
  ·cases q:b&&c==46 with
   |true=>rw[(BB q).1,CH (BB q).2,QC];exact C3 (ih AD) 2
   |false=>rw[QD h q];exact HU (CT (ih AD))
theorem nL{e m:T}(he:e.length<=2)(hm:m.length<=100){ps:List Pc}(h:F6 ps<=200):(EF e m ps).length<=200:=by
 have:=(pI (v:=[AB,AB,AB,AB,AB,AA (.str e),AA (.str m)]) (o:=[]) ⟨rfl,rfl,he,hm⟩ ps (AG (.str [])) [] rfl (by show 0+_<=_;exact AO (EP (by assumption) _) (by decide))).2
 exact AO this (by show 0+_<=_;exact AO (EP (by assumption) _) (by decide))
theorem AR9{e m:T}(a b:List Pc):EF e m (a++b)=EF e m a++EF e m b:=by unfold EF;rw[EO,Yl]
theorem BG5(a b:List Pc):Ds (a++b)=Ds a++Ds b:=by unfold Ds;rw[EO,Yl]
section
variable{L:AV}(h:L.Ok)
include h
theorem AV.psO:(Jl (L.k % 2))[L.kind]? =AA L.ps:=by
 have a:=(au _ (Dw L.k (by decide:0<2)) _ h.kind).2
 unfold AV.ps
 cases e:(Jl (L.k % 2))[L.kind]? with
 |none=>rw[e]at a;first|exact Af a|cases a
 |some ps=>rfl
theorem AV.low:L.ps.all Pc.low=AC:=by
 have a:=(au _ (Dw L.k (by decide:0<2)) _ h.kind).2
 rw[AV.psO h]at a;exact CU a
theorem AV.more:(Ds L.ps).all (· !=AA 126)=AC/\(Ds L.ps).length<=40/\F6 L.ps<=200:=by
 have a:=mP _ (Dw L.k (by decide:0<2)) _ h.kind
 rw[AV.psO h]at a
 exact⟨(BB (CU a)).1,of_decide_eq_true (BB (BB (CU a)).2).1,of_decide_eq_true (BB (BB (CU a)).2).2⟩
theorem AV.no:10∉Az L.n/\13∉Az L.n/\126∉Az L.n:=⟨λq=>absurd (h.num.dig _ q) (by decide),λq=>absurd (h.num.dig _ q) (by decide),λq=>absurd (h.num.dig _ q) (by decide)⟩
theorem AV.nrm_first:CG (EF (Di L.k) (Az L.n) L.ps)=L.first:=rL (cS L.k) (AV.no h).1 (AV.no h).2.1 (AV.low h)
theorem AV.no10:10∉L.second:=ft (.inl rfl) h.word.n10 _ _
theorem AV.nrm_text:CG L.text=L.come:=by
 have hl:(L.ps++[Pc.E, .L [126], .E, .L L.second]).all Pc.low=AC:=by
  rw[gu,AV.low h]
  show(AC&&(AC&&(L.second.all _&&AC)))=AC
  rw[FF.mpr (λc hc=>by rw[MR,bne_iff_ne,bne_iff_ne];exact⟨λe=>AV.no10 h (e▸hc),λe=>ft (.inr rfl) h.word.n13 L.kind L.k (e▸hc)⟩)];rfl
 have a:=rL (cS L.k) (AV.no h).1 (AV.no h).2.1 hl
 rw[AR9,BG5,LG]at a
 have e1:EF (Di L.k) (Az L.n) [Pc.E, .L [126], .E, .L L.second]=Di L.k++([126]++(Di L.k++L.second)):=by
  show Di L.k++([126]++(Di L.k++(L.second++[])))=_;rw[BJ]
 have e2:val (Az L.n) (Ds [Pc.E, .L [126], .E, .L L.second])=10::126::10::L.second:=by
  show 10::126::10::val _ (L.second.map AA++[])=_;rw[BJ,YO]
 rw[e1,e2]at a
 unfold AV.text
 rw[B2,B2,B2]
 exact a
theorem AV.first_len:L.first.length<=800:=AO (YN h.num.len _) (Uk 20 (AV.more h).2.1)
theorem AV.come_len:L.come.length<=1018:=by
 have h1:=AV.first_len h
 have h2:L.second.length<=215:=UB h.word.len L.kind L.k
 unfold AV.come
 rw[A1]
 show _+(L.second.length+3)<=_
 exact Bf h1 (C3 h2 3)
theorem AV.wire_len:L.wire.length<=2041:=by
 have h1:=AV.come_len h
 have h2:=A72 AC L.come
 unfold AV.wire AV.head
 rw[A1]
 show _+5<=_
 exact C3 (AO h2 (DM 2 h1)) 5
theorem AV.clo(N:Nat):C8 N L.item=AC:=by
 show(AC&&(C8 N L.due&&AC))=AC
 rw[show C8 N L.due=AC from bQ N _ _ _ _ _ _];rfl
theorem AV.letter{o:AL}(hc:Ch o):Pr [.int L.kind, .int L.k, .str L.snd, .int L.n, .str L.w] o= .ok (.tup [.str L.text,L.item]) o:=by
 have r:=Mine.Bj0 (snd:=L.snd) (k:=L.k) hc h.kind h.num.sm (AO h.num.len (by decide)) h.word.len (t:=EF (Di L.k) (Az L.n) L.ps)
  (by rw[Cm,AV.psO h];rfl) (AO (nL (K7 L.k) (AO h.num.len (by decide)) (AV.more h).2.2) (by decide)) (due:=L.due) (by rw[AV.nrm_first h];exact Aa4 h.kind) (bQ _ _ _ _ _ _ _)
 rw[AV.nrm_first h,B2 L.first]at r
 exact r
theorem AV.read{o:AL}(hc:Ch o):K1 [.str L.come, .str L.snd] o= .ok L.due o:=At1 hc h.kind h.num h.word (AV.psO h)
end
theorem QY:∀{q:List AV},(∀L∈q,L.Ok)->(Al q).length<=2041*q.length
 |[],_=>D2 _
 |L::r,h=>by
  have h1:=AV.wire_len (h L CP)
  have h2:=QY (q:=r) λL' hL=>h L' (Ef _ hL)
  show(L.wire++Al r).length<=2041*(r.length+1)
  rw[A1,OL,Nat.mul_succ];exact Bf h2 h1
theorem YP(q:List AV)(L:AV):Al (q++[L])=Al q++L.wire:=by
 unfold Al;rw[EO,Yl];exact congrArg _ (BJ _)
noncomputable def ua:List T:=[[110,97,109,101,115],[108,105,110,101,115],[115,101,110,116],[104,101,97,100,115],[115,101,101,110],[102,105,114,115,116],[109,97,100,101],[99,97,109,101],[102,97,99,116,111,114,115],[119,114,111,110,103],[98,111,111,107,115],[99,111,109,112]]
structure Bk where
 a:Int
 b:Int
 c:Int
 d:Int
 ks:List T
 vs:List Int
noncomputable def Bk.cv(x:Bk):CV:= .tup [.int x.a, .int x.b, .int x.c, .int x.d, .dct (.s x.ks) (x.vs.map .int)]
noncomputable def Jn:Option (Int×T)->CV
 |none=> .none
 |some (n,w)=> .tup [.int n, .str w, .int (-n)]
set_option genInjectivity false in
set_option genSizeOfSpec false in
structure AS where
 cells:List Int
 q0:List AV
 q1:List AV
 q2:List AV
 q3:List AV
 h0:Option (Int×T)
 h1:Option (Int×T)
 rows:FU
 fst:FU
 m0:Int
 m1:Int
 ck:List Int
 cn:List Int
 b0:Bk
 b1:Bk
 nA:T
 nB:T
 nC:T
 f0:Int
 f1:Int
 up:Bool
 sgn:Int
noncomputable def bT(up:Bool)(sgn:Int):CV:= .lst [if up then .tup [.int 0, .int 1]else .tup [.int 2, .int (-1)], .tup [.int 1, .int sgn]]
noncomputable def AS.objs(s:AS):AL:=[.list (s.cells.map .int), .list [.str (Al s.q0), .str (Al s.q1), .str (Al s.q2), .str (Al s.q3)], .list (s.q0.map AV.item), .list (s.q1.map AV.item), .list (s.q2.map AV.item), .list (s.q3.map AV.item), .list [Jn s.h0,Jn s.h1],.dict (.s ua) [.lst [.str s.nA, .str s.nB, .str s.nC], .obj 1, .lst [.obj 2, .obj 3, .obj 4, .obj 5], .obj 6, .obj 9, .obj 10, .obj 11, .dct (L7 s.ck) (s.cn.map .int), .lst [.int s.f0, .int s.f1], .int 0, .obj 12, .obj 13],.list (s.rows.map Bv), .inst 295 "_headers" (AA (.obj 8)), .list (s.fst.map Bv), .list [.int s.m0, .int s.m1], .list [s.b0.cv,s.b1.cv], .inst 113 "comp_select_list" (AA (bT s.up s.sgn))]
theorem Sk(n:Nat):∀q:List AV,C9 n (q.map AV.item)=AC
 |[]=>rfl
 |L::r=>by
  show((AC&&(C8 n L.due&&AC))&&C9 n (r.map AV.item))=AC
  rw[show C8 n L.due=AC from bQ n _ _ _ _ _ _,Sk n r];rfl
theorem nU(n:Nat)(h:Option (Int×T)):C8 n (Jn h)=AC:=by
 cases h with
 |none=>rfl
 |some p=>rfl
theorem nS(n:Nat)(b:Bk):C8 n b.cv=AC:=by
 show(AC&&(AC&&(AC&&(AC&&(C9 n (b.vs.map .int)&&AC)))))=AC
 rw[Sj];rfl
theorem AT5(n:Nat)(u:Bool)(s:Int):C8 n (bT u s)=AC:=by cases u<;>rfl
theorem AS.cloN(s:AS)(n:Nat):s.objs.all (H' (n+14))=AC:=by
 show(C9 (n+14) (s.cells.map .int)&&(AC&&(C9 (n+14) (s.q0.map AV.item)&&(C9 (n+14) (s.q1.map AV.item)&&(C9 (n+14) (s.q2.map AV.item)&&(C9 (n+14) (s.q3.map AV.item)&&((C8 (n+14) (Jn s.h0)&&(C8 (n+14) (Jn s.h1)&&AC))&&((AC&&(AC&&(AC&&(AC&&(AC&&(AC&&(AC&&(C9 (n+14) (s.cn.map .int)&&AC))))))))&&(C9 (n+14) (s.rows.map Bv)&&(AC&&(C9 (n+14) (s.fst.map Bv)&&(AC&&((C8 (n+14) s.b0.cv&&(C8 (n+14) s.b1.cv&&AC))&&(C8 (n+14) (bT s.up s.sgn)&&AC))))))))))))))=AC
 simp only[Sj,Sk,Sk,Sk,Sk,nU,nU,Sj,Sl,Sl,nS,nS,AT5];rfl
theorem AS.clo(s:AS):Ch s.objs:=s.cloN 0
section
variable{c':CV}{a b c:D}{p:List CV->AL->R CV}{v:AY}{o o1 o2 o3 o4 o5 o':AL}{x y z w r:CV}
theorem Au(h:a v o= .ok x o1)(h':b v o1= .ok y o2)(k:AW [x,y] o2= .ok z o3)(k':c v o3= .ok w o4)(k2:p [z,w] o4= .ok r o5)(k3:Ff x y r o5= .ok () o'):HE p a b c v o= .next v o':=by
 unfold HE;rw[h];show(b v o1).s v _=_;rw[h'];show((AW [x,y] o2).bind _).s v _=_;rw[k];show((c v o3).bind _).s v _=_;rw[k'];show(p [z,w] o4).s v _=_;rw[k2];show(Ff x y r o5).s v _=_;rw[k3];rfl
theorem W8{s t:T}(h:s.length+t.length<=16777216):Ed [.str s, .str t] o= .ok (.str (s++t)) o:=by
 show(match(if _ then R.ok (CV.str (s++t)) o else .no)with| .no=>_|r=>r)=_
 rw[if_pos h]
theorem SY{i:Nat}{l:List CV}{y:CV}(h:o[i]? =AA (.list l))(hl:l.length<16777216):Nw [.obj i,y] o= .ok .none (o.set i (.list (l++[y]))):=by
 show(GP o (.obj i)).elim R.no (λd=>if d.2.length<Ah then R.ok CV.none (o.set d.1 (.list (d.2++[y])))else .no)=_
 rw[show GP o (.obj i)=AA (i,l) by show G1 (λa=>(i,a)) (o[i]?.bind EI)=_;rw[h];rfl]
 exact if_pos hl
theorem ag{tup:Bool}{g:DG}{bd:DS}{l:List CV}{r:RS}{src:Cv}{N:Nat}(h:a v o= .ok c' o1)(ht:(tup|| !FX c')=AC)(hs:Hp o1 c'=AA (src,N))(hl:src=λ_ n=>AA l[n]?)(hN:N=l.length+1)(k:GU g bd l v o1=r):EX tup a g bd v o=r:=
 Fo h ht hs (by rw[hN,hl];exact(Po (l:=l) (λ_ _=>rfl) rfl).trans k)
end
inductive Tg where
 |both|t2|t3
noncomputable def Tg.ls:Tg->List CV
 | .both=>[.int 0, .int 1]
 | .t2=>[.int 2]
 | .t3=>[.int 3]
noncomputable abbrev Tg.cv(t:Tg):CV:= .lst t.ls
noncomputable def AS.push(s:AS)(L:AV):Tg->AS
 | .both=>{s with q0:=s.q0++[L],q1:=s.q1++[L]}
 | .t2=>{s with q2:=s.q2++[L]}
 | .t3=>{s with q3:=s.q3++[L]}
structure EE(N:Nat)(q:List AV):Prop where
 ok:∀L∈q,L.Ok
 le:q.length<=N
theorem EE.app{N:Nat}{q:List AV}{L:AV}(h:EE N q)(hL:L.Ok):EE (N+1) (q++[L]):=
 ⟨λL' hm=>(D8.mp hm).elim (h.ok L') λq=>Ca.mp q▸hL,by rw[A1];exact CT h.le⟩
theorem EE.mono{N M:Nat}{q:List AV}(h:EE N q)(hm:N<=M):EE M q:=⟨h.ok,AO h.le hm⟩
structure Gj(N:Nat)(s:AS):Prop where
 q0:EE N s.q0
 q1:EE N s.q1
 q2:EE N s.q2
 q3:EE N s.q3
theorem Gj.push{N:Nat}{s:AS}{L:AV}(h:Gj N s)(hL:L.Ok):∀t:Tg,Gj (N+1) (s.push L t)
 | .both=>⟨h.q0.app hL,h.q1.app hL,h.q2.mono (Da N),h.q3.mono (Da N)⟩
 | .t2=>⟨h.q0.mono (Da N),h.q1.mono (Da N),h.q2.app hL,h.q3.mono (Da N)⟩
 | .t3=>⟨h.q0.mono (Da N),h.q1.mono (Da N),h.q2.mono (Da N),h.q3.app hL⟩
theorem Gj.mono{N M:Nat}{s:AS}(h:Gj N s)(hm:N<=M):Gj M s:=⟨h.q0.mono hm,h.q1.mono hm,h.q2.mono hm,h.q3.mono hm⟩
theorem EE.fit{N:Nat}{q:List AV}(h:EE N q)(hN:N<=1000){L:AV}(hL:L.Ok):(Al q).length+L.wire.length<=16777216/\(q.map AV.item).length<16777216:=by
 have h1:=QY h.ok
 have h2:=AV.wire_len hL
 have h3:=h.le
 rw[Ay]
 exact⟨AO (Bf (AO h1 (DM 2041 (AO h3 hN))) h2) (by decide),Bg (AO h3 hN) (by decide)⟩
noncomputable def PY:DS:=(AM (HE Ed (AJ AW (AF 0) (AG (.str [108,105,110,101,115]))) (AF 10) (AF 9))
  (AM (E_ (BC P2 (AJ AW (AJ AW (AF 0) (AG (.str [115,101,110,116]))) (AF 10)) (AH (AF 8) AP)))
  AZ))
noncomputable abbrev GC(t k who n w c6 c7 c8 c9 c10:Option CV):AY:=[AA (.obj 7),t,k,who,n,w,c6,c7,c8,c9,c10]
section
variable{s:AS}{L:AV}{t k who n w c6 c7 c10:Option CV}(hL:L.Ok){N:Nat}(hN:N<=1000)
include hL hN
theorem ln0(h:EE N s.q0):PY (GC t k who n w c6 c7 (AA L.item) (AA (.str L.wire)) (AA (.int 0))) s.objs= .next (GC t k who n w c6 c7 (AA L.item) (AA (.str L.wire)) (AA (.int 0))) ({s with q0:=s.q0++[L]}:AS).objs:=by
 have f:=h.fit hN hL
 refine Sq (o':=s.objs.set 1 (.list [.str (Al s.q0++L.wire), .str (Al s.q1), .str (Al s.q2), .str (Al s.q3)])) (Au rfl rfl rfl rfl (W8 f.1) rfl) (Sq (Ex (Ms rfl rfl rfl (SY (o:=s.objs.set 1 (.list [.str (Al s.q0++L.wire), .str (Al s.q1), .str (Al s.q2), .str (Al s.q3)])) (i:=2) rfl f.2))) ?_)
 unfold AS.objs;simp only[YP,EO];rfl
theorem ln1(h:EE N s.q1):PY (GC t k who n w c6 c7 (AA L.item) (AA (.str L.wire)) (AA (.int 1))) s.objs= .next (GC t k who n w c6 c7 (AA L.item) (AA (.str L.wire)) (AA (.int 1))) ({s with q1:=s.q1++[L]}:AS).objs:=by
 have f:=h.fit hN hL
 refine Sq (o':=s.objs.set 1 (.list [.str (Al s.q0), .str (Al s.q1++L.wire), .str (Al s.q2), .str (Al s.q3)])) (Au rfl rfl rfl rfl (W8 f.1) rfl) (Sq (Ex (Ms rfl rfl rfl (SY (o:=s.objs.set 1 (.list [.str (Al s.q0), .str (Al s.q1++L.wire), .str (Al s.q2), .str (Al s.q3)])) (i:=3) rfl f.2))) ?_)
 unfold AS.objs;simp only[YP,EO];rfl
theorem ln2(h:EE N s.q2):PY (GC t k who n w c6 c7 (AA L.item) (AA (.str L.wire)) (AA (.int 2))) s.objs= .next (GC t k who n w c6 c7 (AA L.item) (AA (.str L.wire)) (AA (.int 2))) ({s with q2:=s.q2++[L]}:AS).objs:=by
 have f:=h.fit hN hL
 refine Sq (o':=s.objs.set 1 (.list [.str (Al s.q0), .str (Al s.q1), .str (Al s.q2++L.wire), .str (Al s.q3)])) (Au rfl rfl rfl rfl (W8 f.1) rfl) (Sq (Ex (Ms rfl rfl rfl (SY (o:=s.objs.set 1 (.list [.str (Al s.q0), .str (Al s.q1), .str (Al s.q2++L.wire), .str (Al s.q3)])) (i:=4) rfl f.2))) ?_)
 unfold AS.objs;simp only[YP,EO];rfl
theorem ln3(h:EE N s.q3):PY (GC t k who n w c6 c7 (AA L.item) (AA (.str L.wire)) (AA (.int 3))) s.objs= .next (GC t k who n w c6 c7 (AA L.item) (AA (.str L.wire)) (AA (.int 3))) ({s with q3:=s.q3++[L]}:AS).objs:=by
 have f:=h.fit hN hL
 refine Sq (o':=s.objs.set 1 (.list [.str (Al s.q0), .str (Al s.q1), .str (Al s.q2), .str (Al s.q3++L.wire)])) (Au rfl rfl rfl rfl (W8 f.1) rfl) (Sq (Ex (Ms rfl rfl rfl (SY (o:=s.objs.set 1 (.list [.str (Al s.q0), .str (Al s.q1), .str (Al s.q2), .str (Al s.q3++L.wire)])) (i:=5) rfl f.2))) ?_)
 unfold AS.objs;simp only[YP,EO];rfl
theorem A70(h:Gj N s):∀tg:Tg,∃RM,GU (AX 10) PY tg.ls (GC t k who n w c6 c7 (AA L.item) (AA (.str L.wire)) c10) s.objs= .next (GC t k who n w c6 c7 (AA L.item) (AA (.str L.wire)) RM) (s.push L tg).objs
 | .both=>⟨AA (.int 1),Ln rfl (ln0 hL hN h.q0) (Ln rfl (ln1 (s:={s with q0:=s.q0++[L]}) hL hN h.q1) rfl)⟩
 | .t2=>⟨AA (.int 2),Ln rfl (ln2 hL hN h.q2) rfl⟩
 | .t3=>⟨AA (.int 3),Ln rfl (ln3 hL hN h.q3) rfl⟩
end
noncomputable def mw:DS:=(AM (Ar (A_ Pr (AH (AF 6) (AH (AJ EJ (AF 2) (AG (.int 243))) (AH (AJ AW (AJ AW (AF 0) (AG (.str [110,97,109,101,115]))) (AF 3)) (AH (AF 4) (AH (AF 5) AP)))))) (DA 2 (A5 (AX 7) (A5 (AX 8) CS))))
  (AM (Ar (AJ Ai (A_ TG (AH (AF 7) AP)) (AG (.str [13,10,46,13,10]))) (AX 9))
  (AM (EX AD (AF 1) (AX 10) PY)
  AZ)))
noncomputable def AS.name(s:AS)(who:Nat):T:=if who=0 then s.nA else if who=1 then s.nB else s.nC
theorem Ay5{s:AS}{o:AL}{who:Nat}(h:who<3):AW [.lst [.str s.nA, .str s.nB, .str s.nC], .int who] o= .ok (.str (s.name who)) o:=by
 rcases(by lia:who=0\/who=1\/who=2)with rfl|rfl|rfl<;>rfl
theorem A71(s:AS)(L:AV)(t:Tg)(who:Nat):(s.push L t).name who=s.name who:=by cases t<;>rfl
theorem AV.text_len{L:AV}(h:L.Ok):L.text.length<=10000:=by
 have h1:=nL (K7 L.k) (AO h.num.len (by decide)) (AV.more h).2.2
 have h2:=K7 L.k
 have h3:L.second.length<=215:=UB h.word.len L.kind L.k
 unfold AV.text
 simp only[A1,A1,A1,A1]
 show _+_+1+_+_<=_
 exact AO (Bf (Bf (CT (Bf (by assumption) (by assumption))) (by assumption)) (by assumption)) (by decide)
theorem AH3{b:DS}{v v':AY}{o o':AL}{t:Tg}{g:DG}(hv:AF 1 v o= .ok t.cv o)(k:GU g b t.ls v o= .next v' o'):EX AD (AF 1) g b v o= .next v' o':=by
 cases t<;>exact ag hv rfl rfl rfl rfl k
section
variable{t:Tg}{k who:Nat}{n:Int}{w:T}(hn:FS n)(hw:HA w)(R1:who<3)
include hn hw R1
theorem A45{N:Nat}{s:AS}(h:Gj N s)(hN:N<=1000){kind:Nat}(hk:kind<18){c7 c8 c9 c10:Option CV}:∃xt xu xv RM,mw (GC (AA t.cv) (AA (.int k)) (AA (.int who)) (AA (.int n)) (AA (.str w)) (AA (.int kind)) c7 c8 c9 c10) s.objs=
  .next (GC (AA t.cv) (AA (.int k)) (AA (.int who)) (AA (.int n)) (AA (.str w)) (AA (.int kind)) xt xu xv RM) (s.push ⟨kind,k/243,s.name who,n,w⟩ t).objs:=by
 have hL:(⟨kind,k/243,s.name who,n,w⟩:AV).Ok:=⟨hk,hn,hw⟩
 have h1:=AV.letter hL s.clo
 have hq:=A74 s.clo (AV.text_len hL)
 rw[AV.nrm_text hL]at hq
 have Jb:=AV.wire_len hL
 unfold AV.wire at Jb
 rw[A1]at Jb
 obtain⟨RM,e3⟩:=A70 hL hN h t (t:=AA t.cv) (k:=AA (.int k)) (who:=AA (.int who)) (n:=AA (.int n)) (w:=AA (.str w)) (c6:=AA (.int kind)) (c7:=AA (.str (AV.text ⟨kind,k/243,s.name who,n,w⟩))) (c10:=c10)
 exact⟨_,_,_,RM,Sq (Ag (Cl (Cn rfl (Cn (Bn rfl rfl (Ix (n:=243) (by decide))) (Cn (Bn (Bn rfl rfl rfl) rfl (Ay5 R1)) (Cn rfl (Cn rfl rfl))))) h1) rfl)
  (Sq (As (Bn (Cl (Cn rfl rfl) hq) rfl (F3 (AO Jb (by decide)))) rfl) (Sq (AH3 rfl e3) rfl))⟩
noncomputable def AS.pushes(s:AS)(t:Tg):List AV->AS
 |[]=>s
 |L::r=>(s.push L t).pushes t r
theorem A44(kl:List Nat):∀{N:Nat} {s:AS},Gj N s->N+kl.length<=1000->(∀kind∈kl,kind<18)->∀(c6 c7 c8 c9 c10:Option CV),∃v',GU (AX 6) mw (kl.map λi:Nat=> .int i) (GC (AA t.cv) (AA (.int k)) (AA (.int who)) (AA (.int n)) (AA (.str w)) c6 c7 c8 c9 c10) s.objs= .next v' (s.pushes t (kl.map λkind=>⟨kind,k/243,s.name who,n,w⟩)).objs:=by
 induction kl with
 |nil=>exactλ_ _ _ _ _ _ _ _=>⟨_,rfl⟩
 |cons kind r ih=>
  intro N s h hl hk c6 c7 c8 c9 c10
  rw[Du]at hl
  have hL:(⟨kind,k/243,s.name who,n,w⟩:AV).Ok:=⟨hk kind CP,hn,hw⟩
  refine YS (A45 (t:=t) (k:=k) hn hw R1 h (by exact AO (LN (by assumption)) (by decide)) (hk kind CP) (c7:=c7) (c8:=c8) (c9:=c9) (c10:=c10)) λd7 d8 d9 Ez e=>?_
  obtain⟨v',ih⟩:=ih (h.push hL t) (by lia) (λx hx=>hk x (Ef _ hx)) (AA (.int kind)) d7 d8 d9 Ez
  rw[A71]at ih
  exact⟨v',Ln rfl e ih⟩
end
noncomputable def K6(k:Nat):List Nat:=(if k % 3=0 then [k/3 % 9+9]else [])++[k/27 % 9]
theorem qD(k:Nat):∀kind∈K6 k,kind<18:=λkind h=>by
 unfold K6 at h
 rcases D8.mp h with h|h
 ·split at h
  ·rw[Ca.mp h];lia
  ·cases h
 ·rw[Ca.mp h];exact C4 (Dw _ (by decide)) (by decide)
theorem qC(k:Nat):(K6 k).length<=2:=by unfold K6;split;exact BL 2;exact Da 1
noncomputable def Dz(s:AS)(k who:Nat)(n:Int)(w:T):List AV:=(K6 k).map λkind=>⟨kind,k/243,s.name who,n,w⟩
theorem XI{N:Nat}{s:AS}(h:Gj N s)(hN:N<=900){t:Tg}{k who:Nat}{n:Int}{w:T}(hn:FS n)(hw:HA w)(R1:who<3):
  Nh [.obj 7,t.cv, .int k, .int who, .int n, .str w] s.objs= .ok .none (s.pushes t (Dz s k who n w)).objs:=by
 have hkl:=qC k
 obtain⟨v',e⟩:=A44 (t:=t) (k:=k) hn hw R1 (K6 k) h (by exact AO (Bf (by assumption) (by assumption)) (by decide)) (qD k) AB AB AB AB AB
 have hm:AJ Ck (AF 2) (AG (.int 3)) (GC (AA t.cv) (AA (.int k)) (AA (.int who)) (AA (.int n)) (AA (.str w)) AB AB AB AB AB) s.objs= .ok (.int (k % 3:Nat)) s.objs:=Bn rfl rfl (FB (n:=3) (by decide))
 have ht:Aq (AJ BV (AJ Ck (AF 2) (AG (.int 3))) (AG (.int 0))) (GC (AA t.cv) (AA (.int k)) (AA (.int who)) (AA (.int n)) (AA (.str w)) AB AB AB AB AB) s.objs= .ok (decide (k % 3=0)) s.objs:=
  Te (Bn hm rfl rfl) (by cases h:k % 3 with|zero=>rfl|succ n=>rfl)
 have ha:AJ Ai (Cc (Aq (AJ BV (AJ Ck (AF 2) (AG (.int 3))) (AG (.int 0)))) (BU (AH (AJ Ai (AJ Ck (AJ EJ (AF 2) (AG (.int 3))) (AG (.int 9))) (AG (.int 9))) AP)) (BU AP)) (BU (AH (AJ Ck (AJ EJ (AF 2) (AG (.int 27))) (AG (.int 9))) AP))
   (GC (AA t.cv) (AA (.int k)) (AA (.int who)) (AA (.int n)) (AA (.str w)) AB AB AB AB AB) s.objs= .ok (.lst ((K6 k).map λi:Nat=> .int i)) s.objs:=by
  unfold K6
  by_cases h3:k % 3=0
  ·rw[decide_eq_true h3]at ht
   rw[if_pos h3]
   exact Bn (Dt ht (Ls (Cn (Bn (Bn (Bn rfl rfl (Ix (n:=3) (by decide))) rfl (FB (n:=9) (by decide))) rfl rfl) rfl) (show 1<=Ah by decide))) (Ls (Cn (Bn (Bn rfl rfl (Ix (n:=27) (by decide))) rfl (FB (n:=9) (by decide))) rfl) (show 1<=Ah by decide)) (Ko (show 1+1<=16777216 by decide))
  ·rw[decide_eq_false h3]at ht
   rw[if_neg h3]
   exact Bn (Df ht (Ls rfl (show 0<=Ah by decide))) (Ls (Cn (Bn (Bn rfl rfl (Ix (n:=27) (by decide))) rfl (FB (n:=9) (by decide))) rfl) (show 1<=Ah by decide)) (Ko (show 0+1<=16777216 by decide))
 have b:Wl (GC (AA t.cv) (AA (.int k)) (AA (.int who)) (AA (.int n)) (AA (.str w)) AB AB AB AB AB) s.objs= .next v' (s.pushes t (Dz s k who n w)).objs:=
  Sq (ag ha rfl rfl rfl rfl e) rfl
 unfold Nh CM
 refine(if_pos rfl).trans ?_
 exact(congrArg (Gn 14) b).trans (fin_same (s.pushes t (Dz s k who n w)).clo rfl)
section
variable{t:DT}{e a:D}{rest:AY}{o:AL}{b:CV->Bool}{f:CV->CV}{l:List CV}{src:Cv}{c:CV}{v:AY}{tls:List (Option Nat)}{N:Nat}
theorem AU9(hs:∀n,src o n=AA l[n]?)(ht:∀x∈l,t (AA x::rest) o= .ok (b x) o)(he:∀x∈l,b x=AC->e (AA x::rest) o= .ok (f x) o){r:List CV}:∀{n:Nat} {c0:Option CV} {acc:List CV},l.drop n=r->acc.length+r.length<=16777216->
  ∃Ie,C_ src (AX 0) t (CC e) (r.length+1) n (c0::rest) o (.list acc)= .ok (Ie::rest, .list (acc++(r.filter b).map f)) o:=by
 induction r with
 |nil=>exactλ{n c0 acc} h hl=>⟨c0,by
  show(src o n).elim _ _=_
  rw[hs n]
  rw[Ga (J1.mp h)]
  show R.ok (c0::rest,CO.list acc) o=R.ok (c0::rest,CO.list (acc++[])) o
  rw[BJ]⟩
 |cons x r ih=>
  intro n c0 acc h hl
  have e1:(l.drop n)[0]? =l[n]?:=JC
  rw[h]at e1
  have h2:l.drop (n+1)=r:=by rw[<-MS,h];rfl
  have hm:x∈l:=Dv e1.symm
  rw[Du]at hl
  have go:∀R',(t (AA x::rest) o).opt.elim .no (λq=>if q.1=AC then(CC e (AA x::rest) q.2 (.list acc)).opt.elim .no λz=>C_ src (AX 0) t (CC e) (r.length+1) (n+1) z.1.1 z.2 z.1.2 else C_ src (AX 0) t (CC e) (r.length+1) (n+1) (AA x::rest) q.2 (.list acc))=R'->C_ src (AX 0) t (CC e) (r.length+1+1) n (c0::rest) o (.list acc)=R':=λR' k=>by
   show(src o n).elim _ _=_
   rw[hs n]
   rw[<-e1]
   exact k
  cases hb:b x with
  |true=>
   obtain⟨Ie,ih⟩:=ih (n:=n+1) (c0:=AA x) (acc:=acc++[f x]) h2 (by rw[A1];show _+1+_<=_;exact AO (BR (Er _ 1 _)) hl)
   refine⟨Ie,go _ ?_⟩
   rw[ht x hm,hb]
   show(CC e (AA x::rest) o (.list acc)).opt.elim _ _=_
   unfold CC
   rw[he x hm hb]
   show(if acc.length<Ah then R.ok (AA x::rest,CO.list (acc++[f x])) o else .no).opt.elim _ _=_
   rw[if_pos (show acc.length<16777216 from CI (Qq (IW _)) hl),OG,if_pos hb]
   refine gp ih ?_
   rw[B2];rfl
  |false=>
   obtain⟨Ie,ih⟩:=ih (n:=n+1) (c0:=AA x) (acc:=acc) h2 (by exact Et (by assumption))
   refine⟨Ie,go _ ?_⟩
   rw[ht x hm,hb,OG,if_neg (by rw[hb];decide)]
   exact ih
theorem Co{r:CV}(ha:a v o= .ok c o)(hi:FX c=AD)(hs:Hp o c=AA (src,N))(hl:∀n,src o n=AA l[n]?)(hN:N=l.length+1)(hv:Ej tls v=AB::rest)(ht:∀x∈l,t (AA x::rest) o= .ok (b x) o)(he:∀x∈l,b x=AC->e (AA x::rest) o= .ok (f x) o)(hf:l.length<=16777216)(hr:CV.lst ((l.filter b).map f)=r):
  CL tls (.list []) a (AX 0) t (CC e) v o= .ok r o:=by
 refine A3 (AU9 hl ht he (r:=l) (n:=0) (c0:=AB) (acc:=[]) rfl (by show 0+_<=_;exact AO (EP (by assumption) _) (by decide))) λIe k=>?_
 unfold CL
 rw[ha]
 show(if FX c=AC then R.no else _)=_
 rw[if_neg (by rw[hi];decide),hs]
 show(C_ src (AX 0) t (CC e) N 0 (Ej tls v) o (.list [])).opt.elim _ _=_
 simp only[hN,hv,k,<-hr]
 rfl
end
theorem aX{src:Cv}{g:DG}{t:DT}{de:DE}{f n:Nat}{v:AY}{o:AL}{acc:CO}(h:src o n=AA AB):C_ src g t de (f+1) n v o acc= .ok (v,acc) o:=by
 show(src o n).elim _ _=_;simp only[h];rfl
theorem WA{src:Cv}{g:DG}{t:DT}{e:D}{f n:Nat}{v v1:AY}{o:AL}{acc:List CV}{c x:CV}{r:R (AY×CO)}(h:src o n=AA (AA c))(hg:g c v o= .next v1 o)(ht:t v1 o= .ok AC o)(he:e v1 o= .ok x o)(hl:acc.length<16777216)(k:C_ src g t (CC e) f (n+1) v1 o (.list (acc++[x]))=r):C_ src g t (CC e) (f+1) n v o (.list acc)=r:=by
 show(src o n).elim _ _=_;simp only[h];show(S_ (g c v o)).elim _ _=_;rw[hg];show(t v1 o).opt.elim _ _=_;rw[ht];show(CC e v1 o (.list acc)).opt.elim _ _=_
 unfold CC
 rw[he]
 show(if acc.length<Ah then R.ok (v1,CO.list (acc++[x])) o else .no).opt.elim _ _=_
 rw[if_pos (show acc.length<Ah from hl)];exact k
theorem Cs{tls:List (Option Nat)}{a e:D}{g:DG}{t:DT}{v v':AY}{o:AL}{c:CV}{src:Cv}{N:Nat}{l:List CV}(ha:a v o= .ok c o)(hi:FX c=AD)(hs:Hp o c=AA (src,N))(k:C_ src g t (CC e) N 0 (Ej tls v) o (.list [])= .ok (v', .list l) o):CL tls (.list []) a g t (CC e) v o= .ok (.lst l) o:=by
 unfold CL;rw[ha];show(if FX c=AC then R.no else _)=_;rw[if_neg (by rw[hi];decide),hs];show(C_ src g t (CC e) N 0 (Ej tls v) o (.list [])).opt.elim _ _=_;rw[k];rfl
theorem YQ(q:List AV):(Al q==([]:T))=q.isEmpty:=by
 cases q with
 |nil=>rfl
 |cons L r=>
  refine beq_eq_false_iff_ne.mpr λe=>?_
  have:=congrArg JD e
  unfold Al AV.wire at this
  rw[J3,g_,A1,A1]at this
  exact absurd this (by show _+5+_≠0;exact HV (CI (IW _) (GE _ _)))
section
variable{t u:DT}{v:AY}{o:AL}{x y:Bool}
theorem Ad(h:t v o= .ok x o)(h':u v o= .ok y o):Ek t u v o= .ok (x&&y) o:=by
 unfold Ek;rw[h];show(if x=AC then u v o else .ok AD o)=_
 cases x with
 |true=>exact h'
 |false=>rfl
theorem JA{α:Type}{P:α->Prop}{a b:α}(h:P a)(k:P b):∀x∈[a,b],P x:=λx hx=>(Cf.mp hx).elim (λe=>e▸h) λhx=>Ca.mp hx▸k
end
noncomputable def pr(a b:Int):CV:= .tup [.int a, .int b]
noncomputable def m5(p q:Bool):CV->Bool
 | .int 0=>p
 |_=>q
noncomputable def AS.deeds1(s:AS):List CV:=(if s.q0.isEmpty=AC then []else [pr 0 0])++(if s.q1.isEmpty=AC then []else [pr 0 1])
noncomputable def AS.deeds2(s:AS):List CV:=(if(!s.q2.isEmpty&&s.h0.isNone)=AC then [pr 1 0]else [])++(if(!s.q3.isEmpty&&s.h1.isNone)=AC then [pr 1 1]else [])
noncomputable def AS.deeds3(s:AS):List CV:=if(s.h0.isSome&&s.h1.isSome)=AC then [pr 2 0]else []
noncomputable def AS.deeds(s:AS):List CV:=s.deeds1++s.deeds2++s.deeds3
theorem pt(h:Option (Int×T)){o:AL}:Nx [Jn h, .none] o= .ok (.bool h.isNone) o:=by cases h<;>rfl
theorem pg{h0 h1:Option (Int×T)}{o:AL}(h:o[6]? =AA (.list [Jn h0,Jn h1])):MH AC [.none, .obj 6] o= .ok (.bool (h0.isSome&&h1.isSome)) o:=
 Hg ((HK (X:=FV) (a:= .none) (b:=[Jn h0,Jn h1]) rfl (by show o[6]?.bind EI=_;rw[h];rfl)).trans (by cases h0<;>cases h1<;>rfl))
section
variable{s:AS}{w:CV}
theorem AZ5:bq [AA w,AA (.obj 1),AA (.obj 6),AB] s.objs= .next [AA w,AA (.obj 1),AA (.obj 6),AA (.lst (s.deeds1++s.deeds2))] s.objs:=by
 refine As (Bn (Co (c:= .tup [.int 0, .int 1]) (l:=[.int 0, .int 1]) (b:=m5 (!s.q0.isEmpty) (!s.q1.isEmpty)) (f:=λx=> .tup [.int 0,x]) (r:= .lst s.deeds1) rfl rfl rfl (λ_=>rfl) rfl rfl
   (JA (Te (Bn (Bn rfl rfl rfl) rfl rfl) (congrArg not (YQ s.q0))) (Te (Bn (Bn rfl rfl rfl) rfl rfl) (congrArg not (YQ s.q1))))
   (JA (λ_=>Tp (Cn rfl (Cn rfl rfl)) (show 2<=Ah by decide)) λ_=>Tp (Cn rfl (Cn rfl rfl)) (show 2<=Ah by decide)) (show 2<=16777216 by decide) ?_)
  (Co (c:= .tup [.int 0, .int 1]) (l:=[.int 0, .int 1]) (b:=m5 (!s.q2.isEmpty&&s.h0.isNone) (!s.q3.isEmpty&&s.h1.isNone)) (f:=λx=> .tup [.int 1,x]) (r:= .lst s.deeds2) rfl rfl rfl (λ_=>rfl) rfl rfl
   (JA ((Ad (Te (Bn (Bn rfl (Bn rfl rfl rfl) rfl) rfl rfl) (congrArg not (YQ s.q2))) (Ad (Ts (Bn (Bn rfl rfl rfl) rfl (pt s.h0))) rfl)).trans (by rw[Qa];rfl))
    ((Ad (Te (Bn (Bn rfl (Bn rfl rfl rfl) rfl) rfl rfl) (congrArg not (YQ s.q3))) (Ad (Ts (Bn (Bn rfl rfl rfl) rfl (pt s.h1))) rfl)).trans (by rw[Qa];rfl)))
   (JA (λ_=>Tp (Cn rfl (Cn rfl rfl)) (show 2<=Ah by decide)) λ_=>Tp (Cn rfl (Cn rfl rfl)) (show 2<=Ah by decide)) (show 2<=16777216 by decide) ?_)
  (Ko ?_)) rfl
 ·unfold AS.deeds1;cases s.q0.isEmpty<;>cases s.q1.isEmpty<;>rfl
 ·unfold AS.deeds2;cases (!s.q2.isEmpty&&s.h0.isNone)<;>cases (!s.q3.isEmpty&&s.h1.isNone)<;>rfl
 ·unfold AS.deeds1 AS.deeds2;cases s.q0.isEmpty<;>cases s.q1.isEmpty<;>cases (!s.q2.isEmpty&&s.h0.isNone)<;>cases (!s.q3.isEmpty&&s.h1.isNone)<;>exact of_decide_eq_true rfl
theorem AZ6:br [AA w,AA (.obj 1),AA (.obj 6),AA (.lst (s.deeds1++s.deeds2))] s.objs= .ret (.lst s.deeds) s.objs:=by
 have hl:(s.deeds1++s.deeds2).length<=1000:=by
  unfold AS.deeds1 AS.deeds2;cases s.q0.isEmpty<;>cases s.q1.isEmpty<;>cases (!s.q2.isEmpty&&s.h0.isNone)<;>cases (!s.q3.isEmpty&&s.h1.isNone)<;>exact of_decide_eq_true rfl
 refine Rt (Bn rfl (?_:_=R.ok (.lst s.deeds3) _) (Ko ?_))
 ·unfold AS.deeds3
  cases hb:s.h0.isSome&&s.h1.isSome with
  |true=>exact Dt (Te (Bn rfl rfl (pg (h0:=s.h0) (h1:=s.h1) (o:=s.objs) rfl)) hb) (Ls (Cn (Tp (Cn rfl (Cn rfl rfl)) (show 2<=Ah by decide)) rfl) (show 1<=Ah by decide))
  |false=>exact Df (Te (Bn rfl rfl (pg (h0:=s.h0) (h1:=s.h1) (o:=s.objs) rfl)) hb) (Ls rfl (show 0<=Ah by decide))
 ·have:s.deeds3.length<=1:=by unfold AS.deeds3;split;exact BL 1;exact D2 1
  exact AO (Bf (by assumption) (by assumption)) (by decide)
theorem AT6(n:Nat):C9 n s.deeds=AC:=by
 unfold AS.deeds AS.deeds1 AS.deeds2 AS.deeds3
 cases s.q0.isEmpty<;>cases s.q1.isEmpty<;>cases (!s.q2.isEmpty&&s.h0.isNone)<;>cases (!s.q3.isEmpty&&s.h1.isNone)<;>cases (s.h0.isSome&&s.h1.isSome)<;>rfl
theorem As2:W3 [.obj 7] s.objs= .ok (.lst s.deeds) s.objs:=by
 have e0:bp [AA (.obj 7),AB,AB,AB] s.objs= .next [AA (.obj 7),AA (.obj 1),AA (.obj 6),AB] s.objs:=rfl
 exact F_ rfl (Sq e0 (Sq AZ5 (Sr AZ6)):AM bp (AM bq (AM br AZ)) [AA (.obj 7),AB,AB,AB] s.objs= .ret (.lst s.deeds) s.objs) s.clo (AT6 _)
end
theorem AV.no13{L:AV}(h:L.Ok):13∉L.come:=by
 rw[<-AV.nrm_text h]
 exact rM _
theorem Bd8(L:AV)(q:List AV):Al (L::q)=L.head++[13,10,46,13,10]++Al q:=rfl
theorem BP9{L:AV}(h:L.Ok)(q:List AV):LC (Al (L::q)) [13,10,46,13,10] 1=[L.head,Al q]:=by
 simp only[YH (y:=NH) (by decide) (by decide),Bd8]
 unfold AV.head
 rw[BP3 _ _ _ _ (AV.no13 h)]
 rfl
noncomputable abbrev AV.rows(L:AV):List T:=DO 10 [] L.come
theorem BP8{L:AV}(h:L.Ok):LC L.head [13,10] (L.head.length+1)=L.rows.map Gv:=by
 rw[YH (by decide) (by decide)]
 exact BP2 L.come [] _ (AV.no13 h) (Da _)
theorem pm:∀{l:List T},l≠[]->(Gc [10] l).length+1=(l.map JD).sum+l.length
 |[],h=>absurd rfl h
 |[a],_=>by
  rw[show Gc [10] [a]=a++[]from rfl,BJ];rfl
 |a::b::r,_=>by
  have:=pm (l:=b::r) (λh=>by cases h)
  rw[An7,A1,A1,J3,MV,Du (a:=a)]
  show a.length+1+_+1=_
  exact(congrArg (·+1) (Er a.length 1 _)).trans ((congrArg (λz=>a.length+z+1) this).trans (congrArg (·+1) (Qp a.length _ _).symm))
theorem qr:∀{ls:List T} {l:T},l∈ls->l.length<=(ls.map JD).sum
 |a::r,l,h=>by
  simp only[J3,MV]
  rcases Cf.mp h with e|e
  ·subst e;exact GE _ _
  ·exact AO (qr e) (JG _ _)
theorem Ap8{l:List T}(h:(l.map JD).sum+l.length<=16777216):JoinOk (AU [10]) (l.map AU)=AC:=by
 have key:∀(l:List T) (n:Nat),(l.map AU).foldl (λacc p=>acc+p.length+(AU [10]).length) n=n+(l.map JD).sum+l.length:=by
  intro l
  induction l with
  |nil=>exactλn=>rfl
  |cons a r ih=>
   intro n
   rw[J3,Ua,ih,BY,show(AU [10]).length=1 from rfl,J3,MV,Du]
   lia
 unfold JoinOk
 rw[List.foldl_toArray,key]
 unfold Gd FI
 simp
 assumption
theorem AV.rows_len{L:AV}(h:L.Ok):(L.rows.map JD).sum+L.rows.length<=1019:=by
 have h1:=AV.come_len h
 have h2:L.rows≠[]:=by
  refine B7 (tP 10 L.come []) λa r e=>?_
  show DO 10 [] L.come≠[]
  rw[e];exactλq=>by cases q
 have h3:=pm h2
 rw[show Gc [10] L.rows=L.come from po 10 L.come []]at h3
 exact AO (BR h3.symm) (CT h1)
theorem mj:∀l:List T,H8 (l.map .str)=AA l
 |[]=>rfl
 |a::r=>by show(H8 (r.map .str)).map (a::·)=_;rw[mj r];rfl
noncomputable def oX:D:=(Cc (Aq (AJ BV (DY C1 (AF 0) (AG .none) (AG (.int 1))) (AG (.str [46])))) (DY C1 (AF 0) (AG (.int 1)) (AG .none)) (AF 0))
theorem Bb1{l:T}(hl:l.length<=10000){o:AL}:oX [AA (.str (Gv l))] o= .ok (.str l) o:=by
 have hs:∀{x:T},x.length<=10001->DY C1 (AF 0) (AG .none) (AG (.int 1)) [AA (.str x)] o= .ok (.str (x.take 1)) o:=λ{x} hx=>by
  rw[<-NT x 1];exact Hf rfl rfl rfl (N8 (p:=AB) (q:=AA 1) rfl rfl (AO hx (by decide)))
 have hd:∀{x:T},x.length<=10001->DY C1 (AF 0) (AG (.int 1)) (AG .none) [AA (.str x)] o= .ok (.str (x.drop 1)) o:=λ{x} hx=>by
  rw[<-nu x 1];exact Hf rfl rfl rfl (N8 (p:=AA 1) (q:=AB) rfl rfl (AO hx (by decide)))
 cases l with
 |nil=>exact Df (Te (Bn (hs (D2 _)) rfl rfl) rfl) rfl
 |cons c r=>
  by_cases hc:c=46
  ·subst hc
   exact Dt (Te (Bn (hs (x:=46::46::r) (CT hl)) rfl rfl) rfl) (hd (x:=46::46::r) (CT hl))
  ·have e:Gv (c::r)=c::r:=by
    exact UI hc
   rw[e]
   exact Df (Te (Bn (hs (HU hl)) rfl rfl) (by show(c==46&&AC)=AD;rw[beq_eq_false_iff_ne.mpr hc];rfl)) rfl
noncomputable def unC:CV->CV
 | .str l=> .str (gO l)
 |c=>c
theorem Bb0{v:AY}{o:AL}{L:AV}(h:L.Ok)(hv:AF 9 v o= .ok (.str L.head) o):CL [AB] (.list []) (BC TM (AF 9) (AH (AG (.str [13,10])) AP)) (AX 0) El (CC oX) v o= .ok (.lst (L.rows.map .str)) o:=by
 have hr:=AV.rows_len h
 have hw:=AV.wire_len h
 unfold AV.wire at hw
 rw[A1]at hw
 have hs:N0 [.str L.head, .str [13,10]] o= .ok (.lst ((L.rows.map Gv).map .str)) o:=by
  refine Hg ((HK (X:=BX) (Y:=BX) (a:=L.head) (b:=[13,10]) rfl rfl).trans ?_)
  unfold Ju
  rw[BP8 h]
  exact if_pos ⟨by decide,AO (LN hw) (by decide),by rw[Ay];show _<=16777216;exact AO (MW (by assumption)) (by decide)⟩
 refine Co (l:=(L.rows.map Gv).map .str) (b:=λ_=>AC) (f:=unC) (rest:=[]) (Ms hv rfl rfl hs) rfl rfl (λ_=>rfl) rfl rfl (λ_ _=>rfl) (λx hx _=>?_) (by rw[Ay,Ay];exact AO (MW hr) (by decide)) ?_
 ·obtain⟨y,hy,rfl⟩:=HS.mp hx
  obtain⟨l,hl,rfl⟩:=HS.mp hy
  refine(Bb1 (AO (qr hl) (AO (LN hr) (by decide)))).trans ?_
  show _=R.ok (CV.str (gO (Gv l))) o
  rw[uL]
 ·rw[List.filter_eq_self.mpr (λ_ _=>rfl),Hu,Hu]
  exact congrArg CV.lst (vo λl _=>congrArg CV.str (uL l))
section
variable{o:AL}{v:AY}{L:AV}
theorem WZ(h:L.Ok)(hv:AF 9 v o= .ok (.str L.head) o):N5 v o= .next (v.set 10 (AA (.str L.come))) o:=by
 have hr:=AV.rows_len h
 have hj:Xj [.str [10], .lst (L.rows.map .str)] o= .ok (.str L.come) o:=by
  refine(HK (X:=BX) (Y:=bB) (a:=[10]) (b:=L.rows) rfl (show(Cj o (CV.lst (L.rows.map .str))).bind H8=AA L.rows from mj _)).trans ?_
  rw[Ap8 (by exact AO (by assumption) (by decide)),if_pos rfl,BR9,show Gc [10] L.rows=L.come from po 10 L.come []]
 exact As (Ms rfl rfl (Cn (Bb0 h hv) rfl) hj) rfl
theorem Xp{i:Nat}{x:CV}{l:List CV}(h:o[i]? =AA (.list (x::l)))(hl:l.length<16777216):Xm [.obj i, .int 0] o= .ok x (o.set i (.list l)):=by
 refine(HK (X:=GP) (Y:=WS) (a:=(i,x::l)) (b:=()) (by show G1 (λa=>(i,a)) (o[i]?.bind EI)=_;rw[h];rfl) rfl).trans ?_
 exact if_pos hl
theorem DW{f:CV->CV->Option Bool}{x y:CV}{xs ys:List CV}(h:f x y=AA AC)(k:Ei f xs ys=AA AC):Ei f (x::xs) (y::ys)=AA AC:=by
 show(f x y).bind _=_;rw[h];show(Ei f xs ys).bind _=_;rw[k];rfl
theorem HD{n:Nat}(a:T):Bz (n+1) (.str a) (.str a)=AA AC:=congrArg AA (beq_self_eq_true a)
theorem Jg{n:Nat}(a:Int):Bz (n+1) (.int a) (.int a)=AA AC:=congrArg AA (beq_self_eq_true a)
theorem Ww(L:AV):BV [L.item,L.item] o= .ok (.bool AC) o:=by
 show(Bz 60 L.item L.item).elim R.no _=_
 have e:Bz 59 L.due L.due=AA AC:=by
  unfold AV.due Kv
  repeat' split
  ·exact DW (HD _) (DW (Jg _) (DW (HD _) rfl))
  ·exact DW (HD _) (DW (Jg _) (DW (HD _) rfl))
  all_goals exact DW (HD _) (DW (HD _) rfl)
 rw[show Bz 60 L.item L.item=AA AC from DW (HD _) (DW e rfl)]
 rfl
theorem X_(h:L.Ok){q:List AV}(hl:(Al (L::q)).length<=16777216):N0 [.str (Al (L::q)), .str [13,10,46,13,10], .int 1] o= .ok (.lst [.str L.head, .str (Al q)]) o:=by
 refine(F4 rfl).trans (.trans (b:=Ju (Al (L::q)) [13,10,46,13,10] 1 o) (by kernel_rfl) ?_)
 unfold Ju
 rw[BP9 h]
 exact if_pos ⟨by decide,hl,show 2<=Ah by decide⟩
end
noncomputable abbrev EL(K i k Ah ym xx told:Option CV):AY:=[AA (.obj 7),K,i,k,AA (.obj 6),AA (.obj 9),AA (.obj 10),AA (.obj 13),Ah,ym,xx,told,AB,AB,AB,AB,AB]
section
variable{s:AS}{L:AV}{k:Option CV}{q:List AV}{N:Nat}(hL:L.Ok)(hl:EE N (L::q))(hN:N<=1000)
include hL hl hN
theorem pU(hq:s.q0=L::q)(hs:L.snd=s.nC){b:DS}{r:RS}(kk:b (EL (AA (.int 0)) (AA (.int 0)) k (AA (.int 0)) (AA (.str L.head)) (AA (.str L.come)) (AA L.due)) (AS.objs {s with q0:=q})=r):
  AM QI (AM QJ (AM N5 (AM QK (AM QL b)))) (EL (AA (.int 0)) (AA (.int 0)) k AB AB AB AB) s.objs=r:=by
 have hw:=QY hl.ok
 have hle:=hl.le
 have hw:(Al (L::q)).length<=16777216:=AO hw (AO (DM 2041 (AO hle hN)) (by decide))
 have M2:q.length<16777216:=CI hle (AO hN (by decide))
 have hi:AW [.obj 1, .int 0] s.objs= .ok (.str (Al (L::q))) s.objs:=by rw[<-hq];rfl
 have hc:Ch (s.objs.set 1 (.list [.str (Al q), .str (Al s.q1), .str (Al s.q2), .str (Al s.q3)])):=s.clo
 have hr:=AV.read hL hc
 rw[hs]at hr
 have hp:(s.objs.set 1 (.list [.str (Al q), .str (Al s.q1), .str (Al s.q2), .str (Al s.q3)]))[2]? =AA (.list (L.item::q.map AV.item)):=by show AA (CO.list (s.q0.map AV.item))=_;rw[hq];rfl
 exact Sq (v':=EL (AA (.int 0)) (AA (.int 0)) k (AA (.int 0)) AB AB AB) (o':=s.objs) (As (Bn (Bn rfl rfl rfl) rfl rfl) rfl) (Sq (v':=EL (AA (.int 0)) (AA (.int 0)) k (AA (.int 0)) (AA (.str L.head)) AB AB) (o':=(s.objs.set 1 (.list [.str (Al q), .str (Al s.q1), .str (Al s.q2), .str (Al s.q3)]))) (Ag (Ms (Bn (Bn rfl rfl rfl) rfl hi) rfl (Cn rfl (Cn rfl rfl)) (X_ hL hw)) rfl)
  (Sq (WZ hL rfl) (Sq (As (Cl (Cn rfl (Cn (Bn (Bn rfl rfl rfl) (Dt (Te (Bn rfl rfl rfl) rfl) rfl) rfl) rfl)) hr) rfl)
  (Sq (Au rfl rfl rfl (Dt (Te (Bn (Tp (cs:=[.str L.come,L.due]) (Cn rfl (Cn rfl rfl)) (show 2<=Ah by decide)) (Ms (Bn (Bn rfl rfl rfl) rfl rfl) rfl (Cn rfl rfl) (Xp hp (by rw[Ay];exact M2))) (Ww L)) rfl) rfl) rfl rfl) kk))))
theorem pV(hq:s.q1=L::q)(hs:L.snd=s.nC){b:DS}{r:RS}(kk:b (EL (AA (.int 0)) (AA (.int 1)) k (AA (.int 1)) (AA (.str L.head)) (AA (.str L.come)) (AA L.due)) (AS.objs {s with q1:=q})=r):
  AM QI (AM QJ (AM N5 (AM QK (AM QL b)))) (EL (AA (.int 0)) (AA (.int 1)) k AB AB AB AB) s.objs=r:=by
 have hw:=QY hl.ok
 have hle:=hl.le
 have hw:(Al (L::q)).length<=16777216:=AO hw (AO (DM 2041 (AO hle hN)) (by decide))
 have M2:q.length<16777216:=CI hle (AO hN (by decide))
 have hi:AW [.obj 1, .int 1] s.objs= .ok (.str (Al (L::q))) s.objs:=by rw[<-hq];rfl
 have hc:Ch (s.objs.set 1 (.list [.str (Al s.q0), .str (Al q), .str (Al s.q2), .str (Al s.q3)])):=s.clo
 have hr:=AV.read hL hc
 rw[hs]at hr
 have hp:(s.objs.set 1 (.list [.str (Al s.q0), .str (Al q), .str (Al s.q2), .str (Al s.q3)]))[3]? =AA (.list (L.item::q.map AV.item)):=by show AA (CO.list (s.q1.map AV.item))=_;rw[hq];rfl
 exact Sq (v':=EL (AA (.int 0)) (AA (.int 1)) k (AA (.int 1)) AB AB AB) (o':=s.objs) (As (Bn (Bn rfl rfl rfl) rfl rfl) rfl) (Sq (v':=EL (AA (.int 0)) (AA (.int 1)) k (AA (.int 1)) (AA (.str L.head)) AB AB) (o':=(s.objs.set 1 (.list [.str (Al s.q0), .str (Al q), .str (Al s.q2), .str (Al s.q3)]))) (Ag (Ms (Bn (Bn rfl rfl rfl) rfl hi) rfl (Cn rfl (Cn rfl rfl)) (X_ hL hw)) rfl)
  (Sq (WZ hL rfl) (Sq (As (Cl (Cn rfl (Cn (Bn (Bn rfl rfl rfl) (Dt (Te (Bn rfl rfl rfl) rfl) rfl) rfl) rfl)) hr) rfl)
  (Sq (Au rfl rfl rfl (Dt (Te (Bn (Tp (cs:=[.str L.come,L.due]) (Cn rfl (Cn rfl rfl)) (show 2<=Ah by decide)) (Ms (Bn (Bn rfl rfl rfl) rfl rfl) rfl (Cn rfl rfl) (Xp hp (by rw[Ay];exact M2))) (Ww L)) rfl) rfl) rfl rfl) kk))))
theorem pW(hq:s.q2=L::q)(hs:L.snd=s.nA){b:DS}{r:RS}(kk:b (EL (AA (.int 1)) (AA (.int 0)) k (AA (.int 2)) (AA (.str L.head)) (AA (.str L.come)) (AA L.due)) (AS.objs {s with q2:=q})=r):
  AM QI (AM QJ (AM N5 (AM QK (AM QL b)))) (EL (AA (.int 1)) (AA (.int 0)) k AB AB AB AB) s.objs=r:=by
 have hw:=QY hl.ok
 have hle:=hl.le
 have hw:(Al (L::q)).length<=16777216:=AO hw (AO (DM 2041 (AO hle hN)) (by decide))
 have M2:q.length<16777216:=CI hle (AO hN (by decide))
 have hi:AW [.obj 1, .int 2] s.objs= .ok (.str (Al (L::q))) s.objs:=by rw[<-hq];rfl
 have hc:Ch (s.objs.set 1 (.list [.str (Al s.q0), .str (Al s.q1), .str (Al q), .str (Al s.q3)])):=s.clo
 have hr:=AV.read hL hc
 rw[hs]at hr
 have hp:(s.objs.set 1 (.list [.str (Al s.q0), .str (Al s.q1), .str (Al q), .str (Al s.q3)]))[4]? =AA (.list (L.item::q.map AV.item)):=by show AA (CO.list (s.q2.map AV.item))=_;rw[hq];rfl
 exact Sq (v':=EL (AA (.int 1)) (AA (.int 0)) k (AA (.int 2)) AB AB AB) (o':=s.objs) (As (Bn (Bn rfl rfl rfl) rfl rfl) rfl) (Sq (v':=EL (AA (.int 1)) (AA (.int 0)) k (AA (.int 2)) (AA (.str L.head)) AB AB) (o':=(s.objs.set 1 (.list [.str (Al s.q0), .str (Al s.q1), .str (Al q), .str (Al s.q3)]))) (Ag (Ms (Bn (Bn rfl rfl rfl) rfl hi) rfl (Cn rfl (Cn rfl rfl)) (X_ hL hw)) rfl)
  (Sq (WZ hL rfl) (Sq (As (Cl (Cn rfl (Cn (Bn (Bn rfl rfl rfl) (Df (Te (Bn rfl rfl rfl) rfl) rfl) rfl) rfl)) hr) rfl)
  (Sq (Au rfl rfl rfl (Dt (Te (Bn (Tp (cs:=[.str L.come,L.due]) (Cn rfl (Cn rfl rfl)) (show 2<=Ah by decide)) (Ms (Bn (Bn rfl rfl rfl) rfl rfl) rfl (Cn rfl rfl) (Xp hp (by rw[Ay];exact M2))) (Ww L)) rfl) rfl) rfl rfl) kk))))
theorem pX(hq:s.q3=L::q)(hs:L.snd=s.nB){b:DS}{r:RS}(kk:b (EL (AA (.int 1)) (AA (.int 1)) k (AA (.int 3)) (AA (.str L.head)) (AA (.str L.come)) (AA L.due)) (AS.objs {s with q3:=q})=r):
  AM QI (AM QJ (AM N5 (AM QK (AM QL b)))) (EL (AA (.int 1)) (AA (.int 1)) k AB AB AB AB) s.objs=r:=by
 have hw:=QY hl.ok
 have hle:=hl.le
 have hw:(Al (L::q)).length<=16777216:=AO hw (AO (DM 2041 (AO hle hN)) (by decide))
 have M2:q.length<16777216:=CI hle (AO hN (by decide))
 have hi:AW [.obj 1, .int 3] s.objs= .ok (.str (Al (L::q))) s.objs:=by rw[<-hq];rfl
 have hc:Ch (s.objs.set 1 (.list [.str (Al s.q0), .str (Al s.q1), .str (Al s.q2), .str (Al q)])):=s.clo
 have hr:=AV.read hL hc
 rw[hs]at hr
 have hp:(s.objs.set 1 (.list [.str (Al s.q0), .str (Al s.q1), .str (Al s.q2), .str (Al q)]))[5]? =AA (.list (L.item::q.map AV.item)):=by show AA (CO.list (s.q3.map AV.item))=_;rw[hq];rfl
 exact Sq (v':=EL (AA (.int 1)) (AA (.int 1)) k (AA (.int 3)) AB AB AB) (o':=s.objs) (As (Bn (Bn rfl rfl rfl) rfl rfl) rfl) (Sq (v':=EL (AA (.int 1)) (AA (.int 1)) k (AA (.int 3)) (AA (.str L.head)) AB AB) (o':=(s.objs.set 1 (.list [.str (Al s.q0), .str (Al s.q1), .str (Al s.q2), .str (Al q)]))) (Ag (Ms (Bn (Bn rfl rfl rfl) rfl hi) rfl (Cn rfl (Cn rfl rfl)) (X_ hL hw)) rfl)
  (Sq (WZ hL rfl) (Sq (As (Cl (Cn rfl (Cn (Bn (Bn rfl rfl rfl) (Df (Te (Bn rfl rfl rfl) rfl) rfl) rfl) rfl)) hr) rfl)
  (Sq (Au rfl rfl rfl (Dt (Te (Bn (Tp (cs:=[.str L.come,L.due]) (Cn rfl (Cn rfl rfl)) (show 2<=Ah by decide)) (Ms (Bn (Bn rfl rfl rfl) rfl rfl) rfl (Cn rfl rfl) (Xp hp (by rw[Ay];exact M2))) (Ww L)) rfl) rfl) rfl rfl) kk))))
end
noncomputable def AV.good(L:AV):Bool:=decide (L.kind<9)
section
variable{t u:DT}{v:AY}{o:AL}{L:AV}{K z:Int}
theorem lx(h:t v o= .ok AD o):Ek t u v o= .ok AD o:=by unfold Ek;rw[h];rfl
theorem Sw(h:L.good=AC):L.due= .tup [.str L.snd, .int L.n, .str L.w]:=if_pos (of_decide_eq_true h)
theorem Aa6(h:¬L.kind<9)(h':¬L.kind=9):∃a b,L.due= .tup [.str a, .str b]:=by
 unfold AV.due Kv
 rw[if_neg h,if_neg h']
 repeat' split
 all_goals exact⟨_,_,rfl⟩
noncomputable def tst(z:Int):DT:=(Ek (Aq (AJ BV (A_ Ho (AH (AF 11) AP)) (AG (.int 3)))) (Ek (Aq (AJ Dq (AJ AW (AF 11) (AG (.int 2))) (AG (.str [])))) (Ek (Aq (AJ BV (AF 1) (AG (.int z)))) NX)))
theorem GZ(hw:L.w≠[])(Lg:AF 11 v o= .ok L.due o)(h1:AF 1 v o= .ok (.int K) o){b:Bool}(hb:(L.good&&K==z)=b):tst z v o= .ok b o:=by
 subst hb
 by_cases c1:L.kind<9
 ·have g:L.good=AC:=decide_eq_true c1
  rw[Sw g]at Lg
  rw[g]
  exact(Ad (Te (Bn (Cl (Cn Lg rfl) rfl) rfl rfl) rfl) (Ad (Te (Bn (Bn Lg rfl rfl) rfl rfl) (congrArg not (beq_eq_false_iff_ne.mpr hw))) (Ad (Te (Bn h1 rfl rfl) rfl) rfl))).trans (congrArg (λb=>R.ok b o) (Qa _))
 ·have g:L.good=AD:=decide_eq_false c1
  rw[g]
  show _=R.ok AD o
  by_cases c2:L.kind=9
  ·rw[show L.due= .tup [.str L.snd, .int L.n, .str []]from(if_neg c1).trans (if_pos c2)]at Lg
   exact(Ad (x:=AC) (y:=AD) (Te (Bn (Cl (Cn Lg rfl) rfl) rfl rfl) rfl) (lx (Te (Bn (Bn Lg rfl rfl) rfl rfl) rfl)))
  ·refine B7 (Aa6 c1 c2) λa b e=>?_
   rw[e]at Lg
   exact lx (Te (Bn (Cl (Cn Lg rfl) rfl) rfl rfl) rfl)
end
theorem XR{a b:Int}{o:AL}(h:(B1 a||B1 b)=AC):FD [.int a, .int b] o= .ok (.int (a*b)) o:=Hg (if_pos h)
theorem L9{s s':AS}{K i:Int}{k:CV}{v':AY}(hK:decide (K<2)=AC)(h:AM QI (AM QJ (AM N5 (AM QK (AM QL (AM sw (AM sy AZ)))))) (EL (AA (.int K)) (AA (.int i)) (AA k) AB AB AB AB) s.objs= .next v' s'.objs):
  Hl [.obj 7, .int K, .int i,k] s.objs= .ok .none s'.objs:=by
 unfold Hl CM
 refine(if_pos rfl).trans ?_
 exact(congrArg (Gn 14) (Sq (v':=EL (AA (.int K)) (AA (.int i)) (AA k) AB AB AB AB) rfl (Sq (It (Te (Bn rfl rfl rfl) hK) h) rfl):Ss (Fg (Aw 330 N6) ([.obj 7, .int K, .int i,k]++[])) s.objs= .next v' s'.objs)).trans (fin_same s'.clo rfl)
noncomputable def Bk.add(b:Bk)(n m:Int)(w:T):Bk:=⟨1+b.a,2+b.b,n+b.c,m+b.d,(Cb b.ks b.vs w).1,(Cb b.ks b.vs w).2⟩
structure Bk.Ok(b:Bk):Prop where
 nd:b.ks.Nodup
 len:b.ks.length=b.vs.length
 sh:b.vs.length<=900
section
variable{s:AS}{L:AV}{k:Nat}{q:List AV}{N:Nat}(hL:L.Ok)(hl:EE N (L::q))(hN:N<=1000)
include hL hl hN
theorem AZ3(hq:s.q2=L::q)(hs:L.snd=s.nA):Hl [.obj 7, .int 1, .int 0, .int k] s.objs= .ok .none (if L.good=AC then{s with q2:=q,h0:=AA (L.n,L.w)}else{s with q2:=q}:AS).objs:=by
 cases hg:L.good with
 |false=>exact L9 rfl (pW hL hl hN hq hs (Sq (If (GZ (z:=1) hL.word.ne rfl rfl (by rw[hg];rfl)) rfl) (Sq (If (GZ (z:=0) hL.word.ne rfl rfl (by rw[hg];rfl)) rfl) rfl)))
 |true=>
  refine L9 (s':={s with q2:=q,h0:=AA (L.n,L.w)}) rfl (pW hL hl hN hq hs (Sq (v':=EL (AA (.int 1)) (AA (.int 0)) (AA (.int k)) (AA (.int 2)) (AA (.str L.head)) (AA (.str L.come)) (AA L.due)) (o':=AS.objs {s with q2:=q,h0:=AA (L.n,L.w)}) (It (GZ (z:=1) hL.word.ne rfl rfl (by rw[hg];rfl)) ?_) (Sq (If (GZ (K:=1) (z:=0) hL.word.ne rfl rfl (by rw[hg];rfl)) rfl) rfl)))
  rw[Sw hg]
  exact Sq (Kk (Tp (Cn (Bn rfl rfl rfl) (Cn (Bn rfl rfl rfl) (Cn rfl rfl))) (show 3<=Ah by decide)) rfl rfl rfl) rfl
theorem AZ4(hq:s.q3=L::q)(hs:L.snd=s.nB):Hl [.obj 7, .int 1, .int 1, .int k] s.objs= .ok .none (if L.good=AC then{s with q3:=q,h1:=AA (L.n,L.w)}else{s with q3:=q}:AS).objs:=by
 cases hg:L.good with
 |false=>exact L9 rfl (pX hL hl hN hq hs (Sq (If (GZ (z:=1) hL.word.ne rfl rfl (by rw[hg];rfl)) rfl) (Sq (If (GZ (z:=0) hL.word.ne rfl rfl (by rw[hg];rfl)) rfl) rfl)))
 |true=>
  refine L9 (s':={s with q3:=q,h1:=AA (L.n,L.w)}) rfl (pX hL hl hN hq hs (Sq (v':=EL (AA (.int 1)) (AA (.int 1)) (AA (.int k)) (AA (.int 3)) (AA (.str L.head)) (AA (.str L.come)) (AA L.due)) (o':=AS.objs {s with q3:=q,h1:=AA (L.n,L.w)}) (It (GZ (z:=1) hL.word.ne rfl rfl (by rw[hg];rfl)) ?_) (Sq (If (GZ (K:=1) (z:=0) hL.word.ne rfl rfl (by rw[hg];rfl)) rfl) rfl)))
  rw[Sw hg]
  exact Sq (Kk (Tp (Cn (Bn rfl rfl rfl) (Cn (Bn rfl rfl rfl) (Cn rfl rfl))) (show 3<=Ah by decide)) rfl rfl rfl) rfl
noncomputable def AS.tell0(s:AS)(n:Int)(w:T):AS:={s with m0:=s.m0+1,b0:=s.b0.add n (n*s.f0) w}
theorem AZ1(hq:s.q0=L::q)(hs:L.snd=s.nC)(CZ:Gj 900 s)(hb:s.b0.Ok)(hf:B1 s.f0=AC)(hn:L.good=AC->FS (L.n*s.f0)/\HA (L.w++[34])):
  Hl [.obj 7, .int 0, .int 0, .int k] s.objs= .ok .none (if L.good=AC then(AS.tell0 {s with q0:=q} L.n L.w).pushes .t2 (Dz s k 0 (L.n*s.f0) (L.w++[34]))else{s with q0:=q}:AS).objs:=by
 cases hg:L.good with
 |false=>exact L9 rfl (pU hL hl hN hq hs (Sq (If (GZ (z:=1) hL.word.ne rfl rfl (by rw[hg];rfl)) rfl) (Sq (If (GZ (z:=0) hL.word.ne rfl rfl (by rw[hg];rfl)) rfl) rfl)))
 |true=>
  have hm:=λo=>XR (o:=o) (a:=L.n) (b:=s.f0) (by rw[hf];exact u0 _)
  have ha:=mM (AS.clo {s with q0:=q,m0:=s.m0+1}) (x:=L.w) hb.nd hb.len hb.sh (a:=s.b0.a) (b:=s.b0.b) (c:=s.b0.c) (d:=s.b0.d) (a':=1) (b':=2) (c':=L.n) (d':=L.n*s.f0)
  have hp:=XI (s:=AS.tell0 {s with q0:=q} L.n L.w) (N:=900) ⟨⟨λL h=>CZ.q0.ok L (hq▸Ef _ h),AO (Da _) (show(L::q).length<=900 from hq▸CZ.q0.le)⟩,CZ.q1,CZ.q2,CZ.q3⟩ (BL _) (t:= .t2) (k:=k) (who:=0) (hn hg).1 (hn hg).2 (by decide)
  have hw:L.w.length+1<=16777216:=by have:=hL.word.len;exact Bg (by assumption) (by decide)
  refine L9 (v':=(EL (AA (.int 0)) (AA (.int 0)) (AA (.int k)) (AA (.int 0)) (AA (.str L.head)) (AA (.str L.come)) (AA (.tup [.str L.snd, .int L.n, .str L.w]))).set 12 (AA (.int (L.n*s.f0)))) (s':=(AS.tell0 {s with q0:=q} L.n L.w).pushes .t2 (Dz s k 0 (L.n*s.f0) (L.w++[34]))) rfl (pU hL hl hN hq hs (Sq (If (GZ (z:=1) hL.word.ne rfl rfl (by rw[hg];rfl)) rfl) (Sq (It (GZ (z:=0) hL.word.ne rfl rfl (by rw[hg];rfl)) ?_) rfl)))
  simp only[Sw hg]
  exact Sq (As (Bn (Bn rfl rfl rfl) (Bn (Bn rfl rfl rfl) rfl rfl) (hm _)) rfl) (Sq (o':=AS.objs {s with q0:=q,m0:=s.m0+1}) (Au rfl rfl rfl rfl rfl rfl)
   (Sq (o':=(AS.tell0 {s with q0:=q} L.n L.w).objs) (Kk (Cl (Cn rfl (Cn (Tp (Cn rfl (Cn rfl (Cn (Bn rfl rfl rfl) (Cn rfl (Cn rfl rfl))))) (show 5<=Ah by decide)) rfl)) ha) rfl rfl rfl)
   (Sq (Ex (Cl (Cn rfl (Cn (Ls (Cn rfl rfl) (show 1<=Ah by decide)) (Cn rfl (Cn rfl (Cn rfl (Cn (Bn (Bn rfl rfl rfl) (Bn rfl rfl rfl) (F3 hw)) rfl)))))) hp)) rfl)))
noncomputable def AS.tell1(s:AS)(n:Int)(w:T):AS:={s with m1:=s.m1+1,b1:=s.b1.add n (n*s.f1) w}
theorem AZ2(hq:s.q1=L::q)(hs:L.snd=s.nC)(CZ:Gj 900 s)(hb:s.b1.Ok)(hf:B1 s.f1=AC)(hn:L.good=AC->FS (L.n*s.f1)/\HA (L.w++[46])):
  Hl [.obj 7, .int 0, .int 1, .int k] s.objs= .ok .none (if L.good=AC then(AS.tell1 {s with q1:=q} L.n L.w).pushes .t3 (Dz s k 1 (L.n*s.f1) (L.w++[46]))else{s with q1:=q}:AS).objs:=by
 cases hg:L.good with
 |false=>exact L9 rfl (pV hL hl hN hq hs (Sq (If (GZ (z:=1) hL.word.ne rfl rfl (by rw[hg];rfl)) rfl) (Sq (If (GZ (z:=0) hL.word.ne rfl rfl (by rw[hg];rfl)) rfl) rfl)))
 |true=>
  have hm:=λo=>XR (o:=o) (a:=L.n) (b:=s.f1) (by rw[hf];exact u0 _)
  have ha:=mM (AS.clo {s with q1:=q,m1:=s.m1+1}) (x:=L.w) hb.nd hb.len hb.sh (a:=s.b1.a) (b:=s.b1.b) (c:=s.b1.c) (d:=s.b1.d) (a':=1) (b':=2) (c':=L.n) (d':=L.n*s.f1)
  have hp:=XI (s:=AS.tell1 {s with q1:=q} L.n L.w) (N:=900) ⟨CZ.q0,⟨λL h=>CZ.q1.ok L (hq▸Ef _ h),AO (Da _) (show(L::q).length<=900 from hq▸CZ.q1.le)⟩,CZ.q2,CZ.q3⟩ (BL _) (t:= .t3) (k:=k) (who:=1) (hn hg).1 (hn hg).2 (by decide)
  have hw:L.w.length+1<=16777216:=by have:=hL.word.len;exact Bg (by assumption) (by decide)
  refine L9 (v':=(EL (AA (.int 0)) (AA (.int 1)) (AA (.int k)) (AA (.int 1)) (AA (.str L.head)) (AA (.str L.come)) (AA (.tup [.str L.snd, .int L.n, .str L.w]))).set 12 (AA (.int (L.n*s.f1)))) (s':=(AS.tell1 {s with q1:=q} L.n L.w).pushes .t3 (Dz s k 1 (L.n*s.f1) (L.w++[46]))) rfl (pV hL hl hN hq hs (Sq (If (GZ (z:=1) hL.word.ne rfl rfl (by rw[hg];rfl)) rfl) (Sq (It (GZ (z:=0) hL.word.ne rfl rfl (by rw[hg];rfl)) ?_) rfl)))
  simp only[Sw hg]
  exact Sq (As (Bn (Bn rfl rfl rfl) (Bn (Bn rfl rfl rfl) rfl rfl) (hm _)) rfl) (Sq (o':=AS.objs {s with q1:=q,m1:=s.m1+1}) (Au rfl rfl rfl rfl rfl rfl)
   (Sq (o':=(AS.tell1 {s with q1:=q} L.n L.w).objs) (Kk (Cl (Cn rfl (Cn (Tp (Cn rfl (Cn rfl (Cn (Bn rfl rfl rfl) (Cn rfl (Cn rfl rfl))))) (show 5<=Ah by decide)) rfl)) ha) rfl rfl rfl)
   (Sq (Ex (Cl (Cn rfl (Cn (Ls (Cn rfl rfl) (show 1<=Ah by decide)) (Cn rfl (Cn rfl (Cn rfl (Cn (Bn (Bn rfl rfl rfl) (Bn rfl rfl rfl) (F3 hw)) rfl)))))) hp)) rfl)))
end
theorem p5:Az (-1)=[45,49]:=by decide+kernel
theorem pz:Az 1=[49]:=by decide+kernel
theorem Ap6:Az 0=[48]:=by decide+kernel
theorem AT8(sgn n:Int)(w:T):F7 sgn n w n w=0:=by
 unfold F7
 rw[if_neg (u5 n),if_neg (u5 n),show LF w w=AD from decide_eq_false (List.lt_irrefl w)];rfl
noncomputable def C0(k:Nat)(n:Int):T:=(if k % 2=0 then 110 else 78)::Az n
structure WG(x:T):Prop where
 len:x.length<=1000
 ll:(BD x).length<=1000
 lc:(BD x).any EW=AD
 nc:x.any EW=AD
theorem AS.tab(s:AS)(h:s.rows.length<=1000)(hn:∀p∈s.rows,p.1.length<=1000):Gk s.objs 9 8 s.rows:=⟨s.clo,rfl,rfl,h,hn⟩
theorem TL{nm:AQ}{C:AK}{fn:AQ}{o:AL}{i:Nat}{x:Option CV}(h:o[i]? =AA (.inst C fn x))(hn:fn≠nm):Cz C nm o (.obj i)=AC:=by
 unfold Cz;rw[show Mine.Sc o (CV.obj i)=AA (i,C,fn,x) by show G1 _ (o[i]?.bind Xc)=_;rw[h];rfl];exact decide_eq_true ⟨rfl,hn⟩
theorem An3{nm:AQ}{f:AE}{g:PG}{C:AK}{fn:AQ}{o:AL}{i:Nat}{x:Option CV}(h:o[i]? =AA (.inst C fn x))(hn:fn≠nm):[(⟨Cz C nm,f,g⟩:Me)].find? (λy=>y.is o (.obj i))=AA ⟨Cz C nm,f,g⟩:=
 MT (p:=λy:Me=>y.is o (.obj i)) (a:=⟨Cz C nm,f,g⟩) (TL h hn)
theorem YE{n:Int}{o:AL}(h:B1 n=AC):HM [.int n] o= .ok (.str (Az n)) o:=Hg (if_pos h)
noncomputable abbrev B6(k told AA2 word z9 name:Option CV):AY:=[AA (.obj 7),AA (.int 2),AA (.int 0),k,AA (.obj 6),AA (.obj 9),AA (.obj 10),AA (.obj 13),AB,AB,AB,told,AB,AA2,word,z9,name]
noncomputable def Aa7:D:=(A_ HM (AH (BC qh (AF 2) (AH (AJ AW (AF 3) (AF 0)) (AH (AJ AW (AF 3) (AF 1)) AP))) AP))
section
variable{s:AS}
theorem bU{a b:Nat}{n0 n1:Int}{w0 w1:T}(ha:AW [.obj 6, .int a] s.objs= .ok (K3 n0 w0) s.objs)(hb:AW [.obj 6, .int b] s.objs= .ok (K3 n1 w1) s.objs){z:Int}(e:F7 s.sgn n0 w0 n1 w1=z)(hz:B1 z=AC){t:T}(hs:Az z=t):
  Aa7 [AA (.int a),AA (.int b),AA (.obj 13),AA (.obj 6)] s.objs= .ok (.str t) s.objs:=by
 subst hs e
 exact Cl (Cn (Ms rfl (An3 (o:=s.objs) (i:=13) rfl (by decide)) (Cn (Bn rfl rfl ha) (Cn (Bn rfl rfl hb) rfl)) (AV0 s.clo (up:=s.up) rfl)) rfl) (YE hz)
theorem uP{k KA jW c15 jX:Option CV}{n0 n1:Int}{w0 w1:T}(ha:AW [.obj 6, .int (0:Nat)] s.objs= .ok (K3 n0 w0) s.objs)(hb:AW [.obj 6, .int (1:Nat)] s.objs= .ok (K3 n1 w1) s.objs){z z':Int}(e:F7 s.sgn n0 w0 n1 w1=z)(e':F7 s.sgn n1 w1 n0 w0=z')(hz:B1 z=AC)(Vl:B1 z'=AC){t t':T}(hs:Az z=t)(Lp:Az z'=t'):
  N3 (B6 k AB KA jW c15 jX) s.objs= .next (B6 k (AA (.lst [.str t, .str t', .str [48]])) KA jW c15 jX) s.objs:=
 As (Cs (c:= .tup [pr 0 1,pr 1 0,pr 0 0]) (by kernel_rfl) rfl rfl (WA (v1:=[AA (.int (0:Nat)),AA (.int (1:Nat)),AA (.obj 13),AA (.obj 6)]) rfl rfl rfl (bU ha hb e hz hs) (show 0<16777216 by decide) (WA (v1:=[AA (.int (1:Nat)),AA (.int (0:Nat)),AA (.obj 13),AA (.obj 6)]) rfl rfl rfl (bU hb ha e' Vl Lp) (show 1<16777216 by decide) (WA (v1:=[AA (.int (0:Nat)),AA (.int (0:Nat)),AA (.obj 13),AA (.obj 6)]) rfl rfl rfl (bU ha ha (AT8 _ _ _) rfl Ap6) (show 2<16777216 by decide) (aX rfl))))) rfl
end
theorem XV(s:AS):Ff (.obj 7) (.str [119,114,111,110,103]) (.int 0) s.objs= .ok () s.objs:=by kernel_rfl
theorem Bb5{s:AS}{k:Option CV}{n0 n1:Int}{w0 w1:T}{b:DS}{r:RS}(e:F7 s.sgn n0 w0 n1 w1= -1)(e':F7 s.sgn n1 w1 n0 w0=1)(kk:b (B6 k (AA (.lst [.str [45,49], .str [49], .str [48]])) (AA (.int n0)) (AA (.str w0)) (AA (.int (-n0))) AB) (AS.objs {s with h0:=AB,h1:=AA (n1,w1)})=r):
  AM N3 (AM QF (AM QG (AM QH b))) (B6 k AB AB AB AB AB) (AS.objs {s with h0:=AA (n0,w0),h1:=AA (n1,w1)})=r:=by
 have Gh:IJ [.lst [.str [45,49], .str [49], .str [48]], .tup [.lst [.str [45,49], .str [49], .str [48]], .lst [.str [49], .str [45,49], .str [48]]]] (AS.objs {s with h0:=AA (n0,w0),h1:=AA (n1,w1)})= .ok (.bool AC) (AS.objs {s with h0:=AA (n0,w0),h1:=AA (n1,w1)}):=by kernel_rfl
 have B':Ff (.obj 6) (.int 0) .none (AS.objs {s with h0:=AA (n0,w0),h1:=AA (n1,w1)})= .ok () (AS.objs {s with h0:=AB,h1:=AA (n1,w1)}):=by kernel_rfl
 have hi:Cc (Aq (AJ BV (AJ AW (AF 11) (AG (.int 0))) (AG (.str [45,49])))) (AG (.int 0)) (AG (.int 1)) (B6 k (AA (.lst [.str [45,49], .str [49], .str [48]])) AB AB AB AB) (AS.objs {s with h0:=AA (n0,w0),h1:=AA (n1,w1)})= .ok (.int 0) (AS.objs {s with h0:=AA (n0,w0),h1:=AA (n1,w1)}):=Dt (Te (Bn (Bn rfl rfl rfl) rfl rfl) rfl) rfl
 have hj:Cc (Aq (AJ BV (AJ AW (AF 11) (AG (.int 0))) (AG (.str [45,49])))) (AG (.int 0)) (AG (.int 1)) (B6 k (AA (.lst [.str [45,49], .str [49], .str [48]])) (AA (.int n0)) (AA (.str w0)) (AA (.int (-n0))) AB) (AS.objs {s with h0:=AA (n0,w0),h1:=AA (n1,w1)})= .ok (.int 0) (AS.objs {s with h0:=AA (n0,w0),h1:=AA (n1,w1)}):=Dt (Te (Bn (Bn rfl rfl rfl) rfl rfl) rfl) rfl
 have e1:N3 (B6 k AB AB AB AB AB) (AS.objs {s with h0:=AA (n0,w0),h1:=AA (n1,w1)})= .next (B6 k (AA (.lst [.str [45,49], .str [49], .str [48]])) AB AB AB AB) (AS.objs {s with h0:=AA (n0,w0),h1:=AA (n1,w1)}):=uP (s:={s with h0:=AA (n0,w0),h1:=AA (n1,w1)}) rfl rfl e e' rfl rfl p5 pz
 have et:A2 (AH (BU (AH (AG (.str [45,49])) (AH (AG (.str [49])) (AH (AG (.str [48])) AP)))) (AH (BU (AH (AG (.str [49])) (AH (AG (.str [45,49])) (AH (AG (.str [48])) AP)))) AP)) (B6 k (AA (.lst [.str [45,49], .str [49], .str [48]])) AB AB AB AB) (AS.objs {s with h0:=AA (n0,w0),h1:=AA (n1,w1)})= .ok (.tup [.lst [.str [45,49], .str [49], .str [48]], .lst [.str [49], .str [45,49], .str [48]]]) (AS.objs {s with h0:=AA (n0,w0),h1:=AA (n1,w1)}):=by kernel_rfl
 have e2:QF (B6 k (AA (.lst [.str [45,49], .str [49], .str [48]])) AB AB AB AB) (AS.objs {s with h0:=AA (n0,w0),h1:=AA (n1,w1)})= .next (B6 k (AA (.lst [.str [45,49], .str [49], .str [48]])) AB AB AB AB) (AS.objs {s with h0:=AA (n0,w0),h1:=AA (n1,w1)}):=Au rfl rfl rfl (Dt (Te (Bn rfl et Gh) rfl) rfl) rfl (XV {s with h0:=AA (n0,w0),h1:=AA (n1,w1)})
 have e3:QG (B6 k (AA (.lst [.str [45,49], .str [49], .str [48]])) AB AB AB AB) (AS.objs {s with h0:=AA (n0,w0),h1:=AA (n1,w1)})= .next (B6 k (AA (.lst [.str [45,49], .str [49], .str [48]])) (AA (.int n0)) (AA (.str w0)) (AA (.int (-n0))) AB) (AS.objs {s with h0:=AA (n0,w0),h1:=AA (n1,w1)}):=Ag (Bn rfl hi rfl) rfl
 have e4:QH (B6 k (AA (.lst [.str [45,49], .str [49], .str [48]])) (AA (.int n0)) (AA (.str w0)) (AA (.int (-n0))) AB) (AS.objs {s with h0:=AA (n0,w0),h1:=AA (n1,w1)})= .next (B6 k (AA (.lst [.str [45,49], .str [49], .str [48]])) (AA (.int n0)) (AA (.str w0)) (AA (.int (-n0))) AB) (AS.objs {s with h0:=AB,h1:=AA (n1,w1)}):=Kk rfl rfl hj B'
 exact Sq e1 (Sq e2 (Sq e3 (Sq e4 kk)))
theorem Bb6{s:AS}{k:Option CV}{n0 n1:Int}{w0 w1:T}{b:DS}{r:RS}(e:F7 s.sgn n0 w0 n1 w1=1)(e':F7 s.sgn n1 w1 n0 w0= -1)(kk:b (B6 k (AA (.lst [.str [49], .str [45,49], .str [48]])) (AA (.int n1)) (AA (.str w1)) (AA (.int (-n1))) AB) (AS.objs {s with h0:=AA (n0,w0),h1:=AB})=r):
  AM N3 (AM QF (AM QG (AM QH b))) (B6 k AB AB AB AB AB) (AS.objs {s with h0:=AA (n0,w0),h1:=AA (n1,w1)})=r:=by
 have Gh:IJ [.lst [.str [49], .str [45,49], .str [48]], .tup [.lst [.str [45,49], .str [49], .str [48]], .lst [.str [49], .str [45,49], .str [48]]]] (AS.objs {s with h0:=AA (n0,w0),h1:=AA (n1,w1)})= .ok (.bool AC) (AS.objs {s with h0:=AA (n0,w0),h1:=AA (n1,w1)}):=by kernel_rfl
 have B':Ff (.obj 6) (.int 1) .none (AS.objs {s with h0:=AA (n0,w0),h1:=AA (n1,w1)})= .ok () (AS.objs {s with h0:=AA (n0,w0),h1:=AB}):=by kernel_rfl
 have hi:Cc (Aq (AJ BV (AJ AW (AF 11) (AG (.int 0))) (AG (.str [45,49])))) (AG (.int 0)) (AG (.int 1)) (B6 k (AA (.lst [.str [49], .str [45,49], .str [48]])) AB AB AB AB) (AS.objs {s with h0:=AA (n0,w0),h1:=AA (n1,w1)})= .ok (.int 1) (AS.objs {s with h0:=AA (n0,w0),h1:=AA (n1,w1)}):=Df (Te (Bn (Bn rfl rfl rfl) rfl rfl) rfl) rfl
 have hj:Cc (Aq (AJ BV (AJ AW (AF 11) (AG (.int 0))) (AG (.str [45,49])))) (AG (.int 0)) (AG (.int 1)) (B6 k (AA (.lst [.str [49], .str [45,49], .str [48]])) (AA (.int n1)) (AA (.str w1)) (AA (.int (-n1))) AB) (AS.objs {s with h0:=AA (n0,w0),h1:=AA (n1,w1)})= .ok (.int 1) (AS.objs {s with h0:=AA (n0,w0),h1:=AA (n1,w1)}):=Df (Te (Bn (Bn rfl rfl rfl) rfl rfl) rfl) rfl
 have e1:N3 (B6 k AB AB AB AB AB) (AS.objs {s with h0:=AA (n0,w0),h1:=AA (n1,w1)})= .next (B6 k (AA (.lst [.str [49], .str [45,49], .str [48]])) AB AB AB AB) (AS.objs {s with h0:=AA (n0,w0),h1:=AA (n1,w1)}):=uP (s:={s with h0:=AA (n0,w0),h1:=AA (n1,w1)}) rfl rfl e e' rfl rfl pz p5
 have et:A2 (AH (BU (AH (AG (.str [45,49])) (AH (AG (.str [49])) (AH (AG (.str [48])) AP)))) (AH (BU (AH (AG (.str [49])) (AH (AG (.str [45,49])) (AH (AG (.str [48])) AP)))) AP)) (B6 k (AA (.lst [.str [49], .str [45,49], .str [48]])) AB AB AB AB) (AS.objs {s with h0:=AA (n0,w0),h1:=AA (n1,w1)})= .ok (.tup [.lst [.str [45,49], .str [49], .str [48]], .lst [.str [49], .str [45,49], .str [48]]]) (AS.objs {s with h0:=AA (n0,w0),h1:=AA (n1,w1)}):=by kernel_rfl
 have e2:QF (B6 k (AA (.lst [.str [49], .str [45,49], .str [48]])) AB AB AB AB) (AS.objs {s with h0:=AA (n0,w0),h1:=AA (n1,w1)})= .next (B6 k (AA (.lst [.str [49], .str [45,49], .str [48]])) AB AB AB AB) (AS.objs {s with h0:=AA (n0,w0),h1:=AA (n1,w1)}):=Au rfl rfl rfl (Dt (Te (Bn rfl et Gh) rfl) rfl) rfl (XV {s with h0:=AA (n0,w0),h1:=AA (n1,w1)})
 have e3:QG (B6 k (AA (.lst [.str [49], .str [45,49], .str [48]])) AB AB AB AB) (AS.objs {s with h0:=AA (n0,w0),h1:=AA (n1,w1)})= .next (B6 k (AA (.lst [.str [49], .str [45,49], .str [48]])) (AA (.int n1)) (AA (.str w1)) (AA (.int (-n1))) AB) (AS.objs {s with h0:=AA (n0,w0),h1:=AA (n1,w1)}):=Ag (Bn rfl hi rfl) rfl
 have e4:QH (B6 k (AA (.lst [.str [49], .str [45,49], .str [48]])) (AA (.int n1)) (AA (.str w1)) (AA (.int (-n1))) AB) (AS.objs {s with h0:=AA (n0,w0),h1:=AA (n1,w1)})= .next (B6 k (AA (.lst [.str [49], .str [45,49], .str [48]])) (AA (.int n1)) (AA (.str w1)) (AA (.int (-n1))) AB) (AS.objs {s with h0:=AA (n0,w0),h1:=AB}):=Kk rfl rfl hj B'
 exact Sq e1 (Sq e2 (Sq e3 (Sq e4 kk)))
theorem oi(v:T)(o:AL):BV [.lst [.str v], .lst [.str v]] o= .ok (.bool AC) o:=by
 refine(HK (X:=FV) (Y:=FV) (a:= .lst [.str v]) (b:= .lst [.str v]) rfl rfl).trans ?_
 rw[show Si o (.lst [.str v]) (.lst [.str v])=AA AC from DW (HD v) rfl];rfl
theorem Ay3{k:Nat}{o:AL}:AW [.str [110,78], .int (k % 2:Nat)] o= .ok (.str [if k % 2=0 then 110 else 78]) o:=by
 rcases(by exact(wQ _):k % 2=0\/k % 2=1)with h|h<;>rw[h]<;>rfl
noncomputable def AS.bumped(s:AS)(n:Int):AS:={s with ck:=(Cb s.ck s.cn n).1,cn:=(Cb s.ck s.cn n).2}
section
variable{s:AS}{k:Nat}{told c15:Option CV}{n:Int}{w:T}
theorem rC(zQ:B1 n=AC)(hl:(Az n).length<=900){b:DS}{r:RS}(Oy:s.ck.Nodup)(Bh:s.ck.length=s.cn.length)(CZ:s.cn.length<=900)(kk:b (B6 (AA (.int k)) told (AA (.int n)) (AA (.str w)) c15 (AA (.str (C0 k n)))) (s.bumped n).objs=r):
  AM Xv (AM Xw b) (B6 (AA (.int k)) told (AA (.int n)) (AA (.str w)) c15 AB) s.objs=r:=by
 have B':Ff (.obj 7) (.str [99,97,109,101]) (.dct (L7 (Cb s.ck s.cn n).1) ((Cb s.ck s.cn n).2.map .int)) s.objs= .ok () (s.bumped n).objs:=by kernel_rfl
 have yX:=mL KI s.clo (x:=n) Oy Bh CZ
 exact Sq (As (Bn (Bn rfl (Bn rfl rfl (FB (n:=2) (by decide))) Ay3) (Cl (Cn rfl rfl) (YE zQ)) (F3 (show 1+_<=16777216 by exact AO (EP (by assumption) _) (by decide)))) rfl) (Sq (Kk (Cl (Cn (Bn rfl rfl rfl) (Cn rfl rfl)) yX) rfl rfl B') kk)
variable{nm:T}(ht:s.rows.length<=900)(hn:∀p∈s.rows,p.1.length<=1000)(hN:WG nm)
include ht hn hN
theorem rJ{v:AY}{b:Bool}(hb:(Dj s.rows (BD nm)).isSome=b)(VO:AF 16 v s.objs= .ok (.str nm) s.objs)(h5:AF 5 v s.objs= .ok (.obj 9) s.objs):Aq (AJ rh (AF 16) (AF 5)) v s.objs= .ok (!b) s.objs:=by
 have T:=s.tab (by exact AO (by assumption) (by decide)) hn
 have hc:=Ak8 T (AO hN.len (by decide)) (AO hN.ll (by decide)) hN.lc
 rw[hb]at hc
 have hi:Cz 295 "__contains__" s.objs (.obj 9)=AC:=TL (o:=s.objs) (i:=9) rfl (by decide)
 refine Ts (Bn VO h5 (((F4 ((F4 (P9 rfl)).trans ((F4 (P9 rfl)).trans (P9 rfl)))).trans (HK (X:=FV) (Y:=Sd 295 "__contains__") (a:= .str nm) (b:= .obj 9) rfl (if_pos hi))).trans ?_))
 rw[hc];rfl
end
noncomputable def d4(x:T):CV->Bool
 | .tup (.str a::_)=>BD a==x
 |_=>AD
noncomputable def X9:CV->CV
 | .tup [_,b]=>b
 |c=>c
theorem ue(x:T):∀rows:FU,((rows.map Bv).filter (d4 x)).map X9=(rows.filter λp=>BD p.1==x).map λp=> .str p.2
 |[]=>rfl
 |p::r=>by
  have ih:=ue x r
  simp only[J3,OG,OG,show d4 x (Bv p)=(BD p.1==x)from rfl]
  cases BD p.1==x with
  |true=>exact congrArg (_::·) ih
  |false=>exact ih
theorem ud{s:AS}{v:AY}{nm:T}{l:List CV}(hl:s.fst.length<=1000)(hn:∀p∈s.fst,p.1.length<=1000)(hN:WG nm)(h6:AF 6 v s.objs= .ok (.obj 10) s.objs)(hv:Ej [AB,AA 16] v=[AB,AA (.str nm)])(hr:((s.fst.filter λp=>BD p.1==BD nm).map λp=>CV.str p.2)=l):
  CL [AB,AA 16] (.list []) (AF 6) (AX 0) (Aq (AJ BV (BC Jq (AJ AW (AF 0) (AG (.int 0))) AP) (BC Jq (AF 1) AP))) (CC (AJ AW (AF 0) (AG (.int 1)))) v s.objs= .ok (.lst l) s.objs:=by
 refine Co (c:= .obj 10) (l:=s.fst.map Bv) (b:=d4 (BD nm)) (f:=X9) h6 rfl rfl (λ_=>rfl) rfl hv (λx hx=>?_) (λx hx _=>?_) (by rw[Ay];exact AO (by assumption) (by decide)) (by rw[ue,hr])
 ·obtain⟨p,hp,rfl⟩:=HS.mp hx
  exact Te (Bn (Ms (Bn rfl rfl rfl) rfl rfl (P1 (AO (hn p hp) (by decide)))) (Ms rfl rfl rfl (P1 (AO hN.len (by decide)))) rfl) rfl
 ·refine A3 (HS.mp hx) λp AB0=>?_
  obtain rfl:=AB0.2
  exact Bn rfl rfl rfl
noncomputable def AS.pushL(s:AS)(l:List AV):Tg->AS
 | .both=>{s with q0:=s.q0++l,q1:=s.q1++l}
 | .t2=>{s with q2:=s.q2++l}
 | .t3=>{s with q3:=s.q3++l}
theorem Xq(t:Tg)(l:List AV):∀s:AS,s.pushes t l=s.pushL l t:=by
 induction l with
 |nil=>
  intro s
  cases t with
  |both=>exact(congrArg (λz=>{s with q0:=z}) (BJ _).symm).trans (congrArg (λz=>{s with q0:=s.q0++[],q1:=z}) (BJ _).symm)
  |t2=>exact congrArg (λz=>{s with q2:=z}) (BJ _).symm
  |t3=>exact congrArg (λz=>{s with q3:=z}) (BJ _).symm
 |cons L r ih=>
  intro s
  refine(ih (s.push L t)).trans ?_
  cases t with
  |both=>exact(congrArg (λz=>{s with q0:=z,q1:=s.q1++[L]++r}) (B2 s.q0 [L] r)).trans (congrArg (λz=>{s with q0:=s.q0++L::r,q1:=z}) (B2 s.q1 [L] r))
  |t2=>exact congrArg (λz=>{s with q2:=z}) (B2 s.q2 [L] r)
  |t3=>exact congrArg (λz=>{s with q3:=z}) (B2 s.q3 [L] r)
noncomputable def AS.lay(s:AS)(k:Nat)(n:Int)(w:T):AS:={s with rows:=s.rows++[(C0 k n,w)],fst:=s.fst++[(C0 k n,w)],q0:=s.q0++Dz s (k/2) 2 n w,q1:=s.q1++Dz s (k/2) 2 n w}
section
variable{s:AS}{k:Nat}{told c15:Option CV}{n:Int}{w v nm:T}(ht:s.rows.length<=900)(hn:∀p∈s.rows,p.1.length<=1000)(hN:WG (C0 k n))(Gf:s.fst=s.rows)
include ht hn hN Gf
theorem A12(hf:Dj s.rows (BD (C0 k n))=AA v)(Zj:s.rows.filter (λp=>BD p.1==BD (C0 k n))=[(nm,v)]):
  AM Td (AM Tf AZ) (B6 (AA (.int k)) told (AA (.int n)) (AA (.str w)) c15 (AA (.str (C0 k n)))) s.objs= .next (B6 (AA (.int k)) told (AA (.int n)) (AA (.str w)) c15 (AA (.str (C0 k n)))) s.objs:=by
 have T:=s.tab (by exact AO (by assumption) (by decide)) hn
 have M4:=Al9 T (w:=w) (AO hN.len (by decide)) (AO hN.ll (by decide)) hN.lc hf
 have hw:=ud (s:=s) (v:=B6 (AA (.int k)) told (AA (.int n)) (AA (.str w)) c15 (AA (.str (C0 k n)))) (l:=[.str v]) (by rw[Gf];exact AO (by assumption) (by decide)) (by rw[Gf];exact hn) hN rfl rfl (by rw[Gf,Zj];rfl)
 exact Sq (If (rJ ht hn hN (b:=AC) (by rw[hf];rfl) rfl rfl) rfl) (Sq (Au rfl rfl rfl (Dt (Te (Bn (Ls (cs:=[.str v]) (Cn (Ms rfl (T.inst1 (by decide)) (Cn rfl (Cn rfl rfl)) M4) rfl) (show 1<=Ah by decide)) hw (oi v _)) rfl) rfl) rfl (XV s)) rfl)
theorem Az2(hf:Dj s.rows (BD (C0 k n))=AB)(Zj:s.rows.filter (λp=>BD p.1==BD (C0 k n))=[])(CZ:Gj 900 s)(zH:FS n)(kQ:HA w)(zc:w.any F8=AD):
  AM Td (AM Tf AZ) (B6 (AA (.int k)) told (AA (.int n)) (AA (.str w)) c15 (AA (.str (C0 k n)))) s.objs= .next (B6 (AA (.int k)) told (AA (.int n)) (AA (.str w)) c15 (AA (.str (C0 k n)))) (s.lay k n w).objs:=by
 have hp:=XI (s:={s with fst:=s.fst++[(C0 k n,w)]}) (N:=900) ⟨CZ.q0,CZ.q1,CZ.q2,CZ.q3⟩ (BL _) (t:= .both) (k:=k/2) (who:=2) zH kQ (by decide)
 rw[Xq]at hp
 have ha:s.objs.set 10 (.list (s.fst.map Bv++[.tup [.str (C0 k n), .str w]]))=AS.objs {s with fst:=s.fst++[(C0 k n,w)]}:=by unfold AS.objs;simp only[EO];rfl
 have jp:=SY (o:=s.objs) (i:=10) (l:=s.fst.map Bv) (y:= .tup [.str (C0 k n), .str w]) rfl (by rw[Ay,Gf];exact Bg (by assumption) (by decide))
 rw[ha]at jp
 obtain⟨s2,h2⟩:∃s2:AS,s2=AS.pushL {s with fst:=s.fst++[(C0 k n,w)]} (Dz {s with fst:=s.fst++[(C0 k n,w)]} (k/2) 2 n w) .both:=⟨_,rfl⟩
 rw[<-h2]at hp
 have Zw:s2.rows=s.rows:=by rw[h2];rfl
 have Zi:s2.fst=s.fst++[(C0 k n,w)]:=by rw[h2];rfl
 have Rv:s.lay k n w={s2 with rows:=s2.rows++[(C0 k n,w)]}:=by rw[h2];rfl
 have T:=s2.tab (by rw[Zw];exact AO (by assumption) (by decide)) (by rw[Zw];exact hn)
 have Jb:=kQ.len
 have M4:=pS T (w:=w) (AO hN.len (by decide)) (AO hN.ll (by decide)) (AO hN.len (by decide)) (AO Jb (by decide)) hN.lc (by rw[Zw];exact hf) hN.nc zc (AS.clo {s2 with rows:=s2.rows++[(C0 k n,w)]})
 have Mx:((s2.fst.filter λp=>BD p.1==BD (C0 k n)).map λp=>CV.str p.2)=[.str w]:=by
  rw[Zi,vb,Gf,Zj,OG,if_pos (beq_self_eq_true _)];rfl
 have hw:=ud (s:={s2 with rows:=s2.rows++[(C0 k n,w)]}) (v:=B6 (AA (.int k)) told (AA (.int n)) (AA (.str w)) c15 (AA (.str (C0 k n)))) (l:=[.str w]) (by show s2.fst.length<=_;rw[Zi,A1,Gf];show _+1<=_;exact Bg (by assumption) (by decide))
  (λp hp=>(D8.mp (Zi▸hp)).elim (λh=>hn p (Gf▸h)) λh=>Ca.mp h▸hN.len) hN rfl rfl Mx
 simp only[Rv]
 exact Sq (o':=s2.objs) (It (rJ ht hn hN (b:=AD) (by rw[hf];rfl) rfl rfl) (Sq (Ex (Ms rfl rfl (Cn (Tp (Cn rfl (Cn rfl rfl)) (show 2<=Ah by decide)) rfl) jp)) (Sq (Ex (Cl (Cn rfl (Cn (Ls (Cn rfl (Cn rfl rfl)) (show 2<=Ah by decide)) (Cn (Bn rfl rfl (Ix (n:=2) (by decide))) (Cn rfl (Cn rfl (Cn rfl rfl)))))) hp)) rfl)))
  (Sq (Au rfl rfl rfl (Dt (Te (Bn (Ls (cs:=[.str w]) (Cn (Ms rfl (T.inst1 (by decide)) (Cn rfl (Cn rfl rfl)) M4) rfl) (show 1<=Ah by decide)) hw (oi w _)) rfl) rfl) rfl (XV {s2 with rows:=s2.rows++[(C0 k n,w)]})) rfl)
end
theorem pN{s s':AS}{k:CV}{v':AY}(h:AM N3 (AM QF (AM QG (AM QH (AM Xv (AM Xw (AM Td (AM Tf AZ))))))) (B6 (AA k) AB AB AB AB AB) s.objs= .next v' s'.objs):
  Hl [.obj 7, .int 2, .int 0,k] s.objs= .ok .none s'.objs:=by
 have b:Ss (Fg (Aw 330 N6) ([.obj 7, .int 2, .int 0,k]++[])) s.objs= .next v' s'.objs:=Sq (v':=B6 (AA k) AB AB AB AB AB) rfl (Sq (If (Te (Bn rfl rfl rfl) rfl) h) rfl)
 unfold Hl CM
 refine(if_pos rfl).trans ?_
 exact(congrArg (Gn 14) b).trans (fin_same s'.clo rfl)
noncomputable def Xb(n:Int):Bool:=decide (B1 n=AC/\Az n≠[]/\(Az n).length<=20/\(∀c∈Az n,48<=c/\c<=57)/\FH (AU (Az n))=AA n/\FH (AU (32::(Az n++[10])))=AA n/\FH (AU (43::48::Az n))=AA n/\FH (AU (Az n++[45]))=AB)
theorem P8{n:Int}(h:Xb n=AC):FS n:=
 have h:=of_decide_eq_true h
 ⟨h.1,h.2.1,h.2.2.1,h.2.2.2.1,h.2.2.2.2.1,h.2.2.2.2.2.1,h.2.2.2.2.2.2.1,h.2.2.2.2.2.2.2⟩
noncomputable def gY(w:T):Bool:=decide (w≠[]/\w.length<=50/\∀c∈w,c=115\/c=34\/c=46)
theorem UP{w:T}(h:gY w=AC):HA w/\w.any F8=AD:=by
 have h:=of_decide_eq_true h
 refine⟨⟨h.1,AO h.2.1 (by decide),λq=>absurd (h.2.2 _ q) (by decide),λq=>absurd (h.2.2 _ q) (by decide)⟩,List.any_eq_false.mpr λc hc=>?_⟩
 rcases h.2.2 c hc with e|e|e<;>rw[e]<;>decide
noncomputable def eZ(n:Int):Bool:=decide (∀c∈([110,78]:List Nat),BD (c::Az n)=110::Az n/\(c::Az n).any EW=AD)
theorem Ay4{n:Int}(hn:FS n)(h:eZ n=AC)(k:Nat):WG (C0 k n)/\BD (C0 k n)=110::Az n:=by
 have h:=of_decide_eq_true h _ (show(if k % 2=0 then 110 else 78)∈([110,78]:List Nat) by split<;>decide)
 have hl:(Az n).length+1<=1000:=by have:=hn.len;exact Bg (by assumption) (by decide)
 exact⟨⟨hl,by unfold C0;rw[h.1];exact hl,by unfold C0;rw[h.1];exact(of_decide_eq_true ‹eZ n=AC› 110 CP).2,h.2⟩,h.1⟩
set_option genInjectivity false in
set_option genSizeOfSpec false in
structure Pt where
 t0:Nat
 t1:Nat
 laid:List (Int×T)
 ck:List Int
 cn:List Int
set_option genInjectivity false in
set_option genSizeOfSpec false in
structure By where
 f0:Int
 f1:Int
 sgn:Int
noncomputable def MF(l:List (Int×T))(t:Nat)(f:Int)(ch:Nat):Int×T:=((l.getD t (0,[])).1*f,(l.getD t (0,[])).2++[ch])
noncomputable abbrev Pt.g0(c:By)(p:Pt):Int×T:=MF p.laid p.t0 c.f0 34
noncomputable abbrev Pt.g1(c:By)(p:Pt):Int×T:=MF p.laid p.t1 c.f1 46
noncomputable def Pt.cmp(c:By)(p:Pt):Int:=F7 c.sgn (p.g0 c).1 (p.g0 c).2 (p.g1 c).1 (p.g1 c).2
noncomputable def Pt.cmp'(c:By)(p:Pt):Int:=F7 c.sgn (p.g1 c).1 (p.g1 c).2 (p.g0 c).1 (p.g0 c).2
noncomputable def Pt.ch(c:By)(p:Pt):Int×T:=if p.cmp c= -1 then p.g0 c else p.g1 c
noncomputable def Pt.step(c:By)(p:Pt):Pt:=
 {t0:=if p.cmp c= -1 then p.t0+1 else p.t0,t1:=if p.cmp c= -1 then p.t1 else p.t1+1,laid:=if(p.ch c).1∈p.laid.map (·.1)then p.laid else p.laid++[p.ch c],ck:=(Cb p.ck p.cn (p.ch c).1).1,cn:=(Cb p.ck p.cn (p.ch c).1).2}
noncomputable def Pt.start:Pt:=⟨0,0,[(1,[115])],[],[]⟩
noncomputable abbrev WH(c:By)(p:Pt):Prop:=p.t0<p.laid.length/\p.t1<p.laid.length/\(p.cmp c= -1/\p.cmp' c=1\/p.cmp c=1/\p.cmp' c= -1)/\p.laid.length<=5/\p.cn.length<=20/\
 (∀q∈p.laid,Xb q.1=AC/\Xb (q.1*c.f0)=AC/\Xb (q.1*c.f1)=AC/\gY (q.2++[34])=AC/\gY (q.2++[46])=AC)/\eZ (p.ch c).1=AC
noncomputable def Xu(c:By):Nat->Pt->Bool
 |0,p=>decide (p.laid.length=6)
 |f+1,p=>decide (p.laid.length=6)||(decide (WH c p)&&Xu c f (p.step c))
noncomputable def Cw(x y:Nat)(b:Bool):By:=⟨2+x,2+((x+1+y) % 5:Nat),if b then 1 else -1⟩
theorem BD6:∀x<5,∀y<4,∀b:Bool,Xu (Cw x y b) 9 Pt.start=AC:=by decide+kernel
noncomputable def Jo(c:By)(p:Pt):Nat->Pt
 |0=>p
 |k+1=>(Jo c p k).step c
noncomputable abbrev A9(c:By):Nat->Pt:=Jo c Pt.start
theorem Py(c:By)(p:Pt):∀k,Jo c (p.step c) k=Jo c p (k+1)
 |0=>rfl
 |k+1=>congrArg (Pt.step c) (Py c p k)
theorem BD4{c:By}(k:Nat):∀(f:Nat) {p:Pt},Xu c f p=AC->(∀j<k,(Jo c p j).laid.length≠6)->k<=f/\((Jo c p k).laid.length=6\/(WH c (Jo c p k)/\k+1<=f)):=by
 induction k with
 |zero=>
  intro f p h _
  cases f with
  |zero=>exact⟨BL _, .inl (of_decide_eq_true h)⟩
  |succ f=>exact⟨D2 _,(Hs.mp h).imp of_decide_eq_true λh=>⟨of_decide_eq_true (BB h).1,JG 1 f⟩⟩
 |succ k ih=>
  intro f p h hj
  have h0:p.laid.length≠6:=hj 0 (IW k)
  cases f with
  |zero=>exact absurd (of_decide_eq_true h) h0
  |succ f=>
   have:=ih f (p:=p.step c) (BB ((Hs.mp h).resolve_left λq=>h0 (of_decide_eq_true q))).2 (λj Zn=>by rw[Py];exact hj (j+1) (wS Zn))
   rw[Py]at this
   exact⟨CT this.1,this.2.imp_right λz=>⟨z.1,CT z.2⟩⟩
theorem Ap7{a b:Int}(ha:FS a)(hb:FS b)(h:Az a=Az b):a=b:=by
 have h1:=ha.i0
 rw[h,hb.i0]at h1
 exact(CU h1).symm
theorem rj(c:By):∀k,((A9 c k).laid.map (·.1)).Nodup/\(A9 c k).ck.Nodup/\(A9 c k).ck.length=(A9 c k).cn.length
 |0=>⟨HT.mpr ⟨D9,Qo⟩,Qo,rfl⟩
 |k+1=>by
  have h:=rj c k
  refine⟨?_,bK h.2.1 h.2.2 _⟩
  show(iC (·.1) (if((A9 c k).ch c).1∈(A9 c k).laid.map (·.1)then(A9 c k).laid else(A9 c k).laid++[(A9 c k).ch c])).Nodup
  split
  ·exact h.1
  ·rename_i hh
   rw[EO]
   exact rI h.1 hh
set_option genInjectivity false in
set_option genSizeOfSpec false in
structure WL where
 qi:List AV
 qo:List AV
 h:Option (Int×T)
 m:Int
 b:Bk
noncomputable def gd(q:List AV):List (Int×T):=(q.filter AV.good).map λL=>(L.n,L.w)
noncomputable def Jf(f:Int)(l:List (Int×T)):Bk:=l.foldl (λb q=>b.add q.1 (q.1*f) q.2) ⟨0,0,0,0,[],[]⟩
noncomputable abbrev LQ(nm:T)(q:List AV):Prop:=∀L∈q,L.Ok/\L.snd=nm
section
variable{L:AV}{q r:List AV}{nm:T}
theorem dq(h:L.good=AD):gd (L::q)=gd q:=by unfold gd;rw[OG,if_neg (by rw[h];decide)]
theorem W5(h:L.good=AC):gd (L::q)=(L.n,L.w)::gd q:=by unfold gd;rw[OG,if_pos h];rfl
theorem pO:gd (q++r)=gd q++gd r:=by unfold gd;rw[vb,EO]
theorem LQ.tl(h:LQ nm (L::q)):LQ nm q:=λL' h'=>h L' (Ef _ h')
theorem LQ.app(h:LQ nm q)(k:LQ nm r):LQ nm (q++r):=λL' h'=>(D8.mp h').elim (h L') (k L')
end
section
variable{s:AS}{k who:Nat}{n:Int}{w:T}
theorem TH:gd (Dz s k who n w)=[(n,w)]:=by
 unfold Dz K6
 split
 ·exact(dq (decide_eq_false (Cp.mpr (JG 9 _)))).trans (W5 (decide_eq_true (Dw _ (by decide)):AV.good ⟨k/27 % 9,k/243,s.name who,n,w⟩=AC))
 ·exact W5 (decide_eq_true (Dw _ (by decide)):AV.good ⟨k/27 % 9,k/243,s.name who,n,w⟩=AC)
theorem Np(hn:FS n)(hw:HA w):LQ (s.name who) (Dz s k who n w):=λL hL=>by
 refine A3 (HS.mp hL) λkind ku=>?_
 obtain rfl:=ku.2
 exact⟨⟨qD k kind ku.1,hn,hw⟩,rfl⟩
theorem XK:(Dz s k who n w).length<=2:=by unfold Dz;rw[Ay];exact qC k
end
section
variable{α:Type}{l:List α}{a:Nat}{x:α}{r:List α}
theorem L8(h:l.drop a=x::r):a<l.length/\l[a]? =AA x/\l.drop (a+1)=r/\l.take (a+1)=l.take a++[x]:=by
 have e:(l.drop a)[0]? =l[a]?:=JC
 rw[h]at e
 exact⟨(Gb.mp e.symm).1,e.symm,by rw[<-MS,h];rfl,by rw[wA,<-e];rfl⟩
theorem du{d:α}(h:l[a]? =AA x):l.getD a d=x:=by rw[Qj,h];rfl
theorem Ai5{d:α}(h:a<l.length):(l++r).getD a d=l.getD a d:=by
 rw[Qj,Qj,MU h]
end
structure SI(laid:List (Int×T))(t:Nat)(f:Int)(ch:Nat)(nC nm:T)(S:WL)(a b:Nat):Prop where
 hd:S.h=AB/\b=t\/S.h=AA (MF laid t f ch)/\b=t+1
 ab:b<=a
 al:a<=laid.length
 qi:gd S.qi=laid.drop a
 qo:gd S.qo=((laid.take a).drop b).map λq=>(q.1*f,q.2++[ch])
 oki:LQ nC S.qi
 oko:LQ nm S.qo
 m:S.m=a
 bk:S.b=Jf f (laid.take a)
theorem AQ1(f:Int)(l:List (Int×T))(q:Int×T):Jf f (l++[q])=(Jf f l).add q.1 (q.1*f) q.2:=by unfold Jf;rw[vi];rfl
section
variable{laid:List (Int×T)}{t:Nat}{f:Int}{ch:Nat}{nC nm:T}{S:WL}{a b:Nat}(h:SI laid t f ch nC nm S a b)
include h
theorem SI.front(hh:S.h≠AB):S.h=AA (MF laid t f ch)/\b=t+1:=h.hd.resolve_left λe=>hh e.1
theorem SI.free(hh:S.h=AB):b=t:=h.hd.elim (·.2) λe=>by rw[hh]at e;cases e.1
theorem SI.up(hh:S.h≠AB):SI laid (t+1) f ch nC nm {S with h:=AB} a b:={h with hd:= .inl ⟨rfl,(h.front hh).2⟩}
variable{L:AV}{r ls:List AV}
theorem SI.grow{x:Int×T}(ht:S.h=AB\/t<laid.length)(Zq:gd ls=[x])(ho:LQ nC ls):SI (laid++[x]) t f ch nC nm {S with qi:=S.qi++ls} a b:=
 ⟨ht.elim (λe=> .inl ⟨e,h.free e⟩) λht=>by unfold MF;rw[Ai5 ht];exact h.hd,h.ab,by rw[A1];exact Nat.le_add_right_of_le h.al,by rw[vY h.al,<-h.qi,<-Zq];exact pO,by rw[wB h.al];exact h.qo,h.oki.app ho,h.oko,h.m,by rw[wB h.al];exact h.bk⟩
theorem SI.bad_i(hq:S.qi=L::r)(g:L.good=AD):SI laid t f ch nC nm {S with qi:=r} a b:={h with qi:=by rw[<-h.qi,hq,dq g],oki:=(hq▸h.oki:LQ nC (L::r)).tl}
theorem SI.bad_o(hq:S.qo=L::r)(g:L.good=AD):SI laid t f ch nC nm {S with qo:=r} a b:={h with qo:=by rw[<-h.qo,hq,dq g],oko:=(hq▸h.oko:LQ nm (L::r)).tl}
theorem SI.next(hq:S.qi=L::r)(g:L.good=AC):a<laid.length/\laid[a]? =AA (L.n,L.w)/\laid.drop (a+1)=gd r/\laid.take (a+1)=laid.take a++[(L.n,L.w)]:=L8 (by rw[<-h.qi,hq,W5 g])
theorem SI.mult(hq:S.qi=L::r)(g:L.good=AC)(Zq:gd ls=[(L.n*f,L.w++[ch])])(ho:LQ nm ls):SI laid t f ch nC nm ⟨r,S.qo++ls,S.h,S.m+1,S.b.add L.n (L.n*f) L.w⟩ (a+1) b:=by
 refine⟨h.hd,HU h.ab,(h.next hq g).1,(h.next hq g).2.2.1.symm,?_,(hq▸h.oki:LQ nC (L::r)).tl,h.oko.app ho,congrArg (·+1) h.m,?_⟩
 ·rw[(h.next hq g).2.2.2,vY (by simp only[JE,LO h.al];exact h.ab),EO,<-h.qo]
  exact pO.trans (congrArg (gd S.qo++·) Zq)
 ·rw[(h.next hq g).2.2.2,AQ1,<-h.bk]
theorem SI.take(hq:S.qo=L::r)(g:L.good=AC)(hh:S.h=AB):SI laid t f ch nC nm {S with qo:=r,h:=AA (L.n,L.w)} a (b+1):=by
 have e:=h.qo
 rw[hq,W5 g]at e
 refine B7 (List.map_eq_cons_iff.mp e.symm) λx y aE=>?_
 obtain⟨d1,d2,d3,_⟩:=L8 aE.1
 rw[JE,LO h.al]at d1
 rw[h_,if_pos d1]at d2
 exact{h with hd:= .inr ⟨by unfold MF;rw[du ((h.free hh)▸d2)];exact congrArg AA aE.2.1.symm,congrArg (·+1) (h.free hh)⟩,ab:=d1,qo:=by simp only[d3];exact aE.2.2.symm,oko:=(hq▸h.oko:LQ nm (L::r)).tl}
end
theorem AQ3{K:Type}[DecidableEq K]{ks:List K}{vs:List Int}(hl:ks.length=vs.length)(x:K):(Cb ks vs x).2.length<=vs.length+1:=by
 unfold Cb
 cases h:B5 ks vs x with
 |some v=>show(Bj ks vs x (v+1)).2.length<=_;rw[(qA (eL h) hl).2,hl];exact Da _
 |none=>show(vs++[1]).length<=_;rw[A1];exact BL _
theorem m9(f:Int)(l:List (Int×T)):∀{b:Bk},b.ks.Nodup->b.ks.length=b.vs.length->b.vs.length+l.length<=900->(l.foldl (λb q=>b.add q.1 (q.1*f) q.2) b).Ok:=by
 induction l with
 |nil=>exactλh1 h2 h3=>⟨h1,h2,h3⟩
 |cons q r ih=>exactλ{b} h1 h2 h3=>ih (b:=b.add q.1 (q.1*f) q.2) (bK h1 h2 q.2).1 (bK h1 h2 q.2).2 (AO (C3 (AQ3 h2 q.2) _) (by rw[Du]at h3;exact AO (BR (Er _ 1 _)) h3))
set_option genInjectivity false in
set_option genSizeOfSpec false in
structure Cr where
 cells:List Int
 nA:T
 nB:T
 nC:T
 up:Bool
 c:By
noncomputable def AS.base(s:AS):Cr:=⟨s.cells,s.nA,s.nB,s.nC,s.up,⟨s.f0,s.f1,s.sgn⟩⟩
noncomputable def AS.l(s:AS):WL:=⟨s.q0,s.q2,s.h0,s.m0,s.b0⟩
noncomputable def AS.r(s:AS):WL:=⟨s.q1,s.q3,s.h1,s.m1,s.b1⟩
theorem MC{a b c d n:Nat}(h:a+b+c+d<=n):a<=n/\b<=n/\c<=n/\d<=n:=
 have h1:=LN h
 have h2:=LN h1
 ⟨LN h2,MW h2,MW h1,MW h⟩
theorem gJ{D x d R:Nat}(h:D+(x+(d+1))<=R):D+1+(x+d)<=R:=AO (BR (Er D 1 _)) h
theorem gI{D x c d R:Nat}(h:D+(x+(c+1)+d)<=R):D+1+(x+c+d)<=R:=gJ (d:=d) (AO (BR (congrArg (D+·) (Er (x+c) d 1))) h)
theorem t6{D x b c d R:Nat}(h:D+(x+(b+1)+c+d)<=R):D+1+(x+b+c+d)<=R:=gI (c:=c) (AO (BR (congrArg (λz=>D+(z+d)) (Er (x+b) c 1))) h)
theorem tk0{D a b c d R:Nat}(h:D+(a+1+b+c+d)<=R):D+1+(a+b+c+d)<=R:=t6 (b:=b) (AO (BR (congrArg (λz=>D+(z+c+d)) (Er a b 1))) h)
noncomputable def AS.size(s:AS):Nat:=s.q0.length+s.q1.length+s.q2.length+s.q3.length
noncomputable abbrev Nq(rows:FU):List (T×T):=rows.map λr=>(BD r.1,r.2)
noncomputable abbrev ME(laid:List (Int×T)):List (T×T):=laid.map λq=>(110::Az q.1,q.2)
structure G9(B:Cr)(D:Nat)(s:AS)(k a0 a1 b0 b1:Nat):Prop where
 prev:∀j<k,(A9 B.c j).laid.length≠6
 l:SI (A9 B.c k).laid (A9 B.c k).t0 B.c.f0 34 B.nC B.nA s.l a0 b0
 r:SI (A9 B.c k).laid (A9 B.c k).t1 B.c.f1 46 B.nC B.nB s.r a1 b1
 ck:s.ck=(A9 B.c k).ck
 cn:s.cn=(A9 B.c k).cn
 rows:Nq s.rows=ME (A9 B.c k).laid
 nms:∀r∈s.rows,r.1.length<=1000
 fst:s.fst=s.rows
 cnt:D+s.size<=4*(A9 B.c k).laid.length+2*a0+2*a1+k
 base:s.base=B
structure V'(c:By):Prop where
 run:Xu c 9 Pt.start=AC
 s0:B1 c.f0=AC
 s1:B1 c.f1=AC
inductive NE(B:Cr)(D:Nat)(s:AS)(m a b:Nat):Prop
 |mk (s':AS) (k a0 a1 b0 b1:Nat) (e:Hl [.obj 7, .int a, .int b, .int m] s.objs= .ok .none s'.objs) (h:G9 B (D+1) s' k a0 a1 b0 b1)
theorem BD1{n:Int}(hn:FS n):∀(rows:FU) {laid:List (Int×T)},Nq rows=ME laid->(∀q∈laid,FS q.1)->(laid.map (·.1)).Nodup->
  (n∈laid.map (·.1)->∃nm v,rows.filter (λr=>BD r.1==110::Az n)=[(nm,v)]/\Dj rows (110::Az n)=AA v)/\
  (n∉laid.map (·.1)->rows.filter (λr=>BD r.1==110::Az n)=[]/\Dj rows (110::Az n)=AB):=λrows=>by
 induction rows with
 |nil=>
  intro laid h _ _
  rw[Ym.mp h.symm]
  exact⟨λh=>absurd h D9,λ_=>⟨rfl,rfl⟩⟩
 |cons r rs ih=>
  intro laid h hq Oy
  cases laid with
  |nil=>first|exact Af h|cases h
  |cons q l=>
   have aF:=ih (Yi h).2 (λx hx=>hq x (Ef _ hx)) (HT.mp Oy).2
   have h3:BD r.1=110::Az q.1:=congrArg iR (Yi h).1
   by_cases e:n=q.1
   ·have hr:(BD r.1==110::Az n)=AC:=by rw[h3,e];exact beq_self_eq_true _
    refine⟨λ_=>⟨r.1,r.2,?_,?_⟩,λhx=>absurd (e▸CP) hx⟩
    ·rw[vd (p:=λr:T×T=>BD r.1==110::Az n) hr,(aF.2 (e▸(HT.mp Oy).1)).1]
    ·unfold Dj
     rw[MT (p:=λr:T×T=>BD r.1==110::Az n) hr];rfl
   ·have hr:¬(BD r.1==110::Az n)=AC:=λz=>e (Ap7 hn (hq q CP) (Yi (h3.symm.trans (CH z))).2.symm)
    have hf:Dj (r::rs) (110::Az n)=Dj rs (110::Az n):=by
     unfold Dj
     rw[ve (p:=λr:T×T=>BD r.1==110::Az n) hr]
    rw[vc (p:=λr:T×T=>BD r.1==110::Az n) hr,hf]
    exact⟨λhx=>aF.1 ((Cf.mp hx).resolve_left e),λhx=>aF.2 λz=>hx (Ef _ z)⟩
section
variable{B:Cr}{D:Nat}{s:AS}{k a0 a1 b0 b1 m:Nat}(h:G9 B D s k a0 a1 b0 b1)(hc:V' B.c)
include h hc
theorem G9.pathOk:k<=9/\((A9 B.c k).laid.length=6\/(WH B.c (A9 B.c k)/\k+1<=9)):=BD4 k 9 hc.run h.prev
theorem G9.len6:(A9 B.c k).laid.length<=6/\k<=9:=⟨(h.pathOk hc).2.elim BR λe=>HU e.1.2.2.2.1,(h.pathOk hc).1⟩
theorem G9.okF(h6:(A9 B.c k).laid.length≠6):WH B.c (A9 B.c k)/\k+1<=9:=(h.pathOk hc).2.resolve_left h6
theorem G9.few:s.size<=57:=by
 have h6:=h.len6 hc
 have h0:=h.l.al
 have h1:=h.r.al
 have hc:=h.cnt
 exact AO (MW hc) (Bf (Bf (Bf (DM 4 h6.1) (DM 2 (AO h0 h6.1))) (DM 2 (AO h1 h6.1))) h6.2)
theorem G9.short:Gj 900 s:=by
 have hc:=h.few hc
 unfold AS.size at hc
 exact⟨⟨λL hL=>(h.l.oki L hL).1,AO (MC hc).1 (by decide)⟩,⟨λL hL=>(h.r.oki L hL).1,AO (MC hc).2.1 (by decide)⟩,⟨λL hL=>(h.l.oko L hL).1,AO (MC hc).2.2.1 (by decide)⟩,⟨λL hL=>(h.r.oko L hL).1,AO (MC hc).2.2.2 (by decide)⟩⟩
theorem G9.ends(h6:(A9 B.c k).laid.length≠6):D<=48:=by
 have kz:=h.okF hc h6
 have h0:=h.l.al
 have h1:=h.r.al
 have h2:=h.cnt
 have h3:=kz.1.2.2.2.1
 exact AO (LN h2) (Bf (Bf (Bf (DM 4 h3) (DM 2 (AO h0 h3))) (DM 2 (AO h1 h3))) (Hv kz.2))
omit hc in
theorem G9.rlen:s.rows.length=(A9 B.c k).laid.length:=by
 have e:=congrArg JD h.rows
 rw[Ay,Ay]at e;exact e
theorem An9(h6:(A9 B.c k).laid.length≠6){L:AV}{r:List AV}(hq:s.q0=L::r):NE B D s m 0 0:=by
 have CZ:=h.short hc
 have hL:=h.l.oki L (show L∈s.q0 from hq▸CP)
 have DQ:=h.cnt
 have hb:=congrArg Cr.c h.base
 have hf:s.f0=B.c.f0:=congrArg By.f0 hb
 unfold AS.size at DQ
 rw[hq,Du]at DQ
 have Rr:s.b0.Ok:=by rw[show s.b0=_ from h.l.bk];exact m9 _ _ Qo rfl (by have:=h.len6 hc;show 0+_<=_;rw[JE];exact AO (BR (IX _)) (AO (Uj _ _) (AO this.1 (by decide))))
 have hn:L.good=AC->FS (L.n*s.f0)/\HA (L.w++[34]):=λg=>by
  have hO:=(h.okF hc h6).1.2.2.2.2.2.1 _ (Dv (h.l.next hq g).2.1)
  rw[hf];exact⟨P8 hO.2.1,(UP hO.2.2.2.1).1⟩
 have hd:=AZ1 (k:=m) hL.1 (hq▸CZ.q0) (by decide) hq (hL.2.trans (congrArg Cr.nC h.base).symm) CZ Rr (by rw[hf];exact hc.s0) hn
 cases g:L.good with
 |false=>
  rw[g]at hd
  exact⟨_,k,a0,a1,b0,b1,hd,{prev:=h.prev,l:=h.l.bad_i hq g,r:=h.r,ck:=h.ck,cn:=h.cn,rows:=h.rows,nms:=h.nms,fst:=h.fst,base:=h.base,cnt:=by unfold AS.size;exact tk0 DQ}⟩
 |true=>
  rw[g,if_pos rfl,Xq]at hd
  have Rm:=XK (s:=s) (k:=m) (who:=0) (n:=L.n*s.f0) (w:=L.w++[34])
  have hm:=h.l.mult hq g (ls:=Dz s m 0 (L.n*s.f0) (L.w++[34])) (TH.trans (by rw[hf])) (λL' h'=>⟨(Np (hn g).1 (hn g).2 L' h').1,(Np (hn g).1 (hn g).2 L' h').2.trans (congrArg Cr.nA h.base)⟩)
  rw[<-hf]at hm
  exact⟨_,k,a0+1,a1,b0,b1,hd,{prev:=h.prev,l:=by rw[<-hf];exact hm,r:=h.r,ck:=h.ck,cn:=h.cn,rows:=h.rows,nms:=h.nms,fst:=h.fst,base:=h.base,cnt:=by unfold AS.size;show D+1+(r.length+s.q1.length+(s.q2++_).length+s.q3.length)<=_;rw[A1];lia}⟩
theorem Ao2{L:AV}{r:List AV}(hq:s.q2=L::r)(hh:s.h0=AB):NE B D s m 1 0:=by
 have CZ:=h.short hc
 have hL:=h.l.oko L (show L∈s.q2 from hq▸CP)
 have DQ:=h.cnt
 unfold AS.size at DQ
 rw[hq,Du]at DQ
 have hd:=AZ3 (k:=m) hL.1 (hq▸CZ.q2) (by decide) hq (hL.2.trans (congrArg Cr.nA h.base).symm)
 cases g:L.good with
 |false=>
  rw[g]at hd
  exact⟨_,k,a0,a1,b0,b1,hd,{prev:=h.prev,l:=h.l.bad_o hq g,r:=h.r,ck:=h.ck,cn:=h.cn,rows:=h.rows,nms:=h.nms,fst:=h.fst,base:=h.base,cnt:=by unfold AS.size;exact gI DQ}⟩
 |true=>
  rw[g]at hd
  exact⟨_,k,a0,a1,b0+1,b1,hd,{prev:=h.prev,l:=h.l.take hq g hh,r:=h.r,ck:=h.ck,cn:=h.cn,rows:=h.rows,nms:=h.nms,fst:=h.fst,base:=h.base,cnt:=by unfold AS.size;exact gI DQ}⟩
theorem Ao0(h6:(A9 B.c k).laid.length≠6){L:AV}{r:List AV}(hq:s.q1=L::r):NE B D s m 0 1:=by
 have CZ:=h.short hc
 have hL:=h.r.oki L (show L∈s.q1 from hq▸CP)
 have DQ:=h.cnt
 have hb:=congrArg Cr.c h.base
 have hf:s.f1=B.c.f1:=congrArg By.f1 hb
 unfold AS.size at DQ
 rw[hq,Du]at DQ
 have Rr:s.b1.Ok:=by rw[show s.b1=_ from h.r.bk];exact m9 _ _ Qo rfl (by have:=h.len6 hc;show 0+_<=_;rw[JE];exact AO (BR (IX _)) (AO (Uj _ _) (AO this.1 (by decide))))
 have hn:L.good=AC->FS (L.n*s.f1)/\HA (L.w++[46]):=λg=>by
  have hO:=(h.okF hc h6).1.2.2.2.2.2.1 _ (Dv (h.r.next hq g).2.1)
  rw[hf];exact⟨P8 hO.2.2.1,(UP hO.2.2.2.2).1⟩
 have hd:=AZ2 (k:=m) hL.1 (hq▸CZ.q1) (by decide) hq (hL.2.trans (congrArg Cr.nC h.base).symm) CZ Rr (by rw[hf];exact hc.s1) hn
 cases g:L.good with
 |false=>
  rw[g]at hd
  exact⟨_,k,a0,a1,b0,b1,hd,{prev:=h.prev,r:=h.r.bad_i hq g,l:=h.l,ck:=h.ck,cn:=h.cn,rows:=h.rows,nms:=h.nms,fst:=h.fst,base:=h.base,cnt:=by unfold AS.size;exact t6 DQ}⟩
 |true=>
  rw[g,if_pos rfl,Xq]at hd
  have Rm:=XK (s:=s) (k:=m) (who:=1) (n:=L.n*s.f1) (w:=L.w++[46])
  have hm:=h.r.mult hq g (ls:=Dz s m 1 (L.n*s.f1) (L.w++[46])) (TH.trans (by rw[hf])) (λL' h'=>⟨(Np (hn g).1 (hn g).2 L' h').1,(Np (hn g).1 (hn g).2 L' h').2.trans (congrArg Cr.nB h.base)⟩)
  rw[<-hf]at hm
  exact⟨_,k,a0,a1+1,b0,b1,hd,{prev:=h.prev,r:=by rw[<-hf];exact hm,l:=h.l,ck:=h.ck,cn:=h.cn,rows:=h.rows,nms:=h.nms,fst:=h.fst,base:=h.base,cnt:=by unfold AS.size;show D+1+(s.q0.length+r.length+s.q2.length+(s.q3++_).length)<=_;rw[A1];lia}⟩
theorem Ao3{L:AV}{r:List AV}(hq:s.q3=L::r)(hh:s.h1=AB):NE B D s m 1 1:=by
 have CZ:=h.short hc
 have hL:=h.r.oko L (show L∈s.q3 from hq▸CP)
 have DQ:=h.cnt
 unfold AS.size at DQ
 rw[hq,Du]at DQ
 have hd:=AZ4 (k:=m) hL.1 (hq▸CZ.q3) (by decide) hq (hL.2.trans (congrArg Cr.nB h.base).symm)
 cases g:L.good with
 |false=>
  rw[g]at hd
  exact⟨_,k,a0,a1,b0,b1,hd,{prev:=h.prev,r:=h.r.bad_o hq g,l:=h.l,ck:=h.ck,cn:=h.cn,rows:=h.rows,nms:=h.nms,fst:=h.fst,base:=h.base,cnt:=by unfold AS.size;exact gJ DQ}⟩
 |true=>
  rw[g]at hd
  exact⟨_,k,a0,a1,b0,b1+1,hd,{prev:=h.prev,r:=h.r.take hq g hh,l:=h.l,ck:=h.ck,cn:=h.cn,rows:=h.rows,nms:=h.nms,fst:=h.fst,base:=h.base,cnt:=by unfold AS.size;exact gJ DQ}⟩
end
section
variable{B:Cr}{D:Nat}{s:AS}{k a0 a1 b0 b1 m:Nat}(h:G9 B D s k a0 a1 b0 b1)(hc:V' B.c)(h6:(A9 B.c k).laid.length≠6)
include h hc h6
theorem pq{n:Int}{w:T}{s1:AS}{told c15:Option CV}(KG:(A9 B.c k).ch B.c=(n,w))(hn:FS n)(hw:HA w/\w.any F8=AD)(e1:s1.rows=s.rows)(e2:s1.fst=s.fst)(e3:s1.ck=s.ck)(e4:s1.cn=s.cn)(e5:s1.base=s.base)(e6:s1.size=s.size)
  (l1:SI (A9 B.c k).laid (A9 B.c (k+1)).t0 B.c.f0 34 B.nC B.nA s1.l a0 b0) (r1:SI (A9 B.c k).laid (A9 B.c (k+1)).t1 B.c.f1 46 B.nC B.nB s1.r a1 b1) (hl:s1.l.h=AB\/(A9 B.c (k+1)).t0<(A9 B.c k).laid.length) (hr:s1.r.h=AB\/(A9 B.c (k+1)).t1<(A9 B.c k).laid.length):
  ∃s' v',AM Xv (AM Xw (AM Td (AM Tf AZ))) (B6 (AA (.int m)) told (AA (.int n)) (AA (.str w)) c15 AB) s1.objs= .next v' s'.objs/\G9 B (D+1) s' (k+1) a0 a1 b0 b1:=by
 have hP:=rj B.c k
 have kC:=((h.okF hc h6).1).2.2.2.2.2.2
 rw[KG]at kC
 have Rq:=Ay4 hn kC m
 have DQ:=((h.okF hc h6).1).2.2.2.2.1
 have Ov:=BD1 hn s.rows h.rows (λq hq=>P8 (((h.okF hc h6).1).2.2.2.2.2.1 q hq).1) hP.1
 have M3:=h.rlen
 have hle:=((h.okF hc h6).1).2.2.2.1
 have ju:=h.cnt
 have kG:∀j<k+1,(A9 B.c j).laid.length≠6:=λj hj=>(Nat.lt_succ_iff_lt_or_eq.mp hj).elim (h.prev j) λe=>e▸h6
 have Mr:(Cb s1.ck s1.cn n).1=(A9 B.c (k+1)).ck:=by simp only[e3,e4,h.ck,h.cn];show _=(Cb _ _ ((A9 B.c k).ch B.c).1).1;rw[KG]
 have jt:(Cb s1.ck s1.cn n).2=(A9 B.c (k+1)).cn:=by simp only[e3,e4,h.ck,h.cn];show _=(Cb _ _ ((A9 B.c k).ch B.c).1).2;rw[KG]
 have Bh:=hn.len
 have N:=λ{b r}=>rC (s:=s1) (k:=m) (told:=told) (c15:=c15) (n:=n) (w:=w) (b:=b) (r:=r) hn.sm (AO Bh (by decide)) (by simp only[e3,h.ck];exact hP.2.1) (by simp only[e3,e4,h.ck,h.cn];exact hP.2.2) (by rw[e4,h.cn];exact AO DQ (by decide))
 have Vi:(s1.bumped n).rows.length<=900:=by show s1.rows.length<=_;rw[e1];exact AO (BR M3) (AO hle (by decide))
 have Vg:∀r∈(s1.bumped n).rows,r.1.length<=1000:=by show ∀r∈s1.rows,_;rw[e1];exact h.nms
 have Gf:(s1.bumped n).fst=(s1.bumped n).rows:=by show s1.fst=s1.rows;simp only[e1,e2,h.fst]
 rw[<-Rq.2,<-e1]at Ov
 by_cases Gh:n∈(A9 B.c k).laid.map (·.1)
 ·obtain⟨nm,v,f1,f2⟩:=Ov.1 Gh
  have FN:(A9 B.c (k+1)).laid=(A9 B.c k).laid:=if_pos (by simp only[KG];exact Gh)
  refine⟨s1.bumped n,_,N (A12 (s:=s1.bumped n) Vi Vg Rq.1 Gf f2 f1),?_⟩
  exact{prev:=kG,l:=FN▸l1,r:=FN▸r1,ck:=Mr,cn:=jt,rows:=by simp only[FN,<-h.rows,<-e1];rfl,nms:=Vg,fst:=Gf,cnt:=by rw[FN];show D+1+s1.size<=_;rw[e6,Er];exact CT ju,base:=e5.trans h.base}
 ·obtain⟨f1,f2⟩:=Ov.2 Gh
  have FN:(A9 B.c (k+1)).laid=(A9 B.c k).laid++[(n,w)]:=(if_neg (by rw[KG];exact Gh)).trans (by rw[KG])
  have Fu:s1.q0.length+s1.q1.length+s1.q2.length+s1.q3.length<=57:=(show s1.size<=57 from e6▸(h.few hc))
  have CZ:Gj 900 (s1.bumped n):=⟨⟨λL hL=>(l1.oki L hL).1,AO (MC Fu).1 (by decide)⟩,⟨λL hL=>(r1.oki L hL).1,AO (MC Fu).2.1 (by decide)⟩,⟨λL hL=>(l1.oko L hL).1,AO (MC Fu).2.2.1 (by decide)⟩,⟨λL hL=>(r1.oko L hL).1,AO (MC Fu).2.2.2 (by decide)⟩⟩
  have Ow:LQ B.nC (Dz (s1.bumped n) (m/2) 2 n w):=λL h'=>⟨(Np hn hw.1 L h').1,(Np hn hw.1 L h').2.trans (congrArg Cr.nC (e5.trans h.base))⟩
  have Rm:=XK (s:=s1.bumped n) (k:=m/2) (who:=2) (n:=n) (w:=w)
  refine⟨(s1.bumped n).lay m n w,_,(λ{b r}=>rC (s:=s1) (k:=m) (told:=told) (c15:=c15) (n:=n) (w:=w) (b:=b) (r:=r) hn.sm (by lia) (by simp only[e3,h.ck];exact hP.2.1) (by simp only[e3,e4,h.ck,h.cn];exact hP.2.2) (by rw[e4,h.cn];lia)) (Az2 (s:=s1.bumped n) Vi Vg Rq.1 Gf f2 f1 CZ hn hw.1 hw.2),?_⟩
  refine{prev:=kG,l:=FN▸l1.grow hl TH Ow,r:=FN▸r1.grow hr TH Ow,ck:=Mr,cn:=jt,rows:=?_,nms:=λr hr=>(D8.mp hr).elim (Vg r) λe=>Ca.mp e▸Rq.1.len,fst:=congrArg (·++[(C0 m n,w)]) Gf,cnt:=?_,base:=e5.trans h.base}
  ·rw[FN]
   have e:Nq s1.rows=ME (A9 B.c k).laid:=by rw[e1];exact h.rows
   exact EO.trans ((congr (congrArg HAppend.hAppend e) (congrArg (λx=>[(x,w)]) Rq.2)).trans (EO (f:=λq:Int×T=>(110::Az q.1,q.2)) (l₁:=(A9 B.c k).laid) (l₂:=[(n,w)])).symm)
  ·rw[FN,A1]
   show D+1+((s1.q0++_).length+(s1.q1++_).length+s1.q2.length+s1.q3.length)<=4*(_+1)+_+_+_
   simp only[A1,A1]
   unfold AS.size at e6 ju
   lia
theorem Ao4(Va:s.l.h≠AB)(Vb:s.r.h≠AB)(Hc:(A9 B.c k).cmp B.c= -1)(Mu:(A9 B.c k).cmp' B.c=1):NE B D s m 2 0:=by
 have hF:=(h.okF hc h6).1
 obtain⟨n0,w0,g0⟩:∃n w,(A9 B.c k).g0 B.c=(n,w):=⟨_,_,rfl⟩
 obtain⟨n1,w1,g1⟩:∃n w,(A9 B.c k).g1 B.c=(n,w):=⟨_,_,rfl⟩
 have q0:s.h0=AA (n0,w0):=(h.l.front Va).1.trans (congrArg AA g0)
 have q1:s.h1=AA (n1,w1):=(h.r.front Vb).1.trans (congrArg AA g1)
 have M5:s={s with h0:=AA (n0,w0),h1:=AA (n1,w1)}:=by rw[<-q0,<-q1]
 have Il:({s with h0:=AB,h1:=AA (n1,w1)}:AS)={s with h0:=AB}:=by rw[<-q1]
 have RQ:=congrArg By.sgn (congrArg Cr.c h.base)
 have ZV:F7 s.sgn n0 w0 n1 w1= -1:=by
  unfold Pt.cmp at Hc;rw[g0,g1,<-RQ]at Hc;exact Hc
 have RO:F7 s.sgn n1 w1 n0 w0=1:=by
  unfold Pt.cmp' at Mu;rw[g0,g1,<-RQ]at Mu;exact Mu
 have hO:=hF.2.2.2.2.2.1 ((A9 B.c k).laid.getD (A9 B.c k).t0 (0,[])) (by rw[Qj,B8 hF.1];exact LL _)
 have Mz:(A9 B.c k).g0 B.c=(n0,w0):=g0
 unfold Pt.g0 MF at Mz
 have VL:(A9 B.c (k+1)).t0=_:=if_pos Hc
 have VM:(A9 B.c (k+1)).t1=_:=if_pos Hc
 obtain⟨s',v',hd,hI⟩:=pq (m:=m) (told:=AA (.lst [.str [45,49], .str [49], .str [48]])) (c15:=AA (.int (-n0))) (s1:={s with h0:=AB}) h hc h6 ((if_pos Hc:(A9 B.c k).ch B.c=_).trans g0) (by rw[<-(Up Mz).1];exact P8 hO.2.1) (by rw[<-(Up Mz).2];exact UP hO.2.2.2.1) rfl rfl rfl rfl rfl rfl (VL▸h.l.up Va) (VM▸h.r) (.inl rfl) (.inr (VM▸hF.2.1))
 refine⟨s',k+1,a0,a1,b0,b1,?_,hI⟩
 rw[M5]
 exact pN (Bb5 ZV RO (by rw[Il];exact hd))
theorem Ao5(Va:s.l.h≠AB)(Vb:s.r.h≠AB)(Hc:(A9 B.c k).cmp B.c=1)(Mu:(A9 B.c k).cmp' B.c= -1):NE B D s m 2 0:=by
 have hF:=(h.okF hc h6).1
 obtain⟨n0,w0,g0⟩:∃n w,(A9 B.c k).g0 B.c=(n,w):=⟨_,_,rfl⟩
 obtain⟨n1,w1,g1⟩:∃n w,(A9 B.c k).g1 B.c=(n,w):=⟨_,_,rfl⟩
 have q0:s.h0=AA (n0,w0):=(h.l.front Va).1.trans (congrArg AA g0)
 have q1:s.h1=AA (n1,w1):=(h.r.front Vb).1.trans (congrArg AA g1)
 have M5:s={s with h0:=AA (n0,w0),h1:=AA (n1,w1)}:=by rw[<-q0,<-q1]
 have Il:({s with h0:=AA (n0,w0),h1:=AB}:AS)={s with h1:=AB}:=by rw[<-q0]
 have RQ:=congrArg By.sgn (congrArg Cr.c h.base)
 have ZV:F7 s.sgn n0 w0 n1 w1=1:=by
  unfold Pt.cmp at Hc;rw[g0,g1,<-RQ]at Hc;exact Hc
 have RO:F7 s.sgn n1 w1 n0 w0= -1:=by
  unfold Pt.cmp' at Mu;rw[g0,g1,<-RQ]at Mu;exact Mu
 have hO:=hF.2.2.2.2.2.1 ((A9 B.c k).laid.getD (A9 B.c k).t1 (0,[])) (by rw[Qj,B8 hF.2.1];exact LL _)
 have Mz:(A9 B.c k).g1 B.c=(n1,w1):=g1
 unfold Pt.g1 MF at Mz
 have VL:(A9 B.c (k+1)).t0=_:=if_neg (by rw[Hc];decide)
 have VM:(A9 B.c (k+1)).t1=_:=if_neg (by rw[Hc];decide)
 obtain⟨s',v',hd,hI⟩:=pq (m:=m) (told:=AA (.lst [.str [49], .str [45,49], .str [48]])) (c15:=AA (.int (-n1))) (s1:={s with h1:=AB}) h hc h6 ((if_neg (by rw[Hc];decide):(A9 B.c k).ch B.c=_).trans g1) (by rw[<-(Up Mz).1];exact P8 hO.2.2.1) (by rw[<-(Up Mz).2];exact UP hO.2.2.2.2) rfl rfl rfl rfl rfl rfl (VL▸h.l) (VM▸h.r.up Vb) (.inr (VL▸hF.1)) (.inl rfl)
 refine⟨s',k+1,a0,a1,b0,b1,?_,hI⟩
 rw[M5]
 exact pN (Bb6 ZV RO (by rw[Il];exact hd))
theorem AZ8:s.deeds≠[]:=by
 have hF:=(h.okF hc h6).1
 have V8:∀{q:List AV},gd q≠[]->q.isEmpty=AD:=λ{q} hq=>by
  cases q with
  |nil=>exact absurd rfl hq
  |cons a r=>rfl
 have jb:∀{b:Bool} {x:CV},(if b=AC then []else [x])=[]->b=AC:=λ{b x} e=>by
  cases b with
  |true=>rfl
  |false=>first|exact Af e|cases e
 have ZX:∀{b:Bool} {x:CV},(if b=AC then [x]else [])=[]->b=AD:=λ{b x} e=>by
  cases b with
  |true=>first|exact Af e|cases e
  |false=>rfl
 intro hd
 unfold AS.deeds AS.deeds1 AS.deeds2 AS.deeds3 at hd
 have hd:=Yh.mp hd
 have d3:=ZX hd.2
 have hd:=Yh.mp hd.1
 have d1:=Yh.mp hd.1
 have d2:=Yh.mp hd.2
 have out:∀{t f ch nm S a b},SI (A9 B.c k).laid t f ch B.nC nm S a b->S.qi.isEmpty=AC->t<(A9 B.c k).laid.length->(!S.qo.isEmpty&&S.h.isNone)=AD->S.h.isSome=AC:=λ{t f ch nm S a b} I e ht hd=>by
  have g:=I.qi
  rw[Uc.mp e]at g
  cases hh:S.h with
  |some x=>rfl
  |none=>
   have hq:S.qo.isEmpty=AD:=V8 λz=>by
    rw[I.qo]at z
    have z:=J1.mp (Ym.mp z)
    rw[JE,I.free hh,wP (J1.mp g.symm)]at z
    exact absurd ht (IV z)
   rw[hh,hq]at hd;first|exact Af hd|cases hd
 rw[show s.h0.isSome=AC from out h.l (jb d1.1) hF.1 (ZX d2.1),show s.h1.isSome=AC from out h.r (jb d1.2) hF.2.1 (ZX d2.2)]at d3
 cases d3
theorem An8{x:CV}(hx:x∈s.deeds):∃a b:Nat,x=pr a b/\NE B D s m a b:=by
 have Lu:∀{b:Bool} {x y:CV},x∈(if b=AC then [y]else [])->b=AC/\x=y:=λ{b x y} e=>by
  cases b with
  |true=>exact⟨rfl,Ca.mp e⟩
  |false=>first|exact Af e|cases e
 have ka:∀{q:List AV} {x y:CV},x∈(if q.isEmpty=AC then []else [y])->(∃L r,q=L::r)/\x=y:=λ{q x y} e=>by
  cases q with
  |nil=>first|exact Af e|cases e
  |cons L r=>exact⟨⟨L,r,rfl⟩,Ca.mp e⟩
 have jY:∀{q:List AV} {o:Option (Int×T)},(!q.isEmpty&&o.isNone)=AC->(∃L r,q=L::r)/\o=AB:=λ{q o} e=>by
  cases q with
  |nil=>first|exact Af e|cases e
  |cons L r=>cases o with
   |none=>exact⟨⟨L,r,rfl⟩,rfl⟩
   |some x=>cases e
 unfold AS.deeds AS.deeds1 AS.deeds2 AS.deeds3 at hx
 rcases D8.mp hx with hx|hx
 ·rcases D8.mp hx with hx|hx
  ·rcases D8.mp hx with hx|hx
   ·obtain⟨⟨L,r,e⟩,hx⟩:=ka hx
    exact⟨0,0,hx,An9 h hc h6 e⟩
   ·obtain⟨⟨L,r,e⟩,hx⟩:=ka hx
    exact⟨0,1,hx,Ao0 h hc h6 e⟩
  ·rcases D8.mp hx with hx|hx
   ·obtain⟨e,hx⟩:=Lu hx
    obtain⟨⟨L,r,e⟩,hn⟩:=jY e
    exact⟨1,0,hx,Ao2 h hc e hn⟩
   ·obtain⟨e,hx⟩:=Lu hx
    obtain⟨⟨L,r,e⟩,hn⟩:=jY e
    exact⟨1,1,hx,Ao3 h hc e hn⟩
 ·obtain⟨e,hx⟩:=Lu hx
  have e0:s.l.h≠AB:=λq=>by rw[show s.h0=AB from q]at e;first|exact Af e|cases e
  have e1:s.r.h≠AB:=λq=>by rw[show s.h1=AB from q,Bool.and_comm]at e;first|exact Af e|cases e
  exact⟨2,0,hx,((h.okF hc h6).1).2.2.1.elim (λq=>Ao4 h hc h6 e0 e1 q.1 q.2) λq=>Ao5 h hc h6 e0 e1 q.1 q.2⟩
end
noncomputable def Nd:Nat->List CV->List CV
 |_,[]=>[]
 |k,x::r=> .tup [.int k,x]::Nd (k+1) r
theorem Ab3(l:List CV):∀k n:Nat,(Nd k l)[n]? =l[n]?.map λx=>CV.tup [.int ((k+n:Nat):Int),x]:=by
 induction l with
 |nil=>exactλk n=>rfl
 |cons x r ih=>exactλk n=>match n with
  |0=>rfl
  |n+1=>(ih (k+1) n).trans (by rw[Er];rfl)
theorem Ab4(l:List CV):∀k,(Nd k l).length=l.length:=by
 induction l with
 |nil=>exactλ_=>rfl
 |cons x r ih=>exactλk=>congrArg (·+1) (ih (k+1))
theorem AH2{d:DL}{g:DG}{b:DS}{cs:List CV}{v:AY}{o:AL}{r:RS}(h:d v o= .ok [.lst cs] o)(k:GU g b (Nd 0 cs) v o=r):NU d g b v o=r:=by
 unfold NU
 rw[h]
 refine gp ?_ k
 rw[<-Po (src:=YA cs) (l:=Nd 0 cs) (rest:=Nd 0 cs) (n:=0) (λ_ n=>by rw[Ab3,IX];rfl) rfl,Ab4]
 rfl
section
variable{o:AL}{i j:Nat}{l:List CV}{x c:CV}
theorem stO(h:o[i]? =AA (.list l))(hj:j<l.length)(hl:l.length<=16777216):Ff (.obj i) (.int j) c o= .ok () (o.set i (.list (l.set j c))):=by
 unfold Ff
 rw[show GP o (.obj i)=AA (i,l) by show G1 (λa=>(i,a)) (o[i]?.bind EI)=_;rw[h];rfl]
 exact if_pos ⟨Fi j,J0.mpr hj,hl⟩
end
theorem cell_step{cells:List Int}(H3:cells.length=12)(hp:∀x∈cells,0<=x)(k:Nat)(n:Int){v0:Option CV}{rest:AY}:∃Ge:List Int,(Ge.length=12/\∀x∈Ge,0<=x)/\
  AM fg AZ (v0::AA (.obj 0)::AA (.int k)::AA (.int n)::rest) [.list (cells.map .int)]= .next (v0::AA (.obj 0)::AA (.int k)::AA (.int n)::rest) [.list (Ge.map .int)]:=by
 have hj:k % 12<cells.length:=by simp only[H3];exact Dw k (by decide)
 refine⟨cells.set (k % 12) (cells[k % 12]+n.fmod 1000000),⟨by rw[Ud,H3],λx hx=>(List.mem_or_eq_of_mem_set hx).elim (hp x) λe=>e▸(Int.add_nonneg (hp _ (LL hj)) (Int.fmod_nonneg_of_pos n (by decide)):0<=cells[k % 12]+n.fmod 1000000)⟩,?_⟩
 have hs:=stO (o:=[.list (cells.map CV.int)]) (i:=0) (j:=k % 12) (c:= .int (cells[k % 12]+n.fmod 1000000)) rfl (by rw[Ay];exact hj) (by rw[Ay,H3];decide)
 rw[<-List.map_set]at hs
 exact Sq (ly rfl (Bn rfl rfl (FB (n:=12) (by decide))) (W' rfl (C4 (H3▸hj) (by decide)) (by rw[Cm,B8 hj];rfl)) (Bn rfl (Bn rfl rfl rfl) rfl) rfl hs) rfl
noncomputable def nM:List Int:=[1375,2911,5005,9581,10,680,25,2175,2036,5455,481,521560]
theorem AS5{v0:Option CV}{rest:AY}(ns:List Int):∀{k:Nat} {cells:List Int} {c2 c3:Option CV},cells.length=12->(∀x∈cells,0<=x)->∃(Ge:List Int) (H0 Fp:Option CV),(Ge.length=12/\∀x∈Ge,0<=x)/\
  GU (DA 2 (A5 (AX 2) (A5 (AX 3) CS))) (AM fg AZ) (Nd k (ns.map .int)) (v0::AA (.obj 0)::c2::c3::rest) [.list (cells.map .int)]= .next (v0::AA (.obj 0)::H0::Fp::rest) [.list (Ge.map .int)]:=by
 induction ns with
 |nil=>exactλ{k cells c2 c3} h hp=>⟨cells,c2,c3,⟨h,hp⟩,rfl⟩
 |cons n r ih=>
  intro k cells c2 c3 h hp
  refine A3 (cell_step (v0:=v0) (rest:=rest) h hp k n) λBg1 aG=>?_
  refine Hr (ih (k:=k+1) (c2:=AA (.int k)) (c3:=AA (.int n)) aG.1.1 aG.1.2) λGe H0 Fp k7=>?_
  exact⟨Ge,H0,Fp,k7.1,Ln rfl aG.2 k7.2⟩
noncomputable abbrev vW(w0:CV)(w2 w3 w4 w5 w6 w7 w8 w9 w10 w11:Option CV):AY:=[AA w0,AA (.obj 0),w2,w3,w4,w5,w6,w7,w8,w9,w10,w11,AB,AB,AB,AB,AB,AB,AB,AB,AB,AB,AB,AB]
theorem UD{l:List CV}{x y:CV}{o:AL}{p q:Option Int}(hp:F5 o x=AA p)(hq:F5 o y=AA q)(h:l.length<=Ah):C1 [.lst l,x,y] o= .ok (.lst (Cy l p q)) o:=by
 refine Hg ?_
 show((F5 o x).elim R.no λp=>(F5 o y).elim R.no λq=>if l.length<=Ah then R.ok (CV.lst (Cy l p q)) o else .no)=_
 rw[hp,hq]
 exact if_pos h
theorem Aq6{PF:List Int}(hl:PF.length<=63):∃(Ge:List Int) (H0 Fp:Option CV),(Ge.length=12/\∀x∈Ge,0<=x)/\
  bx (vW (.lst (PF.map .int)) AB AB AB AB AB AB AB AB AB AB) [.list (nM.map .int)]= .next (vW (.lst (PF.map .int)) H0 Fp AB AB AB AB AB AB AB AB) [.list (Ge.map .int)]:=by
 refine Hr (AS5 (v0:=AA (.lst (PF.map .int))) (rest:=Ep 20 AB) (PF.take 60) (k:=0) (c2:=AB) (c3:=AB) (cells:=nM) rfl (by decide)) λGe H0 Fp AB1=>?_
 obtain⟨h,e⟩:=AB1
 rw[Ue,<-NT]at e
 exact⟨Ge,H0,Fp,h,AH2 (Cn (Hf rfl rfl rfl (UD (p:=AB) (q:=AA (60:Nat)) rfl rfl (show(PF.map CV.int).length<=16777216 by rw[Ay];exact AO (by assumption) (by decide)))) rfl) e⟩
noncomputable section
theorem qX{P:Nat->Prop}(h0:P 0)(h1:P 1):∀{n},n<2->P n
 |0,_=>h0
 |1,_=>h1
 |n+2,h=>absurd h (Cp.mpr (JG 2 n))
theorem XN{P:Nat->Prop}(h0:P 0)(h1:P 1)(h2:P 2)(h3:P 3)(h4:P 4)(h5:P 5):∀{n},n<6->P n
 |0,_=>h0
 |1,_=>h1
 |2,_=>h2
 |3,_=>h3
 |4,_=>h4
 |5,_=>h5
 |n+6,h=>absurd h (Cp.mpr (JG 6 n))
noncomputable def IG:List CV:=[.tup [.tup [.str [126], .int 0, .str [60,112,62]], .str [123,112,125]], .tup [.tup [.str [126], .int 0, .str [113,34]], .str [113,34]], .tup [.tup [.str [46,114], .int 0, .str [60,115,62]], .str [46,114,58,48,40,60,115,62,41]], .tup [.tup [.str [126], .int 12, .str [60,116,62]], .str [126,58,49,50,40,60,116,62,41]], .tup [.tup [.str [126], .int 0, .str [60,117]], .str [60,117]], .tup [.tup [.str [126], .int 0, .str [119,62]], .str [119,62]]]
noncomputable def rB:List T:=[[123,112,125],[113,34],[46,114,58,48,40,60,115,62,41],[126,58,49,50,40,60,116,62,41],[60,117],[119,62]]
noncomputable def D4(m:Nat):List CV:=((IG++IG).drop m).take 3
noncomputable def D5(m i:Nat):T:=(rB++rB).getD (m+i) []
noncomputable abbrev NP(f:Nat->Int)(c:Nat):List Int:=[f 0,f 1,f 2,f 3,f 4,f 5,f 6,f 7,f 8,f 9,f 10,c]
noncomputable abbrev oC(f:Nat->Int)(c:Nat):AL:=[.list ((NP f c).map .int)]
noncomputable def EZ(c:By):CV:= .lst [.int c.f0, .int c.f1]
noncomputable abbrev B4(c:Nat):By:=Cw (c % 5) (c/5 % 4) (decide (c/120 % 2=0))
section
variable{f:Nat->Int}{c:Nat}{w0:CV}{w2 w3 w4 w5 w6 w7 w8 w9 w10 w11:Option CV}
theorem GQ{n:Nat}(h:0<n/\n<1073741824):AJ EJ (AJ AW (AF 1) (AG (.int 11))) (AG (.int n)) (vW w0 w2 w3 w4 w5 w6 w7 w8 w9 w10 w11) (oC f c)= .ok (.int (c/n:Nat)) (oC f c):=Bn (Bn rfl rfl rfl) rfl (Ix h)
theorem nI{n:Nat}(h:0<n):AJ Ck (AJ AW (AF 1) (AG (.int 11))) (AG (.int n)) (vW w0 w2 w3 w4 w5 w6 w7 w8 w9 w10 w11) (oC f c)= .ok (.int (c % n:Nat)) (oC f c):=Bn (Bn rfl rfl rfl) rfl (FB h)
theorem Ar6{r:RS}(k:fX (vW w0 w2 w3 (AA (.lst (D4 (c/20 % 6)))) (AA (EZ (B4 c))) (AA (.int (B4 c).sgn)) (AA (Cd (decide (c/240 % 2=0)))) AB AB AB AB) (oC f c)=r):fW (vW w0 w2 w3 AB AB AB AB AB AB AB AB) (oC f c)=r:=by
 have h1:1 - 2*((c/120 % 2:Nat):Int)=(B4 c).sgn:=qX (P:=λz=>1 - 2*(z:Int)=if decide (z=0)=AC then 1 else -1) rfl rfl (Dw _ (by decide))
 have e4:C1 [.lst (IG++IG), .int (c/20 % 6:Nat), .none] (oC f c)= .ok (.lst ((IG++IG).drop (c/20 % 6))) (oC f c):=by rw[<-nu];exact UD (p:=AA (c/20 % 6:Nat)) (q:=AB) rfl rfl (show 12<=16777216 by decide)
 have e5:C1 [.lst ((IG++IG).drop (c/20 % 6)), .none, .int (3:Nat)] (oC f c)= .ok (.lst (D4 (c/20 % 6))) (oC f c):=by
  unfold D4;rw[<-NT];exact UD (p:=AB) (q:=AA (3:Nat)) rfl rfl (by rw[OI];exact AO (Um _ _) (show 12<=16777216 by decide))
 rw[<-h1]at k
 exact Sq (a:=cB) (b:=sO) (by kernel_rfl:cB (vW w0 w2 w3 AB AB AB AB AB AB AB AB) (oC f c)= .next (vW w0 w2 w3 (AA (.lst (IG.take 4))) AB AB AB AB AB AB AB) (oC f c)) (Sq (a:=oH) (b:=sP) (As (Hf (Hf (by kernel_rfl:(AJ FD (AJ Ai (AF 4) (BU (AH (A2 (AH (A2 (AH (AG (.str [126])) (AH (AG (.int 0)) (AH (AG (.str [60,117])) AP)))) (AH (AG (.str [60,117])) AP))) (AH (A2 (AH (A2 (AH (AG (.str [126])) (AH (AG (.int 0)) (AH (AG (.str [119,62])) AP)))) (AH (AG (.str [119,62])) AP))) AP)))) (AG (.int 2))) (vW w0 w2 w3 (AA (.lst (IG.take 4))) AB AB AB AB AB AB AB) (oC f c)= .ok (.lst (IG++IG)) (oC f c)) (Bn (GQ (n:=20) (by decide)) rfl (FB (n:=6) (by decide))) rfl e4) rfl rfl e5) rfl)
  (Sq (a:=oI) (b:=sQ) (As (Ls (Cn (Bn rfl (nI (n:=5) (by decide)) rfl) (Cn (Bn rfl (Bn (Bn (Bn (nI (n:=5) (by decide)) rfl rfl) (Bn (GQ (n:=5) (by decide)) rfl (FB (n:=4) (by decide))) rfl) rfl (FB (k:=c % 5+1+c/5 % 4) (n:=5) (by decide))) rfl) rfl)) (show 2<=Ah by decide)) rfl)
  (Sq (a:=oJ) (b:=fX) (Ag (Tp (Cn (Bn rfl (Bn rfl (Bn (GQ (n:=120) (by decide)) rfl (FB (n:=2) (by decide))) rfl) rfl) (Cn (Bn (by kernel_rfl) (Bn (GQ (n:=240) (by decide)) rfl (FB (n:=2) (by decide))) (qX (P:=λz=>AW [.lst [.tup [.int 0, .int 1], .tup [.int 2, .int (-1)]], .int z] (oC f c)= .ok (Cd (decide (z=0))) (oC f c)) rfl rfl (Dw _ (by decide)):AW [.lst [.tup [.int 0, .int 1], .tup [.int 2, .int (-1)]], .int (c/240 % 2:Nat)] (oC f c)= .ok (Cd (decide (c/240 % 2=0))) (oC f c))) rfl)) (show 2<=Ah by decide)) rfl) k)))
noncomputable def tT(cells:List Int)(nA nB nC:T)(f0 f1:Int)(u:Bool)(sg:Int):AS:={cells:=cells,q0:=[],q1:=[],q2:=[],q3:=[],h0:=AB,h1:=AB,rows:=[([110,49],[115])],fst:=[([110,49],[115])],m0:=0,m1:=0,ck:=[],cn:=[],b0:=⟨0,0,0,0,[],[]⟩,b1:=⟨0,0,0,0,[],[]⟩,nA:=nA,nB:=nB,nC:=nC,f0:=f0,f1:=f1,up:=u,sgn:=sg}
noncomputable def o6(f:Nat->Int)(c:Nat)(a b d:T):AL:=oC f c++[.list [.str [], .str [], .str [], .str []], .list [], .list [], .list [], .list [], .list [.none, .none], .dict (.s (ua.take 4)) [.lst [.str a, .str b, .str d], .obj 1, .lst [.obj 2, .obj 3, .obj 4, .obj 5], .obj 6]]
noncomputable def l6(f:Nat->Int)(c:Nat)(w0:CV)(w2 w3 w5 w6 w7:Option CV)(m:Nat):RS:=cD (vW w0 w2 w3 (AA (.lst (D4 m))) w5 w6 w7 AB AB AB AB) (oC f c)
noncomputable def m6(f:Nat->Int)(c:Nat)(w0:CV)(w2 w3 w5 w6 w7:Option CV)(m:Nat):RS:= .next (vW w0 w2 w3 (AA (.lst (D4 m))) w5 w6 w7 (AA (.obj 7)) AB AB AB) (o6 f c (D5 m 0) (D5 m 1) (D5 m 2))
theorem Ar7{m:Nat}(hm:m<6):l6 f c w0 w2 w3 w5 w6 w7 m=m6 f c w0 w2 w3 w5 w6 w7 m:=XN (P:=λm=>l6 f c w0 w2 w3 w5 w6 w7 m=m6 f c w0 w2 w3 w5 w6 w7 m) (by kernel_rfl) (by kernel_rfl) (by kernel_rfl) (by kernel_rfl) (by kernel_rfl) (by kernel_rfl) hm
noncomputable def l78(f:Nat->Int)(c:Nat)(a b d:T)(f0 f1 sg:Int)(w0:CV)(w2 w3 w4:Option CV)(u:Bool):RS:=AM cE cF (vW w0 w2 w3 w4 (AA (.lst [.int f0, .int f1])) (AA (.int sg)) (AA (Cd u)) (AA (.obj 7)) AB AB AB) (o6 f c a b d)
noncomputable def m78(f:Nat->Int)(c:Nat)(a b d:T)(f0 f1 sg:Int)(w0:CV)(w2 w3 w4:Option CV)(u:Bool):RS:= .next (vW w0 w2 w3 w4 (AA (.lst [.int f0, .int f1])) (AA (.int sg)) (AA (Cd u)) (AA (.obj 7)) AB AB AB) (tT (NP f c) a b d f0 f1 u sg).objs
theorem Ar8{a b d:T}{f0 f1 sg:Int}:∀u,l78 f c a b d f0 f1 sg w0 w2 w3 w4 u=m78 f c a b d f0 f1 sg w0 w2 w3 w4 u
 |true=>by kernel_rfl
 |false=>by kernel_rfl
theorem Sq2{a b e:DS}{v v':AY}{o o':AL}{r:RS}(h:AM a b v o= .next v' o')(k:e v' o'=r):AM a (AM b e) v o=r:=by
 have:AM a (AM b e) v o=AM (AM a b) e v o:=by
  unfold AM
  cases a v o with
  |next v1 o1=>show _=RS.bind (b v1 o1) e;rfl
  |_=>rfl
 rw[this];exact Sq h k
end
end
theorem rO:FS 1:=P8 (by decide+kernel)
theorem uc:HA [115]:=(UP (by decide)).1
noncomputable abbrev B0(f:Nat->Int)(c:Nat):Cr:=⟨NP f c,D5 (c/20 % 6) 0,D5 (c/20 % 6) 1,D5 (c/20 % 6) 2,decide (c/240 % 2=0),B4 c⟩
noncomputable abbrev s0(f:Nat->Int)(c:Nat):AS:=tT (NP f c) (D5 (c/20 % 6) 0) (D5 (c/20 % 6) 1) (D5 (c/20 % 6) 2) (B4 c).f0 (B4 c).f1 (decide (c/240 % 2=0)) (B4 c).sgn
theorem Ao1{f:Nat->Int}{c k:Nat}:G9 (B0 f c) 0 ((s0 f c).pushL (Dz (s0 f c) k 2 1 [115]) .both) 0 0 0 0 0:=by
 have Rm:=XK (s:=s0 f c) (k:=k) (who:=2) (n:=1) (w:=[115])
 have V8:∀{ch:Nat} {fa:Int} {nm:T},SI [(1,[115])] 0 fa ch (D5 (c/20 % 6) 2) nm ⟨Dz (s0 f c) k 2 1 [115],[],AB,0,⟨0,0,0,0,[],[]⟩⟩ 0 0:=⟨.inl ⟨rfl,rfl⟩,BL _,D2 _,TH,rfl,(Np rO uc:LQ (D5 (c/20 % 6) 2) (Dz (s0 f c) k 2 1 [115])),λL h=>absurd h D9,rfl,rfl⟩
 exact{prev:=λj hj=>absurd hj (iO j),l:=V8,r:=V8,ck:=rfl,cn:=rfl,rows:=(by decide+kernel:Nq [([110,49],[115])]=ME [(1,[115])]),nms:=λr hr=>Ca.mp hr▸(show 2<=1000 by decide),fst:=rfl,cnt:=by show 0+((Dz _ _ _ _ _).length+(Dz _ _ _ _ _).length+0+0)<=4*1+2*0+2*0+0;exact AO (BR (IX _)) (show _+_<=2+2 from Bf Rm Rm),base:=rfl}
noncomputable abbrev vM(w0:CV)(w2 w3 w4 w5 w6 w7 w9 w10 w11:Option CV):AY:=vW w0 w2 w3 w4 w5 w6 w7 (AA (.obj 7)) w9 w10 w11
theorem Ar9{f:Nat->Int}{c:Nat}{w0:CV}{w2 w3 w4 w5 w6 w7 w9 w10 w11:Option CV}:cG (vM w0 w2 w3 w4 w5 w6 w7 w9 w10 w11) (s0 f c).objs= .next (vM w0 w2 w3 w4 w5 w6 w7 w9 w10 w11) ((s0 f c).pushL (Dz (s0 f c) (c/480) 2 1 [115]) .both).objs:=by
 have hp:=XI (s:=s0 f c) (N:=0) ⟨(⟨λL h=>absurd h D9,BL _⟩:EE 0 ([]:List AV)),(⟨λL h=>absurd h D9,BL _⟩:EE 0 ([]:List AV)),(⟨λL h=>absurd h D9,BL _⟩:EE 0 ([]:List AV)),(⟨λL h=>absurd h D9,BL _⟩:EE 0 ([]:List AV))⟩ (by decide) (t:= .both) (k:=c/480) (who:=2) rO uc (by decide)
 rw[Xq]at hp
 exact Ex (Cl (Cn rfl (Cn (Ls (Cn rfl (Cn rfl rfl)) (show 2<=Ah by decide)) (Cn (Bn (Bn rfl rfl rfl) rfl (Ix (n:=480) (by decide))) (Cn rfl (Cn rfl (Cn rfl rfl)))))) hp)
theorem Fb{src:Cv}{g:DG}{b:DS}{f i:Nat}{v v1 v2:AY}{o o1 o2:AL}{c:CV}(h:src o i=AA (AA c))(hg:g c v o= .next v1 o1)(hb:b v1 o1= .brk v2 o2):ID src g b (f+1) i v o= .next v2 o2:=dw h hg hb
section
variable{w0:CV}{w2 w3 w4 w5 w6 w7 w9 w10 w11:Option CV}{s:AS}
theorem A46{q:Nat}{o:AL}(h:q<=1000):LB [.int 5, .int q] o= .ok (.int (5^q:Nat)) o:=by
 refine(if_pos ?_).trans ?_
 ·simp only[decide_eq_true (Fi q),decide_eq_true (show(q:Int)<=1000 by exact JB.mpr (by assumption))];rfl
 ·exact congrArg (λz=>R.ok (CV.int z) o) (Int.natCast_pow 5 q).symm
theorem Aa2{i:Nat}(H3:s.cells.length=12)(hp:∀x∈s.cells,0<=x)(hi:i<51):∃n:Nat,fh (vM w0 w2 w3 w4 w5 w6 w7 (AA (.int i)) w10 w11) s.objs= .next (vM w0 w2 w3 w4 w5 w6 w7 (AA (.int i)) (AA (.int n)) (AA (.lst s.deeds))) s.objs:=by
 have hj:i % 11<s.cells.length:=by simp only[H3];exact C4 (Dw i (by decide)) (by decide:11<12)
 obtain⟨y,hy⟩:=Int.eq_ofNat_of_zero_le (hp _ (LL hj))
 have h5:5^(i/11)<=5^4:=Nat.pow_le_pow_right (by decide) (MX (iK (C4 hi (by decide:51<11*5))):i/11<=4)
 exact⟨y/5^(i/11),Ag (Tp (Cn (Bn (Bn rfl (Bn rfl rfl (FB (n:=11) (by decide))) (W' (l:=s.cells.map .int) rfl (by exact C4 (Dw _ (by decide)) (by decide)) (by simp only[Cm,B8 hj,hy];rfl):AW [.obj 0, .int (i % 11:Nat)] s.objs= .ok (.int y) s.objs)) (Bn rfl (Bn rfl rfl (Ix (n:=11) (by decide))) (A46 (AO (Nat.div_le_self i 11) (AO (Et hi) (by decide))))) (Ix ⟨Nat.pow_pos (by decide),by exact Bg (by assumption) (by decide)⟩)) (Cn (Cl (Cn rfl rfl) As2) rfl)) (show 2<=Ah by decide)) rfl⟩
theorem TT{α:Type}{X:AL->CV->Option α}{F:α->AL->R CV}{a:α}{x:CV}{o:AL}(hx:X o x=AA a):Eb X F [x] o=F a o:=by show(X o x).elim _ _=_;rw[hx];rfl
theorem fA{α β:Type}{a:α}{o:AL}{F:α->AL->R β}:(R.ok a o).bind F=F a o:=rfl
theorem As7{C:AK}{g:PG}{c:CV}{o:AL}{n:Nat}(hi:Cz C "__len__" o c=AC)(hg:g [c] o= .ok (.int n) o)(hn:n<=1000):fH C g [c] o= .ok (.int n) o:=by
 refine Hg ((TT (X:=Sd C "__len__") (a:=c) (if_pos hi)).trans ?_)
 rw[hg,fA,show Bq o (.int (n:Int))=AA (n:Int)from rfl,Option.elim_some,if_pos (⟨Fi _,Yb (b:=1000) (JB.mpr hn) (by decide)⟩:0<=(n:Int)/\(n:Int)<2^62)]
theorem BF6(h:s.rows.length<=1000)(hn:∀p∈s.rows,p.1.length<=1000):I6 [.obj 9] s.objs= .ok (.int s.rows.length) s.objs:=by
 exact(F4 rfl).trans (As7 (TL (o:=s.objs) (i:=9) rfl (by decide):Cz 295 "__len__" s.objs (.obj 9)=AC) (Al3 (s.tab h hn)) h)
theorem stop{n:Option CV}(h:s.rows.length<=1000)(hn:∀p∈s.rows,p.1.length<=1000):GS (Aq (AJ BV (A_ I6 (AH (AJ AW (AF 8) (AG (.str [115,101,101,110]))) AP)) (AG (.int 6)))) (GS (Aq (AJ BV (AF 11) (BU AP))) Pf) (vM w0 w2 w3 w4 w5 w6 w7 w9 n (AA (.lst s.deeds))) s.objs= .ok (decide (s.rows.length=6)||s.deeds.isEmpty) s.objs:=by
 have e1:Aq (AJ BV (A_ I6 (AH (AJ AW (AF 8) (AG (.str [115,101,101,110]))) AP)) (AG (.int 6))) (vM w0 w2 w3 w4 w5 w6 w7 w9 n (AA (.lst s.deeds))) s.objs= .ok (decide (s.rows.length=6)) s.objs:=
  Te (Bn (Cl (Cn (Bn rfl rfl rfl) rfl) (BF6 h hn)) rfl rfl) (by
   by_cases e:s.rows.length=6
   ·rw[decide_eq_true e,e];rfl
   ·rw[decide_eq_false e];exact beq_eq_false_iff_ne.mpr λq=>e (Ye q))
 have e2:Aq (AJ BV (AF 11) (BU AP)) (vM w0 w2 w3 w4 w5 w6 w7 w9 n (AA (.lst s.deeds))) s.objs= .ok s.deeds.isEmpty s.objs:=Te (Bn rfl (Ls (cs:=[]) rfl (show 0<=Ah by decide)) (show BV [.lst s.deeds, .lst []] s.objs= .ok (.bool s.deeds.isEmpty) s.objs by cases s.deeds<;>rfl)) rfl
 cases h0:decide (s.rows.length=6)with
 |true=>exact Ot (e1.trans (by rw[h0]))
 |false=>cases hd:s.deeds.isEmpty with
  |true=>exact Of (e1.trans (by rw[h0])) (Ot (e2.trans (by rw[hd])))
  |false=>exact Of (e1.trans (by rw[h0])) (Of (e2.trans (by rw[hd])) rfl)
theorem Aa0{n a b:Nat}(hx:s.deeds[n % s.deeds.length]? =AA (pr a b))(hl:s.deeds.length<=100){r:AL}(hr:Hl [.obj 7, .int a, .int b, .int (n/5:Nat)] s.objs= .ok .none r):
  fm (vM w0 w2 w3 w4 w5 w6 w7 w9 (AA (.int n)) (AA (.lst s.deeds))) s.objs= .next (vM w0 w2 w3 w4 w5 w6 w7 w9 (AA (.int n)) (AA (.lst s.deeds))) r:=by
 have CY:=(Gb.mp hx).1
 have e1:I6 [.lst s.deeds] s.objs= .ok (.int s.deeds.length) s.objs:=Hg (Hg ((TT (X:=Cj) (a:=s.deeds) rfl).trans (if_pos (show s.deeds.length<=16777216 by exact AO (by assumption) (by decide)))))
 have e3:AW [.lst s.deeds, .int (n % s.deeds.length:Nat)] s.objs= .ok (pr a b) s.objs:=by
  refine Hg ((HK (X:=Cj) (Y:=Bq) (a:=s.deeds) (b:=(n % s.deeds.length:Nat)) rfl rfl).trans ?_)
  unfold Iv
  rw[if_pos (MP (by exact CI (by assumption) (AO (by assumption) (by decide)))),Kq,hx];rfl
 exact Ex (Cl (Cn rfl (Cn (Bn (Bn rfl (Bn rfl (Cl (Cn rfl rfl) e1) (FB (by exact Bg (D2 _) (by assumption)))) e3:AJ AW (AF 11) (AJ Ck (AF 10) (A_ I6 (AH (AF 11) AP))) (vM w0 w2 w3 w4 w5 w6 w7 w9 (AA (.int n)) (AA (.lst s.deeds))) s.objs= .ok (pr a b) s.objs) rfl rfl) (Cn (Bn (Bn rfl (Bn rfl (Cl (Cn rfl rfl) e1) (FB (by exact Bg (D2 _) (by assumption)))) e3:AJ AW (AF 11) (AJ Ck (AF 10) (A_ I6 (AH (AF 11) AP))) (vM w0 w2 w3 w4 w5 w6 w7 w9 (AA (.int n)) (AA (.lst s.deeds))) s.objs= .ok (pr a b) s.objs) rfl rfl) (Cn (Bn rfl rfl (Ix (n:=5) (by decide))) rfl)))) hr)
end
theorem AZ7(s:AS):s.deeds.length<=100:=by
 unfold AS.deeds AS.deeds1 AS.deeds2 AS.deeds3
 cases s.q0.isEmpty<;>cases s.q1.isEmpty<;>cases (!s.q2.isEmpty&&s.h0.isNone)<;>cases (!s.q3.isEmpty&&s.h1.isNone)<;>cases (s.h0.isSome&&s.h1.isSome)<;>exact of_decide_eq_true rfl
inductive AI4(B:Cr)(w0:CV)(w2 w3 w4 w5 w6 w7 w9 w10 w11:Option CV)(f i:Nat)(s:AS):Prop
 |mk (s':AS) (D k' jQ jR jS jT:Nat) (c9 c10 GQ:Option CV) (e:ID (YB 51) (AX 9) (AM fh (AM sz (AM fm AZ))) (f+1) i (vM w0 w2 w3 w4 w5 w6 w7 w9 w10 w11) s.objs= .next (vM w0 w2 w3 w4 w5 w6 w7 c9 c10 GQ) s'.objs) (h:G9 B D s' k' jQ jR jS jT) (h6:(A9 B.c k').laid.length=6)
theorem Av0{B:Cr}(hc:V' B.c)(H3:B.cells.length=12)(hp:∀x∈B.cells,0<=x){w0:CV}{w2 w3 w4 w5 w6 w7:Option CV}(f:Nat):∀{i:Nat} {s:AS} {k a0 a1 b0 b1:Nat} {w9 w10 w11:Option CV},G9 B i s k a0 a1 b0 b1->i+f=51->AI4 B w0 w2 w3 w4 w5 w6 w7 w9 w10 w11 f i s:=by
 induction f with
 |zero=>
  intro i s k a0 a1 b0 b1 w9 w10 w11 h hi
  refine⟨s,i,k,a0,a1,b0,b1,w9,w10,w11,F0 ?_,h,Qd λe=>?_⟩
  ·show AA (if i<51 then _ else _)=_;rw[if_neg (IV (BR (show i=51 from hi).symm))]
  ·exact absurd (AO (BR hi.symm) (h.ends hc e)) (by decide)
 |succ f ih=>
  intro i s k a0 a1 b0 b1 w9 w10 w11 h hi
  have je:i<51:=hi▸Qq (IW f)
  have hs:YB 51 s.objs i=AA (AA (.int i)):=by show AA (if i<51 then _ else _)=_;rw[if_pos je]
  obtain⟨n,hn⟩:=Aa2 (w0:=w0) (w2:=w2) (w3:=w3) (w4:=w4) (w5:=w5) (w6:=w6) (w7:=w7) (w10:=w10) (w11:=w11) (s:=s) (by rw[show s.cells=_ from(congrArg Cr.cells h.base)];exact H3) (by rw[show s.cells=_ from(congrArg Cr.cells h.base)];exact hp) je
  have M3:=h.rlen
  have y8:=h.len6 hc
  have ht:=stop (w0:=w0) (w2:=w2) (w3:=w3) (w4:=w4) (w5:=w5) (w6:=w6) (w7:=w7) (w9:=AA (.int i)) (n:=AA (.int n)) (s:=s) (AO (BR M3) (AO y8.1 (by decide))) h.nms
  by_cases h6:(A9 B.c k).laid.length=6
  ·rw[M3,h6]at ht
   exact⟨s,i,k,a0,a1,b0,b1,_,_,_,Fb hs rfl (Sq hn (Sb (It ht rfl))),h,h6⟩
  ·have B3:=AZ8 h hc h6
   have CY:n % s.deeds.length<s.deeds.length:=Dw _ (List.length_pos_iff.mpr B3)
   refine B7 (An8 (m:=n/5) h hc h6 (LL CY)) λa b AB2=>?_
   obtain⟨hx,s',k',jQ,jR,jS,jT,hd,hI⟩:=AB2
   obtain⟨s2,D,k2,x0,x1,y0,y1,d9,Ez,Fq,e1,e2,e3⟩:=ih (w9:=AA (.int i)) (w10:=AA (.int n)) (w11:=AA (.lst s.deeds)) hI ((Uo i f).trans hi)
   refine⟨s2,D,k2,x0,x1,y0,y1,d9,Ez,Fq,Fn hs rfl (Sq hn (Sq (If (ht.trans ?_) rfl) (Sq (Aa0 (by simp only[B8 CY,hx]) (AZ7 s) hd) rfl))) e1,e2,e3⟩
   rw[decide_eq_false (by rw[M3];exact h6)]
   cases hq:s.deeds with
   |nil=>exact absurd hq B3
   |cons=>rfl
noncomputable section
noncomputable def Pu(x:Int):List Int->List Int
 |[]=>[x]
 |y::r=>if x<=y then x::y::r else y::Pu x r
noncomputable def Nl:List Int->List Int
 |[]=>[]
 |x::r=>Pu x (Nl r)
theorem pi(x:Int)(l:List Int):(Pu x l).Perm (x::l):=by
 induction l with
 |nil=>exact .refl _
 |cons y r ih=>
  unfold Pu
  split
  ·exact .refl _
  ·exact(ih.cons y).trans (.swap x y r)
theorem pj(l:List Int):(Nl l).Perm l:=by
 induction l with
 |nil=>exact .refl _
 |cons x r ih=>exact(pi x _).trans (ih.cons x)
theorem An1(x:Int){l:List Int}(h:l.Pairwise (·<=·)):(Pu x l).Pairwise (·<=·):=by
 induction l with
 |nil=>exact JF.mpr ⟨λa h=>absurd h D9, .nil⟩
 |cons y r ih=>
  unfold Pu
  split
  ·rename_i Vk
   exact JF.mpr ⟨λa ha=>(Cf.mp ha).elim (λe=>e▸Vk) λe=>OF Vk ((JF.mp h).1 a e),h⟩
  ·rename_i Vk
   exact JF.mpr ⟨λa ha=>(Cf.mp ((pi x r).mem_iff.mp ha)).elim (λe=>e▸OE (Qg.mp Vk)) ((JF.mp h).1 a),ih (JF.mp h).2⟩
theorem An2(l:List Int):(Nl l).Pairwise (·<=·):=by
 induction l with
 |nil=>exact .nil
 |cons x r ih=>exact An1 x ih
theorem BO5(a:List Int):∀{b:List Int},a.Perm b->a.Pairwise (·<=·)->b.Pairwise (·<=·)->a=b:=by
 induction a with
 |nil=>exactλp _ _=>p.nil_eq
 |cons x a ih=>
  intro b p ha hb
  cases b with
  |nil=>exact absurd p.length_eq (λh=>by cases h)
  |cons y b=>
   have ha:=JF.mp ha
   have e:x=y:=gr ((Cf.mp (p.mem_iff.mpr CP)).elim (λe=>e▸YZ _) (ha.1 y)) ((Cf.mp (p.mem_iff.mp CP)).elim (λe=>e▸YZ _) ((JF.mp hb).1 x))
   subst e
   rw[ih p.cons_inv ha.2 (JF.mp hb).2]
theorem Ap0(l:List Int):W_ l=Nl l:=by
 have h:=vy (le:=λa b:Int=>decide (a<=b)) (λa b c h1 h2=>decide_eq_true (OF (of_decide_eq_true h1) (of_decide_eq_true h2))) (λa b=>Hs.mpr ((Int.le_total a b).imp decide_eq_true decide_eq_true)) l
 exact BO5 _ ((vr l _).trans (pj l).symm) (h.imp λh=>of_decide_eq_true h) (An2 l)
noncomputable def iter(c:By):Nat->Pt->Pt
 |0,p=>p
 |f+1,p=>if p.laid.length=6 then p else iter c f (p.step c)
noncomputable abbrev BQ(c:By):Pt:=iter c 9 Pt.start
theorem Ap3{c:By}(k:Nat):∀{f:Nat} {p:Pt},k<=f->(∀j<k,(Jo c p j).laid.length≠6)->(Jo c p k).laid.length=6->iter c f p=Jo c p k:=by
 induction k with
 |zero=>exactλ{f p} _ _ h=>match f with
  |0=>rfl
  |f+1=>if_pos h
 |succ k ih=>exactλ{f p} hk hj h=>match f with
  |0=>absurd hk (wR k)
  |f+1=>(if_neg (hj 0 (IW k))).trans ((ih (Hv hk) (λj Zn=>by rw[Py];exact hj (j+1) (wS Zn)) (by rw[Py];exact h)).trans (Py c p k))
noncomputable def Ea(c:By):List CV:=(BQ c).laid.map λq=> .int q.1
noncomputable def gX(c:By):CO:= .dict (.i ((BQ c).laid.map (·.1))) ((BQ c).laid.map λq=> .str q.2)
noncomputable def Hh(c:By):List CV:=((BQ c).ck.zip (BQ c).cn).map λq=> .tup [.int q.1, .int q.2]
noncomputable def Jw(c:By):List CV:=(BQ c).laid.map λq=> .tup [.str (110::Az q.1), .str q.2]
noncomputable def I7(c:By):List Int:=(Eo 6).flatMap λa=>(Eo 6).map λb=>c.f0^a*c.f1^b
theorem lt5{P:Nat->Prop}(h0:P 0)(h1:P 1)(h2:P 2)(h3:P 3)(h4:P 4){n:Nat}(h:n<5):P n:=XN (P:=λn=>n<5->P n) (λ_=>h0) (λ_=>h1) (λ_=>h2) (λ_=>h3) (λ_=>h4) (λh=>absurd h (Eu 5)) (Qr h) h
theorem mO{P:Nat->Nat->Prop}(h0:P 0 0/\P 0 1/\P 0 2/\P 0 3)(h1:P 1 0/\P 1 1/\P 1 2/\P 1 3)(h2:P 2 0/\P 2 1/\P 2 2/\P 2 3)(h3:P 3 0/\P 3 1/\P 3 2/\P 3 3)(h4:P 4 0/\P 4 1/\P 4 2/\P 4 3){x y:Nat}(hx:x<5)(hy:y<4):P x y:=
 have q {x:Nat} (h:P x 0/\P x 1/\P x 2/\P x 3):P x y:=XN (P:=λy=>y<4->P x y) (λ_=>h.1) (λ_=>h.2.1) (λ_=>h.2.2.1) (λ_=>h.2.2.2) (λh=>absurd h (Eu 4)) (λh=>absurd h (by decide)) (C4 hy (by decide)) hy
 lt5 (P:=λx=>P x y) (q h0) (q h1) (q h2) (q h3) (q h4) hx
theorem BC3:∀x<5,∀y<4,∀b:Bool,(I7 (Cw x y b)).all B1=AC/\(I7 (Cw x y b)).length<4000/\(Gp (I7 (Cw x y b))).length<64/\(Nl (Gp (I7 (Cw x y b)))).take 6=(BQ (Cw x y b)).laid.map (·.1):=by decide+kernel
theorem az(l:List Int)(h:l.all B1=AC):Gm (l.map .int)=AA l:=by
 induction l with
 |nil=>rfl
 |cons a r ih=>
  show(Gm (r.map .int)).bind _=_
  rw[ih (BB h).2];exact if_pos (BB h).1
end
noncomputable section
noncomputable abbrev vE(w0:CV)(w2 w3 w4 w5 w6 w7 w9 w10 w11 v12 v13 v14 v15 v16 v17 v18 v19 v20 v21 v22 v23:Option CV):AY:=[AA w0,AA (.obj 0),w2,w3,w4,w5,w6,w7,AA (.obj 7),w9,w10,w11,v12,v13,v14,v15,v16,v17,v18,v19,v20,v21,v22,v23]
noncomputable def cQ:D:=CL [AB,AB,AA 5] (.list []) (A_ Ny (AH (AG (.int 6)) AP)) (AX 0) El (Su (A_ Ny (AH (AG (.int 6)) AP)) (AX 1) El (CC (AJ FD (AJ LB (AJ AW (AF 2) (AG (.int 0))) (AF 0)) (AJ LB (AJ AW (AF 2) (AG (.int 1))) (AF 1)))))
section
variable{w0:CV}{w2 w3 w4 w5 w6 w7 w9 w10 w11 v12 v13 v14 v15 v16 v17 v18 v19 v20 v21 v22 v23:Option CV}{x y:Nat}{b:Bool}{o:AL}{s:AS}
noncomputable def lR(w0:CV)(w2 w3 w4 w6 w7 w9 w10 w11:Option CV)(o:AL)(b:Bool)(x y:Nat):R CV:=cQ (vE w0 w2 w3 w4 (AA (EZ (Cw x y b))) w6 w7 w9 w10 w11 AB AB AB AB AB AB AB AB AB AB AB AB) o
noncomputable def mR(o:AL)(b:Bool)(x y:Nat):R CV:= .ok (.lst ((I7 (Cw x y b)).map .int)) o
theorem BC4(hx:x<5)(hy:y<4):lR w0 w2 w3 w4 w6 w7 w9 w10 w11 o b x y=mR o b x y:=
 mO (P:=λx y=>lR w0 w2 w3 w4 w6 w7 w9 w10 w11 o b x y=mR o b x y) ⟨by kernel_rfl,by kernel_rfl,by kernel_rfl,by kernel_rfl⟩ ⟨by kernel_rfl,by kernel_rfl,by kernel_rfl,by kernel_rfl⟩ ⟨by kernel_rfl,by kernel_rfl,by kernel_rfl,by kernel_rfl⟩ ⟨by kernel_rfl,by kernel_rfl,by kernel_rfl,by kernel_rfl⟩ ⟨by kernel_rfl,by kernel_rfl,by kernel_rfl,by kernel_rfl⟩ hx hy
theorem Aq7(hx:x<5)(hy:y<4):bz (vE w0 w2 w3 w4 (AA (EZ (Cw x y b))) w6 w7 w9 w10 w11 AB AB AB AB AB AB AB AB AB AB AB AB) o= .next (vE w0 w2 w3 w4 (AA (EZ (Cw x y b))) w6 w7 w9 w10 w11 (AA (.lst (Ea (Cw x y b)))) AB AB AB AB AB AB AB AB AB AB AB) o:=by
 have Vx:=BC3 x hx y hy b
 have hr:cQ (vE w0 w2 w3 w4 (AA (EZ (Cw x y b))) w6 w7 w9 w10 w11 AB AB AB AB AB AB AB AB AB AB AB AB) o= .ok (.lst ((I7 (Cw x y b)).map .int)) o:=BC4 hx hy
 have hs:NW (AH cQ AP) (vE w0 w2 w3 w4 (AA (EZ (Cw x y b))) w6 w7 w9 w10 w11 AB AB AB AB AB AB AB AB AB AB AB AB) o= .ok (.lst ((Nl (Gp (I7 (Cw x y b)))).map .int)) o:=by
  unfold NW AH
  rw[hr,fA]
  show((Gm ((I7 (Cw x y b)).map .int)).elim R.no (λns=>if ns.length<4000 then R.ok ns o else .no)).bind _=_
  rw[az _ Vx.1]
  show(if(I7 (Cw x y b)).length<4000 then R.ok (I7 (Cw x y b)) o else .no).bind _=_
  rw[if_pos Vx.2.1,fA,if_pos Vx.2.2.1,Ap0]
 have hn:Ea (Cw x y b)=Cy ((Nl (Gp (I7 (Cw x y b)))).map .int) AB (AA (6:Nat)):=by
  rw[NT,<-Ue,Vx.2.2.2,Hu];rfl
 rw[hn]
 exact As (Hf hs rfl rfl (UD (p:=AB) (q:=AA (6:Nat)) rfl rfl (show _<=16777216 by rw[Ay,(pj _).length_eq];lia))) rfl
noncomputable def IP:RS->AY
 | .next v _=>v
 |_=>[]
noncomputable def HI(s:AS)(w0:CV)(w2 w3 w4 w7 w9 w10 w11:Option CV)(b:Bool)(x y:Nat):RS:=AM b5 (AM b6 b7) (vE w0 w2 w3 w4 (AA (EZ (Cw x y b))) (AA (.int (Cw x y b).sgn)) w7 w9 w10 w11 (AA (.lst (Ea (Cw x y b)))) AB AB AB AB AB AB AB AB AB AB AB) s.objs
noncomputable def qe(s:AS)(w0:CV)(w2 w3 w4 w7 w9 w10 w11:Option CV)(b:Bool)(x y:Nat):RS:= .next (vE w0 w2 w3 w4 (AA (EZ (Cw x y b))) (AA (.int (Cw x y b).sgn)) w7 w9 w10 w11 (AA (.lst (Ea (Cw x y b)))) (AA (.obj 14)) (AA (.obj 15)) ((IP (HI s w0 w2 w3 w4 w7 w9 w10 w11 b x y)).getD 15 AB) ((IP (HI s w0 w2 w3 w4 w7 w9 w10 w11 b x y)).getD 16 AB) (AA (.obj 10)) (AA (.lst (Jw (Cw x y b)))) AB AB AB AB AB) (s.objs++[gX (Cw x y b), .list (Hh (Cw x y b))])
theorem Aq8(hx:x<5)(hy:y<4):∀b,HI s w0 w2 w3 w4 w7 w9 w10 w11 b x y=qe s w0 w2 w3 w4 w7 w9 w10 w11 b x y:=λb=>
 mO (P:=λx y=>∀b,HI s w0 w2 w3 w4 w7 w9 w10 w11 b x y=qe s w0 w2 w3 w4 w7 w9 w10 w11 b x y) ⟨λ|true=>by kernel_rfl|false=>by kernel_rfl,λ|true=>by kernel_rfl|false=>by kernel_rfl,λ|true=>by kernel_rfl|false=>by kernel_rfl,λ|true=>by kernel_rfl|false=>by kernel_rfl⟩
  ⟨λ|true=>by kernel_rfl|false=>by kernel_rfl,λ|true=>by kernel_rfl|false=>by kernel_rfl,λ|true=>by kernel_rfl|false=>by kernel_rfl,λ|true=>by kernel_rfl|false=>by kernel_rfl⟩
  ⟨λ|true=>by kernel_rfl|false=>by kernel_rfl,λ|true=>by kernel_rfl|false=>by kernel_rfl,λ|true=>by kernel_rfl|false=>by kernel_rfl,λ|true=>by kernel_rfl|false=>by kernel_rfl⟩
  ⟨λ|true=>by kernel_rfl|false=>by kernel_rfl,λ|true=>by kernel_rfl|false=>by kernel_rfl,λ|true=>by kernel_rfl|false=>by kernel_rfl,λ|true=>by kernel_rfl|false=>by kernel_rfl⟩
  ⟨λ|true=>by kernel_rfl|false=>by kernel_rfl,λ|true=>by kernel_rfl|false=>by kernel_rfl,λ|true=>by kernel_rfl|false=>by kernel_rfl,λ|true=>by kernel_rfl|false=>by kernel_rfl⟩ hx hy b
end
end
noncomputable def AS.objs2(s:AS)(c:By):AL:=s.objs++[gX c, .list (Hh c)]
theorem nV{α:Type}(f:α->CV)(n:Nat)(h:∀a,C8 n (f a)=AC)(l:List α):C9 n (l.map f)=AC:=by
 induction l with
 |nil=>rfl
 |cons a r ih=>show(C8 n (f a)&&C9 n (r.map f))=AC;rw[h,ih];rfl
theorem AS.clo2(s:AS)(c:By):Ch (s.objs2 c):=by
 show(s.objs++[gX c, .list (Hh c)]).all (H' 16)=AC
 rw[gu,show s.objs.all (H' 16)=AC from s.cloN 2]
 show(AC&&(C9 16 _&&(C9 16 _&&AC)))=AC
 rw[nV _ _ λ_=>rfl,show C9 16 (Hh c)=AC from nV _ _ (λ_=>rfl) _];rfl
theorem AS.tab2(s:AS)(c:By)(h:s.rows.length<=1000)(hn:∀p∈s.rows,p.1.length<=1000):Gk (s.objs2 c) 9 8 s.rows:=⟨s.clo2 c,rfl,rfl,h,hn⟩
theorem na{I:AY->Prop}{src:Cv}{g:DG}{e:D}{l:List CV}{o:AL}{f:CV->CV}(hs:∀n,src o n=AA l[n]?)(hx:∀x∈l,∀v,I v->∃v',g x v o= .next v' o/\I v'/\e v' o= .ok (f x) o)(r:List CV):∀{n:Nat} {v:AY} {acc:List CV},I v->l.drop n=r->acc.length+r.length<=16777216->
  ∃v',C_ src g El (CC e) (r.length+1) n v o (.list acc)= .ok (v', .list (acc++r.map f)) o:=by
 induction r with
 |nil=>exactλ{n v acc} _ h _=>⟨v,by rw[Yo,BJ];exact aX (by rw[hs,Ga (J1.mp h)])⟩
 |cons x r ih=>
  intro n v acc hv h hl
  rw[Du]at hl
  refine A3 (hx x (Dv (L8 h).2.1) v hv) λv' aH=>?_
  obtain⟨v2,k⟩:=ih (n:=n+1) (acc:=acc++[f x]) aH.2.1 (L8 h).2.2.1 (by rw[A1];show _+1+_<=_;exact AO (BR (Er _ 1 _)) hl)
  exact⟨v2,WA (by rw[hs,(L8 h).2.1]) aH.1 rfl aH.2.2 (CI (Qq (IW _)) hl) (by rw[B2]at k;exact k)⟩
theorem tS{o:AL}{j:Nat}{l:List CV}(h:o[j]? =AA (.list l)):Hp o (.obj j)=AA (I_ j,l.length+1):=by
 show(o[j]?.bind EI).map _=_;rw[h];rfl
theorem tR{o:AL}{j:Nat}{l:List CV}(h:o[j]? =AA (.list l))(n:Nat):I_ j o n=AA l[n]?:=by
 show(o[j]?.bind EI).map _=_;rw[h];rfl
theorem AK9{o:AL}{j:Nat}{l:List CV}(h:o[j]? =AA (.list l)):Cj o (.obj j)=AA l:=by
 show o[j]?.bind EI=_;rw[h];rfl
theorem AT0{n:Nat}{l:List CV}(h:∀c∈l,Bz n c c=AA AC):Ei (Bz n) l l=AA AC:=by
 induction l with
 |nil=>rfl
 |cons c r ih=>exact DW (h c CP) (ih λx hx=>h x (Ef _ hx))
theorem WX{α:Type}{n:Nat}(f:α->CV)(h:∀a,Bz n (f a) (f a)=AA AC)(l:List α):Ei (Bz n) (l.map f) (l.map f)=AA AC:=AT0 λc hc=>by
 obtain⟨a,_,rfl⟩:=HS.mp hc;exact h a
theorem bM{n:Nat}(a b:T):Bz (n+2) (.tup [.str a, .str b]) (.tup [.str a, .str b])=AA AC:=DW (HD a) (DW (HD b) rfl)
theorem AS2{n:Nat}(a b:Int):Bz (n+2) (.tup [.int a, .int b]) (.tup [.int a, .int b])=AA AC:=DW (Jg a) (DW (Jg b) rfl)
theorem ee{l:List CV}{y:CV}{o:AL}(hy:Cj o y=AA l)(h:Ei (Bz 60) l l=AA AC):Dq [.lst l,y] o= .ok (.bool AD) o:=
 (F4 (MG rfl)).trans ((F4 (MG rfl)).trans ((F4 (MG rfl)).trans ((HK (X:=Cj) (Y:=Cj) (a:=l) (b:=l) rfl hy).trans (by rw[h];rfl))))
theorem oh{l:List CV}{o:AL}(h:Ei (Bz 60) l l=AA AC):BV [.lst l, .lst l] o= .ok (.bool AC) o:=
 (HK (X:=FV) (Y:=FV) (a:= .lst l) (b:= .lst l) rfl rfl).trans (by rw[show Si o (.lst l) (.lst l)=AA AC from h];rfl)
section
variable{w0:CV}{w2 w3 w4 w5 w6 w7 w9 w10 w11 v12 v13 v15 v16 v19 v20 v21 v22 v23:Option CV}{s:AS}{c:By}
noncomputable def qV:CV->CV
 | .tup [.str a,b]=> .tup [.str (BD a),b]
 |x=>x
theorem BU6{o:AL}{v:AY}{e:D}(he:e v o= .ok (.obj 9) o){rows:FU}(T:Gk o 9 8 rows):BC MD e AP v o= .ok (.lst (rows.map Bv)) o:=by
 exact Ms (is:=Cz 295 "items") (fv:= .ref 259) (g:=Pq) he (MT (TL T.inst (by decide:("_headers":AQ)≠"items"))) rfl (pR T)
theorem Aq9(h1:s.rows.length<=1000)(h2:∀p∈s.rows,p.1.length<=1000)(Gf:s.fst=s.rows)(Vi:Nq s.rows=ME (BQ c).laid)(Mr:s.ck=(BQ c).ck)(DQ:s.cn=(BQ c).cn)(Ft:s.cn.length<=100):
  b8 (vE w0 w2 w3 w4 w5 w6 w7 w9 w10 w11 v12 v13 (AA (.obj 15)) v15 v16 (AA (.obj 10)) (AA (.lst (Jw c))) v19 v20 v21 v22 v23) (s.objs2 c)= .next (vE w0 w2 w3 w4 w5 w6 w7 w9 w10 w11 v12 v13 (AA (.obj 15)) v15 v16 (AA (.obj 10)) (AA (.lst (Jw c))) v19 v20 v21 v22 v23) (s.objs2 c):=by
 have hf:(s.objs2 c)[10]? =AA (.list (s.rows.map Bv)):=by rw[<-Gf];rfl
 have CZ:(s.rows.map Bv).map qV=Jw c:=by
  have:=congrArg (iC λq:T×T=>CV.tup [.str q.1, .str q.2]) Vi
  rw[Hu,Hu]at this
  rw[Hu];exact this
 obtain⟨v',k⟩:=na (o:=s.objs2 c) (src:=I_ 10) (g:=DA 2 (A5 (AX 0) (A5 (AX 1) CS))) (e:=A2 (AH (BC Jq (AF 0) AP) (AH (AF 1) AP))) (l:=s.rows.map Bv) (f:=qV) (I:=λv=>∃a b,v=[a,b]) (tR hf)
  (λx hx v hv=>by
   refine A3 (HS.mp hx) λp k8=>?_
   obtain rfl:=k8.2
   refine B7 (hv) λa b AB3=>?_
   obtain rfl:=AB3
   exact⟨[AA (.str p.1),AA (.str p.2)],rfl,⟨_,_,rfl⟩,Tp (Cn (Ms rfl rfl rfl (P1 (AO (h2 p k8.1) (by decide)))) (Cn rfl rfl)) (show 2<=Ah by decide)⟩)
  (s.rows.map Bv) (n:=0) (v:=[AB,AB]) (acc:=[]) ⟨_,_,rfl⟩ rfl (show 0+_<=_ by rw[Ay];exact AO (EP (by assumption) _) (by decide))
 rw[Ug,CZ]at k
 have y_:Xk [.itm (L7 s.ck) (s.cn.map .int)] (s.objs2 c)= .ok (.lst (Hh c)) (s.objs2 c):=by
  refine(TT (X:=WP) (a:=(L7 s.ck,s.cn.map .int)) rfl).trans ((if_pos (show _<=16777216 by rw[Ay];exact AO (by assumption) (by decide))).trans ?_)
  rw[show Jp (L7 s.ck)=s.ck.map .int from KI.keys s.ck,show(((s.ck.map CV.int).zip (s.cn.map CV.int)).map λp=>CV.tup [p.1,p.2])=_ from gf KI,Mr,DQ];rfl
 exact If (Of (Te (Bn (Cs (a:=AF 17) (v:=vE w0 w2 w3 w4 w5 w6 w7 w9 w10 w11 v12 v13 (AA (.obj 15)) v15 v16 (AA (.obj 10)) (AA (.lst (Jw c))) v19 v20 v21 v22 v23) (tls:=[AB,AB]) rfl rfl (tS hf) k) (e:=AF 18) rfl (ee (l:=Jw c) rfl (WX _ (λ_=>bM _ _) _))) rfl) (Of (Te (Bn (BU6 (Bn rfl rfl rfl) (s.tab2 c h1 h2)) rfl (ee (AK9 hf) (WX _ (λ_=>bM _ _) _))) rfl)
  (Of (Te (Bn (Cl (Cn (Ms (g:=Xi) (Bn rfl rfl rfl) rfl rfl rfl) rfl) y_) rfl (ee (l:=Hh c) rfl (WX _ (λ_=>AS2 _ _) _))) rfl) rfl))) rfl
end
noncomputable abbrev Jd(c:By):Prop:=(BQ c).laid.length=6/\(∀q∈(BQ c).laid,B1 q.1=AC)/\((BQ c).laid.map (·.2)).Nodup/\((BQ c).laid.map (·.1)).Nodup/\B1 (BQ c).cn.sum=AC/\(BQ c).cn.all B1=AC/\(BQ c).cn.length<=20/\(BQ c).ck.length=(BQ c).cn.length/\B1 c.f0=AC/\B1 c.f1=AC
theorem Pn:∀x<5,∀y<4,∀b:Bool,Jd (Cw x y b):=by decide+kernel
theorem bI{a b c d a' b' c' d':Int}{k k':List T}{v v':List Int}(h1:a=a')(h2:b=b')(h3:c=c')(h4:d=d')(h5:k=k')(h6:v=v'):Bk.mk a b c d k v=Bk.mk a' b' c' d' k' v':=by subst h1 h2 h3 h4 h5 h6;rfl
theorem AP9(f:Int)(l:List (Int×T)):∀{b:Bk},(b.ks++l.map (·.2)).Nodup->b.ks.length=b.vs.length->
  l.foldl (λb q=>b.add q.1 (q.1*f) q.2) b=⟨b.a+l.length,b.b+2*l.length,b.c+(l.map (·.1)).sum,b.d+f*(l.map (·.1)).sum,b.ks++l.map (·.2),b.vs++Ep l.length 1⟩:=by
 induction l with
 |nil=>exactλ{b} _ _=>bI (Qf _).symm (Qf _).symm (Qf _).symm (by show b.d=b.d+f*0;rw[Int.mul_zero,Qf]) (BJ _).symm (BJ _).symm
 |cons q r ih=>
  intro b hn hl
  have hb:Cb b.ks b.vs q.2=(b.ks++[q.2],b.vs++[1]):=by unfold Cb;rw[Aq1 (λhm=>(Yr.mp hn).2.2 _ hm _ CP rfl:q.2∉b.ks)];rfl
  have e:b.add q.1 (q.1*f) q.2=⟨1+b.a,2+b.b,q.1+b.c,q.1*f+b.d,b.ks++[q.2],b.vs++[1]⟩:=by unfold Bk.add;rw[hb]
  rw[Ua,e,ih (by rw[B2];exact hn) (by simp only[A1,A1,hl];rfl)]
  refine bI ?_ ?_ ?_ ?_ (B2 _ _ _) (B2 _ _ _)
  ·show 1+b.a+(r.length:Int)=b.a+((r.length+1:Nat):Int);rw[Qe 1 b.a,UX,Qe 1];rfl
  ·show 2+b.b+2*(r.length:Int)=b.b+2*((r.length+1:Nat):Int);rw[Qe 2 b.b,UX,Qe 2];exact congrArg (b.b+·) (Int.mul_add 2 (r.length:Int) 1).symm
  ·simp only[J3,MV];show q.1+b.c+_=_;rw[Qe q.1 b.c,UX]
  ·simp only[J3,MV,Int.mul_add,Int.mul_comm f q.1];show q.1*f+b.d+_=_;rw[Qe (q.1*f),UX]
theorem AQ0(f:Int){l:List (Int×T)}(h:(l.map (·.2)).Nodup):Jf f l=⟨l.length,2*l.length,(l.map (·.1)).sum,f*(l.map (·.1)).sum,l.map (·.2),Ep l.length 1⟩:=
 (AP9 f l (b:=⟨0,0,0,0,[],[]⟩) h rfl).trans (bI (Qh _) (Qh _) (Qh _) (Qh _) rfl rfl)
theorem Aq2{α:Type}(v:α){ks:List T}{x:T}(h:x∈ks):B5 ks (Ep ks.length v) x=AA v:=by
 induction ks with
 |nil=>first|exact Af h|cases h
 |cons a r ih=>
  show(if a=x then AA v else B5 r (Ep r.length v) x)=_
  split
  ·rfl
  ·rename_i e;exact ih ((Cf.mp h).resolve_left λq=>e q.symm)
theorem AS7{f:CV->CV->Option Bool}{v:CV}(hf:f v v=AA AC){CB:List T}(ks:List T):(∀x∈ks,x∈CB)->NQ f CB (Ep CB.length v) ks (Ep ks.length v)=AA AC:=by
 induction ks with
 |nil=>exactλ_=>rfl
 |cons a r ih=>
  intro h
  show((B5 CB _ a).elim (AA AD) (f v)).bind (λe=>(NQ f CB _ r (Ep r.length v)).map (e&&·))=_
  rw[Aq2 v (h a CP),ih λx hx=>h x (Ef _ hx)]
  show(f v v).bind _=_;rw[hf];rfl
noncomputable abbrev P_(ks:List T):CV:= .dct (.s ks) ((Ep ks.length (1:Int)).map .int)
theorem AS3{n:Nat}(ks:List T):Bz (n+2) (P_ ks) (P_ ks)=AA AC:=by
 show(NQ (Bz (n+1)) ks _ ks _).map _=_
 rw[List.map_replicate,AS7 (Jg 1) ks λ_ h=>h]
 rw[beq_self_eq_true];rfl
theorem Az0{l:List CV}{o:AL}(h:Ei (Bz 59) l l=AA AC):Dq [.tup l, .tup l] o= .ok (.bool AD) o:=
 (F4 (MG rfl)).trans ((F4 (MG rfl)).trans (Hg ((HK (X:=H9) (Y:=H9) (a:=l) (b:=l) rfl rfl).trans (by rw[h];rfl))))
theorem AZ9{o:AL}{src:Cv}{W:List (Int×T)}(hw:∀q∈W,AW [.obj 14, .int q.1] o= .ok (.str q.2) o)(hs:∀n,src o n=AA (W.map λq=>CV.int q.1)[n]?)(r:List (Int×T)):∀{n:Nat} {c0:Option CV} {ks:List T} {vs:List Int},W.drop n=r->(ks++r.map (·.2)).Nodup->ks.length=vs.length->vs.length+r.length<=1000->
  ∃Ie,C_ src (AX 0) El (Ku (AJ AW (AF 1) (AF 0)) (AG (.int 1))) (r.length+1) n [c0,AA (.obj 14)] o (.dict (.s ks) (vs.map .int))= .ok ([Ie,AA (.obj 14)], .dict (.s (ks++r.map (·.2))) ((vs++Ep r.length 1).map .int)) o:=by
 induction r with
 |nil=>exactλ{n c0 ks vs} h _ _ _=>⟨c0,by simp only[Yo,BJ,vn,List.replicate_zero,BJ];exact aX (by simp only[hs,Cm,Ga (J1.mp h)];rfl)⟩
 |cons q r ih=>
  intro n c0 ks vs h hn hl hv
  rw[Du]at hv
  obtain⟨Ie,k⟩:=ih (n:=n+1) (c0:=AA (.int q.1)) (ks:=ks++[q.2]) (vs:=vs++[1]) (L8 h).2.2.1 (by rw[B2];exact hn) (by simp only[A1,A1,hl];rfl) (by rw[A1];show _+1+_<=_;exact AO (BR (Er _ 1 _)) hv)
  refine⟨Ie,?_⟩
  show(src o n).elim _ _=_
  simp only[hs,Cm,(L8 h).2.1]
  show(Ku _ _ [AA (.int q.1),AA (.obj 14)] o (.dict (.s ks) (vs.map .int))).opt.elim _ _=_
  have e:Ku (AJ AW (AF 1) (AF 0)) (AG (.int 1)) [AA (.int q.1),AA (.obj 14)] o (.dict (.s ks) (vs.map .int))= .ok ([AA (.int q.1),AA (.obj 14)], .dict (.s (ks++[q.2])) ((vs++[1]).map .int)) o:=by
   unfold Ku
   rw[show AJ AW (AF 1) (AF 0) [AA (.int q.1),AA (.obj 14)] o= .ok (.str q.2) o from Bn rfl rfl (hw q (Dv (L8 h).2.1))]
   show(if(vs.map CV.int).length<=Ah then(Kt (.s ks) (vs.map CV.int) (.str q.2) (.int 1)).elim R.no _ else .no)=_
   rw[if_pos (show _<=16777216 by rw[Ay];exact AO (LN (by assumption)) (by decide)),show Kt (.s ks) (vs.map CV.int) (.str q.2) (.int 1)=AA (.s (Bj ks (vs.map CV.int) q.2 (CV.int 1)).1,(Bj ks (vs.map CV.int) q.2 (CV.int 1)).2)from rfl,XG CV.int ks vs q.2 1,eN (λhm=>(Yr.mp hn).2.2 _ hm _ CP rfl:q.2∉ks) hl];rfl
  simp only[e]
  rw[B2,B2]at k
  exact k
theorem Ap9{α β:Type}(g:β->Int)(h:β->α)(l:List β):(l.map g).Nodup->∀q∈l,B5 (l.map g) (l.map h) (g q)=AA (h q):=by
 induction l with
 |nil=>exactλ_ q hq=>absurd hq D9
 |cons a r ih=>
  intro hn q hq
  show(if g a=g q then AA (h a)else B5 (r.map g) (r.map h) (g q))=_
  rcases Cf.mp hq with e|e
  ·rw[e,if_pos rfl]
  ·rw[if_neg (λz:g a=g q=>(HT.mp hn).1 (z▸Qn e)),ih (HT.mp hn).2 q e]
section
variable{w0:CV}{w2 w3 w4 w6 w7 w9 w10 w11 v13 v14 v15 v16 v17 v18 v19 v20 v21 v22 v23:Option CV}{s:AS}{c:By}(hF:Jd c){a:Nat}(ha:a<=6)
include hF
theorem Bd5:∀q∈(BQ c).laid,AW [.obj 14, .int q.1] (s.objs2 c)= .ok (.str q.2) (s.objs2 c):=λq hq=>
 eI (ks:= .i ((BQ c).laid.map (·.1))) (vs:=(BQ c).laid.map λq=> .str q.2) rfl (congrArg AA (Ap9 (λq:Int×T=>q.1) (λq:Int×T=>CV.str q.2) (BQ c).laid hF.2.2.2.1 q hq))
theorem YF(o:AL):N1 [.lst (((BQ c).laid.take a).map λq=> .int q.1)] o= .ok (.int (((BQ c).laid.take a).map (·.1)).sum) o:=by
 have h1:=az (((BQ c).laid.take a).map (·.1)) (FF.mpr λx hx=>by
  refine A3 (HS.mp hx) λq k9=>?_
  obtain rfl:=k9.2
  exact hF.2.1 q (vp k9.1))
 rw[Hu]at h1
 refine(TT (X:=λo c=>(Cj o c).bind Gm) (a:=((BQ c).laid.take a).map λq:Int×T=>q.1) (x:= .lst (((BQ c).laid.take a).map λq:Int×T=> .int q.1)) (o:=o) h1).trans (if_pos ?_)
 rw[Ay,JE,hF.1];exact AO (Uj _ _) (by decide)
theorem TR{v:AY}{o:AL}(H3:AF 12 v o= .ok (.lst (Ea c)) o)(ZZ:AF 20 v o= .ok (.int a) o):DY C1 (AF 12) (AG .none) (AF 20) v o= .ok (.lst (((BQ c).laid.take a).map λq=> .int q.1)) o:=by
 rw[Ue,<-NT]
 exact Hf H3 rfl ZZ (UD (l:=Ea c) (p:=AB) (q:=AA (a:Nat)) rfl rfl (show(Ea c).length<=16777216 by unfold Ea;rw[Ay,hF.1];decide))
include ha
theorem oO{v:AY}(H3:AF 12 v (s.objs2 c)= .ok (.lst (Ea c)) (s.objs2 c))(ZZ:AF 20 v (s.objs2 c)= .ok (.int a) (s.objs2 c))(hv:Ej [AB,AA 13] v=[AB,AA (.obj 14)]):CL [AB,AA 13] (.dict (.s []) []) (DY C1 (AF 12) (AG .none) (AF 20)) (AX 0) El (Ku (AJ AW (AF 1) (AF 0)) (AG (.int 1))) v (s.objs2 c)= .ok (P_ (((BQ c).laid.take a).map (·.2))) (s.objs2 c):=by
 have hl:((BQ c).laid.take a).length=a:=by rw[JE,hF.1];exact LO ha
 obtain⟨Ie,k⟩:=AZ9 (o:=s.objs2 c) (src:=λ_ n=>AA (((BQ c).laid.take a).map λq=>CV.int q.1)[n]?) (W:=(BQ c).laid.take a) (λq hq=>Bd5 hF q (vp hq)) (λ_=>rfl) ((BQ c).laid.take a) (n:=0) (c0:=AB) (ks:=[]) (vs:=[]) rfl (by simp only[Ug,Ue];exact hF.2.2.1.take) rfl (by rw[hl];show 0+a<=1000;exact AO (EP (by assumption) _) (by decide))
 unfold CL P_
 rw[TR hF H3 ZZ]
 show(C_ _ _ _ _ ((((BQ c).laid.take a).map λq=>CV.int q.1).length+1) 0 (Ej [AB,AA 13] v) _ _).opt.elim _ _=_
 rw[Ay,hv]
 refine(congrArg (λr:R (AY×CO)=>r.opt.elim R.no λz=>(Kn z.1.2).elim R.no λy=>R.ok y z.2) k).trans ?_
 rw[Ay];rfl
noncomputable def Jj(c:By)(f:Int)(a:Nat):CV:= .tup [.int a, .int (2*a), .int (((BQ c).laid.take a).map (·.1)).sum, .int (f*(((BQ c).laid.take a).map (·.1)).sum),P_ (((BQ c).laid.take a).map (·.2))]
theorem m8{f:Int}:(Jf f ((BQ c).laid.take a)).cv=Jj c f a:=by
 have hl:((BQ c).laid.take a).length=a:=by rw[JE,hF.1];exact LO ha
 rw[AQ0 f (by rw[Ue];exact hF.2.2.1.take)]
 unfold Bk.cv Jj P_
 rw[Ay,hl]
omit hF ha in
theorem oW{f:Int}{o:AL}:Dq [Jj c f a,Jj c f a] o= .ok (.bool AD) o:=Az0 (DW (Jg _) (DW (Jg _) (DW (Jg _) (DW (Jg _) (DW (AS3 _) rfl)))))
theorem AP7(hm:s.m0=a)(hb:s.b0=Jf c.f0 ((BQ c).laid.take a)):AM fq (AM fj (AM fk AZ)) (vE w0 w2 w3 w4 (AA (EZ c)) w6 w7 w9 w10 w11 (AA (.lst (Ea c))) (AA (.obj 14)) v14 v15 v16 v17 v18 (AA (.int 0)) v20 v21 v22 v23) (s.objs2 c)=
  .next (vE w0 w2 w3 w4 (AA (EZ c)) w6 w7 w9 w10 w11 (AA (.lst (Ea c))) (AA (.obj 14)) v14 v15 v16 v17 v18 (AA (.int 0)) (AA (.int a)) (AA (Jj c c.f0 a)) v22 v23) (s.objs2 c):=by
 have h1:AW [.obj 11, .int 0] (s.objs2 c)= .ok (.int a) (s.objs2 c):=by rw[<-hm];rfl
 have h2:AW [.obj 12, .int 0] (s.objs2 c)= .ok (Jj c c.f0 a) (s.objs2 c):=by rw[<-m8 hF ha,<-hb];rfl
 exact Sq (As (Bn (Bn rfl rfl rfl) rfl h1) rfl) (Sq (v':=vE w0 w2 w3 w4 (AA (EZ c)) w6 w7 w9 w10 w11 (AA (.lst (Ea c))) (AA (.obj 14)) v14 v15 v16 v17 v18 (AA (.int 0)) (AA (.int a)) (AA (Jj c c.f0 a)) v22 v23)
  (As (Tp (Cn rfl (Cn (Bn rfl rfl rfl) (Cn (Cl (Cn (TR hF rfl rfl) rfl) (YF hF _)) (Cn (Bn (Bn rfl rfl rfl) (Cl (Cn (TR hF rfl rfl) rfl) (YF hF _)) (XR (by rw[hF.2.2.2.2.2.2.2.2.1];rfl))) (Cn (oO hF ha rfl rfl rfl) rfl))))) (show 5<=Ah by decide)) rfl) (Sq (If (Te (Bn (Bn (Bn rfl rfl rfl) rfl h2) rfl oW) rfl) rfl) rfl))
theorem AP8(hm:s.m1=a)(hb:s.b1=Jf c.f1 ((BQ c).laid.take a)):AM fq (AM fj (AM fk AZ)) (vE w0 w2 w3 w4 (AA (EZ c)) w6 w7 w9 w10 w11 (AA (.lst (Ea c))) (AA (.obj 14)) v14 v15 v16 v17 v18 (AA (.int 1)) v20 v21 v22 v23) (s.objs2 c)=
  .next (vE w0 w2 w3 w4 (AA (EZ c)) w6 w7 w9 w10 w11 (AA (.lst (Ea c))) (AA (.obj 14)) v14 v15 v16 v17 v18 (AA (.int 1)) (AA (.int a)) (AA (Jj c c.f1 a)) v22 v23) (s.objs2 c):=by
 have h1:AW [.obj 11, .int 1] (s.objs2 c)= .ok (.int a) (s.objs2 c):=by rw[<-hm];rfl
 have h2:AW [.obj 12, .int 1] (s.objs2 c)= .ok (Jj c c.f1 a) (s.objs2 c):=by rw[<-m8 hF ha,<-hb];rfl
 exact Sq (As (Bn (Bn rfl rfl rfl) rfl h1) rfl) (Sq (v':=vE w0 w2 w3 w4 (AA (EZ c)) w6 w7 w9 w10 w11 (AA (.lst (Ea c))) (AA (.obj 14)) v14 v15 v16 v17 v18 (AA (.int 1)) (AA (.int a)) (AA (Jj c c.f1 a)) v22 v23)
  (As (Tp (Cn rfl (Cn (Bn rfl rfl rfl) (Cn (Cl (Cn (TR hF rfl rfl) rfl) (YF hF _)) (Cn (Bn (Bn rfl rfl rfl) (Cl (Cn (TR hF rfl rfl) rfl) (YF hF _)) (XR (by rw[hF.2.2.2.2.2.2.2.2.2];rfl))) (Cn (oO hF ha rfl rfl rfl) rfl))))) (show 5<=Ah by decide)) rfl) (Sq (If (Te (Bn (Bn (Bn rfl rfl rfl) rfl h2) rfl oW) rfl) rfl) rfl))
end
theorem Ar0{w0:CV}{w2 w3 w4 w6 w7 w9 w10 w11 v14 v15 v16 v17 v18 v22 v23:Option CV}{s:AS}{c:By}(hF:Jd c){a0 a1:Nat}(h0:a0<=6)(h1:a1<=6)(m0:s.m0=a0)(m1:s.m1=a1)(b0:s.b0=Jf c.f0 ((BQ c).laid.take a0))(b1:s.b1=Jf c.f1 ((BQ c).laid.take a1)):
  ∃v19 v20 v21,b9 (vE w0 w2 w3 w4 (AA (EZ c)) w6 w7 w9 w10 w11 (AA (.lst (Ea c))) (AA (.obj 14)) v14 v15 v16 v17 v18 AB AB AB v22 v23) (s.objs2 c)= .next (vE w0 w2 w3 w4 (AA (EZ c)) w6 w7 w9 w10 w11 (AA (.lst (Ea c))) (AA (.obj 14)) v14 v15 v16 v17 v18 v19 v20 v21 v22 v23) (s.objs2 c):=
 ⟨_,_,_,ag (c':= .tup [.int 0, .int 1]) (l:=[.int 0, .int 1]) (Tp (Cn rfl (Cn rfl rfl)) (show 2<=Ah by decide)) rfl rfl rfl rfl (Ln rfl (AP7 hF h0 m0 b0) (Ln rfl (AP8 hF h1 m1 b1) rfl))⟩
noncomputable section
section
variable{o o2:AL}{i j:Nat}{rows:FU}{name w:T}
theorem XE{v:AY}{e:D}(he:e v o= .ok (.obj i) o)(T:Gk o i j rows):BC MD e AP v o= .ok (.lst (rows.map Bv)) o:=by
 exact Ms (is:=Cz 295 "items") (fv:= .ref 259) (g:=Pq) he (MT (TL T.inst (by decide:("_headers":AQ)≠"items"))) rfl (pR T)
theorem oj(rows:FU):BV [.lst (rows.map Bv), .lst (rows.map Bv)] o= .ok (.bool AC) o:=oh (WX Bv (λ_=>bM _ _) rows)
theorem Aq5(h:Gk o i j rows)(M4:Jm [.obj i, .str name, .str w] o= .ok (.str w) o2)(h2:Gk o2 i j (rows++[(name,w)]))(hl:o2.length=o.length):I1 [.obj i, .str name, .str w] o= .ok (.str w) o2:=by
 have ha:Ai [.lst (rows.map Bv), .lst [.tup [.str name, .str w]]] o2= .ok (.lst ((rows++[(name,w)]).map Bv)) o2:=by
  rw[EO];exact Ko (by rw[Ay];have:=h.short;show _+1<=_;exact Bg (by assumption) (by decide))
 have b:Wj (Fg (Aw 337 QM) ([.obj i, .str name, .str w]++[])) o= .ret (.str w) o2:=
  Sq (v':=[AA (.obj i),AA (.str name),AA (.str w),AA (.lst (rows.map Bv)),AB,AB]) (As (XE rfl h) rfl) (Sq (Ty (Sq (As (Ms rfl (h.inst1 (by decide)) (Cn rfl (Cn rfl rfl)) M4) rfl) rfl) rfl)
   (Sr (Rt (Dt (Te (Bn (XE rfl h2) (Bn rfl (Ls (cs:=[.tup [.str name, .str w]]) (Cn (Tp (cs:=[.str name, .str w]) (Cn rfl (Cn rfl rfl)) (show 2<=Ah by decide)) rfl) (show 1<=Ah by decide)) ha) (oj _)) rfl) rfl))))
 unfold I1 CM
 refine(if_pos rfl).trans ((congrArg (Gn o.length) b).trans ?_)
 rw[<-hl];exact fin_same h2.clo rfl
theorem qL(h:Gk o i j rows)(M4:Jm [.obj i, .str name, .str w] o= .err (.exc (.type "ValueError") (AA E9)) o):I1 [.obj i, .str name, .str w] o= .ok (.str E9) o:=by
 have yy:decide (i<o.length)=AC:=decide_eq_true (Gb.mp h.inst).1
 have Ft:L3 [AA (.obj i),AA (.str name),AA (.str w),AA (.lst (rows.map Bv)),AB,AB] o=AC:=by
  show(o.all _&&(decide (i<o.length)&&(AC&&(AC&&(C9 o.length (rows.map Bv)&&AC)))))=AC
  simp only[show o.all (H' o.length)=AC from h.clo,yy,Sl];rfl
 have hb:AM (Bb (Cc (Aq (AJ BV (BC MD (AF 0) AP) (AF 3))) (A_ HM (AH (AF 5) AP)) (AG (.str [])))) AZ [AA (.obj i),AA (.str name),AA (.str w),AA (.lst (rows.map Bv)),AB,AA (.exc (.type "ValueError") (AA E9))] o= .ret (.str E9) o:=
  Sr (Rt (Dt (Te (Bn (XE rfl h) rfl (oj _)) rfl) (Cl (Cn rfl rfl) rfl)))
 refine F_ rfl (Sq (v':=[AA (.obj i),AA (.str name),AA (.str w),AA (.lst (rows.map Bv)),AB,AB]) (As (XE rfl h) rfl) (Sr (Ty (Se (aV (Ms rfl (h.inst1 (by decide)) (Cn rfl (Cn rfl rfl)) M4))) (Th Ft ?_)))) h.clo rfl
 exact congrArg Jv hb
end
theorem dU{rows:FU}{l:List (Int×T)}(h:Nq rows=ME l){x:T}(hx:x.head?≠AA 110):Dj rows x=AB:=by
 unfold Dj
 refine iQ.mpr (List.find?_eq_none.mpr λp hp hq=>?_)
 refine A3 (HS.mp (h▸Qn (f:=λr:T×T=>(BD r.1,r.2)) hp:(BD p.1,p.2)∈ME l)) λq AB4=>?_
 exact hx (((Up AB4.2).1.trans (CH hq):110::Az q.1=x)▸rfl)
theorem Ah0{rows:FU}{p:T×T}{x:T}(h:Dj rows x=AB)(hp:BD p.1≠x):Dj (rows++[p]) x=AB:=by
 unfold Dj at h⊢
 refine iQ.mpr ?_
 rw[List.find?_append,(iQ.mp h)]
 show(match BD p.1==x with|true=>AA p|false=>AB)=AB
 rw[beq_eq_false_iff_ne.mpr hp]
noncomputable def MO:T:=[10,13,0,127,32,9,31,126]
noncomputable def UC(d:Nat):Bool:=d==32||d==126
noncomputable def Xz(d:Nat):Bool:=d==32||d==126||d==9
noncomputable def r1(d:Nat):T:=if UC d=AC then [115]else E9
noncomputable def r2(d:Nat):T:=if Xz d=AC then [115,d]else E9
theorem BG7:∀d∈MO,BD [111,d]=[111,d]/\([111,d]:T).any EW= !UC d/\([115,d]:T).any F8= !Xz d:=by decide+kernel
theorem Av2:BD [112]=[112]:=by decide+kernel
section
variable{w0:CV}{w2 w3 w4 w5 w6 w7 w9 w10 w11 v12 v13 v14 v15 v16 v17 v18 v19 v20 v21 v22 v23:Option CV}{s:AS}{c:By}{d:Nat}
theorem qM{nm w:T}(h1:s.rows.length<=900)(h2:∀p∈s.rows,p.1.length<=1000)(hn:nm.length<=1000)(Mx:BD nm=nm)(hw:w.length<=1000)(hf:Dj s.rows nm=AB){b:Bool}(hb:(nm.any EW||w.any F8)= !b):
  I1 [.obj 9, .str nm, .str w] (s.objs2 c)= .ok (.str (if b=AC then w else E9)) (if b=AC then AS.objs2 {s with rows:=s.rows++[(nm,w)]} c else s.objs2 c):=by
 have FL:(BD nm).length<=100000:=by rw[Mx];exact AO hn (by decide)
 have kP:w.length<=100000:=AO hw (by decide)
 have jx:Dj s.rows (BD nm)=AB:=by rw[Mx];exact hf
 cases b with
 |true=>
  have hx:=gn.mp hb
  have T2:=AS.tab2 {s with rows:=s.rows++[(nm,w)]} c (by show(s.rows++_).length<=_;rw[A1];show _+1<=_;exact Bg (by assumption) (by decide)) (λp hp=>(D8.mp hp).elim (h2 p) λe=>Ca.mp e▸hn)
  exact Aq5 (s.tab2 c (by exact AO (by assumption) (by decide)) h2) (pS (s.tab2 c (by exact AO (by assumption) (by decide)) h2) (AO hn (by decide):nm.length<=5592405) FL (AO hn (by decide)) kP (by rw[Mx];exact hx.1) jx hx.1 hx.2 T2.clo) T2 rfl
 |false=>
  cases hx:nm.any EW with
  |true=>exact qL (s.tab2 c (by exact AO (by assumption) (by decide)) h2) (Al8 (s.tab2 c (by exact AO (by assumption) (by decide)) h2) (AO hn (by decide):nm.length<=5592405) FL (by rw[Mx];exact hx))
  |false=>
   rw[hx]at hb
   exact qL (s.tab2 c (by exact AO (by assumption) (by decide)) h2) (Al7 (s.tab2 c (by exact AO (by assumption) (by decide)) h2) (AO hn (by decide):nm.length<=5592405) FL (AO hn (by decide)) kP (by rw[Mx];exact hx) jx hx hb)
theorem Ar2(h1:s.rows.length<=800)(h2:∀p∈s.rows,p.1.length<=1000){l:List (Int×T)}(hr:Nq s.rows=ME l)(hd:d∈MO):
  ∃Lw,Wq (vE w0 w2 w3 w4 w5 (AA (.str [d])) w7 w9 w10 w11 v12 v13 v14 v15 v16 v17 v18 v19 v20 v21 v22 v23) (s.objs2 c)= .next (vE w0 w2 w3 w4 w5 (AA (.str [d])) w7 w9 w10 w11 v12 v13 v14 v15 v16 v17 v18 v19 v20 v21 v22 (AA (.lst [.str (r1 d), .str (r2 d)]))) (AS.objs2 {s with rows:=Lw} c):=by
 have Vv:=BG7 d hd
 have Lu:=qM (c:=c) (nm:=[111,d]) (w:=[115]) (by exact AO (by assumption) (by decide)) h2 (show 2<=1000 by decide) Vv.1 (show 1<=1000 by decide) (dU hr (show AA 111≠AA 110 by decide)) (b:=UC d) (by rw[Vv.2.1];exact Bool.or_false _)
 have JA:∀{rows:FU},rows.length<=900->(∀p∈rows,p.1.length<=1000)->Dj rows [112]=AB->_:=λ{rows} a b e=>qM (s:={s with rows:=rows}) (c:=c) (nm:=[112]) (w:=[115,d]) a b (show 1<=1000 by decide) Av2 (show 2<=1000 by decide) e (b:=Xz d) (by rw[Vv.2.2];rfl)
 have run:∀{rows Lw:FU},I1 [.obj 9, .str [111,d], .str [115]] (s.objs2 c)= .ok (.str (r1 d)) (AS.objs2 {s with rows:=rows} c)->I1 [.obj 9, .str [112], .str [115,d]] (AS.objs2 {s with rows:=rows} c)= .ok (.str (r2 d)) (AS.objs2 {s with rows:=Lw} c)->
  Wq (vE w0 w2 w3 w4 w5 (AA (.str [d])) w7 w9 w10 w11 v12 v13 v14 v15 v16 v17 v18 v19 v20 v21 v22 v23) (s.objs2 c)= .next (vE w0 w2 w3 w4 w5 (AA (.str [d])) w7 w9 w10 w11 v12 v13 v14 v15 v16 v17 v18 v19 v20 v21 v22 (AA (.lst [.str (r1 d), .str (r2 d)]))) (AS.objs2 {s with rows:=Lw} c):=λ{rows Lw} a b=>
  As (Ls (Cn (Cl (Cn (Bn rfl rfl rfl) (Cn (Bn rfl rfl ((λo=>F3 (show 1+1<=16777216 by decide):∀o:AL,Ai [.str [111], .str [d]] o= .ok (.str [111,d]) o) _)) (Cn rfl rfl))) a) (Cn (Cl (Cn (Bn rfl rfl rfl) (Cn rfl (Cn (Bn rfl rfl ((λo=>F3 (show 1+1<=16777216 by decide):∀o:AL,Ai [.str [115], .str [d]] o= .ok (.str [115,d]) o) _)) rfl))) b) rfl)) (show 2<=Ah by decide)) rfl
 unfold r1 r2
 unfold r1 r2 at run
 have e1:∃rows,rows.length<=900/\(∀p∈rows,p.1.length<=1000)/\Dj rows [112]=AB/\I1 [.obj 9, .str [111,d], .str [115]] (s.objs2 c)= .ok (.str (if UC d=AC then [115]else E9)) (AS.objs2 {s with rows:=rows} c):=by
  cases h:UC d with
  |true=>
   rw[h]at Lu
   exact⟨s.rows++[([111,d],[115])],by rw[A1];show _+1<=_;exact Bg (by assumption) (by decide),λp hp=>(D8.mp hp).elim (h2 p) λe=>Ca.mp e▸(show 2<=1000 by decide),Ah0 (dU hr (by decide):Dj s.rows [112]=AB) (λe=>absurd (congrArg JD (Vv.1.symm.trans e)) (show 2≠1 by decide)),Lu⟩
  |false=>rw[h]at Lu;exact⟨s.rows,by exact AO (by assumption) (by decide),h2,(dU hr (by decide):Dj s.rows [112]=AB),Lu⟩
 refine A3 (e1) λrows R3=>?_
 have JA:=JA R3.1 R3.2.1 R3.2.2.1
 cases h:Xz d with
 |true=>rw[h]at JA run;exact⟨rows++[([112],[115,d])],run R3.2.2.2 JA⟩
 |false=>rw[h]at JA run;exact⟨rows,run R3.2.2.2 JA⟩
end
end
noncomputable section
theorem AK1{P:Nat->Prop}(h0:P 10)(h1:P 13)(h2:P 0)(h3:P 127)(h4:P 32)(h5:P 9)(h6:P 31)(h7:P 126):∀d∈MO,P d:=
 Ht.mpr ⟨h0,Ht.mpr ⟨h1,Ht.mpr ⟨h2,Ht.mpr ⟨h3,Ht.mpr ⟨h4,Ht.mpr ⟨h5,Ht.mpr ⟨h6,Ht.mpr ⟨h7,λd h=>absurd h D9⟩⟩⟩⟩⟩⟩⟩⟩
section
variable{w0:CV}{w2 w3 w4 w5 w6 w7 w9 w10 w11 v12 v13 v14 v15 v16 v17 v18 v19 v20 v21 v22 v23:Option CV}{s:AS}{c:By}{d n:Nat}{o:AL}
theorem Ar1(h:AW [.obj 0, .int 3] o= .ok (.int n) o):∃d∈MO,b_ (vE w0 w2 w3 w4 w5 w6 w7 w9 w10 w11 v12 v13 v14 v15 v16 v17 v18 v19 v20 v21 v22 v23) o= .next (vE w0 w2 w3 w4 w5 (AA (.str [d])) w7 w9 w10 w11 v12 v13 v14 v15 v16 v17 v18 v19 v20 v21 (AA (.str E9)) v23) o:=by
 have hj:n % 8<MO.length:=Dw n (by decide)
 exact⟨MO[n % 8],LL hj,Ag (Tp (Cn (Bn (by kernel_rfl:BU (AH (AG (.str [10])) (AH (AG (.str [13])) (AH (AG (.str [0])) (AH (AG (.str [127])) (AH (AG (.str [32])) (AH (AG (.str [9])) (AH (AG (.str [31])) (AH (AG (.str [126])) AP)))))))) (vE w0 w2 w3 w4 w5 w6 w7 w9 w10 w11 v12 v13 v14 v15 v16 v17 v18 v19 v20 v21 v22 v23) o= .ok (.lst (MO.map λd=> .str [d])) o) (Bn (Bn rfl rfl h) rfl (FB (n:=8) (by decide))) (Pw (C4 hj (by decide)) (by simp only[Cm,B8 hj];rfl))) (Cn rfl rfl)) (show 2<=Ah by decide)) rfl⟩
noncomputable def qI(w0:CV)(w2 w3 w4 w5 w7 w9 w10 w11 v12 v13 v14 v15 v16 v17 v18 v19 v20 v21:Option CV)(o:AL)(d:Nat):RS:=cA (vE w0 w2 w3 w4 w5 (AA (.str [d])) w7 w9 w10 w11 v12 v13 v14 v15 v16 v17 v18 v19 v20 v21 (AA (.str E9)) (AA (.lst [.str (r1 d), .str (r2 d)]))) o
noncomputable def qf(w0:CV)(w2 w3 w4 w5 w7 w9 w10 w11 v12 v13 v14 v15 v16 v17 v18 v19 v20 v21:Option CV)(o:AL)(d:Nat):RS:= .next (vE w0 w2 w3 w4 w5 (AA (.str [d])) w7 w9 w10 w11 v12 v13 v14 v15 v16 v17 v18 v19 v20 v21 (AA (.str E9)) (AA (.lst [.str (r1 d), .str (r2 d)]))) o
theorem Ar3:∀d∈MO,qI w0 w2 w3 w4 w5 w7 w9 w10 w11 v12 v13 v14 v15 v16 v17 v18 v19 v20 v21 o d=qf w0 w2 w3 w4 w5 w7 w9 w10 w11 v12 v13 v14 v15 v16 v17 v18 v19 v20 v21 o d:=
 AK1 (P:=λd=>qI w0 w2 w3 w4 w5 w7 w9 w10 w11 v12 v13 v14 v15 v16 v17 v18 v19 v20 v21 o d=qf w0 w2 w3 w4 w5 w7 w9 w10 w11 v12 v13 v14 v15 v16 v17 v18 v19 v20 v21 o d) (by kernel_rfl) (by kernel_rfl) (by kernel_rfl) (by kernel_rfl) (by kernel_rfl) (by kernel_rfl) (by kernel_rfl) (by kernel_rfl)
noncomputable abbrev QU(a b d:T)(z:Int):List CV:=[.lst [.str a, .str b, .str d], .str (Az z), .int 0]
theorem Ar4(hs:B1 s.cn.sum=AC):cC (vE w0 w2 w3 w4 w5 w6 w7 w9 w10 w11 v12 v13 v14 v15 v16 v17 v18 v19 v20 v21 v22 v23) (s.objs2 c)= .next (vE w0 w2 w3 w4 w5 w6 w7 w9 w10 w11 v12 v13 v14 v15 v16 v17 v18 v19 v20 v21 v22 (AA (.lst (QU s.nA s.nB s.nC s.cn.sum)))) (s.objs2 c):=
 As (Ls (cs:=QU s.nA s.nB s.nC s.cn.sum) (Cn (Bn rfl rfl rfl) (Cn (Cl (Cn (Cl (Cn (Bn rfl rfl rfl) rfl) (cc (s.clo2 c) (D:=L7 s.ck) (vs:=s.cn))) rfl) (YE hs)) (Cn (Bn rfl rfl rfl) rfl))) (show 3<=Ah by decide)) rfl
noncomputable def qJ(w0:CV)(w2 w3 w5 w6 w7 w9 w10 w11 v12 v13 v14 v15 v16 v17 v18 v19 v20 v21 v22 v23:Option CV)(o:AL)(m:Nat):R CV:=CL [AB,AB] (.list []) (AF 4) (DA 2 (A5 (AX 0) (A5 (AX 1) CS))) El (CC (AF 1)) (vE w0 w2 w3 (AA (.lst (D4 m))) w5 w6 w7 w9 w10 w11 v12 v13 v14 v15 v16 v17 v18 v19 v20 v21 v22 v23) o
noncomputable def qg(o:AL)(m:Nat):R CV:= .ok (.lst [.str (D5 m 0), .str (D5 m 1), .str (D5 m 2)]) o
theorem Ay8{m:Nat}(hm:m<6):qJ w0 w2 w3 w5 w6 w7 w9 w10 w11 v12 v13 v14 v15 v16 v17 v18 v19 v20 v21 v22 v23 o m=qg o m:=
 XN (P:=λm=>qJ w0 w2 w3 w5 w6 w7 w9 w10 w11 v12 v13 v14 v15 v16 v17 v18 v19 v20 v21 v22 v23 o m=qg o m) (by kernel_rfl) (by kernel_rfl) (by kernel_rfl) (by kernel_rfl) (by kernel_rfl) (by kernel_rfl) hm
theorem Ar5(hF:Jd c){m:Nat}(hm:m<6):oG (vE w0 w2 w3 (AA (.lst (D4 m))) w5 w6 w7 w9 w10 w11 v12 v13 (AA (.obj 15)) v15 v16 v17 v18 v19 v20 v21 v22 (AA (.lst (QU (D5 m 0) (D5 m 1) (D5 m 2) (BQ c).cn.sum)))) (s.objs2 c)= .ret (.bool AC) (s.objs2 c):=by
 have jc:(s.objs2 c)[15]? =AA (.list (Hh c)):=rfl
 have hl:(Hh c).length<=20:=by unfold Hh;rw[Ay,J2];exact AO (Uj _ _) hF.2.2.2.2.2.2.1
 obtain⟨v',k⟩:=na (o:=s.objs2 c) (src:=I_ 15) (g:=DA 2 (A5 (AX 0) (A5 (AX 1) CS))) (e:=AF 1) (l:=Hh c) (f:=X9) (I:=λv=>∃a b,v=[a,b]) (tR jc)
  (λx hx v hv=>by
   refine A3 (HS.mp hx) λp AB6=>?_
   obtain rfl:=AB6.2
   refine B7 (hv) λa b AB7=>?_
   obtain rfl:=AB7
   exact⟨[AA (.int p.1),AA (.int p.2)],rfl,⟨_,_,rfl⟩,rfl⟩)
  (Hh c) (n:=0) (v:=[AB,AB]) (acc:=[]) ⟨_,_,rfl⟩ rfl (show 0+_<=_ by exact AO (EP (by assumption) _) (by decide))
 have hc:(Hh c).map X9=(BQ c).cn.map .int:=by
  have e:=congrArg (iC CV.int) (iD (l₁:=(BQ c).ck) (l₂:=(BQ c).cn) (BR hF.2.2.2.2.2.2.2.1.symm))
  rw[Hu]at e
  unfold Hh
  rw[Hu];exact e
 rw[Ug,hc]at k
 exact Rt (Bn rfl (Ls (cs:=QU (D5 m 0) (D5 m 1) (D5 m 2) (BQ c).cn.sum) (Cn (Ay8 hm) (Cn (Cl (Cn (Cl (Cn (Cs (a:=AF 14) rfl rfl (tS jc) k) rfl) ((TT (X:=λo c=>(Cj o c).bind Gm) (a:=(BQ c).cn) (x:= .lst ((BQ c).cn.map .int)) (o:=s.objs2 c) (az _ hF.2.2.2.2.2.1)).trans (if_pos (by have:=hF.2.2.2.2.2.2.1;exact AO (by assumption) (by decide))):N1 [.lst ((BQ c).cn.map .int)] (s.objs2 c)= .ok (.int (BQ c).cn.sum) (s.objs2 c))) rfl) (YE hF.2.2.2.2.1)) (Cn rfl rfl))) (show 3<=Ah by decide)) (oh (DW (DW (HD _) (DW (HD _) (DW (HD _) rfl))) (DW (HD _) (DW (Jg _) rfl)))))
end
theorem AS4{l:List Int}(h:l.length=12)(hp:∀x∈l,0<=x):∃(f:Nat->Int) (c n:Nat),l=NP f c/\f 3=n:=by
 have e:l=(Eo 12).map λi=>l.getD i 0:=Qi λi=>by
  rw[Cm]
  by_cases hi:i<12
  ·rw[hV hi,B8 (h▸hi)];exact congrArg AA (du (B8 (h▸hi))).symm
  ·rw[Ga (h▸Cp.mp hi),Ga (by rw[OJ];exact Cp.mp hi)];rfl
 have pos:∀i,i<12->0<=l.getD i 0:=λi hi=>by rw[du (B8 (h▸hi))];exact hp _ (LL _)
 refine⟨λi=>l.getD i 0,(l.getD 11 0).toNat,(l.getD 3 0).toNat,?_,(Yg (pos 3 (by decide))).symm⟩
 refine e.trans ?_
 unfold NP
 rw[Yg (pos 11 (by decide))];rfl
theorem Sq3{a b e r:DS}{v v':AY}{o o':AL}{z:RS}(h:AM a (AM b e) v o= .next v' o')(k:r v' o'=z):AM a (AM b (AM e r)) v o=z:=by
 have:AM a (AM b (AM e r)) v o=AM (AM a (AM b e)) r v o:=by
  unfold AM
  cases a v o with
  |next v1 o1=>show RS.bind (b v1 o1) _=RS.bind (RS.bind (b v1 o1) _) _;cases b v1 o1<;>rfl
  |_=>rfl
 rw[this];exact Sq h k
theorem A43(xs:List Int)(hl:xs.length<=63):Nk [.lst (xs.map .int)] []= .ok (.bool AC) []:=by
 refine Hr (Aq6 hl) λcells w2 w3 R4=>?_
 refine Hr (AS4 R4.1.1 R4.1.2) λf c n AB8=>?_
 obtain⟨rfl,h3⟩:=AB8
 have hm:c/20 % 6<6:=Dw _ (by decide)
 have hx:c % 5<5:=Dw _ (by decide)
 have hy:c/5 % 4<4:=Dw _ (by decide)
 have hc:V' (B4 c):=⟨BD6 _ hx _ hy _,(Pn _ hx _ hy _:Jd (B4 c)).2.2.2.2.2.2.2.2.1,(Pn _ hx _ hy _:Jd (B4 c)).2.2.2.2.2.2.2.2.2⟩
 obtain⟨s,D,k,a0,a1,b0,b1,d9,Ez,Fq,RO,hI,h6⟩:=Av0 (B:=B0 f c) hc R4.1.1 R4.1.2 (w0:= .lst (xs.map .int)) (w2:=w2) (w3:=w3) (w4:=AA (.lst (D4 (c/20 % 6)))) (w5:=AA (EZ (B4 c))) (w6:=AA (.int (B4 c).sgn)) (w7:=AA (Cd (decide (c/240 % 2=0)))) (w9:=AB) (w10:=AB) (w11:=AB) 51 (Ao1 (k:=c/480)) rfl
 have hk:A9 (B0 f c).c k=BQ (B4 c):=(Ap3 k (f:=9) (hI.len6 hc).2 hI.prev h6).symm
 have M3:=hI.rlen
 have hl:=hI.l
 have hr:=hI.r
 have Zy:=hI.rows
 have Mr:=hI.ck
 have DQ:=hI.cn
 rw[h6]at M3
 have la:=h6▸hl.al
 have ra:=h6▸hr.al
 rw[hk]at hl hr Zy Mr DQ
 have x4:=Aq9 (w0:= .lst (xs.map .int)) (w2:=w2) (w3:=w3) (w4:=AA (.lst (D4 (c/20 % 6)))) (w5:=AA (EZ (B4 c))) (w6:=AA (.int (B4 c).sgn)) (w7:=AA (Cd (decide (c/240 % 2=0)))) (w9:=d9) (w10:=Ez) (w11:=Fq) (v12:=AA (.lst (Ea (B4 c)))) (v13:=AA (.obj 14)) (v15:=(IP (HI s (.lst (xs.map .int)) w2 w3 (AA (.lst (D4 (c/20 % 6)))) (AA (Cd (decide (c/240 % 2=0)))) d9 Ez Fq (decide (c/120 % 2=0)) (c % 5) (c/5 % 4))).getD 15 AB) (v16:=(IP (HI s (.lst (xs.map .int)) w2 w3 (AA (.lst (D4 (c/20 % 6)))) (AA (Cd (decide (c/240 % 2=0)))) d9 Ez Fq (decide (c/120 % 2=0)) (c % 5) (c/5 % 4))).getD 16 AB) (v19:=AB) (v20:=AB) (v21:=AB) (v22:=AB) (v23:=AB)
  (s:=s) (c:=B4 c) (by exact AO (BR (by assumption)) (by decide)) hI.nms hI.fst Zy Mr DQ (by rw[DQ];have:=(Pn _ hx _ hy _:Jd (B4 c)).2.2.2.2.2.2.1;exact AO (by assumption) (by decide))
 refine Hr (Ar0 (w0:= .lst (xs.map .int)) (w2:=w2) (w3:=w3) (w4:=AA (.lst (D4 (c/20 % 6)))) (w6:=AA (.int (B4 c).sgn)) (w7:=AA (Cd (decide (c/240 % 2=0)))) (w9:=d9) (w10:=Ez) (w11:=Fq) (v14:=AA (.obj 15)) (v15:=(IP (HI s (.lst (xs.map .int)) w2 w3 (AA (.lst (D4 (c/20 % 6)))) (AA (Cd (decide (c/240 % 2=0)))) d9 Ez Fq (decide (c/120 % 2=0)) (c % 5) (c/5 % 4))).getD 15 AB) (v16:=(IP (HI s (.lst (xs.map .int)) w2 w3 (AA (.lst (D4 (c/20 % 6)))) (AA (Cd (decide (c/240 % 2=0)))) d9 Ez Fq (decide (c/120 % 2=0)) (c % 5) (c/5 % 4))).getD 16 AB) (v17:=AA (.obj 10)) (v18:=AA (.lst (Jw (B4 c)))) (v22:=AB) (v23:=AB) (s:=s) (Pn _ hx _ hy _:Jd (B4 c)) la ra hl.m hr.m hl.bk hr.bk) λv19 v20 v21 x_=>?_
 refine A3 (Ar1 (w0:= .lst (xs.map .int)) (w2:=w2) (w3:=w3) (w4:=AA (.lst (D4 (c/20 % 6)))) (w5:=AA (EZ (B4 c))) (w6:=AA (.int (B4 c).sgn)) (w7:=AA (Cd (decide (c/240 % 2=0)))) (w9:=d9) (w10:=Ez) (w11:=Fq) (v12:=AA (.lst (Ea (B4 c)))) (v13:=AA (.obj 14)) (v14:=AA (.obj 15)) (v15:=(IP (HI s (.lst (xs.map .int)) w2 w3 (AA (.lst (D4 (c/20 % 6)))) (AA (Cd (decide (c/240 % 2=0)))) d9 Ez Fq (decide (c/120 % 2=0)) (c % 5) (c/5 % 4))).getD 15 AB) (v16:=(IP (HI s (.lst (xs.map .int)) w2 w3 (AA (.lst (D4 (c/20 % 6)))) (AA (Cd (decide (c/240 % 2=0)))) d9 Ez Fq (decide (c/120 % 2=0)) (c % 5) (c/5 % 4))).getD 16 AB) (v17:=AA (.obj 10)) (v18:=AA (.lst (Jw (B4 c)))) (v19:=v19) (v20:=v20) (v21:=v21) (v22:=AB) (v23:=AB) (W' (l:=(NP f c).map .int) (j:=3) (congrArg (λl:List Int=>AA (CO.list (l.map .int))) (congrArg Cr.cells hI.base)) (by decide) (by rw[<-h3];rfl):AW [.obj 0, .int 3] (s.objs2 (B4 c))= .ok (.int n) (s.objs2 (B4 c)))) λd aI=>?_
 obtain⟨Lw,yA⟩:=Ar2 (s:=s) (c:=B4 c) (d:=d) (w0:= .lst (xs.map .int)) (w2:=w2) (w3:=w3) (w4:=AA (.lst (D4 (c/20 % 6)))) (w5:=AA (EZ (B4 c))) (w7:=AA (Cd (decide (c/240 % 2=0)))) (w9:=d9) (w10:=Ez) (w11:=Fq) (v12:=AA (.lst (Ea (B4 c)))) (v13:=AA (.obj 14)) (v14:=AA (.obj 15)) (v15:=(IP (HI s (.lst (xs.map .int)) w2 w3 (AA (.lst (D4 (c/20 % 6)))) (AA (Cd (decide (c/240 % 2=0)))) d9 Ez Fq (decide (c/120 % 2=0)) (c % 5) (c/5 % 4))).getD 15 AB) (v16:=(IP (HI s (.lst (xs.map .int)) w2 w3 (AA (.lst (D4 (c/20 % 6)))) (AA (Cd (decide (c/240 % 2=0)))) d9 Ez Fq (decide (c/120 % 2=0)) (c % 5) (c/5 % 4))).getD 16 AB) (v17:=AA (.obj 10)) (v18:=AA (.lst (Jw (B4 c)))) (v19:=v19) (v20:=v20) (v21:=v21) (v22:=AA (.str E9)) (v23:=AB) (by exact AO (BR (by assumption)) (by decide)) hI.nms Zy aI.1
 have yB:=Ar4 (s:={s with rows:=Lw}) (c:=B4 c) (w0:= .lst (xs.map .int)) (w2:=w2) (w3:=w3) (w4:=AA (.lst (D4 (c/20 % 6)))) (w5:=AA (EZ (B4 c))) (w6:=AA (.str [d])) (w7:=AA (Cd (decide (c/240 % 2=0)))) (w9:=d9) (w10:=Ez) (w11:=Fq) (v12:=AA (.lst (Ea (B4 c)))) (v13:=AA (.obj 14)) (v14:=AA (.obj 15)) (v15:=(IP (HI s (.lst (xs.map .int)) w2 w3 (AA (.lst (D4 (c/20 % 6)))) (AA (Cd (decide (c/240 % 2=0)))) d9 Ez Fq (decide (c/120 % 2=0)) (c % 5) (c/5 % 4))).getD 15 AB) (v16:=(IP (HI s (.lst (xs.map .int)) w2 w3 (AA (.lst (D4 (c/20 % 6)))) (AA (Cd (decide (c/240 % 2=0)))) d9 Ez Fq (decide (c/120 % 2=0)) (c % 5) (c/5 % 4))).getD 16 AB) (v17:=AA (.obj 10)) (v18:=AA (.lst (Jw (B4 c)))) (v19:=v19) (v20:=v20) (v21:=v21) (v22:=AA (.str E9)) (v23:=AA (.lst [.str (r1 d), .str (r2 d)])) (by show B1 s.cn.sum=AC;rw[DQ];exact(Pn _ hx _ hy _:Jd (B4 c)).2.2.2.2.1)
 have yC:QU s.nA s.nB s.nC s.cn.sum=QU (D5 (c/20 % 6) 0) (D5 (c/20 % 6) 1) (D5 (c/20 % 6) 2) (BQ (B4 c)).cn.sum:=by
  simp only[show s.nA=_ from(congrArg Cr.nA hI.base),show s.nB=_ from(congrArg Cr.nB hI.base),show s.nC=_ from(congrArg Cr.nC hI.base),DQ]
 have all:Wp (vW (.lst (xs.map .int)) AB AB AB AB AB AB AB AB AB AB) []= .ret (.bool AC) (AS.objs2 {s with rows:=Lw} (B4 c)):=
  Sq (a:=oE) (b:=sC) (by kernel_rfl) (Sq (a:=bx) (b:=fW) R4.2 (Ar6 (Sq (a:=cD) (b:=sR) (Ar7 hm) (Sq2 (a:=cE) (b:=cF) (e:=sS) (Ar8 _) (Sq (a:=cG) (b:=sD) Ar9 (Sq (a:=oF) (b:=sE) (Fo (Cl (Cn rfl rfl) rfl) rfl rfl RO)
   (Sq (a:=bz) (b:=sF) (Aq7 hx hy) (Sq3 (a:=b5) (b:=b6) (e:=b7) (r:=sG) (Aq8 hx hy _) (Sq (a:=b8) (b:=sH) x4 (Sq (a:=b9) (b:=sI) x_ (Sq (a:=b_) (b:=sJ) aI.2 (Sq (a:=Wq) (b:=sK) yA (Sq (a:=cA) (b:=sL) (Ar3 d aI.1) (Sq (a:=cC) (b:=sN) (yB.trans (congrArg (λl=>RS.next (vE _ _ _ _ _ _ _ _ _ _ _ _ _ _ _ _ _ _ _ _ _ (AA (.lst l))) _) yC)) (Sr (Ar5 (Pn _ hx _ hy _:Jd (B4 c)) hm))))))))))))))))
 exact(congrArg (Gn 0) all).trans (by show fin 0 (.bool AC) _=_;unfold fin;simp only[wE];rfl)
end
theorem t04:OO.Holds:=Am2 A43
end
end Mine
theorem PySem.Challenge.cw_wz0029_04_holds : PySem.Challenge.rw_wz0029_04.Holds :=
 Mine.t04
