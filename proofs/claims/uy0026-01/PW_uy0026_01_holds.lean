import PyProof.Rows.All
import Wide.All
import OpenK.AllK
import Wide.FinOn
import KE.KSuperObj
import KE.KCallOwn
import KE.KStar
import KE.KSortAsk
import KE.KDictIter
import KE.KLam
import PyProof.RulesAs
import PyProof.ExcStrCall
import PyProof.ExcStrAll.ValueError
import PyProof.NsDelKeeps
import KE.KWords
import PyProof.SliceList
import Lean
import PySem.Challenge.RW_uy0026_01
set_option Elab.async false
set_option genSizeOf false
set_option genInjectivity false
set_option genCtorIdx false
set_option maxRecDepth 100000
set_option maxHeartbeats 0
set_option tactic.hygienic false
set_option linter.all false
open PySem renaming wpAny_bind→ak,wpAny→aE,Value→aF,Expr→aI,wpAny_pure→aK,Shared→bf,Addr→bG,Params→cR,Stmt→cS,clipAt→eN,Heap→e9,wpAny_mono→fq,wpAny_holding→fT,Around→fY,Scope→f7,wpAny_field→gF,seqIndex?→iA,sizeLine→j9,wpAny_standAt→j_,NameKind→kH,rawInt→lG,mainGlobals→l8,wpAny_newObj_type→l9,wpAny_rule→mV,wpAny_seqItems→mW,Model→nN,codeAny→nQ,wpAny_Name→nR,Comprehension→oz,FuncData→oA,IsPair→oB,Operator→oJ,builtinsNs→oK,call_meets→oM,DictEntry→pP,Flow→pQ,IsZip→pR,Keyword→pS,cellsFrom→pW,wpAny_call→pX,wpAny_call_entry→pY,ExceptHandler→qq,pyIter→qv,pyNext→qw,starEach→qx,attributeBase→rO,letOwnedTupleGo→rP,sizeLine_eq→rQ,Builtin→tE,assignEach→tO,backTo→tP,isInstance→tQ,preSum→tR,wpAny_of_eq→tS,wpAny_setField_rec→tT,getMethod→vn,methodCallPos→vp,standAt→vq,IsPart→xf,backToKw→xC,cLine→xD,codeAmong→xE,getItem→xG,methodCall→xH,typeIs_str→xJ,wpAny_attempt→xK,wpAny_callSpecial?_slot→xM,wpAny_loadName_local→xN,CmpOp→zf,IsEnum→zj,TriplesOk→zx,argsOk→zz,keywordEach→zB,methodCallForm→zC,treeTable→zD,typeLookup_type→zE,typeOf→zF,wpAny_letGo→zG,wpAny_load→zH,wpAny_loadPart→zI,wpAny_specialOf→zJ,Data→BC,WalksS→BV,callerA→BW,entryFor→BX,entryFor_of_tree→BY,pushCells→B3,strValues→B4,wpAny_execs_nil→B6,wpAny_truthy_bool→B7,GenAt→ED,Slot→E2,UnaryOp→E3,bindArgs→E4,checkBoundCall→E5,getMethod_builtin→E7,loadName→E8,mroOf→E9,newList→E_,setItem→Fb,sliceBounds→Fc,wpAny_alloc→Ff,wpAny_isInstance→Fg,wpAny_listPart→Fi,Arguments→Js,GenOnlyQ→Jz,GenState→JA,OsState→J0,World→J6,builtinType→J7,builtinType_eq_fast→J8,compareOp→J9,foldedSetIterable→J_,newFields→Ka,pushCells_keeps→Kc,recursionLimit→Kd,slot_listiter_next→Ke,typeIs_int→Kg,wpAny_assign_Name→Kh,wpAny_pyIter_tuple→Kl,wpAny_typeOf→Km,Const→Qw,Drawn→Qx,binaryOp→Q_,builtinKind→Ra,compStart→Rb,getAttr→Rc,isSubtype_type→Rf,isTrue→Rg,keeperOf→Ri,slicePick→Rp,sliceRange→Rq,slot_list_setitem→Rr,typeLookup→Rt,wpAny_BinOp→Ru,wpAny_execs_cons→Rv,wpAny_mkInt→Rw,wpAny_nextOf_list_item→Rx,wpAny_onRaise→Ry,wpAny_operating→Rz,wpAny_pyIter_list→RA,wpAny_pyIter_listiter→RB,wpAny_setField→RC,IsEnumOut→hh,assignInOrder→ib,behindInMarks→ih,bootBuiltins→ij,callWith→ik,codeAny_of_tree→ip,compPost→iq,evalArgs_kw→iv,isSubtype_stop→i2,joinFit_length→i3,lastMarks→i4,newFunctionEnv→js,post_join→j1,setFlight→j2,signature?_of→ka,slicePick_size_le→kb,swappedStores→kd,swapsWithSole→ke,sysModules→kk,wpAny_Expr_any→kl,wpAny_askSetting→km,wpAny_layCells→kn,wpAny_loadPart'→kp,wpAny_mkText→kv,wpAny_newTuple→kx,wpAny_nextOf_list_end→ky,wpAny_pyIter_zip→kz,wpAny_release→kA,wpAny_storeName_local→kV,wpAny_unpackItems_tuple→k0,wpAny_updateSeq→k1,wpAny_updateSeq_pair→k2,args_list_setitem→an9,args_listiter_next→an_,arm_assign_Tuple→an',checkBuiltinCall→aoa,codeAny_builtin→aob,codeAny_call_builtin→aoc,codeAny_forLoop_any→aod,entry_list_setitem→aoe,entry_listiter_next→aof,evalArgs_kw_nil→aog,importedModules→aoh,listSliceParts_eq→aoi,list_getitem_lookup→aoj,meets_str_join_tuple→aok,numbered_texts→aol,opaqueClassAbove→aom,refuseLoop_ref→aon,sliceBounds_plain→aoo,sliceIndices_raw→aop,slice_no_index→aoq,slot_list_getitem→aor,wpAny_Assign_Subscript→aos,wpAny_Constant_int→aot,wpAny_collect_seq→aou,wpAny_forIn_list→aov,wpAny_letTemporaryGo→aow,wpAny_loadName_free→aox,wpAny_pyIter_enum→aoy,wpAny_pyNext_tuple_end→aoz,wpAny_pyNext_tuple_item→aoA
open Nat renaming le_trans→az,le_refl→aS,lt_of_le_of_lt→bz,not_lt→bA,le_of_lt→bF,lt_of_lt_of_le→bZ,zero_le→b9,le_add_right→cZ,le_of_eq→di,add_le_add→d9,le_of_ble_eq_true→fE,lt_trans→fF,le_add_left→fS,lt_succ_self→f6,le_succ→gy,add_assoc→gE,not_le→gO,add_comm→h_,ble→ia,succ_le_succ→iI,zero_add→i8,succ_pos→jo,add_le_add_left→j7,add_le_add_right→j8,ne_of_lt→kI,mod_lt→l5,sub_le→l6,succ_le_of_lt→l7,le_succ_of_le→mT,ne_of_gt→nP,le_of_succ_le→oF,lt_irrefl→oG,lt_succ_of_le→oH,add_right_comm→pT,le_antisymm→pU,lt_or_ge→pV,add_sub_cancel'→rL,le_of_lt_succ→rM,add_lt_add_left→tL,lt_add_of_pos_right→tM,lt_succ_of_lt→tN,le_max_left→vf,lt_of_succ_lt→vg,min_eq_left→vh,mul_le_mul_right→xx,sub_lt→xy,succ→xA,casesOn→zq,min_eq_right→zu,one_pos→zv,add_sub_cancel_left→BN,blt→BO,le_max_right→BP,max_le→BQ,min_le_left→BR,min_le_right→BS,succ_mul→BU,ble_eq_true_of_le→EU,eq_of_beq_eq_true→EV,le_total→EW,max_eq_right→EX,min_self→EY,mul_le_mul_left→EZ,add_sub_cancel→JT,lt_of_succ_lt_succ→JU,not_lt_zero→JV,not_succ_le_self→JW,sub_add_cancel→JX,sub_self→JY,succ_lt_succ→JZ,add_zero→Q0,le_add_of_sub_le→Q2,mul_le_mul→Q3,one_mul→Q4,sub_lt_sub_left→Q5,add_left_cancel→hR,le_of_succ_le_succ→hS,le_sub_one_of_lt→hT,lt_asymm→hU,lt_of_not_le→hV,lt_trichotomy→hW,mul_comm→hX,mul_one→hY,mul_succ→hZ,sub_le_sub_left→h1,sub_lt_sub_right→h2,sub_pos_of_lt→h3,sub_sub→h4,add_lt_add_iff_left→anz,add_lt_add_right→anA,add_sub_add_left→anB,le_min→anC,le_of_add_le_add_right→anD,le_of_sub_eq_zero→anE,le_sub_of_add_le→anF,le_zero→anG,max_eq_left→anH,not_succ_le_zero→anI,pos_of_ne_zero→anJ,pow_le_pow_right→anK,pow_pos→anL,sub_add_eq→anM,sub_eq_zero_of_le→anN,sub_le_of_le_add→anO,sub_sub_self→anP,sub_zero→anQ,succ_ne_self→anR,succ_ne_zero→anS,succ_pred_eq_of_pos→anT,two_mul→anU
open List renaming length_map→aX,length_append→bq,range→b6,size_toArray→cK,mem_cons→cQ,mem_singleton→dK,map_map→dM,all_eq_true→dQ,append_nil→dR,map_append→dS,getElem?_map→d8,append_assoc→eT,mem_of_getElem?→eU,casesOn→fk,getElem?_eq_some_iff→fm,mem_map→fC,mem_range→fJ,length_cons→gK,length_set→gM,getElem?_toArray→gY,map_cons→i6,mem_append→i7,range'→jn,isEmpty_iff→jM,length_range→kF,replicate→kG,getElem?_eq_getElem→kY,mem_append_right→lF,getD_eq_getElem?_getD→l0,all_cons→nJ,contains_iff_mem→nK,getElem?_set_ne→nL,lookup_cons→nM,filter_cons→oE,flatten_cons→qs,length_take→qt,map_congr_left→qu,length_nil→rJ,pairwise_cons→rK,filterMap_cons→tH,getElem?_eq_none→tK,getElem?_set_self→vd,mem_filterMap→ve,any_cons→xh,concat_eq_append→xj,eq_nil_or_concat→xm,flatMap_cons→xo,getLast?_concat→xq,length_drop→xr,length_reverse→xu,mem_append_left→xw,eq_nil_of_length_eq_zero→zk,getElem?_append_left→zl,take_length→zm,find?_cons→BG,length_range'→BH,mem_filter→BI,not_mem_nil→BJ,reverse_cons→BK,sum_cons→BL,dropLast_concat→EE,filter_eq_self→EF,findSome?_cons→EG,getElem?_concat_length→EH,getElem?_eq_none_iff→EI,getElem?_range→EJ,getElem_range→EK,length→EL,length_filter_le→EM,length_replicate→EN,length_singleton→EO,map_drop→EP,map_take→ER,range_succ→ES,take_of_length_le→ET,append_eq_nil_iff→JH,ext_getElem?→JI,foldl→JJ,foldl_append→JK,forIn_cons→JL,length_take_le'→JM,map_eq_nil_iff→JN,map_flatMap→JO,mem_flatMap→JP,nil_append→JQ,range'_succ→JR,takeWhile_cons→JS,dropLast_eq_take→QJ,drop_eq_nil_iff→QK,filter_eq_nil_iff→QL,flatten_nil→QM,getElem?_append_right→QN,getElem?_drop→QO,getElem?_of_mem→QR,getElem?_take_of_lt→QS,getLast?_eq_getElem?→QT,head?_drop→QU,length_pos_iff→QV,range_eq_range'→QW,range_succ_eq_map→QX,take_add_one→QY,any_eq_true→hj,any_map→hk,append_toArray→hl,cons_append→hn,drop_eq_getElem_cons→ho,drop_eq_nil_of_le→hp,drop_left→hq,drop_length→hr,filter_append→ht,filter_map→hu,flatten_append→hv,foldl_cons→hx,getLastD_concat→hy,map_inj_left→hz,mem_cons_of_mem→hA,mem_cons_self→hB,mem_flatten→hC,mem_of_mem_drop→hD,mem_reverse→hE,pairwise_iff_getElem→hF,range'_eq_append_iff→hG,replicate_zero→hH,set_append_right→hI,set_getElem_self→hJ,sublist_flatten_of_mem→hK,take_append_drop→hL,take_append_of_le_length→hM,take_left→hN,zipIdx_cons→hO,all_eq_not_any_not→am4,all_map→am5,any_toArray→am6,contains_cons→am7,drop_drop→am8,drop_of_length_le→am9,filter_sublist→am_,findIdx?_cons→am',flatMap_append→ana,flatMap_nil→anb,flatten_replicate_nil→anc,forall_mem_cons→ane,getElem_mem→anf,getLast?_cons→ang,length_dropLast→anh,length_eq_zero_iff→ani,map_singleton→anj,mem_map_of_mem→ank,mem_of_find?_eq_some→anl,mem_of_mem_take→anm,mem_toArray→ano,mem_zipIdx→anp,nodup_cons→anq,pairwise_lt_range→anr,prefix_iff_eq_take→ans,replicate_succ→ant,set_append_left→anu,singleton_append→anv,tail_drop→anw,take_set_of_le→anx,length→H
open Bool renaming and_eq_true→bl,false_ne_true→gX,casesOn→i0,or_eq_true→lY,not_eq_true'→mS,and_false→zc,eq_iff_iff→zd,eq_false_iff→Jv,and_true→Qq,true_and→Qs,not_eq_true→fe,not_not→fg,or_eq_false_iff→fo,or_true→fp,false_and→amq,noConfusion→amr,not_eq_false'→ams
open Option renaming casesOn→b7,bind_eq_some_iff→gi,map_eq_some_iff→iQ,isSome_iff_exists→xB,isNone_iff_eq_none→E1,bind_some→Q6,filter_eq_some_iff→anZ,map_eq_none_iff→an0
open PySem.Heap renaming lt_size→dJ,get?_push_of_some→fZ,size_push→f5,get?_push_size→g_,SameBut→j6,ExtBut→zg,get?_update_self→JB,get?_some_iff→amP,get?_update_other→amQ
open PySem.W renaming Looks→fD,findIn→gZ,piece_cons→iz,Frag→jD,looks_findIn→mU,hideAll_none→vo,emptyDict→xF,callWith_of→zA,hideAll→BZ,keepIn→B0,typeIn→B5,clsIn→E6,subIn→Fd,handedIn→J',topFrame→Kf,hasDictIn→Rd,kas_item→Rh,lookIn→Rj,looks_clsIn→Rk,looks_mroIn→Rl,mroIn→Rm,of_hideAll→Rn,alongIn→h',check_slot→il,findObj→ix,looks_subIn→i5,methodObj→i',shadowIn→j'
open Int renaming natCast_nonneg→kE,ofNat_le→lZ,ofNat_lt→nI,fmod→tG,natCast_add→u_,lt_of_lt_of_le→xd,not_lt→xe,lt_trans→zh,fdiv→BE,le_trans→BF,add_comm→JC,eq_ofNat_of_zero_le→JD,le_of_lt→JE,toNat_natCast→JF,zero_add→JG,add_assoc→QF,min_eq_left→QG,not_le→QH,ofNat_sub→QI,add_zero→g0,lt_of_le_of_lt→ha,toNat_lt→hb,toNat_of_nonpos→hc,add_sub_cancel→amR,fdiv_eq_ediv_of_nonneg→amS,fmod_eq_emod_of_nonneg→amT,max_eq_left→amU,max_eq_right→amV,mul_one→amW,negSucc_lt_zero→amX,sub_zero→amY,toNat_of_nonneg→amZ
open PySem.Value renaming ref→kJ,casesOn→zy
open PySem.NameKind renaming free→nO,cell→zp
open PySem.Calls renaming spliced_cons→rH,spliced_nil→u9,evalArgs_plain→fw,Constant_str→amv,loadGlobal_builtin→amw,loadGlobal_global→amx
open PySem.Heap.SameBut renaming update→rI
open PySem.Txt renaming isspace→rN,words→vm,join→Q9,stripChars→an8
open PySem.Data renaming casesOn→tF
open PySem.Sre renaming Seen→vj
open PySem.KWd renaming step→xg
open PySem.Builtin.Range renaming rangeSize→ze,rangeFitsLong→apj
open PySem.W.Looks renaming of_pure→zo,ld→hP
open PySem.Obj renaming mapSeq→zw,data_mapFields→E0,isFreed_of_fields→h5,cls_mapFields→anV,isFreed→anW,putName→anY
open Iff renaming trans→BD
open PyProof.Rows renaming subscriptTail→Fe,Tuple_→J3,oneType'→Ro,AllBare→e5,IntsAre→hg,isSubtype_of_subB→i1,Attribute_any_→amn,add_int→apq,add_str→apr,and_int→aps,floordiv_int→apt,ge_int→apu,getItem_str→apv,getItem_tuple→apw,gt_int→apx,in_str→apy,le_int→apz,lt_int→apA,lt_str→apB,mod_int'→apC,mul_int→apD,neg_int→apE,pow_int_small→apF,rshift_int→apG,sub_int→apH,truthy_int→apI
open Array renaming getElem?_eq_some_iff→Jt,toList_push→Qp,getElem?_eq_getElem→e',toList_append→fa,toList_inj→fb,any_toList→amd,eraseIdxIfInBounds→ame,getD_eq_getD_getElem?→amf,getElem?_push_lt→amg,getElem?_toList→amh,length_toList→ami,size_append→amj,size_extract→amk,size_push→aml,toList→amm
open PySem.Bind renaming checkArgs→Ju,madeBy→amo
open PySem.Builtin.Str renaming strKind→Jw,strSub→Qu,tooLong→Qv,glued→apk,subAt→apl
open Classical renaming propDecidable→Jx
open ForInStep renaming yield→Jy
open PySem.PyData renaming keyHash→J1
open PySem.StrLaws renaming partsFrom→J2,joinTotal→h9,glued_eq_join→an6,occBody→an7
open PySem.Unicode renaming isSpace→J4
open PySem.WalksS renaming of_in1→J5
open PySem.Around renaming frames_deeper→Qo,under_plainId→e6
open PySem.Builtin.SmallTypes renaming nextOf→Qt
open PySem.Env renaming kindOf→Qy,blockKind→amA
open PySem.F renaming entry_str_split→Qz,plainAttrs_list→QA,slot_enumerate_next→QB,slot_list_append→QC,slot_str_split→QD,slot_tuple_iterator_next→QE,args_list_append_2→fA,args_str_join_2→fI,args_str_split_2→f3,entry_list_append→f',entry_str_join→gd,ks_slot_super_ga→gs,slot_list_pop→gL,slot_str_join→gN,args_enumerate_next_1→amB,args_tuple_iterator_next_1→amC,entry_enumerate_next→amD,entry_list_pop→amE,entry_tuple_iterator_next→amF,slot_dict_itemiterator_iter→amG,slot_dict_items→amH,slot_int_rmul→amI,slot_list_extend→amJ,slot_list_getattribute→amK,slot_list_insert→amL,type_list_append→amM
open PySem.Manifest renaming signature?→QZ,find?→hQ
open PySem.Sem renaming casesOn→Q7
open PySem.Str renaming ofString→Q8,join→h8
open PySem.Builtin.List renaming listSubscript?→fs,listTooLong→ft,listUpdate→fv,listFitsIndex→amt,listItems→amu,listAllItems→api
open PySem.Const renaming casesOn→fx
open List.Lex renaming rel→hi
open Prod renaming fst→h6
open PySem.SeqAt renaming EqAt→h7,RcAt→an3,RcNeAt→an4
open PySem.Code renaming builtin→amy,quiet_builtin→amz
open PySem.FuncBody renaming casesOn→amN
open PySem.Heap.IsSliceOf renaming new→amO
open PySem.IsL renaming update→am0
open PySem.Keeper renaming boundFrame→am1,frame→am2,machine→am3
open PUnit renaming unit→an1
open PySem.ScopeKind renaming function→an2
open PyProof.Rows.SortSt renaming mk'→an5
open PySem.AutoIntOps renaming iadd_0→apg
open PySem.Builtin.Builtins renaming bindParams→aph
open PySem.Heap.IsCell renaming keeps→apm
open List.Pairwise renaming sublist→apn
open Option.some renaming injEq→apo
open PySem.SeqAt.EqAt renaming int_int→apJ,str_str→apK
noncomputable section
open PySem PySem.W PyProof.Rows PySem.Calls
namespace M.Internal
variable{p:Prop}
def av(a:p:=by decide):p:=a
def bC(a:p:=by decide+kernel):p:=a
def au{c:Sort _}{a b:c}(d:a=b:=by kernel_rfl):a=b:=d
variable{N:Nat}
def aH{a:Nat}(b:ia N a=true:=by exact rfl):N<=a:=fE b
def bY{c:Type _}{a b:c}(d:some a=some b):a=b:=Option.some.inj d
def ck{a:Type _}[BEq a][LawfulBEq a]{b c:a}(d:(b==c)=true):b=c:=beq_iff_eq.mp d
def jO{a:Type _}[BEq a][LawfulBEq a]{b c:a}(d:b≠c):(b==c)=false:=beq_eq_false_iff_ne.mpr d
def eB[Decidable p](a:decide p=true):p:=of_decide_eq_true a
def eS[Decidable p](a:¬p):decide p=false:=decide_eq_false a
def gb[Decidable p](a:p):decide p=true:=decide_eq_true a
def aZ{b e:Sort _}{c d:b}(a:b->e)(f:c=d):a c=a d:=congrArg a f
def aW{a:Prop}(b:p)(k:¬p):a:=absurd b k
def dI{c:Decidable p}(k:p){b:Sort _}{a e:b}:ite p a e=a:=if_pos k
def cE{c:Prop}{d:Decidable c}(k:¬c){a:Sort _}{b e:a}:ite c b e=e:=if_neg k
def aQ:True:=trivial
def bO(a:False):p:=a.elim
abbrev iX:=PySem.Challenge.pw_uy0026_01
noncomputable def ay(a:Int)(b:Nat):aF:=.int a b
noncomputable def cj(x:String)(a:Nat):aF:=.str (.ofString x) a
def gw:=cj "cpy313.wsgiref.headers" 585
def fQ:=cj "cpy313.email.header" 345
def fX:=cj "law_uy0026_01" 848
def ow:=cj "cpy313.bisect" 289
noncomputable def aD(a:Nat):aF:=.ref a
noncomputable def aJ:aF:=.none
def aM(a:cR)(x:String)(b:Nat)(c:aF):pP:=⟨J1 a<|.ofString x,cj x b,c⟩
def bE(k:Nat):cS:=iX.main.body.getD k default
noncomputable def Gx(st:cS):List cS:=PySem.Stmt.casesOn (motive_2:=λU=>List cS) st (λU U a U U U U U U U=>a) (λU U U U U U U U U U=>[]) (λU U U a U U U U U U U=>a) (λU U=>[]) (λU U=>[]) (λU U U=>[]) (λU U U U U U U=>[]) (λU U U U=>[]) (λU U U U U=>[]) (λU U U U U=>[]) (λU U U U U=>[]) (λU U U U=>[]) (λU U U U=>[]) (λU U U=>[]) (λU U U=>[]) (λU U U=>[]) (λU U U=>[]) (λU U U U U=>[]) (λU U U U U=>[]) (λU U U=>[]) (λU U=>[]) (λU U U U=>[]) (λU U=>[]) (λU U=>[]) (λU U=>[]) (λU=>[]) (λU=>[]) λU=>[]
noncomputable def Li(st:cS):Js:=PySem.Stmt.casesOn (motive_2:=λU=>Js) st (λU args U U U U U U U U=>args) (λU U U U U U U U U U=>default) (λU U U U U U U U U U U=>default) (λU U=>default) (λU U=>default) (λU U U=>default) (λU U U U U U U=>default) (λU U U U=>default) (λU U U U U=>default) (λU U U U U=>default) (λU U U U U=>default) (λU U U U=>default) (λU U U U=>default) (λU U U=>default) (λU U U=>default) (λU U U=>default) (λU U U=>default) (λU U U U U=>default) (λU U U U U=>default) (λU U U=>default) (λU U=>default) (λU U U U=>default) (λU U=>default) (λU U=>default) (λU U=>default) (λU=>default) (λU=>default) λU=>default
noncomputable def O6(st:cS):f7:=PySem.Stmt.casesOn (motive_2:=λU=>f7) st (λU U U U U U a U U U=>a) (λU U U U U U U U U U=>default) (λU U U U U U a U U U U=>a) (λU U=>default) (λU U=>default) (λU U U=>default) (λU U U U U U U=>default) (λU U U U=>default) (λU U U U U=>default) (λU U U U U=>default) (λU U U U U=>default) (λU U U U=>default) (λU U U U=>default) (λU U U=>default) (λU U U=>default) (λU U U=>default) (λU U U=>default) (λU U U U U=>default) (λU U U U U=>default) (λU U U=>default) (λU U=>default) (λU U U U=>default) (λU U=>default) (λU U=>default) (λU U=>default) (λU=>default) (λU=>default) λU=>default
noncomputable def N9(st:cS):Str:=PySem.Stmt.casesOn (motive_2:=λU=>Str) st (λname U U U U U U U U U=>name) (λU U U U U U U U U U=>default) (λname U U U U U U U U U U=>name) (λU U=>default) (λU U=>default) (λU U U=>default) (λU U U U U U U=>default) (λU U U U=>default) (λU U U U U=>default) (λU U U U U=>default) (λU U U U U=>default) (λU U U U=>default) (λU U U U=>default) (λU U U=>default) (λU U U=>default) (λU U U=>default) (λU U U=>default) (λU U U U U=>default) (λU U U U U=>default) (λU U U=>default) (λU U=>default) (λU U U U=>default) (λU U=>default) (λU U=>default) (λU U=>default) (λU=>default) (λU=>default) λU=>default
def fy(k a:Nat):cS:=(Gx<|bE k).getD a default
def C6(st:cS)(a:String):BC:=.func ⟨N9 st,.ofString a,Li st,.stmts<|Gx st,O6 st,0,[],.none,.none,.none,.none,none,.none,.none,0⟩
def C9(st:cS)(a:String)(b:List (Str×bG))(c d e f g:aF):BC:=.func ⟨N9 st,.ofString a,Li st,.stmts<|Gx st,O6 st,3,b,c,d,.none,e,none,f,g,0⟩
noncomputable def eo(a:List aF):Obj:={cls:=.type "tuple",data:=.seq a.toArray 0}
def ur(a:List aF):Obj:={cls:=aJ,data:=.fields a.toArray}
noncomputable def jk(x:String)(a:List aF):Obj:={cls:=.type x,data:=.fields a.toArray}
noncomputable def yT(a:aF)(b:List aF)(c:Nat):Obj:={cls:=a,data:=.seq b.toArray c}
noncomputable def ki(a:List pP)(b:Nat):Obj:={cls:=.type "dict",data:=.dict a.toArray b}
def wh:Nat->List String->List aF:=λa b=>b.rec (λU=>[]) (λx U c a=>cj x a::c (a+1)) a
def se(d e:String)(a b f g h i k:Nat)(j:aF)(l:Nat)(x:List aF)(c:Nat):Obj:=jk "code"<|[cj d a,cj e<|a+1,cj "/claim/cut.py"<|a+2,ay b 0,ay f 0,ay g 0,ay h 0,ay i 0,aD k,j,ay l 0,aD<|k+1]++x++[ay c 0,ay b 0,cj "/claim/cut.py"<|c+1]
def fz(e a:String)(b f g h i k:Nat)(c:cS)(d:List String)(j:List (Str×bG))(l m n p:aF):List Obj:=[eo [],ur [],eo<|wh (b+3) d,eo [],{cls:=aJ,data:=C6 c a},se e a b f g 0 h i k (.bool true) 276 [aJ,aD<|k+2,aD<|k+3,aD<|k+4]<|b+3+H d,{cls:=.type "function",data:=C9 c a j l m n (aD<|k+5) p}]
def sC(d a:String)(b e f g h k:Nat)(c:cS)(i:List (Str×bG))(j l m n:aF):List Obj:=[eo [],ur [],{cls:=aJ,data:=C6 c a},se d a b e f 0 g h k (.bool true) 276 [aJ,aJ,aJ,aD<|k+2]<|b+3,{cls:=.type "function",data:=C9 c a i j l m (aD<|k+3) n}]
def VH(a:cR):List Obj:=[(boot_heap a).objs.getD 0 default,ki [aM a "builtins" 162<|aD 4,aM a "__main__" 163<|aD 5,aM a "_sre" 244<|aD 12] 3,{cls:=aJ,data:=.dict #[aM a "im\x70ort.loaded._sre" 183<|.bool true,aM a "class._frozen_importlib.BuiltinImporter" 185<|aD 14,aM a "watched.im\x70ort" 206<|aD 18,aM a "class._frozen_importlib.ModuleSpec" 216<|aD 22,aM a "sys.modules.booked-epoch" 245<|ay 3 0,aM a "im\x70ort.later-laid._sre" 270<|.bool true,aM a "watched.library" 272<|aD 27,aM a "watched.library-objects" 0<|cj "\x0c" 0,aM a "watched.library-deep._sre" 273<|cj "\x04\x00\x00\x0b\x04\x00\x00\x0b\x04\x00\x00\x03\x04\x00\x00\x0b\x08\x04dict\x02" 0] 9}]
def aap(a:cR):List pP:=[aM a "__doc__" 166 aJ,
 aM a "__package__" 167 aJ,
 aM a "__loader__" 168 (.builtin "__main__.__loader__#opaque"),
 aM a "__spec__" 169 aJ,
 aM a "__annotations__" 170 (aD 6),
 aM a "__builtins__" 171 (aD 4),
 aM a "__file__" 173 (cj "/claim/cut.py" 172),
 aM a "__cached__" 174 aJ,
 aM a "_sre" 275 (aD 12),
 aM a "_wall" 288 (aD 38),
 aM a "insort_right" 303 (aD 47),
 aM a "bisect_right" 317 (aD 56),
 aM a "insort_left" 330 (aD 65),
 aM a "bisect_left" 344 (aD 74),
 aM a "_twin_re_1" 374 (aD 79),
 aM a "NL" 376 (cj "\n" 375),
 aM a "EMPTYSTRING" 378 (cj "" 377),
 aM a "_ValueFormatter" 488 (aD 152),
 aM a "_Accumulator" 584 (aD 236),
 aM a "tspecials" 620 (aD 245),
 aM a "_name_disallowed_re" 646 (aD 250),
 aM a "_value_disallowed_re" 680 (aD 255),
 aM a "_formatparam" 690 (aD 263),
 aM a "Headers" 847 (aD 384),
 aM a "_law_begin" 856 (aD 395),
 aM a "_law_end" 863 (aD 402),
 aM a "_law_size" 870 (aD 409),
 aM a "_law_rows" 876 (aD 414),
 aM a "_law_tokens" 882 (aD 419),
 aM a "_law_table" 901 (aD 426),
 aM a "_law_answer" 918 (aD 433),
 aM a "_law_due" 924 (aD 438),
 aM a "_law_told" 930 (aD 443),
 aM a "law" 936 (aD 448)]
def Vn(a:cR)(wh:aF)(b:Nat):Obj:={cls:=.type "dict",data:=.dict (aM a "__name__" 165 wh::(aap a).take b).toArray (b+1)}
def VI(a:cR):List Obj:=[{cls:=(.type "module"),dict:=some 0,data:=.plain},{cls:=(.type "module"),dict:=some 3,data:=.plain},ki [] 0,eo [],ur [],se "<module>" "<module>" 176 1 0 0 0 0 7 (.bool false) 175 [aJ,aJ,aJ,aJ] 179,{cls:=(.type "frame"),data:=.plain,slots:=#[some<|aD 9,some<|aD 3,some<|aD 3,none,some<|cj "__main__" 164,none,some<|aD 0]},ki [aM a "__name__" 247<|cj "_sre" 246,aM a "__doc__" 248 aJ,aM a "__package__" 250<|cj "" 249,aM a "__loader__" 251<|.builtin "off-the-table:_sre.__loader__:shared#opaque",aM a "__spec__" 252<|.builtin "off-the-table:_sre.__spec__:shared#opaque",aM a "compile" 253<|.builtin "_sre.compile",aM a "template" 254<|.builtin "off-the-table:_sre.template:shared#opaque",aM a "getcodesize" 255<|.builtin "off-the-table:_sre.getcodesize:shared#opaque",aM a "ascii_iscased" 256<|.builtin "off-the-table:_sre.ascii_iscased:shared#opaque",aM a "unicode_iscased" 257<|.builtin "off-the-table:_sre.unicode_iscased:shared#opaque",aM a "ascii_tolower" 258<|.builtin "off-the-table:_sre.ascii_tolower:shared#opaque",aM a "unicode_tolower" 259<|.builtin "off-the-table:_sre.unicode_tolower:shared#opaque",aM a "MAGIC" 261<|ay 20230612 260,aM a "CODESIZE" 263<|ay 4 262,aM a "MAXREPEAT" 265<|ay 4294967295 264,aM a "MAXGROUPS" 267<|ay 1073741823 266,aM a "copyright" 269<|cj " SRE 2.2.2 Copyright (c) 1997-2002 by Secret Labs AB " 268] 17,{cls:=(.type "module"),dict:=some 11,data:=.plain},ki [aM a "__module__" 189<|cj "_frozen_importlib" 186,aM a "__firstlineno__" 190<|ay 971 187,aM a "__doc__" 191<|.builtin "_frozen_importlib.BuiltinImporter.__doc__:str#opaque",aM a "_ORIGIN" 192<|cj "built-in" 188,aM a "find_spec" 193<|.builtin "_frozen_importlib.BuiltinImporter.find_spec#opaque",aM a "create_module" 194<|.builtin "_frozen_importlib.BuiltinImporter.create_module#opaque",aM a "exec_module" 195<|.builtin "_frozen_importlib.BuiltinImporter.exec_module#opaque",aM a "get_code" 196<|.builtin "_frozen_importlib.BuiltinImporter.get_code#opaque",aM a "get_source" 197<|.builtin "_frozen_importlib.BuiltinImporter.get_source#opaque",aM a "is_package" 198<|.builtin "_frozen_importlib.BuiltinImporter.is_package#opaque",aM a "load_module" 199<|.builtin "_frozen_importlib.BuiltinImporter.load_module#opaque",aM a "__static_attributes__" 200<|aD 15,aM a "__dict__" 202<|aD 16,aM a "__weakref__" 204<|aD 17] 14,{cls:=(.type "type"),data:=.cls {name:="BuiltinImporter",qualname:="BuiltinImporter",bases:=[.type "object"],mro:=[aD 14,.type "object"],ns:=13,subclasses:=[],hasDict:=true,collection:=none}},eo [],jk "getset_descriptor" [cj "__dict__" 201,aD 14,.builtin "function.__dict__",.builtin "function.__dict__#set"],jk "getset_descriptor" [cj "__weakref__" 203,aD 14,.builtin "ExceptionGroup.__weakref__",aJ],yT aJ [ay 13 0,cj "\x06½\n__module__\x06º\x11_frozen_importlib\x06¾\x0f__firstlineno__\x04»\x00ϋ\x06¿\x07__doc__\t4_frozen_importlib.BuiltinImporter.__doc__:str#opaque\x06À\x07_ORIGIN\x06¼\x08built-in\x06Á\tfind_spec\t2_frozen_importlib.BuiltinImporter.find_spec#opaque\x06Â\x0dcreate_module\t6_frozen_importlib.BuiltinImporter.create_module#opaque\x06Ã\x0bexec_module\t4_frozen_importlib.BuiltinImporter.exec_module#opaque\x06Ä\x08get_code\t1_frozen_importlib.BuiltinImporter.get_code#opaque\x06Å\nget_source\t3_frozen_importlib.BuiltinImporter.get_source#opaque\x06Æ\nis_package\t3_frozen_importlib.BuiltinImporter.is_package#opaque\x06Ç\x0bload_module\t4_frozen_importlib.BuiltinImporter.load_module#opaque\x06È\x15__static_attributes__\x04\x00\x00\x0f\x06Ê\x08__dict__\x04\x00\x00\x10\x06Ì\x0b__weakref__\x04\x00\x00\x11" 0,.bool true,.bool true,cj "" 205,ay 21 0,cj "\x06ã\n__module__\x06Ù\x11_frozen_importlib\x06ä\x0f__firstlineno__\x04Ú\x00Ȳ\x06å\x07__doc__\t/_frozen_importlib.ModuleSpec.__doc__:str#opaque\x06æ\x08__init__\t,_frozen_importlib.ModuleSpec.__init__#opaque\x06ç\x08__repr__\t,_frozen_importlib.ModuleSpec.__repr__#opaque\x06è\x06__eq__\t*_frozen_importlib.ModuleSpec.__eq__#opaque\x06é\x06cached\t*_frozen_importlib.ModuleSpec.cached#opaque\x06ê\x06parent\t*_frozen_importlib.ModuleSpec.parent#opaque\x06ë\x0chas_location\t0_frozen_importlib.ModuleSpec.has_location#opaque\x06ì\x15__static_attributes__\x04\x00\x00\x17\x06î\x08__dict__\x04\x00\x00\x18\x06ð\x0b__weakref__\x04\x00\x00\x19\x06ñ\x08__hash__\x00" 0,.bool true,.bool true,cj "" 242] 1,yT (.type "list") [] 0,ki [aM a "name" 208<|cj "_sre" 207,aM a "loader" 209<|aD 14,aM a "origin" 210<|cj "built-in" 184,aM a "loader_state" 211 aJ,aM a "submodule_search_locations" 212 aJ,aM a "_uninitialized_submodules" 213<|aD 19,aM a "_set_fileattr" 214<|.bool false,aM a "_cached" 215 aJ,aM a "_initializing" 243<|.bool false] 9,ki [aM a "__module__" 227<|cj "_frozen_importlib" 217,aM a "__firstlineno__" 228<|ay 562 218,aM a "__doc__" 229<|.builtin "_frozen_importlib.ModuleSpec.__doc__:str#opaque",aM a "__init__" 230<|.builtin "_frozen_importlib.ModuleSpec.__init__#opaque",aM a "__repr__" 231<|.builtin "_frozen_importlib.ModuleSpec.__repr__#opaque",aM a "__eq__" 232<|.builtin "_frozen_importlib.ModuleSpec.__eq__#opaque",aM a "cached" 233<|.builtin "_frozen_importlib.ModuleSpec.cached#opaque",aM a "parent" 234<|.builtin "_frozen_importlib.ModuleSpec.parent#opaque",aM a "has_location" 235<|.builtin "_frozen_importlib.ModuleSpec.has_location#opaque",aM a "__static_attributes__" 236<|aD 23,aM a "__dict__" 238<|aD 24,aM a "__weakref__" 240<|aD 25,aM a "__hash__" 241 aJ] 13,{cls:=(.type "type"),data:=.cls {name:="ModuleSpec",qualname:="ModuleSpec",bases:=[.type "object"],mro:=[aD 22,.type "object"],ns:=21,subclasses:=[],hasDict:=true,collection:=none}},eo<|wh 219 ["_cached","_set_fileattr","_uninitialized_submodules","loader","loader_state","name","origin","submodule_search_locations"],jk "getset_descriptor" [cj "__dict__" 237,aD 22,.builtin "function.__dict__",.builtin "function.__dict__#set"],jk "getset_descriptor" [cj "__weakref__" 239,aD 22,.builtin "ExceptionGroup.__weakref__",aJ],{cls:=(aD 22),dict:=some 20,data:=.plain},yT aJ [ay 11 0,.str ⟨#[6,247,8,95,95,110,97,109,101,95,95,6,246,4,95,115,114,101,6,248,7,95,95,100,111,99,95,95,0,6,250,11,95,95,112,97,99,107,97,103,101,95,95,6,249,0,6,251,10,95,95,108,111,97,100,101,114,95,95,4,0,0,14,6,252,8,95,95,115,112,101,99,95,95,4,0,0,26,6,253,7,99,111,109,112,105,108,101,9,12,95,115,114,101,46,99,111,109,112,105,108,101,6,254,8,116,101,109,112,108,97,116,101,9,13,95,115,114,101,46,116,101,109,112,108,97,116,101,6,255,11,103,101,116,99,111,100,101,115,105,122,101,9,16,95,115,114,101,46,103,101,116,99,111,100,101,115,105,122,101,6,256,13,97,115,99,105,105,95,105,115,99,97,115,101,100,9,18,95,115,114,101,46,97,115,99,105,105,95,105,115,99,97,115,101,100,6,257,15,117,110,105,99,111,100,101,95,105,115,99,97,115,101,100,9,20,95,115,114,101,46,117,110,105,99,111,100,101,95,105,115,99,97,115,101,100,6,258,13,97,115,99,105,105,95,116,111,108,111,119,101,114,9,18,95,115,114,101,46,97,115,99,105,105,95,116,111,108,111,119,101,114,6,259,15,117,110,105,99,111,100,101,95,116,111,108,111,119,101,114,9,20,95,115,114,101,46,117,110,105,99,111,100,101,95,116,111,108,111,119,101,114,6,261,5,77,65,71,73,67,4,260,0,20230612,6,263,8,67,79,68,69,83,73,90,69,4,262,0,4,6,265,9,77,65,88,82,69,80,69,65,84,4,264,0,4294967295,6,267,9,77,65,88,71,82,79,85,80,83,4,266,0,1073741823,6,269,9,99,111,112,121,114,105,103,104,116,6,268,53,32,83,82,69,32,50,46,50,46,50,32,67,111,112,121,114,105,103,104,116,32,40,99,41,32,49,57,57,55,45,50,48,48,50,32,98,121,32,83,101,99,114,101,116,32,76,97,98,115,32,65,66,32]⟩ 0,.bool true,.bool false,cj "_sre" 271] 0]
noncomputable def aaT:Obj:={cls:=(.type "tuple"),data:=.seq #[] 0}
def aki:List aF:=[ay 2 0,ay 0 0,aD 37,ay 6 0,ay 0 0,aD 46,ay 12 0,ay 0 0,aD 55,ay 32 0,ay 0 0,aD 64,ay 38 0,ay 0 0,aD 73,ay 62 0,ay 0 0,aD 85,ay 134 0,ay 0 0,aD 163,ay 174 0,ay 0 0,aD 262,ay 183 0,ay 0 0,aD 269,ay 266 0,ay 0 0,aD 394,ay 268 0,ay 0 0,aD 401,ay 270 0,ay 0 0,aD 408,ay 272 0,ay 0 0,aD 413,ay 281 0,ay 0 0,aD 418,ay 287 0,ay 0 0,aD 425,ay 303 0,ay 0 0,aD 432,ay 324 0,ay 0 0,aD 437,ay 335 0,ay 0 0,aD 442,ay 344 0,ay 0 0,aD 447]
def akg(a:Nat):Obj:={cls:=.none,data:=.fields (aki.take a).toArray}
def w0(a:cR):List Obj:=[se "<module>" "<module>" 277 1 0 0 0 0 28 (.bool false) 276 [aJ,aJ,aJ,aJ] 280,{cls:=(.type "frame"),data:=.plain,slots:=#[some<|aD 30,some<|aD 3,some<|aD 3,none,some<|cj "__main__" 164,none,some<|aD 0]}]
def w3(a:cR):List Obj:=fz "_wall" "_wall" 282 2 1 0 3 32 (bE 1) ["k"] [] aJ aJ (cj "__main__" 164) aJ
def x2(a:cR):List Obj:=[eo [ay 0 291,aJ],ki [aM a "key" 292 aJ] 1]++fz "insort_right" "insort_right" 293 6 4 1 3 41 (bE 3) ["a","x","lo","hi","key"] [] (aD 39) (aD 40) ow aJ
def x3(a:cR):List Obj:=[eo [ay 0 304,aJ],ki [aM a "key" 305 aJ] 1]++fz "bisect_right" "bisect_right" 306 12 4 1 3 50 (bE 4) ["a","x","lo","hi","key","mid"] [] (aD 48) (aD 49) ow aJ
def x5(a:cR):List Obj:=[eo [ay 0 318,aJ],ki [aM a "key" 319 aJ] 1]++fz "insort_left" "insort_left" 320 32 4 1 3 59 (bE 5) ["a","x","lo","hi","key"] [] (aD 57) (aD 58) ow aJ
def x'(a:cR):List Obj:=[eo [ay 0 331,aJ],ki [aM a "key" 332 aJ] 1]++fz "bisect_left" "bisect_left" 333 38 4 1 3 68 (bE 6) ["a","x","lo","hi","key","mid"] [] (aD 66) (aD 67) ow aJ
def yn(a:cR):List Obj:=[yT (.type "list") [ay 14 350,ay 4 351,ay 0 352,ay 1 353,ay 4294967295 354,ay 17 355,ay 0 356,ay 24 357,ay 11 358,ay 1 359,ay 4294967295 360,ay 13 361,ay 6 362,ay 16 363,ay 32 364,ay 16 365,ay 9 366,ay 0 367,ay 1 368,ay 17 369,ay 1 370,ay 1 371] 0,ki [] 0,eo [aJ,aJ],eo [ay 14 0,ay 4 0,ay 0 0,ay 1 0,ay 4294967295 0,ay 17 0,ay 0 0,ay 24 0,ay 11 0,ay 1 0,ay 4294967295 0,ay 13 0,ay 6 0,ay 16 0,ay 32 0,ay 16 0,ay 9 0,ay 0 0,ay 1 0,ay 17 0,ay 1 0,ay 1 0],jk "re.Pattern" [cj "([ \t]+)" 348,ay 32 373,ay 1 0,aJ,aJ,aD 78,ay 0 0]]
def vs(a:cR):List Obj:=[eo [],jk "builtin_function_or_method" [.builtin "type.__prepare__",.type "type"],ki [aM a "__module__" 386 fQ,aM a "__qualname__" 388<|cj "_ValueFormatter" 387,aM a "__firstlineno__" 390<|ay 62 389,aM a "__init__" 401<|aD 93,aM a "_str" 409<|aD 100,aM a "__str__" 416<|aD 107,aM a "newline" 424<|aD 114,aM a "add_transition" 431<|aD 121,aM a "feed" 441<|aD 128,aM a "_maxlengths" 448<|aD 135,aM a "_ascii_split" 460<|aD 142,aM a "_append_chunk" 474<|aD 149,aM a "__static_attributes__" 481<|aD 150] 13,eo [],ur [ay 64 0,ay 4 0,aD 92,ay 72 0,ay 4 0,aD 99,ay 76 0,ay 4 0,aD 106,ay 79 0,ay 4 0,aD 113,ay 90 0,ay 4 0,aD 120,ay 93 0,ay 4 0,aD 127,ay 96 0,ay 4 0,aD 134,ay 99 0,ay 4 0,aD 141,ay 108 0,ay 4 0,aD 148],se "_ValueFormatter" "_ValueFormatter" 381 62 0 0 0 0 83 (.bool false) 276 [aJ,aJ,aJ,aJ] 384,{cls:=(.type "frame"),data:=.plain,slots:=#[some<|aD 85,some<|aD 3,some<|aD 82,none,some fQ,none,some<|aD 0]}]++fz "__init__" "_ValueFormatter.__init__" 391 64 5 0 3 87 (fy 11 0) ["self","headerlen","maxlen","continuation_ws","splitchars"] [] aJ aJ fQ aJ++fz "_str" "_ValueFormatter._str" 402 72 2 0 3 94 (fy 11 1) ["self","linesep"] [] aJ aJ fQ aJ++fz "__str__" "_ValueFormatter.__str__" 410 76 1 0 3 101 (fy 11 2) ["self"] [] aJ aJ fQ aJ++fz "newline" "_ValueFormatter.newline" 417 79 1 0 3 108 (fy 11 3) ["self","end_of_line"] [] aJ aJ fQ aJ++fz "add_transition" "_ValueFormatter.add_transition" 425 90 1 0 3 115 (fy 11 4) ["self"] [] aJ aJ fQ aJ++fz "feed" "_ValueFormatter.feed" 432 93 4 0 3 122 (fy 11 5) ["self","fws","string","charset"] [] aJ aJ fQ aJ++fz "_maxlengths" "_ValueFormatter._maxlengths" 442 96 1 0 3 129 (fy 11 6) ["self"] [] aJ aJ fQ aJ++fz "_ascii_split" "_ValueFormatter._ascii_split" 449 99 4 0 3 136 (fy 11 7) ["self","fws","string","splitchars","parts","part"] [] aJ aJ fQ aJ++fz "_append_chunk" "_ValueFormatter._append_chunk" 461 108 3 0 3 143 (fy 11 8) ["self","fws","string","ch","i","prevpart","part","remainder"] [] aJ aJ fQ aJ++[eo<|wh 475 ["_continuation_ws","_continuation_ws_len","_current_line","_lines","_maxlen","_splitchars"],ki [aM a "__module__" 386 fQ,aM a "__firstlineno__" 390<|ay 62 389,aM a "__init__" 401<|aD 93,aM a "_str" 409<|aD 100,aM a "__str__" 416<|aD 107,aM a "newline" 424<|aD 114,aM a "add_transition" 431<|aD 121,aM a "feed" 441<|aD 128,aM a "_maxlengths" 448<|aD 135,aM a "_ascii_split" 460<|aD 142,aM a "_append_chunk" 474<|aD 149,aM a "__static_attributes__" 481<|aD 150,aM a "__dict__" 483<|aD 153,aM a "__weakref__" 485<|aD 154,aM a "__doc__" 486 aJ] 4,{cls:=(.type "type"),data:=.cls {name:="_ValueFormatter",qualname:="_ValueFormatter",bases:=[.type "object"],mro:=[aD 152,.type "object"],ns:=151,subclasses:=[],hasDict:=true,collection:=none},slots:=#[none,none,some<|cj "_ValueFormatter" 379,some<|cj "_ValueFormatter" 387,some<|.builtin "object.__new__",some<|.bool true]},jk "getset_descriptor" [cj "__dict__" 482,aD 152,.builtin "function.__dict__",.builtin "function.__dict__#set"],jk "getset_descriptor" [cj "__weakref__" 484,aD 152,.builtin "ExceptionGroup.__weakref__",aJ],jk "super" [aD 152,aD 152,aD 152],jk "builtin_function_or_method" [.builtin "object.__init_subclass__",aD 152]]
def v'(a:cR):List Obj:=[eo [.type "list"],jk "builtin_function_or_method" [.builtin "type.__prepare__",.type "type"],ki [aM a "__module__" 496 fQ,aM a "__qualname__" 498<|cj "_Accumulator" 497,aM a "__firstlineno__" 500<|ay 134 499,aM a "__init__" 510<|aD 173,aM a "push" 519<|aD 180,aM a "pop_from" 529<|aD 188,aM a "pop" 537<|aD 196,aM a "__len__" 544<|aD 203,aM a "__str__" 551<|aD 210,aM a "reset" 559<|aD 218,aM a "is_onlyws" 566<|aD 225,aM a "part_count" 574<|aD 233,aM a "__static_attributes__" 576<|aD 234,aM a "__classcell__" 577<|aD 160] 14,{cls:=(.type "cell"),data:=.cell (some<|aD 236)},eo [],ur [ay 136 0,ay 4 0,aD 172,ay 140 0,ay 4 0,aD 179,ay 143 0,ay 4 0,aD 187,ay 148 0,ay 4 0,aD 195,ay 153 0,ay 4 0,aD 202,ay 156 0,ay 4 0,aD 209,ay 159 0,ay 4 0,aD 217,ay 165 0,ay 4 0,aD 224,ay 168 0,ay 4 0,aD 232],se "_Accumulator" "_Accumulator" 491 134 0 0 0 0 161 (.bool false) 276 [aJ,aJ,aJ,aJ] 494,{cls:=(.type "frame"),data:=.plain,slots:=#[some<|aD 163,some<|aD 3,some<|aD 159,none,some fQ,none,some<|aD 0]},eo [ay 0 501],eo [aD 160],eo [cj "__class__" 505],ur [],eo<|wh 506 ["self","initial_size"],eo [],{cls:=aJ,data:=C6 (fy 12 0) "_Accumulator.__init__"},se "__init__" "_Accumulator.__init__" 502 136 2 0 0 3 167 (.bool true) 276 [aJ,aD 169,aD 170,aD 171] 508,{cls:=(.type "function"),data:=C9 (fy 12 0) "_Accumulator.__init__" [("__class__",160)] (aD 165) aJ fQ (aD 172) (aD 166)}]++fz "push" "_Accumulator.push" 511 140 3 0 3 174 (fy 12 1) ["self","fws","string"] [] aJ aJ fQ aJ++[eo [ay 0 520]]++fz "pop_from" "_Accumulator.pop_from" 521 143 2 0 3 182 (fy 12 2) ["self","i","popped"] [] (aD 181) aJ fQ aJ++[eo [aD 160],eo [cj "__class__" 533],ur [],eo [cj "self" 534],eo [],{cls:=aJ,data:=C6 (fy 12 3) "_Accumulator.pop"},se "pop" "_Accumulator.pop" 530 148 1 0 0 3 190 (.bool true) 276 [aJ,aD 192,aD 193,aD 194] 535,{cls:=(.type "function"),data:=C9 (fy 12 3) "_Accumulator.pop" [("__class__",160)] aJ aJ fQ (aD 195) (aD 189)}]++fz "__len__" "_Accumulator.__len__" 538 153 1 0 3 197 (fy 12 4) ["self"] [] aJ aJ fQ aJ++fz "__str__" "_Accumulator.__str__" 545 156 1 0 3 204 (fy 12 5) ["self"] [] aJ aJ fQ aJ++[eo [aJ]]++fz "reset" "_Accumulator.reset" 552 159 2 0 3 212 (fy 12 6) ["self","startval"] [] (aD 211) aJ fQ aJ++fz "is_onlyws" "_Accumulator.is_onlyws" 560 165 1 0 3 219 (fy 12 7) ["self"] [] aJ aJ fQ aJ++[eo [aD 160],eo [cj "__class__" 570],ur [],eo [cj "self" 571],eo [],{cls:=aJ,data:=C6 (fy 12 8) "_Accumulator.part_count"},se "part_count" "_Accumulator.part_count" 567 168 1 0 0 3 227 (.bool true) 276 [aJ,aD 229,aD 230,aD 231] 572,{cls:=(.type "function"),data:=C9 (fy 12 8) "_Accumulator.part_count" [("__class__",160)] aJ aJ fQ (aD 232) (aD 226)},eo [cj "_initial_size" 575],ki [aM a "__module__" 496 fQ,aM a "__firstlineno__" 500<|ay 134 499,aM a "__init__" 510<|aD 173,aM a "push" 519<|aD 180,aM a "pop_from" 529<|aD 188,aM a "pop" 537<|aD 196,aM a "__len__" 544<|aD 203,aM a "__str__" 551<|aD 210,aM a "reset" 559<|aD 218,aM a "is_onlyws" 566<|aD 225,aM a "part_count" 574<|aD 233,aM a "__static_attributes__" 576<|aD 234,aM a "__dict__" 579<|aD 237,aM a "__weakref__" 581<|aD 238,aM a "__doc__" 582 aJ] 5,{cls:=(.type "type"),data:=.cls {name:="_Accumulator",qualname:="_Accumulator",bases:=[.type "list"],mro:=[aD 236,.type "list",.type "object"],ns:=235,subclasses:=[],hasDict:=true,collection:=none},slots:=#[some<|aD 157,none,some<|cj "_Accumulator" 489,some<|cj "_Accumulator" 497,some<|.builtin "list.__new__",some<|.bool true]},jk "getset_descriptor" [cj "__dict__" 578,aD 236,.builtin "function.__dict__",.builtin "function.__dict__#set"],jk "getset_descriptor" [cj "__weakref__" 580,aD 236,.builtin "ExceptionGroup.__weakref__",aJ],jk "super" [aD 236,aD 236,aD 236],jk "builtin_function_or_method" [.builtin "object.__init_subclass__",aD 236]]
def wa(a:cR):List Obj:=[yT (.type "list") [ay 14 590,ay 14 591,ay 4 592,ay 1 593,ay 1 594,ay 9 595,ay 0 596,ay 4227896069 597,ay 939524097 598,ay 0 599,ay 0 600,ay 0 601,ay 0 602,ay 0 603,ay 0 604,ay 13 605,ay 11 606,ay 9 607,ay 0 608,ay 4227896069 609,ay 939524097 610,ay 0 611,ay 0 612,ay 0 613,ay 0 614,ay 0 615,ay 0 616,ay 1 617] 0,ki [] 0,eo [aJ],eo [ay 14 0,ay 14 0,ay 4 0,ay 1 0,ay 1 0,ay 9 0,ay 0 0,ay 4227896069 0,ay 939524097 0,ay 0 0,ay 0 0,ay 0 0,ay 0 0,ay 0 0,ay 0 0,ay 13 0,ay 11 0,ay 9 0,ay 0 0,ay 4227896069 0,ay 939524097 0,ay 0 0,ay 0 0,ay 0 0,ay 0 0,ay 0 0,ay 0 0,ay 1 0],jk "re.Pattern" [cj "[ \\(\\)<>@,;:\\\\\"/\\[\\]\\?=]" 588,ay 32 619,ay 0 0,aJ,aJ,aD 244,ay 0 0]]
def wb(a:cR):List Obj:=[yT (.type "list") [ay 14 624,ay 10 625,ay 4 626,ay 1 627,ay 1 628,ay 22 629,ay 0 630,ay 31 631,ay 16 632,ay 127 633,ay 0 634,ay 13 635,ay 7 636,ay 22 637,ay 0 638,ay 31 639,ay 16 640,ay 127 641,ay 0 642,ay 1 643] 0,ki [] 0,eo [aJ],eo [ay 14 0,ay 10 0,ay 4 0,ay 1 0,ay 1 0,ay 22 0,ay 0 0,ay 31 0,ay 16 0,ay 127 0,ay 0 0,ay 13 0,ay 7 0,ay 22 0,ay 0 0,ay 31 0,ay 16 0,ay 127 0,ay 0 0,ay 1 0],jk "re.Pattern" [cj "[\\x00-\\x1F\\x7F]" 622,ay 32 645,ay 0 0,aJ,aJ,aD 249,ay 0 0]]
def wd(a:cR):List Obj:=[yT (.type "list") [ay 14 650,ay 14 651,ay 4 652,ay 1 653,ay 1 654,ay 9 655,ay 4294966783 656,ay 0 657,ay 0 658,ay 2147483648 659,ay 0 660,ay 0 661,ay 0 662,ay 0 663,ay 0 664,ay 13 665,ay 11 666,ay 9 667,ay 4294966783 668,ay 0 669,ay 0 670,ay 2147483648 671,ay 0 672,ay 0 673,ay 0 674,ay 0 675,ay 0 676,ay 1 677] 0,ki [] 0,eo [aJ],eo [ay 14 0,ay 14 0,ay 4 0,ay 1 0,ay 1 0,ay 9 0,ay 4294966783 0,ay 0 0,ay 0 0,ay 2147483648 0,ay 0 0,ay 0 0,ay 0 0,ay 0 0,ay 0 0,ay 13 0,ay 11 0,ay 9 0,ay 4294966783 0,ay 0 0,ay 0 0,ay 2147483648 0,ay 0 0,ay 0 0,ay 0 0,ay 0 0,ay 0 0,ay 1 0],jk "re.Pattern" [cj "[\\x00-\\x08\\x0A-\\x1F\\x7F]" 648,ay 32 679,ay 0 0,aJ,aJ,aD 254,ay 0 0]]
def wq(a:cR):List Obj:=[eo [aJ,ay 1 681]]++fz "_formatparam" "_formatparam" 682 174 3 0 3 257 (bE 17) ["param","value","quote"] [] (aD 256) aJ gw aJ
def w1(a:cR):List Obj:=[eo [],jk "builtin_function_or_method" [.builtin "type.__prepare__",.type "type"],ki [aM a "__module__" 698 gw,aM a "__qualname__" 700<|cj "Headers" 699,aM a "__firstlineno__" 702<|ay 183 701,aM a "__init__" 712<|aD 278,aM a "_convert_string_type" 722<|aD 285,aM a "__len__" 729<|aD 292,aM a "__setitem__" 738<|aD 299,aM a "__delitem__" 744<|aD 304,aM a "__getitem__" 752<|aD 311,aM a "__contains__" 760<|aD 318,aM a "get_all" 766<|aD 323,aM a "get" 777<|aD 331,aM a "keys" 783<|aD 336,aM a "values" 789<|aD 341,aM a "items" 796<|aD 348,aM a "__repr__" 803<|aD 355,aM a "__str__" 809<|aD 360,aM a "__bytes__" 816<|aD 367,aM a "setdefault" 825<|aD 374,aM a "add_header" 838<|aD 381,aM a "__static_attributes__" 840<|aD 382] 21,eo [],ur [ay 185 0,ay 4 0,aD 277,ay 195 0,ay 4 0,aD 284,ay 203 0,ay 4 0,aD 291,ay 206 0,ay 4 0,aD 298,ay 210 0,ay 4 0,aD 303,ay 214 0,ay 4 0,aD 310,ay 217 0,ay 4 0,aD 317,ay 220 0,ay 4 0,aD 322,ay 224 0,ay 4 0,aD 330,ay 231 0,ay 4 0,aD 335,ay 234 0,ay 4 0,aD 340,ay 237 0,ay 4 0,aD 347,ay 240 0,ay 4 0,aD 354,ay 243 0,ay 4 0,aD 359,ay 246 0,ay 4 0,aD 366,ay 249 0,ay 4 0,aD 373,ay 252 0,ay 4 0,aD 380],se "Headers" "Headers" 693 183 0 0 0 0 267 (.bool false) 276 [aJ,aJ,aJ,aJ] 696,{cls:=(.type "frame"),data:=.plain,slots:=#[some<|aD 269,some<|aD 3,some<|aD 266,none,some gw,none,some<|aD 0]},eo [aJ]]++fz "__init__" "Headers.__init__" 703 185 2 0 3 272 (fy 18 0) ["self","headers","k","v"] [] (aD 271) aJ gw aJ++fz "_convert_string_type" "Headers._convert_string_type" 713 195 2 1 3 279 (fy 18 1) ["self","value","name","regex"] [] aJ aJ gw aJ++fz "__len__" "Headers.__len__" 723 203 1 0 3 286 (fy 18 2) ["self"] [] aJ aJ gw aJ++fz "__setitem__" "Headers.__setitem__" 730 206 3 0 3 293 (fy 18 3) ["self","name","val"] [] aJ aJ gw aJ++sC "__delitem__" "Headers.__delitem__" 739 210 2 0 3 300 (fy 18 4) [] aJ aJ gw aJ++fz "__getitem__" "Headers.__getitem__" 745 214 2 0 3 305 (fy 18 5) ["self","name"] [] aJ aJ gw aJ++fz "__contains__" "Headers.__contains__" 753 217 2 0 3 312 (fy 18 6) ["self","name"] [] aJ aJ gw aJ++sC "get_all" "Headers.get_all" 761 220 2 0 3 319 (fy 18 7) [] aJ aJ gw aJ++[eo [aJ]]++fz "get" "Headers.get" 767 224 3 0 3 325 (fy 18 8) ["self","name","default","k","v"] [] (aD 324) aJ gw aJ++sC "keys" "Headers.keys" 778 231 1 0 3 332 (fy 18 9) [] aJ aJ gw aJ++sC "values" "Headers.values" 784 234 1 0 3 337 (fy 18 10) [] aJ aJ gw aJ++fz "items" "Headers.items" 790 237 1 0 3 342 (fy 18 11) ["self"] [] aJ aJ gw aJ++fz "__repr__" "Headers.__repr__" 797 240 1 0 3 349 (fy 18 12) ["self"] [] aJ aJ gw aJ++sC "__str__" "Headers.__str__" 804 243 1 0 3 356 (fy 18 13) [] aJ aJ gw aJ++fz "__bytes__" "Headers.__bytes__" 810 246 1 0 3 361 (fy 18 14) ["self"] [] aJ aJ gw aJ++fz "setdefault" "Headers.setdefault" 817 249 3 0 3 368 (fy 18 15) ["self","name","value"] [] aJ aJ gw aJ++fz "add_header" "Headers.add_header" 826 252 3 0 11 375 (fy 18 16) ["self","_name","_value","_params","parts","k","v"] [] aJ aJ gw aJ++[eo [cj "_headers" 839],ki [aM a "__module__" 698 gw,aM a "__firstlineno__" 702<|ay 183 701,aM a "__init__" 712<|aD 278,aM a "_convert_string_type" 722<|aD 285,aM a "__len__" 729<|aD 292,aM a "__setitem__" 738<|aD 299,aM a "__delitem__" 744<|aD 304,aM a "__getitem__" 752<|aD 311,aM a "__contains__" 760<|aD 318,aM a "get_all" 766<|aD 323,aM a "get" 777<|aD 331,aM a "keys" 783<|aD 336,aM a "values" 789<|aD 341,aM a "items" 796<|aD 348,aM a "__repr__" 803<|aD 355,aM a "__str__" 809<|aD 360,aM a "__bytes__" 816<|aD 367,aM a "setdefault" 825<|aD 374,aM a "add_header" 838<|aD 381,aM a "__static_attributes__" 840<|aD 382,aM a "__dict__" 842<|aD 385,aM a "__weakref__" 844<|aD 386,aM a "__doc__" 845 aJ] 4,{cls:=(.type "type"),data:=.cls {name:="Headers",qualname:="Headers",bases:=[.type "object"],mro:=[aD 384,.type "object"],ns:=383,subclasses:=[],hasDict:=true,collection:=none},slots:=#[none,none,some<|cj "Headers" 691,some<|cj "Headers" 699,some<|.builtin "object.__new__",some<|.bool true]},jk "getset_descriptor" [cj "__dict__" 841,aD 384,.builtin "function.__dict__",.builtin "function.__dict__#set"],jk "getset_descriptor" [cj "__weakref__" 843,aD 384,.builtin "ExceptionGroup.__weakref__",aJ],jk "super" [aD 384,aD 384,aD 384],jk "builtin_function_or_method" [.builtin "object.__init_subclass__",aD 384]]
def w2(a:cR):List Obj:=fz "_law_begin" "_law_begin" 850 266 1 0 3 389 (bE 20) ["text"] [] aJ aJ fX aJ
def w'(a:cR):List Obj:=fz "_law_end" "_law_end" 857 268 1 0 3 396 (bE 21) ["text"] [] aJ aJ fX aJ
def xa(a:cR):List Obj:=fz "_law_size" "_law_size" 864 270 1 0 3 403 (bE 22) ["text"] [] aJ aJ fX aJ
def xc(a:cR):List Obj:=sC "_law_rows" "_law_rows" 871 272 5 0 3 410 (bE 23) [] aJ aJ fX aJ
def xk(a:cR):List Obj:=sC "_law_tokens" "_law_tokens" 877 281 1 0 3 415 (bE 24) [] aJ aJ fX aJ
def xn(a:cR):List Obj:=fz "_law_table" "_law_table" 883 287 2 0 3 420 (bE 25) ["page","tokens","index","begins","place","pile","made","row","name","sign","ys","xs","text"] [] aJ aJ fX aJ
def xp(a:cR):List Obj:=fz "_law_answer" "_law_answer" 902 303 3 0 3 427 (bE 26) ["sign","xs","ys","out","i","j","text","right","left","k","hit"] [] aJ aJ fX aJ
def xt(a:cR):List Obj:=sC "_law_due" "_law_due" 919 324 4 0 3 434 (bE 27) [] aJ aJ fX aJ
def xI(a:cR):List Obj:=sC "_law_told" "_law_told" 925 335 3 0 3 439 (bE 28) [] aJ aJ fX aJ
def x1(a:cR):List Obj:=sC "law" "law" 931 344 1 0 3 444 (bE 29) [] aJ aJ fX aJ
def uu(a:cR):e9:=⟨Array.mk (VH a++Vn a (cj "__main__" 164) 9::VI a),{}⟩
def afy:∀b,(fencedOpening zD iX b 5400).map (λcj=>(cj.heap,cj.gens,cj.drawn,cj.toks))=some (uu b.params,Array.mk [],{},276):=λb=>au
def cL(a:cR)(wh:aF)(b c:Nat)(d:List Obj):e9:=⟨Array.mk (VH a++Vn a wh b::(VI a++aaT::akg c::d)),{}⟩
def GO:Env:={scope:=iX.main.scope,locals:=mainNs,globals:=mainNs,cells:=[],code:=.ref 30,frame:=some 31}
def Lv:List cS:=behindTheImports iX
def fK:Code:=.body Lv GO
abbrev vO:Option aF:=some<|.ref 6
abbrev wC:Pos:=⟨0,0,0,0⟩
abbrev g7(a:J6)(b:Nat)(cj:bf)(st:cS)(c:Pos):=segRun zD iX a 28 vO 1 b cj<|pieceOf st GO fK c [Kf wC]
def AL(a:cR):List Obj:=w0 a
def Du(a:cR):List Obj:=AL a++w3 a
def NP(a:cR):List Obj:=Du a++x2 a
def NQ(a:cR):List Obj:=NP a++x3 a
def NR(a:cR):List Obj:=NQ a++x5 a
def Dw(a:cR):List Obj:=NR a++x' a
def yx(a:cR):List Obj:=Dw a++yn a
def Nx(a:cR):List Obj:=yx a++vs a
def Ds(a:cR):List Obj:=Nx a++v' a
def Ny(a:cR):List Obj:=Ds a++wa a
def Nz(a:cR):List Obj:=Ny a++wb a
def NB(a:cR):List Obj:=Nz a++wd a
def NC(a:cR):List Obj:=NB a++wq a
def Dt(a:cR):List Obj:=NC a++w1 a
def NF(a:cR):List Obj:=Dt a++w2 a
def NG(a:cR):List Obj:=NF a++w' a
def NH(a:cR):List Obj:=NG a++xa a
def NI(a:cR):List Obj:=NH a++xc a
def NJ(a:cR):List Obj:=NI a++xk a
def NK(a:cR):List Obj:=NJ a++xn a
def NL(a:cR):List Obj:=NK a++xp a
def NN(a:cR):List Obj:=NL a++xt a
def NO(a:cR):List Obj:=NN a++xI a
def Dv(a:cR):List Obj:=NO a++x1 a
def af7(a)(b):g7 a 30 ⟨cL a.params (cj "__main__" 164) 9 0 (AL a.params),#[],{},282,b⟩ (bE 1) ⟨0,0,0,0⟩=some (.next,⟨cL a.params (cj "__main__" 164) 10 3 (Du a.params),#[],{},289,b⟩,fK,⟨2,0,4,12⟩):=au
def af_(a)(b):g7 a 10 ⟨cL a.params (cj "__main__" 164) 10 3 (Du a.params),#[],{},289,b⟩ (bE 2) ⟨2,0,4,12⟩=some (.next,⟨cL a.params ow 10 3 (Du a.params),#[],{},291,b⟩,fK,⟨5,0,5,8⟩):=au
def af'(a)(b):g7 a 41 ⟨cL a.params ow 10 3 (Du a.params),#[],{},291,b⟩ (bE 3) ⟨5,0,5,8⟩=some (.next,⟨cL a.params ow 11 6 (NP a.params),#[],{},304,b⟩,fK,⟨6,0,11,19⟩):=au
def aga(a)(b):g7 a 42 ⟨cL a.params ow 11 6 (NP a.params),#[],{},304,b⟩ (bE 4) ⟨6,0,11,19⟩=some (.next,⟨cL a.params ow 12 9 (NQ a.params),#[],{},318,b⟩,fK,⟨12,0,31,13⟩):=au
def agb(a)(b):g7 a 41 ⟨cL a.params ow 12 9 (NQ a.params),#[],{},318,b⟩ (bE 5) ⟨12,0,31,13⟩=some (.next,⟨cL a.params ow 13 12 (NR a.params),#[],{},331,b⟩,fK,⟨32,0,37,19⟩):=au
def agc(a)(b):g7 a 42 ⟨cL a.params ow 13 12 (NR a.params),#[],{},331,b⟩ (bE 6) ⟨32,0,37,19⟩=some (.next,⟨cL a.params ow 14 15 (Dw a.params),#[],{},345,b⟩,fK,⟨38,0,57,13⟩):=au
def agd(a)(b):g7 a 10 ⟨cL a.params ow 14 15 (Dw a.params),#[],{},345,b⟩ (bE 7) ⟨38,0,57,13⟩=some (.next,⟨cL a.params fQ 14 15 (Dw a.params),#[],{},347,b⟩,fK,⟨58,0,58,8⟩):=au
def age(a)(b):g7 a 72 ⟨cL a.params fQ 14 15 (Dw a.params),#[],{},347,b⟩ (bE 8) ⟨58,0,58,8⟩=some (.next,⟨cL a.params fQ 15 15 (yx a.params),#[],{},375,b⟩,fK,⟨59,0,59,10⟩):=au
def afM(a)(b):g7 a 10 ⟨cL a.params fQ 15 15 (yx a.params),#[],{},375,b⟩ (bE 9) ⟨59,0,59,10⟩=some (.next,⟨cL a.params fQ 16 15 (yx a.params),#[],{},377,b⟩,fK,⟨60,0,60,2⟩):=au
def afN(a)(b):g7 a 10 ⟨cL a.params fQ 16 15 (yx a.params),#[],{},377,b⟩ (bE 10) ⟨60,0,60,2⟩=some (.next,⟨cL a.params fQ 17 15 (yx a.params),#[],{},379,b⟩,fK,⟨61,0,61,11⟩):=au
def afO(a)(b):g7 a 496 ⟨cL a.params fQ 17 15 (yx a.params),#[],{},379,b⟩ (bE 11) ⟨61,0,61,11⟩=some (.next,⟨cL a.params fQ 18 18 (Nx a.params),#[],{},489,b⟩,fK,⟨62,0,133,47⟩):=au
def afP(a)(b):g7 a 505 ⟨cL a.params fQ 18 18 (Nx a.params),#[],{},489,b⟩ (bE 12) ⟨62,0,133,47⟩=some (.next,⟨cL a.params fQ 19 21 (Ds a.params),#[],{},585,b⟩,fK,⟨134,0,169,32⟩):=au
def afQ(a)(b):g7 a 10 ⟨cL a.params fQ 19 21 (Ds a.params),#[],{},585,b⟩ (bE 13) ⟨134,0,169,32⟩=some (.next,⟨cL a.params gw 19 21 (Ds a.params),#[],{},587,b⟩,fK,⟨170,0,170,8⟩):=au
def afR(a)(b):g7 a 78 ⟨cL a.params gw 19 21 (Ds a.params),#[],{},587,b⟩ (bE 14) ⟨170,0,170,8⟩=some (.next,⟨cL a.params gw 20 21 (Ny a.params),#[],{},621,b⟩,fK,⟨171,0,171,9⟩):=au
def afS(a)(b):g7 a 70 ⟨cL a.params gw 20 21 (Ny a.params),#[],{},621,b⟩ (bE 15) ⟨171,0,171,9⟩=some (.next,⟨cL a.params gw 21 21 (Nz a.params),#[],{},647,b⟩,fK,⟨172,0,172,19⟩):=au
def afT(a)(b):g7 a 78 ⟨cL a.params gw 21 21 (Nz a.params),#[],{},647,b⟩ (bE 16) ⟨172,0,172,19⟩=some (.next,⟨cL a.params gw 22 21 (NB a.params),#[],{},681,b⟩,fK,⟨173,0,173,20⟩):=au
def afV(a)(b):g7 a 34 ⟨cL a.params gw 22 21 (NB a.params),#[],{},681,b⟩ (bE 17) ⟨173,0,173,20⟩=some (.next,⟨cL a.params gw 23 24 (NC a.params),#[],{},691,b⟩,fK,⟨174,0,182,20⟩):=au
def afW(a)(b):g7 a 727 ⟨cL a.params gw 23 24 (NC a.params),#[],{},691,b⟩ (bE 18) ⟨174,0,182,20⟩=some (.next,⟨cL a.params gw 24 27 (Dt a.params),#[],{},848,b⟩,fK,⟨183,0,264,93⟩):=au
def afX(a)(b):g7 a 10 ⟨cL a.params gw 24 27 (Dt a.params),#[],{},848,b⟩ (bE 19) ⟨183,0,264,93⟩=some (.next,⟨cL a.params fX 24 27 (Dt a.params),#[],{},850,b⟩,fK,⟨265,0,265,8⟩):=au
def afY(a)(b):g7 a 30 ⟨cL a.params fX 24 27 (Dt a.params),#[],{},850,b⟩ (bE 20) ⟨265,0,265,8⟩=some (.next,⟨cL a.params fX 25 30 (NF a.params),#[],{},857,b⟩,fK,⟨266,0,267,18⟩):=au
def afZ(a)(b):g7 a 30 ⟨cL a.params fX 25 30 (NF a.params),#[],{},857,b⟩ (bE 21) ⟨266,0,267,18⟩=some (.next,⟨cL a.params fX 26 33 (NG a.params),#[],{},864,b⟩,fK,⟨268,0,269,18⟩):=au
def af0(a)(b):g7 a 30 ⟨cL a.params fX 26 33 (NG a.params),#[],{},864,b⟩ (bE 22) ⟨268,0,269,18⟩=some (.next,⟨cL a.params fX 27 36 (NH a.params),#[],{},871,b⟩,fK,⟨270,0,271,38⟩):=au
def af1(a)(b):g7 a 27 ⟨cL a.params fX 27 36 (NH a.params),#[],{},871,b⟩ (bE 23) ⟨270,0,271,38⟩=some (.next,⟨cL a.params fX 28 39 (NI a.params),#[],{},877,b⟩,fK,⟨272,0,280,32⟩):=au
def af2(a)(b):g7 a 27 ⟨cL a.params fX 28 39 (NI a.params),#[],{},877,b⟩ (bE 24) ⟨272,0,280,32⟩=some (.next,⟨cL a.params fX 29 42 (NJ a.params),#[],{},883,b⟩,fK,⟨281,0,286,17⟩):=au
def af3(a)(b):g7 a 42 ⟨cL a.params fX 29 42 (NJ a.params),#[],{},883,b⟩ (bE 25) ⟨281,0,286,17⟩=some (.next,⟨cL a.params fX 30 45 (NK a.params),#[],{},902,b⟩,fK,⟨287,0,302,32⟩):=au
def af4(a)(b):g7 a 40 ⟨cL a.params fX 30 45 (NK a.params),#[],{},902,b⟩ (bE 26) ⟨287,0,302,32⟩=some (.next,⟨cL a.params fX 31 48 (NL a.params),#[],{},919,b⟩,fK,⟨303,0,323,14⟩):=au
def af5(a)(b):g7 a 27 ⟨cL a.params fX 31 48 (NL a.params),#[],{},919,b⟩ (bE 27) ⟨303,0,323,14⟩=some (.next,⟨cL a.params fX 32 51 (NN a.params),#[],{},925,b⟩,fK,⟨324,0,334,71⟩):=au
def af6(a)(b):g7 a 27 ⟨cL a.params fX 32 51 (NN a.params),#[],{},925,b⟩ (bE 28) ⟨324,0,334,71⟩=some (.next,⟨cL a.params fX 33 54 (NO a.params),#[],{},931,b⟩,fK,⟨335,0,343,15⟩):=au
def af8(a)(b):g7 a 27 ⟨cL a.params fX 33 54 (NO a.params),#[],{},931,b⟩ (bE 29) ⟨335,0,343,15⟩=some (.next,⟨cL a.params fX 34 57 (Dv a.params),#[],{},937,b⟩,fK,⟨344,0,384,173⟩):=au
def ao9(a:Nat):List cS:=iX.main.body.drop a
abbrev uo(a:cR):e9:=cL a fX 34 57<|Dv a
def aaL(a)(b):topGo zD iX a 28 vO 12 ⟨uu a.params,#[],{},276,b⟩ (topStub iX)=some (⟨cL a.params (cj "__main__" 164) 9 0 (AL a.params),#[],{},282,b⟩,⟨denote zD fK,fK,wC,[Kf wC]⟩):=au
def ui(a)(b):segRun zD iX a 28 vO 1 1 ⟨cL a.params (cj "__main__" 164) 9 0 (AL a.params),#[],{},282,b⟩ (blockOf Lv GO fK wC [Kf wC])=some (.next,⟨cL a.params (cj "__main__" 164) 9 0 (AL a.params),#[],{},282,b⟩,fK,⟨0,0,0,0⟩):=au
def X1(a)(b):topRun zD iX a 28 vO 2 ⟨cL a.params fX 34 57 (Dv a.params),#[],{},937,b⟩ ⟨doneF .next,fK,⟨344,0,384,173⟩,[Kf wC]⟩=some ⟨cL a.params fX 34 57 (Dv a.params),#[],{},937,b⟩:=au
def u1:Lv=[bE 1,bE 2,bE 3,bE 4,bE 5,bE 6,bE 7,bE 8,bE 9,bE 10,bE 11,bE 12,bE 13,bE 14,bE 15,bE 16,bE 17,bE 18,bE 19,bE 20,bE 21,bE 22,bE 23,bE 24,bE 25,bE 26,bE 27,bE 28,bE 29]:=au
def zt(a)(b):topRun zD iX a 28 vO (30+(10+(41+(42+(41+(42+(10+(72+(10+(10+(496+(505+(10+(78+(70+(78+(34+(727+(10+(30+(30+(30+(27+(27+(42+(40+(27+(27+(27+2))))))))))))))))))))))))))))) ⟨cL a.params (cj "__main__" 164) 9 0 (AL a.params),#[],{},282,b⟩ (restOf [bE 1,bE 2,bE 3,bE 4,bE 5,bE 6,bE 7,bE 8,bE 9,bE 10,bE 11,bE 12,bE 13,bE 14,bE 15,bE 16,bE 17,bE 18,bE 19,bE 20,bE 21,bE 22,bE 23,bE 24,bE 25,bE 26,bE 27,bE 28,bE 29] GO fK wC [Kf wC])=some ⟨cL a.params fX 34 57 (Dv a.params),#[],{},937,b⟩:=(iz (af7 a b)<|iz (af_ a b)<|iz (af' a b)<|iz (aga a b)<|iz (agb a b)<|iz (agc a b)<|iz (agd a b)<|iz (age a b)<|iz (afM a b)<|iz (afN a b)<|iz (afO a b)<|iz (afP a b)<|iz (afQ a b)<|iz (afR a b)<|iz (afS a b)<|iz (afT a b)<|iz (afV a b)<|iz (afW a b)<|iz (afX a b)<|iz (afY a b)<|iz (afZ a b)<|iz (af0 a b)<|iz (af1 a b)<|iz (af2 a b)<|iz (af3 a b)<|iz (af4 a b)<|iz (af5 a b)<|iz (af6 a b)<|iz (af8 a b)<|piece_nil<|X1 a b)
def aia(a)(b):topRun zD iX a 28 vO (12+(1+(30+(10+(41+(42+(41+(42+(10+(72+(10+(10+(496+(505+(10+(78+(70+(78+(34+(727+(10+(30+(30+(30+(27+(27+(42+(40+(27+(27+(27+2))))))))))))))))))))))))))))))) ⟨uu a.params,#[],{},276,b⟩ (topStub iX)=some ⟨uo a.params,#[],{},937,b⟩:=go_top (aaL a b)<|piece_block (ui a b) (by rw[u1];exact zt a b)
def aiN(a:J6):((uu a.params).isNs l8&&(Array.mk ([]:List JA)).size==0,(uu a.params).objs.size,(uu a.params).nsMap l8 "__annotations__")=(true,28,vO):=au
def wF:Program:=view iX [0,29]
noncomputable def AQ:List Str:=["_wall","insort_right","bisect_right","insort_left","bisect_left","_twin_re_1","NL","EMPTYSTRING","_ValueFormatter","_Accumulator","tspecials","_name_disallowed_re","_value_disallowed_re","_formatparam","Headers","_law_begin","_law_end","_law_size","_law_rows","_law_tokens","_law_table","_law_answer","_law_due","_law_told"]
def cy(b:cR):jD:=((uo b).objs.toList.zipIdx.map λa=>(a.2,a.1)).filter λa=>!([198,205,445].contains a.1)
noncomputable def S_:List bG:=(b6 449).filter λa=>!([198,205,445].contains a)
def pb(a):S_=(cy a).map (·.1):=au
abbrev qc:Hook:=kmHook cy S_ pb [198,205,445]
def aei(a):(λb=>((staticsOk (aoh iX.main.body) (uu a.params) (uo a.params)&&namesBound iX (uo a.params)&&gensDone ⟨uo a.params,#[],{},937,b⟩&&laidKept (uu a.params) (uo a.params)),
 openSeen wF AQ (aoh iX.main.body) (λU=>true) true ⟨uo a.params,#[],{},937,b⟩,qc.obs ⟨uo a.params,#[],{},937,b⟩))=λU=>(true,openGood wF AQ,qc.val a):=au
def ad1:LeftO iX wF AQ (λU=>true) qc.obs qc.val 5400:=
 LeftO.of_pieces (p:=iX) (q:=wF) (loose:=AQ) (Xt:=λU=>true) (Yf:=qc.obs) (Ya:=qc.val) (N:=5400) (H₀:=uu) (H₁:=uo) (gs₀:=#[]) (gs₁:=#[]) (d₀:={}) (d₁:={}) (k₀:=276) (k₁:=937) (m₀:=28) (ann:=vO) (M:=(12+(1+(30+(10+(41+(42+(41+(42+(10+(72+(10+(10+(496+(505+(10+(78+(70+(78+(34+(727+(10+(30+(30+(30+(27+(27+(42+(40+(27+(27+(27+2)))))))))))))))))))))))))))))))) afy aiN aia au aei
abbrev mP:=PySem.Challenge.rw_uy0026_01
def alI:mP.wellSaid=true:=au
def afw:(chainsOk wF&&opensWell mP.row.prog&&(frees mP.row.toRowW&&mP.row.within.isEmpty))=true:=au
def tb:mP.row.prog.bare:=⟨au,au,au,au,au,au⟩
def vW:DefRec:=⟨N9<|bE 29,Li<|bE 29,Gx<|bE 29,O6<|bE 29,⟨344,0,384,173⟩⟩
def aa_:defOf wF mP.row.name=some (vW,[]):=au
def abz:mP.row.prog.theDef mP.row.name=some (vW.params,vW.body,vW.scope):=au
def abt:kwWritten? vW.params.kwonlyargs vW.params.kw_defaults=some []:=au
def agL:mP.row.toRowW.promised:=⟨[.list []],au,au⟩
def abH:(!mP.row.writes||mP.row.records.isEmpty)=true:=au
def ahR:mP.row.records=[]:=au
def abd(call:WalkO wF AQ (λU U=>True) qc.says mP.row.toRowW vW [] λb e=>PySem.call b e):mP.Holds:=
 holds_law alI λa=>holds_open (r:=mP.row) (q:=wF) (loose:=AQ) (Xt:=λU=>true) (XP:=λU U=>True) (Yf:=qc.obs) (Ya:=qc.val) (YP:=qc.says) (d:=vW) (kwd:=[]) (N:=5400) ad1 qc.of qc.keeps (λU U=>aQ) (λU U U U U=>aQ) aa_ abz abt (λcj U=>recFacts_nil ahR) abH a afw tb agL call
def SJ(a:b/\d)(c:b->d->p):p:=c a.1 a.2
def iT(a:b/\d/\e)(c:b->d->e->p):p:=SJ a.2<|c a.1
def aG{c e:d->Prop}(a:∃b,c b/\e b)(f:∀b,c b->e b->p):p:=a.elim λx a=>SJ a<|f x
def mu{c:e->f->Prop}(a:∃b d,c b d)(g:∀b d,c b d->p):p:=a.elim λx a=>a.elim<|g x
def tZ(a:b/\d/\e/\f)(c:b->d->e->f->p):p:=iT a.2<|c a.1
def dm{c e f:d->Prop}(a:∃b,c b/\e b/\f b)(g:∀b,c b->e b->f b->p):p:=a.elim λx a=>iT a<|g x
def m9{c g:e->f->Prop}(a:∃b d,c b d/\g b d)(h:∀b d,c b d->g b d->p):p:=a.elim λx a=>aG a<|h x
def z7{c:f->h->j->Prop}(a:∃b d e,c b d e)(g:∀b d e,c b d e->p):p:=a.elim λx a=>mu a<|g x
def vL(a:b/\d/\e/\f/\h)(c:b->d->e->f->h->p):p:=tZ a.2<|c a.1
def nV{c e f g:d->Prop}(a:∃b,c b/\e b/\f b/\g b)(h:∀b,c b->e b->f b->g b->p):p:=a.elim λx a=>tZ a<|h x
def jN{c g h:e->f->Prop}(a:∃b d,c b d/\g b d/\h b d)(i:∀b d,c b d->g b d->h b d->p):p:=a.elim λx a=>dm a<|i x
def Ct{c g:f->h->j->Prop}(a:∃b d e,c b d e/\g b d e)(i:∀b d e,c b d e->g b d e->p):p:=a.elim λx a=>m9 a<|i x
def K1{c:h->j->k->l->Prop}(a:∃b d e f,c b d e f)(g:∀b d e f,c b d e f->p):p:=a.elim λx a=>z7 a<|g x
def SK{c e f g h:d->Prop}(a:∃b,c b/\e b/\f b/\g b/\h b)(i:∀b,c b->e b->f b->g b->h b->p):p:=a.elim λx a=>vL a<|i x
def x9{c g h i:e->f->Prop}(a:∃b d,c b d/\g b d/\h b d/\i b d)(j:∀b d,c b d->g b d->h b d->i b d->p):p:=a.elim λx a=>nV a<|j x
def kc{c g i:f->h->j->Prop}(a:∃b d e,c b d e/\g b d e/\i b d e)(k:∀b d e,c b d e->g b d e->i b d e->p):p:=a.elim λx a=>jN a<|k x
def Cu{c g:h->j->k->l->Prop}(a:∃b d e f,c b d e f/\g b d e f)(i:∀b d e f,c b d e f->g b d e f->p):p:=a.elim λx a=>Ct a<|i x
def vM{c:j->k->l->m->n->Prop}(a:∃b d e f h,c b d e f h)(g:∀b d e f h,c b d e f h->p):p:=a.elim λx a=>K1 a<|g x
def mB{c e f g h i:d->Prop}(a:∃b,c b/\e b/\f b/\g b/\h b/\i b)(j:∀b,c b->e b->f b->g b->h b->i b->p):p:=a.elim λx a=>vL a.2<|(j x) a.1
def mI{c g h i j:e->f->Prop}(a:∃b d,c b d/\g b d/\h b d/\i b d/\j b d)(k:∀b d,c b d->g b d->h b d->i b d->j b d->p):p:=a.elim λx a=>SK a<|k x
def oW{c g i k:f->h->j->Prop}(a:∃b d e,c b d e/\g b d e/\i b d e/\k b d e)(l:∀b d e,c b d e->g b d e->i b d e->k b d e->p):p:=a.elim λx a=>x9 a<|l x
def mM{c g i:h->j->k->l->Prop}(a:∃b d e f,c b d e f/\g b d e f/\i b d e f)(m:∀b d e f,c b d e f->g b d e f->i b d e f->p):p:=a.elim λx a=>kc a<|m x
def SP{c g:j->k->l->m->n->Prop}(a:∃b d e f h,c b d e f h/\g b d e f h)(i:∀b d e f h,c b d e f h->g b d e f h->p):p:=a.elim λx a=>Cu a<|i x
def m2{c:k->l->m->n->s->A->Prop}(a:∃b d e f h j,c b d e f h j)(g:∀b d e f h j,c b d e f h j->p):p:=a.elim λx a=>vM a<|g x
def Cr{c g h i j k:e->f->Prop}(a:∃b d,c b d/\g b d/\h b d/\i b d/\j b d/\k b d)(l:∀b d,c b d->g b d->h b d->i b d->j b d->k b d->p):p:=a.elim λx a=>mB a<|l x
def x_{c g i k l:f->h->j->Prop}(a:∃b d e,c b d e/\g b d e/\i b d e/\k b d e/\l b d e)(m:∀b d e,c b d e->g b d e->i b d e->k b d e->l b d e->p):p:=a.elim λx a=>mI a<|m x
def F4{c g i m:h->j->k->l->Prop}(a:∃b d e f,c b d e f/\g b d e f/\i b d e f/\m b d e f)(n:∀b d e f,c b d e f->g b d e f->i b d e f->m b d e f->p):p:=a.elim λx a=>oW a<|n x
def SN{c g i k l m:f->h->j->Prop}(a:∃b d e,c b d e/\g b d e/\i b d e/\k b d e/\l b d e/\m b d e)(n:∀b d e,c b d e->g b d e->i b d e->k b d e->l b d e->m b d e->p):p:=a.elim λx a=>Cr a<|n x
def F5{c g i m n:h->j->k->l->Prop}(a:∃b d e f,c b d e f/\g b d e f/\i b d e f/\m b d e f/\n b d e f)(q:∀b d e f,c b d e f->g b d e f->i b d e f->m b d e f->n b d e f->p):p:=a.elim λx a=>x_ a<|q x
def mN{c g i q r:j->k->l->m->n->Prop}(a:∃b d e f h,c b d e f h/\g b d e f h/\i b d e f h/\q b d e f h/\r b d e f h)(s:∀b d e f h,c b d e f h->g b d e f h->i b d e f h->q b d e f h->r b d e f h->p):p:=a.elim λx a=>F5 a<|s x
noncomputable def toS(a:List Nat):Str:=⟨a.toArray⟩
inductive D where
 |ai|none|bool (b:Bool)|int (i:Int)|str (s:List Nat)
 |tup (ds:List D)|lst (ds:List D)
 |loc (n:Nat)|g (k:Nat)|o (k:Nat) (a b s:Int)
inductive bI where
 |lst (ds:List D)|inst (c:Nat) (iF:List (Str×D)) (ds:List D)|dead|tab
inductive cT where
 |kR|nil|int (i:Int)|str (s:List Nat)|lst (ds:List D)|tup (ds:List D)
def CG(a:b=d)(e:Nat.beq b d=false):p:=aW ((a▸Nat.beq_refl b:Nat.beq b d=true).symm.trans e) amr
noncomputable def cT.k(a:cT):Nat:=cT.casesOn a 0 1 (λU=>2) (λU=>3) (λU=>4) λU=>5
noncomputable def bI.k(o:bI):Nat:=bI.casesOn o (λU=>0) (λU U U=>1) 2 3
noncomputable def D.k(a:D):Nat:=D.casesOn (motive_1:=λU=>Nat) a 0 1 (λU=>2) (λU=>3) (λU=>4) (λU=>5) (λU=>6) (λU=>7) (λU=>8) λU U U U=>9
abbrev aN:=List bI
abbrev Ok(a:Type):=a->aN->Prop
abbrev er:=List Nat->aN->Prop
abbrev eY(a:Type):=List D->aN->Ok a->er->Prop
abbrev oS:=List<|Str×D
abbrev Call:=List D->oS->aN->Ok D->er->Prop
noncomputable def lim:Nat:=1000000
variable{w:Type}
def no:w->Prop:=λU=>False
def opt(o:Option w)(k:w->Prop):Prop:=b7 o False k
noncomputable def obj(a:aN)(b:Nat):bI:=b7 (a[b]?) .dead id
def bx(a:aN)(b:D):cT:=
 D.casesOn (motive_1:=λU=>cT) b .kR .nil (λU=>.kR) .int .str .tup .lst (λc=>bI.casesOn (obj a c) .lst (λU U U=>.kR) .kR .kR) (λU=>.kR) (λU U U U=>.kR)
def vInt(a:cT)(k:Int->Prop):Prop:=cT.casesOn a False False k no no no
def vStr(a:cT)(k:List Nat->Prop):Prop:=cT.casesOn a False False no k no no
def pL(a:cT)(k:List D->Prop):Prop:=cT.casesOn a False False no no k no
def PX(a:cT)(k:List D->Prop):Prop:=cT.casesOn a False False no no no k
def PW(a:cT)(k:List D->Prop):Prop:=cT.casesOn a False False no no k k
def part(a:cT)(k:Option Int->Prop):Prop:=cT.casesOn a False (k none) (λb=>k<|some b) no no no
def FR(a:D)(k:Bool->Prop):Prop:=D.casesOn (motive_1:=λU=>Prop) a False False k no no no no no no λU U U U=>False
def GF(a:D)(k:Nat->Prop):Prop:=D.casesOn (motive_1:=λU=>Prop) a False False no no no no no k no λU U U U=>False
def vV(a:D)(k:Nat->Prop):Prop:=D.casesOn (motive_1:=λU=>Prop) a False False no no no no no no k λU U U U=>False
def qK(b:D)(a:Prop):Prop:=D.casesOn (motive_1:=λU=>Prop) b False a (λU=>a) (λU=>a) (λU=>a) (λU=>a) (λU=>a) (λU=>a) (λU=>a) λU U U U=>a
def mJ(b:aN)(c:D)(k:Nat->List D->Prop):Prop:=GF c λa=>bI.casesOn (obj b a) (k a) (λU U U=>False) False False
def isIn(b:aN)(c:D)(k:Nat->Nat->List (Str×D)->List D->Prop):Prop:=GF c λa=>bI.casesOn (obj b a) no (k a) False False
def mD(a:aN)(b:D)(k:Nat->List (Str×D)->List D->Prop):Prop:=isIn a b λc d e f=>d=236/\k c e f
def Uc(s a:List Nat)(k:List Nat->Prop):Prop:=H s+H a<=lim/\k (s++a)
def LB(s a:List D)(k:List D->Prop):Prop:=H s+H a<=lim/\k (s++a)
def jj(a:Int):Prop:=-1000000000000<a/\a<1000000000000
def aeP(s:List Nat)(a:Int)(k:List Nat->Prop):Prop:=jj a/\H s*a.toNat<=lim/\k (kG a.toNat s).flatten
def mulL(s:List D)(a:Int)(k:List D->Prop):Prop:=jj a/\H s*a.toNat<=lim/\k (kG a.toNat s).flatten
noncomputable def HA(k:D->Prop):Int->Prop:=λa=>k<|.int a
noncomputable def kS(k:D->Prop):List Nat->Prop:=λa=>k<|.str a
def WD(k:D->Prop):List D->Prop:=λa=>k<|.lst a
def o4(c:Int->Int->Int)(d:Int->Int->Prop)(x e:cT)(k:D->Prop):Prop:=vInt x λa=>vInt e λb=>d a b/\k (.int<|c a b)
def UB(x a:cT)(k:D->Prop):Prop:=cT.casesOn x False False (λc=>vInt a λd=>k<|.int<|c+d) (λs=>vStr a λb=>Uc s b<|kS k) (λs=>pL a λb=>LB s b<|WD k) no
def FX(x c:cT)(k:D->Prop):Prop:=vInt c λa=>cT.casesOn x False False (λb=>jj b/\jj a/\k (.int<|b*a)) (λs=>aeP s a<|kS k) (λs=>mulL s a<|WD k) no
def tm(o:oJ)(x c:cT)(k:D->Prop):Prop:=
 Operator.casesOn o (UB x c k) (o4 (·-·) (λU U=>True) x c k) (FX x c k) False False (o4 tG (λU a=>a≠0) x c k)
  (o4 (λb a=>b^a.toNat) (λb a=>0<=a/\a<=20/\0<=b/\b<=20) x c k) False (o4 (λb a=>BE b<|2^a.toNat) (λU a=>0<=a/\a<=20) x c k) False False
  (o4 (λb U=>tG b 2) (λb a=>0<=b/\a=1) x c k) (o4 BE (λU a=>a≠0/\-1000000000<a/\a<1000000000) x c k)
def Gs(o:oJ)(a:aN)(x b:D)(k:D->Prop):Prop:=tm o (bx a x) (bx a b) k
def Gg(o:oJ)(a:aN)(x b:D)(k:D->Prop):Prop:=o=.Add/\cT.casesOn (bx a x) False False (λc=>vInt (bx a b) λd=>k<|.int<|c+d) (λs=>vStr (bx a b) λe=>Uc s e<|kS k) no no
def qk(b:D->D->Prop)(c:List D):List D->Prop:=List.rec (λU=>True) (λx U d a=>fk a True λe a=>b x e/\d a) c
def aiE(c:D->D->Prop)(x a:D):Prop:=
 D.casesOn (motive_1:=λU=>Prop) x False (D.casesOn (motive_1:=λU=>Prop) a False True no no no no no no no λU U U U=>False) (λU=>FR a λU=>True)
  (λU=>D.casesOn (motive_1:=λU=>Prop) a False False no (λU=>True) no no no no no λU U U U=>False) (λU=>D.casesOn (motive_1:=λU=>Prop) a False False no no (λU=>True) no no no no λU U U U=>False)
  (λb=>D.casesOn (motive_1:=λU=>Prop) a False False no no no (qk c b) no no no λU U U U=>False) (λb=>D.casesOn (motive_1:=λU=>Prop) a False False no no no no (qk c b) no no λU U U U=>False) no no (λU U U U=>False)
def kK(a:Nat):D->D->Prop:=Nat.rec (λU U=>False) (λU b=>aiE b) a
def res(b:aN)(a:D):D:=
 D.casesOn (motive_1:=λU=>D) a a a (λU=>a) (λU=>a) (λU=>a) (λU=>a) (λU=>a) (λc=>bI.casesOn (obj b c) .lst (λU U U=>a) a a) (λU=>a) (λU U U U=>a)
def Mg(a:aN)(x b:D)(k:Bool->Prop):Prop:=kK 4 (res a x) (res a b)/\(res a x=res a b->k true)/\(res a x≠res a b->k false)
def lS(x a:List Nat):Bool:=List.rec x.isEmpty (λb c d=>x.isPrefixOf (b::c)||d) a
noncomputable def strLt(a b:List Nat):Bool:=decide (a<b)
def DH(b:Int->Int->Bool)(c:List Nat->List Nat->Bool)(x a:cT)(k:Bool->Prop):Prop:=
 cT.casesOn x False False (λd=>vInt a λe=>k<|b d e) (λs=>vStr a λf=>k<|c s f) no no
def V2(x c:cT)(k:Bool->Prop):Prop:=
 cT.casesOn c False False no (λd=>vStr x λs=>k<|lS s d) (λb=>vInt x λe=>∃a:List Int,b=a.map .int/\k (decide (e∈a))) (λb=>vStr x λs=>∃a:List (List Nat),b=a.map .str/\k (decide (s∈a)))
def M_(x:D)(k:Bool->Prop):Prop:=D.casesOn (motive_1:=λU=>Prop) x False (k true) no (λU=>k false) (λU=>k false) no (λU=>k false) (λU=>k false) (λa=>a<1000/\k false) λU U U U=>False
noncomputable def Nb(a:Nat):Bool:=a==1009||a==1010
def M9(x c:D)(k:Bool->Prop):Prop:=
 D.casesOn (motive_1:=λU=>Prop) c False (M_ x k) no no no no no no (λa=>vV x λb=>Nb a=true/\Nb b=true/\k (b==a)) (λU U U U=>False)
def jt(o:zf)(a:aN)(x b:D)(k:Bool->Prop):Prop:=
 CmpOp.casesOn o (Mg a x b k) (Mg a x b λf=>k<|!f) (DH (λc d=>decide (c<d)) strLt (bx a x) (bx a b) k) (DH (λc d=>decide (c<=d)) (λs e=>!strLt e s) (bx a x) (bx a b) k)
  (DH (λc d=>decide (d<c)) (λs e=>strLt e s) (bx a x) (bx a b) k) (DH (λc d=>decide (d<=c)) (λs e=>!strLt s e) (bx a x) (bx a b) k) (M9 x b k) (M9 x b λf=>k<|!f) (V2 (bx a x) (bx a b) k) False
noncomputable def q_(a:List w)(b:Int):Option w:=(iA b<|H a).bind (a[·]?)
def MZ(c:aN)(x d:D)(k:D->Prop):Prop:=vInt (bx c d) λa=>
 cT.casesOn (bx c x) (mD c x λU U b=>0<=a/\opt (b[a.toNat]?) k) False no (λs=>opt (q_ s a) λe=>k<|.str [e]) (λb=>opt (q_ b a) k) (λb=>opt (q_ b a) k)
noncomputable def pick(a:List w)(b c st:Option Int):List w:=
 (Rq (Fc b c st<|H a).1 (Fc b c st<|H a).2.1 (Fc b c st<|H a).2.2).filterMap (a[·]?)
def uO(a:aN)(x:D)(k:List D->Prop):Prop:=cT.casesOn (bx a x) (mD a x λU U b=>k b) False no no k no
def Pd(a:aN)(x b c s:D)(k:List D->Prop):Prop:=part (bx a b) λd=>part (bx a c) λe=>part (bx a s) λst=>st≠some 0/\uO a x λf=>k<|pick f d e st
noncomputable def pG(a:List D)(b c:Option Int)(d:List D):List D:=
 a.take (b.elim 0<|eN<|H a)++d++a.drop (max (b.elim 0<|eN<|H a)<|c.elim (H a)<|eN<|H a)
noncomputable def qP:List Str:=["_maxlen","_continuation_ws","_continuation_ws_len","_splitchars","_lines","_current_line","_initial_size","_headers"]
def qe(x:Str):Prop:=qP.contains x=true
def lC(d:List (Str×D))(a:Str)(b:D):List (Str×D):=List.rec [(a,b)] (λc e f=>bif c.1==a then(a,b)::e else c::f) d
def Gf(b:aN)(o:D)(a:Str)(k:D->Prop):Prop:=qe a/\isIn b o λU U c U=>opt (c.lookup a) k
def Zx(a:aN)(o:D)(b:Str)(d:D)(k:aN->Prop):Prop:=qe b/\isIn a o λe f c g=>H c<40/\k (a.set e<|.inst f (lC c b d) g)
def Eh(a:aN)(o b d:D)(k:aN->Prop):Prop:=mJ a o λe c=>vInt (bx a b) λb=>opt (iA b<|H c) λf=>k<|a.set e<|.lst<|c.set f d
def Pa(a:aN)(o h i j:D)(k:aN->Prop):Prop:=part (bx a h) λe=>part (bx a i) λf=>pL (bx a j) λc=>GF o λd=>
 bI.casesOn (obj a d) (λb=>H b+H c<=lim/\k (a.set d<|.lst<|pG b e f c)) (λg l b=>g=236/\H b+H c<=lim/\k (a.set d<|.inst g l<|pG b e f c)) False False
@[elab_as_elim] def J{a}{c:d->Prop}(f:a=b)(e:c b):c a:=f▸e
@[elab_as_elim] def bH{a:f->Prop}(c:b=d)(e:a b):a d:=c▸e
@[elab_as_elim] def lA{a:Prop->Prop}(c:b↔d)(e:a d):a b:=propext c▸e
def dU(a:List Nat)(b:List (List Nat)):List Nat:=List.rec [] (λx c d=>fk c x λU U=>x++a++d) b
noncomputable def isWs(a:Nat):Bool:=a==32||a==9
def nul(as:List w)(a:Prop):Prop:=fk as a λU U=>False
def one(as:List w)(k:w->Prop):Prop:=fk as False λa b=>nul b<|k a
def two(as:List w)(k:w->w->Prop):Prop:=fk as False λa b=>one b<|k a
def sel(a:Bool)(b c:Prop):Prop:=i0 a c b
def cI:er:=λU U=>False
abbrev b3:=Nat->Call
def CB(e:b3)(b:D)(c:aN)(k:Int->aN->Prop):Prop:=mD c b λU U U=>e 203 [b] [] c (λf d=>vInt (bx d f) λa=>0<=a/\jj a/\k a d) cI
def si(d:b3)(as:List D)(a:aN)(b:Ok D):Prop:=one as λc=>
 cT.casesOn (bx a c) (CB d c a λe f=>b (.int e) f) False no (λs=>b (.int<|H s) a) (λs=>b (.int<|H s) a) (λs=>b (.int<|H s) a)
def sm(as:List D)(a:aN)(b:Ok D):Prop:=one as λc=>vStr (bx a c) λs=>one s λd=>b (.int d) a
def sh(as:List D)(b:aN)(c:Ok D):Prop:=one as λd=>vInt (bx b d) λa=>0<=a/\a<128/\c (.str [a.toNat]) b
def sx(as:List D)(a:aN)(c:Ok D):Prop:=one as λd=>pL (bx a d) λe=>∃b:List Int,e=b.map .int/\c (.int b.sum) a
def sg(as:List D)(a:aN)(c:Ok D):Prop:=one as λd=>pL (bx a d) λe=>∃b:List Bool,e=b.map .bool/\c (.bool<|b.any id) a
def sb(as:List D)(a:aN)(c:Ok D):Prop:=one as λd=>pL (bx a d) λe=>∃b:List Bool,e=b.map .bool/\c (.bool<|b.all id) a
def sk(as:List D)(a:aN)(c:Ok D):Prop:=two as λx d=>vStr (bx a x) λs=>vStr (bx a d) λb=>c (.str (bif strLt s b then b else s)) a
def sl(as:List D)(a:aN)(c:Ok D):Prop:=two as λx d=>vStr (bx a x) λs=>vStr (bx a d) λb=>c (.str (bif strLt b s then b else s)) a
def CC(as:List D)(a:aN)(k:List D->aN->Prop):Prop:=one as λb=>pL (bx a b) λc=>k c a
def sv(e:b3)(as:List D)(a:aN)(c:Ok D):Prop:=one as λb=>
 cT.casesOn (bx a b) (mD a b λU U U=>e 210 [b] [] a (λf d=>vStr (bx d f) λs=>c (.str s) d) cI) False no (λs=>c (.str s) a) no no
def sT(as:List D)(a:aN)(b:Ok D):Prop:=one as λc=>cT.casesOn (bx a c) False False no (λU=>b (.g 1010) a) (λU=>b (.g 1009) a) no
def so(as:List D)(a:aN)(e:Ok D):Prop:=fk as False λx c=>vInt (bx a x) λb=>fk c (jj b/\e (.o 0 0 b 1) a) λf c=>vInt (bx a f) λd=>
 fk c (jj b/\jj d/\e (.o 0 b d 1) a) λg c=>nul c (vInt (bx a g) λs=>jj b/\jj d/\s=-1/\e (.o 0 b d s) a)
def Aq(a:List Int)(b:PySem.W.KasT w):(w->Prop)->Prop:=PySem.W.KasT.rec (λc k=>k c) (λd e U f k=>opt (a[d]?) λx=>opt (a[e]?) λg=>f (decide (x<g)) k) b
def yJ(a:List D)(b:List Nat)(k:List D->Prop):Prop:=List.rec (λk=>k []) (λc U d k=>opt (a[c]?) λe=>d λf=>k (e::f)) b k
def sorted(a:List Int)(b:List D)(k:List D->Prop):Prop:=bif decide (H a<2) then k b else Aq a (PySem.W.kas_sort<|H a) λc=>c.size<=1000/\yJ b c.toList k
def AK(d:Call)(b:List D):aN->(List Int->aN->Prop)->Prop:=
 List.rec (λc k=>k [] c) (λe U f c k=>d [e] [] c (λg a=>vInt (bx a g) λh=>f a λb a=>k (h::b) a) cI) b
def Tu(e:b3)(as:List D)(f:oS)(b:aN)(g:Ok D):Prop:=one as λh=>one f λc=>c.1="key"/\vV c.2 λd=>d<1000/\pL (bx b h) λa=>H a<=50/\AK (e d) a b λi j=>sorted i a λk=>g (.lst k) j
noncomputable def Tv:List (Nat×(b3->List D->aN->Ok D->Prop)):=[(1000,si),(1001,λU=>sm),(1002,λU=>sh),(1003,λU=>sx),(1004,λU=>sg),(1005,λU=>sb),(1006,λU=>sl),(1007,λU=>sk),(1009,λU as a b=>CC as a λc a=>b (.lst c) a),(1010,sv),(1011,λU=>sT),(1012,λU=>so)]
def Ub(a:b3)(b:Nat)(as:List D)(c:oS)(d:aN)(e:Ok D):Prop:=sel (b==1008) (Tu a as c d e)<|nul c (opt (Tv.lookup b) λf=>f a as d e)
noncomputable def gU:List (Nat×Nat):=[(152,93),(236,173),(384,278)]
def N7(b:b3)(c d:Nat)(as:List D)(a:aN)(e:Ok D):Prop:=b d (.loc (H a)::as) [] (a++[.inst c [] []]) (λf g=>f=.none/\e (.loc<|H a) g) cI
noncomputable def je:List Nat:=[47,56,65,74,395,402,409,414,419,426,433,438,443]
def G1(b:b3)(f:D)(k:Call->Prop):Prop:=vV f λa=>sel (decide (1000<=a)) (k λas c d e U=>Ub b a as c d e)
 (b7 (gU.lookup a) (je.contains a=true/\k (b a)) λg=>k λas c d e U=>nul c<|N7 b a g as d e)
def mR(d:b3)(b:D)(a:aN)(k:Bool->aN->Prop):Prop:=
 cT.casesOn (bx a b) (D.casesOn (motive_1:=λU=>Prop) b False False (λe=>k e a) no no no no (λU=>CB d b a λc f=>k (c !=0) f) no λg U U U=>g=1/\k true a) (k false a) (λc=>k (c !=0) a) (λs=>k (!s.isEmpty) a) (λs=>k (!s.isEmpty) a) no
def Og(x:Str)(a:aN)(b:Ok D):Prop:=x.length<=lim/\b (.str x.cps.toList) a
def IM(a:List Str)(b:aN)(c:Ok D):Prop:=H a<=lim/\c (.lst (a.map λx=>.str x.cps.toList)) b
def Zd(s:List Nat)(as:List D)(b:aN)(c:Ok D):Prop:=one as λd=>PW (bx b d) λe=>∃a:List (List Nat),e=a.map .str/\(dU s a).length+H a<=lim/\c (.str<|dU s a) b
def O0(as:List D)(k:Nat->Prop):Prop:=one as λb=>vStr (bx [] b) λs=>one s λa=>a<128/\k a
def sZ(c:Str)(s:List Nat)(as:List D)(a:aN)(b:Ok D):Prop:=
 sel (c=="join") (Zd s as a b) (sel (c=="upper") (nul as (Og (Txt.upper (toS s)) a b)) (sel (c=="lower") (nul as (Og (Txt.lower (toS s)) a b)) (sel (c=="isspace") (nul as (b (.bool (rN (toS s))) a))
  (sel (c=="split") (fk as (IM (vm (toS s)) a b) λe f=>O0 (e::f) λd=>IM (Txt.split (toS s) (toS [d])) a b) (sel (c=="strip") (O0 as λd=>b (.str (an8 (toS s) (toS [d])).cps.toList) a) False)))))
noncomputable def sJ:Array Nat:=#[14,10,4,1,1,22,0,31,16,127,0,13,7,22,0,31,16,127,0,1]
noncomputable def s_:Array Nat:=#[14,14,4,1,1,9,4294966783,0,0,2147483648,0,0,0,0,0,13,11,9,4294966783,0,0,2147483648,0,0,0,0,0,1]
noncomputable def j5:Array Nat:=#[14,4,0,1,4294967295,17,0,24,11,1,4294967295,13,6,16,32,16,9,0,1,17,1,1]
def sS(a:Array Nat)(s:List Nat):PySem.Sre.M:=PySem.Sre.M.runFor 100<|PySem.Sre.forSearch a (toS s).cps 0 0 (toS s).cps.size false
def Y8(a:PySem.Sre.M)(b:aN)(c:Ok D):Prop:=(a.outcome=some .failed/\c .none b)\/(a.outcome=some .matched/\a.marks.size=0/\c (.o 1 0 0 0) b)
def F3(s b:List Nat)(c:List (List Nat×List Nat)):Prop:=s=b++(c.map λa=>a.1++a.2).flatten/\b.any isWs=false/\∀a∈c,a.1≠[]/\a.1.all isWs=true/\a.2≠[]/\a.2.any isWs=false
def Y9(c:Nat)(as:List D)(a:aN)(d:Ok D):Prop:=one as λg=>vStr (bx a g) λs=>
 sel (c==79) (∃e b,F3 s e b/\2*H b+1<=lim/\d (.lst<|(e::b.flatMap λf=>[f.1,f.2]).map .str) a) (Y8 (sS (bif c==250 then sJ else s_) s) a d)
def bU(b:aN)(c:Nat)(d:D)(e:Ok D)(a:List D):Prop:=H a<=lim/\e d (b.set c<|.lst a)
def sI(g:Str)(e:Nat)(a as:List D)(d:aN)(f:Ok D):Prop:=
 sel (g=="append") (one as λb=>bU d e .none f (a++[b])) (sel (g=="insert") (two as λc b=>vInt (bx d c) λc=>jj c/\bU d e .none f (a.take (eN (H a) c)++b::a.drop (eN (H a) c)))
  (sel (g=="extend") (one as λb=>pL (bx d b) λh=>bU d e .none f (a++h))
  (sel (g=="pop") (fk as (opt a.getLast? λb=>bU d e b f a.dropLast) λc i=>nul i (vInt (bx d c) λc=>c=0/\fk a False λb j=>bU d e b f j)) False)))
noncomputable def mK:List ((Nat×Str)×Nat):=[((152,"_str"),100),((152,"newline"),114),((152,"add_transition"),121),((152,"_ascii_split"),142),((152,"_append_chunk"),149),
 ((236,"push"),180),((236,"pop_from"),188),((236,"pop"),196),((236,"reset"),218),((236,"is_onlyws"),225),((236,"part_count"),233),
 ((384,"_convert_string_type"),285),((384,"get_all"),323),((384,"add_header"),381),((384,"items"),348)]
def F9(a:Nat)(as:List D)(b:aN)(d:Ok D):Prop:=mD b (.loc a) λU e c=>one as λf=>H c+1<=lim/\d .none (b.set a<|.inst 236 e<|c++[f])
def NZ(a:Str):Prop:=a="append"\/a="insert"\/a="extend"\/a="pop"
def IT(a:Str):Prop:=a="join"\/a="upper"\/a="lower"\/a="isspace"\/a="split"\/a="strip"
def aic(a:Nat)(b:Str):Prop:=(a=79/\b="split")\/((a=250\/a=255)/\b="search")
def pg(g:b3)(a:aN)(o:D)(e:Str)(k:Call->Prop):Prop:=
 D.casesOn (motive_1:=λU=>Prop) o False False no no (λs=>IT e/\k λas c a d U=>nul c<|sZ e s as a d) no no
  (λb=>bI.casesOn (obj a b) (λU=>NZ e/\k λas c a d U=>nul c (mJ a (.loc b) λU h=>sI e b h as a d))
   (λf U U=>b7 (mK.lookup (f,e)) (f=236/\e="append"/\k λas c a d U=>nul c (F9 b as a d)) λi=>k λas=>g i (.loc b::as)) False False)
  (λb=>aic b e/\k λas c a d U=>nul c<|Y9 b as a d) (λb U U U=>b=2/\e="items"/\k λas c a d U=>nul c<|nul as<|d (.o 3 0 0 0) a)
def Bo(o:D)(c:Str)(as:List D)(a:aN)(d:Ok D):Prop:=mD a o λe f b=>nul as
 (sel (c=="__init__") (b=[]/\d .none a)<|sel (c=="pop") (opt b.getLast? λg=>d g<|a.set e<|.inst 236 f b.dropLast)<|c="__len__"/\d (.int<|H b) a)
noncomputable def A9(a b s:Int):List D:=bif s==1 then(b6 (b-a).toNat).map (λ(k:Nat)=>.int<|a+(k:Int)) else(b6 (a-b).toNat).map (λ(k:Nat)=>.int<|a-(k:Int))
abbrev xR:=List D->(aN->Prop)->aN->Prop
noncomputable def ua(s:List Nat):List D:=s.map λa=>.str [a]
def j0(b:aN)(g:D)(k:xR):Prop:=
 D.casesOn (motive_1:=λU=>Prop) g False False no no (λs=>k (ua s) (λU=>True) b) (λa=>k a (λU=>True) b) (λa=>k a (λU=>True) b)
  (λc=>bI.casesOn (obj b c) (λa=>k a (λd=>obj d c=.lst a) b) (λh U a=>h=236/\k a (λd=>∃i,obj d c=.inst 236 i a) b) False False) no
  (λc e f s=>sel (c==0) (jj e/\jj f/\(s=1\/s=-1)/\(A9 e f s).length<=lim/\k (A9 e f s) (λU=>True) b)<|c=3/\k [] (λU=>True) b)
def fixC(a:D)(k:List D->Prop):Prop:=D.casesOn (motive_1:=λU=>Prop) a False False no no (λs=>k<|ua s) k k no no λU U U U=>False
def uq(a:D)(k:List D->Prop):Prop:=pL (bx [] a) k
def yi(b:List D):Nat->List D:=List.rec (λU=>[]) (λc U d a=>.tup [.int a,c]::d (a+1)) b
def rG(b:List D):List D->List D:=List.rec (λU=>[]) (λc U d a=>fk a [] λe a=>.tup [c,e]::d a) b
def uG(c:List D):Option D->List D:=List.rec (λU=>[]) (λa U b o=>b7 o (b<|some a) λe=>.tup [e,a]::b none) c
structure b_ where
 ns:List Str
 dg:Str->Option kH
 gl:Str->Option D
 own:List Str
 oj:Nat
 lam:Bool
structure bB where
 v:eY D
 t:eY Bool
 i:Bool->List D->aN->xR->er->Prop
noncomputable def stM:bB:=⟨λU U U U=>False,λU U U U=>False,λU U U U U=>False⟩
def gm(a:Bool)(b:bB):bB:=i0 a stM b
noncomputable def cC(g:b3)(a:eY D):bB:=⟨a,λb c k d=>a b c (λe f=>mR g e f k) d,λU b c k d=>a b c (λe f=>j0 f e k) d⟩
noncomputable def mt(h:b3)(a:eY D)(b:eY Bool):bB:=⟨a,b,λU c d k e=>a c d (λf g=>j0 g f k) e⟩
def fP(b:b3)(a:eY Bool):bB:=mt b (λc d e f=>a c d (λg h=>e (.bool g) h) f) a
def lN(a:D):eY D:=λU b c U=>c a b
def L2(b:Nat):eY D:=λc d e U=>opt (c[b]?) λa=>qK a<|e a d
def LS(b:Nat):eY D:=λc a d U=>opt (c[b]?) λe=>mJ a e λf g=>d (.lst g)<|a.set f .dead
def gc(e:List bB):eY (List D):=List.rec (λU a b U=>b [] a) (λf U g c a b d=>f.v c a (λh i=>g c i (λj k=>b (h::j) k) d) d) e
def L1(a:List bB):eY D:=λb c d e=>gc a b c (λf g=>d (.tup f) g) e
def lay(own:Bool)(d:eY (List D)):eY D:=λe f b g=>d e f (λc a=>i0 own (b (.lst c) a)<|b (.loc<|H a)<|a++[.lst c]) g
def LP(o:oJ)(d e:bB):eY D:=λa f g b=>d.v a f (λx h=>e.v a h (λi c=>Gs o c x i λj=>g j c) b) b
def LR(e f:bB):eY (List D):=λc g k d=>e.v c g (λx h=>f.v c h (λi a=>pL (bx a x) λb=>pL (bx a i) λj=>LB b j λb=>k b a) d) d
def LX(b:bB):eY D:=λc d e f=>b.v c d (λx a=>vInt (bx a x) λg=>e (.int<|-g) a) f
def HM(f:b3)(g:bB):bB:=mt f (λa b h c=>g.v a b (λi d=>mR f i d λe j=>h (.bool<|!e) j) c) λa b k c=>g.t a b (λe d=>k (!e) d) c
def IX(o:zf)(d e:bB):eY Bool:=λa f k b=>d.v a f (λx g=>e.v a g (λh c=>jt o c x h λi=>k i c) b) b
def IY(o g:zf)(h i j:bB):eY Bool:=λa l k b=>h.v a l (λx m=>i.v a m (λe c=>jt o c x e λd=>
 i0 d (k false c) (j.v a c (λn f=>jt g f e n λd=>k d f) b)) b) b
def yW(e:List bB):eY Bool:=List.rec (λU a k U=>k true a) (λf U g b a k c=>f.t b a (λh d=>i0 h (k false d)<|g b d k c) c) e
def bj(e:List bB):eY Bool:=List.rec (λU a k U=>k false a) (λf U g b a k c=>f.t b a (λh d=>i0 h (g b d k c)<|k true d) c) e
def UC(i:b3)(a:List bB):eY D:=List.rec (λU U U U=>False) (λe a j b f c d=>fk a (e.v b f c d) λU U=>e.v b f (λg k=>mR i g k λl h=>i0 l (c g h)<|j b h c d) d) a
def UG(i:b3)(a:List bB):eY D:=List.rec (λU U U U=>False) (λe a j b f c d=>fk a (e.v b f c d) λU U=>e.v b f (λg k=>mR i g k λl h=>i0 l (j b h c d)<|c g h) d) a
def HL(j:b3)(f g h:bB):bB:=mt j (λa d i b=>f.t a d (λe c=>i0 e (h.v a c i b)<|g.v a c i b) b) λa d k b=>f.t a d (λe c=>i0 e (h.t a c k b)<|g.t a c k b) b
def LU(d e:bB):eY D:=λa f g b=>d.v a f (λx h=>e.v a h (λi c=>MZ c x i λj=>g j c) b) b
def LZ(f c d s:bB):eY (List D):=λa g k b=>f.v a g (λx h=>c.v a h (λc i=>d.v a i (λd j=>s.v a j (λs e=>Pd e x c d s λl=>k l e) b) b) b) b
def LO(b:Str)(c:bB):eY D:=λd e f g=>c.v d e (λx a=>Gf a x b λh=>f h a) g
def CR(as c:List bB)(d:List Str)(e:Call):eY D:=λb f g a=>gc as b f (λas h=>gc c b h (λi j=>e as (d.zip i) j g a) a) a
def LQ(d:b3)(a:bB)(as e:List bB)(f:List Str):eY D:=λb g h c=>a.v b g (λa i=>G1 d a λj=>CR as e f j b i h c) c
def VZ(m:b3)(b:bB)(as n:List bB)(f:List Str):Bool->List D->aN->xR->er->Prop:=λj c p k d=>b.v c p (λb g=>vV b λl=>
 sel (l==1013) (j=true/\f=[]/\gc as c g (λas h=>one as λa=>fixC a λi=>k (yi i 0) (λU=>True) h) d) (sel (l==1014) (j=true/\f=[]/\gc as c g (λas h=>two as λa e=>uq a λi=>uq e λq=>k (rG i q) (λU=>True) h) d)
  (G1 m b λr=>CR as n f r c g (λa s=>j0 s a k) d))) d
noncomputable def Xc(a:b3)(b:bB)(as c:List bB)(d:List Str):bB:=⟨LQ a b as c d,λe f k g=>LQ a b as c d e f (λh i=>mR a h i k) g,VZ a b as c d⟩
def CV(d:b3)(o:bB)(e:Str)(as f:List bB)(g:List Str):eY D:=λa h i b=>o.v a h (λo c=>pg d c o e λj=>CR as f g j a c i b) b
def ZU(as:List D)(b:aN)(k:Ok (List D)):Prop:=one as λe=>vStr (bx b e) λs=>∃c a,F3 s c a/\2*H a+1<=lim/\k ((c::a.flatMap λd=>[d.1,d.2]).map .str) b
def CX(o:bB)(c:Str)(as:List bB)(d:List pS):eY (List D):=λa e k b=>o.v a e (λo f=>vV o λg=>g=79/\c="split"/\d=[]/\gc as a f (λas h=>ZU as h k) b) b
def CW(f:b3)(o a:bB):eY D:=λb g h c=>o.v b g (λo d=>pg f d o "push" λi=>a.v b d (λa e=>PX (bx e a) λj=>i j [] e h cI) c) c
def sq(a:Str):eY D:=λb c d U=>opt (b[0]?) λo=>Bo o a [] c d
noncomputable def N3(a:bB):bB:=⟨λU U U U=>False,λU U U U=>False,λb c d k e=>b=true/\a.v c d (λf g=>uq f λh=>k (uG h none) (λU=>True) g) e⟩
abbrev tV:=List D->List D->aN->Ok (List D)->Prop
def o8(ok:aN->Prop)(c:List D->D->aN->Ok (List D)->Prop)(d:List D):List D->aN->Ok (List D)->Prop:=
 List.rec (λacc a k=>k acc a) (λe U f acc a k=>c acc e a λacc b=>ok b/\f acc b k) d
def uU(is:List Nat):List D->List D->(List D->Prop)->Prop:=List.rec (λa b k=>nul a<|k b) (λc U d a b k=>fk a False λe a=>d a (b.set c e) k) is
def iU(c:Bool)(is:List Nat)(a:D)(b:List D)(k:List D->Prop):Prop:=i0 c (one is λd=>k<|b.set d a) (PX (bx [] a) λe=>uU is e b k)
def wG(c:Bool)(is:List Nat)(d:List bB)(e:tV)(f:List D):List D->D->aN->Ok (List D)->Prop:=λacc g h k=>
 iU c is g f λa=>yW d a h (λi b=>i0 i (k acc b)<|e acc a b k) cI
def NY(a:bB):tV:=λacc b c k=>a.v b c (λd e=>H acc<lim/\k (acc++[d]) e) cI
def LI(a:Bool)(is:List Nat)(c:bB)(d:List bB)(e:tV):tV:=λacc b f k=>c.i a b f (λg ok h=>o8 ok (wG a is d e b) g acc h k) cI
noncomputable def clear(cN:List Nat)(a:List D):List D:=cN.foldl (λa b=>a.set b .ai) a
def Am(cN:List Nat)(a:Bool)(is:List Nat)(c:bB)(d:List bB)(e:tV):eY (List D):=λb f k U=>c.i a b f (λg ok h=>o8 ok (wG a is d e<|clear cN b) g [] h k) cI
@[reducible] noncomputable def jR(e:aI)(a)(RN:BoolOp->List aI->Pos->α:=λU U U=>a)(Kq:aI->oJ->aI->Pos->α:=λU U U U=>a)(SE:E3->aI->Pos->α:=λU U U=>a)(R_:Js->aI->f7->Pos->α:=λU U U U=>a)(R6:aI->aI->aI->Pos->α:=λU U U U=>a)(Set':List aI->Nat->Pos->α:=λU U U=>a)(FE:aI->List oz->f7->Pos->α:=λU U U U=>a)(Ss:aI->List oz->f7->Pos->α:=λU U U U=>a)(RV:aI->aI->List oz->f7->Pos->α:=λU U U U U=>a)(RT:aI->List zf->List aI->Pos->α:=λU U U U=>a)(Kr:aI->List aI->List pS->Pos->α:=λU U U U=>a)(Ks:Qw->Nat->Pos->α:=λU U U=>a)(Fj:aI->Str->Pos->α:=λU U U=>a)(Co:aI->aI->Pos->α:=λU U U=>a)(Sv:aI->Pos->α:=λU U=>a)(xU:Str->Pos->α:=λU U=>a)(KD:List aI->Pos->α:=λU U=>a)(F0:List aI->Nat->Pos->α:=λU U U=>a)(Su:Option aI->Option aI->Option aI->Pos->α:=λU U U U=>a):α:=
 PySem.Expr.casesOn (motive_1:=λU=>α) e RN (λU U U=>a) Kq SE R_ R6 (λU U U=>a) Set' FE Ss RV (λU U U U=>a) (λU U=>a) (λU U=>a) (λU U=>a) RT Kr (λU U U U=>a) (λU U=>a) Ks Fj Co Sv xU KD F0 Su
@[reducible] noncomputable def GR(s:cS)(a)(KP:Option aI->Pos->α:=λU U=>a)(RK:List aI->aI->Pos->α:=λU U U=>a)(RL:aI->oJ->aI->Pos->α:=λU U U U=>a)(RZ:aI->aI->List cS->List cS->Pos->α:=λU U U U U=>a)(SI:aI->List cS->List cS->Pos->α:=λU U U U=>a)(R5:aI->List cS->List cS->Pos->α:=λU U U U=>a)(Sl:Option aI->Option aI->Pos->α:=λU U U=>a)(SD:List cS->List qq->List cS->List cS->Pos->α:=λU U U U U=>a)(Fw:aI->Pos->α:=λU U=>a)(RO:Pos->α:=λU=>a)(RU:Pos->α:=λU=>a):α:=
 PySem.Stmt.casesOn (motive_2:=λU=>α) s (λU U U U U U U U U U=>a) (λU U U U U U U U U U=>a) (λU U U U U U U U U U U=>a) KP (λU U=>a) RK (λU U U U U U U=>a) RL (λU U U U U=>a) RZ (λU U U U U=>a) SI R5 (λU U U=>a) (λU U U=>a) (λU U U=>a) Sl SD (λU U U U U=>a) (λU U U=>a) (λU U=>a) (λU U U U=>a) (λU U=>a) (λU U=>a) Fw (λU=>a) RO RU
def isNm(e:aI):Option Str:=(jR (α:=Option Str) e (none) (xU:=λx U=>some x))
def isTup(e:aI):Option (List aI):=(jR (α:=Option<|List aI) e (none) (F0:=λx U U=>some x))
def qV(e:aI):Option (aI×List aI×List pS):=(jR (α:=Option<|aI×List aI×List pS) e (none) (Kr:=λa b k U=>some (a,b,k)))
def sF(e:aI):Option (aI×Str×Pos):=(jR (α:=Option<|aI×Str×Pos) e (none) (Fj:=λo a b=>some (o,a,b)))
def n_(e:aI):Option (Option aI×Option aI×Option aI):=(jR (α:=Option<|Option aI×Option aI×Option aI) e (none) (Su:=λa b s U=>some (a,b,s)))
def isStar(e:aI):Option aI:=(jR (α:=Option aI) e (none) (Sv:=λx U=>some x))
def M8(e:aI):Option (f7×Pos):=(jR (α:=Option<|f7×Pos) e (none) (FE:=λU U s a=>some (s,a)))
def Wc(e:aI):Option (aI×oJ×aI):=(jR (α:=Option<|aI×oJ×aI) e (none) (Kq:=λa o b U=>some (a,o,b)))
def Wg(e:aI):Option (List aI):=(jR (α:=Option<|List aI) e (none) (KD:=λa U=>some a))
def Ht(e:aI):Option Qw:=(jR (α:=Option Qw) e (none) (Ks:=λa U U=>some a))
def isSet(e:aI):Bool:=(jR (α:=Bool) e (false) (Set':=λU U U=>true))
noncomputable def tg(x:Option kH):Bool:=x==some .local||x==some .cell||x==some .free
noncomputable def lD(x:Option kH):Bool:=x==some .local||x==some .cell
noncomputable def kM(x:Option kH):Bool:=x==some .cell||x==some .free
def kQ(x:Str)(a:List Str):Nat:=List.rec 0 (λb U c=>bif b==x then 0 else c+1) a
noncomputable def b_.at(a:b_)(b:Nat):b_:={a with oj:=b}
def b_.e7(a:b_)(x:Str):Nat:=kQ x a.ns
def b_.st(a:b_)(x:Str):Bool:=lD (a.dg x)&&a.ns.contains x
def Zu(b:b3)(a:b_)(x:Str):bB:=
 bif x=="__debug__" then cC b (lN<|.bool true) else bif a.dg x==some .globalImplicit then b7 (a.gl x) stM λc=>cC b<|lN c
 else gm (tg (a.dg x)&&a.ns.contains x&&!(x=="__classdict__")) (bif a.oj==2&&a.own.contains x then cC b (LS<|a.e7 x) else cC b<|L2<|a.e7 x)
def Zr(a:b3)(b:Qw):bB:=fx b (cC a<|lN .none) (λc=>cC a<|lN<|.bool c) (λd=>cC a<|lN<|.int d) (λU=>stM) (λU U=>stM) (λs=>gm (decide (H s.cps.toList<=lim))<|cC a<|lN<|.str s.cps.toList) (λU=>stM) stM
def jh(a:List aI):Bool:=a.all λe=>(isStar e).isNone
def yH(e:aI):Bool:=b7 (qV e) true λa=>!((isNm a.1).isSome&&a.2.1.isEmpty&&a.2.2.isEmpty)
noncomputable def o7(a:List pS):List Str:=a.map λk=>k.arg.getD ""
def wL(a:b3)(b:aI->bB)(o:Option aI):bB:=b7 o (cC a<|lN .none) b
def pK(e:aI):Option (Bool×List Str):=b7 (isNm e) ((isTup e).bind λa=>bif a.all (λe=>(isNm e).isSome) then some (true,a.filterMap isNm) else none) λx=>some (false,[x])
def b_.Br(a:b_)(b:List Str):Bool:=b.all a.st
noncomputable def yw(a:f7)(b:Str->Option kH)(x:Str):Option kH:=(a.names.lookup x).map λk=>bif k==.free&&b x==some .cell then .cell else k
def b_.iE(a:b_)(b:f7):b_:={a with dg:=yw b a.dg,oj:=0}
def b_.cN(a:b_)(b:f7):List Nat:=(b6<|H a.ns).filter λc=>lD<|b.names.lookup<|a.ns.getD c ""
def b_.Ak(c:b_)(a:f7):Bool:=a.kind==.function&&decide ((a.names.map (·.1)).Nodup)&&a.names.all (λb=>b.2 !=.free||(c.ns.contains b.1&&kM (c.dg b.1)))
def kD(a:oz):List Str:=b7 (pK a.target) [] (·.2)
def s6(a:List oz):List Str:=a.flatMap kD
def b_.LJ(b:b_)(c:f7)(a:oz)(d:List Str):Bool:=a.is_async==0&&!(isSet a.iter)&&(pK a.target).isSome&&b.Br (kD a)&&(kD a).all (λx=>lD (c.names.lookup x)&&!(d.contains x))
def lU(a:oz):Bool:=b7 (pK a.target) false (·.1)
def b_.ud(b:b_)(c:f7)(a:List oz):Bool:=List.rec true (λd a e=>b.LJ c d (s6 a)&&e) a
def Ef(d:b_)(b:aI->bB)(e:aI)(c:List oz):tV:=List.rec (NY<|b e) (λa c f=>LI (lU a) ((kD a).map d.e7) (b a.iter) (a.ifs.map b) f) c
def Zt(f:b3)(d:b_->aI->bB)(a:b_)(g:aI)(h:List oz)(b:f7):bB:=fk h stM λc e=>
 gm (a.Ak b&&(a.iE b).ud b (c::e)) (cC f<|lay (a.oj==1)<|Am (a.cN b) (lU c) ((kD c).map a.e7) (d (a.at 0) c.iter) (c.ifs.map<|d<|a.iE b)<|Ef (a.iE b) (d<|a.iE b) g e)
def Na(e:aI):Option aI:=(Wc e).bind λa=>bif a.2.1==.Mult&&(Ht a.2.2==some (.int 2)) then(Wg a.1).bind λd=>fk d none λx b=>
 fk b ((qV x).bind λc=>bif isNm c.1==some "iter"&&c.2.2.isEmpty then fk c.2.1 none λf b=>fk b (some f) λU U=>none else none) λU U=>none else none
def yU(a:List aI):Option aI:=fk a none λx b=>fk b (isStar x) λU U=>none
def O7(e:b3)(b:b_->aI->bB)(a:b_)(f:aI)(as:List aI)(c:List pS)(pos:Pos):bB:=
 b7 (sF f)
  (b7 (yU as)
   (gm (jh as&&c.all (λk=>k.arg.isSome)) (bif a.oj==1 then cC e (lay true λg j k h=>(b (a.at 0) f).v g j (λf l=>vV f λm=>m=1009/\c=[]/\gc (as.map (b (a.at 0))) g l (λas n=>CC as n k) h) h)
    else Xc e (b (a.at 0) f) (as.map (b (a.at 0))) (c.map λk=>b (a.at 0) k.value) (o7 c)))
   λx=>gm (isNm f==some "zip"&&c.isEmpty&&a.dg "iter"==some .globalImplicit&&a.dg "zip"==some .globalImplicit) (b7 (Na x) stM λi=>gm (isStar i).isNone (N3 (b (a.at 2) i))))
  λd=>i0 (yH d.1)
   stM
   (b7 (yU as)
    (gm (jh as&&c.all (λk=>k.arg.isSome)&&decide (d.2.2.endLine=pos.line)&&decide (H as+H c+(bif c.isEmpty then 0 else 1)<30))
     (bif a.oj==1 then cC e (lay true (CX (b (a.at 0) d.1) d.2.1 (as.map (b (a.at 0))) c)) else cC e (CV e (b (a.at 0) d.1) d.2.1 (as.map (b (a.at 0))) (c.map λk=>b (a.at 0) k.value) (o7 c))))
    λx=>gm (c.isEmpty&&d.2.1=="push") (cC e (CW e (b (a.at 0) d.1) (b (a.at 0) x))))
def Zs(f:b3)(b:aI->bB)(g:aI)(c:List zf)(a:List aI):bB:=fk c stM λo c=>fk a stM λd a=>
 fk c (fk a (gm (!(ih o d))<|fP f<|IX o (b g)<|b d) λU U=>stM)
  λh c=>fk a stM λe a=>gm (c.isEmpty&&a.isEmpty&&!(i4 [o,h] [d,e]))<|fP f<|IY o h (b g) (b d)<|b e
def wK(c:b3)(b:b_->aI->bB)(a:b_)(e:aI):bB:=
 (jR (α:=bB) e (stM) (RN:=λop d U=>BoolOp.casesOn op (mt c (UC c<|d.map<|b<|a.at 0)<|yW<|d.map<|b<|a.at 0)<|mt c (UG c<|d.map<|b<|a.at 0)<|bj<|d.map<|b<|a.at 0) (Kq:=λf o g U=>bif a.oj==1 then gm (o==.Add) (cC c<|lay true<|LR (b (a.at 0) f)<|b (a.at 0) g) else cC c<|LP o (b a f)<|b a g) (SE:=λop f U=>UnaryOp.casesOn op stM (HM c<|b (a.at 0) f) stM<|cC c<|LX<|b (a.at 0) f) (R6:=λj f g U=>HL c (b (a.at 0) j) (b a f)<|b a g) (FE:=λk l m U=>Zt c b a k l m) (RT:=λf n p U=>Zs c (b<|a.at 0) f n p) (Kr:=λq as r pos=>O7 c b a q as r pos) (Ks:=λs U U=>Zr c s) (Fj:=λo t U=>gm (yH o)<|cC c<|LO t<|b (a.at 0) o) (Co:=λf i U=>b7 (n_ i) (cC c<|LU (b (a.at 0) f)<|b (a.at 0) i) λh=>cC c<|lay (a.oj==1)<|LZ (b (a.at 0) f) (wL c (b<|a.at 0) h.1) (wL c (b<|a.at 0) h.2.1)<|wL c (b<|a.at 0) h.2.2) (xU:=λx U=>Zu c a x) (KD:=λd U=>gm (jh d&&decide (H d<=1000))<|cC c<|lay (a.oj==1)<|gc<|d.map<|b<|a.at (bif a.oj==1 then 0 else a.oj)) (F0:=λd U U=>gm (jh d&&decide (H d<=1000))<|cC c<|L1<|d.map<|b a))
def ru(a:b3)(b:Nat):b_->aI->bB:=Nat.rec (λU U=>stM) (λU c=>wK a c) b
inductive i9 where
 |next|brk|cont|ret (d:D)
abbrev eX:=i9->List D->aN->Prop
abbrev dw:=List D->aN->eX->er->Prop
abbrev qE:=D->List D->aN->(List D->aN->Prop)->er->Prop
def gJ:dw:=λU U U U=>False
def dN(a:Bool)(b:dw):dw:=i0 a gJ b
def w_(b:bB):dw:=λa c d e=>b.v a c (λU f=>d .next a f) e
def BB(b:Nat)(c:bB):dw:=λa d e f=>c.v a d (λg h=>e .next (a.set b g) h) f
def Qf(is:List Nat)(b:bB):dw:=λa c d e=>b.v a c (λf g=>iU true is f a λh=>d .next h g) e
def Jl(is:List Nat)(b:List bB):dw:=λa c d e=>gc b a c (λf g=>uU is.reverse f.reverse a λh=>d .next h g) e
def Ze(a:Nat):qE:=λb c d k U=>k (c.set a b) d
def Iv(o a:bB):qE:=λd b e k c=>o.v b e (λo f=>a.v b f (λa g=>Eh g o a d λh=>k b h) c) c
def Po(e:List qE):List D->List D->aN->(List D->aN->Prop)->er->Prop:=
 List.rec (λa b c k U=>nul a<|k b c) (λs U f a b c k d=>fk a False λg a=>s g b c (λb c=>f a b c k d) d) e
def Jm(c:List qE)(d:List bB):dw:=λa e f b=>gc d a e (λg h=>Po c g a h (λi j=>f .next i j) b) b
def e1(o:bB)(c:Str)(d:bB):dw:=λa e f b=>d.v a e (λg h=>o.v a h (λo i=>Zx i o c g λj=>f .next a j) b) b
def Qd(o c:bB)(d:bB):dw:=λa e f b=>d.v a e (λg h=>Iv o c g a h (λa i=>f .next a i) b) b
def Qe(o c d:bB)(e:bB):dw:=λa f g b=>e.v a f (λh i=>o.v a i (λo j=>c.v a j (λc k=>d.v a k (λd l=>Pa l o c d h λm=>g .next a m) b) b) b) b
def Qh(b:Nat)(op:oJ)(d:bB):dw:=λa e f g=>opt (a[b]?) λx=>qK x<|d.v a e (λh c=>Gg op c x h λi=>f .next (a.set b i) c) g
def Qg(o a:bB)(op:oJ)(f:bB):dw:=λb g h c=>o.v b g (λo i=>a.v b i (λa d=>mJ d o λU j=>vInt (bx d a) λk=>opt (q_ j k) λx=>f.v b d (λl e=>Gg op e x l λm=>Eh e o a m λn=>h .next b n) c) c) c
def e2(e:bB)(f g:dw):dw:=λa h c b=>e.t a h (λi d=>i0 i (g a d c b)<|f a d c b) b
def qp(g:List dw):dw:=List.rec (λd e a U=>a .next d e) (λh U i d e a f=>h d e (λj b c=>i9.casesOn j (i b c a f) (a .brk b c) (a .cont b c) λk=>a (.ret k) b c) f) g
def lO(ok:aN->Prop)(h:D->dw)(i:dw)(j:List D):List D->aN->eX->Prop:=
 List.rec (λd e a=>i d e a cI) (λf U g d e a=>h f d e (λk c b=>i9.casesOn k (ok b/\g c b a) (a .next c b) (ok b/\g c b a) λf=>a (.ret f) c b) cI) j
def Qi(e:Bool)(is:List Nat)(f:bB)(g h:dw):dw:=λa b c d=>f.i e a b (λi ok j=>lO ok (λk a b c d=>iU e is k a λl=>g l b c d) h i a j c) d
def tB(g:bB)(h:dw)(i:Nat):List D->aN->eX->Prop:=Nat.rec (λU U U=>False)
 (λU e d j a=>g.t d j (λk f=>i0 k (a .next d f)<|h d f (λl b c=>i9.casesOn l (e b c a) (a .next b c) (e b c a) λm=>a (.ret m) b c) cI) cI) i
noncomputable def turns:Nat:=64
def nH(b:bB):dw:=λa c d e=>b.v a c (λf g=>d (.ret f) a g) e
def Jo(s:List Nat):dw:=λU a U b=>H s<=lim/\b s a
noncomputable def o9(keep:List Nat)(a:List D):List D:=(b6<|H a).map λb=>bif keep.contains b then a.getD b .ai else .ai
def rE(h:b3)(i:Nat)(j:List (List Nat×bB)):List D->aN->eX->Prop:=List.rec (λa b c=>c .next a b)
 (λf U g a b c=>opt (a[i]?) λo=>pg h b o "append" λk=>f.2.v (o9 f.1 a) b (λl d=>k [l] [] d (λU e=>g a e c) cI) λm d=>mJ d o λn p=>sI "append" n p [.str m] d λU e=>g a e c) j
noncomputable def only(a:List w):Option w:=fk a none λx b=>fk b (some x) λU U=>none
def Wd(s:cS):Option aI:=(GR (α:=Option aI) s (none) (Fw:=λe U=>some e))
def Wl(s:cS):Option (List cS×List qq):=(GR (α:=Option<|List cS×List qq) s (none) (SD:=λa b o c U=>bif o.isEmpty&&c.isEmpty then some (a,b) else none))
noncomputable def We(c:qq):Option (aI×Str×List cS):=PySem.ExceptHandler.casesOn (motive_4:=λU=>Option<|aI×Str×List cS) c λa b d U=>a.bind λa=>b.map λb=>(a,b,d)
def Wi(e:aI):Option (Str×aI):=(qV e).bind λa=>(sF a.1).bind λb=>(isNm b.1).bind λx=>bif b.2.1=="append"&&decide (b.2.2.endLine=e.pos.line)&&a.2.2.isEmpty then(only a.2.1).map λc=>(x,c) else none
def O5(a:List cS):Option (Str×aI):=(only a).bind λs=>(Wd s).bind Wi
def dp(b:List cS):Option ((Str×aI)×qq):=(only b).bind λc=>(Wl c).bind λa=>(O5 a.1).bind λd=>(only a.2).map λe=>(d,e)
def VL(a:qq):Option (aI×Str×Str×aI):=(We a).bind λa=>(O5 a.2.2).map λb=>(a.1,a.2.1,b)
def T_(e:aI):Option aI:=(qV e).bind λa=>bif a.2.1.isEmpty&&a.2.2.isEmpty then some a.1 else none
def Ua(e:aI):Option (aI×aI):=(qV e).bind λa=>bif a.2.2.isEmpty then(only a.2.1).map λb=>(a.1,b) else none
def dn(c:Str)(b:Str×aI)(a:aI×Str×Str×aI):Option (Str×Str×Str):=(T_ b.2).bind λe=>(Ua a.2.2.2).bind λd=>
 bif isNm e==some c&&isNm a.1==some "ValueError"&&a.2.2.1==b.1&&isNm d.1==some "str"&&isNm d.2==some a.2.1 then some (b.1,c,a.2.1) else none
def Hv(b:aI)(c d:List cS):Option (Str×Str×Str):=bif d.isEmpty then(isNm b).bind λe=>(dp c).bind λa=>(VL a.2).bind λf=>dn e a.1 f else none
def allB(a:List Bool):Bool:=List.rec true (λb U c=>i0 b false c) a
def NS(b:b_)(s:f7):Bool:=allB [!s.isCoroutine,!s.isGenerator,s.kind==.function,decide ((s.names.map (·.1)).Nodup),s.names.all λa=>a.2 !=.local&&a.2 !=.cell,s.names.all λa=>a.2 !=.free||(kM (b.dg a.1)&&b.ns.contains a.1)]
noncomputable def Xr(a:Js):Bool:=a.posonlyargs.isEmpty&&a.args.isEmpty&&a.vararg.isNone&&a.kwonlyargs.isEmpty&&a.kw_defaults.isEmpty&&a.kwarg.isNone&&a.defaults.isEmpty
def v8(e:aI):Option (aI×f7):=(jR (α:=Option<|aI×f7) e (none) (R_:=λa b s U=>bif Xr a then some (b,s) else none))
noncomputable def b_.lm(a:b_)(s:f7):b_:={a with dg:=λx=>s.names.lookup x,oj:=0}
noncomputable def b_.WN(a:b_)(s:f7):List Nat:=(b6<|H a.ns).filter λb=>s.names.lookup (a.ns.getD b "")==some .free
def IC(f:b3)(g:b_->aI->bB)(a:b_)(h:aI)(d:List aI)(i j:List cS):dw:=b7 (Hv h i j) gJ λb=>
 dN (allB [a.lam,decide (H d<=100),d.all (λe=>b7 (v8 e) false λc=>NS a c.2),tg (a.dg b.1),a.ns.contains b.1,a.dg b.2.1==some .local,a.ns.contains b.2.1,a.dg b.2.2==some .local,a.ns.contains b.2.2,
  a.dg "ValueError"==some .globalImplicit,a.dg "str"==some .globalImplicit,!(b.1=="__debug__"),!(b.1=="__classdict__"),!(b.2.1=="__debug__"),!(b.2.2=="__debug__")])
  λk l m U=>rE f (a.e7 b.1) (d.filterMap λe=>(v8 e).map λc=>(a.WN c.2,g (a.lm c.2) c.1)) (clear [a.e7 b.2.1,a.e7 b.2.2] k) l m
noncomputable def Ep(a:List aI):Nat:=(a.head?.map (·.pos.line)).getD 0
def wR(b:Str->Option kH)(a:List aI):List Str:=a.filterMap λe=>(jR (α:=Option Str) e (none) (xU:=λx c=>bif b x==some .local&&c.line==Ep a then some x else none))
def yV(b:Str->Option kH)(a c:List aI):Option (Option (List Str)):=
 bif !(H a==2||H a==3)||H c !=(H a) then some none else bif(wR b a).length !=H a||(wR b a).eraseDups.length !=(wR b a).length then some none
 else bif c.all (foldedForSure 8) then some none else bif c.all (constantsAlone 8) then none else some<|some<|wR b a
def Eg(a:aI->bB)(b:b_)(e:aI):Option qE:=(jR (α:=Option qE) e (none) (xU:=λx U=>bif b.st x then some (Ze<|b.e7 x) else none) (Co:=λo c U=>bif(n_ c).isNone then some (Iv (a o)<|a c) else none))
def ph(e:aI):Bool:=(jR (α:=Bool) e (true) (FE:=λU U U U=>false) (Ss:=λU U U U=>false) (RV:=λU U U U U=>false))
def b_.mo(a:b_)(x:Str):b_:=bif a.own.contains x then a.at 1 else a.at 0
def Zq(h:b3)(b:b_->aI->bB)(a:b_)(k e:aI):dw:=
 (jR (α:=dw) k (gJ) (xU:=λx l=>dN (a.st x&&(ph e||(M8 e).isSome)) (BB (a.e7 x) (b (a.mo x) e))) (F0:=λc U U=>dN (ph e) (b7 (isTup e)
  (dN (c.all (λe=>(isNm e).isSome)&&a.Br (c.filterMap isNm))<|Qf ((c.filterMap isNm).map a.e7)<|b (a.at 0) e)
  λf=>dN (decide (H f<=1000)&&jh f&&H f==H c) (b7 (yV a.dg c f) gJ λo=>b7 o
   (dN (c.all λe=>(Eg (b<|a.at 0) a e).isSome)<|Jm (c.filterMap<|Eg (b<|a.at 0) a) ((c.zip f).map λd=>b (b7 (isNm d.1) (a.at 0) a.mo) d.2))
   λg=>dN (a.Br g&&H g==H c) (Jl (g.map a.e7) ((c.zip f).map λd=>b (b7 (isNm d.1) (a.at 0) a.mo) d.2))))) (Fj:=λo i U=>dN (ph e) (e1 (b (a.at 0) o) i (b (a.mo i) e))) (Co:=λo j U=>dN (ph e) (b7 (n_ j) (Qd (b (a.at 0) o) (b (a.at 0) j) (b (a.at 0) e)) λd=>dN d.2.2.isNone (Qe (b (a.at 0) o) (wL h (b (a.at 0)) d.1) (wL h (b (a.at 0)) d.2.1) (b (a.at 0) e)))))
def Zv(a:aI->bB)(b:b_)(d:aI)(op:oJ)(e:aI):dw:=
 (jR (α:=dw) d (gJ) (xU:=λx U=>dN (b.st x&&!(x=="__debug__")&&!(x=="__classdict__"))<|Qh (b.e7 x) op<|a e) (Co:=λo c U=>dN (n_ c).isNone<|Qg (a o) (a c) op<|a e))
def O9(b:b_)(e:aI):dw:=b7 (qV e) gJ λa=>b7 ((only a.2.1).bind Ht) gJ λc=>
 dN (isNm a.1==some "ValueError"&&a.2.2.isEmpty&&b.dg "ValueError"==some .globalImplicit) (fx c gJ (λU=>gJ) (λU=>gJ) (λU=>gJ) (λU U=>gJ) (λs=>Jo s.cps.toList) (λU=>gJ) gJ)
def Hu(b:aI):Option (List aI):=(isTup b).bind λa=>b7 (a.head?.bind v8) none λU=>some a
def O8(i:b3)(d:b_->aI->bB)(e:List cS->dw)(a:b_)(f b:aI)(g h:List cS):dw:=b7 (Hu b)
 (b7 (pK f) gJ λc=>dN (!(isSet b)&&a.Br c.2)<|Qi c.1 (c.2.map a.e7) (d (a.at 0) b) (e g)<|e h) λj=>IC i d a f j g h
def ID(i:b3)(b:b_->aI->bB)(a:b_)(h:List cS->dw)(s:cS):dw:=
 (GR (α:=dw) s (gJ) (Fw:=λe U=>dN (ph e)<|w_<|b (a.at 0) e) (RK:=λl e U=>b7 (only l) gJ λc=>Zq i b a c e) (RL:=λc op e U=>Zv (b<|a.at 0) a c op e) (R5:=λc m n U=>e2 (b (a.at 0) c) (h m)<|h n) (RZ:=λp q j k U=>O8 i b h a p q j k) (SI:=λc j k U=>dN k.isEmpty λd f g U=>tB (b (a.at 0) c) (h j) turns d f g) (KP:=λo U=>b7 o (nH<|cC i<|lN .none) λe=>nH<|b (a.at 2) e) (Sl:=λo r U=>b7 o gJ λe=>dN r.isNone<|O9 a e) (RO:=λU d f g U=>g .brk d f) (RU:=λU d f g U=>g .cont d f))
def O_(a:b3)(b:Nat)(c:b_):List cS->dw:=Nat.rec (λU=>gJ) (λU d e=>qp<|e.map<|ID a (ru a 60) c d) b
def Dl(e:aI):Option Str:=(qV e).bind λa=>(sF a.1).bind λb=>(qV b.1).bind λc=>bif a.2.1.isEmpty&&a.2.2.isEmpty&&isNm c.1==some "super"&&c.2.1.isEmpty&&c.2.2.isEmpty&&decide (b.2.2.endLine=e.pos.line) then some b.2.1 else none
def Dm(s:cS):Option (Bool×Str):=(GR (α:=Option<|Bool×Str) s (none) (Fw:=λe U=>(Dl e).map λx=>(false,x)) (KP:=λo U=>o.bind λe=>(Dl e).map λx=>(true,x)))
noncomputable def uY(a:b_):Bool:=a.ns.head? ==some "self"&&a.dg "self"==some .local&&a.dg "super"==some .globalImplicit&&a.dg "__class__"==some .free
def Bg(a:b3)(d:Nat)(b:b_)(e:List cS):dw:=qp (e.map λs=>b7 (Dm s) (ID a (ru a 60) b (O_ a d b) s) λc=>dN (uY b) (bif c.1 then nH (cC a<|sq c.2) else w_<|cC a<|sq c.2))
structure Inf where
 np:Nat
 m_:List D
 kw:Option (Str×Option D)
 qX:Bool
 ns:List Str
 own:List Str
 keep:Bool
 lam:Bool
def oY(b:Nat)(c:D):Prop:=D.rec (motive_1:=λU=>Prop) (motive_2:=λU=>Prop) True True (λU=>True) (λU=>True) (λU=>True) (λU a=>a) (λU a=>a) (λd=>d<b) (λU=>True) (λU U U U=>True) True (λU U e f=>e/\f) c
def kg(a:Nat)(b:List D):Prop:=List.rec True (λc U d=>oY a c/\d) b
def t7(a:Nat)(o:bI):Prop:=bI.casesOn o (kg a) (λU b c=>kg a (b.map (·.2))/\kg a c) True True
def fU(a:Nat)(b:aN):Prop:=List.rec True (λo U c=>t7 a o/\c) b
def adm(o:Option (Str×Option D))(a:oS)(k:List D->Prop):Prop:=b7 o (nul a<|k []) λb=>fk a (opt b.2 λd=>k [d]) λc e=>nul e<|c.1=b.1/\k [c.2]
def Gu(a:Inf)(as:List D)(b:oS)(k:List D->Prop):Prop:=
 (H as)<=a.np/\a.np<=H as+H a.m_/\adm a.kw b λc=>k<|as++a.m_.drop (H as+H a.m_-a.np)++c++bif a.qX then[.o 2 0 0 0] else[]
def fin(keep:Bool)(a:Nat)(c:D)(b:aN)(d:Ok D):Prop:=sel (keep||H b==a) (d c b)<|oY a c/\fU a (b.take a)/\d c (b.take a)
def ko(a:Nat)(c:List Nat)(b:aN)(d:er):Prop:=sel (H b==a) (d c b)<|fU a (b.take a)/\d c (b.take a)
def rm(a:Inf)(f:dw):Call:=λas g b d h=>Gu a as g λe=>f (e++kG (H a.ns-(H e)) .ai) b
 (λi U c=>i9.casesOn i (fin a.keep (H b) .none c d) False False λj=>fin a.keep (H b) j c d) (λk c=>ko (H b) k c h)
noncomputable def fc(b:List (List Nat×List Nat)):Nat:=(b.map λa=>H a.1+H a.2).sum
noncomputable def cX(b:List (List Nat×List Nat)):List Nat:=(b.map λa=>a.1++a.2).flatten
noncomputable def e8(b:List (List Nat×List Nat)):List D:=b.map λa=>.tup [.str a.1,.str a.2]
def wH:Call:=λas c a d U=>nul c (one as λo=>mD a o λU e f=>opt (e.lookup ("_initial_size":Str)) λg=>vInt (bx a g) λk=>∃b,f=e8 b/\d (.int<|k+(fc b:Nat)) a)
def wI:Call:=λas c b d U=>nul c (one as λo=>mD b o λU U e=>∃a,e=e8 a/\(cX a).length+H a<=lim/\d (.str<|cX a) b)
noncomputable def Inf.sj(a:Inf)(b:oA)(c:Str->Option D):b_:=⟨a.ns,λx=>b.scope.names.lookup x,c,a.own,0,a.lam⟩
noncomputable def t9(a:FuncBody):List cS:=amN a id λU=>[]
noncomputable def fdOf(a:jD)(b:Nat):Option oA:=(a.lookup b).bind λo=>tF o.data none (λU=>none) (λU U=>none) (λU U=>none) (λU U U=>none) (λU U=>none) (λU=>none) some (λU=>none) (λU=>none) none
def D6(c:b3)(d:Str->Option D)(a:Inf)(b:oA):Call:=rm a<|Bg c 60 (a.sj b d)<|t9 b.body
def CI(f:jD)(g:Str->Option D)(h:List (Nat×Inf))(i:Nat):b3:=Nat.rec (λU U U U U U=>False)
 (λU j a as b c d e=>sel (a==203) (wH as b c d e)<|sel (a==210) (wI as b c d e) (opt (h.lookup a) λk=>opt (fdOf f a) λl=>D6 j g k l as b c d e)) i
def vX{c:e->f->Prop}(a:∃b d,c b d)(g:∀b d,c b d->p):p:=a.elim λb a=>a.elim<|g b
def S'{c:f->h->j->Prop}(a:∃b d e,c b d e)(g:∀b d e,c b d e->p):p:=a.elim λb a=>vX a<|g b
def Ta{c:h->j->k->l->Prop}(a:∃b d e f,c b d e f)(g:∀b d e f,c b d e f->p):p:=a.elim λb a=>S' a<|g b
def Tb{c:j->k->l->m->n->Prop}(a:∃b d f h e,c b d f h e)(g:∀b d f h e,c b d f h e->p):p:=a.elim λb a=>Ta a<|g b
def Ts{i:b->d->e->f->Prop}(a)(c)(g)(h)(j:i a c g h):∃a c g h,i a c g h:=⟨a,c,g,h,j⟩
def Tx{k:d->f->h->j->b->Prop}(a)(c)(g)(i)(e:b)(l:k a c g i e):∃a c g i e,k a c g i e:=⟨a,c,g,i,e,l⟩
def g9(a):(toS a).length=H a:=cK ..
def PO(a:toS b=toS d):b=d:=aZ (λs=>s.cps.toList) a
noncomputable def Lr:List aF:=[.builtin "len",.builtin "ord",.builtin "chr",.builtin "sum",.builtin "any",.builtin "all",.builtin "min",.builtin "max",.builtin "sorted",.type "list",.type "str",.type "type",.type "range",.type "enumerate",.type "zip"]
def nh(a:Nat):aF:=bif decide (1000<=a) then Lr.getD (a-1000) .none else .ref a
noncomputable def Ek(a:aF)(b:List aF)(c:Nat):Obj:={cls:=a,data:=.seq b.toArray c}
abbrev eV:=Ek<|.type "list"
abbrev qn:=Ek<|.type "tuple"
structure bP where
 f:bG->Option Obj
 bW:Nat->bG
 w:bG->Option Nat
abbrev bP.Fr(a:bP)(x:bG):Prop:=a.f x=none/\a.w x=none
def jq(c:bP)(d:aF)(e:aF)(f:List aF->Prop):Prop:=∃a b g,e=.ref a/\c.f a=some (Ek d b g)/\f b
def zY(b:bP)(k:Nat)(x e f:Int)(g:aF):Prop:=∃a,g=.ref a/\
 ((k=0/\∃h i j,b.f a=some {cls:=.type "range",data:=.fields #[.int x h,.int e i,.int f j]})\/(k=1/\∃o,b.f a=some o/\o.cls=.type "re.Match")\/
  (k=2/\(a==kk)=false/\∃c,b.f a=some {cls:=.type "dict",data:=.dict #[] c})\/(k=3/\∃d c,b.f a=some {cls:=.type "dict_items",data:=.fields #[.ref d]}/\b.f d=some {cls:=.type "dict",data:=.dict #[] c}))
def eZ(c:bP)(h:Nat)(i:D):aF->Prop:=
 D.rec (motive_1:=λU=>aF->Prop) (motive_2:=λU=>List aF->Prop) (λU=>False) (λa=>a=.none) (λj a=>a=.bool j) (λl a=>∃e,a=.int l e) (λs a=>H s<=lim/\∃e,a=.str (toS s) e)
  (λf g a=>H f<=lim/\jq c (.type "tuple") a g) (λf g a=>H f<=lim/\jq c (.type "list") a g) (λd a=>d<h/\a=.ref (c.bW d)) (λd a=>a=nh d) (λk x m n a=>zY c k x m n a)
  (λb=>b=[]) (λU U p q b=>fk b False λa b=>p a/\q b) i
def aV(c:bP)(h:Nat)(i:List D):List aF->Prop:=
 D.rec_1 (motive_1:=λU=>aF->Prop) (motive_2:=λU=>List aF->Prop) (λU=>False) (λa=>a=.none) (λj a=>a=.bool j) (λl a=>∃e,a=.int l e) (λs a=>H s<=lim/\∃e,a=.str (toS s) e)
  (λf g a=>H f<=lim/\jq c (.type "tuple") a g) (λf g a=>H f<=lim/\jq c (.type "list") a g) (λd a=>d<h/\a=.ref (c.bW d)) (λd a=>a=nh d) (λk x m n a=>zY c k x m n a)
  (λb=>b=[]) (λU U p q b=>fk b False λa b=>p a/\q b) i
def aV.nil:aV b N [] []:=rfl
def aV.cons{v}(a:eZ b N d v)(c:aV b N e f):aV b N (d::e) (v::f):=⟨a,c⟩
def aV.one{v}(a:eZ b N d v):aV b N [d] [v]:=⟨a,rfl⟩
@[elab_as_elim] def aV.no{a:List aF->Prop}(c:a [])(e:aV d N [] b):a b:=Eq.symm e▸c
@[elab_as_elim] def aV.un{c:List aF->Prop}(g:∀d b,eZ e N f d->aV e N h b->c (d::b))(a:aV e N (f::h) b):c b:=by
 obtain _|⟨d,b⟩:=b
 .exact bO a
 exact g d b a.1 a.2
def aV.go{C:List D->List aF->Prop}(g:C [] [])(i:∀e d f b,eZ h N e f->aV h N d b->C d b->C (e::d) (f::b)):∀d b,aV h N d b->C d b:=λd=>by
 induction d with
 |nil=>exactλb a=>aV.no g a
 |cons e d j=>exactλb a=>aV.un (λf b k c=>i e d f b k c<|j b c) a
def aV.cg(a:aV e N b d):H d=H b:=aV.go (C:=λb d=>H d=H b) rfl (λU U U U U U c=>aZ xA c) b d a
def aV.append(a:aV e N b d)(k:aV e N f us):aV e N (b++f) (d++us):=aV.go (C:=λb d=>aV e N (b++f)<|d++us) k (λU U U U c U g=>⟨c,g⟩) b d a
def aV.get(a:aV j N f h):∀b:Nat,(f[b]?=none/\h[b]?=none)\/∃d e,f[b]?=some d/\h[b]?=some e/\eZ j N d e:=
 aV.go (C:=λf h=>∀b:Nat,(f[b]?=none/\h[b]?=none)\/∃d e,f[b]?=some d/\h[b]?=some e/\eZ j N d e) (λU=>.inl ⟨rfl,rfl⟩) (λd U e U c U g b=>zq b (.inr ⟨d,e,rfl,rfl,c⟩) g) f h a
def aV.at_(g:aV d N f h){a:Nat}(e:f[a]?=some j):∃b,h[a]?=some b/\eZ d N j b:=
 (g.get a).elim (λc=>aW (c.1.symm.trans e) λc=>nomatch c) λ⟨_,b,i,k,l⟩=>⟨b,k,bY (i.symm.trans e)▸l⟩
def aV.ext:∀{d:List D} {b:List aF},H b=H d->(∀(e:Nat) f h,d[e]?=some f->b[e]?=some h->eZ j N f h)->aV j N d b:=λ{d}=>by
 induction d with
 |nil=>intro b a _;exact zk a
 |cons f d c=>
  intro b a k;obtain _|⟨h,b⟩:=b
  .exact aW a λg=>nomatch g
  exact⟨k 0 _ _ rfl rfl,c (Nat.succ.inj a) λe=>k<|e+1⟩
def aV.take(a:aV e N b d):∀k,aV e N (b.take k) (d.take k):=aV.go (C:=λb d=>∀k:Nat,aV e N (b.take k)<|d.take k) (λk=>zq k rfl λU=>rfl) (λU U U U c U f k=>zq k rfl λk=>⟨c,f k⟩) b d a
def aV.drop(a:aV e N b d):∀k,aV e N (b.drop k) (d.drop k):=aV.go (C:=λb d=>∀k:Nat,aV e N (b.drop k)<|d.drop k) (λk=>zq k rfl λU=>rfl) (λU U U U c f g k=>zq k ⟨c,f⟩ g) b d a
def aV.set(a:eZ e N f h)(c:aV e N b d):∀k,aV e N (b.set k f) (d.set k h):=aV.go (C:=λb d=>∀k:Nat,aV e N (b.set k f)<|d.set k h) (λU=>rfl) (λU U U U g i j k=>zq k ⟨a,i⟩ λk=>⟨g,j k⟩) b d c
def aV.rep(a:aV b N d e)(k):aV b N (kG k d).flatten (kG k e).flatten:=by
 induction k with
 |zero=>exact rfl
 |succ k c=>exact a.append c
def aV.rev(a:aV e N b d):aV e N b.reverse d.reverse:=aV.go (C:=λb d=>aV e N b.reverse d.reverse) rfl (λg b h d c U f=>J BK<|J BK<|f.append<|.one c) b d a
def aV.pick(g:aV b N d e)(a:List Nat):aV b N (a.filterMap (d[·]?)) (a.filterMap (e[·]?)):=by
 induction a with
 |nil=>exact rfl
 |cons h a i=>
  rw[tH,tH];obtain⟨c,f⟩|⟨k,l,c,f,j⟩:=g.get h
  .rwa [c,f]
  exact J c<|J f<|⟨j,i⟩
structure bP.le(c:bP)(N:Nat)(sd:bP)(l':Nat):Prop where
 f:∀x o,c.f x=some o->sd.f x=some o
 bW:∀n,n<N->sd.bW n=c.bW n
 N:N<=l'
def jq.mono(x:d.le N f n)(k:∀b,h b->j b)(a:jq d l m h):jq f l m j:=let⟨c,b,g,e,i,p⟩:=a;⟨c,b,g,e,x.f _ _ i,k _ p⟩
def zY.mono{s:Int}(x:d.le N f l)(a:zY d k h b s j):zY f k h b s j:=let⟨i,e,a⟩:=a;⟨i,e,a.imp (λa=>⟨a.1,let⟨m,n,c,a⟩:=a.2;⟨m,n,c,x.f _ _ a⟩⟩) λa=>
 a.imp (λa=>⟨a.1,let⟨o,a,c⟩:=a.2;⟨o,x.f _ _ a,c⟩⟩) λa=>a.imp (λa=>⟨a.1,a.2.1,let⟨g,a⟩:=a.2.2;⟨g,x.f _ _ a⟩⟩) λa=>⟨a.1,let⟨b,g,a,c⟩:=a.2;⟨b,g,x.f _ _ a,x.f _ _ c⟩⟩⟩
def aV.N8(x:e.le N f h)(k:∀b d,b∈j->eZ e N b d->eZ f h b d)(a:aV e N j l):aV f h j l:=
 aV.ext a.cg λi b d ao aA=>k b d (eU ao) (let⟨_,c,g⟩:=a.at_ ao;bY (c.symm.trans aA)▸g)
def eZ.mono(x:f.le N h j):∀{d},eZ f N b d->eZ h j b d:=
 D.rec (motive_1:=λb=>∀{d},eZ f N b d->eZ h j b d) (motive_2:=λi=>∀b∈i,∀{d},eZ f N b d->eZ h j b d) (λa=>a) (λa=>a) (λU {_} a=>a) (λU {_} a=>a) (λU {_} a=>a)
  (λU g {_} a=>⟨a.1,jq.mono x (λU=>aV.N8 x λb U c=>g b c) a.2⟩) (λU g {_} a=>⟨a.1,jq.mono x (λU=>aV.N8 x λb U c=>g b c) a.2⟩) (λk {_} a=>⟨bZ a.1 x.N,a.2.trans<|aZ kJ (x.bW k a.1).symm⟩) (λU {_} a=>a) (λU U U U {_} a=>zY.mono x a)
  (λU c=>nomatch c) (λU U l m b c {d}=>(cQ.mp c).elim (λe=>Eq.symm e▸@l d) λn=>@m b n d) b
def aV.mono(x:b.le N d e)(a:aV b N f h):aV d e f h:=aV.N8 x (λU U U=>eZ.mono x) a
def gG(c:cR)(d:bP)(f:Nat)(g:List (Str×D)):List pP->Prop:=List.rec (λa=>a=[])
 (λb U h a=>fk a False λe a=>qe b.1/\(∃i,e.hash=J1 c b.1/\e.key=.str b.1 i)/\eZ d f b.2 e.val/\h a) g
noncomputable def v_:Str:="law.<locals>.<lambda>"
def rR(d:bP)(e:List aF):Prop:=∀pos a,xE pos e=some a->∃b o c f,a=.ref b/\d.f b=some o/\o.data=.fields c/\c[1]?=some (.str v_ f)
noncomputable def fh:List bG:=[198,205,445]
def TabAt(c:bP)(d:e9)(b:bG):Prop:=∃a,d.get? b=some {cls:=.none,data:=.fields a}/\zx a.toList/\(b=445->rR c a.toList)
noncomputable def rV(k:Nat)(a:bG)(b:List aF)(c:Nat):Obj:={cls:=.ref k,dict:=some a,data:=bif k==236 then .seq b.toArray c else .plain}
structure k7(P:cR)(c:bP)(N:Nat)(h:e9)(n k:Nat)(iF:List (Str×D))(ds:List D)(kh:bG)(es:Array pP)(qa:Nat)(cY:List aF)(m:Nat):Prop where
 w:c.w (c.bW n)=some n
 By:c.w kh=some n
 ne:kh≠c.bW n
 z:ds.length<=lim
 Qn:iF.length<=40
 cB:(gU.lookup k).isSome=true
 hd:h.get? kh=some {cls:=.type "dict",data:=.dict es qa}
 cu:h.get? (c.bW n)=some (rV k kh cY m)
 fl:gG P c N iF es.toList
 dF:aV c N ds cY
structure LstAt(c:bP)(N:Nat)(h:e9)(n:Nat)(ds:List D)(cY:List aF)(m:Nat):Prop where
 w:c.w (c.bW n)=some n
 z:ds.length<=lim
 cu:h.get? (c.bW n)=some (eV cY m)
 dF:aV c N ds cY
def k9(i:cR)(a:bP)(g:Nat)(b:e9)(c:Nat)(o:bI):Prop:=bI.casesOn o (λd=>∃e f,LstAt a g b c d e f)
 (λk j d=>∃l m n e f,k7 i a g b c k j d l m n e f) True (∀h∈fh,a.w h=some c/\TabAt a b h)
structure G where
 g6:Program
 w:J6
 h:e9
 K:jD
 c8:K.In h
 kt:∀x∈fh,K.lookup x=none
abbrev G.M(a:G):nN:=model a.g6 a.w
structure Rep(g:G)(c:bP)(W:aN)(h:e9):Prop where
 cG:∀x o,c.f x=some o->h.get? x=some o
 base:∀x o,g.h.get? x=some o->x∉fh->c.f x=some o
 objs:∀n o,W[n]?=some o->k9 g.w.params c W.length h n o
 own:∀x n,c.w x=some n->c.f x=none/\n<W.length/\x<h.objs.size
 kC:W[0]?=some .tab
structure aL(g:G) where
 c:bP
 W:aN
 s:bf
 R:Rep g c W s.heap
abbrev aL.aC(a:aL b):Nat:=a.s.heap.objs.size
abbrev aL.o(a:aL b)(x:bG):Option Obj:=a.s.heap.get? x
abbrev aL.V(a:aL b)(c:D)(d:aF):Prop:=eZ a.c (H a.W) c d
abbrev aL.b4(a:aL b)(c:List D)(d:List aF):Prop:=aV a.c (H a.W) c d
def Rep.tab(a:Rep e b f d)(x)(c:x∈fh):b.w x=some 0/\TabAt b d x:=a.objs 0 _ a.kC x c
def aL.c8(a:aL b):b.K.In a.s.heap:=λx o e=>a.R.cG x o (a.R.base x o (b.c8 x o e) λc=>nomatch (b.kt x c).symm.trans e)
structure Fy(a b:Array JA):Prop where
 at_:∀(i:Nat) (x:JA),a[i]?=some x->b[i]?=some x
 bare:e5 a->e5 b
def lK(o:Obj)(a:Option Obj):Prop:=∃eW,a=some {o with slots:=eW}/\((∃b c,o.data=.dict b c)\/eW=o.slots)
def lK.ff(a:b=some o):lK o b:=⟨o.slots,a,.inr rfl⟩
def lK.trans(a:lK o d)(k:∀b,d=some b->lK b f):lK o f:=
 let⟨_,e,c⟩:=a;let⟨eW,g,h⟩:=k _ e;⟨eW,g,h.elim .inl λi=>c.imp id λj=>i.trans j⟩
structure bJ{g:G}(ch:bG->Prop)(a b:aL g):Prop where
 le:a.c.le a.W.length b.c b.W.length
 fr:∀x,a.c.Fr x->x<a.aC->b.c.Fr x
 keep:∀x o,a.c.Fr x->¬ch x->a.o x=some o->lK o (b.o x)
 size:a.aC<=b.aC
 gens:Fy a.s.gens b.s.gens
 os:b.s.os=a.s.os
abbrev lJ(a c:aL b):Prop:=bJ (λU=>False) a c
def bJ.trans(x:bJ h d j)(a:bJ k j l)(r:∀b,h b->f b)(s:∀b,b<d.aC->k b->f b):bJ f d l where
 le:=⟨λb o c=>a.le.f b o<|x.le.f b o c,λi c=>(a.le.bW i<|bZ c x.le.N).trans<|x.le.bW i c,az x.le.N a.le.N⟩
 fr:=λb c m=>a.fr b (x.fr b c m)<|bZ m x.size
 keep:=λb o c n e=>(x.keep b o c (λg=>n<|r b g) e).trans λt u=>a.keep b t (x.fr b c<|dJ e) (λg=>n<|s b (dJ e) g) u
 size:=az x.size a.size
 gens:=⟨λp q e=>a.gens.at_ p q<|x.gens.at_ p q e,λe=>a.gens.bare<|x.gens.bare e⟩
 os:=a.os.trans x.os
def bJ.bS(x:bJ b d e)(c:bJ b e f):bJ b d f:=x.trans c (λU a=>a) λU U a=>a
def bJ.up(x:bJ f d h)(a:∀b,b<d.aC->f b->j b):bJ j d h:=⟨x.le,x.fr,λb o c g e=>x.keep b o c (λi=>g<|a b (dJ e) i) e,x.size,x.gens,x.os⟩
def bJ.of0(x:lJ b d):bJ e b d:=x.up λU U a=>a.elim
variable{g:G}{a:aL g}
def bJ.same{c:aL g}(d:c.c=a.c)(i:H c.W=H a.W)(j:∀x o,a.c.Fr x->¬b x->a.o x=some o->lK o (c.o x))(k:a.aC<=c.aC)(h:c.s.gens=a.s.gens)(l:c.s.os=a.s.os):bJ b a c where
 le:=⟨λU U f=>d▸f,λU U=>d▸rfl,di i.symm⟩
 fr:=λU f U=>d▸f
 keep:=j
 size:=k
 gens:=⟨λU U e=>h▸e,λe=>h▸e⟩
 os:=l
def ez{P:bI->Prop}(c:P .dead->False)(a:P (obj b d)):∃o,b[d]?=some o/\P o:=by
 unfold obj at a;rcases e:b[d]? with _|o
 .rw[e] at a;exact(c a).elim
 rw[e] at a;exact⟨o,rfl,a⟩
def Cm(a:aL b)(f:String)(g:aF)(c:List D):Prop:=H c<=lim/\∃d e h,g=.ref d/\a.o d=some (Ek (.type f) e h)/\a.b4 c e
def lM(d:aL b)(a:aF)(e:cT):Prop:=cT.casesOn e True (a=.none) (λf=>∃c,a=.int f c) (λs=>H s<=lim/\∃c,a=.str (toS s) c) (Cm d "list" a)<|Cm d "tuple" a
def IP(a:H d<=lim/\jq b.c (.type f) h (aV b.c (H b.W) d)):Cm b f h d:=⟨a.1,by
 exact kc a.2 λc g i e j k=>⟨c,g,i,e,b.R.cG _ _ j,k⟩⟩
def alb(e:b=.ref (a.c.bW d))(c:k9 g.w.params a.c (H a.W) a.s.heap d o):lM a b (bI.casesOn o .lst (λU U U=>.kR) .kR .kR):=by
 cases o with
 |lst f=>exact c.elim λh c=>c.elim λi c=>⟨c.z,_,_,_,e,c.cu,c.dF⟩
 |inst=>trivial
 |dead=>trivial
 |tab=>trivial
def c9(a:b.V d f):lM b f (bx b.W d):=by
 obtain _|_|_|_|_|g|g|c|_|_:=d
 .trivial
 .exact a
 .trivial
 .exact a
 .exact a
 .exact IP a
 .exact IP a
 .show lM b f (bI.casesOn _ .lst (λU U U=>.kR) .kR .kR);unfold obj;rcases e:b.W[c]? with _|o
  .trivial
  exact alb a.2<|b.R.objs c o e
 .trivial
 trivial
variable{u:aF->Prop}
@[elab_as_elim] def kX(c:lM j h f)(a:vInt f k)(g:∀b d,k b->u (.int b d)):u h:=by
 obtain _|_|b|_|_|_:=f<;>first|exact bO a|skip
 exact Exists.elim c λd e=>e▸g b d a
@[elab_as_elim] def pM(a:lM h f d)(c:vStr d k)(g:∀s b,H s<=lim->k s->u (.str (toS s) b)):u f:=by
 obtain _|_|_|s|_|_:=d<;>first|exact bO c|skip
 exact Exists.elim a.2 λb e=>e▸g s b a.1 c
def ZV(c:Cm f j k h)(g:∀b d e,H h<=lim->f.o b=some (Ek (.type j) d e)->f.b4 h d->u (.ref b)):u k:=
 c.2.elim λb a=>a.elim λd a=>a.elim λe a=>a.1▸g b d e c.1 a.2.1 a.2.2
@[elab_as_elim] def s9(c:lM l m d)(a:pL d k)(g:∀f b h j,H b<=lim->l.o f=some (eV h j)->l.b4 b h->k b->u (.ref f)):u m:=by
 obtain _|_|_|_|b|_:=d<;>first|exact bO a|skip
 exact ZV c λf h j d e i=>g f b h j d e i a
@[elab_as_elim] def d0(c:lM l m d)(a:PX d k)(g:∀f b h j,H b<=lim->l.o f=some (qn h j)->l.b4 b h->k b->u (.ref f)):u m:=by
 obtain _|_|_|_|_|b:=d<;>first|exact bO a|skip
 exact ZV c λf h j d e i=>g f b h j d e i a
@[elab_as_elim] def LW(c:a.V d e)(f:GF d k)(h:∀b,b<H a.W->k b->u (.ref (a.c.bW b))):u e:=by
 obtain _|_|_|_|_|_|_|b|_|_:=d<;>first|exact bO f|skip
 exact c.2▸h b c.1 f
@[elab_as_elim] def CU(f:a.V d e)(c:vV d k)(h:∀b,k b->u (nh b)):u e:=by
 obtain _|_|_|_|_|_|_|_|b|_:=d<;>first|exact bO c|skip
 exact f▸h b c
@[elab_as_elim] def Oi(c:a.V h j)(i:mJ a.W h k)(l:∀b d e f,a.W[b]?=some (.lst d)->LstAt a.c (H a.W) a.s.heap b d e f->k b d->u (.ref (a.c.bW b))):u j:=
 LW c i λb U i=>(ez (λc=>c) i).elim λo c=>by
  cases o with
  |lst d=>exact(a.R.objs b _ c.1).elim λe x=>x.elim λf x=>l b d e f c.1 x c.2
  |_=>exact bO c.2
@[elab_as_elim] def v7(c:a.V s A)(i:isIn a.W s k)(p:∀b d e f h j l m n,a.W[b]?=some (.inst d e f)->k7 g.w.params a.c (H a.W) a.s.heap b d e f h j l m n->k b d e f->u (.ref (a.c.bW b))):u A:=
 LW c i λb U i=>(ez (λc=>c) i).elim λo c=>by
  cases o with
  |inst d e f=>exact(a.R.objs b _ c.1).elim λh x=>x.elim λj x=>x.elim λl x=>x.elim λm x=>x.elim λn x=>p b d e f h j l m n c.1 x c.2
  |_=>exact bO c.2
noncomputable def jH(a:List Env):List bG:=a.filterMap (·.frame)
def d_(c:aL b)(e:List Env):Prop:=∀d∈e,d.scope.kind≠.module/\∃a o f g,d.frame=some a/\c.o a=some o/\o.data=.dict f g/\c.c.Fr a
def oR(a:aL b)(c:List Env)(x:bG):Prop:=a.c.Fr x/\x∉jH c
def xZ(c:aL b)(g:List Env)(h:Nat)(e:bG)(x:Option aF):Prop:=x=some .none\/∃a d f,x=some (.ref a)/\oR c g a/\h<=a/\a≠e/\c.o a=some d/\d.data=.fields f/\f[3]?=some .none
structure jE{g:G}(a:aL g)(fr:List Env)(N:Nat)(v:aF)(m:List Nat) where
 e:bG
 jy:Obj
 cY:Array aF
 t:bG
 n:Nat
 tk:Tok
 bw:v=.ref e
 new:N<=e
 he:a.o e=some jy
 jS:jy.cls=.type "ValueError"
 hd:jy.data=.fields cY
 h0:cY[0]?=some (.ref t)
 kq:a.o t=some {cls:=.type "tuple",data:=.seq #[.str (toS m) tk] n}
 z:m.length<=lim
 yl:oR a fr e
 yo:oR a fr t
 bu:xZ a fr N e cY[1]?
structure cM{g:G}(a:aL g) extends aL g where
 le:lJ a toaL
structure Res{g:G}(a:aL g) extends cM a where
 v:aF
 d:D
 bw:toaL.V d v
structure KO{g:G}(a:aL g) extends cM a where
 v:List aF
 d:List D
 bw:toaL.b4 d v
structure FO{g:G}(a:aL g) extends cM a where
 p:bG
 d:List D
 v:List aF
 m:Nat
 z:d.length<=lim
 fr:toaL.c.Fr p
 new:a.aC<=p
 cu:toaL.o p=some (eV v m)
 bw:toaL.b4 d v
structure mc{g:G}(a:aL g)(fr:List Env) extends cM a where
 v:aF
 m:List Nat
 e:jE toaL fr a.aC v m
abbrev dc(a:aL b)(c:Ok D)(d:aF->bf->Prop):Prop:=∀x:Res a,c x.d x.W->d x.v x.s
abbrev Ci(a:aL b)(c:Nat)(d:Ok (List D))(e:List aF->bf->Prop):Prop:=∀x:KO a,H x.d=c->d x.d x.W->e x.v x.s
abbrev i_(a:aL b)(c:Ok (List D))(d:aF->bf->Prop):Prop:=∀x:FO a,c x.d x.W->d (.ref x.p) x.s
abbrev vC(c:aL b)(d:Ok Bool)(e:Bool->bf->Prop):Prop:=∀(x:cM c) (a:Bool),d a x.W->e a x.s
abbrev gj(a:aL b)(c:List Env)(d:er)(X:aF->bf->Prop):Prop:=∀x:mc a c,d x.m x.W->X x.v x.s
variable{K E:aF->bf->Prop}
def dc.le{c:aL g}(e:dc a b K)(x:lJ a c):dc c b K:=λd=>e {d with le:=x.bS d.le}
def Ci.le{c:aL g}{e:List aF->bf->Prop}(h:Ci a b d e)(x:lJ a c):Ci c b d e:=λf=>h {f with le:=x.bS f.le}
def i_.le{d:aL g}(e:i_ a b K)(x:lJ a d):i_ d b K:=λc=>e {c with le:=x.bS c.le,new:=az x.size c.new}
def vC.le{c:aL g}{d:Bool->bf->Prop}(f:vC a b d)(x:lJ a c):vC c b d:=λe=>f {e with le:=x.bS e.le}
variable{c:bG}
def xZ.le(a:b<=N)(k:xZ d e N c x):xZ d e b c x:=by
 exact k.imp id λk=>oW k λf g h i j l m=>⟨f,g,h,i,j,az a l,m⟩
noncomputable def jE.le(a:b<=N)(k:jE d f N h j):jE d f b h j:={k with new:=az a k.new,bu:=k.bu.le a}
def gj.le(c:gj b d f K)(x:lJ b h):gj h d f K:=λa=>c {a with le:=x.bS a.le,e:=a.e.le x.size}
def gj.no:gj b d cI K:=λU a=>bO a
def aL.V.to(a:b.V d e)(x:lJ b f):f.V d e:=eZ.mono x.le a
def aL.b4.to(a:b.b4 d e)(x:lJ b f):f.b4 d e:=aV.mono x.le a
noncomputable def aL.tk(a:aL b)(c:Qx)(d:Nat):aL b:=⟨a.c,a.W,{a.s with drawn:=c,toks:=d},a.R⟩
def aL.I3(a:aL b)(c)(d):lJ a (a.tk c d):=bJ.same rfl rfl (λU U U U e=>.ff e) (aS _) rfl rfl
def eG(a:dc b j K)(c:b.V d e)(g:j d b.W):K e {b.s with drawn:=f,toks:=h}:=a ⟨⟨b.tk f h,b.I3 f h⟩,e,d,c⟩ g
def ON{a:Bool->bf->Prop}(c:vC b h a)(g:h d b.W):a d {b.s with drawn:=e,toks:=f}:=c ⟨b.tk e f,b.I3 e f⟩ d g
def aL.fresh(a:aL b)(c:a.aC<=x):a.c.Fr x:=by
 constructor
 .rcases e:a.c.f x with _|o
  .rfl
  exact aW (dJ<|a.R.cG _ _ e)<|bA.mpr c
 rcases e:a.c.w x with _|d
 .rfl
 exact aW (a.R.own _ _ e).2.2<|bA.mpr c
def bP.Fr.jf{a:bP}(c:a.Fr b)(e:a.f x=some o):x≠b:=λd=>by rw[d,c.1] at e;contradiction
def bP.Fr.nw{a:bP}(c:a.Fr b)(e:a.w x=some d):x≠b:=λf=>by rw[f,c.2] at e;contradiction
def rR.mono(x:b.le N d h)(a:rR b f):rR d f:=λpos c e=>by
 exact mM (a pos c e) λg o i j ao aA bL=>⟨g,o,i,j,ao,x.f _ _ aA,bL⟩
def gG.mono(x:f.le N h j):∀{b:List pP},gG k f N d b->gG k h j d b:=by
 induction d with
 |nil=>exactλa=>a
 |cons g d c=>
  intro b a;obtain _|⟨e,b⟩:=b
  .exact a
  exact⟨a.1,a.2.1,eZ.mono x a.2.2.1,c a.2.2.2⟩
def k9.keep(x:h.le N j l)(r:d<N)(k:∀b o,h.w b=some d->f.get? b=some o->j.w b=some d/\m.get? b=some o)(a:k9 n h N f d o):k9 n j l m d o:=by
 have c:=x.bW d r;cases o with
 |lst s=>exact a.elim λi a=>a.elim λp a=>⟨i,p,by rw[c];exact(k _ _ a.w a.cu).1,a.z,J c<|(k _ _ a.w a.cu).2,a.dF.mono x⟩
 |inst w y s=>exact a.elim λt a=>a.elim λu a=>a.elim λv a=>a.elim λi a=>a.elim λp a=>⟨t,u,v,i,p,by rw[c];exact(k _ _ a.w a.cu).1,(k _ _ a.By a.hd).1,by rw[c];exact a.ne,a.z,a.Qn,a.cB,(k _ _ a.By a.hd).2,J c<|(k _ _ a.w a.cu).2,a.fl.mono x,a.dF.mono x⟩
 |dead=>trivial
 |tab=>exactλb g=>⟨(a b g).2.elim λq e=>(k b _ (a b g).1 e.1).1,(a b g).2.elim λq e=>⟨q,(k b _ (a b g).1 e.1).2,e.2.1,λf=>(e.2.2 f).mono x⟩⟩
def jw{a:List w}{o:w}(c:a[b]?=some o):b<H a:=(fm.mp c).1
def Rep.but(a:Rep h d j b)(i:∀x o,¬d.Fr x->b.get? x=some o->f.get? x=some o)(l:b.objs.size<=f.objs.size):Rep h d j f where
 cG:=λx o e=>i x o (λg=>nomatch g.1.symm.trans e)<|a.cG x o e
 base:=a.base
 objs:=λc o e=>k9.keep ⟨λU U b=>b,λU U=>rfl,aS _⟩ (jw e) (λm o k n=>⟨k,i m o (λg=>nomatch g.2.symm.trans k) n⟩)<|a.objs c o e
 own:=λx c e=>⟨(a.own x c e).1,(a.own x c e).2.1,bZ (a.own x c e).2.2 l⟩
 kC:=a.kC
noncomputable def bP.put(a:bP)(b:bG)(o:Obj):bP:={a with f:=λx=>bif x==b then some o else a.f x}
def bP.wB{a:bP}(c:x≠b):(a.put b o).f x=a.f x:=aZ (λd=>cond d _ _)<|jO c
def bP.ny{a:bP}:(a.put b o).f b=some o:=aZ (λc=>cond c _ _)<|beq_self_eq_true b
def bP.q9{a:bP}(c:a.Fr b):a.le N (a.put b o) N:=⟨λx d e=>(bP.wB<|c.jf e).trans e,λU U=>rfl,aS _⟩
def Rep.put(c:Rep j d k h)(l:d.Fr b)(e:h.get? b=some o):Rep j (d.put b o) k h where
 cG:=λx g a=>by
  by_cases m:x=b
  .subst m;rw[bP.ny] at a;exact a▸e
  rw[bP.wB m] at a;exact c.cG x g a
 base:=λx g a n=>(bP.q9 (N:=0) l).f x g<|c.base x g a n
 objs:=λi g a=>k9.keep (bP.q9 l) (jw a) (λU U p q=>⟨p,q⟩)<|c.objs i g a
 own:=λx i a=>⟨(bP.wB<|l.nw a).trans (c.own x i a).1,(c.own x i a).2⟩
 kC:=c.kC
def cM.put(x:cM d)(i:x.c.Fr b)(e:x.o b=some o)(k:d.aC<=b):cM d where
 c:=x.c.put b o
 W:=x.W
 s:=x.s
 R:=x.R.put i e
 le:=⟨⟨λa j g=>(bP.q9 (N:=0) i).f a j<|x.le.le.f a j g,x.le.le.bW,x.le.le.N⟩,λa g h=>⟨(bP.wB<|kI<|bZ h k).trans (x.le.fr a g h).1,(x.le.fr a g h).2⟩,x.le.keep,x.le.size,x.le.gens,x.le.os⟩
noncomputable def aL.new(a:aL b)(o:Obj)(d:Qx)(f:Nat):cM a where
 c:=a.c
 W:=a.W
 s:={a.s with heap:=a.s.heap.push o,drawn:=d,toks:=f}
 R:=a.R.but (λU U U e=>fZ _ e) (by rw[f5];exact gy _)
 le:=bJ.same rfl rfl (λU U U U e=>.ff<|fZ _ e) (by show _<=(a.s.heap.push o).objs.size;rw[f5];exact gy _) rfl rfl
def aL.ku(a:aL g){o:Obj}(b:o.isFreed=false)(c:Qx)(d:Nat):(a.new o c d).o a.aC=some o:=g_ _ b
def ahT(c:dc b j K)(g:H d<=lim)(i:b.b4 d e)(l:j (.tup d) b.W):K (.ref b.aC) {b.s with heap:=b.s.heap.push (qn e k),drawn:=f,toks:=h}:=
 have a:=b.fresh<|aS _
 c ⟨(b.new _ f h).put a (b.ku rfl f h)<|aS _,.ref b.aC,.tup d,g,b.aC,e,k,rfl,bP.ny,i.mono<|bP.q9 a⟩ l
def yP(a:i_ b j K)(c:H d<=lim)(g:b.b4 d e)(i:j d b.W):K (.ref b.aC) {b.s with heap:=b.s.heap.push (eV e k),drawn:=f,toks:=h}:=
 a ⟨b.new _ f h,b.aC,d,e,k,c,b.fresh<|aS _,aS _,b.ku rfl f h,g⟩ i
def dc.dB(c:dc b f K)(a:cM b)(g:b.V d e)(h:f d a.W):K e a.s:=c ⟨a,e,d,g.to a.le⟩ h
noncomputable def bP.adopt(a:bP)(b:Nat)(d:bG)(e:List bG):bP:=⟨a.f,λc=>bif c==b then d else a.bW c,λx=>bif e.contains x then some b else a.w x⟩
variable{y:bf}
def P9{M:nN}{a:fY}[Decidable p]{x c:Sem w}{b:w->bf->Prop}(d:p)(k:aE M a x b K y):aE M a (if p then x else c) b K y:=by rwa [dI d]
def wn{M:nN}{a:fY}[Decidable p]{x b:Sem w}{c:w->bf->Prop}(d:¬p)(k:aE M a b c K y):aE M a (if p then x else b) c K y:=by rwa [cE d]
def alD{M:nN}{a:fY}[Decidable p]{x c:Sem w}{b:w->bf->Prop}(e:aE M a x b K y)(k:aE M a c b K y):aE M a (if p then x else c) b K y:=by by_cases d:p;exact P9 d e;exact wn d k
def iL(a:b<=m)(k:ia m d=true):b<=d:=az a<|fE k
def Gi{a b c:Nat}(d:N+a<c)(k:ia b a=true):N+b<c:=bz (j7 (fE k) N) d
def Ll{c a d b:Nat}(e:N+c+a<b)(k:ia d a=true):N+d<b:=bz (d9 (cZ ..)<|fE k) e
def Gh{a b c i d:Nat}(e:N+a+b<d)(k:ia (i+c) b=true):N+i+a+c<d:=by
 rw[pT N,gE<|N+a];exact bz (j7 (fE k) _) e
def yu{a:Int}(b:-2^62<=a)(k:a<2^62):-2^63<=a/\a<2^63:=⟨BF av b,zh k av⟩
def yv{b c d e a:Int}(f:b<a/\a<c)(g:d<=b)(k:c<=e):d<=a/\a<e:=⟨BF g<|JE f.1,xd f.2 k⟩
def gq(a:b<=lim):b<=j9:=J rQ<|iL a rfl
def I4(a b):toS a++toS b=toS (a++b):=aZ Str.mk<|hl a b
def Vi(x):∀k (acc:List w),JJ (λb d=>b++d) acc.toArray (kG k x.toArray)=(acc++(kG k x).flatten).toArray:=λk=>by
 induction k with
 |zero=>intro acc;exact J hH<|J hH<|J QM<|J (dR ..) rfl
 |succ k a=>intro acc;exact J ant<|J hx<|J (hl ..)<|J (a ..)<|J ant<|J qs<|J (eT ..) rfl
set_option tactic.hygienic true in
def ak8(x)(c):Txt.mul (toS x) c=toS (kG c.toNat x).flatten:=by
 unfold Txt.mul;split
 .rename_i a;exact J (hc<|Int.le_of_lt_add_one (b:=0) a) rfl
 split
 .rename_i a;rw[lY] at a;obtain a|a:=a
  .rw[ck a];show _=toS ([x].flatten);exact J List.flatten_singleton rfl
  have:=zk (by rw[g9] at a;exact ck a);subst this;exact J anc rfl
 exact aZ Str.mk<|Vi x c.toNat []
def aaf(b:0<=x):Builtin.bitAnd x 1=tG x 2:=by
 obtain⟨a,rfl⟩:=JD b;rw[bitAnd_pp b av,show(a:Int).toNat&&&(1:Int).toNat=a%2 from Nat.and_one_is_mod a,amT _ av]
 rfl
def ad0(c:¬b<1)(e:d*b.toNat<=lim):¬((d:Int)>(2^63-1)/b):=by
 have a:=xe.mp c;refine xe.mpr<|Int.le_ediv_of_mul_le a ?_;obtain⟨k,rfl⟩:=JD<|JE a;exact bH (Int.natCast_mul d k)<|BF (lZ.mpr e) av
def mul_list{a:Int}(c:IsL y.heap d b k)(m:jj a)(l:b.size*a.toNat<=lim)(n:K (.ref y.heap.objs.size) {y with heap:=y.heap.push {cls:=.type "list",data:=.seq (JJ (λf h=>f++h) #[] (kG (if b.isEmpty=true then 0 else a.toNat) b))}}):
 aE g.M j (Q_ .Mult (.ref d)<|.int a e) K E y:=by
 have i:y.TypeIs (.ref d) "list":=⟨_,c,rfl⟩;exact wpAny_binaryOp_repeat_ref av i (λp=>Kg p a e) noFill_list_mul F.fills_int_mul amI repeat_list F.slot_int_index.lookup
  (oM amI (Kg y a e) F.entry_int_rmul (F.args_int_rmul_2 _ _) (int___rmul___int_list a e d b k)
   ⟨c,rfl,i,oM F.slot_list_mul i F.entry_list_mul (F.args_list_mul_2 _ _)
    (AutoListH.list___mul___list_int_3 d b k a e (by simpa [amt] using yv m av av) (bA.mpr (iL l rfl)) (by simpa [ft,j9] using iL l rfl)) ⟨c,n⟩⟩)
@[elab_as_elim] def AA{c:aF->aF->Prop}(g:lM h j l)(i:lM h m n)(a:o4 s x l n k)(p:∀b d e f,x b d->k (.int (s b d))->c (.int b e) (.int d f)):c j m:=by
 exact kX g a λb e a=>kX i a λd f a=>p b d e f a.1 a.2
def kL(b:Int)(c):a.V (.int b) (.int b c):=⟨c,rfl⟩
def mj{s:List Nat}(b)(c:H s<=lim):a.V (.str s) (.str (toS s) b):=⟨c,b,rfl⟩
def S2(q:a.o b=some (eV d n))(r:a.o e=some (eV f k))(i:a.b4 h d)(p:a.b4 j f)(t:i_ a l E)(c:LB h j λm=>l m a.W):aE g.M s (Q_ .Add (.ref b) (.ref e)) E K a.s:=
 P.add_list q r (J (hl ..)<|yP t (bq▸c.1) (i.append p) c.2) (J cK<|J cK<|J i.cg<|J p.cg<|gq c.1)
def aeQ(p:a.o h=some (eV d l))(i:a.b4 f d)(q:i_ a j E)(c:mulL f b λk=>j k a.W):aE g.M m (Q_ .Mult (.ref h) (.int b n)) E K a.s:=by
 have e:(kG b.toNat f).flatten.length=H f*b.toNat:=by simp[hX]
 refine mul_list p c.1 (J cK<|J i.cg<|c.2.1) ?_;rw[show JJ (λr s=>r++s) #[] _=((kG b.toNat d).flatten).toArray from by
  obtain _|⟨t,d⟩:=d
  .exact J anc rfl
  exact Vi _ b.toNat []]
 exact yP q (e▸c.2.1) (i.rep _) c.2.2
def i_.cG(a:dc b d K):i_ b (λe f=>d (.lst e) f) K:=λx c=>a ⟨x.put x.fr x.cu x.new,.ref x.p,.lst x.d,x.z,x.p,x.v,x.m,rfl,bP.ny,x.bw.mono<|bP.q9 x.fr⟩ c
def tr(B:a.V x h)(D:a.V f j)(c:Gs o a.W x f λb=>d b a.W)(q:dc a d K):aE g.M l (Q_ o h j) K E a.s:=by
 have p:=c9 B;have u:=c9 D;unfold Gs at c;generalize bx a.W x=w at p c;generalize bx a.W f=y at u c;obtain _|_|_|_|_|_|_|_|_|_|_|_|_:=o<;>first|exact bO c|skip
 .obtain _|_|m|s|F|_:=w<;>first|exact bO c|skip
  .obtain⟨v,rfl⟩:=p;exact kX u c λi r c=>apq<|eG q (kL _ _) c
  .obtain⟨_,v,rfl⟩:=p;exact pM u c λO r U c=>apr (λr k=>J (I4 ..)<|eG q (mj r<|bq▸c.1) c.2)<|J (g9 ..)<|gq c.1
  obtain⟨_,n,G,L,rfl,e,z⟩:=p;exact s9 u c λt P Q R U M N c=>S2 e M z N (i_.cG q) c
 .exact AA p u (show o4 _ (λU U=>True) w y λb=>d b a.W from c) λm i v r U t=>apH<|eG q (kL _ _) t
 .refine kX u c λi r c=>?_
  obtain _|_|m|s|F|_:=w<;>first|exact bO c|skip
  .obtain⟨v,rfl⟩:=p;exact apD (eG q (kL _ _) c.2.2)<|IntMulOk.of_left<|intBits_le_64 (zh av c.1.1)<|zh c.1.2 av
  .obtain⟨_,v,rfl⟩:=p;exact by
    have e:(kG i.toNat s).flatten.length=H s*i.toNat:=by simp[hX]
    refine SB.mul ⟨by simpa using yv c.1 av av,λA U=>by rw[g9];exact ad0 A c.2.1,λA U=>by rw[g9];have:=gq c.2.1;simp[Qv];exact this⟩ λr k=>?_
    exact J (ak8 ..)<|eG q (mj r<|e▸c.2.1) c.2.2
  obtain⟨_,n,G,L,rfl,e,z⟩:=p;exact aeQ e z (i_.cG q) c
 .exact AA p u (show o4 tG (λU i=>i≠0) w y λb=>d b a.W from c) λm i v r n t=>apC n<|eG q (kL _ _) t
 .exact AA p u (show o4 (λm i=>m^i.toNat) (λm i=>0<=i/\i<=20/\0<=m/\m<=20) w y λb=>d b a.W from c) λm i v r n t=>apF n.1 (BF n.2.1 av) (by obtain⟨k,rfl⟩:=JD n.2.2.1;exact bz (show k<=20 from lZ.mp n.2.2.2) aH)<|eG q (kL _ _) t
 .exact AA p u (show o4 (λm i=>BE m _) (λU i=>0<=i/\i<=20) w y λb=>d b a.W from c) λm i v r n t=>apG n.1<|eG q (kL _ _) t
 .exact AA p u (show o4 (λm U=>tG m 2) (λm i=>0<=m/\i=1) w y λb=>d b a.W from c) λm i v r n t=>aps<|J n.2<|J (aaf n.1)<|eG q (kL _ _) t
 exact AA p u (show o4 BE (λU i=>i≠0/\-1000000000<i/\i<1000000000) w y λb=>d b a.W from c) λm i v r n t=>apt n.1<|eG q (kL _ _) t
def gI(a:y.heap.get? b=some (eV d k)):y.heap.IsList b d.toArray:=⟨_,a,rfl,k,rfl⟩
def nq(a:y.heap.get? b=some (qn d k)):y.heap.IsTuple b d.toArray:=⟨_,a,rfl,k,rfl⟩
def RW(b:fY)(s:bf)(c d:aF)(e:Prop):Prop:=∃a,h7 b s c d a/\an3 b s c d a/\an4 b s c d (!a)/\(a=true↔e)
def FN(b:fY)(s:bf)(c d:aF)(e:Prop):Prop:=∃a,an3 b s c d a/\an4 b s c d (!a)/\(a=true↔e)
def YZ{P:D->D->aF->aF->Prop}(p:∀x d f h,a.V x f->a.V d h->n x d->P x d f h):∀{j k:List D} {m l:List aF},a.b4 j m->a.b4 k l->qk n j k->∀(b:Nat) f h,m[b]?=some f->l[b]?=some h->∃x d,j[b]?=some x/\k[b]?=some d/\P x d f h:=λ{j}=>by
 induction j with
 |nil=>exactλq U U b f h e U=>by rw[show _=[] from q] at e;contradiction
 |cons x j r=>
  intro k m l s c i;obtain _|⟨d,k⟩:=k
  .exactλb f h U e=>by rw[show l=[] from c] at e;contradiction
  refine aV.un (λf m t u=>?_) s;refine aV.un (λh l v w=>?_) c;intro b;obtain _|b:=b
  .exactλy z ao aA=>⟨x,d,rfl,rfl,p x d y z (bY ao▸t) (bY aA▸v) i.1⟩
  exact r u w i.2 b
def Y0{q:aF->aF->Bool->Prop}(c:∀x f n s,a.V x n->a.V f s->F x f->∃h,q n s h/\(h=true↔x=f))(r:a.b4 d j)(t:a.b4 l m)(u:qk F d l):
 ∃e,(∀b (A:b<j.toArray.size) (B:b<m.toArray.size),q j.toArray[b] m.toArray[b]<|e b)/\(((b6<|min j.toArray.size m.toArray.size).all e&&j.toArray.size==m.toArray.size)=true↔d=l):=by
 have k:=YZ c r t u;refine⟨λb=>@decide (d[b]?=l[b]?)<|Jx _,λb A B=>?_,?_⟩
 .have v:=A;obtain⟨x,f,ao,aA,h,w,i⟩:=k b _ _ (kY v)<|kY B;have:h=@decide (d[b]?=l[b]?) (Jx _):=by rw[zd,i,@decide_eq_true_iff _<|Jx _,ao,aA,apo]
  rwa [this] at w
 rw[bl,dQ,beq_iff_eq,cK,cK,r.cg,t.cg];constructor
 .intro c;refine JI λp=>?_
  by_cases i:p<H d
  .exact@of_decide_eq_true _ (Jx _)<|c.1 p<|fJ.mpr<|by rwa [<-c.2,EY]
  exact J (tK<|bA.mp i)<|J (tK<|c.2▸bA.mp i) rfl
 exactλe=>⟨λp U=>@decide_eq_true _ (Jx _)<|e▸rfl,e▸rfl⟩
def YN(i:a.o s=some (eV d L))(p:a.o B=some (eV f k))(u:a.b4 h d)(v:a.b4 j f)(q:A.units<xD)(w:qk F h j)(y:∀x b l m,a.V x l->a.V b m->F x b->∃n,h7 A.in1 a.s l m n/\(n=true↔x=b)):FN A a.s (.ref s) (.ref B) (h=j):=by
 refine aG (Y0 y u v w) λe t r=>?_
 by_cases c:d.toArray.size=f.toArray.size
 .rw[<-c,EY,beq_self_eq_true,Qq] at r;exact⟨_,.lists (gI i) (gI p) c q t,.lists (gI i) (gI p) c q t,r⟩
 rw[jO c,zc] at r;exact⟨_,.lists_lengths (gI i) (gI p) (bne_iff_ne.mpr c) q,.lists_lengths (gI i) (gI p) (bne_iff_ne.mpr c) q,r⟩
def ZW(l:jq a.c (.type d) f h)(k:jq a.c (.type d) f j)(n:∀b,h b->j b->p):p:=by
 refine Ct (id l) λt U U q U=>?_;subst q
 exact aG (by
  refine kc l λu b v ao r c=>kc k λw m k aA s i=>?_
  cases ao;cases aA
  have e:b.toArray=m.toArray:=by
   have:=aZ Obj.data<|bY<|r.symm.trans s;injection this
  exact⟨b,c,(show b=m from aZ amm e)▸i⟩) λb c i=>n b c i
def Y3(p:∀x b d,a.V x d->a.V b d->k x b->x=b)(c:a.b4 f h)(i:a.b4 j h)(q:qk k f j):f=j:=by
 refine List.ext_getElem (c.cg.symm.trans i.cg) λl r s=>?_
 have m:l<H h:=by rwa [c.cg]
 refine jN ((YZ (P:=λx b d n=>d=n->x=b) (λx b d n t u v e=>p x b d t (e▸u) v) c i q) l _ _ (kY m)<|kY m) λx b ao aA e=>?_
 rw[kY r] at ao;rw[kY s] at aA;rw[bY ao,bY aA,e rfl]
@[elab_as_elim] def ZI{c:D->D->Prop}(a:kK (j+1) x h)(t_:c .none .none)(g:∀b d,c (.bool b) (.bool d))(i:∀b d,c (.int b) (.int d))(k:∀b d,c (.str b) (.str d))(l:∀e f,qk (kK j) e f->c (.tup e) (.tup f))(m:∀e f,qk (kK j) e f->c (.lst e) (.lst f)):c x h:=by
 cases x with
 |none=>
  obtain _|_:=h<;>first|exact bO a|skip
  exact t_
 |bool b=>
  obtain _|_|d|_|_|_|_|_|_|_:=h<;>first|exact bO a|skip
  exact g b d
 |int b=>
  obtain _|_|_|d|_|_|_|_|_|_:=h<;>first|exact bO a|skip
  exact i b d
 |str b=>
  obtain _|_|_|_|d|_|_|_|_|_:=h<;>first|exact bO a|skip
  exact k b d
 |tup e=>
  obtain _|_|_|_|_|f|_|_|_|_:=h<;>first|exact bO a|skip
  exact l e f a
 |lst e=>
  obtain _|_|_|_|_|_|f|_|_|_:=h<;>first|exact bO a|skip
  exact m e f a
 |_=>exact bO a
def eq_self:∀f x b d,kK f x b->a.V x d->a.V b d->x=b:=λf=>by
 induction f with
 |zero=>exactλU U U c=>bO c
 |succ f n=>
  intro x b d c;refine ZI c (λU U=>rfl) (λh i j k=>aZ D.bool<|Value.bool.inj<|j.symm.trans k) ?_ ?_ (λp q c j k=>aZ D.tup (ZW j.2 k.2 λr l m=>Y3 (λx b d a h i=>n x b d i a h) l m c)) λp q c j k=>aZ D.lst (ZW j.2 k.2 λr l m=>Y3 (λx b d a h i=>n x b d i a h) l m c)
  .rintro h i ⟨_,rfl⟩ ⟨_,e⟩;exact aZ D.int (Value.int.inj e).1
  rintro h i ⟨_,_,rfl⟩ ⟨_,_,e⟩;exact aZ D.str<|PO (Value.str.inj e).1
def UX(m:b=d->f)(n:FN h a.s (.ref b) (.ref d) j)(e:f↔j):RW h a.s (.ref b) (.ref d) f:=by
 refine dm n λp c l i=>?_
 by_cases k:b=d
 .have:=i.mpr (e.mp<|m k);subst this;subst k;exact⟨true,.same _,c,l,i.trans e.symm⟩
 exact⟨p,.of_refs k c,c,l,i.trans e.symm⟩
def UU:∀h j x d b f,kK h x d->j.units+h<xD->a.V x b->a.V d f->RW j a.s b f (x=d):=λh=>by
 induction h with
 |zero=>exactλU U U U U k=>bO k
 |succ h B=>
  intro j x d b f k aU;have w:∀x d b f,a.V x b->a.V d f->kK h x d->∃m,h7 j.in1 a.s b f m/\_:=λx d b f D E F=>by
   exact nV (B j.in1 x d b f F (bz (di<|pT ..) aU) D E) λm p U U q=>⟨m,p,q⟩
  have r:=bz (cZ ..) aU;have n:=λb=>eq_self (a:=a) _ x d b k
  revert n;refine ZI k ?_ ?_ ?_ ?_ ?_ ?_
  .intro _ c i;exact J (show b=_ from c)<|J (show f=_ from i)<|⟨true,.same _,.none_none,.none_none,iff_of_true rfl rfl⟩
  .intro m y _ c i;rw[show b=_ from c,show f=_ from i];exact⟨_,.bool_bool _ _,.bool_bool _ _,.bool_bool _ _,lA beq_iff_eq<|⟨aZ _,λe=>by injection e⟩⟩
  .rintro m y _ ⟨_,rfl⟩ ⟨_,rfl⟩;exact⟨_,.int_int _ _ _ _,.int_int _ _ _ _,.int_int _ _ _ _,lA beq_iff_eq<|⟨aZ _,λe=>by injection e⟩⟩
  .rintro m y _ ⟨_,_,rfl⟩ ⟨_,_,rfl⟩;exact⟨_,.str_str _ _ _ _,.str_str _ _ _ _,.str_str _ _ _ _,lA beq_iff_eq<|⟨λe=>aZ _<|PO e,λe=>aZ toS<|by injection e⟩⟩
  .intro G H k n c i;refine kc (id c.2) λK L M l s t=>?_;subst l
   refine kc (id i.2) λN O P l u v=>?_;subst l
   exact UX (λe=>n _ c (e▸i)) (by
    have z:=(a.R.cG _ _ s);have A:=(a.R.cG _ _ u);exact aG (Y0 w t v k) λe p q=>⟨_,.tuples (nq z) (nq A) r p,.tuples (nq z) (nq A) r p,q⟩) ⟨λe=>by injection e,aZ _⟩
  intro G H k n c i;refine kc (id c.2) λK L M l s t=>?_;subst l
  refine kc (id i.2) λN O P l u v=>?_;subst l
  exact UX (λe=>n _ c<|e▸i) (YN (a.R.cG _ _ s) (a.R.cG _ _ u) t v r k w) ⟨λe=>by injection e,aZ _⟩
def afq(x a):lS x a=true↔∃b,b+H x<=H a/\(a.drop b).take (H x)=x:=by
 induction a with
 |nil=>
  show x.isEmpty=true↔_;rw[jM];constructor
  .rintro rfl;exact⟨0,aS _,rfl⟩
  rintro ⟨b,c,_⟩;exact zk<|anG.mp<|az (fS _ b) c
 |cons h f g=>
  show(x.isPrefixOf _||lS x f)=true↔_;rw[lY,g,List.isPrefixOf_iff_prefix];constructor
  .rintro (c|⟨b,e,d⟩)
   .exact⟨0,J (i8 ..)<|c.length_le,(ans.mp c).symm⟩
   exact⟨b+1,az (di<|pT ..)<|iI e,d⟩
  rintro ⟨b,e,d⟩
  obtain _|b:=b
  .exact .inl<|ans.mpr d.symm
  exact .inr ⟨b,hS<|az (di<|pT b (H x) 1) e,d⟩
def afp(x a):(!(Builtin.Str.occurrences (toS a) (toS x) 0 (toS a).length 1).isEmpty)=lS x a:=by
 refine lA zd<|lA (StrLaws.found_iff ..)<|lA (afq ..)<|exists_congr λb=>?_
 refine J (StrLaws.subAt_eq ..)<|and_congr_right λc=>?_
 simp[toS,Str.length]
noncomputable def Wf(x:Int)(a:aF):Bool:=match a with|.int b _=>b==x|_=>false
noncomputable def eL(x:Str)(a:aF):Bool:=match a with|.str b _=>b==x|_=>false
def akz(a b):(toS a==toS b)=decide (a=b):=lA zd<|lA beq_iff_eq<|J decide_eq_true_eq<|⟨PO,aZ toS⟩
def Zw{a:Int}(d:(if(decide (0<=a)&&decide (a<N))=true then some a.toNat else none)=some b):0<=a/\a<N/\b=a.toNat:=by
 by_cases c:(decide (0<=a)&&decide (a<N))=true
 .rw[dI c] at d;rw[bl,decide_eq_true_eq,decide_eq_true_eq] at c;exact⟨c.1,c.2,(bY d).symm⟩
 rw[cE c] at d;contradiction
def IF(g:iA k b=some d)(e:b<=lim):-(2^62)<=k/\k<2^62/\((0<=k/\d=k.toNat)\/(k<0/\-(b:Int)<=k/\d=(k+b).toNat)):=by
 have a:=Zw g;by_cases c:k<0
 .rw[dI c] at a;have f:=by
   have:=Int.sub_right_le_of_le_add a.1;rwa [Int.zero_sub] at this
  exact⟨BF (Int.neg_le_neg<|lZ.mpr<|az e av) f,zh c av,.inr ⟨c,f,a.2.2⟩⟩
 rw[cE c] at a;exact⟨BF av a.1,zh a.2.1<|nI.mpr<|bz e av,.inl ⟨a.1,a.2.2⟩⟩
def aiu(c:iA k b=some d):d<b:=by
 have a:=Zw c;exact J a.2.2<|(hb a.1).mpr a.2.1
def Wb{h:List Int}:∀{b:List aF},a.b4 (h.map .int) b->(∀e∈b,∃f d,e=.int f d)/\b.any (Wf x)=decide (x∈h):=by
 induction h with
 |nil=>exactλ{b} c=>aV.no ⟨(λU k=>nomatch k),rfl⟩ c
 |cons i h j=>
  refineλ{b} c=>aV.un (λm b l c=>?_) c
  obtain⟨d,rfl⟩:=l;refine⟨ane.mpr ⟨⟨i,d,rfl⟩,(j c).1⟩,?_⟩;rw[xh,(j c).2];show(i==x||_)=_;rw[zd,lY,beq_iff_eq,decide_eq_true_eq,decide_eq_true_eq,cQ,eq_comm]
def Z_{h:List (List Nat)}:∀{b:List aF},a.b4 (h.map .str) b->(∀e∈b,∃f d,e=.str f d)/\b.any (eL (toS x))=decide (x∈h):=by
 induction h with
 |nil=>exactλ{b} c=>aV.no ⟨(λU k=>nomatch k),rfl⟩ c
 |cons i h j=>
  refineλ{b} c=>aV.un (λm b l c=>?_) c
  obtain⟨_,d,rfl⟩:=l;refine⟨ane.mpr ⟨⟨toS i,d,rfl⟩,(j c).1⟩,?_⟩;rw[xh,(j c).2];show(toS i==toS x||_)=_;rw[akz,zd,lY,decide_eq_true_eq,decide_eq_true_eq,decide_eq_true_eq,cQ,eq_comm]
def ach(m:lM a f h)(n:lM a j b)(c:V2 h b k)(p:∀d,k d->K (.bool d) a.s):aE g.M l (J9 .In f j) K E a.s:=by
 obtain _|_|_|w|z|z:=b<;>first|exact bO c|skip
 .obtain⟨_,tk,rfl⟩:=n;exact pM m c λs L U c=>apy<|J (afp ..)<|p _ c
 .obtain⟨_,A,B,D,rfl,e,i⟩:=n;refine kX m c λy w c=>?_
  refine aG c λF q r=>?_;subst q
  refine SeqAt.in_listAt (Wf y) (gI e) (λt u=>?_) ?_
  .refine mu ((Wb (x:=y) i).1 t<|ano.mp u) λG H v=>?_;subst v
   exact apJ _ _ _ _
  exact J am6<|J ((Wb i).2)<|p _ r
 obtain⟨_,A,B,D,rfl,e,i⟩:=n;refine pM m c λs w U c=>?_
 refine aG c λF q r=>?_;subst q
 refine SeqAt.in_tupleAt (eL<|toS s) (nq e) (λt u=>?_) ?_
 .refine mu ((Z_ (x:=s) i).1 t<|ano.mp u) λG H v=>?_;subst v
  exact apK _ _ _ _
 exact J am6<|J ((Z_ i).2)<|p _ r
def OM(a)(x):res a x=x\/∃b,res a x=.lst b/\bx a x=.lst b:=by
 obtain _|_|_|_|_|_|_|c|_|_:=x<;>first|exact .inl rfl|skip
 cases e:obj a c with
 |lst b=>exact .inr ⟨b,by show bI.casesOn (motive:=λU=>D) _ .lst (λU U U=>.loc c) _ _=_;rw[e],by show bI.casesOn (motive:=λU=>cT) _ .lst (λU U U=>.kR) .kR .kR=_;rw[e]⟩
 |_=>exact .inl (by show bI.casesOn (motive:=λU=>D) _ .lst (λU U U=>.loc c) _ _=_;rw[e])
def YQ(c:b.V x d)(a:res b.W x=.lst f):Cm b "list" d f:=by
 have k:=c9 c;obtain e|⟨g,e,aA⟩:=OM b.W x
 .rw[a] at e;subst e;exact k
 rw[aA] at k;rw[a] at e;injection e with e;subst e;exact k
def YO(aU:A.units+4<xD)(n:a.V x d)(p:a.V b f)(c:kK 4 (res a.W x) (res a.W b)):FN A a.s d f (res a.W x=res a.W b):=by
 have go:∀h i,res a.W x=.lst h->res a.W b=.lst i->FN A a.s d f (res a.W x=res a.W b):=λh i ao aA=>by
  obtain⟨_,D,E,F,rfl,q,r⟩:=YQ n ao;obtain⟨_,G,H,K,rfl,s,t⟩:=YQ p aA;rw[ao,aA] at c⊢;obtain⟨j,l,m,u⟩:=YN (A:=A) q s r t (bz (cZ ..) aU) c λx b d f v w y=>by
   exact nV (UU 3 A.in1 x b d f y aU v w) λj l U U m=>⟨j,l,m⟩
  exact⟨j,l,m,u.trans ⟨aZ _,λe=>by injection e⟩⟩
 have z:∀{h Y},kK 4 (.lst h) Y->∃i,Y=.lst i:=λ{h Y} c=>by cases Y<;>first|exact⟨_,rfl⟩|exact bO c
 have B:∀{h Y},kK 4 Y (.lst h)->∃i,Y=.lst i:=λ{h Y} c=>by cases Y<;>first|exact⟨_,rfl⟩|exact bO c
 obtain ao|⟨h,ao,_⟩:=OM a.W x
 .obtain aA|⟨i,aA,_⟩:=OM a.W b
  .rw[ao,aA] at c⊢;exact aG (UU 4 A x b d f c aU n p) λj U k=>⟨j,k⟩
  rw[aA] at c;obtain⟨h,e⟩:=B c;exact go h i e aA
 rw[ao] at c;obtain⟨i,e⟩:=z c;exact go h i ao e
def UT(c:Mg a.W x d k)(f:b=true↔res a.W x=res a.W d):k b:=by
 obtain _|_:=b
 .exact c.2.2 λe=>nomatch f.mpr e
 exact c.2.1<|f.mp rfl
def X8(i:a.V x b)(j:a.V e d)(c:M9 x e k):∃f,plainIs b d=true/\(b==d)=f/\k f:=by
 obtain _|_|_|_|_|_|_|_|m|_:=e<;>first|exact bO c|skip
 .rw[show d=_ from j];obtain _|_|_|_|_|_|_|_|h|_:=x<;>first|exact bO c|skip
  .exact J (show b=_ from i)<|⟨true,rfl,rfl,c⟩
  .obtain⟨_,rfl⟩:=i;exact⟨false,rfl,rfl,c⟩
  .obtain⟨_,_,rfl⟩:=i;exact⟨false,rfl,rfl,c⟩
  .obtain⟨_,_,_,_,rfl,_⟩:=i;exact⟨false,rfl,rfl,c⟩
  .obtain⟨_,rfl⟩:=i;exact⟨false,rfl,rfl,c⟩
  have:nh h=.ref h:=by unfold nh;exact J (eS<|gO.mpr c.1) rfl
  exact J (show b=_ from i)<|J this<|⟨false,rfl,rfl,c.2⟩
 obtain _|_|_|_|_|_|_|_|h|_:=x<;>first|exact bO c|skip
 rw[show b=_ from i,show d=_ from j];have l:∀{h},Nb h=true->h=1009\/h=1010:=λ{h} c=>(lY ..).mp c |>.imp ck ck
 obtain rfl|rfl:=l c.1<;>obtain rfl|rfl:=l c.2.1<;>exact⟨_,av,av,c.2.2⟩
def HW(i:lM a l h)(p:lM a m n)(c:DH x A h n k)(q:∀d b e f,k (x d b)->aE g.M j (J9 o (.int d e) (.int b f)) K E a.s)(r:∀d b e f,k (A d b)->aE g.M j (J9 o (.str (toS d) e) (.str (toS b) f)) K E a.s):aE g.M j (J9 o l m) K E a.s:=by
 obtain _|_|d|s|_|_:=h<;>first|exact bO c|skip
 .obtain⟨e,rfl⟩:=i;exact kX p c λb f c=>q d b e f c
 obtain⟨_,e,rfl⟩:=i;exact pM p c λb f U c=>r s b e f c
def Al(aU:d.units+4<xD)(l:a.V x e)(m:a.V f h)(j:jt o a.W x f k)(i:∀b,k b->K (.bool b) a.s):aE g.M d (J9 o e h) K E a.s:=by
 obtain _|_|_|_|_|_|_|_|_|_:=o
 .exact dm (YO aU l m j.1) λb v U s=>v _ _ _ _<|i _<|UT j s
 .exact dm (YO aU l m j.1) λb U w s=>w _ _ _ _<|i _<|UT (k:=λb=>k<|!b) j s
 .exact HW (c9 l) (c9 m) j (λn p q r c=>apA<|i _ c) λn p q r c=>apB<|i _ c
 .exact HW (c9 l) (c9 m) j (λn p q r c=>apz<|i _ c) λn p q r c=>P.le_str<|i _ c
 .exact HW (c9 l) (c9 m) j (λn p q r c=>apx<|i _ c) λn p q r c=>P.gt_str<|i _ c
 .exact HW (c9 l) (c9 m) j (λn p q r c=>apu<|i _ c) λn p q r c=>P.ge_str<|i _ c
 .exact dm (X8 l m j) λb t u c=>wpAny_is_plain t<|u▸i _ c
 .exact dm (X8 l m j) λb t u c=>wpAny_isNot_plain t<|u▸i _ c
 .exact ach (c9 l) (c9 m) j i
 exact bO j
def ji{o:Option w}{k:w->Prop}(a:opt o k):∃x,o=some x/\k x:=by
 obtain _|x:=o
 .exact bO a
 exact⟨x,rfl,a⟩
def OF{a:List w}{c:Int}{k:w->Prop}(d:opt (q_ a c) k):∃b x,iA c (H a)=some b/\a[b]?=some x/\k x:=by
 exact aG (ji d) λx e f=>aG (gi.mp e) λb ao aA=>⟨b,x,ao,aA,f⟩
def item_list{n:Int}(r:H b<=lim)(e:a.o f=some (eV h j))(c:a.b4 b h)(s:opt (q_ b n) λd=>Q d a.W)(t:dc a Q K):aE g.M k (xG (.ref f) (.int n l)) K E a.s:=by
 refine jN (OF s) λz d ao aA u=>aG (c.at_ aA) λv bL w=>iT (IF ao r) λp q x=>?_
 have fin:K v a.s:=eG t w u;obtain⟨i,m⟩|⟨i,m,y⟩:=x
 .exact wpAny_getItem_list (gI e) i (yu p q).2 (by rwa [gY,<-m]) fin
 exact wpAny_getItem_list_neg (gI e) i (J cK<|J c.cg<|m) (yu p q).1 (J cK<|J c.cg<|J gY<|bH y<|bL) fin
def afC(a:b=false)(k:d\/b=true):d:=k.elim id λe=>aW (a.symm.trans e) gX
def A0(a:b=true)(k:d\/b=false):d:=k.elim id λe=>aW (e.symm.trans a) gX
def HV(a:b=none)(k:d\/b.isNone=false):d:=A0 (E1.mpr a) k
def rj(a:b)(c):a=a\/c:=.inl rfl
def aw(c)(o a:aF):∃b,subscripted c false o a=operate b (xG o a):=by
 have d:∃b,operate [o,a] _=operate b (xG o a):=⟨_,rfl⟩;have e:∃b,operate [a,o] (xG o a)=operate b _:=⟨_,rfl⟩;obtain _|_|_|_|_|_|_|_|_|_|_|_|_|_|_|_|_|_|_|_|_|_|_|_|_|_|⟨_,_,_|_,_⟩:=c<;>first|exact d|exact e
def IV{a:aF}{h:String}(c:y.TypeIs o b)(i:Rt (.type b) "__getitem__"=pure (some (.builtin h)))(j:aE g.M d (xG o a) K E y):aE g.M d (Fe value f o a) K E y:=by
 refine ak ?_;refine J (getitemInPython_of_ne c.not_modules)<|ak<|zJ c i ?_;obtain⟨l,e⟩:=aw f o a;exact aK<|ak<|e▸Rz (fq j (λm n k=>ak<|aow<|aK k) λU U x=>x)
variable{i:aI}
def ab9{aA:aI}{m:Int}(n:lM a f h)(p:cT.casesOn h acc False no (λs=>opt (q_ s m) λc=>j (.str [c]) a.W) (λb=>opt (q_ b m) λd=>j d a.W) (λb=>opt (q_ b m) λd=>j d a.W))(v:dc a j K)(y:h=.kR->acc->aE g.M k (Fe i aA f (.int m l)) K E a.s):aE g.M k (Fe i aA f (.int m l)) K E a.s:=by
 have F:lim<2^62:=av;obtain _|_|_|s|b|b:=h<;>first|exact bO p|skip
 .exact y rfl p
 .obtain⟨q,z,rfl⟩:=n;refine jN (OF p) λx c i aA w=>iT (IF i q) λr t U=>IV (xJ a.s _ z) (slot_str_getitem.lookup)<|apv (c:=c) (by simpa using yu r t) ?_<|eG v (mj (s:=[c]) _ (by show 1<=lim;decide)) w
  rw[g9,i];show s.toArray[x]?=_;exact J gY<|aA
 .obtain⟨q,A,B,D,rfl,e,u⟩:=n;exact IV (gI e).typeIs aoj<|item_list q e u p v
 obtain⟨q,A,B,D,rfl,e,u⟩:=n;refine jN (OF p) λx d i aA w=>aG (u.at_ aA) λf bL n=>?_
 exact iT (IF i q) λr t U=>IV ⟨_,e,rfl⟩ (slot_tuple_getitem.lookup)<|apw (nq e) (yu r t).1 (yu r t).2 (J cK<|J u.cg<|i) (gY▸bL)<|eG v n w
def Oq(a)(b c st:Option Int):Rp a.toArray b c st=(pick a b c st).toArray:=by
 unfold Rp pick;simp only[cK,gY]
def Oo(c:a.b4 b d)(e f st:Option Int):a.b4 (pick b e f st) (pick d e f st):=by unfold pick;exact J c.cg<|c.pick _
def H6(f:a.b4 b d)(c e st:Option Int):(pick b c e st).length<=H b:=by
 have h:=kb d.toArray c e st;rwa [Oq,cK,cK,(Oo f c e st).cg,f.cg] at h
def DL(c:lM f b d)(a:part d k):∃e,xf b e/\k e:=by
 obtain _|_|g|_|_|_:=d<;>first|exact bO a|skip
 .exact⟨none,J (show b=_ from c)<|.none,a⟩
 obtain⟨h,rfl⟩:=c;exact⟨some g,.int g h,a⟩
def slice_list{aA:aI}{c st:Option Int}(q:H b<=lim)(e:a.o f=some (eV h n))(p:a.b4 b h)(r:a.s.heap.IsSliceOf eW j k l)(t:xf j c)(u:xf k d)(v:xf l st)(w:st≠some 0)(x:i_ a m K)(y:m (pick b c d st) a.W):aE g.M s (Fe i aA (.ref f) (.ref eW)) K E a.s:=by
 refine IV (gI e).typeIs aoj<|wpAny_getItem_list_slice (gI e) r t u v w ?_<|J cK<|J p.cg<|gq q;exact J (Oq ..)<|yP x (az (H6 p ..) q) (Oo p c d st) y
structure l_(A:fY)(k:Nat):Prop where
 h:A.handled=none
 d:A.depth+3*k+10<Kd
 u:A.units+10*k+50<xD
structure oN(A:fY)(k:Nat):Prop where
 h:A.handled=none
 d:A.depth+3*k+12<Kd
 u:A.units+10*k+57<xD
structure vD{g:G}(a:aL g)(ks:oS)(nt:List (Str×aF)):Prop where
 n:nt.map (·.1)=ks.map (·.1)
 v:a.b4 (ks.map (·.2)) (nt.map (·.2))
def oQ(c:G)(k:fY)(d:List Env)(l:aF)(m:Call):Prop:=∀(a:aL c) (as:List D) (f:oS) (g:List aF) (h:List (Str×aF)) (i:Ok D) (j:er) (b:Result->bf->Prop),
 d_ a d->a.b4 as g->vD a f h->m as f a.W i j->dc a i (λn s=>b (.ok<|.ret n) s)->gj a d j (λe s=>b (.error e) s)->nQ c.M k (.call l ⟨g,h⟩) b a.s
def ic(b)(j:fY)(c:List Env)(k:aF)(first:List aF)(l:Call)(m:aL b):Prop:=∀(a:aL b) (as:List D) (d:oS) (e:List aF) (f:List (Str×aF)) (g:Ok D) (h:er) (i X:aF->bf->Prop),
 lJ m a->d_ a c->a.b4 as e->vD a d f->l as d a.W g h->dc a g i->gj a c h X->aE b.M j (call k (first++e) f) i X a.s
def oO(d:G)(e:b3)(k:Nat):Prop:=∀(a:Nat) (b:fY) (c:List Env),a<1000->b.frames=some c->l_ b k->oQ d b c (.ref a) (e a)
structure b5(g:G) where
 A:fY
 env:Env
 ns:List Str
 lT:Str->Bool
 fr:List Env
 k:Nat
 cf:b3
 qT:A.frames=some fr
 aU:oN A k
 qR:oO g cf k
 fn:env.scope.kind=.function
 gl:env.globals=l8
 Ag:env.builtins=oK
 wg:ns.Nodup
 ne:∀x p,x∈ns->kM (env.kindOf x)=true->env.cells.lookup x=some p->p≠env.locals
 ap:∀x y p,x∈ns->y∈ns->kM (env.kindOf x)=true->kM (env.kindOf y)=true->env.cells.lookup x=some p->env.cells.lookup y=some p->x=y
def b5.own(a:b5 b)(x:bG):Prop:=x=a.env.locals\/∃c∈a.ns,a.lT c=true/\a.env.kindOf c=some .cell/\a.env.cells.lookup c=some x
def b5.pI(a:b5 b)(x:Str):Prop:=lD (a.env.kindOf x)=true/\a.lT x=true
def b5.all(a:b5 b)(x:bG):Prop:=x=a.env.locals\/∃c∈a.ns,kM (a.env.kindOf c)=true/\a.env.cells.lookup c=some x
def KG(a:b5 b)(d:aL b)(h:List D)(e:Str->Option aF):Prop:=d.s.heap.Ns a.env.locals e/\∀(f:Nat) x c,a.ns[f]?=some x->h[f]?=some c->a.env.kindOf x=some .local->c≠.ai->∃g,e x=some g/\d.V c g
def k5(f:b5 b)(a:aL b)(g:List D)(h:Nat)(x:Str)(c:bG)(o:Option aF):Prop:=f.env.cells.lookup x=some c/\a.s.heap.IsCell c o/\a.c.Fr c/\∀d,g[h]?=some d->d≠.ai->∃e,o=some e/\a.V d e
structure bQ{g:G}(Γ:b5 g)(a:aL g)(r:List D):Prop where
 len:r.length=Γ.ns.length
 lf:a.c.Fr Γ.env.locals
 loc:∃m,KG Γ a r m
 lg:∀(i:Nat) x,Γ.ns[i]?=some x->kM (Γ.env.kindOf x)=true->∃p o,k5 Γ a r i x p o
 ok:d_ a Γ.fr
def vJ:a.V .none .none:=rfl
def tY(b):a.V (.bool b) (.bool b):=rfl
def lK.data(a:lK o d):∃b,d=some b/\b.data=o.data:=a.elim λeW a=>⟨_,a.1,rfl⟩
def Sh{a c:e9}(f:a.Ns b d)(k:∀o,a.get? b=some o->lK o (c.get? b)):c.Ns b d:=by
 exact kc f λo g h i j l=>aG ((k o i).data) λm e n=>⟨m,g,h,e,n.trans j,l⟩
def la{a c:e9}(f:a.IsCell b d)(k:∀o,a.get? b=some o->lK o (c.get? b)):c.IsCell b d:=by
 exact aG f λo g h=>aG ((k o g).data) λi e j=>⟨i,e,j.trans h⟩
def d_.le(l:d_ d b)(x:bJ f d h)(m:∀j∈jH b,¬f j):d_ h b:=λc g=>by
 obtain⟨n,a,o,p,q,i,k,r,b⟩:=l c g;exact aG ((x.keep a o b (m a<|ve.mpr ⟨c,g,i⟩) k).data) λs e t=>⟨n,a,s,p,q,i,e,t.trans r,x.fr a b<|dJ k⟩
variable{r:List D}
def bQ.Eu(c:bQ b h r)(x:bJ j h f)(s:∀d,b.all d->¬j d)(ok:d_ f b.fr):bQ b f r where
 len:=c.len
 lf:=x.fr _ c.lf (c.loc.elim λU a=>a.1.lt)
 loc:=c.loc.elim λt a=>⟨t,Sh a.1 λo e=>x.keep _ o c.lf (s _<|.inl rfl) e,λm i n k l p q=>(a.2 m i n k l p q).imp λu g=>⟨g.1,eZ.mono x.le g.2⟩⟩
 lg:=λm i k l=>(c.lg m i k l).imp λd a=>a.imp λo a=>⟨a.1,la a.2.1 λo e=>x.keep _ o a.2.2.1 (s _<|.inr ⟨i,eU k,l,a.1⟩) e,x.fr _ a.2.2.1 a.2.1.lt,λn p q=>(a.2.2.2 n p q).imp λu g=>⟨g.1,eZ.mono x.le g.2⟩⟩
 ok:=ok
def bQ.to(c:bQ b d r)(x:lJ d e):bQ b e r:=c.Eu x (λU U a=>a) (c.ok.le x λU U a=>a)
def cD(c:b5 b)(e:aI)(i:eY D):Prop:=∀(a:aL b) (d:List D) (f:Ok D) (g:er) (h X:aF->bf->Prop),bQ c a d->i d a.W f g->dc a f h->gj a c.fr g X->aE b.M c.A (eval e c.env) h X a.s
def St(a:b5 b)(e:aI)(i:eY Bool):Prop:=∀(c:aL b) (d:List D) (f:Ok Bool) (g:er) (h:Bool->bf->Prop) (X:aF->bf->Prop),bQ a c d->i d c.W f g->vC c f h->gj c a.fr g X->aE b.M a.A (Rg e a.env<|eval e a.env) h X c.s
def z5(c:b5 b)(e:aI)(i:eY (List D)):Prop:=∀(a:aL b) (d:List D) (f:Ok (List D)) (g:er) (h X:aF->bf->Prop),bQ c a d->i d a.W f g->i_ a f h->gj a c.fr g X->aE b.M c.A (eval e c.env) h X a.s
def m5(c:b5 b)(d:List aI)(i:List bB):Prop:=∀(pos:Pos) (a:aL b) (e:List D) (f:Ok (List D)) (g:er) (h:List aF->bf->Prop) (X:aF->bf->Prop),bQ c a e->gc i e a.W f g->Ci a (H d) f h->gj a c.fr g X->aE b.M c.A (spliced<|tP pos<|qx d c.env) h X a.s
def qW(e:aI):Bool:=(isTup e).isSome
structure qA(g:G)(A:fY)(pJ:aI)(ok:aN->Prop)(S:List bG)(I:bG)(T:List D->aL g->Prop):Prop where
 item:∀(b:aL g) (d:D) (l:List D) (K X:aF->bf->Prop),T (d::l) b->(∀(dX:aL g) (v:aF),bJ (· ∈S) b dX->dX.W=b.W->dX.V d v->T l dX->K v dX.s)->
  aE g.M A (qw<|.ref I) (λr Er=>∃v,r=some v/\aE g.M A (rP pJ (.ref I) v) (λU lE=>K v lE) X Er) X b.s
 done:∀(b:aL g) (K:Option aF->bf->Prop) (X:aF->bf->Prop),T [] b->(∀dX:aL g,bJ (· ∈S) b dX->dX.W=b.W->K none dX.s)->aE g.M A (qw<|.ref I) K X b.s
 keep:∀(b dX:aL g) (l:List D) (ch:bG->Prop),T l b->bJ ch b dX->(∀x∈S,¬ch x)->(dX.W=b.W\/ok dX.W)->T l dX
 self:∀(b:aL g) (l:List D) (K X:aF->bf->Prop),T l b->K (.ref I) b.s->aE g.M A (qv<|.ref I) K X b.s
structure Sn{g:G}(tp:Bool)(a:aL g) extends cM a where
 I:bG
 l:List D
 ok:aN->Prop
 S:List bG
 T:List D->aL g->Prop
 o6:∀zK pJ,zK.handled=none->(tp=true->qW pJ=true)->qA g zK pJ ok S I T
 st:T l toaL
 new:∀x∈S,a.aC<=x
 old:∀x∈S,x<toaL.aC
abbrev k8(a:Bool)(c:aL b)(k:xR)(d:aF->bf->Prop):Prop:=∀x:Sn a c,k x.l x.ok x.W->d (.ref x.I) x.s
def xX(a:b5 b)(e:aI)(i:Bool->List D->aN->xR->er->Prop):Prop:=∀(d:Bool) (c:aL b) (f:List D) (k:xR) (g:er) (h X:aF->bf->Prop),bQ a c f->i d f c.W k g->k8 d c k h->gj c a.fr g X->
 aE b.M a.A (eval e a.env) (λx s=>aE b.M a.A (qv x) h X s) X c.s
structure cH{g:G}(Γ:b5 g)(e:aI)(m:bB):Prop where
 v:cD Γ e m.v
 t:St Γ e m.t
 i:xX Γ e m.i
def cH.no:cH b i stM:=⟨λU U U U U U U a=>bO a,λU U U U U U U a=>bO a,λU U U U U U U U a=>bO a⟩
def cH.gm(a:b=true->cH d i e):cH d i (gm b e):=by
 obtain _|_:=b
 .exact cH.no
 exact a rfl
def aj7(a:H x.cps.toList<=lim):cD b (.Constant (.str x) k pos) (lN (.str x.cps.toList)):=λf g h i j X l c e m=>amv<|eG (d:=.str x.cps.toList) e ⟨a,_,rfl⟩ c
def Lu(a:qK b d):b≠.ai/\d:=by
 obtain _|_|_|_|_|_|_|_|_|_:=b<;>first|exact⟨D.noConfusion,a⟩|skip
 exact bO a
def Nh{ns:List Str}(a:ns.contains x=true):ns[kQ x ns]?=some x:=by
 induction ns with
 |nil=>contradiction
 |cons b ns c=>
  show _[bif b==x then 0 else kQ x ns+1]?=_;rcases e:b==x with _|_
  .refine c ?_;rw[am7,lY] at a;exact a.resolve_left λd=>by rw[ck d,beq_self_eq_true] at e;contradiction
  exact aZ some<|ck e
def ala(a:tg x=true):x=some .local\/x=some .cell\/x=some .free:=by
 unfold tg at a;rw[lY,lY] at a;exact a.elim (λa=>a.elim (λa=>.inl<|ck a) λa=>.inr<|.inl<|ck a) λa=>.inr<|.inr<|ck a
variable{z:b5 g}
def HH(j:bQ z a r)(k:z.ns[N]?=some x) (c:tg (z.env.kindOf x)=true) (p:(x==("__classdict__":Str))=false) (l:r[N]?=some d) (m:d≠.ai) (i:∀b,a.V d b->K b a.s):aE g.M f (E8 z.env x) K E a.s:=by
 obtain c|c:=ala c
 .exact aG j.loc λw q s=>aG (s N x d k l c m) λb e h=>xN z.fn c q e<|i b h
 have t:kM (z.env.kindOf x)=true:=by obtain c|c:=c<;>rw[c]<;>rfl
 refine x9 (j.lg N x k t) λy o e n U u=>?_
 refine aG (u d l m) λb v h=>?_;subst v
 obtain c|c:=c
 .exact wpAny_loadName_cell z.fn c e n<|i b h
 exact aox z.fn c e n (i b h) p
def aj9(c:b.ns[N]?=some x) (d:tg (b.env.kindOf x)=true) (f:(x==("__debug__":Str))=false) (g:(x==("__classdict__":Str))=false):cD b (.Name x pos) (L2 N):=λk l m n p X h a i q=>by
 exact aG (ji a) λr e a=>nR (HH h c d g e (Lu a).1 λs j=>eG i j (Lu a).2) f
def wN(c:(isStar i).isNone=true)(a):qx (i::b) a=(false,eval i a)::qx b a:=A0 c (by rcases i<;>first|exact rj _ _|exact .inr rfl)
def Pz:m5 b [] []:=λpos a f g h i X j c d k=>u9<|d ⟨⟨a,bJ.same rfl rfl (λU U U U e=>.ff e) (aS _) rfl rfl⟩,[],[],rfl⟩ rfl c
def Py(k:(isStar i).isNone=true)(l:cD b i d.v)(m:m5 b e f):m5 b (i::e) (d::f):=λpos n g s t u X h p q j=>by
 exact J (wN k ..)<|rH<|l n g _ _ _ _ h p (λx c=>m pos x.toaL g _ _ _ _ (h.to x.le) c (λa r c=>q ⟨⟨a.toaL,x.le.bS a.le⟩,x.v::a.v,x.d::a.d,x.bw.to a.le,a.bw⟩ (aZ xA r) c)<|j.le x.le) j
def aj8(c:H b<=1000)(g:m5 d b e):cD d (.Tuple b f pos) (L1 e):=λh i q r s X j k l m=>
 J3 (g pos h i _ _ _ _ j k (λx n p=>by
  have a:H x.d<=lim:=J n<|iL c rfl;exact l9 (ahT (l.le x.le) a x.bw p) (by show x.v.toArray.size<=j9;exact J cK<|J x.bw.cg<|gq a)) m)
def aka(c:H b<=1000)(f:m5 d b e):z5 d (.List b pos) (gc e):=λg h p q r X i j k l=>
 List_ (f pos g h _ _ _ _ i j (λx m n=>by
  have a:H x.d<=lim:=J m<|iL c rfl;exact l9 (yP (k.le x.le) a x.bw n) (by show x.v.toArray.size<=j9;exact J cK<|J x.bw.cg<|gq a)) l)
def ajW{aA:aI}(j:cD b i d.v)(k:cD b aA e.v):cD b (.BinOp i o aA pos) (LP o d e):=λl f p q r X g m n h=>
 Ru (j l f _ _ _ _ g m (λx a=>k x.toaL f _ _ _ _ (g.to x.le) a (λc a=>tr (x.bw.to c.le) c.bw a<|(n.le x.le).le c.le)<|h.le x.le) h)
def aj_{aA:aI}(j:cD b i d.v)(k:cD b aA e.v):z5 b (.BinOp i .Add aA pos) (LR d e):=λl f r s t X g m n h=>
 Ru (j l f _ _ _ _ g m (λx a=>k x.toaL f _ _ _ _ (g.to x.le) a (λc a=>by
  exact s9 (c9 (x.bw.to c.le)) a λu v w y U i p a=>s9 (c9 c.bw) a λz A B D U aA q a=>S2 i aA p q ((n.le x.le).le c.le) a) (h.le x.le)) h)
def aj5(c:cD b i d.v):cD b (.UnaryOp .USub i pos) (LX d):=λe f l m n X g h j k=>
 UnaryOp_ (c e f _ _ _ _ g h (λx a=>by
  exact kX (c9 x.bw) a λp q a=>apE (eG (j.le x.le) (kL _ _) a)) k)
def b5.units(a:b5 b):a.A.units+4<xD:=Ll a.aU.u rfl
def ajY{aA:aI}(p:ih o aA=false)(q:cD d i j.v)(r:cD d aA k.v):cD d (.Compare i [o] [aA] pos) (λb l f h=>IX o j k b l (λe m=>f (.bool e) m) h):=λs b f h v X g t u n=>
 wpAny_Compare1 (q s b _ _ _ _ g t (λx a=>r x.toaL b _ _ _ _ (g.to x.le) a (λc a=>Al d.units (x.bw.to c.le) c.bw a λe a=>eG ((u.le x.le).le c.le) (tY e) a)<|n.le x.le) n) p
def aji{aA:aI}(j:ih o aA=false)(k:cD b i d.v)(l:cD b aA e.v):St b (.Compare i [o] [aA] pos) (IX o d e):=λm f q r s X g n p h=>
 wpAny_isTrue_Compare1 (k m f _ _ _ _ g n (λx a=>l x.toaL f _ _ _ _ (g.to x.le) a (λc a=>Al b.units (x.bw.to c.le) c.bw a λt a=>B7<|ON ((p.le x.le).le c.le) a)<|h.le x.le) h) j
def ajZ{aA bL:aI}(v:i4 [o,f] [aA,bL]=false)(w:cD b i k.v)(y:cD b aA l.v)(z:cD b bL m.v):cD b (.Compare i [o,f] [aA,bL] pos) (λd n h j=>IY o f k l m d n (λe s=>h (.bool e) s) j):=λr d h j t X g A B p=>by
 show aE _ _ (do compareChain pos (<-eval i b.env) [o,f] _) t X r.s;refine J (markedEach_of_false _ _ _ v)<|ak<|w r d _ _ _ _ g A (λx a=>?_) p;refine ak<|fT<|y x.toaL d _ _ _ _ (g.to x.le) a (λc a=>ak<|j_<|ak<|fT (Al b.units (x.bw.to c.le) c.bw a λe a=>ak ?_))<|p.le x.le;refine kA<|ak<|fT<|B7 ?_;have u:=(B.le x.le).le c.le;obtain _|_:=e
 .exact aK<|eG u (tY _) a
 show aE _ _ (do
  let D<-holding [c.v] _
  vq pos
  operate [c.v,D] _) t X c.s
 exact ak<|fT<|z c.toaL d _ _ _ _ ((g.to x.le).to c.le) a (λq a=>ak<|j_<|Rz (Al b.units (c.bw.to q.le) q.bw a λe a=>eG (u.le q.le) (tY e) a))<|(p.le x.le).le c.le
def ajj{aA bL:aI}(q:i4 [o,d] [aA,bL]=false)(r:cD b i e.v)(s:cD b aA f.v)(t:cD b bL h.v):St b (.Compare i [o,d] [aA,bL] pos) (IY o d e f h):=λu g A B v X j w y k=>by
 refine isTrue_chain (r u g _ _ _ _ j w (λx a=>?_) k) q;refine ak<|fT<|s x.toaL g _ _ _ _ (j.to x.le) a (λc a=>ak<|j_<|ak<|fT (Al b.units (x.bw.to c.le) c.bw a λm a=>ak ?_))<|k.le x.le;refine kA<|ak<|fT<|B7 ?_;have n:=(y.le x.le).le c.le;obtain _|_:=m
 .exact aK<|ON n a
 show aE _ _ (do
  let z<-holding [c.v] _
  vq pos
  let p<-operate [c.v,z] _
  holding [p] (truthy p)) v X c.s
 exact ak<|fT<|t c.toaL g _ _ _ _ ((j.to x.le).to c.le) a (λl a=>ak<|j_<|ak<|Rz (Al b.units (c.bw.to l.le) l.bw a λm a=>fT<|B7<|ON (n.le l.le) a))<|(k.le x.le).le c.le
section
open Builtin Builtin.ObjectAttr Builtin.Getset_descriptor
def zT(a:jD)(b:bG):Prop:=gZ a (.ref b) "__getattribute__"=some (some<|.builtin "object.__getattribute__")\/
 (gZ a (.ref b) "__getattribute__"=some (some<|.builtin "list.__getattribute__")/\Fd a (.ref b) (.type "list")=some true)
variable{t:jD}
def DK{c:String}{rest:List aF}(X:t.In y.heap)(I:InstAt y.heap x s h A)(z:Fd t (.ref h) (.type "list")=some true)(B:E2 "list" name c)(q:splitId c=some ("list",n))(D:(hQ "list").bind (·.attrs.lookup n)=some .slot\/(hQ "list").bind (·.attrs.lookup n)=some .method)(E:BX table c=some j)(g:zz c ⟨.ref x::rest,[]⟩)(r:aE (model e f) k.in1 (j ⟨.ref x::rest,[]⟩) (λfin d=>∃b,fin=.done (.ret b)/\l b d) m y):
 aE (model e f) k (call (.builtin c) (.ref x::rest)) l m y:=by
 have v:Ra c=(hQ "list").bind (·.attrs.lookup n):=by simp only[Ra,q]
 refine pX<|aoc B.plain E ?_;have w:fD (model e f) y.heap (tQ _ _) true:=I.type.andThen<|i5 X z;obtain u|u:=D
 .exact il (v.trans u) q w g (fq r (λfin d a=>by refine aG a λb i p=>?_;subst i;exact p) λU U a=>a)
 unfold aoa;rw[v,u,q];refine ak<|w.here<|wn av ?_;unfold zz at g;rcases F:QZ c with _|sig
 .exact aK (fq r (λfin d a=>by refine aG a λb i p=>?_;subst i;exact p) λU U a=>a)
 rw[F] at g;have g:Ju c sig ⟨.ref x::rest,[]⟩=pure ():=g;show aE _ _ (Ju c sig _) _ _ y;exact J g<|aK (fq r (λfin d a=>by refine aG a λb i p=>?_;subst i;exact p) λU U a=>a)
def acc_open(X:t.In y.heap)(I:InstAt y.heap x m e s)(c:gZ t (.ref e) "__getattribute__"=some (some (.builtin "list.__getattribute__")))(g:Fd t (.ref e) (.type "list")=some true)(i:gZ t (.ref e) "__getattr__"=some none)(p:aE (model b d) h.in1 (Builtin.«object.__getattribute__» ⟨[.ref x,.str name y.toks],[]⟩) (λfin j=>∃f,fin=.done (.ret f)/\aE (model b d) h (handedOut f) k l j) (λU U=>False) {y with toks:=y.toks+1}):
 aE (model b d) h (Rc (.ref x) name A) k l y:=by
 obtain⟨u,v,w,z,B⟩:=y;have q:=I.type (M:=model b d);have r:=mU (M:=model b d) X i;refine ak<|kv<|fT<|ak<|q.at<|ak<|(mU (M:=model b d) X c).at ?_;unfold getAttrByItsOwn hookBefore callGetattribute boundAndCalled;refine ak<|r.at ?_;refine ak<|xK<|fT ?_;refine J (cE (by rw[show onTheHeap _=false from rfl,zc];decide))<|ak<|tS (amK.bind _) ?_;exact fq (DK (n:="__getattribute__") X I g amK bC (.inl bC) F.entry_list_ga (F.args_list_getattribute_2 _ _) p) (λf j a=>a) λU U a=>a.elim
def Vy(X:t.In y.heap)(I:InstAt y.heap x k b h)(a:zT t b)(p:gZ t (.ref b) "__getattr__"=some none)(c:ix t b h name=some (.value d))(g:J' d=true)(i:j d {y with toks:=y.toks+1}):aE (model e f) l (Rc (.ref x) name m) j n y:=by
 obtain a|⟨a,q⟩:=a
 .exact get_value X I a c g i
 refine acc_open X I a q p ?_;obtain⟨r,s,u,v,w⟩:=y;refine ak<|aK ?_;refine ak<|aK<|ak<|(I.type (M:=model e f)).at<|ak<|(looks_find (M:=model e f) X I c).at<|aK ⟨d,rfl,?_⟩;exact J (handedOut_of g)<|aK i
def aaF(X:t.In y.heap)(I:InstAt y.heap x A b k)(c:zT t b)(g:ix t b k name=some (.bind l m))(i:gZ t (.ref b) "__getattr__"=some none)(p:aE (model d e) h.in1 (call l [m,.ref x,.ref b]) (λf j=>aE (model d e) h (handedOut f) n s j) (λU U=>False) {y with toks:=y.toks+1}):
 aE (model d e) h (Rc (.ref x) name B) n s y:=by
 obtain c|⟨c,q⟩:=c
 .exact get_bind X I c g i (fq p (λU U a=>a) λU U a=>a.elim)
 refine acc_open X I c q i ?_;obtain⟨r,u,v,w,z⟩:=y;refine ak<|aK ?_;refine ak<|aK<|ak<|(I.type (M:=model d e)).at<|ak<|(looks_find (M:=model d e) X I g).at ?_;exact ak<|fT (fq p (λf j a=>aK ⟨f,rfl,a⟩) λU U a=>a)
def Vt(c:zT t d):∃b,gZ t (.ref d) "__getattribute__"=some (some (.builtin b))/\(Manifest.canonical b !="object.__getattribute__")=false:=by
 obtain a|⟨a,_⟩:=c
 .exact⟨_,a,PySem.F.canon_object_ga⟩
 exact⟨_,a,bC⟩
def aeI(X:t.In y.heap)(I:InstAt y.heap x h b d)(g:zT t b)(i:gZ t (.ref b) "__getattr__"=some none)(p:gZ t (.ref b) name=some (some (.ref f)))(q:B5 t (.ref f)=some (.type "function"))(r:j' d name=some false)(c:j (.ref f,[.ref x]) y):
 aE (model k l) m (vn (.ref x) name n) j s y:=by
 refine aG (Vt g) λA u v=>ak<|ak<|I.type.here<|(mU X u).here ?_
 dsimp only
 refine J v<|ak<|ak<|I.type.here<|(mU X i).here ?_;refine ak<|ak<|I.type.here<|(mU X p).here<|ak<|(looks_typeIn X q).here ?_;refine J (cE bC)<|ak<|zI I.at_ ?_;have a:=I.dict;rcases e:h.dict with _|B
 .exact ak<|mV<|aK c
 obtain _|o:=d
 .rw[e] at a;exact a.elim
 rw[e] at a;refine aG (iQ.mp r) λD w z=>ak<|ak<|zI a ?_
 refine J (nsLook_of w)<|aK ?_;exact J z<|ak<|mV<|aK c
end
section
open Builtin Builtin.ObjectAttr Builtin.Getset_descriptor
def Rep.set(a:Rep j d f h)(t:o≠.tab)(q:d.w k=some b)(r:f[b]?=some o) (i:j6 k h l) (u:k9 j.w.params d (H f) l b m):Rep j d (f.set b m) l where
 cG:=λx n e=>(i.2 x λg=>by rw[g,(a.own k b q).1] at e;contradiction).trans<|a.cG x n e
 base:=a.base
 objs:=λc n e=>by
  rw[gM];by_cases p:b=c
  .subst p;rw[vd<|jw r] at e;exact bY e▸u
  rw[nL p] at e;exact k9.keep ⟨λU U h=>h,λU U=>rfl,aS _⟩ (jw e) (λx w s v=>⟨s,(i.2 x λg=>p<|bY<|q.symm.trans<|g▸s).trans v⟩)<|a.objs c n e
 own:=λx c e=>⟨(a.own x c e).1,by rw[gM];exact(a.own x c e).2.1,by rw[i.1];exact(a.own x c e).2.2⟩
 kC:=by
  rw[nL λg=>t (by subst g;exact bY<|r.symm.trans a.kC)];exact a.kC
noncomputable def aL.turn(a:aL g){o o':bI}(f:o≠.tab)(d:a.c.w c=some N)(h:a.W[N]?=some o) {s':bf} (b:j6 c a.s.heap s'.heap) (i:s'.gens=a.s.gens) (j:s'.os=a.s.os) (k:k9 g.w.params a.c (H a.W) s'.heap N o'):cM a where
 c:=a.c
 W:=a.W.set N o'
 s:=s'
 R:=a.R.set f d h b k
 le:=bJ.same rfl gM (λx m l U e=>.ff<|(b.2 x (l.nw d).symm).trans e) (di b.1.symm) i j
def lP(k:Nat):Prop:=(gU.lookup k).isSome=true
structure gP(g:G):Prop where
 get:∀k,lP k->zT g.K k/\gZ g.K (.ref k) "__getattr__"=some none
 dict:∀k,lP k->Rd g.K k=true
 HP:∀k x,lP k->qe x->gZ g.K (.ref k) x=some none
 setattr:∀k,lP k->gZ g.K (.ref k) "__setattr__"=some (some<|.builtin "object.__setattr__")
 mro:∀k,lP k->∃cd,E6 g.K k=some cd/\cd.mro=bif k==236 then[.ref k,.type "list",.type "object"] else[.ref k,.type "object"]
 N6:∀k x f,mK.lookup (k,x)=some f->gZ g.K (.ref k) x=some (some<|.ref f)/\B5 g.K (.ref f)=some (.type "function")/\B0 g.K (.ref f)=true/\f<1000/\¬qe x
 keep:∀n∈je,B0 g.K (.ref n)=true/\n<1000
 WM:∀n,lP n->B0 g.K (.ref n)=true/\n<1000
 sub:Fd g.K (.ref 236) (.type "list")=some true
 Od:noSeq g.K 236=true
 Mz:gZ g.K (.ref 236) "__getitem__"=some (some<|.builtin "list.__getitem__")
 ZF:gZ g.K (.ref 236) "__setitem__"=some (some<|.builtin "list.__setitem__")
 iter:gZ g.K (.ref 236) "__iter__"=some (some<|.builtin "list.__iter__")
 append:gZ g.K (.ref 236) "append"=some (some<|.builtin "list.append")
 len:gZ g.K (.ref 236) "__len__"=some (some<|.ref 203)/\B5 g.K (.ref 203)=some (.type "function")
 str:gZ g.K (.ref 236) "__str__"=some (some<|.ref 210)/\B5 g.K (.ref 210)=some (.type "function")
 bool:gZ g.K (.ref 236) "__bool__"=some none
def gG.refs:∀{b:List pP},gG f h N d b->b.any (·.refKey)=false:=by
 induction d with
 |nil=>exactλ{b} a=>J (show b=[] from a) rfl
 |cons i d c=>
  intro b a;obtain _|⟨e,b⟩:=b
  .exact bO a
  obtain⟨_,⟨j,_,g⟩,_,a⟩:=a;rw[xh,c a];unfold DictEntry.refKey;exact J g rfl
def aaC{e:pP}(a:e.key.isStr d=false)(c:b.any (·.refKey)=false)(f:(e::b).any (·.refKey)=false):getL d (e::b)=getL d b:=by unfold getL;exact J BG<|J a<|J c<|J f rfl
def gG.look:∀{b:List pP},gG l k N f b->(f.lookup d=none/\getL d b=some none)\/∃h j,f.lookup d=some h/\getL d b=some (some j)/\eZ k N h j:=by
 induction f with
 |nil=>exactλ{b} a=>.inl ⟨rfl,J (show b=[] from a) rfl⟩
 |cons c f m=>
  intro b a;obtain _|⟨e,b⟩:=b
  .exact bO a
  have n:=gG.refs a;obtain⟨_,⟨r,_,p⟩,q,a⟩:=a;have g:e.key.isStr d=(d==c.1):=J p<|Bool.beq_comm;rw[nM];rcases i:d==c.1 with _|_
  .exact J (aaC (g.trans i) (gG.refs a) n)<|m a
  exact .inr ⟨_,_,rfl,(by unfold getL;exact J BG<|J (g.trans i) rfl),q⟩
def gG.put{t}(i:qe b)(m:eZ h N l j):∀{d:List pP},gG k h N f d->gG k h N (lC f b l) (putL b (J1 k b) (.str b t) j d):=by
 induction f with
 |nil=>exactλ{d} a=>J (show d=[] from a)<|⟨i,⟨t,rfl,rfl⟩,m,rfl⟩
 |cons c f q=>
  intro d a;obtain _|⟨e,d⟩:=d
  .exact bO a
  obtain⟨r,⟨n,p,g⟩,s,a⟩:=a;have u:e.key.isStr b=(c.1==b):=J g rfl;show gG k h N (bif c.1==b then _::f else c::lC f b l) (if e.key.isStr b=true then⟨e.hash,e.key,j⟩::d else e::putL b _ _ j d);rw[u];rcases v:c.1==b with _|_
  .exact⟨r,⟨n,p,g⟩,s,q a⟩
  have ao:=ck v;exact⟨i,⟨n,ao▸p,ao▸g⟩,m,a⟩
def aiw(a)(b)(d):(lC a b d).length<=H a+1:=by
 induction a with
 |nil=>exact aS _
 |cons c a e=>
  show(bif c.1==b then _::a else c::lC a b d).length<=_;obtain _|_:=c.1==b
  .exact iI e
  exact gy _
def gG.len:∀{b:List pP},gG f h N d b->H b=H d:=by
 induction d with
 |nil=>exactλ{b} a=>J (show b=[] from a) rfl
 |cons g d c=>
  intro b a;obtain _|⟨e,b⟩:=b
  .exact bO a
  exact aZ xA<|c a.2.2.2
def gG.aeh(a:gG d e N f b):(getL h b).isSome=true:=by
 obtain a|⟨_,_,_,a,_⟩:=gG.look a
 .exact J a.2 rfl
 exact J a rfl
def gG.qe:∀{b:List pP},gG h j N d b->¬qe f->d.lookup f=none:=by
 induction d with
 |nil=>exactλU U=>rfl
 |cons g d i=>
  intro b a c;obtain _|⟨e,b⟩:=b
  .exact bO a
  rw[nM,show(f==g.1)=false from jO λk=>c<|k▸a.1];exact i a.2.2.2 c
def aeL(e:gP d)(f:lP k):∃b,E6 d.K k=some b/\(∀self,refuseLoop self "__setattr__" b.mro=pure ())/\b.mro.isEmpty=false/\b.mro.contains (.type "object")=true/\b.hasDict=true:=by
 refine aG (e.mro k f) λb g a=>?_
 have c:=e.dict k f;unfold Rd at c;rw[g] at c;refine⟨b,g,?_,?_,?_,c⟩
 .intro self;rw[a];obtain _|_:=k==236
  .exact(aon ..).trans au
  exact(aon ..).trans au
 .rw[a];cases k==236<;>rfl
 rw[a];cases k==236<;>simp
set_option tactic.hygienic true in
def afG{p:List pP}(B:gP b)(w:lP k)(X:b.K.In y.heap)(I:InstAt y.heap x n k (some l))(E:n.dict=some d)(G:gZ b.K (.ref k) name=some none)(g:(Rj name l).isSome=true)(e:anY name (J1 b.w.params name) (.str name y.toks) f l=j)(r:j.data=.dict p.toArray A)(K:H p<=1000)(D:y.heap.get? d=some l)(h:∀m,m.get? d=some j->j6 d y.heap m->s (.ok (.ret .none)) {y with heap:=m,toks:=y.toks+1}):
 nQ b.M F (.call (.builtin "object.__setattr__") ⟨[.ref x,.str name tk,f],[]⟩) s y:=by
 refine SK (aeL B w) λL i M ne N O=>?_
 have a:=PySem.F.store_object;have sub:fD b.M y.heap (tQ _ _) true:=I.type.andThen<|Rl X (by unfold Rm;exact J i<|J (Q6 ..)<|J (cE (by rw[ne];decide))<|J N rfl);refine aoc a.slot.plain a.entry<|@il b.M _ _ y "object.__setattr__" "object" "__setattr__" _ [.str name tk,f] [] _ a.kind a.split sub (a.args _ _ f) ?_;have P:fD b.M y.heap (E9<|.ref k) L.mro:=(Rk X i).andThen .now;have Q:fD b.M y.heap (storeTaker? none) none:=.now;refine J (osa_eq ..)<|J (refuse_eq ..)<|ak<|ak<|I.type.here<|ak<|P.here ?_;refine J (M ..)<|aK<|ak<|I.type.here<|ak<|(mU X G).here<|ak<|Q.here ?_;obtain⟨R,S,iu,-⟩:=I;obtain⟨jU,V,W,Y⟩:=n;subst S E;refine ak<|aK<|ak<|ak<|zI R<|ak<|(Rk X i).here ?_;refine J O<|aK<|ak<|aK<|ak ?_;refine ak<|ak<|km<|aK<|ak<|kv<|ak<|zI D ?_;unfold Rj at g;split at g
 .rename_i t ao4 q;rw[q]
  dsimp only
  have c:(!t.any (·.key.isStr name)&&t.any (·.refKey))=false:=by
   rw[<-amd,<-amd];split at g
   .rename_i T u;exact J (hj.mpr ⟨T,anl u,List.find?_some u⟩) rfl
   split at g
   .contradiction
   rename_i z;rw[fe] at z;exact J z<|J (zc ..) rfl
  rw[aRefKeyMayBeTheName_at,c];have v:(y.heap.update d<|anY name (J1 b.w.params name) (.str name y.toks) f).get? d=some j:=by
   rw[JB _ D (by rw[e];obtain⟨_,_,Z,_⟩:=j;subst r;rfl),e]
  refine wpAny_updatePart D<|ak<|wpAny_lookBehind v (r▸pastItsLine_dict (J cK<|J rQ<|iL K rfl)) ?_;exact aK<|h _ v<|rI ..
 contradiction
def k7.I(x:k7 n b N d e k s A f h j l m):InstAt d (b.bW e) (rV k f l m) k (some {cls:=.type "dict",data:=.dict h j}):=⟨x.cu,rfl,by unfold rV;cases k==236<;>rfl,x.hd⟩
def aaB{a:List aF}(c:∀b∈a,J' b=true):∀k,J' (a.getD k .none)=true:=by
 induction a with
 |nil=>exactλU=>rfl
 |cons b a d=>exactλk=>zq k (c b hB) (d λb e=>c b<|hA _ e)
def handed(c:a.V d b):J' b=true:=by
 obtain _|_|_|_|_|_|_|_|f|_:=d
 .exact bO c
 .exact J (show b=_ from c) rfl
 .exact J (show b=_ from c) rfl
 .obtain⟨_,rfl⟩:=c;rfl
 .obtain⟨_,_,rfl⟩:=c;rfl
 .obtain⟨_,_,_,_,rfl,_⟩:=c;rfl
 .obtain⟨_,_,_,_,rfl,_⟩:=c;rfl
 .obtain⟨_,rfl⟩:=c;rfl
 .rw[show b=_ from c];unfold nh;obtain _|_:=decide _
  .rfl
  exact aaB (show∀b∈Lr,J' b=true by decide+kernel) _
 refine aG c λU e U=>?_;subst e;rfl
def pl(c:gP g)(n:a.V o b)(l:Gf a.W o x λd=>f d a.W)(p:dc a f K):aE g.M h (Rc b x j) K E a.s:=by
 refine v7 n l.2 λt k u v w y z A B e I i=>aG (ji i) λd ao i=>?_
 obtain q|⟨D,b,r,s,m⟩:=gG.look I.fl
 .rw[q.1] at ao;contradiction
 rw[r] at ao;cases ao
 exact Vy a.c8 I.I (c.get k I.cB).1 (c.get k I.cB).2 (findObj_own (c.dict k I.cB) (c.HP k x I.cB l.1) rfl s) (handed m)<|eG p m i
variable{v:Unit->bf->Prop}
def aiv(c:gP g)(r:a.V o h)(s:a.V b d)(i:Zx a.W o x b j)(u:∀f:cM a,j f.W->v () f.s):aE g.M l (setAttr h x d) v K a.s:=by
 refine v7 r i.2 λH k w y z A B D E e I m=>?_
 have n:=gG.put (t:=a.s.toks+1) i.1 s I.fl;have p:=aiw w x b;refine set_plain a.c8 I.I (c.setattr k I.cB) (afG c I.cB a.c8 I.I rfl (c.HP k x I.cB i.1) I.fl.aeh (putName_dict x _ _ d A.toList B) rfl ?_ I.hd λF G q=>u (a.turn (o':=.inst k _ y) (s':={a.s with heap:=F,toks:=a.s.toks+1+1}) bI.noConfusion I.By e q rfl rfl ⟨z,_,_,D,E,I.w,I.By,I.ne,I.z,az p m.1,I.cB,G,(q.2 _ I.ne.symm).trans I.cu,n,I.dF⟩) m.2);exact J n.len<|iL (az p m.1) rfl
end
def XS{a:String}(i:g.K.In y.heap)(I:InstAt y.heap x h b j)(k:gZ g.K (.ref b) name=some (some (.builtin a)))(l:∀self,bindSpecial (.builtin a) self=pure (.builtin a,[self]))(m:aE g.M d (call (.builtin a) (.ref x::args)) (λe=>f (some e)) K y):aE g.M d (callSpecial? (.ref x) name args) f K y:=by
 refine ak<|ak<|I.type.here<|(mU i k).here ?_;refine fT ?_;refine J (l ..)<|ak<|aK ?_;exact ak (fq m (λU U c=>aK c) λU U c=>c)
def SW{i:aF}(c:b.K.In y.heap)(g:gP b)(I:InstAt y.heap x h 236 j)(a:aE b.M f.in1 (Builtin.«list.__getitem__» ⟨[.ref x,i],[]⟩) (λfin e=>∃d,fin=.done (.ret d)/\K d e) E y):aE b.M f (xG (.ref x) i) K E y:=by
 refine fT<|ak<|ak<|I.type.here ?_;refine ak<|(anyM_none c g.Od).here ?_;refine J (dI (show(!false)=true from rfl))<|aK<|ak<|XS c I g.Mz aor.bind<|DK (n:="__getitem__") c I g.sub aor bC (.inr bC) entry_list_getitem (args_list_getitem _ _) ?_;exact fq a (λfin e a=>a.imp λd a=>⟨a.1,aK a.2⟩) λU U k=>k
def n3{a:Int}(g:d.K.In y.heap)(i:gP d)(I:InstAt y.heap x f 236 h)(m:f.data=.seq e j)(c:0<=a)(n:a<2^63)(p:e[a.toNat]?=some b) (q:K b y):aE d.M k (xG (.ref x) (.int a l)) K E y:=by
 refine SW g i I ?_;show aE _ _ (fs _>>=_) _ _ y;refine ak<|wpAny_listSubscript_int (fitsIndex_of c n) ?_;obtain⟨r,rfl⟩:=JD c;have s:e[r]?=some b:=p;refine ak<|ak<|wpAny_seqItemAt I.at_ m<|aK ?_;rw[s];first
  |exact ak _
  |exact aK ⟨b,rfl,q⟩
def n4{a st:Option Int}(q:e.K.In y.heap)(r:gP e)(I:InstAt y.heap x f 236 l)(s:f.data=.seq b m)(t:y.heap.IsSliceOf eW h j k)(u:xf h a)(v:xf j d)(w:xf k st)(i:st≠some 0)(z:b.size<=j9)(A:K (.ref y.heap.objs.size) {y with heap:=y.heap.push {cls:=.type "list",data:=.seq (Rp b a d st)}}):aE e.M n (xG (.ref x) (.ref eW)) K E y:=by
 refine dm (id t) λB c D g=>?_
 have p:y.TypeIs (.ref eW) "slice":=⟨B,c,D⟩;refine SW q r I ?_;show aE _ _ (fs _>>=_) _ _ y;refine ak<|ak<|zJ p aoq ?_;refine aK<|ak<|Km p ?_;rw[cE av];rw[aoi];have F:¬((rawPart st==lG 0)=true):=by
  obtain _|H:=st
  .exact gX
  intro G;have:=by simpa [rawPart,lG] using G
  exact i<|J this rfl
 refine ak<|ak<|gF c g rfl<|ak<|Fi w ?_;refine J (cE F)<|ak<|gF c g rfl<|ak<|Fi u ?_;refine ak<|gF c g rfl<|ak<|Fi v<|aK ?_;refine ak<|ak<|mW I.at_ s<|aK ?_;refine ak<|tS (aop a d st b.size i) ?_;exact ak<|l9 (aK ⟨_,rfl,A⟩)<|az (kb b a d st) z
def SY{a:aF}(c:b.K.In y.heap)(g:gP b)(I:InstAt y.heap x h 236 j)(i:aE b.M d (xG (.ref x) a) K E y):aE b.M d (Fe value f (.ref x) a) K E y:=by
 refine ak<|ak<|ak<|I.type.here<|(mU c g.Mz).here ?_;obtain⟨l,e⟩:=aw f _ a;exact aK<|ak<|e▸Rz (fq i (λm n k=>ak<|aow<|aK k) λU U x=>x)
def k7.acc(x:k7 m b N d e 236 n s f h j k l):
 InstAt d (b.bW e) {cls:=.ref (236:Nat),dict:=some f,data:=.seq k.toArray l} 236 (some {cls:=.type "dict",data:=.dict h j}):=x.I
def aj1{aA:aI}(h:gP g)(y:(n_ aA).isNone=true)(r:cD z i b.v)(s:cD z aA d.v):cD z (.Subscript i aA pos) (LU b d):=λt j A B D X l u v m=>
 Subscript_ (r t j _ _ _ _ l u (λx a=>s x.toaL j _ _ _ _ (l.to x.le) a (λc a=>by
  refine kX (c9 c.bw) a λE F a=>?_
  have f:=x.bw.to c.le;have n:=(v.le x.le).le c.le;refine ab9 (c9 f) a n λU a=>v7 f a λG k H K L M N O P e I a=>?_
  obtain⟨rfl,p,a⟩:=a;obtain⟨Q,q,a⟩:=ji a;obtain⟨R,ev,f⟩:=I.dF.at_ q;have w:=I.z;have dj:=jw q;exact SY c.c8 h I.acc (n3 c.c8 h I.acc rfl p (xd ((hb p).mp (bZ dj w)) av) (gY▸ev) (eG n f a))) (m.le x.le)) m)
def FJ(c:b5 b)(o:Option aI)(h:eY D):Prop:=∀(a:aL b) (d:List D) (e:Ok D) (f:er) (g X:aF->bf->Prop),bQ c a d->h d a.W e f->dc a e g->gj a c.fr f X->aE b.M c.A (evalPart o c.env) g X a.s
def aiP{s:D}{G st:Option aI}(B:gP g)(H:a.V x l)(N:a.V A d)(P:a.V F e)(Q:a.V s f)(h:Pd a.W x A F s λj=>L j a.W)(R:i_ a L K):
 aE g.M M (Fe i (.Slice G O st pos) l<|.ref a.aC) K E {a.s with heap:=a.s.heap.push {cls:=.type "slice",data:=.fields #[d,e,f]}}:=by
 refine aG (DL (c9 N) h) λp1 c h=>aG (DL (c9 P) h) λT t h=>aG (DL (c9 Q) h) λV u h=>?_
 let b:=a.new {cls:=.type "slice",data:=.fields #[d,e,f]} a.s.drawn a.s.toks;have v:=amO a.s.heap d e f;have w:=H.to b.le;have y:=R.le b.le;have k:=c9 w;have q:=h.2;unfold uO at q;revert k q;show lM b.toaL l (bx a.W x)->_;obtain _|_|_|_|j|_:=bx a.W x<;>first|exactλU q=>bO q|skip
 .intro _ q;refine v7 w q λn k W j X Y Z S m i I q=>?_
  obtain⟨rfl,q⟩:=q;refine SY b.c8 B I.acc<|n4 b.c8 B I.acc rfl v c t u h.1 (J cK<|J I.dF.cg<|gq I.z) ?_;exact J (Oq ..)<|yP y (az (H6 I.dF ..) I.z) (Oo I.dF ..) q
 rintro ⟨z,p,S,m,rfl,i,r⟩ q
 exact slice_list z i r v c t u h.1 y q
def akb{q st:Option aI}(r:gP g)(s:cD z i b.v)(t:FJ z q d.v)(u:FJ z e f.v)(v:FJ z st h.v):z5 z (.Subscript i (.Slice q e st pos) j) (LZ b d f h):=λw m B D E X n y A p=>
 Subscript_ (s w m _ _ _ _ n y (λx c=>wpAny_Slice (t x.toaL m _ _ _ _ (n.to x.le) c (λa c=>u a.toaL m _ _ _ _ ((n.to x.le).to a.le) c (λk c=>v k.toaL m _ _ _ _ (((n.to x.le).to a.le).to k.le) c (λl c=>
  aiP r (((x.bw.to a.le).to k.le).to l.le) ((a.bw.to k.le).to l.le) (k.bw.to l.le) l.bw c ((((A.le x.le).le a.le).le k.le).le l.le)) (((p.le x.le).le a.le).le k.le)) ((p.le x.le).le a.le)) (p.le x.le))) p)
def ajV(f:gP g)(h:∀b,rO i x z.env b=b)(j:cD z i d.v):cD z (.Attribute i x pos) (LO x d):=λk a r s t X l m n p=>
 amn (j k a _ _ _ _ l m (λc q=>pl f c.bw q (n.le c.le)) p) (by
  show(do
   let e<-rO i x z.env _
   vq pos.atName
   let a<-holding [e] _
   letTemporaryGo i e a
   pure a)=_
  exact J (h ..) rfl)
def aL.yZ(a:aL h)(e:a.W[n]?=some (.lst f)) (g:LstAt a.c (H a.W) a.s.heap n f b d) (c:Array aF->Array aF) (i:a.b4 ds' (c b.toArray).toList) (j:H ds'<=lim):cM a:=
 a.turn (o':=.lst ds') (s':={a.s with heap:=a.s.heap.update (a.c.bW n) (zw c)}) bI.noConfusion g.w e (rI ..) rfl rfl ⟨(c b.toArray).toList,_,g.w,j,
  am0 (l:=a.c.bW n) (n:=d) (g.cu:a.o (a.c.bW n)=some {cls:=.type "list",dict:=none,data:=.seq b.toArray d,slots:=#[]}) c,i⟩
def aL.Jb(a:aL j)(e:a.W[d]?=some (.inst 236 f k)) (I:k7 j.w.params a.c (H a.W) a.s.heap d 236 f k l m n b h) (c:Array aF->Array aF) (g:a.b4 ds' (c b.toArray).toList) (i:H ds'<=lim):cM a:=
 a.turn (o':=.inst 236 f ds') (s':={a.s with heap:=a.s.heap.update (a.c.bW d) (zw c)}) bI.noConfusion I.w e (rI ..) rfl rfl ⟨l,m,n,(c b.toArray).toList,(if(c b.toArray).size==b.toArray.size then h else h+1),I.w,I.By,I.ne,i,I.Qn,I.cB,by rw[amQ _ _ I.ne.symm];exact I.hd,by
  rw[JB _ I.acc.at_ (by simp[zw,anW])];rfl,I.fl,g⟩
def jJ(e:b=true)(a:sel b d f):d:=by subst e;exact a
def fR(e:b=false)(a:sel b f d):d:=by subst e;exact a
def iH{a:List w}(b:nul a p):a=[]/\p:=by
 obtain _|_:=a
 .exact⟨rfl,b⟩
 exact bO b
def jV{a:List w}{k:w->Prop}(b:one a k):∃x,a=[x]/\k x:=by
 obtain _|⟨x,a⟩:=a
 .exact bO b
 exact⟨x,aZ _ (iH b).1,(iH b).2⟩
def PV{a:List w}{k:w->w->Prop}(c:two a k):∃x b,a=[x,b]/\k x b:=by
 obtain _|⟨x,a⟩:=a
 .exact bO c
 refine aG (jV c) λb d e=>?_;subst d
 exact⟨x,b,rfl,e⟩
def oN.ok(x:oN b k):l_ b k:=⟨x.h,Gi x.d rfl,Gi x.u rfl⟩
def aky(x:Int):(max 0 x).toNat=x.toNat:=by
 obtain a|a:=Int.le_total 0 x
 .exact J (amV a) rfl
 exact J (amU a)<|J (hc a) rfl
def B2(b:Nat)(c:Int):(if c<0 then(c+(b:Int)).toNat else min c.toNat b)=eN b c:=by
 unfold eN;by_cases a:c<0
 .exact J (dI a)<|J (dI a)<|J (aky ..)<|aZ Int.toNat (QG (by have:=Int.add_le_add_right (JE a) b;rwa [JG] at this)).symm
 obtain⟨k,rfl⟩:=JD (xe.mp a);rw[cE a,cE a];obtain d|d:=EW k b
 .exact J (JF ..)<|J (vh d)<|J (QG<|lZ.mpr d) rfl
 exact J (JF ..)<|J (zu d)<|J (Int.min_eq_right<|lZ.mpr d) rfl
set_option tactic.hygienic true in
def UZ{a:List aF}:(a.toArray.eraseIdxIfInBounds (a.toArray.size-1)).toList=a.dropLast:=by
 rw[cK];simp only[ame];split
 .rw[Array.toList_eraseIdx];apply JI;intro c;simp only[List.getElem?_eraseIdx,List.getElem?_dropLast];rename_i b;split
  .rfl
  rename_i k;exact J (tK<|Q2<|bA.mp k) rfl
 rename_i b;obtain _|⟨d,e⟩:=a
 .rfl
 simp at b
def vD.no(a:vD d [] b):b=[]:=JN.mp a.n
@[elab_as_elim] def mq{c:List aF->Prop}(f:a.b4 [e] d)(h:∀b,a.V e b->c [b]):c d:=aV.un (λb d i j=>aV.no (h b i) j) f
@[elab_as_elim] def F1{e:D}{c:List aF->Prop}(i:a.b4 [h,e] f)(j:∀b d,a.V h b->a.V e d->c [b,d]):c f:=aV.un (λb f k l=>mq l λd m=>j b d k m) i
def lI(a:G)(c:aF):Prop:=∀b,a.K.In b->∃k,(k=am2\/k=am3\/k=am1)/\fD a.M b (Ri c) k
def lI.of_K(a:B0 b.K d=true):lI b d:=λc X=>keeps_K a c X
def lI.bi{a:String}:lI b (.builtin a):=λc U=>⟨.machine,.inr<|.inl rfl,zo rfl⟩
def lI.ty{a:String}:lI b (.type a):=λc U=>⟨.machine,.inr<|.inl rfl,zo rfl⟩
def ic.of{i:List D->aN->Ok D->Prop}(n:∀b as e d f X,lJ a b->b.b4 as e->i as b.W d->dc b d f->aE g.M j (call k (first++e)) f X b.s):
 ic g j m k first (λas h l d U=>nul h<|i as l d) a:=λb as h e s d t f X le ok p q c r u=>by
 obtain⟨rfl,c⟩:=iH c;exact J q.no<|n b as e d f X le p c r
def HJ(g:b<H l.W)(le:lJ l d)(a:mJ d.W (.loc b) k):∃f h j,d.W[b]?=some (.lst f)/\LstAt d.c (H d.W) d.s.heap b f h j/\k b f/\d.c.bW b=l.c.bW b:=by
 refine aG (ez (λa=>a) a) λo e c=>?_
 cases o with
 |lst f=>
  exact mu (d.R.objs b _ e) λh j i=>⟨f,h,j,e,i,c,le.le.bW b g⟩
 |_=>exact bO c
variable{v:Unit->bf->Prop}
def Zy{p:D}(x:a.V o f)(y:a.V p h)(z:a.V j b)(A:Eh a.W o p j k)(B:∀d:cM a,k d.W->v () d.s):aE g.M l (Fb f h b) v K a.s:=by
 refine Oi x A λN E F O e c i=>kX (c9 y) i λp P i=>aG (ji i) λr s i=>?_
 have Q:lim<2^62:=av;have R:=lZ.mpr c.z;have q:F.toArray.size=H E:=J cK<|J c.dF.cg rfl;have t:=c.cu;have fin:=B (a.yZ e c (·.setIfInBounds r b) (by simpa using c.dF.set z r)<|gM.symm▸c.z) i;refine iT (IF s c.z) λu w G=>?_
 have L:=aiu s;obtain⟨m,n⟩|⟨m,n,M⟩:=G
 .exact ki_setAt t m (yu u w).2 (by rw[q];exact(hb m).mp<|n▸L)<|n▸fin
 exact ki_setBack t m (q▸n) (yu u w).1<|by rwa [q,<-M]
structure iB{g:G}(Γ:b5 g)(a:aL g) extends aL g where
 le:bJ Γ.own a toaL
def rT(d:aL b)(e:i9)(a:pQ):Prop:=i9.casesOn e (a=.next) (a=.brk) (a=.cont) λf=>∃c,a=.ret c/\d.V f c
structure Sm{g:G}(Γ:b5 g)(a:aL g) extends iB Γ a where
 r:List D
 F:bQ Γ toaL r
 fl:i9
 f:pQ
 hf:rT toaL fl f
structure md{g:G}(Γ:b5 g)(a:aL g) extends iB Γ a where
 v:aF
 m:List Nat
 ok:d_ toaL Γ.fr
 e:jE toaL Γ.fr a.aC v m
abbrev dG(a:b5 b)(c:aL b)(d:eX)(e:pQ->bf->Prop):Prop:=∀x:Sm a c,d x.fl x.r x.W->e x.f x.s
abbrev e_(a:b5 b)(c:aL b)(d:er)(X:aF->bf->Prop):Prop:=∀x:md a c,d x.m x.W->X x.v x.s
abbrev Cg(a:b5 b)(d:aL b)(e:List D->aN->Prop)(f:Unit->bf->Prop):Prop:=∀(x:iB a d) (c:List D),bQ a x.toaL c->e c x.W->f () x.s
def cP(a:b5 b)(st:cS)(h:dw):Prop:=∀(c:aL b) (d:List D) (e:eX) (f:er) (g:pQ->bf->Prop) (X:aF->bf->Prop),bQ a c d->h d c.W e f->dG a c e g->e_ a c f X->aE b.M a.A (exec st a.env) g X c.s
def qD(a:b5 b)(st:List cS)(h:dw):Prop:=∀(c:aL b) (d:List D) (e:eX) (f:er) (g:pQ->bf->Prop) (X:aF->bf->Prop),bQ a c d->h d c.W e f->dG a c e g->e_ a c f X->aE b.M a.A (execs st a.env) g X c.s
def dG.le{c:aL g}{d:pQ->bf->Prop}(f:dG z a b d)(x:bJ z.own a c):dG z c b d:=λe=>f {e with le:=x.bS e.le}
def e_.le(c:e_ b d f K)(x:bJ b.own d h):e_ b h f K:=λa=>c {a with le:=x.bS a.le,e:=a.e.le x.size}
def e_.x(c:e_ b d e K)(ok:d_ d b.fr):gj d b.fr e K:=λa=>c ⟨⟨a.toaL,a.le.of0⟩,a.v,a.m,ok.le a.le λU U c=>c,a.e⟩
def Cg.le{c:aL g}(e:Cg z a b v)(x:bJ z.own a c):Cg z c b v:=λd=>e {d with le:=x.bS d.le}
def e_.no:e_ b d cI K:=λU a=>bO a
def dG.at_{c:pQ->bf->Prop}{fl:i9}(f:dG z a d c)(h:bQ z a r)(i:rT a fl b)(j:d fl r a.W):c b a.s:=f ⟨⟨a,bJ.same rfl rfl (λU U U U e=>.ff e) (aS _) rfl rfl⟩,r,h,fl,b,i⟩ j
noncomputable def iB.one(a)(i:a.c.Fr d)(own:Γ.own d)(f:j6 d a.s.heap b)(j:Nat):iB Γ a where
 c:=a.c
 W:=a.W
 s:={a.s with heap:=b,toks:=j}
 R:=a.R.but (λx o h e=>(f.2 x λg=>h (by rw[g];exact i)).trans e)<|di f.1.symm
 le:=bJ.same rfl rfl (λx o h b e=>.ff<|(f.2 x λg=>b (by rw[g];exact own)).trans e) (di f.1.symm) rfl rfl
def d_.one{Γ:b5 g}(ok:d_ a e)(r)(own)(i:j6 h a.s.heap j)(s:∀o b d,a.o h=some o->o.data=.dict b d->∃f b d,j.get? h=some f/\f.data=.dict b d):d_ (iB.one (Γ:=Γ) a r own i k).toaL e:=λt u=>by
 obtain⟨l,c,o,b,d,m,n,p,e⟩:=ok t u;by_cases q:c=h
 .subst q;exact Ct (s o b d n p) λf b d ao aA=>⟨l,c,f,b,d,m,ao,aA,e⟩
 exact⟨l,c,o,b,d,m,(i.2 c q).trans n,p,e⟩
def get_set{e:D}(a:(r.set N d)[b]?=some e):(b=N/\e=d)\/(b≠N/\r[b]?=some e):=by
 by_cases c:N=b
 .subst c;have f:=jw a;rw[gM] at f;rw[vd f] at a;exact .inl ⟨rfl,(bY a).symm⟩
 rw[nL c] at a;exact .inr ⟨λa=>c a.symm,a⟩
def Ni{c:List Str}(d:c.Nodup)(g:c[N]?=some x) (h:c[b]?=some x):N=b:=by
 obtain⟨e,ao⟩:=fm.mp g;obtain⟨f,aA⟩:=fm.mp h;obtain a|a|a:=hW N b
 .exact aW (ao.trans aA.symm)<|hF.mp d N b e f a
 .exact a
 exact aW (aA.trans ao.symm)<|hF.mp d b N f e a
def ZK(a:lD x=true):x=some .local\/x=some .cell:=by
 unfold lD at a;rw[lY] at a;exact a.imp ck ck
def Ei{e:D}(c:(r.set N f)[d]?=some e) (g:d=N->e=f->∃b,u b) (h:d≠N->r[d]?=some e->∃b,u b):∃b,u b:=(get_set c).elim (λa=>g a.1 a.2) λa=>h a.1 a.2
def aeg{x:Str}{f:D}{d:aF}{i:Str->Option aF}(p:KG z a r i)(m:z.ns[N]?=some x) (q:a.V f d) (h:aL g) (s:h.c=a.c) (t:h.W=a.W) (u:h.s.heap.Ns z.env.locals (λb=>if b=x then some d else i b)):KG z h (r.set N f) (λb=>if b=x then some d else i b):=⟨u,λv b e j w y A=>by
 have V:∀f d,a.V f d->h.V f d:=λf d E=>by unfold aL.V;rwa [s,t]
 refine Ei w (λk l=>⟨d,dI (bY (j.symm.trans (k▸m))),V _ _ (l▸q)⟩) λk l=>(p.2 v b e j l y A).imp λF n=>⟨(cE (c:=b=x) λB=>k (Ni z.wg j (B▸m))).trans n.1,V _ _ n.2⟩⟩
def wQ(F:bQ z a r)(u:z.ns[N]?=some x) (i:z.pI x) (O:a.V f b) (P:∀d:iB z a,d.W=a.W->bQ z d.toaL (r.set N f)->v () d.s):
 aE g.M l (storeName z.env x b) v K a.s:=by
 have len:(r.set N f).length=H z.ns:=gM.trans F.len;have R:=i.2;obtain i|i:=ZK i.1
 .refine F.loc.elim λm A=>kV i A.1 (λS Q w=>P _ rfl ⟨len,F.lf,⟨_,aeg A u O _ rfl rfl Q⟩,λj y c s=>?_,F.ok.one F.lf (.inl rfl) w λU U U U U=>Q.imp λo h=>h.imp λT h=>h.imp λqa h=>⟨h.1,h.2.1⟩⟩) (J z.fn rfl)
  exact(F.lg j y c s).imp λp h=>h.imp λo h=>⟨h.1,h.2.1.sameBut w (z.ne y p (eU c) s h.1),h.2.2.1,λD t B=>
   Ei t (λq U=>aW s (by subst q;exact bH (bY (u.symm.trans c))<|J i<|gX)) λU q=>h.2.2.2 D q B⟩
 have G:kM (z.env.kindOf x)=true:=J i rfl;have L:=eU u;refine(F.lg N x u G).elim λp h=>h.elim λo h=>wpAny_storeName_cell z.fn i h.1 h.2.1 λS V w=>?_
 have own:z.own p:=.inr ⟨x,L,R,i,h.1⟩;refine P _ rfl ⟨len,F.lf,F.loc.imp λm A=>⟨A.1.sameBut w (z.ne x p L G h.1).symm,λj y e c s t B=>Ei s (λq U=>by subst q;rw[<-bY<|u.symm.trans c,i] at t;contradiction) λU q=>A.2 j y e c q t B⟩,λj y c s=>?_,F.ok.one h.2.2.1 own w λW T n X Y=>?_⟩
 .by_cases M:j=N
  .subst M;cases u.symm.trans c
   exact⟨p,some b,h.1,V,h.2.2.1,λD t U=>Ei t (λU q=>⟨b,rfl,q▸O⟩) λq U=>aW rfl q⟩
  exact(F.lg j y c s).imp λq k=>k.imp λo' k=>⟨k.1,k.2.1.sameBut w (λE=>M (Ni z.wg c (J (z.ap y x q (eU c) L s G k.1 (E▸h.1))<|u))),k.2.2.1,λD t B=>
   Ei t (λq U=>aW q M) λU q=>k.2.2.2 D q B⟩
 exact h.2.1.elim λZ E=>by
  cases((show a.s.heap.get? p=some W from X).symm.trans E.1)
  exact nomatch Y.symm.trans E.2
def Pn:qD b [] (qp []):=λe f g h i X a c d j=>B6<|dG.at_ d a (fl:=.next) rfl c
@[elab_as_elim] def rT.C1{g:i9}{a:i9->pQ->Prop}(c:rT f g b)(t_:a .next .next)(k:a .brk .brk)(l:a .cont .cont)(h:∀d e,f.V d e->a (.ret d) (.ret e)):a g b:=by
 obtain _|_|_|d:=g
 .rwa [show b=.next from c]
 .rwa [show b=.brk from c]
 .rwa [show b=.cont from c]
 refine aG c λe i j=>?_;subst i
 exact h d e j
def ajd{st:cS}(h:cP b st d)(i:qD b e (qp f)):qD b (st::e) (qp (d::f)):=λj l p q r X m n c g=>by
 refine Rv<|h j l _ _ _ _ m n (λx a=>?_) g;have k:=c x;revert a k;refine rT.C1 x.hf (λa U=>i x.toaL x.r _ _ _ _ x.F a (c.le x.le)<|g.le x.le) (λa k=>k a) (λa k=>k a) λs t u a k=>k a
def dG.ev{c:pQ->bf->Prop}(e:dG z a d c)(f:bQ z a r){fl:i9}(x:cM a)(h:rT x.toaL fl b)(i:d fl r x.W):c b x.s:=e ⟨⟨x.toaL,x.le.of0⟩,r,f.to x.le,fl,b,h⟩ i
def Z3(c:cD b i d.v):cP b (.Return (some i) pos) (nH d):=λe f l m n X a g h j=>wpAny_Return_some<|c e f _ _ _ _ a g (λx k=>dG.ev h a x.tocM (fl:=.ret x.d) ⟨x.v,rfl,x.bw⟩ k)<|e_.x j a.ok
def uE(a:ph i=true):swapsWith i b d e=pure false:=A0 a (by
 rcases i<;>first|exact(rj (pure false:Sem Bool) (true=false))|exact .inr rfl)
def b5.inter(a:b5 b):interactive a.env=false:=by unfold interactive;exact J a.fn rfl
def ai'(c:ph i=true)(e:cD b i d.v):cP b (.Expr i pos) (w_ d):=λf g m n p X a h j k=>kl (e f g _ _ _ _ a h (λx l=>dG.ev j a x.tocM (fl:=.next) rfl l)<|e_.x k a.ok) b.inter<|uE c
def Z2(f:b.ns[N]?=some x) (g:b.pI x) (h:swapsWith i (some (.Name x d)) pos.line b.env=pure false) (j:cD b i e.v):cP b (.Assign [.Name x d] i pos) (BB N e):=λk l t u v X a m n p=>
 wpAny_Assign_Name (j k l _ _ _ _ a m (λc q=>wQ (a.to c.le) f g c.bw λr i s=>dG.at_ (dG.le (dG.le n c.le.of0) r.le) s (fl:=.next) rfl<|i.symm▸q)<|e_.x p a.ok) h
def Wr{aA:aI}(A:(n_ aA).isNone=true)(t:cD z i d.v)(u:cD z aA e.v)(p:bQ z a r)(w:a.V f h)(x:Iv d e f r a.W j k)(y:∀b:cM a,j r b.W->v () b.s)(q:gj a z.fr k K):
 aE g.M z.A (eval i z.env) (λo s=>aE g.M z.A (eval aA z.env) (λl s=>aE g.M z.A (Fb o l h) v K s) K s) K a.s:=
 t a r _ _ _ _ p x (λc m=>u c.toaL r _ _ _ _ (p.to c.le) m (λn m=>Zy (c.bw.to n.le) n.bw ((w.to c.le).to n.le) m λb m=>y ⟨b.toaL,(c.le.bS n.le).bS b.le⟩ m)<|q.le c.le) q
def ai6{ao aA:aI}(l:(n_ aA).isNone=true)(m:ph i=true)(n:cD b i d.v)(p:cD b ao e.v)(q:cD b aA f.v):cP b (.Assign [.Subscript ao aA h] i pos) (Qd e f d):=λr s v w x X a t u j=>
 aos (n r s _ _ _ _ a t (λc g=>Wr l p q (a.to c.le) c.bw g (λk g=>dG.ev u a ⟨k.toaL,c.le.bS k.le⟩ (fl:=.next) rfl g)<|(e_.x j a.ok).le c.le)<|e_.x j a.ok) (uE m)
def Tf(k:a.V x b)(i:a.V d e)(c:Gg o a.W x d λf=>Q f a.W)(j:dc a Q E):aE g.M h (inplaceOp o b e) E K a.s:=by
 obtain⟨rfl,c⟩:=c;have l:=c9 k;revert l c;obtain _|_|q|s|_|_:=bx a.W x<;>first|exactλc U=>bO c|skip
 .rintro c ⟨m,rfl⟩
  exact kX (c9 i) c λr n c=>apg<|eG j (kL _ _) c
 rintro c ⟨_,m,rfl⟩
 refine pM (c9 i) c λt n U c=>iadd_str (λp tk=>?_)<|J (g9 ..)<|gq c.1
 exact J (I4 ..)<|eG j (mj p<|bq▸c.1) c.2
def ai_(j:b.ns[N]?=some x) (k:b.pI x) (z:(x==("__debug__":Str))=false) (l:(x==("__classdict__":Str))=false) (m:cD b i d.v):
 cP b (.AugAssign (.Name x e) o i pos) (Qh N o d):=λn p A B D X f c q r=>by
 refine aG (ji c) λE s c=>?_
 obtain⟨t,c⟩:=Lu c;have u:tg (b.env.kindOf x)=true:=by obtain a|a:=ZK k.1<;>rw[a]<;>rfl
 refine wpAny_AugAssign_Name (HH f j u l s t λF v=>?_);exact m n p _ _ _ _ f c (λg a=>Tf (v.to g.le) g.bw a λh a=>wQ (f.to<|g.le.bS h.le) j k h.bw λw i y=>dG.at_ (dG.le (dG.le q (g.le.bS h.le).of0) w.le) y (fl:=.next) rfl<|i.symm▸a)<|e_.x r f.ok
def ai9{ao aA:aI}(B:gP g)(H:(n_ aA).isNone=true)(M:cD z ao f.v)(N:cD z aA j.v)(O:cD z i e.v):cP z (.AugAssign (.Subscript ao aA k) o i pos) (Qg f j o e):=λa r Q Z K X F h P D=>by
 have R:∀c l new,augStore aA c l new=(do holding [new,c,l] (Fb c l new);release [new,c,l] [];pure .next):=λc l new=>A0 H (by
  rcases aA<;>first|exact rj _ _|exact .inr rfl)
 refine wpAny_AugAssign_SubscriptAny (M a r _ _ _ _ F h (λx q=>?_)<|e_.x D F.ok) R;have E:=e_.x D F.ok;refine N x.toaL r _ _ _ _ (F.to x.le) q (λy q=>?_)<|E.le x.le;have s:=x.bw.to y.le;have v:=y.bw;have S:=s;have T:=v;revert S T;refine Oi s q λn ds cY m i L q=>?_
 refine kX (c9 v) q λY t q s v=>item_list (Q:=λd W=>e.v r W (λV G=>Gg o G d V λd=>Eh G x.d y.d d λA=>Q .next r A) Z) L.z L.cu L.dF q λp q=>?_
 refine O p.toaL r _ _ _ _ (((F.to x.le).to y.le).to p.le) q (λw q=>?_)<|((E.le x.le).le y.le).le p.le;refine Tf (Q:=λd W=>Eh W x.d y.d d λA=>Q .next r A) (p.bw.to w.le) w.bw q λu q=>?_
 have le:=(p.le.bS w.le).bS u.le;exact Zy (s.to le) (v.to le) u.bw q λb q=>dG.ev P F ⟨b.toaL,((x.le.bS y.le).bS le).bS b.le⟩ (fl:=.next) rfl q
set_option tactic.hygienic true in
def CJ:∀d f acc x,(∀b∈d,b.1=x->b.2≠.cell)->(pW f d acc).lookup x=acc.lookup x
 |[],_,_,_,_=>rfl
 |(b,k)::h,f,acc,x,a=>by
  unfold pW;split
  .rename_i i;rw[CJ h _ _ x λc g=>a c<|hA _ g];have j:b≠x:=λe=>a (b,k) hB e<|ck i
   have:(x==b)=false:=jO<|Ne.symm j;simp[nM,this]
  exact CJ h _ _ x λc g=>a c<|hA _ g
def LF:∀f b acc x,(f.map (·.1)).Nodup->f.lookup x=some .cell->
 ∃d,(pW b.objs.size f acc).lookup x=some d/\b.objs.size<=d/\(B3 b f).IsCell d none
 |[],_,_,_,_,b=>by simp at b
 |(i,k)::c,b,acc,x,g,a=>by
  rw[i6,anq] at g;unfold pW B3;rw[nM] at a;rcases h:x==i with _|_
  .rw[h] at a;split
   .refine dm (LF c (b.push {cls:=.type "cell",data:=.cell none}) ((i,b.objs.size)::acc) x g.2 a) λd ao aA bL=>?_
    rw[f5] at ao aA;exact⟨d,ao,oF aA,bL⟩
   exact LF c b acc x g.2 a
  rw[h] at a;cases a
  have j:=ck h;subst j;simp only[beq_self_eq_true,if_true];refine⟨b.objs.size,?_,aS _,?_⟩
  .rw[show b.objs.size+1=(b.push {cls:=.type "cell",data:=.cell none}).objs.size from(f5 ..).symm];rw[CJ c _ _ x λl m e=>aW (fC.mpr ⟨l,m,e⟩) g.1];simp
  exact apm ⟨_,g_ _ rfl,rfl⟩<|Kc c _
def LD:∀f (b:e9) acc x d,(x,d)∈pW b.objs.size f acc->(x,d)∈acc\/b.objs.size<=d
 |[],_,_,_,_,e=>.inl e
 |(g,k)::c,b,acc,x,d,e=>by
  unfold pW at e;split at e
  .rw[show b.objs.size+1=(b.push {cls:=.type "cell",data:=.cell none}).objs.size from(f5 ..).symm] at e;obtain a|a:=LD c _ _ x d e
   .obtain a|a:=cQ.mp a
    .cases a;exact .inr<|aS _
    exact .inl a
   rw[f5] at a;exact .inr<|oF a
  exact LD c b acc x d e
set_option tactic.hygienic true in
def LG:∀j (b:e9) acc,(∀e h,(e,h)∈acc->h<b.objs.size)->
 ∀x f d,b.objs.size<=d->(x,d)∈pW b.objs.size j acc->(f,d)∈pW b.objs.size j acc->x=f
 |[],b,acc,i,x,f,d,l,c,g=>by
  have c:(x,d)∈acc:=c;exact aW l<|gO.mpr<|i _ _ c
 |(s,k)::m,b,acc,i,x,f,d,l,c,g=>by
  unfold pW at c g;split at c
  .rename_i n;rw[dI n] at g;rw[show b.objs.size+1=(b.push {cls:=.type "cell",data:=.cell none}).objs.size from(f5 ..).symm] at c g;have p:(b.push {cls:=.type "cell",data:=.cell none}).objs.size=b.objs.size+1:=f5 ..;by_cases q:(b.push {cls:=.type "cell",data:=.cell none}).objs.size<=d
   .refine LG m _ _ (λe h r=>?_) x f d q c g;rw[p];obtain a|a:=cQ.mp r
    .cases a;exact f6 _
    exact tN<|i e h a
   rw[p] at q;have u:d=b.objs.size:=pU (rM<|gO.mp q) l;subst u;have t:∀e,(e,b.objs.size)∈pW (b.push {cls:=.type "cell",data:=.cell none}).objs.size m ((s,b.objs.size)::acc)->e=s:=λe r=>by
    obtain a|a:=LD m _ _ _ _ r
    .obtain a|a:=cQ.mp a
     .cases a;rfl
     exact aW (i e _ a)<|oG _
    rw[p] at a;exact aW a<|JW _
   exact(t x c).trans (t f g).symm
  rename_i n;rw[cE n] at g;exact LG m b acc i x f d l c g
def ahD:∀b d,d.objs.size<=(B3 d b).objs.size:=λb=>by
 induction b with
 |nil=>exactλU=>aS _
 |cons c b a=>
  intro d;obtain⟨x,k⟩:=c;unfold B3;split
  .exact az (by exact J (f5 ..)<|gy _)<|a _
  exact a _
def NW{a:List (Str×kH)}(c:(a.map (·.1)).Nodup)(b:(x,k)∈a):a.lookup x=some k:=by
 induction a with
 |nil=>contradiction
 |cons d h f=>
  obtain⟨g,i⟩:=d;rw[i6,anq] at c;rw[nM];obtain e|b:=cQ.mp b
  .cases e;rw[beq_self_eq_true]
  exact J (show(x==g)=false from jO λe=>c.1<|e▸fC.mpr ⟨_,b,rfl⟩)<|f c.2 b
structure zO{g:G}(a:aL g)(names:List (Str×kH))(ns:List Str)(r:List D)(cl:List (Str×bG)):Prop where
 cell:∀(i:Nat) x,ns[i]?=some x->names.lookup x=some .free->∃p o,cl.lookup x=some p/\a.s.heap.IsCell p o/\a.c.Fr p/\∀d,r[i]?=some d->d≠.ai->∃v,o=some v/\a.V d v
 apart:∀x y p,x∈ns->y∈ns->names.lookup x=some .free->names.lookup y=some .free->cl.lookup x=some p->cl.lookup y=some p->x=y
 low:∀z p,(z,p)∈cl->p<a.aC
structure k6{g:G}(a:aL g)(names:List (Str×kH))(ns:List Str)(cl:List (Str×bG))(env:Env):Prop where
 lo:env.locals=a.aC
 ce:env.cells=pW (a.aC+1) names cl
 iu:(names.map (·.1)).Nodup
 Nl:∀x,env.kindOf x=some .local->names.lookup x=some .local
 AJ:∀x,kM (env.kindOf x)=true->names.lookup x=some .cell\/names.lookup x=some .free
def k6.own{ns:List Str}(a:k6 b d ns f h)(o)(c:d.lookup x=some .cell):∃e,h.cells.lookup x=some e/\b.aC+1<=e/\(B3 (b.s.heap.push o) d).IsCell e none:=by
 have:=LF d (b.s.heap.push o) f x a.iu c;rw[f5] at this;rwa [a.ce]
def k6.free{ns:List Str}(a:k6 f b ns d e)(c:b.lookup x=some .free):e.cells.lookup x=d.lookup x:=by
 refine J a.ce<|CJ _ _ _ _ λi j g h=>?_
 have:b.lookup x=some .cell:=NW a.iu<|by rwa [<-g,<-h]
 rw[c] at this;contradiction
def k6.at_{ns:List Str}(c:k6 h b ns j d)(g:kM (d.kindOf x)=true)(e:d.cells.lookup x=some f):(b.lookup x=some .cell/\h.aC+1<=f)\/(b.lookup x=some .free/\j.lookup x=some f):=by
 refine(c.AJ x g).imp (λa=>⟨a,?_⟩) λa=>⟨a,(c.free a).symm.trans e⟩
 refine dm (c.own default a) λi ao aA U=>?_
 rw[e] at ao;cases ao;exact aA
def k6.ne{ns:List Str}(g:k6 d f ns h b)(i:zO d f ns r h)(x)(a)(k:x∈ns)(j:kM (b.kindOf x)=true)(e:b.cells.lookup x=some a):a≠b.locals:=by
 rw[g.lo];obtain c|c:=g.at_ j e
 .exact nP c.2
 exact kI<|i.low x a<|mem_of_lookup c.2
def k6.ap{ns:List Str}(k:k6 d e ns f b)(i:zO d e ns r f)(x a)(g)(l:x∈ns)(m:a∈ns)(n:kM (b.kindOf x)=true)(p:kM (b.kindOf a)=true)(ex:b.cells.lookup x=some g)(j:b.cells.lookup a=some g):x=a:=by
 obtain c|c:=k.at_ n ex<;>obtain h|h:=k.at_ p j
 .rw[k.ce] at ex j;rw[show d.aC+1=(d.s.heap.push default).objs.size from(f5 ..).symm] at ex j;exact LG e _ f (λq s t=>J (f5 ..)<|tN<|i.low q s t) x a _ (J (f5 ..)<|c.2) (mem_of_lookup ex)<|mem_of_lookup j
 .exact aW (bZ (f6 _) c.2)<|hU<|i.low a g<|mem_of_lookup h.2
 .exact aW (bZ (f6 _) h.2)<|hU<|i.low x g<|mem_of_lookup c.2
 exact i.apart x a g l m c.1 h.1 c.2 h.2
def aL.grow(a:aL g)(b:e9)(k:∀x o,a.o x=some o->b.get? x=some o)(d:a.aC<=b.objs.size):cM a where
 c:=a.c
 W:=a.W
 s:={a.s with heap:=b}
 R:=a.R.but (λx o U=>k x o) d
 le:=bJ.same rfl rfl (λx o U U e=>.ff<|k x o e) d rfl rfl
def Vl(o)(x)(c)(e:a.o x=some c):(B3 (a.s.heap.push o) b).get? x=some c:=Kc _ _ x c<|fZ _ e
def aL.frame(a:aL b)(o:Obj)(c:List (Str×kH)):cM a:=a.grow (B3 (a.s.heap.push o) c) (Vl o)<|az (by rw[f5];exact gy _)<|ahD c _
def k6.C_{Γ:b5 g}(c:k6 a f Γ.ns l Γ.env)(u:zO a f Γ.ns r l)(v:H h=H Γ.ns)(ok:d_ (a.frame {cls:=j,data:=.dict #[]} f).toaL Γ.fr)(s:∀(d:Nat) x b,Γ.ns[d]?=some x->f.lookup x=some .local\/f.lookup x=some .cell->h[d]?=some b->b=.ai) (w:∀(d:Nat) x b,Γ.ns[d]?=some x->f.lookup x=some .free->h[d]?=some b->b≠.ai->r[d]?=some b):bQ Γ (a.frame {cls:=j,data:=.dict #[]} f).toaL h where
 len:=v
 lf:=by rw[c.lo];exact a.fresh<|aS _
 loc:=⟨λU=>none,by rw[c.lo];exact(Heap.Ns.new a.s.heap j).keeps<|Kc _ _,λd x b n q p i=>aW (s d x b n (.inl<|c.Nl x p) q) i⟩
 lg:=λd x n q=>by
  obtain m|m:=c.AJ x q
  .refine dm (c.own {cls:=j,data:=.dict #[]} m) λt e y z=>?_
   exact⟨t,none,e,z,a.fresh<|oF y,λb p i=>aW (s d x b n (.inr m) p) i⟩
  exact(u.cell d x n m).imp λt k=>k.imp λo k=>⟨(c.free m).trans k.1,k.2.1.keeps<|Vl _,k.2.2.1,λb p i=>k.2.2.2 b (w d x b n m p i) i⟩
 ok:=ok
def ajq(y:∀n s A,B (n,s) A=(do storeName z.env n s;pure (.yield ⟨⟩))):
 ∀f (ns:List Str) h b j d (l:PUnit->bf->Prop),bQ z d j->d.b4 f h->H h<=H ns->(∀m x,ns[m]?=some x->z.ns[b+m]?=some x)->(∀x∈ns,z.pI x)->
  (∀k:iB z d,k.W=d.W->bQ z k.toaL (j.take b++f++j.drop (b+H f))->l ⟨⟩ k.s)->aE g.M F (forIn (ns.zip h) ⟨⟩ B) l K d.s:=λf=>by
 induction f with
 |nil=>
  intro ns h b j d l a c i p q r;refine aV.no ?_ c;exact J List.zip_nil_right<|aK<|r ⟨d,bJ.same rfl rfl (λU U U U e=>.ff e) (aS _) rfl rfl⟩ rfl<|by rwa [dR,rJ,Q0,hL]
 |cons u f D=>
  intro ns h b j d l a c;refine aV.un (λA h E G=>?_) c;intro i p q r;obtain _|⟨x,ns⟩:=ns
  .exact aW i<|anI _
  rw[List.zip_cons_cons,JL,y];have v:z.ns[b]?=some x:=p 0 x rfl;refine ak<|ak (wQ a v (q x<|.head _) E λk e L=>aK ?_);refine D ns h _ _ k.toaL l L (G.mono k.le.le) (hS i) (λm t M=>J (gE ..)<|J (h_ 1 m)<|p _ t M) (λt N=>q t<|.tail _ N) λw O P=>r ⟨w.toaL,k.le.bS w.le⟩ (O.trans e) ?_
  have ao:(j.set b u).take (b+1)=j.take b++[u]:=J QY<|J (vd<|a.len▸jw v)<|J (anx<|aS _) rfl;rw[ao,List.drop_set_of_lt<|bZ (Nat.lt_add_one _)<|cZ _ _,eT,eT] at P;rwa [gK,show b+(_+1)=b+1+(H f) from pT b _ 1,eT]
structure Inv(I:e9->Prop):Prop where
 push:∀h o,I h->I (h.push o)
 upd:∀h b f,(h.get? b).isSome=true->I h->I (h.update b f)
set_option tactic.hygienic true in
def OW(g:Inv I){e:End}(i:Runs M d f h j y e b):I y.heap->I b.heap:=by
 induction i<;>intro a<;>first
  |exact a
  |(rename_i c;exact c a)
  |(rename_i k _ c;exact c<|g.upd _ _ _ k a)
  |(rename_i c;exact c<|g.push _ _ a)
  |(rename_i l m;exact m<|l a)
def alu(i:Inv I){k:Resume}{res:GenResult}(a:Wakes M d e f k y res b)(j:I y.heap):I b.heap:=by
 unfold Wakes at a;split at a
 .exact a.elim
 .split at a
  .refine x9 a λl c g U U h=>?_;subst h;exact(OW i g j:I c.heap)
  .rwa [a.2]
  rwa [a.2]
 .refine x9 a λl c g U U h=>?_;subst h;exact(OW i g j:I c.heap)
 .rwa [a.2]
 rwa [a.2]
def alG{I:e9->Prop}{M:nN}{n:Ctx}(i:Inv I)(m:Sem w):∀(b:w->Pos->bf->Prop) (d:aF->Pos->bf->Prop) (f:Pos) (s:bf),I s.heap->Sem.wp M n m b d f s->Sem.wp M n m (λl j h=>I h.heap/\b l j h) (λe j h=>I h.heap/\d e j h) f s:=by
 induction m with
 |pure l=>exactλb d f s g a=>⟨g,a⟩
 |raise e=>exactλb d f s g a=>⟨g,a⟩
 |load l _ k c=>exactλb d f s g a=>a.imp λo a=>⟨a.1,c o b d f s g a.2⟩
 |update l _ r k c=>exactλb d f s g a=>⟨a.1,c () b d f _ (i.upd _ _ _ a.1 g) a.2⟩
 |alloc o k c=>exactλb d f s g a=>c _ b d f _ (i.push _ _ g) a
 |choose t u k c=>exactλb d f s g a=>⟨a.1,c _ b d f _ g a.2⟩
 |call v x _ _ k c=>exactλb d f s g a=>a.imp λp a=>a.imp λh a=>⟨a.1,c p b d f h (OW i a.1 g) a.2⟩
 |genState q k c=>exactλb d f s g a=>a.imp λst a=>⟨a.1,c _ b d f s g a.2⟩
 |resume q p _ k c=>exactλb d f s g a=>a.imp λres a=>a.imp λh a=>⟨a.1,c res b d f h (alu i a.1 g) a.2⟩
 |unsupported|finish|register|yield|fork|await=>exactλb d f s U a=>a
 |«at» j k c=>exactλb d f s g a=>c () b d j s g a
 |rule _ k c|loadIfAlive _ k c|point _ k c|fresh k c|ask k c|os _ _ k c|handled _ k c|newGen _ k c|stack k c|thread k c=>exactλb d f s g a=>c _ b d f _ g a
def eD{I:e9->Prop}{M:nN}{f:fY}{c:Sem w}{g:w->bf->Prop}(j:Inv I)(k:I y.heap)(l:aE M f c (λd b=>I b.heap->g d b) (λe b=>I b.heap->E e b) y):aE M f c g E y:=
 λh i m=>Sem.wp_mono M h _ (λU U U a=>a.2 a.1) (λU U U a=>a.2 a.1) _ _<|alG j c _ _ i y k<|l h i m
def acy(c):Inv λb=>c<=b.objs.size:=⟨λb o a=>by rw[f5];exact mT a,λb d e U a=>J ((rI b d e).1)<|a⟩
def zP(a:bG)(b:e9):Prop:=a<b.objs.size/\b.get? a=none
def K'(a:zP d b):zP d (b.push o):=by
 refine⟨J (f5 ..)<|tN a.1,?_⟩;rcases e:(b.push o).get? d with _|x
 .rfl
 have:=a.2;obtain⟨ao,aA⟩:=amP.mp e;have c:=a.1;have bL:b.objs[d]?=some x:=by
  have:(b.push o).objs=b.objs.push o:=by cases b;rfl
  rw[this,amg c] at ao;rwa [e' c]
 rw[amP.mpr ⟨bL,aA⟩] at this;contradiction
def acx(s:e9):Inv λd=>∀b,zP b s->zP b d:=⟨λd o a b c=>K' (a b c),λd e f g a b c=>by
 have k:=a b c;refine⟨J ((rI d e f).1)<|k.1,?_⟩;exact J (amQ _ _ (by rintro rfl;rw[k.2] at g;contradiction))<|k.2⟩
def iZ{M:nN}{a:fY}{c:Sem w}{f:w->bf->Prop}(g:aE M a c (λd b=>y.heap.objs.size<=b.heap.objs.size->f d b) (λe b=>y.heap.objs.size<=b.heap.objs.size->E e b) y):aE M a c f E y:=
 eD (acy _) (aS _) g
def Ji{M:nN}{h:fY}{i:Sem w}{j:w->bf->Prop}(c:aE M h i (λf d=>(∀b o,d.heap.get? b=some o->y.heap.get? b=none->y.heap.objs.size<=b)->j f d) (λe d=>(∀b o,d.heap.get? b=some o->y.heap.get? b=none->y.heap.objs.size<=b)->E e d) y):aE M h i j E y:=by
 have k:∀{l:e9},(∀b,zP b y.heap->zP b l)->∀b o,l.get? b=some o->y.heap.get? b=none->y.heap.objs.size<=b:=λa b o ao aA=>bA.mp λm=>nomatch ao.symm.trans (a b ⟨m,aA⟩).2
 exact eD (acx y.heap) (λU c=>c) (fq c (λf d a g=>a<|k g) λe d a g=>a<|k g)
def d_.at_(x:d_ f j)(c:h∈jH j):∃o b d,f.o h=some o/\o.data=.dict b d/\f.c.Fr h:=by
 refine aG (ve.mp c) λe g i=>?_
 obtain⟨_,l,o,b,d,a,k⟩:=x e g;rw[i] at a;cases a
 exact⟨o,b,d,k⟩
def d_.frames:∀{b:List Env},d_ f b->(∀d∈jH b,h.get? d=none)->f.s.heap.FunFrames h b:=λ{b}=>by
 induction b with
 |nil=>exactλU U=>trivial
 |cons g b k=>
  intro x i;obtain⟨l,j,o,r,s,a,m,n,_⟩:=x g<|.head _;refine⟨l,⟨j,o,a,i j<|ve.mpr ⟨g,.head _,a⟩,m,λt p=>?_⟩,k (λe c=>x e<|.tail _ c) λd q=>aG (ve.mp q) λe c a=>i d<|ve.mpr ⟨e,.tail _ c,a⟩⟩;rw[n] at p;contradiction
def d_.eW{c:List Env}{d:aL g}(ok:d_ a c)(k:d.c=a.c)(l:∀b∈jH c,∀o,a.o b=some o->∃eW,d.o b=some {o with slots:=eW}):d_ d c:=λf h=>by
 obtain⟨m,i,o,n,p,j,q,r,s⟩:=ok f h;obtain⟨eW,e⟩:=l i (ve.mpr ⟨f,h,j⟩) o q;exact⟨m,i,_,n,p,j,e,r,J k<|s⟩
def NU(x:cM m)(ok:d_ x.toaL (j::k))(e:jE x.toaL (j::k) m.aC A B)(R:x.o e.e=some jy)(c:∀b∈Z,oR x.toaL (j::k) b/\m.aC<=b/\∃o l,x.o b=some o/\o.data=.fields l)(dY:∀d:cM m,d.W=x.W->d.c=x.c->d_ d.toaL (j::k)->jE d.toaL (j::k) m.aC A B->v () d.s)(L:Heap.LeftW (BZ x.s.heap (Z++jH (j::k))) (j::k) e.e jy.cls (.ref e.t) x.s.heap s)(hs:x.aC<=s.objs.size)(S:∀b o,s.get? b=some o->x.s.heap.get? b=none->x.aC<=b):v () {x.s with heap:=s}:=by
 refine tZ L λlX eP alR alZ=>?_
 have keep:=λb o r rd q=>lX b o (hideAll_get _ q λw=>(i7.mp w).elim r rd)
 have eW:∀p∈jH _,∀o,x.o p=some o->∃eW,s.get? p=some {o with slots:=eW}:=λp a o g=>alZ p o g λcY q=>by
  refine kc (ok.at_ a) λt y n u D U=>?_
  rw[g] at u;cases u;rw[q] at D;contradiction
 have H:∀p,p∈Z\/p∈jH _->x.c.Fr p:=λp a=>a.elim (λh=>(c p h).1.1) λh=>by
  exact kc (ok.at_ h) λU U U U U q=>q
 let d:cM m:=⟨⟨x.c,x.W,{x.s with heap:=s},x.R.but (λp o n e=>keep p o (λq=>n (H p (.inl q))) (λq=>n (H p (.inr q))) e) hs⟩,⟨x.le.le,x.le.fr,λp o f U g=>by
  refine(x.le.keep p o f (λh=>h) g).trans λt E=>?_
  by_cases a:p∈jH (j::k)
  .obtain⟨V,q⟩:=eW p a t E;refine kc (ok.at_ a) λXD y n g1 CQ U=>?_
   rw[E] at g1;cases g1
   exact⟨V,q,.inl ⟨y,n,CQ⟩⟩
  exact .ff (keep p t (λi=>aW (dJ g) (bA.mpr (c p i).2.1)) a E),az x.le.size hs,x.le.gens,x.le.os⟩⟩
 have K:d_ d.toaL _:=ok.eW rfl eW;refine dY d rfl rfl K ?_;have M:∀{p o l},s.get? p=some o->o.data=.fields l->(BZ x.s.heap _).get? p=none->oR x.toaL _ p/\m.aC<=p:=λ{p o l} a hd n8=>by
  by_cases i:p∈Z
  .exact⟨(c p i).1,(c p i).2.1⟩
  have N:p∉jH _:=λz=>by
   refine kc (K.at_ z) λt y n u D U=>?_
   have:=u.symm.trans a;cases this;rw[hd] at D;contradiction
  have iu:x.s.heap.get? p=none:=by
   rcases q:x.s.heap.get? p with _|o
   .rfl
   rw[hideAll_get _ q λw=>(i7.mp w).elim i N] at n8;contradiction
  have O:=S p o a iu;exact⟨⟨x.fresh O,N⟩,az x.le.size O⟩
 have kq:=keep e.t _ (λz=>by
  obtain⟨_,_,o,l,r,rd⟩:=c _ z;rw[e.kq] at r;cases r;contradiction) e.yo.2 e.kq
 have P:=e.he;rw[R] at P;refine Classical.choice ?_;obtain⟨W,X,T,afn,l,g1,⟨g2,g3⟩,jI,Au,Q,aao,F,G,Y⟩:=alR;exact⟨{e with jy:=W,cY:=X,he:=g1,jS:=by rw[g2,bY P];exact e.jS,hd:=jI,h0:=g3,kq:=kq,bu:=.inr ⟨T,afn,l,Au,(M F G Q).1,(M F G Q).2,aao,F,G,Y⟩}⟩
def W2(x:cM a)(s:j.frames=some (b::d))(t:b.frame=some l)(ok:d_ x.toaL (b::d))(e:jE x.toaL (b::d) a.aC h k)(u:∀f:cM a,f.W=x.W->f.c=x.c->d_ f.toaL (b::d)->jE f.toaL (b::d) a.aC h k->v () f.s):aE g.M j (leaving b h) v K x.s:=by
 refine J e.bw<|Ji<|iZ ?_;have c:=e.bu;obtain m|⟨w,A,B,m,jG,D,E,y,z,F⟩:=c
 .exact wpAny_leaving_firstW (base:=BZ x.s.heap<|[e.e]++jH (b::d)) s (ok.frames λG n=>vo _<|lF _ n) t e.he (λp o i=>Rn _ i) (vo _<|by simp) e.hd m e.h0 λH i q r=>NU (Z:=[e.e]) x ok e e.he (λp c=>J (dK.mp c)<|⟨e.yl,e.new,_,_,e.he,e.hd⟩) u i q r
 refine wpAny_leaving_nextW (base:=BZ x.s.heap<|[e.e,w]++jH _) s (ok.frames λG n=>vo _<|lF _ n) t ⟨e.jy,e.cY,w,A,B,e.he,⟨rfl,e.h0⟩,e.hd,m,vo _ (by simp),E,y,z,F⟩
  (λp o i=>Rn _ i) (vo _<|by simp) λH i q r=>?_
 refine NU x ok e e.he (λp c=>?_) u i q r;obtain rfl|c:=cQ.mp c
 .exact⟨e.yl,e.new,_,_,e.he,e.hd⟩
 exact J (dK.mp c)<|⟨jG,D,_,_,y,z⟩
noncomputable def bP.cut(a:bP)(b:Nat):bP:={a with w:=λx=>(a.w x).filter λc=>decide (c<b)}
def bP.Fu{c:bP}(a:(c.cut N).w x=some b):c.w x=some b/\b<N:=by
 have a:(c.w x).filter (λb=>decide _)=some b:=a;rw[anZ] at a;exact⟨a.1,eB a.2⟩
def bP.vU{a:bP}(c:a.w x=some b)(d:b<N):(a.cut N).w x=some b:=by
 show(a.w x).filter (λb=>decide _)=some b;exact lA anZ<|⟨c,gb d⟩
def bP.Uy{a:bP}(b:a.Fr x):(a.cut N).Fr x:=⟨b.1,by
 show(a.w x).filter (λc=>decide _)=none;exact J b.2 rfl⟩
def aV.vU(k:∀b d,b∈f->eZ e M b d->eZ (e.cut N) N b d)(a:aV e M f h):aV (e.cut N) N f h:=
 aV.ext a.cg λi b d ao aA=>k b d (eU ao) (by
  refine aG (a.at_ ao) λj c g=>?_
  rw[aA] at c;cases c;exact g)
def eZ.cut:∀{d},oY N b->eZ f M b d->eZ (f.cut N) N b d:=
 D.rec (motive_1:=λb=>∀{d},oY N b->eZ f M b d->eZ (f.cut N) N b d) (motive_2:=λh=>kg N h->∀b∈h,∀{d},eZ f M b d->eZ (f.cut N) N b d) (λU a=>a) (λU a=>a) (λU {_} U a=>a) (λU {_} U a=>a) (λU {_} U a=>a)
  (λh i {_} g a=>⟨a.1,a.2.imp λl c=>c.imp λm c=>c.imp λk c=>⟨c.1,c.2.1,aV.vU (λb d j=>i (TF g) b j) c.2.2⟩⟩) (λh i {_} g a=>⟨a.1,a.2.imp λl c=>c.imp λm c=>c.imp λk c=>⟨c.1,c.2.1,aV.vU (λb d j=>i (TF g) b j) c.2.2⟩⟩)
  (λk {_} g a=>⟨g,a.2⟩) (λU {_} U a=>a) (λU U U U {_} U a=>a) (λU U j=>nomatch j) (λU U n p g b j {d}=>(cQ.mp j).elim (λe=>Eq.symm e▸@n d g.1) λc=>@p g.2 b c d) b
where
 TF {h:List D} (g:D.rec_1 (motive_1:=λU=>Prop) (motive_2:=λU=>Prop) True True (λU=>True) (λU=>True) (λU=>True) (λU i=>i) (λU i=>i) (λk=>k<N) (λU=>True) (λU U U U=>True) True (λU U a q=>a/\q) h):kg N h:=by
  induction h with
  |nil=>trivial
  |cons b h i=>exact⟨g.1,i g.2⟩
def tf(c:kg N b):∀d∈b,oY N d:=by
 induction b with
 |nil=>exactλU a=>nomatch a
 |cons d b f=>exactλe a=>(cQ.mp a).elim (λg=>g▸c.1)<|f c.2 e
def aV.cut(a:kg N b)(c:aV d M b e):aV (d.cut N) N b e:=aV.vU (λf h g=>eZ.cut<|tf a f g) c
def gG.cut:∀{b:List pP},kg N (d.map (·.2))->gG f h M d b->gG f (h.cut N) N d b:=by
 induction d with
 |nil=>exactλU a=>a
 |cons i d g=>
  intro b c a;obtain _|⟨e,b⟩:=b
  .exact a
  exact⟨a.1,a.2.1,eZ.cut c.1 a.2.2.1,g c.2 a.2.2.2⟩
def k9.cut(c:b<N)(g:t7 N o)(a:k9 d e M f b o):k9 d (e.cut N) N f b o:=by
 obtain j|⟨k,n,j⟩|_|_:=o
 .exact a.imp λl a=>a.imp λm a=>⟨bP.vU a.w c,a.z,a.cu,a.dF.cut g⟩
 .exact a.imp λp a=>a.imp λq a=>a.imp λr a=>a.imp λl a=>a.imp λm a=>⟨bP.vU a.w c,bP.vU a.By c,a.ne,a.z,a.Qn,a.cB,a.hd,a.cu,a.fl.cut g.1,a.dF.cut g.2⟩
 .trivial
 exactλh i=>⟨bP.vU (a h i).1 c,(a h i).2⟩
def th:∀{b:Nat} {o:bI},fU N d->d[b]?=some o->t7 N o:=by
 induction d with
 |nil=>exactλU e=>nomatch e
 |cons x d c=>
  intro b o a e;obtain _|b:=b
  .exact bY e▸a.1
  exact c a.2 e
def Rep.cut(a:Rep f h d j)(l:0<b)(m:b<=H d)(n:fU b (d.take b)):Rep f (h.cut b) (d.take b) j:=by
 have g:(d.take b).length=b:=J qt<|vh m;refine⟨a.cG,a.base,λc o e=>?_,λx c e=>?_,J (QS l)<|a.kC⟩
 .have i:=g▸jw e;rw[g];have k:=e;rw[QS i] at k;exact(a.objs c o k).cut i (th n e)
 obtain⟨ao,aA⟩:=bP.Fu e;exact⟨(a.own x c ao).1,J g<|aA,(a.own x c ao).2.2⟩
def cM.cut(x:cM b)(a:fU (H b.W) (x.W.take (H b.W))):cM b where
 c:=x.c.cut<|H b.W
 W:=x.W.take<|H b.W
 s:=x.s
 R:=x.R.cut (jw b.R.kC) x.le.le.N a
 le:=⟨⟨x.le.le.f,x.le.le.bW,by rw[qt];exact anC.mpr ⟨aS _,x.le.le.N⟩⟩,λd e f=>bP.Uy<|x.le.fr d e f,x.le.keep,x.le.size,x.le.gens,x.le.os⟩
def cM.Fm(x:cM b)(a):(x.cut a).W.length=H b.W:=by
 show(x.W.take<|H b.W).length=_;exact J qt<|vh x.le.le.N
def U9(c:dc b h K)(x:cM b)(g:x.V d f)(a:fin keep (H b.W) d x.W h):K f x.s:=by
 rcases e:(keep||H x.W==H b.W) with _|_
 .replace a:=fR e a;refine c ⟨x.cut a.2.1,f,d,?_⟩ a.2.2;show eZ _ _ _ _;exact J (x.Fm a.2.1)<|eZ.cut a.1 g
 exact c ⟨x,f,d,g⟩<|jJ e a
def Vm(a:b∈jH d):b∈jH (f::d):=by
 exact aG (ve.mp a) λe c g=>ve.mpr ⟨e,.tail _ c,g⟩
def xZ.map{b:aL g}(h:∀d o,b.o d=some o->a.o d=some o)(i:∀d,oR b e d->oR a f d)(j:xZ b e N c x):xZ a f N c x:=by
 exact j.imp id λk=>SN k λl m n p q r s t u=>⟨l,m,n,p,i _ q,r,s,h _ _ t,u⟩
def jE.map{b:aL g}(c:∀d o,b.o d=some o->a.o d=some o)(i:∀d,oR b f d->oR a h d)(e:jE b f N j k):jE a h N j k:=
 {e with he:=c _ _ e.he,kq:=c _ _ e.kq,yl:=i _ e.yl,yo:=i _ e.yo,bu:=e.bu.map c i}
def X2(n:gj d f k K)(a:cM d)(e:jE a.toaL (l::f) d.aC h j)(c:ko (H d.W) j a.W k):K h a.s:=by
 have p:∀g,oR a.toaL (l::f) g->oR a.toaL f g:=λg i=>⟨i.1,λm=>i.2<|Vm m⟩
 rcases m:(H a.W==H d.W) with _|_
 .replace c:=fR m c;exact n ⟨a.cut c.1,h,j,jE.map (b:=a.toaL) (λU U c=>c) (λg i=>⟨bP.Uy i.1,(p g i).2⟩) e⟩ c.2
 exact n ⟨a,h,j,e.map (λU U c=>c) p⟩<|jJ m c
noncomputable def par(a:Inf):Nat:=a.np+(bif a.kw.isSome then 1 else 0)+(bif a.qX then 1 else 0)
def B_(c:G)(b:Inf)(i:oA):Prop:=∀(j:fY) (a:aL c) (as:List D) (d:oS) (e:List aF) (f:List (Str×aF)) (g:List D->Prop) (h:List (Str×aF)->bf->Prop) (X:aF->bf->Prop),
 a.b4 as e->vD a d f->Gu b as d g->(∀x:KO a,H x.d=par b->x.W=a.W->g x.d->h ((b.ns.take<|par b).zip x.v) x.s)->aE c.M j (E4 i ⟨e,f⟩) h X a.s
structure Kw(g:G)(n:Nat)(f:Inf)(fd:oA)(body:List cS):Prop where
 look:∃o,g.K.lookup n=some o/\o.data=.func fd
 body:fd.body=.stmts body
 co:fd.scope.isCoroutine=false
 gen:fd.scope.isGenerator=false
 kind:fd.scope.kind=.function
 gl:fd.globals=l8
 Ag:fd.builtins=oK
 code:∃c o cY t,fd.code=.ref c/\g.K.lookup c=some o/\o.data=.fields cY/\cY[1]?=some (.str fd.qualname t)
 nodup:(fd.scope.names.map (·.1)).Nodup
 low:∀z b,(z,b)∈fd.closure->(g.K.lookup b).isSome=true
 afk:f.ns.Nodup
 HQ:∀x∈f.ns,fd.scope.names.lookup x≠some .free
 afi:∀x∈f.ns.take (par f),lD (fd.scope.names.lookup x)=true
 afj:par f<=f.ns.length
 bind:B_ g f fd
structure zS(n:Nat)(fd:oA)(env:Env):Prop where
 fn:env.func=some n
 fr:env.frame=some env.locals
 code:env.code=fd.code
 scope:env.scope=fd.scope
 cl:∀x,(∀y∈fd.scope.names,y.1=x->y.2≠.cell)->env.cells.lookup x=fd.closure.lookup x
 qual:env.qual=fd.qualname++".<locals>."
def FT(a:b5 b)(h st:List cS)(i:dw):Prop:=∀(c:aL b) (d:List D) (e:eX) (f:er) (g:pQ->bf->Prop) (X:aF->bf->Prop),bQ a c d->i d c.W e f->dG a c e g->e_ a c f X->PySem.wpAt b.M a.A (.func h a.env) (execs st a.env) g X c.s
def l_.deeper(x:l_ b (k+1)):oN (b.deeper e) k:=by
 obtain⟨a,c,d⟩:=x;refine⟨a,?_,?_⟩
 .exact bz (show b.depth+1+3*k+12<=_ by simp+arith) c
 exact bz (show b.units+3+10*k+57<=_ by simp+arith) d
def Rep.Xx(a:Rep e h j b)(c:e.h.Ns d f)(g:d∉fh):b.Ns d f:=c.imp λo b=>b.imp λi b=>b.imp λk b=>⟨a.cG _ _<|a.base _ _ b.1 g,b.2⟩
def Mq(N:l.h.NoLimit)(X:Kw l s m f B)(K:n.frames=some A)(aU:l_ n (k+1))(qR:oO l L k)(nj:∀Γ:b5 l,zS s f Γ.env->(∀x,Γ.lT x=true)->Γ.ns=m.ns->Γ.cf=L->Γ.k=k->Γ.fr=Γ.env::A->Γ.A=n.deeper Γ.env->FT Γ B B M):oQ l n A (.ref s) (rm m M):=λa as ks cY nt Q Z KL ok bw cB h dY n7=>by
 refine aG X.look λo cu hd=>F4 X.code λjP jU CP Fh O P R S=>codeAny_call_function (bz (az (cZ ..)<|cZ ..) aU.d) (a.c8 s o cu) hd X.co X.gen X.body ⟨jP,jU,CP,Fh,O,a.c8 _ _ P,R,S⟩ (X.bind n.in1 a as ks cY nt _ _ _ bw cB h λx r VK q=>?_)
 unfold js;refine ak<|Ff (o:={cls:=.type "frame",data:=.dict #[]}) ?_;refine ak<|kn _ (λname kind cells=>by cases T:kind==zp<;>simp[T]) _ _ _ _ ?_
 rw[show({x.s with heap:=x.s.heap.push {cls:=.type "frame",data:=.dict #[]}}:bf).heap.objs.size=x.aC+1 from f5 ..];let g:=newEnv f.scope x.aC f.globals (pW (x.aC+1) f.scope.names f.closure) (f.qualname++".<locals>.") (some s) f.code none f.builtins;have E:k6 x.toaL f.scope.names m.ns f.closure g:=⟨rfl,rfl,X.nodup,λU h=>h,λy h=>by
  have h:=h;unfold kM at h;rw[lY] at h;exact h.imp ck ck⟩
 have C:zO x.toaL f.scope.names m.ns [] f.closure:=⟨λi y c t=>aW t (X.HQ y (eU c)),λy U U c U t=>aW t (X.HQ y c),λz p hm=>by
  obtain⟨cJ,V⟩:=xB.mp<|X.low z p hm;exact dJ (x.c8 p cJ V)⟩
 let Γ:b5 l:=⟨n.deeper g,g,m.ns,λU=>true,g::A,k,L,Qo K,aU.deeper,qR,X.kind,X.gl,X.Ag,X.afk,λy p=>E.ne C y p,λy z p=>E.ap C y z p⟩;let b:=x.frame {cls:=.type "frame",data:=.dict #[]} f.scope.names;have W:d_ b.toaL (g::A):=λe w=>by
  obtain rfl|w:=cQ.mp w
  .exact⟨by show f.scope.kind≠_;exact J X.kind<|(λq=>nomatch q),x.aC,_,_,_,rfl,Kc _ _ _ {cls:=.type "frame",data:=.dict #[]}<|g_ _ rfl,rfl,x.fresh<|aS _⟩
  exact(ok.le x.le λU U h=>h).le b.le (λU U h=>h) e w
 have F:=k6.C_ (Γ:=Γ) E C (EN ..) W (λi y d c U n6=>by
  rw[List.getElem?_replicate,dI<|jw c] at n6;exact(bY n6).symm) λi y d c t=>aW t (X.HQ y (eU c))
 have low:∀p,Γ.own p->x.aC<=p:=λp jT=>by
  obtain rfl|⟨y,D,_,Y,r⟩:=jT
  .exact aS _
  exact(E.at_ (J (show g.kindOf y=_ from Y) rfl) r).elim (λh=>oF h.2) λh=>aW h.1<|X.HQ y D
 refine ak (ajq (λU U U=>rfl) x.d _ x.v 0 _ b.toaL _ F (x.bw.mono b.le.le) (J x.bw.cg<|J r<|J qt<|J (vh X.afj)<|aS _) (λj y h=>J (i8 ..)<|(QS (by have:=jw h;rw[qt] at this;exact bZ this<|BR ..)).symm.trans h) (λx h=>⟨X.afi x h,rfl⟩) λu ao vv=>aK ?_);rw[i8,List.drop_replicate] at vv;have G:∀y:aL l,bJ Γ.own u.toaL y->lJ a y:=λy le=>x.le.bS ((((b.le.of0).bS u.le).bS le).up λp r h=>aW r<|bA.mpr<|low p h)
 refine⟨N.imp λaeD q=>⟨u.R.Xx q.1 av,q.2⟩,ks_codeAny_funcAt ((nj Γ ⟨rfl,rfl,rfl,rfl,λy D=>CJ _ _ _ _ D,rfl⟩ (λU=>rfl) rfl rfl rfl rfl rfl) u.toaL _ _ _ _ _ vv (J (ao.trans VK)<|q) (λy q=>?_) λy q=>?_)⟩
 .have hf:=y.hf;revert q;exact rT.C1 hf (λq=>U9 dY ⟨y.toaL,G _ y.le⟩ (d:=.none) rfl q) (λq=>bO q) (λq=>bO q) λd v bw q=>U9 dY ⟨y.toaL,G _ y.le⟩ bw q
 exact W2 ⟨y.toaL,G _ y.le⟩ (Qo K) rfl y.ok (y.e.le<|az x.le.size<|az b.le.size u.le.size) λz ao aA afv e=>X2 n7 z e<|ao▸q
def oe{a:bP}(c:∀x∈b,a.Fr x)(f:a.w x=some d):(a.adopt N e b).w x=some d:=by
 show(bif b.contains x then some N else a.w x)=_;rwa [show b.contains x=false from Jv.mpr λg=>(c x<|nK.mp g).nw f rfl]
def Ga{a:bP}(g:∀x∈b,a.Fr x):a.le N (a.adopt N d b) (N+1):=⟨λU U e=>e,λc f=>by
 show(bif c==N then d else a.bW c)=_;exact J (jO (kI f)) rfl,gy N⟩
def r6{a:bP}:(a.adopt N b d).bW N=b:=by
 show(bif N==N then b else a.bW N)=_;exact J (beq_self_eq_true ..) rfl
def Cy{a:bP}(c:x∈b):(a.adopt N d b).w x=some N:=by
 show(bif b.contains x then some N else a.w x)=_;exact J (nK.mpr c) rfl
def Rep.adopt(g:Rep j f b h)(m:∀x∈d,f.Fr x/\x<h.objs.size)(q:k9 j.w.params (f.adopt (H b) l d) (H b+1) h (H b) o):Rep j (f.adopt (H b) l d) (b++[o]) h where
 cG:=g.cG
 base:=g.base
 objs:=λa r e=>by
  rw[bq,EO];obtain i|i:=pV a<|H b
  .rw[zl i] at e;exact k9.keep (Ga λx p=>(m x p).1) i (λc v s t=>⟨oe (λx p=>(m x p).1) s,t⟩)<|g.objs a r e
  rw[QN i] at e;rcases c:a-(H b) with _|k
  .rw[c] at e;cases e;rw[show a=(H b) from pU (anE c) i];exact q
  rw[c] at e;contradiction
 own:=λx a e=>by
  rw[bq,EO];by_cases c:x∈d
  .rw[Cy c] at e;cases e
   exact⟨(m x c).1.1,f6 _,(m x c).2⟩
  have n:(bif d.contains x then some (H b) else f.w x)=some a:=e;rw[show d.contains x=false from Jv.mpr λu=>c<|nK.mp u] at n;exact⟨(g.own x a n).1,tN (g.own x a n).2.1,(g.own x a n).2.2⟩
 kC:=by rw[zl<|jw g.kC];exact g.kC
def cM.adopt(x:cM a)(f)(d)(h:∀b∈d,x.c.Fr b/\b<x.aC)(l:∀b∈d,a.aC<=b)(m:k9 g.w.params (x.c.adopt (H x.W) f d) (H x.W+1) x.s.heap (H x.W) o):cM a where
 c:=x.c.adopt (H x.W) f d
 W:=x.W++[o]
 s:=x.s
 R:=x.R.adopt h m
 le:=⟨⟨x.le.le.f,λi j=>((Ga λb n=>(h b n).1).bW i (bZ j x.le.le.N)).trans (x.le.le.bW i j),by rw[bq];exact az x.le.le.N (cZ _ _)⟩,λb k e=>⟨(x.le.fr b k e).1,by
  show(bif d.contains b then some (H x.W) else x.c.w b)=none
  rw[show d.contains b=false from Jv.mpr λp=>aW e<|bA.mpr<|l b<|nK.mp p]
  exact(x.le.fr b k e).2⟩,x.le.keep,x.le.size,x.le.gens,x.le.os⟩
def i_.own(h:dc d e K):i_ d (λf b=>e (.loc (H b)) (b++[.lst f])) K:=λx i=>by
 have g:∀c∈[x.p],x.c.Fr c:=λc a=>J (dK.mp a)<|x.fr
 refine h ⟨x.tocM.adopt x.p [x.p] (λc a=>⟨g c a,J (dK.mp a)<|dJ x.cu⟩) (λc a=>J (dK.mp a)<|x.new) (o:=.lst x.d) ⟨x.v,x.m,by rw[r6];exact Cy<|.head _,x.z,J r6<|x.cu,x.bw.mono<|Ga g⟩,.ref x.p,.loc<|H x.W,?_⟩ i;exact⟨by show _<(x.W++[_]).length;exact J bq<|f6 _,aZ kJ r6.symm⟩
def aj0{pos:Pos}{x:Str}(v:z.ns[N]?=some x) (l:tg (z.env.kindOf x)=true) (w:(x==("__debug__":Str))=false) (n:(x==("__classdict__":Str))=false):cD z (.Name x pos) (LS N):=λa P Q R S X y h A T=>by
 refine aG (ji h) λB e h=>?_
 have D:B≠.ai:=λc=>by subst c;exact h
 refine nR (HH y v l n e D λV E=>?_) w;refine Oi E h λd F p q s j c=>?_
 let i:bP:=⟨λb=>bif b==a.c.bW d then some (eV p q) else a.c.f b,a.c.bW,λb=>bif b==a.c.bW d then none else a.c.w b⟩;have ne:∀{b},b≠a.c.bW d->i.f b=a.c.f b/\i.w b=a.c.w b:=λ{b} c=>by
  show(bif b==a.c.bW d then _ else _)=_/\(bif b==a.c.bW d then _ else _)=_;exact J (jO c)<|⟨rfl,rfl⟩
 have le:a.c.le (H a.W) i (a.W.set d .dead).length:=⟨λb o c=>(ne λf=>by rw[f,(a.R.own _ d j.w).1] at c;contradiction).1.trans c,λU U=>rfl,J gM<|aS _⟩;have t:i.f (a.c.bW d)=some (eV p q):=by show(bif a.c.bW d==a.c.bW d then _ else _)=_;exact J (beq_self_eq_true ..) rfl
 have G:i.w (a.c.bW d)=none:=by show(bif a.c.bW d==a.c.bW d then _ else _)=_;exact J (beq_self_eq_true ..) rfl
 have K:∀{b k},i.w b=some k->b≠a.c.bW d:=λ{b k} h c=>by rw[c,G] at h;contradiction
 have L:Rep g i (a.W.set d .dead) a.s.heap:=by
  refine⟨λb o c=>?_,λb o c n=>le.f b o<|a.R.base b o c n,λk o c=>?_,λb k c=>?_,?_⟩
  .by_cases f:b=a.c.bW d
   .rw[f,t] at c;cases c;exact J f<|j.cu
   exact a.R.cG b o<|(ne f).1.symm.trans c
  .by_cases l:d=k
   .subst l;rw[vd<|jw s] at c;cases c;trivial
   rw[nL l] at c;exact k9.keep le (jw c) (λb f u M=>⟨(ne λO=>l<|bY<|j.w.symm.trans<|O▸u).2.trans u,M⟩)<|a.R.objs k o c
  .have f:=K c;have r:=(ne f).2.symm.trans c;exact⟨(ne f).1.trans (a.R.own b k r).1,J gM<|(a.R.own b k r).2.1,(a.R.own b k r).2.2⟩
  exact J (nL λf=>by subst f;exact CG (aZ bI.k<|bY<|s.symm.trans a.R.kC) rfl)<|a.R.kC
 exact A ⟨⟨⟨i,a.W.set d .dead,a.s,L⟩,⟨le,λb m U=>⟨(ne (m.nw j.w).symm).1.trans m.1,(ne (m.nw j.w).symm).2.trans m.2⟩,λU U U U e=>.ff e,aS _,⟨λU U h=>h,λh=>h⟩,rfl⟩⟩,.ref _,.lst F,j.z,a.c.bW d,p,q,rfl,t,j.dF.mono le⟩ c
def KY(b:G)(g:fY)(h:List Env)(i:b3):Prop:=∀(a:aL b) (c:D) (d:aF) (e:Ok Bool) (f:Bool->bf->Prop) (X:aF->bf->Prop),d_ a h->a.V c d->mR i c a.W e->vC a e f->aE b.M g (truthy d) f X a.s
def Z6(c:KY g z.A z.fr f)(n:cD z i h)(p:Rg i z.env (eval i z.env)=(do let d<-eval i z.env;vq i.pos;holding [d] (truthy d))):St z i (λb j k e=>h b j (λl m=>mR f l m k) e):=λq b v e w X a r s t=>
 isTrue_plain (n q b _ _ _ _ a r (λx u=>c x.toaL x.d x.v _ _ _ (a.to x.le).ok x.bw u<|s.le x.le) t) p
def a4(e:KY g z.A z.fr b)(f:cD z i d.v):cD z (.UnaryOp .Not i pos) (HM b d).v:=λh j p q r X c k l m=>
 UnaryOp_ (f h j _ _ _ _ c k (λx a=>not_of (e x.toaL x.d x.v _ _ _ (c.to x.le).ok x.bw a λn s a=>eG ((l.le x.le).le n.le) (tY _) a)) m)
def ajl(a:St b i d.t):St b (.UnaryOp .Not i pos) (HM e d).t:=λc f m n p X g h j k=>isTrue_not<|a c f _ _ _ _ g h (λx q l=>j x _ l) k
def aj2{aA bL:aI}(k:St b i d.t)(l:cD b aA e.v)(m:cD b bL f.v):cD b (.IfExp i aA bL pos) (HL cf d e f).v:=λn a r s t X c p h g=>IfExp_ (k n a _ _ _ _ c p (λx q j=>by
 cases q with
 |true=>exact l x.toaL a _ _ _ _ (c.to x.le) j (h.le x.le)<|g.le x.le
 |false=>exact m x.toaL a _ _ _ _ (c.to x.le) j (h.le x.le) (g.le x.le)) g)
def ajk{aA bL:aI}(k:St b i d.t)(l:St b aA e.t)(m:St b bL f.t):St b (.IfExp i aA bL pos) (HL cf d e f).t:=λn a r s u X c p h g=>isTrue_IfExp (k n a _ _ _ _ c p (λx q j=>by
 cases q with
 |true=>exact l x.toaL a _ _ _ _ (c.to x.le) j (h.le x.le)<|g.le x.le
 |false=>exact m x.toaL a _ _ _ _ (c.to x.le) j (h.le x.le) (g.le x.le)) g)
def Sq(a:b5 b)(c:List aI)(d:aI->bB):Prop:=∀e∈c,cH a e<|d e
def vH(c:b5 b)(d:List pS)(i:List bB):Prop:=∀(pos:Pos) (a:aL b) (e:List D) (f:Ok (List D)) (g:er) (h:List aF->bf->Prop) (X:aF->bf->Prop),bQ c a e->gc i e a.W f g->Ci a (H d) f h->gj a c.fr g X->aE b.M c.A (evalAll ((xC pos<|zB d c.env).map (·.2))) h X a.s
def IK:vH b [] []:=λpos a f g h i X j c d k=>aK<|d ⟨⟨a,bJ.same rfl rfl (λU U U U e=>.ff e) (aS _) rfl rfl⟩,[],[],rfl⟩ rfl c
def Nr(a)(pos):∀b,(xC pos (zB b a)).map (·.1)=b.map (·.arg):=λb=>by
 induction b with
 |nil=>rfl
 |cons k b c=>
  obtain⟨d,e,f⟩:=k;exact aZ _ c
def WQ{a:List (Option Str×Sem aF)}:∀{b:List pS},a.map (·.1)=b.map (·.arg)->b.all (λk=>k.arg.isSome)=true->a.all (·.1.isSome)=true/\a.any (·.1.isNone)=false/\a.filterMap (·.1)=o7 b:=by
 induction a with
 |nil=>
  intro b c _;obtain _|_:=b
  .exact⟨rfl,rfl,rfl⟩
  contradiction
 |cons j a e=>
  intro b c k;obtain _|⟨f,b⟩:=b
  .contradiction
  rw[i6,i6,List.cons.injEq] at c;rw[nJ,bl] at k;refine iT (e c.2 k.2) λg h i=>?_
  obtain⟨x,d⟩:=xB.mp k.1;rw[nJ,xh,tH,c.1.trans d,g,h,i];exact⟨rfl,rfl,by show _=f.arg.getD ""::o7 b;exact J d rfl⟩
def noStar(c:jh b=true)(d)(pos):(tP pos (qx b d)).any (·.1)=false:=by
 induction b with
 |nil=>rfl
 |cons e b f=>
  have a:=(bl ..).mp<|(nJ ..).symm.trans c;exact J (wN a.1 ..)<|f a.2
def adl:∀(d:List Str) b e,aV f N b e->((d.zip e).map (·.1)=(d.zip b).map (·.1))/\aV f N ((d.zip b).map (·.2)) ((d.zip e).map (·.2)):=λd=>by
 induction d with
 |nil=>exactλU U U=>⟨rfl,rfl⟩
 |cons j d a=>
  intro b e c;obtain _|⟨k,b⟩:=b
  .exact aV.no ⟨rfl,rfl⟩ c
  exact aV.un (λl g i h=>⟨aZ _ (a b g h).1,i,(a b g h).2⟩) c
def Ad{dj dh:List bB}{P:List D->oS->aN->Prop}(t:jh f=true)(H:d.all (λk=>k.arg.isSome)=true)(L:lI g l)(M:m5 z f dj)(N:vH z d dh)(u:bQ z a r)(i:gc dj r a.W (λas s=>gc dh r s (λA B=>P as ((o7 d).zip A) B) m) m)(O:∀(b:cM a) as n h j,b.b4 as h->vD b.toaL n j->P as n b.W->aE g.M z.A (call l (first++h) j) K E b.s)(v:gj a z.fr m E):
 aE g.M z.A (ik pos l first (tP pos<|qx f z.env)<|xC pos<|zB d z.env) K E a.s:=by
 refine iT (WQ (Nr z.env pos d) H) λw Q R=>zA (J (noStar t ..)<|J Q rfl) (λi E=>L i E) ?_
 have p:aE g.M z.A _ (λh c=>aE g.M z.A _
  (λj S=>(λ(a:Args) c=>g.K.In c.heap/\aE g.M z.A (call l (first++a.pos) a.kw) K E c) ⟨h,((xC pos _).filterMap _).zip j⟩ S) E c) E a.s:=
  M pos a r _ _ _ _ u i (λx U q=>N pos x.toaL r _ _ _ _ (u.to x.le) q (λb U q=>⟨b.c8,by
   rw[R];have y:=adl (o7 d) b.d b.v b.bw;exact O ⟨b.toaL,x.le.bS b.le⟩ x.d _ x.v _ (x.bw.mono b.le.le) ⟨y.1,y.2⟩ q⟩) (v.le x.le)) v
 obtain _|⟨e,f⟩:=f
 .exact aog w λz F G=>p z F G z F G
 have T:=(bl ..).mp ((nJ ..).symm.trans t);rw[wN T.1] at p⊢;exact iv w p
def LA{m:aL g}{dj dh:List bB}(q:jh f=true)(s:b.all (λk=>k.arg.isSome)=true)(i:lI g h)(t:m5 z f dj)(u:vH z b dh)(v:ic g z.A z.fr h first j m)(le:lJ m a)(n:bQ z a r)(w:CR dj dh (o7 b) j r a.W d e)(x:dc a d K)(p:gj a z.fr e E):
 aE g.M z.A (ik pos h first (tP pos<|qx f z.env)<|xC pos<|zB b z.env) K E a.s:=
 Ad (P:=λas l y=>j as l y d e) q s i t u n w (λc as l A B D i F=>v c.toaL as l A B d e K E (le.bS c.le) (n.to c.le).ok D i F (x.le c.le)<|p.le c.le) p
def oQ.call(a:oQ b d e f h):ic b d e f [] h j:=λc as g i k l m t X U ok n p q r s=>pX<|a c as g i k l m _ ok n p q r s
def Fq(b:G)(c:fY)(d:List Env)(e:b3):Prop:=∀(a:Nat) (f:aL b),1000<=a->ic b c d (nh a) [] (λas g h i U=>Ub e a as g h i) f
def FF(b:G)(d:fY)(e:List Env)(f:b3):Prop:=∀(a c:Nat) (g:aL b),gU.lookup a=some c->ic b d e (.ref a) [] (λas h i j U=>nul h<|N7 f a c as i j) g
def VE(a:b<1000):nh b=.ref b:=by unfold nh;exact J (eS<|gO.mpr a) rfl
def aaQ(f:1000<=d):lI b (nh d):=by
 unfold nh;rw[gb f];have:∀{c:List aF} {k:Nat},(∀a∈c,lI b a)->lI b (c.getD k .none):=λ{c}=>by
  induction c with
  |nil=>exactλU h U=>⟨.machine,.inr<|.inl rfl,zo rfl⟩
  |cons a c g=>exactλ{k} f=>zq k (f a<|.head _) λk=>g λa e=>f a<|.tail _ e
 refine this λa e=>?_
 unfold Lr at e;simp only[cQ,BJ,or_false] at e;obtain rfl|rfl|rfl|rfl|rfl|rfl|rfl|rfl|rfl|rfl|rfl|rfl|rfl|rfl|rfl:=e<;>first|exact .bi|exact .ty
def Vg(m:gP g)(p:Fq g z.A z.fr z.cf)(q:FF g z.A z.fr z.cf)(i)(r:i.V f h)(a:G1 z.cf f k)(l:∀b d,lI g b->ic g z.A z.fr b [] d i->k d->u b):u h:=by
 refine CU r a λc a=>?_
 rcases e:decide (1000<=c) with _|_
 .have s:=gO.mp (of_decide_eq_false e);rw[VE s];replace a:=fR e a;rcases j:gU.lookup c with _|t
  .rw[j] at a;have n:=m.keep c<|nK.mp a.1;exact l _ _ (.of_K n.1) (z.qR c z.A z.fr n.2 z.qT z.aU.ok).call a.2
  rw[j] at a;exact l _ _ (.of_K (m.WM c (by unfold lP;exact J j rfl)).1) (q c t i j) a
 exact l _ _ (aaQ<|eB e) (p c i<|eB e)<|jJ e a
def uh(c:(sF i).isNone=true)(a):eval (.Call i b d pos) a=(do ik pos (<-eval i a) [] (tP pos (qx b a)) (xC pos (zB d a))):=A0 c (by rcases i<;>first|exact rj _ _|exact .inr rfl)
def ajX{dj dh:List bB}(h:gP g)(j:Fq g z.A z.fr z.cf)(l:FF g z.A z.fr z.cf)(m:(sF i).isNone=true)(n:jh d=true)(p:b.all (λk=>k.arg.isSome)=true)(q:cD z i e.v)(r:m5 z d dj)(s:vH z b dh):
 cD z (.Call i d b pos) (LQ z.cf e dj dh<|o7 b):=λt u B D E X c v w f=>by
 refine J (uh m ..)<|ak<|q t u _ _ _ _ c v (λx a=>?_) f;exact Vg h j l x.toaL x.bw a λF G y A a=>LA n p y r s A (bJ.same rfl rfl (λU U U U i=>.ff i) (aS _) rfl rfl) (c.to x.le) a (w.le x.le)<|f.le x.le
def Ar(o:aI)(name:Str)(c:Pos)(args:List aI)(keywords:List pS)(pos:Pos)(a:Env):eval (.Call (.Attribute o name c) args keywords pos) a=(do
 let b<-rO o name a<|eval o a
 vq c.atName
 xH o name c pos a b (H args+H keywords) (tP pos (qx args a)) (xC pos (zB keywords a))):=rfl
def Sf(b:G)(d:fY)(j:List Env)(l:b3):Prop:=∀(a:aL b) (e:D) (f:aF) (g:Str) (k:Call->Prop) (m:Sem Bool) (h:aF×List aF->bf->Prop) (X:aF->bf->Prop),
 a.V e f->pg l a.W e g k->(∀(c:aF) (first:List aF) (i:Call),lI b c->ic b d j c first i a->k i->h (c,first) a.s)->aE b.M d (vn f g m) h X a.s
def aj4{dj dh:List bB}{a:Str}(q:Sf g z.A z.fr z.cf)(r:∀e,rO i a z.env e=e)(s:f.endLine=pos.line)(t:H d+H b+(bif b.isEmpty then 0 else 1)<30)(l:jh d=true)(m:b.all (λk=>k.arg.isSome)=true)(u:cD z i h.v)(v:m5 z d dj)(w:vH z b dh):cD z (.Call (.Attribute i a f) d b pos) (CV z.cf h a dj dh (o7 b)):=λy A N O P X n c B p=>by
 refine J (Ar ..)<|J (r ..)<|ak<|u y A _ _ _ _ n c (λx j=>ak<|j_ ?_) p;refine iT (WQ (Nr z.env pos b) m) λD Q R=>?_
 have E:zC (H d+H b) (tP pos<|qx d z.env) (xC pos<|zB b z.env)=true:=by
  unfold zC;have F:(tP pos<|qx d z.env).all (!·.1)=true:=by
   have:=noStar l z.env pos;rw[am4];simpa using this
  have G:=by simpa using aZ List.isEmpty (Nr z.env pos b)
  rw[F,D,G];simp only[Qs,decide_eq_true_eq];revert t;cases b.isEmpty<;>exactλc=>c
 unfold xH;refine J E<|ak<|fT ?_;refine q x.toaL x.d x.v a _ _ _ _ x.bw j λS first T K L j=>ak ?_
 have M:vp true i z.env f pos=pure pos:=by
  unfold vp;rw[s];simp
 rw[M];exact aK<|LA l m K v w L (bJ.same rfl rfl (λU U U U i=>.ff i) (aS _) rfl rfl) (n.to x.le) j (B.le x.le)<|p.le x.le
def ad8(c)(a b):rP c a b=rP (.List [] default) a b\/rP c a b=pure ():=by
 have d:pure ()=rP (.List [] default) a b\/pure ()=(pure ():Sem Unit):=.inr rfl;rcases c<;>first|exact(rj (rP (.List [] default) a b)<|rP (.List [] default) a b=pure ())|exact d
def AO(c:y.heap.get? I=some o)(g:o.cls=.type n)(i:["enumerate","zip","dict_itemiterator","dict_reverseitemiterator","odict_iterator","itertools.zip_longest","itertools.pairwise"].contains n=false)(a:b () y):aE M f (rP h (.ref I) d) b j y:=by
 obtain e|e:=ad8 h _ d
 .rw[e];cases d with
  |ref l=>
   refine ak<|zH c ?_;obtain⟨m,p,k,q⟩:=o;subst g;cases k with
   |fields r=>
    show aE M f (if _ then _ else _) b j y;exact J i<|aK a
   |_=>exact aK a
  |_=>exact aK a
 rw[e];exact aK a
def XR(hit:y.heap.IsListIter d b N)(i:y.heap.get? b=some h)(m:h.data=.seq f k)(n:f[N]?=some x) (p:∀e,e.IsListIter d b (N+1)->j6 d y.heap e->j (some x) {y with heap:=e}):
 aE g.M l (qw<|.ref d) j K y:=by
 refine dm (id hit) λo c q a=>ak (xK (xM hit.typeIs Ke
  (pY Ke hit.typeIs aof ?_ (an_ _))))
 show aE _ _ (field _ 0>>=_) _ _ y;refine ak<|gF c a (x:=.ref b) rfl ?_;refine J (cE<|show¬((kJ b==Value.none)=true) from gX)<|ak<|gF c a rfl ?_;refine ak<|mW i m ?_
 dsimp only
 rw[show f[(N:Int).toNat]?=_ from n];refine ak<|RC c a (by simp)<|aK ⟨x,rfl,aK<|p _ ?_<|rI ..⟩;exact⟨_,JB _ c (h5 (E0 a _)),(anV ..).trans q,by
  rw[E0 a];simp[lG]⟩
def XO(i:d.handled=none)(hit:y.heap.IsListIter e b N)(m:y.heap.get? b=some j)(n:j.data=.seq f l)(p:f[N]?=none) (q:∀h,zg e y.heap h->k none {y with heap:=h}):aE g.M d (qw (.ref e)) k K y:=by
 refine dm (id hit) λo a r c=>ak (xK (xM hit.typeIs Ke
  (pY Ke hit.typeIs aof ?_ (an_ _))))
 show aE _ _ (field _ 0>>=_) _ _ y;refine ak<|gF a c (x:=.ref b) rfl ?_;refine J (cE<|show¬((kJ b==Value.none)=true) from gX)<|ak<|gF a c rfl ?_;refine ak<|mW m n ?_
 dsimp only
 rw[show f[(N:Int).toNat]?=_ from p];refine ak<|mV<|ak<|RC a c (by simp) ?_;refine ak<|ak<|l9 ?_<|by size_fits
 refine ak<|tS (by first|rfl|rfl) ?_
 refine l9 ?_<|by size_fits
 refine ak<|wpAny_handled ?_;refine J (show d.in1.handled=none from i)<|ak<|aK<|wpAny_throw ?_;refine ak<|Fg ⟨_,g_ _ rfl,rfl⟩ i2 ?_;exact aK<|q _<|((rI ..).extBut.push _).push _
def XQ(k:b.K.In y.heap)(l:gP b)(I:InstAt y.heap x f 236 h)(p:d (.ref y.heap.objs.size) {y with heap:=y.heap.push {cls:=.type "list_iterator",data:=.fields #[.ref x,.int 0 0]}}):aE b.M e (qv (.ref x)) d K y:=by
 have one:∀m:Sem aF,aE b.M e (callSpecialIfBoundUnlessNone? (.ref x) "__iter__" m) (λi c=>∃a,i=some a/\(∃g j,c.TypeIs a g/\Rt (.type g) "__next__"=pure (some j)/\d a c)) K y:=by
  intro m;have fin:aE b.M e (if(Value.builtin "list.__iter__"==Value.none)=true then(m>>=λa=>pure<|some a) else(call (.builtin "list.__iter__") [.ref x]>>=λa=>pure<|some a)) (λi c=>∃a,i=some a/\(∃g j,c.TypeIs a g/\Rt (.type g) "__next__"=pure (some j)/\d a c)) K y:=by
   refine J (cE av)<|ak<|DK (n:="__iter__") k I l.sub slot_list_iter bC (.inl bC) entry_list_iter (args_list_iter _) ?_;show aE _ _ (do ret<|<-Ka "list_iterator" [.ref x,lG 0]) _ _ y;exact ak<|l9<|aK ⟨_,rfl,aK ⟨_,rfl,"list_iterator",_,⟨_,g_ _ rfl,rfl⟩,Ke.lookup,p⟩⟩
  refine fT<|ak<|ak<|ak<|I.type.here<|(mU k l.iter).here ?_;refine ak<|km<|wpAny_ite ?_;split
  .exact ak<|aK<|aK fin
  exact wpAny_tryCatch<|ak<|aK<|aK fin
 refine ak<|ak<|I.type.here<|(mU k l.iter).here ?_;refine ak (fq (one _) (λi c q=>?_) λU U r=>r);obtain⟨a,rfl,g,j,s,t,u⟩:=q;exact ak<|zJ s t<|aK u
def aL.ex(a:aL d)(c:a.c.Fr f)(g:zg f a.s.heap b)(h:a.aC<=b.objs.size)(i:Nat):aL d:=⟨a.c,a.W,{a.s with heap:=b,toks:=i},a.R.but (λx o j e=>g x o (λk=>j (by rw[k];exact c)) e) h⟩
def bJ.ex{S:List bG}(g)(a:zg f b.s.heap d)(c)(h)(i:f∈S):bJ (· ∈S) b (b.ex g a c h):=bJ.same rfl rfl (λx o k d e=>.ff<|a x o (λj=>d<|j▸i) e) c rfl rfl
def drop_cons{a b:List w}{c:w}(d:c::b=a.drop N):a[N]?=some c/\b=a.drop (N+1):=⟨bH QU<|bH d rfl,bH anw<|bH d rfl⟩
def drop_nil{a:List w}(b:[]=a.drop N):a[N]?=none:=bH QU<|bH b rfl
def lK.cell(c:lK o b)(f:o.data=.fields d):b=some o:=by
 refine aG c λeW e a=>?_
 obtain⟨g,h,a⟩|a:=a
 .rw[f] at a;contradiction
 rw[e,a]
def FZ(d:aL b->Prop)(e I:bG)(f g:List D)(a:aL b):Prop:=∃c,g=f.drop c/\a.s.heap.IsListIter I e c/\a.c.Fr I/\d a
def KR(ok:aN->Prop)(g:bG)(h:List D)(d:aL b->Prop):Prop:=(∀a,d a->∃e f i,a.o g=some e/\e.data=.seq f.toArray i/\a.b4 h f)/\∀a c j,d a->bJ j a c->(c.W=a.W\/ok c.W)->d c
def Ng{v:aL b->Prop}(l:KR ok d e v)(aU:f.handled=none):qA b f h ok [I] I (FZ v d I e) where
 item:=λa O w y X st k=>by
  refine nV st λg j hit c i=>?_
  obtain⟨m,E⟩:=drop_cons j;refine kc (l.1 a i) λF z G ao aA r=>?_
  refine aG (r.at_ m) λs ev H=>?_
  refine XR hit ao aA (x:=s) (by rw[gY];exact ev) λK A p=>⟨s,rfl,?_⟩
  refine dm (id A) λo q t U=>?_
  refine AO (n:="list_iterator") q t av ?_;have le:=bJ.ex (S:=[I]) c p.extBut (di p.1.symm) a.s.toks<|.head _;exact k (a.ex c p.extBut (di p.1.symm) a.s.toks) s le rfl H ⟨g+1,E,A,c,l.2 _ _ _ i le<|.inl rfl⟩
 done:=λa y X st k=>by
  refine nV st λg j hit c i=>?_
  refine kc (l.1 a i) λF z G ao aA r=>?_
  have L:z.toArray[g]?=none:=by
   rw[gY];obtain u|⟨_,_,u,_⟩:=r.get g
   .exact u.2
   rw[drop_nil j] at u;contradiction
  exact iZ (XO aU hit ao aA L λK B D=>k (a.ex c B D a.s.toks) (bJ.ex c B D a.s.toks<|.head _) rfl)
 keep:=λa P w Q st x M N=>by
  obtain⟨g,j,⟨o,q,t,m⟩,c,i⟩:=st;exact⟨g,j,⟨o,(x.keep I o c (M I<|.head _) q).cell m,t,m⟩,x.fr I c<|dJ q,l.2 _ _ _ i x N⟩
 self:=λa w y X st k=>by
  refine nV st λg j hit c i=>?_
  exact RB hit k
def ah0:KR ok e f (λb:aL j=>b.c.f e=some (eV d h)/\b.b4 f d):=⟨λb a=>⟨_,d,h,b.R.cG _ _ a.1,rfl,a.2⟩,λb c g a x U=>⟨x.le.f _ _ a.1,a.2.mono x.le⟩⟩
def OP:KR (λj=>∃b,obj j f=.inst 236 b h) k h (λd:aL l=>(∃b,d.W[f]?=some (.inst 236 b h))/\d.c.bW f=k):=⟨λd a=>by
 obtain⟨b,e⟩:=a.1;exact vM (d.R.objs f _ e) λp q r g i c=>⟨_,g,i,a.2▸c.cu,rfl,c.dF⟩,λd s t a x m=>⟨m.elim (λe=>e▸a.1) λe=>e.imp λb e=>by
  exact aG (ez (P:=λo=>o=.inst 236 b h) (λn=>CG (aZ bI.k n) rfl) e) λo ao aA=>aA▸ao,a.1.elim λb e=>(x.le.bW f (jw e)).trans a.2⟩⟩
def SA(c I:bG)(d g:List D)(a:aL b):Prop:=∃e f h,g=d.drop e/\a.s.heap.IsTupleIter I c e/\a.c.Fr I/\a.c.f c=some (qn f h)/\a.b4 d f
def acP(aU:b.handled=none):qA d b e ok [I] I (SA f I h) where
 item:=λa K w y X st m=>by
  refine x_ st λg i p j hit c k l=>?_
  obtain⟨q,D⟩:=drop_cons j;refine aG (l.at_ q) λt ev E=>?_
  refine aoA hit (nq<|a.R.cG _ _ k) (x:=t) (by rw[gY];exact ev) λF z r=>⟨t,rfl,?_⟩
  refine dm (id z) λo s u U=>?_
  refine AO (n:="tuple_iterator") s u av ?_;exact m (a.ex c r.extBut (di r.1.symm) a.s.toks) t (bJ.ex c r.extBut (di r.1.symm) a.s.toks<|.head _) rfl E ⟨g+1,i,p,D,z,c,k,l⟩
 done:=λa y X st m=>by
  refine x_ st λg i p j hit c k l=>?_
  have G:i.toArray[g]?=none:=by
   rw[gY];obtain v|⟨_,_,v,_⟩:=l.get g
   .exact v.2
   rw[drop_nil j] at v;contradiction
  exact iZ (aoz aU hit (nq<|a.R.cG _ _ k) G λF A B=>m (a.ex c A B a.s.toks) (bJ.ex c A B a.s.toks<|.head _) rfl)
 keep:=λa L w M st x H N=>by
  obtain⟨g,i,p,j,⟨o,s,u,q⟩,c,k,l⟩:=st;exact⟨g,i,p,j,⟨o,(x.keep I o c (H I<|.head _) s).cell q,u,q⟩,x.fr I c<|dJ s,x.le.f _ _ k,l.mono x.le⟩
 self:=λa w y X st m=>by
  refine kc st λg i p j hit U=>?_
  exact wpAny_pyIter_tupleiter hit m
def Sz(ty:String)(x:List Nat)(d:Tok)(I:bG)(e:List D)(a:aL b):Prop:=∃c,e=(ua x).drop c/\a.s.heap.IsStrIter I ty (toS x) d c/\a.c.Fr I
def Ww(p:ty="str_ascii_iterator"\/ty="str_iterator")(aU:b.handled=none):qA d b e ok [I] I (Sz ty x f I) where
 item:=λa H z u X st h=>by
  refine dm st λg i hit c=>?_
  obtain⟨j,E⟩:=drop_cons i;unfold ua at j;rw[d8] at j;refine aG (iQ.mp j) λq v F=>?_;subst F
  have A:(toS x).cps[g]?=some q:=(gY ..).trans v;have fin:∀k,k.IsStrIter I ty (toS x) f (g+1)->j6 I a.s.heap k->∃w,some (Value.str ⟨#[q]⟩ a.s.toks)=some w/\aE d.M b (rP e (.ref I) w) (λU G=>u w G) X {a.s with heap:=k,toks:=a.s.toks+1}:=λk B r=>by
   refine⟨_,rfl,?_⟩;refine dm (id B) λo t y U=>?_
   refine AO (n:=ty) t y (by obtain rfl|rfl:=p<;>decide) ?_
   exact h (a.ex c r.extBut (di r.1.symm)<|a.s.toks+1) _ (bJ.ex c r.extBut (di r.1.symm) _<|.head _) rfl (mj (s:=[q]) _ (by show 1<=lim;decide)) ⟨g+1,E,B,c⟩
  obtain rfl|rfl:=p
  .exact wpAny_pyNext_ascii_item hit A fin
  exact wpAny_pyNext_wide_item hit A fin
 done:=λa u X st h=>by
  refine dm st λg i hit c=>?_
  have D:(toS x).cps[g]?=none:=by
   have:=drop_nil i;unfold ua at this;rw[d8,an0] at this;exact(gY ..).trans this
  obtain rfl|rfl:=p
  .exact iZ (wpAny_pyNext_ascii_end aU hit D λk l m=>h (a.ex c l m a.s.toks) (bJ.ex c l m a.s.toks<|.head _) rfl)
  exact iZ (wpAny_pyNext_wide_end aU hit D λk l m=>h (a.ex c l m a.s.toks) (bJ.ex c l m a.s.toks<|.head _) rfl)
 keep:=λa K z q st x v L=>by
  obtain⟨g,i,⟨o,t,y,j⟩,c⟩:=st;exact⟨g,i,⟨o,(x.keep I o c (v I<|.head _) t).cell j,y,j⟩,x.fr I c<|dJ t⟩
 self:=λa z u X st h=>by
  refine dm st λg i hit c=>?_
  obtain rfl|rfl:=p
  .exact wpAny_pyIter_striter_ascii hit h
  exact wpAny_pyIter_striter_wide hit h
noncomputable def D0(x step:Int)(a:Nat):List D:=(b6 a).map λ(k:Nat)=>.int<|x+(k:Int)*step
def YV(x step)(a):D0 x step (a+1)=.int x::D0 (x+step) step a:=by
 unfold D0;refine J QX<|J i6<|J dM<|J Int.natCast_zero<|J (Int.zero_mul ..)<|J (g0 ..)<|aZ _ (qu λk U=>aZ D.int ?_);show x+(k+1:Nat)*step=x+step+k*step;exact J (u_ ..)<|J (Int.add_mul ..)<|J (show((1:Nat):Int)=1 from rfl)<|J (Int.one_mul ..)<|J (JC (k*step) ..)<|J (QF ..) rfl
def Sy(step:Int)(I:bG)(d:List D)(a:aL b):Prop:=∃x c,d=D0 x step c/\IsRangeIter a.s.heap I x (c:Nat) step/\a.c.Fr I
def acO{step:Int}(aU:b.handled=none):qA d b e ok [I] I (Sy step I) where
 item:=λc s j k X st g=>by
  refine jN st λx n f hit a=>?_
  obtain _|n:=n
  .contradiction
  rw[YV] at f;injection f with eH gB;subst eH;subst gB;refine wpAny_pyNext_range_item hit (nI.mpr<|jo n) λp i h=>⟨_,rfl,?_⟩
  refine AO (n:="range_iterator") i rfl av ?_;rw[show((n+1:Nat):Int)-1=(n:Int) from amR n 1] at i;exact g (c.ex a h.extBut (di h.1.symm)<|c.s.toks+1) _ (bJ.ex a h.extBut (di h.1.symm) _<|.head _) rfl (kL _ _) ⟨x+step,n,rfl,i,a⟩
 done:=λc k X st g=>by
  refine jN st λx n f hit a=>?_
  obtain _|n:=n
  .exact iZ (wpAny_pyNext_range_end aU hit (by simp) λp l m=>g (c.ex a l m c.s.toks) (bJ.ex a l m c.s.toks<|.head _) rfl)
  rw[YV] at f;contradiction
 keep:=λc t j u st x q v=>by
  refine jN st λr n f hit a=>?_
  exact⟨r,n,f,(x.keep I _ a (q I<|.head _) hit).cell rfl,x.fr I a<|dJ hit⟩
 self:=λc j k X st g=>by
  refine jN st λx n f hit a=>?_
  exact wpAny_pyIter_rangeiter hit g
def d3(a:d.V b e):lM d e (bx [] b):=by
 obtain _|_|_|_|_|c|c|f|_|_:=b
 .trivial
 .exact a
 .trivial
 .exact a
 .exact a
 .exact IP a
 .exact IP a
 .trivial
 .trivial
 trivial
def Cn(a:b5 b)(x:Str):Prop:=a.ns[kQ x a.ns]?=some x/\a.pI x
def x6(a:b5 b)(j:aI)(k:Bool)(is:List Nat):Prop:=∀(c:aL b) (d:List D) (e:D) (f:aF) (g:List D->Prop) (h:Unit->bf->Prop) (X:aF->bf->Prop),bQ a c d->c.V e f->iU k is e d g->(∀(x:iB a c) i,x.W=c.W->bQ a x.toaL i->g i->h () x.s)->aE b.M a.A (assign j a.env f) h X c.s
def Xs{x:w}(a:none=some x):p:=nomatch a
def n9(a:isNm i=some x):∃b,i=.Name x b:=by
 revert a;rcases i<;>first|exact Xs|exactλa=>⟨_,aZ (Expr.Name · _)<|bY a⟩
def Hw(a:isTup i=some b):∃k d,i=.Tuple b k d:=by
 revert a;rcases i<;>first|exact Xs|exactλa=>⟨_,_,aZ (Expr.Tuple · _ _)<|bY a⟩
def aeR:∀{j:List aF} {d:List D} {b:aL g} {f:List D} {k:List D->Prop} {l:Unit->bf->Prop},h.all (λe=>(isNm e).isSome)=true->(∀x∈h.filterMap isNm,Cn z x)->bQ z b f->b.b4 d j->uU ((h.filterMap isNm).map λx=>kQ x z.ns) d f k->
 (∀(x:iB z b) m,x.W=b.W->bQ z x.toaL m->k m->l () x.s)->aE g.M z.A (ib ((tO h z.env).map (·.2)) j) l K b.s:=by
 induction h with
 |nil=>
  intro j d b f k l _ _ p c a q;obtain⟨rfl,a⟩:=iH a;refine aV.no ?_ c;exact aK<|q ⟨b,bJ.same rfl rfl (λU U U U e=>.ff e) (aS _) rfl rfl⟩ f rfl p a
 |cons e h u=>
  intro j d b f k l r s p c a q;rw[nJ,bl] at r;obtain⟨x,i⟩:=xB.mp r.1;obtain⟨E,rfl⟩:=n9 i;rw[tH] at s a;obtain _|⟨F,d⟩:=d
  .exact bO a
  refine aV.un (λG H c v=>?_) c;have i:=s x<|.head _;refine ak<|fT<|Kh (wQ p i.1 i.2 c λt e w=>?_);exact u r.2 (λn y=>s n<|.tail _ y) w (v.mono t.le.le) a λn m ao A B=>q ⟨n.toaL,t.le.bS n.le⟩ m (ao.trans e) A B
def O'(a)(b:a.all (λe=>(isNm e).isSome)=true)(c):(tO a c).length=H a/\(tO a c).findIdx? (·.1)=none/\(a.filterMap isNm).length=H a:=by
 induction a with
 |nil=>exact⟨rfl,rfl,rfl⟩
 |cons e a d=>
  rw[nJ,bl] at b;obtain⟨x,f⟩:=xB.mp b.1;obtain⟨j,rfl⟩:=n9 f;refine iT (d b.2) λg h i=>⟨aZ xA g,?_,aZ xA i⟩
  show List.findIdx? _ (_::tO a c)=none;exact J am'<|J h rfl
def Zz:∀{b d:List D} {e:List D->Prop},uU is b d e->H b=H is:=by
 induction is with
 |nil=>exactλa=>J ((iH a).1) rfl
 |cons f is c=>
  intro b d e a;obtain _|⟨g,b⟩:=b
  .exact bO a
  exact aZ xA<|c a
def PL(c:pK f=some (d,xs))(j:∀x∈xs,Cn b x):x6 b f d (xs.map λx=>kQ x b.ns):=λt P Q R u S X l m a n=>by
 unfold pK at c;rcases e:isNm f with _|x
 .rw[e] at c;refine aG (gi.mp c) λh ao aA=>?_
  refine mu (Hw ao) λk p v=>?_;subst v
  rcases g:h.all (λe=>(isNm e).isSome) with _|_
  .rw[g] at aA;contradiction
  rw[g] at aA;cases aA
  refine d0 (d3 m) a λp T w V W y q a=>iT (O' h g b.env) λz A B=>?_
  have D:(tO h b.env).length=w.toArray.size:=J z<|J cK<|J q.cg<|J (Zz a)<|J (aX ..)<|J B rfl;refine J (an' ..)<|ak<|j_ ?_;unfold unpack;refine J D<|J A<|ak<|fT<|iZ (k0 b.aU.h (nq y) λE F G=>?_);let i:=t.grow E (λx o e=>F x o (kI<|dJ e) e) G;exact aeR g j (l.to i.le) (q.mono i.le.le) a λr K ao L a=>n ⟨r.toaL,i.le.of0.bS r.le⟩ K ao L a
 rw[e] at c;cases c
 obtain⟨p,rfl⟩:=n9 e;refine aG (jV (show one ([x].map λx=>kQ x b.ns) (λM=>u _) from a)) λM N a=>?_
 cases N
 have s:=j x<|.head _;exact Kh (wQ l s.1 s.2 m λd e O=>n d _ e O a)
def ajr(x):((toS x).cps.all (· <128)=true)\/((toS x).cps.all (· <128)=false):=by cases(toS x).cps.all _<;>first|exact .inl rfl|exact .inr rfl
def Y5(x a):(if x<a then(a-x-1)/1+1 else 0:Int)=((a-x).toNat:Nat):=by
 by_cases b:x<a
 .exact J (dI b)<|J (Int.ediv_one ..)<|J (Int.sub_add_cancel ..)<|J (amZ<|Int.sub_nonneg_of_le<|JE b) rfl
 exact J (cE b)<|J (hc<|Int.sub_nonpos_of_le<|xe.mp b) rfl
def Y4(x a):ze x a 1=((a-x).toNat:Nat):=by
 unfold ze;exact J (dI av)<|Y5 x a
def OU(x a):ze x a (-1)=((x-a).toNat:Nat):=by
 unfold ze;exact J (cE av)<|Y5 a x
def ahW{s:Int}(c:jj x)(a:jj b)(g:s=1\/s=-1):Builtin.Range.small x b s=true/\A9 x b s=D0 x s (ze x b s).toNat/\((ze x b s).toNat:Int)=ze x b s:=by
 have d {x} (e:jj x):-2^62<=x/\x<2^62:=yv e av av;obtain rfl|rfl:=g
 .refine⟨small_one (d c).1 (d c).2 (d a).1 (d a).2,?_,J (Y4 ..) rfl⟩;exact J (Y4 ..)<|qu λk U=>by rw[amW]
 refine⟨?_,?_,J (OU ..) rfl⟩
 .have f:∀{i:Int},-2^63<=i/\i<2^63->apj i=true:=λe=>(bl ..).mpr ⟨gb e.1,gb e.2⟩
  unfold Builtin.Range.small;rw[OU,f<|yv c av av,f<|yv a av av,f (i:=(x-b).toNat) ⟨BF av<|kE _,Int.toNat_eq_max _▸Int.max_lt.mpr ⟨zh (Int.sub_lt_sub c.2 a.1) av,av⟩⟩,cE av,show b+(-1+1)=b from g0 b,f<|yv a av av,fp]
  rfl
 rw[OU];exact qu λk U=>J (Int.mul_neg ..)<|J (amW ..) rfl
def US{a:e9}(e:a.get? b=some {cls:=.type "dict",data:=.dict #[] d}):a.DictAt (PySem.strKind g.g6 g.w) b [] d:=⟨_,#[],e,⟨rfl,rfl,rfl⟩,rfl,(by intro e c;simp at c),.nil,by simp⟩
def mm(c I:bG)(d:Nat)(e:List D)(a:aL b):Prop:=e=[]/\a.c.f c=some {cls:=.type "dict",data:=.dict #[] d}/\IsItemIter a.s.heap I c 0 0 d .none .none/\a.c.Fr I
def acQ(aU:d.handled=none):qA b d e ok [I] I (mm f I h) where
 item:=λa p j k X st c=>nomatch st.1
 done:=λa k X st c=>iZ (wpAny_pyNext_items_end (knd:=PySem.strKind b.g6 b.w) (kvs:=[]) (i:=0) aU st.2.2.1 (US<|a.R.cG _ _ st.2.1) rfl λq l m=>c (a.ex st.2.2.2 l m a.s.toks) (bJ.ex st.2.2.2 l m a.s.toks<|.head _) rfl)
 keep:=λa r j s st x n t=>⟨st.1,x.le.f _ _ st.2.1,(x.keep I _ st.2.2.2 (n I<|.head _) st.2.2.1).cell rfl,x.fr I st.2.2.2<|dJ st.2.2.1⟩
 self:=λa j k X st c=>by
  have g:a.s.TypeIs (.ref I) "dict_itemiterator":=⟨_,st.2.2.1,rfl⟩;refine wpAny_pyIter_slot g amG<|pY amG g kcp_entry ?_<|F.args_dict_itemiterator_iter_1 _;show aE _ _ (PySem.ret<|.ref I) _ _ a.s;exact aK ⟨_,rfl,"dict_itemiterator",_,g,F.slot_dict_itemiterator_next.lookup,c⟩
def k8.new{h:Bool}(i:k8 h a k K)(j:k e ok a.W)(c)(o6:∀b d,b.handled=none->qA g b d ok [a.aC] a.aC c)(st:c e (a.new o a.s.drawn a.s.toks).toaL):K (.ref a.aC) {a.s with heap:=a.s.heap.push o}:=
 i ⟨a.new o a.s.drawn a.s.toks,a.aC,e,ok,[a.aC],c,λb d aU U=>o6 b d aU,st,λx f=>by rw[dK.mp f];exact aS _,λx f=>by rw[dK.mp f];show _<(a.s.heap.push o).objs.size;exact J (f5 ..)<|f6 _⟩ j
def ZX{Q:Bool}(B:gP g)(i:a.V d j)(h:j0 a.W d k)(r:k8 Q a k E):aE g.M l (qv j) E K a.s:=by
 have f:=a.fresh<|aS _;obtain _|_|_|_|x|v|v|n|_|⟨n,x,y,s⟩:=d<;>first|exact bO h|skip
 .obtain⟨z,t,rfl⟩:=i;obtain H|H:=ajr x
  .exact wpAny_pyIter_ascii H<|k8.new r h _ (λw A aU=>Ww (.inl rfl) aU) ⟨0,rfl,⟨_,g_ _ rfl,rfl,rfl⟩,f⟩
  exact wpAny_pyIter_wide H<|k8.new r h _ (λw A aU=>Ww (.inr rfl) aU) ⟨0,rfl,⟨_,g_ _ rfl,rfl,rfl⟩,f⟩
 .obtain⟨z,p,D,n,rfl,F,M⟩:=i;exact Kl (nq<|a.R.cG _ _ F)<|k8.new r h _ (λw A aU=>acP aU) ⟨0,D,n,rfl,⟨_,g_ _ rfl,rfl,rfl⟩,f,F,M⟩
 .obtain⟨z,p,D,n,rfl,F,M⟩:=i;exact RA (gI<|a.R.cG _ _ F)<|k8.new r h (FZ (λb=>b.c.f p=some _/\b.b4 v D) p a.aC v) (λw A aU=>Ng ah0 aU) ⟨0,rfl,⟨_,g_ _ rfl,rfl,rfl⟩,f,F,M⟩
 .refine aG (ez (λh=>h) h) λo e h=>?_
  rw[i.2];obtain v|⟨c,R,v⟩|_|_:=o<;>first|exact bO h|skip
  .exact mu (a.R.objs n _ e) λD m L=>RA (gI L.cu) (k8.new r h (FZ (λb=>b.W[n]?=some _/\b.c.bW n=a.c.bW n) _ a.aC v) (λw A aU=>Ng (⟨λb h=>by
    exact mu (b.R.objs n _ h.1) λD m L=>⟨_,D,m,h.2▸L.cu,rfl,L.dF⟩,λb dX ch h x S=>⟨S.elim (λe=>e▸h.1) λe=>by
     exact aG (ez (P:=λo=>o=.lst v) (λq=>CG (aZ bI.k q) rfl) e) λo ao aA=>aA▸ao,(x.le.bW n (jw h.1)).trans h.2⟩⟩) aU) ⟨0,rfl,⟨_,g_ _ rfl,rfl,rfl⟩,f,e,rfl⟩)
  obtain⟨rfl,h⟩:=h;exact vM (a.R.objs n _ e) λkh es qa D m L=>XQ a.c8 B L.acc<|k8.new r h (FZ (λb=>_/\b.c.bW n=a.c.bW n) _ a.aC v) (λw A aU=>Ng OP aU) ⟨0,rfl,⟨_,g_ _ rfl,rfl,rfl⟩,f,⟨R,e⟩,rfl⟩
 obtain⟨p,rfl,i⟩:=i;rcases N:n==0 with _|_
 .obtain⟨rfl,T⟩:=fR N h;obtain⟨q,_⟩|⟨q,_⟩|⟨q,_⟩|⟨_,b,m,O,G⟩:=i
  .contradiction
  .contradiction
  .contradiction
  exact wpAny_pyIter_items ⟨_,a.R.cG _ _ O,rfl,rfl⟩ (US<|a.R.cG _ _ G)<|k8.new r T _ (λw A aU=>acQ aU) ⟨rfl,G,g_ _ rfl,f⟩
 refine vL (jJ N h) λO G V Z h=>?_
 obtain⟨_,t,u,q,i⟩|⟨q,_⟩|⟨q,_⟩|⟨q,_⟩:=i
 .obtain⟨W,X,Y⟩:=ahW O G V;refine wpAny_pyIter_range (a.R.cG _ _ i) W<|k8.new r h (Sy s a.aC) (λw A aU=>acO aU) ⟨x,(ze x y s).toNat,X,?_,f⟩;exact J Y<|g_ _ rfl
 all_goals(rw[ck N] at q;contradiction)
def k8.le{c:aL g}{d:Bool}(e:k8 d a k K)(x:lJ a c):k8 d c k K:=λb=>e {b with le:=x.bS b.le,new:=λf h=>az x.size (b.new f h)}
def Pc(a:gP g)(c:cD z i e):xX z i (λU b f k d=>e b f (λh j=>j0 j h k) d):=λs l b k d t X m n p q=>c l b _ _ _ _ m n (λx r=>ZX a x.bw r<|p.le x.le) q
def bQ.lt(c:bQ b d r)(a:b.all f):f<d.aC:=
 a.elim (λe=>e▸c.loc.elim λj a=>a.1.lt) λa=>a.elim λg a=>(QR a.1).elim λh i=>vX (c.lg h g i a.2.1) λl o k=>bY (a.2.2.symm.trans k.1)▸k.2.1.lt
def b5.DJ(a:z.own b):z.all b:=a.imp id λa=>a.imp λc a=>⟨a.1,by exact J a.2.2.1 rfl,a.2.2.2⟩
def d_.lt(ok:d_ b d)(a:f∈jH d):f<b.aC:=by
 exact Ct (ok.at_ a) λU U U e U=>dJ e
def bQ.step{e:aL g}{f:aL g}{h:List bG}{rf:List D}(lH:bQ z f rf)(i:∀x∈h,f.aC<=x)(j:bQ z a r)(le:bJ (· ∈h) a e):bQ z e r:=
 j.Eu le (λb c d=>aW (lH.lt c)<|bA.mpr<|i b d) (j.ok.le le λb c d=>aW (lH.ok.lt c)<|bA.mpr<|i b d)
def bJ.step{d c:aL g}{e:List bG}(f:∀x∈e,c.aC<=x)(h:bJ b c a)(le:bJ (· ∈e) a d):bJ b c d:=h.trans le (λU i=>i) λj k l=>aW k<|bA.mpr<|f j l
def aal{fP:dw}{bu:Bool}{p:List D->aL g->Prop}{rf:List D}{c:iB z a}(u:qA g z.A e ok n I p)(q:∀x∈n,a.aC<=x)(lH:bQ z a rf)(w:x6 z e bu is)(y:qD z A fP)(E:bQ z c.toaL r)(st:p (f::h) c.toaL)(i:iU bu is f r λj=>fP j c.W l cI)(G:∀b:Sm z a,(ok b.W->p h b.toaL)->l b.fl b.r b.W->m b.f b.s):
 aE g.M z.A (qw<|.ref I) (λo B=>∃d,o=some d/\aE g.M z.A (rP e (.ref I) d) (λU F=>aE g.M z.A (assign e z.env d) (λU k=>aE g.M z.A (execs A z.env) m K k) K F) K B) K c.s:=
 u.item c.toaL f h (λd s=>aE g.M z.A _ (λU k=>aE g.M z.A _ m K k) K s) K st λv d le H L M=>
  w v r f d _ _ _ (bQ.step lH q E le) L i λt j yh N i=>y t.toaL j l cI _ _ N (by rwa [yh,H])
   (λb i=>G {b with le:=((bJ.step q c.le le).bS t.le).bS b.le} (λO=>u.keep v b.toaL h z.own M (t.le.bS b.le) (λP Q R=>aW (lH.lt<|b5.DJ R)<|bA.mpr<|q P Q)<|.inr O) i) e_.no
inductive R0{g:G}{Γ:b5 g}{a:aL g}{tp:Bool}(x:Sn tp a)(f:D->dw)(Xe:dw)(Q:eX):Nat->bf->Prop
 |mk (y:iB Γ a) (r l:List D) (F:bQ Γ y.toaL r) (t:x.T l y.toaL) (q:lO x.ok f Xe l r y.W Q):R0 x f Xe Q l.length y.s
def aja{fP:dw}{bu:Bool}(v:∀x,J_ d z.env x=pure x)(w:bu=true->qW b=true)(y:xX z d f.i)(A:x6 z b bu is)(B:qD z h fP)(D:qD z j e):cP z (.For b d h j pos) (Qi bu is f fP e):=λE q F Q R X l n p G=>
 wpAny_For (y bu E q _ _ _ _ l n (λx a=>by
  refine aod (R0 x _ e F) (λS T c6=>c6.casesOn λr K i s st a=>?_) _<|.mk ⟨x.toaL,x.le.of0⟩ q x.l (l.to x.le) x.st a;have t:=x.o6 z.A b z.aU.h w;obtain _|⟨V,i⟩:=i
  .exact t.done r.toaL _ _ st λL le M=>D L K _ _ _ _ (bQ.step l x.new s le) (M▸a) (dG.le p<|bJ.step x.new r.le le) e_.no
  refine fq (aal t x.new l A B s st a λc u a=>?k) (λo W m=>m.elim λY m=>m.1▸m.2) λU U n=>n
  revert a;exact rT.C1 c.hf (λa=>⟨H i,f6 _,.mk c.toiB c.r i c.F (u a.1) a.2⟩) (λa=>dG.at_ (dG.le p c.le) c.F (fl:=.next) rfl a) (λa=>⟨H i,f6 _,.mk c.toiB c.r i c.F (u a.1) a.2⟩) λN O P a=>dG.at_ (dG.le p c.le) c.F (fl:=.ret N) ⟨O,rfl,P⟩ a) (e_.x G l.ok)) v
inductive SH{g:G}(Γ:b5 g)(a:aL g)(m:bB)(fP:dw)(Q:eX):Nat->bf->Prop
 |mk (y:iB Γ a) (r:List D) (n:Nat) (F:bQ Γ y.toaL r) (q:tB m fP n r y.W Q):SH Γ a m fP Q n y.s
def alC{fP:dw}(v:St z i d.t)(w:qD z f fP)(x:bQ z a r)(c:tB d fP b r a.W e)(p:dG z a e λh s=>j (.ok h) s):nQ g.M z.A (.whileLoop i f [] z.env) j a.s:=by
 refine codeAny_whileLoop (SH z a d fP e) (λb E c6=>c6.casesOn λm t n q u=>?_) b<|.mk ⟨a,bJ.same rfl rfl (λU U U U i=>.ff i) (aS _) rfl rfl⟩ r b x c;obtain _|n:=n
 .exact bO u
 refine v m.toaL t _ _ _ _ q u (λl y c=>?_) gj.no;obtain _|_:=y
 .exact B6<|dG.at_ (dG.le p<|m.le.bS l.le.of0) (q.to l.le) (fl:=.next) rfl c
 refine w l.toaL t _ _ _ _ (q.to l.le) c (λk c=>?_) e_.no;revert c;exact rT.C1 k.hf (λc=>⟨n,f6 _,.mk ⟨k.toaL,(m.le.bS l.le.of0).bS k.le⟩ k.r n k.F c⟩) (λc=>dG.at_ (dG.le p<|(m.le.bS l.le.of0).bS k.le) k.F (fl:=.next) rfl c) (λc=>⟨n,f6 _,.mk ⟨k.toaL,(m.le.bS l.le.of0).bS k.le⟩ k.r n k.F c⟩) λA B D c=>dG.at_ (dG.le p<|(m.le.bS l.le.of0).bS k.le) k.F (fl:=.ret A) ⟨B,rfl,D⟩ c
def Oc(a:ph i=true):ke [b] i d e=pure false:=uE a
def afd:isTup i=none->kd [.Tuple b k d] i e=pure none:=by
 induction i using PySem.Expr.casesOn<;>first|exactλU=>rfl|exactλa=>nomatch a
def acL{a:fY}{M:nN}{d:Type}[Decidable p]{e f:Sem w}{c:w->Sem d}{x:w}{g:d->bf->Prop}(j:∀b:w->bf->Prop,b x y->aE M a e b K y)(k:∀b:w->bf->Prop,b x y->aE M a f b K y)(h:aE M a (c x) g K y):
 aE M a (if p then e>>=c else f>>=c) g K y:=by
 by_cases i:p
 .exact J (dI i)<|ak<|j _ h
 exact J (cE i)<|ak<|k _ h
def ZQ(c b a e:Nat)(d:c<=b):min c a-0+e+(min a a-b)<=a+e:=by
 refine J (EY ..)<|J (pT ..)<|j8 ?_ e;obtain k|k:=EW b a
 .exact az (j8 (az (BR _ _) d) _)<|di<|rL k
 exact J (anN k)<|BS _ _
def ZG{u:bf->Prop}{i:Option Int}(v:y.heap.get? e=some o)(w:o.data=.seq b m)(r:y.heap.get? d=some {cls:=.type "list",data:=.seq new n})(A:y.heap.IsSliceOf eW j k .none)(B:xf j i)(D:xf k f)(E:b.size<=j9)(x:b.size+new.size<=j9)(F:u {y with heap:=y.heap.update e (zw λxs=>xs.extract 0 (i.elim 0 (eN b.size))++new++xs.extract (max (i.elim 0 (eN b.size)) (f.elim b.size (eN b.size))) xs.size)}):
 aE g.M h (Builtin.«list.__setitem__» ⟨[.ref e,.ref eW,.ref d],[]⟩) (λfin l=>fin=.done (.ret .none)/\u l) K y:=by
 refine dm (id A) λG p H s=>?_
 have z:y.TypeIs (.ref eW) "slice":=⟨G,p,H⟩;have L:y.TypeIs (.ref d) "list":=⟨_,r,rfl⟩;show aE _ _ (fs _>>=_) _ _ y;refine ak<|ak<|zJ z aoq ?_;refine aK<|ak<|Km z ?_;rw[cE av];refine J (aoi ..)<|ak<|ak<|gF p s rfl<|ak<|Fi .none ?_;refine J (cE av)<|ak<|gF p s rfl<|ak<|Fi B ?_;refine ak<|gF p s rfl<|ak<|Fi D<|aK ?_;have M:∀a,a new y->aE g.M h (amu _) a K y:=λa t=>by
  exact ak<|mW r rfl<|aK t
 have N:∀a,a new y->aE g.M h (api _ "must assign iterable to extended slice") a K y:=λa t=>by
  refine ak<|Km L ?_;exact J (dI av)<|ak<|mW r rfl<|aK t
 refine acL M N ?_;refine ak<|ak<|mW v w<|aK ?_;refine ak<|tS (aop i f none b.size av) ?_;rw[aoo]
 dsimp only
 refine J (dI av)<|ak<|mV ?_;rw[cE (by unfold ft;exact J decide_eq_true_eq<|bA.mpr<|az x av)];refine ak ?_;rw[show∀q d:Nat,(max (q:Int) d).toNat=max q d fromλq d=>(EW q d).elim (λc=>by rw[amV<|lZ.mpr c,EX c];rfl) λc=>by rw[amU<|lZ.mpr c,anH c];rfl];refine k1 v w (ak<|zG<|aK ⟨rfl,F⟩) E ?_;exact J amj<|J amj<|J amk<|J amk<|az (ZQ _ _ _ _<|vf _ _)<|az x av
def aiz{a:List aF}(d c):(a.toArray.extract 0 d++b.toArray++a.toArray.extract c a.toArray.size).toList=a.take d++b++a.drop c:=by
 have e:(a.drop c).length<=H a-c:=by simp
 simp[ET e]
def ZA(a b)(c d):(pG a c d b).length<=H a+H b:=by
 unfold pG;rw[bq,bq,qt,xr];exact az (by exact J (EY ..)<|aS _)<|ZQ (c.elim 0<|eN<|H a) _ (H a) (H b)<|vf _ _
noncomputable def ZN(b c:Option Int)(a:Nat)(new:Array aF)(xs:Array aF):Array aF:=xs.extract 0 (b.elim 0<|eN a)++new++xs.extract (max (b.elim 0<|eN a)<|c.elim a<|eN a) xs.size
def ZO{i:Option Int}(c:a.b4 d b)(k:a.b4 e f):a.b4 (pG d i h e) (ZN i h b.toArray.size f.toArray b.toArray).toList:=by
 unfold ZN;exact J (aiz ..)<|J cK<|J c.cg<|((c.take _).append k).append<|c.drop _
def aiA(B:gP g)(R:a.V o f)(S:a.V j d)(T:a.V k e)(V:a.V l s)(h:Pa a.W o j k l x)(E:∀b:cM a,x b.W->v () b.s):
 aE g.M A (Fb f (.ref a.aC) s) v K {a.s with heap:=a.s.heap.push {cls:=.type "slice",data:=.fields #[d,e,.none]}}:=by
 refine aG (DL (c9 S) h) λF G h=>aG (DL (c9 T) h) λH M h=>?_
 let b:=a.new {cls:=.type "slice",data:=.fields #[d,e,.none]} a.s.drawn a.s.toks;have N:=amO a.s.heap d e .none;have W:=V.to b.le;have t:=c9 W;revert t;intro t;refine s9 t h λao6 O P fP apf Q p h=>LW (R.to b.le) h λn iu h=>?_
 refine aG (ez (λh=>h) h) λX q h=>?_
 obtain u|⟨c,iF,u⟩|_|_:=X<;>first|exact bO h|skip
 .refine mu (b.R.objs n _ q) λi m L=>?_
  have w:b.s.TypeIs (.ref _) "list":=⟨_,L.cu,rfl⟩;have z:i.toArray.size<=j9:=J cK<|J L.dF.cg<|gq L.z;have D:i.toArray.size+P.toArray.size<=j9:=J cK<|J cK<|J L.dF.cg<|J p.cg<|gq h.1;unfold Fb;try with_reducible refine fT ?_
  refine ak<|wpAny_sequenceKey w av ?_;refine ak<|xM w Rr<|pY Rr w aoe ?_<|an9 _ _ _;let y:=b.toaL.yZ (ds':=pG u F H O) q L _ (ZO L.dF p)<|az (ZA ..) h.1;exact fq (ZG L.cu rfl Q N G M z D<|E ⟨y.toaL,b.le.bS y.le⟩ h.2) (λfin Y h=>⟨.none,h.1,aK h.2⟩) λU U h=>h
 obtain⟨rfl,h⟩:=h;refine vM (b.R.objs n _ q) λkh Z qa i m I=>?_
 have z:i.toArray.size<=j9:=J cK<|J I.dF.cg<|gq I.z;have D:i.toArray.size+P.toArray.size<=j9:=J cK<|J cK<|J I.dF.cg<|J p.cg<|gq h.1;have r:=I.acc;refine fT<|ak<|ak<|r.type.here ?_;refine ak<|(anyM_none b.c8 B.Od).here ?_;refine J (dI (show(!false)=true from rfl))<|aK<|ak<|XS b.c8 r B.ZF Rr.bind<|DK (n:="__setitem__") b.c8 r B.sub Rr bC (.inl bC) aoe (an9 _ _ _) ?_;let y:=b.toaL.Jb (ds':=pG u F H O) q I _ (ZO I.dF p)<|az (ZA ..) h.1;exact fq (ZG r.at_ rfl Q N G M z D<|E ⟨y.toaL,b.le.bS y.le⟩ h.2) (λfin Y h=>⟨.none,h.1,aK h.2⟩) λU U h=>h
def afc(d:jh b=true)(a)(f:∀e,isStar e=none->a e=false):b.any a=false:=by
 induction b with
 |nil=>rfl
 |cons e b g=>
  have c:=(bl ..).mp<|(nJ ..).symm.trans d;exact J xh<|J (g c.2)<|J (Bool.or_false ..)<|f e<|E1.mp c.1
def ake(a)(h:∀x b,a (.Name x b)=if(f x==some .local&&b.line==Ep d)=true then some x else none)(i:∀e,isNm e=none->a e=none):d.filterMap a=wR f d:=by
 have:∀c:List aI,c.filterMap a=c.filterMap λe=>(PySem.Expr.casesOn e (λU U U=>none) (λU U U=>none) (λU U U U=>none) (λU U U=>none) (λU U U U=>none) (λU U U U=>none) (λU U U=>none) (λU U U=>none) (λU U U U=>none) (λU U U U=>none) (λU U U U U=>none) (λU U U U=>none) (λU U=>none) (λU U=>none) (λU U=>none) (λU U U U=>none) (λU U U U=>none) (λU U U U=>none) (λU U=>none) (λU U U=>none) (λU U U=>none) (λU U U=>none) (λU U=>none) (λx b=>bif f x==some .local&&b.line==Ep d then some x else none) (λU U=>none) (λU U U=>none) λU U U U=>none):=λc=>by
  congr 1;funext e;rcases g:isNm e with _|x
  .refine J (i e g)<|HV g (?_);rcases e<;>first|exact(rj (none:Option Str)<|true=false)|exact .inr rfl
  obtain⟨b,rfl⟩:=n9 g;rw[h];show _=bif f x==some .local&&b.line==Ep d then some x else none
  cases f x==some .local&&b.line==Ep d<;>rfl
 exact this d
def b5.block(a:b5 b):a.env.blockKind=.function:=by unfold amA;exact J a.fn rfl
def a7(n:jh d=true)(a:yV z.env.kindOf b d=some o):kd [.Tuple b k f] (.Tuple d h j) z.env=pure o:=by
 unfold kd
 dsimp only
 rw[z.block,afc n _ (λe a=>HV a (by
  rcases e<;>first|exact(rj false (true=false))|exact .inr rfl)),ake _ (λU U=>rfl) (λe a=>HV a (by
  rcases e<;>first|exact(rj (none:Option Str) (true=false))|exact .inr rfl))]
 rw[show(an2 !=an2)=false from rfl];rw[cE gX];unfold yV at a;rcases c:(!(H b==2||H b==3)||H d !=H b) with _|_
 .rw[c] at a;refine(cE gX).trans ?_;rcases i:((wR z.env.kindOf b).length !=H b||(wR z.env.kindOf b).eraseDups.length !=(wR z.env.kindOf b).length) with _|_
  .rw[i] at a;refine(cE gX).trans ?_;rcases l:d.all _ with _|_
   .rw[l] at a;refine(cE gX).trans ?_;rcases m:d.all _ with _|_
    .rw[m] at a;cases a;exact cE gX
    rw[m] at a;contradiction
   rw[l] at a;cases a;exact dI rfl
  rw[i] at a;cases a;exact dI rfl
 rw[c] at a;cases a;exact dI rfl
def KX(c:b5 b)(e:aI)(k:qE):Prop:=∀(a:aL b) (d:List D) (f:D) (g:aF) (h:List D->aN->Prop) (i:er) (j:Unit->bf->Prop) (X:aF->bf->Prop),bQ c a d->a.V f g->k f d a.W h i->Cg c a h j->e_ c a i X->aE b.M c.A (assign e c.env g) j X a.s
def pa(o c:aI)(pos:Pos)(e:Env)(a:aF)(f:(n_ c).isNone=true):assign (.Subscript o c pos) e a=(do
 let b<-holding [a]<|eval o e
 let d<-holding [a,b]<|eval c e
 vq pos
 holding [a,b,d] (Fb b d a)
 release [a,b,d] []):=A0 f (by rcases c<;>first|exact rj _ _|exact .inr rfl)
def Tc(c:isStar i=none)(a):tO (i::b) a=(false,assign i a)::tO b a:=HV c (by rcases i<;>first|exact rj _ _|exact .inr rfl)
def akv:∀{m:List aF} {d:List D} {b:aL A} {f:List D} {n:List D->aN->Prop} {s:er} {x:Unit->bf->Prop},k.all (λe=>(h e).isSome)=true->(∀e j,e∈k->h e=some j->KX l e j/\isStar e=none)->bQ l b f->b.b4 d m->Po (k.filterMap h) d f b.W n s->
 Cg l b n x->e_ l b s K->aE A.M l.A (ib ((tO k l.env).map (·.2)) m) x K b.s:=by
 induction k with
 |nil=>
  intro m d b f n s x _ _ h c a g i;obtain⟨rfl,a⟩:=iH a;refine aV.no ?_ c;exact aK<|g ⟨b,bJ.same rfl rfl (λU U U U e=>.ff e) (aS _) rfl rfl⟩ f h a
 |cons e k v=>
  intro m d b f n s x p r h c a g i;rw[nJ,bl] at p;obtain⟨j,t⟩:=xB.mp p.1;rw[tH,t] at a;obtain _|⟨w,d⟩:=d
  .exact bO a
  refine aV.un (λy G c z=>?_) c;have u:=r e j (.head _) t;exact J (Tc u.2 ..)<|ak<|fT<|u.1 b f w y _ _ _ _ h c a (λq H B E=>v p.2 (λe j F=>r e j<|.tail _ F) B (z.mono q.le.le) E (g.le q.le)<|e_.le i q.le) i
def Pl(a:∀e∈b,isStar e=none)(c):(tO b c).length=H b/\(tO b c).findIdx? (·.1)=none:=by
 induction b with
 |nil=>exact⟨rfl,rfl⟩
 |cons e b d=>
  rw[Tc<|a e<|.head _];have:=d λe f=>a e<|.tail _ f
  exact⟨aZ xA this.1,J am'<|J this.2 rfl⟩
def ai8(w:jh f=true)(c:H f<=1000)(y:H f=H b)(z:m5 d f l)(p:b.all (λe=>(j e).isSome)=true)(q:∀e h,e∈b->j e=some h->KX d e h/\isStar e=none)(A:yV d.env.kindOf b f=some none):
 cP d (.Assign [.Tuple b k n] (.Tuple f s m) pos) (Jm (b.filterMap j) l):=λB D V W Y X g E F r=>by
 have G:∀e∈b,isStar e=none:=λe t=>by
  obtain⟨h,K⟩:=xB.mp<|dQ.mp p e t;exact(q e h t K).2
 refine Assign_Tuple (J3<|z m B D _ _ _ _ g E (λx u i=>?_)<|e_.x r g.ok) (Oc rfl)<|a7 w A;have L:H x.d<=lim:=J u<|az c av;refine l9 ?_ (by show x.v.toArray.size<=j9;exact J cK<|J x.bw.cg<|gq L);let a:=x.new (qn x.v 0) x.s.drawn x.s.toks;have M:a.o x.aC=some _:=x.toaL.ku rfl _ _;obtain⟨N,O⟩:=Pl G d.env;have P:(tO b d.env).length=x.v.toArray.size:=J N<|J cK<|J x.bw.cg<|J u<|J y rfl;refine J (an' ..)<|ak<|j_ ?_;unfold unpack;refine J P<|J O<|ak<|fT<|iZ (k0 d.aU.h (nq M) λQ R c=>?_);let v:=a.grow Q (λx o e=>R x o (kI<|dJ e) e) c;have le:=(x.le.bS a.le).bS v.le;exact akv p q (g.to le) (x.bw.mono (a.le.bS v.le).le) i (λS Z T i=>dG.at_ (dG.le (dG.le F le.of0) S.le) T (fl:=.next) rfl i)<|e_.le r le.of0
def tI{xs:List Str}:∀{h:List aF} {d:List D} {b:aL g} {f:List D} {j:List D->Prop} {k:Unit->bf->Prop},(∀x∈xs,Cn z x)->bQ z b f->b.b4 d h->uU (xs.map λx=>kQ x z.ns) d f j->
 (∀(x:iB z b) l,x.W=b.W->bQ z x.toaL l->j l->k () x.s)->aE g.M m (ib (xs.map λx=>bindName z.env x) h) k K b.s:=by
 induction xs with
 |nil=>
  intro h d b f j k _ n c a p;obtain⟨rfl,a⟩:=iH a;refine aV.no ?_ c;exact aK<|p ⟨b,bJ.same rfl rfl (λU U U U e=>.ff e) (aS _) rfl rfl⟩ f rfl n a
 |cons x xs t=>
  intro h d b f j k q n c a p;obtain _|⟨B,d⟩:=d
  .exact bO a
  refine aV.un (λE F c u=>?_) c;have r:=q x<|.head _;refine ak<|fT<|bindName_ (wQ n r.1 r.2 c λs e v=>?_);exact t (λi w=>q i<|.tail _ w) v (u.mono s.le.le) a λi l ao y A=>p ⟨i.toaL,s.le.bS i.le⟩ l (ao.trans e) y A
def ai7{c:List Str}(q:jh d=true)(i:H d<=1000)(r:m5 b d f)(s:∀x∈c,Cn b x)(t:yV b.env.kindOf h d=some (some c)):
 cP b (.Assign [.Tuple h k l] (.Tuple d m j) pos) (Jl (c.map λx=>kQ x b.ns) f):=λu v N O P X n w y z=>by
 refine Assign_Tuple_swapped (J3<|r j u v _ _ _ _ n w (λx A a=>?_)<|e_.x z n.ok) (Oc rfl)<|a7 q t;have B:H x.d<=lim:=J A<|az i av;refine l9 ?_ (by show x.v.toArray.size<=j9;exact J cK<|J x.bw.cg<|gq B);let g:=x.new (qn x.v 0) x.s.drawn x.s.toks;have D:g.o x.aC=some _:=x.toaL.ku rfl _ _;rw[<-List.map_reverse] at a;have E:H c=x.v.toArray.size:=by
  have:=Zz a;rw[xu,aX,xu] at this;exact J cK<|J x.bw.cg<|J this rfl
 refine J E<|iZ (k0 b.aU.h (nq D) λF G i=>?_);let p:=g.grow F (λx o e=>G x o (kI<|dJ e) e) i;have le:=(x.le.bS g.le).bS p.le;exact tI (λx K=>s x<|hE.mp K) (n.to le) (aV.rev<|x.bw.mono (g.le.bS p.le).le) a λL Q e M a=>dG.at_ (dG.le (dG.le y le.of0) L.le) M (fl:=.next) rfl<|e▸a
def SG(b:List D)(is:List Nat):Prop:=∀c∈is,∀a,b[c]?=some a->a=.ai
def aix:∀{d b:List D} {k h:List D->Prop},uU is d b k->(∀f,H f=H b->(∀j,j∉is->f[j]?=b[j]?)->k f->h f)->uU is d b h:=by
 induction is with
 |nil=>
  intro d b k h a c;obtain⟨rfl,a⟩:=iH a;exact c b rfl (λU U=>rfl) a
 |cons j is i=>
  intro d b k h a c;obtain _|⟨p,d⟩:=d
  .exact bO a
  exact i a λf ao aA l=>c f (ao.trans gM) (λm g=>(aA m λn=>g<|.tail _ n).trans (nL λe=>g (by rw[e];exact .head _))) l
def ts(a:iU f is h r k)(c:∀b,H b=H r->(∀d,d∉is->b[d]?=r[d]?)->k b->k' b):iU f is h r k':=by
 obtain _|_:=f
 .refine aG (jV a) λd g i=>?_;subst g
  exact c _ gM (λl j=>nL λe=>j (by rw[e];exact .head _)) i
 obtain _|_|_|_|_|m|_|_|_|_:=h<;>first|exact bO a|skip
 exact aix a c
def bQ.weak(f:bQ z a e)(m:H r=H e)(l:∀(d:Nat) b,r[d]?=some b->b≠.ai->e[d]?=some b):bQ z a r where
 len:=m.trans f.len
 lf:=f.lf
 loc:=f.loc.imp λn c=>⟨c.1,λd x b i j k h=>c.2 d x b i (l d b j h) k h⟩
 lg:=λd x i j=>(f.lg d x i j).imp λp c=>c.imp λo c=>⟨c.1,c.2.1,c.2.2.1,λb k h=>c.2.2.2 b (l d b k h) h⟩
 ok:=f.ok
structure mX{g:G}(a:aL g)(p:bG)(ds:List D):Prop where
 fr:a.c.Fr p
 z:ds.length<=lim
 at_:∃cY k,a.o p=some (eV cY k)/\a.b4 ds cY
def mX.lt(x:mX b d e):d<b.aC:=x.at_.elim λU a=>a.elim λU a=>dJ a.1
def N1(c:lK (eV b k) d):d=some (eV b k):=by
 refine aG c λeW e a=>?_
 obtain⟨f,g,a⟩|rfl:=a
 .contradiction
 exact e
def mX.le(x:mX d b e)(le:bJ f d h)(c:¬f b):mX h b e:=⟨le.fr b x.fr x.lt,x.z,x.at_.imp λg a=>a.imp λk a=>⟨N1<|le.keep b _ x.fr c a.1,a.2.mono le.le⟩⟩
def mX.ae0{b:List Env}(x:mX a c r)(ok:d_ a b):c∉jH b:=λd=>by
 refine kc (ok.at_ d) λo e f ao aA U=>m9 x.at_ λh k bL U=>?_
 cases ao.symm.trans bL
 contradiction
noncomputable def aL.loose(a:aL b)(g:a.c.Fr d)(c:j6 d a.s.heap f):aL b:=⟨a.c,a.W,{a.s with heap:=f},a.R.but (λx o h e=>(c.2 x λi=>h (by rw[i];exact g)).trans e)<|di c.1.symm⟩
def aL.uC(a:aL d)(g)(c:j6 b a.s.heap f):bJ (· =b) a (a.loose g c):=bJ.same rfl rfl (λx o U h e=>.ff<|(c.2 x h).trans e) (di c.1.symm) rfl rfl
def adG(x:mX a d f)(l:a.V h b)(m:H f<lim)(n:∀e,bJ (· =d) a e->e.W=a.W->mX e d (f++[h])->E .none e.s):aE g.M j (call (.builtin "list.append") [.ref d,b]) E K a.s:=by
 refine m9 x.at_ λc p i k=>oM QC ⟨_,i,rfl⟩ f' (fA _ _) (list_append d c.toArray p b<|J cK<|J k.cg<|gq x.z) ⟨i,?_⟩
 have q:j6 d a.s.heap (a.s.heap.update d (zw λr=>r.push b)):=rI ..;have up:=am0 i λxs=>xs.push b
 have ao:c.toArray.push b=(c++[b]).toArray:=J (List.push_toArray ..) rfl;rw[ao] at up;exact n _ (a.uC x.fr q) rfl ⟨x.fr,J bq<|m,c++[b],_,up,k.append<|.one l⟩
abbrev AB(d:List aI)(e:Bool)(a:Env):Sem Bool:=forIn d e λb c=>if c=true then do let ok<-Rg b a<|eval b a;pure (Jy ok) else pure<|Jy c
def FU(c:b5 b)(h:List aI)(i:List bB):Prop:=∀(a:aL b) (d:List D) (e:Ok Bool) (f:er) (g:Bool->bf->Prop) (X:aF->bf->Prop),bQ c a d->yW i d a.W e f->vC a e g->gj a c.fr f X->aE b.M c.A (AB h true c.env) g X a.s
def ajz{a:Bool->bf->Prop}(c:a false y):aE g.M d (AB b false z.env) a K y:=by
 induction b with
 |nil=>exact aK c
 |cons e b f=>
  unfold AB;exact J (JL ..)<|ak<|aK f
def ar(a:Sq d b f):FU d b (b.map f):=by
 induction b with
 |nil=>exactλh i l m n X j a c k=>aK<|c ⟨h,bJ.same rfl rfl (λU U U U e=>.ff e) (aS _) rfl rfl⟩ true a
 |cons e b p=>
  refineλh i l m n X j g c k=>?_
  unfold AB;refine J (JL ..)<|ak<|ak<|(a e<|.head _).t h i _ _ _ _ j g (λx q g=>aK ?_) k;obtain _|_:=q
  .exact ajz<|c x false g
  exact p (λe r=>a e<|.tail _ r) x.toaL i _ _ _ _ (j.to x.le) g (c.le x.le)<|k.le x.le
noncomputable def behind(e f:aI)(g:List oz)(c:Nat)(acc:aF)(b:Env)(d:Sem Fin):Sem Fin:=
 b7 (g[c+1]?) ((do let _<-call (.builtin "list.append") [acc,<-eval f b]:Sem Unit)>>=λU=>d) λa=>do
  let x<-eval a.iter b
  vq a.iter.pos
  let x<-if a.is_async !=0 then foldedIterable a.iter x else J_ a.iter b x
  let _<-runOwn (.compStart e (c+1) (<-holding [x] (if a.is_async !=0 then asyncIter x else qv x)) acc b) b
  d
abbrev K9(e d:aI)(f:List oz)(a:Nat)(c acc:aF)(b:Env)(ok:Bool):Sem Fin:=if ok=true then behind e d f a acc b (again<|.compLoop e a c acc b) else again<|.compLoop e a c acc b
def ak2(a:b[d]?=some ⟨h,l,m,0⟩):
 compTurn (.ListComp j b n pos) d e acc f=(vq l.pos>>=λU=>qw e>>=λs=>match s with
  |none=>pure<|.done .next
  |some k=>rP h e k>>=λU=>assign h f k>>=λU=>AB m true f>>=λok=>K9 (.ListComp j b n pos) j b d e acc f ok):=by
 unfold compTurn K9 behind
 dsimp only
 rw[a];cases b[d+1]? <;>rfl
def zR(a:b5 b)(j:List Nat)(f:bG)(l:Sem Fin->Sem Fin)(m:tV):Prop:=∀(c:aL b) (e acc:List D) (k:Ok (List D)) (g:Sem Fin) (h:Fin->bf->Prop) (X:aF->bf->Prop),bQ a c e->SG e j->mX c f acc->m acc e c.W k->
 (∀(d:aL b) (i:List D),bJ (λx=>x=f\/a.own x) c d->bQ a d e->mX d f i->k i d.W->aE b.M a.A g h X d.s)->aE b.M a.A (l g) h X c.s
def PH(q:e[f+1]?=none) (bT:¬b.all d) (r:cD b h j.v):zR b l d (behind i h e f (.ref d) b.env) (NY j):=λs t acc k z A X p B x a u=>by
 unfold behind;refine J q<|ak<|ak<|r s t _ _ _ _ p a (λg c=>?_) gj.no;refine ak (adG (x.le g.le λa=>a) g.bw c.1 λv le i w=>aK ?_);have m:=p.to g.le;exact u v _ (g.le.of0.trans le (λU a=>a) λU U a=>.inl a) (m.Eu le (λy n c=>bT<|c▸n) (m.ok.le le λy n c=>(x.le g.le λa=>a).ae0 m.ok<|c▸n)) w<|i▸c.2
inductive RQ{g:G}(Γ:b5 g)(a:aL g)(Ku:bG)(S:List bG)(T:List D->aL g->Prop)(r:List D)(Q:List D->List D->aN->Prop):Nat->bf->Prop
 |mk (b:aL g) (le:bJ (λx=>(x=Ku\/Γ.own x)\/x∈S) a b) (l acc:List D) (F:bQ Γ b r) (X:mX b Ku acc) (st:T l b) (q:Q l acc b.W):RQ Γ a Ku S T r Q l.length b.s
def Ur{bu:Bool}(Ay:B[M]?=some ⟨O,Z,Q,0⟩) (bT:¬Γ.all m) (H:qA s Γ.A O ok S I T) (MK:x6 Γ O bu is) (MM:∀j∈is,j∉R) (abn:FU Γ Q A) (nj:zR Γ R m (behind (.ListComp P B V pos) P B M (.ref m) Γ.env) f) (qb:∀x∈S,x≠m/\¬Γ.all x/\x∉jH Γ.fr) (l) (a) (r acc:List D) (k) (KL) (F:bQ Γ a r) (uw:SG r (is++R)) (n7:mX a m acc) (st:T l a) (h:o8 ok (wG bu is A f r) l acc a.W k) (aaW:∀b L,bJ (λx=>(x=m\/Γ.own x)\/x∈S) a b->bQ Γ b r->mX b m L->k L b.W->KL (.ok .next) b.s):
 nQ s.M Γ.A (.compLoop (.ListComp P B V pos) M (.ref I) (.ref m) Γ.env) KL a.s:=by
 refine codeAny_loop rfl (RQ Γ a m S T r λl acc W=>o8 ok (wG bu is A f r) l acc W k) (λn s2 c6=>?_) l.length<|.mk a (bJ.same rfl rfl (λU U U U e=>.ff e) (aS _) rfl rfl) l acc F n7 st h;obtain⟨b,le,dh,G,vy,SM,Z4,gB⟩:=c6;refine wpAny_noted ?_;refine J (ak2 Ay)<|ak<|j_ ?_;have R1:∀{i b2:aL s} {sR:List D},bQ Γ i sR->bJ _ i b2->bQ Γ b2 sR:=λvv le=>vv.Eu le (λp jT u=>(qb p u).2.1 jT) (vv.ok.le le λp jT u=>(qb p u).2.2 jT)
 obtain _|⟨d,dh⟩:=dh
 .exact ak (H.done b _ _ Z4 λdX N nc=>aK<|aaW dX G (le.trans N (λU h=>h) λU U h=>.inr h) (R1 vy N) (SM.le N λh=>(qb _ h).1 rfl)<|nc▸gB)
 refine ak (fq (H.item b d dh (λv s'=>aE s.M Γ.A (assign O Γ.env v>>=λU=>AB Q true Γ.env>>=λok=>K9 _ P B M _ _ Γ.env ok) _ _ s') _ Z4 λi v X nc bw aje=>?k) (λq Er yr=>by obtain⟨v,rfl,yr⟩:=yr;exact ak yr) λU U h=>h);have Cs:=SM.le X λh=>(qb _ h).1 rfl
 have q0:iU bu is d r λE=>yW A E i.W (λt g=>i0 t (ok g/\o8 ok (wG bu is A f r) dh G g k) (f G E g λY g=>ok g/\o8 ok (wG bu is A f r) dh Y g k)) cI:=J nc<|gB
 refine ak (MK i r d v _ _ _ (R1 vy X) bw (ts q0 (k':=λE=>(E.length=r.length/\∀j,j∉is->E[j]?=r[j]?)/\yW A E i.W (λt g=>i0 (motive:=λU=>Prop) t _ (f G E g λY g=>ok g/\o8 ok _ dh Y g k)) cI) λE ao aA q=>⟨⟨ao,aA⟩,q⟩) λz sR yh vz q=>?_);obtain⟨⟨ao,aA⟩,q⟩:=q;have weak:∀{b2:aL s},bQ Γ b2 sR->bQ Γ b2 r:=λvA=>vA.weak ao.symm λj d fN hd=>by
  by_cases u:j∈is
  .exact aW (uw j (xw _ u) d fN) hd
  rwa [aA j u]
 have abF:=λj fN d hd=>uw j (lF _ fN) d<|by rwa [<-aA j λu=>MM j u fN]
 refine ak<|abn z.toaL sR _ _ _ _ vz (yh▸q) (λw t q=>?_) gj.no;have K:bJ (λx=>x=m\/Γ.own x) i w.toaL:=(z.le.up λU U h=>.inr h).bS w.le.of0;have c1:∀{c:aL s},bJ (λx=>x=m\/Γ.own x) i c->bJ (λx=>_\/x∈S) a c:=λy=>(le.trans X (λU h=>h) λU U h=>.inr h).trans y (λU h=>h) λU U h=>.inl h
 have stK:∀{c:aL s},bJ (λx=>x=m\/Γ.own x) i c->ok c.W->T dh c:=λy VR=>H.keep i _ dh _ aje y (λx c7 h=>h.elim (qb x c7).1 λh=>(qb x c7).2.1<|b5.DJ h)<|.inr VR
 have vA:=vz.to w.le;have SO:=Cs.le (z.le.bS w.le.of0) λh=>bT<|b5.DJ h
 obtain _|_:=t
 .exact aK ⟨rfl,dh.length,f6 _,.mk w.toaL (c1 K) dh G (weak vA) SO (stK K q.1) q.2⟩
 exact nj w.toaL sR G _ _ _ _ vA abF SO q λc L WZ lh m1 q=>aK ⟨rfl,dh.length,f6 _,.mk c (c1<|K.bS WZ) dh L (weak lh) m1 (stK (K.bS WZ) q.1) q.2⟩
def mark_none(a:fY):a.mark none=a:=by cases a;rfl
def Up(i:d[e]?=some ⟨s,A,B,0⟩) (p:nQ g.M f (.compLoop (.ListComp h d j pos) e n acc k) l y) (a:aE g.M f (qv n) (λm b=>nQ g.M f (.compLoop (.ListComp h d j pos) e m acc k) l b)
 (notedBy g.M f k λx b=>l (.error x) b) y):
 nQ g.M f (.compStart (.ListComp h d j pos) e n acc k) l y:=by
 refine ip<|wpAny_notedAt ?_;have q:(clausesOf<|.ListComp h d j pos)[e]?=some ⟨s,A,B,0⟩:=i;unfold Rb;rw[q];refine ak<|km<|wpAny_ite ?_;split
 .first
   |exact ak _
   |exact aK<|And.intro rfl p
 first
  |exact ak<|mV<|ak<|j_<|ak (fq a (λm b c=>aK _) λU U x=>x)
  |(refine ak<|mV ?_;exact ak<|j_<|ak (fq a (λm b c=>aK<|And.intro rfl c) λU U x=>x))
def PQ{bu:Bool}(c:d[l+1]?=some ⟨m,n,L,0⟩) (bT:¬z.all f) (D:∀x,J_ n z.env x=pure x) (E:bu=true->qW m=true) (hit:xX z n M.i) (G:x6 z m bu is) (N:∀O∈is,O∉s) (Q:FU z L P) (nj:zR z s f (behind (.ListComp j d A pos) j d (l+1) (.ref f) z.env) B):
 zR z (is++s) f (behind (.ListComp j d A pos) j d l (.ref f) z.env) (LI bu is M P B):=λa r acc k u K X F uw x h R=>by
 unfold behind;refine J c<|ak (fq (hit bu a r _ _ (λS T=>aE g.M z.A (runOwn (.compStart (.ListComp j d A pos) (l+1) S (.ref f) z.env) z.env>>=λU=>u) K X T) X F h (λy q=>?k) gj.no) (λv Er h=>?_) λU U h=>h);case k=>
  have H:=y.o6 z.A m z.aU.h E;refine ak<|wpAny_runOwn ?_;rw[mark_none];have fin:=Ur c bT H G N Q nj (λi t=>⟨λe=>aW x.lt<|bA.mpr<|e▸y.new i t,λh=>aW (F.lt h)<|bA.mpr<|y.new i t,λh=>aW (F.ok.lt h)<|bA.mpr<|y.new i t⟩) y.l y.toaL r acc k
   (λr w=>match r with|.ok B=>aE g.M z.A u K X w|.error e=>cameBackBy g.M z.A z.env X e w) (F.to y.le) uw (x.le y.le λh=>h) y.st q λb V le W Y q=>R b V (y.le.of0.trans le (λU h=>h) λp Z h=>h.elim id λh=>aW Z<|bA.mpr<|y.new p h) W Y q
  exact Up c fin<|H.self _ _ _ _ y.st fin
 refine ak<|j_ ?_;refine J (D ..)<|ak<|aK ?_;exact ak<|fT (fq h (λU U h=>h) λU U h=>h)
def aej(c:Str->kH->kH)(x)(a:List (Str×kH)):(a.map λb=>(b.1,c b.1 b.2)).lookup x=(a.lookup x).map (c x):=by
 induction a with
 |nil=>rfl
 |cons b a d=>
  rw[i6,nM,nM];rcases e:x==b.1 with _|_
  .exact d
  exact J (ck e) rfl
def ahS(d)(a b:Env)(e:a.scope.kind=.function)(f:b.scope=relabel d a)(x):b.kindOf x=yw d a.kindOf x:=by
 show b.scope.names.lookup x=_;rw[f];unfold relabel yw;rw[<-aej λc k=>bif k==.free&&a.kindOf c==some .cell then zp else k];congr 1;refine qu λg U=>?_
 obtain⟨c,k⟩:=g
 dsimp only
 rw[e,beq_self_eq_true,Qq];cases k==nO&&a.kindOf c==some zp<;>rfl
def mem_lookup{a:List (Str×kH)}(c:(a.map (·.1)).Nodup):(x,b)∈a↔a.lookup x=some b:=⟨NW c,λe=>mem_of_lookup e⟩
def C'(env)(l:List (Str×kH)):∀acc,(∀x∈l,x.2=.free->∃a,env.cells.lookup x.1=some a)->
 ∃cl,(forIn l acc (λx cs=>match x with|(name,kind)=>if(kind==.free)=true then do let a<-cellOf env name;pure (Jy ((name,a)::cs)) else pure (Jy cs):(Str×kH)->List (Str×bG)->Sem (ForInStep<|List<|Str×bG)))=pure cl/\
  (∀z b,(z,b)∈cl->(z,b)∈acc\/((z,nO)∈l/\env.cells.lookup z=some b))/\((∀x,(x,nO)∈l->cl.lookup x=env.cells.lookup x)/\∀x,(x,nO)∉l->cl.lookup x=acc.lookup x):=by
 induction l with
 |nil=>exactλacc U=>⟨acc,rfl,λU U h=>.inl h,λU h=>aW h BJ,λU U=>rfl⟩
 |cons p l AD=>
  intro acc h;obtain⟨n,dg⟩:=p;rw[JL];rcases cB:dg==nO with _|_
  .refine nV (AD acc λx c7=>h x<|.tail _ c7) λcl e eH gB n6=>?_
   have ne:∀x,_∈(n,dg)::l->(x,nO)∈l:=λx c7=>(cQ.mp c7).elim (λe=>by cases e;contradiction) id
   refine⟨cl,?_,λz b fO=>(eH z b fO).imp id λq=>⟨.tail _ q.1,q.2⟩,λx c7=>gB x<|ne x c7,λx c7=>n6 x λm=>c7<|.tail _ m⟩;show(if _=true then _ else _)>>=_=_;rwa [cB]
  cases ck cB
  obtain⟨a,kO⟩:=h _ (.head _) rfl;have kO:=kO;refine nV (AD ((n,a)::acc) λx c7=>h x<|.tail _ c7) λcl e eH gB n6=>?_
  have uv:∀x,_∉l->cl.lookup x=if x=n then env.cells.lookup x else acc.lookup x:=λx c7=>by
   rw[n6 x c7,nM];by_cases iu:x=n
   .exact J iu<|J (dI rfl)<|J (beq_self_eq_true ..)<|J kO rfl
   exact J (cE iu)<|J (show _=false from jO iu) rfl
  refine⟨cl,?_,λz b fO=>?_,λx c7=>?_,λx c7=>?_⟩
  .show(if _=true then _ else _)>>=_=_;rw[cB];unfold cellOf;rwa [kO]
  .obtain h|⟨h,q⟩:=eH z b fO
   .obtain h|h:=cQ.mp h
    .cases h;exact .inr ⟨.head _,kO⟩
    exact .inl h
   exact .inr ⟨.tail _ h,q⟩
  .by_cases hm:(x,nO)∈l
   .exact gB x hm
   exact J (uv x hm)<|J (dI ((cQ.mp c7).elim (λe=>by cases e;rfl) λq=>aW q hm)) rfl
  exact J (uv x λm=>c7<|.tail _ m)<|J (cE λe=>c7 (by rw[e];exact .head _)) rfl
def LL(a:∀x∈f.names,x.2=.free->∃j,env.cells.lookup x.1=some j):
 ∃b,closureFor f env=pure b/\(∀d h,(d,h)∈b->(d,nO)∈f.names/\env.cells.lookup d=some h)/\(∀x,(x,nO)∈f.names->b.lookup x=env.cells.lookup x):=by
 exact nV (C' env f.names [] a) λb e c g U=>⟨b,(aZ (· >>=pure) e).trans rfl,λd h i=>(c d h i).elim (λa=>aW a BJ) id,g⟩
def Um(is):∀b,(clear is b).length=H b:=by
 induction is with
 |nil=>exactλb=>rfl
 |cons c is a=>exactλb=>(a _).trans gM
def LK(is):∀d b,b∉is->(clear is d)[b]?=d[b]? :=by
 induction is with
 |nil=>exactλd b U=>rfl
 |cons g is c=>exactλd b a=>(c _ b λf=>a<|.tail _ f).trans (nL λe=>a (by rw[e];exact .head _))
def CL(is):∀f b d,b∈is->(clear is f)[b]?=some d->d=.ai:=by
 induction is with
 |nil=>exactλf b d a U=>nomatch a
 |cons j is h=>
  intro f b d a e;by_cases c:b∈is
  .exact h _ b d c e
  have i:=(LK is _ b c).symm.trans e;obtain rfl|a:=cQ.mp a
  .exact(get_set i).elim (λg=>g.2) λg=>aW rfl g.1
  exact aW a c
structure k4{g:G}(Γ:b5 g)(scope:f7):Prop where
 kind:scope.kind=.function
 nodup:(scope.names.map (·.1)).Nodup
 free:∀x,(x,nO)∈scope.names->x∈Γ.ns/\kM (Γ.env.kindOf x)=true
def vS(ns:List Str)(a:f7):List Nat:=(b6<|H ns).filter λb=>lD<|a.names.lookup<|ns.getD b ""
def LM{ns:List Str}(a:ns[N]?=some x):N∈vS ns b↔lD (b.names.lookup x)=true:=by
 unfold vS;exact lA BI<|lA fJ<|J l0<|J a<|⟨λa=>a.2,λc=>⟨jw a,c⟩⟩
structure Ca{g:G}(Γ:b5 g)(scope:f7)(tD:b5 g):Prop where
 A:tD.A=Γ.A
 ns:tD.ns=Γ.ns
 fr:tD.fr=Γ.fr
 cf:tD.cf=Γ.cf
 dg:∀x,tD.env.kindOf x=yw scope Γ.env.kindOf x
 lT:∀x,tD.lT x=lD (scope.names.lookup x)
def E'{Γ:b5 g}{rest:List oz}{bu:Bool}(t:k4 Γ f)(abi:∀x,J_ n Γ.env x=pure x)(abE:bu=true->qW s=true)(hit:xX Γ n B.i)(abC:∀j∈is,j∈vS Γ.ns f)(MQ:∀j∈M,j∈vS Γ.ns f)(MM:∀j∈is,j∉M)(MO:∀l,Ca Γ f l->x6 l s bu is/\FU l A P/\∀L,¬l.all L->zR l M L (behind (.ListComp O (⟨s,n,A,0⟩::rest) f pos) O (⟨s,n,A,0⟩::rest) 0 (.ref L) l.env) Q)(F:bQ Γ a r)(h:Am (vS Γ.ns f) bu is B P Q r a.W k cI)(ni:∀(x:FO a) m,k x.d x.W->x.c.Fr m->a.aC<=m->m≠x.p->(∃B,x.s.heap.Ns m B)->iq g.M Γ.A K use E (.ref x.p) m (.ok .next) x.s):
 aE g.M Γ.A (comprehension (.ListComp O (⟨s,n,A,0⟩::rest) f pos) f Γ.env (firstIterPos (⟨s,n,A,0⟩::rest) pos) (E_ []) false (eval n Γ.env) use) E K a.s:=by
 obtain⟨cl,ML,V,R⟩:=LL λx i hf=>by
  obtain⟨Qk,al2⟩:=x;subst hf;obtain⟨fN,cB⟩:=t.free Qk i;obtain⟨j,fN⟩:=QR fN;exact m9 (F.lg j Qk fN cB) λp U e U=>⟨p,e⟩
 refine wpAny_comprehension_free rfl abi ML t.kind (λx i gC=>NW t.nodup (by obtain⟨Qk,al2⟩:=x;subst gC;exact i))<|hit bu a r _ _ _ _ F h (λy q=>?_) gj.no;have H:=y.o6 Γ.A s Γ.aU.h abE;refine l9 ?_<|b9 _;let c:=y.toaL.new (eV [] 0) y.s.drawn y.s.toks;show aE _ Γ.A _ _ K c.s;unfold js;refine ak<|Ff (o:={cls:=.type "dict",data:=.dict #[]}) ?_;refine ak<|kn _ (λname kind cells=>by cases abr:kind==zp<;>simp[abr]) _ _ _ _ ?_
 refine J (show({c.s with heap:=c.s.heap.push {cls:=.type "dict",data:=.dict #[]}}:bf).heap.objs.size=c.aC+1 from f5 ..)<|ak<|aK<|aK ?_;let ce:Env:={scope:=relabel f Γ.env,locals:=c.aC,globals:=Γ.env.globals,cells:=pW (c.aC+1) f.names cl,qual:=Γ.env.qual,func:=none,code:=Γ.env.code,frame:=Γ.env.frame,builtins:=Γ.env.builtins};have S:=ahS f Γ.env ce Γ.fn rfl;have vv:=F.to<|y.le.bS c.le;have old:∀x p,_∈f.names->Γ.env.cells.lookup x=some p->p<a.aC:=λx p i u=>F.lt<|.inr ⟨x,(t.free x i).1,(t.free x i).2,u⟩
 have T:c.aC=y.aC+1:=f5 ..;have D:k6 c.toaL f.names Γ.ns cl ce:=⟨rfl,rfl,t.nodup,λx h=>by
  rw[S x] at h;unfold yw at h;cases q:f.names.lookup x with
  |none=>rw[q] at h;contradiction
  |some dg=>
   rw[q] at h;have fM:(bif dg==nO&&Γ.env.kindOf x==some zp then zp else dg)=NameKind.local:=bY h;revert fM;cases dg==nO&&Γ.env.kindOf x==some zp with
   |true=>exactλh=>nomatch h
   |false=>exactλh=>aZ some h,λx h=>by
  rw[S x] at h;unfold yw at h;cases q:f.names.lookup x with
  |none=>rw[q] at h;contradiction
  |some dg=>
   rw[q] at h;cases dg with
   |cell=>exact .inl rfl
   |free=>exact .inr rfl
   |_=>contradiction⟩
 have m:zO c.toaL f.names Γ.ns r cl:=⟨λj x i hf=>by
  have v:=(mem_lookup t.nodup).mpr hf;exact m9 (vv.lg j x i (t.free x v).2) λp o e k=>⟨p,o,(R x v).trans e,k⟩,λx z p i w abj abk kO nj=>by
  have VO:=(mem_lookup t.nodup).mpr abj;have VP:=(mem_lookup t.nodup).mpr abk;exact Γ.ap x z p i w (t.free x VO).2 (t.free z VP).2 ((R x VO).symm.trans kO) ((R z VP).symm.trans nj),λz p VU=>bZ (old z p (V z p VU).1 (V z p VU).2) (az y.le.size c.le.size)⟩
 let l:b5 g:=⟨Γ.A,ce,Γ.ns,λy=>lD<|f.names.lookup y,Γ.fr,Γ.k,Γ.cf,Γ.qT,Γ.aU,Γ.qR,t.kind,Γ.gl,Γ.Ag,Γ.wg,λz p=>D.ne m z p,λx z p=>D.ap m x z p⟩;let b2:=c.frame {cls:=.type "dict",data:=.dict #[]} f.names;have vy:=k6.C_ (Γ:=l) D m ((Um _ _).trans F.len) (vv.to b2.le).ok (λj x d i abw G=>CL _ r j d ((LM i).mpr (by obtain h|h:=abw<;>rw[h]<;>rfl)) G)
  λj x d i hf G U=>(LK _ r j λjS=>by have:=(LM i).mp jS;rw[hf] at this;contradiction).symm.trans G
 refine iT (MO l ⟨rfl,rfl,rfl,rfl,S,λU=>rfl⟩) λMK Y abg=>?_
 have W:∀p,l.all p->p<a.aC\/c.aC<=p:=λp u=>by
  obtain rfl|⟨x,i,cB,gC⟩:=u
  .exact .inr<|aS _
  obtain h|h:=D.at_ cB gC
  .exact .inr<|oF h.2
  have v:=(mem_lookup t.nodup).mpr h.1;exact .inl<|old x p v<|(R x v).symm.trans h.2
 have own:∀p,l.own p->c.aC<=p:=λp u=>by
  obtain rfl|⟨x,i,N,cB,gC⟩:=u
  .exact aS _
  obtain h|h:=D.at_ (J (show ce.kindOf x=_ from cB) rfl) gC
  .exact oF h.2
  have N:lD _=true:=N;rw[h.1] at N;contradiction
 have bT:¬l.all y.aC:=λh=>by
  obtain h|h:=W _ h
  .exact aW h<|bA.mpr y.le.size
  rw[T] at h;exact aW h<|JW _
 have aaX:mX c.toaL y.aC []:=⟨y.toaL.fresh<|aS _,b9 _,[],0,y.toaL.ku rfl _ _,rfl⟩;have aaY:=aaX.le b2.le λh=>h
 have X:=H.keep _ _ _ _ y.st (c.le.bS b2.le) (λU U h=>h)<|.inl rfl;have fin:=Ur rfl bT H MK MM Y (abg y.aC bT) (λz w=>⟨kI<|y.old z w,λh=>(W z h).elim (λh=>aW h<|bA.mpr<|y.new z w) λh=>aW (bZ (y.old z w)<|oF<|az (di T.symm) h)<|oG _,λh=>aW (F.ok.lt h)<|bA.mpr<|y.new z w⟩) y.l b2.toaL _ [] k
  (iq g.M Γ.A K use E (.ref y.aC) c.aC) vy (λj fN d G=>CL _ r j d ((i7.mp fN).elim (abC j)<|MQ j) G) aaY X q λb Z le Cc Cs q=>?_
 .exact Up rfl fin<|H.self _ _ _ _ X fin
 refine m9 Cs.at_ λcY Dr N bw=>?_
 exact aG Cc.loc λDC v U=>ni ⟨⟨b,((y.le.bS c.le).bS b2.le).trans le (λU h=>h) λp u h=>by
  obtain(rfl|h)|h:=h
  .exact aW u<|bA.mpr y.le.size
  .exact aW u<|bA.mpr<|az (az y.le.size c.le.size)<|own p h
  exact aW u (bA.mpr (y.new p h))⟩,y.aC,Z,cY,Dr,Cs.z,Cs.fr,y.le.size,N,bw⟩ c.aC q Cc.lf (az y.le.size c.le.size) (by show c.aC≠y.aC;exact J T<|anR _) ⟨DC,v⟩
def G4(a:isSet i=false)(x):J_ i b x=pure x:=afC a (by
 rcases i<;>first|exact(rj (pure x:Sem aF) (false=true))|exact .inr rfl)
def acS(h:b[kQ x b]?=some x) (f:kQ d b=kQ x b):x=d:=by
 have:∀b:List Str,∀a,kQ d b=a->a<H b->b[a]?=some d:=λb=>by
  induction b with
  |nil=>exactλa U f=>aW f<|JV _
  |cons i b j=>
   intro a e k;have c:(bif i==d then 0 else kQ d b+1)=a:=e;rcases g:i==d with _|_
   .rw[g] at c;subst c;exact j _ rfl<|JU k
   rw[g] at c;subst c;exact aZ some<|ck g
 exact bY<|h.symm.trans<|this b _ f<|jw h
def R3(a:G)(g:Str->Option D):Prop:=∀(b:b5 a) (x:Str) (d:D) (c:aL a) (e X:aF->bf->Prop),g x=some d->b.env.kindOf x=some .globalImplicit->(∀f,c.V d f->e f c.s)->aE a.M b.A (E8 b.env x) e X c.s
structure f9{g:G}(Γ:b5 g)(c:b_):Prop where
 ns:c.ns=Γ.ns
 dg:c.dg=Γ.env.kindOf
 gl:R3 g c.gl
def f9.at(a:f9 b d)(c):f9 b (d.at c):=⟨a.ns,a.dg,a.gl⟩
def f9.iE(a:f9 e b)(I:Ca e d f):f9 f (b.iE d):=⟨a.ns.trans I.ns.symm,funext λx=>by show yw d b.dg x=_;rw[a.dg,I.dg],a.gl⟩
def Z5{a:b_}(b:a.st x=true):lD (a.dg x)=true/\a.ns[a.e7 x]?=some x:=((bl ..).mp b).imp id Nh
def cp(a:lU b=true):qW b.target=true:=by
 unfold lU pK at a;unfold qW;rcases e:isNm b.target with _|x
 .rw[e] at a;rcases c:isTup b.target with _|d
  .rw[c] at a;contradiction
  rfl
 rw[e] at a;contradiction
structure zN(c:b_)(scope:f7)(qQ:oz)(later:List Str):Prop where
 eq:qQ=⟨qQ.target,qQ.iter,qQ.ifs,0⟩
 set:isSet qQ.iter=false
 pJ:pK qQ.target=some (lU qQ,kD qQ)
 st:∀x∈kD qQ,lD (c.dg x)=true/\c.ns[c.e7 x]?=some x
 lT:∀x∈kD qQ,lD (scope.names.lookup x)=true
 Md:∀x∈kD qQ,x∉later
def GB(c:d.LJ f b h=true):zN d f b h:=by
 unfold b_.LJ at c;rw[bl,bl,bl,bl] at c;obtain⟨⟨⟨⟨i,j⟩,k⟩,l⟩,g⟩:=c;refine⟨?_,?_,(by
  unfold lU kD;rcases e:pK b.target with _|p
  .rw[e] at k;contradiction
  rfl),λx a=>Z5 (dQ.mp l x a),λx a=>((bl ..).mp (dQ.mp g x a)).1,λx a m=>?_⟩
 .obtain⟨q,r,s,t⟩:=b;cases ck i
  rfl
 .rcases n:isSet b.iter with _|_
  .rfl
  rw[n] at j;contradiction
 have:=((bl ..).mp<|dQ.mp g x a).2;rw[nK.mpr m] at this;contradiction
def zN.cw(a:zN d h b xs)(c:f9 f d)(i:∀x,f.lT x=lD (h.names.lookup x)):x6 f b.target (lU b) ((kD b).map d.e7):=by
 have e:(kD b).map d.e7=(kD b).map λx=>kQ x f.ns:=by
  refine qu λx U=>?_
  show kQ x d.ns=_;exact J c.ns rfl
 rw[e];exact PL a.pJ λx g=>⟨by have:=(a.st x g).2;unfold b_.e7 at this;rwa [c.ns] at this,bH c.dg<|(a.st x g).1,(i x).trans<|a.lT x g⟩
def zN.UK(a:zN b j f h):∀d∈(kD f).map b.e7,d∉h.map b.e7:=λd g i=>by
 refine aG (fC.mp g) λx c k=>?_;subst k
 exact aG (fC.mp i) λl m e=>a.Md x c<|by rwa [acS (a.st x c).2 e]
def CM(a:b.ud d (f::e)=true):zN b d f (s6 e)/\b.ud d e=true:=((bl ..).mp a).imp GB id
def P2{p:b_->aI->bB}(n:∀e,cH b e (p d e))(q:f9 b d)(r:∀x,b.lT x=lD (k.names.lookup x))(bT:¬b.all l)(a):∀f,h.drop (f+1)=a->d.ud k a=true->
 zR b ((s6 a).map d.e7) l (behind (.ListComp j h k pos) j h f (.ref l) b.env) (Ef d (p d) j a):=by
 induction a with
 |nil=>exactλf c U=>PH (bH QU<|J c rfl) bT (n j).v
 |cons g a s=>
  intro f c t;obtain⟨m,u⟩:=CM t;have w:h[f+1]?=some ⟨g.target,g.iter,g.ifs,0⟩:=bH QU<|J c<|bH m.eq rfl;have y:=PQ w bT (G4 m.set) cp (n g.iter).i (m.cw q r) m.UK (ar λe U=>n e)<|s _ (bH anw<|J c rfl) u;rwa [<-dS] at y
def Dx{c:b_}(f:c.ud e b=true):∀d∈(s6 b).map c.e7,d∈vS c.ns e:=by
 induction b with
 |nil=>exactλd f=>aW f BJ
 |cons h b i=>
  obtain⟨g,j⟩:=CM f;intro d k;refine aG (fC.mp k) λx a l=>?_;subst l
  obtain a|a:=i7.mp (show x∈kD h++s6 b from a)
  .exact(LM (g.st x a).2).mpr<|g.lT x a
  exact i j _<|fC.mpr ⟨x,a,rfl⟩
def Uq{c}{n:b_->aI->bB}(i:f9 z c)(s:c.Ak d=true)(w:(c.iE d).ud d (b::f)=true)(t:cH z b.iter (n (c.at 0) b.iter))(y:∀h e,Ca z d h->cH h e (n (c.iE d) e))(F:bQ z a r)(A:Am (c.cN d) (lU b) ((kD b).map c.e7) (n (c.at 0) b.iter) (b.ifs.map (n (c.iE d))) (Ef (c.iE d) (n (c.iE d)) l f) r a.W k cI)(G:∀(x:FO a) j,k x.d x.W->x.c.Fr j->a.aC<=j->j≠x.p->(∃m,x.s.heap.Ns j m)->iq g.M z.A K use E (.ref x.p) j (.ok .next) x.s):
 aE g.M z.A (comprehension (.ListComp l (b::f) d pos) d z.env (firstIterPos (b::f) pos) (E_ []) false (eval b.iter z.env) use) E K a.s:=by
 obtain⟨q,u⟩:=CM w;have H:c.cN d=vS z.ns d:=bH i.ns rfl;have B:∀p∈(s6 (b::f)).map c.e7,p∈vS z.ns d:=bH i.ns<|Dx (c:=c.iE d) w;rw[H] at A;have D:=q.eq;generalize L:(⟨b.target,b.iter,b.ifs,0⟩:oz)=fG at D;have M:=E' (pos:=pos) (by
  unfold b_.Ak at s;rw[bl,bl] at s;obtain⟨⟨t,u⟩,N⟩:=s;refine⟨ck t,eB u,λx O=>?_⟩;have:=dQ.mp N _ O;have:(c.ns.contains x&&kM _)=true:=this;rw[bl,i.ns,i.dg] at this;exact this.imp nK.mp id) (G4 q.set) cp t.i (λp v=>B p (J (show s6 _=kD b++s6 f from rfl)<|J dS<|xw _ v)) (λp v=>B p (J (show s6 _=kD b++s6 f from rfl)<|J dS<|lF _ v)) q.UK
  (λh I=>⟨q.cw (i.iE I) I.lT,ar λe U=>y h e I,λP bT=>P2 (λe=>y h e I) (i.iE I) I.lT bT f 0 rfl u⟩) F A G
 rwa [L,<-D] at M
def Va(a):firstIter (b::d) a=eval b.iter a:=by cases b;rfl
def aj'{a:b_->aI->bB}(p:f9 h b)(q:b.Ak d=true)(m:(b.iE d).ud d (f::j)=true)(r:cH h f.iter (a (b.at 0) f.iter))(s:∀k e,Ca h d k->cH k e (a (b.iE d) e)):
 z5 h (.ListComp l (f::j) d pos) (Am (b.cN d) (lU f) ((kD f).map b.e7) (a (b.at 0) f.iter) (f.ifs.map<|a<|b.iE d)<|Ef (b.iE d) (a<|b.iE d) l j):=λB D E F G X t c u H=>by
 rw[eval_ListComp];have ao:firstAsync (f::j)=false:=by
  have:=(CM m).1.eq;exact J this rfl
 rw[ao,Va];refine Uq p q m r s t c λx K v n w y g=>?_
 obtain⟨z,g⟩:=g;refine⟨z,g,λL i=>?_⟩;exact u ⟨⟨x.toaL.loose n i,x.le.trans (x.toaL.uC n i) (λU c=>c) λM A e=>by have e:=e;subst e;exact aW A<|bA.mpr w⟩,x.p,x.d,x.v,x.m,x.z,x.fr,x.new,(i.2 _ y.symm).trans x.cu,x.bw⟩ v
def adX(own)(x:FO e){Q:Ok D}(g:i0 own (Q (.lst x.d) x.W) (Q (.loc (H x.W)) (x.W++[.lst x.d]))):∃b:Res e,b.s=x.s/\b.v=.ref x.p/\Q b.d b.W/\∀d,d≠x.p->x.c.Fr d->b.c.Fr d:=by
 obtain _|_:=own
 .exact⟨⟨x.tocM.put x.fr x.cu x.new,.ref x.p,.lst x.d,x.z,x.p,x.v,x.m,rfl,bP.ny,x.bw.mono<|bP.q9 x.fr⟩,rfl,rfl,g,λd f c=>⟨(bP.wB f).trans c.1,c.2⟩⟩
 have h:∀b∈[x.p],x.c.Fr b:=λb a=>by rw[dK.mp a];exact x.fr
 refine⟨⟨x.tocM.adopt x.p [x.p] (λb a=>⟨h b a,J (dK.mp a)<|dJ x.cu⟩) (λb a=>J (dK.mp a)<|x.new) (o:=.lst x.d) ⟨x.v,x.m,by rw[r6];exact Cy<|.head _,x.z,J r6<|x.cu,x.bw.mono<|Ga h⟩,.ref x.p,.loc<|H x.W,⟨by show _<(x.W++[_]).length;exact J bq<|f6 _,aZ kJ r6.symm⟩⟩,rfl,rfl,g,λd f c=>⟨c.1,?_⟩⟩;show(bif[x.p].contains d then some (H x.W) else x.c.w d)=none;exact J (show[x.p].contains d=false from Jv.mpr λa=>f<|dK.mp<|nK.mp a)<|c.2
def ai5{g:b_->aI->bB}(cu:f9 n j)(jS:j.Ak k=true)(z:(j.iE k).ud k (l::A)=true)(eH:cH n l.iter (g (j.at 0) l.iter))(H:∀B e,Ca n k B->cH B e (g (j.iE k) e))(c7:n.ns[N]?=some x) (cB:n.pI x) (c:ke [.Name x M] (.ListComp L (l::A) k pos) O.line n.env=pure true):
 cP n (.Assign [.Name x M] (.ListComp L (l::A) k pos) O) (BB N<|cC P<|lay own<|Am (j.cN k) (lU l) ((kD l).map j.e7) (g (j.at 0) l.iter) (l.ifs.map<|g<|j.iE k)<|Ef (j.iE k) (g<|j.iE k) L A):=λa r Q Z K X F h dY n7=>by
 refine J (arm_exec_Assign ..)<|J c<|ak<|j_<|ak<|aK ?_;refine J (dI rfl)<|ak ?_;rw[arm_evalThenUse_ListComp];have ao:firstAsync (l::A)=false:=by
  have:=(CM z).1.eq;exact J this rfl
 rw[ao,Va];refine ak (Uq cu jS z eH H F h λD C q f t R v=>?_);refine nV (adX (Q:=λd S=>Q .next (r.set N d) S) own D q) λy w ev q T=>?_
 refine bH w<|bH ev<|Kh (wQ (F.to y.le) c7 cB y.bw λb V E=>?_);obtain⟨m,v⟩:=v;have G:=T C R f;have W:C<y.aC:=J (show y.aC=D.aC from aZ (λs:bf=>s.heap.objs.size) w)<|v.lt;have Y:¬n.own C:=λh=>aW (F.lt<|b5.DJ h)<|bA.mpr t
 refine⟨m,Sh (show y.s.heap.Ns C m by rwa [w]) λo e=>b.le.keep C o G Y e,λfM c=>aK<|aK ?_⟩;have u:=b.le.fr C G W;refine dY ⟨⟨b.toaL.loose u c,y.le.of0.bS b.le |>.trans (b.toaL.uC u c) (λU h=>h) λp i e=>by have e:=e;subst e;exact aW i<|bA.mpr t⟩,r.set N y.d,E.Eu (b.toaL.uC u c) (λp i e=>by have e:=e;subst e;exact aW (F.lt i)<|bA.mpr t) (E.ok.le (b.toaL.uC u c) λp i e=>by have e:=e;subst e;exact aW (F.ok.lt i)<|bA.mpr t),.next,.next,rfl⟩ ?_
 show Q .next _ b.W;rwa [V]
variable{q:aF×List aF->bf->Prop}
def aeH{c:String}(i:g.K.In y.heap)(I:InstAt y.heap x f b d)(l:zT g.K b)(m:gZ g.K (.ref b) "__getattr__"=some none)(n:gZ g.K (.ref b) name=some (some (.builtin c)))(p:zF (.builtin c)=pure (.type "method_descriptor"))(r:j' d name=some false)(k:q (.builtin c,[.ref x]) y):aE g.M h (vn (.ref x) name j) q K y:=by
 refine aG (Vt l) λw s t=>ak<|ak<|I.type.here<|(mU i s).here ?_
 dsimp only
 refine J t<|ak<|ak<|I.type.here<|(mU i m).here ?_;refine ak<|ak<|I.type.here<|(mU i n).here ?_
 dsimp only
 refine J p<|ak<|aK ?_;refine J (cE bC)<|ak<|zI I.at_ ?_;have a:=I.dict;rcases e:f.dict with _|z
 .exact ak<|mV<|aK k
 obtain _|o:=d
 .rw[e] at a;exact a.elim
 rw[e] at a;refine aG (iQ.mp r) λA u v=>ak<|ak<|zI a ?_
 refine J (nsLook_of u)<|aK ?_;exact J v<|ak<|mV<|aK k
def k7.shadow(I:k7 e f N h j k l m n b d s A)(c:¬qe x):j' (some {cls:=.type "dict",data:=.dict b d}) x=some false:=by
 obtain a|⟨g,i,a,_⟩:=gG.look I.fl
 .show(Rj x {cls:=.type "dict",data:=.dict b d}).map _=_;exact J (show Rj x _=getL x b.toList from rfl)<|J a.2 rfl
 rw[gG.qe I.fl c] at a;contradiction
def L'(r:(b==kk)=false)(t:k.c.f b=some {cls:=.type "dict",data:=.dict #[] d}):ic h n s (.builtin "dict.items") [.ref b] (λas l m j U=>nul l (nul as (j (.o 3 0 0 0) m))) k:=ic.of λa as x j y X le u c v=>by
 obtain⟨rfl,c⟩:=iH c;refine aV.no ?_ u;have g:=le.le.f _ _ t;have i:=a.R.cG _ _ g;refine call_meetsIn amH ⟨_,i,rfl⟩ F.entry_dict_items (F.args_dict_items_1 _) (meets_dict_items (PySem.strKind h.g6 h.w) b r) ⟨⟨[],_,#[],d,i,⟨rfl,rfl,rfl⟩,rfl,(by intro e w;simp at w),.nil,by simp⟩,?_⟩;let p:=a.new {cls:=.type "dict_items",data:=.fields #[.ref b]} a.s.drawn a.s.toks;have q:p.c.Fr a.aC:=a.fresh<|aS _;have e:=a.ku (o:={cls:=.type "dict_items",data:=.fields #[.ref b]}) rfl a.s.drawn a.s.toks;exact v ⟨p.put q e<|aS _,.ref a.aC,.o 3 0 0 0,a.aC,rfl,.inr<|.inr<|.inr ⟨rfl,b,d,bP.ny,(bP.q9 (N:=0) q).f _ _ g⟩⟩ c
def Xi{S:Str}{k:Call->Prop}(N:f<H a.W)(e:a.W[f]?=some (.lst b)) (h:NZ S/\k λas A n j U=>nul A (mJ n (.loc f) λU b=>sI S f b as n j)) (y:∀l first s,lI g l->ic g B M l first s a->k s->q (l,first) a.s):aE g.M B (vn (.ref (a.c.bW f)) S O) q K a.s:=by
 obtain⟨hm,h⟩:=h;refine mu (a.R.objs f _ e) λP m L=>?_
 have Q:a.s.TypeIs (.ref _) "list":=⟨_,L.cu,rfl⟩;have R:∀x,kJ (a.c.bW f)=.ref x->∃o,a.s.heap.get? x=some o/\o.dict=none:=λx c=>by cases c;exact⟨_,L.cu,rfl⟩
 obtain rfl|rfl|rfl|rfl:=hm
 .exact E7 Q QA QC amM R (y _ _ _ .bi (ic.of λa as P j q K le D c y=>by
   refine oW (HJ N le c) λb v m e L c E=>?_
   refine aG (jV<|jJ bC c) λd T c=>?_;subst T
   refine mq D λu G=>?_
   refine bH E<|oM QC ⟨_,L.cu,rfl⟩ f' (fA _ _) (list_append _ v.toArray m u (by rw[cK,L.dF.cg];exact gq L.z)) ⟨L.cu,?_⟩;exact dc.dB y (a.yZ e L _ (by simpa using L.dF.append (.one G)) c.1) vJ c.2) h)
 .exact E7 Q QA amL F.type_list_insert R (y _ _ _ .bi (ic.of λa as P j q K le D c y=>by
   refine oW (HJ N le c) λb v m e L c E=>?_
   refine m9 (PV<|jJ bC<|fR bC c) λi d Y c=>?_;subst Y
   refine F1 D λw u V G=>kX (c9 V) c λi t c=>?_
   rw[<-E];refine oM amL ⟨_,L.cu,rfl⟩ F.entry_list_insert (F.args_list_insert_3 _ _ _) (AutoSeq1.list_insert_list_int_val_1 _ v.toArray m i t u (by
    unfold amt;simp only[fe,ams,bl,decide_eq_true_eq];exact yv c.1 av av) (J cK<|J L.dF.cg<|gq L.z)) ⟨L.cu,?_⟩
   refine dc.dB y (a.yZ e L (λxs=>have k:=if i<0 then(i+_).toNat else min i.toNat xs.size;(xs.extract 0 k).push u++xs.extract k) ?_ c.2.1) vJ c.2.2;rw[B2,cK,L.dF.cg];have Z:(v.drop<|eN (H b) i).length<=H b-eN (H b) i:=by simp[L.dF.cg]
   have ao:((v.toArray.extract 0<|eN (H b) i).push u++v.toArray.extract (eN (H b) i) (H b)).toList=v.take (eN (H b) i)++u::v.drop (eN (H b) i):=by simp[ET Z]
   rw[ao];exact(L.dF.take _).append ⟨G,L.dF.drop _⟩) h)
 .exact E7 Q QA amJ F.type_list_extend R (y _ _ _ .bi (ic.of λa as P j q K le D c y=>by
   refine oW (HJ N le c) λb v m e L c E=>?_
   refine aG (jV<|jJ bC<|fR bC<|fR bC c) λd T c=>?_;subst T
   refine mq D λu G=>s9 (c9 G) c λp es ws N2 z qa W c=>?_
   rw[<-E];have X:=gq c.1;rw[bq] at X;refine oM amJ ⟨_,L.cu,rfl⟩ F.entry_list_extend (F.args_list_extend_2 _ _) (AutoSeq1.list_extend_list_list_0 (a.c.bW f) v.toArray m p ws.toArray N2 (by
    unfold ft;simp only[bl,decide_eq_true_eq,cK,L.dF.cg,W.cg];exactλh=>aW h.2 (bA.mpr X)) (J cK<|J L.dF.cg<|(gq L.z)) (J cK<|J cK<|J L.dF.cg<|J W.cg<|mT X)) ⟨L.cu,qa,?_⟩
   exact dc.dB y (a.yZ e L _ (by simpa using L.dF.append W) c.1) vJ c.2) h)
 exact E7 Q QA gL F.type_list_pop R (y _ _ _ .bi (ic.of λa as P j q K le D c y=>by
  refine oW (HJ N le c) λb v m e L c E=>?_
  replace c:=jJ bC<|fR bC<|fR bC<|fR bC c;have Jp:v.toArray.size<=j9:=J cK<|J L.dF.cg<|gq L.z;rw[<-E];obtain _|⟨x,as⟩:=as
  .refine aV.no ?_ D;refine aG (ji c) λd ao c=>?_
   rw[QT] at ao;refine aG (L.dF.at_ ao) λu aA G=>oM gL ⟨_,L.cu,rfl⟩ amE (F.args_list_pop_1 _) (MeetsSeq.list_pop_last (a.c.bW f) v.toArray m u (by rwa [cK,L.dF.cg,gY]) Jp) ⟨L.cu,?_⟩
   exact dc.dB y (a.yZ e L _ (by exact J UZ<|J QJ<|J QJ<|J L.dF.cg<|L.dF.take _) c.1) G c.2
  obtain⟨rfl,c⟩:=iH c;refine mq D λw V=>kX (c9 V) c λi t c=>?_
  obtain⟨rfl,c⟩:=c;obtain _|⟨d,b⟩:=b
  .exact bO c
  have r:=L.dF;obtain _|⟨u,v⟩:=v
  .exact bO r
  refine oM gL ⟨_,L.cu,rfl⟩ amE (F.args_list_pop_2 _ _) (MeetsSeq.list_pop_at _ (u::v).toArray m 0 t 0 u av (by unfold iA;simp) (by simp) Jp) ⟨L.cu,?_⟩;exact dc.dB y (a.yZ e L _ (by exact J (show((u::v).toArray.eraseIdxIfInBounds 0).toList=v by simp)<|r.2) c.1) r.1 c.2) h)
def aeN{p:Str}{k:Call->Prop}(B:gP g)(w:j.frames=some A)(aU:l_ j L)(y:oO g M L)(r:n<H a.W)(e:a.W[n]?=some (.inst b O P)) (h:b7 (mK.lookup (b,p)) (b=236/\p="append"/\k λas s Q l U=>nul s (F9 n as Q l)) λf=>k λas=>M f (.loc n::as)) (i:∀f first b,lI g f->ic g j A f first b a->k b->q (f,first) a.s):aE g.M j (vn (.ref (a.c.bW n)) p R) q K a.s:=by
 refine vM (a.R.objs n _ e) λkh es qa v m I=>?_
 rcases c:mK.lookup _ with _|f
 .rw[c] at h;obtain⟨rfl,rfl,h⟩:=h;exact aeH a.c8 I.acc (B.get 236 I.cB).1 (B.get 236 I.cB).2 B.append amM (I.shadow (show¬(qP.contains "append"=true) by decide+kernel)) (i _ _ _ .bi (ic.of λa as v l q K le t c i=>by
   refine aG (ez (λh=>h) c) λo e c=>?_
   obtain _|⟨b,O,P⟩|_|_:=o<;>first|exact bO c|skip
   obtain⟨rfl,c⟩:=c;refine vM (a.R.objs n _ e) λkh es qa us m I=>?_
   refine aG (jV c) λd D c=>?_;subst D
   refine mq t λu E=>?_
   refine bH (le.le.bW n r)<|DK (n:="append") a.c8 I.acc B.sub QC bC (.inr bC) f' (fA _ _) ?_;show aE _ _ (fv _ _>>=λU=>PySem.ret .none) _ _ a.s;have z:=gq I.z;refine ak<|listUpdate_at I.acc.at_ rfl ?_ (by rwa [cK,I.dF.cg])<|J (aml ..)<|J cK<|J I.dF.cg<|iI z;exact aK ⟨_,rfl,dc.dB i (a.Jb e I _ (by simpa using I.dF.append (.one E)) (bq▸c.1)) vJ c.2⟩) h)
 rw[c] at h;refine vL (B.N6 b p f c) λG N S T V=>aeI a.c8 I.I (B.get b I.cB).1 (B.get b I.cB).2 G N (I.shadow V)<|i _ _ _ (.of_K S) (λx as s v W l Z q K le ok t X c i Y=>?_) h
 exact pX<|y f j A T w aU x (.loc n::as) s _ W l Z _ ok ⟨⟨bZ r le.le.N,aZ kJ (le.le.bW n r).symm⟩,t⟩ X c i Y
section
open PySem.Builtin.Str
def NV(a:b<=2*lim):b<=j9:=J rQ<|iL a rfl
def KZ(b)(c)(d:b.length<=lim):a.V (.str b.cps.toList) (.str b c):=⟨d,c,rfl⟩
def ak'(e:∀b∈d.map (·.1),b.length<=lim):a.b4 ((d.map (·.1)).map λb=>.str b.cps.toList) (B4 d):=by
 induction d with
 |nil=>exact rfl
 |cons c d f=>exact⟨KZ (a:=a) c.1 c.2<|e c.1<|.head _,f λb h=>e b<|.tail _ h⟩
def Dc(e:l.map (·.1)=d)(c:∀f∈d,f.length<=lim)(g:dc b h K)(a:IM d b.W h):K (.ref b.aC) {b.s with heap:=b.s.heap.push (eV (B4 l) j),drawn:=k,toks:=m}:=by
 subst e;exact yP (i_.cG g) (J (aX ..)<|a.1) (ak' c) a.2
def ajy(n:x.length<=lim)(j:dc a f K)(k:IM (Txt.split (toS x) (toS [b])) a.W f):aE g.M h (call (.builtin "str.split") [.str (toS x) d,.str (toS [b]) e]) K E a.s:=by
 have p:_=false:=rfl;have m:∀q∈Txt.split _ (toS [b]),q.length<=lim:=λq r=>az (part_short r)<|by rwa [g9]
 have s:(partsBetween (toS x) (occurrences (toS x) (toS [b]) 0 (toS x).length<|(toS x).length+1) (toS [b]).length).length<=j9:=by
  unfold partsBetween;have:=StrLaws.occ_length_le (toS x) (toS [b]) 0 (toS x).length<|(toS x).length+1;simp only[g9] at this⊢;simp only[aX,List.length_zip,gK];exact NV<|az (BR ..)<|az (iI this)<|iL (iI<|iI n) rfl
 cases c:(decide ((toS x).length<(toS [b]).length)||decide (Jw _<Jw _))
 .cases i:(occurrences _ _ 0 (toS x).length _).isEmpty
  .refine oM QD (xJ _ _ _) Qz (f3 _ _) (meets_str_split_sep _ _ d e c p i (J (g9 ..)<|gq n) s) ?_;exact J (strsFrom_eq ..)<|Dc ((aol _ _).trans ((cE<|ne_true_of_eq_false c).trans<|cE<|ne_true_of_eq_false i).symm) m j k
  exact oM QD (xJ _ _ _) Qz (f3 _ _) (meets_str_split_not_found _ _ d e c p i)<|Dc (l:=[(toS x,d)]) ((cE<|ne_true_of_eq_false c).trans<|dI i).symm m j k
 exact oM QD (xJ _ _ _) Qz (f3 _ _) (meets_str_split_cannot_occur _ _ d e c)<|Dc (l:=[(toS x,d)]) (dI c).symm m j k
def Pq(a)(xs):h8 (toS a) (xs.map toS)=toS (dU a xs):=by
 induction xs with
 |nil=>rfl
 |cons x xs b=>
  obtain _|⟨c,d⟩:=xs
  .rfl
  show toS x++toS a++h8 _ _=_;rw[b,I4,I4];rfl
def acV(a)(xs):(xs.map (·.length)).sum+H xs*H a<=(dU a xs).length+H a:=by
 induction xs with
 |nil=>simp
 |cons x xs b=>
  obtain _|⟨c,d⟩:=xs
  .simp[dU]
  show _<=(x++a++dU a (c::d)).length+H a;simp only[i6,BL,gK,bq,BU] at b⊢;exact az (by simp+arith)<|az (j7 b<|H x+H a)<|di<|by simp+arith
def ag{xs:List (List Nat)}:∀{b:List aF},a.b4 (xs.map .str) b->∃d,b=B4 d/\d.map (·.1)=xs.map toS:=by
 induction xs with
 |nil=>exactλ{b} c=>aV.no ⟨[],rfl,rfl⟩ c
 |cons x xs f=>exactλ{b} c=>aV.un (λl b h i=>by
  obtain⟨_,j,rfl⟩:=h;refine aG (f i) λd k e=>?_;subst k
  exact⟨(toS x,j)::d,rfl,by rw[i6,e];rfl⟩) c
def acW(p:H b<=lim)(x:a.V f j)(i:Zd b [f] a.W d)(y:dc a d K):aE g.M l (call (.builtin "str.join") [.str (toS b) h,j]) K E a.s:=by
 have z:=c9 x;replace i:PW _ λq=>∃c:List _,q=c.map .str/\(dU b c).length+H c<=lim/\d _ a.W:=i
 revert z i;have fin:∀{xs:List _} {c:List (Str×Tok)},c.map (·.1)=xs.map toS->(dU b xs).length+H xs<=lim->d _ a.W->∀v k,K (.str (Q9 _<|c.map _) v) {a.s with toks:=k}:=λ{xs c} e m i v k=>by
  rw[e,show Q9 _ _=glued _ _ from rfl,an6,Pq];exact eG y (mj _<|az (cZ _ _) m) i
 have w:∀{xs:List _} {c:List (Str×Tok)},H b<=lim->c.map _=xs.map toS->(dU b xs).length+H xs<=lim->tooLong ((c.map (·.1)).toArray.foldl (· +·.length+(toS b).length) 0)=false:=λ{xs c} p e m=>by
  rw[h9,e];have:=acV b xs;have ao:((xs.map toS).map (·.length)).sum=(xs.map (·.length)).sum:=by simp[Function.comp_def,g9]
  rw[aX,g9];unfold tooLong;exact lA decide_eq_false_iff_not<|lA bA<|NV<|J ao<|az this<|iL (d9 (az (cZ _ _) m) p) rfl
 obtain _|_|_|_|q|q:=bx a.W f<;>first|exactλU A=>bO A|skip
 .rintro ⟨_,r,B,s,rfl,e,t⟩ ⟨xs,rfl,m,i⟩
  refine aG (ag t) λc u n=>?_;subst u
  have ok:=w p n m;exact oM gN (xJ _ _ _) gd (fI _ _) (meets_str_join_list _ h r c ok) ⟨⟨_,e,rfl,s,rfl⟩,j1 c ⟨i3 ok,fin n m i⟩⟩
 rintro ⟨_,r,B,s,rfl,e,t⟩ ⟨xs,rfl,m,i⟩
 refine aG (ag t) λc u n=>?_;subst u
 have ok:=w p n m;exact oM gN (xJ _ _ _) gd (fI _ _) (aok _ h r c ok) ⟨⟨_,s,e,rfl,rfl⟩,j1 c ⟨i3 ok,fin n m i⟩⟩
def XN(c:dc b e K)(a:Og d b.W e):K (.str d f) {b.s with toks:=k}:=eG c (KZ d f a.1) a.2
def Vb{a:Str}(b:a.length<=lim):tooLong a.length=false:=by unfold tooLong;exact lA decide_eq_false_iff_not<|lA bA<|gq b
def Zf(f:a.b4 as e)(i:O0 as k):∃b d,e=[.str (toS [b]) d]/\k b:=by
 refine aG (jV i) λj h c=>?_;subst h
 refine mq f λl f=>pM (d3 f) c λs d U c=>?_
 refine aG (jV c) λb h c=>?_;subst h
 exact⟨b,d,rfl,c.2⟩
def aeO{w:Str}{k:Call->Prop}(r:x.length<=lim)(q:IT w/\k λas j m b U=>nul j (sZ w x as m b))(i:∀f first d,lI g f->ic g n A f first d a->k d->s (f,first) a.s):aE g.M n (vn (.str (toS x) h) w B) s K a.s:=by
 obtain⟨G,q⟩:=q;obtain rfl|rfl|rfl|rfl|rfl|rfl:=G
 .with_reducible refine GM.join ?_
  refine i _ _ _ .bi (ic.of λt as u b v K le p c i=>?_) q;replace c:=jJ bC c;refine aG (jV c) λO L P=>?_;subst L
  exact mq p λQ p=>acW r p c i
 .with_reducible refine GM.upper ?_
  refine i _ _ _ .bi (ic.of λt as u b v K le p c i=>?_) q;obtain⟨rfl,c⟩:=iH<|jJ bC<|fR bC c;refine aV.no ?_ p;exact SC.upper (Vb c.1)<|XN i c
 .with_reducible refine GM.lower ?_
  refine i _ _ _ .bi (ic.of λt as u b v K le p c i=>?_) q;obtain⟨rfl,c⟩:=iH<|jJ bC<|fR bC<|fR bC c;refine aV.no ?_ p;exact SC.lower (Vb c.1)<|XN i c
 .with_reducible refine GM.isspace ?_
  refine i _ _ _ .bi (ic.of λt as u b v K le p c i=>?_) q;obtain⟨rfl,c⟩:=iH<|jJ bC<|fR bC<|fR bC<|fR bC c;refine aV.no ?_ p;exact SC.isspace<|eG i (tY _) c
 .with_reducible refine GM.split ?_
  refine i _ _ _ .bi (ic.of λt as u b v K le p c i=>?_) q;replace c:=jJ bC<|fR bC<|fR bC<|fR bC<|fR bC c;obtain _|⟨e,as⟩:=as
  .refine aV.no ?_ p;exact by
    have z:∀D∈vm _,D.length<=lim:=λD M=>az (word_short M)<|J (g9 ..)<|r
    refine oM QD (xJ _ _ _) Qz (F.args_str_split_1 _) (meets_str_split_space _ h (J (g9 ..)<|gq r)<|az (az (StrLaws.len_le_wsum _) (StrLaws.sw_weight<|toS x).1)<|J (g9 ..)<|NV<|iL (iI r) rfl) ?_;cases E:spaceWords _ _==[_]
    .exact J (strsFrom_eq ..)<|Dc ((aol _ _).trans (cE<|ne_true_of_eq_false E).symm) z i c
    exact Dc (l:=[(toS x,h)]) (dI E).symm z i c
  refine m9 (Zf p c) λd N y c=>?_;subst y
  exact ajy r i c
 with_reducible refine GM.strip ?_
 refine i _ _ _ .bi (ic.of λt as u b v K le p c i=>?_) q;replace c:=jJ bC<|fR bC<|fR bC<|fR bC<|fR bC<|fR bC c;refine m9 (Zf p c) λd N y c=>?_;subst y
 refine SC.stripChars (λR k=>eG i (KZ _ _<|az (len_stripChars _ _)<|by rwa [g9]) c)<|J (g9 ..)<|gq r
end
section
open PySem.Sre PySem.Sre.M PySem.Builtin.Re
def D7(a)(c:b.outcome.isSome=true):M.runFor a b=b:=by
 obtain _|a:=a
 .rfl
 exact dI c
def Y6(c d)(a):M.runFor (c+d) a=M.runFor d (M.runFor c a):=by
 induction c generalizing a with
 |zero=>exact J (i8 ..) rfl
 |succ c e=>
  rw[pT];by_cases b:a.outcome.isSome=true
  .exact J (D7 _ b)<|J (D7 _ b)<|J (D7 _ b) rfl
  exact(cE b).trans<|(e a.step).trans<|aZ _ (cE b).symm
def Ba(a:b.outcome=none)(e:b.step=f):M.runFor (d+1) b=M.runFor d f:=by
 show(if b.outcome.isSome then b else M.runFor d b.step)=_;rw[a,e];rfl
def drive{s:bf}(t):∀N m,N<=4*t->1<=t->(M.runFor N m).outcome.isSome=true->Q (M.runFor N m) s->aE l1 A (reDrive t m) Q E s:=by
 induction t with
 |zero=>exactλU U U h=>aW h<|by decide
 |succ t AD=>
  intro N m VJ _ cu ni;show aE l1 A (if(m.runFor reTurnSteps).outcome.isSome then pure _ else do rule "sre.turn";reDrive t _) Q E s;have uv:M.runFor N m=M.runFor (N-4) (M.runFor 4 m)\/N<4/\M.runFor 4 m=M.runFor N m:=by
   obtain q|q:=pV N 4
   .have:=Y6 N (4-N) m;rw[rL<|bF q,D7 _ cu] at this;exact .inr ⟨q,this⟩
   have:=Y6 4 (N-4) m;rw[rL q] at this;exact .inl this
  by_cases h:(m.runFor reTurnSteps).outcome.isSome=true
  .exact J (dI h)<|aK<|(uv.elim (λe=>(e.trans<|D7 _ h).symm) λe=>e.2).symm▸ni
  rw[cE h];obtain e|e:=uv
  .rw[e] at cu ni;refine ak<|mV<|AD _ _ (anO VJ) ?_ cu ni;obtain _|t:=t
   .exact aW (by rwa [show N-4=0 from anN VJ] at cu) h
   exact iI<|b9 _
  exact aW (e.2.symm▸cu) h
def toEnd(c:Nat)(k:c<=40000000)(a:((M.runFor c b).outcome=some .matched/\d (some (M.runFor c b)) y)\/((M.runFor c b).outcome=some .failed/\d none y)):aE e f (reRunToEnd b) d h y:=by
 have l:(M.runFor c b).outcome.isSome=true:=by obtain a|a:=a<;>rw[a.1]<;>rfl
 refine ak<|drive _ c b (az k av) av l ?_;refine ak (fq (aov _ (λU U g=>g=y) (λU g=>g=y) (λn p j g i=>?_) (λj g i=>i) _ _ rfl) (λj g i=>?_) λU U m=>m)
 .subst i;split
  .exact ak<|mV<|aK rfl
  exact aK rfl
 subst i
 obtain a|a:=a<;>rw[a.1]<;>exact aK a.2
def n'(a)(c):∃b,accepts j5 11 a c=.ok (isWs a,b):=by
 have e:accepts j5 11 a c=if(a==32)=true then .ok (true,c.add 16) else if(a==9)=true then .ok (true,(c.add 16).add 16) else .ok (false,((c.add 16).add 16).add 0):=au
 rw[e];unfold isWs;obtain _|_:=a==32
 .cases a==9<;>exact⟨_,rfl⟩
 exact⟨_,rfl⟩
def aaE:(toS (pre++b::post)).cps.getD (H pre) 0=b:=by simp[toS]
def Y7(a):∀pre j f d,a.all isWs=true->(∀b k,j=b::k->isWs b=false)->∃h,Sre.run j5 (toS (pre++(a++j))).cps 11 (a++j).length (H pre) f d=.ok (f+H a,h):=by
 have st:∀(pre post) (b f) d,∃h,Sre.run j5 (toS _).cps 11 (H post+1) (H pre) f d=if isWs b=true then Sre.run j5 (toS (pre++b::post)).cps 11 (H post) _ _ h else .ok _:=λpre post b f d=>by
  obtain⟨h,e⟩:=n' b d;refine⟨h,?_⟩;show Except.bind _ _=_;rw[aaE,e]
  rfl
 induction a with
 |nil=>
  intro pre j f d _ c;obtain _|⟨b,k⟩:=j
  .exact⟨d,rfl⟩
  obtain⟨h,e⟩:=st pre k b f d;rw[c b k rfl] at e;exact⟨h,e⟩
 |cons b a i=>
  intro pre j f d g c;rw[nJ,bl] at g;obtain⟨h,e⟩:=st pre _ b f d;rw[dI g.1] at e;obtain⟨l,aA⟩:=i (pre++[b]) j _ h g.2 c;rw[eT,bq (as:=pre)] at aA;exact⟨l,(e.trans aA).trans<|J gK<|J (gE ..)<|J (h_ 1 ..) rfl⟩
noncomputable def lH(s:Nat)(o:Bool):Sre.Frame:=⟨.nextStart,5,s,o,0,{},0,none⟩
def sW(a:Array Nat)(s:Nat)(o:Bool)(k:Option Nat)(b:vj):M:=⟨j5,a,a.size,s,a.size,false,false,5,s,s,o,#[k,none],-1,-1,#[],none,[lH s o],1,none,b,none⟩
noncomputable def j3(a:Array Nat)(s:Nat)(o:Bool)(b:Option Bool)(c:vj):M:=⟨j5,a,a.size,s,a.size,false,false,7,s,s,o,#[some s,none],0,-1,#[],none,[lH s o],1,b,c,none⟩
def stC(b:Array Nat)(s a:Nat)(o:Bool)(c:vj):M:=⟨j5,b,b.size,s,b.size,false,false,19,s+a,s+a,o,#[some s,none],0,-1,#[],none,[⟨.giveBack,7,s+a,o,a,⟨0,-1,false,#[]⟩,0,none⟩,lH s o],2,none,c,none⟩
def cA(a)(s:Nat)(o)(k)(b):(sW a s o k b).step=j3 a s o none (b.add 17):=au
def sB(a)(s:Nat)(o)(c):(j3 a s o none c).step=if(1:Int)>(a.size:Int)-s then j3 a s o (some false) (c.add 24) else
 Except.casesOn (Sre.run j5 a 11 (min 4294967295 ((a.size:Int)-s).toNat) s 0<|(c.add 24).add 13) (λd=>(j3 a s o none<|c.add 24).stick d) (λb=>if b.1<1 then j3 a s o (some false) b.2 else stC a s b.1 o b.2):=au
def Zc(a)(s:Nat)(o)(b):(j3 a s o (some false) b).step=if s<a.size then sW a (s+1) false (some s) b else⟨j5,a,a.size,s,a.size,false,false,5,s,s,o,#[some s,none],0,-1,#[],none,[],0,some false,b,none⟩:=au
structure Fx(m:M)(a b:Nat):Prop where
 o:m.outcome=some .matched
 s:m.start=a
 h:m.handed=b
 k:m.marks=#[some a,some b]
 l:m.lastmark=1
def aif(b)(s a:Nat)(o)(c):Fx (M.runFor 6 (stC b s a o c)) s (s+a):=by cases o<;>exact⟨au,au,au,au,au⟩
def ZY:∀pre f j o k d,h.any isWs=false->f.all isWs=true->(∀d l,j=d::l->isWs d=false)->(f=[]->j=[])->(pre++(h++(f++j))).length<=4294967295->
 (f≠[]->∃b,b<=3*H h+10/\Fx (M.runFor b<|sW (toS<|pre++(h++(f++j))).cps (H pre) o k d) (H pre+H h) (H pre+H h+H f))/\
 (f=[]->∃b,b<=3*H h+10/\(M.runFor b<|sW (toS<|pre++(h++(f++j))).cps (H pre) o k d).outcome=some .failed):=by
 have two:∀a s o k d i,a.size=s+i->i<=4294967295->i≠0->∀q g,Sre.run j5 a 11 i s 0 _=.ok (q,g)->∀b,M.runFor _ (sW a s o k d)=M.runFor b (if q<1 then j3 a s o _ g else stC a s q o g):=λa s o k d i A c n q g e b=>by
  have B:(a.size:Int)-s=i:=J A<|J (u_ ..)<|J (JC ..)<|J (amR ..) rfl;rw[Ba rfl<|cA ..,Ba rfl<|sB ..,B,cE<|show¬(1:Int)>i from xe.mpr<|lZ.mpr<|anJ n,JF,zu c,e]
 have D:∀a s o d,¬s<a.size->(M.runFor 2<|j3 a s o _ d).outcome=some .failed:=λa s o d E=>by
  exact J (Ba rfl<|Zc ..)<|J (cE E) rfl
 have aC:∀pre v:List Nat,(toS _).cps.size=H pre+H v:=λpre v=>bH bq rfl
 induction h with
 |nil=>
  intro pre f j o k d _ r t n p;rw[bq,JQ] at p;refine⟨λc=>?_,λc=>?_⟩
  .obtain⟨g,e⟩:=Y7 f pre j 0 _ r t;have F:=QV.mpr c;refine⟨6+2,av,?_⟩;rw[JQ,two _ _ _ _ _ _ (aC ..) (az (fS _ _) p) (λm=>c (JH.mp<|zk m).1) _ _ e,i8,cE<|bA.mpr F];exact aif ..
  subst c;rw[n rfl];refine⟨2+2,av,?_⟩;rw[Ba rfl<|cA ..,Ba rfl<|sB ..,dI (by rw[aC];simp)];exact D _ _ _ _<|J (aC ..)<|oG _
 |cons x h G=>
  intro pre f j o k d u r t n p;rw[xh,fo] at u;obtain⟨g,e⟩:=Y7 [] pre (x::_) 0 _ rfl λK l m=>by cases m;exact u.1
  obtain⟨w,y⟩:=G (pre++[x]) f j false (some<|H pre) g u.2 r t n<|by rwa [eT]
  rw[eT,bq] at w y;have st:∀b,M.runFor _ (sW (toS<|pre++(x::h++_)).cps (H pre) o k d)=M.runFor b (sW (toS<|pre++(x::h++_)).cps _ false _ g):=λb=>by
   refine(two _ (H pre) o k d (x::_).length (aC ..) (by rw[bq] at p;exact az (fS _ _) p) (by simp) _ _ e<|b+1).trans ?_;exact J (dI av)<|J (Ba rfl<|Zc ..)<|J (dI (by rw[aC];simp)) rfl
  refine⟨λc=>?_,λc=>?_⟩
  .refine aG (w c) λb m z=>⟨b+3,J gK<|J (hZ ..)<|j8 m 3,?_⟩
   rwa [st,gK,h_<|H h,<-gE]
  exact aG (y c) λb m z=>⟨b+3,J gK<|J (hZ ..)<|j8 m 3,(aZ M.outcome<|st b).trans z⟩
def Vj(a)(s:Nat)(b:s<a.size):forSearch j5 a 1 s a.size false=sW a s true none (({}:vj).add 14):=by
 have e:forSearch j5 a 1 s a.size false=if(decide (s>a.size)||decide (a.size-s<1))=true then(⟨j5,a,a.size,s,0,false,false,5,s,s,true,#[none,none],-1,-1,#[],none,[],0,some false,({}:vj).add 14,none⟩) else sW a s true none (({}:vj).add 14):=au
 rw[e,eS<|hU b,eS<|bA.mpr<|h3 b];rfl
def aak(a)(b:N=a.size):(M.runFor 1 (forSearch j5 a 1 N a.size false)).outcome=some .failed:=by
 subst b;have e:forSearch j5 a 1 a.size a.size false=if(decide (a.size>a.size)||decide (a.size-a.size<1))=true then(⟨j5,a,a.size,a.size,0,false,false,5,a.size,a.size,true,#[none,none],-1,-1,#[],none,[],0,some false,({}:vj).add 14,none⟩) else sW a a.size true none (({}:vj).add 14):=au
 rw[e,dI<|by simp];rfl
end
section
open PySem.Builtin.Re PySem.Sre
def Pf:E2 "re.Pattern" "search" "re.Pattern.search":=
 .of (owner:="re.Pattern") (n:="search") (by rw[zE];kernel_rfl) bC bC bC
  (by first|exact .inl bC|exact .inr bC) (by rw[Rf];kernel_rfl)
def Pg:E2 "re.Pattern" "split" "re.Pattern.split":=
 .of (owner:="re.Pattern") (n:="split") (by rw[zE];kernel_rfl) bC bC bC
  (by first|exact .inl bC|exact .inr bC) (by rw[Rf];kernel_rfl)
def dv:zF (.builtin "re.Pattern.search")=pure (.type "method_descriptor"):=by show J7 _=_;rw[J8];kernel_rfl
def dx:zF (.builtin "re.Pattern.split")=pure (.type "method_descriptor"):=by show J7 _=_;rw[J8];kernel_rfl
def Qb:BX table "re.Pattern.search"=some Builtin.«re.Pattern.search»:=BY au
def Qr:BX table "re.Pattern.split"=some Builtin.«re.Pattern.split»:=BY au
def XT:Manifest.owners.lookup (String.ofList ['n','r','e','t','t','a','P','.','e','r'].reverse)=some Manifest.sig_re_Pattern:=au
inductive oV(h:e9)(p:bG)(g:Nat)(code:Array Nat):Prop
 |mk (o:Obj) (iF:Array aF) (bo:bG) (XM:Obj) (items:Array aF) (n:Nat) (cu:h.get? p=some o) (jS:o.cls=.type "re.Pattern") (hd:o.dict=none) (hf:o.data=.fields iF) (VF:reRawNat (iF.getD 6 .none)=0) (gB:reRawNat (iF.getD 2 .none)=g)
  (MH:iF.getD 5 .none=.ref bo) (kq:h.get? bo=some XM) (fN:XM.data=.seq items n) (cB:(items.map reRawOf).map (·.toNat)=code)
def oV.Wn{a:Array Nat}(c:oV b d e a):∃o,b.get? d=some o/\o.cls=.type "re.Pattern":=c.casesOn λo U U U U U f g U U U U U U U U=>⟨o,f,g⟩
def XZ{M:nN}{a:fY}{f:Array Nat}{g:Array aF->Sem w}{h:w->bf->Prop}(i:oV y.heap c N f)(j:∀b,reRawNat (b.getD 6 .none)=0->reRawNat (b.getD 2 .none)=N->(∀{d:Array Int->bf->Prop},(∀e,e.map (·.toNat)=f->d e y)->aE M a (reRawItems (b.getD 5 .none)) d E y)->aE M a (g b) h E y):aE M a (fieldsOf (.ref c)>>=g) h E y:=by
 cases i with
 |mk o b u v x z k A B l m n p q r s=>
  exact ak<|wpAny_fieldsOf k l (j b m n λt=>p▸ak (mW q r<|aK<|t _ s))
def whole{M:nN}{a:Array Nat}(g:oV y.heap b d a)(i:e {pattern:=.ref b,string:=.str x f,code:=a,text:=x.cps,kind:=0,groups:=d,pos:=0,lim:=x.cps.size} y):aE M h (reWholeTarget (.ref b) (.str x f)) e j y:=
 XZ g λn c k l=>ak<|aK<|wn (by rw[c];decide)<|wn (by rw[c];decide)<|ak<|aK<|ak (l λp m=>aK<|J m<|J k<|i)
def target{M:nN}{a:Array Nat}(g:oV y.heap b h a)(i:x.cps.size<=1000000)(s:d {pattern:=.ref b,string:=.str x f,code:=a,text:=x.cps,kind:=0,groups:=h,pos:=0,lim:=x.cps.size} y):aE M j (reTarget "re.Pattern.search" "search" ⟨[.ref b,.str x f],[]⟩) d l y:=by
 refine ak<|aK ?_;refine ak<|aK ?_;refine ak<|aK ?_;refine XZ g λm c n p=>ak<|aK<|wn (by rw[c];decide)<|wn (by rw[c];decide)<|ak<|aK<|ak (p λq r=>aK ?_)
 have e:min (2^63-1:Int).toNat x.cps.size=x.cps.size:=zu<|az i av;have k:d {pattern:=.ref b,string:=.str x f,code:=q.map (·.toNat),text:=x.cps,kind:=0,groups:=reRawNat<|m.getD 2 .none,pos:=0,lim:=min (2^63-1:Int).toNat x.cps.size} y:=by
  rwa [r,n,e]
 rwa [show 0=min (0:Int).toNat x.cps.size from(Nat.zero_min _).symm] at k
def ak6(g:dc b f K)(h:d.isFreed=false)(i:d.cls=.type "re.Match")(j:f (.o 1 0 0 0) b.W):K (.ref (b.s.heap.push e).objs.size) {b.s with heap:=(b.s.heap.push e).push d}:=
 let a:=b.new e b.s.drawn b.s.toks;let c:=a.toaL.new d b.s.drawn b.s.toks
 g ⟨(⟨c.toaL,a.le.bS c.le⟩:cM b).put (a.toaL.fresh<|aS _) (a.toaL.ku h b.s.drawn b.s.toks) a.le.size,.ref a.aC,.o 1 0 0 0,a.aC,rfl,.inr<|.inl ⟨rfl,_,bP.ny,i⟩⟩ j
def aaM{i:Array Nat}(j:oV a.s.heap b 0 i)(l:H x<=lim)(k:dc a d K)(c:Y8 (sS i x) a.W d):aE g.M e (call (.builtin "re.Pattern.search") [.ref b,.str (toS x) f]) K E a.s:=by
 refine pY Pf j.Wn Qb ?_ (by
  unfold zz;rw[ka (n:=['h','c','r','a','e','s']) au XT];kernel_rfl)
 refine ak<|target j (cK▸l) ?_;obtain⟨h,c⟩|⟨h,m,c⟩:=c
 .exact ak<|toEnd 100 av<|.inr ⟨h,aK ⟨_,rfl,eG k vJ c⟩⟩
 refine ak (toEnd 100 av<|.inl ⟨h,?_⟩);refine ak ?_;unfold reNewMatch;refine J (cE<|by simp)<|ak<|l9 ?_<|by simp[sizeOk,rQ]
 refine l9 ?_<|by simp[sizeOk,rQ]
 refine aK ⟨_,rfl,?_⟩;exact ak6 k rfl rfl c
def Pe{X:aF->bf->Prop}{a:List Nat}{s:bf}(c:(pre++(b++a)).length<=lim)(d:K (.str (toS b) s.toks) {s with toks:=s.toks+1}):aE g.M A (reSlice (toS (pre++(b++a))).cps 0 (H pre) (H pre+H b)) K X s:=by
 unfold reSlice;have e:(toS<|pre++(b++a)).cps.extract (H pre) (H pre+H b)=b.toArray:=by simp[toS]
 rw[e];refine wpAny_mkStr d ?_;rw[bq,bq] at c;exact gq<|az (cZ (H b)<|H a)<|az (fS _ _) c
noncomputable def nZ(b:List (List Nat×List Nat)):List Nat:=(b.map λa=>a.1++a.2).flatten
def Ce(b:List Nat)(c:List (List Nat×List Nat)):Prop:=b.any isWs=false/\∀a∈c,a.1≠[]/\a.1.all isWs=true/\a.2≠[]/\a.2.any isWs=false
noncomputable def A1(b:List Nat)(c:List (List Nat×List Nat)):List D:=(b::c.flatMap λa=>[a.1,a.2]).map .str
def W0{a:Nat}(c:N<=3*b+10)(e:d+(b+a)<=lim):N<=40000000:=az c<|az (j8 (EZ 3<|az (az (cZ b a)<|fS _ d) e) 10) aH
def aeZ(x:h.code=j5)(z:h.groups=1)(A:h.text=(toS (pre++(f++nZ d))).cps)(B:h.lim=h.text.size)(a:(pre++(f++nZ d)).length<=lim)(p:Ce f d)(v:d=[]->j none y)(D:∀b l,d=b::l->∀k,Fx k (H pre+H f) (H pre+H f+H b.1)->j (some k) y):aE g.M m (reNextFound h (H pre) false) j K y:=by
 unfold reNextFound;rw[B,x,z,A];have q:(pre++_).length<=4294967295:=az a av;obtain _|⟨b,d⟩:=d
 .rw[show nZ []=[]++[] from rfl] at*;obtain _|⟨i,f⟩:=f
  .exact toEnd 1 av<|.inr ⟨aak _ (by show _=(toS _).length;rw[g9];simp),v rfl⟩
  exact J (Vj _ _ (by show _<(toS _).length;rw[g9];simp))<|aG ((ZY pre [] [] true none (({}:vj).add 14) p.1 rfl (λU U r=>nomatch r) (λU=>rfl) q).2 rfl) λs c n=>toEnd s (by rw[bq,bq] at a;exact W0 c a)<|.inr ⟨n,v rfl⟩
 refine tZ (p.2 b<|.head _) λt E F u=>?_
 have G:∀i w,b.2++nZ d=i::w->isWs i=false:=λi w e=>by
  rcases c:b.2 with _|⟨L,M⟩
  .exact aW c F
  rw[c] at e u;cases e
  rw[xh,fo] at u;exact u.1
 have e:nZ (b::d)=b.1++(b.2++nZ d):=by unfold nZ;exact J i6<|J qs<|J (eT ..) rfl
 rw[e] at a q⊢;rw[Vj _ _ (by show _<(toS _).length;rw[g9,bq];exact tM<|J bq<|J bq<|bZ (QV.mpr t)<|az (cZ _ _)<|fS _ _)];exact aG ((ZY pre b.1 (b.2++nZ d) true none (({}:vj).add 14) p.1 E G (λr=>aW r t) q).1 t) λs c n=>toEnd s (by rw[bq,bq] at a;exact W0 c a)<|.inl ⟨n.o,D b d rfl _ n⟩
def aae(c:Ce d b):H b<=(nZ b).length:=by
 induction b with
 |nil=>exact aS _
 |cons e b f=>
  show _<=((e::b).map λa=>a.1++a.2).flatten.length;exact J i6<|J qs<|J bq<|J bq<|J gK<|J (h_ (H b) ..)<|d9 (az (QV.mpr (c.2 e<|.head _).1)<|cZ _ _)<|f ⟨c.1,λa g=>c.2 a<|.tail _ g⟩
abbrev xY:=Array aF×Nat×Nat×Bool×Int×Bool
inductive KS{g:G}(a:aL g)(x:List Nat)(da:List D)(l:Nat):xY->bf->Prop
 |mk (k:Nat) (outs:List D) (pre u:List Nat) (ps:List (List Nat×List Nat)) (out:Array aF) (n:Int) (over:Bool) (eH:a.b4 outs out.toList) (gB:x=pre++(u++nZ ps)) (n6:Ce u ps) (uv:outs++A1 u ps=da) (MH:over=true->ps=[]) (VF:over=false->ps.length<l):KS a x da l (out,pre.length,pre.length,false,n,over) {a.s with toks:=k}
def aiY{X:aF->bf->Prop}(a x):∃(B:ReTarget->Nat->xY->Sem (ForInStep xY)) (d:ReTarget->xY->Sem PySem.Fin),
 Builtin.«re.Pattern.split» ⟨[a,x],[]⟩=(reWholeTarget a x>>=λb=>forIn (b6<|reMostMatches b) ((#[],0,0,false,0,false):xY) (B b)>>=d b)/\
 (∀b e start f h j,d b (e,start,f,h,j,true)=reSlice b.text b.kind f b.lim>>=λl=>E_ (e.push l).toList>>=ret)/\
 (∀b m e start f h j,B b m (e,start,f,h,j,true)=pure (.yield (e,start,f,h,j,true)))/\
 ∀b m e start f h j {n:ForInStep xY->bf->Prop} {s:bf},b.groups=1->aE g.M A (reNextFound b start h) (λo s=>b7 o (n (.yield (e,start,f,h,j,true)) s) λk=>
  aE g.M A (reSlice b.text b.kind f k.start) (λl s=>aE g.M A (reMachineGroup b k 1 (pure .none)) (λF s=>n (.yield ((e.push l).push F,k.handed,k.handed,k.handed==k.start,j+1,false)) s) X s) X s) X s->aE g.M A (B b m (e,start,f,h,j,false)) n X s:=by
 refine⟨_,_,rfl,λU U U U U U=>rfl,λU U U U U U U=>rfl,λb m e start f h j n s c d=>?_⟩;refine P9 (by rfl)<|ak<|wn (by simp) (fq d (λo s d=>?_) λU U d=>d);obtain _|k:=o
 .exact aK d
 refine ak (fq d (λl s d=>ak ?_) λU U d=>d);exact J c<|ak<|ak (fq d (λl s d=>aK<|aK<|aK d) λU U d=>d)
def aiU{X:aF->bf->Prop}{i:Array aF}{p:xY->bf->Prop}(t:h.text=(toS x).cps)(u:h.kind=0)(c:H x<=lim)(ex:x=pre++(b++nZ (d::j)))(y:a.b4 m i.toList)(v:Ce b (d::j))(q:Fx e (H pre+H b) (H pre+H b+H d.1))(z:(d::j).length<B+1)(D:∀st s,KS a x (m++A1 b (d::j)) B st s->p st s):
 aE g.M A (reSlice h.text h.kind (H pre) e.start) (λf s=>aE g.M A (reMachineGroup h e 1<|pure .none) (λl s=>p ((i.push f).push l,e.handed,e.handed,e.handed==e.start,n+1,false) s) X s) X {a.s with toks:=k}:=by
 refine tZ (v.2 d<|.head _) λE P Q F=>?_
 have vX:x=(pre++b)++(d.1++(d.2++nZ j)):=by
  rw[ex];unfold nZ;exact J i6<|J qs<|J (eT ..)<|J (eT ..) rfl
 have r:H pre+H b=(pre++b).length:=(bq ..).symm;have w:H b<=lim/\H d.1<=lim:=by
  rw[vX] at c;rw[bq,bq,bq] at c;exact⟨az (fS _ _)<|az (cZ _ _) c,az (cZ _ _)<|az (fS _ _) c⟩
 have G:(pre++b).length+H d.1=(pre++b++d.1).length:=(bq ..).symm;rw[t,u,q.s,q.h];have fG:∀{f:aF} {k:Nat},a.V (.str b) f->aE g.M A (reMachineGroup h e 1<|pure .none) (λl s=>p ((i.push f).push l,H pre+H b+H d.1,H pre+H b+H d.1,H pre+H b+H d.1==H pre+H b,n+1,false) s) X {a.s with toks:=k}:=λ{f k} L=>by
  unfold reMachineGroup;refine J q.l<|J q.k<|J t<|J u<|wn av<|wn (bA.mpr<|cZ _ _) ?_;rw[r,vX];refine Pe (vX▸c)<|D _ _ ?_;rw[<-r,jO λM=>E<|zk<|hR<|M.trans (Q0 _).symm,r,G];refine .mk _ (m++[.str b,.str d.1]) _ d.2 j _ _ _ ?_ (by rw[vX,eT<|pre++b]) ⟨F,λN e=>v.2 N<|.tail _ e⟩ (J (eT ..) rfl) (λO=>nomatch O) λU=>JU z
  exact J Qp<|J Qp<|J (eT ..)<|y.append ⟨L,mj (a:=a) _ w.2,rfl⟩
 have g1:=Pe (g:=g) (A:=A) (X:=X) (s:={a.s with toks:=k}) (K:=λf s=>aE g.M A _ (λl s=>p ((i.push f).push l,H pre+H b+H d.1,H pre+H b+H d.1,H pre+H b+H d.1==H pre+H b,n+1,false) s) X s) (ex▸c)<|fG<|mj _ w.1;rwa [<-ex] at g1
def afH(b)(a):(A1 b a).length=2*H a+1:=by
 unfold A1;refine J (aX ..)<|aZ (· +1) ?_;induction a with
 |nil=>rfl
 |cons d a c=>exact J xo<|J bq<|J c<|J (h_ ..) rfl
def aiS{X:aF->bf->Prop}{c:Array aF}(i:H x<=lim)(e:x=pre++(d++[]))(q:a.b4 l c.toList)(r:l++[.str d]=f)(y:H f<=lim)(t:i_ a m K)(u:m f a.W)(v:∀fin h,(∃b,fin=.done (.ret b)/\K b h)->j fin h):
 aE g.M A (reSlice (toS x).cps 0 (H pre) (toS x).cps.size>>=λb=>E_ (c.push b).toList>>=ret) j X {a.s with toks:=k}:=by
 have w:=by
  rw[e,bq,dR] at i;exact az (fS _ _) i
 have n:a.b4 f (c.push<|.str (toS d) k).toList:=by
  exact bH r<|J Qp<|q.append ⟨mj (a:=a) _ w,rfl⟩
 have p:(c.push<|.str (toS d) k).toList.length<=lim:=by rwa [n.cg]
 have g1:=Pe (g:=g) (A:=A) (X:=X) (s:={a.s with toks:=k}) (K:=λb s=>aE g.M A (E_ (c.push b).toList>>=ret) j X s) (e▸i)<|ak<|l9 (aK<|v _ _ ⟨_,rfl,yP t (n.cg▸p) n u⟩)<|gq p;rw[<-e,<-bq,<-dR d,<-e] at g1;exact ak g1
def VB{X:aF->bf->Prop}(B:oV a.s.heap f 1 j5)(p:H x<=lim)(e:x=d++nZ b)(D:Ce d b)(O:2*H b+1<=lim)(G:i_ a h K)(L:h (A1 d b) a.W):aE g.M A (call (.builtin "re.Pattern.split") [.ref f,.str (toS x) j]) K X a.s:=by
 refine pY Pg B.Wn Qr ?_ (by
  unfold zz;rw[ka (n:=['t','i','l','p','s']) au XT];kernel_rfl)
 refine x9 (aiY (g:=g) (A:=A.in1) (X:=X) (.ref f)<|.str (toS x) j) λE P ao M aA bL=>?_
 rw[ao];refine ak<|whole B<|ak<|aov _ (λF st q=>KS a x (A1 d b) (H F) st q) _ (λQ F st q c=>?_) (λst q c=>?_) _ _ ?_
 .cases c with
  |mk k r pre t u v n w i ex l m y z=>
   obtain _|_:=w
   .refine bL _ _ _ _ _ _ _ rfl (aeZ rfl rfl (bH ex rfl) rfl (ex▸p) l (λe=>.mk k r pre t u v n true i ex l m (λU=>e) λc=>nomatch c) λR S e T E=>?_);subst e;exact aiU rfl rfl p ex i l E (z rfl) λst s c=>m▸c
   exact(aA ..).symm▸aK (.mk k r pre t u v n true i ex l m y λc=>nomatch c)
 .cases c with
  |mk k r pre t u v n w i ex l m y z=>
   obtain _|_:=w
   .exact aW (z rfl)<|JV _
   have N:=y rfl;subst N;exact(M ..).symm▸aiS p ex i m (by rwa [afH]) G L λU U c=>c
 refine .mk a.s.toks [] [] d b #[] 0 false rfl e D rfl (λc=>nomatch c) λU=>?_
 rw[kF];show _<2*(toS x).length+3;rw[g9,e,bq];exact bz (az (aae D)<|az (fS _ _)<|Nat.le_mul_of_pos_left _ av)<|tM av
end
structure R2(g:G):Prop where
 ws:∀h,g.K.In h->oV h 79 1 j5
 nm:∀h,g.K.In h->oV h 250 0 sJ
 vl:∀h,g.K.In h->oV h 255 0 s_
def Iu{j:Array Nat}(k:oV a.s.heap b gr j){h:Str}{c:String}(eW:E2 "re.Pattern" h c)(ty:zF (.builtin c)=pure (.type "method_descriptor"))(l:q (.builtin c,[.ref b]) a.s):aE g.M d (vn (.ref b) h f) q K a.s:=by
 exact k.casesOn λo U U U U U i m n U U U U U U U=>E7 ⟨o,i,m⟩ (⟨⟨"object.__getattribute__",by rw[zE];kernel_rfl,bC⟩,by rw[zE];kernel_rfl⟩) eW ty (λp e=>⟨o,(Value.ref.inj e)▸i,n⟩) l
def U'{l:Array Nat}(m:∀d,g.K.In d->oV d b 0 l)(n:(b==79)=false)(p:(bif b==250 then sJ else s_)=l):ic g j k (.builtin "re.Pattern.search") [.ref b] (λas f h e U=>nul f (Y9 b as h e)) a:=ic.of λq as v e w X le i c r=>by
 refine aG (jV c) λx t c=>?_;subst t
 refine mq i λy i=>pM (c9 i) c λs z u c=>?_
 replace c:=fR n c;rw[p] at c;exact aaM (m _ q.c8) u r c
def oN.in1(x:oN b e):l_ b.in1 e:=⟨x.h,Gi x.d rfl,Gh (i:=1) x.u rfl⟩
def oN.Hq(x:oN b e):l_ b.in1.in1 e:=⟨x.h,Gi x.d rfl,Gh (i:=2) x.u rfl⟩
def d_.in1{a:fY}(c:a.frames=some b):a.in1.frames=some b:=c
def W3(p:gP g)(q:d.frames=some f)(aU:l_ d m)(r:oO g n m)(ok:d_ a f)(i:a.V h s)(t:CB n h a.W k)(u:∀(x:cM a) b j,k b x.W->K (.int b j) x.s):
 aE g.M d (Builtin.«len» ⟨[s],[]⟩) (λfin A=>∃l,fin=.done (.ret l)/\K l A) E a.s:=by
 have v:=i;revert v;refine v7 i t λw y z B D F G H L e I c=>λi=>?_
 obtain⟨rfl,c⟩:=c;refine ak<|aK ?_;refine ak<|special_fn a.c8 I.acc p.len.1 p.len.2 ?_;refine pX<|r 203 d f av q aU a [h] [] [.ref _] [] _ cI _ ok ⟨i,rfl⟩ ⟨rfl,rfl⟩ c (λx c=>?_) gj.no;refine kX (c9 x.bw) c λb j c=>ak<|fT<|aK ?_
 refine ak<|zG ?_;refine wn (xe.mpr c.1) ?_;exact wn (QH.mpr<|zh c.2.1.2 av)<|ak<|Rw<|aK ⟨_,rfl,u ⟨x.toaL.tk x.s.drawn _,x.le.bS<|x.toaL.I3 _ _⟩ b _ c.2.2⟩
def akW{K:Bool->bf->Prop}(r:gP g)(v:d.frames=some f)(aU:oN d h)(w:oO g j h)(ok:d_ a f)(q:a.V k l)(u:CB j k a.W λb m=>n (b !=0) m)(y:vC a n K):aE g.M d (truthy l) K E a.s:=by
 have z:=q;revert z;refine v7 q u λA G H L M N O P Q e I s=>λq=>?_
 obtain⟨rfl,_⟩:=s;have key:aE g.M d (runValue<|.builtin "len" ⟨[.ref<|a.c.bW A],[]⟩) (λi p=>∃b c,i=.int b c/\K (b !=0) p) E a.s:=by
  refine wpAny_runValue<|aob entry_len ?_;refine J (e6 plain_len _)<|fq (W3 (K:=λi p=>∃b c,i=.int b c/\K _ p) r v aU.in1 w ok q u λx b c s=>⟨b,c,rfl,y x _ s⟩) (λfin p B=>by refine aG B λi D t=>?_;subst D;exact t) λU U e=>e
 refine ak<|ak<|ak<|I.acc.type.here<|(mU a.c8 r.bool).here<|aK ?_;refine ak<|ak<|I.acc.type.here<|(mU a.c8 r.len.1).here ?_;refine ak (fq key (λi p F=>?_) λU U e=>e);obtain⟨b,c,rfl,t⟩:=F;exact aK t
def aL.cC(a:aL g)(d:bf)(f:∀b o,a.o b=some o->d.heap.get? b=some o)(h:a.aC<=d.heap.objs.size)(i:d.gens=a.s.gens)(j:d.os=a.s.os):cM a where
 c:=a.c
 W:=a.W
 s:=d
 R:=a.R.but (λx o U=>f x o) h
 le:=bJ.same rfl rfl (λx o U U e=>.ff<|f x o e) h i j
def R9(a)(e:fY)(d:aL a)(I:bG)(f:List aF)(X:aF->bf->Prop)(i:Sem aF)(s:bf):Prop:=∃St g b,Walks a.g6 a.w e I g [I] f.toArray.size (λj k=>f.toArray[j]?=some k) St/\St 0 b/\(∀c∈g,c<b.objs.size)/\(∀c o,d.o c=some o->b.get? c=some o)/\d.aC<=I/\
 ∀h:aF->bf->Prop,h (.ref I) {d.s with heap:=b}->aE a.M e i h X s
def lw(g:A.handled=none)(e:b.o d=some (eV f h)):R9 j A b b.aC f K (qv (.ref d)) b.s:=by
 have c:=gI e;refine⟨_,_,b.s.heap.push {cls:=.type "list_iterator",data:=.fields #[.ref d,.int 0 0]},Walks.list g b.aC d (kI<|dJ e) f.toArray,⟨⟨_,g_ _ rfl,rfl,rfl⟩,c.push _⟩,λi a=>?_,λi o e=>fZ _ e,aS _,λl k=>RA c k⟩;rw[f5];obtain rfl|a:=cQ.mp a
 .exact f6 _
 exact J (dK.mp a)<|tN<|dJ e
def aeu{a u v}{X:aF->bf->Prop}(g:A.handled=none):R9 b A a (a.aC+1) [v,u] X (qv (.ref a.aC)) {a.s with heap:=a.s.heap.push {cls:=.type "tuple",data:=.seq #[v,u]}}:=by
 have f:(a.s.heap.push {cls:=.type "tuple",data:=.seq #[v,u]}).IsTuple a.aC #[v,u]:=⟨_,g_ _ rfl,rfl,0,rfl⟩;have c:(a.s.heap.push {cls:=.type "tuple",data:=.seq #[v,u]}).objs.size=a.aC+1:=f5 ..;refine⟨_,_,(a.s.heap.push {cls:=.type "tuple",data:=.seq #[v,u]}).push {cls:=.type "tuple_iterator",data:=.fields #[.ref a.aC,.int 0 0]},Walks.tuple g (a.aC+1) a.aC (kI<|f6 _) #[v,u],⟨⟨{cls:=.type "tuple_iterator",data:=.fields #[.ref a.aC,.int 0 0]},?_,rfl,rfl⟩,f.push _⟩,λh d=>?_,λh o e=>fZ _<|fZ _ e,gy _,λi j=>Kl f ?_⟩
 .exact bH c<|g_ _ rfl
 .rw[f5,c];obtain rfl|d:=cQ.mp d
  .exact f6 _
  exact J (dK.mp d)<|tN<|f6 _
 rwa [show({a.s with heap:=a.s.heap.push {cls:=.type "tuple",data:=.seq #[v,u]}}:bf).heap.objs.size=a.aC+1 from c]
def HN{a:e9}(c:dc d h K)(g:∀b o,d.o b=some o->a.get? b=some o)(c6:d.aC<=I)(i:∀b o,b∉[I]->a.get? b=some o->f.heap.get? b=some o)(l:f.gens=d.s.gens)(m:f.os=d.s.os)(n:d.aC<=f.heap.objs.size)(p:d.V j k)(q:h j d.W):K k f:=
 dc.dB c (d.cC f (λb o e=>i b o (lA dK<|kI<|bZ (dJ e) c6)<|g b o e) n l m) p q
def getD_at{f:w->D}{i:w->aF->Prop}(k:∀x c,a.V (f x) c->i x c){j:List w}(l:a.b4 (j.map f) b)(m)(e:Nat)(c)(h:b.toArray[e]?=some c):i (j.getD e m) c:=by
 rw[gY] at h;obtain n|⟨d,r,ao,aA,p⟩:=l.get e
 .rw[n.2] at h;contradiction
 rw[h] at aA;cases aA
 rw[d8] at ao;refine aG (iQ.mp ao) λx ex q=>?_;subst q
 exact J l0<|J ex<|k x c p
def range_all(a:List Bool):((b6 (H a)).all λb=>a.getD b false)=a.all id:=by
 induction a with
 |nil=>rfl
 |cons d a c=>exact J gK<|J QX<|J nJ<|J am5<|J nJ<|bH c rfl
def range_any(a:List Bool):((b6 (H a)).any λb=>a.getD b false)=a.any id:=by
 induction a with
 |nil=>rfl
 |cons d a c=>exact J gK<|J QX<|J xh<|J hk<|J xh<|bH c rfl
def TL{u}{X:aF->bf->Prop}{c:List Nat->List Nat->Bool}(p:A.handled=none)(r:H x<=lim)(t:H b<=lim)(w:(aE g.M A.in1 (qv (.ref a.aC)) (λP m=>∃I n M F L St c,P=.ref I/\Walks g.g6 g.w A.in1 I n M F L St/\St 0 m.heap/\(∀l∈n,l<m.heap.objs.size)/\0<F/\CmpOf g.g6 g.w A.in1 op L c/\
 ∀v B tk,L (argBest c (F-1)) v->(∀l o,l∉M->m.heap.get? l=some o->B.get? l=some o)->a.aC<=B.objs.size->K v {m with heap:=B,toks:=tk}) (λe f=>a.aC<=f.heap.objs.size->X e f) {a.s with heap:=a.s.heap.push {cls:=.type "tuple",data:=.seq #[.str (toS x) j,.str (toS b) u]}})->
 aE g.M A (call Q [.str (toS x) j,.str (toS b) u]) (λv f=>a.aC<=f.heap.objs.size->K v f) (λe f=>a.aC<=f.heap.objs.size->X e f) a.s) (y:∀d k j R s K X,K (.bool (c d k)) s->aE g.M A.in1 (richCompare op (.str (toS d) j) (.str (toS k) R)) K X s) (z:dc a O K) (q:O (.str (bif c b x then b else x)) a.W):aE g.M A (call Q [.str (toS x) j,.str (toS b) u]) K X a.s:=by
 refine iZ<|w ?_;refine SN (aeu (a:=a) (v:=.str (toS x) j) (u:=.str (toS b) u) (A:=A.in1) (X:=λe f=>a.aC<=f.heap.objs.size->X e f) p) λSt n gB qH st D G c6 go=>?_
 have two:∀{d:Nat} {v:aF},([Value.str (toS x) j,.str (toS b) u]).toArray[d]?=some v->∃j,v=.str (toS (bif d==0 then x else b)) j:=λ{d v} h=>by
  obtain _|_|d:=d
  .exact⟨j,(bY h).symm⟩
  .exact⟨u,(bY h).symm⟩
  simp at h
 refine go _ ⟨_,n,_,2,_,_,λd k=>c (bif d==0 then x else b) (bif k==0 then x else b),rfl,qH,st,D,av,λd k d2 apd s O E N S h=>?_,λv B tk i T V=>?_⟩
 .obtain⟨W,rfl⟩:=two N;obtain⟨Y,rfl⟩:=two S;exact y _ _ _ _ _ _ _ h
 have e:argBest (λd k=>c (bif d==0 then x else b) (bif k==0 then x else b)) (2-1)=bif c b x then 1 else 0:=by
  show(if c b x=true then 1 else 0)=_;cases c b x<;>rfl
 rw[e] at i;obtain⟨Z,rfl⟩:=two i;refine HN z G c6 T rfl rfl V ?_ q;cases c b x
 .exact mj _ r
 exact mj _ t
def pf{e:fY}{f:List Int}{h:Array Keyed}{i:w->Prop}{G:w->bf->Prop}(j:∀b x,f[b]?=some x->∃c,(Rh h b).1=.int x c) (k:∀d,i d->G d y) (c:KasT w):Aq f c i->c.kasWp (kas_cmp g.g6 g.w e Ro h) G y:=by
 induction c with
 |ret d=>exactλa=>k d a
 |ask b l r m=>
  intro a;refine aG (ji a) λx ao a=>aG (ji a) λn aA a=>?_
  obtain⟨s,p⟩:=j b x ao;obtain⟨t,q⟩:=j l n aA;show aE _ e _ _ _ y;exact J p<|J q<|kat_lt_int<|m _ a
def agB(l:a.b4 h f)(c):∀{k:List D->Prop},yJ h c k->∃b,k b/\a.b4 b (c.map λd=>f.getD d .none)/\∀d∈c,d<H f:=by
 induction c with
 |nil=>exactλi=>⟨[],i,rfl,λU b=>nomatch b⟩
 |cons d c m=>
  intro k i;refine aG (ji i) λj e i=>dm (m i) λb n p q=>aG (l.at_ e) λs ev t=>⟨j::b,n,⟨?_,p⟩,λr b=>(cQ.mp b).elim (λe=>e▸jw ev)<|q r⟩
  show a.V j<|f.getD d .none;rwa [l0,ev]
def Jc(e:y.heap.get? b=some (eV xs f))(a:h xs.toArray=ys.toArray)(i:H xs<=100)(k:H ys<=100)(l:∀f d,d.get? b=some (eV ys f)->j6 b y.heap d->v () {y with heap:=d}):aE g.M j (fv (.ref b) h) v K y:=by
 have c:=get?_update_seq e h;rw[a] at c;exact listUpdate_at e rfl (l _ _ c<|rI ..) (J cK<|J rQ<|iL i rfl)<|J a<|J cK<|J rQ<|iL k rfl
def Z1{e ao:Nat}{st:SortSt}(p:y.heap.get? N=some (eV j e))(q:y.heap.get? d=some (eV [] ao))(r:N≠d)(s:H j<=100)(t:(arrOf st).map (·.2)=h.toArray)(u:H h<=100)(v:failedOf st=none)(w:∀f k,f.get? d=some (eV h k)->f.objs.size=y.heap.objs.size->(∀b x,¬(b=N\/b=d)->y.heap.get? b=some x->f.get? b=some x)->l (.done (.ret .none)) {y with heap:=f}):
 aE g.M m (ksk_tail d false ao (.ref N) st) l K y:=by
 refine ak (Jc p rfl s (b9 _) λz f g1 a=>?_);refine ak<|zG ?_;have c:=(a.2 d r.symm).trans q;refine ak<|seqEpoch_at c rfl ?_;refine ak (Jc c t (b9 _) u λA B g2 i=>?_);rw[v,bne_self_eq_false];refine aK (w _ _ g2 (J i.1<|J a.1 rfl) λb x n D=>?_);rwa [i.2 b λe=>n<|.inr e,a.2 b λe=>n<|.inl e]
def ai3{Q:Ok D}{e ao:Nat}(MA:a.o N=some (eV f e))(ga:a.o n=some (eV [] ao))(W:N≠n)(M:a.b4 (j.map .int) f)(OJ:a.b4 l b)(O:H j=H l)(X:H l<64)(q:sorted j l λd=>Q (.lst d) a.W)(h:∀k m d B,a.b4 d B->H d<=lim->k.get? n=some (eV B m)->k.objs.size=a.aC->(∀s x,¬(s=N\/s=n)->a.o s=some x->k.get? s=some x)->Q (.lst d) a.W->F (.done (.ret .none)) {a.s with heap:=k}):aE g.M A (ksk_end n false b.toArray ao (.ref N) f.toArray) F K a.s:=by
 have u:=OJ.cg;have y:H b<64:=J u X;have P:=O.trans u.symm;have z:H f=H b:=J M.cg<|J (aX ..)<|J O<|J u rfl;have R:(f.toArray.zip b.toArray).size=H b:=J Array.size_zip<|J cK<|J cK<|J z<|J (EY ..) rfl;have T:∀i x,j[i]?=some x->∃t,Rh _ i=(.int x t,b.getD i .none):=λi x c7=>by
  obtain⟨v,e,t,rfl⟩:=M.at_<|J d8<|J c7 rfl;have eH:=jw e;have c:=z▸eH;refine⟨t,?_⟩;unfold Rh;rw[amf,e'<|R▸c,Array.getElem_zip];exact J l0<|J (kY c)<|aZ (·,_)<|bY<|(kY eH).symm.trans e
 have abu:hg f j:=by
  clear T R z P O q MA;induction j generalizing f with
  |nil=>exact aV.no .nil M
  |cons x j AD=>exact aV.un (λv b u r=>by obtain⟨t,rfl⟩:=u;exact .cons _ _<|AD r) M
 unfold ksk_end;simp only;unfold sorted at q;by_cases c:b.toArray.size<2
 .rw[cK] at c;rw[gb (show(H j)<2 from P▸c)] at q;refine J (dI (show b.toArray.size<2 from c))<|J (dI (show b.toArray.size<2 from c))<|ak<|aK ?_;refine J (StateT.run_pure ..)<|ak<|aK ?_;refine Z1 MA ga W (J z<|bF<|iL y rfl) ?_ (bF<|iL y rfl) rfl λk m ao aA bL=>h k m l b OJ (bF<|iL X rfl) ao aA bL q
  show(f.toArray.zip b.toArray).map _=_;refine Array.ext (J Array.size_map<|J R<|J cK rfl) λi eH c=>?_
  simp
 rw[cK] at c;rw[eS<|show¬H j<2 from P▸c] at q;refine J (cE<|show¬b.toArray.size<2 from c)<|J (cE<|show¬b.toArray.size<2 from c)<|J (ksk_kind abu<|J cK<|J z<|bA.mp c)<|ak<|aK ?_;have ahF:Aq j (kas_sort<|H b) λp=>p.size<=1000/\yJ l p.toList λd=>Q (.lst d) a.W:=by rwa [u,<-O]
 have run:=kas_runs (w:=g.w) (A:=A) (E:=K) (G:=λp L=>(p.size<=1000/\yJ l p.toList λd=>Q _ a.W)/\L=a.s)
  (Q:=λU S L=>∃p:Array Nat,p.size=H b/\(p.size<=1000/\yJ l p.toList λd=>Q (.lst d) a.W)/\arrOf S=p.map _/\failedOf S=none/\L=a.s)
  (bA.mp c) y (λafL S L a1 a2 t6 vN=>⟨afL,a1,vN.1,a2,t6,vN.2⟩) (pf (λi x c7=>by obtain⟨t,e⟩:=T i x c7;exact⟨t,by rw[e]⟩) (λp jT=>⟨jT,rfl⟩) _ ahF)
 have RR:an5 Ro (f.toArray.zip b.toArray) #[] 7 none=kas_st Ro (f.toArray.zip b.toArray) (List.toArray<|b6<|H b):=by
  have e:=kas_range<|f.toArray.zip b.toArray;rw[R] at e;show _=an5 Ro _ #[] 7 none;rw[e]
 rw[<-RR] at run;refine ak (fq run ?_ λU U e=>e)
 rintro ⟨⟨⟩,S⟩ L ⟨p,jT,⟨_,q⟩,Df,hf,rfl⟩
 refine dm (agB OJ p.toList q) λd q hm Z=>?_
 have Y:H d=H b:=by rw[<-hm.cg,aX,ami,jT]
 refine Z1 MA ga W (J z<|bF<|iL y rfl) ?_ (J hm.cg<|J Y<|bF<|iL y rfl) hf λk m ao aA bL=>h k m d _ hm (J Y<|bF<|iL y rfl) ao aA bL q
 apply fb.mp;refine J Df<|J Array.map_map<|J Array.toList_map<|qu λi V=>?_
 have V:=Z i V;obtain⟨t,e⟩:=T i _<|kY (show i<(H j) from P▸V);show(Rh _ i).2=_;rw[e]
def aek(a:r[N]?=some d) (c:AK f (r.drop N) h k):f [d] [] h (λj b=>vInt (bx b j) λx=>AK f (r.drop (N+1)) b λr b=>k (x::r) b) cI:=by
 have e:r.drop N=d::r.drop (N+1):=by
  obtain⟨g,i⟩:=fm.mp a;exact bH i<|ho g
 rwa [e] at c
inductive R8{g:G}(b:aL g)(c:Call)(ds:List D)(k:List Int->aN->Prop)(kS i:Nat)(s:bf):Prop
 |mk (y:aL g) (Nt:List Int) (qX:List aF) (e:Nat) (hs:s=y.s) (le:bJ (· =kS) b y) (h:AK c (ds.drop i) y.W λl Cq=>k (Nt++l) Cq) (bw:y.b4 (Nt.map .int) qX) (gC:Nt.length=i) (cu:y.o kS=some (eV qX e))
def ai4{Q:Ok D}{kS:Nat}(jS:oQ g L B (.ref M) s)(ok:d_ a B)(r:a.b4 k F)(h:AK s k a.W λn l=>sorted n k λf=>Q (.lst f) l)(R:H k<=50)(y:a.o kS=some (eV [] 0))(ga:a.o m=some (eV [] N))(S:kS≠m)(Vd:a.c.Fr kS)(GV:a.c.Fr m)(ae1:kS∉jH B)(Ax:∀b f A j,bJ (λx=>x=kS\/x=m) a b->b.b4 f A->H f<=lim->b.o m=some (eV A j)->b.c.Fr m->Q (.lst f) b.W->O (.done (.ret .none)) b.s):aE g.M L (ksk_rest m (.ref M) false F.toArray N (.ref kS)) O K a.s:=by
 refine ak<|mV ?_;rw[List.forIn_toArray];have T:=r.cg;refine ak<|ksk_fold (λi E=>R8 a s k (λn l=>sorted n k λf=>Q (.lst f) l) kS i E) F 0 a.s ⟨a,[],[],0,rfl,bJ.same rfl rfl (λU U U U e=>.ff e) (aS _) rfl rfl,h,rfl,rfl,y⟩ ?step ?done;case step=>
  rintro i x E c7 ⟨b,G,P,e,rfl,le,h,u,w,c⟩
  rw[i8] at*;obtain q|⟨d,v,N,aA,hd⟩:=r.get i
  .rw[c7] at q;cases q.2
  rw[c7] at aA;cases aA
  have V:=le.fr kS Vd<|dJ y;refine ak<|xK<|pX<|jS b [d] [] [x] [] _ cI _ (ok.le le λp jT e=>ae1<|e▸jT) (.one<|hd.mono le.le) ⟨rfl,rfl⟩ (aek N h) (λz q=>?_) gj.no;have W:=z.bw;revert W;refine kX (c9 z.bw) q λj t q W=>?_
  have X:H P<=50:=J u.cg<|J (aX ..)<|J w<|az (bF<|jw N) R;refine ak (Jc (ys:=P++[.int j t]) (N1<|z.le.keep kS _ V (λh=>h) c) (by simp) (iL X rfl) (J bq<|iL (iI X) rfl) λXj Y g1 s1=>?_);refine aK ⟨rfl,R8.mk _ (G++[j]) _ Xj rfl (le.trans (z.le.of0.bS<|z.toaL.uC (z.le.fr kS V<|dJ c) s1) (λU h=>h) λU U h=>h) ?_ ?_ (J bq<|J w rfl) g1⟩
  .rwa [show(λn l=>sorted _ k λf=>Q _ l)=λn l=>sorted (G++j::n) k λf=>Q _ l by funext n l;exact J (eT ..) rfl]
  exact J dS<|aV.append (u.mono z.le.le)<|.one ⟨t,rfl⟩
 case done=>
  rintro E ⟨b,G,P,e,rfl,le,h,u,w,c⟩
  rw[i8] at*;rw[am9<|di T.symm] at h;replace h:sorted _ k λf=>Q _ b.W:=h
  rw[dR] at h;have Z:=le.fr m GV<|dJ ga;refine ak<|listItems_at c rfl ?_;refine ai3 c (N1<|le.keep m _ GV S.symm ga) S u (r.mono le.le) (w.trans T) (bz R aH) h λY s f A hm fO N aA bL q=>?_
  let z:aL g:=⟨b.c,b.W,{b.s with heap:=Y},b.R.but (λx o j e=>bL x o (λh=>j (h.elim (λh=>h▸(le.fr kS Vd<|dJ y)) λh=>h▸Z)) e)<|di aA.symm⟩;exact Ax z f A s (le.trans (bJ.same rfl rfl (λx o U j e=>.ff<|bL x o j e) (di aA.symm) rfl rfl) (λU h=>.inl h) λU U h=>h) hm fO N Z q
def tl(X:k.frames=some x)(aU:oN k A)(Y:oO g B A)(ok:d_ a x)(D:a.b4 as j)(cB:vD a F s)(q:Tu B as F a.W L)(dY:dc a L K):aE g.M k (call (.builtin "sorted") j s) K E a.s:=by
 refine aG (jV q) λd G wD=>?_;subst G
 refine aG (jV wD) λp G rd=>?_;subst G
 obtain⟨n,e⟩:=p;obtain⟨iu,q⟩:=rd;subst iu;have t:=cB.n;obtain _|⟨HC,s⟩:=s
 .contradiction
 obtain⟨aoX,kw⟩:=HC;have ao:=(List.cons.inj t).1;have aA:=JN.mp (List.cons.inj t).2;subst ao;subst aA;have M:a.V e kw:=cB.v.1;refine mq D λv D=>?_
 revert M;intro M;refine CU M q λf q=>?_
 obtain⟨hf,q⟩:=q;refine J (VE hf)<|s9 (c9 D) q λl ds j Dr z fG r q=>?_
 obtain⟨W,q⟩:=q;have u:H j<=50:=J r.cg W;refine call_function_entry_kw kind_sorted plain_sorted entry_sorted (ksk_s1 _ _)<|ak<|aK ?_;refine ak<|collect_list ⟨_,fG,rfl,Dr,rfl⟩ ?_<|J rQ<|iL u rfl;refine ak<|wpAny_newList ?_<|J rQ<|iL u rfl;let N:=(a.s.heap.push<|seqObj "list" #[] 0).update a.aC (zw (· ++j.toArray));have O:N.objs.size=a.aC+1:=(J (Heap.size_update ..)<|J (size_push' ..) rfl);have t:∀b o,a.o b=some o->N.get? b=some o:=λb o q=>by
  exact J (Heap.get?_update_ne _ _ _ _<|kI<|dJ q)<|fZ _ q
 let P:=a.grow N t<|O▸gy _;let i:=P.toaL.new (eV j 0) a.s.drawn a.s.toks;have Q:i.o (a.aC+1)=some (eV j 0):=bH O<|P.toaL.ku rfl _ _;have R:∀p,a.aC<=p->i.c.Fr p:=λp h=>a.fresh h
 refine J (show _=a.aC+1 from O)<|ak<|fT<|wpAny_call_entry_kw slot_list_sort ⟨_,Q,rfl⟩ entry_list_sort ?body<|ksk_l1 _ _;refine J (ksk_t1 ..)<|ak<|listItems_at Q rfl ?_;refine ak (Jc Q rfl (iL u rfl) (b9 _) λao3 n6 g3 s3=>?_);refine ak<|seqEpoch_at g3 rfl ?_;refine ak<|kx ?_<|gq<|iL u rfl;refine ak<|wpAny_newList ?_<|b9 _;refine fT ?_;let Lm:=i.toaL.loose (R _<|gy _) s3;let c:=Lm.new (seqObj "tuple" j.toArray 0) a.s.drawn a.s.toks;let S:=c.toaL.new (eV [] 0) a.s.drawn a.s.toks;have T:=((P.le.bS i.le).trans (i.toaL.uC _ s3) (λU h=>h) λp w e=>bA.mpr (oF<|di<|Eq.symm e) w).bS<|c.le.bS S.le;have al3:c.aC≠a.aC+1:=nP<|dJ<|fZ _ g3;have jI:S.o c.aC=some _:=c.toaL.ku rfl _ _;have Au:S.o _=some _:=fZ _<|fZ _ g3;have V:a.aC<=c.aC:=az (gy _)<|bF<|dJ<|fZ _ g3;refine ai4 (kS:=c.aC) (Y f k.in1.in1 x hf X aU.Hq) (ok.le T λU U h=>h) (r.mono T.le) q W jI Au al3 (R _ V) (R _<|gy _) (λh=>aW (ok.lt h)<|bA.mpr V) λy m us n le hm amc cu aan q=>⟨_,rfl,aK ⟨_,rfl,?_⟩⟩
 have Z:=T.trans le (λU h=>h) λp w h=>Or.elim h (λe=>bA.mpr (az V<|di<|Eq.symm e) w) λe=>bA.mpr (oF<|di<|Eq.symm e) w
 exact i_.cG dY ⟨⟨y,Z⟩,a.aC+1,m,us,n,amc,aan,gy _,cu,hm⟩ q
def Mm(a:b<=lim):(b:Int)<2^63:=ha (lZ.mpr a) av
def TN{Q:Ok D}(n:a.V h j)(c:CC [h] a.W λb d=>Q (.lst b) d)(p:i_ a (λf d=>Q (.lst f) d) K):aE g.M k (call (.type "list") [j]) K E a.s:=by
 refine s9 (c9 n) c λf b q w i e l c=>iZ<|call_list_seq f (.inl rfl) e rfl rfl (λr s t u v=>?_)<|J cK<|J l.cg<|gq i
 let m:=a.grow r t v;exact p ⟨m,a.aC,b,q,s,i,a.fresh<|aS _,aS _,u,l.mono m.le.le⟩ c
def N_(a:dc b h K)(c:h (.o 0 x d e) b.W):K (.ref b.aC) {b.s with heap:=b.s.heap.push {cls:=.type "range",data:=.fields #[.int x j,.int d k,.int e l]},drawn:=f,toks:=tk}:=
 a ⟨(b.new _ f tk).put (b.fresh<|aS _) (b.ku rfl f tk)<|aS _,.ref b.aC,.o 0 x d e,b.aC,rfl,.inl ⟨rfl,j,k,l,bP.ny⟩⟩ c
def Fp(b:G)(f:fY)(g:List Env)(h:aF)(i:List D->aN->Ok D->Prop):Prop:=∀(a:aL b) (as:List D) (c:List aF) (d:Ok D) (e X:aF->bf->Prop),d_ a g->a.b4 as c->i as a.W d->dc a d e->aE b.M f (call h c) e X a.s
def Fp.one(g:∀as k e,h as k e->∃d,as=[d])(i:∀(b:aL j) d v e f X,d_ b l->b.V d v->h [d] b.W e->dc b e f->aE j.M m (call n [v]) f X b.s):Fp j m l n h:=λb as q e f X ok a c p=>by
 obtain⟨d,rfl⟩:=g _ _ _ c;exact mq a λv a=>i b d v e f X ok a c p
def uF{b:List w}{k:w->Prop}(a:M.Internal.one b k):∃x,b=[x]:=(jV a).imp λU a=>a.1
def Tw{g:List Nat->List Nat->List Nat}(i:∀(e:aL j) s b k l d f X,H s<=lim->H b<=lim->d (.str (g s b)) e.W->dc e d f->aE j.M m (call n [.str (toS s) k,.str (toS b) l]) f X e.s):Fp j m B n (λas h d=>two as λx A=>vStr (bx h x) λs=>vStr (bx h A) λb=>d (.str (g s b)) h):=λe as y d f X ok c a p=>by
 refine m9 (PV a) λz D q a=>?_;subst q
 refine F1 c λE k c r=>?_
 exact pM (c9 c) a λs b t a=>pM (c9 r) a λu v w a=>i e s u b v d f X t w a p
def AllP(a:w->Prop)(b:List w):Prop:=List.rec True (λx U c=>a x/\c) b
def AllP.mem{c:w->Prop}{a:List w}:AllP c a->∀x∈a,c x:=by
 induction a with
 |nil=>exactλU U b=>nomatch b
 |cons g a d=>exactλb x f=>(cQ.mp f).elim (λe=>e▸b.1)<|d b.2 x
def sz(B:gP F)(W:A.frames=some L)(aU:oN A j)(Y:oO F k j):AllP (λb=>Fp F A L (nh b.1) (b.2 k)) Tv:=
 ⟨.one (λU U U h=>uF h) λa d v Q K X ok p q G=>(by
  have R:=c9 p;replace q:cT.casesOn _ (CB k d a.W λi Cq=>Q _ Cq) False no (λs=>Q _ a.W) (λs=>Q _ a.W) (λs=>Q _ a.W):=q;revert R q;obtain _|_|_|s|O|O:=bx a.W d<;>first|exactλU q=>bO q|skip
  .exactλU q=>Calls.call_function_entry kind_len plain_len entry_len (args_len1 _) (W3 B W aU.in1 Y ok p q λx i t q=>G ⟨x,.int i t,.int i,t,rfl⟩ q)
  .rintro ⟨z,t,rfl⟩ q
   exact P.len_str (J (g9 ..)<|QH.mpr<|Mm z)<|J (g9 ..)<|eG G (kL _ _) q
  .rintro ⟨z,b,M,m,rfl,e,r⟩ q
   refine Calls.call_len_list (gI e) (J cK<|J r.cg<|Mm z) ?_;exact J cK<|J r.cg<|eG G (kL _ _) q
  .rintro ⟨z,b,M,m,rfl,e,r⟩ q
   refine len_tuple (nq e) (J cK<|J r.cg<|Mm z) ?_;exact J cK<|J r.cg<|eG G (kL _ _) q),(.one (λU U U h=>uF h) λa d v Q K X ok p q G=>by
  refine pM (c9 p) q λs t z q=>?_
  refine aG (jV q) λc ahG q=>?_;subst ahG
  exact P.ord_of_char (eG G (kL _ _) q)),(.one (λU U U h=>uF h) λa d v Q K X ok p q G=>by
   exact kX (c9 p) q λi t q=>P.chr_of_int (by simp;exact⟨q.1,JE (zh q.2.1 av)⟩) (eG G (mj _ (by show 1<=lim;decide)) q.2.2)),.one (λU U U h=>uF h) λa d v Q K X ok p q G=>(by
    refine s9 (c9 p) q λb O M m z e r q=>?_
    obtain⟨l,rfl,q⟩:=q;refine iZ<|call_sum_walkAnyS ?_;obtain⟨St,S,gB,qH,st,V,T,c6,go⟩:=lw (A:=A.in1) aU.h e;refine go _ ⟨_,S,_,_,_,_,_,λi=>l.getD i 0,rfl,qH.toS,st,V,getD_at (f:=D.int) (λx v h=>h) r 0,λs' uZ m N=>?_⟩;exact J cK<|J r.cg<|J (aX ..)<|J (preSum_getD ..)<|J zm<|HN G T c6 m.heap m.gens m.os N (kL _ _) q),.one (λU U U h=>uF h) λa d v Q K X ok p q G=>(by
     refine s9 (c9 p) q λb O M m z e r q=>?_
     obtain⟨l,rfl,q⟩:=q;refine iZ<|call_any_walkS ?_;obtain⟨St,S,gB,qH,st,V,T,c6,go⟩:=lw (A:=A.in1) aU.h e;refine go _ ⟨_,S,_,_,_,_,_,λi=>l.getD i false,rfl,qH.toS,st,λi v s Q E p ni=>?_,λs' m N=>?_⟩
     .exact J (getD_at (f:=D.bool) (λx v h=>h) r false i v p)<|B7 ni
     exact J cK<|J r.cg<|J (aX ..)<|J (range_any ..)<|HN G T c6 m.heap m.gens m.os N (tY _) q),
  .one (λU U U h=>uF h) λa d v Q K X ok p q G=>(by
   refine s9 (c9 p) q λb O M m z e r q=>?_
   obtain⟨l,rfl,q⟩:=q;refine iZ<|call_all_walkS ?_;obtain⟨St,S,gB,qH,st,V,T,c6,go⟩:=lw (A:=A.in1) aU.h e;refine go _ ⟨_,S,_,_,_,_,_,λi=>l.getD i false,rfl,qH.toS,st,λi v s Q E p ni=>?_,λs' m N=>?_⟩
   .exact J (getD_at (f:=D.bool) (λx v h=>h) r false i v p)<|B7 ni
   exact J cK<|J r.cg<|J (aX ..)<|J (range_all ..)<|HN G T c6 m.heap m.gens m.os N (tY _) q),
  Tw λa s t u w Q K X z Ql q G=>TL aU.h z Ql (λh=>call_min_two h) (λi j t uZ s K X h=>P.lt_str h) G q,
  Tw λa s t u w Q K X z Ql q G=>TL aU.h z Ql (λh=>call_max_two h) (λi j t uZ s K X h=>P.gt_str h) G q,
  .one (λU U U h=>uF h) λa d v Q K X ok p q G=>TN p q (i_.cG G),.one (λU U U h=>uF h) λa d v Q K X ok p q G=>(by
   have R:=c9 p;replace q:cT.casesOn _ (mD a.W d λU U U=>k 210 [d] [] a.W (λr Cq=>vStr _ λs=>Q _ Cq) cI) False no (λs=>Q _ a.W) no no:=q;revert R q;obtain _|_|_|s|_|_:=bx a.W d<;>first|exactλU q=>bO q|skip
   .intro _ q;have Z:=p;revert Z;refine v7 p q λn c iF O kh es qa M m e I q=>λp=>?_
    obtain⟨rfl,q⟩:=q;refine kso_call (Ll (d:=2) aU.u rfl) a.c8 I.acc B.str.1 (beq_iff_eq.mpr B.str.2)<|pX<|Y 210 A.in1.in1 L av W aU.Hq a [d] [] [.ref<|a.c.bW n] [] _ cI _ ok (.one p) ⟨rfl,rfl⟩ q (λx q=>?_) gj.no;exact pM (c9 x.bw) q λs t z q=>dc.dB G x.tocM (mj (a:=a) _ z) q
   .rintro ⟨z,t,rfl⟩ q
    exact PySem.P.str_of_str (eG G (mj _ z) q)),.one (λU U U h=>uF h) λa d v Q K X ok p q G=>(by
   have R:=c9 p;replace q:cT.casesOn _ False False no (λU=>Q _ a.W) (λU=>Q _ a.W) no:=q;revert R q;obtain _|_|_|s|O|_:=bx a.W d<;>first|exactλU q=>bO q|skip
   .rintro ⟨z,t,rfl⟩ q
    exact call_type_of (xJ _ _ _) av<|eG (d:=.g 1010) G rfl q
   rintro ⟨z,b,M,m,rfl,e,r⟩ q
   exact call_type_of ⟨_,e,rfl⟩ av (eG (d:=.g 1009) G rfl q)),
  λa as M Q K X ok p q G=>(by
   obtain _|⟨x,as⟩:=as
   .exact bO q
   refine aV.un (λv M c7 p=>?_) p;refine kX (c9 c7) q λi t q=>?_
   obtain _|⟨y,as⟩:=as
   .exact aV.no (call_range_1<|N_ G q.2) p
   refine aV.un (λv M yt p=>?_) p;refine kX (c9 yt) q λj uZ q=>?_
   obtain _|⟨z,as⟩:=as
   .exact aV.no (call_range_2<|N_ G q.2.2) p
   obtain⟨rfl,q⟩:=iH q;refine mq p λv N=>?_
   exact kX (c9 N) q λs apb q=>call_range_3 (by rw[q.2.2.1];decide) (N_ G q.2.2.2) (.inl (PyProof.noPylong_small (by rw[q.2.2.1];decide)))),aQ⟩
def aeb{d:w}{c:List (Nat×w)}:c.lookup b=some d->(b,d)∈c:=by
 induction c with
 |nil=>exactλa=>nomatch a
 |cons e c f=>
  rw[nM];rcases g:b==e.1 with _|_
  .exactλa=>.tail _<|f a
  exactλa=>J (ck g)<|bH (bY a)<|.head _
structure Sd(K:jD)(C:bG)(jU:aF)(DF:Option bG)(cd:ClassData)(eW:Array (Option aF)):Prop where
 at_:K.lookup C=some ⟨jU,DF,.cls cd,eW⟩
 del:cd.hasDel=false
 new:(eW.toList[4]?).join=some (.builtin "list.__new__")
 mro:∃c l,cd.mro=c::l
 self:cd.mro.contains (.ref C)=true
 top:cd.mro.contains (.type "list")=true
 call:specialIn K (.ref C) "__call__"=some (some<|.builtin "type.__call__")
 inst:instIn K (.ref C) (.type "type")=some true
structure KI(M:nN)(h:e9)(C:bG):Prop where
 obj:∃jU DF cd eW,h.get? C=some ⟨jU,DF,.cls cd,eW⟩/\cd.hasDel=false/\cd.mro.isEmpty=false
 made:fD M h (amo<|.ref C) (some "list.__new__")
 base:fD M h (Bind.staticBase<|.ref C) (.ref C)
 self:fD M h (isSubtype (.ref C)<|.ref C) true
 top:fD M h (isSubtype (.ref C)<|.type "list") true
 call:fD M h (specialOf (.ref C) "__call__") (some<|.builtin "type.__call__")
 typ:fD M h (tQ (.ref C)<|.type "type") true
variable{t:jD}
def aeA(X:t.In f)(e:Sd t b h j d eW):KI M f b:=by
 have g:=e.at_;have i:E6 t b=some d:=by unfold E6;rw[g]
 have p:fD M f (E9<|.ref b) d.mro:=(Rk X i).andThen .now;refine mu e.mro λr u l=>?_
 have made:fD M f (amo<|.ref b) (some "list.__new__"):=by
  intro a q c s k m;refine ak<|p a _ c s k ?_;refine J l<|ak<|ak<|ak<|ak<|zI (k _ _<|X _ _ g)<|aK ?_;exact bH amh<|J e.new<|aK<|aK<|aK m
 have n:d.mro.isEmpty=false:=J l rfl;refine⟨⟨h,j,d,eW,X _ _ g,e.del,n⟩,made,?_,Rl X ?_,Rl X ?_,looks_specialIn X e.call,looks_instIn X e.inst⟩
 .intro a q c s k m;refine ak<|p a _ c s k ?_;exact J l<|ak<|ak<|ak<|made a _ c s k<|aK<|aK<|aK m
 .unfold Rm;rw[i,Q6,cE (by rw[n];decide),e.self]
 unfold Rm;exact J i<|J (Q6 ..)<|J (cE (by rw[n];decide))<|J e.top rfl
noncomputable abbrev Dj(a b:bG):Obj:={cls:=.ref a,dict:=some b,data:=.seq #[]}
def aef:splitId "list.__new__"=some ("list","__new__"):=bC
def aee:Ra "list.__new__"=some .builtinFn:=bC
def aed(a)(rest:List aF):zz "list.__new__" ⟨a::rest,[]⟩:=au
def aeW{a:J0}{rest:List aF}(Y:KI (model e f) b d)(s:h (.ok (.ret (.ref (b.objs.size+1)))) ⟨(b.push xF).push (Dj d b.objs.size),j,k,l,a⟩):
 nQ (model e f) m (.call (.builtin "list.__new__") ⟨.ref d::rest,[]⟩) h ⟨b,j,k,l,a⟩:=by
 obtain⟨⟨t,u,v,eW,c,aA,w⟩,made,g,self,i,call,x⟩:=Y;refine codeAny_call_builtin_code (amz _ bC) ?_;unfold aoa;rw[aee,aef];have here:fD _ b (Bind.madeHere "list.__new__" _) ():=g.andThen<|made.andThen<|zo<|by simp only[Option.map_some,bne_self_eq_false,Bool.false_eq_true,if_false]
 have args:fD (model e f) b (match QZ "list.__new__" with|some sig=>Ju "list.__new__" sig ⟨.ref d::rest,[]⟩|none=>pure ()) ():=by
  have n:=aed (.ref d) rest;rcases q:QZ "list.__new__" with _|sig
  .exact .now
  simp only[zz,q] at n;show fD _ _ (Ju "list.__new__" sig ⟨.ref d::rest,[]⟩) ();exact J n<|.now
 have p:fD (model e f) b (isType<|.ref d) true:=(hP c).andThen .now;refine P9 rfl<|ak<|p.at<|wn av<|ak<|i.at<|wn av<|ak<|g.at<|ak<|made.at<|wn bC<|args.at ?_;refine codeAny_builtin_stack F.entry_list_new rfl λy st=>?_
 rw[e6 F.plain_list_new _]
 dsimp only
 refine J owner_list_new<|ak<|p.at<|wn av<|ak<|i.at<|wn av<|ak<|aK<|wn (λr=>nomatch (show false=true from r)) ?_;refine ak<|ak<|Ff<|aK ?_;exact by
  refine ak ?_;refine ak<|Ff<|ak<|ak<|zH (fZ _<|fZ _ c)<|aK ?_;rw[aA];refine aK<|aK ?_;rwa [f5]
def aez{g:J0}{rest:List aF}(Y:KI (model f h) b d)(p:fD (model f h) b (Rt (.ref d) "__init__") (some j))(q:∀self,fD (model f h) b (bindSpecial j self) (j,[self]))(r:nQ (model f h) (l.under (.builtin "type.__call__" ⟨.ref d::rest,[]⟩)) (.call j ⟨.ref (b.objs.size+1)::rest,[]⟩) (InitBack (b.objs.size+1) m) ⟨(b.push xF).push (Dj d b.objs.size),n,s,x,g⟩):
 nQ (model f h) l (.call (.ref d) ⟨rest,[]⟩) m ⟨b,n,s,x,g⟩:=by
 have t:=Y;obtain⟨⟨A,B,u,eW,i,aA,v⟩,made,D,self,E,call,w⟩:=Y;refine ip<|nd_load i ?_;show aE _ _ (callAny.viaDunder _ _) _ _ _;refine ak<|call.at ?_
 dsimp only
 refine J (tc_bind ..)<|ak<|aK<|ak<|aK ?_;refine aK<|And.intro rfl ?_;refine codeAny_call_builtin_at (amz _ bC) entry_typeCall<|il tc_kind tc_split w (tc_args _ _ _) ?_;have F:fD (model f h) b (E9<|.ref d) u.mro:=((hP i).andThen .now).andThen .now
 repeat(first|with_reducible refine wn (by rw[v];exact gX) ?_|with_reducible refine pX ?_|lk)
 refine aeW t ?_;have k:∀c o,b.get? c=some o->((b.push xF).push<|Dj d b.objs.size).get? c=some o:=λc o e=>fZ _<|fZ _ e
 have y:((b.push xF).push<|Dj d b.objs.size).get? (b.objs.size+1)=some (Dj d b.objs.size):=by heap_get
 have G:fD (model f h) _ (zF<|.ref _) _:=(hP y).andThen .now;have H:=self.keeps k;have K:=p.keeps k;have L:=(q<|.ref<|b.objs.size+1).keeps k
 repeat(first|with_reducible refine pX ?_|lk)
 refine codeAny_mono r λz M a=>?_
 obtain e|(N|_|_|_):=z<;>first|exact a|exact a.elim|skip
 obtain⟨rfl,a⟩:=a;exact aK<|aK a
structure GM(g:G):Prop where
 plain:∀n,lP n->n≠236->makesIn g.K n=true
 acc:∃jU DF cd eW,Sd g.K 236 jU DF cd eW
 init:∀n i,gU.lookup n=some i->i<1000/\gZ g.K (.ref n) "__init__"=some (some<|.ref i)/\B5 g.K (.ref i)=some (.type "function")
def lp(c:b≠236)(a):instObj b a=rV b a [] 0:=by
 unfold rV;exact J (jO c) rfl
def aL.u'(a:aL d)(i:lP b)(g:Qx)(tk:Nat):cM a:=
 let f:=(a.new xF g tk).toaL.new (rV b a.aC [] 0) g tk
 have j:f.aC=a.aC+2:=by show((a.s.heap.push _).push _).objs.size=_;rw[f5,f5]
 have fG:f.o a.aC=some xF:=fZ _<|g_ _ rfl
 have g1:f.o (a.aC+1)=some (rV b a.aC [] 0):=by
  have:=g_ (a.s.heap.push xF) (show(rV b a.aC [] 0).isFreed=false by unfold rV anW;cases b==236<;>rfl)
  rwa [f5] at this
 have h:∀c∈[a.aC,a.aC+1],a.aC<=c/\c<a.aC+2:=λc e=>by
  obtain rfl|e:=cQ.mp e
  .exact⟨aS _,tM av⟩
  exact J (dK.mp e) ⟨gy _,f6 _⟩
 cM.adopt (a:=a) ⟨f.toaL,(a.new xF g tk).le.bS f.le⟩ (o:=.inst b [] []) (a.aC+1) [a.aC,a.aC+1] (λc e=>⟨a.fresh (h c e).1,by show c<f.aC;rw[j];exact(h c e).2⟩) (λc e=>(h c e).1)
  ⟨a.aC,#[],0,[],0,by rw[r6];exact Cy (by simp),Cy (by simp),by rw[r6];exact kI<|f6 _,b9 _,b9 _,i,fG,by rw[r6];exact g1,rfl,rfl⟩
def alA(a)(args):(amy "type.__call__" ⟨.ref a::args,[]⟩).weight=1/\(amy "type.__call__" ⟨.ref a::args,[]⟩).cUnits=1:=⟨rfl,rfl⟩
def aeJ{X:aF->bf->Prop}(t:N<1000)(u:lP b)(v:f.frames=some k)(aU:oN f j)(w:oO g m j)(ok:d_ a k)(y:a.b4 as h)(i:N7 m b N as a.W n)(z:dc a n K):
 nQ g.M (f.under<|.builtin "type.__call__" ⟨.ref b::h,[]⟩) (.call (.ref N) ⟨.ref (a.aC+1)::h,[]⟩) (InitBack (a.aC+1) λs l=>match s with|.ok (.ret A)=>K A l|.ok _=>False|.error e=>X e l) {a.s with heap:=(a.s.heap.push xF).push (rV b a.aC [] 0)}:=by
 let c:=a.u' u a.s.drawn a.s.toks;have p:c.c.bW (H a.W)=a.aC+1:=r6;have q:H c.W=H a.W+1:=by show(a.W++[_]).length=_;exact J bq rfl
 have B:l_ (f.under<|.builtin "type.__call__" ⟨.ref b::h,[]⟩) j:=by
  obtain⟨D,E⟩:=alA b h;exact⟨aU.h,by show f.depth+_+3*j+10<_;rw[D];exact Gh aU.d rfl,by show f.units+_+10*j+50<_;rw[E];exact Gh aU.u rfl⟩
 refine w N (f.under<|.builtin "type.__call__" ⟨.ref b::h,[]⟩) k t v B c.toaL (.loc (H a.W)::as) [] _ [] _ cI _ (ok.le c.le λU U i=>i) ⟨⟨J q<|f6 _,J p rfl⟩,y.mono c.le.le⟩ ⟨rfl,rfl⟩ i (λx F=>?_) gj.no;obtain⟨G,L⟩:=F;have r:=x.bw;rw[G] at r;refine⟨r,dc.dB (d:=.loc<|H a.W) (z.le c.le) x.tocM (⟨?_,?_⟩) L⟩
 .exact J q<|f6 _
 exact J p rfl
structure Kx(g:G):Prop where
 spec:specialIn g.K (.ref 180) "__get__"=some (some<|.builtin "function.__get__")
 takes:takesIn g.K (.ref 180)=some false
 look:∃o fd,g.K.lookup 180=some o/\o.data=.func fd
def Hs(a:lP b):b=152\/b=236\/b=384:=by
 unfold lP gU at a;rw[nM] at a;rcases ao:b==152 with _|_
 .rw[ao,nM] at a;rcases aA:b==236 with _|_
  .rw[aA,nM] at a;rcases bL:b==384 with _|_
   .rw[bL] at a;contradiction
   exact .inr<|.inr<|ck bL
  exact .inr<|.inl<|ck aA
 exact .inl<|ck ao
@[elab_as_elim] def ahE(p:a.V A B)(c:pg F a.W A "push" k)(q:∀b f d h j l m n,b<H a.W->a.W[b]?=some (.inst 236 f d)->k7 g.w.params a.c (H a.W) a.s.heap b 236 f d h j l m n->k (λas=>F 180 (.loc b::as))->u (.ref (a.c.bW b))):u B:=by
 obtain _|_|_|_|s|_|_|b|b|⟨b,x,t,v⟩:=A<;>first|exact bO c|skip
 .exact aW c.1 (by unfold IT;decide+kernel)
 .obtain⟨r,rfl⟩:=p;obtain⟨o,e,c⟩:=ez (λc=>c) c;obtain d|⟨w,f,d⟩|_|_:=o<;>first|exact bO c|skip
  .exact aW c.1 (by unfold NZ;decide+kernel)
  refine vM (a.R.objs b _ e) λh j l m n I=>?_
  replace c:b7 _ _ _:=c;obtain rfl|rfl|rfl:=Hs I.cB
  .rw[show mK.lookup _=none by decide+kernel] at c;exact aW c.1 av
  .rw[show mK.lookup _=some 180 by decide+kernel] at c;exact q b f d h j l m n r e I c
  rw[show mK.lookup _=none by decide+kernel] at c;exact aW c.1 av
 .refine aW c.1 λi=>?_
  obtain⟨_,i⟩|⟨_,i⟩:=i
  .exact aW i bC
  exact aW i bC
 exact aW c.2.1 bC
def aj6{aA:aI}(B:gP g)(P:Kx g)(T:∀e,rO i ("push":Str) z.env e=e)(eH:cD z i j.v)(gB:cD z aA l.v):cD z (.Call (.Attribute i ("push":Str) m) [.Starred aA L] [] pos) (CW z.cf j l):=λa r Q Z K X F h dY n7=>by
 refine J (Ar ..)<|J (T ..)<|ak<|eH a r _ _ _ _ F h (λx q=>ak<|j_ ?_) n7;refine ahE x.bw q λn iF ds kh u c cY DC iu aoJ I q=>?_
 unfold xH;refine J (show zC _ _ _=false from rfl)<|ak<|fT ?_;refine vL (B.N6 236 "push" 180 bC) λf1 f2 U4 f4 T'=>?_
 have V:ix g.K 236 (some {cls:=.type "dict",data:=.dict u c}) ("push")=some (.bind (.builtin "function.__get__")<|.ref 180):=by
  have aoR:getL ("push") u.toList=some none:=by
   obtain f|⟨d,v,f,_⟩:=gG.look I.fl
   .exact f.2
   rw[gG.qe I.fl T'] at f;contradiction
  refine aG (B.mro 236 I.cB) λcd H U=>?_
  have t:=B.dict 236 I.cB;unfold Rd at t;rw[H] at t;have t:cd.hasDict=true:=t;have cu:PySem.W.ownOf cd (some {cls:=.type "dict",data:=.dict u c}) ("push")=some none:=by unfold PySem.W.ownOf;rwa [dI t]
  have B {α β:Type} {o:Option α} {f:α->Option β} {x y} (h:o=some x) (k:f x=y):o.bind f=y:=J h k;exact B H<|B f1<|B P.spec<|B P.takes<|B cu<|cE (by rw[show copiedNames.contains _=false from bC];exact gX)
 refine ak<|aaF x.c8 I.acc (B.get 236 I.cB).1 V (B.get 236 I.cB).2<|pX<|fn_get x.c8 f2 ?_;refine aK<|aK ?_;let b:=x.toaL.new (i' (.ref 180)<|.ref<|x.c.bW n) x.s.drawn<|x.s.toks+1;have G_:b.o x.aC=some _:=x.toaL.ku rfl _ _;refine ak<|aK ?_;refine m9 P.look λof fd dj dh=>ks_call (P:=λh=>h.get? x.aC=some (i' (.ref (180:Nat))<|.ref<|x.c.bW n)/\g.K.In h) rfl (λh n8=>⟨.boundFrame,.inr<|.inr rfl,λA Q E s M q=>?_⟩) ?_
 .refine ak (zH (M _ _ n8.1) ?_);refine ak<|zH (M _ _<|n8.2 _ _ dj) ?_;rw[dh];exact aK q
 have N:=x.le.bS b.le;refine ks_lone<|gB b.toaL r _ _ _ _ (F.to N) q (λy q=>?_)<|n7.le N;refine d0 (c9 y.bw) q λp ds us ao2 W c O q=>?_
 have yp:y.s.TypeIs (.ref p) "tuple":=⟨_,c,rfl⟩;refine ak<|zJ yp PySem.F.slot_tuple_iter.lookup<|aK ⟨rfl,?_⟩;refine iZ<|aou p (.inr rfl) c rfl rfl (λfM G Y=>?_)<|J cK<|J O.cg<|gq W;let w:=y.toaL.grow fM G Y;have R:y.o x.aC=some (i' (.ref 180)<|.ref<|x.c.bW n):=by
  refine aG (y.le.keep _ _ (x.toaL.fresh<|aS _) (λh=>h) G_) λeW wD S=>?_
  obtain⟨u,n,S⟩|rfl:=S
  .contradiction
  exact wD
 refine⟨⟨G _ _ R,w.c8⟩,?_⟩;refine pX<|ks_codeAny_call_bound (G _ _ R) ?_;have D:=(b.le.bS y.le).bS w.le;refine z.qR 180 z.A z.fr av z.qT z.aU.ok w.toaL (.loc n::ds) [] _ [] _ cI _ ((F.ok.le x.le λU U h=>h).le D λU U h=>h) ⟨⟨bZ iu D.le.N,aZ kJ (D.le.bW n iu).symm⟩,O.mono w.le.le⟩ ⟨rfl,rfl⟩ q ((dY.le x.le).le D) gj.no
def aeY{i}(hit:y.heap.IsTupleIter b e N)(k:y.heap.IsTuple e i)(l:i[N]?=some x) (m:∀d,d.IsTupleIter b e (N+1)->j6 b y.heap d->f x {y with heap:=d}):
 aE g.M h (Qt<|.ref b) f j y:=by
 refine dm (id hit) λo c n a=>?_
 obtain⟨r,p,_,s,q⟩:=k;refine ak (xM hit.typeIs QE
  (pY QE hit.typeIs amF ?_ (amC _)))
 show aE _ _ (field _ 0>>=_) _ _ y;refine ak<|gF c a rfl<|wn gX ?_;refine ak<|gF c a rfl ?_;refine ak<|mW p q ?_
 dsimp only
 rw[show i[(N:Int).toNat]?=_ from l];refine ak<|RC c a (by simp)<|aK ⟨x,rfl,aK<|m _ ?_<|rI ..⟩;exact⟨_,JB _ c (h5 (E0 a _)),(anV ..).trans n,by
  rw[E0 a];simp[lG]⟩
def aeX{a}(l:d.handled=none)(hit:y.heap.IsTupleIter f h N)(m:y.heap.IsTuple h a)(n:a[N]?=none) (p:∀b e,zg f y.heap b->(∃o,b.get? e=some o/\o.cls=.type "StopIteration")->j (.ref e) {y with heap:=b}):
 aE g.M d (Qt<|.ref f) k j y:=by
 refine dm (id hit) λo c s i=>?_
 obtain⟨t,q,_,u,r⟩:=m;refine ak (xM hit.typeIs QE
  (pY QE hit.typeIs amF ?_ (amC _)))
 show aE _ _ (field _ 0>>=_) _ _ y;refine ak<|gF c i rfl<|wn gX ?_;refine ak<|gF c i rfl ?_;refine ak<|mW q r ?_
 dsimp only
 rw[show a[(N:Int).toNat]?=_ from n];refine ak<|mV<|ak<|RC c i (by simp) ?_;refine ak<|ak<|l9 ?_<|by size_fits
 refine ak<|tS (by first|rfl|rfl) ?_
 refine l9 ?_<|by size_fits
 refine ak<|wpAny_handled ?_;first|rw[show d.in1.handled=none from l]|exact J l rfl
 refine ak<|aK<|wpAny_throw ?_;exact p _ _ (((rI ..).extBut.push _).push _) ⟨_,g_ _ rfl,rfl⟩
structure zU(g:G)(A:fY)(I:bG)(T:List D->aL g->Prop):Prop where
 item:∀(b:aL g) (d:D) (l:List D) (K X:aF->bf->Prop),T (d::l) b->(∀v eH tk,j6 I b.s.heap eH->(∃o,eH.get? I=some o)->b.V d v->(∀dX:aL g,b.c.le b.W.length dX.c dX.W.length->dX.c.Fr I->dX.o I=eH.get? I->T l dX)->K v {b.s with heap:=eH,toks:=tk})->
  aE g.M A (Qt<|.ref I) K X b.s
 done:∀(b:aL g) (K X:aF->bf->Prop),T [] b->(∀fM e,zg I b.s.heap fM->(∃o,fM.get? e=some o/\o.cls=.type "StopIteration")->X (.ref e) {b.s with heap:=fM})->aE g.M A (Qt<|.ref I) K X b.s
 fr:∀(b:aL g) (l:List D),T l b->b.c.Fr I/\∃o cY,b.o I=some o/\o.data=.fields cY
 keep:∀(b dX:aL g) (l:List D),T l b->b.c.le b.W.length dX.c dX.W.length->dX.c.Fr I->dX.o I=b.o I->T l dX
def ml(c I:bG)(d g:List D)(a:aL b):Prop:=∃e f h,g=d.drop e/\a.s.heap.IsListIter I c e/\a.c.Fr I/\a.c.f c=some (eV f h)/\a.b4 d f
def GL(e:a.b4 b d)(f:[]=b.drop N):d.toArray[N]?=none:=by
 rw[gY];obtain c|⟨_,_,c,_⟩:=e.get N
 .exact c.2
 rw[drop_nil f] at c;contradiction
def acq(aU:b.handled=none):zU d b I (ml f I h) where
 item:=λg F s v X st w=>by
  refine x_ st λk l m i hit n a c=>?_
  obtain⟨p,y⟩:=drop_cons i;refine aG (c.at_ p) λt ev z=>?_
  exact Rx hit (gI<|g.R.cG _ _ a) (x:=t) (by rw[gY];exact ev) λA u B=>w t A g.s.toks B (u.imp λo j=>j.1) z λD le q e=>u.elim λo j=>⟨k+1,l,m,y,⟨o,e.trans j.1,j.2⟩,q,le.f _ _ a,c.mono le⟩
 done:=λg v X st E=>by
  refine x_ st λk l m i hit n a c=>?_
  exact ky aU hit (gI<|g.R.cG _ _ a) (GL c i) E
 fr:=λg s st=>by
  obtain⟨k,l,m,i,⟨o,r,G,p⟩,n,a,c⟩:=st;exact⟨n,o,_,r,p⟩
 keep:=λg D s st le q e=>by
  obtain⟨k,l,m,i,⟨o,r,j⟩,n,a,c⟩:=st;exact⟨k,l,m,i,⟨o,e.trans r,j⟩,q,le.f _ _ a,c.mono le⟩
def acr(aU:b.handled=none):zU d b I (SA f I h) where
 item:=λg F s v X st w=>by
  refine x_ st λk l m i hit n a c=>?_
  obtain⟨p,y⟩:=drop_cons i;refine aG (c.at_ p) λt ev z=>?_
  exact aeY hit (nq<|g.R.cG _ _ a) (x:=t) (by rw[gY];exact ev) λA u B=>w t A g.s.toks B (u.imp λo j=>j.1) z λD le q e=>u.elim λo j=>⟨k+1,l,m,y,⟨o,e.trans j.1,j.2⟩,q,le.f _ _ a,c.mono le⟩
 done:=λg v X st E=>by
  refine x_ st λk l m i hit n a c=>?_
  exact aeX aU hit (nq<|g.R.cG _ _ a) (GL c i) E
 fr:=λg s st=>by
  obtain⟨k,l,m,i,⟨o,r,G,p⟩,n,a,c⟩:=st;exact⟨n,o,_,r,p⟩
 keep:=λg D s st le q e=>by
  obtain⟨k,l,m,i,⟨o,r,j⟩,n,a,c⟩:=st;exact⟨k,l,m,i,⟨o,e.trans r,j⟩,q,le.f _ _ a,c.mono le⟩
def V4(p:ty="str_ascii_iterator"\/ty="str_iterator")(aU:b.handled=none):zU f b I (Sz ty x d I) where
 item:=λc F q r X st y=>by
  refine dm st λa g hit k=>?_
  obtain⟨i,z⟩:=drop_cons g;unfold ua at i;rw[d8] at i;refine aG (iQ.mp i) λl A B=>?_;subst B
  have t:(toS x).cps[a]?=some l:=(gY ..).trans A;have fin:∀j,j.IsStrIter I ty (toS x) d (a+1)->j6 I c.s.heap j->r (Value.str ⟨#[l]⟩ c.s.toks) {c.s with heap:=j,toks:=c.s.toks+1}:=λj u D=>
   y _ j _ D (u.imp λo h=>h.1) (mj (s:=[l]) _ (by show 1<=lim;decide)) λE le m e=>u.elim λo h=>⟨a+1,z,⟨o,e.trans h.1,h.2⟩,m⟩
  obtain rfl|rfl:=p
  .exact wpAny_nextOf_ascii_item hit t fin
  exact wpAny_nextOf_wide_item hit t fin
 done:=λc r X st v=>by
  refine dm st λa g hit k=>?_
  have w:(toS x).cps[a]?=none:=by
   have:=drop_nil g;unfold ua at this;rw[d8,an0] at this;exact(gY ..).trans this
  obtain rfl|rfl:=p
  .exact wpAny_nextOf_ascii_end aU hit w v
  exact wpAny_nextOf_wide_end aU hit w v
 fr:=λc q st=>by
  obtain⟨a,g,⟨o,n,G,i⟩,k⟩:=st;exact⟨k,o,_,n,i⟩
 keep:=λc E q st le m e=>by
  obtain⟨a,g,⟨o,n,h⟩,k⟩:=st;exact⟨a,g,⟨o,e.trans n,h⟩,m⟩
structure lb{g:G}(b:aL g)(e it:bG)(i:Int)(x:aF)(tk:Tok)(eH fM:e9):Prop where
 s1:j6 it b.s.heap eH
 acR:∃o,eH.get? it=some o
 out:hh fM e it (i+1) x b.aC
 tup:fM.get? b.aC=some {cls:=.type "tuple",data:=.seq #[.int i tk,x]}
 aC:fM.objs.size=b.aC+1
 keep:∀p o,p≠e->eH.get? p=some o->fM.get? p=some o
def QQ{T:List D->aL g->Prop}{i:Int}(MO:zU g s b T)(he:zj a.s.heap c b i e)(MR:c≠b)(st:T (f::j) a)(ni:∀x tk l m A,lb a c b i x tk l m->a.V f x->(∀d:aL g,a.c.le (H a.W) d.c (H d.W)->d.c.Fr b->d.o b=l.get? b->T j d)->E (.ref a.aC) {a.s with heap:=m,toks:=A}):
 aE g.M s (Builtin.«enumerate.__next__» ⟨[.ref c],[]⟩) (λfin B=>∃n,fin=.done (.ret n)/\E n B) K a.s:=by
 show aE _ _ (field _ 2>>=_) _ _ _;refine ak<|gF he rfl rfl ?_;refine ak (MO.item a f j _ _ st λx ux tk F abq D8 Pr=>?_);have G:=(F.2 c MR).trans he;refine ak<|gF G rfl rfl ?_;refine ak<|gF G rfl rfl ?_;refine ak<|Rw ?_;refine ak (tT G (by simp) λv5 L t=>?_);replace t:j6 c ux v5:=t;replace L:zj v5 c b _ e:=L;refine ak (tT L (by simp) λq M u=>?_);replace u:j6 c v5 q:=u;replace M:zj q c b _ e:=M;refine ak<|kx ?_;have v:zj (q.push {cls:=.type "tuple",data:=.seq #[.int i tk,x]}) c b _ e:=fZ _ M;have N:q.objs.size=a.aC:=J u.1<|J t.1<|J F.1 rfl;have W:(q.push {cls:=.type "tuple",data:=.seq #[.int i tk,x]}).get? a.aC=some {cls:=.type "tuple",data:=.seq #[.int i tk,x]}:=bH N<|g_ _ rfl;have X:(q.push {cls:=.type "tuple",data:=.seq #[.int i tk,x]}).objs.size=a.aC+1:=J (f5 ..)<|J N rfl;have Y:∀p o,p≠c->ux.get? p=some o->(q.push {cls:=.type "tuple",data:=.seq #[.int i tk,x]}).get? p=some o:=λp o Z nj=>fZ _<|u.extBut p o Z<|t.extBut p o Z nj
 generalize q.push {cls:=.type "tuple",data:=.seq #[.int i tk,x]}=MU at v W X Y;refine J N<|ak ?_;refine ak<|gF v rfl rfl<|aK ?_;refine ak<|mV ?_;refine ak<|gF v rfl rfl ?_;refine ak (tT v (by simp) λO P w=>?_);replace w:j6 c MU O:=w;replace P:zj O c b _ x:=P;refine ak ?_;refine ak (tT P (by simp) λQ R y=>?_);replace y:j6 c O Q:=y;replace R:hh Q c b _ x a.aC:=R;refine tT R (by simp) λS V z=>?_
 replace z:j6 c Q S:=z;replace V:hh S c b _ x a.aC:=V;have k:=λp o r h=>z.extBut p o r<|y.extBut p o r<|w.extBut p o r h
 exact ak<|zG<|aK ⟨_,rfl,ni x tk ux S _ ⟨F,abq,V,k _ _ (nP<|dJ he) W,J z.1<|J y.1<|J w.1<|J X rfl,λp o r h=>k p o r<|Y p o r h⟩ D8 Pr⟩
def Sx(f:List D->aL b->Prop)(e g:bG)(h:List D)(a:aL b):Prop:=∃(c:Nat) (d:List D) (i:aF),h=yi d c/\f d a/\zj a.s.heap e g c i/\a.c.Fr e
def Wm(a:qW d=true):∃e k b,d=.Tuple e k b:=(xB.mp a).elim λc a=>(Hw a).elim λk a=>a.elim λb a=>⟨c,k,b,a⟩
def acN(O:qW m=true)(u:zU j s.in1 e T)(P:c≠e):qA j s m ok [c,e] c (Sx T c e) where
 item:=λb d l K X st w=>by
  refine oW st λi g G v r a f=>?_
  obtain _|⟨FK,g⟩:=g
  .contradiction
  obtain⟨rfl,rfl⟩:=List.cons.inj v;obtain⟨z,XI,d2,A,R⟩:=u.fr _ _ r;have B:b.s.TypeIs (.ref c) "enumerate":=⟨_,a,rfl⟩;unfold qw;refine ak (xK (xM (name:=Q8 "__next__") B QB
   (pY QB B amD (QQ u a P r λx tk ux fM akw iK c7 Pr=>aK ?_) (amB _))))
  refine⟨_,rfl,?_⟩;refine z7 (Wm O) λes k p O=>?_
  rw[O];refine wpAny_letOwnedTupleGo_enum iK.out λQ Y H=>?_
  have S:c<b.aC:=dJ a;have cB:∀p x,¬(p=c\/p=e)->b.o p=some x->Q.get? p=some x:=λp x jT c7=>H.extBut _ _ (λq=>jT<|.inl q)<|iK.keep _ _ (λq=>jT<|.inl q)<|iK.s1.extBut _ _ (λq=>jT<|.inr q) c7
  have D:b.aC<=Q.objs.size:=by rw[H.1,iK.aC];exact gy _
  let t:aL j:=⟨b.c,b.W,{b.s with heap:=Q,toks:=akw},b.R.but (λp o n c=>cB p o (λq=>n (q.elim (λq=>q▸f) λq=>q▸z)) c) D⟩;have L:bJ (· ∈[c,e]) b t:=bJ.same rfl rfl (λp o U n c=>.ff<|cB p o (λq=>n (q.elim (λq=>by simp[q]) λq=>by simp[q])) c) D rfl rfl;have yo:t.c.Fr b.aC:=b.fresh<|aS _;have kq:t.o b.aC=some (qn [.int i tk,x] 0):=H.extBut _ _ (nP S) iK.tup;let b2:=(⟨t,bJ.same rfl rfl (λU U U U c=>.ff c) (aS _) rfl rfl⟩:cM t);let M:aL j:=⟨t.c.put b.aC<|qn [.int i tk,x] 0,t.W,t.s,t.R.put yo kq⟩;have E:bJ (· ∈[c,e]) b M:=⟨⟨λy o h=>(bP.q9 (N:=0) yo).f y o h,λU U=>rfl,aS _⟩,λy h v=>⟨(bP.wB<|kI v).trans h.1,h.2⟩,L.keep,L.size,L.gens,L.os⟩;have acM:e<b.aC:=dJ A;have hit:M.o e=ux.get? e:=by
   obtain⟨XD,ao⟩:=iK.acR;rw[ao];exact H.extBut _ _ P.symm<|iK.keep _ _ P.symm ao
  exact w M _ E rfl ⟨by show 2<=lim;decide,b.aC,[.int i tk,x],0,rfl,bP.ny,⟨tk,rfl⟩,c7.mono E.le,rfl⟩ ⟨i+1,g,x,rfl,Pr M E.le (E.fr _ z acM) hit,Y,E.fr _ f S⟩
 done:=λb K X st w=>by
  refine oW st λi g G v r a f=>?_
  obtain _|⟨FK,g⟩:=g
  .have B:b.s.TypeIs (.ref c) "enumerate":=⟨_,a,rfl⟩;refine iZ ?_;unfold qw;refine ak (xK (xM (name:=Q8 "__next__") B QB
    (pY QB B amD ?_ (amB _))))
   show aE _ _ (field (.ref c) 2>>=_) _ _ _;refine ak<|gF a rfl (x:=.ref e) rfl ?_;refine ak (u.done b _ _ r λfM x V Z=>?_);refine aG Z λo cu jS=>?_
   refine ak<|Fg (T:="StopIteration") (b:=true) ⟨o,cu,jS⟩ i2 ?_;exact aK λD=>w (b.ex (u.fr _ _ r).1 V D b.s.toks) (bJ.ex (u.fr _ _ r).1 V D b.s.toks<|by simp) rfl
  contradiction
 keep:=λb dX l ch st x W VR=>by
  refine oW st λi g G v r a f=>?_
  obtain⟨z,XI,d2,A,R⟩:=u.fr _ _ r;exact⟨i,g,G,v,u.keep b dX g r x.le (x.fr e z<|dJ A) (((x.keep e XI z (W e<|by simp) A).cell R).trans A.symm),(x.keep c _ f (W c<|by simp) a).cell rfl,x.fr c f<|dJ a⟩
 self:=λb l K X st w=>by
  refine oW st λi g G v r a f=>?_
  exact aoy a w
structure F6(z TI f_ i l:bG):Prop where
 TIz:TI≠z
 TOz:f_≠z
 sH:i≠z
 TITO:TI≠f_
 mg:TI≠i
 z6:f_≠i
 we:l≠z
 WU:l≠f_
 li:l≠i
def al5{i:bG}(D:F6 d f c i l)(r:pR y.heap d f c .none)(MI:oB y.heap f (.ref i) (.ref i))(MJ:oB y.heap c A n)(eH:y.heap.IsListIter i l k)(gC:y.heap.IsList l xs)(c7:xs[k]?=some x) (yt:xs[k+1]?=some j) (ni:∀h,pR h d f c (lG y.heap.objs.size)->oB h c x j->h.IsListIter i l (k+2)->oB h y.heap.objs.size x j->h.objs.size=y.heap.objs.size+1->
 (∀b o,b≠d->b≠c->b≠i->y.heap.get? b=some o->h.get? b=some o)->K (.ref y.heap.objs.size) {y with heap:=h}):
 aE g.M B (Builtin.«zip.__next__» ⟨[.ref d],[]⟩) (λfin s=>∃m,fin=.done (.ret m)/\K m s) F y:=by
 show aE _ _ (field _ 2>>=_) _ _ _;refine ak<|gF r rfl rfl ?_;refine ak<|gF r rfl rfl ?_;refine ak<|mW MI rfl ?_;refine ak<|ak<|gF r rfl rfl<|aK ?_;refine ak<|mV ?_;refine ak<|gF r rfl rfl ?_;refine ak (tT r (by simp) λux M p=>?_);replace M:pR ux d f c .ellipsis:=M;refine ak<|ak<|ak<|Ry ?_;refine ak (Rx (eH.extBut p.extBut D.sH) (gC.extBut p.extBut D.we) c7 λv5 aaR t=>aK ?_);have R:=t.extBut _ _ D.z6<|p.extBut _ _ D.TOz MJ;refine ak<|mW R rfl ?_;refine ak (k2 R λabJ N u=>?_);replace N:oB abJ c x n:=N;refine ak<|zG<|aK ?_;refine ak<|ak<|Ry ?_;refine ak (Rx (aaR.extBut u.extBut D.z6.symm)
  (((gC.extBut p.extBut D.we).extBut t.extBut D.li).extBut u.extBut D.WU) yt λMU aaS v=>aK ?_)
 have S:=v.extBut _ _ D.z6 N;refine ak<|mW S rfl ?_;refine ak (k2 S λq w z=>?_);replace w:oB q c x j:=w;refine ak<|zG<|aK<|aK ?_;refine ak<|mW w rfl ?_;refine ak<|kx ?_;have T:q.objs.size=y.heap.objs.size:=J z.1<|J v.1<|J u.1<|J t.1<|J p.1 rfl;have V:=z.extBut _ _ D.TOz.symm<|v.extBut _ _ D.sH.symm<|u.extBut _ _ D.TOz.symm<|t.extBut _ _ D.sH.symm M;have abv:∀b o,b≠d->b≠c->b≠i->y.heap.get? b=some o->q.get? b=some o:=λb o a E G e=>
  z.extBut _ _ E (v.extBut _ _ G<|u.extBut _ _ E<|t.extBut _ _ G<|p.extBut _ _ a e)
 have W:=dJ V;refine ak ?_;have Z:pR (q.push {cls:=.type "tuple",data:=.seq #[x,j]}) d f c .ellipsis:=fZ _ V;refine ak (tT Z (by simp) λabK O P=>?_);replace O:pR abK d f c _:=O;refine tT O (by simp) λH L Q=>?_
 replace L:pR H d f c _:=L;have up:∀b o,b≠d->q.get? b=some o->H.get? b=some o:=λb o a e=>Q.extBut _ _ a<|P.extBut _ _ a<|fZ _ e
 have X:=Q.extBut _ _ (nP W)<|P.extBut _ _ (nP W)<|g_ _ rfl;have Y:H.objs.size=q.objs.size+1:=J Q.1<|J P.1<|J (f5 ..) rfl;rw[T] at L X Y;refine aK ⟨_,rfl,?_⟩;exact J T<|ni H L (up _ _ D.TOz w) ((aaS.extBut z.extBut D.z6.symm).at λo e=>up _ o D.sH e) X Y λb o a E G e=>up b o a<|abv b o a E G e
def al4{i:bG}(G:l.handled=none)(D:F6 d f c i j)(t:pR y.heap d f c .none)(S:oB y.heap f (.ref i) (.ref i))(T:oB y.heap c n s)(H:y.heap.IsListIter i j k)(B:y.heap.IsList j xs)(V:xs[k+1]?=none) (K:∀h e,(∀b o,b≠d->b≠c->b≠i->y.heap.get? b=some o->h.get? b=some o)->(∃o,h.get? e=some o/\o.cls=.type "StopIteration")->m (.ref e) {y with heap:=h}):
 aE g.M l (Builtin.«zip.__next__» ⟨[.ref d],[]⟩) A m y:=by
 show aE _ _ (field _ 2>>=_) _ _ _;refine ak<|gF t rfl rfl ?_;refine ak<|gF t rfl rfl ?_;refine ak<|mW S rfl ?_;refine ak<|ak<|gF t rfl rfl<|aK ?_;refine ak<|mV ?_;refine ak<|gF t rfl rfl ?_;refine ak (tT t (by simp) λux w a=>?_);replace w:pR ux d f c .ellipsis:=w;refine ak<|ak<|ak<|Ry ?_;cases L:xs[k]? with
 |none=>
  refine ak (ky G (H.extBut a.extBut D.sH) (B.extBut a.extBut D.we) L λv5 e p E=>?_);refine aG E λjy q u=>?_
  have M:=p _ _ D.sH.symm w;have F:e≠d:=λx=>by subst x;rw[M] at q;cases q;simp at u
  refine tT M (by simp) λN U r=>K N e (λb o v U z x=>r.extBut _ _ v<|p _ _ z<|a.extBut _ _ v x) ⟨jy,r.extBut _ _ F q,u⟩
 |some x=>
  refine ak (Rx (H.extBut a.extBut D.sH) (B.extBut a.extBut D.we) L λv5 W p=>aK ?_);have O:=p.extBut _ _ D.z6<|a.extBut _ _ D.TOz T;refine ak<|mW O rfl ?_;refine ak (k2 O λN Z r=>?_);refine ak<|zG<|aK ?_;refine ak<|ak<|Ry ?_;refine ak (ky G (W.extBut r.extBut D.z6.symm)
   (((B.extBut a.extBut D.we).extBut p.extBut D.li).extBut r.extBut D.WU) V λMU e P E=>?_)
  refine aG E λjy q u=>?_
  have Q:=P _ _ D.sH.symm<|r.extBut _ _ D.TOz.symm<|p.extBut _ _ D.sH.symm w;have F:e≠d:=λx=>by subst x;rw[Q] at q;cases q;simp at u
  refine tT Q (by simp) λX U R=>K X e (λb o v Y z x=>R.extBut _ _ v<|P _ _ z<|r.extBut _ _ Y<|p.extBut _ _ z<|a.extBut _ _ v x) ⟨jy,R.extBut _ _ F q,u⟩
def lK.wg(c:lK o f)(g:∀b d,o.data≠.dict b d):f=some o:=by
 refine aG c λeW e a=>?_
 obtain⟨b,d,a⟩|a:=a
 .exact aW a<|g b d
 rw[e,a]
structure K2(g:G)(A:fY)(z TI f_:bG)(S:List bG)(T:List D->aL g->Prop):Prop where
 fO:z∈S
 step:∀(b:aL g) (d:D) (l:List D) (K:Option aF->bf->Prop) (X:aF->bf->Prop),T (d::l) b->(∀fM CQ LN x y,d=.tup [CQ,LN]->pR fM z TI f_ (lG b.aC)->oB fM b.aC x y->fM.objs.size=b.aC+1->(∀c o,c∉S->b.o c=some o->fM.get? c=some o)->b.V CQ x->b.V LN y->
  (∀dX:aL g,b.c.le b.W.length dX.c dX.W.length->(∀c∈TI::S,dX.c.Fr c)->(∀c o,c≠z->fM.get? c=some o->dX.o c=some o)->pR dX.s.heap z TI f_ .none->T l dX)->K (some (.ref b.aC)) {b.s with heap:=fM})->aE g.M A (qw (.ref z)) K X b.s
 done:∀(b:aL g) (K:Option aF->bf->Prop) (X:aF->bf->Prop),T [] b->(∀fM,(∀c o,c∉S->b.o c=some o->fM.get? c=some o)->b.aC<=fM.objs.size->K none {b.s with heap:=fM})->aE g.M A (qw<|.ref z) K X b.s
 fr:∀(b:aL g) (l:List D),T l b->pR b.s.heap z TI f_ .none/\∀c∈TI::S,b.c.Fr c/\∃o,b.o c=some o/\∀es n,o.data≠.dict es n
 keep:∀(b dX:aL g) (l:List D),T l b->b.c.le b.W.length dX.c dX.W.length->(∀c∈TI::S,dX.c.Fr c/\dX.o c=b.o c)->T l dX
def Wx(D:qW B=true)(H:K2 m F s A c j L):qA m F B ok (A::j) s L where
 item:=λb d l K X st r=>by
  obtain⟨O,t⟩:=H.fr _ _ st;refine H.step b d l _ _ st λP CQ LN x y E a1 a2 t6 vN sR YM R=>⟨_,rfl,?_⟩
  subst E;refine z7 (Wm D) λes k p D=>?_
  rw[D];refine wpAny_letOwnedTupleGo_zip a1 λG S z=>?_
  have T:s<b.aC:=dJ O;have u:∀a o,a∉j->b.o a=some o->G.get? a=some o:=λa o g e=>z.extBut _ _ (λq=>g<|q▸H.fO)<|vN _ _ g e
  have v:b.aC<=G.objs.size:=by rw[z.1,t6];exact gy _
  have V':∀a∈j,b.c.Fr a:=λa g=>(t a<|.tail _ g).1
  let i:aL m:=⟨b.c,b.W,{b.s with heap:=G},b.R.but (λp o n e=>u p o (λq=>n<|V' p q) e) v⟩;have Q:i.c.Fr b.aC:=b.fresh<|aS _;have kq:i.o b.aC=some (qn [x,y] 0):=z.extBut _ _ (nP T) a2;let M:aL m:=⟨i.c.put b.aC<|qn [x,y] 0,i.W,i.s,i.R.put Q kq⟩;have w:bJ (· ∈A::j) b M:=⟨⟨λy o h=>(bP.q9 (N:=0) Q).f y o h,λU U=>rfl,aS _⟩,λy h V=>⟨(bP.wB<|kI V).trans h.1,h.2⟩,λa o U n e=>.ff<|u a o (λq=>n<|.tail _ q) e,v,⟨λU U h=>h,λh=>h⟩,rfl⟩;exact r M _ w rfl ⟨by show 2<=lim;decide,b.aC,[x,y],0,rfl,bP.ny,sR.mono w.le,YM.mono w.le,rfl⟩<|R M w.le (λa g=>w.fr a (t a g).1 (by obtain⟨_,o,e,_⟩:=t a g;exact dJ e)) (λa o g e=>z.extBut _ _ g e) S
 done:=λb K X st r=>by
  obtain⟨O,t⟩:=H.fr _ _ st;refine H.done b _ _ st λP u v=>?_
  exact r ⟨b.c,b.W,{b.s with heap:=P},b.R.but (λp o n e=>u p o (λq=>n (t p<|.tail _ q).1) e) v⟩ (bJ.same rfl rfl (λa o U n e=>.ff<|u a o (λq=>n<|.tail _ q) e) v rfl rfl) rfl
 keep:=λb W l ch st x Y Z=>H.keep b W l st x.le λa g=>by
  obtain⟨f,o,e,E⟩:=(H.fr _ _ st).2 a g;exact⟨x.fr a f<|dJ e,((x.keep a o f (Y a g) e).wg E).trans e.symm⟩
 self:=λb l K X st r=>kz (H.fr _ _ st).1 r
inductive m4{g:G}(z TI f_ Hl Ho dj dh:bG)(ds es l:List D)(b:aL g):Prop
 |mk (k:Nat) (cY:List aF) (us:List aF) (n:Nat) (m:Nat) (u:aF) (w:aF) (eH:b.c.f dj=some (eV cY n)) (gB:b.c.f dh=some (eV us m)) (sR:b.b4 ds cY) (YM:b.b4 es us) (gC:l=rG (ds.drop k) (es.drop k)) (fO:pR b.s.heap z TI f_ .none) (MI:oB b.s.heap TI (.ref Hl) (.ref Ho)) (MJ:oB b.s.heap f_ u w) (acT:b.s.heap.IsListIter Hl dj k) (aoW:b.s.heap.IsListIter Ho dh k) (D:ZipApart z TI f_ Hl Ho dj dh) (fr:∀c∈TI::[z,f_,Hl,Ho],b.c.Fr c)
def al8(a:h::j=rG b d):∃e f k l,b=e::k/\d=f::l/\h=.tup [e,f]/\j=rG k l:=by
 obtain _|⟨e,b⟩:=b
 .contradiction
 obtain _|⟨f,d⟩:=d
 .contradiction
 obtain⟨c,g⟩:=List.cons.inj (show h::j=.tup [e,f]::rG b d from a);exact⟨e,f,b,d,rfl,rfl,c,g⟩
def al9(a:[]=rG b d):b=[]\/d=[]:=by
 obtain _|⟨c,b⟩:=b
 .exact .inl rfl
 obtain _|⟨e,d⟩:=d
 .exact .inr rfl
 contradiction
def AP{a c:e9}(x:a.IsListIter I b N)(k:∀o,a.get? I=some o->c.get? I=some o):c.IsListIter I b N:=x.imp λo d=>⟨k o d.1,d.2⟩
def IE:∀b d,(Obj.data {cls:=e,data:=.seq f h})≠.dict b d:=λU U a=>nomatch a
def jv{a:List bG}{x:bG}(b:Nat)(d:c=x)(e:a[b]?=some x):c∈a:=d▸eU e
def al7{dj dh:bG}(aU:B.handled=none):K2 F B j l c [j,c,s,A] (λf b=>m4 j l c s A dj dh L M f b) where
 fO:=.head _
 step:=λb d f K X st dY=>by
  obtain⟨E,r,t,n,m,u,w,G,H,N,O,v,z,D,P,Q,R,g,S⟩:=st;refine F4 (al8 v) λkh db ds' aoK ao aA ahI v=>?_;subst ahI
  obtain⟨aa6,rfl⟩:=drop_cons ao.symm;obtain⟨hd2,rfl⟩:=drop_cons aA.symm;refine aG (N.at_ aa6) λx c7 D8=>?_
  refine aG (O.at_ hd2) λy yt OY=>?_
  refine wpAny_pyNext_zip_item g z D P Q R (xs:=r.toArray) (ys:=t.toArray) (gI<|b.R.cG _ _ G) (gI<|b.R.cG _ _ H) (by rw[gY];exact c7) (by rw[gY];exact yt) λfM a1 a2 t6 vN K3 nf SR=>?_
  refine dY fM kh db x y rfl a1 K3 nf (λi o a e=>SR i o (λq=>a<|jv 0 q rfl) (λq=>a<|jv 1 q rfl) (λq=>a<|jv 2 q rfl) (λq=>a<|jv 3 q rfl) e) D8 OY λdX le V p W=>⟨E+1,r,t,n,m,x,y,le.f _ _ G,le.f _ _ H,N.mono le,O.mono le,v,W,p _ _ g.TIz<|SR _ _ g.TIz g.TITO g.TIi1 g.TIi2 D,p _ _ g.TOz a2,AP t6 λo=>p _ o g.i1z,AP vN λo=>p _ o g.i2z,g,V⟩
 done:=λb K X st dY=>by
  obtain⟨E,r,t,n,m,u,w,G,H,N,O,v,z,D,P,Q,R,g,S⟩:=st;have Y:r.toArray[E]?=none\/t.toArray[E]?=none:=(al9 v).imp (λh=>GL N h.symm) λh=>GL O h.symm
  exact iZ (wpAny_pyNext_zip_end aU g z D P Q R (xs:=r.toArray) (ys:=t.toArray) (gI<|b.R.cG _ _ G) (gI<|b.R.cG _ _ H) Y λfM cB Z=>dY fM (λi o a e=>cB i o (λq=>a<|jv 0 q rfl) (λq=>a<|jv 1 q rfl) (λq=>a<|jv 2 q rfl) (λq=>a<|jv 3 q rfl) e) Z)
 fr:=λb f st=>by
  obtain⟨E,r,t,n,m,u,w,G,H,N,O,v,z,D,P,Q,R,g,S⟩:=st;refine⟨z,λi a=>⟨S i a,?_⟩⟩;simp only[cQ,BJ,or_false] at a;obtain rfl|rfl|rfl|rfl|rfl:=a
  .exact⟨_,D,IE⟩
  .exact⟨_,z,λU U q=>nomatch q⟩
  .exact⟨_,P,IE⟩
  .refine dm Q λo e U T=>?_;exact⟨o,e,λU U q=>nomatch T.symm.trans q⟩
  refine dm R λo e U T=>?_;exact⟨o,e,λU U q=>nomatch T.symm.trans q⟩
 keep:=λb dX f st le k=>by
  obtain⟨E,r,t,n,m,u,w,G,H,N,O,v,z,D,P,Q,R,g,S⟩:=st;have p:∀i o,i∈l::[j,c,s,A]->b.o i=some o->dX.o i=some o:=λi o a e=>(k i a).2.trans e
  exact⟨E,r,t,n,m,u,w,le.f _ _ G,le.f _ _ H,N.mono le,O.mono le,v,p _ _ (jv 1 rfl rfl) z,p _ _ (jv 0 rfl rfl) D,p _ _ (jv 2 rfl rfl) P,AP Q λo=>p _ o<|jv 3 rfl rfl,AP R λo=>p _ o<|jv 4 rfl rfl,g,λi a=>(k i a).1⟩
inductive m3{g:G}(z TI f_ i dj:bG)(ds l:List D)(b:aL g):Prop
 |mk (k:Nat) (cY:List aF) (n:Nat) (u:aF) (w:aF) (eH:b.c.f dj=some (eV cY n)) (sR:b.b4 ds cY) (gC:l=uG (ds.drop k) none) (fO:pR b.s.heap z TI f_ .none) (MI:oB b.s.heap TI (.ref i) (.ref i)) (MJ:oB b.s.heap f_ u w) (acT:b.s.heap.IsListIter i dj k) (D:F6 z TI f_ i dj) (fr:∀c∈TI::[z,f_,i],b.c.Fr c)
def agu(a:f::h=uG b none):∃d e j,b=d::e::j/\f=.tup [d,e]/\h=uG j none:=by
 obtain _|⟨d,b⟩:=b
 .contradiction
 obtain _|⟨e,b⟩:=b
 .contradiction
 obtain⟨c,g⟩:=List.cons.inj (show f::h=.tup [d,e]::uG b none from a);exact⟨d,e,b,rfl,c,g⟩
def agv(a:[]=uG b none):b[1]?=none:=by
 obtain _|⟨c,b⟩:=b
 .rfl
 obtain _|⟨d,b⟩:=b
 .rfl
 contradiction
def al6{i dj:bG}(aU:l.handled=none):K2 m l f j c [f,c,i] (λh b=>m3 f j c i dj s h b) where
 fO:=.head _
 step:=λb d h K X st M=>by
  obtain⟨B,D,n,u,w,E,t,v,r,z,F,G,g,L⟩:=st;refine kc (agu v) λkh db ds' ao Q v=>?_;subst Q
  obtain⟨R,aA⟩:=drop_cons ao.symm;obtain⟨S,rfl⟩:=drop_cons aA;refine aG (t.at_ R) λx c7 D8=>?_
  refine aG (t.at_ S) λy yt OY=>?_
  have H:b.s.TypeIs (.ref f) "zip":=⟨_,r,rfl⟩;unfold qw;refine ak (xK (xM (name:=Q8 "__next__") H PySem.F.slot_zip_next
   (pY PySem.F.slot_zip_next H PySem.F.entry_zip_next (al5 (xs:=D.toArray) g r z F G (gI (b.R.cG _ _ E)) (by rw[gY];exact c7) (by rw[gY];exact yt) λN a1 a2 t6 vN K3 O=>aK ?_) (PySem.F.args_zip_next_1 _))))
  refine M N kh db x y rfl a1 vN K3 (λp o a e=>O p o (λq=>a<|jv 0 q rfl) (λq=>a<|jv 1 q rfl) (λq=>a<|jv 2 q rfl) e) D8 OY λP le V A W=>⟨B+1+1,D,n,x,y,le.f _ _ E,t.mono le,v,W,A _ _ g.TIz<|O _ _ g.TIz g.TITO g.mg z,A _ _ g.TOz a2,AP t6 λo=>A _ o g.sH,g,V⟩
 done:=λb K X st M=>by
  obtain⟨B,D,n,u,w,E,t,v,r,z,F,G,g,L⟩:=st;have Y:D.toArray[B+1]?=none:=by
   rw[gY];obtain q|⟨_,_,q,_⟩:=t.get<|B+1
   .exact q.2
   have:=agv v;rw[QO,q] at this;contradiction
  have H:b.s.TypeIs (.ref f) "zip":=⟨_,r,rfl⟩;refine iZ ?_;unfold qw;refine ak (xK (xM (name:=Q8 "__next__") H PySem.F.slot_zip_next
   (pY PySem.F.slot_zip_next H PySem.F.entry_zip_next (al4 aU g r z F G (gI (b.R.cG _ _ E)) Y λN e cB he=>?_) (PySem.F.args_zip_next_1 _))))
  refine aG he λo cu a=>?_
  refine ak<|Fg (T:="StopIteration") (b:=true) ⟨o,cu,a⟩ i2 ?_;exact aK λZ=>M N (λp o a e=>cB p o (λq=>a<|jv 0 q rfl) (λq=>a<|jv 1 q rfl) (λq=>a<|jv 2 q rfl) e) Z
 fr:=λb h st=>by
  obtain⟨B,D,n,u,w,E,t,v,r,z,F,G,g,L⟩:=st;refine⟨r,λp a=>⟨L p a,?_⟩⟩;simp only[cQ,BJ,or_false] at a;obtain rfl|rfl|rfl|rfl:=a
  .exact⟨_,z,IE⟩
  .exact⟨_,r,λU U q=>nomatch q⟩
  .exact⟨_,F,IE⟩
  refine dm G λo e U hd=>?_;exact⟨o,e,λU U q=>nomatch hd.symm.trans q⟩
 keep:=λb P h st le k=>by
  obtain⟨B,D,n,u,w,E,t,v,r,z,F,G,g,L⟩:=st;have A:∀p o,p∈j::[f,c,i]->b.o p=some o->P.o p=some o:=λp o a e=>(k p a).2.trans e
  exact⟨B,D,n,u,w,le.f _ _ E,t.mono le,v,A _ _ (jv 1 rfl rfl) r,A _ _ (jv 0 rfl rfl) z,A _ _ (jv 2 rfl rfl) F,AP G λo=>A _ o<|jv 3 rfl rfl,g,λp a=>(k p a).1⟩
def ahB{M:nN}{d:fY}{a:w}{c:w->bf->Prop}(e:∀b,c b y):aE M d (pure a) c K y:=aK<|e a
set_option tactic.hygienic true in
def aeE(a)(e)(f):
 Meets (Builtin.«enumerate.__new__» ⟨[.type "enumerate",.ref a],[]⟩) (λU b s=>s.heap.get? a=some {cls:=.type "tuple",data:=.seq e f}/\
  b (.ok<|.ret<|.ref (s.heap.push {cls:=.type "tuple_iterator",data:=.fields #[.ref a,.int 0 0]}).objs.size)
   {s with heap:=(s.heap.push {cls:=.type "tuple_iterator",data:=.fields #[.ref a,.int 0 0]}).push {cls:=.type "enumerate",data:=.fields #[.none,.bool false,.ref s.heap.objs.size,lG 0,.none,.none]}}):=
 .of_wp λi j k b s c=>by
  obtain⟨l,m,n,tk,p⟩:=s;obtain⟨d,c⟩:=c;have q:=sub_enumerate;have g:Heap.IsTuple _ a e:=⟨_,d,rfl,f,rfl⟩
  wp_walk using kp d
  refine wpAny_stack_any λst=>ahB λh=>?_
  cases h
  .wp_walk using kp d,Kl g
   exact⟨_,rfl,c⟩
  wp_walk using kp d,Kl g
  exact⟨_,rfl,c⟩
def y4(i:y.heap.get? b=some {cls:=.type "tuple",data:=.seq f h})(m:∀d,zj d (y.heap.objs.size+1) y.heap.objs.size 0 .none->d.IsTupleIter y.heap.objs.size b 0->d.objs.size=y.heap.objs.size+2->
 (∀e o,y.heap.get? e=some o->d.get? e=some o)->j (.ref (y.heap.objs.size+1)) {y with heap:=d}):
 aE g.M k (call (.type "enumerate") [.ref b]) j l y:=by
 refine callType_new F.called_enumerate av (F.typeCall_enumerate_1 _) (F.newCall_enumerate_1 _) (λobj=>F.args_object_init_2 obj _) F.entry_enumerate_new
  (aeE b f h) ⟨i,?_⟩
 have a:(y.heap.push {cls:=.type "tuple_iterator",data:=.fields #[.ref b,.int 0 0]}).objs.size=y.heap.objs.size+1:=f5 ..;rw[a];have c:=by
  have:=g_ (y.heap.push {cls:=.type "tuple_iterator",data:=.fields #[.ref b,.int 0 0]})
   (o:={cls:=.type "enumerate",data:=.fields #[.none,.bool false,.ref y.heap.objs.size,lG 0,.none,.none]}) rfl
  rwa [a] at this
 refine⟨⟨_,c,rfl⟩,m _ c ⟨_,fZ _<|g_ _ rfl,rfl,rfl⟩ (J (f5 ..)<|J a rfl) λe o x=>fZ _<|fZ _ x⟩
def r5{i:Nat}(a:i<k):b<=b+i/\b+i<b+k:=⟨cZ _ _,tL a _⟩
def DB(a:d∈[b+1,b]):b<=d/\d<b+2:=by
 obtain rfl|a:=cQ.mp a
 .exact r5 av
 exact J (dK.mp a)<|r5 (i:=0) av
def N5(a:d∈(b+2)::[b+4,b+3,b,b+1]):b<=d/\d<b+5:=by
 obtain rfl|a:=cQ.mp a
 .exact r5 av
 obtain rfl|a:=cQ.mp a
 .exact r5 av
 obtain rfl|a:=cQ.mp a
 .exact r5 av
 obtain rfl|a:=cQ.mp a
 .exact r5 (i:=0) av
 exact J (dK.mp a)<|r5 av
def AU{a b:Nat}(c:N+a=N+b)(k:Nat.beq a b=false):False:=Nat.ne_of_beq_eq_false k<|hR c
def uD{a b:Nat}(c:a<N)(d:a=N+b):False:=bA.mpr (cZ N b)<|d▸c
def o2{d e:Nat}(f:d<N)(g:e<N):ZipApart (N+4) (N+2) (N+3) N (N+1) d e:=by constructor<;>first|exactλc=>uD (b:=0) f c|exactλc=>uD (b:=0) g c|exactλc=>uD f c|exactλc=>uD g c|exactλc=>AU (a:=0) c rfl|exactλc=>AU (b:=0) c rfl|exactλc=>AU c rfl
def GN{j:Bool}{c:List D->aL g->Prop}(m:j=true)(n:∀e,e.handled=none->zU g e a.aC c)(g1:zj d (a.aC+1) a.aC 0 .none)(g3:d.objs.size=a.aC+2)(jI:∀h o,a.o h=some o->d.get? h=some o)(st:∀b,b.c=a.c->b.W=a.W->b.s.heap=d->c f b)(p:k8 j a k K)(q:k (yi f 0) (λU=>True) a.W):aE g.M e (qv (.ref (a.aC+1))) K E {a.s with heap:=d}:=by
 let b:=a.grow d jI<|g3▸cZ _ _;refine aoy g1<|p ⟨b,a.aC+1,yi f 0,λU=>True,[a.aC+1,a.aC],Sx c _ a.aC,λr t aU s=>acN (s m) (n r.in1 aU)<|anR _,⟨0,f,.none,rfl,st b.toaL rfl rfl rfl,g1,a.fresh<|gy _⟩,λl i=>(DB i).1,λl i=>by show l<d.objs.size;rw[g3];exact(DB i).2⟩ q
def QP{u:Bool}(i:u=true)(m:a.V b d)(c:fixC b λe=>k (yi e 0) (λU=>True) a.W)(j:k8 u a k K):aE g.M f (call (.type "enumerate") [d]) (λx s=>aE g.M f (qv x) K E s) E a.s:=by
 have l:=a.fresh<|aS _;obtain _|_|_|_|x|z|z|_|_|_:=b<;>first|exact bO c|skip
 .obtain⟨v,B,rfl⟩:=m;refine call_enumerate_str λw g1 g2 g3 jI=>?_
  unfold strIterType at g2;rcases y:(toS x).cps.all _ with _|_
  .rw[y] at g2;exact GN i (λn aU=>V4 (.inr rfl) aU) g1 g3 jI (λp ao aA bL=>⟨0,rfl,by rw[bL];exact g2,by rw[ao];exact l⟩) j c
  rw[y] at g2;exact GN i (λn aU=>V4 (.inl rfl) aU) g1 g3 jI (λp ao aA bL=>⟨0,rfl,by rw[bL];exact g2,by rw[ao];exact l⟩) j c
 .obtain⟨v,A,q,r,rfl,h,t⟩:=m;exact y4 (a.R.cG _ _ h) λw g1 g2 g3 jI=>GN i (λn aU=>acr aU) g1 g3 jI (λp ao aA bL=>⟨0,q,r,rfl,by rw[bL];exact g2,by rw[ao];exact l,by rw[ao];exact h,by unfold aL.b4;rw[ao,aA];exact t⟩) j c
 obtain⟨v,A,q,r,rfl,h,t⟩:=m;exact call_enumerate_list (gI<|a.R.cG _ _ h) λw g1 g2 g3 jI=>GN i (λn aU=>acq aU) g1 g3 jI (λp ao aA bL=>⟨0,q,r,rfl,by rw[bL];exact g2,by rw[ao];exact l,by rw[ao];exact h,by unfold aL.b4;rw[ao,aA];exact t⟩) j c
def Mn(i:a.V h j)(c:uq h k):∃d b e f,j=.ref d/\H b<=lim/\a.c.f d=some (eV e f)/\a.b4 b e/\k b:=by
 obtain _|_|_|_|_|_|b|_|_|_:=h<;>first|exact bO c|skip
 obtain⟨l,d,e,f,rfl,m,n⟩:=i;exact⟨d,b,e,f,rfl,l,m,n,c⟩
def ama{q:Bool}(v:q=true)(w:a.V d e)(y:a.V f h)(c:uq d λj=>uq f λb=>k (rG j b) (λU=>True) a.W)(z:k8 q a k K):aE g.M l (call (.type "zip") [e,h]) (λx s=>aE g.M l (qv x) K E s) E a.s:=by
 refine F5 (Mn w c) λR A B D i U m F c=>?_;subst i
 refine F5 (Mn y c) λS G H b i U n L c=>?_;subst i
 have dj:=dJ<|a.R.cG _ _ m;refine call_zip_2 (gI<|a.R.cG _ _ m) (gI<|a.R.cG _ _ n) λr g1 g2 g3 jI M t N=>?_
 let O:=a.grow r N<|t▸cZ _ _;exact kz g1<|z ⟨O,a.aC+4,rG A G,λU=>True,_,_,λT V aU P=>Wx (P v)<|al7 aU,⟨0,B,H,D,b,.none,.none,m,n,F,L,rfl,g1,g2,g3,jI,M,o2 dj<|dJ<|a.R.cG _ _ n,λW Q=>a.fresh (N5 Q).1⟩,λu p=>(N5 p).1,λu p=>by show u<r.objs.size;exact J t<|(N5 p).2⟩ c
def aiI{dj dh:List bB}(B:gP g)(k3:Fq g z.A z.fr z.cf)(l2:FF g z.A z.fr z.cf)(he:(sF i).isNone=true)(t:jh f=true)(w:b.all (λk=>k.arg.isSome)=true)(h0:cD z i e.v)(A:m5 z f dj)(D:vH z b dh)(N:H dh=H b):
 xX z (.Call i f b pos) (VZ z.cf e dj dh<|o7 b):=λtp a r k Z K X F h E s=>by
 refine J (uh he ..)<|ak<|h0 a r _ _ _ _ F h (λx q=>?_) s;have G:=x.bw;revert G;refine CU x.bw q λn q G=>?_
 have O:o7 b=[]->b=[]:=λh=>JN.mp h
 rcases ao:n==1013 with _|_
 .replace q:=fR ao q;rcases aA:n==1014 with _|_
  .replace q:=fR aA q;exact Vg B k3 l2 x.toaL G q λu c HC Q q=>LA t w HC A D Q (bJ.same rfl rfl (λU U U U i=>.ff i) (aS _) rfl rfl) (F.to x.le) q (λy q=>ZX B y.bw q<|(E.le x.le).le y.le)<|s.le x.le
  refine J (ck aA)<|iT (jJ aA q) λL j M=>?_
  cases O j
  cases zk N
  refine Ad (P:=λas p W=>nul p (two as λd i=>uq d λl=>uq i λe=>k (rG l e) (λU=>True) W)) t w .ty A D (F.to x.le) M (λy as p R S m j q=>?_)<|s.le x.le;obtain⟨rfl,q⟩:=iH q;rw[j.no];refine m9 (PV q) λd i T q=>?_;subst T
  exact F1 m λv u m V=>ama L m V q<|(E.le x.le).le y.le
 refine J (ck ao)<|iT (jJ ao q) λL j M=>?_
 cases O j
 cases zk N
 refine Ad (P:=λas p W=>nul p (one as λd=>fixC d λl=>k (yi l 0) (λU=>True) W)) t w .ty A D (F.to x.le) M (λy as p R S m j q=>?_)<|s.le x.le;obtain⟨rfl,q⟩:=iH q;rw[j.no];refine aG (jV q) λd Y q=>?_;subst Y
 exact mq m λv m=>QP L m q<|(E.le x.le).le y.le
noncomputable def TP:List (Str×aF):=[("iter",.builtin "iter"),("zip",.type "zip"),("ValueError",.type "ValueError"),("super",.type "super"),("str",.type "str")]
def B9(a:G):Prop:=∀(b:b5 a) (f:fY) (x:Str) (c:aF) (d:aL a) (e X:aF->bf->Prop),TP.lookup x=some c->b.env.kindOf x=some .globalImplicit->e c d.s->aE a.M f (E8 b.env x) e X d.s
abbrev Jq(a:e9)(dj dh:bG):e9:=a.push {cls:=.type "tuple",data:=.seq #[.ref dj,.ref dh]}
abbrev Jr(a:e9)(dj dh:bG):e9:=(Jq a dj dh).push {cls:=.type "tuple",data:=.seq #[.none,.none]}
abbrev EC(a:e9)(dj dh:bG):e9:=(Jr a dj dh).push {cls:=.type "zip",data:=.fields #[.none,.bool false,.bool false,.ref a.objs.size,.ref (Jq a dj dh).objs.size]}
def aeF(a e:bG)(k):
 Meets (Builtin.«zip.__new__» ⟨[.type "zip",.ref a,.ref a],[]⟩) (λU b s=>s.heap.IsListIter a e k/\b (.ok<|.ret<|.ref (Jr s.heap a a).objs.size) {s with heap:=EC s.heap a a}):=
 .of_wp λg h i b s c=>by
  obtain⟨j,l,m,tk,n⟩:=s;obtain⟨f,c⟩:=c;have p:=sub_zip;have d:=f
  wp_walk using RB d,RB d
  exact⟨_,rfl,c⟩
def y8(l:y.heap.IsListIter c e k)(m:∀b,pR b (y.heap.objs.size+2) y.heap.objs.size (y.heap.objs.size+1) .none->oB b y.heap.objs.size (.ref c) (.ref c)->
 oB b (y.heap.objs.size+1) .none .none->b.objs.size=y.heap.objs.size+3->(∀d o,y.heap.get? d=some o->b.get? d=some o)->f (.ref (y.heap.objs.size+2)) {y with heap:=b}):
 aE g.M h (call (.type "zip") [.ref c,.ref c]) f K y:=by
 refine callType_new F.called_zip av (F.typeCall_zip_2 _ _) (F.newCall_zip_2 _ _) (λobj=>F.args_object_init_3 obj _ _) F.entry_zip_new (aeF c e k) ⟨l,?_⟩;have a:(Jq y.heap c c).objs.size=y.heap.objs.size+1:=f5 ..;have i:(Jr y.heap c c).objs.size=y.heap.objs.size+2:=J (f5 ..)<|J a rfl;have n:(EC y.heap c c).objs.size=y.heap.objs.size+3:=J (f5 ..)<|J i rfl;have j:(EC y.heap c c).get? (Jr y.heap c c).objs.size=some _:=g_ _ rfl;have jI:(EC y.heap c c).get? (Jq y.heap c c).objs.size=some _:=fZ _<|g_ _ rfl;have g3:(EC y.heap c c).get? y.heap.objs.size=some _:=fZ _<|fZ _<|g_ _ rfl;rw[a,i] at j;rw[a] at jI;exact J i<|⟨⟨_,j,rfl⟩,m _ j g3 jI n λd o x=>fZ _<|fZ _<|fZ _ x⟩
def y5(a:y.heap.IsList b xs)(c:d (.ref y.heap.objs.size) {y with heap:=y.heap.push {cls:=.type "list_iterator",data:=.fields #[.ref b,.int 0 0]}}):
 aE g.M e (call (.builtin "iter") [.ref b]) d K y:=by
 refine call_function_entry bC bC kdk_entry_iter (kdk_args_iter _)<|ak<|tS (by first|rfl|kernel_rfl!) ?_
 exact ak<|RA a<|aK ⟨_,rfl,c⟩
def apart1{e f:Nat}(d:e<N)(g:f<e):F6 (N+2) N (N+1) e f:=by constructor<;>first|exactλc=>AU (a:=0) c rfl|exactλc=>AU (b:=0) c rfl|exactλc=>AU c rfl|exactλc=>uD d c|exactλc=>uD (b:=0) d (Eq.symm c)|exactλc=>uD d (Eq.symm c)|exactλc=>uD (b:=0) g c|exactλc=>uD (fF g d) c
def N4{i:Nat}(a:d∈b::[b+2,b+1,i]):(b<=d/\d<b+3)\/d=i:=by
 obtain rfl|a:=cQ.mp a
 .exact .inl<|r5 (i:=0) av
 obtain rfl|a:=cQ.mp a
 .exact .inl<|r5 av
 obtain rfl|a:=cQ.mp a
 .exact .inl<|r5 av
 exact .inr<|dK.mp a
def aiJ{m:bB}{pos p0 p1 p2 pA p4 qf sp:Pos}(Fo:B9 g)(B:(isStar i).isNone=true)(Nl:z.env.kindOf "iter"=some .globalImplicit)(AJ:z.env.kindOf "zip"=some .globalImplicit)(eH:cD z i m.v):
 xX z (.Call (.Name ("zip":Str) p0) [.Starred (.BinOp (.List [.Call (.Name ("iter":Str) p1) [i] [] p2] pA) .Mult (.Constant (.int 2) N p4) qf) sp] [] pos) (N3 m).i:=λtp a r k Z K X F h dY n7=>by
 obtain⟨O,h⟩:=h;refine J (uh rfl ..)<|ak<|nR (Fo z _ "zip" (.type "zip") a _ _ bC AJ ?_) bC;refine ks_call (P:=λU=>True) rfl (λh n8=>⟨.machine,.inr<|.inl rfl,λA Q E s HC q=>aK q⟩)<|ks_lone<|Ru<|List_<|rH ?_;refine J (uh rfl ..)<|ak<|nR (Fo z _ "iter" (.builtin "iter") a _ _ bC Nl ?_) bC;refine Ad (P:=λas ks W=>nul ks (one as λd=>uq d λl=>k (uG l none) (λU=>True) W)) (by show((isStar i).isNone&&true)=true;exact J B rfl) rfl .bi (Py B eH Pz) IK F h (λx as ks cY nt t cB q=>?_) n7;obtain⟨rfl,q⟩:=iH q;rw[cB.no];refine aG (jV q) λd R q=>?_;subst R
 refine mq t λv t=>?_
 refine F5 (Mn t q) λp ds us n S Y u ah5 q=>?_;subst S
 refine y5 (gI<|x.R.cG _ _ u) ?_;let e:=x.toaL.new {cls:=.type "list_iterator",data:=.fields #[.ref p,.int 0 0]} x.s.drawn x.s.toks;have g2:e.o x.aC=some {cls:=.type "list_iterator",data:=.fields #[.ref p,.int 0 0]}:=x.toaL.ku rfl _ _;refine u9<|l9 ?_ (by show 1<=j9;decide);let b:=e.new {cls:=.type "list",data:=.seq #[.ref x.aC]} x.s.drawn x.s.toks;have g3:b.o e.aC=some {cls:=.type "list",data:=.seq #[.ref x.aC]}:=e.toaL.ku rfl _ _;refine aot<|mul_list g3 ⟨av,av⟩ (by show 1*2<=lim;decide) ?_;rw[show JJ (λlX eP=>lX++eP) #[] _=#[.ref x.aC,.ref x.aC] from rfl];let f:=b.new {cls:=.type "list",data:=.seq #[.ref x.aC,.ref x.aC]} x.s.drawn<|x.s.toks+1;have Au:f.o b.aC=some {cls:=.type "list",data:=.seq #[.ref x.aC,.ref x.aC]}:=b.toaL.ku rfl _ _;show StarOf _ z.A X _ _ f.s;have yp:f.s.TypeIs (.ref b.aC) "list":=⟨_,Au,rfl⟩;refine ak<|zJ yp PySem.F.slot_list_iter.lookup<|aK ⟨rfl,?_⟩;refine iZ<|aou b.aC (.inl rfl) Au rfl rfl (λfM D T=>?_) (by show 2<=j9;decide);refine⟨aQ,?_⟩;let w:=f.toaL.grow fM D T;have y:=D _ _<|fZ _<|fZ _ g2;have uA:=dJ y;refine y8 ⟨_,y,rfl,rfl⟩ λVG G a2 t6 H L=>?_
 let M:=w.toaL.grow VG L<|H▸cZ _ _;have V:=(x.le.bS<|(((e.le.bS b.le).bS f.le).bS w.le)).bS M.le;have jT:=dJ<|x.R.cG _ _ u;refine kz G<|dY ⟨⟨M.toaL,V⟩,w.aC+2,uG ds none,λU=>True,_,_,λzK pJ aU kq=>Wx (kq O)<|al6 aU,⟨0,us,n,.none,.none,u,ah5,rfl,G,a2,t6,⟨_,L _ _ y,rfl,rfl⟩,apart1 uA jT,λc j=>x.toaL.fresh ((N4 j).elim (λh=>az (bF uA) h.1) λh=>di h.symm)⟩,λc j=>az x.le.size ((N4 j).elim (λh=>az (bF uA) h.1) λh=>di h.symm),λc j=>?_⟩ q;show c<VG.objs.size;exact J H<|(N4 j).elim (λh=>h.2) λh=>h▸bZ uA (cZ _ _)
def ajc(w:B9 g)(y:z.env.kindOf "ValueError"=some .globalImplicit):cP z (.Raise (some (.Call (.Name ("ValueError":Str) f) [.Constant (.str x) b d] [] h)) none pos) (Jo x.cps.toList):=λa E F G H X r i K A=>by
 refine Ji<|Raise_madeB PySem.F.excCall_ValueError PySem.F.excRaise_ValueError z.aU.h<|nR (w z _ "ValueError" _ a _ _ bC y ⟨rfl,?_⟩) bC;refine rH<|amv (k:=b) (pos:=d)<|u9 ⟨by show 1<=j9;rw[rQ];decide,λB e l s=>?_⟩;refine dm l.there λm n D t=>?_
 have p:=s e _ n l.new;let j:=a.cC {a.s with heap:=B,toks:=a.s.toks+1} (λc o q=>l.keeps c o q) (az p<|bF<|dJ n) rfl rfl;have u:∀c,a.aC<=c->oR j.toaL z.fr c:=λc v=>⟨a.fresh v,λq=>aW (r.ok.lt q)<|bA.mpr v⟩
 exact A ⟨⟨j.toaL,j.le.of0⟩,.ref e,x.cps.toList,r.ok.le j.le λU U i=>i,e,_,_,m,0,_,rfl,p,n,rfl,rfl,rfl,t,i.1,u e p,u m<|s m _ t D,.inl rfl⟩ i.2
section
open Builtin
def ep:E2 "wrapper_descriptor" "__get__" "wrapper_descriptor.__get__":=.of (owner:="wrapper_descriptor") (n:="__get__") (by rw[zE];kernel_rfl) bC bC bC
 (by first|exact .inl bC|exact .inr bC) (by rw[Rf];kernel_rfl)
def en:BX table "wrapper_descriptor.__get__"=some Builtin.«wrapper_descriptor.__get__»:=BY au
def el(a b c):zz "wrapper_descriptor.__get__" ⟨[a,b,c],[]⟩:=au
noncomputable def CK(x:bG)(n:Str):Sem Unit:=do
 if !(<-tQ (.ref x)<|.type "list") then
  rule "descr.get.wrong-instance"
  raiseError "TypeError" s!"descriptor '{n.toString}' for '{← typeName (.type "list")}' objects doesn't apply to a '{← PySem.typeNameOf (.ref x)}' object"
def agF(x a:bG):Builtin.«method_descriptor.__get__» ⟨[.builtin "list.pop",.ref x,.ref a],[]⟩=(do
 CK x "pop"
 ret (<-Ka "builtin_function_or_method" [.builtin "list.pop",.ref x])):=au
def ad6(x a:bG):Builtin.«wrapper_descriptor.__get__» ⟨[.builtin "list.__len__",.ref x,.ref a],[]⟩=(do
 CK x "__len__"
 ret (<-Ka "method-wrapper" [.builtin "list.__len__",.ref x])):=au
def acp(x a:bG):Builtin.«wrapper_descriptor.__get__» ⟨[.builtin "list.__init__",.ref x,.ref a],[]⟩=(do
 CK x "__init__"
 ret (<-Ka "method-wrapper" [.builtin "list.__init__",.ref x])):=au
def Ap{a:J0}(c:fD M b (tQ (.ref x) (.type "list")) true)(g:d () ⟨b,e,f,h,a⟩):aE M j (CK x k) d l ⟨b,e,f,h,a⟩:=by
 refine ak<|c.at ?_;exact aK g
structure z4(name:Str)(id T gid akx:String)(b:tE):Prop where
 ty:zF (.builtin id)=pure (.type T)
 slot:E2 T "__get__" gid
 entry:BX table gid=some b
 args:∀x y z,zz gid ⟨[x,y,z],[]⟩
 get:∀x C,∃n,b ⟨[.builtin id,.ref x,.ref C],[]⟩=(do CK x n;ret<|<-Ka akx [.builtin id,.ref x])
 name:(name==("__class__":Str))=false
def ajJ{i:J0}{g:String}(a:z4 name g l F m L)(p:d.get? n=some {cls:=.type "super",dict:=none,data:=.fields #[.ref c,.ref x,.ref b],slots:=#[]})(u:fD (model e f) d (aom (.ref b)) none)(v:fD (model e f) d (E9 (.ref b)) s)(w:(s.dropWhile (· !=.ref c)).drop 1=A)(X:t.In d)(y:fD (model e f) d (tQ (.ref x) (.type "list")) true)(z:h' t name A=some (some (.builtin g)))(D:x≠b)(E:B (.done (.ret (.ref d.objs.size))) ⟨d.push {cls:=.type m,data:=.fields #[.builtin g,.ref x]},h,j,k,i⟩):
 aE (model e f) M (Builtin.«super.__getattribute__» ⟨[.ref n,.str name tk],[]⟩) B O ⟨d,h,j,k,i⟩:=by
 have S:=a.slot.lookup;have r:=a.ty;have G:=a.name;have H:(kJ x==kJ b)=false:=by simp[D]
 have K:(⟨d,h,j,k,i⟩:bf).TypeIs (.builtin g) l:=r;have q:({cls:=.type "super",dict:=none,data:=.fields #[.ref c,.ref x,.ref b],slots:=#[]}:Obj).data=.fields #[.ref c,.ref x,.ref b]:=rfl;have N:(#[.ref c,.ref x,.ref b]:Array aF)[0]?=some (.ref c):=rfl;have P:(#[.ref c,.ref x,.ref b]:Array aF)[1]?=some (.ref x):=rfl;have Q:(#[.ref c,.ref x,.ref b]:Array aF)[2]?=some (.ref b):=rfl;obtain⟨nn,R⟩:=a.get x b
 repeat(first
  |(with_reducible refine gF p q N ?_)|(with_reducible refine gF p q P ?_)|(with_reducible refine gF p q Q ?_)
  |(with_reducible refine ks_wpAny_notOpaque u ?_)
  |(with_reducible refine Looks.at v ?_;rw[w])
  |(refine ks_forIn_along X (λU U=>rfl) rfl ?_ z)
  |(with_reducible refine tS r ?_)
  |(with_reducible refine pY a.slot K a.entry ?_<|a.args _ _ _;rw[R])
  |(with_reducible refine Ap y ?_)
  |(with_reducible refine⟨_,rfl,?_⟩)
  |(with_reducible refine wn (by simp[G]) ?_)
  |(rw[cE (show¬(kJ x==kJ b)=true by rw[H];exact gX)])
  |wp_step
  |dsimp only)
 all_goals exact E
def aaD{E}{a:J0}{g:String}(v:z4 name g A B k L)(p:b.get? l=some {cls:=.type "super",dict:=none,data:=.fields #[.ref c,.ref x,.ref d],slots:=#[]})(w:fD (model e f) b (aom (.ref d)) none)(y:fD (model e f) b (E9 (.ref d)) n)(z:(n.dropWhile (· !=.ref c)).drop 1=s)(X:t.In b)(D:fD (model e f) b (tQ (.ref x) (.type "list")) true)(G:h' t name s=some (some (.builtin g)))(H:x≠d)(K:Q (.ref b.objs.size,[]) ⟨b.push {cls:=.type k,data:=.fields #[.builtin g,.ref x]},h,j,m+1,a⟩):
 aE (model e f) M (vn (.ref l) name O) Q E ⟨b,h,j,m,a⟩:=by
 have q:=gs.lookup;have i:∀N,(⟨b,h,j,N,a⟩:bf).TypeIs (.ref l) "super":=λU=>⟨_,p,rfl⟩
 refine ak<|zJ (i _) q ?_;show aE _ _ (if _=true then _ else _) _ _ _;refine J (dI F.ks_canon_super_ga)<|ak<|ak<|kv<|fT<|ak<|Km (i _)<|ak<|tS q ?_;refine ak<|tS rfl ?_;refine ak<|xK<|fT ?_;refine ak<|tS (gs.bind _) ?_;refine fq (Q:=λr u=>r=.ref b.objs.size/\u=⟨b.push {cls:=.type k,data:=.fields #[.builtin g,.ref x]},h,j,m+1,a⟩) (E:=λU U=>False)
  (pY gs (i _) F.ks_entry_super_ga (ajJ v p w y z X D G H ⟨_,rfl,rfl,rfl⟩)<|F.ks_gaArgs_super _ _) (λr u P=>?_) λU U R=>R.elim
 obtain⟨rfl,rfl⟩:=P;exact aK<|aK K
def y3{c:String}(q:y.heap.get? s=some {cls:=.type m,data:=.fields #[.builtin c,.ref x]})(r:m="builtin_function_or_method"\/m="method-wrapper")(t:∀A n B,n () y->aE (model f h) A (E5 c ⟨[.ref x],[]⟩) n B y)(g:plainId c=true)(u:BX table c=some F)(v:aE (model f h) k.in1 (F ⟨[.ref x],[]⟩) (λfin b=>∃d,fin=.done (.ret d)/\l d b) j y):aE (model f h) k (call (.ref s) []) l j y:=by
 refine pX<|ip ?_;refine ak<|zH q ?_;have fin:aE (model f h) k.in1 (E5 c ⟨[.ref x],[]⟩>>=λU=>again (.builtin c ⟨[.ref x],[]⟩)) (λfin b=>match fin with
  |.done i=>(match(Except.ok i) with|.ok (.ret d)=>l d b|.ok _=>False|.error e=>j e b)
  |.again p=>p.quiet=true/\nQ (model f h) k p (λw b=>match w with|.ok (.ret d)=>l d b|.ok _=>False|.error e=>j e b) b) (λe b=>j e b) y:=by
  refine ak<|t _ _ _<|aK ⟨plainId_quiet g _,aob u ?_⟩;refine J (e6 g _)<|fq v (λi b z=>?_) λU U a=>a
  refine aG z λd D E=>?_;subst D
  exact E
 obtain rfl|rfl:=r
 .exact fq fin (λU U a=>a) λU U a=>a
 exact fq fin (λU U a=>a) λU U a=>a
end
section
open Builtin
def agG(x:bG):Builtin.«list.pop» ⟨[.ref x],[]⟩=(do
 let xs<-amu<|.ref x
 if xs.isEmpty then rule "list.pop.empty";raiseError "IndexError" "pop from empty list"
 match(iA (-1) xs.size).bind λk=>xs[k]?.map (k,·) with
 |some (k,b)=>fv (.ref x) (·.eraseIdxIfInBounds k);ret b
 |none=>rule "list.pop.out-of-range";raiseError "IndexError" "pop index out of range"):=by rfl
def aeU(a):iA (-1) (a+1)=some a:=by
 have e:(if(-1)<0 then-1+((a+1:Nat):Int) else-1)=a:=by
  exact J (u_ ..)<|J (JC a ..)<|bH (QF ..)<|JG _
 unfold iA;rw[e,dI<|J (gb<|nI.mpr<|f6 a) rfl]
 rfl
def adS{a:Array aF}(d:a.toList.getLast?=some b):a.isEmpty=false/\((iA (-1) a.size).bind λk=>a[k]?.map (k,·))=some (a.size-1,b):=by
 have c:a[a.size-1]?=some b:=by
  rw[QT] at d;rw[<-amh];simpa using d
 rcases e:a.size with _|f
 .rw[Array.size_eq_zero_iff.mp e] at c;contradiction
 refine⟨Array.isEmpty_eq_false_iff.mpr λg=>anS f<|e.symm.trans<|aZ Array.size g,?_⟩;rw[e] at c;exact J (aeU ..)<|J (Q6 ..)<|J (show a[f]?=some b from c) rfl
def agE(a:b.size<=j9)(c:y.heap.get? x=some d)(g:d.data=.seq b j)(i:b.toList.getLast?=some e)(m:f (.done (.ret e)) {y with heap:=y.heap.update x (zw λh=>h.eraseIdxIfInBounds (b.size-1))}):aE M k (Builtin.«list.pop» ⟨[.ref x],[]⟩) f l y:=by
 obtain⟨n,p⟩:=adS i;refine J (agG ..)<|ak<|ak<|mW c g<|aK ?_;exact J n<|J p<|ak<|k1 c g (aK m) a<|az (by simp only[ame];split;exact J (Array.size_eraseIdx ..)<|l6 _ _;exact aS _)<|mT a
def ad3(a:y.heap.get? x=some d)(c:d.data=.seq e k)(g:∀f,b (.done (.ret (.int e.size f))) {y with toks:=y.toks+1}):
 aE M h (Builtin.«list.__len__» ⟨[.ref x],[]⟩) b j y:=by
 show aE M h (seqSize x>>=λi=>retInt i) b j y;refine ak<|ak<|zI a ?_;exact J c<|aK<|ak<|Rw<|aK<|g _
def aco(a:y.heap.get? x=some b)(c:b.data=.seq #[] e)(g:d (.done (.ret .none)) {y with heap:=y.heap.update x (zw λU=>#[])}):
 aE M f (Builtin.«list.__init__» ⟨[.ref x],[]⟩) d h y:=by
 refine ak<|ak<|mW a c<|aK ?_;refine ak<|k1 a c ?_ (b9 _)<|b9 _;exact ak<|zG<|aK g
def ajU:z4 ("pop":Str) "list.pop" "method_descriptor" "method_descriptor.__get__" "builtin_function_or_method" Builtin.«method_descriptor.__get__»:=
 ⟨by
  show J7 _=_;rw[J8];kernel_rfl,(.of (owner:="method_descriptor") (n:="__get__") (by rw[zE];kernel_rfl) bC bC bC
  (by first|exact .inl bC|exact .inr bC) (by rw[Rf];kernel_rfl)),(BY au),(λb c d=>au),λx a=>⟨_,agF x a⟩,bC⟩
def ajT:z4 ("__len__":Str) "list.__len__" "wrapper_descriptor" "wrapper_descriptor.__get__" "method-wrapper" Builtin.«wrapper_descriptor.__get__»:=
 ⟨by show J7 _=_;rw[J8];kernel_rfl,ep,en,el,λx a=>⟨_,ad6 x a⟩,bC⟩
def ajS:z4 ("__init__":Str) "list.__init__" "wrapper_descriptor" "wrapper_descriptor.__get__" "method-wrapper" Builtin.«wrapper_descriptor.__get__»:=
 ⟨by show J7 _=_;rw[J8];kernel_rfl,ep,en,el,λx a=>⟨_,acp x a⟩,bC⟩
def Ft(b:G)(c:String)(x:bG)(s:bf):Prop:=∀(d:fY) (a:Unit->bf->Prop) (e:aF->bf->Prop),a () s->aE b.M d (E5 c ⟨[.ref x],[]⟩) a e s
def Bn(x):Ft b "list.__len__" x y:=λc d e a=>by
 have:E5 "list.__len__" ⟨[.ref x],[]⟩=pure ():=au;exact J this<|aK a
def Bi(x):Ft b "list.__init__" x y:=λc d e a=>by
 have:E5 "list.__init__" ⟨[.ref x],[]⟩=pure ():=au;exact J this<|aK a
def o3(x):((QZ "list.pop").map λsig=>Ju "list.pop" {sig with full:="_Accumulator.pop"} ⟨[.ref x],[]⟩)=some (pure ()):=by
 rw[ka (n:=['p','o','p']) au PySem.F.owner_list];kernel_rfl
def Bz(x a)(c:y.heap.get? a=some d)(g:d.data=.cls f)(h:d.cls=.type "type")(i:f.qualname.toString="_Accumulator")(j:fD b.M y.heap (tQ (.ref x) (.type "module")) false)(k:fD b.M y.heap (isType (.ref x)) false)(l:fD b.M y.heap (zF (.ref x)) (.ref a)):Ft b "list.pop" x y:=λq r s m=>by
 refine aG (iQ.mp<|o3 x) λsig n p=>?_
 unfold E5;rw[n,show Ra "list.pop"=some .method from bC]
 dsimp only
 refine J (cE av)<|ak<|j.here ?_;refine J (show(Manifest.varargsMethods.contains "list.pop"||false)=false from bC)<|wn gX<|ak<|k.here ?_;refine wn gX<|ak<|l.here ?_;refine ak<|ak<|zH c ?_;refine J g<|aK<|ak<|Km ⟨_,c,h⟩ ?_;rw[i];have e:toString "_Accumulator"++toString "."++toString (Bind.lastOf "list.pop")="_Accumulator.pop":=bC;rw[e,p];exact aK m
end
section
open Builtin
structure KC(g:G)(fd:oA):Prop where
 head:∃Lf,(fd.params.posonlyargs++fd.params.args).head?=some Lf/\Lf.arg=("self":Str)
 code:∃jP jU cY file I1,fd.code=.ref jP/\g.K.lookup jP=some jU/\jU.data=.fields cY/\cY[2]?=some (.str file I1)/\((g.g6.main.file:Str)==file)=true
 cell:∃ca o,fd.closure.lookup ("__class__":Str)=some ca/\g.K.lookup ca=some o/\o.data=.cell (some<|.ref 236)
 aff:∀y∈fd.scope.names,y.1=("__class__":Str)->y.2≠.cell
structure Cf(g:G):Prop where
 top:(g.g6.main.scope.names.lookup ("super":Str)).isSome=false
 cls:∃cd o,g.K.lookup 236=some o/\o.data=.cls cd/\o.cls=.type "type"/\E6 g.K 236=some cd/\cd.qualname.toString="_Accumulator"/\cd.mro=[.ref (236:Nat),.type "list",.type "object"]
 self:Rm g.K 236 (.ref (236:Nat))=some true
 list:Fd g.K (.ref 236) (.type "list")=some true
 Xh:Fd g.K (.ref 236) (.type "module")=some false
 cx:nsIn g.K cStatics "thirdparty.any"=some none
def k7.cC(I:k7 d e N f h k j l m n s x A)(a:∀b o,f.get? b=some o->B.get? b=some o):k7 d e N B h k j l m n s x A:={I with hd:=a _ _ I.hd,cu:=a _ _ I.cu}
def Pu(I:k7 g.w.params a.c (H a.W) a.s.heap b 236 d e f h j k l):fD g.M a.s.heap (zF (.ref (a.c.bW b))) (.ref (236:Nat)):=I.acc.type
def ajN(c:Cf g)(d:g.K.In a.s.heap):∃b,fD g.M a.s.heap (E9 (.ref (236:Nat))) b/\(b.dropWhile (· !=.ref (236:Nat))).drop 1=[.type "list",.type "object"]:=by
 exact Cr c.cls λe m n p q f r h=>⟨e.mro,λi t j s k l=>ak<|(Rk d f) i _ j s k<|aK l,by rw[h];decide+kernel⟩
def ajL(c:b="builtin_function_or_method"\/b="method-wrapper")(a)(e:a.get? x=some {cls:=.type b,data:=.fields d}):∃k,(k=am2\/k=am3\/k=am1)/\fD g.M a (Ri (.ref x)) k:=⟨.machine,.inr (.inl rfl),λh i j s k f=>by
 refine ak<|zH (k _ _ e) ?_;obtain rfl|rfl:=c<;>exact aK f⟩
def Px{q:Str}{c:String}(i:Cf g)(I:k7 g.w.params a.c (H a.W) a.s.heap n 236 l s B F L M m)(u:a.o O=some {cls:=.type "super",dict:=none,data:=.fields #[.ref (236:Nat),.ref (a.c.bW n),.ref (236:Nat)],slots:=#[]})(S:z4 q c T gid b aoL)(v:h' g.K q [.type "list",.type "object"]=some (some (.builtin c)))(r:b="builtin_function_or_method"\/b="method-wrapper")(w:∀f,(∀x o,a.o x=some o->f.heap.get? x=some o)->Ft g c (a.c.bW n) f)(y:plainId c=true)(D:BX table c=some Q)(G:j.endLine=pos.line)(N:∀d:cM a,d.W=a.W->k7 g.w.params d.c (H d.W) d.s.heap n 236 l s B F L M m->aE g.M A.in1 (Q ⟨[.ref (d.c.bW n)],[]⟩) (λfin R=>∃k,fin=.done (.ret k)/\K k R) E d.s):
 aE g.M A (xH (.Call (.Name ("super":Str) V) [] [] W) q j pos Z (.ref O) 0 [] []) K E a.s:=by
 have p:=a.c8;have X:fD g.M a.s.heap (tQ _ _) true:=(Pu I).andThen<|i5 p i.list;refine aG (ajN i p) λaoZ Hf gC=>?_
 have Y:vp true (.Call (.Name ("super") V) [] [] W) Z j pos=pure pos:=by
  unfold vp;exact J G<|J (beq_self_eq_true ..) rfl
 unfold xH;refine J (show zC 0 [] []=true from rfl)<|ak<|fT ?_;refine aaD S u (looks_opaque p i.cx) Hf gC p X v (λe=>by
  refine jN i.cls λcd XE Ah GA U=>?_
  have:=a.c8 _ _ Ah;rw[<-e,show a.s.heap.get? _=_ from I.acc.at_] at this;cases this
  contradiction) ?_
 refine J Y<|ak<|aK ?_;have G_:(a.s.heap.push {cls:=.type b,data:=.fields #[.builtin c,.ref _]}).get? a.aC=some {cls:=.type b,data:=.fields #[.builtin c,.ref<|a.c.bW n]}:=g_ _ rfl;have t:∀x o,a.o x=some o->(a.s.heap.push {cls:=.type b,data:=.fields #[.builtin c,.ref<|a.c.bW n]}).get? x=some o:=λx o e=>fZ _ e
 refine zA (P:=λh=>h.get? a.aC=some {cls:=.type b,data:=.fields #[.builtin c,.ref<|a.c.bW n]}) rfl (λh aaG=>ajL r h aaG)<|evalArgs_nil3 ⟨G_,?_⟩;exact y3 G_ r (λzK mb Cb z=>w _ t zK mb Cb z) y D<|N (a.new {cls:=.type b,data:=.fields #[.builtin c,.ref _]} a.s.drawn _) rfl<|I.cC t
end
section
open Builtin
def Sw(b:Str)(e:Nat)(f:List (Str×D))(a:List D)(c:aN)(d:Ok D):Prop:=sel (b=="__init__") (a=[]/\d .none c)<|sel (b=="pop") (opt a.getLast? λg=>d g<|c.set e<|.inst 236 f a.dropLast)<|b="__len__"/\d (.int<|H a) c
def ajI{i:Str}{C:aF->Prop}(p:a.V o s)(q:Bo o i [] a.W x)(r:∀b d f h j l m n,a.W[b]?=some (.inst 236 d f)->k7 g.w.params a.c (H a.W) a.s.heap b 236 d f h j l m n->Sw i b d f a.W x->C (.ref (a.c.bW b))):C s:=
 v7 p q λb k d f h j l m n e I c=>by
  obtain⟨rfl,c⟩:=c;exact r b d f h j l m n e I c
def set_same{a:aN}(c:a[b]?=some x):a.set b x=a:=by
 obtain⟨d,e⟩:=fm.mp c;exact bH e<|hJ d
def ajR{p:Str}(r:Cf g)(iu:p="__init__"\/p="pop"\/p="__len__")(w:dc a f K)(e:a.W[b]?=some (.inst 236 h j)) (I:k7 g.w.params a.c (H a.W) a.s.heap b 236 h j x A B F L) (z:a.o l=some {cls:=.type "super",dict:=none,data:=.fields #[.ref (236:Nat),.ref (a.c.bW b),.ref (236:Nat)],slots:=#[]}) (D:m.endLine=pos.line) (q:Sw p b h j a.W f):aE g.M n (xH (.Call (.Name ("super":Str) M) [] [] O) p m pos P (.ref l) 0 [] []) K E a.s:=by
 obtain rfl|rfl|rfl:=iu
 .obtain⟨rfl,v⟩:=jJ bC q;exact Px r I z ajS au (.inr rfl) (λG U=>Bi _) bC (BY au) D λy i c=>by
   have Q:=c.dF;subst Q;exact aco c.acc.at_ rfl ⟨_,rfl,dc.dB (w.le y.le) (y.Jb (ds':=[]) (i▸e) c (λU=>#[]) rfl (b9 _)) vJ (by
    show f .none<|y.W.set b _;exact J (set_same (i▸e))<|(i▸v))⟩
 .exact aG (ji (jJ bC (fR bC q))) λd ao v=>Px r I z ajU au (.inl rfl) (λG k=>by
   refine Cr r.cls λcd XE R S T w8 V x4=>?_
   have W:fD g.M a.s.heap (tQ _ _) false:=(Pu I).andThen<|i5 a.c8 r.Xh;refine Bz _ _ (k _ _<|a.c8 _ _ R) S T V (W.keeps k) (λn f Z s X q=>?_)<|(Pu I).keeps k;obtain⟨n8,_,_,_,_⟩:=s;exact ks_wpAny_isType_inst (X _ _ (k _ _ I.acc.at_)) (λU e=>by contradiction) q) bC (BY au) D λy i c=>by
    have N:=ao;rw[QT] at N;refine aG (c.dF.at_ N) λu aA Y=>agE (J cK<|J c.dF.cg<|gq c.z) c.acc.at_ rfl (by rw[QT];exact J c.dF.cg<|aA) ⟨_,rfl,?_⟩
    exact dc.dB (w.le y.le) (y.Jb (i▸e) c _ (by exact J UZ<|J QJ<|J QJ<|J c.dF.cg<|c.dF.take _)<|az (anh▸l6 _ _) c.z) Y<|i▸v
 obtain⟨_,v⟩:=fR bC (fR bC q);exact Px r I z ajT au (.inr rfl) (λG U=>Bn _) bC (BY au) D λy i c=>ad3 c.acc.at_ rfl λt=>⟨_,rfl,by
  exact J cK<|J c.dF.cg<|eG (w.le y.le) (kL _ _) (i▸v)⟩
def FW(a:b5 b)(h:List cS)(e:aI)(i:eY D):Prop:=∀(c:aL b) (d:List D) (f:Ok D) (j:er) (g X:aF->bf->Prop),bQ a c d->i d c.W f j->dc c f g->PySem.wpAt b.M a.A (.func h a.env) (eval e a.env) g X c.s
def z0(a:b5 b)(h:List cS)(st:cS)(i:dw):Prop:=∀(c:aL b) (d:List D) (e:eX) (f:er) (g:pQ->bf->Prop) (X:aF->bf->Prop),bQ a c d->i d c.W e f->dG a c e g->e_ a c f X->PySem.wpAt b.M a.A (.func h a.env) (exec st a.env) g X c.s
def ajG{c:Str}(i:Cf g)(p:KC g b)(Fo:B9 g)(gC:∃o,g.K.lookup d=some o/\o.data=.func b)(s:zS d b z.env)(u:c="__init__"\/c="pop"\/c="__len__")(H:f.endLine=pos.line)(L:z.ns[0]?=some ("self":Str)) (w:z.env.kindOf ("self":Str)=some .local) (x:z.env.kindOf ("super":Str)=some .globalImplicit) (A:z.env.kindOf ("__class__":Str)=some .free):
 FW z j (.Call (.Attribute (.Call (.Name ("super":Str) k) [] [] l) c f) [] [] pos) (sq c):=λa r Q Z K X F h dY=>by
 refine aG (ji h) λo L8 h=>aG F.loc λm hm bw=>?_
 obtain⟨v,t,dF⟩:=bw 0 _ o L L8 w λq=>by subst q;exact bO h
 refine ajI (C:=λv=>m _=some v->_) dF h (λn iF ds kh es qa cY DC e I q t=>?_) t;refine aG gC λof f1 f2=>?_
 refine aG p.head λLf a1 a2=>mN p.code λjP jU CP file I1 b1 b2 Lm M N=>jN p.cell λca Y O P R=>Cr i.cls λcd XE B D aoG w8 aoH x4=>?_
 have S:fD g.M a.s.heap _ true:=Rl a.c8 i.self;refine J (Ar ..)<|PySem.wpAt_bind (PySem.wpAt_mono (ks_wpAt_super_base x A (by obtain rfl|rfl|rfl:=u<;>decide+kernel) s.fn (a.c8 _ _ f1) f2 a1 (s.code▸b1) (a.c8 _ _ b2) Lm M N i.top
  (Fo z _ "super" _ a _ _ bC x ⟨rfl,aox z.fn A (s.cl _ p.aff▸O) ⟨_,a.c8 _ _ P,R⟩ ?_⟩)) (λao5 s1 T=>T) λU U V=>V)
 rw[a2];refine xN z.fn w hm t<|ks_wpAny_isType_cls (a.c8 _ _ B) D ⟨rfl,?_⟩;refine ks_wpAny_call_super (a.c8 _ _ B) D I.acc.at_ rfl (λU e=>by contradiction) S λW E G=>?_
 let y:=a.cC {a.s with heap:=W} G (bF<|dJ E) rfl rfl;refine PySem.wpAt_of_wpAny<|ak<|j_ ?_;exact ajR i u (dY.le y.le) e (I.cC G) E H q
end
structure ed(g:G):Prop where
 B:gP g
 P:R2 g
 mx:Kx g
 M:GM g
 I:B9 g
def ns{a:w}(b:none=some a):p:=Option.noConfusion rfl<|heq_of_eq b
def jF(c:G)(d:b3)(f:b_->aI->bB):Prop:=∀(a:b5 c) (b:b_) (e:aI),a.cf=d->f9 a b->cH a e (f b e)
def ed.Bv(A:ed b)(f:b5 b):KY b f.A f.fr f.cf:=λc q t B D X ok g a u=>by
 have E:=c9 g;unfold mR at a;revert E a;have h:∀{n:Bool} j i,B n c.W->D n {c.s with drawn:=j,toks:=i}:=λj i d=>u ⟨c.tk j i,c.I3 j i⟩ _ d
 have F:(lim:Int)<2^63:=av;have v:∀{l:Nat},l<=lim->(l:Int)<2^63:=λa=>ha (lZ.mpr a) F
 obtain _|_|L|s|p|p:=bx c.W q
 .intro a _;obtain _|_|n|_|_|_|_|l|_|⟨l,x,M,m⟩:=q<;>first|exact bO a|skip
  .exact J (show t=_ from g)<|B7<|h c.s.drawn c.s.toks a
  .exact akW A.B f.qT f.aU f.qR ok g a u
  obtain⟨rfl,a⟩:=a;obtain⟨w,rfl,g⟩:=g;obtain⟨d,_⟩|⟨_,o,G,K⟩|⟨d,_⟩|⟨d,_⟩:=g
  .cases d
  .have y:c.s.TypeIs (.ref w) "re.Match":=⟨o,c.R.cG _ _ G,K⟩;refine ak<|wpAny_callSpecial?_none y (by rw[zE];kernel_rfl) ?_;exact ak<|zJ y (r:=none) (by rw[zE];kernel_rfl)<|aK<|h c.s.drawn c.s.toks a
  .cases d
  cases d
 .intro a k;exact J (show t=_ from k)<|truthy_none<|h _ _ a
 .rintro a ⟨i,rfl⟩;exact apI<|h _ _ a
 .rintro a ⟨m,i,rfl⟩
  refine P.truthy_str (J (g9 ..)<|QH.mpr<|v m) ?_;exact J (g9 ..)<|J (show(((H s):Int) !=0)=!s.isEmpty by cases s<;>rfl)<|h _ _ a
 .rintro a ⟨m,w,z,N,rfl,e,r⟩
  refine wpAny_truthy_list (gI e) (J cK<|J r.cg<|v m) ?_;exact J (show z.toArray.isEmpty=p.isEmpty by have:=r.cg;cases p<;>cases z<;>first|rfl|cases this)<|h _ _ a
 exactλa=>bO a
def ed.Ud(h:ed b)(a:b5 b):Fq b a.A a.fr a.cf:=λi q r j as s k t l u m X le ok d f c g v=>by
 replace c:sel _ _ _:=c;rcases e:i==1008 with _|_
 .obtain⟨rfl,n⟩:=iH (fR e c);refine aG (ji n) λw ao p=>?_
  exact J f.no<|(sz h.B a.qT a.aU a.qR).mem _ (aeb ao) j as k l m X ok d p g
 exact J (ck e)<|tl a.qT a.aU a.qR ok d f (jJ e c) g
def ed.made(f:ed b)(a:b5 b):FF b a.A a.fr a.cf:=λd m s i c as t u v w x y X le ok n p g q z=>by
 obtain⟨rfl,g⟩:=iH g;refine J p.no<|iT (f.M.init d m i) λr j k=>?_
 have l:lP d:=by unfold lP;exact J i rfl
 have h:=aeJ (X:=X) r l a.qT a.aU a.qR ok n g q;refine pX ?_;by_cases e:d=236
 .subst e;exact K1 f.M.acc λA B D eW I=>aez (aeA c.c8 I) (mU c.c8 j) (λself=>bind_fn c.c8 self k) h
 rw[<-lp e] at h;exact make_core (makes_of c.c8<|f.M.plain d l e) (mU c.c8 j) (λself=>bind_fn c.c8 self k) (.inl rfl) h
def ed.pg(g:ed b)(h:b5 b):Sf b h.A h.fr h.cf:=λj n p B k D v X d a f=>by
 obtain _|_|_|_|x|_|_|l|l|⟨l,x,E,G⟩:=n<;>first|exact bO a|skip
 .obtain⟨m,w,rfl⟩:=d;exact aeO m a f
 .obtain⟨i,rfl⟩:=d;obtain⟨o,e,a⟩:=ez (λa=>a) a;obtain y|⟨H,K,y⟩|_|_:=o<;>first|exact bO a|skip
  .exact Xi i e a f
  exact aeN g.B h.qT h.aU.ok h.qR i e a f
 .exact J (show p=nh l from d)<|by
   obtain⟨i,a⟩:=a;obtain⟨rfl,rfl⟩|⟨rfl|rfl,rfl⟩:=i
   .refine Iu (g.P.ws _ j.c8) Pg dx (f _ _ _ .bi (ic.of λq as L M v X le d c f=>?_) a);refine aG (jV c) λn z c=>?_;subst z
    exact mq d λp d=>pM (c9 d) c λs w m c=>jN (jJ av c) λN O r i c=>VB (g.P.ws _ q.c8) m r.1 r.2 i (i_.cG f) c
   .exact Iu (g.P.nm _ j.c8) Pf dv<|f _ _ _ .bi (U' g.P.nm av rfl) a
   exact Iu (g.P.vl _ j.c8) Pf dv<|f _ _ _ .bi (U' g.P.vl av rfl) a
 obtain⟨rfl,rfl,a⟩:=a;obtain⟨P,rfl,d⟩:=d;obtain⟨c,_⟩|⟨c,_⟩|⟨_,A,Q,t⟩|⟨c,_⟩:=d
 .contradiction
 .contradiction
 .have u:=j.R.cG _ _ t;exact E7 ⟨_,u,rfl⟩ F.plainAttrs_dict amH F.type_dict_items (λq e=>⟨_,(Value.ref.inj e)▸u,rfl⟩)<|f _ _ _ .bi (L' A t) a
 cases c
def Sj(e:aI)(a:Env):Prop:=Rg e a (eval e a)=(do let b<-eval e a;vq e.pos;holding [b]<|truthy b)
def mQ(c:ed g)(a:cD z i b)(d:Sj i z.env):cH z i (cC z.cf b):=⟨a,Z6 (c.Bv z) a d,Pc c.B a⟩
def Bf{a:eY (List D)}(k:ed g)(b:z5 z i a)(l:Sj i z.env):cH z i (cC z.cf (lay own a)):=mQ k (λc d m n p X e f h j=>by
 cases own with
 |true=>exact b c d _ _ _ _ e f (i_.own h) j
 |false=>exact b c d _ _ _ _ e f (i_.cG h) j) l
def Ed(c:ed g)(a:cD z i b)(e:St z i d):cH z i (mt z.cf b d):=⟨a,e,Pc c.B a⟩
def Be(a:b=true->cH d i e)(c:b=false->cH d i f):cH d i (bif b then e else f):=by
 obtain _|_:=b
 .exact c rfl
 exact a rfl
def f9.s(c:f9 z b)(f:jF g z.cf d)(a)(e:aI):cH z e (d (b.at a) e):=f z _ e rfl<|c.at a
def Eo{a:b_->aI->bB}(g:∀e,cH d e (a f e))(h:jh b=true):m5 d b (b.map (a f)):=by
 induction b with
 |nil=>exact Pz
 |cons e b i=>
  have c:=(bl ..).mp<|(nJ ..).symm.trans h;exact Py c.1 (g e).v<|i c.2
def ZL{g:b_->aI->bB}(m:∀e,cH d e (g f e)):vH d b (b.map λk=>g f k.value):=by
 induction b with
 |nil=>exact IK
 |cons k b n=>
  obtain⟨h,e,s⟩:=k;exactλpos p i t u w X j q r l=>by
   exact wpAny_evalAll_cons<|ak<|((m e).v) p i _ _ _ _ j q (λx c=>ak<|j_<|aK<|n pos x.toaL i _ _ _ _ (j.to x.le) c (λa h c=>r ⟨⟨a.toaL,x.le.bS a.le⟩,x.v::a.v,x.d::a.d,x.bw.to a.le,a.bw⟩ (aZ xA h) c)<|l.le x.le) l
def H5(d:ed g)(a:f9 z b)(x):cH z (.Name x pos) (Zu z.cf b x):=by
 refine Be (λc=>mQ d (λf p q r h X s i j t=>?_) rfl) λc=>Be (λu=>?_) λU=>cH.gm λe=>?_
 .show aE _ _ (do vq pos;if _=true then debugConstant else E8 z.env x) h X f.s;exact J (dI c)<|ak<|j_<|ak<|mV<|aK<|eG j (tY true) i
 .rcases k:b.gl x with _|v
  .exact cH.no
  exact mQ d (λf p q r h X s i j t=>nR (a.gl z x v f h X k (a.dg▸ck u) λy w=>eG j w i) c) rfl
 rw[bl,bl] at e;have l:=Nh e.1.2;have m:=e.1.1;rw[a.ns] at l;rw[a.dg] at m;have n:(x==("__classdict__"))=false:=by
  have:=e.2;rcases k:x==_ with _|_
  .rfl
  rw[k] at this;contradiction
 have ao:b.e7 x=kQ x z.ns:=by unfold b_.e7;rw[a.ns]
 rw[ao];exact Be (λU=>mQ d (aj0 l m c n) rfl) λU=>mQ d (aj9 l m c n) rfl
def H0(d:ed g)(e):cH z (.Constant e k pos) (Zr z.cf e):=by
 obtain _|_|_|_|_|_|_|_|_|_:=e<;>first|exact cH.no|skip
 .exact mQ d (λf h i j l X m a c n=>Constant_none<|eG c vJ a) rfl
 .exact mQ d (λf h i j l X m a c n=>Constant_bool<|eG c (tY b) a) rfl
 .exact mQ d (λf h i j l X m a c n=>aot<|eG c (kL _ _) a) rfl
 exact cH.gm λa=>mQ d (aj7<|eB a) rfl
def Hk(w:ed g)(y:f9 z d)(A:jF g z.cf f)(op):cH z (.BoolOp op b pos) (wK z.cf f d (.BoolOp op b pos)):=by
 have k:Sq z b _:=λe U=>y.s A 0 e
 cases op with
 |And=>exact Ed w (by
  induction b with
  |nil=>exactλl i n p q X c k h j=>bO k
  |cons e b r=>
   obtain _|⟨aA,b⟩:=b
   .exactλl i n p q X c a h j=>BoolOp_one<|(k e<|.head _).v l i _ _ _ _ c a h j
   refineλl i n p q X c a h j=>BoolOp_and ((k e<|.head _).v l i _ _ _ _ c a (λx a=>(w.Bv z) x.toaL x.d x.v _ _ _ (c.to x.le).ok x.bw a λm s a=>?_) j)
   cases s with
   |true=>exact r (λe u=>k e<|.tail _ u) m.toaL i _ _ _ _ ((c.to x.le).to m.le) a ((h.le x.le).le m.le)<|(j.le x.le).le m.le
   |false=>exact dc.dB (h.le x.le) m x.bw a) (by
  induction b with
  |nil=>exactλl i n p q X c k h j=>isTrue_and_nil<|h ⟨l,bJ.same rfl rfl (λU U U U e=>.ff e) (aS _) rfl rfl⟩ true k
  |cons e b r=>
   refineλl i n p q X c a h j=>isTrue_and<|(k e<|.head _).t l i _ _ _ _ c a (λx s a=>?_) j
   cases s with
   |true=>exact r (λe u=>k e<|.tail _ u) x.toaL i _ _ _ _ (c.to x.le) a (h.le x.le)<|j.le x.le
   |false=>exact h x false a)
 |Or=>exact Ed w (by
  induction b with
  |nil=>exactλl i n p q X c k h j=>bO k
  |cons e b r=>
   obtain _|⟨aA,b⟩:=b
   .exactλl i n p q X c a h j=>BoolOp_one<|(k e<|.head _).v l i _ _ _ _ c a h j
   refineλl i n p q X c a h j=>BoolOp_or ((k e<|.head _).v l i _ _ _ _ c a (λx a=>(w.Bv z) x.toaL x.d x.v _ _ _ (c.to x.le).ok x.bw a λm s a=>?_) j)
   cases s with
   |false=>exact r (λe u=>k e<|.tail _ u) m.toaL i _ _ _ _ ((c.to x.le).to m.le) a ((h.le x.le).le m.le)<|(j.le x.le).le m.le
   |true=>exact dc.dB (h.le x.le) m x.bw a) (by
  induction b with
  |nil=>exactλl i n p q X c k h j=>isTrue_or_nil<|h ⟨l,bJ.same rfl rfl (λU U U U e=>.ff e) (aS _) rfl rfl⟩ false k
  |cons e b r=>
   refineλl i n p q X c a h j=>isTrue_or<|(k e<|.head _).t l i _ _ _ _ c a (λx s a=>?_) j
   cases s with
   |false=>exact r (λe u=>k e<|.tail _ u) x.toaL i _ _ _ _ (c.to x.le) a (h.le x.le)<|j.le x.le
   |true=>exact h x true a)
def He(h:ed g)(a:f9 z b)(c:jF g z.cf d)(e f)(o):cH z (.BinOp e o f pos) (wK z.cf d b (.BinOp e o f pos)):=
 Be (λU=>cH.gm λi=>by
  have:o=.Add:=by cases o<;>first|rfl|contradiction
  subst this;exact Bf h (aj_ (a.s c 0 e).v (a.s c 0 f).v) rfl) λU=>mQ h (ajW (c z b e rfl a).v (c z b f rfl a).v) rfl
def Kj(c:ed g)(e:f9 z b)(f:jF g z.cf d)(op)(a):cH z (.UnaryOp op a pos) (wK z.cf d b (.UnaryOp op a pos)):=by
 obtain _|_|_|_:=op<;>first|exact cH.no|skip
 .exact⟨a4 (c.Bv z) (e.s f 0 a).v,ajl (e.s f 0 a).t,Pc c.B<|a4 (c.Bv z) (e.s f 0 a).v⟩
 exact mQ c (aj5 (e.s f 0 a).v) rfl
def H3(i:ed g)(a:f9 z b)(c:jF g z.cf d)(e f h):cH z (.IfExp e f h pos) (wK z.cf d b (.IfExp e f h pos)):=
 Ed i (aj2 (cf:=z.cf) (a.s c 0 e).t (c z b f rfl a).v (c z b h rfl a).v) (ajk (cf:=z.cf) (a.s c 0 e).t (c z b f rfl a).t (c z b h rfl a).t)
def Ki(c:ed g)(h:f9 z b)(i:jF g z.cf d):cH z (.Tuple f k pos) (wK z.cf d b (.Tuple f k pos)):=cH.gm λa=>
 have a:=(bl ..).mp a
 mQ c (aj8 (eB a.2)<|Eo (λe=>i z b e rfl h) a.1) rfl
def Hn(l:ed g)(a:f9 z b)(c:jF g z.cf d)(f)(h)(e):cH z (.Compare f h e pos) (Zs z.cf (d (b.at 0)) f h e):=by
 obtain _|⟨o,h⟩:=h
 .exact cH.no
 obtain _|⟨j,e⟩:=e
 .exact cH.no
 obtain _|⟨q,h⟩:=h
 .obtain _|_:=e
  .exact cH.gm λi=>Ed l (ajY ((mS _).mp i) (a.s c 0 f).v (a.s c 0 j).v)<|aji ((mS _).mp i) (a.s c 0 f).v (a.s c 0 j).v
  exact cH.no
 obtain _|⟨m,e⟩:=e
 .exact cH.no
 refine cH.gm λi=>?_
 rw[bl,bl] at i;obtain⟨⟨n,p⟩,k⟩:=i;cases jM.mp n
 cases jM.mp p
 have k:=(mS _).mp k;exact Ed l (ajZ k (a.s c 0 f).v (a.s c 0 j).v (a.s c 0 m).v)<|ajj k (a.s c 0 f).v (a.s c 0 j).v (a.s c 0 m).v
def ZP:n_ i=some b->∃d,i=.Slice b.1 b.2.1 b.2.2 d:=by
 induction i using PySem.Expr.casesOn<;>first|exact ns|exactλa=>bY a▸⟨_,rfl⟩
def part_of{a:b_->aI->bB}(c:∀e,cH b e (a d e)):FJ b o (wL f (a d) o).v:=by
 obtain _|e:=o
 .exactλi j k l m X n g h p=>J (evalPart_none ..)<|aK<|eG h vJ g
 exact((c e).v)
def Jn(f:ed g)(a:f9 z b)(c:jF g z.cf d)(h e:aI):cH z (.Subscript h e pos) (wK z.cf d b (.Subscript h e pos)):=by
 show cH z _ (b7 (n_ e) _ λj=>cC z.cf _);rcases i:n_ e with _|j
 .exact mQ f (aj1 f.B (J i rfl) (a.s c 0 h).v (a.s c 0 e).v) rfl
 obtain⟨i,rfl⟩:=ZP i;exact Bf f (akb f.B (a.s c 0 h).v (part_of<|a.s c 0) (part_of<|a.s c 0)<|part_of<|a.s c 0) rfl
def ajO(a):isNm b=none->rO (.Call b [] [] d) e f a=a:=by
 induction b using PySem.Expr.casesOn<;>first|exactλU=>rfl|exactλc=>nomatch c
def ajH(c)(i:!((isNm b).isSome&&as.isEmpty&&d.isEmpty)):rO (.Call b as d e) f h c=c:=by
 obtain _|_:=as
 .obtain _|_:=d
  .rcases g:isNm b with _|x
   .exact ajO c g
   rw[g] at i;contradiction
  exact ajM c
 exact ajF c
where
 ajF {b a:aI} {as:List aI} {d:List pS} {e:Pos} {f:Str} {h:Env} (c:Sem aF):rO (.Call b (a::as) d e) f h c=c:=by
  induction b using PySem.Expr.casesOn<;>rfl
 ajM {b:aI} {a:pS} {d:List pS} {e:Pos} {f:Str} {h:Env} (c:Sem aF):rO (.Call b [] (a::d) e) f h c=c:=by
  induction b using PySem.Expr.casesOn<;>rfl
def IW:yH o=true->∀b,rO o d e b=b:=by
 induction o using PySem.Expr.casesOn<;>first|exactλU U=>rfl|exactλa b=>ajH b a
def Hc(a:ed g)(e:f9 z b)(f:jF g z.cf d)(o)(c):cH z (.Attribute o c pos) (wK z.cf d b (.Attribute o c pos)):=cH.gm λh=>mQ a (ajV a.B (IW h) (e.s f 0 o).v) rfl
def HI(k:ed g)(c:f9 z b)(h:jF g z.cf d)(i)(f)(j):cH z (.ListComp i f j pos) (Zt z.cf d b i f j):=by
 obtain _|⟨m,n⟩:=f
 .exact cH.no
 refine cH.gm λa=>?_
 have a:=(bl ..).mp a;exact Bf k (aj' c a.1 a.2 (c.s h 0 _) λl e I=>h l _ e I.cf<|c.iE I) rfl
def Lk:sF i=some b->i=.Attribute b.1 b.2.1 b.2.2:=by
 induction i using PySem.Expr.casesOn<;>first|exact ns|exactλa=>bY a▸rfl
def yf:qV i=some b->∃d,i=.Call b.1 b.2.1 b.2.2 d:=by
 induction i using PySem.Expr.casesOn<;>first|exact ns|exactλa=>bY a▸⟨_,rfl⟩
def tq:Wc i=some b->∃d,i=.BinOp b.1 b.2.1 b.2.2 d:=by
 induction i using PySem.Expr.casesOn<;>first|exact ns|exactλa=>bY a▸⟨_,rfl⟩
def aep:Wg i=some b->∃d,i=.List b d:=by
 induction i using PySem.Expr.casesOn<;>first|exact ns|exactλa=>bY a▸⟨_,rfl⟩
def Uo:Ht i=some b->∃k d,i=.Constant b k d:=by
 induction i using PySem.Expr.casesOn<;>first|exact ns|exactλa=>bY a▸⟨_,_,rfl⟩
def ajm:isStar i=some x->∃b,i=.Starred x b:=by
 induction i using PySem.Expr.casesOn<;>first|exact ns|exactλa=>bY a▸⟨_,rfl⟩
def Z7(a:yU b=some x):∃d,b=[.Starred x d]:=by
 obtain _|⟨e,b⟩:=b
 .exact ns a
 obtain _|_:=b
 .obtain⟨d,rfl⟩:=ajm a;exact⟨d,rfl⟩
 exact ns a
def oZ{o:Option w}{x:w}(a:(bif b then o else none)=some x):b=true/\o=some x:=by
 obtain _|_:=b
 .exact ns a
 exact⟨rfl,a⟩
noncomputable def XJ{a:Type}(b:List w)(k:w->Option a):Option a:=fk b none λc d=>fk d (k c) λU U=>none
def XK{c:Type}{a:List w}{k:w->Option c}{d:c}(b:XJ a k=some d):∃x,a=[x]/\k x=some d:=by
 obtain _|⟨e,f⟩:=a
 .exact ns b
 obtain _|_:=f
 .exact⟨e,rfl,b⟩
 exact ns b
def acC(x:aI):Option aI:=(qV x).bind λa=>bif isNm a.1==some "iter"&&a.2.2.isEmpty then XJ a.2.1 some else none
def ak5(c:acC x=some e):∃b d,x=.Call (.Name ("iter":Str) b) [e] [] d:=by
 refine aG (gi.mp c) λj f g=>?_
 obtain⟨a,h⟩:=oZ g;obtain⟨d,ao⟩:=yf f;obtain⟨b,aA⟩:=n9<|ck ((bl ..).mp a).1;exact aG (XK h) λk bL i=>⟨b,d,by rw[ao,aA,bL,bY i,jM.mp ((bl ..).mp a).2]⟩
def afx{o:oJ}(a:(o==.Mult)=true):o=.Mult:=by cases o<;>first|rfl|contradiction
def ak7(a:Na x=some j):∃b d e tk f h,x=.BinOp (.List [.Call (.Name ("iter":Str) b) [j] [] d] e) .Mult (.Constant (.int 2) tk f) h:=by
 refine aG (gi.mp a) λt c g=>?_
 obtain⟨i,k⟩:=oZ g;obtain⟨h,ao⟩:=tq c;obtain⟨l,m⟩:=(bl ..).mp i;refine mu (Uo<|ck m) λtk f aA=>aG (gi.mp k) λu n p=>?_
 obtain⟨e,bL⟩:=aep n;exact aG (XK p) λv q r=>mu (ak5 r) λb d s=>⟨b,d,e,tk,f,h,by rw[ao,aA,bL,q,s,afx l]⟩
def akc{dj:List bB}{c:Str}(P:R2 g)(D:∀e,rO i c z.env e=e)(E:f.endLine=pos.line)(l:H b<30)(t:jh b=true)(h0:cD z i j.v)(eH:m5 z b dj):
 z5 z (.Call (.Attribute i c f) b k pos) (CX j c dj k):=λa r Q Z K X F h dY A=>by
 refine J (Ar ..)<|J (D ..)<|ak<|h0 a r _ _ _ _ F h (λx q=>ak<|j_ ?_) A;refine CU x.bw q λn q=>?_
 refine tZ q λG m L wD=>?_;subst G;subst m;subst L
 have M:zC (H b+([]:List pS).length) (tP pos<|qx b z.env) (xC pos<|zB [] z.env)=true:=by
  unfold zC;have a1:(tP pos<|qx b z.env).all (!·.1)=true:=by
   have:=noStar t z.env pos;rw[am4];simpa using this
  rw[a1];exact gb l
 unfold xH;refine J M<|ak<|fT ?_;refine Iu (P.ws _ x.c8) Pg dx<|ak ?_;have jT:vp true i z.env f pos=pure pos:=by
  unfold vp;exact J E<|J (beq_self_eq_true ..) rfl
 rw[jT];refine aK<|Ad (P:=λas B W=>nul B<|ZU as W Q) t rfl .bi eH IK (F.to x.le) wD (λy as B cY nt p N O=>?_)<|A.le x.le;obtain⟨rfl,R⟩:=iH O;rw[N.no];refine aG (jV R) λd m S=>?_;subst m
 exact mq p λv p=>pM (c9 p) S λs e T V=>jN V λu ps w l Y=>VB (P.ws _ y.c8) T w.1 w.2 l ((dY.le x.le).le y.le) Y
def H4(i:ed g)(a:f9 z b)(c:jF g z.cf e){m:Str}(n:yH o=true)(h:(jh as&&d.all (λk=>k.arg.isSome)&&decide (f.endLine=pos.line)&&decide (H as+H d+(bif d.isEmpty then 0 else 1)<30))=true):
 cH z (.Call (.Attribute o m f) as d pos) (bif b.oj==1 then cC z.cf (lay true<|CX (e (b.at 0) o) m (as.map<|e<|b.at 0) d) else cC z.cf<|CV z.cf (e (b.at 0) o) m (as.map<|e<|b.at 0) (d.map λk=>e (b.at 0) k.value)<|o7 d):=by
 obtain⟨h,j⟩:=(bl ..).mp h;obtain⟨h,p⟩:=(bl ..).mp h;obtain⟨l,q⟩:=(bl ..).mp h;have j:=eB j;exact Be (λU=>Bf i (akc i.P (IW n) (eB p) (bz (az (cZ _ _)<|cZ _ _) j) l (a.s c 0 o).v<|Eo (a.s c 0) l) rfl)
  λU=>mQ i (aj4 (i.pg z) (IW n) (eB p) j l q (a.s c 0 o).v (Eo (a.s c 0) l)<|ZL<|a.s c 0) rfl
def H'(a:ed g)(c:f9 z b)(h:jF g z.cf d){i:Str}(j:yH o=true)(k:yU as=some x)(l:(e.isEmpty&&i=="push")=true):
 cH z (.Call (.Attribute o i f) as e pos) (cC z.cf<|CW z.cf (d (b.at 0) o)<|d (b.at 0) x):=by
 obtain⟨m,n⟩:=(bl ..).mp l;obtain⟨p,ao⟩:=Z7 k;rw[ao,jM.mp m,ck n];exact mQ a (aj6 a.B a.mx (IW j) (c.s h 0 o).v (c.s h 0 x).v) rfl
def Hb(c:ed g)(f:f9 z b)(h:jF g z.cf d){a:aI×Str×Pos}:cH z (.Call (.Attribute a.1 a.2.1 a.2.2) as e pos) (i0 (yH a.1)
 stM
 (b7 (yU as)
  (gm (jh as&&e.all (λk=>k.arg.isSome)&&decide (a.2.2.endLine=pos.line)&&decide (H as+H e+(bif e.isEmpty then 0 else 1)<30))
   (bif b.oj==1 then cC z.cf (lay true (CX (d (b.at 0) a.1) a.2.1 (as.map (d (b.at 0))) e)) else cC z.cf (CV z.cf (d (b.at 0) a.1) a.2.1 (as.map (d (b.at 0))) (e.map λk=>d (b.at 0) k.value) (o7 e))))
  λx=>gm (e.isEmpty&&a.2.1=="push") (cC z.cf (CW z.cf (d (b.at 0) a.1) (d (b.at 0) x))))):=by
 rcases i:yH a.1 with _|_
 .exact cH.no
 rcases j:yU as with _|x
 .exact cH.gm<|H4 c f h i
 exact cH.gm<|H' c f h i j
def Hm(H:ed g)(c:f9 z f)(R:jF g z.cf j):cH z (.Call b as e pos) (O7 z.cf j f b as e pos):=by
 unfold O7;rcases w:sF b with _|p
 .rcases hs:yU as with _|x
  .exact cH.gm λh=>by
    have k:=((bl ..).mp h).1;have A:=((bl ..).mp h).2;have m:(sF b).isNone=true:=J w rfl;have s:=Eo (c.s R 0) k;have B:vH z e _:=ZL<|c.s R 0;refine Be (λU=>Bf H (λa r Q Z K X F h dY D=>by
     refine J (uh m ..)<|ak<|((c.s R 0 b).v) a r _ _ _ _ F h (λx q=>?_) D;refine CU x.bw q λn q=>?_
     refine iT q λG t wD=>?_;subst G;subst t
     refine Ad (P:=λas E W=>nul E<|CC as W Q) k rfl .ty s IK (F.to x.le) wD (λy as E cY nt u L M=>?_)<|D.le x.le;obtain⟨rfl,N⟩:=iH M;rw[L.no];refine aG (jV N) λd t O=>?_;subst t
     exact mq u λv u=>TN (Q:=λd W=>pL (bx [] d) λl=>Q l W) u O ((dY.le x.le).le y.le)) rfl) λU=>?_
    have v:=ajX (pos:=pos) H.B (H.Ud z) (H.made z) m k A (c.s R 0 b).v s B;exact⟨v,Z6 (H.Bv z) v rfl,aiI H.B (H.Ud z) (H.made z) m k A (c.s R 0 b).v s B<|aX _⟩
  exact by
   refine cH.gm λh=>?_
   rcases q:Na x with _|y
   .exact cH.no
   refine cH.gm λS=>?_
   obtain⟨i,T⟩:=(bl ..).mp h;obtain⟨i,V⟩:=(bl ..).mp i;obtain⟨i,Y⟩:=(bl ..).mp i;obtain⟨sp,ao⟩:=Z7 hs;obtain⟨p0,aA⟩:=n9<|ck i;refine m2 (ak7 q) λp1 p2 pA tk p4 qf bL=>?_
   rw[ao,aA,bL,jM.mp Y];exact⟨λU U U U U U U h=>bO h,λU U U U U U U h=>bO h,aiJ H.I S (c.dg▸ck V) (c.dg▸ck T) (c.s R 2 y).v⟩
 exact J (Lk w)<|Hb H c R
def Bh(a:ed b)(h)(g):jF b h (ru h g):=by
 induction g with
 |zero=>exactλU U U U U=>cH.no
 |succ g d=>
  intro j k e i c;subst i;exact by
   induction e using PySem.Expr.casesOn;all_goals intros
   all_goals first|exact cH.no|exact Hk a c d _|exact He a c d _ _ _|exact Kj a c d _ _|exact H3 a c d _ _ _|exact HI a c d _ _ _|exact Hn a c d _ _ _|exact Hm a c d|exact H0 a _|exact Hc a c d _ _|exact Jn a c d _ _|exact H5 a c _|exact(cH.gm λf=>
    have f:=(bl ..).mp f
    Bf a (aka (eB f.2) (Eo (c.s d _) f.1)) rfl)|exact Ki a c d
def Ee:M8 i=some b->∃x d,i=.ListComp x d b.1 b.2:=by
 induction i using PySem.Expr.casesOn<;>first|exact ns|exactλa=>bY a▸⟨_,_,rfl⟩
def cP.no{st:cS}:cP b st gJ:=λU U U U U U U a=>bO a
def cP.dN{st:cS}(a:b=true->cP d st e):cP d st (dN b e):=by
 obtain _|_:=b
 .exact cP.no
 exact a rfl
structure iS{g:G}(Γ:b5 g)(c:b_):Prop extends f9 Γ c where
 lT:∀x,Γ.lT x=true
def iS.pI(a:iS b d)(c:d.st x=true):b.ns[d.e7 x]?=some x/\b.pI x:=by
 obtain⟨e,f⟩:=Z5 c;exact⟨by rw[<-a.ns];exact f,bH a.dg<|e,a.lT x⟩
def iS.stN(a:iS b d)(c:d.st x=true):Cn b x:=by
 have:=a.pI c;unfold b_.e7 at this;rwa [a.ns] at this
def iS.Nj(c:iS d b)(a:List Str):a.map b.e7=a.map λx=>kQ x d.ns:=qu λx U=>by
 show kQ x b.ns=_;exact J c.ns rfl
def iS.mo(a:iS d b)(x):f9 d (b.mo x):=by
 unfold b_.mo;obtain _|_:=b.own.contains x
 .exact a.at 0
 exact a.at 1
noncomputable def a5(k:Option kH)(x:Str)(c:Pos)(b:f7×Pos):Bool:=k==some .local&&c.line==b.2.line&&!(b.1.names.any λa=>a.1==x&&(a.2==.local||a.2==.cell))
def a6(a:a5 (z.env.kindOf x) x d b=e):ke [.Name x d] (.ListComp f h b.1 b.2) l z.env=pure e:=by
 show(pure (z.env.blockKind==.function&&z.env.kindOf x==some .local&&d.line==b.2.line&&!(b.1.names.any λ(c,k)=>c==x&&_)):Sem Bool)=pure e;exact J z.block<|aZ pure a
def G'(j:ed g)(a:iS z b)(x):cP z (.Assign [.Name x d] i pos) (dN (b.st x&&(ph i||(M8 i).isSome)) (BB (b.e7 x) (ru z.cf (e+1) (b.mo x) i))):=cP.dN λc=>by
 obtain⟨q,f⟩:=(bl ..).mp c;obtain⟨k,m⟩:=a.pI q;obtain f|f:=(lY ..).mp f
 .exact Z2 k m (uE f) (Bh j z.cf _ z _ i rfl<|a.mo x).v
 obtain⟨h,r⟩:=xB.mp f;refine mu (Ee r) λD t u=>?_;subst u
 rcases n:a5 _ x d h with _|_
 .exact Z2 k m (a6 (l:=pos.line) n) (Bh j z.cf _ z _ _ rfl<|a.mo x).v
 obtain _|⟨E,l⟩:=t
 .exactλU U U U U U U c=>bO c
 have p:=Bh j z.cf e;show cP z _<|BB _<|gm _ _;rcases w:(b.mo x).Ak h.1&&((b.mo x).iE h.1).ud h.1 _ with _|_
 .exactλU U U U U U U c=>bO c
 obtain⟨y,A⟩:=(bl ..).mp w;exact ai5 (a.mo x) y A ((a.mo x).s p 0 _) (λB i I=>p B _ i I.cf<|(a.mo x).iE I) k m<|a6 n
def yE(a:b_)(b:aI):b_:=b7 (isNm b) (a.at 0) a.mo
def iS.yE(a:iS b d)(c):f9 b (yE d c):=by
 unfold M.Internal.yE;cases isNm c with
 |none=>exact a.at 0
 |some x=>exact a.mo x
def akd(i:iS z f)(j:jF g z.cf h):∀(d b:List aI),jh b=true->H b=H d->m5 z b ((d.zip b).map λe=>h (yE f e.1) e.2):=λd=>by
 induction d with
 |nil=>intro b _ a;cases b with
  |nil=>exact Pz
  |cons=>contradiction
 |cons k d l=>
  intro b m a;cases b with
  |nil=>contradiction
  |cons n b=>
   have c:=(bl ..).mp<|(nJ ..).symm.trans m;exact Py c.1 (j z _ n rfl<|i.yE k).v<|l b c.2<|Nat.succ.inj a
set_option tactic.hygienic true in
def ait(h:iS z b)(m:jF g z.cf d){s:qE}:Eg (d (b.at 0)) b i=some s->KX z i s/\isStar i=none:=by
 induction i using PySem.Expr.casesOn<;>first|exact ns|skip
 .rename_i o n r;intro a;obtain⟨c,j⟩:=oZ a;exact⟨bY j▸(λt p u w y A B X e k a l q=>by
   refine J (pa _ _ _ _ _ c)<|ak (fT (fq (Wr c ((h.s m 0 o).v) ((h.s m 0 n).v) e k a (λf D=>l ⟨f.toaL,f.le.of0⟩ p (e.to f.le) D) (e_.x q e.ok)) (λo s a=>ak (fT (fq a (λn s a=>ak (j_ (ak (fT (fq a (λF s a=>kA a) λU U a=>a))))) λU U a=>a))) λU U a=>a))),rfl⟩
 rename_i x r;intro a;obtain⟨c,j⟩:=oZ a;exact⟨bY j▸(λt p u w y A B X e k a l q=>Kh (wQ e ((h.pI c).1) ((h.pI c).2) k λf i E=>l f _ E<|i▸a)),rfl⟩
def Ha(c:iS z d)(r:jF g z.cf f):cP z (.Assign [.Tuple b k l] i pos) (dN (ph i) (b7 (isTup i)
 (dN (b.all (λi=>(isNm i).isSome)&&d.Br (b.filterMap isNm))<|Qf ((b.filterMap isNm).map d.e7)<|f (d.at 0) i)
 λe=>dN (decide (H e<=1000)&&jh e&&H e==H b) (b7 (yV d.dg b e) gJ λo=>b7 o
  (dN (b.all λi=>(Eg (f<|d.at 0) d i).isSome)<|Jm (b.filterMap<|Eg (f<|d.at 0) d) ((b.zip e).map λh=>f (yE d h.1) h.2))
  λj=>dN (d.Br j&&H j==H b) (Jl (j.map d.e7) ((b.zip e).map λh=>f (yE d h.1) h.2))))):=cP.dN λA=>by
 rcases m:isTup i with _|e
 .refine cP.dN λa=>?_
  obtain⟨n,p⟩:=(bl ..).mp a;rw[c.Nj];exactλB w M N O X s a D E=>by
   have F:pK (.Tuple b k l)=some (true,b.filterMap isNm):=by
    show(bif b.all (λi=>(isNm i).isSome) then some _ else none)=_;exact J n rfl
   exact Assign_Tuple (((c.s r 0 i).v) B w _ _ _ _ s a (λx m=>PL F (λx t=>c.stN<|dQ.mp p x t) x.toaL w x.d x.v _ _ _ (s.to x.le) x.bw m λG P i K m=>dG.at_ (dG.le (dG.le D x.le.of0) G.le) K (fl:=.next) rfl<|i▸m)<|e_.x E s.ok) (Oc A)<|afd m
 refine mu (Hw m) λQ R L=>?_;subst L
 exact cP.dN λa=>by
  obtain⟨a,q⟩:=(bl ..).mp a;obtain⟨n,p⟩:=(bl ..).mp a;have n:=eB n;have q:=ck q;have y:=akd c r b e p q;rcases m:yV d.dg b e with _|o
  .exact cP.no
  have u:=m;rw[c.dg] at u;obtain _|j:=o
  .exact cP.dN λa=>ai8 p n q y a (λi S U a=>ait c r a) u
  refine cP.dN λa=>?_
  rw[c.Nj];exact ai7 p n y (λx t=>c.stN<|dQ.mp ((bl ..).mp a).1 x t) u
def F'(w:ed g)(c:iS z b)(h:jF g z.cf d){l:aI}:cP z (.Assign [.Subscript o l f] i pos) (dN (ph i) (b7 (n_ l) (Qd (d (b.at 0) o) (d (b.at 0) l) (d (b.at 0) i)) λe=>dN e.2.2.isNone (Qe (d (b.at 0) o) (wL z.cf (d (b.at 0)) e.1) (wL z.cf (d (b.at 0)) e.2.1) (d (b.at 0) i)))):=cP.dN λs=>by
 rcases a:n_ l with _|e
 .exact ai6 (J a rfl) s (c.s h 0 i).v (c.s h 0 o).v (c.s h 0 l).v
 refine cP.dN λr=>?_
 obtain⟨a,rfl⟩:=ZP a;rw[E1.mp r];exactλy p D E F X m r A B=>by
  have q:=e_.x B m.ok;refine aos (((c.s h 0 i).v) y p _ _ _ _ m r (λx a=>((c.s h 0 o).v) x.toaL p _ _ _ _ (m.to x.le) a (λj a=>wpAny_Slice ?_)<|q.le x.le) q)<|uE s;have t:=(m.to x.le).to j.le;refine(part_of<|c.s h 0) j.toaL p _ _ _ _ t a (λk a=>(part_of<|c.s h 0) k.toaL p _ _ _ _ (t.to k.le) a (λn a=>?_)<|((q.le x.le).le j.le).le k.le) ((q.le x.le).le j.le);exact J (evalPart_none ..)<|aK (aiA w.B ((j.bw.to k.le).to n.le) (k.bw.to n.le) n.bw (((x.bw.to j.le).to k.le).to n.le) a λu a=>dG.ev A m ⟨u.toaL,(((x.le.bS j.le).bS k.le).bS n.le).bS u.le⟩ (fl:=.next) rfl a)
def alw{n:List bG}{G:Array JA->Array JA->Prop}{St:Nat->bf->Prop}(a:BV f h j I n k G l m St):
 BV f h j I n k G (l+1) (λd e=>∃b,d=b+1/\m b e) (λd s=>∃b,d=b+1/\St b s) where
 sub:=a.sub
 grefl:=a.grefl
 gtrans:=a.gtrans
 frame:=λd s p tk st q r=>by obtain⟨b,rfl,st⟩:=st;exact⟨b,rfl,a.frame b s p tk st q r⟩
 item:=λd s c g t st i=>by
  obtain⟨b,rfl,st⟩:=st;exact a.item b s c g (JU t) st λe u v w x=>i e u ⟨b,rfl,v⟩ ⟨b+1,rfl,w⟩ x
 done:=λs c g st i=>by
  refine aG st λb y st=>?_
  obtain rfl:=Nat.succ.inj y;exact a.done s c g st i
 self:=λd s c g st i=>by obtain⟨b,rfl,st⟩:=st;exact a.self b s c g st i
def Yd(a)(val):∀b,tR (λd=>match d with|0=>a|e+1=>val e) (b+1)=a+tR val b
 |0=>by simp[tR]
 |b+1=>by
  have c:=Yd a val b;show tR _ (b+1)+val b=_;rw[c];exact QF ..
def y7{s:bf}(h:aE (model prog ww) A.in1 (qv x) (λit lE=>∃I G5 wr G n P St val,it=.ref I/\BV prog ww A.in1 I G5 wr G n P St/\St 0 lE/\(∀b∈G5,b<lE.heap.objs.size)/\
 (∀i v,P i v->∃t,v=.int (val i) t)/\∀s' uZ,Moved wr G lE s'->Q (.int (lQ+tR val n) uZ) s') E s):
 aE (model prog ww) A (call (.builtin "sum") [x,.int lQ c0]) Q E s:=by
 refine call_function_tree F.kind_sum F.plain_sum F.entry_sum (by kernel_rfl) ?_;unfold Builtin.«sum»;refine wn (oG 2)<|ak<|tS (show aph "sum" ["start"] 0 ⟨[.int lQ c0],[]⟩=pure [some _] from rfl) ?_;refine ak (fq h (λit lE v5=>?_) λU U e=>e);obtain⟨I,G5,wr,G,n,P,St,val,rfl,W,abD,abh,abG,ni⟩:=v5;have L8:tR (λi=>match i with|0=>lQ|j+1=>val j) 1=lQ:=by simp[tR]
 have fin:∀(st:Int) (u4:Tok) (tk:Nat),(st=0\/st=2)->lE.toks<=tk->nQ (model prog ww) A (.builtin "sum.loop" ⟨[.ref I,.ref lE.heap.objs.size,lG st,lG 0],[]⟩) (wants Q E)
  {lE with heap:=lE.heap.push {cls:=.type "list",data:=.seq #[.int lQ u4]},toks:=tk}:=by
  intro st u4 tk MT Hj;have c7:=codeAny_sum_loopAnyS (R:=wants Q E) (alw W) (λi=>match i with|0=>lQ|j+1=>val j) (λi v ⟨j,vZ,Ax⟩=>by subst vZ;exact abG j v Ax) lE.heap.objs.size (λhm=>oG _<|abh _ hm) n 1
   {lE with heap:=lE.heap.push {cls:=.type "list",data:=.seq #[.int lQ u4]},toks:=tk} u4 0 st MT rfl (iI<|b9 _) ⟨0,rfl,W.frame 0 lE _ _ abD Hj λb U o e=>fZ _ e⟩ (L8.symm▸g_ _ rfl)
   λs' uZ hm=>by
    exact J (Yd ..)<|ni s' uZ<|hm.drop_new Hj
  exact c7
 have tail:∀st u4 tk,(st=0\/st=2)->lE.toks<=tk->aE (model prog ww) A.in1
  (forIn [("str","strings","''"),("bytes","bytes","b''"),("bytearray","bytearray","b''")] an1 (λx U=>do
   if<-tQ (.int lQ u4) (.type x.1) then
    rule "sum.start-refused";raiseError "TypeError" s!"sum() can't sum {x.2.1} [use {x.2.2}.join(seq) instead]"
   pure (Jy an1))>>=λU=>E_ [.int lQ u4]>>=λl=>again (.builtin "sum.loop" ⟨[.ref I,l,lG st,lG 0],[]⟩))
  (λfin s'=>match fin with|.done f=>wants Q E (.ok f) s'|.again sd=>sd.quiet=true/\nQ (model prog ww) A sd (wants Q E) s') (λe s'=>E e s') {lE with toks:=tk}:=by
  intro st u4 tk MT Hj;refine ak<|ak<|ak<|Fg (Kg _ _ _) PySem.sub_int_str ?_;refine aK<|ak<|ak<|Fg (Kg _ _ _) PySem.sub_int_bytes ?_;refine aK<|ak<|ak<|Fg (Kg _ _ _) PySem.sub_int_bytearray ?_;refine aK<|aK ?_;refine ak<|l9 ?_;exact aK ⟨plainId_quiet F.plain_sum_loop _,fin st u4 tk MT Hj⟩
 refine alD ?_ ?_
 .refine ak (mV<|ak<|Rw<|ak<|aK ?_);exact tail 0 lE.toks _ (.inl rfl)<|gy _
 refine ak (aK ?_);exact tail 2 c0 lE.toks (.inr rfl)<|aS _
def AV{o:Option w}{x:w}(a:o=none)(k:o=some x):p:=by rw[a] at k;contradiction
structure tU{g:G}(a:aL g)(fM:e9)(sd:bP):Prop where
 w:sd.w=a.c.w
 bW:sd.bW=a.c.bW
 old:∀x o,a.c.f x=some o->sd.f x=some o
 new:∀x o,sd.f x=some o->a.c.f x=some o\/(a.aC<=x/\fM.get? x=some o)
def tU.ff:tU b d b.c:=⟨rfl,rfl,λU U a=>a,λU U a=>.inl a⟩
def tU.put(a:b.aC<=x)(g:d.get? x=some o):tU b d (b.c.put x o):=⟨rfl,rfl,(bP.q9 (N:=0) (b.fresh a)).f,λh i e=>by
 by_cases c:h=x
 .subst c;rw[bP.ny] at e;exact .inr ⟨a,(bY e)▸g⟩
 rw[bP.wB c] at e;exact .inl e⟩
def tU.le(a:tU b e d)(c:Nat):b.c.le c d c:=⟨a.old,λU U=>J a.bW rfl,aS _⟩
def Rep.tabs(c:tU a d f)(r:b∈fh)(t:a.aC<=d.objs.size)(p:zg b a.s.heap d)(u:d.get? b=some {cls:=.none,data:=.fields h})(v:zx h.toList)(w:b=445->rR f h.toList):Rep g f a.W d where
 cG:=λx o e=>(c.new x o e).elim (λe=>p x o (λj=>AV (a.R.own b 0 (a.R.tab b r).1).1<|j▸e)<|a.R.cG x o e) λe=>e.2
 base:=λx o e m=>c.old x o<|a.R.base x o e m
 objs:=λk o e=>by
  by_cases m:k=0
  .subst m;cases a.R.kC.symm.trans e
   intro q y;obtain⟨i,z,l,n,A⟩:=a.R.tab q y;refine⟨c.w▸i,?_⟩;by_cases s:q=b
   .subst s;exact⟨h,u,v,w⟩
   exact⟨z,p q _ s l,n,λe=>(A e).mono<|c.le 0⟩
  exact k9.keep (c.le _) (jw e) (λx o i l=>⟨c.w▸i,p x o (λj=>m<|bY<|(j▸i:a.c.w b=some k).symm.trans (a.R.tab b r).1) l⟩)<|a.R.objs k o e
 own:=λx k e=>by
  refine iT (a.R.own x k<|c.w▸e) λi l n=>?_
  refine⟨?_,l,bZ n t⟩;rcases j:f.f x with _|o
  .rfl
  exact(c.new x o j).elim (λe=>AV i e) λe=>aW n<|bA.mpr e.1
 kC:=a.R.kC
def aL.tabs(a:aL j)(tk:Nat)(g:tU a b f)(m:d∈fh)(n:a.aC<=b.objs.size)(p:zg d a.s.heap b)(q:b.get? d=some {cls:=.none,data:=.fields h})(r:zx h.toList)(t:d=445->rR f h.toList):cM a where
 c:=f
 W:=a.W
 s:={a.s with heap:=b,toks:=tk}
 R:=Rep.tabs g m n p q r t
 le:=⟨g.le _,λx i u=>⟨by
  rcases k:f.f x with _|o
  .rfl
  exact(g.new x o k).elim (λe=>AV i.1 e) λe=>aW u (bA.mpr e.1),by rw[g.w];exact i.2⟩,λx o i U e=>.ff (p x o (λk=>AV i.2 (k▸(a.R.tab d m).1)) e),n,⟨λU U l=>l,λl=>l⟩,rfl⟩
structure xQ(g:G)(jP p:bG):Prop where
 mem:p∈fh
 at_:∃o cY file I1 flags pJ ab' text tt,g.K.lookup jP=some o/\o.cls=.type "code"/\o.data=.fields cY/\cY[11]?=some (.ref p)/\cY.getD 11 .none=.ref p/\cY.getD 18 .none=.str file I1/\cY.getD 7 .none=.int flags pJ/\
  cY.getD 9 .none=.bool ab'/\cY.getD 10 .none=.int text tt/\jP≠p
def code_at(c:xQ f e d)(a:aL f):∃b,a.s.heap.IsCode e d b/\a.s.heap.TableAt e d b:=by
 obtain⟨o,g,file,j,k,l,m,text,n,p,q,h,r,s,t,u,v,w,x⟩:=c.at_;obtain⟨_,b,i,y,_⟩:=a.R.tab d c.mem;have fG:=a.c8 _ _ p;exact⟨b,⟨o,g,file,j,k,l,m,text,n,_,fG,h,s,t,u,v,w,i,rfl,y,x⟩,⟨o,g,fG,q,h,r⟩,i⟩
def D'{a:e9}(f:a.IsCode e d b)(g:a.TableAt e d b):a.get? d=some {cls:=.none,data:=.fields b}/\zx b.toList:=by
 obtain⟨_,_,_,_,_,_,_,_,_,op,_,_,_,_,_,_,_,c,h,i,_⟩:=f;cases(c.symm.trans g.2)
 cases h
 exact⟨c,i⟩
def aaz(c:xQ g h f)(r:f≠445)(i:j.code=.ref h)(n:∀d (b:cM a),b.c=a.c->b.W=a.W->zg f a.s.heap b.s.heap->b.s.gens=a.s.gens->b.s.drawn=a.s.drawn->E d b.s):aE g.M k (genexprCode j pos l m) E K a.s:=by
 refine aG (code_at c a) λs p t=>?_
 rcases e:xE pos s.toList with _|d
 .refine wpAny_genexprCodeX i p t e λd B tk q u v w U x U=>?_
  obtain⟨y,z⟩:=D' w x;exact n _ (a.tabs tk .ff c.mem (az u<|bF v) q y z λe=>aW e r) rfl rfl q rfl rfl
 exact wpAny_genexprCode_hit i p e<|n d ⟨a,bJ.same rfl rfl (λU U U U e=>.ff e) (aS _) rfl rfl⟩ rfl rfl (λU U U A=>A) rfl rfl
structure Si(h:e9)(N:Nat)(v:aF)(p:List Nat×List Nat)(T:bG)(n:Nat)(t u:Tok):Prop where
 v:v=.ref T
 lt:T<N
 o:h.get? T=some {cls:=.type "tuple",data:=.seq #[.str (toS p.1) t,.str (toS p.2) u] n}
 Jp:p.1.length<=lim
 Qm:p.2.length<=lim
def FI(f:e9)(g:Nat)(a:List aF)(b:List (List Nat×List Nat)):Prop:=H a=H b/\∀(c:Nat) d,b[c]?=some d->∃e,a[c]?=some e/\∃h i j k,Si f g e d h i j k
def agw(n:a.V (.tup [.str b.1,.str b.2]) k):∃d f h j,Si a.s.heap a.aC k b d f h j:=by
 obtain⟨_,d,p,f,e,c,i⟩:=n;have i:a.b4 [.str b.1,.str b.2] p:=i;refine F1 i (λx s l m c=>?_) c;obtain⟨q,h,l⟩:=l;obtain⟨r,j,m⟩:=m;have fG:=a.R.cG _ _ c;rw[l,m] at fG;exact⟨d,f,h,j,e,dJ fG,fG,q,r⟩
structure z3(x I N:bG)(cY:List aF)(ps:List (List Nat×List Nat))(i:Nat)(h:e9):Prop where
 l:∃ol m,h.get? x=some ol/\ol.data=.seq cY.toArray m
 Qj:x<N
 IN:I<N
 it:h.IsListIter I x i
 ps:FI h N cY ps
def ma(b:List (List Nat×List Nat))(c:Nat)(d:Array aF):Prop:=∃a e f,b[c]?=some a/\d=#[.str (toS a.1) e,.str (toS a.2) f]/\H a.1<=lim/\H a.2<=lim
def l4(x I a:bG)(b:List aF)(c:List (List Nat×List Nat))(d:Nat)(e:bG)(f:e9):Prop:=z3 x I a b c (d+1) f/\e≠I
def FI.keep(x:FI e N f h)(k:∀b o,b<N->e.get? b=some o->(∃j d,o.data=.seq j d)->l.get? b=some o):FI l N f h:=
 ⟨x.1,λc g i=>(x.2 c g i).imp λm a=>⟨a.1,a.2.imp λb a=>a.imp λd a=>a.imp λn a=>a.imp λp a=>{a with o:=k b _ a.lt a.o ⟨_,_,rfl⟩}⟩⟩
def Nf{c:e9}(g:c.IsListIter I x N)(e:c.get? f=some o)(a:∃b d,o.data=.seq b d):f≠I:=by
 rintro rfl
 refine mu a λb d a=>dm g λj h k i=>?_
 cases h.symm.trans e
 rw[a] at i;contradiction
def z3.same{I d:bG}{e:List aF}{f:List (List Nat×List Nat)}{g b:e9}(st:z3 c I d e f N g)(h:j6 I g b)(hit:b.IsListIter I c (N+1)):z3 c I d e f (N+1) b where
 l:=st.l.imp λm a=>a.imp λn a=>⟨(h.2 c<|Nf st.it a.1 ⟨_,_,a.2⟩).trans a.1,a.2⟩
 Qj:=st.Qj
 IN:=st.IN
 it:=hit
 ps:=st.ps.keep λj o U i k=>(h.2 j<|Nf st.it i k).trans i
def alv(F:d.handled=none)(G:I<c):
 WalksU g.g6 g.w d I (b6 c) [I] (H b) (ma b) (z3 x I c f b) (l4 x I c f b) where
 sub:=λm i=>by rw[dK.mp i];exact fJ.mpr G
 frame:=λj K p st r=>{st with l:=st.l.imp λz a=>a.imp λA a=>⟨r x (fJ.mpr st.Qj) _ a.1,a.2⟩,it:=st.it.imp λo a=>⟨r I (fJ.mpr st.IN) _ a.1,a.2⟩,ps:=st.ps.keep λh o L g U=>r h (fJ.mpr L) o g}
 item:=λj s t u B st k=>by
  refine m9 st.l λz A v w=>?_
  obtain⟨R,D,h,n,M,N,a⟩:=st.ps.2 j b[j]<|kY B;rw[a.v] at D;have E:h≠I:=Nf st.it a.o ⟨_,_,rfl⟩;refine XR st.it v w (x:=.ref h) (by rw[gY];exact D) λp hit y=>?_
  exact k h _ p s.toks ⟨b[j],M,N,kY B,rfl,a.Jp,a.Qm⟩ ⟨_,(y.2 h E).trans a.o,rfl,n,rfl⟩ ⟨st.same y hit,E⟩ λm o i g=>(y.2 m λe=>i (by rw[e];exact dK.mpr rfl)).trans g
 go:=λS T pos j h s t u q k=>by
  refine dm q.1.it λo O P U=>?_
  exact AO (n:="list_iterator") O P av (k s.heap q.1 λU U U g=>g)
 apart:=λj h K q i=>q.2<|dK.mp i
 done:=λs t u st k=>by
  refine m9 st.l λz A v w=>?_
  refine XO F st.it v w (by rw[gY,tK (by rw[st.ps.1];exact aS _)]) λp Q=>?_
  exact k p s.toks λm o i g=>Q m o (λe=>i (by rw[e];exact dK.mpr rfl)) g
 self:=λj s t u st k=>RB st.it k
def rU(b:G)(x:Str)(c:aF):Prop:=∃a fP,b.h.Ns l8 a/\b.h.Ns oK fP/\(a x=some c\/(a x=none/\fP x=some c))
structure zV(g:G)(oq:Str->Option aF)(bm:bG)(cJ:Obj):Prop where
 ns:g.h.Ns l8 oq
 name:oq "__builtins__"=some (.ref bm)
 ne:bm≠oK
 obj:g.h.get? bm=some cJ
 Of:bm∉fh
 cls:cJ.cls=.type "module"
 dict:cJ.dict=some oK
 data:cJ.data=.plain
structure Cd(scope:f7)(za zb:Str):Prop where
 co:scope.isCoroutine=false
 kind:scope.kind=.function
 cell:∀y∈scope.names,y.2≠.cell
 free:∀y∈scope.names,y.2≠.free
 h0:scope.names.lookup (".0":Str)=some NameKind.local
 HD:scope.names.lookup za=some .local
 HE:scope.names.lookup zb=some .local
 ne:za≠zb
def Fv(f:G)(j:f7)(k l:Str)(m:aI)(n:List (List Nat×List Nat))(p:Nat->aF->Prop):Prop:=
 ∀(g:fY) (q:aF->bf->Prop) (a:Env) (h:Nat) (b:List Nat×List Nat) (r bu:Tok) (c:bf) (d:Str->Option aF),g.handled=none->a.scope=j->a.globals=l8->a.builtins=oK->
  n[h]?=some b->H b.1<=lim->H b.2<=lim->c.heap.Ns a.locals d->d k=some (.str (toS b.1) r)->d l=some (.str (toS b.2) bu)->(∀e i,f.h.Ns e i->e∉fh->c.heap.Ns e i)->
  aE f.M g (eval m a) (λs t=>p h s/\PySem.Keeps c t) q c
inductive Ky{g:G}(A:fY)(a y:aL g)(n:Nat)(lj:Nat->aF->Prop)(x:bG):Prop
 |mk (C:bG) (I:bG) (N:bG) (St:Nat->bf->Prop) (w:BV g.g6 g.w A.in4 x (x::C::b6 N) [C,I] (Jz a.s.gens.size) (passing (λU=>true) n 0).length (λj y=>∃i,(passing (λU=>true) n 0)[j]?=some i/\lj i y) St) (st:St 0 y.s) (G5:∀b∈x::C::b6 N,b<y.aC) (Hf:a.aC<=C) (c6:a.aC<=I) (ty:∀i s,St i s->s.TypeIs (.ref x) "generator")
def aL.ME(a:aL g)(d:bf)(h:∀b o,a.o b=some o->d.heap.get? b=some o)(i:a.aC<=d.heap.objs.size)(j:Fy a.s.gens d.gens)(k:d.os=a.s.os):cM a where
 c:=a.c
 W:=a.W
 s:=d
 R:=a.R.but (λx o U=>h x o) i
 le:=⟨⟨λU U f=>f,λU U=>rfl,aS _⟩,λU f U=>f,λx o U U e=>.ff<|h x o e,i,j,k⟩
def Fy.push(c:x.bare=true):Fy b (b.push x):=⟨λd x e=>by
 obtain⟨a,_⟩:=Jt.mp e;rw[amg a,<-e,e' a],λe=>e.push c⟩
def r4(a:aL d)(c:d.h.Ns b e)(f:b∉fh):a.s.heap.Ns b e:=a.R.Xx c f
def K6(a:aL b)(d:b.h.NoLimit):a.s.heap.NoLimit:=d.imp λe c=>⟨r4 a c.1 av,c.2⟩
def aay{G:aF}(r:g.h.NoLimit)(N:Fv g scope za zb elt n M)(c6:∀b m,g.h.Ns b m->b∉fh->b≠I)(v:z3 x I a.aC cY n 0 a.s.heap)(dY:∀d k tk l,l.bare=true->a.aC<d->k.objs.size=d+1->(∀b o,a.o b=some o->k.get? b=some o)->BV g.g6 g.w z.A.in4 d (d::a.aC::b6 a.aC) [a.aC,I] (Jz a.s.gens.size) (passing (λU=>true) (H n) 0).length (λj O=>∃f,(passing (λU=>true) (H n) 0)[j]?=some f/\M f O) (ED g.g6 g.w z.A.in4 d a.s.gens.size a.aC (b6 a.aC) [I] (λU=>true) (H n) M)->
 ED g.g6 g.w z.A.in4 d a.s.gens.size a.aC (b6 a.aC) [I] (λU=>true) (H n) M 0 {a.s with gens:=a.s.gens.push l,toks:=tk,heap:=k}->K (.ref d) {a.s with gens:=a.s.gens.push l,toks:=tk,heap:=k}):
 ∃V W s B P Z l3 L F,kJ I=.ref V/\(∀A,A.handled=none->WalksU g.g6 g.w A V W s B P Z l3)/\(∀f Q,P f Q->∃R S,Q=#[R,S])/\Z 0 a.s.heap/\(∀b∈W,b<a.s.heap.objs.size)/\a.s.heap.NoLimit/\cStatics∉s/\
  (∀T,(∀b o,a.s.heap.get? b=some o->T.get? b=some o)->QuietGenTD g.g6 g.w (genEnv scope cl a.s.heap.objs.size G oK z.env) za zb [] elt (b6 a.s.heap.objs.size) s P L F T (z.A.depth+1) (z.A.units+8))/\
  (∀d k tk l,l.bare=true->a.s.heap.objs.size<d->k.objs.size=d+1->(∀b o,a.s.heap.get? b=some o->k.get? b=some o)->
   BV g.g6 g.w z.A.in4 d (d::a.s.heap.objs.size::b6 a.s.heap.objs.size) (a.s.heap.objs.size::s) (Jz a.s.gens.size) (passing L B 0).length
    (λj O=>∃f,(passing L B 0)[j]?=some f/\F f O) (ED g.g6 g.w z.A.in4 d a.s.gens.size a.s.heap.objs.size (b6 a.s.heap.objs.size) s L B F)->
   ED g.g6 g.w z.A.in4 d a.s.gens.size a.s.heap.objs.size (b6 a.s.heap.objs.size) s L B F 0 {a.s with gens:=a.s.gens.push l,toks:=tk,heap:=k}->
   K (.ref d) {a.s with gens:=a.s.gens.push l,toks:=tk,heap:=k}):=by
 refine Tx I _ [I] (H n) _<|Ts _ _ (λU=>true) M ⟨rfl,λA c=>alv c v.IN,?_,v,λb jT=>fJ.mp jT,K6 a r,λp=>r.elim λaeD q=>c6 _ _ q.1 av<|dK.mp p,λT X=>?_,dY⟩
 .rintro f Q ⟨b,t,u,_,rfl,_⟩;exact⟨_,_,rfl⟩
 refine⟨λA Cb f R S i m₂ c U U Ax iu w y D=>aK ⟨rfl,i.heap,i.toks,rfl,λU U e=>e⟩,λA Cb f R S i m₂ c hd uw Ax U iu w y D=>?_⟩;refine oW Ax λpp t u Y e ao aA=>?_
 cases e
 exact N A Cb _ f pp t u i m₂ c rfl z.gl rfl Y ao aA iu w y λq fP nj E=>(r4 a nj E).imp λo h=>h.imp λes h=>h.imp λqa h=>⟨D q (fJ.mpr<|dJ h.1) (λp=>c6 _ _ nj E<|dK.mp p) o<|X _ _ h.1,h.2⟩
def aL.o6(a:aL b)(c:bG):cM a:=a.new {cls:=.type "list_iterator",data:=.fields #[.ref c,.int 0 0]} a.s.drawn a.s.toks
def aaA{i:cM (a.o6 e).toaL}(v:i.c=(a.o6 e).c)(w:i.W=(a.o6 e).W)(y:i.s.gens=(a.o6 e).s.gens)(z:f.bare=true)(q:i.aC<x)(r:b.objs.size=x+1)(t:∀h o,i.o h=some o->b.get? h=some o)(A:BV g.g6 g.w k.in4 x (x::i.aC::b6 i.aC) [i.aC,a.aC] (Jz i.s.gens.size) (passing (λU=>true) j 0).length (λn d=>∃l,(passing (λU=>true) j 0)[n]?=some l/\m l d) (ED g.g6 g.w k.in4 x i.s.gens.size i.aC (b6 i.aC) [a.aC] (λU=>true) j m)) (B:ED g.g6 g.w k.in4 x i.s.gens.size i.aC (b6 i.aC) [a.aC] (λU=>true) j m 0 {i.s with gens:=i.s.gens.push f,toks:=tk,heap:=b}) (D:∀(d:cM a) x,d.c=a.c->d.W=a.W->Ky k a d.toaL j m x->K (.ref x) d.s):K (.ref x) {i.s with gens:=i.s.gens.push f,toks:=tk,heap:=b}:=
 have u:=J r<|bF<|tN q;have E:a.s.gens=i.s.gens:=y.symm
 D ⟨(i.toaL.ME {i.s with gens:=i.s.gens.push f,toks:=tk,heap:=b} t u _ rfl).toaL,((a.o6 e).le.bS i.le).bS (i.toaL.ME {i.s with gens:=i.s.gens.push f,toks:=tk,heap:=b} t u (.push z) rfl).le⟩ x v w
  ⟨i.aC,a.aC,i.aC,_,J E<|A,B,λh p=>by
   show h<b.objs.size;rw[r];obtain rfl|p:=cQ.mp p
   .exact f6 _
   obtain rfl|p:=cQ.mp p
   .exact tN q
   exact tN (fF (fJ.mp p) q),az (gy _) (az (di (f5 ..).symm) i.le.size),aS _,λl F st=>st.1.typeIs⟩
def Vv{cJ:Obj}(B:gP g)(c:zV g M O cJ)(t:g.h.NoLimit)(zW:xQ g s b)(MR:b≠445)(G:Cd k l n)(N:z.env.code=.ref s)(VT:z.ns[0]?=some xs) (lQ:z.env.kindOf xs=some .local) (aa9:(xs==("__debug__":Str))=false) (F:bQ z a r) (fG:r[0]?=some (.loc j)) (vZ:a.W[j]?=some (.inst 236 P (e8 d))) (W:Fv g k l n A d L) (dY:∀(f:cM a) x,f.c=a.c->f.W=a.W->Ky z.A a f.toaL (H d) L x->K (.ref x) f.s):
 aE g.M z.A (eval (.GeneratorExp A [⟨.Tuple [.Name l Q,.Name n R] S T,.Name xs V,[],0⟩] k pos) z.env) K E a.s:=by
 have X:z.A.depth<Kd:=bz (by simp+arith) z.aU.d;refine Tb (a.R.objs j _ vZ) λkh es qa cY DC I=>(LL (env:=z.env) λx c7 hf=>aW hf<|G.free x c7).elim λcl ML=>F.loc.elim λm hm=>?_
 refine wpAny_GeneratorExp_walksQTD z.aU.h G.co ML.1 G.cell G.h0 G.HD G.HE G.ne G.kind X (nR (xN z.fn lQ hm.1 ((hm.2 0 _ _ VT fG lQ D.noConfusion).elim λv q=>q.1.trans<|aZ some q.2.2)<|XQ a.c8 B I.acc ⟨K6 (a.o6 _).toaL t,aaz (a:=(a.o6 _).toaL) zW MR N λcode p C0 nc he abl aoQ=>?_⟩) aa9) λx=>rfl
 refine wpAny_builtinsFor (z.gl▸r4 p.toaL c.ns av) c.name c.ne (p.R.cG _ _<|p.R.base _ _ c.obj c.Of) c.cls c.dict c.data ?_;have bu:=a.R.tab b zW.mem;have abI:a.c.bW j≠b:=λe=>CG (aZ bI.k<|bY<|a.R.kC.symm.trans<|(aZ _<|bY<|bu.1.symm.trans<|e▸I.w).trans vZ) rfl
 have u:=he _ _ abI<|fZ _ I.acc.at_;have w:=he a.aC _ (λe=>aW (e▸(bu.2.elim λd h=>dJ h.1))<|oG _)<|a.ku rfl _ _;have y:p.b4 (e8 d) cY:=by
  show aV p.c (H p.W) _ _;exact J C0<|J nc<|I.dF
 refine aay t W (λb m h kq e=>oG _ (e▸(r4 a h kq).lt)) ⟨⟨_,DC,u,rfl⟩,dJ u,dJ w,⟨_,w,rfl,rfl⟩,(⟨J y.cg<|aX _,λi b e=>by
  refine aG (y.at_ (by unfold e8;rw[d8,e];rfl)) λv ao r=>?_
  exact⟨v,ao,agw r⟩⟩)⟩ λx aoU tk aoM Y MQ Z acZ mA ll=>?_
 exact aaA C0 nc abl Y MQ Z acZ mA ll dY
def call_one(r:(sF f).isNone=true)(q:(isStar i).isNone=true)(v:fD g.M y.heap (Ri b) .machine)(s:∀a,fD g.M a (Ri b) .machine)(a:aE g.M d (eval f h) (λj k=>j=b/\aE g.M d (eval i h) (λl m=>aE g.M d (call b [l]) n e m) e k) e y):aE g.M d (eval (.Call f [i] [] pos) h) n e y:=by
 refine J (uh r ..)<|ak (fq a (λj k c=>?_) λU U p=>p);obtain⟨rfl,c⟩:=c;have t:jh [i]=true:=by show((isStar i).isNone&&true)=true;exact J q rfl
 refine zA (P:=λU=>True) (J (noStar t ..) rfl) (λa U=>⟨.machine,.inr<|.inl rfl,s a⟩) ?_;exact J (wN q ..)<|fw<|rH (fq c (λl m u=>u9 ⟨aQ,u⟩) λU U p=>p)
def G7(c:rU e x h)(g:∀d f,e.h.Ns d f->d∉fh->y.heap.Ns d f)(m:b.scope.kind=.function)(n:b.kindOf x=some .globalImplicit)(ao:b.globals=l8)(aA:b.builtins=oK)(p:(x==("__debug__":Str))=false)(i:j h y):aE e.M k (eval (.Name x pos) b) j l y:=by
 refine jN c λs fP c q a=>Calls.Name_function_global m n ?_ p
 obtain a|⟨r,a⟩:=a
 .exact amx (ao▸g _ _ c av) a i
 exact amw (ao▸g _ _ c av) r (aA▸g _ _ q av) a i
noncomputable def Me(a b:Str)(c d e f g h i:Pos):aI:=.BinOp (.Call (.Name ("len":Str) c) [.Name a d] [] e) .Add (.Call (.Name ("len":Str) f) [.Name b g] [] h) i
noncomputable def y9(b:List (List Nat×List Nat))(c:Nat):Int:=(b.map λa=>((H a.1+(H a.2):Nat):Int)).getD c 0
def agK(a:List Int):∀b,b<=H a->tR (λd=>a.getD d 0) b=(a.take b).sum:=λb=>by
 induction b with
 |zero=>exactλU=>rfl
 |succ b e=>
  intro c;rw[tR,e<|bF c,List.take_succ_eq_append_getElem c,List.sum_append,l0,kY c,BL,List.sum_nil,g0]
  rfl
def ajC(a):(a.map λb=>((H b.1+(H b.2):Nat):Int)).sum=(fc a:Nat):=by
 unfold fc;induction a with
 |nil=>rfl
 |cons b a c=>exact J i6<|J BL<|J c<|J i6<|J BL<|J (u_ (H b.1+H b.2) ..) rfl
def agJ(a):tR (y9 a) (H a)=(fc a:Nat):=by
 have b:=agK (a.map λc=>(H c.1+(H c.2):Nat)) (H a)<|J (aX ..)<|aS _;rw[ET<|J (aX ..)<|aS _] at b;exact b.trans<|ajC a
def W6(c:rU e "len" (.builtin "len"))(g:∀d f,e.h.Ns d f->d∉fh->y.heap.Ns d f)(a:b.scope.kind=.function)(i:b.kindOf "len"=some .globalImplicit)(p:b.globals=l8)(q:b.builtins=oK)(r:y.heap.Ns b.locals j)(t:b.kindOf x=some .local)(u:j x=some (.str (toS h) m))(v:(x==("__debug__":Str))=false)(w:H h<=lim)(z:∀k tk,l (.int (H h) k) {y with toks:=tk}):
 aE e.M n (eval (.Call (.Name ("len":Str) s) [.Name x A] [] B) b) l F y:=by
 refine call_one rfl rfl (zo rfl) (λU=>zo rfl)<|G7 c g a i p q bC ⟨rfl,?_⟩;refine nR (xN a t r u ?_) v;refine P.len_str (by rw[g9];exact QH.mpr<|ha (lZ.mpr w) av) ?_;exact J (g9 ..)<|z _ _
def Pm(G:Cd b d f)(g:rU k ("len":Str) (.builtin "len"))(y:b.names.lookup ("len":Str)=some .globalImplicit)(z:(d==("__debug__":Str))=false)(D:(f==("__debug__":Str))=false):Fv k b d f (Me d f n s A B F L M) j (λh l=>∃m,l=.int (y9 j h) m):=λS T a h i V bu E W X p q r K N O t P Q u=>by
 have c:∀x,a.kindOf x=b.names.lookup x:=λx=>by show a.scope.names.lookup x=_;rw[p]
 have v:a.scope.kind=.function:=J p<|G.kind;have w:=(c "len").trans y;refine Ru (W6 g u v w q r t ((c _).trans G.HD) P z N λY tk=>?_);refine W6 g u v w q r t ((c _).trans G.HE) Q D O λZ R=>PySem.P.add_int ⟨⟨R,?_⟩,E.heap,_,rfl,λU U e=>e⟩
 have:y9 j h=(H i.1+(H i.2):Nat):=by
  unfold y9;rw[l0,d8,K];rfl
 exact J this<|J (u_ ..) rfl
noncomputable def UR(a b:Str)(c ap d e f g:Pos)(h:Nat):aI:=.Call (.Attribute (.Name ("EMPTYSTRING":Str) c) ("join":Str) ap) [.Tuple [.Name a d,.Name b e] h f] [] g
def Xg(p:∀b,rO o ("join":Str) d b=b)(q:ap.endLine=pos.line)(a:(isStar i).isNone=true)(r:aE g.M e (eval o d) (λj h=>j=.str x b/\aE g.M e (eval i d) (λk l=>aE g.M e (call (.builtin "str.join") [.str x b,k]) m f l) f h) f y):
 aE g.M e (eval (.Call (.Attribute o ("join":Str) ap) [i] [] pos) d) m f y:=by
 refine J (Ar ..)<|J (p ..)<|ak (fq r (λj h c=>?_) λU U n=>n);obtain⟨rfl,c⟩:=c;refine ak<|j_ ?_;unfold xH;refine J (show zC _ _ _=true from by rw[wN a];rfl)<|ak<|fT ?_;show aE _ e (vn _ _ _) _ f h
 with_reducible refine GM.join ?_
 have s:vp true o d ap pos=pure pos:=by
  unfold vp;exact J q<|J (beq_self_eq_true ..) rfl
 rw[s];refine ak<|aK ?_;have t:jh [i]=true:=by show((isStar i).isNone&&true)=true;exact J a rfl
 refine zA (P:=λU=>True) (J (noStar t ..) rfl) (λU U=>⟨.machine,.inr<|.inl rfl,zo rfl⟩) ?_;exact J (wN a ..)<|fw<|rH (fq c (λk l u=>u9 ⟨aQ,u⟩) λU U n=>n)
def ak4{u t}(a:H b<=lim)(c:H d<=lim):Qv ((([(toS b,t),(toS d,u)]:List (Str×Tok)).map (·.1)).toArray.foldl (· +·.length+(toS []).length) 0)=false:=by
 rw[h9];unfold Qv;rw[decide_eq_false_iff_not,bA,rQ];have e:((([(toS b,t),(toS d,u)]).map (·.1)).map (·.length)).sum+([(toS b,t),(toS d,u)].map (·.1)).length*(toS []).length=H b+(H d+0)+2*0:=by
  exact J (g9 ..) rfl
 refine az (di e) ?_;exact(iL (m:=lim+lim) (d9 a c) rfl:H b+H d<=16777216)
def Pt{y z:Pos}{te:Tok}(G:Cd f h j)(D:rU m ("EMPTYSTRING":Str) (.str (toS []) te))(E:f.names.lookup ("EMPTYSTRING":Str)=some .globalImplicit)(K:(h==("__debug__":Str))=false)(N:(j==("__debug__":Str))=false)(O:ap.endLine=n.line):Fv m f h j (UR h j y ap B L z n M) s (λl A=>∃d t,s[l]?=some d/\A=.str (toS (d.1++d.2)) t):=λzK Cb a l d c bu g N2 Z r P Q R S T v V W X=>by
 have i:∀x,a.kindOf x=f.names.lookup x:=λx=>by show a.scope.names.lookup x=_;rw[r]
 have p:a.scope.kind=.function:=J r<|G.kind;refine Xg (λt=>rfl) O rfl<|G7 D X p ((i _).trans E) P Q bC ⟨rfl,?_⟩;refine J3<|rH<|nR (xN p ((i _).trans G.HD) v V ?_) K;refine rH<|nR (xN p ((i _).trans G.HE) v W ?_) N;refine u9<|l9 ?_ (by show 2<=j9;rw[rQ];decide);have Y:(g.heap.push {cls:=.type "tuple",data:=.seq #[.str _ c,.str _ bu]}).get? g.heap.objs.size=some {cls:=.type "tuple",data:=.seq #[.str (toS d.1) c,.str (toS d.2) bu]}:=g_ _ rfl;have w:=ak4 (t:=c) (u:=bu) S T;refine oM gN (xJ _ _ _) gd (fI _ _) (aok _ te g.heap.objs.size [_,_] w) ⟨⟨_,0,Y,rfl,rfl⟩,j1 [_,_] ⟨i3 w,λq k=>⟨⟨d,q,R,?_⟩,_,_,rfl,λb o e=>fZ _ e⟩⟩⟩;show Value.str (h8 _<|[d.1,d.2].map toS) q=_;rw[Pq];show Value.str (toS<|d.1++[]++d.2) q=_;exact J (dR ..) rfl
def U6:eY D:=λa b c d=>opt (a[0]?) λo=>wH [o] [] b c d
def W':eY D:=λa b c d=>opt (a[0]?) λo=>wI [o] [] b c d
def F_(a:mD h o k):∃b d f,o=.loc b/\h[b]?=some (.inst 236 d f)/\k b d f:=by
 obtain _|_|_|_|_|_|_|b|_|_:=o<;>first|exact bO a|skip
 refine aG (ez (λa=>a) a) λx e c=>?_
 obtain _|⟨g,d,f⟩|_|_:=x<;>first|exact bO c|skip
 obtain⟨rfl,c⟩:=c;exact⟨b,d,f,rfl,e,c⟩
def DM(a):passing (λU=>true) a 0=b6 a:=by
 exact EF.mpr λU U=>rfl
structure R7{g:G}(Γ:b5 g)(scope:f7)(za zb xs:Str):Prop where
 bm:∃oq bm cJ,zV g oq bm cJ
 code:∃jP p,xQ g jP p/\p≠445/\Γ.env.code=.ref jP
 sc:Cd scope za zb
 s0:Γ.ns[0]?=some xs
 lQ:Γ.env.kindOf xs=some .local
 db:(xs==("__debug__":Str))=false
 kh:(za==("__debug__":Str))=false
 L3:(zb==("__debug__":Str))=false
def dV(a:vInt d k):∃b,d=.int b/\k b:=by
 obtain _|_|b|_|_|_:=d<;>first|exact bO a|skip
 exact⟨b,rfl,a⟩
def aL.moved(h:aL f)(a:cM h)(r:a.c=h.c)(ao:s1.heap=a.s.heap)(aA:s1.gens=a.s.gens)(bL:s1.os=a.s.os)(j:Moved [d,I] (Jz h.s.gens.size) s1 b)(t:h.aC<=d)(c6:h.aC<=I)(m:a.aC<=b.heap.objs.size)(tk:Nat):cM h:=
 have n:∀x∈[d,I],h.aC<=x:=λx g=>(cQ.mp g).elim (λe=>Eq.symm e▸t) λg=>Eq.symm (dK.mp g)▸c6
 have p:∀i o,i∉[d,I]->a.o i=some o->b.heap.get? i=some o:=λi o u e=>j.heap i o u (by rw[ao];exact e)
 {c:=a.c
  W:=a.W
  s:={b with toks:=tk}
  R:=a.R.but (λx o jf e=>p x o (λg=>jf (by rw[r];exact h.fresh<|n x g)) e) m
  le:=⟨a.le.le,a.le.fr,λx o v w e=>(a.le.keep x o v w e).trans λy z=>.ff (p x y (λg=>aW (dJ e) (bA.mpr (n x g))) z),az a.le.size m,⟨λk x e=>by
   have l:=a.le.gens.at_ k x e
   rw[<-aA] at l
   obtain g|⟨⟨_,g⟩,_⟩:=j.gens
   .show b.gens[k]?=_
    rw[g];exact l
   refine(g k λA=>?_).trans l
   obtain⟨q,_⟩:=Jt.mp e
   rw[A] at q;exact aW q (oG _),λe=>j.gens.bare (by rw[aA];exact a.le.gens.bare e)⟩,j.os.trans (bL.trans a.le.os)⟩}
def pk{c:Str}(i:gP g)(n:z.ns[0]?=some xs) (k:z.env.kindOf xs=some .local) (p:(xs==("__debug__":Str))=false) (q:bQ z a r) (fG:r[0]?=some (.loc d)) (s:a.W[d]?=some (.inst 236 e h)) (t:qe c) (l:e.lookup c=some f) (u:∀b,a.V f b->K b {a.s with toks:=a.s.toks+1}):aE g.M z.A (eval (.Attribute (.Name xs j) c pos) z.env) K E a.s:=by
 refine aG q.loc λG v w=>?_
 refine dm (w 0 _ _ n fG k D.noConfusion) λH x L y=>?_;subst y
 refine vM (a.R.objs d _ s) λM N O P Q I=>amn (nR (xN z.fn k v x ?_) p) rfl
 obtain A|⟨R,b,B,F,m⟩:=gG.look I.fl
 .exact AV A.1 l
 cases B.symm.trans l
 exact Vy a.c8 I.I (i.get 236 I.cB).1 (i.get 236 I.cB).2 (findObj_own (i.dict 236 I.cB) (i.HP 236 c I.cB t) rfl F) (handed m)<|u b m
def ajB{c:cM a}(q:c.c=a.c)(r:c.W=a.W)(s:Ky z.A a c.toaL (H b) (λh j=>∃d,j=.int (y9 b h) d) x)(t:c.V (.int f) l)(u:dc a k K)(G:k (.int (f+(fc b:Nat))) a.W):
 aE g.M z.A (call (.builtin "sum") [.ref x,l]) K E {c.s with toks:=c.s.toks+1}:=by
 obtain⟨L,I,M,St,v,st,w,y,c6,N⟩:=s;obtain⟨O,rfl⟩:=t;have i:=J5<|J5<|J5 v;have m:=i.frame 0 c.s c.s.heap _ st (gy _) λU U U e=>e
 refine iZ<|y7<|i.self 0 _ _ _ m ⟨x,_,_,_,_,_,St,y9 b,rfl,i,m,w,λh j A=>?_,λB P D F=>?_⟩
 .obtain⟨Q,n,d,rfl⟩:=A;rw[DM] at n;obtain⟨R,p⟩:=fm.mp n;rw[EK] at p;exact⟨d,J p rfl⟩
 have e:f+tR (y9 b) (passing (λU=>true) (H b) 0).length=f+(fc b):=by
  exact J (DM ..)<|J kF<|J (agJ ..) rfl
 rw[e];exact dc.dB u (a.moved c q (s1:={c.s with toks:=c.s.toks+1}) rfl rfl rfl D y c6 F B.toks) (kL _ _) (by show k _ c.W;rwa [r])
def aj3{p2 pA:Pos}(B:gP g)(w:g.h.NoLimit)(c:R7 z b e f xs)(gC:rU g ("len":Str) (.builtin "len"))(cB:b.names.lookup ("len":Str)=some .globalImplicit)(hs:rU g ("sum":Str) (.builtin "sum"))(D:z.env.kindOf ("sum":Str)=some .globalImplicit):
 cD z (.Call (.Name ("sum":Str) p0) [.GeneratorExp (Me e f wD rd j l s A L) [⟨.Tuple [.Name e M,.Name f O] S T,.Name xs V,[],0⟩] b pos,.Attribute (.Name xs W) ("_initial_size":Str) p2] [] pA) U6:=λa r Q Z K X F h dY n7=>by
 refine aG (ji h) λo fG h=>?_
 obtain⟨n,iF,ds,rfl,t,h⟩:=F_ h;obtain⟨d,hd,h⟩:=ji h;obtain⟨k,E,ps,rfl,q⟩:=dV h;refine z7 c.bm λoq bm cJ KM=>jN c.code λjP p zW G H=>?_
 refine J (uh rfl ..)<|ak<|G7 hs (λp m=>r4 a) z.fn D z.gl z.Ag bC ?_;refine zA (P:=λU=>True) rfl (λU U=>⟨.machine,.inr<|.inl rfl,zo rfl⟩)<|fw<|rH ?_;refine Vv B KM w zW G c.sc H c.s0 c.lQ c.db F fG t (Pm c.sc gC cB c.kh c.L3) λy x N i R=>rH (pk B c.s0 c.lQ c.db (F.to y.le) fG (i▸t) (show qP.contains _=true by decide+kernel) hd λu Y=>u9 ⟨aQ,?_⟩)
 have v:=c9 Y;rw[i,E] at v;exact ajB N i R v dY q
def Hz(xs):dU [] xs=xs.flatten:=by
 induction xs with
 |nil=>rfl
 |cons x xs a=>
  obtain _|⟨b,c⟩:=xs
  .exact(dR x).symm
  show x++[]++dU [] (b::c)=_;exact J a<|J (dR ..) rfl
def ajx{a:List (List Nat×List Nat)}(c:ItemsOf (λh j=>∃d,(passing (λU=>true) (H a) 0)[h]?=some d/\∃b k,a[d]?=some b/\j=Value.str (toS (b.1++b.2)) k) (B4 f).toArray (passing (λU=>true) (H a) 0).length):f.map (·.1)=(a.map λb=>b.1++b.2).map toS:=by
 refine JI λd=>?_
 have g:=c.1;rw[DM,kF] at g;have m:=(by unfold B4;rw[aX]:(B4 f).length=H f).symm.trans g;rw[d8,d8,d8];rcases e:f[d]? with _|q
 .exact J (tK<|m▸EI.mp e) rfl
 obtain⟨r,i,b,s,n,p⟩:=c.2 d _ (by rw[gY];unfold B4;rw[d8,e];rfl);rw[DM] at i;obtain⟨t,l⟩:=fm.mp i;rw[EK] at l;subst l;rw[n];exact aZ some (Value.str.inj p).1
def ajw{a:List (Str×Tok)}(c:a.map (·.1)=(d.map λb=>b.1++b.2).map toS)(f:(cX d).length<=lim):JoinOk (toS []) (a.map (·.1))=true/\Q9 (toS []) (a.map (·.1))=toS (cX d):=by
 constructor
 .unfold JoinOk;rw[c,mS,h9];unfold Qv;rw[decide_eq_false_iff_not,bA];have e:(((d.map λb=>b.1++b.2).map toS).map (·.length)).sum=(cX d).length:=by
   unfold cX;exact J List.length_flatten<|J dM<|aZ List.sum (qu λx U=>g9 x)
  rw[e,g9];exact az (J rJ<|aS _)<|gq f
 rw[c];exact J (show Q9 _ ((d.map λb=>b.1++b.2).map toS)=apk _ _ from rfl)<|J (an6 ..)<|J (Pq ..)<|J (Hz ..) rfl
def Hd(h:ed g)(a:iS z b)(f:jF g z.cf e):cP z (.AugAssign d op i pos) (Zv (e (b.at 0)) b d op i):=by
 induction d using PySem.Expr.casesOn;all_goals intros
 all_goals first|exact cP.no|skip
 .refine cP.dN λc=>ai9 h.B c (a.s f 0 _).v (a.s f 0 _).v (a.s f 0 i).v
 refine cP.dN λc=>?_
 obtain⟨c,j⟩:=(bl ..).mp c;obtain⟨k,l⟩:=(bl ..).mp c;obtain⟨m,n⟩:=a.pI k;exact ai_ m n ((mS _).mp l) ((mS _).mp j) (a.s f 0 i).v
def yI{a:List w}{x:w}(b:only a=some x):a=[x]:=by
 obtain _|⟨d,a⟩:=a
 .exact ns b
 obtain _|_:=a
 .exact aZ (λc=>[c])<|bY b
 exact ns b
def It(d:ed g)(e:iS z b):cP z (.Raise (some i) none pos) (O9 b i):=by
 unfold O9;rcases f:qV i with _|h
 .exact cP.no
 show cP z _ (b7 _ gJ λa=>dN _<|fx a gJ (λU=>gJ) (λU=>gJ) (λU=>gJ) (λU U=>gJ) (λs=>Jo s.cps.toList) (λU=>gJ) gJ);rcases j:(only h.2.1).bind Ht with _|a
 .exact cP.no
 refine cP.dN λc=>?_
 obtain⟨c,k⟩:=(bl ..).mp c;obtain⟨l,m⟩:=(bl ..).mp c;refine aG (gi.mp j) λx n p=>?_
 obtain⟨q,ao⟩:=yf f;obtain⟨r,aA⟩:=n9<|ck l;refine mu (Uo p) λt u bL=>?_
 rw[ao,aA,yI n,bL,jM.mp m];obtain _|_|_|_|s|_|_|_|_|_:=a<;>first|exact cP.no|skip
 exact ajc d.I<|e.dg▸ck k
def vF(a:b5 b)(h:b_)(i:b_->aI->bB):Prop:=∀(c d:aI) (e:List aI) (f g:List cS) (pos:Pos),Hu d=some e->cP a (.For c d f g pos) (IC a.cf i h c e f g)
def vF.no(a:b.lam=false):vF d b e:=λc i j f g pos U=>by
 unfold IC;obtain _|k:=Hv c f g
 .exact cP.no
 refine cP.dN λh=>?_
 rw[a] at h;contradiction
def akr(a:pK b=some (true,l)):qW b=true:=by
 unfold pK at a;unfold qW;rcases c:isNm b with _|x
 .rw[c] at a;refine aG (gi.mp a) λl d U=>?_
  exact J d rfl
 rw[c] at a;exact aW (aZ h6<|bY a) gX
def H2(a:iS z h)(p:jF g z.cf j)(q:vF z h j)(m:∀l,qD z l (k l)):cP z (.For d b e f pos) (O8 z.cf j k h d b e f):=by
 unfold O8;rcases r:Hu b with _|l
 .rcases n:pK d with _|s
  .exact cP.no
  refine cP.dN λc=>?_
  obtain⟨t,u⟩:=(bl ..).mp c;rw[a.Nj];exact aja (G4<|(mS _).mp t) (λc=>akr (l:=s.2)<|c▸n) (a.s p 0 b).i (PL n λx v=>a.stN<|dQ.mp u x v) (m e)<|m f
 exact q d b l e f pos r
def Iy(j:ed g)(a:iS z b)(c:jF g z.cf d):cP z (.Return o pos) (b7 o (nH (cC z.cf (lN .none))) λe=>nH (d (b.at 2) e)):=by
 obtain _|e:=o
 .exactλk l m n p X f h i q=>wpAny_Return_none<|dG.at_ i f (fl:=.ret .none) ⟨.none,rfl,rfl⟩ h
 exact Z3 (a.s c 2 e).v
set_option tactic.hygienic true in
def UJ{st:cS}(p:ed g)(i:iS z b)(F:vF z b (ru z.cf (d+1)))(u:∀f,qD z f (h f)):cP z st (ID z.cf (ru z.cf (d+1)) b h st):=by
 have j:=Bh p z.cf<|d+1;induction st using PySem.Stmt.casesOn;all_goals intros
 all_goals first|exact cP.no|exact cP.dN λc=>ai' c (i.s j 0 _).v|exact Hd p i j|exact(λq m w y A X a c l n=>by
  refine wpAny_If<|((i.s j 0 _).t) q m _ _ _ _ a c (λx r k=>?_)<|e_.x n a.ok;obtain _|_:=r
  .exact(u _) x.toaL m _ _ _ _ (a.to x.le) k (dG.le l x.le.of0)<|e_.le n x.le.of0
  exact(u _) x.toaL m _ _ _ _ (a.to x.le) k (dG.le l x.le.of0) (e_.le n x.le.of0))|exact H2 i j F u|exact Iy p i j|exact(λq m w y A X a c l n=>ak (j_ (aK (dG.at_ l a (fl:=.brk) rfl c))))|exact(λq m w y A X a c l n=>ak (j_ (aK (dG.at_ l a (fl:=.cont) rfl c))))|skip
 .rename_i G e D;show cP z _ (b7 _ gJ λr=>Zq z.cf _ b r e);rcases k:only G with _|r
  .exact cP.no
  exact J (yI k)<|by
   have j:=Bh p z.cf<|d+1;induction r using PySem.Expr.casesOn;all_goals intros
   all_goals first|exact cP.no|exact G' p i _|exact Ha i j|exact F' p i j|skip
   exact cP.dN λH=>λq m w y A X a c l n=>
    plainObj_wpAny_Assign_Attribute (((j z _ e rfl<|i.mo _).v) q m _ _ _ _ a c (λs k=>((i.s j 0 _).v) s.toaL m _ _ _ _ (a.to s.le) k (λB k=>aiv p.B B.bw (s.bw.to B.le) k λE k=>dG.ev l a ⟨E.toaL,(s.le.bS B.le).bS E.le⟩ (fl:=.next) rfl k)<|(e_.x n a.ok).le s.le)<|e_.x n a.ok) (uE H)
 .rename_i r K L D;refine cP.dN λc=>?_
  exact J (jM.mp c)<|λq m w y A X a c l n=>wpAny_While<|alC ((i.s j 0 _).t) (u _) a c l
 rename_i o k D;obtain _|e:=o
 .exact cP.no
 refine cP.dN λc=>?_
 exact J (E1.mp c)<|It p i
def IH(c:∀st,cP b st (C_ st))(a):qD b a (qp (a.map C_)):=by
 induction a with
 |nil=>exact Pn
 |cons st a d=>exact ajd (c st) d
def I'(c:ed g)(e:iS z d)(f:vF z d (ru z.cf 60))(a):∀b,qD z b (O_ z.cf a d b):=by
 induction a with
 |zero=>exactλb U U U U U U U h=>bO h
 |succ a i=>exactλb=>IH (λst=>UJ c e f i) b
def Y_{st:cS}(i:z0 b d st e)(j:FT b d f (qp h)):FT b d (st::f) (qp (e::h)):=λl m q r s X n p c g=>by
 refine ks_wpAt_execs_cons<|i l m _ _ _ _ n p (λx a=>?_) g;have k:=c x;revert a k;refine rT.C1 x.hf (λa U=>j x.toaL x.r _ _ _ _ x.F a (c.le x.le)<|g.le x.le) (λa k=>k a) (λa k=>k a) λt u v a k=>k a
def Za{st:cS}(a:cP b st d):z0 b e st d:=λc f g h i X j k l m=>PySem.wpAt_of_wpAny<|a c f g h i X j k l m
def aie(c:FW b d i e):z0 b d (.Return (some i) pos) (nH (cC f e)):=λg h m n p X a j k q=>
 ks_wpAt_Return_some (c g h _ _ _ _ a j λx l=>dG.ev k a x.tocM (fl:=.ret x.d) ⟨x.v,rfl,x.bw⟩ l)
def aid(c:ph i=true)(g:FW b d i e):z0 b d (.Expr i pos) (w_ (cC f e)):=λh j n p q X a k l r=>
 ks_wpAt_Expr_any (g h j _ _ _ _ a k λx m=>dG.ev l a x.tocM (fl:=.next) rfl m) b.inter (uE c)
def KU(d:b5 b)(e:List cS):Prop:=∀(f g:Pos) (a:Str) (c pos:Pos),c.endLine=pos.line->FW d e (.Call (.Attribute (.Call (.Name ("super":Str) f) [] [] g) a c) [] [] pos) (sq a)
def a3{f:Str}(c:Dl i=some f):∃b d e pos,i=.Call (.Attribute (.Call (.Name ("super":Str) b) [] [] d) f e) [] [] pos/\e.endLine=pos.line:=by
 refine aG (gi.mp c) λt g c=>aG (gi.mp c) λh j c=>aG (gi.mp c) λu k c=>?_
 obtain⟨a,l⟩:=oZ c;obtain⟨a,m⟩:=(bl ..).mp a;obtain⟨a,n⟩:=(bl ..).mp a;obtain⟨a,p⟩:=(bl ..).mp a;obtain⟨a,q⟩:=(bl ..).mp a;obtain⟨r,s⟩:=(bl ..).mp a;obtain⟨pos,ao⟩:=yf g;obtain⟨d,aA⟩:=yf k;obtain⟨b,bL⟩:=n9<|ck q;refine⟨b,d,h.2.2,pos,by rw[ao,Lk j,aA,bL,jM.mp r,jM.mp s,jM.mp p,jM.mp n,bY l],?_⟩;have:=eB m;rwa [ao] at this
def ajD{st:cS}:Dm st=some b->(b.1=false/\∃e d,st=.Expr e d/\Dl e=some b.2)\/(b.1=true/\∃e d,st=.Return (some e) d/\Dl e=some b.2):=by
 induction st using PySem.Stmt.casesOn<;>first|exact ns|skip
 .intro a;refine aG (gi.mp a) λe g h=>?_
  refine aG (iQ.mp h) λx c f=>?_;subst f
  exact .inr ⟨rfl,e,_,J g rfl,c⟩
 intro a;refine aG (iQ.mp a) λx c f=>?_;subst f
 exact .inl ⟨rfl,_,_,rfl,c⟩
def Kb{st:cS}(p:uY d=true->KU f h)(a:Dm st=some b):z0 f h st (dN (uY d) (bif b.1 then nH (cC j (sq b.2)) else w_ (cC j (sq b.2)))):=by
 rcases q:uY d with _|_
 .exactλU U U U U U U a=>bO a
 obtain⟨c,e,r,rfl,g⟩|⟨c,e,r,rfl,g⟩:=ajD a
 .refine Cu (a3 g) λi k l pos m n=>?_;subst m
  exact J c<|aid rfl<|p q i k b.2 l pos n
 refine Cu (a3 g) λi k l pos m n=>?_;subst m
 exact J c<|aie<|p q i k b.2 l pos n
def UI(f:ed g)(h:iS z b)(i:vF z b (ru z.cf 60))(j:uY b=true->KU z d)(e)(a):FT z d a (Bg z.cf e b a):=by
 induction a with
 |nil=>exactλk l m n p X q r s t=>PySem.wpAt_of_wpAny<|Pn k l m n p X q r s t
 |cons st a u=>
  refine Y_ ?_ u;show z0 z d st (b7 (Dm st) (ID z.cf (ru z.cf 60) b (O_ z.cf e b) st) λc=>dN (uY b) (bif c.1 then nH (cC z.cf<|sq c.2) else w_<|cC z.cf<|sq c.2));rcases v:Dm st with _|c
  .exact Za<|UJ f h i<|I' f h i e
  exact Kb j v
def D1(a c)(d:zx a):xE pos (a++c)=match xE pos a with|some b=>some b|none=>xE pos c:=by
 fun_induction zx a with
 |case1=>rfl
 |case2 f g h i x rest e=>
  simp only[hn,xE];split
  .rfl
  exact e d
 |case3 a j k=>exact d.elim
def rR.snoc{a:Int}(c:zx b)(g:rR d b)(i:d.f f=some h)(m:h.data=.fields j)(n:j[1]?=some (.str v_ k)):rR d (b++[lG a,lG l,.ref f]):=λpos p e=>by
 rw[D1 b _ c] at e;rcases ao:xE pos b with _|q
 .rw[ao] at e;simp only[xE,lG] at e;split at e
  .exact⟨f,h,j,k,(bY e).symm,i,m,n⟩
  exact AV rfl e
 rw[ao] at e;exact g pos p<|ao.trans e
noncomputable def yG:Js:={posonlyargs:=[],args:=[],vararg:=none,kwonlyargs:=[],kw_defaults:=[],kwarg:=none,defaults:=[]}
def r_(a:(b&&d)=true):b=true/\d=true:=(bl ..).mp a
def DE(a:b.isEmpty=true):b=[]:=jM.mp a
def Xv(a:o.isNone=true):o=none:=E1.mp a
def afb(h:Xr b=true):b=yG:=by
 obtain⟨_,_,_,_,_,_,_⟩:=b;have a:=r_ h;have c:=r_ a.1;have d:=r_ c.1;have e:=r_ d.1;have f:=r_ e.1;have g:=r_ f.1;exact congr (congr (congr (congr (congr (congr (aZ Arguments.mk<|DE g.1) (DE g.2)) (Xv f.2)) (DE e.2)) (DE d.2)) (Xv c.2)) (DE a.2)
structure tW{g:G}(scope:f7)(Γ:b5 g):Prop where
 co:scope.isCoroutine=false
 gen:scope.isGenerator=false
 kind:scope.kind=.function
 nodup:(scope.names.map (·.1)).Nodup
 loc:∀y∈scope.names,y.2≠.local/\y.2≠.cell
 free:∀y∈scope.names,y.2=.free->kM (Γ.env.kindOf y.1)=true/\y.1∈Γ.ns
structure lr(c:bP)(f:bG)(body:aI)(scope:f7)(env:Env)(cl:List (Str×bG))(pm:aF)(jP:bG)(Ut:aF):Prop where
 o:c.f f=some {cls:=.type "function",data:=.func (kla_fn "<lambda>" v_ yG body scope cl pm (.ref jP) Ut)}
 code:∃jU CP t,c.f jP=some jU/\jU.data=.fields CP/\CP[1]?=some (.str v_ t)
 Ah:∀z b,(z,b)∈cl->(z,nO)∈scope.names/\env.cells.lookup z=some b
 GA:∀x,(x,nO)∈scope.names->cl.lookup x=env.cells.lookup x
def vE(a:bP)(b:bG)(c:aI)(d:f7)(e:Env):Prop:=∃f g h i,lr a b c d e f g h i
def vE.mono(x:b.le N d k)(a:vE b e f h j):vE d e f h j:=
 a.imp λg a=>a.imp λi a=>a.imp λl a=>a.imp λm a=>{a with o:=x.f _ _ a.o,code:=a.code.imp λn c=>c.imp λp c=>c.imp λq c=>⟨x.f _ _ c.1,c.2⟩}
structure rW{g:G}(Γ:b5 g):Prop where
 one:Γ.fr=[Γ.env]
 fr:Γ.env.frame=some Γ.env.locals
 code:∃jP,xQ g jP 445/\Γ.env.code=.ref jP
 qual:Γ.env.qual++"<lambda>"=v_
 bm:∃oq bm cJ,zV g oq bm cJ
 lim:g.h.NoLimit
 room:∀Q1,oN (Γ.A.deeper Q1) Γ.k
 low:Γ.A.depth<Kd
def zV.at_{cJ:Obj}(a:zV d b f cJ)(c:aL d):c.s.heap.Ns l8 b/\c.s.heap.BuiltinsAt b 445:=by
 have i:=r4 c a.ns av;have g:=c.R.cG _ _<|c.R.base _ _ a.obj a.Of;refine⟨i,f,cJ,a.name,a.ne,λh=>?_,λh=>a.Of (by rw[h];decide),g,a.cls,a.dict,a.data⟩;refine kc i λo k l e j U=>?_
 rw[h,e] at g;cases g
 have:=a.data;rw[j] at this;contradiction
def WX(c:cM a)(j:o.isFreed=false):∃b:cM a,b.W=c.W/\b.s={c.s with heap:=c.s.heap.push o}/\b.c.f c.aC=some o/\∀x d,c.c.f x=some d->b.c.f x=some d:=by
 let h:=c.toaL.new o c.s.drawn c.s.toks;have e:h.o c.aC=some o:=c.toaL.ku j _ _;have i:=c.toaL.fresh<|aS _;exact⟨⟨(h.put i e _).toaL,c.le.bS (h.put i e<|aS _).le⟩,rfl,rfl,bP.ny,(bP.q9 (N:=0) i).f⟩
def adL(n:rW z)(L:tW d z)(F:bQ z a r)(dY:∀(b:cM a) j,b.W=a.W->vE b.c j f d z.env->K (.ref j) b.s):aE g.M z.A (eval (.Lambda yG f d pos) z.env) K E a.s:=by
 refine kla_eval rfl ?_;refine J n.qual<|aG n.code λjP s O=>z7 n.bm λoq bm cJ KM=>?_
 obtain⟨l,P,GB,Q⟩:=LL λx u hf=>by
  obtain⟨eH,gB⟩:=L.free x u hf;obtain⟨i,fN⟩:=QR gB;exact m9 (F.lg i _ fN eH) λp U n6 U=>⟨p,n6⟩
 obtain⟨ape,ps,v,m,t3⟩:=a.R.tab 445 s.mem;have a':=t3 rfl;refine aG (code_at s a) λao7 Ah GA=>?_
 cases GA.2.symm.trans v
 have C:CodeHd a.s.heap jP 445:=.of Ah GA;obtain⟨Ay,nj⟩:=KM.at_ a;rcases e:xE pos ps.toList with _|FC
 .refine kla_makeFunction P z.gl Ay O C v m e av nj λw c k tk u R T V W=>F4 V λc₂ jU y t aA X hd S=>?_
  cases aA
  have Y:zx (ps++#[lG pos.line,lG pos.col,.ref w]).toList:=J fa<|TriplesOk_snoc _ _ _ _ m;have H:tU a k _:=.put R X;let b:=a.tabs tk H s.mem (az R<|bF T) u W Y λU=>by
   exact J fa<|rR.snoc m (a'.mono<|H.le 0) bP.ny hd S
  refine nV (WX b (o:=kla_obj "<lambda>" v_ yG f d l ((oq "__name__").getD .none) w c) rfl) λA B D G M=>?_
  have N:=dY A k.objs.size B ⟨l,_,w,c,G,⟨jU,y,t,M _ _ bP.ny,hd,S⟩,GB,Q⟩;rwa [D] at N
 refine F4 (a' pos FC e) λp afo y q Z f1 f2 U4=>?_;subst Z
 refine kla_makeFunctionHit P z.gl Ay O C v m e nj λc k tk cB fO=>?_
 let b:=a.ME {a.s with heap:=k,toks:=tk} cB fO ⟨λU U h=>h,λh=>h⟩ rfl;refine nV (WX b (o:={cls:=.type "function",data:=.func (kla_fn "<lambda>" v_ yG f d l ((oq "__name__").getD .none) (.ref p) c)}) rfl) λA B D G M=>?_
 have N:=dY A k.objs.size B ⟨l,_,p,c,G,⟨afo,y,q,M _ _ f1,f2,U4⟩,GB,Q⟩;rwa [D] at N
def aeB:(o9 keep r).length=H r:=by unfold o9;exact J (aX ..)<|J kF rfl
structure zX{g:G}(Γ:b5 g)(scope:f7)(tD:b5 g):Prop where
 ns:tD.ns=Γ.ns
 cf:tD.cf=Γ.cf
 dg:∀x,tD.env.kindOf x=scope.names.lookup x
def tW.B'(g:tW e d)(l:bQ d j r)(p:∀b f,(b,f)∈h->(b,nO)∈e.names/\d.env.cells.lookup b=some f)(i:∀x,(x,nO)∈e.names->h.lookup x=d.env.cells.lookup x):zO j e.names d.ns r h where
 cell:=λq x s k=>by
  have a:=mem_of_lookup k;refine x9 (l.lg q x s (g.free _ a rfl).1) λc o t u v w=>?_
  exact⟨c,o,by rw[i _ a];exact t,u,v,w⟩
 apart:=λx y c k z A B ex m=>by
  have a:=mem_of_lookup A;have n:=mem_of_lookup B;rw[i _ a] at ex;rw[i _ n] at m;exact d.ap x y c k z (g.free _ a rfl).1 (g.free _ n rfl).1 ex m
 low:=λb c D=>by
  obtain⟨a,E⟩:=p b c D;obtain⟨F,G⟩:=g.free _ a rfl;exact l.lt<|.inr ⟨b,G,F,E⟩
def adJ(G:rW z)(L:tW f z)(h:vE a.c k B f z.env)(F:bQ z a r)(bw:∀l,zX z f l->cD l B M)(q:M (o9 keep r) a.W m n)(dY:dc a m λO s=>A (.ok (.ret O)) s)(n7:gj a z.fr n λe s=>A (.error e) s):nQ g.M z.A (.call (.ref k) ⟨[],[]⟩) A a.s:=by
 obtain⟨Q,pm,R,Ut,cu,⟨jU,T,t,g2,g3,jI⟩,Ah,V⟩:=h;refine kla_callFunE G.low (a.R.cG _ _ cu) rfl L.co L.gen rfl ⟨R,jU,T,t,rfl,a.R.cG _ _ g2,g3,jI⟩ ?_;refine J (show E4 _ ⟨[],[]⟩=pure [] from rfl)<|aK ?_;unfold js;refine ak<|Ff (o:={cls:=.type "frame",data:=.dict #[]}) ?_;refine ak<|kn _ (λname kind cells=>by cases W:kind==zp<;>simp[W]) _ _ _ _ ?_
 rw[show({a.s with heap:=a.s.heap.push {cls:=.type "frame",data:=.dict #[]}}:bf).heap.objs.size=a.aC+1 from f5 ..];let v:=newEnv f a.aC l8 (pW (a.aC+1) f.names Q) (v_++".<locals>.") (some k) (.ref R) none oK;have E:k6 a f.names z.ns Q v:=⟨rfl,rfl,L.nodup,λU h=>h,λy h=>by
  have h:=h;unfold kM at h;rw[lY] at h;exact h.imp ck ck⟩
 have C:=L.B' F Ah V;let l:b5 g:=⟨z.A.deeper v,v,z.ns,λU=>true,v::z.fr,z.k,z.cf,Qo z.qT,G.room v,z.qR,L.kind,rfl,rfl,z.wg,λy p=>E.ne C y p,λy K p=>E.ap C y K p⟩;let b:=a.frame {cls:=.type "frame",data:=.dict #[]} f.names;have S:d_ b.toaL (v::z.fr):=λe N=>by
  obtain rfl|N:=cQ.mp N
  .exact⟨by show f.kind≠_;exact J L.kind<|(λq=>nomatch q),a.aC,_,_,_,rfl,Kc _ _ _ {cls:=.type "frame",data:=.dict #[]}<|g_ _ rfl,rfl,a.fresh<|aS _⟩
  exact F.ok.le b.le (λU U h=>h) e N
 have X:∀x,f.names.lookup x=some .local\/f.names.lookup x=some .cell->False:=λx w=>w.elim (λw=>(L.loc _<|mem_of_lookup w).1 rfl) λw=>(L.loc _<|mem_of_lookup w).2 rfl
 have Y:bQ l b.toaL (o9 keep r):=k6.C_ E C (aeB.trans F.len) S (λi x d P c u=>(X x c).elim) λi x d P c u D=>by
  unfold o9 at u;rw[d8] at u;refine aG (iQ.mp u) λj P c=>?_
  obtain⟨u,D⟩:=fm.mp P;rw[EK] at D;subst D;rw[kF] at u;rcases q:keep.contains i with _|_
  .rw[q] at c;exact aW c.symm D
  rw[q] at c;rw[<-c];exact J l0<|J (kY u) rfl
 refine ak<|aK<|aK ⟨K6 b.toaL G.lim,kla_codeExpr ?_⟩;refine bw l ⟨rfl,rfl,λU=>rfl⟩ b.toaL _ m n _ _ Y q (dY.le b.le) λx q=>?_
 exact W2 ⟨x.toaL,b.le.bS x.le⟩ (Qo z.qT) rfl (S.le x.le λU U h=>h) (x.e.le b.le.size) λK ao aA Z e=>n7 ⟨K,x.v,x.m,e.map (λU U h=>h) λp k=>⟨k.1,λq=>k.2<|Vm q⟩⟩<|ao▸q
def afh(x:cM a)(A:j.frames=some (d::f))(w:d.frame=some l)(ok:d_ x.toaL (d::f))(e:jE x.toaL (d::f) a.aC k m)(dY:∀h:cM a,h.W=x.W->h.c=x.c->d_ h.toaL (d::f)->jE h.toaL (d::f) a.aC k m->v () h.s):aE g.M j (noteFrame k d) (λU n=>aE g.M j (j2 k none) v K n) K x.s:=by
 rw[e.bw];have B:∀Z,(∀b∈Z,oR x.toaL (d::f) b/\a.aC<=b/\∃o y,x.o b=some o/\o.data=.fields y)->∀c,Heap.NotedW (BZ x.s.heap<|Z++jH (d::f)) (d::f) e.e e.jy.cls (.ref e.t) (lG l) x.s.heap c->
  x.aC<=c.objs.size->(∀b o,c.get? b=some o->x.s.heap.get? b=none->x.aC<=b)->aE g.M j (j2 (.ref e.e) none) v K {x.s with heap:=c}:=by
  rintro Z aaZ c ⟨F,G,H,L⟩ r s
  refine Ji<|iZ (wpAny_setFlight_noneW F G H λgB M N O P Q R=>?_);refine NU x ok e e.he aaZ dY ⟨M,N,O,λb o g t=>(L b o g t).imp λeW q=>P b _ q t⟩ (az r Q) λb o g t=>?_
  rcases q:c.get? b with _|S
  .exact az r<|R b o g q
  exact s b S q t
 refine Ji<|iZ ?_;have i:=e.bu;obtain u|⟨T,V,y,u,jG,W,X,D,E,Y⟩:=i
 .unfold noteFrame;rw[w];refine ak<|gF e.he e.hd u ?_;refine J (cE av)<|wpAny_entryW (base:=BZ x.s.heap<|[e.e]++jH _) A (ok.frames λp z=>vo _<|lF _ z) w e.he (λb o q=>Rn _ q) (vo _<|by simp) e.hd (Jt.mp u).1 e.h0 λc q r s=>?_
  exact B [e.e] (λb i=>J (dK.mp i)<|⟨e.yl,e.new,_,_,e.he,e.hd⟩) c q r s
 refine wpAny_noteFrame_onW (base:=BZ x.s.heap<|[e.e,T]++jH _) A (ok.frames λp z=>vo _<|lF _ z) w ⟨e.jy,e.cY,T,V,y,e.he,⟨rfl,e.h0⟩,e.hd,u,vo _ (by simp),X,D,E,Y⟩
  (λb o q=>Rn _ q) (vo _<|by simp) λc q r s=>?_
 refine B [e.e,T] (λb i=>?_) c q r s;obtain rfl|i:=cQ.mp i
 .exact⟨e.yl,e.new,_,_,e.he,e.hd⟩
 exact J (dK.mp i)<|⟨jG,W,_,_,D,E⟩
def aiB(x:cM a)(ok:d_ x.toaL d)(e:jE x.toaL d a.aC f h)(q:∀b:cM a,b.W=x.W->d_ b.toaL d->jE b.toaL d a.aC f h->v () b.s):aE g.M j (j2 f none) v K x.s:=by
 rw[e.bw];obtain l|⟨m,B,D,l,jG,r,s,n,p,t⟩:=e.bu
 .refine ak (gF e.he e.hd l ?_);exact J (cE av)<|aK<|q x rfl ok e
 refine wpAny_setFlight_none e.he e.hd l n p (Jt.mp t).1 ?_;have i:=rI x.s.heap m (Obj.mapFields (·.setIfInBounds 3 .none));have le:=x.toaL.uC jG.1 i;have u:∀c o,x.o c=some o->c≠m->(x.toaL.loose jG.1 i).o c=some o:=λc o e k=>(i.2 c k).trans e
 have w:(x.toaL.loose jG.1 i).o m=some _:=JB _ n<|h5<|E0 p _;refine q ⟨x.toaL.loose jG.1 i,x.le.trans le (λU y=>y) λc k e=>by have e:=e;subst e;exact aW k<|bA.mpr r⟩ rfl (ok.le le λc k e=>by have e:=e;subst e;exact jG.2 k) {e with he:=u _ _ e.he<|Ne.symm s,kq:=u _ _ e.kq λz=>?_,bu:=.inr ⟨m,_,_,l,jG,r,s,w,E0 p _,?_⟩}
 .have:=e.kq;rw[z] at this;cases n.symm.trans this
  contradiction
 have A:=(Jt.mp t).1;exact Array.getElem?_setIfInBounds_self_of_lt A
def Ms(j:bQ z a r)(v:z.ns[N]?=some x) (D:z.env.kindOf x=some .local) (n:j6 z.env.locals a.s.heap h) (s:h.Ns z.env.locals f) (w:∀d,a.s.heap.Ns z.env.locals d->∀b,b≠x->f b=d b):
 bQ z (iB.one a j.lf (.inl rfl) n tk:iB z a).toaL (r.set N .ai) where
 len:=gM.trans j.len
 lf:=j.lf
 loc:=j.loc.elim λd t=>⟨f,s,λp b y k m q l=>(get_set m).elim (λi=>aW i.2 l) λi=>(t.2 p b y k i.2 q l).imp λE u=>⟨(w d t.1 b λe=>i.1<|Ni z.wg k<|e▸v).trans u.1,u.2⟩⟩
 lg:=λp b k m=>(j.lg p b k m).imp λA c=>c.imp λo c=>⟨c.1,c.2.1.sameBut n<|z.ne b A (eU k) m c.1,c.2.2.1,λB q l=>(get_set q).elim (λi=>aW i.2 l) λi=>c.2.2.2 B i.2 l⟩
 ok:=j.ok.one j.lf (.inl rfl) n λU U U U U=>s.imp λo c=>c.imp λF c=>c.imp λG c=>⟨c.1,c.2.1⟩
noncomputable def nB(x:Str)(a ap b:Pos)(arg:aI):aI:=.Call (.Attribute (.Name x a) ("append":Str) ap) [arg] [] b
def Zp{c:Pos}{k:Call->Prop}(t:bQ z a r)(u:z.ns[N]?=some x) (v:tg (z.env.kindOf x)=true) (w:(x==("__debug__":Str))=false) (y:(x==("__classdict__":Str))=false) (A:ap.endLine=c.line) (i:(isStar arg).isNone=true) (B:r[N]?=some o) (p:o≠.ai) (D:∀e n E,a.V o e->(∀f first d,lI g f->ic g l z.fr f first d a->k d->E (f,first) a.s)->aE g.M l (vn e "append" n) E K a.s) (F:∀d,k d->∀m,(∀(b:cM a) h j,b.V h j->d [h] [] b.W FL cI->m j b.s)->aE g.M l (eval arg z.env) m K a.s) (G:dc a FL E):aE g.M l (eval (nB x s ap c arg) z.env) E K a.s:=by
 unfold nB;refine J (Ar ..)<|ak<|nR (HH t u v y B p λe H=>ak<|j_ ?_) w;have L:jh [arg]=true:=by show((isStar arg).isNone&&true)=true;exact J i rfl
 unfold xH;refine J (show zC _ _ _=true from by rw[wN i];rfl)<|ak<|fT ?_;refine D e _ _ H λf first d M O q=>ak ?_
 have P:vp true (.Name x s) z.env ap c=pure c:=by
  unfold vp;exact J A<|J (beq_self_eq_true ..) rfl
 rw[P];refine aK<|zA (J (noStar L ..) rfl) (λQ K=>M Q K) ?_;refine J (wN i ..)<|iv rfl<|rH (F d q _ λb h j p q=>u9<|aK ⟨b.c8,?_⟩);exact O b.toaL [h] [] [j] [] FL cI E K b.le (t.to b.le).ok (.one p) ⟨rfl,rfl⟩ q (G.le b.le) gj.no
structure x7{g:G}(Γ:b5 g)(xs rF tC:Str)(i Di Hp:Nat):Prop where
 hs:Γ.ns[i]?=some xs
 jS:Γ.ns[Di]?=some rF
 he:Γ.ns[Hp]?=some tC
 ks:tg (Γ.env.kindOf xs)=true
 Nq:Γ.env.kindOf rF=some .local
 Dq:Γ.env.kindOf tC=some .local
 ds:(xs==("__debug__":Str))=false
 cs:(xs==("__classdict__":Str))=false
 Kk:(rF==("__debug__":Str))=false
 Kt:(tC==("__debug__":Str))=false
 WG:Γ.env.kindOf ("ValueError":Str)=some .globalImplicit
 kS:Γ.env.kindOf ("str":Str)=some .globalImplicit
def Oe{a:e9}(x:a.Ns b d)(g:a.Ns b e):d=e:=by
 refine oW x λl m n h i U j=>oW g λp q r c f U k=>?_
 rw[h] at c;cases c
 rw[i] at f;cases f
 funext z;exact bH (j z)<|bH (k z) rfl
def jE.cast(a:b=d)(e:jE f b N h j):jE f d N h j:=a▸e
def Vk(a:b=d)(k:d_ e b):d_ e d:=a▸k
def y6{q:Pos}(t:rW z)(p:x7 z xs b n N x A)(u:tW d z)(c:vE a.c e j d z.env)(v:bQ z a r)(w:a.s.heap.Ns z.env.locals k)(y:k b=some (.ref e))(D:∀f,zX z d f->cD f j l)(i:l (o9 keep r) a.W h m)(F:dc a h K)(G:gj a z.fr m E):
 aE g.M z.A (eval (.Call (.Name b B) [] [] q) z.env) K E a.s:=by
 refine J (uh rfl ..)<|ak<|nR (xN z.fn p.Nq w y ?_) p.Kk;refine K1 (id c) λO Q R S H=>?_
 exact zA (P:=λc=>c.get? e=some {cls:=.type "function",data:=.func _}) rfl (λc L=>⟨.frame,.inl rfl,λT h V s M i=>ak<|zH (M _ _ L)<|aK i⟩)<|aog rfl<|aK ⟨a.R.cG _ _ H.o,pX<|adJ t u c v D i F G⟩
def afK(a:mJ f o k):∃b d,o=.loc b/\f[b]?=some (.lst d)/\k b d:=by
 obtain _|_|_|_|_|_|_|b|_|_:=o<;>first|exact bO a|skip
 refine aG (ez (λa=>a) a) λx e c=>?_
 cases x with
 |lst d=>exact⟨b,d,rfl,e,c⟩
 |_=>exact bO c
def ajv(i:ed g)(c:x7 z xs l d N m n)(p:b.units+2<xD)(q:a.s.heap.Ns z.env.locals f)(r:f d=some (.ref ee))(t:a.o ee=some jy)(u:jy.cls=.type "ValueError")(v:jy.data=.fields e)(w:e[0]?=some (.ref h)) (y:a.o h=some {cls:=.type "tuple",data:=.seq #[.str (toS j) tk] k}) (D:K (.str (toS j) tk) a.s):aE g.M b (eval (.Call (.Name ("str":Str) x) [.Name d A] [] B) z.env) K E a.s:=by
 refine J (uh rfl ..)<|ak<|nR (i.I z b "str" (.type "str") a _ _ bC c.kS ?_) bC;refine zA (P:=λU=>True) rfl (λG H=>⟨.machine,.inr<|.inl rfl,λb L M s O F=>by exact aK F⟩)<|iv rfl<|rH<|nR (xN z.fn c.Dq q r<|u9<|aK ⟨aQ,?_⟩) c.Kt;exact P.str_of_exc_one PySem.F.excStr_ValueError p ⟨jy,e,t,u,v,w⟩ ⟨_,k,y,rfl,rfl⟩ D
def aa4{vB:aN->Prop}{v:pQ->bf->Prop}{qf q0:Pos}(H:ed g)(xT:rW z)(T:x7 z xs L s N M A)(x:cM a)(lH:bQ z a r)(ok:d_ x.toaL z.fr)(e:jE x.toaL z.fr a.aC m n)(Hh:r.set A .ai=r)(cu:r[N]?=some o) (abA:B.endLine=F.line) (h:mJ x.W o λj f=>sI "append" j f [.str n] x.W λU l=>vB l) (dY:∀d:iB z a,bQ z d.toaL r->vB d.W->v .next d.s):
 aE g.M z.A (handleBy m z.env [.ExceptHandler (some<|.Name ("ValueError":Str) qf) (some s) [.Expr (nB xs q0 B F<|.Call (.Name ("str":Str) O) [.Name s P] [] R) S] V]) v K x.s:=by
 have y:z.env.locals∈jH z.fr:=J xT.one<|ve.mpr ⟨z.env,.head _,xT.fr⟩;obtain⟨ee,bw⟩:∃ee,m=.ref ee:=⟨e.e,e.bw⟩;subst bw;refine wpAny_handleBy_builtin_as (b:=true) (i1 bC) (i1 bC) (i1 bC)<|nR (H.I z _ "ValueError" (.type "ValueError") x.toaL _ _ bC T.WG ⟨rfl,⟨e.jy,(aZ x.s.heap.get? ((Value.ref.inj e.bw).symm).symm).trans e.he,e.jS⟩,?_⟩) bC;refine J (dI rfl)<|aiB x ok e λd nc afv i=>?_
 have E:=(Value.ref.inj i.bw).symm;have vz:=lH.to d.le;refine aG vz.loc λao0 G U=>kV T.Dq G (λMH X t=>?_)<|J z.fn rfl
 have vA:=Ms (tk:=d.s.toks+1) vz T.he T.Dq t X λXb u p fO=>by
  exact J (Oe u G)<|cE fO
 rw[Hh] at vA;let p:iB z d.toaL:=iB.one d.toaL vz.lf (.inl rfl) t<|d.s.toks+1;have aa':p.o ee=some i.jy:=by
  show MH.get? ee=_;rw[t.2 ee λq=>i.yl.2<|J E<|J q<|y];exact(aZ d.s.heap.get? E.symm).trans i.he
 refine jN (afK h) λj f ahH vZ U=>?_;subst ahH
 refine Rv<|kl ?_ z.inter<|uE rfl;refine Zp (FL:=λU l=>vB l) (k:=λc=>c=λas ks W Q U=>nul ks (mJ W (.loc j) λU f=>sI "append" j f as W Q)) vA T.hs T.ks T.ds T.cs abA rfl cu D.noConfusion (λm X7 KA bw cB=>?_) (λc jS KA aaV=>?_) λw hw=>B6 ?_
 .obtain⟨iu,rfl⟩:=bw;exact Xi (k:=λc=>c=λas ks W Q U=>nul ks (mJ W _ λU f=>sI "append" j f as W Q)) iu (by show d.W[j]?=_;exact J nc<|vZ) ⟨.inl rfl,rfl⟩ cB
 .subst jS;refine ajv H T (show z.A.units+2<_ from Ll z.aU.u rfl) X (dI rfl) aa' i.jS i.hd i.h0 ((t.2 i.t λq=>i.yo.2<|q▸y).trans i.kq) ?_;exact aaV ⟨p.toaL,bJ.same rfl rfl (λU U U U e=>.ff e) (aS _) rfl rfl⟩ (.str n) _ ⟨i.z,_,rfl⟩ (by
   show mJ d.W _ λU f=>sI "append" j f [.str n] d.W λU l=>vB l
   rwa [nc])
 have Kv:=vA.to w.le;refine aG Kv.loc λao1 Y U=>wpAny_nameGoes_keeps T.Dq Y (J z.fn rfl) λaoN apc aby Z=>?_
 have RY:=Ms (tk:=w.s.toks+1) Kv T.he T.Dq Z aby λXb u p fO=>by
  exact J (Oe u Y)<|cE fO
 rw[Hh] at RY;exact dY ⟨_,((d.le.of0.bS p.le).bS w.le.of0).bS (iB.one w.toaL Kv.lf (.inl rfl) Z<|w.s.toks+1).le⟩ RY hw
def adM{i:aN->Prop}{t:pQ->bf->Prop}{p2 pA p4 qf q0:Pos}(H:ed g)(c:rW z)(T:x7 z xs k l N Di M)(L:tW s z)(gC:vE a.c f O s z.env)(F:bQ z a r)(hm:a.s.heap.Ns z.env.locals P)(hf:P k=some (.ref f))(p:∀A,zX z s A->cD A O Q)(D:r.set M .ai=r)(u:r[N]?=some o) (E:R.endLine=pA.line) (G:S.endLine=V.line) (h:pg z.cf a.W o "append" λB=>Q (o9 keep r) a.W (λd j=>B [d] [] j (λU b=>i b) cI) λm j=>mJ j o λn W=>sI "append" n W [.str m] j λU b=>i b) (y:∀e:iB z a,bQ z e.toaL r->i e.W->t .next e.s):
 aE g.M z.A (exec (.Try [.Expr (nB xs p0 R pA<|.Call (.Name k p1) [] [] p2) p4] [.ExceptHandler (some<|.Name ("ValueError":Str) qf) (some l) [.Expr (nB xs q0 S V<|.Call (.Name ("str":Str) rd) [.Name l DV] [] yM) DW] DX] [] [] Z) z.env) t K a.s:=by
 refine wpAny_Try_except<|Rv<|kl ?_ z.inter<|uE rfl;refine Zp (FL:=λU b=>i b) F T.hs T.ks T.ds T.cs E rfl u (λq=>by subst q;exact h) (λv X7 KA p cB=>H.pg z a o v "append" _ X7 _ _ p h cB) (λB jS KA X=>?_) λw hw=>B6<|B6<|y ⟨w.toaL,w.le.of0⟩ (F.to w.le) hw
 refine y6 c T L gC F hm hf p jS (λx q=>X x.tocM x.d x.v x.bw q) λx q=>afh x.tocM (J z.qT<|J c.one rfl) c.fr (Vk c.one (F.ok.le x.le λU U h=>h)) (x.e.cast c.one) λe nc C0 Y L7=>?_
 exact aa4 H c T e F (Vk c.one.symm Y) (L7.cast c.one.symm) D u G (nc▸q) y
structure qB where
 body:aI
 scope:f7
 pos:Pos
def qB.e(a:qB):aI:=.Lambda yG a.body a.scope a.pos
def Cj(e:bP)(f:Env)(b:List bG)(c:List qB):Prop:=H b=H c/\∀(k:Nat) d a,b[k]?=some d->c[k]?=some a->vE e d a.body a.scope f
def Cj.mono(x:b.le N d j)(a:Cj b e f h):Cj d e f h:=⟨a.1,λk c g ao aA=>(a.2 k c g ao aA).mono x⟩
def adQ(t:rW z):∀f b j,(∀h∈f,tW h.scope z)->bQ z b r->(∀(d:cM b) l,d.W=b.W->Cj d.c z.env l f->j (l.map kJ) d.s)->aE g.M z.A (spliced (tP pos (qx (f.map qB.e) z.env))) j K b.s:=λf=>by
 induction f with
 |nil=>exactλb j U a c=>u9<|c ⟨b,bJ.same rfl rfl (λU U U U e=>.ff e) (aS _) rfl rfl⟩ [] rfl ⟨rfl,λk m h e=>nomatch e⟩
 |cons h f u=>
  intro b j n a c;refine J i6<|rH (adL t (n h<|.head _) a λd m ao v=>?_);refine u d.toaL _ (λh w=>n h<|.tail _ w) (a.to d.le) λi l aA p=>c ⟨i.toaL,d.le.bS i.le⟩ (m::l) (aA.trans ao) ⟨aZ xA p.1,λk x y q s=>?_⟩
  obtain _|k:=k
  .cases q;cases s;exact v.mono i.le.le
  exact p.2 k x y q s
structure KH{g:G}(Γ:b5 g)(a:aL g)(env:Env)(iF:List bG)(ls:List qB)(rc:List D)(T I k:Nat)(y:iB Γ a):Prop where
 F:bQ Γ y.toaL rc
 t:y.c.f T=some (qn (iF.map kJ) 0)
 l:Cj y.c env iF ls
 it:y.s.heap.IsTupleIter I T k
 fr:y.c.Fr I
def dy(c:∀b,r[d]?=some b->b=.ai):r.set d .ai=r:=by
 refine JI λk=>?_
 by_cases a:d=k
 .subst a;rcases e:r[d]? with _|b
  .rw[EI] at e⊢;exact J gM<|e
  exact J (vd<|jw e)<|J (c b e) rfl
 exact J (nL a) rfl
def bQ.clear(i:bQ b d r)(cN):bQ b d (clear cN r):=
 have k:∀(a:Nat) (c:D),(M.Internal.clear cN r)[a]?=some c->c≠.ai->r[a]?=some c:=λa c f g=>by
  by_cases l:a∈cN
  .exact aW (CL cN r a c l f) g
  rw[LK cN r a l] at f;exact f
 {i with
  len:=(Um cN r).trans i.len
  loc:=i.loc.imp λm e=>⟨e.1,λa x c f g j h=>e.2 a x c f (k a c g h) j h⟩
  lg:=λa x f g=>(i.lg a x f g).imp λn e=>e.imp λo e=>⟨e.1,e.2.1,e.2.2.1,λc j h=>e.2.2.2 c (k a c j h) h⟩}
def aeo{xs rF tC:Str}{Di Hp:Nat}{p0 p1 p2 pA p4 qf q0 rd DV yM YF DW DX Il S8 v pc:Pos}{iF:List bG}{ls:List qB}{KV I k:Nat}{FA:pQ->bf->Prop}{y:iB z a}{l:qB}{m:List Nat×bB}{vB:aN->Prop}(H:ed g)(xT:rW z)(T:x7 z xs rF tC N Di Hp)(X:S8.endLine=pA.line)(Y:v.endLine=YF.line)(F:bQ z a r)(c6:a.aC<=I)(I_:r.set Di .ai=r)(ue:r.set Hp .ai=r)(L:KH z a z.env iF ls r KV I k y)(hf:iF[k]?=some c) (gC:ls[k]?=some l) (Hg:tW l.scope z) (bw:∀n:b5 g,zX z l.scope n->cD n l.body m.2.v) (q:opt (r[N]?) λo=>pg z.cf y.W o "append" λB=>m.2.v (o9 m.1 r) y.W (λM b=>B [M] [] b (λU f=>vB f) cI) λm b=>mJ b o λA O=>sI "append" A O [.str m] b λU f=>vB f) (dY:∀d:iB z a,KH z a z.env iF ls r KV I (k+1) d->vB d.W->FA .next d.s):
 aE g.M z.A (qw<|.ref I) (λo P=>∃j,o=some j/\aE g.M z.A (rP (.Name rF pc) (.ref I) j) (λU Q=>aE g.M z.A (assign (.Name rF pc) z.env j) (λU R=>aE g.M z.A (execs [.Try [.Expr (nB xs p0 S8 pA<|.Call (.Name rF p1) [] [] p2) p4] [.ExceptHandler (some<|.Name ("ValueError":Str) qf) (some tC) [.Expr (nB xs q0 v YF<|.Call (.Name ("str":Str) rd) [.Name tC DV] [] yM) DW] DX] [] [] Il] z.env) FA K R) K Q) K P) K y.s:=by
 have qb:∀x∈[I],a.aC<=x:=λx h=>by rwa [dK.mp h]
 have yp:y.s.heap.IsTuple KV (iF.map kJ).toArray:=⟨_,y.R.cG _ _ L.t,rfl,0,rfl⟩;have aaU:I≠z.env.locals:=λq=>aW (F.lt<|.inl rfl)<|bA.mpr<|q▸c6
 refine aoA L.it yp (J gY<|J d8<|J hf rfl) λfM w hs=>⟨_,rfl,?_⟩
 have D:=(y.toaL.uC L.fr hs).up λp U e=>dK.mpr e
 have vy:=bQ.step F qb L.F D;have Qm:=bJ.step qb y.le D;refine dm (id w) λXF t E aa7=>AO t E av ?_
 refine aG vy.loc λN2 G U=>Kh<|kV T.Nq G (λVF S u=>?_)<|J z.fn rfl
 have Cc:=Ms (tk:=(y.toaL.loose L.fr hs).s.toks+1) vy T.jS T.Nq u S λXb abx d fO=>by
  exact J (Oe abx G)<|cE fO
 rw[I_] at Cc;let e3:iB z _:=iB.one _ vy.lf (.inl rfl) u<|(y.toaL.loose L.fr hs).s.toks+1;obtain⟨o,cu,q⟩:=ji q;have V:=(u.2 I aaU).trans t;refine Rv (adM (a:=e3.toaL) H xT T Hg (L.l.2 k c l hf gC) Cc S (dI rfl) bw ue cu X Y q λi vz yM=>B6 ?_);have W:=L.fr;have Z:¬z.own I:=λh=>aW (F.lt<|b5.DJ h)<|bA.mpr c6
 refine dY ⟨i.toaL,(Qm.bS e3.le).bS i.le⟩ ⟨vz,i.le.le.f _ _ L.t,L.l.mono i.le.le,⟨XF,(i.le.keep I XF W Z V).wg (λes A q=>by
  refine dm w λo' L7 U hd=>?_
  cases t.symm.trans L7
  rw[q] at hd;contradiction),E,aa7⟩,i.le.fr I W (dJ V)⟩ yM
def ajb{p2 pA p4 qf q0 pc:Pos}{c:List qB}(H:ed g)(xT:rW z)(T:x7 z xs j s N A B)(abm:A∈cN)(Hh:B∈cN)(E:c.length<=100)(D:b.length=c.length)(G:P.endLine=pA.line)(K:R.endLine=V.line)(Hg:∀l∈c,tW l.scope z)(bw:∀(n:Nat) l m,c[n]?=some l->b[n]?=some m->∀M,zX z l.scope M->cD M l.body m.2.v):
 cP z (.For (.Name j pc) (.Tuple (c.map qB.e) kt pt) [.Try [.Expr (nB xs p0 P pA<|.Call (.Name j p1) [] [] p2) p4] [.ExceptHandler (some<|.Name ("ValueError":Str) qf) (some s) [.Expr (nB xs q0 R V<|.Call (.Name ("str":Str) rd) [.Name s DV] [] yM) DW] DX] [] [] Il] [] pos)
  (λf W O U=>rE z.cf N b (clear cN f) W O):=λa f Q Z O X F h dY n7=>by
 have lH:=F.clear cN;have I_:=dy λd e=>CL cN f A d abm e
 have ue:=dy λd e=>CL cN f B d Hh e
 have h:rE z.cf N b _ a.W Q:=h;generalize clear cN f=rc at lH I_ ue h;refine wpAny_For (J3 (adQ xT c a _ Hg lH λx iF nc t=>?_))<|G4 rfl;refine l9 ?_ (by show(iF.map kJ).toArray.size<=j9;exact J cK<|J (aX ..)<|J t.1<|az E av);let w:=(x.toaL.new (qn (iF.map kJ) 0) x.s.drawn x.s.toks).put (x.toaL.fresh<|aS _) (x.toaL.ku rfl _ _)<|aS _;have aav:w.o x.aC=some _:=x.toaL.ku rfl _ _;refine Kl ⟨_,aav,rfl,0,rfl⟩ ?_;let r:=w.toaL.new {cls:=.type "tuple_iterator",data:=.fields #[.ref x.aC,.int 0 0]} w.s.drawn w.s.toks;have aaq:r.o w.aC=some {cls:=.type "tuple_iterator",data:=.fields #[.ref x.aC,.int 0 0]}:=w.toaL.ku rfl _ _;have c6:=az x.le.size w.le.size;have qb:∀p∈[w.aC],a.aC<=p:=λp h=>by rwa [dK.mp h]
 have we:=(x.le.bS w.le).bS r.le;refine aod (I:=λn s'=>∃(k:Nat) (y:iB z a),n=c.length-k/\k<=c.length/\s'=y.s/\KH z a z.env iF c rc x.aC w.aC k y/\rE z.cf N (b.drop k) rc y.W Q) ?_ _
  ⟨0,⟨r.toaL,we.of0⟩,rfl,b9 _,rfl,⟨lH.to we,bP.ny,t.mono (w.le.bS r.le).le,⟨_,aaq,rfl,rfl⟩,w.toaL.fresh<|aS _⟩,nc.symm▸h⟩
 rintro n s4 ⟨k,y,rfl,cB,rfl,L,q⟩
 by_cases u:k=c.length
 .have Y:b.drop k=[]:=am9 (J D<|J u<|aS _);rw[Y] at q;have yp:y.s.heap.IsTuple x.aC (iF.map kJ).toArray:=⟨_,y.R.cG _ _ L.t,rfl,0,rfl⟩;refine iZ (aoz z.aU.h L.it yp (J gY<|J (tK (by rw[aX,t.1,u];exact aS _)) rfl) λfM he fO=>B6 ?_);have le:=bJ.ex L.fr he fO y.s.toks (S:=[w.aC])<|.head _;exact dY ⟨⟨y.toaL.ex L.fr he fO y.s.toks,bJ.step qb y.le le⟩,rc,bQ.step lH qb L.F le,.next,.next,rfl⟩ q
 have i:=Nat.lt_of_le_of_ne cB u;have hm:=D▸i;rw[ho hm] at q;refine fq (aeo (p0:=p0) (p1:=p1) (p2:=p2) (p4:=p4) (qf:=qf) (q0:=q0) (rd:=rd) (DV:=DV) (yM:=yM) (DW:=DW) (DX:=DX) (Il:=Il) (pc:=pc) (FA:=?FA) H xT T G K lH c6 I_ ue L (kY<|t.1.symm▸i) (kY i) (Hg _<|anf i) (bw k _ _ (kY i)<|kY hm) q ?AJ) (λo Er yr=>?m) λU U h=>h
 case m=>
  obtain⟨v,rfl,yr⟩:=yr;exact yr
 case AJ=>exactλr lL ahO=>⟨c.length-_,Q5 i<|f6 k,k+1,r,rfl,i,rfl,lL,ahO⟩
def akZ{s:cS}:Wl s=some b->∃d,s=.Try b.1 b.2 [] [] d:=by
 induction s using PySem.Stmt.casesOn<;>first|exact ns|skip
 intro a;obtain⟨c,e⟩:=oZ a;obtain⟨f,g⟩:=(bl ..).mp c;exact⟨_,J (jM.mp f)<|J (jM.mp g)<|bH (bY e) rfl⟩
def TB{s:cS}:Wd s=some i->∃b,s=.Expr i b:=by
 induction s using PySem.Stmt.casesOn<;>first|exact ns|exactλa=>⟨_,bH (bY a) rfl⟩
def aa3(e:We f=some b):∃d,f=.ExceptHandler (some b.1) (some b.2.1) b.2.2 d:=by
 obtain⟨g,h,i,d⟩:=f;exact aG (gi.mp e) λj a e=>aG (iQ.mp e) λk c e=>⟨d,by rw[a,c,<-e]⟩
def air(a:Wi i=some e):∃d ap b,i=nB e.1 d ap b e.2/\ap.endLine=b.line:=by
 refine aG (gi.mp a) λr g a=>aG (gi.mp a) λh j a=>aG (gi.mp a) λx k a=>?_
 obtain⟨f,l⟩:=oZ a;refine aG (iQ.mp l) λs m n=>?_
 obtain⟨f,p⟩:=(bl ..).mp f;obtain⟨q,c⟩:=(bl ..).mp f;obtain⟨b,ao⟩:=yf g;obtain⟨d,aA⟩:=n9 k;have c:=eB c;rw[ao] at c;refine⟨d,h.2.2,b,?_,c⟩;rw[ao,Lk j,aA,yI m,jM.mp p,ck q,<-n]
 rfl
def adH:v8 i=some b->∃d,i=.Lambda yG b.1 b.2 d:=by
 induction i using PySem.Expr.casesOn<;>first|exact ns|exactλa=>⟨_,J (afb (oZ a).1)<|bH (bY (oZ a).2) rfl⟩
structure mn(pJ:aI)(body Mc:List cS)(xs rF tC:Str)(P:Nat->Pos):Prop where
 pJ:pJ=.Name rF (P 0)
 body:body=[.Try [.Expr (nB xs (P 1) (P 2) (P 3)<|.Call (.Name rF<|P 4) [] []<|P 5)<|P 6] [.ExceptHandler (some<|.Name ("ValueError":Str)<|P 7) (some tC) [.Expr (nB xs (P 8) (P 9) (P 10)<|.Call (.Name ("str":Str)<|P 11) [.Name tC<|P 12] []<|P 13)<|P 14]<|P 15] [] []<|P 16]
 Mc:Mc=[]
 p1:(P 2).endLine=(P 3).line
 p2:(P 9).endLine=(P 10).line
def Zo(a:O5 j=some h):∃d ap b f,j=[.Expr (nB h.1 d ap b h.2) f]/\ap.endLine=b.line:=by
 refine aG (gi.mp a) λs c a=>aG (gi.mp a) λe g a=>Ct (air a) λd ap b i k=>?_
 obtain⟨f,l⟩:=TB g;exact⟨d,ap,b,f,J (yI c)<|J l<|J i rfl,k⟩
def akY(a:dp j=some d):∃e ap b f h,j=[.Try [.Expr (nB d.1.1 e ap b d.1.2) f] [d.2] [] [] h]/\ap.endLine=b.line:=by
 refine aG (gi.mp a) λq c a=>aG (gi.mp a) λr g a=>?_
 refine aG (gi.mp a) λs i a=>aG (iQ.mp a) λx k l=>?_
 obtain⟨h,m⟩:=akZ g;refine Cu (Zo i) λe ap b f n p=>?_
 exact bH l<|⟨e,ap,b,f,h,by rw[yI c,m,n,yI k],p⟩
def aa2(e:VL k=some b):∃f ap d h j,k=.ExceptHandler (some b.1) (some b.2.1) [.Expr (nB b.2.2.1 f ap d b.2.2.2) h] j/\ap.endLine=d.line:=by
 refine aG (gi.mp e) λx a e=>aG (iQ.mp e) λn c g=>?_
 obtain⟨j,i⟩:=aa3 a;refine Cu (Zo c) λf ap d h l m=>?_
 exact bH g<|⟨f,ap,d,h,j,by rw[i,l],m⟩
def y0(a:T_ i=some d):∃b,i=.Call d [] [] b:=by
 refine aG (gi.mp a) λh e a=>?_
 obtain⟨c,f⟩:=oZ a;obtain⟨b,g⟩:=yf e;exact⟨b,J g<|J (jM.mp ((bl ..).mp c).1)<|J (jM.mp ((bl ..).mp c).2)<|J (bY f) rfl⟩
def y1(a:Ua i=some d):∃b,i=.Call d.1 [d.2] [] b:=by
 refine aG (gi.mp a) λk c a=>?_
 obtain⟨e,f⟩:=oZ a;refine aG (iQ.mp f) λl g h=>?_
 obtain⟨b,j⟩:=yf c;exact bH h<|⟨b,by rw[j,yI g,jM.mp e]⟩
def ox{e:Bool}(j:(b&&d&&f&&h&&e)=true):b=true/\d=true/\f=true/\h=true/\e=true:=
 have a:=r_ j;have c:=r_ a.1;have g:=r_ c.1;have i:=r_ g.1
 ⟨i.1,i.2,g.2,c.2,a.2⟩
def akU(e:dn n d b=some s):s=(d.1,n,b.2.1)/\b.2.2.1=d.1/\(∃f h,d.2=.Call (.Name n f) [] [] h)/\(∃j,b.1=.Name ("ValueError":Str) j)/\∃k l m,b.2.2.2=.Call (.Name ("str":Str) k) [.Name b.2.1 l] [] m:=by
 refine aG (gi.mp e) λv c e=>aG (gi.mp e) λw g e=>?_
 obtain⟨i,p⟩:=oZ e;have a:=ox i;obtain⟨h,ao⟩:=y0 c;obtain⟨m,aA⟩:=y1 g;obtain⟨f,q⟩:=n9<|ck a.1;obtain⟨j,r⟩:=n9<|ck a.2.1;obtain⟨k,t⟩:=n9<|ck a.2.2.2.1;obtain⟨l,u⟩:=n9<|ck a.2.2.2.2;exact⟨(bY p).symm,ck a.2.2.1,⟨f,h,by rw[ao,q]⟩,⟨j,r⟩,k,l,m,by rw[aA,t,u]⟩
def akV(a:Hv d e f=some b):∃h,mn d e f b.1 b.2.1 b.2.2 h:=by
 obtain⟨g,a⟩:=oZ a;refine aG (gi.mp a) λM i a=>aG (gi.mp a) λN j a=>aG (gi.mp a) λO k a=>?_
 obtain⟨rfl,l,⟨m,n,ao⟩,⟨p,aA⟩,q,r,s,bL⟩:=akU a;obtain⟨c,t⟩:=n9 i;exact SP (akY j) λu v w x y z A=>SP (aa2 k) λB D E F G H K=>⟨λL=>[c,u,v,w,m,n,x,p,B,D,E,q,r,s,F,G,y].getD L c,t,by rw[z,H,l,ao,aA,bL];rfl,jM.mp g,A,K⟩
def nW:allB f=true->∀(b:Nat) {d},f[b]?=some d->d=true:=by
 induction f with
 |nil=>exactλU b d a=>nomatch a
 |cons x f c=>
  intro a b d e;obtain _|_:=x
  .contradiction
  obtain _|b:=b
  .exact(bY e).symm
  exact c a b e
def adO(h:aI×f7->w)(a):(a.all λe=>b7 (v8 e) false λb=>NS f b.2)=true->∃d:List qB,a=d.map qB.e/\(a.filterMap λe=>(v8 e).map h)=d.map (λa=>h (a.body,a.scope))/\∀a∈d,NS f a.scope=true:=by
 induction a with
 |nil=>exactλU=>⟨[],rfl,rfl,λa c=>nomatch c⟩
 |cons e a j=>
  intro c;obtain⟨g,k⟩:=(bl ..).mp<|(nJ ..).symm.trans c;refine dm (j k) λd ao aA bL=>?_
  rcases b:v8 e with _|i
  .rw[b] at g;contradiction
  rw[b] at g;obtain⟨pos,l⟩:=adH b;refine⟨⟨i.1,i.2,pos⟩::d,by rw[ao,l];rfl,?_,λa m=>(cQ.mp m).elim (λe=>e▸g)<|bL a⟩;exact J tH<|J b<|aZ _ aA
def f9.lm(a:f9 b d){s:f7}(I:zX b s e):f9 e (d.lm s):=⟨a.ns.trans I.ns.symm,funext λx=>(I.dg x).symm,a.gl⟩
def adI(f:Hu b=some d):∃k e,b=.Tuple d k e:=by
 refine aG (gi.mp f) λg h a=>?_
 rcases c:g.head?.bind v8 with _|i
 .rw[c] at a;exact ns a
 rw[c] at a;exact bH (bY a)<|Hw h
def adP(p:ed g)(r:rW z)(c:iS z b):vF z b (ru z.cf 60):=λs E d t u pos j=>by
 unfold IC;rcases f:Hv s t u with _|l
 .exact cP.no
 refine cP.dN λh=>?_
 have a:=@nW _ h;have e7:∀{x:Str},b.ns.contains x=true->z.ns[b.e7 x]?=some x:=λ{x} h=>bH c.ns<|Nh h
 have i:∀{x:Str} {k:Option kH},_=true->z.env.kindOf x=k:=λ{x k} h=>bH c.dg<|ck h
 have w:x7 z l.1 l.2.1 l.2.2 _ _ _:=⟨e7<|a 4 rfl,e7<|a 6 rfl,e7<|a 8 rfl,bH c.dg<|a 3 rfl,i<|a 5 rfl,i<|a 7 rfl,(mS _).mp<|a 11 rfl,(mS _).mp<|a 12 rfl,(mS _).mp<|a 13 rfl,(mS _).mp<|a 14 rfl,i<|a 9 rfl,i<|a 10 rfl⟩;refine vX (adI j) λF G y=>(adO (λf=>(b.WN f.2,ru z.cf 60 (b.lm f.2) f.1)) d<|a 2 rfl).elim λK e=>(akV f).elim λL I=>?_
 rw[e.2.1,I.pJ,I.body,I.Mc,y,e.1];exact ajb p r w (.head _) (.tail _ (.head _)) (by have:=eB (a 1 rfl);rwa [e.1,aX] at this) (aX _) I.p1 I.p2 (λd j=>by
  have a:=@nW _<|e.2.2 d j;refine⟨(mS _).mp<|a 0 rfl,(mS _).mp<|a 1 rfl,ck<|a 2 rfl,eB<|a 3 rfl,λm n=>?_,λm n A=>?_⟩
  .have k:=(bl ..).mp (dQ.mp (a 4 rfl) m n);exact⟨bne_iff_ne.mp k.1,bne_iff_ne.mp k.2⟩
  .have k:=((lY ..).mp<|dQ.mp (a 5 rfl) m n).resolve_left λk=>aW A (bne_iff_ne.mp k)
   exact⟨by rw[<-c.dg];exact((bl ..).mp k).1,bH c.ns<|nK.mp ((bl ..).mp k).2⟩) (λM d N B q D I=>by
  rw[d8,B] at q;exact bH (bY q)<|(Bh p z.cf 60 D _ d.body I.cf (c.tof9.lm I)).v)
noncomputable def OD(a:jD)(b:Nat):Sem w->Option w:=Nat.rec (λU=>none)
 (λU c d=>Q7 d some (λU=>none) (λU=>none) (λU=>none) (λU U=>none) (λU U=>none) (λe U k=>(a.lookup e).bind λo=>c<|k o) (λU U U U=>none) (λU U=>none) (λU U=>none) (λU U=>none) (λU U=>none) (λU=>none) (λU=>none) (λU U U=>none) (λU U U=>none) (λU U U U U=>none) (λU U=>none) (λU U=>none) (λU U=>none) (λU U U U=>none) (λU U U U=>none) (λU=>none) (λU U=>none) (λU=>none) λU U U U U=>none) b
def OE(a:jD)(b:Nat)(c:bG)(d:Sem w):Option (Obj×w):=Q7 d (λU=>none) (λU=>none) (λU=>none) (λU=>none) (λU U=>none) (λU U=>none) (λU U U=>none) (λU U U U=>none)
 (λo k=>(OD a b<|k c).map λx=>(o,x)) (λU U=>none) (λU U=>none) (λU U=>none) (λU=>none) (λU=>none) (λU U U=>none) (λU U U=>none) (λU U U U U=>none) (λU U=>none) (λU U=>none) (λU U=>none) (λU U U U=>none) (λU U U U=>none) (λU=>none) (λU U=>none) (λU=>none) (λU U U U U=>none)
def YD{M:nN}{h:fY}{x:w}{d:w->bf->Prop}(i:t.In y.heap)(j:d x y)(c:Nat):∀b:Sem w,OD t c b=some x->aE M h b d E y:=by
 induction c with
 |zero=>exactλU a=>ns a
 |succ c k=>
  intro b;induction b using Q7<;>first|exact ns|exactλa=>aK (bY a▸j)|exactλa=>aG (gi.mp a) λo e a=>λf g l=>Eq.mpr (Sem.wp_load M f _ _ g y _ _ _) ⟨o,i _ o e,k _ a f g l⟩
def ahA{M:nN}{i:fY}{g:w->bf->Prop}{o:Obj}{h:bG->w}{c:Sem w}(j:∀d,(∀b o,y.heap.get? b=some o->d.get? b=some o)->t.In d)(a:∀f,OE t N f c=some (o,h f))(k:g (h y.heap.objs.size) {y with heap:=y.heap.push o}):aE M i c g E y:=by
 revert a;induction c using Q7<;>first|exactλa=>ns (a 0)|skip
 intro a;refine aG (iQ.mp<|a y.heap.objs.size) λx l m=>?_
 obtain⟨rfl,e⟩:=Prod.mk.inj m;exact ak<|Ff<|YD (j _ λb o e=>fZ _ e) (e▸k) N _ l
noncomputable def Ac(b:Nat):(List aF->Prop)->Prop:=Nat.rec (λa=>a []) (λU c a=>∀d,c λe=>a (d::e)) b
def S5:∀{P:List aF->Prop} {b:List aF},Ac d P->H b=d->P b:=by
 induction d with
 |zero=>exactλa e=>(ani.mp e)▸a
 |succ d c=>
  intro P b a e;obtain _|⟨f,b⟩:=b
  .contradiction
  exact c (P:=λb=>P _) (a f)<|Nat.succ.inj e
def S4(a:Nat)(b:Nat->Prop):Prop:=Nat.rec True (λa c=>b a/\c) a
def oo(a:S4 b d)(c:f<b):d f:=by
 induction b with
 |zero=>exact aW c<|JV _
 |succ b g=>exact(Nat.lt_succ_iff_lt_or_eq.mp c).elim (g a.2) λe=>e▸a.1
def B8(e:jD)(a:Inf)(f:oA)(b g:List aF)(h:List (Str×aF)):Prop:=S4 (H a.m_+1) λc=>Ac (a.np-c) λd=>OD e 40 (E4 f ⟨d,h⟩)=some ((a.ns.take<|par a).zip<|d++b.drop (H b-c)++g)
def Kp(c:jD)(b:Inf)(d:oA)(e:List aF):Prop:=opt b.kw λf=>(∀a,B8 c b d e [a] [(f.1,a)])/\∀g,f.2=some g->∃a,(∀h i,eZ h i g a)/\B8 c b d e [a] []
def tc(a:d<=b)(c:b<=d+N)(g:b<=e)(h:f=e-b):d+(N-(d+N-b))+f=e:=by
 rw[<-Nat.add_sub_assoc<|anO<|h_ b _▸j8 a N,anP c,h,rL g]
def Ls{i:List D->Prop}{n:List (Str×aF)->bf->Prop}(p:aV a.c (H a.W) b.m_ f)(c:H as<=b.np)(q:b.np<=H as+H b.m_)(r:a.b4 as h)(s:a.b4 d j)(t:H d=par b-b.np)(u:∀x:KO a,H x.d=par b->x.W=a.W->i x.d->n ((b.ns.take (par b)).zip x.v) x.s)(v:B8 g.K b k f j l)(w:i (as++b.m_.drop (H as+H b.m_-b.np)++d)):aE g.M m (E4 k ⟨h,l⟩) n K a.s:=by
 refine YD a.c8 ?_ 40 _<|S5 (oo v<|oH<|Nat.sub_le_iff_le_add'.mpr q)<|r.cg.trans (anP c).symm;refine J (Nat.sub_sub_right _ c)<|J p.cg<|J (h_ (H b.m_) ..)<|u ⟨⟨a,bJ.same rfl rfl (λU U U U e=>.ff e) (aS _) rfl rfl⟩,_,_,(r.append<|p.drop _).append s⟩ ?_ rfl w;exact J bq<|J bq<|J xr<|tc c q (az (cZ _ _)<|cZ _ _) t
def adk(a:vD h [d] b)(e:d.1=k):∃f,h.V d.2 f/\b=[(k,f)]:=by
 have c:=a.n;obtain _|⟨g,b⟩:=b
 .contradiction
 obtain _|_:=b
 .exact⟨g.2,a.v.1,aZ (λi=>[(i,g.2)])<|(List.cons.inj c).1.trans e⟩
 exact nomatch (List.cons.inj c).2
def tx(l:∀d f,aV d f b.m_ h)(p:b.qX=false)(a:Kp j.K b k h):B_ j b k:=λD E as q F G H K X r s g t=>by
 refine aG (ji a) λL u a=>?_
 have v:par b-b.np=1:=by unfold par;exact J u<|J p<|BN (n:=b.np) (m:=1)
 have i:=g.2.2;rw[u,p] at i;obtain _|⟨M,q⟩:=q
 .refine aG (ji i) λy z c=>aG (a.2 y z) λw A a=>?_
  rw[s.no];rw[cond_false,dR] at c;exact Ls (l _ _) g.1 g.2.1 r (aV.one<|A _ _) v.symm t a c
 have c:=iH i;refine aG (adk (c.1▸s) c.2.1) λw B e=>?_
 have x:=c.2.2;rw[cond_false,dR] at x;rw[e];exact Ls (l _ _) g.1 g.2.1 r (aV.one B) v.symm t (a.1 w) x
def tv(m:b.m_=[]/\b.kw=none/\b.qX=true)(n:Ac b.np λf=>∀d,OE h.K 40 d (E4 j ⟨f,[]⟩)=some ({cls:=.type "dict",data:=.dict #[]},(b.ns.take (par b)).zip (f++[.ref d]))):B_ h b j:=λv a as w f y z A X g p c q=>by
 refine iT m λao aA bL=>?_
 obtain⟨r,i,c⟩:=c;rw[aA] at c;obtain⟨e,s⟩:=iH c;clear c;have c:=s;subst e;rw[p.no];have l:=pU r (by rw[ao] at i;exact i);rw[ao,bL,List.drop_nil,dR,dR] at c;have t:kk<a.aC:=fF av (a.R.own 445 0 (a.R.tab 445 av).1).2.2;have e:=a.ku (o:={cls:=.type "dict",data:=.dict #[]}) rfl a.s.drawn a.s.toks;have u:=a.fresh<|aS _;let x:=(a.new {cls:=.type "dict",data:=.dict #[]} a.s.drawn a.s.toks).put u e<|aS _;refine ahA (λB k x o e=>k x o<|a.c8 x o e) (S5 n<|g.cg.trans l)<|q ⟨x,f++[.ref a.aC],as++[.o 2 0 0 0],aV.append (us:=[.ref a.aC]) (g.to x.le)<|aV.one (d:=.o 2 0 0 0) ⟨a.aC,rfl,.inr<|.inr<|.inl ⟨rfl,jO<|nP t,0,bP.ny⟩⟩⟩ ?_ rfl c;rw[bq,l];unfold par;rw[aA,bL];rfl
def SX(c:∀b d f,k b d f->h b d f)(a:mD j o k):mD j o h:=by
 obtain⟨b,d,f,rfl,e,a⟩:=F_ a;show bI.casesOn _ no _ False False;unfold obj;rw[e];exact⟨rfl,c _ _ _ a⟩
def fin_same(a:d e b):fin keep (H b) e b d:=by
 unfold fin;rwa [beq_self_eq_true,fp]
def oQ.map(a:oQ h j l m n)(k:∀as b f d e,s as b f d e->n as b f d e):oQ h j l m s:=λc as b g i d e p ok q r t=>a c as b g i d e p ok q r<|k _ _ _ _ _ t
noncomputable def uy:Inf:=⟨1,[],none,false,["self"],[],false,false⟩
def ad4(a:wH as b d f h):rm uy (qp [nH (cC j U6)]) as b d f h:=by
 obtain⟨rfl,a⟩:=iH a;refine aG (jV a) λo c a=>?_;subst c
 refine⟨aS _,aS _,SX (λl m n a=>?_) a⟩;refine aG (ji a) λp e a=>?_
 rw[e];obtain⟨k,e,g,aA,i⟩:=dV a;show vInt _ _;rw[e];exact⟨g,aA,fin_same i⟩
def ajt(a:wI as b d e f):rm uy (qp [nH (cC h W')]) as b d e f:=by
 obtain⟨rfl,a⟩:=iH a;refine aG (jV a) λo c a=>?_;subst c
 exact⟨aS _,aS _,SX (λg i j a=>a.imp λk a=>⟨a.1,a.2.1,fin_same a.2.2⟩) a⟩
def YS(c:d.h.NoLimit)(X:Kw d e uy h [.Return (some i) pos])(g:f.frames=some j)(aU:l_ f (k+1))(n:oO d l k)(a:∀b:b5 d,zS e h b.env->b.ns=uy.ns->cD b i m):oQ d f j (.ref e) (rm uy (qp [nH (cC l m)])):=
 Mq c X g aU n λb p U q U U U U=>Y_ (Za<|Z3<|a b p q) λr s t u v X w a x y=>PySem.wpAt_of_wpAny<|Pn r s t u v X w a x y
end M.Internal
end
noncomputable section
open PySem PySem.W
namespace M.Internal.B
abbrev X:=b3->bB
abbrev Y:=b3->dw
abbrev R4:=Bool×List Nat×X×List X
def OK:X:=λU=>stM
def ah(a:D):X:=λb=>cC b<|lN a
def bM:X:=λa=>cC a<|lN .none
def af(a:Nat):X:=λb=>cC b<|L2 a
def p9(a:Nat):X:=λb=>cC b<|LS a
noncomputable def gh(a:List X)(b:b3):List bB:=a.map λe=>e b
def eF(b:List X):X:=λa=>cC a<|L1<|gh b a
def b8(own:Bool)(b:List X):X:=λa=>cC a<|lay own<|gc<|gh b a
def aR(o:oJ)(b c:X):X:=λa=>cC a<|LP o (b a)<|c a
def UN(b c:X):X:=λa=>cC a<|lay true<|LR (b a)<|c a
def gk(b:X):X:=λa=>cC a<|LX<|b a
def An(b:X):X:=λa=>HM a<|b a
def bh(o:zf)(b c:X):X:=λa=>fP a<|IX o (b a)<|c a
def UP(o b:zf)(c d e:X):X:=λa=>fP a<|IY o b (c a) (d a)<|e a
def jQ(b:List X):X:=λa=>mt a (UC a<|gh b a)<|yW<|gh b a
def p_(b:List X):X:=λa=>mt a (UG a<|gh b a)<|bj<|gh b a
def gT(b c d:X):X:=λa=>HL a (b a) (c a)<|d a
def aT(b c:X):X:=λa=>cC a<|LU (b a)<|c a
def eu(own:Bool)(b c d s:X):X:=λa=>cC a<|lay own<|LZ (b a) (c a) (d a)<|s a
def cW(b:Str)(c:X):X:=λa=>cC a<|LO b<|c a
def aP(b:X)(as c:List X)(d:List Str):X:=λa=>Xc a (b a) (gh as a) (gh c a) d
def bg(b:Str)(o:X)(as c:List X)(d:List Str):X:=λa=>cC a<|CV a (o a) b (gh as a) (gh c a) d
def FV(a:bB)(as:List bB):eY (List D):=λb d k c=>a.v b d (λa e=>vV a λf=>f=1009/\([]:List pS)=[]/\gc as b e (λas g=>CC as g k) c) c
def Ma(b:X)(as:List X):X:=λa=>cC a<|lay true<|FV (b a)<|gh as a
def UQ(o:X)(b:Str)(as:List X):X:=λa=>cC a<|lay true<|CX (o a) b (gh as a) []
def Mb(o b:X):X:=λa=>cC a<|CW a (o a)<|b a
def yh(a:X):X:=λb=>N3<|a b
def Mw(b:b3)(c:List R4)(d:X):tV:=List.rec (NY<|d b) (λa U e=>LI a.1 a.2.1 (a.2.2.1 b) (gh a.2.2.2 b) e) c
def c5(own:Bool)(cN:List Nat)(b:Bool)(is:List Nat)(c:X)(d:List X)(e:List R4)(f:X):X:=λa=>cC a<|lay own<|Am cN b is (c a) (gh d a)<|Mw a e f
def br(a:List Y)(b:b3):dw:=qp (a.map λc=>c b)
def Zi:Y:=λU=>gJ
def cU(e:X):Y:=λa=>w_<|e a
def cA(a:Nat)(e:X):Y:=λb=>BB a<|e b
def Bb(is:List Nat)(e:X):Y:=λa=>Qf is<|e a
def pD(is:List Nat)(a:List X):Y:=λb=>Jl is<|gh a b
def g8(a:Nat):b3->qE:=λU=>Ze a
def IZ(o b:X):b3->qE:=λa=>Iv (o a)<|b a
def uS(b:List (b3->qE))(c:List X):Y:=λa=>Jm (b.map λd=>d a)<|gh c a
def qj(o:X)(b:Str)(c:X):Y:=λa=>e1 (o a) b<|c a
def wJ(o b c d:X):Y:=λa=>Qe (o a) (b a) (c a)<|d a
def Zh(a:Nat)(op:oJ)(b:X):Y:=λc=>Qh a op<|b c
def D_(o b:X)(op:oJ)(c:X):Y:=λa=>Qg (o a) (b a) op<|c a
def bX(b:X)(c d:List Y):Y:=λa=>e2 (b a) (br c a)<|br d a
def gv(b:Bool)(is:List Nat)(c:X)(d e:List Y):Y:=λa=>Qi b is (c a) (br d a)<|br e a
def uT(b:X)(c:List Y):Y:=λa d e f U=>tB (b a) (br c a) turns d e f
def fj(e:X):Y:=λa=>nH<|e a
def Zg:Y:=λa=>nH<|cC a<|lN .none
def Iw(s:List Nat):Y:=λU=>Jo s
def D9:Y:=λU a b c U=>c .brk a b
def Zb:Y:=λU a b c U=>c .cont a b
def aih(c:Nat)(cN:List Nat)(d:List (List Nat×X)):Y:=λa e f g U=>rE a c (d.map λb=>(b.1,b.2 a)) (clear cN e) f g
def O1(c:Bool)(a:Str):Y:=λb=>bif c then nH (cC b<|sq a) else w_<|cC b<|sq a
abbrev o_:Y:=cA 5<|aR .FloorDiv (aR .Add (af 2)<|af 3)<|ah<|.int 2
abbrev qY:Y:=cA 2<|aR .Add (af 5)<|ah<|.int 1
abbrev pe:X:=bh .Lt (af 2)<|af 3
abbrev yz(a:Nat):X:=aP (ah<|.g 1000) [af a] [] []
abbrev K5:X:=jQ [bh .Eq (af 0)<|ah<|.str [38],bh .Lt (af 4)<|yz 1,bh .Lt (af 5)<|yz 2]
abbrev Aa:X:=jQ [bh .Eq (af 0)<|ah<|.str [60],bh .Lt (af 4)<|yz 1]
abbrev Cv:X:=bh .In (af 0)<|ah<|.str [105,120]
abbrev SV:X:=gT (bh .Eq (af 0)<|ah<|.str [38]) (aR .Add (af 1)<|af 2)<|gT (bh .Eq (af 0)<|ah<|.str [124]) (af 2)<|af 1
abbrev F8:Y:=pD [3,4,5] [gT (bh .Eq (af 0)<|ah<|.str [124]) (Ma (ah<|.g 1009) [af 1])<|b8 true [],ah<|.int 0,ah<|.int 0]
abbrev LV:X:=bh .In (af 0)<|ah<|.str [105,120,104,108]
abbrev L0:X:=c5 false [5,8] true [5,8] (af 2) [] []<|gT (bh .In (af 0)<|ah<|.str [105,120]) (jQ [bh .LtE (af 5)<|af 6,bh .LtE (af 7)<|af 8])<|jQ [bh .LtE (af 6)<|af 5,bh .LtE (af 8)<|af 7]
noncomputable abbrev UE:List Y:=[cA 4<|c5 false [6,7] true [6,7] (af 1) [] []<|aP (ah<|.g 1004) [L0] [] [],fj<|c5 false [9,10] true [9,10] (aP (ah<|.g 1014) [af 1,af 4] [] []) [bh .Eq (af 10)<|bh .In (af 0)<|ah<|.str [105,104]] []<|af 9]
abbrev LY:X:=gT (bh .Eq (af 0)<|ah<|.str [60]) (b8 false [c5 false [5,6,7,8] true [6,7] (af 1) [] [(true,[5,8],af 2,[bh .Lt (af 7)<|af 5])]<|eF [af 6,af 8]])<|gT (bh .Eq (af 0)<|ah<|.str [38]) (b8 false [af 1,af 2])<|b8 false [aR .Add (af 1)<|af 2]
abbrev UD:X:=c5 false [14] false [14] (af 11) [] []<|aP (ah<|.g 1004) [c5 false [6,7] true [6,7] (af 14) [] []<|jQ [bh .LtE (af 13)<|af 6,bh .LtE (af 7)<|aT (af 12)<|af 13]] [] []
abbrev lN:X:=jQ [bh .Lt (aT (af 12)<|af 13)<|af 3,An<|aP (ah<|.g 1005) [UD] [] []]
noncomputable abbrev UH:List Y:=[D_ (af 12) (af 13) .Add<|ah<|.int 1]
noncomputable abbrev CT:List Y:=[cU<|bg "append" (af 12) [af 13] [] [],uT lN UH]
abbrev CS:X:=c5 false [13] false [13] (aP (ah<|.g 1012) [af 3] [] []) [bh .Lt (aT (af 12)<|af 13)<|aT (af 12)<|aR .Add (af 13)<|ah<|.int 1] []<|eF [af 13,aT (af 12)<|af 13]
noncomputable abbrev HA:List Y:=[bX (bg "isspace" (af 3) [] [] []) [cA 1 (aT (aT (cW "_current_line" (af 0)) (af 4)) (ah (.int 0))),bX (jQ [(af 1),(bh .Eq (aT (af 1) (ah (.int 0))) (af 3))]) [D9] []] [],
 cA 5 (aT (aT (cW "_current_line" (af 0)) (aR .Sub (af 4) (ah (.int 1)))) (ah (.int 1))),bX (jQ [(af 5),(bh .Eq (aT (af 5) (gk (ah (.int 1)))) (af 3))]) [D9] []]
noncomputable abbrev HB:List Y:=[gv false [4] (aP (ah<|.g 1012) [aR .Sub (bg "part_count" (cW "_current_line"<|af 0) [] [] [])<|ah<|.int 1,ah<|.int 0,gk<|ah<|.int 1] [] []) HA [Zb],D9]
noncomputable abbrev Nm:List Y:=[bX (bh .Gt (cW "_initial_size" (cW "_current_line" (af 0))) (ah (.int 0))) [cU (bg "newline" (af 0) [] [] []),bX (An (af 1)) [cA 1 (ah (.str [32]))] []] [],
 cU (bg "push" (cW "_current_line" (af 0)) [(af 1),(af 6)] [] []),Zg]
noncomputable abbrev Nn:List Y:=[cA 7<|bg "pop_from" (cW "_current_line"<|af 0) [af 4] [] [],cU<|bg "append" (cW "_lines"<|af 0) [aP (ah<|.g 1010) [cW "_current_line"<|af 0] [] []] [] [],cU<|bg "reset" (cW "_current_line"<|af 0) [af 7] [] []]
abbrev YK:X:=c5 false [10,11] false [11] (af 4) [] [(false,[10],aP (ah<|.g 1012) [aR .Sub (aP (ah<|.g 1000) [af 6] [] [])<|ah<|.int 1,ah<|.int 0,gk<|ah<|.int 1] [] [],[bh .In (af 11)<|eF [aT (aT (af 7)<|aT (af 6)<|af 10)<|ah<|.int 0,aT (aT (af 0)<|aT (af 6)<|aR .Sub (af 10)<|ah<|.int 1)<|gk<|ah<|.int 1]])]<|af 10
abbrev OG:X:=c5 false [10] false [10] (af 6) [] []<|aR .Add (aP (ah<|.g 1000) [aT (af 7)<|af 10] [] [])<|aP (ah<|.g 1000) [aT (af 0)<|af 10] [] []
abbrev YH:X:=jQ [bh .Gt (aR .Add (af 2)<|aP (ah<|.g 1003) [OG] [] [])<|af 3,bh .NotEq (aR .Add (af 9)<|b8 false [af 2])<|b8 false [ah<|.int 0]]
noncomputable abbrev YG:List Y:=[cA 12 (aT (aR .Add (af 9) (b8 false [(aR .Sub (aP (ah (.g 1000)) [(af 6)] [] []) (ah (.int 1)))])) (ah (.int 0))),
 uS [g8 5,g8 6,g8 2,IZ (af 7) (af 8)] [(aR .Add (af 5) (b8 false [(eu false (af 6) bM (af 12) bM)])),(eu true (af 6) (af 12) bM bM),(ah (.int 0)),(p_ [(aT (af 7) (af 8)),(ah (.str [32]))])]]
noncomputable abbrev DY:List Y:=[cU<|bg "append" (af 6) [af 8] [] [],cA 9 YK,bX YH YG []]
abbrev Im:X:=eF [aR .Add (af 5)<|b8 false [p9 6],p9 7]
noncomputable abbrev PM:List Y:=[cA 4<|aR .Add (gT (aR .BitAnd (aR .RShift (aR .FloorDiv (af 0)<|ah<|.int 87808)<|af 3)<|ah<|.int 1) (aR .Add (b8 false [aT (af 1)<|aR .Add (af 3)<|ah<|.int 1])<|af 4)<|aR .Add (af 4)<|b8 false [aT (af 1)<|aR .Add (af 3)<|ah<|.int 1])<|b8 false [aT (af 2)<|af 3]]
abbrev cb:X:=aP (ah<|.g 438) [af 5,aT (af 3)<|gk<|ah<|.int 2,aT (af 3)<|gk<|ah<|.int 1,aP (ah<|.g 1000) [af 1] [] []] [] []
noncomputable abbrev yY:List Y:=[bX (bh .In (af 5) (ah (.str [38,124,60,105,120,104,108]))) [cU (bg "append" (af 4) [cb] [] []),
 cA 3 (UN (eu false (af 3) bM (gk (ah (.int 2))) bM) (eu false (af 4) (gk (ah (.int 1))) bM bM))] [cU (bg "append" (af 3) [(gT (bh .Eq (af 5) (ah (.str [114,111,119]))) (c5 false [6] false [6] (af 2) [] [] (eF [(aT (af 6) (ah (.int 0))),(aT (af 6) (gk (ah (.int 1))))])) (c5 false [7,8] true [7,8] (aP (ah (.g 1013)) [(af 1)] [] []) [(bh .Eq (bg "lower" (af 8) [] [] []) (af 5))] [] (eF [(af 7),(af 7)])))] [] [])]]
abbrev Aj(e:X):X:=aP (ah<|.g 1002) [e] [] []
noncomputable abbrev P5:List Y:=[cU<|bg "add_header" (af 2) [bg "strip" (af 8) [ah<|.str [44]] [] [],aR .Mult (Aj<|af 4)<|ah<|.int 2] [] [],Zh 4 .Add<|ah<|.int 1]
noncomputable abbrev yQ:List Y:=[gv false [8] (bg "split" (af 7) [] [] []) P5 [],
 bX (af 7) [cU (aP (ah (.g 47)) [(af 3),(Aj (aR .Sub (af 4) (aP (ah (.g 1000)) [(bg "split" (af 7) [] [] [])] [] [])))] [] []),
  cU (bg "add_header" (af 2) [(ah (.str [82,111,119])),(aR .Add (aT (af 3) (gk (ah (.int 1)))) (Aj (aR .Sub (af 4) (ah (.int 1)))))] [] [])] []]
abbrev agD:X:=bg "pop" (af 5) [] [] []
abbrev dA:X:=bg "upper" (aT agD<|ah<|.int 1) [] [] []
abbrev Dd:X:=bg "get_all" (af 2) [dA] [] []
abbrev Ld:X:=aP (ah<|.g 433) [af 9,af 11,af 10] [] []
noncomputable abbrev Cw:List Y:=[cU<|bg "add_header" (af 2) [bg "upper" (af 6) [] [] [],af 12] [] []]
abbrev AE:X:=bh .In (af 9)<|ah<|.str [38,124,60,105,120,104,108]
abbrev Ow:Y:=cU<|bg "push" (af 5) [ah<|.str [32],gT AE (af 6)<|af 9] [] []
abbrev PI:List X:=[aP (ah<|.g 384) [] [] [],b8 true [],ah<|.int 97,aP (ah<|.g 236) [ah<|.int 2] [] [],ah<|.str []]
abbrev PJ:X:=eF [af 2,p9 3,af 5]
abbrev Xa:X:=aT (eF [ah<|.str [97],ah<|.str [97,98],ah<|.str [98]])<|aR .Mod (af 2)<|ah<|.int 3
abbrev Uh:X:=gT (aR .BitAnd (aR .RShift (aR .FloorDiv (af 2)<|ah<|.int 3)<|af 4)<|ah<|.int 1) (bg "upper" (af 6) [] [] [])<|af 6
abbrev P6:X:=bg "join" (ah<|.str []) [c5 false [4,6] true [4,6] (aP (ah<|.g 1013) [Xa] [] []) [] [] Uh] [] []
abbrev cn:X:=c5 false [2,9] true [9,2] (aP (ah<|.g 1014) [af 5,af 1] [] []) [] []<|aR .Add (af 9)<|aR .Mult (ah<|.str [44])<|aR .Mod (aR .FloorDiv (af 2)<|ah<|.int 36)<|ah<|.int 2
abbrev Vq:X:=aR .Add (b8 false [ah<|.str []])<|c5 false [2] false [2] (eu false (af 1) (ah<|.int 1) (ah<|.int 7) bM) [] []<|aT (eF [ah<|.str [32],ah<|.str [9],ah<|.str [32,32]])<|aR .Mod (aR .FloorDiv (af 2)<|ah<|.int 12)<|ah<|.int 3
abbrev Ai:X:=aT (af 1)<|ah<|.int 7
abbrev ey:List X:=[aR .Add (ah<|.int 4)<|aR .Mod Ai<|ah<|.int 9,aR .Mod (aR .FloorDiv Ai<|ah<|.int 9)<|ah<|.int 5,aT (eF [ah<|.str [44,32,9],ah<|.str [9,32,44],ah<|.str [32,44],ah<|.str [44,9]])<|aR .Mod (aR .FloorDiv Ai<|ah<|.int 45)<|ah<|.int 4]
abbrev MF:X:=bg "join" (ah<|.str []) [c5 false [14,15] true [14,15] (aP (ah<|.g 1014) [af 8,af 7] [] []) [] []<|aR .Add (af 14)<|af 15] [] []
abbrev qL(e:X):X:=Aj<|aR .Add (ah<|.int 97) e
abbrev CZ:X:=aR .Add (c5 false [4] false [4] (af 24) [] []<|eF [aT (af 5)<|af 4,aR .Mult (qL<|af 4)<|ah<|.int 2])<|b8 false [eF [ah<|.str [82,111,119],aR .Add (qL<|aT (af 24)<|ah<|.int 0)<|qL<|aT (af 24)<|gk<|ah<|.int 1]]
noncomputable abbrev jR:X:=c5 false [4,28,29,30] true [4,30] (aP (ah<|.g 1013) [af 25] [] []) [] [(true,[28,29],af 30,[])]<|eF [aR .Mult (ah<|.str [81])<|aR .Add (af 4)<|ah<|.int 1,aR .Add (qL<|af 28)<|qL<|af 29]
abbrev W7:X:=bg "join" (ah<|.str []) [c5 false [4] false [4] (af 24) [] []<|aR .Add (aT (af 19)<|af 4)<|aT (af 7)<|af 4] [] []
abbrev X0:X:=bg "join" (ah<|.str [10]) [c5 false [24] false [24] (af 18) [] [] W7] [] []
abbrev IB:List X:=[bg "part_count" (af 22) [] [] [],aP (ah<|.g 1000) [af 22] [] [],bg "pop" (af 22) [] [] [],bg "pop" (af 22) [] [] [],aP (ah<|.g 1010) [af 22] [] [],aP (ah<|.g 1000) [af 22] [] []]
abbrev LH:X:=bg "_append_chunk" (af 13) [ah<|.str [9],ah<|.str []] [] []
abbrev IQ:X:=bg "_str" (af 13) [ah<|.str [10]] [] []
abbrev OO:X:=b8 false [bM,aR .Add (af 16)<|ah<|.str [9],ah<|.int 1,ah<|.int 6,eF [ah<|.str [32],ah<|.str [113,113,113]],eF [ah<|.str [],ah<|.str []],ah<|.str [],ah<|.int 2]
abbrev g1:X:=c5 false [15] false [15] (af 31) [] []<|aP (ah<|.g 47) [af 32,af 15] [ah<|.g 409] ["key"]
abbrev g2:X:=c5 false [15] false [15] (eu false (af 31) bM bM<|gk<|ah<|.int 1) [] []<|aP (ah<|.g 65) [af 33,af 15] [ah<|.g 409] ["key"]
abbrev OX:X:=eu false (af 21) bM bM<|gk<|ah<|.int 1
abbrev g3:X:=c5 false [6] false [6] (eu false OX bM bM<|ah<|.int 2) [] []<|aP (ah<|.g 65) [af 34,af 6] [] []
abbrev jI:X:=c5 false [6] false [6] (eu false OX (ah<|.int 1) bM<|ah<|.int 2) [] []<|aP (ah<|.g 47) [af 34,af 6] [] []
abbrev YU:X:=aR .Mult (b8 false [bM])<|aR .Add (aR .Mult (ah<|.int 2)<|aP (ah<|.g 1000) [aT (af 25)<|ah<|.int 2] [] [])<|aP (ah<|.g 1000) [af 23] [] []
abbrev ak0:X:=bh .NotEq (aR .Add (aR .Add (aR .Add g1 g2) g3) jI) YU
abbrev Ui:X:=c5 false [28,29] true [28,29] (aT (af 25)<|ah<|.int 2) [] []<|aR .Add (qL<|af 28)<|qL<|af 29
abbrev TS:X:=c5 false [24] false [24] (af 23) [] []<|qL<|aT (af 24)<|ah<|.int 0
abbrev Wz:X:=c5 false [15] false [15] (af 31) [] []<|aR .Sub (aP (ah<|.g 56) [af 21,aT (af 15)<|ah<|.int 0] [] [])<|ah<|.int 1
abbrev ac0:X:=c5 false [6] false [6] (af 21) [] []<|aP (ah<|.g 74) [af 31,af 6] [] []
abbrev WB:X:=c5 false [4,24,28,29] true [28,29] (aT (af 25)<|ah<|.int 2) [] [(true,[4,24],aP (ah<|.g 1013) [af 23] [] [],[bh .In (af 28)<|af 24])]<|af 4
abbrev WC:X:=c5 false [24] false [24] (af 23) [] []<|aP (ah<|.g 1000) [c5 false [28,29] true [28,29] (aT (af 25)<|ah<|.int 2) [bh .Lt (af 28)<|aT (af 24)<|ah<|.int 0] []<|af 28] [] []
abbrev Ec(o:zf):X:=aR .Add (af 38)<|aP (ah<|.g 1000) [c5 false [41] false [41] (eu false (af 21) (af 38) (af 39) bM) [bh o (af 41)<|af 6] []<|af 41] [] []
abbrev Lz:X:=c5 false [42,43] false [43] (eF [bM,ah<|.g 395]) [] [(false,[42],eF [ah<|.g 74,ah<|.g 56],[])]<|aP (af 42) [af 21,af 6,af 38,af 39] [af 43] ["key"]
noncomputable abbrev Fl:List Y:=[cA 40<|b8 false [Ec .Lt,Ec .LtE],bX (bh .NotEq Lz<|aR .Mult (af 40)<|ah<|.int 2) [fj<|ah<|.bool false] []]
abbrev Ot:X:=c5 false [38,39] false [39] (af 36) [] [(false,[38],aP (ah<|.g 1012) [aR .Add (af 39)<|ah<|.int 1] [] [],[])]<|eF [af 38,af 39]
noncomputable def r3:List Y:=[bX (bh .Is (af 4) bM) [cA 2<|aP (ah<|.g 56) [af 0,af 1,af 2,af 3] [] []] [cA 2<|aP (ah<|.g 56) [af 0,aP (af 4) [af 1] [] [],af 2,af 3] [af 4] ["key"]],cU<|bg "insert" (af 0) [af 2,af 1] [] []]
noncomputable def Tq:List Y:=[bX (bh .Lt (af 2)<|ah<|.int 0) [Iw [108,111,32,109,117,115,116,32,98,101,32,110,111,110,45,110,101,103,97,116,105,118,101]] [],bX (bh .Is (af 3) bM) [cA 3<|aP (ah<|.g 1000) [af 0] [] []] [],bX (bh .Is (af 4) bM) [uT pe [o_,bX (bh .Lt (af 1)<|aT (af 0)<|af 5) [cA 3<|af 5] [qY]]] [uT pe [o_,bX (bh .Lt (af 1)<|aP (af 4) [aT (af 0)<|af 5] [] []) [cA 3<|af 5] [qY]]],fj<|af 2]
noncomputable def r':List Y:=[bX (bh .Is (af 4) bM) [cA 2<|aP (ah<|.g 74) [af 0,af 1,af 2,af 3] [] []] [cA 2<|aP (ah<|.g 74) [af 0,aP (af 4) [af 1] [] [],af 2,af 3] [af 4] ["key"]],cU<|bg "insert" (af 0) [af 2,af 1] [] []]
noncomputable def Tr:List Y:=[bX (bh .Lt (af 2)<|ah<|.int 0) [Iw [108,111,32,109,117,115,116,32,98,101,32,110,111,110,45,110,101,103,97,116,105,118,101]] [],bX (bh .Is (af 3) bM) [cA 3<|aP (ah<|.g 1000) [af 0] [] []] [],bX (bh .Is (af 4) bM) [uT pe [o_,bX (bh .Lt (aT (af 0)<|af 5)<|af 1) [qY] [cA 3<|af 5]]] [uT pe [o_,bX (bh .Lt (aP (af 4) [aT (af 0)<|af 5] [] [])<|af 1) [qY] [cA 3<|af 5]]],fj<|af 2]
noncomputable def sa:List Y:=[qj (af 0) "_maxlen"<|af 2,qj (af 0) "_continuation_ws"<|af 3,qj (af 0) "_continuation_ws_len"<|aP (ah<|.g 1000) [af 3] [] [],qj (af 0) "_splitchars"<|af 4,qj (af 0) "_lines"<|b8 true [],qj (af 0) "_current_line"<|aP (ah<|.g 236) [af 1] [] []]
noncomputable def pw:List Y:=[cU<|bg "newline" (af 0) [] [] [],fj<|bg "join" (af 1) [cW "_lines"<|af 0] [] []]
noncomputable def px:List Y:=[cA 1<|bg "pop" (cW "_current_line"<|af 0) [] [] [],bX (bh .NotEq (af 1)<|eF [ah<|.str [32],ah<|.str []]) [cU<|Mb (cW "_current_line"<|af 0)<|af 1] [],bX (bh .Gt (aP (ah<|.g 1000) [cW "_current_line"<|af 0] [] [])<|ah<|.int 0) [bX (jQ [bg "is_onlyws" (cW "_current_line"<|af 0) [] [] [],cW "_lines"<|af 0]) [D_ (cW "_lines"<|af 0) (gk<|ah<|.int 1) .Add<|aP (ah<|.g 1010) [cW "_current_line"<|af 0] [] []] [cU<|bg "append" (cW "_lines"<|af 0) [aP (ah<|.g 1010) [cW "_current_line"<|af 0] [] []] [] []]] [],cU<|bg "reset" (cW "_current_line"<|af 0) [] [] []]
noncomputable def pz:List Y:=[cU<|bg "push" (cW "_current_line"<|af 0) [ah<|.str [32],ah<|.str []] [] []]
noncomputable def Tg:List Y:=[cA 4<|UQ (ah<|.g 79) "split" [aR .Add (af 1)<|af 2],bX (aT (af 4)<|ah<|.int 0) [wJ (af 4) bM (ah<|.int 0)<|b8 false [ah<|.str []]] [cU<|bg "pop" (af 4) [ah<|.int 0] [] []],gv true [1,5] (yh<|p9 4) [cU<|bg "_append_chunk" (af 0) [af 1,af 5] [] []] []]
noncomputable def Th:List Y:=[cU<|bg "push" (cW "_current_line"<|af 0) [af 1,af 2] [] [],bX (bh .Gt (aP (ah<|.g 1000) [cW "_current_line"<|af 0] [] [])<|cW "_maxlen"<|af 0) (gv false [3] (cW "_splitchars"<|af 0) HB (Bb [1,6] (bg "pop" (cW "_current_line"<|af 0) [] [] [])::Nm)::Nn) []]
noncomputable def p':List Y:=[qj (af 0) "_initial_size"<|af 1,O1 false "__init__"]
noncomputable def qr:List Y:=[cU<|bg "append" (af 0) [eF [af 1,af 2]] [] []]
noncomputable def q5:List Y:=[cA 2<|eu false (af 0) (af 1) bM bM,wJ (af 0) (af 1) bM<|b8 false [],fj<|af 2]
noncomputable def q':List Y:=[bX (bh .Eq (bg "part_count" (af 0) [] [] [])<|ah<|.int 0) [fj<|eF [ah<|.str [],ah<|.str []]] [],O1 true "pop"]
noncomputable def ra:List Y:=[bX (bh .Is (af 1) bM) [cA 1<|b8 false []] [],wJ (af 0) bM bM<|af 1,qj (af 0) "_initial_size"<|ah<|.int 0]
noncomputable def rb:List Y:=[fj<|jQ [bh .Eq (cW "_initial_size"<|af 0)<|ah<|.int 0,p_ [An<|af 0,bg "isspace" (aP (ah<|.g 1010) [af 0] [] []) [] [] []]]]
noncomputable def rh:List Y:=[O1 true "__len__"]
noncomputable def Ti:List Y:=[cA 1<|gT (bh .IsNot (af 1) bM) (af 1)<|b8 true [],bX (bh .IsNot (aP (ah<|.g 1011) [af 1] [] [])<|ah<|.g 1009) [Zi] [],qj (af 0) "_headers"<|af 1,bX (ah<|.bool true) [gv true [2,3] (af 1) [cU<|bg "_convert_string_type" (af 0) [af 2] [ah<|.bool true] ["name"],cU<|bg "_convert_string_type" (af 0) [af 3] [ah<|.bool false] ["name"]] []] []]
noncomputable def rk:List Y:=[bX (bh .Is (aP (ah<|.g 1011) [af 1] [] [])<|ah<|.g 1010) [cA 3<|gT (af 2) (ah<|.g 250)<|ah<|.g 255,bX (bg "search" (af 3) [af 1] [] []) [Iw [67,111,110,116,114,111,108,32,99,104,97,114,97,99,116,101,114,115,32,110,111,116,32,97,108,108,111,119,101,100,32,105,110,32,104,101,97,100,101,114,115]] [],fj<|af 1] [],Zi]
noncomputable def rl:List Y:=[cA 1<|bg "_convert_string_type" (af 0) [bg "lower" (af 1) [] [] []] [ah<|.bool true] ["name"],fj<|c5 false [2] false [2] (cW "_headers"<|af 0) [bh .Eq (bg "lower" (aT (af 2)<|ah<|.int 0) [] [] [])<|af 1] []<|aT (af 2)<|ah<|.int 1]
noncomputable def rn:List Y:=[fj<|eu false (cW "_headers"<|af 0) bM bM bM]
noncomputable def ro:List Y:=[cA 4<|b8 true [],bX (bh .IsNot (af 2) bM) [cA 2<|bg "_convert_string_type" (af 0) [af 2] [ah<|.bool false] ["name"],cU<|bg "append" (af 4) [af 2] [] []] [],gv true [5,6] (bg "items" (af 3) [] [] []) [cA 5<|bg "_convert_string_type" (af 0) [af 5] [ah<|.bool true] ["name"],bX (bh .Is (af 6) bM) [cU<|bg "append" (af 4) [bg "replace" (af 5) [ah<|.str [95],ah<|.str [45]] [] []] [] []] [cA 6<|bg "_convert_string_type" (af 0) [af 6] [ah<|.bool false] ["name"],cU<|bg "append" (af 4) [aP OK [bg "replace" (af 5) [ah<|.str [95],ah<|.str [45]] [] [],af 6] [] []] [] []]] [],cU<|bg "append" (cW "_headers"<|af 0) [eF [bg "_convert_string_type" (af 0) [af 1] [ah<|.bool true] ["name"],bg "join" (ah<|.str [59,32]) [af 4] [] []]] [] []]
noncomputable def rp:List Y:=[fj<|aT (af 0)<|ah<|.int 0]
noncomputable def rr:List Y:=[fj<|aT (af 0)<|ah<|.int 1]
noncomputable def rv:List Y:=[fj<|aR .Sub (aP (ah<|.g 1001) [aT (af 0)<|ah<|.int 1] [] [])<|aP (ah<|.g 1001) [aT (af 0)<|ah<|.int 0] [] []]
noncomputable def Tj:List Y:=[uS [g8 5,g8 6,g8 7] [b8 false [],b8 true [],Ma (ah<|.g 1009) [af 1]],gv false [8] (aP (ah<|.g 1012) [aP (ah<|.g 1000) [af 0] [] []] [] []) DY [],fj Im]
noncomputable def r0:List Y:=[pD [1,2] [c5 false [3] false [3] (aP (ah<|.g 1012) [ah<|.int 4] [] []) [] []<|aT (eF [ah<|.str [97],ah<|.str [97,98],ah<|.str [98],ah<|.str [114,111,119]])<|aR .Mod (aR .FloorDiv (af 0)<|aR .Pow (ah<|.int 4)<|af 3)<|ah<|.int 4,c5 false [3] false [3] (aP (ah<|.g 1012) [ah<|.int 3] [] []) [] []<|aT (ah<|.str [38,124,60,105,120,104,108])<|aR .Mod (aR .FloorDiv (aR .FloorDiv (af 0)<|ah<|.int 256)<|aR .Pow (ah<|.int 7)<|af 3)<|ah<|.int 7],cA 4<|aR .Add (eu false (af 1) bM (ah<|.int 2) bM)<|eu false (af 2) bM (ah<|.int 1) bM,gv false [3] (eF [ah<|.int 1,ah<|.int 2]) PM [],fj<|af 4]
noncomputable def Tn:List Y:=[uS [g8 2,g8 3,g8 4,g8 5,g8 6] PI,gv false [7] (bg "split" (af 0) [ah<|.str [10]] [] []) yQ [],gv false [9] (af 1) [bX AE [pD [10,11,6] [Dd,Dd,aR .Add (af 6)<|ah<|.str [113]],gv false [12] Ld Cw []] [],Ow] [],fj PJ]
noncomputable def Ln:List Y:=[F8,gv false [6] SV [bX K5 [cA 7<|aP (ah<|.g 1007) [aT (aT (af 1)<|af 4)<|ah<|.int 1,aT (aT (af 2)<|af 5)<|ah<|.int 1] [] [],cA 8<|aT (aP (ah<|.g 1006) [aT (af 1)<|aR .Sub (aP (ah<|.g 56) [af 1,af 7,af 4] [ah<|.g 402] ["key"])<|ah<|.int 1,aT (af 2)<|aR .Sub (aP (ah<|.g 56) [af 2,af 7,af 5] [ah<|.g 402] ["key"])<|ah<|.int 1] [] [])<|ah<|.int 0,pD [4,5] [aP (ah<|.g 56) [af 1,af 8,af 4] [ah<|.g 395] ["key"],aP (ah<|.g 56) [af 2,af 8,af 5] [ah<|.g 395] ["key"]],cU<|bg "append" (af 3) [aR .Add (af 8)<|af 7] [] []] [],bX (bh .Eq (af 0)<|ah<|.str [124]) [cA 9<|aP (ah<|.g 74) [af 3,aT (af 6)<|ah<|.int 0] [ah<|.g 395] ["key"],bX (p_ [bh .Eq (eu false (af 3) (af 9) bM bM)<|b8 false [],bh .Gt (aT (aT (af 3)<|af 9)<|ah<|.int 1)<|aT (af 6)<|ah<|.int 1]) [wJ (af 3) (aP (ah<|.g 74) [af 3,aT (af 6)<|ah<|.int 1] [ah<|.g 402] ["key"]) (aP (ah<|.g 56) [af 3,aT (af 6)<|ah<|.int 0] [ah<|.g 395] ["key"])<|b8 false [af 6]] []] [],bX Aa [cA 5<|aP (ah<|.g 56) [af 2,aT (aT (af 1)<|af 4)<|ah<|.int 1,af 5] [ah<|.g 395] ["key"],cA 4<|gT (bh .Lt (af 5)<|aP (ah<|.g 1000) [af 2] [] []) (aP (ah<|.g 74) [af 1,aT (aT (af 2)<|af 5)<|ah<|.int 0,af 4] [ah<|.g 402] ["key"])<|aP (ah<|.g 1000) [af 1] [] [],cU<|bg "extend" (af 3) [gT (bh .Lt (af 5)<|aP (ah<|.g 1000) [af 2] [] []) (b8 false [aR .Add (aT (aT (af 1)<|aR .Sub (af 4)<|ah<|.int 1)<|ah<|.int 0)<|aT (aT (af 2)<|af 5)<|ah<|.int 1])<|b8 false []] [] []] [],bX LV [cA 9<|gT Cv (aP (ah<|.g 74) [af 2,aT (af 6)<|ah<|.int 1] [ah<|.g 402] ["key"])<|aP (ah<|.g 74) [af 2,aT (af 6)<|ah<|.int 0] [ah<|.g 395] ["key"],cA 10<|jQ [bh .NotEq (eu false (af 2) (af 9) bM bM)<|b8 false [],gT Cv (bh .LtE (aT (aT (af 2)<|af 9)<|ah<|.int 0)<|aT (af 6)<|ah<|.int 0)<|bh .LtE (aT (aT (af 2)<|af 9)<|ah<|.int 1)<|aT (af 6)<|ah<|.int 1],cU<|bg "extend" (af 3) [gT (bh .Eq (af 10)<|bh .In (af 0)<|ah<|.str [105,104]) (b8 false [af 6])<|b8 false []] [] []] []] [],fj<|p9 3]
noncomputable def Gk:List Y:=[bX LV UE [],cA 11 LY,cA 12<|b8 true [],gv false [13] (aP (ah<|.g 1012) [aR .Add (af 3)<|ah<|.int 1] [] []) CT [],fj CS]
noncomputable def Tp:List Y:=[pD [3,4] [b8 true [],b8 true []],gv false [5] (af 0) yY [],fj<|p9 4]
noncomputable def gS:List Y:=[cA 1<|c5 false [2,4] true [4,2] (aP (ah<|.g 1013) [eF [ah<|.int 0,ah<|.int 38,ah<|.int 13,ah<|.int 39,ah<|.int 29,ah<|.int 12,ah<|.int 7,ah<|.int 24,ah<|.int 50904]] [] []) [] []<|aR .Add (af 2)<|aP (ah<|.g 1003) [c5 false [3] false [3] (eu false (af 0) (af 4) (ah<|.int 60)<|ah<|.int 9) [] []<|aR .Mod (af 3)<|ah<|.int 1000000] [] [],cA 5<|c5 false [2] false [2] (eu false (af 1) bM (ah<|.int 7) bM) [] [] P6,uS [g8 7,g8 8] [cn,Vq],pD [10,11,12] ey,cA 13<|aP (ah<|.g 152) [af 11,af 10,ah<|.str [32],af 12] [] [],cU<|bg "_ascii_split" (af 13) [ah<|.str [],MF,af 12] [] [],cU<|bg "add_transition" (af 13) [] [] [],pD [16,17] [IQ,aP (ah<|.g 419) [aT (af 1)<|ah<|.int 8] [] []],Bb [18,19]<|aP (ah<|.g 414) [af 7,af 8,af 11,af 10,af 12] [] [],Bb [20,21,22]<|aP (ah<|.g 426) [af 16,af 17] [] [],cA 23<|c5 false [24] false [24] (af 18) [af 24] []<|af 24,cA 25<|aP (ah<|.g 443) [af 17,af 5,af 23] [] [],cA 26<|c5 true [24,27] false [24] (af 23) [] [(false,[27],CZ,[])]<|af 27,cU<|bg "extend" (af 26) [jR] [] [],bX (p_ [bh .NotEq (af 16) X0,bh .NotEq (bg "items" (af 20) [] [] [])<|af 26,bh .NotEq (b8 false (LH::IQ::IB)) OO]) [fj<|ah<|.bool false] [],uS [g8 31,g8 32,g8 33,g8 34,g8 35] [bg "get_all" (af 20) [ah<|.str [113,81,113]] [] [],b8 true [],b8 true [],b8 true [],b8 true []],bX (p_ [ak0,An<|UP .Eq .Eq (af 32) (af 33)<|aP (ah<|.g 1008) [Ui] [ah<|.g 409] ["key"],bh .NotEq (af 34) TS]) [fj<|ah<|.bool false] [],bX (bh .NotEq (aR .Add Wz ac0)<|aR .Add WB WC) [fj<|ah<|.bool false] [],uS [g8 36,g8 6,g8 37] [aP (ah<|.g 1012) [aR .Add (aP (ah<|.g 1000) [af 23] [] [])<|ah<|.int 1] [] [],aT (af 21)<|aR .FloorDiv (aP (ah<|.g 1000) [af 23] [] [])<|ah<|.int 2,aP (ah<|.g 1002) [aT (eF [ah<|.int 10,ah<|.int 0,ah<|.int 31,ah<|.int 127,ah<|.int 13])<|aR .Mod (aR .FloorDiv Ai<|ah<|.int 180)<|ah<|.int 5] [] []],gv true [38,39] Ot Fl [],aih 35 [42,44] [([32],aP (ah<|.g 74) [af 32,ah<|.str [97,97],gk<|ah<|.int 1] [] []),([32],aP (ah<|.g 56) [af 32,ah<|.str [97,97],gk<|ah<|.int 1] [] []),([32],aP (ah<|.g 65) [af 32,ah<|.str [97,97],gk<|ah<|.int 2] [] []),([32],aP (ah<|.g 47) [af 32,ah<|.str [97,97],gk<|ah<|.int 1] [ah<|.g 409] ["key"]),([20,37],bg "add_header" (af 20) [aR .Add (ah<|.str [97])<|af 37,ah<|.str [97,97]] [] []),([20],bg "add_header" (af 20) [ah<|.str [97,9],ah<|.str [97,97]] [] []),([20,37],bg "add_header" (af 20) [ah<|.str [82,111,119],aR .Add (ah<|.str [97])<|af 37] [] []),([20],bg "add_header" (af 20) [ah<|.str [84,97,98],ah<|.str [97,9,97]] [] [])],fj<|jQ [bh .Eq (af 35)<|aR .Add (aR .Add (aR .Mult (b8 false [ah<|.str [108,111,32,109,117,115,116,32,98,101,32,110,111,110,45,110,101,103,97,116,105,118,101]])<|ah<|.int 4)<|aR .Mult (b8 false [ah<|.str [67,111,110,116,114,111,108,32,99,104,97,114,97,99,116,101,114,115,32,110,111,116,32,97,108,108,111,119,101,100,32,105,110,32,104,101,97,100,101,114,115]])<|ah<|.int 3)<|b8 false [bM],bh .Eq (af 32)<|af 33,bh .Eq (bg "items" (af 20) [] [] [])<|aR .Add (af 26)<|b8 false [eF [ah<|.str [84,97,98],ah<|.str [97,9,97]]]]]
noncomputable def ab5:Inf:=⟨4,[.int 0,.none],some ("key",some .none),false,["a","x","lo","hi","key"],[],false,false⟩
noncomputable def VX:Inf:=⟨4,[.int 0,.none],some ("key",some .none),false,["a","x","lo","hi","key","mid"],[],false,false⟩
noncomputable def ab6:Inf:=⟨4,[.int 0,.none],some ("key",some .none),false,["a","x","lo","hi","key"],[],false,false⟩
noncomputable def ab7:Inf:=⟨4,[.int 0,.none],some ("key",some .none),false,["a","x","lo","hi","key","mid"],[],false,false⟩
noncomputable def VY:Inf:=⟨5,[],none,false,["self","headerlen","maxlen","continuation_ws","splitchars"],["_lines"],true,false⟩
noncomputable def abL:Inf:=⟨2,[],none,false,["self","linesep"],[],false,false⟩
noncomputable def MV:Inf:=⟨1,[],none,false,["self","end_of_line"],[],false,false⟩
noncomputable def abM:Inf:=⟨1,[],none,false,["self"],[],false,false⟩
noncomputable def MW:Inf:=⟨4,[],none,false,["self","fws","string","splitchars","parts","part"],["parts"],false,false⟩
noncomputable def abN:Inf:=⟨3,[],none,false,["self","fws","string","ch","i","prevpart","part","remainder"],[],false,false⟩
noncomputable def abO:Inf:=⟨2,[.int 0],none,false,["self","initial_size"],[],true,false⟩
noncomputable def abP:Inf:=⟨3,[],none,false,["self","fws","string"],[],false,false⟩
noncomputable def abQ:Inf:=⟨2,[.int 0],none,false,["self","i","popped"],[],false,false⟩
noncomputable def abR:Inf:=⟨1,[],none,false,["self"],[],false,false⟩
noncomputable def VV:Inf:=⟨2,[.none],none,false,["self","startval"],[],false,false⟩
noncomputable def abS:Inf:=⟨1,[],none,false,["self"],[],false,false⟩
noncomputable def abT:Inf:=⟨1,[],none,false,["self"],[],false,false⟩
noncomputable def abU:Inf:=⟨2,[.none],none,false,["self","headers","k","v"],["headers"],true,false⟩
noncomputable def abV:Inf:=⟨2,[],some ("name",none),false,["self","value","name","regex"],[],false,false⟩
noncomputable def abW:Inf:=⟨2,[],none,false,["self","name","kv"],[],false,false⟩
noncomputable def abX:Inf:=⟨1,[],none,false,["self"],[],false,false⟩
noncomputable def abY:Inf:=⟨3,[],none,true,["self","_name","_value","_params","parts","k","v"],["parts"],false,false⟩
noncomputable def abZ:Inf:=⟨1,[],none,false,["text"],[],false,false⟩
noncomputable def ab0:Inf:=⟨1,[],none,false,["text"],[],false,false⟩
noncomputable def ab1:Inf:=⟨1,[],none,false,["text"],[],false,false⟩
noncomputable def VW:Inf:=⟨5,[],none,false,["texts","gaps","head","width","order","rows","line","laid","place","cuts","k","sign","cut"],["line","laid"],false,false⟩
noncomputable def ab2:Inf:=⟨1,[],none,false,["cell","names","signs","k","tokens"],[],false,false⟩
noncomputable def ab3:Inf:=⟨2,[],none,false,["page","tokens","index","begins","place","pile","made","row","name","sign","ys","xs","text"],["begins"],true,false⟩
noncomputable def MX:Inf:=⟨3,[],none,false,["sign","xs","ys","out","i","j","text","right","left","k","hit"],["out"],false,false⟩
noncomputable def MY:Inf:=⟨4,[],none,false,["sign","xs","ys","size","tests","r","p","q","s","pair","test","parts","ends","i","part"],["ends"],false,false⟩
noncomputable def ab4:Inf:=⟨3,[],none,false,["tokens","words","full","stack","told","sign","row","k","word"],["stack","told"],false,false⟩
def jG:List (Nat×Inf×List Y):=[(47,ab5,r3),(56,VX,Tq),(65,ab6,r'),(74,ab7,Tr),(93,VY,sa),(100,abL,pw),(114,MV,px),(121,abM,pz),(142,MW,Tg),(149,abN,Th),(173,abO,p'),(180,abP,qr),(188,abQ,q5),(196,abR,q'),(218,VV,ra),(225,abS,rb),(233,abT,rh),(278,abU,Ti),(285,abV,rk),(323,abW,rl),(348,abX,rn),(381,abY,ro),(395,abZ,rp),(402,ab0,rr),(409,ab1,rv),(414,VW,Tj),(419,ab2,r0),(426,ab3,Tn),(433,MX,Ln),(438,MY,Gk),(443,ab4,Tp)]
noncomputable def qU:Inf:=⟨1,[],none,false,(["script","cells","cell","number","k","words","sign","texts","gaps","word","width","head","order","maker","gap","text","page","tokens","rows","laid","index","begins","pile","full","row","told","due","item","p","q","pairs","found","up","down","back","said","span","odd","low","high","sides","one","call","key","error"]:List String).map .ofString,["due","up","down","back","said"],false,true⟩
def afl(g:b3):b3:=λa as b c d e=>sel (a==203) (wH as b c d e)<|sel (a==210) (wI as b c d e) (opt (jG.lookup a) λf=>rm f.1 (br f.2 g) as b c d e)
def aB(a:Nat):b3:=Nat.rec (λU U U U U U=>False) (λU b=>afl b) a
def lx(a:Nat)(is:List Int):Prop:=rm qU (br gS<|aB a) [.lst<|is.map .int] [] [.tab] (λb U=>b=.bool true) cI
def aj(e:X)(c:b3)(d:List D)(a:aN)(f:D):Prop:=∀(b:Ok D) (g:er),b f a->(e c).v d a b g
def dz(e:X)(b:b3)(c:List D)(a:aN)(d:Bool):Prop:=∀(k:Bool->aN->Prop) (f:er),k d a->(e b).t c a k f
def gQ(e:X)(b:b3)(c:Bool)(d:List D)(a:aN)(f:List D)(ok:aN->Prop):Prop:=∀(k:xR) (g:er),k f ok a->(e b).i c d a k g
def eO(c:List X)(d:b3)(e:List D)(a:aN)(f:List D):Prop:=∀(b:Ok (List D)) (g:er),b f a->gc (gh c d) e a b g
abbrev yes:aN->Prop:=λU=>True
variable{r:List D}
def bc:aj (ah d) a r b d:=λU U c=>c
def iM:aj bM a r b .none:=λU U c=>c
variable{i N:Nat}
def bN(d:∀k:D->Prop,k a->opt (r[i]?) λa=>qK a (k a)):aj (af i) c r b a:=λe g f=>d (λa=>e a b) f
def cO:eO [] a r b []:=λU U c=>c
variable{z:X}
def dD(g:aj z a r b c)(h:eO d a r b e):eO (z::d) a r b (c::e):=λj f i=>g _ f<|h _ f i
def eg(c:aj z a r b d):eO [z] a r b [d]:=dD c cO
def c_(f:aj c a r b x)(g:aj d a r b e):eO [c,d] a r b [x,e]:=dD f<|eg g
def jB(e:eO a b r c d):aj (eF a) b r c (.tup d):=λh f g=>e _ f g
def jW(e:eO a b r c d):aj (b8 false a) b r c (.lst d):=λh f g=>e _ f g
def jz(h:aj c b r a x)(i:aj d b r a e)(j:∀k,k f->Gs o a x e k):aj (aR o c d) b r a f:=λm g l=>h _ g<|i _ g<|j _ l
def kT(h:aj c b r a x)(i:aj d b r a e)(j:∀k,k f->MZ a x e k):aj (aT c d) b r a f:=λm g l=>h _ g<|i _ g<|j _ l
def yK(f:aj b c r a x)(g:∀k,k d->Gf a x e k):aj (cW e b) c r a d:=λj h i=>f _ h<|g _ i
def q7{d:Int}(e:aj a b r c (.int d)):aj (gk a) b r c (.int (-d)):=λh f g=>e _ f g
def sQ(l:aj c b r a x)(m:aj d b r a e)(n:aj f b r a g)(p:aj z b r a h)(q:∀k,k j->Pd a x e g h k):aj (eu false c d f z) b r a (.lst j):=λs i k=>l _ i<|m _ i<|n _ i<|p _ i<|q _ k
def iY(h:aj c b r a x)(i:aj d b r a e)(j:∀k,k f->jt o a x e k):dz (bh o c d) b r a f:=λk g l=>h _ g<|i _ g<|j _ l
def wz(h:aj c b r a x)(i:aj d b r a e)(j:∀k,k f->jt o a x e k):aj (bh o c d) b r a (.bool f):=λk g l=>h _ g<|i _ g<|j _ l
def ahh(f:aj c b r a d)(g:∀k,k e a->mR b d a k):aj (An c) b r a (.bool !e):=λj h i=>f _ h<|g _ i
def df(d:dz a b r c t):dz (An a) b r c (!t):=λg e f=>d _ e f
def q6(i:dz d a r b t)(j:t=true->aj e a r b c)(k:t=false->aj f a r b c):aj (gT d e f) a r b c:=λl g h=>i _ g (by
 cases t with
 |true=>exact j rfl _ g h
 |false=>exact k rfl _ g h)
def qG(b:List X)(c:b3)(d:List D)(a:aN)(e:Bool):Prop:=∀(k:Bool->aN->Prop) (f:er),k e a->yW (gh b c) d a k f
def Bu:qG [] a r b true:=λU U c=>c
def lV(e:dz b c r d a):qG [b] c r d a:=λk f g=>e _ f (by cases a<;>exact g)
def A6(i:aj e c r a (.g f))(l:eO as c r a h)(s:eO j c r a m)(t:∀k,k n->G1 c (.g f) k)(u:∀d b,d p a->n h (q.zip m) a d b):aj (aP e as j q) c r a p:=λd b v=>i _ b<|t _<|l _ b<|s _ b<|u _ _ v
variable{y:Type}
def NX(g)(c)(h:ok a)(xs:List y):∀acc,(∀x∈xs,∀acc k,H acc+(c x).length<=lim->k (acc++c x) a->b acc (g x) a k)->H acc+(xs.flatMap c).length<=lim->k (acc++xs.flatMap c) a->o8 ok b (xs.map g) acc a k:=by
 induction xs with
 |nil=>exactλacc U U d=>by rwa [anb,dR] at d
 |cons x xs i=>
  intro acc d e f;rw[xo] at e f;rw[bq,<-gE] at e;rw[<-eT] at f;refine d x (.head _) acc _ (az (cZ _ _) e) ⟨h,i _ (λj l=>d j<|.tail _ l) ?_ f⟩;rwa [bq]
def Cl(a:Bool)(is:List Nat)(b:D)(c d:List D):Prop:=∀k:List D->Prop,k d->iU a is b c k
def Vr(d:aj z b r a c)(e:H acc+1<=lim)(f:k (acc++[c]) a):Mw b [] z acc r a k:=d _ _ ⟨e,f⟩
def OS{G:tV}(h:Cl d is e r c)(i:qG f g c a b)(j:b=true->G acc c a k)(l:b=false->k acc a):wG d is (gh f g) G r acc e a k:=h _ (i _ _ (by
 cases b with
 |true=>exact j rfl
 |false=>exact l rfl))
def GZ(a)(b:y->D)(xs:List y):xs.flatMap (λx=>bif a x then[b x] else[])=(xs.filter a).map b:=by
 induction xs with
 |nil=>rfl
 |cons x xs c=>rw[xo,c,oE];cases a x<;>rfl
def Yk(j:gQ d a c r b e ok)(l:∀k,k f b->o8 ok (wG c is (gh g a) (Mw a h z) (clear cN r)) e [] b k):aj (c5 false cN c is d g h z) a r b (.lst f):=λm s n=>j (λi ok p=>o8 ok _ i [] p λi q=>m _ q) cI<|l _ n
def wo{e:X}(xs:List y)(d)(b)(f)(g:y->List D)(i:gQ it cf bt r W (xs.map d) ok)(j:ok W)(l:∀x∈xs,Cl bt is (d x) (clear cN r) (g x))(m:∀x∈xs,qG ifs cf (g x) W (b x))(n:∀x∈xs,b x=true->aj e cf (g x) W (f x))(p:H xs<=lim):aj (c5 false cN bt is it ifs [] e) cf r W (.lst ((xs.filter b).map f)):=Yk i λk s=>by
 refine NX d (λx=>bif b x then[f x] else[]) j xs [] (λx h acc k q c=>?_) ?_ ?_
 .refine OS (l x h) (m x h) (λa=>Vr (n x h a) ?_ ?_) λa=>?_
  .rwa [a] at q
  .rwa [a] at c
  rw[a] at c;rw[cond_false,dR] at c;exact c
 .exact J (GZ ..)<|J (aX ..)<|J rJ<|J (i8 ..)<|az (EM _ _) p
 rwa [GZ]
def aq{c:b3}{d:aN}{b:D}(e:∀k:D->Prop,k b->opt (r[i]?) λb=>qK b (k b):=by exactλU a=>a):aj (af i) c r d b:=bN e
def jq(d:List Y)(e:b3)(a:eX)(f:er):eX:=λg b c=>i9.casesOn g (br d e b c a f) (a .brk b c) (a .cont b c) λh=>a (.ret h) b c
def aO(g:c a r d (jq e a f b) b):br (c::e) a r d f b:=g
def dZ(e:a .next r b):br [] c r b a d:=e
def ek(i:dz d a r b u)(h:br (bif u then e else f) a r b g c):bX d e f a r b g c:=i _ c (by
 cases u with
 |true=>exact h
 |false=>exact h)
def gx(f:aj z b r a d)(g:c .next (r.set i d) a):cA i z b r a c e:=f _ e g
def rq(f:aj z b r a c)(g:d (.ret c) r a):fj z b r a d e:=f _ e g
def nY(d:b c a):fin keep (H a) c a b:=by
 unfold fin;rwa [beq_self_eq_true,fp]
def ym(d:b c a):ko (H a) c a b:=by
 unfold ko;rwa [beq_self_eq_true]
def call(e:jG.lookup a=some (b,c))(i:(a==203)=false)(k:(a==210)=false)(l:rm b (br c (aB d)) as f g h j):aB (d+1) a as f g h j:=by
 show sel _ _ _;rwa [i,k,e]
def pZ(a:Inf)(b:aN)(c:Ok D):eX:=λe U d=>i9.casesOn e (fin a.keep (H b) .none d c) False False λf=>fin a.keep (H b) f d c
def aa0(a b:Nat):BE ((a:Int)+(b:Int)) 2=(((a+b)/2:Nat):Int):=by
 exact J (amS _ av)<|(Int.natCast_ediv _ 2).symm
abbrev yq:Y:=cA 3<|af 5
noncomputable abbrev st(a x key:D)(b c:Nat)(d:D):List D:=[a,x,.int b,.int c,key,d]
def dec_lt(a b:Nat):decide ((a:Int)<(b:Int))=decide (a<b):=decide_eq_decide.mpr nI
def akO:dz pe d (st e x key a b f) c (decide (a<b)):=λk g h=>by
 show k (decide _) c;rwa [dec_lt]
def turn(i)(k l)(m:dz i c (st d x key a b (.int ((a+b)/2:Nat))) e g)(n:br (bif g then k else l) c (st d x key a b (.int ((a+b)/2:Nat))) e (jq [] c h f) f):br [o_,bX i k l] c (st d x key a b j) e h f:=by
 refine⟨⟨(λp=>nomatch p),av,av⟩,?_⟩;exact J (aa0 ..)<|ek m n
def qH(a:b3)(e:X)(f:List Y)(g:Nat)(b:eX):eX:=λh c d=>i9.casesOn h (tB (e a) (br f a) g c d b) (b .next c d) (tB (e a) (br f a) g c d b) λi=>b (.ret i) c d
def ew(h:dz d a r b c)(i:c=false->e .next r b)(j:c=true->br f a r b (qH a d f g e) cI):tB (d a) (br f a) (g+1) r b e:=h _ _ (by
 cases c with
 |true=>exact j rfl
 |false=>exact i rfl)
def aa1(c:a<b):a<=(a+b)/2/\(a+b)/2<b:=⟨(Nat.le_div_iff_mul_le av).mpr<|J (Nat.mul_two ..)<|j7 (bF c) a,Nat.div_lt_of_lt_mul<|J (anU ..)<|anA c b⟩
def et{v:Nat->Bool}(p)(A:∀c<i,∀a b,dz h d (st j x key a b (.int c)) k (v c))(B:∀c,n<=c->c<f->v c=p)(D:∀c,f<=c->c<i->v c=!p)(E:∀g,m .next (st j x key f f g) k)(q):∀a b g,b<a+q->n<=a->a<=f->f<=b->b<=i->tB (pe d) (br [o_,bX h [bif p then qY else yq] [bif p then yq else qY]] d) q (st j x key a b g) k m:=by
 induction q with
 |zero=>exactλa b g u U s t U=>aW (bZ u s)<|bA.mpr t
 |succ q y=>
  intro a b g u w s t z;refine ew akO (λr=>?_) λr=>?_
  .have r:=bA.mp (of_decide_eq_false r);have e:=pU s<|az t r;exact J e<|J (pU (az r s) t)<|E g
  obtain⟨g1,g2⟩:=aa1 (eB r);have g3:=bZ g2 z;refine turn h _ _ (A _ g3 a b) ?_;have up l:br [qY] d (st j x key a b<|.int (_/2:Nat)) k (jq [] d (qH d pe [o_,bX h [bif p then qY else yq] [bif p then yq else qY]] q m) cI) cI:=
   y _ b _ (bZ u<|J (gE ..)<|J (h_ 1 q)<|j8 g1 _) (az w<|mT g1) l t z
  have down l:br [yq] d (st j x key a b<|.int _) k (jq [] d (qH d pe [o_,bX h [bif p then qY else yq] [bif p then yq else qY]] q m) cI) cI:=
   y a _ _ (bZ g2<|rM u) w s l (bF g3)
  obtain l|l:=pV _ f
  .rw[B _ (az w g1) l];cases p with
    |true=>exact up l
    |false=>exact up l
  rw[D _ l g3];cases p with
   |true=>exact down l
   |false=>exact down l
def oU(b:D):Prop:=∀a:Prop,a->qK b a
def Xk(d:bx b a=.lst c):oU a:=by
 obtain _|_|_|_|_|_|_|_|_|_:=a<;>first|exactλU d=>d|skip
 exact CG (aZ cT.k d) rfl
def xS(f:Nat)(key:D)(b:D->D)(h:List D):Prop:=(key=.none/\b=id)\/∃a,key=.g a/\(a<1000/\gU.lookup a=none/\je.contains a=true)/\∀c∈h,∀(d:aN) (e:Ok D) (i:er),e (b c) d->aB f a [c] [] d e i
def sV(b:i<a):iA (i:Int) a=some i:=by
 unfold iA;rw[cE<|xe.mpr<|kE i];rw[dI<|J (gb<|nI.mpr b) rfl]
 rfl
def M0(f:bx b c=.lst a)(e:a[i]?=some d) (k) (g:k d):MZ b c (.int i) k:=by
 show cT.casesOn _ _ _ _ _ _ _;rw[f];show opt ((iA i<|H a).bind _) k;rw[sV (fm.mp e).1];show opt (a[i]?) k;rwa [e]
def Ox(j:bx a b=.lst c)(l:c[i]?=some d):aj (aT (af 0) (af 5)) e (st b x key f g (.int i)) a d:=
 kT (bN λk h=>Xk j _ h) aq (M0 j l)
def Yo{q:D->D}(s:bx b h=.lst f)(r:f[i]?=some c) (p:∃a,key=.g a/\(a<1000/\gU.lookup a=none/\je.contains a=true)/\∀c∈f,∀b d e,d (q c) b->aB j a [c] [] b d e):aj (aP (af 4) [aT (af 0) (af 5)] [] []) (aB j) (st h x key m n (.int i)) b (q c):=by
 obtain⟨a,rfl,⟨t,u,v⟩,p⟩:=p;refine A6 aq (eg<|Ox s r) cO (λk l=>?_) λd e l=>p c (eU r) b d e l
 show sel _ _<|b7 _ _ _;exact J (eS<|gO.mpr t)<|J u<|⟨v,l⟩
def Kz(bT:D)(a:Nat)(b:List D):Prop:=bT=.int a\/(bT=.none/\a=H b)
noncomputable abbrev rf(a x key:D)(b:Nat)(bT:D):List D:=[a,x,.int b,bT,key,.ai]
noncomputable abbrev TQ(c d:X)(a b:List Y):List Y:=[bX (bh .Lt (af 2) (ah (.int 0))) [Iw [108,111,32,109,117,115,116,32,98,101,32,110,111,110,45,110,101,103,97,116,105,118,101]] [],
 bX (bh .Is (af 3) bM) [cA 3 (aP (ah (.g 1000)) [(af 0)] [] [])] [],bX (bh .Is (af 4) bM) [uT pe [o_,bX c a b]] [uT pe [o_,bX d a b]],fj (af 2)]
def TR{bT:D}(u)(l:bx b c=.lst p)(r:Kz bT g p)(s:∀k,k u->M_ key k)(t:oU key)(q:tB (pe d) (br [o_,bX (bif u then h else j) e f] d) turns (st c x key m g .ai) b (jq [fj (af 2)] d n a)):br (TQ h j e f) d (rf c x key m bT) b n a:=by
 refine aO<|ek (u:=false) (λk a i=>?_)<|dZ<|aO ?_
 .show k (decide _) b;rwa [λc=>eS<|xe.mpr<|kE c]
 have next:br [bX (bh .Is (af 4) bM) [uT pe [o_,bX h e f]] [uT pe [o_,bX j e f]],fj<|af 2] d (st c x key m g .ai) b n a:=by
  refine aO<|ek (λk a i=>t _<|s (λv=>k v b) i) ?_;obtain _|_:=u
  .exact q
  exact q
 obtain rfl|⟨rfl,rfl⟩:=r
 .exact ek (λk a i=>i)<|dZ next
 refine ek (λk a i=>i) (aO<|gx (λw a i=>?_) next);refine Xk l _ ?_;show cT.casesOn _ _ _ _ _ _ _;rwa [l]
def RS(b:aN)(e:List D)(c:D->D)(x:D)(left:Bool)(f:Nat->Bool):Prop:=∀d a,e[d]?=some a->∀k:Bool->Prop,k (f d)->bif left then jt .Lt b (c a) x k else jt .Lt b x (c a) k
def Td(b:i<H r):∃a,r[i]?=some a:=⟨_,kY b⟩
def WS(l:xS j key c m):∃b,(∀k,k b->M_ key k)/\oU key/\(b=true->c=id)/\(b=false->∃a,key=.g a/\(a<1000/\gU.lookup a=none/\je.contains a=true)/\∀d∈m,∀f h n,h (c d) f->aB j a [d] [] f h n):=by
 obtain⟨rfl,e⟩|l:=l
 .exact⟨true,λU i=>i,λU i=>i,λU=>e,λi=>nomatch i⟩
 refine⟨false,λk i=>?_,?_,λi=>(nomatch i),λU=>l⟩
 .obtain⟨a,rfl,⟨p,_⟩,_⟩:=l;exact⟨p,i⟩
 refine aG l λa q U=>?_;subst q
 exactλU i=>i
section
variable{n:Nat}{key:D}{nt:D->D}{ds:List D}{x:D}{W:aN}{a bT:D}{fN lo m:Nat}{r:List D}{K:eX}{Z:er}{t:Nat->Bool}(cB:xS n key nt ds)(c7:oU x)(kO:bx W a=.lst ds)(n8:Kz bT fN ds)(gC:fN<=ds.length)(fO:ds.length<60)(eH:lo<=m)(gB:m<=fN)(dY:∀r,K (.ret (.int m)) r W)
include cB c7 kO n8 gC fO eH gB dY
def t2(f:RS W ds nt x false t)(h:∀b,lo<=b->b<m->t b=false)(i:∀b,m<=b->b<fN->t b=true):br Tq (aB n) (rf a x key lo bT) W K Z:=by
 refine nV (WS cB) λg j l p q=>?_
 refine TR g kO n8 j l<|et false (λb r s u=>?_) h i (λe=>dY _) turns lo fN .ai (bz gC<|bZ fO<|az av<|fS _ _) (aS _) eH gB<|aS _;obtain⟨e,d⟩:=Td<|bZ r gC;obtain _|_:=g
 .exact iY (bN λk c=>c7 _ c) (Yo kO d<|q rfl) λk c=>f b e d k c
 exact iY (bN λk c=>c7 _ c) (Ox kO d) λk c=>by have:=f b e d k c;rw[p rfl] at this;exact this
def tJ(f:RS W ds nt x true t)(h:∀b,lo<=b->b<m->t b=true)(i:∀b,m<=b->b<fN->t b=false):br Tr (aB n) (rf a x key lo bT) W K Z:=by
 refine nV (WS cB) λg j l p q=>?_
 refine TR g kO n8 j l<|et true (λb r s u=>?_) h i (λe=>dY _) turns lo fN .ai (bz gC<|bZ fO<|az av<|fS _ _) (aS _) eH gB<|aS _;obtain⟨e,d⟩:=Td<|bZ r gC;obtain _|_:=g
 .exact iY (Yo kO d<|q rfl) (bN λk c=>c7 _ c) λk c=>f b e d k c
 exact iY (Ox kO d) (bN λk c=>c7 _ c) λk c=>by have:=f b e d k c;rw[p rfl] at this;exact this
end
def Args(as:List D)(a:oS)(b x:D)(c:Nat)(bT key:D):Prop:=∀k:List D->Prop,k [b,x,.int c,bT,key]->Gu VX as a k
def S9:Args [a,x] [] a x 0 .none .none:=λk b=>⟨aH,aH,b⟩
def CA:Args [a,x] [("key",key)] a x 0 .none key:=λk b=>⟨aH,aH,rfl,b⟩
def Lg:Args [a,x,.int i] [("key",key)] a x i .none key:=λk b=>⟨aH,aH,rfl,b⟩
def Lh{bT:D}:Args [a,x,.int i,bT] [] a x i bT .none:=λk b=>⟨aH,aH,b⟩
def Gd{bT:D}:Args [a,x,.int i,bT] [("key",key)] a x i bT key:=λk b=>⟨aH,aH,rfl,b⟩
def wZ(a:List y)(b):(a.takeWhile b).length<=H a:=(List.takeWhile_sublist _).length_le
def PT{d:List y}{p:y->Bool}:∀{a:Nat} {b:y},a<(d.takeWhile p).length->d[a]?=some b->p b=true:=by
 induction d with
 |nil=>exactλU e=>nomatch e
 |cons g d h=>
  intro a b c e;rw[JS] at c;rcases f:p g with _|_
  .rw[f] at c;exact aW c<|JV _
  rw[f] at c;obtain _|a:=a
  .exact(bY e)▸f
  exact h (JU c) e
def PU{g:List y}{f:y->Bool}(j:g.Pairwise λc d=>f d=true->f c=true):∀{a:Nat} {b:y},(g.takeWhile f).length<=a->g[a]?=some b->f b=false:=by
 induction g with
 |nil=>exactλU e=>nomatch e
 |cons k g l=>
  intro a b h e;obtain⟨m,n⟩:=rK.mp j;rw[JS] at h;rcases i:f k with _|_
  .obtain _|a:=a
   .exact(bY e)▸i
   rcases p:f b with _|_
   .rfl
   rw[m b (eU e) p] at i;contradiction
  rw[i] at h;obtain _|a:=a
  .exact aW h<|anI _
  exact l n (hS h) e
noncomputable def q3(a:List y)(b:y->Bool)(c d:Nat):Nat:=max c<|min d (a.takeWhile b).length
def agC(e:max c (min a b)<=i)(f:i<a):b<=i:=(EW b a).elim (λd=>az (di (zu d).symm)<|az (BP _ _) e) λd=>aW (az (di (vh d).symm)<|az (BP _ _) e)<|gO.mpr f
noncomputable def Bw(a:List y)(b:y->Bool)(c:Nat):Bool:=((a[c]?).map b).getD true
def I9{a:List y}{b:y->Bool}{c:y}(d:a[i]?=some c):Bw a b i=b c:=by
 unfold Bw;exact J d rfl
def at_{b:List y}(c:i<H b):∃a,b[i]?=some a:=⟨_,kY c⟩
def dr{b:List y}{c:y->Bool}{a:Nat}(f:i<=a)(g:a<q3 b c i N):Bw b c a=true:=by
 have d:=(bZ ((pV a _).elim id λh=>aW g<|bA.mpr<|BQ.mpr ⟨f,h⟩)<|BS _ _);obtain⟨j,e⟩:=at_<|bZ d<|wZ b c;exact J (I9 e)<|PT d e
def dq{c:List y}{d:y->Bool}{f:Nat}(h:c.Pairwise λa b=>d b=true->d a=true)(j:N<=H c)(k:q3 c d i N<=f)(g:f<N):Bw c d f=false:=by
 obtain⟨l,e⟩:=at_<|bZ g j;exact J (I9 e)<|PU h (agC k g) e
section
variable{α:Type}{l:List α}{a:D}{p:α->Bool}{as:List D}{ks:oS}{x:D}{lo:Nat}{bT key:D}{W:aN}{enc:α->D}{n:Nat}{nt:D->D}{fN:Nat}{Q:Ok D}{Z:er}(cu:l.Pairwise λa b=>p b=true->p a=true)(Df:Args as ks a x lo bT key)(kO:bx W a=.lst (l.map enc))(cB:xS n key nt (l.map enc))(c7:oU x)(n8:Kz bT fN (l.map enc))(gC:lo<=fN)(Dg:fN<=l.length)(fO:l.length<60)(q:Q (.int (q3 l p lo fN)) W)
include cu Df kO cB c7 n8 gC Dg fO q
def ye(f:∀a∈l,∀k:Bool->Prop,k (!(p a))->jt .Lt W x (nt (enc a)) k):aB (n+1) 56 as ks W Q Z:=
 call rfl rfl rfl (Df _ (t2 cB c7 kO n8 (J (aX ..)<|Dg) (J (aX ..)<|fO) (vf _ _) (BQ.mpr ⟨gC,BR _ _⟩) (λi=>nY q)
  (λb a e k (q:k (!(Bw l p b)))=>by
   refine aG (iQ.mp<|(d8 ..).symm.trans e) λg ao h=>?_;subst h
   rw[I9 ao] at q;exact f g (eU ao) k q)
  (λb c d=>aZ (!·) (dr c d)) λb c d=>aZ (!·) (dq cu Dg c d)))
def Af(f:∀a∈l,∀k:Bool->Prop,k (p a)->jt .Lt W (nt (enc a)) x k):aB (n+1) 74 as ks W Q Z:=
 call rfl rfl rfl (Df _ (tJ cB c7 kO n8 (J (aX ..)<|Dg) (J (aX ..)<|fO) (vf _ _) (BQ.mpr ⟨gC,BR _ _⟩) (λi=>nY q)
  (λb a e k (q:k (Bw l p b))=>by
   refine aG (iQ.mp<|(d8 ..).symm.trans e) λg ao h=>?_;subst h
   rw[I9 ao] at q;exact f g (eU ao) k q)
  (λb c d=>dr c d) λb c d=>dq cu Dg c d))
end
abbrev a_:=Nat×Nat
def dB(c:List a_)(d:Nat):Nat:=List.rec 7 (λa U b=>bif decide (d<=a.1) then min a.2 b else b) c
noncomputable def p6(b:Nat->Nat)(k:Nat):Nat->List a_:=Nat.rec (λU=>[]) (λU c a=>bif decide (b a<b (a+1)) then(a,b a)::c (a+1) else c<|a+1) k
def ac(a:Nat->Nat):List a_:=p6 a 7 0
structure bk(l:List a_):Prop where
 o:l.Pairwise λa b=>a.1<b.1/\a.2<b.2
 w:∀p∈l,p.1<=p.2/\p.2<7
structure iK(E:Nat->Nat):Prop where
 mono:∀i j,i<=j->E i<=E j
 ge:∀i,i<7->i<=E i
 top:∀i,7<=i->E i=7
def iK.le(c:iK a)(b:Nat):a b<=7:=by
 have:=c.mono b (b+7)<|cZ _ _;rwa [c.top _<|fS _ _] at this
def HR(b)(c)(a:Nat):dB (b::c) a=bif decide (a<=b.1) then min b.2 (dB c a) else dB c a:=rfl
def qZ(a)(c:Nat):dB a c<=7:=by
 induction a with
 |nil=>exact aS 7
 |cons d a b=>
  rw[HR];obtain _|_:=decide _
  .exact b
  exact az (BS _ _) b
def lR(l:N<7):dB b i<=N↔∃a∈b,i<=a.1/\a.2<=N:=by
 induction b with
 |nil=>exact⟨λc=>aW (bz c l)<|oG 7,λ⟨a,c,_⟩=>nomatch c⟩
 |cons a b f=>
  rw[HR];rcases k:decide _ with _|_
  .refine⟨λc=>?_,λ⟨e,d,g,h⟩=>?_⟩
   .obtain⟨e,d,c⟩:=f.mp c;exact⟨e,.tail _ d,c⟩
   obtain rfl|d:=cQ.mp d
   .exact aW g<|of_decide_eq_false k
   exact f.mpr ⟨e,d,g,h⟩
  refine⟨λc=>?_,λ⟨e,d,g,h⟩=>?_⟩
  .obtain j|j:=EW a.2 _
   .exact⟨a,.head _,eB k,by rw[vh j] at c;exact c⟩
   rw[zu j] at c;obtain⟨e,d,c⟩:=f.mp c;exact⟨e,.tail _ d,c⟩
  obtain rfl|d:=cQ.mp d
  .exact az (BR _ _) h
  exact az (BS _ _)<|f.mpr ⟨e,d,g,h⟩
def GP(f:a<=7)(g:b<=7)(d:∀e,e<7->(a<=e↔b<=e)):a=b:=by
 obtain c|c|c:=hW a b
 .exact aW ((d a<|bZ c g).mp<|aS _)<|gO.mpr c
 .exact c
 exact aW ((d b<|bZ c f).mpr<|aS _)<|gO.mpr c
def le_of_le(g:a<=7)(d:∀e,e<7->a<=e->b<=e)(f:b<=7):b<=a:=by
 obtain c|c:=pV a 7
 .exact d a c<|aS _
 exact az f c
def AX(i:∀a∈b,a.1<=a.2/\a.2<7):iK (dB b) where
 mono:=λf l m=>le_of_le (qZ b l) (λe k n=>by
  obtain⟨a,c,d,g⟩:=(lR k).mp n;exact(lR k).mpr ⟨a,c,az m d,g⟩) (qZ b f)
 ge:=λf j=>bA.mp λh=>by
  obtain⟨a,c,d,g⟩:=(lR<|fF h j).mp<|aS _;exact aW (az (az d (i a c).1) g)<|gO.mpr h
 top:=λf j=>pU (qZ b f) (bA.mp λh=>by
  obtain⟨a,c,d,g⟩:=(lR h).mp<|aS _;exact aW (bz (i a c).1 (i a c).2) (bA.mpr (az j d)))
def iK.max(e:iK b)(k:iK c):iK λa=>Nat.max (b a) (c a) where
 mono:=λa f g=>BQ.mpr ⟨az (e.mono a f g)<|vf _ _,az (k.mono a f g)<|BP _ _⟩
 ge:=λa d=>az (e.ge a d)<|vf _ _
 top:=λa d=>by
  show Nat.max (b a) (c a)=7;rw[e.top a d,k.top a d];rfl
def Ab(b)(k a):p6 b (k+1) a=bif decide (b a<b (a+1)) then(a,b a)::p6 b k (a+1) else p6 b k (a+1):=rfl
def nx(m:i<f (b+1)):∀c k a,b=a+c->c<k->(∀d,a<=d->d<=b->f d=i)->p6 f k a=(b,i)::p6 f (k-(c+1)) (b+1):=λc=>by
 induction c with
 |zero=>
  intro k a e h g;obtain⟨k,rfl⟩:∃j,k=j+1:=⟨k-1,(anT h).symm⟩;have e:b=a:=e;rw[Ab,<-e,g b (di e.symm)<|aS _,gb m];rfl
 |succ c n=>
  intro k a e h g;obtain⟨k,rfl⟩:∃j,k=j+1:=⟨k-1,(anT<|bz (b9 _) h).symm⟩;have aA:b=(a+1)+c:=by rw[e,gE,h_ 1 c]
  have l:a+1<=b:=by rw[aA];exact cZ _ _
  rw[Ab,g a (aS _)<|oF l,g _ (gy _) l,eS<|oG _,cond_false,n k _ aA (JU h) λd p q=>g d (oF p) q];rw[Nat.add_sub_add_right]
def nz(c:iK b):∀k a,b a=7->p6 b k a=[]:=λk=>by
 induction k with
 |zero=>exactλU U=>rfl
 |succ k d=>
  intro a e;have aA:=pU (c.le _)<|e▸c.mono _ _ (gy _);rw[Ab,e,aA];exact d _ aA
def oX(b:Nat->Nat)(a:Nat):List a_:=p6 b (7-a) a
def K7(e:iK a)(d:c<=b)(f:b<7)(g:a c=i)(h:a b<=i)(j:i<a (b+1)):oX a c=(b,i)::oX a (b+1):=by
 unfold oX;rw[nx j _ _ c (rL d).symm (h2 d f) λm k l=>pU (az (e.mono _ _ l) h)<|g▸e.mono _ _ k];rw[h4,<-gE,rL d]
def K8(c:iK a)(e:a b=7):oX a b=[]:=nz c _ _ e
noncomputable def vP(a:Nat)(b:a_):Bool:=decide (b.1<a)
noncomputable def GH(e:Nat)(a:a_):Bool:=decide (a.2<e)
def bu(a:List a_)(b:Nat):Nat:=(a.takeWhile<|vP b).length
def te(a:List a_)(e:Nat):Nat:=(a.takeWhile<|GH e).length
def bk.at(e:bk a)(f:a[i]?=some b) (g:a[c]?=some d) (h:i<c):b.1<d.1/\b.2<d.2:=by
 obtain⟨j,rfl⟩:=fm.mp f;obtain⟨k,rfl⟩:=fm.mp g;exact hF.mp e.o i c j k h
def bk.r8(h:bk a)(e:a[i]?=some b) (g:a[d]?=some c) (j:i<=d):b.1<=c.1/\b.2<=c.2:=by
 obtain f|f:=Nat.lt_or_eq_of_le j
 .exact(h.at e g f).imp bF bF
 rw[f,g] at e;exact(bY e)▸⟨aS _,aS _⟩
def bk.cJ(e:bk a)(d):a.Pairwise λb c=>vP d c=true->vP d b=true:=e.o.imp λk f=>gb<|fF k.1<|eB f
def bk.jy(d:bk a)(e:Nat):a.Pairwise λb c=>GH e c=true->GH e b=true:=d.o.imp λk f=>gb<|fF k.2<|eB f
def bk.p7(c:b[i]?=some p) (d:i<bu b a):p.1<a:=eB<|PT (p:=vP a) d c
def bk.r9(d:bk a)(e:a[i]?=some c) (k:bu a b<=i):b<=c.1:=bA.mp<|of_decide_eq_false<|PU (d.cJ b) k e
def bk.GJ(b:a[i]?=some p) (c:i<te a N):p.2<N:=eB<|PT (p:=GH N) c b
def bk.GI(c:bk a)(d:a[i]?=some b) (k:te a N<=i):N<=b.2:=bA.mp<|of_decide_eq_false<|PU (c.jy N) k d
def om{c:List a_}(d:a∈c):∃b:Nat,c[b]?=some a:=QR d
def bk.Xy(f:bk a)(d:a[bu a c]?=some b):dB a c=b.2:=GP (qZ a c) (bF (f.w b<|eU d).2) λe h=>by
 refine⟨λg=>?_,λg=>(lR h).mpr ⟨b,eU d,f.r9 d<|aS _,g⟩⟩;refine dm ((lR h).mp g) λn j l m=>?_
 obtain⟨p,i⟩:=om j;exact az (f.r8 d i (bA.mp λk=>aW (bk.p7 i k)<|bA.mpr l)).2 m
def bk.XC(h:bk a)(d:H a<=bu a b):dB a b=7:=pU (qZ a b) (bA.mp λe=>by
 refine dm ((lR e).mp<|aS _) λi f g j=>?_
 obtain⟨k,c⟩:=om f;exact aW (bk.p7 c (bZ (fm.mp c).1 d)) (bA.mpr g))
def bk.Xz(e:bk a)(h:i<te a N)(j:te a N<=i+1)(d:a[i]?=some c) (f):(∃b∈a,f<=b.1/\b.2<N)↔f<=c.1:=by
 refine⟨λ⟨b,l,m,n⟩=>?_,λk=>⟨c,eU d,k,bk.GJ d h⟩⟩;obtain⟨q,g⟩:=om l;exact az m (e.r8 g d<|rM<|bZ (gO.mp λp=>aW (e.GI g p)<|gO.mpr n) j).1
def wU:bu a b<=H a:=wZ a _
def wV:te a i<=H a:=wZ a _
def PK(d:bk a)(e:a[i]?=some b) (k:b.1<c):i<bu a c:=gO.mp λf=>aW (d.r9 e f)<|gO.mpr k
def wW(c:bk a)(d:a[i]?=some b) (k:b.2<N):i<te a N:=gO.mp λe=>aW (c.GI d e)<|gO.mpr k
def Es(f:bk a)(k:b<=c):bu a b<=bu a c:=bA.mp λd=>by
 obtain⟨g,e⟩:=at_<|bZ d wU;exact aW (bZ (bk.p7 e d) k)<|bA.mpr<|f.r9 e<|aS _
def sL{a:List y}{b:y->Bool}(c:i<=(a.takeWhile b).length):q3 a b i (H a)=(a.takeWhile b).length:=by
 unfold q3;exact J (zu<|wZ a b)<|J (EX c) rfl
def iK.an(g:iK c):∀k b,b+k<=7->bk (p6 c k b)/\∀a∈p6 c k b,b<=a.1/\c b<=a.2:=λk=>by
 induction k with
 |zero=>exactλb U=>⟨⟨.nil,λU d=>nomatch d⟩,λU d=>nomatch d⟩
 |succ k j=>
  intro b l;have i:b+1+k<=7:=by rwa [gE,h_ 1 k]
  obtain⟨h,e⟩:=j _ i;rw[Ab];rcases f:decide _ with _|_
  .exact⟨h,λa d=>⟨oF (e a d).1,az (g.mono _ _<|gy _) (e a d).2⟩⟩
  have f:=eB f;refine⟨⟨rK.mpr ⟨λa d=>⟨(e a d).1,bZ f (e a d).2⟩,h.o⟩,λa d=>?_⟩,λa d=>?_⟩
  .obtain rfl|d:=cQ.mp d
   .exact⟨g.ge b<|bZ (bZ (f6 b)<|cZ _ _) i,bZ f<|g.le _⟩
   exact h.w a d
  obtain rfl|d:=cQ.mp d
  .exact⟨aS _,aS _⟩
  exact⟨oF (e a d).1,az (bF f) (e a d).2⟩
def iK.La(b:iK a):bk (ac a):=(b.an 7 0<|aS _).1
def bk.self:∀{e:Nat->Nat} {d:Nat},bk c->iK e->(∀b∈c,d<=b.1)->(∀a,d<=a->e a=dB c a)->oX e d=c:=by
 induction c with
 |nil=>exactλj l U k=>K8 l<|k _<|aS _
 |cons b c t=>
  intro e d j l u k;obtain⟨p,v⟩:=rK.mp j.o;have w:bk c:=⟨v,λb x=>j.w b<|.tail _ x⟩;have m:=j.w b<|.head _;have r:∀a,a<=b.1->dB _ a=b.2:=λa f=>by
   exact J (HR ..)<|J (gb f)<|vh (bA.mp λn=>by
    exact dm ((lR (fF n m.2)).mp (aS _)) λg h U q=>(aW (bz q n) (bA.mpr (bF (p g h).2))))
  have s:∀a,b.1+1<=a->dB _ a=dB c a:=λa f=>J (HR ..)<|J (eS<|gO.mpr f)<|J (cond_false ..) rfl
  have i:=u b<|.head _;refine(K7 l i (bz m.1 m.2) ((k d<|aS _).trans<|r d i) (di<|(k _ i).trans<|r _<|aS _) ?_).trans (aZ _ (t w l (λg h=>(p g h).1) λa f=>(k a<|az i<|oF f).trans<|s a f));exact J (k _<|mT i)<|J (s _<|aS _)<|gO.mp λn=>by
   exact dm ((lR<|bz (aS _) m.2).mp n) λg h U q=>(aW q<|gO.mpr (p g h).2)
def bk.n0(b:bk a):ac (dB a)=a:=b.self (AX b.w) (λU U=>b9 _) λU U=>rfl
def rS(xs b:List a_)(a:Nat):Nat:=Nat.max (dB xs a)<|dB b a
def C2(b:bk xs)(c:bk a):iK (rS xs a):=(AX b.w).max<|AX c.w
def XA(c:bk a)(e:N<7)(f:i<te a (N+1))(g:te a (N+1)<=i+1)(h:a[i]?=some b) (d):dB a d<=N↔d<=b.1:=by
 exact(lR e).trans (BD ⟨λc=>c.imp λs k=>⟨k.1,k.2.1,oH k.2.2⟩,λc=>c.imp λs k=>⟨k.1,k.2.1,rM k.2.2⟩⟩<|c.Xz f g h d)
def S7(g:bk xs)(h:bk a)(i:xs[bu xs d]?=some b) (j:a[bu a d]?=some c) (k:xs[te xs (Nat.max b.2 c.2+1)-1]?=some e) (p:a[te a (Nat.max b.2 c.2+1)-1]?=some f):
 oX (rS xs a) d=(Nat.min e.1 f.1,Nat.max b.2 c.2)::oX (rS xs a) (Nat.min e.1 f.1+1)/\d<=Nat.min e.1 f.1:=by
 have l:=Nat.max_lt.mpr ⟨(g.w b<|eU i).2,(h.w c<|eU j).2⟩;have m:rS xs a d=Nat.max b.2 c.2:=by unfold rS;rw[g.Xy i,h.Xy j]
 have q:te xs _-1<te xs (Nat.max b.2 c.2+1):=xy (bz (b9 _)<|wW g i<|oH<|vf _ _) zv;have r:te a _-1<te a (Nat.max b.2 c.2+1):=xy (bz (b9 _)<|wW h j<|oH<|BP _ _) zv;have s:=XA g l q (Q2<|aS _) k;have both:=λM=>BQ.trans<|(and_congr (s M)<|(XA h l r (Q2<|aS _) p) M).trans anC.symm
 have n:=(both d).mp<|di m;refine⟨K7 (C2 g h) n (bz (BR _ _)<|bz (g.w e<|eU k).1 (g.w e<|eU k).2) m ((both _).mpr<|aS _) (gO.mp λt=>aW ((both _).mp t)<|JW _),n⟩
noncomputable def qg(xs c:List a_):List a_:=xs.flatMap λb=>(c.filter λa=>decide (b.2<a.1)).map λa=>(b.1,a.2)
def Ov:c∈qg xs d↔∃a∈xs,∃b∈d,a.2<b.1/\(a.1,b.2)=c:=by
 unfold qg;refine lA JP<|exists_congr λa=>and_congr_right λU=>?_
 refine lA fC<|exists_congr λb=>?_
 rw[BI,and_assoc,decide_eq_true_iff]
def GK(e:bk xs)(b:bk a):iK (dB (qg xs a)):=AX λj f=>by
 obtain⟨g,h,c,d,i,rfl⟩:=Ov.mp f;exact⟨az (e.w g h).1<|az (bF i) (b.w c d).1,(b.w c d).2⟩
def Ou(h:N<7):dB (qg xs c) i<=N↔∃a∈xs,i<=a.1/\∃b∈c,a.2<b.1/\b.2<=N:=by
 refine(lR h).trans ⟨λ⟨m,j,d,e⟩=>?_,λ⟨a,f,d,b,g,e,k⟩=>⟨_,Ov.mpr ⟨a,f,b,g,e,rfl⟩,d,k⟩⟩;obtain⟨a,f,b,g,l,rfl⟩:=Ov.mp j;exact⟨a,f,d,b,g,l,e⟩
def X_(f:bk xs)(h:bk a)(d:H xs<=bu xs c\/∃b,xs[bu xs c]?=some b/\H a<=bu a (b.2+1)):oX (dB (qg xs a)) c=[]:=K8 (GK f h) (pU (qZ _ _) (bA.mp λi=>by
 obtain⟨q,j,l,r,m,n,_⟩:=(Ou i).mp<|aS _;obtain⟨s,e⟩:=om j;obtain⟨t,g⟩:=om m;have k:=bA.mp λk=>aW (bk.p7 e k)<|bA.mpr l
 obtain d|⟨b,p,d⟩:=d
 .exact aW (fm.mp e).1<|bA.mpr<|az d k
 exact aW (bk.p7 g (bZ (fm.mp g).1 d)) (bA.mpr (l7 (bz (f.r8 p e k).2 n)))))
def Yc(h:bk xs)(i:bk d)(r:xs[bu xs c]?=some f) (j:d[bu d (f.2+1)]?=some a) (l:xs[te xs a.1-1]?=some b):
 oX (dB<|qg xs d) c=(b.1,a.2)::oX (dB<|qg xs d) (b.1+1)/\c<=b.1/\te xs a.1=bu xs (b.1+1)/\bu xs c<te xs a.1:=by
 have w:=(i.w a<|eU j).2;have t:=wW h r<|i.r9 j<|aS _;have x:=xy (bz (b9 _) t) zv;have both:=λM=>by
  refine(Ou w).trans (BD ⟨λ⟨g,u,n,s,m,p,v⟩=>?_,λ⟨g,u,n,p⟩=>⟨g,u,n,a,eU j,p,aS _⟩⟩<|(h.Xz x (Q2<|aS _) l) M);obtain⟨A,q⟩:=om m;exact⟨g,u,n,bZ p (i.r8 q j (bA.mp λk=>aW (i.at j q k).2<|bA.mpr v)).1⟩
 have b8:=GP (qZ _ _) (bF w) λe B=>by
  refine⟨λg=>?_,λg=>az ((both c).mpr<|az (h.r9 r<|aS _) (h.r8 r l<|hT t).1) g⟩;obtain⟨s,m,n,F,D,p,v⟩:=(Ou B).mp g;obtain⟨G,y⟩:=om m;obtain⟨A,q⟩:=om D;have k:=bA.mp λk=>aW (bk.p7 y k)<|bA.mpr n
  exact az (i.r8 j q (bA.mp λE=>aW (bk.p7 q E)<|bA.mpr<|l7<|bz (h.r8 r y k).2 p)).2 v
 have z:=(both c).mp<|di b8;refine⟨K7 (GK h i) z (bz (h.w b<|eU l).1 (h.w b<|eU l).2) b8 ((both _).mpr<|aS _) (gO.mp λg=>aW ((both _).mp g)<|JW _),z,?_,t⟩;refine pU ?_ (bA.mp λg=>?_)
 .have:=PK h l (f6 _);exact Nat.le_of_pred_lt this
 obtain⟨s,m⟩:=at_ (bZ g wU);exact aW (bk.p7 m g)<|bA.mpr<|(h.at l m x).1
def acf{e:a_}(g:bk b):(∃a,b[te b e.2]?=some a/\a.1<=e.1)↔∃c∈b,c.1<=e.1/\e.2<=c.2:=by
 refine⟨λ⟨a,d,h⟩=>⟨a,eU d,h,g.GI d<|aS _⟩,λ⟨c,i,j,l⟩=>?_⟩;obtain⟨m,f⟩:=om i;have k:=bA.mp λk=>aW (bk.GJ f k)<|bA.mpr l
 obtain⟨a,d⟩:=at_<|bz k (fm.mp f).1;exact⟨a,d,az (g.r8 d f k).1 j⟩
def aa5{e:a_}(g:bk b):(∃a,b[bu b e.1]?=some a/\a.2<=e.2)↔∃c∈b,e.1<=c.1/\c.2<=e.2:=by
 refine⟨λ⟨a,d,h⟩=>⟨a,eU d,g.r9 d<|aS _,h⟩,λ⟨c,i,j,l⟩=>?_⟩;obtain⟨m,f⟩:=om i;have k:=bA.mp λk=>aW (bk.p7 f k)<|bA.mpr j
 obtain⟨a,d⟩:=at_<|bz k (fm.mp f).1;exact⟨a,d,az (g.r8 d f k).2 l⟩
def uB(a:List a_)(b:a_):List a_:=a.take (te a b.2)++[b]++a.drop (bu a<|b.1+1)
def o5(a:List a_)(b:a_):Bool:=b7 a[bu a b.1]? true λc=>decide (b.2<c.2)
def M1(g:bk a)(c:o5 a b=true){d:a_}(h:d∈a)(i:b.1<=d.1):b.2<d.2:=by
 obtain⟨j,e⟩:=om h;have k:=bA.mp λk=>aW (bk.p7 e k)<|bA.mpr i
 obtain⟨l,f⟩:=at_<|bz k (fm.mp e).1;unfold o5 at c;rw[f] at c;exact bZ (eB c) (g.r8 f e k).2
def PF{c:a_}(h:bk a){d:a_}(f:d∈a.take (te a c.2)):d∈a/\d.2<c.2:=by
 obtain⟨g,b⟩:=om f;rw[List.getElem?_take] at b;rcases e:decide (g<te a c.2) with _|_
 .rw[cE<|of_decide_eq_false e] at b;contradiction
 rw[dI<|eB e] at b;exact⟨eU b,bk.GJ b<|eB e⟩
def L5{d:a_}(e:bk a){b:a_}(f:b∈a.drop (bu a (d.1+1))):b∈a/\d.1<b.1:=by
 obtain⟨g,c⟩:=om f;rw[QO] at c;exact⟨eU c,e.r9 c<|cZ _ _⟩
def adV(d:bk b)(m:a.1<=a.2/\a.2<7)(j:o5 b a=true):bk (uB b a) where
 o:=by
  have aU:∀e∈b.take (te b a.2),e.1<a.1/\e.2<a.2:=λe c=>
   have f:=PF d c
   ⟨gO.mp λk=>aW (M1 d j f.1 k)<|bA.mpr<|bF f.2,f.2⟩
  have eK:∀e∈b.drop (bu b<|a.1+1),a.1<e.1/\a.2<e.2:=λe c=>
   have f:=L5 d c
   ⟨f.2,M1 d j f.1<|bF f.2⟩
  unfold uB;rw[eT];refine List.pairwise_append.mpr ⟨d.o.take,rK.mpr ⟨eK,d.o.drop⟩,λh i l g=>?_⟩;obtain rfl|g:=cQ.mp g
  .exact aU h i
  exact⟨fF (aU h i).1 (eK l g).1,fF (aU h i).2 (eK l g).2⟩
 w:=λe c=>by
  unfold uB at c;obtain c|c:=i7.mp c
  .obtain c|c:=i7.mp c
   .exact d.w e (PF d c).1
   exact(dK.mp c)▸m
  exact d.w e (L5 d c).1
def adW(h:bk c)(i e:Nat):(∃a∈uB c b,i<=a.1/\a.2<=e)↔(∃a∈c,i<=a.1/\a.2<=e)\/(i<=b.1/\b.2<=e):=by
 refine⟨λ⟨a,d,f,g⟩=>?_,λj=>?_⟩
 .obtain d|d:=i7.mp d
  .obtain d|d:=i7.mp d
   .exact .inl ⟨a,(PF h d).1,f,g⟩
   exact .inr<|(dK.mp d)▸⟨f,g⟩
  exact .inl ⟨a,(L5 h d).1,f,g⟩
 obtain⟨a,d,f,g⟩|j:=j
 .obtain⟨n,k⟩:=om d;obtain l|l:=pV n _
  .exact⟨a,xw _<|xw _<|eU<|(QS l).trans k,f,g⟩
  obtain m|m:=pV n _
  .exact⟨b,xw _<|lF _<|.head _,az f<|rM<|bk.p7 k m,az (h.GI k l) g⟩
  exact⟨a,lF _ (eU<|by rwa [QO,rL m]),f,g⟩
 exact⟨b,xw _<|lF _<|.head _,j⟩
def afE(i:bk a)(m:b.1<=b.2/\b.2<7)(n:dB a=dB c):bk (bif o5 a b then uB a b else a)/\dB (bif o5 a b then uB a b else a)=dB (c++[b]):=by
 have l:∀f e,e<7->(dB (c++[b]) f<=e↔_\/_):=λf e g=>by
  have k:=(lR g).symm.trans<|(by rw[n]:dB a f<=e↔dB c f<=e).trans<|lR g;exact(lR g).trans ⟨λ⟨j,h,d⟩=>(i7.mp h).elim (λh=>.inl<|k.mpr ⟨j,h,d⟩) λh=>.inr<|(dK.mp h)▸d,λd=>d.elim (λd=>(k.mp d).imp λj d=>⟨xw _ d.1,d.2⟩) λd=>⟨b,lF _<|.head _,d⟩⟩
 rcases d:o5 a b with _|_
 .refine⟨i,funext λf=>GP (qZ _ _) (qZ _ _) λe g=>(lR g).trans<|BD ⟨.inl,λk=>?_⟩ (l f e g).symm⟩;obtain k|⟨p,q⟩:=k
  .exact k
  exact dm (by
   unfold o5 at d;rcases e:a[bu a b.1]? with _|r
   .rw[e] at d;contradiction
   rw[e] at d;exact⟨r,eU e,i.r9 e (aS _),bA.mp (of_decide_eq_false d)⟩) λj h s t=>⟨j,h,az p s,az t q⟩
 exact⟨adV i m d,funext λf=>GP (qZ _ _) (qZ _ _) λe g=>(lR g).trans<|(adW i f e).trans (l f e g).symm⟩
noncomputable def bV(a:a_):D:=.str [97+a.1,97+a.2]
noncomputable def kS(b:List Nat->D)(a:D):D:=D.casesOn (motive_1:=λU=>D) a a a (λU=>a) (λU=>a) b (λU=>a) (λU=>a) (λU=>a) (λU=>a) λU U U U=>a
def WA:D->D:=kS λs=>.str<|s.take 1
def ac1:D->D:=kS λs=>.str<|(s.drop 1).take 1
variable{l:List Nat}
def acY(g:a (.str [b]) c):aB (d+1) 402 [.str (e::b::l)] [] c a f:=call rfl rfl rfl ⟨aH,aH,by
 show opt ((iA (1:Nat)<|H l+1+1).bind _) _;exact J (sV (JZ (jo _)))<|nY g⟩
def Nv{c:y->List Nat}{f:List y}(h:∀a,c a≠[]):xS (b+1) (.g 395) WA (f.map λa=>.str (c a)):=.inr ⟨395,rfl,⟨av,rfl,rfl⟩,λk i l m n d=>by
 refine aG (fC.mp i) λa U j=>?_;subst j
 rcases e:c a with _|⟨p,s⟩
 .exact aW e<|h a
 rw[e] at d;exact(call rfl rfl rfl ⟨aH,aH,by
  show opt ((iA (0:Nat)<|H s+1).bind _) _;exact J (sV (jo _))<|nY d⟩)⟩
def WR{b:List a_}:xS (a+1) (.g 402) ac1 (b.map bV):=.inr ⟨402,rfl,⟨av,rfl,rfl⟩,λf c h i j d=>by
 refine aG (fC.mp c) λk U e=>?_;subst e
 exact acY d⟩
def aeq(b c):strLt [b] [c]=decide (b<c):=by
 refine decide_eq_decide.mpr ⟨λa=>?_,λa=>hi a⟩;cases a with
 |rel a=>exact a
 |cons a=>contradiction
def oi(a b):strLt [97+a] [97+b]=decide (a<b):=(aeq _ _).trans<|decide_eq_decide.mpr anz
def not_lt(b c):(!decide (b<c+1))=decide (c<b):=by
 obtain a|a:=pV c b
 .exact J (gb a)<|J (eS<|bA.mpr<|l7 a) rfl
 exact J (eS<|bA.mpr a)<|J (gb<|oH a) rfl
section
variable{l:List a_}{W:aN}{A:D}{n:Nat}{Q:Ok D}{Z:er}{lo v:Nat}{as:List D}{ks:oS}(h:bk l)(aU:bx W A=.lst (l.map bV))(fO:l.length<60)
include h aU fO
def ZT(c:Args as ks A (.str [97+v]) lo .none (.g 395))(b:lo<=bu l (v+1))(a:Q (.int (bu l (v+1))) W):aB (n+2) 56 as ks W Q Z:=
 ye (h.cJ<|v+1) c aU (Nv λU h=>nomatch h) (λU a=>a) (.inr ⟨rfl,(aX ..).symm⟩) (az b wU) (aS _) fO (sL b▸a) λd U k a=>by
  show k<|strLt [97+v] [97+d.1];rwa [oi,<-not_lt]
def aiR(c:Args as ks A (.str [97+v]) lo .none (.g 402))(b:lo<=te l (v+1))(a:Q (.int (te l (v+1))) W):aB (n+2) 56 as ks W Q Z:=
 ye (h.jy<|v+1) c aU WR (λU a=>a) (.inr ⟨rfl,(aX ..).symm⟩) (az b wV) (aS _) fO (sL b▸a) λd U k a=>by
  show k<|strLt [97+v] [97+d.2];rwa [oi,<-not_lt]
def ZS(c:Args as ks A (.str [97+v]) lo .none (.g 395))(b:lo<=bu l v)(a:Q (.int (bu l v)) W):aB (n+2) 74 as ks W Q Z:=
 Af (h.cJ v) c aU (Nv λU h=>nomatch h) (λU a=>a) (.inr ⟨rfl,(aX ..).symm⟩) (az b wU) (aS _) fO (sL b▸a) λd U k a=>by
  show k<|strLt [97+d.1] [97+v];rwa [oi]
def Pk(c:Args as ks A (.str [97+v]) lo .none (.g 402))(b:lo<=te l v)(a:Q (.int (te l v)) W):aB (n+2) 74 as ks W Q Z:=
 Af (h.jy v) c aU WR (λU a=>a) (.inr ⟨rfl,(aX ..).symm⟩) (az b wV) (aS _) fO (sL b▸a) λd U k a=>by
  show k<|strLt [97+d.2] [97+v];rwa [oi]
end
def wA(h:aj c a r b x)(i:aj d a r b e)(j:aj f a r b g):eO [c,d,f] a r b [x,e,g]:=dD h<|c_ i j
def pB(i:a<1000/\gU.lookup a=none/\je.contains a=true)(l:eO as c r b e)(p:eO f c r b h)(q:∀d j,d m b->c a e (n.zip h) b d j):aj (aP (ah (.g a)) as f n) c r b m:=
 A6 bc l p (λk s=>by
  show sel _ _<|b7 _ _ _;exact J (eS (gO.mpr i.1))<|J i.2.1<|⟨i.2.2,s⟩) q
def um:56<1000/\gU.lookup 56=none/\je.contains 56=true:=⟨av,rfl,rfl⟩
def vY:74<1000/\gU.lookup 74=none/\je.contains 74=true:=⟨av,rfl,rfl⟩
def uI(d:aj z a r b (bV c)):aj (aT z (ah (.int 0))) a r b (.str [97+c.1]):=kT d bc λU e=>e
def qh(d:aj z a r b (bV c)):aj (aT z (ah (.int 1))) a r b (.str [97+c.2]):=kT d bc λU e=>e
def uK(g:aj z b r a c)(h:aj d b r a (.int i))(j:bx a c=.lst e)(k:e[i]?=some f):aj (aT z d) b r a f:=kT g h<|M0 j k
def sP(c:aj z a r b (.int i))(d:0<i):aj (aR .Sub z (ah (.int 1))) a r b (.int (i-1:Nat)):=jz c bc λk e=>by
 show True/\k (.int<|i-1);exact J (show(i:Int)-1=_ from(QI d).symm)<|⟨aQ,e⟩
def sO{e:X}(c:aj e cf r W a)(d:bx W a=.lst b):aj (aP (ah (.g 1000)) [e] [] []) cf r W (.int (H b)):=λh f i=>c _ f (by
 show cT.casesOn _ _ _ _ _ _ _;rwa [d])
def wX(d:aj z a r b (.int i))(e:aj c a r b (.int N)):dz (bh .Lt z c) a r b (decide (i<N)):=iY d e λk f=>by
 show k<|decide _;rwa [dec_lt]
noncomputable def OZ(a:D):List Nat:=D.casesOn (motive_1:=λU=>List Nat) a [] [] (λU=>[]) (λU=>[]) id (λU=>[]) (λU=>[]) (λU=>[]) (λU=>[]) λU U U U=>[]
def Bt{e:X}(h:aj e a r b (.str l))(i:aj d a r b (.str c)):dz (bh .Eq e d) a r b (decide (l=c)):=iY h i λk f=>⟨aQ,λg=>by rw[gb (show l=c from aZ OZ g)] at f;exact f,λg=>by rw[eS λe=>g<|aZ D.str e] at f;exact f⟩
def Ex(e:aj z a r b (.str l))(f:aj c a r b (.str d)):dz (bh .In z c) a r b (lS l d):=iY e f λU g=>g
def nF(e:qG a b r c d):dz (jQ a) b r c d:=e
def u6(d:dz z a r b false):qG (z::c) a r b false:=λk e f=>d _ e f
def Ey(f:dz z a r b true)(g:qG c a r b d):qG (z::c) a r b d:=λk e h=>f _ e<|g _ e h
def I8(f:dz z b r c a)(g:a=true->qG d b r c e):qG (z::d) b r c (a&&e):=by
 obtain _|_:=a
 .exact u6 f
 exact Ey f<|g rfl
def ez(c:a[b]?=some o):obj a b=o:=by unfold obj;exact J c rfl
def iD{o:bI}:(bK++[o])[H bK]?=some o:=EH
def pH{x:bI}:(bK++[o]).set (H bK) x=bK++[x]:=J (hI _ _<|aS _)<|J (JY ..) rfl
def jl(d:a[b]?=some (.lst c)):bx a (.loc b)=.lst c:=by
 show bI.casesOn (motive:=λU=>cT) _ _ _ _ _=_;exact J (ez d) rfl
def kW(g:dz b c r a false)(h:d .next r a):bX b e [] c r a d f:=ek g h
def O3(h:eO b c r a d)(i:∀k,k e->uU is.reverse d.reverse r k)(j:f .next e a):pD is b c r a f g:=h _ g<|i _ j
def sU(j:aj g b r a (.loc c))(i:a[c]?=some (.lst e)) (k:aj z b r a d) (l:H e+1<=lim) (m:h .next r (a.set c (.lst (e++[d])))):cU (bg "append" g [z] [] []) b r a h f:=j _ f (by
 show bI.casesOn _ _ _ _ _;refine J (ez i)<|⟨.inl rfl,k _ f ?_⟩;show bI.casesOn _ _ _ _ _;rw[ez i];exact⟨J bq<|l,m⟩)
def Iz(i:aj f b r a (.loc c))(h:a[c]?=some (.lst d)) (j:aj z b r a (.lst es)) (k:H d+H es<=lim) (l:g .next r (a.set c (.lst (d++es)))):cU (bg "extend" f [z] [] []) b r a g e:=i _ e (by
 show bI.casesOn _ _ _ _ _;refine J (ez h)<|⟨.inr<|.inr<|.inl rfl,j _ e ?_⟩;show bI.casesOn _ _ _ _ _;rw[ez h];exact⟨J bq<|k,l⟩)
def As(i:Nat->List D->aN->Prop)(n)(p:∀c d b a,n[c]?=some d->i c b a->∀k,(∀f g,i (c+1) f g->k .next f g)->h d b a k cI) (q:∀c b a,i c b a->ok a) (r:∀b a,i (H n) b a->j b a m cI):∀b a,i 0 b a->lO ok h j n b a m:=by
 induction n generalizing i with
 |nil=>exactλb a l=>r b a l
 |cons d n t=>exactλb a l=>p 0 d b a rfl l _ λf g s=>⟨q 1 f g s,t (λc=>i _) (λc d b a e l k u=>p _ d b a e l k u) (λc b a l=>q _ b a l) r f g s⟩
def lB(i:gQ f b e r a g ok)(l:lO ok (λh r a c d=>iU e is h r λj=>br k b j a c d) (br m b) g r a c):gv e is f k m b r a c d:=i _ d l
def b0{b:aN}:(a++b).take (H a)=a:=J (hM<|aS _)<|J zm rfl
def GX(b:oY (H bK) d)(c:fU (H bK) bK)(e:a d bK):fin false (H bK) d (bK++x::R) a:=by
 have ao:((bK++x::R).length==H bK)=false:=by
  exact J bq<|jO<|nP<|tM<|jo _
 unfold fin;exact J ao<|J b0<|⟨b,c,e⟩
def t8(b)(c:∀x,oY N (b x))(a:List y):oY N (.lst (a.map b)):=by
 induction a with
 |nil=>trivial
 |cons x a d=>exact⟨c x,d⟩
def p8(b)(c:∀x,oY N (b x))(a:List y):kg N (a.map b):=by
 induction a with
 |nil=>trivial
 |cons x a d=>exact⟨c x,d⟩
abbrev v9(a:Nat):List X:=[ah<|.g a]
abbrev yc(a b c:X)(d:Nat):X:=aP (ah<|.g 56) [a,b,c] (v9 d) ["key"]
noncomputable abbrev SS:List Y:=[cA 7 (aP (ah (.g 1007)) [(aT (aT (af 1) (af 4)) (ah (.int 1))),(aT (aT (af 2) (af 5)) (ah (.int 1)))] [] []),
 cA 8 (aT (aP (ah<|.g 1006) [aT (af 1)<|aR .Sub (yc (af 1) (af 7) (af 4) 402)<|ah<|.int 1,aT (af 2)<|aR .Sub (yc (af 2) (af 7) (af 5) 402)<|ah<|.int 1] [] [])<|ah<|.int 0),
 pD [4,5] [yc (af 1) (af 8) (af 4) 395,yc (af 2) (af 8) (af 5) 395],cU (bg "append" (af 3) [(aR .Add (af 8) (af 7))] [] [])]
noncomputable abbrev K4:List Y:=[cA 9 (aP (ah (.g 74)) [(af 3),(aT (af 6) (ah (.int 0)))] (v9 395) ["key"]),
 bX (p_ [(bh .Eq (eu false (af 3) (af 9) bM bM) (b8 false [])),(bh .Gt (aT (aT (af 3) (af 9)) (ah (.int 1))) (aT (af 6) (ah (.int 1))))]) [wJ (af 3) (aP (ah (.g 74)) [(af 3),(aT (af 6) (ah (.int 1)))] (v9 402) ["key"]) (aP (ah (.g 56)) [(af 3),(aT (af 6) (ah (.int 0)))] (v9 395) ["key"]) (b8 false [(af 6)])] []]
noncomputable abbrev z9:List Y:=[cA 5 (yc (af 2) (aT (aT (af 1) (af 4)) (ah (.int 1))) (af 5) 395),
 cA 4 (gT (bh .Lt (af 5)<|yz 2) (aP (ah<|.g 74) [af 1,aT (aT (af 2)<|af 5)<|ah<|.int 0,af 4] (v9 402) ["key"])<|yz 1),
 cU (bg "extend" (af 3) [(gT (bh .Lt (af 5) (yz 2)) (b8 false [(aR .Add (aT (aT (af 1) (aR .Sub (af 4) (ah (.int 1)))) (ah (.int 0))) (aT (aT (af 2) (af 5)) (ah (.int 1))))]) (b8 false []))] [] [])]
noncomputable abbrev z_:List Y:=[cA 9 (gT Cv (aP (ah (.g 74)) [(af 2),(aT (af 6) (ah (.int 1)))] (v9 402) ["key"]) (aP (ah (.g 74)) [(af 2),(aT (af 6) (ah (.int 0)))] (v9 395) ["key"])),
 cA 10 (jQ [bh .NotEq (eu false (af 2) (af 9) bM bM)<|b8 false [],gT Cv (bh .LtE (aT (aT (af 2)<|af 9)<|ah<|.int 0)<|aT (af 6)<|ah<|.int 0)<|bh .LtE (aT (aT (af 2)<|af 9)<|ah<|.int 1)<|aT (af 6)<|ah<|.int 1]),
 cU (bg "extend" (af 3) [(gT (bh .Eq (af 10) (bh .In (af 0) (ah (.str [105,104])))) (b8 false [(af 6)]) (b8 false []))] [] [])]
abbrev F7:List Y:=[bX K5 SS [],bX (bh .Eq (af 0)<|ah<|.str [124]) K4 [],bX Aa z9 [],bX (bh .In (af 0)<|ah<|.str [105,120,104,108]) z_ []]
def Gj:Ln=[F8,gv false [6] SV F7 [],fj (p9 3)]:=au
abbrev iN(a:List a_):D:=.lst<|a.map bV
abbrev fW(s:List Nat)(xs a:List a_)(b c d:Nat)(e f g h i:D):List D:=[.str s,iN xs,iN a,.loc b,.int c,.int d,e,f,g,h,i]
abbrev jm(a:aN)(b:List a_):aN:=a++[.lst<|b.map bV]
def iW{d:Type}{a:y->d}{b:List y}{c:y}(e:b[i]?=some c):(b.map a)[i]?=some (a c):=J d8<|J e rfl
def q8(e:aj z a r b (iN xs))(f:aj c a r b (.int i))(g:xs[i]?=some d):aj (aT z c) a r b (bV d):=uK e f rfl<|iW g
def aeC(x a):(bif strLt [97+x] [97+a] then[97+a] else[97+x])=[97+Nat.max x a]:=by
 rw[oi];obtain b|b:=pV x a
 .exact J (gb b)<|J (show Nat.max x a=a from EX<|bF b) rfl
 exact J (eS<|bA.mpr b)<|J (show Nat.max x a=x from anH b) rfl
def ag'(h:aj z b r a (.str [97+c]))(i:aj d b r a (.str [97+e])):aj (aP (ah (.g 1007)) [z,d] [] []) b r a (.str [97+Nat.max c e]):=λj f k=>h _ f (i _ f (by
 show j _ a;rwa [aeC]))
def W_(a d b e)(c:a≠b):strLt [a,d] [b,e]=decide (a<b):=by
 refine decide_eq_decide.mpr ⟨λk=>?_,λk=>hi k⟩;cases k with
 |rel c=>exact c
 |cons _=>exact aW rfl c
def ahc(i:aj z c r d (bV a))(j:aj e c r d (bV b)):aj (aT (aP (ah (.g 1006)) [z,e] [] []) (ah (.int 0))) c r d (.str [97+Nat.min a.1 b.1]):=λl h k=>i _ h (j _ h (by
 show opt _ _;obtain f|f:=hW a.1 b.1
 .rw[W_ _ _ _ _<|nP<|tL f 97,eS<|bA.mpr<|j7 (bF f) 97];rwa [show Nat.min a.1 b.1=a.1 from vh<|bF f] at k
 obtain f|f:=f
 .rw[show Nat.min a.1 b.1=a.1 from vh<|di f] at k;obtain _|_:=strLt [97+b.1,97+b.2] [97+a.1,97+a.2]
  .exact k
  rwa [f] at k
 rw[W_ _ _ _ _<|kI<|tL f 97,gb<|tL f 97];rwa [show Nat.min a.1 b.1=b.1 from zu (bF f)] at k))
def Ye(f:bk xs)(g:H xs<60)(h:aj z (aB (a+2)) r b (iN xs))(j:aj d (aB (a+2)) r b (.str [97+c]))(k:aj e (aB (a+2)) r b (.int i))(l:i<=te xs (c+1)):aj (yc z d e 402) (aB (a+2)) r b (.int (te xs (c+1))):=
 pB um (wA h j k) (eg bc) λn p m=>aiR f rfl g Lg l m
def H9(f:bk xs)(g:H xs<60)(h:aj z (aB (a+2)) r b (iN xs))(j:aj d (aB (a+2)) r b (.str [97+c]))(k:aj e (aB (a+2)) r b (.int i))(l:i<=bu xs (c+1)):aj (yc z d e 395) (aB (a+2)) r b (.int (bu xs (c+1))):=
 pB um (wA h j k) (eg bc) λn p m=>ZT f rfl g Lg l m
def dt:1+1<=lim:=aH
def oD(i:bk xs)(r:bk b)(z:H xs<60)(A:H b<60)(K:H h<60)(x:xs[bu xs j]?=some c) (y:b[bu b j]?=some f) (B:xs[te xs (Nat.max c.2 f.2+1)-1]?=some g) (D:b[te b (Nat.max c.2 f.2+1)-1]?=some a) (k:n .next (fW l xs b (H m) (bu xs (Nat.min g.1 a.1+1)) (bu b (Nat.min g.1 a.1+1)) p (.str [97+Nat.max c.2 f.2]) (.str [97+Nat.min g.1 a.1]) q s) (jm m (h++[(Nat.min g.1 a.1,Nat.max c.2 f.2)]))):
 br SS (aB<|u+2) (fW l xs b (H m) (bu xs j) (bu b j) p v w q s) (jm m h) n t:=by
 have E:=(S7 i r x y B D).2;have F:=wW i x<|oH<|vf c.2 f.2;have G:=wW r y<|oH<|BP c.2 f.2;refine aO<|gx (ag' (qh<|q8 aq aq x)<|qh<|q8 aq aq y) ?_;refine aO<|gx (ahc (q8 aq (sP (Ye i z aq aq aq<|bF F)<|bz (b9 _) F) B)<|q8 aq (sP (Ye r A aq aq aq<|bF G)<|bz (b9 _) G) D) ?_;refine aO<|O3 (c_ (H9 i z aq aq aq<|Es i<|mT E)<|H9 r A aq aq aq<|Es r<|mT E) (λU a=>a) ?_;refine aO<|sU aq iD (d:=bV (Nat.min g.1 a.1,Nat.max c.2 f.2)) (λL t a=>⟨dt,a⟩) ?_ ?_
 .exact J (aX ..)<|az (l7 K) aH
 rw[pH];have e:h.map bV++[bV (Nat.min g.1 a.1,Nat.max c.2 f.2)]=(h++[(Nat.min g.1 a.1,Nat.max c.2 f.2)]).map bV:=J dS rfl;rwa [e]
def iP(d:decide (l=a)=u):dz (bh .Eq (af 0) (ah (.str a))) b (.str l::r) c u:=d▸Bt aq bc
def wY(e:lS l a=b):dz (bh .In (af 0) (ah (.str a))) c (.str l::r) d b:=e▸Ex aq bc
def nr(c)(k):∀a,(p6 c k a).length<=k:=by
 induction k with
 |zero=>exactλU=>aS 0
 |succ k b=>
  intro a;rw[Ab];obtain _|_:=decide _
  .exact mT<|b _
  exact iI<|b _
def Oh(d:b++oX a c=ac a):H b<60:=by
 exact bz (az (az (cZ _ _)<|di<|bq.symm.trans<|aZ EL d)<|nr a 7 0) av
inductive rY(bK:aN)(xs ys:List a_):Nat->List D->aN->Prop
 |mk (k L:Nat) (out:List a_) (u0 u3 ry rz fB:D) (eH:out++oX (rS xs ys) L=ac (rS xs ys)) (gB:(xs.length<=bu xs L\/ys.length<=bu ys L)\/(xs.length-bu xs L)+(ys.length-bu ys L)+k<=xs.length+ys.length):rY bK xs ys k (fW [38] xs ys bK.length (bu xs L) (bu ys L) u0 u3 ry rz fB) (jm bK out)
def S6(l:a .next (fW [38] xs b c i d e f g h j) k):br [bX (bh .Eq (af 0) (ah (.str [124]))) K4 [],bX Aa z9 [],bX (bh .In (af 0) (ah (.str [105,120,104,108]))) z_ []] m (fW [38] xs b c i d e f g h j) k a n:=
 aO (kW (iP av)<|aO<|kW (nF<|u6<|iP av)<|aO<|kW (wY av) l)
def DS(d:aj z a r b (iN c)):aj (aP (ah (.g 1000)) [z] [] []) a r b (.int (H c)):=by
 have:=sO d rfl;rwa [aX] at this
def oC(g:a<x)(h:b<c)(j:a<=d)(l:b<=e)(m:a<d\/b<e)(n:x-a+(c-b)+k<=i):x-d+(c-e)+(k+1)<=i:=by
 exact az (J (h_ k 1)<|bH (gE ..)<|j8 (m.elim (λf=>Nat.add_lt_add_of_lt_of_le (Q5 g f)<|h1 l c) λf=>Nat.add_lt_add_of_le_of_lt (h1 j x)<|Q5 h f) k) n
def oy(m:bk xs)(n:bk a)(G:H xs<60)(K:H a<60)(p:rY b xs a k r f)(w:∀c d,rY b xs a (k+1) c d->g .next c d):iU false [6] x r λh=>br F7 (aB (j+2)) h f g cI:=by
 cases p with
 |mk q y S L M N O z P=>
 have s:dz K5 (aB<|j+2) (fW [38] xs a (H b) (bu xs q) (bu a q) x L M N O) (jm b y) _:=
  nF (Ey (iP av) (I8 (wX aq<|DS aq) λU=>lV<|wX aq<|DS aq))
 rcases ao:decide (bu xs q<H xs)&&decide (bu a q<H a) with _|_
 .rw[ao] at s;refine aO<|ek s<|dZ<|S6<|w _ _<|rY.mk _ q y _ _ _ _ _ z<|.inl ?_;rw[Bool.and_eq_false_iff] at ao;exact ao.imp (λe=>bA.mp<|of_decide_eq_false e) λe=>bA.mp<|of_decide_eq_false e
 rw[ao] at s;obtain⟨g1,g2⟩:=(bl ..).mp ao;have g1:=eB g1;have g2:=eB g2;obtain⟨A,t⟩:=at_ g1;obtain⟨B,u⟩:=at_ g2;have D:=wW m t<|oH<|vf A.2 B.2;have E:=wW n u<|oH<|BP A.2 B.2;obtain⟨Q,p⟩:=at_<|bZ (xy (bz (b9 _) D) zv) wV;obtain⟨i,v⟩:=at_<|bZ (xy (bz (b9 _) E) zv) wV;obtain⟨R,F⟩:=S7 m n t u p v;refine aO<|ek s<|oD m n G K (Oh z) t u p v<|S6<|w _ _<|rY.mk _ _ _ _ _ _ _ _ ?_<|.inr ?_
 .rwa [eT,anv,<-R]
 refine oC g1 g2 (Es m<|mT F) (Es n<|mT F) ?_ (P.resolve_left λl=>l.elim (λl=>aW g1<|bA.mpr l) λl=>aW g2<|bA.mpr l);obtain l|l:=EW Q.1 i.1
 .exact .inl<|bz (hT D)<|PK m p<|oH<|di (vh l).symm
 exact .inr<|bz (hT E)<|PK n v<|oH<|di (zu l).symm
abbrev zQ(xs a:List a_):Nat->Nat:=dB<|qg xs a
inductive vG(bK:aN)(xs ys:List a_):Nat->List D->aN->Prop
 |mk (k L j:Nat) (out:List a_) (u0 u3 ry rz fB:D) (eH:out++oX (zQ xs ys) L=ac (zQ xs ys)) (gB:k<=bu xs L\/xs.length<=bu xs L) (n6:∀a,xs[bu xs L]?=some a->j<=bu ys (a.2+1)):vG bK xs ys k (fW [60] xs ys bK.length (bu xs L) j u0 u3 ry rz fB) (jm bK out)
 |stop (k j:Nat) (u0 u3 ry rz fB:D):vG bK xs ys k (fW [60] xs ys bK.length xs.length j u0 u3 ry rz fB) (jm bK<|ac<|zQ xs ys)
def lt_if(l:br [bX Aa z9 [],bX (bh .In (af 0) (ah (.str [105,120,104,108]))) z_ []] a (fW [60] xs b c i d e f g h j) k m n):br F7 a (fW [60] xs b c i d e f g h j) k m n:=
 aO (kW (nF<|u6<|iP av)<|aO<|kW (iP av) l)
def HK(l:a .next (fW [60] xs b c i d e f g h j) k):br [bX (bh .In (af 0) (ah (.str [105,120,104,108]))) z_ []] m (fW [60] xs b c i d e f g h j) k a n:=aO<|kW (wY av) l
def dd:dz (bh .Lt (af 5) (yz 2)) c (fW l xs a d i b e f g h j) k (decide (b<H a)):=wX aq<|DS aq
def ag2(f:aj z a r b (.str [97+c]))(g:aj d a r b (.str [97+e])):aj (aR .Add z d) a r b (bV (c,e)):=jz f g λU h=>⟨dt,h⟩
def A4(f:dz c a r b true)(g:aj z a r b x):aj (gT c z d) a r b x:=λi e h=>f _ e<|g _ e h
def sN(f:dz c a r b false)(g:aj d a r b x):aj (gT c z d) a r b x:=λi e h=>f _ e<|g _ e h
def aet(w:bk xs)(x:bk a)(B:H xs<60)(E:H a<60)(F:H b<60)(G:q<=bu a (f.2+1))(y:xs[bu xs s]?=some f) (r:a[bu a (f.2+1)]?=some c) (z:xs[te xs c.1-1]?=some g) (k:t .next (fW l xs a (H d) (te xs c.1) (bu a (f.2+1)) h j m n p) (jm d (b++[(g.1,c.2)]))):br z9 (aB (u+2)) (fW l xs a (H d) (bu xs s) q h j m n p) (jm d b) t v:=by
 have A:=(Yc w x y r z).2.2.2;have ao:∀{h j m n p:D} {K:Nat},dz _ (aB<|u+2) (fW l xs a (H d) K _ h j m n p) (jm d b) true:=gb (fm.mp r).1▸dd;refine aO<|gx (H9 x E aq (qh<|q8 aq aq y) aq G) ?_;refine aO<|gx (A4 ao (pB vY (wA aq (uI<|q8 aq aq r) aq) (eg bc) λL v i=>Pk w rfl B Lg (bF A) i)) ?_;refine aO<|Iz aq iD (A4 ao<|jW<|eg<|ag2 (uI<|q8 aq (sP aq<|bz (b9 _) A) z)<|qh<|q8 aq aq r) ?_ ?_
 .exact J (aX ..)<|az (l7 F) aH
 rw[pH];have e:b.map bV++[bV (g.1,c.2)]=(b++[(g.1,c.2)]).map bV:=J dS rfl;rwa [e]
def aes(z:bk xs)(r:bk a)(t:H a<60)(u:H c<60)(v:m<=bu a (d.2+1))(w:xs[bu xs n]?=some d) (x:H a<=bu a (d.2+1)) (k:p .next (fW l xs a (H b) (H xs) (bu a (d.2+1)) e f g h j) (jm b c)):br z9 (aB (q+2)) (fW l xs a (H b) (bu xs n) m e f g h j) (jm b c) p s:=by
 have ao:∀{e f g h j:D} {y:Nat},dz _ (aB<|q+2) (fW l xs a (H b) y _ e f g h j) (jm b c) false:=eS (bA.mpr x)▸dd;refine aO<|gx (H9 r t aq (qh<|q8 aq aq w) aq v) ?_;refine aO<|gx (sN ao<|DS aq) ?_;refine aO<|Iz aq iD (sN ao<|jW cO) ?_ ?_
 .exact J (aX ..)<|az (bF u) aH
 rwa [pH,dR]
def uc(b:k<=a):eN a (k:Int)=k:=by
 unfold eN;exact J (cE<|xe.mpr<|kE k)<|J (QG<|lZ.mpr b) rfl
def A2(a:List y)(b c:Option Int):pick a b c none=(a.drop (b.elim 0 (eN (H a)))).take (c.elim (H a) (eN (H a))-b.elim 0 (eN (H a))):=by
 unfold pick;rw[aoo,sliceRange_one];have:=pick_run a.toArray (b.elim 0<|eN<|H a)<|c.elim (H a) (eN<|H a)-b.elim 0 (eN<|H a);rwa [funext (λd=>gY)] at this
def pick_from{a:List y}(b:i<=H a):pick a (some (i:Int)) none none=a.drop i:=by
 rw[A2];show(a.drop<|eN (H a) i).take (H a-eN (H a) i)=_;exact J (uc b)<|J (ET<|xr▸aS _) rfl
def X6{a:List y}(b:i<=H a):pick a none (some (i:Int)) none=a.take i:=by
 rw[A2];show(a.drop 0).take (eN (H a) i-0)=_;exact J (uc b) rfl
def X5{a:List y}(b:i<=H a)(c:N<=H a):pick a (some (i:Int)) (some (N:Int)) none=(a.drop i).take (N-i):=by
 rw[A2];show(a.drop<|eN (H a) i).take (eN (H a) N-eN (H a) i)=_;exact J (uc b)<|J (uc c) rfl
def OR(e:bx a b=.lst c)(d)(f:d c):uO a b d:=by
 show cT.casesOn _ _ _ _ _ _ _;rwa [e]
def Yj(f:aj z b r a d)(g:aj e b r a (.int i))(aU:bx a d=.lst c)(h:i<=H c):aj (eu false z e bM bM) b r a (.lst (c.drop i)):=
 sQ f g iM iM λl j=>⟨(λk=>nomatch k),OR aU _<|pick_from h▸j⟩
def eq_nil(b)(k)(d:k b.isEmpty):jt .Eq a (.lst b) (.lst []) k:=by
 refine⟨?_,λc=>?_,λc=>?_⟩
 .cases b with
  |nil=>trivial
  |cons=>trivial
 .cases b with
  |nil=>exact d
  |cons x b=>exact aW c λc=>nomatch c
 cases b with
 |nil=>exact aW rfl c
 |cons x b=>exact d
def akQ(h:dz z c r d a)(i:a=false->dz e c r d b)(j:a=true->b=true):dz (p_ [z,e]) c r d b:=λk f g=>h _ f (by
 cases a with
 |true=>rwa [j rfl] at g
 |false=>exact i rfl _ f (by cases b<;>exact g))
inductive KJ(bK:aN)(xs ys:List a_):Nat->List D->aN->Prop
 |mk (k:Nat) (out:List a_) (u0 u3 ry rz fB:D) (eH:bk out) (gB:dB out=dB (xs++ys.take k)):KJ bK xs ys k (fW [124] xs ys bK.length 0 0 u0 u3 ry rz fB) (jm bK out)
def afD(l:a .next (fW [124] xs b c i d e f g h j) k):br [bX Aa z9 [],bX (bh .In (af 0) (ah (.str [105,120,104,108]))) z_ []] m (fW [124] xs b c i d e f g h j) k a n:=
 aO (kW (nF<|u6<|iP av)<|aO<|kW (wY av) l)
def bk.W5:∀{b:Nat},bk c->(∀a∈c,b<=a.1)->b<=7->H c<=7-b:=by
 induction c with
 |nil=>exactλU U U=>b9 _
 |cons a c h=>
  intro b d i m;obtain⟨j,l⟩:=rK.mp d.o;have g:=bz (d.w a<|.head _).1 (d.w a<|.head _).2;have k:=h ⟨l,λe f=>d.w e<|.tail _ f⟩ (λe f=>(j e f).1) g;exact l7<|bz k<|bZ (Q5 g<|f6 _)<|h1 (i a<|.head _) 7
def bk.g5(b:bk a):H a<60:=bz (b.W5 (λU U=>b9 _)<|b9 _) av
def H8(k:aj z (aB (b+2)) r a d)(l:aj e (aB (b+2)) r a f)(m:∀c h,c (.int i) a->aB (b+2) 74 [d,f] [("key",.g j)] a c h):aj (aP (ah (.g 74)) [z,e] (v9 j) ["key"]) (aB (b+2)) r a (.int i):=pB vY (c_ k l) (eg bc) m
def afF(i:bk b)(k:n .next (fW l xs d (H c) 0 0 (bV a) f g (.int (bu b a.1)) h) (jm c (bif o5 b a then uB b a else b))):br K4 (aB (m+2)) (fW l xs d (H c) 0 0 (bV a) f g p h) (jm c b) n j:=by
 have aU:bx (jm c b) _=.lst _:=jl iD;refine aO<|gx (H8 aq (uI aq) λt j a=>ZS i aU i.g5 CA (b9 _) a) ?_;have v:bu b a.1<=(b.map bV).length:=J (aX ..)<|wU;refine aO<|ek (u:=o5 b a) (akQ (iY (Yj aq aq aU v) (jW cO)<|eq_nil _) (λq=>?_) λq=>?_) ?_
 .rcases e:b[bu b a.1]? with _|r
  .rw[hp<|J (aX ..)<|EI.mp e] at q;contradiction
  have aA:o5 b a=decide (a.2<r.2):=by unfold o5;exact J e rfl
  refine J aA<|iY (qh<|uK aq aq aU<|iW e) (qh aq) λk q=>?_
  show k<|strLt [97+a.2] [97+r.2];rwa [oi]
 .have e:=EI.mpr (by
   have:=QK.mp<|jM.mp q;rwa [aX] at this)
  unfold o5;exact J e rfl
 rcases e:o5 b a with _|_
 .rwa [e] at k
 rw[e] at k;have w:aj (aP _ [af 3,aT (af 6) _] _ ["key"]) (aB<|m+2) (fW l xs d (H c) 0 0 (bV a) f g (.int<|bu b a.1) h) _ _:=H8 aq (qh aq) λt j a=>Pk i aU i.g5 CA (b9 _) a
 have x:aj (aP _ [af 3,aT (af 6) _] _ ["key"]) (aB<|m+2) (fW l xs d (H c) 0 0 (bV a) f g (.int<|bu b a.1) h) _ _:=pB um (c_ aq<|uI aq) (eg bc) λt j a=>ZT i aU i.g5 CA (b9 _) a
 refine w _ _<|x _ _ ?_;show bI.casesOn _ _ _ _ _;refine J (ez iD)<|⟨?_,?_⟩
 .exact J (aX ..)<|az (l7 i.g5) aH
 rw[pH];have bL:pG (b.map bV) (some<|te b a.2) (some<|bu b<|a.1+1) [bV a]=(uB b a).map bV:=by
  unfold pG uB;show(b.map bV).take (eN (b.map bV).length _)++[bV a]++(b.map bV).drop (max (eN (b.map bV).length _)<|eN (b.map bV).length _)=_;rw[uc (by exact J (aX ..)<|wV),uc (by exact J (aX ..)<|wU),EX (bA.mp λq=>by
   obtain⟨r,s⟩:=at_<|bZ q wV;exact aW (M1 i e (eU s) (oF (i.r9 s (aS _)))) (bA.mpr (bF (bk.GJ s q)))),dS,dS,ER,EP]
  rfl
 rwa [bL]
def kP(c:Bool)(b:List a_)(a:a_):Bool:=b7 (b[bif c then te b a.2 else bu b a.1]?) false λd=>bif c then decide (d.1<=a.1) else decide (d.2<=a.2)
noncomputable def anyB(c:Bool)(d:List a_)(a:a_):Bool:=d.any λb=>bif c then decide (b.1<=a.1)&&decide (a.2<=b.2) else decide (a.1<=b.1)&&decide (b.2<=a.2)
def afz{c:a_->Bool}:b7 o false c=true↔∃a,o=some a/\c a=true:=by
 obtain _|a:=o
 .exact⟨(λb=>nomatch b),λb=>b.elim λU b=>nomatch b.1⟩
 exact⟨λb=>⟨a,rfl,b⟩,λb=>b.elim λU b=>(bY b.1)▸b.2⟩
def abo(d:bk a):kP b a c=anyB b a c:=by
 refine zd.mpr<|afz.trans<|BD ?_ hj.symm;cases b with
 |true=>exact BD (exists_congr λe=>and_congr_right λU=>decide_eq_true_iff)<|(acf d).trans (exists_congr λf=>and_congr_right λU=>((bl ..).to_iff.trans<|and_congr decide_eq_true_iff decide_eq_true_iff).symm)
 |false=>exact BD (exists_congr λe=>and_congr_right λU=>decide_eq_true_iff)<|(aa5 d).trans (exists_congr λf=>and_congr_right λU=>((bl ..).to_iff.trans<|and_congr decide_eq_true_iff decide_eq_true_iff).symm)
def adZ(b c):(!strLt [97+c] [97+b])=decide (b<=c):=by
 rw[oi];cases pV c b with
 |inl a=>exact J (gb a)<|J (eS<|gO.mpr a) rfl
 |inr a=>exact J (eS<|bA.mpr a)<|J (gb a) rfl
def Yp(f:aj z a r b (.str [97+c]))(g:aj e a r b (.str [97+d])):aj (bh .LtE z e) a r b (.bool (decide (c<=d))):=wz f g λk h=>by
 show k<|!strLt [97+d] [97+c];rwa [adZ]
def Yl(e:aj z a r b (.str l))(f:aj c a r b (.str d)):aj (bh .In z c) a r b (.bool (lS l d)):=wz e f λU g=>g
noncomputable def uj(a:D):Bool:=D.casesOn (motive_1:=λU=>Bool) a false false id (λU=>false) (λU=>false) (λU=>false) (λU=>false) (λU=>false) (λU=>false) λU U U U=>false
def UW(c d)(k)(f:k (c==d)):jt .Eq a (.bool c) (.bool d) k:=by
 refine⟨aQ,λb=>?_,λb=>?_⟩
 .have b:c=d:=aZ uj b;rwa [b,beq_self_eq_true] at f
 rwa [jO λe=>b<|aZ D.bool e] at f
def DQ(h:aj z b r c (.bool a))(i:a=true->aj d b r c (.bool e)):aj (jQ [z,d]) b r c (.bool (a&&e)):=λj f g=>h _ f (by
 cases a with
 |true=>exact i rfl _ f g
 |false=>exact g)
def ahe(d:aj z b r c (.lst a)):aj (bh .NotEq z (b8 false [])) b r c (.bool (!a.isEmpty)):=wz d (jW cO) λk e=>eq_nil a (λf=>k<|!f) e
def Dp(c:Bool)(a:List a_)(b:a_):Nat:=bif c then te a b.2 else bu a b.1
def ac2:Dp a b c<=H b:=by
 cases a with
 |true=>exact wV
 |false=>exact wU
def acj(r:bk b)(x:lS l [105,120]=c)(w:lS l [105,104]=j)(y:H m<60)(k:∀g h,s .next (fW l xs b (H f) 0 0 (bV a) n p g h) (jm f (m++bif kP c b a==j then[a] else[]))):br z_ (aB (t+2)) (fW l xs b (H f) 0 0 (bV a) n p g h) (jm f m) s q:=by
 have IZ:∀{g h:D},dz Cv (aB<|t+2) (fW l xs b (H f) 0 0 (bV a) n p g h) (jm f m) c:=wY x;refine aO<|gx (d:=.int<|Dp c b a) (q6 IZ (λe=>?_) λe=>?_) ?_
 .exact J e<|H8 aq (qh aq) λz q a=>Pk r rfl r.g5 CA (b9 _) a
 .exact J e<|H8 aq (uI aq) λz q a=>ZS r rfl r.g5 CA (b9 _) a
 have A:Dp c b a<=(b.map bV).length:=J (aX ..)<|ac2;refine aO<|gx (d:=.bool<|kP c b a) ?_ ?_
 .have B:kP c b a=(!((b.map bV).drop<|Dp c b a).isEmpty&&kP c b a):=by
   rcases u:((b.map bV).drop _).isEmpty with _|_
   .rfl
   have:=QK.mp (jM.mp u);rw[aX] at this;unfold kP;exact J (show b[bif c then te b a.2 else bu b a.1]?=none from EI.mpr this) rfl
  refine J B<|DQ (ahe<|Yj aq aq rfl A) λu=>?_
  have E:=gO.mp λF=>by
   rw[hp<|J (aX ..)<|F] at u;contradiction
  obtain⟨v,i⟩:=at_ E;have ao:kP c b a=bif c then decide (v.1<=a.1) else decide (v.2<=a.2):=by
   unfold kP;exact J (show b[bif c then te b a.2 else bu b a.1]?=some v from i) rfl
  refine J ao<|q6 IZ (λe=>?_) λe=>?_
  .rw[e];rw[e] at i;exact Yp (uI<|q8 aq aq i)<|uI aq
  rw[e];rw[e] at i;exact Yp (qh<|q8 aq aq i)<|qh aq
 have k:=k (.int<|Dp c b a) (.bool<|kP c b a);refine aO<|Iz aq iD (es:=(bif kP c b a==j then[a] else[]).map bV) (q6 (iY aq (Yl aq bc)<|UW _ _) (λe=>?_) λe=>?_) ?_ ?_
 .rw[w] at e;exact J e<|jW<|eg aq
 .rw[w] at e;exact J e<|jW cO
 .refine J (aX ..)<|az (d9 (bF y) (d:=1) ?_) aH;obtain _|_:=kP c b a==j
  .exact b9 1
  exact aS 1
 rwa [pH,<-dS]
inductive zZ(bK:aN)(s:List Nat)(u w:Bool)(xs ys:List a_):Nat->List D->aN->Prop
 |mk (k:Nat) (u0 u3 ry rz fB:D):zZ bK s u w xs ys k (fW s xs ys bK.length 0 0 u0 u3 ry rz fB) (jm bK ((xs.take k).filter λq=>kP u ys q==w))
structure Fz(s:List Nat)(u w:Bool):Prop where
 eH:decide (s=[38])=false
 gB:decide (s=[124])=false
 n6:decide (s=[60])=false
 uv:lS s [105,120,104,108]=true
 uw:lS s [105,120]=u
 hw:lS s [105,104]=w
def acg(q:bk xs)(s:bk b)(i:Fz l c d)(t:xs[k]?=some a) (u:zZ h l c d xs b k r j) (v:∀f g,zZ h l c d xs b (k+1) f g->m .next f g):iU false [6] (bV a) r λn=>br F7 (aB (p+2)) n j m cI:=by
 cases u with
 |mk z A B w x=>
  have y:((xs.take k).filter λa=>kP c b a==d).length<60:=bz (az (EM _ _)<|JM ..) q.g5;refine aO<|kW (nF<|u6<|iP i.eH)<|aO<|kW (iP i.gB)<|aO<|kW (nF<|u6<|iP i.n6)<|aO<|ek (wY i.uv) (acj s i.uw i.hw y λw x=>dZ<|v _ _ ?_);have e:((xs.take k).filter λa=>kP c b a==d)++(bif kP c b a==d then[a] else[])=(xs.take<|k+1).filter λa=>kP c b a==d:=by
   have aA:(bif kP c b a==d then[a] else[])=[a].filter λa=>kP c b a==d:=by
    rw[oE];cases kP c b a==d<;>rfl
   exact J QY<|J t<|J (ht ..) rfl
  exact J e<|zZ.mk _ _ _ _ _ _
def g4(s:List Nat)(xs a:List a_):List a_:=bif decide (s=[38]) then ac (rS xs a) else bif decide (s=[124]) then ac (dB<|xs++a) else bif decide (s=[60]) then ac (zQ xs a) else xs.filter λb=>anyB (lS s [105,120]) a b==lS s [105,104]
def Hx{f:Bool}(g:aj (gT a z b) c r d (.lst e)):gQ (gT a z b) c f r d e yes:=λk h i=>g (λj l=>j0 l j k) h i
def wk(f:aj z a r b (.lst c))(g:aj e a r b (.lst d))(h:H c+H d<=lim):aj (aR .Add z e) a r b (.lst (c++d)):=jz f g λU i=>⟨h,i⟩
abbrev OI(s:List Nat)(xs a:List a_):List D:=[.str s,iN xs,iN a,.ai,.ai,.ai,.ai,.ai,.ai,.ai,.ai]
def Zk(i:dz d a r b u)(h:pD is ((bif u then z else e)::f) a r b g c):pD is (gT d z e::f) a r b g c:=by
 refine i _ c ?_;obtain _|_:=u
 .exact h
 exact h
def M3(f:decide (l=[124])=false)(g:b .next (fW l xs c (H a) 0 0 .ai .ai .ai .ai .ai) (jm a [])):F8 d (OI l xs c) a b e:=Zk (iP f) g
def acm(f:b .next (fW [124] xs c (H a) 0 0 .ai .ai .ai .ai .ai) (jm a xs)):F8 d (OI [124] xs c) a b e:=Zk (u:=true) (iP av) ⟨rfl,rfl,f⟩
def PG:bu xs 0=0:=Nat.eq_zero_of_not_pos λa=>by
 obtain⟨c,b⟩:=at_<|bZ a wU;exact aW (bk.p7 b a)<|JV _
def rY.start:rY bK xs ys 0 (fW [38] xs ys (H bK) 0 0 .ai .ai .ai .ai .ai) (jm bK []):=by
 have:=rY.mk (bK:=bK) (xs:=xs) (ys:=ys) 0 0 [] .ai .ai .ai .ai .ai rfl<|.inr<|J (Q0 ..)<|d9 (l6 _ _)<|l6 _ _;rwa [PG,PG] at this
def give(p:fU (H a) a)(q:b (iN c) a):jq [fj (p9 3)] d (pZ MX a b) e .next (fW l xs f (H a) i g h j k m n) (jm a c):=by
 show bI.casesOn _ _ _ _ _;rw[ez iD];show fin false (H a) _ _ b;exact J pH<|GX (t8 bV (λU=>aQ) c) p q
def Te{d:List a_}(c:(d.map bV)[i]?=some b):∃a,d[i]?=some a/\b=bV a:=by
 rw[d8] at c;exact(iQ.mp c).imp λa c=>⟨c.1,c.2.symm⟩
def Gb{ds:List D}(j:∀{b:D},b∈ds->True)(i:br Ln (aB c) (OI l xs d) a (pZ MX a e) λf g=>ko (H a) f g h):aB (c+1) 433 [.str l,iN xs,iN d] [] a e h:=call rfl rfl rfl ⟨aH,aH,i⟩
def oL(g:bk xs)(h:bk b)(n:fU (H a) a)(j:c (iN (ac (rS xs b))) a):aB (d+3) 433 [.str [38],iN xs,iN b] [] a c f:=by
 refine Gb (ds:=[]) (λU=>aQ) (Gj▸aO (M3 av (aO (lB (Hx (A4 (iP av) (wk aq aq (by
  exact J (aX ..)<|J (aX ..)<|az (d9 (bF g.g5) (bF h.g5)) aH)))) (As (rY a xs b) _ (λu v p q U l k r=>oy g h g.g5 h.g5 l r) (λU U U U=>aQ) (λp q l=>?_) _ _ rY.start)))))
 rw[bq,aX,aX] at l;cases l with
 |mk s w x y z A B m t=>
  have e:=(have i:=(t.elim id λi=>.inl (anE (Nat.eq_zero_of_add_eq_zero (anG.mp (anD (by rwa [i8])))).1));K8 (C2 g h) (by
   refine pU ((C2 g h).le s) ?_;obtain i|i:=i
   .exact az (di (g.XC i).symm)<|vf _ _
   exact az (di (h.XC i).symm) (BP _ _)))
  rw[e,dR] at m;exact J m<|give n j
def oT(f:bk xs)(d:bk ys)(E:fU (H bK) bK)(g:a (iN (ac (zQ xs ys))) bK):aB (b+3) 433 [.str [60],iN xs,iN ys] [] bK a c:=by
 refine Gb (ds:=[]) (λU=>aQ) (Gj▸aO (M3 av (aO (lB (Hx (sN (iP av) (sN (iP av) aq))) (As (vG bK xs ys) _ (λF R N t U h k n=>by
  have u:∀{F l:Nat} {x p q r s:D} {t:aN},dz Aa (aB<|b+2) (fW [60] xs ys (H bK) F l x p q r s) t _:=nF<|Ey (iP av)<|lV<|wX aq<|DS aq;cases h with
  |stop l G p q r s=>exact lt_if<|aO<|kW (eS (oG<|H xs)▸u)<|HK<|n _ _<|vG.stop _ l _ _ _ _ _
  |mk K l v G p q r s i w y=>
   obtain m|m:=pV _<|H xs
   .obtain⟨L,j⟩:=at_ m;have M:=y L j;refine lt_if<|aO<|ek (gb m▸u) ?_;obtain g2|g2:=pV _<|H ys
    .obtain⟨S,z⟩:=at_ g2;obtain⟨h,h⟩:=at_<|bZ (xy (bz (b9 _)<|wW f j<|d.r9 z<|aS _) zv) wV;refine tZ (Yc f d j z h) λO T P A=>(aet f d f.g5 d.g5 (Oh i) M j z h<|HK<|n _ _ ?_)
     rw[P] at A⊢;refine vG.mk _ _ _ _ _ _ _ _ _ (by rwa [eT,anv,<-O]) (.inl ?_) λV Q=>Es d<|iI<|bF (f.at j Q A).2
     exact w.elim (λB=>l7<|bz B A) λB=>aW m<|bA.mpr B
    have e:=X_ f d (.inr ⟨L,j,g2⟩);have aA:v=ac (zQ xs ys):=bH i<|J e<|J (dR ..) rfl;exact aes f d d.g5 (Oh i) M j g2<|HK<|n _ _<|aA▸vG.stop _ _ _ _ _ _ _
   exact lt_if (aO (kW (eS (bA.mpr m)▸u) (HK (n _ _ (vG.mk _ K l v _ _ _ _ _ i (.inr m) y)))))) (λU U U U=>aQ) (λN t h=>?_) _ _ ?_)))))
 .rw[aX] at h;cases h with
  |stop=>exact give E g
  |mk K l v G p q r s i w y=>
   rw[X_ f d<|.inl<|w.elim id id,dR] at i;exact J i<|give E g
 have:=vG.mk (bK:=bK) (xs:=xs) (ys:=ys) 0 0 0 [] .ai .ai .ai .ai .ai rfl (.inl<|b9 _) λU U=>b9 _
 rwa [PG] at this
def o1(m:bk xs)(n:bk a)(p:fU (H b) b)(g:c (iN (ac (dB (xs++a)))) b):aB (d+3) 433 [.str [124],iN xs,iN a] [] b c f:=by
 refine Gb (ds:=[]) (λU=>aQ)<|Gj▸aO (acm<|aO<|lB (Hx<|sN (iP av)<|A4 (iP av) aq)<|As _ _ (λD E q r e h k s=>?_) (λU U U U=>aQ) (λq r h=>?_) _ _<|KJ.mk 0 xs _ _ _ _ _ m<|J List.take_zero<|J (dR ..) rfl)
 .refine aG (Te e) λg ao t=>?_;subst t
  exact by
   cases h with
   |mk l v w x y z i j=>
    obtain⟨A,B⟩:=afE i (n.w g<|eU ao) j;refine aO<|kW (nF<|u6<|iP av)<|aO<|ek (iP (u:=true) av)<|afF i<|afD<|s _ _<|KJ.mk _ _ _ _ _ _ _ A ?_;exact J B<|J QY<|J ao<|J (eT ..) rfl
 rw[aX] at h;cases h with
 |mk l v w x y z i j=>
  rw[zm] at j;have e:ac (dB<|xs++a)=l:=bH j<|i.n0;rw[e] at g;exact give p g
def oP(p:bk xs)(n:bk b)(j:Fz l d c)(q:fU (H a) a)(i:f (iN (xs.filter λi=>anyB d b i==c)) a):aB (g+3) 433 [.str l,iN xs,iN b] [] a f h:=by
 refine Gb (ds:=[]) (λU=>aQ)<|Gj▸aO (M3 j.gB<|aO<|lB (Hx<|sN (iP j.eH)<|sN (iP j.gB) aq)<|As (zZ a l d c xs b) _ (λv w r s e m k t=>?_) (λU U U U=>aQ) (λr s m=>?_) _ _<|zZ.mk 0 _ _ _ _ _)
 .refine aG (Te e) λi ao u=>?_;subst u
  exact acg p n j ao m t
 rw[aX] at m;cases m with
 |mk x y z A B=>
  exact J zm<|J (funext λi=>aZ (· ==c)<|abo n)<|give q i
noncomputable def fV(a:a_):D:=.tup [.int a.1,.int a.2]
abbrev bU(a:List a_):D:=.lst<|a.map fV
def L9(a b:Nat):decide ((a:Int)<=(b:Int))=decide (a<=b):=decide_eq_decide.mpr lZ
def A7(d:aj z a r b (.int N))(e:aj c a r b (.int i)):aj (bh .LtE z c) a r b (.bool (decide (N<=i))):=wz d e λk f=>by
 show k<|decide _;rwa [L9]
def jA{e:X}(xs:List y)(b)(c)(d:y->List D)(f:gQ a cf bt r W (xs.map b) ok)(g:ok W)(h:∀x∈xs,Cl bt is (b x) (clear cN r) (d x))(i:∀x∈xs,aj e cf (d x) W (c x))(j:H xs<=lim):aj (c5 false cN bt is a [] [] e) cf r W (.lst (xs.map c)):=by
 have:=wo xs b (λU=>true) c d f g h (λU U=>Bu) (λx k U=>i x k) j;rwa [EF.mpr λU U=>rfl] at this
def Yg{c:List Bool}(d:aj z a r b (.lst (c.map .bool))):aj (aP (ah (.g 1004)) [z] [] []) a r b (.bool (c.any id)):=λh e f=>d _ e ⟨c,rfl,f⟩
def agP{c:List Bool}(d:aj z a r b (.lst (c.map .bool))):aj (aP (ah (.g 1005)) [z] [] []) a r b (.bool (c.all id)):=λh e f=>d _ e ⟨c,rfl,f⟩
def kr{tp:Bool}(c:aj (af i) a r W (.lst b)):gQ (af i) a tp r W b yes:=λk d e=>c (λf g=>j0 g f k) d e
def zip_map(b c)(a:List y):rG (a.map b) (a.map c)=a.map λx=>.tup [b x,c x]:=by
 induction a with
 |nil=>rfl
 |cons x a d=>exact aZ _ d
def Wv{e f:y->D}{d:List y}(i:aj z b r a (.lst (d.map e)))(j:aj c b r a (.lst (d.map f))):gQ (aP (ah (.g 1014)) [z,c] [] []) b true r a (d.map λx=>.tup [e x,f x]) yes:=λk h l=>⟨rfl,rfl,i _ h (j _ h (by
 show k _ _ a;rwa [zip_map]))⟩
def uV(a:N<1000):jj (N:Int):=⟨xd av<|kE N,nI.mpr<|fF a av⟩
def AI{e:Bool}(f:aj z b r c (.int N))(d:N<1000):gQ (aP (ah (.g 1012)) [z] [] []) b e r c ((b6 N).map λa=>.int (a:Nat)) yes:=λk h i=>f _ h (by
 have ao:A9 0 N 1=(b6 N).map λa=>.int a:=by
  show(b6 ((N:Int)-0).toNat).map (λ(k:Nat)=>D.int _)=_;exact J (amY ..)<|qu λa U=>aZ D.int<|JG _
 refine⟨uV d,⟨av,av⟩,uV d,.inl rfl,?_,?_⟩
 .exact J ao<|J (aX ..)<|J kF<|az (bF d) aH
 rwa [ao])
def yL{e:X}{i:Type}(xs:List y)(f:y->List i)(ao:y->D)(aA:i->D)(h:y->i->Bool)(j:y->i->D)(n:y->List D)(p:y->i->List D)(t:gQ c b b1 r W (xs.map ao) ok)(u:ok W)(v:∀x∈xs,Cl b1 AF (ao x) (clear cN r) (n x))(w:∀x∈xs,gQ Dn b b2 (n x) W ((f x).map aA) d)(z:d W)(A:∀x∈xs,∀a∈f x,Cl b2 AG (aA a) (n x) (p x a))(B:∀x∈xs,∀a∈f x,qG ifs b (p x a) W (h x a))(E:∀x∈xs,∀a∈f x,h x a=true->aj e b (p x a) W (j x a))(K:(xs.flatMap λx=>((f x).filter (h x)).map (j x)).length<=lim):aj (c5 false cN b1 AF c [] [(b2,AG,Dn,ifs)] e) b r W (.lst (xs.flatMap λx=>((f x).filter (h x)).map (j x))):=Yk t λk L=>by
 refine NX ao (λx=>((f x).filter<|h x).map<|j x) u xs [] (λx l acc k s m=>?_) ?_ ?_
 .refine OS (v x l) Bu (λU=>?_) λg=>nomatch g
  refine w x l (λF ok G=>o8 ok _ F acc G k) cI<|NX aA (λa=>bif h x a then[j x a] else[]) z _ acc (λa q acc k s m=>?_) ?_ ?_
  .refine OS (A x l a q) (B x l a q) (λg=>Vr (E x l a q g) ?_ ?_) λg=>?_
   .rwa [g] at s
   .rwa [g] at m
   rw[g] at m;rw[cond_false,dR] at m;exact m
  .rwa [GZ]
  rwa [GZ]
 .rwa [rJ,i8]
 rwa [JQ]
def To:Gk=[bX LV UE [],cA 11 LY,cA 12 (b8 true []),gv false [13] (aP (ah (.g 1012)) [aR .Add (af 3) (ah (.int 1))] [] []) CT [],fj CS]:=au
abbrev rg(s:List Nat)(xs a:List a_)(b c d e f g h i j k l:D):List D:=[.str s,bU xs,bU a,.int (7:Nat),b,c,d,e,f,g,h,i,j,k,l]
def Dz{a:List a_}(b:H a<60):H a<=lim:=az (bF b) aH
def agY(r:H b<60)(u:lS l [105,120]=c):aj (aP (ah (.g 1004)) [L0] [] []) p (rg l xs b d q (.int a.1) (.int a.2) s f h j k m n) t (.bool (anyB c b a)):=by
 have v:aj L0 p (rg l xs b d q (.int a.1) _ s f h j k m n) t (.lst (b.map λi=>.bool (bif c then decide _&&decide _ else decide _&&decide _))):=
  jA b fV _ (λi=>rg l xs b d _ _ (.int a.2) _ f h j k m n) (kr aq) trivial (λU U U a=>a) (λi U=>q6 (wY u) (λe=>by
   exact J e<|DQ (A7 aq aq) λU=>A7 aq aq) λe=>by
   exact J e<|DQ (A7 aq aq) λU=>A7 aq aq) (Dz r)
 have w:=Yg<|dM▸v;rwa [hk] at w
noncomputable def ya(b e:Nat)(c:List a_):Bool:=c.any λa=>decide (b<=a.1)&&decide (a.2<=e)
def Bc(a:List (List a_))(b e:Nat):Bool:=a.all<|ya b e
abbrev ri(s:List Nat)(xs a:List a_)(b:List (List a_))(c:aN)(d:D):List D:=rg s xs a .ai .ai .ai .ai .ai .ai .ai (.lst (b.map λe=>bU e)) (.loc<|H c) d .ai
noncomputable abbrev wE(a:aN)(b:List D):aN:=a++[.lst b]
def Lj:(r++[a])[H r]?=some a:=EH
def Ia(e:aj (af 12) c r (wE a b) (.loc (H a)))(f:aj (af 13) c r (wE a b) (.int i))(g:b[i]?=some d):aj (aT (af 12) (af 13)) c r (wE a b) d:=uK e f (jl iD) g
def any_map':(b.map λa=>decide (i<=a.1)&&decide (a.2<=c)).any id=ya i c b:=hk
def agW{s:List Nat}(f:H b<=lim)(g:∀c∈b,H c<=lim)(h:a[i]?=some (.int d)):aj UD cf (ri s xs ys b bK (.int i)) (wE bK a) (.lst ((b.map (ya i d)).map .bool)):=by
 refine J dM<|jA b (λa=>bU a) _ (λc=>rg s xs ys .ai .ai .ai .ai .ai .ai .ai (.lst (b.map λa=>bU a)) _ _ _) (kr aq) trivial (λU U U e=>e) (λc j=>?_) f;show aj _ _ _ _<|.bool _;refine bH any_map'<|Yg ?_;exact J dM<|jA c fV _ (λk=>rg s xs ys .ai .ai _ _ .ai .ai .ai (.lst (b.map λa=>bU a)) _ _ _) (kr aq) trivial (λU U U e=>e) (λk U=>DQ (A7 aq aq) λU=>A7 aq<|Ia aq aq h)<|g c j
def akI{l}{s:List Nat}(f:H a<=lim)(g:∀c∈a,H c<=lim)(e:l[i]?=some (.int b)):dz lN cf (ri s xs ys a bK (.int i)) (wE bK l) (decide (b<7)&&!Bc a i b):=by
 refine nF (I8 (wX (Ia aq aq e) aq) λU=>lV<|df ?_);have:=agP<|agW (cf:=cf) (s:=s) (xs:=xs) (ys:=ys) (bK:=bK) f g e;rw[am5] at this;exactλk h d=>this (λj m=>mR cf j m k) h d
def ZE{a:List y}{x b:y}:(a++[x]).set (H a) b=a++[b]:=J (hI _ _<|aS _)<|J (JY ..) rfl
def W4{a:List y}{x:y}:H a<(a++[x]).length:=J bq<|f6 _
def inc{h:eX}(i:h .next (ri l xs d e b (.int (H a))) (wE b (a++[.int (c+1:Nat)]))):D_ (af 12) (af 13) .Add (ah (.int 1)) f (ri l xs d e b (.int (H a))) (wE b (a++[.int c])) h g:=by
 show bI.casesOn _ _ _ _ _;rw[ez iD];show opt ((iA _ (a++[D.int c]).length).bind _) _;rw[sV W4];show opt (_[H a]?) _;refine J Lj<|⟨rfl,?_⟩;show bI.casesOn _ _ _ _ _;rw[ez iD];show opt _ _;rw[sV W4];show h .next _ _;rwa [pH,ZE]
def NM{l}{s:List Nat}(n:H b<=lim)(p:∀c∈b,H c<=lim)(q:N<=7)(k:∀a,a<7->(Bc b i a=true↔N<=a))(r:H l=i)(u:d .next (ri s xs ys b bK (.int i)) (wE bK (l++[.int N])))(e):∀a,a<=N->N<a+e->tB (lN cf) (br UH cf) e (ri s xs ys b bK (.int i)) (wE bK (l++[.int a])) d:=by
 subst r;induction e with
 |zero=>exactλa j m=>aW (bZ m j)<|oG _
 |succ e t=>
  intro a j m;refine ew (akI (cf:=cf) (s:=s) (xs:=xs) (ys:=ys) (bK:=bK) (l:=l++[.int a]) n p Lj) (λf=>?_) λf=>?_
  .have ao:=pU j (bA.mp λg=>by
    have h:=bZ g q;rw[gb h,Qs,ams] at f;exact aW ((k a h).mp f) (gO.mpr g))
   rwa [ao]
  obtain⟨g1,g2⟩:=(bl ..).mp f;have h:=gO.mp λg=>by
   rw[(k a<|eB g1).mpr g] at g2;contradiction
  exact aO<|inc<|t _ h<|by rwa [gE,h_ 1 e]
noncomputable abbrev ug(a:Nat->Nat)(k:Nat):List D:=(b6 k).map λb=>.int (a b:Nat)
inductive Ck(s:List Nat)(xs ys:List a_)(P:List (List a_))(bK:aN)(E:Nat->Nat):Nat->List D->aN->Prop
 |mk (k:Nat) (akf:D):Ck s xs ys P bK E k (ri s xs ys P bK akf) (wE bK<|ug E k)
def N0:ug a (k+1)=ug a k++[.int (a k:Nat)]:=by
 unfold ug;exact J ES<|J dS rfl
def UO:(ug a k).length=k:=J (aX ..)<|J kF rfl
def M'(u:H b<=lim)(v:∀h∈b,H h<=lim)(s:∀a,c a<=7)(w:∀a,a<8->a<=c a)(x:∀a d,d<7->(Bc b a d=true↔c a<=d))(t:k<8)(y:Ck l xs j b m c k r n)(z:∀e f,Ck l xs j b m c (k+1) e f->g .next e f):iU false [13] (.int k) r λp=>br CT q p n g cI:=by
 cases y with
 |mk A=>
  show br CT q _ _ g cI;refine aO<|sU aq iD aq ?_ ?_
  .exact J UO<|az (l7 t) aH
  refine J pH<|aO (NM u v (s k) (x k) UO ?_ turns k (w k t)<|bz (s k)<|bZ av<|fS turns k);have:=z _ _<|Ck.mk _<|.int k;rw[N0] at this;exact this
def n1(b):((b6 7).filter λa=>decide (b a<b (a+1))).map (λa=>(a,b a))=ac b:=by
 have e:∀k c,((jn c k).filter λa=>decide (b a<b (a+1))).map (λa=>(a,b a))=p6 b k c:=λk=>by
  induction k with
  |zero=>exactλU=>rfl
  |succ k d=>
   intro c;rw[JR,oE,Ab];obtain _|_:=decide _
   .exact d _
   exact aZ _<|d _
 exact J QW<|e 7 0
def L_(b:i<k):(ug a k)[i]?=some (.int (a i:Nat)):=by
 exact J d8<|J (EJ b) rfl
def agX(h)(k:r=ri l xs b c a d):aj CS cf r (wE a (ug h 8)) (bU (ac h)):=by
 subst k;have m:=wo (cf:=cf) (r:=ri l xs b c a d) (W:=wE a<|ug h 8) (cN:=[13]) (bt:=false) (is:=[13]) (it:=aP _ [af 3] [] []) (ifs:=[bh .Lt (aT (af 12)<|af 13)<|aT (af 12)<|aR .Add (af 13)<|ah<|.int 1]) (e:=eF [af 13,aT (af 12)<|af 13])
  _ (λg=>.int _) (λg=>decide (h g<h (g+1))) (λg=>fV (g,h g)) (λg=>ri l xs b c a _) (AI aq av) trivial (λU U U f=>f) (λg j=>?_) (λg j U=>?_) aH
 .show aj CS cf _ _ (.lst _);rwa [<-n1,dM]
 .have i:=fJ.mp j;refine lV<|wX (Ia aq aq<|L_<|tN i)<|uK aq (λn p f=>f) (jl iD)<|L_<|JZ i
 have i:=fJ.mp j;exact jB<|c_ aq<|Ia aq aq<|L_<|tN i
def Le(b:N<7):ya i N a=true↔dB a i<=N:=hj.trans<|BD (exists_congr λc=>and_congr_right λU=>(bl ..).to_iff.trans<|and_congr decide_eq_true_iff decide_eq_true_iff) (lR b).symm
def Zn(b:N<7):Bc [a] i N=true↔dB a i<=N:=by
 show(ya i N a&&true)=true↔_;exact J (Qq ..)<|Le b
def aiq(c:N<7):Bc [a,b] i N=true↔rS a b i<=N:=by
 show(ya i N a&&(ya i N b&&true))=true↔_;exact J (Qq ..)<|(bl ..).to_iff.trans<|(and_congr (Le c)<|Le c).trans BQ.symm
abbrev Io(s:List Nat)(xs a:List a_):List D:=rg s xs a .ai .ai .ai .ai .ai .ai .ai .ai .ai .ai .ai
def Gq(a):oY N (fV a):=⟨aQ,aQ,aQ⟩
def L6(s:lS l [105,120,104,108]=false)(t:aj LY h (Io l xs j) b (.lst (P.map λp=>bU p)))(u:H P<=lim)(v:∀a∈P,H a<=lim)(i:iK d)(w:∀c f,f<7->(Bc P c f=true↔d c<=f))(x:fU (H b) b)(q:m (bU (ac d)) b):br Gk h (Io l xs j) b (pZ MY b m) n:=by
 refine To▸aO (kW (wY s)<|aO<|gx t<|aO ?_);show jq [gv false [13] (aP (ah<|.g 1012) [aR .Add (af 3)<|ah<|.int 1] [] []) CT [],fj CS] h _ n .next (ri l xs j P b .ai)<|wE b<|ug d 0;refine aO<|lB (AI (λm n q=>q) av)<|As _ _ (λc F y z e a k A=>?_) (λU U U U=>aQ) (λy z a=>?_) _ _<|Ck.mk 0 .ai
 .rw[d8] at e;refine aG (iQ.mp e) λG ao B=>?_;subst B
  obtain⟨r,aA⟩:=fm.mp ao;rw[EK] at aA;rw[kF] at r;rw[<-aA];exact M' u v i.le (λc D=>(pV c 7).elim (i.ge c) λE=>J (i.top c E)<|rM D) w r a A
 rw[aX] at a;cases a with
 |mk K=>exact dZ<|aO<|rq (agX d rfl)<|GX (t8 fV (λa=>Gq a) _) x q
def Mp{c:Type}(b:y->List c)(d:∀x,(b x).length<=N)(a:List y):(a.flatMap b).length<=H a*N:=by
 induction a with
 |nil=>exact b9 _
 |cons x a e=>
  exact J xo<|J bq<|J gK<|J (BU ..)<|J (h_ ..)<|d9 e<|d x
def Yb(b:H xs<60)(c:H a<60):(qg xs a).length<=lim:=az (Mp _ (λx=>J (aX ..)<|az (EM _ _)<|bF c) xs)<|az (xx 60<|bF b) aH
def ahk(h:H xs<60)(i:H a<60):aj (c5 false [5,6,7,8] true [6,7] (af 1) [] [(true,[5,8],af 2,[bh .Lt (af 7) (af 5)])] (eF [af 6,af 8])) b (Io l xs a) c (bU (qg xs a)):=by
 have e:(xs.flatMap λf=>(a.filter λg=>decide (f.2<g.1)).map λg=>fV (f.1,g.2))=(qg xs a).map fV:=by
  unfold qg;rw[JO];exact aZ (xs.flatMap ·) (funext λf=>J dM rfl)
 show aj _ b _ c<|.lst _;refine bH e<|yL xs (λU=>a) fV fV (λf g=>decide _) (λf g=>fV _) (λf=>rg l xs a .ai .ai _ _ .ai .ai .ai .ai .ai .ai .ai) (λf j=>rg l xs a .ai _ _ _ _ .ai .ai .ai .ai .ai .ai) (kr aq) trivial (λU U U d=>d) (λU U=>kr aq) trivial (λU U U U U d=>d) (λU U U U=>lV<|wX aq aq) (λU U U U U=>jB<|c_ aq aq) ?_;exact J e<|J (aX ..)<|Yb h i
def GG(h:br Gk (aB b) (Io l xs c) a (pZ MY a d) λe f=>ko (H a) e f g):aB (b+1) 438 [.str l,bU xs,bU c,.int (7:Nat)] [] a d g:=call rfl rfl rfl ⟨aH,aH,h⟩
def Nw(j:bk xs)(k:bk a)(l:fU (H b) b)(g:c (bU (ac (dB (xs++a)))) b):aB (d+1) 438 [.str [124],bU xs,bU a,.int (7:Nat)] [] b c f:=by
 have m:(xs++a).length<=lim:=by
  exact J bq<|az (d9 (bF j.g5)<|bF k.g5) aH
 refine GG<|L6 av (sN (iP av)<|sN (iP av)<|jW<|eg ?_) aH (λh i=>(dK.mp i)▸m) (AX λh i=>(i7.mp i).elim (j.w h)<|k.w h) (λp e n=>Zn n) l g;show aj _ _ _ _<|.lst _;exact J dS<|wk aq aq<|by rwa [aX,aX,<-bq]
inductive qC:List Nat->Prop
 |and:qC [38]
 |or:qC [124]
 |lt:qC [60]
 |cE (s:List Nat) (u w:Bool) (h:Fz s u w):qC s
def Lc(e:Fz l a b):g4 l xs c=xs.filter λd=>anyB a c d==b:=by
 unfold g4;exact J e.eH<|J e.gB<|J e.n6<|J e.uw<|J e.hw rfl
def oI(f:qC l)(g:bk xs)(h:bk b)(i:fU (H a) a)(j:c (iN (g4 l xs b)) a):aB (d+3) 433 [.str l,iN xs,iN b] [] a c e:=by
 cases f with
 |and=>exact oL g h i j
 |or=>exact o1 g h i j
 |lt=>exact oT g h i j
 |cE l k m f=>exact oP g h f i<|Lc f▸j
def Mo(j:qC l)(h:bk xs)(i:bk a)(m:fU (H b) b)(g:c (bU (g4 l xs a)) b):aB (d+1) 438 [.str l,bU xs,bU a,.int (7:Nat)] [] b c f:=by
 cases j with
 |and=>exact GG (L6 (P:=[xs,a]) av (sN (iP av) (A4 (iP av) (jW (c_ aq aq)))) aH (λp k=>by
  obtain rfl|k:=cQ.mp k
  .exact Dz h.g5
  exact(dK.mp k)▸Dz i.g5) (C2 h i) (λq e n=>aiq n) m g)
 |or=>exact Nw h i m g
 |lt=>exact GG<|L6 av (A4 (iP av)<|jW<|eg<|ahk h.g5 i.g5) aH (λp k=>(dK.mp k)▸Yb h.g5 i.g5) (GK h i) (λq e n=>Zn n) m g
 |cE l r s j=>exact GG (by
  refine To▸aO (ek (wY j.uv)<|aO<|gx (jA xs fV (λg=>.bool _) (λg=>rg l xs a .ai .ai _ _ .ai .ai .ai .ai .ai .ai .ai) (kr aq) trivial (λU U U g=>g) (λg U=>agY i.g5 j.uw)<|Dz h.g5)<|aO<|rq ?_<|(λt=>nY<|Lc j▸g) _);refine wo xs (λg=>.tup [fV g,.bool _]) _ fV (λg=>rg l xs a (.lst (xs.map λg=>.bool _)) .ai .ai .ai .ai _ _ .ai .ai .ai .ai) (Wv aq aq) trivial (λU U U g=>g) (λg U=>lV ?_) (λg U U=>aq)<|Dz h.g5;exact bH j.hw<|iY aq (Yl aq bc) (UW _ _))
def Cz(d:qC l)(b:bk xs)(e:bk a):bk (g4 l xs a):=by
 cases d with
 |and=>exact(C2 b e).La
 |or=>exact(AX λc f=>(i7.mp f).elim (b.w c)<|e.w c).La
 |lt=>exact(GK b e).La
 |cE l g h d=>
  exact J (Lc d)<|⟨b.o.sublist am_,λc f=>b.w c (BI.mp f).1⟩
abbrev Ps:=List<|List Nat×List Nat
noncomputable abbrev yk(a:Nat):List (Str×D):=[("_initial_size",.int (a:Nat))]
abbrev pn(a:Nat)(b:Ps):bI:=.inst 236 (yk a)<|e8 b
noncomputable abbrev fH(a:List Nat×List Nat):D:=.tup [.str a.1,.str a.2]
def Dk(f:b[a]?=some (.inst c d e)) (g:k a c d e):isIn b (.loc a) k:=by
 show bI.casesOn _ _ _ _ _;rwa [ez f]
def uz(e:b[a]?=some (.inst 236 c d)) (f:k a c d):mD b (.loc a) k:=Dk e ⟨rfl,f⟩
def Jd(f:a[b]?=some (.inst c d e)):bx a (.loc b)=.kR:=by
 show bI.casesOn (motive:=λU=>cT) _ _ _ _ _=_;exact J (ez f) rfl
def yb{g:Str}(h:qP.contains g=true)(i:b[a]?=some (.inst e c f)) (j:c.lookup g=some d) (k) (l:k d):Gf b (.loc a) g k:=⟨h,Dk i<|j▸l⟩
def mG{h:Str}(i:b[a]?=some (.inst c e g)) (j:mK.lookup (c,h)=some f) (l:k λas=>d f (.loc a::as)):pg d b (.loc a) h k:=by
 show bI.casesOn _ _ _ _ _;rw[ez i];show b7 _ _ _;rwa [j]
def yS{i:Str}(l:aj f b r a g)(m:aj o b r a (.loc c))(n:qP.contains i=true)(p:a[c]?=some (.inst h d j)) (q:H d<40) (s:k .next r (a.set c (.inst h (lC d i g) j))):qj o i f b r a k e:=l _ e<|m _ e ⟨n,Dk p ⟨q,s⟩⟩
def set_same{b:aN}(c:b[a]?=some x):b.set a x=b:=by
 obtain⟨d,e⟩:=fm.mp c;exact bH e<|hJ d
def Ge{b:aN}(c:b[a]?=some o):(b.set a x)[a]?=some x:=vd (fm.mp c).1
def ng(e:H a=N)(d:b c a):fin keep N c a b:=e▸nY d
def ZM(i:a[b]?=some (.inst 236 f c)) (q:bx a vl=cT.casesOn (bx a vl) .kR .nil .int .str .lst .tup) (j:∀k,k g->part (bx a vl) k) (l:∀k,k h->part (bx a vu) k) (m:bx a d=.lst e) (n:H c+H e<=lim) (k) (p:k (a.set b (.inst 236 f (pG c g h e)))):Pa a (.loc b) vl vu d k:=j _ (l _ (by
 rw[m];show bI.casesOn _ _ _ _ _;exact J (ez i)<|⟨rfl,n,p⟩))
def Pw{g:Str}(h:a[d]?=some (.inst 236 e b)) (i:sel (g=="__init__") (b=[]/\c .none a) (sel (g=="pop") (opt b.getLast? λf=>c f (a.set d (.inst 236 e b.dropLast))) (g="__len__"/\c (.int (H b)) a))):Bo (.loc d) g [] a c:=uz h i
def Lx(h:a[b]?=some (.inst 236 e d)) (i:c (.int (H d)) a):aB (f+1) 233 [.loc b] [] a c g:=call rfl rfl rfl ⟨aH,aH,by
 show Bo (.loc b) "__len__" [] a λj k=>fin false (H a) j k c
 exact Pw h ⟨rfl,nY i⟩⟩
def T6(h:a[c]?=some (pn e b)) (i:d (.int (e+fc b:Nat)) a):aB (f+1) 203 [.loc c] [] a d g:=by
 show mD a (.loc c) λU j l=>opt (j.lookup _) λm=>vInt (bx a m) λk=>∃b,l=e8 b/\d (.int<|k+(fc b)) a
 exact uz h ⟨b,rfl,i⟩
def Ig(h:aj z (aB (d+1)) r a (.loc e))(f:a[e]?=some (pn b c)) (i:b+fc c<1000):aj (aP (ah (.g 1000)) [z] [] []) (aB (d+1)) r a (.int (b+fc c:Nat)):=λl j k=>h _ j (by
 show cT.casesOn _ _ _ _ _ _ _;exact J (Jd f)<|uz f (T6 f ⟨kE _,uV i,k⟩))
def Ij(h:aj z (aB (d+1)) r b (.loc c))(f:b[c]?=some (.inst 236 e (e8 a))) (i:(cX a).length+H a<=lim):aj (aP (ah (.g 1010)) [z] [] []) (aB (d+1)) r b (.str (cX a)):=λj k l=>h _ k (by
 show cT.casesOn _ _ _ _ _ _ _;exact J (Jd f)<|uz f (by
  show mD b (.loc c) λU U m=>∃a,m=e8 a/\(cX a).length+H a<=lim/\j (.str<|cX a) b
  exact uz f ⟨a,rfl,i,l⟩))
def go(e:jG.lookup c=some (d,h))(i:(c==203)=false)(l:(c==210)=false)(rf:List D)(q:∀k:List D->Prop,k rf->Gu d as m λb=>k (b++kG (H d.ns-(H b)) .ai))(r:br h (aB n) rf a (pZ d a p) λf g=>ko (H a) f g j):aB (n+1) c as m a p j:=call e i l<|q (λb=>br h _ b a _ λf g=>ko (H a) f g j) r
def pF{i:Str}(l:aj e b r a (.loc d))(t:a[d]?=some (.inst f q s)) (u:mK.lookup (f,i)=some g) (v:eO as b r a h) (w:eO j b r a k) (x:b g (.loc d::h) (m.zip k) a (λU n=>p .next r n) c):cU (bg i e as j m) b r a p c:=l _ c<|mG t u<|v _ c<|w _ c x
def Zj{l:Str}(u:aj e b r a (.loc d))(v:a[d]?=some (.inst f s t)) (w:mK.lookup (f,l)=some g) (x:eO as b r a h) (y:eO j b r a k) (z:b g (.loc d::h) (m.zip k) a (λn p=>q .next (r.set i n) p) c):cA i (bg l e as j m) b r a q c:=u _ c<|mG v w<|x _ c<|y _ c z
def wu{nm:Str}(i:aj e cf r a (.loc d))(l:a[d]?=some (.inst f n p)) (q:mK.lookup (f,nm)=some g) (s:eO as cf r a h) (t:eO j cf r a k) (u:∀c b,c m a->cf g (.loc d::h) (ks.zip k) a c b):aj (bg nm e as j ks) cf r a m:=λc b v=>i _ b<|mG l q<|s _ b<|t _ b<|u _ _ v
def afJ:mK.lookup (236,("append":Str))=none:=au
def aeM(h:a[b]?=some (.inst 236 f g)) (i:k λas c a d U=>nul c (F9 b as a d)):pg e a (.loc b) "append" k:=by
 show bI.casesOn _ _ _ _ _;rw[ez h];show b7 (mK.lookup (236,("append":Str))) (_=236/\("append":Str)="append"/\k λas c a d U=>nul c _) λj=>k λas=>e j (.loc b::as)
 exact J afJ<|⟨rfl,rfl,i⟩
def n2(f:a[b]?=some (.inst 236 d c)) (g:H c+1<=lim) (h:Q .none (a.set b (.inst 236 d (c++[e])))):F9 b [e] a Q:=by
 exact uz f ⟨g,h⟩
def aii(k:aj g b r a (.loc c))(i:a[c]?=some (.inst 236 h d)) (l:aj z b r a j) (m:H d+1<=lim) (n:e .next r (a.set c (.inst 236 h (d++[j])))):cU (bg "append" g [z] [] []) b r a e f:=k _ f<|aeM i<|l _ f<|n2 (Q:=λU p=>e .next r p) i m n
def T5(j:c[a]?=some (.inst 236 e d)) (l:H d+1<=lim) (i:f .none (c.set a (.inst 236 e (d++[.tup [x,b]])))) (m:oU x) (n:oU b):aB (g+1) 180 [.loc a,x,b] [] c f h:=go rfl rfl rfl [.loc a,x,b] (λU i=>⟨aH,aH,i⟩)
 (aO<|aii aq j (jB<|c_ (bN λk i=>m _ i) (bN λk i=>n _ i)) l<|dZ<|ng gM i)
def OP(e:a[b]?=some (.inst 236 d c)) (k) (f:k c):uO a (.loc b) k:=by
 show cT.casesOn _ _ _ _ _ _ _;exact J (Jd e)<|uz e f
def vw(n:c[b]?=some (.inst 236 f a)) (m:i<=H a) (p:H a<=lim) (l:g (.lst (a.drop i)) (c.set b (.inst 236 f (a.take i)))):aB (h+1) 188 [.loc b,.int i] [] c g j:=go rfl rfl rfl [.loc b,.int i,.ai] (λU l=>⟨fE rfl,fE rfl,l⟩) (by
 refine aO<|gx (sQ (bN λU l=>l) (bN λU l=>l) iM iM λk l=>⟨(λq=>nomatch q),OP n _<|pick_from m▸l⟩)<|aO ?_;refine ZM (vl:=.int i) (vu:=.none) (d:=.lst []) n rfl (λU l=>l) (λU l=>l) rfl p _ ?_;have e:pG a (some i) none []=a.take i:=by
  show a.take (eN (H a) i)++[]++a.drop (max (eN (H a) i)<|H a)=_;exact J (uc m)<|J (EX m)<|J hr<|J (dR ..)<|J (dR ..) rfl
 exact J e<|ng gM l)
def jY(e:a=false)(d:b):sel a c b:=e▸d
def rt(e:a=true)(d:b):sel a b c:=e▸d
def ajQ(g:a[b]?=some (.inst 236 d c)) (h:opt c.getLast? λe=>f e (a.set b (.inst 236 d c.dropLast))):Bo (.loc b) "pop" [] a f:=Pw g<|jY au<|rt au h
noncomputable abbrev Ao:D:=.tup [.str [],.str []]
def Gz(h:a[b]?=some (.inst 236 d c)) (g:e (c.getLast?.getD Ao) (a.set b (.inst 236 d c.dropLast))) (j:H c<1000):aB (n+2) 196 [.loc b] [] a e f:=go rfl rfl rfl [.loc b] (λU g=>⟨aH,aH,g⟩) (by
 have pc:aj (bg "part_count" (af 0) [] [] []) (aB<|n+1) [.loc b] a _:=wu (bN λU g=>g) h au cO cO λe f g=>Lx h g
 obtain _|⟨l,m⟩:=c
 .refine aO (ek (iY pc bc λk g=>⟨aQ,λU=>g,λi=>aW rfl i⟩)<|aO<|rq (λU U g=>g) ?_);rw[show a.set b (.inst 236 d ([]).dropLast)=a from set_same h] at g;exact nY g
 refine aO (kW (iY pc bc λk g=>⟨aQ,(λi=>nomatch i),λU=>g⟩) ?_);refine ajQ h ?_;rw[ang];rw[ang] at g;exact ng gM g)
def aiO:pG a none none b=b:=by
 show a.take 0++b++a.drop (max 0<|H a)=b;exact J (EX<|b9 _)<|J hr<|J (dR ..) rfl
def YR(k:a[c]?=some (.inst 236 (yk g) e)) (l:H e+H b<=lim) (i:f .none (a.set c (.inst 236 (yk 0) b))):br [wJ (af 0) bM bM (af 1),qj (af 0) "_initial_size" (ah (.int 0))] h [.loc c,.lst b] a (pZ VV a f) j:=by
 refine aO<|ZM (vl:=.none) (vu:=.none) (d:=.lst b) k rfl (λU i=>i) (λU i=>i) rfl l _ ?_;refine J aiO<|aO<|yS bc aq au (Ge k) aH ?_;exact J (List.set_set ..)<|ng gM i
def vx(i:b[a]?=some (.inst 236 (yk h) c)) (j:H c<=lim) (g:d .none (b.set a (pn 0 []))):aB (e+1) 218 [.loc a] [] b d f:=go rfl rfl rfl [.loc a,.none] (λU g=>⟨aH,aH,g⟩)
 (aO<|ek (λU U g=>g)<|aO<|gx (jW cO)<|YR i j g)
def vT(j:c[a]?=some (.inst 236 (yk f) d)) (k:H d+H b<=lim) (i:e .none (c.set a (.inst 236 (yk 0) b))):aB (g+1) 218 [.loc a,.lst b] [] c e h:=go rfl rfl rfl [.loc a,.lst b] (λU i=>⟨aH,aH,i⟩)
 (aO<|kW (λU U i=>i)<|YR j k i)
def Xl(a:Nat):((a:Int) !=0)=!(a==0):=by cases a<;>rfl
def ahi(h:aj z b r c (.bool a))(i:a=false->aj d b r c (.bool e)):aj (p_ [z,d]) b r c (.bool (a||e)):=λj f g=>h _ f (by
 cases a with
 |true=>exact g
 |false=>exact i rfl _ f g)
def m_isspace(c:a (.bool (rN (toS l))) b):sZ "isspace" l [] b a:=jY au<|jY au<|jY au<|rt au c
def Ym(c:aj z a r b (.str l)):aj (bg "isspace" z [] [] []) a r b (.bool (rN (toS l))):=λf d e=>c _ d ⟨.inr<|.inr<|.inr<|.inl rfl,m_isspace e⟩
def vR(a:Nat)(b:Ps):Bool:=(a==0)&&((!(!(a+fc b==0)))||rN (toS<|cX b))
def Q'(c d:Nat)(k)(f:k (c==d)):jt .Eq a (.int c) (.int d) k:=by
 refine⟨aQ,λb=>?_,λb=>?_⟩
 .have b:=aZ (λg:D=>D.casesOn (motive_1:=λU=>Int) g 0 0 (λU=>0) id (λU=>0) (λU=>0) (λU=>0) (λU=>0) (λU=>0) λU U U U=>0) b;rwa [beq_iff_eq.mpr<|Int.ofNat_inj.mp b] at f
 rwa [jO λe=>b<|aZ (λh:Nat=>D.int _) e] at f
def v3(i:b[c]?=some (pn d a)) (l:d+fc a<1000) (m:(cX a).length+H a<=lim) (h:e (.bool (vR d a)) b):aB (f+2) 225 [.loc c] [] b e g:=go rfl rfl rfl [.loc c] (λU h=>⟨aH,aH,h⟩)
 (aO (rq (DQ (wz (yK aq (yb au i au)) bc (Q' d 0)) λU=>ahi (ahh aq (λk h=>by
  show cT.casesOn _ _ _ _ _ _ _;refine J (Jd i)<|uz (k:=λU U U=>aB _ 203 [.loc c] [] b (λp n=>vInt _ λj=>0<=j/\jj j/\k _ n) cI) i<|T6 i ⟨kE _,uV l,?_⟩;rwa [Xl])) λU=>Ym (Ij aq i m)) (nY h)))
noncomputable abbrev Mj(a:Nat)(o:List Nat):List (Str×D):=[("_maxlen",.int (a:Nat)),("_continuation_ws",.str [32]),("_continuation_ws_len",.int (1:Nat)),("_splitchars",.str o),("_lines",.loc 2),("_current_line",.loc 3)]
abbrev cV(a:Nat)(o:List Nat)(b:List (List Nat))(c:Nat)(d:Ps)(e:aN):aN:=.tab::.inst 152 (Mj a o) []::.lst (b.map .str)::pn c d::e
noncomputable def ig(a:Ps):Ps:=b7 a.getLast? [([],[])] λb=>bif decide (b=([32],[])) then a.dropLast else a
def kB(a:List (List Nat))(c:Nat)(b:Ps):List (List Nat):=bif decide (0<c+fc b) then(bif vR c b&&!a.isEmpty then a.dropLast++[a.getLast?.getD []++cX b] else a++[cX b]) else a
def kU(g:r[0]?=some (.loc 1)):aj (cW "_current_line" (af 0)) a r (cV b o c d e f) (.loc 3):=yK (λi j k=>by
 show opt _ λh=>qK h _
 rwa [g]) (yb au rfl au)
def DT(g:r[0]?=some (.loc 1)):aj (cW "_lines" (af 0)) a r (cV b o c d e f) (.loc 2):=yK (λi j k=>by
 show opt _ λh=>qK h _
 rwa [g]) (yb au rfl au)
def agN:e8 a++[fH p]=e8 (a++[p]):=by unfold e8;exact J dS rfl
def uH:(e8 a).length=H a:=aX _
def WV:(e8 a).getLast?=a.getLast?.map fH:=List.getLast?_map
def V3:(e8 a).dropLast=e8 a.dropLast:=(List.map_dropLast ..).symm
def A8(k:H a<1000)(i:c .none (cV d o e f (a++[(l,b)]) g)):aB (h+1) 180 [.loc 3,.str l,.str b] [] (cV d o e f a g) c j:=T5 rfl (az (uH▸k) aH) (by rwa [agN (p:=(l,b))]) (λU i=>i) λU i=>i
def vk(j:H a<1000)(i:b .none (cV c o d e (a++[([32],[])]) f)):aB (g+2) 121 [.loc 1] [] (cV c o d e a f) b h:=go rfl rfl rfl [.loc 1] (λU i=>⟨aH,aH,i⟩)
 (aO<|pF (kU rfl) rfl au (c_ bc bc) cO<|A8 j<|dZ<|ng rfl i)
def UY(d f g b)(k)(h:k (decide ((d,f)=(g,b)))):jt .Eq a (.tup [.str d,.str f]) (.tup [.str g,.str b]) k:=by
 refine⟨⟨aQ,aQ,aQ⟩,λc=>?_,λc=>?_⟩
 .have i:=aZ (λb:D=>D.casesOn (motive_1:=λU=>List D) b [] [] (λU=>[]) (λU=>[]) (λU=>[]) id (λU=>[]) (λU=>[]) (λU=>[]) λU U U U=>[]) c;obtain⟨j,l⟩:=List.cons.inj i;rwa [gb<|Prod.ext_iff.mpr ⟨aZ OZ j,aZ OZ (List.cons.inj l).1⟩] at h
 rwa [eS λe=>c (by obtain⟨ao,aA⟩:=Prod.mk.inj e;exact J ao<|J aA rfl)] at h
def Zm(i:aj e b r a (.loc c))(l:a[c]?=some (.inst 236 j k)) (m:aj z b r a (.tup f)) (n:b 180 (.loc c::f) [] a (λU g=>h .next r g) cI):cU (Mb e z) b r a h d:=i _ d<|mG l au<|m _ d n
def adR(c:Ps):c=[]\/∃a b,c=a++[b]:=by
 obtain d|⟨a,b,d⟩:=xm c
 .exact .inl d
 exact .inr ⟨a,b,J d<|J xj rfl⟩
noncomputable abbrev DZ(a:D):List D:=[.loc 1,a]
def ae3(p:H a<1000)(i:∀f,br g (aB (h+2)) (DZ f) (cV b o c d (ig a) e) j m):br (cA 1 (bg "pop" (cW "_current_line" (af 0)) [] [] [])::bX (bh .NotEq (af 1) (eF [ah (.str [32]),ah (.str [])])) [cU (Mb (cW "_current_line" (af 0)) (af 1))] []::g) (aB (h+2)) (DZ .ai) (cV b o c d a e) j m:=by
 refine aO<|Zj (kU rfl) rfl au cO cO<|Gz rfl ?_<|uH▸p;obtain rfl|⟨n,l,rfl⟩:=adR a
 .show jq _ _ _ _ .next _ (cV b o c d [] e);refine aO<|ek (iY aq (jB<|c_ bc bc) λk i=>UY [] [] [32] [] (λq=>k !q) i)<|aO<|Zm (kU rfl) rfl aq<|A8 av<|i _
 have ao:(e8<|n++[l]).getLast?.getD Ao=fH l:=J WV<|J xq rfl;have aA:(e8<|n++[l]).dropLast=e8 n:=J V3<|J EE rfl;have bL:ig (n++[l])=bif decide (l=([32],[])) then n else n++[l]:=by unfold ig;exact J xq<|J EE rfl
 rw[bL] at i;refine J ao<|J aA<|aO<|ek (iY aq (jB<|c_ bc bc) λk i=>UY l.1 l.2 [32] [] (λq=>k !q) i) ?_;rcases r:decide _ with _|_
 .rw[r] at i;exact aO<|Zm (kU rfl) rfl aq<|A8 (by rw[bq] at p;exact vg p)<|i _
 rw[r] at i;exact i _
def aeT(a):iA (-1) (a+1)=some a:=by
 have e:(if(-1)<0 then-1+((a+1:Nat):Int) else-1)=a:=by
  exact J (u_ ..)<|J (JC a ..)<|bH (QF ..)<|JG _
 unfold iA;rw[e,dI<|J (gb<|nI.mpr<|f6 a) rfl]
 rfl
def HO(a)(x:y):iA (-1) (a++[x]).length=some (H a):=by
 exact J bq<|aeT _
def I6(d:aj z a r b (.int i))(e:aj c a r b (.int N)):dz (bh .Gt z c) a r b (decide (N<i)):=iY d e λk f=>by
 show k<|decide _;rwa [dec_lt]
def de{f:Str}(g:aj (bg f z as b c) a r d (.bool e)):dz (bg f z as b c) a r d e:=λk h i=>g (λj l=>mR a j l k) h i
def akX(e:a[b]?=some (.lst c)) (k) (f:k (!c.isEmpty) a):mR d (.loc b) a k:=by
 show cT.casesOn _ _ _ _ _ _ _;rwa [jl e]
def akN(g:r[0]?=some (.loc 1)):dz (cW "_lines" (af 0)) b r (cV c o a d e f) (!a.isEmpty):=λk h l=>(DT g) (λi j=>mR b i j k) h (akX rfl k (by
 rwa [show(a.map D.str).isEmpty=a.isEmpty from List.isEmpty_map]))
def pv(n:r[0]?=some (.loc 1)) (p:aj z h r (cV e o a b c d) (.str l)) (q:a≠[]) (k:(a.getLast?.getD []).length+H l<=lim) (m:f .next r (cV e o (a.dropLast++[a.getLast?.getD []++l]) b c d)):D_ (cW "_lines" (af 0)) (gk (ah (.int 1))) .Add z h r (cV e o a b c d) f g:=by
 obtain ao|⟨i,j,ao⟩:=xm a
 .exact aW ao q
 rw[xj] at ao;subst ao;rw[xq] at k m;rw[EE] at m;refine(DT n) _ g ?_;show opt _ _;rw[dS];show opt ((iA (-1) (i.map D.str++[D.str j]).length).bind _) _;rw[HO];show opt ((i.map D.str++[D.str j])[(i.map D.str).length]?) _;refine J Lj<|p _ g ⟨rfl,k,?_⟩;show opt _ _;rw[dS];show opt (iA (-1) (i.map D.str++[D.str j]).length) _;rw[HO];show f .next r (.tab::.inst 152 _ []::.lst ((i.map D.str++[D.str j]).set (i.map D.str).length _)::pn b c::d);rw[ZE];have aA:i.map D.str++[.str<|j++l]=(i++[j++l]).map D.str:=J dS rfl;rwa [aA]
noncomputable abbrev ae2:List Y:=[bX (bh .Gt (aP (ah<|.g 1000) [cW "_current_line"<|af 0] [] [])<|ah<|.int 0) [bX (jQ [bg "is_onlyws" (cW "_current_line"<|af 0) [] [] [],cW "_lines"<|af 0]) [D_ (cW "_lines"<|af 0) (gk<|ah<|.int 1) .Add<|aP (ah<|.g 1010) [cW "_current_line"<|af 0] [] []] [cU<|bg "append" (cW "_lines"<|af 0) [aP (ah<|.g 1010) [cW "_current_line"<|af 0] [] []] [] []]] [],cU<|bg "reset" (cW "_current_line"<|af 0) [] [] []]
def ae6(t:h+fc a<900)(l:(cX a).length+H a<=900)(x:H b<900)(u:(b.getLast?.getD []).length<=900)(i:c .none (cV d o (kB b h a) 0 [] f)):br ae2 (aB (g+3)) (DZ j) (cV d o b h a f) (pZ MV (cV d o b h a f) c) k:=by
 have m:∀{v:List _},c .none (cV d o v 0 [] f)->br [cU<|bg "reset" _ [] [] []] (aB<|g+3) (DZ j) _ (pZ MV _ c) k:=λi=>
  aO (pF (kU rfl) rfl au cO cO<|vx (h:=h) rfl (uH▸az (az (fS _ _) l) aH)<|dZ<|ng rfl i)
 have p:h+fc a<1000:=bZ t av;have q:(cX a).length+H a<=lim:=az l aH;have r:aj _ (aB<|g+3) (DZ j) (cV d o b h a f) _:=Ij (kU rfl) rfl q;refine aO<|ek (I6 (Ig (kU rfl) rfl p) bc) ?_;unfold kB at i;rcases s:decide _ with _|_
 .rw[s] at i;exact dZ<|m i
 rw[s] at i;refine aO<|ek (nF (I8 (de (wu (kU rfl) rfl au cO cO λc k i=>v3 rfl p q i)) λU=>lV<|akN rfl)) ?_;rcases n:vR h a&&!b.isEmpty with _|_
 .rw[n] at i;refine aO<|sU (DT rfl) rfl r (az (by rwa [aX]) aH) ?_;have aA:b.map D.str++[.str<|cX a]=(b++[cX a]).map D.str:=J dS rfl;exact J aA<|m i
 rw[n] at i;have w:b≠[]:=λe=>by rw[e,List.isEmpty_nil,Bool.not_true,zc] at n;contradiction
 exact aO<|pv rfl r w (az (d9 u<|az (cZ _ _) l) aH)<|m i
structure vI(h:Nat)(cur:Ps)(lines:List (List Nat)):Prop where
 z:h+fc cur<900
 s:(cX cur).length+cur.length<=900
 l:lines.length<900
 aec:(lines.getLast?.getD []).length<=900
def TZ(k:H a<1000)(i:vI b (ig a) c)(j:d .none (cV e o (kB c b (ig a)) 0 [] f)):aB (g+4) 114 [.loc 1] [] (cV e o c b a f) d h:=go rfl rfl rfl _ (λU j=>⟨aH,aH,j⟩)
 (ae3 k λl=>ae6 i.z i.s i.l i.aec j)
def aev(aU:bx b c=.lst (a.map .str))(e:(dU l a).length+H a<=lim)(f:d (.str (dU l a)) b):sZ "join" l [c] b d:=rt au (by
 show PW _ _;exact J aU<|⟨a,rfl,e,f⟩)
def A5{l}{s:List Nat}(f:aj z b r a (.str s))(g:aj c b r a d)(aU:bx a d=.lst (l.map .str))(h:(dU s l).length+H l<=lim):aj (bg "join" z [c] [] []) b r a (.str (dU s l)):=λj e i=>f _ e ⟨.inl rfl,g _ e<|aev aU h i⟩
def TY(i:H cur<1000)(j:vI a (ig cur) b)(k:(dU c (kB b a (ig cur))).length+(kB b a (ig cur)).length<=lim)(h:d (.str (dU c (kB b a (ig cur)))) (cV e o (kB b a (ig cur)) 0 [] f)):aB (n+5) 100 [.loc 1,.str c] [] (cV e o b a cur f) d g:=go rfl rfl rfl [.loc 1,.str c] (λU h=>⟨aH,aH,h⟩)
 (aO<|pF aq rfl au cO cO<|TZ i j<|aO<|rq (A5 aq (DT rfl) (jl rfl) k)<|ng rfl h)
noncomputable def qS(a:Nat)(s:List Nat):Bool:=fk s false λb U=>decide (b=a)
noncomputable def ltB(a:Nat)(s:List Nat):Bool:=b7 s.getLast? false λb=>decide (b=a)
noncomputable abbrev mL(a:D)(s:List Nat)(b c d e f:D):List D:=[.loc 1,a,.str s,b,c,d,e,f]
def I7(a:aj (af i) cf r W (.str l)):dz (af i) cf r W (!l.isEmpty):=λk b c=>a (λd e=>mR cf d e k) b c
def str1(b c:Nat):decide ([b]=[c])=decide (b=c):=decide_eq_decide.mpr ⟨λa=>(List.cons.inj a).1,λa=>a▸rfl⟩
def akJ(f:aj (af i) a r b (.str l))(h:aj (af c) a r b (.str [d])):dz (jQ [af i,bh .Eq (aT (af i) (ah (.int 0))) (af c)]) a r b (qS d l):=by
 have g:=I7 f;obtain _|⟨m,j⟩:=l
 .exact nF<|u6 g
 refine nF (Ey g<|lV ?_);have k:=Bt (e:=aT _ (ah (.int 0))) (kT f bc λk n=>by
  show opt ((iA (0:Nat)<|H j+1).bind _) _;rwa [sV (jo _)]) h
 rwa [str1] at k
def akM(g:aj (af i) a r b (.str l))(m:aj (af c) a r b (.str [d])):dz (jQ [af i,bh .Eq (aT (af i) (gk (ah (.int 1)))) (af c)]) a r b (ltB d l):=by
 have h:=I7 g;obtain rfl|⟨f,j,e⟩:=xm l
 .exact nF<|u6 h
 rw[xj] at e;subst e;have n:=by
  rwa [show(f++[j]).isEmpty=false by cases f<;>rfl] at h
 refine nF<|Ey n<|lV ?_;have k:=Bt (kT g (q7 bc) λk p=>by
  show opt ((iA (-1) (f++[j]).length).bind _) _;rw[HO];show opt (_[(H f)]?) _;rwa [EH]) m
 rw[str1] at k;unfold ltB;rwa [xq]
def Yn(h:r[0]?=some (.loc 1)) (j:aj z f r (cV b o c d a e) (.int i)) (l:a[i]?=some g):aj (aT (cW "_current_line" (af 0)) z) f r (cV b o c d a e) (fH g):=kT (kU h) j λk m=>by
 show mD (cV b o c d a e) (.loc 3) λU U n=>0<=_/\opt _ k
 refine uz rfl ⟨kE i,?_⟩;rwa [JF,show(e8 a)[i]?=some _ from iW l]
def aht(d:aj z a r b (fH c)):aj (aT z (ah (.int 1))) a r b (.str c.2):=kT d bc λU e=>e
def sf(b:Ps)(a c:Nat):Bool:=(rN (toS [a])&&qS a ((b[c]?.map (·.1)).getD []))||ltB a ((b[c-1]?.map (·.2)).getD [])
def brk(g:dz d e r a b)(h:b=true->c .brk r a)(i:b=false->c .next r a):bX d [D9] [] e r a c f:=ek g (by
 cases b with
 |true=>exact h rfl
 |false=>exact i rfl)
def BM(A:0<i)(w:i<H c)(t:sf c a i=true->∀b d,f .brk (mL b l (.str [a]) (.int i) d g h) (cV j o k m c n))(u:sf c a i=false->∀b d,f .next (mL b l (.str [a]) (.int i) d g h) (cV j o k m c n)):br HA p (mL b l (.str [a]) (.int i) d g h) (cV j o k m c n) f q:=by
 obtain⟨x,y⟩:=at_ w;obtain⟨B,z⟩:=at_<|bz (l6 i 1) w;have e:sf c a i=((rN (toS [a])&&qS a x.1)||ltB a B.2):=by unfold sf;exact J y<|J z rfl
 rw[e] at t u;have rest:(rN _&&qS a x.1)=false->∀b,br [cA 5<|aT (aT _<|aR .Sub (af 4) _) _,bX (jQ [af 5,bh .Eq _<|af 3]) [D9] []] p (mL b l (.str [a]) (.int i) d g h) _ f q:=λs b=>by
  rw[s] at t u;refine aO<|gx (aht<|Yn rfl (sP aq A) z)<|aO (brk (akM aq aq) (λs=>t s b _) λs=>u s b _)
 refine aO<|ek (de<|Ym aq) ?_;rcases s:rN _ with _|_
 .exact dZ<|rest (J s rfl) b
 rw[s] at t u;refine aO<|gx (kT (Yn rfl aq y) bc λU r=>r)<|aO (brk (akJ aq aq) (λv=>t (J v rfl) _ _) λv=>rest (J s<|J v rfl) _)
noncomputable def down(a:Nat):List Nat:=(b6 a).map λk=>a-k
def sy(o:List Nat)(a:Ps):Option Nat:=o.findSome? λb=>(down<|H a-1).find?<|sf a b
def CY(b:i∈down a):0<i/\i<=a:=by
 refine aG (fC.mp b) λk c d=>?_;subst d
 exact⟨h3<|fJ.mp c,l6 _ _⟩
def Wo{f:Bool}(h:aj z b r c (.int i))(d:i<1000):gQ (aP (ah (.g 1012)) [z,(ah (.int 0)),(gk (ah (.int 1)))] [] []) b f r c ((down i).map λa=>.int (a:Nat)) yes:=λk j m=>h _ j (by
 have ao:A9 i 0 (-1)=(down i).map λa=>.int a:=by
  show(b6 ((i:Int)-0).toNat).map (λ(k:Nat)=>D.int _)=_;unfold down;exact J dM<|qu λk l=>aZ D.int (QI<|bF<|fJ.mp l).symm
 have e:jj 0:=⟨av,av⟩;refine⟨uV d,e,rfl,uV d,e,.inr rfl,?_,?_⟩
 .rw[ao,aX];unfold down;exact J (aX ..)<|J kF<|az (bF d) aH
 rwa [ao])
def Fk(ok:aN->Prop)(d:D->dw)(e:dw)(f:List D)(b:eX):eX:=λg c a=>i9.casesOn g (ok a/\lO ok d e f c a b) (b .next c a) (ok a/\lO ok d e f c a b) λh=>b (.ret h) c a
def Mr(g:a b r c (Fk ok a d e f) cI):lO ok a d (b::e) r c f:=g
def ael(i:List Nat)(z:∀c∈i,0<c/\c<H e)(A:∀c,i.find? (sf e f)=some c->∀a b,g .next (mL a l (.str [f]) (.int c) b h j) (cV k o m n e p))(B:i.find? (sf e f)=none->∀a d b,g .cont (mL a l (.str [f]) d b h j) (cV k o m n e p)):
 ∀a d b,lO yes (λq s t g u=>iU false [4] q s λv=>br HA w v t g u) (br [Zb] w) (i.map λc=>.int (c:Nat)) (mL a l (.str [f]) d b h j) (cV k o m n e p) g:=by
 induction i with
 |nil=>exactλa d b=>B rfl a d b
 |cons c i E=>
  intro a d b;have D:=z c<|.head _;refine Mr ?_;exact BM D.1 D.2 (λx a b=>A c (J BG<|J x rfl) a b) λx a b=>⟨aQ,E (λy r=>z y<|.tail _ r) (λy r=>A y<|J BG<|J x<|r) (λr=>B<|J BG<|J x<|r) a _ b⟩
def agV(g:r[0]?=some (.loc 1)):aj (bg "part_count" (cW "_current_line" (af 0)) [] [] []) (aB (b+1)) r (cV c o d e a f) (.int (H a)):=by
 have:=wu (ks:=[]) (nm:="part_count") (cf:=aB<|b+1) (kU g:aj _ _ r (cV c o d e a f) _) rfl au cO cO λi j h=>Lx rfl h
 rwa [uH] at this
def aem(z:0<H d)(E:H d<1000)(r)(B:∀f,r.findSome? (λg=>(down (H d-1)).find? (sf d g))=some f->∀a e b,h .next (mL a l e (.int f) b j k) (cV m o n p d q))(D:r.findSome? (λg=>(down (H d-1)).find? (sf d g))=none->∀a e c b,s (mL a l e c b j k) (cV m o n p d q) h cI):
 ∀a e c b,lO yes (λt u v h w=>iU false [3] t u λx=>br HB (aB<|A+1) x v h w) s (ua r) (mL a l e c b j k) (cV m o n p d q) h:=by
 induction r with
 |nil=>exactλa e c b=>D rfl a e c b
 |cons g r F=>
  intro a e c b;refine Mr ?_;show br HB _ _ _ _ cI;refine aO<|lB (Wo (sP (agV rfl) z)<|bz (l6 _ _) E)<|ael _ (λf i=>⟨(CY i).1,bz (CY i).2<|xy z zv⟩) (λf i a b=>?_) (λi a c b=>⟨aQ,?_⟩) a c b
  .exact B f (J EG<|J i rfl) a _ b
  exact F (λf y=>B f<|J EG<|J i<|y) (λy=>D<|J EG<|J i<|y) a _ c b
abbrev WE:List Y:=Bb [1,6] (bg "pop" (cW "_current_line"<|af 0) [] [] [])::Nm
def p3:Th=[cU (bg "push" (cW "_current_line" (af 0)) [af 1,af 2] [] []),bX (bh .Gt (aP (ah (.g 1000)) [cW "_current_line" (af 0)] [] []) (cW "_maxlen" (af 0))) (gv false [3] (cW "_splitchars" (af 0)) HB WE::Nn) []]:=au
def agO:(e8 a).take i=e8 (a.take i):=(ER ..).symm
def agM:(e8 a).drop i=e8 (a.drop i):=(EP ..).symm
def Fs(s:i<=H a)(r:H a<1000)(t:(cX (a.take i)).length+(a.take i).length<=lim)(u:H b<900)(q:c .next (mL d l e (.int i) f g (.lst (e8 (a.drop i)))) (cV h o (b++[cX (a.take i)]) 0 (a.drop i) j)):br Nn (aB (k+3)) (mL d l e (.int i) f g m) (cV h o b n a j) c p:=by
 refine aO<|Zj (kU rfl) rfl au (eg aq) cO<|vw rfl (uH▸s) (uH▸az (bF r) aH) ?_;refine J agO<|J agM<|aO<|sU (DT rfl) rfl (Ij (kU rfl) rfl t) (az (by rwa [aX]) aH) ?_;have aA:b.map D.str++[.str<|cX<|a.take i]=(b++[cX<|a.take i]).map D.str:=J dS rfl;refine J aA<|aO<|pF (kU rfl) rfl au (eg aq) cO<|vT rfl ?_ q;exact J uH<|J uH<|az (d9 (az (JM ..)<|bF r)<|az (xr▸l6 _ _)<|bF r) aH
def ag8(g:r[0]?=some (.loc 1)):aj (cW "_initial_size" (cW "_current_line" (af 0))) b r (cV c o d a e f) (.int a):=yK (kU g)<|yb au rfl au
def aij{i:Str}(l:aj e b r a (.loc d))(v:a[d]?=some (.inst f t u)) (w:mK.lookup (f,i)=some g) (x:eO as b r a h) (y:eO j b r a k) (z:b g (.loc d::h) (m.zip k) a (λn p=>iU true is n r λq=>s .next q p) c):Bb is (bg i e as j m) b r a s c:=l _ c<|mG v w<|x _ c<|y _ c z
def afe(B:g=b++[a])(r:H g<1000)(D:vI c (ig b) d)(i:∀e,f (.ret .none) (mL e l h j m (.str a.2) n) (bif decide (0<c) then cV p o (kB d c (ig b)) 0 [(bif a.1.isEmpty then[32] else a.1,a.2)] q else cV p o d c g q)):br WE (aB (t+5)) (mL e l h j m v n) (cV p o d c g q) f s:=by
 subst B;have w:=by rw[bq] at r;exact vg r
 have ao:(e8<|b++[a]).getLast?.getD Ao=fH a:=J WV<|J xq rfl;have aA:(e8<|b++[a]).dropLast=e8 b:=J V3<|J EE rfl;refine aO<|aij (kU rfl) rfl au cO cO<|Gz rfl ?_<|uH▸r;rw[ao,aA];suffices next:br Nm _ _ _ f s from next;refine aO<|ek (I6 (ag8 rfl) bc) ?_;rcases x:decide _ with _|_
 .rw[x] at i;exact dZ<|aO<|pF (kU rfl) rfl au (c_ aq aq) cO<|A8 w<|i _
 rw[x] at i;refine aO<|pF aq rfl au cO cO<|TZ w D<|aO<|ek (u:=a.1.isEmpty) (λk s i=>?_) ?_
 .show k _ _;rwa [fg]
 have y:∀z:List Nat,(∀e,f (.ret .none) (mL e l h j m _ n) _)->br [cU<|bg "push" _ [af 1,af 6] [] [],Zg] (aB<|t+5) (mL (.str z) l h j m (.str a.2) n) (cV p o (kB d c<|ig b) 0 [] q) f s:=λz i=>
  aO (pF (kU rfl) rfl au (c_ aq aq) cO<|A8 av<|i _)
 rcases A:a.1.isEmpty with _|_
 .rw[A] at i;exact dZ<|y a.1 i
 rw[A] at i;exact aO<|gx bc<|y [32] i
abbrev FS:=List (List Nat)×Nat×Ps
def mz(d:Nat)(o:List Nat)(a:FS)(b:List Nat×List Nat):FS:=
 bif decide (d<a.2.1+fc (a.2.2++[b])) then b7 (sy o<|a.2.2++[b]) (bif decide (0<a.2.1) then(kB a.1 a.2.1<|ig a.2.2,0,[(bif b.1.isEmpty then[32] else b.1,b.2)]) else(a.1,a.2.1,a.2.2++[b]))
  λc=>(a.1++[cX<|(a.2.2++[b]).take c],0,(a.2.2++[b]).drop c)
 else(a.1,a.2.1,a.2.2++[b])
abbrev wS(b:Nat)(o:List Nat)(a:FS)(c:aN):aN:=cV b o a.1 a.2.1 a.2.2 c
def Z'(b:sy o a=some i):0<i/\i<=H a-1:=by
 refine aG (List.exists_of_findSome?_eq_some b) λc U b=>?_
 exact CY<|anl b
def acD(m:r[0]?=some (.loc 1)):gQ (cW "_splitchars" (af 0)) b c r (cV e o f g h j) (ua o) yes:=λk i l=>(yK (d:=.str o) (x:=.loc 1) (λn i l=>by
 show opt (r[0]?) λd=>qK d<|n d _
 rwa [m]) (yb (a:=1) au rfl au)) (λd p=>j0 p d k) i l
def aha(g:r[0]?=some (.loc 1)):aj (cW "_maxlen" (af 0)) b r (cV a o c d e f) (.int a):=yK (λi j k=>by
 show opt _ λh=>qK h _
 rwa [g]) (yb au rfl au)
def T3(q:H a<900)(w:c+fc (a++[(b,l)])<900)(x:∀d,(cX ((a++[(b,l)]).take d)).length+((a++[(b,l)]).take d).length<=lim)(r:vI c (ig a) e)(i:h .none (wS f o (mz f o (e,c,a) (b,l)) g)):aB (n+6) 149 [.loc 1,.str b,.str l] [] (cV f o e c a g) h j:=go rfl rfl rfl _ (λU i=>⟨aH,aH,i⟩) (by
 have s:(a++[(b,l)]).length=H a+1:=bq;have y:0<(a++[(b,l)]).length:=J s<|jo _;have m:(a++[(b,l)]).length<1000:=J s<|bz (l7 q) av;refine p3▸aO (pF (kU rfl) rfl au (c_ aq aq) cO<|A8 (bZ q av) ?_);suffices next:br [bX _ _ []] _ _ _ _ (λz A=>ko (cV f o e c a g).length z A j) from next;refine aO<|ek (I6 (Ig (kU rfl) rfl<|bZ w av)<|aha rfl) ?_;unfold mz at i;rcases t:decide _ with _|_
 .have i:=i;rw[t] at i;exact dZ<|ng rfl i
 have i:=i;rw[t] at i;refine aO<|lB (acD rfl)<|aem y m o (λd k u B D=>?_) (λp u B E D=>?_) _ _ _ _
 .have k:sy o _=some d:=k;rw[k] at i;exact Fs (az (Z' k).2<|l6 _ _) m (x d) r.l<|dZ<|ng rfl i
 have p:sy o _=none:=p;rw[p] at i;refine afe rfl m r λu=>?_
 cases v:decide (0<c) with
 |true=>rw[v] at i;exact ng rfl i
 |false=>rw[v] at i;exact ng rfl i)
def Ih(i:gU.lookup b=some d)(l:b<1000)(m:eO as c r a e)(n:c d (.loc (H a)::e) [] (a++[.inst b [] []]) (λf h=>f=.none/\j (.loc (H a)) h) cI):(aP (ah (.g b)) as [] [] c).v r a j k:=by
 show sel _ _<|b7 _ _ _;exact J (eS<|gO.mpr l)<|J i<|m _ k n
def ajK(e:a[b]?=some (.inst 236 d [])) (f:c .none a):Bo (.loc b) "__init__" [] a c:=Pw e<|rt au ⟨rfl,f⟩
def T4{f:aN}{g:Ok D}(h:f[a]?=some (.inst 236 [] [])) (e:g .none (f.set a (pn b []))):aB (c+1) 173 [.loc a,.int b] [] f g d:=go rfl rfl rfl [.loc a,.int b] (λU e=>⟨aH,aH,e⟩)
 (aO<|yS aq aq au h av<|aO<|ajK (Ge h) e)
def U2:lC (lC (lC (lC (lC (lC [] "_maxlen" (.int (a:Nat))) "_continuation_ws" (.str [32])) "_continuation_ws_len" (.int (1:Nat))) "_splitchars" (.str o)) "_lines" (.loc 2)) "_current_line" (.loc 3)=Mj a o:=au
def yA{h:Ok D}(e:h .none (cV a o [] b [] [])):aB (d+2) 93 [.loc 1,.int b,.int a,.str [32],.str o] [] [.tab,.inst 152 [] []] h c:=go rfl rfl rfl [.loc 1,.int b,.int a,.str [32],.str o] (λU e=>⟨aH,aH,e⟩) (by
 have f:∀{k:List (Str×D)},ia _ 40=true->H k<40:=fE;refine aO<|yS aq aq au rfl (f au)<|aO<|yS aq aq au rfl (f au)<|aO<|yS (λh c e=>e) aq au rfl (f au)<|aO<|yS aq aq au rfl (f au)<|aO ?_;have aA:qj (af 0) "_current_line" (aP (ah<|.g 236) [af 1] [] []) (aB<|d+1) [.loc 1,.int b,.int a,.str [32],.str o] [.tab,.inst 152 (lC (lC (lC (lC (lC [] "_maxlen"<|.int a) "_continuation_ws"<|.str [32]) "_continuation_ws_len"<|.int (1:Nat)) "_splitchars"<|.str o) "_lines"<|.loc 2) [],.lst []] (jq [] (aB<|d+1) (pZ VY [.tab,.inst 152 [] []] h) λi j=>ko [bI.tab,.inst 152 [] []].length i j c) λi j=>ko [bI.tab,.inst 152 [] []].length i j c:=by
  refine Ih au av (eg aq)<|T4 rfl ⟨rfl,?_⟩;refine⟨show qP.contains _=true by kernel_rfl,?_⟩;refine Dk rfl ⟨f au,?_⟩;show h .none [.tab,.inst 152 (lC _ "_current_line"<|.loc 3) [],.lst [],pn b []];rwa [U2]
 exact⟨(show qP.contains _=true by kernel_rfl),Dk rfl ⟨f au,aA⟩⟩)
structure FP(S:FS)(p:List Nat×List Nat):Prop where
 c:S.2.2.length<900
 z:S.2.1+fc (S.2.2++[p])<900
 s:∀i,(cX<|(S.2.2++[p]).take i).length+((S.2.2++[p]).take i).length<=lim
 S:vI S.2.1 (ig S.2.2) S.1
def agx(b:Ps):uG ((b.flatMap λa=>[a.1,a.2]).map .str) none=b.map fH:=by
 induction b with
 |nil=>rfl
 |cons a b c=>exact aZ _ c
def aiy:pG a none (some 0) [b]=b::a:=by
 show a.take 0++[b]++a.drop (max 0<|eN (H a) (0:Nat))=_;exact J (uc<|b9 _) rfl
noncomputable abbrev Ip(a b c d e:D):List D:=[.loc 1,a,b,c,d,e]
def sA(a:Nat)(o:List Nat)(b:Ps)(c:FS):FS:=b.foldl (mz a o) c
def aiW(l)(t):∀gH,(∀k g,l[k]?=some g->FP (sA h o (l.take k) gH) g)->∀a c d f b,(∀a b,K .next (Ip a c d f b) (wS h o (sA h o l gH) t))->lO yes (λj m p K q=>iU true [1,5] j m λs=>br [cU (bg "_append_chunk" (af 0) [af 1,af 5] [] [])] (aB (n+6)) s p K q) (br [] (aB (n+6))) (l.map fH) (Ip a c d f b) (wS h o gH t) K:=by
 induction l with
 |nil=>exactλgH U a c d f b i=>i a b
 |cons g l u=>
  intro gH eK a c d f b i;refine Mr ?_;show br [cU _] _ _ _ _ cI;have r:=eK 0 g rfl;refine aO<|pF (bN λU i=>i) rfl au (c_ (bN λU i=>i) (bN λU i=>i)) cO<|T3 r.c r.z r.s r.S ?_;exact⟨aQ,u _ (λk v e=>eK (k+1) v e) _ c d f _ i⟩
def aam(g:r[i]?=some (.loc b)) (h:a[b]?=some (.lst c)) (k:d (.lst c) (a.set b .dead)):(p9 i e).v r a d f:=by
 show opt _ λj=>mJ a j λl c=>d _ _
 rw[g];show bI.casesOn _ _ _ _ _;rwa [ez h]
def pE:Tg=[cA 4 (UQ (ah (.g 79)) "split" [aR .Add (af 1) (af 2)]),bX (aT (af 4) (ah (.int 0))) [wJ (af 4) bM (ah (.int 0)) (b8 false [ah (.str [])])] [cU (bg "pop" (af 4) [ah (.int 0)] [] [])],gv true [1,5] (yh (p9 4)) [cU (bg "_append_chunk" (af 0) [af 1,af 5] [] [])] []]:=au
def td{gH:FS}:fU 4 (wS a o gH []):=⟨aQ,⟨⟨aQ,aQ,aQ,aQ,show 2<4 by decide,show 3<4 by decide,aQ⟩,aQ⟩,p8 D.str (λU=>aQ) gH.1,⟨⟨aQ,aQ⟩,p8 fH (λU=>⟨aQ,aQ,aQ⟩) gH.2.2⟩,aQ⟩
def vr{gH:FS}(q:F3 l c d)(r:c≠[])(x:H l<=900)(m:H d<900)(eK:∀k a,(([],c)::d)[k]?=some a->FP (sA b o ((([],c)::d).take k) gH) a) (g:f .none (wS b o (sA b o (([],c)::d) gH) [])):aB (n+7) 142 [.loc 1,.str [],.str l,.str o] [] (wS b o gH []) f e:=go rfl rfl rfl _ (λU g=>⟨aH,aH,g⟩) (by
 have p:∀k,k<=2*900+2->k<=lim:=λk s=>az s aH
 have t:=EZ 2<|bF m;refine pE▸aO ⟨rfl,rfl,rfl,⟨p _ (az (by rwa [rJ,i8]) av),c,d,q,p _<|iI<|mT t,?_⟩⟩;suffices next:br [bX _ [wJ _ bM _ _] [cU _],gv true [1,5] _ [cU _] []] _ _ (wS b o gH [.lst<|(c::d.flatMap λa=>[a.1,a.2]).map .str]) _ (λh j=>ko (wS b o gH []).length h j e) from next;suffices y:br [gv true [1,5] (yh<|p9 4) [cU<|bg "_append_chunk" (af 0) [af 1,af 5] [] []] []] (aB<|n+6) (Ip (.str []) (.str l) (.str o) (.loc 4) .ai) (wS b o gH [.lst<|((([],c)::d).flatMap λa=>[a.1,a.2]).map .str]) (pZ MW (wS b o gH []) f) (λh j=>ko (wS b o gH []).length h j e) by
  have m:aj (aT (af 4) _) (aB<|n+6) (Ip (.str []) (.str l) (.str o) (.loc 4) .ai) (wS b o gH [.lst<|(c::d.flatMap λa=>[a.1,a.2]).map .str]) _:=uK (i:=0) aq bc (jl rfl) rfl;refine aO (ek (u:=true) (λk e g=>m (λv w=>mR _ v w k) e (show k _ _ by
   obtain _|_:=c
   .exact aW rfl r
   exact g)) (aO ⟨?_,?_⟩))
  .rw[aX];have:=Mp (λa:List Nat×List Nat=>[a.1,a.2]) (λU=>aS 2) d;exact p _<|j8 (k:=2)<|az this<|by rwa [hX]
  rwa [aiy]
 refine aO ⟨rfl,aam rfl rfl ?_⟩;have k:=aiW (n:=n) (K:=jq [] (aB<|n+6) (pZ MW (wS b o gH []) f) λh j=>ko (wS b o gH []).length h j e) _ [.dead] gH eK (.str []) (.str l) (.str o) (.loc 4) .ai λz A=>GX (bK:=wS b o (sA b o _ gH) []) trivial td g
 rwa [<-agx] at k)
noncomputable def bR(b c:List (List Nat))(d:List Nat):Ps:=d.map λa=>(b.getD a [],c.getD a [])
def CO(a:Ps)(b c:Nat):Bool:=qS b ((a[c]?.map (·.1)).getD [])||ltB b ((a[c-1]?.map (·.2)).getD [])
def jb(o:List Nat)(a:Ps):List Nat:=o.flatMap λb=>(down<|H a-1).filter<|CO a b
structure mY where
 rows:List (List Nat)
 line:List Nat
 head:Nat
 laid:List (List Nat)
def cutD(c:Nat)(o:List Nat)(b:List (List Nat))(a:mY)(k:Nat):Bool:=decide (c<a.head+fc (bR a.laid b<|a.line++[k]))&&!((jb o<|bR a.laid b<|a.line++[k]).isEmpty&&(a.head==0))
def qN(o:List Nat)(b:List (List Nat))(a:mY)(k:Nat):Nat:=(jb o (bR a.laid b<|a.line++[k])++[H a.line]).headD 0
def qm(c:Nat)(o:List Nat)(b:List (List Nat))(a:mY)(k:Nat):mY:=
 bif cutD c o b a k then⟨a.rows++[(a.line++[k]).take<|qN o b a k],(a.line++[k]).drop<|qN o b a k,0,a.laid.set k<|bif(a.laid.getD k []).isEmpty then[32] else a.laid.getD k []⟩ else⟨a.rows,a.line++[k],a.head,a.laid⟩
noncomputable abbrev gp(a:List Nat):D:=.lst (a.map λb=>.int (b:Nat))
def rx:Tj=[uS [g8 5,g8 6,g8 7] [b8 false [],b8 true [],Ma (ah (.g 1009)) [af 1]],gv false [8] (aP (ah (.g 1012)) [aP (ah (.g 1000)) [af 0] [] []] [] []) DY [],fj Im]:=au
noncomputable abbrev jX(a:List (List Nat)):D:=.lst<|a.map .str
abbrev lz(a G:List (List Nat))(head b:Nat)(o:List Nat)(c:List (List Nat))(d mk:Nat)(e f g h i:D):List D:=[jX a,jX G,.int head,.int b,.str o,.lst<|c.map gp,.loc d,.loc mk,e,f,g,h,i]
structure m8(W:aN)(AR mk:Nat)(line:List Nat)(laid:List (List Nat)):Prop where
 l:W[AR]?=some (.lst (line.map λi=>.int (i:Nat)))
 k:W[mk]?=some (.lst<|laid.map .str)
 ne:AR≠mk
structure FG(T laid:List (List Nat))(line:List Nat):Prop where
 t:∀j∈line,∃s,T[j]?=some s/\s≠[]
 g:∀i j,line[i+1]?=some j->∃s,laid[j]?=some s/\s≠[]
 fG:∀j∈line,∃s,laid[j]?=some s
def Ux(e:Nat):(bR b c d)[e]?=d[e]?.map λa=>(b.getD a [],c.getD a []):=d8
def Hq(d)(s f:List Nat)(g:s≠[])(h:f≠[]):∃a b,s.head?=some a/\f.getLast?=some b/\decide ([d]∈[[a],[b]])=(qS d s||ltB d f):=by
 obtain _|⟨a,s⟩:=s
 .exact aW rfl g
 rcases e:f.getLast? with _|b
 .exact aW (List.getLast?_eq_none_iff.mp e) h
 refine⟨a,b,rfl,rfl,?_⟩;have ao:qS d (a::s)=decide _:=rfl;have aA:ltB d f=decide (b=d):=by unfold ltB;exact J e rfl
 refine J ao<|J aA<|bH (Bool.decide_or ..)<|decide_eq_decide.mpr ⟨λc=>?_,λc=>?_⟩
 .obtain c|c:=cQ.mp c
  .exact .inl (List.cons.inj c).1.symm
  exact .inr (List.cons.inj<|dK.mp c).1.symm
 obtain rfl|rfl:=c
 .exact .head _
 exact .tail _<|.head _
def ahq(f:aj z a r b (.str l))(d:l.getLast?=some c):aj (aT z (gk (ah (.int 1)))) a r b (.str [c]):=by
 obtain rfl|⟨e,g,ao⟩:=xm l
 .contradiction
 rw[xj] at ao;subst ao;rw[xq] at d;exact kT f (q7 bc) λk h=>by
  show opt ((iA (-1) (e++[g]).length).bind _) _;rw[HO];show opt (_[H e]?) _;exact J EH<|J (bY d)<|h
def acI{d:Bool}(e:aj (af i) a r b (.str o)):gQ (af i) a d r b (o.map λc=>.str [c]) yes:=λk f g=>e (λh j=>j0 j h k) f g
def acH{f:Bool}(g:aj (af i) e r b (.loc c))(h:b[c]?=some (.lst d)):gQ (af i) e f r b d λa=>obj a c=.lst d:=λk j m=>g (λl a=>j0 a l k) j (by
 show bI.casesOn _ _ _ _ _;rwa [ez h])
def OA(f:aj (af 7) b r a (.loc mk))(g:aj z b r a (.int i))(h:m8 a d mk e c)(j:c[i]?=some l):aj (aT (af 7) z) b r a (.str l):=uK f g (jl h.k)<|iW j
def YB(d:aj (af 0) a r b (jX c))(e:aj z a r b (.int i))(f:c[i]?=some l):aj (aT (af 0) z) a r b (.str l):=uK d e rfl<|iW f
def Yr(g:aj (af 6) b r a (.loc c))(h:aj z b r a (.int i))(j:m8 a c mk d f)(k:d[i]?=some e):aj (aT (af 6) z) b r a (.int e):=uK g h (jl j.l)<|iW k
def Yq(f:aj (af 6) b r a (.loc c))(h:m8 a c mk d e):aj (aP (ah (.g 1000)) [af 6] [] []) b r a (.int (H d)):=by
 have:=sO f<|jl h.l;rwa [aX] at this
def gn{a:List y}{x b:y}(c:a[i]?=some x):a.getD i b=x:=J l0<|J c rfl
def UA:(jb o a).length<=H o*(H a-1):=Mp _ (λb=>az (EM _ _)<|di (by unfold down;exact J (aX ..)<|J kF rfl)) o
variable{L:List (List Nat)}
def ahm(u:m8 f d mk a c)(y:FG b c a)(z:0<H a)(A:H a<60)(O:H o<60):aj YK p (lz b L head g o h d mk j m q t n) f (gp (jb o (bR c b a))):=by
 have B:(bR c b a).length=H a:=aX _;have e:(o.flatMap λr=>((down<|H a-1).filter<|CO (bR c b a) r).map λl=>D.int (l:Nat))=(jb o<|bR c b a).map λl=>D.int (l:Nat):=by
  unfold jb;exact J JO<|J B rfl
 show aj _ p _ f<|.lst ((jb o _).map λl=>D.int _);refine bH e<|yL o (λU=>down _) (λP=>.str [P]) (λl=>.int _) _ (λU l=>.int l) (λr=>lz b L head g o h d mk j m .ai _ n) (λr l=>lz b L head g o h d mk j m _ _ n) (acI (bN λU i=>i)) trivial (λU U U i=>i)
  (λU U=>Wo (sP (Yq (bN λU i=>i) u) z)<|bz (l6 _ _)<|fF A<|by decide) trivial (λU U U U U i=>i) (λr U l v=>?_) (λU U U U U=>bN λU i=>i) ?_
 .obtain⟨E,Q⟩:=CY v;have v:=bz Q<|xy z zv;obtain⟨F,w⟩:=at_ v;obtain⟨G,x⟩:=at_<|bz (l6 l 1) v;refine aG (y.g _ F<|JX E▸w) λs K ns=>aG (y.t G<|eU x) λM N R=>(jN (Hq r s M ns R) λS T ao aA bL=>?_)
  have V:CO (bR c b a) r l=(qS r s||ltB r M):=by
   unfold CO;rw[Ux,Ux,w,x];show(qS r (c.getD F [])||ltB r (b.getD G []))=_;exact J (gn K)<|J (gn N) rfl
  exact J V<|bH bL<|lV (iY (bN λU i=>i) (jB (c_ (by
   obtain _|⟨W,s⟩:=s
   .contradiction
   have ao:=bY ao;exact kT (OA (bN λU i=>i) (Yr (bN λU i=>i) (bN λU i=>i) u w) u K) bc λk i=>by
    show opt ((iA (0:Nat)<|H s+1).bind _) _;rw[sV<|jo _];rwa [<-ao] at i) (ahq (YB (bN λU i=>i) (Yr (bN λU i=>i) (sP (bN λU i=>i) E) u x) N) aA))) λk i=>⟨[[S],[T]],rfl,i⟩)
 refine J e<|J (aX ..)<|az UA<|az (Q3 (bF O)<|az (l6 _ _)<|bF<|B▸A)<|fE rfl
def ad2:(b.map λa=>(((c.getD a []).length:Nat):Int)+(((d.getD a []).length:Nat):Int)).sum=(fc (bR c d b):Nat):=by
 induction b with
 |nil=>rfl
 |cons a b e=>
  rw[i6,BL,e];show _=((((c.getD a []).length+(d.getD a []).length+fc (bR c d b):Nat)):Int);exact J (u_ ..)<|J (u_ ..) rfl
def Yy(c:aj z a r b (.str l)):aj (aP (ah (.g 1000)) [z] [] []) a r b (.int (H l)):=λf d e=>c _ d e
def YA{l:List Int}(c:aj z a r b (.lst (l.map .int))):aj (aP (ah (.g 1003)) [z] [] []) a r b (.int l.sum):=λf d e=>c _ d ⟨l,rfl,e⟩
def ahl(u:m8 e d mk a c)(w:FG b c a)(B:H a<60):aj (aR .Add (af 2) (aP (ah (.g 1003)) [OG] [] [])) q (lz b L head f o h d mk j m t n p) e (.int (head+fc (bR c b a):Nat)):=by
 have v:aj OG q (lz b L head f o h d mk j m t n p) e (.lst (a.map λr=>.int<|(((c.getD r []).length:Nat):Int)+(((b.getD r []).length:Nat):Int))):=
  jA a (λD=>.int (D:Nat)) _ (λr=>lz b L head f o h d mk j m (.int (r:Nat)) n p) (acH aq u.l) (ez u.l) (λU U U i=>i) (λr x=>by
   obtain⟨s,y⟩:=w.fG r x;refine aG (w.t r x) λE z U=>?_
   rw[gn y,gn z];exact jz (Yy (OA aq aq u y)) (Yy (YB aq aq z)) λU i=>i) (ad7 B)
 have A:=YA (l:=a.map λr=>(((c.getD r []).length:Nat):Int)+(((b.getD r []).length:Nat):Int)) (by rw[dM];exact v);rw[ad2] at A;refine jz aq A λk i=>?_
 show k<|.int<|(head:Int)+(fc (bR c b a):Nat);rw[<-u_];exact i
where
 ad7 {l:List Nat} (v:H l<60):H l<=lim:=az (bF v) aH
def m8.app{b:aN}(a:m8 b i N l L)(x:bI):m8 (b++[x]) i N l L where
 l:=by rw[zl (fm.mp a.l).1];exact a.l
 k:=by rw[zl (fm.mp a.k).1];exact a.k
 ne:=a.ne
def m8.ln{c:aN}(b:m8 c i N l L)(d:List Nat):m8 (c.set i (.lst (d.map λa=>.int (a:Nat)))) i N d L where
 l:=Ge b.l
 k:=by rw[nL b.ne];exact b.k
 ne:=b.ne
def adq(b)(c):(b.map λa=>D.int (a:Nat))++[.int (c:Nat)]=(b++[c]).map λa=>D.int (a:Nat):=J dS rfl
def A3{e:X}(g:aj e a r b (.lst c))(h:aj d a r b f)(i:H c+1<=lim):aj (aR .Add e (b8 false [d])) a r b (.lst (c++[f])):=jz g (jW<|eg h) λk j=>⟨i,j⟩
def HG(a:k<5000):k+1<=lim:=az (l7 a) aH
def akT(v:m8 d f mk b g)(w:FG c g b)(x:H b<60)(y:H a<5000):dz YH j (lz c L head h o m f mk n (gp a) p q s) d (decide (h<head+fc (bR g c b))&&!(a.isEmpty&&(head==0))):=by
 have z:aj (aR .Add (af 9)<|b8 false [(af 2)]) j (lz c L head h o m f mk n (gp a) p q s) d (.lst<|(a.map λB=>D.int _)++[D.int _]):=A3 (bN λU i=>i) (bN λU i=>i)<|J (aX ..)<|HG y;exact nF (I8 (I6 (ahl v w x) (bN λU i=>i)) λU=>lV (iY z (jW (eg bc)) λk i=>by
  obtain _|⟨E,a⟩:=a
  .refine⟨⟨aQ,aQ⟩,λl=>?_,λl=>?_⟩
   .have t:=aZ (λr:D=>D.casesOn (motive_1:=λU=>Int) r 0 0 (λU=>0) (λU=>0) (λU=>0) (λU=>0) (λa=>fk a 0 λr U=>D.casesOn (motive_1:=λU=>Int) r 0 0 (λU=>0) id (λU=>0) (λU=>0) (λU=>0) (λU=>0) (λU=>0) λU U U U=>0) (λU=>0) (λU=>0) λU U U U=>0) l;rwa [show _=true from beq_iff_eq.mpr<|Int.ofNat_eq_zero.mp t] at i
   rwa [show _=false from jO λe=>l<|by exact J e rfl] at i
  refine⟨⟨aQ,?_⟩,λl=>?_,λU=>i⟩
  .cases a<;>trivial
  have t:=aZ (λr:D=>D.casesOn (motive_1:=λU=>Nat) r 0 0 (λU=>0) (λU=>0) (λU=>0) (λU=>0) (λa=>H a) (λU=>0) (λU=>0) λU U U U=>0) l;have u:=bq.symm.trans t;rw[aX] at u;exact aW u (gK.symm▸λA=>nomatch A)))
def ahj(g:aj z a r b (.str l))(h:aj c a r b (.str d)):aj (p_ [z,c]) a r b (.str (bif l.isEmpty then d else l)):=λi e f=>g _ e (by
 obtain _|⟨j,k⟩:=l
 .exact h _ e f
 exact f)
def ag7(d)(e)(f:aj z a r b (.lst ((d.map λc=>D.int (c:Nat))++[.int (e:Nat)]))):aj (aT z (ah (.int 0))) a r b (.int ((d++[e]).headD 0:Nat)):=by
 obtain _|⟨h,d⟩:=d
 .exact kT f bc λk g=>g
 exact uK f bc rfl rfl
def Fn(u:m8 c f mk a q)(y:q[i]?=some l) (B:0<H a) (Q:H a<60) (E:H b<5000) (F:H e<5000) (G:(b++[H a-1]).headD 0<=H a) (r:s .next (lz g L 0 h o (e++[a.take ((b++[H a-1]).headD 0)]) (H c) mk (.int i) (gp b) j m (.int ((b++[H a-1]).headD 0:Nat))) ((c++[bI.lst ((a.drop ((b++[H a-1]).headD 0)).map λd=>.int (d:Nat))]).set mk (.lst ((q.set i (bif l.isEmpty then[32] else l)).map .str)))):
 br YG n (lz g L head h o e f mk (.int i) (gp b) j m t) c s p:=by
 have R:=(fm.mp u.k).1;have K:=(fm.mp y).1;have M:aj (aR .Add (af 9) _) n (lz g L head h o e f mk (.int i) (gp b) j m t) c (.lst<|(b.map λd=>D.int _)++[D.int _]):=A3 (bN λU r=>r) (sP (Yq (bN λU r=>r) u) B)<|J (aX ..)<|HG E;refine aO<|gx (ag7 b _ M)<|aO ?_;generalize (b++[H a-1]).headD 0=cut at r G;have z:cut<=(a.map λd=>D.int (d:Nat)).length:=by rwa [aX]
 have N:aj (aR .Add (af 5)<|b8 false [eu false (af 6) bM (af 12) bM]) n (lz g L head h o e f mk (.int i) (gp b) j m<|.int cut) c (.lst<|(e++[a.take cut]).map gp):=by
  rw[dS];refine A3 (bN λU r=>r) (sQ (bN λU r=>r) iM (bN λU r=>r) iM λk r=>⟨(λw=>nomatch w),OR (jl u.l) _ ?_⟩)<|J (aX ..)<|HG F;rwa [X6 z,<-ER]
 have A:=u.app<|.lst ((a.drop cut).map λd=>.int (d:Nat));have O:aj (p_ [aT _<|af 8,ah<|.str [32]]) n (lz g L head h o e f mk (.int i) (gp b) j m<|.int cut) (c++[bI.lst ((a.drop cut).map λd=>.int _)]) _:=ahj (OA (bN λU r=>r) (bN λU r=>r) A y) bc;refine N _ p ?_;have P:∀{x:Ok D},x _ (c++[bI.lst ((a.drop cut).map λd=>.int _)])->(eu true (af 6) (af 12) bM bM n).v (lz g L head h o e f mk (.int i) (gp b) j m<|.int cut) c x p:=λ{x} r=>by
  refine⟨(λw=>nomatch w),OR (jl u.l) _ ?_⟩;rwa [pick_from z,<-EP]
 refine P<|O _ p ?_;show bI.casesOn (obj (c++[bI.lst ((a.drop cut).map λd=>.int _)]) mk) _ _ _ _;rw[ez A.k];show opt _ _;rw[sV<|by exact J (aX ..)<|K];show s .next _<|(c++[bI.lst ((a.drop cut).map λd=>.int _)]).set mk _;rwa [(List.map_set ..).symm]
def qi(a:Nat)(o:List Nat)(b:List (List Nat))(c:mY)(k:Nat):mY:=(b6 k).foldl (qm a o b) c
def OT:qi a o b c (k+1)=qm a o b (qi a o b c k) k:=by
 unfold qi;exact J ES<|J JK rfl
def U_(j:H a=N)(e:b.take N=a)(f:N<H b)(g:oY N c)(h:fU N a)(i:d c a):fin false N c b d:=by
 unfold fin;exact J (jO<|nP f)<|J e<|⟨g,h,i⟩
def yX{b:aN}(c:N<=i)(e:b.take N=a):(b.set i x).take N=a:=by rwa [anx c]
def Bp{x:bI}(c:N<=H a)(e:a.take N=b):(a++[x]).take N=b:=by rwa [hM c]
inductive xW(bK:aN)(T G:List (List Nat))(w:Nat)(o:List Nat)(ef:Nat->mY):Nat->List D->aN->Prop
 |mk (k:Nat) (W:aN) (AR:Nat) (ry rz fB iy gW:D) (H:m8 W AR (bK.length+1) (ef k).line (ef k).laid) (gC:bK.length<=AR) (VK:W.take bK.length=bK):xW bK T G w o ef k (lz T G (ef k).head w o (ef k).rows AR (bK.length+1) ry rz fB iy gW) W
structure KW(T:List (List Nat))(o:List Nat)(S:mY)(k:Nat):Prop where
 O:FG T S.laid (S.line++[k])
 Aw:(S.line++[k]).length<60
 cu:o.length<60
 VS:S.rows.length<5000
 cB:∃s,S.laid[k]?=some s
def VM(d:∀x∈a,x<=b)(e:c<=b):(a++[c]).headD 0<=b:=by
 obtain _|⟨x,a⟩:=a
 .exact e
 exact d x<|.head _
def Uz(b:i∈jb o a):i<=H a-1:=by
 exact aG (JP.mp b) λc U b=>((CY (BI.mp b).1).2)
def ah3{G:List (List Nat)}(v:ef (k+1)=qm w o T (ef k) k)(i:KW T o (ef k) k)(O:xW f T G w o ef k r a)(y:∀b c,xW f T G w o ef (k+1) b c->d .next b c):iU false [8] (.int k) r λg=>br DY h g a d cI:=by
 cases O with
 |mk _ z V W A B P D E Q=>
  show br DY h _ a d cI;have m:((ef k).line++[k]).length=(ef k).line.length+1:=bq;refine aO<|sU aq D.l aq ?_ ?_
  .exact J (aX ..)<|bH m<|az (bF i.Aw) aH
  rw[adq];have j:=D.ln<|(ef k).line++[k];have p:=yX (x:=.lst (((ef k).line++[k]).map λq=>.int (q:Nat))) E Q;generalize (a.set z<|.lst (((ef k).line++[k]).map λq=>.int _))=t at j p;have l:=(fm.mp j.k).1;have F:0<((ef k).line++[k]).length:=J m<|jo _;have K:(bR (ef k).laid T _).length=((ef k).line++[k]).length:=aX _;have L:(jb o _).length<5000:=bz (az UA<|Q3 (bF i.cu)<|az (l6 _ _)<|bF<|K▸i.Aw) av;refine aO<|gx (ahm j i.O F i.Aw i.cu)<|aO<|ek (u:=cutD w o T _ k) (akT j i.O i.Aw L) ?_;rcases M:cutD w o T _ k with _|_
  .have e:ef (k+1)=⟨(ef k).rows,(ef k).line++[k],(ef k).head,(ef k).laid⟩:=by rw[v];unfold qm;exact J M rfl
   have:=xW.mk (T:=T) (G:=G) (w:=w) (o:=o) (ef:=ef) (k+1) t z (.int k) (gp<|jb o<|bR (ef k).laid T<|(ef k).line++[k]) A B P (e▸j) E p;rw[e] at this;exact dZ<|y _ _ this
  obtain⟨s,N⟩:=i.cB;have R:((ef k).line++[k]).length-1=(ef k).line.length:=J m rfl;have e:ef (k+1)=⟨(ef k).rows++[((ef k).line++[k]).take<|qN o T (ef k) k],((ef k).line++[k]).drop<|qN o T (ef k) k,0,(ef k).laid.set k (bif s.isEmpty then[32] else s)⟩:=by
   rw[v];unfold qm;exact J M<|J (cond_true ..)<|J (gn N) rfl
  have aA:((jb o<|bR (ef k).laid T<|(ef k).line++[k])++[((ef k).line++[k]).length-1]).headD 0=qN o T (ef k) k:=J R rfl;refine Fn j N F i.Aw L i.VS (VM (λx S=>az (Uz S)<|K▸l6 _ _)<|l6 _ _) ?_;rw[aA];have:=xW.mk (T:=T) (G:=G) (w:=w) (o:=o) (ef:=ef) _ ((t++[bI.lst ((((ef k).line++[k]).drop _).map λq=>.int _)]).set _ _) (H t) (.int k) (gp<|jb o<|bR (ef k).laid T<|(ef k).line++[k]) A B (.int<|qN o T (ef k) k)
   (J e<|⟨by rw[nL<|kI l];exact iD,Ge<|zl l▸j.k,nP l⟩) (bF<|vg l) (yX (gy _)<|Bp (bF<|vg l) p)
  rw[e] at this;exact dZ<|y _ _ this
def ah4(i:m8 d e (H a+1) c f)(l:H a<=e)(r:d.take (H a)=a)(u:H b<5000)(eK:fU (H a) a)(v:g (.tup [.lst ((b++[c]).map gp),jX f]) a):fj Im h (lz j L head k o b e (H a+1) m n p q s) d (pZ VW a g) t:=by
 have w:=(fm.mp i.k).1;show bI.casesOn _ _ _ _ _;rw[ez i.l];refine⟨J (aX ..)<|HG u,?_⟩;show bI.casesOn _ _ _ _ _;rw[ez (show _[H a+1]?=_ by exact J (nL i.ne)<|i.k)];rw[show b.map gp++[gp c]=(b++[c]).map gp by exact J dS rfl];exact U_ rfl (yX (gy _)<|yX l r) (J gM<|J gM<|vg w) ⟨t8 gp (λx=>t8 (λy:Nat=>D.int y) (λU=>aQ) x) _,t8 D.str (λU=>aQ) f,aQ⟩ eK v
def xb(m:H a<1000)(eK:∀k,k<H a->KW a o (qi c o a ⟨[],[],head,L⟩ k) k)(n:(qi c o a ⟨[],[],head,L⟩ (H a)).rows.length<5000)(p:fU (H b) b)(i:d (.tup [.lst (((qi c o a ⟨[],[],head,L⟩ (H a)).rows++[(qi c o a ⟨[],[],head,L⟩ (H a)).line]).map gp),jX (qi c o a ⟨[],[],head,L⟩ (H a)).laid]) b):aB (f+1) 414 [jX a,jX L,.int head,.int c,.str o] [] b d h:=
 go rfl rfl rfl [jX a,jX L,.int head,.int c,.str o,.ai,.ai,.ai,.ai,.ai,.ai,.ai,.ai] (λU i=>⟨aH,aH,i⟩) (by
 refine rx▸aO ⟨rfl,rfl,?_⟩;suffices next:br [gv false [8] (aP (ah<|.g 1012) [aP (ah<|.g 1000) [af 0] [] []] [] []) DY [],fj Im] _ (lz a L head c o [] (H b) (b++[bI.lst []]).length .ai .ai .ai .ai .ai) _ _ (λq s=>ko (H b) q s h) from next;have ao:(b++[bI.lst []]).length=H b+1:=bq;have t:xW b a L c o (qi c o a ⟨[],[],head,L⟩) 0 _ _:=
  xW.mk 0 _ (H b) .ai .ai .ai .ai .ai ⟨by rw[zl<|J ao<|f6 _];exact iD,bH ao<|iD,kI<|f6 _⟩ (aS _) (Bp (J ao<|gy _)<|Bp (aS _)<|zm ..)
 have u:=by
  have:=sO (cf:=aB f) (r:=lz a L head c o [] (H b) (H b+1) .ai .ai .ai .ai .ai) (W:=(b++[bI.lst []])++[bI.lst<|L.map .str]) (e:=af 0) aq rfl;rwa [aX] at this
 refine J ao<|aO<|lB (AI u m)<|As _ _ (λv B r W e j k w=>?_) (λU U U U=>aQ) (λr W j=>?_) _ _ t
 .rw[d8] at e;refine aG (iQ.mp e) λD ao x=>?_;subst x
  obtain⟨l,aA⟩:=fm.mp ao;rw[EK] at aA;rw[kF] at l;exact bH aA<|ah3 OT (eK v l) j w
 rw[aX,kF] at j;cases j with
 |mk _ E F G K M N y z A=>exact dZ (aO (ah4 y z A n p i)))
noncomputable def oh(a:Nat):Bool:=J4 a
structure gR(T G:List (List Nat))(o:List Nat):Prop where
 n:T.length=7
 m:G.length=7
 t:∀(j:Nat) s,T[j]?=some s->s≠[]/\s.length<=3/\s.all (λc=>!oh c)=true
 fG:G[0]?=some []
 g:∀(j:Nat) s,G[j]?=some s->s.length<=2/\s.all isWs=true
 g1:∀(j:Nat) s,G[j+1]?=some s->s≠[]
 jU:∀c∈o,c=44\/c=32\/c=9
 afm:o.length<=3
def kj(b:List (List Nat))(a:mY):FS:=(a.rows.map λc=>cX<|bR a.laid b c,a.head,bR a.laid b a.line)
structure fu(T G:List (List Nat))(S:mY)(k:Nat):Prop where
 fl:S.rows.flatten++S.line=b6 k
 ne:0<k->S.line≠[]
 ld:S.laid=G\/S.laid=G.set 0 [32]
 hd:S.head<=4
 z:k=0->S.rows=[]/\S.laid=G
 uN:S.rows.length<=k
def abe(o:List Nat)(b:List Nat)(c:Nat->Nat->Bool):(o.flatMap λa=>b.filter (c a)).head?=o.findSome? λa=>b.find? (c a):=by
 induction o with
 |nil=>rfl
 |cons a o d=>
  rw[xo,List.head?_append,d,EG,List.head?_filter];cases b.find? _<;>rfl
def Y'(c:∀x∈l,a x=b x):l.find? a=l.find? b:=by
 induction l with
 |nil=>rfl
 |cons x l d=>exact J BG<|J BG<|J (c x<|.head _)<|J (d λe f=>c e<|.tail _ f) rfl
def Y2{b:Nat->Option Nat}(c:∀x∈l,a x=b x):l.findSome? a=l.findSome? b:=by
 induction l with
 |nil=>rfl
 |cons x g d=>exact J EG<|J EG<|J (c x<|.head _)<|J (d λe f=>c e<|.tail _ f) rfl
def Pj:rN (toS [44])=false/\rN (toS [32])=true/\rN (toS [9])=true:=⟨au,au,au⟩
def RM(a:Ps):Prop:=∀b∈a,b.1.all isWs=true
def aa8(a:l.all isWs=true):qS 44 l=false:=by
 obtain _|⟨b,l⟩:=l
 .rfl
 have c:=dQ.mp a b (.head _);refine eS λe=>?_
 rw[e] at c;contradiction
def Y1(d:∀b∈o,b=44\/b=32\/b=9)(f:RM a):sy o a=(jb o a).head? :=by
 unfold sy jb;exact J (abe ..)<|Y2 λg h=>Y' λc U=>by
  unfold sf CO;obtain rfl|rfl|rfl:=d g h
  .rw[Pj.1,amq];have:qS 44 ((a[c]?.map (·.1)).getD [])=false:=by
    rcases e:a[c]? with _|i
    .rfl
    exact aa8<|f i<|eU e
   rw[this]
  .rw[Pj.2.1,Qs]
  rw[Pj.2.2,Qs]
def abb:(a++[b]).headD 0=a.head?.getD b:=by cases a<;>rfl
def GD:bR a b (d++[c])=bR a b d++[(a.getD c [],b.getD c [])]:=by
 unfold bR;exact J dS rfl
def Uv(d:a=c++[b])(f:b.2≠[]):ig a=a:=by
 subst d;unfold ig;rw[xq];show(bif decide _ then _ else _)=_;exact J (eS λe=>f<|by rw[e]) rfl
def ae5(d:0<a):kB c a b=c++[cX b]:=by
 unfold kB;rw[gb<|bZ d<|cZ _ _];have:vR a b=false:=by
  unfold vR;exact J (jO<|nP d)<|J (amq ..) rfl
 exact J this rfl
def Dy(I:fu c L b k)(d:0<a):b.laid[a]?=L[a]? :=I.ld.elim (λe=>J e rfl) λe=>J e<|J (nL<|kI d) rfl
def WY(c:gR a L o)(I:fu a L b k):H b.laid=7:=I.ld.elim (λe=>J e<|c.m) λe=>J e<|J gM<|c.m
def adY(c:gR b L o)(I:fu b L a k):a.laid[0]?=some []\/a.laid[0]?=some [32]:=I.ld.elim (λe=>J e<|.inl c.fG) λe=>by
 exact J e<|.inr<|vd (by rw[c.m];decide)
def HF(d:gR a L o)(I:fu a L b k)(c:b.laid[i]?=some l):H l<=2/\l.all isWs=true:=by
 obtain _|i:=i
 .obtain e|e:=adY d I
  .rw[e] at c;exact(bY c)▸⟨av,rfl⟩
  rw[e] at c;exact(bY c)▸⟨av,rfl⟩
 exact d.g _ l<|by rwa [<-Dy I<|jo i]
def t4(c:gR a L o)(I:fu a L b k)(d):RM (bR b.laid a d):=λi f=>by
 refine aG (fC.mp f) λg U h=>?_;subst h
 rw[l0];rcases e:b.laid[g]? with _|s
 .rfl
 exact(HF c I e).2
def DA(I:fu c L a k)(d:b∈a.line):b<k:=fJ.mp<|I.fl▸lF _ d
def qF(b:gR a L o)(d:j<7):∃s,a[j]?=some s/\s≠[]/\H s<=3:=by
 obtain⟨s,c⟩:=at_<|b.n▸d;exact⟨s,c,(b.t j s c).1,(b.t j s c).2.1⟩
def AM(d:gR a L o)(I:fu a L b k)(e:c<7):∃s,b.laid[c]?=some s:=at_<|WY d I▸e
def ZD{a:List y}{x:y}(b:a[i]?=some x):a.set i x=a:=by
 obtain⟨c,rfl⟩:=fm.mp b;exact hJ c
def Em(d:cutD b o c a k=false):qm b o c a k=⟨a.rows,a.line++[k],a.head,a.laid⟩:=by unfold qm;exact J d rfl
def IS(d:cutD c o b a k=true):qm c o b a k=⟨a.rows++[(a.line++[k]).take (qN o b a k)],(a.line++[k]).drop (qN o b a k),0,a.laid.set k (bif(a.laid.getD k []).isEmpty then[32] else a.laid.getD k [])⟩:=by unfold qm;exact J d rfl
def Uj(d:decide (c<a.2.1+fc (a.2.2++[b]))=false):mz c o a b=(a.1,a.2.1,a.2.2++[b]):=by unfold mz;exact J d rfl
def zr(c:decide (b<F.2.1+fc (F.2.2++[a]))=true)(d:sy o (F.2.2++[a])=some i):mz b o F a=(F.1++[cX ((F.2.2++[a]).take i)],0,(F.2.2++[a]).drop i):=by unfold mz;exact J c<|J d rfl
def Uk(c:decide (b<F.2.1+fc (F.2.2++[a]))=true)(d:sy o (F.2.2++[a])=none)(e:0<F.2.1):mz b o F a=(kB F.1 F.2.1 (ig F.2.2),0,[(bif a.1.isEmpty then[32] else a.1,a.2)]):=by unfold mz;exact J c<|J d<|J (gb e) rfl
def Ul(d:decide (c<a.2.1+fc (a.2.2++[b]))=true)(e:sy o (a.2.2++[b])=none)(f:a.2.1=0):mz c o a b=(a.1,a.2.1,a.2.2++[b]):=by unfold mz;exact J d<|J e<|J (eS<|f▸oG 0) rfl
def aiL(g:gR a L o)(I:fu a L c 0):mz b o (kj a c) (L.getD 0 [],a.getD 0 [])=kj a (qm b o a c 0):=by
 obtain⟨k,h,head,d⟩:=c;obtain⟨ao,aA⟩:=I.z rfl;have ao:=ao;have bL:h=[]:=by have:=I.fl;rw[show(⟨k,h,head,d⟩:mY).rows=[] from ao] at this;exact this
 subst ao aA bL;have fG:d.getD 0 []=[]:=gn g.fG;have e:bR d a [0]=[([],a.getD 0 [])]:=by show[(d.getD 0 [],a.getD 0 [])]=_;exact J fG rfl
 have i:sy o [([],a.getD 0 [])]=none:=List.findSome?_eq_none_iff.mpr λl U=>rfl
 have j:jb o (bR d a [0])=[]:=List.flatMap_eq_nil_iff.mpr λl U=>J e rfl
 rw[fG];rcases f:decide (b<head+fc [_]) with _|_
 .rw[Uj f,Em (by show(decide (b<head+fc (bR d a [0]))&&_)=false;exact J e<|J f rfl)];show _=(_,head,bR d a [0]);exact J e rfl
 obtain _|head:=head
 .rw[Ul f i rfl,Em (by show(_&&!((jb o<|bR d a [0]).isEmpty&&_))=false;exact J j<|zc _)];show _=(_,0,bR d a [0]);exact J e rfl
 have m:qN o a ⟨[],[],head+1,d⟩ 0=0:=by show(jb o (bR d a [0])++[0]).headD 0=0;exact J j rfl
 rw[Uk f i<|jo _,IS (by show(decide (b<head+1+fc (bR d a [0]))&&!((jb o _).isEmpty&&_))=true;rw[e,f];exact J (show(head+1==0)=false from rfl)<|J (zc ..) rfl),m];show(kB [] (head+1) _,0,[_])=([cX []],0,[((d.set 0 _).getD 0 [],a.getD 0 [])]);exact J fG<|J (gn<|vd (by rw[g.m];decide)) rfl
def aiM(f:gR b L o)(I:fu b L a (k+1))(q:k+1<7):mz c o (kj b a) (L.getD (k+1) [],b.getD (k+1) [])=kj b (qm c o b a (k+1)):=by
 obtain⟨d,j⟩:=AM f I q;have t:=(Dy I<|jo k).symm.trans j;have x:=f.g1 k d t;refine dm (qF f q) λg r B U=>?_
 rw[gn t,gn r];have ao:bR a.laid b (a.line++[k+1])=bR a.laid b a.line++[(d,g)]:=J GD<|J (gn j)<|J (gn r) rfl;have u:d.isEmpty=false:=by cases d with
  |nil=>exact aW rfl x
  |cons=>rfl
 have v:a.laid.set (k+1) (bif(a.laid.getD (k+1) []).isEmpty then[32] else a.laid.getD (k+1) [])=a.laid:=J (gn j)<|J u<|ZD j;have l:=Y1 f.jU<|ao▸t4 f I _;have bT:cutD c o b a (k+1)=(decide (c<a.head+fc (bR a.laid b a.line++[(d,g)]))&&!((jb o<|bR a.laid b a.line++[(d,g)]).isEmpty&&(a.head==0))):=by unfold cutD;exact J ao rfl
 have m:qN o b a (k+1)=(jb o<|bR a.laid b a.line++[(d,g)]).head?.getD (H a.line):=by unfold qN;exact J ao<|abb
 rcases h:decide (c<a.head+fc (bR a.laid b a.line++[_])) with _|_
 .rw[Uj h,Em (by rw[bT,h];rfl)];show _=(_,a.head,bR a.laid b _);exact J ao rfl
 rw[h] at bT;rcases n:(jb o _).head? with _|p
 .have nn:(jb o<|bR a.laid b a.line++[(d,g)]).isEmpty=true:=J (List.head?_eq_none_iff.mp n) rfl;rw[nn] at bT;rw[n] at l m;rcases i:(a.head==0) with _|_
  .rw[i] at bT;have w:=anJ<|beq_eq_false_iff_ne.mp i;rw[Uk (F:=kj b a) h l w,IS bT,m,v];show(kB (a.rows.map λs=>cX _) a.head<|ig<|bR a.laid b a.line,0,[_])=((a.rows++[(a.line++[k+1]).take<|H a.line]).map λs=>cX _,0,bR a.laid b<|(a.line++[k+1]).drop<|H a.line);rw[ae5 w,u,hN,hq,dS];have y:ig (bR a.laid b a.line)=bR a.laid b a.line:=by
    obtain e|⟨D,E,e⟩:=xm a.line
    .exact aW e<|I.ne<|jo _
    rw[xj] at e;refine dm (qF f<|fF (DA I<|e▸lF _ (.head _)) q) λG z A U=>?_
    exact J e<|J GD<|Uv rfl<|gn z▸A
   rw[y];show _=(_,0,[(a.laid.getD _ [],b.getD _ [])]);exact J (gn j)<|J (gn r) rfl
  rw[i] at bT;rw[Ul h l<|ck i,Em bT];show _=(_,a.head,bR a.laid b _);exact J ao rfl
 have nn:(jb o<|bR a.laid b a.line++[(d,g)]).isEmpty=false:=by
  rcases i:jb o _ with _|_
  .rw[i] at n;contradiction
  rfl
 rw[nn] at bT;rw[n] at l m;rw[zr (F:=kj b a) h l,IS bT,m,v];show _=((a.rows++[(a.line++[k+1]).take p]).map λs=>cX _,0,bR a.laid b<|(a.line++[k+1]).drop p);rw[dS,show bR a.laid b _=(bR a.laid b a.line++[_]).drop p by exact bH ao<|(EP ..).symm▸rfl];show _=(a.rows.map (λs=>cX _)++[cX _],0,_);rw[show bR a.laid b _=(bR a.laid b a.line++[_]).take p by exact bH ao<|(ER ..).symm▸rfl]
 rfl
def fu.step(d:gR a L o)(I:fu a L b k)(i:k<7):fu a L (qm c o a b k) (k+1):=by
 rcases h:cutD c o a b k with _|_
 .exact J (Em h)<|⟨by rw[<-eT,I.fl,ES],λU=>(λe=>nomatch (JH.mp e).2),I.ld,I.hd,(λe=>nomatch e),mT I.uN⟩
 refine J (IS h)<|⟨?_,λU e=>?_,?_,b9 _,(λe=>nomatch e),?_⟩
 .exact J hv<|J qs<|J QM<|J (dR ..)<|J (eT ..)<|J (hL ..)<|bH (eT ..)<|J I.fl<|J ES rfl
 .have e:=QK.mp e;rw[bq] at e;exact aW (az e (by
   have e:(bR b.laid a<|b.line++[k]).length-1=H b.line:=by
    unfold bR;exact J (aX ..)<|J bq rfl
   exact VM (λx j=>e▸Uz j) (aS _))) (JW _)
 .obtain _|k:=k
  .exact J ((I.z rfl).2)<|J (gn d.fG)<|.inr rfl
  obtain⟨f,g⟩:=AM d I i;have l:=d.g1 k f<|(Dy I<|jo k).symm.trans g;have m:f.isEmpty=false:=by cases f with
   |nil=>exact aW rfl l
   |cons=>rfl
  exact J (gn g)<|J m<|J (cond_false ..)<|J (ZD g)<|I.ld
 exact J bq<|iI I.uN
def fu.start(d:gR a L o)(c:b<=4):fu a L ⟨[],[],b,L⟩ 0:=⟨rfl,(λe=>nomatch e),.inl rfl,c,λU=>⟨rfl,rfl⟩,aS 0⟩
def fu.at(d:gR a L o)(f:b<=4)(k)(e:k<=7):fu a L (qi c o a ⟨[],[],b,L⟩ k) k:=by
 induction k with
 |zero=>exact fu.start d f
 |succ k g=>exact J OT<|(g<|bF e).step d e
def AN(c:Nat)(d:∀b∈a,H b.1+H b.2<=c):fc a<=H a*c:=by
 induction a with
 |nil=>exact b9 _
 |cons b a e=>
  show _+fc a<=_;exact J gK<|J (BU ..)<|J (h_ ..)<|d9 (e λf g=>d f<|.tail _ g)<|d b<|.head _
def Bm:(cX a).length=fc a:=by
 unfold cX fc;induction a with
 |nil=>rfl
 |cons c a b=>
  exact J i6<|J qs<|J bq<|J bq<|J b rfl
def mf(b:Ps):Prop:=∀a∈b,H a.1+H a.2<=5
def IJ(f:gR a L o)(I:fu a L b k)(g):mf (bR b.laid a g):=λj h=>by
 refine aG (fC.mp h) λc U i=>?_;subst i
 refine d9 (d:=3) ?_ ?_
 .rw[l0];rcases e:b.laid[c]? with _|s
  .exact b9 _
  exact(HF f I e).1
 show(a.getD c []).length<=3;rw[l0];rcases e:a[c]? with _|s
 .exact b9 _
 exact(f.t c s e).2.1
def yC(I:fu b L a k):H a.line<=k:=by
 have:=aZ EL I.fl;rw[bq,kF] at this;exact bH this<|fS _ _
def YY(I:fu c L a k)(e:b∈a.rows):H b<=k:=by
 have d:=aZ EL I.fl;rw[bq,kF] at d;exact az ((hK e).length_le)<|d▸cZ _ _
def yg:(bR b c a).length=H a:=aX _
def NT{a:List (List y)}(b:∀s∈a,H s<=N):(a.getLast?.getD []).length<=N:=by
 rcases e:a.getLast? with _|s
 .exact b9 _
 exact b s<|List.mem_of_getLast? e
def Uu(c:gR b L o)(I:fu b L a k)(d:k<=7)(f:0<k):ig (bR a.laid b a.line)=bR a.laid b a.line:=by
 obtain e|⟨i,j,e⟩:=xm a.line
 .exact aW e<|I.ne f
 rw[xj] at e;refine dm (qF c<|bZ (DA I<|e▸lF _ (.head _)) d) λl g h U=>?_
 exact J e<|J GD<|Uv rfl<|gn g▸h
def ZR(d:gR b L o)(I:fu b L a k)(c:k<=7):vI a.head (ig (bR a.laid b a.line)) (kj b a).1:=by
 have f:(kj b a).1.length<900:=by
  show(a.rows.map _).length<900;exact J (aX ..)<|bz (az I.uN c) av
 have g:((kj b a).1.getLast?.getD []).length<=900:=NT λs j=>by
  refine aG (fC.mp j) λl m n=>?_;subst n
  exact J Bm<|az (AN 5<|IJ d I l)<|az (xx 5<|yg▸az (YY I m) c) av
 obtain _|k:=k
 .have e:=(JH.mp I.fl).2;rw[e];show vI a.head [_] _;exact⟨bz I.hd av,av,f,g⟩
 rw[Uu d I c<|jo k];have h:(bR a.laid b a.line).length<=7:=J yg<|az (yC I) c;have i:=az (AN 5<|IJ d I _)<|xx 5 h;exact⟨bz (d9 I.hd i) av,J Bm<|az (d9 i h) av,f,g⟩
def ahU(e:gR a L o)(I:fu a L b k)(f:k<7):FP (kj a b) (L.getD k [],a.getD k []):=by
 have g:∀d∈bR b.laid a b.line++[(L.getD k [],a.getD k [])],H d.1+H d.2<=5:=λd c=>by
  obtain c|c:=i7.mp c
  .exact IJ e I _ d c
  refine J (dK.mp c)<|dm (qF e f) λq l U m=>?_
  obtain⟨n,h⟩:=at_<|e.m▸f;exact J (gn l)<|J (gn h)<|d9 (e.g k n h).1 m
 have i:(bR b.laid a b.line++[(L.getD k [],a.getD k [])]).length<=7:=by
  exact J bq<|J yg<|l7<|bz (yC I) f
 refine⟨by show(bR b.laid a b.line).length<900;exact J yg<|bz (yC I)<|fF f av,bz (d9 I.hd<|az (AN 5 g)<|xx 5 i) av,λp=>?_,ZR e I<|bF f⟩;have j:((bR b.laid a b.line++[_]).take p).length<=7:=az (JM ..) i;exact az (d9 (Bm▸az (AN 5 λd c=>g d<|anm c) (xx 5 j)) j) aH
def akP(g:gR b L o)(I:fu b L a k)(d:k<7):KW b o a k where
 O:=⟨λc h=>by
  have:c<7:=(i7.mp h).elim (λf=>fF (DA I f) d) λf=>(dK.mp f)▸d
  refine dm (qF g this) λn p q U=>?_
  exact⟨n,p,q⟩,λr c h=>by
  have i:0<c/\c<7:=by
   have e:(a.rows.flatten++(a.line++[k]))[H a.rows.flatten+(r+1)]?=some c:=by rw[QN<|cZ _ _,BN];exact h
   rw[<-eT,I.fl,<-ES] at e;obtain⟨l,j⟩:=fm.mp e;rw[EK] at j;rw[kF] at l;exact⟨j▸jo _,j▸bZ l d⟩
  obtain⟨s,m⟩:=AM g I i.2;obtain _|c:=c
  .exact aW i.1<|oG 0
  exact⟨s,m,g.g1 c s ((Dy I i.1).symm.trans m)⟩,λc h=>AM g I ((i7.mp h).elim (λf=>fF (DA I f) d) λf=>(dK.mp f)▸d)⟩
 Aw:=by rw[bq];exact bz (l7<|bz (yC I) d) av
 cu:=bz g.afm av
 VS:=bz (az I.uN<|bF d) av
 cB:=AM g I d
noncomputable def gt(b G:List (List Nat)):Ps:=(b6 7).map λa=>(G.getD a [],b.getD a [])
noncomputable abbrev Sk(G:List (List Nat))(a:Nat):mY:=⟨[],[],a,G⟩
def KQ(a:Nat)(o:List Nat)(b G:List (List Nat))(c:Nat):mY:=qi a o b (Sk G c) 7
def wi(b:List (List Nat))(a:mY):List (List Nat):=(a.rows++[a.line]).map λc=>cX<|bR a.laid b c
def aai{d:Ps}(e:d[k]?=some b):sA a o (d.take (k+1)) c=mz a o (sA a o (d.take k) c) b:=by
 unfold sA;exact J QY<|J e<|J JK rfl
def VC(b:k<7):(gt a L)[k]?=some (L.getD k [],a.getD k []):=by
 unfold gt;exact J d8<|J (EJ b) rfl
def sim(c:gR a L o)(e:b<=4)(k)(d:k<=7):sA w o ((gt a L).take k) ([],b,[])=kj a (qi w o a (Sk L b) k):=by
 induction k with
 |zero=>rfl
 |succ k f=>
  rw[aai<|VC d,f<|bF d,OT];obtain _|k:=k
  .exact aiL c<|fu.start c e
  exact aiM c (fu.at c e _<|bF d) d
def MG:(gt a L).length=7:=by unfold gt;exact J (aX ..) rfl
def ahV(d:gR a L o)(f:b<=4)(k)(g)(e:(gt a L)[k]?=some g):FP (sA w o ((gt a L).take k) ([],b,[])) g:=by
 have c:=by have:=(fm.mp e).1;rwa [MG] at this
 rw[sim d f k<|bF c];rw[VC c] at e;exact(bY e)▸ahU d (fu.at d f k<|bF c) c
def eJ(b:isWs a=true):oh a=true:=by
 obtain b|b:=(lY ..).mp b
 .rw[ck b];kernel_rfl
 rw[ck b];kernel_rfl
def Xu(b:l.all (λa=>!oh a)=true):l.any isWs=false:=by
 rw[List.any_eq_false];exactλa c e=>by
  have:=dQ.mp b a c;rw[eJ e] at this;contradiction
def aaO(d:gR b L o):∃a c,gt b L=([],a)::c/\F3 (cX (gt b L)) a c/\a≠[]/\H c=6:=by
 refine dm (qF d (j:=0) av) λa f h U=>?_
 have e:gt b L=([],a)::((b6 6).map λj=>(L.getD (j+1) [],b.getD (j+1) [])):=by
  show(L.getD 0 [],b.getD 0 [])::_=_;exact J (gn d.fG)<|J (gn f) rfl
 refine⟨a,_,e,⟨?_,Xu (d.t 0 a f).2.2,λn l=>?_⟩,h,J (aX ..) rfl⟩
 .rw[e];unfold cX;exact J i6 rfl
 refine aG (fC.mp l) λj g m=>?_;subst m
 have g:j+1<7:=JZ<|fJ.mp g;refine dm (qF d g) λa f h U=>?_
 obtain⟨k,i⟩:=at_<|d.m▸g;exact J (gn f)<|J (gn i)<|⟨d.g1 j k i,(d.g _ k i).2,h,Xu (d.t _ a f).2.2⟩
def VD(c:gR a L o):(cX (gt a L)).length<=900:=by
 refine J Bm<|az (AN 5 λk e=>?_) (by rw[MG];decide);refine aG (fC.mp e) λf b g=>?_;subst g
 have b:=fJ.mp b;refine dm (qF c b) λl h U i=>?_
 obtain⟨j,d⟩:=at_<|c.m▸b;exact J (gn h)<|J (gn d)<|d9 (c.g f j d).1 i
def pd(g:gR a L o)(h:b<=4)(k:c .none (wS w o (kj a (KQ w o a L b)) [])):aB (d+7) 142 [.loc 1,.str [],.str (cX (gt a L)),.str o] [] (cV w o [] b [] []) c f:=by
 refine x9 (aaO g) λp q e l m n=>?_
 have i:=ahV (w:=w) g h;have j:=(by
  have:=sim (w:=w) g h 7<|aS 7;rwa [ET (di MG)] at this)
 rw[e] at i j;exact vr (gH:=([],b,[])) l m (VD g) (by rw[n];decide) i<|j▸k
def afg(b:a∈l)(c:oh a=false):rN (toS l)=false:=by
 show(decide _&&l.toArray.all J4)=false;have:l.toArray.all J4=false:=by
  rw[List.all_toArray,List.all_eq_false];exact⟨a,b,J (show J4 a=false from c)<|gX⟩
 exact J this<|J (zc ..) rfl
def Z8(d:a∈b)(e:c∈a.2):c∈cX b:=hC.mpr ⟨a.1++a.2,fC.mpr ⟨a,d,rfl⟩,lF _ e⟩
def ae4(h:gR b L o)(I:fu b L a k)(n:k<=7)(p:0<k):kB c a.head (bR a.laid b a.line)=c++[cX (bR a.laid b a.line)]:=by
 obtain e|⟨t,i,e⟩:=xm a.line
 .exact aW e<|I.ne p
 rw[xj] at e;refine dm (qF h<|bZ (DA I<|e▸lF _ (.head _)) n) λd j q U=>?_
 have l:(a.laid.getD i [],d)∈bR a.laid b a.line:=by
  exact J e<|J GD<|J (gn j)<|lF _<|.head _
 obtain⟨f,g⟩:=List.exists_mem_of_ne_nil d q;have r:oh f=false:=by
  have:=dQ.mp (h.t i d j).2.2 f g;rcases s:oh f with _|_
  .rfl
  rw[s] at this;contradiction
 have m:0<fc (bR a.laid b a.line):=by
  exact bH Bm<|List.length_pos_of_mem<|Z8 l g
 unfold kB;rw[gb<|bZ m<|fS _ _];have:vR a.head (bR a.laid b a.line)=false:=by
  unfold vR;exact J (afg (Z8 l g) r)<|J (jO<|nP<|bZ m<|fS _ _)<|zc _
 exact J this rfl
def Wy(b:Nat)(c:∀s∈a,H s<=b):(dU [10] a).length<=H a*(b+1):=by
 induction a with
 |nil=>exact b9 _
 |cons x a e=>
  have d:=c x<|.head _;have:=e λs f=>c s<|.tail _ f
  rw[gK,BU];obtain _|⟨g,a⟩:=a
  .exact az d<|az (gy b)<|fS _ _
  show(x++[10]++dU [10] (g::a)).length<=_;exact J bq<|J bq<|J (h_ ..)<|d9 this<|d9 d<|aS 1
def XY(e:gR a L o)(I:fu a L b 7):(∀s∈wi a b,H s<=35)/\(wi a b).length<=8:=by
 refine⟨λs f=>?_,?_⟩
 .refine aG (fC.mp f) λd g h=>?_;subst h
  rw[Bm];have i:(bR b.laid a d).length<=7:=by
   exact J yg<|(i7.mp g).elim (λc=>YY I c) λc=>(dK.mp c)▸yC I
  exact az (AN 5<|IJ e I d)<|xx 5 i
 unfold wi;exact J (aX ..)<|J bq<|iI I.uN
def Nk(c:∀s∈a,H s<=36)(b:H a<=8):(dU [10] a).length+H a<=lim:=az (d9 (az (Wy 36 c)<|xx 37 b) b) aH
def agt(e:gR b L o)(I:fu b L a 7)(g:Q (.str (dU [10] (wi b a))) (cV c o (wi b a) 0 [] d)):aB (n+5) 100 [.loc 1,.str [10]] [] (cV c o (kj b a).1 a.head (bR a.laid b a.line++[([32],[])]) d) Q Z:=by
 have ao:ig (bR a.laid b a.line++[([32],[])])=bR a.laid b a.line:=by
  unfold ig;exact J xq<|J EE rfl
 have aA:kB (kj b a).1 a.head (bR a.laid b a.line)=wi b a:=by
  rw[ae4 e I (aS 7) av];unfold wi;exact J dS rfl
 have f:=XY e I;have jj:=ZR e I<|aS 7;rw[Uu e I (aS 7) av] at jj;refine TY ?_ (ao.symm▸jj) (J ao<|J aA<|Nk (λs h=>mT<|f.1 s h) f.2)<|J ao<|J aA<|g;exact J bq<|J yg<|bz (iI<|yC I) av
def me(d:gR a L o)(e:b<=4):fu a L (KQ c o a L b) 7:=fu.at d e 7<|aS 7
noncomputable def atC(xs:List Nat)(a b:Nat):Bool:=decide (xs[b]?=some a)
def ajA:apl (toS xs) (toS [a]) i=atC xs a i:=by
 show(xs.toArray.extract i (i+1)==#[a])=_;have e:(xs.toArray.extract i<|i+1).toList=(xs.drop i).take 1:=by
  exact J Array.toList_extract<|J List.extract_eq_take_drop<|J (BN ..) rfl
 have aA:(xs.drop i).take 1=(xs[i]?).toList:=by
  rcases b:xs[i]? with _|x
  .exact J (hp<|EI.mp b) rfl
  obtain⟨d,rfl⟩:=fm.mp b;exact J (ho d) rfl
 refine zd.mpr ⟨λb=>?_,λb=>?_⟩
 .have b:=aZ amm (ck b);rw[e,aA] at b;refine gb ?_;rcases c:xs[i]? with _|x
  .rw[c] at b;contradiction
  rw[c] at b;exact J ((List.cons.inj b).1) rfl
 refine beq_iff_eq.mpr (fb.mp ?_);rw[e,aA,eB b];rfl
def afr(d)(j:H xs=d):∀b a st,a+b<=d+1->st.2<=a->st.1.size<=a->(forIn (jn a b) st (an7 (toS xs) (toS [c]) d (d+1))).run.1.toList=st.1.toList++(jn a b).filter (atC xs c):=λb=>by
 induction b with
 |zero=>exactλa st U U U=>(dR _).symm
 |succ b f=>
  intro a st g h e;rw[JR,JL,oE];have i:a+1+b<=d+1:=J (gE ..)<|J (h_ 1 b)<|g;unfold an7;rw[ajA];rcases k:atC xs c a with _|_
  .exact J (cE λl=>gX l.2)<|f _ st i (mT h)<|mT e
  have m:=j▸(fm.mp<|eB k).1;rw[dI ⟨⟨⟨oH<|az e<|rM<|bZ (tM<|jo b) g,h⟩,m⟩,rfl⟩];have:=f _ (st.1.push a,a+1) i (aS _)<|J (aml ..)<|iI e;rwa [Qp,eT] at this
def hit(c:Nat)(d:List Nat):Nat->List Nat:=List.rec (λU=>[]) (λe U b a=>bif e==c then a::b (a+1) else b<|a+1) d
def UL(d:l.drop a=b::c):l[a]?=some b/\l.drop (a+1)=c:=by
 refine⟨?_,?_⟩
 .have:=aZ (λe=>e[0]?) d;rwa [QO] at this
 exact bH am8<|J d rfl
def abp(c):∀a,xs.drop a=c->(jn a (H c+1)).filter (atC xs b)=hit b c a:=by
 induction c with
 |nil=>
  intro a d;have e:atC xs b a=false:=eS (J (tK<|QK.mp d)<|λe=>nomatch e);show(a::[]).filter _=[];exact J oE<|J e rfl
 |cons f c h=>
  intro a d;obtain⟨i,j⟩:=UL d;rw[gK,JR,oE,h _ j];have e:atC xs b a=(f==b):=by
   unfold atC;exact J i<|zd.mpr ⟨λg=>beq_iff_eq.mpr<|bY<|eB g,λg=>gb<|aZ some<|ck g⟩
  rw[e];show _=bif f==b then a::hit b c _ else hit b c _
  cases f==b<;>rfl
def VN(c:l.contains a=false):∀b,hit a (l++ys) b=hit a ys (b+H l):=by
 induction l with
 |nil=>exactλb=>rfl
 |cons d l g=>
  intro b;rw[am7] at c;obtain⟨f,h⟩:=fo.mp c;show(bif d==a then b::hit a _ _ else hit a (l++ys) _)=_;have e:(d==a)=false:=by rw[Jv,ne_eq,beq_iff_eq] at f⊢;exactλe=>f e.symm
  exact J e<|J (cond_false ..)<|J (g h _)<|J gK<|J (gE ..)<|J (h_ 1 ..) rfl
def ae{a:Str}(b:x.cps.toList=a.cps.toList):x=a:=Str.ext'<|fb.mp b
def ax:Qu (toS xs) a b=toS ((xs.drop a).take (b-a)):=ae<|J (StrLaws.strSub_toList ..) rfl
def agy(d):∀b s,(∀c∈s::d,c.contains a=false)->xs.drop b=dU [a] (s::d)->J2 (toS xs) 1 b (hit a (dU [a] (s::d)) b)=(s::d).map toS:=by
 induction d with
 |nil=>
  intro b s f e;have h:hit a (dU [a] [s]) b=[]:=by
   have:=VN (ys:=[]) (f s<|.head _) b;rwa [dR] at this
  rw[h];show[Qu _ b (toS xs).length]=[toS s];exact J ax<|J (ET<|xr▸aS _)<|J e rfl
 |cons c d i=>
  intro b s f e;have g:dU [a] (s::c::d)=s++(a::dU [a] (c::d)):=eT s [a] _;have ao:xs.drop (b+H s)=a::dU [a] (c::d):=by
   exact bH am8<|J e<|J g<|J hq rfl
  rw[g,VN<|f s<|.head _];show J2 _ _ b (bif a==a then _::hit a _ _ else _)=_;rw[beq_self_eq_true];show Qu _ b _::J2 _ _ _ _=_;exact J (i _ c (λj k=>f j<|.tail _ k) (UL ao).2)<|J ax<|J (BN ..)<|J e<|J g<|J hN rfl
def aiX(b:Jw (toS [a])=1):Txt.split (toS xs) (toS [a])=J2 (toS xs) 1 0 (hit a xs 0):=by
 have ao:Builtin.Str.occurrences (toS xs) (toS [a]) 0 (toS xs).length ((toS xs).length+1)=hit a xs 0:=by
  rw[<-abp xs 0 rfl];exact by
   rw[StrLaws.occ_eq];exact afr (H xs) rfl _ 0 _ (J (i8 ..)<|aS _) (aS _)<|aS _
 have aA:J2 (toS xs) 1 0 []=[toS xs]:=by
  show[Qu _ 0 (toS xs).length]=_;exact J (StrLaws.sub_whole ..) rfl
 have ge:1<=Jw (toS xs):=by
  unfold Jw;split
  .exact aS _
  split
  .exact aH
  exact aH
 unfold Txt.split;rw[ao,b,eS<|bA.mpr ge];obtain _|⟨x,c⟩:=xs
 .exact aA.symm
 have:decide ((toS (x::c)).length<(toS [a]).length)=false:=eS (bA.mpr<|iI<|b9 _);rw[this];rcases d:hit a _ 0 with _|_
 .exact aA.symm
 exact StrLaws.partsBetween_eq ..
def aiV(b)(c:b≠[])(d:∀a∈b,a.contains 10=false):Txt.split (toS (dU [10] b)) (toS [10])=b.map toS:=by
 rw[aiX au];obtain _|⟨s,b⟩:=b
 .exact aW rfl c
 exact agy b 0 s d rfl
def X'(st:KWd.St)(a:st.2.length=0):st=(KWd.fin st,Str.empty):=by
 unfold KWd.fin;exact J (dI a)<|bH (KWd.len0 a) rfl
def ajp(a):∀st,a.all oh=true->(st.2.length=0\/a≠[])->a.foldl xg st=(KWd.fin st,Str.empty):=by
 induction a with
 |nil=>exactλst U b=>X' st (b.resolve_right λe=>e rfl)
 |cons g a d=>
  intro st b _;rw[nJ] at b;obtain⟨h,f⟩:=(bl ..).mp b;rw[hx];have e:xg st g=if st.2.length=0 then st else _:=dI h
  rw[e];by_cases c:st.2.length=0
  .exact J (dI c)<|d st f<|.inl c
  have aA:KWd.fin (st.1++[st.2],Str.empty)=KWd.fin st:=by
   unfold KWd.fin;exact J (dI (show Str.empty.length=0 from rfl))<|J (cE c) rfl
  exact J (cE c)<|J (d _ f<|.inl rfl)<|J aA rfl
def ajo(c):∀a xs,c.all (λb=>!oh b)=true->c.foldl xg (a,toS xs)=(a,toS (xs++c)):=by
 induction c with
 |nil=>exactλa xs U=>J (dR ..) rfl
 |cons b c g=>
  intro a xs f;rw[nJ] at f;obtain⟨d,h⟩:=(bl ..).mp f;have d:¬J4 b=true:=λe=>by
   have e:oh b=true:=e;rw[e] at d;contradiction
  have e:xg (a,toS xs) b=(a,toS<|xs++[b]):=by
   unfold xg;exact J (cE d)<|aZ _<|ae (by rw[Str.cps_append,fa];rfl)
  exact J hx<|J e<|J (g a _ h)<|J (eT ..) rfl
structure Sb(p:List Nat×List Nat):Prop where
 g:p.1.all oh=true
 t:p.2≠[]/\p.2.all (λc=>!oh c)=true
def alF(b):∀st,(∀a∈b,Sb a)->(∀a∈b,st.2.length=0\/a.1≠[])->(∀a∈b.tail,a.1≠[])->KWd.fin ((cX b).foldl xg st)=KWd.fin st++b.map λa=>toS a.2:=by
 induction b with
 |nil=>exactλst U U U=>(dR _).symm
 |cons a b j=>
  intro st h k i;have g:=h a<|.head _;have e:(cX (a::b)).foldl xg st=(cX b).foldl xg (KWd.fin st,toS a.2):=by
   unfold cX;exact J i6<|J qs<|J JK<|J JK<|J (ajp a.1 st g.g<|k a<|.head _)<|aZ (λc=>JJ xg c _)<|ajo a.2 _ [] g.t.2
  rw[e,j _ (λd f=>h d<|.tail _ f) (λd f=>.inr<|i d f) λd f=>i d<|List.mem_of_mem_tail f];have aA:KWd.fin (KWd.fin st,toS a.2)=KWd.fin st++[toS a.2]:=by
   unfold KWd.fin;have c:¬(toS a.2).length=0:=λc=>g.t.1<|ani.mp c
   exact J (cE c) rfl
  exact J aA<|J (eT ..) rfl
def D4(I:fu c L a k)(d:b∈a.rows++[a.line]):b.Sublist (b6 k):=by
 rw[<-I.fl];have:=hK d;rwa [hv,qs,QM,dR] at this
def Uw(g:gR b L o)(I:fu b L c k)(i:∀a∈f,a<7):∀d∈bR c.laid b f,Sb d:=λd j=>by
 refine aG (fC.mp j) λa l m=>?_;subst m
 refine dm (qF g<|i a l) λn h p U=>(⟨?_,?_⟩)
 .rw[l0];rcases e:c.laid[a]? with _|s
  .rfl
  exact dQ.mpr λq r=>eJ<|dQ.mp ((HF g I e).2) q r
 exact J (gn h)<|⟨p,(g.t a n h).2.2⟩
def ad_(f:gR c L o)(I:fu c L d 7)(l:b∈d.rows++[d.line]):vm (toS (cX (bR d.laid c b)))=b.map λa=>toS (c.getD a []):=by
 have h:=D4 I l;have i:∀a∈b,a<7:=λa e=>fJ.mp<|h.subset e
 rw[KWd.words_scan];have:=alF _ ([],Str.empty) (Uw f I i) (λU U=>.inl rfl) (λp g=>by
  unfold bR at g;rw[<-List.map_tail] at g;refine aG (fC.mp g) λa e m=>?_;subst m
  obtain _|⟨q,r⟩:=b
  .contradiction
  exact by
   have j:=(bz (b9 _)<|(rK.mp<|apn h anr).1 a e);obtain⟨n,k⟩:=AM f I<|i a<|.tail _ e;obtain _|a:=a
   .exact aW j<|oG 0
   exact J (gn k)<|f.g1 a n ((Dy I j).symm.trans k))
 refine Eq.trans this ?_;unfold bR;exact J dM rfl
def ad9(h:gR b L o)(I:fu b L a 7)(k:c∈a.rows++[a.line]):(cX (bR a.laid b c)).contains 10=false:=by
 have l:∀f∈c,f<7:=λf i=>fJ.mp<|(D4 I k).subset i
 rw[<-fe,nK];intro m;refine aG (hC.mp m) λp n d=>?_
 refine aG (fC.mp n) λq j g=>?_;subst g
 refine aG (fC.mp j) λf i g=>?_;subst g
 obtain d|d:=i7.mp d
 .have d:=d;rw[l0] at d;rcases e:a.laid[f]? with _|s
  .rw[e] at d;contradiction
  rw[e] at d;exact aW (dQ.mp (HF h I e).2 10 d) gX
 have:=dQ.mp (Uw h I l _ j).t.2 10 d;have e:oh 10=true:=au;rw[e] at this;contradiction
def kZ(a:Bool)(s:List Nat):Prop:=(sS (bif a then sJ else s_) s).outcome=some .failed
def low(s:List Nat):List Nat:=(Txt.lower<|toS s).cps.toList
def gg(s:List Nat):List Nat:=(Txt.upper<|toS s).cps.toList
noncomputable def bT(a:List Nat×List Nat):D:=.tup [.str a.1,.str a.2]
noncomputable abbrev c6(a:Nat):bI:=.inst 384 [("_headers",.loc a)] []
def wx(j:kZ u l)(h:b (.str l) c):aB (f+1) 285 [.loc e,.str l] [("name",.bool u)] c b a:=go rfl rfl rfl [.loc e,.str l,.bool u,.ai] (λU h=>⟨aH,aH,rfl,h⟩) (by
 refine aO<|ek (λk a h=>⟨rfl,rfl,h⟩) ?_;refine aO<|gx (d:=.g (bif u then 250 else 255)) (q6 (λk a h=>h) (λi=>i▸bc) λi=>i▸bc) ?_;refine aO<|ek (u:=false) (λk a h=>?_)<|dZ<|aO<|rq aq<|nY h;obtain _|_:=u
 .exact⟨.inr ⟨.inr rfl,rfl⟩,.inl ⟨j,h⟩⟩
 exact⟨.inr ⟨.inl rfl,rfl⟩,.inl ⟨j,h⟩⟩)
def H_(i:aj c (aB (b+1)) r a (.loc d))(j:a[d]?=some (.inst 384 g h)) (k:aj e (aB (b+1)) r a (.str l)) (m:kZ f l):aj (bg "_convert_string_type" c [e] [ah (.bool f)] ["name"]) (aB (b+1)) r a (.str l):=wu i j au (eg k) (eg bc) λp q n=>wx m n
def O4(f:br b c (r.set i (.loc (H a))) (a++[.lst []]) d e):br (cA i (b8 true [])::b) c r a d e:=f
def Ib(e:aj z b r a (.loc c))(f:a[c]?=some (c6 d)):aj (cW "_headers" z) b r a (.loc d):=yK e<|yb au f au
def TJ(c:fU b a)(d:t7 b o):fU b (a.set i o):=by
 induction a generalizing i with
 |nil=>exact c
 |cons x a e=>
  obtain _|i:=i
  .exact⟨d,c.2⟩
  exact⟨c.1,e c.2⟩
def Gp(b)(a:List (List Nat×List Nat)):kg b (a.map bT):=p8 bT (λU=>⟨aQ,aQ,aQ⟩) a
def aeS{b:aN}(c:b[a]?=some o):a≠H b:=λe=>by rw[e,tK<|aS _] at c;contradiction
def mw(b:a[i]?=some o) {c:aN}:(a++c)[i]?=some o:=by rwa [zl (fm.mp b).1]
def ZC(d:a[b]?=some o) {c:aN}:(a++c).set b x=a.set b x++c:=anu _ _ (fm.mp d).1
def S3(m:b[e]?=some (c6 f)) (n:b[f]?=some (.lst (c.map bT))) (q:fU (H b) b) (r:kZ true k) (s:kZ false a) (dj:H a<1000) (dh:H c<1000) (i:h .none (b.set f (.lst ((c++[(k,a)]).map bT)))):aB (j+2) 381 [.loc e,.str k,.str a] [] b h g:=go rfl rfl rfl [.loc e,.str k,.str a,.o 2 0 0 0,.ai,.ai,.ai] (λU i=>⟨aH,aH,i⟩) (by
 have p:(b++[.lst [.str a]])[e]?=some _:=mw m;have ao:((b++[bI.lst []]).set (H b)<|bI.lst<|[]++[D.str a])=b++[bI.lst [.str a]]:=pH;refine O4<|aO<|ek (λk g i=>i)<|aO<|gx (H_ aq (mw m) aq s)<|aO<|sU aq iD aq aH<|dZ ?_;refine J ao<|aO<|lB (λk g i=>⟨rfl,rfl,rfl,i⟩)<|dZ ?_;refine aO<|sU (d:=bT (k,a)) (Ib aq p) (mw n) (jB<|c_ (H_ aq p aq r)<|A5 (l:=[a]) bc aq (jl iD)<|az (d9 (bF dj)<|aS 1) aH) ?_<|dZ ?_
 .exact J (aX ..)<|az (l7 dh) aH
 rw[ZC n];have aA:c.map bT++[bT (k,a)]=(c++[(k,a)]).map bT:=J dS rfl;rw[aA];have:=GX (x:=.lst [.str a]) (R:=[]) (d:=.none) trivial (gM.symm▸TJ q (Gp _ _)) i;rwa [gM] at this)
def aew(c:(low l).length<=lim)(d:a (.str (low l)) b):sZ "lower" l [] b a:=jY au<|jY au<|rt au ⟨c,d⟩
def Xd(c:(gg l).length<=lim)(d:a (.str (gg l)) b):sZ "upper" l [] b a:=jY au<|rt au ⟨c,d⟩
def OB(c:aj z a r b (.str l))(d:(low l).length<=lim):aj (bg "lower" z [] [] []) a r b (.str (low l)):=λg e f=>c _ e ⟨.inr<|.inr<|.inl rfl,aew d f⟩
def YC(c:aj z a r b (.str l))(d:(gg l).length<=lim):aj (bg "upper" z [] [] []) a r b (.str (gg l)):=λg e f=>c _ e ⟨.inr<|.inl rfl,Xd d f⟩
def getL(a:List (List Nat×List Nat))(s:List Nat):List (List Nat):=(a.filter λb=>decide (low b.1=low s)).map (·.2)
def Ws(j:aj z c r b (.loc e))(l:b[e]?=some (.lst f)) (m:∀k a,(z c).v r b (λg d=>j0 d g k) a->(z c).i h r b k a):gQ z c h r b f (λd=>obj d e=.lst f):=λk a n=>m k a (j _ a (by
 show bI.casesOn _ _ _ _ _;rwa [ez l]))
def T7(j:c[d]?=some (c6 e)) (k:c[e]?=some (.lst (b.map bT))) (m:kZ true (low l)) (dj:(low l).length<=lim) (n:∀a∈b,(low a.1).length<=lim) (dh:H b<=lim) (i:f (.lst ((getL b l).map .str)) c):aB (g+2) 323 [.loc d,.str l] [] c f h:=go rfl rfl rfl [.loc d,.str l,.ai] (λU i=>⟨fE rfl,fE rfl,i⟩) (by
 refine aO<|gx (H_ (bN λU i=>i) j (OB (bN λU i=>i) dj) m)<|aO<|rq ?_<|nY i;have ao:(getL b l).map D.str=(b.filter λa=>decide (low a.1=low l)).map λa=>.str a.2:=by
  unfold getL;exact J dM rfl
 rw[ao];have p:gQ (cW "_headers"<|af 0) (aB<|g+1) false [.loc d,.str<|low l,.ai] c _ (λq=>obj q e=.lst _):=Ws (Ib (bN λU i=>i) j) k λU U i=>i
 refine wo b bT (λa=>decide _) (λa=>.str a.2) (λa=>[.loc d,.str _,bT a]) p (ez k) (λU U U i=>i) (λa r=>lV (Bt (OB (kT (bN λU i=>i) bc λU i=>i) (n a r)) (bN λU i=>i))) (λa U U=>kT (bN λU i=>i) bc λU i=>i) dh)
def agA(a:List y):pick a none none none=a:=by
 rw[A2];show(a.drop 0).take (H a-0)=a;exact J List.drop_zero<|J (anQ ..)<|J zm rfl
def agQ(e:aj z b r a c)(aU:bx a c=.lst d):aj (eu false z bM bM bM) b r a (.lst d):=sQ e iM iM iM λk f=>by
 refine⟨(λe=>nomatch e),?_⟩;unfold uO;rw[aU];show k _;rwa [agA]
def T8(i:a[b]?=some (c6 c)) (j:a[c]?=some (.lst d)) (h:e (.lst d) a):aB (f+1) 348 [.loc b] [] a e g:=go rfl rfl rfl [.loc b] (λU h=>⟨aH,aH,h⟩)
 (aO<|rq (agQ (Ib aq i)<|jl j)<|nY h)
def wt(g:a[b]?=some (.inst 384 [] [])) (f:d .none (a.set b (c6 (H a))++[.lst []])):aB (e+1) 278 [.loc b] [] a d c:=go rfl rfl rfl [.loc b,.none,.ai,.ai] (λU f=>⟨aH,aH,f⟩) (by
 have h:_[H a]?=some (bI.lst []):=iD;suffices next:br (Ti.drop 1) _ [.loc b,.loc<|H a,.ai,.ai] _ _ (λi j=>ko (H a) i j c) from next;refine aO<|ek (u:=false) (λk c f=>?_)<|dZ<|aO ?_
 .show cT.casesOn _ _ _ _ _ _ _;exact J (jl h)<|⟨rfl,rfl,f⟩
 refine yS aq aq au (mw g) aH (aO<|ek (λk c f=>f) ?_);rw[ZC g];have l:=by
  have:=iD (bK:=a.set b<|c6<|H a) (o:=bI.lst []);rwa [gM] at this
 exact aO (lB (Ws aq l λU U f=>f) (dZ (dZ (dZ f)))))
def U7(b a:Nat):BE (b:Int) (a:Int)=((b/a:Nat):Int):=by
 exact J (amS _<|kE a) rfl
def Ve(b a:Nat):tG (b:Int) (a:Int)=((b%a:Nat):Int):=by
 exact J (amT _<|kE a) rfl
def Yv(d:aj z a r b (.int i))(e:aj c a r b (.int N))(f:i<=20)(g:N<=20):aj (aR .Pow z c) a r b (.int (i^N:Nat)):=jz d e λk h=>by
 refine⟨⟨kE N,lZ.mpr g,kE i,lZ.mpr f⟩,?_⟩;show k<|.int<|_^((N:Int)).toNat;rwa [JF]
def q4(d:aj z a r b (.int N))(e:aj c a r b (.int i))(f:0<i)(g:i<1000000000):aj (aR .FloorDiv z c) a r b (.int (N/i:Nat)):=jz d e λk h=>by
 refine⟨⟨λz=>aW (Int.ofNat.inj z)<|nP f,xd av<|kE i,nI.mpr g⟩,?_⟩;rwa [U7]
def uM(d:aj z a r b (.int N))(e:aj c a r b (.int i))(f:0<i):aj (aR .Mod z c) a r b (.int (N%i:Nat)):=jz d e λk g=>by
 refine⟨λz=>aW (Int.ofNat.inj z)<|nP f,?_⟩;rwa [Ve]
def Yw(d:aj z a r b (.int N))(e:aj c a r b (.int i))(f:i<=20):aj (aR .RShift z c) a r b (.int (N/2^i:Nat)):=jz d e λk g=>by
 refine⟨⟨kE i,lZ.mpr f⟩,?_⟩;show k<|.int<|BE _ _;have z:(2:Int)^((i:Int)).toNat=(2^i:Nat):=J (Int.natCast_pow ..) rfl;rwa [z,U7]
def dk(c:aj z a r b (.int N)):dz (aR .BitAnd z (ah (.int 1))) a r b (!(N%2==0)):=λk d e=>(jz c bc λk e=>by
 refine⟨⟨kE N,rfl⟩,?_⟩;show k<|.int<|tG _ (2:Nat);rwa [Ve]) (λf g=>mR a f g k) d (by
 show k _ b;rwa [Xl])
def DU(g:aj z a r b (.tup c))(h:aj d a r b (.int i))(f:c[i]?=some e):aj (aT z d) a r b e:=kT g h λk j=>by
 show opt _ k;unfold q_;rw[sV (fm.mp f).1];show opt (c[i]?) k;rwa [f]
def agT(f:aj z b r c (.str l))(g:aj d b r c (.int i))(e:l[i]?=some a):aj (aT z d) b r c (.str [a]):=kT f g λk h=>by
 show opt _ λa=>k _
 unfold q_;rw[sV (fm.mp e).1];show opt (l[i]?) λa=>k _
 rwa [e]
def uJ(d:aj z a r b (.int i))(e:aj c a r b (.int N)):aj (aR .Add z c) a r b (.int (i+N:Nat)):=jz d e λU f=>f
def uL(g:aj z b r a c)(h:aj d b r a (.int i))(aU:bx a c=.lst e)(j:e[i]?=some f):aj (aT z d) b r a f:=kT g h λk l=>M0 aU j k l
noncomputable def mH:List (List Nat):=[[97],[97,98],[98],[114,111,119]]
noncomputable def Ej:List Nat:=[38,124,60,105,120,104,108]
noncomputable def s7(c:Bool)(a:List (List Nat))(b:List Nat)(d:Nat):List (List Nat):=(bif c then b::a else a++[b])++[[d]]
def jg(a k:Nat):List Nat:=mH.getD (a/4^k%4) []
def jZ(a k:Nat):Nat:=Ej.getD (a/256/7^k%7) 0
noncomputable def nX(a k:Nat):Bool:=!(a/87808/2^k%2==0)
def tokens(a:Nat):List (List Nat):=s7 (nX a 2) (s7 (nX a 1) [jg a 0,jg a 1,[jZ a 0]] (jg a 2)<|jZ a 1) (jg a 3)<|jZ a 2
def getD_at{a:List y}{d:y}(b:i<H a):a[i]?=some (a.getD i d):=J l0<|J (kY b) rfl
def ahf:aj (c5 false [3] false [3] (aP (ah (.g 1012)) [ah (.int 4)] [] []) [] [] (aT (eF [ah (.str [97]),ah (.str [97,98]),ah (.str [98]),ah (.str [114,111,119])]) (aR .Mod (aR .FloorDiv (af 0) (aR .Pow (ah (.int 4)) (af 3))) (ah (.int 4))))) d [.int N,a,b,e,c] f (.lst ((b6 4).map λk=>.str (jg N k))):=by
 refine jA _ (λi=>.int (i:Nat)) (λk=>.str _) (λk=>[.int N,a,b,.int k,c]) (AI (λU U h=>h) av) trivial (λU U U h=>h) (λi j=>?_) aH;have j:=fJ.mp j;have l:4^i<1000000000:=bz (anK av<|bF j) av;refine DU (jB<|dD bc<|dD bc<|dD bc<|eg bc) (uM (q4 aq (Yv (λU U h=>h) aq av<|az (bF j) av) (anL av) l) (λU U h=>h) av) ?_;show(mH.map D.str)[N/4^i%4]?=some _;exact J d8<|J (getD_at (l5 _ av:N/4^i%4<H mH)) rfl
def ahp{h:b3}{i:aN}{c d j e:D}:aj (c5 false [3] false [3] (aP (ah (.g 1012)) [ah (.int 3)] [] []) [] [] (aT (ah (.str [38,124,60,105,120,104,108])) (aR .Mod (aR .FloorDiv (aR .FloorDiv (af 0) (ah (.int 256))) (aR .Pow (ah (.int 7)) (af 3))) (ah (.int 7))))) h [.int N,c,d,j,e] i (.lst ((b6 3).map λk=>.str [jZ N k])):=by
 refine jA _ (λf=>.int _) (λk=>.str [jZ N k]) (λk=>[.int N,c,d,.int k,e]) (AI (λU U a=>a) av) trivial (λU U U a=>a) (λf b=>?_) aH;have b:=fJ.mp b;have l:7^f<1000000000:=bz (anK av<|bF b) av;exact agT bc (uM (q4 (q4 aq (λU U a=>a) av av) (Yv (λU U a=>a) aq av<|az (bF b) av) (anL av) l) (λU U a=>a) av)<|getD_at<|l5 _ av
def OC{k:Nat}(f:aj z b r a d)(g:aj e b r a (.int k))(aU:bx a d=.lst c)(h:k<=H c):aj (eu false z bM e bM) b r a (.lst (c.take k)):=sQ f iM g iM λi l=>by
 refine⟨(λj=>nomatch j),?_⟩;unfold uO;rw[aU];show i _;rwa [X6 h]
abbrev ae'(a:Nat):D:=.lst [.str<|jg a 0,.str<|jg a 1,.str<|jg a 2,.str<|jg a 3]
abbrev aiC(a:Nat):D:=.lst [.str [jZ a 0],.str [jZ a 1],.str [jZ a 2]]
abbrev pC(a:Nat)(b c:D):List D:=[.int a,ae' a,aiC a,b,c]
noncomputable abbrev bD(a:List (List Nat)):D:=.lst<|a.map .str
def akD(l:i+1<4)(f:i<3)(g:H a<=9)(c:K .next (pC N (.int i) (bD (s7 (nX N i) a (jg N (i+1)) (jZ N i)))) b):br PM cf (pC N (.int i) (bD a)) b K Z:=by
 have h:aj (aT (af 1) (aR .Add (af 3) (ah _))) cf (pC N (.int i) (bD a)) b _:=uL aq (uJ aq λU U c=>c) rfl (by
  show((b6 4).map λi=>D.str _)[i+1]?=_;exact J d8<|J (EJ l) rfl)
 have m:aj (aT (af 2) (af 3)) cf (pC N (.int i) (bD a)) b _:=uL aq aq rfl (by
  show((b6 3).map λi=>D.str [jZ N i])[i]?=_;exact J d8<|J (EJ f) rfl)
 have p:∀{j:List D},H j<=12->H j<=lim:=λd=>az d aH
 have k:(a.map D.str).length<=9:=by rwa [aX]
 have n:aj (gT (aR .BitAnd (aR .RShift (aR .FloorDiv (af 0)<|ah<|.int 87808)<|af 3)<|ah<|.int 1) (aR .Add (b8 false [aT (af 1)<|aR .Add (af 3)<|ah<|.int 1])<|af 4)<|aR .Add (af 4)<|b8 false [aT (af 1)<|aR .Add (af 3)<|ah<|.int 1]) cf (pC N (.int i)<|bD a) b (bD (bif nX N i then jg N (i+1)::a else a++[jg N<|i+1])):=by
  refine q6 (t:=nX N i) (dk<|Yw (q4 aq (λU U c=>c) av av) aq<|az (bF f) av) (λd=>?_) λd=>?_
  .exact J d<|wk (jW<|eg h) aq<|az (d9 (aS 1) k) aH
  rw[d,cond_false];have:=A3 (r:=pC N _<|bD a) (e:=af 4) aq h<|az (d9 k<|aS 1) aH;show aj _ cf _ b<|.lst _;rwa [dS]
 refine aO<|gx ?_<|dZ c;have q:(bif nX N i then jg N (i+1)::a else a++[jg N<|i+1]).length<=10:=by
  obtain _|_:=nX N i
  .exact J (cond_false ..)<|J bq<|iI g
  exact iI g
 have:=A3 n m<|az (d9 (by rwa [aX])<|aS 1) aH;show aj _ cf _ b<|.lst<|(_++[[jZ N i]]).map .str;rwa [dS]
def c3:(s7 b a l i).length=H a+2:=by
 obtain _|_:=b
 .show((a++[l])++[[i]]).length=_;exact J bq<|J bq rfl
 show(_++[[i]]).length=_;exact J bq rfl
abbrev Bs(a:b3)(b:List D):List D->aN->eX->Prop:=lO yes (λc d e f g=>iU false [3] c d λh=>br PM a h e f g) (br [] a) b
def c'(g:i+1<4)(h:i<3)(j:H b<=9)(k:Bs cf a (pC N (.int i) (bD (s7 (nX N i) b (jg N (i+1)) (jZ N i)))) d K):Bs cf (.int i::a) (pC N c (bD b)) d K:=by
 have:=akD (cf:=cf) (Z:=cI) (K:=λl f e=>i9.casesOn l (yes e/\Bs cf a f e K) (K .next f e) (yes e/\Bs cf a f e K) λc=>K (.ret c) f e) g h j ⟨aQ,k⟩;exact this
def I5(a:Nat):List (List Nat):=s7 (nX a 1) [jg a 0,jg a 1,[jZ a 0]] (jg a 2)<|jZ a 1
def c2:(I5 N).length=5:=c3
def PR:tokens N=s7 (nX N 2) (I5 N) (jg N 3) (jZ N 2):=rfl
def akC(e:∀c,a .next (pC N c (bD (tokens N))) b):Bs d [.int (1:Nat),.int (2:Nat)] (pC N .ai (bD [jg N 0,jg N 1,[jZ N 0]])) b a:=by
 refine c' av av aH ?_;show Bs d [.int 2] (pC N _<|bD<|I5 N) b a;have e:=e<|.int 2;rw[PR] at e;generalize I5 N=aoB,c2=f at*;exact c' av av (az (di f) av) e
def xi(e:c (bD (tokens N)) a):aB (b+1) 419 [.int N] [] a c d:=go rfl rfl rfl [.int N,.ai,.ai,.ai,.ai] (λU e=>⟨aH,aH,e⟩) (by
 refine aO<|O3 (c_ ahf<|ahp) (λU e=>e) ?_;have f:aj (af 1) (aB b) (pC N .ai .ai) a _:=aq;have g:aj (af 2) (aB b) (pC N .ai .ai) a _:=aq;have h:aj (aR .Add (eu false _ bM (ah _) bM)<|eu false _ bM (ah _) bM) _ _ a _:=
  wk (OC (k:=2) f (λU U e=>e) rfl aH) (OC (k:=1) g (λU U e=>e) rfl aH) aH
 refine aO<|gx h<|aO<|lB (λk d e=>e) (akC λi=>(aO<|rq aq<|nY e))
 )
def Ic{l}(d:aj z b r a c)(aU:bx a c=.lst (x::l)):aj (aT z (ah (.int 0))) b r a x:=uL d (λU U e=>e) aU rfl
def Xn(b:a+1<=i):-((a+1:Nat):Int)+(i:Int)=((i-(a+1):Nat):Int):=by
 exact J (QI b)<|J Int.sub_eq_add_neg<|J (JC ..) rfl
def Xm(a)(b)(c:a+1<=b):iA (-((a+1:Nat):Int)) b=some (b-(a+1)):=by
 unfold iA;rw[dI<|show-(_:Int)<0 from amX a];rw[Xn c,dI<|J (gb<|nI.mpr<|xy (bZ (jo a) c)<|jo a) rfl]
 rfl
def Ie(e:aj z c r a d)(aU:bx a d=.lst (b++[x])):aj (aT z (gk (ah (.int 1)))) c r a x:=kT e (q7 bc) λk f=>by
 show cT.casesOn _ _ _ _ _ _ _;rw[aU];show opt ((iA (-(0+1:Nat)) (b++[x]).length).bind _) k;rw[Xm 0 _<|bq▸fS _ _];show opt (_[(b++[x]).length-_]?) k;rwa [bq,EO,JT,EH]
def ag9(f:aj z c r a d)(aU:bx a d=.lst (b++[x,e])):aj (aT z (gk (ah (.int 2)))) c r a x:=kT f (q7 bc) λk g=>by
 show cT.casesOn _ _ _ _ _ _ _;rw[aU];show opt ((iA (-(1+1:Nat)) (b++[x,e]).length).bind _) k;rw[Xm 1 _<|bq▸fS _ _];rw[bq];show opt (_[H b+2-2]?) k;rwa [JT,QN<|aS _,JY]
def Un(a b)(c:a+1<=b):eN b (-((a+1:Nat):Int))=b-(a+1):=by
 unfold eN;exact J (dI<|show-(_:Int)<0 from amX a)<|J (Xn c)<|J (QG<|lZ.mpr<|l6 _ _) rfl
def ahs(f:aj z d r c e)(aU:bx c e=.lst (a++[x,b])):aj (eu false z bM (gk (ah (.int 2))) bM) d r c (.lst a):=sQ f iM (q7 bc) iM λk g=>by
 refine⟨(λf=>nomatch f),?_⟩;unfold uO;rw[aU];show k _;rw[A2];show k<|(a++[x,b]).take<|eN (a++[x,b]).length (-((1+1:Nat):Int))-0;rw[Un 1 _<|bq▸fS _ _,bq];show k<|(a++[x,b]).take<|H a+2-2-0;rwa [JT,anQ,hN]
def ahr(e:aj z c r b d)(aU:bx b d=.lst (a++[x])):aj (eu false z (gk (ah (.int 1))) bM bM) c r b (.lst [x]):=sQ e (q7 bc) iM iM λk f=>by
 refine⟨(λe=>nomatch e),?_⟩;unfold uO;rw[aU];show k _;rw[A2];show k<|((a++[x]).drop<|eN (a++[x]).length<|-((0+1:Nat):Int)).take<|(a++[x]).length-eN (a++[x]).length (-((0+1:Nat):Int));rw[Un 0 _<|bq▸fS _ _,bq];show k<|((a++[x]).drop<|H a+1-1).take<|H a+1-(H a+1-1);rwa [JT,hq,BN]
def Mf(d)(c:List y):∀a,yi (c.map d) a=(c.zipIdx a).map λb=>.tup [.int (b.2:Nat),d b.1]:=by
 induction c with
 |nil=>exactλa=>rfl
 |cons x c e=>
  intro a;exact J hO<|J i6<|J i6<|bH (e _) rfl
def Nc{e:X}{c:y->D}{d:List y}(f:aj e b r W (.lst (d.map c))):gQ (aP (ah (.g 1013)) [e] [] []) b true r W ((d.zipIdx 0).map λa=>.tup [.int (a.2:Nat),c a.1]) yes:=λk h i=>⟨rfl,rfl,f _ h (by
 rwa [<-Mf] at i)⟩
def acF{d:y->D}{e:List y}(f:aj z b r c (.tup (e.map d))):gQ (aP (ah (.g 1013)) [z] [] []) b true r c ((e.zipIdx 0).map λa=>.tup [.int (a.2:Nat),d a.1]) yes:=λk h i=>⟨rfl,rfl,f _ h (by
 rwa [<-Mf] at i)⟩
def tj(a:N<=M)(b):oY N b->oY M b:=D.rec id id (λU=>id) (λU=>id) (λU=>id) (λU c=>c) (λU c=>c) (λg e=>bZ e a) (λU=>id) (λU U U U=>id) id (λU U a f d=>⟨a d.1,f d.2⟩) b
def Lp(c:N<=M)(b:kg N a):kg M a:=by
 induction a with
 |nil=>exact b
 |cons d a e=>exact⟨tj c d b.1,e b.2⟩
def TG(b:N<=M)(a:t7 N o):t7 M o:=by
 obtain c|⟨d,e,c⟩|_|_:=o
 .exact Lp b a
 .exact⟨Lp b a.1,Lp b a.2⟩
 .exact a
 exact a
def Gn(c:N<=M)(b:fU N a):fU M a:=by
 induction a with
 |nil=>exact b
 |cons o a d=>exact⟨TG c b.1,d b.2⟩
def ti(b:fU N a)(c:t7 N o):fU N (a++[o]):=by
 induction a with
 |nil=>exact⟨c,aQ⟩
 |cons x a d=>exact⟨b.1,d b.2⟩
def iR(a:aN):Prop:=fU (H a) a
def iR.push(b:iR a)(c:t7 (H a) o):iR (a++[o]):=by
 unfold iR;exact J bq<|ti (Gn (cZ _ _) b)<|TG (cZ _ _) c
def iR.upd(b:iR a)(c:t7 (H a) o):iR (a.set i o):=by
 unfold iR;exact J gM<|TJ b c
noncomputable def eL(s:List Nat):Bool:=lS s Ej
def El(val:List Nat->List a_)(a:List (List a_)×List (List a_))(s:List Nat):List (List a_)×List (List a_):=
 bif eL s then(g4 s (a.1.getD 1 []) (a.1.getD 0 [])::a.1.drop 2,a.2++[g4 s (a.1.getD 1 [])<|a.1.getD 0 []]) else(val s::a.1,a.2)
def yj(val:List Nat->List a_)(a:List (List Nat))(b:List (List a_)×List (List a_)):List (List a_)×List (List a_):=a.foldl (El val) b
def pq(c:List (List Nat)):Nat->Bool:=List.rec (λa=>a==1) (λs U b a=>bif eL s then ia 2 a&&b (a-1) else b<|a+1) c
structure Tk(s:List Nat):Prop where
 o:(eL s=true/\qC s)\/(eL s=false/\s∈mH)
def rC(c:List (List Nat))(d:List (List Nat))(s:List Nat):List a_:=
 bif decide (s=[114,111,119]) then d.map λb=>(b.headD 0,b.getLastD 0) else((c.zipIdx 0).filter λa=>decide (low a.1=s)).map λa=>(a.2,a.2)
noncomputable abbrev gf(a:List Nat):D:=.lst (a.map λb=>.int (b:Nat))
structure f_(bK W:aN)(ms mt:Nat)(cY told:List (List a_)):Prop where
 s:W[ms]?=some (.lst<|cY.reverse.map bU)
 t:W[mt]?=some (.lst<|told.map bU)
 ne:ms≠mt
 ls:bK.length<=ms
 lt:bK.length<=mt
 w:W.take bK.length=bK
 b:iR W
inductive FH(bK:aN)(fH eb U5:D)(cY told:List (List a_)):List D->aN->Prop
 |mk (ms mt:Nat) (akh:D) (W:aN) (H:f_ bK W ms mt cY told):FH bK fH eb U5 cY told [fH,eb,U5,.loc ms,.loc mt,akh,.ai,.ai,.ai] W
def alc:bx b (.lst a)=.lst a:=rfl
def Xf{c:List y}{b:y×Nat}(d:b∈c.zipIdx a):b.1∈c:=by
 obtain⟨x,f⟩:=b;refine iT (anp d) λU U e=>?_
 exact J e<|anf _
def aik(h:aj z b r a (.lst c))(j:aj f b r a (.lst d))(k:H c+H d<=lim)(l:g .next (r.set i (.loc (H a))) (a++[.lst (c++d)])):cA i (UN z f) b r a g e:=h _ e<|j _ e ⟨k,l⟩
noncomputable abbrev ou(fH a b:D)(c mt:Nat)(d:D):List D:=[fH,a,b,.loc c,.loc mt,d,.ai,.ai,.ai]
def f_.val(g:f_ d e c i a f)(h):f_ d (e.set c (.lst (a.reverse.map bU++[bU h]))) c i (h::a) f where
 s:=by
  rw[vd (fm.mp g.s).1,BK,dS];rfl
 t:=by rw[nL g.ne];exact g.t
 ne:=g.ne
 ls:=g.ls
 lt:=g.lt
 w:=yX g.ls g.w
 b:=g.b.upd (by
  show kg _<|a.reverse.map bU++[bU h];rw[show a.reverse.map bU++[bU h]=(a.reverse++[h]).map bU by rw[dS];rfl];exact p8 bU (λj=>t8 fV (λk=>Gq k) j) _)
def akA{fH:D}(t:f_ h W c N f j)(x:eL l=false)(K:H f+1<=lim)(y:∀a∈d,a≠[])(z:H d<=lim)(A:H b<=lim)(B:∀k∈b,(low k).length<=lim)(p:∀g,f_ h g c N (rC b d l::f) j->m .next (ou fH (bD b) (.lst (d.map gf)) c N (.str l)) g):br yY cf (ou fH (bD b) (.lst (d.map gf)) c N (.str l)) W m n:=by
 refine aO<|ek (u:=false) (x▸Ex aq bc)<|aO<|sU aq t.s ?_ (by rwa [aX,xu])<|dZ<|dZ<|p _<|t.val _;unfold rC;refine q6 (Bt aq bc) (λs=>?_) λs=>?_
 .rw[s];have:=jA (cf:=cf) (cN:=[6]) (is:=[6]) d gf (λa=>fV (a.headD 0,a.getLastD 0)) (λa=>[fH,bD b,.lst _,.loc c,.loc N,.str l,gf a,.ai,.ai]) (kr (tp:=false) (r:=ou fH _ (.lst _) c N _) (W:=W) (i:=2) aq) trivial (λU U U p=>p) (e:=eF [aT (af 6)<|ah<|.int 0,aT (af 6)<|gk<|ah<|.int 1]) (λa E=>?_) z
  .show aj _ cf _ W (.lst<|(d.map λa=>_).map fV);rwa [dM]
  have v:=y a E;have w:aj (af 6) cf [fH,bD b,.lst<|d.map gf,.loc c,.loc N,.str l,gf a,.ai,.ai] W _:=aq;refine jB<|c_ ?_ ?_
  .obtain _|⟨F,a⟩:=a
   .exact aW rfl v
   exact Ic w rfl
  obtain e|⟨L,F,e⟩:=xm a
  .exact aW e v
  rw[xj] at e;subst e;exact J hy<|Ie w (by rw[alc,dS];rfl)
 rw[s];have:=wo (cf:=cf) (cN:=[7,8]) (is:=[7,8]) (b.zipIdx 0) (λq=>.tup [.int _,.str q.1]) (λq=>decide _) (λq=>fV (q.2,q.2)) (λq=>[fH,bD b,.lst<|d.map gf,.loc c,.loc N,.str l,.ai,.int _,.str q.1]) (Nc (e:=af 1) (r:=ou fH (bD b) _ c N _) (W:=W) aq) trivial (λU U U p=>p) (ifs:=[bh .Eq (bg "lower" (af 8) [] [] [])<|af 5]) (e:=eF [af 7,af 7]) (λq G=>lV<|Bt (OB aq<|B _<|Xf G) aq) (λq U U=>jB<|c_ aq aq)<|List.length_zipIdx.symm▸A;show aj _ cf _ W<|.lst<|(((b.zipIdx 0).filter λq=>decide _).map λq=>(q.2,q.2)).map fV;rwa [dM]
def TH(a:List (List a_)):kg N (a.map bU):=p8 bU (λa=>t8 fV (λb=>Gq b) a) _
def f_.app(g:f_ c d e i f a)(h):f_ c (d.set i (.lst (a.map bU++[bU h]))) e i f (a++[h]) where
 s:=by rw[nL<|Ne.symm g.ne];exact g.s
 t:=by rw[vd (fm.mp g.t).1,dS];rfl
 ne:=g.ne
 ls:=g.ls
 lt:=g.lt
 w:=yX g.lt g.w
 b:=g.b.upd (by
  show kg _<|a.map bU++[bU h];rw[show a.map bU++[bU h]=(a++[h]).map bU by rw[dS];rfl];exact TH _)
def f_.new(h:f_ c a f i g d)(j):f_ c (a++[.lst (j.reverse.map bU)]) (H a) i j d where
 s:=iD
 t:=mw h.t
 ne:=λe=>aeS h.t e.symm
 ls:=by rw[<-h.w,qt];exact BS _ _
 lt:=h.lt
 w:=Bp (by rw[<-h.w,qt];exact BS _ _) h.w
 b:=h.b.push<|TH _
def YT:(a::b::c).reverse.map bU=c.reverse.map bU++[bU b,bU a]:=by
 exact J BK<|J BK<|J (eT ..)<|J dS rfl
def akB{fH:D}(s:f_ m W c i (a::b::d) f)(x:eL l=true)(y:H g=7)(z:qC l)(A:bk b)(B:bk a)(O:H d+1<=lim)(P:H f+1<=lim)(q:∀k,f_ m k (H W) i (g4 l b a::d) (f++[g4 l b a])->n .next (ou fH (bD g) h (H W) i (.str l)) k):br yY (aB (j+1)) (ou fH (bD g) h c i (.str l)) W n p:=by
 have v:aj (af 3) (aB<|j+1) (ou fH (bD g) h c i<|.str l) W _:=aq;have w:bx W (.loc c)=.lst (d.reverse.map bU++[bU b,bU a]):=J (jl s.s)<|J YT rfl;have E:bx W (.loc c)=.lst ((d.reverse.map bU++[bU b])++[bU a]):=J w<|J (eT ..) rfl;have F:=by
  have:=sO (cf:=aB<|j+1) (r:=ou fH (bD g) h c i<|.str l) (W:=W) (e:=af 1) aq rfl;rwa [aX,y] at this
 have G:aj cb _ (ou fH _ h c i<|.str l) W _:=pB ⟨av,au,au⟩ (dD aq<|dD (ag9 v w)<|c_ (Ie v E) F) cO λQ p q=>Mo z A B s.b q
 refine aO<|ek (u:=true) (x▸Ex aq bc)<|aO<|sU aq s.t G (by rwa [aX]) ?_;have t:=s.app<|g4 l b a;have K:aj (af 3) (aB<|j+1) (ou fH (bD g) h c i<|.str l) (W.set i<|.lst<|f.map bU++[bU<|g4 l b a]) _:=aq;have L:aj (af 4) (aB<|j+1) (ou fH (bD g) h c i<|.str l) (W.set i<|.lst<|f.map bU++[bU<|g4 l b a]) _:=aq;have bL:bx (W.set i<|.lst<|f.map bU++[bU<|g4 l b a]) (.loc c)=.lst (d.reverse.map bU++[bU b,bU a]):=J (jl t.s)<|J YT rfl;have M:bx (W.set i<|.lst<|f.map bU++[bU<|g4 l b a]) (.loc i)=.lst (f.map bU++[bU<|g4 l b a]):=J (jl t.t)<|J dS rfl;refine aO<|aik (ahs K bL) (ahr L M) (by rwa [aX,xu])<|dZ<|dZ ?_;have N:d.reverse.map bU++[bU<|g4 l b a]=(g4 l b a::d).reverse.map bU:=J BK<|J dS rfl;rw[N,gM];have:=t.new (g4 l b a::d);rw[gM] at this;exact q _ this
structure K0(words full:List (List Nat)):Prop where
 n:words.length=7
 l:∀w∈words,(low w).length<=lim
 f:∀row∈full,row≠[]
 fl:full.length<=lim
 an:∀s∈mH,bk<|rC words full s
def Et(a:Nat)(b:List D):List D->aN->eX->Prop:=lO yes (λc d e f g=>iU false [5] c d λh=>br yY (aB<|a+1) h e f g) (br []<|aB<|a+1) b
def b'(d:Nat)(e:List D)(a:eX):eX:=λf b c=>i9.casesOn f (True/\Et d e b c a) (a .next b c) (True/\Et d e b c a) λg=>a (.ret g) b c
def cc{fH:D}(k:br yY (aB (a+1)) (ou fH b c d i e) f (b' a g h) cI):Et a (e::g) (ou fH b c d i j) f h:=k
def cm(e:Et a b r c d):b' a b d .next r c:=⟨aQ,e⟩
def akF{fH:D}(p:K0 f g)(i):∀a d c b,(∀s∈i,Tk s)->pq i (H a)=true->(∀h∈a,bk h)->H a+H i<=1000->H d+H i<=1000->FH j fH (bD f) (.lst (g.map gf)) a d c b->
 (∀c b,FH j fH (bD f) (.lst<|g.map gf) (yj (rC f g) i (a,d)).1 (yj (rC f g) i (a,d)).2 c b->m .next c b)->Et n (i.map .str) c b m:=by
 induction i with
 |nil=>exactλa d c b U U U U U t k=>(k c b t)
 |cons s i L=>
  intro a d c b u ok r q lt t k;cases t with
  |mk X mt Y b M=>
   have ok:(bif eL s then ia 2 (H a)&&pq i _ else pq i _)=true:=ok;have k:∀c b,FH j fH _ _ (yj _ i _).1 (yj _ i _).2 c b->m .next c b:=k;have v:∀{N:Nat},N+1<=1000->N+1<=lim:=λR=>az R aH
   rw[gK] at q lt;obtain⟨l,O⟩|⟨l,S⟩:=(u s<|.head _).o
   .rw[l] at ok;obtain⟨Z,T⟩:=(bl ..).mp ok;obtain _|⟨w,a⟩:=a
    .contradiction
    obtain _|⟨y,a⟩:=a
    .contradiction
    have P:=r y (.tail _<|.head _);have Q:=r w<|.head _;unfold El at k;rw[l] at k;rw[gK] at q;have z:=v<|az (az (gy _)<|cZ _ _) q;have A:=az (d9 (gy _)<|gy<|H i) q;have V:(d++[g4 s y w]).length+H i<=1000:=by
     exact J bq<|J (gE ..)<|J (h_ _<|H i)<|lt
    have B:=λh E=>(cQ.mp E).elim (λe=>e▸Cz O P Q) λF=>r h<|.tail _<|.tail _ F
    refine cc (akB M l p.n O P Q z (v<|az (j7 (fS 1 _) _) lt) λW G=>cm ?_);exact L (g4 s y w::a) _ _ _ (λx K=>u x<|.tail _ K) T B A V (.mk _ _ _ _ G) k
   rw[l] at ok;unfold El at k;rw[l] at k;have z:=v<|az (j7 (fS 1 _) _) q;have A:(rC f g s::a).length+H i<=1000:=by rwa [gK,gE,h_ 1]
   have B:=λh E=>(cQ.mp E).elim (λe=>e▸p.an s S) λF=>r h F
   refine cc (akA M l z p.f p.fl (p.n▸aH) p.l λW G=>cm ?_);exact L (rC f g s::a) d _ _ (λx K=>u x<|.tail _ K) ok B A (az (j7 (gy _) _) lt) (.mk _ _ _ _ G) k
def r2:Tp=[pD [3,4] [b8 true [],b8 true []],gv false [5] (af 0) yY [],fj (p9 4)]:=au
def xv(l:K0 c d)(m:∀s∈b,Tk s)(ok:pq b 0=true)(k:H b<=1000)(eK:iR a)(i:e (.lst ((yj (rC c d) b ([],[])).2.map bU)) a):aB (g+2) 443 [bD b,bD c,.lst (d.map gf)] [] a e f:=go rfl rfl rfl [bD b,bD c,.lst _,.ai,.ai,.ai,.ai,.ai,.ai] (λU i=>⟨aH,aH,i⟩) (by
 refine r2▸aO ?_;suffices next:br [gv false [5] (af 0) yY [],fj _] _ (ou (bD b) _ _ (H a) (a++[bI.lst []]).length .ai) _ _ (λn p=>ko (H a) n p f) from next;have ao:(a++[bI.lst []]).length=H a+1:=bq;have h:f_ a ((a++[bI.lst []])++[bI.lst []]) (H a) (a++[bI.lst []]).length [] []:=⟨mw iD,iD,by rw[ao];exact kI<|f6 _,aS _,J ao<|gy _,Bp (ao▸gy _)<|Bp (aS _)<|zm ..,(eK.push (o:=.lst []) trivial).push aQ⟩;refine aO<|lB (kr aq) (akF l b [] [] _ _ m ok (λU q=>nomatch q) (J rJ<|J (i8 ..)<|k) (J rJ<|J (i8 ..)<|k) (.mk _ _ _ _ h) λv r j=>?_);cases j with
 |mk w mt x r h=>
  refine aO ?_;show bI.casesOn _ _ _ _ _;rw[ez h.t];have t:=(fm.mp h.t).1;exact U_ rfl (yX h.lt h.w) (gM.symm▸bz h.lt t) (t8 bU (λu=>t8 fV (λj=>Gq j) u) _) eK i)
def Zl(m:aj z c r a (.loc e))(k:a[e]?=some (.lst b)) (n:aj f c r a (.int i)) (p:aj g c r a x) (l:i<=H b) (j:H b<60) (q:h .next r (a.set e (.lst (b.take i++x::b.drop i)))):cU (bg "insert" z [f,g] [] []) c r a h d:=m _ d (by
 show bI.casesOn _ _ _ _ _;refine J (ez k)<|⟨.inr<|.inl rfl,n _ d<|p _ d ?_⟩;show bI.casesOn _ _ _ _ _;rw[ez k];exact jY au (rt au (by
  refine⟨⟨xd av<|kE i,nI.mpr<|bz l<|fF j av⟩,?_⟩;refine J (uc l)<|⟨?_,q⟩;exact J bq<|J gK<|J qt<|J xr<|az (d9 (BS _ _) (iI (l6 _ _))) (az (d9 (bF j) j) aH))))
noncomputable abbrev V5(a:Nat):List Y:=[bX (bh .Is (af 4) bM) [cA 2 (aP (ah (.g a)) [(af 0),(af 1),(af 2),(af 3)] [] [])] [cA 2 (aP (ah (.g a)) [(af 0),(aP (af 4) [(af 1)] [] []),(af 2),(af 3)] [(af 4)] ["key"])],
 cU (bg "insert" (af 0) [(af 2),(af 1)] [] [])]
def V_(m:d<1000/\gU.lookup d=none/\je.contains d=true)(n:a[b]?=some (.lst e)) (l:oU x) (p:c<=H e) (q:H e<60) (r:∀h f,h (.int c) a->aB g d [.loc b,x,.int 0,.none] [] a h f) (i:j .next [.loc b,x,.int c,.none,.none] (a.set b (.lst (e.take c++x::e.drop c)))):br (V5 d) (aB g) [.loc b,x,.int 0,.none,.none] a j f:=by
 have s:aj (af 1) (aB g) [.loc b,x,.int 0,.none,.none] a x:=bN λk i=>l _ i
 have t:aj (af 1) (aB g) [.loc b,x,.int c,.none,.none] a x:=bN λk i=>l _ i
 refine aO<|ek (λk f i=>i)<|aO<|gx (pB m (dD aq<|dD s<|c_ aq aq) cO r)<|dZ<|aO<|Zl aq n aq t p q<|dZ i
def V6(r:h<1000/\gU.lookup h=none/\je.contains h=true)(l:a<1000/\gU.lookup a=none/\je.contains a=true)(s:b[c]?=some (.lst j)) (q:oU x) (t:d<=H j) (u:H j<60) (v:∀e f,e n b->aB m a [x] [] b e f) (w:∀e f,e (.int d) b->aB m h [.loc c,n,.int 0,.none] [("key",.g a)] b e f) (i:p .next [.loc c,x,.int d,.none,.g a] (b.set c (.lst (j.take d++x::j.drop d)))):br (V5 h) (aB m) [.loc c,x,.int 0,.none,.g a] b p f:=by
 have y:aj (af 1) (aB m) [.loc c,x,.int 0,.none,.g a] b x:=bN λk i=>q _ i
 have z:aj (af 1) (aB m) [.loc c,x,.int d,.none,.g a] b x:=bN λk i=>q _ i
 have A:aj (aP (af 4) [_] [] []) _ [.loc c,x,.int 0,.none,.g a] b n:=A6 aq (eg y) cO (λk i=>by
  show sel _ _<|b7 _ _ _;exact J (eS (gO.mpr l.1))<|J l.2.1<|⟨l.2.2,i⟩) v
 refine aO<|ek (λk f i=>⟨l.1,i⟩)<|aO<|gx (pB r (dD aq<|dD A<|c_ aq aq) (eg aq) w)<|dZ<|aO<|Zl aq s aq z t u<|dZ i
def V7(h:a[b]?=some (.lst c)) (i:oU x) (j:p<=H c) (k:H c<60) (l:∀d e,d (.int p) a->aB f 56 [.loc b,x,.int 0,.none] [] a d e) (g:d .none (a.set b (.lst (c.take p++x::c.drop p)))):aB (f+1) 47 [.loc b,x] [] a d e:=
 go rfl rfl rfl [.loc b,x,.int 0,.none,.none] (λU g=>⟨aH,aH,g⟩) (V_ um h i j k l<|ng (gM ..) g)
def acs(h:a[b]?=some (.lst c)) (i:oU x) (j:p<=H c) (k:H c<60) (l:∀d e,d (.int p) a->aB f 74 [.loc b,x,.int 0,.none] [] a d e) (g:d .none (a.set b (.lst (c.take p++x::c.drop p)))):aB (f+1) 65 [.loc b,x] [] a d e:=
 go rfl rfl rfl [.loc b,x,.int 0,.none,.none] (λU g=>⟨aH,aH,g⟩) (V_ vY h i j k l<|ng (gM ..) g)
def acv(k:b<1000/\gU.lookup b=none/\je.contains b=true)(l:c[d]?=some (.lst e)) (m:oU x) (n:p<=H e) (q:H e<60) (r:∀a f,a j c->aB h b [x] [] c a f) (s:∀a f,a (.int p) c->aB h 56 [.loc d,j,.int 0,.none] [("key",.g b)] c a f) (i:a .none (c.set d (.lst (e.take p++x::e.drop p)))):aB (h+1) 47 [.loc d,x] [("key",.g b)] c a f:=
 go rfl rfl rfl [.loc d,x,.int 0,.none,.g b] (λU i=>⟨aH,aH,rfl,i⟩) (V6 um k l m n q r s<|ng (gM ..) i)
def acu(k:b<1000/\gU.lookup b=none/\je.contains b=true)(l:c[d]?=some (.lst e)) (m:oU x) (n:p<=H e) (q:H e<60) (r:∀a f,a j c->aB h b [x] [] c a f) (s:∀a f,a (.int p) c->aB h 74 [.loc d,j,.int 0,.none] [("key",.g b)] c a f) (i:a .none (c.set d (.lst (e.take p++x::e.drop p)))):aB (h+1) 65 [.loc d,x] [("key",.g b)] c a f:=
 go rfl rfl rfl [.loc d,x,.int 0,.none,.g b] (λU i=>⟨aH,aH,rfl,i⟩) (V6 vY k l m n q r s<|ng (gM ..) i)
def sY(s:List Nat):List Nat:=(an8 (toS s)<|toS [44]).cps.toList
abbrev nT:=List<|List Nat×List Nat
def cF(a:aN)(b:nT)(c:List Nat)(d:Ps):aN:=a++[c6<|H a+1,.lst<|b.map bT,.lst (c.map λe=>.str [97+e]),pn 2 d]
noncomputable abbrev eE(b tk:D)(a:Nat)(c:Nat)(made:List Nat)(d e f g h i:D):List D:=[b,tk,.loc a,.loc<|a+2,.int c,.loc<|a+3,.str made,d,e,f,g,h,i]
def Lq(d:fU b a)(e:fU b c):fU b (a++c):=by
 induction a with
 |nil=>exact e
 |cons x a f=>exact⟨d.1,f d.2⟩
def Ae{a:aN}(b:a[j]?=some o):(bK++a)[H bK+j]?=some o:=by
 rwa [QN<|cZ _ _,BN]
def wM{R:aN}:(bK++R).set (H bK+j) o=bK++R.set j o:=by
 exact J (hI _ _<|cZ _ _)<|J (BN ..) rfl
def EA:(cF bK hs bs ps)[H bK]?=some (c6 (H bK+1)):=Ae (j:=0) rfl
def P8:(cF bK hs bs ps)[H bK+1]?=some (.lst (hs.map bT)):=Ae rfl
def Jj:(cF a d b e)[H a+2]?=some (.lst (b.map λc=>.str [97+c])):=Ae rfl
def Jk:(cF a c d b)[H a+3]?=some (pn 2 b):=Ae rfl
def P7(eK:iR a):iR (cF a d b c):=by
 unfold iR cF;have e:∀g h i j:bI,(a++[g,h,i,j]).length=H a+4:=λU U U U=>bq
 refine J (e ..)<|Lq (Gn (cZ _ _) eK) ⟨⟨⟨tL av _,aQ⟩,aQ⟩,Gp _ _,p8 (λk:Nat=>D.str [97+k]) (λU=>aQ) b,⟨⟨aQ,aQ⟩,?_⟩,aQ⟩;exact p8 (λf:List Nat×List Nat=>D.tup [.str f.1,.str f.2]) (λU=>⟨aQ,aQ,aQ⟩) c
def O2(i:aj z (aB (e+2)) r (cF a b c d) (.loc (H a)))(m:aj g (aB (e+2)) r (cF a b c d) (.str l))(n:aj h (aB (e+2)) r (cF a b c d) (.str f))(p:kZ true l)(q:kZ false f)(dj:H f<1000)(dh:H b<1000)(eK:iR a)(s:j .next r (cF a (b++[(l,f)]) c d)):cU (bg "add_header" z [g,h] [] []) (aB (e+2)) r (cF a b c d) j k:=
 pF i EA au (c_ m n) cO (S3 EA P8 (P7 eK) p q dj dh<|wM▸s)
def aex(c:vm (toS l)=L.map toS)(d:H L<=lim)(e:a (.lst (L.map .str)) b):sZ "split" l [] b a:=jY au (jY au (jY au (jY au (rt au (by
 show(vm _).length<=lim/\a (.lst ((vm _).map λx=>.str x.cps.toList)) b;exact J c<|J (aX ..)<|J dM<|⟨d,e⟩)))))
def aey(c:Txt.split (toS l) (toS [10])=L.map toS)(d:H L<=lim)(e:a (.lst (L.map .str)) b):sZ "split" l [.str [10]] b a:=jY au (jY au (jY au (jY au (rt au (by
 refine⟨(by decide:_<128),?_⟩;show(Txt.split _ _).length<=lim/\a (.lst ((Txt.split _ _).map λx=>.str x.cps.toList)) b;exact J c<|J (aX ..)<|J dM<|⟨d,e⟩)))))
def Yx{e:X}(b:aj e cf r W (.str l))(c:vm (toS l)=a.map toS)(d:H a<=lim):aj (bg "split" e [] [] []) cf r W (bD a):=λh f g=>b _ f ⟨.inr<|.inr<|.inr<|.inr<|.inl rfl,aex c d g⟩
def ahv{e:X}(b:aj e cf r W (.str l))(c:Txt.split (toS l) (toS [10])=a.map toS)(d:H a<=lim):aj (bg "split" e [ah (.str [10])] [] []) cf r W (bD a):=λh f g=>b _ f ⟨.inr<|.inr<|.inr<|.inr<|.inl rfl,aey c d g⟩
def m_strip(c:a (.str (sY l)) b):sZ "strip" l [.str [44]] b a:=jY au<|jY au<|jY au<|jY au<|jY au<|rt au ⟨(by decide:_<128),c⟩
def ahw(c:aj z a r b (.str l)):aj (bg "strip" z [ah (.str [44])] [] []) a r b (.str (sY l)):=λf d e=>c _ d ⟨.inr<|.inr<|.inr<|.inr<|.inr rfl,m_strip e⟩
def Wt{e:Str}(f:aj (bg e z as [] []) a r b (.lst c)):gQ (bg e z as [] []) a d r b c yes:=λk g h=>f (λi j=>j0 j i k) g h
def DR(c:aj z a r b (.int i))(d:i<128):aj (aP (ah (.g 1002)) [z] [] []) a r b (.str [i]):=λh e f=>c _ e ⟨kE i,nI.mpr d,f⟩
def Yi(d:aj z b r c (.str [a])):aj (aR .Mult z (ah (.int 2))) b r c (.str [a,a]):=jz d bc λk e=>⟨⟨av,av⟩,aH,e⟩
def aio(j:∀k:D->Prop,k (.int i)->opt (r[N]?) λa=>qK a (k a)) (g:r[N]?=some (.int i)) (h:br b c (r.set N (.int (i+1:Nat))) d e f):br (Zh N .Add (ah (.int 1))::b) c r d e f:=by
 show opt _ _;exact J g<|⟨rfl,h⟩
def Ez(a:b3)(b:List D):List D->aN->eX->Prop:=lO yes (λc d e f g=>iU false [8] c d λh=>br P5 a h e f g) (br [] a) b
def ej(d:b3)(e:List D)(a:eX):eX:=λf b c=>i9.casesOn f (True/\Ez d e b c a) (a .next b c) (True/\Ez d e b c a) λg=>a (.ret g) b c
def D3(a:b3)(b:List D):List D->aN->eX->Prop:=lO yes (λc d e f g=>iU false [7] c d λh=>br yQ a h e f g) (br [] a) b
def YW(d:b3)(e:List D)(a:eX):eX:=λf b c=>i9.casesOn f (True/\D3 d e b c a) (a .next b c) (True/\D3 d e b c a) λg=>a (.ret g) b c
structure Cp(T:List (List Nat)):Prop where
 f:∀j,j<7->kZ true (sY<|T.getD j [])
 v:∀i j,i<7->j<7->kZ false [97+i,97+j]
 r:kZ true [82,111,119]
def tn(b:List (List Nat))(c:List Nat):nT:=c.map λa=>(sY<|b.getD a [],[97+a,97+a])
def mO(b:List (List Nat))(a:List Nat):nT:=tn b a++bif a.isEmpty then[] else[([82,111,119],[97+a.headD 0,97+a.getLastD 0])]
def alx(i:br P5 a (eE b tk N c made d e f g h j) k (ej a m n) cI):Ez a (e::m) (eE b tk N c made d p f g h j) k n:=i
def alz(e:Ez a b r c d):ej a b d .next r c:=⟨aQ,e⟩
def ahX(i:br yQ a (eE b tk N c made d e f g h j) k (YW a m n) cI):D3 a (d::m) (eE b tk N c made p e f g h j) k n:=i
def ahY(e:D3 a b r c d):YW a b d .next r c:=⟨aQ,e⟩
def aly(v:Cp e)(eK:iR c)(i):∀a b d,a+i<=7->H b+i<=900->(∀d,t .next (eE f tk (H c) (97+(a+i)) made g d h j m n) (cF c (b++tn e (jn a i)) p q))->
 Ez (aB<|s+2) ((jn a i).map λu=>.str<|e.getD u []) (eE f tk (H c) (97+a) made g d h j m n) (cF c b p q) t:=by
 induction i with
 |zero=>
  intro a b d _ _ k;have:=k d;rwa [show b++tn e _=b from dR _] at this
 |succ i x=>
  intro a b d w y k;have r:=bZ (tM<|jo i) w;have z:aj (bg "strip" (af 8) [_] [] []) (aB<|s+2) (eE f tk (H c) (97+a) made g (.str<|e.getD a []) h j m n) (cF c b p q) _:=ahw aq;have A:aj (aR .Mult (Aj<|af 4) _) (aB<|s+2) (eE f tk (H c) _ made g (.str<|e.getD a []) h j m n) (cF c b p q) _:=Yi<|DR aq<|tL (fF r (show 7<31 by decide)) 97;refine J JR<|alx<|aO<|O2 aq z A (v.f a r) (v.v a a r r) aH (bz (az (cZ _ _) y) av) eK<|aio (λU l=>l) rfl<|dZ<|alz ?_;have ao:a+(i+1)=a+1+i:=J (gE ..)<|J (h_ 1 ..) rfl;refine x _ _ _ (ao▸w) (by rwa [bq,EO,gE,h_ 1]) λd=>?_
  have:=k d;rw[ao] at this;rwa [eT]
def ak3{a:List y}{b:y->Bool}(c:∀x∈a,b x=true):a.takeWhile b=a:=by
 induction a with
 |nil=>rfl
 |cons x a d=>exact J JS<|J (c x<|.head _)<|J (d λe f=>c e<|.tail _ f) rfl
def ail(i:a<1000/\gU.lookup a=none/\je.contains a=true)(l:eO as b r c e)(n:eO f b r c h)(p:b a e (j.zip h) c (λU k=>m .next r k) d):cU (aP (ah (.g a)) as f j) b r c m d:=by
 show sel _ _ _;exact J (eS<|gO.mpr i.1)<|J i.2.1<|⟨i.2.2,l _ d<|n _ d p⟩
def Yz(d:aj z a r b (.int i))(e:aj c a r b (.int N))(f:N<=i):aj (aR .Sub z c) a r b (.int (i-N:Nat)):=jz d e λk g=>by
 show True/\k (.int<|i-_);exact bH (QI f)<|⟨aQ,g⟩
def sM(e:aj z a r b (.str l))(f:aj d a r b (.str c))(g:H l+H c<=lim):aj (aR .Add z d) a r b (.str (l++c)):=jz e f λU h=>⟨g,h⟩
def alJ:(cF a c b d).set (H a+2) (.lst ((b++[e]).map λf=>.str [97+f]))=cF a c (b++[e]) d:=wM
def GU:47<1000/\gU.lookup 47=none/\je.contains 47=true:=⟨av,rfl,rfl⟩
def WW(a b):(jn a (b+1)).getLastD 0=a+b:=by
 exact J List.range'_concat<|J (Q4 ..)<|J hy rfl
def row_end(B:Cp v)(eK:iR b)(z:a+(d+1)<=7)(G:H h<900)(E:∀f∈c,f<a)(F:H c<50)(K:vm (toS l)=((jn a (d+1)).map λw=>v.getD w []).map toS)(L:l.isEmpty=false)(y:x .next (eE j tk (H b) (97+(a+(d+1))) made (.str l) m n p q s) (cF b (h++[([82,111,119],[97+a,97+(a+d)])]) (c++[a]) t)):
 br (yQ.drop 1) (aB<|u+2) (eE j tk (H b) (97+(a+(d+1))) made (.str l) m n p q s) (cF b h c t) x A:=by
 have M:=by
  have:=I7 (cf:=aB<|u+2) (r:=eE j tk (H b) (97+(a+(d+1))) made (.str l) m n p q s) (W:=cF b h c t) (i:=7) aq;rwa [L] at this
 have N:=by
  have:=sO (Yx (cf:=aB<|u+2) (r:=eE j tk (H b) (97+(a+(d+1))) made (.str l) m n p q s) (W:=cF b h c t) (e:=af 7) aq K<|J (aX ..)<|J BH<|az (az (fS _ _) z) aH) rfl;rwa [aX,aX,BH] at this
 have O:=tL (bZ (bZ (tM<|jo d) z) (by decide:7<=31)) 97;have P:aj (Aj<|aR .Sub (af 4)<|aP (ah<|.g 1000) [bg "split" (af 7) [] [] []] [] []) (aB<|u+2) (eE j tk (H b) (97+(a+(d+1))) made (.str l) m n p q s) (cF b h c t) (.str [97+a]):=by
  refine DR ?_ O;have:=Yz (bN (r:=eE j tk (H b) _ made _ m n p q s) (i:=4) λU y=>y) N<|az (fS _ a)<|fS _ 97;have e:97+(a+(d+1))-(d+1)=97+a:=bH (gE 97 ..)<|J (JT ..) rfl;rwa [e] at this
 refine aO (ek M (aO (ail GU (c_ aq P) cO (V7 Jj (λU y=>y) (aS _) (J (aX ..)<|fF F av) (λZ A y=>by
  have y:=(by rwa [aX] at y);have e:q3 c (λf=>!decide (a<f)) 0 (H c)=H c:=by
   unfold q3;rw[ak3 λf Q=>by exact J (eS<|bA.mpr<|bF<|E f Q) rfl,EY,Nat.zero_max]
  refine ye ?_ Lh (jl Jj) (.inl ⟨rfl,rfl⟩) (λU y=>y) (.inr ⟨rfl,(aX ..).symm⟩) (b9 _) (aS _) (fF F av) (e.symm▸y) λf U k y=>?_
  .refine List.pairwise_iff_forall_sublist.mpr λ{R f} S U=>?_
   exact J (eS<|bA.mpr<|bF<|E R<|S.subset<|.head _) rfl
  show k _;rw[oi];rwa [fg] at y) ?_))))
 rw[zm,hr,show(c.map λf=>D.str [97+f])++[D.str [97+a]]=(c++[a]).map (λf=>D.str [97+f]) by exact J dS rfl,alJ];have T:aj (aT (af 3) _) (aB<|u+2) (eE j tk (H b) (97+(a+(d+1))) made (.str l) m n p q s) (cF b h (c++[a]) t) _:=Ie aq<|J (jl Jj)<|J dS rfl;have V:=tL (bZ z (by decide:7<=31)) 97;have X:=by
  have Y:aj (af 4) (aB<|u+2) (eE j tk (H b) (97+(a+(d+1))) made (.str l) m n p q s) (cF b h (c++[a]) t) _:=aq;exact DR (sP Y<|jo _) V
 exact aO<|O2 aq bc (sM T X aH) B.r (B.v a _ (bz (cZ _ _) z) z) aH (fF G av) eK<|dZ<|dZ y
def ah1(z:Cp d)(eK:iR f)(y:a+b<=7)(F:H c+b<900)(G:∀u∈h,u<a)(K:H h<50)(A:vm (toS l)=((jn a b).map λj=>d.getD j []).map toS)(B:l.isEmpty=(b==0))(x:∀g,v .next (eE k tk (H f) (97+(a+b)) made (.str l) g m n p q) (cF f (c++mO d (jn a b)) (h++bif b==0 then[] else[a]) s)):
 br yQ (aB<|t+2) (eE k tk (H f) (97+a) made (.str l) g m n p q) (cF f c h s) v w:=by
 have E:=Yx (cf:=aB<|t+2) (r:=eE k tk (H f) (97+a) made (.str l) g m n p q) (W:=cF f c h s) (e:=af 7) aq A<|J (aX ..)<|J BH<|az (az (fS _ _) y) aH;have e:((jn a b).map λj=>d.getD j []).map D.str=(jn a b).map λj=>.str (d.getD j []):=J dM rfl
 rw[bD,e] at E;refine aO<|lB (Wt E) (aly z eK b a c g y (bF F) λg=>?_);obtain _|b:=b
 .have L:=by
   have:=I7 (cf:=aB<|t+2) (r:=eE k tk (H f) (97+a) made (.str l) g m n p q) (W:=cF f c h s) (i:=7) aq;rwa [B] at this
  have x:=x g;have ao:c++mO d (jn a 0)=c:=dR _;have aA:h++(bif 0==0 then[] else[a])=h:=dR _;rw[ao,aA] at x;have bL:c++tn d (jn a 0)=c:=dR _;exact J bL<|aO<|kW L<|dZ x
 have x:=x g;have ao:mO d (jn a<|b+1)=tn d (jn a<|b+1)++[([82,111,119],[97+a,97+(a+b)])]:=by
  have e:(jn a<|b+1).isEmpty=false:=rfl;unfold mO;exact J (WW ..) rfl
 rw[ao,<-eT] at x;refine row_end z eK y ?_ G K A B x;show(c++(jn a _).map _).length<900;rwa [bq,aX,BH]
def gu(a:List (List Nat))(b:List (List Nat)):nT:=(b.map<|mO a).flatten
noncomputable def j3(b:List (List Nat)):List Nat:=(b.map λa=>bif a.isEmpty then[] else[a.headD 0]).flatten
structure Sa(T:List (List Nat))(ln:List Nat->List Nat)(row:List Nat):Prop where
 w:vm (toS<|ln row)=(row.map λj=>T.getD j []).map toS
 e:(ln row).isEmpty=row.isEmpty
def ahQ(b a):(jn b a).isEmpty=(a==0):=by cases a<;>rfl
def ah2(L:Cp j)(eK:iR m)(i):∀d c b g h f,i.flatten=jn d c->d+c<=7->H b+c+H i<800->H g+H i<50->(∀n∈g,n<d)->(∀a∈i,Sa j ln a)->
 (∀h f,p .next (eE q tk (H m) (97+(d+c)) made h f s t u v)<|cF m (b++gu j i) (g++j3 i) w)->D3 (aB<|x+2) (i.map λa=>.str<|ln a) (eE q tk (H m) (97+d) made h f s t u v) (cF m b g w) p:=by
 induction i with
 |nil=>
  intro d c b g h f r A _ _ _ _ k;have e:=by
   have:=aZ EL r;rw[BH] at this;exact this.symm
  subst e;have k:=k h f;rwa [show b++gu j []=b from dR _,show g++j3 []=g from dR _] at k
 |cons a i M=>
  intro d c b g h f r A B D E F k;rw[qs] at r;refine dm (hG.mp r.symm) λl y ao aA=>?_
  rw[hY] at aA;have G:=F a<|.head _;have K:d+l+(c-l)=d+c:=J (gE ..)<|J (rL y) rfl;rw[gK] at B D;have N:(mO j a).length<=l+1:=by
   unfold mO;refine J bq<|d9 (di (by unfold tn;rw[aX,ao,BH])) ?_;obtain _|_:=a.isEmpty
   .exact aS _
   exact b9 _
  have O:(bif a.isEmpty then[] else[a.headD 0]).length<=1:=by
   obtain _|_:=a.isEmpty
   .exact aS _
   exact b9 _
  refine ahX (ah1 L eK (az (j7 y _) A) (bz (az (j7 y _)<|cZ _ _)<|fF B av) E (bz (cZ _ _) D) (ao▸G.w) (J G.e<|J ao<|J (ahQ ..) rfl) λf=>ahY ?_);rw[<-ao];have bL:(bif l==0 then[] else[d])=bif a.isEmpty then[] else[a.headD 0]:=by
   rw[ao];cases l<;>rfl
  refine J bL<|M _ _ _ _ _ _ aA (K▸A) ?_ ?_ ?_ (λP Q=>F P<|.tail _ Q) λh f=>?_
  .rw[bq];have:H b+(mO j a).length+_+H i<=H b+_+(c-l)+H i:=j8 (j8 (j7 N _) _) _;refine bz this ?_;have R:H b+(l+1)+(c-l)+H i=H b+c+(H i+1):=by
    exact J (gE (H b) ..)<|J (pT l ..)<|J (rL y)<|bH (gE ..)<|J (pT ..)<|J (gE _ ..) rfl
   rwa [R]
  .refine J bq<|bz (j8 (j7 O _) _) ?_;rwa [gE,h_ 1]
  .intro n S;obtain z|z:=i7.mp S
   .exact bZ (E n z)<|cZ _ _
   rw[<-bL] at z;obtain _|l:=l
   .contradiction
   exact(dK.mp z)▸tM (jo l)
  rw[K,eT,eT];exact k h f
noncomputable def dO(k:Nat):List Nat:=kG k 113
noncomputable def mE(a:Bool)(s:List Nat):Bool:=b7 (sS (bif a then sJ else s_) s).outcome false λo=>PySem.Sre.Outcome.casesOn o false true λU=>false
def sG(b:mE a l=true):kZ a l:=by
 unfold mE at b;unfold kZ;rcases e:(sS _ l).outcome with _|o
 .rw[e] at b;contradiction
 rw[e] at b;cases o with
 |failed=>rfl
 |matched=>contradiction
 |stuck=>contradiction
noncomputable def Ac:List (List Nat):=(b6 7).flatMap λa=>(b6 7).map λb=>[97+a,97+b]
def ov:Ac.all (mE false)=true:=au
def Vc(a b:Nat)(c:a<7)(d:b<7):kZ false [97+a,97+b]:=sG<|dQ.mp ov _<|JP.mpr ⟨a,fJ.mpr c,fC.mpr ⟨b,fJ.mpr d,rfl⟩⟩
def Xq:List (List Nat):=mH++[dO 1,dO 2,dO 3]
def eqB(s a:List Nat):Bool:=List.rec (λa=>a.isEmpty) (λb U c a=>fk a false λd a=>Nat.beq b d&&c a) s a
def sr:∀{a:List Nat},eqB l a=true->l=a:=by
 induction l with
 |nil=>
  intro a b;obtain _|_:=a
  .rfl
  contradiction
 |cons f l c=>
  intro a b;obtain _|⟨g,a⟩:=a
  .contradiction
  obtain⟨d,e⟩:=(bl ..).mp b;exact J (EV d)<|J (c e) rfl
def afa:Xq.all (λs=>eqB (low (gg s)) s&&(mE true s&&(mE true (gg s)&&(ia (gg s).length 100&&ia (H s) 100))))=true:=au
structure p5(s:List Nat):Prop where
 e:low (gg s)=s
 f:kZ true s
 g:kZ true (gg s)
 l:(gg s).length<=lim
 m:s.length<=lim
def Xw(e:l∈Xq):p5 l:=by
 have a:=dQ.mp afa l e;obtain⟨a,b⟩:=(bl ..).mp a;obtain⟨b,c⟩:=(bl ..).mp b;obtain⟨c,d⟩:=(bl ..).mp c;obtain⟨d,f⟩:=(bl ..).mp d;exact⟨sr a,sG b,sG c,az (fE d) aH,az (fE f) aH⟩
def AW(a:k<3):p5 (dO (k+1)):=Xw (lF _ (by
 cases k with
 |zero=>exact .head _
 |succ k=>cases k with
  |zero=>exact .tail _<|.head _
  |succ k=>cases k with
   |zero=>exact .tail _<|.tail _<|.head _
   |succ k=>exact aW a (bA.mpr (fS 3 k))))
def acA:mH.all (λs=>!eL s)=true:=au
def acB:Ej.all (λa=>eL [a])=true:=au
def aiD:∀a∈Ej,qC [a]:=λa b=>by
 obtain rfl|b:=cQ.mp b
 .exact .and
 obtain rfl|b:=cQ.mp b
 .exact .or
 obtain rfl|b:=cQ.mp b
 .exact .lt
 obtain rfl|b:=cQ.mp b
 .exact .cE _ true true ⟨rfl,rfl,rfl,au,au,au⟩
 obtain rfl|b:=cQ.mp b
 .exact .cE _ true false ⟨rfl,rfl,rfl,au,au,au⟩
 obtain rfl|b:=cQ.mp b
 .exact .cE _ false true ⟨rfl,rfl,rfl,au,au,au⟩
 obtain rfl|b:=cQ.mp b
 .exact .cE _ false false ⟨rfl,rfl,rfl,au,au,au⟩
 contradiction
def Xp(a k:Nat):jg a k∈mH:=by
 exact eU<|getD_at<|l5 _ av
def ZH(a k:Nat):jZ a k∈Ej:=by
 exact eU<|getD_at<|l5 _ av
def Ob(a k:Nat):eL (jg a k)=false:=by
 have:=dQ.mp acA _<|Xp a k;rcases b:eL _ with _|_
 .rfl
 rw[b] at this;contradiction
def II(a k:Nat):eL [jZ a k]=true:=dQ.mp acB _<|ZH a k
def I2(a k:Nat):Tk (jg a k):=⟨.inr ⟨Ob a k,Xp a k⟩⟩
def PN(a k:Nat):Tk [jZ a k]:=⟨.inl ⟨II a k,aiD _<|ZH a k⟩⟩
def c4{s:List Nat}(d:s∈s7 a b l c):s∈b\/s=l\/s=[c]:=by
 obtain d|d:=i7.mp d
 .obtain _|_:=a
  .exact(i7.mp d).elim .inl λe=>.inr<|.inl<|dK.mp e
  exact(cQ.mp d).elim (λe=>.inr<|.inl e) .inl
 exact .inr<|.inr<|dK.mp d
def PS(b:Nat):∀s∈tokens b,Tk s:=λs a=>by
 obtain a|rfl|rfl:=c4 a
 .obtain a|rfl|rfl:=c4 a
  .obtain rfl|a:=cQ.mp a
   .exact I2 b 0
   obtain rfl|a:=cQ.mp a
   .exact I2 b 1
   exact J (dK.mp a)<|PN b 0
  .exact I2 b 2
  exact PN b 1
 .exact I2 b 3
 exact PN b 2
def AZ(c:eL l=true):pq (l::b) a=(ia 2 a&&pq b (a-1)):=by
 show(bif eL l then _ else _)=_;exact J c rfl
def HT(c:eL l=false):pq (l::a) b=pq a (b+1):=by
 show(bif eL l then _ else _)=_;exact J c rfl
def s8(b:Nat):pq (tokens b) 0=true/\((tokens b).filter eL).length=3/\(tokens b).length=7/\∃a,tokens b=a++[[jZ b 2]]:=by
 refine⟨?_,?_,J PR<|J c3<|J c2 rfl,⟨_,PR⟩⟩
 .unfold tokens s7;cases nX b 1<;>cases nX b 2<;>simp only[cond_true,cond_false,hn,JQ,AZ<|II b _,HT<|Ob b _]<;>rfl
 unfold tokens s7;cases nX b 1<;>cases nX b 2<;>simp only[cond_true,cond_false,hn,JQ,oE,II b,Ob b]<;>rfl
noncomputable def jc(a:a_):List Nat:=[97+a.1,97+a.2]
def iG(a:nT)(b:List Nat):List (List Nat):=(a.filter λc=>decide (low c.1=b)).map (·.2)
noncomputable def d7(ns:List (List Nat)):Ps:=ns.reverse.map λa=>([32],a)
abbrev lU:List Y:=[bX AE [pD [10,11,6] [Dd,Dd,aR .Add (af 6)<|ah<|.str [113]],gv false [12] Ld Cw []] [],Ow]
def aar(b:p5 l):getL a (gg l)=iG a l:=by
 unfold getL iG;exact J b.e rfl
def Av:iG (a++b) l=iG a l++iG b l:=by
 unfold iG;exact J (ht ..)<|J dS rfl
def Mv{c:List a_}(d:p5 made)(b)(f:decide (made=l)=b):iG (c.map λa=>(gg made,jc a)) l=bif b then c.map jc else[]:=by
 unfold iG;rw[hu,dM];have e:((λa:List Nat×List Nat=>decide (low a.1=l))∘λa:a_=>(gg made,jc a))=λU=>b:=by
  funext a;show decide _=b;rwa [d.e]
 rw[e];obtain _|_:=b
 .exact J (QL.mpr λU U=>gX) rfl
 exact J (EF.mpr λU U=>rfl) rfl
def Pp:d7 (l::L)=d7 L++[([32],l)]:=by
 unfold d7;exact J BK<|J dS rfl
def eM:(cF a b c e).set (H a+3) (pn 2 d)=cF a b c d:=wM
def pN{i:Str}(j:(z a).v r d (λo b=>pg a b o i λe=>CR (gh as a) (gh f a) g e r b h c) c):(bg i z as f g a).v r d h c:=j
def ak9(h:aj (af 5) (aB (e+2)) r (cF a b c (d7 (l::L))) (.loc (H a+3)))(i:p5 l)(j:H L<900)(k:d (.str (gg l)) (cF a b c (d7 L))):(dA (aB (e+2))).v r (cF a b c (d7 (l::L))) d g:=by
 refine pN<|(pN<|h _ g<|mG (f:=196) Jk au ?_);refine Gz Jk ?_ ?_
 .have ao:(e8<|d7 (l::L)).getLast?.getD Ao=.tup [.str [32],.str l]:=by
   rw[Pp];unfold e8;exact J dS<|J anj<|J xq rfl
  have aA:(e8<|d7 (l::L)).dropLast=e8 (d7 L):=by
   rw[Pp];unfold e8;exact J dS<|J anj<|J EE rfl
  rw[ao,aA];suffices m:IT "upper"/\sZ "upper" l [] _ d from m;refine⟨.inr<|.inl rfl,?_⟩;have:(cF a b c<|d7 (l::L)).set _ _=cF a b c (d7 L):=eM;exact Xd i.l<|this▸k
 unfold e8 d7;exact J (aX ..)<|J (aX ..)<|J xu<|bz j av
structure ed(hs:nT):Prop where
 l:∀p∈hs,(low p.1).length<=lim
 n:hs.length<900
def Vs(j:aj (af 2) (aB (d+2)) r (cF a b c (d7 (l::L))) (.loc (H a)))(k:aj (af 5) (aB (d+2)) r (cF a b c (d7 (l::L))) (.loc (H a+3)))(h:p5 l)(i:ed b)(m:H L<900)(n:e (.lst ((iG b l).map .str)) (cF a b c (d7 L))):(Dd (aB (d+2))).v r (cF a b c (d7 (l::L))) e g:=by
 refine pN<|j _ g<|mG (f:=323) EA au ?_;refine ak9 k h m<|T7 EA P8 (h.e.symm▸h.f) (h.e.symm▸h.m) i.l (az (bF i.n) aH) ?_;rwa [aar h]
def Cx(a:b3)(b:List D):List D->aN->eX->Prop:=lO yes (λc d e f g=>iU false [12] c d λh=>br Cw a h e f g) (br [] a) b
def S0(d:b3)(e:List D)(a:eX):eX:=λf b c=>i9.casesOn f (True/\Cx d e b c a) (a .next b c) (True/\Cx d e b c a) λg=>a (.ret g) b c
def oa(i:br Cw a (eE b tk N c made d e f g h j) k (S0 a m n) cI):Cx a (j::m) (eE b tk N c made d e f g h p) k n:=i
def oc(e:Cx a b r c d):S0 a b d .next r c:=⟨aQ,e⟩
def ob(eK:iR c)(u:p5 made)(l:List a_):∀b d,(∀a∈l,a.1<=a.2/\a.2<7)->H b+H l<900->(∀d,t .next (eE e tk (H c) f made g h j m n d) (cF c (b++l.map λa=>(gg made,jc a)) p q))->
 Cx (aB<|s+2) (l.map bV) (eE e tk (H c) f made g h j m n d) (cF c b p q) t:=by
 induction l with
 |nil=>
  intro b d _ _ k;have k:=k d;rwa [show b++([]).map (λa=>_)=b from dR _] at k
 |cons a l w=>
  intro b d v x k;have r:=v a<|.head _;have y:aj (bg "upper" (af 6) [] [] []) (aB<|s+2) (eE e tk (H c) f made g h j m n<|bV a) (cF c b p q) _:=YC aq u.l;have z:aj (af 12) (aB<|s+2) (eE e tk (H c) f made g h j m n<|bV a) (cF c b p q) _:=aq;refine oa<|aO<|O2 aq y z u.g (Vc a.1 a.2 (bz r.1 r.2) r.2) aH (bz (cZ _ _)<|fF x av) eK<|dZ<|oc ?_;refine w _ _ (λi A=>v i<|.tail _ A) (by rwa [bq,EO,gE,h_ 1]) λd=>?_
  exact J (eT ..)<|k d
abbrev Sg:=List Nat×List a_
structure rX where
 st:List Sg
 told:List (List a_)
 hs:nT
def yF(a:rX)(s:List Nat):List a_:=g4 s (a.st.getD 1 ([],[])).2 (a.st.getD 0 ([],[])).2
def ql(a:rX)(s:List Nat):rX:=⟨(dO<|H a.told+1,yF a s)::a.st.drop 2,a.told++[yF a s],a.hs++(yF a s).map λb=>(gg<|dO<|H a.told+1,jc b)⟩
def sX(val:List Nat->List a_)(a:rX)(s:List Nat):rX:=bif eL s then ql a s else⟨(s,val s)::a.st,a.told,a.hs⟩
def Ent(val:List Nat->List a_)(c:List (List a_))(a:Sg):Prop:=(a.1∈mH/\a.2=val a.1)\/∃b,b<H c/\a.1=dO (b+1)/\a.2=c.getD b []
structure mh(val:List Nat->List a_)(S:rX):Prop where
 n:∀nm∈mH,iG S.hs nm=(val nm).map jc
 q:∀j,j<3->iG S.hs (dO<|j+1)=(S.told.getD j []).map jc
 e:∀p∈S.st,bk p.2/\Ent val S.told p
 l:∀p∈S.hs,(low p.1).length<=lim
def acG{j:Bool}(i:a<1000/\gU.lookup a=none/\je.contains a=true)(l:eO as d r c f)(m:∀e b,e (.lst h) c->d a f [] c e b):gQ (aP (ah (.g a)) as [] []) d j r c h yes:=λk b n=>by
 show sel _ _<|sel _ _<|sel _ _<|b7 _ _ _;exact J (jO<|kI<|fF i.1 (by decide:1000<1013))<|J (jO<|kI<|fF i.1 (by decide:1000<1014))<|J (eS<|gO.mpr i.1)<|J i.2.1<|⟨i.2.2,l _ b<|m (λp q=>j0 q p k) b n⟩
def YL:dO k++[113]=dO (k+1):=List.replicate_succ'.symm
def abf:mH.all (λs=>!(Nat.beq (s.headD 0) 113))=true:=au
def ahL(a:l∈mH):decide (dO (k+1)=l)=false:=eS λe=>by
 have:=dQ.mp abf l a;rw[<-e] at this;contradiction
def ahM(b:a≠k):decide (dO (k+1)=dO (a+1))=false:=eS λe=>b (by
 have:=aZ EL e;unfold dO at this;rw[EN,EN] at this;exact(Nat.succ.inj this).symm)
def Vw{b:List y}{x c:y}(d:a<H b):(b++[x]).getD a c=b.getD a c:=by
 exact J l0<|J l0<|J (zl d) rfl
def Vx{a:List y}{x b:y}:(a++[x]).getD (H a) b=x:=by
 exact J l0<|J EH rfl
def My{b:List y}{c:y}(d:H b<=a):b.getD a c=c:=by
 exact J l0<|J (tK d) rfl
def Ent.more(e:Ent val a b):Ent val (a++[c]) b:=e.elim .inl λ⟨f,d,g,h⟩=>.inr ⟨f,by rw[bq];exact bZ d<|cZ _ _,g,J (Vw d)<|h⟩
def mh.ent(e:mh val b)(g:H b.told<=3)(h:a∈b.st):p5 a.1/\iG b.hs a.1=a.2.map jc:=by
 obtain⟨c,d⟩|⟨i,c,d,j⟩:=(e.e a h).2
 .exact⟨Xw<|xw _ c,J d<|e.n _ c⟩
 have f:=bZ c g;exact⟨d▸AW f,J d<|J j<|e.q i f⟩
def mh.name(b:mh val a)(c:l∈mH)(d:bk (val l)):mh val ⟨(l,val l)::a.st,a.told,a.hs⟩ where
 n:=b.n
 q:=b.q
 e:=λf g=>(cQ.mp g).elim (λe=>by rw[e];exact⟨d,.inl ⟨c,rfl⟩⟩) λh=>b.e f h
 l:=b.l
def aeG{b:List a_}{c:a_->y}{x:y}(d:x∈b.map c):∃a∈b,c a=x:=fC.mp d
def mh.sign(c:mh val a)(d:H a.told<3)(k:bk (yF a l)):mh val (ql a l) where
 n:=λi b=>by
  show iG (a.hs++_) i=_;rw[Av,Mv (AW d) false<|ahL b,c.n i b,cond_false,dR]
 q:=λf m=>by
  show iG (a.hs++_) (dO<|f+1)=((a.told++[yF a l]).getD f []).map jc;rw[Av,c.q f m];by_cases e:f=H a.told
  .subst e;rw[Mv (AW d) true<|gb rfl,Vx,My<|aS _];rfl
  rw[Mv (AW d) false<|ahM e,cond_false,dR];obtain b|b:=Nat.lt_or_gt_of_ne e
  .rw[Vw b]
  rw[My<|bF b,My (by rw[bq];exact b)]
 e:=λg h=>(cQ.mp h).elim (λe=>by
  rw[e];exact⟨k,.inr ⟨H a.told,by show _<(a.told++[yF a l]).length;rw[bq];exact f6 _,rfl,Vx.symm⟩⟩) λb=>⟨(c.e g (hD b)).1,(c.e g (hD b)).2.more⟩
 l:=λg h=>(i7.mp h).elim (c.l g) λb=>by
  refine aG (aeG b) λr U p=>?_;subst p
  have j:=AW d;show(low<|gg<|dO<|H a.told+1).length<=lim;rw[j.e];exact j.m
def Bq(a:b3)(b:List D):List D->aN->eX->Prop:=lO yes (λc d e f g=>iU false [9] c d λh=>br lU a h e f g) (br [] a) b
def cq(d:b3)(e:List D)(a:eX):eX:=λf b c=>i9.casesOn f (True/\Bq d e b c a) (a .next b c) (True/\Bq d e b c a) λg=>a (.ret g) b c
def ju(val:List Nat->List a_)(a:List (List Nat))(b:rX):rX:=a.foldl (sX val) b
def ct(i:br lU a (eE b tk N c made d e f g h j) k (cq a m n) cI):Bq a (f::m) (eE b tk N c made d e p g h j) k n:=i
def cv(e:Bq a b r c d):cq a b d .next r c:=⟨aQ,e⟩
def ajg:(d7 L).length=H L:=by unfold d7;exact J (aX ..)<|J xu rfl
def YE(j:aj (af 5) (aB (f+1)) r (cF a b c (d7 L)) (.loc (H a+3)))(k:aj (gT AE (af 6) (af 9)) (aB (f+1)) r (cF a b c (d7 L)) (.str d))(l:H L<900)(i:g .next r (cF a b c (d7 (d::L)))):br [Ow] (aB (f+1)) r (cF a b c (d7 L)) g h:=by
 refine aO<|pF j Jk au (c_ bc k) cO<|T5 Jk ?_ (dZ ?_) (λU i=>i) λU i=>i
 .unfold e8;exact J (aX ..)<|J ajg<|az (l7 l) aH
 have e:e8 (d7 L)++[.tup [.str [32],.str d]]=e8 (d7 (d::L)):=by
  rw[Pp];unfold e8;exact J dS rfl
 rw[e];have:(cF a b c<|d7 L).set _ _=cF a b c (d7 (d::L)):=eM;exact this▸i
def akt(r:eL l=false)(s:H L<900)(i:m .next (eE b tk (H a) c made d e (.str l) f g h) (cF a j k (d7 (l::L)))):br lU (aB (n+1)) (eE b tk (H a) c made d e (.str l) f g h) (cF a j k (d7 L)) m p:=by
 have q:dz AE (aB<|n+1) (eE b tk (H a) c made d e (.str l) f g h) (cF a j k<|d7 L) false:=r▸Ex aq bc;exact aO<|kW q<|YE aq (q6 q (λt=>nomatch t) λU=>aq) s i
def aku(eK:iR a)(B:eL l=true)(G:qC l)(u:bk g)(v:bk h)(x:ed b)(E:p5 k)(F:p5 m)(bQ:p5 (made++[113]))(K:iG b k=g.map jc)(M:iG b m=h.map jc)(N:H made<100)(O:H b+(g4 l g h).length<900)(s:H L+2<900)(i:∀fB iy gW,q .next (eE c tk (H a) d (made++[113]) e f (.str l) fB iy gW) (cF a (b++(g4 l g h).map λj=>(gg (made++[113]),jc j)) p (d7 ((made++[113])::L)))):
 br lU (aB<|n+3) (eE c tk (H a) d made e f (.str l) fB iy gW) (cF a b p<|d7 (m::k::L)) q Z:=by
 have y:∀{made:List Nat} {r:aN} {fB iy gW:D},dz AE (aB<|n+3) (eE c tk (H a) d made e f (.str l) fB iy gW) r true:=λ{made r fB iy gW}=>B▸Ex aq bc
 have z:∀{r:aN},aj (af 2) (aB<|n+3) (eE c tk (H a) d made e f (.str l) fB iy gW) r _:=aq;have A:∀{r:aN},aj (af 5) (aB<|n+3) (eE c tk (H a) d made e f (.str l) fB iy gW) r _:=aq;have P:aj (aR .Add (af 6)<|ah<|.str [113]) (aB<|n+3) (eE c tk (H a) d made e f (.str l) fB iy gW) (cF a b p<|d7 L) _:=sM aq bc<|az (d9 (bF N)<|aS 1) aH;refine aO<|ek y<|aO<|(Vs z A F x (vg s)<|Vs z A E x (vg<|vg s)<|P _ _ ?_);rw[K,M];have ao:∀t:List a_,(t.map jc).map D.str=t.map bV:=λt=>J dM rfl
 rw[ao,ao];suffices next:br [gv false [12] Ld Cw []] _ _ _ _ Z from next;refine aO<|lB (acG (⟨av,au,au⟩) (dD aq<|c_ aq aq) λS Z i=>oI G u v (P7 eK) i) ?_;exact ob eK bQ _ b gW (λj Q=>(Cz G u v).w j Q) O λgW=>YE aq (q6 y (λU=>aq) λR=>nomatch R) (vg<|vg s)<|i _ _ _
def uX(b:eL l=true):sX val a l=ql a l:=by
 unfold sX;exact J b rfl
def wO(b:eL l=false):sX val a l=⟨(l,val l)::a.st,a.told,a.hs⟩:=by
 unfold sX;exact J b rfl
def GW(b:eL l=true):((l::a).filter eL).length=(a.filter eL).length+1:=by
 exact J oE<|J b rfl
def Ml(b:eL l=false):((l::a).filter eL).length=(a.filter eL).length:=by
 exact J oE<|J b rfl
def aks(eK:iR b)(N:∀m∈mH,bk (val m))(T):∀a c fB iy gW,(∀s∈T,Tk s)->pq T a.st.length=true->mh val a->a.told.length+(T.filter eL).length<=3->a.hs.length+60*(T.filter eL).length<900->a.st.length+T.length<800->
 (∀c fB iy gW,d .next (eE e tk b.length f (dO (ju val T a).told.length) g h c fB iy gW) (cF b (ju val T a).hs j (d7 ((ju val T a).st.map (·.1)))))->
 Bq (aB<|n+3) (T.map .str) (eE e tk b.length f (dO a.told.length) g h c fB iy gW) (cF b a.hs j (d7 (a.st.map (·.1)))) d:=by
 induction T with
 |nil=>exactλa c fB iy gW U U U U U U k=>(k c fB iy gW)
 |cons s T D=>
  intro a c fB iy gW v ok H r l u k;have k:∀c fB iy gW,d .next (eE e tk b.length f (dO (ju val T _).told.length) g h c fB iy gW) (cF b (ju val T _).hs j<|d7<|(ju val T _).st.map _):=k;rw[gK] at u;obtain⟨i,G⟩|⟨i,E⟩:=(v s<|.head _).o
  .rw[AZ i] at ok;rw[GW i] at r l;rw[uX i] at k;obtain⟨XD,O⟩:=(bl ..).mp ok;obtain⟨st,q,w⟩:=a;obtain _|⟨B,st⟩:=st
   .contradiction
   obtain _|⟨A,st⟩:=st
   .contradiction
   have t:=bZ (bZ (f6 _)<|j7 (fS 1 _) _) r;obtain⟨P,Q⟩:=H.ent (bF t)<|.tail _<|.head _;obtain⟨R,S⟩:=H.ent (bF t)<|.head _;have F:=(H.e A<|.tail _<|.head _).1;have K:=(H.e B<|.head _).1;have an:=Cz G F K;rw[hZ,<-gE,pT] at l;have l:=l;have L:=bz (j7 (bF an.g5) _)<|bz (cZ _ _) l;have bQ:p5 (dO q.length++[113]):=J YL<|AW t;have V:(dO q.length).length<100:=by unfold dO;exact J EN<|fF t av
   have y:(st.map (·.1)).length+2<900:=by
    exact J (aX ..)<|fF (bz (cZ _ _) u) av
   have M:(q++[g4 s A.2 B.2]).length=q.length+1:=J bq rfl;have W:(q++[g4 s A.2 B.2]).length+(T.filter eL).length<=3:=by
    exact J M<|J (pT ..)<|r
   have X:(w++(g4 s A.2 B.2).map λp=>(gg<|dO<|q.length+1,jc p)).length+60*(T.filter eL).length<900:=by
    exact J bq<|J (aX ..)<|bz (j8 (j7 (bF an.g5) _) _) l
   have Y:=bz (d9 (gy _)<|gy _) u;have key:∀fB iy gW,Bq _ _ (eE e tk b.length f (dO (q++[g4 s A.2 B.2]).length) g h (.str s) fB iy gW) (cF b (w++(g4 s A.2 B.2).map λp=>_) j _) d:=λfB iy gW=>D (ql ⟨B::A::st,q,w⟩ s) _ fB iy gW (λx z=>v x<|.tail _ z) O (H.sign t an) W X Y k
   rw[M] at key;have step:=aku (n:=n) (fB:=fB) (iy:=iy) (gW:=gW) (Z:=cI) eK i G F K ⟨H.l,bz (cZ _ _) L⟩ P R bQ Q S V L y λfB iy gW=>cv<|J YL<|key fB iy gW
   exact ct step
  rw[HT i] at ok;rw[Ml i] at r l;rw[wO i] at k;have y:(a.st.map (·.1)).length<900:=by
   exact J (aX ..)<|fF (bz (cZ _ _) u) av
  refine ct<|akt i y<|cv ?_;exact D ⟨_::a.st,a.told,a.hs⟩ _ fB iy gW (λx z=>v x<|.tail _ z) ok (H.name E<|N s E) r l (by show a.st.length+1+T.length<800;rwa [gE,h_ 1]) k
def r1:Tn=[uS [g8 2,g8 3,g8 4,g8 5,g8 6] PI,gv false [7] (bg "split" (af 0) [ah (.str [10])] [] []) yQ [],gv false [9] (af 1) lU [],fj PJ]:=au
def rA(i:(z a).v r c (λd e=>gc (gh f a) r e (λg h=>k (d::g) h) b) b):gc (gh (z::f) a) r c k b:=i
def acn(e:k [.loc (H a),.loc (H a+2),.int (97:Nat),.loc (H a+3),.str []] (cF a [] [] [])):gc (gh PI (aB (b+2))) r a k c:=by
 refine rA<|Ih au av cO<|wt iD ⟨rfl,?_⟩;have ao:(a++[bI.inst 384 [] []]).set (H a) (c6 (a++[bI.inst 384 [] []]).length)++[bI.lst []]=a++[c6<|H a+1,.lst []]:=by
  exact J pH<|J bq<|J (eT ..) rfl
 rw[ao];suffices next:gc (gh [ah<|.int 97,aP (ah<|.g 236) [ah _] [] [],ah<|.str []]<|aB<|b+2) r _ (λf d=>k _ d) c from next;have aA:(a++[c6 _,.lst []])++[bI.lst []]=a++[c6<|H a+1,.lst [],.lst []]:=eT ..;have bL:(a++[c6<|H a+1,.lst []]).length=H a+2:=bq;have h:(a++[c6<|H a+1,.lst [],.lst []]).length=H a+3:=bq;rw[aA,bL];suffices next:gc (gh [aP (ah<|.g 236) [ah _] [] [],_]<|aB<|b+2) r _ (λf d=>k _ d) c from next;have i:eO [ah _] (aB<|b+2) r (a++[c6<|H a+1,.lst [],.lst []]) [.int 2]:=eg λU U e=>e
 refine rA<|Ih au av i<|T4 iD ⟨rfl,?_⟩;rwa [pH,h,eT]
structure Sp(T0:List (List Nat))(ln:List Nat->List Nat)(rows:List (List Nat)):Prop where
 f:rows.flatten=jn 0 7
 ne:rows≠[]
 l:∀row∈rows,Sa T0 ln row
 no:∀row∈rows,(ln row).contains 10=false
 n:rows.length<40
def IA(i:gc (gh c a) r d (λe f=>Po (g.map λh=>h a) e r f (λj k=>m .next j k) b) b):uS g c a r d m b:=i
def xl(j:Cp c)(eK:iR b)(G:Sp c ln a)(k:∀s∈T,Tk s)(ok:pq T 0=true)(l:(T.filter eL).length<=3)(m:H T<100)(p:∀d∈mH,bk (val d))(q:mh val ⟨[],[],gu c a⟩)(t:(gu c a).length<700)(g:Q (.tup [.loc (H b),.lst ((j3 a).map λf=>.str [97+f]),.loc (H b+3)]) ((cF b (ju val T ⟨[],[],gu c a⟩).hs (j3 a) (d7 ((ju val T ⟨[],[],gu c a⟩).st.map (·.1)))).set (H b+2) .dead)):
 aB (n+4) 426 [.str (dU [10] (a.map ln)),bD T] [] b Q Z:=go rfl rfl rfl [.str _,bD T,.ai,.ai,.ai,.ai,.ai,.ai,.ai,.ai,.ai,.ai,.ai] (λU g=>⟨aH,aH,g⟩) (by
 refine r1▸aO (IA<|acn ?_);suffices next:br [gv false [7] _ yQ [],gv false [9] _ lU [],fj PJ] _ _ _ _ (λu v=>ko (H b) u v Z) from next;have i:=ahv (cf:=aB (n+3)) (r:=eE (.str _) (bD T) (H b) (97+0) [] .ai .ai .ai .ai .ai .ai) (W:=cF b [] [] (d7 [])) (e:=af 0) aq (aiV _ (λe=>G.ne (JN.mp e)) λF w=>by
  refine aG (fC.mp w) λh x y=>?_;subst y
  exact G.no h x) (J (aX ..)<|az (bF G.n) aH)
 have e:bD _=.lst (a.map λh=>.str<|ln h):=aZ D.lst<|J dM rfl;rw[e] at i;refine aO<|lB (Wt i) (ah2 j eK a 0 7 [] [] .ai .ai G.f (aS 7) (fF (tL G.n 7) av) (J rJ<|J (i8 ..)<|fF G.n av) (λU z=>nomatch z) G.l λA B=>?_);have E:gQ (af 1) (aB<|n+3) false (eE (.str<|dU [10]<|a.map ln) (bD T) (H b) (97+(0+7)) [] A B .ai .ai .ai .ai) (cF b (gu c a) (j3 a)<|d7 []) _ yes:=kr aq;refine aO<|lB E (aks eK p T ⟨[],[],gu c a⟩ .ai .ai .ai .ai k ok q (by rwa [rJ,i8]) (bZ (anA t _)<|az (j7 (EZ 60 l) 700) av) (J rJ<|J (i8 ..)<|fF m av) λK L M N=>?_);exact aO (by
  show bI.casesOn _ _ _ _ _;rwa [ez Jj]))
structure iC where
 (x0 lX rD al1 tw EB alK alL alM alN alO alP P_ BA eQ eR e0 nG w9 alQ alS alT alU alV alW alX alY Qa Qc al0:D)
noncomputable abbrev aY(a:iC):List D:=[a.x0,a.lX,.ai,.ai,.ai,a.rD,a.al1,a.tw,a.EB,.ai,a.alK,a.alL,a.alM,a.alN,.ai,.ai,a.alO,a.alP,a.P_,a.BA,a.eQ,a.eR,a.e0,a.nG,.ai,a.w9,a.alQ,.ai,.ai,.ai,.ai,a.alS,a.alT,a.alU,a.alV,a.alW,a.alX,a.alY,a.Qa,a.Qc,a.al0,.ai,.ai,.ai,.ai]
noncomputable def Lo:List Nat:=[0,38,13,39,29,12,7,24,50904]
def Ph(is:List Int)(k:Nat):Nat:=((pick is (some (k:Int)) (some 60)<|some 9).map λx=>(tG x 1000000).toNat).sum
def jr(is:List Int)(k:Nat):Nat:=Lo.getD k 0+Ph is k
def cells(is:List Int):List Nat:=(b6 9).map<|jr is
noncomputable abbrev gV(a:List Nat):D:=.lst (a.map λb=>.int (b:Nat))
def H6(a:List D)(b c st:Option Int):(pick a b c st).length<=H a:=by
 refine az (di ?_)<|az (kb (a.map λU=>Value.none).toArray b c st)<|di<|J cK<|J (aX ..) rfl;unfold pick Rp;rw[cK,cK,aX];generalize Rq _ _ _=d;induction d with
 |nil=>rfl
 |cons f d e=>
  rw[tH,tH,gY,d8];obtain _|_:=a[f]?
  .exact e
  exact aZ _ e
def wj{g:Type}(b:y->g)(a:List y)(c d st:Option Int):pick (a.map b) c d st=(pick a c d st).map b:=by
 unfold pick;rw[aX];generalize Rq _ _ _=e;induction e with
 |nil=>rfl
 |cons h e f=>
  rw[tH,tH,d8];obtain _|_:=a[h]?
  .exact f
  exact aZ _ f
def sum_nat(a:List Int)(b:∀x∈a,0<=x):a.sum=((a.map Int.toNat).sum:Nat):=by
 induction a with
 |nil=>rfl
 |cons x a c=>
  exact J BL<|J i6<|J BL<|J (c λd e=>b d<|.tail _ e)<|J (u_ ..)<|J (amZ<|b x<|.head _) rfl
def agS{S:iC}(j:H is<1000):aj (c5 false [2,4] true [4,2] (aP (ah (.g 1013)) [eF [ah (.int 0),ah (.int 38),ah (.int 13),ah (.int 39),ah (.int 29),ah (.int 12),ah (.int 7),ah (.int 24),ah (.int 50904)]] [] []) [] [] (aR .Add (af 2) (aP (ah (.g 1003)) [c5 false [3] false [3] (eu false (af 0) (af 4) (ah (.int 60)) (ah (.int 9))) [] [] (aR .Mod (af 3) (ah (.int 1000000)))] [] []))) a (aY {S with x0:=.lst (is.map .int)}) b (gV (cells is)):=by
 have l:aj _ a (aY {S with x0:=.lst (is.map .int)}) b (.tup (Lo.map λm=>.int (m:Nat))):=jB<|dD bc<|dD bc<|dD bc<|dD bc<|dD bc<|dD bc<|dD bc<|dD bc<|eg bc;have:=jA (cN:=[2,4]) (is:=[4,2]) (Lo.zipIdx 0) (λd=>.tup [.int _,.int _]) (λd=>.int<|d.1+Ph is d.2) (λd=>((aY {S with x0:=.lst _}).set 4 _).set 2 _) (acF l) trivial (λU U U c=>c) (e:=aR .Add (af 2)<|aP (ah<|.g 1003) [c5 false [3] false [3] (eu false (af 0) (af 4) (ah<|.int 60)<|ah<|.int 9) [] []<|aR .Mod (af 3)<|ah<|.int 1000000] [] []) (λd z=>?_) aH
 .exact this
 obtain⟨f,k⟩:=d;have n:aj (eu false (af 0) (af 4) (ah<|.int 60)<|ah<|.int 9) a (((aY {S with x0:=.lst (is.map .int)}).set 4<|.int (k:Nat)).set 2<|.int (f:Nat)) b (.lst<|(pick is (some (k:Int)) (some 60)<|some 9).map .int):=by
  exact bH (wj ..)<|sQ (bN λU c=>c) (bN λU c=>c) bc bc λk c=>⟨(λp=>nomatch p),c⟩
 have q:(pick is (some (k:Int)) (some 60)<|some 9).length<=lim:=by
  have:=H6 (is.map .int) (some k) (some 60)<|some 9;rw[wj,aX,aX] at this;exact az this<|az (bF j) aH
 have r:gQ (eu false (af 0) (af 4) (ah<|.int 60)<|ah<|.int 9) a false (((aY {S with x0:=.lst (is.map .int)}).set 4<|.int (k:Nat)).set 2<|.int (f:Nat)) b ((pick is (some (k:Int)) (some 60)<|some 9).map .int) yes:=λk s c=>n (λt u=>j0 u t k) s c
 have h:=jA (cN:=[3]) (is:=[3]) _ D.int (λx=>.int _) (λx=>(((aY {S with x0:=.lst _}).set 4 _).set 2 _).set 3 _) r aQ (λU U U c=>c) (e:=aR .Mod (af 3)<|ah<|.int 1000000) (λx U=>jz (bN λU c=>c) bc λk c=>⟨(by decide:(1000000:Int)≠0),c⟩) q;have ao:(pick is (some (k:Int)) (some 60)<|some 9).map (λx=>D.int<|tG x 1000000)=((pick is (some (k:Int)) (some 60)<|some 9).map λx=>tG x 1000000).map .int:=J dM rfl;rw[ao] at h;have i:=YA h;have aA:((pick is (some (k:Int)) (some 60)<|some 9).map λx=>tG x 1000000).sum=(Ph is k:Nat):=by
  rw[sum_nat _ λx v=>?_,dM];rfl;refine aG (fC.mp v) λw U y=>?_;subst y
  exact Int.fmod_nonneg_of_pos w av
 rw[aA] at i;exact uJ (bN λU c=>c) i
noncomputable def ly:List (List Nat):=[[97],[97,98],[98]]
def w5(b:Bool)(a:Nat):List Nat:=bif b then gg [a] else[a]
noncomputable def qJ(a k:Nat):Bool:=!(a/2^k%2==0)
def qo(a:Nat):List Nat:=dU [] (((ly.getD (a%3) []).zipIdx 0).map λb=>w5 (qJ (a/3) b.2) b.1)
def Jf(b:Nat)(c d:Bool):List Nat:=dU [] (((ly.getD b []).zipIdx 0).map λa=>w5 (bif a.2==0 then c else d) a.1)
noncomputable def GC(k:Nat):List Nat:=(kG k [44]).flatten
def txt(a:Nat):List Nat:=qo a++GC (a/36%2)
noncomputable def G9:List (List Nat):=[[32],[9],[32,32]]
def gap(a:Nat):List Nat:=G9.getD (a/12%3) []
noncomputable def HU:List (List Nat):=[[44,32,9],[9,32,44],[32,44],[44,9]]
def alH(a):qo a=Jf (a%3) (qJ (a/3) 0) (qJ (a/3) 1):=by
 unfold qo Jf;have b:a%3<3:=l5 _ av;generalize a%3=c at b;generalize a/3=d;match c,b with
 |0,_=>rfl
 |1,_=>rfl
 |2,_=>rfl
def A'(c:Nat)(b a:List Nat):Bool:=eqB (sY a) b&&(mE true b&&(eqB (low b) (ly.getD c [])&&(!(a.isEmpty)&&(ia (H a) 3&&a.all λd=>!(oh d)))))
def z1:Bool:=[0,1,2].all λa=>[true,false].all λb=>[true,false].all λc=>[0,1].all λk=>A' a (Jf a b c)<|Jf a b c++GC k
def z2:z1=true:=au
structure mv(c:Nat):Prop where
 s:sY (txt c)=qo c
 f:kZ true (qo c)
 l:low (qo c)∈ly
 n:txt c≠[]
 z:(txt c).length<=3
 b:(txt c).all (λc=>!oh c)=true
def DB(a):a∈[true,false]:=by cases a<;>simp
def w4(b):mv b:=by
 have d:b%3<3:=l5 _ av;have a:=dQ.mp (dQ.mp (dQ.mp (dQ.mp z2 _<|fJ.mpr d) _<|DB<|qJ (b/3) 0) _<|DB<|qJ (b/3) 1) _<|fJ.mpr (l5 _ av:b/36%2<2);rw[<-alH] at a;obtain⟨f,a⟩:=(bl ..).mp a;obtain⟨g,a⟩:=(bl ..).mp a;obtain⟨h,a⟩:=(bl ..).mp a;obtain⟨c,a⟩:=(bl ..).mp a;obtain⟨i,j⟩:=(bl ..).mp a;refine⟨sr f,sG g,J (sr h)<|eU<|getD_at d,λe=>?_,fE i,j⟩;have c:(!(txt b).isEmpty)=true:=c;rw[e] at c;contradiction
def fi(is:List Int):List (List Nat):=((cells is).take 7).map qo
def dW(is:List Int):List (List Nat):=((cells is).take 7).map txt
def lq(is:List Int):List (List Nat):=[]::(((cells is).drop 1).take 6).map gap
def DI(a:Nat):List Nat:=HU.getD (a/45%4) []
def aaw:Bool:=G9.all λa=>!(a.isEmpty)&&(ia (H a) 2&&a.all isWs)
def aax:aaw=true:=au
def afA:Bool:=HU.all λo=>ia (H o) 3&&o.all λa=>a==44||(a==32||a==9)
def afB:afA=true:=au
def LC(is):(cells is).length=9:=by unfold cells;exact J (aX ..) rfl
def tu(is)(c):gR (dW is) (lq is) (DI c):=by
 have f:∀d s,(lq is)[d+1]?=some s->∃c,s=gap c:=λd s a=>by
  have a:((((cells is).drop 1).take 6).map gap)[d]?=some s:=a;rw[d8] at a;exact aG (iQ.mp a) λc U e=>⟨c,e.symm⟩
 have g:∀c,gap c≠[]/\(gap c).length<=2/\(gap c).all isWs=true:=λc=>by
  have a:=dQ.mp aax (gap c)<|eU<|getD_at<|l5 _ av;obtain⟨h,a⟩:=(bl ..).mp a;obtain⟨i,j⟩:=(bl ..).mp a;refine⟨λe=>?_,fE i,j⟩;rw[e] at h;contradiction
 have k:=dQ.mp afB (DI c)<|eU<|getD_at<|l5 _ av;obtain⟨l,m⟩:=(bl ..).mp k;refine⟨by unfold dW;exact J (aX ..) rfl,?_,λd s a=>?_,rfl,λd s a=>?_,λd s a=>?_,λc p=>?_,fE l⟩
 .unfold lq;exact J gK<|J (aX ..)<|J qt rfl
 .unfold dW at a;rw[d8] at a;refine aG (iQ.mp a) λc U q=>?_;subst q
  exact⟨(w4 c).n,(w4 c).z,(w4 c).b⟩
 .obtain _|d:=d
  .cases a;exact⟨b9 _,rfl⟩
  obtain⟨c,rfl⟩:=f d s a;exact(g c).2
 .obtain⟨c,rfl⟩:=f d s a;exact(g c).1
 have:=dQ.mp m c p;obtain a|a:=(lY ..).mp this
 .exact .inl<|ck a
 obtain a|a:=(lY ..).mp a
 .exact .inr<|.inl<|ck a
 exact .inr<|.inr<|ck a
def acE(d:aj z b r c (.str l)):gQ (aP (ah (.g 1013)) [z] [] []) b true r c ((l.zipIdx 0).map λa=>.tup [.int (a.2:Nat),.str [a.1]]) yes:=λk e f=>⟨rfl,rfl,d _ e (by
 rwa [<-Mf (λh:Nat=>D.str [h])] at f)⟩
def Wq(f:aj (eu false z a b bM) c r d (.lst e)){g:Bool}:gQ (eu false z a b bM) c g r d e yes:=λk h i=>f (λj l=>j0 l j k) h i
def ak_:(ia (gg [97]).length 5&&ia (gg [98]).length 5)=true:=au
def ae8(c:a∈(ly.getD b []).zipIdx 0)(h:b<3):a.2<=20/\(gg [a.1]).length<=lim:=by
 have d:=(bl ..).mp ak_;have f:(gg [97]).length<=lim:=az (fE d.1) aH;have g:(gg [98]).length<=lim:=az (fE d.2) aH;match b,h,c with
 |0,_,c=>exact J (dK.mp c)<|⟨b9 _,f⟩
 |1,_,c=>
  obtain e|c:=cQ.mp c
  .exact J e<|⟨b9 _,f⟩
  exact J (dK.mp c)<|⟨aH,g⟩
 |2,_,c=>exact J (dK.mp c)<|⟨b9 _,g⟩
def eI(b):(dU [] (((ly.getD (b%3) []).zipIdx 0).map λa=>w5 (qJ (b/3) a.2) a.1)).length+(((ly.getD (b%3) []).zipIdx 0).map λa=>w5 (qJ (b/3) a.2) a.1).length<=lim:=by
 have c:=az (by unfold txt;exact J bq<|cZ _ _)<|(w4 b).z;have d:((ly.getD (b%3) []).zipIdx 0).length<=3:=by
  have:b%3<3:=l5 _ av;generalize b%3=e at this;match e,this with
  |0,_=>exact aH
  |1,_=>exact aH
  |2,_=>exact aH
 exact J (aX ..)<|az (d9 c d) aH
def ahy:aj P6 c ((aY b).set 2 (.int (a:Nat))) f (.str (qo a)):=by
 have j:a%3<H ly:=l5 _ av;have l:aj Xa c ((aY b).set 2 (.int _)) f _:=DU (jB (dD bc (dD bc (eg bc)))) (uM aq (λU U g=>g) av) (by
  show(ly.map D.str)[a%3]?=_;exact J d8<|J (getD_at (d:=[]) j) rfl)
 have k:=jA (cN:=[4,6]) (is:=[4,6]) ((ly.getD _ []).zipIdx 0) (λh=>.tup [.int _,.str [h.1]]) (λh=>.str (w5 (qJ _ h.2) h.1)) (λh=>(((aY b).set 2 _).set 4 _).set 6 _) (acE l) trivial (λU U U g=>g) (e:=Uh) (λh m=>by
  obtain⟨n,p⟩:=ae8 m j;unfold w5 qJ;refine q6 (dk<|Yw (q4 aq (λU U g=>g) av av) aq n) (λi=>?_) λi=>?_
  .exact J i<|YC aq p
  exact J i<|aq) (az (fS _ _) (by have:=eI a;rw[aX] at this;exact this))
 have e:((ly.getD (a%3) []).zipIdx 0).map (λh=>D.str<|w5 (qJ (a/3) h.2) h.1)=(((ly.getD (a%3) []).zipIdx 0).map λh=>w5 (qJ (a/3) h.2) h.1).map .str:=J dM rfl;rw[e] at k;exact A5 bc k rfl<|eI a
def ahx(e:aj z a r b (gV c))(g:k<=H c)(f:aj d a r b (.int k)):aj (eu false z bM d bM) a r b (gV (c.take k)):=by
 have:=OC e f rfl<|by rwa [aX]
 rwa [<-ER] at this
def ahz{S:iC}:aj (c5 false [2] false [2] (eu false (af 1) bM (ah (.int 7)) bM) [] [] P6) a (aY {S with lX:=gV (cells is)}) b (bD (fi is)):=by
 have f:aj (eu false (af 1) bM (ah<|.int 7) bM) a (aY {S with lX:=gV (cells is)}) b _:=ahx aq (J (LC ..)<|aH) λU U c=>c
 have:=jA (cN:=[2]) (bt:=false) (is:=[2]) _ (λd=>.int _) (λd=>.str _) (λd=>(aY {S with lX:=gV _}).set 2 _) (Wq f) trivial (λU U U c=>c) (λd U=>ahy)<|qt▸aH;have e:((cells is).take 7).map (λd=>D.str<|qo d)=(fi is).map .str:=by unfold fi;exact J dM rfl
 rwa [e] at this
def al'(c d)(b:List y):rG (b.map c) (b.map d++a)=b.map λx=>.tup [c x,d x]:=by
 induction b with
 |nil=>rfl
 |cons x b e=>exact aZ _ e
def acK{f h:y->D}{e:List y}(j:aj z a r b (.lst (e.map f)))(l:aj c a r b (.lst (e.map h++d))):gQ (aP (ah (.g 1014)) [z,c] [] []) a true r b (e.map λx=>.tup [f x,h x]) yes:=λk i m=>⟨rfl,rfl,j _ i (l _ i (by
 rwa [<-al'] at m))⟩
def agU(d:aj z a r b (.int i))(c:i<2):aj (aR .Mult (ah (.str [44])) z) a r b (.str (GC i)):=jz bc d λf e=>by
 refine⟨⟨xd av<|kE i,nI.mpr<|fF c av⟩,?_,e⟩;show 1*i<=lim;exact J (Q4 ..)<|az (bF c) aH
def DD(a:k<2):(GC k).length<=1:=by
 match k,a with
 |0,_=>exact b9 _
 |1,_=>exact aS _
def ahb(h:aj z d r e (gV c))(i:a<=H c)(j:b<=H c)(l:aj f d r e (.int a))(m:aj g d r e (.int b)):aj (eu false z f g bM) d r e (gV ((c.drop a).take (b-a))):=sQ h l m iM λk p=>by
 refine⟨(λn=>nomatch n),?_⟩;show k<|pick (c.map λq=>D.int _) _ _ none;rwa [wj,X5 i j]
def Oz{S:iC}(d:i<9)(e:aj a b (aY {S with lX:=gV (cells is)}) c (.int i)):aj (aT (af 1) a) b (aY {S with lX:=gV (cells is)}) c (.int (jr is i)):=uL aq e rfl (by
 unfold cells;exact J d8<|J d8<|J (EJ d) rfl)
def jK(is:List Int):Nat:=4+jr is 7%9
def nk(is:List Int):Nat:=jr is 7/9%5
def ahC{S:iC}:eO ey a (aY {S with lX:=gV (cells is)}) b [.int (jK is),.int (nk is),.str (DI (jr is 7))]:=by
 have d:aj Ai a (aY {S with lX:=gV (cells is)}) b _:=Oz av λU U c=>c
 refine dD (uJ (λU U c=>c)<|uM d (λU U c=>c) av)<|dD (uM (q4 d (λU U c=>c) av av) (λU U c=>c) av)<|eg<|DU (jB<|dD bc<|dD bc<|dD bc<|eg bc) (uM (q4 d (λU U c=>c) av av) (λU U c=>c) av) ?_;show(HU.map D.str)[jr is 7/45%4]?=_;exact J d8<|J (getD_at (l5 _ av:jr is 7/45%4<H HU)) rfl
def map_getD{e:List y}{d:y}(f:H e=a):(b6 a).map (λb=>e.getD b d)=e:=by
 refine JI λg=>?_
 rw[d8];by_cases c:g<a
 .exact J (EJ c)<|J (getD_at<|f▸c) rfl
 rw[tK (show(b6 a).length<=g by exact J kF<|bA.mp c),tK<|f▸bA.mp c];rfl
def Hz(a):dU [] a=a.flatten:=by
 induction a with
 |nil=>rfl
 |cons x a b=>
  obtain _|⟨c,a⟩:=a
  .exact(dR x).symm
  show x++[]++dU [] (c::a)=_;exact J (dR ..)<|J b rfl
def ag6{S:iC}(h:gR a L o):aj MF b (aY {S with tw:=bD a,EB:=bD L}) c (.str (cX (gt a L))):=by
 have l:aj (af 8) b (aY {S with tw:=bD a,EB:=bD L}) c (.lst ((b6 7).map λf=>.str<|L.getD f [])):=by
  have e:L.map D.str=(b6 7).map λf=>.str (L.getD f []):=by
   have:=aZ (List.map D.str)<|map_getD (d:=[]) h.m;rw[dM] at this;exact this.symm
  exact bH e<|aq
 have m:aj (af 7) b (aY {S with tw:=bD a,EB:=bD L}) c (.lst ((b6 7).map λf=>.str<|a.getD f [])):=by
  have e:a.map D.str=(b6 7).map λf=>.str (a.getD f []):=by
   have:=aZ (List.map D.str)<|map_getD (d:=[]) h.n;rw[dM] at this;exact this.symm
  exact bH e<|aq
 have n:∀f,f<7->(L.getD f []).length+(a.getD f []).length<=5:=λf i=>by
  refine dm (qF h i) λs p U q=>?_
  obtain⟨r,j⟩:=at_<|h.m▸i;exact J (gn p)<|J (gn j)<|d9 (h.g f r j).1 q
 have k:=jA (cN:=[14,15]) (is:=[14,15]) _ (λf=>.tup [.str _,.str _]) (λf=>.str _) (λf=>((aY {S with tw:=bD a,EB:=bD L}).set 14 _).set 15 _) (Wv l m) trivial (λU U U g=>g) (e:=aR .Add (af 14)<|af 15) (λf i=>sM aq aq<|az (n f<|fJ.mp i) aH) aH;have e:(b6 7).map (λf=>D.str<|L.getD f []++a.getD f [])=((b6 7).map λf=>L.getD f []++a.getD f []).map .str:=J dM rfl;rw[e] at k;have aA:dU [] ((b6 7).map λf=>L.getD f []++a.getD f [])=cX (gt a L):=by
  rw[Hz];unfold cX gt;exact J dM rfl
 have:=A5 bc k rfl (by
  exact J aA<|az (d9 (VD h) (aS 7)) aH)
 rwa [aA] at this
def ec:iR (cV a o b c d []):=by
 refine⟨aQ,⟨?_,aQ⟩,p8 D.str (λU=>aQ) _,⟨⟨aQ,aQ⟩,p8 (λe:List Nat×List Nat=>D.tup [.str e.1,.str e.2]) (λU=>⟨aQ,aQ,aQ⟩) _⟩,aQ⟩;exact⟨aQ,aQ,aQ,aQ,aH,aH,aQ⟩
def iw(is:List Int):mY:=KQ (jK is) (DI<|jr is 7) (dW is) (lq is)<|nk is
@[irreducible] def dP(is:List Int):List (List Nat):=(iw is).rows++[(iw is).line]
def uP(is):dP is=(iw is).rows++[(iw is).line]:=by unfold dP;rfl
def mF(is:List Int)(a:List Nat):List Nat:=cX<|bR (iw is).laid (dW is) a
def ir(is:List Int):List (List Nat):=(dP is).filter λa=>!a.isEmpty
noncomputable def uW(a:List Nat):a_:=(a.headD 0,a.getLastD 0)
def MN(is):nk is<=4:=rM<|l5 _ av
def qd(is):fu (dW is) (lq is) (iw is) 7:=me (tu is _)<|MN is
def D5(is):(dP is).flatten=b6 7:=by
 unfold dP;rw[hv,qs,QM,dR];exact(qd is).fl
def A_(c:a∈dP is)(d:b∈a):b<7:=fJ.mp<|(D4 (qd is)<|uP is▸c).subset d
def du(is)(d:a<7):∃b,(dW is).getD a []=txt b/\(fi is).getD a []=qo b:=by
 have c:a<((cells is).take 7).length:=by rwa [qt]
 exact⟨((cells is).take 7).getD a 0,gn (by unfold dW;exact J d8<|J (getD_at c) rfl),gn (by unfold fi;exact J d8<|J (getD_at c) rfl)⟩
def Bl(is)(b:a<7):sY ((dW is).getD a [])=(fi is).getD a []/\low ((fi is).getD a [])∈ly/\kZ true ((fi is).getD a []):=by
 refine aG (du is b) λc ao aA=>?_
 have:=w4 c;exact J ao<|J aA<|⟨this.s,this.l,this.f⟩
def ajs(g:∀a∈b,c.getD a []≠[]):(cX (bR d c b)).isEmpty=b.isEmpty:=by
 obtain _|⟨a,b⟩:=b
 .rfl
 have h:=g a (.head _);show(((d.getD a []++c.getD a [])::(b.map λa=>(d.getD a [],c.getD a [])).map λf=>f.1++f.2).flatten).isEmpty=false;rw[qs];rcases e:c.getD a [] with _|⟨i,s⟩
 .exact aW e h
 cases d.getD a []<;>rfl
def yR(is):Sp (dW is) (mF is) (dP is) where
 f:=by rw[D5,QW]
 ne:=by rw[uP];exact List.append_ne_nil_of_right_ne_nil _<|List.cons_ne_nil _ _
 l:=λb a=>⟨by
  unfold mF;rw[ad_ (tu is<|jr is 7) (qd is)<|uP is▸a,dM];rfl,ajs λg c=>by
  refine aG (du is<|A_ a c) λd e U=>?_
  rw[e];exact(w4 d).n⟩
 no:=λb a=>ad9 (tu is<|jr is 7) (qd is)<|uP is▸a
 n:=by
  rw[uP,bq];exact bz (j8 (qd is).uN 1) av
def aiT(h:List (List Nat)):∀b d,h.flatten=jn b d->((h.filter λa=>!a.isEmpty).map uW).Pairwise (λf g=>f.1<g.1/\f.2<g.2)/\∀c∈(h.filter λa=>!a.isEmpty).map uW,b<=c.1/\c.1<=c.2/\c.2<b+d:=by
 induction h with
 |nil=>exactλb d U=>⟨.nil,λU q=>nomatch q⟩
 |cons a h r=>
  intro b d l;rw[qs] at l;refine dm (hG.mp l.symm) λi m ao aA=>?_
  rw[hY] at aA;obtain⟨n,k⟩:=r _ _ aA;have p:b+i+(d-i)=b+d:=J (gE ..)<|J (rL m) rfl;rw[oE];obtain _|i:=i
  .have e:=ao;subst e;rw[p] at k;exact⟨n,λc j=>k c j⟩
  have bL:a.isEmpty=false:=J ao rfl;rw[bL];show(uW a::(h.filter λa=>!a.isEmpty).map uW).Pairwise _/\∀c∈uW a::(h.filter λa=>!a.isEmpty).map uW,_;have s:uW a=(b,b+i):=by
   unfold uW;exact J ao<|J (WW ..) rfl
  refine J s<|⟨rK.mpr ⟨λc j=>iT (k c j) λg1 g2 U=>(⟨bZ (tM<|jo i) g1,bZ (bZ (f6<|b+i) g1) g2⟩),n⟩,λc j=>?_⟩;obtain e|j:=cQ.mp j
  .exact J e<|⟨aS _,cZ _ _,tL m b⟩
  exact iT (k c j) λg1 g2 g3=>(⟨az (cZ _ _) g1,g2,p▸g3⟩)
def al_(c)(b:List y):∀k,b.zipIdx k=(jn k (H b)).map λa=>(b.getD (a-k) c,a):=by
 induction b with
 |nil=>exactλk=>rfl
 |cons x b d=>
  intro k;refine J hO<|J gK<|J JR<|J i6<|J (d _)<|J (JY ..)<|aZ _ (qu λa e=>?_);obtain⟨f,_⟩:=List.mem_range'_1.mp e;exact J (show a-k=(a-_)+1 by rw[anM,JX<|h3 f]) rfl
def eC(is):(fi is).length=7:=by unfold fi;exact J (aX ..) rfl
def amb(is):(fi is).zipIdx 0=(b6 7).map λa=>((fi is).getD a [],a):=by
 exact J (al_ [] _ 0) rfl
def u7(is:List Int):List Nat->List a_:=rC (fi is)<|ir is
def d1(is)(b:decide (l=[114,111,119])=false):u7 is l=((b6 7).filter λa=>decide (low ((fi is).getD a [])=l)).map λa=>(a,a):=by
 unfold u7 rC;rw[b,cond_false,amb,hu,dM];rfl
def Lb(is)(b:List Nat):bk (u7 is b):=by
 rcases a:decide (b=[114,111,119]) with _|_
 .refine J (d1 is a)<|⟨List.pairwise_map.mpr ((anr.sublist am_).imp λa=>⟨a,a⟩),λj f=>?_⟩;refine aG (fC.mp f) λk g h=>?_;subst h
  exact⟨aS _,fJ.mp (BI.mp g).1⟩
 rw[eB a];exact by
  obtain⟨i,c⟩:=aiT (dP is) 0 7<|J (D5 ..)<|J QW rfl;exact⟨i,λd e=>⟨(c d e).2.1,by have:=(c d e).2.2;rw[i8] at this;exact this⟩⟩
def Oa:ly.all (λs=>!(Nat.beq (s.headD 0) 114)&&(!(Nat.beq (s.headD 0) 113)&&ia (H s) 5))=true:=au
def ae_(a:l∈ly):l≠[114,111,119]:=λe=>by
 have:=dQ.mp Oa l a;rw[e] at this;contradiction
def ae9(a:l∈ly)(k):l≠dO (k+1):=λe=>by
 have:=dQ.mp Oa l a;rw[e] at this;contradiction
def Xo(a:l∈ly):H l<=lim:=by
 have:=((bl ..).mp ((bl ..).mp<|dQ.mp Oa l a).2).2;exact az (fE this) aH
def Vp(is)(c:∀a∈b,a<7):iG (tn (dW is) b) l=(b.filter λa=>decide (low ((fi is).getD a [])=l)).map λa=>jc (a,a):=by
 unfold iG tn;rw[hu,dM];have e:b.filter ((λd:List Nat×List Nat=>decide (low d.1=l))∘λa=>(sY _,[97+a,97+a]))=b.filter λa=>decide _:=List.filter_congr λa f=>by
  show decide (low (sY _)=l)=_;exact J ((Bl is<|c a f).1) rfl
 exact J e rfl
def aau(b:decide (low k=l)=false):iG [(k,a)] l=[]:=by
 unfold iG;rw[oE,cE<|by exact J b<|gX];rfl
def Vo(is)(d:l≠[114,111,119])(c)(f:∀b∈c,∀a∈b,a<7):iG (gu (dW is) c) l=(c.flatten.filter λa=>decide (low ((fi is).getD a [])=l)).map λa=>jc (a,a):=by
 induction c with
 |nil=>rfl
 |cons b c g=>
  show iG (mO _ b++gu _ c) l=_;refine J Av<|J (g λh d=>f h<|.tail _ d)<|J qs<|J (ht ..)<|J dS<|aZ (· ++_) ?_;unfold mO;rw[Av,Vp is<|f b<|.head _];have e:decide (low [82,111,119]=l)=false:=eS λe=>d<|e.symm.trans<|sr au
  obtain _|_:=b.isEmpty
  .exact J (cond_false ..)<|J (aau e)<|dR _
  exact dR _
def aat(is)(c)(d:∀a∈c,∀b∈a,b<7):iG (gu (dW is) c) [114,111,119]=((c.filter λa=>!a.isEmpty).map uW).map jc:=by
 induction c with
 |nil=>rfl
 |cons a c e=>
  show iG (mO _ a++gu _ c) _=_;rw[Av,e λf g=>d f<|.tail _ g,oE];unfold mO;rw[Av,Vp is (d a (.head _)),QL.mpr λb h=>by
   exact J (eS (ae_ (Bl is (d a (.head _) b h)).2.1))<|gX]
  obtain _|_:=a.isEmpty
  .exact J (cond_false ..) rfl
  rfl
def Iq(is):∀a∈dP is,∀b∈a,b<7:=λU c U d=>A_ c d
def aas(is)(k):iG (gu (dW is) (dP is)) (dO (k+1))=[]:=by
 have b:dO (k+1)≠[114,111,119]:=λe=>by
  have:=aZ (List.headD · 0) e;cases this
 rw[Vo is b _<|Iq is,QL.mpr λc a=>?_];rfl;rw[D5] at a;exact J (eS<|ae9 (Bl is<|fJ.mp a).2.1 k)<|gX
def ahZ(f:x∈gu c d):(∃a∈d,∃b∈a,x.1=sY (c.getD b []))\/x.1=[82,111,119]:=by
 refine aG (hC.mp f) λk h e=>?_
 refine aG (fC.mp h) λa i g=>?_;subst g
 obtain e|e:=i7.mp e
 .refine aG (fC.mp e) λb j g=>?_;subst g
  exact .inl ⟨a,i,b,j,rfl⟩
 rcases f:a.isEmpty with _|_
 .rw[f] at e;exact .inr<|aZ h6<|dK.mp e
 rw[f] at e;contradiction
def VQ(is):mh (u7 is) ⟨[],[],gu (dW is) (dP is)⟩:=by
 constructor
 .intro c a;exact by
   rcases e:decide (c=[114,111,119]) with _|_
   .rw[Vo is (of_decide_eq_false e) _<|Iq is,D5,d1 is e,dM];rfl
   rw[eB e,aat is _<|Iq is];rfl
 .intro d a;exact by
   exact J (aas ..) rfl
 .intro b a;contradiction
 intro b a;exact by
  obtain⟨j,f,d,g,e⟩|e:=ahZ a
  .refine iT (Bl is<|A_ f g) λh i U=>?_
   exact J e<|J h<|Xo i
  have aA:(low b.1).length=3:=J e rfl;exact az (di aA) aH
def alB(is):K0 (fi is) (ir is) where
 n:=eC is
 l:=λg a=>by
  unfold fi at a;refine aG (fC.mp a) λb U c=>?_;subst c
  exact Xo (w4 b).l
 f:=λh d e=>by
  have:=(BI.mp d).2;rw[e] at this;cases this
 fl:=az (EM _ _)<|az (bF (yR is).n) aH
 an:=λs U=>Lb is s
def nC(k:Nat)(b:List (List a_)):nT:=(b.zipIdx k).flatMap λa=>a.1.map λc=>(gg<|dO<|a.2+1,jc c)
def akj:nC k (a++[b])=nC k a++b.map λc=>(gg (dO (k+H a+1)),jc c):=by
 unfold nC;exact J List.zipIdx_append<|J ana<|aZ (_++·)<|dR _
def aeV(a):yF a l=g4 l ((a.st.map (·.2)).getD 1 []) ((a.st.map (·.2)).getD 0 []):=by
 obtain⟨st,b,c⟩:=a;obtain _|⟨x,st⟩:=st
 .rfl
 obtain _|⟨d,st⟩:=st
 .rfl
 rfl
def ajn(a):((sX val a l).st.map (·.2),(sX val a l).told)=El val (a.st.map (·.2),a.told) l:=by
 unfold sX El;obtain _|_:=eL l
 .rfl
 simp only[cond_true];unfold ql;exact J (aeV ..)<|J i6<|J EP rfl
def SF(b):∀a,((ju val b a).st.map (·.2),(ju val b a).told)=yj val b (a.st.map (·.2),a.told):=by
 induction b with
 |nil=>exactλa=>rfl
 |cons s b c=>
  intro a;have:=c<|sX val a s;rwa [ajn] at this
def akG(b):∀a,(ju val b a).told.length=H a.told+(b.filter eL).length:=by
 induction b with
 |nil=>exactλa=>rfl
 |cons s b d=>
  intro a;have e:(ju val (s::b) a).told.length=(ju val b _).told.length:=rfl;rw[e,d];rcases c:eL s with _|_
  .exact J (Ml c)<|J (wO c) rfl
  rw[GW c,uX c];have aA:(ql a s).told.length=H a.told+1:=by unfold ql;exact J bq rfl
  exact J aA<|J (gE ..)<|J (h_ 1 ..) rfl
def Sr{d:nT}(b):∀a,a.hs=d++nC 0 a.told->(ju val b a).hs=d++nC 0 (ju val b a).told:=by
 induction b with
 |nil=>exactλa c=>c
 |cons s b f=>
  intro a c;refine f _ ?_;rcases e:eL s with _|_
  .rwa [wO e]
  rw[uX e];unfold ql;exact J akj<|J c<|J (eT ..)<|J (i8 ..) rfl
def SU(c):∀a,pq c (H a.st)=true->(ju val c a).st.length=1:=by
 induction c with
 |nil=>exactλa b=>ck b
 |cons s c f=>
  intro a b;refine f _ ?_;rcases d:eL s with _|_
  .rw[wO d];rw[HT d] at b;exact b
  rw[uX d];rw[AZ d] at b;obtain⟨g,h⟩:=(bl ..).mp b;unfold ql;rw[gK,xr];have e:H a.st-2+1=H a.st-1:=by
   have:=fE g;exact bH (h4 (H a.st) 1 1)<|J (JX<|anF this) rfl
  rwa [e]
def mh.step(p:∀c∈mH,bk (val c))(g):∀a,(∀s∈g,Tk s)->pq g (H a.st)=true->mh val a->H a.told+(g.filter eL).length<=3->(∀b∈a.told,bk b)->mh val (ju val g a)/\∀b∈(ju val g a).told,bk b:=by
 induction g with
 |nil=>exactλa U U f U q=>⟨f,q⟩
 |cons s g r=>
  intro a j ok f h aU;refine r _ (λx t=>j x<|.tail _ t) ?_ ?_ ?_ ?_
  .obtain⟨d,G⟩|⟨d,k⟩:=(j s<|.head _).o
   .rw[uX d];rw[AZ d] at ok;obtain⟨l,w⟩:=(bl ..).mp ok;unfold ql;rw[gK,xr];have e:H a.st-2+1=H a.st-1:=by
     have:=fE l;exact bH (h4 (H a.st) 1 1)<|J (JX<|anF this) rfl
    rwa [e]
   rw[wO d];rwa [HT d] at ok
  .obtain⟨d,G⟩|⟨d,k⟩:=(j s<|.head _).o
   .rw[uX d];rw[AZ d] at ok;rw[GW d] at h;have l:=((bl ..).mp ok).1;refine f.sign (bZ (bZ (f6 _)<|j7 (fS 1 _) _) h) ?_;obtain⟨st,u,v⟩:=a;obtain _|⟨m,st⟩:=st
    .contradiction
    obtain _|⟨n,st⟩:=st
    .contradiction
    exact Cz G (f.e n<|.tail _<|.head _).1 (f.e m<|.head _).1
   exact J (wO d)<|f.name k<|p s k
  .rcases d:eL s with _|_
   .rw[wO d];rw[Ml d] at h;exact h
   rw[uX d];rw[GW d] at h;unfold ql;rwa [bq,pT]
  obtain⟨d,G⟩|⟨d,k⟩:=(j s<|.head _).o
  .rw[uX d];rw[AZ d] at ok;have l:=((bl ..).mp ok).1;intro b i;obtain i|i:=i7.mp i
   .exact aU b i
   rw[dK.mp i];obtain⟨st,u,v⟩:=a;obtain _|⟨m,st⟩:=st
   .contradiction
   obtain _|⟨n,st⟩:=st
   .contradiction
   exact Cz G (f.e n<|.tail _<|.head _).1 (f.e m<|.head _).1
  rwa [wO d]
def nD(is:List Int):List (List Nat):=tokens<|jr is 8
def gH(is:List Int):rX:=⟨[],[],gu (dW is)<|dP is⟩
def vt(is:List Int):rX:=ju (u7 is) (nD is)<|gH is
def nE(is:List Int):List (List a_):=(vt is).told
def iV(is:List Int):nT:=gu (dW is) (dP is)++nC 0 (nE is)
def fL(is:List Int):List a_:=(nE is).getD 2 []
section
variable(is:List Int)
def Ew:(nE is).length=3:=by
 unfold nE vt;exact J (akG ..)<|(aZ _ (s8 _).2.1)
def akE:(yj (rC (fi is) (ir is)) (nD is) ([],[])).2=nE is:=(aZ Prod.snd<|SF _<|gH is).symm
def MS:(vt is).hs=iV is:=by
 have a:(gH is).hs=gu (dW is) (dP is)++nC 0 (gH is).told:=by
  unfold gH;have e:nC 0 ([])=[]:=rfl;exact J e<|J (dR ..) rfl
 have:=Sr (val:=u7 is) (nD is) _ a;exact this
def Dh:mh (u7 is) (vt is)/\∀a∈nE is,bk a:=mh.step (λb U=>Lb is b) _ _ (PS _) (s8 _).1 (VQ is) (di (J (i8 ..)<|(s8 _).2.1:0+((nD is).filter eL).length=3)) λa c=>aW c BJ
def ajh:(vt is).st.map (·.1)=[dO 3]:=by
 obtain⟨c,d⟩:=(s8 _).2.2.2;have e:vt is=sX (u7 is) (ju (u7 is) c<|gH is) [jZ (jr is 8) 2]:=by
  unfold vt nD ju;exact J d<|J JK rfl
 have a:(vt is).st.length=1:=SU _ _ (s8 _).1;have b:=Ew is;unfold nE at b;rw[e] at a b⊢;rw[uX<|II _ _] at a b⊢;unfold ql at a b⊢;rw[bq] at b;rw[Nat.succ.inj b] at a⊢;rw[gK] at a;exact J (zk<|Nat.succ.inj a) rfl
def qI:bk (fL is):=(Dh is).2 _<|eU<|getD_at (by rw[Ew];decide)
def aaK:iG (iV is) (dO 3)=(fL is).map jc:=by
 exact bH (MS ..)<|(Dh is).1.q 2 av
def Hi(b:(gu (dW is) (dP is)).length<700):ed (iV is):=by
 refine⟨λc j=>(Dh is).1.l c (by rwa [MS]),?_⟩;unfold iV;rw[bq];have e:(nC 0<|nE is).length<=3*60:=by
  rw[<-Ew is];have:∀(a:List _) k,(∀d∈a,bk d)->((a.zipIdx k).flatMap λc=>c.1.map λf=>(gg<|dO<|c.2+1,jc f)).length<=H a*60:=λa=>by
   induction a with
   |nil=>exactλk U=>b9 _
   |cons d a g=>
    intro k b;exact J hO<|J xo<|J bq<|J (aX ..)<|J gK<|J (BU ..)<|J (h_ ..)<|d9 (g _ λh i=>b h<|.tail _ i)<|bF (b d<|.head _).g5
  exact this _ 0 (Dh is).2
 exact bz (d9 (rM b) e) av
def Az:(gu (dW is) (dP is)).length<700:=by
 have:∀a:List _,(∀b∈a,H b<=7)->(gu _ a).length<=H a*8:=λa=>by
  induction a with
  |nil=>exactλU=>b9 _
  |cons b a f=>
   intro e;show(mO (dW is) b++gu _ a).length<=_;refine J bq<|J gK<|J (BU ..)<|J (h_ ..)<|d9 (f λg c=>e g<|.tail _ c) ?_;unfold mO tn;refine J bq<|J (aX ..)<|d9 (d:=1) (e b<|.head _) ?_;obtain _|_:=b.isEmpty
   .exact aS _
   exact b9 _
 have h:=this (dP is) λb c=>by
  have:=(D4 (qd is)<|uP is▸c).length_le;rwa [kF] at this
 exact bz (az h<|xx 8<|bF (yR is).n) av
end
@[irreducible] def gD(a:List Y)(b:b3):dw:=br a b
def FY(d:List Y)(e:b3)(a:eX)(f:er):eX:=λg b c=>i9.casesOn g (gD d e b c a f) (a .brk b c) (a .cont b c) λh=>a (.ret h) b c
def e4:@gD=@br:=by funext l cf;unfold gD;rfl
def jL(g:c a r d (FY e a f b) b):gD (c::e) a r d f b:=by unfold FY at g;rw[e4] at g⊢;exact g
abbrev jx(is:List Int):List Nat:=DI<|jr is 7
def q2(is:List Int):List Nat:=dU [10]<|(dP is).map<|mF is
abbrev vQ(is:List Int):D:=.lst ((j3<|dP is).map λa=>.str [97+a])
noncomputable abbrev RD(is:List Int):iC:=⟨.lst<|is.map .int,.ai,.ai,.ai,.ai,.ai,.ai,.ai,.ai,.ai,.ai,.ai,.ai,.ai,.ai,.ai,.ai,.ai,.ai,.ai,.ai,.ai,.ai,.ai,.ai,.ai,.ai,.ai,.ai,.ai⟩
abbrev zL(is:List Int):iC:=⟨.lst<|is.map .int,gV<|cells is,.ai,.ai,.ai,.ai,.ai,.ai,.ai,.ai,.ai,.ai,.ai,.ai,.ai,.ai,.ai,.ai,.ai,.ai,.ai,.ai,.ai,.ai,.ai,.ai,.ai,.ai,.ai,.ai⟩
abbrev qy(is:List Int):iC:=⟨.lst<|is.map .int,gV<|cells is,bD<|fi is,.ai,.ai,.ai,.ai,.ai,.ai,.ai,.ai,.ai,.ai,.ai,.ai,.ai,.ai,.ai,.ai,.ai,.ai,.ai,.ai,.ai,.ai,.ai,.ai,.ai,.ai,.ai⟩
abbrev RG(is:List Int):iC:=⟨.lst<|is.map .int,gV<|cells is,bD<|fi is,.ai,bD<|dW is,bD<|lq is,.ai,.ai,.ai,.ai,.ai,.ai,.ai,.ai,.ai,.ai,.ai,.ai,.ai,.ai,.ai,.ai,.ai,.ai,.ai,.ai,.ai,.ai,.ai,.ai⟩
abbrev RH(is:List Int):iC:=⟨.lst<|is.map .int,gV<|cells is,bD<|fi is,.ai,bD<|dW is,bD<|lq is,.int<|jK is,.int<|nk is,.str<|jx is,.ai,.ai,.ai,.ai,.ai,.ai,.ai,.ai,.ai,.ai,.ai,.ai,.ai,.ai,.ai,.ai,.ai,.ai,.ai,.ai,.ai⟩
abbrev xO(is:List Int):iC:=⟨.lst<|is.map .int,gV<|cells is,bD<|fi is,.ai,bD<|dW is,bD<|lq is,.int<|jK is,.int<|nk is,.str<|jx is,.loc 1,.ai,.ai,.ai,.ai,.ai,.ai,.ai,.ai,.ai,.ai,.ai,.ai,.ai,.ai,.ai,.ai,.ai,.ai,.ai,.ai⟩
abbrev RI(is:List Int):iC:=⟨.lst<|is.map .int,gV<|cells is,bD<|fi is,.ai,bD<|dW is,bD<|lq is,.int<|jK is,.int<|nk is,.str<|jx is,.loc 1,.str<|q2 is,bD<|nD is,.ai,.ai,.ai,.ai,.ai,.ai,.ai,.ai,.ai,.ai,.ai,.ai,.ai,.ai,.ai,.ai,.ai,.ai⟩
abbrev RJ(is:List Int):iC:=⟨.lst<|is.map .int,gV<|cells is,bD<|fi is,.ai,bD<|dW is,bD<|lq is,.int<|jK is,.int<|nk is,.str<|jx is,.loc 1,.str<|q2 is,bD<|nD is,.lst<|(dP is).map gp,jX (iw is).laid,.ai,.ai,.ai,.ai,.ai,.ai,.ai,.ai,.ai,.ai,.ai,.ai,.ai,.ai,.ai,.ai⟩
abbrev Ko(is:List Int):iC:=⟨.lst<|is.map .int,gV<|cells is,bD<|fi is,.ai,bD<|dW is,bD<|lq is,.int<|jK is,.int<|nk is,.str<|jx is,.loc 1,.str<|q2 is,bD<|nD is,.lst<|(dP is).map gp,jX (iw is).laid,.loc 4,vQ is,.loc 7,.ai,.ai,.ai,.ai,.ai,.ai,.ai,.ai,.ai,.ai,.ai,.ai,.ai⟩
def rZ(is:List Int):aN:=cV (jK is) (jx is) ((dP is).map<|mF is) 0 [] []
def nU(is:List Int):aN:=(cF (rZ is) (iV is) (j3<|dP is)<|d7 [dO 3]).set 6 .dead
def adz(i:gD (gS.drop 3) c (aY (RG is)) f h g):gD (gS.drop 2) c (aY (qy is)) f h g:=by
 have m:eO [cn,Vq] c _ f [bD _,bD _]:=c_ (by
  have n:aj (af 5) c (aY {(qy is) with lX:=gV<|cells is,rD:=bD (fi is)}) f (.lst (((cells is).take 7).map λj=>.str<|qo j)):=by
   have e:(fi is).map D.str=((cells is).take 7).map λj=>.str (qo j):=by unfold fi;exact J dM rfl
   exact bH e<|bN λU i=>i
  have k:aj (af 1) c (aY {(qy is) with lX:=gV<|cells is,rD:=bD (fi is)}) f (.lst (((cells is).take 7).map (λj=>.int j)++((cells is).drop 7).map λj=>.int j)):=by
   exact bH dS<|bN λU i=>i
  have:=jA (cN:=[2,9]) (is:=[9,2]) _ (λj=>.tup [.str _,.int _]) (λj=>.str (txt j)) (λj=>((aY {(qy is) with lX:=gV _,rD:=bD _}).set 9 _).set 2 _) (acK n k) trivial (λU U U i=>i) (e:=aR .Add (af 9) (aR .Mult _ (aR .Mod (aR .FloorDiv (af 2) (ah _)) (ah _)))) (λj U=>by
   have l:j/36%2<2:=l5 _ av;have p:=az (by unfold txt;exact J bq<|cZ _ _) (w4 j).z;exact sM (bN λU i=>i) (agU (uM (q4 (bN λU i=>i) (λU U i=>i) av av) (λU U i=>i) av) l) (az (d9 p (DD l)) aH)) (qt▸aH)
  have e:((cells is).take 7).map (λj=>D.str<|txt j)=(dW is).map .str:=by unfold dW;exact J dM rfl
  rwa [e] at this) (by
  have k:aj (eu false (af 1) (ah _) (ah _) bM) c (aY {(qy is) with lX:=gV (cells is)}) f _:=ahb (a:=1) (b:=7) (bN λU i=>i) (J (LC ..)<|aH) (J (LC ..)<|aH) (λU U i=>i) λU U i=>i
  have uA:(((cells is).drop 1).take 6).length<=6:=List.length_take_le ..;have:=jA (cN:=[2]) (bt:=false) (is:=[2]) _ (λj=>.int (j:Nat)) (λj=>.str (gap j)) (λj=>(aY {(qy is) with lX:=gV _}).set 2 _) (Wq k) trivial (λU U U i=>i) (e:=aT (eF [(ah (.str [32])),(ah (.str [9])),(ah (.str [32,32]))]) (aR .Mod (aR .FloorDiv (af 2) (ah (.int 12))) (ah (.int 3)))) (λj U=>by
   refine DU (jB<|dD bc<|dD bc<|eg bc) (uM (q4 (bN λU i=>i) (λU U i=>i) av av) (λU U i=>i) av) ?_;show(G9.map D.str)[j/12%3]?=_;exact J d8<|J (getD_at (l5 _ av:j/12%3<H G9)) rfl) (az uA aH)
  have q:=wk (jW<|eg<|bc (d:=.str [])) this<|J (aX ..)<|az (j7 uA 1) aH;have e:[D.str []]++(((cells is).drop 1).take 6).map (λj=>D.str<|gap j)=(lq is).map .str:=by
   unfold lq;exact J i6 rfl
  rwa [e] at q)
 exact jL<|IA<|m _ g i
def adB(d:gD (gS.drop 5) (aB (a+2)) (aY (xO is)) (cV (jK is) (jx is) [] (nk is) [] []) c b):gD (gS.drop 4) (aB (a+2)) (aY (RH is)) [.tab] c b:=by
 have e:eO [af 11,af 10,_,af 12] (aB<|a+2) (aY<|RH is) [.tab] [.int _,.int _,.str [32],.str _]:=dD (bN λU d=>d)<|dD (bN λU d=>d)<|c_ bc (bN λU d=>d);have next:cA 13 _ _ _ [.tab] (FY (gS.drop 5) (aB<|a+2) c b) b:=Ih au av e<|yA ⟨rfl,d⟩;exact jL next
def alp:wS c o (kj b a) []=cV c o (kj b a).1 a.head (bR a.laid b a.line) []:=rfl
def adC(d:gD (gS.drop 7) (aB (a+7)) (aY (xO is)) (cV (jK is) (jx is) (kj (dW is) (iw is)).1 (iw is).head (bR (iw is).laid (dW is) (iw is).line++[([32],[])]) []) b c):gD (gS.drop 6) (aB (a+7)) (aY (xO is)) (wS (jK is) (jx is) (kj (dW is) (iw is)) []) b c:=by
 have e:(bR (iw is).laid (dW is) (iw is).line).length<1000:=by
  exact J yg<|bz (yC<|qd is) av
 rw[alp];generalize bR (iw is).laid _ (iw is).line=f at e d;generalize (kj _ _).1=g at d;generalize (iw is).head=h at d;exact jL<|pF (bN λU d=>d) rfl au cO cO<|vk e d
def rB(i:a<1000/\gU.lookup a=none/\je.contains a=true)(l:eO as b r c e)(m:eO f b r c h)(n:b a e (j.zip h) c k d):(aP (ah (.g a)) as f j b).v r c k d:=by
 show sel _ _<|b7 _ _ _;exact J (eS<|gO.mpr i.1)<|J i.2.1<|⟨i.2.2,l _ d<|m _ d n⟩
def T1:419<1000/\gU.lookup 419=none/\je.contains 419=true:=⟨av,au,au⟩
def TO:414<1000/\gU.lookup 414=none/\je.contains 414=true:=⟨av,au,au⟩
def T2:443<1000/\gU.lookup 443=none/\je.contains 443=true:=⟨av,au,au⟩
def X4(is):wi (dW is) (iw is)=(dP is).map (mF is):=by
 exact J (uP ..) rfl
def P4(is):iR (rZ is):=ec
def adD(d:gD (gS.drop 9) (aB (b+7)) (aY (RJ is)) (rZ is) c a):gD (gS.drop 8) (aB (b+7)) (aY (RI is)) (rZ is) c a:=by
 have e:=tu is<|jr is 7;have g:aj (aP _ [(af 7),(af 8),(af 11),(af 10),(af 12)] [] []) (aB (b+7)) (aY (RI is)) _ _:=pB TO (dD (bN λU d=>d) (dD (bN λU d=>d) (dD (bN λU d=>d) (c_ (bN λU d=>d) (bN λU d=>d))))) cO λh a d=>xb (by rw[e.n];decide) (λk f=>akP e (fu.at e (MN is) k (bF (e.n▸f))) (e.n▸f)) (by
  rw[e.n];exact bz (qd is).uN av) (P4 is) (by
  rwa [e.n])
 unfold RJ at d;rw[uP] at d;exact jL<|g _ a d
def d6(is):(rZ is).length=4:=rfl
def adE(i:eO [af 16,af 17] a (aY c) d [f,h])(l:∀e b,e (.tup [.loc 4,j,.loc 7]) k->a 426 [f,h] [] d e b)(p:gD m a (aY {c with eQ:=.loc 4,eR:=j,e0:=.loc 7}) k n b):
 gD (Bb [20,21,22] (aP (ah<|.g 426) [af 16,af 17] [] [])::m) a (aY c) d n b:=jL<|(rB (⟨av,au,au⟩) i cO<|l _ _ p)
def akq(Q)(Z)(a:Q (.tup [.loc 4,vQ is,.loc 7]) (nU is)):aB (n+7) 426 [.str (q2 is),bD (nD is)] [] (rZ is) Q Z:=by
 have key:=xl (n:=n+3) (T:=nD is) (Q:=Q) (Z:=Z) (⟨λf b=>by
  refine iT (Bl is b) λc U d=>?_
  exact J c<|d,Vc,(sG au)⟩) (P4 is) (yR is) (PS _) (s8 _).1 (di (s8 _).2.1) (bz (di (s8 _).2.2.1) av) (λe U=>Lb is e) (VQ is) (Az is)
 have ao:(ju _ _ ⟨[],[],gu _ _⟩).hs=iV is:=MS is;have aA:(ju _ _ ⟨[],[],gu _ _⟩).st.map _=[dO 3]:=ajh is;rw[ao,aA] at key;exact key a
def adF(e:H is<1000)(b:gD (gS.drop 10) (aB (n+7)) (aY (Ko is)) (nU is) a Z):gD gS (aB (n+7)) (aY (RD is)) [.tab] a Z:=jL (gx (agS (S:=RD is) e) (jL (gx (ahz (S:=zL is)) (adz (have b:=(adB (by
 have b:=(adC (by
  have b:=(adD<|adE (c_ aq aq) akq b);have g:∀{d:D},aj (aP _ [aT _<|ah<|.int 8] [] []) (aB<|n+7) (aY<|xO is) (rZ is) _:=pB T1 (eg (Oz (S:=xO is) av λU U b=>b)) cO λQ Z b=>xi b
  have c:=agt (n:=n+2) (tu is _) (qd is) (Q:=λx h=>(aP _ [_] [] [] _).v _ h (λi j=>uU [17,16] [i,x] (aY _) λk=>FY (gS.drop 8) _ a Z .next k j) Z) (Z:=Z) (by
   exact J (X4 ..)<|g (d:=.none) _ Z b)
  generalize (kj _ _).1=l at c;generalize (iw is).head=m at c;generalize bR (iw is).laid _ (iw is).line++[_]=p at c;have q:aj (af 13) (aB<|n+7) (aY<|xO is) (cV (jK is) (jx is) l m p []) _:=aq;exact jL ((pN (q _ Z (mG (f:=100) rfl au c))))))
 have r:eO [_,MF,(af 12)] (aB<|n+7) _ (cV (jK is) (jx is) [] (nk is) [] []) [.str [],.str _,.str _]:=dD bc<|c_ (ag6 (S:=xO is)<|tu is<|jr is 7) aq;exact jL (pF aq rfl au r cO (pd (tu is _) (MN is) b))));jL (O3 (ahC (S:=RG is)) (λU b=>b) b))))))
abbrev RE(is:List Int):iC:=⟨.lst<|is.map .int,gV<|cells is,bD<|fi is,.ai,bD<|dW is,bD<|lq is,.int<|jK is,.int<|nk is,.str<|jx is,.loc 1,.str<|q2 is,bD<|nD is,.lst<|(dP is).map gp,jX (iw is).laid,.loc 4,vQ is,.loc 7,.lst<|(ir is).map gf,.ai,.ai,.ai,.ai,.ai,.ai,.ai,.ai,.ai,.ai,.ai,.ai⟩
abbrev Kn(is:List Int):iC:=⟨.lst<|is.map .int,gV<|cells is,bD<|fi is,.ai,bD<|dW is,bD<|lq is,.int<|jK is,.int<|nk is,.str<|jx is,.loc 1,.str<|q2 is,bD<|nD is,.lst<|(dP is).map gp,jX (iw is).laid,.loc 4,vQ is,.loc 7,.lst<|(ir is).map gf,.lst<|(nE is).map bU,.ai,.ai,.ai,.ai,.ai,.ai,.ai,.ai,.ai,.ai,.ai⟩
abbrev nS(is:List Int):iC:=⟨.lst<|is.map .int,gV<|cells is,bD<|fi is,.ai,bD<|dW is,bD<|lq is,.int<|jK is,.int<|nk is,.str<|jx is,.loc 1,.str<|q2 is,bD<|nD is,.lst<|(dP is).map gp,jX (iw is).laid,.loc 4,vQ is,.loc 7,.lst<|(ir is).map gf,.lst<|(nE is).map bU,.loc 8,.ai,.ai,.ai,.ai,.ai,.ai,.ai,.ai,.ai,.ai⟩
def ag4{S:iC}(c:H L<=lim):aj (c5 false [24] false [24] (af 18) [af 24] [] (af 24)) cf (aY {S with P_:=.lst (L.map gp)}) W (.lst ((L.filter λa=>!a.isEmpty).map gf)):=by
 refine wo L gp (λa=>!a.isEmpty) gf (λa=>(aY {S with P_:=.lst _}).set 24 _) (kr aq) trivial (λU U U b=>b) (λa U=>lV λk d b=>?_) (λa U U=>aq) c;obtain _|_:=a
 .exact b
 exact b
def ag5:aj (c5 false [24] false [24] (af 18) [af 24] [] (af 24)) cf (aY (Ko is)) W (.lst ((ir is).map gf)):=by
 have:=ag4 (cf:=cf) (W:=W) (S:=Ko is)<|az (bF (yR is).n) aH;exact this
def alo(is):iR (nU is):=by
 exact(P7<|P4 is).upd aQ
def ads(d:gD (gS.drop 12) (aB (a+7)) (aY (Kn is)) (nU is) c b):gD (gS.drop 11) (aB (a+7)) (aY (RE is)) (nU is) c b:=by
 have e:aj (aP _ [af 17,af 5,af 23] [] []) (aB<|a+7) (aY<|RE is) _ _:=pB T2 (dD (bN λU d=>d)<|c_ (bN λU d=>d) (bN λU d=>d)) cO λf b d=>xv (alB is) (PS _) (s8 _).1 (az (di (s8 _).2.2.1) av) (alo is)<|by rwa [akE]
 exact jL<|gx e d
def afI(l:aj (c5 false cN c e7 d e f z) g r a (.lst h))(m:b .next (r.set i (.loc (H a))) (a++[.lst h])):cA i (c5 true cN c e7 d e f z) g r a b j:=by
 have:=l (λn k=>D.casesOn n False False (λU=>False) (λU=>False) (λU=>False) (λU=>False) (λp=>b .next (r.set i<|.loc<|H k)<|k++[bI.lst p]) (λU=>False) (λU=>False) λU U U U=>False) j m;exact this
def uf(is:List Int)(a:List Nat):nT:=a.map (λb=>((fi is).getD b [],[97+b,97+b]))++[([82,111,119],[97+a.headD 0,97+a.getLastD 0])]
def NA(is)(c)(d:∀a∈c,∀b∈a,b<7):(c.filter λa=>!a.isEmpty).flatMap (uf is)=gu (dW is) c:=by
 induction c with
 |nil=>rfl
 |cons a c f=>
  show _=mO _ a++gu _ c;rw[oE,<-(f λg h=>d g<|.tail _ h)];rcases e:a.isEmpty with _|_
  .show(a::c.filter λa=>!a.isEmpty).flatMap _=_;refine J xo<|aZ (· ++_) ?_;unfold uf mO tn;refine J e<|aZ (· ++_) (qu λb i=>?_);exact J ((Bl is<|d a (.head _) b i).1) rfl
  have j:=jM.mp e;subst j;rfl
def wm(c:aj z a r b (.int i))(d:i<7):aj (qL z) a r b (.str [97+i]):=DR (uJ (λU U e=>e) c)<|tL (fF d (show 7<31 by decide)) 97
def OQ(d:a≠[]):∃b,a=a.headD 0::b/\∃c,a=c++[a.getLastD 0]:=by
 obtain e|⟨b,g,e⟩:=xm a
 .exact aW e d
 rw[xj] at e;obtain _|⟨h,f⟩:=a
 .exact aW rfl d
 exact⟨f,rfl,b,J e<|J hy rfl⟩
def agZ{S:iC}(j:a≠[])(f:∀b∈a,b<7)(h:H a<=7):aj CZ cf ((aY {S with rD:=bD (fi is)}).set 24 (gf a)) W (.lst ((uf is a).map bT)):=by
 obtain⟨t,ao,k,aA⟩:=OQ j;have g:aj (af 24) cf ((aY {S with rD:=bD (fi is)}).set 24<|gf a) W _:=aq;have l:=f _<|J ao<|.head _;have m:=f _ (by
  have:a.getLastD 0∈k++[a.getLastD 0]:=lF _<|.head _;rwa [<-aA] at this)
 have n:=Ic g (by
  have:=aZ (List.map λd:Nat=>D.int d) ao;exact aZ cT.lst this)
 have p:=Ie g (by
  have:=aZ (List.map λd:Nat=>D.int d) aA;rw[dS] at this;exact aZ cT.lst this)
 have q:=jA (cN:=[4]) (bt:=false) (is:=[4]) a (λd=>.int _) (λb=>bT ((fi is).getD b [],[97+b,97+b])) (λb=>((aY {S with rD:=bD _}).set 24 _).set 4 _) (kr g) trivial (λU U U c=>c) (e:=eF [(aT (af 5) (af 4)),(aR .Mult (qL (af 4)) _)]) (λb r=>by
  have i:=f b r;refine jB<|c_ (uL aq aq rfl ?_)<|Yi<|wm aq i;rw[d8,getD_at (J (eC ..)<|i)];rfl) (az h aH)
 have s:aj _ cf _ W (bT ([82,111,119],[97+a.headD 0,97+a.getLastD 0])):=jB<|c_ bc<|sM (wm n l) (wm p m) aH;have u:=A3 q s<|J (aX ..)<|az (iI h) aH;unfold uf;rwa [dS,dM]
def ag0{S:iC}(f:∀a∈L,a≠[]/\(∀b∈a,b<7)/\H a<=7)(s:(L.flatMap (uf is)).length<=lim):aj (c5 false [24,27] false [24] (af 23) [] [(false,[27],CZ,[])] (af 27)) cf (aY {S with rD:=bD (fi is),nG:=.lst (L.map gf)}) W (.lst ((L.flatMap (uf is)).map bT)):=by
 have ao:(L.flatMap λa=>((uf is a).filter λU=>true).map bT)=(L.flatMap<|uf is).map bT:=by
  exact J JO<|aZ (λg=>L.flatMap g) (funext λa=>by rw[EF.mpr λU U=>rfl])
 have:=yL (cN:=[24,27]) (b2:=false) (AF:=[24]) (AG:=[27]) (e:=af 27) (Dn:=CZ) L _ gf bT (λU U=>true) (λU d=>bT d) (λa=>(aY {S with rD:=bD _,nG:=.lst _}).set 24 _) (λa d=>((aY {S with rD:=bD _,nG:=.lst _}).set 24 _).set 27 _) (kr (i:=23) (r:=aY {S with rD:=bD _,nG:=.lst _}) (tp:=false) aq) trivial (λU U U c=>c) (λa h=>by
  refine iT (f a h) λj l m=>?_
  have:=agZ (cf:=cf) (W:=W) (is:=is) (S:={S with nG:=.lst (L.map gf)}) j l m;exactλk n c=>this (λp q=>j0 q p k) n c) trivial (λU U U U U c=>c) (λU U U U=>Bu) (λU U U U U=>aq) (by
  rwa [ao,aX])
 rwa [ao] at this
def YX(b:a∈dP is):H a<=7:=by
 have:=(D4 (qd is)<|uP is▸b).length_le;rwa [kF] at this
def F2(is:List Int):aN:=nU is++[.lst<|(gu (dW is)<|dP is).map bT]
def x8(is:List Int):aN:=nU is++[.lst<|(iV is).map bT]
def Je(is):(nU is).length=8:=by
 unfold nU cF;exact J gM rfl
def G6(is):∀a∈ir is,a≠[]/\(∀b∈a,b<7)/\H a<=7:=λa d=>by
 obtain⟨c,f⟩:=BI.mp d;refine⟨λe=>?_,λb g=>A_ c g,YX c⟩;rw[e] at f;contradiction
def UM(is):(ir is).flatMap (uf is)=gu (dW is) (dP is):=by
 exact NA is _<|Iq is
def ag1:aj (c5 false [24,27] false [24] (af 23) [] [(false,[27],CZ,[])] (af 27)) cf (aY (Kn is)) W (.lst ((gu (dW is) (dP is)).map bT)):=by
 have:=ag0 (cf:=cf) (W:=W) (S:=Kn is) (G6 is)<|J (UM ..)<|az (bF<|Az is) aH;rwa [UM] at this
def ahK:(eqB (gg (dO 1)) [81]&&(eqB (gg (dO 2)) [81,81]&&eqB (gg (dO 3)) [81,81,81]))=true:=au
def ahJ(a:k<3):gg (dO (k+1))=(kG (k+1) [81]).flatten:=by
 obtain⟨b,c⟩:=(bl ..).mp ahK;obtain⟨d,e⟩:=(bl ..).mp c;match k,a with
 |0,_=>exact sr b
 |1,_=>exact sr d
 |2,_=>exact sr e
def bb(b)(k):((b.zipIdx k).flatMap λx=>(x.1.filter λU=>true).map λa=>bT (gg (dO (x.2+1)),jc a))=(nC k b).map bT:=by
 unfold nC;exact J JO<|aZ (λc=>(b.zipIdx k).flatMap c) (funext λx=>by rw[EF.mpr λU U=>rfl,dM];rfl)
def ag3{S:iC}(h:H a<=3)(i:∀b∈a,bk b)(n:(nC 0 a).length<=lim):aj jR cf (aY {S with w9:=.lst (a.map bU)}) W (.lst ((nC 0 a).map bT)):=by
 have:=yL (cN:=[4,28,29,30]) (b2:=true) (AF:=[4,30]) (AG:=[28,29]) (e:=eF [(aR .Mult (ah (.str [81])) (aR .Add _ (ah _))),_]) (Dn:=af 30) (a.zipIdx 0) (λx=>x.1) (λx=>.tup [.int _,bU x.1]) fV (λU U=>true) (λx c=>bT (gg _,jc c)) (λx=>((aY {S with w9:=.lst _}).set 4 _).set 30 _) (λx c=>((((aY {S with w9:=.lst _}).set 4 _).set 30 _).set 28 _).set 29 _) (Nc (e:=af 25) (r:=aY {S with w9:=.lst _}) aq) trivial (λU U U c=>c) (λx U=>kr aq) trivial (λU U U U U c=>c) (λU U U U=>Bu) (λx g c j U=>by
  have d:=(i x.1<|Xf g).w c j;have f:x.2<3:=by
   obtain⟨p,q⟩:=x;have:=(anp g).2.1;rw[i8] at this;exact bZ this h
  have k:aj (af 28) cf (((((aY {S with w9:=.lst (a.map bU)}).set 4<|.int x.2).set 30<|bU x.1).set 28<|.int c.1).set 29<|.int c.2) W _:=aq;have l:aj (af 29) cf (((((aY {S with w9:=.lst (a.map bU)}).set 4<|.int x.2).set 30<|bU x.1).set 28<|.int c.1).set 29<|.int c.2) W _:=aq;refine jB<|c_ ?_<|sM (wm k<|bz d.1 d.2) (wm l d.2) aH;rw[ahJ f];have m:aj (af 4) cf (((((aY {S with w9:=.lst (a.map bU)}).set 4<|.int (x.2:Nat)).set 30<|bU x.1).set 28<|.int c.1).set 29<|.int c.2) W _:=aq;refine jz bc (uJ m λU U c=>c) λs c=>⟨⟨xd av<|kE _,nI.mpr<|fF (JZ f) av⟩,?_,c⟩
  show 1*_<=lim;exact J (Q4 ..)<|az (bF (JZ f)) aH) (by
  rwa [bb,aX])
 rwa [bb] at this
def abB(is):iV is=gu (dW is) (dP is)++nC 0 (nE is):=rfl
def W8(is)(a):mF is a=cX (bR (iw is).laid (dW is) a):=rfl
def X3(is):q2 is=dU [10] ((dP is).map (mF is)):=rfl
def DN(is):(∀s∈(dP is).map (mF is),H s<=35)/\((dP is).map (mF is)).length<=8:=by
 have:=XY (tu is<|jr is 7)<|qd is;rwa [X4] at this
def adt(d:gD (gS.drop 14) cf (aY (nS is)) (x8 is) a b):gD (gS.drop 13) cf (aY (nS is)) (F2 is) a b:=by
 have c:=(Hi is<|Az is).n;rw[abB,bq] at c;have e:(F2 is)[8]?=some (.lst<|(gu (dW is)<|dP is).map bT):=by
  exact bH (Je is)<|iD
 have f:=ag3 (cf:=cf) (W:=F2 is) (S:=nS is) (di<|Ew is) ((Dh is).2)<|az (bF<|bz (fS _ _) c) aH;have aA:(F2 is).set 8 (.lst<|(gu (dW is)<|dP is).map bT++(nC 0<|nE is).map bT)=x8 is:=by
  rw[<-dS];have:=pH (bK:=nU is) (o:=.lst<|(gu (dW is)<|dP is).map bT) (x:=.lst<|(iV is).map bT);rwa [Je] at this
 refine jL<|Iz (bN λU d=>d) e f ?_ ?_
 .exact J (aX ..)<|J (aX ..)<|az (bF c) aH
 rwa [aA]
def ag_{S:iC}(l:∀a∈b,a<H c)(m:∀a∈b,a<H f)(n:(cX (bR c f b)).length<=100)(p:H b<=7):aj W7 g ((aY {S with tw:=bD f,BA:=jX c}).set 24 (gp b)) h (.str (cX (bR c f b))):=by
 have t:∀a∈b,(c.getD a []++f.getD a []).length<=100:=λa k=>by
  refine az ?_ n;have l:_∈bR c f b:=fC.mpr ⟨a,k,rfl⟩;have m:c.getD a []++f.getD a []∈(bR c f b).map λq=>q.1++q.2:=fC.mpr ⟨_,l,rfl⟩
  exact(hK m).length_le
 have s:=jA (cN:=[4]) (is:=[4]) b (λi=>.int i) (λa=>.str _) (λa=>((aY {S with tw:=bD f,BA:=jX c}).set 24 _).set 4 _) (kr (i:=24) (r:=(aY {S with tw:=bD f,BA:=jX c}).set 24 (gp b)) (tp:=false) aq) trivial (λU U U j=>j) (λa k=>by
  have u:aj (aT (af 19)<|af 4) g (((aY {S with tw:=bD f,BA:=jX c}).set 24<|gp b).set 4<|.int _) h _:=uL aq aq rfl<|J d8<|J (getD_at (d:=[])<|l a k) rfl;have v:aj (aT (af 7)<|af 4) g (((aY {S with tw:=bD f,BA:=jX c}).set 24<|gp b).set 4<|.int _) h _:=uL aq aq rfl<|J d8<|J (getD_at (d:=[])<|m a k) rfl;exact sM u v (bq▸az (t a k) aH)) (az p aH)
 have e:b.map (λa=>D.str<|c.getD a []++f.getD a [])=(b.map λa=>c.getD a []++f.getD a []).map .str:=J dM rfl;rw[e] at s;have aA:dU [] (b.map λa=>c.getD a []++f.getD a [])=cX (bR c f b):=by
  rw[Hz];unfold cX bR;exact J dM rfl
 have:=A5 bc s rfl (by
  exact J aA<|J (aX ..)<|az (d9 n p) aH)
 rwa [aA] at this
def akR:dz (bh .NotEq (af 16) X0) cf (aY (nS is)) W false:=by
 have d:=DN is;have h:=jA (cf:=cf) (W:=W) (cN:=[24]) (bt:=false) (is:=[24]) _ gp (λb=>.str (mF is b)) (λb=>(aY _).set 24 _) (kr (i:=18) (r:=aY (nS is)) (bN λU a=>a)) trivial (λU U U a=>a) (λb c=>by
  rw[W8];refine ag_ (S:=nS is) (λl f=>J (WY (tu is<|jr is 7)<|qd is)<|(A_ c f)) (λl f=>by rw[(λis=>(tu is<|jr is 7).n)];exact A_ c f) ?_<|YX c;exact bH (W8 ..)<|az (d.1 _ (fC.mpr ⟨b,c,rfl⟩)) (by decide)) (az (bF (yR is).n) (fE rfl))
 have e:(dP is).map (λb=>D.str<|mF is b)=((dP is).map<|mF is).map .str:=J dM rfl;rw[e] at h;have j:=A5 bc h rfl<|Nk (λs g=>mT<|d.1 s g) d.2;rw[<-X3] at j;exact iY (bN λU a=>a) j λk a=>⟨aQ,λU=>a,λg=>aW rfl g⟩
def ea(c:(cF (rZ is) (iV is) (j3 (dP is)) (d7 [dO 3]))[a]?=some o) (b:a≠6):(nU is)[a]?=some o:=by
 unfold nU;rwa [nL<|Ne.symm b]
def d':(nU is)[4]?=some (c6 5):=ea (by
 have:=EA (bK:=rZ is) (hs:=iV is) (bs:=j3<|dP is) (ps:=d7 [dO 3]);rwa [d6] at this) av
def PY(a:(nU is)[i]?=some o):(x8 is)[i]?=some o:=mw a
def ZJ(a:nT):qk (kK 3) (a.map bT) (a.map bT):=by
 induction a with
 |nil=>trivial
 |cons c a b=>exact⟨⟨aQ,aQ,aQ⟩,b⟩
def yO(d:a[b]?=some (.lst c)):res a (.loc b)=.lst c:=by
 show bI.casesOn (motive:=λU=>D) _ _ _ _ _=_;exact J (ez d) rfl
def AS(c:res a x=d)(e:res a b=d)(f:kK 4 d d)(k)(g:k false):jt .NotEq a x b k:=by
 show kK 4 _ _/\_;exact J c<|J e<|⟨f,λU=>g,λh=>aW rfl h⟩
def akL:dz (bh .NotEq (bg "items" (af 20) [] [] []) (af 26)) (aB (a+7)) (aY (nS is)) (x8 is) false:=by
 have c:aj (bg "items" (af 20) [] [] []) (aB (a+7)) (aY (nS is)) (x8 is) _:=wu aq (PY d') au cO cO λd e b=>T8 (PY d') (PY (ea (by
  have:=P8 (bK:=rZ is) (hs:=iV is) (bs:=j3<|dP is) (ps:=d7 [dO 3]);rwa [d6] at this) av)) b
 exact iY c aq (AS rfl (yO (by
  exact bH (Je is)<|iD)) (ZJ _))
def KN(a:nT)(b:Ps)(c:nT):aN:=[c6 5,.lst<|a.map bT,.dead,pn 2 b,.lst<|c.map bT]
def mr(is:List Int)(a:List (List Nat))(b c:Ps):aN:=cV (jK is) (jx is) a 0 b<|KN (iV is) c<|iV is
def ald(is):x8 is=mr is ((dP is).map (mF is)) [] (d7 [dO 3]):=by
 rfl
def alE(is):4<=jK is:=cZ _ _
def B1(c:4<=a):mz a o (b,0,[]) ([9],[])=(b,0,[([9],[])]):=by
 unfold mz;exact J (eS<|bA.mpr<|az (fE rfl:0+fc ([]++[([9],[])])<=4) c) rfl
def akn:vR 0 [([9],[])]=true:=au
def ae7(b:a≠[]):kB a 0 (ig [([9],[])])=a.dropLast++[a.getLast?.getD []++[9]]:=by
 have ao:ig [([9],[])]=[_]:=rfl;have aA:a.isEmpty=false:=by cases a with
  |nil=>exact aW rfl b
  |cons=>rfl
 rw[ao];unfold kB;exact J akn<|J aA rfl
def acU(g:a≠[])(x):dU [10] (a.dropLast++[a.getLast?.getD []++x])=dU [10] a++x:=by
 induction a with
 |nil=>exact aW rfl g
 |cons s b d=>
  obtain _|⟨c,b⟩:=b
  .rfl
  have d:=d (λe=>nomatch e);have e:(s::c::b).dropLast++[(s::c::b).getLast?.getD []++x]=s::((c::b).dropLast++[(c::b).getLast?.getD []++x]):=rfl;rw[e];rcases f:(c::b).dropLast++[(c::b).getLast?.getD []++x] with _|⟨h,i⟩
  .exact aW (JH.mp f).2 λe=>nomatch e
  show s++[10]++dU [10] (h::i)=s++[10]++dU [10] (c::b)++x;exact bH f<|J d<|J (eT ..)<|J (eT ..)<|J (eT ..) rfl
def aiQ(b:H a<900)(c:(a.getLast?.getD []).length<=900):vI 0 (ig [([9],[])]) a:=⟨av,av,b,c⟩
def eA:(mr is a b c)[1]?=some (.inst 152 (Mj (jK is) (jx is)) []):=rfl
def y_:(mr is b c a)[7]?=some (pn 2 a):=rfl
abbrev Ea:List D:=[.int (1:Nat),.int (6:Nat),.tup [.str [32],.str [113,113,113]],Ao,.str [],.int (2:Nat)]
def X9(h:∀b,aj (af 22) (aB (n+7)) r b (.loc 7))(i:(e8 a).length<1000)(j:c ((e8 a).getLast?.getD Ao) ((mr is d e a).set 7 (.inst 236 (yk 2) (e8 a).dropLast))):(bg "pop" (af 22) [] [] [] (aB (n+7))).v r (mr is d e a) c g:=pN<|h _ _ g<|mG (f:=196) y_ au<|Gz (n:=n+5) y_ j i
def aiK(f:∀d,aj (af 22) (aB (e+7)) r d (.loc 7))(g:k Ea (mr is b c [])):gc (gh IB (aB (e+7))) r (mr is b c (d7 [dO 3])) k a:=by
 have i:aj (bg "part_count" _ [] [] []) _ r (mr is b c<|d7 [dO 3]) _:=wu (f _) y_ au cO cO λp a g=>Lx y_ g
 have j:aj _ _ r (mr is b c<|d7 [dO 3]) _:=Ig (f _) y_ aH;have l:aj _ _ r (mr is b c []) _:=Ij (f _) y_ aH;have m:aj _ _ r (mr is b c []) _:=Ig (f _) y_ aH;refine rA<|i _ a<|rA<|j _ a<|rA<|X9 f aH ?_;suffices next:gc _ r (mr is b c []) (λn h=>k _ h) a from next;refine rA<|X9 f aH ?_;suffices next:gc _ r _ (λn h=>k _ h) a from next;exact rA<|l _ a<|rA<|m _ a g
noncomputable def u5(a:List (List Nat)):List (List Nat):=a.dropLast++[a.getLast?.getD []++[9]]
def m6(is:List Int):aN:=mr is (u5<|(dP is).map<|mF is) [] []
def akp(c:∀s∈a,H s<=35)(d:a≠[])(e:H a<=8):(dU [10] (u5 a)).length+(u5 a).length<=lim:=by
 refine Nk (λs b=>?_) ?_
 .obtain b|b:=i7.mp b
  .exact mT<|c s<|(List.dropLast_sublist _).subset b
  exact J (dK.mp b)<|J bq<|iI<|NT c
 unfold u5;rw[bq,anh];have:=JX<|QV.mpr d;show(H a)-1+1<=8;rwa [this]
def aeK(v:∀g,aj (af 22) (aB (n+7)) r g (.loc 7))(l:∀g,aj (af 13) (aB (n+7)) r g (.loc 1))(m:∀s∈a,H s<=35)(i:a≠[])(p:H a<=8)(x:k (.none::.str (dU [10] a++[9])::Ea) (mr is (u5 a) [] [])):gc (gh (LH::IQ::IB) (aB (n+7))) r (mr is a [] (d7 [dO 3])) k c:=by
 have q:H a<900:=bz p av;have t:(a.getLast?.getD []).length<=900:=az (NT m) av;refine rA<|pN<|l _ _ c<|mG (f:=149) eA au ?_;refine T3 (n:=n+1) av av (λh=>?_) (⟨av,av,q,t⟩) ?_
 .refine az (d9 (b:=1) (d:=1) ?_<|JM ..) aH;obtain _|h:=h
  .exact b9 _
  obtain _|h:=h
  .exact aS _
  exact aS _
 rw[B1<|alE is];suffices next:gc _ r _ (λu j=>k _ j) c from next;refine rA<|pN<|l _ _ c<|mG (f:=100) eA au ?_;have e:=ae7 i;have w:dU [10] (u5 a)=dU [10] a++[9]:=acU i [9];refine TY (n:=n+2) (cur:=[([9],[])]) av (aiQ q t) (e▸akp m i p) ?_;rw[e];suffices next:gc _ r _ (λu j=>k (.none::.str (dU [10]<|u5 a)::u) j) c from next;refine aiK v ?_;rwa [w]
def ale(is):m6 is=mr is (u5 ((dP is).map (mF is))) [] []:=rfl
def aim(l:dz k a r h false)(p:dz m a r h false)(q:(n a).t r h (λj b=>i0 (motive:=λU=>Prop) j (br f a r b d c) (br g a r b d c)) c):bX (p_ [k,m,n]) g f a r h d c:=l _ c (p _ c (by
 refine(?_);have e:(λi b=>i0 (motive:=λU=>Prop) i (i0 false (br f a r b d c)<|br g a r b d c)<|i0 true (br f a r b d c)<|br g a r b d c)=λj b=>i0 j (br f a r b d c) (br g a r b d c):=by
  funext i b;cases i<;>rfl
 rwa [e]))
def akl(i:gc (gh d a) r e (λf g=>(z a).v r g (λh b=>jt o b (.lst f) h λj=>k j b) c) c):(bh o (b8 false d) z a).t r e k c:=i
def aiH(s:List Nat):kK 4 (.lst (.none::.str s::Ea)) (.lst (.none::.str s::Ea)):=⟨aQ,aQ,aQ,aQ,⟨aQ,aQ,aQ⟩,⟨aQ,aQ,aQ⟩,aQ,aQ,aQ⟩
def aho:aj OO a (aY (nS is)) b (.lst (.none::.str (q2 is++[9])::Ea)):=jW (dD iM (dD (sM aq bc (by
 exact J (X3 ..)<|az (d9 (az (Wy 35 (DN is).1) (xx 36 (DN is).2)) (aS 1)) aH)) (dD bc (dD bc (dD (jB (c_ bc bc)) (dD (jB (c_ bc bc)) (dD bc (eg bc))))))))
def akm(c:k false (m6 is)):(bh .NotEq (b8 false (LH::IQ::IB)) OO (aB (a+7))).t (aY (nS is)) (x8 is) k b:=by
 have g:∀f,aj (af 22) (aB<|a+7) (aY<|nS is) f _:=λf=>aq
 have h:∀f,aj (af 13) (aB<|a+7) (aY<|nS is) f _:=λf=>aq
 refine J (ald ..)<|akl<|aeK g h (DN is).1 (λe=>(yR is).ne<|JN.mp e) (DN is).2 ?_;exact bH (ale ..)<|aho _ b<|AS (d:=.lst _) rfl rfl (aiH _) (λi=>k i _) c
def PZ(is):(m6 is)[4]?=some (c6 5):=rfl
def d4(is):(m6 is)[5]?=some (.lst ((iV is).map bT)):=rfl
def YJ:(eqB (low [113,81,113]) (dO 3)&&mE true (low [113,81,113]))=true:=au
def YI:low [113,81,113]=dO 3:=sr ((bl ..).mp YJ).1
def aah(is):getL (iV is) [113,81,113]=(fL is).map jc:=by
 rw[<-aaK];unfold getL iG;exact J YI rfl
def Mk(is:List Int):D:=.lst<|(fL is).map bV
abbrev m7(is:List Int)(a b c s:List D):aN:=m6 is++[.lst a,.lst b,.lst c,.lst s]
def Bx(is):(m6 is).length=9:=rfl
abbrev gA(is:List Int):iC:=⟨.lst<|is.map .int,gV<|cells is,bD<|fi is,.ai,bD<|dW is,bD<|lq is,.int<|jK is,.int<|nk is,.str<|jx is,.loc 1,.str<|q2 is,bD<|nD is,.lst<|(dP is).map gp,jX (iw is).laid,.loc 4,vQ is,.loc 7,.lst<|(ir is).map gf,.lst<|(nE is).map bU,.loc 8,Mk is,.loc 9,.loc 10,.loc 11,.loc 12,.ai,.ai,.ai,.ai,.ai⟩
def C7(is):(getL (iV is) [113,81,113]).map D.str=(fL is).map bV:=by
 exact J (aah ..)<|J dM rfl
def HX(g:gc (gh b c) r (a++[.lst []]) (λd e=>k (.loc (H a)::d) e) f):gc (gh (b8 true []::b) c) r a k f:=g
def agk:aj (bg "get_all" (af 20) [ah (.str [113,81,113])] [] []) (aB (a+7)) (aY (nS is)) (m6 is) (Mk is):=wu aq (PZ is) au (eg bc) cO λd e b=>by
 have c:=Hi is<|Az is;refine T7 (PZ is) (d4 is) (sG ((bl ..).mp YJ).2) (YI▸aH) c.l (az (bF c.n) aH) ?_;exact J (C7 ..)<|b
def adu(d:gD (gS.drop 16) (aB (b+7)) (aY (gA is)) (m7 is [] [] [] []) c a):gD (gS.drop 15) (aB (b+7)) (aY (nS is)) (m6 is) c a:=by
 refine jL<|IA<|rA<|agk _ a<|HX<|HX<|HX<|HX ?_;exact d
noncomputable def iO(a:a_):Nat:=a.2-a.1
def ins(b:a_->Bool)(x:a_)(c:List a_):List a_:=List.rec [x] (λa d e=>bif b a then a::e else x::a::d) c
noncomputable def n5(x a:a_):Bool:=ia (iO a)<|iO x
noncomputable def sD(x a:a_):Bool:=BO (iO a)<|iO x
def inR(a:List a_)(x:a_):List a_:=ins (n5 x) x a
def mC(a:List a_)(x:a_):List a_:=ins (sD x) x a
def GQ(a:List Nat)(b:KasT (Array Nat)):Option (List Nat):=KasT.rec (λc=>some c.toList)
 (λd e U f=>b7 (a[d]?) none λx=>b7 (a[e]?) none λg=>f<|BO x g) b
def C3(s a:List a_):Bool:=List.rec (λa=>a.isEmpty) (λb U d a=>fk a false λc a=>Nat.beq b.1 c.1&&(Nat.beq b.2 c.2&&d a)) s a
def DO(b:List a_)(a:List Nat):Option (List a_):=List.rec (some []) (λc U d=>b7 (b[c]?) none λx=>b7 d none λa=>some (x::a)) a
def j4(a:List a_):List a_:=a.foldl inR []
def L4(a:List a_):List a_:=a.reverse.foldl mC []
def Bk(a:List a_):Option (List a_):=bif BO (H a) 2 then some a else b7 (GQ (a.map iO)<|kas_sort<|H a) none λb=>bif ia (H b) 100 then DO a b else none
def Wh(o:Option (List a_))(a:List a_):Bool:=b7 o false λb=>C3 b a
def ZZ(a:List a_):Bool:=(λb=>C3 (L4 a) b&&Wh (Bk a) b)<|j4 a
noncomputable def K_(f:List a_->Bool)(g:Nat):List a_->Nat->Nat->Bool:=Nat.rec (λU U U=>true)
 (λU h c a e=>f c&&(b6<|7-a).all λb=>(b6<|7-max e (a+b)).all λd=>h (c++[(a+b,max e (a+b)+d)]) (a+b+1)<|max e (a+b)+d+1) g
def ai2:K_ ZZ 8 [] 0 0=true:=au
def og(g)(f):∀c b e,K_ g f c b e=true->7<b+f->b<=7->∀G,(G.Pairwise λd b=>d.1<b.1/\d.2<b.2)->(∀a∈G,b<=a.1/\e<=a.2/\a.1<=a.2/\a.2<7)->g (c++G)=true:=by
 induction f with
 |zero=>exactλc b e U h k=>aW h<|bA.mpr k
 |succ f t=>
  intro c b e u h k G v l;obtain⟨g1,g2⟩:=(bl ..).mp (show(g c&&(b6 _).all λz=>(b6 _).all λA=>K_ g f _ _ _)=true from u);obtain _|⟨a,G⟩:=G
  .rwa [dR]
  obtain⟨m,w⟩:=rK.mp v;obtain⟨x,B⟩:=a;refine tZ (l _<|.head _) λi y n p=>?_
  have q:=bz n p;have ao:=rL i;have r:=BQ.mpr ⟨y,n⟩;have s:=dQ.mp (dQ.mp g2 _<|fJ.mpr<|h2 i q) _<|fJ.mpr<|ao.symm▸h2 r p;rw[ao,rL r] at s;have:=t _ _ _ s (bZ h<|pT x 1 f▸iI (j8 i f)) q G w λa j=>⟨(m a j).1,(m a j).2,(l a<|.tail _ j).2.2⟩
  rwa [eT] at this
def Mh{s:List a_}:∀{a:List a_},C3 s a=true->s=a:=by
 induction s with
 |nil=>
  intro a c;obtain _|_:=a
  .rfl
  contradiction
 |cons d s e=>
  intro a c;obtain _|⟨f,a⟩:=a
  .contradiction
  obtain⟨g,b⟩:=(bl ..).mp (show _=true from c);obtain⟨b,h⟩:=(bl ..).mp b;exact J (e h)<|J (show d=f from Prod.ext (EV g)<|EV b) rfl
def CF(x a):decide (x<a)=BO x a:=by
 rcases b:BO x a with _|_
 .exact eS λc=>gX<|b.symm.trans<|EU c
 exact gb<|fE b
def R'(f)(e:GQ a f=some c)(m:∀d,d.toList=c->k d):Aq (a.map λb=>((b:Nat):Int)) f k:=by
 induction f with
 |ret n=>exact m n<|bY e
 |ask h i p q=>
  have e:b7 _ none (λx=>b7 _ none λg=>GQ a<|p<|BO x g)=some c:=e;show opt ((a.map λb=>_)[h]?) λx=>opt ((a.map λb=>_)[i]?) λg=>Aq (a.map λb=>_) _ k
  rw[d8,d8];rcases j:a[h]? with _|x
  .rw[j] at e;contradiction
  rw[j] at e;rcases l:a[i]? with _|g
  .rw[l] at e;contradiction
  rw[l] at e;show Aq (a.map λb=>_) _ k;rw[dec_lt];exact J (CF ..)<|q _ e
def agz:∀{b:List a_} {k:List D->Prop},DO c a=some b->k (b.map d)->yJ (c.map d) a k:=by
 induction a with
 |nil=>
  intro b k e f;rwa [<-bY (show some []=some b from e)] at f
 |cons i a j=>
  intro b k e f;have e:b7 _ none (λx=>b7 (DO c a) none λa=>some (x::a))=some b:=e;show opt _ λl=>yJ _ a λa=>k _
  rw[d8];rcases h:c[i]? with _|x
  .rw[h] at e;contradiction
  rw[h] at e;rcases g:DO c a with _|m
  .rw[g] at e;contradiction
  rw[g] at e;refine j g ?_;rwa [<-bY e] at f
def ai1(f:Bk a=some c)(j:k (c.map d)):sorted (a.map λb=>((iO b:Nat):Int)) (a.map d) k:=by
 unfold sorted;have e:(a.map λb=>((iO b):Int))=(a.map iO).map λn=>((n:Nat):Int):=J dM rfl
 rw[e];unfold Bk at f;rw[aX,aX,CF];rcases l:BO (H a) 2 with _|_
 .rw[l] at f;rcases g:GQ _ _ with _|h
  .rw[g] at f;contradiction
  rw[g] at f;have f:(bif ia (H h) 100 then DO a h else none)=some c:=f;refine R' _ g λb m=>?_
  rcases i:ia (H h) 100 with _|_
  .rw[i] at f;contradiction
  rw[i] at f;refine⟨?_,J m<|agz f j⟩;exact bH ami<|J m<|az (fE i) av
 rw[l] at f;rwa [<-bY f] at j
def Z0(c:bk a):L4 a=j4 a/\Bk a=some (j4 a):=by
 have d:=og ZZ 8 [] 0 0 ai2 av (b9 _) a c.o λf g=>⟨b9 _,b9 _,c.w f g⟩
 obtain⟨h,b⟩:=(bl ..).mp (show(C3 _ _&&Wh (Bk a) (j4 a))=true from d);refine⟨Mh h,?_⟩;rcases e:Bk a with _|i
 .rw[e] at b;contradiction
 rw[e] at b;exact J (Mh b) rfl
def M4:ins b x a=a.take (a.takeWhile b).length++x::a.drop (a.takeWhile b).length:=by
 induction a with
 |nil=>rfl
 |cons c a d=>
  show(bif b c then c::ins b x a else x::c::a)=_;rw[JS];obtain _|_:=b c
  .rfl
  exact aZ _ d
def M5(d:a∈ins c x b):a=x\/a∈b:=by
 rw[M4] at d;obtain d|d:=i7.mp d
 .exact .inr<|anm d
 exact(cQ.mp d).imp id hD
def V9:(ins b x a).length=H a+1:=by
 exact J M4<|J bq<|J gK<|bH (gE ..)<|bH bq<|J (hL ..) rfl
def FQ(a:List a_):Prop:=a.Pairwise λb c=>iO b<=iO c
def V8(k:∀a,b a=true->iO a<=iO x)(h:∀a,b a=false->iO x<=iO a)(i:FQ c):FQ (ins b x c):=by
 induction c with
 |nil=>exact List.pairwise_singleton _ _
 |cons a c l=>
  obtain⟨j,m⟩:=rK.mp i;show FQ (bif b a then a::ins b x c else x::a::c);rcases e:b a with _|_
  .exact rK.mpr ⟨λf d=>(cQ.mp d).elim (λg=>g▸h a e) λd=>az (h a e)<|j f d,i⟩
  exact rK.mpr ⟨λf d=>(M5 d).elim (λg=>g▸k a e)<|j f,l m⟩
structure ja(i:Nat)(l:List a_):Prop where
 o:FQ l
 w:∀p∈l,p.1<=p.2
 n:l.length=i
def Ja:ja 0 []:=⟨.nil,(λU a=>nomatch a),rfl⟩
def t5(c:ia a b=false):b<=a:=bF (hV λd=>gX<|c.symm.trans<|EU d)
def ja.inR(b:ja i a)(c:x.1<=x.2):ja (i+1) (inR a x):=⟨V8 (λd e=>fE e) (λd e=>t5 e) b.o,λf g=>(M5 g).elim (λe=>e▸c)<|b.w f,V9.trans (aZ (· +1) b.n)⟩
def ja.mC(b:ja i a)(c:x.1<=x.2):ja (i+1) (mC a x):=⟨V8 (λd e=>bF<|fE e) (λd e=>rM (hV λf=>gX<|e.symm.trans<|EU f)) b.o,λg h=>(M5 h).elim (λe=>e▸c)<|b.w g,V9.trans (aZ (· +1) b.n)⟩
def ja.HS(d:ja i a):a.Pairwise λb c=>n5 x c=true->n5 x b=true:=d.o.imp λd e=>EU<|az d<|fE e
def ja.jx(d:ja i a):a.Pairwise λb c=>sD x c=true->sD x b=true:=d.o.imp λd e=>EU<|bz d<|fE e
def WH:D->D:=kS λs=>.int (s.getD 1 0-s.getD 0 0:Nat)
def Np(a):WH (bV a)=.int (iO a):=by
 show D.int (97+a.2-(97+a.1):Nat)=_;exact J (anB ..) rfl
def Yu(d:aj z a r b (.str [c])):aj (aP (ah (.g 1001)) [z] [] []) a r b (.int c):=λh e f=>d _ e f
def CH(g:x.1<=x.2)(e:b (.int (iO x)) a):aB (c+1) 409 [bV x] [] a b d:=go rfl rfl rfl [bV x] (λU e=>⟨aH,aH,e⟩) (by
 have f:aj (af 0) (aB c) [bV x] a _:=aq;refine aO<|rq (Yz (Yu<|qh f) (Yu<|uI f)<|j7 g 97)<|nY ?_;rwa [anB])
def GS:409<1000/\gU.lookup 409=none/\je.contains 409=true:=⟨av,au,au⟩
def WT(d:ja i a):xS (b+1) (.g 409) WH (a.map bV):=.inr ⟨409,rfl,GS,λk e l m n c=>by
 refine aG (fC.mp e) λf h j=>?_;subst j
 rw[Np] at c;exact CH (d.w f h) c⟩
def CE(a b):(!ia a b)=decide (b<a):=by
 rcases c:ia a b with _|_
 .exact(gb (hV λd=>gX<|c.symm.trans<|EU d)).symm
 exact(eS<|bA.mpr<|fE c).symm
def IG(c:a_->D):(a.map c).take (a.takeWhile b).length++c x::(a.map c).drop (a.takeWhile b).length=(ins b x a).map c:=by
 exact J M4<|J dS<|J i6<|J ER<|J EP rfl
section
variable{i:Nat}{l:List a_}{x:a_}{n m:Nat}{W:aN}{Q:Ok D}{Z:er}(h:ja i l)(fN:i<60)
include h fN
abbrev dH(a:a_):D:=.str [97+iO a]
def acd(b:W[m]?=some (.lst (l.map dH))) (a:Q .none (W.set m (.lst ((inR l x).map dH)))):aB (n+3) 47 [.loc m,dH x] [] W Q Z:=
 V7 (p:=(l.takeWhile<|n5 x).length) b (λU a=>a) (J (aX ..)<|wZ l _) (J (aX ..)<|J h.n<|fN)
  (λQ Z a=>ye h.HS Lh (jl b) (.inl ⟨rfl,rfl⟩) (λU a=>a) (.inr ⟨rfl,(aX ..).symm⟩) (b9 _) (aS _) (h.n▸fN) (by rwa [sL (b9 _)]) λc U k a=>by
   show k _;exact J (oi ..)<|bH (CE ..)<|a) (J (IG ..)<|a)
def aca(b:W[m]?=some (.lst (l.map dH))) (a:Q .none (W.set m (.lst ((mC l x).map dH)))):aB (n+3) 65 [.loc m,dH x] [] W Q Z:=
 acs (p:=(l.takeWhile<|sD x).length) b (λU a=>a) (J (aX ..)<|wZ l _) (J (aX ..)<|J h.n<|fN)
  (λQ Z a=>Af h.jx Lh (jl b) (.inl ⟨rfl,rfl⟩) (λU a=>a) (.inr ⟨rfl,(aX ..).symm⟩) (b9 _) (aS _) (h.n▸fN) (by rwa [sL (b9 _)]) λc U k a=>by
   show k _;exact J (oi ..)<|J (CF ..)<|a) (J (IG ..)<|a)
variable(c7:x.1<=x.2)
include c7
def ace(b:W[m]?=some (.lst (l.map bV))) (a:Q .none (W.set m (.lst ((inR l x).map bV)))):aB (n+3) 47 [.loc m,bV x] [("key",.g 409)] W Q Z:=
 acv (p:=(l.takeWhile<|n5 x).length) GS b (λU a=>a) (J (aX ..)<|wZ l _) (J (aX ..)<|J h.n<|fN) (λQ Z a=>CH c7 a)
  (λQ Z a=>ye h.HS Gd (jl b) (WT h) (λU a=>a) (.inr ⟨rfl,(aX ..).symm⟩) (b9 _) (aS _) (h.n▸fN) (by rwa [sL (b9 _)]) λc U k a=>by
   rw[Np];show k<|decide ((iO x:Int)<(iO c:Int));exact J (dec_lt ..)<|bH (CE ..)<|a) (J (IG ..)<|a)
def acb(b:W[m]?=some (.lst (l.map bV))) (a:Q .none (W.set m (.lst ((mC l x).map bV)))):aB (n+3) 65 [.loc m,bV x] [("key",.g 409)] W Q Z:=
 acu (p:=(l.takeWhile<|sD x).length) GS b (λU a=>a) (J (aX ..)<|wZ l _) (J (aX ..)<|J h.n<|fN) (λQ Z a=>CH c7 a)
  (λQ Z a=>Af h.jx Gd (jl b) (WT h) (λU a=>a) (.inr ⟨rfl,(aX ..).symm⟩) (b9 _) (aS _) (h.n▸fN) (by rwa [sL (b9 _)]) λc U k a=>by
   rw[Np];show k<|decide _;exact J (dec_lt ..)<|J (CF ..)<|a) (J (IG ..)<|a)
end
noncomputable def Gy(a:List (List Nat)):List a_:=a.map λb=>(0,b.headD 0)
def uR(a:List y):List y:=pick a none none<|some<|-1
def nv(a:List y):List y:=pick (uR a) none none<|some 2
def su(a:List y):List y:=pick (uR a) (some ((1:Nat):Int)) none<|some 2
def PA(a:List a_):Bool:=C3 ((su a).foldl inR<|(nv a).foldl mC []) a&&Nat.beq ((nv a).length+(su a).length) (H a)
def PB(c:List (List Nat))(d:List a_):Bool:=(b6 7).all λa=>(λb=>ia 1 b&&eqB (((c.zipIdx 0).filter λx=>x.1.contains a).map (·.2)) [b-1]) (d.takeWhile<|n5 (0,a)).length
def PC(b:List a_)(s:a_):Bool:=(b6<|H b+1).all λc=>(b6<|c+1).all λa=>[sD s,n5 s].all λd=>Nat.beq (q3 b d a c)<|a+(((b.drop a).take<|c-a).filter d).length
def PD(b:List (List Nat)):Bool:=(λa=>PA a&&(PB b a&&(PC a (a.getD (H a/2) (0,0))&&ia 1 (H a))))<|Gy b
noncomputable def allR(c:List (List Nat)->Bool)(d:Nat):List (List Nat)->Nat->Bool:=Nat.rec (λU U=>true)
 (λU e acc a=>(ia a 6||c acc)&&(b6<|7-a).all λb=>e (acc++[jn a<|b+1])<|a+(b+1)) d
def aac(b:L.flatten=[])(c:∀a∈L,a≠[]):L=[]:=by
 obtain _|⟨a,L⟩:=L
 .rfl
 exact aW (JH.mp b).1<|c _<|.head _
def ot(g)(d):∀acc a,allR g d acc a=true->7<a+d->a<=7->∀b,b.flatten=jn a (7-a)->(∀c∈b,c≠[])->g (acc++b)=true:=by
 induction d with
 |zero=>exactλU a U h f=>aW h<|bA.mpr f
 |succ d m=>
  intro acc a n h f b i j;obtain⟨g1,g2⟩:=(bl ..).mp (show(_&&(b6 _).all λe=>allR g d _ _)=true from n);obtain k|k:=pV a 7
  .obtain _|⟨c,b⟩:=b
   .have:=aZ EL i;rw[BH] at this;exact aW this.symm<|Nat.sub_ne_zero_of_lt k
   refine dm (hG.mp i.symm) λe l ao aA=>?_
   rw[hY] at aA;obtain _|e:=e
   .exact aW ao<|j _<|.head _
   have p:=Nat.add_le_of_le_sub' f l;have q:=m _ _ (dQ.mp g2 e<|fJ.mpr l) (bZ h<|J (gE ..)<|J (h_ d 1)<|j7 (j8 (fS 1 e) d) a) p b (by rw[anM];exact aA) λr s=>j r<|.tail _ s
   rwa [eT,<-ao] at q
  have t:=pU f k;subst t;rwa [aac i j,dR]
def akk(c:a.flatten=b6 7)(d:∀b∈a,b≠[]):PD a=true:=ot PD 8 [] 0 au av (b9 _) a (J c<|J QW rfl) d
def Mu(is):PD (ir is)=true:=akk (by
 unfold ir;exact J List.flatten_filter_not_isEmpty<|J (D5 ..) rfl) λa b=>(G6 is a b).1
def ajf(b):j3 b=(b.filter λa=>!a.isEmpty).map λa=>a.headD 0:=by
 induction b with
 |nil=>rfl
 |cons a b c=>
  have c:(b.map λa=>bif a.isEmpty then[] else[a.headD 0]).flatten=_:=c;show(bif a.isEmpty then[] else[a.headD 0])++(b.map λa=>bif a.isEmpty then[] else[a.headD 0]).flatten=_;rw[c,oE];cases a.isEmpty<;>rfl
def Gr(is):vQ is=.lst ((Gy (ir is)).map dH):=by
 unfold Gy ir;show D.lst ((j3 _).map λa=>.str [97+a])=_;exact J (ajf ..)<|J dM<|J dM rfl
noncomputable def V1(a:Nat):List Nat:=Rq (Fc none none (some<|-1) a).1 (Fc none none (some<|-1) a).2.1 (Fc none none (some<|-1) a).2.2
def ab8:(b6 8).all (λa=>eqB (V1 a) (b6 a).reverse)=true:=au
def pj(a:List y):(b6 (H a)).filterMap (a[·]?)=a:=by
 induction a with
 |nil=>rfl
 |cons x a b=>
  exact J gK<|J QX<|J tH<|J List.filterMap_map<|aZ _ b
def aib{a:List y}(b:H a<=7):uR a=a.reverse:=by
 show(V1<|H a).filterMap _=a.reverse;exact J (sr<|dQ.mp ab8 (H a)<|fJ.mpr<|oH b)<|J List.filterMap_reverse<|J (pj ..) rfl
def H7{a:List y}{b c st:Option Int}{x:y}(d:x∈pick a b c st):x∈a:=by
 exact aG (ve.mp d) λf U e=>(eU e)
def r7(b:bk a):H a<=7:=b.W5 (λU U=>b9 _)<|b9 _
def mZ(e:X)(b:b3)(c:List D)(d f:aN)(g:D):Prop:=∀(a:Ok D) (h:er),a g f->(e b).v c d a h
def ah'(i:mZ c a r d e (.lst xs))(j:mZ f a r e g (.lst b))(k:H xs+H b<=lim):mZ (aR .Add c f) a r d g (.lst (xs++b)):=λm h l=>i _ h<|j _ h ⟨k,l⟩
noncomputable abbrev nn(a:Nat):D:=.lst<|kG a .none
def OV(i:mZ d a r e f (nn b))(j:mZ g a r f h (nn c))(k:b+c<=lim):mZ (aR .Add d g) a r e h (nn (b+c)):=by
 have:=ah' i j<|by rwa [EN,EN]
 rwa [List.replicate_append_replicate] at this
def aen{d:Type}(j)(M:d->aN)(s:d->y->d)(e:Nat->d->Prop)(q:∀a,ok (M a))(xs:List y):∀b a acc {k},e b a->(∀x∈xs,∀b a acc k,e b a->b<N->H acc<lim->k (acc++[.none]) (M (s a x))->c acc (j x) (M a) k)
 ->(∀x∈xs,∀b a,e b a->e (b+1) (s a x))->b+H xs<=N->H acc+H xs<=lim->k (acc++kG (H xs) .none) (M<|xs.foldl s a)->o8 ok c (xs.map j) acc (M a) k:=by
 induction xs with
 |nil=>exactλb a acc k U U U U U l=>by rwa [rJ,hH,dR] at l
 |cons x xs r=>
  intro b a acc k m n p f g l;rw[gK] at f g;refine n x (.head _) b a acc _ m (bZ (tM<|jo _) f) (bZ (tM<|jo _) g) ⟨q _,?_⟩;refine r _ _ _ (p x (.head _) b a m) (λh i=>n h<|.tail _ i) (λh i=>p h<|.tail _ i) (J (gE ..)<|J (h_ 1 ..)<|f) (J bq<|J EO<|J (gE ..)<|J (h_ 1 ..)<|g) ?_;rwa [eT]
def Ir{e:X}{d:Type}(g)(M:d->aN)(s:d->y->d)(f:Nat->d->Prop){xs:List y}{c:d}(l:y->List D)(q:gQ b a bt r (M c) (xs.map g) ok)(t:∀c,ok (M c))(u:∀x∈xs,Cl bt is (g x) (clear cN r) (l x))(v:∀x∈xs,∀i c,f i c->i<N->mZ e a (l x) (M c) (M (s c x)) .none)(w:∀x∈xs,∀i c,f i c->f (i+1) (s c x))(z:f i c)(h:i+H xs<=N)(m:H xs<=lim):mZ (c5 false cN bt is b [] [] e) a r (M c) (M (xs.foldl s c)) (nn (H xs)):=λA G j=>
 q (λn ok B=>o8 ok _ n [] B λn E=>A _ E) cI
  (aen g M s f t xs i c [] z (λx p i c acc k F h m j=>u x p _<|v x p i c F h _ _ ⟨m,j⟩) w h (by rwa [rJ,i8]) j)
def Hy{s:X}{f:Bool}(g:aj (eu false z a b s) c r d (.lst e)):gQ (eu false z a b s) c f r d e yes:=λk h i=>g (λj l=>j0 l j k) h i
def Ii{s:X}{st:Option Int}(i:aj z cf r W b)(aU:bx W b=.lst c)(j:aj d cf r W e)(l:aj f cf r W g)(m:aj s cf r W a)(n:∀k,k lo->part (bx W e) k)(p:∀k,k h->part (bx W g) k)(q:∀k,k st->part (bx W a) k)(t:st≠some 0):aj (eu false z d f s) cf r W (.lst (pick c lo h st)):=sQ i j l m λk a=>by
 refine n _<|p _<|q _ ⟨t,?_⟩;unfold uO;rwa [aU]
def Yt(d:aj z cf r W a)(aU:bx W a=.lst b):aj (eu false z bM bM (gk (ah (.int 1)))) cf r W (.lst (uR b)):=Ii d aU iM iM (q7 bc) (λU c=>c) (λU c=>c) (λU c=>c) λe=>nomatch e
def aiG(a):qk (kK 3) (kG a .none) (kG a .none):=by
 induction a with
 |zero=>trivial
 |succ a b=>exact⟨aQ,b⟩
def ahd(f:aj z a r b (.int i))(g:aj c a r b (.int N))(h:i<1000)(j:N<1000):aj (aR .Mult z c) a r b (.int (i*N:Nat)):=jz f g λk l=>by
 have e:∀d:Nat,d<1000->jj d:=λd m=>⟨xd av<|kE d,nI.mpr<|fF m av⟩
 exact⟨e i h,e N j,l⟩
def ahg(e:aj a b r c (.int i))(d:i<1000):aj (aR .Mult (b8 false [bM]) a) b r c (nn i):=jz (jW<|eg iM) e λk f=>by
 refine⟨⟨xd av<|kE i,nI.mpr<|fF d av⟩,?_,?_⟩
 .show 1*i<=lim;exact J (Q4 ..)<|az (bF d) aH
 rwa [List.flatten_replicate_singleton]
abbrev k_(is:List Int)(a b c:List a_):aN:=m7 is (a.map bV) (b.map bV) (c.map dH) []
abbrev cz(is:List Int):List a_:=Gy<|ir is
def Tt(is):∀x∈cz is,x.1<=x.2:=λx a=>by
 refine aG (fC.mp a) λc U b=>?_;subst b
 exact b9 _
def Gl(is):(cz is).length=(ir is).length:=aX _
def uQ(is):(ir is).length<=40:=az (EM _ _)<|bF (yR is).n
def Ol:aj (af 31) a (aY (gA is)) b (.lst ((fL is).map bV)):=aq
def ali:(m7 is d a b c).set 9 (.lst xs)=m7 is xs a b c:=by
 have:=wM (bK:=m6 is) (R:=[.lst d,.lst a,.lst b,.lst c]) (j:=0) (o:=.lst xs);rwa [Bx] at this
def alg:(m7 is a d b c).set 10 (.lst xs)=m7 is a xs b c:=by
 have:=wM (bK:=m6 is) (R:=[.lst a,.lst d,.lst b,.lst c]) (j:=1) (o:=.lst xs);rwa [Bx] at this
def d5:(m7 is a b d c).set 11 (.lst xs)=m7 is a b xs c:=by
 have:=wM (bK:=m6 is) (R:=[.lst a,.lst b,.lst d,.lst c]) (j:=2) (o:=.lst xs);rwa [Bx] at this
def w7(e:([.lst a,.lst b,.lst c,.lst d]:aN)[j]?=some o):(m7 is a b c d)[9+j]?=some o:=by
 have:=Ae (bK:=m6 is) e;rwa [Bx] at this
def Mi:65<1000/\gU.lookup 65=none/\je.contains 65=true:=⟨av,au,au⟩
def Oj:aj (af 21) a (aY (gA is)) b (.lst ((cz is).map dH)):=by
 exact bH (Gr ..)<|aq
def G3(is):∀x∈fL is,x.1<=x.2:=λx a=>((qI is).w x a).1
def ah7:mZ g1 (aB (n+4)) (aY (gA is)) (k_ is [] a b) (k_ is (j4 (fL is)) a b) (nn (fL is).length):=by
 have g:=r7<|qI is;refine Ir (N:=50) bV (λd=>k_ is d a b) inR ja (λx=>(aY _).set 15 _) (kr Ol) (λU=>aQ) (λU U U c=>c) (λx e h d f i k l c=>?_) (λx e h d f=>f.inR<|G3 is x e) Ja (J (i8 ..)<|az g<|by decide)<|az g<|fE rfl;exact rB GU (c_ (bN λU c=>c) (bN λU c=>c)) (eg bc)<|ace f (fF i<|by decide) (G3 is x e) (w7 (j:=0) rfl)<|ali▸c
def ah8:mZ g2 (aB (c+4)) (aY (gA is)) (k_ is a [] b) (k_ is a (L4 (fL is)) b) (nn (fL is).length):=by
 have f:=r7<|qI is;have k:=by
  have:=Yt (cf:=aB<|c+4) (W:=k_ is a [] b) (Ol (is:=is)) rfl;have e:uR _=(uR<|fL is).map bV:=wj bV _ _ _ _;rw[e,aib f] at this;exact this
 have:=Ir (N:=50) (cN:=[15]) (bt:=false) (is:=[15]) (e:=aP _ [(af 33),(af 15)] [_] ["key"]) bV (λi=>k_ is a i b) mC ja (λx=>(aY _).set 15 _) (Hy k) (λU=>aQ) (λU U U d=>d) (λx g l i h m n p d=>by
  exact rB Mi (c_ (bN λU d=>d) (bN λU d=>d)) (eg bc) (acb h (fF m (by decide)) (G3 is x (hE.mp g)) (w7 (j:=1) rfl) (alg▸d))) (λx g l a h=>h.mC (G3 is x (hE.mp g))) Ja (J (i8 ..)<|J xu<|az f (by decide)) (xu.symm▸az f (fE rfl))
 rwa [xu] at this
def XW:aj OX cf (aY (gA is)) W (.lst ((uR (cz is)).map dH)):=by
 have:=Yt (cf:=cf) (W:=W) (Oj (is:=is)) rfl;have e:uR _=(uR<|cz is).map dH:=wj dH _ _ _ _;rwa [e] at this
def Gw(is):(nv (cz is)).length+(su (cz is)).length=(ir is).length:=by
 have a:=Mu is;exact(EV ((bl ..).mp<|((bl ..).mp a).1).2).trans (Gl is)
def TU(is):(su (cz is)).foldl inR ((nv (cz is)).foldl mC [])=cz is:=by
 have a:=Mu is;exact Mh ((bl ..).mp<|((bl ..).mp a).1).1
def XH(x)(a:x∈nv (cz is)):x.1<=x.2:=Tt is x<|H7<|H7 a
def U3(x)(a:x∈su (cz is)):x.1<=x.2:=Tt is x<|H7<|H7 a
def dE{l:List a_}(e:∀x∈l,∀a b,ja a b->ja (a+1) (c b x)):∀a b,ja a b->ja (a+H l) (l.foldl c b):=by
 induction l with
 |nil=>exactλa b d=>d
 |cons x l f=>
  intro a b d;have:=f (λg h=>e g<|.tail _ h) _ _<|e x (.head _) a b d;rwa [pT] at this
def XG(is):(nv (cz is)).length<=40:=az (cZ _ _)<|az (di<|Gw is)<|uQ is
def U1(is):(su (cz is)).length<=40:=az (fS _ _)<|az (di<|Gw is)<|uQ is
def dT(is):ja (nv (cz is)).length ((nv (cz is)).foldl mC []):=by
 have:=dE (l:=nv<|cz is) (λx a c d b=>b.mC<|XH x a) 0 [] Ja;rwa [i8] at this
def ah9:mZ g3 (aB (b+4)) (aY (gA is)) (k_ is a d []) (k_ is a d ((nv (cz is)).foldl mC [])) (nn (nv (cz is)).length):=by
 have k:=by
  have:=Ii (cf:=aB<|b+4) (W:=k_ is a d []) (XW (is:=is)) rfl iM iM (bc (d:=.int 2)) (λU c=>c) (λU c=>c) (λU c=>c) λl=>nomatch l
  have e:pick _ none none _=(nv<|cz is).map dH:=wj dH _ _ _ _;rw[e] at this;exact this
 have g:=XG is;exact Ir (N:=50) dH (λh=>k_ is a d h) mC ja (λx=>(aY _).set 6 _) (Hy k) (λU=>aQ) (λU U U c=>c) (λx i m h f n p q c=>by
  exact rB Mi (c_ (bN λU c=>c) (bN λU c=>c)) cO (aca f (fF n (by decide)) (w7 (j:=2) rfl) (d5▸c))) (λx i m a f=>f.mC (XH x i)) Ja (J (i8 ..)<|az g (by decide)) (az g (fE rfl))
def ah_:mZ jI (aB (b+4)) (aY (gA is)) (k_ is a d ((nv (cz is)).foldl mC [])) (k_ is a d (cz is)) (nn (su (cz is)).length):=by
 have i:=by
  have:=Ii (cf:=aB<|b+4) (W:=k_ is a d<|(nv<|cz is).foldl mC []) (lo:=some (1:Nat)) (XW (is:=is)) rfl (bc (d:=.int 1)) iM (bc (d:=.int 2)) (λU c=>c) (λU c=>c) (λU c=>c) λk=>nomatch k
  have e:pick _ _ none _=(su<|cz is).map dH:=wj dH _ _ _ _;rw[e] at this;exact this
 have:=Ir (N:=50) (cN:=[6]) (bt:=false) (is:=[6]) (e:=aP _ [(af 34),(af 6)] [] []) dH (λg=>k_ is a d g) inR ja (λx=>(aY _).set 6 _) (Hy i) (λU=>aQ) (λU U U c=>c) (λx h l g f m n p c=>by
  exact rB GU (c_ (bN λU c=>c) (bN λU c=>c)) cO (acd f (fF m (by decide)) (w7 (j:=2) rfl) (d5▸c))) (λx h l a f=>f.inR (U3 x h)) (dT is) (J (Gw ..)<|az (uQ is) (by decide)) (az (U1 is) (fE rfl))
 rwa [TU] at this
def HY(a:aj (af 25) cf r W (.lst ((nE is).map bU))):aj (aT (af 25) (ah (.int 2))) cf r W (bU (fL is)):=uL a (λU U b=>b) rfl (by
 exact J d8<|J (getD_at (by rw[Ew];decide)) rfl)
def So(e:X)(a:b3)(b:List D)(c d:aN)(f:Bool):Prop:=∀(k:Bool->aN->Prop) (g:er),k f d->(e a).t b c k g
def ah6(h:mZ c b r d a x)(i:aj z b r a e)(j:∀k,k f->jt o a x e k):So (bh o c z) b r d a f:=λk g l=>h _ g<|i _ g<|j _ l
def ain(i:So d a r e c false)(k:dz z a r c false)(l:dz f a r c false)(m:br g a r c h b):bX (p_ [d,z,f]) j g a r e h b:=i _ b<|k _ b<|l _ b m
def agr:aj YU cf (aY (gA is)) W (nn (2*(fL is).length+(ir is).length)):=by
 have b:=r7<|qI is;have c:=by
  have:=sO (HY (cf:=cf) (W:=W) (r:=aY<|gA is) aq) rfl;rw[aX] at this;exact this
 have d:=by
  have:=sO (cf:=cf) (W:=W) (r:=aY<|gA is) (e:=af 23) aq rfl;rw[aX] at this;exact this
 exact ahg (uJ (ahd (λU U a=>a) c av<|bz b av) d)<|bz (d9 (EZ 2 b)<|uQ is) av
def Pb(b:List a_)(c:a_->List Nat):qk (kK 3) (b.map λa=>.str (c a)) (b.map λa=>.str (c a)):=by
 induction b with
 |nil=>trivial
 |cons a b d=>exact⟨aQ,d⟩
def C4(d:res b x=a)(e:res b c=a)(f:kK 4 a a)(k)(g:k true):jt .Eq b x c k:=by
 show kK 4 _ _/\_;exact J d<|J e<|⟨f,λU=>g,λh=>aW rfl h⟩
def akS(j:aj d b r a x)(l:aj z b r a c)(m:aj e b r a f)(n:∀k,k true->jt o a x c k)(p:∀k,k g->jt h a c f k):dz (UP o h d z e) b r a g:=λk i q=>j _ i<|l _ i<|n _<|m _ i<|p _ q
def adi{g:List a_}(h:∀a∈g,∀c d,c (.int (e a)) b->f [bV a] [] b c d)(i:k (g.map e) b):AK f (g.map bV) b k:=by
 induction g generalizing k with
 |nil=>exact i
 |cons a g j=>exact h a (.head _) _ _<|j (λa l=>h a<|.tail _ l) i
def ahu(d:bk a)(h:aj z (aB (b+1)) r c (.lst (a.map bV))):aj (aP (ah (.g 1008)) [z] [(ah (.g 409))] ["key"]) (aB (b+1)) r c (.lst ((j4 a).map bV)):=λi f e=>h _ f (by
 refine⟨rfl,av,?_,adi (λj k i f e=>CH (d.w j k).1 e) ?_⟩
 .exact J (aX ..)<|az (r7 d) av
 exact ai1 (Z0 d).2 e)
def Nd{e:Bool}(f:aj (aT z a) b r c (.lst d)):gQ (aT z a) b e r c d yes:=λk g h=>f (λi j=>j0 j i k) g h
def agi:aj Ui a (aY (gA is)) b (.lst ((fL is).map bV)):=by
 have f:=qI is;refine jA _ fV bV (λd=>((aY _).set 28 _).set 29 _) (Nd<|HY aq) trivial (λU U U c=>c) (λd g=>?_)<|az (r7 f) aH;have e:=f.w d g;have h:aj (af 28) a (((aY<|gA is).set 28<|.int d.1).set 29<|.int d.2) b _:=aq;have i:aj (af 29) a (((aY<|gA is).set 28<|.int d.1).set 29<|.int d.2) b _:=aq;exact sM (wm h<|bz e.1 e.2) (wm i e.2) aH
def agf:aj TS cf (aY (gA is)) W (.lst ((cz is).map dH)):=by
 have:=jA (cf:=cf) (W:=W) (cN:=[24]) (bt:=false) (is:=[24]) _ gf (λa=>.str [97+a.headD 0]) (λa=>(aY _).set 24 _) (kr (i:=23) (r:=aY (gA is)) aq) trivial (λU U U b=>b) (e:=qL (aT (af 24) _)) (λa c=>by
  refine iT (G6 is a c) λd f U=>(aG (OQ d) λg ao U=>?_)
  refine wm (Ic (l:=g.map λi=>.int (i:Nat)) aq ?_)<|f _<|ao▸.head _;have:=aZ (List.map λi:Nat=>D.int i) ao;exact aZ cT.lst this) (az (uQ is) aH)
 have e:(ir is).map (λa=>D.str [97+a.headD 0])=(cz is).map dH:=by
  show _=((ir is).map λa=>_).map dH;exact J dM rfl
 rwa [e] at this
def adv(d:gD (gS.drop 17) (aB (n+4)) (aY (gA is)) (k_ is (j4 (fL is)) (j4 (fL is)) (cz is)) a c):gD (gS.drop 16) (aB (n+4)) (aY (gA is)) (m7 is [] [] [] []) a c:=by
 have e:=(Z0<|qI is).1;refine jL (ain (by
  have g:=r7<|qI is;have q:=uQ is;have l:=Gw is;have dj:=d9 g g;have dh:=d9 dj<|XG is;have ND:=d9 dh<|U1 is;have m:=OV (ah7 (n:=n) (b:=[])) ah8<|az dj aH;have h:=OV (OV m ah9<|az dh aH) ah_<|az ND aH;rw[gE,l,<-anU] at h;exact ah6 h agr (AS rfl rfl (aiG _))) ?_ ?_ (dZ ?_))
 .exact J e<|by
   have p:res (k_ is (j4<|fL is) (j4<|fL is)<|cz is) _=.lst _:=yO<|w7 (j:=0) rfl;have i:res (k_ is (j4<|fL is) (j4<|fL is)<|cz is) _=.lst _:=yO<|w7 (j:=1) rfl;have k:=Pb (j4<|fL is) λf=>[97+f.1,97+f.2]
   exact df (t:=true)<|akS (bN λU d=>d) (bN λU d=>d) (ahu (qI is) agi) (C4 p i k)<|C4 i rfl k
 .exact iY (bN λU d=>d) agf<|AS (yO<|w7 (j:=2) rfl) rfl (Pb _ λf=>[97+iO f])
 rwa [e]
def PE(is):PA (cz is)=true/\PB (ir is) (cz is)=true/\PC (cz is) ((cz is).getD ((cz is).length/2) (0,0))=true/\ia 1 (cz is).length=true:=by
 have a:=Mu is;have a:(PA (cz is)&&(PB (ir is) (cz is)&&(PC (cz is) ((cz is).getD ((cz is).length/2) (0,0))&&ia 1 (cz is).length)))=true:=a;rwa [bl,bl,bl] at a
def a8(is)(c:a<7):1<=((cz is).takeWhile (n5 (0,a))).length/\(((ir is).zipIdx 0).filter λx=>x.1.contains a).map (·.2)=[((cz is).takeWhile (n5 (0,a))).length-1]:=by
 have b:=(PE is).2.1;have b:=dQ.mp b a<|fJ.mpr c;generalize ((cz is).takeWhile _).length=f at b;obtain⟨d,e⟩:=(bl ..).mp b;exact⟨fE d,sr e⟩
def af9:aj (af 31) a ((aY (gA is)).set 6 b) c (.lst ((fL is).map bV)):=aq
def aer(b d c):strLt [b,d] [c]=decide (b<c):=by
 refine decide_eq_decide.mpr ⟨λa=>?_,λa=>hi a⟩;cases a with
 |rel a=>exact a
 |cons a=>contradiction
def Ly(is:List Int)(a:Nat):Nat:=((cz is).takeWhile<|n5 (0,a)).length
def dC(is):ja ((nv (cz is)).length+(su (cz is)).length) (cz is):=by
 have:=dE (l:=su<|cz is) (λx a c d b=>b.inR<|U3 x a) _ _<|dT is;rwa [TU] at this
def yd(is):(cz is).length<60:=by
 exact J (Gl ..)<|bz (uQ is) av
def XB(c:bk a)(b):(a.filter (vP b)).length=bu a b:=by
 have d:=c.cJ b;unfold bu;clear c;induction a with
 |nil=>rfl
 |cons x a f=>
  obtain⟨g,h⟩:=rK.mp d;rw[oE,JS];rcases e:vP b x with _|_
  .exact J (QL.mpr λi j k=>by rw[g i j k] at e;cases e) rfl
  exact aZ (· +1)<|f h
def aci(b:Nat)(c:List Nat):decide ((b:Int)∈c.map λa=>((a:Nat):Int))=c.contains b:=by
 rcases d:c.contains b with _|_
 .refine eS λf=>(aG (fC.mp f) λa g e=>?_)
  rw[<-Int.ofNat.inj e,nK.mpr g] at d;contradiction
 exact gb<|fC.mpr ⟨b,nK.mp d,rfl⟩
def akK(e:aj d a r b (.int i))(f:aj z a r b (gf c)):dz (bh .In d z) a r b (c.contains i):=iY e f λk g=>by
 refine⟨c.map λh=>_,J dM rfl,?_⟩;rwa [aci]
noncomputable abbrev lu(a:List Nat):List D:=a.map λb=>.int (b:Nat)
def aiF(a):qk (kK 3) (lu a) (lu a):=by
 induction a with
 |nil=>trivial
 |cons c a b=>exact⟨aQ,b⟩
def aU(is:List Int):List Nat:=(fL is).map λa=>Ly is a.1-1
def eK(is:List Int):List Nat:=(cz is).map λa=>bu (fL is)<|iO a
def agl:aj Wz (aB (a+4)) (aY (gA is)) b (.lst (lu (aU is))):=by
 have f:=qI is;have:=jA (cN:=[15]) (bt:=false) (is:=[15]) _ bV (λd=>.int (Ly is d.1-1:Nat)) (λx=>(aY _).set 15 _) (kr Ol) trivial (λU U U c=>c) (e:=aR .Sub (aP _ [_,_] [] []) _) (λd h=>by
  have g:=f.w d h;have i:aj (af 15) (aB<|a+4) ((aY<|gA is).set 15<|bV d) b _:=aq;have Ik:aj (af 21) (aB<|a+4) ((aY<|gA is).set 15<|bV d) b (.lst<|(cz is).map dH):=by
   exact bH (Gr ..)<|aq
  refine sP (pB um (c_ Ik<|uI i) cO λl m c=>?_) (a8 is<|bz g.1 g.2).1;exact ye (dC is).HS S9 rfl (.inl ⟨rfl,rfl⟩) (λU c=>c) (.inr ⟨rfl,(aX ..).symm⟩) (b9 _) (aS _) (yd is) (by rwa [sL<|b9 _]) λj U k c=>by
   show k _;rw[oi];have:=CE (iO j) d.1;rwa [<-this]) (az (r7 f) aH)
 have e:(fL is).map (λd=>D.int (Ly is d.1-1:Nat))=lu (aU is):=by unfold aU lu;exact J dM rfl
 rwa [e] at this
def aad{b:List a_}{c:a_->List y}{g':a_->y}(d:∀a∈b,c a=[g' a]):b.flatMap c=b.map g':=by
 induction b with
 |nil=>rfl
 |cons a b e=>
  exact J xo<|J (d a<|.head _)<|J (e λf g=>d f<|.tail _ g) rfl
def agm{S:iC}(f:bk b)(g:∀a∈b,(((L.zipIdx 0).filter λx=>x.1.contains a.1).map (·.2))=[c a])(h:aj (aT (af 25) (ah (.int 2))) cf (aY {S with nG:=.lst (L.map gf)}) W (bU b)):aj WB cf (aY {S with nG:=.lst (L.map gf)}) W (.lst (lu (b.map c))):=by
 have ao:(b.flatMap λa=>((L.zipIdx 0).filter λx=>x.1.contains a.1).map λx=>D.int x.2)=lu (b.map c):=by
  rw[aad (g':=λa=>D.int _) λa i=>?_]
  .unfold lu;exact J dM rfl
  have:=aZ (List.map λj:Nat=>D.int j) (g a i);rwa [dM] at this
 have:=yL (cN:=[4,24,28,29]) (b1:=true) (AF:=[28,29]) (AG:=[4,24]) (ifs:=[bh .In (af 28)<|af 24]) (e:=af 4) (Dn:=aP _ [af 23] [] []) b (λU=>L.zipIdx 0) fV (λx=>.tup [.int _,gf x.1]) (λa x=>x.1.contains a.1) (λU x=>.int _)
  (λa=>((aY {S with nG:=.lst _}).set 28 _).set 29 _) (λa x=>((((aY {S with nG:=.lst _}).set 28 _).set 29 _).set 4 _).set 24 _) (Nd h) trivial (λU U U d=>d) (λa U=>Nc aq) trivial (λU U U U U d=>d)
  (λa U x U=>lV (akK aq aq)) (λa U x U U=>aq) (by
   rw[ao];exact J (aX ..)<|J (aX ..)<|az (r7 f) aH)
 rwa [ao] at this
def agn{S:iC}(f:bk b)(g:∀a∈L,a≠[])(h:H L<=40)(j:∀a,aj (aT (af 25) (ah (.int 2))) cf ((aY {S with nG:=.lst (L.map gf)}).set 24 (gf a)) W (bU b)):aj WC cf (aY {S with nG:=.lst (L.map gf)}) W (.lst (lu (L.map λa=>bu b (a.headD 0)))):=by
 have:=jA (cN:=[24]) (bt:=false) (is:=[24]) L gf (λa=>.int _) (λa=>(aY {S with nG:=.lst _}).set 24 _) (kr (i:=23) (r:=aY {S with nG:=.lst (L.map gf)}) aq) trivial (λU U U c=>c) (λa k=>by
  refine aG (OQ<|g a k) λl ao U=>?_
  have c:=wo (cN:=[28,29]) (bt:=true) (is:=[28,29]) (ifs:=[(bh .Lt (af 28) (aT (af 24) _))]) (e:=af 28) b fV (vP _) (λd=>.int d.1) (λd=>(((aY {S with nG:=.lst _}).set 24 _).set 28 _).set 29 _) (Nd (j a)) trivial (λU U U c=>c) (λd U=>lV (wX aq (Ic aq (by
   have:=aZ (List.map λi:Nat=>D.int i) ao;exact aZ cT.lst this)))) (λd U U=>aq) (az (r7 f) aH)
  have:=sO c rfl;rwa [aX,XB f] at this) (az h aH)
 have e:L.map (λa=>D.int<|bu b<|a.headD 0)=lu (L.map λa=>bu b<|a.headD 0):=by unfold lu;exact J dM rfl
 rwa [e] at this
def V0(a):(lu a).length=H a:=aX _
def Yh(e:aj z a r b (.lst (lu xs)))(f:aj d a r b (.lst (lu c)))(dj:H xs<=60)(dh:H c<=60):aj (aR .Add z d) a r b (.lst (lu (xs++c))):=by
 have:=wk e f<|J (V0 ..)<|J (V0 ..)<|az (d9 dj dh) aH;unfold lu at this⊢;rwa [dS]
def adw(d:gD (gS.drop 18) (aB (a+4)) (aY (gA is)) W c b):gD (gS.drop 17) (aB (a+4)) (aY (gA is)) W c b:=by
 have f:=qI is;have j:(aU is).length<=60:=by unfold aU;exact J (aX ..)<|az (r7 f) av
 have i:(eK is).length<=60:=by unfold eK;exact J (aX ..)<|bF<|yd is
 have aA:((ir is).map λh=>bu (fL is)<|h.headD 0)=eK is:=by
  show _=((ir is).map λh=>_).map λg=>bu _ _
  exact J dM rfl
 have p:=agm (cf:=aB<|a+4) (W:=W) (S:=gA is) f (λl m=>(a8 is<|bz (f.w l m).1 (f.w l m).2).2)<|HY (bN λU d=>d);have fV:=agn (cf:=aB<|a+4) (W:=W) (S:=gA is) f (λh q=>(G6 is h q).1) (uQ is) λh=>HY (bN λU d=>d)
 rw[aA] at fV;exact jL (ek (iY (Yh agl (by
  have f:=qI is;have:=jA (cN:=[6]) (bt:=false) (is:=[6]) _ dH (λg=>.int (bu _ _:Nat)) (λx=>(aY _).set 6 _) (kr Oj) trivial (λU U U d=>d) (e:=aP _ [_,(af 6)] [] []) (λg i=>by
   have r:aj _ (aB<|a+4) ((aY<|gA is).set 6<|dH g) W _:=af9;exact pB vY (c_ r (bN λU d=>d)) cO λs b d=>Af (f.cJ _) S9 rfl (.inl ⟨rfl,rfl⟩) (λU d=>d) (.inr ⟨rfl,(aX ..).symm⟩) (b9 _) (aS _) f.g5 (J (sL<|b9 _)<|d) λn U k d=>by
    show k _;rw[aer];have e:decide (97+n.1<97+iO g)=vP _ n:=decide_eq_decide.mpr anz;rwa [e]) (az (bF (yd is)) aH)
  have e:(cz is).map (λg=>D.int<|bu (fL is)<|iO g)=lu (eK is):=by unfold eK lu;rw[dM];rfl
  rwa [e] at this) j i) (Yh p fV j i) (AS rfl rfl (aiF _))) (dZ d))
def Bj(is:List Int):a_:=(cz is).getD ((cz is).length/2) (0,0)
noncomputable def DG:List Nat:=[10,0,31,127,13]
def q1(is:List Int):Nat:=DG.getD (jr is 7/180%5) 0
abbrev iJ(is:List Int)(a b c:D):iC:=⟨.lst<|is.map .int,gV<|cells is,bD<|fi is,dH<|Bj is,bD<|dW is,bD<|lq is,.int<|jK is,.int<|nk is,.str<|jx is,.loc 1,.str<|q2 is,bD<|nD is,.lst<|(dP is).map gp,jX (iw is).laid,.loc 4,vQ is,.loc 7,.lst<|(ir is).map gf,.lst<|(nE is).map bU,.loc 8,Mk is,.loc 9,.loc 10,.loc 11,.loc 12,.o 0 0 ((cz is).length+1:Nat) 1,.str [q1 is],a,b,c⟩
def afs(is):(DG.map λa=>D.int (a:Nat))[jr is 7/180%5]?=some (.int (q1 is:Nat)):=by
 exact J d8<|J (getD_at (l5 _ av:jr is 7/180%5<H DG)) rfl
def afu(is):q1 is<128:=by
 have a:jr is 7/180%5<5:=l5 _ av;unfold q1;generalize jr is 7/180%5=b at a;match b,a with
 |0,_=>exact aH
 |1,_=>exact aH
 |2,_=>exact aH
 |3,_=>exact aH
 |4,_=>exact aH
def ahn(c:aj z a r b (.int N))(d:N<1000):aj (aP (ah (.g 1012)) [z] [] []) a r b (.o 0 0 N 1):=λh e f=>c _ e ⟨uV d,f⟩
def ago(c:aj (af 23) a r b (.lst ((ir is).map gf))):aj (aP (ah (.g 1000)) [af 23] [] []) a r b (.int (cz is).length):=by
 have:=sO c rfl;rwa [aX,<-Gl] at this
def afU:eO [aP (ah (.g 1012)) [aR .Add (aP (ah (.g 1000)) [af 23] [] []) (ah (.int 1))] [] [],aT (af 21) (aR .FloorDiv (aP (ah (.g 1000)) [af 23] [] []) (ah (.int 2))),aP (ah (.g 1002)) [aT (eF [ah (.int 10),ah (.int 0),ah (.int 31),ah (.int 127),ah (.int 13)]) (aR .Mod (aR .FloorDiv (aT (af 1) (ah (.int 7))) (ah (.int 180))) (ah (.int 5)))] [] []] a (aY (gA is)) b [.o 0 0 ((cz is).length+1:Nat) 1,dH (Bj is),.str [q1 is]]:=by
 have d:aj _ a (aY<|gA is) b _:=ago aq;have e:aj Ai a (aY<|gA is) b _:=Oz (S:=gA is) av λU U c=>c
 refine wA (ahn (uJ d λU U c=>c) ?_) (uL Oj (q4 d (λU U c=>c) av av) rfl (by
  rw[d8,getD_at<|Nat.div_lt_self (fE (PE is).2.2.2) av]
  rfl)) (DR (DU (jB (dD bc (dD bc (dD bc (c_ bc bc))))) (uM (q4 e (λU U c=>c) av av) (λU U c=>c) av) (afs is)) (afu is))
 exact bz (yd is) av
def adx(e:gD (gS.drop 19) b (aY (iJ is .ai .ai .ai)) c d a):gD (gS.drop 18) b (aY (gA is)) c d a:=jL<|IA<|afU _ a e
def a9(is)(d:a<=b)(e:b<=(cz is).length)(f:c∈[sD (Bj is),n5 (Bj is)]):q3 (cz is) c a b=a+((((cz is).drop a).take (b-a)).filter c).length:=by
 exact EV<|dQ.mp (dQ.mp (dQ.mp ((PE is).2.2.1) b<|fJ.mpr<|oH e) a<|fJ.mpr<|oH d) c f
def T9(b s:a_)(k)(c:k (sD s b)):jt .Lt a (dH b) (dH s) k:=by
 show k _;rwa [oi,CF]
def yB(b s:a_)(k)(c:k (n5 s b)):jt .LtE a (dH b) (dH s) k:=by
 show k<|!strLt [97+iO s] [97+iO b];rwa [oi,<-CE,fg]
def XX{d:List a_}(o)(h:∀a k,k (b a)->jt o W (dH a) x k)(j:aj (af 21) cf r W (.lst (d.map dH)))(f:aj (af 38) cf r W (.int i))(l:aj (af 39) cf r W (.int N))(m:i<=H d)(n:N<=H d)(p:H d<60)(q:∀c,aj (af 6) cf (r.set 41 c) W x)(g:∀a,aj (af 41) cf (r.set 41 (dH a)) W (dH a))(s:∀a,Cl false [41] (dH a) (clear [41] r) (r.set 41 (dH a))):aj (Ec o) cf r W (.int (i+(((d.drop i).take (N-i)).filter b).length:Nat)):=by
 have t:=wo _ dH b dH (λa=>r.set 41 _) (Hy (by
  have:=Ii j rfl f l iM (λU b=>b) (λU b=>b) (λU b=>b) λu=>nomatch u
  have e:pick _ _ (some (N:Int)) none=(pick d (some (i:Int)) _ none).map dH:=wj dH _ _ _ _;rwa [e,X5 m n] at this)) trivial (λa U=>s a) (λa U=>lV (iY (g a) (q _) (h a))) (λa U U=>g a) (az (az (JM ..) (az (di xr) (l6 _ _))) (az (bF p) aH))
 have:=sO t rfl;rw[aX] at this;exact uJ f this
noncomputable def Nu(a:Bool):D:=bif a then .g 395 else .none
noncomputable def Vf(a:Bool):D:=bif a then .g 56 else .g 74
def ta(c)(d:List a_):∃b,xS (n+1) (Nu c) b (d.map dH)/\∀a,b (dH a)=dH a:=by
 obtain _|_:=c
 .exact⟨id,.inl ⟨rfl,rfl⟩,λa=>rfl⟩
 exact⟨WA,Nv λU e=>(nomatch e),λa=>rfl⟩
def agh{s:a_}(h:ja e b)(i:H b<60)(j g)(l:d<=c)(m:c<=H b)(p:aj (af 42) (aB (n+2)) r a (Vf g))(x:aj (af 21) (aB (n+2)) r a (.lst (b.map dH)))(y:aj (af 6) (aB (n+2)) r a (dH s))(z:aj (af 38) (aB (n+2)) r a (.int d))(A:aj (af 39) (aB (n+2)) r a (.int c))(q:aj (af 43) (aB (n+2)) r a (Nu j)):
 aj (aP (af 42) [af 21,af 6,af 38,af 39] [af 43] ["key"]) (aB<|n+2) r a (.int (q3 b (bif g then n5 s else sD s) d c:Nat)):=by
 refine aG (ta (n:=n) j b) λE t u=>?_
 have v:=dD x<|dD y<|c_ z A;obtain _|_:=g
 .exact A6 p v (eg q) (λk f=>⟨vY.2.2,f⟩) λB D f=>Af h.jx Gd rfl t (λU f=>f) (.inl rfl) l m i f λw U k f=>by
   exact J (u ..)<|T9 w s k f
 exact A6 p v (eg q) (λk f=>⟨um.2.2,f⟩) λB D f=>ye h.HS Gd rfl t (λU f=>f) (.inl rfl) l m i f λw U k f=>by
  rw[u];show k _;rwa [oi,<-CE]
def Wu{e:Bool}(f:eO a b r c d):gQ (eF a) b e r c d yes:=λk g h=>jB f (λi j=>j0 j i k) g h
def acJ{d:Bool}(e:aj (af i) a r b (.o 0 0 N 1))(c:N<1000):gQ (af i) a d r b ((b6 N).map λi=>.int (i:Nat)) yes:=λk f j=>e (λg h=>j0 h g k) f (by
 have ao:A9 0 N 1=(b6 N).map λi=>.int i:=by
  show(b6 ((N:Int)-0).toNat).map (λ(k:Nat)=>D.int _)=_;exact J (amY ..)<|qu λi U=>aZ D.int<|JG _
 refine⟨⟨av,av⟩,uV c,.inl rfl,?_,?_⟩
 .exact J ao<|J (aX ..)<|J kF<|az (bF c) aH
 rwa [ao])
def Ik{y}:aj (af 21) a (aY (iJ is x y d)) b (.lst ((cz is).map dH)):=by
 exact bH (Gr ..)<|aq
abbrev pc(is:List Int)(a b:Nat)(c:Bool):D:=.int (q3 (cz is) (bif c then n5 (Bj is) else sD<|Bj is) a b:Nat)
def agg(g:b<=a)(h:a<=(cz is).length):aj Lz (aB (n+4)) (aY (iJ is (.int b) (.int a) c)) W (.lst [pc is b a false,pc is b a true,pc is b a false,pc is b a true]):=by
 have:=yL (W:=W) (r:=aY _) (cN:=[42,43]) (b1:=false) (b2:=false) (AF:=[43]) (AG:=[42]) [false,true] (λU=>[false,true]) Nu Vf (λU U=>true) (λU e=>pc is b a e)
  (λf=>(aY _).set 43 _) (λf e=>((aY (iJ is (.int b) (.int a) c)).set 43 _).set 42 _) (Wu (c_ iM bc)) trivial (λU U U d=>d) (λU U=>Wu (c_ bc bc)) trivial (λU U U U U d=>d) (λU U U U=>Bu) (λf U e U U=>by
   exact agh (n:=n+2) (dC is) (yd is) f e g h (bN λk d=>by cases e<;>exact d) (by
    exact bH (Gr ..)<|aq) aq aq aq (bN λk d=>by cases f<;>exact d)) aH
 exact this
def ags(f:b<=a)(e:a<=(cz is).length):eO [Ec .Lt,Ec .LtE] cf (aY (iJ is (.int b) (.int a) d)) W [pc is b a false,pc is b a true]:=by
 have h:=az f e;have i:=XX (cf:=cf) (W:=W) .Lt (λg k c=>T9 g _ k c) (Ik (x:=.int b) (y:=.int a) (d:=d)) aq aq h e (yd is) (λU=>aq) (λU=>aq) λU U c=>c
 have j:=XX (cf:=cf) (W:=W) .LtE (λg k c=>yB g _ k c) (Ik (x:=.int b) (y:=.int a) (d:=d)) aq aq h e (yd is) (λU=>aq) (λU=>aq) λU U c=>c
 rw[<-a9 is f e<|.head _] at i;rw[<-a9 is f e<|.tail _<|.head _] at j;exact c_ i j
def akH(f:b<=a)(g:a<=(cz is).length):dz (bh .NotEq Lz (aR .Mult (af 40) (ah (.int 2)))) (aB (c+4)) (aY (iJ is (.int b) (.int a) (.lst [pc is b a false,pc is b a true]))) d false:=iY (agg f g) (jz (bN λU e=>e) bc λk e=>⟨⟨av,av⟩,aH,e⟩)<|AS rfl rfl ⟨aQ,aQ,aQ,aQ,aQ⟩
def ak1(h:b<=a)(i:a<=(cz is).length)(j:c .next (aY (iJ is (.int b) (.int a) (.lst [pc is b a false,pc is b a true]))) d):br Fl (aB (e+4)) (aY (iJ is (.int b) (.int a) f)) d c g:=aO<|gx (jW<|ags h i)<|aO<|ek (akH h i)<|dZ<|dZ j
def C5(a:b3)(b:List D):List D->aN->eX->Prop:=lO yes (λc d e f g=>iU true [38,39] c d λh=>br Fl a h e f g) (br [] a) b
def acX(d:b3)(e:List D)(a:eX):eX:=λf b c=>i9.casesOn f (True/\C5 d e b c a) (a .next b c) (True/\C5 d e b c a) λg=>a (.ret g) b c
def TK(d:a .next r b):C5 c [] r b a:=d
def TC(h:br Fl a (aY (iJ is (.int b.1) (.int b.2) c)) d (acX a e f) cI):C5 a (fV b::e) (aY (iJ is x g c)) d f:=h
def aaj(g:List a_):∀x b c,(∀a∈g,a.1<=a.2/\a.2<=(cz is).length)->(∀x b c,d .next (aY (iJ is x b c)) e)->C5 (aB (f+4)) (g.map fV) (aY (iJ is x b c)) e d:=by
 induction g with
 |nil=>exactλx b c U h=>TK<|h x b c
 |cons a g j=>
  intro x b c i h;obtain⟨k,l⟩:=i a<|.head _;refine TC ?_;apply ak1 k l;exact⟨aQ,j _ _ _ (λa m=>i a<|.tail _ m) h⟩
noncomputable def DP(b:Nat):List a_:=(b6<|b+1).flatMap λa=>(b6<|a+1).map λc=>(c,a)
def agI(b:Nat)(c:b<=40):(DP b).length<=2000:=by
 have:∀a,((b6 a).flatMap λd=>(b6<|d+1).map λe=>(e,d)).length<=a*a:=λa=>by
  induction a with
  |zero=>exact b9 _
  |succ a f=>
   refine J ES<|J ana<|J bq<|J xo<|J anb<|J (dR ..)<|J (aX ..)<|J kF<|az (j8 f _) ?_;exact J (BU ..)<|j8 (cZ _ _) _
 exact az (this _)<|az (Q3 (iI c)<|iI c) av
def agq(h:N<=40)(j:aj (af 36) b (aY a) c (.o 0 0 (N+1:Nat) 1)):aj Ot b (aY a) c (.lst ((DP N).map fV)):=by
 have ao:((b6<|N+1).flatMap λf=>((b6<|f+1).filter λU=>true).map λg=>fV (g,f))=(DP N).map fV:=by
  unfold DP;exact J JO<|aZ (λk=>(b6 _).flatMap k) (funext λf=>by rw[EF.mpr λU U=>rfl,dM];rfl)
 have:=yL (cN:=[38,39]) (b1:=false) (b2:=false) (AF:=[39]) (AG:=[38]) (e:=eF [af 38,af 39]) (Dn:=aP _ [aR .Add (af 39)<|ah _] [] []) _ (λf=>b6<|f+1) (λi=>.int i) (λi=>.int i) (λU U=>true) (λf g=>fV (g,f))
  (λf=>(aY {a with Qa:=.ai,Qc:=.ai}).set 39 _) (λf g=>((aY {a with Qa:=.ai,Qc:=.ai}).set 39 _).set 38 _) (acJ j (bz (iI h) av)) trivial (λU U U d=>d) (λf l=>AI (uJ aq λU U d=>d) (bz (l7 (fJ.mp l)) (bz (iI h) av))) trivial (λU U U U U d=>d) (λU U U U=>Bu) (λU U U U U=>jB (c_ aq aq)) (by
   exact J ao<|J (aX ..)<|az (agI N h) aH)
 rwa [ao] at this
def agp:aj Ot a (aY (iJ is .ai .ai .ai)) b (.lst ((DP (cz is).length).map fV)):=agq (J (Gl ..)<|uQ is) aq
def ady(g:∀x b a,gD (gS.drop 20) (aB (d+4)) (aY (iJ is x b a)) e f c):gD (gS.drop 19) (aB (d+4)) (aY (iJ is .ai .ai .ai)) e f c:=
 jL (lB (λk c g=>agp (λa h=>j0 h a k) c g) (aaj _ .ai .ai .ai (λp i=>by
  refine aG (JP.mp i) λq j l=>?_
  refine aG (fC.mp l) λr m n=>?_;subst n
  exact⟨rM (fJ.mp m),rM (fJ.mp j)⟩) λx b a=>g x b a))
noncomputable abbrev nu:List Nat:=[108,111,32,109,117,115,116,32,98,101,32,110,111,110,45,110,101,103,97,116,105,118,101]
noncomputable abbrev qM:List Nat:=[67,111,110,116,114,111,108,32,99,104,97,114,97,99,116,101,114,115,32,110,111,116,32,97,108,108,111,119,101,100,32,105,110,32,104,101,97,100,101,114,115]
def qz(e:X)(c:b3)(d:List D)(a:aN)(f:List Nat):Prop:=∀(g:Ok D) (b:er),b f a->(e c).v d a g b
def Hr(a:Bool)(s:List Nat):Bool:=b7 (sS (bif a then sJ else s_) s).outcome false (λo=>PySem.Sre.Outcome.casesOn o true false λU=>false)&&Nat.beq (sS (bif a then sJ else s_) s).marks.size 0
def zM(a:Bool)(s:List Nat):Prop:=(sS (bif a then sJ else s_) s).outcome=some .matched/\(sS (bif a then sJ else s_) s).marks.size=0
def M7(c:Hr a l=true):zM a l:=by
 obtain⟨b,d⟩:=(bl ..).mp c;refine⟨?_,EV d⟩;rcases e:(sS _ l).outcome with _|o
 .rw[e] at b;contradiction
 rw[e] at b;cases o with
 |failed=>contradiction
 |matched=>rfl
 |stuck=>contradiction
def Tz:(Hr true [97,9]&&DG.all λa=>Hr true [97,a]&&Hr false [97,a])=true:=au
def aft(is):q1 is∈DG:=by
 exact eU<|getD_at<|l5 _ av
def TA(is)(a):zM a [97,q1 is]:=by
 obtain⟨b,c⟩:=(bl ..).mp<|dQ.mp ((bl ..).mp Tz).2 _<|aft is;obtain _|_:=a
 .exact M7 c
 exact M7 b
def Mt:(mE false [97,97]&&(mE true [84,97,98]&&mE false [97,9,97]))=true:=au
def U8(d:fU (H a) a)(f:b l a):ko (H a) l (a++o::c) b:=by
 unfold ko;have e:((a++o::c).length==H a)=false:=jO λe=>by
  rw[bq] at e;exact aW (hR<|e.trans (Q0 _).symm)<|anS _
 exact J e<|J b0<|⟨d,f⟩
def Gv(l:decide (c<0)=true)(i:a nu b):br (TQ d e f g) h [j,x,.int c,m,key,.ai] b n a:=aO (ek (u:=true) (λk a i=>by
 show k (decide _) b;rwa [l]) (aO ⟨aH,i⟩))
def t'(h:decide (a<0)=true)(g:b nu c):aB (e+1) 74 [d,x,.int a] [] c f b:=go rfl rfl rfl [d,x,.int a,.none,.none,.ai] (λU g=>⟨aH,aH,g⟩)<|Gv h<|ym g
def va(h:decide (a<0)=true)(g:b nu c):aB (e+1) 56 [d,x,.int a] [] c f b:=go rfl rfl rfl [d,x,.int a,.none,.none,.ai] (λU g=>⟨aH,aH,g⟩)<|Gv h<|ym g
def ub(i:decide (a<0)=true)(h:b nu c):aB (f+1) 74 [d,x,.int a,e] [] c g b:=go rfl rfl rfl [d,x,.int a,e,.none,.ai] (λU h=>⟨aH,aH,h⟩)<|Gv i<|ym h
def vb(i:decide (a<0)=true)(h:b nu c):aB (f+1) 56 [d,x,.int a,e] [("key",key)] c g b:=go rfl rfl rfl [d,x,.int a,e,key,.ai] (λU h=>⟨aH,aH,rfl,h⟩)<|Gv i<|ym h
def ab_(h:decide (a<0)=true)(g:c nu d):aB (e+2) 65 [.loc b,.str l,.int a] [] d f c:=go rfl rfl rfl [.loc b,.str l,.int a,.none,.none] (λU g=>⟨aH,aH,g⟩) (by
 have i:eO [(af 0),(af 1),(af 2),(af 3)] (aB<|e+1) [.loc b,.str l,.int a,.none,.none] d [.loc b,.str l,.int a,.none]:=dD aq<|dD aq<|c_ aq aq;exact aO (ek (λk c g=>g) (aO (rB vY i cO (ub h (ym g))))))
def acz(j:decide (a<0)=true)(i:e nu c):aB (f+2) 47 [.loc b,.str [97,97],.int a] [("key",.g 409)] c h e:=go rfl rfl rfl [.loc b,.str [97,97],.int a,.none,.g 409] (λU i=>⟨fE rfl,fE rfl,rfl,i⟩) (by
 have l:aj (aP (af 4) [af 1] [] []) (aB<|f+1) [.loc b,.str [97,97],.int a,.none,.g 409] c _:=A6 (bN λU i=>i) (eg (d:=bV (0,0)) (bN λU i=>i)) cO (λk i=>⟨GS.2.2,i⟩) λh e i=>CH (aS _) i
 have m:eO [(af 0),_,(af 2),(af 3)] _ [.loc b,.str [97,97],.int a,.none,.g 409] c [.loc b,.int _,.int a,.none]:=dD (bN λU i=>i)<|dD l<|c_ (bN λU i=>i) (bN λU i=>i);have n:eO [(af 4)] (aB<|f+1) [.loc b,.str [97,97],.int a,.none,.g 409] c [.g 409]:=eg (bN λU i=>i);exact aO (ek (λk e i=>⟨by decide,i⟩) (aO (rB um m n (vb j (ym i))))))
def wy(i:zM u l)(h:a qM b):aB (e+1) 285 [.loc c,.str l] [("name",.bool u)] b f a:=go rfl rfl rfl [.loc c,.str l,.bool u,.ai] (λU h=>⟨aH,aH,rfl,h⟩) (by
 refine aO<|ek (λk a h=>⟨rfl,rfl,h⟩) ?_;refine aO<|gx (d:=.g (bif u then 250 else 255)) (q6 (λk a h=>h) (λj=>j▸bc) λj=>j▸bc) ?_;refine aO<|ek (u:=true) (λk a h=>?_)<|aO ⟨aH,ym h⟩;obtain _|_:=u
 .exact⟨.inr ⟨.inr rfl,rfl⟩,.inr ⟨i.1,i.2,rfl,h⟩⟩
 exact⟨.inr ⟨.inl rfl,rfl⟩,.inr ⟨i.1,i.2,rfl,h⟩⟩)
def Us(f:aj o' (aB (n+1)) r W (.loc a))(g:W[a]?=some (.inst 384 c d)) (h:aj v (aB (n+1)) r W (.str l)) (i:zM b l):qz (bg "_convert_string_type" o' [v] [ah (.bool b)] ["name"]) (aB (n+1)) r W qM:=λk e j=>pN<|f _ e<|mG g au<|eg h _ e<|eg bc _ e<|wy i j
def RX(c:List X)(d:b3)(e:List D)(a:aN)(f:List Nat):Prop:=∀(g:Ok (List D)) (b:er),b f a->gc (gh c d) e a g b
def U0(d:qz z a r b l):RX (z::c) a r b l:=λg e f=>d _ e f
def RF(d:RX a b r c l):qz (eF a) b r c l:=λg e f=>d _ e f
def od(g:W[a]?=some (c6 d)) (h:fU (H W) W) (i:zM false b) (f:c qM W):aB (n+2) 381 [.loc a,.str k,.str b] [] W e c:=go rfl rfl rfl [.loc a,.str k,.str b,.o 2 0 0 0,.ai,.ai,.ai] (λU f=>⟨aH,aH,f⟩) (by
 have j:=Us (n:=n) (o':=af 0) (v:=af 2) (r:=[.loc a,.str k,.str b,.o 2 0 0 0,.loc<|H W,.ai,.ai]) (W:=W++[.lst []]) aq (mw g) aq i;exact O4 (aO (ek (λk c f=>f) (aO (j _ _ (U8 h f))))))
def S1(i:a[c]?=some (c6 e)) (l:a[e]?=some (.lst f)) (m:fU (H a) a) (p:zM true k) (q:kZ false b) (h:d qM a):aB (n+2) 381 [.loc c,.str k,.str b] [] a g d:=go rfl rfl rfl [.loc c,.str k,.str b,.o 2 0 0 0,.ai,.ai,.ai] (λU h=>⟨aH,aH,h⟩) (by
 have j:(a++[.lst [.str b]])[c]?=some _:=mw i;have ao:((a++[bI.lst []]).set (H a)<|bI.lst<|[]++[D.str b])=a++[bI.lst [.str b]]:=pH;refine O4<|aO<|ek (λk d h=>h)<|aO<|gx (H_ aq (mw i) aq q)<|aO<|sU aq iD aq aH<|dZ ?_;refine J ao<|aO<|lB (λk d h=>⟨rfl,rfl,rfl,h⟩)<|dZ<|aO ?_;have s:aj (cW "_headers"<|af 0) (aB<|n+1) [.loc c,.str k,.str b,.o 2 0 0 0,.loc<|H a,.ai,.ai] _ _:=Ib aq j;refine pN<|s _ _ ?_;show bI.casesOn _ _ _ _ _;exact J (ez (mw l))<|⟨.inl rfl,U0 (RF (U0 (Us (n:=n) (o':=af 0) (v:=af 1) (r:=[.loc c,.str k,.str b,.o 2 0 0 0,.loc (H a),.ai,.ai]) aq j aq p))) _ _ (U8 m h)⟩)
noncomputable abbrev I0:List Nat×List Nat:=([84,97,98],[97,9,97])
def vK(is:List Int):aN:=(m6 is).set 5<|.lst<|(iV is++[I0]).map bT
def alm(is):(vK is)[5]?=some (.lst ((iV is++[I0]).map bT)):=rfl
def alk(is):(vK is)[4]?=some (c6 5):=rfl
def aln(is):(vK is)[8]?=some (.lst ((iV is).map bT)):=rfl
def P1(is):(vK is).length=9:=rfl
def alj(is):(vK is).take 1=[.tab]:=rfl
def ahP(a):fU 9 (KN a [] a):=⟨⟨⟨(by decide:5<9),aQ⟩,aQ⟩,Gp 9 a,aQ,⟨⟨aQ,aQ⟩,aQ⟩,Gp 9 a,aQ⟩
def alf(is):m6 is=cV (jK is) (jx is) (u5 ((dP is).map (mF is))) 0 [] []++KN (iV is) [] (iV is):=rfl
def alh:(m7 is a b c d).set 12 (.lst xs)=m7 is a b c xs:=by
 have:=wM (bK:=m6 is) (R:=[.lst a,.lst b,.lst c,.lst d]) (j:=3) (o:=.lst xs);rwa [Bx] at this
def W9(f:H a<1000)(g:b .none (c.set d (.lst (a++[e])))):sI "append" d a [e] c b:=rt au ⟨J bq<|az (l7 f) aH,g⟩
def adK(i:r[c]?=some (.loc d)) (h:a[d]?=some (.lst e)) (j:qz z b (o9 keep r) a l) (k:H e<1000) (m:rE b c f r (a.set d (.lst (e++[.str l]))) g):rE b c ((keep,z b)::f) r a g:=by
 show opt _ _;rw[i];show bI.casesOn _ _ _ _ _;refine J (ez h)<|⟨.inl rfl,j _ _ ?_⟩;show bI.casesOn _ _ _ _ _;exact J (ez h)<|W9 k m
def adN(i:r[c]?=some (.loc a)) (k:d[a]?=some (.lst xs)) (l:e[a]?=some (.lst f)) (m:mZ z b (o9 keep r) d e g) (n:H f<1000) (p:rE b c h r (e.set a (.lst (f++[g]))) j):rE b c ((keep,z b)::h) r d j:=by
 show opt _ _;rw[i];show bI.casesOn _ _ _ _ _;refine J (ez k)<|⟨.inl rfl,m _ _ ?_⟩;show bI.casesOn _ _ _ _ _;exact J (ez l)<|W9 n p
abbrev nA(is:List Int)(x a b:D)(keep:List Nat):List D:=o9 keep<|aY<|iJ is x a b
abbrev jC(is:List Int)(a:List D):aN:=m7 is ((j4<|fL is).map bV) ((j4<|fL is).map bV) ((cz is).map dH) a
def dj:qz (aP (ah (.g 74)) [af 32,ah (.str [97,97]),gk (ah (.int 1))] [] []) (aB (a+4)) (nA is x b c [32]) d nu:=λf h e=>rB vY (wA aq bc<|q7 bc) cO<|t' rfl e
def dh:qz (aP (ah (.g 56)) [af 32,ah (.str [97,97]),gk (ah (.int 1))] [] []) (aB (a+4)) (nA is x b c [32]) d nu:=λf h e=>rB um (wA aq bc<|q7 bc) cO<|va rfl e
def ND:qz (aP (ah (.g 65)) [af 32,ah (.str [97,97]),gk (ah (.int 2))] [] []) (aB (a+4)) (nA is x b c [32]) d nu:=λf h e=>rB Mi (wA aq bc<|q7 bc) cO<|ab_ rfl e
def w6:(m7 is a b c d)[4]?=some (c6 5):=mw<|PZ is
def P0:(m7 is a b c d)[5]?=some (.lst ((iV is).map bT)):=mw<|d4 is
def Jg(b:kg 13 a):fU (jC is a).length (jC is a):=by
 have e:(jC is a).length=13:=J bq rfl;refine J e<|Lq (Gn (by decide:9<=13) (by
  rw[alf];exact Lq (Gn (by decide:4<=9) ec) (ahP _))) ⟨?_,?_,?_,b,aQ⟩
 .exact p8 bV (λU=>aQ) _
 .exact p8 bV (λU=>aQ) _
 exact p8 dH (λU=>aQ) _
def XU(c:aj (af 37) a r b (.str [q1 is])):aj (aR .Add (ah (.str [97])) (af 37)) a r b (.str [97,q1 is]):=sM bc c aH
def adn(g:kg 13 a):qz (bg "add_header" (af 20) [aR .Add (ah (.str [97])) (af 37),ah (.str [97,97])] [] []) (aB (b+4)) (nA is x c d [20,37]) (jC is a) qM:=λj f e=>by
 have h:aj (af 20) (aB<|b+4) (nA is x c d [20,37]) (jC is a) _:=aq;have i:eO [_,_] (aB<|b+4) (nA is x c d [20,37]) (jC is a) [.str [97,q1 is],.str [97,97]]:=c_ (XU aq) bc;exact pN<|h _ f<|mG w6 au<|i _ f<|cO _ f<|S1 w6 P0 (Jg g) (TA is true) (sG ((bl ..).mp Mt).1) e
def uA(g:kg 13 a):qz (bg "add_header" (af 20) [ah (.str [97,9]),ah (.str [97,97])] [] []) (aB (b+4)) (nA is x c d [20]) (jC is a) qM:=λj e f=>by
 have h:aj (af 20) (aB<|b+4) (nA is x c d [20]) (jC is a) _:=aq;have i:eO [_,_] (aB<|b+4) (nA is x c d [20]) (jC is a) [.str [97,9],.str [97,97]]:=c_ bc bc;exact pN<|h _ e<|mG w6 au<|i _ e<|cO _ e<|S1 w6 P0 (Jg g) (M7 ((bl ..).mp Tz).1) (sG ((bl ..).mp Mt).1) f
def ado(f:kg 13 a):qz (bg "add_header" (af 20) [ah (.str [82,111,119]),aR .Add (ah (.str [97])) (af 37)] [] []) (aB (n+4)) (nA is x b c [20,37]) (jC is a) qM:=λi e d=>by
 have g:aj (af 20) (aB<|n+4) (nA is x b c [20,37]) (jC is a) _:=aq;have h:eO [_,_] (aB<|n+4) (nA is x b c [20,37]) (jC is a) [.str [82,111,119],.str [97,q1 is]]:=c_ bc<|XU aq;exact pN<|g _ e<|mG w6 au<|h _ e<|cO _ e<|od (n:=n+2) w6 (Jg f) (TA is false) d
abbrev lW(is:List Int)(a:List D):aN:=vK is++[.lst<|(j4<|fL is).map bV,.lst<|(j4<|fL is).map bV,.lst<|(cz is).map dH,.lst a]
def alq:(jC is a).set 5 (.lst ((iV is++[I0]).map bT))=lW is a:=by
 exact J (anu _ _ (by rw[Bx];decide)) rfl
def adp(h:kg 13 a):mZ (bg "add_header" (af 20) [ah (.str [84,97,98]),ah (.str [97,9,97])] [] []) (aB (b+4)) (nA is x c d [20]) (jC is a) (lW is a) .none:=λk e f=>by
 have i:aj (af 20) (aB<|b+4) (nA is x c d [20]) (jC is a) (.loc 4):=aq;have j:eO [ah<|.str [84,97,98],ah<|.str [97,9,97]] (aB<|b+4) (nA is x c d [20]) (jC is a) [.str [84,97,98],.str [97,9,97]]:=c_ bc bc;have g:=(bl ..).mp ((bl ..).mp Mt).2;exact pN<|i _ e<|mG w6 au<|j _ e<|cO _ e<|S3 w6 P0 (Jg h) (sG g.1) (sG g.2) av (bZ (Hi is<|Az is).n av)<|alq▸f
noncomputable abbrev Eb:List D:=[.str nu,.str nu,.str nu,.str nu,.str qM,.str qM,.str qM,.none]
def alr:(jC is a).set 12 (.lst xs)=jC is xs:=alh
def eh:(jC is a)[12]?=some (.lst a):=w7 (j:=3) rfl
def Jh(b:([.lst ((j4 (fL is)).map bV),.lst ((j4 (fL is)).map bV),.lst ((cz is).map dH),.lst a]:aN)[j]?=some o):(lW is a)[9+j]?=some o:=by
 have:=Ae (bK:=vK is) b;rwa [P1] at this
def als:(lW is a).set 12 (.lst xs)=lW is xs:=by
 have:=wM (bK:=vK is) (R:=[.lst<|(j4<|fL is).map bV,.lst<|(j4<|fL is).map bV,.lst<|(cz is).map dH,.lst a]) (j:=3) (o:=.lst xs);rwa [P1] at this
def yy(g:qz z a (o9 keep (aY (iJ is x c d))) (jC is b) l)(h:H b<1000)(i:rE a 35 e (aY (iJ is x c d)) (jC is (b++[.str l])) f):rE a 35 ((keep,z a)::e) (aY (iJ is x c d)) (jC is b) f:=adK rfl eh g h<|alr.symm▸i
def wc(a:ia (H r) 9=true):H r<1000:=bz (fE a) av
def adA(f:gD (gS.drop 21) (aB (b+4)) (aY (iJ is x c d)) (lW is Eb) e a):gD (gS.drop 20) (aB (b+4)) (aY (iJ is x c d)) (jC is []) e a:=by
 refine jL<|yy dj (wc rfl)<|yy dh (wc rfl)<|yy ND (wc rfl)<|yy (λg a f=>rB GU (wA (bN λU f=>f) bc<|q7 bc) (eg bc)<|acz rfl f) (wc rfl)<|yy (adn ?_) (wc rfl)<|yy (uA ?_) (wc rfl)<|yy (ado ?_) (wc rfl)<|adN rfl eh (Jh (j:=3) rfl) (adp ?_) (wc rfl)<|als.symm▸f;all_goals exact⟨aQ,aQ,aQ,aQ,by first|trivial|exact⟨aQ,by first|trivial|exact⟨aQ,by first|trivial|exact⟨aQ,aQ⟩⟩⟩⟩
def agR(f:aj z a r b (.bool true))(g:aj c a r b (.bool true))(h:aj d a r b (.bool true)):aj (jQ [z,c,d]) a r b (.bool true):=λj e i=>f _ e<|g _ e<|h _ e i
def Ys{p:Nat}(f:aj z a r b (.lst c))(g:aj d a r b (.int p))(e:p<1000)(h:H c<100):aj (aR .Mult z d) a r b (.lst (kG p c).flatten):=jz f g λk i=>by
 refine⟨uV e,?_,i⟩;exact az (Q3 (bF h)<|bF e) aH
abbrev aip:X:=aR .Add (aR .Add (aR .Mult (b8 false [ah<|.str nu])<|ah<|.int 4)<|aR .Mult (b8 false [ah<|.str qM])<|ah<|.int 3)<|b8 false [bM]
def ei:(lW is a)[4]?=some (c6 5):=mw<|alk is
def ao:aj (bh .Eq (af 35) aip) a (aY (iJ is x b c)) (lW is Eb) (.bool true):=wz (bN λU d=>d) (wk (wk (Ys (p:=4) (jW<|eg bc) (λU U d=>d) av aH) (Ys (p:=3) (jW<|eg bc) (λU U d=>d) av aH) aH) (jW<|eg iM) aH)<|C4 (yO<|Jh (j:=3) rfl) rfl<|⟨aQ,aQ,aQ,aQ,aQ,aQ,aQ,aQ,aQ⟩
def aA:aj (bh .Eq (af 32) (af 33)) a (aY (iJ is x b c)) (lW is d) (.bool true):=wz aq aq<|C4 (yO<|Jh (j:=0) rfl) (yO<|Jh (j:=1) rfl) (Pb _ λf=>[97+f.1,97+f.2])
def agj:aj (aR .Add (af 26) (b8 false [eF [ah (.str [84,97,98]),ah (.str [97,9,97])]])) b (aY (iJ is x c d)) (lW is a) (.lst ((iV is++[I0]).map bT)):=by
 refine jz aq (jW<|eg<|jB<|c_ bc bc) λk e=>?_
 show UB (bx (lW is a)<|.loc 8) (bx (lW is a)<|.lst _) k;refine J (jl<|mw<|aln is)<|⟨?_,?_⟩
 .exact J (aX ..)<|az (l7<|(Hi is<|Az is).n) aH
 rwa [dS] at e
def bL:aj (bh .Eq (bg "items" (af 20) [] [] []) (aR .Add (af 26) (b8 false [eF [ah (.str [84,97,98]),ah (.str [97,9,97])]]))) (aB (a+4)) (aY (iJ is x b c)) (lW is d) (.bool true):=by
 have f:aj (bg "items" (af 20) [] [] []) (aB<|a+4) (aY<|iJ is x b c) (lW is d) _:=wu aq ei au cO cO λg h e=>T8 ei (mw<|alm is) e
 exact wz f agj<|C4 rfl rfl<|ZJ _
def P':fin false 1 (.bool true) (lW is Eb) λa U=>a=.bool true:=by
 have b:(lW is Eb).length=13:=J bq rfl;have c:(lW is Eb).take 1=[.tab]:=J (hM (by rw[P1];decide))<|J (alj ..) rfl;unfold fin;exact J b<|⟨aQ,⟨aQ,aQ⟩,rfl⟩
def adT(a:H is<1000)(b):lx (b+7) is:=by
 refine⟨aH,aH,?_⟩;rw[<-e4];exact adF a (by
  refine jL<|gx ag5 ?_;exact(ads (by
   refine jL<|afI ag1 ?_;exact J (Je ..)<|(adt (jL (aim akR akL (akm (dZ (adu (adv (adw (adx (ady λx c d=>adA (jL (rq (agR ao aA bL) P')))))))))))))))
end M.Internal.B
end
noncomputable section
open PySem PySem.W PyProof.Rows PySem.Calls
namespace M.Internal
section
open PySem.Builtin.Re
variable{w:Type}
def iW{c:Type}{b k:w->c}{a:List w}(d:a.map b=a.map k):∀x∈a,b x=k x:=hz.mp d
section
variable(P:cR)
def k_get:[152,384].map (λk=>(gZ (cy P) (.ref k) "__getattribute__",gZ (cy P) (.ref k) "__getattr__"))=[152,384].map λU=>(some (some (.builtin "object.__getattribute__")),some none):=au
def adb:([152,236,384].flatMap λk=>qP.map λx=>(k,x)).map (λb=>gZ (cy P) (.ref b.1) b.2)=([152,236,384].flatMap λk=>qP.map λx=>(k,x)).map λU=>some none:=au
def k_cls:[152,236,384].map (λk=>(Rd (cy P) k,gZ (cy P) (.ref k) "__setattr__",(E6 (cy P) k).map (·.mro),B0 (cy P) (.ref k),decide (k<1000)))=[152,236,384].map λk=>(true,some (some (.builtin "object.__setattr__")),some (bif k==236 then[.ref k,.type "list",.type "object"] else[.ref k,.type "object"]),true,true):=au
def k_meth:mK.map (λb=>(gZ (cy P) (.ref b.1.1) b.1.2,B5 (cy P) (.ref b.2),B0 (cy P) (.ref b.2),decide (b.2<1000),qP.contains b.1.2))=mK.map λb=>(some (some (.ref b.2)),some (.type "function"),true,true,false):=au
def WL:je.map (λb=>(B0 (cy P) (.ref b),decide (b<1000)))=je.map λU=>(true,true):=au
def ac8:gU.map (λb=>(decide (b.2<1000),gZ (cy P) (.ref b.1) "__init__",B5 (cy P) (.ref b.2)))=gU.map λb=>(true,some (some (.ref b.2)),some (.type "function")):=au
def AH(a:lP k):k∈[152,236,384]:=by
 obtain rfl|rfl|rfl:=Hs a
 .exact .head _
 .exact .tail _<|.head _
 exact .tail _<|.tail _<|.head _
def yD{d:Type}[BEq w][LawfulBEq w]{c:w}{e:d}{b:List (w×d)}:b.lookup c=some e->(c,e)∈b:=by
 induction b with
 |nil=>exactλa=>nomatch a
 |cons f b g=>
  rw[nM];rcases h:c==f.1 with _|_
  .exactλa=>.tail _<|g a
  exactλa=>J (ck h)<|bH (bY a)<|.head _
variable{g:G}
def Mx(a:g.K=cy P):gP g where
 get:=λk b=>by
  rw[a];obtain rfl|rfl|rfl:=Hs b
  .have e:(_,_)=(_,_):=iW (k_get P) 152 (.head _);exact⟨.inl (Prod.mk.inj e).1,(Prod.mk.inj e).2⟩
  .exact⟨.inr ⟨au,au⟩,au⟩
  have e:(_,_)=(_,_):=iW (k_get P) 384 (.tail _<|.head _);exact⟨.inl (Prod.mk.inj e).1,(Prod.mk.inj e).2⟩
 dict:=λk b=>by rw[a];exact aZ (·.1)<|iW (k_cls P) k<|AH b
 HP:=λk x b d=>by rw[a];exact iW (adb P) (k,x)<|JP.mpr ⟨k,AH b,ank<|nK.mp d⟩
 setattr:=λk b=>by rw[a];exact aZ (·.2.1)<|iW (k_cls P) k<|AH b
 mro:=λk b=>by rw[a];exact iQ.mp (aZ (·.2.2.1)<|iW (k_cls P) k<|AH b)
 N6:=λk x f b=>by
  have e:=iW (k_meth P) ((k,x),f)<|yD b;rw[a];have h:qP.contains x=false:=aZ (·.2.2.2.2) e;exact⟨aZ (·.1) e,aZ (·.2.1) e,aZ (·.2.2.1) e,eB (aZ (·.2.2.2.1) e),λi=>gX<|h.symm.trans i⟩
 keep:=λc b=>by rw[a];exact⟨aZ h6<|iW (WL P) c b,eB<|aZ Prod.snd<|iW (WL P) c b⟩
 WM:=λc b=>by rw[a];exact⟨aZ (·.2.2.2.1)<|iW (k_cls P) c<|AH b,eB (aZ (·.2.2.2.2)<|iW (k_cls P) c<|AH b)⟩
 sub:=by rw[a];kernel_rfl
 Od:=by rw[a];kernel_rfl
 Mz:=by rw[a];kernel_rfl
 ZF:=by rw[a];kernel_rfl
 iter:=by rw[a];kernel_rfl
 append:=by rw[a];kernel_rfl
 len:=by rw[a];exact⟨au,au⟩
 str:=by rw[a];exact⟨au,au⟩
 bool:=by rw[a];kernel_rfl
end
end
section
open PySem.Builtin.Re
noncomputable def cJ(a:jD)(b:Nat):Obj:=(a.lookup b).getD default
noncomputable def pO(a:BC):Array aF:=tF a #[] (λU=>#[]) (λxs U=>xs) (λU U=>#[]) (λU U U=>#[]) (λU U=>#[]) (λU=>#[]) (λU=>#[]) (λU=>#[]) id #[]
noncomputable def mE(a:BC):Bool:=tF a false (λU=>false) (λU U=>false) (λU U=>false) (λU U U=>false) (λU U=>false) (λU=>false) (λU=>false) (λU=>false) (λU=>true) false
noncomputable def Wj(a:BC):Bool:=tF a false (λU=>false) (λU U=>true) (λU U=>false) (λU U U=>false) (λU U=>false) (λU=>false) (λU=>false) (λU=>false) (λU=>false) false
noncomputable def Ue(a:BC):ClassData:=tF a default (λU=>default) (λU U=>default) (λU U=>default) (λU U U=>default) (λU U=>default) (λU=>default) (λU=>default) id (λU=>default) default
noncomputable def Ug(a:BC):Option aF:=tF a none (λU=>none) (λU U=>none) (λU U=>none) (λU U U=>none) (λU U=>none) id (λU=>none) (λU=>none) (λU=>none) none
noncomputable def yN(a:aF):Option Nat:=zy a none none none (λU=>none) (λU U=>none) (λU U=>none) (λU U=>none) (λU U=>none) (λU=>none) (λU=>none) some
noncomputable def En(a:aF):Option (Str×Tok):=zy a none none none (λU=>none) (λU U=>none) (λU U=>none) (λx b=>some (x,b)) (λU U=>none) (λU=>none) (λU=>none) λU=>none
noncomputable def M6(b:aF):Option (Int×Tok):=zy b none none none (λU=>none) (λx a=>some (x,a)) (λU U=>none) (λx a=>none) (λU U=>none) (λU=>none) (λU=>none) λU=>none
noncomputable def TV(a:aF):Option Bool:=zy a none none none some (λx b=>none) (λU U=>none) (λx b=>none) (λU U=>none) (λU=>none) (λU=>none) λU=>none
variable{p:Prop}
def jf(a:false=true):p:=amr a
def GY:mE b=true->b=.fields (pO b):=tF b jf (λU=>jf) (λU U=>jf) (λU U=>jf) (λU U U=>jf) (λU U=>jf) (λU=>jf) (λU=>jf) (λU=>jf) (λU U=>rfl) jf
def ai0:Wj b=true->∃d,b=.seq (pO b) d:=tF b jf (λU=>jf) (λU d U=>⟨d,rfl⟩) (λU U=>jf) (λU U U=>jf) (λU U=>jf) (λU=>jf) (λU=>jf) (λU=>jf) (λU=>jf) jf
def y':Ug b=some d->b=.cell (some d):=tF b ns (λU=>ns) (λU U=>ns) (λU U=>ns) (λU U U=>ns) (λU U=>ns) (λU a=>aZ _ a) (λU=>ns) (λU=>ns) (λU=>ns) ns
def OL:yN b=some d->b=.ref d:=zy b ns ns ns (λU=>ns) (λU U=>ns) (λU U=>ns) (λU U=>ns) (λU U=>ns) (λU=>ns) (λU=>ns) λU a=>aZ _<|bY a
def IU:En b=some x->b=.str x.1 x.2:=zy b ns ns ns (λU=>ns) (λU U=>ns) (λU U=>ns) (λU U a=>bY a▸rfl) (λU U=>ns) (λU=>ns) (λU=>ns) λU=>ns
def Wa:M6 b=some x->b=.int x.1 x.2:=zy b ns ns ns (λU=>ns) (λU U a=>bY a▸rfl) (λU U=>ns) (λU U=>ns) (λU U=>ns) (λU=>ns) (λU=>ns) λU=>ns
def u2:TV b=some x->b=.bool x:=zy b ns ns ns (λU a=>aZ _<|bY a) (λU U=>ns) (λU U=>ns) (λU U=>ns) (λU U=>ns) (λU=>ns) (λU=>ns) λU=>ns
variable{t:jD}
def AY(a:(t.lookup b).isSome=true):t.lookup b=some (cJ t b):=by
 unfold cJ;rcases c:t.lookup b with _|o
 .rw[c] at a;contradiction
 rfl
def HZ(a:jD)(b d:Nat)(e:Array Nat):Bool:=
 allB [(a.lookup b).isSome,decide ((cJ a b).cls=.type "re.Pattern"),(cJ a b).dict.isNone,mE (cJ a b).data,reRawNat ((pO (cJ a b).data).getD 6 .none)==0,reRawNat ((pO (cJ a b).data).getD 2 .none)==d,
  b7 (yN ((pO (cJ a b).data).getD 5 .none)) false λc=>allB [(a.lookup c).isSome,Wj (cJ a c).data,decide (((pO (cJ a c).data).map reRawOf).map (·.toNat)=e)]]
def Om{h:Array Nat}(j:HZ t b d h=true)(i)(X:t.In i):oV i b d h:=by
 have a:=@nW _ j;have c:=a 6 rfl;rcases f:yN _ with _|k
 .rw[f] at c;contradiction
 rw[f] at c;have g:=@nW _ c;obtain⟨l,e⟩:=ai0<|g 1 rfl;exact .mk _ _ k _ _ l (X _ _<|AY<|a 0 rfl) (eB<|a 1 rfl) (E1.mp<|a 2 rfl) (GY<|a 3 rfl) (ck<|a 4 rfl) (ck<|a 5 rfl) (OL f) (X _ _<|AY<|g 0 rfl) e<|eB<|g 2 rfl
def ade(a):allB [HZ (cy a) 79 1 j5,HZ (cy a) 250 0 sJ,HZ (cy a) 255 0 s_]=true:=au
def aag:tF b none (λU=>none) (λU U=>none) (λU U=>none) (λU U U=>none) (λU U=>none) (λU=>none) some (λU=>none) (λU=>none) none=some d->b=.func d:=tF b ns (λU=>ns) (λU U=>ns) (λU U=>ns) (λU U U=>ns) (λU U=>ns) (λU=>ns) (λU a=>aZ _<|bY a) (λU=>ns) (λU=>ns) ns
def C7(a:fdOf t b=some d):∃o,t.lookup b=some o/\o.data=.func d:=(gi.mp a).imp λU a=>⟨a.1,aag a.2⟩
def jd(a:jD)(b:Nat):oA:=(fdOf a b).getD default
def C8{K:jD}(a:(fdOf K n).isSome=true):fdOf K n=some (jd K n):=by
 unfold jd;rcases b:fdOf K n with _|o
 .rw[b] at a;contradiction
 rfl
def aaP(a:b.K=cy d):Kx b where
 spec:=by rw[a];kernel_rfl
 takes:=by rw[a];kernel_rfl
 look:=by rw[a];exact(C7<|C8 (K:=cy d) (n:=180) au).imp λo c=>⟨_,c⟩
def aaJ(a:d.K=cy b):GM d where
 plain:=λf c g=>by
  rw[a];obtain rfl|rfl|rfl:=Hs c
  .kernel_rfl
  .exact aW rfl g
  kernel_rfl
 acc:=by rw[a];exact⟨(cJ (cy b) 236).cls,(cJ (cy b) 236).dict,Ue (cJ (cy b) 236).data,(cJ (cy b) 236).slots,au,au,au,⟨.ref (236:Nat),[.type "list",.type "object"],au⟩,au,au,au,au⟩
 init:=λf h c=>by
  rw[a];have e:=iW (ac8 b) (f,h)<|yD c;exact⟨eB (aZ (·.1) e),aZ (·.2.1) e,aZ (·.2.2) e⟩
def aaN(a:b.K=cy d)(c:b.g6=iX):Cf b where
 top:=by rw[c];kernel_rfl
 cls:=by rw[a];exact⟨Ue (cJ (cy d) 236).data,cJ (cy d) 236,au,au,au,au,au,au⟩
 self:=by rw[a];kernel_rfl
 list:=by rw[a];kernel_rfl
 Xh:=by rw[a];kernel_rfl
 cx:=by rw[a];kernel_rfl
def codeB(b:jD)(a c:Nat):Bool:=
 allB [(b.lookup a).isSome,decide ((cJ b a).cls=.type "code"),mE (cJ b a).data,decide ((pO (cJ b a).data)[11]?=some (.ref c)),(En<|(pO (cJ b a).data).getD 18 .none).isSome,(M6<|(pO (cJ b a).data).getD 7 .none).isSome,(TV<|(pO (cJ b a).data).getD 9 .none).isSome,(M6<|(pO (cJ b a).data).getD 10 .none).isSome,!(a==c)]
variable{w:Type}
def IL{x:Option w}(a:x.isSome=true):∃b,x=some b:=xB.mp a
def CN{p}(c:p∈fh)(e:codeB b.K d p=true):xQ b d p:=
 have a:=@nW _ e
 (IL<|a 4 rfl).elim λU f=>(IL<|a 5 rfl).elim λU g=>(IL<|a 6 rfl).elim λU h=>(IL<|a 7 rfl).elim λU i=>
 have bL:=eB<|a 3 rfl
 ⟨c,cJ b.K d,_,_,_,_,_,_,_,_,AY<|a 0 rfl,eB<|a 1 rfl,GY<|a 2 rfl,bL,(amf ..).trans (aZ (Option.getD · _) bL),IU f,Wa g,u2 h,Wa i,beq_eq_false_iff_ne.mp<|(mS _).mp<|a 8 rfl⟩
end
noncomputable def MB:List (Str×Nat):=[("insort_right",47),("bisect_right",56),("insort_left",65),("bisect_left",74),("_ValueFormatter",152),("_Accumulator",236),("Headers",384),("_twin_re_1",79),("_name_disallowed_re",250),("_value_disallowed_re",255),("_law_begin",395),("_law_end",402),("_law_size",409),("_law_rows",414),("_law_tokens",419),("_law_table",426),("_law_answer",433),("_law_due",438),("_law_told",443)]
noncomputable def Vz:List (Str×Nat):=[("len",1000),("ord",1001),("chr",1002),("sum",1003),("any",1004),("all",1005),("min",1006),("max",1007),("sorted",1008),("list",1009),("str",1010),("type",1011),("range",1012),("enumerate",1013),("zip",1014)]
noncomputable def De:List (Str×List Nat):=[("NL",[10]),("EMPTYSTRING",[])]
def aaH:List (Str×D):=(MB++Vz).map (λa=>(a.1,D.g a.2))++De.map λa=>(a.1,D.str a.2)
def kN(x:Str):Option D:=aaH.lookup x
noncomputable abbrev qU:=B.qU
def sE:List (Nat×Inf):=B.jG.map λa=>(a.1,a.2.1)
def ada(a):MB.map (λb=>nsIn (cy a) l8 b.1)=MB.map λb=>some (some (nh b.2)):=au
def adf(a):De.map (λb=>((nsIn (cy a) l8 b.1).bind λd=>d.bind En).map (·.1))=De.map λb=>some (toS b.2):=au
def MC:List (Str×aF):=Vz.map (λa=>(a.1,nh a.2))++TP
def ac4(a):MC.map (λb=>(nsIn (cy a) l8 b.1,ij b.1,b.1==("__name__":Str)))=MC.map λb=>(some none,some b.2,false):=au
def xV(a:G):Prop:=∃b fP,a.h.Ns l8 b/\a.h.Ns oK fP/\∀x:Str,x≠"__name__"->fP x=ij x
def VA(c:xV b)(e:nsIn b.K l8 x=some (some d)):rU b x d:=by
 exact jN c λf fP a g h=>⟨f,fP,a,g,.inl<|mg_of b.c8 a e⟩
def G8(c:xV b)(g:b.K=cy d)(h:(x,f)∈MC):rU b x f:=by
 refine jN c λi fP a j k=>?_
 have e:=iW (ac4 d) _ h;exact⟨i,fP,a,j,.inr ⟨mg_none_of b.c8 a (g▸aZ (·.1) e),(k x (beq_eq_false_iff_ne.mp (aZ (·.2.2) e))).trans (aZ (·.2.1) e)⟩⟩
variable{g:G}{z:b5 g}{a:aL g}{K E:aF->bf->Prop}
def MD(e:rU g x b)(h:z.env.kindOf x=some .globalImplicit)(f:K b a.s):aE g.M d (E8 z.env x) K E a.s:=by
 refine jN e λj fP e i c=>?_
 unfold E8 amA;rw[z.fn,h];exact c.elim (λc=>amx (z.gl▸r4 a e av) c f) λc=>amw (z.gl▸r4 a e av) c.1 (z.Ag▸r4 a i av) c.2 f
def TM(a:xV b)(c:b.K=cy d):B9 b:=λh i x j k l X e f g=>MD (G8 a c<|lF _<|yD e) f g
def Z9(a:xV b)(c:b.K=cy d)(g:(x,e)∈De):∃f,rU b x (.str (toS e) f):=by
 refine aG (iQ.mp<|iW (adf d) _ g) λh ao aA=>aG (gi.mp ao) λl bL i=>?_
 refine aG (gi.mp i) λm j k=>?_;subst j
 rw[IU k,aA] at bL;exact⟨h.2,VA a<|c▸bL⟩
def aaI(f:xV b)(g:b.K=cy d):R3 b kN:=λm x n p q X e i j=>by
 obtain h|h:=i7.mp<|yD e
 .refine aG (fC.mp h) λc a e=>?_
  obtain⟨rfl,rfl⟩:=Prod.mk.inj e;refine MD ?_ i<|j _ rfl;exact(i7.mp a).elim (λa=>VA f<|g▸iW (ada d) _ a) λa=>G8 f g<|xw _<|ank a
 refine aG (fC.mp h) λc a e=>?_
 obtain⟨rfl,rfl⟩:=Prod.mk.inj e;obtain⟨k,l⟩:=Z9 f g a;refine MD l i<|j _ ⟨?_,k,rfl⟩;have:De.all (λc=>decide (H c.2<=lim))=true:=au;exact eB<|dQ.mp this c a
def MP(e:xV b)(a:b.K=cy d):ed b:=⟨Mx d a,(have c:=@nW _ (ade d)
 ⟨by rw[a];exact Om (c 0 rfl),by rw[a];exact Om (c 1 rfl),J a<|Om (c 2 rfl)⟩),aaP a,aaJ a,TM e a⟩
noncomputable def Wk(a:FuncBody):Bool:=amN a (λU=>true) λU=>false
def uk(a:Wk b=true):b=.stmts (t9 b):=by cases b<;>first|rfl|cases a
def OH(a:jD)(c:oA):Bool:=b7 (yN c.code) false λb=>allB [(a.lookup b).isSome,mE (cJ a b).data,((pO (cJ a b).data)[1]?.bind En).map (·.1)==some c.qualname]
def G0(c:jD)(b:Inf)(a:oA):Bool:=allB [Wk a.body,!a.scope.isCoroutine,!a.scope.isGenerator,a.scope.kind==.function,a.globals==l8,a.builtins==oK,OH c a,decide (a.scope.names.map (·.1)).Nodup,a.closure.all (λd=>(c.lookup d.2).isSome),
 decide b.ns.Nodup,b.ns.all (λx=>!(a.scope.names.lookup x==some .free)),(b.ns.take (par b)).all (λx=>lD (a.scope.names.lookup x)),decide (par b<=H b.ns)]
variable{t:jD}
def ahN(a:OH t d=true):∃b o e f,d.code=.ref b/\t.lookup b=some o/\o.data=.fields e/\e[1]?=some (.str d.qualname f):=by
 unfold OH at a;cases c:yN d.code with
 |none=>rw[c] at a;cases a
 |some b=>
  rw[c] at a;have g:=@nW _ a;exact aG (iQ.mp<|ck<|g 2 rfl) λx ao aA=>aG (gi.mp ao) λi bL h=>⟨b,cJ t b,_,x.2,OL c,AY<|g 0 rfl,GY<|g 1 rfl,by rw[bL,IU h,aA]⟩
def G2(g:fdOf d.K f=some b)(h:G0 d.K e b=true)(i:B_ d e b):Kw d f e b (t9 b.body):=by
 have a:=@nW _ h;exact⟨C7 g,uk (a 0 rfl),(mS _).mp (a 1 rfl),(mS _).mp (a 2 rfl),ck (a 3 rfl),ck (a 4 rfl),ck (a 5 rfl),ahN (a 6 rfl),eB (a 7 rfl),λk l j=>dQ.mp (a 8 rfl) _ j,
  eB (a 9 rfl),λx c=>bne_iff_ne.mp (dQ.mp (a 10 rfl) x c),λx c=>dQ.mp (a 11 rfl) x c,eB (a 12 rfl),i⟩
def a0(b:jD)(c:oA):Bool:=allB [(c.params.posonlyargs++c.params.args).head?.map (·.arg)==some "self",
 b7 (yN c.code) false λa=>allB [(b.lookup a).isSome,mE (cJ b a).data,((pO (cJ b a).data)[2]?.bind En).map (λx=>(iX.main.file:Str)==x.1)==some true],
 b7 (c.closure.lookup ("__class__":Str)) false λa=>allB [(b.lookup a).isSome,Ug (cJ b a).data==some (.ref 236)],
 c.scope.names.all λd=>!(d.1==("__class__":Str))||d.2 !=.cell]
def ajP(h:b.g6=iX)(i:a0 b.K d=true):KC b d:=by
 have g:=@nW _ i;have zL:=g 1 rfl;have qy:=g 2 rfl;refine⟨iQ.mp<|ck<|g 0 rfl,?_,?_,λj l e=>?_⟩
 .cases a:yN d.code with
  |none=>rw[a] at zL;cases zL
  |some f=>
   rw[a] at zL;have c:=@nW _ zL;exact aG (iQ.mp<|ck<|c 2 rfl) λx ao aA=>aG (gi.mp ao) λn bL m=>⟨f,cJ b.K f,_,x.1,x.2,OL a,AY<|c 0 rfl,GY<|c 1 rfl,by rw[bL,IU m],h▸aA⟩
 .cases a:d.closure.lookup _ with
  |none=>rw[a] at qy;cases qy
  |some f=>
   rw[a] at qy;have c:=@nW _ qy;exact⟨f,cJ b.K f,rfl,AY<|c 0 rfl,y'<|ck<|c 1 rfl⟩
 have k:=dQ.mp (g 3 rfl) j l;rw[e] at k;exact bne_iff_ne.mp (((lY ..).mp k).resolve_left λa=>nomatch a)
def z'(b:jD)(a:Nat×Inf):Bool:=allB [(fdOf b a.1).isSome,G0 b a.2<|jd b a.1,!a.2.lam,!(uY<|a.2.sj (jd b a.1) kN)||a0 b (jd b a.1)]
def ac7(a):sE.all (z' (cy a))=true:=au
def xP(b:jD)(a:Inf)(c:oA):Prop:=(∃d,(∀g h,aV g h a.m_ d)/\a.qX=false/\((a.kw=none/\B8 b a c d [] [])\/Kp b a c d))\/
 ((a.m_=[]/\a.kw=none/\a.qX=true)/\Ac a.np λe=>∀f,OE b 40 f (E4 c ⟨e,[]⟩)=some ({cls:=.type "dict",data:=.dict #[]},(a.ns.take<|par a).zip<|e++[.ref f]))
def Gm(c:xP b.K d e):B_ b d e:=by
 obtain⟨p,i,f,a|a⟩|c:=c
 .exactλq r as s t u v w X m g h n=>by
   have j:=h.2.2;rw[a.1,f] at j;have k:=iH j;have g:=k.1▸g;have l:=k.2;rw[cond_false,dR] at l;exact J g.no<|Ls (i _ _) h.1 h.2.1 m aV.nil (by unfold par;rw[a.1,f];exact(JY _).symm) n a.2 l
 .exact tx i f a
 exact tv c.1 c.2
def ie(a:∀e f,aV e f b.m_ d)(c:b.qX=false)(g:b.kw=none)(i:B8 t b h d [] []):xP t b h:=.inl ⟨d,a,c,.inl ⟨g,i⟩⟩
def CD(a:∀e f,aV e f b.m_ d)(c:b.qX=false)(g:Kp t b h d):xP t b h:=.inl ⟨d,a,c,.inr g⟩
def tA(c):AllP (λb=>xP (cy c) b.2 (jd (cy c) b.1)) sE:=by
 exact⟨CD (λU U=>aV.cons (v:=.int 0 291) ⟨_,rfl⟩<|aV.one rfl) rfl ⟨λU=>⟨λU U=>au,λU U U=>au,λU U U U=>au,aQ⟩,λU a=>⟨.none,λU U=>bY a▸rfl,⟨λU U=>au,λU U U=>au,λU U U U=>au,aQ⟩⟩⟩,CD (λU U=>aV.cons (v:=.int 0 304) ⟨_,rfl⟩<|aV.one rfl) rfl ⟨λU=>⟨λU U=>au,λU U U=>au,λU U U U=>au,aQ⟩,λU a=>⟨.none,λU U=>bY a▸rfl,⟨λU U=>au,λU U U=>au,λU U U U=>au,aQ⟩⟩⟩,CD (λU U=>aV.cons (v:=.int 0 318) ⟨_,rfl⟩<|aV.one rfl) rfl ⟨λU=>⟨λU U=>au,λU U U=>au,λU U U U=>au,aQ⟩,λU a=>⟨.none,λU U=>bY a▸rfl,⟨λU U=>au,λU U U=>au,λU U U U=>au,aQ⟩⟩⟩,CD (λU U=>aV.cons (v:=.int 0 331) ⟨_,rfl⟩<|aV.one rfl) rfl ⟨λU=>⟨λU U=>au,λU U U=>au,λU U U U=>au,aQ⟩,λU a=>⟨.none,λU U=>bY a▸rfl,⟨λU U=>au,λU U U=>au,λU U U U=>au,aQ⟩⟩⟩,ie (λU U=>aV.nil) rfl rfl ⟨λU U U U U=>au,aQ⟩,ie (λU U=>aV.nil) rfl rfl ⟨λU U=>au,aQ⟩,ie (λU U=>aV.nil) rfl rfl ⟨λU=>au,aQ⟩,ie (λU U=>aV.nil) rfl rfl ⟨λU=>au,aQ⟩,ie (λU U=>aV.nil) rfl rfl ⟨λU U U U=>au,aQ⟩,ie (λU U=>aV.nil) rfl rfl ⟨λU U U=>au,aQ⟩,ie (λU U=>aV.one (v:=.int 0 501) ⟨_,rfl⟩) rfl rfl ⟨λU=>au,λU U=>au,aQ⟩,ie (λU U=>aV.nil) rfl rfl ⟨λU U U=>au,aQ⟩,ie (λU U=>aV.one (v:=.int 0 520) ⟨_,rfl⟩) rfl rfl ⟨λU=>au,λU U=>au,aQ⟩,ie (λU U=>aV.nil) rfl rfl ⟨λU=>au,aQ⟩,ie (λU U=>aV.one rfl) rfl rfl ⟨λU=>au,λU U=>au,aQ⟩,ie (λU U=>aV.nil) rfl rfl ⟨λU=>au,aQ⟩,ie (λU U=>aV.nil) rfl rfl ⟨λU=>au,aQ⟩,ie (λU U=>aV.one rfl) rfl rfl ⟨λU=>au,λU U=>au,aQ⟩,(CD (λU U=>aV.nil) rfl ⟨λU=>⟨λU U=>au,aQ⟩,λU a=>nomatch a⟩),ie (λU U=>aV.nil) rfl rfl ⟨λU U=>au,aQ⟩,ie (λU U=>aV.nil) rfl rfl ⟨λU=>au,aQ⟩,.inr ⟨⟨rfl,rfl,rfl⟩,(by intro d e f g;kernel_rfl)⟩,ie (λU U=>aV.nil) rfl rfl ⟨λU=>au,aQ⟩,ie (λU U=>aV.nil) rfl rfl ⟨λU=>au,aQ⟩,ie (λU U=>aV.nil) rfl rfl ⟨λU=>au,aQ⟩,ie (λU U=>aV.nil) rfl rfl ⟨λU U U U U=>au,aQ⟩,ie (λU U=>aV.nil) rfl rfl ⟨λU=>au,aQ⟩,ie (λU U=>aV.nil) rfl rfl ⟨λU U=>au,aQ⟩,ie (λU U=>aV.nil) rfl rfl ⟨λU U U=>au,aQ⟩,ie (λU U=>aV.nil) rfl rfl ⟨λU U U U=>au,aQ⟩,ie (λU U=>aV.nil) rfl rfl ⟨λU U U=>au,aQ⟩,aQ⟩
structure tX(g:G)(P:cR):Prop where
 K:g.K=cy P
 g6:g.g6=iX
 nm:xV g
 lim:g.h.NoLimit
 bm:∃oq bm cJ,zV g oq bm cJ
def ajE{k:Inf}(i:tX g f)(p:∃o,g.K.lookup d=some o/\o.data=.func b)(q:zS d b z.env)(l:iS z (k.sj b kN))(r:KC g b)(c:uY (k.sj b kN)=true):KU z h:=λH K m L pos s t u v w y X A a B=>by
 obtain⟨c,D⟩:=(bl ..).mp c;obtain⟨c,E⟩:=(bl ..).mp c;obtain⟨F,G⟩:=(bl ..).mp c;have j:∀{x:Str} {n:Option kH},_=true->z.env.kindOf x=n:=λ{x n} e=>bH l.dg<|ck e
 exact ajG (aaN i.K i.g6) r (TM i.nm i.K) p q (by
  refine aG (ji a) λo U a=>kc (F_ a) λd M N U U a=>?_
  have a:=(iH a).2;rcases ao:m==_ with _|_
  .have a:=fR ao a;rcases aA:m==_ with _|_
   .exact .inr<|.inr (fR aA a).1
   exact .inr<|.inl<|ck aA
  exact .inl (ck ao)) s (bH l.ns<|bH List.head?_eq_getElem? <|ck F) (j G) (j E) (j D) t u v w y X A a B
def Vh{a:Inf}(c:tX g d)(f:zS e b z.env)(h:z.ns=a.ns)(i:∀x,z.lT x=true):iS z (a.sj b kN) where
 ns:=h.symm
 dg:=funext λx=>by unfold Qy;rw[f.scope];rfl
 gl:=aaI c.nm c.K
 lT:=i
def D2{p}(a:tX b d)(g:p∈sE)(q:e.frames=some f)(aU:l_ e (k+1))(r:oO b h k):oQ b e f (.ref p.1) (D6 h kN p.2 (jd b.K p.1)):=by
 have c:=@nW _<|dQ.mp (ac7 d) p g;have i:=tA d |>.mem p g
 rw[<-a.K] at c i;have j:=C8<|c 0 rfl;refine Mq a.lim (G2 j (c 1 rfl)<|Gm i) q aU r λw l s t u U U U=>?_
 have m:=Vh a l t s;refine bH u<|UI (MP a.nm a.K) m (vF.no<|(mS _).mp<|c 2 rfl) (λn=>?_) 60 _;refine ajE a (C7 j) l m (ajP a.g6 (((lY ..).mp<|c 3 rfl).resolve_left λv=>?_)) n;rw[n] at v;contradiction
noncomputable def Bd(x:Str):f7:={kind:=.function,names:=[(".0",.local),("fws",.local),("part",.local),(x,.globalImplicit)],isGenerator:=true,isCoroutine:=false,more:=[]}
noncomputable abbrev N':aI:=.Call (.Name ("sum":Str) ⟨154,15,154,18⟩) [.GeneratorExp (Me "fws" "part" ⟨154,20,154,23⟩ ⟨154,24,154,27⟩ ⟨154,20,154,28⟩ ⟨154,31,154,34⟩ ⟨154,35,154,39⟩ ⟨154,31,154,40⟩ ⟨154,20,154,40⟩)
 [⟨.Tuple [.Name "fws" ⟨154,45,154,48⟩,.Name "part" ⟨154,50,154,54⟩] 0 ⟨154,45,154,54⟩,.Name "self" ⟨154,58,154,62⟩,[],0⟩] (Bd "len") ⟨154,19,154,63⟩,.Attribute (.Name "self" ⟨154,65,154,69⟩) ("_initial_size":Str) ⟨154,65,154,83⟩] [] ⟨154,15,154,84⟩
noncomputable abbrev Oy:aI:=.Call (.Attribute (.Name ("EMPTYSTRING":Str) ⟨157,15,157,26⟩) ("join":Str) ⟨157,15,157,31⟩) [.GeneratorExp (UR "fws" "part" ⟨157,33,157,44⟩ ⟨157,33,157,49⟩ ⟨157,51,157,54⟩ ⟨157,56,157,60⟩ ⟨157,50,157,61⟩ ⟨157,33,157,62⟩ 0)
 [⟨.Tuple [.Name "fws" ⟨157,67,157,70⟩,.Name "part" ⟨157,72,157,76⟩] 0 ⟨157,67,157,76⟩,.Name "self" ⟨157,80,157,84⟩,[],0⟩] (Bd "EMPTYSTRING") ⟨157,32,157,85⟩] [] ⟨157,15,157,86⟩
def ac'(a):t9 (jd (cy a) 203).body=[.Return (some N') ⟨154,8,154,84⟩]:=au
def adg(a):t9 (jd (cy a) 210).body=[.Return (some Oy) ⟨157,8,157,86⟩]:=au
noncomputable def Vu:List (Nat×Nat×Nat×Str):=[(203,202,198,"sum"),(210,209,205,"EMPTYSTRING")]
def WK(a):Vu.map (λb=>((fdOf (cy a) b.1).isSome,G0 (cy a) uy (jd (cy a) b.1),(jd (cy a) b.1).code,codeB (cy a) b.2.1 b.2.2.1,(jd (cy a) b.1).scope.names))=
 Vu.map λb=>(true,true,kJ b.2.1,true,[(("self":Str),NameKind.local),(b.2.2.2,NameKind.globalImplicit)]):=au
def WI(a):xP (cy a) uy (jd (cy a) 203)/\xP (cy a) uy (jd (cy a) 210):=⟨ie (λU U=>aV.nil) rfl rfl ⟨λU=>au,aQ⟩,ie (λU U=>aV.nil) rfl rfl ⟨λU=>au,aQ⟩⟩
def ais:Cd (Bd x) "fws" "part" where
 co:=rfl
 kind:=rfl
 cell:=λa b=>bne_iff_ne.mp<|dQ.mp (show(Bd x).names.all (λa=>a.2 !=.cell)=true by kernel_rfl) a b
 free:=λa b=>bne_iff_ne.mp<|dQ.mp (show(Bd x).names.all (λa=>a.2 !=.free)=true by kernel_rfl) a b
 h0:=au
 HD:=au
 HE:=au
 ne:=bC
def WO(c:tX g f)(a:zS h d z.env)(i:z.ns=uy.ns)(j:d.code=.ref e)(k:b∈fh)(l:b≠445)(m:codeB g.K e b=true)(n:d.scope.names.lookup ("self":Str)=some .local):R7 z (Bd x) "fws" "part" "self" where
 bm:=c.bm
 code:=⟨e,b,CN k m,l,a.code.trans j⟩
 sc:=ais
 s0:=by rw[i];rfl
 lQ:=by unfold Qy;rw[a.scope];exact n
 db:=au
 kh:=au
 L3:=au
def ad5(a:tX d b)(r:f.frames=some h)(aU:l_ f (k+1))(s:oO d j k):oQ d f h (.ref (203:Nat)) wH:=by
 refine vL ((Prod.mk.inj<|iW (WK b) _<|.head _).imp id λc=>(Prod.mk.inj c).imp id λc=>(Prod.mk.inj c).imp id λc=>Prod.mk.inj c) λi l m n g=>?_
 have p:=(WI b).1;have e:=ac' b;rw[<-a.K] at i l m n g p e;have X:=G2 (C8 i) l<|Gm p;rw[e] at X;refine(YS a.lim X r aU s λv q t=>?_).map λas w x y z c=>ad4 c
 have u:(jd d.K 203).scope.names.lookup ("self":Str)=some .local:=by rw[g];kernel_rfl
 exact aj3 (Mx b a.K) a.lim (WO a q t m av av n u) (G8 a.nm a.K<|yD au) au (G8 a.nm a.K<|yD au) (by unfold Qy;rw[q.scope,g];kernel_rfl)
def aju(S:tX d b)(L:f.frames=some j)(aU:l_ f (k+1))(M:oO d s k):oQ d f j (.ref (210:Nat)) wI:=by
 have C:=iW (WK b) _<|.tail _<|.head _;refine vL ((Prod.mk.inj C).imp id λh=>(Prod.mk.inj h).imp id λh=>(Prod.mk.inj h).imp id λh=>Prod.mk.inj h) λRP w z A u=>?_
 have B:=(WI b).2;have e:=adg b;rw[<-S.K] at RP w z A u B e;have X:=G2 (C8 RP) w<|Gm B;rw[e] at X;refine(YS S.lim X L aU M λΓ E iu=>?_).map λas ks W Q Z h=>ajt h
 have hs:(jd d.K 210).scope.names.lookup ("self":Str)=some .local:=by rw[u];kernel_rfl
 obtain⟨t,D⟩:=Z9 S.nm S.K<|.tail _<|.head _;exact have c:=(WO S E iu z av av A hs);λa r Q Z K X F h dY n7=>by
  refine aG (ji h) λo fG h=>?_
  obtain⟨n,iF,ds,rfl,vZ,ps,rfl,g,q⟩:=F_ h;refine z7 c.bm λoq bm cJ KM=>jN c.code λjP p zW O P=>Xg (λt=>rfl) rfl rfl<|G7 D (λp m=>r4 a) Γ.fn (by unfold Qy;rw[E.scope,u];kernel_rfl) Γ.gl Γ.Ag bC ⟨rfl,?_⟩
  refine Vv (Mx b S.K) KM S.lim zW O c.sc P c.s0 c.lQ c.db F fG vZ (Pt c.sc D au c.kh c.L3 rfl) λy x C0 nc R=>?_
  obtain⟨C,I,N,St,my,st,T,Hf,c6,V⟩:=R;have G:=az (cZ _ _) g;refine iZ<|SC.joinGen (J5<|J5 my) V st T hB ?_ (λs2 l m Y=>?_) ?_
  .rintro i v ⟨aoV,aoS,p,t,_,rfl⟩;exact⟨_,_,rfl⟩
  .obtain⟨f1,f2⟩:=ajw (ajx Y) G;refine⟨f1,λuZ Dr g=>?_⟩;exact J f2<|dc.dB dY (a.moved y C0 rfl rfl rfl m Hf c6 g Dr) (mj uZ G) (by show Q _ y.W;rwa [nc])
  exact J (DM ..)<|J kF<|gq<|az (fS _ _) g
def zi(m:tX b d)(e):oO b (CI b.K kN sE e) e:=by
 induction e with
 |zero=>exactλc v w U U U f as g h i j k l U U U a=>bO a
 |succ e n=>
  intro c v w B q aU f as g h i j k l ok r s a t u;rcases ao:c==203 with _|_
  .have a:=fR ao a;rcases aA:c==210 with _|_
   .refine aG (ji<|fR aA a) λx y a=>aG (ji a) λz A a=>D2 m (p:=(c,x)) (yD y) q aU n f as g h i j k l ok r s ?_ t u
    have:jd b.K c=z:=by unfold jd;exact J A rfl
    rwa [this]
   exact(ck aA)▸aju m q aU n f as g h i j k l ok r s (jJ aA a) t u
  exact(ck ao)▸ad5 m q aU n f as g h i j k l ok r s (jJ ao a) t u
def qO(a:cR):oA:=jd (cy a) 448
def FD(a:cR)(b:Nat)(is:List Int):Prop:=D6 (CI (cy a) kN sE b) kN qU (qO a) [.lst<|is.map .int] [] [.tab] (λc U=>c=.bool true) cI
def ac9(a):fh.map (λx=>(cy a).lookup x)=fh.map λU=>none:=au
def ac_(a):((fdOf (cy a) 448).isSome,G0 (cy a) qU (qO a),(qO a).code,(qO a).qualname,uY (qU.sj (qO a) kN))=(true,true,kJ 447,("law":Str),false):=au
def ac3(a):xP (cy a) qU (qO a):=ie (λU U=>aV.nil) rfl rfl ⟨λU=>au,aQ⟩
def WJ(a):allB [codeB (cy a) 202 198,codeB (cy a) 209 205,codeB (cy a) 447 445]=true:=au
def law_code(a:tX e f)(r:d+20<=40):oQ e BW [] (.ref (448:Nat)) (D6 (CI e.K kN sE d) kN qU (jd e.K 448)):=by
 refine vL ((Prod.mk.inj<|ac_ f).imp id λc=>(Prod.mk.inj c).imp id λc=>(Prod.mk.inj c).imp id λc=>Prod.mk.inj c) λm h i j k=>?_
 have l:=ac3 f;unfold qO at h i j k l;rw[<-a.K] at m h i j k l;have aU:l_ BW (d+2):=by
  have ao:1+claimMargin+3*(20+2)+10<Kd:=bC;have aA:4+10*(20+2)+50<xD:=bC;have c:=anD (b:=20) r;exact⟨rfl,bz (j8 (j7 (EZ 3<|j8 c 2) _) 10) ao,bz (j8 (j7 (EZ 10<|j8 c 2) _) 50) aA⟩
 have s:l_ BW (d+1):=⟨aU.h,bz (by simp+arith) aU.d,bz (by simp+arith) aU.u⟩;refine Mq a.lim (G2 (C8 m) h<|Gm l) rfl s (zi a d) λt g u v w x y n=>?_
 have q:=Vh a g v u;have z:=CN (p:=445) av<|a.K▸@nW _ (WJ f) 2 _ rfl;have A:rW t:=⟨y,g.fr,⟨447,z,g.code.trans i⟩,by rw[g.qual,j];kernel_rfl,a.bm,a.lim,λB=>by
  rw[n,x];exact⟨aU.h,bz (show BW.depth+1+1+3*d+12<=_ by simp+arith) aU.d,bz (show BW.units+3+3+10*d+57<=_ by simp+arith) aU.u⟩,by rw[n];exact bz (show BW.depth+1<=_ by simp+arith) aU.d⟩
 exact bH w<|UI (MP a.nm a.K) q (adP (MP a.nm a.K) A q) (λc=>by rw[k] at c;contradiction) 60 _
def adj(a)(x)(b:x∈fh):(cy a).lookup x=none:=iW (ac9 a) x b
def fG(a:J6)(b)(X:(cy a.params).In b):G:=⟨iX,a,b,cy a.params,X,adj a.params⟩
def t_(b:e9):bP:={f:=λa=>bif fh.contains a then none else b.get? a,bW:=λU=>0,w:=λa=>bif fh.contains a then some 0 else none}
def bp(a:x∈fh):fh.contains x=true:=nK.mpr a
def ako(a:x∉fh):fh.contains x=false:=by
 rcases e:fh.contains x with _|_
 .rfl
 exact aW (nK.mp e) a
def Lw(a:x∉fh):(t_ b).f x=b.get? x:=by
 show(bif fh.contains x then none else b.get? x)=_;exact J (ako a) rfl
def TX(a:x∈fh):(t_ b).w x=some 0/\(t_ b).f x=none:=by
 constructor
 .show(bif fh.contains x then some 0 else none)=_;exact J (bp a) rfl
 show(bif fh.contains x then none else b.get? x)=_;exact J (bp a) rfl
def vi(e:(t_ d).w x=some b):x∈fh/\b=0:=by
 have e:(bif fh.contains x then some 0 else none)=some b:=e;rcases a:fh.contains x with _|_
 .rw[a] at e;contradiction
 rw[a] at e;exact⟨nK.mp a,(bY e).symm⟩
def rep0{g:J6}(X:(cy g.params).In d)(h:∀b∈fh,d.get? b=some (tabObj #[])):Rep (fG g d X) (t_ d) [.tab] d where
 cG:=λb o e=>by
  have e:(bif fh.contains b then none else d.get? b)=some o:=e;rcases a:fh.contains b with _|_
  .rw[a] at e;exact e
  rw[a] at e;contradiction
 base:=λb o e c=>(Lw c).trans e
 objs:=λf o e=>by
  obtain _|f:=f
  .cases e
   exactλj i=>⟨(TX i).1,#[],h j i,aQ,λU U U a=>nomatch a⟩
  contradiction
 own:=λb f e=>by
  obtain⟨c,rfl⟩:=vi e;exact⟨(TX c).2,Nat.zero_lt_one,dJ<|h b c⟩
 kC:=rfl
variable{N:Nat}
def acw(a:hg b is):aV d N (is.map .int) b:=by
 induction a with
 |nil=>exact aV.nil
 |cons f c g e=>exact aV.cons ⟨c,rfl⟩ e
variable{y:bf}
def adU{fP:Str->Option aF}{cJ:Obj}(X:(cy d.params).In y.heap)(c:∀k∈fh,y.heap.get? k=some (tabObj #[]))(r:y.heap.Ns l8 l)(a:y.heap.Ns oK fP)(F:∀x:Str,x≠"__name__"->fP x=ij x)(G:y.heap.NoLimit)(K:l "__builtins__"=some (.ref f))(L:f≠oK)(t:y.heap.get? f=some cJ)(u:cJ.cls=.type "module")(M:cJ.dict=some oK)(N:cJ.data=.plain)(v:y.heap.get? j=some (eV n 0))(c6:hg n is)(O:H is<=63)(P:y.gens=#[])(iu:s+20<=40)(Q:FD d.params s is):
 nQ (model iX d) BW (.call (.ref (448:Nat)) ⟨[.ref j],[]⟩) (λB m=>B=.ok (.ret<|.bool true)/\OldK y.heap m.heap/\m.os=y.os/\e5 m.gens) y:=by
 have w:∀x,y.heap.get? x=some (tabObj #[])->∀o:Obj,o.cls≠.none->y.heap.get? x=some o->False:=λx e o jS q=>by rw[e] at q;exact jS<|bY q▸rfl
 have R:=λq=>w j (c j q) _ (λq=>nomatch q:Value.type "list"≠Value.none) v
 let S:tX (fG d y.heap X) d.params:=⟨rfl,rfl,⟨l,fP,r,a,F⟩,G,l,f,cJ,r,K,L,t,(λq=>w f (c f q) cJ (u▸(λq=>nomatch q)) t),u,M,N⟩;let k:aL _:=⟨t_ y.heap,[.tab],y,rep0 X c⟩;have uN:k.V (.lst _) _:=⟨J (aX ..)<|az O av,j,n,0,rfl,(Lw R).trans v,acw c6⟩;have q:=Q;refine law_code S iu k _ [] [.ref j] [] _ _ _ (λU h=>nomatch h) (aV.one uN) ⟨rfl,aV.nil⟩ q (λx e=>?_) λx q=>q.elim
 have z:=x.bw;rw[e] at z;have D:=λb o a e=>x.R.cG b o<|x.le.le.f b o<|(Lw a).trans e
 refine⟨J z rfl,⟨λb o e=>?_,λb o e=>?_⟩,x.le.os,x.le.gens.bare<|P▸.empty⟩
 .by_cases a:b∈fh
  .refine aG ((x.R.tab b a).2) λE g U=>?_
   rw[c b a] at e;have A:=@nW _<|WJ d.params;have i:∃p,xQ (fG d y.heap X) p b:=by
    obtain rfl|a:=cQ.mp a
    .exact⟨202,CN av<|A 0 rfl⟩
    obtain rfl|a:=cQ.mp a
    .exact⟨209,CN av<|A 1 rfl⟩
    exact(dK.mp a)▸⟨447,CN av<|A 2 rfl⟩
   obtain⟨p,i⟩:=i;obtain⟨o',T,_,_,_,_,_,_,_,V,W,Y,Z,_⟩:=i.at_;have e:=bY e;exact .inr<|.inl ⟨⟨p,o',T,X _ _ V,W,Y,Z⟩,e▸rfl,#[],E,e▸rfl,by rw[g,<-e,Array.empty_append]⟩
  exact .inl<|D b o a e
 by_cases a:b∈fh
 .exact aG ((x.R.tab b a).2) λE g U=>⟨_,g⟩
 exact⟨o,D b o a e⟩
set_option tactic.hygienic true in
def ao_(n)(iu:n+20<=40)(d:∀b is,H is<=63->FD b n is):mP.Holds:=by
 refine abd ?_;intro w apa Er oq fP G Y GV o pm cd doc aoI WG cu hd aoP bT e Ay args O as f i j k m;have e_:=km_in_of Y;refine Ground.open G ?_;intro T B D TE TW;have p:448=GV:=Value.ref.inj<|bY<|(mg_of e_ T.g au).symm.trans e;rw[<-p]
 wrow_args f i j k m
 rename_i is VT aoT aoO P Q R S l cY V q ao8 s rf c6 W t X;have u:=by
  cases s with
  |list g _=>
   obtain⟨o',g2,_,Xj,g3⟩:=q;rw[g] at g2;cases g2
   cases g3
   exact g
 have c:H is<=63:=bA.mp λh=>t<|nI.mpr h
 refine Cr T.bmain λbm cJ v x y A E F=>?_
 refine pX (codeAny_mono (adU e_ (km_tabs_of Y) T.g T.b T.builtins T.nolimit v x y A E F u c6 c Ay iu<|d w.params is c) λr s' z=>?_);refine tZ z λK L M N=>?_;subst K
 refine⟨.inl ⟨.bool true,.bool true,[],rfl,λZ=>rfl,.bool true,au,λU=>⟨List.nodup_nil,λa h=>by contradiction⟩⟩,L,M,N⟩
def adh(a):B.jG.map (λb=>(fdOf (cy a) b.1).isSome)=B.jG.map λU=>true:=au
def ac5(a)(c):B.jG.map (λb=>Bg c 60 (b.2.1.sj (jd (cy a) b.1) kN) (t9 (jd (cy a) b.1).body))=B.jG.map λb=>B.br b.2.2 c:=au
def ac6(a)(b):Bg b 60 (qU.sj (qO a) kN) (t9 (qO a).body)=B.br B.gS b:=au
variable{w:Type}
def aea{e:Type}(d:w->e)(c)(a:List (Nat×w)):(a.map λb=>(b.1,d b.2)).lookup c=(a.lookup c).map d:=by
 induction a with
 |nil=>rfl
 |cons b a f=>
  rw[i6,nM,nM,f];cases c==b.1<;>rfl
def ad'{x:w}{c:List (Nat×w)}(a:c.lookup b=some x):(b,x)∈c:=by
 induction c with
 |nil=>contradiction
 |cons d c f=>
  rw[nM] at a;rcases e:b==d.1 with _|_
  .rw[e] at a;exact .tail _<|f a
  rw[e] at a;rw[ck e,<-bY a];exact .head _
def ack:sE=B.jG.map λb=>(b.1,b.2.1):=rfl
def y2(c)(b):CI (cy c) kN sE b=B.aB b:=by
 induction b with
 |zero=>rfl
 |succ b j=>
  funext a as ks W Q Z;show sel (a==203) (wH as ks W Q Z) (sel (a==210) (wI as ks W Q Z) (opt (sE.lookup a) λk=>opt (fdOf (cy c) a) λf=>D6 (CI (cy c) kN sE b) kN k f as ks W Q Z))=sel (a==203) (wH as ks W Q Z) (sel (a==210) (wI as ks W Q Z) (opt (B.jG.lookup a) λd=>rm d.1 (B.br d.2<|B.aB b) as ks W Q Z));rw[j,ack,aea λd:Inf×List B.Y=>d.1];rcases e:B.jG.lookup a with _|d
  .rfl
  have g:=ad' e;have l:=hz.mp (adh c) _ g;have h:=hz.mp (ac5 c<|B.aB b) _ g;rcases i:fdOf (cy c) a with _|f
  .rw[i] at l;contradiction
  have bL:jd (cy c) a=f:=by unfold jd;rw[i];rfl
  rw[bL] at h;show sel (a==203) (wH as ks W Q Z) (sel (a==210) (wI as ks W Q Z)<|rm d.1 (Bg (B.aB b) 60 (d.1.sj f kN)<|t9 f.body) as ks W Q Z)=_;rw[h]
  rfl
def aoY(a)(is)(b:H is<=63):FD a 7 is:=by
 have d:=B.adT (is:=is) (bz b av) 0;unfold FD;rw[y2];show rm qU (Bg (B.aB 7) 60 (qU.sj (qO a) kN)<|t9 (qO a).body) [.lst<|is.map .int] [] [.tab] (λc U=>c=.bool true) cI;rwa [ac6]
end M.Internal
end
theorem PySem.Challenge.cw_uy0026_01_holds : PySem.Challenge.rw_uy0026_01.Holds :=
 M.Internal.ao_ 7 (by decide) M.Internal.aoY
