import PyProof.Rows.All
import Wide.All
import OpenK.AllK
import Wide.FinOn
import KE.KSetDisp
import KE.KOwnIter
import KE.KStar
import KE.KBoundM
import KE.KDictIter
import KE.KSortTup
import KE.KSliceW
import Lean
import PySem.Challenge.RW_ik0092_01
open And renaming intro→aiX
open Array renaming length_toList→aaQ,getElem?_eq_some_iff→abH,toList_append→acn,eq_empty_of_size_eq_zero→adm,getElem?_toList→adG,size_append→aet,toList_push→aeu,toList_setIfInBounds→afq,getD→agw,push_eq_append→ag0,toArray_toList→ag6
open Bool renaming and_eq_true→aaM,false_eq_true→aaU,false_ne_true→aa1,not_eq_true'→ab3,eq_iff_iff→ac7,true_and→adC,and_eq_true_iff→adS,or_false→afN,not_true→afV,and_false→agY,or_eq_false_iff→agZ,or_eq_true→aix
open Classical renaming byContradiction→abX,choose→adp,choose_spec→aeJ
open ForInStep renaming yield→air
open Int renaming natCast_nonneg→abr,ofNat_lt→abT,toNat_natCast→ade,lt_of_le_of_lt→adq,fmod_eq_emod_of_nonneg→adT,natCast_add→ad_,le_trans→aeq,not_lt→aeK,le_of_eq→ae7,lt_trans→afa,add_sub_cancel→afd,lt_of_lt_of_le→afe,ofNat_inj→afY,not_le→agi,le_of_lt→agj,ofNat_le→agq,toNat_of_nonneg→ahc,add_lt_add_left→ahd,lt_irrefl→ahn,add_comm→ahK,add_zero→ah3,sub_sub→aik,emod_nonneg→aip,fmod→aiF
open Lean renaming Syntax→adL
open Lean.Macro renaming throwUnsupported→acb
open List renaming length_map→aaa,mem_append_right→aad,mem_append_left→aaf,getElem?_map→aag,mem_cons→aai,map_append→aaj,map_cons→aan,length_append→aar,mem_map_of_mem→aat,getElem?_eq_some_iff→aav,append_assoc→aaw,mem_append→aax,getElem?_eq_getElem→aay,mem_of_getElem?→aaA,nodup_cons→aaB,length_cons→aaF,mem_map→aaH,take_add_one→aaK,mem_singleton→aaL,append_nil→aaO,getD_eq_getElem?_getD→aaR,perm_middle→aaS,cons_append→aaT,length→aaV,nodup_append→aaX,perm_append_comm→aaY,all_eq_true→aaZ,nil_append→aa0,length_drop→aa9,map_map→aba,filter_eq_nil_iff→abc,take_of_length_le→abd,length_take_le'→abh,take_length→abi,flatten_cons→abj,nodup_nil→abn,mem_filter→abq,range→abu,length_range→abC,idxOf_lt_length_of_mem→abD,length_singleton→abE,length_filter_le→abF,map_eq_cons_iff→abL,count_cons→abM,not_mem_nil→abO,filter_cons→abP,filter_append→abS,foldl_append→ab4,toArray→acg,sublist_cons_self→acj,getElem?_range→acp,foldl_cons→acu,pairwise_iff_getElem→acw,drop_eq_getElem_cons→acx,getElem?_eq_none→acz,getElem_mem→acB,map_nil→acE,count_eq_zero_of_not_mem→acI,size_toArray→acJ,filter_cons_of_neg→acK,filter_cons_of_pos→acL,map_congr_left→acP,getElem?_append_right→acX,sublist_append_right→ac1,getElem?_eq_none_iff→ac2,getElem?_append_left→ac4,sum_cons→adh,toList_toArray→adi,flatten_append→adj,length_take→ado,drop_of_length_le→adw,append_eq_nil_iff→adx,length_nil→ady,all_cons→adB,mem_range→adP,mem_of_mem_take→adR,count_cons_self→adU,lookup_cons→adW,filterMap_cons→adZ,map_eq_nil_iff→ad0,length_take_le→ad2,reverse_append→ad3,sublist_append_left→ad7,getElem_idxOf→aei,pairwise_cons→aej,map_id→aen,forIn_nil→aew,pairwise_map→aeD,drop_left→aeF,map_take→aeT,mem_iff_getElem→aeZ,take_append_of_le_length→ae0,forIn_cons→ae3,zip_cons_cons→afh,mem_filterMap→afj,replicate→afk,tail_drop→afv,take_left→afw,drop_drop→afx,getLast?_eq_some_iff→afz,ext_getElem?→afK,length_filterMap_le→afX,drop_length→agg,length_eq_zero_iff→agh,filter_map→agD,filter_nil→agE,take_append_drop→agL,count_cons_of_ne→agM,eq_nil_or_concat→agN,concat_eq_append→agO,mem_cons_of_mem→ag7,perm_iff_count→ahh,filter_eq_self→ahk,length_flatten→ahm,any_cons→aho,contains_cons→ahC,map_singleton→ahH,countP_append→ahI,count_append→ahV,Sublist→ahZ,reverse_cons→ah2,filter_congr→ah4,isEmpty_map→ah_,countP_cons→aia,mem_reverse→aii,mem_flatMap→aij,find?_cons→aiq,head?_drop→aiv,head?_cons→aiw,range_succ→aiy,head?→aiM,drop_take→aiO,take_zero→aiP,map_drop→aiV,Perm→aiY,tail→aiZ
open List.Pairwise renaming imp_of_mem→afZ,nil→ah5
open List.Perm renaming cons→abB,append_left→acY,append_right→aez,swap→afi,refl→agU,nil→aiW
open List.Sublist renaming refl→ab0,append→adY
open List.cons renaming injEq→acr,inj→aiT
open Nat renaming le_trans→aab,le_of_ble_eq_true→aae,le_refl→aak,add_le_add→aam,le_of_eq→aaz,lt_of_le_of_lt→aaC,zero_le→aaD,lt_of_lt_of_le→aaE,le_antisymm→aaI,le_of_lt→aaN,mul_le_mul_left→aaW,le_succ→aa2,le_add_right→aa5,add_sub_of_le→aa7,le_of_not_lt→aa8,add_le_add_left→abe,ne_of_lt→abf,le_add_left→abm,lt_of_le_of_ne→abt,lt_succ_self→aby,mul_le_mul_right→abz,ne_of_gt→abG,le_add_right_of_le→abU,sub_pos_of_lt→abY,le_of_lt_succ→abZ,le_succ_of_le→ab1,le_of_sub_eq_zero→ab5,add_le_add_right→ab8,lt_of_sub_eq_succ→acy,not_lt_of_le→acA,succ_le_succ→acC,div_lt_of_lt_mul→acF,sub_lt_sub_left→acN,le_of_succ_le_succ→acS,lt_of_not_le→acT,le_add_left_of_le→ac0,min_eq_left→ac5,succ_pos→ac8,lt_add_of_pos_right→adk,succ_pred_eq_of_pos→adl,sub_self→adv,sub_le_iff_le_add→adE,le_sub_one_of_lt→adK,sub_le→aed,not_lt→aef,pos_of_lt_add_right→aek,add_sub_cancel_left→aep,lt_succ_of_lt→aeC,pred_lt_of_lt→aeE,le_div_iff_mul_le→aeG,sub_eq_of_eq_add→aeU,le_of_add_le_add_right→afc,lt_add_right→af0,succ_mul→agx,one_ne_zero→agB,one_pos→agP,eq_add_of_sub_eq→agQ,lt_sub_of_add_lt→agR,add_left_cancel→ahe,mod_two_ne_zero→ahl,sub_lt→aht,lt_succ_of_le→ahL,zero_add→ahM,lt_of_sub_pos→ahN,succ_le_of_lt→ahW,lt_trans→ah0,succ_ne_self→aic
open Ne renaming symm→aeR
open Option renaming map_eq_some_iff→aaq,map_some→ae6,isSome_iff_exists→afS,map→agv,isSome_map→ahS,getD_none→aih,map_none→ais
open Option.some renaming inj→aaJ
open Prod renaming fst→aes,snd→afg,ext→ai4
open Prod.mk renaming inj→afI
open PyProof renaming noPylong_small→agy
open PyProof.Rows renaming seqObj→acv,AllBare→agk
open PySem renaming wpAny_bind→aac,Builtin→aah,wpAny_pure→aal,Params→aao,Shared→aas,wpAny_mono→aau,FuncData→aaP,foldedSetIterable→aa4,seg_bind_wrap→aa_,builtinsNs→abg,wpAny_holding→abk,isSubtype_type→abo,builtinLookup_eq_fast→abv,wpAny_standAt→abw,wpAny_call→abI,wpAny_newObj_type→abJ,rawInt→abK,DictEntry→abN,OsState→abW,wpAny_of_eq→ab2,seg_execs_cons→ab6,typeLookup_type→ab7,mainGlobals→ab9,GenState→ach,starEach→aci,treeTable→acm,cellsFrom→aco,wpAny_field→acq,codeAny_builtin→acs,wpAny_specialOf→acM,reprText→acQ,isSubtype→acU,entryFor_of_tree→acV,wpAny_setField→acW,swapsWith→ac6,BindsTo→ac9,sizeLine→ac_,bindArgs→adb,wpAny_callSpecial?_slot→adn,Around→ads,codeAny_mono→adu,wpAny_updateSeq→adz,wpAny_ite_false→adA,seg_execs_nil→adD,genEnv→adH,wpAny_truthy_bool→adI,recursionLimit→adM,wpAny_letTemporaryGo→adO,typeIs_str→adQ,wpAny_isInstance→adV,Operator→ad4,Comprehension→ad5,attributeBase→ad6,plainId_quiet→ad8,codeAny→ad9,letOwnedTupleGo→aea,theTreesLotGoes→aeb,codeAny_of_tree→aec,wpAny_Constant_str→aee,backTo→aeg,noteFrame→ael,wpAny_assign_Name→aev,relabel→aex,wpAny_fieldsOf→aeA,codeAny_call_function→aeI,typeLookup→aeL,wpAny_call_entry→aeM,wpAny_rule→aeN,closureFor→aeO,strKind→aeQ,allTrue→aeS,keywordEach→aeV,wpAny_newFunctionEnv→aeW,codeAny_call_builtin→aeX,entryFor→aeY,wpAny_with_toks→ae4,bootBuiltins→ae8,call_meetsIn→ae9,evalEach→afl,methodCallForm→afm,call_meets→afn,letTemporaryGo→afo,firstArgMember→afr,wpAny_newTuple→afs,NameKind→afu,wpAny_isNot_plain→afB,wpAny_Call_method→afC,wpAny_pyIter_list→afD,sliceBounds→afE,sizeLine_eq→afJ,ExceptHandler→afL,behindInMarks→afM,arm_eval_Call→afO,methodCallPos→afP,wpAny_Call_NameR→af3,wpAny_list_append_plain→af4,pushEnvs→af6,wpAny_pyIter_gen→af_,checkBuiltinCall→agb,wpAny_callSpecial?_none→agc,opaqueClassAbove→agd,standAt→agl,wpAny_pyNext_list_item→ago,assign→agr,wpAny_typeOf→agt,importedModules→agC,wpAny_storeName_local→agF,wpAny_pyNext_list_end→agG,getitemInPython_of_ne→agI,wpAny_pyIter_listiter→agJ,wpAny_loadName_local→agT,wpAny_is_plain→agV,backToKw→agW,wpAny_throw→ag1,wpAny_runValue→ag2,wpAny_seqItems→ag4,checkBoundCall→ag5,seg_again→aha,Fin→ahb,codeAny_forLoop_any→ahg,wpAny_handled→ahp,wpAny_newList→ahr,rangeSize_one→ahs,Result→ahu,cameBackBy→ahw,newEnv→ahx,boolOp→ahy,arm_eval_Attribute→ahz,methodCall→ahA,pyNext→ahB,wpAny_load→ahE,holding→ahO,setField→ahP,getAttr→ahR,newTuple→ahU,codeAny_func→ahX,callAny→ahY,setFlight→ah7,typeOf→ah8,pyIter→ah9,updateSeq→aid,codeAmong→aie,argsOk→aif,wpAny_letGo→aio,Program→aiA,notedBy→aiB,importEnds→aiC,sysModules→aiD,assignEach→aiI,compEnvC→aiK,compTurn→aiL,newExc→ai1
open PySem.Around renaming under_plainId→acH
open PySem.Bind renaming madeBy→afH,staticBase→aiu,checkArgs→aiN
open PySem.Builtin renaming divisionGoesByPylong→ae5
open PySem.Builtin.Deque renaming clear→ahi,size→ahF
open PySem.Builtin.Exceptions renaming excPut→aiR
open PySem.Builtin.Generator renaming genWake→aiQ
open PySem.Builtin.List renaming listExtendWith→acR,listSameRef→adg,listTooLong→afR,listUpdate→age,listTouch→agu
open PySem.Builtin.Range renaming rangeSize→ab_,small→acO
open PySem.Builtin.Str renaming strSliceIndices→adJ
open PySem.Calls renaming Name_function_global→adN,spliced_cons→aeh,loadGlobal_builtin→ahv
open PySem.Challenge renaming pw_ik0092_01→ae1,rw_ik0092_01→ae2
open PySem.Code renaming quiet_builtin→aft
open PySem.EntryCells renaming newEntry→ahf
open PySem.F renaming plainAttrs_list→aca,excRaise_ValueError→acd,excCall_ValueError→ack,slot_str_join→acZ,plain_extend_loop→ac3,plainAttrs_dict→aeo,plainAttrs_str→aey,slot_dict_get→aeH,slot_dict_delitem→afy,slot_list_extend→afQ,slot_str_replace→afT,slot_str_getitem→afU,slot_dict_values→afW,slot_list_clear→af5,args_str_join_2→af7,slot_list_count→af8,slot_list_index→af9,plain_list_iadd→aga,slot_dict_items→agf,entry_dict_get→agp,entry_str_join→ags,slot_list_pop→agH,type_str_join→agK
open PySem.Heap renaming get?_push_of_some→aap,get?_push_size→aaG,lt_size→aa3,get?_update_self→abl,get?_update_other→abp,size_push→acG,SameBut→agm,ExtBut→agX,get?_update_ne→ahj,get?_push_ne→ah1
open PySem.Heap.IsGen renaming typeIs→afG
open PySem.Heap.SameBut renaming update→abx
open PySem.Manifest renaming find?→afp,isStub→ait
open PySem.Meets renaming of_wp→ain
open PySem.NameKind renaming «local»→aeB,«free»→aiU
open PySem.Obj renaming mapSeq→abb,mapFields→acD,data_mapFields→adt,isFreed_of_fields→adF,cls_mapFields→ahQ
open PySem.PyData renaming keyHash→aff
open PySem.ScopeKind renaming function→ahG
open PySem.Sem renaming onRaise_eq_wrap→ad1,bind_eq_wrap'→afF,wrap_wrap→ahq,bind_eq_wrap→aib
open PySem.SeqAt.EqAt renaming str_str→ahD
open PySem.Str renaming ofString→abA,append_empty→agz,empty_append→agA,length→aiG
open PySem.Txt renaming replace→ada
open PySem.Value renaming none→aa6,ref→abQ,type→abR,isStrOf→aiS
open PySem.W renaming behindTheImports→abV,findIn→adf,methodObj→adX,callWith_of→aem,SharedT→aer,opening→aeP,looks_findIn→ae_,emptyDict→afb,instObj→afA,piece_app→af1,segRun_of→af2,codeRec_of→agn,piecesOf→agS,plainGet_of→ag3,segRunT→ag8,namesMeet→ag9,specialIn→ag_,readsAllW_cons_inv→ahJ,handedOut_of→ahT,dictOf→ah6,lookIn_dict→ail,looks_subIn→aim,mg_none_of→aiE,typeIn→aiH,keepIn→ai0,tabObj→ai2,kms_lo→ai3
open PySem.W.Looks renaming of_pure→ace,of_peek→acf,ld→aiJ
open PySem.W.WShape renaming hasItems→aiz
open PySem PySem.W PyProof.Rows PySem.Calls
set_option Elab.async false
set_option linter.all false
set_option maxRecDepth 100000
set_option maxHeartbeats 4000000
set_option bootstrap.genMatcherCode false
namespace Mine
local macro_rules (kind := Lean.Parser.Command.declaration) | s => if ((s.getArg 1).getArg 0).getHeadInfo matches .none then acb else let v := ((s.getArg 1).getArg 0).getAtomVal; let t := s.setArg 1 ((s.getArg 1).setArg 0 (.atom .none v)); return if (v == "def" || v == "abbrev") && ((s.getArg 0).getArg 1).getNumArgs + ((s.getArg 0).getArg 6).getNumArgs == 0 then t.setArg 0 ((s.getArg 0).setArg 4 (.node .none `null #[.node .none `Lean.Parser.Command.noncomputable #[.atom .none "noncomputable"]])) else t
section
section
variable{a b c d e f g:Nat}{i j k l:Int}
theorem bh{L R l r:Nat}(h:l≤r)(e:L+r≤R+l):L≤R:=afc (aab e (abe h R))
theorem DG(p:c=a-b)(q:b<a):a-(b+1)<c:=p▸acN q (aby _)
theorem Lf(p:a+(c+1)<b):a<b:=aaC (aa5 _ _) p
theorem Rq(p:a+(b+1)<c):a+1+b<c:=bh p (by simp+arith)
theorem WP(p:a+(b+1)<c):a+0+1+b<c:=bh p (by simp+arith)
theorem Si(p:a+8*(b+1)<c):a+3+8*b<c:=bh p (by simp+arith)
theorem WQ(p:a+8*(b+1)<c):a+1+0+3+8*b<c:=bh p (by simp+arith)
theorem Ye(p:a+(b+1)<c):a+1+0+b<c:=bh p (by simp+arith)
theorem Sj(p:a+8*(b+1)<c):a+1+3+0+8*b<c:=bh p (by simp+arith)
theorem Yf:a+2≤a+6:=abe (aae rfl) _
theorem DH(p:a≤50):a≤900:=aab p (aae rfl)
theorem LH(p:b+a≤900):a≤1000:=bh p (by simp+arith)
theorem Sk(p:b+c≤50)(q:b=a+d):a≤900:=bh (aam p (aaz q.symm)) (by simp+arith)
theorem Sl(p:c+b≤50)(q:c=d+a):a+b≤900:=bh (aam p (aaz q.symm)) (by simp+arith)
theorem Sm(p:b=a+(c+1)):(a:Int)<(b:Int):=abT.mpr (p▸adk (ac8 _))
theorem Sn:a+b+1=a+1+b:=aaI (by simp+arith) (by simp+arith)
theorem DJ(p:c=b)(q:a<c):a<b:=p▸q
theorem So(p:j-(a:Int)=0)(q:j=i+(a:Int)):i=0:=((congrArg (·-(a:Int)) q).trans (afd _ _)).symm.trans p
theorem LI(p:c=a)(q:¬b<c):a≤b:=bh (aam (aaz p.symm) (aa8 q)) (by simp+arith)
theorem Sp(p:i=j+(a:Int))(q:j=0):i-(a:Int)=0:=(congrArg (·-(a:Int)) p).trans ((afd _ _).trans q)
theorem LJ(p:¬a<b)(q:a<b+1):a=b:=aaI (bh q (by simp+arith)) (bh (aa8 p) (by simp+arith))
theorem vQ(p:a≤100):a≤900:=aab p (aae rfl)
theorem Sq(p:a≤100):1+a≤900:=bh p (by simp+arith)
theorem Sr(p:a≤b)(q:b≤800):0+a≤1000:=bh (aam p q) (by simp+arith)
theorem Ss(p:b≤1000)(q:a=b):a+1≤1000000:=bh (aam p (aaz q)) (by simp+arith)
theorem Su(p:a≤707)(q:b≤100):a+(1+b)≤900:=bh (aam p q) (by simp+arith)
theorem Sv(p:a≤b+(c+1)):a≤b+1+c:=bh p (by simp+arith)
theorem Sw(p:b+a≤900):a≤900:=bh p (by simp+arith)
theorem Aq(p:a≤707):a≤900:=aab p (aae rfl)
theorem Sx(p:c<b)(q:d≤c)(r:a<d):a<b:=bh (aam p (aam q r)) (by simp+arith)
theorem Yg:a+2≤a+10:=abe (aae rfl) _
theorem Sy(p:b<1000)(q:b=a):a+1≤1000:=q▸p
theorem Yh:a≤a+1+1:=abU (aa2 _)
theorem Ar(p:c≤b)(q:a<c):a≤b:=aaN (aaE q p)
theorem HL(p:b≤100)(q:a=b):a≤100:=q▸p
theorem Sz(p:b≤700)(q:a=c+d)(r:b=c)(s:d≤e)(t:e≤100):a≤900:=q▸aab (aam (r▸p) (aab s t)) (aae rfl)
theorem SB(p:b≤100)(q:a=b):a≤1000:=bh (aam p (aaz q)) (by simp+arith)
theorem Yi:a+5≤a+10:=abe (aae rfl) _
theorem SC(p:b+c≤1000)(q:a≤b+d)(r:d<c):a≤1000:=bh (aam p (aam q r)) (by simp+arith)
theorem SD(p:a≤b):a+1≤b+1+1:=bh p (by simp+arith)
theorem SF(p:f≤d)(q:a≤b+f+e+c):a≤b+(c+(d+e)):=bh (aam p q) (by simp+arith)
theorem SG(p:a≤500)(q:b≤c*500):a+b≤c*500+500:=bh (aam p q) (by simp+arith)
theorem SH(p:b≤501)(q:a≤c+d)(r:c≤b*500)(s:d=0):a≤1000000:=aab q (aab (aam (aab r (abz 500 p)) (aaz s)) (aae rfl))
theorem SJ(p:b+c=a+d)(q:b+c≤900):a≤900:=bh (aam (aaz p.symm) q) (by simp+arith)
theorem SK(p:b≤100)(q:a=b):a≤900:=bh (aam p (aaz q)) (by simp+arith)
theorem SL:Max.max 0 (Min.min (a:Int) (a:Int))=(a:Int):=(congrArg (max 0) (Int.min_self _)).trans (Int.max_eq_right (abr _))
theorem SM(p:b≤1000)(q:b=a+0):a≤1000:=bh (aam p (aaz q.symm)) (by simp+arith)
theorem SN(p:a<1000):a+1<4096:=bh p (by simp+arith)
theorem SO(p:a≤c)(q:d-a=b+e)(r:d=c):a+b≤c:=aab (abe (aab (aa5 b e) (aaz (q.symm.trans (congrArg (·-a) r)))) a) (aaz (aa7 p))
theorem LK(p:a%2=0):(a+1)%2=1:=(Nat.add_mod a 1 2).trans (congrArg (λz=>(z+1%2)%2) p)
theorem Gl(p:a=b+(c+1)):a=b+1+c:=aaI (bh (aaz p) (by simp+arith)) (bh (aaz p.symm) (by simp+arith))
theorem LL(p:b≤500)(q:c≤b)(r:d<c)(s:a≤d):a≤1000000:=bh (aam p (aam q (aam r s))) (by simp+arith)
theorem LM(p:a≤50):a<64:=bh p (by simp+arith)
theorem LN(p:a=d+1+e)(q:f-d=e+1+(b+g))(r:f=c):a+b≤c:=bh (aam (aaz p) (aab (Nat.add_lt_of_lt_sub (bh (aaz q.symm) (by simp+arith)):e+(b+g)+d<f) (aaz r))) (by simp+arith)
theorem LO(p:a≤c):a+(2*b+3)≤2*b+3+c:=bh p (by simp+arith)
theorem LQ(h1:a=b+(c+1)):¬a=b:=λq=>abG (adk (ac8 c)) (h1.symm.trans q)
theorem LR(p:b+(2*c+3)≤d):2*a+3+b+(2*c+3)≤2*a+3+d:=bh p (by simp+arith)
theorem LS(p:a≤3*b):a+1≤3*(b+1):=bh p (by simp+arith)
theorem LT(p:a≤50)(q:i=(b:Int))(r:b<a):0≤i∧i<1000:=q▸⟨abr _,abT.mpr (aaE r (aab p (aae rfl)))⟩
theorem LU(p:e+c+1<d+1)(q:a+(2*b+3)≤e):a+(2*(b-0)+1+c)+0<d:=bh (aam p q) (by simp+arith)
theorem LV(p:c=a+1+d)(q:c+e≤b):a≤b:=bh (aam (aaz p.symm) q) (by simp+arith)
theorem LW(p:c≤1000)(q:a≤3*d)(r:b≤1)(s:d<c):a+b≤4000:=bh (aam (aaW 3 p) (aam q (aam r (aaW 3 s)))) (by simp+arith)
theorem LY:a+(b+1+1)=a+1+b+1:=aaI (by simp+arith) (by simp+arith)
theorem LZ(p:a+(2*(b-c)+1+d)+0<e+1)(q:c<b):a+(2*(b-(c+1))+1+d)+1<e:=(λ(w:Nat) (z:w+1=b-c)=>(bh (z.symm▸p:a+(2*(w+1)+1+d)+0<e+1) (by simp+arith):a+(2*w+1+d)+1<e)) _ (adl (abY q))
theorem L1(p:a+(2*(d-e)+1+b)+0<c+1):a+b+0<c:=bh p (by simp+arith)
theorem xa(p:b≤d)(q:a+d<c):a+b<c:=aaC (abe p _) q
theorem L4(p:a+8*(b+1)<c):a+1+8*b<c:=bh p (by simp+arith)
theorem xb(p:b≤d)(q:a+8*d<c):a+8*b<c:=aaC (abe (aaW _ p) _) q
theorem L5(p:a=c)(q:c+1≤b):a<b:=p▸q
theorem L6(p:a+8*(b+2)<c):a+8*(b+1)<c:=bh p (by simp+arith)
theorem L7(p:a=c)(q:c<d)(r:d≤b):a<b:=bh (aam (aaz p) (aam q r)) (by simp+arith)
theorem L8(p:a=c)(q:b≤c):¬a<b:=acA (bh (aam (aaz p.symm) q) (by simp+arith))
theorem L9(p:a=c+1+d):a+b=c+1+(d+b):=aaI (bh (aaz p) (by simp+arith)) (bh (aaz p.symm) (by simp+arith))
theorem L_(p:b≤500)(q:c≤b)(r:a≤c):a+1≤501:=bh (aam p (aam q r)) (by simp+arith)
theorem Mc(p:a%2=1)(q:a%2=0):False:=absurd (p.symm.trans q) agB
theorem Md(p:a=b+1):a-1<a:=p▸aak _
theorem Me(p:c+d≤b)(q:a=c):a≤b:=bh (aam p (aaz q)) (by simp+arith)
theorem Gm(p:d+e≤c)(q:a=d)(r:b=e):a+b≤c:=bh (aam p (aam (aaz q) (aaz r))) (by simp+arith)
theorem Mf:a<a+(b+1):=by simp+arith
theorem Mg:i-1-(a:Int)=i-((a:Int)+1):=(aik _ _ _).trans (congrArg (i-·) (ahK _ _))
theorem Mh:i-1-(a:Int)=i-(↑(a+1):Int):=(aik _ _ _).trans (congrArg (i-·) (ahK _ _))
theorem Mi:(-1+(↑(a+1):Int)).toNat=a:=(congrArg Int.toNat (Int.neg_add_cancel_left 1 (a:Int)|>λh=>(congrArg (-1+·) (ahK (a:Int) 1)).trans h))
theorem Mj(p:(↑(a+1):Int)≤i)(q:0<a):¬i-1=0:=λh=>absurd (aeq p (ae7 (Int.eq_of_sub_eq_zero h))) (agi.mpr (abT.mpr (Nat.succ_lt_succ q)))
theorem Mk(p:(a:Int)<i): -i≤(a:Int):=aeq (Int.neg_nonpos_of_nonneg (agj (adq (abr _) p))) (abr _)
theorem Ml(p:b+3≤d)(q:a+d<c):a+(b+2)<c:=bh (aam p q) (by simp+arith)
theorem Mm(p:i= -1):i<(a:Int):=p▸afe (by decide) (abr _)
theorem WR(h1:a≤b)(h2:¬(a:Int)<(b:Int)):a=b:=aaI h1 (aa8 λq=>h2 (abT.mpr q))
theorem Mn(p:b+3≤d)(q:a+8*d<c):a+1+8*(b+2)<c:=bh (aam (aaW 8 p) q) (by simp+arith)
theorem Mo(p:i=(b:Int))(q:b<a):i<(a:Int):=p▸abT.mpr q
theorem WS:((a:Int)+1*(b:Int)).toNat=a+b:=congrArg (λz=>Int.toNat ((a:Int)+z)) (Int.one_mul (b:Int))
theorem Gn:(i%7).toNat<7:=abT.mp (adq (ae7 (ahc (aip i (by decide)))) (Int.emod_lt_of_pos i (by decide)))
theorem Mp(p:a+8*(b+2)<c):a+1+1+8*(b+1)<c:=bh p (by simp+arith)
theorem Mq(p:c+1=d+e)(q:d=b):a+b≤a+(c+1):=bh (aam (aaz p.symm) (aaz q.symm)) (by simp+arith)
theorem Mr(p:b+1=c+a)(q:1≤c):a<b+1:=bh (aam (aaz p.symm) q) (by simp+arith)
theorem Ms(p:i<(c:Int))(q:(c:Int)≤j)(r:(a:Int)≤50):i*1000+(a:Int)<j*1000+(b:Int):=afe (afe (ahd (adq r (by decide)) _) (ae7 (Int.add_mul i 1 1000).symm)) (aeq (Int.mul_le_mul_of_nonneg_right (aeq (Int.add_one_le_of_lt p) q) (by decide)) (Int.le_add_of_nonneg_right (abr b)))
theorem xc(p:b≤1000)(q:a<b):a≤1000:=aaN (aaE q p)
theorem Mt(p:c≤100)(q:d<c)(r:a≤10*d)(s:b≤9):a+b≤1009:=aab (aam (aab r (aaW 10 (aab (aaN q) p))) s) (aae rfl)
theorem Mu(p:b≤100)(q:a≤c)(r:c<b):a<1000:=bh (aam p (aam q r)) (by simp+arith)
theorem Mv(p:c=b)(q:a<c):a+(b-a)=b:=aa7 (aaN (p▸q))
theorem Mw(p:c=a)(q:b<c):0<a-b:=abY (p▸q)
theorem Go(p:a<b+1)(q:¬a<b):a=b:=aaI (bh p (by simp+arith)) (bh (aa8 q) (by simp+arith))
theorem Mx(p:a≤10*c)(q:b≤9):a+b≤10*(c+1):=bh (aam p q) (by simp+arith)
theorem My(p:c=a)(q:b<c):a-b=a-(b+1)+1:=(adl (abY (p▸q))).symm
theorem As(p:a+(c+1)≤b):a<b:=aaC (aa5 _ _) p
theorem Mz(p:a≤12):((a:Int)<9223372036854775808∧-9223372036854775808≤((a:Int)+2)/3∧((a:Int)+2)/3<9223372036854775808)∧(((a:Int)+2)/3=0∨-9223372036854775808≤(a:Int)+2∧(a:Int)+2<9223372036854775808):=by
 have h:∀a:Nat,a<13→((a:Int)<9223372036854775808∧-9223372036854775808≤((a:Int)+2)/3∧((a:Int)+2)/3<9223372036854775808)∧(((a:Int)+2)/3=0∨-9223372036854775808≤(a:Int)+2∧(a:Int)+2<9223372036854775808):=by decide
 exact h a (ahL p)
theorem Au(p:a+(c+1)≤b):a-1<b:=aaC (aed _ _) (aaE (adk (ac8 _)) p)
theorem Gq(p:a+(b+1)≤c):a+1+b≤c:=bh p (by simp+arith)
theorem Gr(p:a≤b+1+c):a≤b+(c+1):=bh p (by simp+arith)
theorem MA(p:a<b+(c+1)):a<b+1+c:=bh p (by simp+arith)
theorem qA(p:a+8*c<b):a<b:=aaC (aa5 _ _) p
theorem xd(p:b+1≤8*d)(q:a+8*d<c):a+1+b<c:=bh (aam p q) (by simp+arith)
theorem MB(p:(b+2)/3=c)(q:a<c):3*a≤b:=bh ((aeG (ac8 2)).mp (aab q (aaz p.symm))) (by simp+arith)
theorem MC(p:b≤12)(q:(b+2)/3=c)(r:a<c):a≤1000:=aaN (aaE r (aab (aaz q.symm) (aab (Nat.div_le_self _ _) (aab (ab8 p 2) (aae rfl)))))
theorem MD:0+a-1-b=a-1-b:=congrArg (·-1-b) (ahM _)
theorem ME(p:b≤1+(a-1))(q:b>1):0<a:=aaE (aek (aaE q p)) (aed _ _)
theorem MF(p:a≤1+(b-1))(q:a>1):a-1<b:=aaC (Nat.sub_le_iff_le_add'.mpr p) (aht (aaE (aek (aaE q p)) (aed _ _)) agP)
theorem MG:a+1+b+(c+1)=c+1+b+a+1:=aaI (by simp+arith) (by simp+arith)
theorem MH(p:b+c=d+e+1):a+1+b+c=a+1+d+e+1:=aaI (bh (aaz p) (by simp+arith)) (bh (aaz p.symm) (by simp+arith))
theorem MI(p:c≤b)(q:a=c):a≤b+1:=bh (aam p (aaz q)) (by simp+arith)
theorem MJ(p:c≤b)(q:a=c):a+1≤b+1:=bh (aam p (aaz q)) (by simp+arith)
theorem MK(p:c+1≤3)(q:d≤3*b)(r:a=d+c+1):a≤3*(b+1):=bh (aam p (aam q (aaz r))) (by simp+arith)
theorem ML(p:a≤1+(b-1))(q:a>1):a≤b:=aab p (aaz (aa7 (aaE (aek (aaE q p)) (aed _ _))))
theorem MM(p:c+1≤3)(q:d≤3*b)(r:a+(e+1)=d+(e+c)+1):a≤3*(b+1):=bh (aam p (aam q (aaz r))) (by simp+arith)
theorem MN:a+1+b=a+(b+1):=aaI (by simp+arith) (by simp+arith)
theorem MO(p:1≤a)(q:¬a>1):a=1:=aaI (bh (aa8 q) (by simp+arith)) (bh p (by simp+arith))
theorem MP(p:b≤c):a+b≤a+1+c:=bh p (by simp+arith)
theorem MQ(p:a<b)(q:b<2):a=0∧b=1:=⟨Nat.lt_one_iff.mp (aaE p (abZ q)),aaI (abZ q) (aaC (aaD _) p)⟩
theorem MR(p:b=a):¬(a:Int)<(b:Int):=p▸ahn _
theorem Gu(p:a≤b):¬a>b:=acA (bh p (by simp+arith))
theorem MS(p:b+1≤d)(q:a+d<c):a+b<c:=bh (aam p q) (by simp+arith)
theorem MT(p:b+1≤d)(q:a+8*d<c):a+1+8*b<c:=bh (aam (aaW 8 p) q) (by simp+arith)
theorem MU(p:c<a):a-1-b<a:=aaC (aed _ _) (aht (aaC (aaD _) p) agP)
theorem MV(p:1≤b)(q:¬1=b)(r:a≤1+1+(b-(1+1))):a+(b-a)≤b:=aaz (aa7 (aab r (aaz (aa7 (abt p q)))))
theorem MW(p:a+(c-b+1-1)=c)(q:0<c-b+1-1):a=b:=Nat.add_right_cancel (p.trans (aa7 (aaN (ahN (show 0<c-b from q)))).symm)
theorem MX(p:1≤b)(q:¬1=b)(r:c≤1+1+(b-(1+1)))(s:a≤c+(b-c)):a≤b:=aab s (aaz (aa7 (aab r (aaz (aa7 (abt p q))))))
theorem MY(p:d<c)(q:b≤d)(r:¬a≥b):(a+b)/2<c:=acF (bh (aam (acT r) (aaW 2 (aaC q p))) (by simp+arith))
theorem MZ(p:c≤a)(q:¬b≥c):a≠(b+c)/2:=(abf (aaE (acF (bh (acT q) (by simp+arith))) p)).symm
theorem M0(p:¬a≥b):a≤(a+b)/2:=(aeG (ac8 1)).mpr (bh (aaN (acT p)) (by simp+arith))
theorem M1(p:b-a=c+1):a+1=b-c:=(aeU ((agQ (aaN (acy p)) p).trans (by simp+arith))).symm
theorem M2(p:b≤c)(q:¬a≥b):(a+b)/2≤c:=aaN (acF (bh (aam (acT q) (aaW 2 p)) (by simp+arith)))
theorem Gv:a+b+(c+(d+e))+f=a+(d+(c+f+e))+b:=aaI (by simp+arith) (by simp+arith)
theorem M3(p:b-a≤c+1):(a+b)/2-a≤c:=adE.mpr (abZ (acF (bh (adE.mp p) (by simp+arith))))
theorem Gw(p:a<64):a≤16777216:=bh p (by simp+arith)
theorem M4(p:¬a≥b):(a+b)/2+1≤b:=acF (bh (acT p) (by simp+arith))
theorem M5(p:a<64):a≤16777216+1:=bh p (by simp+arith)
theorem M6(p:a-b≤c+1):a-((b+a)/2+1)≤c:=adE.mpr (Nat.le_of_mul_le_mul_left (bh (aam (adE.mp p) (Nat.lt_mul_div_succ (b+a) (ac8 1))) (by simp+arith)) (ac8 1))
theorem M7(p:a≤b+f+e+c)(q:f≤d):a≤b+(c+(d+e)):=bh (aam p q) (by simp+arith)
theorem Gx(p:a≤10):a*5≤100000:=bh (aaW 5 p) (by simp+arith)
theorem M8(p:a<2)(q:b<c)(r:c<a):i<j:=absurd p (acA (aaC (aaC (aaD _) q) r))
theorem M9(p:b≤10)(q:a≤b*5):1+a+1≤60:=bh (aam (aaW 5 p) q) (by simp+arith)
theorem M_(p:¬a<2):0<a:=bh (aa8 p) (by simp+arith)
theorem Na(p:b≤c)(q:¬a≥b):(a+b)/2<c:=acF (bh (aam (acT q) (aaW 2 p)) (by simp+arith))
theorem Nb(p:¬a<2):1≤a:=bh (aa8 p) (by simp+arith)
theorem Gy(p:a+(c+1)=b):a<b:=bh (aaz p) (by simp+arith)
theorem Nc:¬a<0:=acA (by simp+arith)
theorem Nf(p:b≤a):¬a<b:=acA (bh p (by simp+arith))
theorem Ng(p:a+(b+1)=c):a+1+b=c:=aaI (bh (aaz p) (by simp+arith)) (bh (aaz p.symm) (by simp+arith))
theorem Gz(p:b<64)(q:a=b):a≤16777216:=bh (aam p (aaz q)) (by simp+arith)
theorem Nh(p:b<64)(q:a=b):a<64:=q▸p
theorem Ni(p:d<b)(q:b<c+1)(r:d=a):a<b∧b≤c:=⟨r▸p,abZ q⟩
theorem Nj(p:c<b)(q:c=a):a≤b-1:=adK (q▸p)
theorem Nk(p:c<a)(q:a<b+1):a-1<b:=aaE (aht (aaC (aaD _) p) agP) (abZ q)
theorem Nl(h1:b<d)(h2:d=a):¬(a<b∧b≤c):=λq=>Nat.lt_asymm q.1 (h2▸h1)
theorem Nm(p:a<c)(q:c=b):a<b:=q▸p
theorem GB(p:c<a)(q:a≤b):a-1<b:=aaE (aht (aaC (aaD _) p) agP) q
theorem Nn(p:b≤1000)(q:a=b):a+1+1≤1000000:=bh (aam p (aaz q)) (by simp+arith)
theorem Rr{a k:Nat}:¬a=a+1+k:=abf (af0 k (aby a))
theorem Lg{a i j:Nat}(h:i≠j):¬a+i=a+j:=λe=>h (ahe e)
theorem Rs{a k:Nat}(p:894<a):¬a+1+k=894:=abG (af0 k (af0 1 p))
theorem No(p:894<a):(¬a=a+1+0∧¬a=a+1+1∧¬a=a+1+2∧¬a=a+1+3∧¬a=894)∧(¬a+1+0=a+1+1∧¬a+1+0=a+1+2∧¬a+1+0=a+1+3∧¬a+1+0=894)∧(¬a+1+1=a+1+2∧¬a+1+1=a+1+3∧¬a+1+1=894)∧(¬a+1+2=a+1+3∧¬a+1+2=894)∧¬a+1+3=894:=
 ⟨⟨Rr,Rr,Rr,Rr,abG p⟩,⟨Lg (by decide),Lg (by decide),Lg (by decide),Rs p⟩,⟨Lg (by decide),Lg (by decide),Rs p⟩,⟨Lg (by decide),Rs p⟩,Rs p⟩
theorem Np(p:a≤10):a*5≤50:=bh (aaW 5 p) (by simp+arith)
theorem Nq(h1:a<b)(h2:¬a=c)(h3:¬(c<a∧a≤d))(h4:c<b)(h5:b≤d):a<b-1:=agR (aaC (abt (aa8 λq=>h3 ⟨q,aab (aaN h1) h5⟩) h2) h4)
theorem Nr(p:a=b)(q:894<b):894<a:=p▸q
theorem Nt(p:a≤50):1+a≤60:=bh p (by simp+arith)
theorem Nu(h1:c≤b)(h2:a<b+1)(h3:¬a=c)(h4:¬(c<a∧a≤b)):a<b:=aaE (abt (aa8 λq=>h4 ⟨q,abZ h2⟩) h3) h1
theorem Nv(p:a≤50):1+a+1≤60:=bh p (by simp+arith)
theorem Nw(p:a≤b)(q:¬a<b):a=b:=aaI (bh p (by simp+arith)) (bh (aa8 q) (by simp+arith))
theorem Nx(p:b=c)(q:a<c):a<b:=p▸q
theorem Ny(p:b=a+c):a≤b:=bh (aaz p.symm) (by simp+arith)
theorem Nz(p:a≤d+c)(q:d≤b+1):a≤b+(c+1):=bh (aam p q) (by simp+arith)
theorem NA:a+(b+(c+1))=a+b+1+c:=aaI (by simp+arith) (by simp+arith)
theorem NB(p:a≤d+c)(q:d≤b+1):a≤b+1+c:=bh (aam p q) (by simp+arith)
theorem NC:a+(b+1)=a+1+b:=aaI (by simp+arith) (by simp+arith)
theorem ND(p:b=a+c+1+d):a≤b:=bh (aaz p.symm) (by simp+arith)
theorem NE(p:b≤7)(q:a<b):101*a≤800:=aab (aaW 101 (aab (aaN q) p)) (aae rfl)
theorem NF(p:b≤800)(q:a=b):a≤800:=q▸p
theorem NG(p:c≤101*b)(q:d≤100)(r:a≤c+1+d):a≤101*(b+1):=bh (aam p (aam q r)) (by simp+arith)
theorem NH(p:a≤100):a+(a+1)*5≤16777216:=bh (aaW 6 p) (by simp+arith)
theorem NI(p:b≤100):101*a+b≤101*(a+1):=bh p (by simp+arith)
theorem NJ(h1:a=b)(h2:¬(↑63:Int)<(b:Int)):a≤1000:=h1▸aab (aa8 λq=>h2 (abT.mpr q)) (aae (rfl:Nat.ble 63 1000=true))
theorem GC(p:a≤b):a+1≤1+b:=bh p (by simp+arith)
theorem NK(p:b≤2*(c+1))(q:a≤2):a+(b+0)≤2*(c+1+1):=bh (aam p q) (by simp+arith)
theorem NL(p:b≤3)(q:a≤c)(r:c≤2*b):a≤6:=bh (aam (aaW 2 p) (aam q r)) (by simp+arith)
theorem NM(p:a<(b+2)/3)(q:Min.min 3 (b-3*a)=0):False:=by
 have h1:(a+1)*3≤b+2:=(aeG (by decide)).mp p
 rcases Nat.le_total 3 (b-3*a)with h|h
 ·rw[ac5 h]at q;cases q
 ·rw[Nat.min_eq_right h]at q
  have h2:=Nat.sub_eq_zero_iff_le.mp q
  have h3:3*a+3≤b+2:=aab (aaz (Nat.mul_comm 3 (a+1))) h1
  exact absurd (afc (aab h3 (aak _):3*a+1+2≤b+2)) (Nat.not_le.mpr (ahL h2))
theorem NN(p:a≤12):(a+2)/3≤4:=aab (Nat.div_le_div_right (ab8 p 2)) (aae rfl)
theorem NO(p:a≤800):a<1000:=bh p (by simp+arith)
theorem NP(p:a≤b)(q:b≤c)(r:b-a=c):a=0:=Nat.le_zero.mp (Nat.le_of_add_le_add_left (a:=c) ((agQ p r)▸q))
theorem NQ(p:a-c=b)(q:c=0):a=b:=(q▸p:a-0=b)
theorem NR(p:b≤100)(q:c≤800)(r:a≤c+1+d)(s:d<b):a<1000:=bh (aam p (aam q (aam r s))) (by simp+arith)
theorem NS(p:a≤1000):0+a≤3000:=bh p (by simp+arith)
theorem NT(p:b≤100)(q:a<b):800+a≤1000000:=bh (aam p q) (by simp+arith)
theorem NU(p:a+d≤16777216)(q:b≤d)(r:c=16777216):¬a+b>c:=acA (bh (aam p (aam q (aaz r.symm))) (by simp+arith))
theorem NV(p:d≤b+1+c)(q:a≤d+1):a≤b+1+(c+1):=bh (aam p q) (by simp+arith)
theorem NW(p:a≤1000)(q:b≤1000):0+a+b≤3000:=bh (aam p q) (by simp+arith)
theorem GD(p:a≤1000)(q:c≤1000)(r:b≤1000):0+a+b+c≤3000:=bh (aam p (aam q r)) (by simp+arith)
theorem WT:a≤a+1+1+1:=by simp+arith
theorem WU:a≤a+1+1+1+1:=by simp+arith
theorem NY(p:b≤1)(q:c+1≤e)(r:a+e<d):a+b+c<d:=bh (aam p (aam q r)) (by simp+arith)
theorem NZ(p:b≤4)(q:c+1≤e)(r:a+8*e<d):a+b+8*c<d:=bh (aam p (aam (aaW 8 q) r)) (by simp+arith)
theorem N0(p:b=c)(q:a<b)(r:c≤1000000):a≤1000000:=bh (aam (aaz p) (aam q r)) (by simp+arith)
theorem N1(p:b≤1000):Min.min a b≤1000000:=aab (Nat.min_le_right _ _) (aab p (aae rfl))
end
end
section
namespace Top
abbrev prog:aiA:=ae1
def e(P:aao)(x:Str)(t:Tok)(v:Value):abN:=⟨aff P x,.str x t,v⟩
def oT(vs:List Value)(n:Nat):Obj:=⟨.type "tuple",none,.seq vs.toArray n,#[]⟩
def tS(i:Nat):Stmt:=(prog.main.body.drop i).headD (.Pass ⟨0,0,0,0⟩)
def cS(i j:Nat):Stmt:=match tS i with
 | .ClassDef _ _ _ b _ _ _ _ _ _ _=>(b.drop j).headD (.Pass ⟨0,0,0,0⟩)
 |_=>.Pass ⟨0,0,0,0⟩
def bodyOf:Stmt→List Stmt
 | .FunctionDef _ _ b _ _ _ _ _ _ _=>b
 |_=>[]
def Av:Stmt→Arguments
 | .FunctionDef _ a _ _ _ _ _ _ _ _=>a
 |_=>⟨[],[],none,[],[],none,[]⟩
def av:Stmt→Scope
 | .FunctionDef _ _ _ _ _ _ s _ _ _=>s
 |_=>default
def fd(st:Stmt)(name qual:Str)(g:Addr)(dV kV doc pm:Value)(an:Option Addr)(cd ct:Value)(b:Addr):aaP:=
 {name,qualname:=qual,params:=Av st,body:=.stmts (bodyOf st),scope:=av st,globals:=g,closure:=[],defaults:=dV,kwdefaults:=kV,doc,pyModule:=pm,annotations:=an,code:=cd,closureTuple:=ct,builtins:=b}
def alt:List Obj→List Obj
 |a::_::r=>a::alt r
 |l=>l
def treeOf:Nat→List Obj→BT
 |0,_=>.nil
 |_,[]=>.nil
 |n+1,o::r=>.node o (treeOf n (alt r)) (treeOf n (alt r.tail))
def tV:Env:={scope:=prog.main.scope,locals:=mainNs,globals:=mainNs,cells:=[],code:=.ref 36,frame:=some 37}
def eX:Code:=.body (abV prog) tV
def tB:List Frame:=[topFrame ⟨0,0,0,0⟩]
theorem yC{α β γ δ:Type}{x:Option (α×β×γ×δ)}{a:α}{b:β}{c:γ}{d:δ}(h1:x.map (λx=>x.1)=some a)(h2:x.map (λx=>x.2.1)=some b)(h3:x.map (λx=>x.2.2.1)=some c)(h4:x.map (λx=>x.2.2.2)=some d):x=some (a,b,c,d):=by
 cases x with
 |none=>cases h1
 |some p=>cases h1;cases h2;cases h3;cases h4;rfl
theorem eG: @ag8=PySem.W.Fast.tw10110043849684766642:=PySem.W.Fast.te10110043849684766642
theorem bU: @acm=PySem.W.Fast.tw14364793385576792824:=PySem.W.Fast.te14364793385576792824
abbrev O:=aao→Obj
def ty(s:String)(d:Data):Obj:=⟨.type s,none,d,#[]⟩
def nt(d:Data):Obj:=⟨.none,none,d,#[]⟩
def di(a:Array abN)(n:Nat):Obj:=ty "dict" (.dict a n)
def n0:Obj:=nt (.fields #[])
def t0:Obj:=oT [] 0
def cg(n q:Str)(t:Nat)(l:Int)(v:List Value)(a:Nat)(b:Bool)(z:Int)(w:List Value)(u:Int)(y:Nat):Obj:=ty "code" (.fields ([Value.str n t,.str q (t+1),.str "/claim/cut.py" (t+2),.int l 0]++v++[abQ a,.bool b,.int z 0,.ref (a+1)]++w++[Value.int u 0,.int l 0,.str "/claim/cut.py" y]).toArray)
def co(n q:Str)(t:Nat)(l c p k f:Int)(a:Nat)(u:Nat):Obj:=cg n q t l [.int c 0,.int p 0,.int k 0,.int f 0] a true 318 [.none,.ref (a+2),.ref (a+3),.ref (a+4)] u (u+1)
def cn(n q:Str)(t:Nat)(l:Int)(a:Nat)(z:Int)(u:Nat):Obj:=cg n q t l [.int 0 0,.int 0 0,.int 0 0,.int 0 0] a false z [.none,.none,.none,.none] u (u+1)
def fo(s:Stmt)(n q:Str)(g:Addr)(d k o m:Value)(a:Option Addr)(c:Addr)(t:Value):Obj:=ty "function" (.func (fd s n q g d k o m a (.ref c) t 0))
def fb(s:Stmt)(n q:Str):Obj:=nt (.func (fd s n q 0 .none .none .none .none none .none .none 0))
def fn(s:Stmt)(n q:Str)(g:Addr)(m:Value)(c:Addr):Obj:=fo s n q g .none .none .none m none c .none
def SP:Value:=(.str "__main__" 164)
def Rt:Value:=(.str "cpy313.email.utils" 331)
def vR:Value:=(.str "cpy313.graphlib" 374)
def c7:Value:=(.str "io" 596)
def Lh:Value:=(.str "os.path" 1253)
def vK:Value:=(.str "cpy313.shlex" 1312)
def Aw:Value:=(.str "law_ik0092_01" 1480)
def eb(P:aao)(x:String)(t:Tok):abN:=e P x t (.builtin x)
def et(P:aao)(x:String)(t:Tok):abN:=e P x t (.type x)
def er(P:aao)(x:Str)(t:Tok)(a:Addr):abN:=e P x t (.ref a)
def cp(n q:Str)(t:Nat)(l c f:Int)(a u:Nat):Obj:=cg n q t l [.int c 0,.int 0 0,.int 0 0,.int f 0] a true 318 [.none,.none,.none,.ref (a+2)] u (u+1)
def sx(s:Str)(l:List Nat):List Nat:=s.cps.size::(s.cps.toList++l)
def w3(a b c:Nat)(l:List Value):List Value:=.int a 0::.int b 0::.ref c::l
def sq:Nat→List Str→List Value
 |_,[]=>[]
 |t,x::l=>.str x t::sq (t+1) l
def nS(t:Nat)(l:List Str):Obj:=oT (sq t l) 0
def nF(l:List Value):Obj:=nt (.fields l.toArray)
def dL(l:List abN)(n:Nat):Obj:=di l.toArray n
def tp:Obj:=ty "builtin_function_or_method" (.fields #[.builtin "type.__prepare__",.type "type"])
def su(a:Addr):Obj:=ty "super" (.fields #[.ref a,.ref a,.ref a])
def fr(a b:Addr)(v:Value):Obj:=⟨.type "frame",none,.plain,#[some (.ref a),some (.ref 3),some (.ref b),none,some v,none,some (.ref 0)]⟩
def cO(n:Str)(bs m:List Value)(ns:Addr)(hd:Bool)(sl:List Str)(sb:List Value)(f:Option Value)(t u:Nat)(v:Value)(b:Bool):Obj:=⟨.type "type",none,.cls {name:=n,bases:=bs,mro:=m,ns:=ns,qualname:=n,hasDict:=hd,slotNames:=sl,subclasses:=sb,abstract:=false,collection:=none,hasDel:=false},#[f,none,some (.str n t),some (.str n u),some v,some (.bool b)]⟩
noncomputable section
def k1:O:=λP=>di #[er P "builtins" 162 4,er P "__main__" 163 5,er P "_sre" 244 12,er P "_collections" 292 30] 4
def k4:O:=λP=>⟨.type "module",some 0,.plain,#[]⟩
def SR:O:=λP=>fn (tS 4) "_iter_escaped_chars" "_iter_escaped_chars" 3 Rt 50
def SU:O:=λP=>fn (tS 5) "_strip_quoted_realnames" "_strip_quoted_realnames" 3 Rt 57
def SV:O:=λP=>fn (tS 6) "_check_parenthesis" "_check_parenthesis" 3 Rt 64
def SW:O:=λP=>fn (tS 7) "_pre_parse_validation" "_pre_parse_validation" 3 Rt 71
def SX:O:=λP=>fn (cS 11 1) "__init__" "_NodeInfo.__init__" 3 vR 86
def N4:O:=λP=>di #[e P "__module__" 426 (.str "cpy313.graphlib" 374),e P "__firstlineno__" 430 (.int 66 429),er P "__static_attributes__" 431 104,er P "__weakref__" 433 107,e P "__doc__" 434 .none] 3
def N5:O:=λP=>cO "CycleError" [.type "ValueError"] [.ref 106,.type "ValueError",.type "Exception",.type "BaseException",.type "object"] 105 true [] [] (some (.ref 97)) 419 427 (.builtin "ValueError.__new__") true
def HM:O:=λP=>fo (cS 13 0) "__init__" "TopologicalSorter.__init__" 3 (.ref 117) .none .none vR none 123 .none
def HN:O:=λP=>fn (cS 13 1) "_get_nodeinfo" "TopologicalSorter._get_nodeinfo" 3 vR 130
def HO:O:=λP=>fn (cS 13 2) "add" "TopologicalSorter.add" 3 vR 137
def HP:O:=λP=>fn (cS 13 3) "prepare" "TopologicalSorter.prepare" 3 vR 142
def HQ:O:=λP=>fn (cS 13 4) "get_ready" "TopologicalSorter.get_ready" 3 vR 149
def HR:O:=λP=>fn (cS 13 5) "is_active" "TopologicalSorter.is_active" 3 vR 156
def HS:O:=λP=>fn (cS 13 7) "done" "TopologicalSorter.done" 3 vR 170
def HT:O:=λP=>fn (cS 13 8) "_find_cycle" "TopologicalSorter._find_cycle" 3 vR 177
def HU:O:=λP=>fn (tS 17) "_index" "_index" 3 c7 210
def HV:O:=λP=>fn (cS 19 1) "__new__" "IOBase.__new__" 3 c7 237
def N6:O:=λP=>cO "BytesIO" [.ref 256] [.ref 498,.ref 256,.ref 241,.type "object"] 497 true [] [] (some (.ref 271)) 704 712 .none true
def HW:O:=λP=>fo (cS 23 1) "__init__" "StringIO.__init__" 3 (.ref 508) .none .none c7 none 514 .none
def HX:O:=λP=>fn (cS 23 2) "__translated" "StringIO.__translated" 3 c7 521
def HY:O:=λP=>fn (cS 23 3) "__check" "StringIO.__check" 3 c7 528
def HZ:O:=λP=>fo (cS 23 25) "read" "StringIO.read" 3 (.ref 684) .none .none c7 none 690 .none
def H2:O:=λP=>cO "StringIO" [.ref 268] [.ref 745,.ref 268,.ref 241,.type "object"] 744 true [] [] (some (.ref 501)) 966 974 .none true
def H3:O:=λP=>fo (cS 33 0) "__init__" "shlex.__init__" 3 (.ref 797) .none .none vK none 803 .none
def H4:O:=λP=>fn (cS 33 1) "punctuation_chars" "shlex.punctuation_chars" 3 vK 810
def H6:O:=λP=>fn (cS 33 5) "get_token" "shlex.get_token" 3 vK 840
def H7:O:=λP=>fn (cS 33 6) "read_token" "shlex.read_token" 3 vK 847
def H8:O:=λP=>fn (cS 33 9) "__iter__" "shlex.__iter__" 3 vK 869
def H9:O:=λP=>fn (cS 33 10) "__next__" "shlex.__next__" 3 vK 876
def H_:O:=λP=>fo (tS 34) "split" "split" 3 (.ref 885) .none .none vK none 891 .none
def Ia:O:=λP=>co "join" "join" 1463 901 1 0 0 3 893 1467
def Ib:O:=λP=>fn (tS 35) "join" "join" 3 vK 898
def Ic:O:=λP=>fn (tS 38) "quote" "quote" 3 vK 906
def Id:O:=λP=>fn (tS 40) "_law_rows" "_law_rows" 3 Aw 911
def Ie:O:=λP=>fn (tS 41) "_law_line" "_law_line" 3 Aw 916
def Ig:O:=λP=>fn (tS 42) "_law_closes" "_law_closes" 3 Aw 923
def Ih:O:=λP=>fn (tS 43) "_law_table" "_law_table" 3 Aw 930
def Ii:O:=λP=>fn (tS 44) "_law_shut" "_law_shut" 3 Aw 937
def Ij:O:=λP=>fn (tS 45) "_law_fixed" "_law_fixed" 3 Aw 944
def Ik:O:=λP=>fn (tS 46) "_law_refused" "_law_refused" 3 Aw 951
def Il:O:=λP=>fn (tS 47) "_law_next" "_law_next" 3 Aw 956
def Im:O:=λP=>fn (tS 48) "_law_run" "_law_run" 3 Aw 963
def Io:O:=λP=>fn (tS 49) "law" "law" 3 Aw 968
end
def mE(P:aao)(v:Value)(l:List abN):List abN:=e P "__name__" 165 v::e P "__doc__" 166 .none::e P "__package__" 167 .none::e P "__loader__" 168 (.builtin "__main__.__loader__#opaque")::e P "__spec__" 169 .none::er P "__annotations__" 170 6::er P "__builtins__" 171 4::e P "__file__" 173 (.str "/claim/cut.py" 172)::e P "__cached__" 174 .none::l
def GE(P:aao):List abN:=er P "_sre" 275 12::e P "deque" 317 (.type "collections.deque")::er P "_wall" 330 44::er P "_iter_escaped_chars" 342 51::er P "_strip_quoted_realnames" 354 58::er P "_check_parenthesis" 364 65::er P "_pre_parse_validation" 373 72::e P "_NODE_OUT" 378 (.int (-1) 377)::e P "_NODE_DONE" 381 (.int (-2) 380)::er P "_NodeInfo" 418 91::er P "CycleError" 436 106::er P "TopologicalSorter" 555 188::[]
def GF(P:aao):List abN:=GE P++(er P "_twin_re_1" 595 197::er P "_whence" 605 204::er P "_index" 613 211::er P "UnsupportedOperation" 635 221::er P "IOBase" 667 241::er P "BufferedIOBase" 685 256::er P "TextIOBase" 703 268::[])
def GG(P:aao):List abN:=GF P++(er P "BytesIO" 965 498::[])
def GJ(P:aao):List abN:=GG P++(er P "StringIO" 1252 745::[])
def GK(P:aao):List abN:=GJ P++(er P "_kind" 1263 754::er P "_fspath" 1272 761::er P "_check_arg_types" 1282 768::er P "isabs" 1289 775::er P "join" 1300 782::er P "join_path" 1301 782::er P "dirname" 1311 789::er P "shlex" 1452 880::[])
def N7(P:aao):List abN:=(GK P).set 25 (er P "join" 1300 899)++(er P "split" 1462 892::er P "join_shlex" 1470 899::er P "_find_unsafe" 1472 900::er P "quote" 1479 907::er P "_law_rows" 1487 912::er P "_law_line" 1493 917::er P "_law_closes" 1505 924::er P "_law_table" 1514 931::er P "_law_shut" 1522 938::er P "_law_fixed" 1529 945::er P "_law_refused" 1537 952::er P "_law_next" 1543 957::er P "_law_run" 1557 964::er P "law" 1563 969::[])
@[irreducible]noncomputable def SY (P:aao):List Obj:=(dL (e P "__name__" 1 (.str "builtins" 160)::e P "__doc__" 2 (.builtin "builtins.__doc__:str#opaque")::e P "__package__" 3 (.builtin "builtins.__package__:str#opaque")::e P "__loader__" 4 (.builtin "builtins.__loader__:shared#opaque")::e P "__spec__" 5 (.builtin "builtins.__spec__#opaque")::eb P "__build_class__" 6::eb P "__import__" 7::eb P "abs" 8::eb P "all" 9::eb P "any" 10::eb P "ascii" 11::eb P "bin" 12::eb P "breakpoint" 13::eb P "callable" 14::eb P "chr" 15::eb P "compile" 16::eb P "delattr" 17::eb P "dir" 18::eb P "divmod" 19::eb P "eval" 20::eb P "exec" 21::eb P "format" 22::eb P "getattr" 23::eb P "globals" 24::eb P "hasattr" 25::eb P "hash" 26::eb P "hex" 27::eb P "id" 28::eb P "input" 29::eb P "isinstance" 30::eb P "issubclass" 31::eb P "iter" 32::eb P "aiter" 33::eb P "len" 34::eb P "locals" 35::eb P "max" 36::eb P "min" 37::eb P "next" 38::eb P "anext" 39::eb P "oct" 40::eb P "ord" 41::eb P "pow" 42::eb P "print" 43::eb P "repr" 44::eb P "round" 45::eb P "setattr" 46::eb P "sorted" 47::eb P "sum" 48::eb P "vars" 49::e P "None" 50 .none::e P "Ellipsis" 51 .ellipsis::e P "NotImplemented" 52 .notImplemented::e P "False" 53 (.bool false)::e P "True" 54 (.bool true)::et P "bool" 55::et P "memoryview" 56::et P "bytearray" 57::et P "bytes" 58::et P "classmethod" 59::et P "complex" 60::et P "dict" 61::et P "enumerate" 62::et P "filter" 63::et P "float" 64::et P "frozenset" 65::et P "property" 66::et P "int" 67::et P "list" 68::et P "map" 69::et P "object" 70::et P "range" 71::et P "reversed" 72::et P "set" 73::et P "slice" 74::et P "staticmethod" 75::et P "str" 76::et P "super" 77::et P "tuple" 78::et P "type" 79::et P "zip" 80::e P "__debug__" 81 (.bool true)::et P "BaseException" 82::et P "BaseExceptionGroup" 83::et P "Exception" 84::et P "GeneratorExit" 85::et P "KeyboardInterrupt" 86::et P "SystemExit" 87::et P "ArithmeticError" 88::et P "AssertionError" 89::et P "AttributeError" 90::et P "BufferError" 91::et P "EOFError" 92::et P "ImportError" 93::et P "LookupError" 94::et P "MemoryError" 95::et P "NameError" 96::et P "OSError" 97::et P "ReferenceError" 98::et P "RuntimeError" 99::et P "StopAsyncIteration" 100::et P "StopIteration" 101::et P "SyntaxError" 102::et P "SystemError" 103::et P "TypeError" 104::et P "ValueError" 105::et P "Warning" 106::et P "FloatingPointError" 107::et P "OverflowError" 108::et P "ZeroDivisionError" 109::et P "BytesWarning" 110::et P "DeprecationWarning" 111::et P "EncodingWarning" 112::et P "FutureWarning" 113::et P "ImportWarning" 114::et P "PendingDeprecationWarning" 115::et P "ResourceWarning" 116::et P "RuntimeWarning" 117::et P "SyntaxWarning" 118::et P "UnicodeWarning" 119::et P "UserWarning" 120::et P "BlockingIOError" 121::et P "ChildProcessError" 122::et P "ConnectionError" 123::et P "FileExistsError" 124::et P "FileNotFoundError" 125::et P "InterruptedError" 126::et P "IsADirectoryError" 127::et P "NotADirectoryError" 128::et P "PermissionError" 129::et P "ProcessLookupError" 130::et P "TimeoutError" 131::et P "IndentationError" 132::et P "_IncompleteInputError" 133::et P "IndexError" 134::et P "KeyError" 135::et P "ModuleNotFoundError" 136::et P "NotImplementedError" 137::et P "PythonFinalizationError" 138::et P "RecursionError" 139::et P "UnboundLocalError" 140::et P "UnicodeError" 141::et P "BrokenPipeError" 142::et P "ConnectionAbortedError" 143::et P "ConnectionRefusedError" 144::et P "ConnectionResetError" 145::et P "TabError" 146::et P "UnicodeDecodeError" 147::et P "UnicodeEncodeError" 148::et P "UnicodeTranslateError" 149::et P "ExceptionGroup" 150::e P "EnvironmentError" 151 (.type "OSError")::e P "IOError" 152 (.type "OSError")::eb P "open" 153::e P "quit" 154 (.builtin "builtins.quit#opaque")::e P "exit" 155 (.builtin "builtins.exit#opaque")::e P "copyright" 156 (.builtin "builtins.copyright#opaque")::e P "credits" 157 (.builtin "builtins.credits#opaque")::e P "license" 158 (.builtin "builtins.license#opaque")::e P "help" 159 (.builtin "builtins.help#opaque")::[]) 159::k1 P::nt (.dict (acg (e P "\x69mport.loaded._sre" 183 (.bool true)::er P "class._frozen_importlib.BuiltinImporter" 185 14::er P "watched.\x69mport" 206 18::er P "class._frozen_importlib.ModuleSpec" 216 22::e P "sys.modules.booked-epoch" 245 (.int 4 0)::e P "\x69mport.later-laid._sre" 270 (.bool true)::er P "watched.library" 272 27::e P "watched.library-objects" 0 (.str ⟨#[12,30]⟩ 0)::e P "watched.library-deep._sre" 273 (.str ⟨(acg (4::0::0::11::4::0::0::11::4::0::0::3::4::0::0::11::8::sx "dict" (2::[])))⟩ 0)::e P "\x69mport.loaded._collections" 280 (.bool true)::e P "sys.modules.landed._collections" 294 (.bool true)::e P "\x69mport.later-laid._collections" 309 (.bool true)::e P "watched.library-deep._collections" 311 (.str ⟨(acg (4::0::0::29::4::0::0::29::4::0::0::3::4::0::0::29::8::sx "dict" (2::[])))⟩ 0)::[])) 13)::di #[e P "__name__" 165 (.str "__main__" 164),e P "__doc__" 166 .none,e P "__package__" 167 .none,e P "__loader__" 168 (.builtin "__main__.__loader__#opaque"),e P "__spec__" 169 .none,er P "__annotations__" 170 6,er P "__builtins__" 171 4,e P "__file__" 173 (.str "/claim/cut.py" 172),e P "__cached__" 174 .none,er P "_sre" 275 12,e P "deque" 317 (.type "collections.deque")] 11::k4 P::⟨.type "module",some 3,.plain,#[]⟩::di #[] 0::t0::n0::cn "<module>" "<module>" 176 1 7 175 179::fr 9 3 SP::dL (e P "__name__" 247 (.str "_sre" 246)::e P "__doc__" 248 .none::e P "__package__" 250 (.str "" 249)::er P "__loader__" 251 14::er P "__spec__" 252 26::e P "compile" 253 (.builtin "_sre.compile")::e P "template" 254 (.builtin "_sre.template")::e P "getcodesize" 255 (.builtin "_sre.getcodesize")::e P "ascii_iscased" 256 (.builtin "_sre.ascii_iscased")::e P "unicode_iscased" 257 (.builtin "_sre.unicode_iscased")::e P "ascii_tolower" 258 (.builtin "_sre.ascii_tolower")::e P "unicode_tolower" 259 (.builtin "_sre.unicode_tolower")::e P "MAGIC" 261 (.int 20230612 260)::e P "CODESIZE" 263 (.int 4 262)::e P "MAXREPEAT" 265 (.int 4294967295 264)::e P "MAXGROUPS" 267 (.int 1073741823 266)::e P "copyright" 269 (.str " SRE 2.2.2 Copyright (c) 1997-2002 by Secret Labs AB " 268)::[]) 17::⟨.type "module",some 11,.plain,#[]⟩::dL (e P "__module__" 189 (.str "_frozen_importlib" 186)::e P "__firstlineno__" 190 (.int 971 187)::e P "__doc__" 191 (.builtin "_frozen_importlib.BuiltinImporter.__doc__:str#opaque")::e P "_ORIGIN" 192 (.str "built-in" 188)::e P "find_spec" 193 (.builtin "_frozen_importlib.BuiltinImporter.find_spec#opaque")::e P "create_module" 194 (.builtin "_frozen_importlib.BuiltinImporter.create_module#opaque")::e P "exec_module" 195 (.builtin "_frozen_importlib.BuiltinImporter.exec_module#opaque")::e P "get_code" 196 (.builtin "_frozen_importlib.BuiltinImporter.get_code#opaque")::e P "get_source" 197 (.builtin "_frozen_importlib.BuiltinImporter.get_source#opaque")::e P "is_package" 198 (.builtin "_frozen_importlib.BuiltinImporter.is_package#opaque")::e P "load_module" 199 (.builtin "_frozen_importlib.BuiltinImporter.load_module#opaque")::er P "__static_attributes__" 200 15::er P "__dict__" 202 16::er P "__weakref__" 204 17::[]) 14::ty "type" (.cls {name:="BuiltinImporter",bases:=[.type "object"],mro:=[.ref 14,.type "object"],ns:=13,qualname:="BuiltinImporter",hasDict:=true,slotNames:=[],subclasses:=[],abstract:=false,collection:=none,hasDel:=false})::t0::ty "getset_descriptor" (.fields #[.str "__dict__" 201,.ref 14,.builtin "function.__dict__",.builtin "function.__dict__#set"])::ty "getset_descriptor" (.fields #[.str "__weakref__" 203,.ref 14,.builtin "ExceptionGroup.__weakref__",.none])::nt (.seq #[.int 13 0,.str ⟨(acg (6::189::sx "__module__" (6::186::sx "_frozen_importlib" (6::190::sx "__firstlineno__" (4::187::0::971::6::191::sx "__doc__" (sx "4_frozen_" (105::109::112::111::114::116::108::105::98::46::66::117::105::108::116::105::110::73::109::112::111::114::116::101::114::46::95::95::100::111::99::95::95::58::115::116::114::35::111::112::97::113::117::101::6::192::sx "_ORIGIN" (6::188::sx "built-in" (6::193::sx "find_spec" (sx "2_frozen_" (105::109::112::111::114::116::108::105::98::46::66::117::105::108::116::105::110::73::109::112::111::114::116::101::114::46::102::105::110::100::95::115::112::101::99::35::111::112::97::113::117::101::6::194::sx "create_module" (sx "6_frozen_" (105::109::112::111::114::116::108::105::98::46::66::117::105::108::116::105::110::73::109::112::111::114::116::101::114::46::99::114::101::97::116::101::95::109::111::100::117::108::101::35::111::112::97::113::117::101::6::195::sx "exec_module" (sx "4_frozen_" (105::109::112::111::114::116::108::105::98::46::66::117::105::108::116::105::110::73::109::112::111::114::116::101::114::46::101::120::101::99::95::109::111::100::117::108::101::35::111::112::97::113::117::101::6::196::sx "get_code" (sx "1_frozen_" (105::109::112::111::114::116::108::105::98::46::66::117::105::108::116::105::110::73::109::112::111::114::116::101::114::46::103::101::116::95::99::111::100::101::35::111::112::97::113::117::101::6::197::sx "get_source" (sx "3_frozen_" (105::109::112::111::114::116::108::105::98::46::66::117::105::108::116::105::110::73::109::112::111::114::116::101::114::46::103::101::116::95::115::111::117::114::99::101::35::111::112::97::113::117::101::6::198::sx "is_package" (sx "3_frozen_" (105::109::112::111::114::116::108::105::98::46::66::117::105::108::116::105::110::73::109::112::111::114::116::101::114::46::105::115::95::112::97::99::107::97::103::101::35::111::112::97::113::117::101::6::199::sx "load_module" (sx "4_frozen_" (105::109::112::111::114::116::108::105::98::46::66::117::105::108::116::105::110::73::109::112::111::114::116::101::114::46::108::111::97::100::95::109::111::100::117::108::101::35::111::112::97::113::117::101::6::200::sx "__static_attributes__" (4::0::0::15::6::202::sx "__dict__" (4::0::0::16::6::204::sx "__weakref__" (4::0::0::17::[]))))))))))))))))))))))))))⟩ 0,.bool true,.bool true,.str "" 205,.int 21 0,.str ⟨(acg (6::227::sx "__module__" (6::217::sx "_frozen_importlib" (6::228::sx "__firstlineno__" (4::218::0::562::6::229::sx "__doc__" (sx "/_frozen_" (105::109::112::111::114::116::108::105::98::46::77::111::100::117::108::101::83::112::101::99::46::95::95::100::111::99::95::95::58::115::116::114::35::111::112::97::113::117::101::6::230::sx "__init__" (sx ",_frozen_" (105::109::112::111::114::116::108::105::98::46::77::111::100::117::108::101::83::112::101::99::46::95::95::105::110::105::116::95::95::35::111::112::97::113::117::101::6::231::sx "__repr__" (sx ",_frozen_" (105::109::112::111::114::116::108::105::98::46::77::111::100::117::108::101::83::112::101::99::46::95::95::114::101::112::114::95::95::35::111::112::97::113::117::101::6::232::sx "__eq__" (sx "*_frozen_" (105::109::112::111::114::116::108::105::98::46::77::111::100::117::108::101::83::112::101::99::46::95::95::101::113::95::95::35::111::112::97::113::117::101::6::233::sx "cached" (sx "*_frozen_" (105::109::112::111::114::116::108::105::98::46::77::111::100::117::108::101::83::112::101::99::46::99::97::99::104::101::100::35::111::112::97::113::117::101::6::234::sx "parent" (sx "*_frozen_" (105::109::112::111::114::116::108::105::98::46::77::111::100::117::108::101::83::112::101::99::46::112::97::114::101::110::116::35::111::112::97::113::117::101::6::235::sx "has_location" (sx "0_frozen_" (105::109::112::111::114::116::108::105::98::46::77::111::100::117::108::101::83::112::101::99::46::104::97::115::95::108::111::99::97::116::105::111::110::35::111::112::97::113::117::101::6::236::sx "__static_attributes__" (4::0::0::23::6::238::sx "__dict__" (4::0::0::24::6::240::sx "__weakref__" (4::0::0::25::6::241::sx "__hash__" (0::[])))))))))))))))))))))))⟩ 0,.bool true,.bool true,.str "" 242] 1)::ty "list" (.seq #[] 0)::di #[e P "name" 208 (.str "_sre" 207),er P "loader" 209 14,e P "origin" 210 (.str "built-in" 184),e P "loader_state" 211 .none,e P "submodule_search_locations" 212 .none,er P "_uninitialized_submodules" 213 19,e P "_set_fileattr" 214 (.bool false),e P "_cached" 215 .none,e P "_initializing" 243 (.bool false)] 9::dL (e P "__module__" 227 (.str "_frozen_importlib" 217)::e P "__firstlineno__" 228 (.int 562 218)::e P "__doc__" 229 (.builtin "_frozen_importlib.ModuleSpec.__doc__:str#opaque")::e P "__init__" 230 (.builtin "_frozen_importlib.ModuleSpec.__init__#opaque")::e P "__repr__" 231 (.builtin "_frozen_importlib.ModuleSpec.__repr__#opaque")::e P "__eq__" 232 (.builtin "_frozen_importlib.ModuleSpec.__eq__#opaque")::e P "cached" 233 (.builtin "_frozen_importlib.ModuleSpec.cached#opaque")::e P "parent" 234 (.builtin "_frozen_importlib.ModuleSpec.parent#opaque")::e P "has_location" 235 (.builtin "_frozen_importlib.ModuleSpec.has_location#opaque")::er P "__static_attributes__" 236 23::er P "__dict__" 238 24::er P "__weakref__" 240 25::e P "__hash__" 241 .none::[]) 13::ty "type" (.cls {name:="ModuleSpec",bases:=[.type "object"],mro:=[.ref 22,.type "object"],ns:=21,qualname:="ModuleSpec",hasDict:=true,slotNames:=[],subclasses:=[],abstract:=false,collection:=none,hasDel:=false})::nS 219 ["_cached","_set_fileattr","_uninitialized_submodules","loader","loader_state","name","origin","submodule_search_locations"]::ty "getset_descriptor" (.fields #[.str "__dict__" 237,.ref 22,.builtin "function.__dict__",.builtin "function.__dict__#set"])::ty "getset_descriptor" (.fields #[.str "__weakref__" 239,.ref 22,.builtin "ExceptionGroup.__weakref__",.none])::⟨.ref 22,some 20,.plain,#[]⟩::nt (.seq #[.int 11 0,.str ⟨(acg (6::247::sx "__name__" (6::246::sx "_sre" (6::248::sx "__doc__" (0::6::250::sx "__package__" (6::249::0::6::251::sx "__loader__" (4::0::0::14::6::252::sx "__spec__" (4::0::0::26::6::253::sx "compile" (9::sx "_sre.compile" (6::254::sx "template" (9::sx "_sre.template" (6::255::sx "getcodesize" (9::sx "_sre.getcodesize" (6::256::sx "ascii_iscased" (9::sx "_sre.ascii_iscased" (6::257::sx "unicode_iscased" (9::sx "_sre.unicode_iscased" (6::258::sx "ascii_tolower" (9::sx "_sre.ascii_tolower" (6::259::sx "unicode_tolower" (9::sx "_sre.unicode_tolower" (6::261::sx "MAGIC" (4::260::0::20230612::6::263::sx "CODESIZE" (4::262::0::4::6::265::sx "MAXREPEAT" (4::264::0::4294967295::6::267::sx "MAXGROUPS" (4::266::0::1073741823::6::269::sx "copyright" (6::268::53::32::83::82::69::32::50::46::50::46::50::32::67::111::112::121::114::105::103::104::116::32::40::99::41::32::49::57::57::55::45::50::48::48::50::32::98::121::32::83::101::99::114::101::116::32::76::97::98::115::32::65::66::32::[])))))))))))))))))))))))))))⟩ 0,.bool true,.bool false,.str "_sre" 271,.int 29 0,.str ⟨(acg (6::296::sx "__name__" (6::295::sx "_collections" (6::297::sx "__doc__" (9::sx "_collections.__doc__:str#opaque" (6::299::sx "__package__" (6::298::0::6::300::sx "__loader__" (4::0::0::14::6::301::sx "__spec__" (4::0::0::33::6::302::sx "_count_elements" (9::sx "_collections._count_elements" (6::303::sx "deque" (8::sx "collections.deque" (6::304::sx "defaultdict" (8::sx "collections.defaultdict" (6::305::sx "_deque_iterator" (8::sx "collections._deque_iterator" (6::306::sx "_deque_reverse_iterator" (sx "#collect" (105::111::110::115::46::95::100::101::113::117::101::95::114::101::118::101::114::115::101::95::105::116::101::114::97::116::111::114::6::307::sx "_tuplegetter" (8::sx "collections._tuplegetter" (6::308::sx "OrderedDict" (8::sx "collections.OrderedDict" ([])))))))))))))))))))))))⟩ 0,.bool true,.bool false,.str "_collections" 310] 1)::nS 277 ["deque"]::di #[e P "__name__" 296 (.str "_collections" 295),e P "__doc__" 297 (.builtin "_collections.__doc__:str#opaque"),e P "__package__" 299 (.str "" 298),er P "__loader__" 300 14,er P "__spec__" 301 33,e P "_count_elements" 302 (.builtin "_collections._count_elements"),e P "deque" 303 (.type "collections.deque"),e P "defaultdict" 304 (.type "collections.defaultdict"),e P "_deque_iterator" 305 (.type "collections._deque_iterator"),e P "_deque_reverse_iterator" 306 (.type "collections._deque_reverse_iterator"),e P "_tuplegetter" 307 (.type "collections._tuplegetter"),e P "OrderedDict" 308 (.type "collections.OrderedDict")] 12::⟨.type "module",some 29,.plain,#[]⟩::ty "list" (.seq #[] 0)::di #[e P "name" 283 (.str "_collections" 282),er P "loader" 284 14,e P "origin" 285 (.str "built-in" 281),e P "loader_state" 286 .none,e P "submodule_search_locations" 287 .none,er P "_uninitialized_submodules" 288 31,e P "_set_fileattr" 289 (.bool false),e P "_cached" 290 .none,e P "_initializing" 291 (.bool false)] 9::⟨.ref 22,some 32,.plain,#[]⟩::[])
def WV(w:World)(os:abW):aer:=⟨treeOf 12 (SY w.params),34,{},#[],{},318,os⟩
@[irreducible]noncomputable def SZ (P:aao):List Obj:=((SY P).set 11 (dL (e P "__name__" 247 (.str "_sre" 246)::e P "__doc__" 248 .none::e P "__package__" 250 (.str "" 249)::e P "__loader__" 251 (.builtin "off-the-table:_sre.__loader__:shared#opaque")::e P "__spec__" 252 (.builtin "off-the-table:_sre.__spec__:shared#opaque")::e P "compile" 253 (.builtin "_sre.compile")::e P "template" 254 (.builtin "off-the-table:_sre.template:shared#opaque")::e P "getcodesize" 255 (.builtin "off-the-table:_sre.getcodesize:shared#opaque")::e P "ascii_iscased" 256 (.builtin "off-the-table:_sre.ascii_iscased:shared#opaque")::e P "unicode_iscased" 257 (.builtin "off-the-table:_sre.unicode_iscased:shared#opaque")::e P "ascii_tolower" 258 (.builtin "off-the-table:_sre.ascii_tolower:shared#opaque")::e P "unicode_tolower" 259 (.builtin "off-the-table:_sre.unicode_tolower:shared#opaque")::e P "MAGIC" 261 (.int 20230612 260)::e P "CODESIZE" 263 (.int 4 262)::e P "MAXREPEAT" 265 (.int 4294967295 264)::e P "MAXGROUPS" 267 (.int 1073741823 266)::e P "copyright" 269 (.str " SRE 2.2.2 Copyright (c) 1997-2002 by Secret Labs AB " 268)::[]) 17)).set 29 (di #[e P "__name__" 296 (.str "_collections" 295),e P "__doc__" 297 (.builtin "off-the-table:_collections.__doc__:shared#opaque"),e P "__package__" 299 (.str "" 298),e P "__loader__" 300 (.builtin "off-the-table:_collections.__loader__:shared#opaque"),e P "__spec__" 301 (.builtin "off-the-table:_collections.__spec__:shared#opaque"),e P "_count_elements" 302 (.builtin "_collections._count_elements"),e P "deque" 303 (.type "collections.deque"),e P "defaultdict" 304 (.type "collections.defaultdict"),e P "_deque_iterator" 305 (.builtin "off-the-table:_collections._deque_iterator:shared#opaque"),e P "_deque_reverse_iterator" 306 (.builtin "off-the-table:_collections._deque_reverse_iterator:shared#opaque"),e P "_tuplegetter" 307 (.type "collections._tuplegetter"),e P "OrderedDict" 308 (.type "collections.OrderedDict")] 12)
def s_0(w:World)(os:abW):aer:=⟨treeOf 12 (SZ w.params),34,{},#[],{},318,os⟩
@[irreducible]noncomputable def WW (P:aao):List Obj:=SZ P++[t0,n0,cn "<module>" "<module>" 319 1 34 318 322,fr 36 3 SP]
def WX(w:World)(os:abW):aer:=⟨treeOf 12 (WW w.params),38,{},#[],{},324,os⟩
@[irreducible]noncomputable def WY (P:aao):List Obj:=WW P
def WZ(w:World)(os:abW):aer:=⟨treeOf 12 (WY w.params),38,{},#[],{},324,os⟩
@[irreducible]noncomputable def N8 (P:aao):List Obj:=((WY P).set 3 (dL (mE P vR (GE P)) 21)).set 35 (nF (w3 3 0 43<|w3 7 0 50<|w3 20 0 57<|w3 38 0 64<|w3 49 0 71<|w3 59 0 78<|w3 66 0 102<|w3 68 0 115<|[]))++(t0::n0::nS 327 ["k"]::t0::fb (tS 2) "_wall" "_wall"::co "_wall" "_wall" 324 3 1 0 0 3 38 328::fn (tS 2) "_wall" "_wall" 3 SP 43::t0::n0::nS 336 ["addr","pos","escape","ch"]::t0::fb (tS 4) "_iter_escaped_chars" "_iter_escaped_chars"::co "_iter_escaped_chars" "_iter_escaped_chars" 333 7 1 0 0 35 45 340::SR P::t0::n0::nS 346 ["addr","start","open_pos","result","pos","ch"]::t0::fb (tS 5) "_strip_quoted_realnames" "_strip_quoted_realnames"::co "_strip_quoted_realnames" "_strip_quoted_realnames" 343 20 1 0 0 3 52 352::SU P::t0::n0::nS 358 ["addr","opens","pos","ch"]::t0::fb (tS 6) "_check_parenthesis" "_check_parenthesis"::co "_check_parenthesis" "_check_parenthesis" 355 38 1 0 0 3 59 362::SV P::t0::n0::nS 368 ["email_header_fields","accepted_values","v"]::t0::fb (tS 7) "_pre_parse_validation" "_pre_parse_validation"::co "_pre_parse_validation" "_pre_parse_validation" 365 49 1 0 0 3 66 371::SW P::t0::tp::di #[e P "__module__" 389 (.str "cpy313.graphlib" 374),e P "__qualname__" 391 (.str "_NodeInfo" 390),e P "__firstlineno__" 393 (.int 59 392),er P "__slots__" 397 80,er P "__init__" 405 87,er P "__static_attributes__" 409 88] 6::t0::nt (.fields #[.int 62 0,.int 4 0,.ref 86])::cn "_NodeInfo" "_NodeInfo" 384 59 76 318 387::fr 78 75 vR::nS 394 ["node","npredecessors","successors"]::t0::n0::nS 401 ["self","node"]::t0::fb (cS 11 1) "__init__" "_NodeInfo.__init__"::co "__init__" "_NodeInfo.__init__" 398 62 2 0 0 3 81 403::SX P::nS 406 ["node","npredecessors","successors"]::ty "list" (.seq #[.str "node" 394,.str "npredecessors" 395,.str "successors" 396] 1)::di #[e P "__module__" 389 (.str "cpy313.graphlib" 374),e P "__firstlineno__" 393 (.int 59 392),er P "__slots__" 397 80,er P "__init__" 405 87,er P "__static_attributes__" 409 88,er P "node" 411 92,er P "npredecessors" 413 93,er P "successors" 415 94,e P "__doc__" 416 .none] 5::cO "_NodeInfo" [.type "object"] [.ref 91,.type "object"] 90 false ["node","npredecessors","successors"] [] none 382 390 (.builtin "object.__new__") false::ty "member_descriptor" (.fields #[.str "node" 410,.ref 91,.builtin "proto.slot",.builtin "proto.slot#set",.int 2 0])::ty "member_descriptor" (.fields #[.str "npredecessors" 412,.ref 91,.builtin "proto.slot",.builtin "proto.slot#set",.int 1 0])::ty "member_descriptor" (.fields #[.str "successors" 414,.ref 91,.builtin "proto.slot",.builtin "proto.slot#set",.int 0 0])::su 91::ty "builtin_function_or_method" (.fields #[.builtin "object.__init_subclass__",.ref 91])::oT [.type "ValueError"] 0::tp::di #[e P "__module__" 426 (.str "cpy313.graphlib" 374),e P "__qualname__" 428 (.str "CycleError" 427),e P "__firstlineno__" 430 (.int 66 429),er P "__static_attributes__" 431 104] 4::t0::n0::cn "CycleError" "CycleError" 421 66 100 318 424::fr 102 99 vR::t0::N4 P::N5 P::ty "getset_descriptor" (.fields #[.str "__weakref__" 432,.ref 106,.builtin "ExceptionGroup.__weakref__",.none])::su 106::ty "builtin_function_or_method" (.fields #[.builtin "object.__init_subclass__",.ref 106])::t0::tp::dL (e P "__module__" 444 (.str "cpy313.graphlib" 374)::e P "__qualname__" 446 (.str "TopologicalSorter" 445)::e P "__firstlineno__" 448 (.int 68 447)::er P "__init__" 458 124::er P "_get_nodeinfo" 467 131::er P "add" 479 138::er P "prepare" 485 143::er P "get_ready" 495 150::er P "is_active" 502 157::er P "__bool__" 509 164::er P "done" 523 171::er P "_find_cycle" 536 178::er P "static_order" 543 185::er P "__static_attributes__" 548 186::[]) 14::t0::nF (w3 70 4 123<|w3 79 4 130<|w3 84 4 137<|w3 93 4 142<|w3 101 4 149<|w3 112 4 156<|w3 117 4 163<|w3 120 4 170<|w3 143 4 177<|w3 172 4 184<|[])::cn "TopologicalSorter" "TopologicalSorter" 439 68 113 318 442::fr 115 112 vR::oT [.none] 0::t0::n0::nS 452 ["self","graph","node","predecessors"]::t0::fb (cS 13 0) "__init__" "TopologicalSorter.__init__"::co "__init__" "TopologicalSorter.__init__" 449 70 2 0 0 3 118 456::HM P::t0::n0::nS 462 ["self","node","result"]::t0::fb (cS 13 1) "_get_nodeinfo" "TopologicalSorter._get_nodeinfo"::co "_get_nodeinfo" "TopologicalSorter._get_nodeinfo" 459 79 2 0 0 3 125 465::HN P::t0::n0::nS 471 ["self","node","predecessors","nodeinfo","pred","pred_info"]::t0::fb (cS 13 2) "add" "TopologicalSorter.add"::co "add" "TopologicalSorter.add" 468 84 2 0 0 7 132 477::HO P::t0::n0::fb (cS 13 3) "prepare" "TopologicalSorter.prepare"::cp "prepare" "TopologicalSorter.prepare" 480 93 1 3 139 483::HP P::t0::n0::nS 489 ["self","result","n2i","node"]::t0::fb (cS 13 4) "get_ready" "TopologicalSorter.get_ready"::co "get_ready" "TopologicalSorter.get_ready" 486 101 1 0 0 3 144 493::HQ P::t0::n0::nS 499 ["self"]::t0::fb (cS 13 5) "is_active" "TopologicalSorter.is_active"::co "is_active" "TopologicalSorter.is_active" 496 112 1 0 0 3 151 500::HR P::t0::n0::nS 506 ["self"]::t0::fb (cS 13 6) "__bool__" "TopologicalSorter.__bool__"::co "__bool__" "TopologicalSorter.__bool__" 503 117 1 0 0 3 158 507::fn (cS 13 6) "__bool__" "TopologicalSorter.__bool__" 3 vR 163::t0::n0::nS 513 ["self","nodes","n2i","node","nodeinfo","stat","successor","successor_info"]::t0::fb (cS 13 7) "done" "TopologicalSorter.done"::co "done" "TopologicalSorter.done" 510 120 1 0 0 7 165 521::HS P::t0::n0::nS 527 ["self","n2i","stack","itstack","seen","node2stacki","node"]::t0::fb (cS 13 8) "_find_cycle" "TopologicalSorter._find_cycle"::co "_find_cycle" "TopologicalSorter._find_cycle" 524 143 1 0 0 3 172 534::HT P::t0::n0::nS 540 ["self"]::t0::fb (cS 13 9) "static_order" "TopologicalSorter.static_order"::co "static_order" "TopologicalSorter.static_order" 537 172 1 0 0 3 179 541::fn (cS 13 9) "static_order" "TopologicalSorter.static_order" 3 vR 184::nS 544 ["_nfinished","_node2info","_npassedout","_ready_nodes"]::dL (e P "__module__" 444 (.str "cpy313.graphlib" 374)::e P "__firstlineno__" 448 (.int 68 447)::er P "__init__" 458 124::er P "_get_nodeinfo" 467 131::er P "add" 479 138::er P "prepare" 485 143::er P "get_ready" 495 150::er P "is_active" 502 157::er P "__bool__" 509 164::er P "done" 523 171::er P "_find_cycle" 536 178::er P "static_order" 543 185::er P "__static_attributes__" 548 186::er P "__dict__" 550 189::er P "__weakref__" 552 190::e P "__doc__" 553 .none::[]) 4::cO "TopologicalSorter" [.type "object"] [.ref 188,.type "object"] 187 true [] [] none 437 445 (.builtin "object.__new__") true::ty "getset_descriptor" (.fields #[.str "__dict__" 549,.ref 188,.builtin "function.__dict__",.builtin "function.__dict__#set"])::ty "getset_descriptor" (.fields #[.str "__weakref__" 551,.ref 188,.builtin "ExceptionGroup.__weakref__",.none])::su 188::ty "builtin_function_or_method" (.fields #[.builtin "object.__init_subclass__",.ref 188])::[])
def N9(w:World)(os:abW):aer:=⟨treeOf 12 (N8 w.params),193,{},#[],{},556,os⟩
@[irreducible]noncomputable def N_ (P:aao):List Obj:=(((N8 P).set 2 (nt (.dict (acg (e P "\x69mport.loaded._sre" 183 (.bool true)::er P "class._frozen_importlib.BuiltinImporter" 185 14::er P "watched.\x69mport" 206 18::er P "class._frozen_importlib.ModuleSpec" 216 22::e P "sys.modules.booked-epoch" 245 (.int 4 0)::e P "\x69mport.later-laid._sre" 270 (.bool true)::er P "watched.library" 272 27::e P "watched.library-objects" 0 (.str ⟨#[12,30]⟩ 0)::e P "watched.library-deep._sre" 273 (.str ⟨(acg (4::0::0::11::4::0::0::11::4::0::0::3::4::0::0::11::8::sx "dict" (2::[])))⟩ 0)::e P "\x69mport.loaded._collections" 280 (.bool true)::e P "sys.modules.landed._collections" 294 (.bool true)::e P "\x69mport.later-laid._collections" 309 (.bool true)::e P "watched.library-deep._collections" 311 (.str ⟨(acg (4::0::0::29::4::0::0::29::4::0::0::3::4::0::0::29::8::sx "dict" (2::[])))⟩ 0)::e P "type.__subclasses__.OSError.0" 632 (.int 221 0)::e P "type.__subclasses__.OSError.n" 633 (.int 1 0)::[])) 15))).set 3 (dL (mE P c7 (GF P)) 28)).set 35 (nF (w3 3 0 43<|w3 7 0 50<|w3 20 0 57<|w3 38 0 64<|w3 49 0 71<|w3 59 0 78<|w3 66 0 102<|w3 68 0 115<|w3 176 0 203<|w3 181 0 210<|w3 188 0 217<|w3 190 0 230<|w3 197 0 252<|w3 199 0 264<|[]))++(ty "list" (.seq (acg (.int 14 559::.int 17 560::.int 4 561::.int 1 562::.int 1 563::.int 21 564::.int 9 565::.int 0 566::.int 604043296 567::.int 1 568::.int 0 569::.int 0 570::.int 0 571::.int 0 572::.int 0 573::.int 8 574::.int 4 575::.int 0 576::.int 13 577::.int 14 578::.int 21 579::.int 9 580::.int 0 581::.int 604043296 582::.int 1 583::.int 0 584::.int 0 585::.int 0 586::.int 0 587::.int 0 588::.int 8 589::.int 4 590::.int 0 591::.int 1 592::[])) 0)::di #[] 0::oT [.none] 0::oT (.int 14 0::.int 17 0::.int 4 0::.int 1 0::.int 1 0::.int 21 0::.int 9 0::.int 0 0::.int 604043296 0::.int 1 0::.int 0 0::.int 0 0::.int 0 0::.int 0 0::.int 0 0::.int 8 0::.int 4 0::.int 0 0::.int 13 0::.int 14 0::.int 21 0::.int 9 0::.int 0 0::.int 604043296 0::.int 1 0::.int 0 0::.int 0 0::.int 0 0::.int 0 0::.int 0 0::.int 8 0::.int 4 0::.int 0 0::.int 1 0::[]) 0::⟨.type "re.Pattern",none,.fields #[.str "[^\\w@%+=:,./-]" 557,.int 256 594,.int 0 0,.none,.none,.ref 196,.int 0 0],#[]⟩::t0::n0::nS 601 ["n","what"]::t0::fb (tS 16) "_whence" "_whence"::co "_whence" "_whence" 598 176 2 0 0 3 198 603::fn (tS 16) "_whence" "_whence" 3 c7 203::t0::n0::nS 609 ["n","what"]::t0::fb (tS 17) "_index" "_index"::co "_index" "_index" 606 181 2 0 0 3 205 611::HU P::oT [.type "OSError",.type "ValueError"] 0::tp::di #[e P "__module__" 621 (.str "io" 626),e P "__qualname__" 623 (.str "UnsupportedOperation" 622),e P "__firstlineno__" 625 (.int 188 624),er P "__static_attributes__" 628 219] 4::t0::n0::cn "UnsupportedOperation" "UnsupportedOperation" 616 188 215 318 619::fr 217 214 c7::t0::di #[e P "__module__" 621 (.str "io" 626),e P "__firstlineno__" 625 (.int 188 624),er P "__static_attributes__" 628 219,er P "__weakref__" 630 222,e P "__doc__" 631 .none] 3::cO "UnsupportedOperation" [.type "OSError",.type "ValueError"] [.ref 221,.type "OSError",.type "ValueError",.type "Exception",.type "BaseException",.type "object"] 220 true [] [] (some (.ref 212)) 614 622 (.builtin "OSError.__new__") true::ty "getset_descriptor" (.fields #[.str "__weakref__" 629,.ref 221,.builtin "ExceptionGroup.__weakref__",.none])::su 221::ty "builtin_function_or_method" (.fields #[.builtin "object.__init_subclass__",.ref 221])::t0::tp::di #[e P "__module__" 643 (.str "io" 648),e P "__qualname__" 645 (.str "IOBase" 644),e P "__firstlineno__" 647 (.int 190 646),er P "__new__" 658 238,er P "__static_attributes__" 659 239] 5::t0::nt (.fields #[.int 193 0,.int 4 0,.ref 237])::cn "IOBase" "IOBase" 638 190 228 318 641::fr 230 227 c7::t0::n0::nS 653 ["cls","args","kwargs"]::t0::fb (cS 19 1) "__new__" "IOBase.__new__"::co "__new__" "IOBase.__new__" 650 193 1 1 0 15 232 656::HV P::t0::di #[e P "__module__" 643 (.str "io" 648),e P "__firstlineno__" 647 (.int 190 646),er P "__new__" 658 242,er P "__static_attributes__" 659 239,er P "__dict__" 662 243,er P "__weakref__" 664 244,e P "__doc__" 665 .none] 4::cO "IOBase" [.type "object"] [.ref 241,.type "object"] 240 true [] [.ref 256,.ref 268] none 636 644 .none true::ty "staticmethod" (.fields #[.ref 238])::ty "getset_descriptor" (.fields #[.str "__dict__" 661,.ref 241,.builtin "function.__dict__",.builtin "function.__dict__#set"])::ty "getset_descriptor" (.fields #[.str "__weakref__" 663,.ref 241,.builtin "ExceptionGroup.__weakref__",.none])::su 241::ty "builtin_function_or_method" (.fields #[.builtin "object.__init_subclass__",.ref 241])::oT [.ref 241] 0::tp::di #[e P "__module__" 675 (.str "io" 680),e P "__qualname__" 677 (.str "BufferedIOBase" 676),e P "__firstlineno__" 679 (.int 197 678),er P "__static_attributes__" 682 254] 4::t0::n0::cn "BufferedIOBase" "BufferedIOBase" 670 197 250 318 673::fr 252 249 c7::t0::di #[e P "__module__" 675 (.str "io" 680),e P "__firstlineno__" 679 (.int 197 678),er P "__static_attributes__" 682 254,e P "__doc__" 683 .none] 2::cO "BufferedIOBase" [.ref 241] [.ref 256,.ref 241,.type "object"] 255 true [] [] (some (.ref 247)) 668 676 .none true::su 256::ty "builtin_function_or_method" (.fields #[.builtin "object.__init_subclass__",.ref 256])::oT [.ref 241] 0::tp::di #[e P "__module__" 693 (.str "io" 698),e P "__qualname__" 695 (.str "TextIOBase" 694),e P "__firstlineno__" 697 (.int 199 696),er P "__static_attributes__" 700 266] 4::t0::n0::cn "TextIOBase" "TextIOBase" 688 199 262 318 691::fr 264 261 c7::t0::di #[e P "__module__" 693 (.str "io" 698),e P "__firstlineno__" 697 (.int 199 696),er P "__static_attributes__" 700 266,e P "__doc__" 701 .none] 2::cO "TextIOBase" [.ref 241] [.ref 268,.ref 241,.type "object"] 267 true [] [] (some (.ref 259)) 686 694 .none true::su 268::ty "builtin_function_or_method" (.fields #[.builtin "object.__init_subclass__",.ref 268])::[])
def Oa(w:World)(os:abW):aer:=⟨treeOf 12 (N_ w.params),271,{},#[],{},704,os⟩
@[irreducible]noncomputable def Ob (P:aao):List Obj:=(((N_ P).set 3 (dL (mE P c7 (GG P)) 29)).set 35 (nF (w3 3 0 43<|w3 7 0 50<|w3 20 0 57<|w3 38 0 64<|w3 49 0 71<|w3 59 0 78<|w3 66 0 102<|w3 68 0 115<|w3 176 0 203<|w3 181 0 210<|w3 188 0 217<|w3 190 0 230<|w3 197 0 252<|w3 199 0 264<|w3 201 0 276<|[]))).set 256 (cO "BufferedIOBase" [.ref 241] [.ref 256,.ref 241,.type "object"] 255 true [] [.ref 498] (some (.ref 247)) 668 676 .none true)++(oT [.ref 256] 0::tp::dL (e P "__module__" 711 (.str "_io" 716)::e P "__qualname__" 713 (.str "BytesIO" 712)::e P "__firstlineno__" 715 (.int 201 714)::er P "__init__" 725 285::er P "_BytesIO__check" 732 292::er P "_BytesIO__line" 743 299::er P "closed" 751 307::er P "close" 758 314::er P "__enter__" 765 321::er P "__exit__" 773 328::er P "readable" 780 335::er P "writable" 787 342::er P "seekable" 794 349::er P "isatty" 801 356::er P "flush" 808 363::er P "fileno" 815 370::er P "detach" 822 377::er P "getvalue" 829 384::er P "getbuffer" 836 391::er P "tell" 843 398::er P "seek" 853 406::er P "truncate" 861 414::er P "read" 873 422::er P "read1" 883 430::er P "readinto" 893 437::er P "readinto1" 901 444::er P "readline" 911 452::er P "readlines" 919 460::er P "__iter__" 926 467::er P "__next__" 934 474::er P "write" 944 481::er P "writelines" 952 488::er P "__repr__" 959 495::er P "__static_attributes__" 962 496::[]) 34::t0::nF (w3 204 4 284<|w3 210 4 291<|w3 214 4 298<|w3 228 4 305<|w3 231 4 313<|w3 234 4 320<|w3 238 4 327<|w3 241 4 334<|w3 245 4 341<|w3 249 4 348<|w3 253 4 355<|w3 257 4 362<|w3 260 4 369<|w3 263 4 376<|w3 266 4 383<|w3 269 4 390<|w3 272 4 397<|w3 276 4 405<|w3 293 4 413<|w3 296 4 421<|w3 310 4 429<|w3 313 4 436<|w3 327 4 443<|w3 330 4 451<|w3 337 4 459<|w3 340 4 466<|w3 343 4 473<|w3 350 4 480<|w3 366 4 487<|w3 369 4 494<|[])::cn "BytesIO" "BytesIO" 706 201 274 318 709::fr 276 273 c7::oT [.none] 0::t0::n0::nS 721 ["self","initial_bytes"]::t0::fb (cS 22 1) "__init__" "BytesIO.__init__"::co "__init__" "BytesIO.__init__" 718 204 2 0 0 3 279 723::fo (cS 22 1) "__init__" "BytesIO.__init__" 3 (.ref 278) .none .none c7 none 284 .none::t0::n0::nS 729 ["self"]::t0::fb (cS 22 2) "__check" "BytesIO.__check"::co "__check" "BytesIO.__check" 726 210 1 0 0 3 286 730::fn (cS 22 2) "__check" "BytesIO.__check" 3 c7 291::t0::n0::nS 736 ["self","limit","start","stop","i"]::t0::fb (cS 22 3) "__line" "BytesIO.__line"::co "__line" "BytesIO.__line" 733 214 2 0 0 3 293 741::fn (cS 22 3) "__line" "BytesIO.__line" 3 c7 298::t0::n0::nS 747 ["self"]::t0::fb (cS 22 4) "closed" "BytesIO.closed"::co "closed" "BytesIO.closed" 744 227 1 0 0 3 300 748::fn (cS 22 4) "closed" "BytesIO.closed" 3 c7 305::ty "property" (.fields #[.ref 306,.none,.none,.none,.str "closed" 751,.bool false])::t0::n0::nS 755 ["self"]::t0::fb (cS 22 5) "close" "BytesIO.close"::co "close" "BytesIO.close" 752 231 1 0 0 3 308 756::fn (cS 22 5) "close" "BytesIO.close" 3 c7 313::t0::n0::nS 762 ["self"]::t0::fb (cS 22 6) "__enter__" "BytesIO.__enter__"::co "__enter__" "BytesIO.__enter__" 759 234 1 0 0 3 315 763::fn (cS 22 6) "__enter__" "BytesIO.__enter__" 3 c7 320::t0::n0::nS 769 ["self","args"]::t0::fb (cS 22 7) "__exit__" "BytesIO.__exit__"::co "__exit__" "BytesIO.__exit__" 766 238 1 0 0 7 322 771::fn (cS 22 7) "__exit__" "BytesIO.__exit__" 3 c7 327::t0::n0::nS 777 ["self"]::t0::fb (cS 22 8) "readable" "BytesIO.readable"::co "readable" "BytesIO.readable" 774 241 1 0 0 3 329 778::fn (cS 22 8) "readable" "BytesIO.readable" 3 c7 334::t0::n0::nS 784 ["self"]::t0::fb (cS 22 9) "writable" "BytesIO.writable"::co "writable" "BytesIO.writable" 781 245 1 0 0 3 336 785::fn (cS 22 9) "writable" "BytesIO.writable" 3 c7 341::t0::n0::nS 791 ["self"]::t0::fb (cS 22 10) "seekable" "BytesIO.seekable"::co "seekable" "BytesIO.seekable" 788 249 1 0 0 3 343 792::fn (cS 22 10) "seekable" "BytesIO.seekable" 3 c7 348::t0::n0::nS 798 ["self"]::t0::fb (cS 22 11) "isatty" "BytesIO.isatty"::co "isatty" "BytesIO.isatty" 795 253 1 0 0 3 350 799::fn (cS 22 11) "isatty" "BytesIO.isatty" 3 c7 355::t0::n0::nS 805 ["self"]::t0::fb (cS 22 12) "flush" "BytesIO.flush"::co "flush" "BytesIO.flush" 802 257 1 0 0 3 357 806::fn (cS 22 12) "flush" "BytesIO.flush" 3 c7 362::t0::n0::nS 812 ["self"]::t0::fb (cS 22 13) "fileno" "BytesIO.fileno"::co "fileno" "BytesIO.fileno" 809 260 1 0 0 3 364 813::fn (cS 22 13) "fileno" "BytesIO.fileno" 3 c7 369::t0::n0::nS 819 ["self"]::t0::fb (cS 22 14) "detach" "BytesIO.detach"::co "detach" "BytesIO.detach" 816 263 1 0 0 3 371 820::fn (cS 22 14) "detach" "BytesIO.detach" 3 c7 376::t0::n0::nS 826 ["self"]::t0::fb (cS 22 15) "getvalue" "BytesIO.getvalue"::co "getvalue" "BytesIO.getvalue" 823 266 1 0 0 3 378 827::fn (cS 22 15) "getvalue" "BytesIO.getvalue" 3 c7 383::t0::n0::nS 833 ["self"]::t0::fb (cS 22 16) "getbuffer" "BytesIO.getbuffer"::co "getbuffer" "BytesIO.getbuffer" 830 269 1 0 0 3 385 834::fn (cS 22 16) "getbuffer" "BytesIO.getbuffer" 3 c7 390::t0::n0::nS 840 ["self"]::t0::fb (cS 22 17) "tell" "BytesIO.tell"::co "tell" "BytesIO.tell" 837 272 1 0 0 3 392 841::fn (cS 22 17) "tell" "BytesIO.tell" 3 c7 397::oT [.int 0 844] 0::t0::n0::nS 848 ["self","pos","whence"]::t0::fb (cS 22 18) "seek" "BytesIO.seek"::co "seek" "BytesIO.seek" 845 276 3 3 0 3 400 851::fo (cS 22 18) "seek" "BytesIO.seek" 3 (.ref 399) .none .none c7 none 405 .none::oT [.none] 0::t0::n0::nS 857 ["self","size"]::t0::fb (cS 22 19) "truncate" "BytesIO.truncate"::co "truncate" "BytesIO.truncate" 854 293 2 2 0 3 408 859::fo (cS 22 19) "truncate" "BytesIO.truncate" 3 (.ref 407) .none .none c7 none 413 .none::oT [.int (-1) 863] 0::t0::n0::nS 867 ["self","size","start","stop"]::t0::fb (cS 22 20) "read" "BytesIO.read"::co "read" "BytesIO.read" 864 296 2 2 0 3 416 871::fo (cS 22 20) "read" "BytesIO.read" 3 (.ref 415) .none .none c7 none 421 .none::oT [.int (-1) 875] 0::t0::n0::nS 879 ["self","size"]::t0::fb (cS 22 21) "read1" "BytesIO.read1"::co "read1" "BytesIO.read1" 876 310 2 2 0 3 424 881::fo (cS 22 21) "read1" "BytesIO.read1" 3 (.ref 423) .none .none c7 none 429 .none::t0::n0::nS 887 ["self","buffer","start","n"]::t0::fb (cS 22 22) "readinto" "BytesIO.readinto"::co "readinto" "BytesIO.readinto" 884 313 2 2 0 3 431 891::fn (cS 22 22) "readinto" "BytesIO.readinto" 3 c7 436::t0::n0::nS 897 ["self","buffer"]::t0::fb (cS 22 23) "readinto1" "BytesIO.readinto1"::co "readinto1" "BytesIO.readinto1" 894 327 2 2 0 3 438 899::fn (cS 22 23) "readinto1" "BytesIO.readinto1" 3 c7 443::oT [.int (-1) 903] 0::t0::n0::nS 907 ["self","size"]::t0::fb (cS 22 24) "readline" "BytesIO.readline"::co "readline" "BytesIO.readline" 904 330 2 2 0 3 446 909::fo (cS 22 24) "readline" "BytesIO.readline" 3 (.ref 445) .none .none c7 none 451 .none::oT [.none] 0::t0::n0::nS 915 ["self","size"]::t0::fb (cS 22 25) "readlines" "BytesIO.readlines"::co "readlines" "BytesIO.readlines" 912 337 2 2 0 3 454 917::fo (cS 22 25) "readlines" "BytesIO.readlines" 3 (.ref 453) .none .none c7 none 459 .none::t0::n0::nS 923 ["self"]::t0::fb (cS 22 26) "__iter__" "BytesIO.__iter__"::co "__iter__" "BytesIO.__iter__" 920 340 1 0 0 3 461 924::fn (cS 22 26) "__iter__" "BytesIO.__iter__" 3 c7 466::t0::n0::nS 930 ["self","line"]::t0::fb (cS 22 27) "__next__" "BytesIO.__next__"::co "__next__" "BytesIO.__next__" 927 343 1 0 0 3 468 932::fn (cS 22 27) "__next__" "BytesIO.__next__" 3 c7 473::t0::n0::nS 938 ["self","b","n","start"]::t0::fb (cS 22 28) "write" "BytesIO.write"::co "write" "BytesIO.write" 935 350 2 2 0 3 475 942::fn (cS 22 28) "write" "BytesIO.write" 3 c7 480::t0::n0::nS 948 ["self","lines"]::t0::fb (cS 22 29) "writelines" "BytesIO.writelines"::co "writelines" "BytesIO.writelines" 945 366 2 2 0 3 482 950::fn (cS 22 29) "writelines" "BytesIO.writelines" 3 c7 487::t0::n0::nS 956 ["self"]::t0::fb (cS 22 30) "__repr__" "BytesIO.__repr__"::co "__repr__" "BytesIO.__repr__" 953 369 1 0 0 3 489 957::fn (cS 22 30) "__repr__" "BytesIO.__repr__" 3 c7 494::nS 960 ["__buf","__pos"]::dL (e P "__module__" 711 (.str "_io" 716)::e P "__firstlineno__" 715 (.int 201 714)::er P "__init__" 725 285::er P "_BytesIO__check" 732 292::er P "_BytesIO__line" 743 299::er P "closed" 751 307::er P "close" 758 314::er P "__enter__" 765 321::er P "__exit__" 773 328::er P "readable" 780 335::er P "writable" 787 342::er P "seekable" 794 349::er P "isatty" 801 356::er P "flush" 808 363::er P "fileno" 815 370::er P "detach" 822 377::er P "getvalue" 829 384::er P "getbuffer" 836 391::er P "tell" 843 398::er P "seek" 853 406::er P "truncate" 861 414::er P "read" 873 422::er P "read1" 883 430::er P "readinto" 893 437::er P "readinto1" 901 444::er P "readline" 911 452::er P "readlines" 919 460::er P "__iter__" 926 467::er P "__next__" 934 474::er P "write" 944 481::er P "writelines" 952 488::er P "__repr__" 959 495::er P "__static_attributes__" 962 496::e P "__doc__" 963 .none::[]) 2::N6 P::su 498::ty "builtin_function_or_method" (.fields #[.builtin "object.__init_subclass__",.ref 498])::[])
def Oc(w:World)(os:abW):aer:=⟨treeOf 12 (Ob w.params),501,{},#[],{},966,os⟩
@[irreducible]noncomputable def Od (P:aao):List Obj:=(((Ob P).set 3 (dL (mE P c7 (GJ P)) 30)).set 35 (nF (w3 3 0 43<|w3 7 0 50<|w3 20 0 57<|w3 38 0 64<|w3 49 0 71<|w3 59 0 78<|w3 66 0 102<|w3 68 0 115<|w3 176 0 203<|w3 181 0 210<|w3 188 0 217<|w3 190 0 230<|w3 197 0 252<|w3 199 0 264<|w3 201 0 276<|w3 371 0 506<|[]))).set 268 (cO "TextIOBase" [.ref 241] [.ref 268,.ref 241,.type "object"] 267 true [] [.ref 745] (some (.ref 259)) 686 694 .none true)++(oT [.ref 268] 0::tp::dL (e P "__module__" 973 (.str "_io" 978)::e P "__qualname__" 975 (.str "StringIO" 974)::e P "__firstlineno__" 977 (.int 371 976)::er P "__init__" 990 515::er P "_StringIO__translated" 999 522::er P "_StringIO__check" 1006 529::er P "_StringIO__check_dot" 1013 536::er P "_StringIO__line" 1028 543::er P "closed" 1036 551::er P "line_buffering" 1044 559::er P "newlines" 1052 567::er P "encoding" 1060 575::er P "errors" 1068 583::er P "close" 1075 590::er P "__enter__" 1082 597::er P "__exit__" 1090 604::er P "readable" 1097 611::er P "writable" 1104 618::er P "seekable" 1111 625::er P "isatty" 1118 632::er P "flush" 1125 639::er P "fileno" 1132 646::er P "detach" 1139 653::er P "getvalue" 1146 660::er P "tell" 1153 667::er P "seek" 1163 675::er P "truncate" 1171 683::er P "read" 1183 691::er P "readline" 1193 699::er P "readlines" 1203 707::er P "__iter__" 1210 714::er P "__next__" 1218 721::er P "write" 1230 728::er P "writelines" 1238 735::er P "__repr__" 1245 742::er P "__static_attributes__" 1249 743::[]) 36::t0::nF (w3 374 4 514<|w3 387 4 521<|w3 395 4 528<|w3 399 4 535<|w3 403 4 542<|w3 436 4 549<|w3 440 4 557<|w3 444 4 565<|w3 448 4 573<|w3 452 4 581<|w3 455 4 589<|w3 458 4 596<|w3 462 4 603<|w3 465 4 610<|w3 469 4 617<|w3 473 4 624<|w3 477 4 631<|w3 481 4 638<|w3 484 4 645<|w3 487 4 652<|w3 490 4 659<|w3 493 4 666<|w3 497 4 674<|w3 514 4 682<|w3 517 4 690<|w3 531 4 698<|w3 538 4 706<|w3 541 4 713<|w3 545 4 720<|w3 552 4 727<|w3 571 4 734<|w3 574 4 741<|[])::cn "StringIO" "StringIO" 968 371 504 318 971::fr 506 503 c7::oT [.str "" 980,.str ⟨#[10]⟩ 981] 0::t0::n0::nS 985 ["self","initial_value","newline"]::t0::fb (cS 23 1) "__init__" "StringIO.__init__"::co "__init__" "StringIO.__init__" 982 374 3 0 0 3 509 988::HW P::t0::n0::nS 994 ["self","s","newline"]::t0::fb (cS 23 2) "__translated" "StringIO.__translated"::co "__translated" "StringIO.__translated" 991 387 2 0 0 3 516 997::HX P::t0::n0::nS 1003 ["self"]::t0::fb (cS 23 3) "__check" "StringIO.__check"::co "__check" "StringIO.__check" 1000 395 1 0 0 3 523 1004::HY P::t0::n0::nS 1010 ["self"]::t0::fb (cS 23 4) "__check_dot" "StringIO.__check_dot"::co "__check_dot" "StringIO.__check_dot" 1007 399 1 0 0 3 530 1011::fn (cS 23 4) "__check_dot" "StringIO.__check_dot" 3 c7 535::t0::n0::nS 1017 ["self","limit","start","stop","cut","newline","i","j","end"]::t0::fb (cS 23 5) "__line" "StringIO.__line"::co "__line" "StringIO.__line" 1014 403 2 0 0 3 537 1026::fn (cS 23 5) "__line" "StringIO.__line" 3 c7 542::t0::n0::nS 1032 ["self"]::t0::fb (cS 23 6) "closed" "StringIO.closed"::co "closed" "StringIO.closed" 1029 435 1 0 0 3 544 1033::fn (cS 23 6) "closed" "StringIO.closed" 3 c7 549::ty "property" (.fields #[.ref 550,.none,.none,.none,.str "closed" 1036,.bool false])::t0::n0::nS 1040 ["self"]::t0::fb (cS 23 7) "line_buffering" "StringIO.line_buffering"::co "line_buffering" "StringIO.line_buffering" 1037 439 1 0 0 3 552 1041::fn (cS 23 7) "line_buffering" "StringIO.line_buffering" 3 c7 557::ty "property" (.fields #[.ref 558,.none,.none,.none,.str "line_buffering" 1044,.bool false])::t0::n0::nS 1048 ["self"]::t0::fb (cS 23 8) "newlines" "StringIO.newlines"::co "newlines" "StringIO.newlines" 1045 443 1 0 0 3 560 1049::fn (cS 23 8) "newlines" "StringIO.newlines" 3 c7 565::ty "property" (.fields #[.ref 566,.none,.none,.none,.str "newlines" 1052,.bool false])::t0::n0::nS 1056 ["self"]::t0::fb (cS 23 9) "encoding" "StringIO.encoding"::co "encoding" "StringIO.encoding" 1053 447 1 0 0 3 568 1057::fn (cS 23 9) "encoding" "StringIO.encoding" 3 c7 573::ty "property" (.fields #[.ref 574,.none,.none,.none,.str "encoding" 1060,.bool false])::t0::n0::nS 1064 ["self"]::t0::fb (cS 23 10) "errors" "StringIO.errors"::co "errors" "StringIO.errors" 1061 451 1 0 0 3 576 1065::fn (cS 23 10) "errors" "StringIO.errors" 3 c7 581::ty "property" (.fields #[.ref 582,.none,.none,.none,.str "errors" 1068,.bool false])::t0::n0::nS 1072 ["self"]::t0::fb (cS 23 11) "close" "StringIO.close"::co "close" "StringIO.close" 1069 455 1 0 0 3 584 1073::fn (cS 23 11) "close" "StringIO.close" 3 c7 589::t0::n0::nS 1079 ["self"]::t0::fb (cS 23 12) "__enter__" "StringIO.__enter__"::co "__enter__" "StringIO.__enter__" 1076 458 1 0 0 3 591 1080::fn (cS 23 12) "__enter__" "StringIO.__enter__" 3 c7 596::t0::n0::nS 1086 ["self","args"]::t0::fb (cS 23 13) "__exit__" "StringIO.__exit__"::co "__exit__" "StringIO.__exit__" 1083 462 1 0 0 7 598 1088::fn (cS 23 13) "__exit__" "StringIO.__exit__" 3 c7 603::t0::n0::nS 1094 ["self"]::t0::fb (cS 23 14) "readable" "StringIO.readable"::co "readable" "StringIO.readable" 1091 465 1 0 0 3 605 1095::fn (cS 23 14) "readable" "StringIO.readable" 3 c7 610::t0::n0::nS 1101 ["self"]::t0::fb (cS 23 15) "writable" "StringIO.writable"::co "writable" "StringIO.writable" 1098 469 1 0 0 3 612 1102::fn (cS 23 15) "writable" "StringIO.writable" 3 c7 617::t0::n0::nS 1108 ["self"]::t0::fb (cS 23 16) "seekable" "StringIO.seekable"::co "seekable" "StringIO.seekable" 1105 473 1 0 0 3 619 1109::fn (cS 23 16) "seekable" "StringIO.seekable" 3 c7 624::t0::n0::nS 1115 ["self"]::t0::fb (cS 23 17) "isatty" "StringIO.isatty"::co "isatty" "StringIO.isatty" 1112 477 1 0 0 3 626 1116::fn (cS 23 17) "isatty" "StringIO.isatty" 3 c7 631::t0::n0::nS 1122 ["self"]::t0::fb (cS 23 18) "flush" "StringIO.flush"::co "flush" "StringIO.flush" 1119 481 1 0 0 3 633 1123::fn (cS 23 18) "flush" "StringIO.flush" 3 c7 638::t0::n0::nS 1129 ["self"]::t0::fb (cS 23 19) "fileno" "StringIO.fileno"::co "fileno" "StringIO.fileno" 1126 484 1 0 0 3 640 1130::fn (cS 23 19) "fileno" "StringIO.fileno" 3 c7 645::t0::n0::nS 1136 ["self"]::t0::fb (cS 23 20) "detach" "StringIO.detach"::co "detach" "StringIO.detach" 1133 487 1 0 0 3 647 1137::fn (cS 23 20) "detach" "StringIO.detach" 3 c7 652::t0::n0::nS 1143 ["self"]::t0::fb (cS 23 21) "getvalue" "StringIO.getvalue"::co "getvalue" "StringIO.getvalue" 1140 490 1 0 0 3 654 1144::fn (cS 23 21) "getvalue" "StringIO.getvalue" 3 c7 659::t0::n0::nS 1150 ["self"]::t0::fb (cS 23 22) "tell" "StringIO.tell"::co "tell" "StringIO.tell" 1147 493 1 0 0 3 661 1151::fn (cS 23 22) "tell" "StringIO.tell" 3 c7 666::oT [.int 0 1154] 0::t0::n0::nS 1158 ["self","pos","whence"]::t0::fb (cS 23 23) "seek" "StringIO.seek"::co "seek" "StringIO.seek" 1155 497 3 3 0 3 669 1161::fo (cS 23 23) "seek" "StringIO.seek" 3 (.ref 668) .none .none c7 none 674 .none::oT [.none] 0::t0::n0::nS 1167 ["self","pos"]::t0::fb (cS 23 24) "truncate" "StringIO.truncate"::co "truncate" "StringIO.truncate" 1164 514 2 2 0 3 677 1169::fo (cS 23 24) "truncate" "StringIO.truncate" 3 (.ref 676) .none .none c7 none 682 .none::oT [.int (-1) 1173] 0::t0::n0::nS 1177 ["self","size","start","stop"]::t0::fb (cS 23 25) "read" "StringIO.read"::co "read" "StringIO.read" 1174 517 2 2 0 3 685 1181::HZ P::oT [.int (-1) 1185] 0::t0::n0::nS 1189 ["self","size"]::t0::fb (cS 23 26) "readline" "StringIO.readline"::co "readline" "StringIO.readline" 1186 531 2 2 0 3 693 1191::fo (cS 23 26) "readline" "StringIO.readline" 3 (.ref 692) .none .none c7 none 698 .none::oT [.int (-1) 1195] 0::t0::n0::nS 1199 ["self","hint"]::t0::fb (cS 23 27) "readlines" "StringIO.readlines"::co "readlines" "StringIO.readlines" 1196 538 2 2 0 3 701 1201::fo (cS 23 27) "readlines" "StringIO.readlines" 3 (.ref 700) .none .none c7 none 706 .none::t0::n0::nS 1207 ["self"]::t0::fb (cS 23 28) "__iter__" "StringIO.__iter__"::co "__iter__" "StringIO.__iter__" 1204 541 1 0 0 3 708 1208::fn (cS 23 28) "__iter__" "StringIO.__iter__" 3 c7 713::t0::n0::nS 1214 ["self","line"]::t0::fb (cS 23 29) "__next__" "StringIO.__next__"::co "__next__" "StringIO.__next__" 1211 545 1 0 0 3 715 1216::fn (cS 23 29) "__next__" "StringIO.__next__" 3 c7 720::t0::n0::nS 1222 ["self","s","n","m","start","buf"]::t0::fb (cS 23 30) "write" "StringIO.write"::co "write" "StringIO.write" 1219 552 2 2 0 3 722 1228::fn (cS 23 30) "write" "StringIO.write" 3 c7 727::t0::n0::nS 1234 ["self","lines"]::t0::fb (cS 23 31) "writelines" "StringIO.writelines"::co "writelines" "StringIO.writelines" 1231 571 2 2 0 3 729 1236::fn (cS 23 31) "writelines" "StringIO.writelines" 3 c7 734::t0::n0::nS 1242 ["self"]::t0::fb (cS 23 32) "__repr__" "StringIO.__repr__"::co "__repr__" "StringIO.__repr__" 1239 574 1 0 0 3 736 1243::fn (cS 23 32) "__repr__" "StringIO.__repr__" 3 c7 741::nS 1246 ["__buf","__newline","__pos"]::dL (e P "__module__" 973 (.str "_io" 978)::e P "__firstlineno__" 977 (.int 371 976)::er P "__init__" 990 515::er P "_StringIO__translated" 999 522::er P "_StringIO__check" 1006 529::er P "_StringIO__check_dot" 1013 536::er P "_StringIO__line" 1028 543::er P "closed" 1036 551::er P "line_buffering" 1044 559::er P "newlines" 1052 567::er P "encoding" 1060 575::er P "errors" 1068 583::er P "close" 1075 590::er P "__enter__" 1082 597::er P "__exit__" 1090 604::er P "readable" 1097 611::er P "writable" 1104 618::er P "seekable" 1111 625::er P "isatty" 1118 632::er P "flush" 1125 639::er P "fileno" 1132 646::er P "detach" 1139 653::er P "getvalue" 1146 660::er P "tell" 1153 667::er P "seek" 1163 675::er P "truncate" 1171 683::er P "read" 1183 691::er P "readline" 1193 699::er P "readlines" 1203 707::er P "__iter__" 1210 714::er P "__next__" 1218 721::er P "write" 1230 728::er P "writelines" 1238 735::er P "__repr__" 1245 742::er P "__static_attributes__" 1249 743::e P "__doc__" 1250 .none::[]) 2::H2 P::su 745::ty "builtin_function_or_method" (.fields #[.builtin "object.__init_subclass__",.ref 745])::[])
def Oe(w:World)(os:abW):aer:=⟨treeOf 12 (Od w.params),748,{},#[],{},1253,os⟩
@[irreducible]noncomputable def Of (P:aao):List Obj:=((Od P).set 3 (dL (mE P vK (GK P)) 38)).set 35 (nF (w3 3 0 43<|w3 7 0 50<|w3 20 0 57<|w3 38 0 64<|w3 49 0 71<|w3 59 0 78<|w3 66 0 102<|w3 68 0 115<|w3 176 0 203<|w3 181 0 210<|w3 188 0 217<|w3 190 0 230<|w3 197 0 252<|w3 199 0 264<|w3 201 0 276<|w3 371 0 506<|w3 577 0 753<|w3 598 0 760<|w3 603 0 767<|w3 608 0 774<|w3 611 0 781<|w3 632 0 788<|w3 641 0 795<|[]))++(t0::n0::nS 1258 ["name","x","t"]::t0::fb (tS 25) "_kind" "_kind"::co "_kind" "_kind" 1255 577 2 0 0 3 748 1261::fn (tS 25) "_kind" "_kind" 3 Lh 753::t0::n0::nS 1267 ["name","x","k"]::t0::fb (tS 26) "_fspath" "_fspath"::co "_fspath" "_fspath" 1264 598 2 0 0 3 755 1270::fn (tS 26) "_fspath" "_fspath" 3 Lh 760::t0::n0::nS 1276 ["funcname","args","s","k"]::t0::fb (tS 27) "_check_arg_types" "_check_arg_types"::co "_check_arg_types" "_check_arg_types" 1273 603 1 0 0 7 762 1280::fn (tS 27) "_check_arg_types" "_check_arg_types" 3 Lh 767::t0::n0::nS 1286 ["s"]::t0::fb (tS 28) "isabs" "isabs"::co "isabs" "isabs" 1283 608 1 0 0 3 769 1287::fn (tS 28) "isabs" "isabs" 3 Lh 774::t0::n0::nS 1293 ["a","p","b","sep","path"]::t0::fb (tS 29) "join" "join"::co "join" "join" 1290 611 1 0 0 7 776 1298::fn (tS 29) "join" "join" 3 Lh 781::t0::n0::nS 1305 ["p","sep","i","head"]::t0::fb (tS 31) "dirname" "dirname"::co "dirname" "dirname" 1302 632 1 0 0 3 783 1309::fn (tS 31) "dirname" "dirname" 3 Lh 788::t0::tp::dL (e P "__module__" 1321 (.str "cpy313.shlex" 1312)::e P "__qualname__" 1323 (.str "shlex" 1322)::e P "__firstlineno__" 1325 (.int 641 1324)::er P "__init__" 1337 804::er P "punctuation_chars" 1345 812::er P "push_token" 1353 819::er P "push_source" 1362 827::er P "pop_source" 1369 834::er P "get_token" 1381 841::er P "read_token" 1392 848::er P "sourcehook" 1400 855::er P "error_leader" 1409 863::er P "__iter__" 1416 870::er P "__next__" 1424 877::er P "__static_attributes__" 1445 878::[]) 15::t0::nF (w3 643 4 803<|w3 685 4 810<|w3 688 4 818<|w3 691 4 826<|w3 704 4 833<|w3 711 4 840<|w3 738 4 847<|w3 875 4 854<|w3 882 4 862<|w3 885 4 869<|w3 888 4 876<|[])::cn "shlex" "shlex" 1316 641 793 318 1319::fr 795 792 vK::oT [.none,.none,.bool false,.bool false] 0::t0::n0::nS 1329 ["self","instream","infile","posix","punctuation_chars","t"]::t0::fb (cS 33 0) "__init__" "shlex.__init__"::co "__init__" "shlex.__init__" 1326 643 5 0 0 3 798 1335::H3 P::t0::n0::nS 1341 ["self"]::t0::fb (cS 33 1) "punctuation_chars" "shlex.punctuation_chars"::co "punctuation_chars" "shlex.punctuation_chars" 1338 684 1 0 0 3 805 1342::H4 P::ty "property" (.fields #[.ref 811,.none,.none,.none,.str "punctuation_chars" 1345,.bool false])::t0::n0::nS 1349 ["self","tok"]::t0::fb (cS 33 2) "push_token" "shlex.push_token"::co "push_token" "shlex.push_token" 1346 688 2 0 0 3 813 1351::fn (cS 33 2) "push_token" "shlex.push_token" 3 vK 818::oT [.none] 0::t0::n0::nS 1357 ["self","newstream","newfile"]::t0::fb (cS 33 3) "push_source" "shlex.push_source"::co "push_source" "shlex.push_source" 1354 691 3 0 0 3 821 1360::fo (cS 33 3) "push_source" "shlex.push_source" 3 (.ref 820) .none .none vK none 826 .none::t0::n0::nS 1366 ["self"]::t0::fb (cS 33 4) "pop_source" "shlex.pop_source"::co "pop_source" "shlex.pop_source" 1363 704 1 0 0 3 828 1367::fn (cS 33 4) "pop_source" "shlex.pop_source" 3 vK 833::t0::n0::nS 1373 ["self","tok","raw","spec","newfile","newstream"]::t0::fb (cS 33 5) "get_token" "shlex.get_token"::co "get_token" "shlex.get_token" 1370 711 1 0 0 3 835 1379::H6 P::t0::n0::nS 1385 ["self","quoted","escapedstate","nextchar","result"]::t0::fb (cS 33 6) "read_token" "shlex.read_token"::co "read_token" "shlex.read_token" 1382 738 1 0 0 3 842 1390::H7 P::t0::n0::nS 1396 ["self","newfile"]::t0::fb (cS 33 7) "sourcehook" "shlex.sourcehook"::co "sourcehook" "shlex.sourcehook" 1393 875 2 0 0 3 849 1398::fn (cS 33 7) "sourcehook" "shlex.sourcehook" 3 vK 854::oT [.none,.none] 0::t0::n0::nS 1404 ["self","infile","lineno"]::t0::fb (cS 33 8) "error_leader" "shlex.error_leader"::co "error_leader" "shlex.error_leader" 1401 882 3 0 0 3 857 1407::fo (cS 33 8) "error_leader" "shlex.error_leader" 3 (.ref 856) .none .none vK none 862 .none::t0::n0::nS 1413 ["self"]::t0::fb (cS 33 9) "__iter__" "shlex.__iter__"::co "__iter__" "shlex.__iter__" 1410 885 1 0 0 3 864 1414::H8 P::t0::n0::nS 1420 ["self","token"]::t0::fb (cS 33 10) "__next__" "shlex.__next__"::co "__next__" "shlex.__next__" 1417 888 1 0 0 3 871 1422::H9 P::oT (.str "_punctuation_chars" 1425::.str "_pushback_chars" 1426::.str "commenters" 1427::.str "debug" 1428::.str "eof" 1429::.str "escape" 1430::.str "escapedquotes" 1431::.str "filestack" 1432::.str "infile" 1433::.str "instream" 1434::.str "lineno" 1435::.str "posix" 1436::.str "pushback" 1437::.str "quotes" 1438::.str "source" 1439::.str "state" 1440::.str "token" 1441::.str "whitespace" 1442::.str "whitespace_split" 1443::.str "wordchars" 1444::[]) 0::dL (e P "__module__" 1321 (.str "cpy313.shlex" 1312)::e P "__firstlineno__" 1325 (.int 641 1324)::er P "__init__" 1337 804::er P "punctuation_chars" 1345 812::er P "push_token" 1353 819::er P "push_source" 1362 827::er P "pop_source" 1369 834::er P "get_token" 1381 841::er P "read_token" 1392 848::er P "sourcehook" 1400 855::er P "error_leader" 1409 863::er P "__iter__" 1416 870::er P "__next__" 1424 877::er P "__static_attributes__" 1445 878::er P "__dict__" 1447 881::er P "__weakref__" 1449 882::e P "__doc__" 1450 .none::[]) 4::cO "shlex" [.type "object"] [.ref 880,.type "object"] 879 true [] [] none 1314 1322 (.builtin "object.__new__") true::ty "getset_descriptor" (.fields #[.str "__dict__" 1446,.ref 880,.builtin "function.__dict__",.builtin "function.__dict__#set"])::ty "getset_descriptor" (.fields #[.str "__weakref__" 1448,.ref 880,.builtin "ExceptionGroup.__weakref__",.none])::su 880::ty "builtin_function_or_method" (.fields #[.builtin "object.__init_subclass__",.ref 880])::[])
def Og(w:World)(os:abW):aer:=⟨treeOf 12 (Of w.params),885,{},#[],{},1453,os⟩
@[irreducible]noncomputable def Oh (P:aao):List Obj:=((Of P).set 3 (dL (mE P Aw (N7 P)) 52)).set 35 (nF (w3 3 0 43<|w3 7 0 50<|w3 20 0 57<|w3 38 0 64<|w3 49 0 71<|w3 59 0 78<|w3 66 0 102<|w3 68 0 115<|w3 176 0 203<|w3 181 0 210<|w3 188 0 217<|w3 190 0 230<|w3 197 0 252<|w3 199 0 264<|w3 201 0 276<|w3 371 0 506<|w3 577 0 753<|w3 598 0 760<|w3 603 0 767<|w3 608 0 774<|w3 611 0 781<|w3 632 0 788<|w3 641 0 795<|w3 893 0 891<|w3 901 0 898<|w3 905 0 906<|w3 912 0 911<|w3 916 0 916<|w3 925 0 923<|w3 941 0 930<|w3 946 0 937<|w3 961 0 944<|w3 974 0 951<|w3 980 0 956<|w3 988 0 963<|w3 1011 0 968<|[]))++(oT [.bool false,.bool true] 0::t0::n0::nS 1456 ["s","comments","posix","lex"]::t0::fb (tS 34) "split" "split"::co "split" "split" 1453 893 3 0 0 3 886 1460::H_ P::t0::n0::nS 1466 ["split_command"]::t0::fb (tS 35) "join" "join"::Ia P::Ib P::ty "builtin_function_or_method" (.fields #[.builtin "re.Pattern.search",.ref 197])::t0::n0::nS 1476 ["s"]::t0::fb (tS 38) "quote" "quote"::co "quote" "quote" 1473 905 1 0 0 3 901 1477::Ic P::t0::n0::fb (tS 40) "_law_rows" "_law_rows"::cp "_law_rows" "_law_rows" 1482 912 1 3 908 1485::Id P::t0::n0::fb (tS 41) "_law_line" "_law_line"::cp "_law_line" "_law_line" 1488 916 1 3 913 1491::Ie P::t0::n0::nS 1497 ["line","units","place","marks","bare","unit"]::t0::fb (tS 42) "_law_closes" "_law_closes"::co "_law_closes" "_law_closes" 1494 925 1 0 0 3 918 1503::Ig P::t0::n0::nS 1509 ["rows","table","row"]::t0::fb (tS 43) "_law_table" "_law_table"::co "_law_table" "_law_table" 1506 941 1 0 0 3 925 1512::Ih P::t0::n0::nS 1518 ["sorter","count"]::t0::fb (tS 44) "_law_shut" "_law_shut"::co "_law_shut" "_law_shut" 1515 946 1 0 0 3 932 1520::Ii P::t0::n0::nS 1526 ["sorter"]::t0::fb (tS 45) "_law_fixed" "_law_fixed"::co "_law_fixed" "_law_fixed" 1523 961 1 0 0 3 939 1527::Ij P::t0::n0::nS 1533 ["sorter","names"]::t0::fb (tS 46) "_law_refused" "_law_refused"::co "_law_refused" "_law_refused" 1530 974 2 0 0 3 946 1535::Ik P::t0::n0::fb (tS 47) "_law_next" "_law_next"::cp "_law_next" "_law_next" 1538 980 4 3 953 1541::Il P::t0::n0::nS 1547 ["sorter","names","edges","given","done","waiting","fresh","name"]::t0::fb (tS 48) "_law_run" "_law_run"::co "_law_run" "_law_run" 1544 988 3 0 0 3 958 1555::Im P::t0::n0::fb (tS 49) "law" "law"::cp "law" "law" 1558 1011 1 3 965 1561::Io P::[])
def Oi(w:World)(os:abW):aer:=⟨treeOf 12 (Oh w.params),970,{},#[],{},1564,os⟩
@[irreducible]noncomputable def Li (P:aao):List Obj:=Oh P
def s_f(w:World)(os:abW):aer:=⟨treeOf 12 (Li w.params),970,{},#[],{},1564,os⟩
def Ax:List Stmt:=(abV prog).drop 0|>.take 12
theorem Oj(w:World)(os:abW):ag8 acm prog w 34 (some (.ref 6)) 1 1181 (WZ w os) (agS Ax tV eX ⟨0,0,0,0⟩ tB)=some (.next,N9 w os,eX,⟨68,0,173,16⟩):=by
 rw[eG,bU]
 exact yC (by kernel_rfl) (by kernel_rfl) (by kernel_rfl) (by kernel_rfl)
def Ay:List Stmt:=(abV prog).drop 12|>.take 8
theorem Ol(w:World)(os:abW):ag8 acm prog w 34 (some (.ref 6)) 1 1046 (N9 w os) (agS Ay tV eX ⟨68,0,173,16⟩ tB)=some (.next,Oa w os,eX,⟨199,0,200,21⟩):=by
 rw[eG,bU]
 exact yC (by kernel_rfl) (by kernel_rfl) (by kernel_rfl) (by kernel_rfl)
def Az:List Stmt:=(abV prog).drop 20|>.take 1
theorem Om(w:World)(os:abW):ag8 acm prog w 34 (some (.ref 6)) 1 1278 (Oa w os) (agS Az tV eX ⟨199,0,200,21⟩ tB)=some (.next,Oc w os,eX,⟨201,0,370,17⟩):=by
 rw[eG,bU]
 exact yC (by kernel_rfl) (by kernel_rfl) (by kernel_rfl) (by kernel_rfl)
def AA:List Stmt:=(abV prog).drop 21|>.take 1
theorem On(w:World)(os:abW):ag8 acm prog w 34 (some (.ref 6)) 1 1578 (Oc w os) (agS AA tV eX ⟨201,0,370,17⟩ tB)=some (.next,Oe w os,eX,⟨371,0,575,17⟩):=by
 rw[eG,bU]
 exact yC (by kernel_rfl) (by kernel_rfl) (by kernel_rfl) (by kernel_rfl)
def AB:List Stmt:=(abV prog).drop 22|>.take 10
theorem Oo(w:World)(os:abW):ag8 acm prog w 34 (some (.ref 6)) 1 849 (Oe w os) (agS AB tV eX ⟨371,0,575,17⟩ tB)=some (.next,Og w os,eX,⟨641,0,892,20⟩):=by
 rw[eG,bU]
 exact yC (by kernel_rfl) (by kernel_rfl) (by kernel_rfl) (by kernel_rfl)
def AC:List Stmt:=(abV prog).drop 32|>.take 16
theorem Op(w:World)(os:abW):ag8 acm prog w 34 (some (.ref 6)) 1 432 (Og w os) (agS AC tV eX ⟨641,0,892,20⟩ tB)=some (.next,Oi w os,eX,⟨1011,0,1044,87⟩):=by
 rw[eG,bU]
 exact yC (by kernel_rfl) (by kernel_rfl) (by kernel_rfl) (by kernel_rfl)
end Top
end
section
namespace Top
def He(P:aao):Heap:=absHeap (treeOf 12 (SY P)) 34 {}
def H0(P:aao):Heap:=absHeap (treeOf 12 (SZ P)) 34 {}
def H1(P:aao):Heap:=⟨(Li P).toArray,{}⟩
theorem yD: @impGoT=PySem.W.Fast.tw14789777615569096658:=PySem.W.Fast.te14789777615569096658
theorem AD: @fenceModules? =PySem.W.Fast.tw14289696077712309145:=PySem.W.Fast.te14289696077712309145
def sI(os:abW):aer:=⟨.nil,0,{},#[],{},1,os⟩
def Oq:abW:=(start (aeP prog)).1.os
theorem AE:(start (aeP prog)).1=(sI Oq).abs:=by kernel_rfl
theorem DK(w:World):((impGoT acm (aeP prog) w 1085 (sI Oq) (start (aeP prog)).2).map λy=>(y.1,y.2.atExitBegin))=some (WV w Oq,some []):=by
 rw[yD,bU]
 kernel_rfl
theorem opens(w:World):aiC acm (aeP prog) w (1085+1) (start (aeP prog)).1 (start (aeP prog)).2=some ⟨He w.params,#[],{},318,(start (aeP prog)).1.os⟩:=by
 have h:=DK w
 cases e:impGoT acm (aeP prog) w 1085 (sI Oq) (start (aeP prog)).2 with
 |none=>rw[e]at h;cases h
 |some y=>
  obtain⟨s,t⟩:=y
  rw[e]at h
  have h1:s=WV w Oq:=congrArg aes (aaJ h)
  have h2:t.atExitBegin=some []:=congrArg afg (aaJ h)
  subst h1
  have z:=impGo_of e
  rw[←AE]at z
  refine imp_go z ?_
  show aiC acm (aeP prog) w 1 _ _=_
  unfold aiC
  rw[h2];rfl
theorem AF(w:World):(λos=>(fenceModules? prog ⟨He w.params,#[],{},318,os⟩).map (λs=>(s.heap,s.gens,s.drawn,s.toks)))=λzz=>some (H0 w.params,#[],{},318):=by
 rw[AD]
 kernel_rfl
theorem Os(N:Nat)(hN:Nat.ble 1086 N=true):∀w:World,(fencedOpening acm prog w N).map (λs=>(s.heap,s.gens,s.drawn,s.toks))=some (H0 w.params,#[],{},318):=
 open_cut (M:=1085+1) (λw=>opens w) hN AF
theorem AG: @topGo=PySem.W.Fast.tw15667345088766844465:=PySem.W.Fast.te15667345088766844465
theorem yE: @segRun=PySem.W.Fast.tw14374325043358763698:=PySem.W.Fast.te14374325043358763698
theorem yF: @topRun=PySem.W.Fast.tw14082659384304107361:=PySem.W.Fast.te14082659384304107361
theorem yG: @denote=PySem.W.Fast.tw11892475500146522536:=PySem.W.Fast.te11892475500146522536
theorem Ip(w:World)(os:abW):topGo acm prog w 34 (some (.ref 6)) 12 ⟨H0 w.params,#[],{},318,os⟩ (topStub prog)=some ((WX w os).abs,⟨denote acm eX,eX,⟨0,0,0,0⟩,tB⟩):=by
 rw[AG,yG,bU]
 kernel_rfl
theorem AH(w:World)(os:abW):segRun acm prog w 34 (some (.ref 6)) 1 1 (WX w os).abs (blockOf (abV prog) tV eX ⟨0,0,0,0⟩ tB)=some (.next,(WZ w os).abs,eX,⟨0,0,0,0⟩):=by
 rw[yE]
 kernel_rfl
theorem Iq(w:World)(os:abW):topRun acm prog w 34 (some (.ref 6)) 2 (Oi w os).abs ⟨doneF .next,eX,⟨1011,0,1044,87⟩,tB⟩=some ⟨H1 w.params,#[],{},1564,os⟩:=by
 rw[yF]
 kernel_rfl
theorem DL:abV prog=Ax++(Ay++(Az++(AA++(AB++(AC++[]))))):=by kernel_rfl
theorem Ir(w:World)(os:abW):∃M,Nat.ble M 20000=true∧topRun acm prog w 34 (some (.ref 6)) M ⟨H0 w.params,#[],{},318,os⟩ (topStub prog)=some ⟨H1 w.params,#[],{},1564,os⟩:=by
 have k48:=af1 (rest:=[]) (af2 (Op w os)) (piece_nil (Iq w os))
 have k32:=af1 (af2 (Oo w os)) k48
 have k22:=af1 (af2 (On w os)) k32
 have k21:=af1 (af2 (Om w os)) k22
 have k20:=af1 (af2 (Ol w os)) k21
 have k12:=af1 (af2 (Oj w os)) k20
 rw[←DL]at k12
 have kb:=piece_block (AH w os) k12
 exact⟨_,by decide,go_top (Ip w os) kb⟩
def qv:aiA:={prog with main:={prog.main with body:=[tS 49]}}
def lT:List Str:=(["_sre","deque","_wall","_iter_escaped_chars","_strip_quoted_realnames","_check_parenthesis","_pre_parse_validation","_NODE_OUT","_NODE_DONE","_NodeInfo","CycleError","TopologicalSorter","_twin_re_1","_whence","_index","UnsupportedOperation","IOBase","BufferedIOBase","TextIOBase","BytesIO","StringIO","_kind","_fspath","_check_arg_types","isabs","join","join_path","dirname","shlex","split","join_shlex","_find_unsafe","quote","_law_rows","_law_line","_law_closes","_law_table","_law_shut","_law_fixed","_law_refused","_law_next","_law_run"]:List String).map abA
def KF(P:aao):Frag:=(abu 970).zip (Li P)
theorem rx(P:aao):abu 970=(KF P).map (λx=>x.1):=by kernel_rfl
theorem DM(w:World):((H0 w.params).isNs ab9&&(#[]:Array ach).size==0,(H0 w.params).objs.size,(H0 w.params).nsMap ab9 "__annotations__")=(true,34,some (.ref 6)):=by kernel_rfl
theorem Ot(w:World)(os:abW):(staticsOk (agC prog.main.body) (H0 w.params) (H1 w.params)&&namesBound prog (H1 w.params)&&gensDone ⟨H1 w.params,#[],{},1564,os⟩&&laidKept (H0 w.params) (H1 w.params))=true:=by kernel_rfl
theorem tW: @openSeen=PySem.W.Fast.tw4187177175401517315:=PySem.W.Fast.te4187177175401517315
theorem Ou(w:World)(os:abW):openSeen qv lT (agC prog.main.body) (λzz=>true) true ⟨H1 w.params,#[],{},1564,os⟩=openGood qv lT:=by
 rw[tW]
 kernel_rfl
def ou(o:Obj):Bool:=match o.data with
 | .freed=>false
 |_=>true
theorem Iu{o:Obj}(h:ou o=true):(match some o with|some ⟨_,_,.freed,_⟩=>none|o=>o)=some o:=by
 obtain⟨a,b,d,c⟩:=o
 cases d<;>first|rfl|cases h
theorem tX:∀(l pre:List Obj),l.all ou=true→
  (List.range' pre.length l.length).map (⟨(pre++l).toArray,{}⟩:Heap).get? =((List.range' pre.length l.length).zip l).map λp=>some p.2
 |[],pre,_=>rfl
 |o::l,pre,h=>by
  simp only[adB,aaM]at h
  have ih:=tX l (pre++[o]) h.2
  rw[aaw,List.singleton_append,aar,abE]at ih
  rw[aaF,List.range'_succ,aan,afh,aan,ih]
  congr 1
  unfold Heap.get?
  rw[show((pre++o::l).toArray)[pre.length]? =some o by simp]
  exact Iu h.1
theorem Iv(P:aao):(Li P).length=970:=by kernel_rfl
theorem Iw(P:aao):(Li P).all ou=true:=by kernel_rfl
theorem Ov(w:World)(os:abW):(kHook KF (abu 970) rx).obs ⟨H1 w.params,#[],{},1564,os⟩=(kHook KF (abu 970) rx).val w:=by
 have h:=tX (Li w.params) [] (Iw _)
 rw[Iv,ady,←List.range_eq_range']at h
 exact h
abbrev Lj:Hook:=kHook KF (abu 970) rx
theorem DN:LeftO prog qv lT (λzz=>true) Lj.obs Lj.val 30000:=by
 refine λw=>?_
 refine LeftO.of_pieces (H₀:=H0) (H₁:=H1) (gs₀:= #[]) (gs₁:= #[]) (d₀:={}) (d₁:={}) (k₀:=318) (k₁:=1564) (m₀:=34) (ann:=some (.ref 6)) (M:=20000) (Os 30000 (by decide)) DM (λw os=>?_) (by decide) (λw=>?_) w
 ·obtain⟨M,hM,h⟩:=Ir w os
  have r:=topRun_mono (20000-M) _ _ _ _ h
  rw[show M+(20000-M)=20000 by have:=aae hM;exact aa7 this]at r
  exact r
 ·funext os
  exact ai4 (Ot w os) (ai4 (Ou w os) (Ov w os))
end Top
end
section
namespace Top
abbrev bp:OpenLaw:=ae2
theorem qB: @noRoadLSs=PySem.W.Fast.tw8326940854005059898:=PySem.W.Fast.te8326940854005059898
theorem nR: @ag9=PySem.W.Fast.tw17119622794617984870:=PySem.W.Fast.te17119622794617984870
theorem AI: @Program.boundNames=PySem.W.Fast.tw18344453789297297638:=PySem.W.Fast.te18344453789297297638
theorem tY: @OpenLaw.reads=PySem.W.Fast.tw6984425678791042302:=PySem.W.Fast.te6984425678791042302
theorem AJ: @OpenLaw.own=PySem.W.Fast.tw10792542408131684335:=PySem.W.Fast.te10792542408131684335
theorem qC: @OpenLaw.bound'=PySem.W.Fast.tw797321630700447069:=PySem.W.Fast.te797321630700447069
theorem s2:decide (bp.foot≤(abV bp.prog).length)=true:=by kernel_rfl
theorem s3:bp.footing.all footLine=true:=by kernel_rfl
theorem s4:noClassBlock bp.prog bp.footing=true:=by kernel_rfl
theorem s5:defStands bp.about bp.above=true:=by kernel_rfl
theorem s8:(bp.own.contains bp.name&&bp.own.eraseDups.length==bp.own.length&&bp.own.all (λn=> !builtinNamed n))=true:=by rw[AJ];kernel_rfl
theorem s6:bp.namesIt=true:=by kernel_rfl
theorem s7:ag9 bp.prog bp.footing (λsc n=>sc.kind== .module||sc.names.lookup n !=some .globalExplicit)=true:=by rw[nR];kernel_rfl
theorem s9:noRoadLSs {strict:=true,foot:=some bp.bound',writes:=bp.writes,may:=bp.may} bp.footing=true:=by rw[qB,qC];kernel_rfl
theorem Yj:ag9 bp.prog bp.above (λzz n=> !bp.own.contains n)=true:=by rw[nR,AJ];kernel_rfl
theorem Yk:bp.bound'.all (λn=> !builtinNamed n||bp.about==[n]|| !bp.reads n)=true:=by rw[qC,tY];kernel_rfl
theorem Yl:ag9 bp.prog bp.footing (λsc n=>(!(["type","isinstance","issubclass","getattr","hasattr"]:List Str).contains n||sc.names.lookup n==some .globalImplicit)&&
  (bp.may !=some n||sc.kind== .module||sc.names.lookup n==some .globalImplicit))=true:=by rw[nR];kernel_rfl
theorem a1:sreFenced prog.main=true:=by kernel_rfl
theorem a2:((moduleNames prog.main.body).isEmpty||lookedIntoSs (moduleNames prog.main.body) prog.main.body)=true:=by kernel_rfl
theorem a4:prog.boundNames.all (λn=> !worldNames.contains n)=true:=by kernel_rfl
theorem a5:noRoadLSs {strict:= !(agC prog.main.body).all cThrough.contains,foot:=none,bare:=(["vars","dir","locals"]:List Str).filter (readsOut prog prog.main.body)} prog.main.body=true:=by rw[qB];kernel_rfl
theorem a6:ag9 prog prog.main.body (λzz n=>attrL n)=true:=by rw[nR];kernel_rfl
theorem a3:namesResolve prog=true:=by kernel_rfl
theorem b1:(bp.prog.boundNames.contains bp.name&& !startupNames.contains bp.name)=true:=by rw[AI];kernel_rfl
theorem AK:looksOpen prog=true:=by
 unfold looksOpen
 rw[a1,a2,a3,a4,a5,a6];rfl
theorem DO:bp.row.partSaid=true:=by
 unfold OpenRow.partSaid
 rw[show bp.row.prog=prog from rfl,AK]
 kernel_rfl
theorem Ix:bp.row.wellSaid=true:=by
 unfold OpenRow.wellSaid
 rw[DO]
 exact b1
theorem m1:bp.most.all (λn=>decide (63≤n))=true:=rfl
theorem m2:bp.bound.all (λn=>decide (2^63≤n))=true:=rfl
theorem m3:(["type","isinstance","issubclass","getattr","hasattr"]:List Str).all (λn=>bp.about !=[n])=true:=by kernel_rfl
theorem m4:(!bp.writes||(bp.prog.main.body.flatMap importedNames).all λn=> !bp.reads n)=true:=rfl
theorem m5:(bp.prog.main.body.flatMap importedNames).all (λn=> !bp.reads n||(drawsOf n bp.prog.main.body).all λmn=>mn.2 !=("attrgetter":Str)&&mn.2 !=("methodcaller":Str))=true:=by rw[tY];kernel_rfl
theorem S0:bp.wellSaid=true:=by
 unfold OpenLaw.wellSaid
 have h8:=s8
 simp only[aaM]at h8
 rw[Ix,s2,s3,s4,m1,m2,s9,s5,s6,m3,Yk,m4,m5,Yl,h8.1.1,h8.1.2,h8.2,Yj,s7];rfl
def Ow:DefRec×List (Str×Expr):=(⟨default,⟨[],[],none,[],[],none,[]⟩,[],default,default⟩,[])
def iw:DefRec×List (Str×Expr):=(defOf qv bp.row.name).getD Ow
theorem tZ{α:Type}{x:Option α}(d:α)(h:x.isSome=true):x=some (x.getD d):=by cases x<;>first|rfl|cases h
theorem Iy:defOf qv bp.row.name=some (iw.1,iw.2):=tZ Ow (by kernel_rfl)
theorem yH:bp.row.prog.bare:=⟨rfl,rfl,rfl,rfl,rfl,by kernel_rfl⟩
theorem Ox:(chainsOk qv&&opensWell bp.row.prog&&(frees bp.row.toRowW&&bp.row.within.isEmpty))=true:=by kernel_rfl
theorem t5:bp.row.toRowW.promised:=⟨[.list []],by decide+kernel,by decide+kernel⟩
theorem holds_of(call:WalkO qv lT (λzz zz=>True) Lj.says bp.row.toRowW iw.1 iw.2 λf vs=>PySem.call f vs):bp.Holds:=by
 refine holds_law S0 λhs=>?_
 exact holds_open (r:=bp.row) (q:=qv) (loose:=lT) (Xt:=λzz=>true) (XP:=λzz zz=>True) DN Lj.of Lj.keeps (λzz zz=>trivial) (λzz zz zz h zz=>h) Iy (by kernel_rfl) (by kernel_rfl) (λs zz=>recFacts_nil rfl) rfl hs Ox yH t5 call
end Top
end
section
@[elab_as_elim]theorem Lk {α:Sort u} {a b:α} {motive:α→Prop} (h:a=b) (x:motive b):motive a:=h▸x
@[elab_as_elim]theorem Ll {α:Sort u} {a b:α} {motive:α→Prop} (h:a=b) (x:motive a):motive b:=h▸x
theorem eqQ{α:Sort u}{β:Sort v}{Q:α→β→Prop}{a b:α}{S:β}(h:a=b)(k:Q b S):Q a S:=h▸k
theorem ba{A0:Sort u0}{A1:Sort u1}{P:A0→A1→Prop}(a0:A0)(a1:A1)(h:P a0 a1):∃a0 a1,P a0 a1:=⟨a0,a1,h⟩
theorem eY{A0:Sort u0}{A1:Sort u1}{A2:Sort u2}{P:A0→A1→A2→Prop}(a0:A0)(a1:A1)(a2:A2)(h:P a0 a1 a2):∃a0 a1 a2,P a0 a1 a2:=⟨a0,a1,a2,h⟩
theorem p4{A0:Sort u0}{A1:Sort u1}{A2:Sort u2}{A3:Sort u3}{P:A0→A1→A2→A3→Prop}(a0:A0)(a1:A1)(a2:A2)(a3:A3)(h:P a0 a1 a2 a3):∃a0 a1 a2 a3,P a0 a1 a2 a3:=⟨a0,a1,a2,a3,h⟩
theorem Iz{A0:Sort u0}{A1:Sort u1}{A2:Sort u2}{A3:Sort u3}{A4:Sort u4}{P:A0→A1→A2→A3→A4→Prop}(a0:A0)(a1:A1)(a2:A2)(a3:A3)(a4:A4)(h:P a0 a1 a2 a3 a4):∃a0 a1 a2 a3 a4,P a0 a1 a2 a3 a4:=⟨a0,a1,a2,a3,a4,h⟩
theorem yI{A0:Sort u0}{A1:Sort u1}{A2:Sort u2}{A3:Sort u3}{A4:Sort u4}{A5:Sort u5}{P:A0→A1→A2→A3→A4→A5→Prop}(a0:A0)(a1:A1)(a2:A2)(a3:A3)(a4:A4)(a5:A5)(h:P a0 a1 a2 a3 a4 a5):∃a0 a1 a2 a3 a4 a5,P a0 a1 a2 a3 a4 a5:=⟨a0,a1,a2,a3,a4,a5,h⟩
theorem W0{A0:Sort u0}{A1:Sort u1}{A2:Sort u2}{A3:Sort u3}{A4:Sort u4}{A5:Sort u5}{A6:Sort u6}{P:A0→A1→A2→A3→A4→A5→A6→Prop}(a0:A0)(a1:A1)(a2:A2)(a3:A3)(a4:A4)(a5:A5)(a6:A6)(h:P a0 a1 a2 a3 a4 a5 a6):∃a0 a1 a2 a3 a4 a5 a6,P a0 a1 a2 a3 a4 a5 a6:=⟨a0,a1,a2,a3,a4,a5,a6,h⟩
theorem Ym{A0:Sort u0}{A1:Sort u1}{A2:Sort u2}{A3:Sort u3}{A4:Sort u4}{A5:Sort u5}{A6:Sort u6}{A7:Sort u7}{P:A0→A1→A2→A3→A4→A5→A6→A7→Prop}(a0:A0)(a1:A1)(a2:A2)(a3:A3)(a4:A4)(a5:A5)(a6:A6)(a7:A7)(h:P a0 a1 a2 a3 a4 a5 a6 a7):∃a0 a1 a2 a3 a4 a5 a6 a7,P a0 a1 a2 a3 a4 a5 a6 a7:=⟨a0,a1,a2,a3,a4,a5,a6,a7,h⟩
theorem IA{A0:Sort u0}{A1:Sort u1}{A2:Sort u2}{A3:Sort u3}{A4:Sort u4}{A5:Sort u5}{A6:Sort u6}{A7:Sort u7}{A8:Sort u8}{P:A0→A1→A2→A3→A4→A5→A6→A7→A8→Prop}(a0:A0)(a1:A1)(a2:A2)(a3:A3)(a4:A4)(a5:A5)(a6:A6)(a7:A7)(a8:A8)(h:P a0 a1 a2 a3 a4 a5 a6 a7 a8):∃a0 a1 a2 a3 a4 a5 a6 a7 a8,P a0 a1 a2 a3 a4 a5 a6 a7 a8:=⟨a0,a1,a2,a3,a4,a5,a6,a7,a8,h⟩
theorem S_{A0:Sort u0}{A1:Sort u1}{A2:Sort u2}{A3:Sort u3}{A4:Sort u4}{A5:Sort u5}{A6:Sort u6}{A7:Sort u7}{A8:Sort u8}{A9:Sort u9}{P:A0→A1→A2→A3→A4→A5→A6→A7→A8→A9→Prop}(a0:A0)(a1:A1)(a2:A2)(a3:A3)(a4:A4)(a5:A5)(a6:A6)(a7:A7)(a8:A8)(a9:A9)(h:P a0 a1 a2 a3 a4 a5 a6 a7 a8 a9):∃a0 a1 a2 a3 a4 a5 a6 a7 a8 a9,P a0 a1 a2 a3 a4 a5 a6 a7 a8 a9:=⟨a0,a1,a2,a3,a4,a5,a6,a7,a8,a9,h⟩
nonrec abbrev xY:=adL
nonrec abbrev xO:=Lean.MacroM adL
nonrec def xG (n:Nat) (k:String) (l:List xY):List xY:=.node .none k.toName (l.take n).reverse.toArray::l.drop n
nonrec def xV:List String:=["}1null 1Lean.Parser.Tactic.tacticSeq1Indented 1Lean.Parser.Tactic.tacticSeq","@} ''by ]xx 2Lean.Parser.Term.byTactic","$'' 1Lean.Parser.Tactic.tacticRfl","%'' 1tacticKernel_rfl","?''? ''_ 2Lean.Parser.Term.syntheticHole","!'' 1Lean.Parser.Tactic.assumption @","&$ } :withUnfoldingAll @",">'' 0null 2Lean.Parser.Tactic.intros","/? . ''refine ]xx 2Lean.Parser.Tactic.refine","+''k_extra ]xx 2PySem.W.tacticK_extra_","-+ @","~\"m.at\" -",";''; ]xx 3null 1Lean.Parser.Tactic.tacticSeq1Indented 1Lean.Parser.Tactic.tacticSeq ''( ]xx '') 3Lean.Parser.Tactic.paren","<'' ]xx 3Lean.Parser.Tactic.«tactic_<;>_»","{'', ]xx 3null ''⟨ ]xx ''⟩ 3Lean.Parser.Term.anonymousCtor",",1null 0null ''=> ]xxxx 4Lean.Parser.Term.basicFun ''fun ]xx 2Lean.Parser.Term.fun","^'' 0null 1Lean.Parser.Tactic.optConfig 2Lean.Parser.Tactic.decide","='' 0null 1Lean.Parser.Tactic.optConfig 2Lean.Parser.Tactic.lia",")'' 0null 2Lean.Parser.Tactic.fail","\\''first ]xx 2Lean.Parser.Tactic.first"]
nonrec def xA (t f:xY) (r:List xY):List xY:=
 if f.isOfKind `Lean.Parser.Term.app then f.setArg 1 ((f.getArg 1).setArgs ((f.getArg 1).getArgs.push t))::r
 else xG 2 "Lean.Parser.Term.app" (xG 1 "null" (t::f::r))
nonrec def xQ (t:xY):xY:=.node .none `Lean.Parser.Tactic.tacticSeq #[.node .none `Lean.Parser.Tactic.tacticSeq1Indented #[.node .none `null #[t]]]
nonrec def xP (e:List xY) (f:String→List xY→List xY) (c:Char) (w:String) (l:List xY):List xY:=
 if c== '.' then xA (l.getD 0 .missing) (l.getD 1 .missing) (l.drop 2)else
 if c== '_' then .node .none `Lean.Parser.Term.hole #[.atom .none "_"]::l else
 if c== '|' then .node .none `group #[.atom .none "|",xQ (l.getD 0 .missing)]::l.drop 1 else
 if c.isAlpha then .ident .none w.toRawSubstring w.toName []::l else
 if w.length==1 then f (((xV.find? λd=>d.front==c).getD "").drop 1).copy l else
 let k:=(w.drop 1).copy
 if c.isDigit then xG (c.toNat-48) k l else
 if c== ':' then xG 2 ("Lean.Parser.Tactic."++k) (l.getD 0 .missing:: .atom .none ""::l.drop 1)else
 if c== ']' then l.getD (k.length-1) .missing::l.eraseIdx (k.length-1)else
 if c== '\'' then .atom .none (k.drop 1).copy::l else
 if c.toNat==34 then xG 1 "str" (.atom .none w::l)else
 if c== '#' then e.getD (k.length-1) .missing::l else
 xG (k.front.toNat-48) "null" l
nonrec def xX (e:List xY) (n:Nat) (s:String) (l:List xY):List xY:=n.rec (λ_ l=>l) (λ_ f s l=>(s.splitOn " ").foldl (λl w=>xP e f w.front w l) l) s l
nonrec def xD:List String:=["aR > $ } :withUnfoldingAll ;",
 "aK > % ;",
 "aA ! :exact",
 "aT Nat.le_refl _ . :exact | Nat.le_add_right _ . _ . :exact | = | *3 \\",
 "aM Nat.add_le_add_left Nat.le_of_ble_eq_true rfl . . _ . :exact | Nat.le_add_left _ . _ . :exact | = | *3 \\",
 "m.at YP :exact | YQ :exact | at2 :exact | YR :exact | Uw :exact | Ux :exact | Uy :exact | Uz :exact | O7 :exact | UA :exact | Eg :exact | UB :exact | UC :exact | UD :exact | UE :exact | UF :exact | uK.nil :exact | fB :apply \"m.at\" + ; | PA :apply \"m.at\" + ; | qV :apply \"m.at\" + ; | PB :apply \"m.at\" + ; | uK.cons :apply \"m.at\" + ; | J1 ~ . :exact | J2 ~ . :exact | Qh ~ . :exact | *I \\ } :withReducible",
 "m.pick jq.head :exact | jq.tail :apply \"m.pick\" + ; | *2 \\ } :withReducible",
 "m.picks aq.nil :exact } :withReducible | aq.cons :apply } :withReducible \"m.pick\" + | \"m.picks\" + | *2 \\ < | *2 \\",
 "m.mem At.mem ~ . :exact",
 "m.sets ia.nil :exact } :withReducible | ia.cons :apply } :withReducible \"m.at\" + | \"m.sets\" + | *2 \\ < | *2 \\",
 "m.keep trivial :exact } :withUnfoldingAll | fO ! . kp _ . ^ @ . . :exact | *2 \\",
 "m.name dM ~ . / | mr ! . ~ . / | Je ! . ~ . / | Jf ! . ~ . / | Jg ! . ~ . / | *5 \\ } :withReducible",
 "m.ee \"m.name\" + | rI / | oG / | D4 / | ix / | Ph / | BC / | mu / \"m.name\" + ; mx \"m.keep\" - . / ; | BK / | PH / | BL / | EL / | Jv / | EM / | EN / | PI / | PJ / | Eo / | kP / | Jk / | wb / | uH / | Wa ! . ! . ~ . / | Hb / | Ha / | Jn / | *J \\ } :withReducible",
 "m.in BJ ~ . ~ . Vt ! . ~ . . ~ . & . / | PC ~ . ~ . ~ . ~ . Vu ! . ~ . . Nat.le_of_ble_eq_true & . . / | Jr ~ . ~ . Zp ! . ~ . . ~ . / | Js ~ . ~ . Vt ! . ~ . . ~ . & . / | Jt ~ . ~ . ~ . Vu ! . ~ . . Nat.le_of_ble_eq_true & . . / | Ju ~ . ~ . ~ . % @ . ~ . Vu ! . ~ . . Nat.le_of_ble_eq_true & . . / | *6 \\ } :withReducible",
 "m.nw qW / | ah qW ? . . :refine | *2 \\ } :withReducible \"m.ee\" + ; \"m.in\" + ;",
 "m.ite bA $ } :withUnfoldingAll | ^ | *2 \\ @ . / | aY Bool.false_ne_true :exact } :withUnfoldingAll | ^ | *2 \\ @ . / | *2 \\ } :withReducible",
 "m.s1 EE _ . _ . _ . _ . _ . _ . :show } :withReducible \"m.ee\" + ; | EB _ . _ . _ . _ . _ . _ . :show ah / | xM / | *2 \\ ; } :withReducible | ES _ . _ . _ . _ . _ . _ . :show Pg / | Jj / | xN / | D0 / | A_ / | uh / | EH / | UM ~ . / | UR / | Pw / | *: \\ ; } :withReducible | ET _ . _ . _ . _ . _ . _ . :show Pj / | Pi / | D8 / | ph / | *4 \\ ; } :withReducible | EA _ . _ . _ . _ . _ . _ . :show oQ / | wC / | *2 \\ ; } :withReducible | PK / | PM / | bj / | Er / | qL / | yY / | yU / | yV / | qK / | yW / | yX / | wc / | we / | wD / | pi / | nE / | OM & . / | Bh & . / | D9 / | D_ & . / | wh & . / | y9 / | rU / | *G \\ } :withReducible | ite _ . _ . _ . :show } :withReducible \"m.ite\" + ; | \"m.keep\" - ? { :refine } :withReducible | ty_str :exact | ty_list ~ . :exact | ty_map ~ . :exact | sh ~ . :exact | ty_set ~ . :exact | *5 \\ @ ? { :refine } :withReducible | PF ~ . / } :withReducible | \"m.in\" + | iB / | jA / | Pk / | UN / | nA / | oN / | wa / | yT / | oO / | EI / | EJ / | Jl / | Jm / | *= \\ } :withReducible | *< \\",
 "m.go \"m.s1\" + } :tacticRepeat_",
 "g.s1 EE _ . _ . _ . PySem.Expr.Attribute _ . \"__next__\" . _ . . _ . _ . :show } :withReducible Ve / ; | EE _ . _ . _ . PySem.Expr.Attribute _ . \"successors\" . _ . . _ . _ . :show } :withReducible Jz / ; | EE _ . _ . _ . PySem.Expr.Attribute _ . \"npredecessors\" . _ . . _ . _ . :show } :withReducible Jz / ; | EE _ . _ . _ . PySem.Expr.Attribute _ . \"node\" . _ . . _ . _ . :show } :withReducible Jz / ; | ES _ . _ . _ . PySem.Stmt.AugAssign PySem.Expr.Attribute _ . \"npredecessors\" . _ . . _ . _ . _ . . _ . _ . :show } :withReducible PV / ; | ES _ . _ . _ . PySem.Stmt.Assign List.cons PySem.Expr.Attribute _ . \"npredecessors\" . _ . . List.nil . . _ . _ . . _ . _ . :show } :withReducible BP / ; | EE _ . _ . _ . PySem.Expr.Subscript PySem.Expr.Name \"n2i\" . _ . . _ . _ . . _ . _ . :show } :withReducible sC / ; | E0 / | m_values / | BW ? d , . :refine | Vf / | *4 \\ } :withReducible | \"m.s1\" + | *9 \\",
 "g.go \"g.s1\" + } :tacticRepeat_",
 "g.rz h_ PySem.F.excCall_ValueError . PySem.F.excRaise_ValueError . hd . / \"m.name\" + ; rfl ? { :refine ; \"m.s1\" + ; Vg ^ @ . ^ @ . / ; \"m.name\" + ; _ rfl ! ? yy , { { { :refine ; \"m.go\" + ; Nat.le_of_ble_eq_true rfl . ? { :refine ;",
 "Lk Lk ## . / | Lk ## ''.. 1Lean.Parser.Term.ellipsis . . / | Lk ## _ . . / | Lk ## _ . _ . . / | ) | *5 \\",
 "Ll Ll ## . / | Ll ## ''.. 1Lean.Parser.Term.ellipsis . . / | Ll ## _ . . / | Ll ## _ . _ . . / | ) | *5 \\",
 "seq ## ##x ;",
 "chg ''( x 1hygieneInfo 2Lean.Parser.Term.hygienicLParen ? '': ## 1null '') 5Lean.Parser.Term.typeAscription ''refine ]xx 2Lean.Parser.Tactic.refine | ) | *2 \\",
 "let ## ##x 0null ''=> ? 4Lean.Parser.Term.basicFun ''fun ]xx 2Lean.Parser.Term.fun . ''refine ]xx 2Lean.Parser.Tactic.refine",
 "sho ## /",
 "omi ~",
 "'0' \"m.mem\" -",
 "'1' \"m.picks\" -",
 "'2' ^ @",
 "'3' % @",
 "symm \"g.go\" +",
 "left \"m.go\" +"]
nonrec def xL (e:List xY) (k:String):xO:=match xD.find? λd=>d.startsWith (k++" ")with
 |some d=>return(xX e 9 (d.drop (k.length+1)).copy []).getD 0 .missing
 |none=>acb
nonrec def xRw (s r:xY) (a:Array xY):xO:=
 if(s.getArg 3).getNumArgs !=0||((s.getArg 1).getArg 0).getNumArgs !=0 then acb else
 let o:=λl=>s.setArg 2 ((s.getArg 2).setArg 1 (.node .none `null l))
 if a.size==1 then xL [r.getArg 1] (if(r.getArg 0).getNumArgs==0 then"Lk"else"Ll")else
 xL [o #[r],o (a.extract 2 a.size)] "seq"
nonrec def xLt (d:xY):xO:=
 if(d.getArg 2).getNumArgs==0&&d.isOfKind `Lean.Parser.Term.letIdDecl then xL [d.getArg 4,.node .none `null (#[(d.getArg 0).getArg 0]++(d.getArg 1).getArgs)] "let"else acb
nonrec def apX (k:String):adL:=(xX [] 9 k []).getD 0 .missing
nonrec def apR:adL:=apX "\"aR\" + }"
nonrec def apK:adL:=apX "\"aK\" + }"
nonrec def apA:adL:=apX "\"aA\" + }"
nonrec def apT:adL:=apX "\"aT\" + }"
nonrec def apM:adL:=apX "\"aM\" + }"
end
set_option genInjectivity false
set_option genSizeOf false
set_option tactic.hygienic false
set_option compiler.extract_closed false
local macro_rules (kind := Lean.Parser.Tactic.rewriteSeq) | s => xRw s (((s.getArg 2).getArg 1).getArg 0) ((s.getArg 2).getArg 1).getArgs
local macro_rules (kind := Lean.Parser.Term.omission) | s => xL [s] "omi"
local macro_rules (kind := PySem.W.tacticK_extra_) | s => xL [] ((s.getArg 1).isStrLit?.getD "")
local macro_rules (kind := char) | s => xL [] (s.getArg 0).getAtomVal
local macro_rules (kind := Lean.Parser.Tactic.symm) | s => xL [] "symm"
local macro_rules (kind := Lean.Parser.Tactic.left) | s => xL [] "left"
local macro_rules (kind := Lean.Parser.Tactic.show) | s => xL [s.getArg 1] "sho"
local macro_rules (kind := Lean.Parser.Tactic.change) | s => if (s.getArg 2).getNumArgs == 0 then xL [s.getArg 1] "chg" else acb
local macro_rules (kind := Lean.Parser.Tactic.tacticLet__) | s => xLt ((s.getArg 2).getArg 0)
set_option hygiene true
variable{M:Model} {A:ads} {E Qr E':Value→aas→Prop} {s x y sep xn:Str} {v u acc:Value} {b:Bool} {i k ep j n ge ch:Nat} {a l L d it va fN dx ct cl cr ce:Addr} {P0:Prop} {s':aas} {t:Sem Value} {m mm:Str→Option Value} {p p' ap np cpos px py pt pp pn:Pos} {vs:Array Value} {o' ob ol:Obj} {h h':Heap} {P:Str→Bool} {args:List Expr} {kws kvs binds:List (Str×Value)} {RR:ahu→aas→Prop} {body orelse suite:List Stmt} {op:ad4} {env:Env} {ents:List abN} {T newId initId:String} {test value slice iter target elt:Expr} {lower upper:Option Expr} {b₀:Stmt} {rest:List afL} {w:World} {cd:Code} {ss z ps N names rl gv dn ev nms:List Str} {q:Nat→Bool} {Gp:Array ach} {gs gs':ach} {α β:Type} {res:Option (List Str)} {scope:Scope} {jW:List ad5} {tab:List (Str×Addr)} {cmp:Nat→Nat→(Bool→aas→Prop)→aas→Prop} {f':Int×List Str→Int×List Str} {aC:List (Str×Nat)} {v0:Option Str} {pF fF:Int} {cf:List Str→Bool}
section
variable{c:Prop} {s:aas}
section
variable{G:Prop}{α:Sort _}{β:Sort _}{γ:Sort _}{δ:Sort _}{ε:Sort _}{ζ:Sort _}{η:Sort _}{θ:Sort _}{ι:Sort _}{P Q R S T U V W:Prop}{P1 Q1 R1 S1 T1 U1 V1 W1:α→Prop}{P2 Q2 R2 S2 T2 U2 V2 W2:α→β→Prop}{P3 Q3 R3 S3 T3 U3 V3 W3 X3 Y3 Z3:α→β→γ→Prop}{P4 Q4 R4 S4 T4 U4 V4 W4 X4 Y4 Z4:α→β→γ→δ→Prop}{P5 Q5 R5 S5 T5 U5 V5 W5 X5 Y5 Z5 H5 I5:α→β→γ→δ→ε→Prop}{P6 Q6 R6 S6 T6 U6 V6 W6:α→β→γ→δ→ε→ζ→Prop}{P7 Q7 R7 S7 T7 U7 V7 W7:α→β→γ→δ→ε→ζ→η→Prop}{P8 Q8 R8 S8 T8 U8 V8:α→β→γ→δ→ε→ζ→η→θ→Prop}{P9 Q9 R9 S9 T9 U9 V9:α→β→γ→δ→ε→ζ→η→θ→ι→Prop}
theorem eA(h:P∧Q)(k:P→Q→G):G:=k h.1 h.2
theorem eE(h:∃x,P1 x)(k:∀x,P1 x→G):G:=h.elim k
theorem pX(h:P∧Q∧R)(k:P→Q→R→G):G:=eA h.2 (k h.1)
theorem Ta(h:P∧∃x,Q1 x)(k:P→∀x,Q1 x→G):G:=eE h.2 (k h.1)
theorem ak(h:∃x,P1 x∧Q1 x)(k:∀x,P1 x→Q1 x→G):G:=h.elim λx h=>eA h (k x)
theorem DP(h:∃x y,P2 x y)(k:∀x y,P2 x y→G):G:=h.elim λx h=>eE h (k x)
theorem jc(h:P∧Q∧R∧S)(k:P→Q→R→S→G):G:=pX h.2 (k h.1)
theorem IB(h:P∧Q∧∃x,R1 x)(k:P→Q→∀x,R1 x→G):G:=Ta h.2 (k h.1)
theorem AL(h:P∧∃x,Q1 x∧R1 x)(k:P→∀x,Q1 x→R1 x→G):G:=ak h.2 (k h.1)
theorem IC(h:P∧∃x y,Q2 x y)(k:P→∀x y,Q2 x y→G):G:=DP h.2 (k h.1)
theorem bN(h:∃x,P1 x∧Q1 x∧R1 x)(k:∀x,P1 x→Q1 x→R1 x→G):G:=h.elim λx h=>pX h (k x)
theorem ID(h:∃x,P1 x∧∃y,Q2 x y)(k:∀x,P1 x→∀y,Q2 x y→G):G:=h.elim λx h=>Ta h (k x)
theorem cI(h:∃x y,P2 x y∧Q2 x y)(k:∀x y,P2 x y→Q2 x y→G):G:=h.elim λx h=>ak h (k x)
theorem vS(h:∃x y z,P3 x y z)(k:∀x y z,P3 x y z→G):G:=h.elim λx h=>DP h (k x)
theorem GL(h:P∧Q∧R∧S∧T)(k:P→Q→R→S→T→G):G:=jc h.2 (k h.1)
theorem xe(h:P∧Q∧∃x,R1 x∧S1 x)(k:P→Q→∀x,R1 x→S1 x→G):G:=AL h.2 (k h.1)
theorem Oy(h:P∧∃x,Q1 x∧R1 x∧S1 x)(k:P→∀x,Q1 x→R1 x→S1 x→G):G:=bN h.2 (k h.1)
theorem GM(h:P∧∃x y,Q2 x y∧R2 x y)(k:P→∀x y,Q2 x y→R2 x y→G):G:=cI h.2 (k h.1)
theorem Oz(h:P∧∃x y z,Q3 x y z)(k:P→∀x y z,Q3 x y z→G):G:=vS h.2 (k h.1)
theorem kI(h:∃x,P1 x∧Q1 x∧R1 x∧S1 x)(k:∀x,P1 x→Q1 x→R1 x→S1 x→G):G:=h.elim λx h=>jc h (k x)
theorem OA(h:∃x,P1 x∧Q1 x∧∃y,R2 x y)(k:∀x,P1 x→Q1 x→∀y,R2 x y→G):G:=h.elim λx h=>IB h (k x)
theorem ow(h:∃x,P1 x∧∃y,Q2 x y∧R2 x y)(k:∀x,P1 x→∀y,Q2 x y→R2 x y→G):G:=h.elim λx h=>AL h (k x)
theorem t6(h:∃x,P1 x∧∃y z,Q3 x y z)(k:∀x,P1 x→∀y z,Q3 x y z→G):G:=h.elim λx h=>IC h (k x)
theorem bG(h:∃x y,P2 x y∧Q2 x y∧R2 x y)(k:∀x y,P2 x y→Q2 x y→R2 x y→G):G:=h.elim λx h=>bN h (k x)
theorem qD(h:∃x y z,P3 x y z∧Q3 x y z)(k:∀x y z,P3 x y z→Q3 x y z→G):G:=h.elim λx h=>cI h (k x)
theorem AM(h:P∧Q∧R∧S∧T∧U)(k:P→Q→R→S→T→U→G):G:=GL h.2 (k h.1)
theorem AN(h:P∧∃x y,Q2 x y∧R2 x y∧S2 x y)(k:P→∀x y,Q2 x y→R2 x y→S2 x y→G):G:=bG h.2 (k h.1)
theorem IE(h:P∧∃x y z,Q3 x y z∧R3 x y z)(k:P→∀x y z,Q3 x y z→R3 x y z→G):G:=qD h.2 (k h.1)
theorem ox(h:∃x,P1 x∧Q1 x∧R1 x∧S1 x∧T1 x)(k:∀x,P1 x→Q1 x→R1 x→S1 x→T1 x→G):G:=h.elim λx h=>GL h (k x)
theorem vT(h:∃x,P1 x∧Q1 x∧∃y,R2 x y∧S2 x y)(k:∀x,P1 x→Q1 x→∀y,R2 x y→S2 x y→G):G:=h.elim λx h=>xe h (k x)
theorem IG(h:∃x,P1 x∧∃y,Q2 x y∧R2 x y∧S2 x y)(k:∀x,P1 x→∀y,Q2 x y→R2 x y→S2 x y→G):G:=h.elim λx h=>Oy h (k x)
theorem gS(h:∃x,P1 x∧∃y z,Q3 x y z∧R3 x y z)(k:∀x,P1 x→∀y z,Q3 x y z→R3 x y z→G):G:=h.elim λx h=>GM h (k x)
theorem AP(h:∃x,P1 x∧∃y z w,Q4 x y z w)(k:∀x,P1 x→∀y z w,Q4 x y z w→G):G:=h.elim λx h=>Oz h (k x)
theorem lU(h:∃x y,P2 x y∧Q2 x y∧R2 x y∧S2 x y)(k:∀x y,P2 x y→Q2 x y→R2 x y→S2 x y→G):G:=h.elim λx h=>kI h (k x)
theorem lV(h:∃x y z,P3 x y z∧Q3 x y z∧R3 x y z)(k:∀x y z,P3 x y z→Q3 x y z→R3 x y z→G):G:=h.elim λx h=>bG h (k x)
theorem vU(h:∃x y z w,P4 x y z w∧Q4 x y z w)(k:∀x y z w,P4 x y z w→Q4 x y z w→G):G:=h.elim λx h=>qD h (k x)
theorem nU(h:P∧Q∧R∧S∧T∧U∧V)(k:P→Q→R→S→T→U→V→G):G:=AM h.2 (k h.1)
theorem xf(h:P∧Q∧∃x y,R2 x y∧S2 x y∧T2 x y)(k:P→Q→∀x y,R2 x y→S2 x y→T2 x y→G):G:=AN h.2 (k h.1)
theorem DS(h:P∧Q∧∃x y z,R3 x y z∧S3 x y z)(k:P→Q→∀x y z,R3 x y z→S3 x y z→G):G:=IE h.2 (k h.1)
theorem DT(h:P∧∃x,Q1 x∧R1 x∧S1 x∧T1 x∧U1 x)(k:P→∀x,Q1 x→R1 x→S1 x→T1 x→U1 x→G):G:=ox h.2 (k h.1)
theorem DU(h:P∧∃x y,Q2 x y∧R2 x y∧S2 x y∧T2 x y)(k:P→∀x y,Q2 x y→R2 x y→S2 x y→T2 x y→G):G:=lU h.2 (k h.1)
theorem DV(h:∃x,P1 x∧Q1 x∧R1 x∧S1 x∧T1 x∧U1 x)(k:∀x,P1 x→Q1 x→R1 x→S1 x→T1 x→U1 x→G):G:=h.elim λx h=>AM h (k x)
theorem ry(h:∃x,P1 x∧∃y z,Q3 x y z∧R3 x y z∧S3 x y z)(k:∀x,P1 x→∀y z,Q3 x y z→R3 x y z→S3 x y z→G):G:=h.elim λx h=>AN h (k x)
theorem nV(h:∃x y,P2 x y∧Q2 x y∧R2 x y∧S2 x y∧T2 x y)(k:∀x y,P2 x y→Q2 x y→R2 x y→S2 x y→T2 x y→G):G:=h.elim λx h=>ox h (k x)
theorem DW(h:∃x y,P2 x y∧Q2 x y∧∃z,R3 x y z∧S3 x y z)(k:∀x y,P2 x y→Q2 x y→∀z,R3 x y z→S3 x y z→G):G:=h.elim λx h=>vT h (k x)
theorem eN(h:∃x y z,P3 x y z∧Q3 x y z∧R3 x y z∧S3 x y z)(k:∀x y z,P3 x y z→Q3 x y z→R3 x y z→S3 x y z→G):G:=h.elim λx h=>lU h (k x)
theorem nW(h:∃x y z w,P4 x y z w∧Q4 x y z w∧R4 x y z w)(k:∀x y z w,P4 x y z w→Q4 x y z w→R4 x y z w→G):G:=h.elim λx h=>lV h (k x)
theorem DX(h:∃x y z w u,P5 x y z w u∧Q5 x y z w u)(k:∀x y z w u,P5 x y z w u→Q5 x y z w u→G):G:=h.elim λx h=>vU h (k x)
theorem AQ(h:P∧Q∧R∧S∧T∧U∧V∧W)(k:P→Q→R→S→T→U→V→W→G):G:=nU h.2 (k h.1)
theorem AR(h:P∧Q∧R∧∃x y z,S3 x y z∧T3 x y z)(k:P→Q→R→∀x y z,S3 x y z→T3 x y z→G):G:=DS h.2 (k h.1)
theorem t7(h:P∧Q∧∃x y,R2 x y∧S2 x y∧T2 x y∧U2 x y)(k:P→Q→∀x y,R2 x y→S2 x y→T2 x y→U2 x y→G):G:=DU h.2 (k h.1)
theorem AT(h:P∧∃x y z,Q3 x y z∧R3 x y z∧S3 x y z∧T3 x y z)(k:P→∀x y z,Q3 x y z→R3 x y z→S3 x y z→T3 x y z→G):G:=eN h.2 (k h.1)
theorem AU(h:∃x,P1 x∧Q1 x∧R1 x∧S1 x∧T1 x∧U1 x∧V1 x)(k:∀x,P1 x→Q1 x→R1 x→S1 x→T1 x→U1 x→V1 x→G):G:=h.elim λx h=>nU h (k x)
theorem t8(h:∃x y,P2 x y∧Q2 x y∧R2 x y∧S2 x y∧T2 x y∧U2 x y)(k:∀x y,P2 x y→Q2 x y→R2 x y→S2 x y→T2 x y→U2 x y→G):G:=h.elim λx h=>DV h (k x)
theorem jd(h:∃x y z,P3 x y z∧Q3 x y z∧R3 x y z∧S3 x y z∧T3 x y z)(k:∀x y z,P3 x y z→Q3 x y z→R3 x y z→S3 x y z→T3 x y z→G):G:=h.elim λx h=>nV h (k x)
theorem t9(h:∃x y z w,P4 x y z w∧Q4 x y z w∧R4 x y z w∧S4 x y z w)(k:∀x y z w,P4 x y z w→Q4 x y z w→R4 x y z w→S4 x y z w→G):G:=h.elim λx h=>eN h (k x)
theorem AW(h:∃x y z w u,P5 x y z w u∧Q5 x y z w u∧R5 x y z w u)(k:∀x y z w u,P5 x y z w u→Q5 x y z w u→R5 x y z w u→G):G:=h.elim λx h=>nW h (k x)
theorem AX(h:∃x y z w u v,P6 x y z w u v∧Q6 x y z w u v)(k:∀x y z w u v,P6 x y z w u v→Q6 x y z w u v→G):G:=h.elim λx h=>DX h (k x)
theorem yJ(h:∃x,P1 x∧Q1 x∧R1 x∧S1 x∧T1 x∧U1 x∧V1 x∧W1 x)(k:∀x,P1 x→Q1 x→R1 x→S1 x→T1 x→U1 x→V1 x→W1 x→G):G:=h.elim λx h=>AQ h (k x)
theorem yK(h:∃x,P1 x∧Q1 x∧R1 x∧∃y z w,S4 x y z w∧T4 x y z w)(k:∀x,P1 x→Q1 x→R1 x→∀y z w,S4 x y z w→T4 x y z w→G):G:=h.elim λx h=>AR h (k x)
theorem yL(h:∃x,P1 x∧∃y z w,Q4 x y z w∧R4 x y z w∧S4 x y z w∧T4 x y z w)(k:∀x,P1 x→∀y z w,Q4 x y z w→R4 x y z w→S4 x y z w→T4 x y z w→G):G:=h.elim λx h=>AT h (k x)
theorem yM(h:∃x y,P2 x y∧Q2 x y∧R2 x y∧S2 x y∧T2 x y∧U2 x y∧V2 x y)(k:∀x y,P2 x y→Q2 x y→R2 x y→S2 x y→T2 x y→U2 x y→V2 x y→G):G:=h.elim λx h=>AU h (k x)
theorem lW(h:∃x y z,P3 x y z∧Q3 x y z∧R3 x y z∧S3 x y z∧T3 x y z∧U3 x y z)(k:∀x y z,P3 x y z→Q3 x y z→R3 x y z→S3 x y z→T3 x y z→U3 x y z→G):G:=h.elim λx h=>t8 h (k x)
theorem lX(h:∃x y z w,P4 x y z w∧Q4 x y z w∧R4 x y z w∧S4 x y z w∧T4 x y z w)(k:∀x y z w,P4 x y z w→Q4 x y z w→R4 x y z w→S4 x y z w→T4 x y z w→G):G:=h.elim λx h=>jd h (k x)
theorem qE(h:∃x y z w u,P5 x y z w u∧Q5 x y z w u∧R5 x y z w u∧S5 x y z w u)(k:∀x y z w u,P5 x y z w u→Q5 x y z w u→R5 x y z w u→S5 x y z w u→G):G:=h.elim λx h=>t9 h (k x)
theorem yN(h:∃x y z w u v,P6 x y z w u v∧Q6 x y z w u v∧R6 x y z w u v)(k:∀x y z w u v,P6 x y z w u v→Q6 x y z w u v→R6 x y z w u v→G):G:=h.elim λx h=>AW h (k x)
theorem yO(h:∃x y z w u v s,P7 x y z w u v s∧Q7 x y z w u v s)(k:∀x y z w u v s,P7 x y z w u v s→Q7 x y z w u v s→G):G:=h.elim λx h=>AX h (k x)
theorem IH(h:P∧∃x y z w u v,Q6 x y z w u v∧R6 x y z w u v∧S6 x y z w u v)(k:P→∀x y z w u v,Q6 x y z w u v→R6 x y z w u v→S6 x y z w u v→G):G:=yN h.2 (k h.1)
theorem vV(h:∃x y,P2 x y∧Q2 x y∧R2 x y∧S2 x y∧T2 x y∧U2 x y∧V2 x y∧W2 x y)(k:∀x y,P2 x y→Q2 x y→R2 x y→S2 x y→T2 x y→U2 x y→V2 x y→W2 x y→G):G:=h.elim λx h=>yJ h (k x)
theorem vW(h:∃x y,P2 x y∧Q2 x y∧R2 x y∧∃z w u,S5 x y z w u∧T5 x y z w u)(k:∀x y,P2 x y→Q2 x y→R2 x y→∀z w u,S5 x y z w u→T5 x y z w u→G):G:=h.elim λx h=>yK h (k x)
theorem vX(h:∃x y z,P3 x y z∧Q3 x y z∧R3 x y z∧S3 x y z∧T3 x y z∧U3 x y z∧V3 x y z)(k:∀x y z,P3 x y z→Q3 x y z→R3 x y z→S3 x y z→T3 x y z→U3 x y z→V3 x y z→G):G:=h.elim λx h=>yM h (k x)
theorem oy(h:∃x y z w,P4 x y z w∧Q4 x y z w∧R4 x y z w∧S4 x y z w∧T4 x y z w∧U4 x y z w)(k:∀x y z w,P4 x y z w→Q4 x y z w→R4 x y z w→S4 x y z w→T4 x y z w→U4 x y z w→G):G:=h.elim λx h=>lW h (k x)
theorem oz(h:∃x y z w u,P5 x y z w u∧Q5 x y z w u∧R5 x y z w u∧S5 x y z w u∧T5 x y z w u)(k:∀x y z w u,P5 x y z w u→Q5 x y z w u→R5 x y z w u→S5 x y z w u→T5 x y z w u→G):G:=h.elim λx h=>lX h (k x)
theorem vY(h:∃x y z w u v,P6 x y z w u v∧Q6 x y z w u v∧R6 x y z w u v∧S6 x y z w u v)(k:∀x y z w u v,P6 x y z w u v→Q6 x y z w u v→R6 x y z w u v→S6 x y z w u v→G):G:=h.elim λx h=>qE h (k x)
theorem vZ(h:∃x y z w u v s t,P8 x y z w u v s t∧Q8 x y z w u v s t)(k:∀x y z w u v s t,P8 x y z w u v s t→Q8 x y z w u v s t→G):G:=h.elim λx h=>yO h (k x)
theorem t_(h:P∧∃x y,Q2 x y∧R2 x y∧S2 x y∧∃z w u,T5 x y z w u∧U5 x y z w u)(k:P→∀x y,Q2 x y→R2 x y→S2 x y→∀z w u,T5 x y z w u→U5 x y z w u→G):G:=vW h.2 (k h.1)
theorem mT(h:∃x y z,P3 x y z∧Q3 x y z∧R3 x y z∧S3 x y z∧T3 x y z∧U3 x y z∧V3 x y z∧W3 x y z)(k:∀x y z,P3 x y z→Q3 x y z→R3 x y z→S3 x y z→T3 x y z→U3 x y z→V3 x y z→W3 x y z→G):G:=h.elim λx h=>vV h (k x)
theorem ub(h:∃x y z w,P4 x y z w∧Q4 x y z w∧R4 x y z w∧S4 x y z w∧T4 x y z w∧U4 x y z w∧V4 x y z w)(k:∀x y z w,P4 x y z w→Q4 x y z w→R4 x y z w→S4 x y z w→T4 x y z w→U4 x y z w→V4 x y z w→G):G:=h.elim λx h=>vX h (k x)
theorem uc(h:∃x y z w u,P5 x y z w u∧Q5 x y z w u∧R5 x y z w u∧S5 x y z w u∧T5 x y z w u∧U5 x y z w u)(k:∀x y z w u,P5 x y z w u→Q5 x y z w u→R5 x y z w u→S5 x y z w u→T5 x y z w u→U5 x y z w u→G):G:=h.elim λx h=>oy h (k x)
theorem gq(h:∃x y z w u v,P6 x y z w u v∧Q6 x y z w u v∧R6 x y z w u v∧S6 x y z w u v∧T6 x y z w u v)(k:∀x y z w u v,P6 x y z w u v→Q6 x y z w u v→R6 x y z w u v→S6 x y z w u v→T6 x y z w u v→G):G:=h.elim λx h=>oz h (k x)
theorem GN(h:∃x y z w u v s t a,P9 x y z w u v s t a∧Q9 x y z w u v s t a)(k:∀x y z w u v s t a,P9 x y z w u v s t a→Q9 x y z w u v s t a→G):G:=h.elim λx h=>vZ h (k x)
theorem rA(h:P∧Q∧∃x y,R2 x y∧S2 x y∧T2 x y∧∃z w u,U5 x y z w u∧V5 x y z w u)(k:P→Q→∀x y,R2 x y→S2 x y→T2 x y→∀z w u,U5 x y z w u→V5 x y z w u→G):G:=t_ h.2 (k h.1)
theorem rB(h:P∧∃x y z,Q3 x y z∧R3 x y z∧S3 x y z∧T3 x y z∧U3 x y z∧V3 x y z∧W3 x y z∧X3 x y z)(k:P→∀x y z,Q3 x y z→R3 x y z→S3 x y z→T3 x y z→U3 x y z→V3 x y z→W3 x y z→X3 x y z→G):G:=mT h.2 (k h.1)
theorem rC(h:∃x y z w,P4 x y z w∧Q4 x y z w∧R4 x y z w∧S4 x y z w∧T4 x y z w∧U4 x y z w∧V4 x y z w∧W4 x y z w)(k:∀x y z w,P4 x y z w→Q4 x y z w→R4 x y z w→S4 x y z w→T4 x y z w→U4 x y z w→V4 x y z w→W4 x y z w→G):G:=h.elim λx h=>mT h (k x)
theorem rD(h:∃x y z w u,P5 x y z w u∧Q5 x y z w u∧R5 x y z w u∧S5 x y z w u∧T5 x y z w u∧U5 x y z w u∧V5 x y z w u)(k:∀x y z w u,P5 x y z w u→Q5 x y z w u→R5 x y z w u→S5 x y z w u→T5 x y z w u→U5 x y z w u→V5 x y z w u→G):G:=h.elim λx h=>ub h (k x)
theorem dZ(h:∃x y z w u v,P6 x y z w u v∧Q6 x y z w u v∧R6 x y z w u v∧S6 x y z w u v∧T6 x y z w u v∧U6 x y z w u v)(k:∀x y z w u v,P6 x y z w u v→Q6 x y z w u v→R6 x y z w u v→S6 x y z w u v→T6 x y z w u v→U6 x y z w u v→G):G:=h.elim λx h=>uc h (k x)
theorem rE(h:∃x y z w u v s,P7 x y z w u v s∧Q7 x y z w u v s∧R7 x y z w u v s∧S7 x y z w u v s∧T7 x y z w u v s)(k:∀x y z w u v s,P7 x y z w u v s→Q7 x y z w u v s→R7 x y z w u v s→S7 x y z w u v s→T7 x y z w u v s→G):G:=h.elim λx h=>gq h (k x)
theorem p5(h:P∧Q∧∃x y z,R3 x y z∧S3 x y z∧T3 x y z∧U3 x y z∧V3 x y z∧W3 x y z∧X3 x y z∧Y3 x y z)(k:P→Q→∀x y z,R3 x y z→S3 x y z→T3 x y z→U3 x y z→V3 x y z→W3 x y z→X3 x y z→Y3 x y z→G):G:=rB h.2 (k h.1)
theorem p6(h:P∧∃x y z w u v,Q6 x y z w u v∧R6 x y z w u v∧S6 x y z w u v∧T6 x y z w u v∧U6 x y z w u v∧V6 x y z w u v)(k:P→∀x y z w u v,Q6 x y z w u v→R6 x y z w u v→S6 x y z w u v→T6 x y z w u v→U6 x y z w u v→V6 x y z w u v→G):G:=dZ h.2 (k h.1)
theorem p7(h:∃x y z w u,P5 x y z w u∧Q5 x y z w u∧R5 x y z w u∧S5 x y z w u∧T5 x y z w u∧U5 x y z w u∧V5 x y z w u∧W5 x y z w u)(k:∀x y z w u,P5 x y z w u→Q5 x y z w u→R5 x y z w u→S5 x y z w u→T5 x y z w u→U5 x y z w u→V5 x y z w u→W5 x y z w u→G):G:=h.elim λx h=>rC h (k x)
theorem cX(h:∃x y z w u v,P6 x y z w u v∧Q6 x y z w u v∧R6 x y z w u v∧S6 x y z w u v∧T6 x y z w u v∧U6 x y z w u v∧V6 x y z w u v)(k:∀x y z w u v,P6 x y z w u v→Q6 x y z w u v→R6 x y z w u v→S6 x y z w u v→T6 x y z w u v→U6 x y z w u v→V6 x y z w u v→G):G:=h.elim λx h=>rD h (k x)
theorem p8(h:∃x y z w u v s t,P8 x y z w u v s t∧Q8 x y z w u v s t∧R8 x y z w u v s t∧S8 x y z w u v s t∧T8 x y z w u v s t)(k:∀x y z w u v s t,P8 x y z w u v s t→Q8 x y z w u v s t→R8 x y z w u v s t→S8 x y z w u v s t→T8 x y z w u v s t→G):G:=h.elim λx h=>rE h (k x)
theorem oA(h:P∧Q∧R∧∃x y z,S3 x y z∧T3 x y z∧U3 x y z∧V3 x y z∧W3 x y z∧X3 x y z∧Y3 x y z∧Z3 x y z)(k:P→Q→R→∀x y z,S3 x y z→T3 x y z→U3 x y z→V3 x y z→W3 x y z→X3 x y z→Y3 x y z→Z3 x y z→G):G:=p5 h.2 (k h.1)
theorem oB(h:∃x,P1 x∧∃y z w u v s,Q7 x y z w u v s∧R7 x y z w u v s∧S7 x y z w u v s∧T7 x y z w u v s∧U7 x y z w u v s∧V7 x y z w u v s)(k:∀x,P1 x→∀y z w u v s,Q7 x y z w u v s→R7 x y z w u v s→S7 x y z w u v s→T7 x y z w u v s→U7 x y z w u v s→V7 x y z w u v s→G):G:=h.elim λx h=>p6 h (k x)
theorem oE(h:∃x y z w u v,P6 x y z w u v∧Q6 x y z w u v∧R6 x y z w u v∧S6 x y z w u v∧T6 x y z w u v∧U6 x y z w u v∧V6 x y z w u v∧W6 x y z w u v)(k:∀x y z w u v,P6 x y z w u v→Q6 x y z w u v→R6 x y z w u v→S6 x y z w u v→T6 x y z w u v→U6 x y z w u v→V6 x y z w u v→W6 x y z w u v→G):G:=h.elim λx h=>p7 h (k x)
theorem je(h:∃x y z w u v s,P7 x y z w u v s∧Q7 x y z w u v s∧R7 x y z w u v s∧S7 x y z w u v s∧T7 x y z w u v s∧U7 x y z w u v s∧V7 x y z w u v s)(k:∀x y z w u v s,P7 x y z w u v s→Q7 x y z w u v s→R7 x y z w u v s→S7 x y z w u v s→T7 x y z w u v s→U7 x y z w u v s→V7 x y z w u v s→G):G:=h.elim λx h=>cX h (k x)
theorem nu(h:∃x,P1 x∧Q1 x∧R1 x∧∃y z w,S4 x y z w∧T4 x y z w∧U4 x y z w∧V4 x y z w∧W4 x y z w∧X4 x y z w∧Y4 x y z w∧Z4 x y z w)(k:∀x,P1 x→Q1 x→R1 x→∀y z w,S4 x y z w→T4 x y z w→U4 x y z w→V4 x y z w→W4 x y z w→X4 x y z w→Y4 x y z w→Z4 x y z w→G):G:=h.elim λx h=>oA h (k x)
theorem ny(h:∃x y z w u v s,P7 x y z w u v s∧Q7 x y z w u v s∧R7 x y z w u v s∧S7 x y z w u v s∧T7 x y z w u v s∧U7 x y z w u v s∧V7 x y z w u v s∧W7 x y z w u v s)(k:∀x y z w u v s,P7 x y z w u v s→Q7 x y z w u v s→R7 x y z w u v s→S7 x y z w u v s→T7 x y z w u v s→U7 x y z w u v s→V7 x y z w u v s→W7 x y z w u v s→G):G:=h.elim λx h=>oE h (k x)
theorem nz(h:∃x y z w u v s t,P8 x y z w u v s t∧Q8 x y z w u v s t∧R8 x y z w u v s t∧S8 x y z w u v s t∧T8 x y z w u v s t∧U8 x y z w u v s t∧V8 x y z w u v s t)(k:∀x y z w u v s t,P8 x y z w u v s t→Q8 x y z w u v s t→R8 x y z w u v s t→S8 x y z w u v s t→T8 x y z w u v s t→U8 x y z w u v s t→V8 x y z w u v s t→G):G:=h.elim λx h=>je h (k x)
theorem lY(h:∃x y,P2 x y∧Q2 x y∧R2 x y∧∃z w u,S5 x y z w u∧T5 x y z w u∧U5 x y z w u∧V5 x y z w u∧W5 x y z w u∧X5 x y z w u∧Y5 x y z w u∧Z5 x y z w u)(k:∀x y,P2 x y→Q2 x y→R2 x y→∀z w u,S5 x y z w u→T5 x y z w u→U5 x y z w u→V5 x y z w u→W5 x y z w u→X5 x y z w u→Y5 x y z w u→Z5 x y z w u→G):G:=h.elim λx h=>nu h (k x)
theorem hV(h:∃x y z w u v s t a,P9 x y z w u v s t a∧Q9 x y z w u v s t a∧R9 x y z w u v s t a∧S9 x y z w u v s t a∧T9 x y z w u v s t a∧U9 x y z w u v s t a∧V9 x y z w u v s t a)(k:∀x y z w u v s t a,P9 x y z w u v s t a→Q9 x y z w u v s t a→R9 x y z w u v s t a→S9 x y z w u v s t a→T9 x y z w u v s t a→U9 x y z w u v s t a→V9 x y z w u v s t a→G):G:=h.elim λx h=>nz h (k x)
theorem kJ(h:P∧∃x y,Q2 x y∧R2 x y∧S2 x y∧∃z w u,T5 x y z w u∧U5 x y z w u∧V5 x y z w u∧W5 x y z w u∧X5 x y z w u∧Y5 x y z w u∧Z5 x y z w u∧H5 x y z w u)(k:P→∀x y,Q2 x y→R2 x y→S2 x y→∀z w u,T5 x y z w u→U5 x y z w u→V5 x y z w u→W5 x y z w u→X5 x y z w u→Y5 x y z w u→Z5 x y z w u→H5 x y z w u→G):G:=lY h.2 (k h.1)
theorem kg(h:P∧Q∧∃x y,R2 x y∧S2 x y∧T2 x y∧∃z w u,U5 x y z w u∧V5 x y z w u∧W5 x y z w u∧X5 x y z w u∧Y5 x y z w u∧Z5 x y z w u∧H5 x y z w u∧I5 x y z w u)(k:P→Q→∀x y,R2 x y→S2 x y→T2 x y→∀z w u,U5 x y z w u→V5 x y z w u→W5 x y z w u→X5 x y z w u→Y5 x y z w u→Z5 x y z w u→H5 x y z w u→I5 x y z w u→G):G:=kJ h.2 (k h.1)
end
open PySem PyProof.Rows PySem.Calls in
theorem II{α:Type}[Decidable c]{a b:Sem α}{Q:α→aas→Prop}(h:c)(k:wpAny M A a Q E s):wpAny M A (if c then a else b) Q E s:=by rw[if_pos h];exact k
open PySem PyProof.Rows PySem.Calls in
theorem qF{α:Type}[Decidable c]{a b:Sem α}{Q:α→aas→Prop}(h:¬c)(k:wpAny M A b Q E s):wpAny M A (if c then a else b) Q E s:=by rw[if_neg h];exact k
end
section
variable{i:Int}
abbrev prog:aiA:=ae1
inductive AV where
 |none|bool (b:Bool)|int (i:Int)|str (s:Str)|type (n:String)|bi (id:String)|ref (a:Addr)|oth (v:Value)
def ab:Value→AV
 | .none=>.none| .bool b=>.bool b| .int i _=>.int i| .str s _=>.str s| .type n=>.type n
 | .builtin i=>.bi i| .ref a=>.ref a|v=>.oth v
theorem eO(h:ab v= .none):v= .none:=by cases v<;>first|rfl|cases h
theorem gr(h:ab v= .bool b):v= .bool b:=by cases v<;>first|(cases h;rfl)|cases h
theorem aP(h:ab v= .int i):∃t,v= .int i t:=by cases v<;>first|(cases h;exact⟨_,rfl⟩)|cases h
theorem aD(h:ab v= .str x):∃t,v= .str x t:=by cases v<;>first|(cases h;exact⟨_,rfl⟩)|cases h
theorem bI{n:String}(h:ab v= .type n):v= .type n:=by cases v<;>first|(cases h;rfl)|cases h
theorem dT{n:String}(h:ab v= .bi n):v= .builtin n:=by cases v<;>first|(cases h;rfl)|cases h
theorem aj(h:ab v= .ref a):v= .ref a:=by cases v<;>first|(cases h;rfl)|cases h
inductive AO where
 |list (xs:List AV)
 |tup (xs:List AV)
 |dict (es:List (Str×AV)) (n:Nat)
 |inst (C d:Addr)
 |du (C d:Addr) (sl:List (Option AV))
 |cell (v:Option AV)
 |raw (o:Obj)
 |obj (P:Obj→Prop)
 |map (es:List (Str×AV)) (ep:Nat)
 |set (S:Str→Bool) (n:Nat)
 |v4 (m:Str→Option Value)
def qG(P:aao)(p:Str×AV)(e:abN):Prop:=ab e.key= .str p.1∧ab e.val=p.2∧e.hash=aff P p.1
inductive oF{α β:Type}(R:α→β→Prop):List α→List β→Prop
 |nil:oF R [] []
 |cons:∀{a b l r},R a b→oF R l r→oF R (a::l) (b::r)
def OB(w:World)(kvs:List (Str×Value))(ep:Nat)(o:Obj):Prop:=∃arr,o.ExactDict∧o.data= .dict arr ep∧KeysOf (aeQ prog w) arr∧Pairs (aeQ prog w) arr.toList kvs∧(kvs.map (λx=>x.1)).Nodup
def isSet(w:World)(S:Str→Bool)(n:Nat)(o:Obj):Prop:=∃es ep t,o.ExactSet∧o.data= .set es ep t∧ElemsOf (aeQ prog w) es.toList∧(∀k,S k=true↔∃e∈es.toList,(aeQ prog w).is k e.2=true)∧es.size<scanBound∧t.fits es.size=true∧es.size=n
def pY(w:World):AO→Obj→Prop| .list xs,o=>∃vs n,o={cls:=.type "list",data:=.seq vs n}∧vs.toList.map ab=xs| .tup xs,o=>∃vs n,o={cls:=.type "tuple",data:=.seq vs n}∧vs.toList.map ab=xs| .dict es n,o=>(es.map (λx=>x.1)).Nodup∧∃ents:List abN,o=ah6 ents n∧oF (qG w.params) es ents| .inst C d,o=>o=afA C d| .du C d sl,o=>∃vs:Array (Option Value),o={afA C d with slots:=vs}∧vs.toList.map (·.map ab)=sl| .cell v,o=>∃u,o.data= .cell u∧u.map ab=v| .raw r,o=>o=r∧r.isFreed=false| .obj P,o=>P o| .map es ep,o=>∃kvs,OB w kvs ep o∧kvs.map (λp=>(p.1,ab p.2))=es| .set S n,o=>isSet w S n o| .v4 m,o=>∃es ep,o.data= .dict es ep∧StrKeys es∧∀name,nsFind es name=m name
abbrev Cells:=List (Addr×AO)
structure SS where
 loc:List (Str×Option AV)
 cells:Cells
abbrev SS.ext(S:SS)(X:Cells):SS:=⟨S.loc,S.cells++X⟩
structure Fx where
 cn:Str
 cs:Scope
 a:Addr
 cd:Value
 gl:List (Str×Value)
structure Tc(K:Frag)(mg mb:Str→Option Value)(h:Heap):Prop where
 g:h.Ns ab9 mg
 b:h.Ns abg mb
 bi:∀x:Str,x≠"__name__"→mb x=ae8 x
 lim:h.NoLimit
 fg:K.In h
 sm:∃o,h.get? aiD=some o
structure Cx where
 w:World
 K:Frag
 mg:Str→Option Value
 mb:Str→Option Value
 base:Heap
 aC:List (Env×(Str→Option Value))
 L:Addr
 fx:Fx
 env:Env
 comp:Bool
 hd:Option Value
 G:Array ach
 os:abW
namespace Cx
abbrev outer(c:Cx):List Env:=c.aC.map (λx=>x.1)
def frames(c:Cx):List Env:=match c.comp with
 |true=>c.outer
 |false=>c.env::c.outer
theorem dp{c:Cx}(h:c.comp=false):c.frames=c.env::c.outer:=by unfold frames;rw[h]
def In(c:Cx)(A:ads)(n:Nat):Prop:=A.frames=some c.frames∧A.handled=c.hd∧A.depth+n<adM∧A.units+8*n<cLine
structure Ok(c:Cx):Prop where
 eH:Tc c.K c.mg c.mb c.base
 eL:c.env.locals=c.L
 eg:c.env.globals=ab9
 eb:c.env.builtins=abg
 kind:c.env.scope.kind= .function
 fr:c.comp=false→c.env.frame=some c.L
 above:c.base.objs.size≤c.L
 aC:∀f∈c.aC,f.1.frame=some f.1.locals∧f.1.scope.kind≠.module
 gl:∀p∈c.fx.gl,c.env.kindOf p.1=some .globalImplicit∧(p.1==("__debug__":Str))=false∧(c.mg p.1=some p.2∨(c.mg p.1=none∧ae8 p.1=some p.2∧p.1≠"__name__"))
end Cx
structure Rp(c:Cx)(S:SS)(s:aas):Prop where
 stays:c.base.StaysIn s.heap
 ns:∃m,s.heap.Ns c.L m∧∀p∈S.loc,(m p.1).map ab=p.2
 aC:∀f∈c.aC,s.heap.Ns f.1.locals f.2
 cells:∀p∈S.cells,∃o,s.heap.get? p.1=some o∧pY c.w p.2 o
 fresh:∀a∈c.L::(c.aC.map (λx=>x.1.locals)++S.cells.map (λx=>x.1)),c.base.get? a=none
 nd:(c.L::(c.aC.map (λx=>x.1.locals)++S.cells.map (λx=>x.1))).Nodup
 kK:(S.loc.map (λx=>x.1)).Nodup
 lk:∀x∈S.loc.map (λx=>x.1),c.env.kindOf x=some .local∧(x==("__debug__":Str))=false
 gens:∃r:Array ach,s.gens=c.G++r∧agk r
 os:s.os=c.os
 tk:0<s.toks
def p9(c:Cx)(k:Value)(e:Addr)(S:SS)(h:Heap):Prop:=c.base.get? e=none∧e∉S.cells.map (λx=>x.1)∧∃oe vs,h.get? e=some oe∧oe.cls=k∧oe.data= .fields vs∧(vs[1]? =some .none∨∃T oT ts,vs[1]? =some (.ref T)∧c.base.get? T=none∧T≠e∧T∉S.cells.map (λx=>x.1)∧h.get? T=some oT∧oT.data= .fields ts∧(ts[3]? =some .none∨ts[3]? =some (abK c.L)))
abbrev EP:=Value→SS→Prop
def hW:EP:=λzz zz=>False
theorem ud{α1:Sort _}{α2:Sort _}{α3:Sort _}{α4:Sort _}{α5:Sort _}{α6:Sort _}{fS:α1→α2→α3→α4→α5→α6→SS}{P8:α1→α2→α3→α4→α5→α6→Prop}{P9:α1→α2→α3→α4→α5→α6→Prop}{G:SS→Prop}(k:P0→∀x1:α1,∀x2:α2,∀x3:α3,∀x4:α4,∀x5:α5,∀x6:α6,P8 x1 x2 x3 x4 x5 x6→P9 x1 x2 x3 x4 x5 x6→G (fS x1 x2 x3 x4 x5 x6)):∀S,(P0∧∃x1:α1,∃x2:α2,∃x3:α3,∃x4:α4,∃x5:α5,∃x6:α6,S=fS x1 x2 x3 x4 x5 x6∧P8 x1 x2 x3 x4 x5 x6∧P9 x1 x2 x3 x4 x5 x6)→G S:=λS h=>by obtain⟨h0,x1,x2,x3,x4,x5,x6,rfl,h8,h9⟩:=h;exact k h0 x1 x2 x3 x4 x5 x6 h8 h9
theorem sAS{fS:SS}{G:SS→Prop}(k:P0→G fS):∀S,(P0∧S=fS)→G S:=λS h=>by obtain⟨h0,rfl⟩:=h;exact k h0
theorem IJ{fv:AV}{α2:Sort _}{P3:α2→Prop}{fC:α2→Cells}{G:AV→Cells→Prop}(g:P0→∀x2:α2,P3 x2→G fv (fC x2)):∀v C,(P0∧v=fv∧∃x2:α2,P3 x2∧C=fC x2)→G v C:=λv C h=>by obtain⟨h0,rfl,x2,h3,rfl⟩:=h;exact g h0 x2 h3
theorem Yn{α0:Sort _}{P1:α0→Prop}{fS:α0→SS}{G:SS→Prop}(k:∀x0:α0,P1 x0→G (fS x0)):∀S,(∃x0:α0,P1 x0∧S=fS x0)→G S:=λS h=>by obtain⟨x0,h1,rfl⟩:=h;exact k x0 h1
theorem rF{α0:Sort _}{α1:Sort _}{α2:Sort _}{α3:Sort _}{α4:Sort _}{α5:Sort _}{α6:Sort _}{α7:Sort _}{α8:Sort _}{fS:α0→α1→α2→α3→α4→α5→α6→α7→α8→SS}{P10:α0→α1→α2→α3→α4→α5→α6→α7→α8→Prop}{G:SS→Prop}(k:∀x0:α0,∀x1:α1,∀x2:α2,∀x3:α3,∀x4:α4,∀x5:α5,∀x6:α6,∀x7:α7,∀x8:α8,P10 x0 x1 x2 x3 x4 x5 x6 x7 x8→G (fS x0 x1 x2 x3 x4 x5 x6 x7 x8)):∀S,(∃x0:α0,∃x1:α1,∃x2:α2,∃x3:α3,∃x4:α4,∃x5:α5,∃x6:α6,∃x7:α7,∃x8:α8,S=fS x0 x1 x2 x3 x4 x5 x6 x7 x8∧P10 x0 x1 x2 x3 x4 x5 x6 x7 x8)→G S:=λS h=>by obtain⟨x0,x1,x2,x3,x4,x5,x6,x7,x8,rfl,yP⟩:=h;exact k x0 x1 x2 x3 x4 x5 x6 x7 x8 yP
theorem jf{α0:Sort _}{α1:Sort _}{α2:Sort _}{α3:Sort _}{α4:Sort _}{α5:Sort _}{α6:Sort _}{α7:Sort _}{fS:α0→α1→α2→α3→α4→α5→α6→α7→SS}{P9:α0→α1→α2→α3→α4→α5→α6→α7→Prop}{G:SS→Prop}(k:∀x0:α0,∀x1:α1,∀x2:α2,∀x3:α3,∀x4:α4,∀x5:α5,∀x6:α6,∀x7:α7,P9 x0 x1 x2 x3 x4 x5 x6 x7→G (fS x0 x1 x2 x3 x4 x5 x6 x7)):∀S,(∃x0:α0,∃x1:α1,∃x2:α2,∃x3:α3,∃x4:α4,∃x5:α5,∃x6:α6,∃x7:α7,S=fS x0 x1 x2 x3 x4 x5 x6 x7∧P9 x0 x1 x2 x3 x4 x5 x6 x7)→G S:=λS h=>by obtain⟨x0,x1,x2,x3,x4,x5,x6,x7,rfl,h9⟩:=h;exact k x0 x1 x2 x3 x4 x5 x6 x7 h9
theorem v5{α0:Sort _}{α1:Sort _}{α2:Sort _}{α3:Sort _}{α4:Sort _}{α5:Sort _}{fS:α0→α1→α2→α3→α4→α5→SS}{P7:α0→α1→α2→α3→α4→α5→Prop}{P8:α0→α1→α2→α3→α4→α5→Prop}{G:SS→Prop}(k:∀x0:α0,∀x1:α1,∀x2:α2,∀x3:α3,∀x4:α4,∀x5:α5,P7 x0 x1 x2 x3 x4 x5→P8 x0 x1 x2 x3 x4 x5→G (fS x0 x1 x2 x3 x4 x5)):∀S,(∃x0:α0,∃x1:α1,∃x2:α2,∃x3:α3,∃x4:α4,∃x5:α5,S=fS x0 x1 x2 x3 x4 x5∧P7 x0 x1 x2 x3 x4 x5∧P8 x0 x1 x2 x3 x4 x5)→G S:=λS h=>by obtain⟨x0,x1,x2,x3,x4,x5,rfl,h7,h8⟩:=h;exact k x0 x1 x2 x3 x4 x5 h7 h8
theorem AY{α0:Sort _}{α1:Sort _}{α2:Sort _}{α3:Sort _}{α4:Sort _}{fS:α0→α1→α2→α3→α4→SS}{P6:α0→α1→α2→α3→α4→Prop}{G:SS→Prop}(k:∀x0:α0,∀x1:α1,∀x2:α2,∀x3:α3,∀x4:α4,P6 x0 x1 x2 x3 x4→G (fS x0 x1 x2 x3 x4)):∀S,(∃x0:α0,∃x1:α1,∃x2:α2,∃x3:α3,∃x4:α4,S=fS x0 x1 x2 x3 x4∧P6 x0 x1 x2 x3 x4)→G S:=λS h=>by obtain⟨x0,x1,x2,x3,x4,rfl,h6⟩:=h;exact k x0 x1 x2 x3 x4 h6
theorem qH{α0:Sort _}{α1:Sort _}{α2:Sort _}{α3:Sort _}{α4:Sort _}{fS:α0→α1→α2→α3→α4→SS}{P6:α0→α1→α2→α3→α4→Prop}{P7:α0→α1→α2→α3→α4→Prop}{G:SS→Prop}(k:∀x0:α0,∀x1:α1,∀x2:α2,∀x3:α3,∀x4:α4,P6 x0 x1 x2 x3 x4→P7 x0 x1 x2 x3 x4→G (fS x0 x1 x2 x3 x4)):∀S,(∃x0:α0,∃x1:α1,∃x2:α2,∃x3:α3,∃x4:α4,S=fS x0 x1 x2 x3 x4∧P6 x0 x1 x2 x3 x4∧P7 x0 x1 x2 x3 x4)→G S:=λS h=>by obtain⟨x0,x1,x2,x3,x4,rfl,h6,h7⟩:=h;exact k x0 x1 x2 x3 x4 h6 h7
theorem gT{α0:Sort _}{α1:Sort _}{α2:Sort _}{α3:Sort _}{α4:Sort _}{fS:α0→α1→α2→α3→α4→SS}{P6:α0→α1→α2→α3→α4→Prop}{P7:α0→α1→α2→α3→α4→Prop}{P8:α0→α1→α2→α3→α4→Prop}{P9:α0→α1→α2→α3→α4→Prop}{P10:α0→α1→α2→α3→α4→Prop}{P11:α0→α1→α2→α3→α4→Prop}{G:SS→Prop}(k:∀x0:α0,∀x1:α1,∀x2:α2,∀x3:α3,∀x4:α4,P6 x0 x1 x2 x3 x4→P7 x0 x1 x2 x3 x4→P8 x0 x1 x2 x3 x4→P9 x0 x1 x2 x3 x4→P10 x0 x1 x2 x3 x4→P11 x0 x1 x2 x3 x4→G (fS x0 x1 x2 x3 x4)):∀S,(∃x0:α0,∃x1:α1,∃x2:α2,∃x3:α3,∃x4:α4,S=fS x0 x1 x2 x3 x4∧P6 x0 x1 x2 x3 x4∧P7 x0 x1 x2 x3 x4∧P8 x0 x1 x2 x3 x4∧P9 x0 x1 x2 x3 x4∧P10 x0 x1 x2 x3 x4∧P11 x0 x1 x2 x3 x4)→G S:=λS h=>by obtain⟨x0,x1,x2,x3,x4,rfl,h6,h7,h8,h9,yP,Td⟩:=h;exact k x0 x1 x2 x3 x4 h6 h7 h8 h9 yP Td
theorem rG{α0:Sort _}{α1:Sort _}{α2:Sort _}{α3:Sort _}{fS:α0→α1→α2→α3→SS}{P5:α0→α1→α2→α3→Prop}{G:SS→Prop}(k:∀x0:α0,∀x1:α1,∀x2:α2,∀x3:α3,P5 x0 x1 x2 x3→G (fS x0 x1 x2 x3)):∀S,(∃x0:α0,∃x1:α1,∃x2:α2,∃x3:α3,S=fS x0 x1 x2 x3∧P5 x0 x1 x2 x3)→G S:=λS h=>by obtain⟨x0,x1,x2,x3,rfl,h5⟩:=h;exact k x0 x1 x2 x3 h5
theorem ue{α0:Sort _}{α1:Sort _}{α2:Sort _}{α3:Sort _}{fS:α0→α1→α2→α3→SS}{P5:α0→α1→α2→α3→Prop}{P6:α0→α1→α2→α3→Prop}{G:SS→Prop}(k:∀x0:α0,∀x1:α1,∀x2:α2,∀x3:α3,P5 x0 x1 x2 x3→P6 x0 x1 x2 x3→G (fS x0 x1 x2 x3)):∀S,(∃x0:α0,∃x1:α1,∃x2:α2,∃x3:α3,S=fS x0 x1 x2 x3∧P5 x0 x1 x2 x3∧P6 x0 x1 x2 x3)→G S:=λS h=>by obtain⟨x0,x1,x2,x3,rfl,h5,h6⟩:=h;exact k x0 x1 x2 x3 h5 h6
theorem jy{α0:Sort _}{α1:Sort _}{α2:Sort _}{α3:Sort _}{fS:α0→α1→α2→α3→SS}{P5:α0→α1→α2→α3→Prop}{P6:α0→α1→α2→α3→Prop}{P7:α0→α1→α2→α3→Prop}{G:SS→Prop}(k:∀x0:α0,∀x1:α1,∀x2:α2,∀x3:α3,P5 x0 x1 x2 x3→P6 x0 x1 x2 x3→P7 x0 x1 x2 x3→G (fS x0 x1 x2 x3)):∀S,(∃x0:α0,∃x1:α1,∃x2:α2,∃x3:α3,S=fS x0 x1 x2 x3∧P5 x0 x1 x2 x3∧P6 x0 x1 x2 x3∧P7 x0 x1 x2 x3)→G S:=λS h=>by obtain⟨x0,x1,x2,x3,rfl,h5,h6,h7⟩:=h;exact k x0 x1 x2 x3 h5 h6 h7
theorem GO{α0:Sort _}{α1:Sort _}{α2:Sort _}{fS:α0→α1→α2→SS}{G:SS→Prop}(k:∀x0:α0,∀x1:α1,∀x2:α2,G (fS x0 x1 x2)):∀S,(∃x0:α0,∃x1:α1,∃x2:α2,S=fS x0 x1 x2)→G S:=λS h=>by obtain⟨x0,x1,x2,rfl⟩:=h;exact k x0 x1 x2
theorem rH{α0:Sort _}{α1:Sort _}{α2:Sort _}{fS:α0→α1→α2→SS}{P4:α0→α1→α2→Prop}{G:SS→Prop}(k:∀x0:α0,∀x1:α1,∀x2:α2,P4 x0 x1 x2→G (fS x0 x1 x2)):∀S,(∃x0:α0,∃x1:α1,∃x2:α2,S=fS x0 x1 x2∧P4 x0 x1 x2)→G S:=λS h=>by obtain⟨x0,x1,x2,rfl,h4⟩:=h;exact k x0 x1 x2 h4
theorem nX{α0:Sort _}{α1:Sort _}{α2:Sort _}{fS:α0→α1→α2→SS}{P4:α0→α1→α2→Prop}{P5:α0→α1→α2→Prop}{G:SS→Prop}(k:∀x0:α0,∀x1:α1,∀x2:α2,P4 x0 x1 x2→P5 x0 x1 x2→G (fS x0 x1 x2)):∀S,(∃x0:α0,∃x1:α1,∃x2:α2,S=fS x0 x1 x2∧P4 x0 x1 x2∧P5 x0 x1 x2)→G S:=λS h=>by obtain⟨x0,x1,x2,rfl,h4,h5⟩:=h;exact k x0 x1 x2 h4 h5
theorem uf{α0:Sort _}{α1:Sort _}{α2:Sort _}{fS:α0→α1→α2→SS}{P4:α0→α1→α2→Prop}{P5:α0→α1→α2→Prop}{P6:α0→α1→α2→Prop}{G:SS→Prop}(k:∀x0:α0,∀x1:α1,∀x2:α2,P4 x0 x1 x2→P5 x0 x1 x2→P6 x0 x1 x2→G (fS x0 x1 x2)):∀S,(∃x0:α0,∃x1:α1,∃x2:α2,S=fS x0 x1 x2∧P4 x0 x1 x2∧P5 x0 x1 x2∧P6 x0 x1 x2)→G S:=λS h=>by obtain⟨x0,x1,x2,rfl,h4,h5,h6⟩:=h;exact k x0 x1 x2 h4 h5 h6
theorem DY{α0:Sort _}{α1:Sort _}{α2:Sort _}{fv:α0→α1→α2→AV}{P4:α0→α1→α2→Prop}{fC:α0→α1→α2→Cells}{G:AV→Cells→Prop}(g:∀x0:α0,∀x1:α1,∀x2:α2,P4 x0 x1 x2→G (fv x0 x1 x2) (fC x0 x1 x2)):∀v C,(∃x0:α0,∃x1:α1,∃x2:α2,v=fv x0 x1 x2∧P4 x0 x1 x2∧C=fC x0 x1 x2)→G v C:=λv C h=>by obtain⟨x0,x1,x2,rfl,h4,rfl⟩:=h;exact g x0 x1 x2 h4
theorem ug{α0:Sort _}{α1:Sort _}{fS:α0→α1→SS}{G:SS→Prop}(k:∀x0:α0,∀x1:α1,G (fS x0 x1)):∀S,(∃x0:α0,∃x1:α1,S=fS x0 x1)→G S:=λS h=>by obtain⟨x0,x1,rfl⟩:=h;exact k x0 x1
theorem gt{α0:Sort _}{α1:Sort _}{fS:α0→α1→SS}{P3:α0→α1→Prop}{G:SS→Prop}(k:∀x0:α0,∀x1:α1,P3 x0 x1→G (fS x0 x1)):∀S,(∃x0:α0,∃x1:α1,S=fS x0 x1∧P3 x0 x1)→G S:=λS h=>by obtain⟨x0,x1,rfl,h3⟩:=h;exact k x0 x1 h3
theorem v6{α0:Sort _}{α1:Sort _}{fv:α0→α1→AV}{P3:α0→α1→Prop}{fC:α0→α1→Cells}{G:AV→Cells→Prop}(g:∀x0:α0,∀x1:α1,P3 x0 x1→G (fv x0 x1) (fC x0 x1)):∀v C,(∃x0:α0,∃x1:α1,v=fv x0 x1∧P3 x0 x1∧C=fC x0 x1)→G v C:=λv C h=>by obtain⟨x0,x1,rfl,h3,rfl⟩:=h;exact g x0 x1 h3
theorem AZ{α0:Sort _}{fS:α0→SS}{G:SS→Prop}(k:∀x0:α0,G (fS x0)):∀S,(∃x0:α0,S=fS x0)→G S:=λS h=>by obtain⟨x0,rfl⟩:=h;exact k x0
theorem Te{α0:Sort _}{fS:α0→SS}{P2:α0→Prop}{G:SS→Prop}(k:∀x0:α0,P2 x0→G (fS x0)):∀S,(∃x0:α0,S=fS x0∧P2 x0)→G S:=λS h=>by obtain⟨x0,rfl,h2⟩:=h;exact k x0 h2
theorem W8{α0:Sort _}{fS:α0→SS}{P2:α0→Prop}{P3:α0→Prop}{G:SS→Prop}(k:∀x0:α0,P2 x0→P3 x0→G (fS x0)):∀S,(∃x0:α0,S=fS x0∧P2 x0∧P3 x0)→G S:=λS h=>by obtain⟨x0,rfl,h2,h3⟩:=h;exact k x0 h2 h3
theorem Tf{α0:Sort _}{fv:α0→AV}{fC:α0→Cells}{G:AV→Cells→Prop}(g:∀x0:α0,G (fv x0) (fC x0)):∀v C,(∃x0:α0,v=fv x0∧C=fC x0)→G v C:=λv C h=>by obtain⟨x0,rfl,rfl⟩:=h;exact g x0
theorem OC{fS:SS}{α1:Sort _}{P2:α1→Prop}{P3:α1→Prop}{P4:α1→Prop}{P5:α1→Prop}{P6:α1→Prop}{G:SS→Prop}(k:∀x1:α1,P2 x1→P3 x1→P4 x1→P5 x1→P6 x1→G fS):∀S,(S=fS∧∃x1:α1,P2 x1∧P3 x1∧P4 x1∧P5 x1∧P6 x1)→G S:=λS h=>by obtain⟨rfl,x1,h2,h3,h4,h5,h6⟩:=h;exact k x1 h2 h3 h4 h5 h6
theorem OD{fk:Value}{fC:Cells}{G:Value→Cells→Prop}(g:G fk fC):∀k C,(k=fk∧C=fC)→G k C:=λk C h=>by obtain⟨rfl,rfl⟩:=h;exact g
theorem Tg{fv:AV}{P1:Prop}{α2:Sort _}{P3:α2→Prop}{fC:α2→Cells}{G:AV→Cells→Prop}(g:P1→∀x2:α2,P3 x2→G fv (fC x2)):∀v C,(v=fv∧P1∧∃x2:α2,P3 x2∧C=fC x2)→G v C:=λv C h=>by obtain⟨rfl,h1,x2,h3,rfl⟩:=h;exact g h1 x2 h3
theorem GQ{fv:AV}{fC:Cells}{G:AV→Cells→Prop}(g:G fv fC):∀v C,(v=fv∧C=fC)→G v C:=λv C h=>by obtain⟨rfl,rfl⟩:=h;exact g
theorem xg{fv:AV}{α1:Sort _}{P2:α1→Prop}{fC:α1→Cells}{G:AV→Cells→Prop}(g:∀x1:α1,P2 x1→G fv (fC x1)):∀v C,(v=fv∧∃x1:α1,P2 x1∧C=fC x1)→G v C:=λv C h=>by obtain⟨rfl,x1,h2,rfl⟩:=h;exact g x1 h2
inductive QS(c:Cx)(X:Cells)(Q:SS→Prop)(s':aas):Prop
 |mk (S':SS) (R:Rp c (S'.ext X) s') (q:Q S'):QS c X Q s'
abbrev QX{α:Type}(c:Cx)(X:Cells)(Q:α→SS→Prop)(v:α)(s':aas):Prop:=QS c X (Q v) s'
inductive EX(c:Cx)(X:Cells)(E:EP)(x:Value)(s':aas):Prop
 |mk (e:Addr) (k:Value) (S':SS) (hx:x= .ref e) (F:p9 c k e (S'.ext X) s'.heap) (R:Rp c (S'.ext X) s') (q:E k S'):EX c X E x s'
theorem QS.el{c:Cx}{X:Cells}{Q:SS→Prop}{G:Prop}(h:QS c X Q s')(k:∀S',Rp c (S'.ext X) s'→Q S'→G):G:=by cases h with|mk S R q=>exact k S R q
theorem EX.el{c:Cx}{X:Cells}{E:EP}{x:Value}{G:Prop}(h:EX c X E x s')(k:∀e k S',x= .ref e→p9 c k e (S'.ext X) s'.heap→Rp c (S'.ext X) s'→E k S'→G):G:=by cases h with|mk e j S a b r q=>exact k e j S a b r q
structure W(c:Cx)(n:Nat)(S:SS){α:Type}(t:Sem α)(Q:α→SS→Prop)(E:EP):Prop where
 i::
 run:c.Ok→∀X A s,c.In A n→Rp c (S.ext X) s→wpAny (model prog c.w) A t (QX c X Q) (EX c X E) s
section
variable{c:Cx} {n:Nat} {S:SS} {α β:Type} {E E':EP}
theorem W.st{t:Sem α}{Q:α→SS→Prop}(h:W c n S t Q E)(ok:c.Ok)(X:Cells)(A:ads)(s:aas)(hA:c.In A n)(R:Rp c (S.ext X) s){P:α→aas→Prop}(k:∀v s' S',Rp c (S'.ext X) s'→Q v S'→P v s'):wpAny (model prog c.w) A t P (EX c X E) s:=aau (h.run ok X A s hA R) (λv s' Th=>by obtain⟨S',R',q⟩:=Th;exact k v s' S' R' q) λzz zz x=>x
theorem W.bind{m:Sem α}{f:α→Sem β}{Q:β→SS→Prop}(h:W c n S m (λa S'=>W c n S' (f a) Q E) E):W c n S (m>>=f) Q E:=.i λok X A s hA R=>aac (h.st ok X A s hA R λzz zz zz R' k=>k.run ok X A _ hA R')
theorem W.pure{a:α}{Q:α→SS→Prop}(h:Q a S):W c n S (pure a) Q E:=.i λzz zz zz zz zz R=>aal ⟨S,R,h⟩
theorem W.mono{t:Sem α}{Q Q':α→SS→Prop}(h:W c n S t Q E)(q:∀a S',Q a S'→Q' a S')(e:∀k S',E k S'→E' k S'):W c n S t Q' E':=.i λok X A s hA R=>aau (h.run ok X A s hA R) (λzz zz yQ=>by obtain⟨S',R',k⟩:=yQ;exact⟨S',R',q _ _ k⟩) λzz zz h8=>h8.el λx k S' a b d f=>⟨x,k,S',a,b,d,e _ _ f⟩
theorem W.az{t:Sem α}{Q Q':α→SS→Prop}(h:W c n S t Q E)(q:∀a S',Q a S'→Q' a S'):W c n S t Q' E:=h.mono q λzz zz x=>x
theorem W.standAt{Q:Unit→SS→Prop}(h:Q () S):W c n S (agl p) Q E:=.i λzz zz zz zz zz R=>abw ⟨S,R,h⟩
theorem W.holding{vs:List Value}{t:Sem α}{Q:α→SS→Prop}(h:W c n S t Q E):W c n S (ahO vs t) Q E:=.i λok X A s hA R=>abk (h.run ok X A s hA R)
theorem W.eq{t t':Sem α}{Q:α→SS→Prop}(e:t=t')(h:W c n S t' Q E):W c n S t Q E:=e▸h
theorem W.of{t:Sem α}{Q:α→SS→Prop}(h:c.Ok→∀X A s,c.In A n→Rp c (S.ext X) s→wpAny (model prog c.w) A t (QX c X Q) (λzz zz=>False) s):W c n S t Q E:=.i λok X A s hA R=>aau (h ok X A s hA R) (λzz zz x=>x) λzz zz x=>x.elim
theorem Rp.toks{s:aas}(R:Rp c S s)(hk:autoParam (s.toks≤k) apT):Rp c S {s with toks:=k}:=⟨R.stays,R.ns,R.aC,R.cells,R.fresh,R.nd,R.kK,R.lk,R.gens,R.os,aaE R.tk hk⟩
end
inductive FL where
 |next|brk|cont|ret (v:AV)
def OE:Flow→FL| .next=>.next| .brk=>.brk| .cont=>.cont| .ret v=>.ret (ab v)
def EE(c:Cx)(n:Nat)(S:SS)(e:Expr)(Q:AV→SS→Prop)(E:EP):Prop:=W c n S (eval e c.env) (λv=>Q (ab v)) E
def ET(c:Cx)(n:Nat)(S:SS)(e:Expr)(Q:Bool→SS→Prop)(E:EP):Prop:=W c n S (isTrue e c.env (eval e c.env)) Q E
def ES(c:Cx)(n:Nat)(S:SS)(t:Stmt)(Q:FL→SS→Prop)(E:EP):Prop:=W c n S (exec t c.env) (λf=>Q (OE f)) E
def EB(c:Cx)(n:Nat)(S:SS)(l:List Stmt)(Q:FL→SS→Prop)(E:EP):Prop:=W c n S (execs l c.env) (λf=>Q (OE f)) E
section
variable{c:Cx} {n:Nat} {S:SS} {E:EP}
theorem d0{Q:FL→SS→Prop}(h:Q .next S):EB c n S [] Q E:=.i λzz zz zz zz zz R=>wpAny_execs_nil ⟨S,R,h⟩
theorem DZ{t:Stmt}{l:List Stmt}{Q:FL→SS→Prop}(h:ES c n S t (λf S'=>match f with| .next=>EB c n S' l Q E|f=>Q f S') E):EB c n S (t::l) Q E:=
 .i λok X A s hA R=>wpAny_execs_cons (h.st ok X A s hA R λf s' S' R' k=>by
  cases f with
  |next=>exact k.run ok X A s' hA R'
  |brk=>exact⟨S',R',k⟩
  |cont=>exact⟨S',R',k⟩
  |ret v=>exact⟨S',R',k⟩)
theorem IK{e:Expr}{Q:FL→SS→Prop}(h:EE c n S e (λv S'=>Q (.ret v) S') E):ES c n S (.Return (some e) p) Q E:=.i λok X A s hA R=>wpAny_Return_some (h.run ok X A s hA R)
theorem D0{Q:FL→SS→Prop}(h:Q .next S):ES c n S (.Pass p) Q E:=.i λzz zz zz zz zz R=>wpAny_Pass ⟨S,R,h⟩
theorem A_{Q:FL→SS→Prop}(h:Q .brk S):ES c n S (.Break p) Q E:=.i λzz zz zz zz zz R=>wpAny_Break ⟨S,R,h⟩
theorem uh{Q:FL→SS→Prop}(h:Q .cont S):ES c n S (.Continue p) Q E:=.i λzz zz zz zz zz R=>wpAny_Continue ⟨S,R,h⟩
theorem OF{e:Expr}{b o:List Stmt}{Q:FL→SS→Prop}(h:ET c n S e (λt S'=>if t=true then EB c n S' b Q E else EB c n S' o Q E) E):ES c n S (.If e b o p) Q E:=.i λok X A s hA R=>wpAny_If (h.st ok X A s hA R λt s' S' R' k=>by cases t<;>exact k.run ok X A s' hA R')
theorem oG{Q:AV→SS→Prop}(h:Q (.int i) S):EE c n S (.Constant (.int i) k p) Q E:=.i λzz zz zz zz zz R=>wpAny_Constant_int ⟨S,R.toks,h⟩
theorem rI{Q:AV→SS→Prop}(h:Q (.str x) S):EE c n S (.Constant (.str x) k p) Q E:=.i λzz zz zz zz zz R=>aee ⟨S,R.toks,h⟩
theorem ix{Q:AV→SS→Prop}(h:Q (.bool b) S):EE c n S (.Constant (.bool b) k p) Q E:=.i λzz zz zz zz zz R=>wpAny_Constant_bool ⟨S,R,h⟩
theorem D4{Q:AV→SS→Prop}(h:Q .none S):EE c n S (.Constant .none k p) Q E:=.i λzz zz zz zz zz R=>wpAny_Constant_none ⟨S,R,h⟩
theorem Ba{v:AV}{Q:AV→SS→Prop}(hm:(x,some v)∈S.loc)(h:Q v S):EE c n S (.Name x p) Q E:=.i λok X A s hA R=>by
 let m hn hl:=ak R.ns;have q:=hl _ hm;let hx hd:=eA (R.lk x (aat (f:=(λx=>x.1)) hm));cases hv:m x with
 |none=>rw[hv]at q;cases q
 |some u=>rw[hv]at q;exact wpAny_Name (agT ok.kind hx (ok.eL▸hn) hv ⟨S,R,by change Q (ab u) S;rw[show ab u=v from aaJ q];exact h⟩) hd
theorem OG{Q:AV→SS→Prop}(hm:(x,v)∈c.fx.gl)(h:Q (ab v) S):EE c n S (.Name x p) Q E:=.i λok X A s hA R=>by let hx hd hv:=pX (ok.gl _ hm);rcases hv with hv|⟨h1,h2,h3⟩;exact adN ok.kind hx (loadGlobal_global (env:=c.env) (ok.eg▸ok.eH.g.keeps R.stays) hv ⟨S,R,h⟩) hd;exact adN ok.kind hx (ahv (env:=c.env) (ok.eg▸ok.eH.g.keeps R.stays) h1 (ok.eb▸ok.eH.b.keeps R.stays) ((ok.eH.bi x h3).trans h2) ⟨S,R,h⟩) hd
end
def oH:List (Str×Option AV)→Str→AV→List (Str×Option AV)|[],_,_=>[]|p::r,x,v=>if p.1=x then(x,some v)::r else p::oH r x v
theorem oI(x:Str)(v:AV):∀l:List (Str×Option AV),(oH l x v).map (λx=>x.1)=l.map (λx=>x.1):=by intro l0;induction l0 with|nil=>exact rfl|cons p r ih=>exact by unfold oH;split<;>rename_i h<;>simp[ih,h]
theorem Bb{v:AV}{p:Str×Option AV}:∀{l:List (Str×Option AV)},(l.map (λx=>x.1)).Nodup→p∈oH l x v→(p.1=x∧p.2=some v)∨(p.1≠x∧p∈l):=by intro l0;induction l0 with|nil=>exact λzz h=>nomatch h|cons q r ih=>intro nd h;unfold oH at h;have xh:=aaB.mp nd;split at h<;>rename_i e;rcases aai.mp h with rfl|h;exact .inl ⟨rfl,rfl⟩;refine .inr ⟨λq'=>xh.1 ?_,.tail _ h⟩;change q.1∈r.map (λx=>x.1);rw[e,←q'];exact aat h;rcases aai.mp h with rfl|h;exact .inr ⟨e,.head _⟩;rcases ih xh.2 h with a|a;exact .inl a;exact .inr ⟨a.1,.tail _ a.2⟩
inductive dA(x:Str)(v:AV):List (Str×Option AV)→List (Str×Option AV)→Prop
 |head:∀{a r},dA x v ((x,a)::r) ((x,some v)::r)
 |tail:∀{p r r'},dA x v r r'→dA x v (p::r) (p::r')
theorem dA.mem{v:AV}:∀{l l':List (Str×Option AV)},dA x v l l'→x∈l.map (λx=>x.1)|_,_,.head=>.head _|_,_,.tail h=>.tail _ h.mem
theorem dA.eq{v:AV}{l l':List (Str×Option AV)}(nd:(l.map (λx=>x.1)).Nodup)(h:dA x v l l'):l'=oH l x v:=by induction h with|head=>unfold oH;rw[if_pos rfl]| @tail p r r' h ih=>have xh:=aaB.mp nd;unfold oH;rw[if_neg (λq:p.1=x=>xh.1 (by change p.1∈_;rw[q];exact h.mem)),ih xh.2]
section
variable{c:Cx} {S:SS} {s:aas} {h':Heap} {tk:Nat}
theorem Rp.store(R:Rp c S s)(hl:∀p∈S.loc,(m p.1).map ab=p.2)(Bc:h'.Ns c.L (λy=>if y=x then some v else m y)) (hs:agm c.L s.heap h') (hk:autoParam (s.toks≤tk) apT):Rp c ⟨oH S.loc x (ab v),S.cells⟩ {s with heap:=h',toks:=tk}:=by have nd:=aaB.mp R.nd;have ne:∀a∈c.aC.map (λx=>x.1.locals)++S.cells.map (λx=>x.1),a≠c.L:=λa ha q=>nd.1 (q▸ha);refine⟨λb o e=>(hs.2 b λq=>?_).trans (R.stays b o e),⟨_,Bc,λp hp=>?_⟩,λf hf=>(R.aC f hf).sameBut hs (ne _ (aaf _ (aat hf))),λp hp=>?_,R.fresh,R.nd,?_,?_,R.gens,R.os,aaE R.tk hk⟩;have:=R.fresh c.L (.head _);rw[q,this]at e;cases e;rcases Bb R.kK hp with⟨a,b⟩|⟨a,b⟩;simp only[if_pos a,b];rfl;simp only[if_neg a];exact hl p b;let o ho hc:=ak (R.cells p hp);exact⟨o,(hs.2 _ (ne _ (aad _ (aat hp)))).trans ho,hc⟩;change((oH S.loc x (ab v)).map (λx=>x.1)).Nodup;rw[oI];exact R.kK;change∀y∈(oH S.loc x (ab v)).map (λx=>x.1),_;rw[oI];exact R.lk
theorem Rp.keeps(R:Rp c S s)(k:∀b o,s.heap.get? b=some o→h'.get? b=some o)(hk:autoParam (s.toks≤tk) apT):Rp c S {s with heap:=h',toks:=tk}:=by let m hn hl:=ak R.ns;exact⟨λb o e=>k b o (R.stays b o e),⟨m,hn.keeps k,hl⟩,λf hf=>(R.aC f hf).keeps k,λp hp=>let⟨o,ho,hc⟩:=R.cells p hp;⟨o,k _ _ ho,hc⟩,R.fresh,R.nd,R.kK,R.lk,R.gens,R.os,aaE R.tk hk⟩
theorem Rp.lt(R:Rp c S s):∀a∈c.L::(c.aC.map (λx=>x.1.locals)++S.cells.map (λx=>x.1)),a<s.heap.objs.size:=λa ha=>by rcases aai.mp ha with rfl|ha;let m hn z2:=ak R.ns;exact hn.lt;rcases aax.mp ha with ha|ha;let f hf r2:=ak (aaH.mp ha);subst r2;exact(R.aC f hf).lt;let p hp r2:=ak (aaH.mp ha);subst r2;let o ho z2:=ak (R.cells p hp);exact aa3 ho
theorem Rp.alloc{ao:AO}{o:Obj}(R:Rp c S s)(k:∀b o,s.heap.get? b=some o→h'.get? b=some o)(ha:s.heap.objs.size≤a)(hg:h'.get? a=some o)(hc:pY c.w ao o)(hk:autoParam (s.toks≤tk) apT):Rp c ⟨S.loc,(a,ao)::S.cells⟩ {s with heap:=h',toks:=tk}:=by
 have R':=R.keeps (tk:=tk) k hk;have hf:c.base.get? a=none:=by cases q:c.base.get? a with|none=>rfl|some o=>exact absurd (aa3 (R.stays a o q)) (aef.mpr ha)
 refine⟨R'.stays,R'.ns,R'.aC,λp hp=>?_,λb hb=>?_,?_,R.kK,R.lk,R.gens,R.os,aaE R.tk hk⟩;rcases aai.mp hp with rfl|hp;exact⟨o,hg,hc⟩;exact R'.cells p hp;simp only[aan,aai,aax]at hb;rcases hb with h|h|h|h;exact R.fresh b (by simp[h]);exact R.fresh b (by simp only[aai,aax];exact .inr (.inl h));rw[h];exact hf;exact R.fresh b (by simp only[aai,aax];exact .inr (.inr h));have p:(c.L::(c.aC.map (λx=>x.1.locals)++((a,ao)::S.cells).map (λx=>x.1))).Perm (a::c.L::(c.aC.map (λx=>x.1.locals)++S.cells.map (λx=>x.1))):=by simp only[aan];exact(abB _ aaS).trans (afi ..)
 exact p.nodup_iff.mpr (aaB.mpr ⟨λq=>(λb hb q=>absurd (R.lt b hb) (by rw[q];exact aef.mpr ha):∀b∈c.L::(c.aC.map (λx=>x.1.locals)++S.cells.map (λx=>x.1)),b≠a) a q rfl,R.nd⟩)
end
inductive aI(a:Addr)(x y:AO):Cells→Cells→Prop
 |head:∀{r},aI a x y ((a,x)::r) ((a,y)::r)
 |tail:∀{p r r'},aI a x y r r'→aI a x y (p::r) (p::r')
theorem aI.split{x y:AO}:∀{l l':Cells},aI a x y l l'→∃pre post,l=pre++(a,x)::post∧l'=pre++(a,y)::post|_,_,.head=>(ba [] _ ⟨rfl,rfl⟩)|_,_,.tail (p:=p) h=>let⟨pre,post,e1,e2⟩:=h.split;(ba (p::pre) post ⟨congrArg (p::·) e1,congrArg (p::·) e2⟩)
theorem aI.app{x y:AO}{X:Cells}:∀{l l':Cells},aI a x y l l'→aI a x y (l++X) (l'++X)|_,_,.head=>.head|_,_,.tail h=>.tail h.app
theorem aI.keys{x y:AO}{l l':Cells}(u:aI a x y l l'):l'.map (λx=>x.1)=l.map (λx=>x.1):=by let pre post r2 r3:=cI u.split;subst r2;subst r3;simp
theorem aI.mem{x y:AO}{l l':Cells}(u:aI a x y l l'):(a,x)∈l:=by let pre post r2 r3:=cI u.split;subst r2;subst r3;simp
section
variable{c:Cx} {S:SS} {s:aas} {h':Heap} {tk:Nat}
theorem Rp.upd{x y:AO}{cells':Cells}(R:Rp c S s)(u:aI a x y S.cells cells')(hs:agm a s.heap h')(ho:h'.get? a=some o')(hc:pY c.w y o')(hk:autoParam (s.toks≤tk) apT):Rp c ⟨S.loc,cells'⟩ {s with heap:=h',toks:=tk}:=by
 have W9:=u.keys;have ha:a∈c.aC.map (λx=>x.1.locals)++S.cells.map (λx=>x.1):=aad _ (aat (f:=(λx=>x.1)) u.mem);have nd:=aaB.mp R.nd;have jK:=aaX.mp nd.2;let m hn hl:=ak R.ns;refine⟨λb o e=>(hs.2 b λq=>?_).trans (R.stays b o e),⟨m,hn.sameBut hs (λq=>nd.1 (q▸ha):c.L≠a),hl⟩,λf hf=>(R.aC f hf).sameBut hs λq=>jK.2.2 _ (aat hf) _ (aat (f:=(λx=>x.1)) u.mem) q,λp hp=>?_,?_,?_,R.kK,R.lk,R.gens,R.os,aaE R.tk hk⟩;rw[q,R.fresh a (.tail _ ha)]at e;cases e;let pre post e1 e2:=cI u.split;have kh:((pre++(a,x)::post).map (λx=>x.1)).Nodup:=e1▸jK.2.1;have gU:∀q∈pre++post,q.1≠a:=by intro q hq e;rw[aaj,aan]at kh;show(aaB.mp ((aaS.nodup_iff.mp kh))).1;rw[←aaj];exact e▸aat (f:=(λx=>x.1)) hq
 rw[e2]at hp;rcases aax.mp hp with hp|hp;let o lQ IL:=ak (R.cells p (by rw[e1];exact aaf _ hp));exact⟨o,(hs.2 _ (gU p (aaf _ hp))).trans lQ,IL⟩;rcases aai.mp hp with rfl|hp;exact⟨o',ho,hc⟩;let o lQ IL:=ak (R.cells p (by rw[e1];exact aad _ (.tail _ hp)));exact⟨o,(hs.2 _ (gU p (aad _ hp))).trans lQ,IL⟩;change∀b∈c.L::(c.aC.map (λx=>x.1.locals)++cells'.map (λx=>x.1)),_;rw[W9];exact R.fresh;change(c.L::(c.aC.map (λx=>x.1.locals)++cells'.map (λx=>x.1))).Nodup;rw[W9];exact R.nd
theorem Rp.drop{cells':Cells}(R:Rp c S s)(h:cells'.Sublist S.cells):Rp c ⟨S.loc,cells'⟩ s:=by have ui:(c.L::(c.aC.map (λx=>x.1.locals)++cells'.map (λx=>x.1))).Sublist (c.L::(c.aC.map (λx=>x.1.locals)++S.cells.map (λx=>x.1))):=(adY (ab0 _) (h.map _)).cons_cons _;exact⟨R.stays,R.ns,R.aC,λp hp=>R.cells p (h.subset hp),λa ha=>R.fresh a (ui.subset ha),R.nd.sublist ui,R.kK,R.lk,R.gens,R.os,R.tk⟩
theorem Rp.perm{cells':Cells}(R:Rp c S s)(h:cells'.Perm S.cells):Rp c ⟨S.loc,cells'⟩ s:=by have hp:(c.L::(c.aC.map (λx=>x.1.locals)++cells'.map (λx=>x.1))).Perm (c.L::(c.aC.map (λx=>x.1.locals)++S.cells.map (λx=>x.1))):=((agU _).append (h.map _)).cons _;exact⟨R.stays,R.ns,R.aC,λp hp=>R.cells p (h.subset hp),λa ha=>R.fresh a (hp.subset ha),hp.nodup_iff.mpr R.nd,R.kK,R.lk,R.gens,R.os,R.tk⟩
end
section
variable{c:Cx} {n:Nat} {S:SS} {E:EP}
theorem eZ{l':List (Str×Option AV)}{Q:Unit→SS→Prop}(hx:dA x (ab v) S.loc l')(h:Q () ⟨l',S.cells⟩):W c n S (storeName c.env x v) Q E:=.i λok X A s hA R=>by have el:=dA.eq R.kK hx;subst el;have hx:=hx.mem;let m hn hl:=ak R.ns;let hx hd:=eA (R.lk x hx);show agF (env:=c.env) hx (ok.eL.symm▸hn) (λh' Bc hs=>?_);rw[ok.eL]at Bc hs;exact⟨_,R.store hl Bc hs,h⟩;change(c.env.scope.kind== .class||(c.env.scope.kind== .module&&c.env.locals !=c.env.globals))=false;rw[ok.kind];rfl
theorem hZ{e:Expr}{Q:FL→SS→Prop}(h:EE c n S e (λv S'=>∃l',dA x v S'.loc l'∧Q .next ⟨l',S'.cells⟩) E)(hs:autoParam (ac6 e (some (.Name x p')) p.line c.env=pure false) apR):ES c n S (.Assign [.Name x p'] e p) Q E:=.i λok X A s hA R=>
 wpAny_Assign_Name (h.st ok X A s hA R λv s' S' R' h8=>ak h8 λl' k1 k2=>(eZ (Q:=λzz S'=>Q .next S') k1 k2).run ok X A s' hA R') hs
end
end
variable{c:Cx} {fS S' S:SS} {fv tk a0 po a10 a11 a12 a13 a14 a15 a16 a17 nl rn nf kL fi:AV} {fC cells' C D Z C':Cells} {Q:AV→SS→Prop} {o fs:Option AV} {l' loc r:List (Str×Option AV)} {ao:AO} {f:AV→AV→Bool} {kw es:List (Str×AV)} {fx:Fx} {xs ys as:List AV} {Qf:AV→Cells→Prop} {Ef:Value→Cells→Prop} {sl:List (Option AV)} {B:Cells→List (Str×Option AV)→Prop} {Cf:Nat→Cells} {Q':FL→SS→Prop} {cs:List (Str×Nat×Option AV)}
section
variable{k:Value} {P:Option Value→Prop} {Q:Unit→aas→Prop} {f:Addr} {args:List AV} {h₁:Heap}
section
variable{c:Cx} {n:Nat} {S:SS} {s:aas} {h':Heap} {tk:Nat}
theorem Rp.D5(ok:c.Ok)(R:Rp c S s):s.heap.FunFrames c.base c.outer:=by
 have key:∀l:List (Env×(Str→Option Value)),(∀f∈l,f∈c.aC)→s.heap.FunFrames c.base (l.map (λx=>x.1)):=by intro l;induction l with|nil=>intro _;trivial|cons f r ih=>intro hl;have hf:=hl f (.head _);let h1 h2:=eA (ok.aC f hf);let o es ep ho hd z5:=lV (R.aC f hf);exact⟨h2,(ba _ o ⟨h1,R.fresh _ (.tail _ (aaf _ (aat (f:=(λx=>x.1.locals)) hf))),ho,λvs q=>by rw[hd]at q;cases q⟩),ih λg hg=>hl g (.tail _ hg)⟩
 exact key c.aC λzz h=>h
theorem Rp.frames(ok:c.Ok)(hc:c.comp=false)(R:Rp c S s):s.heap.FunFrames c.base (c.env::c.outer):=by obtain⟨m,⟨o,es,ep,ho,hd,_⟩,_⟩:=R.ns;exact⟨by rw[ok.kind];decide,(ba c.L o ⟨ok.fr hc,R.fresh _ (.head _),ho,λvs q=>by rw[hd]at q;cases q⟩),R.D5 ok⟩
theorem Rp.oJ(R:Rp c S s){o:Obj}(ha:s.heap.get? a=some o)(hd:o.data= .fields vs):a≠c.L∧∀f∈c.aC,f.1.locals≠a:=by refine⟨λq=>?_,λf hf q=>?_⟩;obtain⟨m,⟨o',es,ep,ho,rJ,_⟩,_⟩:=R.ns;rw[q,ho]at ha;cases ha;rw[rJ]at hd;cases hd;let o' es ep ho rJ z5:=lV (R.aC f hf);rw[q]at ho;rw[ho]at ha;cases ha;rw[rJ]at hd;cases hd
def GR(c:Cx)(X:List Addr)(h h':Heap):Prop:=∀b o,b∉X→h.get? b=some o→∃sl,h'.get? b=some {o with slots:=sl}∧(b≠c.L→(∀f∈c.aC,f.1.locals≠b)→sl=o.slots)
theorem uj{h':Heap}(hn:h.Ns a m)(k:∀o,h.get? a=some o→∃sl,h'.get? a=some {o with slots:=sl}):h'.Ns a m:=by let o es ep ho hd r:=lV hn;let sl hs:=eE (k o ho);exact eY _ es ep ⟨hs,hd,r⟩
theorem Rp.xi{X:List Addr}(R:Rp c S s)(T:GR c X s.heap h')(hX:∀a∈X,c.base.get? a=none∧a∉S.cells.map (λx=>x.1)∧a≠c.L∧∀f∈c.aC,f.1.locals≠a)(hk:autoParam (s.toks≤tk) apT):Rp c S {s with heap:=h',toks:=tk}:=by
 have nd:=aaB.mp R.nd;let m hn hl:=ak R.ns;refine⟨λb o e=>?_,⟨m,uj hn λo ho=>?_,hl⟩,λf hf=>uj (R.aC f hf) λo ho=>?_,λp hp=>?_,R.fresh,R.nd,R.kK,R.lk,R.gens,R.os,aaE R.tk hk⟩;have hb:b∉X:=λq=>by rw[(hX b q).1]at e;cases e
 let sl h1 h2:=ak (T b o hb (R.stays b o e));have:=h2 (λq=>by rw[q,R.fresh c.L (.head _)]at e;cases e) (λf hf q=>by have:=R.fresh f.1.locals (.tail _ (aaf _ (aat (f:=(λx=>x.1.locals)) hf)));rw[q,e]at this;cases this);rw[h1,this];let sl h1 z2:=ak (T c.L o (λq=>(hX _ q).2.2.1 rfl) ho);exact⟨sl,h1⟩;let sl h1 z2:=ak (T _ o (λq=>(hX _ q).2.2.2 f hf rfl) ho);exact⟨sl,h1⟩;let o ho hc:=ak (R.cells p hp);let sl h1 h2:=ak (T p.1 o (λq=>(hX _ q).2.1 (aat (f:=(λx=>x.1)) hp)) ho);have:=h2 (λq=>nd.1 (q▸aad _ (aat (f:=(λx=>x.1)) hp))) (λf hf q=>(aaX.mp nd.2).2.2 _ (aat (f:=(λx=>x.1.locals)) hf) _ (aat (f:=(λx=>x.1)) hp) q);exact⟨o,by rw[h1,this],hc⟩
def rK(c:Cx)(k:Value)(e:Addr)(S:SS)(h:Heap)(P:Option Value→Prop):Prop:=c.base.get? e=none∧e∉S.cells.map (λx=>x.1)∧∃oe vs,h.get? e=some oe∧oe.cls=k∧oe.data= .fields vs∧∃T oT ts,vs[1]? =some (.ref T)∧c.base.get? T=none∧T≠e∧T∉S.cells.map (λx=>x.1)∧h.get? T=some oT∧oT.data= .fields ts∧3<ts.size∧P ts[3]?
theorem rK.Yo{e:Addr}(x:rK c k e S h P)(hP:∀v,P v→v=some .none∨v=some (abK c.L)):p9 c k e S h:=kg x λa b oe vs h1 h2 h3 T oT ts q1 q2 q3 q4 q5 q6 q7 q8=>⟨a,b,oe,vs,h1,h2,h3,.inr (eY T oT ts ⟨q1,q2,q3,q4,q5,q6,hP _ q8⟩)⟩
variable{M:Model} {A:ads} {E:Value→aas→Prop}
theorem oK{e:Addr}{oe:Obj}{head:Value}(ok:c.Ok)(yR:c.comp=false)(hA:A.frames=some c.frames)(R:Rp c S s)
  (GS:c.base.get? e=none) (Do:e∉S.cells.map (λx=>x.1)) (he:s.heap.get? e=some oe) (hk:oe.cls=k) (hd:oe.data= .fields vs) (ki:1<vs.size)
  (h:∀h',Rp c S {s with heap:=h'}→rK c k e S h' (λzz=>True)→Q () {s with heap:=h'}):
  wpAny M A (do let a←frameOf c.env;let pl←entryPlaceOf c.L b;let x←ahf head a .none (abK c.L) .none pl;ahP (.ref e) 1 x) Q E s:=by
 rw[Cx.dp yR]at hA
 refine aac (wpAny_frameOf_fun hA (R.frames ok yR) (ok.fr yR) λh₁ xj=>?_)
 refine aac (wpAny_entryPlaceOf λpl Ti=>?_)
 refine aac (abJ ?_ (Ti.sizeOk5 _ _ _ _ _))
 have W_:∀a,a∈(c.env::c.outer).filterMap (λx=>x.frame)→a=c.L∨∃f∈c.aC,f.1.locals=a:=by
  intro a ha
  rw[adZ]at ha
  rw[ok.fr yR]at ha
  rcases aai.mp ha with q|q
  ·exact .inl q
  ·refine ak (afj.mp q) λenv h1 h2=>?_
   refine ak (aaH.mp h1) λf hf r2=>?_
   obtain rfl:=r2
   exact .inr ⟨f,hf,aaJ ((ok.aC f hf).1.symm.trans h2)⟩
 have nf:=R.oJ he hd
 have Tj:e∉(c.env::c.outer).filterMap (λx=>x.frame):=λq=>by
  rcases W_ e q with q|⟨f,hf,q⟩
  ·exact nf.1 q
  ·exact nf.2 f hf q
 have GT:h₁.get? e=some oe:=(xj.2.1 e Tj).trans he
 have qI:=aap (h:=h₁) {cls:=.type "traceback",dict:=none,data:=.fields ([head,.ref c.L,.none,abK c.L,.none]++(if pl.isEmpty then afk 6 aa6 else pl)).toArray} GT
 refine acW qI hd ki ?_
 have GU:h₁.objs.size≠e:=abG (aa3 GT)
 have GV:=adt hd (·.setIfInBounds 1 (abQ h₁.objs.size))
 have OH:=(abp (h₁.push {cls:=.type "traceback",dict:=none,data:=.fields ([head,.ref c.L,.none,abK c.L,.none]++(if pl.isEmpty then afk 6 aa6 else pl)).toArray})
  (acD (·.setIfInBounds 1 (abQ h₁.objs.size))) (aeR GU)).trans (aaG h₁ rfl)
 have GW:h₁.objs.size=s.heap.objs.size:=xj.1
 have lts:∀a∈c.L::(c.aC.map (λx=>x.1.locals)++S.cells.map (λx=>x.1)),a≠h₁.objs.size:=λa ha=>by
  rw[GW];exact abf (R.lt a ha)
 have nT:c.base.get? h₁.objs.size=none:=by
  rw[GW];exact R.stays.fresh
 have T:GR c [e] s.heap ((h₁.push {cls:=.type "traceback",dict:=none,data:=.fields ([head,.ref c.L,.none,abK c.L,.none]++(if pl.isEmpty then afk 6 aa6 else pl)).toArray}).update e (acD (·.setIfInBounds 1 (abQ h₁.objs.size)))):=λb o Yp hb=>by
  have Tk:b≠e:=λq=>Yp (q▸.head _)
  refine eE (xj.2.2 b o hb) λsl yS=>?_
  refine⟨sl,?_,λq1 q2=>?_⟩
  ·rw[abp _ _ (aeR Tk)]
   exact aap _ yS
  ·have Tl:b∉(c.env::c.outer).filterMap (λx=>x.frame):=λq=>by
    rcases W_ b q with z|⟨f,hf,z⟩
    ·exact q1 z
    ·exact q2 f hf z
   have:=xj.2.1 b Tl
   rw[hb,yS]at this
   exact congrArg Obj.slots (aaJ this)
 refine h _ (R.xi T λa ha=>?_) ⟨GS,Do,_,_,(abl (acD (·.setIfInBounds 1 (abQ h₁.objs.size))) qI (adF GV)),(ahQ _ _).trans hk,GV,h₁.objs.size,_,_,by simp[ki],nT,GU,λq=>?_,OH,rfl,?_,trivial⟩
 ·obtain rfl:a=e:=by simpa using ha
  exact⟨GS,Do,nf.1,nf.2⟩
 ·exact lts _ (.tail _ (aad _ q)) rfl
 ·simp only[acJ,aar,aaF,ady];exact abU (aa2 _)
theorem Bd{e:Addr}(ok:c.Ok)(yR:c.comp=false)(hA:A.frames=some c.frames)(R:Rp c S s)(F:p9 c k e S s.heap)
  (h:∀h',Rp c S {s with heap:=h'}→rK c k e S h' (λzz=>True)→Q () {s with heap:=h'}):
  wpAny M A (ael (.ref e) c.env) Q E s:=by
 refine t7 F λGS Do oe vs he hk hd hF=>?_
 unfold ael
 rw[ok.fr yR]
 change wpAny M A (do
  let head←field (.ref e) 1
  if head != .none then
   if(←field head 3)==abK c.L then return
   ahP head 3 .none
  ahP (.ref e) 1 (←ahf head (←frameOf c.env) .none (abK c.L) .none (←entryPlaceOf c.L (head != .none)))) _ _ _
 rcases hF with h1|⟨T,oT,ts,h1,OI,GU,OJ,hT,D6,h3⟩
 ·refine aac (acq he hd h1 ?_)
  with_reducible refine qF '2' ?_
  exact oK ok yR hA R GS Do he hk hd (abH.mp h1).1 h
 ·refine aac (acq he hd h1 ?_)
  with_reducible refine II (show(abQ T !=aa6)=true from by simp) ?_
  rcases h3 with h3|h3
  ·refine aac (acq hT D6 h3 ?_)
   with_reducible refine qF (show¬((aa6==abK c.L)=true)from by simp[abK]) ?_
   refine aac (acW hT D6 (abH.mp h3).1 ?_)
   have other:∀b,b≠T→(s.heap.update T (acD (·.setIfInBounds 3 aa6))).get? b=s.heap.get? b:=λb hb=>abp _ _ (aeR hb)
   have nf:=R.oJ hT D6
   have R':Rp c S {s with heap:=s.heap.update T (acD (·.setIfInBounds 3 aa6))}:=R.xi (X:=[T]) (λb o hb OK=>⟨o.slots,(other b λq=>hb (q▸.head _)).trans OK,λzz zz=>rfl⟩) λa ha=>by
    obtain rfl:a=T:=by simpa using ha
    exact⟨OI,OJ,nf.1,nf.2⟩
   exact oK (s:={s with heap:=s.heap.update T (acD (·.setIfInBounds 3 aa6))}) ok yR hA R' GS Do ((other e (aeR GU)).trans he) hk hd (abH.mp h1).1 h
  ·refine aac (acq hT D6 h3 ?_)
   with_reducible refine II (show(abK c.L==abK c.L)=true from by simp) ?_
   exact aal (h s.heap R ⟨GS,Do,oe,vs,he,hk,hd,T,oT,ts,h1,OI,GU,OJ,hT,D6,(abH.mp h3).1,trivial⟩)
theorem oL{e:Addr}(fl:Option Addr)(R:Rp c S s)(F:rK c k e S s.heap P)(h:∀h',Rp c S {s with heap:=h'}→rK c k e S h' (·=some (fl.elim aa6 λf=>abK f))→Q () {s with heap:=h'}):wpAny M A (ah7 (.ref e) fl) Q E s:=by
 obtain⟨GS,Do,oe,vs,he,hk,hd,T,oT,ts,h1,OI,GU,OJ,hT,D6,h3,_⟩:=F;refine aac (acq he hd h1 ?_);with_reducible refine II (show(abQ T !=aa6)=true from by simp) ?_
 show acW hT D6 h3;have other:∀b,b≠T→(s.heap.update T (acD (·.setIfInBounds 3 (fl.elim aa6 λf=>abK f)))).get? b=s.heap.get? b:=λb hb=>abp _ _ (aeR hb);have nf:=R.oJ hT D6;have IM:=adt D6 (·.setIfInBounds 3 (fl.elim aa6 λf=>abK f));refine h _ (R.xi (X:=[T]) (λb o hb OK=>⟨o.slots,(other b λq=>hb (q▸.head _)).trans OK,λzz zz=>rfl⟩) λa ha=>?_) ⟨GS,Do,oe,vs,(other e (aeR GU)).trans he,hk,hd,T,_,_,h1,OI,GU,OJ,abl _ hT (adF IM),IM,by simpa using h3,by simp[h3]⟩;obtain rfl:a=T:=by simpa using ha
 exact⟨OI,OJ,nf.1,nf.2⟩
theorem jz{e:Addr}(ok:c.Ok)(yR:c.comp=false)(hA:A.frames=some c.frames)(R:Rp c S s)(F:p9 c k e S s.heap)(h:∀h',Rp c S {s with heap:=h'}→rK c k e S h' (·=some .none)→Q () {s with heap:=h'}):wpAny M A (ael (.ref e) c.env) (λzz s'=>wpAny M A (ah7 (.ref e) none) Q E s') E s:=
 Bd ok yR hA R F λh1 R1 F1=>oL none R1 F1 λh2 R2 F2=>h h2 R2 F2
theorem oM{e:Addr}{X:Value→aas→Prop}(ok:c.Ok)(yR:c.comp=false)(hA:A.frames=some c.frames)(R:Rp c S s)(F:p9 c k e S s.heap)
  (h:∀s',Rp c S s'→p9 c k e S s'.heap→X (.ref e) s'):aiB M A c.env (ahw M A c.env X) (.ref e) s:=by
 refine Bd ok yR hA R F λh1 R1 F1=>?_
 change wpAny M A (do
  if(←field (.ref e) 1)== .none then unsupported "frame.own-activation:exception-without-traceback"
  ah7 (.ref e) c.env.frame) _ _ _
 rw[ok.fr yR]
 refine rA F1 λq1 q2 oe vs he hk hd T oT ts h1 r=>?_
 refine aac (acq he hd h1 ?_)
 with_reducible refine qF (show¬((abQ T==aa6)=true)from by simp) ?_
 refine oL (P:=λzz=>True) (some c.L) R1 ⟨q1,q2,oe,vs,he,hk,hd,T,oT,ts,h1,r⟩ λh2 R2 F2=>?_
 exact h _ R2 (F2.Yo λv q=>.inr q)
end
def FC(K0:aao→Frag)(n:Nat)(f:Addr)(args:List AV)(kw:List (Str×AV))(C:Cells)(Q:AV→Cells→Prop)(E:Value→Cells→Prop):Prop:=
 ∀(c:Cx) (S:SS),c.K=K0 c.w.params→c.hd=none→S.cells=C→∀(pos:List Value) (kws:List (Str×Value)),pos.map ab=args→kws.map (λp=>(p.1,ab p.2))=kw→
  c.Ok→∀X A s,c.In A n→Rp c (S.ext X) s→ad9 (model prog c.w) A (.call (.ref f) ⟨pos,kws⟩) (λr s'=>match r with
   | .ok (.ret v)=>QX c X (λv S'=>S'.loc=S.loc∧Q (ab v) S'.cells) v s'
   | .ok _=>False
   | .error x=>EX c X (λk S'=>S'.loc=S.loc∧E k S'.cells) x s') s
theorem FC.any{K0:aao→Frag}{n:Nat}{X:Cells}{Q:AV→Cells→Prop}{E:Value→Cells→Prop}(F:FC K0 n f args kw C Q E){c:Cx}{S:SS}(hK:c.K=K0 c.w.params)(hd:c.hd=none)(hC:S.cells=C){pos:List Value}(hp:pos.map ab=args) (v7:kws.map (λp=>(p.1,ab p.2))=kw) (ok:c.Ok) {A:ads} {s:aas} (hA:c.In A n) (R:Rp c (S.ext X) s) (k:∀v s' C',Rp c ((⟨S.loc,C'⟩:SS).ext X) s'→Q (ab v) C'→RR (.ok (.ret v)) s')(ke:∀e q s' C',p9 c q e ((⟨S.loc,C'⟩:SS).ext X) s'.heap→Rp c ((⟨S.loc,C'⟩:SS).ext X) s'→E q C'→RR (.error (.ref e)) s'):ad9 (model prog c.w) A (.call (.ref f) ⟨pos,kws⟩) RR s:=adu (F c S hK hd hC pos kws hp v7 ok X A s hA R) λr s' h=>by
 cases r with
 |ok f=>
  cases f with
  |ret v=>obtain⟨⟨l,C'⟩,h1,h2,h3⟩:=h;cases h2;exact k v s' C' h1 h3
  |_=>exact h.elim
 |error x=>obtain⟨e,q,⟨l,C'⟩,rfl,h2,h3,h4,h5⟩:=h;cases h4;exact ke e q s' C' h2 h3 h5
theorem FC.W{K0:aao→Frag}{n:Nat}{Q:AV→Cells→Prop}{E:Value→Cells→Prop}(F:FC K0 n f args kw C Q E){c:Cx}{S:SS}(hK:c.K=K0 c.w.params)(hd:c.hd=none)(hC:S.cells=C){pos:List Value}(hp:pos.map ab=args) (v7:kws.map (λp=>(p.1,ab p.2))=kw):Mine.W c n S (call (.ref f) pos kws) (λv S'=>S'.loc=S.loc∧Q (ab v) S'.cells) (λk S'=>S'.loc=S.loc∧E k S'.cells):=.i λok X A s hA R=>abI (F.any hK hd hC hp v7 ok hA R (λv s' C' h1 h2=>⟨_,h1,rfl,h2⟩) λe q s' C' h2 h3 h5=>⟨e,q,_,rfl,h2,h3,rfl,h5⟩)
def Cx.enter(c:Cx)(fx:Fx)(m:Str→Option Value)(L:Addr):Cx:={c with aC:=(match c.comp with|true=>c.aC|false=>(c.env,m)::c.aC),L:=L,fx:=fx,env:=envX fx.cn fx.cs L fx.a fx.cd [],comp:=false}
structure cy(K:Frag)(fx:Fx)(fd:aaP)(body:List Stmt):Prop where
 obj:∃oc od osl,K.lookup fx.a=some ⟨oc,od,.func fd,osl⟩
 code:codeIn K fd.code fd.qualname=true
 qual:fd.qualname=fx.cn
 cs:fd.scope=fx.cs
 cd:fd.code=fx.cd
 glob:fd.globals=ab9
 rL:fd.closure=[]
 v8:fd.builtins=abg
 body:fd.body= .stmts body
 co:fd.scope.isCoroutine=false
 gen:fd.scope.isGenerator=false
 kind:fd.scope.kind= .function
 cells:∀x∈fd.scope.names,x.2≠.cell
structure e7(fx:Fx)(binds:List (Str×Value))(loc:List (Str×Option AV)):Prop where
 nd:(loc.map (λx=>x.1)).Nodup
 kinds:∀x∈loc.map (λx=>x.1),fx.cs.names.lookup x=some .local∧(x==("__debug__":Str))=false
 kb:∀y∈binds,fx.cs.names.lookup y.1=some .local
 vals:∀p∈loc,(binds.reverse.lookup p.1).map ab=p.2
def bH(K:Frag)(fx:Fx):Prop:=∀p∈fx.gl,fx.cs.names.lookup p.1=some .globalImplicit∧(p.1==("__debug__":Str))=false∧(nsIn K ab9 p.1=some (some p.2)∨(nsIn K ab9 p.1=some none∧ae8 p.1=some p.2∧p.1≠"__name__"))
theorem Cx.jg{c:Cx}{K0:aao→Frag}(ok:c.Ok)(hK:c.K=K0 c.w.params)(gl:∀P,bH (K0 P) fx)(hk:fx.cs.kind= .function)(hL:c.base.objs.size≤L):(c.enter fx m L).Ok where
 eH:=ok.eH
 eL:=rfl
 eg:=rfl
 eb:=rfl
 kind:=hk
 fr:=λzz=>rfl
 above:=hL
 aC:=λf hf=>by
  unfold Cx.enter at hf
  cases hc:c.comp with
  |true=>rw[hc]at hf;exact ok.aC f hf
  |false=>
   rw[hc]at hf
   rcases aai.mp hf with rfl|hf
   ·exact⟨(ok.fr hc).trans (congrArg some ok.eL.symm),by rw[ok.kind];decide⟩
   ·exact ok.aC f hf
 gl:=λp hp=>by
  refine pX (gl c.w.params p hp) λh1 h2 h3=>?_
  refine⟨h1,h2,h3.imp (λq=>mg_of ok.eH.fg ok.eH.g (hK▸q)) λh8=>pX h8 λa b d=>⟨aiE ok.eH.fg ok.eH.g (hK▸a),b,d⟩⟩
def Cx.kept(c:Cx)(m:Str→Option Value)(X:Cells):Cells:=match c.comp with
 |true=>(c.L,.v4 m)::X
 |false=>X
theorem Cx.e8(c:Cx)(fx:Fx)(m:Str→Option Value)(L:Addr):(c.enter fx m L).outer=c.frames:=by delta Cx.outer Cx.enter Cx.frames;cases c.comp<;>rfl
theorem Rp.enter{c:Cx}{S:SS}{X:Cells}{s:aas}{m':Str→Option Value}{tk:Nat}(ok:c.Ok)(R:Rp c (S.ext X) s)(hn:s.heap.Ns c.L m)(hk:∀b o,s.heap.get? b=some o→h₁.get? b=some o)(lR:h₁.Ns s.heap.objs.size m') (hv:∀p∈loc,(m' p.1).map ab=p.2) (nd:(loc.map (λx=>x.1)).Nodup) (kinds:∀x∈loc.map (λx=>x.1),fx.cs.names.lookup x=some .local∧(x==("__debug__":Str))=false) (iR:s.toks≤tk):Rp (c.enter fx m s.heap.objs.size) (SS.ext ⟨loc,S.cells⟩ (c.kept m X)) {s with heap:=h₁,toks:=tk}:=by
 have xk:c.base.get? s.heap.objs.size=none:=R.stays.fresh;have D7:∀a∈c.L::(c.aC.map (λx=>x.1.locals)++(S.ext X).cells.map (λx=>x.1)),a≠s.heap.objs.size:=λa ha=>abf (R.lt a ha);cases hc:c.comp with
 |false=>have e1:(c.enter fx m s.heap.objs.size).aC=(c.env,m)::c.aC:=(by unfold Cx.enter;rw[hc]);have e2:c.kept m X=X:=(by unfold Cx.kept;rw[hc]);rw[e2];refine⟨λb o e=>hk b o (R.stays b o e),⟨m',lR,hv⟩,λf hf=>?_,λp hp=>?_,λa ha=>?_,?_,nd,kinds,R.gens,R.os,aaE R.tk iR⟩;rw[e1]at hf;rcases aai.mp hf with rfl|hf;rw[ok.eL];exact hn.keeps hk;exact(R.aC f hf).keeps hk;let o ho hc:=ak (R.cells p hp);exact⟨o,hk _ _ ho,hc⟩;rw[e1,aan,ok.eL]at ha;rcases aai.mp ha with rfl|ha;exact xk;exact R.fresh a ha;rw[e1,aan,ok.eL];exact aaB.mpr ⟨λq=>D7 _ q rfl,R.nd⟩
 |true=>have e1:(c.enter fx m s.heap.objs.size).aC=c.aC:=(by unfold Cx.enter;rw[hc]);have pm:(c.aC.map (λx=>x.1.locals)++(S.cells++(c.L,AO.v4 m)::X).map (λx=>x.1)).Perm (c.L::(c.aC.map (λx=>x.1.locals)++(S.ext X).cells.map (λx=>x.1))):=(by rw[aaj,aan,aaj];exact(acY _ aaS).trans aaS);rw[(by unfold Cx.kept;rw[hc]:c.kept m X=(c.L,.v4 m)::X)];refine⟨λb o e=>hk b o (R.stays b o e),⟨m',lR,hv⟩,λf hf=>?_,λp hp=>?_,λa ha=>?_,?_,nd,kinds,R.gens,R.os,aaE R.tk iR⟩;rw[e1]at hf;exact(R.aC f hf).keeps hk;rcases aax.mp hp with hp|hp;let o ho hc:=ak (R.cells p (aaf _ hp));exact⟨o,hk _ _ ho,hc⟩;rcases aai.mp hp with rfl|hp;let o es ep ho hd r:=lV hn;exact⟨o,hk _ _ ho,es,ep,hd,r⟩;let o ho hc:=ak (R.cells p (aad _ hp));exact⟨o,hk _ _ ho,hc⟩;rw[e1]at ha;rcases aai.mp ha with rfl|ha;exact xk;exact R.fresh a (pm.subset ha);rw[e1];exact aaB.mpr ⟨λq=>D7 _ (pm.subset q) rfl,pm.nodup_iff.mpr R.nd⟩
theorem Rp.back{c:Cx}{S:SS}{X:Cells}{s:aas}(ok:c.Ok)(R:Rp c (S.ext X) s)(hm:∀p∈S.loc,(m p.1).map ab=p.2)(R2:Rp (c.enter fx m L) (S'.ext (c.kept m X)) s'):Rp c (SS.ext ⟨S.loc,S'.cells⟩ X) s':=by have jK:=aaB.mp R2.nd;cases hc:c.comp with|false=>have e1:(c.enter fx m L).aC=(c.env,m)::c.aC:=(by unfold Cx.enter;rw[hc]);have e2:c.kept m X=X:=(by unfold Cx.kept;rw[hc]);rw[e2]at R2 jK;have hs:=R2.aC;have hf:=R2.fresh;rw[e1]at hs hf jK;rw[aan,ok.eL]at hf jK;exact⟨R2.stays,⟨m,ok.eL▸hs (c.env,m) (.head _),hm⟩,λf hf=>hs f (.tail _ hf),R2.cells,λa ha=>hf a (.tail _ ha),jK.2,R.kK,R.lk,R2.gens,R2.os,R2.tk⟩|true=>have e1:(c.enter fx m L).aC=c.aC:=(by unfold Cx.enter;rw[hc]);have e2:c.kept m X=(c.L,.v4 m)::X:=(by unfold Cx.kept;rw[hc]);rw[e2]at R2 jK;have hs:=R2.aC;have hf:=R2.fresh;rw[e1]at hs hf jK;have pm:(c.aC.map (λx=>x.1.locals)++(S'.cells++(c.L,AO.v4 m)::X).map (λx=>x.1)).Perm (c.L::(c.aC.map (λx=>x.1.locals)++(SS.ext ⟨S.loc,S'.cells⟩ X).cells.map (λx=>x.1))):=(by rw[aaj,aan,aaj];exact(acY _ aaS).trans aaS);let o ho es ep hd r:=gS (R2.cells (c.L,.v4 m) (aad _ (.head _)));refine⟨R2.stays,⟨m,(eY o es ep ⟨ho,hd,r⟩),hm⟩,hs,λp hp=>?_,λa ha=>hf a (.tail _ (pm.symm.subset ha)),pm.nodup_iff.mp jK.2,R.kK,R.lk,R2.gens,R2.os,R2.tk⟩;rcases aax.mp hp with hp|hp;exact R2.cells p (aaf _ hp);exact R2.cells p (aad _ (.tail _ hp))
theorem p9.back{c:Cx}{X:Cells}{e:Addr}(F:rK (c.enter fx m L) k e (S'.ext (c.kept m X)) h (·=some .none)):p9 c k e (SS.ext ⟨loc,S'.cells⟩ X) h:=by
 obtain⟨q1,q2,oe,vs,q3,q4,q5,T,oT,ts,z1,z2,z3,z4,z5,z6,z7,z8⟩:=F;have sub:∀a,a∈(SS.ext ⟨loc,S'.cells⟩ X).cells.map (λx=>x.1)→a∈(S'.ext (c.kept m X)).cells.map (λx=>x.1):=λa ha=>by let p hp r2:=ak (aaH.mp ha);subst r2;show aat;rcases aax.mp hp with hp|hp;exact aaf _ hp;show aad _;unfold Cx.kept;cases c.comp;exact hp;exact .tail _ hp
 exact⟨q1,λq=>q2 (sub _ q),oe,vs,q3,q4,q5,.inr (eY T oT ts ⟨z1,z2,z3,λq=>z4 (sub _ q),z5,z6,.inl z8⟩)⟩
theorem FC.introE{K0:aao→Frag}{n:Nat}{Q:AV→Cells→Prop}{E:Value→Cells→Prop}{fd:aao→aaP}(hf:∀P,cy (K0 P) fx (fd P) body) (gl:∀P,bH (K0 P) fx)(hb:∀(s:aas) (P:aao),(K0 P).In s.heap→∀pos kws,pos.map ab=args→kws.map (λp=>(p.1,ab p.2))=kw→∃binds,ac9 s (fd P) ⟨pos,kws⟩ binds∧e7 fx binds loc)(h:∀c:Cx,c.K=K0 c.w.params→c.hd=none→c.fx=fx→c.comp=false→c.env=envX fx.cn fx.cs c.L fx.a fx.cd []→EB c n ⟨loc,C⟩ body (λf S'=>match f with| .ret v=>Q v S'.cells| .next=>Q .none S'.cells|_=>False) (λk S'=>E k S'.cells)):FC K0 (n+1) fx.a args kw C Q E:=by
 intro c S hK hd hC pos kws hp v7 ok X A s hA R;have F:=hf c.w.params;have fg:(K0 c.w.params).In s.heap:=λa o e=>R.stays a o (ok.eH.fg a o (hK▸e));let binds hB hl:=ak (hb s c.w.params fg pos kws hp v7);let oc od osl ho:=vS F.obj;let h1 h2 h3 h4:=jc hA;let m hn hm:=ak R.ns;refine codeAny_call_def (fd:=fd c.w.params) (body:=body) (binds:=binds) (by exact Lf h3) (fg _ _ ho) rfl (ok.eH.lim.keeps R.stays) (agn fg F.code) F.body hB F.cells (λx hx=>F.cs▸hl.kb x hx) (λh₁ lR OL=>?_) F.co F.gen F.kind;have envE:callEnv (fd c.w.params) s.heap.objs.size fx.a=(c.enter fx m s.heap.objs.size).env:=by delta callEnv ahx;simp only[F.cs,F.glob,F.rL,F.qual,F.cd,F.v8];rfl
 rw[envE];have Dp:=Cx.jg (m:=m) (L:=s.heap.objs.size) ok hK gl (F.cs▸F.kind) (aaN (aaC ok.above hn.lt):c.base.objs.size≤s.heap.objs.size);subst hC;have qJ:(c.enter fx m s.heap.objs.size).In (A.deeper (c.enter fx m s.heap.objs.size).env) n:=by refine⟨?_,h2,?_,?_⟩;change A.frames.map _=_;rw[h1,Cx.dp (c:=c.enter fx m s.heap.objs.size) rfl,Cx.e8];rfl;change A.depth+1+n<_;exact Rq h3;change A.units+3+8*n<_;exact Si h4
 refine aau ((h (c.enter fx m s.heap.objs.size) hK hd rfl rfl rfl).run Dp _ _ _ qJ (R.enter (fx:=fx) (m':=λx=>binds.reverse.lookup x) (h₁:=h₁) (tk:=s.toks+binds.length) ok hn OL lR hl.vals hl.nd hl.kinds (aa5 _ _))) (λf s' h8=>h8.el λS' R2 k=>?_) λx s' h8=>h8.el λe k S' hx hF R2 hE=>?_
 ·cases f with|ret v=>exact⟨_,R.back ok hm R2,rfl,k⟩|next=>exact⟨_,R.back ok hm R2,rfl,k⟩|brk=>exact k.elim|cont=>exact k.elim
 subst hx;refine aac (jz Dp rfl qJ.1 R2 hF λh2 R3 F3=>?_);exact⟨e,k,⟨S.loc,S'.cells⟩,rfl,p9.back (loc:=S.loc) F3,R.back ok hm R3,rfl,hE⟩
theorem FC.intro{K0:aao→Frag}{n:Nat}{Q:AV→Cells→Prop}{E:Value→Cells→Prop}{fd:aao→aaP}(hf:∀P,cy (K0 P) fx (fd P) body) (gl:∀P,bH (K0 P) fx)(hb:∀(s:aas) (P:aao),(K0 P).In s.heap→∀pos kws,pos.map ab=args→kws.map (λp=>(p.1,ab p.2))=kw→∃binds,ac9 s (fd P) ⟨pos,kws⟩ binds∧e7 fx binds loc)(h:∀c:Cx,c.K=K0 c.w.params→c.hd=none→c.fx=fx→c.comp=false→EB c n ⟨loc,C⟩ body (λf S'=>match f with| .ret v=>Q v S'.cells| .next=>Q .none S'.cells|_=>False) (λk S'=>E k S'.cells)):FC K0 (n+1) fx.a args kw C Q E:=FC.introE hf gl hb λc h1 h2 h3 h4 zz=>h c h1 h2 h3 h4
end
section
variable{Q:Bool→SS→Prop} {l:List Expr} {r e':Expr} {op:BoolOp}
section
variable{c:Cx} {n:Nat} {S:SS} {α β:Type} {E E':EP}
theorem W.operate{vs:List Value}{Q:Value→SS→Prop}(h:W c n S t Q E):W c n S (operate vs t) Q E:=.i λok X A s hA R Γ p hΓ=>by rw[Sem.wp_operate];exact h.run ok X A s hA R Γ p hΓ
theorem W.lookup{t:Sem α}{a:α}{Q:α→SS→Prop}(h:Q a S)(l:c.Ok→∀h,c.base.StaysIn h→Looks (model prog c.w) h t a):W c n S t Q E:=.i λok X A s hA R=>(l ok s.heap R.stays).here ⟨S,R,h⟩
def BO(c:Cx)(n:Nat)(S:SS)(op:ad4)(a b:AV)(Q:AV→SS→Prop)(E:EP):Prop:=∀v w,ab v=a→ab w=b→W c n S (binaryOp op v w) (λr=>Q (ab r)) E
def IO(c:Cx)(n:Nat)(S:SS)(op:ad4)(a b:AV)(Q:AV→SS→Prop)(E:EP):Prop:=∀v w,ab v=a→ab w=b→W c n S (inplaceOp op v w) (λr=>Q (ab r)) E
def CO(c:Cx)(n:Nat)(S:SS)(op:CmpOp)(a b:AV)(Q:AV→SS→Prop)(E:EP):Prop:=∀v w,ab v=a→ab w=b→W c n S (compareOp op v w) (λr=>Q (ab r)) E
def TR(c:Cx)(n:Nat)(S:SS)(a:AV)(Q:Bool→SS→Prop)(E:EP):Prop:=∀v,ab v=a→W c n S (truthy v) Q E
def bM(c:Cx)(n:Nat)(S:SS)(f:AV)(as:List AV)(Q:AV→SS→Prop)(E:EP):Prop:=∀v vs,ab v=f→vs.map ab=as→W c n S (call v vs) (λr=>Q (ab r)) E
def EA(c:Cx)(n:Nat)(S:SS)(l:List Expr)(Q:List AV→SS→Prop)(E:EP):Prop:=∀pos,W c n S (spliced (aeg pos (aci l c.env))) (λvs=>Q (vs.map ab)) E
theorem Be{l:Expr}{op:ad4}{Q:AV→SS→Prop}(h:EE c n S l (λa S1=>EE c n S1 r (λb S2=>BO c n S2 op a b Q E) E) E):EE c n S (.BinOp l op r p) Q E:=.i λok X A s hA R=>wpAny_BinOp (h.st ok X A s hA R λv s1 S1 R1 h1=>h1.st ok X A s1 hA R1 λw s2 S2 R2 h2=>(h2 v w rfl rfl).run ok X A s2 hA R2)
theorem IP{l:Expr}{op:CmpOp}{Q:AV→SS→Prop}(h:EE c n S l (λa S1=>EE c n S1 r (λb S2=>CO c n S2 op a b Q E) E) E)(hm:autoParam (afM op r=false) apR):EE c n S (.Compare l [op] [r] p) Q E:=.i λok X A s hA R=>wpAny_Compare1 (h.st ok X A s hA R λv s1 S1 R1 h1=>h1.st ok X A s1 hA R1 λw s2 S2 R2 h2=>(h2 v w rfl rfl).run ok X A s2 hA R2) hm
theorem Bf{l:Expr}{op:CmpOp}(h:EE c n S l (λa S1=>EE c n S1 r (λb S2=>CO c n S2 op a b (λt S3=>TR c n S3 t Q E) E) E) E)(hm:autoParam (afM op r=false) apR):ET c n S (.Compare l [op] [r] p) Q E:=.i λok X A s hA R=>wpAny_isTrue_Compare1 (h.st ok X A s hA R λv s1 S1 R1 h1=>h1.st ok X A s1 hA R1 λw s2 S2 R2 h2=>aau ((h2 v w rfl rfl).run ok X A s2 hA R2) (λt s3 Tm=>by obtain⟨S3,R3,h3⟩:=Tm;exact(h3 t rfl).run ok X A s3 hA R3) λzz zz x=>x) hm
def xl:Expr→Bool
 | .Name .. | .Call .. | .Attribute .. | .Subscript .. | .Constant .. =>true
 |_=>false
theorem v9{e:Expr}(h:EE c n S e (λa S1=>TR c n S1 a Q E) E)(he:autoParam (xl e=true) apR):ET c n S e Q E:=.i λok X A s hA R=>wpAny_isTrue_value (h.st ok X A s hA R λv s1 S1 R1 h1=>(h1 v rfl).run ok X A s1 hA R1) (by cases e<;>first|rfl|cases he)
theorem IQ{e:Expr}(h:ET c n S e (λb S1=>Q (!b) S1) E):ET c n S (.UnaryOp .Not e p) Q E:=by unfold ET;rw[arm_isTrue_UnaryOp];exact W.bind (h.az λb S1 k=>W.pure k)
theorem nA(h:Q true S):W c n S (aeS .And [] c.env) Q E:=W.pure h
theorem uk{e:Expr}(h:ET c n S e (λb S1=>if b=true then W c n S1 (aeS .And l c.env) Q E else Q false S1) E):W c n S (aeS .And (e::l) c.env) Q E:=by rw[arm_allTrue_cons];refine W.bind (h.az λb S1 k=>?_);cases b;exact W.pure k;exact k
theorem oN(h:Q false S):W c n S (aeS .Or [] c.env) Q E:=W.pure h
theorem v_{e:Expr}(h:ET c n S e (λb S1=>if b=true then Q true S1 else W c n S1 (aeS .Or l c.env) Q E) E):W c n S (aeS .Or (e::l) c.env) Q E:=by rw[arm_allTrue_cons];refine W.bind (h.az λb S1 k=>?_);cases b;exact k;exact W.pure k
theorem D8(h:W c n S (aeS op l c.env) Q E):ET c n S (.BoolOp op l p) Q E:=by unfold ET;rw[arm_isTrue_BoolOp];exact h
theorem oO{e:Expr}{Q:AV→SS→Prop}(h:EE c n S e Q E):W c n S (ahy p op (afl [e] c.env)) (λv=>Q (ab v)) E:=h
theorem wa{e:Expr}{Q:AV→SS→Prop}(h:EE c n S e (λa S1=>TR c n S1 a (λb S2=>if b=true then W c n S2 (ahy p .And (afl (e'::l) c.env)) (λv=>Q (ab v)) E else Q a S2) E) E):W c n S (ahy p .And (afl (e::e'::l) c.env)) (λv=>Q (ab v)) E:=by
 change W c n S (do let v←eval e c.env;agl p;let t←ahO [v] (truthy v);match BoolOp.And,t with| .And,false| .Or,true=>pure v|_,_=>ahy p .And (afl (e'::l) c.env)) _ _
 refine W.bind (h.az λv S1 k=>W.bind (W.standAt (W.bind (W.holding ((k v rfl).az λb S2 k2=>?_)))))
 cases b
 ·exact W.pure k2
 ·exact k2
theorem yT{e:Expr}{Q:AV→SS→Prop}(h:EE c n S e (λa S1=>TR c n S1 a (λb S2=>if b=true then Q a S2 else W c n S2 (ahy p .Or (afl (e'::l) c.env)) (λv=>Q (ab v)) E) E) E):W c n S (ahy p .Or (afl (e::e'::l) c.env)) (λv=>Q (ab v)) E:=by
 change W c n S (do let v←eval e c.env;agl p;let t←ahO [v] (truthy v);match BoolOp.Or,t with| .And,false| .Or,true=>pure v|_,_=>ahy p .Or (afl (e'::l) c.env)) _ _
 refine W.bind (h.az λv S1 k=>W.bind (W.standAt (W.bind (W.holding ((k v rfl).az λb S2 k2=>?_)))))
 cases b
 ·exact k2
 ·exact W.pure k2
theorem wb{Q:AV→SS→Prop}(h:W c n S (ahy p op (afl l c.env)) (λv=>Q (ab v)) E):EE c n S (.BoolOp op l p) Q E:=h
theorem Bg{t b o:Expr}{Q:AV→SS→Prop}(h:ET c n S t (λx S1=>if x=true then EE c n S1 b Q E else EE c n S1 o Q E) E):EE c n S (.IfExp t b o p) Q E:=by unfold EE;rw[arm_eval_IfExp];refine W.bind (h.az λx S1 k=>?_);cases x<;>exact k
theorem bj(h:Q b S):TR c n S (.bool b) Q E:=λv hv=>.i λok X A s hA R=>by rw[gr hv];exact adI ⟨S,R,h⟩
end
end
section
variable{x y:Int} {s:aas} {a:String} {r:Bool} {l:List Expr}
section
variable{c:Cx} {n:Nat} {S:SS} {α β:Type} {E E':EP}
theorem yU(h:Q (.bool (x==y)) S):CO c n S .Eq (.int x) (.int y) Q E:=λv w hv hw=>W.of λok X A s hA R=>by
 let t r1:=eE (aP hv);subst r1;let u r1:=eE (aP hw);subst r1;with_reducible refine PyProof.Rows.eq_int ?_
 exact⟨S,R,h⟩
theorem yV(h:Q (.bool (x !=y)) S):CO c n S .NotEq (.int x) (.int y) Q E:=λv w hv hw=>W.of λok X A s hA R=>by
 let t r1:=eE (aP hv);subst r1;let u r1:=eE (aP hw);subst r1;with_reducible refine PyProof.Rows.ne_int ?_
 exact⟨S,R,h⟩
theorem qK(h:Q (.bool (decide (x<y))) S):CO c n S .Lt (.int x) (.int y) Q E:=λv w hv hw=>W.of λok X A s hA R=>by
 let t r1:=eE (aP hv);subst r1;let u r1:=eE (aP hw);subst r1;with_reducible refine PyProof.Rows.lt_int ?_
 exact⟨S,R,h⟩
theorem yW(h:Q (.bool (decide (y<x))) S):CO c n S .Gt (.int x) (.int y) Q E:=λv w hv hw=>W.of λok X A s hA R=>by
 let t r1:=eE (aP hv);subst r1;let u r1:=eE (aP hw);subst r1;with_reducible refine PyProof.Rows.gt_int ?_
 exact⟨S,R,h⟩
theorem yX(h:Q (.bool (decide (y≤x))) S):CO c n S .GtE (.int x) (.int y) Q E:=λv w hv hw=>W.of λok X A s hA R=>by
 let t r1:=eE (aP hv);subst r1;let u r1:=eE (aP hw);subst r1;with_reducible refine PyProof.Rows.ge_int ?_
 exact⟨S,R,h⟩
theorem wc(h:Q (.int (x+y)) S):BO c n S .Add (.int x) (.int y) Q E:=λv w hv hw=>W.of λok X A s hA R=>by
 let t r1:=eE (aP hv);subst r1;let u r1:=eE (aP hw);subst r1;with_reducible refine PyProof.Rows.add_int ?_
 exact⟨S,R.toks,h⟩
theorem iy(hy:y≠0)(h:Q (.int (aiF x y)) S):BO c n S .Mod (.int x) (.int y) Q E:=λv w hv hw=>W.of λok X A s hA R=>by
 let t r1:=eE (aP hv);subst r1;let u r1:=eE (aP hw);subst r1;with_reducible refine PyProof.Rows.mod_int' hy ?_
 exact⟨S,R.toks,h⟩
theorem we(h:Q (.int (x+y)) S):IO c n S .Add (.int x) (.int y) Q E:=λv w hv hw=>W.of λok X A s hA R=>by
 let t r1:=eE (aP hv);subst r1;let u r1:=eE (aP hw);subst r1;with_reducible refine PyProof.Rows.iadd_int ?_
 exact⟨S,R.toks,h⟩
theorem qL{x y:Str}(h:Q (.bool (x==y)) S):CO c n S .Eq (.str x) (.str y) Q E:=λv w hv hw=>W.of λok X A s hA R=>by
 let t r1:=eE (aD hv);subst r1;let u r1:=eE (aD hw);subst r1;with_reducible refine PyProof.Rows.eq_str ?_
 exact⟨S,R,h⟩
theorem yY{x y:Str}(h:Q (.bool (x !=y)) S):CO c n S .NotEq (.str x) (.str y) Q E:=λv w hv hw=>W.of λok X A s hA R=>by
 let t r1:=eE (aD hv);subst r1;let u r1:=eE (aD hw);subst r1;with_reducible refine PyProof.Rows.ne_str ?_
 exact⟨S,R,h⟩
theorem mU{x y:Str}{t u:Tok}{Q:Value→aas→Prop}(ki:x.length+y.length≤ac_)(h:∀t' tk,s.toks≤tk→Q (.str (x++y) t') {s with toks:=tk}):(if x.length==0 then Made.val (.str y u)else if y.length==0 then Made.val (.str x t)else Made.str (x++y)).post Q s:=by
 obtain⟨xs⟩:=x;obtain⟨ys⟩:=y;by_cases hx:xs.size=0;obtain rfl:xs= #[]:=adm hx;have e:(⟨#[]⟩++⟨ys⟩:Str)=⟨ys⟩:=by change(⟨#[]++ys⟩:Str)=_;simp
 rw[e]at h;exact h u s.toks (aak _);by_cases hy:ys.size=0;obtain rfl:ys= #[]:=adm hy;have e:(⟨xs⟩++⟨#[]⟩:Str)=⟨xs⟩:=by change(⟨xs++ #[]⟩:Str)=_;simp
 rw[e]at h;rw[if_neg (by simpa [aiG]using hx),if_pos (by rfl)];exact h t s.toks (aak _);rw[if_neg (by simpa [aiG]using hx),if_neg (by simpa [aiG]using hy)];refine⟨?_,h _ _ (aa2 _)⟩;change(xs++ys).size≤_;rw[aet];exact ki
theorem cz{x y:Str}(ki:x.length+y.length≤ac_)(h:Q (.str (x++y)) S):BO c n S .Add (.str x) (.str y) Q E:=λv w hv hw=>W.of λok X A s hA R=>by let t r1:=eE (aD hv);subst r1;let u r1:=eE (aD hw);subst r1;exact PySem.P.add_str (mU ki λt' tk hk=>⟨S,R.toks hk,h⟩)
theorem dK{x y:Str}(ki:x.length+y.length≤ac_)(h:Q (.str (x++y)) S):IO c n S .Add (.str x) (.str y) Q E:=λv w hv hw=>W.of λok X A s hA R=>by let t r1:=eE (aD hv);subst r1;let u r1:=eE (aD hw);subst r1;exact PySem.P.iadd_str (mU ki λt' tk hk=>⟨S,R.toks hk,h⟩)
def Tn:AV→Option Bool| .none=>some true| .bi _=>none| .oth _=>none|_=>some false
theorem rM(h:Tn (ab v)=some b):plainIs v .none=true∧(v== .none)=b:=by cases v<;>first|(cases h;exact⟨rfl,rfl⟩)|(cases h;exact⟨rfl,beq_eq_false_iff_ne.mpr (λe=>nomatch e)⟩)|cases h
theorem OM{x:AV}(hp:Tn x=some b)(h:Q (.bool b) S):CO c n S .Is x .none Q E:=λv w hv hw=>W.of λok X A s hA R=>by subst hv;obtain rfl:=eO hw;exact agV (rM hp).1 ⟨S,R,by rw[(rM hp).2];exact h⟩
theorem Bh{x:AV}(hp:Tn x=some b)(h:Q (.bool (!b)) S):CO c n S .IsNot x .none Q E:=λv w hv hw=>W.of λok X A s hA R=>by subst hv;obtain rfl:=eO hw;exact afB (rM hp).1 ⟨S,R,by rw[(rM hp).2];exact h⟩
theorem GX{x y:Bool}:(Value.bool x==Value.bool y)=(x==y):=by cases x<;>cases y<;>rfl
theorem D9{x y:Bool}(h:Q (.bool (x==y)) S):CO c n S .Is (.bool x) (.bool y) Q E:=λv w hv hw=>W.of λok X A s hA R=>by obtain rfl:=gr hv;obtain rfl:=gr hw;exact agV rfl ⟨S,R,by rw[GX];exact h⟩
theorem wg{x y:Bool}(h:Q (.bool (!(x==y))) S):CO c n S .IsNot (.bool x) (.bool y) Q E:=λv w hv hw=>W.of λok X A s hA R=>by obtain rfl:=gr hv;obtain rfl:=gr hw;exact afB rfl ⟨S,R,by rw[GX];exact h⟩
theorem Bi{b:String}(h:(a==b)=r):(abR a==abR b)=r:=h▸decide_eq_decide.mpr ⟨λe=>(Value.type.inj e),λe=>e▸rfl⟩
theorem D_{b:String}(hp:(a==b)=r)(h:Q (.bool r) S):CO c n S .Is (.type a) (.type b) Q E:=λv w hv hw=>W.of λok X A s hA R=>by obtain rfl:=bI hv;obtain rfl:=bI hw;exact agV rfl ⟨S,R,by rw[Bi hp];exact h⟩
theorem wh{b:String}(hp:(a==b)=r)(h:Q (.bool (!r)) S):CO c n S .IsNot (.type a) (.type b) Q E:=λv w hv hw=>W.of λok X A s hA R=>by obtain rfl:=bI hv;obtain rfl:=bI hw;exact afB rfl ⟨S,R,by rw[Bi hp];exact h⟩
theorem oQ{Q:List AV→SS→Prop}(h:Q [] S):EA c n S [] Q E:=λzz=>W.pure h
abbrev aV:Expr→Bool:=kdsPlain
theorem bO{e:Expr}(h:aV e=true):aci (e::l) env=(false,eval e env)::aci l env:=by cases e<;>first|rfl|cases h
theorem gu{e:Expr}{Q:List AV→SS→Prop}(h:EE c n S e (λv S1=>EA c n S1 l (λvs S2=>Q (v::vs) S2) E) E)(hp:autoParam (aV e=true) apR):EA c n S (e::l) Q E:=λpos=>.i λok X A s hA R=>by rw[bO hp];exact aeh (h.st ok X A s hA R λv s1 S1 R1 h1=>(h1 pos).run ok X A s1 hA R1)
theorem bV{E:Value→aas→Prop}{f:Value}{args:List (Bool×Sem Value)}{Q:Args→aas→Prop}(hs:args.any (λx=>x.1)=false)
  (h:wpAny M A (spliced args) (λvs s'=>Q ⟨vs,[]⟩ s') E s):wpAny M A (evalArgs f true args []) Q E s:=by
 have body:∀{x:Sem (List Value)},wpAny M A x (λvs s'=>Q ⟨vs,[]⟩ s') E s→wpAny M A (x>>=λvs=>(pure (vs,(none:Option Value)):Sem (List Value×Option Value))>>=λp=>ahO (p.1++p.2.toList) (do
   let readLate (keep:List Value):Sem (List Value):=do
    let some s:=p.2|return p.1
    if←notIterableAtAll s then
     rule "call.star.not-iterable"
     raiseError "TypeError" s!"{← functionStr f} argument after * must be an iterable, not {← typeNameOf s}"
    ahO keep (collect s)
   let kw:=(([]:List (Option Str×Sem Value)).filterMap (λx=>x.1)).zip (←evalAll [])
   return⟨←readLate (kw.map (λx=>x.2)),kw⟩)) Q E s:=λh=>aac (aau h (λvs s' k=>aac (aal (abk (aac (aal (aac (aal (aal k)))))))) λzz zz x=>x)
 cases args with
 |nil=>exact body h
 |cons p r=>
  obtain⟨b,x⟩:=p
  cases b with
  |true=>cases hs
  |false=>exact Calls.evalArgs_plain h
end
end
section
variable{P:aao} {s:aas} {C:Addr}
def dU:List (Str×AV)→Str→Option AV|[],_=>none|p::r,x=>if p.1=x then some p.2 else dU r x
def nY:List (Str×AV)→Str→AV→List (Str×AV)|[],x,v=>[(x,v)]|p::r,x,v=>if p.1=x then(x,v)::r else p::nY r x v
def Lm(es:List (Str×AV))(x:Str)(n:Nat):Nat:=if(dU es x).isSome then n else n+1
theorem oR(h:ab v= .str y)(x:Str):v.isStr x=decide (y=x):=by let t r1:=eE (aD h);subst r1;change(y==x)=_;rw[ac7];simp
theorem nZ(h:oF (qG P) es ents)(x:Str):∃r,getL x ents=some r∧r.map ab=dU es x:=by
 have nr:ents.any (λx=>x.refKey)=false:=by induction h with|nil=>rfl|cons h _ ih=>let t ht:=eE (aD h.1);rw[aho,ih,afN];unfold DictEntry.refKey;rw[ht]
 unfold getL;have key:∃r:Option abN,ents.find? (·.key.isStr x)=r∧(r.map λe=>ab e.val)=dU es x:=by clear nr;induction h with|nil=>exact⟨none,rfl,rfl⟩| @cons a b l r h _ ih=>rw[aiq,oR h.1];unfold dU;by_cases q:a.1=x;simp only[q,decide_true,if_true];exact⟨_,rfl,congrArg some h.2.1⟩;simp only[q,decide_false,if_false];exact ih
 let r h1 h2:=ak key;rw[h1];cases r with|some e=>exact⟨_,rfl,h2⟩|none=>exact⟨none,by simp only[nr,aaU,if_false],h2⟩
theorem Ea(h:oF (qG P) es ents)(x:Str)(k v:Value)(hk:ab k= .str x):oF (qG P) (nY es x (ab v)) (putL x (aff P x) k v ents):=by induction h with|nil=>exact .cons ⟨hk,rfl,rfl⟩ .nil| @cons a b l r h1 h2 ih=>unfold nY putL;rw[oR h1.1];by_cases q:a.1=x;simp only[q,decide_true,if_true];exact .cons ⟨by rw[h1.1,q],rfl,by rw[h1.2.2,q]⟩ h2;simp only[q,decide_false,if_false,aaU];exact .cons h1 ih
theorem Eb(h:oF (qG P) es ents)(x:Str)(n:Nat):putN x ents n=Lm es x n:=by
 delta putN Lm;have:ents.any (·.key.isStr x)=(dU es x).isSome:=by induction h with|nil=>rfl| @cons a b l r h1 h2 ih=>rw[aho,oR h1.1,ih];change _=(if a.1=x then some a.2 else dU l x).isSome;by_cases q:a.1=x<;>simp[q]
 rw[this]
theorem Ec{v:AV}:∀{es:List (Str×AV)},y∈(nY es x v).map (λx=>x.1)→y=x∨y∈es.map (λx=>x.1):=by intro l0;induction l0 with|nil=>exact λh=>.inl (by simpa [nY]using h)|cons p r ih=>intro h;unfold nY at h;split at h;rename_i q;rw[aan,aai]at h;exact h.imp id λz=>(by rw[aan];exact .tail _ z);rw[aan,aai]at h;rcases h with h|h;exact .inr (by rw[aan,h];exact .head _);exact(ih h).imp id λz=>by rw[aan];exact .tail _ z
theorem yZ{v:AV}:∀{es:List (Str×AV)},(es.map (λx=>x.1)).Nodup→((nY es x v).map (λx=>x.1)).Nodup:=by intro l0;induction l0 with|nil=>exact λzz=>by simp[nY]|cons p r ih=>intro h;rw[aan,aaB]at h;unfold nY;split;rename_i q;rw[aan,aaB];exact⟨q▸h.1,h.2⟩;rename_i q;rw[aan,aaB];exact⟨λz=>(Ec z).elim q h.1,ih h.2⟩
theorem Bj(nm:Str)(hs:Int)(k v:Value):∀ents:List abN,(putL nm hs k v ents).length≤ents.length+1:=by intro l0;induction l0 with|nil=>exact aak _|cons e r ih=>have:=ih;unfold putL;split<;>simp only[aaF]<;>lia
theorem oF.len{α β:Type}{R:α→β→Prop}{l:List α}{r:List β}(h:oF R l r):l.length=r.length:=by induction h with|nil=>rfl|cons _ _ ih=>simp[ih]
section
variable{c:Cx} {n:Nat} {S:SS} {α β:Type} {E E':EP}
theorem Rp.oS(R:Rp c S s)(hd:(d,.dict es k)∈S.cells):(es.map (λx=>x.1)).Nodup:=by let o ho h z3:=bN (R.cells _ hd);exact h
theorem Rp.inst{X:Cells}{x:Addr}(R:Rp c (S.ext X) s)(hx:(x,.inst C d)∈S.cells)(hd:(d,.dict es k)∈S.cells):∃ents,InstAt s.heap x (afA C d) C (some (ah6 ents k))∧oF (qG c.w.params) es ents:=by let o ho r2:=ak (R.cells _ (aaf _ hx));subst r2;let od Ru z2 ents r4 h2:=vT (R.cells _ (aaf _ hd));subst r4;exact⟨ents,⟨ho,rfl,rfl,Ru⟩,h2⟩
theorem fQ(ok:c.Ok)(R:Rp c S s):c.K.In s.heap:=λa o e=>R.stays a o (ok.eH.fg a o e)
def attrOk(K:Frag)(C:Addr)(x:Str):Bool:=adf K (.ref C) "__getattribute__"==some (some (.builtin "object.__getattribute__"))&&adf K (.ref C) "__getattr__"==some none&&hasDictIn K C&&(match adf K (.ref C) x with|some attr=>noGet K attr|none=>false)
def hand:AV→Bool| .bi _=>false|_=>true
theorem handed(h:hand (ab v)=true):handedIn v=true:=by cases v<;>first|rfl|cases h
theorem qM{x:Addr}{nm:Str}{a:AV}(hx:(x,.inst C d)∈S.cells)(hd:(d,.dict es k)∈S.cells)(hl:dU es nm=some a)(pZ:attrOk c.K C nm=true)(hh:hand a=true) (h:Q a S):W c n S (ahR (.ref x) nm b) (λv=>Q (ab v)) E:=W.of λok X A s hA R=>by
 let ents I h2:=ak (R.inst hx hd);let r hr rN:=ak (nZ h2 nm);unfold attrOk at pZ;simp only[aaM]at pZ;obtain⟨⟨⟨k1,k2⟩,k3⟩,k4⟩:=pZ;cases hf:adf c.K (.ref C) nm with
 |none=>rw[hf]at k4;cases k4
 |some attr=>
  rw[hf]at k4;rw[hl]at rN;cases r with
  |none=>cases rN
  |some v=>obtain rfl:ab v=a:=aaJ rN;exact get_value (fQ ok R) I (beq_iff_eq.mp k1) (findObj_own k3 hf k4 hr) (handed hh) ⟨S,R.toks,h⟩
def bo:Expr→Bool| .Call .. =>true|_=>false
theorem rO{e:Expr}{nm:Str}(h:EE c n S e (λa S1=>∀v,ab v=a→W c n S1 (ahR v nm true) (λr=>Q (ab r)) E) E)(he:autoParam (bo e=false) apR):EE c n S (.Attribute e nm p) Q E:=by unfold EE;rw[ahz,show ad6 e nm c.env (eval e c.env)=eval e c.env by cases e<;>first|rfl|cases he];refine W.bind (h.az λv S1 k=>W.bind (W.standAt (W.bind (W.holding ((k v rfl).az λr S2 k2=>?_)))));exact .i λok X A s hA R=>aac (adO (aal ⟨S2,R,k2⟩))
theorem rP{e:Expr}{nm:Str}(h:EE c n S e (λa S1=>∃x C d es k r,a= .ref x∧(x,.inst C d)∈S1.cells∧(d,.dict es k)∈S1.cells∧dU es nm=some r∧attrOk c.K C nm=true∧hand r=true∧Q r S1) E) (he:autoParam (bo e=false) apR):EE c n S (.Attribute e nm p) Q E:=rO (W.az h λv S1 h8 u hu=>cX h8 λx C d es k r h1 h2 h3 h4 h5 h6 h7=>by obtain rfl:=aj (hu.trans h1);exact qM h2 h3 h4 h5 h6 h7) he
theorem Ee(h:Heap)(d L:Addr):∃pre:List (Addr×Obj),(∀p∈pre,p.1≠d∧p.1≠L∧h.get? p.1=some p.2)∧∀b o,h.get? b=some o→b≠d→b≠L→(b,o)∈pre:=by refine⟨(abu h.objs.size).filterMap λb=>if b=d∨b=L then none else(h.get? b).map (b,·),λp hp=>?_,λb o e h1 h2=>?_⟩;let b hb e:=ak (afj.mp hp);split at e;cases e;rename_i q;let o ho r2:=ak (aaq.mp e);subst r2;exact⟨λz=>q (.inl z),λz=>q (.inr z),ho⟩;refine afj.mpr ⟨b,adP.mpr (aa3 e),?_⟩;rw[if_neg (by rintro(q|q);exact h1 q;exact h2 q),e];rfl
def lZ:Heap:={}
theorem l8(a:Addr):lZ.get? a=none:=by unfold Heap.get?;rfl
theorem Rp.ledger(R:Rp c S s){od:Obj}(hd:s.heap.get? d=some od)(hL:d≠c.L):∃m pre,(∀p∈S.loc,(m p.1).map ab=p.2)∧Fr lZ c.L s.heap m∧News lZ c.L s.heap (pre++(d,od)::[])∧(∀p∈pre,p.1≠d)∧∀b o,s.heap.get? b=some o→b≠d→b≠c.L→(b,o)∈pre:=by
 let m hn hl:=ak R.ns;let pre h1 h2:=ak (Ee s.heap d c.L);refine ba m pre ⟨hl,⟨hn,λb o e=>(by rw[l8]at e;cases e),aaD _⟩,λp hp=>?_,λp hp=>(h1 p hp).1,h2⟩;rcases aax.mp hp with hp|hp;exact⟨(h1 p hp).2.2,(h1 p hp).2.1,l8 _⟩;obtain rfl:p=(d,od):=by simpa using hp
 exact⟨hd,hL,l8 _⟩
theorem Rp.Eg{tk:Nat}{x y:AO}(R:Rp c S s)(u:aI a x y S.cells cells')(k:∀b o,s.heap.get? b=some o→b≠a→b≠c.L→h'.get? b=some o)(hn:∃m,h'.Ns c.L m∧∀p∈S.loc,(m p.1).map ab=p.2) (ho:h'.get? a=some o') (hc:pY c.w y o') (iR:autoParam (s.toks≤tk) apT):Rp c ⟨S.loc,cells'⟩ {s with heap:=h',toks:=tk}:=by
 have hk:=u.keys;have ha:a∈c.aC.map (λx=>x.1.locals)++S.cells.map (λx=>x.1):=aad _ (aat (f:=(λx=>x.1)) u.mem);have nd:=aaB.mp R.nd;have jK:=aaX.mp nd.2;have To:∀f∈c.aC,f.1.locals≠c.L:=λf hf q=>nd.1 (q▸aaf _ (aat (f:=(λx=>x.1.locals)) hf));refine⟨λb o e=>k b o (R.stays b o e) (λq=>?_) (λq=>?_),hn,λf hf=>?_,λp hp=>?_,?_,?_,R.kK,R.lk,R.gens,R.os,aaE R.tk iR⟩;rw[q,R.fresh a (.tail _ ha)]at e;cases e;rw[q,R.fresh c.L (.head _)]at e;cases e;let o es ep e r:=qD (R.aC f hf);exact eY o es ep ⟨k _ _ e (λq=>jK.2.2 _ (aat (f:=(λx=>x.1.locals)) hf) _ (aat (f:=(λx=>x.1)) u.mem) q) (To f hf),r⟩;let pre post e1 e2:=cI u.split;have kh:((pre++(a,x)::post).map (λx=>x.1)).Nodup:=e1▸jK.2.1;have gU:∀q∈pre++post,q.1≠a:=by intro q hq e;rw[aaj,aan]at kh;have z:=(aaS.nodup_iff.mp kh);show(aaB.mp z).1;rw[←aaj];exact e▸aat (f:=(λx=>x.1)) hq
 have old:∀q∈S.cells,q.1≠a→∃o,h'.get? q.1=some o∧pY c.w q.2 o:=λq hq Yq=>by let o lQ IL:=ak (R.cells q hq);exact⟨o,k _ _ lQ Yq (λz=>nd.1 (z▸aad _ (aat (f:=(λx=>x.1)) hq))),IL⟩
 rw[e2]at hp;rcases aax.mp hp with hp|hp;exact old p (by rw[e1];exact aaf _ hp) (gU p (aaf _ hp));rcases aai.mp hp with rfl|hp;exact⟨o',ho,hc⟩;exact old p (by rw[e1];exact aad _ (.tail _ hp)) (gU p (aad _ hp));change∀b∈c.L::(c.aC.map (λx=>x.1.locals)++cells'.map (λx=>x.1)),_;rw[hk];exact R.fresh;change(c.L::(c.aC.map (λx=>x.1.locals)++cells'.map (λx=>x.1))).Nodup;rw[hk];exact R.nd
def dg(K:Frag)(C:Addr)(x:Str):Bool:=adf K (.ref C) "__setattr__"==some (some (.builtin "object.__setattr__"))&&plainOver K C&&takerIn K C x==some none&&(clsIn K C).any (λx=>x.hasDict)
theorem l_{x:Addr}{nm:Str}{Q:Unit→SS→Prop}(hx:(x,.inst C d)∈S.cells)(u:aI d (.dict es k) (.dict (nY es nm (ab v)) (Lm es nm k)) S.cells cells')(pZ:dg c.K C nm=true)(hz:es.length<1000) (h:Q () ⟨S.loc,cells'⟩):W c n S (setAttr (.ref x) nm v) Q E:=W.of λok Y A s hA R=>by let ents I h2:=ak (R.inst hx u.mem);unfold dg at pZ;simp only[aaM]at pZ;obtain⟨⟨⟨k1,k2⟩,k3⟩,k4⟩:=pZ;have X:=fQ ok R;have hd:s.heap.get? d=some (ah6 ents k):=I.dict;have ua:=u.app (X:=Y);have hL:d≠c.L:=λq=>(aaB.mp R.nd).1 (q▸aad _ (aat (f:=(λx=>x.1)) ua.mem));let m pre hl F N hp ma:=nV (R.toks.ledger (s:={s with toks:=s.toks+1}) hd hL);let r hr z2:=ak (nZ h2 nm);show set_plain X I (beq_iff_eq.mp k1);let h' F' N':=osa_dict (s:={s with toks:=s.toks+1}) F N X I rfl k2 (beq_iff_eq.mp k3) k4 (by rw[ail,hr];rfl) hp (λzz q=>nomatch q) (putName_dict ..) rfl ?_;have l1:=Bj nm (aff c.w.params nm) (.str nm (s.toks+1)) v ents;have:=h2.len;exact aab l1 (by exact Sy hz this);have z:=R.Eg (h':=h') (tk:=s.toks+1+1) ua (λb o e h1 h2=>(N' (b,o) (aaf _ (ma b o e h1 h2))).1) ⟨m,F'.ns,hl⟩ (N' (d,_) (aad _ (.head _))).1 ⟨yZ (R.oS u.app.mem),_,by rw[←Eb h2],Ea h2 nm (.str nm (s.toks+1)) v rfl⟩;exact⟨⟨S.loc,cells'⟩,z,h⟩
end
end
section
section
variable{c:Cx} {n:Nat} {S:SS} {α β:Type} {E E':EP}
theorem W.room{m:Nat}{t:Sem α}{Q:α→SS→Prop}(h:W c m S t Q E)(hm:m≤n):W c n S t Q E:=.i λok X A s hA R=>h.run ok X A s ⟨hA.1,hA.2.1,by have:=hA.2.2.1;exact xa hm this,by have:=hA.2.2.2;exact xb hm this⟩ R
def kM(K:Frag):AV→Prop| .ref a=>ai0 K (.ref a)=true| .bi _=>True| .type _=>True|_=>False
theorem bF{pos:Pos}:∀{l:List Expr},l.all aV=true→(aeg pos (aci l env)).any (λx=>x.1)=false:=by intro l0;induction l0 with|nil=>exact λzz=>rfl|cons e l ih=>intro h;rw[adB,aaM]at h;rw[bO h.1];change(false||_)=false;rw[Bool.false_or];exact ih h.2
theorem kj{pos:Pos}:∀{l:List Expr},l.all aV=true→(aeg pos (aci l env)).all (λx=> !x.1)=true:=by intro l0;induction l0 with|nil=>exact λzz=>rfl|cons e l ih=>intro h;rw[adB,aaM]at h;rw[bO h.1];change(true&&_)=true;rw[adC];exact ih h.2
theorem iz{pos:Pos}{f:Value}{first:List Value}(hs:args.all aV=true)(hk:kM c.K (ab f))(h:EA c n S args (λas S1=>∀vs,vs.map ab=as→W c n S1 (call f (first++vs)) (λr=>Q (ab r)) E) E):W c n S (callWith pos f first (aeg pos (aci args c.env)) []) (λr=>Q (ab r)) E:=.i λok X A s hA R=>by have md:=bF (pos:=pos) (env:=c.env) hs;refine aem (P:=λh=>c.K.In h) (by rw[md];rfl:((aeg pos (aci args c.env)).any (λx=>x.1)||([]:List (Option Str×Sem Value)).any (λx=>x.1.isNone))=false) (λhh X=>?_) (bV md (aau ((h pos).run ok X A s hA R) (λvs s1 IR=>by obtain⟨S1,R1,k⟩:=IR;exact⟨fQ ok R1,(k vs rfl).run ok X A s1 hA R1⟩) λzz zz x=>x));cases f with|ref a=>exact keeps_K hk hh X|builtin i=>exact⟨.machine,.inr (.inl rfl),ace rfl⟩|type i=>exact⟨.machine,.inr (.inl rfl),ace rfl⟩|_=>exact hk.elim
theorem xm{id:Str}{pos:Pos}(h:EE c n S (.Name id p) (λf S1=>kM c.K f∧EA c n S1 args (λas S2=>bM c n S2 f as Q E) E) E)(hs:autoParam (args.all aV=true) apR):EE c n S (.Call (.Name id p) args [] pos) Q E:=.i λok X A s hA R=>af3 (h.st ok X A s hA R λf s1 S1 R1 h8=>eA h8 λk1 k2=>(iz (first:=[]) (Q:=Q) hs k1 (λpos'=>(k2 pos').az λvs S2 k3 ws hw=>k3 f ws rfl hw)).run ok X A s1 hA R1)
def me(K:Frag)(C:Addr)(nm:Str)(f:Addr):Bool:=adf K (.ref C) "__getattribute__"==some (some (.builtin "object.__getattribute__"))&&adf K (.ref C) "__getattr__"==some none&&adf K (.ref C) nm==some (some (.ref f))&&aiH K (.ref f)==some (.type "function")&&ai0 K (.ref f)
theorem um{e:Expr}{nm:Str}{pos:Pos}(h:EE c n S e (λa S1=>∃x C d es k f,a= .ref x∧(x,.inst C d)∈S1.cells∧(d,.dict es k)∈S1.cells∧me c.K C nm f=true∧dU es nm=none∧EA c n S1 args (λas S2=>bM c n S2 (.ref f) (.ref x::as) Q E) E) E)(he:autoParam (bo e=false) apR) (hs:autoParam (args.all aV=true) apR) (hlen:autoParam ((decide (args.length<30))=true) apR) (bw:autoParam ((ap.endLine==pos.line)=true) apR):EE c n S (.Call (.Attribute e nm ap) args [] pos) Q E:=by
 unfold EE;rw[afO,show ad6 e nm c.env (eval e c.env)=eval e c.env by cases e<;>first|rfl|cases he];refine W.bind (W.az h λv S1 h8=>dZ h8 λx C d es k f h1 h2 h3 h4 h5 h6=>W.bind (W.standAt ?_));obtain rfl:=aj h1;have Bk:afm (args.length+([]:List Keyword).length) (aeg pos (aci args c.env)) (agW pos (aeV [] c.env))=true:=by change((aeg pos (aci args c.env)).all (λx=> !x.1)&&true&&decide (args.length+0+0<30))=true;rw[kj hs,adC,adC];exact hlen
 unfold ahA;rw[Bk];unfold me at h4;simp only[aaM]at h4;obtain⟨⟨⟨⟨k1,k2⟩,k3⟩,k4⟩,k5⟩:=h4;refine W.bind (W.holding (Q:=λp S'=>p=((.ref f:Value),[(.ref x:Value)])∧S'=S1) (W.of λok X A s hA R=>?_)|>.az ?_);let ents I IS:=ak (R.inst h2 h3);let r hr rN:=ak (nZ IS nm);rw[h5]at rN;obtain rfl:r=none:=by cases r<;>first|rfl|cases rN
 exact method_fn (fQ ok R) I (beq_iff_eq.mp k1) (beq_iff_eq.mp k2) (beq_iff_eq.mp k3) (beq_iff_eq.mp k4) (show(lookIn nm (ah6 ents k)).map (λx=>x.isSome)=some false by rw[ail,hr];rfl) ⟨S1,R,rfl,rfl⟩;intro p S2 IT;let r0 r1:=eA IT;subst r0;subst r1;refine W.bind (W.eq (by unfold afP;simp[bw]:afP true e c.env ap pos=pure pos) (W.pure ?_));exact iz (f:=.ref f) (first:=[.ref x]) (Q:=Q) hs k5 (λpos'=>(h6 pos').az λvs S3 k3 ws hw=>k3 (.ref f) (.ref x::ws) rfl (by rw[aan,hw];rfl))
def Tp:AO→Option String
 | .list _=>some "list"
 | .tup _=>some "tuple"
 | .dict .. =>some "dict"
 | .map .. =>some "dict"
 | .set .. =>some "set"
 | .raw o=>match o.cls,o.dict with| .type n,none=>some n|_,_=>none
 |_=>none
def oU(S:SS)(v:AV)(T:String):Prop:=(∃x,v= .str x∧T="str")∨∃a ao,v= .ref a∧(a,ao)∈S.cells∧Tp ao=some T
theorem oU.is{X:Cells}{s:aas}(h:oU S (ab v) T)(R:Rp c (S.ext X) s):s.TypeIs v T∧∀a,v= .ref a→∃ob,s.heap.get? a=some ob∧ob.dict=none:=by
 rcases h with⟨x,h1,rfl⟩|⟨a,ao,h1,h2,h3⟩;let t r1:=eE (aD h1);subst r1;exact⟨adQ s x t,λa q=>(nomatch q)⟩;obtain rfl:=aj h1;let o ho hc:=ak (R.cells _ (aaf _ h2));have key:o.cls= .type T∧o.dict=none:=by
  cases ao with
  |list xs=>let vs m r2 z3:=cI hc;subst r2;cases h3;exact⟨rfl,rfl⟩
  |tup xs=>let vs m r2 z3:=cI hc;subst r2;cases h3;exact⟨rfl,rfl⟩
  |dict es k=>let z0 ents r2 z3:=AL hc;subst r2;cases h3;exact⟨rfl,rfl⟩
  |raw r=>let r0 z1:=eA hc;subst r0;have Tq:(match o.cls,o.dict with| .type n,none=>some n|_,_=>none)=some T:=h3;split at Tq;rename_i e1 e2;cases Tq;exact⟨e1,e2⟩;cases Tq
  |map es k=>obtain⟨_,⟨_,h1,_⟩,_⟩:=hc;cases h3;exact⟨h1.1,h1.2.1⟩
  |set es k=>let z0 z1 z2 h1 z4:=qD hc;cases h3;exact⟨h1.1,h1.2.1⟩
  |inst|du|cell|obj|v4=>cases h3
 exact⟨⟨o,ho,key.1⟩,λb q=>by cases q;exact⟨o,ho,key.2⟩⟩
theorem y0{e:Expr}{nm:Str}{id:String}{pos:Pos}(pa:PlainAttrs T)(slot:Slot T nm id)(ON:ah8 (.builtin id)=pure (.type "method_descriptor"))(h:EE c n S e (λa S1=>oU S1 a T∧EA c n S1 args (λas S2=>bM c n S2 (.bi id) (a::as) Q E) E) E)(he:autoParam (bo e=false) apR) (hs:autoParam (args.all aV=true) apR) (hlen:autoParam ((decide (args.length<30))=true) apR) (bw:autoParam ((ap.endLine==pos.line)=true) apR):EE c n S (.Call (.Attribute e nm ap) args [] pos) Q E:=.i λok X A s hA R=>by refine afC (T:=T) (id:=id) (by cases e<;>first|rfl|cases he) ?_ bw pa slot ON (h.st ok X A s hA R λv s1 S1 R1 h8=>eA h8 λk1 k2=>⟨(k1.is R1).1,(k1.is R1).2,?_⟩);change((aeg pos (aci args c.env)).all (λx=> !x.1)&&true&&decide (args.length+0+0<30))=true;rw[kj hs,adC,adC];exact hlen;exact(iz (c:=c) (f:=.builtin id) (first:=[v]) (Q:=Q) hs trivial (λpos'=>(k2 pos').az λvs S3 k3 ws hw=>k3 (.builtin id) (v::ws) rfl (by rw[aan,hw]))).run ok X A s1 hA R1
end
end
section
variable{Q:FL→SS→Prop}
section
variable{c:Cx} {n:Nat} {S:SS} {α β:Type} {E E':EP} {s:aas} {h':Heap} {tk:Nat}
theorem W.frame{t:Sem α}{Q:α→SS→Prop}(h:W c n ⟨loc,C⟩ t (λv S'=>Q v ⟨S'.loc,S'.cells++D⟩) (λk S'=>E k ⟨S'.loc,S'.cells++D⟩)):W c n ⟨loc,C++D⟩ t Q E:=.i λok X A s hA R=>by have e:∀(l:List (Str×Option AV)) (C:Cells),SS.ext ⟨l,C++D⟩ X=SS.ext ⟨l,C⟩ (D++X):=λl C=>(by simp[SS.ext]);rw[e]at R;refine aau (h.run ok (D++X) A s hA R) (λv s' IU=>by obtain⟨S',R',k⟩:=IU;exact⟨⟨S'.loc,S'.cells++D⟩,by rw[e];exact R',k⟩) λx s' h8=>h8.el λa k S' h1 h2 h3 h4=>⟨a,k,⟨S'.loc,S'.cells++D⟩,h1,by rw[e];exact h2,by rw[e];exact h3,h4⟩
theorem W.fh{t:Sem α}{Q:α→SS→Prop}(p:C.Perm D)(h:W c n ⟨loc,D⟩ t Q E):W c n ⟨loc,C⟩ t Q E:=.i λok X A s hA R=>h.run ok X A s hA (R.perm (cells':=D++X) ((p.symm).append_right X))
theorem p9.sub{k:Value}{e:Addr}{S:SS}(F:p9 c k e S h)(hs:∀a,a∈S'.cells.map (λx=>x.1)→a∈S.cells.map (λx=>x.1)):p9 c k e S' h:=by let a b oe vs h1 h2 h3 r:=t7 F;exact⟨a,λq=>b (hs _ q),oe,vs,h1,h2,h3,r.imp id λh8=>jd h8 λT oT ts q1 q2 q3 q4 q5=>(eY T oT ts ⟨q1,q2,q3,λq=>q4 (hs _ q),q5⟩)⟩
theorem W.let{t:Sem α}{Q:α→SS→Prop}(h:W c n S t (λv S'=>∃C D,S'.cells.Perm (C++D)∧Q v ⟨S'.loc,C⟩) E):W c n S t Q E:=.i λok X A s hA R=>h.st ok X A s hA R λv s' S' R' h8=>cI h8 λC D p k=>⟨⟨S'.loc,C⟩,by have R2:=R'.perm (cells':=(C++D)++X) (p.symm.append_right X);exact R2.drop (cells':=C++X) ((ad7 C D).append_right X),k⟩
theorem aI.mid{x y:AO}{X:Cells}:∀{l:Cells},aI a x y (l++(a,x)::X) (l++(a,y)::X):=by intro l0;induction l0 with|nil=>exact .head|cons _ l ih=>exact .tail (ih)
theorem Rp.y5{X:Cells}(R:Rp c (S.ext ((a,ao)::X)) s)(k:∀b o,b≠a→s.heap.get? b=some o→h'.get? b=some o)(iR:autoParam (s.toks≤tk) apT):Rp c (S.ext X) {s with heap:=h',toks:=tk}:=by
 have ui:(S.cells++X).Sublist (S.cells++(a,ao)::X):=(ab0 S.cells).append (acj _ _);have R1:Rp c (S.ext X) s:=R.drop ui;have ha:(a,ao)∈(S.ext ((a,ao)::X)).cells:=aad _ (.head _);have hm:a∈c.aC.map (λx=>x.1.locals)++(S.ext ((a,ao)::X)).cells.map (λx=>x.1):=aad _ (aat (f:=(λx=>x.1)) ha);have nd:=aaB.mp R.nd;have jK:=aaX.mp nd.2;refine R1.xi (X:=[a]) (λb o hb OK=>⟨o.slots,k b o (λq=>hb (q▸.head _)) OK,λzz zz=>rfl⟩) (λb hb=>?_) iR;obtain rfl:b=a:=by simpa using hb
 refine⟨R.fresh b (.tail _ hm),λq=>?_,λq=>nd.1 (q▸hm),λf hf q=>jK.2.2 _ (aat (f:=(λx=>x.1.locals)) hf) _ (aat (f:=(λx=>x.1)) ha) q⟩;have kh:((S.cells++(b,ao)::X).map (λx=>x.1)).Nodup:=jK.2.1;rw[aaj,aan]at kh;have z:=aaB.mp (aaS.nodup_iff.mp kh);exact z.1 (by rw[←aaj];exact q)
def au(N:SS→Prop)(Q:FL→SS→Prop):FL→SS→Prop:=λf S=>match f with
 | .next=>N S
 | .cont=>N S
 | .brk=>Q .next S
 | .ret v=>Q (.ret v) S
theorem Bl(I:Nat→SS→Prop)(k:Nat)(h0:I k S)(turn:∀m S1,I m S1→ET c n S1 test (λb S2=>if b=true then EB c n S2 body (au (λS3=>∃j,j<m∧I j S3) Q) E else EB c n S2 orelse Q E) E)(hc:autoParam (c.comp=false) apA):ES c n S (.While test body orelse p) Q E:=.i λok X A s hA R=>by
 have exc:∀x s',EX c X E x s'→aiB (model prog c.w) A c.env (ahw (model prog c.w) A c.env (EX c X E)) x s':=(by intro x s' IV;obtain⟨e,k,S',rfl,F,R',hE⟩:=IV;exact oM ok hc hA.1 R' F λkl p0 Tr=>⟨e,k,S',rfl,Tr,p0,hE⟩);refine wpAny_While (codeAny_whileLoop (λm s=>∃S1,Rp c (S1.ext X) s∧I m S1) (λm s IW=>?_) k ⟨S,R,h0⟩);let S1 R1 i1:=ak IW;refine aau ((turn m S1 i1).run ok X A s hA R1) (λb s2 IX=>?_) exc;obtain⟨S2,R2,h2⟩:=IX;cases b with
 |true=>refine aau (h2.run ok X A s2 hA R2) (λf s3 Ts=>?_) exc;obtain⟨S3,R3,h3⟩:=Ts;cases f with|next=>let j hj hI:=ak h3;exact⟨j,hj,S3,R3,hI⟩|cont=>let j hj hI:=ak h3;exact⟨j,hj,S3,R3,hI⟩|brk=>exact⟨S3,R3,h3⟩|ret v=>exact⟨S3,R3,h3⟩
 |false=>exact aau (h2.run ok X A s2 hA R2) (λf s3 Tt=>by obtain⟨S3,R3,h3⟩:=Tt;exact⟨S3,R3,h3⟩) exc
def wi(c:Cx)(n:Nat)(S:SS)(u:Value)(P:Nat→Obj→Prop):Prop:=c.Ok→∀X A s (Q:Value→aas→Prop) (E:Value→aas→Prop),c.In A n→Rp c (S.ext X) s→(∀h' it o tk,(∀b o,s.heap.get? b=some o→h'.get? b=some o)→s.heap.objs.size≤it→h'.get? it=some o→P 0 o→s.toks≤tk→Q (.ref it) {s with heap:=h',toks:=tk})→wpAny (model prog c.w) A (ah9 u) Q E s
def xo(c:Cx)(n:Nat)(S:SS)(P:Nat→Obj→Prop)(i:Nat)(x:AV):Prop:=c.Ok→∀X A s it o (Q:Option Value→aas→Prop) (E:Value→aas→Prop),c.In A n→Rp c (S.ext X) s→s.heap.get? it=some o→P i o→(∀v h' o' tk,ab v=x→agm it s.heap h'→h'.get? it=some o'→P (i+1) o'→s.toks≤tk→Q (some v) {s with heap:=h',toks:=tk})→wpAny (model prog c.w) A (ahB (.ref it)) Q E s
def xq(c:Cx)(n:Nat)(S:SS)(P:Nat→Obj→Prop)(i:Nat):Prop:=c.Ok→∀X A s it o (Q:Option Value→aas→Prop) (E:Value→aas→Prop),c.In A n→Rp c (S.ext X) s→s.heap.get? it=some o→P i o→(∀h' tk,agX it s.heap h'→s.toks≤tk→Q none {s with heap:=h',toks:=tk})→wpAny (model prog c.w) A (ahB (.ref it)) Q E s
end
end
section
variable{y:AV} {a d:Int}
section
variable{c:Cx} {n:Nat} {S:SS} {α β:Type} {E E':EP} {s:aas} {X:Cells}
theorem In.hd(h:c.In A n)(hd:c.hd=none):A.handled=none:=h.2.1.trans hd
theorem Rp.list(R:Rp c (S.ext X) s)(h:(l,.list xs)∈S.cells):∃vs,s.heap.IsList l vs∧vs.toList.map ab=xs:=by let o ho vs m r4 hm:=gS (R.cells _ (aaf _ h));subst r4;exact⟨vs,⟨_,ho,rfl,m,rfl⟩,hm⟩
theorem Rp.tup(R:Rp c (S.ext X) s)(h:(l,.tup xs)∈S.cells):∃vs,s.heap.IsTuple l vs∧vs.toList.map ab=xs:=by let o ho vs m r4 hm:=gS (R.cells _ (aaf _ h));subst r4;exact⟨vs,⟨_,ho,rfl,m,rfl⟩,hm⟩
theorem mV(h:vs.toList.map ab=xs){x:AV}(hx:xs[i]? =some x):∃v,vs[i]? =some v∧ab v=x:=by subst h;rw[aag]at hx;let v hv e:=ak (aaq.mp hx);exact⟨v,by rw[←hv];simp,e⟩
theorem rQ(h:vs.toList.map ab=xs):vs[xs.length]? =none:=by subst h;simp
def aQ(l:Addr)(i:Nat)(o:Obj):Prop:=o.cls= .type "list_iterator"∧o.data= .fields #[.ref l,.int i 0]
theorem cJ(h:(l,.list xs)∈S.cells)(hu:ab u= .ref l):wi c n S u (aQ l):=λok X A s Q E hA R hQ=>by obtain rfl:=aj hu;let vs hl z2:=ak (R.list h);show afD hl;exact hQ _ _ _ s.toks (λb o e=>aap _ e) (aak _) (aaG _ rfl) ⟨rfl,rfl⟩ (aak _)
theorem cM{x:AV}(h:(l,.list xs)∈S.cells)(hx:xs[i]? =some x):xo c n S (aQ l) i x:=λok X A s it o Q E hA R ho hP hQ=>by let vs hl hm:=ak (R.list h);let v hv e:=ak (mV hm hx);refine ago ⟨o,ho,hP⟩ hl hv λh' h8 hs=>ak h8 λo' jh tL=>hQ v h' o' s.toks e hs jh tL (aak _)
theorem cN(h:(l,.list xs)∈S.cells)(hd:c.hd=none):xq c n S (aQ l) xs.length:=λok X A s it o Q E hA R ho hP hQ=>by let vs hl hm:=ak (R.list h);refine agG (In.hd hA hd) ⟨o,ho,hP⟩ hl (rQ hm) λh' hs=>hQ h' s.toks hs (aak _)
def xr(l:Addr)(i:Nat)(o:Obj):Prop:=o.cls= .type "tuple_iterator"∧o.data= .fields #[.ref l,.int i 0]
theorem Eh(h:(l,.tup xs)∈S.cells)(hu:ab u= .ref l):wi c n S u (xr l):=λok X A s Q E hA R hQ=>by obtain rfl:=aj hu;let vs hl z2:=ak (R.tup h);show wpAny_pyIter_tuple hl;exact hQ _ _ _ s.toks (λb o e=>aap _ e) (aak _) (aaG _ rfl) ⟨rfl,rfl⟩ (aak _)
theorem Ei{x:AV}(h:(l,.tup xs)∈S.cells)(hx:xs[i]? =some x):xo c n S (xr l) i x:=λok X A s it o Q E hA R ho hP hQ=>by let vs hl hm:=ak (R.tup h);let v hv e:=ak (mV hm hx);refine wpAny_pyNext_tuple_item ⟨o,ho,hP⟩ hl hv λh' h8 hs=>ak h8 λo' jh tL=>hQ v h' o' s.toks e hs jh tL (aak _)
theorem Ej(h:(l,.tup xs)∈S.cells)(hd:c.hd=none):xq c n S (xr l) xs.length:=λok X A s it o Q E hA R ho hP hQ=>by let vs hl hm:=ak (R.tup h);refine wpAny_pyNext_tuple_end (In.hd hA hd) ⟨o,ho,hP⟩ hl (rQ hm) λh' hs=>hQ h' s.toks hs (aak _)
def signs(x:Str):List AV:=x.cps.toList.map λc=>.str ⟨#[c]⟩
def iS(x:Str)(i:Nat)(o:Obj):Prop:=∃t,o.cls= .type (if x.cps.all (·<128)then"str_ascii_iterator"else"str_iterator")∧o.data= .fields #[.str x t,.int i 0]
theorem Ek(hu:ab u= .str x):wi c n S u (iS x):=λok X A s Q E hA R hQ=>by let t r1:=eE (aD hu);subst r1;cases ha:x.cps.all (·<128);show wpAny_pyIter_wide ha;exact hQ _ _ _ s.toks (λb o e=>aap _ e) (aak _) (aaG _ rfl) ⟨t,by rw[ha];rfl,rfl⟩ (aak _);show wpAny_pyIter_ascii ha;exact hQ _ _ _ s.toks (λb o e=>aap _ e) (aak _) (aaG _ rfl) ⟨t,by rw[ha];rfl,rfl⟩ (aak _)
theorem signs_at(hx:(signs x)[i]? =some y):∃c,x.cps[i]? =some c∧y= .str ⟨#[c]⟩:=by unfold signs at hx;rw[aag]at hx;let v hv e:=ak (aaq.mp hx);exact⟨v,by rw[←hv];simp,e.symm⟩
theorem qN(x:Str):(signs x).length=x.cps.size:=by unfold signs;simp
theorem El(hx:(signs x)[i]? =some y):xo c n S (iS x) i y:=λok X A s it o Q E hA R ho hP hQ=>by let d hd r2:=ak (signs_at hx);subst r2;let t h1 h2:=ak hP;cases ha:x.cps.all (·<128);rw[ha]at h1;refine wpAny_pyNext_wide_item ⟨o,ho,h1,h2⟩ hd λh' h8 hs=>ak h8 λo' jh tL=>hQ _ h' o' _ rfl hs jh ⟨t,by rw[ha];exact tL.1,tL.2⟩ (aa2 _);rw[ha]at h1;refine wpAny_pyNext_ascii_item ⟨o,ho,h1,h2⟩ hd λh' h8 hs=>ak h8 λo' jh tL=>hQ _ h' o' _ rfl hs jh ⟨t,by rw[ha];exact tL.1,tL.2⟩ (aa2 _)
theorem Em(hd:c.hd=none):xq c n S (iS x) (signs x).length:=λok X A s it o Q E hA R ho hP hQ=>by let t h1 h2:=ak hP;rw[qN]at h2;cases ha:x.cps.all (·<128);rw[ha]at h1;refine wpAny_pyNext_wide_end (In.hd hA hd) ⟨o,ho,h1,h2⟩ (by simp) λh' hs=>hQ h' s.toks hs (aak _);rw[ha]at h1;refine wpAny_pyNext_ascii_end (In.hd hA hd) ⟨o,ho,h1,h2⟩ (by simp) λh' hs=>hQ h' s.toks hs (aak _)
def mW(a c:Int)(k:Nat)(i:Nat)(o:Obj):Prop:=i≤k∧o={cls:=.type "range_iterator",dict:=none,data:=.fields #[abK (a+i*c),abK ((k:Int)-i),abK c],slots:= #[]}
def fA(a b c:Int)(o:Obj):Prop:=∃t u v,o={cls:=.type "range",dict:=none,data:=.fields #[.int a t,.int b u,.int c v],slots:= #[]}
theorem n5{r:Addr}{b:Int}(h:(r,.obj (fA a b d))∈S.cells)(hk:ab_ a b d=(k:Int))(Tu:acO a b d=true)(hu:ab u= .ref r):wi c n S u (mW a d k):=λok X A s Q E hA R hQ=>by obtain rfl:=aj hu;let o ho t u v r5:=AP (R.cells _ (aaf _ h));subst r5;show wpAny_pyIter_range ho Tu;refine hQ _ _ _ s.toks (λb o e=>aap _ e) (aak _) (aaG _ rfl) ⟨aaD _,?_⟩ (aak _);rw[hk];simp
theorem n6(hi:i<k)(hy:y= .int (a+i*d)):xo c n S (mW a d k) i y:=λok X A s it o Q E hA R ho hP hQ=>by
 subst hy;let hle r1:=eA hP;subst r1;refine wpAny_pyNext_range_item ho (by exact Int.sub_pos_of_lt (abT.mpr hi)) λh' jh hs=>hQ _ h' _ _ rfl hs jh ⟨hi,?_⟩ (aa2 _);have e1:a+(i:Int)*d+d=a+((i+1:Nat):Int)*d:=by rw[ad_,Int.add_mul];lia
 have e2:(k:Int)-i-1=(k:Int)-((i+1:Nat):Int):=by exact aik _ _ _
 rw[e1,e2]
theorem n7(hd:c.hd=none):xq c n S (mW a d k) k:=λok X A s it o Q E hA R ho hP hQ=>by let hle r1:=eA hP;subst r1;refine wpAny_pyNext_range_end (In.hd hA hd) ho (by exact ae7 (Int.sub_self _)) λh' hs=>hQ h' s.toks hs (aak _)
end
end
section
variable{vs:List Value} {b:AV} {k:Str} {cells':Nat→Cells} {m:Nat}
section
variable{c:Cx} {n:Nat} {S:SS} {α β:Type} {E E':EP} {s:aas} {X:Cells}
theorem Bm(h:vs.map ab=[]):vs=[]:=by cases vs<;>first|rfl|cases h
theorem cP{a:AV}(h:vs.map ab=[a]):∃v,vs=[v]∧ab v=a:=by let v r r2 h1 h2:=bG (abL.mp h);subst r2;obtain rfl:=Bm h2;exact⟨v,rfl,h1⟩
theorem fR{a:AV}(h:vs.map ab=[a,b]):∃v u,vs=[v,u]∧ab v=a∧ab u=b:=by let v r r2 h1 h2:=bG (abL.mp h);subst r2;let u r1 h3:=ak (cP h2);subst r1;exact ba v u ⟨rfl,h1,h3⟩
theorem uo{a d:AV}(h:vs.map ab=[a,b,d]):∃v u y,vs=[v,u,y]∧ab v=a∧ab u=b∧ab y=d:=by let v r r2 h1 h2:=bG (abL.mp h);subst r2;let u y r2 h3 h4:=bG (fR h2);subst r2;exact eY v u y ⟨rfl,h1,h3,h4⟩
abbrev sk(c:Cx):=aeQ prog c.w
theorem Rp.mf(ok:c.Ok)(R:Rp c (S.ext X) s)(h:(d,ao)∈S.cells):(d==aiD)=false:=by let q:=beq_eq_false_iff_ne.mpr;have:=R.fresh d (.tail _ (aad _ (aat (f:=(λx=>x.1)) (aaf _ h))));let o ho:=eE ok.eH.sm;rw[q,ho]at this;cases this
abbrev y6(p:Str×Value):Str×AV:=(p.1,ab p.2)
theorem Rp.map(R:Rp c (S.ext X) s)(h:(d,.map es ep)∈S.cells):∃kvs,s.heap.DictAt (sk c) d kvs ep∧kvs.map y6=es:=by obtain⟨o,ho,kvs,⟨arr,h1,h2,h3,h4,h5⟩,h6⟩:=R.cells _ (aaf _ h);exact⟨kvs,(ba o arr ⟨ho,h1,h2,h3,h4,h5⟩),h6⟩
theorem DictAt.of(x:h.DictAt (sk c) d kvs ep):h.DictOf (sk c) d kvs:=let⟨o,es,r1,r2,r3,r4⟩:=x;(eY o es ep ⟨r1,r2,r3,r4⟩)
theorem fT(k:Str):(valueAt kvs k).map ab=dU (kvs.map y6) k:=by unfold valueAt;induction kvs with|nil=>rfl|cons p r ih=>rw[aiq,aan];change _=(if p.1=k then some (ab p.2)else dU _ _);by_cases q:p.1=k;simp[q];simp only[q,decide_false,if_false];exact ih
theorem En{v:AV}(h:k∉es.map (λx=>x.1)):nY es k v=es++[(k,v)]:=by induction es with|nil=>rfl|cons p r ih=>rw[aan,aai,not_or]at h;change(if p.1=k then _ else _)=_;rw[if_neg (λq=>h.1 q.symm),ih h.2];rfl
theorem y7(nd:(kvs.map (λx=>x.1)).Nodup)(k:Str)(v:Value):(stored kvs k v).map y6=nY (kvs.map y6) k (ab v):=by
 unfold stored;by_cases q:kvs.any (λkv=>kv.1=k)=true;rw[if_pos q];induction kvs with
 |nil=>cases q
 |cons p r ih=>
  rw[aan,aaB]at nd;change(y6 (if p.1=k then(p.1,v)else p))::_=if p.1=k then _ else _
  by_cases z:p.1=k;rw[if_pos z,if_pos z];have:r.map (λkv=>if kv.1=k then(kv.1,v)else kv)=r:=(by rw[acP (g:=id),aen];intro x hx;rw[if_neg (λe=>nd.1 (by rw[z,←e];exact aat hx))];rfl);rw[this,z];rw[if_neg z,if_neg z];rw[ih nd.2 (by simpa [z]using q:r.any (λkv=>kv.1=k)=true)]
 rw[if_neg q,aaj];have hk:k∉(kvs.map y6).map (λx=>x.1):=by intro hm;rw[aba]at hm;let x hx e:=ak (aaH.mp hm);exact q (List.any_eq_true.mpr ⟨x,hx,by simpa using e⟩)
 rw[En hk];rfl
def Rv(es:List (Str×AV))(k:Str):List (Str×AV):=es.filter λp=>decide (p.1≠k)
theorem wj(k:Str):(without kvs k).map y6=Rv (kvs.map y6) k:=by delta without Rv;rw[agD];rfl
theorem isStr_of(h:ab u= .str k):(sk c).is k u=true:=by let t r1:=eE (aD h);subst r1;change aiS k (.str k t)=true;simp[aiS]
theorem str_is(h:(sk c).is k u=true):ab u= .str k:=by refine eE (Value.isStrOf_shape h) λt r1=>?_;obtain rfl:=r1;rfl
theorem pY.map(x:h.DictOf (sk c) d kvs):∃ep o,h.get? d=some o∧pY c.w (.map (kvs.map y6) ep) o:=let⟨o,es,ep,ho,r1,r2,r3,r4,r5⟩:=x;(ba ep o ⟨ho,kvs,⟨es,r1,r2,r3,r4,r5⟩,rfl⟩)
def GI(c:Cx)(n:Nat)(S:SS)(a b:AV)(Q:AV→SS→Prop)(E:EP):Prop:=∀v w,ab v=a→ab w=b→W c n S (getItem v w) (λr=>Q (ab r)) E
def SI(c:Cx)(n:Nat)(S:SS)(a b x:AV)(Q:SS→Prop)(E:EP):Prop:=∀v w y,ab v=a→ab w=b→ab y=x→W c n S (setItem v w y) (λzz=>Q) E
def DI(c:Cx)(n:Nat)(S:SS)(a b:AV)(Q:SS→Prop)(E:EP):Prop:=∀v w,ab v=a→ab w=b→W c n S (delItem v w) (λzz=>Q) E
theorem mh{r:AV}(hm:(d,.map es ep)∈S.cells)(hl:dU es k=some r)(h:Q r S):GI c n S (.ref d) (.str k) Q E:=λv u hv hu=>W.of λok X A s hA R=>by obtain rfl:=aj hv;let kvs hd r2:=ak (R.map hm);subst r2;rw[←fT]at hl;let x hx r2:=ak (aaq.mp hl);subst r2;exact wpAny_getItem_of (isStr_of hu) (DictAt.of hd).mapOf hx ⟨S,R.toks,h⟩
theorem wk{x:AV}{Q:SS→Prop}(u:∀fU,aI d (.map es ep) (.map (nY es k x) fU) S.cells (cells' fU))(hz:es.length<1000)(h:∀fU,Q ⟨S.loc,cells' fU⟩):SI c n S (.ref d) (.str k) x Q E:=λv j y hv hj hy=>W.of λok X A s hA R=>by obtain rfl:=aj hv;let kvs hd r2:=ak (R.map (u 0).mem);subst r2;subst hy;refine wpAny_setItem_pairs (isStr_of hj) (DictAt.of hd) (λh' rJ hs=>?_) (by rw[aaa]at hz;exact aab (aaN hz) '2');let fU o ho hc:=cI (pY.map rJ);rw[y7 (let⟨_,_,_,_,_,_,_,nd⟩:=hd;nd)]at hc;exact⟨⟨S.loc,cells' fU⟩,R.upd (u fU).app hs ho hc,h fU⟩
theorem IY{Q:SS→Prop}(u:∀fU,aI d (.map es ep) (.map (Rv es k) fU) S.cells (cells' fU))(hz:es.length<1000)(hl:(dU es k).isSome=true)(h:∀fU,Q ⟨S.loc,cells' fU⟩):DI c n S (.ref d) (.str k) Q E:=λv j hv hj=>W.of λok X A s hA R=>by
 obtain rfl:=aj hv;let kvs hd r2:=ak (R.map (u 0).mem);subst r2;have hD:=DictAt.of hd;unfold delItem;try with_reducible refine abk ?_
 refine aac (wpAny_sequenceKey hD.typeIs '2' ?_);refine aac (adn (name:=abA "__delitem__") hD.typeIs afy (ae9 afy hD.typeIs PySem.F.entry_dict_delitem (PySem.F.args_dict_delitem_2 _ _) (meets_dict_delitem_pairs (sk c) d (isStr_of hj)) ⟨kvs,hD,?_,?_,λh' rJ hs=>?_⟩));rw[aaa]at hz;exact aab (aaN hz) '2';rw[←fT,ahS]at hl;exact hl;let fU o ho hc:=cI (pY.map rJ);rw[wj]at hc;exact aal ⟨⟨S.loc,cells' fU⟩,R.upd (u fU).app hs ho hc,h fU⟩
theorem y8(hm:(d,.map es ep)∈S.cells)(h:Q (.bool (dU es k).isSome) S):CO c n S .In (.str k) (.ref d) Q E:=λu v hu hv=>W.of λok X A s hA R=>by obtain rfl:=aj hv;let kvs hd r2:=ak (R.map hm);subst r2;rw[←fT,ahS]at h;exact wpAny_in_of (isStr_of hu) (R.mf ok hm) (DictAt.of hd).mapOf ⟨S,R.toks,h⟩
theorem kN(hm:(d,.map es ep)∈S.cells)(h:Q ((dU es k).getD .none) S):bM c n S (.bi "dict.get") [.ref d,.str k] Q E:=λf vs hf bx=>W.of λok X A s hA R=>by obtain rfl:=dT hf;obtain⟨v,u,rfl,hv,hu⟩:∃v u,vs=[v,u]∧ab v= .ref d∧ab u= .str k:=fR bx;obtain rfl:=aj hv;let kvs hd r2:=ak (R.map hm);subst r2;rw[←fT]at h;refine ae9 aeH (DictAt.of hd).typeIs agp (PySem.F.args_dict_get_2 _ _) (meets_dict_get (sk c) d (isStr_of hu) (R.mf ok hm)) ⟨_,(DictAt.of hd).mapOf,⟨S,R.toks,?_⟩⟩;cases OO:valueAt kvs k<;>rw[OO]at h<;>exact h
theorem p_{df:AV}(hm:(d,.map es ep)∈S.cells)(h:Q ((dU es k).getD df) S):bM c n S (.bi "dict.get") [.ref d,.str k,df] Q E:=λf vs hf bx=>W.of λok X A s hA R=>by obtain rfl:=dT hf;obtain⟨v,u,y,rfl,hv,hu,rfl⟩:∃v u y,vs=[v,u,y]∧ab v= .ref d∧ab u= .str k∧ab y=df:=uo bx;obtain rfl:=aj hv;let kvs hd r2:=ak (R.map hm);subst r2;rw[←fT]at h;refine ae9 aeH (DictAt.of hd).typeIs agp (PySem.F.args_dict_get_3 _ _ _) (meets_dict_get_default (sk c) d (isStr_of hu) (R.mf ok hm) y) ⟨_,(DictAt.of hd).mapOf,⟨S,R.toks,?_⟩⟩;cases OO:valueAt kvs k<;>rw[OO]at h<;>exact h
def mj(d:Addr)(k ep:Nat)(i:Nat)(o:Obj):Prop:=o.cls= .type "dict_keyiterator"∧o.data= .fields #[.ref d,.int i 0,.int k 0,.int ep 0]
theorem xt(h:(d,.map es ep)∈S.cells)(hu:ab u= .ref d):wi c n S u (mj d es.length ep):=λok X A s Q E hA R hQ=>by obtain rfl:=aj hu;let kvs hd r2:=ak (R.map h);subst r2;show wpAny_pyIter_dict (R.mf ok h) hd;exact hQ _ _ _ s.toks (λb o e=>aap _ e) (aak _) (aaG _ rfl) ⟨rfl,by rw[aaa];rfl⟩ (aak _)
theorem xu{y:AV}(h:(d,.map es ep)∈S.cells)(hy:(es.map λp=>AV.str p.1)[i]? =some y):xo c n S (mj d es.length ep) i y:=λok X A s it o Q E hA R ho hP hQ=>by let kvs hd r2:=ak (R.map h);subst r2;rw[aaa]at hP;rw[aba,aag]at hy;let kv OP r2:=ak (aaq.mp hy);subst r2;refine wpAny_pyNext_dict_item (k:=kv.1) (v:=kv.2) ⟨o,ho,hP⟩ hd OP λkey h' hk h8 hs=>ak h8 λo' jh tL=>?_;exact hQ key h' o' s.toks (str_is hk) hs jh ⟨tL.1,by rw[aaa];exact tL.2⟩ (aak _)
theorem xw(h:(d,.map es ep)∈S.cells)(hd:c.hd=none):xq c n S (mj d es.length ep) (es.map λp=>AV.str p.1).length:=λok X A s it o Q E hA R ho hP hQ=>by let kvs hD r2:=ak (R.map h);subst r2;rw[aaa,aaa,aaa]at hP;refine wpAny_pyNext_dict_end (i:=kvs.length) (In.hd hA hd) ⟨o,ho,hP⟩ hD (by simp) λh' hs=>hQ h' s.toks hs (aak _)
theorem Rp.set{k:Nat}(R:Rp c (S.ext X) s)(h:(a,.set P k)∈S.cells):s.heap.SetOf (sk c) a P k:=by let o ho es ep t r:=AP (R.cells _ (aaf _ h));exact p4 o es ep t ⟨ho,r⟩
theorem uq(h:ab u= .str k):u.scannable=true:=by refine eE (aD h) λt r1=>?_;obtain rfl:=r1;rfl
theorem qO(hm:(a,.set P m)∈S.cells)(h:Q (.bool (P k)) S):CO c n S .In (.str k) (.ref a) Q E:=λu v hu hv=>W.of λok X A s hA R=>by obtain rfl:=aj hv;exact wpAny_inSet_of (isStr_of (c:=c) hu) (uq hu) (R.set hm) ⟨S,R.toks,h⟩
theorem oV{cells':Cells}(u:aI a (.set P m) (.set (λk'=>P k'||decide (k'=k)) (if P k then m else m+1)) S.cells cells')(hz:m<1000)(h:Q .none ⟨S.loc,cells'⟩):bM c n S (.bi "set.add") [.ref a,.str k] Q E:=λf vs hf bx=>W.of λok X A s hA R=>by obtain rfl:=dT hf;obtain⟨v,y,rfl,hv,hy⟩:∃v y,vs=[v,y]∧ab v= .ref a∧ab y= .str k:=fR bx;obtain rfl:=aj hv;let h' hs hS:=call_set_add (isStr_of (c:=c) hy) (uq hy) (R.set u.mem) (by change m+1<4096;exact SN hz);let o es ep t ho r:=vU hS;exact⟨⟨S.loc,cells'⟩,R.upd u.app hs ho (eY es ep t r),h⟩
end
end
section
variable{f:Array Value→Array Value}
section
variable{c:Cx} {n:Nat} {S:SS} {α β:Type} {E E':EP} {s:aas} {X:Cells}
abbrev lim:Nat:=1000000
theorem kO(h:k≤lim):(k:Int)<2^63:=adq (agq.mpr h) '2'
theorem aw(h:vs.toList.map ab=xs):vs.size=xs.length:=by subst h;simp
theorem ax(h:k≤lim):k≤ac_:=aab h '2'
theorem Rp.listAt(R:Rp c (S.ext X) s)(h:(l,.list xs)∈S.cells):∃vs k,s.heap.get? l=some {cls:=.type "list",dict:=none,data:=.seq vs k,slots:= #[]}∧vs.toList.map ab=xs:=by let o ho vs m r4 hm:=gS (R.cells _ (aaf _ h));subst r4;exact ba vs m ⟨ho,hm⟩
theorem Rp.c0{o:Obj}{tk:Nat}(R:Rp c (S.ext X) s)(hf:o.isFreed=false)(hc:pY c.w ao o)(iR:autoParam (s.toks≤tk) apT):Rp c (SS.ext ⟨S.loc,(s.heap.objs.size,ao)::S.cells⟩ X) {s with heap:=s.heap.push o,toks:=tk}:=R.alloc (λb o e=>aap _ e) (aak _) (aaG _ hf) hc iR
theorem Eo{l:List Expr}(h:EA c n S l (λxs S1=>xs.length≤lim∧∀a,Q (.ref a) ⟨S1.loc,(a,.list xs)::S1.cells⟩) E):EE c n S (.List l p) Q E:=.i λok X A s hA R=>wpAny_List_spliced (aau ((h p).run ok X A s hA R) (λvs s1 Tv=>by obtain⟨S1,R1,h1,h2⟩:=Tv;exact⟨ax (by rw[aaa]at h1;exact h1),_,R1.c0 (ao:=.list (vs.map ab)) rfl (ba _ _ ⟨rfl,by simp⟩),h2 _⟩) λzz zz x=>x)
theorem kP{l:List Expr}{k}(h:EA c n S l (λxs S1=>xs.length≤lim∧∀a,Q (.ref a) ⟨S1.loc,(a,.tup xs)::S1.cells⟩) E):EE c n S (.Tuple l k p) Q E:=.i λok X A s hA R=>wpAny_Tuple_spliced (aau ((h p).run ok X A s hA R) (λvs s1 Tw=>by obtain⟨S1,R1,h1,h2⟩:=Tw;exact⟨ax (by rw[aaa]at h1;exact h1),_,R1.c0 (ao:=.tup (vs.map ab)) rfl (ba _ _ ⟨rfl,by simp⟩),h2 _⟩) λzz zz x=>x)
theorem oW:∀{l:List Value} {ys:List AV} {z:AV},l.map ab=ys++[z]→(l.eraseIdx ys.length).map ab=ys
 |[],[],_,h=>by cases h
 |[],_::_,_,h=>by cases h
 |v::l,[],z,h=>by simp only[aan,aa0,acr,ad0]at h;let z0 r1:=eA h;subst r1;rfl
 |v::l,y::ys,z,h=>by simp only[aan,aaT,acr]at h;rw[aaF,List.eraseIdx_cons_succ,aan,oW h.2,h.1]
theorem aS{x:AV}(u:aI l (.list xs) (.list (xs++[x])) S.cells cells')(hz:xs.length≤lim)(h:Q .none ⟨S.loc,cells'⟩):bM c n S (.bi "list.append") [.ref l,x] Q E:=λf vs hf bx=>W.of λok X A s hA R=>by obtain rfl:=dT hf;let v y r2 hv r4:=bG (fR bx);subst r2;subst r4;obtain rfl:=aj hv;let ws k ho hm:=cI (R.listAt u.mem);refine af4 ⟨k,ho⟩ (λh' h8 hs=>eE h8 λk' jh=>⟨⟨S.loc,cells'⟩,R.upd u.app hs jh (ba _ _ ⟨rfl,?_⟩),h⟩) (ax (by rw[aw hm];exact hz));rw[aeu,aaj,hm];rfl
theorem kQ(ho:h.get? l=some {cls:=.type "list",dict:=none,data:=.seq vs k,slots:= #[]}):∃k',(h.update l (abb f)).get? l=some {cls:=.type "list",dict:=none,data:=.seq (f vs) k',slots:= #[]}:=⟨_,abl _ ho rfl⟩
theorem oX{y:AV}(u:aI l (.list (ys++[y])) (.list ys) S.cells cells')(hz:ys.length<lim)(h:Q y ⟨S.loc,cells'⟩):bM c n S (.bi "list.pop") [.ref l] Q E:=λf vs hf bx=>W.of λok X A s hA R=>by
 obtain rfl:=dT hf;let v r1 hv:=ak (cP bx);subst r1;obtain rfl:=aj hv;let ws k ho hm:=cI (R.listAt u.mem);have ki:ws.size=ys.length+1:=by rw[aw hm];simp
 let z Yr r2:=ak (mV hm (i:=ws.size-1) (x:=y) (by rw[ki];simp));subst r2;refine afn agH ⟨_,ho,rfl⟩ PySem.F.entry_list_pop (PySem.F.args_list_pop_1 _) (MeetsSeq.list_pop_last l ws k z Yr (ax (by rw[ki];exact hz))) ⟨ho,?_⟩;let k' jh:=eE (kQ (f:=λxs=>xs.eraseIdxIfInBounds (ws.size-1)) ho);refine⟨⟨S.loc,cells'⟩,R.upd u.app (abx ..) jh (ba _ _ ⟨rfl,?_⟩),h⟩;have:(ws.eraseIdxIfInBounds (ws.size-1)).toList=ws.toList.eraseIdx (ws.size-1):=by unfold Array.eraseIdxIfInBounds;rw[dif_pos (by exact Md ki)];simp
 rw[this,show ws.size-1=ys.length by exact aeU ki];exact oW hm
theorem ji{b:Addr}(u:aI l (.list xs) (.list (xs++ys)) S.cells cells')(hb:(b,.list ys)∈S.cells)(hz:xs.length+ys.length≤lim)(h:Q .none ⟨S.loc,cells'⟩):bM c n S (.bi "list.extend") [.ref l,.ref b] Q E:=λf vs hf bx=>W.of λok X A s hA R=>by
 obtain rfl:=dT hf;let v y r2 hv hy:=bG (fR bx);subst r2;obtain rfl:=aj hv;obtain rfl:=aj hy;let ws k ho hm:=cI (R.listAt u.mem);let Rw k2 lQ Ep:=cI (R.listAt hb);have h1:=aw hm;have h2:=aw Ep;refine afn afQ ⟨_,ho,rfl⟩ PySem.F.entry_list_extend (PySem.F.args_list_extend_2 _ _) (AutoSeq1.list_extend_list_list_0 l ws k b Rw k2 ?_ (ax (by exact Me hz h1)) (ab1 (ax (by exact Gm hz h1 h2)))) ⟨ho,lQ,?_⟩;have:afR (ws.size+Rw.size)=false:=by unfold afR;have:=ax (k:=ws.size+Rw.size) (by exact Gm hz h1 h2);simpa using this
 rw[this];simp;let k' jh:=eE (kQ (f:=λxs=>xs++Rw) ho);refine⟨⟨S.loc,cells'⟩,R.upd u.app (abx ..) jh (ba _ _ ⟨rfl,?_⟩),h⟩;rw[acn,aaj,hm,Ep]
theorem wm(u:aI l (.list xs) (.list []) S.cells cells')(hz:xs.length≤lim)(h:Q .none ⟨S.loc,cells'⟩):bM c n S (.bi "list.clear") [.ref l] Q E:=λf vs hf bx=>W.of λok X A s hA R=>by obtain rfl:=dT hf;let v r1 hv:=ak (cP bx);subst r1;obtain rfl:=aj hv;let ws k ho hm:=cI (R.listAt u.mem);refine afn af5 ⟨_,ho,rfl⟩ PySem.F.entry_list_clear (PySem.F.args_list_clear_1 _) (AutoSeq1.list_clear_list_0 l ws k (ax (by rw[aw hm];exact hz))) ⟨ho,?_⟩;let k' jh:=eE (kQ (f:=λzz=> #[]) ho);exact⟨⟨S.loc,cells'⟩,R.upd u.app (abx ..) jh (ba _ _ ⟨rfl,rfl⟩),h⟩
theorem bY(hm:(l,.list xs)∈S.cells)(hz:xs.length≤lim)(h:Q (.int xs.length) S):bM c n S (.bi "len") [.ref l] Q E:=λf vs hf bx=>W.of λok X A s hA R=>by obtain rfl:=dT hf;let v r1 hv:=ak (cP bx);subst r1;obtain rfl:=aj hv;let ws hl hm:=ak (R.list hm);exact call_len_list hl (by rw[aw hm];exact kO hz) ⟨S,R.toks,by rw[aw hm];exact h⟩
theorem oY(hm:(l,.tup xs)∈S.cells)(hz:xs.length≤lim)(h:Q (.int xs.length) S):bM c n S (.bi "len") [.ref l] Q E:=λf vs hf bx=>W.of λok X A s hA R=>by obtain rfl:=dT hf;let v r1 hv:=ak (cP bx);subst r1;obtain rfl:=aj hv;let ws hl hm:=ak (R.tup hm);exact PyProof.Rows.len_tuple hl (by rw[aw hm];exact kO hz) ⟨S,R.toks,by rw[aw hm];exact h⟩
theorem fV(hz:x.length≤lim)(h:Q (.int x.length) S):bM c n S (.bi "len") [.str x] Q E:=λf vs hf bx=>W.of λok X A s hA R=>by obtain rfl:=dT hf;let v r1 hv:=ak (cP bx);subst r1;let t r1:=eE (aD hv);subst r1;exact PySem.P.len_str (by have:=kO hz;exact agi.mpr this) ⟨S,R.toks,h⟩
theorem xy{Q:Bool→SS→Prop}(hm:(l,.list xs)∈S.cells)(hz:xs.length≤lim)(h:Q (!xs.isEmpty) S):TR c n S (.ref l) Q E:=λv hv=>W.of λok X A s hA R=>by
 obtain rfl:=aj hv;let ws hl hm:=ak (R.list hm);refine wpAny_truthy_list hl (by rw[aw hm];exact kO hz) ⟨S,R.toks,?_⟩;have:ws.isEmpty=xs.isEmpty:=by subst hm;rw[ah_,ac7];simp
 rw[this];exact h
theorem rR{Q:Bool→SS→Prop}(hz:x.length≤lim)(h:Q (x.length !=0) S):TR c n S (.str x) Q E:=λv hv=>W.of λok X A s hA R=>by
 let t r1:=eE (aD hv);subst r1;refine PySem.P.truthy_str (by have:=kO hz;exact agi.mpr this) ⟨S,R.toks,?_⟩;have:(((x.length:Nat):Int) !=0)=(x.length !=0):=by rw[ac7];simp
 rw[this];exact h
theorem Er{Q:Bool→SS→Prop}(h:Q false S):TR c n S .none Q E:=λv hv=>W.of λok X A s hA R=>by obtain rfl:=eO hv;exact PyProof.Rows.truthy_none ⟨S,R,h⟩
theorem d4{x:AV}(hm:(l,.list xs)∈S.cells)(hx:xs[k]? =some x)(hz:xs.length≤lim)(h:Q x S):GI c n S (.ref l) (.int k) Q E:=λv u hv hu=>W.of λok X A s hA R=>by
 obtain rfl:=aj hv;let t r1:=eE (aP hu);subst r1;let ws hl hm:=ak (R.list hm);let y hy r2:=ak (mV hm hx);subst r2;have hk:k≤lim:=by have:=(aav.mp hx).1;exact Ar hz this
 exact wpAny_getItem_list hl (by exact abr _) (kO hk) hy ⟨S,R,h⟩
theorem iA{x:AV}(hm:(l,.list (ys++[x]))∈S.cells)(hz:ys.length<lim)(h:Q x S):GI c n S (.ref l) (.int (-1)) Q E:=λv u hv hu=>W.of λok X A s hA R=>by
 obtain rfl:=aj hv;let t r1:=eE (aP hu);subst r1;let ws hl hm:=ak (R.list hm);have hs:ws.size=ys.length+1:=by rw[aw hm];simp
 let y hy r2:=ak (mV hm (i:=ys.length) (x:=x) (by simp));subst r2;refine wpAny_getItem_list_neg hl ?_ ?_ ?_ ?_ ⟨S,R,h⟩<;>first|lia|(rw[hs,←hy];congr 1;exact Mi)
theorem wn{x:AV}(hm:(l,.tup xs)∈S.cells)(hx:xs[k]? =some x)(hz:xs.length≤lim)(h:Q x S):GI c n S (.ref l) (.int k) Q E:=λv u hv hu=>W.of λok X A s hA R=>by
 obtain rfl:=aj hv;let t r1:=eE (aP hu);subst r1;let ws hl hm:=ak (R.tup hm);let y hy r2:=ak (mV hm hx);subst r2;have dc:=(aav.mp hx).1;have hk:k≤lim:=by exact Ar hz dc
 refine PyProof.Rows.getItem_tuple hl (by have:=kO hk;exact Mk this) (kO hk) (j:=k) ?_ hy ⟨S,R,h⟩;unfold seqIndex?;rw[aw hm];simp;lia
theorem IZ{d:Nat}(hx:x.cps[k]? =some d)(hz:x.length≤lim)(h:Q (.str ⟨#[d]⟩) S):GI c n S (.str x) (.int k) Q E:=λv u hv hu=>W.of λok X A s hA R=>by
 let t r1:=eE (aD hv);subst r1;let t' r1:=eE (aP hu);subst r1;have dc:=(abH.mp hx).1;have oZ:k<x.length:=dc;have hk:k≤lim:=by exact Ar hz oZ
 refine PySem.P.getItem_str (c:=d) (by simp;lia) ?_ ⟨S,R.toks,h⟩;unfold seqIndex?;simp[(by exact aeK.mpr (abr _):¬((k:Int)<0)),oZ,hx]
end
end
section
section
variable{c:Cx} {n:Nat} {S:SS} {α β:Type} {E E':EP} {s:aas} {X:Cells}
def jk:Expr→Bool| .Slice .. =>false|_=>true
theorem rS(T id:String)(hl:aeL (.type T) "__getitem__"=pure (some (.builtin id)))(h:EE c n S value (λa S1=>EE c n S1 slice (λb S2=>oU S2 a T∧GI c n S2 a b Q E) E) E) (hs:autoParam (jk slice=true) apR):EE c n S (.Subscript value slice p) Q E:=.i λok X A s hA R=>by
 refine Subscript_ (h.st ok X A s hA R λo s1 S1 R1 h1=>h1.st ok X A s1 hA R1 λi s2 S2 R2 h8=>eA h8 λhT h2=>?_);have Xa:=(hT.is R2).1;unfold subscriptTail;show aac;rw[agI Xa.not_modules];refine aac (acM Xa hl ?_);have ui:subscripted slice false o i=operate [o,i] (getItem o i):=by cases slice<;>first|rfl|cases hs
 have fin:wpAny (model prog c.w) A (subscripted slice false o i) (λr s₃=>wpAny (model prog c.w) A (afo value o r>>=λzz=>pure r) (QX c X λv=>Q (ab v)) (EX c X E) s₃) (EX c X E) s2:=by rw[ui];exact wpAny_operating (aau ((h2 o i rfl rfl).run ok X A s2 hA R2) (λr s₃ h₃=>aac (adO (aal h₃))) λzz zz x=>x)
 first
  |exact aal (aac fin)
  |exact aac (aal (aac fin))
  |exact aac fin
def PE(c:Cx)(n:Nat)(S:SS)(x:Option Expr)(Q:AV→SS→Prop)(E:EP):Prop:=W c n S (evalPart x c.env) (λv=>Q (ab v)) E
theorem jA(h:Q .none S):PE c n S none Q E:=W.pure h
theorem iB{e:Expr}(h:EE c n S e Q E):PE c n S (some e) Q E:=h
def mX:Option Int→AV|none=>.none|some i=>.int i
def pick{α:Type}(xs:List α)(lo hi:Option Int):List α:=(sliceRange (afE lo hi none xs.length).1 (afE lo hi none xs.length).2.1 (afE lo hi none xs.length).2.2).filterMap (xs[·]?)
theorem Bn(h:vs.toList.map ab=xs)(lo hi:Option Int):(slicePick vs lo hi none).toList.map ab=pick xs lo hi:=by subst h;unfold slicePick pick;rw[aaa,aaQ,adi,List.map_filterMap];congr 1;funext i;simp
theorem GY{lo:Option Int}(h:ab v=mX lo):IsPart v lo:=by cases lo with|none=>rw[eO h];exact .none|some i=>let t r1:=eE (aP h);subst r1;exact .int i t
def Tx(c:Cx)(S:SS)(l:Addr)(xs:List AV):Prop:=∀X s,Rp c (S.ext X) s→∃vs,s.heap.IsList l vs∧vs.toList.map ab=xs
theorem kR(h:EE c n S value (λa S1=>PE c n S1 lower (λx S2=>PE c n S2 upper (λy S3=>∃l xs lo hi,a= .ref l∧Tx c S3 l xs∧x=mX lo∧y=mX hi∧xs.length≤lim∧∀b,Q (.ref b) ⟨S3.loc,(b,.list (pick xs lo hi))::S3.cells⟩) E) E) E)(ht:autoParam (∀o r,afo value o r=pure ()) apR):EE c n S (.Subscript value (.Slice lower upper none p) p') Q E:=.i λok X A s hA R=>by refine wpAny_Subscript_list_slice (h.st ok X A s hA R λo s1 S1 R1 h1=>h1.st ok X A s1 hA R1 λx s2 S2 R2 h2=>h2.st ok X A s2 hA R2 λy s3 S3 R3 Ys=>oy Ys λl xs lo hi h3 h4 h5 h6 h7 h8=>?_) ht;obtain rfl:=aj h3;let vs hl hm:=ak (h4 X s3 R3);refine p4 l vs lo hi ⟨rfl,hl,ax (by rw[aw hm];exact h7),GY h5,GY h6,_,?_,h8 (s3.heap.objs.size+1)⟩;have R4:=R3.keeps (h':=s3.heap.push {cls:=.type "slice",data:=.fields #[x,y,.none]}) (tk:=s3.toks) (λb o e=>aap _ e);have R5:=R4.c0 (S:=S3) (ao:=.list (pick xs lo hi)) (o:={cls:=.type "list",data:=.seq (slicePick vs lo hi none)}) (tk:=s3.toks) rfl (ba _ _ ⟨rfl,Bn hm lo hi⟩);rw[acG]at R5;exact R5
theorem cY(h:EE c n S value (λa S1=>PE c n S1 lower (λx S2=>PE c n S2 upper (λy S3=>∃l xs lo hi,a= .ref l∧(l,.list xs)∈S3.cells∧x=mX lo∧y=mX hi∧xs.length≤lim∧∀b,Q (.ref b) ⟨S3.loc,(b,.list (pick xs lo hi))::S3.cells⟩) E) E) E)(ht:autoParam (∀o r,afo value o r=pure ()) apR):EE c n S (.Subscript value (.Slice lower upper none p) p') Q E:=kR (W.az h λzz zz k1=>W.az k1 λzz zz k2=>W.az k2 λzz zz k3=>nW k3 λl xs lo hi h1 h2 h=>(p4 l xs lo hi ⟨h1,λzz zz R=>R.list h2,h⟩)) ht
def b8(x:Str)(lo hi:Option Int):Str:=if(adJ lo hi 1 x.length).length==x.length then x else⟨((adJ lo hi 1 x.length).filterMap (x.cps[·]?)).toArray⟩
theorem GZ{lo:Option Int}(h:ab v=mX lo):∃l,v=partValue l∧l.map (λx=>x.1)=lo:=by cases lo with|none=>exact⟨none,eO h,rfl⟩|some i=>let t r1:=eE (aP h);subst r1;exact⟨some (i,t),rfl,rfl⟩
theorem gw{b:Addr}(hl:(l,.list xs)∈S.cells)(hb:(b,.list ys)∈S.cells)(hz:xs.length+ys.length≤lim)(h:∀a,Q (.ref a) ⟨S.loc,(a,.list (xs++ys))::S.cells⟩):BO c n S .Add (.ref l) (.ref b) Q E:=λv w hv hw=>W.of λok X A s hA R=>by obtain rfl:=aj hv;obtain rfl:=aj hw;let vs k ho hm:=cI (R.listAt hl);let ws k2 lQ Ep:=cI (R.listAt hb);refine concat_meets ⟨_,ho,rfl⟩ ⟨_,lQ,rfl⟩ noFill_list_add seq_list_add PySem.F.slot_list_add PySem.F.entry_list_add (PySem.F.args_list_add_2 _ _) (list_addW l b vs ws k k2 none none #[] #[] (ax (by rw[aw hm,aw Ep];exact hz))) ⟨ho,lQ,?_⟩;exact⟨_,R.c0 (ao:=.list (xs++ys)) rfl (ba _ _ ⟨rfl,by rw[acn,aaj,hm,Ep]⟩),h _⟩
theorem jX(hl:(l,.list xs)∈S.cells)(hz:xs.length≤lim)(h:∀a,Q (.ref a) ⟨S.loc,(a,.tup xs)::S.cells⟩):bM c n S (.type "tuple") [.ref l] Q E:=λf vs hf bx=>W.of λok X A s hA R=>by obtain rfl:=bI hf;let v r1 hv:=ak (cP bx);subst r1;obtain rfl:=aj hv;let ws hl hm:=ak (R.list hl);refine call_tuple_list hl (λh' hk=>?_) (ax (by rw[aw hm];exact hz));have R4:=R.keeps (h':=h') (tk:=s.toks) hk;exact⟨_,R4.c0 (S:=S) (ao:=.tup xs) (tk:=s.toks) rfl (ba _ _ ⟨rfl,hm⟩),h _⟩
end
end
section
variable{Q:FL→SS→Prop} {o i:Expr} {v:AV}
section
variable{c:Cx} {n:Nat} {S:SS} {α β:Type} {E E':EP} {s:aas} {X:Cells}
theorem W.ok{t:Sem α}{Q:α→SS→Prop}(h:c.Ok→W c n S t Q E):W c n S t Q E:=.i λok X A s hA R=>(h ok).run ok X A s hA R
theorem Es{e:Expr}(h:EE c n S e (λzz S1=>Q .next S1) E)(hs:autoParam (ac6 e none p.line c.env=pure false) apR):ES c n S (.Expr e p) Q E:=.i λok X A s hA R=>
 wpAny_Expr_any (h.run ok X A s hA R) (by change(c.env.scope.kind== .module&&_)=false;rw[ok.kind];rfl) hs
def SA(c:Cx)(n:Nat)(S:SS)(o x:AV)(nm:Str)(Q:SS→Prop)(E:EP):Prop:=∀v y,ab v=o→ab y=x→W c n S (setAttr v nm y) (λzz=>Q) E
def GA(c:Cx)(n:Nat)(S:SS)(o:AV)(nm:Str)(Q:AV→SS→Prop)(E:EP):Prop:=∀v,ab v=o→W c n S (ahR v nm true) (λr=>Q (ab r)) E
theorem fW{nm:Str}(h:EE c n S value (λx S1=>EE c n S1 o (λa S2=>SA c n S2 a x nm (Q .next) E) E) E)(hs:autoParam (ac6 value (some (.Attribute o nm p')) p.line c.env=pure false) apR):ES c n S (.Assign [.Attribute o nm p'] value p) Q E:=.i λok X A s hA R=>
 plainObj_wpAny_Assign_Attribute (h.st ok X A s hA R λv s1 S1 R1 h1=>h1.st ok X A s1 hA R1 λov s2 S2 R2 h2=>(h2 ov v rfl rfl).run ok X A s2 hA R2) hs
theorem jY(h:EE c n S value (λx S1=>EE c n S1 o (λa S2=>EE c n S2 i (λb S3=>SI c n S3 a b x (Q .next) E) E) E) E)(hs:autoParam (ac6 value (some (.Subscript o i p')) p.line c.env=pure false) apR):ES c n S (.Assign [.Subscript o i p'] value p) Q E:=.i λok X A s hA R=>
 wpAny_Assign_Subscript (h.st ok X A s hA R λv s1 S1 R1 h1=>h1.st ok X A s1 hA R1 λov s2 S2 R2 h2=>h2.st ok X A s2 hA R2 λiv s3 S3 R3 h3=>(h3 ov iv v rfl rfl rfl).run ok X A s3 hA R3) hs
def AS(c:Cx)(n:Nat)(S:SS)(t:Expr)(x:AV)(Q:SS→Prop)(E:EP):Prop:=∀v,ab v=x→W c n S (agr t c.env v) (λzz=>Q) E
theorem cA{Q:SS→Prop}(hx:dA x v S.loc l')(h:Q ⟨l',S.cells⟩):AS c n S (.Name x p) v Q E:=λu hu=>.i λok X A s hA R=>by subst hu;exact aev ((eZ (Q:=λzz=>Q) hx h).run ok X A s hA R)
theorem I1{Q:SS→Prop}(h:EE c n S o (λa S2=>EE c n S2 i (λb S3=>SI c n S3 a b v Q E) E) E):AS c n S (.Subscript o i p) v Q E:=λu hu=>by rw[assign_Subscript];refine W.bind (W.holding (W.az h λov S2 h2=>W.bind (W.holding (W.az h2 λiv S3 h3=>W.bind (W.standAt (W.bind (W.holding ((h3 ov iv u rfl rfl hu).az λzz S4 k=>?_))))))));exact .i λok X A s hA R=>wpAny_release ⟨S4,R,k⟩
theorem qa{t₁ t₂:Expr}(h:EE c n S value (λv S1=>AS c n S1 t₁ v (λS2=>AS c n S2 t₂ v (Q .next) E) E) E)(he:autoParam ((aiI [t₁,t₂] c.env).map (λx=>x.2)=[agr t₁ c.env,agr t₂ c.env]) apR)(hw:autoParam (swappedStores [t₁,t₂] value c.env=pure none) apR):ES c n S (.Assign [t₁,t₂] value p) Q E:=.i λok X A s hA R=>
 wpAny_Assign_two (h.st ok X A s hA R λv s1 S1 R1 h1=>aau ((h1 v rfl).run ok X A s1 hA R1) (λzz s2 Ty=>by obtain⟨S2,R2,h2⟩:=Ty;exact(h2 v rfl).run ok X A s2 hA R2) λzz zz x=>x) he hw
theorem ur{Q:AV→SS→Prop}(h:EE c n S value (λv S1=>∃l',dA x v S1.loc l'∧Q v ⟨l',S1.cells⟩) E):EE c n S (.NamedExpr (.Name x p) value p') Q E:=.i λok X A s hA R=>wpAny_NamedExpr (h.st ok X A s hA R λv s1 S1 R1 h8=>ak h8 λl' h1 h2=>(cA (n:=n) (Q:=λS=>Q (ab v) S) (p:=p) h1 h2 v rfl).run ok X A s1 hA R1)
theorem I3{a:AV}(hx:(x,some a)∈S.loc)(h:EE c n S value (λb S2=>IO c n S2 op a b (λr S3=>∃l',dA x r S3.loc l'∧Q .next ⟨l',S3.cells⟩) E) E):ES c n S (.AugAssign (.Name x p) op value p') Q E:=.i λok X A s hA R=>by
 let m hn hl:=ak R.ns;have q:=hl _ hx;let hk hd:=eA (R.lk x (aat (f:=(λx=>x.1)) hx));cases hv:m x with
 |none=>rw[hv]at q;cases q
 |some u=>rw[hv]at q;obtain rfl:ab u=a:=aaJ q;refine wpAny_AugAssign_Name (agT ok.kind hk (ok.eL▸hn) hv (h.st ok X A s hA R λw s2 S2 R2 h2=>aau ((h2 u w rfl rfl).run ok X A s2 hA R2) (λr s3 Tz=>?_) λzz zz x=>x));obtain⟨S3,R3,l',h3,h4⟩:=Tz;exact(eZ (Q:=λzz=>Q .next) h3 h4).run ok X A s3 hA R3
theorem mY{nm:Str}(h:EE c n S o (λa S1=>GA c n S1 a nm (λold S2=>EE c n S2 value (λb S3=>IO c n S3 op old b (λr S4=>SA c n S4 a r nm (Q .next) E) E) E) E) E):ES c n S (.AugAssign (.Attribute o nm p) op value p') Q E:=.i λok X A s hA R=>
 wpAny_AugAssign_AttributeAny (h.st ok X A s hA R λov s1 S1 R1 h1=>aau ((h1 ov rfl).run ok X A s1 hA R1) (λold s2 h8=>h8.el λS2 R2 h2=>h2.st ok X A s2 hA R2 λw s3 S3 R3 h3=>
  aau ((h3 old w rfl rfl).run ok X A s3 hA R3) (λr s4 Yt=>by obtain⟨S4,R4,h4⟩:=Yt;exact(h4 ov r rfl rfl).run ok X A s4 hA R4) λzz zz x=>x) λzz zz x=>x)
theorem wo(h:EE c n S o (λa S1=>EE c n S1 i (λb S2=>DI c n S2 a b (Q .next) E) E) E):ES c n S (.Delete [.Subscript o i p] p') Q E:=.i λok X A s hA R=>
 wpAny_Delete (wpAny_deleteEach_cons (delete_Subscript (h.st ok X A s hA R λv s1 S1 R1 h1=>h1.st ok X A s1 hA R1 λw s2 S2 R2 h2=>
  aau ((h2 v w rfl rfl).run ok X A s2 hA R2) (λzz s3 k3=>wpAny_deleteEach_nil k3) λzz zz x=>x)))
theorem Rp.newExc{e:Addr}{cls:Value}{o:Obj}(R:Rp c (S.ext X) s)(k:∀b o,s.heap.get? b=some o→h'.get? b=some o)(hf:s.heap.get? e=none)(he:h'.get? e=some o)(hc:o.cls=cls)(hd:o.data= .fields vs)(h1:vs[1]? =some .none):Rp c (S.ext X) {s with heap:=h'}∧p9 c cls e (S.ext X) h':=by
 refine⟨R.keeps k,?_,λq=>?_,o,vs,he,hc,hd,.inl h1⟩;cases q:c.base.get? e with|none=>rfl|some o=>rw[R.stays e o q]at hf;cases hf
 let p hp r2:=ak (aaH.mp q);subst r2;let o ho z2:=ak (R.cells p hp);rw[ho]at hf;cases hf
theorem h_{cls:String}(F:ExcCallFacts cls newId initId)(G:ExcRaiseFacts cls){pos:Pos}(hd:c.hd=none)(h:EE c n S (.Name x np) (λf S1=>f= .type cls∧EA c n S1 args (λas S2=>as.length≤lim∧E (.type cls) S2) E) E) (hs:autoParam (args.all aV=true) apR):ES c n S (.Raise (some (.Call (.Name x np) args [] cpos)) none pos) Q E:=.i λok X A s hA R=>by refine wpAny_Raise_call F G (In.hd hA hd) (bF hs) (h.st ok X A s hA R λf s1 S1 R1 h8=>eA h8 λh1 h2=>⟨bI h1,bV (bF hs) (aau ((h2 cpos).run ok X A s1 hA R1) (λvs s2 h8=>h8.el λS2 R2 h7=>eA h7 λh3 h4=>⟨rfl,?_,λh' e hm=>?_⟩) λzz zz x=>x)⟩);rw[aaa]at h3;exact ax h3;let t ht z2 z3:=bN hm.there;let a b:=eA (R2.newExc hm.keeps hm.new ht rfl rfl rfl);exact⟨e,_,S2,rfl,b,a,h4⟩
end
end
section
variable{h₀:afL} {Q:FL→SS→Prop} {k:Value} {C:Addr}
section
variable{c:Cx} {n:Nat} {S:SS} {α β:Type} {E E':EP} {s:aas} {X:Cells}
abbrev Cx.hand(c:Cx)(e:Addr):Cx:={c with hd:=some (.ref e)}
theorem Cx.Ok.hand(ok:c.Ok)(e:Addr):(c.hand e).Ok:=⟨ok.eH,ok.eL,ok.eg,ok.eb,ok.kind,ok.fr,ok.above,ok.aC,ok.gl⟩
theorem Rp.hand(R:Rp c S s)(e:Addr):Rp (c.hand e) S s:=⟨R.stays,R.ns,R.aC,R.cells,R.fresh,R.nd,R.kK,R.lk,R.gens,R.os,R.tk⟩
theorem Rp.I6{e:Addr}(R:Rp (c.hand e) S s):Rp c S s:=⟨R.stays,R.ns,R.aC,R.cells,R.fresh,R.nd,R.kK,R.lk,R.gens,R.os,R.tk⟩
def I7(w:World)(K:Frag)(k T:Value)(b:Bool):Prop:=∀(s:aas) (A:ads) (e:Addr) (oe:Obj) (Q:Bool→aas→Prop) (E:Value→aas→Prop),K.In s.heap→s.heap.get? e=some oe→oe.cls=k→Q b s→wpAny (model prog w) A (excMatches (.ref e) T) Q E s
def HB(c:Cx)(n:Nat)(S:SS)(k:Value)(hs:List afL)(Q:FL→SS→Prop)(E:EP):Prop:=
 c.Ok→∀X A s e,c.In A n→Rp c (S.ext X) s→rK c k e (S.ext X) s.heap (·=some .none)→wpAny (model prog c.w) A (handleBy (.ref e) c.env hs) (QX c X λf=>Q (OE f))
  (EX c X E) s
theorem jl{hs:List afL}(h:EB c n S body (λf S1=>match f with| .next=>EB c n S1 orelse Q E|f=>Q f S1) (λk S1=>HB c n S1 k (h₀::hs) Q E)) (hc:autoParam (c.comp=false) apA):ES c n S (.Try body (h₀::hs) orelse [] p) Q E:=.i λok X A s hA R=>by
 refine wpAny_Try_except (aau (h.run ok X A s hA R) (λf s1 h8=>h8.el λS1 R1 h1=>?_) λx s1 h8=>h8.el λe k S1 hx F R1 h1=>?_)
 ·cases f with|next=>exact h1.run ok X A s1 hA R1|brk=>exact⟨S1,R1,h1⟩|cont=>exact⟨S1,R1,h1⟩|ret v=>exact⟨S1,R1,h1⟩
 subst hx;exact jz ok hc hA.1 R1 F λh' R2 F2=>h1 ok X A _ e hA R2 F2
theorem Et{Q:Value→aas→Prop}{E:Value→aas→Prop}(ok:c.Ok)(R:Rp c S s)(hm:(x,v)∈c.fx.gl)(h:Q v s):wpAny (model prog c.w) A (eval (.Name x p) c.env) Q E s:=by let hx hd hv:=pX (ok.gl _ hm);rcases hv with hv|⟨h1,h2,h3⟩;exact adN ok.kind hx (loadGlobal_global (env:=c.env) (ok.eg▸ok.eH.g.keeps R.stays) hv h) hd;exact adN ok.kind hx (ahv (env:=c.env) (ok.eg▸ok.eH.g.keeps R.stays) h1 (ok.eb▸ok.eH.b.keeps R.stays) ((ok.eH.bi x h3).trans h2) h) hd
theorem n8{T:Value}{xp:Pos}(hx:(x,T)∈c.fx.gl)(hm:I7 c.w c.K k T b)(h:if b=true then∀e,EB (c.hand e) n S (b₀::suite) Q hW else HB c n S k rest Q E):HB c n S k (.ExceptHandler (some (.Name x xp)) none (b₀::suite) p::rest) Q E:=λok X A s e hA R F=>by have qJ:(c.hand e).In (A.mark (some (.ref e))) n:=⟨hA.1,rfl,hA.2.2.1,hA.2.2.2⟩;refine wpAny_handleBy_cons (codeAny_handlers_test (Et ok R hx ?_)) (by intro q;cases q);let q1 q2 oe vs he hk r:=xf (id F);show hm s _ e oe _ _ (fQ ok R) he hk;cases b with|true=>refine codeAny_handlers_suite (oL none R F λh' R2 F2=>?_);exact aau ((h e).run (ok.hand e) X _ _ qJ (R2.hand e)) (λf s' TA=>by obtain⟨S',R',k⟩:=TA;exact⟨S',R'.I6,k⟩) λzz zz h8=>h8.el λz0 z1 z2 z3 z4 z5 hf=>hf.elim|false=>exact h ok X A s e hA R F
theorem rT{K:Frag}(x:K.In h)(e:isClsIn K C=true):Looks M h (isType (.ref C)) true:=by unfold isClsIn clsIn at e;split at e;rename_i ho;exact(aiJ (part:=some headPart) (x _ _ ho)).andThen .now;cases e
theorem ut{K:Frag}{X:String}(bz:acU (.type T) (.type "BaseException")=pure true)(Yu:acU (.type ((afp T).elim "type" λx=>x.metatype)) (.type "tuple")=pure false)(ui:acU (.type X) (.type T)=pure b):I7 w K (.type X) (.type T) b:=λs A e oe Q E hK he hc hQ=>wpAny_excMatches_type ⟨oe,he,hc⟩ bz Yu ui hQ
theorem G0{K:Frag}{mt:Value}(h1:aiH K (.ref C)=some mt)(h2:subIn K mt (.type "tuple")=some false)(h3:isClsIn K C=true)(h4:subIn K (.ref C) (.type "BaseException")=some true)(h5:subIn K k (.ref C)=some b):I7 w K k (.ref C) b:=λs A e oe Q E hK he hc hQ=>by
 refine aac (aac ((looks_typeIn hK h1).here ((aim hK h2).here ?_)));with_reducible refine qF '2' ?_
 refine aac (aal ?_);simp only[];rw[ae3];refine aac (aac (aac (aac (rT hK h3|>.here ?_))));with_reducible refine II rfl ?_
 show(aim hK h4).here;with_reducible refine qF '2' ?_
 show aal;simp only[aew];show aal;refine aac (wpAny_typeOf_ref he ?_);rw[ae3,hc];refine aac (aac (aac ((aim hK h5).here ?_)));cases b with|true=>exact aal (aal (aal hQ))|false=>show aal;simp only[aew];exact aal (aal hQ)
end
end
section
open PySem.SeqAt
variable{xs:List Str} {k:Str} {m:Nat} {ws:Array Value} {b:Addr}
section
variable{c:Cx} {n:Nat} {S:SS} {α β:Type} {E E':EP} {s:aas} {X:Cells}
def mZ(k:Str):Value→Bool| .str y _=>y==k|_=>false
theorem o0(h:vs.toList.map ab=xs.map .str)(k:Str):vs.any (mZ k)=xs.contains k:=by rw[←Array.any_toList];generalize vs.toList=l at h;induction xs generalizing l with|nil=>rw[acE,ad0]at h;subst h;rfl|cons x xs ih=>let v r r2 h1 h2:=bG (abL.mp h);subst r2;let t r1:=eE (aD h1);subst r1;rw[aho,ih r h2,ahC];congr 1;change(x==k)=(k==x);rw[ac7,beq_iff_eq,beq_iff_eq];exact⟨λe=>e.symm,λe=>e.symm⟩
theorem jm(h:vs.toList.map ab=xs.map .str){y:Value}(hy:y∈vs):∃x t,y= .str x t:=by
 have:ab y∈xs.map AV.str:=by rw[←h];exact aat (Array.mem_toList_iff.mpr hy)
 let x z1 e:=ak (aaH.mp this);let t r1:=eE (aD e.symm);subst r1;exact ba x t rfl
theorem km(hl:(l,.list (xs.map .str))∈S.cells)(h:Q (.bool (xs.contains k)) S):CO c n S .In (.str k) (.ref l) Q E:=λu v hu hv=>W.of λok X A s hA R=>by obtain rfl:=aj hv;let t r1:=eE (aD hu);subst r1;let vs hl hm:=ak (R.list hl);refine in_listAt (mZ k) hl (λy hy=>?_) ⟨S,R,by rw[o0 hm];exact h⟩;let x t' r2:=DP (jm hm hy);subst r2;exact EqAt.str_str x t' k t
theorem eP(hl:(l,.list (xs.map .str))∈S.cells)(h:Q (.bool (!xs.contains k)) S):CO c n S .NotIn (.str k) (.ref l) Q E:=λu v hu hv=>W.of λok X A s hA R=>by obtain rfl:=aj hv;let t r1:=eE (aD hu);subst r1;let vs hl hm:=ak (R.list hl);refine notIn_listAt (mZ k) hl (λy hy=>?_) ⟨S,R,by rw[o0 hm];exact h⟩;let x t' r2:=DP (jm hm hy);subst r2;exact EqAt.str_str x t' k t
theorem uu(hl:(l,.tup (xs.map .str))∈S.cells)(h:Q (.bool (xs.contains k)) S):CO c n S .In (.str k) (.ref l) Q E:=λu v hu hv=>W.of λok X A s hA R=>by obtain rfl:=aj hv;let t r1:=eE (aD hu);subst r1;let vs hl hm:=ak (R.tup hl);refine in_tupleAt (mZ k) hl (λy hy=>?_) ⟨S,R,by rw[o0 hm];exact h⟩;let x t' r2:=DP (jm hm hy);subst r2;exact EqAt.str_str x t' k t
def Bo(x y:Str):Bool:= !(Builtin.Str.occurrences x y 0 x.length 1).isEmpty
theorem y9(h:Q (.bool (Bo x y)) S):CO c n S .In (.str y) (.str x) Q E:=λu v hu hv=>W.of λok X A s hA R=>by let t r1:=eE (aD hu);subst r1;let t' r1:=eE (aD hv);subst r1;exact PyProof.Rows.in_str ⟨S,R,h⟩
theorem rU(h:Q (.bool (!Bo x y)) S):CO c n S .NotIn (.str y) (.str x) Q E:=λu v hu hv=>W.of λok X A s hA R=>by let t r1:=eE (aD hu);subst r1;let t' r1:=eE (aD hv);subst r1;exact PyProof.Rows.notIn_str ⟨S,R,h⟩
def Dq(c:Cx)(m:Nat)(S:SS)(x y:AV)(b:Bool):Prop:=∀X A s,A.units+m<cLine→Rp c (S.ext X) s→∀v w,ab v=x→ab w=y→EqAt A s v w b
theorem Eu:Dq c m S (.str x) (.str y) (x==y):=λX A s hA R v w hv hw=>by let t r1:=eE (aD hv);subst r1;let u r1:=eE (aD hw);subst r1;exact EqAt.str_str x t y u
def eqs(f:AV→AV→Bool):List AV→List AV→Bool|[],[]=>true|x::xs,y::ys=>f x y&&eqs f xs ys|_,_=>false
theorem kS:∀{xs ys:List AV},xs.length≠ys.length→eqs f xs ys=false|[],[],h=>(h rfl).elim|[],_::_,_=>rfl|_::_,[],_=>rfl|x::xs,y::ys,h=>by change(f x y&&eqs f xs ys)=false;rw[kS (xs:=xs) (ys:=ys) (by simpa using h),agY]
theorem o5:∀{xs ys:List AV},xs.length=ys.length→(abu xs.length).all (λj=>match xs[j]?,ys[j]? with|some a,some b=>f a b|_,_=>false)=eqs f xs ys
 |[],[],_=>rfl
 |x::xs,y::ys,h=>by
  rw[aaF,List.range_succ_eq_map,adB,List.all_map]
  change(f x y&&_)=(f x y&&eqs f xs ys)
  rw[←o5 (by simpa using h:xs.length=ys.length)];rfl
def TB(f:AV→AV→Bool)(xs ys:List AV)(j:Nat):Bool:=match xs[j]?,ys[j]? with|some a,some b=>f a b|_,_=>false
theorem o7{xs:List AV}(hA:A.units+m<cLine)(R:Rp c (S.ext X) s)(h1:vs.toList.map ab=xs)(h2:ws.toList.map ab=ys)(hf:∀x∈xs,∀y∈ys,Dq c m S x y (f x y)):∀j (j1:j<vs.size) (j2:j<ws.size),EqAt A s vs[j] ws[j] (TB f xs ys j):=λj j1 j2=>by
 subst h1 h2;have e1:(vs.toList.map ab)[j]? =some (ab vs[j]):=by simp[j1]
 have e2:(ws.toList.map ab)[j]? =some (ab ws[j]):=by simp[j2]
 unfold TB;rw[e1,e2];exact hf _ (aaA e1) _ (aaA e2) X A s hA R _ _ rfl rfl
theorem Bp{xs:List AV}(hl:(l,.list xs)∈S.cells)(hb:(b,.list ys)∈S.cells)(gU:l≠b)(hf:∀x∈xs,∀y∈ys,Dq c m S x y (f x y)):Dq c (m+1) S (.ref l) (.ref b) (eqs f xs ys):=λX A s hA R v w hv hw=>by obtain rfl:=aj hv;obtain rfl:=aj hw;let vs hl h1:=ak (R.list hl);let ws hb h2:=ak (R.list hb);show EqAt.of_refs gU;by_cases q:xs.length=ys.length;have:=RcAt.lists (A:=A) hl hb (by rw[aw h1,aw h2,q]) (by exact Lf hA) (o7 (A:=A.in1) (m:=m) (by change A.units+1+m<_;exact Rq hA) R h1 h2 hf);rw[aw h1]at this;rw[←o5 q];exact this;rw[kS q];exact RcAt.lists_lengths hl hb (by rw[aw h1,aw h2];simpa using q) (by exact Lf hA)
theorem o8{xs:List AV}(hl:(l,.list xs)∈S.cells)(hb:(b,.list ys)∈S.cells)(hf:∀x∈xs,∀y∈ys,Dq c m S x y (f x y))(h:Q (.bool (eqs f xs ys)) S)(hn:m+1≤8*n):CO c n S .Eq (.ref l) (.ref b) Q E:=λv w hv hw=>W.of λok X A s hA R=>by obtain rfl:=aj hv;obtain rfl:=aj hw;let vs hl h1:=ak (R.list hl);let ws hb h2:=ak (R.list hb);have hu:=hA.2.2.2;by_cases q:xs.length=ys.length;refine eq_listAt hl hb (by rw[aw h1,aw h2,q]) (by exact qA hu) (o7 (A:=A.in1) (m:=m) (by change A.units+1+m<_;exact xd hn hu) R h1 h2 hf) ⟨S,R,?_⟩;rw[aw h1];rw[←o5 q]at h;exact h;rw[kS q]at h;exact eq_list_lengthsAt hl hb (by rw[aw h1,aw h2];simpa using q) (by exact qA hu) ⟨S,R,h⟩
theorem fX{xs:List AV}(hl:(l,.list xs)∈S.cells)(hb:(b,.list ys)∈S.cells)(hf:∀x∈xs,∀y∈ys,Dq c m S x y (f x y))(h:Q (.bool (!eqs f xs ys)) S)(hn:m+1≤8*n):CO c n S .NotEq (.ref l) (.ref b) Q E:=λv w hv hw=>W.of λok X A s hA R=>by obtain rfl:=aj hv;obtain rfl:=aj hw;let vs hl h1:=ak (R.list hl);let ws hb h2:=ak (R.list hb);have hu:=hA.2.2.2;by_cases q:xs.length=ys.length;refine RcNeAt.lists hl hb (by rw[aw h1,aw h2,q]) (by exact qA hu) (o7 (A:=A.in1) (m:=m) (by change A.units+1+m<_;exact xd hn hu) R h1 h2 hf) _ _ _ _ ⟨S,R,?_⟩;rw[aw h1];rw[←o5 q]at h;exact h;rw[kS q]at h;exact RcNeAt.lists_lengths hl hb (by rw[aw h1,aw h2];simpa using q) (by exact qA hu) _ _ _ _ ⟨S,R,h⟩
theorem xz{xs:List AV}(h1:vs.size=xs.length)(h2:ws.size=ys.length):((abu (min vs.size ws.size)).all (TB f xs ys)&&vs.size==ws.size)=eqs f xs ys:=by rw[h1,h2];by_cases q:xs.length=ys.length;rw[q,Nat.min_self,beq_self_eq_true,Bool.and_true,←q];exact o5 q;rw[kS q,beq_eq_false_iff_ne.mpr q,agY]
theorem y_{xs:List AV}(hl:(l,.tup xs)∈S.cells)(hb:(b,.tup ys)∈S.cells)(hf:∀x∈xs,∀y∈ys,Dq c m S x y (f x y))(h:Q (.bool (eqs f xs ys)) S)(hn:m+1≤8*n):CO c n S .Eq (.ref l) (.ref b) Q E:=λv w hv hw=>W.of λok X A s hA R=>by obtain rfl:=aj hv;obtain rfl:=aj hw;let vs hl h1:=ak (R.tup hl);let ws hb h2:=ak (R.tup hb);have hu:=hA.2.2.2;exact eq_tupleAt hl hb (by exact qA hu) (o7 (A:=A.in1) (m:=m) (by change A.units+1+m<_;exact xd hn hu) R h1 h2 hf) ⟨S,R,by rw[xz (aw h1) (aw h2)];exact h⟩
theorem qP{xs:List AV}(hl:(l,.tup xs)∈S.cells)(hb:(b,.tup ys)∈S.cells)(hf:∀x∈xs,∀y∈ys,Dq c m S x y (f x y))(h:Q (.bool (!eqs f xs ys)) S)(hn:m+1≤8*n):CO c n S .NotEq (.ref l) (.ref b) Q E:=λv w hv hw=>W.of λok X A s hA R=>by obtain rfl:=aj hv;obtain rfl:=aj hw;let vs hl h1:=ak (R.tup hl);let ws hb h2:=ak (R.tup hb);have hu:=hA.2.2.2;exact RcNeAt.tuples hl hb (by exact qA hu) (o7 (A:=A.in1) (m:=m) (by change A.units+1+m<_;exact xd hn hu) R h1 h2 hf) _ _ _ _ ⟨S,R,by rw[xz (aw h1) (aw h2)];exact h⟩
def G1:AV→AV→Bool| .str x,.str y=>x==y|_,_=>false
theorem jo:∀{xs ys:List Str},eqs G1 (xs.map .str) (ys.map .str)=(xs==ys)|[],[]=>rfl|[],_::_=>rfl|_::_,[]=>rfl|x::xs,y::ys=>by change((x==y)&&eqs G1 (xs.map .str) (ys.map .str))=_;rw[jo];rfl
theorem kT{ys:List Str}:∀x∈xs.map AV.str,∀y∈ys.map AV.str,Dq c m S x y (G1 x y):=by intro x hx y hy;let x z1 r2:=ak (aaH.mp hx);subst r2;let y z1 r2:=ak (aaH.mp hy);subst r2;exact Eu
end
end
section
variable{Q:Bool→SS→Prop}
section
variable{c:Cx} {n:Nat} {S:SS} {α β:Type} {E E':EP} {s:aas} {X:Cells}
theorem Ev{x:Str}{v:AV}{Q:AV→SS→Prop}(hk:c.env.kindOf x=some .cell∨c.env.kindOf x=some .free)(hl:c.env.cells.lookup x=some a)(hd:((x==("__debug__":Str))||(x==("__classdict__":Str)))=false)(hm:(a,.cell (some v))∈S.cells)(h:Q v S):EE c n S (.Name x p) Q E:=.i λok X A s hA R=>by let o ho u hu e:=ow (R.cells _ (aaf _ hm));let w r1 r2:=ak (aaq.mp e);subst r1;subst r2;let Ln hd2:=eA (agZ.mp hd);refine wpAny_Name ?_ Ln;rcases hk with hk|hk;exact wpAny_loadName_cell ok.kind hk hl ⟨o,ho,hu⟩ ⟨S,R,h⟩;exact wpAny_loadName_free ok.kind hk hl ⟨o,ho,hu⟩ ⟨S,R,h⟩ hd2
theorem m6{x:Str}{u:Option AV}{Q:Unit→SS→Prop}(hk:c.env.kindOf x=some .cell)(hl:c.env.cells.lookup x=some a)(up:aI a (.cell u) (.cell (some (ab v))) S.cells cells')(h:Q () ⟨S.loc,cells'⟩):W c n S (storeName c.env x v) Q E:=W.of λok X A s hA R=>by let o ho u hu e:=ow (R.cells _ (aaf _ up.mem));refine wpAny_storeName_cell ok.kind hk hl ⟨o,ho,hu⟩ λh' h8 hs=>ak h8 λo' jh Yv=>?_;exact⟨⟨S.loc,cells'⟩,R.upd up.app hs jh ⟨_,Yv,rfl⟩,h⟩
theorem aI.pre{x y:AO}{l l':Cells}(u:aI a x y l l'):∀p:Cells,aI a x y (p++l) (p++l')|[]=>u|_::p=>.tail (u.pre p)
def Cx.inner(c:Cx)(scope:Scope)(cl:List (Str×Addr))(gl:List (Str×Value))(m:Str→Option Value)(L:Addr):Cx:={c with aC:=(c.env,m)::c.aC,L:=L,fx:={c.fx with gl:=gl,cs:=aex scope c.env},env:=aiK scope cl L c.env,comp:=true}
def TS(c:Cx)(n:Nat)(S:SS)(ifs:List Expr)(Q:Bool→SS→Prop)(E:EP):Prop:=
 W c n S (forIn ifs true λcc r=>if r=true then do let ok←isTrue cc c.env (eval cc c.env);pure (air ok)else pure (air r)) Q E
theorem iC(h:Q true S):TS c n S [] Q E:=by unfold TS;rw[aew];exact W.pure h
theorem o_{e:Expr}(h:ET c n S e Q E):TS c n S [e] Q E:=by unfold TS;rw[ae3,if_pos rfl];refine W.bind (W.bind (W.az h λb S1 k=>W.pure ?_));simp only[aew];exact W.pure k
def Bq(w:World)(P:Nat→Obj→Prop):Prop:=∀(A:ads) (s:aas) (it:Addr) (o:Obj) (i:Nat) (Q E:Value→aas→Prop),s.heap.get? it=some o→P i o→Q (.ref it) s→wpAny (model prog w) A (ah9 (.ref it)) Q E s
theorem d5:Bq w (aQ l):=λA s it o i Q E ho hP hQ=>agJ ⟨o,ho,hP⟩ hQ
theorem n9{a d:Int}:Bq w (mW a d k):=λA s it o i Q E ho hP hQ=>by let z0 r1:=eA hP;subst r1;exact wpAny_pyIter_rangeiter ho hQ
theorem Br:Bq w (mj d k ep):=λA s it o i Q E ho hP hQ=>wpAny_pyIter_keyiter ⟨o,ho,hP⟩ hQ
theorem Ew{x:Str}:Bq w (iS x):=λA s it o i Q E ho hP hQ=>by let t h1 h2:=ak hP;cases ha:x.cps.all (·<128);rw[ha]at h1;exact wpAny_pyIter_striter_wide ⟨o,ho,h1,h2⟩ hQ;rw[ha]at h1;exact wpAny_pyIter_striter_ascii ⟨o,ho,h1,h2⟩ hQ
theorem Cx.OQ{scope:Scope}{cl:List (Str×Addr)}{gl:List (Str×Value)}(ok:c.Ok)(hc:c.comp=false)(hk:scope.kind= .function)(Aj:∀p∈gl,p∈c.fx.gl∧(aex scope c.env).names.lookup p.1=some .globalImplicit)(hL:c.base.objs.size≤L):(c.inner scope cl gl m L).Ok where
 eH:=ok.eH
 eL:=rfl
 eg:=ok.eg
 eb:=ok.eb
 kind:=hk
 fr:=λh=>nomatch h
 above:=hL
 aC:=λf hf=>by
  rcases aai.mp hf with rfl|hf
  ·exact⟨(ok.fr hc).trans (congrArg some ok.eL.symm),by rw[ok.kind];decide⟩
  ·exact ok.aC f hf
 gl:=λp hp=>by
  refine eA (Aj p hp) λh1 h2=>?_
  refine pX (ok.gl p h1) λz0 h3 h4=>?_
  exact⟨h2,h3,h4⟩
theorem Cx.Bs{scope:Scope}{cl:List (Str×Addr)}{gl:List (Str×Value)}(hA:c.In A n)(hc:c.comp=false):(c.inner scope cl gl m L).In A n:=⟨by rw[hA.1,Cx.dp hc];rfl,hA.2.1,hA.2.2.1,hA.2.2.2⟩
theorem Rp.outer{scope:Scope}{cl:List (Str×Addr)}{gl:List (Str×Value)}(ok:c.Ok)(R:Rp c ⟨loc,S.cells⟩ s)(hm:∀p∈loc,(m p.1).map ab=p.2)(R2:Rp (c.inner scope cl gl m L) S' s'):∃m₂,Rp c ⟨loc,(L,.v4 m₂)::S'.cells⟩ s':=by
 let m₂ OR z2:=ak R2.ns;have jZ:∀f∈(c.env,m)::c.aC,s'.heap.Ns f.1.locals f.2:=R2.aC;have hf:∀a∈L::(((c.env,m)::c.aC).map (λx=>x.1.locals)++S'.cells.map (λx=>x.1)),c.base.get? a=none:=R2.fresh;have kh:(L::(((c.env,m)::c.aC).map (λx=>x.1.locals)++S'.cells.map (λx=>x.1))).Nodup:=R2.nd;rw[aan,ok.eL]at hf kh;have pm:(c.L::(c.aC.map (λx=>x.1.locals)++((L,AO.v4 m₂)::S'.cells).map (λx=>x.1))).Perm (L::(c.L::c.aC.map (λx=>x.1.locals)++S'.cells.map (λx=>x.1))):=by rw[aan];exact(abB _ aaS).trans (afi ..)
 refine⟨m₂,R2.stays,⟨m,?_,hm⟩,λf Yw=>jZ f (.tail _ Yw),λp hp=>?_,λa ha=>hf a (pm.subset ha),pm.nodup_iff.mpr kh,R.kK,R.lk,R2.gens,R2.os,R2.tk⟩;have:=jZ (c.env,m) (.head _);rw[ok.eL]at this;exact this;rcases aai.mp hp with rfl|hp;let o es ep ho r:=qD OR;exact⟨o,ho,es,ep,r⟩;exact R2.cells p hp
section
variable{elt iter:Expr} {x:Str} {px:Pos} {ifs:List Expr} {scope:Scope} {pos:Pos} {cl:List (Str×Addr)} {gl:List (Str×Value)} {xs:List AV} {P:Nat→Obj→Prop}
theorem Rp.Ex{S:SS}{scope:Scope}{cl:List (Str×Addr)}{gl:List (Str×Value)}(hc:c.comp=false)(R:Rp (c.enter {c.fx with gl:=gl,cs:=aex scope c.env} m L) S s):Rp (c.inner scope cl gl m L) S s:=by
 have e1:(c.enter {c.fx with gl:=gl,cs:=aex scope c.env} m L).aC=(c.env,m)::c.aC:=by unfold Cx.enter;rw[hc]
 have h1:=R.aC;have h2:=R.fresh;have h3:=R.nd;rw[e1]at h1 h2 h3;exact⟨R.stays,R.ns,h1,R.cells,h2,h3,R.kK,R.lk,R.gens,R.os,R.tk⟩
theorem za{c:Cx}{X:Cells}{x:Value}{G:Prop}(h:EX c X hW x s'):G:=by obtain⟨_,_,_,_,_,_,hf⟩:=h;exact hf.elim
end
end
end
section
variable{m:Nat} {Qf:Addr→Addr→AV→Cells→Prop} {Ef:Addr→Addr→Value→Cells→Prop}
section
variable{c:Cx} {n:Nat} {S:SS} {α β:Type} {E E':EP} {s:aas} {X:Cells}
theorem In.under(hA:c.In A n)(hw:cd.weight≤1)(he:cd.envs=[])(hu:cd.cUnits≤4)(hm:m+1≤n):c.In (A.under cd) m:=by let h1 h2 h3 h4:=jc hA;refine⟨?_,h2,?_,?_⟩;change af6 cd.envs A.frames=_;rw[he];exact h1;change A.depth+cd.weight+m<_;exact NY hw hm h3;change A.units+cd.cUnits+8*m<_;exact NZ hu hm h4
theorem kn{K0:aao→Frag}{C fI:Addr}(hm:makesIn c.K C=true)(hi:adf c.K (.ref C) "__init__"=some (some (.ref fI)))(hf:aiH c.K (.ref fI)=some (.type "function")) (hK:c.K=K0 c.w.params) (hd:c.hd=none) (F:∀x dx,FC K0 m fI (.ref x::as) kw ((x,.inst C dx)::(dx,.dict [] 0)::S.cells) (Qf x dx) (Ef x dx))(hq:∀x dx v C',Qf x dx v C'→v= .none∧Q (.ref x) ⟨S.loc,C'⟩) (he:∀x dx k C',Ef x dx k C'→E k ⟨S.loc,C'⟩) {pos:List Value} (hp:pos.map ab=as) (v7:kws.map (λp=>(p.1,ab p.2))=kw) (TC:m+1≤n):W c n S (call (.ref C) pos kws) (λr=>Q (ab r)) E:=.i λok X A s hA R=>by have Xk:=fQ ok R;show abI;obtain⟨hh,g,d,t,os⟩:=s;show make_core (makes_of Xk hm) (ae_ Xk hi) (λself=>bind_fn Xk self hf) (.inl rfl);have R1:Rp c (SS.ext ⟨S.loc,(hh.objs.size,.dict [] 0)::S.cells⟩ X) ⟨hh.push afb,g,d,t,os⟩:=R.c0 (ao:=.dict [] 0) (o:=afb) (tk:=t) rfl ⟨abn,[],rfl,.nil⟩;have R2:=R1.c0 (S:=⟨S.loc,(hh.objs.size,.dict [] 0)::S.cells⟩) (X:=X) (ao:=.inst C hh.objs.size) (o:=afA C hh.objs.size) (tk:=t) rfl rfl;rw[acG]at R2;have qJ:=In.under (cd:=.builtin "type.__call__" ⟨.ref C::pos,kws⟩) hA (aae '3') '3' (aae '3') TC;exact(F (hh.objs.size+1) hh.objs.size).any hK hd rfl (pos:=.ref (hh.objs.size+1)::pos) (by rw[aan,hp];rfl) v7 ok qJ R2 (λv s' C' h1 h3=>eA (hq _ _ _ _ h3) λhv hQ=>⟨eO hv,_,h1,hQ⟩) λe q s' C' h2 h3 h5=>⟨e,q,_,rfl,h2,h3,he _ _ _ _ h5⟩
end
end
section
variable{x C:Addr} {v:AV}
section
variable{c:Cx} {n:Nat} {S:SS} {α β:Type} {E E':EP} {s:aas} {X:Cells}
theorem Rp.du(R:Rp c (S.ext X) s)(hx:(x,.du C d sl)∈S.cells)(hd:(d,.dict es k)∈S.cells):∃(vs:Array (Option Value)) (ents:List abN),InstAt s.heap x {afA C d with slots:=vs} C (some (ah6 ents k))∧vs.toList.map (·.map ab)=sl:=by let o ho vs r3 hm:=ow (R.cells _ (aaf _ hx));subst r3;let od Ru z2 ents r4 h2:=vT (R.cells _ (aaf _ hd));subst r4;exact ba vs ents ⟨⟨ho,rfl,rfl,Ru⟩,hm⟩
def m7(K:Frag)(C:Addr)(nm:Str)(p i:Nat):Bool:=adf K (.ref C) "__getattribute__"==some (some (.builtin "object.__getattribute__"))&&adf K (.ref C) "__getattr__"==some none&&adf K (.ref C) nm==some (some (.ref p))&&ag_ K (.ref p) "__get__"==some (some (.builtin "member_descriptor.__get__"))&&takesIn K (.ref p)==some true&&slotIn K p C==some i&&(clsIn K C).isSome
theorem xB{p:Nat}{nm:Str}(hx:(x,.du C d sl)∈S.cells)(hd:(d,.dict es k)∈S.cells)(pZ:m7 c.K C nm p i=true)(hv:sl[i]? =some (some v))(hh:hand v=true)(h:Q v S):GA c n S (.ref x) nm Q E:=λu hu=>W.of λok X A s hA R=>by
 obtain rfl:=aj hu;let vs ents I hm:=cI (R.du hx hd);subst hm;unfold m7 at pZ;simp only[aaM,beq_iff_eq]at pZ;obtain⟨⟨⟨⟨⟨⟨k1,k2⟩,k3⟩,k4⟩,k5⟩,k6⟩,k7⟩:=pZ;let cd Xb:=eE (afS.mp k7);rw[aag]at hv;let w hw e:=ak (aaq.mp hv);let z r1 r2:=ak (aaq.mp e);subst r1;subst r2;have hf:findObj c.K C (some (ah6 ents k)) nm=some (.bind (.builtin "member_descriptor.__get__") (.ref p)):=by change(clsIn c.K C).bind _=_;rw[Xb];change(adf c.K (.ref C) nm).bind _=_;rw[k3];change(ag_ c.K _ "__get__").bind _=_;rw[k4];change(takesIn c.K _).bind _=_;rw[k5];rfl
 have Xk:=fQ ok R;refine get_bind Xk I k1 hf k2 (abI (slot_get (s:={s with toks:=s.toks+1}) Xk I k6 (v:=z) ?_ ?_));change(vs[i]?).join=some z;rw[←adG,hw];rfl;change wpAny _ _ (handedOut z) _ _ _;rw[ahT (handed hh)];exact aal ⟨S,R.toks,h⟩
def qQ(K:Frag)(C:Addr)(nm:Str)(p i:Nat):Bool:=adf K (.ref C) "__setattr__"==some (some (.builtin "object.__setattr__"))&&plainOver K C&&takerIn K C nm==some (some (.ref p))&&aiH K (.ref p)==some (.type "member_descriptor")&&slotIn K p C==some i&&decide (i<1000)
def xC(sl:List (Option AV))(i:Nat)(v:AV):List (Option AV):=(sl++afk (i+1-sl.length) none).set i (some v)
theorem Ey{p:Nat}{nm:Str}{Q:SS→Prop}(u:aI x (.du C d sl) (.du C d (xC sl i v)) S.cells cells')(hd:(d,.dict es k)∈S.cells)(pZ:qQ c.K C nm p i=true)(h:Q ⟨S.loc,cells'⟩):SA c n S (.ref x) v nm Q E:=λo y ho hy=>W.of λok Y A s hA R=>by obtain rfl:=aj ho;subst hy;let vs ents I hm:=cI (R.du u.mem hd);unfold qQ at pZ;simp only[aaM,beq_iff_eq,decide_eq_true_eq]at pZ;obtain⟨⟨⟨⟨⟨k1,k2⟩,k3⟩,k4⟩,k5⟩,k6⟩:=pZ;have Xk:=fQ ok R;have ua:=u.app (X:=Y);have nd:=aaB.mp R.nd;have hL:x≠c.L:=λq=>nd.1 (q▸aad _ (aat (f:=(λx=>x.1)) ua.mem));let m pre hl F N hp ma:=nV (R.toks.ledger (s:={s with toks:=s.toks+1}) I.at_ hL);refine set_plain Xk I k1 (osa_descr (s:={s with toks:=s.toks+1}) KF.slot_mset Xk I k2 k3 k4 (slot_set (s:={s with toks:=s.toks+1}) F N Xk I k5 k6 hp (λzz q=>nomatch q) rfl rfl λh' F' N'=>?_));have z:=R.Eg (h':=h') (tk:=s.toks+1) ua (λb o e h1 h2=>(N' (b,o) (aaf _ (ma b o e h1 h2))).1) ⟨m,F'.ns,hl⟩ (N' (x,_) (aad _ (.head _))).1 ⟨_,rfl,by subst hm;rw[afq,acn,List.map_set,aaj];unfold xC;simp⟩;exact⟨⟨S.loc,cells'⟩,z,h⟩
end
end
section
section
variable{c:Cx} {n:Nat} {S:SS} {α β:Type} {E E':EP} {s:aas} {X:Cells}
theorem Ez{K0:aao→Frag}{m:Nat}{f:Addr}(hf:FC K0 m f as [] C Qf Ef)(hp:S.cells.Perm (C++D))(hK:c.K=K0 c.w.params)(hd:c.hd=none)(h:∀v C',Qf v C'→Q v ⟨S.loc,C'++D⟩) (he:∀k C',Ef k C'→E k ⟨S.loc,C'++D⟩) (hm:autoParam (m≤n) apM):bM c n S (.ref f) as Q E:=λv vs hv bx=>by obtain rfl:=aj hv;refine W.fh (loc:=S.loc) hp (W.frame ?_);refine((hf.W (S:=⟨S.loc,C⟩) hK hd rfl bx (kws:=[]) rfl).room hm).mono (λr S' h8=>eA h8 λh1 h2=>?_) λk S' h8=>eA h8 λh1 h2=>?_;have:=h _ _ h2;rw[←h1]at this;exact this;have:=he _ _ h2;rw[←h1]at this;exact this
end
end
section
open PySem.Builtin.Str
section
variable{c:Cx} {n:Nat} {S:SS} {α β:Type} {E E':EP} {s:aas} {X:Cells}
theorem rV:∀{vs:List Value} {ss:List Str},vs.map ab=ss.map .str→∃l:List (Str×Tok),vs=strValues l∧l.map (λx=>x.1)=ss
 |[],[],_=>⟨[],rfl,rfl⟩
 |[],_::_,h=>by cases h
 |_::_,[],h=>by cases h
 |v::vs,x::ss,h=>by rw[aan,aan,acr]at h;let t r1:=eE (aD h.1);subst r1;let l r1 r2:=ak (rV h.2);subst r1;subst r2;exact⟨(x,t)::l,rfl,rfl⟩
set_option tactic.hygienic true in
theorem ml(hm:(l,.list (ss.map .str))∈S.cells)(hz:(ss.toArray.foldl (·+·.length+sep.length) 0)≤lim)(tM:(glued sep ss).length≤lim)(h:Q (.str (glued sep ss)) S):bM c n S (.bi "str.join") [.str sep,.ref l] Q E:=λf vs hf bx=>W.of λok X A s hA R=>by
 obtain rfl:=dT hf;let v y r2 hv hy:=bG (fR bx);subst r2;let t r1:=eE (aD hv);subst r1;obtain rfl:=aj hy;let ws hl p3:=ak (R.list hm);let ps uv Xc:=ak (rV p3);have Yx:s.heap.IsList l (strValues ps).toArray:=by rw[←uv];simpa using hl
 refine afn acZ (adQ s sep t) ags (af7 _ _) (meets_str_join_list sep t l ps (by rw[Xc];exact decide_eq_false (by have:=ax hz;exact Gu this))) ⟨Yx,?_⟩;subst Xc;unfold joinMade;split;rename_i p;exact⟨S,R,h⟩;exact⟨ax tM,S,R.toks,h⟩
theorem kq{e:Expr}{z:Str}{k':Nat}{q q' pos:Pos}(Yy:(y==z)=false)(h:EE c n S e (λa S1=>∃x,a= .str x∧x.length+(x.length+1)*z.length≤16777216∧Q (.str (ada x y z)) S1) E) (he:autoParam (bo e=false) apR) (bw:autoParam ((ap.endLine==pos.line)=true) apR):EE c n S (.Call (.Attribute e "replace" ap) [.Constant (.str y) k q,.Constant (.str z) k' q'] [] pos) Q E:=.i λok X A s hA R=>by
 refine afC (T:="str") (id:="str.replace") (by cases e<;>first|rfl|cases he) rfl bw aey afT PySem.F.type_str_replace (h.st ok X A s hA R λv s1 S1 R1 h8=>bN h8 λx h1 h2 h3=>?_);let t r1:=eE (aD h1);subst r1;refine⟨adQ s1 x t,(λa q=>by cases q),?_⟩;have ma:([.Constant (.str y) k q,.Constant (.str z) k' q']:List Expr).all aV=true:=rfl;refine aem (P:=λzz=>True) (by rw[bF ma];rfl) (λhh zz=>⟨.machine,.inr (.inl rfl),ace rfl⟩) (bV (bF ma) ?_);rw[bO rfl,bO rfl];refine aeh (aee (k:=k) (pos:=q) (aeh (aee (k:=k') (pos:=q') (aal ⟨trivial,?_⟩))));have iR:=R1.tk;have hl:tooLong (x.length+(occurrences x y 0 x.length (x.length+1)).length*z.length)=false:=by have h1:=StrLaws.occ_length_le x y 0 x.length (x.length+1);have IS:(occurrences x y 0 x.length (x.length+1)).length*z.length≤(x.length+1)*z.length:=abz _ h1;exact decide_eq_false (NU h2 IS (by decide:(2:Nat)^24=16777216))
 show call_gives afT (adQ _ _ _) PySem.F.entry_str_replace (PySem.F.args_str_replace_3 _ _ _) (gives_str_replace x y z t _ _ λzz=>⟨agZ.mpr ⟨beq_eq_false_iff_ne.mpr (abG iR),beq_eq_false_iff_ne.mpr (Nat.succ_ne_zero _)⟩,beq_eq_false_iff_ne.mpr (abf (aby _)),Yy,hl⟩);unfold ada at h3;cases hc:((occurrences x y 0 x.length (x.length+1)).isEmpty||(y.length==0&&z.length==0));rw[hc]at h3;simp only[aaU,if_false]at h3⊢;exact⟨fits_replaced y h2,S1,R1.toks,h3⟩;rw[hc]at h3;simp only[if_true]at h3⊢;exact⟨S1,R1.toks,h3⟩
end
end
section
variable{xs:List Str} {k:Str}
theorem jL(l:Addr)(items:Array Value)(TD:(items.size:Int)<2^63):Meets (Builtin.«bool.__new__» ⟨[.type "bool",.ref l],[]⟩) (λzz R s=>s.heap.IsList l items∧R (.ok (.ret (.bool (!items.isEmpty)))) {s with toks:=s.toks+1+1}):=ain λprog w A R s hs=>by
 obtain⟨hp,g,d,tk,os⟩:=s;let hl hs:=eA hs;have f1:=F.conv_sub_bool;repeat(any_goals(first|assumption|(with_reducible refine wpAny_truthy_list hl TD ?_)|wp_step))
 all_goals first|exact⟨_,rfl,hs⟩|exact hs|skip
section
variable{c:Cx} {n:Nat} {S:SS} {E:EP}
theorem pc{xs:List AV}(hm:(l,.list xs)∈S.cells)(hz:xs.length≤lim)(h:Q (.bool (!xs.isEmpty)) S):bM c n S (.type "bool") [.ref l] Q E:=λf vs hf bx=>W.of λok X A s hA R=>by
 obtain rfl:=bI hf;let v r1 hv:=ak (cP bx);subst r1;obtain rfl:=aj hv;let ws hl p3:=ak (R.list hm);have e:ws.isEmpty=xs.isEmpty:=by subst p3;rw[ah_,ac7];simp
 exact call_bool_1 (jL l ws (by rw[aw p3];exact kO hz)) ⟨hl,rfl,S,R.toks,by rw[e];exact h⟩
theorem wp{vs:List Value}(h:vs.map ab=xs.map .str)(k:Str):vs.countP (mZ k)=xs.count k:=by induction xs generalizing vs with|nil=>rw[acE,ad0]at h;subst h;rfl|cons x xs ih=>let v r r2 h1 h2:=bG (abL.mp h);subst r2;let t r1:=eE (aD h1);subst r1;rw[aia,ih h2,abM];rfl
theorem wq(hm:(l,.list (xs.map .str))∈S.cells)(h:Q (.int (xs.count k)) S):bM c n S (.bi "list.count") [.ref l,.str k] Q E:=λf vs hf bx=>W.of λok X A s hA R=>by obtain rfl:=dT hf;let v y r2 hv hy:=bG (fR bx);subst r2;obtain rfl:=aj hv;let t r1:=eE (aD hy);subst r1;let ws kk ho p3:=cI (R.listAt hm);refine afn af8 ⟨_,ho,rfl⟩ PySem.F.entry_list_count (PySem.F.args_list_count_2 _ _) (SeqAt.list_countAt l ws kk none #[] (.str k t) (mZ k)) ⟨ho,λz hz=>?_,S,R.toks,?_⟩;let x t' r2:=DP (jm p3 hz);subst r2;exact ahD x t' k t;rw[wp p3];exact h
theorem uw(h:vs.toList.map ab=xs.map .str){m:Nat}(hm:m<vs.size):mZ k vs[m]=decide (xs[m]? =some k):=by
 have e:(vs.toList.map ab)[m]? =some (ab vs[m]):=by simp[hm]
 rw[h,aag]at e;let x hx rW:=ak (aaq.mp e);let t ht:=eE (aD rW.symm);rw[ht,hx];change(x==k)=_;rw[ac7];simp
theorem wu(hm:(l,.list (xs.map .str))∈S.cells)(hj:xs[j]? =some k)(xE:∀m,m<j→xs[m]?≠some k)(hz:xs.length≤lim)(h:Q (.int j) S):bM c n S (.bi "list.index") [.ref l,.str k] Q E:=λf vs hf bx=>W.of λok X A s hA R=>by
 obtain rfl:=dT hf;let v y r2 hv hy:=bG (fR bx);subst r2;obtain rfl:=aj hv;let t r1:=eE (aD hy);subst r1;let ws kk ho p3:=cI (R.listAt hm);have ki:ws.size=xs.length:=by rw[aw p3,aaa]
 have dc:j<ws.size:=by rw[ki];exact(aav.mp hj).1
 refine afn af9 ⟨_,ho,rfl⟩ PySem.F.entry_list_index (PySem.F.args_list_index_2 _ _) (SeqAt.list_indexAt l ws kk none #[] (.str k t) (mZ k) j dc ?_ ?_ ?_) ⟨ho,λz hz=>?_,S,R.toks,h⟩;have:(j:Int)≤1000000:=agq.mpr (by change j≤1000000;have:xs.length≤1000000:=hz;exact N0 ki dc this);exact adq this '2';rw[uw p3];exact decide_eq_true hj;intro m hm Yz;rw[uw p3];exact decide_eq_false (xE m Yz);let x t' r2:=DP (jm p3 hz);subst r2;exact ahD x t' k t
end
end
section
variable{Q:SS→Prop} {t:Addr}
section
variable{c:Cx} {n:Nat} {S:SS} {α β:Type} {E E':EP} {s:aas} {X:Cells}
inductive ia:List Str→List AV→List (Str×Option AV)→List (Str×Option AV)→Prop
 |nil:∀{l},ia [] [] l l
 |cons:∀{x v xs vs l l1 l2},dA x v l l1→ia xs vs l1 l2→ia (x::xs) (v::vs) l l2
def wv(ns:List (Str×Pos)):List Expr:=ns.map λq=>.Name q.1 q.2
theorem dq(env:Env):∀ns:List (Str×Pos),aiI (wv ns) env=ns.map λq=>(false,agr (.Name q.1 q.2) env)|[]=>rfl|q::r=>by change(false,agr (.Name q.1 q.2) env)::aiI (wv r) env=_;rw[dq env r];rfl
theorem xF:∀{ns:List (Str×Pos)} {vs:List Value} {S:SS} {l':List (Str×Option AV)},ia (ns.map (λx=>x.1)) (vs.map ab) S.loc l'→Q ⟨l',S.cells⟩→W c n S (assignInOrder (ns.map λq=>agr (.Name q.1 q.2) c.env) vs) (λzz=>Q) E
 |[],[],S,l',h,hQ=>by cases h;exact W.pure hQ
 |[],_::_,S,l',h,hQ=>by cases h
 |_::_,[],S,l',h,hQ=>by cases h
 |q::ns,v::vs,S,l',h,hQ=>by cases h with| @cons _ _ _ _ _ l1 _ h1 h2=>refine W.bind (W.holding ((cA (Q:=λS1=>S1=⟨l1,S.cells⟩) h1 rfl v rfl).az λzz S1 e=>?_));subst e;exact xF h2 hQ
theorem ux{ns:List (Str×Pos)}{k}(hd:c.hd=none)(hm:(t,.tup xs)∈S.cells)(hl:ia (ns.map (λx=>x.1)) xs S.loc l')(hn:ns.length=xs.length)(h:Q ⟨l',S.cells⟩):AS c n S (.Tuple (wv ns) k p) (.ref t) Q E:=λv hv=>.i λok X A s hA R=>by obtain rfl:=aj hv;let vs ht bx:=ak (R.tup hm);let h' rX:=wpAny_assign_Tuple (hA.2.1.trans hd) ht ?_ ?_;rw[dq,aaa,hn,←bx];simp;rw[dq];rw[List.findIdx?_eq_none_iff];intro x hx;let q z1 r2:=ak (aaH.mp hx);subst r2;rfl;rw[dq,aba];have R':Rp c (S.ext X) {s with heap:=h'}:=R.keeps λb o e=>rX b o (abf (aa3 e)) e;exact(xF (c:=c) (n:=n) (S:=S) (E:=E) (Q:=Q) (ns:=ns) (vs:=vs.toList) (by rw[bx];exact hl) h).run ok X A _ hA R'
theorem rY{k}{a b:AV}(hd:c.hd=none)(hm:(t,.tup [a,b])∈S.cells)(hl:ia [x,y] [a,b] S.loc l')(h:Q ⟨l',S.cells⟩):AS c n S (.Tuple [.Name x px,.Name y py] k p) (.ref t) Q E:=ux (ns:=[(x,px),(y,py)]) hd hm hl rfl h
abbrev nB:Value→aas→Prop:=λzz zz=>False
def TE(c:Cx)(n:Nat)(S:SS)(it:Addr)(Z Z':Cells)(a b:AV):Prop:=c.Ok→∀X A s,c.In A n→Rp c (S.ext (Z++X)) s→wpAny (model prog c.w) A (ahB (.ref it)) (λr s1=>∃v,r=some v∧∀elts k p,wpAny (model prog c.w) A (aea (.Tuple elts k p) (.ref it) v) (λzz s2=>∃t,v= .ref t∧Rp c (S.ext ((t,.tup [a,b])::(Z'++X))) s2) nB s1) nB s
def TF(c:Cx)(n:Nat)(S:SS)(it:Addr)(Z:Cells):Prop:=c.Ok→∀X A s,c.In A n→Rp c (S.ext (Z++X)) s→wpAny (model prog c.w) A (ahB (.ref it)) (λr s1=>r=none∧Rp c (S.ext X) s1) nB s
def G2(c:Cx)(n:Nat)(S1:SS)(u:Value)(ps:List (AV×AV))(KP:SS→Prop)(S2:SS):Prop:=c.Ok→∀X A s,c.In A n→Rp c (S1.ext X) s→wpAny (model prog c.w) A (ah9 u) (λw s'=>∃(it:Addr) (Zs:Nat→Cells),w= .ref it∧Rp c (S2.ext (Zs 0++X)) s'∧∀S,KP S→(∀i a b,ps[i]? =some (a,b)→TE c n S it (Zs i) (Zs (i+1)) a b)∧TF c n S it (Zs ps.length)) nB s
theorem Rp.dH(R:Rp c (S.ext (Z++X)) s):Rp c (S.ext X) s:=R.drop (cells':=S.cells++X) (adY (ab0 _) (ac1 _ _))
theorem tN{t:Sem α}{Q:α→aas→Prop}{E:Value→aas→Prop}(h:wpAny M A t Q nB s):wpAny M A t Q E s:=aau h (λzz zz x=>x) λzz zz x=>x.elim
theorem p9.ext{k:Value}{e:Addr}(F:p9 c k e (S.ext (Z++X)) h):p9 c k e (S.ext X) h:=F.sub λa ha=>by simp only[aaj,aax]at ha⊢;exact ha.imp id .inr
theorem jp{x:Value}(ok:c.Ok)(hc:c.comp=false)(hA:c.In A n)(h:EX c (Z++X) E x s'):aiB (model prog c.w) A c.env (ahw (model prog c.w) A c.env (EX c X E)) x s':=by obtain⟨e,k,S',rfl,F,R',hE⟩:=h;exact oM ok hc hA.1 R' F λkl p0 Tr=>⟨e,k,S',rfl,Tr.ext,p0.dH,hE⟩
theorem uy{kt}{Q:FL→SS→Prop}{ps:List (AV×AV)}(KP:SS→Prop)(Inv:Nat→SS→Prop)(h:EE c n S iter (λv S1=>∃S2,(∀u,ab u=v→G2 c n S1 u ps KP S2)∧Inv 0 S2) E)(hK:∀i S1,Inv i S1→KP S1)(step:∀i a b S1,ps[i]? =some (a,b)→Inv i S1→∃l',ia [x,y] [a,b] S1.loc l'∧EB c n ⟨l',S1.cells⟩ body (au (Inv (i+1)) Q) E)(fin:∀S1,Inv ps.length S1→EB c n S1 orelse Q E)(hd:autoParam (c.hd=none) apA) (hc:autoParam (c.comp=false) apA) (hs:autoParam (∀x,aa4 iter c.env x=pure x) apR):ES c n S (.For (.Tuple [.Name x px,.Name y py] kt pt) iter body orelse p) Q E:=.i λok X A s hA R=>by refine wpAny_For (aau (h.run ok X A s hA R) (λv s1 h8=>h8.el λS1 R1 h7=>ak h7 λS2 hi hinv=>tN (aau (hi v rfl ok X A s1 hA R1) (λw s2 TG=>?_) λzz zz z=>z)) λzz zz z=>z) hs;let it Zs e R2 hz:=bG TG;subst e;refine ahg (λm s=>∃i S1,m=ps.length-i∧i≤ps.length∧Rp c (S1.ext (Zs i++X)) s∧Inv i S1) ?_ ps.length (ba 0 S2 ⟨rfl,aaD _,R2,hinv⟩);intro m s TH;let i S1 hm hi R1 i1:=lU TH;let g1 g2:=eA (hz S1 (hK _ _ i1));cases hx:ps[i]? with|none=>have:ps.length=i:=(by have:=ac2.mp hx;exact aaI this hi);subst this;refine tN (aau (g2 ok X A s hA R1) (λr s3 TI=>?_) λzz zz z=>z);let e R3:=eA TI;subst e;exact aau ((fin S1 i1).run ok X A _ hA R3) (λf s3 TJ=>by obtain⟨S3,R3,k3⟩:=TJ;exact⟨S3,R3,k3⟩) λzz zz z=>jp (Z:=[]) ok hc hA z|some q=>obtain⟨a,b⟩:=q;have dc:i<ps.length:=(aav.mp hx).1;let l' sl hb:=ak (step i a b S1 hx i1);refine tN (aau (g1 i a b hx ok X A s hA R1) (λr s3 TK=>?_) λzz zz z=>z);let v e hg:=ak TK;subst e;refine tN (aau (hg _ _ _) (λzz s4 TL=>?_) λzz zz z=>z);let t e R4:=ak TL;subst e;have R5:Rp c (SS.ext ⟨S1.loc,(t,.tup [a,b])::S1.cells⟩ (Zs (i+1)++X)) s4:=R4.perm (cells':=(t,.tup [a,b])::S1.cells++(Zs (i+1)++X)) (by rw[aaT];exact aaS.symm);refine aau ((rY (c:=c) (n:=n) (S:=⟨S1.loc,(t,.tup [a,b])::S1.cells⟩) (E:=E) (Q:=λS6=>S6=⟨l',(t,.tup [a,b])::S1.cells⟩) hd (.head _) sl rfl (.ref t) rfl).run ok _ A s4 hA R5) (λzz s6 TM=>?_) λzz zz z=>jp ok hc hA z;obtain⟨S6,R6,e6⟩:=TM;subst e6;have R7:Rp c (SS.ext ⟨l',S1.cells⟩ (Zs (i+1)++X)) s6:=R6.drop (cells':=S1.cells++(Zs (i+1)++X)) (acj ..);refine aau (hb.run ok _ A s6 hA R7) (λf s8 TN=>?_) λzz zz z=>jp ok hc hA z;obtain⟨S8,R8,k8⟩:=TN;cases f with|next=>exact⟨_,by exact DG hm dc,i+1,S8,rfl,by exact dc,R8,k8⟩|cont=>exact⟨_,by exact DG hm dc,i+1,S8,rfl,by exact dc,R8,k8⟩|brk=>exact⟨S8,R8.dH,k8⟩|ret v=>exact⟨S8,R8.dH,k8⟩
end
end
section
variable{tk:Nat}
section
variable{c:Cx} {n:Nat} {S:SS} {α β:Type} {E E':EP} {s:aas} {X:Cells}
theorem Rp.turn{Y:Cells}(R:Rp c ⟨loc,C++Y⟩ s)(k:∀b o,b∉C.map (λx=>x.1)→s.heap.get? b=some o→h'.get? b=some o)(hC:∀p∈C',∃o,h'.get? p.1=some o∧pY c.w p.2 o) (nd:(C'.map (λx=>x.1)).Nodup) (Dr:∀a∈C'.map (λx=>x.1),a∈C.map (λx=>x.1)∨s.heap.objs.size≤a) (iR:s.toks≤tk):Rp c ⟨loc,C'++Y⟩ {s with heap:=h',toks:=tk}:=by
 have Rx:=aaB.mp R.nd;have jK:=aaX.mp Rx.2;have Xd:((C++Y).map (λx=>x.1)).Nodup:=jK.2.1;rw[aaj]at Xd;have Xe:=aaX.mp Xd;have inC:∀a∈C.map (λx=>x.1),a∈c.aC.map (λx=>x.1.locals)++(C++Y).map (λx=>x.1):=λa ha=>aad _ (by rw[aaj];exact aaf _ ha);have hL:c.L∉C.map (λx=>x.1):=λq=>Rx.1 (inC _ q);have jZ:∀f∈c.aC,f.1.locals∉C.map (λx=>x.1):=λf hf q=>jK.2.2 _ (aat (f:=(λx=>x.1.locals)) hf) _ (by change _∈(C++Y).map (λx=>x.1);rw[aaj];exact aaf _ q) rfl;have hY:∀p∈Y,p.1∉C.map (λx=>x.1):=λp hp q=>Xe.2.2 _ q _ (aat (f:=(λx=>x.1)) hp) rfl;have OS:∀b o,c.base.get? b=some o→b∉C.map (λx=>x.1):=λb o e q=>by have:=R.fresh b (.tail _ (inC b q));rw[e]at this;cases this
 let m hn hl:=ak R.ns;have nsK:∀{a:Addr} {m:Str→Option Value},a∉C.map (λx=>x.1)→s.heap.Ns a m→h'.Ns a m:=λha hn=>by let o es ep ho r:=qD hn;exact eY o es ep ⟨k _ _ ha ho,r⟩
 refine⟨λb o e=>k b o (OS b o e) (R.stays b o e),⟨m,nsK hL hn,hl⟩,λf hf=>nsK (jZ f hf) (R.aC f hf),λp hp=>?_,λa ha=>?_,?_,R.kK,R.lk,R.gens,R.os,aaE R.tk iR⟩;rcases aax.mp hp with hp|hp;exact hC p hp;let o ho hc:=ak (R.cells p (aad _ hp));exact⟨o,k _ _ (hY p hp) ho,hc⟩;rcases aai.mp ha with rfl|ha;exact R.fresh _ (.head _);rcases aax.mp ha with ha|ha;exact R.fresh a (.tail _ (aaf _ ha));have YA:a∈C'.map (λx=>x.1)++Y.map (λx=>x.1):=by rw[←aaj];exact ha
 rcases aax.mp YA with ha|ha;rcases Dr a ha with q|q;exact R.fresh a (.tail _ (inC a q));cases q2:c.base.get? a with|none=>rfl|some o=>exact absurd (aa3 (R.stays a o q2)) (aef.mpr q)
 exact R.fresh a (.tail _ (aad _ (by change a∈(C++Y).map (λx=>x.1);rw[aaj];exact aad _ ha)));have apart:∀a∈C'.map (λx=>x.1),∀b∈c.L::(c.aC.map (λx=>x.1.locals)++(C++Y).map (λx=>x.1)),b∉C.map (λx=>x.1)→a≠b:=λa ha b hb YB q=>by rcases Dr a ha with z|z;exact YB (q▸z);exact absurd ((R.lt:∀a∈c.L::(c.aC.map (λx=>x.1.locals)++(C++Y).map (λx=>x.1)),a<s.heap.objs.size) b hb) (aef.mpr (q▸z))
 refine aaB.mpr ⟨λq=>?_,aaX.mpr ⟨jK.1,?_,λa ha b hb q=>?_⟩⟩;rcases aax.mp q with q|q;exact Rx.1 (aaf _ q);have q':c.L∈C'.map (λx=>x.1)++Y.map (λx=>x.1):=by rw[←aaj];exact q
 rcases aax.mp q' with q|q;exact apart _ q _ (.head _) hL rfl;exact Rx.1 (aad _ (by change _∈(C++Y).map (λx=>x.1);rw[aaj];exact aad _ q));change((C'++Y).map (λx=>x.1)).Nodup;rw[aaj];refine aaX.mpr ⟨nd,Xe.2.1,λa ha b hb q=>?_⟩;let p hp r2:=ak (aaH.mp hb);subst r2;exact apart a ha _ (.tail _ (aad _ (by change _∈(C++Y).map (λx=>x.1);rw[aaj];exact aad _ hb))) (hY p hp) q;have Bt:b∈C'.map (λx=>x.1)++Y.map (λx=>x.1):=by rw[←aaj];exact hb
 rcases aax.mp Bt with hb|hb;let f hf r2:=ak (aaH.mp ha);subst r2;exact apart _ hb _ (.tail _ (aaf _ ha)) (jZ f hf) q.symm;exact jK.2.2 a ha b (by change _∈(C++Y).map (λx=>x.1);rw[aaj];exact aad _ hb) q
theorem Rp.j0(R:Rp c (S.ext (C++X)) s)(k:∀b o,b∉C.map (λx=>x.1)→s.heap.get? b=some o→h'.get? b=some o)(hC:∀p∈C',∃o,h'.get? p.1=some o∧pY c.w p.2 o) (nd:(C'.map (λx=>x.1)).Nodup) (Dr:∀a∈C'.map (λx=>x.1),a∈C.map (λx=>x.1)∨s.heap.objs.size≤a) (iR:s.toks≤tk):Rp c (S.ext (C'++X)) {s with heap:=h',toks:=tk}:=by
 have p:∀D:Cells,(S.cells++(D++X)).Perm (D++(S.cells++X)):=λD=>by rw[←aaw,←aaw];exact aez _ aaY
 exact(Rp.turn (R.perm (cells':=C++(S.cells++X)) (p C).symm) k hC nd Dr iR).perm (cells':=S.cells++(C'++X)) (p C')
def m8(it:Addr)(i:Nat)(o:Obj):Prop:=∃old,o={cls:=.type "enumerate",dict:=none,data:=.fields #[.none,.bool false,.ref it,abK i,.none,old],slots:= #[]}
theorem zb(h:∀e it,Q (.ref e) ⟨S.loc,(e,.obj (m8 it 0))::(it,.obj (iS x 0))::S.cells⟩):bM c n S (.type "enumerate") [.str x] Q E:=λf vs hf bx=>W.of λok X A s hA R=>by obtain rfl:=bI hf;let v r1 hv:=ak (cP bx);subst r1;let t r1:=eE (aD hv);subst r1;let h' he hit hz hk:=call_enumerate_str;let o ho hc hd:=bN hit;refine⟨⟨S.loc,(s.heap.objs.size+1,.obj (m8 s.heap.objs.size 0))::(s.heap.objs.size,.obj (iS x 0))::S.cells⟩,Rp.turn (C:=[]) (C':=[(s.heap.objs.size+1,.obj (m8 s.heap.objs.size 0)),(s.heap.objs.size,.obj (iS x 0))]) (Y:=S.cells++X) R (λb o zz e=>hk b o e) ?_ ?_ ?_ (aak _),h _ _⟩;intro p hp;rcases aai.mp hp with rfl|hp;exact⟨_,he,_,rfl⟩;rcases aai.mp hp with rfl|hp;exact⟨o,ho,t,hc,hd⟩;cases hp;simp;intro a ha;simp only[aan,acE,aai,abO,or_false]at ha;rcases ha with rfl|rfl;exact .inr (aa2 _);exact .inr (aak _)
abbrev eB(x:Str)(e it:Addr)(i:Nat):Cells:=[(e,.obj (m8 it i)),(it,.obj (iS x i))]
theorem qR(hh:A.handled=none)(w:World)(it:Addr)(x:Str)(t:Tok):Draws prog w A it [it] x.cps.size (λi v=>∃c u,x.cps[i]? =some c∧v= .str ⟨#[c]⟩ u) (λi h=>h.IsStrIter it (if x.cps.all (·<128)then"str_ascii_iterator"else"str_iterator") x t i):=by split;exact Draws.strAscii hh it x t;exact Draws.strWide hh it x t
theorem wx{e:Addr}(R:Rp c (S.ext (eB x e it i++X)) s):e≠it:=by have nd:=(aaX.mp (aaB.mp R.nd).2).2.1;rw[show(S.ext (eB x e it i++X)).cells.map (λx=>x.1)=S.cells.map (λx=>x.1)++(e::it::X.map (λx=>x.1))from by simp]at nd;exact λq=>(aaB.mp ((aaX.mp nd).2.1)).1 (q▸.head _)
theorem zc{e:Addr}{d:Nat}(hd:c.hd=none)(hx:x.cps[i]? =some d):TE c n S e (eB x e it i) (eB x e it (i+1)) (.int i) (.str ⟨#[d]⟩):=λok X A s hA R=>by let oe G5 old r3:=ID (R.cells (e,.obj (m8 it i)) (aad _ (.head _)));subst r3;let oi Ds t hc zd:=ow (R.cells (it,.obj (iS x i)) (aad _ (.tail _ (.head _))));have gU:=wx R;show ae4 (aak s.toks);let v h' tk hP he jZ ht hz hk:=wpAny_pyNext_enum_itemD (qR (A:=A.in1) (hA.2.1.trans hd) c.w it x t) G5 ⟨oi,Ds,hc,zd⟩ (abH.mp hx).1 gU (by simpa using gU);let d' u rJ r3:=cI hP;subst r3;rw[hx]at rJ;cases rJ;intro iR;refine⟨_,rfl,λelts k p=>?_⟩;refine wpAny_letOwnedTupleGo_enum he λh₂ qI j3=>⟨_,rfl,?_⟩;let o' jh TO TP:=bN jZ;have xH:e<s.heap.objs.size:=aa3 G5;have TQ:it<s.heap.objs.size:=aa3 Ds;refine Rp.j0 (s:=s) (C:=eB x e it i) (C':=(s.heap.objs.size,.tup [.int i,.str ⟨#[d]⟩])::eB x e it (i+1)) R (λb o hb e'=>?_) ?_ ?_ ?_ iR;simp only[aan,acE,aai,abO,or_false,not_or]at hb;exact(j3.2 b hb.1).trans (hk b o hb.1 hb.2 e');intro p hp;rcases aai.mp hp with rfl|hp;exact⟨_,(j3.2 _ (abG xH)).trans ht,_,_,rfl,rfl⟩;rcases aai.mp hp with rfl|hp;exact⟨_,qI,.str ⟨#[d]⟩ u,by simp[abK]⟩;rcases aai.mp hp with rfl|hp;exact⟨o',(j3.2 _ (aeR gU)).trans jh,t,TO,TP⟩;cases hp;simp only[aan,acE,aaB,aai,abO,or_false,not_or,not_false_eq_true,abn,and_true];exact⟨⟨abG xH,abG TQ⟩,gU⟩;intro a ha;simp only[aan,acE,aai,abO,or_false]at ha⊢;rcases ha with rfl|rfl|rfl;exact .inr (aak _);exact .inl (.inl rfl);exact .inl (.inr rfl)
theorem Bu{e:Addr}(hd:c.hd=none):TF c n S e (eB x e it x.cps.size):=λok X A s hA R=>by let oe G5 old r3:=ID (R.cells (e,.obj (m8 it x.cps.size)) (aad _ (.head _)));subst r3;let oi Ds t hc zd:=ow (R.cells (it,.obj (iS x x.cps.size)) (aad _ (.tail _ (.head _))));refine wpAny_pyNext_enum_endD (qR (A:=A.in1) (hA.2.1.trans hd) c.w it x t) G5 ⟨oi,Ds,hc,zd⟩ λh' hs=>⟨rfl,?_⟩;exact Rp.j0 (s:=s) (C:=eB x e it x.cps.size) (C':=[]) R (λb o hb e'=>hs b o (λq=>hb (by simp[q])) e') (λp hp=>nomatch hp) abn (λa ha=>nomatch ha) (aak _)
end
end
section
variable{r:Array ach}
def Cx.bc(c:Cx)(G:Array ach):Cx:={c with G:=G}
def cC(g:Nat)(o:Obj):Prop:=∃nm qn,o.cls= .type "generator"∧o.data= .fields #[.int g 0,nm,qn]∧o.slots= #[]
def isNs(loc:List (Str×Option AV))(o:Obj):Prop:=∃es ep,∃m:Str→Option Value,o.data= .dict es ep∧StrKeys es∧(∀name,nsFind es name=m name)∧∀p∈loc,(m p.1).map ab=p.2
section
variable{c:Cx} {n:Nat} {S:SS} {α β:Type} {E E':EP} {s:aas} {X:Cells}
theorem Cx.Ok.bc(ok:c.Ok){G:Array ach}:(c.bc G).Ok:=⟨ok.eH,ok.eL,ok.eg,ok.eb,ok.kind,ok.fr,ok.above,ok.aC,ok.gl⟩
theorem Rp.toG{G G':Array ach}{gens:Array ach}(R:Rp (c.bc G) S s)(h:gens=G'++r)(hb:agk r):Rp (c.bc G') S {s with gens:=gens}:=⟨R.stays,R.ns,R.aC,R.cells,R.fresh,R.nd,R.kK,R.lk,⟨r,h,hb⟩,R.os,R.tk⟩
theorem Rp.Xf(R:Rp (c.bc (Gp.push gs)) S s)(hG:∃r,Gp=c.G++r∧agk r)(hb:gs.bare=true):Rp c S s:=by let r' h Ry:=ak R.gens;let r r1 hr:=ak hG;subst r1;refine⟨R.stays,R.ns,R.aC,R.cells,R.fresh,R.nd,R.kK,R.lk,⟨r.push gs++r',?_,λy hy=>?_⟩,R.os,R.tk⟩;rw[h];change(c.G++r).push gs++r'=_;rw[ag0,ag0];simp;rcases Array.mem_append.mp hy with hy|hy;exact(hr.push hb) y hy;exact Ry y hy
theorem Bv:(Gp.push gs++r)[Gp.size]? =some gs:=by rw[Array.getElem?_append_left (by simp)];simp
theorem Bw:(Gp.push gs++r).setIfInBounds Gp.size gs'=Gp.push gs'++r:=by apply Array.ext';simp[afq]
theorem Rp.setG(R:Rp (c.bc (Gp.push gs)) S s):Rp (c.bc (Gp.push gs')) S (s.setGen Gp.size gs'):=by let r h hr:=ak R.gens;exact R.toG (r:=r) (by rw[h];exact Bw) hr
structure GP where
 c:Cx
 X:Cells
 Gp:Array ach
 N:Nat
 It:Nat→Value→Cells→Prop
 Sf:Nat→SS
namespace GP
abbrev cR(P:GP):Cx:=P.c.bc (P.Gp.push .running)
def R(P:GP):GenEnd:=λk s₀ r s₁=>k=1∧(∃f,r= .ok f∧(f= .next∨f= .ret .none))∧Rp P.cR ((P.Sf P.N).ext P.X) s₁
def Y(P:GP):Protocol:=λk s₀ v s' kap=>∃i D Z',i+k=P.N∧0<k∧P.It i v D∧Rp P.cR ((P.Sf i).ext (D++(Z'++P.X))) s'∧∀kl,Rp P.cR ((P.Sf (i+1)).ext (Z'++P.X)) kl→kap (.send .none) kl
def Goes(P:GP)(A:ads)(i:Nat)(Z:Cells)(gs:ach):Prop:=∀kl,Rp P.cR ((P.Sf i).ext (Z++P.X)) kl→gs.Goes (model prog P.c.w) A.in1 P.R P.Y (P.N-i+1) (.send .none) kl
end GP
theorem EC{s:aas}{β:Type}{f:Unit→Sem β}{Q:β→aas→Prop}{E:Value→aas→Prop}(hh:A.handled=none)(h:∀e h',(∀b o,s.heap.get? b=some o→h'.get? b=some o)→(∃o,h'.get? e=some o∧o.cls= .type "StopIteration")→E (.ref e) {s with heap:=h'}):wpAny M A (ai1 (.type "StopIteration") []>>=λe=>raiseNew e>>=f) Q E s:=by show aac;simp only[ai1,ahU];refine aac (abJ ?_ (by size_fits));refine aac (m:=afr _ _) (ab2 (a:=aa6) (by first|rfl|(simp only[afr];rfl)) ?_);refine abJ ?_ (by size_fits);dsimp only[raiseNew];refine aac (aac (ahp ?_));rw[hh];exact ag1 (h _ _ (λb o hb=>aap _ (aap _ hb)) ⟨_,aaG _ rfl,rfl⟩)
theorem uz{P:GP}(ok:P.c.Ok)(hh:A.handled=none)(m9:A.depth<adM)(ha:(a,.obj (cC P.Gp.size))∈P.X)(hi:i≤P.N)(R:Rp (P.c.bc (P.Gp.push gs)) ((P.Sf i).ext (Z++P.X)) s) (hg:P.Goes A i Z gs):wpAny (model prog P.c.w) A (ahB (.ref a)) (λr s'=>(∃v D Z' gs',i<P.N∧r=some v∧P.It i v D∧gs'.bare=true∧Rp (P.c.bc (P.Gp.push gs')) ((P.Sf i).ext (D++(Z'++P.X))) s'∧P.Goes A (i+1) Z' gs')∨(i=P.N∧r=none∧Rp (P.c.bc (P.Gp.push .finished)) ((P.Sf P.N).ext P.X) s')) nB s:=by
 let o ho nm qn hc zd yS:=ry (R.cells (a,.obj (cC P.Gp.size)) (aad _ (aad _ ha)));have TT:s.heap.IsGen a P.Gp.size:=(eY o nm qn ⟨ho,hc,zd,yS⟩);let r Bx hr:=ak R.gens;have Lo:s.gens[P.Gp.size]? =some gs:=by rw[Bx];exact Bv
 have TU:=hg _ (R.setG (gs':=.running));refine aac (wpAny_attempt (adn (name:=abA "__next__") TT.typeIs slot_gen_next (aeM slot_gen_next TT.typeIs entry_gen_next ?_ (args_gen_next _))));change wpAny _ A.in1 (aiQ (.ref a) (.send .none)) _ _ s;refine aac (abk (wpAny_genNumber TT (aac (wpAny_genState Lo ?_))));cases gs with|running=>exact TU.elim|finished=>exact TU.elim|_=>
  refine aac (wpAny_roomToWake (ok.eH.lim.keeps R.stays) m9 ?_);change wpAny _ A.in1 (.resume P.Gp.size (.send .none) [] _) _ _ s;refine wpAny_resumeQ Lo TU (λx s₁ hx=>?_) (λv s₁ gs' hb hv=>?_)
  ·obtain⟨hk,⟨f,rfl,hf⟩,R1⟩:=hx;have TV:i=P.N:=(by exact aaI hi (ab5 (Nat.succ.inj hk)));rcases hf with rfl|rfl;all_goals
    change wpAny _ A.in1 (ai1 (.type "StopIteration") []>>=_) _ _ _
    refine EC hh λe h' Rz ho=>ak ho λo ho hc=>?_
    refine aac (adV (T:="StopIteration") (b:=true) ⟨o,ho,hc⟩ isSubtype_stop ?_)
    exact aal (.inr ⟨TV,rfl,(R1.setG (gs':=.finished)).keeps Rz⟩)
  let j D Z' hj hk TW R1 kap:=jd hv;have iD:j=i:=(by exact MW hj hk);subst iD;refine aal ⟨v,rfl,aal (.inl (p4 v D Z' gs' ⟨by exact ahN hk,rfl,TW,hb,R1.setG,λkl p0=>?_⟩))⟩;have:=kap kl p0;rw[show P.N-j+1=(P.N-(j+1)+1)+1 from by exact congrArg Nat.succ (adl hk).symm]at this;exact this
theorem Rp.n_{Zc:Cells}(R:Rp c (S.ext (((L,.obj (isNs loc))::Zc)++X)) s)(ok:c.Ok)(hc:c.comp=false)(nd:(loc.map (λx=>x.1)).Nodup)(kinds:∀x∈loc.map (λx=>x.1),fx.cs.names.lookup x=some .local∧(x==("__debug__":Str))=false):∃m,(∀p∈S.loc,(m p.1).map ab=p.2)∧Rp (c.enter fx m L) (SS.ext ⟨loc,Zc⟩ (S.cells++X)) s:=by
 let m hn hm:=ak R.ns;let o ho es ep mL zd hk hf hl:=yL (R.cells (L,.obj (isNs loc)) (aad _ (.head _)));have e1:(c.enter fx m L).aC=(c.env,m)::c.aC:=by unfold Cx.enter;rw[hc]
 have pm:(L::((c.L::c.aC.map (λx=>x.1.locals))++(Zc++(S.cells++X)).map (λx=>x.1))).Perm (c.L::(c.aC.map (λx=>x.1.locals)++(S.cells++(((L,AO.obj (isNs loc))::Zc)++X)).map (λx=>x.1))):=by rw[ahh];intro a;simp only[aaj,aan,abM,ahV];exact Gv
 refine⟨m,hm,⟨R.stays,⟨mL,(eY o es ep ⟨ho,zd,hk,hf⟩),hl⟩,λf hf=>?_,λp hp=>?_,λa ha=>?_,?_,nd,kinds,R.gens,R.os,R.tk⟩⟩;rw[e1]at hf;rcases aai.mp hf with rfl|hf;rw[ok.eL];exact hn;exact R.aC f hf;show R.cells p;rcases aax.mp hp with hp|hp;exact aad _ (aaf _ (.tail _ hp));rcases aax.mp hp with hp|hp;exact aaf _ hp;exact aad _ (aad _ hp);rw[e1,aan,ok.eL]at ha;exact R.fresh a (pm.subset ha);rw[e1,aan,ok.eL];exact pm.nodup_iff.mpr R.nd
theorem Rp.xI{rZ:List (Str×Option AV)}{Dt:Cells}(ok:c.Ok)(hc:c.comp=false)(kK:(S.loc.map (λx=>x.1)).Nodup)(lk:∀x∈S.loc.map (λx=>x.1),c.env.kindOf x=some .local∧(x==("__debug__":Str))=false)(hm:∀p∈S.loc,(m p.1).map ab=p.2) (R2:Rp (c.enter fx m L) (SS.ext ⟨rZ,Dt⟩ (S.cells++X)) s'):Rp c (S.ext (((L,.obj (isNs rZ))::Dt)++X)) s':=by
 have e1:(c.enter fx m L).aC=(c.env,m)::c.aC:=by unfold Cx.enter;rw[hc]
 have hs:=R2.aC;have hf:=R2.fresh;have kh:=R2.nd;rw[e1]at hs hf kh;rw[aan,ok.eL]at hf kh;have pm:(L::((c.L::c.aC.map (λx=>x.1.locals))++(Dt++(S.cells++X)).map (λx=>x.1))).Perm (c.L::(c.aC.map (λx=>x.1.locals)++(S.cells++(((L,AO.obj (isNs rZ))::Dt)++X)).map (λx=>x.1))):=by rw[ahh];intro a;simp only[aaj,aan,abM,ahV];exact Gv
 obtain⟨mL,⟨o,es,ep,ho,zd,hk,G6⟩,hl⟩:=R2.ns;refine⟨R2.stays,⟨m,ok.eL▸hs (c.env,m) (.head _),hm⟩,λf hf=>hs f (.tail _ hf),λp hp=>?_,λa ha=>hf a (pm.symm.subset ha),pm.nodup_iff.mp kh,kK,lk,R2.gens,R2.os,R2.tk⟩;rcases aax.mp hp with hp|hp;exact R2.cells p (aad _ (aaf _ hp));rcases aax.mp hp with hp|hp;rcases aai.mp hp with rfl|hp;exact⟨o,ho,es,ep,mL,zd,hk,G6,hl⟩;exact R2.cells p (aaf _ hp);exact R2.cells p (aad _ (aad _ hp))
end
end
section
variable{Q:Unit→aas→Prop}
section
variable{c:Cx} {n:Nat} {S:SS} {α β:Type} {E E':EP} {s:aas} {X:Cells}
theorem ib{c:Cx}{X:Cells}{x:Value}(h:EX c X hW x s'):False:=by obtain⟨_,_,_,_,_,_,h⟩:=h;exact h
theorem By{id:Str}{pos:Pos}(ok:c.Ok)(hA:c.In A n)(R:Rp c (S.ext X) s)(hs:args.all aV=true)(h:EE c n S (.Name id p) (λf S1=>kM c.K f∧EA c n S1 args (λas S2=>∀s2 v vs,Rp c (S2.ext X) s2→ab v=f→vs.map ab=as→wpAny (model prog c.w) A (call v vs) Qr nB s2) hW) hW):wpAny (model prog c.w) A (eval (.Call (.Name id p) args [] pos) c.env) Qr nB s:=by refine af3 (aau (h.run ok X A s hA R) (λf s1 TX=>?_) λzz zz x=>ib x);obtain⟨S1,R1,k1,k2⟩:=TX;have md:=bF (pos:=pos) (env:=c.env) hs;refine aem (P:=λh=>c.K.In h) (by rw[md];rfl:((aeg pos (aci args c.env)).any (λx=>x.1)||([]:List (Option Str×Sem Value)).any (λx=>x.1.isNone))=false) (λhh X=>?_) (bV md (aau ((k2 pos).run ok _ A s1 hA R1) (λvs s2 TY=>by obtain⟨S2,R2,k⟩:=TY;exact⟨fQ ok R2,k s2 f vs R2 rfl rfl⟩) λzz zz x=>ib x));cases f with|ref a=>exact keeps_K k1 hh X|builtin i=>exact⟨.machine,.inr (.inl rfl),ace rfl⟩|type i=>exact⟨.machine,.inr (.inl rfl),ace rfl⟩|_=>exact k1.elim
def Bz(ps:List (AV×AV))(i:Nat)(v:Value)(D:Cells):Prop:=∃t a b,ps[i]? =some (a,b)∧v= .ref t∧D=[(t,.tup [a,b])]
abbrev kU(c:Cx)(a:Addr)(Gp:Array ach)(X:Cells)(ps:List (AV×AV))(Sf:Nat→SS):GP:=⟨c,(a,.obj (cC Gp.size))::X,Gp,ps.length,Bz ps,Sf⟩
def TZ(c:Cx)(n:Nat)(Sf:Nat→SS)(f:AV)(as:List AV)(ps:List (AV×AV)):Prop:=∀(v:Value) (vs:List Value),ab v=f→vs.map ab=as→c.Ok→∀X A s,c.In A n→Rp c ((Sf 0).ext X) s→wpAny (model prog c.w) A (call v vs) (λw s'=>∃a Gp gs Z,w= .ref a∧gs.bare=true∧(∃r,Gp=c.G++r∧agk r)∧Rp (c.bc (Gp.push gs)) ((Sf 0).ext (Z++(kU c a Gp X ps Sf).X)) s'∧(kU c a Gp X ps Sf).Goes A 0 Z gs) nB s
theorem r_{l:List Expr}{b:Addr}{g:Nat}(hg:s.heap.IsGen a g)(hQ:Q () s):wpAny (model prog w) A (aea (.Tuple l k pp) (.ref a) (.ref b)) Q nB s:=by
 let o nm qn ho hc hd z6:=eN hg;refine aac (ahE ho ?_);rw[hc,hd];change wpAny _ A (if _ then _ else _) _ _ _;with_reducible refine qF (by simp) ?_
 exact aal hQ
theorem wy{id:Str}{pos:Pos}{kt}{Q:FL→SS→Prop}{ps:List (AV×AV)}(Sf:Nat→SS)(J:Nat→Prop)(h0:J 0)(h:EE c n S (.Name id pn) (λf S1=>kM c.K f∧EA c n S1 args (λas S2=>S2=Sf 0∧TZ c n Sf f as ps) hW) hW)(step:∀G' i a b,ps[i]? =some (a,b)→J i→∃l',ia [x,y] [a,b] (Sf i).loc l'∧EB (c.bc G') n ⟨l',(Sf i).cells⟩ body (au (λS'=>S'=Sf (i+1)∧J (i+1)) Q) hW)(fin:J ps.length→EB c n (Sf ps.length) orelse Q hW)(hs:autoParam (args.all aV=true) apR) (hd:autoParam (c.hd=none) apA) (hc:autoParam (c.comp=false) apA):ES c n S (.For (.Tuple [.Name x px,.Name y py] kt pt) (.Call (.Name id pn) args [] pos) body orelse p) Q E:=.i λok X A s hA R=>by
 refine wpAny_For (tN (By ok hA R hs (h.az λf S1 h8=>eA h8 λk1 k2=>⟨k1,λpos=>(k2 pos).az λvs S2 h8 s2 v Xg R2 hv bx=>eA h8 λe k=>?_⟩))) (λzz=>rfl);subst e;refine aau (k v Xg hv bx ok X A s2 hA R2) (λw s3 I8=>?_) λzz zz z=>z;let a Gp gs Z e hb hG R3 go:=lX I8;subst e;have Xh:(a,AO.obj (cC Gp.size))∈(kU c a Gp X ps Sf).X:=.head _;have gen:∀{S:SS} {Z:Cells} {gs:ach} {s:aas},Rp (c.bc (Gp.push gs)) (S.ext (Z++(kU c a Gp X ps Sf).X)) s→s.heap.IsGen a Gp.size:=λR=>(by let o ho nm qn r:=t6 (R.cells _ (aad _ (aad _ Xh)));exact eY o nm qn ⟨ho,r⟩);have bk:∀{S:SS} {Z:Cells} {gs:ach} {s:aas},gs.bare=true→Rp (c.bc (Gp.push gs)) (S.ext (Z++(kU c a Gp X ps Sf).X)) s→Rp c (S.ext X) s:=λhb R=>(R.dH (X:=(kU c a Gp X ps Sf).X).dH (Z:=[(a,.obj (cC Gp.size))]) (X:=X)).Xf hG hb;show af_ (gen R3);refine ahg (λm s=>∃i gs Z,m=ps.length-i∧i≤ps.length∧gs.bare=true∧Rp (c.bc (Gp.push gs)) ((Sf i).ext (Z++(kU c a Gp X ps Sf).X)) s∧(kU c a Gp X ps Sf).Goes A i Z gs∧J i) ?_ ps.length (eY 0 gs Z ⟨rfl,aaD _,hb,R3,go,h0⟩);intro m s T0;let i gs Z hm hi hb R1 go hJ:=lW T0;refine tN (aau (uz (P:=kU c a Gp X ps Sf) ok (hA.2.1.trans hd:A.handled=none) (aaC (aa5 _ _) hA.2.2.1) Xh hi R1 go) (λr s4 hr=>?_) λzz zz z=>z);rcases hr with⟨v,D,Z',gs',dc,rfl,⟨t,a',b',hp,rfl,rfl⟩,Bt,R4,go'⟩|⟨rfl,rfl,R4⟩
 ·have OT:Rp (c.bc (Gp.push gs')) ((SS.mk (Sf i).loc ((t,.tup [a',b'])::(Sf i).cells)).ext (Z'++(kU c a Gp X ps Sf).X)) s4:=R4.perm (cells':=(t,.tup [a',b'])::(Sf i).cells++(Z'++(kU c a Gp X ps Sf).X)) (by rw[aaT];exact aaS.symm);let l' sl eb:=ak (step (Gp.push gs') i a' b' hp hJ);refine tN (r_ (gen OT) ?_);refine aau ((rY (c:=c.bc (Gp.push gs')) (n:=n) (S:=⟨(Sf i).loc,(t,.tup [a',b'])::(Sf i).cells⟩) (E:=hW) (Q:=λS6=>S6=⟨l',(t,.tup [a',b'])::(Sf i).cells⟩) hd (.head _) sl rfl (.ref t) rfl).run ok.bc _ A s4 hA OT) (λzz s6 I9=>?_) λzz zz z=>(ib z).elim;obtain⟨S6,R6,e6⟩:=I9;subst e6;have R7:Rp (c.bc (Gp.push gs')) ((SS.mk l' (Sf i).cells).ext (Z'++(kU c a Gp X ps Sf).X)) s6:=R6.drop (cells':=(Sf i).cells++(Z'++(kU c a Gp X ps Sf).X)) (acj ..);refine aau (eb.run ok.bc _ A s6 hA R7) (λf s8 T_=>?_) λzz zz z=>(ib z).elim;obtain⟨S8,R8,k8⟩:=T_;have oZ:i<ps.length:=dc;cases f with|next=>exact⟨_,by exact DG hm oZ,i+1,gs',Z',rfl,by exact oZ,Bt,(show S8=Sf (i+1)∧J (i+1)from k8).1▸R8,go',(show S8=Sf (i+1)∧J (i+1)from k8).2⟩|cont=>exact⟨_,by exact DG hm oZ,i+1,gs',Z',rfl,by exact oZ,Bt,(show S8=Sf (i+1)∧J (i+1)from k8).1▸R8,go',(show S8=Sf (i+1)∧J (i+1)from k8).2⟩|brk=>exact⟨S8,bk Bt R8,k8⟩|ret v=>exact⟨S8,bk Bt R8,k8⟩
 have R5:Rp c ((Sf ps.length).ext X) s4:=bk (Z:=[]) rfl R4;exact aau ((fin hJ).run ok X A _ hA R5) (λf s3 Ua=>by obtain⟨S3,R3,k3⟩:=Ua;exact⟨S3,R3,k3⟩) λzz zz z=>(ib z).elim
end
end
section
variable{t:Expr} {Q:Bool→SS→Prop} {b o:List Stmt} {K':ahu→Sem Fin}
section
variable{c:Cx} {n:Nat} {S:SS} {α β:Type} {E E':EP} {s:aas} {X:Cells}
variable{M:Model} {A:ads} {R:GenEnd} {Y:Protocol} {k:Nat} {s₀:aas} {cd:Code} {fs:List Frame} {env:Env} {K:Flow→Sem Fin} {H:Value→Sem Fin} {gd:Bool→Bool} {lv:List Value→List Value}
theorem OU{t:Sem α}{K:α→Sem Fin}{Q:α→SS→Prop}(ok:c.Ok)(hA:c.In (A.over cd fs) n)(R1:Rp c (S.ext X) s)(h:W c n S t (λv S'=>Q v S') hW)(hk:∀v s' S',Rp c (S'.ext X) s'→Q v S'→Seg (model prog c.w) A R Y k s₀ cd (K v) fs s'):Seg (model prog c.w) A R Y k s₀ cd (t.wrap K H gd lv) fs s:=seg_wrap (aau (h.run ok X _ s hA R1) (λv s' Ub=>by obtain⟨S',R',q⟩:=Ub;exact hk v s' S' R' q) λx s' z=>(ib z).elim)
theorem sa(t:Expr)(b o:List Stmt)(p:Pos):exec (.If t b o p) env=(do agl p;if←isTrue t env (eval t env)then execs b env else execs o env):=rfl
theorem I_(h:wpAny M (A.over cd fs) (isTrue t env (eval t env)) (λx s'=>Seg M A R Y k s₀ cd ((if x=true then execs b env else execs o env).wrap K H gd lv) fs s') nB s):Seg M A R Y k s₀ cd ((exec (.If t b o p) env).wrap K H gd lv) fs s:=by rw[sa];refine aa_ (abw (aa_ (tN (aau h (λx s' hx=>?_) λzz zz z=>z))));exact hx
theorem pd(ok:c.Ok)(hA:c.In (A.over cd fs) n)(R1:Rp c (S.ext X) s)(h:ET c n S t Q hW)(hk:∀x s' S',Rp c (S'.ext X) s'→Q x S'→Seg (model prog c.w) A R Y k s₀ cd ((if x=true then execs b c.env else execs o c.env).wrap K H gd lv) fs s'):Seg (model prog c.w) A R Y k s₀ cd ((exec (.If t b o p) c.env).wrap K H gd lv) fs s:=I_ (aau (h.run ok X _ s hA R1) (λv s' Uc=>by obtain⟨S',R',q⟩:=Uc;exact hk v s' S' R' q) λx s' z=>ib z)
theorem ED{pos:Pos}(hs:∀x,aa4 iter env x=pure x)
  (h:wpAny M (A.over cd fs) (eval iter env) (λx s1=>wpAny M (A.over cd fs) (ah9 x) (λit s2=>∀p,Seg M A R Y k s₀ (.forLoop target it body orelse env) (M.den (.forLoop target it body orelse env))
   (.ret (λr=>((match r with| .ok f=>(.pure f:Sem Flow)| .error e=>.raise e).onRaise λ(x:Value)=>do
    if(←field x 1)==aa6 then unsupported "frame.own-activation:exception-without-traceback"
    ah7 x env.frame).wrap K H gd lv) none (gd false) (lv []) cd p []::fs) s2) nB s1) nB s):
  Seg M A R Y k s₀ cd ((exec (.For target iter body orelse pos) env).wrap K H gd lv) fs s:=by
 rw[exec_For]
 refine aa_ (abw (aa_ ?_))
 refine tN (aau h (λx s1 h1=>aa_ (ab2 (hs x) ?_)) λzz zz z=>z)
 refine aa_ (abw (aa_ (abk (tN (aau h1 (λit s2 h2=>?_) λzz zz z=>z)))))
 exact seg_call h2
theorem m_{it:Value}
  (h:wpAny (model prog w) (A.over (.forLoop target it body orelse env) fs) (ahB it) (λr s1=>match r with
   |none=>Seg (model prog w) A R Y k s₀ (.block orelse env) ((model prog w).den (.block orelse env)) fs s1
   |some v=>wpAny (model prog w) (A.over (.forLoop target it body orelse env) fs) (aea target it v) (λzz s2=>wpAny (model prog w) (A.over (.forLoop target it body orelse env) fs) (agr target env v) (λzz s3=>
     Seg (model prog w) A R Y k s₀ (.forLoop target it body orelse env) ((execs body env).wrap (λf=>match f with
      | .next| .cont=>.pure (.again (.forLoop target it body orelse env))
      | .brk=>.pure (.done .next)
      | .ret v=>.pure (.done (.ret v))) (λe=>(do ael e env;aeb e:Sem Unit).wrap (λzz=>.raise e) .raise id id) id id) fs s3) nB s2) nB s1) nB s):
  Seg (model prog w) A R Y k s₀ (.forLoop target it body orelse env) ((model prog w).den (.forLoop target it body orelse env)) fs s:=by
 change Seg _ A R Y k s₀ _ ((forTurn target it body orelse env).onRaise (λx=>do ael x env;aeb x)) fs s
 unfold forTurn
 rw[ad1]
 refine aa_ (abw (aa_ (wpAny_onRaise (tN (aau h (λr s1 h1=>?_) λzz zz z=>z)))))
 cases r with
 |none=>exact aha rfl h1
 |some v=>
  refine aa_ (tN (aau h1 (λzz s2 h2=>aa_ (tN (aau h2 (λzz s3 h3=>?_) λzz zz z=>z))) λzz zz z=>z))
  rw[afF,ahq]
  rw[Sem.wrap_congr (execs body env) _ _ (K':=λf=>match f with
      | .next| .cont=>.pure (.again (.forLoop target it body orelse env))
      | .brk=>.pure (.done .next)
      | .ret v=>.pure (.done (.ret v))) (H':=(λe=>(do ael e env;aeb e:Sem Unit).wrap (λzz=>.raise e) .raise id id))
    (λf=>by cases f<;>rfl)
    (λe=>by first|exact aib _ _|(change(do ael e env;aeb e:Sem Unit).bind (λzz=>.raise e)=_;rw[aib]))]
  exact h3
theorem qb{h g l c₁ p₁ kp}(hk:Seg (model prog w) A R Y k s₀ c₁ (K' (.ok .next)) fs s):Seg (model prog w) A R Y k s₀ (.block [] env) ((model prog w).den (.block [] env)) (.ret K' h g l c₁ p₁ kp::fs) s:=
 seg_leaf (.ok .next) hk
end
end
section
structure Ja(K:Frag)(fx:Fx)(fd:aaP)(body:List Stmt):Prop where
 obj:∃oc od osl,K.lookup fx.a=some ⟨oc,od,.func fd,osl⟩
 code:codeIn K fd.code fd.qualname=true
 qual:fd.qualname=fx.cn
 cs:fd.scope=fx.cs
 cd:fd.code=fx.cd
 glob:fd.globals=ab9
 rL:fd.closure=[]
 v8:fd.builtins=abg
 body:fd.body= .stmts body
 co:fd.scope.isCoroutine=false
 gen:fd.scope.isGenerator=true
 kind:fd.scope.kind= .function
 cells:∀x∈fd.scope.names,x.2≠.cell
abbrev be(fx:Fx)(L:Addr):Env:=envX fx.cn fx.cs L fx.a fx.cd []
section
variable{c:Cx} {n:Nat} {S:SS} {s:aas} {X:Cells}
theorem Rp.ext2{b:Addr}{x y:AO}{tk:Nat}(R:Rp c (S.ext X) s)(k:∀b o,s.heap.get? b=some o→h'.get? b=some o){o1 o2:Obj}(ha:s.heap.objs.size≤a)(hb:s.heap.objs.size≤b)(tO:a≠b)(h1:h'.get? a=some o1) (c1:pY c.w x o1) (h2:h'.get? b=some o2) (c2:pY c.w y o2) (iR:s.toks≤tk):Rp c (S.ext ((a,x)::(b,y)::X)) {s with heap:=h',toks:=tk}:=R.j0 (C:=[]) (C':=[(a,x),(b,y)]) (λb o zz e=>k b o e) (λp hp=>by rcases aai.mp hp with rfl|hp;exact⟨_,h1,c1⟩;rcases aai.mp hp with rfl|hp;exact⟨_,h2,c2⟩;cases hp) (by simp[tO]) (λz hz=>by simp only[aan,acE,aai,abO,or_false]at hz;rcases hz with rfl|rfl;exact .inr ha;exact .inr hb) iR
theorem BA{K0:aao→Frag}{fd:aao→aaP}(hf:∀P,Ja (K0 P) fx (fd P) body)(hb:∀(s:aas) (P:aao),(K0 P).In s.heap→∀pos kws,pos.map ab=as→kws.map (λp=>(p.1,ab p.2))=[]→∃binds,ac9 s (fd P) ⟨pos,kws⟩ binds∧e7 fx binds loc)(hK:c.K=K0 c.w.params) (ok:c.Ok) (hA:c.In A (n+1)) (R:Rp c (S.ext X) s) {vs:List Value} (bx:vs.map ab=as):wpAny (model prog c.w) A (call (.ref fx.a) vs) (λw s'=>∃a L,w= .ref a∧c.base.objs.size≤L∧Rp (c.bc (s.gens.push (.fresh (.func body (be fx L))))) (S.ext ((L,.obj (isNs loc))::(a,.obj (cC s.gens.size))::X)) s') nB s:=by
 have F:=hf c.w.params;have fg:(K0 c.w.params).In s.heap:=λa o e=>R.stays a o (ok.eH.fg a o (hK▸e));let binds hB hl:=ak (hb s c.w.params fg vs [] bx rfl);let oc od osl ho:=vS F.obj;let h1 h2 h3 h4:=jc hA;have ki:c.base.objs.size≤s.heap.objs.size:=aaN (aaC ok.above (R.lt _ (.head _)));refine abI (adu (R:=λr s'=>match r with| .ok (.ret w)=>∃a L,w= .ref a∧c.base.objs.size≤L∧Rp (c.bc (s.gens.push (.fresh (.func body (be fx L))))) (S.ext ((L,.obj (isNs loc))::(a,.obj (cC s.gens.size))::X)) s'|_=>False) ?_ λr s' h=>by
  cases r with
  |ok f=>cases f with
   |ret v=>exact h
   |next=>exact h.elim
   |brk=>exact h.elim
   |cont=>exact h.elim
  |error x=>exact h.elim)
 refine codeAny_call_generator (fd:=fd c.w.params) (body:=body) (by exact Lf h3) (fg _ _ ho) rfl F.co F.gen F.body (agn fg F.code) (hB _ _ _ _ ?_);refine aeW F.cells (λx hx=>F.cs▸hl.kb x hx) (λh' Bc rX=>?_) F.kind;have keep:∀b o,s.heap.get? b=some o→h'.get? b=some o:=λb o e=>rX.extBut b o (abf (aa3 e)) (aap _ e);have hz:h'.objs.size=s.heap.objs.size+1:=by rw[rX.1,acG]
 refine⟨(ok.eH.lim.keeps R.stays).keeps keep,?_⟩;have eqE:ahx (fd c.w.params).scope s.heap.objs.size (fd c.w.params).globals (fd c.w.params).closure ((fd c.w.params).qualname++".<locals>.") (some fx.a) (fd c.w.params).code none (fd c.w.params).builtins=be fx s.heap.objs.size:=by unfold ahx;simp only[F.cs,F.glob,F.rL,F.qual,F.cd,F.v8]
 refine ba h'.objs.size s.heap.objs.size ⟨rfl,ki,?_⟩;rw[eqE];let o es ep jh rJ G7 YC:=eN Bc;have R2:Rp c (S.ext ((s.heap.objs.size,.obj (isNs loc))::(h'.objs.size,.obj (cC s.gens.size))::X)) {s with heap:=h'.push {cls:=.type "generator",data:=.fields #[.int s.gens.size 0,.str (fd c.w.params).name (s.toks+binds.length),.str (fd c.w.params).qualname (s.toks+binds.length+1)]},toks:=s.toks+binds.length+1+1}:=R.ext2 (λb o e=>aap _ (keep b o e)) (aak _) (hz▸aa2 _) (hz▸(aic _).symm) (aap _ jh) (eY es ep _ ⟨rJ,G7,YC,hl.vals⟩) (aaG _ rfl) (ba _ _ ⟨rfl,rfl,rfl⟩) (aab (aa5 _ _) (aab (aa2 _) (aa2 _)));let r hg hr:=ak R.gens;exact Rp.toG (c:=c) (G:=c.G) (G':=s.gens.push _) (r:= #[]) R2 (by simp) (λy hy=>by simp at hy)
end
end
section
variable{P:Nat→Obj→Prop} {b:Prop}
section
variable{c:Cx} {n:Nat} {S:SS} {E:EP} {s:aas} {X:Cells}
theorem mo{Q:FL→SS→Prop}(h:EE c n S iter (λv S1=>∃(xs:List AV) (P:Nat→Obj→Prop) (Inv:Nat→SS→Prop),(∀u,ab u=v→wi c n S1 u P)∧Inv 0 S1∧(∀i y S1,xs[i]? =some y→Inv i S1→xo c n S1 P i y∧AS c n S1 (.Name x px) y (λS2=>EB c n S2 body (au (Inv (i+1)) Q) E) hW)∧(∀S1,Inv xs.length S1→xq c n S1 P xs.length∧EB c n S1 orelse Q E)) E)(hs:autoParam (∀x,aa4 iter c.env x=pure x) apR) (hc:autoParam (c.comp=false) apA):ES c n S (.For (.Name x px) iter body orelse p) Q E:=.i λok X A s hA R=>by refine wpAny_For (aau (h.run ok X A s hA R) (λv s1 h8=>h8.el λS1 R1 h7=>eN h7 λxs P Inv hi hinv step fin=>hi v rfl ok X A s1 _ _ hA R1 λh₁ it o tk hk hit ho hP iR=>?_) λzz zz z=>z) hs;have exc:∀i,∀x s',EX c ((it,.obj (P i))::X) E x s'→aiB (model prog c.w) A c.env (ahw (model prog c.w) A c.env (EX c X E)) x s':=λi x s' z=>jp (Z:=[_]) ok hc hA z;refine codeAny_forLoop (λm s=>∃i S1,m=xs.length-i∧i≤xs.length∧Rp c (S1.ext ((it,.obj (P i))::X)) s∧Inv i S1) (λm s Jb=>?_) xs.length (ba 0 S1 ⟨rfl,aaD _,((R1.alloc (tk:=tk) hk hit ho (ao:=.obj (P 0)) hP iR).perm (cells':=S1.cells++(it,.obj (P 0))::X) aaS),hinv⟩);let i S1 hm hi R1 i1:=lU Jb;let o ho hP:=ak (R1.cells (it,.obj (P i)) (aad _ (.head _)));cases hx:xs[i]? with|none=>have:xs.length=i:=(by have:=ac2.mp hx;exact aaI this hi);subst this;let f1 f2:=eA (fin S1 i1);let h₂ tk₂ j3 iR:=f1 ok _ A s it o _ _ hA R1 ho hP;have R2:=R1.y5 (h':=h₂) (tk:=tk₂) (λb o' hb e=>j3 b o' hb e) iR;exact aau (f2.run ok X A _ hA R2) (λzz zz z=>z) λzz zz z=>jp (Z:=[]) ok hc hA z|some y=>let g1 g2:=eA (step i y S1 hx i1);have dc:i<xs.length:=(by have:=(aav.mp hx).1;exact this);let v h₂ o' tk₂ hv j3 OV OW iR:=g1 ok _ A s it o _ _ hA R1 ho hP;have R2:Rp c (S1.ext ((it,.obj (P (i+1)))::X)) {s with heap:=h₂,toks:=tk₂}:=R1.upd (x:=.obj (P i)) (y:=.obj (P (i+1))) aI.mid j3 OV OW iR;refine aau ((g2 v hv).run ok _ A _ hA R2) (λzz s3 Jc=>?_) λzz zz z=>za z;obtain⟨S3,R3,g3⟩:=Jc;refine aau (g3.run ok _ A s3 hA R3) (λf s4 Jd=>?_) (exc _);obtain⟨S4,R4,k4⟩:=Jd;have drop:Rp c (S4.ext X) s4:=R4.y5 (h':=s4.heap) (tk:=s4.toks) λzz zz zz z=>z;cases f with|next=>exact⟨_,by exact DG hm dc,i+1,S4,rfl,by exact dc,R4,k4⟩|cont=>exact⟨_,by exact DG hm dc,i+1,S4,rfl,by exact dc,R4,k4⟩|brk=>exact⟨S4,drop,k4⟩|ret v=>exact⟨S4,drop,k4⟩
theorem mq{Q:FL→SS→Prop}(Inv:Nat→SS→Prop)(h:EE c n S iter (λv S1=>(∀u,ab u=v→wi c n S1 u P)∧Inv 0 S1) E)(step:∀i y S1,xs[i]? =some y→Inv i S1→xo c n S1 P i y∧∃l',dA x y S1.loc l'∧EB c n ⟨l',S1.cells⟩ body (au (Inv (i+1)) Q) E)(fin:∀S1,Inv xs.length S1→xq c n S1 P xs.length∧EB c n S1 orelse Q E)(hs:autoParam (∀x,aa4 iter c.env x=pure x) apR) (hc:autoParam (c.comp=false) apA):ES c n S (.For (.Name x px) iter body orelse p) Q E:=mo (h.az λv S1 k=>(eY xs P Inv ⟨k.1,k.2,λi y S1 hx hi=>AL (step i y S1 hx hi) λg1 l' g2 g3=>⟨g1,cA g2 g3⟩,fin⟩)) hs hc
end
inductive At{α:Type}(p:α):List α→Prop
 |head:∀{r},At p (p::r)
 |tail:∀{q r},At p r→At p (q::r)
theorem At.YD{p:α}:∀{l:List α} (i:Nat),l[i]? =some p→At p l
 |a::l,0,h=>by cases h;exact .head
 |a::l,i+1,h=>.tail (At.YD i h)
theorem At.mem{p:α}{l:List α}(h:At p l):p∈l:=by induction h with|head=>exact .head _|tail _ ih=>exact .tail _ ih
theorem bA{p:Prop}[Decidable p]{a:Prop}(hp:p)(h:a):if p then a else b:=by rw[if_pos hp];exact h
theorem aY{p:Prop}[Decidable p]{a:Prop}(hp:¬p)(h:b):if p then a else b:=by rw[if_neg hp];exact h
section
variable{c:Cx} {n:Nat} {S:SS} {E:EP}
theorem dM{v:AV}(hm:At (x,some v) S.loc)(h:Q v S):EE c n S (.Name x p) Q E:=Ba hm.mem h
theorem pe{a:AV}(aZ:c.fx=fx)(hm:At (x,v) fx.gl)(hv:ab v=a)(h:Q a S):EE c n S (.Name x p) Q E:=OG (v:=v) (by rw[aZ];exact hm.mem) (hv▸h)
theorem mr(aZ:c.fx=fx)(hm:At (x,.ref a) fx.gl)(h:Q (.ref a) S):EE c n S (.Name x p) Q E:=pe aZ hm rfl h
theorem Je{a:String}(aZ:c.fx=fx)(hm:At (x,.type a) fx.gl)(h:Q (.type a) S):EE c n S (.Name x p) Q E:=pe aZ hm rfl h
theorem Jf{a:String}(aZ:c.fx=fx)(hm:At (x,.builtin a) fx.gl)(h:Q (.bi a) S):EE c n S (.Name x p) Q E:=pe aZ hm rfl h
theorem Jg{i:Int}{t:Tok}(aZ:c.fx=fx)(hm:At (x,.int i t) fx.gl)(h:Q (.int i) S):EE c n S (.Name x p) Q E:=pe aZ hm rfl h
theorem fO{K0:aao→Frag}(hK:c.K=K0 c.w.params)(h:∀P,ai0 (K0 P) (.ref a)=true):kM c.K (.ref a):=by rw[hK];exact h _
theorem uB{Q:FL→SS→Prop}(Inv:Nat→SS→Prop)(h:EE c n S iter (λv S1=>v= .ref l∧(l,.list xs)∈S1.cells∧Inv 0 S1) E)(hl:∀i S1,Inv i S1→(l,.list xs)∈S1.cells)(step:∀i y S1,xs[i]? =some y→Inv i S1→∃l',dA x y S1.loc l'∧EB c n ⟨l',S1.cells⟩ body (au (Inv (i+1)) Q) E)(fin:∀S1,Inv xs.length S1→EB c n S1 orelse Q E)(hd:autoParam (c.hd=none) apA) (hc:autoParam (c.comp=false) apA) (hs:autoParam (∀x,aa4 iter c.env x=pure x) apR):ES c n S (.For (.Name x px) iter body orelse p) Q E:=mq (xs:=xs) (P:=aQ l) Inv (h.az λv S1 h8=>pX h8 λh1 h2 h3=>⟨λu hu=>cJ h2 (hu.trans h1),h3⟩) (λi y S1 hx hi=>⟨cM (hl _ _ hi) hx,step i y S1 hx hi⟩) (λS1 hi=>⟨cN (hl _ _ hi) hd,fin S1 hi⟩) hs hc
theorem wz{Q:FL→SS→Prop}(Inv:Nat→SS→Prop)(h:EE c n S iter (λv S1=>v= .ref l∧(l,.tup xs)∈S1.cells∧Inv 0 S1) E)(hl:∀i S1,Inv i S1→(l,.tup xs)∈S1.cells)(step:∀i y S1,xs[i]? =some y→Inv i S1→∃l',dA x y S1.loc l'∧EB c n ⟨l',S1.cells⟩ body (au (Inv (i+1)) Q) E)(fin:∀S1,Inv xs.length S1→EB c n S1 orelse Q E)(hd:autoParam (c.hd=none) apA) (hc:autoParam (c.comp=false) apA) (hs:autoParam (∀x,aa4 iter c.env x=pure x) apR):ES c n S (.For (.Name x px) iter body orelse p) Q E:=mq (xs:=xs) (P:=xr l) Inv (h.az λv S1 h8=>pX h8 λh1 h2 h3=>⟨λu hu=>Eh h2 (hu.trans h1),h3⟩) (λi y S1 hx hi=>⟨Ei (hl _ _ hi) hx,step i y S1 hx hi⟩) (λS1 hi=>⟨Ej (hl _ _ hi) hd,fin S1 hi⟩) hs hc
theorem wA{Q:FL→SS→Prop}(Inv:Nat→SS→Prop)(h:EE c n S iter (λv S1=>v= .ref d∧(d,.map es ep)∈S1.cells∧Inv 0 S1) E)(hl:∀i S1,Inv i S1→(d,.map es ep)∈S1.cells)(step:∀i k v S1,es[i]? =some (k,v)→Inv i S1→∃l',dA x (.str k) S1.loc l'∧EB c n ⟨l',S1.cells⟩ body (au (Inv (i+1)) Q) E)(fin:∀S1,Inv es.length S1→EB c n S1 orelse Q E)(hd:autoParam (c.hd=none) apA) (hc:autoParam (c.comp=false) apA) (hs:autoParam (∀x,aa4 iter c.env x=pure x) apR):ES c n S (.For (.Name x px) iter body orelse p) Q E:=mq (xs:=es.map λp=>AV.str p.1) (P:=mj d es.length ep) Inv (h.az λv S1 h8=>pX h8 λh1 h2 h3=>⟨λu hu=>xt h2 (hu.trans h1),h3⟩) (λi y S1 hx hi=>⟨xu (hl _ _ hi) hx,by rw[aag]at hx;let q hq r2:=ak (aaq.mp hx);subst r2;exact step i q.1 q.2 S1 hq hi⟩) (λS1 hi=>⟨by have:=xw (c:=c) (n:=n) (S:=S1) (hl _ _ hi) hd;exact this,fin S1 (by rw[aaa]at hi;exact hi)⟩) hs hc
end
end
section
def Cx.gx(c:Cx)(scope:Scope)(fxg:Fx)(code:Value)(m:Str→Option Value)(C:Addr):Cx:={c with aC:=(c.env,m)::c.aC,L:=C,fx:=fxg,env:=adH scope [] C code abg c.env,comp:=false}
def Xi(ys:List AV)(i:Nat)(v:Value)(D:Cells):Prop:=D=[]∧ys[i]? =some (ab v)
section
variable{c:Cx} {n:Nat} {S:SS} {s:aas} {X:Cells} {scope:Scope} {fxg:Fx} {code:Value} {m:Str→Option Value} {C:Addr}
theorem Cx.ms(hc:c.comp=false):(c.enter fxg m C).aC=(c.env,m)::c.aC:=by unfold Cx.enter;rw[hc]
theorem Cx.OX{K0:aao→Frag}(ok:c.Ok)(hc:c.comp=false)(hK:c.K=K0 c.w.params)(gl:∀P,bH (K0 P) fxg)(hs:fxg.cs=scope)(hk:scope.kind= .function)(hL:c.base.objs.size≤C):(c.gx scope fxg code m C).Ok:=by have o:=Cx.jg (m:=m) (L:=C) ok hK gl (hs▸hk) hL;exact⟨o.eH,rfl,ok.eg,rfl,hk,λzz=>rfl,o.above,λf hf=>o.aC f (by rw[Cx.ms hc];exact hf),λp hp=>by let h1 h2 h3:=pX (o.gl p hp);exact⟨by rw[←hs];exact h1,h2,h3⟩⟩
theorem Rp.Ud(hc:c.comp=false)(hs:fxg.cs=scope)(R:Rp (c.enter fxg m C) S s):Rp (c.gx scope fxg code m C) S s:=by have e:=Cx.ms (fxg:=fxg) (m:=m) (C:=C) hc;exact⟨R.stays,R.ns,λf hf=>R.aC f (by rw[e];exact hf),R.cells,λa ha=>R.fresh a (by rw[e];exact ha),by have:=R.nd;rw[e]at this;exact this,R.kK,λx hx=>by rw[←hs];exact R.lk x hx,R.gens,R.os,R.tk⟩
theorem Rp.Ue(hc:c.comp=false)(hs:fxg.cs=scope)(R:Rp (c.gx scope fxg code m C) S s):Rp (c.enter fxg m C) S s:=by have e:=Cx.ms (fxg:=fxg) (m:=m) (C:=C) hc;exact⟨R.stays,R.ns,λf hf=>R.aC f (by rw[e]at hf;exact hf),R.cells,λa ha=>R.fresh a (by rw[e]at ha;exact ha),by rw[e];exact R.nd,R.kK,λx hx=>by have:=R.lk x hx;rw[←hs]at this;exact this,R.gens,R.os,R.tk⟩
theorem In.gx(hc:c.comp=false){G:Array ach}{gs:List ad5}{pos:Pos}{it:Value}(hA:c.In A (n+1)):((c.bc G).gx scope fxg code m C).In (A.in1.over (.compLoop (.GeneratorExp elt gs scope pos) 0 it acc (adH scope [] C code abg c.env)) []) n:=by let h1 h2 h3 h4:=jc hA;refine⟨?_,h2,?_,?_⟩;change af6 [adH scope [] C code abg c.env] (af6 [] A.frames)=_;rw[h1,Cx.dp (c:=(c.bc G).gx scope fxg code m C) rfl];change some (adH scope [] C code abg c.env::c.frames)=some (adH scope [] C code abg c.env::c.env::c.outer);rw[Cx.dp hc];change A.depth+0+1+n<_;exact WP h3;change A.units+1+0+3+8*n<_;exact WQ h4
theorem EF{P:GP}{pos:Pos}(okR:P.cR.Ok)(hc:P.c.comp=false)(hd:P.c.hd=none)(hA:P.c.In A (n+1))(hs:fxg.cs=scope)(okg:∀m,(P.cR.gx scope fxg code m C).Ok)(hx:scope.names.lookup x=some .local) (Uf:(x==("__debug__":Str))=false) (Lp:scope.isCoroutine=false) (hN:P.N=ys.length) (hlen:xs.length=ys.length) (TW:P.It=Xi ys)(hl:∀j,(l,.list xs)∈(P.Sf j).cells++P.X)(Jh:∀m j v y,xs[j]? =some v→ys[j]? =some y→EE (P.cR.gx scope fxg code m C) n ⟨[(x,some v)],[(it,.obj (aQ l (j+1)))]⟩ elt (λr S'=>r=y∧S'=⟨[(x,some v)],[(it,.obj (aQ l (j+1)))]⟩) hW):P.Goes A 0 [(C,.obj (isNs [(x,none)])),(it,.obj (aQ l 0))] (.fresh (.compStart (.GeneratorExp elt [⟨.Name x px,iter,[],0⟩] scope pos) 0 (.ref it) .none (adH scope [] C code abg P.c.env))):=by
 have EG:P.cR.comp=false:=hc;have kinds:∀v:Option AV,∀z∈([(x,v)]:List (Str×Option AV)).map (λx=>x.1),fxg.cs.names.lookup z=some .local∧(z==("__debug__":Str))=false:=λv z hz=>by simp only[aan,acE,aai,abO,or_false]at hz;subst hz;exact⟨by rw[hs];exact hx,Uf⟩
 have reent:∀{S:SS} {Zc:Cells} {s:aas} {v},Rp P.cR (S.ext (((C,.obj (isNs [(x,v)]))::Zc)++P.X)) s→∃m,(∀p∈S.loc,(m p.1).map ab=p.2)∧Rp (P.cR.gx scope fxg code m C) (SS.ext ⟨[(x,v)],Zc⟩ (S.cells++P.X)) s:=λR=>by let m hm R':=ak (R.n_ (fx:=fxg) okR EG (by simp) (kinds _));exact⟨m,hm,R'.Ud EG hs⟩
 have relv:∀{S:SS} {Dt:Cells} {s s':aas} {Z:Cells} {rZ m},Rp P.cR (S.ext Z) s→(∀p∈S.loc,(m p.1).map ab=p.2)→Rp (P.cR.gx scope fxg code m C) (SS.ext ⟨rZ,Dt⟩ (S.cells++P.X)) s'→Rp P.cR (S.ext (((C,.obj (isNs rZ))::Dt)++P.X)) s':=λR hm R2=>(R2.Ue EG hs).xI okR EG R.kK R.lk hm;have Ak:∀m,(P.cR.gx scope fxg code m C).In (A.in1.over (.compLoop (.GeneratorExp elt [⟨.Name x px,iter,[],0⟩] scope pos) 0 (.ref it) .none (adH scope [] C code abg P.c.env)) []) n:=λm=>In.gx hc hA;have lst:∀{S:SS} {Zc:Cells} {s:aas} {m} {loc} {j},S.cells=(P.Sf j).cells→Rp (P.cR.gx scope fxg code m C) (SS.ext ⟨loc,Zc⟩ (S.cells++P.X)) s→∃vs,s.heap.IsList l vs∧vs.toList.map ab=xs:=λ{S Zc s m loc j} e R=>by let o ho vs k r4 h:=gS (R.cells (l,.list xs) (aad _ (by rw[e];exact hl j)));subst r4;exact⟨vs,⟨_,ho,rfl,k,rfl⟩,h⟩
 have loop:∀(k j:Nat) (v:Option AV) (s₀ s:aas),xs.length-j=k→j≤xs.length→Rp P.cR ((P.Sf j).ext (((C,.obj (isNs [(x,v)]))::[(it,.obj (aQ l j))])++P.X)) s→Seg (model prog P.c.w) A.in1 P.R P.Y (P.N-j+1) s₀ (.compLoop (.GeneratorExp elt [⟨.Name x px,iter,[],0⟩] scope pos) 0 (.ref it) .none (adH scope [] C code abg P.c.env)) ((model prog P.c.w).den (.compLoop (.GeneratorExp elt [⟨.Name x px,iter,[],0⟩] scope pos) 0 (.ref it) .none (adH scope [] C code abg P.c.env))) [] s:=by intro k;induction k with|zero=>intro j v s₀ s hk hj R;have OY:j=xs.length:=(by exact aaI hj (ab5 hk));subst OY;let m hm Rg:=ak (reent R);let vs hL bx:=ak (lst (j:=xs.length) rfl Rg);let oi Ds OZ O0:=bN (Rg.cells (it,.obj (aQ l xs.length)) (.head _));change Seg _ A.in1 _ _ _ s₀ _ ((aiL (.GeneratorExp elt [⟨.Name x px,iter,[],0⟩] scope pos) 0 (.ref it) .none (adH scope [] C code abg P.c.env)).onRaise (leaving (adH scope [] C code abg P.c.env))) [] s;rw[compTurn_gen,ad1];refine aa_ (abw (aa_ (agG (hA.2.1.trans hd) ⟨oi,Ds,OZ,O0⟩ hL (rQ bx) λh' rX=>?_)));have R2:Rp P.cR ((P.Sf xs.length).ext P.X) {s with heap:=h'}:=(by exact(R.j0 (C:=[(C,.obj (isNs [(x,v)])),(it,.obj (aQ l xs.length))]) (C':=[]) (h':=h') (tk:=s.toks) (λb o hb e=>rX b o (λq=>hb (by simp[q])) e) (λp hp=>nomatch hp) abn (λa ha=>nomatch ha) (aak _)));have e:P.N-xs.length+1=1:=(by rw[hN,hlen];exact congrArg Nat.succ (adv _));rw[e];exact seg_end (.ok .next) ⟨rfl,⟨_,rfl,.inl rfl⟩,by rw[hN,←hlen];exact R2⟩|succ k ih=>intro j v s₀ s hk hj R;have dc:j<xs.length:=(by exact acy hk);let m hm Rg:=ak (reent R);let vs hL bx:=ak (lst (j:=j) rfl Rg);let oi Ds OZ O0:=bN (Rg.cells (it,.obj (aQ l j)) (.head _));have Xj:xs[j]? =some xs[j]:=aay dc;have Xl:ys[j]? =some (ys[j]'(hlen▸dc)):=aay (hlen▸dc);let w hw YE:=ak (mV bx Xj);change Seg _ A.in1 _ _ _ s₀ _ ((aiL (.GeneratorExp elt [⟨.Name x px,iter,[],0⟩] scope pos) 0 (.ref it) .none (adH scope [] C code abg P.c.env)).onRaise (leaving (adH scope [] C code abg P.c.env))) [] s;rw[compTurn_gen,ad1];refine aa_ (abw (aa_ (ago ⟨oi,Ds,OZ,O0⟩ hL hw λh' Ug rX=>?_)));let oi' Uh Ui Uj:=bN Ug;have R1:Rp (P.cR.gx scope fxg code m C) (SS.ext ⟨[(x,v)],[(it,.obj (aQ l (j+1)))]⟩ ((P.Sf j).cells++P.X)) {s with heap:=h'}:=Rg.upd (tk:=s.toks) (x:=.obj (aQ l j)) (y:=.obj (aQ l (j+1))) aI.head rX Uh ⟨Ui,Uj⟩;refine aa_ (ab2 (rfl:aea (.Name x px) (.ref it) w=pure ()) ?_);refine aa_ (aev (aau ((eZ (c:=P.cR.gx scope fxg code m C) (n:=n) (x:=x) (v:=w) (E:=hW) (S:=⟨[(x,v)],[(it,.obj (aQ l (j+1)))]⟩) (Q:=λzz S'=>S'=⟨[(x,some xs[j])],[(it,.obj (aQ l (j+1)))]⟩) (by rw[YE];exact .head) rfl).run (okg m) _ _ _ (Ak m) R1) (λzz s3 Uk=>?_) λzz zz z=>(ib z).elim));obtain⟨S3,R3,e3⟩:=Uk;subst e3;refine aa_ (ab2 (a:=true) rfl ?_);simp only[if_true];have hy:∀v,yieldOut (adH scope [] C code abg P.c.env) v=yieldValue v:=λv=>(by have:(adH scope [] C code abg P.c.env).scope.isCoroutine=false:=Lp;simp only[yieldOut,this,aaU,if_false]);simp only[hy];rw[afF,afF,ahq,ahq];refine seg_wrap (aau ((Jh m j xs[j] _ Xj Xl).run (okg m) _ _ s3 (Ak m) R3) (λr s4 Ul=>?_) λzz zz z=>(ib z).elim);obtain⟨S4,R4,e4,e5⟩:=Ul;subst e5;refine seg_at (seg_yield rfl rfl rfl (eY j [] ((C,.obj (isNs [(x,some xs[j])]))::[(it,.obj (aQ l (j+1)))]) ⟨by rw[hN];exact Mv hlen dc,by rw[hN];exact Mw hlen dc,by rw[TW];exact⟨rfl,by rw[e4];exact Xl⟩,relv R hm R4,λkl p0=>?_⟩));rw[(by rw[hN];exact My hlen dc:P.N-j=P.N-(j+1)+1)];exact aha rfl (ih (j+1) _ kl kl (by exact congrArg Nat.pred hk) dc p0)
 intro kl p0;refine⟨rfl,?_⟩;change Seg _ A.in1 _ _ _ kl _ ((compStart (.GeneratorExp elt [⟨.Name x px,iter,[],0⟩] scope pos) 0 (.ref it) .none (adH scope [] C code abg P.c.env)).onRaise (leaving (adH scope [] C code abg P.c.env))) [] kl;have lp:=loop xs.length 0 none kl kl (Nat.sub_zero _) (aaD _) p0;let m hm Rg:=ak (reent p0);let oi Ds OZ O0:=bN (Rg.cells (it,.obj (aQ l 0)) (.head _));rw[ad1];change Seg _ A.in1 _ _ _ kl _ ((ask>>=_).wrap _ _ _ _) [] kl;refine aa_ (wpAny_askSetting ?_);split;exact aha rfl lp;refine aa_ (aeN ?_);change Seg _ A.in1 _ _ _ kl _ ((agl iter.pos>>=_).wrap _ _ _ _) [] kl;exact aa_ (abw (aa_ (agJ ⟨oi,Ds,OZ,O0⟩ (aha rfl lp))))
end
end
section
open PySem.Builtin PySem.Builtin.Str
variable{Q:List Value→aas→Prop}
section
variable{c:Cx} {n:Nat} {S:SS} {s:aas} {X:Cells}
theorem iT{R:ahu→aas→Prop}{I:Addr}{res:Value}(St:Nat→aas→Prop)
  (turn:∀m s,St m s→wpAny (model prog w) A.in1 (ahB (.ref I)) (λr s'=>match r with
   |none=>R (.ok (.ret res)) s'
   |some v=>∃acc k,s'.heap.get? l=some {cls:=.type "list",dict:=none,data:=.seq acc k,slots:= #[]}∧acc.size+1≤ac_∧∃j,j<m∧St j {s' with heap:=s'.heap.update l (abb (·.push v))}) nB s):
  ∀m s,St m s→ad9 (model prog w) A (.builtin "list.extend.loop" ⟨[.ref l,.ref I,res],[]⟩) R s:=by
 intro m
 induction m using Nat.strongRecOn with
 |_ m ih=>
  intro s hs
  refine acs PySem.F.entry_extend_loop ?_
  rw[acH ac3 _]
  change wpAny _ A.in1 (ahB (.ref I)>>=_) _ _ s
  refine aac (tN (aau (turn m s hs) (λr s' h=>?_) λzz zz z=>z))
  cases r with
  |none=>exact aal h
  |some v=>
   refine DW h λacc k hl ki j hj hS=>?_
   change wpAny _ A.in1 (aid l (·.push v)>>=_) _ _ _
   refine aac ?_
   refine adz hl rfl (aal ⟨ad8 ac3 _,ih j hj _ hS⟩) (by exact aaN ki) (by change(acc.push v).size≤ac_+1;rw[Array.size_push];exact ab1 ki)
abbrev Du(c:Cx)(a:Addr)(Gp:Array ach)(X:Cells)(ys:List AV)(S:SS)(acc:Addr):GP:=⟨c,(a,.obj (cC Gp.size))::X,Gp,ys.length,Xi ys,λj=>⟨S.loc,(acc,.list (ys.take j))::S.cells⟩⟩
theorem uC(ok:c.Ok)(hh:A.handled=none)(m9:A.depth<adM)(hb:gs.bare=true)(hG:∃r,Gp=c.G++r∧agk r)(Dv:ys.length≤1000)(R:Rp (c.bc (Gp.push gs)) (S.ext (Z++((a,.obj (cC Gp.size))::X))) s) (life:∀acc,(Du c a Gp X ys S acc).Goes A.in1 0 Z gs)(hQ:∀vs s',vs.map ab=ys→Rp c (S.ext X) s'→Q vs s'):wpAny (model prog c.w) A (collect (.ref a)) Q nB s:=by
 let o ho nm qn hc zd yS:=ry (R.cells (a,.obj (cC Gp.size)) (aad _ (aad _ (.head _))));have hg:s.heap.IsGen a Gp.size:=(eY o nm qn ⟨ho,hc,zd,yS⟩);have dc:a<s.heap.objs.size:=aa3 ho;refine aac (ag2 (acs PySem.F.entry_proto_collect ?_));rw[acH PySem.F.plain_proto_collect _];change wpAny _ A.in1 (newList []>>=λl=>again (.builtin "list.__iadd__" ⟨[l,.ref a],[]⟩)) _ _ s;refine aac (abJ ?_);refine aal ⟨ad8 aga _,acs PySem.F.entry_list_iadd ?_⟩;rw[acH aga _];have xJ:(s.heap.push {cls:=.type "list",data:=.seq ([]:List Value).toArray}).IsGen a Gp.size:=hg.push _;change wpAny _ A.in1 (acR (.ref s.heap.objs.size) (.ref a) (.ref s.heap.objs.size)) _ _ _;refine aac (agt (afG xJ) ?_);have h1:adg (.ref s.heap.objs.size) (.ref a)=false:=by simp[adg,(abG dc:s.heap.objs.size≠a)]
 have h3:(abR "generator"==abR "tuple")=false:=by decide
 simp only[h1,(by decide:(abR "generator"==abR "list")=false),h3,afN,aaU,if_false];refine aac (af_ xJ ?_);refine aac (abk ?_);refine aac (acM (afG xJ) PySem.F.gen_no_len ?_);change wpAny _ A.in1 (specialOf (abQ a) (abA "__length_hint__")>>=_) _ _ _;refine aac (acM (afG xJ) PySem.F.gen_no_hint ?_);show aal;change wpAny _ A.in1 (rule "list.extend.makes-room">>=λzz=>agu (.ref s.heap.objs.size)>>=λzz=>again (.builtin "list.extend.loop" ⟨[.ref s.heap.objs.size,.ref a,.ref s.heap.objs.size],[]⟩)) _ _ _;refine aac (aeN ?_);have G8:(s.heap.push {cls:=.type "list",data:=.seq ([]:List Value).toArray}).get? s.heap.objs.size=some {cls:=.type "list",data:=.seq ([]:List Value).toArray}:=aaG _ rfl;show aac;change wpAny _ A.in1 (aid s.heap.objs.size (·.push .none)>>=λzz=>aid s.heap.objs.size (λx=>x.pop)) _ _ _;refine aac (adz G8 rfl ?_);have uD:=abl (abb (·.push aa6)) G8 rfl;show adz uD rfl;have oth:∀b o,s.heap.get? b=some o→
   (((s.heap.push {cls:=.type "list",data:=.seq ([]:List Value).toArray}).update s.heap.objs.size (abb (·.push aa6))).update s.heap.objs.size (abb (λx=>x.pop))).get? b=some o:=
  λb o e=>(abp _ _ (abG (aa3 e))).trans ((abp _ _ (abG (aa3 e))).trans (aap _ e))
 have R1:Rp (c.bc (Gp.push gs)) (((Du c a Gp X ys S s.heap.objs.size).Sf 0).ext (Z++(Du c a Gp X ys S s.heap.objs.size).X)) {s with heap:=((s.heap.push {cls:=.type "list",data:=.seq ([]:List Value).toArray}).update s.heap.objs.size (abb (·.push aa6))).update s.heap.objs.size (abb (λx=>x.pop)),toks:=s.toks}:=
  R.alloc (a:=s.heap.objs.size) (ao:=.list []) oth (aak _) (abl (abb (λx=>x.pop)) uD rfl) (ba _ _ ⟨rfl,by simp⟩) (aak _)
 refine aal ⟨ad8 ac3 _,iT (λm s'=>∃i gs Z,m=ys.length-i∧i≤ys.length∧gs.bare=true∧Rp (c.bc (Gp.push gs)) (((Du c a Gp X ys S s.heap.objs.size).Sf i).ext (Z++(Du c a Gp X ys S s.heap.objs.size).X)) s'∧(Du c a Gp X ys S s.heap.objs.size).Goes A.in1 i Z gs) ?_ ys.length _ (eY 0 gs Z ⟨rfl,aaD _,hb,R1,life _⟩)⟩;intro m s' Um;let i gs Z hm hi hb R2 go:=jd Um;refine aau (uz (P:=Du c a Gp X ys S s.heap.objs.size) ok hh m9 (.head _) hi R2 go) (λr s4 hr=>?_) λzz zz z=>z;rcases hr with⟨v,D,Z',gs',dc,rfl,⟨rfl,hy⟩,Bt,R4,go'⟩|⟨rfl,rfl,R4⟩;let o2 lQ vs k r4 bx:=gS (R4.cells (s.heap.objs.size,.list (ys.take i)) (.head _));subst r4;have xK:vs.size=i:=by have:=congrArg aaV bx;rw[aaa,aaQ,ado]at this;exact this.trans (ac5 hi)
 have oZ:i<ys.length:=dc;refine ba vs k ⟨lQ,by rw[xK];exact aab (ahW oZ) (aab Dv '2'),ys.length-(i+1),by exact DG hm oZ,i+1,gs',Z',rfl,oZ,Bt,?_,go'⟩;let k' jh:=eE (kQ (f:=(·.push v)) lQ);refine R4.upd (tk:=s4.toks) (x:=.list (ys.take i)) (y:=.list (ys.take (i+1))) aI.head (abx ..) jh (ba _ _ ⟨rfl,?_⟩);rw[aeu,aaj,bx,aaK,hy];rfl;have R5:Rp (c.bc (Gp.push .finished)) ((SS.mk S.loc ((s.heap.objs.size,.list (ys.take ys.length))::S.cells)).ext ((a,.obj (cC Gp.size))::X)) s4:=R4;let o2 lQ vs k r4 bx:=gS (R5.cells (s.heap.objs.size,.list (ys.take ys.length)) (.head _));subst r4;change wpAny _ A (load s.heap.objs.size>>=_) _ _ s4;refine aac (ahE lQ (aal (hQ _ _ (by rw[bx,abi]) ?_)));exact((R5.drop (cells':=S.cells++((a,.obj (cC Gp.size))::X)) (acj ..):Rp (c.bc (Gp.push .finished)) (S.ext ((a,.obj (cC Gp.size))::X)) s4).dH (Z:=[(a,.obj (cC Gp.size))]) (X:=X)).Xf hG rfl
set_option tactic.hygienic true in
theorem sd{t:Tok}(ok:c.Ok)(hh:A.handled=none)(m9:A.depth<adM)(hb:gs.bare=true)(hG:∃r,Gp=c.G++r∧agk r)(Dv:ss.length≤1000)(hz:(ss.toArray.foldl (·+·.length+sep.length) 0)≤lim)(R:Rp (c.bc (Gp.push gs)) (S.ext (Z++((a,.obj (cC Gp.size))::X))) s) (life:∀acc,(Du c a Gp X (ss.map .str) S acc).Goes A.in1.in1 0 Z gs):wpAny (model prog c.w) A (call (.builtin "str.join") [.str sep t,.ref a]) (λr s'=>ab r= .str (glued sep ss)∧Rp c (S.ext X) s') nB s:=by
 let o ho nm qn hc zd yS:=ry (R.cells (a,.obj (cC Gp.size)) (aad _ (aad _ (.head _))));have hg:s.heap.IsGen a Gp.size:=(eY o nm qn ⟨ho,hc,zd,yS⟩);refine abI (aeX acZ.plain ags (acZ.check _ _ _ _ _ _ _ _ (adQ _ _ _) (af7 _ _) ?_));rw[join_tree_other];refine aac (agt hg.typeIs ?_);change wpAny _ A.in1 ((ah9 (.ref a)).tryCatch _>>=λit=>collect it>>=λitems=>joinTail sep items) _ _ s;refine aac (wpAny_tryCatch (af_ hg ?_));refine aac (tN (uC (A:=A.in1) (ys:=ss.map .str) ok hh m9 hb hG (by rw[aaa];exact Dv) R life λvs s' bx R'=>?_));let l r1 hl:=ak (rV bx);subst r1;subst hl;have pZ:tooLong ((l.map (λx=>x.1)).toArray.foldl (·+·.length+sep.length) 0)=false:=decide_eq_false (by have:=ax hz;exact Gu this);have g:Gives (joinTail sep (strValues l)) (joinMade sep l):=by have g0:=gives_joinTail sep l pZ;cases l with|nil=>exact g0|cons p r=>cases r with|nil=>exact g0|cons q r'=>exact g0
 show g prog c.w A (wants (λr s'=>ab r= .str (glued sep (l.map (λx=>x.1)))∧Rp c (S.ext X) s') nB) s';unfold joinMade;split;rename_i p;exact⟨rfl,R'⟩;exact⟨(joinFit_length (sep:=sep) pZ),rfl,R'.toks⟩
end
end
section
open PySem.Builtin PySem.Builtin.Str
variable{cc:Addr} {q:Str→Str}
def aE(o:Obj):Prop:=∃ps,o=ai2 ps∧TriplesOk ps.toList
def sf(K:Frag)(cc P:Addr):Prop:=∃o vs file tf flags tg inF text tt,K.lookup cc=some o∧o.data= .fields vs∧vs.getD 11 .none= .ref P∧vs.getD 18 .none= .str file tf∧vs.getD 7 .none= .int flags tg∧vs.getD 9 .none= .bool inF∧vs.getD 10 .none= .int text tt∧cc≠P
def Xm(K:Frag):Prop:=∃bm ob,nsIn K ab9 "__builtins__"=some (some (.ref bm))∧bm≠abg∧K.lookup bm=some ob∧ob.cls= .type "module"∧ob.dict=some abg∧ob.data= .plain
section
variable{c:Cx} {n:Nat} {S:SS} {s:aas} {X:Cells} {E:EP}
theorem Rp.extBut{tk:Nat}(R:Rp c (S.ext X) s)(h:(a,ao)∈S.cells)(hs:agX a s.heap h')(ho:h'.get? a=some o')(hc:pY c.w ao o')(iR:s.toks≤tk):Rp c (S.ext X) {s with heap:=h',toks:=tk}:=by
 let pre post e:=DP (List.append_of_mem h);have pm:(S.cells++X).Perm ([(a,ao)]++(pre++post++X)):=by rw[e,aaw,aaw];exact aaS
 have R1:=(R.perm (cells':=[(a,ao)]++(pre++post++X)) pm.symm).turn (C':=[(a,ao)]) (h':=h') (tk:=tk) (λb o hb e'=>hs b o (λq=>hb (by simp[q])) e') (λp hp=>by obtain rfl:p=(a,ao):=(by simpa using hp);exact⟨_,ho,hc⟩) (by simp) (λb hb=>.inl hb) iR;exact R1.perm (cells':=S.cells++X) pm
theorem nC{P:Addr}{ps:Array Value}{pos:Pos}{qualname:Str}{Q:Value→aas→Prop}{K:Frag}(fg:K.In s.heap)(hc:env.code= .ref cc)(hT:sf K cc P)(hP:s.heap.get? P=some (ai2 ps))(Lq:TriplesOk ps.toList)(hQ:∀code h' tk RA,agX P s.heap h'→h'.get? P=some (ai2 RA)→TriplesOk RA.toList→s.toks≤tk→Q code {s with heap:=h',toks:=tk}):wpAny M A (genexprCode env pos qualname scope) Q nB s:=by obtain⟨o,vs,file,tf,flags,tg,inF,text,tt,Xn,hd,Td,h2,h7,h9,yP,gU⟩:=hT;delta genexprCode codeAt;rw[hc,if_neg (show¬((abQ cc==aa6)=true)from aa1)];refine aac (aeA (fg _ _ Xn) hd ?_);rw[Td];refine aac (aeA hP rfl ?_);cases Xo:aie pos ps.toList with|some cv=>exact aal (hQ cv s.heap s.toks ps (Heap.ExtBut.refl _ _) hP Lq (aak _))|none=>rw[h2,h7,h9,yP];show ae4 (aak s.toks);refine aac (wpAny_newCode λc' P' h' tk hk TO tL Un Xp=>?_);have O1:=hk _ _ hP;refine aac (wpAny_updateFieldsOfTheText O1 rfl ?_);have pg:=abl (h:=h') (λo=>acD (λvs=>if(aie pos vs.toList).isSome=true then vs else vs++ #[abK pos.line,abK pos.col,.ref c']) o) O1 rfl;have D7:acD (λvs=>if(aie pos vs.toList).isSome=true then vs else vs++ #[abK pos.line,abK pos.col,.ref c']) (ai2 ps)=ai2 (ps++ #[abK pos.line,abK pos.col,.ref c']):=(by change({cls:=.none,data:=.fields (if(aie pos ps.toList).isSome=true then ps else ps++ #[abK pos.line,abK pos.col,.ref c'])}:Obj)=_;rw[Xo];rfl);rw[D7]at pg;refine aac (aeA pg rfl ?_);have hl:(ps++ #[abK pos.line,abK pos.col,abQ c']).toList=ps.toList++[abK pos.line,abK pos.col,.ref c']:=(by simp);rw[hl,codeAmong_snoc _ Lq Xo];refine aal λiR=>hQ _ _ _ (ps++ #[abK pos.line,abK pos.col,.ref c']) (λb o' hb e=>((abx ..).extBut b o' hb (hk b o' e))) pg (by rw[hl];exact TriplesOk_snoc _ _ _ _ Lq) iR
theorem wB{K0:aao→Frag}{fxg:Fx}{P la:Addr}{xs:List Str}{kc:Nat}{cp gpos pos pl:Pos}{ln:Str}(hK:c.K=K0 c.w.params) (hd:c.hd=none) (hc:c.comp=false) (O2:c.env.code= .ref cc) (hT:∀Q,sf (K0 Q) cc P) (hB:∀Q,Xm (K0 Q)) (hP:(P,.obj aE)∈S.cells)(Lp:scope.isCoroutine=false) (uE:∀y∈scope.names,y.2≠.cell) (O3:∀y∈scope.names,y.2≠.free) (h0:scope.names.lookup (".0":Str)=some aeB) (hx:scope.names.lookup x=some .local) (Uf:(x==("__debug__":Str))=false) (Uo:x≠".0") (G9:scope.kind= .function)(hs:fxg.cs=scope) (gl:∀P,bH (K0 P) fxg) (O4:At (ln,some (.ref la)) S.loc) (O5:(la,.list (xs.map .str))∈S.cells) (hlen:xs.length≤1000)(Jh:∀cg:Cx,cg.K=K0 cg.w.params→cg.hd=none→cg.comp=false→cg.fx=fxg→∀v∈xs,∀Zc:Cells,EE cg n ⟨[(x,some (.str v))],Zc⟩ elt (λr S'=>r= .str (q v)∧S'=⟨[(x,some (.str v))],Zc⟩) hW)(hz:((xs.map q).toArray.foldl (·+·.length+sep.length) 0)≤lim) (h:Q (.str (glued sep (xs.map q))) S) (bw:autoParam ((ap.endLine==pos.line)=true) apR):EE c (n+2) S (.Call (.Attribute (.Constant (.str sep) kc cp) "join" ap) [.GeneratorExp elt [⟨.Name x px,.Name ln pl,[],0⟩] scope gpos] [] pos) Q E:=.i λok X A s hA R=>by
 show tN;with_reducible refine afC (T:="str") (id:="str.join") ?_ ?_ bw aey acZ agK (aee ?_)
 rfl;rfl;refine⟨adQ _ sep _,(λa q=>by cases q),?_⟩;have ma:([.GeneratorExp elt [⟨.Name x px,.Name ln pl,[],0⟩] scope gpos]:List Expr).all aV=true:=rfl;refine aem (P:=λzz=>True) (by rw[bF ma];rfl) (λhh zz=>⟨.machine,.inr (.inl rfl),ace rfl⟩) (bV (bF ma) ?_);rw[bO rfl];have hh:A.handled=none:=hA.2.1.trans hd;have m9:A.depth<adM:=aaC (aa5 _ _) hA.2.2.1;have R0:Rp c (S.ext X) {s with toks:=s.toks+1}:=R.toks;refine aeh (wpAny_GeneratorExp_make Lp (closureFor_none O3) uE h0 G9 m9 ?_ λzz=>rfl);refine aau ((dM O4 ⟨rfl,rfl⟩:EE c (n+2) S (.Name ln pl) (λv S1=>v= .ref la∧S1=S) hW).run ok X A _ hA R0) (λxv s1 Up=>?_) λzz zz z=>ib z;obtain⟨S1,R1,ev,eS⟩:=Up;subst eS;obtain rfl:=aj ev;let vs hL bx:=ak (R1.list O5);show afD hL;have R2:Rp c (S1.ext ((s1.heap.objs.size,.obj (aQ la 0))::X)) {s1 with heap:=s1.heap.push {cls:=.type "list_iterator",data:=.fields #[.ref la,.int 0 0]}}:=R1.j0 (C:=[]) (C':=[(s1.heap.objs.size,.obj (aQ la 0))]) (λb o zz e=>aap _ e) (λp hp=>by obtain rfl:p=_:=(by simpa using hp);exact⟨_,aaG _ rfl,rfl,rfl⟩) (by simp) (λb hb=>by obtain rfl:b=_:=(by simpa using hb);exact .inr (aak _)) (aak _);generalize hit:s1.heap.objs.size=it at R2⊢;generalize({s1 with heap:=s1.heap.push {cls:=.type "list_iterator",data:=.fields #[.ref la,.int 0 0]}}:aas)=s2 at R2⊢;refine⟨ok.eH.lim.keeps R2.stays,?_⟩;let oP YF ps r3 Lq:=ow (R2.cells (P,.obj aE) (aaf _ hP));subst r3;have Uq:(K0 c.w.params).In s2.heap:=λa o e=>R2.stays a o (ok.eH.fg a o (hK▸e));refine tN (nC Uq O2 (hT _) YF Lq λcode h3 Xq RA Lr YG Ur Us=>?_);have R3:=R2.extBut (h':=h3) (tk:=Xq) hP Lr YG ⟨RA,rfl,Ur⟩ Us;let bm ob YH Ji YI YJ Ut YK:=t8 (hB c.w.params);have Uu:(K0 c.w.params).In h3:=λa o e=>R3.stays a o (ok.eH.fg a o (hK▸e));show wpAny_builtinsFor (ok.eg▸ok.eH.g.keeps R3.stays) (mg_of ok.eH.fg ok.eH.g (hK▸YH)) Ji (Uu _ _ YI) YJ Ut YK;intro h' Bc rX;generalize hs3:({s2 with heap:=h3,toks:=Xq}:aas)=s3 at R3 Bc rX⊢;have keep:∀b o,s3.heap.get? b=some o→h'.get? b=some o:=λb o e=>rX.extBut b o (abf (aa3 e)) (aap _ e);have RB:h'.objs.size=s3.heap.objs.size+1:=by rw[rX.1,acG]
 let oC es ep YL YM YN YO:=eN Bc;have R4:Rp c (S1.ext ((s3.heap.objs.size,.obj (isNs [(x,none)]))::(h'.objs.size,.obj (cC s3.gens.size))::(it,.obj (aQ la 0))::X)) {s3 with heap:=h'.push {cls:=.type "generator",data:=.fields #[.int s3.gens.size 0,.str "<genexpr>" (s3.toks+1),.str (c.env.qual++"<genexpr>") (s3.toks+1+1)]},toks:=s3.toks+1+1+1}:=R3.ext2 (λb o e=>aap _ (keep b o e)) (aak _) (RB▸aa2 _) (RB▸(aic _).symm) (aap _ YL) (eY es ep _ ⟨YM,YN,YO,λp hp=>by obtain rfl:p=(x,none):=(by simpa using hp);change(if x=".0"then _ else _:Option Value).map ab=none;rw[if_neg Uo];rfl⟩) (aaG _ rfl) (ba _ _ ⟨rfl,rfl,rfl⟩) (aab (aa2 _) (aab (aa2 _) (aa2 _)));have hG:∃r,s3.gens=c.G++r∧agk r:=R3.gens;have R5:Rp (c.bc (s3.gens.push (.fresh (.compStart (.GeneratorExp elt [⟨.Name x px,.Name ln pl,[],0⟩] scope gpos) 0 (.ref it) .none (adH scope [] s3.heap.objs.size code abg c.env))))) (S1.ext ([(s3.heap.objs.size,.obj (isNs [(x,none)])),(it,.obj (aQ la 0))]++((h'.objs.size,.obj (cC s3.gens.size))::X))) {s3 with gens:=s3.gens.push (.fresh (.compStart (.GeneratorExp elt [⟨.Name x px,.Name ln pl,[],0⟩] scope gpos) 0 (.ref it) .none (adH scope [] s3.heap.objs.size code abg c.env))),toks:=s3.toks+1+1+1,heap:=h'.push {cls:=.type "generator",data:=.fields #[.int s3.gens.size 0,.str "<genexpr>" (s3.toks+1),.str (c.env.qual++"<genexpr>") (s3.toks+1+1)]}}:=(Rp.toG (c:=c) (G:=c.G) (G':=s3.gens.push _) (r:= #[]) R4 (by simp) (λy hy=>by simp at hy)).perm (acY _ (abB _ (afi ..)));refine aal ⟨trivial,?_⟩;refine aau (sd (ss:=xs.map q) (sep:=sep) ok hh m9 rfl hG (by rw[aaa];exact hlen) hz R5 λacc=>?_) (λr s' Uv=>by refine eA Uv λh1 h2=>?_;exact⟨S1,h2,by change Q (ab r) S1;rw[h1];exact h⟩) λzz zz z=>z;have O6:c.In A.in1.in1 (n+1):=by let h1 h2 h3 h4:=jc hA;exact⟨h1,h2,by change A.depth+(n+1)<_;exact aaN h3,by change A.units+1+1+8*(n+1)<_;exact Mp h4⟩
 show EF (P:=Du c h'.objs.size s3.gens X ((xs.map q).map .str) S1 acc) (n:=n) (fxg:=fxg) (xs:=xs.map .str) (ys:=(xs.map q).map .str) (l:=la) ok.bc hc hd O6 hs (λm=>Cx.OX (K0:=K0) ok.bc hc hK gl hs G9 (aaN (aaC ok.above (R3.lt _ (.head _))):c.base.objs.size≤s3.heap.objs.size)) hx Uf Lp rfl (by simp) rfl (λj=>aaf _ (.tail _ O5));intro m j v y hv hy;rw[aag]at hv;let z Ls r2:=ak (aaq.mp hv);subst r2;rw[aag,aag,Ls]at hy;cases hy;exact Jh ((Du c h'.objs.size s3.gens X ((xs.map q).map .str) S1 acc).cR.gx scope fxg code m s3.heap.objs.size) hK hd rfl rfl z (aaA Ls) _
end
end
section
variable{a0:Str×Option AV} {v:AV} {y:AO} {Q:FL→SS→Prop} {N:SS→Prop}
theorem YP{p:α}{r:List α}:At p (p::r):=.head
theorem YQ{p a0:α}{r:List α}:At p (a0::p::r):=.tail (.head)
theorem at2{p a0 a1:α}{r:List α}:At p (a0::a1::p::r):=.tail (.tail (.head))
theorem YR{p a0 a1 a2:α}{r:List α}:At p (a0::a1::a2::p::r):=.tail (.tail (.tail (.head)))
theorem Uw:dA x v ((x,o)::r) ((x,some v)::r):=.head
theorem Ux:dA x v (a0::(x,o)::r) (a0::(x,some v)::r):=.tail (.head)
theorem Uy{a1:Str×Option AV}:dA x v (a0::a1::(x,o)::r) (a0::a1::(x,some v)::r):=.tail (.tail (.head))
theorem Uz{a1 a2:Str×Option AV}:dA x v (a0::a1::a2::(x,o)::r) (a0::a1::a2::(x,some v)::r):=.tail (.tail (.tail (.head)))
theorem O7{x:AO}{r:Cells}:aI a x y ((a,x)::r) ((a,y)::r):=.head
theorem UA{x:AO}{b0:Addr×AO}{r:Cells}:aI a x y (b0::(a,x)::r) (b0::(a,y)::r):=.tail (.head)
theorem Eg{x:AO}{b0 b1:Addr×AO}{r:Cells}:aI a x y (b0::b1::(a,x)::r) (b0::b1::(a,y)::r):=.tail (.tail (.head))
theorem UB{x:AO}{b0 b1 b2:Addr×AO}{r:Cells}:aI a x y (b0::b1::b2::(a,x)::r) (b0::b1::b2::(a,y)::r):=.tail (.tail (.tail (.head)))
inductive eC(x:Str)(v:AV):List (Str×AV)→List (Str×AV)→Prop
 |head:∀{a r},eC x v ((x,a)::r) ((x,v)::r)
 |tail:∀{p r r'},eC x v r r'→eC x v (p::r) (p::r')
theorem UC{o:AV}{r:List (Str×AV)}:eC x v ((x,o)::r) ((x,v)::r):=.head
theorem UD{o:AV}{a0:Str×AV}{r:List (Str×AV)}:eC x v (a0::(x,o)::r) (a0::(x,v)::r):=.tail (.head)
theorem UE{o:AV}{a0 a1:Str×AV}{r:List (Str×AV)}:eC x v (a0::a1::(x,o)::r) (a0::a1::(x,v)::r):=.tail (.tail (.head))
theorem UF{o:AV}{a0 a1 a2:Str×AV}{r:List (Str×AV)}:eC x v (a0::a1::a2::(x,o)::r) (a0::a1::a2::(x,v)::r):=.tail (.tail (.tail (.head)))
theorem eC.mem:∀{l l':List (Str×AV)},eC x v l l'→x∈l.map (λx=>x.1)|_,_,.head=>.head _|_,_,.tail h=>.tail _ h.mem
theorem eC.eq{l l':List (Str×AV)}(nd:(l.map (λx=>x.1)).Nodup)(h:eC x v l l'):l'=nY l x v:=by induction h with|head=>unfold nY;rw[if_pos rfl]| @tail p r r' h ih=>have xh:=aaB.mp nd;unfold nY;rw[if_neg (λq:p.1=x=>xh.1 (by change p.1∈_;rw[q];exact h.mem)),ih xh.2]
theorem At.dU{nm:Str}{r:AV}(nd:(es.map (λx=>x.1)).Nodup)(h:At (nm,r) es):dU es nm=some r:=by induction h with|head=>unfold Mine.dU;rw[if_pos rfl]| @tail p l h ih=>have xh:=aaB.mp nd;unfold Mine.dU;rw[if_neg (λq:p.1=nm=>xh.1 (by change p.1∈_;rw[q];exact aat (f:=(λx=>x.1)) h.mem))];exact ih xh.2
inductive jq(a:Addr×AO):Cells→Cells→Prop
 |head:∀{r},jq a (a::r) r
 |tail:∀{b l r},jq a l r→jq a (b::l) (b::r)
inductive aq:Cells→Cells→Cells→Prop
 |nil:∀{l},aq [] l l
 |cons:∀{a C l r D},jq a l r→aq C r D→aq (a::C) l D
theorem jq.perm{a:Addr×AO}{l r:Cells}(h:jq a l r):l.Perm (a::r):=by induction h with|head=>exact .refl _|tail h ih=>exact(ih.cons _).trans (.swap ..)
theorem aq.perm{l:Cells}(h:aq C l D):l.Perm (C++D):=by induction h with|nil=>exact .refl _|cons h1 _ ih=>exact h1.perm.trans (ih.cons _)
section
variable{c:Cx} {n:Nat} {S:SS} {E:EP}
abbrev O8(c:Cx)(n:Nat)(l:List Stmt)(Q:FL→SS→Prop)(E:EP):FL→SS→Prop:=λf S'=>match f with| .next=>EB c n S' l Q E|f=>Q f S'
abbrev UG(Q:FL→SS→Prop):AV→SS→Prop:=λv=>Q (.ret v)
abbrev YS(c:Cx)(n:Nat)(b o:List Stmt)(Q:FL→SS→Prop)(E:EP):Bool→SS→Prop:=λt S'=>if t=true then EB c n S' b Q E else EB c n S' o Q E
abbrev UH(x:Str)(Q:FL→SS→Prop):AV→SS→Prop:=λv S'=>∃l',dA x v S'.loc l'∧Q .next ⟨l',S'.cells⟩
abbrev YT(Q:FL→SS→Prop):AV→SS→Prop:=λzz=>Q .next
abbrev O9(c:Cx)(n:Nat)(op:ad4)(Q:AV→SS→Prop)(E:EP)(a:AV):AV→SS→Prop:=λb S2=>BO c n S2 op a b Q E
abbrev UI(c:Cx)(n:Nat)(r:Expr)(op:ad4)(Q:AV→SS→Prop)(E:EP):AV→SS→Prop:=λa S1=>EE c n S1 r (O9 c n op Q E a) E
abbrev O_(c:Cx)(n:Nat)(op:CmpOp)(Q:AV→SS→Prop)(E:EP)(a:AV):AV→SS→Prop:=λb S2=>CO c n S2 op a b Q E
abbrev Pa(c:Cx)(n:Nat)(r:Expr)(op:CmpOp)(Q:AV→SS→Prop)(E:EP):AV→SS→Prop:=λa S1=>EE c n S1 r (O_ c n op Q E a) E
abbrev Xr(c:Cx)(n:Nat)(Q:Bool→SS→Prop)(E:EP):AV→SS→Prop:=λa S1=>TR c n S1 a Q E
abbrev UJ(Q:Bool→SS→Prop):Bool→SS→Prop:=λb=>Q (!b)
abbrev Pb(c:Cx)(n:Nat)(l:List Expr)(Q:List AV→SS→Prop)(E:EP):AV→SS→Prop:=λv S1=>EA c n S1 l (λvs S2=>Q (v::vs) S2) E
abbrev BB(c:Cx)(n:Nat)(f:AV)(Q:AV→SS→Prop)(E:EP):List AV→SS→Prop:=λas S2=>bM c n S2 f as Q E
abbrev Pc(c:Cx)(n:Nat)(args:List Expr)(Q:AV→SS→Prop)(E:EP):AV→SS→Prop:=λf S1=>kM c.K f∧EA c n S1 args (BB c n f Q E) E
abbrev UK(c:Cx)(n:Nat)(l:List Expr)(Q:Bool→SS→Prop)(E:EP):Bool→SS→Prop:=λb S1=>if b=true then W c n S1 (aeS .And l c.env) Q E else Q false S1
abbrev YU(c:Cx)(n:Nat)(l:List Expr)(Q:Bool→SS→Prop)(E:EP):Bool→SS→Prop:=λb S1=>if b=true then Q true S1 else W c n S1 (aeS .Or l c.env) Q E
abbrev YV(c:Cx)(n:Nat)(b o:Expr)(Q:AV→SS→Prop)(E:EP):Bool→SS→Prop:=λx S1=>if x=true then EE c n S1 b Q E else EE c n S1 o Q E
abbrev Pd(c:Cx)(n:Nat)(id:String)(a:AV)(Q:AV→SS→Prop)(E:EP):List AV→SS→Prop:=λas S2=>bM c n S2 (.bi id) (a::as) Q E
abbrev nD(c:Cx)(n:Nat)(T id:String)(args:List Expr)(Q:AV→SS→Prop)(E:EP):AV→SS→Prop:=λa S1=>oU S1 a T∧EA c n S1 args (Pd c n id a Q E) E
abbrev Pe(c:Cx)(n:Nat)(T:String)(a:AV)(Q:AV→SS→Prop)(E:EP):AV→SS→Prop:=λb S2=>oU S2 a T∧GI c n S2 a b Q E
abbrev subQ(c:Cx)(n:Nat)(T:String)(sl:Expr)(Q:AV→SS→Prop)(E:EP):AV→SS→Prop:=λa S1=>EE c n S1 sl (Pe c n T a Q E) E
abbrev UL(c:Cx)(n:Nat)(x:Str)(op:ad4)(a:AV)(Q:FL→SS→Prop)(E:EP):AV→SS→Prop:=λb S2=>IO c n S2 op a b (UH x Q) E
abbrev Pf(c:Cx)(n:Nat)(args:List Expr)(Q:AV→List AV→SS→Prop):AV→SS→Prop:=λf S1=>kM c.K f∧EA c n S1 args (λas S2=>Q f as S2) hW
abbrev YW(c:Cx)(n:Nat)(body orelse:List Stmt)(N:SS→Prop)(Q:FL→SS→Prop)(E:EP):Bool→SS→Prop:=λb S2=>if b=true then EB c n S2 body (au N Q) E else EB c n S2 orelse Q E
theorem ah{t:Stmt}{l:List Stmt}(h:ES c n S t (O8 c n l Q E) E):EB c n S (t::l) Q E:=DZ h
theorem xM(h:Q .next S):EB c n S [] Q E:=d0 h
theorem Pg{e:Expr}{b o:List Stmt}(h:ET c n S e (YS c n b o Q E) E):ES c n S (.If e b o p) Q E:=OF h
theorem xN{e:Expr}(h:EE c n S e (UG Q) E):ES c n S (.Return (some e) p) Q E:=IK h
theorem EH{e:Expr}(h:EE c n S e (YT Q) E)(hs:autoParam (ac6 e none p.line c.env=pure false) apR):ES c n S (.Expr e p) Q E:=Es h hs
theorem Jj{e:Expr}(h:EE c n S e (UH x Q) E)(hs:autoParam (ac6 e (some (.Name x p')) p.line c.env=pure false) apR):ES c n S (.Assign [.Name x p'] e p) Q E:=hZ h hs
theorem UM{a:AV}(hx:At (x,some a) S.loc)(h:EE c n S value (UL c n x op a Q E) E):ES c n S (.AugAssign (.Name x p) op value p') Q E:=I3 hx.mem h
theorem BC{l r:Expr}{Q:AV→SS→Prop}(h:EE c n S l (UI c n r op Q E) E):EE c n S (.BinOp l op r p) Q E:=Be h
theorem Ph{l r:Expr}{op:CmpOp}{Q:AV→SS→Prop}(h:EE c n S l (Pa c n r op Q E) E)(hm:autoParam (afM op r=false) apR):EE c n S (.Compare l [op] [r] p) Q E:=IP h hm
theorem Pi{l r:Expr}{op:CmpOp}{Q:Bool→SS→Prop}(h:EE c n S l (Pa c n r op (Xr c n Q E) E) E)(hm:autoParam (afM op r=false) apR):ET c n S (.Compare l [op] [r] p) Q E:=Bf h hm
theorem ph{e:Expr}{Q:Bool→SS→Prop}(h:EE c n S e (Xr c n Q E) E)(he:autoParam (xl e=true) apR):ET c n S e Q E:=v9 h he
theorem Pj{e:Expr}{Q:Bool→SS→Prop}(h:ET c n S e (UJ Q) E):ET c n S (.UnaryOp .Not e p) Q E:=IQ h
theorem Pk{e:Expr}{l:List Expr}{Q:Bool→SS→Prop}(h:ET c n S e (UK c n l Q E) E):W c n S (aeS .And (e::l) c.env) Q E:=uk h
theorem UN{e:Expr}{l:List Expr}{Q:Bool→SS→Prop}(h:ET c n S e (YU c n l Q E) E):W c n S (aeS .Or (e::l) c.env) Q E:=v_ h
theorem Jk{t b o:Expr}{Q:AV→SS→Prop}(h:ET c n S t (YV c n b o Q E) E):EE c n S (.IfExp t b o p) Q E:=Bg h
theorem wC{e:Expr}{l:List Expr}{Q:List AV→SS→Prop}(h:EE c n S e (Pb c n l Q E) E)(hp:autoParam (aV e=true) apR):EA c n S (e::l) Q E:=gu h hp
theorem mu{id:Str}{pos:Pos}{Q:AV→SS→Prop}(h:EE c n S (.Name id p) (Pc c n args Q E) E)(hs:autoParam (args.all aV=true) apR):EE c n S (.Call (.Name id p) args [] pos) Q E:=xm h hs
theorem jr{e:Expr}{nm:Str}{id:String}{pos:Pos}{Q:AV→SS→Prop}(pa:PlainAttrs T)(slot:Slot T nm id)(ON:ah8 (.builtin id)=pure (.type "method_descriptor"))(h:EE c n S e (nD c n T id args Q E) E)(he:autoParam (bo e=false) apR) (hs:autoParam (args.all aV=true) apR) (hlen:autoParam ((decide (args.length<30))=true) apR) (bw:autoParam ((ap.endLine==pos.line)=true) apR):EE c n S (.Call (.Attribute e nm ap) args [] pos) Q E:=y0 pa slot ON h he hs hlen bw
theorem ty_str:oU S (.str x) "str":=.inl ⟨x,rfl,rfl⟩
theorem ty_list(h:At (l,.list xs) S.cells):oU S (.ref l) "list":=.inr (ba l _ ⟨rfl,h.mem,rfl⟩)
theorem ty_map(h:At (l,.map es k) S.cells):oU S (.ref l) "dict":=.inr (ba l _ ⟨rfl,h.mem,rfl⟩)
theorem sh(h:At (l,.tup xs) S.cells):oU S (.ref l) "tuple":=.inr (ba l _ ⟨rfl,h.mem,rfl⟩)
theorem ty_set(h:At (l,.set P k) S.cells):oU S (.ref l) "set":=.inr (ba l _ ⟨rfl,h.mem,rfl⟩)
theorem EI(h:N S):au N Q .next S:=h
theorem EJ(h:N S):au N Q .cont S:=h
theorem Jl(h:Q .next S):au N Q .brk S:=h
theorem Jm(h:Q (.ret v) S):au N Q (.ret v) S:=h
abbrev UO(c:Cx)(n:Nat)(xn nm:Str)(Q:FL→SS→Prop):AV→SS→Prop:=λv S'=>∃x C d es k lS cells',At (xn,some (.ref x)) S'.loc∧At (x,.inst C d) S'.cells∧eC nm v es lS∧aI d (.dict es k) (.dict lS k) S'.cells cells'∧dg c.K C nm=true∧es.length<1000∧Q .next ⟨S'.loc,cells'⟩
theorem xR{lS:List (Str×AV)}{nm:Str}(nd:(es.map (λx=>x.1)).Nodup)(h:eC nm v es lS):Lm es nm k=k:=by
 have:(dU es nm).isSome=true:=by clear nd;induction h with|head=>unfold dU;rw[if_pos rfl];rfl| @tail p r r' h ih=>unfold dU;split<;>simp_all
 unfold Lm;rw[if_pos this]
theorem Pl{nm:Str}{po:Pos}(h:EE c n S value (UO c n xn nm Q) E)(hs:autoParam (ac6 value (some (.Attribute (.Name xn po) nm p')) p.line c.env=pure false) apR):ES c n S (.Assign [.Attribute (.Name xn po) nm p'] value p) Q E:=fW (h.az λv S1 h8=>je h8 λx C d es k lS cells' h1 h2 h3 h4 h5 h6 h7=>dM h1 λo y ho hy=>.i λok X A s hA R=>by obtain rfl:=aj ho;have nd:=R.oS (aaf _ h4.mem);refine(l_ (c:=c) (n:=n) (S:=S1) (E:=E) (Q:=λzz=>Q .next) (v:=y) (k:=k) (es:=es) (d:=d) h2.mem (cells':=cells') ?_ h5 h6 h7).run ok X A s hA R;rw[hy,←h3.eq nd,xR nd h3];exact h4) hs
theorem W.letE{t:Sem α}{Q:α→SS→Prop}(h:W c n S t Q (λk S'=>∃C D,S'.cells.Perm (C++D)∧E k ⟨S'.loc,C⟩)):W c n S t Q E:=.i λok X A s hA R=>aau (h.run ok X A s hA R) (λzz zz x=>x) λx s' h8=>h8.el λe k S' hx F R' h7=>cI h7 λC D p hE=>⟨e,k,⟨S'.loc,C⟩,hx,F.sub λa ha=>by have hp:((C++X).map (λx=>x.1))⊆((S'.cells++X).map (λx=>x.1)):=λb hb=>(by rw[aaj]at hb⊢;rcases aax.mp hb with hb|hb;exact aaf _ ((p.map (λx=>x.1)).symm.subset (by rw[aaj];exact aaf _ hb));exact aad _ hb);exact hp ha,by have R2:=R'.perm (cells':=(C++D)++X) (p.symm.append_right X);exact R2.drop (cells':=C++X) ((ad7 C D).append_right X),hE⟩
abbrev RC(Q:AV→Cells→Prop):FL→SS→Prop:=λf S'=>match f with| .ret v=>Q v S'.cells| .next=>Q .none S'.cells|_=>False
theorem aB{K0:aao→Frag}{args:List AV}{Q:AV→Cells→Prop}{E:Value→Cells→Prop}{fd:aao→aaP}(hf:∀P,cy (K0 P) fx (fd P) body) (gl:∀P,bH (K0 P) fx)(hb:∀(s:aas) (P:aao),(K0 P).In s.heap→∀pos kws,pos.map ab=args→kws.map (λp=>(p.1,ab p.2))=kw→∃binds,ac9 s (fd P) ⟨pos,kws⟩ binds∧e7 fx binds loc)(h:∀(c:Cx) (Q':FL→SS→Prop) (E':EP),c.K=K0 c.w.params→c.hd=none→c.fx=fx→c.comp=false→(∀v S' C D,aq C S'.cells D→Q v C→Q' (.ret v) S')→(∀S' C D,aq C S'.cells D→Q .none C→Q' .next S')→(∀k S' C D,aq C S'.cells D→E k C→E' k S')→EB c n ⟨loc,C⟩ body Q' E'):FC K0 (n+1) fx.a args kw C Q E:=FC.intro hf gl hb λc h1 h2 h3 h4=>W.letE (W.let (h c (λf S'=>∃C D,S'.cells.Perm (C++D)∧RC Q f ⟨S'.loc,C⟩) (λk S'=>∃C D,S'.cells.Perm (C++D)∧E k C) h1 h2 h3 h4 (λv S' C D p x=>(ba C D ⟨p.perm,x⟩)) (λS' C D p x=>(ba C D ⟨p.perm,x⟩)) λk S' C D p x=>(ba C D ⟨p.perm,x⟩)))
theorem fP{K0:aao→Frag}{args:List AV}{Q:AV→Cells→Prop}{E:Value→Cells→Prop}{fd:aao→aaP}(hf:∀P,cy (K0 P) fx (fd P) body) (gl:∀P,bH (K0 P) fx)(hb:∀(s:aas) (P:aao),(K0 P).In s.heap→∀pos kws,pos.map ab=args→kws.map (λp=>(p.1,ab p.2))=kw→∃binds,ac9 s (fd P) ⟨pos,kws⟩ binds∧e7 fx binds loc)(h:∀(c:Cx) (Q':FL→SS→Prop) (E':EP),c.K=K0 c.w.params→c.hd=none→c.fx=fx→c.comp=false→c.env=envX fx.cn fx.cs c.L fx.a fx.cd []→(∀v S' C D,aq C S'.cells D→Q v C→Q' (.ret v) S')→(∀S' C D,aq C S'.cells D→Q .none C→Q' .next S')→(∀k S' C D,aq C S'.cells D→E k C→E' k S')→EB c n ⟨loc,C⟩ body Q' E'):FC K0 (n+1) fx.a args kw C Q E:=FC.introE hf gl hb λc h1 h2 h3 h4 h5=>W.letE (W.let (h c (λf S'=>∃C D,S'.cells.Perm (C++D)∧RC Q f ⟨S'.loc,C⟩) (λk S'=>∃C D,S'.cells.Perm (C++D)∧E k C) h1 h2 h3 h4 h5 (λv S' C D p x=>(ba C D ⟨p.perm,x⟩)) (λS' C D p x=>(ba C D ⟨p.perm,x⟩)) λk S' C D p x=>(ba C D ⟨p.perm,x⟩)))
theorem iE{K0:aao→Frag}{m:Nat}{f:Addr}{Q:AV→SS→Prop}(hf:FC K0 m f as [] C Qf Ef)(hp:aq C S.cells D)(hK:c.K=K0 c.w.params)(hd:c.hd=none)(h:∀v C',Qf v C'→Q v ⟨S.loc,C'++D⟩) (he:∀k C',Ef k C'→E k ⟨S.loc,C'++D⟩) (hm:autoParam (m≤n) apM):bM c n S (.ref f) as Q E:=Ez hf hp.perm hK hd h he hm
theorem qS{id:Str}{pos:Pos}{y:Str}{kt}{ps:List (AV×AV)}(Sf:Nat→SS)(J:Nat→Prop)(h0:J 0)(h:EE c n S (.Name id pn) (Pf c n args (λf as S2=>S2=Sf 0∧TZ c n Sf f as ps)) hW)(step:∀G' i a b (N:SS→Prop),ps[i]? =some (a,b)→J i→(J (i+1)→N (Sf (i+1)))→∃l',ia [x,y] [a,b] (Sf i).loc l'∧EB (c.bc G') n ⟨l',(Sf i).cells⟩ body (au N Q) hW)(fin:J ps.length→EB c n (Sf ps.length) orelse Q hW)(hd:autoParam (c.hd=none) apA) (hc:autoParam (c.comp=false) apA) (hs:autoParam (args.all aV=true) apR):ES c n S (.For (.Tuple [.Name x px,.Name y py] kt pt) (.Call (.Name id pn) args [] pos) body orelse p) Q E:=wy Sf J h0 h (λG' i a b hi hj=>step G' i a b _ hi hj λk=>⟨rfl,k⟩) fin hs hd hc
theorem eI(Inv:Nat→SS→Prop)(h:EE c n S iter (λv S1=>v= .ref l∧(l,.list xs)∈S1.cells∧Inv 0 S1) E)(hl:∀i S1,Inv i S1→(l,.list xs)∈S1.cells)(step:∀i y S1 (N:SS→Prop),xs[i]? =some y→Inv i S1→(∀S',Inv (i+1) S'→N S')→∃l',dA x y S1.loc l'∧EB c n ⟨l',S1.cells⟩ body (au N Q) E)(fin:∀S1,Inv xs.length S1→EB c n S1 orelse Q E)(hd:autoParam (c.hd=none) apA) (hc:autoParam (c.comp=false) apA) (hs:autoParam (∀x,aa4 iter c.env x=pure x) apR):ES c n S (.For (.Name x px) iter body orelse p) Q E:=uB Inv h hl (λi y S1 hx hi=>step i y S1 _ hx hi λzz z=>z) fin hd hc hs
theorem mv(Inv:Nat→SS→Prop)(h:EE c n S iter (λv S1=>v= .ref l∧(l,.tup xs)∈S1.cells∧Inv 0 S1) E)(hl:∀i S1,Inv i S1→(l,.tup xs)∈S1.cells)(step:∀i y S1 (N:SS→Prop),xs[i]? =some y→Inv i S1→(∀S',Inv (i+1) S'→N S')→∃l',dA x y S1.loc l'∧EB c n ⟨l',S1.cells⟩ body (au N Q) E)(fin:∀S1,Inv xs.length S1→EB c n S1 orelse Q E)(hd:autoParam (c.hd=none) apA) (hc:autoParam (c.comp=false) apA) (hs:autoParam (∀x,aa4 iter c.env x=pure x) apR):ES c n S (.For (.Name x px) iter body orelse p) Q E:=wz Inv h hl (λi y S1 hx hi=>step i y S1 _ hx hi λzz z=>z) fin hd hc hs
theorem qT(Inv:Nat→SS→Prop)(h:EE c n S iter (λv S1=>v= .ref d∧(d,.map es ep)∈S1.cells∧Inv 0 S1) E)(hl:∀i S1,Inv i S1→(d,.map es ep)∈S1.cells)(step:∀i k v S1 (N:SS→Prop),es[i]? =some (k,v)→Inv i S1→(∀S',Inv (i+1) S'→N S')→∃l',dA x (.str k) S1.loc l'∧EB c n ⟨l',S1.cells⟩ body (au N Q) E)(fin:∀S1,Inv es.length S1→EB c n S1 orelse Q E)(hd:autoParam (c.hd=none) apA) (hc:autoParam (c.comp=false) apA) (hs:autoParam (∀x,aa4 iter c.env x=pure x) apR):ES c n S (.For (.Name x px) iter body orelse p) Q E:=wA Inv h hl (λi k v S1 hx hi=>step i k v S1 _ hx hi λzz z=>z) fin hd hc hs
theorem gy(I:Nat→SS→Prop)(k:Nat)(h0:I k S)(turn:∀m S1 (N:SS→Prop),I m S1→(∀j S',j<m→I j S'→N S')→ET c n S1 test (YW c n body orelse N Q E) E)(hc:autoParam (c.comp=false) apA):ES c n S (.While test body orelse p) Q E:=Bl I k h0 (λm S1 hi=>(turn m S1 (λS3=>∃j,j<m∧I j S3) hi λj S' hj h=>⟨j,hj,h⟩)) hc
end
end
section
variable{y:Int}
section
variable{c:Cx} {n:Nat} {S:SS} {E:EP}
theorem wD{x:Int}(h:Q (.int (x-y)) S):IO c n S .Sub (.int x) (.int y) Q E:=λv w hv hw=>W.of λok X A s hA R=>by
 let t r1:=eE (aP hv);subst r1;let u r1:=eE (aP hw);subst r1;with_reducible refine PyProof.Rows.isub_int ?_
 exact⟨S,R.toks,h⟩
theorem uF{x:Int}(hy:y≠0)(hp:ae5 x y=false)(h:Q (.int (Int.fdiv x y)) S):BO c n S .FloorDiv (.int x) (.int y) Q E:=λv w hv hw=>W.of λok X A s hA R=>by
 let t r1:=eE (aP hv);subst r1;let u r1:=eE (aP hw);subst r1;with_reducible refine PyProof.Rows.floordiv_int hy ?_ (.inl hp)
 exact⟨S,R.toks,h⟩
theorem Jn{e:Expr}(h:EE c n S e (λv S1=>∃i,v= .int i∧Q (.int (-i)) S1) E):EE c n S (.UnaryOp .USub e p) Q E:=.i λok X A s hA R=>wpAny_UnaryOp (h.st ok X A s hA R λv s1 S1 R1 h8=>ak h8 λi hv hq=>by let t r1:=eE (aP hv);subst r1;exact PyProof.Rows.neg_int ⟨S1,R1.toks,hq⟩)
theorem pi(h:Q (.bool false) S):CO c n S .Eq (.str x) .none Q E:=λv w hv hw=>W.of λok X A s hA R=>by
 let t r1:=eE (aD hv);subst r1;obtain rfl:=eO hw;with_reducible refine EqNone.eq_str_none ?_
 exact⟨S,R,h⟩
theorem nE(h:Q (.bool true) S):CO c n S .Eq .none .none Q E:=λv w hv hw=>W.of λok X A s hA R=>by
 obtain rfl:=eO hv;obtain rfl:=eO hw;with_reducible refine EqNone.eq_none_none ?_
 exact⟨S,R,h⟩
end
end
section
variable{i:Int}
section
variable{c:Cx} {n:Nat} {S:SS} {E:EP}
theorem qc(h:Q (.type "int") S):bM c n S (.type "type") [.int i] Q E:=λf vs hf bx=>W.of λok X A s hA R=>by obtain rfl:=bI hf;let v r1 hv:=ak (cP bx);subst r1;let t r1:=eE (aP hv);subst r1;exact call_type_of (typeIs_int _ _ _) '2' ⟨S,R,h⟩
theorem j4(h:Q (.type "str") S):bM c n S (.type "type") [.str x] Q E:=λf vs hf bx=>W.of λok X A s hA R=>by obtain rfl:=bI hf;let v r1 hv:=ak (cP bx);subst r1;let t r1:=eE (aD hv);subst r1;exact call_type_of (adQ _ _ _) '2' ⟨S,R,h⟩
theorem nG(h:Q (.int i) S):bM c n S (.type "int") [.int i] Q E:=λf vs hf bx=>W.of λok X A s hA R=>by obtain rfl:=bI hf;let v r1 hv:=ak (cP bx);subst r1;let t r1:=eE (aP hv);subst r1;exact call_int_int ⟨S,R,h⟩
theorem sr(h:Q (.bool true) S):bM c n S (.bi "isinstance") [.str x,.type "str"] Q E:=λf vs hf bx=>W.of λok X A s hA R=>by obtain rfl:=dT hf;let v y r2 hv hy:=bG (fR bx);subst r2;let t r1:=eE (aD hv);subst r1;obtain rfl:=bI hy;exact call_isinstance_yes (adQ _ _ _) '3' (by rw[abo];kernel_rfl) ⟨S,R,h⟩
end
end
section
abbrev vL:Obj:={cls:=.type "collections.deque",data:=.fields #[.none,abK 0]}
namespace DQ
theorem mro:mroOf (.type "collections.deque")=pure [.type "collections.deque",.type "object"]:=by rw[mroOf_type];kernel_rfl
theorem wE:aeL (.type "collections.deque") "__new__"=pure (some (.builtin "collections.deque.__new__")):=by rw[ab7,abv];kernel_rfl
theorem jB:Slot "collections.deque" "__init__" "collections.deque.__init__":=.of (owner:="collections.deque") (n:="__init__") (by rw[ab7,abv];kernel_rfl) (by decide+kernel) (by decide+kernel) (by decide+kernel) (by first|exact .inl (by decide+kernel)|exact .inr (by decide+kernel)) (by rw[abo];kernel_rfl)
theorem kW:Slot "collections.deque" "__len__" "collections.deque.__len__":=.of (owner:="collections.deque") (n:="__len__") (by rw[ab7,abv];kernel_rfl) (by decide+kernel) (by decide+kernel) (by decide+kernel) (by first|exact .inl (by decide+kernel)|exact .inr (by decide+kernel)) (by rw[abo];kernel_rfl)
theorem called:TypeCalled "collections.deque" "collections.deque.__new__" "collections.deque.__init__":=⟨by decide+kernel,by decide+kernel,(ba _ _ mro),madeBy_type mro wE (by decide+kernel),by decide+kernel,by rw[abo];kernel_rfl,jB⟩
theorem typeCall:checkTypeCall "collections.deque" ⟨[],[]⟩=pure ():=by kernel_rfl
theorem EK:agb "collections.deque.__new__" ⟨[.type "collections.deque"],[]⟩=pure ():=by kernel_rfl
theorem mw:aeY table "collections.deque.__new__"=some Builtin.«collections.deque.__new__»:=acV '3'
theorem kr:aeY table "collections.deque.__init__"=some Builtin.«collections.deque.__init__»:=acV '3'
theorem entry_len:aeY table "collections.deque.__len__"=some Builtin.«collections.deque.__len__»:=acV '3'
theorem ze(a:Value):aif "collections.deque.__init__" ⟨[a],[]⟩:=by unfold aif;kernel_rfl
theorem BE(a:Value):aif "collections.deque.__len__" ⟨[a],[]⟩:=by unfold aif;kernel_rfl
theorem xS:aeL (.type "collections.deque") "__bool__"=pure none:=by rw[ab7,abv];kernel_rfl
theorem BF:Builtin.«collections.deque.__new__» ⟨[.type "collections.deque"],[]⟩=(do let d←newObj (.type "collections.deque") (.fields #[.none,abK 0]) none;ret d):=by kernel_rfl
theorem zf(a:Addr):Builtin.«collections.deque.__init__» ⟨[.ref a],[]⟩=(do ahP (.ref a) 0 .none;ahi (.ref a);ret .none):=by first|rfl|kernel_rfl
end DQ
section
variable{c:Cx} {n:Nat} {S:SS} {E:EP} {s:aas} {X:Cells}
theorem pj(h:∀a,Q (.ref a) ⟨S.loc,(a,.raw vL)::S.cells⟩):bM c n S (.type "collections.deque") [] Q E:=λf vs hf bx=>W.of λok X A s hA R=>by
 obtain rfl:=bI hf;obtain rfl:=Bm bx;have hg:=aaG s.heap (o:=vL) rfl;have g:Meets (Builtin.«collections.deque.__new__» ⟨[.type "collections.deque"],[]⟩) (λzz R s=>R (.ok (.ret (.ref s.heap.objs.size))) {s with heap:=s.heap.push vL}):=ain λprog w A R s h=>by rw[DQ.BF];exact aac (abJ (aal ⟨_,rfl,h⟩) (by change(2:Nat)≤ac_+2;decide))
 show callType_meets (Q₁:=λobj s1=>obj= .ref s.heap.objs.size∧s1={s with heap:=s.heap.push vL}) DQ.called DQ.typeCall DQ.EK DQ.mw DQ.kr g ⟨rfl,rfl⟩;intro obj s1 UP;let r0 r1:=eA UP;subst r0;subst r1;refine⟨⟨_,hg,rfl⟩,DQ.ze _,λzz R s2=>s2={s with heap:=s.heap.push vL}∧∀h',h'.get? s.heap.objs.size=some vL→(∀b o,b≠s.heap.objs.size→(s.heap.push vL).get? b=some o→h'.get? b=some o)→R (.ok (.ret .none)) {s with heap:=h'},?_,rfl,λh' h1 h2=>⟨rfl,?_⟩⟩;refine ain λprog w A R s2 h8=>eA h8 λe h2=>?_;subst e;rw[DQ.zf];refine aac (wpAny_setField_rec hg (by simp) λh1 vM wF=>?_);have Pm:h1.get? s.heap.objs.size=some vL:=vM;unfold ahi Builtin.Deque.items;refine aac (aac (aac (aeA Pm rfl (aal ?_))));with_reducible refine qF '2' ?_
 refine aal (aal ⟨_,rfl,h2 h1 Pm λb o hb e=>(wF.2 b hb).trans e⟩);refine⟨⟨S.loc,(s.heap.objs.size,.raw vL)::S.cells⟩,?_,h _⟩;exact R.alloc (λb o e=>h2 b o (abf (aa3 e)) (aap _ e)) (aak _) h1 ⟨rfl,rfl⟩ (aak _)
theorem uG{Q:Bool→SS→Prop}(hm:At (a,.raw vL) S.cells)(h:Q false S):TR c n S (.ref a) Q E:=λv hv=>W.of λok X A s hA R=>by
 obtain rfl:=aj hv
 refine bN (R.cells _ (aaf _ hm.mem)) λo ho r2 z3=>?_
 obtain rfl:=r2
 have hT:s.TypeIs (.ref a) "collections.deque":=⟨_,ho,rfl⟩
 have key:wpAny (model prog c.w) A (runValue (.builtin "len" ⟨[.ref a],[]⟩)) (λr s'=>r= .int 0 (s.toks+1)∧QX c X Q false s') (λzz zz=>False) s:=by
  refine ag2 (acs entry_len ?_)
  rw[acH plain_len _]
  refine aau (Q:=λfin s'=>∃r,fin=Fin.done (.ret r)∧r= .int 0 (s.toks+1)∧QX c X Q false s') (E:=λzz zz=>False) ?_ (λfin s' h'=>by refine ak h' λr r1 hq=>?_;obtain rfl:=r1;exact hq) λzz zz e=>e
  unfold Builtin.«len»
  refine aac (m:=oneArg "len" _) (aal ?_)
  refine aac (m:=callSpecial? (.ref a) (abA "__len__")) (adn (name:=abA "__len__") hT DQ.kW
   (aeM DQ.kW hT DQ.entry_len ?_ (DQ.BE _)))
  change wpAny _ _ (do retInt (←ahF (.ref a))) _ _ s
  unfold ahF
  refine aac (aac (aeA ho rfl (aal ?_)))
  refine aac (wpAny_mkInt (aal ⟨_,rfl,?_⟩))
  refine aac (abk (aal ?_))
  refine aac (aio ?_)
  change wpAny _ _ (if((0:Nat):Int)<0 then _ else _) _ _ _
  with_reducible refine qF '2' ?_
  change wpAny _ _ (if((0:Nat):Int)≥2^63 then _ else _) _ _ _
  with_reducible refine qF '2' ?_
  exact aac (wpAny_mkInt (aal ⟨_,rfl,rfl,S,R.toks (aab (aa2 _) (aa2 _)),h⟩))
 unfold truthy
 first
  |refine aac (agc (name:=abA "__bool__") hT DQ.xS ?_)
  |refine aac (aal (aac (agc (name:=abA "__bool__") hT DQ.xS ?_)))
 first
  |refine aac (acM (name:=abA "__len__") hT DQ.kW.lookup ?_)
  |refine aac (aal (aac (acM (name:=abA "__len__") hT DQ.kW.lookup ?_)))
 first
  |exact aac (aau key (λr s' h'=>by refine eA h' λr0 hq=>?_;obtain rfl:=r0;exact aal hq) λzz zz e=>e)
  |exact aac (aal (aac (aau key (λr s' h'=>by obtain⟨rfl,hq⟩:=h';exact aal hq) λzz zz e=>e)))
end
end
section
variable{s:aas} {Q:List (Str×Value)→aas→Prop}
theorem nH:∀{pos:List Value} (n:Str),n∈names→names.length≤pos.length→((names.zip pos).lookup n).isSome=true:=by
 induction names with
 |nil=>intro pos n h;cases h
 |cons a r ih=>
  intro pos n h hl;cases pos with
  |nil=>cases hl
  |cons v pos=>rw[afh,adW];cases hb:(n==a)with|true=>rfl|false=>exact ih n ((aai.mp h).resolve_left (by simpa using hb:n≠a)) (acS hl)
theorem BG{f g:α→Option β}:∀{l:List α},(∀x∈l,f x=g x)→l.filterMap f=l.filterMap g:=by intro l0;induction l0 with|nil=>exact λzz=>rfl|cons a l ih=>intro h;rw[adZ,adZ,h a (.head _),ih λx hx=>h x (.tail _ hx)]
theorem wG:∀{pos:List Value},names.Nodup→names.length≤pos.length→names.filterMap (λn=>((names.zip pos).lookup n).map λv=>(n,v))=names.zip pos:=by
 induction names with|nil=>intro pos _ _;rfl|cons a r ih=>
  intro pos nd hl;cases pos with
  |nil=>cases hl
  |cons v pos=>have xh:=aaB.mp nd;rw[afh,adZ];simp only[adW,beq_self_eq_true,ae6];congr 1;refine(BG (g:=λn=>((r.zip pos).lookup n).map λv=>(n,v)) λn hn=>?_).trans (ih xh.2 (acS hl));have:(n==a)=false:=(by have:n≠a:=λq=>xh.1 (q▸hn);simpa using this);rw[this]
theorem ks{i:β}{f:α→β→Sem (ForInStep β)}{Q:β→aas→Prop}(h:Q i s):wpAny M A (forIn ([]:List α) i f) Q E s:=by rw[aew];exact aal h
theorem wH{l:List α}{i:β}{f:α→β→Sem (ForInStep β)}{Q:β→aas→Prop}(hl:l=[])(h:Q i s):wpAny M A (forIn l i f) Q E s:=hl▸ks h
theorem qU{fd:aaP}{va:Arg}{pos:List Value}(h1:fd.params.posonlyargs=[]) (h2:fd.params.args.map (λx=>x.arg)=names) (h3:fd.params.vararg=some va) (h4:fd.params.kwonlyargs=[]) (h5:fd.params.kwarg=none) (h6:fd.defaults= .none) (nd:names.Nodup) (hl:names.length≤pos.length) (hz:pos.length≤lim)(h:Q (names.zip pos++[(va.arg,.ref s.heap.objs.size)]) {s with heap:=s.heap.push {cls:=.type "tuple",data:=.seq (pos.drop names.length).toArray}}):wpAny M A (adb fd ⟨pos,[]⟩) Q E s:=by
 have Pn:∀k,((names.take k).filter λn=>((names.zip pos).lookup n).isNone)=[]:=λk=>by
  rw[abc];intro n hn;have:=nH (pos:=pos) n (adR hn) hl;cases q:(names.zip pos).lookup n with
  |none=>rw[q]at this;cases this
  |some v=>exact aa1
 have tM:=wG nd hl;have hlen:(pos.drop names.length).length≤ac_:=by rw[aa9];exact aab (aed _ _) (ax hz)
 have qd:wpAny M A (ahU (pos.drop names.length)) (λv s'=>Q (names.zip pos++[(va.arg,v)]) s') E s:=afs h hlen;clear hz nd hl h hlen;obtain⟨fname,fq,⟨po,ar,vr,ko,kd,kw,df⟩,body,sc,gl,clo,dfs,kdf,doc,pm,ann,cd,ct,bi⟩:=fd;dsimp only at h1 h2 h3 h4 h5 h6;subst h1 h2 h3 h4 h5 h6;unfold adb;refine aac (ks ?_);refine aac (ab2 (a:=none) rfl (adA (decide_eq_false λq=>?_) (adA (decide_eq_false λq=>?_) ?_)));rw[show(some va).isNone=false from rfl,agY]at q;cases q;have q:(!(((ar.map (λx=>x.arg)).take _).filter λn=>(((ar.map (λx=>x.arg)).zip pos).lookup n).isNone).isEmpty)=true:=q;rw[Pn]at q;cases q;refine aac (wH ((congrArg (List.zip _) List.drop_nil).trans List.zip_nil_right) ?_);refine aac (ks (adA rfl (aac (aau qd (λv s' hq=>aal ?_) λzz zz z=>z))));exact(λl e=>by subst e;rw[tM];exact hq:∀l,l=ar.map Arg.arg→Q (l.filterMap (λn=>agv (λv=>(n,v)) (List.lookup n ((ar.map Arg.arg).zip pos)))++[(va.arg,v)]) s') _ (aaO _)
theorem FC.pk{K0:aao→Frag}{args:List AV}{Q:AV→Cells→Prop}{E:Value→Cells→Prop}{fd:aao→aaP}(hf:∀P,cy (K0 P) fx (fd P) body) (gl:∀P,bH (K0 P) fx)(hb:∀(c:Cx) (S:SS) (X:Cells) (A:ads) (s:aas) (pos:List Value) (kws:List (Str×Value)),c.Ok→c.K=K0 c.w.params→pos.map ab=args→kws.map (λp=>(p.1,ab p.2))=kw→Rp c (S.ext X) s→wpAny (model prog c.w) A (adb (fd c.w.params) ⟨pos,kws⟩) (λbinds s1=>∃D loc,Rp c (S.ext (D++X)) s1∧e7 fx binds loc∧B D loc) nB s)(h:∀(c:Cx) (D:Cells) (loc:List (Str×Option AV)) (Q':FL→SS→Prop) (E':EP),B D loc→c.K=K0 c.w.params→c.hd=none→c.fx=fx→c.comp=false→c.env=envX fx.cn fx.cs c.L fx.a fx.cd []→(∀v S' C D,aq C S'.cells D→Q v C→Q' (.ret v) S')→(∀S' C D,aq C S'.cells D→Q .none C→Q' .next S')→(∀k S' C D,aq C S'.cells D→E k C→E' k S')→EB c n ⟨loc,D++C⟩ body Q' E'):FC K0 (n+1) fx.a args kw C Q E:=by
 intro c S hK hd hC pos kws hp v7 ok X A s hA R;have F:=hf c.w.params;have fg:(K0 c.w.params).In s.heap:=λa o e=>R.stays a o (ok.eH.fg a o (hK▸e));let oc od osl ho:=vS F.obj;let h1 h2 h3 h4:=jc hA;show aeI (fd:=fd c.w.params) (body:=body) (by exact Lf h3) (fg _ _ ho) rfl F.co F.gen F.body (agn fg F.code);refine tN (aau (hb c S X A.in1 s pos kws ok hK hp v7 R) (λbinds s1 UQ=>?_) λzz zz z=>z);let D loc R1 hl hB:=bG UQ;subst hC;have Po:Rp c (SS.ext ⟨S.loc,D++S.cells⟩ X) s1:=R1.perm (cells':=D++S.cells++X) (by change(D++S.cells++X).Perm (S.cells++(D++X));rw[←aaw];exact aez _ aaY);let m hn hm:=ak Po.ns;refine aeW F.cells (λx hx=>F.cs▸hl.kb x hx) (λh' lR Pp=>?_) F.kind;have keep:∀b o,s1.heap.get? b=some o→h'.get? b=some o:=λb o e=>Pp.extBut b o (abf (aa3 e)) (aap _ e);have envE:ahx (fd c.w.params).scope s1.heap.objs.size (fd c.w.params).globals (fd c.w.params).closure ((fd c.w.params).qualname++".<locals>.") (some fx.a) (fd c.w.params).code none (fd c.w.params).builtins=(c.enter fx m s1.heap.objs.size).env:=by simp only[F.cs,F.glob,F.rL,F.qual,F.cd,F.v8];rfl
 refine⟨(ok.eH.lim.keeps R1.stays).keeps keep,ahX ?_⟩;rw[envE];have Dp:=Cx.jg (m:=m) (L:=s1.heap.objs.size) ok hK gl (F.cs▸F.kind) (aaN (aaC ok.above hn.lt):c.base.objs.size≤s1.heap.objs.size);have qJ:(c.enter fx m s1.heap.objs.size).In (A.deeper (c.enter fx m s1.heap.objs.size).env) n:=by refine⟨?_,h2,?_,?_⟩;change A.frames.map _=_;rw[h1,Cx.dp (c:=c.enter fx m s1.heap.objs.size) rfl,Cx.e8];rfl;change A.depth+1+n<_;exact Rq h3;change A.units+3+8*n<_;exact Si h4
 have Pq:=W.letE (E:=λk S'=>E k S'.cells) (W.let (h (c.enter fx m s1.heap.objs.size) D loc (λf S'=>∃C D,S'.cells.Perm (C++D)∧RC Q f ⟨S'.loc,C⟩) (λk S'=>∃C D,S'.cells.Perm (C++D)∧E k C) hB hK hd rfl rfl rfl (λv S' C D p x=>(ba C D ⟨p.perm,x⟩)) (λS' C D p x=>(ba C D ⟨p.perm,x⟩)) λk S' C D p x=>(ba C D ⟨p.perm,x⟩)));refine aau (Pq.run Dp _ _ _ qJ (Po.enter (fx:=fx) (m':=λx=>binds.reverse.lookup x) (h₁:=h') (tk:=s1.toks+binds.length) ok hn keep lR hl.vals hl.nd hl.kinds (aa5 _ _))) (λf s' h8=>h8.el λS' R2 k=>?_) λx s' h8=>h8.el λe k S' hx hF R2 hE=>?_
 ·cases f with|ret v=>exact⟨⟨S.loc,S'.cells⟩,Rp.back (S:=⟨S.loc,D++S.cells⟩) ok Po hm R2,rfl,k⟩|next=>exact⟨⟨S.loc,S'.cells⟩,Rp.back (S:=⟨S.loc,D++S.cells⟩) ok Po hm R2,rfl,k⟩|brk=>exact k.elim|cont=>exact k.elim
 subst hx;refine aac (jz Dp rfl qJ.1 R2 hF λh2 R3 F3=>?_);exact⟨e,k,⟨S.loc,S'.cells⟩,rfl,p9.back (loc:=S.loc) F3,Rp.back (S:=⟨S.loc,D++S.cells⟩) ok Po hm R3,rfl,hE⟩
end
section
variable{x:Addr} {v:AV} {po:Pos}
section
variable{c:Cx} {n:Nat} {S:SS} {E:EP}
abbrev G_(c:Cx)(n:Nat)(f x:Addr)(Q:AV→SS→Prop)(E:EP):List AV→SS→Prop:=λas S2=>bM c n S2 (.ref f) (.ref x::as) Q E
abbrev Pr(c:Cx)(n:Nat)(nm:Str)(args:List Expr)(Q:AV→SS→Prop)(E:EP):AV→SS→Prop:=λa S1=>∃x C d es k f,a= .ref x∧At (x,.inst C d) S1.cells∧At (d,.dict es k) S1.cells∧me c.K C nm f=true∧dU es nm=none∧EA c n S1 args (G_ c n f x Q E) E
theorem Ha{e:Expr}{nm:Str}{pos:Pos}(h:EE c n S e (Pr c n nm args Q E) E)(he:autoParam (bo e=false) apR) (hs:autoParam (args.all aV=true) apR) (hlen:autoParam ((decide (args.length<30))=true) apR) (bw:autoParam ((ap.endLine==pos.line)=true) apR):EE c n S (.Call (.Attribute e nm ap) args [] pos) Q E:=um (h.az λv S1 h8=>dZ h8 λx C d es k f h1 h2 h3 h4 h5 h6=>(yI x C d es k f ⟨h1,h2.mem,h3.mem,h4,h5,h6⟩)) he hs hlen bw
abbrev Ps(c:Cx)(n:Nat)(nm:Str)(Q:AV→SS→Prop):AV→SS→Prop:=λa S1=>∃x C d es k r,a= .ref x∧At (x,.inst C d) S1.cells∧At (d,.dict es k) S1.cells∧attrOk c.K C nm=true∧At (nm,r) es∧hand r=true∧Q r S1
theorem W.Pt{t:Sem α}{Q:α→SS→Prop}(h:W c n S t (λv S1=>(∀d es k,(d,.dict es k)∈S1.cells→(es.map (λx=>x.1)).Nodup)→Q v S1) E):W c n S t Q E:=.i λok X A s hA R=>h.st ok X A s hA R λv s1 S1 R1 k=>⟨S1,R1,k λd es k hd=>R1.oS (aaf _ hd)⟩
theorem Hb{e:Expr}{nm:Str}(h:EE c n S e (Ps c n nm Q) E)(he:autoParam (bo e=false) apR):EE c n S (.Attribute e nm p) Q E:=rP (W.Pt (h.az λv S1 h8 hn=>cX h8 λx C d es k r h1 h2 h3 h4 h5 h6 h7=>(yI x C d es k r ⟨h1,h2.mem,h3.mem,h5.dU (hn _ _ _ h3.mem),h4,h6,h7⟩))) he
abbrev Jo(c:Cx)(n:Nat)(nm:Str)(Q:SS→Prop)(x:Addr):AV→SS→Prop:=λv S'=>∃C d es k lS cells',At (x,.inst C d) S'.cells∧aI d (.dict es k) (.dict lS k) S'.cells cells'∧eC nm v es lS∧dg c.K C nm=true∧es.length<1000∧Q ⟨S'.loc,cells'⟩
theorem Jp{nm:Str}{Q:SS→Prop}(h:Jo c n nm Q x v S):SA c n S (.ref x) v nm Q E:=λo y ho hy=>.i λok X A s hA R=>by let C d es k lS cells' h2 h4 h3 h5 h6 h7:=dZ h;obtain rfl:=aj ho;have nd:=R.oS (aaf _ h4.mem);refine(l_ (c:=c) (n:=n) (S:=S) (E:=E) (Q:=λzz=>Q) (v:=y) (k:=k) (es:=es) (d:=d) h2.mem (cells':=cells') ?_ h5 h6 h7).run ok X A s hA R;rw[hy,←h3.eq nd,xR nd h3];exact h4
abbrev Hc(c:Cx)(n:Nat)(nm:Str)(Q:SS→Prop)(x:Addr)(E:EP):AV→SS→Prop:=λv S'=>Jo c n nm Q x v S'
abbrev Hd(c:Cx)(n:Nat)(nm:Str)(op:ad4)(Q:SS→Prop)(x:Addr)(r:AV)(E:EP):AV→SS→Prop:=λb S2=>IO c n S2 op r b (Hc c n nm Q x E) E
abbrev Pu(c:Cx)(n:Nat)(nm:Str)(op:ad4)(value:Expr)(Q:SS→Prop)(E:EP):AV→SS→Prop:=λa S1=>∃x C d es k r,a= .ref x∧At (x,.inst C d) S1.cells∧At (d,.dict es k) S1.cells∧attrOk c.K C nm=true∧At (nm,r) es∧hand r=true∧EE c n S1 value (Hd c n nm op Q x r E) E
theorem W.Pv{t:Sem α}{Q:α→SS→Prop}(h:(∀d es k,(d,.dict es k)∈S.cells→(es.map (λx=>x.1)).Nodup)→W c n S t Q E):W c n S t Q E:=.i λok X A s hA R=>(h λd es k hd=>R.oS (aaf _ hd)).run ok X A s hA R
theorem Pw{o:Expr}{nm:Str}{Q:FL→SS→Prop}(h:EE c n S o (Pu c n nm op value (Q .next) E) E):ES c n S (.AugAssign (.Attribute o nm p) op value p') Q E:=
 mY (h.az λa S1 h8=>cX h8 λx C d es k r h1 h2 h3 h4 h5 h6 h7=>λv hv=>W.Pv λhn=>by
  obtain rfl:=aj (hv.trans h1)
  rw[h1]
  exact qM (Q:=λold S2=>EE c n S2 value (λb S3=>IO c n S3 op old b (λr S4=>SA c n S4 (.ref x) r nm (Q .next) E) E) E) h2.mem h3.mem (h5.dU (hn _ _ _ h3.mem)) h4 h6 (h7.az λb S2 k2=>λv w hv hw=>(k2 v w hv hw).az λr2 S3 k3=>Jp k3))
abbrev Xs(c:Cx)(n:Nat)(xn nm:Str)(Q:FL→SS→Prop):AV→SS→Prop:=λv S'=>∃x,At (xn,some (.ref x)) S'.loc∧Jo c n nm (Q .next) x v S'
theorem UR{nm:Str}{Q:FL→SS→Prop}(h:EE c n S value (Xs c n xn nm Q) E)(hs:autoParam (ac6 value (some (.Attribute (.Name xn po) nm p')) p.line c.env=pure false) apR):ES c n S (.Assign [.Attribute (.Name xn po) nm p'] value p) Q E:=Pl (h.az λv S1 h8=>oB h8 λx h1 C d es k lS cells' h2 h4 h3 h5 h6 h7=>(W0 x C d es k lS cells' ⟨h1,h2,h3,h4,h5,h6,h7⟩)) hs
def isNew(es:List (Str×AV))(nm:Str):Bool:=(es.map (λx=>x.1)).all λx=> !(x==nm)
theorem zg{nm:Str}(h:isNew es nm=true):nY es nm v=es++[(nm,v)]∧dU es nm=none:=by induction es with|nil=>exact⟨rfl,rfl⟩|cons p r ih=>unfold isNew at h ih;simp only[aan,adB,aaM,ab3,beq_eq_false_iff_ne]at h;unfold nY dU;rw[if_neg h.1,if_neg h.1];have:=ih (by simpa using h.2);exact⟨by rw[this.1];rfl,this.2⟩
theorem Px{nm:Str}{Q:FL→SS→Prop}(h:EE c n S value (λv S'=>∃x C d es k lS cells',At (xn,some (.ref x)) S'.loc∧At (x,.inst C d) S'.cells∧aI d (.dict es k) (.dict lS (k+1)) S'.cells cells'∧isNew es nm=true∧es++[(nm,v)]=lS∧dg c.K C nm=true∧es.length<1000∧Q .next ⟨S'.loc,cells'⟩) E)(hs:autoParam (ac6 value (some (.Attribute (.Name xn po) nm p')) p.line c.env=pure false) apR):ES c n S (.Assign [.Attribute (.Name xn po) nm p'] value p) Q E:=
 fW (h.az λv S1 h8=>ny h8 λx C d es k lS cells' h1 h2 h3 h4 h5 h6 h7 h8=>dM h1 λo y ho hy=>by
  obtain rfl:=aj ho
  refine(l_ (c:=c) (n:=n) (S:=S1) (E:=E) (Q:=λzz=>Q .next) (v:=y) (k:=k) (es:=es) (d:=d) h2.mem (cells':=cells') ?_ h6 h7 h8)
  refine eA (zg (v:=ab y) h4) λe1 e2=>?_
  unfold Lm
  rw[e1,e2,hy,h5];exact h3) hs
def wI(K:Frag)(C:Addr)(nm:Str)(p f:Addr):Bool:=plainGet K C nm&&hasDictIn K C&&adf K (.ref C) nm==some (some (.ref p))&&ag_ K (.ref p) "__get__"==some (some (.builtin "property.__get__"))&&takesIn K (.ref p)==some true&&(recIn K p "property").map aiM==some (some (.ref f))
theorem Jq{K0:aao→Frag}{nm:Str}{C p f:Addr}{m:Nat}{Cf:Cells}(hx:At (xn,some (.ref x)) S.loc)(hi:At (x,.inst C d) S.cells)(Py:At (d,.dict es k) S.cells)(pZ:wI c.K C nm p f=true)(hf:FC K0 m f [.ref x] [] Cf Qf (λzz zz=>False)) (hp:aq Cf S.cells D) (hK:c.K=K0 c.w.params) (hd:c.hd=none) (h:∀v C',Qf v C'→hand v=true∧Q v ⟨S.loc,C'++D⟩) (hm:m+1≤n):EE c n S (.Attribute (.Name xn pn) nm pp) Q E:=rO (dM hx λv hv=>by obtain rfl:=aj hv;exact .i λok X A s hA R=>by let ents I z2:=ak (R.inst hi.mem Py.mem);have Xk:=fQ ok R;unfold wI at pZ;simp only[aaM,beq_iff_eq]at pZ;obtain⟨⟨⟨⟨⟨k1,k2⟩,k3⟩,k4⟩,k5⟩,k6⟩:=pZ;let l hr e:=ak (aaq.mp k6);let rest e2:=eE (List.head?_eq_some_iff.mp e);subst e2;refine get_bind Xk I (ag3 k1).1 (findObj_data (by refine ak (any_some k2) λcd hc z2=>?_;rw[hc];rfl) k3 k4 k5) (ag3 k1).2 (abI (prop_get (s:={s with toks:=s.toks+1}) Xk hr ?_));have R2:Rp c ((⟨S.loc,Cf⟩:SS).ext (D++X)) {s with toks:=s.toks+1}:=(by show(R.toks (k:=s.toks+1)).perm (cells':=Cf++(D++X));rw[←aaw];exact(hp.perm.append_right X).symm);have O6:c.In A.in1 m:=(by let a1 a2 a3 a4:=jc hA;exact⟨a1,a2,by change A.depth+m<_;exact MS hm a3,by change A.units+1+8*m<_;exact MT hm a4⟩);refine hf.any (S:=⟨S.loc,Cf⟩) hK hd rfl (pos:=[.ref x]) (kws:=[]) rfl rfl ok O6 R2 (λv s' C' z1 z3=>?_) λzz zz zz zz zz zz z=>z.elim;let y1 y2:=eA (h _ _ z3);change wpAny _ _ (handedOut v) _ _ _;rw[ahT (handed y1)];refine aal ⟨⟨S.loc,C'++D⟩,?_,y2⟩;change Rp c ⟨S.loc,(C'++D)++X⟩ s';rw[aaw];exact z1)
end
end
section
section
variable{c:Cx} {n:Nat} {S:SS} {E:EP}
theorem zh{E:Value→aas→Prop}{s:aas}{pos:Pos}{id:String}{Q:Value→aas→Prop}(hl:aeL (.type T) "__getitem__"=pure (some (.builtin id)))(h:wpAny (model prog w) A (eval value env) (λo s₁=>wpAny (model prog w) A (eval (.Slice lower upper none p) env) (λi s₂=>s₂.TypeIs o T∧wpAny (model prog w) A (getItem o i) Q E s₂) E s₁) E s):wpAny (model prog w) A (eval (.Subscript value (.Slice lower upper none p) pos) env) Q E s:=by
 rw[eval_Subscript];refine aac (aau h (λo s₁ h₁=>aac (abk (aau h₁ (λi s₂ h₂=>aac (abw ?_)) λzz zz x=>x))) λzz zz x=>x);have fin:wpAny (model prog w) A (operate [i,o] (getItem o i)) (λr s₃=>wpAny (model prog w) A (afo value o r>>=λzz=>pure r) Q E s₃) E s₂:=wpAny_operating (aau h₂.2 (λr s₃ h₃=>aac (adO (aal h₃))) λzz zz x=>x);first
  |(refine aac ?_
    rw[agI h₂.1.not_modules]
    refine aac (acM h₂.1 hl ?_)
    first
     |exact aal (aac fin)
     |exact aac (aal (aac fin))
     |exact aac fin)
  |(refine aac (acM h₂.1 hl ?_)
    first
     |exact aac (aal (aac fin))
     |exact aac fin)
theorem uH(h:EE c n S value (λa S1=>PE c n S1 lower (λx S2=>PE c n S2 upper (λy S3=>∃z lo hi,a= .str z∧x=mX lo∧y=mX hi∧(b8 z lo hi).length≤lim∧Q (.str (b8 z lo hi)) S3) E) E) E):EE c n S (.Subscript value (.Slice lower upper none p) p') Q E:=.i λok X A s hA R=>by refine zh (T:="str") afU.lookup (h.st ok X A s hA R λo s1 S1 R1 h1=>wpAny_Slice (h1.st ok X A s1 hA R1 λx s2 S2 R2 h2=>h2.st ok X A s2 hA R2 λy s3 S3 R3 h8=>jd h8 λz lo hi h3 h5 h6 h7 h8=>?_));let t r1:=eE (aD h3);subst r1;let l r1 r2:=ak (GZ h5);subst r1;subst r2;let u r1 r2:=ak (GZ h6);subst r1;subst r2;rw[evalPart_none];have R4:=R3.keeps (h':=s3.heap.push {cls:=.type "slice",data:=.fields #[partValue l,partValue u,.none]}) (tk:=s3.toks) (λb o e=>aap _ e);refine aal ⟨adQ _ z t,wpAny_getItem_str_slice (l:=l) (u:=u) (st:=none) ⟨_,aaG _ rfl,rfl,rfl⟩ rfl ?_⟩;delta sliceMade slicePicked;unfold b8 at h7 h8;dsimp only[ais,aih];by_cases q:((adJ (l.map (λx=>x.1)) (u.map (λx=>x.1)) 1 z.length).length==z.length)=true;rw[if_pos q]at h7 h8;rw[if_pos (by simpa using q)];exact⟨S3,R4,h8⟩;rw[if_neg q]at h7 h8;rw[if_neg (by simpa using q)];exact⟨ax h7,S3,R4.toks (aa2 _),h8⟩
end
end
section
variable{Qf:Addr→Addr→AV→Cells→Prop}
section
variable{c:Cx} {n:Nat} {S:SS} {E:EP}
structure BH(K:Frag)(P:aao)(C fN fI:Addr):Prop where
 obj:∃oc od cd sl,K.lookup C=some ⟨oc,od,.cls cd,sl⟩∧cd.mro.isEmpty=false
 call:ag_ K (.ref C) "__call__"=some (some (.builtin "type.__call__"))
 typ:instIn K (.ref C) (.type "type")=some true
 made:peek K ⟨prog,P⟩ (afH (.ref C))=some none
 new:∃mc p rest,aiH K (.ref C)=some mc∧readsIn K C mc=true∧findCls K (.ref C) mc "__new__"=some (.get (.builtin "staticmethod.__get__") (.ref p) .none (.ref C))∧recIn K p "staticmethod"=some (.ref fN::rest)
 self:mroIn K C (.ref C)=some true
 init:adf K (.ref C) "__init__"=some (some (.ref fI))
 fn:aiH K (.ref fI)=some (.type "function")
theorem sv{K0:aao→Frag}{m:Nat}{C fI:Addr}(mk:BH c.K c.w.params C fN fI)(hK:c.K=K0 c.w.params)(hd:c.hd=none)(FN:FC K0 m fN (.ref C::as) [] [] (λv C'=>∃x d,v= .ref x∧C'=[(x,.inst C d),(d,.dict [] 0)]) (λzz zz=>False))(F:∀x dx,FC K0 m fI (.ref x::as) [] ([(x,.inst C dx),(dx,.dict [] 0)]++S.cells) (Qf x dx) (λzz zz=>False))(hq:∀x dx v C',Qf x dx v C'→v= .none∧Q (.ref x) ⟨S.loc,C'⟩) (TC:m+1≤n):bM c n S (.ref C) as Q E:=λf pos YX hp=>.i λok X A s hA R=>by
 obtain rfl:=aj YX;have Xk:=fQ ok R;show abI;let oc od cd sl hC US:=vU mk.obj;let mc p rest n1 n2 n3 n4:=eN mk.new;have qJ:=In.under (cd:=.builtin "type.__call__" ⟨.ref C::pos,[]⟩) hA (aae '3') '3' (aae '3') TC;show aec;change wpAny _ _ (ahY (.ref C) _) _ _ _;show nd_load (Xk _ _ hC);change wpAny _ _ (callAny.viaDunder (.ref C) _) _ _ _;refine aac ((looks_specialIn Xk mk.call).here ?_);dsimp only;rw[tc_bind];refine aac (aal (aac (aal ?_)));refine aal (a:=Fin.again (.call (.builtin "type.__call__") ⟨.ref C::pos,[]⟩)) (aiX rfl ?_);refine codeAny_call_builtin_at (aft _ (by decide+kernel)) entry_typeCall (check_slot tc_kind tc_split (looks_instIn Xk mk.typ) (tc_args _ _ _) ?_);unfold Builtin.«type.__call__»;have hm:Looks (model prog c.w) s.heap (mroOf (.ref C)) cd.mro:=((aiJ (part:=none) (Xk _ _ hC)).andThen .now).andThen .now;have Xu:Looks (model prog c.w) s.heap (afH (.ref C)) none:=acf (M:=model prog c.w) Xk mk.made;have pg:∀{A':ads} {Q':Value→aas→Prop} {E':Value→aas→Prop},Q' (.ref fN) {s with toks:=s.toks+1}→wpAny (model prog c.w) A' (ahR (.ref C) "__new__") Q' E' s:=λh=>cls_bind Xk n2 n3 (abI (sm_get (s:={s with toks:=s.toks+1}) Xk n4 (handed_on rfl h)));dsimp only;repeat(first|simp only[US,aaU,if_false]|(with_reducible refine pg ?_)|(with_reducible refine abI ?_)|lk)
 have R1:Rp c ((⟨S.loc,[]⟩:SS).ext (S.cells++X)) {s with toks:=s.toks+1}:=R.toks (k:=s.toks+1);refine FN.any (S:=⟨S.loc,[]⟩) hK hd rfl (pos:=.ref C::pos) (kws:=[]) (by rw[aan,hp];rfl) rfl ok qJ R1 (λv s' C' R2 q=>?_) λzz zz zz zz zz zz z=>z.elim;let x d hv hC:=cI q;obtain rfl:=aj hv;rw[hC]at R2;have R3:Rp c ((⟨S.loc,[(x,.inst C d),(d,.dict [] 0)]++S.cells⟩:SS).ext X) s':=by change Rp c ⟨S.loc,([(x,.inst C d),(d,.dict [] 0)]++S.cells)++X⟩ s';rw[aaw];exact R2
 have X3:=fQ ok R3;let o ho Lp:=ak (R3.cells (x,.inst C d) (.head _));obtain rfl:o=afA C d:=Lp;have t1:Looks (model prog c.w) s'.heap (ah8 (.ref x)) (.ref C):=(aiJ ho).andThen .now;have s1:=looks_mroIn (M:=model prog c.w) X3 mk.self;have i1:=ae_ (M:=model prog c.w) X3 mk.init;have b1:=bind_fn (M:=model prog c.w) X3 (.ref x) mk.fn;repeat(first|with_reducible refine abI ?_|lk)
 refine(F x d).any (S:=⟨S.loc,[(x,.inst C d),(d,.dict [] 0)]++S.cells⟩) hK hd rfl (pos:=.ref x::pos) (kws:=[]) (by rw[aan,hp];rfl) rfl ok qJ R3 (λv s' C' R4 RD=>?_) λzz zz zz zz zz zz z=>z.elim;let hv hQ:=eA (hq _ _ _ _ RD);obtain rfl:=eO hv;exact aal (aal ⟨_,R4,hQ⟩)
end
end
section
section
variable{c:Cx} {n:Nat} {S:SS} {E:EP}
theorem zi{E:Value→aas→Prop}{s:aas}{K:Frag}{name:Str}{pl:Sem Bool}{Q:Value×List Value→aas→Prop}(X:K.In s.heap)(ht:ah8 (.type T)=pure (.type "type"))(hs:ait T=false)(e:findCls K (.type T) (.type "type") name=some (.val v)) (hh:handedIn v=true) (h:Q (v,[]) {s with toks:=s.toks+1}):wpAny (model prog w) A (getMethod (.type T) name pl) Q E s:=by
 have Pz:agd (.type T)=pure none:=by unfold agd;dsimp only;rw[hs];rfl
 have L0:Looks (model prog w) s.heap (ah8 (.type T)) (.type "type"):=ace ht;have hg:adf K (.type "type") "__getattribute__"=some (some (.builtin "type.__getattribute__")):=type_tga;refine aac (aac (L0.here ((ae_ X hg).here ?_)));with_reducible refine II canon_tga ?_
 refine aac (aau (Q:=λv=>Q (v,[])) (E:=E) ?_ (λzz zz z=>aal z) λzz zz z=>z);refine cls_open X (ace Pz:Looks (model prog w) s.heap (agd (.type T)) none) L0 hg (looks_hook X (r:=none) (by rfl)) (by change subIn K _ _=_;rfl) e (aal (by change wpAny _ _ (handedOut v) _ _ _;rw[ahT hh];exact aal h))
theorem BI{id nm:Str}{i:String}{pos:Pos}(ht:ah8 (.type T)=pure (.type "type"))(jZ:ait T=false)(hf:findCls c.K (.type T) (.type "type") nm=some (.val (.builtin i))) (hh:handedIn (.builtin i)=true)(h:EE c n S (.Name id p) (λa S1=>a= .type T∧EA c n S1 args (λas S2=>bM c n S2 (.bi i) as Q E) E) E)(hs:autoParam (args.all aV=true) apR) (hlen:autoParam ((decide (args.length<30))=true) apR) (bw:autoParam ((ap.endLine==pos.line)=true) apR):EE c n S (.Call (.Attribute (.Name id p) nm ap) args [] pos) Q E:=by
 unfold EE;rw[afO,show ad6 (.Name id p) nm c.env (eval (.Name id p) c.env)=eval (.Name id p) c.env from rfl];refine W.bind (W.az h λv S1 h8=>eA h8 λh1 h6=>W.bind (W.standAt ?_));obtain rfl:=bI h1;have Bk:afm (args.length+([]:List Keyword).length) (aeg pos (aci args c.env)) (agW pos (aeV [] c.env))=true:=by change((aeg pos (aci args c.env)).all (λx=> !x.1)&&true&&decide (args.length+0+0<30))=true;rw[kj hs,adC,adC];exact hlen
 unfold ahA;rw[Bk];refine W.bind (W.holding (Q:=λp S'=>p=((.builtin i:Value),([]:List Value))∧S'=S1) (W.of λok X A s hA R=>?_)|>.az ?_);exact zi (fQ ok R) ht jZ hf hh ⟨S1,R.toks,rfl,rfl⟩;intro p S2 UT;let r0 r1:=eA UT;subst r0;subst r1;refine W.bind (W.eq (by unfold afP;simp[bw]:afP true (.Name id p) c.env ap pos=pure pos) (W.pure ?_));exact iz (f:=.builtin i) (first:=[]) (Q:=Q) hs trivial (λpos'=>(h6 pos').az λvs S3 k3 ws hw=>k3 (.builtin i) ws rfl hw)
theorem uI{C:Addr}(ho:∃oc od cd sl,c.K.lookup C=some ⟨oc,od,.cls cd,sl⟩∧cd.abstract=false∧cd.hasDel=false){B:Value}(hb:peek c.K ⟨prog,c.w.params⟩ (aiu (.ref C))=some B)(hm:peek c.K ⟨prog,c.w.params⟩ (afH B)=some (some "object.__new__"))(YY:mroIn c.K C (.type "object")=some true)(ON:instIn c.K (.ref C) (.type "type")=some true)(h:∀x d,Q (.ref x) ⟨S.loc,(x,.inst C d)::(d,.dict [] 0)::S.cells⟩):bM c n S (.bi "object.__new__") [.ref C] Q E:=λf vs hf bx=>W.of λok X A s hA R=>by
 obtain rfl:=dT hf;let v r1 hv:=ak (cP bx);subst r1;obtain rfl:=aj hv;have Xk:=fQ ok R;let oc od cd sl hC e1 e2:=nW ho;have F:=PySem.F.objNew;refine abI (codeAny_call_builtin_code (aft _ F.quiet) ?_);simp only[agb,F.kind,F.split,F.row];have base:Looks (model prog c.w) s.heap (aiu (.ref C)) B:=acf (M:=model prog c.w) Xk hb;have made:Looks (model prog c.w) s.heap (afH B) (some "object.__new__"):=acf (M:=model prog c.w) Xk hm;have here:Looks (model prog c.w) s.heap (Bind.madeHere "object.__new__" (.ref C)) ():=by intro A Q E s k q;refine aac (base A _ E s k (aac (made A _ E s k ?_)));simp only[ae6,bne_self_eq_false,aaU,if_false];exact aal q
 have YZ:=Xk _ _ hC;have top:=looks_mroIn (M:=model prog c.w) Xk YY;have typ:=looks_instIn (M:=model prog c.w) Xk ON;rw[(by kernel_rfl:aiN "object.__new__" ⟨.hand,"object.__new__","__new__",.cls,[]⟩ ⟨[.ref C],[]⟩=pure ())];repeat(first|(refine adA ?hc ?_;(case hc=>simp only[bne_self_eq_false,aaU,afV,decide_false]))|lk|simp only[bne_self_eq_false,aaU,if_false])
 show acs F.entry;unfold Builtin.«object.__new__»;repeat(first|(refine adA ?hc ?_;(case hc=>simp only[e1,aaU,afV,decide_false]))|lk|simp only[e1,aaU,if_false,afV])
 have Xv:=aap (afA C s.heap.objs.size) (aap afb YZ);have R1:Rp c (SS.ext ⟨S.loc,(s.heap.objs.size,.dict [] 0)::S.cells⟩ X) {s with heap:=s.heap.push afb}:=R.c0 (ao:=.dict [] 0) (o:=afb) (tk:=s.toks) rfl ⟨abn,[],rfl,.nil⟩;have R2:=R1.c0 (S:=⟨S.loc,(s.heap.objs.size,.dict [] 0)::S.cells⟩) (X:=X) (ao:=.inst C s.heap.objs.size) (o:=afA C s.heap.objs.size) (tk:=s.toks) rfl rfl;have fin:=h (s.heap.push afb).objs.size s.heap.objs.size;repeat(first|(refine adA ?hc ?_;(case hc=>simp only[e2,aaU,afV,decide_false]))|lk|simp only[e2,aaU,if_false])
 exact⟨_,R2,fin⟩
end
end
section
variable{f:Addr} {args:List AV}
section
variable{c:Cx} {n:Nat} {S:SS} {E:EP}
theorem qe(h:Q (.bool false) S):CO c n S .IsNot (.ref a) (.ref a) Q E:=λv w hv hw=>W.of λok X A s hA R=>by obtain rfl:=aj hv;obtain rfl:=aj hw;exact wpAny_isNot_ref_self ⟨S,R,h⟩
theorem sw{b:Addr}{oa:Obj}(ha:c.K.lookup a=some oa)(hb:c.K.lookup b=some ob)(tO:a≠b)(ht:(oa.cls != .type "tuple")=true)(h:Q (.bool true) S):CO c n S .IsNot (.ref a) (.ref b) Q E:=λv w hv hw=>W.of λok X A s hA R=>by obtain rfl:=aj hv;obtain rfl:=aj hw;have Xk:=fQ ok R;exact wpAny_isNot_ref_other tO (Xk _ _ ha) (Xk _ _ hb) (by simpa using ht) ⟨S,R,h⟩
end
theorem FC.frame{K0:aao→Frag}{n:Nat}{Q:AV→Cells→Prop}{E:Value→Cells→Prop}(F:FC K0 n f args kw C Q E):FC K0 n f args kw (C++D) (λv C'=>∃C1,Q v C1∧C'=C1++D) (λk C'=>∃C1,E k C1∧C'=C1++D):=by
 intro c S hK hd hC pos kws hp v7 ok X A s hA R;have R1:Rp c ((⟨S.loc,C⟩:SS).ext (D++X)) s:=by change Rp c ⟨S.loc,C++(D++X)⟩ s;rw[←aaw,←hC];exact R
 exact F.any (S:=⟨S.loc,C⟩) hK hd rfl hp v7 ok hA R1 (λv s' C' h1 h3=>⟨⟨S.loc,C'++D⟩,by change Rp c ⟨S.loc,(C'++D)++X⟩ s';rw[aaw];exact h1,rfl,_,h3,rfl⟩) λe k s' C' h2 h3 h5=>⟨e,k,⟨S.loc,C'++D⟩,rfl,by change p9 c k e ⟨S.loc,(C'++D)++X⟩ s'.heap;rw[aaw];exact h2,by change Rp c ⟨S.loc,(C'++D)++X⟩ s';rw[aaw];exact h3,rfl,_,h5,rfl⟩
theorem FC.mono{K0:aao→Frag}{n m:Nat}{Q Q':AV→Cells→Prop}{E E':Value→Cells→Prop}(F:FC K0 n f args kw C Q E)(hn:n≤m)(hq:∀v C',Q v C'→Q' v C')(he:∀k C',E k C'→E' k C'):FC K0 m f args kw C Q' E':=by
 intro c S hK hd hC pos kws hp v7 ok X A s hA R;have qJ:c.In A n:=by let a1 a2 a3 a4:=jc hA;exact⟨a1,a2,by exact xa hn a3,by exact xb hn a4⟩
 exact F.any hK hd hC hp v7 ok qJ R (λv s' C' h1 h3=>⟨_,h1,rfl,hq _ _ h3⟩) λe k s' C' h2 h3 h5=>⟨e,k,_,rfl,h2,h3,rfl,he _ _ h5⟩
end
section
variable{s:aas} {k:Str}
section
variable{c:Cx} {n:Nat} {S:SS} {E:EP}
theorem uJ{E:Value→aas→Prop}{Q:List Value→aas→Prop}(h:wpAny M A t (λv s'=>Q [v] s') E s):wpAny M A (evalAll [t]) Q E s:=by change wpAny M A (t>>=λv=>ahO [v] (pure [])>>=λr=>pure (v::r)) _ _ _;exact aac (aau h (λkv s2 h2=>aac (abk (aal (aal h2)))) λzz zz x=>x)
theorem sy{E:Value→aas→Prop}{f:Value}{args:List (Bool×Sem Value)}{Q:Args→aas→Prop}(md:args.any (λx=>x.1)=false)(gU:args≠[])(h:wpAny M A (spliced args) (λvs s1=>wpAny M A t (λkv s2=>Q ⟨vs,[(k,kv)]⟩ s2) E s1) E s):wpAny M A (evalArgs f true args [(some k,t)]) Q E s:=by
 cases args with|nil=>exact absurd rfl gU|cons p rest=>
  obtain⟨b,x⟩:=p;cases b with
  |true=>cases md
  |false=>exact evalArgs_kw rfl (aau h (λvs s1 h1=>uJ h1) λzz zz x=>x)
def Hf(c:Cx)(n:Nat)(S:SS)(f:AV)(as:List AV)(kw:List (Str×AV))(Q:AV→SS→Prop)(E:EP):Prop:=∀v vs kws,ab v=f→vs.map ab=as→kws.map (λp=>(p.1,ab p.2))=kw→W c n S (call v vs kws) (λr=>Q (ab r)) E
theorem zj{id:Str}{pos:Pos}{a0:Expr}{ve:Expr}{kp:Pos}(h:EE c n S (.Name id p) (λf S1=>kM c.K f∧EA c n S1 (a0::args) (λas S2=>EE c n S2 ve (λkv S3=>Hf c n S3 f as [(k,kv)] Q E) E) E) E) (hs:autoParam ((a0::args).all aV=true) apR):EE c n S (.Call (.Name id p) (a0::args) [⟨some k,ve,kp⟩] pos) Q E:=.i λok X A s hA R=>
 wpAny_Call_Name_kw (h.st ok X A s hA R λf s1 S1 R1 h8=>eA h8 λk1 k2=>by
  have md:=bF (pos:=pos) (env:=c.env) hs
  have hP:((aeg pos (aci (a0::args) c.env)).any (λx=>x.1)||(agW pos (aeV [⟨some k,ve,kp⟩] c.env)).any (λx=>x.1.isNone))=false:=by rw[md];rfl
  refine aem (P:=λh=>c.K.In h) hP (λhh X=>?_) (sy md (by rw[bO (by rw[adB,aaM]at hs;exact hs.1)];exact List.cons_ne_nil _ _) (aau ((k2 pos).run ok X A s1 hA R1) (λvs s2 ⟨S2,R2,k3⟩=>?_) λzz zz x=>x))
  ·cases f with
   |ref a=>exact keeps_K k1 hh X
   |builtin i=>exact⟨.machine,.inr (.inl rfl),ace rfl⟩
   |type i=>exact⟨.machine,.inr (.inl rfl),ace rfl⟩
   |_=>exact k1.elim
  ·refine aac (k3.st ok X A s2 hA R2 λkv s3 S3 R3 k4=>aac (abw (aal ⟨fQ ok R3,?_⟩)))
   exact(k4 f vs [(k,kv)] rfl rfl rfl).run ok X A s3 hA R3)
end
end
section
section
variable{c:Cx} {n:Nat} {S:SS} {E:EP} {x C d f k:Nat} {es lS:List (Str×AV)} {cells':Cells} {nm xn:Str} {v r:AV}
theorem fB{p a0 a1 a2 a3:α}{r:List α}(h:At p r):At p (a0::a1::a2::a3::r):=.tail (.tail (.tail (.tail h)))
theorem PA{a0 a1 a2 a3:Str×Option AV}{r r':List (Str×Option AV)}(h:dA nm v r r'):dA nm v (a0::a1::a2::a3::r) (a0::a1::a2::a3::r'):=.tail (.tail (.tail (.tail h)))
theorem qV{x y:AO}{a0 a1 a2 a3:Addr×AO}{r r':Cells}(h:aI a x y r r'):aI a x y (a0::a1::a2::a3::r) (a0::a1::a2::a3::r'):=.tail (.tail (.tail (.tail h)))
theorem PB{a0 a1 a2 a3:Str×AV}{r r':List (Str×AV)}(h:eC nm v r r'):eC nm v (a0::a1::a2::a3::r) (a0::a1::a2::a3::r'):=.tail (.tail (.tail (.tail h)))
theorem Jr(h1:At (x,.inst C d) S.cells)(h2:At (d,.dict es k) S.cells)(h3:me c.K C nm f=true)(h4:dU es nm=none)(h:EA c n S args (G_ c n f x Q E) E):Pr c n nm args Q E (.ref x) S:=(yI x C d es k f ⟨rfl,h1,h2,h3,h4,h⟩)
theorem BJ(h1:At (x,.inst C d) S.cells)(h2:At (d,.dict es k) S.cells)(h3:attrOk c.K C nm=true)(h4:At (nm,r) es)(h5:hand r=true)(h:Q r S):Ps c n nm Q (.ref x) S:=(yI x C d es k r ⟨rfl,h1,h2,h3,h4,h5,h⟩)
theorem Js{Q:SS→Prop}(h1:At (x,.inst C d) S.cells)(h2:At (d,.dict es k) S.cells)(h3:attrOk c.K C nm=true)(h4:At (nm,r) es)(h5:hand r=true)(h:EE c n S value (Hd c n nm op Q x r E) E):Pu c n nm op value Q E (.ref x) S:=(yI x C d es k r ⟨rfl,h1,h2,h3,h4,h5,h⟩)
theorem Jt{Q:SS→Prop}(h1:At (x,.inst C d) S.cells)(h2:aI d (.dict es k) (.dict lS k) S.cells cells')(h3:eC nm v es lS)(h4:dg c.K C nm=true)(h5:es.length<1000)(h:Q ⟨S.loc,cells'⟩):Hc c n nm Q x E v S:=(yI C d es k lS cells' ⟨h1,h2,h3,h4,h5,h⟩)
theorem PC{Q:FL→SS→Prop}(h0:At (xn,some (.ref x)) S.loc)(h1:At (x,.inst C d) S.cells)(h2:aI d (.dict es k) (.dict lS k) S.cells cells')(h3:eC nm v es lS)(h4:dg c.K C nm=true)(h5:es.length<1000)(h:Q .next ⟨S.loc,cells'⟩):Xs c n xn nm Q v S:=⟨x,h0,C,d,es,k,lS,cells',h1,h2,h3,h4,h5,h⟩
inductive uK{α:Type}(p:α):List α→List α→Prop
 |nil:uK p [] [p]
 |cons:∀{a l l'},uK p l l'→uK p (a::l) (a::l')
theorem uK.eq{p:α}{l l':List α}(h:uK p l l'):l++[p]=l':=by induction h with|nil=>rfl|cons _ ih=>rw[aaT,ih]
abbrev PD(c:Cx)(n:Nat)(xn nm:Str)(Q:FL→SS→Prop):AV→SS→Prop:=λv S'=>∃x C d es k lS cells',At (xn,some (.ref x)) S'.loc∧At (x,.inst C d) S'.cells∧aI d (.dict es k) (.dict lS (k+1)) S'.cells cells'∧isNew es nm=true∧es++[(nm,v)]=lS∧dg c.K C nm=true∧es.length<1000∧Q .next ⟨S'.loc,cells'⟩
theorem qW{po:Pos}{Q:FL→SS→Prop}(h:EE c n S value (PD c n xn nm Q) E)(hs:autoParam (ac6 value (some (.Attribute (.Name xn po) nm p')) p.line c.env=pure false) apR):ES c n S (.Assign [.Attribute (.Name xn po) nm p'] value p) Q E:=Px h hs
theorem Ju{Q:FL→SS→Prop}(h0:At (xn,some (.ref x)) S.loc)(h1:At (x,.inst C d) S.cells)(h2:aI d (.dict es k) (.dict lS (k+1)) S.cells cells')(h3:isNew es nm=true)(h6:uK (nm,v) es lS)(h4:dg c.K C nm=true)(h5:es.length<1000)(h:Q .next ⟨S.loc,cells'⟩):PD c n xn nm Q v S:=(W0 x C d es k lS cells' ⟨h0,h1,h2,h3,h6.eq,h4,h5,h⟩)
theorem PF{Q:FL→SS→Prop}(h1:dA nm v S.loc l')(h:Q .next ⟨l',S.cells⟩):UH nm Q v S:=⟨l',h1,h⟩
theorem mx(h1:kM c.K fv)(h:EA c n S args (BB c n fv Q E) E):Pc c n args Q E fv S:=⟨h1,h⟩
end
section
variable{c:Cx} {n:Nat} {S:SS} {E:EP}
theorem BK{e:Expr}{pos:Pos}(h:EE c n S e (nD c n "list" "list.append" args Q E) E)(he:autoParam (bo e=false) apR)(hs:autoParam (args.all aV=true) apR)(hlen:autoParam ((decide (args.length<30))=true) apR)(bw:autoParam ((ap.endLine==pos.line)=true) apR):EE c n S (.Call (.Attribute e "append" ap) args [] pos) Q E:=jr aca PySem.F.slot_list_append PySem.F.type_list_append h he hs hlen bw
theorem PH{e:Expr}{pos:Pos}(h:EE c n S e (nD c n "list" "list.pop" args Q E) E)(he:autoParam (bo e=false) apR)(hs:autoParam (args.all aV=true) apR)(hlen:autoParam ((decide (args.length<30))=true) apR)(bw:autoParam ((ap.endLine==pos.line)=true) apR):EE c n S (.Call (.Attribute e "pop" ap) args [] pos) Q E:=jr aca agH PySem.F.type_list_pop h he hs hlen bw
theorem BL{e:Expr}{pos:Pos}(h:EE c n S e (nD c n "list" "list.extend" args Q E) E)(he:autoParam (bo e=false) apR)(hs:autoParam (args.all aV=true) apR)(hlen:autoParam ((decide (args.length<30))=true) apR)(bw:autoParam ((ap.endLine==pos.line)=true) apR):EE c n S (.Call (.Attribute e "extend" ap) args [] pos) Q E:=jr aca afQ PySem.F.type_list_extend h he hs hlen bw
theorem EL{e:Expr}{pos:Pos}(h:EE c n S e (nD c n "list" "list.clear" args Q E) E)(he:autoParam (bo e=false) apR)(hs:autoParam (args.all aV=true) apR)(hlen:autoParam ((decide (args.length<30))=true) apR)(bw:autoParam ((ap.endLine==pos.line)=true) apR):EE c n S (.Call (.Attribute e "clear" ap) args [] pos) Q E:=jr aca af5 PySem.F.type_list_clear h he hs hlen bw
theorem Jv{e:Expr}{pos:Pos}(h:EE c n S e (nD c n "str" "str.join" args Q E) E)(he:autoParam (bo e=false) apR)(hs:autoParam (args.all aV=true) apR)(hlen:autoParam ((decide (args.length<30))=true) apR)(bw:autoParam ((ap.endLine==pos.line)=true) apR):EE c n S (.Call (.Attribute e "join" ap) args [] pos) Q E:=jr aey acZ agK h he hs hlen bw
theorem EM{e:Expr}{pos:Pos}(h:EE c n S e (nD c n "list" "list.count" args Q E) E)(he:autoParam (bo e=false) apR)(hs:autoParam (args.all aV=true) apR)(hlen:autoParam ((decide (args.length<30))=true) apR)(bw:autoParam ((ap.endLine==pos.line)=true) apR):EE c n S (.Call (.Attribute e "count" ap) args [] pos) Q E:=jr aca af8 PySem.F.type_list_count h he hs hlen bw
theorem EN{e:Expr}{pos:Pos}(h:EE c n S e (nD c n "list" "list.index" args Q E) E)(he:autoParam (bo e=false) apR)(hs:autoParam (args.all aV=true) apR)(hlen:autoParam ((decide (args.length<30))=true) apR)(bw:autoParam ((ap.endLine==pos.line)=true) apR):EE c n S (.Call (.Attribute e "index" ap) args [] pos) Q E:=jr aca af9 PySem.F.type_list_index h he hs hlen bw
theorem PI{e:Expr}{pos:Pos}(h:EE c n S e (nD c n "dict" "dict.get" args Q E) E)(he:autoParam (bo e=false) apR)(hs:autoParam (args.all aV=true) apR)(hlen:autoParam ((decide (args.length<30))=true) apR)(bw:autoParam ((ap.endLine==pos.line)=true) apR):EE c n S (.Call (.Attribute e "get" ap) args [] pos) Q E:=jr aeo aeH PySem.F.type_dict_get h he hs hlen bw
theorem PJ{e:Expr}{pos:Pos}(h:EE c n S e (nD c n "set" "set.add" args Q E) E)(he:autoParam (bo e=false) apR)(hs:autoParam (args.all aV=true) apR)(hlen:autoParam ((decide (args.length<30))=true) apR)(bw:autoParam ((ap.endLine==pos.line)=true) apR):EE c n S (.Call (.Attribute e "add" ap) args [] pos) Q E:=jr PySem.F.plainAttrs_set PySem.F.slot_set_add PySem.F.type_set_add h he hs hlen bw
end
end
section
variable{l:List Stmt}
section
variable{c:Cx} {n:Nat} {S:SS} {E:EP}
theorem W.reorder{t:Sem α}{Q:α→SS→Prop}(h:W c n S t (λv S'=>∃l,l.Perm S'.cells∧Q v ⟨S'.loc,l⟩) E):W c n S t Q E:=.i λok X A s hA R=>h.st ok X A s hA R λv s1 S1 R1 h8=>ak h8 λl hp k=>⟨⟨S1.loc,l⟩,R1.perm (cells':=l++X) (hp.append_right X),k⟩
def PL(C D:Cells)(Q:AV→SS→Prop)(v:AV)(loc:List (Str×Option AV)):Prop:=∃l,aq C l D∧Q v ⟨loc,l⟩
theorem PL.go{l:Cells}{v:AV}(h:aq C l D)(k:Q v ⟨loc,l⟩):PL C D Q v loc:=⟨l,h,k⟩
theorem aH{K0:aao→Frag}{m:Nat}{f:Addr}(hf:FC K0 m f as [] C Qf Ef)(hp:aq C S.cells D)(hK:c.K=K0 c.w.params)(hd:c.hd=none)(h:∀v C',Qf v C'→PL C' D Q v S.loc) (he:∀k C',Ef k C'→E k ⟨S.loc,C'++D⟩) (hm:autoParam (m≤n) apM):bM c n S (.ref f) as Q E:=λv vs hv bx=>W.reorder (iE (S:=S) (Q:=λv S'=>∃l,l.Perm S'.cells∧Q v ⟨S'.loc,l⟩) hf hp hK hd (λv C' hq=>let⟨l,h1,h2⟩:=h v C' hq;⟨l,h1.perm,h2⟩) he hm v vs hv bx)
theorem W.forget{t:Sem α}{Q:α→SS→Prop}(h:W c n ⟨loc,C⟩ t Q E):W c n ⟨loc,D++C⟩ t Q E:=.i λok X A s hA R=>h.run ok X A s hA (R.drop (cells':=C++X) (by change ahZ (C++X) ((D++C)++X);rw[aaw];exact ac1 D (C++X)))
theorem fY{p:Addr×AO}{Q:FL→SS→Prop}(h:EB c n ⟨loc,C⟩ l Q E):EB c n ⟨loc,p::C⟩ l Q E:=W.forget (D:=[p]) h
theorem pq{Q:FL→SS→Prop}(h:EB c n S l Q E):EB c n S l (O8 c n [] Q E) E:=h.az λf S' k=>by cases f with|next=>exact d0 k|ret v=>exact k|brk=>exact k|cont=>exact k
theorem PK{Q:Bool→SS→Prop}(h:Q true S):TR c n S (.str ⟨#[k]⟩) Q E:=rR (aae rfl) h
theorem PM{Q:Bool→SS→Prop}(h:Q false S):TR c n S (.str "") Q E:=rR (aae rfl) h
end
end
section
variable{Q:Value→aas→Prop}
namespace ST
section
variable{w:World} {A:ads} {E:Value→aas→Prop} {s:aas}
abbrev X:String:="StopIteration"
theorem mw:aeY table "Exception.__new__"=some Builtin.«BaseException.__new__»:=entryFor_alias (id':="BaseException.__new__") '3' (by first|rfl|(unfold String.splitOn;simp+decide [String.splitOnAux])) (by decide+kernel) '3'
theorem kr:aeY table "StopIteration.__init__"=some Builtin.«StopIteration.__init__»:=acV '3'
theorem madeBy:afH (.type "StopIteration")=pure (some "Exception.__new__"):=by kernel_rfl
theorem jB:Slot "StopIteration" "__init__" "StopIteration.__init__":=.of (owner:="StopIteration") (n:="__init__") (by rw[ab7,abv];kernel_rfl) (by decide+kernel) (by decide+kernel) (by decide+kernel) (by first|exact .inl (by decide+kernel)|exact .inr (by decide+kernel)) (by rw[abo];kernel_rfl)
theorem self:acU (.type "StopIteration") (.type "StopIteration")=pure true:=by rw[abo];kernel_rfl
theorem base:acU (.type "StopIteration") (.type "BaseException")=pure true:=by rw[abo];kernel_rfl
theorem notAttr:acU (.type "StopIteration") (.type "AttributeError")=pure false:=by rw[abo];kernel_rfl
theorem notName:acU (.type "StopIteration") (.type "NameError")=pure false:=by rw[abo];kernel_rfl
theorem BM
  (h:Q (.ref (s.heap.push {cls:=.type "tuple",data:=.seq #[]}).objs.size) {s with heap:=(s.heap.push {cls:=.type "tuple",data:=.seq #[]}).push {cls:=.type "StopIteration",data:=.fields #[.ref s.heap.objs.size,.none,.none,.none,.bool false,.none]}}):
  wpAny (model prog w) A (call (.builtin "Exception.__new__") [.type "StopIteration"]) Q E s:=by
 refine PyProof.Rows.call_builtin_at (by decide+kernel) mw '3' ?_
 refine PyProof.Rows.wpAt_bind (PyProof.Rows.wpAt_owner rfl (by decide+kernel) (PyProof.Rows.wpAt_of_any ?_))
 dsimp only
 refine aac (m:=isType _) (ab2 (a:=true) rfl ?_)
 with_reducible refine qF (by first|decide|simp) ?_
 refine aac (ab2 (a:=true) (by rw[abo];kernel_rfl) ?_)
 with_reducible refine qF (by first|decide|simp) ?_
 refine aac (ab2 (a:=()) '3' ?_)
 refine aac (ab2 (a:=0) ?own ?_)
 case own=>
  change(do
   if←acU (.type "StopIteration") (.type "AttributeError")then return 2
   if←acU (.type "StopIteration") (.type "NameError")then return 1
   return 0:Sem Nat)=pure 0
  simp only[notAttr,notName,pure_bind,aaU,if_false]
 refine aac (abJ (aac (abJ (aal ⟨_,rfl,?_⟩) (by size_fits))) (by size_fits))
 exact h
theorem zk{e:Addr}{t0:Addr}(he:s.heap.get? e=some ob) (i0:ob.cls= .type "StopIteration") (hd:ob.data= .fields #[.ref t0,.none,.none,.none,.bool false,.none])(h:∀h' PN,(∀b o,b≠e→s.heap.get? b=some o→h'.get? b=some o)→h'.get? e=some PN→PN.cls= .type "StopIteration"→(∃vs,PN.data= .fields vs∧vs[1]? =some .none)→Q .none {s with heap:=h'}):wpAny (model prog w) A (call (.builtin "StopIteration.__init__") [.ref e]) Q E s:=by
 have hT:s.TypeIs (.ref e) "StopIteration":=⟨ob,he,i0⟩;have spl:splitId "StopIteration.__init__"=some ("StopIteration","__init__"):=by decide+kernel
 refine abI (aeX jB.plain kr ?_);simp only[agb,(by decide+kernel:builtinKind "StopIteration.__init__"=some .slot),spl];simp only[(by kernel_rfl:Manifest.signature? "StopIteration.__init__"=some ⟨.positional,"*","StopIteration",.self,[⟨"args",.varPos,false⟩]⟩)];refine aac (adV hT self ?_);with_reducible refine qF (by first|decide|simp) ?_
 unfold aiN;refine aac (m:=Bind.printed "*" true _ _) (printed_star (self:=.ref e) rfl hT λfull=>?_);refine aac (m:=Bind.printed "StopIteration" false _ _) (printed_name (by decide+kernel) ?_);change wpAny _ _ (Sem.onRaise (Bind.check _ full "StopIteration" _ []) _) _ _ s;rw[check_varPos];show aal;unfold Builtin.«StopIteration.__init__»;have vM:=aap (h:=s.heap) {cls:=.type "tuple",data:=.seq #[]} he;refine aac (ag2 (acs (acV '3':aeY table "BaseException.__init__"=some Builtin.«BaseException.__init__») ?_));unfold Builtin.«BaseException.__init__»;dsimp only;with_reducible refine qF (by simp) ?_
 refine aac (abJ (aac (aac (acq vM hd rfl (aac (acW vM hd (Nat.zero_lt_succ _) ?_))))) (by size_fits));refine aio (aal ?_);change wpAny _ _ (aiR (.ref e) 5 .none>>=λzz=>ahP (.ref e) 5 .none>>=λzz=>ret .none) _ _ _;have up:∀(h1:Heap) (RE:Obj) (i:Nat) (v:Value) (vs:Array Value),h1.get? e=some RE→RE.cls= .type "StopIteration"→RE.data= .fields vs→vs.size=6→vs[1]? =some .none→i≠1→∃UU,(h1.update e (acD (·.setIfInBounds i v))).get? e=some UU∧UU.cls= .type "StopIteration"∧UU.data= .fields (vs.setIfInBounds i v)∧(vs.setIfInBounds i v).size=6∧(vs.setIfInBounds i v)[1]? =some .none:=by intro h1 RE i v vs g1 g2 g3 g4 g5 g6;refine⟨_,abl _ g1 (adF (adt g3 _)),(ahQ _ _).trans g2,adt g3 _,by rw[Array.size_setIfInBounds];exact g4,?_⟩;rw[Array.getElem?_setIfInBounds_ne g6];exact g5
 let o2 a1 a2 a3 a4 a5:=ox (up _ ob 0 (.ref s.heap.objs.size) _ vM i0 hd rfl rfl '2');let o3 b1 b2 b3 b4 b5:=ox (up _ o2 5 .none _ a1 a2 a3 a4 a5 '2');let o4 c1 c2 c3 c4 c5:=ox (up _ o3 5 .none _ b1 b2 b3 b4 b5 '2');refine aac (aac (acq (x:=.none) a1 a3 rfl (aac (acW a1 a3 (by rw[a4];decide) (aal ?_)))));refine aac (acW b1 b3 (by rw[b4];decide) (aal ?_));refine h _ o4 (λb o hb g=>?_) c1 c2 ⟨_,c3,c5⟩;rw[abp _ _ (aeR hb),abp _ _ (aeR hb),abp _ _ (aeR hb)];exact aap _ g
theorem zl(h:∀h' e ob vs,(∀b o,s.heap.get? b=some o→h'.get? b=some o)→s.heap.get? e=none→h'.get? e=some ob→ob.cls= .type "StopIteration"→ob.data= .fields vs→vs[1]? =some .none→Q (.ref e) {s with heap:=h'}):wpAny (model prog w) A (call (.type "StopIteration") []) Q E s:=by
 refine abI (aec ?_);change wpAny _ _ (ahY (.type "StopIteration") ⟨[],[]⟩) _ _ s;simp only[ahY];refine aal ⟨aft _ (by decide+kernel),acs PyProof.Rows.entry_type_call ?_⟩;rw[Around.under_plain (weight_type_call "StopIteration" _ _) (by first|rfl|kernel_rfl|decide+kernel)];unfold Builtin.«type.__call__»;dsimp only;rw[if_neg (by decide+kernel),if_neg (by decide+kernel)];refine aac (ab2 (a:=()) '3' ?_);have hm:(fastBuiltinMro "StopIteration").map (λx=>x.isEmpty)=some false:=by kernel_rfl
 obtain⟨l,hl,hle⟩:∃l,mroOf (.type "StopIteration")=pure l∧l.isEmpty=false:=by
  rw[mroOf_type];cases q:fastBuiltinMro "StopIteration"with
  |none=>rw[q]at hm;cases hm
  |some l=>rw[q]at hm;exact⟨l,rfl,by simpa using hm⟩
 refine aac (ab2 hl ?_);with_reducible refine qF (by rw[hle];exact aa1) ?_
 refine aac (ab2 madeBy ?_);refine aac (aal (aac (abk (BM ?_))));refine aac (adV (T:="StopIteration") ⟨_,aaG _ rfl,rfl⟩ self ?_);with_reducible refine qF (by first|decide|simp) ?_
 refine aac (abk (adn (name:=abA "__init__") (T:="StopIteration") ⟨_,aaG _ rfl,rfl⟩ jB (zk (aaG _ rfl) rfl rfl λh' PN g1 g2 g3 h8=>ak h8 λvs g4 g5=>?_)));with_reducible refine qF (by simp) ?_
 refine aal (h h' _ PN vs (λb o hb=>g1 b o (abf (aaE (aa3 hb) (by simp))) (aap _ (aap _ hb))) (Heap.get?_none_of_le (by simp)) g2 g3 g4 g5)
end
end ST
end
section
variable{Q:Flow→aas→Prop}
namespace ST
section
variable{w:World} {A:ads} {E:Value→aas→Prop} {s:aas} {env:Env}
theorem nested{prg:aiA}{k:Value}{dep:Int}{tk:Tok}{Q:ahb→aas→Prop}(hk:k= .int dep tk)(hq:Q (.done (.ret (.bool true))) s):wpAny (model prg w) A (Builtin.«issubclass.nested» ⟨[.type "StopIteration",.type "StopIteration",k],[]⟩) Q E s:=by
 subst hk;have hm:(abR ((afp "StopIteration").elim "type" (λx=>x.metatype))==abR "type")=true:=by decide+kernel
 have PO:=self;repeat(any_goals(first|assumption|rewrite (config:={}) [if_pos hm]|rewrite (config:={}) [PO]|wp_step))
theorem Jw:Meets (Builtin.«issubclass» ⟨[.type "StopIteration",.type "StopIteration"],[]⟩) (λzz R s=>R (.ok (.ret (.bool true))) s):=λzz zz zz zz zz hs=>issubclass_outer (nested rfl hs)
theorem wJ{pos:Pos}(hh:A.handled=none)
  (hx:wpAny (model prog w) A (eval (.Name x np) env) (λv s₁=>v= .type "StopIteration"∧∀h' e ob vs,(∀b o,s₁.heap.get? b=some o→h'.get? b=some o)→s₁.heap.get? e=none→h'.get? e=some ob→ob.cls= .type "StopIteration"→ob.data= .fields vs→vs[1]? =some .none→E (.ref e) {s₁ with heap:=h'}) E s):
  wpAny (model prog w) A (exec (.Raise (some (.Name x np)) none pos) env) Q E s:=by
 change wpAny (model prog w) A (do agl pos;raiseStmt env (some (do let v←eval (.Name x np) env;agl pos;pure v)) none) Q E s
 refine aac (abw ?_)
 unfold raiseStmt
 refine aac (aac (aau hx (λv s₁ h₁=>aac (abw (aal ?_))) λzz zz e=>e))
 refine eA h₁ λr0 h=>?_
 obtain rfl:=r0
 refine aac (aal ?_)
 dsimp only
 refine aac (abk ?_)
 refine aac (aac (aal ?_))
 with_reducible refine II (by trivial) ?_
 rw[base]
 refine aal ?_
 with_reducible refine II (by trivial) ?_
 refine aac (zl λh' e ob vs g1 g2 he i0 hd h1=>?_)
 have hT:({s₁ with heap:=h'}:aas).TypeIs (.ref e) "StopIteration":=⟨ob,he,i0⟩
 refine aac (adV hT base ?_)
 with_reducible refine qF (by first|decide|simp) ?_
 refine aal ?_
 first|(refine aac (m:=isType (.type "StopIteration")) (aal ?_))|(refine aac (aal ?_))
 first|(rw[if_pos rfl])|(simp only[if_true])|dsimp only
 refine aac (abk ?_)
 first|(simp only[aaU,if_false])|(rw[if_neg '2'])|skip
 first|(refine aac (agt hT ?_))|(refine aac ?_;refine aac (agt hT ?_))
 refine aac (call_issubclass Jw ?_)
 first|(refine aac (adI ?_))|(refine adI ?_)|(dsimp only[wants];first|(refine aac (adI ?_))|(refine adI ?_))
 first|(rw[if_pos rfl])|(simp only[if_true])|skip
 refine aal ?_
 refine aac (aac (acq (i:=1) (x:=aa6) he hd h1 ?_))
 with_reducible refine qF '2' ?_
 refine aal (aac (ahp ?_))
 rw[hh]
 first
  |exact ag1 (h h' e ob vs g1 g2 he i0 hd h1)
  |exact aac (aal (ag1 (h h' e ob vs g1 g2 he i0 hd h1)))
end
end ST
section
variable{c:Cx} {n:Nat} {S:SS} {E:EP}
theorem qf{pos:Pos}{Q:FL→SS→Prop}(hd:c.hd=none)(h:EE c n S (.Name x np) (λf S1=>f= .type "StopIteration"∧E (.type "StopIteration") S1) E):ES c n S (.Raise (some (.Name x np)) none pos) Q E:=.i λok X A s hA R=>ST.wJ (In.hd hA hd) (h.st ok X A s hA R λv s1 S1 R1 h8=>eA h8 λh1 h2=>⟨bI h1,λh' e ob vs g1 g2 he i0 Py g5=>by let a b:=eA (R1.newExc g1 g2 he i0 Py g5);exact⟨e,_,S1,rfl,b,a,h2⟩⟩)
end
end
section
open PySem.Builtin
variable{m:Nat}
section
variable{c:Cx} {n:Nat} {S:SS} {E:EP}
structure BN(K:Frag)(C fI fN:Addr):Prop where
 iter:adf K (.ref C) "__iter__"=some (some (.ref fI))
 next:adf K (.ref C) "__next__"=some (some (.ref fN))
 len:adf K (.ref C) "__len__"=some none
 hint:adf K (.ref C) "__length_hint__"=some none
 fi:isFn K (.ref fI)=true
 fn:isFn K (.ref fN)=true
theorem wK{K0:aao→Frag}{x C fI:Addr}{X:Cells}{res:Value}{s:aas}(O:BN c.K C fI fN)(ok:c.Ok)(hK:c.K=K0 c.w.params)(hd:c.hd=none)(hA:c.In A (m+2))(FI:FC K0 m fI [.ref x] [] [] (λv C=>v= .ref x∧C=[]) (λzz zz=>False))(FN:∀j v,ys[j]? =some v→FC K0 m fN [.ref x] [] (Cf j) (λr C=>r=v∧C=Cf (j+1)) (λzz zz=>False))(FE:FC K0 m fN [.ref x] [] (Cf ys.length) (λzz zz=>False) (λk C=>k= .type "StopIteration"∧C=Cf (ys.length+1)))(hx:∀j,(x,.inst C d)∈Cf j∧∃es k,(d,.dict es k)∈Cf j) (hz:ys.length≤1000) (RF:l≠x)(R1:Rp c ((⟨S.loc,(l,.list [])::(Cf 0++D)⟩:SS).ext X) s)(hR:∀s',Rp c ((⟨S.loc,(l,.list ys)::(Cf (ys.length+1)++D)⟩:SS).ext X) s'→RR (.ok (.ret res)) s'):wpAny (model prog c.w) A.in1 (acR (.ref l) (.ref x) res) (λfin s'=>match fin with| .done f=>RR (.ok f) s'| .again c'=>c'.quiet=true∧ad9 (model prog c.w) A c' RR s') (λe s'=>RR (.error e) s') s:=by
 have insts:∀(j:Nat) (L0:List AV) (s':aas),Rp c ((⟨S.loc,(l,.list L0)::(Cf j++D)⟩:SS).ext X) s'→∃od,InstAt s'.heap x (afA C d) C od:=by intro j L0 s' R;let h1 es k h2:=IC (hx j);let ents I z2:=ak (R.inst (S:=⟨S.loc,(l,.list L0)::(Cf j++D)⟩) (.tail _ (aaf _ h1)) (.tail _ (aaf _ h2)));exact⟨_,I⟩
 have Fr0:∀{S':SS} {s':aas},Rp c (S'.ext X) s'→∃m,Fr c.base c.L s'.heap m:=λR=>by let m hn z2:=ak R.ns;exact⟨m,hn,R.stays,ok.above⟩
 have X0:c.K.In c.base:=ok.eH.fg;have In1:∀{B:ads},c.In B (m+1)→c.In B.in1 m:=λ{B} hB=>by let a1 a2 a3 a4:=jc hB;exact⟨a1,a2,by change B.depth+m<_;exact aaN a3,by change B.units+1+8*m<_;exact L4 a4⟩
 have UV:c.In A.in1 m:=In1 (by refine jc hA λa1 a2 a3 a4=>?_;exact⟨a1,a2,by exact aaN a3,by exact L6 a4⟩);let od I:=eE (insts 0 _ _ R1);let mm F1:=eE (Fr0 R1);refine aac (I.type.here ?_);have h1:adg (.ref l) (.ref x)=false:=by simp[adg,RF]
 have h2:(abQ C==abR "list")=false:=rfl;simp only[h1,h2,(rfl:(abQ C==abR "tuple")=false),afN,aaU,if_false];refine aac (owit_iter F1 X0 I O.iter O.fi (abI (FI.any (S:=⟨S.loc,[]⟩) hK hd rfl (pos:=[.ref x]) (kws:=[]) rfl rfl ok UV (R1:Rp c ((⟨S.loc,[]⟩:SS).ext (((l,.list [])::(Cf 0++D))++X)) s) (λv s2 C2 R2 q=>?_) λzz zz zz zz zz zz z=>z.elim)));let OO Xv:=eA q;obtain rfl:=aj OO;rw[Xv]at R2;have PP:Rp c ((⟨S.loc,(l,.list [])::(Cf 0++D)⟩:SS).ext X) s2:=R2;let od2 I2:=eE (insts 0 _ _ PP);let mm2 F2:=eE (Fr0 PP);have Xk2:=fQ ok PP;show owit_it F2 X0 I2 O.next;refine aac (abk ?_);refine aac (aac (I2.type.here ((ae_ Xk2 O.len).here ?_)));change wpAny _ A.in1 (specialOf (abQ x) (abA "__length_hint__")>>=_) _ _ _;refine aac (aac (I2.type.here ((ae_ Xk2 O.hint).here ?_)));show aal;change wpAny _ A.in1 (rule "list.extend.makes-room">>=λzz=>agu (.ref l)>>=λzz=>again (.builtin "list.extend.loop" ⟨[.ref l,.ref x,res],[]⟩)) _ _ _;refine aac (aeN ?_);show aac;let o2 lQ vs kk r4 bx:=gS (PP.cells (l,.list []) (.head _));subst r4;obtain rfl:vs= #[]:=by have:=congrArg aaV bx;rw[aaa]at this;exact adm (by simpa using this)
 refine aac (adz lQ rfl ?_);have uD:=abl (abb (·.push aa6)) lQ rfl;show adz uD rfl;have R3:Rp c ((⟨S.loc,(l,.list [])::(Cf 0++D)⟩:SS).ext X) {s2 with heap:=(s2.heap.update l (abb (·.push aa6))).update l (abb (λx=>x.pop))}:=
  PP.upd (tk:=s2.toks) (x:=.list []) (y:=.list []) aI.head ((abx ..).trans (abx ..)) (abl (abb (λx=>x.pop)) uD rfl) (ba _ _ ⟨rfl,by simp⟩)
 refine aal ⟨ad8 ac3 _,iT (λmm s'=>∃j,mm=ys.length-j∧j≤ys.length∧Rp c ((⟨S.loc,(l,.list (ys.take j))::(Cf j++D)⟩:SS).ext X) s') ?_ ys.length _ ⟨0,rfl,aaD _,R3⟩⟩;intro mm s' UW;let j r1 hj R4:=bN UW;subst r1;let od4 I4:=eE (insts j _ _ R4);let mm4 F4:=eE (Fr0 R4);have OT:Rp c ((⟨S.loc,Cf j⟩:SS).ext ((D++X)++[(l,.list (ys.take j))])) s':=by show R4.perm (cells':=Cf j++((D++X)++[(l,.list (ys.take j))]));change aiY _ ((l,AO.list (ys.take j))::(Cf j++D)++X);rw[←aaw,←aaw];exact aaY
 rcases Nat.lt_or_ge j ys.length with dc|Jx;have hy:ys[j]? =some ys[j]:=aay dc;refine owit_next F4 X0 I4 O.next O.fn (abI ((FN j _ hy).any (S:=⟨S.loc,Cf j⟩) hK hd rfl (pos:=[.ref x]) (kws:=[]) rfl rfl ok UV OT (λv s5 C5 R5 q=>?_) λzz zz zz zz zz zz z=>z.elim));let Y0 RG:=eA q;rw[RG]at R5;have R6:Rp c ((⟨S.loc,(l,.list (ys.take j))::(Cf (j+1)++D)⟩:SS).ext X) s5:=by show R5.perm (cells':=(l,AO.list (ys.take j))::(Cf (j+1)++D)++X);change aiY _ (Cf (j+1)++((D++X)++[(l,.list (ys.take j))]));rw[←aaw,←aaw];exact aaY (l₁:=[(l,AO.list (ys.take j))]) (l₂:=Cf (j+1)++D++X)
 let o6 PQ Xw k6 r4 PR:=gS (R6.cells (l,.list (ys.take j)) (.head _));subst r4;have xK:Xw.size=j:=by have:=congrArg aaV PR;rw[aaa,aaQ,ado]at this;exact this.trans (ac5 (aaN dc))
 refine ba Xw k6 ⟨PQ,by rw[xK];exact aab (ahW dc) (aab hz '2'),ys.length-(j+1),by exact acN dc (aby _),j+1,rfl,dc,?_⟩;let k' jh:=eE (kQ (f:=(·.push v)) PQ);refine R6.upd (tk:=s5.toks) (x:=.list (ys.take j)) (y:=.list (ys.take (j+1))) aI.head (abx ..) jh (ba _ _ ⟨rfl,?_⟩);rw[aeu,aaj,PR,aaK,hy,←Y0];rfl;obtain rfl:j=ys.length:=aaI hj Jx;refine owit_next F4 X0 I4 O.next O.fn (abI (FE.any (S:=⟨S.loc,Cf ys.length⟩) hK hd rfl (pos:=[.ref x]) (kws:=[]) rfl rfl ok UV OT (λv s5 C5 R5 q=>q.elim) λe' kx s5 C5 Xx R5 q=>?_));let Y1 RG:=eA q;rw[RG]at R5;rw[Y1,RG]at Xx;have R6:Rp c ((⟨S.loc,(l,.list (ys.take ys.length))::(Cf (ys.length+1)++D)⟩:SS).ext X) s5:=by show R5.perm (cells':=(l,AO.list (ys.take ys.length))::(Cf (ys.length+1)++D)++X);change aiY _ (Cf (ys.length+1)++((D++X)++[(l,.list (ys.take ys.length))]));rw[←aaw,←aaw];exact aaY (l₁:=[(l,AO.list (ys.take ys.length))]) (l₂:=Cf (ys.length+1)++D++X)
 let z0 z1 oe vse G5 Do z6:=xf Xx;show adV (T:="StopIteration") ⟨oe,G5,Do⟩ ST.self;rw[if_pos rfl];rw[abi]at R6;exact hR _ R6
theorem qg{K0:aao→Frag}{x C fI:Addr}(O:BN c.K C fI fN)(hK:c.K=K0 c.w.params)(hd:c.hd=none)
  (FI:FC K0 m fI [.ref x] [] [] (λv C=>v= .ref x∧C=[]) (λzz zz=>False))
  (FN:∀j v,ys[j]? =some v→FC K0 m fN [.ref x] [] (Cf j) (λr C=>r=v∧C=Cf (j+1)) (λzz zz=>False))
  (FE:FC K0 m fN [.ref x] [] (Cf ys.length) (λzz zz=>False) (λk C=>k= .type "StopIteration"∧C=Cf (ys.length+1)))
  (hx:∀j,(x,.inst C d)∈Cf j∧∃es k,(d,.dict es k)∈Cf j) (hz:ys.length≤1000) (hS:S.cells=Cf 0++D)
  (h:∀l,Q (.ref l) ⟨S.loc,(l,.list ys)::(Cf (ys.length+1)++D)⟩) (hm:m+3≤n):bM c n S (.type "list") [.ref x] Q E:=λf vs hf bx=>W.of λok X A s hA R=>by
 obtain rfl:=bI hf
 refine ak (cP bx) λv r1 hv=>?_
 obtain rfl:=r1
 obtain rfl:=aj hv
 refine callType_codes (Q₁:=λobj s₁=>obj= .ref s.heap.objs.size∧s₁={s with heap:=s.heap.push {cls:=.type "list",data:=.seq #[]}}) F.called_list (F.typeCall_list_1 _) F.entry_list_init
  (code_list_new _ ⟨rfl,rfl⟩) λobj s₁ h₁=>?_
 refine eA h₁ λr0 r1=>?_
 obtain rfl:=r0
 obtain rfl:=r1
 have RH:(s.heap.push {cls:=.type "list",data:=.seq #[]}).get? s.heap.objs.size=some {cls:=.type "list",data:=.seq #[]}:=aaG _ rfl
 refine⟨⟨_,RH,rfl⟩,F.args_list_init_2 _ _,?_⟩
 change wpAny _ A.in1.in1 (do let old←Builtin.List.listItems (.ref s.heap.objs.size);age (.ref s.heap.objs.size) (λzz=> #[]);letGo old.toList.reverse;acR (.ref s.heap.objs.size) (.ref x) .none) _ _ _
 refine aac ?_
 refine aac (ag4 RH rfl (aal ?_))
 change wpAny _ A.in1.in1 (aid s.heap.objs.size (λzz=> #[])>>=λzz=>letGo (#[]:Array Value).toList.reverse>>=λzz=>acR (.ref s.heap.objs.size) (.ref x) .none) _ _ _
 refine aac (adz RH rfl ?_)
 have UX:=abl (abb (λzz=>(#[]:Array Value))) RH rfl
 have UY:∀b o,s.heap.get? b=some o→((s.heap.push {cls:=.type "list",data:=.seq #[]}).update s.heap.objs.size (abb (λzz=>(#[]:Array Value)))).get? b=some o:=
  λb o e=>(abp _ _ (abG (aa3 e))).trans (aap _ e)
 refine aac (aio ?_)
 have R1:Rp c ((⟨S.loc,(s.heap.objs.size,.list [])::(Cf 0++D)⟩:SS).ext X) {s with heap:=(s.heap.push {cls:=.type "list",data:=.seq #[]}).update s.heap.objs.size (abb (λzz=>(#[]:Array Value)))}:=by
  rw[←hS]
  exact R.alloc (a:=s.heap.objs.size) (ao:=.list []) UY (aak _) UX (ba _ _ ⟨rfl,by simp⟩) (aak _)
 have dc:x<s.heap.objs.size:=by
  refine ak (R.cells (x,.inst C d) (aaf _ (hS▸aaf _ (hx 0).1))) λo ho z2=>?_
  exact aa3 ho
 have RF:s.heap.objs.size≠x:=abG dc
 generalize s.heap.objs.size=l at R1 UX RF⊢
 generalize((s.heap.push {cls:=.type "list",data:=.seq #[]}).update l (abb (λzz=>(#[]:Array Value))))=h1 at R1 UX⊢
 refine wK O ok hK hd (by refine jc hA λa1 a2 a3 a4=>?_;exact⟨a1,a2,by change A.depth+_<_;exact Ml hm a3,by change A.units+1+8*_<_;exact Mn hm a4⟩) FI FN FE hx hz RF R1 λs' R'=>?_
 exact⟨rfl,_,R',h l⟩
end
end
section
variable{L l l':Cells} {x y:AO} {o:Expr} {v:AV}
section
variable{c:Cx} {n:Nat} {S:SS} {E:EP} {s:aas} {X:Cells}
theorem bZ:aq L L []:=by induction L with|nil=>exact .nil|cons a r ih=>exact .cons .head ih
theorem jq.push{a b:Addr×AO}(h:jq a l l'):jq a (b::l) (b::l'):=.tail h
theorem bR{a:Addr×AO}(h:aq L l D):aq L (a::l) (a::D):=by induction h with|nil=>exact .nil|cons h1 h2 ih=>exact .cons h1.push ih
theorem At.left{p:α}{l r:List α}(h:At p l):At p (l++r):=by induction h with|head=>exact .head|tail _ ih=>exact .tail ih
theorem At.right{p:α}{l r:List α}(h:At p r):At p (l++r):=by induction l with|nil=>exact h|cons a l ih=>exact .tail ih
theorem aI.left{r:Cells}(h:aI a x y l l'):aI a x y (l++r) (l'++r):=by induction h with|head=>exact .head|tail _ ih=>exact .tail ih
theorem aI.right{r r':Cells}(h:aI a x y r r'):aI a x y (l++r) (l++r'):=by induction l with|nil=>exact h|cons b l ih=>exact .tail ih
theorem W.Jy{t:Sem α}{Q:α→SS→Prop}(u:aI a x y C C')(hc:∀o,pY c.w x o→pY c.w y o)(h:W c n ⟨loc,C'⟩ t Q E):W c n ⟨loc,C⟩ t Q E:=.i λok Z A s hA R=>by have ua:=u.app (X:=Z);let o ho hx:=ak (R.cells _ ua.mem);exact h.run ok Z A s hA (R.upd (h':=s.heap) (tk:=s.toks) ua ⟨rfl,λzz zz=>rfl⟩ ho (hc o hx))
theorem zm{C:Addr}{o:Obj}(h:pY c.w (.inst C d) o):pY c.w (.du C d []) o:=⟨#[],h,rfl⟩
abbrev Xy(c:Cx)(n:Nat)(nm:Str)(Q:AV→SS→Prop):AV→SS→Prop:=λa S1=>∃x C d sl es k p i v,a= .ref x∧At (x,.du C d sl) S1.cells∧At (d,.dict es k) S1.cells∧m7 c.K C nm p i=true∧sl[i]? =some (some v)∧hand v=true∧Q v S1
theorem Jz{e:Expr}{nm:Str}(h:EE c n S e (Xy c n nm Q) E)(he:autoParam (bo e=false) apR):EE c n S (.Attribute e nm p) Q E:=rO (h.az λv S1 h8=>hV h8 λx C d sl es k p i r h1 h2 h3 h4 h5 h6 h7=>by rw[h1];exact xB h2.mem h3.mem h4 h5 h6 h7) he
theorem pr{x C d p:Nat}{nm:Str}(h1:At (x,.du C d sl) S.cells)(h2:At (d,.dict es k) S.cells)(h3:m7 c.K C nm p i=true)(h4:sl[i]? =some (some v))(h5:hand v=true)(h:Q v S):Xy c n nm Q (.ref x) S:=(IA x C d sl es k p i v ⟨rfl,h1,h2,h3,h4,h5,h⟩)
abbrev EO(c:Cx)(n:Nat)(nm:Str)(v:AV)(Q:SS→Prop):AV→SS→Prop:=λa S1=>∃x C d sl JA es k p i cells',a= .ref x∧aI x (.du C d sl) (.du C d JA) S1.cells cells'∧At (d,.dict es k) S1.cells∧qQ c.K C nm p i=true∧xC sl i v=JA∧Q ⟨S1.loc,cells'⟩
abbrev Y2(c:Cx)(n:Nat)(nm:Str)(o:Expr)(Q:SS→Prop)(E:EP):AV→SS→Prop:=λv S1=>EE c n S1 o (EO c n nm v Q) E
theorem Hg{nm:Str}{a:AV}{Q:SS→Prop}(h:EO c n nm v Q a S):SA c n S a v nm Q E:=by obtain⟨x,C,d,sl,JA,es,k,p,i,cells',h1,h2,h3,h4,h5,h6⟩:=h;subst h1 h5;exact Ey h2 h3.mem h4 h6
theorem BP{nm:Str}{Q:FL→SS→Prop}(h:EE c n S value (Y2 c n nm o (Q .next) E) E)(hs:autoParam (ac6 value (some (.Attribute o nm p')) p.line c.env=pure false) apR):ES c n S (.Assign [.Attribute o nm p'] value p) Q E:=
 fW (h.az λv S1 h1=>h1.az λa S2 h2=>Hg h2) hs
theorem pu{x C d p:Nat}{nm:Str}{JA:List (Option AV)}{Q:SS→Prop}(h1:aI x (.du C d sl) (.du C d JA) S.cells cells')(h2:At (d,.dict es k) S.cells)(h3:qQ c.K C nm p i=true)(h4:xC sl i v=JA)(h:Q ⟨S.loc,cells'⟩):EO c n nm v Q (.ref x) S:=(S_ x C d sl JA es k p i cells' ⟨rfl,h1,h2,h3,h4,h⟩)
abbrev UZ(c:Cx)(n:Nat)(nm:Str)(Q:SS→Prop)(x:Addr)(E:EP):AV→SS→Prop:=λv S'=>EO c n nm v Q (.ref x) S'
abbrev PS(c:Cx)(n:Nat)(nm:Str)(op:ad4)(Q:SS→Prop)(x:Addr)(r:AV)(E:EP):AV→SS→Prop:=λb S2=>IO c n S2 op r b (UZ c n nm Q x E) E
abbrev Xz(c:Cx)(n:Nat)(nm:Str)(op:ad4)(value:Expr)(Q:SS→Prop)(E:EP):AV→SS→Prop:=λa S1=>∃x C d sl es k p i r,a= .ref x∧At (x,.du C d sl) S1.cells∧At (d,.dict es k) S1.cells∧m7 c.K C nm p i=true∧sl[i]? =some (some r)∧hand r=true∧EE c n S1 value (PS c n nm op Q x r E) E
theorem PV{nm:Str}{Q:FL→SS→Prop}(h:EE c n S o (Xz c n nm op value (Q .next) E) E):ES c n S (.AugAssign (.Attribute o nm p) op value p') Q E:=
 mY (h.az λa S1 h8=>hV h8 λx C d sl es k p i r h1 h2 h3 h4 h5 h6 h7=>by
  rw[h1]
  exact xB h2.mem h3.mem h4 h5 h6 (h7.az λb S2 k2=>λv w hv hw=>(k2 v w hv hw).az λr2 S3 k3=>Hg k3))
theorem Hh{x C d p:Nat}{nm:Str}{r:AV}{Q:SS→Prop}(h1:At (x,.du C d sl) S.cells)(h2:At (d,.dict es k) S.cells)(h3:m7 c.K C nm p i=true)(h4:sl[i]? =some (some r))(h5:hand r=true)(h:EE c n S value (PS c n nm op Q x r E) E):Xz c n nm op value Q E (.ref x) S:=(IA x C d sl es k p i r ⟨rfl,h1,h2,h3,h4,h5,h⟩)
def js(T:String)(d:Addr)(o:Obj):Prop:=o.cls= .type T∧o.data= .fields #[.ref d]
theorem uL(hm:At (d,.map es ep) S.cells)(h:∀v,Q (.ref v) ⟨S.loc,(v,.obj (js "dict_values" d))::S.cells⟩):bM c n S (.bi "dict.values") [.ref d] Q E:=λf vs hf bx=>W.of λok X A s hA R=>by obtain rfl:=dT hf;let v r1 hv:=ak (cP bx);subst r1;obtain rfl:=aj hv;let kvs hd r2:=ak (R.map hm.mem);subst r2;refine ae9 afW (DictAt.of hd).typeIs PySem.F.entry_dict_values (PySem.F.args_dict_values_1 _) (meets_dict_values (sk c) d (R.mf ok hm.mem)) ⟨⟨_,DictAt.of hd⟩,⟨_,R.c0 (ao:=.obj (js "dict_values" d)) (tk:=s.toks) rfl ⟨rfl,rfl⟩,h _⟩⟩
theorem wL(hm:At (d,.map es ep) S.cells)(h:∀v,Q (.ref v) ⟨S.loc,(v,.obj (js "dict_items" d))::S.cells⟩):bM c n S (.bi "dict.items") [.ref d] Q E:=λf vs hf bx=>W.of λok X A s hA R=>by obtain rfl:=dT hf;let v r1 hv:=ak (cP bx);subst r1;obtain rfl:=aj hv;let kvs hd r2:=ak (R.map hm.mem);subst r2;refine ae9 agf (DictAt.of hd).typeIs PySem.F.entry_dict_items (PySem.F.args_dict_items_1 _) (meets_dict_items (sk c) d (R.mf ok hm.mem)) ⟨⟨_,DictAt.of hd⟩,⟨_,R.c0 (ao:=.obj (js "dict_items" d)) (tk:=s.toks) rfl ⟨rfl,rfl⟩,h _⟩⟩
theorem Rp.view{v:Addr}(R:Rp c (S.ext X) s)(h:(v,.obj (js T d))∈S.cells):∃o,s.heap.get? v=some o∧o.cls= .type T∧o.data= .fields #[.ref d]:=by let o ho h1 h2:=bN (R.cells _ (aaf _ h));exact⟨o,ho,h1,h2⟩
def pv(d:Addr)(k ep:Nat)(i:Nat)(o:Obj):Prop:=o.cls= .type "dict_valueiterator"∧o.data= .fields #[.ref d,.int i 0,.int k 0,.int ep 0]
theorem BQ{v:Addr}(hv:At (v,.obj (js "dict_values" d)) S.cells)(h:At (d,.map es ep) S.cells)(hu:ab u= .ref v):wi c n S u (pv d es.length ep):=λok X A s Q E hA R hQ=>by obtain rfl:=aj hu;let kvs hd r2:=ak (R.map h.mem);subst r2;show wpAny_pyIter_values (R.view hv.mem) hd;exact hQ _ _ _ s.toks (λb o e=>aap _ e) (aak _) (aaG _ rfl) ⟨rfl,by rw[aaa];rfl⟩ (aak _)
theorem BR{y:AV}(h:At (d,.map es ep) S.cells)(hy:(es.map (λx=>x.2))[i]? =some y):xo c n S (pv d es.length ep) i y:=λok X A s it o Q E hA R ho hP hQ=>by let kvs hd r2:=ak (R.map h.mem);subst r2;rw[aaa]at hP;rw[aba,aag]at hy;let kv OP r2:=ak (aaq.mp hy);subst r2;refine wpAny_pyNext_values_item (k:=kv.1) (v:=kv.2) ⟨o,ho,hP⟩ hd OP λh' h8 hs=>ak h8 λo' jh tL=>?_;exact hQ _ h' o' s.toks rfl hs jh ⟨tL.1,by rw[aaa];exact tL.2⟩ (aak _)
theorem BS(h:At (d,.map es ep) S.cells)(hd:c.hd=none):xq c n S (pv d es.length ep) (es.map (λx=>x.2)).length:=λok X A s it o Q E hA R ho hP hQ=>by let kvs hD r2:=ak (R.map h.mem);subst r2;rw[aaa,aaa,aaa]at hP;refine wpAny_pyNext_values_end (i:=kvs.length) (In.hd hA hd) ⟨o,ho,hP⟩ hD (by simp) λh' hs=>hQ h' s.toks hs (aak _)
def eQ(d:Addr)(k ep:Nat)(i:Nat)(o:Obj):Prop:=∃a b,o={cls:=.type "dict_itemiterator",dict:=none,data:=.fields #[.none,.bool false,.ref d,.int i 0,.int k 0,.int ep 0,a,b],slots:= #[]}
theorem wM{k:Str}(h:At (d,.map es ep) S.cells)(hx:es[i]? =some (k,v)):TE c n S it [(it,.obj (eQ d es.length ep i))] [(it,.obj (eQ d es.length ep (i+1)))] (.str k) v:=λok X A s hA R=>by let o ho a b r4:=t6 (R.cells (it,.obj (eQ d es.length ep i)) (aad _ (.head _)));subst r4;let kvs hD r2:=ak (R.map h.mem);subst r2;rw[aag]at hx;let kv OP e:=ak (aaq.mp hx);obtain⟨k0,v0⟩:=kv;let r0 r1:=eA (afI e);subst r0;subst r1;rw[aaa]at ho;have dc:=aa3 ho;refine wpAny_pyNext_items_item (knd:=sk c) ho hD OP λkey h' hk he ht hz ha=>⟨_,rfl,λelts kk p=>wpAny_letOwnedTupleGo_items he λh₂ qI j3=>⟨_,rfl,?_⟩⟩;refine Rp.j0 (s:=s) (C:=[(it,.obj (eQ d (kvs.map y6).length ep i))]) (C':=[(s.heap.objs.size,.tup [.str k0,ab v0]),(it,.obj (eQ d (kvs.map y6).length ep (i+1)))]) R (λb o hb e'=>?_) ?_ ?_ ?_ (aak _);have Bt:b≠it:=λq=>hb (by rw[q];exact .head _);exact(j3.2 b Bt).trans (ha b o Bt e');intro p hp;rcases aai.mp hp with rfl|hp;exact⟨_,(j3.2 _ (abG dc)).trans ht,_,_,rfl,by change[ab key,ab v0]=_;rw[str_is hk]⟩;rcases aai.mp hp with rfl|hp;exact⟨_,qI,_,_,by rw[aaa]⟩;cases hp;simp only[aan,acE,aaB,aai,abO,or_false,not_false_eq_true,abn,and_true];exact abG dc;intro a ha;simp only[aan,acE,aai,abO,or_false]at ha⊢;rcases ha with rfl|rfl;exact .inr (aak _);exact .inl rfl
theorem zn(h:At (d,.map es ep) S.cells)(hd:c.hd=none):TF c n S it [(it,.obj (eQ d es.length ep es.length))]:=λok X A s hA R=>by let o ho a b r4:=t6 (R.cells (it,.obj (eQ d es.length ep es.length)) (aad _ (.head _)));subst r4;let kvs hD r2:=ak (R.map h.mem);subst r2;rw[aaa]at ho;refine wpAny_pyNext_items_end (knd:=sk c) (i:=kvs.length) (In.hd hA hd) ho hD (by simp) λh' hs=>⟨rfl,?_⟩;exact Rp.j0 (s:=s) (C:=[(it,.obj (eQ d (kvs.map y6).length ep (kvs.map y6).length))]) (C':=[]) R (λb o hb e'=>hs b o (λq=>hb (by rw[q];exact .head _)) e') (λp hp=>nomatch hp) abn (λa ha=>nomatch ha) (aak _)
theorem uM{v:Addr}(hS:S.cells=(v,.obj (js "dict_items" d))::C)(h:At (d,.map es ep) C)(hu:ab u= .ref v)(hd:c.hd=none):G2 c n S u (es.map λp=>(AV.str p.1,p.2)) (λS1=>At (d,.map es ep) S1.cells) ⟨S.loc,C⟩:=λok X A s hA R=>by obtain rfl:=aj hu;obtain⟨loc,cells⟩:=S;dsimp only at hS;subst hS;have R0:Rp c ((⟨loc,C⟩:SS).ext X) s:=R.drop (cells':=C++X) (acj ..);let kvs hD e:=ak (R0.map h.mem);refine wpAny_pyIter_items (knd:=sk c) (R.view (.head _)) hD (ba s.heap.objs.size (λi=>[(s.heap.objs.size,.obj (eQ d es.length ep i))]) ⟨rfl,?_,λS1 h1=>⟨λi a b hi=>?_,?_⟩⟩);exact Rp.j0 (s:=s) (C:=[]) (C':=[(s.heap.objs.size,.obj (eQ d es.length ep 0))]) R0 (λb o zz e=>aap _ e) (λp hp=>by obtain rfl:=aaL.mp hp;exact⟨_,aaG _ rfl,.none,.none,by rw[←e,aaa];rfl⟩) (by simp) (λa ha=>by obtain rfl:a=s.heap.objs.size:=(by simpa using ha);exact .inr (aak _)) (aak _);rw[aag]at hi;let q hq tO:=ak (aaq.mp hi);obtain⟨q1,q2⟩:=q;let r0 r1:=eA (afI tO);subst r0;subst r1;exact wM h1 hq;rw[aaa];exact zn h1 hd
theorem uN{x y:Str}{kt}{Q:FL→SS→Prop}(Inv:Nat→SS→Prop)(h:EE c n S iter (λv S1=>∃w C,v= .ref w∧S1.cells=(w,.obj (js "dict_items" d))::C∧Inv 0 ⟨S1.loc,C⟩) E)(hl:∀i S1,Inv i S1→At (d,.map es ep) S1.cells)(step:∀i k v S1 (N:SS→Prop),es[i]? =some (k,v)→Inv i S1→(∀S',Inv (i+1) S'→N S')→∃l',ia [x,y] [.str k,v] S1.loc l'∧EB c n ⟨l',S1.cells⟩ body (au N Q) E)(fin:∀S1,Inv es.length S1→EB c n S1 orelse Q E)(hd:autoParam (c.hd=none) apA) (hc:autoParam (c.comp=false) apA) (hs:autoParam (∀x,aa4 iter c.env x=pure x) apR):ES c n S (.For (.Tuple [.Name x px,.Name y py] kt pt) iter body orelse p) Q E:=uy (ps:=es.map λp=>(AV.str p.1,p.2)) (λS1=>At (d,.map es ep) S1.cells) Inv (h.az λv S1 h8=>bG h8 λw C h1 h2 h4=>⟨⟨S1.loc,C⟩,λu hu=>uM h2 (hl _ _ h4) (hu.trans h1) hd,h4⟩) hl (λi a b S1 hi inv=>by rw[aag]at hi;let q hq tO:=ak (aaq.mp hi);obtain⟨q1,q2⟩:=q;let r0 r1:=eA (afI tO);subst r0;subst r1;exact step i _ _ S1 _ hq inv λzz z=>z) (λS1 inv=>fin S1 (by rw[aaa]at inv;exact inv)) hd hc hs
def U0(c:Cx)(n:Nat)(S:SS)(a:AV)(Q:List AV→SS→Prop):Prop:=∀v X A s (E:Value→aas→Prop) (Q':List Value→aas→Prop),ab v=a→c.Ok→Rp c (S.ext X) s→(∀vs s' S',Rp c (S'.ext X) s'→Q (vs.map ab) S'→Q' vs s')→StarOf (model prog c.w) A E v Q' s
theorem str_list{l:Addr}{Q:List AV→SS→Prop}(h:At (l,.list xs) S.cells)(hz:xs.length≤lim)(hq:Q xs S):U0 c n S (.ref l) Q:=λv X A s E Q' hv ok R k=>by
 obtain rfl:=aj hv;obtain⟨vs,⟨o,ho,hc,nn,hd⟩,bx⟩:=R.list h.mem;have z:wpAny (model prog c.w) A (collect (.ref l)) Q' E s:=by refine wpAny_collect_seq l (.inl rfl) ho hc hd (λh' hk=>?_) (ax (by rw[aw bx];exact hz));exact k _ {s with heap:=h'} S (R.keeps (tk:=s.toks) hk) (by rw[bx];exact hq)
 exact aac (acM ⟨o,ho,hc⟩ PySem.F.slot_list_iter.lookup (aal ⟨rfl,z⟩))
end
end
section
variable{f x:Addr} {k:Addr→Addr→SS→Prop} {sp:Pos}
section
variable{c:Cx} {n:Nat} {S:SS} {E:EP} {s:aas} {X:Cells}
def xT(c:Cx)(n:Nat)(S:SS)(f:Addr)(as:List AV)(Q:AV→SS→Prop)(E:EP):Prop:=c.Ok→∀X A s pos,pos.map ab=as→c.In A n→Rp c (S.ext X) s→ad9 (model prog c.w) A (.call (.ref f) ⟨pos,[]⟩) (λr s'=>match r with
 | .ok (.ret v)=>QX c X (λv=>Q (ab v)) v s'
 | .ok _=>False
 | .error x=>EX c X E x s') s
theorem uO{K0:aao→Frag}{m:Nat}(hf:FC K0 m f as [] C Qf Ef)(hp:aq C S.cells D)(hK:c.K=K0 c.w.params)(hd:c.hd=none)(h:∀v C',Qf v C'→∃l,aq C' l D∧Q v ⟨S.loc,l⟩) (he:∀k C',Ef k C'→∃l,aq C' l D∧E k ⟨S.loc,l⟩) (hm:autoParam (m≤n) apM):xT c n S f as Q E:=λok X A s pos JB hA R=>by
 have R2:Rp c ((⟨S.loc,C⟩:SS).ext (D++X)) s:=by show R.perm (cells':=C++(D++X));rw[←aaw];exact(hp.perm.append_right X).symm
 have O6:c.In A m:=by let a1 a2 a3 a4:=jc hA;exact⟨a1,a2,by exact xa hm a3,by exact xb hm a4⟩
 have back:∀{C' l:Cells} {s':aas},aq C' l D→Rp c ((⟨S.loc,C'⟩:SS).ext (D++X)) s'→Rp c ((⟨S.loc,l⟩:SS).ext X) s':=λ{C' l s'} hl R'=>by show R'.perm (cells':=l++X);change(l++X).Perm (C'++(D++X));rw[←aaw];exact hl.perm.append_right X
 let e k s' C' z1 z2 z4:=hf.any (S:=⟨S.loc,C⟩) hK hd rfl JB (kws:=[]) rfl ok O6 R2 (λv s' C' z1 z3=>ak (h _ _ z3) λl y1 y2=>⟨⟨S.loc,l⟩,back y1 z1,y2⟩);let l y1 y2:=ak (he _ _ z4);refine⟨e,k,⟨S.loc,l⟩,rfl,z1.sub λa ha=>?_,back y1 z2,y2⟩;have hq:=(y1.perm.map (λx=>x.1)).mem_iff (a:=a);simp only[SS.ext,aaj,aax]at ha hq⊢;rcases ha with ha|ha;rcases hq.mp ha with q|q;exact .inl q;exact .inr (.inl q);exact .inr (.inr ha)
def zo(K:Frag)(C:Addr)(nm:Str)(f:Addr):Bool:=plainGet K C nm&&hasDictIn K C&&adf K (.ref C) nm==some (some (.ref f))&&isFn K (.ref f)&&ag_ K (.ref f) "__get__"==some (some (.builtin "function.__get__"))&&takesIn K (.ref f)==some false&& !(copiedNames.contains nm)
abbrev U_(c:Cx)(n:Nat)(nm:Str)(k:Addr→Addr→SS→Prop):AV→SS→Prop:=λa S1=>∃x C d es p f,a= .ref x∧At (x,.inst C d) S1.cells∧At (d,.dict es p) S1.cells∧zo c.K C nm f=true∧dU es nm=none∧k f x S1
theorem Hi{x C d p f:Nat}{nm:Str}(h1:At (x,.inst C d) S.cells)(h2:At (d,.dict es p) S.cells)(h3:zo c.K C nm f=true)(h4:dU es nm=none)(h:k f x S):U_ c n nm k (.ref x) S:=(yI x C d es p f ⟨rfl,h1,h2,h3,h4,h⟩)
theorem Rp.Va{S:SS}(R:Rp c (S.ext X) s)(t:Nat)(ht:s.toks≤t):Rp c (S.ext ((s.heap.objs.size,.raw (adX (.ref f) (.ref x)))::X)) {s with heap:=s.heap.push (adX (.ref f) (.ref x)),toks:=t}:=Rp.j0 (C:=[]) (C':=[(s.heap.objs.size,.raw (adX (.ref f) (.ref x)))]) R (λb o zz e=>aap _ e) (λp hp=>by obtain rfl:=aaL.mp hp;exact⟨_,aaG _ rfl,rfl,rfl⟩) (by simp) (λa ha=>by obtain rfl:a=s.heap.objs.size:=(by simpa using ha);exact .inr (aak _)) ht
theorem qX{nm:Str}{C p:Addr}{Q:Value→aas→Prop}(ok:c.Ok)(R:Rp c (S.ext X) s)(h1:At (x,.inst C d) S.cells)(h2:At (d,.dict es p) S.cells)(hb:zo c.K C nm f=true)(hn:dU es nm=none)(h:Rp c (S.ext ((s.heap.objs.size,.raw (adX (.ref f) (.ref x)))::X)) {s with heap:=s.heap.push (adX (.ref f) (.ref x)),toks:=s.toks+1}→Q (.ref s.heap.objs.size) {s with heap:=s.heap.push (adX (.ref f) (.ref x)),toks:=s.toks+1}):wpAny (model prog c.w) A (ahR (.ref x) nm true) Q E' s:=by
 let ents I IS:=ak (R.inst h1.mem h2.mem);let r hr rN:=ak (nZ IS nm);rw[hn]at rN;obtain rfl:r=none:=by cases r<;>first|rfl|cases rN
 unfold zo at hb;simp only[aaM,beq_iff_eq,ab3]at hb;obtain⟨⟨⟨⟨⟨⟨k1,k2⟩,k3⟩,k4⟩,k5⟩,k6⟩,k7⟩:=hb;have Xk:=fQ ok R;exact get_bind Xk I (ag3 k1).1 (findObj_fn k2 k3 k5 k6 k7 (by change lookIn nm (ah6 ents p)=_;rw[ail,hr])) (ag3 k1).2 (abI (fn_get (s:={s with toks:=s.toks+1}) Xk (beq_iff_eq.mp k4) (handed_on rfl (h (R.Va _ (aa2 _))))))
theorem qY{b:Addr}{vs:List Value}(ok:c.Ok)(hA:c.In A n)(R:Rp c (S.ext ((b,.raw (adX (.ref f) (.ref x)))::X)) s)(h:xT c n S f (.ref x::vs.map ab) Q E):wpAny (model prog c.w) A (call (.ref b) ([]++vs)) (QX c X λv=>Q (ab v)) (EX c X E) s:=by
 let o ho r2 z3:=bN (R.cells (b,.raw (adX (.ref f) (.ref x))) (aad _ (.head _)));subst r2;refine abI (ks_codeAny_call_bound ho (adu (h ok _ A s (.ref x::vs) rfl hA R) λr s' z=>?_));cases r with
 |ok f=>cases f with|ret v=>obtain⟨S',z1,z2⟩:=z;exact⟨S',z1.dH (Z:=[_]),z2⟩|next=>exact z|brk=>exact z|cont=>exact z
 |error y=>obtain⟨e,k,S',rfl,z1,z2,z3⟩:=z;exact⟨e,k,S',rfl,z1.ext (Z:=[_]),z2.dH (Z:=[_]),z3⟩
abbrev PW(c:Cx)(n:Nat)(Q:AV→SS→Prop)(E:EP)(f x:Addr):AV→SS→Prop:=λv S2=>U0 c n S2 v λvs S3=>xT c n S3 f (.ref x::vs) Q E
theorem EQ{e b:Expr}{nm:Str}{pos:Pos}(h:EE c n S e (U_ c n nm λf x S1=>fnIn c.K f=true∧EE c n S1 b (PW c n Q E f x) E) E)(he:autoParam (bo e=false) apR):EE c n S (.Call (.Attribute e nm ap) [.Starred b sp] [] pos) Q E:=by unfold EE;rw[afO,show ad6 e nm c.env (eval e c.env)=eval e c.env by cases e<;>first|rfl|cases he];refine W.bind (W.az h λv S1 h8=>cX h8 λx C d es p f h1 h2 h3 h4 h5 h6 h7=>W.bind (W.standAt ?_));obtain rfl:=aj h1;let ok X A s hA R:=.i;unfold ahA;rw[show afm ([Expr.Starred b sp].length+([]:List Keyword).length) (aeg pos (aci [.Starred b sp] c.env)) (agW pos (aeV [] c.env))=false from rfl];refine aac (abk (aac (qX ok R h2 h3 h4 h5 λR1=>aal (aac (aal ?_)))));refine ks_call (P:=MethP c.K s.heap.objs.size f (.ref x)) rfl (keeps_M h6) (ks_lone (aau (h7.run ok _ A _ hA R1) (λv s2 Vb=>?_) λz s2 ⟨e,k,S',y1,y2,y3,y4⟩=>⟨e,k,S',y1,y2.ext (Z:=[_]),y3.dH (Z:=[_]),y4⟩));obtain⟨S2,R2,h8⟩:=Vb;refine h8 v _ A s2 _ _ rfl ok R2 λvs s3 S3 R3 h9=>⟨?_,qY ok hA R3 h9⟩;let o ho r2 z3:=bN (R3.cells (s.heap.objs.size,.raw (adX (.ref f) (.ref x))) (aad _ (.head _)));subst r2;exact⟨ho,fQ ok R3⟩
abbrev PX(c:Cx)(n:Nat)(b:Expr)(Q:AV→SS→Prop)(E:EP)(f x:Addr):AV→SS→Prop:=λa S2=>EE c n S2 b (λv S3=>U0 c n S3 v λvs S4=>xT c n S4 f (.ref x::a::vs) Q E) E
theorem ER{e a b:Expr}{nm:Str}{pos:Pos}(h:EE c n S e (U_ c n nm λf x S1=>fnIn c.K f=true∧EE c n S1 a (PX c n b Q E f x) E) E)(he:autoParam (bo e=false) apR) (hp:autoParam (aV a=true) apR):EE c n S (.Call (.Attribute e nm ap) [a,.Starred b sp] [] pos) Q E:=by
 unfold EE;rw[afO,show ad6 e nm c.env (eval e c.env)=eval e c.env by cases e<;>first|rfl|cases he];refine W.bind (W.az h λv S1 h8=>cX h8 λx C d es p f h1 h2 h3 h4 h5 h6 h7=>W.bind (W.standAt ?_));obtain rfl:=aj h1;let ok X A s hA R:=.i;have XA:aci [a,.Starred b sp] c.env=(false,eval a c.env)::aci [.Starred b sp] c.env:=by cases a<;>first|rfl|cases hp
 unfold ahA;rw[show afm ([a,Expr.Starred b sp].length+([]:List Keyword).length) (aeg pos (aci [a,.Starred b sp] c.env)) (agW pos (aeV [] c.env))=false by rw[XA];rfl];refine aac (abk (aac (qX ok R h2 h3 h4 h5 λR1=>aal (aac (aal ?_)))));rw[XA];refine ks_call (P:=MethP c.K s.heap.objs.size f (.ref x)) rfl (keeps_M h6) (evalArgs_plain (spliced_cons (aau (h7.run ok _ A _ hA R1) (λu s2 Vc=>?_) λz s2 ⟨e,k,S',y1,y2,y3,y4⟩=>⟨e,k,S',y1,y2.ext (Z:=[_]),y3.dH (Z:=[_]),y4⟩)));obtain⟨S2,R2,h8⟩:=Vc;refine items_star (aau (h8.run ok _ A _ hA R2) (λv s3 ⟨S3,R3,h9⟩=>h9 v _ A s3 _ _ rfl ok R3 λvs s4 S4 R4 yP=>spliced_nil ?_) λz s2 ⟨e,k,S',y1,y2,y3,y4⟩=>⟨e,k,S',y1,y2.ext (Z:=[_]),y3.dH (Z:=[_]),y4⟩);rw[aaO];refine⟨?_,qY (vs:=u::vs) ok hA R4 yP⟩;let o ho r2 z3:=bN (R4.cells (s.heap.objs.size,.raw (adX (.ref f) (.ref x))) (aad _ (.head _)));subst r2;exact⟨ho,fQ ok R4⟩
end
end
section
namespace NX
theorem sz:Slot "list_iterator" "__getattribute__" "object.__getattribute__":=.of (owner:="object") (n:="__getattribute__") (by rw[ab7,abv];kernel_rfl) (by decide+kernel) (by decide+kernel) (by decide+kernel) (by first|exact .inl (by decide+kernel)|exact .inr (by decide+kernel)) (by rw[abo];kernel_rfl)
theorem BU:aeY table "object.__getattribute__"=some Builtin.«object.__getattribute__»:=acV '3'
theorem EU(a b:Value):aif "object.__getattribute__" ⟨[a,b],[]⟩:=by unfold aif;kernel_rfl
theorem EV:aeL (.type "list_iterator") "__next__"=pure (some (.builtin "list_iterator.__next__")):=by rw[ab7,abv];kernel_rfl
theorem typ:ah8 (.builtin "list_iterator.__next__")=pure (.type "wrapper_descriptor"):=by kernel_rfl
theorem sA:Slot "wrapper_descriptor" "__get__" "wrapper_descriptor.__get__":=.of (owner:="wrapper_descriptor") (n:="__get__") (by rw[ab7,abv];kernel_rfl) (by decide+kernel) (by decide+kernel) (by decide+kernel) (by first|exact .inl (by decide+kernel)|exact .inr (by decide+kernel)) (by rw[abo];kernel_rfl)
theorem BV:aeY table "wrapper_descriptor.__get__"=some Builtin.«wrapper_descriptor.__get__»:=acV '3'
theorem EW(a b c:Value):aif "wrapper_descriptor.__get__" ⟨[a,b,c],[]⟩:=by kernel_rfl
theorem JC:aeL (.type "wrapper_descriptor") "__set__"=pure none:=by rw[ab7,abv];kernel_rfl
theorem JD:aeL (.type "wrapper_descriptor") "__delete__"=pure none:=by rw[ab7,abv];kernel_rfl
theorem owner:(".".intercalate ("list_iterator.__next__".cutAt '.').dropLast)="list_iterator":=by rw[(by first|rfl|decide+kernel:"list_iterator.__next__".cutAt '.'=["list_iterator","__next__"])];decide+kernel
theorem EY:acU (.type "list_iterator") (.type (".".intercalate ("list_iterator.__next__".cutAt '.').dropLast))=pure true:=by rw[owner,abo];kernel_rfl
theorem bound(a:Value):ag5 "list_iterator.__next__" ⟨[a],[]⟩=pure ():=by kernel_rfl
theorem pz:plainId "list_iterator.__next__"=true:=by decide+kernel
def Dw(it:Addr):Obj:={cls:=.type "method-wrapper",data:=.fields #[.builtin "list_iterator.__next__",.ref it]}
def tP(l:Addr)(i:Nat):Obj:={cls:=.type "list_iterator",dict:=none,data:=.fields #[.ref l,.int i 0],slots:= #[]}
section
variable{w:World} {A:ads} {E:Value→aas→Prop} {h:Heap} {g:Array ach} {d:Drawn} {t:Nat} {os:abW} {a l i:Nat}
theorem get{R:ahu→aas→Prop}(hx:h.get? a=some (tP l i))(hq:R (.ok (.ret (.ref h.objs.size))) ⟨h.push (Dw a),g,d,t,os⟩):ad9 (model prog w) A (.call (.builtin "wrapper_descriptor.__get__") ⟨[.builtin "list_iterator.__next__",.ref a,.type "list_iterator"],[]⟩) R ⟨h,g,d,t,os⟩:=by have hT:(⟨h,g,d,t,os⟩:aas).TypeIs (.ref a) "list_iterator":=⟨_,hx,rfl⟩;have f8:=EY;refine aeX sA.plain BV (sA.check _ _ _ _ _ _ _ _ (typ:(⟨h,g,d,t,os⟩:aas).TypeIs (.builtin "list_iterator.__next__") "wrapper_descriptor") (EW _ _ _) ?_);unfold Dw at hq;repeat(any_goals(first|assumption|wp_step))
theorem entry{tk:Tok}{Q:ahb→aas→Prop}(hx:h.get? a=some (tP l i))(hq:Q (.done (.ret (.ref h.objs.size))) ⟨h.push (Dw a),g,d,t,os⟩):wpAny (model prog w) A (Builtin.«object.__getattribute__» ⟨[.ref a,.str "__next__" tk],[]⟩) Q E ⟨h,g,d,t,os⟩:=by
 have hT:(⟨h,g,d,t,os⟩:aas).TypeIs (.ref a) "list_iterator":=⟨_,hx,rfl⟩;have f4:=EV;have f5:=typ;have f6:=sA.lookup;have f7:=JC;have f8:=JD;have XB:h.get? a=some {cls:=.type "list_iterator",dict:=none,data:=.fields #[.ref l,.int i 0],slots:= #[]}:=hx;repeat(any_goals(first|assumption|wp_step))
 show get hx;repeat(any_goals(first|assumption|wp_step))
theorem attr{Q:Value→aas→Prop}{s:aas}(hx:s.heap.get? a=some (tP l i))(hq:Q (.ref s.heap.objs.size) {s with heap:=s.heap.push (Dw a),toks:=s.toks+1}):wpAny (model prog w) A (ahR (.ref a) "__next__" true) Q E s:=by
 obtain⟨h,g,d,t,os⟩:=s;have hT:∀t',(⟨h,g,d,t',os⟩:aas).TypeIs (.ref a) "list_iterator":=λzz=>⟨_,hx,rfl⟩;have f3:=sz.lookup;have f4:=sz.bind (.ref a);have XB:h.get? a=some {cls:=.type "list_iterator",dict:=none,data:=.fields #[.ref l,.int i 0],slots:= #[]}:=hx;clear hx;repeat(any_goals(first|assumption|exact hT _|((with_reducible change wpAny _ _ (call (Value.builtin "object.__getattribute__") _ _) _ _ _);refine aeM sz (hT _) BU ?_ (EU _ _);refine entry (XB) ?_)|wp_step))
 exact⟨_,rfl,aal hq⟩
theorem item{n:Nat}{Q:ahb→aas→Prop}{s:aas}(ho:s.heap.get? it=some (tP l i))(Vd:s.heap.get? l=some ol)(vN:ol.data= .seq vs n)(hx:vs[i]? =some v)(hQ:∀h',h'.get? it=some (tP l (i+1))→agm it s.heap h'→Q (.done (.ret v)) {s with heap:=h'}):wpAny (model prog w) A (Builtin.«list_iterator.__next__» ⟨[.ref it],[]⟩) Q E s:=by have hd:(tP l i).data= .fields #[.ref l,.int i 0]:=rfl;change wpAny _ _ (field (.ref it) 0>>=_) _ _ s;refine aac (acq ho hd (x:=.ref l) rfl ?_);change wpAny _ _ (if(abQ l==aa6)=true then _ else _) _ _ s;rw[if_neg (show¬((abQ l==aa6)=true)from aa1)];change wpAny _ _ (field (.ref it) 1>>=_) _ _ s;refine aac (acq ho hd (x:=.int i 0) rfl ?_);change wpAny _ _ (seqItems? (.ref l)>>=_) _ _ s;refine aac (ag4 Vd vN ?_);simp only[ade,hx];refine aac (acW ho hd (by simp) (aal (hQ _ ?_ (abx ..))));rw[abl _ ho (adF (adt hd _))];rfl
theorem fin{n:Nat}{Q:ahb→aas→Prop}{s:aas}(hh:A.handled=none)(ho:s.heap.get? it=some (tP l i))(Vd:s.heap.get? l=some ol)(vN:ol.data= .seq vs n)(hx:vs[i]? =none)(hE:∀h' e ob ar,agX it s.heap h'→s.heap.get? e=none→h'.get? e=some ob→ob.cls= .type "StopIteration"→ob.data= .fields ar→ar[1]? =some .none→E (.ref e) {s with heap:=h'}):wpAny (model prog w) A (Builtin.«list_iterator.__next__» ⟨[.ref it],[]⟩) Q E s:=by
 have hd:(tP l i).data= .fields #[.ref l,.int i 0]:=rfl;change wpAny _ _ (field (.ref it) 0>>=_) _ _ s;refine aac (acq ho hd (x:=.ref l) rfl ?_);change wpAny _ _ (if(abQ l==aa6)=true then _ else _) _ _ s;rw[if_neg (show¬((abQ l==aa6)=true)from aa1)];change wpAny _ _ (field (.ref it) 1>>=_) _ _ s;refine aac (acq ho hd (x:=.int i 0) rfl ?_);change wpAny _ _ (seqItems? (.ref l)>>=_) _ _ s;refine aac (ag4 Vd vN ?_);simp only[ade,hx];refine aac (aeN (aac (acW ho hd (by simp) ?_)));change wpAny _ _ (ai1 (.type "StopIteration") []>>=_) _ _ _;show aac;simp only[ai1,ahU];refine aac (abJ ?_ (by size_fits));refine aac (m:=afr _ _) (ab2 (a:=aa6) (by first|rfl|(simp only[afr];rfl)) ?_);refine abJ ?_ (by size_fits);dsimp only[raiseNew];refine aac (ahp ?_);first|rw[show A.in1.handled=none from hh]|rw[hh]
 refine aac (aal (ag1 ?_));refine hE _ _ _ _ (((abx ..).extBut.push _).push _) ?_ (aaG _ rfl) rfl rfl rfl;have aL:∀e,s.heap.objs.size≤e→s.heap.get? e=none:=λe he=>by cases q:s.heap.get? e with|none=>rfl|some o=>exact absurd (aa3 q) (aef.mpr he)
 show aL _;rw[acG];exact aab (aaz (abx ..).1.symm) (aa2 _)
end
end NX
section
variable{c:Cx} {n:Nat} {S:SS} {E:EP} {s:aas} {X:Cells}
theorem zp{l:Addr}(h:At (l,.list xs) S.cells)(hq:∀it,Q (.ref it) ⟨S.loc,(it,.raw (NX.tP l 0))::S.cells⟩):bM c n S (.bi "iter") [.ref l] Q E:=λf vs hf bx=>W.of λok X A s hA R=>by obtain rfl:=dT hf;let v r1 hv:=ak (cP bx);subst r1;obtain rfl:=aj hv;let vs hl hm:=ak (R.list h.mem);show call_function_entry (by decide+kernel) (by decide+kernel) kdk_entry_iter (kdk_args_iter _);refine aac (m:=someArgs "iter" 1 2 _) (ab2 (a:=[abQ l]) (by first|rfl|kernel_rfl!) ?_);change wpAny _ _ (ah9 (.ref l)>>=_) _ _ _;refine aac (afD hl ?_);exact aal ⟨_,rfl,⟨_,R.c0 (ao:=.raw (NX.tP l 0)) (tk:=s.toks) rfl ⟨rfl,rfl⟩,hq _⟩⟩
theorem Ve{id:Str}{p1 pos:Pos}{a:Expr}{as:List Expr}(h:EE c n S (.Call (.Name id p1) (a::as) [] pos) (λv S1=>∃it l i,v= .ref it∧At (it,.raw (NX.tP l i)) S1.cells∧∀b,Q (.ref b) ⟨S1.loc,(b,.raw (NX.Dw it))::S1.cells⟩) E):EE c n S (.Attribute (.Call (.Name id p1) (a::as) [] pos) "__next__" p) Q E:=by
 unfold EE;rw[ahz,show ad6 (.Call (.Name id p1) (a::as) [] pos) "__next__" c.env (eval (.Call (.Name id p1) (a::as) [] pos) c.env)=eval (.Call (.Name id p1) (a::as) [] pos) c.env from rfl];refine W.bind (W.az h λv S1 h8=>lV h8 λit l i h1 h2 h3=>W.bind (W.standAt (W.bind (W.holding (W.az (Q:=λr S2=>Q (ab r) S2) ?_ λr S2 k2=>?_)))));obtain rfl:=aj h1;exact .i λok X A s hA R=>by let o ho r2 z3:=bN (R.cells _ (aaf _ h2.mem));subst r2;exact NX.attr ho ⟨_,R.c0 (ao:=.raw (NX.Dw it)) (tk:=s.toks+1) rfl ⟨rfl,rfl⟩,h3 _⟩
 exact .i λok X A s hA R=>aac (adO (aal ⟨S2,R,k2⟩))
abbrev Y6(Q:AV→SS→Prop)(E:EP):AV→SS→Prop:=λv S1=>∃b it l k xs,v= .ref b∧At (b,.raw (NX.Dw it)) S1.cells∧At (l,.list xs) S1.cells∧((∃y cells',xs[k]? =some y∧aI it (.raw (NX.tP l k)) (.raw (NX.tP l (k+1))) S1.cells cells'∧Q y ⟨S1.loc,cells'⟩)∨(xs[k]? =none∧∃D,jq (it,.raw (NX.tP l k)) S1.cells D∧E (.type "StopIteration") ⟨S1.loc,D⟩))
theorem zq{v i:Expr}{ps pos:Pos}(hd:c.hd=none)(h:EE c n S (.Subscript v i ps) (Y6 Q E) E):EE c n S (.Call (.Subscript v i ps) [] [] pos) Q E:=by
 unfold EE;change W c n S (eval (.Subscript v i ps) c.env>>=λf=>callWith pos f [] (aeg pos (aci [] c.env)) (agW pos (aeV [] c.env))) _ _;refine W.bind (W.az h λf S1 h8=>qE h8 λb it l k xs h1 h2 h3 h4=>.i λok X A s hA R=>?_);obtain rfl:=aj h1;have hb:∀s':aas,Rp c (S1.ext X) s'→s'.heap.get? b=some (NX.Dw it):=λs' R'=>by let o ho r2 z3:=bN (R'.cells _ (aaf _ h2.mem));subst r2;exact ho
 let vs k0 hl bx:=cI (R.listAt h3.mem);refine aem (P:=λh=>h.get? b=some (NX.Dw it)) rfl (λhh X=>⟨.machine,.inr (.inl rfl),(aiJ (part:=none) X).andThen (ace rfl)⟩) (bV rfl (spliced_nil ⟨hb s R,?_⟩));refine abI (aec ?_);change wpAny _ A.in1 (ahY (.ref b) ⟨[],[]⟩) _ _ s;dsimp only[ahY];refine aac (ahE (hb s R) ?_);change wpAny _ A.in1 (ag5 "list_iterator.__next__" ⟨[.ref it],[]⟩>>=λzz=>again (.builtin "list_iterator.__next__" ⟨[.ref it],[]⟩)) _ _ s;rw[NX.bound];refine aac (aal (aal ⟨ad8 NX.pz _,acs entry_listiter_next ?_⟩));rw[acH NX.pz];rcases h4 with⟨y,cells',hy,hu,hq⟩|⟨hy,D,hp,hq⟩;let o ho r2 z3:=bN (R.cells _ (aaf _ hu.mem));subst r2;let w hw e:=ak (mV bx hy);refine NX.item ho hl rfl hw λh' hi hs=>⟨⟨S1.loc,cells'⟩,R.upd (h':=h') (tk:=s.toks) hu.app hs hi ⟨rfl,rfl⟩,?_⟩;change Q (ab w) _;rw[e];exact hq;have R1:Rp c ((⟨S1.loc,D⟩:SS).ext ((it,.raw (NX.tP l k))::X)) s:=R.perm (cells':=D++(it,.raw (NX.tP l k))::X) (by show aaS.trans;exact(hp.perm.append_right X).symm);let o ho r2 z3:=bN (R1.cells (it,.raw (NX.tP l k)) (aad _ (.head _)));subst r2;have hx:vs[k]? =none:=by rw[←bx,aag]at hy;cases q:vs[k]? with|none=>rfl|some w=>rw[←adG]at q;rw[q]at hy;cases hy
 let h' e ob ar hk hn he EZ Y7 h1:=NX.fin (show A.in1.handled=none from(In.hd (A:=A) hA hd:A.handled=none)) ho hl rfl hx;refine⟨e,_,⟨S1.loc,D⟩,rfl,⟨?_,λq=>?_,ob,ar,he,EZ,Y7,.inl h1⟩,(R1.y5 (h':=h') (tk:=s.toks) λb o hb e=>hk b o hb e),hq⟩;cases q:c.base.get? e with|none=>rfl|some o=>rw[R1.stays e o q]at hn;cases hn
 let p hp r2:=ak (aaH.mp q);subst r2;obtain⟨o,ho,_⟩:=R1.cells p (by rcases aax.mp hp with hp|hp;exact aaf _ hp;exact aad _ (.tail _ hp));rw[ho]at hn;cases hn
end
end
section
section
variable{c:Cx} {n:Nat} {S:SS} {E:EP} {s:aas} {X:Cells}
theorem BW(h:∀d,Q (.ref d) ⟨S.loc,(d,.map [] 0)::S.cells⟩):EE c n S (.Dict [] [] p) Q E:=.i λok X A s hA R=>wpAny_Dict_empty ⟨_,R.c0 (ao:=.map [] 0) (tk:=s.toks) rfl ⟨[],⟨#[],⟨rfl,rfl,rfl⟩,rfl,λzz he=>by simp at he,Pairs.nil,abn⟩,rfl⟩,h _⟩
theorem zr(h:∀a,Q (.ref a) ⟨S.loc,(a,.set (λzz=>false) 0)::S.cells⟩):bM c n S (.type "set") [] Q E:=λf vs hf bx=>W.of λok X A s hA R=>by obtain rfl:=bI hf;obtain rfl:=Bm bx;refine call_set_0 λled=>⟨_,R.c0 (ao:=.set (λzz=>false) 0) (tk:=s.toks) rfl (eY (#[]) 0 (.fresh 0 0 led) ⟨?_,rfl,?_,?_,?_,?_,rfl⟩),h _⟩;exact⟨rfl,rfl,rfl⟩;intro e he;simp at he;intro k;simp;decide;rfl
theorem E0{e:Expr}{pos:Pos}(h:EE c n S e (nD c n "dict" "dict.items" args Q E) E)(he:autoParam (bo e=false) apR)(hs:autoParam (args.all aV=true) apR)(hlen:autoParam ((decide (args.length<30))=true) apR)(bw:autoParam ((ap.endLine==pos.line)=true) apR):EE c n S (.Call (.Attribute e "items" ap) args [] pos) Q E:=jr aeo agf PySem.F.type_dict_items h he hs hlen bw
theorem m_values{e:Expr}{pos:Pos}(h:EE c n S e (nD c n "dict" "dict.values" args Q E) E)(he:autoParam (bo e=false) apR)(hs:autoParam (args.all aV=true) apR)(hlen:autoParam ((decide (args.length<30))=true) apR)(bw:autoParam ((ap.endLine==pos.line)=true) apR):EE c n S (.Call (.Attribute e "values" ap) args [] pos) Q E:=jr aeo afW PySem.F.type_dict_values h he hs hlen bw
theorem Vf{v:Expr}(h:EE c n S v Q E):EE c n S (.JoinedStr [v] p) Q E:=.i λok X A s hA R=>wpAny_JoinedStr_one (h.run ok X A s hA R)
abbrev Y8(Q:AV→SS→Prop):AV→SS→Prop:=λv S1=>∃x,v= .str x∧(acQ x).length≤1000∧∀y,Q (.str y) S1
theorem bg(a b:Str):(a++b).length=a.length+b.length:=by change(a.cps++b.cps).size=_;rw[aet];rfl
theorem Vg{a b:Str}{k':Nat}{e:Expr}{pa pf pb:Pos}(ha:a.length≤1000)(hb:b.length≤1000)(h:EE c n S e (Y8 Q) E):EE c n S (.JoinedStr [.Constant (.str a) k pa,.FormattedValue e 114 none pf,.Constant (.str b) k' pb] p) Q E:=.i λok X A s hA R=>by
 have big:∀{j:Nat},j≤3000→j≤ac_:=λh=>aab h '2';show wpAny_JoinedStr;refine Constant_str (ba a s.toks ⟨rfl,big (by rw[bg];change 0+_≤_;exact NS ha),?_⟩);refine wpAny_FormattedValue_repr (aau (h.run ok X A _ hA (R.toks (k:=s.toks+1))) (λv s1 JE=>?_) λzz zz z=>z);obtain⟨S1,R1,x,hv,hx,hq⟩:=JE;let t r1:=eE (aD hv);subst r1;refine pyReprObj_str (wpAny_handedOn ?_ ?_ (big (by exact aab hx (aae rfl)))) (big (by exact aab hx (aae rfl)));all_goals
  refine ba _ _ ⟨rfl,big (by rw[bg,bg];change 0+_+_≤_;exact NW ha hx),?_⟩
  refine Constant_str (ba b _ ⟨rfl,big (by rw[bg,bg,bg];change 0+_+_+_≤_;exact GD ha hb hx),?_⟩)
  refine⟨big (by rw[bg,bg,bg];change 0+_+_+_≤_;exact GD ha hb hx),S1,?_,hq _⟩
  first|exact R1.toks (k:=s1.toks+1+1+1)|exact R1.toks (k:=s1.toks+1+1+1+1)|exact R1.toks (k:=s1.toks+1+1)
end
end
section
variable{es:Array abN} {Q:FL→SS→Prop}
section
variable{c:Cx} {n:Nat} {S:SS} {E:EP} {s:aas} {X:Cells}
def pA(es:Array abN):Bool:=es.all λe=>match e.key with| .str _ _=>true|_=>false
theorem wN(h:pA es=true):StrKeys es:=λe he=>by unfold pA at h;rw[Array.all_eq_true_iff_forall_mem]at h;have:=h e he;cases q:e.key with|str n t=>exact ba n t rfl|_=>rw[q]at this;cases this
theorem sB{B:String}{C N:Addr}{nm q:Str}{bs bm:List Value}{hdct ab:Bool}{sn:List Str}{sub:List Value}{col:Option Bool}{dd od:Option Addr}{k0 k1 k2 k3 k5:Option Value}{oc:Value}{osl:Array (Option Value)}(FB:ExcBaseFacts B newId initId bm) (hC:c.K.lookup C=some (excClassObj nm q C N bs bm hdct sn sub ab col dd k0 k1 k2 k3 k5 newId)) (hN:c.K.lookup N=some ⟨oc,od,.dict es ep,osl⟩) (Y9:pA es=true) (Y_:nsFind es "__init__"=none){pos:Pos} (hd:c.hd=none)(h:EE c n S (.Name x np) (λf S1=>f= .ref C∧EA c n S1 args (λas S2=>as.length≤lim∧E (.ref C) S2) E) E) (hs:autoParam (args.all aV=true) apR):ES c n S (.Raise (some (.Call (.Name x np) args [] cpos)) none pos) Q E:=.i λok X A s hA R=>by refine wpAny_Raise_call_subT (C:=C) (nm:=nm) (q:=q) (N:=N) (bs:=bs) (bm:=bm) (hdct:=hdct) (sn:=sn) (sub:=sub) (ab:=ab) (col:=col) (dd:=dd) (k0:=k0) (k1:=k1) (k2:=k2) (k3:=k3) (k5:=k5) FB (mN:=nsFind es) FB.hasBase (In.hd hA hd) (bF hs) Y_ (h.st ok X A s hA R λf s1 S1 R1 h8=>eA h8 λh1 h2=>⟨aj h1,bV (bF hs) (aau ((h2 cpos).run ok X A s1 hA R1) (λvs s2 h8=>h8.el λS2 R2 h7=>eA h7 λh3 h4=>⟨rfl,?_,fQ ok R2 _ _ hC,(eY _ _ _ ⟨fQ ok R2 _ _ hN,rfl,wN Y9,λzz=>rfl⟩),.base,λh' e hm=>?_⟩) λzz zz x=>x)⟩);rw[aaa]at h3;exact ax h3;let t ht z2 z3:=bN hm.there;let a b:=eA (R2.newExc hm.keeps hm.new ht rfl rfl rfl);exact⟨e,_,S2,rfl,b,a,h4⟩
end
end
section
section
variable{c:Cx} {n:Nat} {S:SS} {E:EP}
theorem sC(h:EE c n S value (subQ c n "dict" slice Q E) E)(hs:autoParam (jk slice=true) apR):EE c n S (.Subscript value slice p) Q E:=rS "dict" "dict.__getitem__" PySem.F.slot_dict_getitem.lookup h hs
theorem d6(h:EE c n S value (subQ c n "list" slice Q E) E)(hs:autoParam (jk slice=true) apR):EE c n S (.Subscript value slice p) Q E:=rS "list" "list.__getitem__" PySem.F.slot_list_getitem.lookup h hs
theorem wO(h:EE c n S value (subQ c n "tuple" slice Q E) E)(hs:autoParam (jk slice=true) apR):EE c n S (.Subscript value slice p) Q E:=rS "tuple" "tuple.__getitem__" PySem.F.slot_tuple_getitem.lookup h hs
theorem JF(h:EE c n S value (subQ c n "str" slice Q E) E)(hs:autoParam (jk slice=true) apR):EE c n S (.Subscript value slice p) Q E:=rS "str" "str.__getitem__" afU.lookup h hs
end
theorem E1:acU (.type ((afp "StopIteration").elim "type" λx=>x.metatype)) (.type "tuple")=pure false:=by rw[abo];kernel_rfl
theorem BX{K:Frag}:I7 w K (.type "StopIteration") (.type "StopIteration") true:=ut (X:="StopIteration") (T:="StopIteration") (b:=true) ST.base E1 ST.self
theorem PY:acU (.type ((afp "ValueError").elim "type" λx=>x.metatype)) (.type "tuple")=pure false:=by rw[abo];kernel_rfl
theorem E2:acU (.type "ValueError") (.type "BaseException")=pure true:=by rw[abo];kernel_rfl
theorem E3:acU (.type "ValueError") (.type "ValueError")=pure true:=by rw[abo];kernel_rfl
theorem JG{K:Frag}:I7 w K (.type "ValueError") (.type "ValueError") true:=ut (X:="ValueError") (T:="ValueError") (b:=true) E2 PY E3
end
section
variable{xs:List Str} {use:Option (Value→Sem Unit)} {Q':Value→aas→Prop} {l':Addr→List (Str×Option AV)}
def zt(K:Frag)(p:Str×Value):Prop:=(p.1==("__debug__":Str))=false∧(nsIn K ab9 p.1=some (some p.2)∨(nsIn K ab9 p.1=some none∧ae8 p.1=some p.2∧p.1≠"__name__"))
section
variable{c:Cx} {n:Nat} {S:SS} {E:EP} {s:aas} {X:Cells}
variable{elt:Expr} {gens:List ad5} {scope:Scope} {pos:Pos} {j:Nat} {t iter:Expr} {ifs:List Expr} {P:Nat→Obj→Prop} {D:Addr} {cl:List (Str×Addr)} {gl:List (Str×Value)}
theorem Cx.zu(ok:c.Ok)(hc:c.comp=false)(hk:scope.kind= .function)(Aj:∀p∈gl,zt c.K p∧(aex scope c.env).names.lookup p.1=some .globalImplicit)(hL:c.base.objs.size≤L):(c.inner scope cl gl m L).Ok where
 eH:=ok.eH
 eL:=rfl
 eg:=ok.eg
 eb:=ok.eb
 kind:=hk
 fr:=λh=>nomatch h
 above:=hL
 aC:=λf hf=>by
  rcases aai.mp hf with rfl|hf
  ·exact⟨(ok.fr hc).trans (congrArg some ok.eL.symm),by rw[ok.kind];decide⟩
  ·exact ok.aC f hf
 gl:=λp hp=>by
  obtain⟨⟨h1,h2⟩,h3⟩:=Aj p hp
  exact⟨h3,h1,h2.imp (λq=>mg_of ok.eH.fg ok.eH.g q) λh8=>pX h8 λa b d=>⟨aiE ok.eH.fg ok.eH.g a,b,d⟩⟩
def LG(w:World)(t:Expr)(P:Nat→Obj→Prop):Prop:=∀(A:ads) (s:aas) (it:Addr) (o:Obj) (i:Nat) (v:Value) (Q:Unit→aas→Prop) (E:Value→aas→Prop),s.heap.get? it=some o→P i o→Q () s→wpAny (model prog w) A (aea t (.ref it) v) Q E s
theorem eR:LG w (.Name x p) P:=λzz zz zz zz zz zz zz zz zz zz h=>aal h
def LP(c:Cx)(n:Nat)(S:SS)(e:Expr)(j:Nat)(P:Nat→Obj→Prop)(D:Addr)(Q:SS→Prop):Prop:=c.Ok→∀X A s it,c.In A n→Rp c (S.ext ((it,.obj (P 0))::X)) s→ad9 (model prog c.w) A (.compLoop e j (.ref it) (.ref D) c.env) (λr s'=>r= .ok .next∧QS c X Q s') s
def BD(c:Cx)(n:Nat)(S:SS)(elt:Expr)(gens:List ad5)(scope:Scope)(pos:Pos)(j:Nat)(D:Addr)(Q:SS→Prop):Prop:=(gens[j+1]? =none∧EE c n S elt (λv S4=>∃ys cells',aI D (.list ys) (.list (ys++[v])) S4.cells cells'∧ys.length≤lim∧Q ⟨S4.loc,cells'⟩) hW)∨(∃t2 xU PZ,gens[j+1]? =some ⟨t2,xU,PZ,0⟩∧(∀x,aa4 xU c.env x=pure x)∧EE c n S xU (λu S4=>∃P2,(∀u',ab u'=u→wi c n S4 u' P2)∧Bq c.w P2∧LP c n S4 (.ListComp elt gens scope pos) (j+1) P2 D Q) hW)
theorem j5{R:ahu→aas→Prop}{it:Value}(hg:gens[j]? =some ⟨t,iter,ifs,0⟩)
  (h0:ad9 (model prog c.w) A (.compLoop (.ListComp elt gens scope pos) j it acc env) R s)
  (h:wpAny (model prog c.w) A (ah9 it) (λXC s'=>ad9 (model prog c.w) A (.compLoop (.ListComp elt gens scope pos) j XC acc env) R s') (aiB (model prog c.w) A env λx s'=>R (.error x) s') s):
  ad9 (model prog c.w) A (.compStart (.ListComp elt gens scope pos) j it acc env) R s:=by
 refine aec ?_
 change wpAny _ _ ((compStart (.ListComp elt gens scope pos) j it acc env).onRaise (λx=>do ael x env;agl theWindowsPlace)) _ _ s
 refine wpAny_notedAt ?_
 unfold compStart
 rw[show(clausesOf (.ListComp elt gens scope pos))[j]? =some ⟨t,iter,ifs,0⟩from hg]
 refine qF (by with_unfolding_all exact aa1) ?_
 refine aac (wpAny_askSetting (wpAny_ite ?_))
 split
 ·exact aac (aal (aal (aiX rfl h0)))
 ·exact aac (aeN (aac (abw (aac (aau h (λXC s' h'=>aal (aiX rfl h')) λzz zz x=>x)))))
theorem LP.loop{Q:SS→Prop}(hg:gens[j]? =some ⟨t,iter,ifs,0⟩)(lg:LG c.w t P)(xs:List AV)(Inv:Nat→SS→Prop)(h0:Inv 0 S)
  (step:∀i y S1,xs[i]? =some y→Inv i S1→xo c n S1 P i y∧AS c n S1 t y (λS2=>TS c n S2 ifs (λok S3=>if ok=true then BD c n S3 elt gens scope pos j D (Inv (i+1))else Inv (i+1) S3) hW) hW)
  (fin:∀S1,Inv xs.length S1→xq c n S1 P xs.length∧Q S1):LP c n S (.ListComp elt gens scope pos) j P D Q:=λok X A s it hA R=>by
 refine codeAny_loop rfl (λk s=>∃i S1,k=xs.length-i∧i≤xs.length∧Rp c (S1.ext ((it,.obj (P i))::X)) s∧Inv i S1) (λk s JH=>?_) xs.length (ba 0 S ⟨rfl,aaD _,R,h0⟩)
 refine lU JH λi S1 hk hi R inv=>?_
 change wpAny _ A ((aiL (.ListComp elt gens scope pos) j (.ref it) (.ref D) c.env).onRaise (λx=>do ael x c.env;aeb x)) _ _ s
 refine wpAny_noted ?_
 unfold aiL
 simp only[hg]
 refine ak (R.cells (it,.obj (P i)) (aad _ (.head _))) λo ho hP=>?_
 cases hx:xs[i]? with
 |none=>
  have:xs.length=i:=by have:=ac2.mp hx;exact aaI this hi
  subst this
  refine eA (fin S1 inv) λf1 f2=>?_
  refine aac (abw (aac (f1 ok _ A s it o _ _ hA R ho hP λh₃ tk₃ BY iR=>?_)))
  exact aal ⟨rfl,S1,R.y5 (h':=h₃) (tk:=tk₃) (λb o' hb e=>BY b o' hb e) iR,f2⟩
 |some y=>
  refine eA (step i y S1 hx inv) λg1 g2=>?_
  have dc:i<xs.length:=(aav.mp hx).1
  refine aac (abw (aac (g1 ok _ A s it o _ _ hA R ho hP λv h₃ o₃ tk₃ hv BY Hj Hk iR=>?_)))
  have R6:Rp c (S1.ext ((it,.obj (P (i+1)))::X)) {s with heap:=h₃,toks:=tk₃}:=R.upd (x:=.obj (P i)) (y:=.obj (P (i+1))) aI.mid BY Hj Hk iR
  refine aac (lg A _ it o₃ (i+1) v _ _ Hj Hk ?_)
  refine aac (aau ((g2 v hv).run ok _ A _ hA R6) (λzz s4 JI=>?_) λzz zz hx=>za hx)
  obtain⟨S4,R4,k4⟩:=JI
  refine aac (aau (k4.run ok _ A _ hA R4) (λb s5 JJ=>?_) λzz zz hx=>za hx)
  obtain⟨S5,R5,k5⟩:=JJ
  cases b with
  |false=>exact aal ⟨rfl,_,by exact DG hk dc,i+1,S5,rfl,by exact dc,R5,k5⟩
  |true=>
   rw[if_pos rfl]at k5
   have done:∀s' S',Rp c (S'.ext ((it,.obj (P (i+1)))::X)) s'→Inv (i+1) S'→∃m,m<k∧∃i S1,m=xs.length-i∧i≤xs.length∧Rp c (S1.ext ((it,.obj (P i))::X)) s'∧Inv i S1:=λs' S' R' k'=>⟨_,by exact DG hk dc,i+1,S',rfl,by exact dc,R',k'⟩
   rcases k5 with⟨hn,k5⟩|⟨t2,xU,PZ,hn,Lu,k5⟩
   ·simp only[hn]
    refine aac (aac (aau (k5.run ok _ A _ hA R5) (λz s6 JK=>?_) λzz zz hx=>za hx))
    obtain⟨S6,R9,ys,cells',hu,Dv,Vh⟩:=JK
    refine gS (R9.cells (D,.list ys) (aaf _ hu.mem)) λoD Za vs kD r4 bx=>?_
    obtain rfl:=r4
    refine aac (af4 ⟨kD,Za⟩ (λh₆ h8 P_=>eE h8 λk₆ Qa=>?_) (ax (by rw[aw bx];exact Dv)))
    have R10:Rp c ((⟨S6.loc,cells'⟩:SS).ext ((it,.obj (P (i+1)))::X)) {s6 with heap:=h₆}:=R9.upd (tk:=s6.toks) (x:=.list ys) (y:=.list (ys++[ab z])) hu.app P_ Qa (ba _ _ ⟨rfl,by rw[aeu,aaj,bx];rfl⟩)
    exact aal (aal ⟨rfl,done _ _ R10 Vh⟩)
   ·simp only[hn]
    refine aac (aau (k5.run ok _ A _ hA R5) (λz s6 JL=>?_) λzz zz hx=>za hx)
    obtain⟨S6,R9,P2,hit,JM,Zb⟩:=JL
    refine aac (abw ?_)
    with_reducible refine qF (by first|decide|simp) ?_
    refine aac (ab2 (Lu z) ?_)
    refine aac (abk (hit z rfl ok _ A s6 _ _ hA R9 λh7 RI o2 XD Zd Vi XE XF Vj=>?_))
    have R7:Rp c (S6.ext ((RI,.obj (P2 0))::(it,.obj (P (i+1)))::X)) {s6 with heap:=h7,toks:=XD}:=(R9.alloc (tk:=XD) (ao:=.obj (P2 0)) Zd Vi XE XF Vj).perm (cells':=S6.cells++(RI,.obj (P2 0))::(it,.obj (P (i+1)))::X) aaS
    have loop:=Zb ok _ A _ RI hA R7
    refine aac (wpAny_runOwn (j5 (c:=c) hn (adu loop λr s' hr=>?_) (JM A _ RI o2 0 _ _ XE XF (adu loop λr s' hr=>?_))))
    all_goals
     obtain⟨rfl,S8,R8,k8⟩:=hr
     exact aal ⟨rfl,done _ _ R8 k8⟩
structure CF(c:Cx)(scope:Scope)(cl:List (Str×Addr))(gl:List (Str×Value))(xs:List Str):Prop where
 rL:aeO scope c.env=pure cl
 cell:∀y∈scope.names,y.2≠.cell
 kind:scope.kind= .function
 names:∀y∈scope.names,y.2= .local→scope.names.lookup y.1=some .local
 XG:∀x∈xs,scope.names.lookup x=some .local∧(x==("__debug__":Str))=false
 nd:xs.Nodup
 glob:∀p∈gl,zt c.K p∧(aex scope c.env).names.lookup p.1=some .globalImplicit
theorem uQ(ok:c.Ok)(hc:c.comp=false)(hA:c.In A n)(R:Rp c (S.ext X) s)(F:CF c scope cl gl xs)(hs:∀x,aa4 iter c.env x=pure x)(h:wpAny (model prog c.w) A (eval iter c.env) (λv s1=>∃S1,Rp c (S1.ext X) s1∧∃P,wi c n S1 v P∧Bq c.w P∧∀D,∃Qc:SS→Prop,(∀m L,LP (c.inner scope cl gl m L) n ⟨xs.map λx=>(x,none),(D,.list [])::S1.cells⟩ (.ListComp elt (⟨t,iter,ifs,0⟩::jW) scope pos) 0 P D Qc)∧∀L C s' l,Qc ⟨l,C⟩→(∃m,Rp c ((⟨S1.loc,C⟩:SS).ext ((L,.v4 m)::X)) s')→compPost (model prog c.w) A E' use Q' (.ref D) L (.ok .next) s') E' s):wpAny (model prog c.w) A (comprehension (.ListComp elt (⟨t,iter,ifs,0⟩::jW) scope pos) scope c.env p' (newList []) false (eval iter c.env) use) Q' E' s:=by
 refine wpAny_comprehension_free rfl hs F.rL F.kind F.names (aau h (λv s1 JN=>?_) λzz zz z=>z);let S1 R1 P hit JM hQ:=IG JN;let h₁ it o tk hk hle ho hP iR:=hit ok X A s1 _ _ hA R1;have R2:=R1.alloc (tk:=tk) (ao:=.obj (P 0)) hk hle ho hP iR;refine ahr (items:=[]) ?_ (aaD _);have R3:=R2.c0 (S:=⟨S1.loc,(it,.obj (P 0))::S1.cells⟩) (X:=X) (ao:=.list []) (o:={cls:=.type "list",data:=.seq ([]:List Value).toArray}) (tk:=tk) rfl (ba _ _ ⟨rfl,rfl⟩);let m hn hm:=ak R3.ns;refine aeW F.cell (by intro y hy;simp at hy) (λh₂ lR Pp=>?_) F.kind;dsimp only at lR Pp⊢;generalize hL:(h₁.push {cls:=.type "list",data:=.seq ([]:List Value).toArray}).objs.size=L at lR Pp⊢;generalize hD:h₁.objs.size=D at R3⊢;have Qb:∀b o,(h₁.push {cls:=.type "list",data:=.seq ([]:List Value).toArray}).get? b=some o→h₂.get? b=some o:=λb o e=>(Pp.2 b (by rw[←hL];exact abf (aa3 e))).trans (aap _ e);have R4:=R3.enter (fx:={c.fx with gl:=gl,cs:=aex scope c.env}) (loc:=xs.map λx=>(x,none)) (h₁:=h₂) (tk:=tk+([]:List (Str×Value)).length) ok hn Qb (by rw[hL];exact lR) (by intro p hp;let x hx r2:=ak (aaH.mp hp);subst r2;rfl) (by rw[aba];exact(aen xs).symm▸F.nd) (by intro y hy;rw[aba]at hy;let x hx r2:=ak (aaH.mp hy);subst r2;exact⟨lookup_relabel_local (F.XG x hx).1,(F.XG x hx).2⟩) (aa5 _ _);rw[(by unfold Cx.kept;rw[hc]:c.kept m X=X)]at R4;dsimp only at R4;rw[hL]at R4;have R5:=(R4.Ex (cl:=cl) hc).perm (cells':=((D,.list [])::S1.cells)++((it,.obj (P 0))::X)) (by change((D,AO.list [])::(S1.cells++(it,AO.obj (P 0))::X)).Perm ((D,AO.list [])::(it,AO.obj (P 0))::(S1.cells++X));exact abB _ aaS);have Ze:c.base.objs.size≤L:=by rw[←hL,acG];let m0 Zf z2:=ak R2.ns;exact aaN (aaC ok.above (aeC Zf.lt))
 have Dp:=Cx.zu (cl:=cl) (m:=m) ok hc F.kind F.glob Ze;let Qc q1 q2:=ak (hQ D);have loop:=q1 m L Dp X A _ it (Cx.Bs (scope:=scope) (cl:=cl) (gl:=gl) (m:=m) (L:=L) hA hc) R5;have done:∀r s',(r= .ok .next∧QS (c.inner scope cl gl m L) X Qc s')→compPost (model prog c.w) A E' use Q' (.ref D) L r s':=by intro r s' JO;obtain⟨rfl,⟨l,C⟩,R8,k8⟩:=JO;let m₃ Rf:=eE (Rp.outer (S:=S1.ext X) ok R1 hm R8);exact q2 L C s' l k8 ⟨m₃,Rf.perm (cells':=C++(L,.v4 m₃)::X) aaS⟩
 change ad9 _ A (.compStart (.ListComp elt (⟨t,iter,ifs,0⟩::jW) scope pos) 0 (.ref it) (.ref D) (aiK scope cl L c.env)) _ _;show j5 (c:=c) (gens:=⟨t,iter,ifs,0⟩::jW) (j:=0) rfl (adu loop done);let o' jh tL:=ak (R5.cells (it,.obj (P 0)) (aad _ (.head _)));exact JM A _ it o' 0 _ _ jh tL (adu loop done)
def CQ(c:Cx)(n:Nat)(scope:Scope)(cl:List (Str×Addr))(gl:List (Str×Value))(xs:List Str)(elt:Expr)(gens:List ad5)(pos:Pos)(Q:AV→SS→Prop)(v:AV)(S1:SS):Prop:=∃P,(∀u,ab u=v→wi c n S1 u P)∧Bq c.w P∧∀D m L,LP (c.inner scope cl gl m L) n ⟨xs.map λx=>(x,none),(D,.list [])::S1.cells⟩ (.ListComp elt gens scope pos) 0 P D λS2=>Q (.ref D) ⟨S1.loc,S2.cells⟩
theorem CQ.go{scope cl gl xs elt gens pos v S1 P}(h1:∀u,ab u=v→wi c n S1 u P)(h2:Bq c.w P)(h:∀D m L,LP (c.inner scope cl gl m L) n ⟨xs.map λx=>(x,none),(D,.list [])::S1.cells⟩ (.ListComp elt gens scope pos) 0 P D λS2=>Q (.ref D) ⟨S1.loc,S2.cells⟩):CQ c n scope cl gl xs elt gens pos Q v S1:=⟨P,h1,h2,h⟩
def CA(c:Cx)(n:Nat)(scope:Scope)(cl:List (Str×Addr))(gl:List (Str×Value))(xs:List Str)(y:Str)(elt:Expr)(gens:List ad5)(pos:Pos)(Q:FL→SS→Prop)(v:AV)(S1:SS):Prop:=∃P,(∀u,ab u=v→wi c n S1 u P)∧Bq c.w P∧∀D,∃l',dA y (.ref D) S1.loc l'∧∀m L,LP (c.inner scope cl gl m L) n ⟨xs.map λx=>(x,none),(D,.list [])::S1.cells⟩ (.ListComp elt gens scope pos) 0 P D λS2=>Q .next ⟨l',S2.cells⟩
theorem CA.go{scope cl gl xs y elt gens pos v S1 P}{Q:FL→SS→Prop}(h1:∀u,ab u=v→wi c n S1 u P)(h2:Bq c.w P)(h3:∀D,dA y (.ref D) S1.loc (l' D))(h:∀D m L,LP (c.inner scope cl gl m L) n ⟨xs.map λx=>(x,none),(D,.list [])::S1.cells⟩ (.ListComp elt gens scope pos) 0 P D λS2=>Q .next ⟨l' D,S2.cells⟩):CA c n scope cl gl xs y elt gens pos Q v S1:=⟨P,h1,h2,λD=>⟨_,h3 D,h D⟩⟩
theorem fD(F:CF c scope cl gl xs)(h:EE c n S iter (CQ c n scope cl gl xs elt (⟨t,iter,ifs,0⟩::jW) pos Q) E)(hs:autoParam (∀x,aa4 iter c.env x=pure x) apR) (hc:autoParam (c.comp=false) apA):EE c n S (.ListComp elt (⟨t,iter,ifs,0⟩::jW) scope pos) Q E:=.i λok X A s hA R=>by rw[eval_ListComp];refine uQ (use:=none) ok hc hA R F hs (aau (h.run ok X A s hA R) (λv s1 h8=>h8.el λS1 R1 h7=>bN h7 λP h1 h2 h3=>⟨S1,R1,P,h1 v rfl,h2,λD=>⟨λS2=>Q (.ref D) ⟨S1.loc,S2.cells⟩,h3 D,λL C s' l inv h8=>eE h8 λm R2=>?_⟩⟩) λzz zz z=>z);let o ho es ep r:=t6 (R2.cells (L,.v4 m) (aad _ (.head _)));refine⟨m,(eY o es ep ⟨ho,r⟩),λh' rX=>⟨_,R2.y5 (h':=h') (tk:=s'.toks) (λb o hb e=>rX.extBut b o hb e),inv⟩⟩
theorem my{spos:Pos}{Q:FL→SS→Prop}(F:CF c scope cl gl xs)
  (h:EE c n S iter (CA c n scope cl gl xs y elt (⟨t,iter,ifs,0⟩::jW) pos Q) E)
  (Zg:ac6 (.ListComp elt (⟨t,iter,ifs,0⟩::jW) scope pos) (some (.Name y py)) spos.line c.env=pure true)
  (hs:autoParam (∀x,aa4 iter c.env x=pure x) apR) (hc:autoParam (c.comp=false) apA):ES c n S (.Assign [.Name y py] (.ListComp elt (⟨t,iter,ifs,0⟩::jW) scope pos) spos) Q E:=.i λok X A s hA R=>by
 rw[exec_Assign_Name_used _ _ _ _ Zg]
 refine aac (abw (aac ?_))
 change wpAny _ A (do let _←comprehension (.ListComp elt (⟨t,iter,ifs,0⟩::jW) scope pos) scope c.env _ (newList []) false (eval iter c.env) (some (agr (.Name y py) c.env))) _ _ s
 refine aac (aau (uQ (use:=some (agr (.Name y py) c.env)) (Q':=QX c X λzz=>Q .next) ok hc hA R F hs
  (aau (h.run ok X A s hA R) (λv s1 h8=>h8.el λS1 R1 h7=>bN h7 λP h1 h2 h4=>⟨S1,R1,P,h1 v rfl,h2,λD=>?_⟩) λzz zz z=>z)) (λzz s' hq=>aal (aal hq)) λzz zz e=>e)
 refine ak (h4 D) λl' h3 h5=>?_
 refine⟨λS2=>Q .next ⟨l',S2.cells⟩,h5,λL C s' l inv h8=>eE h8 λm R2=>?_⟩
 change wpAny _ A (agr (.Name y py) c.env (.ref D)) _ _ _
 refine aev (aau ((eZ (c:=c) (n:=n) (S:=⟨S1.loc,C⟩) (x:=y) (v:=.ref D) (E:=hW) (Q:=λzz S'=>S'=⟨l',C⟩) h3 rfl).run ok _ A _ hA R2) (λzz s4 JP=>?_) λzz zz hx=>za hx)
 obtain⟨S4,R4,e4⟩:=JP
 subst e4
 refine t6 (R4.cells (L,.v4 m) (aad _ (.head _))) λo ho es ep r=>?_
 refine⟨m,(eY o es ep ⟨ho,r⟩),λh' rX=>⟨_,R4.y5 (h':=h') (tk:=s4.toks) (λb o hb e=>rX.extBut b o hb e),inv⟩⟩
end
end
section
variable{s:aas} {Q:AV→Cells→Prop} {E:Value→Cells→Prop} {args:List AV}
structure qZ(K:Frag)(fx:Fx)(fd:aaP)(body:List Stmt):Prop where
 obj:∃oc od osl,K.lookup fx.a=some ⟨oc,od,.func fd,osl⟩
 code:codeIn K fd.code fd.qualname=true
 qual:fd.qualname=fx.cn
 cs:fd.scope=fx.cs
 cd:fd.code=fx.cd
 glob:fd.globals=ab9
 rL:fd.closure=[]
 v8:fd.builtins=abg
 body:fd.body= .stmts body
 co:fd.scope.isCoroutine=false
 gen:fd.scope.isGenerator=false
 kind:fd.scope.kind= .function
structure mz(fx:Fx)(binds:List (Str×Value))(loc:List (Str×Option AV))(cs:List (Str×Nat×Option AV)):Prop where
 nd:(loc.map (λx=>x.1)).Nodup
 kinds:∀x∈loc.map (λx=>x.1),fx.cs.names.lookup x=some .local∧(x==("__debug__":Str))=false
 kb:∀L,∀y∈binds,fx.cs.names.lookup y.1=some .local∨(fx.cs.names.lookup y.1=some .cell∧((aco (L+1) fx.cs.names []).lookup y.1).isSome=true)
 vals:∀p∈loc,(bindL (λx=>fx.cs.names.lookup x) binds (λzz=>none) p.1).map ab=p.2
 cells:∀L,∀e∈cs,(aco (L+1) fx.cs.names []).lookup e.1=some (L+1+e.2.1)
 Hl:∀e∈cs,(bindC (λx=>fx.cs.names.lookup x) binds (λzz=>none) e.1).map ab=e.2.2
 Zh:(cs.map (λx=>x.2.1)).Nodup
def BZ(L:Addr)(cs:List (Str×Nat×Option AV)):Cells:=cs.map λe=>(L+1+e.2.1,.cell e.2.2)
def Cx.d7(c:Cx)(fx:Fx)(m:Str→Option Value)(L:Addr):Cx:={c.enter fx m L with env:=envX fx.cn fx.cs L fx.a fx.cd (aco (L+1) fx.cs.names [])}
theorem Cx.zv(h:(c.enter fx m L).Ok):(c.d7 fx m L).Ok:=⟨h.eH,rfl,rfl,rfl,h.kind,λzz=>rfl,h.above,h.aC,h.gl⟩
theorem Rp.Zi(R:Rp (c.enter fx m L) S s):Rp (c.d7 fx m L) S s:=⟨R.stays,R.ns,R.aC,R.cells,R.fresh,R.nd,R.kK,R.lk,R.gens,R.os,R.tk⟩
theorem Rp.Vk(R:Rp (c.d7 fx m L) S s):Rp (c.enter fx m L) S s:=⟨R.stays,R.ns,R.aC,R.cells,R.fresh,R.nd,R.kK,R.lk,R.gens,R.os,R.tk⟩
theorem Rp.adopt(R:Rp c ⟨loc,C⟩ s)(hC:∀p∈C',∃o,s.heap.get? p.1=some o∧pY c.w p.2 o)(nd:(C'.map (λx=>x.1)).Nodup)(hb:∀a∈C'.map (λx=>x.1),c.base.get? a=none∧a∉c.L::(c.aC.map (λx=>x.1.locals)++C.map (λx=>x.1))):Rp c ⟨loc,C'++C⟩ s:=by
 have pm:(c.L::(c.aC.map (λx=>x.1.locals)++(C'++C).map (λx=>x.1))).Perm (C'.map (λx=>x.1)++c.L::(c.aC.map (λx=>x.1.locals)++C.map (λx=>x.1))):=by rw[aaj];refine List.Perm.trans (abB _ ?_) aaS.symm;rw[←aaw,←aaw];exact aez _ aaY
 refine⟨R.stays,R.ns,R.aC,λp hp=>?_,λa ha=>?_,pm.nodup_iff.mpr (aaX.mpr ⟨nd,R.nd,λa ha b Ji q=>(hb a ha).2 (q▸Ji)⟩),R.kK,R.lk,R.gens,R.os,R.tk⟩;rcases aax.mp hp with hp|hp;exact hC p hp;exact R.cells p hp;rcases aax.mp (pm.subset ha)with ha|ha;exact(hb a ha).1;exact R.fresh a ha
def B0(c:Cx)(K0:aao→Frag)(n:Nat)(f:Addr)(args:List AV)(kw:List (Str×AV))(C:Cells)(Q:AV→Cells→Prop)(E:Value→Cells→Prop):Prop:=
 ∀(S:SS),c.K=K0 c.w.params→c.hd=none→S.cells=C→∀(pos:List Value) (kws:List (Str×Value)),pos.map ab=args→kws.map (λp=>(p.1,ab p.2))=kw→
  c.Ok→∀X A s,c.In A n→Rp c (S.ext X) s→ad9 (model prog c.w) A (.call (.ref f) ⟨pos,kws⟩) (λr s'=>match r with
   | .ok (.ret v)=>QX c X (λv S'=>S'.loc=S.loc∧Q (ab v) S'.cells) v s'
   | .ok _=>False
   | .error x=>EX c X (λk S'=>S'.loc=S.loc∧E k S'.cells) x s') s
theorem B0.call{K0:aao→Frag}{m:Nat}{f:Addr}{Q:AV→SS→Prop}{E:EP}(F:B0 c K0 m f as [] [] Qf λzz zz=>False)(hK:c.K=K0 c.w.params)(hd:c.hd=none)(h:∀v C,Qf v C→PL C S.cells Q v S.loc)(hm:autoParam (m≤n) apM):bM c n S (.ref f) as Q E:=λv vs hv bx=>by
 obtain rfl:=aj hv;refine .i λok X A s hA R=>abI (adu (F ⟨S.loc,[]⟩ hK hd rfl vs [] bx rfl ok (S.cells++X) A s ⟨hA.1,hA.2.1,by have:=hA.2.2.1;exact xa hm this,by have:=hA.2.2.2;exact xb hm this⟩ R) λr s' h2=>?_);cases r with
 |ok f=>cases f with|ret v=>obtain⟨S',h1,h3,h4⟩:=h2;let l hl hq:=ak (h _ _ h4);refine⟨⟨S'.loc,l⟩,h1.perm (cells':=l++X) ?_,by rw[h3];exact hq⟩;change(l++X).Perm (S'.cells++(S.cells++X));rw[←aaw];exact hl.perm.append_right X|next=>exact h2|brk=>exact h2|cont=>exact h2
 |error x=>obtain⟨_,_,_,_,_,_,_,h5⟩:=h2;exact h5.elim
theorem FC.B1(B:Heap→Prop){K0:aao→Frag}{fd:aao→aaP}(hf:∀P,qZ (K0 P) fx (fd P) body) (gl:∀P,bH (K0 P) fx)(hb:∀(s:aas) (P:aao),(K0 P).In s.heap→∀pos kws,pos.map ab=args→kws.map (λp=>(p.1,ab p.2))=kw→∃binds,ac9 s (fd P) ⟨pos,kws⟩ binds∧mz fx binds loc cs)(h:∀(c:Cx) (Q':FL→SS→Prop) (E':EP),B c.base→c.K=K0 c.w.params→c.hd=none→c.fx=fx→c.comp=false→c.env=envX fx.cn fx.cs c.L fx.a fx.cd (aco (c.L+1) fx.cs.names [])→(∀v S' C D,aq C S'.cells D→Q v C→Q' (.ret v) S')→(∀S' C D,aq C S'.cells D→Q .none C→Q' .next S')→(∀k S' C D,aq C S'.cells D→E k C→E' k S')→EB c n ⟨loc,BZ c.L cs++C⟩ body Q' E'):∀c:Cx,B c.base→B0 c K0 (n+1) fx.a args kw C Q E:=by
 intro c Zj S hK hd hC pos kws hp v7 ok X A s hA R;have F:=hf c.w.params;have fg:(K0 c.w.params).In s.heap:=λa o e=>R.stays a o (ok.eH.fg a o (hK▸e));let binds hB hl:=ak (hb s c.w.params fg pos kws hp v7);let oc od osl ho:=vS F.obj;let h1 h2 h3 h4:=jc hA;let m hn hm:=ak R.ns;subst hC;refine aeI (fd:=fd c.w.params) (body:=body) (by exact Lf h3) (fg _ _ ho) rfl F.co F.gen F.body (agn fg F.code) (hB _ _ _ _ ?_);rw[F.rL];have hL:c.base.objs.size≤s.heap.objs.size:=aaN (aaC ok.above hn.lt);refine ae4 (aak s.toks) (wpAny_newFunctionEnv_cells F.kind (λx hx=>F.cs▸hl.kb _ x hx) λenv he s' ic iR=>?_);obtain⟨⟨⟨h₁,tk,rfl⟩,lR,keep,_⟩,uE,Zk,JQ⟩:=ic;have envE:env=(c.d7 fx m s.heap.objs.size).env:=by rw[he];simp only[F.cs,F.glob,F.qual,F.cd,F.v8];rfl
 subst envE;refine⟨(ok.eH.lim.keeps R.stays).keeps keep,ahX ?_⟩;have Dp:=Cx.zv (Cx.jg (m:=m) (L:=s.heap.objs.size) ok hK gl (F.cs▸F.kind) hL);have R3:Rp (c.d7 fx m s.heap.objs.size) (SS.ext ⟨loc,BZ s.heap.objs.size cs++S.cells⟩ (c.kept m X)) {s with heap:=h₁,toks:=tk}:=by
  have:=((R.enter (fx:=fx) (h₁:=h₁) (tk:=tk) ok hn keep lR hl.vals hl.nd hl.kinds iR).Zi).adopt (C':=BZ s.heap.objs.size cs) (λp hp=>?_) ?_ λa ha=>?_;rw[←aaw]at this;exact this;let e ie r2:=ak (aaH.mp hp);subst r2;let o lQ hd2:=ak (uE e.1 _ (hl.cells _ e ie));exact⟨o,lQ,_,hd2,hl.Hl e ie⟩;unfold BZ;rw[aba];exact aeD.mpr ((aeD.mp hl.Zh).imp λh q=>h (ahe q));let p hp r2:=ak (aaH.mp ha);subst r2;let e ie r2:=ak (aaH.mp hp);subst r2;refine⟨?_,λq=>?_⟩;change c.base.get? _=none;cases q:c.base.get? (s.heap.objs.size+1+e.2.1)with|none=>rfl|some o=>exact absurd (aaE (aa3 q) hL) (aef.mpr (aab (aa2 _) (aa5 _ _)))
  have dc:∀b∈c.L::(c.aC.map (λx=>x.1.locals)++(S.ext X).cells.map (λx=>x.1)),b<s.heap.objs.size:=R.lt;rcases aai.mp q with q|q;have:s.heap.objs.size+1+e.2.1=s.heap.objs.size:=q;exact abG (aaE (aby _) (aa5 _ _)) this;have key:s.heap.objs.size+1+e.2.1∈c.L::(c.aC.map (λx=>x.1.locals)++(S.ext X).cells.map (λx=>x.1)):=(by cases hc:c.comp with|false=>have e1:(c.d7 fx m s.heap.objs.size).aC=(c.env,m)::c.aC:=(by unfold Cx.d7 Cx.enter;rw[hc]);have e2:c.kept m X=X:=(by unfold Cx.kept;rw[hc]);rw[e1,e2,aan,ok.eL]at q;exact q|true=>have e1:(c.d7 fx m s.heap.objs.size).aC=c.aC:=(by unfold Cx.d7 Cx.enter;rw[hc]);have e2:c.kept m X=(c.L,.v4 m)::X:=(by unfold Cx.kept;rw[hc]);rw[e1,e2]at q;simp only[SS.ext,aaj,aan,aax,aai]at q⊢;rcases q with q|q|q|q;exact .inr (.inl q);exact .inr (.inr (.inl q));exact .inl q;exact .inr (.inr (.inr q)));exact absurd (dc _ key) (aef.mpr (aab (aa2 _) (aa5 _ _)))
 have qJ:(c.d7 fx m s.heap.objs.size).In (A.deeper (c.d7 fx m s.heap.objs.size).env) n:=by refine⟨?_,h2,?_,?_⟩;change A.frames.map _=_;rw[h1,Cx.dp (c:=c.d7 fx m s.heap.objs.size) rfl,show(c.d7 fx m s.heap.objs.size).outer=c.frames from Cx.e8 c fx m s.heap.objs.size];rfl;change A.depth+1+n<_;exact Rq h3;change A.units+3+8*n<_;exact Si h4
 refine aau ((W.letE (E:=λk S'=>E k S'.cells) (W.let (h (c.d7 fx m s.heap.objs.size) (λf S'=>∃C D,S'.cells.Perm (C++D)∧RC Q f ⟨S'.loc,C⟩) (λk S'=>∃C D,S'.cells.Perm (C++D)∧E k C) Zj hK hd rfl rfl rfl (λv S' C D p x=>(ba C D ⟨p.perm,x⟩)) (λS' C D p x=>(ba C D ⟨p.perm,x⟩)) λk S' C D p x=>(ba C D ⟨p.perm,x⟩)))).run Dp _ _ _ qJ R3) (λf s' h8=>h8.el λS' R2 k=>?_) λx s' h8=>h8.el λe k S' hx hF R2 hE=>?_
 ·cases f with|ret v=>exact⟨⟨S.loc,S'.cells⟩,Rp.back ok R hm R2.Vk,rfl,k⟩|next=>exact⟨⟨S.loc,S'.cells⟩,Rp.back ok R hm R2.Vk,rfl,k⟩|brk=>exact k.elim|cont=>exact k.elim
 subst hx;refine aac (jz Dp rfl qJ.1 R2 hF λh2 R3 F3=>?_);exact⟨e,k,⟨S.loc,S'.cells⟩,rfl,p9.back (c:=c) (fx:=fx) (m:=m) (L:=s.heap.objs.size) (loc:=S.loc) F3,Rp.back ok R hm R3.Vk,rfl,hE⟩
theorem FC.JR{K0:aao→Frag}{fd:aao→aaP}(hf:∀P,qZ (K0 P) fx (fd P) body) (gl:∀P,bH (K0 P) fx)(hb:∀(s:aas) (P:aao),(K0 P).In s.heap→∀pos kws,pos.map ab=args→kws.map (λp=>(p.1,ab p.2))=kw→∃binds,ac9 s (fd P) ⟨pos,kws⟩ binds∧mz fx binds loc cs)(h:∀(c:Cx) (Q':FL→SS→Prop) (E':EP),c.K=K0 c.w.params→c.hd=none→c.fx=fx→c.comp=false→c.env=envX fx.cn fx.cs c.L fx.a fx.cd (aco (c.L+1) fx.cs.names [])→(∀v S' C D,aq C S'.cells D→Q v C→Q' (.ret v) S')→(∀S' C D,aq C S'.cells D→Q .none C→Q' .next S')→(∀k S' C D,aq C S'.cells D→E k C→E' k S')→EB c n ⟨loc,BZ c.L cs++C⟩ body Q' E'):FC K0 (n+1) fx.a args kw C Q E:=λc=>FC.B1 (λzz=>True) hf gl hb (λc Q' E' zz=>h c Q' E') c trivial
end
section
variable{v:AV} {Q:FL→SS→Prop} {P:Nat→Obj→Prop}
section
variable{c:Cx} {n:Nat} {S:SS} {E:EP} {s:aas} {X:Cells}
def ew(c:Cx)(tab:List (Str×Addr)):Prop:=∀p∈tab,(c.env.kindOf p.1=some .cell∨c.env.kindOf p.1=some .free)∧c.env.cells.lookup p.1=some p.2∧((p.1==("__debug__":Str))||(p.1==("__classdict__":Str)))=false
theorem bP{Q:AV→SS→Prop}(ht:ew c tab)(hx:At (x,a) tab)(hm:At (a,.cell (some v)) S.cells)(h:Q v S):EE c n S (.Name x p) Q E:=Ev (ht _ hx.mem).1 (ht _ hx.mem).2.1 (ht _ hx.mem).2.2 hm.mem h
def pB(c:Cx)(tab:List (Str×Addr)):Prop:=∀p∈tab,c.env.kindOf p.1=some .cell∧c.env.cells.lookup p.1=some p.2
theorem E4{u:Option AV}{Q:SS→Prop}(ht:pB c tab)(hx:At (x,a) tab)(up:aI a (.cell u) (.cell (some v)) S.cells cells')(h:Q ⟨S.loc,cells'⟩):AS c n S (.Name x p) v Q E:=λw hw=>.i λok X A s hA R=>by subst hw;exact aev ((m6 (Q:=λzz=>Q) (ht _ hx.mem).1 (ht _ hx.mem).2 up h).run ok X A s hA R)
theorem q0{e:Expr}(ht:pB c tab)(hx:At (x,a) tab)(h:EE c n S e (λv S1=>∃u cells',aI a (.cell u) (.cell (some v)) S1.cells cells'∧Q .next ⟨S1.loc,cells'⟩) E)(hs:autoParam (ac6 e (some (.Name x p')) p.line c.env=pure false) apR):ES c n S (.Assign [.Name x p'] e p) Q E:=.i λok X A s hA R=>
 wpAny_Assign_Name (h.st ok X A s hA R λv s' S' R' h8=>cI h8 λu cells' k1 k2=>(m6 (Q:=λzz=>Q .next) (ht _ hx.mem).1 (ht _ hx.mem).2 k1 k2).run ok X A s' hA R') hs
theorem zw(Inv:Nat→SS→Prop)(h:EE c n S iter (λv S1=>(∀u,ab u=v→wi c n S1 u P)∧Inv 0 S1) E)(step:∀i y S1,xs[i]? =some y→Inv i S1→xo c n S1 P i y∧AS c n S1 (.Name x px) y (λS2=>EB c n S2 body (au (Inv (i+1)) Q) E) hW)(fin:∀S1,Inv xs.length S1→xq c n S1 P xs.length∧EB c n S1 orelse Q E)(hs:autoParam (∀x,aa4 iter c.env x=pure x) apR) (hc:autoParam (c.comp=false) apA):ES c n S (.For (.Name x px) iter body orelse p) Q E:=mo (h.az λv S1 k=>(eY xs P Inv ⟨k.1,k.2,step,fin⟩)) hs hc
theorem zx(h:EE c n S iter (λv S1=>∃(l:Addr) (xs:List AV) (Inv:Nat→SS→Prop),v= .ref l∧(l,.list xs)∈S1.cells∧Inv 0 S1∧(∀i S1,Inv i S1→(l,.list xs)∈S1.cells)∧(∀i y S1 (N:SS→Prop),xs[i]? =some y→Inv i S1→(∀S',Inv (i+1) S'→N S')→∃l',dA x y S1.loc l'∧EB c n ⟨l',S1.cells⟩ body (au N Q) E)∧(∀S1,Inv xs.length S1→EB c n S1 orelse Q E)) E)(hd:autoParam (c.hd=none) apA) (hc:autoParam (c.comp=false) apA) (hs:autoParam (∀x,aa4 iter c.env x=pure x) apR):ES c n S (.For (.Name x px) iter body orelse p) Q E:=mo (h.az λv S1 h8=>lW h8 λl xs Inv h1 h2 h3 hl step fin=>(eY xs (aQ l) Inv ⟨λu hu=>cJ h2 (hu.trans h1),h3,λi y S1 rW hi=>⟨cM (hl _ _ hi) rW,let⟨l',h1,h2⟩:=step i y S1 _ rW hi λzz z=>z;cA h1 h2⟩,λS1 hi=>⟨cN (hl _ _ hi) hd,fin S1 hi⟩⟩)) hs hc
theorem zy(ht:pB c tab)(hx:At (x,a) tab)(Inv:Nat→SS→Prop)(h:EE c n S iter (λv S1=>v= .ref l∧(l,.list xs)∈S1.cells∧Inv 0 S1) E)(hl:∀i S1,Inv i S1→(l,.list xs)∈S1.cells)(step:∀i y S1 (N:SS→Prop),xs[i]? =some y→Inv i S1→(∀S',Inv (i+1) S'→N S')→∃u cells',aI a (.cell u) (.cell (some y)) S1.cells cells'∧EB c n ⟨S1.loc,cells'⟩ body (au N Q) E)(fin:∀S1,Inv xs.length S1→EB c n S1 orelse Q E)(hd:autoParam (c.hd=none) apA) (hc:autoParam (c.comp=false) apA) (hs:autoParam (∀x,aa4 iter c.env x=pure x) apR):ES c n S (.For (.Name x px) iter body orelse p) Q E:=zw (xs:=xs) (P:=aQ l) Inv (h.az λv S1 h8=>pX h8 λh1 h2 h3=>⟨λu hu=>cJ h2 (hu.trans h1),h3⟩) (λi y S1 rW hi=>⟨cM (hl _ _ hi) rW,let⟨u,cells',h1,h2⟩:=step i y S1 _ rW hi λzz z=>z;E4 ht hx h1 h2⟩) (λS1 hi=>⟨cN (hl _ _ hi) hd,fin S1 hi⟩) hs hc
end
end
section
variable{b:Int}
section
variable{c:Cx} {n:Nat} {S:SS} {E:EP} {s:aas} {X:Cells}
theorem mA(h:∀r,Q (.ref r) ⟨S.loc,(r,.obj (fA 0 b 1))::S.cells⟩):bM c n S (.type "range") [.int b] Q E:=λf vs hf bx=>W.of λok X A s hA R=>by obtain rfl:=bI hf;let v r1 hv:=ak (cP bx);subst r1;let t r1:=eE (aP hv);subst r1;exact call_range_1 ⟨_,R.c0 (tk:=s.toks+1+1) (ao:=.obj (fA 0 b 1)) rfl (eY _ _ _ rfl),h _⟩
theorem zA{a d:Int}(hd:d≠0)(hp:ae5 (b-a) d=false)(h:∀r,Q (.ref r) ⟨S.loc,(r,.obj (fA a b d))::S.cells⟩):bM c n S (.type "range") [.int a,.int b,.int d] Q E:=λf vs hf bx=>W.of λok X A s hA R=>by obtain rfl:=bI hf;let v u w r3 hv hu hw:=eN (uo bx);subst r3;let t r1:=eE (aP hv);subst r1;let t2 r1:=eE (aP hu);subst r1;let t3 r1:=eE (aP hw);subst r1;exact call_range_3 hd ⟨_,R.c0 (tk:=s.toks) (ao:=.obj (fA a b d)) rfl (eY _ _ _ rfl),h _⟩ (.inl hp)
end
end
section
variable{Q:Array Nat×Nat×Nat→Prop} {p:Array Nat}
def xW{α:Type}(N:Nat)(K:Nat→Int):KasT α→(α→Prop)→Prop| .ret a,Q=>Q a| .ask i j k,Q=>i<N∧j<N∧i≠j∧xW N K (k (decide (K i<K j))) Q
section
variable{N:Nat} {K:Nat→Int} {α β:Type}
theorem jC{f:α→KasT β}{Q:β→Prop}:∀{t:KasT α},xW N K t (λa=>xW N K (f a) Q)→xW N K (t.bind f) Q| .ret _,h=>h| .ask _ _ k,⟨h1,h2,h3,h4⟩=>⟨h1,h2,h3,jC (t:=k _) h4⟩
theorem fZ(p:Array Nat)(i:Nat):p.getD i 0=(p[i]?).getD 0:=by rw[Array.getD_eq_getD_getElem?]
abbrev Kp(K:Nat→Int)(p:Array Nat)(i:Nat):Int:=K (p.getD i 0)
structure PG(N:Nat)(K:Nat→Int)(p:Array Nat):Prop where
 perm:p.toList.Perm (abu N)
 inj:∀i j,i<N→j<N→K i=K j→i=j
theorem PG.size(h:PG N K p):p.size=N:=by have:=h.perm.length_eq;simpa using this
theorem PG.lt(h:PG N K p)(hi:i<N):p.getD i 0<N:=by
 have hs:i<p.toList.length:=by rw[aaQ,h.size];exact hi
 have hm:p.toList[i]∈p.toList:=acB hs;have:=h.perm.mem_iff.mp hm;have e:p.getD i 0=p.toList[i]:=by have:i<p.size:=(by rw[h.size];exact hi);simp[agw,this]
 rw[e];simpa using this
theorem PG.ne(h:PG N K p)(hi:i<N)(hj:j<N)(iD:i≠j):p.getD i 0≠p.getD j 0:=by
 have hn:p.toList.Nodup:=h.perm.nodup_iff.mpr List.nodup_range;have si:i<p.size:=by rw[h.size];exact hi
 have sj:j<p.size:=by rw[h.size];exact hj
 have e1:p.getD i 0=p.toList[i]'(by simpa using si):=by simp[agw,si]
 have e2:p.getD j 0=p.toList[j]'(by simpa using sj):=by simp[agw,sj]
 rw[e1,e2];have pw:=acw.mp hn;rcases Nat.lt_or_gt_of_ne iD with q|q;exact pw i j _ _ q;exact(pw j i _ _ q).symm
theorem PG.ask(h:PG N K p){k:Bool→KasT α}{Q:α→Prop}(hi:i<N)(hj:j<N)(iD:i≠j)(h1:Kp K p i<Kp K p j→xW N K (k true) Q)(h2:Kp K p j<Kp K p i→xW N K (k false) Q):xW N K (.ask (p.getD i 0) (p.getD j 0) k) Q:=by refine⟨h.lt hi,h.lt hj,h.ne hi hj iD,?_⟩;by_cases q:K (p.getD i 0)<K (p.getD j 0);rw[decide_eq_true q];exact h1 q;rw[decide_eq_false q];show h2;rcases Int.lt_or_eq_of_le (aeK.mp q)with r|r;exact r;exact absurd (h.inj _ _ (h.lt hj) (h.lt hi) r).symm (h.ne hi hj iD)
def wP(K:Nat→Int)(p:Array Nat)(m:Nat):Prop:=∀i j,i<j→j<m→Kp K p i<Kp K p j
def Lv(K:Nat→Int)(p:Array Nat)(m:Nat):Prop:=∀i j,i<j→j<m→Kp K p j<Kp K p i
theorem wP.snoc(h:wP K p n)(h1:1≤n)(hl:Kp K p (n-1)<Kp K p n):wP K p (n+1):=λi j iD hj=>by
 by_cases q:j<n;exact h i j iD q;obtain rfl:j=n:=by exact Go hj q
 by_cases r:i=j-1;subst r;exact hl;exact afa (h i (j-1) (by exact abt (adK iD) r) (by exact acN h1 (aby _))) hl
theorem Lv.snoc(h:Lv K p n)(h1:1≤n)(hl:Kp K p n<Kp K p (n-1)):Lv K p (n+1):=λi j iD hj=>by
 by_cases q:j<n;exact h i j iD q;obtain rfl:j=n:=by exact Go hj q
 by_cases r:i=j-1;subst r;exact hl;exact afa hl (h i (j-1) (by exact abt (adK iD) r) (by exact acN h1 (aby _)))
theorem B2(h:PG N K p){Q:Nat→Prop}:∀(f n:Nat),1≤n→n+f≤N→wP K p n→(∀m,n≤m→m≤n+f→wP K p m→(m<n+f→Kp K p m<Kp K p (m-1))→Q m)→xW N K (kas_asc p f n) Q:=by intro l0;induction l0 with|zero=>exact λn zz zz ha hq=>hq n (aak _) (aak _) ha λq=>absurd q (Nat.lt_irrefl _)|succ f ih=>intro n h1 h2 ha hq;let q:=h.ask (by exact As h2) (by exact Au h2) (by exact(abf (aeE h1)).symm) (λq=>?_);rw[if_pos rfl];exact hq n (aak _) (by exact aa5 _ _) ha λzz=>q;rw[if_neg '2'];refine ih (n+1) (by exact abm _ _) (by exact Gq h2) (ha.snoc h1 q) λm m1 m2 m3 m4=>hq m (by exact aaN m1) (by exact Gr m2) m3 λr=>m4 (by exact MA r)
theorem E5(h:PG N K p):∀(f n:Nat),2≤n→n+f≤N→Lv K p n→(∀m,n≤m→m≤n+f→Lv K p m→Q (p,m,0))→xW N K (kas_desc f p n 0) Q:=by intro l0;induction l0 with|zero=>exact λn zz zz ha hq=>hq n (aak _) (aak _) ha|succ f ih=>intro n h1 h2 ha hq;let q:=h.ask (by exact As h2) (by exact Au h2) (by exact(abf (aeE h1)).symm) (λq=>?_);rw[if_pos rfl,if_neg '2'];exact ih (n+1) (by exact ab1 h1) (by exact Gq h2) (ha.snoc (by exact aaN h1) q) λm m1 m2 m3=>hq m (by exact aaN m1) (by exact Gr m2) m3;rw[if_neg '2'];refine h.ask (by exact Au h2) (by exact As h2) (by exact abf (aeE h1)) (λq2=>?_) λq2=>absurd q (by have:=q2;exact aeK.mpr (agj this));rw[if_pos rfl];exact hq n (aak _) (by exact aa5 _ _) ha
theorem PG.arr{p':Array Nat}(h:PG N K p)(hp:p'.Perm p):PG N K p':=⟨(Array.perm_iff_toList_perm.mp hp).trans h.perm,h.inj⟩
theorem B3{m:Nat}(hm:m≤p.size)(k:Nat):Kp K (kas_rev p 0 m) k=if k<m then Kp K p (m-1-k)else Kp K p k:=by unfold Kp kas_rev;rw[fZ,getElem?_mirror_all hm];by_cases q:k<m;rw[if_pos ⟨aaD _,q⟩,if_pos q,fZ];congr 3;exact MD;rw[if_neg (λr=>q r.2),if_neg q,fZ]
theorem B4(h:PG N K p){Q:Nat×Array Nat→Prop}(hN:1≤N)(hq:∀m p',PG N K p'→1≤m→m≤N→wP K p' m→Q (m,p')):xW N K (kas_count N p) Q:=by
 unfold kas_count;refine jC (B2 h (N-1) 1 (aak _) (by exact aaz (aa7 hN)) (λi j iD hj=>by exact absurd hj (acA (aaC (aaD _) iD))) λm m1 m2 m3 m4=>?_);by_cases e:m=N;rw[if_pos (beq_iff_eq.mpr e)];exact hq m p h m1 (by exact aaz e) m3;rw[if_neg (λr=>e (beq_iff_eq.mp r))];by_cases e1:m>1;rw[if_pos e1];refine h.ask (by exact ME m2 e1) (by exact MF m2 e1) (by exact abf (abY e1)) (λq=>?_) λq=>absurd (m3 0 (m-1) (by exact abY e1) (by exact aeE e1)) (by have:=q;exact aeK.mpr (agj this));rw[if_pos rfl];exact hq m p h m1 (by exact ML m2 e1) m3;rw[if_neg e1];obtain rfl:m=1:=by exact MO m1 e1
 have q:=m4 (by exact adk (abY (abt hN e)));have d2:Lv K p 2:=λi j iD hj=>by obtain⟨rfl,rfl⟩:i=0∧j=1:=(by exact MQ iD hj);exact q
 refine jC (E5 h (N-(1+1)) (1+1) (by exact aak _) (by exact aaz (aa7 (abt hN e))) d2 λn n1 n2 n3=>?_);dsimp only;rw[if_neg '2'];have hr:PG N K (kas_rev p 0 n):=h.arr (mirror_perm _ _ _ _);have ha:wP K (kas_rev p 0 n) n:=λi j iD hj=>by rw[B3 (by rw[h.size];exact aab n2 (aaz (aa7 (abt hN e)))),B3 (by rw[h.size];exact aab n2 (aaz (aa7 (abt hN e)))),if_pos (by exact ah0 iD hj),if_pos hj];exact n3 _ _ (by exact acN (agR (aaC iD hj)) iD) (by exact MU hj)
 refine jC (B2 hr (N-n) n (by exact aaN n1) (by exact MV hN e n2) ha λk k1 k2 k3 zz=>?_);exact hq k _ hr (by exact aaN (aaE n1 k1)) (by exact MX hN e n2 k2) k3
theorem B5(h:PG N K p)(hk:k<N)(ha:wP K p k){Q:Nat→Prop}:∀(f l r:Nat),l≤r→r≤k→r-l≤f→(∀i,i<l→Kp K p i<Kp K p k)→(∀i,r≤i→i<k→Kp K p k<Kp K p i)→(∀l,l≤k→(∀i,i<l→Kp K p i<Kp K p k)→(∀i,l≤i→i<k→Kp K p k<Kp K p i)→Q l)→xW N K (kas_place p k f l r) Q:=by intro l0;induction l0 with|zero=>intro l r h1 h2 h3 hl hr hq;obtain rfl:l=r:=(by exact aaI h1 (ab5 (Nat.le_zero.mp h3)));exact hq l h2 hl hr|succ f ih=>intro l r h1 h2 h3 hl hr hq;unfold kas_place;by_cases e:l≥r;rw[if_pos e];obtain rfl:l=r:=(by exact aaI h1 e);exact hq l h2 hl hr;rw[if_neg e];let q:=h.ask hk (by exact MY hk h2 e) (by exact MZ h2 e) (λq=>?_);rw[if_pos rfl];refine ih l ((l+r)/2) (by exact M0 e) (by exact M2 h2 e) (by exact M3 h3) hl (λi i1 i2=>?_) hq;by_cases c:i=(l+r)/2;subst c;exact q;exact afa q (ha _ _ (by exact abt i1 (aeR c)) i2);rw[if_neg '2'];refine ih ((l+r)/2+1) r (by exact M4 e) h2 (by exact M6 h3) (λi i1=>?_) hr hq;by_cases c:i=(l+r)/2;subst c;exact q;exact afa (ha _ _ (by exact abt (abZ i1) c) (by exact Na h2 e)) q
theorem B6{l:Nat}(hk:k<p.size)(hl:l≤k)(i:Nat):Kp K (bubble p k (k-l)) i=if i=l then Kp K p k else if l<i∧i≤k then Kp K p (i-1)else Kp K p i:=by
 unfold Kp;rw[fZ,getElem?_bubble hk _ (aed _ _)];have e:k-(k-l)=l:=by exact Nat.sub_sub_self hl
 rw[e];by_cases q:i=l;rw[if_pos q,if_pos q,fZ];rw[if_neg q,if_neg q];by_cases r:l<i∧i≤k;rw[if_pos r,if_pos r,fZ];rw[if_neg r,if_neg r,fZ]
theorem JS{Q:Array Nat→Prop}(hq:∀p,PG N K p→wP K p N→Q p):∀(f:Nat) (p:Array Nat) (k:Nat),PG N K p→k+f=N→wP K p k→xW N K (kas_bin f p k) Q:=by intro l0;induction l0 with|zero=>intro p k h e ha;obtain rfl:k=N:=(by exact e);exact hq p h ha|succ f ih=>intro p k h e ha;refine jC (B5 h (by exact Gy e) ha k 0 k (aaD _) (aak _) (by exact aak _) (λi hi=>absurd hi (by exact Nc)) (λi h1 h2=>absurd h2 (by exact Nf h1)) λl l1 l2 l3=>?_);let i j iD hj:=ih _ (k+1) (h.arr (bubble_perm _ _ _)) (by exact Ng e);have hs:k<p.size:=(by rw[h.size];exact Gy e);rw[B6 hs l1,B6 hs l1];by_cases a:i=l<;>by_cases b:j=l;exact absurd (a.trans b.symm) (abf iD);rw[if_pos a,if_neg b,if_pos (by exact Ni iD hj a)];exact l3 _ (by exact Nj iD a) (by exact Nk iD hj);rw[if_neg a,if_pos b,if_neg (by exact Nl iD b)];exact l2 _ (by exact Nm iD b);rw[if_neg a,if_neg b];by_cases c:l<i∧i≤k<;>by_cases d:l<j∧j≤k;rw[if_pos c,if_pos d];exact ha _ _ (by exact Nat.sub_lt_sub_right (aaC (aaD _) c.1) iD) (by exact GB d.1 d.2);exact absurd ⟨ah0 c.1 iD,abZ hj⟩ d;rw[if_neg c,if_pos d];exact ha _ _ (by exact Nq iD a c d.1 d.2) (by exact GB d.1 d.2);rw[if_neg c,if_neg d];exact ha _ _ iD (by exact Nu l1 hj b d)
theorem E6(hN:1≤N)(inj:∀i j,i<N→j<N→K i=K j→i=j):xW N K (kas_sort N) λp=>PG N K p∧wP K p N:=by
 unfold kas_sort;refine jC (B4 ⟨by simp,inj⟩ hN λm p hp m1 m2 m3=>?_);dsimp only;by_cases q:m<N;rw[if_pos q];have e:max m 1=m:=by exact Nat.max_eq_left m1
 rw[e];exact JS (λp h1 h2=>⟨h1,h2⟩) _ p m hp (by exact aa7 (aaN q)) m3;rw[if_neg q];obtain rfl:m=N:=by exact Nw m2 q
 exact⟨hp,m3⟩
theorem Hm{s:aas}{Q:α→Prop}{G:α→aas→Prop}(hc:∀i j,i<N→j<N→i≠j→∀C:Bool→aas→Prop,C (decide (K i<K j)) s→cmp i j C s)(hq:∀a,Q a→G a s):∀(t:KasT α),xW N K t Q→t.kasWp cmp G s| .ret a,h=>hq a h| .ask i j k,⟨h1,h2,h3,h4⟩=>hc i j h1 h2 h3 _ (Hm hc hq (k _) h4)
end
end
section
variable{Q:Bool→aas→Prop}
def TupAt(h:Heap)(a:Addr)(v:Value)(x y:Int):Prop:=∃b o z t u n,v= .ref b∧b≠a∧h.get? b=some o∧o.cls= .type "tuple"∧o.data= .seq #[.int x t,.int y u,z] n
section
variable{prog:aiA} {w:World} {A:ads} {E:Value→aas→Prop} {s:aas}
theorem JT{v':Value}{x y x' y':Int}(h1:TupAt s.heap a v x y)(h2:TupAt s.heap a v' x' y')(hy:y≠y')(hq:Q (decide (x<x'∨(x=x'∧y<y'))) s):wpAny (model prog w) A (keyLt' (tuples' true) v v') Q (λzz zz=>False) s:=by
 let b o z t u n r6 z7 ho z9 hd:=gq h1;subst r6;let b' o' z' t' u' n' r6 z7 jh z9 rJ:=gq h2;subst r6;refine kat_lt ho hd jh rJ (kat_cons (wpAny_eqBool_int (kat_go (λe=>?_) λe=>?_)));have e:x=x':=beq_iff_eq.mp e;refine kat_yes (kat_cons (wpAny_eqBool_int (kat_go (λe2=>absurd (beq_iff_eq.mp e2) hy) λzz=>kat_no (kat_one _ _ ?_))));subst e;have:decide (x<x∨(x=x∧y<y'))=decide (y<y'):=by congr 1;exact propext ⟨λr=>r.elim (λq=>absurd q (ahn _)) (λx=>x.2),λr=>.inr ⟨rfl,r⟩⟩
 rw[this]at hq;exact PySem.P.lt_int hq;have e:x≠x':=λq=>by rw[q]at e;simp at e
 show kat_no;have:decide (x<x'∨(x=x'∧y<y'))=decide (x<x'):=by congr 1;exact propext ⟨λr=>r.elim id λq=>absurd q.1 e,.inl⟩
 rw[this]at hq;exact kat_lt_int hq
theorem sD{vs:List Value}{P:ahb→aas→Prop}{X Y:Nat→Int}(ho:s.heap.get? a=some (acv "list" vs.toArray n))(Hn:vs.length<64)
  (ht:∀i,i<vs.length→TupAt s.heap a (vs.getD i .none) (X i) (Y i)) (hY:∀i j,i<vs.length→j<vs.length→Y i=Y j→i=j) (hb:∀i,i<vs.length→0≤Y i∧Y i<1000)
  (h:∀p:Array Nat,PG vs.length (λi=>X i*1000+Y i) p→wP (λi=>X i*1000+Y i) p vs.length→P (.done (.ret .none)) {s with heap:=sortedHeap s.heap a vs (p.toList.map λi=>vs.getD i aa6).toArray}):
  wpAny (model prog w) A (Builtin.«list.sort» ⟨[.ref a],[]⟩) P E s:=by
 obtain⟨e1,XH⟩:∃e1,(s.heap.update a (abb λzz=>(#[]:Array Value))).get? a=some (acv "list" #[] e1):=⟨_,get?_update_seq ho λzz=> #[]⟩
 have PQ:(((s.heap.update a (abb λzz=>(#[]:Array Value))).push (acv "tuple" vs.toArray 0)).push (acv "list" #[] 0)).get? a=some (acv "list" #[] e1):=
  aap _ (aap _ XH)
 have keep:∀b o,b≠a→s.heap.get? b=some o→(((s.heap.update a (abb λzz=>(#[]:Array Value))).push (acv "tuple" vs.toArray 0)).push (acv "list" #[] 0)).get? b=some o:=λb o hb e=>
  aap _ (aap _ ((ahj _ _ _ _ hb).trans e))
 have Vl:∀i,i<vs.length→TupAt (((s.heap.update a (abb λzz=>(#[]:Array Value))).push (acv "tuple" vs.toArray 0)).push (acv "list" #[] 0)) a (vs.getD i .none) (X i) (Y i):=λi hi=>by
  refine gq (ht i hi) λb o z t u k e gU h1 h2 h3=>?_
  exact yI b o z t u k ⟨e,gU,keep b o gU h1,h2,h3⟩
 rw[list_sort_plain]
 refine aac (listItems_at ho rfl ?_)
 refine aac (listUpdate_at ho rfl ?_ (by rw[acJ,afJ];exact Gw Hn) (aaD _))
 refine aac (seqEpoch_at XH rfl ?_)
 refine aac (afs ?_ (by change vs.length≤_;rw[afJ];exact Gw Hn))
 refine aac (ahr ?_ (aaD _))
 refine abk ?_
 change wpAny (model prog w) A _ P E {s with heap:=((s.heap.update a (abb λzz=>(#[]:Array Value))).push (acv "tuple" vs.toArray 0)).push (acv "list" #[] 0)}
 dsimp only
 have fin:∀(kL:SortSt) (p:Array Nat),arrOf kL=p.map (kas_item (vs.toArray.zip vs.toArray))→failedOf kL=none→p.size=vs.length→PG vs.length (λi=>X i*1000+Y i) p→wP (λi=>X i*1000+Y i) p vs.length→
   wpAny (model prog w) A (do
    let touched:=(←seqEpoch a) !=e1
    age (.ref a) λzz=>(arrOf kL).map (λx=>x.2)
    if let some e:=failedOf kL then rule "list.sort.comparison-raised";throw e
    if touched then rule "list.sort.modified";raiseError "ValueError" "list modified during sort"
    ret .none) P E {s with heap:=((s.heap.update a (abb λzz=>(#[]:Array Value))).push (acv "tuple" vs.toArray 0)).push (acv "list" #[] 0)}:=by
  intro kL p Zl hf hs h1 h2
  rw[(kat_snds rfl Zl)]
  refine aac (seqEpoch_at PQ rfl ?_)
  refine aac (listUpdate_at PQ rfl ?_ (aaD _) (by change(List.map _ _).toArray.size≤_;rw[acJ,aaa,aaQ,hs,afJ];exact M5 Hn))
  rw[hf]
  simp only[bne_self_eq_false,aaU,if_false]
  exact aal (h p h1 h2)
 have inj:∀i j,i<vs.length→j<vs.length→X i*1000+Y i=X j*1000+Y j→i=j:=λi j hi hj e=>hY i j hi hj (by have:=hb i hi;have:=hb j hj;lia)
 by_cases h2:vs.toArray.size<2
 ·rw[if_pos h2,if_pos h2]
  refine aac (aal ?_)
  rw[StateT.run_pure]
  refine aac (aal ?_)
  rw[acJ]at h2
  refine fin (SortSt.mk' general' (vs.toArray.zip vs.toArray) #[] 7 none) (abu vs.length).toArray ?_ rfl (by simp) ⟨by simp,inj⟩ (λi j iD hj=>by exact M8 h2 iD hj)
  change vs.toArray.zip vs.toArray=_
  have:=kas_range (vs.toArray.zip vs.toArray)
  rw[show(vs.toArray.zip vs.toArray).size=vs.length by simp]at this
  exact this.symm
 ·rw[if_neg h2,if_neg h2]
  rw[acJ]at h2
  have tups:∀l:List Value,(∀v∈l,∃x y,TupAt (((s.heap.update a (abb λzz=>(#[]:Array Value))).push (acv "tuple" vs.toArray 0)).push (acv "list" #[] 0)) a v x y)→∃fs,KatTups (((s.heap.update a (abb λzz=>(#[]:Array Value))).push (acv "tuple" vs.toArray 0)).push (acv "list" #[] 0)) l fs∧fs.length=l.length∧∀v∈fs,∃x t,v= .int x t:=by
   intro l
   induction l with
   |nil=>intro _;exact⟨[],trivial,rfl,λv hv=>nomatch hv⟩
   |cons v l ih=>
    intro hv
    refine bN (ih λw hw=>hv w (.tail _ hw)) λfs f1 f2 f3=>?_
    refine p8 (hv v (.head _)) λx y b o z t u k r8 gU g1 g2 g3=>?_
    obtain rfl:=r8
    exact⟨.int x t::fs,KatTups.cons g1 g2 g3 rfl f1,congrArg (·+1) f2,λw hw=>(aai.mp hw).elim (λe=>(ba x t e)) (f3 w)⟩
  obtain⟨fs,f1,f2,f3⟩:=tups vs λv hv=>by
   obtain⟨i,hi,rfl⟩:=aeZ.mp hv
   have:=Vl i hi
   rw[aaR,aay hi]at this
   exact ba _ _ this
  refine aac (kat_kind (T:=.type "int") f1 (by rw[f2];exact M_ h2) (λv hv=>?_) '2' ?_)
  ·refine DP (f3 v hv) λx t r2=>?_;obtain rfl:=r2
   exact .now
  rw[(by decide:(abR "int" !=abR "tuple")=true)]
  refine aac (aau (kat_run (E:=E) (Q:=λkL s'=>s'={s with heap:=((s.heap.update a (abb λzz=>(#[]:Array Value))).push (acv "tuple" vs.toArray 0)).push (acv "list" #[] 0)}∧∃p:Array Nat,p.size=vs.length∧arrOf kL=p.map (kas_item (vs.toArray.zip vs.toArray))∧failedOf kL=none∧PG vs.length (λi=>X i*1000+Y i) p∧wP (λi=>X i*1000+Y i) p vs.length)
   (G:=λp s'=>s'={s with heap:=((s.heap.update a (abb λzz=>(#[]:Array Value))).push (acv "tuple" vs.toArray 0)).push (acv "list" #[] 0)}∧PG vs.length (λi=>X i*1000+Y i) p∧wP (λi=>X i*1000+Y i) p vs.length)
   rfl (by exact aa8 h2) Hn (λp' kL s' a1 a2 a3 a4=>⟨a4.1,p',a1,a2,a3,a4.2.1,a4.2.2⟩) ?_) ?_ λzz zz e=>e)
  ·refine Hm (N:=vs.length) (K:=λi=>X i*1000+Y i) (λi j hi hj iD C hC=>?_) (λp hp=>⟨rfl,hp.1,hp.2⟩) _ (E6 (by exact Nb h2) inj)
   refine JT (Vl i hi) (Vl j hj) (λe=>iD (hY i j hi hj e)) ?_
   have:decide (X i<X j∨X i=X j∧Y i<Y j)=decide (X i*1000+Y i<X j*1000+Y j):=by
    congr 1
    have:=hb i hi
    have:=hb j hj
    exact propext ⟨λr=>by lia,λr=>by lia⟩
   rw[this];exact hC
  ·intro JU
   obtain⟨⟨⟩,kL⟩:=JU
   intro s' JV
   refine DT JV λr0 p a1 a2 a3 a4 a5=>?_
   obtain rfl:=r0
   exact fin kL p a2 a3 a1 a4 a5
end
end
section
section
variable{c:Cx} {n:Nat} {S:SS} {E:EP} {s:aas} {X:Cells}
abbrev iF:=Addr×Int×Int×Str
def JW(t:iF):Int:=t.2.1*1000+t.2.2.1
def sE(t:iF):AO:=.tup [.int t.2.1,.int t.2.2.1,.str t.2.2.2]
theorem uR{ts:List iF}(hm:(l,.list (ts.map λt=>.ref t.1))∈S.cells)(ht:∀t∈ts,(t.1,sE t)∈S.cells)(Hn:ts.length<64)(hY:∀i j:Nat,∀a b:iF,ts[i]? =some a→ts[j]? =some b→a.2.2.1=b.2.2.1→i=j) (hb:∀t∈ts,0≤t.2.2.1∧t.2.2.1<1000)(h:∀(D:Addr) (us:List iF),us.Perm ts→us.Pairwise (λa b=>JW a<JW b)→Q (.ref D) ⟨S.loc,(D,.list (us.map λt=>.ref t.1))::S.cells⟩):bM c n S (.bi "sorted") [.ref l] Q E:=λf vs hf bx=>W.of λok X A s hA R=>by
 obtain rfl:=dT hf;let v r1 hv:=ak (cP bx);subst r1;obtain rfl:=aj hv;let ws hl p3:=ak (R.list hm);have JX:ws.toList=ts.map λt=>abQ t.1:=by
  have key:∀(a:List Value) (b:List iF),a.map ab=b.map (λt=>AV.ref t.1)→a=b.map λt=>abQ t.1:=by
   intro a;induction a with
   |nil=>intro b hb;cases b with|nil=>rfl|cons _ _=>cases hb
   |cons x a ih=>
    intro b hb;cases b with
    |nil=>cases hb
    |cons y b=>rw[aan,aan,acr]at hb;rw[aan,aj hb.1,ih b hb.2]
  exact key _ _ p3
 obtain⟨vs,rfl⟩:∃vs:List Value,ws=vs.toArray:=⟨ws.toList,by simp⟩;rw[adi]at JX;have hlen:vs.length=ts.length:=by rw[JX,aaa]
 let d:iF:=(0,0,0,"");have dc:∀(t:iF),t∈ts→t.1<s.heap.objs.size:=λt Ep=>by let o ho z2:=ak (R.cells (t.1,sE t) (aaf _ (ht t Ep)));exact aa3 ho
 show Calls.call_function_entry kind_sorted plain_sorted entry_sorted (args_sorted1 _);refine aac (m:=checkCount "sorted" 1 1 _) (aal ?_);refine aac (collect_list hl ?_ (by rw[afJ];exact Gz Hn hlen));refine aac (ahr ?_ (by rw[afJ];exact Gz Hn hlen));have ki:((s.heap.push (acv "list" #[] 0)).update s.heap.objs.size (abb (·++vs.toArray))).objs.size=s.heap.objs.size+1:=by rw[Heap.size_update,size_push']
 have XI:(((s.heap.push (acv "list" #[] 0)).update s.heap.objs.size (abb (·++vs.toArray))).push (acv "list" vs.toArray 0)).get? (s.heap.objs.size+1)=some (acv "list" vs.toArray 0):=by rw[←ki];exact aaG _ rfl
 have keep:∀b o,s.heap.get? b=some o→(((s.heap.push (acv "list" #[] 0)).update s.heap.objs.size (abb (·++vs.toArray))).push (acv "list" vs.toArray 0)).get? b=some o:=λb o q=>by have dc:b<s.heap.objs.size:=aa3 q;rw[ah1 _ _ _ (by rw[ki];exact abf (aeC dc)),ahj _ _ _ _ (abf dc),ah1 _ _ _ (abf dc)];exact q
 change wpAny _ _ _ _ _ {s with heap:=((s.heap.push (acv "list" #[] 0)).update s.heap.objs.size (abb (·++vs.toArray))).push (acv "list" vs.toArray 0)};rw[ki];have nI:∀i,i<vs.length→∃t,ts[i]? =some t∧ts.getD i d=t∧t∈ts∧vs.getD i aa6= .ref t.1:=λi hi=>by rw[hlen]at hi;refine⟨ts[i],aay hi,?_,acB hi,?_⟩;rw[aaR,aay hi];rfl;rw[JX,aaR,aag,aay hi];rfl
 refine aac (abk (aeM slot_list_sort ⟨_,XI,rfl⟩ entry_list_sort (sD (X:=λi=>(ts.getD i d).2.1) (Y:=λi=>(ts.getD i d).2.2.1) XI (by exact Nh Hn hlen) (λi hi=>?_) (λi j hi hj e=>?_) (λi hi=>?_) λp hp Vm=>⟨_,rfl,?_⟩) (args_list_sort _)));let t t1 t2 t3 t4:=kI (nI i hi);change TupAt _ _ (vs.getD i aa6) (ts.getD i d).2.1 (ts.getD i d).2.2.1;rw[t2,t4];let us hu Vn:=ak (R.tup (ht t t3));let o ho hc k hd:=OA hu;have he:∃a b z,us= #[.int t.2.1 a,.int t.2.2.1 b,z]:=by let v1 v2 v3 e e1 e2 e3:=eN (uo Vn);let a r1:=eE (aP e1);subst r1;let b r1:=eE (aP e2);subst r1;exact eY a b v3 (by rw[←ag6 (xs:=us),e])
 let a b z r3:=vS he;subst r3;exact yI t.1 o z a b k ⟨rfl,abf (aeC (dc t t3)),keep _ _ ho,hc,hd⟩;let t t1 t2 z3 z4:=kI (nI i hi);let u u1 u2 z3 z4:=kI (nI j hj);rw[t2,u2]at e;exact hY i j t u t1 u1 e;let t t1 t2 t3 z4:=kI (nI i hi);change 0≤(ts.getD i d).2.2.1∧(ts.getD i d).2.2.1<1000;rw[t2];exact hb t t3;refine aal ⟨_,rfl,?_⟩;let e he:=eE (sortedAll_at s.heap vs (p.toList.map λi=>vs.getD i aa6).toArray);have R2:=R.alloc (s:=s) (h':=sortedAll s.heap vs (p.toList.map λi=>vs.getD i aa6).toArray) (tk:=s.toks) (a:=s.heap.objs.size+1) (ao:=.list ((p.toList.map λi=>ts.getD i d).map λt=>.ref t.1)) (λb o q=>sortedAll_old q) (aa2 _) he (ba _ _ ⟨rfl,by rw[adi,aba,aba];let i hi:=acP;have E7:i<vs.length:=(by simpa using hp.perm.mem_iff.mp hi);let t t1 t2 t3 t4:=kI (nI i E7);change ab (vs.getD i aa6)= .ref (ts.getD i d).1;rw[t2,t4];rfl⟩);refine⟨_,R2,h _ _ ?_ ?_⟩;have h1:((abu vs.length).map λi=>ts.getD i d)=ts:=by let i:=afK;rw[aag];by_cases hi:i<vs.length;let t t1 t2 z3 z4:=kI (nI i hi);rw[acp hi,t1];change some (ts.getD i d)=_;rw[t2];rw[acz (by simpa using hi),acz (by exact LI hlen hi)];rfl
 exact(hp.perm.map λi=>ts.getD i d).trans (.of_eq h1);rw[aeD];let i j hi hj iD:=acw.mpr;have:=Vm i j iD (by exact DJ (by rw[aaQ,hp.size]:p.toList.length=vs.length) hj);have e1:p.getD i 0=p.toList[i]:=by have:i<p.size:=(by simpa using hi);simp[agw,this]
 have e2:p.getD j 0=p.toList[j]:=by have:j<p.size:=(by simpa using hj);simp[agw,this]
 unfold Kp at this;rw[e1,e2]at this;exact this
theorem B7{ns:List Int}(hm:(l,.list (ns.map .int))∈S.cells)(gU:0<ns.length)(hd:c.hd=none)(h:∀M,M∈ns→(∀a∈ns,a≤M)→Q (.int M) S):bM c n S (.bi "max") [.ref l] Q E:=λf vs hf bx=>W.of λok X A s hA R=>by
 obtain rfl:=dT hf;let v r1 hv:=ak (cP bx);subst r1;obtain rfl:=aj hv;let ws hl p3:=ak (R.list hm);have hi:IntsAre ws.toList ns:=by
  have key:∀(a:List Value) (b:List Int),a.map ab=b.map AV.int→IntsAre a b:=by
   intro a;induction a with
   |nil=>intro b hb;cases b with|nil=>exact .nil|cons _ _=>cases hb
   |cons x a ih=>
    intro b hb;cases b with
    |nil=>cases hb
    |cons y b=>rw[aan,aan,acr]at hb;let t r1:=eE (aP hb.1);subst r1;exact .cons y t (ih b hb.2)
  exact key _ _ p3
 let xs e:=eE hi.allInts.items;have lR:ns=xs.toList.map (λx=>x.1):=by rw[←hi.numsOf,←nums_intItems,←e]
 have ki:0<xs.size:=by have h3:=gU;rw[lR,aaa,aaQ]at h3;exact h3
 have e':ws.toList.toArray=_:=e;rw[ag6]at e';rw[e']at hl;refine ae4 (aak s.toks) (max_intList (In.hd hA hd) hl ki λv h' tk hv hk iR=>?_);let t r1:=eE (intItems_at hv);subst r1;let h1 h2:=eA (argBest_gt (numAt xs) (xs.size-1));refine⟨S,R.keeps (h':=h') (tk:=tk) hk iR,h _ ?_ λa ha=>?_⟩;rw[lR,numAt_eq];exact getD_mem (by rw[aaa,aaQ];exact Nat.lt_of_le_pred ki h1);rw[lR]at ha;let j hj r2:=ak (mem_getD ha);subst r2;rw[aaa,aaQ]at hj;rw[←numAt_eq];exact h2 j (by exact adK hj)
end
end
section
variable{P:Nat→Obj→Prop}
section
variable{c:Cx} {n:Nat} {S:SS} {E:EP} {s:aas} {X:Cells}
theorem W.d8{t:Sem α}{Q:α→SS→Prop}{G:Cells}(h:W c n ⟨loc,C⟩ t Q E):W c n ⟨loc,G++C⟩ t Q E:=.i λok X A s hA R=>h.run ok X A s hA (R.drop (cells':=C++X) (by change ahZ (C++X) ((G++C)++X);rw[aaw];exact ac1 G (C++X)))
theorem aI.at{x y:AO}{X:Cells}(l:Cells):aI a x y (l++(a,x)::X) (l++(a,y)::X):=aI.mid
theorem zB{e:Expr}(h:EE c n ⟨loc,C⟩ e Q E):EE c n ⟨loc,D++C⟩ e Q E:=W.forget h
theorem LP.map{ifs:List Expr}{pos:Pos}{D:Addr}{B:Cells}{Q:SS→Prop}(xs:List AV)(f:AV→Bool)(g:AV→AV)(hz:xs.length≤lim)(hn:∀(i:Nat) (y:AV) (v:Option AV) (G:Cells),xs[i]? =some y→xo c n ⟨[(x,v)],G++B⟩ P i y)(ht:∀(i:Nat) (y:AV) (T:AO) (Z:Bool→SS→Prop),xs[i]? =some y→(∀G,Z (f y) ⟨[(x,some y)],G++(D,T)::B⟩)→TS c n ⟨[(x,some y)],(D,T)::B⟩ ifs Z hW)(he:∀(i:Nat) (y:AV) (T:AO) (Z:AV→SS→Prop),xs[i]? =some y→f y=true→(∀G,Z (g y) ⟨[(x,some y)],G++(D,T)::B⟩)→EE c n ⟨[(x,some y)],(D,T)::B⟩ elt Z hW)(fin:∀(G:Cells) (v:Option AV),xq c n ⟨[(x,v)],G++(D,.list ((xs.filter f).map g))::B⟩ P xs.length∧Q ⟨[(x,v)],G++(D,.list ((xs.filter f).map g))::B⟩):LP c n ⟨[(x,none)],(D,.list [])::B⟩ (.ListComp elt [⟨.Name x px,iter,ifs,0⟩] scope pos) 0 P D Q:=by
 show LP.loop rfl eR xs (λi S=>∃G v,S=⟨[(x,v)],G++(D,.list (((xs.take i).filter f).map g))::B⟩) (ba [] none rfl) ?_;intro i y S1 hx;revert S1;let G v:=ug;have Ho:xs.take (i+1)=xs.take i++[y]:=by rw[aaK,hx];rfl
 refine⟨?_,λu hu=>W.d8 (cA (c:=c) (n:=n) (S:=⟨[(x,v)],(D,.list (((xs.take i).filter f).map g))::B⟩) (Q:=λS2=>TS c n S2 ifs (λok S3=>if ok=true then BD c n S3 elt [⟨.Name x px,iter,ifs,0⟩] scope pos 0 D (λS=>∃G v,S=⟨[(x,v)],G++(D,.list (((xs.take (i+1)).filter f).map g))::B⟩)else∃G v,S3=⟨[(x,v)],G++(D,.list (((xs.take (i+1)).filter f).map g))::B⟩) hW) (E:=hW) .head ?_ u hu)⟩;have:=hn i y v (G++[(D,.list (((xs.take i).filter f).map g))]) hx;rw[aaw]at this;exact this;let G3:=ht i y _ _ hx;cases hb:f y with|false=>rw[if_neg '2'];show ba G3 (some y);rw[Ho,abS,acK (by rw[hb];decide),agE,aaO]|true=>rw[if_pos rfl];refine .inl ⟨rfl,zB (he i y _ _ hx hb λG4=>?_)⟩;refine ba _ _ ⟨aI.at G4,?_,G4,some y,?_⟩;rw[aaa];exact aab (abF _ _) (aab (abh _ _) hz);rw[Ho,abS,acL hb,agE,aaj];rfl
 let G v:=ug;rw[abi];exact fin G v
end
end
section
section
variable{c:Cx} {n:Nat} {S:SS} {E:EP} {s:aas} {X:Cells}
theorem wQ{a:Bool}(h:Q (.bool (!(a==b))) S):CO c n S .NotEq (.bool a) (.bool b) Q E:=λv w hv hw=>W.of λok X A s hA R=>by obtain rfl:=gr hv;obtain rfl:=gr hw;exact EqBoolInt.of_rcne (SeqAt.RcNeAt.bool_bool a b) ⟨S,R,h⟩
theorem Rp.same{x y:AO}(R:Rp c S s)(hx:(a,x)∈S.cells)(hy:(a,y)∈S.cells):x=y:=by
 have nd:(S.cells.map (λx=>x.1)).Nodup:=(aaX.mp (aaB.mp R.nd).2).2.1;have key:∀l:Cells,(l.map (λx=>x.1)).Nodup→(a,x)∈l→(a,y)∈l→x=y:=by
  intro l;induction l with
  |nil=>intro _ h;cases h
  |cons p l ih=>intro nd hx hy;have nd:=aaB.mp nd;rcases aai.mp hx with h1|h1;rcases aai.mp hy with h2|h2;have:=h1.trans h2.symm;injection this;exact absurd (show p.1∈l.map (λx=>x.1)from(congrArg aes h1)▸aat (f:=(λx=>x.1)) h2) nd.1;rcases aai.mp hy with h2|h2;exact absurd (show p.1∈l.map (λx=>x.1)from(congrArg aes h2)▸aat (f:=(λx=>x.1)) h1) nd.1;exact ih nd.2 h1 h2
 exact key _ nd hx hy
theorem B8{m:Nat}{b:Addr}{xs ys:List Str}(hl:(l,.list (xs.map .str))∈S.cells)(hb:(b,.list (ys.map .str))∈S.cells):Dq c (m+1) S (.ref l) (.ref b) (xs==ys):=λX A s hA R v w hv hw=>by
 by_cases gU:l=b;subst gU;have e:=R.same (S:=S.ext X) (aaf _ hl) (aaf _ hb);have e2:xs.map AV.str=ys.map AV.str:=by injection e
 have e3:xs=ys:=by
  have key:∀a b:List Str,a.map AV.str=b.map AV.str→a=b:=by
   intro a;induction a with
   |nil=>intro b hb;cases b with|nil=>rfl|cons _ _=>cases hb
   |cons x a ih=>
    intro b hb;cases b with
    |nil=>cases hb
    |cons y b=>rw[aan,aan,acr]at hb;have h1:x=y:=(by injection hb.1);rw[h1,ih b hb.2]
  exact key _ _ e2
 subst e3;obtain rfl:=aj hv;obtain rfl:=aj hw;rw[beq_self_eq_true];exact SeqAt.EqAt.same _;have:=Bp (c:=c) (S:=S) (m:=m) hl hb gU kT X A s hA R v w hv hw;rw[jo]at this;exact this
end
end
section
variable{a:AV}
def K0(P:aao):Frag:=(Top.KF P).filter λp=>p.1 !=894
def fdOf(o:Obj):aaP:=match o.data with| .func fd=>fd|_=>default
def xZ(l:List (Str×afu)):Bool:=l.all λx=>x.2 != .cell
theorem pC{l:List (Str×afu)}(h:xZ l=true):∀x∈l,x.2≠.cell:=λx hx q=>by have:=aaZ.mp h x hx;rw[q]at this;cases this
def Vo(K:Frag)(n:Str):Option Value:=match nsIn K ab9 n with
 |some (some v)=>some v
 |some none=>ae8 n
 |none=>none
def Zm(K:Frag)(fx:Fx):List (Option afu×Option Value)×Bool:=(fx.gl.map λp=>(fx.cs.names.lookup p.1,Vo K p.1),fx.gl.all λp=> !(p.1=="__debug__")&& !(p.1=="__name__"))
def Zn(fx:Fx):List (Option afu×Option Value)×Bool:=(fx.gl.map λp=>(some .globalImplicit,some p.2),true)
theorem pD{f g:α→β}:∀{l:List α},l.map f=l.map g→∀a∈l,f a=g a|_::_,h,_,.head _=>(aiT h).1|_::_,h,a,.tail _ m=>pD (aiT h).2 a m
theorem dN{K:Frag}(h:autoParam (Zm K fx=Zn fx) apK):bH K fx:=λp hp=>by
 have e:=pD (congrArg aes h) p hp;have d:=aaM _ _▸aaZ.mp (congrArg afg h) p hp;refine⟨congrArg aes e,(ab3 _).mp d.1,?_⟩;have v:Vo K p.1=some p.2:=congrArg afg e;have q:p.1≠"__name__":=λq=>by rw[q]at d;exact absurd d.2 '2'
 unfold Vo at v;split at v
 ·next hx=>rw[hx,v];exact .inl rfl
 ·next hx=>exact .inr ⟨hx,v,q⟩
 cases v
def wR(fx:Fx)(ns:List Str):Bool:=decide ns.Nodup&&ns.all λx=>fx.cs.names.lookup x==some .local&& !(x==("__debug__":Str))
theorem dB(h:wR fx (loc.map (λx=>x.1))=true)(hb:(binds.all λx=>fx.cs.names.lookup x.1==some .local)=true)(hv:loc.map (λp=>(binds.reverse.lookup p.1).map ab)=loc.map (λx=>x.2)):e7 fx binds loc:=by
 unfold wR at h;simp only[aaM,decide_eq_true_eq,aaZ,beq_iff_eq,ab3]at h;refine⟨h.1,h.2,λy hy=>beq_iff_eq.mp (aaZ.mp hb y hy),λp hp=>?_⟩;have key:∀l:List (Str×Option AV),l.map (λp=>(binds.reverse.lookup p.1).map ab)=l.map (λx=>x.2)→∀p∈l,(binds.reverse.lookup p.1).map ab=p.2:=by
  intro l;induction l with
  |nil=>intro _ p hp;cases hp
  |cons a r ih=>intro e p hp;rw[aan,aan,acr]at e;rcases aai.mp hp with rfl|hp;exact e.1;exact ih e.2 p hp
 exact key loc hv p hp
theorem kws_nil(h:kws.map (λp=>(p.1,ab p.2))=[]):kws=[]:=ad0.mp h
def Vp(K:Frag)(fx:Fx)(k:Obj):Option Obj×(Bool×Str×Scope×Value)×(Addr×List (Str×Addr)×Addr×FuncBody)×Bool×Bool×ScopeKind×Bool:=(K.lookup fx.a,(codeIn K (fdOf k).code (fdOf k).qualname,(fdOf k).qualname,(fdOf k).scope,(fdOf k).code),((fdOf k).globals,(fdOf k).closure,(fdOf k).builtins,(fdOf k).body),(fdOf k).scope.isCoroutine,(fdOf k).scope.isGenerator,(fdOf k).scope.kind,xZ (fdOf k).scope.names)
def Vq(fx:Fx)(k:Obj)(b:List Stmt)(g nc:Bool):Option Obj×(Bool×Str×Scope×Value)×(Addr×List (Str×Addr)×Addr×FuncBody)×Bool×Bool×ScopeKind×Bool:=(some ⟨k.cls,k.dict,.func (fdOf k),k.slots⟩,(true,fx.cn,fx.cs,fx.cd),(ab9,[],abg,.stmts b),false,g,.function,nc)
theorem dr{K:Frag}{b:List Stmt}(k:Obj)(h:autoParam (Vp K fx k=Vq fx k b false true) apK):cy K fx (fdOf k) b:=
 have a:=congrArg (λx=>x.2.1) h
 have c:=congrArg (λx=>x.2.2.1) h
 have d:=congrArg (λx=>x.2.2.2) h
 ⟨(eY _ _ _ (congrArg (λx=>x.1) h)),congrArg (λx=>x.1) a,congrArg (λx=>x.2.1) a,congrArg (λx=>x.2.2.1) a,congrArg (λx=>x.2.2.2) a,congrArg (λx=>x.1) c,congrArg (λx=>x.2.1) c,congrArg (λx=>x.2.2.1) c,congrArg (λx=>x.2.2.2) c,congrArg (λx=>x.1) d,congrArg (λx=>x.2.1) d,congrArg (λx=>x.2.2.1) d,pC (congrArg (λx=>x.2.2.2) d)⟩
def IN(fx:Fx)(fd:aao→aaP)(as:List AV)(loc:List (Str×Option AV)):Prop:=∀(s:aas) (P:aao),(K0 P).In s.heap→∀pos kws,pos.map ab=as→kws.map (λp=>(p.1,ab p.2))=[]→∃binds,ac9 s (fd P) ⟨pos,kws⟩ binds∧e7 fx binds loc
def RJ(fx:Fx)(bs:List (Str×Value))(loc:List (Str×Option AV)):Bool×Bool×List (Option AV):=(wR fx (loc.map (λx=>x.1)),bs.all λx=>fx.cs.names.lookup x.1==some .local,loc.map λp=>(bs.reverse.lookup p.1).map ab)
theorem JY{fd:aao→aaP}{pos:List Value}{s:aas}{P:aao}(bs:List (Str×Value))(hk:kws.map (λp=>(p.1,ab p.2))=[])(h1:adb (fd P) ⟨pos,[]⟩=pure bs)(h2:RJ fx bs loc=(true,true,loc.map (λx=>x.2))):∃binds,ac9 s (fd P) ⟨pos,kws⟩ binds∧e7 fx binds loc:=⟨bs,kws_nil hk▸.of_eq h1,dB (congrArg (λx=>x.1) h2) (congrArg (λx=>x.2.1) h2) (congrArg (λx=>x.2.2) h2)⟩
theorem in1{fd:aao→aaP}{loc:AV→List (Str×Option AV)}(n:Str)(h1:autoParam (∀P v,adb (fd P) ⟨[v],[]⟩=pure [(n,v)]) apK)(h2:autoParam (∀v,RJ fx [(n,v)] (loc (ab v))=(true,true,(loc (ab v)).map (λx=>x.2))) apK):IN fx fd [a] (loc a):=λs P zz pos kws hp hk=>by obtain⟨v,rfl,rfl⟩:=cP hp;exact JY _ hk (h1 P v) (h2 v)
theorem Qd{fd:aao→aaP}{b:AV}{loc:AV→AV→List (Str×Option AV)}(n m:Str)(h1:autoParam (∀P v u,adb (fd P) ⟨[v,u],[]⟩=pure [(n,v),(m,u)]) apK)(h2:autoParam (∀v u,RJ fx [(n,v),(m,u)] (loc (ab v) (ab u))=(true,true,(loc (ab v) (ab u)).map (λx=>x.2))) apK):IN fx fd [a,b] (loc a b):=λs P zz pos kws hp hk=>by obtain⟨v,u,rfl,rfl,rfl⟩:=fR hp;exact JY _ hk (h1 P v u) (h2 v u)
theorem Zo{fd:aao→aaP}{b c:AV}{loc:AV→AV→AV→List (Str×Option AV)}(n m o:Str)(h1:autoParam (∀P v u t,adb (fd P) ⟨[v,u,t],[]⟩=pure [(n,v),(m,u),(o,t)]) apK)(h2:autoParam (∀v u t,RJ fx [(n,v),(m,u),(o,t)] (loc (ab v) (ab u) (ab t))=(true,true,(loc (ab v) (ab u) (ab t)).map (λx=>x.2))) apK):IN fx fd [a,b,c] (loc a b c):=λs P zz pos kws hp hk=>by obtain⟨v,u,t,rfl,rfl,rfl,rfl⟩:=uo hp;exact JY _ hk (h1 P v u t) (h2 v u t)
abbrev aa:Fx:={cn:="_iter_escaped_chars",cs:=Top.av (Top.tS 4),a:=51,cd:=.ref 50,gl:=[("enumerate",.type "enumerate")]}
def am:List Stmt:=Top.bodyOf (Top.tS 4)
abbrev d9(P:aao):aaP:=fdOf (Top.SR P)
theorem iG(P:aao):bH (K0 P) aa:=dN
abbrev aU:Fx:={cn:="_strip_quoted_realnames",cs:=Top.av (Top.tS 5),a:=58,cd:=.ref 57,gl:=[("_iter_escaped_chars",.ref 51),("len",.builtin "len")]}
def dv:List Stmt:=Top.bodyOf (Top.tS 5)
abbrev dh(P:aao):aaP:=fdOf (Top.SU P)
theorem f0(P:aao):bH (K0 P) aU:=dN
theorem f9(P:aao):cy (K0 P) aU (dh P) dv:=dr (Top.SU P)
abbrev bq:Fx:={cn:="_check_parenthesis",cs:=Top.av (Top.tS 6),a:=65,cd:=.ref 64,gl:=[("_strip_quoted_realnames",.ref 58),("_iter_escaped_chars",.ref 51)]}
def jt:List Stmt:=Top.bodyOf (Top.tS 6)
abbrev eD(P:aao):aaP:=fdOf (Top.SV P)
theorem i3(P:aao):bH (K0 P) bq:=dN
theorem i4(P:aao):cy (K0 P) bq (eD P) jt:=dr (Top.SV P)
abbrev bt:Fx:={cn:="_pre_parse_validation",cs:=Top.av (Top.tS 7),a:=72,cd:=.ref 71,gl:=[("_check_parenthesis",.ref 65)]}
def ig:List Stmt:=Top.bodyOf (Top.tS 7)
abbrev dC(P:aao):aaP:=fdOf (Top.SW P)
theorem gV(P:aao):bH (K0 P) bt:=dN
theorem gW(P:aao):cy (K0 P) bt (dC P) ig:=dr (Top.SW P)
abbrev bS:Fx:={cn:="_NodeInfo.__init__",cs:=Top.av (Top.cS 11 1),a:=87,cd:=.ref 86,gl:=[]}
def ju:List Stmt:=Top.bodyOf (Top.cS 11 1)
abbrev eF(P:aao):aaP:=fdOf (Top.SX P)
theorem i5(P:aao):bH (K0 P) bS:=λp hp=>nomatch hp
theorem i6(P:aao):cy (K0 P) bS (eF P) ju:=dr (Top.SX P)
abbrev a_:Fx:={cn:="TopologicalSorter.__init__",cs:=Top.av (Top.cS 13 0),a:=124,cd:=.ref 123,gl:=[]}
def fj:List Stmt:=Top.bodyOf (Top.cS 13 0)
abbrev bB(P:aao):aaP:=fdOf (Top.HM P)
theorem e9(P:aao):bH (K0 P) a_:=λp hp=>nomatch hp
theorem e_(P:aao):cy (K0 P) a_ (bB P) fj:=dr (Top.HM P)
abbrev aJ:Fx:={cn:="TopologicalSorter._get_nodeinfo",cs:=Top.av (Top.cS 13 1),a:=131,cd:=.ref 130,gl:=[("_NodeInfo",.ref 91)]}
def dX:List Stmt:=Top.bodyOf (Top.cS 13 1)
abbrev bQ(P:aao):aaP:=fdOf (Top.HN P)
theorem dO(P:aao):bH (K0 P) aJ:=dN
theorem dP(P:aao):cy (K0 P) aJ (bQ P) dX:=dr (Top.HN P)
abbrev bb:Fx:={cn:="TopologicalSorter.add",cs:=Top.av (Top.cS 13 2),a:=138,cd:=.ref 137,gl:=[("ValueError",.type "ValueError"),("len",.builtin "len")]}
def ii:List Stmt:=Top.bodyOf (Top.cS 13 2)
abbrev b6(P:aao):aaP:=fdOf (Top.HO P)
theorem dD(P:aao):bH (K0 P) bb:=dN
theorem dE(P:aao):cy (K0 P) bb (b6 P) ii:=dr (Top.HO P)
abbrev aN:Fx:={cn:="TopologicalSorter.prepare",cs:=Top.av (Top.cS 13 3),a:=143,cd:=.ref 142,gl:=[("ValueError",.type "ValueError"),("CycleError",.ref 106)]}
def fG:List Stmt:=Top.bodyOf (Top.cS 13 3)
abbrev cQ(P:aao):aaP:=fdOf (Top.HP P)
theorem cT(P:aao):bH (K0 P) aN:=dN
theorem cU(P:aao):cy (K0 P) aN (cQ P) fG:=dr (Top.HP P)
abbrev aF:Fx:={cn:="TopologicalSorter.get_ready",cs:=Top.av (Top.cS 13 4),a:=150,cd:=.ref 149,gl:=[("ValueError",.type "ValueError"),("tuple",.type "tuple"),("_NODE_OUT",.int (-1) 377),("len",.builtin "len")]}
def fa:List Stmt:=Top.bodyOf (Top.cS 13 4)
abbrev b9(P:aao):aaP:=fdOf (Top.HQ P)
theorem b_(P:aao):bH (K0 P) aF:=dN
theorem ca(P:aao):cy (K0 P) aF (b9 P) fa:=dr (Top.HQ P)
abbrev aG:Fx:={cn:="TopologicalSorter.is_active",cs:=Top.av (Top.cS 13 5),a:=157,cd:=.ref 156,gl:=[("ValueError",.type "ValueError"),("bool",.type "bool")]}
def fc:List Stmt:=Top.bodyOf (Top.cS 13 5)
abbrev cb(P:aao):aaP:=fdOf (Top.HR P)
theorem ci(P:aao):bH (K0 P) aG:=dN
theorem cj(P:aao):cy (K0 P) aG (cb P) fc:=dr (Top.HR P)
abbrev aX:Fx:={cn:="TopologicalSorter.done",cs:=Top.av (Top.cS 13 7),a:=171,cd:=.ref 170,gl:=[("ValueError",.type "ValueError"),("_NODE_OUT",.int (-1) 377),("_NODE_DONE",.int (-2) 380)]}
def gX:List Stmt:=Top.bodyOf (Top.cS 13 7)
abbrev bT(P:aao):aaP:=fdOf (Top.HS P)
theorem dw(P:aao):bH (K0 P) aX:=dN
theorem dy(P:aao):cy (K0 P) aX (bT P) gX:=dr (Top.HS P)
abbrev aO:Fx:={cn:="TopologicalSorter._find_cycle",cs:=Top.av (Top.cS 13 8),a:=178,cd:=.ref 177,gl:=[("set",.type "set"),("iter",.builtin "iter"),("len",.builtin "len"),("StopIteration",.type "StopIteration")]}
def ey:List Stmt:=Top.bodyOf (Top.cS 13 8)
abbrev bW(P:aao):aaP:=fdOf (Top.HT P)
theorem d_(P:aao):bH (K0 P) aO:=dN
theorem ec(P:aao):cy (K0 P) aO (bW P) ey:=dr (Top.HT P)
abbrev jD:Fx:={cn:="_index",cs:=Top.av (Top.tS 17),a:=211,cd:=.ref 210,gl:=[("type",.type "type"),("int",.type "int"),("bool",.type "bool"),("_wall",.ref 44)]}
def B9:List Stmt:=Top.bodyOf (Top.tS 17)
abbrev q9(P:aao):aaP:=fdOf (Top.HU P)
theorem zC(P:aao):bH (K0 P) jD:=dN
theorem zD(P:aao):cy (K0 P) jD (q9 P) B9:=dr (Top.HU P)
abbrev ef:Fx:={cn:="IOBase.__new__",cs:=Top.av (Top.cS 19 1),a:=238,cd:=.ref 237,gl:=[("BytesIO",.ref 498),("StringIO",.ref 745),("_wall",.ref 44),("object",.type "object")]}
def mB:List Stmt:=Top.bodyOf (Top.cS 19 1)
abbrev gz(P:aao):aaP:=fdOf (Top.HV P)
theorem kX(P:aao):bH (K0 P) ef:=dN
theorem kY(P:aao):cy (K0 P) ef (gz P) mB:=dr (Top.HV P)
abbrev bX:Fx:={cn:="StringIO.__init__",cs:=Top.av (Top.cS 23 1),a:=515,cd:=.ref 514,gl:=[("type",.type "type"),("str",.type "str"),("_wall",.ref 44),("ValueError",.type "ValueError")]}
def jM:List Stmt:=Top.bodyOf (Top.cS 23 1)
abbrev dj(P:aao):aaP:=fdOf (Top.HW P)
theorem jv(P:aao):bH (K0 P) bX:=dN
theorem jw(P:aao):cy (K0 P) bX (dj P) jM:=dr (Top.HW P)
abbrev bu:Fx:={cn:="StringIO.__translated",cs:=Top.av (Top.cS 23 2),a:=522,cd:=.ref 521,gl:=[]}
def ij:List Stmt:=Top.bodyOf (Top.cS 23 2)
abbrev dG(P:aao):aaP:=fdOf (Top.HX P)
theorem gY(P:aao):bH (K0 P) bu:=λp hp=>nomatch hp
theorem gZ(P:aao):cy (K0 P) bu (dG P) ij:=dr (Top.HX P)
abbrev b7:Fx:={cn:="StringIO.__check",cs:=Top.av (Top.cS 23 3),a:=529,cd:=.ref 528,gl:=[("ValueError",.type "ValueError")]}
def ku:List Stmt:=Top.bodyOf (Top.cS 23 3)
abbrev ft(P:aao):aaP:=fdOf (Top.HY P)
theorem jN(P:aao):bH (K0 P) b7:=dN
theorem jO(P:aao):cy (K0 P) b7 (ft P) ku:=dr (Top.HY P)
abbrev dt:Fx:={cn:="StringIO.read",cs:=Top.av (Top.cS 23 25),a:=691,cd:=.ref 690,gl:=[("_index",.ref 211),("len",.builtin "len")]}
def iU:List Stmt:=Top.bodyOf (Top.cS 23 25)
abbrev eJ(P:aao):aaP:=fdOf (Top.HZ P)
theorem mC(P:aao):bH (K0 P) dt:=dN
theorem mD(P:aao):cy (K0 P) dt (eJ P) iU:=dr (Top.HZ P)
abbrev c8:Fx:={cn:="shlex.__init__",cs:=Top.av (Top.cS 33 0),a:=804,cd:=.ref 803,gl:=[("isinstance",.builtin "isinstance"),("str",.type "str"),("StringIO",.ref 745),("_wall",.ref 44),("deque",.type "collections.deque"),("dict",.type "dict")]}
def mF:List Stmt:=Top.bodyOf (Top.cS 33 0)
abbrev eh(P:aao):aaP:=fdOf (Top.H3 P)
theorem kZ(P:aao):bH (K0 P) c8:=dN
theorem k9(P:aao):cy (K0 P) c8 (eh P) mF:=dr (Top.H3 P)
abbrev bn:Fx:={cn:="shlex.punctuation_chars",cs:=Top.av (Top.cS 33 1),a:=811,cd:=.ref 810,gl:=[]}
def gp:List Stmt:=Top.bodyOf (Top.cS 33 1)
abbrev dk(P:aao):aaP:=fdOf (Top.H4 P)
theorem f_(P:aao):bH (K0 P) bn:=λp hp=>nomatch hp
theorem ga(P:aao):cy (K0 P) bn (dk P) gp:=dr (Top.H4 P)
abbrev cD:Fx:={cn:="shlex.get_token",cs:=Top.av (Top.cS 33 5),a:=841,cd:=.ref 840,gl:=[("print",.builtin "print"),("repr",.builtin "repr")]}
def k_:List Stmt:=Top.bodyOf (Top.cS 33 5)
abbrev gb(P:aao):aaP:=fdOf (Top.H6 P)
theorem ky(P:aao):bH (K0 P) cD:=dN
theorem kz(P:aao):cy (K0 P) cD (gb P) k_:=dr (Top.H6 P)
abbrev ai:Fx:={cn:="shlex.read_token",cs:=Top.av (Top.cS 33 6),a:=848,cd:=.ref 847,gl:=[("print",.builtin "print"),("ValueError",.type "ValueError"),("repr",.builtin "repr")]}
def cF:List Stmt:=Top.bodyOf (Top.cS 33 6)
abbrev fu(P:aao):aaP:=fdOf (Top.H7 P)
theorem fw(P:aao):bH (K0 P) ai:=dN
theorem fy(P:aao):cy (K0 P) ai (fu P) cF:=dr (Top.H7 P)
abbrev c9:Fx:={cn:="shlex.__iter__",cs:=Top.av (Top.cS 33 9),a:=870,cd:=.ref 869,gl:=[]}
def mG:List Stmt:=Top.bodyOf (Top.cS 33 9)
abbrev gA(P:aao):aaP:=fdOf (Top.H8 P)
theorem lc(P:aao):bH (K0 P) c9:=λp hp=>nomatch hp
theorem le(P:aao):cy (K0 P) c9 (gA P) mG:=dr (Top.H8 P)
abbrev c_:Fx:={cn:="shlex.__next__",cs:=Top.av (Top.cS 33 10),a:=877,cd:=.ref 876,gl:=[("StopIteration",.type "StopIteration")]}
def mH:List Stmt:=Top.bodyOf (Top.cS 33 10)
abbrev gB(P:aao):aaP:=fdOf (Top.H9 P)
theorem lf(P:aao):bH (K0 P) c_:=dN
theorem lh(P:aao):cy (K0 P) c_ (gB P) mH:=dr (Top.H9 P)
abbrev lj:Fx:={cn:="split",cs:=Top.av (Top.tS 34),a:=892,cd:=.ref 891,gl:=[("ValueError",.type "ValueError"),("shlex",.ref 880),("list",.type "list")]}
def E8:List Stmt:=Top.bodyOf (Top.tS 34)
abbrev pE(P:aao):aaP:=fdOf (Top.H_ P)
theorem B_(P:aao):bH (K0 P) lj:=dN
theorem Ca(P:aao):cy (K0 P) lj (pE P) E8:=dr (Top.H_ P)
abbrev eT:Fx:={cn:="join",cs:=Top.av (Top.tS 35),a:=899,cd:=.ref 898,gl:=[]}
def ll:List Stmt:=Top.bodyOf (Top.tS 35)
abbrev j6(P:aao):aaP:=fdOf (Top.Ib P)
theorem qh(P:aao):bH (K0 P) eT:=λp hp=>nomatch hp
theorem qi(P:aao):cy (K0 P) eT (j6 P) ll:=dr (Top.Ib P)
abbrev lm:Fx:={cn:="quote",cs:=Top.av (Top.tS 38),a:=907,cd:=.ref 906,gl:=[("_find_unsafe",.ref 900)]}
def E9:List Stmt:=Top.bodyOf (Top.tS 38)
abbrev uS(P:aao):aaP:=fdOf (Top.Ic P)
theorem Cb(P:aao):bH (K0 P) lm:=dN
theorem Cc(P:aao):cy (K0 P) lm (uS P) E9:=dr (Top.Ic P)
abbrev bJ:Fx:={cn:="_law_rows",cs:=Top.av (Top.tS 40),a:=912,cd:=.ref 911,gl:=[("range",.type "range"),("len",.builtin "len")]}
def uT:List Stmt:=Top.bodyOf (Top.tS 40)
abbrev lq(P:aao):aaP:=fdOf (Top.Id P)
theorem sF(P:aao):bH (K0 P) bJ:=dN
abbrev fH:Fx:={cn:="_law_line",cs:=Top.av (Top.tS 41),a:=917,cd:=.ref 916,gl:=[]}
def uU:List Stmt:=Top.bodyOf (Top.tS 41)
abbrev lr(P:aao):aaP:=fdOf (Top.Ie P)
theorem sG(P:aao):bH (K0 P) fH:=λp hp=>nomatch hp
theorem sH(P:aao):cy (K0 P) fH (lr P) uU:=dr (Top.Ie P)
abbrev ei:Fx:={cn:="_law_closes",cs:=Top.av (Top.tS 42),a:=924,cd:=.ref 923,gl:=[("len",.builtin "len")]}
def qj:List Stmt:=Top.bodyOf (Top.tS 42)
abbrev jx(P:aao):aaP:=fdOf (Top.Ig P)
theorem pG(P:aao):bH (K0 P) ei:=dN
theorem pH(P:aao):cy (K0 P) ei (jx P) qj:=dr (Top.Ig P)
abbrev eU:Fx:={cn:="_law_table",cs:=Top.av (Top.tS 43),a:=931,cd:=.ref 930,gl:=[]}
def sJ:List Stmt:=Top.bodyOf (Top.tS 43)
abbrev j7(P:aao):aaP:=fdOf (Top.Ih P)
theorem qk(P:aao):bH (K0 P) eU:=λp hp=>nomatch hp
theorem ql(P:aao):cy (K0 P) eU (j7 P) sJ:=dr (Top.Ih P)
abbrev fJ:Fx:={cn:="_law_shut",cs:=Top.av (Top.tS 44),a:=938,cd:=.ref 937,gl:=[("ValueError",.type "ValueError")]}
def uW:List Stmt:=Top.bodyOf (Top.tS 44)
abbrev lu(P:aao):aaP:=fdOf (Top.Ii P)
theorem sK(P:aao):bH (K0 P) fJ:=dN
theorem sL(P:aao):cy (K0 P) fJ (lu P) uW:=dr (Top.Ii P)
abbrev eV:Fx:={cn:="_law_fixed",cs:=Top.av (Top.tS 45),a:=945,cd:=.ref 944,gl:=[("CycleError",.ref 106),("ValueError",.type "ValueError")]}
def sM:List Stmt:=Top.bodyOf (Top.tS 45)
abbrev j8(P:aao):aaP:=fdOf (Top.Ij P)
theorem qm(P:aao):bH (K0 P) eV:=dN
theorem qo(P:aao):cy (K0 P) eV (j8 P) sM:=dr (Top.Ij P)
abbrev dI:Fx:={cn:="_law_refused",cs:=Top.av (Top.tS 46),a:=952,cd:=.ref 951,gl:=[("ValueError",.type "ValueError")]}
def pI:List Stmt:=Top.bodyOf (Top.tS 46)
abbrev iV(P:aao):aaP:=fdOf (Top.Ik P)
theorem nJ(P:aao):bH (K0 P) dI:=dN
theorem nK(P:aao):cy (K0 P) dI (iV P) pI:=dr (Top.Ik P)
abbrev bK:Fx:={cn:="_law_next",cs:=Top.av (Top.tS 47),a:=957,cd:=.ref 956,gl:=[("range",.type "range"),("len",.builtin "len"),("max",.builtin "max"),("sorted",.builtin "sorted")]}
def uX:List Stmt:=Top.bodyOf (Top.tS 47)
abbrev lw(P:aao):aaP:=fdOf (Top.Il P)
theorem sN(P:aao):bH (K0 P) bK:=dN
abbrev gD:Fx:={cn:="_law_run",cs:=Top.av (Top.tS 48),a:=964,cd:=.ref 963,gl:=[("_law_next",.ref 957),("tuple",.type "tuple"),("len",.builtin "len"),("_law_refused",.ref 952)]}
def wS:List Stmt:=Top.bodyOf (Top.tS 48)
abbrev nb(P:aao):aaP:=fdOf (Top.Im P)
theorem uY(P:aao):bH (K0 P) gD:=dN
theorem uZ(P:aao):cy (K0 P) gD (nb P) wS:=dr (Top.Im P)
abbrev bd:Fx:={cn:="law",cs:=Top.av (Top.tS 49),a:=969,cd:=.ref 968,gl:=[("_law_rows",.ref 912),("_pre_parse_validation",.ref 72),("range",.type "range"),("len",.builtin "len"),("_law_table",.ref 931),("TopologicalSorter",.ref 188),("_law_shut",.ref 938),("CycleError",.ref 106),("_law_fixed",.ref 945),("_law_run",.ref 964),("_law_refused",.ref 952)]}
def da:List Stmt:=Top.bodyOf (Top.tS 49)
abbrev sO(P:aao):aaP:=fdOf (Top.Io P)
theorem JZ(P:aao):bH (K0 P) bd:=dN
abbrev gc(a0:AV):List (Str×Option AV):=[("addr",some a0),("start",none),("open_pos",none),("result",none),("pos",none),("ch",none)]
theorem gf:IN aU dh [a0] (gc a0):=in1 "addr"
abbrev i7(a0:AV):List (Str×Option AV):=[("addr",some a0),("opens",none),("pos",none),("ch",none)]
theorem i8:IN bq eD [a0] (i7 a0):=in1 "addr"
abbrev g7(a0:AV):List (Str×Option AV):=[("email_header_fields",some a0),("accepted_values",none),("v",none)]
theorem g8:IN bt dC [a0] (g7 a0):=in1 "email_header_fields"
abbrev i9(a0 a1:AV):List (Str×Option AV):=[("self",some a0),("node",some a1)]
theorem i_{a1:AV}:IN bS eF [a0,a1] (i9 a0 a1):=Qd "self" "node"
abbrev dQ(a0 a1:AV):List (Str×Option AV):=[("self",some a0),("node",some a1),("result",none)]
theorem dR{a1:AV}:IN aJ bQ [a0,a1] (dQ a0 a1):=Qd "self" "node"
abbrev fm(a0:AV):List (Str×Option AV):=[("self",some a0),("cycle",none)]
theorem cV:IN aN cQ [a0] (fm a0):=in1 "self"
abbrev eK(a0:AV):List (Str×Option AV):=[("self",some a0),("result",none),("n2i",none),("node",none)]
theorem ck:IN aF b9 [a0] (eK a0):=in1 "self"
abbrev eM(a0:AV):List (Str×Option AV):=[("self",some a0)]
theorem cq:IN aG cb [a0] (eM a0):=in1 "self"
abbrev ej(a0:AV):List (Str×Option AV):=[("self",some a0),("n2i",none),("stack",none),("itstack",none),("seen",none),("node2stacki",none),("node",none)]
theorem ek:IN aO bW [a0] (ej a0):=in1 "self"
abbrev zE(a0 a1:AV):List (Str×Option AV):=[("n",some a0),("what",some a1)]
theorem zF{a1:AV}:IN jD q9 [a0,a1] (zE a0 a1):=Qd "n" "what"
abbrev g9(a0 a1:AV):List (Str×Option AV):=[("self",some a0),("s",some a1),("newline",none)]
theorem g_{a1:AV}:IN bu dG [a0,a1] (g9 a0 a1):=Qd "self" "s"
abbrev jP(a0:AV):List (Str×Option AV):=[("self",some a0)]
theorem jQ:IN b7 ft [a0] (jP a0):=in1 "self"
abbrev gg(a0:AV):List (Str×Option AV):=[("self",some a0)]
theorem gh:IN bn dk [a0] (gg a0):=in1 "self"
abbrev kA(a0:AV):List (Str×Option AV):=[("self",some a0),("tok",none),("raw",none),("spec",none),("newfile",none),("newstream",none)]
theorem kB:IN cD gb [a0] (kA a0):=in1 "self"
abbrev jR(a0:AV):List (Str×Option AV):=[("self",some a0),("quoted",none),("escapedstate",none),("nextchar",none),("result",none)]
theorem fz:IN ai fu [a0] (jR a0):=in1 "self"
abbrev lx(a0:AV):List (Str×Option AV):=[("self",some a0)]
theorem ly:IN c9 gA [a0] (lx a0):=in1 "self"
abbrev lA(a0:AV):List (Str×Option AV):=[("self",some a0),("token",none)]
theorem lB:IN c_ gB [a0] (lA a0):=in1 "self"
abbrev qp(a0:AV):List (Str×Option AV):=[("split_command",some a0)]
theorem qq:IN eT j6 [a0] (qp a0):=in1 "split_command"
abbrev Cd(a0:AV):List (Str×Option AV):=[("s",some a0)]
theorem Ce:IN lm uS [a0] (Cd a0):=in1 "s"
abbrev sP(a0:AV):List (Str×Option AV):=[("words",some a0),("written",none),("word",none),("inner",none)]
theorem sQ:IN fH lr [a0] (sP a0):=in1 "words"
abbrev pJ(a0:AV):List (Str×Option AV):=[("line",some a0),("units",none),("place",none),("marks",none),("bare",none),("unit",none)]
theorem pK:IN ei jx [a0] (pJ a0):=in1 "line"
abbrev qr(a0:AV):List (Str×Option AV):=[("rows",some a0),("table",none),("row",none)]
theorem qs:IN eU j7 [a0] (qr a0):=in1 "rows"
abbrev sR(a0:AV):List (Str×Option AV):=[("sorter",some a0),("count",none)]
theorem sS:IN fJ lu [a0] (sR a0):=in1 "sorter"
abbrev qt(a0:AV):List (Str×Option AV):=[("sorter",some a0)]
theorem qw:IN eV j8 [a0] (qt a0):=in1 "sorter"
abbrev nL(a0 a1:AV):List (Str×Option AV):=[("sorter",some a0),("names",some a1)]
theorem nM{a1:AV}:IN dI iV [a0,a1] (nL a0 a1):=Qd "sorter" "names"
abbrev u_(a0 a1 a2:AV):List (Str×Option AV):=[("sorter",some a0),("names",some a1),("edges",some a2),("given",none),("done",none),("waiting",none),("fresh",none),("name",none)]
theorem vb{a1 a2:AV}:IN gD nb [a0,a1,a2] (u_ a0 a1 a2):=Zo "sorter" "names" "edges"
end
section
def Qe:List Addr:=[51,58,65,72,87,124,131,138,143,150,157,171,178,211,238,515,522,529,691,804,811,841,848,870,877,892,899,907,912,917,924,931,938,945,952,957,964,969,91,188,745,880]
theorem kp(a:Addr)(h:Qe.contains a=true)(P:aao):ai0 (K0 P) (.ref a)=true:=by
 have:Qe.all (λa=>ai0 (K0 P) (.ref a))=true:=by kernel_rfl
 exact aaZ.mp this a (by simpa using h)
theorem Vr{K:Frag}{b:List Stmt}(k:Obj)(h:autoParam (Vp K fx k=Vq fx k b true true) apK):Ja K fx (fdOf k) b:=
 have a:=congrArg (λx=>x.2.1) h
 have c:=congrArg (λx=>x.2.2.1) h
 have d:=congrArg (λx=>x.2.2.2) h
 ⟨(eY _ _ _ (congrArg (λx=>x.1) h)),congrArg (λx=>x.1) a,congrArg (λx=>x.2.1) a,congrArg (λx=>x.2.2.1) a,congrArg (λx=>x.2.2.2) a,congrArg (λx=>x.1) c,congrArg (λx=>x.2.1) c,congrArg (λx=>x.2.2.1) c,congrArg (λx=>x.2.2.2) c,congrArg (λx=>x.1) d,congrArg (λx=>x.2.1) d,congrArg (λx=>x.2.2.1) d,pC (congrArg (λx=>x.2.2.2) d)⟩
theorem iH(P:aao):Ja (K0 P) aa (d9 P) am:=Vr (Top.SR P)
abbrev af(a pos esc:AV)(ch:Option AV):List (Str×Option AV):=[("addr",some a),("pos",some pos),("escape",some esc),("ch",ch)]
abbrev cu(a:AV):List (Str×Option AV):=[("addr",some a),("pos",none),("escape",none),("ch",none)]
theorem iI:∀(s:aas) (P:aao),(K0 P).In s.heap→∀pos kws,pos.map ab=[a0]→kws.map (λp=>(p.1,ab p.2))=[]→∃binds,ac9 s (d9 P) ⟨pos,kws⟩ binds∧e7 aa binds (cu a0):=by intro s P _ pos kws hp hk;obtain rfl:=kws_nil hk;let v0 r1 r2:=ak (cP hp);subst r1;subst r2;exact⟨[("addr",v0)],.of_eq '3',dB '3' '3' '3'⟩
theorem aW:(∀x∈(["addr","pos","escape","ch"]:List Str),aa.cs.names.lookup x=some .local∧(x==("__debug__":Str))=false)∧(["addr","pos","escape","ch"]:List Str).Nodup:=by
 have h:wR aa ["addr","pos","escape","ch"]=true:=by kernel_rfl
 unfold wR at h;simp only[aaM,decide_eq_true_eq,aaZ,beq_iff_eq,ab3]at h;exact⟨h.2,h.1⟩
end
section
variable{C f:Addr}
abbrev zG:List (Addr×Str×Addr):=[(745,"_StringIO__check",529),(745,"_StringIO__translated",522),(745,"read",691),(880,"get_token",841),(880,"read_token",848),(188,"add",138),(188,"_get_nodeinfo",131),(188,"_find_cycle",178),(188,"prepare",143),(188,"get_ready",150),(188,"is_active",157),(188,"done",171)]
theorem Vs(P:aao):zG.all (λp=>me (K0 P) p.1 p.2.1 p.2.2)=true:=by kernel_rfl
theorem Zp{nm:Str}(hK:c.K=K0 c.w.params)(h:At (C,nm,f) zG):me c.K C nm f=true:=by rw[hK];exact aaZ.mp (Vs c.w.params) _ h.mem
abbrev J0:List (Addr×Str):=[(745,"_StringIO__newline"),(745,"_StringIO__buf"),(745,"_StringIO__pos"),(880,"instream"),(880,"infile"),(880,"posix"),(880,"eof"),(880,"commenters"),(880,"wordchars"),(880,"whitespace"),(880,"whitespace_split"),(880,"quotes"),(880,"escape"),(880,"escapedquotes"),(880,"state"),(880,"pushback"),(880,"lineno"),(880,"debug"),(880,"token"),(880,"filestack"),(880,"source"),(880,"_punctuation_chars"),(188,"_node2info"),(188,"_ready_nodes"),(188,"_npassedout"),(188,"_nfinished")]
theorem Qg(P:aao):J0.all (λp=>attrOk (K0 P) p.1 p.2&&dg (K0 P) p.1 p.2)=true:=by kernel_rfl
theorem Vt{nm:Str}(hK:c.K=K0 c.w.params)(h:At (C,nm) J0):attrOk c.K C nm=true:=by rw[hK];exact(adS.mp (aaZ.mp (Qg c.w.params) _ h.mem)).1
theorem Vu{nm:Str}(hK:c.K=K0 c.w.params)(h:At (C,nm) J0):dg c.K C nm=true:=by rw[hK];exact(adS.mp (aaZ.mp (Qg c.w.params) _ h.mem)).2
theorem Zq(hK:c.K=K0 c.w.params):wI c.K 880 "punctuation_chars" 812 811=true:=by rw[hK];kernel_rfl
abbrev mI(nl bf p:AV):List (Str×AV):=[("_StringIO__newline",nl),("_StringIO__buf",bf),("_StringIO__pos",p)]
abbrev zH(a0 a1 a2 a3 a4 a5 a6 a7 a8 a9 a10 a11 a12 a13 a14 a15 a16 a17 a18:AV):List (Str×AV):=[("instream",a0),("infile",a1),("posix",a2),("eof",a3),("commenters",a4),("wordchars",a5),("whitespace",a6),("whitespace_split",a7),("quotes",a8),("escape",a9),("escapedquotes",a10),("state",a11),("pushback",a12),("lineno",a13),("debug",a14),("token",a15),("filestack",a16),("source",a17),("_punctuation_chars",a18)]
abbrev kH(a b c d:AV):List (Str×AV):=[("_node2info",a),("_ready_nodes",b),("_npassedout",c),("_nfinished",d)]
theorem sT{l:List Str}{nm:Str}(h:es.map (λx=>x.1)=l)(hn:l.all (λx=> !(x==nm))=true):dU es nm=none:=by subst h;induction es with|nil=>rfl|cons p r ih=>simp only[aan,adB,aaM,ab3,beq_eq_false_iff_ne]at hn;unfold dU;rw[if_neg hn.1];exact ih (by simpa using hn.2)
abbrev Vv:List Str:=["_StringIO__newline","_StringIO__buf","_StringIO__pos"]
abbrev Vw:List Str:=["instream","infile","posix","eof","commenters","wordchars","whitespace","whitespace_split","quotes","escape","escapedquotes","state","pushback","lineno","debug","token","filestack","source","_punctuation_chars"]
abbrev Zr:List Str:=["_node2info","_ready_nodes","_npassedout","_nfinished"]
theorem Vx:(zG.all λp=>(if p.1=745 then Vv else if p.1=880 then Vw else Zr).all λx=> !(x==p.2.1))=true:=by kernel_rfl
theorem J1{a b c:AV}{nm:Str}(h:At (745,nm,f) zG):dU (mI a b c) nm=none:=sT rfl (aaZ.mp Vx _ h.mem)
theorem J2{a1 a2 a3 a4 a5 a6 a7 a8 a9 a18:AV}{nm:Str}(h:At (880,nm,f) zG):dU (zH a0 a1 a2 a3 a4 a5 a6 a7 a8 a9 a10 a11 a12 a13 a14 a15 a16 a17 a18) nm=none:=sT rfl (aaZ.mp Vx _ h.mem)
theorem Qh{a b c d:AV}{nm:Str}(h:At (188,nm,f) zG):dU (kH a b c d) nm=none:=sT rfl (aaZ.mp Vx _ h.mem)
end
section
variable{m:Nat} {s₀:aas} {H:Value→Sem Fin} {gd:Bool→Bool} {lv:List Value→List Value} {Sf:Nat→SS}
def mJ:List Nat→Nat→Bool→List (AV×AV)|[],j,true=>[(.int ((j-1:Nat):Int),.str "\\")]|[],_,false=>[]|d::r,j,true=>(.int (j:Int),.str ("\\"++⟨#[d]⟩))::mJ r (j+1) false|d::r,j,false=>if((⟨#[d]⟩:Str)=="\\")=true then mJ r (j+1) true else(.int (j:Int),.str ⟨#[d]⟩)::mJ r (j+1) false
def dY(x:Str):List (AV×AV):=mJ x.cps.toList 0 false
def pL(l:List Stmt)(i:Nat):Stmt:=(l.drop i).headD (.Pass ⟨0,0,0,0⟩)
def sU:Stmt→Expr| .For t _ _ _ _=>t|_=>.Name "" ⟨0,0,0,0⟩
def E_:Stmt→Expr| .For _ t _ _ _=>t|_=>.Name "" ⟨0,0,0,0⟩
def og:Stmt→List Stmt| .For _ _ b _ _=>b| .While _ b _ _=>b|_=>[]
theorem Cg{f:Flow}(h:OE f= .next):f= .next:=by cases f<;>first|rfl|cases h
theorem In.gen{G:Array ach}(hA:c.In A (m+1)):((c.bc G).enter fx mm L).In (A.in1.over (.func body (be fx L)) []) m:=by let h1 h2 h3 h4:=jc hA;refine⟨?_,h2,?_,?_⟩;rw[Cx.dp (c:=(c.bc G).enter fx mm L) rfl,Cx.e8];change af6 [be fx L] (af6 [] A.frames)=_;rw[h1];rfl;change A.depth+0+1+m<_;exact WP h3;change A.units+1+0+3+8*m<_;exact WQ h4
theorem In.Fa{G:Array ach}{tgt:Expr}{it:Value}{b o:List Stmt}{KK:ahu→Sem Fin}{g:Bool}{l kp:List Value}(hA:c.In A (m+1)):((c.bc G).enter fx mm L).In (A.in1.over (.forLoop tgt it b o (be fx L)) [.ret KK none g l (.func body (be fx L)) p kp]) m:=by let h1 h2 h3 h4:=jc hA;refine⟨?_,h2,?_,?_⟩;rw[Cx.dp (c:=(c.bc G).enter fx mm L) rfl,Cx.e8];change af6 [] (af6 [be fx L] A.frames)=_;rw[h1];rfl;change A.depth+1+0+m<_;exact Ye h3;change A.units+1+3+0+8*m<_;exact Sj h4
theorem sV{s:aas}{X:Cells}{R:GenEnd}{Y:Protocol}{fs:List Frame}{K:Flow→Sem Fin}{st:Stmt}(S':SS)(ok:c.Ok) (hA:c.In (A.over cd fs) n) (R1:Rp c (S.ext X) s) (h:ES c n S st (λf S1=>f= .next∧S1=S') hW) (hk:∀s',Rp c (S'.ext X) s'→Seg (model prog c.w) A R Y k s₀ cd (K .next) fs s'):Seg (model prog c.w) A R Y k s₀ cd ((exec st c.env).wrap K H gd lv) fs s:=
 OU (Q:=λf S1=>f= .next∧S1=S') ok hA R1 (h.az λf S1 h=>⟨Cg h.1,h.2⟩) λv s' S1 R' h8=>eA h8 λe1 e2=>by subst e1 e2;exact hk s' R'
theorem x9(hK:c.K=K0 c.w.params)(hd:c.hd=none)(hc:c.comp=false)(hx:x.length≤1000):TZ c (n+2) Sf (.ref 51) [.str x] (dY x):=by
 intro v vs hv bx ok X A s hA R;obtain rfl:=aj hv;refine aau (BA (fx:=aa) iH (λs P h pos kws=>iI s P h pos kws) hK ok hA R bx) (λw s' IR=>?_) λzz zz z=>z;let a L e hL R1:=bG IR;subst e;refine p4 a s.gens _ [(L,.obj (isNs (cu (.str x))))] ⟨rfl,rfl,R.gens,R1,?_⟩;generalize hP:kU c a s.gens X (dY x) Sf=P;have Zt:P.c=c:=by rw[←hP]
 have hN:P.N=(dY x).length:=by rw[←hP]
 intro kl p0;refine⟨rfl,seg_func ?_⟩;have okR:P.cR.Ok:=by subst hP;exact ok.bc
 have EG:P.cR.comp=false:=by subst hP;exact hc
 have okg:∀m,(P.cR.enter aa m L).Ok:=λm=>Cx.jg (K0:=K0) okR (by subst hP;exact hK) iG rfl (by subst hP;exact hL);have Qi:∀m,(P.cR.enter aa m L).In (A.in1.over (.func am (be aa L)) []) (n+1):=λm=>by subst hP;exact In.gen hA
 have Ak:∀m tgt it b o KK g l kp p,(P.cR.enter aa m L).In (A.in1.over (.forLoop tgt it b o (be aa L)) [.ret KK none g l (.func am (be aa L)) p kp]) (n+1):=λm tgt it b o KK g l kp p=>by subst hP;exact In.Fa hA
 have EZ:∀m,(P.cR.enter aa m L).comp=false:=λzz=>rfl;have aZ:∀m,(P.cR.enter aa m L).fx=aa:=λzz=>rfl;have Vy:∀m,(P.cR.enter aa m L).hd=none:=λzz=>by subst hP;exact hd
 have reent:∀{S:SS} {Zc:Cells} {s:aas} {pos esc ch},Rp P.cR (S.ext (((L,.obj (isNs (af (.str x) pos esc ch)))::Zc)++P.X)) s→∃m,(∀p∈S.loc,(m p.1).map ab=p.2)∧Rp (P.cR.enter aa m L) (SS.ext ⟨af (.str x) pos esc ch,Zc⟩ (S.cells++P.X)) s:=λR=>R.n_ okR EG aW.2 aW.1;have relv:∀{S:SS} {Dt:Cells} {s s':aas} {Z:Cells} {rZ m},Rp P.cR (S.ext Z) s→(∀p∈S.loc,(m p.1).map ab=p.2)→Rp (P.cR.enter aa m L) (SS.ext ⟨rZ,Dt⟩ (S.cells++P.X)) s'→Rp P.cR (S.ext (((L,.obj (isNs rZ))::Dt)++P.X)) s':=λR hm R2=>R2.xI okR EG R.kK R.lk hm;have cw:P.c.w=c.w:=by rw[Zt]
 clear R1 R hA;have give:∀(cd:Code) (fs:List Frame) (qJ:∀m,(P.cR.enter aa m L).In (A.in1.over cd fs) (n+1)) (XJ:splitAtGen fs=none) (XK:fs.any Frame.guarded=false) (ex:Expr) (yp pp:Pos) (K:Flow→Sem Fin) (H:Value→Sem Fin)
   (pos esc:AV) (ch:Option AV) (Zc:Cells) (a b:AV) (rest:List (AV×AV)) (i:Nat) (m:Str→Option Value) (s₀ s s1:aas) (Z:Cells),(dY x).drop i=(a,b)::rest→Rp P.cR ((P.Sf i).ext Z) s1→(∀p∈(P.Sf i).loc,(m p.1).map ab=p.2)→
   Rp (P.cR.enter aa m L) (SS.ext ⟨af (.str x) pos esc ch,Zc⟩ ((P.Sf i).cells++P.X)) s→
   EE (P.cR.enter aa m L) (n+1) ⟨af (.str x) pos esc ch,Zc⟩ ex (λv S'=>∃t,v= .ref t∧S'=⟨af (.str x) pos esc ch,(t,.tup [a,b])::Zc⟩) hW→
   (∀kl,Rp P.cR ((P.Sf (i+1)).ext (((L,.obj (isNs (af (.str x) pos esc ch)))::Zc)++P.X)) kl→Seg (model prog P.c.w) A.in1 P.R P.Y (P.N-(i+1)+1) kl cd (K .next) fs kl)→
   Seg (model prog P.c.w) A.in1 P.R P.Y (P.N-i+1) s₀ cd ((exec (.Expr (.Yield (some ex) yp) pp) (be aa L)).wrap K H id id) fs s:=by
  intro cd fs qJ XJ XK ex yp pp K H pos esc ch Zc a b rest i m s₀ s s1 Z hi R0 hm Rg he hk
  have dc:i<(dY x).length:=by
   have:=congrArg aaV hi
   simp only[aa9,aaF]at this
   exact acy this
  have pg:(dY x)[i]? =some (a,b):=by
   have:=congrArg aiM hi
   rwa [aiv,aiw]at this
  refine seg_Expr_Yield XJ rfl XK (aau (he.run (okg m) _ _ s (qJ m) Rg) (λv s2 Vz=>?_) λx s' z=>(ib z).elim) rfl rfl
  obtain⟨S2,R2,t,ev,eS⟩:=Vz
  subst eS
  have Zu:v= .ref t:=aj ev
  subst Zu
  intro kap VA
  refine eY i [(t,.tup [a,b])] ((L,.obj (isNs (af (.str x) pos esc ch)))::Zc) ⟨by rw[hN];exact aa7 (aaN dc),by rw[hN];exact abY dc,by rw[(by rw[←hP]:P.It=Bz (dY x))];exact(eY t a b ⟨pg,rfl,rfl⟩),?_,λkl p0=>VA _ _ ?_⟩
  ·refine(relv R0 hm R2).perm (cells':=(P.Sf i).cells++([(t,.tup [a,b])]++(((L,.obj (isNs (af (.str x) pos esc ch)))::Zc)++P.X))) ?_
   exact acY _ (afi ..)
  ·have:=hk kl p0
   rw[show P.N-(i+1)+1=P.N-i from by rw[hN];exact adl (abY dc)]at this
   exact this
 have key:∀(e it:Addr) (KK:ahu→Sem Fin) (l kp:List Value) (p:Pos)
   (Qj:∀i esc vc s₀ s,i≤(dY x).length→(dY x).drop i=mJ [] x.cps.size esc→Rp P.cR ((P.Sf i).ext ([(L,.obj (isNs (af (.str x) (.int ((x.cps.size-1:Nat):Int)) (.bool esc) vc)))]++P.X)) s→
    Seg (model prog P.c.w) A.in1 P.R P.Y (P.N-i+1) s₀ (.func am (be aa L)) (KK (.ok .next)) [] s),
   ∀(r:List Nat) (j i:Nat) (esc:Bool) (vc:Option AV) (s₀ s:aas),x.cps.toList.drop j=r→j≤x.cps.size→i≤(dY x).length→(dY x).drop i=mJ r j esc→
    Rp P.cR ((P.Sf i).ext (((L,.obj (isNs (af (.str x) (.int ((j-1:Nat):Int)) (.bool esc) vc)))::eB x e it j)++P.X)) s→
    Seg (model prog P.c.w) A.in1 P.R P.Y (P.N-i+1) s₀ (.forLoop (sU (pL am 2)) (.ref e) (og (pL am 2)) [] (be aa L))
     ((model prog P.c.w).den (.forLoop (sU (pL am 2)) (.ref e) (og (pL am 2)) [] (be aa L))) [.ret KK none false l (.func am (be aa L)) p kp] s:=by
  intro e it KK l kp p Qj r
  induction r with
  |nil=>
   intro j i esc vc s₀ s hr hj Qk hi R
   have Zv:j=x.cps.size:=by
    have:=congrArg aaV hr
    simp only[aa9,aaQ,ady]at this
    exact aaI hj (ab5 this)
   subst Zv
   refine ak (reent R) λm hm Rg=>?_
   refine m_ (aau (Bu (S:=⟨af (.str x) (.int ((x.cps.size-1:Nat):Int)) (.bool esc) vc,[]⟩) (Vy m) (okg m) _ _ s (Ak m _ _ _ _ _ _ _ _ _) (Rg.perm (cells':=[]++(eB x e it x.cps.size++((P.Sf i).cells++P.X))) (agU _))) (λr s1 VB=>?_) λzz zz z=>z)
   refine eA VB λer R1=>?_
   subst er
   exact qb (Qj i esc vc s₀ s1 Qk hi (relv R hm R1))
  |cons d r ih=>
   intro j i esc vc s₀ s hr hj Qk hi R
   have rJ:x.cps[j]? =some d:=by
    have:=congrArg aiM hr
    rw[aiv,aiw]at this
    simpa using this
   have dc:j<x.cps.size:=(abH.mp rJ).1
   refine ak (reent R) λm hm Rg=>?_
   refine m_ (aau (zc (S:=⟨af (.str x) (.int ((j-1:Nat):Int)) (.bool esc) vc,[]⟩) (Vy m) rJ (okg m) _ _ s (Ak m _ _ _ _ _ _ _ _ _) (Rg.perm (cells':=[]++(eB x e it j++((P.Sf i).cells++P.X))) (agU _))) (λr s1 VC=>?_) λzz zz z=>z)
   refine ak VC λv er hg=>?_
   subst er
   refine aau (hg _ _ _) (λzz s2 IV=>?_) λzz zz z=>z
   refine ak IV λt ev R2=>?_
   subst ev
   refine aau ((rY (c:=P.cR.enter aa m L) (n:=n+1) (S:=⟨af (.str x) (.int ((j-1:Nat):Int)) (.bool esc) vc,[(t,.tup [.int j,.str ⟨#[d]⟩])]⟩) (E:=hW)
    (Q:=λS6=>S6=⟨af (.str x) (.int j) (.bool esc) (some (.str ⟨#[d]⟩)),[(t,.tup [.int j,.str ⟨#[d]⟩])]⟩) (Vy m) (.head _) (by k_extra "m.sets") rfl (.ref t) rfl).run (okg m) _ _ s2 (Ak m _ _ _ _ _ _ _ _ _) R2) (λzz s3 h8=>h8.el λS3 R3 e3=>?_) λzz zz z=>ib z
   subst e3
   have R4:Rp (P.cR.enter aa m L) (SS.ext ⟨af (.str x) (.int j) (.bool esc) (some (.str ⟨#[d]⟩)),eB x e it (j+1)⟩ ((P.Sf i).cells++P.X)) s3:=R3.drop (cells':=eB x e it (j+1)++((P.Sf i).cells++P.X)) (acj ..)
   clear R2 R3 hg
   refine ab6 ?_
   refine pd (okg m) (Ak m _ _ _ _ _ _ _ _ _) R4 (Q:=λb S'=>b=esc∧S'=⟨af (.str x) (.int j) (.bool esc) (some (.str ⟨#[d]⟩)),eB x e it (j+1)⟩) (v9 (dM ⋯ (bj ⟨rfl,rfl⟩))) ?_
   intro b s5 S5 R5 JU
   refine eA JU λr0 r1=>?_
   obtain rfl:=r0
   obtain rfl:=r1
   have again:∀(Fb:Bool) (i':Nat) (s₁ s':aas),i'≤(dY x).length→(dY x).drop i'=mJ r (j+1) Fb→Rp P.cR ((P.Sf i').ext (((L,.obj (isNs (af (.str x) (.int j) (.bool Fb) (some (.str ⟨#[d]⟩)))))::eB x e it (j+1))++P.X)) s'→
     Seg (model prog P.c.w) A.in1 P.R P.Y (P.N-i'+1) s₁ (.forLoop (sU (pL am 2)) (.ref e) (og (pL am 2)) [] (be aa L))
     (.pure (.again (.forLoop (sU (pL am 2)) (.ref e) (og (pL am 2)) [] (be aa L)))) [.ret KK none false l (.func am (be aa L)) p kp] s':=λFb i' s₁ s' VD Zw R'=>
    aha rfl (ih (j+1) i' Fb _ s₁ s' (by rw[←afv,hr];rfl:x.cps.toList.drop (j+1)=r) dc VD Zw R')
   cases b with
   |true=>
    rw[show mJ (d::r) j true=(AV.int (j:Int),AV.str ("\\"++⟨#[d]⟩))::mJ r (j+1) false from rfl]at hi
    rw[if_pos rfl]
    refine ab6 ?_
    refine give _ _ (λm=>Ak m _ _ _ _ _ _ _ _ _) rfl rfl _ _ _ _ _ _ _ _ _ _ _ _ i m s₀ s5 s _ hi R hm R5 ?_ λkl p0=>?_
    ·refine kP (gu (dM ⋯ (gu (Be (rI (dM ⋯ (cz ?_ (oQ ⟨by change 2≤lim;decide,λt=>⟨t,rfl,rfl⟩⟩))))))))
     change 1+1≤ac_
     decide
    ·refine ak (reent p0) λm2 Ep Rg2=>?_
     refine ab6 ?_
     refine sV (c:=P.cR.enter aa m2 L) ⟨af (.str x) (.int j) (.bool false) (some (.str ⟨#[d]⟩)),eB x e it (j+1)⟩ (okg m2) (Ak m2 _ _ _ _ _ _ _ _ _) Rg2 (hZ (ix ⟨_,by k_extra "m.at",rfl,rfl⟩)) λs7 R7=>?_
     refine adD ?_
     refine again false (i+1) _ _ (by have:=congrArg aaV hi;simp only[aa9,aaF]at this;exact acy this) ?_ (relv p0 Ep R7)
     have:=congrArg aiZ hi
     rwa [afv]at this
   |false=>
    rw[if_neg '2']
    refine ab6 ?_
    refine pd (okg m) (Ak m _ _ _ _ _ _ _ _ _) R5 (Q:=λb S'=>b=((⟨#[d]⟩:Str)=="\\")∧S'=⟨af (.str x) (.int j) (.bool false) (some (.str ⟨#[d]⟩)),eB x e it (j+1)⟩)
     (Bf (dM ⋯ (rI (qL (bj ⟨rfl,rfl⟩))))) ?_
    intro b s6 S6 R6 JV
    refine eA JV λeb r1=>?_
    obtain rfl:=r1
    unfold mJ at hi
    rw[←eb]at hi
    cases b with
    |true=>
     rw[if_pos rfl]at hi
     rw[if_pos rfl]
     refine ab6 ?_
     refine sV (c:=P.cR.enter aa m L) ⟨af (.str x) (.int j) (.bool true) (some (.str ⟨#[d]⟩)),eB x e it (j+1)⟩ (okg m) (Ak m _ _ _ _ _ _ _ _ _) R6 (hZ (ix ⟨_,by k_extra "m.at",rfl,rfl⟩)) λs7 R7=>?_
     refine adD ?_
     exact again true i _ _ Qk hi (relv R hm R7)
    |false=>
     rw[if_neg '2']at hi
     rw[if_neg '2']
     refine ab6 ?_
     refine give _ _ (λm=>Ak m _ _ _ _ _ _ _ _ _) rfl rfl _ _ _ _ _ _ _ _ _ _ _ _ i m s₀ s6 s _ hi R hm R6 ?_ λkl p0=>?_
     ·exact kP (gu (dM ⋯ (gu (dM ⋯ (oQ ⟨by change 2≤lim;decide,λt=>⟨t,rfl,rfl⟩⟩)))))
     ·refine adD ?_
      refine again false (i+1) _ _ (by have:=congrArg aaV hi;simp only[aa9,aaF]at this;exact acy this) ?_ p0
      have:=congrArg aiZ hi
      rwa [afv]at this
 let m hm Rg:=ak (p0.n_ (loc:=cu (.str x)) (Zc:=[]) okR EG aW.2 aW.1 (fx:=aa));show ab6;let s1 R1:=sV (c:=P.cR.enter aa m L) ⟨[("addr",some (.str x)),("pos",some (.int 0)),("escape",none),("ch",none)],[]⟩ (okg m) (Qi m) Rg (hZ (oG ⟨_,by k_extra "m.at",rfl,rfl⟩));show ab6;let s2 R2:=sV (c:=P.cR.enter aa m L) ⟨af (.str x) (.int 0) (.bool false) none,[]⟩ (okg m) (Qi m) R1 (hZ (ix ⟨_,by k_extra "m.at",rfl,rfl⟩));show ab6;show ED (λzz=>rfl);have hE:EE (P.cR.enter aa m L) (n+1) ⟨af (.str x) (.int 0) (.bool false) none,[]⟩ (E_ (pL am 2)) (λv S'=>∃e it,v= .ref e∧S'=⟨af (.str x) (.int 0) (.bool false) none,[(e,.obj (m8 it 0)),(it,.obj (iS x 0))]⟩) hW:=by show xm;show pe (aZ m) ⋯ (by rfl);refine⟨trivial,?_⟩;exact gu (dM ⋯ (oQ (zb λe it=>(ba e it ⟨rfl,rfl⟩))))
 refine aau (hE.run (okg m) _ _ s2 (Qi m) R2) (λv s3 VE=>?_) λzz zz z=>ib z;obtain⟨S3,R3,e,it,ev,eS⟩:=VE;subst eS;obtain rfl:=aj ev;let oe G5 old r3:=ID (R3.cells (e,.obj (m8 it 0)) (aaf _ (.head _)));subst r3;let p:=wpAny_pyIter_enum G5;refine key e it _ _ _ _ ?_ x.cps.toList 0 0 false none _ _ rfl (aaD _) (aaD _) rfl (relv p0 hm R3);intro i esc vc s₀ s4 Qk hi R4;let m hm Rg:=ak (R4.n_ (Zc:=[]) okR EG aW.2 aW.1 (fx:=aa));have fin:∀(i:Nat) (s₀ s5:aas),(dY x).drop i=[]→i≤(dY x).length→Rp P.cR ((P.Sf i).ext (([(L,.obj (isNs (af (.str x) (.int ((x.cps.size-1:Nat):Int)) (.bool esc) vc)))]:Cells)++P.X)) s5→Seg (model prog P.c.w) A.in1 P.R P.Y (P.N-i+1) s₀ (.func am (be aa L)) (.pure (.done (.ret .none))) [] s5:=by intro i s₀ s5 hi hle R5;have TV:i=P.N:=(by have:=congrArg aaV hi;simp only[aa9,ady]at this;rw[hN];exact aaI hle (ab5 this));subst TV;rw[adv];exact seg_end (.ok (.ret .none)) ⟨rfl,⟨_,rfl,.inr rfl⟩,R5.dH⟩
 show ab6;show pd (okg m) (Qi m) Rg (Q:=λb S'=>b=esc∧S'=⟨af (.str x) (.int ((x.cps.size-1:Nat):Int)) (.bool esc) vc,[]⟩) (v9 (dM ⋯ (bj ⟨rfl,rfl⟩)));intro b s5 S5 R5 IT;let r0 r1:=eA IT;subst r0;subst r1;cases b with|true=>have dc:i<(dY x).length:=(by have:=congrArg aaV hi;simp only[aa9,aaF]at this;exact acy this);rw[if_pos rfl];show ab6;let kl p0:=give _ _ Qi rfl rfl _ _ _ _ _ _ _ _ _ _ _ _ i m s₀ s5 s4 _ hi R4 hm R5 ?_;exact kP (gu (dM ⋯ (gu (rI (oQ ⟨by change 2≤lim;decide,λt=>⟨t,rfl,rfl⟩⟩)))));refine adD (adD ?_);refine fin (i+1) _ _ ?_ dc p0;have:=congrArg aiZ hi;rwa [afv]at this|false=>rw[if_neg '2'];refine adD (adD ?_);have hle:i≤(dY x).length:=Qk;exact fin i _ _ hi hle (relv R4 hm R5)
end
section
open PySem.Builtin PySem.Builtin.Str
variable{p:Nat×Str}
theorem jE(x:Str)(lo hi:Option Int):(b8 x lo hi).length≤x.length:=by unfold b8;split;exact aak _;change(acg _).size≤_;rw[acJ];exact aab (afX _ _) (sliceIndices_le _ _ _)
def jS:List Nat→Nat→Bool→List (Nat×Str)|[],j,true=>[(j-1,"\\")]|[],_,false=>[]|d::r,j,true=>(j,"\\"++⟨#[d]⟩)::jS r (j+1) false|d::r,j,false=>if((⟨#[d]⟩:Str)=="\\")=true then jS r (j+1) true else(j,⟨#[d]⟩)::jS r (j+1) false
def uA(p:Nat×Str):AV×AV:=(.int (p.1:Int),.str p.2)
theorem oh:∀(r:List Nat) (j:Nat) (e:Bool),mJ r j e=(jS r j e).map uA|[],j,true=>rfl|[],j,false=>rfl|d::r,j,true=>by change _::mJ r (j+1) false=_::(jS r (j+1) false).map uA;rw[oh r];rfl|d::r,j,false=>by unfold mJ jS;split;exact oh r _ _;rw[aan,oh r];rfl
def gi(x:Str):List (Nat×Str):=jS x.cps.toList 0 false
theorem gG(x:Str):dY x=(gi x).map uA:=oh _ _ _
theorem lC:∀(r:List Nat) (j:Nat) (e:Bool),(jS r j e).length≤r.length+(if e then 1 else 0)|[],j,true=>aak _|[],j,false=>aak _|d::r,j,true=>by have:=lC r (j+1) false;change(jS r (j+1) false).length+1≤r.length+1+1;simp at this;exact SD this|d::r,j,false=>by unfold jS;split;have:=lC r (j+1) true;simp at this⊢;exact this;have:=lC r (j+1) false;simp at this⊢;exact this
theorem Ch(x:Str):(gi x).length≤x.length:=by have:=lC x.cps.toList 0 false;rw[if_neg '2',aaQ]at this;exact this
structure SQ where
 st:Nat
 op:Option Nat
 res:List Str
def cG(x:Str)(q:SQ)(p:Nat×Str):SQ:=
 if(p.2=="\"")=true then(match q.op with
  |none=>⟨q.st,some p.1,q.res⟩
  |some o=>⟨p.1+1,none,if((q.st:Int) !=(o:Int))=true then q.res++[b8 x (some q.st) (some o)]else q.res⟩)
 else q
def iJ(x:Str)(i:Nat):SQ:=((gi x).take i).foldl (cG x) ⟨0,none,[]⟩
def dz(x:Str):Str:=if Bo x "\""=true then(let q:=iJ x (gi x).length;glued "" (q.res++if q.st<x.length then[b8 x (some q.st) none]else[]))else x
def XL:Option Nat→AV|none=>.none|some o=>.int (o:Int)
def ng(ps:List (AV×AV))(f:AV×AV→AV):Nat→Option AV|0=>none|j+1=>(ps[j]?).map f
theorem q_(h:(gi x)[i]? =some p):iJ x (i+1)=cG x (iJ x i) p:=by unfold iJ;rw[aaK,h,ab4];rfl
theorem Ci(x:Str):∀i,(iJ x i).res.length≤i∧∀y∈(iJ x i).res,y.length≤x.length:=by intro i;induction i with|zero=>exact⟨aak _,λy hy=>nomatch hy⟩|succ i ih=>cases h:(gi x)[i]? with|none=>have:iJ x (i+1)=iJ x i:=(by unfold iJ;rw[aaK,h];simp);rw[this];exact⟨ab1 ih.1,ih.2⟩|some p=>rw[q_ h];unfold cG;split;split;exact⟨ab1 ih.1,ih.2⟩;split;refine⟨by simp;exact ih.1,λy hy=>?_⟩;rcases aax.mp hy with hy|hy;exact ih.2 y hy;obtain rfl:y=_:=(by simpa using hy);exact jE _ _ _;exact⟨ab1 ih.1,ih.2⟩;exact⟨ab1 ih.1,ih.2⟩
theorem Cj(l:List Str)(m:Nat)(h:∀y∈l,y.length≤m)(k a:Nat):l.foldl (λa y=>a+y.length+k) a≤a+l.length*(m+k):=by induction l generalizing a with|nil=>simp|cons y l ih=>rw[acu];have h2:=ih (λz hz=>h z (.tail _ hz)) (a+y.length+k);rw[aaF,agx];exact SF (h y (.head _)) h2
theorem zI{rs:List Str}(h1:rs.length≤501)(h2:∀y∈rs,y.length≤500):(glued "" rs).length≤lim:=by
 rw[StrLaws.glued_eq_join];have:=StrLaws.join_length_le "" rs;have h6:(rs.map (λx=>x.length)).sum≤rs.length*500:=by clear h1 this;induction rs with|nil=>simp|cons y r ih=>have a1:=h2 y (.head _);have a2:=ih (λz hz=>h2 z (.tail _ hz));rw[aan,adh,aaF,agx];exact SG a1 a2
 have h7:rs.length*("":Str).length=0:=by rw[show("":Str).length=0 from rfl,Nat.mul_zero]
 change _≤1000000;exact SH h1 this h6 h7
theorem w_strip(hx:x.length≤500):FC K0 (n+3) 58 [.str x] [] [] (λv C=>v= .str (dz x)∧C=[]) (λzz zz=>False):=by
 show aB (fx:=aU) f9 f0 gf;intro c Q' E' hK hd aZ hc ay aL bz;show ah;left;have hL:=Ch x;cases hq:Bo x "\""
 ·left;refine ay _ _ _ _ .nil ⟨?_,rfl⟩;unfold dz;rw[hq];rfl
 left;refine⟨aaD _,λb=>?_⟩;left;show qS (ps:=dY x) (λi=>⟨[("addr",some (.str x)),("start",some (.int ((iJ x i).st:Int))),("open_pos",some (XL (iJ x i).op)),("result",some (.ref b)),("pos",ng (dY x) (λx=>x.1) i),("ch",ng (dY x) (λx=>x.2) i)],[(b,.list ((iJ x i).res.map .str))]⟩) (λzz=>True) trivial ?_ ?_
 ·left;exact⟨rfl,x9 hK hd hc (by exact aab hx (aae rfl))⟩
 ·intro G' i a b' N hi _ hN;have hN:=hN trivial;rw[gG,aag]at hi;obtain⟨⟨j,ch⟩,hp,he⟩:=aaq.mp hi;cases he;have Ql:(c.bc G').fx=aU:=aZ;have pM:ng (dY x) (λx=>x.1) (i+1)=some (.int (j:Int)):=(by rw[gG];change agv _ _=_;rw[aag,hp];rfl);have pN:ng (dY x) (λx=>x.2) (i+1)=some (.str ch):=(by rw[gG];change agv _ _=_;rw[aag,hp];rfl);simp only[pM,pN,q_ hp]at hN;have hr:=Ci x i;have TQ:i<(gi x).length:=(aav.mp hp).1;generalize iJ x i=q at hN hr⊢;obtain⟨st,op,res⟩:=q;unfold cG at hN;dsimp only at hN hr⊢;clear hi hp pM pN;refine⟨_,by k_extra "m.sets",?_⟩;show ah;left;cases Qm:(ch=="\"")
  ·rw[Qm]at hN;left;exact hN
  rw[Qm,if_pos rfl]at hN;k_extra "m.ite";cases op with|none=>left;exact hN|some o=>
   dsimp only[XL]at hN⊢;left;cases gU:((st:Int) !=(o:Int))
   ·rw[gU]at hN;left;exact hN
   rw[gU]at hN;left;refine eY _ (some _) (some _) ⟨rfl,rfl,rfl,aab (jE _ _ _) (by change _≤1000000;exact aab hx (aae rfl)),?_⟩;left;show aS ⋯ (by rw[aaa];change _≤1000000;exact LL hx hL TQ hr.1);left;simp only[if_true,aaj]at hN;exact hN
 intro _;rw[(by rw[gG,aaa]:(dY x).length=(gi x).length)];have hr:=Ci x (gi x).length;have hS:dz x=(glued "" ((iJ x (gi x).length).res++if(iJ x (gi x).length).st<x.length then[b8 x (some (iJ x (gi x).length).st) none]else[])):=by unfold dz;rw[hq,if_pos rfl]
 generalize dz x=R at ay hS;generalize iJ x (gi x).length=q at hr hS⊢;obtain⟨st,op,res⟩:=q;dsimp only at hr hS⊢;have fin:∀(rs:List Str) (loc:List (Str×Option AV)),At (("result":Str),some (AV.ref b)) loc→rs.length≤501→(∀y∈rs,y.length≤x.length)→R=glued "" rs→EB c (n+2) ⟨loc,[(b,.list (rs.map .str))]⟩ (dv.drop 6) Q' E':=by intro rs loc hl h1 h2 h3;show ah;left;show dM hl;left;have h5:rs.toArray.foldl (λa y=>a+y.length+("":Str).length) 0≤250500:=(by rw[List.foldl_toArray];show aab (Cj rs 500 (λy hy=>aab (h2 y hy) hx) 0 0);exact abe (abz (500+0) h1) _);show ml (ss:=rs) (.head _) (aab h5 '2') (zI h1 λy hy=>aab (h2 y hy) hx);exact ay _ _ _ _ .nil ⟨by rw[h3],rfl⟩
 left;show fV (aab hx '2');left;cases dc:decide ((st:Int)<(x.length:Int))
 ·k_extra "m.ite";refine xM (fin res _ ⋯ (by exact aab hr.1 (aab hL (aab hx (aae rfl)))) hr.2 ?_);have:¬(st<x.length):=(by have:=of_decide_eq_false dc;exact λq=>this (abT.mpr q));rw[hS];simp only[this,if_false,aaO]
 left;refine eY _ (some _) none ⟨rfl,rfl,rfl,aab (jE _ _ _) (by change _≤1000000;exact aab hx (aae rfl)),?_⟩;left;show aS ⋯ (by rw[aaa];change _≤1000000;exact aab hr.1 (aab hL (aab hx (aae rfl))));show xM;have key:=λl hl=>fin (res++[b8 x (some st) none]) l hl (by rw[aar];change _+1≤_;exact L_ hx hL hr.1) (λy hy=>by rcases aax.mp hy with hy|hy;exact hr.2 y hy;obtain rfl:y=_:=(by simpa using hy);exact jE _ _ _) (by have:(st<x.length):=(by have:=of_decide_eq_true dc;exact abT.mp this);rw[hS];simp only[this,if_true]);rw[aaj]at key;exact key _ ⋯
def sW:List (Nat×Str)→Int→Bool|[],o=>o==0|p::r,o=>if(p.2=="(")=true then sW r (o+1)else if(p.2==")")=true then(if decide (o-1<0)=true then false else sW r (o-1))else sW r o
def wT(x:Str):Bool:=sW (gi (dz x)) 0
def wU(o:Int)(p:Nat×Str):Int:=if(p.2=="(")=true then o+1 else if(p.2==")")=true then o-1 else o
def zJ(y:Str)(i:Nat):Int:=((gi y).take i).foldl wU 0
theorem zK(h:(gi x)[i]? =some p):zJ x (i+1)=wU (zJ x i) p:=by unfold zJ;rw[aaK,h,ab4];rfl
theorem Fc(hx:x.length≤500)(hy:(dz x).length≤1000):FC K0 (n+4) 65 [.str x] [] [] (λv C=>v= .bool (wT x)∧C=[]) (λzz zz=>False):=by
 show aB (fx:=bq) i4 i3 i8;intro c Q' E' hK hd aZ hc ay aL bz;show ah;left;refine iE (w_strip (n:=n) hx) .nil hK hd (λv C IU=>?_) (λzz zz h=>h.elim);let hv hC:=eA IU;subst hv hC;generalize Zx:dz x=y at hy;left;have hlen:(dY y).length=(gi y).length:=by rw[gG,aaa]
 show qS (ps:=dY y) (λi=>⟨[("addr",some (.str y)),("opens",some (.int (zJ y i))),("pos",ng (dY y) (λx=>x.1) i),("ch",ng (dY y) (λx=>x.2) i)],[]⟩) (λi=>sW ((gi y).drop i) (zJ y i)=wT x) (by unfold wT;rw[Zx];rfl) ?_ ?_
 ·left;exact⟨rfl,x9 hK hd hc hy⟩
 ·intro G' i a b' N hi hJ hN;rw[gG,aag]at hi;obtain⟨⟨j,ch⟩,hp,he⟩:=aaq.mp hi;cases he;have Ql:(c.bc G').fx=bq:=aZ;have pM:ng (dY y) (λx=>x.1) (i+1)=some (.int (j:Int)):=(by rw[gG];change agv _ _=_;rw[aag,hp];rfl);have pN:ng (dY y) (λx=>x.2) (i+1)=some (.str ch):=(by rw[gG];change agv _ _=_;rw[aag,hp];rfl);have Hp:(gi y).drop i=(j,ch)::(gi y).drop (i+1):=(by rw[acx ((aav.mp hp).1:i<(gi y).length),(aav.mp hp).2]);rw[Hp]at hJ;simp only[pM,pN,zK hp]at hN;generalize zJ y i=o at hN hJ⊢;generalize(gi y).drop (i+1)=r at hN hJ;unfold wU at hN;unfold sW at hJ;dsimp only at hN hJ⊢;clear hi hp pM pN Hp;refine⟨_,by k_extra "m.sets",?_⟩;show ah;left;cases h1:(ch=="(")
  ·rw[h1]at hN hJ;left;cases h2:(ch==")")
   ·rw[h2]at hN hJ;left;exact hN hJ
   rw[h2]at hN hJ;left;cases h3:decide (o-1<0)
   ·rw[h3]at hJ;left;exact hN hJ
   rw[h3]at hJ;left;exact ay _ _ _ _ .nil ⟨congrArg AV.bool hJ,rfl⟩
  rw[h1]at hN hJ;left;exact hN hJ
 intro hJ;rw[hlen,agg]at hJ;rw[hlen];left;exact ay _ _ _ _ .nil ⟨congrArg AV.bool hJ,rfl⟩
end
section
open PySem.Builtin PySem.Builtin.Re
variable{w:Str}
def Ck:Array Nat:= #[14,17,4,1,1,21,9,0,604043296,1,0,0,0,0,0,8,4,0,13,14,21,9,0,604043296,1,0,0,0,0,0,8,4,0,1]
def sX:Nat→Sre.M→Option Sre.M|0,_=>none|k+1,m=>if(m.runFor reTurnSteps).outcome.isSome then some (m.runFor reTurnSteps)else sX k (m.runFor reTurnSteps)
def x_(w:Str):Sre.M:=Sre.forSearch Ck w.cps 0 0 (min (9223372036854775807:Int).toNat w.cps.size) false
def gH(w:Str):Option Bool:=match sX 30 (x_ w)with
 |some m=>match m.outcome with
  |some .matched=>some true
  |some .failed=>some false
  |_=>none
 |none=>none
section
variable{c:Cx} {n:Nat} {S:SS} {E:EP} {s:aas} {X:Cells}
theorem Zy{E:Value→aas→Prop}{Q:α→aas→Prop}{p:Prop}[Decidable p]{a b:Sem α}(hp:p)(h:wpAny M A a Q E s):wpAny M A (if p then a else b) Q E s:=by rw[if_pos hp];exact h
theorem ra{E:Value→aas→Prop}{Q:Sre.M→aas→Prop}{m':Sre.M}(hQ:Q m' s):∀(k f:Nat) (m:Sre.M),sX k m=some m'→k≤f→wpAny M A (reDrive f m) Q E s
 |0,_,_,h,_=>by cases h
 |k+1,0,_,_,h=>absurd h (Nat.not_succ_le_zero _)
 |k+1,f+1,m,h,hf=>by
  unfold sX at h
  change wpAny M A (if(m.runFor reTurnSteps).outcome.isSome=true then pure (m.runFor reTurnSteps)else do rule "sre.turn";reDrive f (m.runFor reTurnSteps)) Q E s
  split at h
  ·rename_i h1
   rw[if_pos h1]
   cases h
   exact aal hQ
  ·rename_i h1
   rw[if_neg h1]
   exact aac (aeN (ra hQ k f _ h (acS hf)))
theorem zL(P:aao)(w:Str)(t:Tok):peek (K0 P) ⟨prog,P⟩ (reTarget "re.Pattern.search" "search" ⟨[.ref 197,.str w t],[]⟩)=some ⟨.ref 197,.str w t,Ck,w.cps,0,0,0,min (9223372036854775807:Int).toNat w.cps.size⟩:=by kernel_rfl
theorem Cl(P:aao)(w:Str)(t:Tok):peek (K0 P) ⟨prog,P⟩ (ag5 "re.Pattern.search" ⟨[.ref 197,.str w t],[]⟩)=some ():=by kernel_rfl
theorem sY:aeY table "re.Pattern.search"=some Builtin.«re.Pattern.search»:=entryFor_of_fast '3'
theorem lD:plainId "re.Pattern.search"=true:=by decide+kernel
theorem VF(P:aao):(K0 P).lookup 900=some {cls:=.type "builtin_function_or_method",data:=.fields #[.builtin "re.Pattern.search",.ref 197]}:=by kernel_rfl
set_option tactic.hygienic true in
theorem zM(hK:c.K=K0 c.w.params)(hw:gH w=some b)(h:∀r,(b=false→r= .none)→(b=true→∃a,r= .ref a)→Q r S):bM c n S (.ref 900) [.str w] Q E:=λf vs hf bx=>W.of λok X A s hA R=>by
 obtain rfl:=aj hf
 refine ak (cP bx) λv r1 hv=>?_
 obtain rfl:=r1
 refine eE (aD hv) λt r1=>?_
 obtain rfl:=r1
 have fg:(K0 c.w.params).In s.heap:=λa o e=>R.stays a o (ok.eH.fg a o (hK▸e))
 refine abI (aec ?_)
 change wpAny _ A.in1 (ahY (.ref 900) ⟨[.str w t],[]⟩) _ _ s
 refine aac (ahE (fg _ _ (VF _)) ?_)
 simp only[show(abR "builtin_function_or_method"==abR "method"||abR "builtin_function_or_method"==abR "builtin_function_or_method"||abR "builtin_function_or_method"==abR "method-wrapper")=true by decide,if_true]
 refine Zy '2' ?_
 refine aac ((acf (M:=model prog c.w) fg (Cl c.w.params w t)).here ?_)
 refine aac (aal (aal ?_))
 refine⟨ad8 lD _,acs sY ?_⟩
 rw[acH lD]
 change wpAny _ A.in1 (reTarget "re.Pattern.search" "search" ⟨[.ref 197,.str w t],[]⟩>>=λt=>reAnswer t (Sre.forSearch t.code t.text t.groups t.pos t.lim false)) _ _ s
 refine aac ((acf (M:=model prog c.w) fg (zL c.w.params w t)).here ?_)
 change wpAny _ A.in1 (reRunToEnd (x_ w)>>=λo=>match o with
  |some m=>do ret (←reNewMatch (.ref 197) (.str w t) 0 0 (min (9223372036854775807:Int).toNat w.cps.size) m)
  |none=>ret .none) _ _ s
 unfold gH at hw
 split at hw
 ·rename_i m hm
  have fin:∀(Q':Option Sre.M→aas→Prop) (E':Value→aas→Prop),(b=true→Q' (some m) s)→(b=false→Q' none s)→wpAny (model prog c.w) A.in1 (reRunToEnd (x_ w)) Q' E' s:=by
   intro Q' E' h1 h2
   unfold reRunToEnd
   refine aac (ra ?_ 30 (2^64) (x_ w) hm '2')
   refine aac (wpAny_forIn_list _ (λzz zz s'=>s'=s) _ (λx rest u s' hs=>?_) (λu s' hs=>?_) _ _ rfl)
   ·subst hs
    split
    ·exact aac (aeN (aal rfl))
    ·exact aal rfl
   ·subst hs
    split at hw
    ·rename_i lQ
     rw[lQ]
     cases hw
     exact aal (h1 rfl)
    ·rename_i lQ
     rw[lQ]
     cases hw
     exact aal (h2 rfl)
    ·cases hw
  refine aac (fin _ _ (λhb=>?_) λhb=>?_)
  ·change wpAny _ A.in1 (reNewMatch (.ref 197) (.str w t) 0 0 (min (9223372036854775807:Int).toNat w.cps.size) m>>=λv=>ret v) _ _ s
   change wpAny _ A.in1 ((ahU [abK m.start,abK m.handed]>>=λtp=>newFields "re.Match" [.str w t,.ref 197,abK ((0:Nat):Int),abK ((min (9223372036854775807:Int).toNat w.cps.size:Nat):Int),abK m.lastindex,tp])>>=λv=>ret v) _ _ s
   refine aac (aac (afs ?_ (by change 2≤ac_;decide)))
   refine abJ (aal ?_) (by size_fits)
   refine⟨S,?_,h _ (λq=>by rw[hb]at q;cases q) λzz=>⟨_,rfl⟩⟩
   exact R.keeps λb o e=>aap _ (aap _ e)
  ·exact aal ⟨S,R,h _ (λzz=>rfl) λq=>by rw[hb]at q;cases q⟩
 ·cases hw
theorem Fd(P:aao):peek (K0 P) ⟨prog,P⟩ (keeperOf (.ref 900))=some .machine:=by kernel_rfl
theorem Cm{id:Str}{pos:Pos}(hK:c.K=K0 c.w.params)(hk:∀P,peek (K0 P) ⟨prog,P⟩ (keeperOf (.ref a))=some .machine)(h:EE c n S (.Name id p) (λf S1=>f= .ref a∧EA c n S1 args (BB c n f Q E) E) E) (hs:autoParam (args.all aV=true) apR):EE c n S (.Call (.Name id p) args [] pos) Q E:=.i λok X A s hA R=>af3 (h.st ok X A s hA R λf s1 S1 R1 h8=>eA h8 λk1 k2=>by obtain rfl:=aj k1;have md:=bF (pos:=pos) (env:=c.env) hs;refine aem (P:=λh=>(K0 c.w.params).In h) (by rw[md];rfl:((aeg pos (aci args c.env)).any (λx=>x.1)||([]:List (Option Str×Sem Value)).any (λx=>x.1.isNone))=false) (λhh X=>⟨.machine,.inr (.inl rfl),acf (M:=model prog c.w) X (hk _)⟩) (bV md (aau ((k2 pos).run ok X A s1 hA R1) (λvs s2 IW=>by obtain⟨S2,R2,k⟩:=IW;exact⟨hK▸fQ ok R2,(k _ vs rfl rfl).run ok X A s2 hA R2⟩) λzz zz x=>x)))
def hH(w:Str):Str:=if w.length=0 then"''"else if gH w=some false then w else"'"++ada w "'" "'\"'\"'"++"'"
theorem Fe(hw:w.length≠0→(gH w).isSome=true)(hl:w.length≤100)(hr:(ada w "'" "'\"'\"'").length≤1000):FC K0 (n+1) 907 [.str w] [] [] (λv C=>v= .str (hH w)∧C=[]) (λzz zz=>False):=by
 show aB (fx:=lm) Cc Cb Ce;intro c Q' E' hK hd aZ hc ay aL bz;show ah;left;show rR (aab hl '2');unfold hH at ay;cases h0:(w.length !=0)
 ·left;refine ay _ _ _ _ .nil ⟨?_,rfl⟩;rw[if_pos (by simpa using h0)]
 have XM:¬w.length=0:=by simpa using h0
 rw[if_neg XM]at ay;let b hb:=eE (afS.mp (hw XM));rw[hb]at ay;left;show Cm hK Fd;k_extra "m.name";refine⟨rfl,?_⟩;left;let r h1 h2:=zM hK hb;cases b with|false=>obtain rfl:=h1 rfl;left;exact ay _ _ _ _ .nil ⟨by rw[if_pos rfl],rfl⟩|true=>
  let a r1:=eE (h2 rfl);subst r1;rw[if_neg '2']at ay;repeat((fail_if_success (with_reducible refine kq '2' ?_));k_extra "m.s1")
  show kq '2';k_extra "m.name";refine⟨_,rfl,?_,?_⟩;change w.length+(w.length+1)*5≤16777216;exact NH hl;have e1:("'":Str).length=1:=rfl;show cz ?_;change _≤ac_;rw[e1];exact aab (abe hr 1) '2';left;show cz ?_;rw[(λa b=>by change(a.cps++b.cps).size=_;rw[aet];rfl:∀a b:Str,(a++b).length=a.length+b.length),e1];exact aab (ab8 (abe hr 1) 1) '2';exact ay _ _ _ _ .nil ⟨rfl,rfl⟩
theorem Qn(P:aao):sf (K0 P) 898 894:=by refine IA _ _ _ _ _ _ _ _ _ ⟨(by kernel_rfl:(K0 P).lookup 898=some (Top.Ia P)),rfl,rfl,rfl,rfl,rfl,rfl,by decide⟩
end
end
section
open PySem.Builtin PySem.Builtin.Re PySem.Builtin.Str
def Ff:Scope:=match pL ll 0 with
 | .Return (some (.Call _ [.GeneratorExp _ _ sc _] _ _)) _=>sc
 |_=>default
abbrev Hq:Fx:={cn:="<genexpr>",cs:=Ff,a:=0,cd:=.none,gl:=[("quote",.ref 907)]}
theorem Qo(P:aao):bH (K0 P) Hq:=dN
theorem Zz(P:aao):Xm (K0 P):=(ba 4 (Top.k4 P) ⟨by kernel_rfl,by decide,by kernel_rfl,rfl,rfl,rfl⟩)
def J3(k:afu)(l:List (Str×afu)):Bool:=l.all λx=>x.2 !=k
theorem rb{k:afu}{l:List (Str×afu)}(h:J3 k l=true):∀x∈l,x.2≠k:=λx hx q=>by have:=aaZ.mp h x hx;rw[q]at this;cases k<;>cases this
theorem J4{xs:List Str}(hx:∀w∈xs,(w.length≠0→(gH w).isSome=true)∧w.length≤100∧(ada w "'" "'\"'\"'").length≤1000)(hlen:xs.length≤1000)(hz:((xs.map hH).toArray.foldl (·+·.length+(" ":Str).length) 0)≤lim):FC K0 (n+4) 899 [.ref l] [] [(894,.obj aE),(l,.list (xs.map .str))] (λv C=>v= .str (glued " " (xs.map hH))∧C=[(894,.obj aE),(l,.list (xs.map .str))]) (λzz zz=>False):=by
 show fP (fx:=eT) qi qh qq;intro c Q' E' hK hd aZ hc bl ay aL bz;show ah;show xN;show wB (n:=n+1) (K0:=K0) (fxg:=Hq) (cc:=898) (P:=894) (la:=l) (xs:=xs) (q:=hH) hK hd hc (by rw[bl]) Qn Zz (.head _) '3' (rb '3') (rb '3') '3' '3' '3' '2' '3' rfl Qo ⋯ (.tail _ (.head _)) hlen ?_ hz
 ·intro cg ZA rJ TO Ql v hv Zc;left;show iE (Fe (n:=n) (hx v hv).1 (hx v hv).2.1 (hx v hv).2.2) .nil ZA rJ ?_;intro r C IX;let h1 r1:=eA IX;subst r1;exact⟨h1,rfl⟩;exact λzz zz h=>h.elim
 exact ay _ _ _ _ '1' ⟨rfl,rfl⟩
end
section
open PySem.Builtin PySem.Builtin.Str
def fp(x:Str):Str:=if wT x=true then x else"('', '')"
theorem Fg{ls:List Str}(hn:ls.length≤1000)(hx:∀x∈ls,x.length≤500∧(dz x).length≤1000):FC K0 (n+5) 72 [.ref l] [] [(l,.list (ls.map .str))] (λv C=>∃b,v= .ref b∧C=[(b,.list ((ls.map fp).map .str)),(l,.list (ls.map .str))]) (λzz zz=>False):=by
 show aB (fx:=bt) gW gV g8;intro c Q' E' hK hd aZ hc ay aL bz;show ah;left;refine⟨aaD _,λb=>?_⟩;left;show eI (xs:=ls.map .str) (l:=l) (λi S=>∃a,S=⟨[("email_header_fields",some (.ref l)),("accepted_values",some (.ref b)),("v",a)],[(b,.list (((ls.map fp).take i).map .str)),(l,.list (ls.map .str))]⟩) ?_ ?_ ?_
 ·left;exact⟨rfl,by k_extra "m.mem",none,rfl⟩
 ·intro i;let a:=AZ;k_extra "m.mem"
 ·intro i y S1 N hy;revert S1;let a:=AZ;intro hN;rw[aag]at hy;let x VG r2:=ak (aaq.mp hy);subst r2;have hi:i<ls.length:=(aav.mp VG).1;have h:=hx x (aaA VG);have hN:=hN ⟨[("email_header_fields",some (.ref l)),("accepted_values",some (.ref b)),("v",some (.str (fp x)))],[(b,.list (((ls.map fp).take i).map .str++[.str (fp x)])),(l,.list (ls.map .str))]⟩ ⟨_,by rw[aaK,aag,VG,aaj];rfl⟩;have ln:(((ls.map fp).take i).map AV.str).length≤lim:=(by rw[aaa,ado,aaa];change _≤1000000;exact N1 hn);generalize((ls.map fp).take i).map AV.str=acc at hN ln⊢;refine⟨_,by k_extra "m.at",?_⟩;show ah;left;refine iE (Fc (n:=n) h.1 h.2) .nil hK hd (λv C VH=>?_) (λzz zz h=>h.elim);let hv hC:=eA VH;subst hv hC;dsimp only[aa0];unfold fp at hN;cases Qm:wT x
  ·rw[Qm]at hN;left;show aS ⋯ ln;left;exact hN
  rw[Qm]at hN;left;show aS ⋯ ln;left;exact hN
 let a:=AZ;left;refine ay _ _ [(b,_),(l,_)] _ '1' ⟨b,rfl,?_⟩;rw[aaa,abd (by rw[aaa];exact aak _)]
end
section
open PySem.Builtin PySem.Builtin.Str
theorem Fh{k:Int}{w:Str}(h1:k≤1099511627776)(h2: -1099511627776≤k):FC K0 (n+1) 211 [.int k,.str w] [] [] (λv C=>v= .int k∧C=[]) (λzz zz=>False):=by show aB (fx:=jD) zD zC zF;intro c Q' E' hK hd aZ hc ay aL bz;show ah;left;show qc;left;show nG;left;have e1:decide (k>1099511627776)=false:=decide_eq_false (by exact aeK.mpr h1);have e2:decide (k< -1099511627776)=false:=decide_eq_false (by exact aeK.mpr h2);rw[e1];left;refine⟨_,rfl,?_⟩;left;rw[e2];left;exact ay _ _ _ _ .nil ⟨rfl,rfl⟩
theorem Qp{x:Addr}{p:AV}{b:Str}:FC K0 (n+1) 529 [.ref x] [] [(x,.inst 745 d),(d,.dict (mI nl (.str b) p) k)] (λv C=>v= .none∧C=[(x,.inst 745 d),(d,.dict (mI nl (.str b) p) k)]) (λzz zz=>False):=by show aB (fx:=b7) jO jN jQ;intro c Q' E' hK hd aZ hc ay aL bz;show ah;left;exact aL _ [(x,_),(d,_)] _ '1' ⟨rfl,rfl⟩
end
section
open PySem.Builtin PySem.Builtin.Str
theorem mK(x:Str){a b:Nat}(tO:a≤b)(hb:b≤x.length):b8 x (some (a:Int)) (some (b:Int))=⟨((x.cps.toList.drop a).take (b-a)).toArray⟩:=by
 unfold b8;split;rename_i h1;have h1:(strSliceIndices (some (a:Int)) (some (b:Int)) 1 x.length).length=x.length:=by simpa using h1
 rw[StrLaws.strSliceIndices_plain tO hb,aaa,abC]at h1;have ha:a=0:=by exact NP tO hb h1
 have Ji:b=x.length:=by exact NQ h1 ha
 subst ha;have e:(x.cps.toList.drop 0).take (b-0)=x.cps.toList:=by rw[List.drop_zero,Ji];exact abd (aak _)
 rw[e];rw[(StrLaws.sliced_plain x tO hb)]
def lE(s:Str)(p:Nat):Str:=⟨((s.cps.toList.drop p).take 1).toArray⟩
theorem ya(s:Str)(p:Nat)(h:p<s.length):b8 (lE s p++" ") none (some (-1))=lE s p:=by
 have hl:(s.cps.toList.drop p).take 1=[s.cps[p]'h]:=by rw[acx (by exact h)];rfl
 unfold lE;rw[hl];generalize s.cps[p]=c;kernel_rfl
theorem Fi{a1:AV}:∀(s:aas) (P:aao),(K0 P).In s.heap→∀pos kws,pos.map ab=[a0,a1]→kws.map (λp=>(p.1,ab p.2))=[]→∃binds,ac9 s (eJ P) ⟨pos,kws⟩ binds∧e7 dt binds [("self",some a0),("size",some a1),("start",none),("stop",none)]:=by intro s P fg pos kws hp hk;obtain rfl:=kws_nil hk;let v0 v1 r2 r3 r4:=bG (fR hp);subst r2;subst r3;subst r4;refine⟨[("self",v0),("size",v1)],λM A E Q hq=>(acf (M:=M) fg (by kernel_rfl:peek (K0 P) ⟨M.prog,M.w.params⟩ (adb (eJ P) ⟨[v0,v1],[]⟩)=some ([("self",v0),("size",v1)]:List (Str×Value)))).here hq,dB '3' '3' '3'⟩
theorem J5{x:Addr}{p:Nat}(hs:s.length≤100000)(hp:p≤s.length):FC K0 (n+2) 691 [.ref x,.int 1] [] [(x,.inst 745 d),(d,.dict (mI nl (.str s) (.int p)) k)] (λv C=>v= .str (lE s p)∧C=[(x,.inst 745 d),(d,.dict (mI nl (.str s) (.int ((if p<s.length then p+1 else p:Nat)))) k)]) (λzz zz=>False):=by
 show aB (fx:=dt) mD mC Fi;intro c Q' E' hK hd aZ hc ay aL bz;show ah;left;refine iE (Fh (n:=n) '2' '2') .nil hK hd (λv C ZB=>?_) (λzz zz h=>h.elim);let hv hC:=eA ZB;subst hv hC;dsimp only[aa0];left;refine iE (Qp (n:=n) (x:=x) (d:=d) (nl:=nl) (p:=.int p) (b:=s) (k:=k)) '1' hK hd (λv C Th=>?_) (λzz zz h=>h.elim);let hv hC:=eA Th;subst hv hC;dsimp only[aaT,aa0];left;show fV (aab hs '2');left;by_cases h:p<s.length
 ·have e:decide ((p:Int)≥(s.length:Int))=false:=decide_eq_false (by exact agi.mpr (abT.mpr h));rw[e];rw[if_pos h]at ay;left;have fin:∀(q:Nat),q=p+1→EB c (n+1) ⟨[("self",some (.ref x)),("size",some (.int 1)),("start",some (.int p)),("stop",some (.int q))],[(x,.inst 745 d),(d,.dict (mI nl (.str s) (.int p)) k)]⟩ (iU.drop 7) Q' E':=(by rintro q rfl;show ah;left;have el:(lE s p).length=1:=(by change((s.cps.toList.drop p).take 1).toArray.size=1;rw[acJ,ado,aa9,aaQ];exact ac5 (by change 1≤s.length-p;exact abY h));have e1:b8 s (some (p:Int)) (some ((p+1:Nat):Int))=lE s p:=(by rw[mK s (aa2 p) h];unfold lE;rw[show p+1-p=1 by exact aep _ _]);refine eY _ (some _) (some _) ⟨rfl,rfl,rfl,?_,?_⟩;rw[e1,el];decide;rw[e1];left;show cz (by rw[el];decide);left;refine⟨1,rfl,_,none,some (-1),rfl,rfl,rfl,?_,?_⟩;rw[ya s p h,el];decide;rw[ya s p h];exact ay _ _ [(x,_),(d,_)] _ '1' ⟨rfl,rfl⟩);cases h2:decide ((p:Int)+1<(s.length:Int))
  ·have:s.length=p+1:=(by have:=of_decide_eq_false h2;exact aaI (aa8 λq=>this (abT.mpr q)) h);repeat(first|exact fin _ this|k_extra "m.s1")
  repeat(first|exact fin (p+1) rfl|k_extra "m.s1")
 have e:decide ((p:Int)≥(s.length:Int))=true:=decide_eq_true (by exact agq.mpr (aa8 h));rw[e];rw[if_neg h]at ay;left;refine ay _ _ [(x,_),(d,_)] _ '1' ⟨?_,rfl⟩;unfold lE;rw[adw (by rw[aaQ];exact aa8 h)];rfl
end
section
open PySem.Builtin PySem.Builtin.Str
variable{p:Nat}
abbrev J6:List (Str×Addr×Nat):=[("node",92,0),("npredecessors",93,1),("successors",94,2)]
theorem XN(P:aao):J6.all (λp=>m7 (K0 P) 91 p.1 p.2.1 p.2.2&&qQ (K0 P) 91 p.1 p.2.1 p.2.2)=true:=by kernel_rfl
theorem Fj{nm:Str}(hK:c.K=K0 c.w.params)(h:At (nm,p,i) J6):m7 c.K 91 nm p i=true:=by rw[hK];exact(adS.mp (aaZ.mp (XN c.w.params) _ h.mem)).1
theorem J7{nm:Str}(hK:c.K=K0 c.w.params)(h:At (nm,p,i) J6):qQ c.K 91 nm p i=true:=by rw[hK];exact(adS.mp (aaZ.mp (XN c.w.params) _ h.mem)).2
theorem XO(P:aao):(zo (K0 P) 188 "add" 138&&zo (K0 P) 188 "done" 171&&fnIn (K0 P) 138&&fnIn (K0 P) 171)=true:=by kernel_rfl
structure Nd where
 nm:Str
 x:Addr
 d:Addr
 l:Addr
 np:Int
 su:List Str
abbrev RK(nm:Str)(np:Int)(l:Addr):List (Option AV):=[some (.str nm),some (.int np),some (.ref l)]
abbrev yb(r:Nd):Cells:=[(r.x,.du 91 r.d (RK r.nm r.np r.l)),(r.d,.dict [] 0),(r.l,.list (r.su.map .str))]
def bC:List Nd→Cells|[]=>[]|r::t=>yb r++bC t
theorem Fk{x:Addr}{nm:Str}:FC K0 (n+1) 87 [.ref x,.str nm] [] [(x,.inst 91 d),(d,.dict [] 0)] (λv C=>∃l,v= .none∧C=yb ⟨nm,x,d,l,0,[]⟩) (λzz zz=>False):=by
 show aB (fx:=bS) i6 i5 i_;intro c Q' E' hK hd aZ hc ay aL bz;show W.Jy (a:=x) O7 (λo=>zm);refine ah (BP ?_);iterate 2 k_extra "m.ee"
 show pu ⋯ ⋯ (J7 hK ⋯) (by with_unfolding_all rfl);refine ah (BP ?_);iterate 2 k_extra "m.ee"
 show pu ⋯ ⋯ (J7 hK ⋯) (by with_unfolding_all rfl);refine ah (BP ?_);left;refine⟨aaD _,λl=>?_⟩;k_extra "m.name";show pu ⋯ ⋯ (J7 hK ⋯) (by with_unfolding_all rfl);left;show aL _ [(x,_),(d,_),(l,_)] _ '1';exact⟨l,rfl,rfl⟩
theorem zN{E:EP}(hK:c.K=K0 c.w.params)(hd:c.hd=none)(h:∀x d l,Q (.ref x) ⟨S.loc,yb ⟨s,x,d,l,0,[]⟩++S.cells⟩):bM c (n+2) S (.ref 91) [.str s] Q E:=λv vs hv bx=>by obtain rfl:=aj hv;refine kn (K0:=K0) (m:=n+1) (C:=91) (fI:=87) (by rw[hK];kernel_rfl) (by rw[hK];kernel_rfl) (by rw[hK];kernel_rfl) hK hd (λx dx=>(FC.frame (C:=[(x,.inst 91 dx),(dx,.dict [] 0)]) (D:=S.cells) (Fk (n:=n) (x:=x) (d:=dx) (nm:=s))).mono (aak _) (λzz zz z=>z) λzz zz h8=>ak h8 λz0 z z2=>z) ?_ ?_ bx rfl (aak _);intro x dx v C' Tw;obtain⟨C1,⟨l,h1,h2⟩,h3⟩:=Tw;subst h2 h3;exact⟨h1,h x dx l⟩;exact λzz zz zz zz z=>z.elim
end
variable{ns:List Nd}
section
open PySem.Builtin PySem.Builtin.Str
variable{x:Addr} {f:Nd→Nd} {r:Nd}
def ff(ns:List Nd):List (Str×AV):=ns.map λr=>(r.nm,.ref r.x)
def jb(s:Str):List Nd→Option Nd|[]=>none|r::t=>if s=r.nm then some r else jb s t
def fe(f:Nd→Nd)(s:Str):List Nd→List Nd|[]=>[]|r::t=>if s=r.nm then f r::t else r::fe f s t
def sZ(v:Int)(r:Nd):Nd:={r with np:=v}
def Qq(v:List Str)(r:Nd):Nd:={r with su:=v}
theorem s0(s:Str):∀ns:List Nd,dU (ff ns) s=(jb s ns).map λr=>.ref r.x:=by intro l0;induction l0 with|nil=>exact rfl|cons r t ih=>change(if _ then _ else dU (ff t) s)=_;unfold jb;by_cases h:s=r.nm;rw[if_pos h.symm,if_pos h];rfl;rw[if_neg (λq=>h q.symm),if_neg h];exact ih
theorem Fl:∀{ns:List Nd},jb s ns=none→nY (ff ns) s (.ref x)=ff ns++[(s,.ref x)]:=by intro l0;induction l0 with|nil=>exact λzz=>rfl|cons r t ih=>intro h;unfold jb at h;split at h;cases h;rename_i q;change(if _ then _ else _::nY (ff t) s (.ref x))=_;rw[if_neg (λz=>q z.symm),ih h];rfl
theorem Cn(ns:List Nd)(r:Nd):ff ns++[(r.nm,.ref r.x)]=ff (ns++[r]):=by unfold ff;rw[aaj];rfl
theorem s_(ns:List Nd):(ff ns).length=ns.length:=aaa _
theorem jF(hf:∀r,(f r).nm=r.nm∧(f r).x=r.x):∀ns:List Nd,ff (fe f s ns)=ff ns:=by intro l0;induction l0 with|nil=>exact rfl|cons r t ih=>unfold fe;split;change(_,_)::ff t=(_,_)::ff t;rw[(hf r).1,(hf r).2];change(_,_)::ff (fe f s t)=(_,_)::ff t;rw[ih]
theorem eW:∀{ns:List Nd},jb s ns=some r→r∈ns∧r.nm=s:=by intro l0;induction l0 with|nil=>exact λh=>nomatch h|cons a t ih=>intro h;unfold jb at h;split at h;rename_i q;cases h;exact⟨.head _,q.symm⟩;have:=ih h;exact⟨.tail _ this.1,this.2⟩
theorem vd{p:Addr×AO}(hp:At p (yb r)):∀{ns:List Nd},r∈ns→At p (bC ns):=by
 intro l0;induction l0 with
 |nil=>intros;first|contradiction|(rename_i h;cases h)|nofun
 |cons a t ih=>intro h;rcases aai.mp h with rfl|h;exact At.left hp;exact At.right (l:=yb a) (ih h)
theorem Co{o o':AO}(hu:aI a o o' (yb r) (yb (f r))):∀{ns:List Nd},jb s ns=some r→aI a o o' (bC ns) (bC (fe f s ns)):=by intro l0;induction l0 with|nil=>exact λh=>nomatch h|cons b t ih=>intro h;unfold jb at h;unfold fe;split at h;rename_i q;cases h;rw[if_pos q];exact hu.left;rename_i q;rw[if_neg q];exact aI.right (l:=yb b) (ih h)
theorem Fm:∀ns:List Nd,aq (yb r) (bC (ns++[r])) (bC ns):=by intro l0;induction l0 with|nil=>exact bZ|cons a t ih=>change aq _ (yb a++bC (t++[r])) (yb a++bC t);exact bR (bR (bR (ih)))
abbrev Al(x dx m:Addr)(rn po nf:AV)(ns:List Nd)(ep:Nat):Cells:=[(x,.inst 188 dx),(dx,.dict (kH (.ref m) rn po nf) 4),(m,.map (ff ns) ep)]
theorem zO{m:Addr}(hz:ns.length<1000):FC K0 (n+3) 131 [.ref x,.str s] [] (Al x dx m rn po nf ns ep) (λv C=>(∃r,jb s ns=some r∧v= .ref r.x∧C=Al x dx m rn po nf ns ep)∨(jb s ns=none∧∃y d l fU,v= .ref y∧C=yb ⟨s,y,d,l,0,[]⟩++Al x dx m rn po nf (ns++[⟨s,y,d,l,0,[]⟩]) fU)) (λzz zz=>False):=by
 show aB (fx:=aJ) dP dO dR;intro c Q' E' hK hd aZ hc ay aL bz;show ah;left;show ur;left;show kN '0';rw[s0];cases hf:jb s ns with|some r=>refine⟨_,by k_extra "m.at",?_⟩;left;show ay _ _ [(x,_),(dx,_),(m,_)] _ '1';exact .inl ⟨r,hf,rfl,rfl⟩|none=>
  refine⟨_,by k_extra "m.at",?_⟩;left;show qa;left;let y d l:=zN hK hd;dsimp only[aaT,aa0];show I1;left;let fU:=wk (ep:=ep) (cells':=λfU=>yb ⟨s,y,d,l,0,[]⟩++Al x dx m rn po nf (ns++[⟨s,y,d,l,0,[]⟩]) fU) (λfU=>?_) (by rw[s_];exact hz)
  ·rw[Fl hf,show ff ns++[(s,AV.ref y)]=ff (ns++[⟨s,y,d,l,0,[]⟩])from Cn ns ⟨s,y,d,l,0,[]⟩];dsimp only[aaT,aa0];k_extra "m.at"
  show cA ⋯;left;show ay _ _ (yb _++Al x dx m rn po nf (ns++[⟨s,y,d,l,0,[]⟩]) _) [] bZ;exact .inr ⟨hf,y,d,l,_,rfl,rfl⟩
end
section
open PySem.Builtin PySem.Builtin.Str
variable{x:Addr} {r:Nd} {f:Nd→Nd}
theorem Rp.pushX{X:Cells}{s:aas}{o:Obj}(R:Rp c (S.ext X) s)(hf:o.isFreed=false)(hc:pY c.w ao o):Rp c (S.ext ((s.heap.objs.size,ao)::X)) {s with heap:=s.heap.push o}:=Rp.j0 (C:=[]) (C':=[(s.heap.objs.size,ao)]) R (λb o zz e=>aap _ e) (λp hp=>by obtain rfl:=aaL.mp hp;exact⟨_,aaG _ hf,hc⟩) (by simp) (λa ha=>by obtain rfl:a=s.heap.objs.size:=(by simpa using ha);exact .inr (aak _)) (aak _)
def Qs(fd:aaP):Arg:=fd.params.vararg.getD ⟨"",none,⟨0,0,0,0⟩⟩
theorem Cp(hz:ps.length≤1000)(c:Cx)(S:SS)(X:Cells)(A:ads)(s1:aas)(pos:List Value)(kws:List (Str×Value))(ok:c.Ok)(hK:c.K=K0 c.w.params)(hp:pos.map ab= .ref x:: .str s::ps.map .str)(hk:kws.map (λp=>(p.1,ab p.2))=[])(R:Rp c (S.ext X) s1):wpAny (model prog c.w) A (adb (b6 c.w.params) ⟨pos,kws⟩) (λbinds s1=>∃D loc,Rp c (S.ext (D++X)) s1∧e7 bb binds loc∧∃t:Addr,D=[(t,.tup (ps.map .str))]∧loc=([("self",some (.ref x)),("node",some (.str s)),("predecessors",some (.ref t)),("nodeinfo",none),("pred",none),("pred_info",none)]:List (Str×Option AV))) nB s1:=by obtain rfl:=kws_nil hk;obtain⟨v0,pos,rfl,h0,hp⟩:=abL.mp hp;obtain⟨v1,pos,rfl,h1,hp⟩:=abL.mp hp;show qU (names:=["self","node"]) (va:=Qs (b6 c.w.params)) '3' '3' '3' '3' '3' '3' '2' (abm _ _) ?_;have:=congrArg aaV hp;simp only[aaa]at this;change pos.length+1+1≤1000000;exact Nn hz this;refine ba [(s1.heap.objs.size,.tup (ps.map .str))] _ ⟨R.pushX rfl (ba _ _ ⟨rfl,?_⟩),dB (loc:=[("self",some (ab v0)),("node",some (ab v1)),("predecessors",some (.ref s1.heap.objs.size)),("nodeinfo",none),("pred",none),("pred_info",none)]) '3' '3' '3',s1.heap.objs.size,rfl,by rw[h0,h1]⟩;rw[adi];exact hp
abbrev J8(x:Addr)(s:Str)(t:Addr)(a b d:Option AV):List (Str×Option AV):=[("self",some (.ref x)),("node",some (.str s)),("predecessors",some (.ref t)),("nodeinfo",a),("pred",b),("pred_info",d)]
theorem wV{m r:Addr}(hz:ps.length≤1000):FC K0 (n+3) 138 (.ref x:: .str s::ps.map .str) [] (Al x dx m (.ref r) po nf ns ep) (λv C=>False) (λe C=>e= .type "ValueError"∧C=Al x dx m (.ref r) po nf ns ep):=by show FC.pk (fx:=bb) (B:=λD loc=>∃t:Addr,D=[(t,.tup (ps.map .str))]∧loc=J8 x s t none none none) dE dD (Cp hz);intro c D loc Q' E' Ty;let t r1 r2:=ak Ty;subst r1;subst r2;intro hK hd aZ hc bl ay aL bz;show ah;dsimp only[aaT,aa0];left;show h_ ack acd hd;k_extra "m.name";refine⟨rfl,?_⟩;left;refine⟨by decide,bz _ _ [(x,_),(dx,_),(m,_)] _ '1' ?_⟩;exact⟨rfl,rfl⟩
abbrev G:=List (Str×Int×List Str)
def er(ns:List Nd):G:=ns.map λr=>(r.nm,r.np,r.su)
def db(s:Str):G→Option (Int×List Str)|[]=>none|r::t=>if s=r.1 then some r.2 else db s t
def dS(f:Int×List Str→Int×List Str)(s:Str):G→G|[]=>[]|r::t=>if s=r.1 then(r.1,f r.2)::t else r::dS f s t
def kC(s:Str)(g:G):G:=if(db s g).isSome then g else g++[(s,0,[])]
theorem pO(s:Str):∀ns:List Nd,db s (er ns)=(jb s ns).map λr=>(r.np,r.su):=by intro l0;induction l0 with|nil=>exact rfl|cons r t ih=>change(if _ then _ else db s (er t))=_;unfold jb;split;rfl;exact ih
theorem pP(h1:(f r).nm=r.nm)(h2:((f r).np,(f r).su)=f' (r.np,r.su)):∀{ns:List Nd},jb s ns=some r→er (fe f s ns)=dS f' s (er ns):=by intro l0;induction l0 with|nil=>exact λh=>nomatch h|cons a t ih=>intro h;unfold jb at h;unfold fe;change _=(if _ then _ else _::dS f' s (er t));split at h;rename_i q;cases h;rw[if_pos q,if_pos q,←h2];change(_,_,_)::er t=_;rw[h1];rfl;rename_i q;rw[if_neg q,if_neg q,←ih h];rfl
theorem vf:∀ns:List Nd,(fe f s ns).length=ns.length:=by intro l0;induction l0 with|nil=>exact rfl|cons r t ih=>unfold fe;split;rfl;change _+1=_+1;rw[ih]
theorem Cq(hr:s=r.nm):∀{ns:List Nd},jb s ns=none→jb s (ns++[r])=some r:=by intro l0;induction l0 with|nil=>exact λzz=>if_pos hr|cons a t ih=>intro h;unfold jb at h;change(if _ then _ else jb s (t++[r]))=_;split at h;cases h;rename_i q;rw[if_neg q];exact ih h
theorem Fn(hf:∀r,(f r).nm=r.nm):∀{ns:List Nd},jb s ns=some r→jb s (fe f s ns)=some (f r):=by intro l0;induction l0 with|nil=>exact λh=>nomatch h|cons a t ih=>intro h;unfold jb at h;unfold fe;split at h;rename_i q;cases h;rw[if_pos q];exact if_pos (by rw[hf];exact q);rename_i q;rw[if_neg q];change(if _ then _ else _)=_;rw[if_neg q];exact ih h
theorem bD{l:Cells}(h:aq C l D):∀pre:Cells,aq C (pre++l) (pre++D):=by intro l0;induction l0 with|nil=>exact h|cons _ t ih=>exact bR (ih)
theorem gj{L:Cells}:∀C:Cells,aq C (C++L) L:=by intro l0;induction l0 with|nil=>exact .nil|cons _ t ih=>exact .cons .head (ih)
theorem oj{A B l D1:Cells}(h:aq A l D1)(h2:aq B D1 D):aq (A++B) l D:=by induction h with|nil=>exact h2|cons h1 _ ih=>exact .cons h1 (ih h2)
theorem lF{E:EP}{m:Addr}(pre:Cells)(hK:c.K=K0 c.w.params)(hd:c.hd=none)(hz:ns.length<1000)(hS:S.cells=pre++(Al x dx m rn po nf ns ep++bC ns))(h:∀de fU r,jb s de=some r→er de=kC s (er ns)→de.length≤ns.length+1→Q (.ref r.x) ⟨S.loc,pre++(Al x dx m rn po nf de fU++bC de)⟩) (hn:autoParam (3≤n) apM):bM c n S (.ref 131) [.ref x,.str s] Q E:=by let k r1:=eE (Nat.exists_eq_add_of_le' hn);subst r1;refine aH (zO (n:=k) hz) (by rw[hS];exact bD (gj _) pre) hK hd (λv C hv=>?_) (λzz zz h=>h.elim);have ht:=pO s ns;rcases hv with⟨r,hf,rfl,rfl⟩|⟨hf,y,d,l,fU,rfl,rfl⟩;refine⟨_,bD (gj _) pre,h ns ep r hf ?_ (aa2 _)⟩;unfold kC;rw[ht,hf];rfl;refine⟨pre++(Al x dx m rn po nf (ns++[⟨s,y,d,l,0,[]⟩]) fU++bC (ns++[⟨s,y,d,l,0,[]⟩])),oj (bD (bD (Fm ns) _) pre) (bD (gj _) pre),h (ns++[⟨s,y,d,l,0,[]⟩]) fU ⟨s,y,d,l,0,[]⟩ (Cq (s:=s) (r:=⟨s,y,d,l,0,[]⟩) rfl hf) ?_ (aaz aar)⟩;unfold kC;rw[ht,hf];unfold er;rw[aaj];rfl
theorem vg(h:r∈ns):At (r.x,.du 91 r.d (RK r.nm r.np r.l)) (bC ns):=vd .head h
theorem nN(h:r∈ns):At (r.d,.dict [] 0) (bC ns):=vd (.tail .head) h
theorem Cr(h:r∈ns):At (r.l,.list (r.su.map .str)) (bC ns):=vd (.tail (.tail .head)) h
theorem ta(v:Int)(h:jb s ns=some r):aI r.x (.du 91 r.d (RK r.nm r.np r.l)) (.du 91 r.d (RK r.nm v r.l)) (bC ns) (bC (fe (sZ v) s ns)):=Co (f:=sZ v) .head h
theorem J9(v:List Str)(h:jb s ns=some r):aI r.l (.list (r.su.map .str)) (.list (v.map .str)) (bC ns) (bC (fe (Qq v) s ns)):=Co (f:=Qq v) (.tail (.tail .head)) h
end
variable{g g2 gF:G}
section
open PySem.Builtin PySem.Builtin.Str
variable{f:Int×List Str→Int×List Str} {b:Nat} {p:Str} {r:Nd}
def qx(g:G)(b:Nat):Prop:=∀e∈g,e.2.2.length≤b
def il(s p:Str)(g:G):G:=dS (λa=>(a.1,a.2++[s])) p (kC p g)
def qy(s:Str)(ps:List Str)(g:G):G:=ps.foldl (λg p=>il s p g) (dS (λa=>(a.1+ps.length,a.2)) s (kC s g))
theorem tb{b':Nat}(hb:b≤b')(hf:∀a,a.2.length≤b→(f a).2.length≤b'):∀{g:G},qx g b→qx (dS f s g) b':=by intro l0;induction l0 with|nil=>exact λzz=>λe he=>nomatch he|cons r t ih=>intro h;have h1:=h r (.head _);have h2:qx t b:=λe he=>h e (.tail _ he);unfold dS;split;intro e he;rcases aai.mp he with rfl|he;exact hf _ h1;exact aab (h2 e he) hb;intro e he;rcases aai.mp he with rfl|he;exact aab h1 hb;exact ih h2 e he
theorem om(h:qx g b):qx (kC s g) b:=by unfold kC;split;exact h;intro e he;rcases aax.mp he with he|he;exact h e he;obtain rfl:=aaL.mp he;exact aaD _
theorem vh(h:qx g b):qx (il s p g) (b+1):=tb (aa2 _) (λa ha=>by rw[aar];exact acC ha) (om h)
theorem Cs(h:jb p ns=some r):aI r.l (.list (r.su.map .str)) (.list (r.su.map .str++[.str s])) (bC ns) (bC (fe (Qq (r.su++[s])) p ns)):=by have:=J9 (r.su++[s]) h;rw[aaj]at this;exact this
theorem J_(h:qx (er ns) b)(hr:r∈ns):r.su.length≤b:=h (r.nm,r.np,r.su) (aat (f:=λr:Nd=>(r.nm,r.np,r.su)) hr)
abbrev nO(x dx m:Addr)(ns:List Nd)(ep:Nat):Cells:=(x,.inst 188 dx)::(dx,.dict (kH (.ref m) .none (.int 0) (.int 0)) 4)::(m,.map (ff ns) ep)::bC ns
theorem w_add{x m:Addr}(hz:ps.length≤100)(hn:ns.length≤800)(Ct:qx (er ns) 800):FC K0 (n+4) 138 (.ref x:: .str s::ps.map .str) [] (nO x dx m ns ep) (λv C=>v= .none∧∃de fU,er de=qy s ps (er ns)∧C=nO x dx m de fU) (λe C=>False):=by
 show FC.pk (fx:=bb) (B:=λD loc=>∃t:Addr,D=[(t,.tup (ps.map .str))]∧loc=J8 x s t none none none) dE dD (Cp (aab hz '2'));intro c D loc Q' E' Tz;let t r1 r2:=ak Tz;subst r1;subst r2;intro hK hd aZ hc bl ay aL bz;show ah;dsimp only[aaT,aa0];left;let Ka ZC r1 Kb vM Lw:=lF [(t,_)] hK hd (by exact NO hn) rfl;dsimp only[aaT,aa0];iterate 2 k_extra "m.s1"
 have Kc:=(eW Kb).1;show PV;k_extra "m.name";show Hh (fB (vg Kc)) (fB (nN Kc)) (Fj hK ⋯) rfl rfl;left;show oY '0' (by rw[aaa];exact aab hz '2');left;show pu (qV (ta (r1.np+ps.length) Kb)) (fB (nN Kc)) (J7 hK ⋯) (by rw[aaa];rfl);dsimp only[aaa];left;have VI:er (fe (sZ (r1.np+ps.length)) s Ka)=dS (λa=>(a.1+ps.length,a.2)) s (kC s (er ns)):=by rw[pP (f':=λa=>(a.1+ps.length,a.2)) rfl rfl Kb,vM]
 rw[←jF (f:=sZ (r1.np+ps.length)) (s:=s) (λzz=>⟨rfl,rfl⟩) Ka];have XQ:(fe (sZ (r1.np+ps.length)) s Ka).length≤ns.length+1+0:=by rw[vf];exact Lw
 generalize fe (sZ (r1.np+ps.length)) s Ka=tc at VI XQ⊢;show mv (xs:=ps.map .str) (l:=t) (λi S=>∃de fU p q,S=⟨J8 x s t (some (.ref r1.x)) p q,(t,.tup (ps.map .str))::nO x dx m de fU⟩∧er de=(ps.take i).foldl (λg p=>il s p g) (dS (λa=>(a.1+ps.length,a.2)) s (kC s (er ns)))∧de.length≤ns.length+1+i∧qx (er de) (800+i)) ?_ ?_ ?_
 ·left;exact⟨rfl,.head _,tc,ZC,none,none,rfl,VI,XQ,by rw[VI];exact(tb (f:=λa=>(a.1+ps.length,a.2)) (aak _) (λzz h=>h) (om Ct):qx (dS (λa=>(a.1+ps.length,a.2)) s (kC s (er ns))) 800)⟩
 intro i;let de fU p q z5:=rG;exact .head _
 ·intro i y S1 N hy;revert S1;let de fU p q he hl hb:=jy;intro hN;rw[aag]at hy;let w hw r2:=ak (aaq.mp hy);subst r2;have hi:=(aav.mp hw).1;refine⟨_,by k_extra "m.at",?_⟩;show ah;left;let VJ ZD r3 VK Dx ZE:=lF (n:=n+3) (ns:=de) [(t,_)] hK hd (by exact NR hz hn hl hi) rfl;have RL:=(eW VK).1;dsimp only[aaT,aa0];symm;show pr (fB (vg RL)) (fB (nN RL)) (Fj hK ⋯) rfl rfl;refine⟨ty_list (fB (Cr RL)),?_⟩;left;show aS (qV (Cs VK)) (by rw[aaa];exact aab (J_ (by rw[Dx];exact om hb:qx (er VJ) (800+i)) RL) (show 800+i≤1000000 by exact NT hz hi));left;have RM:er (fe (Qq (r3.su++[s])) w VJ)=il s w (er de):=(by rw[pP (f':=λa=>(a.1,a.2++[s])) rfl rfl VK,Dx];rfl);rw[←jF (f:=Qq (r3.su++[s])) (s:=w) (λzz=>⟨rfl,rfl⟩) VJ];refine hN _ (p4 _ ZD _ _ ⟨rfl,?_,?_,?_⟩);rw[RM,aaK,hw,ab4,←he];rfl;rw[vf];exact NV hl ZE;rw[RM];exact vh hb
 let de fU p q he hl hb:=jy;left;refine aL _ (nO x dx m de fU) [(t,_)] (bR bZ) ⟨rfl,de,fU,?_,rfl⟩;rw[he,aaa,abi];rfl
end
section
open PySem.Builtin PySem.Builtin.Str
theorem Kd{a1:AV}:∀(s:aas) (P:aao),(K0 P).In s.heap→∀pos kws,pos.map ab=[a0,a1]→kws.map (λp=>(p.1,ab p.2))=[]→∃binds,ac9 s (bB P) ⟨pos,kws⟩ binds∧e7 a_ binds [("self",some a0),("graph",some a1),("node",none),("predecessors",none)]:=by intro s P fg pos kws hp hk;obtain rfl:=kws_nil hk;let v0 v1 r2 r3 r4:=bG (fR hp);subst r2;subst r3;subst r4;refine⟨[("self",v0),("graph",v1)],λM A E Q hq=>(acf (M:=M) fg (by kernel_rfl:peek (K0 P) ⟨M.prog,M.w.params⟩ (adb (bB P) ⟨[v0,v1],[]⟩)=some ([("self",v0),("graph",v1)]:List (Str×Value)))).here hq,dB '3' '3' '3'⟩
abbrev Gs:=List (Str×Addr×List Str)
def gM(gs:Gs):List (Str×AV):=gs.map λe=>(e.1,.ref e.2.1)
def gC(gs:Gs):Cells:=gs.map λe=>(e.2.1,.list (e.2.2.map .str))
def lG(gs:Gs):G:=gs.foldl (λg e=>qy e.1 e.2.2 g) []
theorem yc{e:Str×Addr×List Str}:∀{gs:Gs},e∈gs→At (e.2.1,.list (e.2.2.map .str)) (gC gs):=by
 intro l0;induction l0 with
 |nil=>intros;first|contradiction|(rename_i h;cases h)|nofun
 |cons a t ih=>intro h;rcases aai.mp h with rfl|h;exact .head;exact .tail (ih h)
theorem wW(ns:List Nd):(er ns).length=ns.length:=aaa _
theorem yd(f:Int×List Str→Int×List Str)(s:Str):∀g:G,(dS f s g).length=g.length:=by intro l0;induction l0 with|nil=>exact rfl|cons r t ih=>unfold dS;split;rfl;change _+1=_+1;rw[ih]
theorem ye(s:Str)(g:G):(kC s g).length≤g.length+1:=by unfold kC;split;exact aa2 _;exact aaz aar
theorem zP(s:Str):∀(ps:List Str) (g:G),(ps.foldl (λg p=>il s p g) g).length≤g.length+ps.length:=by intro l0;induction l0 with|nil=>exact λg=>aak _|cons p t ih=>intro g;have h2:(il s p g).length≤g.length+1:=(by unfold il;rw[yd];exact ye p g);change(t.foldl _ (il s p g)).length≤g.length+(t.length+1);exact Nz (ih (il s p g)) h2
theorem Fo(s:Str)(ps:List Str)(g:G):(qy s ps g).length≤g.length+1+ps.length:=by unfold qy;have h1:=zP s ps (dS (λa=>(a.1+ps.length,a.2)) s (kC s g));rw[yd]at h1;exact NB h1 (ye s g)
theorem rc{s:Str}:∀(ps:List Str) {g:G} {b:Nat},qx g b→qx (ps.foldl (λg p=>il s p g) g) (b+ps.length)|[],g,b,h=>h|p::t,g,b,h=>by rw[show b+(p::t).length=b+1+t.length by rw[aaF];exact NC];exact(rc (s:=s) t (vh (s:=s) (p:=p) h))
theorem Fp(s:Str)(ps:List Str){b:Nat}(h:qx g b):qx (qy s ps g) (b+ps.length):=rc ps (tb (f:=λa=>(a.1+ps.length,a.2)) (aak _) (λzz h=>h) (om h))
abbrev VL(x g:Addr)(p q:Option AV):List (Str×Option AV):=[("self",some (.ref x)),("graph",some (.ref g)),("node",p),("predecessors",q)]
theorem Hr{x dx m g:Nat}{o:AO}{L:Cells}:aq (nO x dx m ns ep) ((m,.map (ff ns) ep)::(x,.inst 188 dx)::(dx,.dict (kH (.ref m) .none (.int 0) (.int 0)) 4)::(g,o)::(L++bC ns)) ((g,o)::(L++[])):=.cons (.tail .head) (.cons (.tail .head) (.cons .head (bR (bD bZ L))))
theorem Cu{x g:Addr}{gs:Gs}(hz:gs.length≤7)(uv:∀e∈gs,e.2.2.length≤100):FC K0 (n+7) 124 [.ref x,.ref g] [] ((x,.inst 188 dx)::(dx,.dict [] 0)::(g,.map (gM gs) ge)::gC gs) (λv C=>v= .none∧∃m ns ep,er ns=lG gs∧C=(g,.map (gM gs) ge)::(gC gs++nO x dx m ns ep)) (λzz zz=>False):=by
 show aB (fx:=a_) e_ e9 Kd;intro c Q' E' hK hd aZ hc ay aL bz;refine ah (qW ?_);iterate 2 k_extra "g.s1"
 iterate 3 k_extra "m.nw"
 iterate 4 k_extra "m.s1"
 left;show uN (es:=gM gs) (ep:=ge) (d:=g) (λi S=>∃ns ep p q,S=⟨VL x g p q,(d,.map (ff ns) ep)::(x,.inst 188 dx)::(dx,.dict (kH (.ref d) .none (.int 0) (.int 0)) 4)::(g,.map (gM gs) ge)::(gC gs++bC ns)⟩∧er ns=(gs.take i).foldl (λg e=>qy e.1 e.2.2 g) []∧ns.length≤101*i∧qx (er ns) (101*i)) ?_ ?_ ?_
 ·symm;refine wL ⋯ λw=>(ba w _ ⟨rfl,rfl,[],0,none,none,?_,rfl,aaD _,λe he=>nomatch he⟩);change _=SS.mk _ (_::_::_::_::(gC gs++[]));rw[aaO];rfl
 intro i;let ns ep p q z5:=rG;exact .tail (.tail (.tail .head))
 ·intro i k v S1 N hy;revert S1;let ns ep p q he hl hb:=jy;intro hN;unfold gM at hy;rw[aag]at hy;let e hw hk:=ak (aaq.mp hy);let r0 r1:=eA (afI hk);subst r0;subst r1;have hm:=aaA hw;refine⟨_,by k_extra "m.sets",?_⟩;refine ah (EH (ER ?_));k_extra "m.name";have Dy:=XO c.w.params;rw[←hK]at Dy;simp only[aaM]at Dy;refine Hi ⋯ ⋯ Dy.1.1.1 ⋯ ⟨Dy.1.2,?_⟩;iterate 2 k_extra "m.name"
  show str_list (xs:=e.2.2.map .str) (fB (yc hm).left) (by rw[aaa];exact aab (uv _ hm) '2');have E7:101*i≤800:=(by exact NE hz ((aav.mp hw).1));refine uO (w_add (n:=n) (uv _ hm) (aab hl E7) (λe he=>aab (hb e he) E7)) Hr hK hd (λv C VM=>?_) (λzz zz h=>h.elim);let z0 tc nh ie hC:=GM VM;subst hC;refine⟨_,Hr,?_⟩;left;have Qt:=uv _ hm;refine hN _ (p4 tc nh _ _ ⟨rfl,?_,?_,?_⟩);rw[aaK,hw,ab4,←he];exact ie;have:=Fo e.1 e.2.2 (er ns);rw[←ie,wW,wW]at this;exact NG hl Qt this;rw[ie];exact λe' Qu=>aab (Fp e.1 e.2.2 hb e' Qu) (by exact NI Qt)
 let ns ep p q he hl hb:=jy;left;refine aL _ ((g,.map (gM gs) ge)::(gC gs++nO x dx d ns ep)) [] ?_ ⟨rfl,d,ns,ep,?_,rfl⟩;refine .cons (.tail (.tail (.tail .head))) (oj (A:=gC gs) (B:=nO x dx d ns ep) (D1:=[(d,_),(x,_),(dx,_)]++bC ns) (bD (gj (gC gs)) [_,_,_]) ?_);exact .cons (.tail .head) (.cons (.tail .head) (.cons .head bZ));unfold gM at he;rw[he,aaa,abi];rfl
end
section
open PySem.Builtin PySem.Builtin.Str
variable{x:Addr} {m:AV}
theorem Fq{E:EP}{g:Addr}{gs:Gs}(hK:c.K=K0 c.w.params)(hd:c.hd=none)(hz:gs.length≤7)(uv:∀e∈gs,e.2.2.length≤100)(hp:aq ((g,.map (gM gs) ge)::gC gs) S.cells D)(h:∀x dx m ns ep,er ns=lG gs→∃l,aq ((g,.map (gM gs) ge)::(gC gs++nO x dx m ns ep)) l D∧Q (.ref x) ⟨S.loc,l⟩):bM c (n+8) S (.ref 188) [.ref g] Q E:=λv vs hv bx=>by obtain rfl:=aj hv;obtain⟨loc,cells⟩:=S;refine W.reorder (W.fh hp.perm ?_);refine kn (Q:=λv S'=>∃l,l.Perm S'.cells∧Q v ⟨S'.loc,l⟩) (S:=⟨loc,((g,.map (gM gs) ge)::gC gs)++D⟩) (kws:=[]) (K0:=K0) (m:=n+7) (C:=188) (fI:=124) (by rw[hK];kernel_rfl) (by rw[hK];kernel_rfl) (by rw[hK];kernel_rfl) hK hd (λx dx=>(FC.frame (C:=(x,.inst 188 dx)::(dx,.dict [] 0)::(g,.map (gM gs) ge)::gC gs) (D:=D) (Cu (n:=n) (x:=x) (dx:=dx) hz uv)).mono (aak _) (λzz zz z=>z) λzz zz h8=>ak h8 λz0 z z2=>z) ?_ ?_ bx rfl (aak _);intro x dx v C' VN;obtain⟨C1,⟨h1,m,ns,ep,h2,h4⟩,h3⟩:=VN;subst h3 h4;let l y1 y2:=ak (h x dx m ns ep h2);exact⟨h1,l,y1.perm,y2⟩;exact λzz zz zz zz z=>z.elim
abbrev Am(x dx:Addr)(m rn po nf:AV):Cells:=[(x,.inst 188 dx),(dx,.dict (kH m rn po nf) 4)]
abbrev en(x dx m:Addr)(ns:List Nd)(ep r:Nat)(rl:List Str)(po nf:Int):Cells:=(x,.inst 188 dx)::(dx,.dict (kH (.ref m) (.ref r) (.int po) (.int nf)) 4)::(m,.map (ff ns) ep)::(r,.list (rl.map .str))::bC ns
theorem qz:FC K0 (n+2) 157 [.ref x] [] (Am x dx m .none po nf) (λv C=>False) (λe C=>e= .type "ValueError"∧C=Am x dx m .none po nf):=by show fP (fx:=aG) cj ci cq;intro c Q' E' hK hd aZ hc bl ay aL bz;show ah;left;show h_ ack acd hd;k_extra "m.name";refine⟨rfl,?_⟩;left;refine⟨by decide,bz _ _ [(x,_),(dx,_)] _ '1' ?_⟩;exact⟨rfl,rfl⟩
theorem td:FC K0 (n+2) 150 [.ref x] [] (Am x dx m .none po nf) (λv C=>False) (λe C=>e= .type "ValueError"∧C=Am x dx m .none po nf):=by show fP (fx:=aF) ca b_ ck;intro c Q' E' hK hd aZ hc bl ay aL bz;show ah;left;show h_ ack acd hd;k_extra "m.name";refine⟨rfl,?_⟩;left;refine⟨by decide,bz _ _ [(x,_),(dx,_)] _ '1' ?_⟩;exact⟨rfl,rfl⟩
theorem vi{r:Addr}{po nf:Int}(hz:rl.length≤1000):FC K0 (n+2) 157 [.ref x] [] ((r,.list (rl.map .str))::Am x dx m (.ref r) (.int po) (.int nf)) (λv C=>v= .bool (decide (nf<po)|| !rl.isEmpty)∧C=(r,.list (rl.map .str))::Am x dx m (.ref r) (.int po) (.int nf)) (λe C=>False):=by show aB (fx:=aG) cj ci cq;intro c Q' E' hK hd aZ hc ay aL bz;show ah;left;cases hb:decide (nf<po)with|true=>rw[if_pos rfl];show ay _ _ [(r,_),(x,_),(dx,_)] _ '1';exact⟨by rw[hb];rfl,rfl⟩|false=>rw[if_neg aa1];left;show pc '0' (by rw[aaa];exact aab hz '2');show ay _ _ [(r,_),(x,_),(dx,_)] _ '1';refine⟨?_,rfl⟩;rw[hb];cases rl<;>rfl
theorem pQ(f:Int×List Str→Int×List Str)(s p:Str):∀g:G,(db s (dS f p g)).isSome=(db s g).isSome:=by intro l0;induction l0 with|nil=>exact rfl|cons r t ih=>unfold dS;split;change(if _ then _ else _:Option _).isSome=(if _ then _ else _:Option _).isSome;split<;>rfl;change(if _ then _ else _:Option _).isSome=(if _ then _ else _:Option _).isSome;split;rfl;exact ih
def iK(rl:List Str)(g:G):G:=rl.foldl (λg s=>dS (λa=>(-1,a.2)) s g) g
theorem zQ(s:Str):∀(rl:List Str) (g:G),(db s (iK rl g)).isSome=(db s g).isSome:=by intro l0;induction l0 with|nil=>exact λg=>rfl|cons r t ih=>exact λg=>(ih _).trans (pQ _ s r g)
theorem wX(h:(db s (er ns)).isSome=true):∃r,jb s ns=some r:=by
 rw[pO]at h;cases hf:jb s ns with
 |none=>rw[hf]at h;cases h
 |some r=>exact⟨r,rfl⟩
theorem te{r:Nd}(h:jb s ns=some r):dU (ff ns) s=some (.ref r.x):=by rw[s0,h];rfl
abbrev VO(x t m:Addr)(p:Option AV):List (Str×Option AV):=[("self",some (.ref x)),("result",some (.ref t)),("n2i",some (.ref m)),("node",p)]
theorem th{x dx m r:Nat}{po nf:Int}(hz:rl.length≤1000)(Dr:∀s∈rl,(db s (er ns)).isSome=true):FC K0 (n+2) 150 [.ref x] [] (en x dx m ns ep r rl po nf) (λv C=>∃t de,v= .ref t∧er de=iK rl (er ns)∧C=(t,.tup (rl.map .str))::en x dx m de ep r [] (po+rl.length) nf) (λe C=>False):=by
 show aB (fx:=aF) ca b_ ck;intro c Q' E' hK hd aZ hc ay aL bz;show ah;left;let t:=jX '0' (by rw[aaa];exact aab hz '2');left;show mv (xs:=rl.map .str) (l:=t) (λi S=>∃de p,S=⟨VO x t m p,(t,.tup (rl.map .str))::en x dx m de ep r rl po nf⟩∧er de=iK (rl.take i) (er ns)) ?_ ?_ ?_
 ·left;exact⟨rfl,.head _,ns,none,rfl,rfl⟩
 intro i;let de p z3:=gt;exact .head _
 ·intro i y S1 N hy;revert S1;let de p he:=gt;intro hN;rw[aag]at hy;let w hw r2:=ak (aaq.mp hy);subst r2;let q hf:=eE (wX (s:=w) (ns:=de) (by rw[he,zQ];exact Dr w (aaA hw)));refine⟨_,by k_extra "m.at",?_⟩;refine ah (BP ?_);symm;show mh '0' (te hf);show pu (.tail (qV (ta (-1) hf))) (.tail (fB (nN ((eW hf).1)))) (J7 hK ⋯) rfl;left;rw[←jF (f:=sZ (-1)) (s:=w) (λzz=>⟨rfl,rfl⟩) de];refine hN _ (ba _ _ ⟨rfl,?_⟩);rw[pP (f':=λa=>(-1,a.2)) rfl rfl hf,he,aaK,hw];unfold iK;rw[ab4];rfl
 let de p he:=gt;left;show wm ⋯ (by rw[aaa];exact aab hz '2');left;show oY '0' (by rw[aaa];exact aab hz '2');rw[aaa];left;refine ay _ _ ((t,.tup (rl.map .str))::en x dx m de ep r [] (po+rl.length) nf) [] bZ (ba t de ⟨rfl,?_,rfl⟩);rw[he,aaa,abi]
end
section
open PySem.Builtin PySem.Builtin.Str
variable{x:Addr}
abbrev re(x t:Addr)(n2i nd ni st su si:Option AV):List (Str×Option AV):=[("self",some (.ref x)),("nodes",some (.ref t)),("n2i",n2i),("node",nd),("nodeinfo",ni),("stat",st),("successor",su),("successor_info",si)]
theorem yf(hz:ps.length≤1000)(c:Cx)(S:SS)(X:Cells)(A:ads)(s1:aas)(pos:List Value)(kws:List (Str×Value))(ok:c.Ok)(hK:c.K=K0 c.w.params)(hp:pos.map ab= .ref x::ps.map .str)(hk:kws.map (λp=>(p.1,ab p.2))=[])(R:Rp c (S.ext X) s1):wpAny (model prog c.w) A (adb (bT c.w.params) ⟨pos,kws⟩) (λbinds s1=>∃D loc,Rp c (S.ext (D++X)) s1∧e7 aX binds loc∧∃t:Addr,D=[(t,.tup (ps.map .str))]∧loc=re x t none none none none none none) nB s1:=by obtain rfl:=kws_nil hk;obtain⟨v0,pos,rfl,h0,hp⟩:=abL.mp hp;show qU (names:=["self"]) (va:=Qs (bT c.w.params)) '3' '3' '3' '3' '3' '3' '2' (abm _ _) ?_;have:=congrArg aaV hp;simp only[aaa]at this;change pos.length+1≤1000000;exact Ss hz this;refine ba [(s1.heap.objs.size,.tup (ps.map .str))] _ ⟨R.pushX rfl (ba _ _ ⟨rfl,?_⟩),dB (loc:=[("self",some (ab v0)),("nodes",some (.ref s1.heap.objs.size)),("n2i",none),("node",none),("nodeinfo",none),("stat",none),("successor",none),("successor_info",none)]) '3' '3' '3',s1.heap.objs.size,rfl,by rw[h0]⟩;rw[adi];exact hp
theorem vj{m:AV}(hz:ps.length≤1000):FC K0 (n+3) 171 (.ref x::ps.map .str) [] (Am x dx m .none po nf) (λv C=>False) (λe C=>e= .type "ValueError"∧C=Am x dx m .none po nf):=by show FC.pk (fx:=aX) (B:=λD loc=>∃t:Addr,D=[(t,.tup (ps.map .str))]∧loc=re x t none none none none none none) dy dw (yf hz);intro c D loc Q' E' VP;let t r1 r2:=ak VP;subst r1;subst r2;intro hK hd aZ hc bl ay aL bz;show ah;dsimp only[aaT,aa0];left;show h_ ack acd hd;k_extra "m.name";refine⟨rfl,?_⟩;left;refine⟨by decide,bz _ _ [(x,_),(dx,_)] _ '1' ?_⟩;exact⟨rfl,rfl⟩
def lH(p:G×List Str)(w:Str):G×List Str:=match db w p.1 with
 |none=>p
 |some a=>(dS (λa=>(a.1-1,a.2)) w p.1,if a.1-1=0 then p.2++[w]else p.2)
def Dn(ps:List Str):G→List Str→Int→Bool→G→List Str→Int→Prop:=ps.rec (λg rl nf b g2 rl2 nf2=>b=true∧g2=g∧rl2=rl∧nf2=nf) λs zz ih g rl nf b g2 rl2 nf2=>((∀a,db s g=some a→0≤a.1∨a.1= -2)∧b=false∧g2=g∧rl2=rl∧nf2=nf)∨∃su,db s g=some (-1,su)∧(∀w∈su,(db w g).isSome=true)∧rl.length+su.length≤1000∧ih (su.foldl lH (dS (λa=>(-2,a.2)) s g,rl)).1 (su.foldl lH (dS (λa=>(-2,a.2)) s g,rl)).2 (nf+1) b g2 rl2 nf2
theorem Dn.nil{g rl nf}:Dn [] g rl nf true g rl nf:=⟨rfl,rfl,rfl,rfl⟩
theorem Dn.Qv{s t g rl nf}(h:db s g=none):Dn (s::t) g rl nf false g rl nf:=.inl ⟨λzz k=>(nomatch h.symm.trans k),rfl,rfl,rfl,rfl⟩
theorem Dn.bad{s t g rl nf}{a:Int×List Str}(h:db s g=some a)(h2:0≤a.1∨a.1= -2):Dn (s::t) g rl nf false g rl nf:=.inl ⟨λzz k=>aaJ (h.symm.trans k)▸h2,rfl,rfl,rfl,rfl⟩
theorem Dn.ok{s t g rl nf su b g2 rl2 nf2}(h:db s g=some (-1,su))(hs:∀w∈su,(db w g).isSome=true)(hl:rl.length+su.length≤1000)(h2:Dn t (su.foldl lH (dS (λa=>(-2,a.2)) s g,rl)).1 (su.foldl lH (dS (λa=>(-2,a.2)) s g,rl)).2 (nf+1) b g2 rl2 nf2):Dn (s::t) g rl nf b g2 rl2 nf2:=.inr ⟨su,h,hs,hl,h2⟩
theorem Dn.el{s t g rl nf b g2 rl2 nf2}{P:Prop}(h:Dn (s::t) g rl nf b g2 rl2 nf2)(h1:(∀a,db s g=some a→0≤a.1∨a.1= -2)→b=false→g2=g→rl2=rl→nf2=nf→P)(h2:∀su,db s g=some (-1,su)→(∀w∈su,(db w g).isSome=true)→rl.length+su.length≤1000→Dn t (su.foldl lH (dS (λa=>(-2,a.2)) s g,rl)).1 (su.foldl lH (dS (λa=>(-2,a.2)) s g,rl)).2 (nf+1) b g2 rl2 nf2→P):P:=h.elim (λh=>h1 h.1 h.2.1 h.2.2.1 h.2.2.2.1 h.2.2.2.2) λh=>h.elim λsu h=>h2 su h.1 h.2.1 h.2.2.1 h.2.2.2
theorem Cv{v:Int}{p:Str}{r:Nd}:∀{ns:List Nd},jb s ns=some r→∃r',jb s (fe (sZ v) p ns)=some r'∧r'.x=r.x∧r'.l=r.l∧r'.su=r.su:=by intro l0;induction l0 with|nil=>exact λh=>nomatch h|cons a t ih=>intro h;unfold jb at h;unfold fe;by_cases hp:p=a.nm;rw[if_pos hp];split at h;rename_i q;cases h;exact⟨_,if_pos q,rfl,rfl,rfl⟩;rename_i q;exact⟨r,(if_neg q).trans h,rfl,rfl,rfl⟩;rw[if_neg hp];split at h;rename_i q;cases h;exact⟨_,if_pos q,rfl,rfl,rfl⟩;rename_i q;let r' h1 h2:=ak (ih h);exact⟨r',(if_neg q).trans h1,h2⟩
theorem Cw{x dx m r:Nat}{rl2:List Str}{po nf nf2:Int}(hz:ps.length≤1000)(hr:∀s∈ps,(acQ s).length≤1000)(hD:Dn ps (er ns) rl nf b g2 rl2 nf2):FC K0 (n+3) 171 (.ref x::ps.map .str) [] (en x dx m ns ep r rl po nf) (λv C=>b=true∧v= .none∧∃de,er de=g2∧C=en x dx m de ep r rl2 po nf2) (λe C=>b=false∧e= .type "ValueError"∧∃de,er de=g2∧C=en x dx m de ep r rl2 po nf2):=by
 show FC.pk (fx:=aX) (B:=λD loc=>∃t:Addr,D=[(t,.tup (ps.map .str))]∧loc=re x t none none none none none none) dy dw (yf hz);intro c D loc Q' E' VQ;let t r1 r2:=ak VQ;subst r1;subst r2;intro hK hd aZ hc bl ay aL bz;show ah;dsimp only[aaT,aa0];left;show mv (xs:=ps.map .str) (l:=t) (λi S=>∃de ti tQ nd ni st su si,S=⟨re x t (some (.ref m)) nd ni st su si,(t,.tup (ps.map .str))::en x dx m de ep r ti po tQ⟩∧Dn (ps.drop i) (er de) ti tQ b g2 rl2 nf2) ?_ ?_ ?_
 ·left;exact⟨rfl,.head _,ns,rl,nf,none,none,none,none,none,rfl,hD⟩
 intro i;let de ti tQ nd ni st su si z9:=jf;exact .head _
 ·intro i y S1 N hy;revert S1;let de ti tQ nd ni st su si Fs:=jf;intro hN;rw[aag]at hy;let w hw r2:=ak (aaq.mp hy);subst r2;refine⟨_,by k_extra "m.at",?_⟩;have hrw:=hr w (aaA hw);have Hp:ps.drop i=w::ps.drop (i+1):=(by let h1 h2:=eE (aav.mp hw);rw[acx h1,h2]);rw[Hp]at Fs;have G6:=pO w de;refine ah (Pg ?_);k_extra "m.s1";show ur;left;show kN '0';rw[s0];refine⟨_,by k_extra "m.at",?_⟩;cases hf:jb w de with|none=>rw[hf]at G6;dsimp only[ais,aih];left;k_extra "g.rz";refine Fs.el (λzz hb hg hl hn=>?_) λsu h zz zz zz=>nomatch G6.symm.trans h;exact bz _ _ (en x dx m de ep r ti po tQ) [(t,_)] (bR bZ) ⟨hb,rfl,de,hg.symm,by rw[hl,hn]⟩|some q=>
   rw[hf]at G6;dsimp only[ae6,Option.getD_some]at G6⊢;have hm:=(eW hf).1;symm;show pr (.tail (fB (vg hm))) (.tail (fB (nN hm))) (Fj hK ⋯) rfl rfl;symm;let ZF h hs hl h2:=Fs.el (λh2 hb hg hl hn=>?_)
   ·have h2:=h2 _ G6;have h3:¬q.np= -1:=(by rcases h2 with h2|h2<;>(dsimp only at h2;lia));show bA (by simp[h3]);left;by_cases h4:0≤q.np
    ·show bA (by simp[h4]);left;k_extra "g.rz";exact bz _ _ (en x dx m de ep r ti po tQ) [(t,_)] (bR bZ) ⟨hb,rfl,de,hg.symm,by rw[hl,hn]⟩
    have h5:q.np= -2:=(by rcases h2 with h2|h2<;>(dsimp only at h2;lia));show aY (by simp[h4]);left;show bA (by simp[h5]);left;k_extra "g.rz";exact bz _ _ (en x dx m de ep r ti po tQ) [(t,_)] (bR bZ) ⟨hb,rfl,de,hg.symm,by rw[hl,hn]⟩
   rw[G6]at h;have h3:q.np= -1:=congrArg aes (aaJ h);have h4:q.su=ZF:=congrArg afg (aaJ h);subst h4;show aY (by simp[h3]);show xM;symm;show pu (.tail (qV (ta (-2) hf))) (.tail (fB (nN hm))) (J7 hK ⋯) rfl;left;let q1 Kb Qw Lw VR:=kI (Cv (v:= -2) (p:=w) hf);have vM:er (fe (sZ (-2)) w de)=dS (λa=>(-2,a.2)) w (er de):=pP (f':=λa=>(-2,a.2)) rfl rfl hf;have wF:∀v∈q.su,(db v (er (fe (sZ (-2)) w de))).isSome=true:=λv hv=>(by rw[vM,pQ];exact hs v hv);rw[←jF (f:=sZ (-2)) (s:=w) (λzz=>⟨rfl,rfl⟩) de];generalize fe (sZ (-2)) w de=Ka at Kb vM wF⊢;rw[←VR]at hl h2 wF;rw[←vM]at h2;rw[←Qw];have Kc:=(eW Kb).1;show eI (xs:=q1.su.map .str) (l:=q1.l) (λj S=>∃tc yg su si r',S=⟨re x t (some (.ref m)) (some (.str w)) (some (.ref q1.x)) (some (.int q.np)) su si,(t,.tup (ps.map .str))::en x dx m tc ep r yg po tQ⟩∧(er tc,yg)=(q1.su.take j).foldl lH (er Ka,ti)∧jb w tc=some r'∧r'.l=q1.l∧r'.su=q1.su∧(∀v∈q1.su,(db v (er tc)).isSome=true)∧yg.length≤ti.length+j) ?_ ?_ ?_
   ·symm;show pr (.tail (fB (vg Kc))) (.tail (fB (nN Kc))) (Fj hK ⋯) rfl rfl;exact⟨rfl,(At.tail (fB (Cr Kc))).mem,Ka,ti,su,si,q1,rfl,rfl,Kb,rfl,rfl,wF,aak _⟩
   intro j;let tc yg su si r' g1 g2 g3 g4 g5 g6:=gT;have:=(Cr (eW g2).1).mem;rw[g3,g4]at this;exact .tail _ (.tail _ (.tail _ (.tail _ (.tail _ this))))
   ·intro j y S2 N2 Qy;revert S2;let tc yg su si r' g1 g2 g3 g4 g5 g6:=gT;intro zR;rw[aag]at Qy;let w2 tR r2:=ak (aaq.mp Qy);subst r2;have hj:=(aav.mp tR).1;let u Lx:=eE (wX (g5 w2 (aaA tR)));have VS:=(eW Lx).1;have XR:=pO w2 tc;rw[Lx,ae6]at XR;refine⟨_,by k_extra "m.at",?_⟩;show ah;symm;show mh '0' (te Lx);symm;show Hh (.tail (fB (vg VS))) (.tail (fB (nN VS))) (Fj hK ⋯) rfl rfl;symm;show pu (.tail (qV (ta (u.np-1) Lx))) (.tail (fB (nN VS))) (J7 hK ⋯) rfl;symm;have Qz:=(eW (Fn (f:=sZ (u.np-1)) (λzz=>rfl) Lx)).1;have ie:er (fe (sZ (u.np-1)) w2 tc)=dS (λa=>(a.1-1,a.2)) w2 (er tc):=pP (f':=λa=>(a.1-1,a.2)) rfl rfl Lx;have hd2:lH (er tc,yg) w2=(dS (λa=>(a.1-1,a.2)) w2 (er tc),if u.np-1=0 then yg++[w2]else yg):=(by unfold lH;dsimp only;rw[XR]);let r2 k1 k2 k3 k4:=kI (Cv (v:=u.np-1) (p:=w2) g2);have Hs:∀S':SS,(∃su si,S'=⟨re x t (some (.ref m)) (some (.str w)) (some (.ref q1.x)) (some (.int q.np)) su si,(t,.tup (ps.map .str))::en x dx m (fe (sZ (u.np-1)) w2 tc) ep r (if u.np-1=0 then yg++[w2]else yg) po tQ⟩)→N2 S':=(by let su si:=ug;refine zR _ (Iz _ _ su si r2 ⟨rfl,?_,k1,k3.trans g3,k4.trans g4,λv hv=>by rw[ie,pQ];exact g5 v hv,?_⟩);rw[aaK,tR,ab4,←g1];change _=lH (er tc,yg) w2;rw[hd2,ie];split;rw[aar];change _+1≤_;exact acC g6;exact ab1 g6);show pr (v:=.int (u.np-1)) (.tail (fB (vd (r:=sZ (u.np-1) u) .head Qz))) (.tail (fB (vd (r:=sZ (u.np-1) u) (.tail .head) Qz))) (Fj hK ⋯) rfl rfl;left;by_cases h0:u.np-1=0
    ·show bA (by simp[h0]);left;show aS ⋯ (by rw[aaa];exact aab (show yg.length≤1000 by exact SC hl g6 hj) '2');left;refine Hs _ (ba (some (.str w2)) (some (.ref u.x)) ?_);rw[if_pos h0];dsimp only[en];rw[aaj,jF (f:=sZ (u.np-1)) λzz=>⟨rfl,rfl⟩];rfl
    show aY (by simp[h0]);left;refine Hs _ (ba (some (.str w2)) (some (.ref u.x)) ?_);rw[if_neg h0];dsimp only[en];rw[jF (f:=sZ (u.np-1)) λzz=>⟨rfl,rfl⟩]
   let tc yg su si r' g1 g2 g3 g4 g5 g6:=gT;left;rw[aaa,abi]at g1;rw[←g1]at h2;exact hN _ (Ym tc yg _ _ _ _ _ _ ⟨rfl,h2⟩)
 let de ti tQ nd ni st su si Fs:=jf;left;rw[aaa,agg]at Fs;exact aL _ (en x dx m de ep r ti po tQ) [(t,_)] (bR bZ) ⟨Fs.1,rfl,de,Fs.2.1.symm,by rw[Fs.2.2.1,Fs.2.2.2]⟩
end
section
open PySem.Builtin PySem.Builtin.Str
variable{ct:Nat}
abbrev DR:=List Str→List (Str×Nat)→Option Str→Option (List Str)→Prop
def VT(g:G)(ih:DR):DR:=λseen aC nx res=>nx.rec ((aC=[]∧res=some seen)∨∃s i t a,aC=(s,i)::t∧db s g=some a∧((∃w,a.2[i]? =some w∧ih seen ((s,i+1)::t) (some w) res)∨(a.2[i]? =none∧ih seen t none res))) λs=>(s∈seen∧s∈aC.map (λx=>x.1)∧res=none)∨(s∈seen∧s∉aC.map (λx=>x.1)∧ih seen aC none res)∨(s∉seen∧seen.length<900∧(db s g).isSome=true∧ih (s::seen) ((s,0)::aC) none res)
def on(g:G)(k:Nat):DR:=k.rec (VT g λzz zz zz zz=>False) λzz ih=>VT g ih
theorem on.ZG{seen:List Str}(h1:s∈seen)(h2:s∈aC.map (λx=>x.1)):on g 0 seen aC (some s) none:=.inl ⟨h1,h2,rfl⟩
theorem on.un{seen:List Str}{nx:Option Str}(h:on g k seen aC nx res):∃ih:DR,(∀{a b c d},ih a b c d→∃k',k'<k∧on g k' a b c d)∧VT g ih seen aC nx res:=by cases k with|zero=>exact⟨_,λh=>False.elim h,h⟩|succ k=>exact⟨_,λh=>⟨k,aby _,h⟩,h⟩
theorem on.v1{seen:List Str}(h:on g k seen aC (some s) res)(h1:s∈seen)(h2:s∈aC.map (λx=>x.1)):res=none:=h.un.elim λzz h=>h.2.elim (λh=>h.2.2) λh=>h.elim (λh=>absurd h2 h.2.1) λh=>absurd h1 h.1
theorem on.v2{seen:List Str}(h:on g k seen aC (some s) res)(h1:s∈seen)(h2:s∉aC.map (λx=>x.1)):∃k',k'<k∧on g k' seen aC none res:=h.un.elim λzz h=>h.2.elim (λh=>absurd h.2.1 h2) λk=>k.elim (λk=>h.1 k.2.2) λh=>absurd h1 h.1
theorem on.v3{seen:List Str}(h:on g k seen aC (some s) res)(h1:s∉seen):(db s g).isSome=true∧seen.length<900∧∃k',k'<k∧on g k' (s::seen) ((s,0)::aC) none res:=h.un.elim λzz h=>h.2.elim (λh=>absurd h.1 h1) λk=>k.elim (λk=>absurd k.1 h1) λk=>⟨k.2.2.1,k.2.1,h.1 k.2.2.2⟩
theorem on.b0{seen:List Str}(h:on g k seen [] none res):res=some seen:=h.un.elim λzz h=>h.2.elim (λh=>h.2) λh=>h.elim λzz h=>h.elim λzz h=>h.elim λzz h=>h.elim λzz h=>nomatch h.1
theorem on.b1{seen:List Str}{t:List (Str×Nat)}(h:on g k seen ((s,i)::t) none res):∃a k',db s g=some a∧k'<k∧((∃w,a.2[i]? =some w∧on g k' seen ((s,i+1)::t) (some w) res)∨(a.2[i]? =none∧on g k' seen t none res)):=by refine ak h.un λih hi h=>h.elim (λh=>nomatch h.1) λh=>?_;let s i t a e h1 h2:=nW h;cases e;exact h2.elim (λh=>h.elim λw h=>(hi h.2).elim λk h3=>(ba a k ⟨h1,h3.1,.inl ⟨w,h.1,h3.2⟩⟩)) λh=>(hi h.2).elim λk h3=>(ba a k ⟨h1,h3.1,.inr ⟨h.1,h3.2⟩⟩)
def Ke(g:G)(l:List Str):List Str→Bool→Prop:=l.rec (λzz b=>b=false) λs zz ih seen b=>(s∈seen∧ih seen b)∨(s∉seen∧∃k res,on g k seen [] (some s) res∧(res=none→b=true)∧∀dW,res=some dW→ih dW b)
theorem ZH{a b:Addr×AO}(C L:Cells):(a::b::(C++L)).Perm (C++a::b::L):=((aaS (a:=a) (l₁:=C) (l₂:=b::L)).trans (abB a aaS)).symm
structure SE where
 nm:Str
 i:Nat
 b:Addr
 it:Addr
 l:Addr
def zS:List SE→Cells|[]=>[]|e::t=>(e.b,.raw (NX.Dw e.it))::(e.it,.raw (NX.tP e.l e.i))::zS t
def kE:List SE→List (Str×AV)|[]=>[]|e::t=>kE t++[(e.nm,.int t.length)]
def Dz:List SE→List AV|[]=>[]|e::t=>Dz t++[.str e.nm]
def Ht:List SE→List AV|[]=>[]|e::t=>Ht t++[.ref e.b]
theorem vk:∀t:List SE,(kE t).length=t.length:=by intro l0;induction l0 with|nil=>exact rfl|cons e t ih=>exact by change(_++[_]).length=_;rw[aar,ih];rfl
theorem gJ:∀t:List SE,(Dz t).length=t.length:=by intro l0;induction l0 with|nil=>exact rfl|cons e t ih=>exact by change(_++[_]).length=_;rw[aar,ih];rfl
theorem tj:∀t:List SE,(Ht t).length=t.length:=by intro l0;induction l0 with|nil=>exact rfl|cons e t ih=>exact by change(_++[_]).length=_;rw[aar,ih];rfl
theorem yh(s:Str):∀(a b:List (Str×AV)),dU (a++b) s=(dU a s).or (dU b s):=by
 intro l0;induction l0 with
 |nil=>exact λb=>by change dU b s=_;cases dU b s<;>rfl
 |cons p a ih=>intro b;change(if _ then _ else dU (a++b) s)=Option.or (if _ then _ else dU a s) _;split;rfl;exact ih b
theorem Ft{v:AV}:∀{a:List (Str×AV)},dU a s=none→nY a s v=a++[(s,v)]:=by intro l0;induction l0 with|nil=>exact λzz=>rfl|cons p a ih=>intro h;unfold dU at h;change(if _ then _ else p::nY a s v)=_;split at h;cases h;rename_i q;rw[if_neg q,ih h];rfl
theorem lI:∀{t:List SE},s∈t.map (λx=>x.nm)→∃j:Nat,dU (kE t) s=some (.int j)∧j<t.length|e::t,h=>by change∃j:Nat,dU (kE t++_) s=_∧_;rw[yh];by_cases hm:s∈t.map (λx=>x.nm);let j h1 h2:=ak (lI hm);exact⟨j,by rw[h1];rfl,aeC h2⟩;rcases aai.mp h with rfl|h;refine⟨t.length,?_,aby _⟩;rw[idx_none hm];exact if_pos rfl;exact absurd h hm
where idx_none {s:Str}:∀{t:List SE},s∉t.map (λx=>x.nm)→dU (kE t) s=none
 |[],_=>rfl
 |e::t,h=>by
  change dU (kE t++_) s=_
  rw[yh,idx_none λq=>h (.tail _ q)]
  exact if_neg λ(q:e.nm=s)=>h (by rw[←q];exact .head _)
theorem Fu{e:SE}{t:List SE}(h:e.nm∉t.map (λx=>x.nm)):Rv (kE (e::t)) e.nm=kE t:=by
 change List.filter _ (kE t++[_])=_;rw[abS,ahk.mpr,abc.mpr,aaO];intro a ha;obtain rfl:=aaL.mp ha;simp;intro a ha;have:∀{t:List SE} {a:Str×AV},a∈kE t→a.1∈t.map (λx=>x.nm):=by
  intro t;induction t with
  |nil=>intro a h;cases h
  |cons e t ih=>intro a h;rcases aax.mp h with h|h;exact .tail _ (ih h);obtain rfl:=aaL.mp h;exact .head _
 simp only[decide_eq_true_eq];intro q;exact h (q▸this ha)
theorem W.zT{E:EP}{t:Sem α}{Q:α→SS→Prop}(hs:ahZ D C)(h:W c n ⟨loc,D⟩ t Q E):W c n ⟨loc,C⟩ t Q E:=.i λok X A s hA R=>h.run ok X A s hA (R.drop (cells':=D++X) (adY hs (ab0 X)))
theorem yi(xs:List α)(lo hi:Option Int):(pick xs lo hi).length≤xs.length:=by
 refine aab (afX _ _) (sliceRange_length_le _ _ _ _ (λhc=>?_) λhc=>?_);simp only[afE]at hc⊢;simp only[hc,if_true];constructor;cases lo with|none=>simp|some i=>exact Int.le_max_left _ _
 cases hi with|none=>simp|some i=>exact Int.max_le.mpr ⟨abr _,Int.min_le_right _ _⟩
 simp[afE]at hc
abbrev RN(x m sk ik se nk:Addr)(p:Option AV):List (Str×Option AV):=[("self",some (.ref x)),("n2i",some (.ref m)),("stack",some (.ref sk)),("itstack",some (.ref ik)),("seen",some (.ref se)),("node2stacki",some (.ref nk)),("node",p)]
abbrev Ly(x dx m:Addr)(rn:AV)(ns:List Nd)(ep:Nat):Cells:=(x,.inst 188 dx)::(dx,.dict (kH (.ref m) rn (.int 0) (.int 0)) 4)::(m,.map (ff ns) ep)::bC ns
abbrev RO(x dx m:Addr)(rn:AV)(ns:List Nd)(ep sk ik se nk:Nat)(P:Str→Bool)(ct:Nat)(st:List SE)(nh:Nat):Cells:=(nk,.map (kE st) nh)::(se,.set P ct)::(ik,.list (Ht st))::(sk,.list (Dz st))::(x,.inst 188 dx)::(dx,.dict (kH (.ref m) rn (.int 0) (.int 0)) 4)::(m,.map (ff ns) ep)::(zS st++bC ns)
def FI(ns:List Nd)(seen:List Str)(st:List SE)(P:Str→Bool)(ct:Nat):Prop:=(∀s,P s=true↔s∈seen)∧ct≤seen.length∧st.length≤seen.length∧(∀e∈st,e.nm∈seen)∧(st.map (λx=>x.nm)).Nodup∧seen.length≤900∧∀e∈st,∃r,jb e.nm ns=some r∧r.l=e.l
theorem FI.turn{seen:List Str}{e:SE}{st:List SE}(h:FI ns seen (e::st) P ct):FI ns seen ({e with i:=i}::st) P ct:=by let h1 h2 h3 h4 h5 h6 h7:=nU h;refine⟨h1,h2,h3,λe' he=>?_,h5,h6,λe' he=>?_⟩;rcases aai.mp he with rfl|he;exact h4 e (.head _);exact h4 e' (.tail _ he);rcases aai.mp he with rfl|he;exact h7 e (.head _);exact h7 e' (.tail _ he)
theorem FI.drop{seen:List Str}{e:SE}{st:List SE}(h:FI ns seen (e::st) P ct):FI ns seen st P ct:=by let h1 h2 h3 h4 h5 h6 h7:=nU h;exact⟨h1,h2,aab (aa2 _) h3,λe' he=>h4 e' (.tail _ he),(aaB.mp h5).2,h6,λe' he=>h7 e' (.tail _ he)⟩
def QA(M:SS→Prop)(Q:FL→SS→Prop):FL→SS→Prop:=λf S'=>match f with| .next=>M S'| .ret v=>Q (.ret v) S'|_=>False
theorem w_find{x dx m:Nat}(hz:ns.length≤800)(Ct:qx (er ns) 9999)(hD:Ke (er ns) (ns.map (λx=>x.nm)) [] b):FC K0 (n+2) 178 [.ref x] [] (Ly x dx m rn ns ep) (λv C=>(b=false∧v= .none∧C=Ly x dx m rn ns ep)∨(b=true∧∃l ys y,v= .ref l∧ys.length≤1000∧C=(l,.list (ys++[y]))::Ly x dx m rn ns ep)) (λe C=>False):=by
 show aB (fx:=aO) ec d_ ek;intro c Q' E' hK hd aZ hc ay aL bz;show ah;symm;refine⟨aaD _,λsk=>?_⟩;symm;refine⟨aaD _,λik=>?_⟩;symm;let se:=zr;symm;revert d;intro nk;show qT (es:=ff ns) (ep:=ep) (d:=m) (λi S=>∃seen P ct nh p,S=⟨RN x m sk ik se nk p,RO x dx m rn ns ep sk ik se nk P ct [] nh⟩∧FI ns seen [] P ct∧Ke (er ns) ((ns.map (λx=>x.nm)).drop i) seen b) ?_ ?_ ?_
 ·symm;exact⟨rfl,.tail _ (.tail _ (.tail _ (.tail _ (.tail _ (.tail _ (.head _)))))),[],_,0,0,none,rfl,⟨λs=>⟨λh=>absurd h aa1,λh=>(nomatch h)⟩,aaD _,aaD _,λe he=>(nomatch he),abn,aaD _,λe he=>(nomatch he)⟩,hD⟩
 intro i;let seen P ct nh p z6:=AY;exact .tail _ (.tail _ (.tail _ (.tail _ (.tail _ (.tail _ (.head _))))))
 ·intro i k v S1 N hy;revert S1;let seen P ct nh p hI Kf:=qH;intro hN;unfold ff at hy;rw[aag]at hy;let r hr hk:=ak (aaq.mp hy);let r0 r1:=eA (afI hk);subst r0;subst r1;have Hp:(ns.map (λx=>x.nm)).drop i=r.nm::(ns.map (λx=>x.nm)).drop (i+1):=(by let h1 h2:=eE (aav.mp hr);rw[acx (by rw[aaa];exact h1),List.getElem_map,h2]);rw[Hp]at Kf;refine⟨_,by k_extra "m.at",?_⟩;show ah;symm;show qO '0';symm;by_cases hs:r.nm∈seen
  ·show bA ((hI.1 _).mpr hs);symm;exact hN _ (Iz seen P ct nh _ ⟨rfl,hI,Kf.elim (λx=>x.2) λh=>absurd hs h.1⟩)
  show aY (λq=>hs ((hI.1 _).mp q));symm;let k0 res VU QB QC:=bG (Kf.resolve_left λh=>hs h.1).2;clear Kf;show gy (λk S=>∃seen st P ct nh s,S=⟨RN x m sk ik se nk (some (.str s)),RO x dx m rn ns ep sk ik se nk P ct st nh⟩∧FI ns seen st P ct∧on (er ns) k seen (st.map λe=>(e.nm,e.i)) (some s) res) k0 (yI seen [] P ct nh r.nm ⟨rfl,hI,VU⟩);intro k S2 N2;revert S2;let seen st P ct nh s hI Ln:=v5;intro zR;refine ph (ix (bj ?_));show bA rfl;refine ah (W.az (Q:=λf S'=>QA (λS'=>∃k' seen st P ct nh,k'<k∧S'=⟨RN x m sk ik se nk (some (.str s)),RO x dx m rn ns ep sk ik se nk P ct st nh⟩∧FI ns seen st P ct∧on (er ns) k' seen (st.map λe=>(e.nm,e.i)) none res) Q' (OE f) S') ?_ ?_)
  ·change ES _ _ _ _ (QA _ Q') _;symm;show qO '0';symm;by_cases wF:s∈seen
   ·show bA ((hI.1 _).mpr wF);symm;show y8 '0';symm;by_cases Lu:s∈st.map (λx=>x.nm)
    ·let j XS RP:=ak (lI Lu);show bA (by rw[XS];rfl);refine ah (xN (BC (cY ?_)));k_extra "m.name";refine iB (sC ?_);symm;show mh '0' XS;refine jA (p4 sk (Dz st) (some j) none ⟨rfl,.tail _ (.tail _ (.tail _ (.head _))),rfl,rfl,?_,λl1=>?_⟩);rw[gJ];exact aab hI.2.2.1 (aab hI.2.2.2.2.2.1 '2');symm;refine⟨aae rfl,λl2=>?_⟩;let l3:=gw (.tail _ (.head _)) (.head _) ?_;show aab (ab8 (yi _ _ _) 1);rw[gJ];exact aab (ab8 (aab hI.2.2.1 hI.2.2.2.2.2.1) 1) '2';have jZ:(st.map λe=>(e.nm,e.i)).map (λx=>x.1)=st.map (λx=>x.nm):=(by rw[aba];rfl);have hb:b=true:=QB (Ln.v1 wF (jZ▸Lu));refine ay _ _ ((l3,_)::Ly x dx m rn ns ep) _ (.cons .head (bD (.cons .head (.cons .head (.cons .head (bD bZ (zS st))))) [_,_,_,_,_,_])) (.inr ⟨hb,l3,_,_,rfl,aab (yi _ _ _) (by rw[gJ];exact aab hI.2.2.1 (aab hI.2.2.2.2.2.1 '2')),rfl⟩)
    show aY (by rw[lI.idx_none Lu];exact aa1);symm;exact ak (Ln.v2 wF ((by rw[aba];rfl:(st.map λe=>(e.nm,e.i)).map (λx=>x.1)=st.map (λx=>x.nm))▸Lu)) λk' hk h=>(yI k' seen st P ct nh ⟨hk,rfl,hI,h⟩)
   show aY (λq=>wF ((hI.1 _).mp q));symm;let ha VV k' G7 hd2:=xe (Ln.v3 wF);let q hq:=eE (wX (s:=s) (ns:=ns) ha);have hm:=(eW hq).1;have ZI:P s=false:=(by cases h:P s with|false=>rfl|true=>exact absurd ((hI.1 _).mp h) wF);have QD:s∉st.map (λx=>x.nm):=λh=>(by let e he h2:=ak (aaH.mp h);exact wF (h2▸hI.2.2.2.1 e he));show oV ⋯ (aaC hI.2.1 (by exact aab VV (aae rfl)));rw[ZI,if_neg aa1];symm;show mh '0' (te hq);show pr (.tail (.tail (.tail (.tail (.tail (.tail (.tail (At.right (vg hm))))))))) (.tail (.tail (.tail (.tail (.tail (.tail (.tail (At.right (nN hm))))))))) (Fj hK ⋯) rfl rfl;symm;refine zp (.tail (.tail (.tail (.tail (.tail (.tail (.tail (At.right (Cr hm))))))))) λit=>(eY it q.l 0 ⟨rfl,.head,λb2=>?_⟩);symm;show aS ⋯ (by rw[tj];exact aab hI.2.2.1 (aab hI.2.2.2.2.2.1 '2'));show W.fh (ZH [_,_,_,_,_,_,_] _);refine ah (jY ?_);symm;show bY (.tail _ (.tail _ (.tail _ (.head _)))) (by rw[gJ];exact aab hI.2.2.1 (aab hI.2.2.2.2.2.1 '2'));rw[gJ];symm;let fU:=wk (ep:=nh) (cells':=λfU=>(nk,.map (kE (⟨s,0,b2,it,q.l⟩::st)) fU)::(se,.set (λk'=>P k'||decide (k'=s)) (ct+1))::(ik,.list (Ht (⟨s,0,b2,it,q.l⟩::st)))::(sk,.list (Dz st))::(x,.inst 188 dx)::(dx,.dict (kH (.ref m) rn (.int 0) (.int 0)) 4)::(m,.map (ff ns) ep)::(zS (⟨s,0,b2,it,q.l⟩::st)++bC ns)) (λfU=>?_) (by rw[vk];exact aaC hI.2.2.1 (by exact aab VV (aae rfl)));rw[Ft (lI.idx_none QD)];exact .head;symm;show aS (xs:=Dz st) (.tail (.tail (.tail .head))) (by rw[gJ];exact aab hI.2.2.1 (aab hI.2.2.2.2.2.1 '2'));symm;refine yI k' (s::seen) (⟨s,0,b2,it,q.l⟩::st) _ (ct+1) fU ⟨G7,rfl,⟨λs'=>?_,acC hI.2.1,acC hI.2.2.1,λe he=>?_,aaB.mpr ⟨QD,hI.2.2.2.2.1⟩,VV,λe he=>?_⟩,hd2⟩;rw[aix,hI.1,decide_eq_true_eq,aai,or_comm];rcases aai.mp he with rfl|he;exact .head _;exact .tail _ (hI.2.2.2.1 e he);rcases aai.mp he with rfl|he;exact⟨q,hq,rfl⟩;exact hI.2.2.2.2.2.2 e he
  ·rintro f S3 h3;cases f with|ret v=>exact h3|brk=>exact h3.elim|cont=>exact h3.elim|next=>
    let k' seen st P ct nh G7 r7 ZJ hd2:=vY h3;subst r7;clear hI Ln;change EB _ _ _ _ _ _;show ah;show gy (λj S=>j≤k'∧∃seen st P ct nh s,S=⟨RN x m sk ik se nk (some (.str s)),RO x dx m rn ns ep sk ik se nk P ct st nh⟩∧FI ns seen st P ct∧on (er ns) j seen (st.map λe=>(e.nm,e.i)) none res) k' ⟨aak _,seen,st,P,ct,nh,s,rfl,ZJ,hd2⟩;intro j S4 N3;revert S4;let hj seen st P ct nh s hI IM:=ud;intro VW;show ph;k_extra "m.name";show xy (.tail _ (.tail _ (.tail _ (.head _)))) (by rw[gJ];exact aab hI.2.2.1 (aab hI.2.2.2.2.2.1 '2'));cases st with|nil=>show aY (by exact aa1);symm;exact hN _ (Iz seen P ct nh _ ⟨rfl,hI,QC seen IM.b0⟩)|cons e tm=>
     let a j' h2 OY h3:=bG IM.b1;show bA (by change(!(Dz tm++[_]).isEmpty)=true;simp);let q hq hl:=ak (hI.2.2.2.2.2.2 e (.head _));have Ct:q.su=a.2:=(by rw[pO,hq]at h2;exact congrArg afg (aaJ h2));rw[←Ct]at h3;have QE:(e::tm).length≤900:=aab hI.2.2.1 hI.2.2.2.2.2.1;have vl:tm.length<lim:=aaE QE '2';refine ah (jl ?_);refine ah (Jj (zq hd (d6 ?_)));symm;refine⟨1,rfl,?_⟩;symm;show iA (ys:=Ht tm) (x:=.ref e.b) (.tail _ (.tail _ (.head _))) (by rw[tj];exact vl);refine Iz e.b e.it e.l e.i (q.su.map .str) ⟨rfl,.tail (.tail (.tail (.tail (.tail (.tail (.tail .head)))))),hl▸.tail (.tail (.tail (.tail (.tail (.tail (.tail (.tail (.tail (At.right (Cr ((eW hq).1))))))))))),?_⟩;rcases h3 with⟨w,hw,VX⟩|⟨hn,VX⟩
     ·refine .inl (ba (.str w) _ ⟨by rw[aag,hw];rfl,.tail (.tail (.tail (.tail (.tail (.tail (.tail (.tail .head))))))),?_⟩);symm;exact zR _ _ (by exact Sx G7 hj OY) (yI seen ({e with i:=e.i+1}::tm) P ct nh w ⟨rfl,hI.turn,VX⟩)
     refine .inr ⟨by rw[aag,hn];rfl,_,.tail (.tail (.tail (.tail (.tail (.tail (.tail (.tail .head))))))),?_⟩;show n8 (b:=true) (by rw[aZ];exact .tail _ (.tail _ (.tail _ (.head _)))) BX;rw[if_pos rfl];intro e0;show W.zT (D:=(nk,.map (kE (e::tm)) nh)::(se,.set P ct)::(ik,.list (Ht (e::tm)))::(sk,.list (Dz (e::tm)))::(x,.inst 188 dx)::(dx,.dict (kH (.ref m) rn (.int 0) (.int 0)) 4)::(m,.map (ff ns) ep)::(zS tm++bC ns)) (.cons_cons _ (.cons_cons _ (.cons_cons _ (.cons_cons _ (.cons_cons _ (.cons_cons _ (.cons_cons _ (.cons _ (ab0 _)))))))));refine ah (wo ?_);symm;show oX (ys:=Dz tm) (y:=.str e.nm) (.tail (.tail (.tail .head))) (by rw[gJ];exact vl);let fU:=IY (es:=kE (e::tm)) (ep:=nh) (cells':=λfU=>(nk,.map (kE tm) fU)::(se,.set P ct)::(ik,.list (Ht (e::tm)))::(sk,.list (Dz tm))::(x,.inst 188 dx)::(dx,.dict (kH (.ref m) rn (.int 0) (.int 0)) 4)::(m,.map (ff ns) ep)::(zS tm++bC ns)) (λfU=>?_) (by rw[vk];exact aaC QE '2') ?_;rw[Fu (aaB.mp hI.2.2.2.2.1).1];exact .head;let jj ZK z2:=ak (lI (t:=e::tm) (.head _:e.nm∈(e::tm).map (λx=>x.nm)));rw[ZK];rfl;symm;show oX (ys:=Ht tm) (y:=.ref e.b) (.tail (.tail .head)) (by rw[tj];exact vl);symm;exact VW j' _ OY ⟨by exact Ar hj OY,seen,tm,P,ct,fU,s,rfl,hI.drop,VX⟩
 let seen P ct nh p hI Kf:=qH;symm;rw[s_,adw (by rw[aaa];exact aak _)]at Kf;exact ay _ _ (Ly x dx m rn ns ep) [_,_,_,_] (bD bZ [_,_,_,_]) (.inl ⟨Kf,rfl,rfl⟩)
end
section
open PySem.Builtin PySem.Builtin.Str
theorem Cy:Bq w (pv d k ep):=λA s it o i Q E ho hP hQ=>wpAny_pyIter_valiter ⟨o,ho,hP⟩ hQ
theorem vm{x r:Addr}{m:AV}:FC K0 (n+2) 143 [.ref x] [] (Am x dx m (.ref r) po nf) (λv C=>False) (λe C=>e= .type "ValueError"∧C=Am x dx m (.ref r) po nf):=by show fP (fx:=aN) cU cT cV;intro c Q' E' hK hd aZ hc bl ay aL bz;show ah;left;show h_ ack acd hd;k_extra "m.name";refine⟨rfl,?_⟩;left;refine⟨by decide,bz _ _ [(x,_),(dx,_)] _ '1' ?_⟩;exact⟨rfl,rfl⟩
def im(g:G):List Str:=(g.filter λe=>decide (e.2.1=0)).map (λx=>x.1)
theorem ZL(P:aao):(K0 P).lookup 106=some (Top.N5 P)∧(K0 P).lookup 105=some (Top.N4 P):=⟨by kernel_rfl,by kernel_rfl⟩
theorem Kg{x dx m:Nat}(hz:ns.length≤800)(Ct:qx (er ns) 9999)(hD:Ke (er ns) (ns.map (λx=>x.nm)) [] b):FC K0 (n+3) 143 [.ref x] [] (nO x dx m ns ep) (λv C=>b=false∧v= .none∧∃r,C=en x dx m ns ep r (im (er ns)) 0 0) (λe C=>b=true∧e= .ref 106∧∃r,C=en x dx m ns ep r (im (er ns)) 0 0):=by
 show fP (fx:=aN) cU cT cV;intro c Q' E' hK hd aZ hc bl ay aL bz;show ah;left;show fD (xs:=["i"]) (cl:=[]) (gl:=[]) ⟨by rw[bl];kernel_rfl,by with_unfolding_all decide,by with_unfolding_all rfl,by with_unfolding_all decide,by with_unfolding_all decide,by decide,λp hp=>nomatch hp⟩;symm;refine uL (.tail (.tail .head)) λw=>⟨pv m (ff ns).length ep,λu hu=>BQ .head (.tail (.tail (.tail .head))) hu,Cy,λD mm L=>LP.loop rfl eR ((ff ns).map (λx=>x.2)) (λi S=>∃a,S=⟨[("i",a)],(D,.list ((im (er (ns.take i))).map .str))::(w,_)::nO x dx m ns ep⟩) ⟨none,rfl⟩ ?_ ?_⟩
 ·intro i y S1 hy hI;let a0 e0:=eE hI;subst e0;rw[ff,aba,aag]at hy;let r hr r2:=ak (aaq.mp hy);subst r2;have hm:=aaA hr;have hKi:(c.inner (Top.av (Top.cS 13 3)) [] [] mm L).K=K0 (c.inner (Top.av (Top.cS 13 3)) [] [] mm L).w.params:=hK;have hlen:((im (er (ns.take i))).map AV.str).length≤lim:=(by rw[aaa,im,aaa];show aab (abF _ _);rw[wW];exact aab (abh _ _) (aab hz '2'));have XT:im (er (ns.take (i+1)))=im (er (ns.take i))++if r.np=0 then[r.nm]else[]:=by rw[aaK,hr];unfold im er;rw[Option.toList_some,aaj,abS,aaj];congr 1;by_cases h0:r.np=0;rw[if_pos h0,aan,acL (by simp[h0])];rfl;rw[if_neg h0,aan,acK (by simp[h0])];rfl
  refine⟨BR (.tail (.tail (.tail (.tail .head)))) (by rw[ff,aba,aag,hr];rfl),cA ⋯ (o_ ?_)⟩;symm;show pr (fB (.tail (vg hm))) (fB (.tail (nN hm))) (Fj hK ⋯) rfl rfl;symm;by_cases h0:r.np=0
  ·show bA (by simp[h0]);refine .inl ⟨rfl,?_⟩;symm;show pr (fB (.tail (vg hm))) (fB (.tail (nN hm))) (Fj hK ⋯) rfl rfl;exact ba _ _ ⟨.head,hlen,_,by rw[XT,if_pos h0,aaj];rfl⟩
  show aY (by simp[h0]);exact⟨_,by rw[XT,if_neg h0,aaO]⟩
 intro S1 hI;let a0 e0:=eE hI;subst e0;refine⟨BS (.tail (.tail (.tail (.tail .head)))) hd,?_⟩;k_extra "m.in";show W.zT (D:=(D,_)::(x,_)::(dx,_)::(m,_)::bC ns) (.cons_cons _ (.cons _ (ab0 _)));change EB _ _ _ _ _ _;rw[aaa,s_,abi];symm;refine aH (w_find (n:=n) (rn:=.ref D) hz Ct hD) (bR bZ) hK hd (λv C hv=>?_) (λzz zz h=>h.elim);have hp:∀C':Cells,aq (C'++Ly x dx m (.ref D) ns ep) (C'++en x dx m ns ep D (im (er ns)) 0 0) [(D,.list ((im (er ns)).map .str))]:=λC'=>oj (gj C') (.cons .head (.cons .head (.cons .head (bR bZ))));rcases hv with⟨hb,rfl,rfl⟩|⟨hb,l,ys,y,rfl,Dv,rfl⟩
 ·refine⟨_,hp [],?_⟩;symm;refine aL _ (en x dx m ns ep D (im (er ns)) 0 0) [] bZ ⟨hb,rfl,D,rfl⟩
 refine⟨_,hp [_],?_⟩;symm;show xy (.head _) (by rw[aar];exact aab (ab8 Dv 1) '2');show bA (by simp);have VY:=ZL c.w.params;rw[←hK]at VY;refine ah (sB (C:=106) (N:=105) PySem.F.excBase_ValueError VY.1 VY.2 '3' '3' hd ?_);k_extra "m.name";refine⟨rfl,?_⟩;symm;refine⟨by change 2≤1000000;decide,bz _ _ (en x dx m ns ep D (im (er ns)) 0 0) [(l,_)] (bR bZ) ⟨hb,rfl,D,rfl⟩⟩
end
section
open PySem.Builtin PySem.Builtin.Str
variable{Q:FL→SS→Prop}
theorem rf{E:EP}{xp:Pos}(hx:(x,.type "ValueError")∈c.fx.gl)(h:∀e,EB (c.hand e) n S (b₀::suite) Q hW):HB c n S (.type "ValueError") (.ExceptHandler (some (.Name x xp)) none (b₀::suite) p::rest) Q E:=n8 (b:=true) hx JG (if_pos rfl▸h)
theorem Kh{x:Addr}{m:AV}:FC K0 (n+5) 938 [.ref x] [] (Am x dx m .none po nf) (λv C=>v= .bool true∧C=Am x dx m .none po nf) (λe C=>False):=by show aB (fx:=fJ) sL sK sS;intro c Q' E' hK hd aZ hc ay aL bz;show ah;left;show jl;left;refine aH (vj (n:=n) (ps:=[]) (aaD _)) '1' hK hd (λv C h=>h.elim) (OD ?_);let e0:=rf (by rw[aZ];k_extra "m.mem");dsimp only[aaT,aa0];left;show jl;left;refine aH (td (n:=n)) '1' hK hd (λv C h=>h.elim) (OD ?_);let e0:=rf (by rw[aZ];k_extra "m.mem");dsimp only[aaT,aa0];left;show jl;left;refine aH (qz (n:=n)) '1' hK hd (λv C h=>h.elim) (OD ?_);let e0:=rf (by rw[aZ];k_extra "m.mem");dsimp only[aaT,aa0];left;show ay _ _ [(x,_),(dx,_)] _ '1';exact⟨rfl,rfl⟩
theorem Cz(hK:c.K=K0 c.w.params):I7 c.w c.K (.type "ValueError") (.ref 106) false∧I7 c.w c.K (.ref 106) (.ref 106) true:=⟨G0 (mt:=.type "type") (by rw[hK];kernel_rfl) (by rw[hK];kernel_rfl) (by rw[hK];kernel_rfl) (by rw[hK];kernel_rfl) (by rw[hK];kernel_rfl),G0 (mt:=.type "type") (by rw[hK];kernel_rfl) (by rw[hK];kernel_rfl) (by rw[hK];kernel_rfl) (by rw[hK];kernel_rfl) (by rw[hK];kernel_rfl)⟩
theorem Fv{x m r ep:Addr}:FC K0 (n+5) 945 [.ref x] [] (Al x dx m (.ref r) po nf ns ep) (λv C=>v= .bool true∧C=Al x dx m (.ref r) po nf ns ep) (λe C=>False):=by show aB (fx:=eV) qo qm qw;intro c Q' E' hK hd aZ hc ay aL bz;show ah;show jl;left;refine aH (vm (n:=n)) '1' hK hd (λv C h=>h.elim) (OD ?_);show n8 (b:=false) (by rw[aZ];k_extra "m.mem") (Cz hK).1;rw[if_neg aa1];let e0:=rf (by rw[aZ];k_extra "m.mem");dsimp only[aaT,aa0];left;show jl;refine ah (EH (Ha ?_));left;refine aH (wV (n:=n) (x:=x) (dx:=dx) (m:=m) (r:=r) (po:=po) (nf:=nf) (ns:=ns) (ep:=ep) (s:="a") (ps:=["zz"]) (aae rfl)) '1' hK hd (λv C h=>h.elim) (OD ?_);let e0:=rf (by rw[aZ];k_extra "m.mem");dsimp only[aaT,aa0];left;show ay _ _ [(x,_),(dx,_),(m,_)] _ '1';exact⟨rfl,rfl⟩
theorem jG{x dx m r l:Nat}{rl2:List Str}{po nf nf2:Int}(hz:ps.length≤1000)(hr:∀s∈ps,(acQ s).length≤1000)(hD:Dn ps (er ns) rl nf b g2 rl2 nf2):FC K0 (n+5) 952 [.ref x,.ref l] [] ((l,.list (ps.map .str))::en x dx m ns ep r rl po nf) (λv C=>v= .bool (!b)∧∃de,er de=g2∧C=(l,.list (ps.map .str))::en x dx m de ep r rl2 po nf2) (λe C=>False):=by
 show aB (fx:=dI) nK nJ nM;intro c Q' E' hK hd aZ hc ay aL bz;show ah;show jl;have Dy:=XO c.w.params;rw[←hK]at Dy;simp only[aaM]at Dy;refine ah (EH (EQ ?_));k_extra "m.name";refine Hi ⋯ ⋯ Dy.1.1.2 ⋯ ⟨Dy.2,?_⟩;k_extra "m.name";show str_list (xs:=ps.map .str) ⋯ (by rw[aaa];exact aab hz '2');have hp:∀{de:List Nd} {ti:List Str} {tQ:Int},aq (en x dx m de ep r ti po tQ) ((l,.list (ps.map .str))::en x dx m de ep r ti po tQ) [(l,.list (ps.map .str))]:=bR bZ;refine uO (Cw (n:=n) hz hr hD) hp hK hd (λv C hv=>?_) (λk C hv=>?_)
 ·let r0 z1 de he r4:=xe hv;subst r0;subst r4;refine⟨_,hp,?_⟩;left;exact ay _ _ ((l,_)::en x dx m de ep r rl2 po nf2) [] bZ ⟨rfl,de,he,rfl⟩
 let r0 r1 de he r4:=xe hv;subst r0;subst r1;subst r4;refine⟨_,hp,?_⟩;let e0:=rf (by rw[aZ];k_extra "m.mem");dsimp only[aaT,aa0];left;exact ay _ _ ((l,_)::en x dx m de ep r rl2 po nf2) [] bZ ⟨rfl,de,he,rfl⟩
end
section
open PySem.Builtin PySem.Builtin.Str
variable{a:Nat}
theorem oo(xs:List α)(lo hi:Option Int):pick xs lo hi=(xs.drop (ai3 lo xs.length)).take (kms_hi hi xs.length-ai3 lo xs.length):=by unfold pick;rw[kms_bounds];have h:=pick_run xs.toArray (ai3 lo xs.length) (kms_hi hi xs.length-ai3 lo xs.length);rw[←sliceRange_one]at h;simpa only[List.getElem?_toArray]using h
theorem XU:ai3 (some (a:Int)) n=min a n:=rfl
theorem XV:kms_hi (some (a:Int)) n=min a n:=rfl
theorem zU(xs:List α)(a:Nat)(h:a≤xs.length):pick xs (some (a:Int)) none=xs.drop a:=by rw[oo,XU,ac5 h];exact abd (aaz aa9)
theorem rg(xs:List α)(b:Nat):pick xs none (some (b:Int))=xs.take b:=by rw[oo,XV];exact kmk_take_min xs b
theorem vn(xs:List α)(a b:Nat)(tO:a≤b)(ha:a≤xs.length):pick xs (some (a:Int)) (some (b:Int))=(xs.take b).drop a:=by rw[oo,XV,XU,ac5 ha,←aiO,kmk_take_min]
theorem W.into{E:EP}{t:Sem α}{Q:α→SS→Prop}(h:aq D C Z)(hw:W c n ⟨loc,D⟩ t Q E):W c n ⟨loc,C⟩ t Q E:=W.fh h.perm (W.zT (ad7 D Z) hw)
abbrev Fw:=List (Addr×List Str)
def bL(rs:Fw):Cells:=rs.map λe=>(e.1,.list (e.2.map .str))
def bv(rs:Fw):List AV:=rs.map λe=>.ref e.1
theorem lJ{e:Addr×List Str}:∀{rs:Fw},e∈rs→At (e.1,.list (e.2.map .str)) (bL rs):=by
 intro l0;induction l0 with
 |nil=>intros;first|contradiction|(rename_i h;cases h)|nofun
 |cons a t ih=>intro h;rcases aai.mp h with rfl|h;exact .head;exact .tail (ih h)
abbrev Tb:=List (Str×List Str)
def jT(k:Str):Tb→Option (List Str)|[]=>none|e::t=>if e.1=k then some e.2 else jT k t
def mM(k:Str)(v:List Str):Tb→Tb|[]=>[(k,v)]|e::t=>if e.1=k then(k,v)::t else e::mM k v t
def stepT(t:Tb)(r:List Str):Tb:=mM (r.headD "") ((jT (r.headD "") t).getD []++r.tail) t
def vo(rs:List (List Str)):Tb:=rs.foldl stepT []
def ip(gs:Gs):Tb:=gs.map λe=>(e.1,e.2.2)
def lK(k:Str)(l:Addr)(v:List Str):Gs→Gs|[]=>[(k,l,v)]|e::t=>if e.1=k then(k,l,v)::t else e::lK k l v t
theorem Fy(k:Str)(l:Addr)(v:List Str):∀gs:Gs,ip (lK k l v gs)=mM k v (ip gs):=by
 intro l0;induction l0 with|nil=>exact rfl|cons e t ih=>
  change ip (if _ then _ else _)=if _ then _ else _
  split;rfl;change _::ip _=_;rw[ih];rfl
theorem Ki(k:Str)(l:Addr)(v:List Str):∀gs:Gs,nY (gM gs) k (.ref l)=gM (lK k l v gs):=by intro l0;induction l0 with|nil=>exact rfl|cons e t ih=>change(if _ then _ else _)=gM (if _ then _ else _);split;rfl;change _::nY (gM t) k _=_::_;rw[ih];rfl
theorem Kj(k:Str):∀gs:Gs,(dU (gM gs) k=none∧jT k (ip gs)=none)∨∃e∈gs,dU (gM gs) k=some (.ref e.2.1)∧jT k (ip gs)=some e.2.2:=by
 intro l0;induction l0 with|nil=>exact .inl ⟨rfl,rfl⟩|cons e t ih=>
  have a1:dU (gM (e::t)) k=if e.1=k then some (.ref e.2.1)else dU (gM t) k:=rfl
  have a2:jT k (ip (e::t))=if e.1=k then some e.2.2 else jT k (ip t):=rfl
  rw[a1,a2];by_cases h:e.1=k;exact .inr ⟨e,.head _,if_pos h,if_pos h⟩;simp only[if_neg h];rcases ih with h2|⟨e',he,h2⟩;exact .inl h2;exact .inr ⟨e',.tail _ he,h2⟩
theorem Kk(k:Str)(l:Addr)(v:List Str)(s1 d1:Addr×AO)(R:Cells):∀gs:Gs,∃D,aq (gC (lK k l v gs)) ((l,.list (v.map .str))::s1::d1::(gC gs++R)) (s1::d1::(D++R)):=by intro l0;induction l0 with|nil=>exact⟨[],.cons .head .nil⟩|cons e t ih=>unfold lK;split;exact⟨[(e.2.1,.list (e.2.2.map .str))],.cons .head (bR (bR (bR (gj (gC t)))))⟩;let D h:=eE (ih);exact⟨D,.cons (.tail (.tail (.tail .head))) h⟩
theorem CB(k:Str)(l:Addr)(v:List Str):∀gs:Gs,(lK k l v gs).length≤gs.length+1:=by intro l0;induction l0 with|nil=>exact aak _|cons e t ih=>unfold lK;split;exact aa2 _;exact acC (ih)
theorem CC{k:Str}{v:List Str}{e:Str×Addr×List Str}:∀{gs:Gs},e∈lK k l v gs→e.2.2=v∨e∈gs:=by intro l0;induction l0 with|nil=>intro h;obtain rfl:=aaL.mp h;exact .inl rfl|cons a t ih=>intro h;unfold lK at h;split at h;rcases aai.mp h with rfl|h;exact .inl rfl;exact .inr (.tail _ h);rcases aai.mp h with rfl|h;exact .inr (.head _);exact(ih h).imp id (.tail _)
theorem Fz{rs:Fw}(hz:rs.length≤100)(hr:∀e∈rs,e.2≠[]∧e.2.length≤10):FC K0 (n+2) 931 [.ref l] [] ((l,.list (bv rs))::bL rs) (λv C=>∃g gs ge,v= .ref g∧ip gs=vo (rs.map (λx=>x.2))∧C=(g,.map (gM gs) ge)::gC gs) (λe C=>False):=by
 show aB (fx:=eU) ql qk qs;intro c Q' E' hK hd aZ hc ay aL bz;show ah;symm;revert d;intro g;show eI (xs:=bv rs) (l:=l) (λi S=>∃gs ge p,S=⟨[("rows",some (.ref l)),("table",some (.ref g)),("row",p)],(g,.map (gM gs) ge)::(l,.list (bv rs))::(gC gs++bL rs)⟩∧ip gs=vo ((rs.take i).map (λx=>x.2))∧gs.length≤i∧∀e∈gs,e.2.2.length≤10*i) ?_ ?_ ?_
 ·k_extra "m.name";exact⟨rfl,.tail _ (.head _),[],0,none,rfl,rfl,aak _,λe he=>nomatch he⟩
 intro i;let gs ge p z4:=rH;exact .tail _ (.head _)
 ·intro i y S1 N hy;revert S1;let gs ge p he hl hb:=uf;intro hN;unfold bv at hy;rw[aag]at hy;let r rN r2:=ak (aaq.mp hy);subst r2;have hm:=aaA rN;have hi:=(aav.mp rN).1;let gU yP:=eA (hr r hm);obtain⟨a,ws⟩:=r;dsimp only at gU yP;cases ws with
  |nil=>exact absurd rfl gU
  |cons w ws=>
  have atr:At (a,.list ((w::ws).map .str)) (gC gs++bL rs):=At.right (lJ hm);refine⟨_,by k_extra "m.at",?_⟩;refine ah (jY ?_);k_extra "m.s1";k_extra "m.s1";k_extra "m.name";refine⟨ty_map .head,wC (d6 ?_)⟩;k_extra "m.name";refine oG ⟨ty_list (.tail (.tail atr)),d4 (k:=0) (.tail _ (.tail _ atr.mem)) rfl (by rw[aaa];exact aab yP '2') ?_⟩;symm;refine⟨aaD _,λd1=>?_⟩;symm;show p_ (.tail _ (.head _));show cY;k_extra "m.name";k_extra "m.s1";k_extra "m.s1";refine jA (p4 a _ (some 1) none ⟨rfl,.tail _ (.tail _ (.tail _ atr.mem)),rfl,rfl,by rw[aaa];exact aab yP '2',λs1=>?_⟩);have e1:pick ((w::ws).map AV.str) (some 1) none=ws.map .str:=zU _ 1 (abm _ _);rw[e1];have pg:∃la old,(dU (gM gs) w).getD (.ref d1)= .ref la∧At (la,.list (old.map .str)) ((s1,.list (ws.map .str))::(d1,.list [])::(g,.map (gM gs) ge)::(l,.list (bv rs))::(gC gs++bL rs))∧(jT w (ip gs)).getD []=old∧old.length≤10*i:=(by rcases Kj w gs with⟨h1,h2⟩|⟨e,ie,h1,h2⟩;exact ba d1 [] ⟨by rw[h1];rfl,.tail .head,by rw[h2];rfl,aaD _⟩;exact ba e.2.1 e.2.2 ⟨by rw[h1];rfl,.tail (.tail (.tail (.tail (At.left (yc ie))))),by rw[h2];rfl,hb e ie⟩);let la old ZM ZN ZO RD:=lU pg;rw[ZM];have p3:ws.length≤9:=acS yP;let l2:=gw ZN.mem (.head _) (by rw[aaa,aaa];exact aab (show old.length+ws.length≤1009 by exact Mt hz hi RD p3) '2');rw[←aaj];k_extra "m.name";show d6;k_extra "m.name";refine oG ⟨ty_list (.tail (.tail (.tail (.tail (.tail atr))))),d4 (k:=0) (.tail _ (.tail _ (.tail _ (.tail _ (.tail _ atr.mem))))) rfl (by rw[aaa];exact aab yP '2') ?_⟩;let Lz:=wk (es:=gM gs) (ep:=ge) (cells':=λLz=>(l2,.list ((old++ws).map .str))::(s1,.list (ws.map .str))::(d1,.list [])::(g,.map (gM (lK w l2 (old++ws) gs)) Lz)::(l,.list (bv rs))::(gC gs++bL rs)) (λLz=>?_) (by rw[gM,aaa];exact Mu hz hl hi);rw[Ki w l2 (old++ws)];exact .tail (.tail (.tail .head));let D hD:=eE (Kk w l2 (old++ws) (s1,.list (ws.map .str)) (d1,.list []) (bL rs) gs);have QF:aq ((g,.map (gM (lK w l2 (old++ws) gs)) Lz)::(l,.list (bv rs))::(gC (lK w l2 (old++ws) gs)++bL rs)) ((l2,.list ((old++ws).map .str))::(s1,.list (ws.map .str))::(d1,.list [])::(g,.map (gM (lK w l2 (old++ws) gs)) Lz)::(l,.list (bv rs))::(gC gs++bL rs)) ((s1,.list (ws.map .str))::(d1,.list [])::(D++[])):=.cons (.tail (.tail (.tail .head))) (.cons (.tail (.tail (.tail .head))) (oj hD (bD (bD bZ D) [_,_])));show W.into QF;change EB _ _ _ _ _ _;left;refine hN _ (eY (lK w l2 (old++ws) gs) Lz _ ⟨rfl,?_,?_,λe ie=>?_⟩);rw[Fy,aaK,rN,aaj];unfold vo at he⊢;rw[ab4,←he,←ZO];rfl;exact aab (CB w l2 (old++ws) gs) (acC hl);rcases CC ie with h|h;rw[h,aar];exact Mx RD p3;have:=hb e h;exact abU this
 let gs ge p he hl hb:=uf;symm;refine ay _ _ ((g,.map (gM gs) ge)::gC gs) _ (.cons .head (bR (gj (gC gs)))) (eY g gs ge ⟨rfl,?_,rfl⟩);rw[he,bv,aaa,abi]
end
variable{rs:Fw}
section
open PySem.Builtin PySem.Builtin.Str
variable{s:String}
def uP:List Nat→List (List Nat)|[]=>[]|[c]=>[[c]]|c::d::t=>if c=92 then[c,d]::uP t else[c]::uP (d::t)
def fK(l:List Nat):Str:=⟨l.toArray⟩
def j9(total:Nat):List (List Nat)→Nat→Str→Str|[],_,b=>b|u::t,m,b=>if u=[34]then j9 total t (m+1) b else if(u=[40]∨u=[41])∧(m%2=0∨m=total)then j9 total t m (b++fK u)else j9 total t m b
inductive Red:Nat→Str→Str→Prop
 |done:∀{k b} (h:Bo b "()"=false),Red k b b
 |step:∀{k b b'} (h:Bo b "()"=true) (hb:b.length≤5000) (h2:Red k (ada b "()" "") b'),Red (k+1) b b'
theorem vp{d:Nat}(hs:abA s=⟨#[k]⟩):((⟨#[d]⟩:Str)==abA s)=decide (d=k):=by rw[hs];by_cases h:d=k;subst h;simp;simp[h]
theorem j_{u k:List Nat}(hs:abA s=fK k):(fK u==abA s)=decide (u=k):=by rw[hs];by_cases h:u=k;subst h;simp;have:¬fK u=fK k:=λq=>h (by have:=congrArg (λz:Str=>z.cps.toList) q;simpa [fK]using this);simp[h,this]
theorem Kl:∀l:List (List Nat),(l.map fK).count (abA "\"")=l.count [34]:=by intro l0;induction l0 with|nil=>exact rfl|cons u t ih=>rw[aan,abM,abM,ih,j_ (k:=[34]) '2'];by_cases h:u=[34]<;>simp[h]
theorem lL(u:List Nat):(fK u).length=u.length:=rfl
abbrev zV(x:Str)(us pl mk br un:Option AV):List (Str×Option AV):=[("line",some (.str x)),("units",us),("place",pl),("marks",mk),("bare",br),("unit",un)]
abbrev uV(us:List (List Nat)):List AV:=(us.map fK).map .str
theorem vq{b':Str}(hz:x.length≤1000)(QG:∀l,x.cps.toList≠l++[92])(hR:Red k (j9 ((uP x.cps.toList).count [34]) (uP x.cps.toList) 0 "") b'):FC K0 (n+2) 924 [.str x] [] [] (λv C=>v= .bool (b'=="")∧C=[]) (λe C=>False):=by
 show aB (fx:=ei) pH pG pK;intro c Q' E' hK hd aZ hc ay aL bz;show ah;symm;refine⟨aaD _,λl=>?_⟩;symm;show gy (λm S=>∃don rest,x.cps.toList=don.flatten++rest∧uP x.cps.toList=don++uP rest∧m=rest.length∧don.length≤don.flatten.length∧S=⟨zV x (some (.ref l)) (some (.int don.flatten.length)) none none none,[(l,.list (uV don))]⟩) x.cps.toList.length (ba [] x.cps.toList ⟨rfl,rfl,rfl,aak _,rfl⟩);intro m S1 N VZ;let don rest h1 h2 r4 vN r6:=nV VZ;subst r4;subst r6;intro hN;have hlen:x.length=don.flatten.length+rest.length:=by have:=congrArg aaV h1;rw[aar,aaQ]at this;exact this
 left;show fV (aab hz '2');left;cases rest with
 |nil=>
  show aY (by simp[hlen]);have h2:uP x.cps.toList=don++[]:=h2;rw[aaO]at h2;rw[h2]at hR;clear hN;left;have Km:don.length≤1000:=aab vN (by have:=hlen;rw[ady]at this;exact SM hz this);generalize don.flatten.length=pl at vN;generalize ZP:j9 (don.count [34]) don 0 ""=R0 at hR;show eI (xs:=uV don) (l:=l) (λi S=>∃mk:Nat,∃br un,S=⟨zV x (some (.ref l)) (some (.int pl)) (some (.int mk)) (some (.str br)) un,[(l,.list (uV don))]⟩∧j9 (don.count [34]) (don.drop i) mk br=R0∧br.length≤3*i) ?_ ?_ ?_
  ·k_extra "m.name";exact⟨rfl,.head _,0,"",none,rfl,ZP,aak _⟩
  intro i;let mk br un z4:=rH;exact .head _
  ·intro i y S1 N2 hy;revert S1;let mk br un he hb:=nX;intro zR;unfold uV at hy;rw[aag,aag]at hy;let z tM r2:=ak (aaq.mp hy);subst r2;let u hu r2:=ak (aaq.mp tM);subst r2;have Hp:don.drop i=u::don.drop (i+1):=(by let q1 q2:=eE (aav.mp hu);rw[acx q1,q2]);rw[Hp]at he;unfold j9 at he;refine⟨_,by k_extra "m.at",?_⟩;show ah;left;by_cases q1:u=[34]
   ·show bA (by rw[j_ (k:=[34]) '2'];exact decide_eq_true q1);left;rw[if_pos q1]at he;exact zR _ (eY (mk+1) br _ ⟨rfl,he,by exact abU hb⟩)
   show aY (by rw[j_ (k:=[34]) '2'];simp[q1]);rw[if_neg q1]at he;left;refine⟨aae rfl,λl2=>?_⟩;show km (xs:=["(",")"]) (.head _);have xE:∀S':SS,¬((u=[40]∨u=[41])∧(mk%2=0∨mk=don.count [34]))→S'=⟨zV x (some (.ref l)) (some (.int pl)) (some (.int mk)) (some (.str br)) (some (.str (fK u))),[(l,.list (uV don))]⟩→N2 S':=(by rintro S' h rfl;rw[if_neg h]at he;exact zR _ (eY mk br _ ⟨rfl,he,by exact abU hb⟩));have V0:(["(",")"]:List Str).contains (fK u)=decide (u=[40]∨u=[41]):=(by have e2:=j_ (u:=u) (k:=[41]) (s:=")") '2';simp only[ahC,List.contains_nil,afN];rw[(j_ (u:=u) (k:=[40]) (s:="(") '2'),e2];by_cases a:u=[40]<;>by_cases b:u=[41]<;>simp[a,b]);rw[V0];left;by_cases q2:u=[40]∨u=[41]
   ·show bA (decide_eq_true q2);left;show iy '2';left;have QH:mk%2=0∨mk=don.count [34]→∀S':SS,S'=⟨zV x (some (.ref l)) (some (.int pl)) (some (.int mk)) (some (.str (br++fK u))) (some (.str (fK u))),[(l,.list (uV don))]⟩→N2 S':=(by rintro h S' rfl;rw[if_pos ⟨q2,h⟩]at he;refine zR _ (eY mk (br++fK u) _ ⟨rfl,he,?_⟩);rw[bg,lL];rcases q2 with rfl|rfl<;>(change br.length+1≤_;exact LS hb));have Hu:br.length+(fK u).length≤ac_:=(by have E7:=(aav.mp hu).1;exact aab (show _≤4000 by exact LW Km hb (by rcases q2 with rfl|rfl<;>exact aak _:(fK u).length≤1) E7) '2');rw[(by rw[adT _ '2'];rfl:aiF (mk:Int) 2=((mk%2:Nat):Int))];by_cases q3:mk%2=0
    ·show bA (by simp[q3]);show bA rfl;show W.forget (D:=[_]);left;show cz Hu;left;exact QH (.inl q3) _ rfl
    show aY (by simp;exact λq=>q3 (afY.mp q));left;show wq (xs:=don.map fK) '0';rw[(Kl don:(don.map fK).count (abA "\"")=don.count [34])];left;by_cases q4:mk=don.count [34]
    ·show bA (by simp[q4]);show bA rfl;show W.forget (D:=[_]);left;show cz Hu;left;exact QH (.inr q4) _ rfl
    show aY (by simp;exact λq=>q4 (afY.mp q));show W.forget (D:=[_]);left;exact xE _ (λh=>h.2.elim q3 q4) rfl
   show aY (by simp[q2]);show fY;left;exact xE _ (λh=>q2 h.1) rfl
  let mk br un he hb:=nX;left;have he:br=R0:=(by rw[uV,aaa,aaa,agg]at he;exact he);subst he;show gy (λm S=>∃b,S=⟨zV x (some (.ref l)) (some (.int pl)) (some (.int mk)) (some (.str b)) un,[(l,.list (uV don))]⟩∧Red m b b') k ⟨br,rfl,hR⟩;intro m S2 N3;revert S2;let b hr:=Te;intro VW;left;cases hr with|done h=>rw[h];left;exact ay _ _ [] _ .nil ⟨rfl,rfl⟩|step h Ut h2=>rw[h];show bA rfl;refine ah (Jj (kq '2' ?_));k_extra "m.name";refine⟨b,rfl,by change b.length+(b.length+1)*0≤_;exact aab Ut (aae rfl),?_⟩;left;exact VW _ _ (aby _) ⟨_,rfl,h2⟩
 |cons d rest=>
  have FA:don.flatten.length<x.length:=(by rw[hlen,aaF];exact Mf);have pg:x.cps[don.flatten.length]? =some d:=(by rw[←adG,h1,acX (aak _),adv];rfl);show bA (by simp[hlen];exact Int.lt_add_succ _ _);left;show JF;left;show IZ pg (aab hz '2');left;have key:∃u vt,d::rest=u++vt∧uP (d::rest)=u::uP vt∧u.length=if d=92 then 2 else 1:=by cases rest with|nil=>refine ba [d] [] ⟨rfl,rfl,?_⟩;rw[if_neg];rfl;intro h;subst h;exact QG _ h1|cons e rest=>by_cases yQ:d=92;exact ba [d,e] rest ⟨rfl,by rw[uP,if_pos yQ],by rw[if_pos yQ];rfl⟩;exact ba [d] (e::rest) ⟨rfl,by rw[uP,if_neg yQ],by rw[if_neg yQ];rfl⟩
  let u vt k1 k2 k3:=bG key;have Lw:=congrArg aaV k1;rw[aaF,aar]at Lw;have Hv:∀j:Nat,u.length=j→b8 x (some (don.flatten.length:Int)) (some ((don.flatten.length+j:Nat):Int))=fK u:=λj hj=>(by rw[mK x (aa5 _ _) (by rw[hlen,aaF];exact Mq Lw hj),(by rw[h1,aeF]:x.cps.toList.drop don.flatten.length=d::rest),k1,aep,←hj,afw];rfl);have XW:1≤u.length:=(by rw[k3];split<;>decide);have qd:∀S':SS,S'=⟨zV x (some (.ref l)) (some (.int ((don.flatten.length:Int)+(u.length:Int)))) none none none,[(l,.list (uV don++[.str (fK u)]))]⟩→N S':=(by rintro S' rfl;have V_:(don++[u]).flatten=don.flatten++u:=(by rw[adj];simp);refine hN vt.length _ (by rw[aaF];exact Mr Lw XW) (ba (don++[u]) vt ⟨?_,?_,rfl,?_,?_⟩);rw[V_,h1,k1,aaw];rw[h2,k2,aaw];rfl;rw[V_,aar,aar,abE];exact aam vN XW;rw[V_,aar];unfold uV;rw[aaj,aaj];simp);by_cases yQ:d=92
  ·show bA (by rw[vp (k:=92) '2'];exact decide_eq_true yQ);rw[if_pos yQ]at k3;have hp:b8 x (some (don.flatten.length:Int)) (some ((don.flatten.length:Int)+2))=fK u:=Hv 2 k3;left;refine eY x (some _) (some _) ⟨rfl,rfl,rfl,?_,?_⟩;rw[hp,lL,k3];decide;rw[hp];left;show aS ⋯ (by rw[aaa,aaa];exact aab vN (aab (show don.flatten.length≤1000 by exact xc hz FA) '2'));left;show d6;left;refine⟨1,rfl,?_⟩;left;show iA (ys:=uV don) (x:=.str (fK u)) '0' (by rw[aaa,aaa];exact aaC vN (aaC (show don.flatten.length≤1000 by exact xc hz FA) '2'));left;show fV (by rw[lL,k3];decide);left;exact qd _ rfl
  show aY (by rw[vp (k:=92) '2'];simp[yQ]);rw[if_neg yQ]at k3;have hp:b8 x (some (don.flatten.length:Int)) (some ((don.flatten.length:Int)+1))=fK u:=Hv 1 k3;left;refine eY x (some _) (some _) ⟨rfl,rfl,rfl,?_,?_⟩;rw[hp,lL,k3];decide;rw[hp];left;show aS ⋯ (by rw[aaa,aaa];exact aab vN (aab (show don.flatten.length≤1000 by exact xc hz FA) '2'));left;show d6;left;refine⟨1,rfl,?_⟩;left;show iA (ys:=uV don) (x:=.str (fK u)) '0' (by rw[aaa,aaa];exact aaC vN (aaC (show don.flatten.length≤1000 by exact xc hz FA) '2'));left;show fV (by rw[lL,k3];decide);left;exact qd _ rfl
end
section
open PySem.Builtin PySem.Builtin.Str
variable{B:Nat} {w:Str}
theorem wY{f:α→Nat}:∀{l:List α},(∀y∈l,f y≤B)→(l.map f).sum≤l.length*B:=by intro l0;induction l0 with|nil=>exact λzz=>aaD _|cons a t ih=>intro h;rw[aan,adh,aaF,agx,Nat.add_comm];exact aam (ih λy hy=>h y (.tail _ hy)) (h a (.head _))
theorem yj{B k:Nat}:∀{l:List Str} {a:Nat},(∀y∈l,y.length≤B)→l.foldl (λa y=>a+y.length+k) a≤a+l.length*(B+k)|[],a,_=>aa5 _ _|y::t,a,h=>by have h2:=h y (.head _);rw[aaF,agx];exact M7 (yj (k:=k) (a:=a+y.length+k) λz hz=>h z (.tail _ hz)) h2
theorem jH{l:List Str}(h:∀y∈l,y.length≤B)(hl:l.length*(B+sep.length)≤100000):(l.toArray.foldl (·+·.length+sep.length) 0)≤lim∧(glued sep l).length≤lim∧(glued sep l).length≤l.length*(B+sep.length):=by
 have h1:l.toArray.foldl (·+·.length+sep.length) 0=l.foldl (λa y=>a+y.length+sep.length) 0:=by simp
 have h3:(glued sep l).length≤l.length*(B+sep.length):=by rw[size_glued,Nat.mul_add];exact aam (wY h) (abz _ (aed _ _))
 refine⟨?_,aab h3 (aab hl '2'),h3⟩;rw[h1];exact aab (yj (k:=sep.length) (a:=0) h) (aab (by exact abe hl _) (show 100000≤lim by decide))
def iL(w:Str):List Str:=w.cps.toList.map λd=>if d=39 then"'\"'\"'"else⟨#[d]⟩
def hO(w:Str):Str:=if w="a"∨w="aa"then w else"'"++glued "" (iL w)++"'"
def gL(ws:List Str):Str:=glued " " (ws.map hO)
theorem iq:(iL w).length=w.length:=by unfold iL;rw[aaa];rfl
theorem yk:∀y∈iL w,y.length≤5:=by intro y hy;let d z1 r2:=ak (aaH.mp hy);subst r2;split;decide;exact(by change 1≤5;decide)
theorem CD(h:w.length≤10):(hO w).length≤60:=by unfold hO;split;exact aab h (aae rfl);rw[bg,bg];have h1:=(jH (sep:="") (l:=iL w) yk (by rw[iq];change w.length*5≤_;exact Gx h)).2.2;rw[iq]at h1;change 1+_+1≤60;exact M9 h (h1:(glued "" (iL w)).length≤w.length*5)
abbrev Hw(l:Addr)(wr wd ir:Option AV):List (Str×Option AV):=[("words",some (.ref l)),("written",wr),("word",wd),("inner",ir)]
theorem Kn{ws:List Str}(hz:ws.length≤10)(hw:∀w∈ws,w.length≤10):FC K0 (n+2) 917 [.ref l] [] [(l,.list (ws.map .str))] (λv C=>v= .str (gL ws)∧C=[(l,.list (ws.map .str))]) (λe C=>False):=by
 show fP (fx:=fH) sH sG sQ;intro c Q' E' hK hd aZ hc bl ay aL bz;show ah;symm;refine⟨aaD _,λo=>?_⟩;symm;show eI (xs:=ws.map .str) (l:=l) (λi S=>∃wd ir,S=⟨Hw l (some (.ref o)) wd ir,[(o,.list (((ws.take i).map hO).map .str)),(l,.list (ws.map .str))]⟩) ?_ ?_ ?_
 ·k_extra "m.name";exact⟨rfl,.tail _ (.head _),none,none,rfl⟩
 intro i;let wd ir:=ug;exact .tail _ (.head _)
 ·intro i y S1 N hy;revert S1;let wd ir:=ug;intro hN;rw[aag]at hy;let w tR r2:=ak (aaq.mp hy);subst r2;have hm:=aaA tR;have hi:=(aav.mp tR).1;refine⟨_,by k_extra "m.at",?_⟩;show ah;left;refine⟨aae rfl,λl2=>?_⟩;show km (xs:=["a","aa"]) (.head _);have zR:∀S':SS,(∃ir,S'=⟨Hw l (some (.ref o)) (some (.str w)) ir,[(o,.list (((ws.take i).map hO).map .str++[.str (hO w)])),(l,.list (ws.map .str))]⟩)→N S':=(by let ir:=AZ;refine hN _ (ba (some (.str w)) ir ?_);rw[(by rw[aaK,tR];rfl:ws.take (i+1)=ws.take i++[w]),aaj,aaj];rfl);have vl:(((ws.take i).map hO).map AV.str).length≤lim:=(by rw[aaa,aaa];exact aab (abh _ _) (aab hz '2'));left;by_cases q:w="a"∨w="aa"
  ·show bA (by simp[q]);show fY;left;show aS ⋯ vl;left;have:hO w=w:=if_pos q;refine zR _ ⟨ir,?_⟩;rw[this]
  show aY (by simp;simpa using q);show fY;refine ah (my (xs:=["sign"]) (cl:=[]) (gl:=[]) ⟨by rw[bl];kernel_rfl,by with_unfolding_all decide,by with_unfolding_all rfl,by with_unfolding_all decide,by with_unfolding_all decide,by decide,λp hp=>nomatch hp⟩ ?_ (by rw[bl];kernel_rfl));k_extra "m.name";refine CA.go (P:=iS w) (λu hu=>Ek hu) Ew (λD=>by k_extra "m.at") λD m L=>LP.loop rfl eR (signs w) (λj S=>∃sg,S=⟨[("sign",sg)],(D,.list (((iL w).take j).map .str))::[(o,.list (((ws.take i).map hO).map .str)),(l,.list (ws.map .str))]⟩) ⟨none,rfl⟩ ?_ ?_
  ·intro j y S1 hx;revert S1;let sg:=AZ;let d hd2 r2:=ak (signs_at hx);subst r2;have IM:(iL w).take (j+1)=(iL w).take j++[if d=39 then("'\"'\"'":Str)else⟨#[d]⟩]:=(by rw[aaK,iL,aag,adG,hd2];rfl);refine⟨El hx,cA ⋯ (iC ?_)⟩;rw[if_pos rfl];refine .inl ⟨rfl,?_⟩;have qd:∀S':SS,∀z:Str,z=(if d=39 then("'\"'\"'":Str)else⟨#[d]⟩)→S'=⟨[("sign",some (.str ⟨#[d]⟩))],(D,.list (((iL w).take j).map .str))::[(o,.list (((ws.take i).map hO).map .str)),(l,.list (ws.map .str))]⟩→∃ys cells',aI D (.list ys) (.list (ys++[AV.str z])) S'.cells cells'∧ys.length≤lim∧∃sg,(⟨S'.loc,cells'⟩:SS)=⟨[("sign",sg)],(D,.list (((iL w).take (j+1)).map .str))::[(o,.list (((ws.take i).map hO).map .str)),(l,.list (ws.map .str))]⟩:=(by rintro S' z rfl rfl;refine ba _ _ ⟨by k_extra "m.at",?_,some (.str ⟨#[d]⟩),?_⟩;rw[aaa];exact aab (abh _ _) (by rw[iq];exact aab (hw w hm) '2');rw[IM,aaj];rfl);left;by_cases Hx:d=39
   ·show bA (by rw[vp (k:=39) '2'];exact decide_eq_true Hx);left;exact qd _ _ (if_pos Hx).symm rfl
   show aY (by rw[vp (k:=39) '2'];simp[Hx]);left;exact qd _ _ (if_neg Hx).symm rfl
  let sg:=AZ;refine⟨Em hd,?_⟩;have:(iL w).take (signs w).length=iL w:=(by rw[abd];rw[iq,qN];exact aak _);rw[this];left;have hj:=jH (sep:="") (l:=iL w) yk (by rw[iq];change w.length*5≤_;have:=hw w hm;exact Gx this);show ml '0' hj.1 hj.2.1;have XX:(glued "" (iL w)).length≤50:=aab hj.2.2 (by rw[iq];change w.length*5≤_;have:=hw w hm;exact Np this);show cz (aab (show _≤60 by change 1+_≤60;exact Nt XX) '2');left;show cz (aab (show _≤60 by rw[bg];change 1+_+1≤60;exact Nv XX) '2');left;show aS ⋯ vl;show W.forget (D:=[_]);change EB _ _ _ _ _ _;left;have:hO w="'"++glued "" (iL w)++"'":=if_neg q;rw[←this];exact zR _ ⟨_,rfl⟩
 let wd ir:=ug;symm;have:(ws.map hO).take (ws.map AV.str).length=ws.map hO:=by rw[aaa,abd];rw[aaa];exact aak _
 rw[aeT,this];have hj:=jH (sep:=" ") (l:=ws.map hO) (B:=60) (λy hy=>by refine ak (aaH.mp hy) λz tM r2=>?_;obtain rfl:=r2;exact CD (hw z tM)) (by rw[aaa];change ws.length*61≤_;exact aab (abz 61 hz) (aae rfl));show ml '0' hj.1 hj.2.1;symm;exact ay _ _ _ [_] (bD bZ [_]) ⟨rfl,rfl⟩
end
section
open PySem.Builtin PySem.Builtin.Str
theorem mO(h:wR fx (loc.map (λx=>x.1))=true)(hb:∀L,(binds.all λx=>fx.cs.names.lookup x.1==some .local||(fx.cs.names.lookup x.1==some .cell&&((aco (L+1) fx.cs.names []).lookup x.1).isSome))=true)(hv:loc.map (λp=>(bindL (λx=>fx.cs.names.lookup x) binds (λzz=>none) p.1).map ab)=loc.map (λx=>x.2))(ZQ:cs.map (λp=>(bindC (λx=>fx.cs.names.lookup x) binds (λzz=>none) p.1).map ab)=cs.map (λx=>x.2.2))(hc:∀L,cs.map (λe=>(aco (L+1) fx.cs.names []).lookup e.1)=cs.map λe=>some (L+1+e.2.1)) (hn:(cs.map (λx=>x.2.1)).Nodup):mz fx binds loc cs:=by unfold wR at h;simp only[aaM,decide_eq_true_eq,aaZ,beq_iff_eq,ab3]at h;refine⟨h.1,h.2,λL y hy=>?_,pD hv,λL=>pD (hc L),pD ZQ,hn⟩;have:=aaZ.mp (hb L) y hy;simpa using this
theorem QI{vs:List Value}{a b d e:AV}(h:vs.map ab=[a,b,d,e]):∃v u y z,vs=[v,u,y,z]∧ab v=a∧ab u=b∧ab y=d∧ab z=e:=by let v r r2 h1 h2:=bG (abL.mp h);subst r2;let u y z r3 h3 h4 h5:=eN (uo h2);subst r3;exact p4 v u y z ⟨rfl,h1,h3,h4,h5⟩
theorem CE{K:Frag}{b:List Stmt}(k:Obj)(h:autoParam (Vp K fx k=Vq fx k b false false) apK):qZ K fx (fdOf k) b:=
 have a:=congrArg (λx=>x.2.1) h
 have c:=congrArg (λx=>x.2.2.1) h
 have d:=congrArg (λx=>x.2.2.2) h
 ⟨(eY _ _ _ (congrArg (λx=>x.1) h)),congrArg (λx=>x.1) a,congrArg (λx=>x.2.1) a,congrArg (λx=>x.2.2.1) a,congrArg (λx=>x.2.2.2) a,congrArg (λx=>x.1) c,congrArg (λx=>x.2.1) c,congrArg (λx=>x.2.2.1) c,congrArg (λx=>x.2.2.2) c,congrArg (λx=>x.1) d,congrArg (λx=>x.2.1) d,congrArg (λx=>x.2.2.1) d⟩
theorem tn(P:aao):qZ (K0 P) bJ (lq P) uT:=CE (Top.Id P)
abbrev tq(a0:AV):List (Str×Option AV):=[("script",some a0)]
abbrev tr(a0:AV):List (Str×Nat×Option AV):=[("pieces",0,none),("words",1,none)]
theorem tu:∀(s:aas) (P:aao),(K0 P).In s.heap→∀pos kws,pos.map ab=[a0]→kws.map (λp=>(p.1,ab p.2))=[]→∃binds,ac9 s (lq P) ⟨pos,kws⟩ binds∧mz bJ binds (tq a0) (tr a0):=by intro s P _ pos kws hp hk;obtain rfl:=kws_nil hk;let v0 r1 r2:=ak (cP hp);subst r1;subst r2;exact⟨[("script",v0)],.of_eq '3',mO '3' (λL=>by kernel_rfl) '3' '3' (λL=>by kernel_rfl) (show([0,1]:List Nat).Nodup by decide)⟩
theorem tv(P:aao):qZ (K0 P) bK (lw P) uX:=CE (Top.Il P)
abbrev tw(a0 a1 a2 a3:AV):List (Str×Option AV):=[("names",some a0),("given",some a2),("free",none),("mine",none),("last",none)]
abbrev tx(a0 a1 a2 a3:AV):List (Str×Nat×Option AV):=[("edges",0,some a1),("done",1,some a3),("name",2,none)]
theorem tz{a1 a2 a3:AV}:∀(s:aas) (P:aao),(K0 P).In s.heap→∀pos kws,pos.map ab=[a0,a1,a2,a3]→kws.map (λp=>(p.1,ab p.2))=[]→∃binds,ac9 s (lw P) ⟨pos,kws⟩ binds∧mz bK binds (tw a0 a1 a2 a3) (tx a0 a1 a2 a3):=by intro s P _ pos kws hp hk;obtain rfl:=kws_nil hk;let v0 v1 v2 v3 r4 r5 r6 r7 r8:=lX (QI hp);subst r4;subst r5;subst r6;subst r7;subst r8;exact⟨[("names",v0),("edges",v1),("given",v2),("done",v3)],.of_eq '3',mO '3' (λL=>by kernel_rfl) '3' '3' (λL=>by kernel_rfl) (show([0,1,2]:List Nat).Nodup by decide)⟩
theorem Ko(P:aao):qZ (K0 P) bd (sO P) da:=CE (Top.Io P)
abbrev Kq(a0:AV):List (Str×Option AV):=[("script",some a0),("fields",none),("values",none),("told",none),("first",none),("names",none),("edges",none),("sorter",none),("held",none),("come",none),("name",none),("quiet",none)]
abbrev CG(a0:AV):List (Str×Nat×Option AV):=[("rows",0,none),("lines",1,none),("table",2,none),("every",3,none)]
theorem Kr(s:aas)(P:aao)(v:Value):ac9 s (sO P) ⟨[v],[]⟩ [("script",v)]:=.of_eq '3'
theorem Ks(v:Value):mz bd [("script",v)] (Kq (ab v)) (CG (ab v)):=mO '3' (λL=>by kernel_rfl) '3' '3' (λL=>by kernel_rfl) (show([0,1,2,3]:List Nat).Nodup by decide)
theorem Kt(P:aao):(sO P).scope.names.lookup ("script":Str)=some .local:=by kernel_rfl
end
section
open PySem.Builtin PySem.Builtin.Str
variable{x:Addr}
theorem CH(P:aao)(v0 v1:Value):adb (gz P) ⟨[v0,v1],[]⟩=(ahU [v1]>>=λt=>alloc afb>>=λd=>pure ([("cls",v0),("args",t),("kwargs",.ref d)]:List (Str×Value))):=by kernel_rfl
theorem QJ:FC K0 (n+1) 238 [.ref 745,.str s] [] [] (λv C=>∃x d,v= .ref x∧C=[(x,.inst 745 d),(d,.dict [] 0)]) (λzz zz=>False):=by
 show FC.pk (fx:=ef) (B:=λD loc=>D=[]∧∃t d:Addr,loc=([("cls",some (.ref 745)),("args",some (.ref t)),("kwargs",some (.ref d))]:List (Str×Option AV))) kY kX ?_;intro c S X A s1 pos kws ok hK hp hk R;obtain rfl:=kws_nil hk;let v0 v1 r2 h0 h1:=bG (fR hp);subst r2;rw[CH];refine aac (afs (aac (wpAny_alloc (aal (ba [] _ ⟨?_,dB (loc:=[("cls",some (ab v0)),("args",some (.ref s1.heap.objs.size)),("kwargs",some (.ref (s1.heap.push {cls:=.type "tuple",data:=.seq [v1].toArray}).objs.size))]) '3' '3' '3',rfl,s1.heap.objs.size,(s1.heap.push {cls:=.type "tuple",data:=.seq [v1].toArray}).objs.size,by rw[h0]⟩)))) (by change 1≤ac_;decide));exact R.keeps (tk:=s1.toks) λb o e=>aap _ (aap _ e);intro c D loc Q' E' yQ;let r0 t d r3:=IC yQ;subst r0;subst r3;intro hK hd aZ hc bl ay aL bz;show ah;left;have k1:c.K.lookup 745=some (Top.H2 c.w.params):=by rw[hK];kernel_rfl
 show sw k1 (by rw[hK];kernel_rfl:c.K.lookup 498=some (Top.N6 c.w.params)) '2' '3';left;show qe;iterate 6 k_extra "m.s1"
 show BI (T:="object") (i:="object.__new__") '3' (by decide+kernel) (by rw[hK];kernel_rfl) '3';k_extra "m.name";refine⟨rfl,?_⟩;left;let x d:=uI (B:=.type "object") (p4 _ _ _ _ ⟨k1,by kernel_rfl,by kernel_rfl⟩) (by rw[hK];kernel_rfl) (by rw[hK];kernel_rfl) (by rw[hK];kernel_rfl) (by rw[hK];kernel_rfl);exact ay _ _ [(x,_),(d,_)] _ '1' (ba x d ⟨rfl,rfl⟩)
theorem CI{b p:AV}:FC K0 (n+1) 522 [.ref x,.str s] [] [(x,.inst 745 d),(d,.dict (mI (.str "\n") b p) k)] (λv C=>v= .str s∧C=[(x,.inst 745 d),(d,.dict (mI (.str "\n") b p) k)]) (λzz zz=>False):=by show aB (fx:=bu) gZ gY g_;intro c Q' E' hK hd aZ hc ay aL bz;show ah;left;exact ay _ _ [(x,_),(d,_)] _ '1' ⟨rfl,rfl⟩
theorem CJ{a1:AV}:∀(s:aas) (P:aao),(K0 P).In s.heap→∀pos kws,pos.map ab=[a0,a1]→kws.map (λp=>(p.1,ab p.2))=[]→∃binds,ac9 s (dj P) ⟨pos,kws⟩ binds∧e7 bX binds [("self",some a0),("initial_value",some a1),("newline",some (.str "\n"))]:=by intro s P fg pos kws hp hk;obtain rfl:=kws_nil hk;let v0 v1 r2 r3 r4:=bG (fR hp);subst r2;subst r3;subst r4;refine⟨[("self",v0),("initial_value",v1),("newline",.str "\n" 981)],λM A E Q hq=>(acf (M:=M) fg (by kernel_rfl:peek (K0 P) ⟨M.prog,M.w.params⟩ (adb (dj P) ⟨[v0,v1],[]⟩)=some ([("self",v0),("initial_value",v1),("newline",.str "\n" 981)]:List (Str×Value)))).here hq,dB '3' '3' '3'⟩
theorem FD:FC K0 (n+2) 515 [.ref x,.str s] [] [(x,.inst 745 d),(d,.dict [] 0)] (λv C=>v= .none∧C=[(x,.inst 745 d),(d,.dict (mI (.str "\n") (.str s) (.int 0)) 3)]) (λzz zz=>False):=by
 show aB (fx:=bX) jw jv CJ;intro c Q' E' hK hd aZ hc ay aL bz;show ah;left;show j4;left;show j4;iterate 6 k_extra "m.s1"
 iterate 3
  refine ah (qW ?_)
  k_extra "m.ee"
  k_extra "m.in"
 left;refine iE (CI (n:=n) (x:=x) (d:=d) (s:=s) (b:=.str "") (p:=.int 0) (k:=3)) '1' hK hd (λv C Tv=>?_) (λzz zz h=>h.elim);let hv hC:=eA Tv;subst hv hC;dsimp only[aaT,aa0];left;exact aL _ [(x,_),(d,_)] _ '1' ⟨rfl,rfl⟩
theorem Ku(P:aao):BH (K0 P) P 745 238 515 where
 obj:=(p4 _ _ _ _ ⟨(by kernel_rfl:(K0 P).lookup 745=some (Top.H2 P)),by kernel_rfl⟩)
 call:=by kernel_rfl
 typ:=by kernel_rfl
 made:=by kernel_rfl
 new:=(eY (.type "type") 242 [] ⟨by kernel_rfl,by kernel_rfl,by kernel_rfl,by kernel_rfl⟩)
 self:=by kernel_rfl
 init:=by kernel_rfl
 fn:=by kernel_rfl
theorem CK{E:EP}(hK:c.K=K0 c.w.params)(hd:c.hd=none)(h:∀x d,Q (.ref x) ⟨S.loc,(x,.inst 745 d)::(d,.dict (mI (.str "\n") (.str s) (.int 0)) 3)::S.cells⟩):bM c (n+3) S (.ref 745) [.str s] Q E:=sv (m:=n+2) (hK▸Ku c.w.params) hK hd (QJ (n:=n+1)) (λx dx=>(FC.frame (FD (n:=n) (x:=x) (d:=dx) (s:=s))).mono (aak _) (λzz zz z=>z) λzz zz h8=>ak h8 λz0 z z2=>z) (λx dx v C' ⟨C1,⟨h1,h2⟩,h3⟩=>⟨h1,by subst h2 h3;exact h x dx⟩) (aak _)
end
section
open PySem.Builtin PySem.Builtin.Str
theorem ZR{k:Str}{a:AV}(h:kws.map (λp=>(p.1,ab p.2))=[(k,a)]):∃v,kws=[(k,v)]∧ab v=a:=by let p q1 q2:=ak (List.map_eq_singleton_iff.mp h);subst q1;exact⟨p.2,by rw[←show p.1=k from congrArg aes q2],congrArg afg q2⟩
def ZS:Str:="abcdfeghijklmnopqrstuvwxyzABCDEFGHIJKLMNOPQRSTUVWXYZ0123456789_"++"ßàáâãäåæçèéêëìíîïðñòóôõöøùúûüýþÿÀÁÂÃÄÅÆÇÈÉÊËÌÍÎÏÐÑÒÓÔÕÖØÙÚÛÜÝÞ"
abbrev Kv(io st lno tk p1 p2 cm ws:AV):List (Str×AV):=zH io .none (.bool true) .none cm (.str ZS) (.str " \t\r\n") ws (.str "'\"") (.str "\\") (.str "\"") st p1 lno (.int 0) tk p2 .none (.str "")
theorem Kw{a1 a2:AV}:∀(s:aas) (P:aao),(K0 P).In s.heap→∀pos kws,pos.map ab=[a0,a1]→kws.map (λp=>(p.1,ab p.2))=([("posix",a2)]:List (Str×AV))→∃binds,ac9 s (eh P) ⟨pos,kws⟩ binds∧e7 c8 binds [("self",some a0),("instream",some a1),("infile",some .none),("posix",some a2),("punctuation_chars",some (.bool false)),("t",none)]:=by intro s P fg pos kws hp hk;let v2 r1 r2:=ak (ZR hk);subst r1;subst r2;let v0 v1 r2 r3 r4:=bG (fR hp);subst r2;subst r3;subst r4;refine⟨[("self",v0),("instream",v1),("infile",.none),("posix",v2),("punctuation_chars",.bool false)],λM A E Q hq=>(acf (M:=M) fg (by kernel_rfl:peek (K0 P) ⟨M.prog,M.w.params⟩ (adb (eh P) ⟨[v0,v1],[("posix",v2)]⟩)=some ([("self",v0),("instream",v1),("infile",.none),("posix",v2),("punctuation_chars",.bool false)]:List (Str×Value)))).here hq,dB '3' '3' '3'⟩
theorem wZ{x:Addr}:FC K0 (n+4) 804 [.ref x,.str s] [("posix",.bool true)] [(x,.inst 880 dx),(dx,.dict [] 0)] (λv C=>∃io d p1 p2,v= .none∧C=[(x,.inst 880 dx),(dx,.dict (Kv (.ref io) (.str " ") (.int 1) (.str "") (.ref p1) (.ref p2) (.str "#") (.bool false)) 19),(io,.inst 745 d),(d,.dict (mI (.str "\n") (.str s) (.int 0)) 3),(p1,.raw vL),(p2,.raw vL)]) (λzz zz=>False):=by
 show aB (fx:=c8) k9 kZ Kw;intro c Q' E' hK hd aZ hc ay aL bz;show ah;left;show sr;left;let io d:=CK hK hd;iterate 10 k_extra "m.s1"
 iterate 2 k_extra "m.nw"
 k_extra "m.s1";k_extra "m.nw";k_extra "m.s1";iterate 6 k_extra "m.s1"
 k_extra "m.nw";k_extra "m.s1";iterate 2 k_extra "m.nw"
 left;show dK (by decide+kernel);iterate 2 k_extra "m.s1"
 iterate 6 k_extra "m.nw"
 refine ah (qW ?_);iterate 2 k_extra "m.s1"
 let p1:=pj;k_extra "m.in";iterate 3 k_extra "m.nw"
 refine ah (qW ?_);iterate 2 k_extra "m.s1"
 let p2:=pj;k_extra "m.in";k_extra "m.nw";show ah;iterate 11 k_extra "m.s1"
 k_extra "m.nw";left;show aL _ [(x,_),(dx,_),(io,_),(d,_),(p1,_),(p2,_)] _ '1';exact p4 io d p1 p2 ⟨rfl,rfl⟩
end
section
open PySem.Builtin PySem.Builtin.Str
variable{x:Addr}
theorem FF{a1 a2 a3 a4 a5 a6 a7 a8 a9 a18:AV}(hh:hand a18=true):FC K0 (n+1) 811 [.ref x] [] [(x,.inst 880 dx),(dx,.dict (zH a0 a1 a2 a3 a4 a5 a6 a7 a8 a9 a10 a11 a12 a13 a14 a15 a16 a17 a18) k)] (λv C=>v=a18∧C=[(x,.inst 880 dx),(dx,.dict (zH a0 a1 a2 a3 a4 a5 a6 a7 a8 a9 a10 a11 a12 a13 a14 a15 a16 a17 a18) k)]) (λzz zz=>False):=by show aB (fx:=bn) ga f_ gh;intro c Q' E' hK hd aZ hc ay aL bz;refine ah (xN (Hb ?_));k_extra "m.name";show BJ ⋯ ⋯ (Vt (by assumption) ⋯) ⋯ hh;exact ay _ _ [(x,_),(dx,_)] _ '1' ⟨rfl,rfl⟩
theorem Wa{E:EP}{a1 a2 a3 a4 a5 a6 a7 a8 a9:AV}(hK:c.K=K0 c.w.params)(hd:c.hd=none)(hx:At (xn,some (.ref x)) loc)(h:Q (.str "") ⟨loc,(x,.inst 880 dx)::(dx,.dict (zH a0 a1 a2 a3 a4 a5 a6 a7 a8 a9 a10 a11 a12 a13 a14 a15 a16 a17 (.str "")) k)::D⟩):EE c (n+2) ⟨loc,(x,.inst 880 dx)::(dx,.dict (zH a0 a1 a2 a3 a4 a5 a6 a7 a8 a9 a10 a11 a12 a13 a14 a15 a16 a17 (.str "")) k)::D⟩ (.Attribute (.Name xn pn) "punctuation_chars" pp) Q E:=Jq hx .head (.tail .head) (Zq hK) (FF (n:=n) rfl) (.cons .head (.cons .head .nil)) hK hd (λv C' JN=>by refine eA JN λh1 h2=>?_;exact⟨by rw[h1];rfl,by rw[h1,h2];exact h⟩) (aak _)
end
section
open PySem.Builtin PySem.Builtin.Str
abbrev c6(x dx io d p1 p2:Addr)(st tk:AV)(s:Str)(p k:Nat):Cells:=[(x,.inst 880 dx),(dx,.dict (Kv (.ref io) st (.int 1) tk (.ref p1) (.ref p2) (.str "") (.bool true)) k),(io,.inst 745 d),(d,.dict (mI (.str "\n") (.str s) (.int p)) 3),(p1,.raw vL),(p2,.raw vL)]
abbrev gO(x:Addr)(q e nc r:Option AV):List (Str×Option AV):=[("self",some (.ref x)),("quoted",q),("escapedstate",e),("nextchar",nc),("result",r)]
def vO:List Stmt:=match pL cF 2 with
 | .While _ b _ _=>b
 |_=>[]
def tA:List Stmt→List Stmt|[.If _ _ o _]=>o|_=>[]
def Kx:List Stmt→List Stmt|[.If _ b _ _]=>b|_=>[]
def Hy:List Stmt:=Kx (tA (tA (tA (tA (vO.drop 3)))))
section
variable{c:Cx} {n:Nat} {x dx io d p1 p2:Addr} {st:AV} {s t:Str} {p k:Nat} {q:Bool} {e nc:Option AV} {Q:FL→SS→Prop} {E:EP}
theorem CL(hK:c.K=K0 c.w.params)(hd:c.hd=none)(aZ:c.fx=ai)(hc:c.comp=false)(hs:s.length≤100000)(hp:p≤s.length)(hn:(lE s p=="\n")=false)(h:EB c (n+3) ⟨gO x (some (.bool q)) e (some (.str (lE s p))) none,c6 x dx io d p1 p2 st tk s (if p<s.length then p+1 else p) k⟩ (vO.drop 3) Q E):EB c (n+3) ⟨gO x (some (.bool q)) e nc none,c6 x dx io d p1 p2 st tk s p k⟩ vO Q E:=by show ah;left;refine aH (J5 (n:=n) (x:=io) (d:=d) (nl:=.str "\n") (k:=3) hs hp) '1' hK hd (λv C Wb=>?_) (λzz zz h=>h.elim);let hv hC:=eA Wb;subst hv hC;refine⟨[(x,_),(dx,_),(io,_),(d,_),(p1,_),(p2,_)],by k_extra "m.picks",?_⟩;left;rw[hn];repeat(first|((with_reducible change EB _ _ _ [_] _ _);exact h)|k_extra "m.s1")
inductive RS|w|a|q1|q2
def XY:RS→AV| .w=>.str " "| .a=>.str "a"| .q1=>.str "'"| .q2=>.str "\""
theorem jI{t:Str}(h:t.length≤100000):t.length+(⟨#[ch]⟩:Str).length≤ac_:=aab (ab8 h 1) '2'
section
variable{N:SS→Prop} {j:Nat}
theorem CM(hK:c.K=K0 c.w.params)(hd:c.hd=none)(aZ:c.fx=ai)(hc:c.comp=false){e:AV}(h:Q .next ⟨gO x (some (.bool q)) (some e) (some (.str "")) none,c6 x dx io d p1 p2 .none tk s j k⟩):EB c (n+3) ⟨gO x (some (.bool q)) (some e) (some (.str "")) none,c6 x dx io d p1 p2 (.str " ") tk s j k⟩ (vO.drop 3) (au N Q) E:=by show ah;left;exact h
theorem Ky(hK:c.K=K0 c.w.params)(hd:c.hd=none)(aZ:c.fx=ai)(hc:c.comp=false){e:AV}(h:N ⟨gO x (some (.bool q)) (some e) (some (.str ⟨#[97]⟩)) none,c6 x dx io d p1 p2 (.str "a") (.str ⟨#[97]⟩) s j k⟩):EB c (n+3) ⟨gO x (some (.bool q)) (some e) (some (.str ⟨#[97]⟩)) none,c6 x dx io d p1 p2 (.str " ") tk s j k⟩ (vO.drop 3) (au N Q) E:=by show ah;left;exact h
theorem Kz{e:AV}(hK:c.K=K0 c.w.params)(hd:c.hd=none)(aZ:c.fx=ai)(hc:c.comp=false)(h:N ⟨gO x (some (.bool q)) (some e) (some (.str ⟨#[39]⟩)) none,c6 x dx io d p1 p2 (.str "'") tk s j k⟩):EB c (n+3) ⟨gO x (some (.bool q)) (some e) (some (.str ⟨#[39]⟩)) none,c6 x dx io d p1 p2 (.str " ") tk s j k⟩ (vO.drop 3) (au N Q) E:=by show ah;left;exact h
theorem KA{e:AV}(hK:c.K=K0 c.w.params)(hd:c.hd=none)(aZ:c.fx=ai)(hc:c.comp=false)(h:N ⟨gO x (some (.bool q)) (some e) (some (.str ⟨#[40]⟩)) none,c6 x dx io d p1 p2 (.str "a") (.str ⟨#[40]⟩) s j k⟩):EB c (n+3) ⟨gO x (some (.bool q)) (some e) (some (.str ⟨#[40]⟩)) none,c6 x dx io d p1 p2 (.str " ") tk s j k⟩ (vO.drop 3) (au N Q) E:=by show ah;left;exact h
theorem gk{e:AV}{ch:Str}(hK:c.K=K0 c.w.params)(hd:c.hd=none)(aZ:c.fx=ai)(hc:c.comp=false)(h:EB c (n+3) ⟨gO x (some (.bool q)) (some e) (some (.str ch)) none,c6 x dx io d p1 p2 (.str "a") tk s j k⟩ Hy Q E):EB c (n+3) ⟨gO x (some (.bool q)) (some e) (some (.str ch)) none,c6 x dx io d p1 p2 (.str "a") tk s j k⟩ (vO.drop 3) Q E:=by show ah;left;refine⟨aae rfl,λb=>uu (xs:=["a","c"]) (.head _) ?_⟩;repeat(first|((with_reducible change EB _ _ _ _ _ _);refine fY ?_;(repeat(with_reducible refine pq ?_));exact h)|k_extra "m.s1")
theorem CN{e:AV}(hK:c.K=K0 c.w.params)(hd:c.hd=none)(aZ:c.fx=ai)(hc:c.comp=false)(h:Q .next ⟨gO x (some (.bool q)) (some e) (some (.str "")) none,c6 x dx io d p1 p2 .none tk s j k⟩):EB c (n+3) ⟨gO x (some (.bool q)) (some e) (some (.str "")) none,c6 x dx io d p1 p2 (.str "a") tk s j k⟩ Hy (au N Q) E:=by show ah;left;exact h
theorem FG{e:AV}(hK:c.K=K0 c.w.params)(hd:c.hd=none)(aZ:c.fx=ai)(hc:c.comp=false)(h:N ⟨gO x (some (.bool q)) (some e) (some (.str ⟨#[39]⟩)) none,c6 x dx io d p1 p2 (.str "'") tk s j k⟩):EB c (n+3) ⟨gO x (some (.bool q)) (some e) (some (.str ⟨#[39]⟩)) none,c6 x dx io d p1 p2 (.str "a") tk s j k⟩ Hy (au N Q) E:=by show ah;left;exact h
theorem FH{e:AV}(hK:c.K=K0 c.w.params)(hd:c.hd=none)(aZ:c.fx=ai)(hc:c.comp=false)(h:N ⟨gO x (some (.bool q)) (some e) (some (.str ⟨#[34]⟩)) none,c6 x dx io d p1 p2 (.str "\"") tk s j k⟩):EB c (n+3) ⟨gO x (some (.bool q)) (some e) (some (.str ⟨#[34]⟩)) none,c6 x dx io d p1 p2 (.str "a") tk s j k⟩ Hy (au N Q) E:=by show ah;left;exact h
theorem KB{e:AV}(hK:c.K=K0 c.w.params)(hd:c.hd=none)(aZ:c.fx=ai)(hc:c.comp=false)(ht:t.length≤100000)(h:N ⟨gO x (some (.bool q)) (some e) (some (.str ⟨#[97]⟩)) none,c6 x dx io d p1 p2 (.str "a") (.str (t++⟨#[97]⟩)) s j k⟩):EB c (n+3) ⟨gO x (some (.bool q)) (some e) (some (.str ⟨#[97]⟩)) none,c6 x dx io d p1 p2 (.str "a") (.str t) s j k⟩ Hy (au N Q) E:=by show ah;left;show dK (jI ht);left;exact h
theorem zW{e:AV}(hK:c.K=K0 c.w.params)(hd:c.hd=none)(aZ:c.fx=ai)(hc:c.comp=false)(h:N ⟨gO x (some (.bool true)) (some e) (some (.str ⟨#[39]⟩)) none,c6 x dx io d p1 p2 (.str "a") tk s j k⟩):EB c (n+3) ⟨gO x (some (.bool q)) (some e) (some (.str ⟨#[39]⟩)) none,c6 x dx io d p1 p2 (.str "'") tk s j k⟩ (vO.drop 3) (au N Q) E:=by show ah;left;exact h
theorem zX{e:AV}(hK:c.K=K0 c.w.params)(hd:c.hd=none)(aZ:c.fx=ai)(hc:c.comp=false)(h:N ⟨gO x (some (.bool true)) (some e) (some (.str ⟨#[34]⟩)) none,c6 x dx io d p1 p2 (.str "a") tk s j k⟩):EB c (n+3) ⟨gO x (some (.bool q)) (some e) (some (.str ⟨#[34]⟩)) none,c6 x dx io d p1 p2 (.str "\"") tk s j k⟩ (vO.drop 3) (au N Q) E:=by show ah;left;exact h
theorem FJ{e:AV}(hK:c.K=K0 c.w.params)(hd:c.hd=none)(aZ:c.fx=ai)(hc:c.comp=false)(ht:t.length≤100000)(h:N ⟨gO x (some (.bool true)) (some e) (some (.str ⟨#[39]⟩)) none,c6 x dx io d p1 p2 (.str "\"") (.str (t++⟨#[39]⟩)) s j k⟩):EB c (n+3) ⟨gO x (some (.bool q)) (some e) (some (.str ⟨#[39]⟩)) none,c6 x dx io d p1 p2 (.str "\"") (.str t) s j k⟩ (vO.drop 3) (au N Q) E:=by show ah;left;show dK (jI ht);left;exact h
theorem KC{e:AV}(hK:c.K=K0 c.w.params)(hd:c.hd=none)(aZ:c.fx=ai)(hc:c.comp=false)(ht:t.length≤100000)(h:N ⟨gO x (some (.bool q)) (some e) (some (.str ⟨#[44]⟩)) none,c6 x dx io d p1 p2 (.str "a") (.str (t++⟨#[44]⟩)) s j k⟩):EB c (n+3) ⟨gO x (some (.bool q)) (some e) (some (.str ⟨#[44]⟩)) none,c6 x dx io d p1 p2 (.str "a") (.str t) s j k⟩ Hy (au N Q) E:=by show ah;left;show dK (jI ht);left;exact h
theorem KD{e:AV}(hK:c.K=K0 c.w.params)(hd:c.hd=none)(aZ:c.fx=ai)(hc:c.comp=false)(ht:t.length≤100000)(h:N ⟨gO x (some (.bool q)) (some e) (some (.str ⟨#[41]⟩)) none,c6 x dx io d p1 p2 (.str "a") (.str (t++⟨#[41]⟩)) s j k⟩):EB c (n+3) ⟨gO x (some (.bool q)) (some e) (some (.str ⟨#[41]⟩)) none,c6 x dx io d p1 p2 (.str "a") (.str t) s j k⟩ Hy (au N Q) E:=by show ah;left;show dK (jI ht);left;exact h
theorem FK{e:AV}(hK:c.K=K0 c.w.params)(hd:c.hd=none)(aZ:c.fx=ai)(hc:c.comp=false)(ht:t.length≤100000)(hq:(t.length !=0)=true∨q=true)(h:Q .next ⟨gO x (some (.bool q)) (some e) (some (.str ⟨#[32]⟩)) none,c6 x dx io d p1 p2 (.str " ") (.str t) s j k⟩):EB c (n+3) ⟨gO x (some (.bool q)) (some e) (some (.str ⟨#[32]⟩)) none,c6 x dx io d p1 p2 (.str "a") (.str t) s j k⟩ Hy (au N Q) E:=by
 show ah;left;show rR (aab ht '2');cases h0:(t.length !=0)
 ·obtain rfl:=hq.resolve_left (by rw[h0];decide);left;exact h
 left;exact h
theorem FM{e:AV}(hK:c.K=K0 c.w.params)(hd:c.hd=none)(aZ:c.fx=ai)(hc:c.comp=false)(ht:t.length≤100000)(hn:((⟨#[ch]⟩:Str)=="'")=false) (h:N ⟨gO x (some (.bool true)) (some e) (some (.str ⟨#[ch]⟩)) none,c6 x dx io d p1 p2 (.str "'") (.str (t++⟨#[ch]⟩)) s j k⟩):EB c (n+3) ⟨gO x (some (.bool q)) (some e) (some (.str ⟨#[ch]⟩)) none,c6 x dx io d p1 p2 (.str "'") (.str t) s j k⟩ (vO.drop 3) (au N Q) E:=by
 show ah;left;rw[hn];left;cases h1:Bo "\\" ⟨#[ch]⟩
 ·left;show dK (jI ht);left;exact h
 left;show dK (jI ht);left;exact h
end
end
end
section
open PySem.Builtin PySem.Builtin.Str
variable{P:RS→Prop} {r:List Nat} {p:Nat}
def cH:List Nat→RS→Str→Bool→Option (Str×Bool×List Nat×Bool)|[],.w,t,q=>some (t,q,[],true)|[],.a,t,q=>some (t,q,[],true)|[],_,_,_=>none|c::r,.w,t,q=>if c=39 then cH r .q1 t q else if c=97 then cH r .a ⟨#[97]⟩ q else if c=40 then cH r .a ⟨#[40]⟩ q else none|c::r,.a,t,q=>if c=32 then(if(t.length !=0||q)=true then some (t,q,r,false)else none)else if c=39 then cH r .q1 t q else if c=34 then cH r .q2 t q else if c=97 then cH r .a (t++⟨#[97]⟩) q else if c=44 then cH r .a (t++⟨#[44]⟩) q else if c=41 then cH r .a (t++⟨#[41]⟩) q else none|c::r,.q1,t,q=>if c=39 then cH r .a t true else if c=10 then none else cH r .q1 (t++⟨#[c]⟩) true|c::r,.q2,t,q=>if c=34 then cH r .a t true else if c=39 then cH r .q2 (t++⟨#[39]⟩) true else none
@[elab_as_elim]theorem KE {l:List Nat} {st:RS} {u t:Str} {q fin:Bool} (h:cH l st u b=some (t,q,r,fin))(w0:l=[]→u=t→b=q→[]=r→true=fin→P .w) (w1:∀r',l=39::r'→cH r' .q1 u b=some (t,q,r,fin)→P .w) (w2:∀r',l=97::r'→cH r' .a ⟨#[97]⟩ b=some (t,q,r,fin)→P .w) (w3:∀r',l=40::r'→cH r' .a ⟨#[40]⟩ b=some (t,q,r,fin)→P .w)(a0:l=[]→u=t→b=q→[]=r→true=fin→P .a) (a1:∀r',l=32::r'→(u.length !=0||b)=true→u=t→b=q→r'=r→false=fin→P .a) (a2:∀r',l=39::r'→cH r' .q1 u b=some (t,q,r,fin)→P .a) (a3:∀r',l=34::r'→cH r' .q2 u b=some (t,q,r,fin)→P .a)(a4:∀r',l=97::r'→cH r' .a (u++⟨#[97]⟩) b=some (t,q,r,fin)→P .a) (a5:∀r',l=44::r'→cH r' .a (u++⟨#[44]⟩) b=some (t,q,r,fin)→P .a) (a6:∀r',l=41::r'→cH r' .a (u++⟨#[41]⟩) b=some (t,q,r,fin)→P .a)(q1:∀r',l=39::r'→cH r' .a u true=some (t,q,r,fin)→P .q1) (q2:∀c r',l=c::r'→c≠39→c≠10→cH r' .q1 (u++⟨#[c]⟩) true=some (t,q,r,fin)→P .q1)(q3:∀r',l=34::r'→cH r' .a u true=some (t,q,r,fin)→P .q2) (q4:∀r',l=39::r'→cH r' .q2 (u++⟨#[39]⟩) true=some (t,q,r,fin)→P .q2):P st:=by
 have no:∀{Q:Prop},(none:Option (Str×Bool×List Nat×Bool))=some (t,q,r,fin)→Q:=λe=>nomatch e;have sm:∀{Q:Prop} {x:Str} {y:Bool} {z:List Nat} {v:Bool},some (x,y,z,v)=some (t,q,r,fin)→(x=t→y=q→z=r→v=fin→Q)→Q:=λe k=>k (congrArg (λx=>x.1) (aaJ e)) (congrArg (λx=>x.2.1) (aaJ e)) (congrArg (λx=>x.2.2.1) (aaJ e)) (congrArg (λx=>x.2.2.2) (aaJ e));have tf:∀{Q:Prop} {p:Prop} [Decidable p] {x y:Option (Str×Bool×List Nat×Bool)},(if p then x else y)=some (t,q,r,fin)→(p→x=some (t,q,r,fin)→Q)→(¬p→y=some (t,q,r,fin)→Q)→Q:=λ{Q p d x y} e k1 k2=>(Decidable.em p).elim (λg=>k1 g ((if_pos g).symm.trans e)) λg=>k2 g ((if_neg g).symm.trans e);cases l with
 |nil=>cases st with|w=>exact sm h (w0 rfl)|a=>exact sm h (a0 rfl)|_=>exact no h
 |cons c l=>have cl:∀{k:Nat},c=k→c::l=k::l:=λe=>e▸rfl;cases st with|w=>exact tf h (λe=>w1 _ (cl e)) λ_ h=>tf h (λe=>w2 _ (cl e)) λ_ h=>tf h (λe=>w3 _ (cl e)) λ_=>no|a=>exact tf h (λe h=>tf h (λg h=>sm h (a1 _ (cl e) g)) λ_=>no) λ_ h=>tf h (λe=>a2 _ (cl e)) λ_ h=>tf h (λe=>a3 _ (cl e)) λ_ h=>tf h (λe=>a4 _ (cl e)) λ_ h=>tf h (λe=>a5 _ (cl e)) λ_ h=>tf h (λe=>a6 _ (cl e)) λ_=>no|q1=>exact tf h (λe=>q1 _ (cl e)) λg h=>tf h (λ_=>no) λg2=>q2 _ _ rfl g g2|q2=>exact tf h (λe=>q3 _ (cl e)) λ_ h=>tf h (λe=>q4 _ (cl e)) λ_=>no
theorem Hz{a b:Nat}(h:a≠b):((⟨#[a]⟩:Str)==⟨#[b]⟩)=false:=by simp only[beq_eq_false_iff_ne,ne_eq,Str.mk.injEq];intro q;exact h (by simpa using q)
theorem mP{s:Str}{c:Nat}(h:s.cps.toList.drop p=c::r):lE s p=⟨#[c]⟩∧p<s.length∧s.cps.toList.drop (p+1)=r:=by refine⟨by unfold lE;rw[h];rfl,?_,by rw[←afx,h];rfl⟩;let q:=acT;rw[adw (by rw[aaQ];exact q)]at h;cases h
theorem CP{s:Str}(h:s.cps.toList.drop p=[]):lE s p="":=by unfold lE;rw[h];kernel_rfl
theorem FO(t:Str)(c:Nat):(t++(⟨#[c]⟩:Str)).length=t.length+1:=by change(t.cps++ #[c]).size=_;rw[aet];rfl
section
variable{c:Cx} {n:Nat} {x dx io d p1 p2:Addr} {st:AV} {s t:Str} {i k:Nat} {q:Bool} {e nc:Option AV} {Q:FL→SS→Prop} {E:EP}
theorem cx(hK:c.K=K0 c.w.params)(hd:c.hd=none)(aZ:c.fx=ai)(hc:c.comp=false)(hs:s.length≤10000)(hr:s.cps.toList.drop i=ch::r)(hn:ch≠10)(h:EB c (n+3) ⟨gO x (some (.bool q)) e (some (.str ⟨#[ch]⟩)) none,c6 x dx io d p1 p2 st tk s (i+1) k⟩ (vO.drop 3) Q E):EB c (n+3) ⟨gO x (some (.bool q)) e nc none,c6 x dx io d p1 p2 st tk s i k⟩ vO Q E:=by let h1 h2 z2:=pX (mP hr);show CL hK hd aZ hc (aab hs '2') (aaN h2) (by rw[h1];exact Hz hn);rw[h1,if_pos h2];exact h
theorem tC(hK:c.K=K0 c.w.params)(hd:c.hd=none)(aZ:c.fx=ai)(hc:c.comp=false)(hs:s.length≤10000)(hi:i≤s.length)(hr:s.cps.toList.drop i=[])(h:EB c (n+3) ⟨gO x (some (.bool q)) e (some (.str "")) none,c6 x dx io d p1 p2 st tk s i k⟩ (vO.drop 3) Q E):EB c (n+3) ⟨gO x (some (.bool q)) e nc none,c6 x dx io d p1 p2 st tk s i k⟩ vO Q E:=by
 have h2:s.length≤i:=by have:=congrArg aaV hr;rw[aa9,aaQ]at this;change s.cps.size≤i;simp at this;exact ab5 this
 have h1:=CP hr;show CL hK hd aZ hc (aab hs '2') hi (by rw[h1];kernel_rfl);rw[h1,if_neg (acA h2)];exact h
theorem yl{E':EP}{ee:AV}(hK:c.K=K0 c.w.params)(hd:c.hd=none)(aZ:c.fx=ai)(hc:c.comp=false)(h:∀r,Q' (.ret (if(!q&&t=="")=true then .none else .str t)) ⟨gO x (some (.bool q)) (some ee) nc r,c6 x dx io d p1 p2 st (.str "") s i k⟩):EB c (n+3) ⟨gO x (some (.bool q)) (some ee) nc none,c6 x dx io d p1 p2 st (.str t) s i k⟩ (cF.drop 3) Q' E':=by
 show ah;cases q;cases ht:(t=="")
 ·left;rw[ht];left;have:=h (some (.str t));rw[ht]at this;exact this
 ·left;rw[ht];left;have:=h (some .none);rw[ht]at this;exact this
 left;exact h (some (.str t))
end
theorem lM{n:Nat}{x dx io d p1 p2:Addr}{s:Str}{k:Nat}{t:Str}{q fin:Bool}(hs:s.length≤10000)(hp:p≤s.length)(h:cH (s.cps.toList.drop p) .w "" false=some (t,q,r,fin)):FC K0 (n+4) 848 [.ref x] [] (c6 x dx io d p1 p2 (.str " ") (.str "") s p k) (λv C=>v=(if(!q&&t=="")=true then .none else .str t)∧C=c6 x dx io d p1 p2 (if fin=true then .none else .str " ") (.str "") s (s.length-r.length) k) (λzz zz=>False):=by
 show aB (fx:=ai) fy fw fz;intro c Q' E' hK hd aZ hc ay aL bz;show ah;left;show gy (λm S=>∃(i:Nat) (st:RS) (u:Str) (b:Bool) (nc:Option AV),S=⟨gO x (some (.bool b)) (some (.str " ")) nc none,c6 x dx io d p1 p2 (XY st) (.str u) s i k⟩∧i≤s.length∧u.length≤i∧cH (s.cps.toList.drop i) st u b=some (t,q,r,fin)∧m=s.length-i) (s.length-p) (Iz p .w ("") false none ⟨rfl,hp,aaD _,h,rfl⟩);intro m S1 N Wc;let i st u b nc r5 hi hu Wd r9:=oz Wc;subst r5;subst r9;intro hN;refine ph (ix (bj ?_));show bA rfl;have up:∀{ch:Nat} {r':List Nat} (kL:RS) (u':Str) (b':Bool) (LA:Option AV),s.cps.toList.drop i=ch::r'→u'.length≤i+1→cH r' kL u' b'=some (t,q,r,fin)→N ⟨gO x (some (.bool b')) (some (.str " ")) LA none,c6 x dx io d p1 p2 (XY kL) (.str u') s (i+1) k⟩:=λkL u' b' LA hr h2 h3=>pX (mP hr) λzz h1 h4=>hN (s.length-(i+1)) _ (acN h1 (aby _)) (Iz (i+1) kL u' b' LA ⟨rfl,h1,h2,h4.symm▸h3,rfl⟩);have ul:u.length≤100000:=by exact aab hu (aab hi (aab hs (aae rfl)))
 have post:∀(b' f':Bool) (LA:Option AV) (j:Nat),u=t→b'=q→f'=fin→j=s.length-r.length→EB c (n+3) ⟨gO x (some (.bool b')) (some (.str " ")) LA none,c6 x dx io d p1 p2 (if f'=true then .none else .str " ") (.str u) s j k⟩ (cF.drop 3) Q' E':=by rintro b' f' LA j rfl rfl rfl rfl;let r':=yl hK hd aZ hc;exact ay _ _ (c6 x dx io d p1 p2 _ (.str "") s _ k) _ '1' ⟨rfl,rfl⟩
 have hl:s.cps.toList.drop i=[]→[]=r→i=s.length-r.length:=λe e2=>by rw[←e2];exact aaI hi (aaQ▸List.drop_eq_nil_iff.mp e)
 have al:∀z,(u++(⟨#[z]⟩:Str)).length≤i+1:=λz=>by rw[FO];exact acC hu
 have QK:=ab1 hu;have hm:∀{r':List Nat},s.cps.toList.drop i=32::r'→i+1=s.length-r'.length:=λ{r'} e=>by have:=congrArg aaV e;rw[aa9,aaQ,aaF]at this;have h2:i<s.cps.size:=(mP e).2.1;change i+1=s.cps.size-r'.length;exact M1 (by assumption)
 refine KE Wd (λhr e1 e2 e3 e4=>tC hK hd aZ hc hs hi hr (CM hK hd aZ hc (post _ _ _ _ e1 e2 e4 (hl hr e3)))) (λr' hr h=>cx hK hd aZ hc hs hr '2' (Kz hK hd aZ hc (up .q1 u b _ hr QK h))) (λr' hr h=>cx hK hd aZ hc hs hr '2' (Ky hK hd aZ hc (up .a _ b _ hr (abm 1 _) h))) (λr' hr h=>cx hK hd aZ hc hs hr '2' (KA hK hd aZ hc (up .a _ b _ hr (abm 1 _) h))) (λhr e1 e2 e3 e4=>tC hK hd aZ hc hs hi hr (gk hK hd aZ hc (CN hK hd aZ hc (post _ _ _ _ e1 e2 e4 (hl hr e3))))) (λr' hr g e1 e2 e3 e4=>cx hK hd aZ hc hs hr '2' (gk hK hd aZ hc (FK hK hd aZ hc ul (Bool.or_eq_true_iff.mp g) (post _ _ _ _ e1 e2 e4 (e3▸hm hr))))) (λr' hr h=>cx hK hd aZ hc hs hr '2' (gk hK hd aZ hc (FG hK hd aZ hc (up .q1 u b _ hr QK h)))) (λr' hr h=>cx hK hd aZ hc hs hr '2' (gk hK hd aZ hc (FH hK hd aZ hc (up .q2 u b _ hr QK h)))) (λr' hr h=>cx hK hd aZ hc hs hr '2' (gk hK hd aZ hc (KB hK hd aZ hc ul (up .a _ b _ hr (al _) h)))) (λr' hr h=>cx hK hd aZ hc hs hr '2' (gk hK hd aZ hc (KC hK hd aZ hc ul (up .a _ b _ hr (al _) h)))) (λr' hr h=>cx hK hd aZ hc hs hr '2' (gk hK hd aZ hc (KD hK hd aZ hc ul (up .a _ b _ hr (al _) h)))) (λr' hr h=>cx hK hd aZ hc hs hr '2' (zW hK hd aZ hc (up .a u true _ hr QK h))) (λch r' hr g1 g2 h=>cx hK hd aZ hc hs hr g2 (FM hK hd aZ hc ul (Hz g1) (up .q1 _ true _ hr (al _) h))) (λr' hr h=>cx hK hd aZ hc hs hr '2' (zX hK hd aZ hc (up .a u true _ hr QK h))) (λr' hr h=>cx hK hd aZ hc hs hr '2' (FJ hK hd aZ hc ul (up .q2 _ true _ hr (al _) h)))
end
section
open PySem.Builtin PySem.Builtin.Str
theorem vu{x io p1 p2:Addr}(hs:s.length≤10000):FC K0 (n+4) 848 [.ref x] [] (c6 x dx io d p1 p2 .none (.str "") s s.length k) (λv C=>v= .none∧C=c6 x dx io d p1 p2 .none (.str "") s s.length k) (λzz zz=>False):=by show aB (fx:=ai) fy fw fz;intro c Q' E' hK hd aZ hc ay aL bz;show ah;left;show gy (λm S=>m=0∧S=⟨gO x (some (.bool false)) (some (.str " ")) none none,c6 x dx io d p1 p2 .none (.str "") s s.length k⟩) 0 ⟨rfl,rfl⟩;intro m S1 N JP;let r0 r1:=eA JP;subst r0;subst r1;intro hN;refine ph (ix (bj ?_));show bA rfl;show tC hK hd aZ hc hs (aak _) (adw (by rw[aaQ];exact aak _));have post:=yl (c:=c) (n:=n) (x:=x) (dx:=dx) (io:=io) (d:=d) (p1:=p1) (p2:=p2) (st:=.none) (s:=s) (t:="") (i:=s.length) (k:=k) (q:=false) (nc:=some (.str "")) (Q':=Q') (E':=E') (ee:=.str " ") hK hd aZ hc λr'=>ay _ _ (c6 x dx io d p1 p2 _ (.str "") s _ k) _ '1' ⟨rfl,rfl⟩;show ah;repeat(first|((with_reducible change EB _ _ _ (_::_::_::_::_::_) _ _);exact post)|k_extra "m.s1")
def vw:Option Str→AV|none=>.none|some t=>.str t
theorem nj{m:Nat}{x io p1 p2:Addr}{st:AV}{p p':Nat}(F:FC K0 m 848 [.ref x] [] (c6 x dx io d p1 p2 st (.str "") s p k) (λv C=>v=vw v0∧C=c6 x dx io d p1 p2 kL (.str "") s p' k) (λzz zz=>False)):FC K0 (m+1) 841 [.ref x] [] (c6 x dx io d p1 p2 st (.str "") s p k) (λv C=>v=vw v0∧C=c6 x dx io d p1 p2 kL (.str "") s p' k) (λzz zz=>False):=by show aB (fx:=cD) kz ky kB;intro c Q' E' hK hd aZ hc ay aL bz;show ah;left;show uG ⋯;left;refine aH F '1' hK hd (λv C We=>?_) (λzz zz h=>h.elim);let hv hC:=eA We;subst hv hC;show PL.go (l:=c6 x dx io d p1 p2 kL (.str "") s p' k) '1';left;show gy (λj S=>j=0∧S=⟨[("self",some (.ref x)),("tok",none),("raw",some (vw v0)),("spec",none),("newfile",none),("newstream",none)],c6 x dx io d p1 p2 kL (.str "") s p' k⟩) 0 ⟨rfl,rfl⟩;intro j S1 N Wf;let r0 r1:=eA Wf;subst r0;subst r1;intro hN;cases v0 with|none=>dsimp only[vw]at ay⊢;left;show uG ⋯;left;exact ay _ _ (c6 x dx io d p1 p2 _ (.str "") s _ k) _ '1' ⟨rfl,rfl⟩|some t=>dsimp only[vw]at ay⊢;left;exact ay _ _ (c6 x dx io d p1 p2 _ (.str "") s _ k) _ '1' ⟨rfl,rfl⟩
end
section
open PySem.Builtin PySem.Builtin.Str
variable{x:Addr}
theorem KG:FC K0 (n+1) 870 [.ref x] [] [] (λv C=>v= .ref x∧C=[]) (λzz zz=>False):=by show aB (fx:=c9) le lc ly;intro c Q' E' hK hd aZ hc ay aL bz;show ah;left;exact ay _ _ [] _ .nil ⟨rfl,rfl⟩
theorem w_next{m:Nat}{io p1 p2:Addr}{st:AV}{p p':Nat}(F:FC K0 m 841 [.ref x] [] (c6 x dx io d p1 p2 st (.str "") s p k) (λv C=>v=vw v0∧C=c6 x dx io d p1 p2 kL (.str "") s p' k) (λzz zz=>False)):FC K0 (m+1) 877 [.ref x] [] (c6 x dx io d p1 p2 st (.str "") s p k) (λv C=>∃t,v0=some t∧v= .str t∧C=c6 x dx io d p1 p2 kL (.str "") s p' k) (λe C=>v0=none∧e= .type "StopIteration"∧C=c6 x dx io d p1 p2 kL (.str "") s p' k):=by show aB (fx:=c_) lh lf lB;intro c Q' E' hK hd aZ hc ay aL bz;show ah;left;refine aH F '1' hK hd (λv C Wg=>?_) (λzz zz h=>h.elim);let hv hC:=eA Wg;subst hv hC;show PL.go (l:=c6 x dx io d p1 p2 kL (.str "") s p' k) '1';cases v0 with|none=>dsimp only[vw];left;show qf hd;k_extra "m.name";exact⟨rfl,bz _ _ (c6 x dx io d p1 p2 _ (.str "") s _ k) _ '1' ⟨rfl,rfl,rfl⟩⟩|some t=>dsimp only[vw];left;exact ay _ _ (c6 x dx io d p1 p2 _ (.str "") s _ k) _ '1' ⟨t,rfl,rfl,rfl⟩
end
section
open PySem.Builtin PySem.Builtin.Str
theorem CR:∀(s:aas) (P:aao),(K0 P).In s.heap→∀pos kws,pos.map ab=[a0]→kws.map (λp=>(p.1,ab p.2))=[]→∃binds,ac9 s (pE P) ⟨pos,kws⟩ binds∧e7 lj binds [("s",some a0),("comments",some (.bool false)),("posix",some (.bool true)),("lex",none)]:=by intro s P fg pos kws hp hk;obtain rfl:=kws_nil hk;let v0 r1 r2:=ak (cP hp);subst r1;subst r2;refine⟨[("s",v0),("comments",.bool false),("posix",.bool true)],λM A E Q hq=>(acf (M:=M) fg (by kernel_rfl:peek (K0 P) ⟨M.prog,M.w.params⟩ (adb (pE P) ⟨[v0],[]⟩)=some ([("s",v0),("comments",.bool false),("posix",.bool true)]:List (Str×Value)))).here hq,dB '3' '3' '3'⟩
theorem CS{E:EP}(hK:c.K=K0 c.w.params)(hd:c.hd=none)(h:∀x dx io d p1 p2,Q (.ref x) ⟨S.loc,[(x,.inst 880 dx),(dx,.dict (Kv (.ref io) (.str " ") (.int 1) (.str "") (.ref p1) (.ref p2) (.str "#") (.bool false)) 19),(io,.inst 745 d),(d,.dict (mI (.str "\n") (.str s) (.int 0)) 3),(p1,.raw vL),(p2,.raw vL)]++S.cells⟩):Hf c (n+5) S (.ref 880) [.str s] [("posix",.bool true)] Q E:=λv vs kws hv bx hk=>by obtain rfl:=aj hv;refine kn (K0:=K0) (m:=n+4) (C:=880) (fI:=804) (by rw[hK];kernel_rfl) (by rw[hK];kernel_rfl) (by rw[hK];kernel_rfl) hK hd (λx dx=>(FC.frame (C:=[(x,.inst 880 dx),(dx,.dict [] 0)]) (D:=S.cells) (wZ (n:=n) (x:=x) (dx:=dx) (s:=s))).mono (aak _) (λzz zz z=>z) λzz zz h8=>ak h8 λz0 z z2=>z) ?_ ?_ bx hk (aak _);intro x dx v C' Wh;obtain⟨C1,⟨io,d,p1,p2,h1,h2⟩,h3⟩:=Wh;subst h2 h3;exact⟨h1,h x dx io d p1 p2⟩;exact λzz zz zz zz z=>z.elim
end
section
open PySem.Builtin PySem.Builtin.Str
variable{p p':Nat} {σ:Nat×Bool}
inductive Rd(s:Str):Nat×Bool→List Str→Prop
 |done:Rd s (s.length,true) []
 |stop:∀{p r fin},p≤s.length→cH (s.cps.toList.drop p) .w "" false=some (("":Str),false,r,fin)→Rd s (p,false) []
 |more:∀{p t q r fin ys},p≤s.length→cH (s.cps.toList.drop p) .w "" false=some (t,q,r,fin)→(!q&&t=="")=false→Rd s (s.length-r.length,fin) ys→Rd s (p,false) (t::ys)
abbrev QL(x dx io d p1 p2:Addr)(s:Str)(k:Nat)(σ:Nat×Bool):Cells:=c6 x dx io d p1 p2 (if σ.2=true then .none else .str " ") (.str "") s σ.1 k
def CT(n:Nat)(x dx io d p1 p2:Addr)(s:Str)(k:Nat)(σ σ':Nat×Bool)(v:Str):Prop:=FC K0 (n+6) 877 [.ref x] [] (QL x dx io d p1 p2 s k σ) (λr C=>r= .str v∧C=QL x dx io d p1 p2 s k σ') (λzz zz=>False)
def CU(n:Nat)(x dx io d p1 p2:Addr)(s:Str)(k:Nat)(σ σ':Nat×Bool):Prop:=FC K0 (n+6) 877 [.ref x] [] (QL x dx io d p1 p2 s k σ) (λzz zz=>False) (λe C=>e= .type "StopIteration"∧C=QL x dx io d p1 p2 s k σ')
section
variable{n:Nat} {x dx io d p1 p2:Addr} {s:Str} {k:Nat}
theorem rh{st:AV}(F:FC K0 (n+4) 848 [.ref x] [] (c6 x dx io d p1 p2 st (.str "") s p k) (λv C=>v= .none∧C=c6 x dx io d p1 p2 kL (.str "") s p' k) (λzz zz=>False)):FC K0 (n+6) 877 [.ref x] [] (c6 x dx io d p1 p2 st (.str "") s p k) (λzz zz=>False) (λe C=>e= .type "StopIteration"∧C=c6 x dx io d p1 p2 kL (.str "") s p' k):=(w_next (v0:=none) (nj (v0:=none) F)).mono (aak _) (λzz zz Jb=>by refine ak Jb λz0 h z2=>?_;exact nomatch h) λzz zz h8=>eA h8 λz0 h=>h
theorem zY{st:AV}{t:Str}(F:FC K0 (n+4) 848 [.ref x] [] (c6 x dx io d p1 p2 st (.str "") s p k) (λv C=>v= .str t∧C=c6 x dx io d p1 p2 kL (.str "") s p' k) (λzz zz=>False)):FC K0 (n+6) 877 [.ref x] [] (c6 x dx io d p1 p2 st (.str "") s p k) (λr C=>r= .str t∧C=c6 x dx io d p1 p2 kL (.str "") s p' k) (λzz zz=>False):=(w_next (v0:=some t) (nj (v0:=some t) F)).mono (aak _) (λzz zz Wi=>by refine ak Wi λt' h h2=>?_;cases h;exact h2) λzz zz h8=>eA h8 λh z1=>nomatch h
theorem Rd.run{ys:List Str}(hs:s.length≤10000)(h:Rd s σ ys):∃τ:Nat→Nat×Bool,τ 0=σ∧(∀j v,ys[j]? =some v→CT n x dx io d p1 p2 s k (τ j) (τ (j+1)) v)∧CU n x dx io d p1 p2 s k (τ ys.length) (τ (ys.length+1)):=by induction h with|done=>exact⟨λzz=>(s.length,true),rfl,λj v hv=>by simp at hv,rh (vu hs)⟩| @stop p r fin hp ht=>refine⟨λj=>match j with|0=>(p,false)|_+1=>(s.length-r.length,fin),rfl,λj v hv=>by simp at hv,?_⟩;exact rh ((lM hs hp ht).mono (aak _) (λv C Jc=>by refine eA Jc λh1 h2=>?_;exact⟨h1,h2⟩) λzz zz h=>h)| @more p t q r fin ys hp ht hq _ ih=>let τ h0 h1 h2:=bN ih;refine⟨λj=>match j with|0=>(p,false)|j+1=>τ j,rfl,λj v hv=>?_,h2⟩;cases j with|zero=>obtain rfl:t=v:=(by simpa using hv);change CT n x dx io d p1 p2 s k (p,false) (τ 0) t;rw[h0];exact zY ((lM hs hp ht).mono (aak _) (λv C Jd=>by refine eA Jd λh1 h2=>?_;exact⟨by rw[h1,hq];rfl,h2⟩) λzz zz h=>h)|succ j=>exact h1 j v (by simpa using hv)
end
end
section
open PySem.Builtin PySem.Builtin.Str
theorem FP(P:aao):BN (K0 P) 880 870 877:=⟨by kernel_rfl,by kernel_rfl,by kernel_rfl,by kernel_rfl,by kernel_rfl,by kernel_rfl⟩
theorem FQ{ys:List Str}(hs:s.length≤10000)(hy:ys.length≤1000)(h:Rd s (0,false) ys):FC K0 (n+10) 892 [.str s] [] [] (λv C=>∃l,v= .ref l∧C=[(l,.list (ys.map .str))]) (λzz zz=>False):=by show aB (fx:=lj) Ca B_ CR;intro c Q' E' hK hd aZ hc ay aL bz;show ah;left;show zj;k_extra "m.name";refine⟨by k_extra "m.keep",?_⟩;left;let x dx io d p1 p2:=CS hK hd;dsimp only[aaT,aa0];left;let τ h0 h1 h2:=bN (Rd.run (n:=n) (x:=x) (dx:=dx) (io:=io) (d:=d) (p1:=p1) (p2:=p2) (k:=19) hs h);refine qg (K0:=K0) (m:=n+6) (C:=880) (d:=dx) (fI:=870) (fN:=877) (ys:=ys.map .str) (Cf:=λj=>QL x dx io d p1 p2 s 19 (τ j)) (D:=[]) (hK▸FP c.w.params) hK hd (KG (n:=n+5)) (λj v hv=>?_) ?_ (λj=>⟨.head _,_,_,.tail _ (.head _)⟩) (by rw[aaa];exact hy) ?_ (λl=>?_) (by exact aak _);rw[aag]at hv;let w hw r2:=ak (aaq.mp hv);subst r2;exact h1 j w hw;rw[aaa];exact h2;rw[h0];rfl;exact ay _ _ [(l,_)] _ '1' ⟨l,rfl,rfl⟩
end
section
open PySem.Builtin PySem.Builtin.Str
theorem pB.of(h:tab.map (λp=>(c.env.kindOf p.1,c.env.cells.lookup p.1))=tab.map λp=>(some .cell,some p.2)):pB c tab:=λp hp=>by have:=pD h p hp;exact⟨congrArg aes this,congrArg afg this⟩
theorem ew.of(h:tab.map (λp=>(((c.env.kindOf p.1==some .cell||c.env.kindOf p.1==some .free),((p.1==("__debug__":Str))||(p.1==("__classdict__":Str)))),c.env.cells.lookup p.1))=tab.map λp=>((true,false),some p.2)):ew c tab:=λp hp=>by have:=pD h p hp;refine⟨?_,congrArg afg this,congrArg (λz=>z.1.2) this⟩;simpa using(congrArg (λz=>z.1.1) this)
theorem ew.ym{e:Env}{cl:List (Str×Addr)}{gl:List (Str×Value)}(he:c.env=e)(h:tab.map (λp=>((((aiK scope cl 0 e).kindOf p.1==some .cell||(aiK scope cl 0 e).kindOf p.1==some .free),((p.1==("__debug__":Str))||(p.1==("__classdict__":Str)))),cl.lookup p.1))=tab.map λp=>((true,false),some p.2)):ew (c.inner scope cl gl m L) tab:=by subst he;exact ew.of h
def w4:List Str:=["a","(",")","\"","\\","'",""]
def FR(x:Int):Str:=w4.getD (x%7).toNat ""++w4.getD (x/7%7).toNat ""
def ja(xs:List Int):List Str:=(xs.take 12).map FR
def DA{α:Type}(l:List α)(k:Nat):List α:=(l.drop (3*k)).take 3
def gm{α:Type}(l:List α):List (List α):=(abu ((l.length+2)/3)).map (DA l)
theorem vx{a:Addr×AO}{L:Cells}:∀P:Cells,jq a (P++a::L) (P++L):=by intro l0;induction l0 with|nil=>exact .head|cons p P ih=>exact .tail (ih)
theorem CV{L:Cells}:∀C:Cells,aq C (C.reverse++L) L:=by intro l0;induction l0 with|nil=>exact .nil|cons a C ih=>rw[ah2,aaw];exact .cons (vx _) (ih)
def QM(l:Addr)(xs:List AV)(h:Heap):Prop:=∃vs,h.IsList l vs∧vs.toList.map ab=xs
theorem KH{xs:List Int}(hz:xs.length≤1000):∀c:Cx,QM l (xs.map .int) c.base→B0 c K0 (n+2) 912 [.ref l] [] [] (λv C=>∃o rs,v= .ref o∧rs.map (λx=>x.2)=gm (ja xs)∧C=(o,.list (bv rs))::bL rs) (λe C=>False):=by
 show FC.B1 (QM l (xs.map .int)) (fx:=bJ) tn sF tu;intro c Q' E' hB hK hd aZ hc bl ay aL bz;have ht:pB c [("pieces",c.L+1+0),("words",c.L+1+1)]:=pB.of (by rw[bl];kernel_rfl);have kF:ew c [("pieces",c.L+1+0),("words",c.L+1+1)]:=ew.of (by rw[bl];kernel_rfl);have EZ:∀scope,aeO scope c.env=aeO scope (envX bJ.cn bJ.cs c.L bJ.a bJ.cd (aco (c.L+1) bJ.cs.names [])):=λscope=>by rw[bl]
 change EB c (n+1) ⟨[("script",some (.ref l))],[(c.L+1+0,.cell none),(c.L+1+1,.cell none)]⟩ _ _ _;generalize hb:c.L+1+1=cw at ht kF⊢;generalize ha:c.L+1+0=cp at ht kF⊢;refine ah (q0 ht .head ?_);symm;refine⟨aae rfl,λo=>?_⟩;refine ba _ _ ⟨.tail .head,?_⟩;refine ah (q0 ht (.tail .head) (fD (xs:=["x"]) (cl:=[("pieces",cp)]) (gl:=[]) ⟨by rw[EZ,←ha];kernel_rfl,by with_unfolding_all decide,by with_unfolding_all rfl,by with_unfolding_all decide,by with_unfolding_all decide,by decide,λp hp=>nomatch hp⟩ ?_) (by rw[bl];kernel_rfl));show kR;k_extra "m.name";refine jA (iB (oG (p4 l _ none (some 12) ⟨rfl,λX s R=>ak hB λvs h1 h2=>⟨vs,ak h1 λo g1 g2=>⟨o,R.stays _ _ g1,g2⟩,h2⟩,rfl,rfl,by rw[aaa];exact aab hz '2',λsl=>?_⟩)));have e1:pick (xs.map AV.int) none (some 12)=(xs.take 12).map .int:=by rw[aeT];exact rg _ 12
 rw[e1];generalize Dv:xs.take 12=ys;have QN:ys.length≤12:=by rw[←Dv];exact ad2 ..
 refine CQ.go (P:=aQ sl) (λu hu=>cJ (.head _) hu) d5 λD m L=>LP.loop rfl eR (ys.map .int) (λi S=>∃x,S=⟨[("x",x)],(D,.list (((ys.take i).map FR).map .str))::(sl,.list (ys.map .int))::(o,.list (w4.map .str))::(cp,.cell (some (.ref o)))::(cw,.cell none)::[]⟩) ⟨none,rfl⟩ ?_ ?_
 ·intro i y S1 hx;revert S1;let x0:=AZ;have rW:=hx;rw[aag]at rW;let x Lr r2:=ak (aaq.mp rW);subst r2;refine⟨cM (.tail _ (.head _)) hx,cA ⋯ (iC ?_)⟩;rw[if_pos rfl];refine .inl ⟨rfl,?_⟩;have RQ:∀gl m L,ew (c.inner {kind:=ahG,names:=[(".0",aeB),("x",aeB),("pieces",aiU)],isGenerator:=false,isCoroutine:=false} [("pieces",cp)] gl m L) [("pieces",cp)]:=λgl m L=>ew.ym bl '3';have hp:∀z:Int,∃w,w4[(z%7).toNat]? =some w∧w4.getD (z%7).toNat ""=w∧w.length≤1:=(by intro z;have h7:(z%7).toNat<7:=(by exact Gn);generalize(z%7).toNat=k at h7;have ma:∀k<7,∃w,w4[k]? =some w∧w4.getD k ""=w∧w.length≤1:=(by intro k hk;match k,hk with|0,_=>exact⟨_,rfl,rfl,by decide⟩|1,_=>exact⟨_,rfl,rfl,by decide⟩|2,_=>exact⟨_,rfl,rfl,by decide⟩|3,_=>exact⟨_,rfl,rfl,by decide⟩|4,_=>exact⟨_,rfl,rfl,by decide⟩|5,_=>exact⟨_,rfl,rfl,by decide⟩|6,_=>exact⟨_,rfl,rfl,by decide⟩);exact ma k h7);have hf:∀z:Int,aiF z 7=(((z%7).toNat:Nat):Int):=λz=>(by rw[adT _ '2'];exact(ahc (aip _ '2')).symm);refine BC (d6 (bP (RQ _ _ _) .head ⋯ ?_));symm;show iy '2';let w1 h1 ZT l1:=bN (hp x);let w2 h2 IS l2:=bN (hp (x/7));rw[hf];refine⟨ty_list ⋯,d4 (xs:=w4.map .str) (x:=.str w1) '0' (by rw[aag,h1];rfl) '2' ?_⟩;refine d6 (bP (RQ _ _ _) .head ⋯ ?_);symm;show uF '2' (agy '2');symm;show iy '2';rw[Int.fdiv_eq_ediv_of_nonneg _ '2',hf];refine⟨ty_list ⋯,d4 (xs:=w4.map .str) (x:=.str w2) '0' (by rw[aag,h2];rfl) '2' ?_⟩;show cz (aab (aam l1 l2) '2');refine ba (((ys.take i).map FR).map .str) _ ⟨.head,?_,some (.int x),?_⟩;rw[aaa,aaa];exact aab (abh _ _) (aab QN '2');have:ys.take (i+1)=ys.take i++[x]:=(by rw[aaK,Lr];rfl);rw[this,aaj,aaj,ahH,(by unfold FR;rw[ZT,IS]:FR x=w1++w2)]
 let x0:=AZ;rw[aeT,(by rw[abd];simp:(ys.map FR).take (ys.map AV.int).length=ys.map FR)];refine⟨cN (.tail _ (.head _)) hd,_,_,.tail (.tail (.tail (.tail .head))),?_⟩;symm;show fD (xs:=["k"]) (cl:=[("words",cw)]) (gl:=[]) ⟨by rw[EZ,←hb];kernel_rfl,by with_unfolding_all decide,by with_unfolding_all rfl,by with_unfolding_all decide,by with_unfolding_all decide,by decide,λp hp=>nomatch hp⟩;symm;generalize p3:ys.map FR=ws;have FS:ws.length≤12:=by rw[←p3,aaa];exact QN
 show bP kF (.tail .head) ⋯;symm;show bY '0' (by rw[aaa];exact aab FS '2');rw[aaa];symm;let r:=zA '2' (agy '2');have hk:ab_ 0 (ws.length:Int) 3=(((ws.length+2)/3:Nat):Int):=by unfold ab_;rw[if_pos '2'];split<;>lia
 have Tu:acO 0 (ws.length:Int) 3=true:=by unfold acO;rw[hk];simp[Builtin.Range.rangeFitsLong];exact Mz FS
 generalize Wj:(ws.length+2)/3=kk at hk;refine CQ.go (P:=mW 0 3 kk) (λu hu=>n5 (.head _) hk Tu hu) n9 λD2 m2 L2=>LP.loop rfl eR ((abu kk).map λi:Nat=>AV.int (0+(i:Int)*3)) (λ(i:Nat) (S:SS)=>∃(k0:Option AV) (rs:Fw),S=⟨[("k",k0)],(bL rs).reverse++((D2,.list (bv rs))::(r,.obj (fA 0 (ws.length:Int) 3))::(D,.list (ws.map .str))::(sl,.list (ys.map .int))::(o,.list (w4.map .str))::(cp,.cell (some (.ref o)))::(cw,.cell (some (.ref D)))::[]:Cells)⟩∧rs.map (λx=>x.2)=(abu i).map (DA ws)) (ba none [] ⟨rfl,rfl⟩) ?_ ?_
 ·intro i y S2 hx;revert S2;let k0 rs tD:=gt;have hi:i<kk:=(by have:=(aav.mp hx).1;simpa using this);rw[aag,acp hi]at hx;obtain rfl:AV.int (0+(i:Int)*3)=y:=(by simpa using hx);refine⟨n6 hi rfl,cA ⋯ (iC ?_)⟩;rw[if_pos rfl];refine .inl ⟨rfl,?_⟩;have RQ:∀gl m L,ew (c.inner {kind:=ahG,names:=[(".0",aeB),("k",aeB),("words",aiU)],isGenerator:=false,isCoroutine:=false} [("words",cw)] gl m L) [("words",cw)]:=λgl m L=>ew.ym bl '3';refine cY (bP (RQ _ _ _) .head (At.right ⋯) ?_);show iB;symm;rw[(by exact(Int.zero_add _).trans (Int.mul_comm _ _):(0:Int)+(i:Int)*3=((3*i:Nat):Int))];refine p4 D (ws.map .str) (some ((3*i:Nat):Int)) (some ((3*i+3:Nat):Int)) ⟨rfl,aad _ '0',rfl,rfl,by rw[aaa];exact aab FS '2',λb=>?_⟩;rw[vn _ _ _ (by exact aa5 _ _) (by rw[aaa];exact MB Wj hi)];have ZU:((ws.map AV.str).take (3*i+3)).drop (3*i)=(DA ws i).map .str:=(by rw[aiO,aep];unfold DA;rw[aeT,aiV]);rw[ZU];refine ba (bv rs) _ ⟨aI.mid (l:=(b,.list ((DA ws i).map .str))::(bL rs).reverse),?_,some (.int ((3*i:Nat):Int)),rs++[(b,DA ws i)],?_,?_⟩;have:=congrArg aaV tD;rw[aaa,aaa,abC]at this;rw[bv,aaa,this];exact aab (show i≤1000 by exact MC FS Wj hi) '2';have q1:(bL (rs++[(b,DA ws i)])).reverse=(b,.list ((DA ws i).map .str))::(bL rs).reverse:=(by unfold bL;rw[aaj,ad3];rfl);have q2:bv (rs++[(b,DA ws i)])=bv rs++[.ref b]:=(by unfold bv;rw[aaj];rfl);rw[q1,q2];rw[aaj,tD,aiy,aaj];rfl
 let k0 rs tD:=gt;rw[aaa,abC]at tD⊢;refine⟨n7 hd,?_⟩;symm;refine ay _ _ ((D2,.list (bv rs))::bL rs) _ (.cons (vx _) (CV (bL rs))) (ba D2 rs ⟨rfl,?_,rfl⟩);rw[tD];unfold gm ja;rw[Dv,p3,Wj]
end
section
open PySem.Builtin PySem.Builtin.Str
variable{l:List Nat} {ns:List Str}
theorem at_of_mem{p:α}:∀{l:List α},p∈l→At p l:=by
 intro l0;induction l0 with
 |nil=>intros;first|contradiction|(rename_i h;cases h)|nofun
 |cons _ l ih=>intro h;rcases aai.mp h with rfl|h;exact .head;exact .tail (ih h)
def tE(l:List Nat):List AV:=l.map λ(k:Nat)=>AV.int (k:Int)
def fI(q:Nat→Bool):AV→Bool| .int z=>q z.toNat|_=>false
theorem iM{y:AV}(h:(tE l)[i]? =some y):∃k,l[i]? =some k∧y= .int (k:Int):=by unfold tE at h;rw[aag]at h;let k hk e:=ak (aaq.mp h);exact⟨k,hk,e.symm⟩
theorem tF:∀l:List Nat,(tE l).filter (fI q)=tE (l.filter q):=by intro l0;induction l0 with|nil=>exact rfl|cons k l ih=>have ih:=ih;unfold tE at ih⊢;rw[aan,abP,abP,ih];change(if q ((k:Int).toNat)=true then _ else _)=_;rw[ade];split<;>rfl
theorem tG:fI q (.int (k:Int))=q k:=by change q ((k:Int).toNat)=_;rw[ade]
theorem oq:∀{xs:List AV},eqs f xs []=xs.isEmpty|[]=>rfl|_::_=>rfl
theorem zZ(xs:List α):pick xs (some (-1)) none=xs.drop (xs.length-1):=by rw[oo];exact abd (aaz aa9)
theorem jJ{nm:Str}(h:ns.Nodup)(hi:ns[i]? =some nm):ns.idxOf nm=i∧∀m,m<i→ns[m]?≠some nm:=by
 let h1 h2:=eE (aav.mp hi);have gU:∀m,m<i→ns[m]?≠some nm:=λm hm q=>by let g1 g2:=eE (aav.mp q);exact(acw.mp h) m i g1 h1 hm (g2.trans h2.symm)
 refine⟨?_,gU⟩;have dc:=abD (aaA hi:nm∈ns);have he:ns[ns.idxOf nm]? =some nm:=by rw[aay dc,aei dc]
 rcases Nat.lt_trichotomy (ns.idxOf nm) i with q|q|q;exact absurd he (gU _ q);exact q;let g1 g2:=eE (aav.mp he);exact absurd (h2.trans g2.symm) ((acw.mp h) i _ h1 g1 q)
theorem maxOf:∀l:List Int,∃M,M∈(-1::l)∧∀a∈(-1::l),a≤M|[]=>⟨-1,.head _,λa ha=>by have:a= -1:=(by simpa using ha);exact ae7 this⟩|x::l=>by let M h1 h2:=ak (maxOf l);by_cases q:x≤M;refine⟨M,?_,λa ha=>?_⟩;rcases aai.mp h1 with h|h;exact h▸.head _;exact .tail _ (.tail _ h);rcases aai.mp ha with h|h;exact h2 a (h▸.head _);rcases aai.mp h with h|h;exact h▸q;exact h2 a (.tail _ h);refine⟨x,.tail _ (.head _),λa ha=>?_⟩;have hM:M≤x:=(by exact agj (agi.mp q));rcases aai.mp ha with h|h;exact aeq (h2 a (h▸.head _)) hM;rcases aai.mp h with h|h;exact h▸Int.le_refl _;exact aeq (h2 a (.tail _ h)) hM
theorem KI{l:Addr}{es:List Expr}{k:_}:LG w (.Tuple es k p) (aQ l):=λA s it o i v Q E ho hP h=>by cases v with|ref T=>exact wpAny_letOwnedTupleGo_listiter ⟨o,ho,hP⟩ h|_=>exact aal h
theorem fL:(tE l).length=l.length:=by unfold tE;rw[aaa]
abbrev yn:=Addr×Str×Str
def hU(es:List yn):Cells:=es.map λe=>(e.1,.tup [.str e.2.1,.str e.2.2])
def gP(es:List yn):List AV:=es.map λe=>.ref e.1
def gE(l:List (Str×Str))(k:Nat):Str×Str:=l.getD k (("":Str),("":Str))
def iW(es:List (Str×Str))(nm:Str):List Nat:=(abu es.length).filter λk=>(gE es k).1==nm
def gQ(es:List (Str×Str))(k:Nat):Str:=(gE es k).2
def iX(es:List (Str×Str))(gv dn:List Str)(nm:Str):Bool:= !gv.contains nm&&((iW es nm).filter λk=> !dn.contains (gQ es k))==[]
def eo(es:List (Str×Str))(dn:List Str)(nm:Str):List Int:= -1::((iW es nm).filter λk=>(dn.drop (dn.length-1)).contains (gQ es k)).map λ(k:Nat)=>(k:Int)
def CW(ns:List Str)(es:List (Str×Str))(gv dn:List Str)(us:List Str):Prop:=∃key:Str→Int,(∀x∈ns,∃M,M∈eo es dn x∧(∀a∈eo es dn x,a≤M)∧key x=M*1000+(ns.idxOf x:Int))∧us.Perm (ns.filter (iX es gv dn))∧us.Pairwise λa b=>key a<key b
abbrev DB(an ae ag ad:Addr)(ns:List Str)(es:List yn)(gv dn:List Str):Cells:=(an,.list (ns.map .str))::(ae,.list (gP es))::(ag,.list (gv.map .str))::(ad,.list (dn.map .str))::hU es
theorem FT{an ae ag ad:Addr}{es:List yn}(hn:ns.length≤50)(kh:ns.Nodup)(he:es.length≤900)(hg:gv.length≤900)(ZV:dn.length≤900):FC K0 (n+2) 957 [.ref an,.ref ae,.ref ag,.ref ad] [] (DB an ae ag ad ns es gv dn) (λv C=>∃o us,v= .ref o∧CW ns (es.map (λx=>x.2)) gv dn us∧C=(o,.list (us.map .str))::DB an ae ag ad ns es gv dn) (λe C=>False):=by
 show FC.JR (fx:=bK) tv sN tz;intro c Q' E' hK hd aZ hc bl ay aL bz;have EZ:∀scope,aeO scope c.env=aeO scope (envX bK.cn bK.cs c.L bK.a bK.cd (aco (c.L+1) bK.cs.names [])):=λscope=>by rw[bl]
 have ht:pB c [("edges",c.L+1+0),("done",c.L+1+1),("name",c.L+1+2)]:=pB.of (by rw[bl];kernel_rfl);have kF:ew c [("edges",c.L+1+0),("done",c.L+1+1),("name",c.L+1+2)]:=ew.of (by rw[bl];kernel_rfl);change EB c (n+1) ⟨[("names",some (.ref an)),("given",some (.ref ag)),("free",none),("mine",none),("last",none)],(c.L+1+0,.cell (some (.ref ae)))::(c.L+1+1,.cell (some (.ref ad)))::(c.L+1+2,.cell none)::DB an ae ag ad ns es gv dn⟩ _ _ _;generalize h2:c.L+1+2=cn at ht kF⊢;generalize h1:c.L+1+1=cd at ht kF⊢;generalize h0:c.L+1+0=ce at ht kF⊢;show ah;symm;refine⟨aaD _,λfr=>?_⟩;symm;show zy ht (.tail (.tail .head)) (xs:=ns.map .str) (l:=an) (λi S=>∃(nv mi la:Option AV) (ts:List iF),S=⟨[("names",some (.ref an)),("given",some (.ref ag)),("free",some (.ref fr)),("mine",mi),("last",la)],(ts.map λt:iF=>(t.1,sE t)).reverse++((fr,.list (ts.map λt=>.ref t.1))::(ce,.cell (some (.ref ae)))::(cd,.cell (some (.ref ad)))::(cn,.cell nv)::DB an ae ag ad ns es gv dn:Cells)⟩∧(ts.map (λx=>x.2.2.2))=(ns.take i).filter (iX (es.map (λx=>x.2)) gv dn)∧∀t∈ts,t.2.1∈eo (es.map (λx=>x.2)) dn t.2.2.2∧(∀a∈eo (es.map (λx=>x.2)) dn t.2.2.2,a≤t.2.1)∧t.2.2.1=(ns.idxOf t.2.2.2:Int)) ?_ ?_ ?_
 ·k_extra "m.name";exact⟨rfl,by k_extra "m.mem",none,none,none,[],rfl,rfl,λt ht=>nomatch ht⟩
 intro i;let nv mi la ts z5:=rG;exact aad _ '0'
 ·intro i y S1 N hy;revert S1;let nv mi la ts yo KJ:=ue;intro hN;rw[aag]at hy;let nm An r2:=ak (aaq.mp hy);subst r2;refine ba nv _ ⟨aI.right (.tail (.tail (.tail .head))),?_⟩;show W.fh aaY;generalize RT:(ts.map λt:iF=>(t.1,sE t)).reverse=PT;change EB c (n+1) ⟨[("names",some (.ref an)),("given",some (.ref ag)),("free",some (.ref fr)),("mine",mi),("last",la)],(fr,.list (ts.map λt=>.ref t.1))::(ce,.cell (some (.ref ae)))::(cd,.cell (some (.ref ad)))::(cn,.cell (some (.str nm)))::(an,.list (ns.map .str))::(ae,.list (gP es))::(ag,.list (gv.map .str))::(ad,.list (dn.map .str))::(hU es++PT)⟩ _ _ _;have Wk:∀(k:Nat) (e:yn),es[k]? =some e→At (e.1,.tup [.str e.2.1,.str e.2.2]) (hU es++PT):=λk e hk=>At.left (at_of_mem (aat (f:=λe:yn=>(e.1,AO.tup [.str e.2.1,.str e.2.2])) (aaA hk)));have qd:∀(LB:List iF) (KL KM:Option AV) (C:Cells) (Qx:FL→SS→Prop),C.Perm ((LB.map λt:iF=>(t.1,sE t)).reverse++((fr,.list (LB.map λt=>.ref t.1))::(ce,.cell (some (.ref ae)))::(cd,.cell (some (.ref ad)))::(cn,.cell (some (.str nm)))::DB an ae ag ad ns es gv dn:Cells))→LB.map (λx=>x.2.2.2)=(ns.take (i+1)).filter (iX (es.map (λx=>x.2)) gv dn)→(∀t∈LB,t.2.1∈eo (es.map (λx=>x.2)) dn t.2.2.2∧(∀a∈eo (es.map (λx=>x.2)) dn t.2.2.2,a≤t.2.1)∧t.2.2.1=(ns.idxOf t.2.2.2:Int))→EB c (n+1) ⟨[("names",some (.ref an)),("given",some (.ref ag)),("free",some (.ref fr)),("mine",KL),("last",KM)],C⟩ [] (au N Qx) E':=λLB KL KM C Qx hp q1 q2=>W.fh hp (d0 (hN _ (p4 _ KL KM LB ⟨rfl,q1,q2⟩)));have LC:ns.take (i+1)=ns.take i++[nm]:=(by rw[aaK,An];rfl);have HA:∀(KL KM:Option AV) (Qx:FL→SS→Prop),iX (es.map (λx=>x.2)) gv dn nm=false→EB c (n+1) ⟨[("names",some (.ref an)),("given",some (.ref ag)),("free",some (.ref fr)),("mine",KL),("last",KM)],(fr,.list (ts.map λt=>.ref t.1))::(ce,.cell (some (.ref ae)))::(cd,.cell (some (.ref ad)))::(cn,.cell (some (.str nm)))::(an,.list (ns.map .str))::(ae,.list (gP es))::(ag,.list (gv.map .str))::(ad,.list (dn.map .str))::(hU es++PT)⟩ [] (au N Qx) E':=λKL KM Qx hf=>qd ts KL KM _ Qx (by rw[RT];exact aaY (l₁:=(fr,.list (ts.map λt=>.ref t.1))::(ce,.cell (some (.ref ae)))::(cd,.cell (some (.ref ad)))::(cn,.cell (some (.str nm)))::DB an ae ag ad ns es gv dn) (l₂:=PT)) (by rw[LC,abS,acK (by rw[hf];decide),agE,aaO];exact yo) KJ;have hlen:(gP es).length=es.length:=(by unfold gP;rw[aaa]);have wF:acO 0 (es.length:Int) 1=true:=small_one '2' '2' (by omega) (by omega);have Jx:∀k,k<es.length→∃e,es[k]? =some e∧gE (es.map (λx=>x.2)) k=e.2∧(gP es)[k]? =some (.ref e.1):=λk hk=>(by refine⟨es[k],aay hk,?_,?_⟩;unfold gE;rw[aaR,aag,aay hk];rfl;unfold gP;rw[aag,aay hk];rfl);have RU:ts.length≤900:=(by have:=congrArg aaV yo;rw[aaa]at this;rw[this];exact aab (abF _ _) (aab (abh _ _) (by exact DH hn)));have lz:∀k,k≤900→k≤lim:=λk hk=>aab hk '2';refine ah (my (xs:=["k"]) (cl:=[("name",cn),("edges",ce)]) (gl:=[]) ⟨by rw[EZ,←h0,←h2];kernel_rfl,by with_unfolding_all decide,by with_unfolding_all rfl,by with_unfolding_all decide,by with_unfolding_all decide,by decide,λp hp=>nomatch hp⟩ ?_ (by rw[bl];kernel_rfl) (hc:=hc));symm;show bP kF .head ⋯;symm;show bY '0' (by rw[hlen];exact lz _ he);rw[hlen];symm;let r:=mA;refine CA.go (P:=mW 0 1 es.length) (λu hu=>n5 (.head _) (by rw[ahs];split<;>omega:ab_ 0 (es.length:Int) 1=(es.length:Int)) wF hu) n9 (λD=>by k_extra "m.at") λD m L=>LP.map (tE (abu es.length)) (fI λk=>(gE (es.map (λx=>x.2)) k).1==nm) id (by rw[fL,abC];exact lz _ he) ?_ ?_ ?_ ?_;intro i y v G hx;let k hk r2:=ak (iM hx);subst r2;have hi:i<es.length:=(by have:=(aav.mp hk).1;simpa using this);rw[acp hi]at hk;obtain rfl:i=k:=aaJ hk;exact n6 hi (by simp)
  ·intro i y T Z hx hT;let k hk r2:=ak (iM hx);subst r2;have ZW:k<es.length:=(by have:=aaA hk;simpa using this);let e e1 e2 e3:=bN (Jx k ZW);show o_;symm;refine wO (d6 (bP (tab:=[("edges",ce),("name",cn)]) (ew.ym bl '3') .head ⋯ ?_));symm;show d4 '0' e3 (by rw[hlen];exact lz _ he);symm;have nI:=Wk k e e1;refine⟨sh (by repeat(first|exact nI|apply At.tail)),wn (k:=0) (xs:=[.str e.2.1,.str e.2.2]) (At.mem (by repeat(first|exact nI|apply At.tail))) rfl (aae rfl) ?_⟩;show bP (tab:=[("edges",ce),("name",cn)]) (ew.ym bl '3') (.tail .head) ⋯;symm;refine eqQ ?_ (hT []);rw[tG,e2]
  ·intro i y T Z hx hf hT;symm;exact hT []
  intro G v;rw[aen,tF,fL,abC];refine⟨n7 hd,?_⟩;rw[(by unfold iW;rw[aaa]:(abu es.length).filter (λk=>(gE (es.map (λx=>x.2)) k).1==nm)=iW (es.map (λx=>x.2)) nm)];have Wl:∀k∈iW (es.map (λx=>x.2)) nm,k<es.length:=λk hk=>(by have:=(abq.mp hk).1;rw[aaa]at this;simpa using this);have RV:(iW (es.map (λx=>x.2)) nm).length≤900:=aab (abF _ _) (by rw[abC,aaa];exact he);change EB _ _ _ _ _ _;show W.d8;change EB c (n+1) ⟨[("names",some (.ref an)),("given",some (.ref ag)),("free",some (.ref fr)),("mine",some (.ref D)),("last",la)],(D,.list (tE (iW (es.map (λx=>x.2)) nm)))::(r,.obj (fA 0 (es.length:Int) 1))::(fr,.list (ts.map λt=>.ref t.1))::(ce,.cell (some (.ref ae)))::(cd,.cell (some (.ref ad)))::(cn,.cell (some (.str nm)))::(an,.list (ns.map .str))::(ae,.list (gP es))::(ag,.list (gv.map .str))::(ad,.list (dn.map .str))::(hU es++PT)⟩ _ _ _;show W.zT (D:=(D,.list (tE (iW (es.map (λx=>x.2)) nm)))::(fr,.list (ts.map λt=>.ref t.1))::(ce,.cell (some (.ref ae)))::(cd,.cell (some (.ref ad)))::(cn,.cell (some (.str nm)))::(an,.list (ns.map .str))::(ae,.list (gP es))::(ag,.list (gv.map .str))::(ad,.list (dn.map .str))::(hU es++PT)) (.cons_cons _ (.cons _ (ab0 _)));change EB _ _ _ _ _ _;generalize XZ:iW (es.map (λx=>x.2)) nm=mn at Wl RV⊢;show ah;symm;show bP kF (.tail (.tail .head)) ⋯;symm;show eP '0';symm;by_cases q1:gv.contains nm=true;rw[q1];show aY '2';show aY '2';refine fY (pq (HA _ _ _ ?_));unfold iX;rw[q1];rfl;have q1:gv.contains nm=false:=(by simpa using q1);rw[q1];show bA rfl;symm;refine fD (xs:=["k"]) (cl:=[("edges",ce),("done",cd)]) (gl:=[]) ⟨by rw[EZ,←h0,←h1];kernel_rfl,by with_unfolding_all decide,by with_unfolding_all rfl,by with_unfolding_all decide,by with_unfolding_all decide,by decide,λp hp=>nomatch hp⟩ ?_ (hc:=hc);k_extra "m.name";refine CQ.go (P:=aQ D) (λu hu=>cJ '0' hu) d5 λD2 m2 L2=>LP.map (tE mn) (fI λk=> !dn.contains (gQ (es.map (λx=>x.2)) k)) id (by rw[fL];exact lz _ RV) (λi y v G hx=>cM (aad _ '0') hx) ?_ ?_ ?_
  ·intro i y T Z hx hT;let k hk r2:=ak (iM hx);subst r2;let e e1 e2 e3:=bN (Jx k (Wl k (aaA hk)));have nI:=Wk k e e1;show o_;symm;refine wO (d6 (bP (tab:=[("edges",ce),("done",cd)]) (ew.ym bl '3') .head ⋯ ?_));symm;show d4 '0' e3 (by rw[hlen];exact lz _ he);symm;refine⟨sh (by repeat(first|exact nI|apply At.tail)),wn (k:=1) (xs:=[.str e.2.1,.str e.2.2]) (At.mem (by repeat(first|exact nI|apply At.tail))) rfl (aae rfl) ?_⟩;show bP (tab:=[("edges",ce),("done",cd)]) (ew.ym bl '3') (.tail .head) ⋯;symm;show eP '0';symm;refine eqQ ?_ (hT []);rw[tG,gQ,e2]
  ·intro i y T Z hx hf hT;symm;exact hT []
  intro G v;rw[aen,tF];refine⟨cN (aad _ '0') hd,?_⟩;change EE _ _ _ _ _ _;show W.d8;change EE _ _ _ _ _ _;symm;refine⟨aaD _,λl3=>?_⟩;refine o8 (m:=1) (f:=λzz zz=>true) '0' '0' (λx hx y hy=>by cases hy) ?_ (by exact abm _ _);rw[oq];have ZX:iX (es.map (λx=>x.2)) gv dn nm=(tE (mn.filter λk=> !dn.contains (gQ (es.map (λx=>x.2)) k))).isEmpty:=(by unfold iX;rw[q1,XZ];cases mn.filter λk=> !dn.contains (gQ (es.map (λx=>x.2)) k)<;>rfl);rw[←ZX];show bj;by_cases q2:iX (es.map (λx=>x.2)) gv dn nm=true
  ·show bA q2;k_extra "g.s1";show bA rfl;show W.forget (D:=[_,_]);change EB _ _ _ _ _ _;show ah;symm;refine⟨1,rfl,?_⟩;symm;refine⟨aae rfl,λl4=>?_⟩;refine fD (xs:=["k"]) (cl:=[("edges",ce),("done",cd)]) (gl:=[]) ⟨by rw[EZ,←h0,←h1];kernel_rfl,by with_unfolding_all decide,by with_unfolding_all rfl,by with_unfolding_all decide,by with_unfolding_all decide,by decide,λp hp=>nomatch hp⟩ ?_ (hc:=hc);k_extra "m.name";refine CQ.go (P:=aQ D) (λu hu=>cJ '0' hu) d5 λD3 m3 L3=>LP.map (tE mn) (fI λk=>(dn.drop (dn.length-1)).contains (gQ (es.map (λx=>x.2)) k)) id (by rw[fL];exact lz _ RV) (λi y v G hx=>cM (aad _ '0') hx) ?_ ?_ ?_
   ·intro i y T Z hx hT;let k hk r2:=ak (iM hx);subst r2;let e e1 e2 e3:=bN (Jx k (Wl k (aaA hk)));have nI:=Wk k e e1;show o_;symm;refine wO (d6 (bP (tab:=[("edges",ce),("done",cd)]) (ew.ym bl '3') .head ⋯ ?_));symm;show d4 '0' e3 (by rw[hlen];exact lz _ he);symm;refine⟨sh (by repeat(first|exact nI|apply At.tail)),wn (k:=1) (xs:=[.str e.2.1,.str e.2.2]) (At.mem (by repeat(first|exact nI|apply At.tail))) rfl (aae rfl) ?_⟩;refine cY (bP (tab:=[("edges",ce),("done",cd)]) (ew.ym bl '3') (.tail .head) ⋯ ?_);show iB;symm;refine⟨1,rfl,jA (p4 ad _ (some (-1)) none ⟨rfl,by k_extra "m.mem",rfl,rfl,by rw[aaa];exact lz _ ZV,λb=>?_⟩)⟩;rw[(by rw[zZ,aaa,aiV]:pick (dn.map AV.str) (some (-1)) none=(dn.drop (dn.length-1)).map .str)];show km (.head _);symm;refine eqQ ?_ (hT [(b,_)]);rw[tG,gQ,e2]
   ·intro i y T Z hx hf hT;symm;exact hT []
   intro G v;rw[aen,tF];refine⟨cN (aad _ '0') hd,?_⟩;refine λvv ww hv hw=>W.d8 (gw (xs:=[.int (-1)]) '0' (.head _) (by rw[fL];exact aab (abe (aab (abF _ _) RV) _) '2') (λl5=>?_) vv ww hv hw);have RW:[AV.int (-1)]++tE (mn.filter λk=>(dn.drop (dn.length-1)).contains (gQ (es.map (λx=>x.2)) k))=(eo (es.map (λx=>x.2)) dn nm).map .int:=(by unfold eo;rw[XZ,aan,aba];rfl);rw[RW];symm;let M ZY ZZ:=B7 (.head _) (by exact ac8 _) hd;k_extra "g.s1";change EB _ _ _ _ _ _;show W.forget (D:=[_,_,_]);change EB c (n+1) ⟨[("names",some (.ref an)),("given",some (.ref ag)),("free",some (.ref fr)),("mine",some (.ref D)),("last",some (.int M))],(D,.list (tE mn))::(fr,.list (ts.map λt=>.ref t.1))::(ce,.cell (some (.ref ae)))::(cd,.cell (some (.ref ad)))::(cn,.cell (some (.str nm)))::(an,.list (ns.map .str))::(ae,.list (gP es))::(ag,.list (gv.map .str))::(ad,.list (dn.map .str))::(hU es++PT)⟩ _ _ _;show fY;let x1 x2:=eA (jJ kh An);symm;show bP kF (.tail (.tail .head)) ⋯;symm;show wu (xs:=ns) (j:=i) '0' An x2 (lz _ (by exact DH hn));symm;show bP kF (.tail (.tail .head)) ⋯;symm;refine⟨aae rfl,λt1=>?_⟩;symm;show aS ⋯ (by rw[aaa];exact lz _ RU);change EB _ _ _ _ _ _;refine pq (qd (ts++[(t1,M,(i:Int),nm)]) _ _ _ _ ?_ ?_ ?_);have r1:((ts++[((t1,M,(i:Int),nm):iF)]).map λt:iF=>(t.1,sE t)).reverse=(t1,.tup [.int M,.int (i:Int),.str nm])::PT:=(by rw[aaj,ad3,RT];rfl);rw[r1,aaj];show abB _;exact aaY (l₁:=((fr,AO.list (ts.map (λt=>AV.ref t.1)++[AV.ref t1]))::(ce,AO.cell (some (AV.ref ae)))::(cd,AO.cell (some (AV.ref ad)))::(cn,AO.cell (some (AV.str nm)))::DB an ae ag ad ns es gv dn:Cells)) (l₂:=PT);rw[aaj,yo,LC,abS,acL q2];rfl;intro t Z0;rcases aax.mp Z0 with h|h;exact KJ t h;obtain rfl:t=(t1,M,(i:Int),nm):=(by simpa using h);exact⟨ZY,ZZ,by rw[x1]⟩
  have q2:iX (es.map (λx=>x.2)) gv dn nm=false:=(by simpa using q2);show aY (by rw[q2];decide);show aY '2';show W.forget (D:=[_,_,_]);exact pq (HA _ _ _ q2)
 let nv mi la ts yo KJ:=ue;show W.fh aaY;generalize RT:(ts.map λt:iF=>(t.1,sE t)).reverse=PT;have X1:∀t∈ts,(t.1,sE t)∈PT:=λt ht=>RT▸aii.mpr (aat (f:=λt:iF=>(t.1,sE t)) ht);change EB c (n+1) ⟨[("names",some (.ref an)),("given",some (.ref ag)),("free",some (.ref fr)),("mine",mi),("last",la)],(fr,.list (ts.map λt=>.ref t.1))::(ce,.cell (some (.ref ae)))::(cd,.cell (some (.ref ad)))::(cn,.cell nv)::(an,.list (ns.map .str))::(ae,.list (gP es))::(ag,.list (gv.map .str))::(ad,.list (dn.map .str))::(hU es++PT)⟩ _ _ _;have lR:(ns.map AV.str).length=ns.length:=aaa _;rw[lR,abi]at yo;symm;refine fD (xs:=["last","place","name"]) (cl:=[]) (gl:=[]) ⟨by rw[bl];kernel_rfl,by with_unfolding_all decide,by with_unfolding_all rfl,by with_unfolding_all decide,by with_unfolding_all decide,by decide,λp hp=>nomatch hp⟩ ?_ (hc:=hc);symm;have CX:ts.length≤50:=by have:=congrArg aaV yo;rw[aaa]at this;rw[this];exact aab (abF _ _) hn
 have Dr:∀t∈ts,t.2.2.2∈ns:=λt ht=>by have:t.2.2.2∈ts.map (λx=>x.2.2.2):=aat (f:=λt:iF=>t.2.2.2) ht;rw[yo]at this;exact(abq.mp this).1
 have X2:(ts.map (λx=>x.2.2.2)).Nodup:=yo▸kh.filter _;let D us yq Z1:=uR (.head _) (λt ht=>by repeat(first|exact aad _ (X1 t ht)|apply ag7)) (by exact LM CX) (λi j a b ha hb e=>?_) (λt ht=>?_);have h1:=KJ a (aaA ha);have h2:=KJ b (aaA hb);rw[h1.2.2,h2.2.2]at e;have e:ns.idxOf a.2.2.2=ns.idxOf b.2.2.2:=by exact afY.mp e
 have g1:=aei (abD (Dr a (aaA ha)));have g3:a.2.2.2=b.2.2.2:=by rw[←g1,←(aei (abD (Dr b (aaA hb))))];congr 1
 have m1:(ts.map (λx=>x.2.2.2))[i]? =some a.2.2.2:=by rw[aag,ha];rfl
 exact(jJ X2 m1).1.symm.trans (jJ X2 (by rw[aag,hb,g3];rfl:(ts.map (λx=>x.2.2.2))[j]? =some a.2.2.2)).1;have:=(KJ t ht).2.2;exact LT hn this (abD (Dr t ht));refine CQ.go (P:=aQ D) (λu hu=>cJ (.head _) hu) d5 λD2 m L=>LP.loop rfl KI (us.map λt=>.ref t.1) (λi S=>∃x1 x2 x3,S=⟨[("last",x1),("place",x2),("name",x3)],(D2,.list (((us.take i).map (λx=>x.2.2.2)).map .str))::(D,.list (us.map λt=>.ref t.1))::(fr,.list (ts.map λt=>.ref t.1))::(ce,.cell (some (.ref ae)))::(cd,.cell (some (.ref ad)))::(cn,.cell nv)::(an,.list (ns.map .str))::(ae,.list (gP es))::(ag,.list (gv.map .str))::(ad,.list (dn.map .str))::(hU es++PT)⟩) (eY none none none rfl) ?_ ?_
 ·intro i y S1 hx;revert S1;let x1 x2 x3:=GO;have rW:=hx;rw[aag]at rW;let t Ho r2:=ak (aaq.mp rW);subst r2;have Wm:t∈ts:=yq.mem_iff.mp (aaA Ho);refine⟨cM (.tail _ (.head _)) hx,ux (ns:=[("last",_),("place",_),("name",_)]) (xs:=[.int t.2.1,.int t.2.2.1,.str t.2.2.2]) hd (by repeat(first|exact aad _ (X1 t Wm)|apply ag7)) (by change ia ["last","place","name"] _ _ _;k_extra "m.sets") rfl (iC ?_)⟩;rw[if_pos rfl];refine .inl ⟨rfl,?_⟩;symm;refine ba _ _ ⟨.head,?_,some (.int t.2.1),some (.int t.2.2.1),some (.str t.2.2.2),?_⟩;rw[aaa,aaa];exact aab (abh _ _) (by rw[yq.length_eq];exact aab CX '2');rw[aaK,Ho,aaj,aaj];rfl
 let x1 x2 x3:=GO;rw[aaa,abi];refine⟨(aaa (λt:iF=>AV.ref t.1) (as:=us))▸cN (.tail _ (.head _)) hd,?_⟩;symm;refine ay _ _ ((D2,.list ((us.map (λx=>x.2.2.2)).map .str))::DB an ae ag ad ns es gv dn) _ (.cons .head (bD (gj (L:=PT) (DB an ae ag ad ns es gv dn)) [_,_,_,_,_])) (ba D2 (us.map (λx=>x.2.2.2)) ⟨rfl,⟨λx=>adp (maxOf ((eo (es.map (λx=>x.2)) dn x).tail))*1000+(ns.idxOf x:Int),λx hx=>?_,?_,?_⟩,rfl⟩);let c1 c2:=eA (aeJ (maxOf ((eo (es.map (λx=>x.2)) dn x).tail)));exact⟨_,c1,c2,rfl⟩;rw[←yo];exact yq.map _;rw[aeD];refine afZ (λ{a b} ha hb tO=>?_) Z1;have hk:∀t∈us,JW t=adp (maxOf ((eo (es.map (λx=>x.2)) dn t.2.2.2).tail))*1000+(ns.idxOf t.2.2.2:Int):=λt ht=>by let c1 c2:=eA (aeJ (maxOf ((eo (es.map (λx=>x.2)) dn t.2.2.2).tail)));let d1 d2 d3:=pX (KJ t (yq.mem_iff.mp ht));have:adp (maxOf ((eo (es.map (λx=>x.2)) dn t.2.2.2).tail))=t.2.1:=Int.le_antisymm (d2 _ c1) (c2 _ d1);rw[this,←d3];rfl
 change adp (maxOf ((eo (es.map (λx=>x.2)) dn a.2.2.2).tail))*1000+(ns.idxOf a.2.2.2:Int)<adp (maxOf ((eo (es.map (λx=>x.2)) dn b.2.2.2).tail))*1000+(ns.idxOf b.2.2.2:Int);rw[←hk a ha,←hk b hb];exact tO
end
section
open PySem.Builtin PySem.Builtin.Str
variable{ns:List Str} {es:List (Str×Str)} {P:Prop}
theorem mQ:∀C:Cells,aq C C []|[]=>.nil|_::C=>.cons .head (mQ C)
theorem fM(P C:Cells):aq C (P++C) P:=by have:=bD (mQ C) P;rwa [aaO]at this
structure Turn(ns:List Str)(es:List (Str×Str))(g:G)(rl:List Str)(po nf:Int)(gv dn wt:List Str):Prop where
 next:∀us,CW ns es gv dn us→us=rl
 act:(decide (nf<po)|| !rl.isEmpty)=(!wt.isEmpty|| !rl.isEmpty)
 mem:∀s∈rl,(db s g).isSome=true
 Z2:∀nm,ns[dn.length]? =some nm→nm∉wt++rl→(acQ nm).length≤1000∧Dn [nm] (iK rl g) [] nf false (iK rl g) [] nf
 l1:gv.length+rl.length≤900
 l2:dn.length≤900
 l3:wt.length+rl.length≤900
 l4:dn.length≤ns.length
def z_(ns:List Str)(es:List (Str×Str))(R:Nat)(gF:G)(pF fF:Int)(ih:G→List Str→Int→Int→List Str→List Str→List Str→Prop)(g:G)(rl:List Str)(po nf:Int)(gv dn wt:List Str):Prop:=Turn ns es g rl po nf gv dn wt∧((wt++rl=[]∧R=gv.length∧gF=g∧pF=po∧fF=nf)∨∃w' nm g2 rl2 nf2,wt++rl=w'++[nm]∧(acQ nm).length≤1000∧Dn (if dn.length%2=0 then[nm]else[nm,"zz"]) (iK rl g) [] nf (dn.length%2==0) g2 rl2 nf2∧ih g2 rl2 (po+rl.length) nf2 (gv++rl) (dn++[nm]) w')
def ka(ns:List Str)(es:List (Str×Str))(R:Nat)(gF:G)(pF fF:Int)(k:Nat):G→List Str→Int→Int→List Str→List Str→List Str→Prop:=k.rec (z_ ns es R gF pF fF λzz zz zz zz zz zz zz=>False) λzz ih=>z_ ns es R gF pF fF ih
theorem ka.turn{R:Nat}{g rl po nf gv dn wt}(h:ka ns es R gF pF fF k g rl po nf gv dn wt):Turn ns es g rl po nf gv dn wt:=by cases k<;>exact h.1
theorem z_.el{R:Nat}{ih g rl po nf gv dn wt}(h:z_ ns es R gF pF fF ih g rl po nf gv dn wt)(h0:rl=[]→wt=[]→R=gv.length→gF=g→pF=po→fF=nf→P)(h1:∀w' nm g2 rl2 nf2,wt++rl=w'++[nm]→(acQ nm).length≤1000→Dn (if dn.length%2=0 then[nm]else[nm,"zz"]) (iK rl g) [] nf (dn.length%2==0) g2 rl2 nf2→ih g2 rl2 (po+rl.length) nf2 (gv++rl) (dn++[nm]) w'→P):P:=h.2.elim (λh=>h0 (adx.mp h.1).2 (adx.mp h.1).1 h.2.1 h.2.2.1 h.2.2.2.1 h.2.2.2.2) λh=>h.elim λw' h=>h.elim λnm h=>h.elim λg2 h=>h.elim λrl2 h=>h.elim λnf2 h=>h1 w' nm g2 rl2 nf2 h.1 h.2.1 h.2.2.1 h.2.2.2
theorem ka.el{R:Nat}{g rl po nf gv dn wt}(h:ka ns es R gF pF fF k g rl po nf gv dn wt)(h0:rl=[]→wt=[]→R=gv.length→gF=g→pF=po→fF=nf→P)(h1:∀k',k'<k→∀w' nm g2 rl2 nf2,wt++rl=w'++[nm]→(acQ nm).length≤1000→Dn (if dn.length%2=0 then[nm]else[nm,"zz"]) (iK rl g) [] nf (dn.length%2==0) g2 rl2 nf2→ka ns es R gF pF fF k' g2 rl2 (po+rl.length) nf2 (gv++rl) (dn++[nm]) w'→P):P:=by cases k with|zero=>exact z_.el (ih:=λzz zz zz zz zz zz zz=>False) h h0 λzz zz zz zz zz zz zz zz h=>False.elim h|succ k=>exact z_.el h h0 (h1 k (aby _))
abbrev runC(x dx m r g d w an ae ep:Nat)(nds:List Nd)(rl:List Str)(po nf:Int)(gv dn wt ns:List Str)(es:List yn):Cells:=(x,.inst 188 dx)::(dx,.dict (kH (.ref m) (.ref r) (.int po) (.int nf)) 4)::(m,.map (ff nds) ep)::(r,.list (rl.map .str))::(g,.list (gv.map .str))::(d,.list (dn.map .str))::(w,.list (wt.map .str))::(an,.list (ns.map .str))::(ae,.list (gP es))::(hU es++bC nds)
abbrev tH(x an ae g d w:Nat)(fr nm:Option AV):List (Str×Option AV):=[("sorter",some (.ref x)),("names",some (.ref an)),("edges",some (.ref ae)),("given",some (.ref g)),("done",some (.ref d)),("waiting",some (.ref w)),("fresh",fr),("name",nm)]
theorem FU{E:EP}{e:Expr}{P:AV→SS→Prop}(h:EE c n S e P E)(hq:∀v S',P v S'→Q v S'):EE c n S e Q E:=h.az λv S' k=>hq _ _ k
theorem tI{f:α→β}:∀{l:List α},(l.map f).isEmpty=l.isEmpty|[]=>rfl|_::_=>rfl
theorem drop_one{l:List α}(h:j≤l.length):(l.take (j+1)).drop j=l[j]?.toList:=by
 rw[aaK];have:(l.take j).length=j:=by rw[ado];exact ac5 h
 exact List.drop_left' this
theorem QO{n x dx m r an ae ep k R:Nat}{nds:List Nd}{rl:List Str}{po nf pF fF:Int}{ns:List Str}{es:List yn}{gF:G}(hn:ns.length≤50)(kh:ns.Nodup)(he:es.length≤900)(hR:ka ns (es.map (λx=>x.2)) R gF pF fF k (er nds) rl po nf [] [] []):FC K0 (n+7) 964 [.ref x,.ref an,.ref ae] [] ((x,.inst 188 dx)::(dx,.dict (kH (.ref m) (.ref r) (.int po) (.int nf)) 4)::(m,.map (ff nds) ep)::(r,.list (rl.map .str))::(an,.list (ns.map .str))::(ae,.list (gP es))::(hU es++bC nds)) (λv C=>v= .int R∧∃gn,er gn=gF∧C=(x,.inst 188 dx)::(dx,.dict (kH (.ref m) (.ref r) (.int pF) (.int fF)) 4)::(m,.map (ff gn) ep)::(r,.list [])::(an,.list (ns.map .str))::(ae,.list (gP es))::(hU es++bC gn)) (λe C=>False):=by
 show aB (fx:=gD) uZ uY vb;intro c Q' E' hK hd aZ hc ay aL bz;have lz:∀k,k≤900→k≤lim:=λk hk=>aab hk '2';show ah;symm;refine⟨aaD _,λg=>?_⟩;symm;refine⟨aaD _,λd=>?_⟩;symm;refine⟨aaD _,λw=>?_⟩;k_extra "g.s1";change EB c (n+6) ⟨tH x an ae g d w none none,(w,.list [])::(d,.list [])::(g,.list [])::(x,.inst 188 dx)::(dx,.dict (kH (.ref m) (.ref r) (.int po) (.int nf)) 4)::(m,.map (ff nds) ep)::(r,.list (rl.map .str))::(an,.list (ns.map .str))::(ae,.list (gP es))::(hU es++bC nds)⟩ _ _ _;have h3:∀{a b:Addr×AO} {p:Addr×AO} {q:Addr×AO} {t:Cells},jq p (a::b::q::p::t) (a::b::q::t):=.tail (.tail (.tail .head));show W.into (D:=runC x dx m r g d w an ae ep nds rl po nf [] [] [] ns es) (Z:=[]) (.cons h3 (.cons h3 (.cons h3 (.cons h3 (.cons (.tail (.tail .head)) (.cons (.tail .head) (.cons .head (mQ _))))))));change EB _ _ _ _ _ _;clear h3;show ah;show gy (λk S=>∃nds rl po nf gv dn wt fr nm,S=⟨tH x an ae g d w fr nm,runC x dx m r g d w an ae ep nds rl po nf gv dn wt ns es⟩∧ka ns (es.map (λx=>x.2)) R gF pF fF k (er nds) rl po nf gv dn wt) k (IA nds rl po nf [] [] [] none none ⟨rfl,hR⟩);clear hR nds rl po nf;intro k S1 N;revert S1;let nds rl po nf gv dn wt fr nm hR:=rF;intro hN;have hT:=hR.turn;have X6:aq (DB an ae g d ns es gv dn) (runC x dx m r g d w an ae ep nds rl po nf gv dn wt ns es) ((x,.inst 188 dx)::(dx,.dict (kH (.ref m) (.ref r) (.int po) (.int nf)) 4)::(m,.map (ff nds) ep)::(r,.list (rl.map .str))::(w,.list (wt.map .str))::bC nds):=.cons (.tail (.tail (.tail (.tail (.tail (.tail (.tail .head))))))) (.cons (.tail (.tail (.tail (.tail (.tail (.tail (.tail .head))))))) (.cons (.tail (.tail (.tail (.tail .head)))) (.cons (.tail (.tail (.tail (.tail .head)))) (bD (gj (hU es)) [_,_,_,_,_]))));symm;refine aH (FT (n:=n) (an:=an) (ae:=ae) (ag:=g) (ad:=d) (ns:=ns) (es:=es) (gv:=gv) (dn:=dn) hn kh he (by have:=hT.l1;exact aab (aa5 _ _) this) hT.l2) (D:=(x,.inst 188 dx)::(dx,.dict (kH (.ref m) (.ref r) (.int po) (.int nf)) 4)::(m,.map (ff nds) ep)::(r,.list (rl.map .str))::(w,.list (wt.map .str))::bC nds) ?_ hK hd (λv C hv=>?_) (λzz zz h=>h.elim);exact X6;let o us r2 Vn r4:=bG hv;subst r2;subst r4;obtain rfl:=hT.next us Vn;show PL.go (l:=(o,.list (us.map .str))::runC x dx m r g d w an ae ep nds us po nf gv dn wt ns es) ?_;exact .cons .head X6;symm;refine aH (vi (n:=n) (x:=x) (dx:=dx) (m:=.ref m) (r:=r) (po:=po) (nf:=nf) (rl:=us) (by have:=hT.l3;exact LH this)) '1' hK hd (GQ ?_) (λzz zz h=>h.elim);show PL.go (l:=(o,.list (us.map .str))::runC x dx m r g d w an ae ep nds us po nf gv dn wt ns es) '1';rw[hT.act];obtain⟨P,hP⟩:∃P:AV→SS→Prop,P=λv S'=>v= .bool (!wt.isEmpty|| !us.isEmpty)∧∃G:Cells,S'=⟨tH x an ae g d w (some (.ref o)) nm,G++((o,.list (us.map .str))::runC x dx m r g d w an ae ep nds us po nf gv dn wt ns es:Cells)⟩:=⟨_,rfl⟩;show FU (P:=P) ?_
 ·symm;refine⟨aaD _,λl1=>?_⟩;refine fX (m:=1) (f:=λzz zz=>true) '0' (.head _) (λx hx y hy=>by cases hy) ?_ (by exact abm _ _);rw[oq,tI];show bj;cases X7:wt.isEmpty with|false=>show bA rfl;rw[hP,X7];exact⟨rfl,[(l1,_)],rfl⟩|true=>show aY '2';symm;refine⟨aaD _,λl2=>?_⟩;refine fX (m:=1) (f:=λzz zz=>true) '0' (.head _) (λx hx y hy=>by cases hy) ?_ (by exact abm _ _);rw[oq,tI,hP,X7];exact⟨rfl,[(l2,_),(l1,_)],rfl⟩
 rw[hP];intro v S' I9;let r0 G r2:=Ta I9;subst r0;subst r2;clear hP P;show wg;rw[beq_self_eq_true];k_extra "g.s1";show aY '2';show W.d8;change EB c (n+6) ⟨tH x an ae g d w (some (.ref o)) nm,(o,.list (us.map .str))::runC x dx m r g d w an ae ep nds us po nf gv dn wt ns es⟩ _ _ _;symm;have vy:∀(P:Cells) (gn:List Nd) (ti:List Str) (Wn tQ:Int) (RX RY RZ:List Str),aq (en x dx m gn ep r ti Wn tQ) (P++runC x dx m r g d w an ae ep gn ti Wn tQ RX RY RZ ns es) (P++((g,.list (RX.map .str))::(d,.list (RY.map .str))::(w,.list (RZ.map .str))::(an,.list (ns.map .str))::(ae,.list (gP es))::hU es)):=λP gn ti Wn tQ RX RY RZ=>bD (.cons .head (.cons .head (.cons .head (.cons .head (fM ((g,.list (RX.map .str))::(d,.list (RY.map .str))::(w,.list (RZ.map .str))::(an,.list (ns.map .str))::(ae,.list (gP es))::hU es) (bC gn)))))) P;refine aH (th (n:=n) (by have:=hT.l3;exact LH this) hT.mem) (vy [_] nds us po nf gv dn wt) hK hd (v6 λt1 KN vM=>?_) (λzz zz h=>h.elim);show PL.go (l:=(t1,.tup (us.map .str))::(o,.list (us.map .str))::runC x dx m r g d w an ae ep KN [] (po+us.length) nf gv dn wt ns es) (.cons .head (vy [_] KN [] _ nf gv dn wt));symm;let t2:=jX '0' (by rw[aaa];exact lz _ (by have:=hT.l3;exact Sw this));refine qP (m:=1) (xs:=us.map .str) (ys:=us.map .str) (f:=G1) '0' (.head _) kT ?_ (by exact abm _ _);rw[jo,beq_self_eq_true];refine bj (aY '2' ?_);symm;refine aH (th (n:=n) (rl:=[]) (aaD _) (λzz h=>nomatch h)) (vy [_,_,_] KN [] (po+us.length) nf gv dn wt) hK hd (v6 λt3 jU ie=>?_) (λzz zz h=>h.elim);have e0:po+(us.length:Int)+(([]:List Str).length:Int)=po+us.length:=ah3 _;rw[e0];show PL.go (l:=(t3,.tup [])::(t2,.tup (us.map .str))::(t1,.tup (us.map .str))::(o,.list (us.map .str))::runC x dx m r g d w an ae ep jU [] (po+us.length) nf gv dn wt ns es) (.cons .head (vy [_,_,_] jU [] _ nf gv dn wt));symm;refine⟨aaD _,λt4=>?_⟩;refine qP (m:=1) (xs:=[]) (ys:=[]) (f:=G1) (.tail _ (.head _)) (.head _) (λx hx=>nomatch hx) ?_ (by exact abm _ _);refine bj (aY '2' ?_);k_extra "g.s1";show aY '2';show W.forget (D:=[_,_,_,_]);change EB c (n+6) ⟨tH x an ae g d w (some (.ref o)) nm,(o,.list (us.map .str))::runC x dx m r g d w an ae ep jU [] (po+us.length) nf gv dn wt ns es⟩ _ _ _;symm;show ji ⋯ '0' (by rw[aaa,aaa];exact lz _ hT.l1);rw[←aaj];symm;show ji ⋯ '0' (by rw[aaa,aaa];exact lz _ hT.l3);rw[←aaj];symm;change ES c (n+6) ⟨tH x an ae g d w (some (.ref o)) nm,(o,.list (us.map .str))::runC x dx m r g d w an ae ep jU [] (po+us.length) nf (gv++us) dn (wt++us) ns es⟩ _ _ _;have vN:(dn.map AV.str).length=dn.length:=aaa _;show zx;show cY;k_extra "m.name";show iB;symm;show bY '0' (by rw[vN];exact lz _ hT.l2);rw[vN];symm;show bY '0' (by rw[vN];exact lz _ hT.l2);rw[vN];symm;have lR:(ns.map AV.str).length=ns.length:=aaa _;refine p4 an _ (some (dn.length:Int)) (some ((dn.length+1:Nat):Int)) ⟨rfl,by k_extra "m.mem",rfl,rfl,by rw[lR];exact lz _ (by exact DH hn),λb=>?_⟩;rw[vn _ _ _ (aa2 _) (by rw[lR];exact hT.l4),drop_one (by rw[lR];exact hT.l4)];have yS:((ns.map AV.str)[dn.length]?).toList=((ns[dn.length]?).toList).map .str:=by rw[aag];cases ns[dn.length]? <;>rfl
 rw[yS];generalize Z6:(ns[dn.length]?).toList=sl;refine eY b (sl.map .str) (λi S=>∃iu LD,S=⟨tH x an ae g d w (some (.ref o)) LD,(b,.list (sl.map .str))::(o,.list (us.map .str))::runC x dx m r g d w an ae ep iu [] (po+us.length) nf (gv++us) dn (wt++us) ns es⟩∧er iu=iK us (er nds)) ⟨rfl,.head _,(ba jU nm ⟨rfl,(ie.trans vM:er jU=iK us (er nds))⟩),?_,?_,?_⟩;intro i;let iu LD z3:=gt;exact .head _
 ·intro i y S1 N2 hy;revert S1;let iu LD Dx:=gt;intro zR;rw[aag]at hy;let a ha r2:=ak (aaq.mp hy);subst r2;have Z7:ns[dn.length]? =some a:=(by have:=aaA ha;rw[←Z6]at this;simpa using this);refine⟨_,by k_extra "m.at",?_⟩;show ah;symm;show eP '0';symm;by_cases q:(wt++us).contains a=true;rw[q];show aY '2';show aY '2';show pq;exact d0 (zR _ (ba iu _ ⟨rfl,Dx⟩));have q:(wt++us).contains a=false:=(by simpa using q);let c1 c2:=eA (hT.Z2 a Z7 (by simpa using q));rw[q];show bA rfl;symm;refine⟨aae rfl,λl5=>?_⟩;symm;refine aH (jG (n:=n) (ps:=[a]) (ns:=iu) (rl:=[]) (rl2:=[]) (nf2:=nf) (b:=false) (g2:=iK us (er nds)) (aae rfl) (λs hs=>by rw[aaL.mp hs];exact c1) (Dx▸c2)) (.cons .head (vy [_,_] iu [] (po+us.length) nf (gv++us) dn (wt++us))) hK hd (xg λQP RM=>?_) (λzz zz h=>h.elim);refine⟨_,.cons .head (vy [_,_] QP [] (po+us.length) nf (gv++us) dn (wt++us)),?_⟩;show bj;show aY '2';show aY '2';show pq;exact W.forget (D:=[_]) (d0 (zR _ (ba QP _ ⟨rfl,RM⟩)))
 let iu LD Dx:=gt;k_extra "g.s1";refine fY (fY ?_);change EB c (n+6) ⟨tH x an ae g d w (some (.ref o)) LD,runC x dx m r g d w an ae ep iu [] (po+us.length) nf (gv++us) dn (wt++us) ns es⟩ _ _ _;show ah;symm;refine⟨aaD _,λl6=>?_⟩;refine o8 (m:=1) (f:=λzz zz=>true) '0' (.head _) (λx hx y hy=>by cases hy) ?_ (by exact abm _ _);rw[oq,tI];show bj;let k' G7 w' Ao g2 rl2 nf2 hw hr hd2 hk:=hR.el (λhu hw Z8 hg hp hf=>?_)
 ·show bA (by rw[hu,hw];rfl);symm;show bY '0' (by rw[aaa,aar];exact lz _ hT.l1);symm;exact ay _ _ ((x,.inst 188 dx)::(dx,.dict (kH (.ref m) (.ref r) (.int (po+us.length)) (.int nf)) 4)::(m,.map (ff iu) ep)::(r,.list [])::(an,.list (ns.map .str))::(ae,.list (gP es))::(hU es++bC iu)) _ (.cons (.tail .head) (.cons (.tail .head) (.cons (.tail .head) (.cons (.tail .head) (.cons (.tail (.tail (.tail (.tail .head)))) (.cons (.tail (.tail (.tail (.tail .head)))) (bD (mQ _) [_,_,_,_]))))))) ⟨by rw[Z8,hu,aaa,aaO],iu,Dx.trans (by rw[hg,hu];rfl),by rw[hp,hf,hu];exact ah3 _▸rfl⟩
 rw[hw];show aY (by simp);show fY;k_extra "g.s1";change EB c (n+6) ⟨tH x an ae g d w (some (.ref o)) LD,(x,.inst 188 dx)::(dx,.dict (kH (.ref m) (.ref r) (.int (po+us.length)) (.int nf)) 4)::(m,.map (ff iu) ep)::(r,.list [])::(g,.list ((gv++us).map .str))::(d,.list (dn.map .str))::(w,.list ((w'++[Ao]).map .str))::(an,.list (ns.map .str))::(ae,.list (gP es))::(hU es++bC iu)⟩ _ _ _;rw[(by rw[aaj];rfl:(w'++[Ao]).map AV.str=w'.map .str++[.str Ao])];have X8:w'.length≤900:=by have:=congrArg aaV hw;rw[aar,aar]at this;exact SJ (by assumption) (hT.l3)
 show ah;symm;show oX (ys:=w'.map .str) ⋯ (by rw[aaa];exact aaC X8 '2');symm;show bY '0' (by rw[aaa];exact lz _ hT.l2);rw[aaa];symm;show iy '2';rw[(by rw[adT _ '2'];rfl:aiF (dn.length:Int) 2=((dn.length%2:Nat):Int))];symm;by_cases q:dn.length%2=0
 ·rw[if_pos q,q]at hd2;show bA (by simp[q]);symm;refine aH (Cw (n:=n) (ps:=[Ao]) (ns:=iu) (rl:=[]) (rl2:=rl2) (nf2:=nf2) (b:=true) (g2:=g2) (aae rfl) (λs hs=>by rw[aaL.mp hs];exact hr) (Dx▸hd2)) (vy [] iu [] (po+us.length) nf (gv++us) dn w') hK hd (IJ λz0 w5 Wo=>?_) (λzz zz h=>nomatch h.1);show PL.go (l:=runC x dx m r g d w an ae ep w5 rl2 (po+us.length) nf2 (gv++us) dn w' ns es) (vy [] w5 rl2 _ nf2 _ _ _);symm;show aS ⋯ (by rw[aaa];exact lz _ hT.l2);symm;exact hN k' _ G7 (IA w5 rl2 (po+us.length) nf2 (gv++us) (dn++[Ao]) w' (some (.ref o)) (some (.str Ao)) ⟨by change _=(⟨_,_::_::_::_::_::(d,.list ((dn++[Ao]).map .str))::_⟩:SS);rw[aaj (l₁:=dn)];rfl,Wo.symm▸hk⟩)
 have q1:dn.length%2=1:=by exact ahl.mp q
 rw[if_neg q,q1]at hd2;show aY (by simp;exact λq=>absurd (q1.symm.trans (afY.mp q)) agB);symm;refine⟨aae rfl,λl7=>?_⟩;symm;refine aH (jG (n:=n) (ps:=[Ao,"zz"]) (ns:=iu) (rl:=[]) (rl2:=rl2) (nf2:=nf2) (b:=false) (g2:=g2) (aae rfl) (λs hs=>?_) (Dx▸hd2)) (.cons .head (vy [] iu [] (po+us.length) nf (gv++us) dn w')) hK hd (λv C hv=>?_) (λzz zz h=>h.elim);rcases aai.mp hs with h|h;rw[h];exact hr;rw[aaL.mp h];exact aae (by decide+kernel);let r0 w5 Wo r3:=AL hv;subst r0;subst r3;show PL.go (l:=(l7,.list ([Ao,"zz"].map AV.str))::runC x dx m r g d w an ae ep w5 rl2 (po+us.length) nf2 (gv++us) dn w' ns es) (.cons .head (vy [] w5 rl2 _ nf2 _ _ _));show bj;show aY '2';show fY;symm;show aS ⋯ (by rw[aaa];exact lz _ hT.l2);symm;exact hN k' _ G7 (IA w5 rl2 (po+us.length) nf2 (gv++us) (dn++[Ao]) w' (some (.ref o)) (some (.str Ao)) ⟨by change _=(⟨_,_::_::_::_::_::(d,.list ((dn++[Ao]).map .str))::_⟩:SS);rw[aaj (l₁:=dn)];rfl,Wo.symm▸hk⟩)
end
section
open PySem.Builtin PySem.Builtin.Str
section
variable{c:Cx} {n:Nat} {S:SS} {E:EP} {x:Str} {px:Pos} {elt iter:Expr} {ifs:List Expr} {scope:Scope} {pos:Pos} {P:Nat→Obj→Prop} {D:Addr} {B:Cells} {Q:SS→Prop}
theorem LP.zip(xs ys:List AV)(hl:xs.length=ys.length)(hz:ys.length≤lim)(hn:∀(i:Nat) (y:AV) (v:Option AV) (G:Cells),xs[i]? =some y→xo c n ⟨[(x,v)],G++B⟩ P i y)(he:∀(i:Nat) (y z:AV) (T:AO) (Z:AV→SS→Prop),xs[i]? =some y→ys[i]? =some z→(∀G,Z z ⟨[(x,some y)],G++(D,T)::B⟩)→EE c n ⟨[(x,some y)],(D,T)::B⟩ elt Z hW)(fin:∀(G:Cells) (v:Option AV),xq c n ⟨[(x,v)],G++(D,.list ys)::B⟩ P xs.length∧Q ⟨[(x,v)],G++(D,.list ys)::B⟩):LP c n ⟨[(x,none)],(D,.list [])::B⟩ (.ListComp elt [⟨.Name x px,iter,[],0⟩] scope pos) 0 P D Q:=by show LP.loop rfl eR xs (λi S=>∃G v,S=⟨[(x,v)],G++(D,.list (ys.take i))::B⟩) (ba [] none rfl) ?_;intro i y S1 hx;revert S1;let G v:=ug;have hi:i<ys.length:=hl▸(aav.mp hx).1;obtain⟨z,tM⟩:∃z,ys[i]? =some z:=⟨_,aay hi⟩;refine⟨?_,λu hu=>W.d8 (cA (c:=c) (n:=n) (S:=⟨[(x,v)],(D,.list (ys.take i))::B⟩) (Q:=λS2=>TS c n S2 [] (λok S3=>if ok=true then BD c n S3 elt [⟨.Name x px,iter,[],0⟩] scope pos 0 D (λS=>∃G v,S=⟨[(x,v)],G++(D,.list (ys.take (i+1)))::B⟩)else∃G v,S3=⟨[(x,v)],G++(D,.list (ys.take (i+1)))::B⟩) hW) (E:=hW) .head (iC ?_) u hu)⟩;have:=hn i y v (G++[(D,.list (ys.take i))]) hx;rw[aaw]at this;exact this;rw[if_pos rfl];refine .inl ⟨rfl,he i y z _ _ hx tM λG4=>?_⟩;refine ba _ _ ⟨aI.at G4,aab (abh _ _) hz,G4,some y,?_⟩;rw[aaK,tM];rfl;let G v:=ug;rw[hl,abi];exact hl▸fin G v
theorem LP.news(xs:List AV)(zs:List (List Str))(hl:xs.length=zs.length)(hz:zs.length≤lim)(hn:∀(i:Nat) (y:AV) (v:Option AV) (G:Cells),xs[i]? =some y→xo c n ⟨[(x,v)],G++B⟩ P i y)(he:∀(i:Nat) (y:AV) (z:List Str) (T:AO) (C:Cells) (Z:AV→SS→Prop),xs[i]? =some y→zs[i]? =some z→(∀a,Z (.ref a) ⟨[(x,some y)],(a,.list (z.map .str))::(C++(D,T)::B)⟩)→EE c n ⟨[(x,some y)],C++(D,T)::B⟩ elt Z hW)(fin:∀(rs:Fw) (v:Option AV),rs.map (λx=>x.2)=zs→xq c n ⟨[(x,v)],(bL rs).reverse++(D,.list (bv rs))::B⟩ P xs.length∧Q ⟨[(x,v)],(bL rs).reverse++(D,.list (bv rs))::B⟩):LP c n ⟨[(x,none)],(D,.list [])::B⟩ (.ListComp elt [⟨.Name x px,iter,[],0⟩] scope pos) 0 P D Q:=by
 show LP.loop rfl eR xs (λi S=>∃(rs:Fw) (v:Option AV),S=⟨[(x,v)],(bL rs).reverse++((D,.list (bv rs))::B:Cells)⟩∧rs.map (λx=>x.2)=zs.take i) (ba [] none ⟨rfl,rfl⟩) ?_;intro i y S1 hx;revert S1;let rs v tD:=gt;have hi:i<zs.length:=hl▸(aav.mp hx).1;obtain⟨z,tM⟩:∃z,zs[i]? =some z:=⟨_,aay hi⟩;refine⟨?_,cA (c:=c) (n:=n) .head (iC ?_)⟩;have:=hn i y v ((bL rs).reverse++[(D,.list (bv rs))]) hx;rw[aaw]at this;exact this;rw[if_pos rfl];refine .inl ⟨rfl,he i y z _ _ _ hx tM λa=>?_⟩;refine ba (bv rs) _ ⟨aI.mid (l:=(a,.list (z.map .str))::(bL rs).reverse),?_,rs++[(a,z)],some y,?_,?_⟩;have:=congrArg aaV tD;rw[aaa]at this;rw[bv,aaa,this];exact aab (abh _ _) hz;have q1:(bL (rs++[(a,z)])).reverse=(a,.list (z.map .str))::(bL rs).reverse:=by unfold bL;rw[aaj,ad3];rfl
 have q2:bv (rs++[(a,z)])=bv rs++[.ref a]:=by unfold bv;rw[aaj];rfl
 rw[q1,q2];rw[aaj,tD,aaK,tM];rfl;let rs v tD:=gt;rw[hl,abi]at tD;exact fin rs v tD
theorem LP.refs(xs:List AV)(zs:List (List Str))(hl:xs.length=zs.length)(hz:zs.length≤lim)(hn:∀(i:Nat) (y:AV) (v:Option AV) (G:Cells),xs[i]? =some y→xo c n ⟨[(x,v)],G++B⟩ P i y)(he:∀(i:Nat) (y:AV) (z:List Str) (T:AO) (C:Cells) (Z:AV→SS→Prop),xs[i]? =some y→zs[i]? =some z→(∀a G,(a,.list (z.map .str))∈G∨(a,.list (z.map .str))∈B→Z (.ref a) ⟨[(x,some y)],G++(C++(D,T)::B)⟩)→EE c n ⟨[(x,some y)],C++(D,T)::B⟩ elt Z hW)(fin:∀(as:List Addr) (G:Cells) (v:Option AV),as.length=zs.length→(∀(j:Nat) (a:Addr) (z:List Str),as[j]? =some a→zs[j]? =some z→(a,AO.list (z.map .str))∈G++(D,.list (as.map .ref))::B)→xq c n ⟨[(x,v)],G++(D,.list (as.map .ref))::B⟩ P xs.length∧Q ⟨[(x,v)],G++(D,.list (as.map .ref))::B⟩):LP c n ⟨[(x,none)],(D,.list [])::B⟩ (.ListComp elt [⟨.Name x px,iter,[],0⟩] scope pos) 0 P D Q:=by
 show LP.loop rfl eR xs (λi S=>∃(as:List Addr) (G:Cells) (v:Option AV),S=⟨[(x,v)],G++((D,.list (as.map .ref))::B:Cells)⟩∧as.length=i∧∀(j:Nat) (a:Addr) (z:List Str),as[j]? =some a→zs[j]? =some z→(a,AO.list (z.map .str))∈G∨(a,AO.list (z.map .str))∈B) (eY [] [] none ⟨rfl,rfl,λj a z h=>by simp at h⟩) ?_;intro i y S1 hx;revert S1;let as G v hlen hm:=nX;have hi:i<zs.length:=hl▸(aav.mp hx).1;obtain⟨z,tM⟩:∃z,zs[i]? =some z:=⟨_,aay hi⟩;refine⟨?_,cA (c:=c) (n:=n) .head (iC ?_)⟩;have:=hn i y v (G++[(D,.list (as.map .ref))]) hx;rw[aaw]at this;exact this;rw[if_pos rfl];refine .inl ⟨rfl,he i y z _ _ _ hx tM λa G4 Z9=>?_⟩;refine ba (as.map .ref) (G4++(G++(D,.list (as.map .ref++[.ref a]))::B)) ⟨aI.right aI.mid,by rw[aaa,hlen];exact Ar hz hi,as++[a],G4++G,some y,by rw[aaj,aaw];rfl,by rw[aar,hlen];rfl,λj b z' hj Ls=>?_⟩;by_cases q:j<i;rw[ac4 (by exact Nx hlen q)]at hj;rcases hm j b z' hj Ls with h|h;exact .inl (aad _ h);exact .inr h;have RP:=(aav.mp hj).1;rw[aar,hlen]at RP;obtain rfl:j=i:=by simp at RP;exact LJ q RP
 rw[acX (by exact aaz hlen),hlen,adv]at hj;obtain rfl:a=b:=by simpa using hj
 rw[tM]at Ls;obtain rfl:=aaJ Ls;rcases Z9 with h|h;exact .inl (aaf _ h);exact .inr h;let as G v hlen hm:=nX;exact fin as G v (hlen.trans hl) λj a z h1 h2=>(hm j a z h1 h2).elim (aaf _) λh=>aad _ (.tail _ h)
end
end
section
open PySem.Builtin PySem.Builtin.Str
variable{Q:FL→SS→Prop}
structure pR(r:List Str)(cf:Bool):Prop where
 ne:r≠[]
 len:r.length≤10
 wl:∀w∈r,w.length≤10
 un:∀w∈r,w.length≠0→(gH w).isSome=true
 rep:∀w∈r,(ada w "'" "'\"'\"'").length≤1000
 jn:((r.map hH).toArray.foldl (·+·.length+(" ":Str).length) 0)≤lim
 fl:glued " " (r.map hH)=gL r
 l5:(gL r).length≤500
 st:(dz (gL r)).length≤1000
 la:∀l,(gL r).cps.toList≠l++[92]
 red:∃k b',Red k (j9 ((uP (gL r).cps.toList).count [34]) (uP (gL r).cps.toList) 0 "") b'∧(b'=="")=cf
 ac:fp (gL r)=if cf=true then gL r else"('', '')"
 rd:Rd (fp (gL r)) (0,false) (if cf=true then r else["(,",")"])
structure LX(c:Cx)(cr cl ct ce:Addr):Prop where
 hK:c.K=K0 c.w.params
 hd:c.hd=none
 aZ:c.fx=bd
 hc:c.comp=false
 bl:c.env=envX bd.cn bd.cs c.L bd.a bd.cd (aco (c.L+1) bd.cs.names [])
 h0:c.L+1+0=cr
 h1:c.L+1+1=cl
 h2:c.L+1+2=ct
 h3:c.L+1+3=ce
theorem LX.ht(h:LX c cr cl ct ce):pB c [("rows",cr),("lines",cl),("table",ct),("every",ce)]:=pB.of (by rw[h.bl,←h.h0,←h.h1,←h.h2,←h.h3];kernel_rfl)
theorem LX.kF(h:LX c cr cl ct ce):ew c [("rows",cr),("lines",cl),("table",ct),("every",ce)]:=ew.of (by rw[h.bl,←h.h0,←h.h1,←h.h2,←h.h3];kernel_rfl)
theorem LX.cls(h:LX c cr cl ct ce)(scope:Scope):aeO scope c.env=aeO scope (envX bd.cn bd.cs c.L bd.a bd.cd (aco (c.L+1) bd.cs.names [])):=by rw[h.bl]
theorem vz{p:Addr×AO}{l:Cells}(h:At p l):∃r,jq p l r:=by induction h with|head=>exact⟨_,.head⟩|tail _ ih=>let r hr:=eE ih;exact⟨_,.tail hr⟩
abbrev eu(l:Addr)(fi va to fs nm ed so he co na qu:Option AV):List (Str×Option AV):=[("script",some (.ref l)),("fields",fi),("values",va),("told",to),("first",fs),("names",nm),("edges",ed),("sorter",so),("held",he),("come",co),("name",na),("quiet",qu)]
theorem HC(P:aao):zt (K0 P) ("join_shlex",.ref 899)∧zt (K0 P) ("_law_line",.ref 917)∧zt (K0 P) ("_law_closes",.ref 924)∧zt (K0 P) ("split",.ref 892):=⟨⟨by kernel_rfl,.inl '3'⟩,⟨by kernel_rfl,.inl '3'⟩,⟨by kernel_rfl,.inl '3'⟩,⟨by kernel_rfl,.inl '3'⟩⟩
theorem Wp{xs:List Int}{E:EP}(hB:QM l (xs.map .int) c.base)(hX:LX c cr cl ct ce)(hz:xs.length≤1000)(R_:(gm (ja xs)).length≤100)(hr:∀r∈gm (ja xs),pR r (cf r))(k:∀(ro li va:Addr) (rs:Fw) (fi:AV),rs.map (λx=>x.2)=gm (ja xs)→EB c (n+10) ⟨eu l (some fi) (some (.ref va)) none none none none none none none none none,(894,.obj aE)::(cr,.cell (some (.ref ro)))::(cl,.cell (some (.ref li)))::(ct,.cell none)::(ce,.cell none)::(ro,.list (bv rs))::(li,.list ((rs.map λe=>gL e.2).map .str))::(va,.list (((rs.map λe=>gL e.2).map fp).map .str))::bL rs⟩ (da.drop 5) Q E):EB c (n+10) ⟨eu l none none none none none none none none none none none,[(894,.obj aE),(cr,.cell none),(cl,.cell none),(ct,.cell none),(ce,.cell none)]⟩ da Q E:=by
 have ht:=hX.ht;have kF:=hX.kF;have i0:=hX.cls;obtain⟨hK,hd,aZ,hc,bl,h0,h1,h2,h3⟩:=hX;have lz:∀k,k≤900→k≤lim:=λk hk=>aab hk '2';have CX:=HC c.w.params;rw[←hK]at CX;refine ah (q0 ht .head ?_);symm;let v C hv:=B0.call (KH (n:=n) hz c hB) hK hd;let ro rs r2 tD r4:=bG hv;subst r2;subst r4;show PL.go (l:=(894,.obj aE)::(cr,.cell none)::(cl,.cell none)::(ct,.cell none)::(ce,.cell none)::(ro,.list (bv rs))::bL rs) (.cons (.tail (.tail (.tail (.tail (.tail .head))))) (fM [_,_,_,_,_] (bL rs)));refine ba _ _ ⟨.tail .head,?_⟩;have Ap:∀e∈rs,pR e.2 (cf e.2):=λe he=>hr _ (tD▸aat (f:=(λx=>x.2)) he);have hlen:rs.length≤100:=by have:=congrArg aaV tD;rw[aaa]at this;exact HL R_ this
 k_extra "g.s1";have X9:∀(i:Nat) (y:AV),(bv rs)[i]? =some y→∃e∈rs,rs[i]? =some e∧y= .ref e.1:=λi y hy=>by unfold bv at hy;rw[aag]at hy;let e he r2:=ak (aaq.mp hy);subst r2;exact⟨e,aaA he,he,rfl⟩
 have xK:(bv rs).length=rs.length:=by unfold bv;rw[aaa]
 refine my (xs:=["words"]) (cl:=[]) (gl:=[("join_shlex",.ref 899)]) ⟨by rw[i0];kernel_rfl,by with_unfolding_all decide,by with_unfolding_all rfl,by with_unfolding_all decide,by with_unfolding_all decide,by decide,λp hp=>by obtain rfl:=aaL.mp hp;exact⟨CX.1,by rw[bl];kernel_rfl⟩⟩ ?_ (by rw[bl];kernel_rfl) (hc:=hc);show bP kF .head ⋯;refine CA.go (P:=aQ ro) (λu hu=>cJ '0' hu) d5 (λD=>by k_extra "m.at") λD m L=>LP.zip (bv rs) ((rs.map λe=>gL e.2).map .str) (by rw[xK,aaa,aaa]) (by rw[aaa,aaa];exact lz _ (by exact vQ hlen)) (λi y v G hx=>cM (aad _ '0') hx) ?_ ?_
 ·intro i y z T Z hx w6 hT;let e he ie r3:=bN (X9 i y hx);subst r3;rw[aag,aag,ie]at w6;have R:=Ap e he;refine mu (mr (fx:={c.fx with gl:=[("join_shlex",.ref 899)],cs:=aex _ c.env}) rfl .head (mx (fO hK (kp 899 '2')) ?_));symm;let r QF:=eE (vz (lJ he));have QQ:aq [(894,.obj aE),(e.1,.list (e.2.map .str))] ((D,T)::(894,.obj aE)::(cr,.cell (some (.ref ro)))::(cl,.cell none)::(ct,.cell none)::(ce,.cell none)::(ro,.list (bv rs))::bL rs) ((D,T)::(cr,.cell (some (.ref ro)))::(cl,.cell none)::(ct,.cell none)::(ce,.cell none)::(ro,.list (bv rs))::r):=.cons (.tail .head) (.cons (.tail (.tail (.tail (.tail (.tail (.tail QF)))))) .nil);refine aH (J4 (n:=n) (xs:=e.2) (λw hw=>⟨R.un w hw,aab (R.wl w hw) '2',R.rep w hw⟩) (aab R.len '2') R.jn) QQ hK hd (GQ ?_) (λzz zz h=>h.elim);rw[R.fl];exact .go QQ (eqQ (aaJ w6) (hT []))
 intro G v;rw[xK];refine⟨xK▸cN (aad _ '0') hd,?_⟩;change EB _ _ _ _ _ _;show W.d8;change EB c (n+10) ⟨eu l (some (.ref D)) none none none none none none none none none none,(D,.list ((rs.map λe=>gL e.2).map .str))::(894,.obj aE)::(cr,.cell (some (.ref ro)))::(cl,.cell none)::(ct,.cell none)::(ce,.cell none)::(ro,.list (bv rs))::bL rs⟩ _ _ _;refine ah (q0 ht (.tail .head) (fD (xs:=["words"]) (cl:=[]) (gl:=[("_law_line",.ref 917)]) ⟨by rw[i0];kernel_rfl,by with_unfolding_all decide,by with_unfolding_all rfl,by with_unfolding_all decide,by with_unfolding_all decide,by decide,λp hp=>by obtain rfl:=aaL.mp hp;exact⟨CX.2.1,by rw[bl];kernel_rfl⟩⟩ ?_ (hc:=hc)) (by rw[bl];kernel_rfl));show bP kF .head ⋯;refine CQ.go (P:=aQ ro) (λu hu=>cJ '0' hu) d5 λD2 m L=>LP.zip (bv rs) ((rs.map λe=>gL e.2).map .str) (by rw[xK,aaa,aaa]) (by rw[aaa,aaa];exact lz _ (by exact vQ hlen)) (λi y v G hx=>cM (aad _ '0') hx) ?_ ?_
 ·intro i y z T Z hx w6 hT;let e he ie r3:=bN (X9 i y hx);subst r3;rw[aag,aag,ie]at w6;have R:=Ap e he;refine mu (mr (fx:={c.fx with gl:=[("_law_line",.ref 917)],cs:=aex _ c.env}) rfl .head (mx (fO hK (kp 917 '2')) ?_));symm;let r QF:=eE (vz (lJ he));have QQ:aq [(e.1,.list (e.2.map .str))] ((D2,T)::(D,.list ((rs.map λe=>gL e.2).map .str))::(894,.obj aE)::(cr,.cell (some (.ref ro)))::(cl,.cell none)::(ct,.cell none)::(ce,.cell none)::(ro,.list (bv rs))::bL rs) ((D2,T)::(D,.list ((rs.map λe=>gL e.2).map .str))::(894,.obj aE)::(cr,.cell (some (.ref ro)))::(cl,.cell none)::(ct,.cell none)::(ce,.cell none)::(ro,.list (bv rs))::r):=.cons (.tail (.tail (.tail (.tail (.tail (.tail (.tail (.tail QF)))))))) .nil;refine aH (Kn (n:=n) R.len R.wl) QQ hK hd (GQ ?_) (λzz zz h=>h.elim);exact .go QQ (eqQ (aaJ w6) (hT []))
 intro G v;rw[xK];refine⟨xK▸cN (aad _ '0') hd,?_⟩;refine ba _ _ ⟨aI.right (.tail (.tail (.tail (.tail .head)))),?_⟩;change EB _ _ _ _ _ _;show W.d8;change EB c (n+10) ⟨eu l (some (.ref D)) none none none none none none none none none none,(D2,.list ((rs.map λe=>gL e.2).map .str))::(D,.list ((rs.map λe=>gL e.2).map .str))::(894,.obj aE)::(cr,.cell (some (.ref ro)))::(cl,.cell (some (.ref D2)))::(ct,.cell none)::(ce,.cell none)::(ro,.list (bv rs))::bL rs⟩ _ _ _;generalize O4:(rs.map λe=>gL e.2)=ln;have RW:ln.length=rs.length:=by rw[←O4,aaa]
 have X_:∀x∈ln,∃e∈rs,x=gL e.2:=λx hx=>by rw[←O4]at hx;let e he r2:=ak (aaH.mp hx);subst r2;exact⟨e,he,rfl⟩
 show ah;symm;refine aH (Fg (n:=n) (ls:=ln) (by exact SB hlen RW) (λx hx=>by refine ak (X_ x hx) λe he r2=>?_;obtain rfl:=r2;exact⟨(Ap e he).l5,(Ap e he).st⟩)) (.cons (.tail .head) .nil) hK hd (Tf λva=>?_) (λzz zz h=>h.elim);show PL.go (l:=(va,.list ((ln.map fp).map .str))::(D2,.list (ln.map .str))::(D,.list (ln.map .str))::(894,.obj aE)::(cr,.cell (some (.ref ro)))::(cl,.cell (some (.ref D2)))::(ct,.cell none)::(ce,.cell none)::(ro,.list (bv rs))::bL rs) (.cons .head (.cons (.tail .head) .nil));symm;change EE _ _ _ _ _ _;show bP kF (.tail .head) ⋯;refine fX (m:=1) (xs:=ln.map .str) (ys:=ln.map .str) (f:=G1) '0' '0' kT ?_ (by exact abm _ _);rw[jo,beq_self_eq_true];show bj;show aY '2';symm;refine fD (xs:=["line"]) (cl:=[]) (gl:=[("_law_closes",.ref 924)]) ⟨by rw[i0];kernel_rfl,by with_unfolding_all decide,by with_unfolding_all rfl,by with_unfolding_all decide,by with_unfolding_all decide,by decide,λp hp=>by obtain rfl:=aaL.mp hp;exact⟨CX.2.2.1,by rw[bl];kernel_rfl⟩⟩ ?_ (hc:=hc);show bP kF (.tail .head) ⋯;refine CQ.go (P:=aQ D2) (λu hu=>cJ '0' hu) d5 λD3 m L=>LP.zip (ln.map .str) ((ln.map fp).map .str) (by rw[aaa,aaa,aaa]) (by rw[aaa,aaa];exact lz _ (by exact SK hlen RW)) (λi y v G hx=>cM (aad _ '0') hx) ?_ ?_
 ·intro i y z T Z hx w6 hT;rw[aag]at hx;let x rW r2:=ak (aaq.mp hx);subst r2;rw[aag,aag,rW]at w6;have hz:=aaJ w6;let e he r2:=ak (X_ x (aaA rW));subst r2;have R:=Ap e he;refine Jk (ph ?_);refine mu (mr (fx:={c.fx with gl:=[("_law_closes",.ref 924)],cs:=aex _ c.env}) rfl .head (mx (fO hK (kp 924 '2')) ?_));symm;let k1 b1 KO Wq:=cI R.red;refine aH (vq (n:=n) (aab R.l5 '2') R.la KO) .nil hK hd (GQ ?_) (λzz zz h=>h.elim);show .go .nil;rw[Wq];show bj;have KQ:=R.ac;cases CY:cf e.2 with|true=>rw[CY,if_pos rfl]at KQ;show bA rfl;symm;exact eqQ (by rw[←hz,KQ]) (hT [])|false=>rw[CY,if_neg aa1]at KQ;show aY aa1;symm;exact eqQ (by rw[←hz,KQ]) (hT [])
 intro G v;refine⟨cN (aad _ '0') hd,?_⟩;change CO _ _ _ _ _ _ _ _;refine fX (m:=1) (xs:=(ln.map fp).map .str) (ys:=(ln.map fp).map .str) (f:=G1) (aad _ '0') (aad _ (.head _)) kT ?_ (by exact abm _ _);rw[jo,beq_self_eq_true];show bj;show aY '2';k_extra "g.s1";show aY '2';show W.d8;change EB c (n+10) ⟨eu l (some (.ref D)) (some (.ref va)) none none none none none none none none none,(D3,.list ((ln.map fp).map .str))::(va,.list ((ln.map fp).map .str))::(D2,.list (ln.map .str))::(D,.list (ln.map .str))::(894,.obj aE)::(cr,.cell (some (.ref ro)))::(cl,.cell (some (.ref D2)))::(ct,.cell none)::(ce,.cell none)::(ro,.list (bv rs))::bL rs⟩ _ _ _;show d0;change EB c (n+10) _ (da.drop 5) Q E;subst O4;have t4:∀{p a b d e:Addr×AO} {t:Cells},jq p (a::b::d::e::p::t) (a::b::d::e::t):=.tail (.tail (.tail (.tail .head)));exact W.into (.cons t4 (.cons t4 (.cons t4 (.cons t4 (.cons t4 (.cons t4 (.cons (.tail (.tail .head)) (.cons (.tail .head) (fM [_,_] (bL rs)))))))))) (k ro D2 va rs (.ref D) tD)
end
section
open PySem.Builtin PySem.Builtin.Str
variable{E:EP}
theorem W.nodup{t:Sem α}{Q:α→SS→Prop}(h:(S.cells.map (λx=>x.1)).Nodup→W c n S t Q E):W c n S t Q E:=.i λok X A s hA R=>by
 have nd:((S.ext X).cells.map (λx=>x.1)).Nodup:=(aaX.mp (aaB.mp R.nd).2).2.1;have jK:(S.cells.map (λx=>x.1)).Nodup:=by rw[(aaj .. :(S.ext X).cells.map (λx=>x.1)=S.cells.map (λx=>x.1)++X.map (λx=>x.1))]at nd;exact(aaX.mp nd).1
 exact(h jK).run ok X A s hA R
theorem FV{x y:AO}(nd:(C.map (λx=>x.1)).Nodup)(hx:(a,x)∈C)(hy:(a,y)∈C):x=y:=by
 induction C with
 |nil=>cases hx
 |cons p l ih=>have nd:=aaB.mp nd;rcases aai.mp hx with h1|h1;rcases aai.mp hy with h2|h2;have:=h1.trans h2.symm;injection this;exact absurd (show p.1∈l.map (λx=>x.1)from(congrArg aes h1)▸aat (f:=(λx=>x.1)) h2) nd.1;rcases aai.mp hy with h2|h2;exact absurd (show p.1∈l.map (λx=>x.1)from(congrArg aes h2)▸aat (f:=(λx=>x.1)) h1) nd.1;exact ih nd.2 h1 h2
theorem vA:∀{a b:List Str},a.map AV.str=b.map AV.str→a=b|[],[],_=>rfl|[],_::_,h=>nomatch h|_::_,[],h=>nomatch h|x::a,y::b,h=>by rw[aan,aan,acr]at h;rw[(by injection h.1:x=y),vA h.2]
open Classical in
def nP(C:Cells)(x:AV):List Str:=if h:∃(zs:List Str) (a:Addr),x= .ref a∧(a,AO.list (zs.map .str))∈C then adp h else[]
theorem pS(h:(a,AO.list (z.map .str))∈C):(a,AO.list ((nP C (.ref a)).map .str))∈C:=by have hx:∃(zs:List Str) (b:Addr),AV.ref a= .ref b∧(b,AO.list (zs.map .str))∈C:=(ba z a ⟨rfl,h⟩);unfold nP;rw[dif_pos hx];let b hb hm:=ak (aeJ hx);injection hb with hb;rw[←hb]at hm;exact hm
theorem FW(nd:(C.map (λx=>x.1)).Nodup)(h:(a,AO.list (z.map .str))∈C):nP C (.ref a)=z:=by have:=FV nd (pS h) h;injection this with this;exact vA this
theorem w7{b:Addr}{as bs:List Addr}{zs:List (List Str)}(hl:(l,.list (as.map .ref))∈S.cells)(hb:(b,.list (bs.map .ref))∈S.cells)(la:as.length=zs.length)(lb:bs.length=zs.length)(ha:∀(j:Nat) (a:Addr) (z:List Str),as[j]? =some a→zs[j]? =some z→(a,AO.list (z.map .str))∈S.cells) (KR:∀(j:Nat) (a:Addr) (z:List Str),bs[j]? =some a→zs[j]? =some z→(a,AO.list (z.map .str))∈S.cells)(h:Q (.bool false) S) (hn:3≤8*n):CO c n S .NotEq (.ref l) (.ref b) Q E:=λv w hv hw=>W.nodup λnd=>by
 have get:∀(cs:List Addr),cs.length=zs.length→(∀(j:Nat) (a:Addr) (z:List Str),cs[j]? =some a→zs[j]? =some z→(a,AO.list (z.map .str))∈S.cells)→(∀x∈cs.map AV.ref,∃(a:Addr) (z:List Str),x= .ref a∧(a,AO.list (z.map .str))∈S.cells)∧cs.map (λa=>nP S.cells (.ref a))=zs:=λcs hc hm=>by constructor;intro x hx;let a ha r2:=ak (aaH.mp hx);subst r2;obtain⟨j,hj,rfl⟩:=aeZ.mp ha;exact ba _ _ ⟨rfl,hm j _ _ (aay hj) (aay (by exact DJ hc hj))⟩;let j:=afK;rw[aag];by_cases hj:j<cs.length;rw[aay hj,aay (by exact DJ hc hj:j<zs.length)];exact congrArg some (FW nd (hm j _ _ (aay hj) (aay (by exact DJ hc hj))));rw[acz (by exact aa8 hj),acz (by exact LI hc hj)];rfl
 let g1 g2:=eA (get as la ha);let g3 g4:=eA (get bs lb KR);refine fX (m:=2) (f:=λx y=>nP S.cells x==nP S.cells y) hl hb (λx hx y hy=>?_) ?_ (by exact hn) v w hv hw;let a z r2 h1:=cI (g1 x hx);subst r2;let a2 z2 r2 h2:=cI (g3 y hy);subst r2;exact B8 (pS h1) (pS h2);have key:∀cs ds:List Addr,cs.map (λa=>nP S.cells (.ref a))=ds.map (λa=>nP S.cells (.ref a))→eqs (λx y=>nP S.cells x==nP S.cells y) (cs.map .ref) (ds.map .ref)=true:=by
  intro cs;induction cs with
  |nil=>intro ds hd;cases ds with|nil=>rfl|cons _ _=>cases hd
  |cons a cs ih=>
   intro ds hd;cases ds with
   |nil=>cases hd
   |cons b ds=>rw[aan,aan,acr]at hd;change((nP S.cells (.ref a)==nP S.cells (.ref b))&&_)=true;rw[hd.1,beq_self_eq_true,ih ds hd.2];rfl
 rw[key as bs (g2.trans g4.symm)];exact h
def gR(cf:List Str→Bool)(r:List Str):List Str:=if cf r=true then r else["(,",")"]
theorem Wr{ro li:Addr}{Q:FL→SS→Prop}(hX:LX c cr cl ct ce)(Ap:∀e∈rs,pR e.2 (cf e.2))(hlen:rs.length≤100)(k:∀(g to:Addr) (gs:Gs) (ge:Nat),ip gs=vo (rs.map λe=>gR cf e.2)→EB c (n+10) ⟨eu l (some fi) (some (.ref va)) (some (.ref to)) none none none none none none none none,(894,.obj aE)::(ct,.cell (some (.ref g)))::(ce,.cell none)::(g,.map (gM gs) ge)::gC gs⟩ (da.drop 8) Q E):EB c (n+10) ⟨eu l (some fi) (some (.ref va)) none none none none none none none none none,(894,.obj aE)::(cr,.cell (some (.ref ro)))::(cl,.cell (some (.ref li)))::(ct,.cell none)::(ce,.cell none)::(ro,.list (bv rs))::(li,.list ((rs.map λe=>gL e.2).map .str))::(va,.list (((rs.map λe=>gL e.2).map fp).map .str))::bL rs⟩ (da.drop 5) Q E:=by
 have ht:=hX.ht;have kF:=hX.kF;have i0:=hX.cls;obtain⟨hK,hd,aZ,hc,bl,h0,h1,h2,h3⟩:=hX;have lz:∀k,k≤900→k≤lim:=λk hk=>aab hk '2';have CX:=HC c.w.params;rw[←hK]at CX;have xK:(bv rs).length=rs.length:=by unfold bv;rw[aaa]
 have Z_:∀(i:Nat) (y:AV),(((rs.map λe=>gL e.2).map fp).map AV.str)[i]? =some y→∃e∈rs,rs[i]? =some e∧y= .str (fp (gL e.2)):=λi y hy=>by
  rw[aag,aag,aag]at hy;cases he:rs[i]? with
  |none=>rw[he]at hy;cases hy
  |some e=>rw[he]at hy;exact⟨e,aaA he,rfl,(aaJ hy).symm⟩
 refine ah (my (xs:=["value"]) (cl:=[]) (gl:=[("split",.ref 892)]) ⟨by rw[i0];kernel_rfl,by with_unfolding_all decide,by with_unfolding_all rfl,by with_unfolding_all decide,by with_unfolding_all decide,by decide,λp hp=>by obtain rfl:=aaL.mp hp;exact⟨CX.2.2.2,by rw[bl];kernel_rfl⟩⟩ ?_ (by rw[bl];kernel_rfl) (hc:=hc));k_extra "m.name";refine CA.go (P:=aQ va) (λu hu=>cJ '0' hu) d5 (λD=>by k_extra "m.at") λD m L=>LP.news _ (rs.map λe=>gR cf e.2) (by rw[(by rw[aaa,aaa,aaa]:(((rs.map λe=>gL e.2).map fp).map AV.str).length=rs.length),aaa]) (by rw[aaa];exact lz _ (by exact vQ hlen)) (λi y v G hx=>cM (aad _ '0') hx) ?_ ?_
 ·intro i y z T C Z hx w6 hT;let e he ie r3:=bN (Z_ i y hx);subst r3;rw[aag,ie]at w6;obtain rfl:=aaJ w6;have R:=Ap e he;refine mu (mr (fx:={c.fx with gl:=[("split",.ref 892)],cs:=aex _ c.env}) rfl .head (mx (fO hK (kp 892 '2')) ?_));symm;refine aH (FQ (n:=n) (ys:=gR cf e.2) ?_ ?_ R.rd) .nil hK hd (λv C hv=>?_) (λzz zz h=>h.elim);rw[R.ac];split;exact aab R.l5 '2';decide;unfold gR;split;exact aab R.len '2';decide;let a r1 r2:=ak hv;subst r1;subst r2;exact .go (.cons .head .nil) (hT a)
 intro ts v yo;refine⟨cN (aad _ '0') hd,?_⟩;change EB _ _ _ _ _ _;show W.fh aaY;change EB c (n+10) ⟨eu l (some fi) (some (.ref va)) (some (.ref D)) none none none none none none none none,(D,.list (bv ts))::(894,.obj aE)::(cr,.cell (some (.ref ro)))::(cl,.cell (some (.ref li)))::(ct,.cell none)::(ce,.cell none)::(ro,.list (bv rs))::(li,.list ((rs.map λe=>gL e.2).map .str))::(va,.list (((rs.map λe=>gL e.2).map fp).map .str))::(bL rs++(bL ts).reverse)⟩ _ _ _;show ah;symm;refine fD (xs:=["k"]) (cl:=[("rows",cr),("lines",cl)]) (gl:=[("_law_closes",.ref 924)]) ⟨by rw[i0,←h0,←h1];kernel_rfl,by with_unfolding_all decide,by with_unfolding_all rfl,by with_unfolding_all decide,by with_unfolding_all decide,by decide,λp hp=>by obtain rfl:=aaL.mp hp;exact⟨CX.2.2.1,by rw[bl];kernel_rfl⟩⟩ ?_ (hc:=hc);symm;show bP kF .head ⋯;symm;show bY '0' (by rw[xK];exact lz _ (by exact vQ hlen));rw[xK];symm;let r:=mA;have DC:ab_ 0 (rs.length:Int) 1=(rs.length:Int):=by rw[ahs];split<;>lia
 refine CQ.go (P:=mW 0 1 rs.length) (λu hu=>n5 (.head _) DC (small_one '2' '2' (by lia) (by lia):acO 0 (rs.length:Int) 1=true) hu) n9 λD2 m L=>LP.refs (tE (abu rs.length)) (rs.map λe=>gR cf e.2) (by rw[fL,abC,aaa]) (by rw[aaa];exact lz _ (by exact vQ hlen)) ?_ ?_ ?_;intro i y v G hx;let k hk r2:=ak (iM hx);subst r2;have hi:i<rs.length:=by have:=(aav.mp hk).1;simpa using this
 rw[acp hi]at hk;obtain rfl:i=k:=aaJ hk;exact n6 hi (by simp)
 ·intro i y z T C Z hx w6 hT;let j hj r2:=ak (iM hx);subst r2;have hi:i<rs.length:=(by have:=(aav.mp hj).1;simpa using this);rw[acp hi]at hj;obtain rfl:i=j:=aaJ hj;have ie:=aay hi;rw[aag,ie]at w6;have he:rs[i]∈rs:=acB hi;generalize rs[i]=e at ie he w6;have QR:z=gR cf e.2:=(aaJ w6).symm;unfold gR at QR;have R:=Ap e he;refine Jk (ph ?_);refine mu (mr (fx:={c.fx with gl:=[("_law_closes",.ref 924)],cs:=aex _ c.env}) rfl .head (mx (fO hK (kp 924 '2')) ?_));refine wC (d6 (bP (tab:=[("rows",cr),("lines",cl)]) (ew.ym bl '3') (.tail .head) (At.right ⋯) ?_));symm;refine⟨ty_list (At.right ⋯),d4 (aad _ '0') (by rw[aag,aag,ie];rfl:((rs.map λe=>gL e.2).map AV.str)[i]? =some (.str (gL e.2))) (by rw[aaa,aaa];exact lz _ (by exact vQ hlen)) ?_⟩;symm;let k1 b1 KO Wq:=cI R.red;refine aH (vq (n:=n) (aab R.l5 '2') R.la KO) .nil hK hd (GQ ?_) (λzz zz h=>h.elim);show .go .nil;rw[Wq];show bj;cases CY:cf e.2 with|true=>rw[CY,if_pos rfl]at QR;subst QR;show bA rfl;refine d6 (bP (tab:=[("rows",cr),("lines",cl)]) (ew.ym bl '3') .head (At.right ⋯) ?_);symm;refine⟨ty_list (At.right ⋯),d4 (aad _ '0') (by unfold bv;rw[aag,ie];rfl:(bv rs)[i]? =some (.ref e.1)) (by rw[xK];exact lz _ (by exact vQ hlen)) ?_⟩;have nI:=At.left (r:=(bL ts).reverse) (lJ he);exact hT e.1 [] (.inr (At.mem (by repeat(first|exact nI|apply At.tail))))|false=>rw[CY,if_neg aa1]at QR;subst QR;show aY aa1;symm;exact⟨aae rfl,λa=>hT a [(a,_)] (.inl (.head _))⟩
 intro as G v hal Ws;rw[fL,abC];refine⟨n7 hd,?_⟩;have RU:ts.length=rs.length:=by have:=congrArg aaV yo;rw[aaa,aaa]at this;exact this
 refine w7 (as:=ts.map (λx=>x.1)) (bs:=as) (zs:=rs.map λe=>gR cf e.2) (aad _ (by rw[←(by unfold bv;rw[aba];rfl:bv ts=(ts.map (λx=>x.1)).map .ref)];k_extra "m.mem")) (aad _ (.head _)) (by rw[aaa,aaa,RU]) hal ?_ Ws ?_ (by exact abm _ _);intro j a z h1 h2;rw[aag]at h1;let t Ho r2:=ak (aaq.mp h1);subst r2;have:t.2=z:=by have:=congrArg (λq=>q[j]?) yo;simp only[aag,Ho]at this;rw[aag]at h2;rw[←this]at h2;exact aaJ h2
 subst this;have nI:At (t.1,AO.list (t.2.map .str)) (bL rs++(bL ts).reverse):=At.right (at_of_mem (aii.mpr (lJ (aaA Ho)).mem));exact aad _ (At.mem (by repeat(first|exact nI|apply At.tail)));show bj;show aY aa1;show W.d8;show d0;change EB c (n+10) ⟨eu l (some fi) (some (.ref va)) (some (.ref D)) none none none none none none none none,(D2,.list (as.map .ref))::(r,.obj (fA 0 (rs.length:Int) 1))::(D,.list (bv ts))::(894,.obj aE)::(cr,.cell (some (.ref ro)))::(cl,.cell (some (.ref li)))::(ct,.cell none)::(ce,.cell none)::(ro,.list (bv rs))::(li,.list ((rs.map λe=>gL e.2).map .str))::(va,.list (((rs.map λe=>gL e.2).map fp).map .str))::(bL rs++(bL ts).reverse)⟩ (da.drop 7) Q E;have prv:aq (bL ts) (bL ts).reverse []:=by have:=CV (L:=[]) (bL ts);rwa [aaO]at this
 show W.into (D:=(894,.obj aE)::(ct,.cell none)::(ce,.cell none)::(D,.list (bv ts))::bL ts) (.cons (.tail (.tail (.tail .head))) (.cons (.tail (.tail (.tail (.tail (.tail .head))))) (.cons (.tail (.tail (.tail (.tail (.tail .head))))) (.cons (.tail (.tail .head)) (bD (bD prv (bL rs)) [_,_,_,_,_,_,_])))));change EB _ _ _ _ _ _;have Wm:∀e∈ts,e.2≠[]∧e.2.length≤10:=λe he=>by have:e.2∈ts.map (λx=>x.2):=aat (f:=λe:Addr×List Str=>e.2) he;rw[yo]at this;let r' Ry rN:=ak (aaH.mp this);rw[←rN];unfold gR;split;exact⟨(Ap r' Ry).ne,(Ap r' Ry).len⟩;exact⟨by simp,by decide⟩
 refine ah (q0 ht (.tail (.tail .head)) ?_);symm;refine aH (Fz (n:=n) (rs:=ts) (by exact HL hlen RU) Wm) (.cons (.tail (.tail (.tail .head))) (fM [_,_,_] (bL ts))) hK hd (DY λg gs ge Lo=>?_) (λzz zz h=>h.elim);show PL.go (l:=(894,.obj aE)::(ct,.cell none)::(ce,.cell none)::(g,.map (gM gs) ge)::gC gs) (.cons (.tail (.tail (.tail .head))) (fM [_,_,_] (gC gs)));refine ba _ _ ⟨.tail .head,?_⟩;exact k g D gs ge (Lo.trans (congrArg vo yo))
end
section
open PySem.Builtin PySem.Builtin.Str
variable{Q:FL→SS→Prop}
abbrev Sa:=List (Str×List Str)
def dJ(t:Sa):List Str:=(t.map λe=>e.1::e.2).flatten
def iY(ev:List Str):List Str:=((abu ev.length).filter λk=> !(ev.take k).contains (ev.getD k "")).map λk=>ev.getD k ""
def jV(t:Sa):List (Str×Str):=(t.map λe=>e.2.map λw=>(e.1,w)).flatten
theorem HD:∀{gs:Gs},(gs.map (λx=>x.1)).Nodup→∀{e:Str×Addr×List Str},e∈gs→dU (gM gs) e.1=some (.ref e.2.1):=by
 intro l0;induction l0 with
 |nil=>intros;first|contradiction|(rename_i h;cases h)|nofun
 |cons a t ih=>
  intro nd e he;have a1:dU (gM (a::t)) e.1=if a.1=e.1 then some (.ref a.2.1)else dU (gM t) e.1:=rfl
  have nd:=aaB.mp nd;rw[a1];rcases aai.mp he with rfl|h;rw[if_pos rfl];have gU:¬a.1=e.1:=λq=>nd.1 (by change a.1∈_;rw[q];exact aat (f:=λx:Str×Addr×List Str=>x.1) h);rw[if_neg gU,ih nd.2 h]
theorem CZ{t:Sa}(h:∀e∈t,e.2.length≤100):(dJ t).length≤t.length*101:=by unfold dJ;rw[ahm,aba];exact wY λe he=>acC (h e he)
theorem KS{t:Sa}(h:∀e∈t,e.2.length≤100):(jV t).length≤t.length*100:=by unfold jV;rw[ahm,aba];let e he:=wY;change(e.2.map _).length≤_;rw[aaa];exact h e he
def gI(ev:List Str):AV→AV| .int z=>.str (ev.getD z.toNat "")|y=>y
theorem KT:∀l:List Nat,(tE l).map (gI ev)=(l.map λk=>ev.getD k "").map .str:=by intro l0;induction l0 with|nil=>exact rfl|cons k l ih=>have ih:=ih;unfold tE at ih⊢;rw[aan,aan,ih];change AV.str (ev.getD ((k:Int).toNat) "")::_=_;rw[ade]
theorem Wt{to g ge:Addr}{gs:Gs}{E:EP}(hX:LX c cr cl ct ce)(Aj:gs.length≤7)(uv:∀e∈gs,e.2.2.length≤100)(kh:(gs.map (λx=>x.1)).Nodup)(k:∀(an ae:Addr) (es:List yn) (fs:Option AV),es.map (λx=>x.2)=jV (ip gs)→EB c (n+10) ⟨eu l (some fi) (some (.ref va)) (some (.ref to)) fs (some (.ref an)) (some (.ref ae)) none none none none none,(ae,.list (gP es))::(an,.list ((iY (dJ (ip gs))).map .str))::(894,.obj aE)::(ct,.cell (some (.ref g)))::(g,.map (gM gs) ge)::(gC gs++hU es)⟩ (da.drop 12) Q E):EB c (n+10) ⟨eu l (some fi) (some (.ref va)) (some (.ref to)) none none none none none none none none,(894,.obj aE)::(ct,.cell (some (.ref g)))::(ce,.cell none)::(g,.map (gM gs) ge)::gC gs⟩ (da.drop 8) Q E:=by
 have ht:=hX.ht;have kF:=hX.kF;have i0:=hX.cls;obtain⟨hK,hd,aZ,hc,bl,h0,h1,h2,h3⟩:=hX;have lz:∀k,k≤900→k≤lim:=λk hk=>aab hk '2';have xH:(ip gs).length=gs.length:=by unfold ip;rw[aaa]
 have KU:∀x∈ip gs,x.2.length≤100:=λx hx=>by unfold ip at hx;let e he r2:=ak (aaH.mp hx);subst r2;exact uv e he
 refine ah (q0 ht (.tail (.tail (.tail .head))) ?_);symm;refine⟨aaD _,λv=>?_⟩;refine ba _ _ ⟨.tail (.tail (.tail .head)),?_⟩;change EB c (n+10) ⟨eu l (some fi) (some (.ref va)) (some (.ref to)) none none none none none none none none,(v,.list [])::(894,.obj aE)::(ct,.cell (some (.ref g)))::(ce,.cell (some (.ref v)))::(g,.map (gM gs) ge)::gC gs⟩ (da.drop 9) Q E;show ah;show qT (es:=gM gs) (ep:=ge) (d:=g) (λi S=>∃fs,S=⟨eu l (some fi) (some (.ref va)) (some (.ref to)) fs none none none none none none none,(v,.list ((dJ ((ip gs).take i)).map .str))::(894,.obj aE)::(ct,.cell (some (.ref g)))::(ce,.cell (some (.ref v)))::(g,.map (gM gs) ge)::gC gs⟩) ?_ ?_ ?_;show bP kF (.tail (.tail .head)) ⋯;exact⟨rfl,by k_extra "m.mem",none,rfl⟩
 ·intro i;let fs:=AZ;k_extra "m.mem"
 ·intro i kk vv S1 N hy;revert S1;let fs:=AZ;intro hN;unfold gM at hy;rw[aag]at hy;let e he hk:=ak (aaq.mp hy);injection hk with DC Rz;subst DC;have HE:=aaA he;have LC:(ip gs).take (i+1)=(ip gs).take i++[(e.1,e.2.2)]:=(by rw[aaK];unfold ip;rw[aag,he];rfl);have KV:dJ ((ip gs).take (i+1))=dJ ((ip gs).take i)++(e.1::e.2.2):=(by rw[LC];unfold dJ;rw[aaj,adj];simp);have KR:(dJ ((ip gs).take i)).length≤707:=aab (CZ λx hx=>KU x (adR hx)) (aab (abz _ (aab (abh _ _) (by rw[xH];exact Aj))) '2');refine⟨_,by k_extra "m.at",?_⟩;show ah;symm;show bP kF (.tail (.tail (.tail .head))) ⋯;symm;refine⟨aae rfl,λl1=>?_⟩;refine sC (bP kF (.tail (.tail .head)) ⋯ ?_);symm;show mh '0' (HD kh HE);have nI:=yc HE;let l2:=gw (xs:=[.str e.1]) (ys:=e.2.2.map .str) (.head _) (At.mem (by repeat(first|exact nI|apply At.tail))) (by rw[aaa];exact lz _ (by have:=uv e HE;change 1+_≤900;exact Sq this));symm;show ji ⋯ (.head _) (by rw[aaa,aar,aaa];exact lz _ (by have:=uv e HE;change _+(1+_)≤900;exact Su KR this));show W.forget (D:=[_,_]);change EB _ _ _ _ _ _;show d0;refine hN _ ⟨some (.str e.1),?_⟩;rw[KV,aaj];rfl
 let fs:=AZ;have hgm:(ip gs).take (gM gs).length=ip gs:=by rw[abd];rw[xH];rw[aaa];exact aak _
 rw[hgm];have LE:(dJ (ip gs)).length≤707:=aab (CZ KU) (by rw[xH];exact abz 101 Aj);generalize KV:dJ (ip gs)=ev at LE;have C0:(ev.map AV.str).length=ev.length:=aaa _;have DC:ab_ 0 (ev.length:Int) 1=(ev.length:Int):=by rw[ahs];split<;>lia
 k_extra "g.s1";change EB c (n+10) ⟨eu l (some fi) (some (.ref va)) (some (.ref to)) fs none none none none none none none,(v,.list (ev.map .str))::(894,.obj aE)::(ct,.cell (some (.ref g)))::(ce,.cell (some (.ref v)))::(g,.map (gM gs) ge)::gC gs⟩ _ _ _;refine ah (my (xs:=["k"]) (cl:=[("every",ce)]) (gl:=[]) ⟨by rw[i0,←h3];kernel_rfl,by with_unfolding_all decide,by with_unfolding_all rfl,by with_unfolding_all decide,by with_unfolding_all decide,by decide,λp hp=>nomatch hp⟩ ?_ (by rw[bl];kernel_rfl) (hc:=hc));symm;show bP kF (.tail (.tail (.tail .head))) ⋯;symm;show bY '0' (by rw[C0];exact lz _ (by exact Aq LE));rw[C0];symm;let r:=mA;refine CA.go (P:=mW 0 1 ev.length) (λu hu=>n5 (.head _) DC (small_one '2' '2' (by lia) (by lia):acO 0 (ev.length:Int) 1=true) hu) n9 (λD=>by k_extra "m.at") λD m L=>LP.map (tE (abu ev.length)) (fI λk=> !(ev.take k).contains (ev.getD k "")) (gI ev) (by rw[fL,abC];exact lz _ (by exact Aq LE)) ?_ ?_ ?_ ?_;intro i y v G hx;let k hk r2:=ak (iM hx);subst r2;have hi:i<ev.length:=by have:=(aav.mp hk).1;simpa using this
 rw[acp hi]at hk;obtain rfl:i=k:=aaJ hk;exact n6 hi (by simp)
 ·intro i y T Z hx hT;let k hk r2:=ak (iM hx);subst r2;have hi:k<ev.length:=(by have:=aaA hk;simpa using this);have hg:ev.getD k ""=ev[k]:=(by rw[aaR,aay hi];rfl);have Qw:(ev.map AV.str)[k]? =some (.str (ev.getD k "")):=(by rw[aag,aay hi,hg];rfl);show o_;symm;refine d6 (bP (tab:=[("every",ce)]) (ew.ym bl '3') .head ⋯ ?_);symm;show d4 '0' Qw (by rw[C0];exact lz _ (by exact Aq LE));refine cY (bP (tab:=[("every",ce)]) (ew.ym bl '3') .head ⋯ ?_);refine jA (iB ?_);symm;refine p4 v _ none (some (k:Int)) ⟨rfl,by k_extra "m.mem",rfl,rfl,by rw[C0];exact lz _ (by exact Aq LE),λb=>?_⟩;rw[rg,←aeT];show eP (.head _);symm;refine eqQ ?_ (hT [(b,_)]);rw[tG]
 ·intro i y T Z hx hf hT;let k hk r2:=ak (iM hx);subst r2;have hi:k<ev.length:=(by have:=aaA hk;simpa using this);have Qw:(ev.map AV.str)[k]? =some (.str (ev.getD k "")):=(by rw[aag,aay hi,(by rw[aaR,aay hi];rfl:ev.getD k ""=ev[k])];rfl);refine d6 (bP (tab:=[("every",ce)]) (ew.ym bl '3') .head ⋯ ?_);symm;show d4 '0' Qw (by rw[C0];exact lz _ (by exact Aq LE));refine eqQ ?_ (hT []);change _=AV.str (ev.getD ((k:Int).toNat) "");rw[ade]
 intro G v2;rw[tF,KT,fL,abC];refine⟨n7 hd,?_⟩;change EB _ _ _ _ _ _;show W.d8;change EB c (n+10) ⟨eu l (some fi) (some (.ref va)) (some (.ref to)) fs (some (.ref D)) none none none none none none,(D,.list ((iY ev).map .str))::(r,.obj (fA 0 (ev.length:Int) 1))::(v,.list (ev.map .str))::(894,.obj aE)::(ct,.cell (some (.ref g)))::(ce,.cell (some (.ref v)))::(g,.map (gM gs) ge)::gC gs⟩ (da.drop 11) Q E;show W.zT (D:=(D,.list ((iY ev).map .str))::(894,.obj aE)::(ct,.cell (some (.ref g)))::(g,.map (gM gs) ge)::gC gs) (.cons_cons _ (.cons _ (.cons _ (.cons_cons _ (.cons_cons _ (.cons _ (ab0 _)))))));change EB _ _ _ _ _ _;refine ah (my (xs:=["first","need"]) (cl:=[("table",ct)]) (gl:=[]) ⟨by rw[i0,←h2];kernel_rfl,by with_unfolding_all decide,by with_unfolding_all rfl,by with_unfolding_all decide,by with_unfolding_all decide,by decide,λp hp=>nomatch hp⟩ ?_ (by rw[bl];kernel_rfl) (hc:=hc));show bP kF (.tail (.tail .head)) ⋯;have Wu:(gM gs).length=gs.length:=by unfold gM;rw[aaa]
 refine CA.go (P:=mj g (gM gs).length ge) (λu hu=>xt '0' hu) Br (λD2=>by k_extra "m.at") λD2 m2 L2=>LP.loop rfl eR ((gM gs).map λp=>.str p.1) (λ(i:Nat) (S:SS)=>∃(f nd:Option AV) (es:List yn),S=⟨[("first",f),("need",nd)],(hU es).reverse++((D2,.list (gP es))::(D,.list ((iY ev).map .str))::(894,.obj aE)::(ct,.cell (some (.ref g)))::(g,.map (gM gs) ge)::gC gs:Cells)⟩∧es.map (λx=>x.2)=jV ((ip gs).take i)) (eY none none [] ⟨rfl,rfl⟩) ?_ ?_
 ·intro i y S1 hx;revert S1;let f nd es FX:=rH;have Uo:=hx;rw[aag,gM,aag]at hx;obtain⟨e,he,hy⟩:∃e,gs[i]? =some e∧AV.str e.1=y:=by
   cases he:gs[i]? with
   |none=>rw[he]at hx;cases hx
   |some e=>rw[he]at hx;exact⟨e,rfl,aaJ hx⟩
  subst hy;have HE:=aaA he;have nI:=yc HE;have LC:(ip gs).take (i+1)=(ip gs).take i++[(e.1,e.2.2)]:=(by rw[aaK];unfold ip;rw[aag,he];rfl);have Wv:jV ((ip gs).take (i+1))=jV ((ip gs).take i)++e.2.2.map λw=>(e.1,w):=(by rw[LC];unfold jV;rw[aaj,adj];simp);have KR:es.length≤700:=(by have:=congrArg aaV FX;rw[aaa]at this;rw[this];exact aab (KS λx hx=>KU x (adR hx)) (aab (abz _ (aab (abh _ _) (by rw[xH];exact Aj))) '2'));refine⟨xu (aad _ '0') Uo,cA ⋯ (iC ?_)⟩;rw[if_pos rfl];refine .inr (eY _ _ _ ⟨rfl,by intro _;with_unfolding_all rfl,?_⟩);refine sC (bP (tab:=[("table",ct)]) (ew.ym bl '3') .head (At.right ⋯) ?_);symm;refine⟨ty_map (At.right ⋯),mh (aad _ '0') (HD kh HE) ?_⟩;refine⟨aQ e.2.1,λu hu=>cJ ((λP=>aad _ (At.mem (by repeat(first|exact nI|apply At.tail))):∀P:Cells,(e.2.1,AO.list (e.2.2.map .str))∈P++((D2,.list (gP es))::(D,.list ((iY ev).map .str))::(894,.obj aE)::(ct,.cell (some (.ref g)))::(g,.map (gM gs) ge)::gC gs:Cells)) _) hu,d5,LP.loop rfl eR (e.2.2.map .str) (λ(j:Nat) (S:SS)=>∃(nd:Option AV) (es:List yn),S=⟨[("first",some (.str e.1)),("need",nd)],(hU es).reverse++((D2,.list (gP es))::(D,.list ((iY ev).map .str))::(894,.obj aE)::(ct,.cell (some (.ref g)))::(g,.map (gM gs) ge)::gC gs:Cells)⟩∧es.map (λx=>x.2)=jV ((ip gs).take i)++(e.2.2.take j).map λw=>(e.1,w)) (ba nd es ⟨rfl,by rw[FX];simp⟩) ?_ ?_⟩
  ·intro j y S1 rW;revert S1;let jK DD FY:=gt;have Lr:=rW;rw[aag]at Lr;let w hw r2:=ak (aaq.mp Lr);subst r2;have Ji:DD.length≤900:=(by have:=congrArg aaV FY;rw[aaa,aar,aaa]at this;have h1:=congrArg aaV FX;rw[aaa]at h1;have h2:=abh j e.2.2;have h3:=uv e HE;exact Sz KR this h1 h2 h3);refine⟨cM (aad _ (At.mem (by repeat(first|exact nI|apply At.tail)))) rW,cA ⋯ (iC ?_)⟩;rw[if_pos rfl];refine .inl ⟨rfl,?_⟩;symm;refine⟨aae rfl,λt1=>?_⟩;have q1:(hU (DD++[(t1,e.1,w)])).reverse=(t1,.tup [.str e.1,.str w])::(hU DD).reverse:=(by unfold hU;rw[aaj,ad3];rfl);have q2:gP (DD++[(t1,e.1,w)])=gP DD++[.ref t1]:=(by unfold gP;rw[aaj];rfl);refine ba (gP DD) _ ⟨aI.mid (l:=(t1,.tup [.str e.1,.str w])::(hU DD).reverse),by unfold gP;rw[aaa];exact lz _ Ji,some (.str w),DD++[(t1,e.1,w)],?_,?_⟩;rw[q1,q2];rw[aaj,FY,aaK,hw,aaj,aaw];rfl
  let jK DD FY:=gt;refine⟨cN (aad _ (At.mem (by repeat(first|exact nI|apply At.tail)))) hd,some (.str e.1),jK,DD,rfl,?_⟩;rw[FY,Wv,aaa,abi]
 let f nd es FX:=rH;have hxl:((gM gs).map λp=>AV.str p.1).length=gs.length:=by rw[aaa,Wu]
 refine⟨xw (aad _ '0') hd,?_⟩;rw[hxl,abd (by rw[xH];exact aak _)]at FX;change EB c (n+10) ⟨eu l (some fi) (some (.ref va)) (some (.ref to)) fs (some (.ref D)) (some (.ref D2)) none none none none none,(hU es).reverse++((D2,.list (gP es))::(D,.list ((iY ev).map .str))::(894,.obj aE)::(ct,.cell (some (.ref g)))::(g,.map (gM gs) ge)::gC gs:Cells)⟩ (da.drop 12) Q E;have hk:=k D D2 es fs FX;rw[KV]at hk;exact W.fh (((List.reverse_perm _).append_right _).trans aaY) hk
end
section
open PySem.Builtin PySem.Builtin.Str
variable{Q:FL→SS→Prop}
theorem Ww{to g ge an ae:Addr}{gs:Gs}{es:List yn}{E:EP}(hX:LX c cr cl ct ce)(Aj:gs.length≤7)(uv:∀e∈gs,e.2.2.length≤100)(hlg:(lG gs).length≤800) (Ct:qx (lG gs) 9999) (hD:Ke (lG gs) ((lG gs).map (λx=>x.1)) [] b)(k:∀(x dx m r ep:Addr) (ns:List Nd),er ns=lG gs→EB c (n+10) ⟨eu l (some fi) (some (.ref va)) (some (.ref to)) fs (some (.ref an)) (some (.ref ae)) (some (.ref x)) (some (.bool b)) none none none,(x,.inst 188 dx)::(dx,.dict (kH (.ref m) (.ref r) (.int 0) (.int 0)) 4)::(m,.map (ff ns) ep)::(r,.list ((im (lG gs)).map .str))::(an,.list (nms.map .str))::(ae,.list (gP es))::(894,.obj aE)::(hU es++bC ns)⟩ (da.drop 17) Q E):EB c (n+10) ⟨eu l (some fi) (some (.ref va)) (some (.ref to)) fs (some (.ref an)) (some (.ref ae)) none none none none none,(ae,.list (gP es))::(an,.list (nms.map .str))::(894,.obj aE)::(ct,.cell (some (.ref g)))::(g,.map (gM gs) ge)::(gC gs++hU es)⟩ (da.drop 12) Q E:=by
 have kF:=hX.kF;obtain⟨hK,hd,aZ,hc,bl,h0,h1,h2,h3⟩:=hX;show ah;symm;show bP kF (.tail (.tail .head)) ⋯;symm;refine Fq (n:=n+2) hK hd Aj uv (.cons (.tail (.tail (.tail (.tail .head)))) (bD (gj (gC gs)) [_,_,_,_])) λx dx m ns ep he=>⟨_,gj _,?_⟩;k_extra "g.s1";show W.zT (D:=nO x dx m ns ep++([(ae,.list (gP es)),(an,.list (nms.map .str)),(894,.obj aE),(ct,.cell (some (.ref g)))]++hU es)) (adY (List.Sublist.cons _ (ac1 (gC gs) _)) (ab0 _));show W.fh (D:=(x,.inst 188 dx)::(dx,.dict (kH (.ref m) .none (.int 0) (.int 0)) 4)::(m,.map (ff ns) ep)::(([(ae,.list (gP es)),(an,.list (nms.map .str)),(894,.obj aE),(ct,.cell (some (.ref g)))]++hU es)++bC ns)) (abB _ (abB _ (abB _ aaY)));change EB c (n+10) ⟨eu l (some fi) (some (.ref va)) (some (.ref to)) fs (some (.ref an)) (some (.ref ae)) (some (.ref x)) none none none none,(x,.inst 188 dx)::(dx,.dict (kH (.ref m) .none (.int 0) (.int 0)) 4)::(m,.map (ff ns) ep)::(ae,.list (gP es))::(an,.list (nms.map .str))::(894,.obj aE)::(ct,.cell (some (.ref g)))::(hU es++bC ns)⟩ (da.drop 13) Q E;have An:ns.map (λx=>x.nm)=(lG gs).map (λx=>x.1):=by rw[←he];unfold er;rw[aba];rfl
 have HF:ns.length≤800:=by have:=congrArg aaV he;unfold er at this;rw[aaa]at this;exact NF hlg this
 have goon:∀r,EB c (n+10) ⟨eu l (some fi) (some (.ref va)) (some (.ref to)) fs (some (.ref an)) (some (.ref ae)) (some (.ref x)) (some (.bool b)) none none none,(x,.inst 188 dx)::(dx,.dict (kH (.ref m) (.ref r) (.int 0) (.int 0)) 4)::(m,.map (ff ns) ep)::(r,.list ((im (lG gs)).map .str))::(ae,.list (gP es))::(an,.list (nms.map .str))::(894,.obj aE)::(ct,.cell (some (.ref g)))::(hU es++bC ns)⟩ (da.drop 16) Q E:=λr=>by show ah;symm;refine aH (Fv (n:=n) (x:=x) (dx:=dx) (m:=m) (r:=r) (po:=.int 0) (nf:=.int 0) (ns:=ns) (ep:=ep)) (.cons .head (.cons .head (.cons .head .nil))) hK hd (GQ ?_) (λzz zz h=>h.elim);refine⟨_,.cons .head (.cons .head (.cons .head .nil)),?_⟩;show bj;show aY '2';show d0;have t4:∀{p a:Addr×AO} {t:Cells},jq p (a::p::t) (a::t):=.tail .head;exact W.into (.cons .head (.cons .head (.cons .head (.cons .head (.cons (.tail .head) (.cons .head (.cons .head (fM [_] _)))))))) (k x dx m r ep ns he)
 show ah;symm;refine aH (Kh (n:=n) (x:=x) (dx:=dx) (m:=.ref m) (po:=.int 0) (nf:=.int 0)) (.cons .head (.cons .head .nil)) hK hd (GQ ?_) (λzz zz h=>h.elim);refine⟨_,.cons .head (.cons .head .nil),?_⟩;show bj;show aY '2';show d0;change EB c (n+10) ⟨eu l (some fi) (some (.ref va)) (some (.ref to)) fs (some (.ref an)) (some (.ref ae)) (some (.ref x)) none none none none,(x,.inst 188 dx)::(dx,.dict (kH (.ref m) .none (.int 0) (.int 0)) 4)::(m,.map (ff ns) ep)::(ae,.list (gP es))::(an,.list (nms.map .str))::(894,.obj aE)::(ct,.cell (some (.ref g)))::(hU es++bC ns)⟩ (da.drop 14) Q E;show ah;k_extra "g.s1";k_extra "g.s1";k_extra "g.s1";change EB c (n+10) ⟨eu l (some fi) (some (.ref va)) (some (.ref to)) fs (some (.ref an)) (some (.ref ae)) (some (.ref x)) (some (.bool false)) none none none,(x,.inst 188 dx)::(dx,.dict (kH (.ref m) .none (.int 0) (.int 0)) 4)::(m,.map (ff ns) ep)::(ae,.list (gP es))::(an,.list (nms.map .str))::(894,.obj aE)::(ct,.cell (some (.ref g)))::(hU es++bC ns)⟩ (da.drop 15) Q E;show ah;show jl;symm;refine aH (Kg (n:=n) (b:=b) HF (he▸Ct) (by rw[An,he];exact hD)) (.cons .head (.cons .head (.cons .head (bD (fM (hU es) (bC ns)) [_,_,_,_])))) hK hd (λv C hv=>?_) (λkx C hv=>?_)
 ·let r0 r1 r r3:=IB hv;subst r0;subst r1;subst r3;rw[he];show PL.go (l:=(x,.inst 188 dx)::(dx,.dict (kH (.ref m) (.ref r) (.int 0) (.int 0)) 4)::(m,.map (ff ns) ep)::(r,.list ((im (lG gs)).map .str))::(ae,.list (gP es))::(an,.list (nms.map .str))::(894,.obj aE)::(ct,.cell (some (.ref g)))::(hU es++bC ns)) (.cons .head (.cons .head (.cons .head (.cons .head (bD (fM (hU es) (bC ns)) [_,_,_,_])))));k_extra "g.s1";change EB _ _ _ _ _ _;exact d0 (goon r)
 let r0 r1 r r3:=IB hv;subst r0;subst r1;subst r3;rw[he];show n8 (b:=true) (by rw[aZ];k_extra "m.mem") (Cz hK).2;rw[if_pos rfl];intro e0;show ah;k_extra "g.s1";k_extra "g.s1";k_extra "g.s1";change EB (c.hand e0) _ _ _ _ _;show d0;change EB c (n+10) ⟨eu l (some fi) (some (.ref va)) (some (.ref to)) fs (some (.ref an)) (some (.ref ae)) (some (.ref x)) (some (.bool true)) none none none,(x,.inst 188 dx)::(dx,.dict (kH (.ref m) (.ref r) (.int 0) (.int 0)) 4)::(m,.map (ff ns) ep)::(r,.list ((im (lG gs)).map .str))::(bC ns++([(ae,.list (gP es)),(an,.list (nms.map .str)),(894,.obj aE),(ct,.cell (some (.ref g)))]++hU es))⟩ (da.drop 16) Q E;exact W.fh (abB _ (abB _ (abB _ (abB _ aaY)))) (goon r)
end
section
open PySem.Builtin PySem.Builtin.Str
variable{Q:FL→SS→Prop}
abbrev vB(x dx m r an ae ep:Addr)(nds:List Nd)(p f:Int)(nms:List Str)(es:List yn):Cells:=(x,.inst 188 dx)::(dx,.dict (kH (.ref m) (.ref r) (.int p) (.int f)) 4)::(m,.map (ff nds) ep)::(r,.list [])::(an,.list (nms.map .str))::(ae,.list (gP es))::(894,.obj aE)::(hU es++bC nds)
theorem Wx{to an ae x m r ep:Addr}{es:List yn}{R kk:Nat}{E:EP}(hX:LX c cr cl ct ce)(hn:nms.length≤50) (kh:nms.Nodup) (xH:es.length≤900) (hR:ka nms (es.map (λx=>x.2)) R gF pF fF kk (er ns) rl 0 0 [] [] []) (hb:b=decide (R<nms.length))(ma:∀w∈nms,(acQ w).length≤1000∧Dn [w] gF [] fF false gF [] fF) (RB:Dn ["zz"] gF [] fF false gF [] fF) (Sb:¬fF<pF)(k:∀S' D,aq [(894,.obj aE)] S'.cells D→Q (.ret (.bool true)) S'):EB c (n+10) ⟨eu l (some fi) (some (.ref va)) (some (.ref to)) fs (some (.ref an)) (some (.ref ae)) (some (.ref x)) (some (.bool b)) none none none,(x,.inst 188 dx)::(dx,.dict (kH (.ref m) (.ref r) (.int 0) (.int 0)) 4)::(m,.map (ff ns) ep)::(r,.list (rl.map .str))::(an,.list (nms.map .str))::(ae,.list (gP es))::(894,.obj aE)::(hU es++bC ns)⟩ (da.drop 17) Q E:=by
 obtain⟨hK,hd,aZ,hc,bl,h0,h1,h2,h3⟩:=hX;have HF:(nms.map AV.str).length=nms.length:=aaa _;show ah;symm;refine aH (QO (n:=n) hn kh xH hR) (.cons .head (.cons .head (.cons .head (.cons .head (.cons .head (.cons .head (bD (mQ _) [_]))))))) hK hd (xg λnds he=>?_) (λzz zz h=>h.elim);show PL.go (l:=vB x dx m r an ae ep nds pF fF nms es) (.cons .head (.cons .head (.cons .head (.cons .head (.cons .head (.cons .head (bD (mQ _) [_])))))));k_extra "g.s1";change EB c (n+10) ⟨eu l (some fi) (some (.ref va)) (some (.ref to)) fs (some (.ref an)) (some (.ref ae)) (some (.ref x)) (some (.bool b)) (some (.int R)) none none,vB x dx m r an ae ep nds pF fF nms es⟩ (da.drop 18) Q E;show ah;symm;show bY '0' (by rw[HF];exact(λk hk=>aab hk '2':∀k,k≤900→k≤lim) _ (by exact DH hn));rw[HF];show qK;show wQ;have KR:(b==decide ((R:Int)<(nms.length:Int)))=true:=by rw[hb];have:decide (R<nms.length)=decide ((R:Int)<(nms.length:Int)):=(by congr 1;exact propext abT.symm);rw[this,beq_self_eq_true]
 rw[KR];show bj;show aY '2';k_extra "g.s1";show aY '2';show d0;change EB c (n+10) ⟨eu l (some fi) (some (.ref va)) (some (.ref to)) fs (some (.ref an)) (some (.ref ae)) (some (.ref x)) (some (.bool b)) (some (.int R)) none none,vB x dx m r an ae ep nds pF fF nms es⟩ (da.drop 19) Q E;have vy:∀(P:Cells) (gn:List Nd),aq (en x dx m gn ep r [] pF fF) (P++vB x dx m r an ae ep gn pF fF nms es) (P++((an,.list (nms.map .str))::(ae,.list (gP es))::(894,.obj aE)::hU es)):=λP gn=>bD (.cons .head (.cons .head (.cons .head (.cons .head (fM ((an,.list (nms.map .str))::(ae,.list (gP es))::(894,.obj aE)::hU es) (bC gn)))))) P;show ah;show eI (xs:=nms.map .str) (l:=an) (λi S=>∃gn nmv,S=⟨eu l (some fi) (some (.ref va)) (some (.ref to)) fs (some (.ref an)) (some (.ref ae)) (some (.ref x)) (some (.bool b)) (some (.int R)) nmv none,vB x dx m r an ae ep gn pF fF nms es⟩∧er gn=gF) ?_ ?_ ?_
 ·k_extra "m.name";exact⟨rfl,by k_extra "m.mem",nds,none,rfl,he⟩
 ·intro i;let gn nmv z3:=gt;k_extra "m.mem"
 ·intro i y S1 N hy;revert S1;let gn nmv Qu:=gt;intro hN;rw[aag]at hy;let w hw r2:=ak (aaq.mp hy);subst r2;let c1 c2:=eA (ma w (aaA hw));refine⟨_,by k_extra "m.at",?_⟩;show ah;symm;refine⟨aae rfl,λl5=>?_⟩;symm;refine aH (jG (n:=n) (ps:=[w]) (ns:=gn) (rl:=[]) (rl2:=[]) (nf2:=fF) (b:=false) (g2:=gF) (aae rfl) (λs hs=>by rw[aaL.mp hs];exact c1) (Qu▸c2)) (.cons .head (vy [] gn)) hK hd (xg λjU ie=>?_) (λzz zz h=>h.elim);show PL.go (l:=(l5,.list ([w].map .str))::vB x dx m r an ae ep jU pF fF nms es) (.cons .head (vy [] jU));show bj;show aY '2';show fY;show pq;show d0;exact hN _ (ba jU _ ⟨rfl,ie⟩)
 intro S1 Wy;obtain⟨gn,nmv,rfl,Qu⟩:=Wy;clear he nds;symm;refine aH (vi (n:=n) (x:=x) (dx:=dx) (m:=.ref m) (r:=r) (po:=pF) (nf:=fF) (rl:=[]) (aaD _)) (.cons (.tail (.tail (.tail .head))) (.cons .head (.cons .head .nil))) hK hd (GQ ?_) (λzz zz h=>h.elim);show PL.go (l:=vB x dx m r an ae ep gn pF fF nms es) (.cons (.tail (.tail (.tail .head))) (.cons .head (.cons .head .nil)));have hq:(decide (fF<pF)|| !([]:List Str).isEmpty)=false:=by rw[decide_eq_false Sb];rfl
 rw[hq];symm;refine aH (th (n:=n) (rl:=[]) (aaD _) (λzz h=>nomatch h)) (vy [] gn) hK hd (v6 λt1 jU ie=>?_) (λzz zz h=>h.elim);have ie:er jU=gF:=ie.trans Qu;have e0:pF+(([]:List Str).length:Int)=pF:=ah3 _;rw[e0];show PL.go (l:=(t1,.tup [])::vB x dx m r an ae ep jU pF fF nms es) (.cons .head (vy [] jU));symm;refine⟨aaD _,λt2=>?_⟩;refine y_ (m:=1) (xs:=[]) (ys:=[]) (f:=G1) (.tail _ (.head _)) (.head _) (λx hx=>nomatch hx) ?_ (by exact abm _ _);show bj;show bA rfl;show oO;symm;refine⟨aae rfl,λl7=>?_⟩;symm;refine aH (jG (n:=n) (ps:=["zz"]) (ns:=jU) (rl:=[]) (rl2:=[]) (nf2:=fF) (b:=false) (g2:=gF) (aae rfl) (λs hs=>by rw[aaL.mp hs];exact aae (by decide+kernel)) (ie▸RB)) (.cons .head (vy [_,_] jU)) hK hd (xg λiu Dx=>?_) (λzz zz h=>h.elim);refine⟨_,.cons .head (vy [_,_] iu),?_⟩;exact k _ _ (.cons (.tail (.tail (.tail (.tail (.tail (.tail (.tail (.tail (.tail .head))))))))) .nil)
end
section
open PySem.Builtin PySem.Builtin.Str
def DE(t:Tb):G:=t.foldl (λg e=>qy e.1 e.2 g) []
theorem C3(gs:Gs):lG gs=DE (ip gs):=by unfold lG DE ip;rw[List.foldl_map]
structure yr(t:Tb):Prop where
 tl:t.length≤7
 tps:∀e∈t,e.2.length≤100
 tnd:(t.map (λx=>x.1)).Nodup
 nl:(iY (dJ t)).length≤50
 nn:(iY (dJ t)).Nodup
 el:(jV t).length≤900
 gl:(DE t).length≤800
 gsu:qx (DE t) 9999
 run:∃(b:Bool) (R kk:Nat) (gF:G) (pF fF:Int),Ke (DE t) ((DE t).map (λx=>x.1)) [] b∧ka (iY (dJ t)) (jV t) R gF pF fF kk (DE t) (im (DE t)) 0 0 [] [] []∧b=decide (R<(iY (dJ t)).length)∧
  (∀w∈iY (dJ t),(acQ w).length≤1000∧Dn [w] gF [] fF false gF [] fF)∧Dn ["zz"] gF [] fF false gF [] fF∧¬fF<pF
theorem QT{xs:List Int}(hz:xs.length≤1000)(R_:(gm (ja xs)).length≤100)(hr:∀r∈gm (ja xs),pR r (cf r))(hg:yr (vo ((gm (ja xs)).map (gR cf)))){E':EP} (hB:QM l (xs.map .int) c.base) (hK:c.K=K0 c.w.params) (hd:c.hd=none) (aZ:c.fx=bd) (hc:c.comp=false) (bl:c.env=envX bd.cn bd.cs c.L bd.a bd.cd (aco (c.L+1) bd.cs.names []))(ay:∀S' D,aq [(894,.obj aE)] S'.cells D→Q' (.ret (.bool true)) S'):EB c (n+10) ⟨eu l none none none none none none none none none none none,[(c.L+1+0,.cell none),(c.L+1+1,.cell none),(c.L+1+2,.cell none),(c.L+1+3,.cell none),(894,.obj aE)]⟩ da Q' E':=by
 have hX:LX c (c.L+1+0) (c.L+1+1) (c.L+1+2) (c.L+1+3):=⟨hK,hd,aZ,hc,bl,rfl,rfl,rfl,rfl⟩;show W.fh (D:=[(894,.obj aE),(c.L+1+0,.cell none),(c.L+1+1,.cell none),(c.L+1+2,.cell none),(c.L+1+3,.cell none)]) (aaS (l₁:=[_,_,_,_]));let ro li va rs fi tD:=Wp hB hX hz R_ hr;have Ap:∀e∈rs,pR e.2 (cf e.2):=λe he=>hr _ (tD▸aat (f:=λe:Addr×List Str=>e.2) he);have hlen:rs.length≤100:=by have:=congrArg aaV tD;rw[aaa]at this;exact HL R_ this
 let g to gs ge Lo:=Wr hX Ap hlen;have hte:ip gs=vo ((gm (ja xs)).map (gR cf)):=by rw[Lo,←tD,aba];rfl
 rw[←hte]at hg;have Aj:gs.length≤7:=by have:=hg.tl;unfold ip at this;rwa [aaa]at this
 have uv:∀e∈gs,e.2.2.length≤100:=λe he=>hg.tps (e.1,e.2.2) (aat (f:=λe:Str×Addr×List Str=>(e.1,e.2.2)) he);have kh:(gs.map (λx=>x.1)).Nodup:=by have:=hg.tnd;unfold ip at this;rw[aba]at this;exact this
 let an ae es fs FX:=Wt hX Aj uv kh;let b R kk gF pF fF r1 r2 r3 r4 r5 r6:=dZ hg.run;have Sc:=C3 gs;let x dx m r ep ns lR:=Ww (b:=b) hX Aj uv (Sc▸hg.gl) (Sc▸hg.gsu) (Sc▸r1);let S' D hp:=Wx (R:=R) (kk:=kk) (gF:=gF) (pF:=pF) (fF:=fF) hX hg.nl hg.nn (by have:=congrArg aaV FX;rw[aaa]at this;rw[this];exact hg.el) (by rw[FX,lR,Sc];exact r2) r3 r4 r5 r6;exact ay _ _ hp
end
section
open PySem.Builtin PySem.Builtin.Str
def pT:List (List Nat)→Nat→List (Nat×Str)|[],_=>[]|u::t,p=>(p+u.length-1,fK u)::pT t (p+u.length)
theorem C4(d:Nat):((⟨#[d]⟩:Str)=="\\")=decide (d=92):=vp '2'
theorem lN:∀(l:List Nat) (j:Nat),jS l j false=pT (uP l) j
 |[],_=>rfl
 |[c],j=>by unfold jS;rw[C4];by_cases h:c=92;subst h;rfl;rw[if_neg (by simpa using h)];rfl
 |c::d::t,j=>by
  unfold jS;rw[C4];by_cases h:c=92;subst h;rw[if_pos (by simp)];unfold jS uP;rw[lN t (j+1+1),if_pos rfl];rfl;rw[if_neg (by simpa using h),lN (d::t) (j+1)];conv=>rhs;unfold uP
  rw[if_neg h];rfl
theorem iN:∀l:List Nat,(uP l).flatten=l|[]=>rfl|[c]=>rfl|c::d::t=>by unfold uP;split;rw[abj,iN t];rfl;rw[abj,iN (d::t)];rfl
def PU(u:List Nat):Prop:=(∃c,u=[c]∧c≠92)∨∃d,u=[92,d]
theorem C6:∀l:List Nat,(∀k,l≠k++[92])→∀u∈uP l,PU u|[],_,u,h=>nomatch h|[c],hl,u,h=>by obtain rfl:u=[c]:=(by simpa [uP]using h);exact .inl ⟨c,rfl,λq=>hl [] (by rw[q];rfl)⟩|c::d::t,hl,u,h=>by unfold uP at h;split at h;rcases aai.mp h with rfl|h;rename_i q;subst q;exact .inr ⟨d,rfl⟩;exact C6 t (λk q=>hl (c::d::k) (by rw[q];rfl)) u h;rename_i q;rcases aai.mp h with rfl|h;exact .inl ⟨c,rfl,q⟩;exact C6 (d::t) (λk e=>hl (c::k) (by rw[e];rfl)) u h
theorem KW:∀us:List (List Nat),(∀u∈us,PU u)→uP us.flatten=us:=by
 intro l0;induction l0 with|nil=>exact λzz=>rfl|cons u t ih=>
  intro h;have ih:=ih λv hv=>h v (.tail _ hv);rcases h u (.head _)with⟨c,rfl,hc⟩|⟨d,rfl⟩;rw[abj];change uP (c::t.flatten)=_;cases ht:t.flatten with|nil=>rw[ht]at ih;have:t=[]:=(by rw[←ih];rfl);subst this;rfl|cons e r=>unfold uP;rw[if_neg hc,←ht,ih]
  rw[abj];change uP (92::d::t.flatten)=_;unfold uP;rw[if_pos rfl,ih]
theorem PU.pos{u:List Nat}(h:PU u):1≤u.length:=by rcases h with⟨c,rfl,_⟩|⟨d,rfl⟩<;>exact aae rfl
def w8(total:Nat):List (List Nat)→Nat→List (List Nat)|[],_=>[]|u::t,m=>if u=[34]then(if m+1=total∧m%2=0 then u::w8 total t (m+1)else w8 total t (m+1))else if m%2=0∨m=total then u::w8 total t m else w8 total t m
def HG:List (List Nat)→Int→Bool|[],o=>o==0|u::t,o=>if u=[40]then HG t (o+1)else if u=[41]then(if o-1<0 then false else HG t (o-1))else HG t o
theorem C7:∀(us:List (List Nat)) (p:Nat) (o:Int),sW (pT us p) o=HG us o:=by intro l0;induction l0 with|nil=>exact λzz zz=>rfl|cons u t ih=>intro p o;unfold pT sW HG;rw[j_ (k:=[40]) '2',j_ (k:=[41]) '2'];by_cases h1:u=[40];rw[if_pos (by simp[h1]),if_pos h1];exact ih _ _;rw[if_neg (by simp[h1]),if_neg h1];by_cases h2:u=[41];rw[if_pos (by simp[h2]),if_pos h2];by_cases h3:o-1<0;rw[if_pos (by simpa using h3),if_pos h3];rw[if_neg (by simpa using h3),if_neg h3];exact ih _ _;rw[if_neg (by simp[h2]),if_neg h2];exact ih _ _
def vP(total:Nat):List (List Nat)→Nat→List Nat|[],_=>[]|u::t,m=>if u=[34]then vP total t (m+1)else if(u=[40]∨u=[41])∧(m%2=0∨m=total)then u++vP total t m else vP total t m
def DF:List Nat→Int→Bool|[],o=>o==0|c::t,o=>if c=40 then DF t (o+1)else if o-1<0 then false else DF t (o-1)
theorem yt(a b:List Nat):fK (a++b)=fK a++fK b:=by unfold fK;change(⟨(a++b).toArray⟩:Str)=⟨a.toArray++b.toArray⟩;rw[List.append_toArray]
theorem kf(a b c:Str):a++b++c=a++(b++c):=PySem.Str.append_assoc a b c
theorem Aa(total:Nat):∀(us:List (List Nat)) (m:Nat) (b:Str),j9 total us m b=b++fK (vP total us m):=by intro l0;induction l0 with|nil=>exact λm b=>(agz b).symm|cons u t ih=>intro m b;unfold j9 vP;split;exact ih _ _;split;rw[ih,yt,kf];exact ih _ _
theorem FZ(total:Nat):∀(us:List (List Nat)) (m:Nat) (o:Int),HG (w8 total us m) o=DF (vP total us m) o:=by
 intro l0;induction l0 with|nil=>exact λzz zz=>rfl|cons u t ih=>
  intro m o;unfold w8 vP;by_cases h:u=[34];subst h;rw[if_pos rfl,if_pos rfl];split;unfold HG;rw[if_neg '2',if_neg '2'];exact ih _ _;exact ih _ _;rw[if_neg h,if_neg h];by_cases h2:m%2=0∨m=total;rw[if_pos h2];unfold HG;by_cases Wz:u=[40];subst Wz;rw[if_pos rfl,if_pos ⟨.inl rfl,h2⟩];change _=DF (40::vP total t m) o;unfold DF;rw[if_pos rfl];exact ih _ _;rw[if_neg Wz];by_cases WA:u=[41];subst WA;rw[if_pos rfl,if_pos (c:=([41]=[40]∨[41]=[41])∧(m%2=0∨m=total)) ⟨.inr rfl,h2⟩];change _=DF (41::vP total t m) o;conv=>rhs;unfold DF
  rw[if_neg (show¬(41:Nat)=40 by decide)];by_cases h3:o-1<0;rw[if_pos h3,if_pos h3];rw[if_neg h3,if_neg h3];exact ih _ _;rw[if_neg WA,if_neg (λq=>q.1.elim Wz WA)];exact ih _ _;rw[if_neg h2,if_neg (λq=>h2 q.2)];exact ih _ _
end
section
open PySem.Builtin PySem.Builtin.Str
variable{a p:Nat} {u:List Nat} {res:List Str}
def bE(s:Str):List Nat:=s.cps.toList
theorem yu(l:List Nat):bE (fK l)=l:=by delta bE fK;simp
theorem yv(a b:Str):bE (a++b)=bE a++bE b:=by change(a.cps++b.cps).toList=_;rw[acn];rfl
theorem F0{a b:Str}(h:bE a=bE b):a=b:=PySem.Str.ext' (Array.toList_inj.mp h)
theorem ri:∀rs:List Str,bE (glued "" rs)=(rs.map bE).flatten:=by
 have key:∀(rs:List Str) (a:Array Nat),(rs.foldl (λacc p=>acc++(("":Str)).cps++p.cps) a).toList=a.toList++(rs.map bE).flatten:=by intro rs;induction rs with|nil=>intro a;simp|cons y rs ih=>intro a;simp only[acu,ih,acn,aan,abj];change a.toList++[]++bE y++_=_;rw[aaO,aaw]
 intro rs;cases rs with|nil=>rfl|cons y rs=>change(rs.foldl _ y.cps).toList=_;rw[key];rfl
theorem vC(x:Str){b:Nat}(tO:a≤b)(hb:b≤x.length):bE (b8 x (some (a:Int)) (some (b:Int)))=((bE x).drop a).take (b-a):=by rw[mK x tO hb];change bE (fK _)=_;rw[yu];rfl
theorem Ab(x:Str)(ha:a≤x.length):bE (b8 x (some (a:Int)) none)=(bE x).drop a:=by
 have e:b8 x (some (a:Int)) none=b8 x (some (a:Int)) (some (x.length:Int)):=by have h:strSliceIndices (some (a:Int)) none 1 x.length=strSliceIndices (some (a:Int)) (some (x.length:Int)) 1 x.length:=(by unfold strSliceIndices;have h2:¬((x.length:Int)<0):=(by exact aeK.mpr (abr _));simp only[h2,if_false,(by exact SL:max (0:Int) (min (x.length:Int) (x.length:Int))=x.length),show((1:Int)>0)=True from by simp,if_true]);unfold b8;rw[h]
 rw[e,vC x ha (aak _),abd];rw[aa9];exact aak _
def Ac(x:Str)(q:SQ):List Nat:=(q.res.map bE).flatten++(bE x).drop q.st
theorem Ad{l t:List Nat}{st:Nat}(jZ:st≤p)(h:l.drop p=u++t):(l.drop st).take (p+u.length-st)=(l.drop st).take (p-st)++u:=by rw[(by exact Nat.sub_add_comm jZ:p+u.length-st=(p-st)+u.length),List.take_add,afx];rw[(by exact aa7 jZ:st+(p-st)=p),h,afw]
theorem rj{l t:List Nat}(h:l.drop p=u++t):l.drop (p+u.length)=t:=by rw[←afx,h,aeF]
theorem HH{q:SQ}(h:u≠[34]):cG x q (i,fK u)=q:=by unfold cG;rw[j_ (k:=[34]) '2',if_neg (by simpa using h)]
theorem QU{st:Nat}:cG x ⟨st,none,res⟩ (i,fK [34])=⟨st,some i,res⟩:=by unfold cG;dsimp only;rw[j_ (k:=[34]) '2',if_pos (by simp)]
theorem QV{st o:Nat}:cG x ⟨st,some o,res⟩ (i,fK [34])=⟨i+1,none,if((st:Int) !=(o:Int))=true then res++[b8 x (some (st:Int)) (some (o:Int))]else res⟩:=by unfold cG;dsimp only;rw[j_ (k:=[34]) '2',if_pos (by simp)]
theorem w9(x:Str)(total:Nat):∀(us:List (List Nat)),(∀u∈us,1≤u.length)→(∀(m p st:Nat) (res:List Str),m%2=0→total=m+us.count [34]→st≤p→(bE x).drop p=us.flatten→p≤x.length→Ac x ((pT us p).foldl (cG x) ⟨st,none,res⟩)=(res.map bE).flatten++((bE x).drop st).take (p-st)++(w8 total us m).flatten)∧(∀(m p st o:Nat) (mid:List Nat) (res:List Str),m%2=1→total=m+us.count [34]→st≤o→p=o+1+mid.length→(bE x).drop o=34::mid++us.flatten→p≤x.length→Ac x ((pT us p).foldl (cG x) ⟨st,some o,res⟩)=(res.map bE).flatten++((bE x).drop st).take (o-st)++(if total=m then 34::mid else[])++(w8 total us m).flatten):=by
 intro l0;induction l0 with
 |nil=>
  intro _;constructor;intro m p st res hm ht jZ hd hp;change(res.map bE).flatten++(bE x).drop st=_;have:(bE x).drop st=((bE x).drop st).take (p-st):=(by rw[abd];rw[aa9];have h0:=congrArg aaV hd;rw[aa9]at h0;have:(bE x).length-p=0:=h0;exact Nat.sub_le_sub_right (ab5 this) _);conv=>lhs;rw[this]
  change _=_++_++[];rw[aaO];intro m p st o mid res hm ht jZ QW hd hp;change(res.map bE).flatten++(bE x).drop st=_;rw[if_pos ht];change _=_++_++(34::mid)++[];rw[aaO,aaw];congr 1;have hd:(bE x).drop o=34::mid:=(by rw[hd];change 34::mid++[]=_;rw[aaO]);rw[←hd];have h3:=agL (o-st) ((bE x).drop st);rw[afx,(by exact aa7 jZ:st+(o-st)=o)]at h3;exact h3.symm
 |cons u t ih=>intro hu;let ihE ihO:=eA (ih λv hv=>hu v (.tail _ hv));constructor;intro m p st res hm ht jZ hd hp;have hd:(bE x).drop p=u++t.flatten:=hd;have hlen:p+u.length≤x.length:=(by have h0:=congrArg aaV hd;rw[aa9,aar]at h0;have:(bE x).length=x.length:=rfl;exact SO hp (by assumption) this);change Ac x (((pT t (p+u.length))).foldl (cG x) (cG x ⟨st,none,res⟩ (p+u.length-1,fK u)))=_;unfold w8;by_cases h:u=[34];subst h;rw[QU,if_pos rfl];have hc:([34]::t).count [34]=t.count [34]+1:=(by rw[abM];simp);rw[hc]at ht;change Ac x (((pT t (p+1))).foldl (cG x) ⟨st,some p,res⟩)=_;rw[(ihO (m+1) (p+1) st p [] res (by exact LK hm) (by exact Gl ht) jZ rfl hd hlen)];by_cases q:m+1=total;rw[if_pos q.symm,if_pos ⟨q,hm⟩,abj,aaw];rw[if_neg (λe=>q e.symm),if_neg (λe=>q e.1),aaO];rw[HH h,if_neg h,if_pos (.inl hm)];have hc:(u::t).count [34]=t.count [34]:=(by rw[abM,if_neg (by simpa using h)];rfl);rw[hc]at ht;rw[ihE m (p+u.length) st res hm ht (by exact abU jZ) (rj hd) hlen,Ad jZ hd,abj];simp only[aaw];intro m p st o mid res hm ht jZ QW hd hp;have hd:(bE x).drop o=34::mid++(u++t.flatten):=hd;have hlen:p+u.length≤x.length:=(by have h0:=congrArg aaV hd;rw[aa9,aar,aar]at h0;have:(bE x).length=x.length:=rfl;exact LN QW (by assumption) this);change Ac x (((pT t (p+u.length))).foldl (cG x) (cG x ⟨st,some o,res⟩ (p+u.length-1,fK u)))=_;unfold w8;by_cases h:u=[34];subst h;rw[QV,if_pos rfl];have hc:([34]::t).count [34]=t.count [34]+1:=(by rw[abM];simp);rw[hc]at ht;rw[if_neg (by exact LQ ht:¬total=m),if_neg (by exact λq=>absurd (hm.symm.trans q.2) agB:¬(m+1=total∧m%2=0)),aaO];have WB:((if((st:Int) !=(o:Int))=true then res++[b8 x (some (st:Int)) (some (o:Int))]else res).map bE).flatten=(res.map bE).flatten++((bE x).drop st).take (o-st):=(by by_cases q:st=o;subst q;rw[if_neg (by simp),adv,aiP,aaO];rw[if_pos (by simp;lia),aaj,adj];change _++[bE (b8 x (some (st:Int)) (some (o:Int)))].flatten=_;rw[vC x jZ (by exact LV QW hlen)];simp);have hd2:(bE x).drop (p+1)=t.flatten:=(by have h5:(bE x).drop o=(34::mid++[34])++t.flatten:=(by rw[hd];simp);have:=rj h5;rw[aar,aaF]at this;rw[(by rw[QW];change o+(mid.length+1+1)=_;exact LY:o+(mid.length+1+[34].length)=p+1)]at this;exact this);have:=ihE (m+1) (p+1) (p+1) (if((st:Int) !=(o:Int))=true then res++[b8 x (some (st:Int)) (some (o:Int))]else res) (by exact Nat.succ_mod_succ_eq_zero_iff.mpr hm) (by exact Gl ht) (aak _) hd2 hlen;rw[adv,aiP,aaO,WB]at this;exact this;rw[HH h,if_neg h];rw[(by rw[abM,if_neg (by simpa using h)];rfl:(u::t).count [34]=t.count [34])]at ht;rw[(ihO m (p+u.length) st o (mid++u) res hm ht jZ (by rw[aar];exact L9 QW) (by rw[hd];simp) hlen)];by_cases q:total=m;rw[if_pos q,if_pos q,if_pos (.inr q.symm),abj];simp only[aaw,aaT];rw[if_neg q,if_neg q,if_neg (λe=>e.elim (by exact Mc hm) (λe=>q e.symm))]
theorem rp:bE (dz x)=(w8 ((uP (bE x)).count [34]) (uP (bE x)) 0).flatten:=by
 have JB:∀u∈uP (bE x),1≤u.length:=by
  have:∀l:List Nat,∀u∈uP l,1≤u.length:=by
   intro l;fun_induction uP l with
   |case1=>intro u h;cases h
   |case2 c=>
    intro u h;obtain rfl:u=[c]:=by simpa using h
    exact aak _
   |case3 d t ih=>
    intro u h
    rcases aai.mp h with rfl|h
    ·exact aae rfl
    ·exact ih u h
   |case4 c d t hc ih=>
    intro u h
    rcases aai.mp h with rfl|h
    ·exact aak _
    ·exact ih u h
  exact this _
 have main:=(w9 x ((uP (bE x)).count [34]) (uP (bE x)) JB).1 0 0 0 [] rfl (ahM _).symm (aak _) (by rw[iN];rfl) (aaD _);unfold dz;by_cases h:Bo x "\""=true;rw[if_pos h];have hq:iJ x (gi x).length=(pT (uP (bE x)) 0).foldl (cG x) ⟨0,none,[]⟩:=by unfold iJ;rw[abi];change(jS (bE x) 0 false).foldl _ _=_;rw[lN]
 rw[hq];generalize(pT (uP (bE x)) 0).foldl (cG x) ⟨0,none,[]⟩=q at main;rw[ri,aaj,adj];have:(((if q.st<x.length then[b8 x (some (q.st:Int)) none]else[]):List Str).map bE).flatten=(bE x).drop q.st:=by by_cases hs:q.st<x.length;rw[if_pos hs];change[bE (b8 x (some (q.st:Int)) none)].flatten=_;rw[Ab x (aaN hs)];simp;rw[if_neg hs,List.drop_eq_nil_of_le (by change x.length≤_;exact aa8 hs)];rfl
 rw[this];simpa [Ac]using main;rw[if_neg h];have h34:¬(34∈bE x):=by have h2:Bo x "\""=(!(occurrences x ⟨#[34]⟩ 0 x.length 1).isEmpty):=rfl;rw[h2,(StrLaws.found_one x 34)]at h;exact λq=>h (decide_eq_true q)
 have xE:∀us:List (List Nat),(∀u∈us,u≠[34])→∀tot,w8 tot us 0=us:=by intro us;induction us with|nil=>intro _ _;rfl|cons u t ih=>intro hh tot;unfold w8;rw[if_neg (hh u (.head _)),if_pos (.inl rfl),ih (λv hv=>hh v (.tail _ hv))]
 rw[xE _ (λu hu q=>h34 (by rw[←iN (bE x)];exact List.mem_flatten.mpr ⟨u,hu,by rw[q];exact .head _⟩)),iN]
theorem yw(tot:Nat):∀(us:List (List Nat)) (m:Nat),(w8 tot us m).Sublist us:=by intro l0;induction l0 with|nil=>exact λzz=>.slnil|cons u t ih=>intro m;unfold w8;split;split;exact .cons_cons _ (ih _);exact .cons _ (ih _);split;exact .cons_cons _ (ih _);exact .cons _ (ih _)
def WC(l:List Nat):Bool:=DF (vP ((uP l).count [34]) (uP l) 0) 0
theorem C8(h:∀k,bE x≠k++[92]):wT x=WC (bE x):=by delta wT WC;change sW (jS (bE (dz x)) 0 false) 0=_;rw[rp,lN,C7,KW,FZ];intro u hu;exact C6 _ h u ((yw _ _ _).subset hu)
theorem C9{a b:List (List Nat)}(h:a.Sublist b):a.flatten.length≤b.flatten.length:=by induction h with|slnil=>exact aak _|cons u _ ih=>rw[abj,aar];exact ac0 ih|cons_cons u _ ih=>rw[abj,abj,aar,aar];exact abe ih _
theorem Ae(x:Str):(dz x).length≤x.length:=by have h1:(dz x).length=(bE (dz x)).length:=rfl;rw[h1,rp,(by rw[iN];rfl:x.length=(uP (bE x)).flatten.length)];exact C9 (yw _ _ _)
end
section
open PySem.Builtin PySem.Builtin.Str
variable{w:Str}
def W7:List Str:=["a","(",")","\"","\\","'",""]
def QY:List Str:=W7.flatMap λa=>W7.map λb=>a++b
theorem F5(x:Int):FR x∈QY:=by
 have key:∀z:Int,w4.getD (z%7).toNat ""∈W7:=λz=>by have h7:(z%7).toNat<7:=(by exact Gn);generalize(z%7).toNat=k at h7;have h:w4.getD k ""=w4[k]'h7:=(by rw[aaR,aay (show k<w4.length from h7)];rfl);rw[h];exact acB (l:=w4) h7
 exact aij.mpr ⟨_,key x,aaH.mpr ⟨_,key (x/7),rfl⟩⟩
def brk(c:Nat):Bool:=c==40||c==41
def Ya(w:Str):Bool:=decide (w.length≤2)&&(w.length==0||(gH w).isSome)&&decide ((ada w "'" "'\"'\"'").length≤1000)&&(hH w==hO w)&&decide ((bE (hO w)).countP brk≤2)&&(bE w).all (λc=>c !=10)&&((bE (hO w)).getLast? ==some 39||(bE (hO w)).getLast? ==some 97)&&decide ((acQ w).length≤1000)&&(w !="zz")
theorem KX:QY.all Ya=true:=by decide+kernel
structure LF(w:Str):Prop where
 len:w.length≤2
 un:w.length≠0→(gH w).isSome=true
 rep:(ada w "'" "'\"'\"'").length≤1000
 qu:hH w=hO w
 br:(bE (hO w)).countP brk≤2
 nl:∀c∈bE w,c≠10
 la:∃k c,bE (hO w)=k++[c]∧c≠92
 rt:(acQ w).length≤1000
 zz:w≠"zz"
theorem WD(h:w∈QY):LF w:=by have:=aaZ.mp KX w h;unfold Ya at this;simp only[aaM,decide_eq_true_eq,aix,beq_iff_eq,bne_iff_ne,aaZ]at this;obtain⟨⟨⟨⟨⟨⟨⟨⟨h1,h2⟩,h3⟩,h4⟩,h5⟩,h6⟩,h7⟩,h8⟩,h9⟩:=this;refine⟨h1,λq=>h2.elim (λe=>absurd e q) id,h3,h4,h5,h6,?_,h8,h9⟩;rcases h7 with h|h;let k hk:=eE (afz.mp h);exact ba k 39 ⟨hk,by decide⟩;let k hk:=eE (afz.mp h);exact ba k 97 ⟨hk,by decide⟩
def tT:List Str→List Nat|[]=>[]|[w]=>bE (hO w)|w::v::t=>bE (hO w)++32::tT (v::t)
theorem ot:∀r:List Str,bE (gL r)=tT r:=by
 have key:∀(rs:List Str) (a:Array Nat),(rs.foldl (λacc p=>acc++((" ":Str)).cps++p.cps) a).toList=a.toList++(rs.map λp=>32::bE p).flatten:=by intro rs;induction rs with|nil=>intro a;simp|cons y rs ih=>intro a;rw[acu,ih,acn,acn,aan,abj];change a.toList++[32]++bE y++_=_;simp
 have WE:∀(w:Str) (t:List Str),bE (hO w)++((t.map hO).map λp=>32::bE p).flatten=tT (w::t):=by intro w t;induction t generalizing w with|nil=>simp[tT]|cons v t ih=>unfold tT;rw[←ih v,aan,aan,abj];rfl
 intro r;cases r with|nil=>rfl|cons w t=>change((t.map hO).foldl _ (hO w).cps).toList=_;rw[key];exact WE w t
def enc(d:Nat):List Nat:=if d=39 then[39,34,39,34,39]else[d]
theorem QZ(h:¬(w="a"∨w="aa")):bE (hO w)=39::((bE w).flatMap enc++[39]):=by
 unfold hO;rw[if_neg h,yv,yv,ri];change[39]++_++[39]=_;have:((iL w).map bE).flatten=(bE w).flatMap enc:=by unfold iL;rw[aba,List.flatMap_def];congr 1;let d zz:=acP;change bE (if d=39 then("'\"'\"'":Str)else⟨#[d]⟩)=enc d;unfold enc;split<;>rfl
 rw[this];simp
theorem KY:∀(l rr:List Nat) (t:Str) (q:Bool),(∀c∈l,c≠10)→cH (l.flatMap enc++39::rr) .q1 t q=cH rr .a (t++fK l) true:=by intro l0;induction l0 with|nil=>intro rr t q _;have e:t++fK []=t:=agz t;rw[e];rfl|cons d l ih=>intro rr t q h;have ih:=ih rr (t++⟨#[d]⟩) true λc hc=>h c (.tail _ hc);have e:t++fK (d::l)=t++⟨#[d]⟩++fK l:=(by rw[kf];have:fK (d::l)=fK [d]++fK l:=yt [d] l;rw[this];rfl);rw[e,←ih];have hd:=h d (.head _);rw[List.flatMap_cons,aaw];by_cases Hx:d=39;subst Hx;rfl;have:enc d=[d]:=(by unfold enc;rw[if_neg Hx]);rw[this];change(if d=39 then _ else if d=10 then _ else _)=_;rw[if_neg Hx,if_neg hd];rfl
theorem vD(h:LF w)(rr:List Nat):∃q,(!q&&w=="")=false∧(w.length !=0||q)=true∧cH (bE (hO w)++rr) .w "" false=cH rr .a w q:=by
 by_cases hq:w="a"∨w="aa";refine⟨false,?_,?_,?_⟩;rcases hq with rfl|rfl<;>decide;rcases hq with rfl|rfl<;>decide;unfold hO;rw[if_pos hq];rcases hq with rfl|rfl;rfl;rfl;refine⟨true,by simp,by simp,?_⟩;rw[QZ hq];change cH ((bE w).flatMap enc++[39]++rr) .q1 "" false=_;rw[aaw];show(KY _ _ _ _ h.nl).trans;have:("":Str)++fK (bE w)=w:=by change Str.empty++fK (bE w)=w;rw[agA];exact F0 (yu _)
 rw[this];rfl
theorem C_(s:Str):∀(r:List Str) (pre:List Nat),r≠[]→(∀w∈r,LF w)→bE s=pre++tT r→Rd s (pre.length,false) r|[],_,h,_,_=>(h rfl).elim|[w],pre,_,hw,hs=>by let q q1 q2 q3:=bN (vD (hw w (.head _)) []);have hlen:s.length=pre.length+(tT [w]).length:=(by change(bE s).length=_;rw[hs,aar]);refine Rd.more (t:=w) (q:=q) (r:=[]) (fin:=true) (by exact Ny hlen) ?_ q1 .done;change cH ((bE s).drop pre.length) .w "" false=_;rw[hs,aeF];change cH (bE (hO w)) .w "" false=_;rw[aaO]at q3;rw[q3];rfl|w::v::t,pre,_,hw,hs=>by let q q1 q2 q3:=bN (vD (hw w (.head _)) (32::tT (v::t)));have ih:=C_ s (v::t) (pre++bE (hO w)++[32]) (by simp) (λx hx=>hw x (.tail _ hx)) (by rw[hs];change pre++(bE (hO w)++32::tT (v::t))=_;simp);have hlen:s.length=pre.length+(bE (hO w)).length+1+(tT (v::t)).length:=(by change(bE s).length=_;rw[hs];change(pre++(bE (hO w)++32::tT (v::t))).length=_;simp only[aar,aaF];exact NA);have e:s.length-(tT (v::t)).length=(pre++bE (hO w)++[32]).length:=(by simp only[aar,abE];exact aeU hlen);refine Rd.more (t:=w) (q:=q) (r:=tT (v::t)) (fin:=false) (by exact ND hlen) ?_ q1 (e▸ih);change cH ((bE s).drop pre.length) .w "" false=_;rw[hs,aeF];change cH (bE (hO w)++32::tT (v::t)) .w "" false=_;rw[q3];change(if(w.length !=0||q)=true then _ else _)=_;rw[if_pos q2]
theorem KZ:Rd "('', '')" (0,false) ["(,",")"]:=by show Rd.more (t:="(,") (q:=true) (r:=[39,39,41]) (fin:=false) '2' (by decide+kernel) '2';exact Rd.more (t:=")") (q:=true) (r:=[]) (fin:=true) '2' (by decide+kernel) '2' .done
end
section
open PySem.Builtin PySem.Builtin.Str
variable{r:List Str}
def Da:Nat→Str→Option Str|0,b=>if Bo b "()"=true then none else some b|k+1,b=>if Bo b "()"=true then(if b.length≤5000 then Da k (ada b "()" "")else none)else some b
theorem F6:∀{k:Nat} {b b':Str},Da k b=some b'→Red k b b':=by
 intro l0;induction l0 with
 |zero=>intro b b' h;unfold Da at h;split at h;cases h;rename_i q;cases h;exact .done (by simpa using q)
 |succ k ih=>intro b b' h;unfold Da at h;split at h;rename_i q;split at h;rename_i q2;exact .step q q2 (ih h);cases h;rename_i q;cases h;exact .done (by simpa using q)
def allB:Nat→List (List Nat)|0=>[[]]|n+1=>[]::(allB n).flatMap λl=>[40::l,41::l]
theorem vE:∀(n:Nat) (l:List Nat),l.length≤n→(∀c∈l,c=40∨c=41)→l∈allB n|0,[],_,_=>.head _|0,_::_,h,_=>absurd h (by simp)|n+1,[],_,_=>.head _|n+1,c::l,h,hc=>by refine .tail _ (aij.mpr ⟨l,vE n l (acS h) λd hd=>hc d (.tail _ hd),?_⟩);rcases hc c (.head _)with rfl|rfl;exact .head _;exact .tail _ (.head _)
def Q0(b:List Nat):Bool:=match Da 3 (fK b)with
 |some b'=>(b'=="")==DF b 0
 |none=>false
theorem Db:(allB 6).all Q0=true:=by decide+kernel
set_option tactic.hygienic true in
theorem WF{b:List Nat}(h:b.length≤6)(hc:∀c∈b,c=40∨c=41):∃k b',Red k (fK b) b'∧(b'=="")=DF b 0:=by have:=aaZ.mp Db b (vE 6 b h hc);unfold Q0 at this;split at this;rename_i b' hb;exact ba 3 b' ⟨F6 hb,by simpa using this⟩;cases this
theorem F7(total:Nat):∀(us:List (List Nat)) (m:Nat),(vP total us m).length≤us.flatten.countP brk∧∀c∈vP total us m,c=40∨c=41:=by intro l0;induction l0 with|nil=>exact λzz=>⟨aak _,λc h=>nomatch h⟩|cons u t ih=>intro m;unfold vP;rw[abj,ahI];split;let h1 h2:=eA (ih (m+1));exact⟨by exact ac0 h1,h2⟩;let h1 h2:=eA (ih m);split;rename_i q;rcases q.1 with rfl|rfl;refine⟨?_,λc hc=>?_⟩;change(vP total t m).length+1≤1+_;exact GC h1;rcases aax.mp hc with h|h;exact .inl (by simpa using h);exact h2 c h;refine⟨?_,λc hc=>?_⟩;change(vP total t m).length+1≤1+_;exact GC h1;rcases aax.mp hc with h|h;exact .inr (by simpa using h);exact h2 c h;exact⟨by exact ac0 h1,h2⟩
theorem Dc:∀r:List Str,(∀w∈r,LF w)→(tT r).countP brk≤2*r.length|[],_=>aak _|[w],h=>(h w (.head _)).br|w::v::t,h=>by have ih:=Dc (v::t) λx hx=>h x (.tail _ hx);unfold tT;rw[ahI,aia];have:brk 32=false:=(by decide);rw[this];simp only[aaF]at ih⊢;simp only[aaU,if_false];exact NK ih ((h w (.head _)).br)
theorem vF:∀r:List Str,r≠[]→(∀w∈r,LF w)→∃k c,tT r=k++[c]∧c≠92|[],h,_=>(h rfl).elim|[w],_,h=>(h w (.head _)).la|w::v::t,_,h=>by let k c h1 h2:=cI (vF (v::t) (by simp) λx hx=>h x (.tail _ hx));exact ba (bE (hO w)++32::k) c ⟨by unfold tT;rw[h1];simp,h2⟩
def K1(r:List Str):Bool:=WC (bE (gL r))
theorem K2(gU:r≠[])(hl:r.length≤3)(hw:∀w∈r,w∈QY):pR r (K1 r):=by
 have tR:∀w∈r,LF w:=λw h=>WD (hw w h);have hq:r.map hH=r.map hO:=acP λw h=>(tR w h).qu;have hj:=jH (sep:=" ") (l:=r.map hO) (B:=60) (λy hy=>by refine ak (aaH.mp hy) λz tM r2=>?_;obtain rfl:=r2;exact CD (aab (tR z tM).len '2')) (by rw[aaa];change r.length*61≤_;exact aab (abz 61 hl) (aae rfl));have hlen:(gL r).length≤183:=by have:=hj.2.2;rw[aaa]at this;have:(gL r).length≤r.length*61:=this;exact aab this (abz 61 hl)
 have O5:∀l,bE (gL r)≠l++[92]:=λl q=>by rw[ot]at q;let k c h1 h2:=cI (vF r gU tR);rw[h1]at q;have:=congrArg List.getLast? q;simp at this;exact h2 this
 have KQ:fp (gL r)=if K1 r=true then gL r else"('', '')":=by unfold fp K1;rw[C8 O5]
 refine⟨gU,aab hl '2',λw h=>aab (tR w h).len '2',λw h=>(tR w h).un,λw h=>(tR w h).rep,hq▸hj.1,by rw[hq];rfl,aab hlen '2',aab (Ae _) (aab hlen '2'),O5,?_,KQ,?_⟩;let h1 h2:=eA (F7 ((uP (bE (gL r))).count [34]) (uP (bE (gL r))) 0);rw[iN,ot]at h1;let k b' g1 g2:=cI (WF (b:=vP ((uP (bE (gL r))).count [34]) (uP (bE (gL r))) 0) (by rw[ot];exact NL hl h1 (Dc r tR)) h2);refine ba k b' ⟨?_,g2⟩;rw[Aa];change Red k (Str.empty++_) b';rw[agA];exact g1;rw[KQ];by_cases h:K1 r=true;rw[if_pos h,if_pos h];exact C_ (gL r) r [] gU tR (by rw[ot];rfl);rw[if_neg h,if_neg h];exact KZ
theorem lO{xs:List Int}(h:r∈gm (ja xs)):r≠[]∧r.length≤3∧∀w∈r,w∈QY:=by let k hk r2:=ak (aaH.mp h);subst r2;unfold DA;refine⟨λq=>?_,ad2 _ _,λw hw=>?_⟩;have:=congrArg aaV q;rw[ado,aa9]at this;have:min 3 ((ja xs).length-3*k)=0:=this;exact NM (adP.mp hk) this;have:=List.mem_of_mem_drop (adR hw);unfold ja at this;let x z1 r2:=ak (aaH.mp this);subst r2;exact F5 x
theorem vG(xs:List Int):(gm (ja xs)).length≤4:=by
 unfold gm;rw[aaa,abC];have:(ja xs).length≤12:=by unfold ja;rw[aaa];exact ad2 _ _
 exact NN this
theorem F8(xs:List Int):∀r∈gm (ja xs),pR r (K1 r):=λr h=>K2 (lO h).1 (lO h).2.1 (lO h).2.2
end
section
open PySem.Builtin PySem.Builtin.Str
variable{f:Str→Int×List Str}
def gN(N:List Str)(f:Str→Int×List Str):G:=N.map λs=>(s,f s)
theorem dm{h:Str→Int×List Str}(e:∀s∈N,f s=h s):gN N f=gN N h:=acP λs hs=>by rw[e s hs]
theorem iO(s:Str)(f:Str→Int×List Str):∀N:List Str,db s (gN N f)=if s∈N then some (f s)else none:=by intro l0;induction l0 with|nil=>exact by rw[if_neg (by simp)];rfl|cons a N ih=>change(if s=a then some (f a)else db s (gN N f))=_;by_cases h:s=a;subst h;rw[if_pos rfl,if_pos (.head _)];rw[if_neg h,ih];by_cases h2:s∈N;rw[if_pos h2,if_pos (.tail _ h2)];rw[if_neg h2,if_neg (by simp[h,h2])]
theorem pU(h:Int×List Str→Int×List Str)(s:Str)(f:Str→Int×List Str):∀N:List Str,N.Nodup→dS h s (gN N f)=gN N λt=>if t=s then h (f t)else f t:=by intro l0;induction l0 with|nil=>exact λzz=>rfl|cons a N ih=>intro nd;have nd:=aaB.mp nd;change(if s=a then(a,h (f a))::gN N f else(a,f a)::dS h s (gN N f))=_;by_cases e:s=a;subst e;rw[if_pos rfl];change _=(s,if s=s then h (f s)else f s)::gN N _;rw[if_pos rfl];congr 1;let t ht:=dm;have gU:¬t=s:=λq=>nd.1 (by rw[←q];exact ht);rw[if_neg gU];rw[if_neg e,ih nd.2];change _=(a,if a=s then h (f a)else f a)::gN N _;rw[if_neg (λq=>e q.symm)]
def ins(N:List Str)(s:Str):List Str:=if s∈N then N else N++[s]
theorem Dd(h:s∉N→f s=(0,[])):kC s (gN N f)=gN (ins N s) f:=by delta kC ins;rw[iO];by_cases e:s∈N;rw[if_pos e,if_pos e];rfl;rw[if_neg e,if_neg e];unfold gN;rw[aaj,ahH,h e];rfl
theorem mR(h:N.Nodup)(s:Str):(ins N s).Nodup:=by unfold ins;split;exact h;rename_i e;exact aaX.mpr ⟨h,by simp,λa ha b hb q=>e (by rw[aaL.mp hb]at q;exact q▸ha)⟩
theorem iP{t:Str}:t∈ins N s↔t∈N∨t=s:=by unfold ins;split;rename_i e;exact⟨.inl,λh=>h.elim id λq=>q▸e⟩;rw[aax,aaL]
abbrev Ed:=List (Str×Str)
def fE(A B:Ed)(s:Str):Int×List Str:=(((A.filter λe=>e.1==s).length:Int),(B.filter λe=>e.2==s).map (λx=>x.1))
theorem F9{A B:Ed}{p:Str}(nd:N.Nodup)(hA:∀e∈A,e.1∈N)(hB:∀e∈B,e.2∈N):il s p (gN N (fE A B))=gN (ins N p) (fE A (B++[(s,p)])):=by
 unfold il;rw[Dd,pU _ _ _ _ (mR nd p)];let t ht:=dm;unfold fE;rw[abS,aaj];by_cases e:t=p;subst e;rw[if_pos rfl];simp;rw[if_neg e];have:([(s,p)]:Ed).filter (λe=>e.2==t)=[]:=by simp;exact λq=>e q.symm
 rw[this];simp;intro hp;unfold fE;have h1:A.filter (λe=>e.1==p)=[]:=abc.mpr λe he q=>hp (by have:=hA e he;rw[beq_iff_eq.mp q]at this;exact this);have h2:B.filter (λe=>e.2==p)=[]:=abc.mpr λe he q=>hp (by have:=hB e he;rw[beq_iff_eq.mp q]at this;exact this);rw[h1,h2];rfl
theorem rq:∀(ps:List Str) {N:List Str} {A B:Ed},N.Nodup→(∀e∈A,e.1∈N)→(∀e∈B,e.2∈N)→ps.foldl (λg p=>il s p g) (gN N (fE A B))=gN (ps.foldl ins N) (fE A (B++ps.map λp=>(s,p)))|[],N,A,B,_,_,_=>by simp|p::ps,N,A,B,nd,hA,hB=>by rw[acu,F9 nd hA hB,rq ps (mR nd p) (λe he=>iP.mpr (.inl (hA e he))) (λe he=>?_),acu,aan,aaw];rfl;rcases aax.mp he with h|h;exact iP.mpr (.inl (hB e h));rw[aaL.mp h];exact iP.mpr (.inr rfl)
theorem K3{A:Ed}(nd:N.Nodup)(hA:∀e∈A,e.1∈N)(hB:∀e∈A,e.2∈N):qy s ps (gN N (fE A A))=gN ((s::ps).foldl ins N) (fE (A++ps.map λp=>(s,p)) (A++ps.map λp=>(s,p))):=by
 unfold qy;rw[Dd,pU _ _ _ _ (mR nd s)];have:gN (ins N s) (λt=>if t=s then((fE A A t).1+(ps.length:Int),(fE A A t).2)else fE A A t)=gN (ins N s) (fE (A++ps.map λp=>(s,p)) A):=dm λt ht=>by unfold fE;rw[abS,aar];by_cases e:t=s;subst e;rw[if_pos rfl];have:(ps.map λp=>(t,p)).filter (λe=>e.1==t)=ps.map λp=>(t,p):=ahk.mpr λe he=>(by let p z1 r2:=ak (aaH.mp he);subst r2;simp);rw[this,aaa,ad_];rw[if_neg e];have:(ps.map λp=>(s,p)).filter (λe=>e.1==t)=[]:=abc.mpr λx hx q=>(by let p z1 r2:=ak (aaH.mp hx);subst r2;exact e (beq_iff_eq.mp q).symm);rw[this];rfl
 rw[this,rq ps (mR nd s) (λe he=>?_) (λe he=>iP.mpr (.inl (hB e he)))];rcases aax.mp he with h|h;exact iP.mpr (.inl (hA e h));let p z1 r2:=ak (aaH.mp h);subst r2;exact iP.mpr (.inr rfl);rfl;intro hs;unfold fE;have h1:A.filter (λe=>e.1==s)=[]:=abc.mpr λe he q=>hs (by have:=hA e he;rw[beq_iff_eq.mp q]at this;exact this);have h2:A.filter (λe=>e.2==s)=[]:=abc.mpr λe he q=>hs (by have:=hB e he;rw[beq_iff_eq.mp q]at this;exact this);rw[h1,h2];rfl
theorem cZ:∀(l N:List Str) {t:Str},t∈l.foldl ins N↔t∈N∨t∈l:=by intro l0;induction l0 with|nil=>exact λN t=>by simp|cons s l ih=>intro N t;rw[acu,ih,iP,aai,or_assoc]
theorem iQ:∀(l:List Str) {N:List Str},N.Nodup→(l.foldl ins N).Nodup|[],_,h=>h|s::l,N,h=>iQ l (mR h s)
theorem F_:∀(t:Tb) {N:List Str} {A:Ed},N.Nodup→(∀e∈A,e.1∈N)→(∀e∈A,e.2∈N)→t.foldl (λg e=>qy e.1 e.2 g) (gN N (fE A A))=gN ((dJ t).foldl ins N) (fE (A++jV t) (A++jV t))∧(∀e∈A++jV t,e.1∈(dJ t).foldl ins N∧e.2∈(dJ t).foldl ins N):=by intro l0;induction l0 with|nil=>intro N A nd hA hB;constructor;change gN N (fE A A)=gN N (fE (A++[]) (A++[]));rw[aaO];intro e he;have:e∈A:=(by simpa [jV]using he);exact⟨hA e this,hB e this⟩|cons x t ih=>intro N A nd hA hB;have e1:jV (x::t)=x.2.map (λw=>(x.1,w))++jV t:=rfl;have e2:dJ (x::t)=(x.1::x.2)++dJ t:=rfl;have hn:∀e∈A++x.2.map (λw=>(x.1,w)),e.1∈(x.1::x.2).foldl ins N∧e.2∈(x.1::x.2).foldl ins N:=λe he=>(by rcases aax.mp he with h|h;exact⟨(cZ _ _).mpr (.inl (hA e h)),(cZ _ _).mpr (.inl (hB e h))⟩;let w hw r2:=ak (aaH.mp h);subst r2;exact⟨(cZ _ _).mpr (.inr (.head _)),(cZ _ _).mpr (.inr (.tail _ hw))⟩);have ih:=ih (iQ (x.1::x.2) nd) (λe he=>(hn e he).1) (λe he=>(hn e he).2);rw[acu,K3 nd hA hB,e1,e2,ab4,←aaw];exact ih
theorem De(ev:List Str)(x:Str):iY (ev++[x])=iY ev++if x∈ev then[]else[x]:=by
 unfold iY;rw[aar,abE,aiy,abS,aaj];congr 1;have h1:(abu ev.length).filter (λk=> !((ev++[x]).take k).contains ((ev++[x]).getD k ""))=(abu ev.length).filter λk=> !(ev.take k).contains (ev.getD k ""):=by let k hk:=ah4;have hk:=adP.mp hk;rw[ae0 (aaN hk),aaR,ac4 hk,←aaR]
 rw[h1];let k hk:=acP;have hk:=adP.mp (abq.mp hk).1;rw[aaR,ac4 hk,←aaR];have h2:(ev++[x]).getD ev.length ""=x:=by rw[aaR,acX (aak _),adv];rfl
 have h3:(ev++[x]).take ev.length=ev:=afw;by_cases h:x∈ev;rw[if_pos h,acK (by rw[h2,h3];simp[h])];rfl;rw[if_neg h,acL (by rw[h2,h3];simp[h])];change[(ev++[x]).getD ev.length ""]=[x];rw[h2]
theorem yx(ev:List Str):iY ev=ev.foldl ins []:=by
 have key:∀l:List Str,iY l.reverse=l.reverse.foldl ins []:=by
  intro l;induction l with|nil=>rfl|cons x l ih=>
   rw[ah2,De,ab4,ih];change _=ins _ x;have hi:∀N:List Str,ins N x=if x∈N then N else N++[x]:=λzz=>rfl
   rw[hi];have:x∈l.reverse.foldl ins []↔x∈l.reverse:=(by rw[cZ];simp);by_cases h:x∈l.reverse;rw[if_pos h,if_pos (this.mpr h),aaO];rw[if_neg h,if_neg (λq=>h (this.mp q))]
 have:=key ev.reverse;rwa [List.reverse_reverse]at this
theorem K4(t:Tb):DE t=gN (iY (dJ t)) (fE (jV t) (jV t))∧(iY (dJ t)).Nodup∧∀e∈jV t,e.1∈iY (dJ t)∧e.2∈iY (dJ t):=by rw[yx];have:=F_ t (N:=[]) (A:=[]) abn (λe he=>nomatch he) (λe he=>nomatch he);exact⟨this.1,iQ _ abn,this.2⟩
end
section
open PySem.Builtin PySem.Builtin.Str
variable{key:Str→Int}
theorem ru:∀{a b:List Str},a.Perm b→a.Pairwise (λx y=>key x<key y)→b.Pairwise (λx y=>key x<key y)→a=b|[],b,h,_,_=>(List.nil_perm.mp h).symm|x::a,[],h,_,_=>absurd h.length_eq (by simp)|x::a,y::b,h,ha,hb=>by have ha:=aej.mp ha;have hb:=aej.mp hb;have e:x=y:=(by rcases aai.mp (h.mem_iff.mp (.head _))with q|q;exact q;rcases aai.mp (h.mem_iff.mpr (.head _:y∈y::b))with q2|q2;exact q2.symm;exact absurd (afa (ha.1 y q2) (hb.1 x q)) (ahn _));subst e;rw[ru ((List.perm_cons x).mp h) ha.2 hb.2]
def dl:List Str→List Str|[]=>[]|w::l=>if w∈l then dl l else w::dl l
theorem mS:∀{l:List Str} {w:Str},w∈dl l↔w∈l|[],_=>Iff.rfl|x::l,w=>by unfold dl;split;rename_i h;rw[mS,aai];exact⟨.inr,λq=>q.elim (λq=>q▸h) id⟩;rw[aai,aai,mS]
theorem Q_:∀l:List Str,(dl l).Nodup:=by intro l0;induction l0 with|nil=>exact abn|cons x l ih=>unfold dl;split;exact ih;rename_i h;exact aaB.mpr ⟨λq=>h (mS.mp q),ih⟩
theorem K5(wf:Nat→Str):∀{K:List Nat},K.Pairwise (·<·)→(dl (K.map wf)).Pairwise λa b=>∃k'∈K,wf k'=b∧∀k∈K,wf k=a→k<k':=by intro l0;induction l0 with|nil=>exact λzz=>ah5|cons k0 K ih=>intro h;have h:=aej.mp h;have Yb:(dl (K.map wf)).Pairwise λa b=>∃k'∈k0::K,wf k'=b∧∀k∈k0::K,wf k=a→k<k':=(ih h.2).imp λ{a b} h8=>bN h8 λk' h1 h2 h3=>⟨k',.tail _ h1,h2,λk hk e=>(aai.mp hk).elim (λq=>q▸h.1 k' h1) λq=>h3 k q e⟩;rw[aan];unfold dl;split;exact Yb;rename_i hn;refine aej.mpr ⟨λb hb=>?_,Yb⟩;let k' h1 h2:=ak (aaH.mp (mS.mp hb));refine⟨k',.tail _ h1,h2,λk hk e=>?_⟩;rcases aai.mp hk with q|q;exact q▸h.1 k' h1;exact absurd (e▸aat q) hn
def vH(c:Str→Int):List Str→List Str|[]=>[]|w::l=>(if c w-1=0 then[w]else[])++vH (λt=>if t=w then c t-1 else c t) l
theorem Df{N:List Str}(nd:N.Nodup):∀(L:List Str) (f:Str→Int×List Str) (r:List Str),(∀w∈L,w∈N)→L.foldl lH (gN N f,r)=(gN N (λs=>((f s).1-(L.count s:Int),(f s).2)),r++vH (λs=>(f s).1) L):=by intro l0;induction l0 with|nil=>intro f r _;change(gN N f,r)=_;rw[aaO];congr 1;exact dm λs zz=>by simp|cons w L ih=>intro f r h;have h1:lH (gN N f,r) w=(gN N (λt=>if t=w then((f t).1-1,(f t).2)else f t),r++if(f w).1-1=0 then[w]else[]):=(by unfold lH;rw[iO,if_pos (h w (.head _)),pU _ _ _ _ nd];dsimp only;congr 1;split<;>simp);rw[acu,h1,ih _ _ λx hx=>h x (.tail _ hx),aaw];congr 1;let s zz:=dm;rw[abM];by_cases e:s=w;subst e;rw[if_pos rfl];simp only[beq_self_eq_true,if_true,ad_,Prod.mk.injEq,and_true];change(f s).1-1-_=(f s).1-(_+1);exact Mg;rw[if_neg e,if_neg (by simpa using λq=>e q.symm)];rfl;congr 1;change _++_=_++vH _ L;congr 2;funext t;by_cases e:t=w;rw[if_pos e,if_pos e];rw[if_neg e,if_neg e]
theorem Ga:∀(L:List Str) (c:Str→Int),(∀w∈L,(L.count w:Int)≤c w)→vH c L=(dl L).filter λw=>c w-(L.count w:Int)==0:=by
 intro l0;induction l0 with|nil=>exact λzz zz=>rfl|cons w L ih=>
  intro c h;have hw:=h w (.head _);rw[adU]at hw;have ih:=ih (λt=>if t=w then c t-1 else c t) λt ht=>(by by_cases e:t=w;subst e;rw[if_pos rfl];exact Int.le_sub_one_of_lt hw;rw[if_neg e];have:=h t (.tail _ ht);rwa [agM (λq=>e q.symm)]at this);have hf:∀t,((if t=w then c t-1 else c t)-(L.count t:Int)==0)=(c t-((w::L).count t:Int)==0):=λt=>(by by_cases e:t=w;subst e;rw[if_pos rfl,adU];congr 1;exact Mh;rw[if_neg e,agM (λq=>e q.symm)]);unfold vH;rw[ih];rw[(ah4 λt zz=>hf t:(dl L).filter (λt=>(if t=w then c t-1 else c t)-(L.count t:Int)==0)=(dl L).filter λt=>c t-((w::L).count t:Int)==0)];conv=>rhs;unfold dl
  by_cases e:w∈L;rw[if_pos e,if_neg];rfl;have:=List.count_pos_iff.mpr e;exact Mj hw this;have h0:=acI e;rw[if_neg e];by_cases q:c w-1=0;rw[if_pos q,acL (by rw[adU,h0];simpa using q)];rfl;rw[if_neg q,acK (by rw[adU,h0];simpa using q)];rfl
section
variable{N:List Str} {E:Ed}
def fr(E:Ed)(gv dn:List Str)(s:Str):Prop:=s∉gv∧∀e∈E,e.1=s→e.2∈dn
theorem iZ(h:k<E.length):gE E k=E[k]:=by unfold gE;rw[aaR,aay h];rfl
theorem lP:k∈iW E s↔∃h:k<E.length,E[k].1=s:=by unfold iW;rw[abq,adP];constructor;intro JE;let h e:=eA JE;rw[iZ h]at e;exact⟨h,beq_iff_eq.mp e⟩;intro WG;let h e:=eE WG;refine⟨h,?_⟩;rw[iZ h];exact beq_iff_eq.mpr e
theorem Af:iX E gv dn s=true↔fr E gv dn s:=by
 delta iX fr;rw[aaM];have h2:(((iW E s).filter λk=> !dn.contains (gQ E k))==[])=true↔∀e∈E,e.1=s→e.2∈dn:=by rw[beq_iff_eq,abc];constructor;intro h e he hs;obtain⟨k,hk,rfl⟩:=aeZ.mp he;have:=h k (lP.mpr ⟨hk,hs⟩);unfold gQ at this;rw[iZ hk]at this;simpa using this;intro h k hk;let DC Rz:=eE (lP.mp hk);unfold gQ;rw[iZ DC];simpa using h _ (acB DC) Rz
 rw[(by simp:(!gv.contains s)=true↔s∉gv),h2]
theorem pV{M:Int}:M∈eo E dn s↔M= -1∨∃(k:Nat) (h:k<E.length),E[k].1=s∧E[k].2∈dn.drop (dn.length-1)∧M=(k:Int):=by unfold eo;rw[aai,aaH];constructor;rintro(h|⟨k,hk,rfl⟩);exact .inl h;let h1 h2:=eA (abq.mp hk);let h3 h4:=eE (lP.mp h1);unfold gQ at h2;rw[iZ h3]at h2;exact .inr ⟨k,h3,h4,by simpa using h2,rfl⟩;rintro(h|⟨k,h3,h4,h5,rfl⟩);exact .inl h;refine .inr ⟨k,abq.mpr ⟨lP.mpr ⟨h3,h4⟩,?_⟩,rfl⟩;unfold gQ;rw[iZ h3];simpa using h5
def Ra(N:List Str)(E:Ed)(dn:List Str)(a b:Str):Prop:=∀key:Str→Int,(∀x∈N,∃M,M∈eo E dn x∧(∀y∈eo E dn x,y≤M)∧key x=M*1000+(N.idxOf x:Int))→key a<key b
theorem Ag{us:List Str}(hN:N.Nodup)(nd:rl.Nodup)(hm:∀s,s∈rl↔s∈N∧fr E gv dn s)(ho:rl.Pairwise (Ra N E dn))(h:CW N E gv dn us):us=rl:=by
 let key h1 h2 h3:=bN h;have hp:rl.Perm (N.filter (iX E gv dn)):=by let s:=(List.perm_ext_iff_of_nodup nd (hN.filter _)).mpr;rw[hm,abq,Af]
 exact ru (h2.trans hp.symm) h3 (ho.imp λ{a b} q=>q key h1)
theorem Ah(hN:N.Nodup)(p:Str→Bool):(N.filter p).Pairwise (Ra N E []):=by
 have h0:N.Pairwise (Ra N E []):=by let i j hi hj iD key hk:=acw.mpr;have get:∀k (h:k<N.length),key N[k]= -1000+(k:Int):=λk h=>(by let M m1 m2 m3:=bN (hk N[k] (acB h));have:M= -1:=(by rcases pV.mp m1 with q|⟨_,_,_,q,_⟩;exact q;cases q);rw[m3,this,(jJ hN (aay h)).1];rfl);rw[get i hi,get j hj];exact ahd (abT.mpr iD) _
 exact h0.filter p
theorem Dg(hl:N.length≤50){nm:Str}(hE:∀e∈E,e.1∈N∧e.2∈N)(q:Str→Bool):((dl ((E.filter λe=>e.2==nm).map (λx=>x.1))).filter q).Pairwise (Ra N E (dn++[nm])):=by
 have HI:(dn++[nm]).drop ((dn++[nm]).length-1)=[nm]:=by rw[aar,abE,Nat.add_sub_cancel,aeF]
 let K:List Nat:=(abu E.length).filter λk=>(gE E k).2==nm;have hK:∀k,k∈K↔∃h:k<E.length,E[k].2=nm:=λk=>by change k∈List.filter _ _↔_;rw[abq,adP];constructor;intro JO;let h e:=eA JO;rw[iZ h]at e;exact⟨h,beq_iff_eq.mp e⟩;intro JH;let h e:=eE JH;refine⟨h,?_⟩;rw[iZ h];exact beq_iff_eq.mpr e
 have hL:(E.filter λe=>e.2==nm).map (λx=>x.1)=K.map λk=>(gE E k).1:=by
  have h1:(abu E.length).map (gE E)=E:=(by let i:=afK;rw[aag];by_cases hi:i<E.length;rw[acp hi,aay hi];exact congrArg some (iZ hi);rw[acz (by simpa using hi),acz (by exact aa8 hi)];rfl);conv=>lhs;rw[←h1]
  rw[agD,aba];rfl
 rw[hL];have hKs:K.Pairwise (·<·):=(List.pairwise_lt_range).filter _;refine List.Pairwise.filter _ (afZ (λ{a b} Ws Dy h8 key hk=>bN h8 λk' h1 h2 h3=>?_) (K5 (λk=>(gE E k).1) hKs));let WH h1b:=eE ((hK k').mp h1);rw[iZ WH]at h2;have ha:a∈N:=by let k DC r2:=ak (aaH.mp (mS.mp Ws));subst r2;have h5:=((hK k).mp DC).1;rw[iZ h5];exact(hE _ (acB h5)).1
 let Ma a1 a2 a3:=bN (hk a ha);let Mb b1 b2 b3:=bN (hk b (h2▸(hE _ (acB WH)).1:b∈N));have dc:Ma<(k':Int):=by rcases pV.mp a1 with q|⟨k,g1,g2,g3,g4⟩;exact Mm q;rw[HI,aaL]at g3;have:=h3 k ((hK k).mpr ⟨g1,g3⟩) (by rw[iZ g1];exact g2);exact Mo g4 this
 have hle:(k':Int)≤Mb:=b2 _ (pV.mpr (.inr ⟨k',WH,h2,by rw[HI,h1b];exact .head _,rfl⟩));rw[a3,b3];have:(N.idxOf a:Int)≤50:=by exact agq.mpr (aab (aaN (abD ha)) hl)
 exact Ms dc hle (by assumption)
end
end
section
open PySem.Builtin PySem.Builtin.Str
theorem kG:∀{a b:List Str},a.Nodup→(∀x∈a,x∈b)→a.length≤b.length|[],_,_,_=>aaD _|x::a,b,nd,h=>by have nd:=aaB.mp nd;have hx:=h x (.head _);have:=kG (b:=b.erase x) nd.2 λy hy=>(List.mem_erase_of_ne (λq=>nd.1 (by rw[←q];exact hy))).mpr (h y (.tail _ hy));rw[List.length_erase_of_mem hx]at this;have h0:=List.length_pos_of_mem hx;change a.length+1≤_;exact Nat.add_le_of_le_sub h0 this
def stK(E:Ed)(dn gv:List Str)(s:Str):Int:=if s∈dn then-2 else if s∈gv then-1 else((E.filter λe=>e.1==s&& !dn.contains e.2).length:Int)
def ez(E:Ed)(s:Str):List Str:=(E.filter λe=>e.2==s).map (λx=>x.1)
def gK(N:List Str)(E:Ed)(dn gv:List Str):G:=gN N λs=>(stK E dn gv s,ez E s)
theorem Gb{N:List Str}(nd:N.Nodup):∀(rl:List Str) (f:Str→Int×List Str),iK rl (gN N f)=gN N λs=>if s∈rl then(-1,(f s).2)else f s:=by intro l0;induction l0 with|nil=>intro f;change gN N f=_;exact dm λs zz=>by rw[if_neg (by simp)]|cons r t ih=>intro f;change iK t (dS (λa=>(-1,a.2)) r (gN N f))=_;rw[pU _ _ _ _ nd,ih];let s zz:=dm;by_cases h:s∈t;rw[if_pos h,if_pos (show s∈r::t from .tail _ h)];split<;>rfl;rw[if_neg h];by_cases e:s=r;subst e;rw[if_pos rfl,if_pos (show s∈s::t from .head _)];rw[if_neg e,if_neg (show¬s∈r::t by simp[e,h])]
theorem tJ{N:List Str}{E:Ed}{dn gv rl:List Str}(nd:N.Nodup)(h:∀s∈rl,s∉dn):iK rl (gK N E dn gv)=gK N E dn (gv++rl):=by
 rw[Gb nd];let s zz:=dm;unfold stK;by_cases e:s∈rl;rw[if_pos e];change(-1,ez E s)=((if s∈dn then(-2:Int)else if s∈gv++rl then-1 else _),ez E s);rw[if_neg (h s e),if_pos (aad _ e)];rw[if_neg e];have:s∈gv++rl↔s∈gv:=by simp[e]
 simp only[this]
structure Inv(N:List Str)(E:Ed)(dn gv wt rl:List Str):Prop where
 gN:∀s∈gv,s∈N
 WI:gv.Nodup
 perm:gv.Perm (dn++wt)
 Yc:rl.Nodup
 rm:∀s,s∈rl↔s∈N∧fr E gv dn s
 ord:rl.Pairwise (Ra N E dn)
 gd:∀s∈gv,∀e∈E,e.1=s→e.2∈dn
 Rb:∀(i:Nat) (s:Str),dn[i]? =some s→∀e∈E,e.1=s→e.2∈dn.take i
structure GH(N:List Str)(E:Ed):Prop where
 nd:N.Nodup
 nl:N.length≤50
 el:E.length≤800
 mem:∀e∈E,e.1∈N∧e.2∈N
 rt:∀s∈N,(acQ s).length≤1000
 zz:("zz":Str)∉N
section
variable{N:List Str} {E:Ed} {dn gv wt rl:List Str}
theorem Inv.rv(I:Inv N E dn gv wt rl)(h:s∈dn):s∈gv:=I.perm.mem_iff.mpr (aaf _ h)
theorem Inv.Rc(I:Inv N E dn gv wt rl)(h:s∈wt):s∈gv:=I.perm.mem_iff.mpr (aad _ h)
theorem Inv.jK(I:Inv N E dn gv wt rl):(dn++wt).Nodup:=I.perm.nodup_iff.mp I.WI
theorem Inv.Yd(I:Inv N E dn gv wt rl):(gv++rl).Nodup:=aaX.mpr ⟨I.WI,I.Yc,λa ha b hb q=>((I.rm b).mp hb).2.1 (by rw[←q];exact ha)⟩
theorem Inv.len(I:Inv N E dn gv wt rl)(H:GH N E):(gv++rl).length≤50:=aab (kG I.Yd λx hx=>(aax.mp hx).elim (I.gN x) λh=>((I.rm x).mp h).1) H.nl
theorem Dh(H:GH N E){gvx:List Str}{nm:Str}{nf:Int}(hm:nm∈N)(h:nm∈dn∨nm∉gvx):Dn [nm] (gK N E dn gvx) [] nf false (gK N E dn gvx) [] nf:=by show .bad (a:=(stK E dn gvx nm,ez E nm)) (by unfold gK;rw[iO,if_pos hm]);change 0≤stK E dn gvx nm∨stK E dn gvx nm= -2;unfold stK;by_cases e:nm∈dn;rw[if_pos e];exact .inr rfl;rw[if_neg e,if_neg (h.resolve_left e)];exact .inl (abr _)
theorem tK(H:GH N E)(I:Inv N E dn gv wt rl):Turn N E (gK N E dn gv) rl gv.length dn.length gv dn wt:=by
 have hl:=I.len H;rw[aar]at hl;have hp:=I.perm.length_eq;rw[aar]at hp;have HJ:∀s∈rl,s∉dn:=λs hs q=>((I.rm s).mp hs).2.1 (I.rv q);refine⟨λus h=>Ag H.nd I.Yc I.rm I.ord h,?_,λs hs=>?_,λnm An xE=>?_,by exact aab hl (aae rfl),by exact Sk hl hp,by exact Sl hl hp,?_⟩;have:decide ((dn.length:Int)<(gv.length:Int))= !wt.isEmpty:=by cases wt with|nil=>rw[ady,Nat.add_zero]at hp;rw[hp];simp|cons a b=>rw[aaF]at hp;exact decide_eq_true (by exact Sm hp)
 rw[this];unfold gK;rw[iO,if_pos ((I.rm s).mp hs).1];rfl;have hm:=aaA An;refine⟨H.rt nm hm,?_⟩;rw[tJ H.nd HJ];show Dh H hm;by_cases e:nm∈dn;exact .inl e;refine .inr λq=>xE ?_;rcases aax.mp q with q|q;exact aaf _ ((aax.mp (I.perm.mem_iff.mp q)).resolve_left e);exact aad _ q;exact kG (aaX.mp I.jK).1 λx hx=>I.gN x (I.rv hx)
theorem yz(H:GH N E)(I:Inv N E dn gv wt rl){w':List Str}{nm:Str}(hw:wt++rl=w'++[nm]):∃rl2,Inv N E (dn++[nm]) (gv++rl) w' rl2∧Dn (if dn.length%2=0 then[nm]else[nm,"zz"]) (iK rl (gK N E dn gv)) [] dn.length (dn.length%2==0) (gK N E (dn++[nm]) (gv++rl)) rl2 ((dn.length:Int)+1):=by
 have HJ:∀s∈rl,s∉dn:=λs hs q=>((I.rm s).mp hs).2.1 (I.rv q);have An:nm∈wt++rl:=hw▸aad _ (.head _);have Sd:nm∈gv++rl:=(aax.mp An).elim (λh=>aaf _ (I.Rc h)) (aad _);have kh:nm∉dn:=λq=>(aax.mp An).elim (λh=>(aaX.mp I.jK).2.2 nm q nm h rfl) λh=>HJ nm h q;have hnN:nm∈N:=(aax.mp Sd).elim (I.gN nm) λh=>((I.rm nm).mp h).1;have WJ:∀s∈gv++rl,∀e∈E,e.1=s→e.2∈dn:=λs hs=>(aax.mp hs).elim (I.gd s) λh=>((I.rm s).mp h).2.2;have hL:∀s,s∈ez E nm↔(s,nm)∈E:=λs=>by unfold ez;rw[aaH];constructor;intro JI;let e he r2:=ak JI;subst r2;let h1 h2:=eA (abq.mp he);have:e=(e.1,nm):=(by rw[←beq_iff_eq.mp h2]);exact this▸h1;intro h;exact⟨(s,nm),abq.mpr ⟨h,by simp⟩,rfl⟩
 have K6:∀s∈ez E nm,s∉gv++rl:=λs hs q=>kh (WJ s q _ ((hL s).mp hs) rfl);have Se:∀s∈ez E nm,s∉dn:=λs hs q=>K6 s hs (aaf _ (I.rv q));have Sg:∀s∈ez E nm,s≠nm:=λs hs q=>K6 s hs (q▸Sd);have WK:∀s∈ez E nm,s∈N:=λs hs=>(H.mem _ ((hL s).mp hs)).1;have WL:∀s,(((E.filter λe=>e.1==s&& !dn.contains e.2).length:Int))-((ez E nm).count s:Int)=((E.filter λe=>e.1==s&& !(dn++[nm]).contains e.2).length:Int):=λs=>by have key:∀E':Ed,(E'.filter λe=>e.1==s&& !dn.contains e.2).length=((E'.filter λe=>e.2==nm).map (λx=>x.1)).count s+(E'.filter λe=>e.1==s&& !(dn++[nm]).contains e.2).length:=(by intro E';induction E' with|nil=>rfl|cons e E' ih=>rw[abP,abP,abP];by_cases h1:e.1=s;by_cases h2:e.2=nm;have h3:dn.contains e.2=false:=(by rw[h2];simpa using kh);have h4:(dn++[nm]).contains e.2=true:=(by rw[h2];simp);rw[if_pos (by rw[h3];simp[h1]),if_pos (by simp[h2]),if_neg (by rw[h4];simp),aaF,aan,abM,if_pos (by simp[h1]),ih];exact Sn;have h4:(dn++[nm]).contains e.2=dn.contains e.2:=(by rw[ac7];simp[h2]);rw[if_neg (by simp[h2]:¬(e.2==nm)=true),h4];by_cases h5:(e.1==s&& !dn.contains e.2)=true;rw[if_pos h5,if_pos h5,aaF,aaF,ih];exact rfl;rw[if_neg h5,if_neg h5,ih];have h5:¬(e.1==s&& !dn.contains e.2)=true:=(by simp[h1]);have h6:¬(e.1==s&& !(dn++[nm]).contains e.2)=true:=(by simp[h1]);rw[if_neg h5,if_neg h6,ih];by_cases h2:(e.2==nm)=true;rw[if_pos h2,aan,abM,if_neg (by simpa using h1)];rfl;rw[if_neg h2]);exact Int.sub_eq_iff_eq_add'.mpr (congrArg Nat.cast (key E))
 let c:Str→Int:=λs=>stK E (dn++[nm]) (gv++rl) s+((ez E nm).count s:Int);have jZ:∀s,(if s=nm then(-2:Int)else stK E dn (gv++rl) s)=c s:=λs=>by change _=stK E (dn++[nm]) (gv++rl) s+((ez E nm).count s:Int);unfold stK;by_cases e:s=nm;subst e;rw[if_pos rfl,if_pos (by simp),acI (λq=>Sg s q rfl)];rfl;have hm:s∈dn++[nm]↔s∈dn:=(by simp[e]);rw[if_neg e];simp only[hm];by_cases h1:s∈dn;rw[if_pos h1,if_pos h1,acI (λq=>Se s q h1)];rfl;rw[if_neg h1,if_neg h1];by_cases h2:s∈gv++rl;rw[if_pos h2,if_pos h2,acI (λq=>K6 s q h2)];rfl;rw[if_neg h2,if_neg h2];exact Int.sub_eq_iff_eq_add.mp (WL s)
 have hg1:dS (λa=>(-2,a.2)) nm (gK N E dn (gv++rl))=gN N λs=>(c s,ez E s):=by unfold gK;rw[pU _ _ _ _ H.nd];let s zz:=dm;rw[←jZ s];by_cases e:s=nm;rw[if_pos e,if_pos e];rw[if_neg e,if_neg e]
 have hg2:(gN N λs=>(c s-((ez E nm).count s:Int),ez E s))=gK N E (dn++[nm]) (gv++rl):=dm λs zz=>by change(stK E (dn++[nm]) (gv++rl) s+((ez E nm).count s:Int)-((ez E nm).count s:Int),_)=_;rw[afd]
 have Jx:∀s∈ez E nm,0≤stK E (dn++[nm]) (gv++rl) s:=λs hs=>by unfold stK;rw[if_neg (by simp[Se s hs,Sg s hs]),if_neg (K6 s hs)];exact abr _
 have rN:vH c (ez E nm)=(dl (ez E nm)).filter λw=>c w-((ez E nm).count w:Int)==0:=Ga _ _ λw hw=>by have:=Jx w hw;change _≤stK E (dn++[nm]) (gv++rl) w+((ez E nm).count w:Int);exact Int.le_add_of_nonneg_left this
 refine⟨vH c (ez E nm),⟨λs hs=>(aax.mp hs).elim (I.gN s) λh=>((I.rm s).mp h).1,I.Yd,?_,?_,λs=>?_,?_,λs hs e he q=>aaf _ (WJ s hs e he q),?_⟩,?_⟩;have h1:(gv++rl).Perm (dn++(wt++rl)):=by rw[←aaw];exact I.perm.append_right rl
 rw[hw]at h1;show h1.trans;rw[aaw];exact acY dn aaY;rw[rN];exact(Q_ _).filter _;rw[rN,abq,mS];constructor;intro JJ;let h1 h2:=eA JJ;have h2:stK E (dn++[nm]) (gv++rl) s=0:=by have:=beq_iff_eq.mp h2;have e:c s=stK E (dn++[nm]) (gv++rl) s+((ez E nm).count s:Int):=rfl;exact So this e
 refine⟨WK s h1,K6 s h1,λe he q=>?_⟩;unfold stK at h2;rw[if_neg (by simp[Se s h1,Sg s h1]),if_neg (K6 s h1)]at h2;have h3:(E.filter λe=>e.1==s&& !(dn++[nm]).contains e.2)=[]:=agh.mp (by exact Int.ofNat_eq_zero.mp h2);have h4:=abc.mp h3 e he;simp only[aaM,beq_iff_eq,ab3,not_and,Bool.not_eq_false]at h4;simpa using h4 q;intro JK;let h1 h2 h3:=pX JK;have hs:s∈ez E nm:=by refine abX λxE=>h2 (aad _ ((I.rm s).mpr ⟨h1,λq=>h2 (aaf _ q),λe he q=>?_⟩));rcases aax.mp (h3 e he q)with h|h;exact h;exfalso;have:e=(s,nm):=ai4 q (aaL.mp h);exact xE ((hL s).mpr (this▸he))
 refine⟨hs,beq_iff_eq.mpr ?_⟩;have e0:c s=stK E (dn++[nm]) (gv++rl) s+((ez E nm).count s:Int):=rfl;have:stK E (dn++[nm]) (gv++rl) s=0:=by unfold stK;rw[if_neg (by simp[Se s hs,Sg s hs]),if_neg (K6 s hs)];have h4:(E.filter λe=>e.1==s&& !(dn++[nm]).contains e.2)=[]:=abc.mpr λe he q=>(by simp only[aaM,beq_iff_eq,ab3]at q;have:=h3 e he q.1;have h5:(dn++[nm]).contains e.2=true:=(by simpa using this);rw[h5]at q;cases q.2);rw[h4];rfl
 exact Sp e0 this;rw[rN];exact Dg H.nl H.mem _;intro i s hi e he q;by_cases h:i<dn.length;rw[ac4 h]at hi;rw[ae0 (aaN h)];exact I.Rb i s hi e he q;have E7:=(aav.mp hi).1;rw[aar,abE]at E7;obtain rfl:i=dn.length:=by exact LJ h E7
 rw[acX (aak _),adv]at hi;obtain rfl:nm=s:=by simpa using hi
 rw[afw];exact WJ nm Sd e he q;have hf:db nm (iK rl (gK N E dn gv))=some (-1,ez E nm):=by rw[tJ H.nd HJ];unfold gK;rw[iO,if_pos hnN];unfold stK;rw[if_neg kh,if_pos Sd]
 have Ct:∀w∈ez E nm,(db w (iK rl (gK N E dn gv))).isSome=true:=λw hw=>by rw[tJ H.nd HJ];unfold gK;rw[iO,if_pos (WK w hw)];rfl
 have yS:([]:List Str).length+(ez E nm).length≤1000:=by unfold ez;rw[aaa];have:=abF (λe:Str×Str=>e.2==nm) E;have:=H.el;change 0+_≤_;exact Sr (by assumption) this
 have e1:((ez E nm).foldl lH (dS (λa=>(-2,a.2)) nm (iK rl (gK N E dn gv)),[]))=(gK N E (dn++[nm]) (gv++rl),vH c (ez E nm)):=by rw[tJ H.nd HJ,hg1,(Df H.nd (ez E nm) (λs=>(c s,ez E s)) [] WK),←hg2];rfl
 by_cases q:dn.length%2=0;rw[if_pos q,q];show .ok hf Ct yS;rw[e1];exact .nil;have q1:dn.length%2=1:=by exact ahl.mp q
 rw[if_neg q,q1];show .ok hf Ct yS;rw[e1];show .Qv;unfold gK;rw[iO,if_neg H.zz]
theorem K7(H:GH N E):∀(k:Nat) (dn gv wt rl:List Str),Inv N E dn gv wt rl→N.length≤dn.length+k→∃dF gF,Inv N E dF gF [] []∧ka N E gF.length (gK N E dF gF) gF.length dF.length k (gK N E dn gv) rl gv.length dn.length gv dn wt:=by intro k;induction k with|zero=>intro dn gv wt rl I hk;have h0:wt++rl=[]:=(by rcases agN (wt++rl)with h|⟨w',nm,h⟩;exact h;rw[agO]at h;let rl2 I2 z2:=ak (yz H I h);have:=kG (aaX.mp I2.jK).1 λx hx=>I2.gN x (I2.rv hx);rw[aar,abE]at this;lia);let r0 r1:=eA (adx.mp h0);subst r0;subst r1;exact ba dn gv ⟨I,tK H I,.inl ⟨rfl,rfl,rfl,rfl,rfl⟩⟩|succ k ih=>intro dn gv wt rl I hk;rcases agN (wt++rl)with h|⟨w',nm,h⟩;let r0 r1:=eA (adx.mp h);subst r0;subst r1;exact ba dn gv ⟨I,tK H I,.inl ⟨rfl,rfl,rfl,rfl,rfl⟩⟩;rw[agO]at h;let rl2 I2 hd:=ak (yz H I h);let dF gF IF hr:=cI (ih _ _ _ _ I2 (by rw[aar,abE];exact Sv hk));refine ba dF gF ⟨IF,?_⟩;have An:nm∈N:=I2.gN nm (I2.rv (aad _ (.head _)));have e2:((dn++[nm]).length:Int)=(dn.length:Int)+1:=(by rw[aar,ad_];rfl);rw[(by rw[aar,ad_]:((gv++rl).length:Int)=(gv.length:Int)+(rl.length:Int)),e2]at hr;exact⟨tK H I,.inr (Iz _ _ _ _ _ ⟨h,H.rt nm An,hd,hr⟩)⟩
end
end
section
open PySem.Builtin PySem.Builtin.Str
variable{rk:Str→Nat}
section
variable{N:List Str} {E:Ed} {g:G}
def Gc(E:Ed):List Str→Prop|[]=>True|s::f=>(∀w∈ez E s,w∈f)∧Gc E f
def Below(E:Ed)(fin:List Str):Str→List (Str×Nat)→Prop|_,[]=>True|x,(s,i)::r=>(∃j,i=j+1∧(ez E s)[j]? =some x∧∀w∈(ez E s).take j,w∈fin)∧Below E fin s r
def HK(E:Ed)(fin:List Str):List (Str×Nat)→Prop|[]=>True|(s,i)::r=>(∀w∈(ez E s).take i,w∈fin)∧Below E fin s r
structure Sh(N:List Str)(E:Ed)(seen:List Str)(aC:List (Str×Nat))(fin:List Str):Prop where
 perm:seen.Perm (aC.map (λx=>x.1)++fin)
 nd:seen.Nodup
 mem:∀s∈seen,s∈N
 top:Gc E fin
theorem Below.mono{fin nQ:List Str}(h:∀w∈fin,w∈nQ):∀{x:Str} {aC:List (Str×Nat)},Below E fin x aC→Below E nQ x aC|_,[],_=>trivial|_,(s,i)::r,⟨⟨j,h1,h2,h3⟩,h4⟩=>⟨⟨j,h1,h2,λw hw=>h w (h3 w hw)⟩,Below.mono h h4⟩
theorem Below.rank{fin:List Str}(hr:∀s w,w∈ez E s→rk s<rk w):∀{x:Str} {aC:List (Str×Nat)},Below E fin x aC→∀s∈aC.map (λx=>x.1),rk s<rk x|_,[],_,s,hs=>nomatch hs|x,(t,i)::r,⟨⟨j,h1,h2,h3⟩,h4⟩,s,hs=>by have h0:=hr t x (aaA h2);rcases aai.mp hs with q|q;rw[q];exact h0;exact ah0 (Below.rank hr h4 s q) h0
theorem Below.push{fin:List Str}:∀{aC:List (Str×Nat)},Below E fin x aC→x∈fin→HK E fin aC|[],_,_=>trivial|(s,i)::r,⟨⟨j,h1,h2,h3⟩,h4⟩,hx=>⟨λw hw=>by subst h1;rw[aaK,h2]at hw;rcases aax.mp hw with q|q;exact h3 w q;have:w=x:=(by simpa using q);rw[this];exact hx,h4⟩
def Ai(N:List Str)(E:Ed)(seen:List Str):Nat:=((N.filter λs=> !seen.contains s).map λs=>2*(ez E s).length+3).sum
def Rh(E:Ed)(aC:List (Str×Nat)):Nat:=(aC.map λp=>2*((ez E p.1).length-p.2)+1).sum
theorem K8{seen:List Str}:∀{N:List Str},Ai N E (s::seen)≤Ai N E seen:=by intro l0;induction l0 with|nil=>exact aak _|cons t N ih=>have ih:=ih;unfold Ai at ih⊢;rw[abP,abP];by_cases h1:t∈seen;rw[if_neg (by simp[h1]),if_neg (by simp[h1])];exact ih;by_cases h2:t=s;rw[if_neg (by simp[h2]),if_pos (by simp[h1]),aan,adh];exact ac0 ih;rw[if_pos (by simp[h1,h2]),if_pos (by simp[h1]),aan,aan,adh,adh];exact abe ih _
theorem Gd{seen:List Str}(hs:s∉seen):∀{N:List Str},s∈N→Ai N E (s::seen)+(2*(ez E s).length+3)≤Ai N E seen:=by
 intro l0;induction l0 with
 |nil=>intros;first|contradiction|(rename_i h;cases h)|nofun
 |cons t N ih=>intro h;unfold Ai;rw[abP,abP];by_cases h2:t=s;subst h2;have:=K8 (E:=E) (seen:=seen) (s:=t) (N:=N);unfold Ai at this;rw[if_neg (by simp),if_pos (by simp[hs]),aan,adh];exact LO this;have hn:s∈N:=(aai.mp h).resolve_left λq=>h2 q.symm;have ih:=ih hn;unfold Ai at ih;by_cases h1:t∈seen;rw[if_neg (by simp[h1]),if_neg (by simp[h1])];exact ih;rw[if_pos (by simp[h1,h2]),if_pos (by simp[h1]),aan,aan,adh,adh];exact LR ih
def Di(E:Ed):Prop:=¬∃rk:Str→Nat,∀s w,w∈ez E s→rk s<rk w
def Ri(N:List Str)(E:Ed)(seen:List Str)(arg:Option Str):Option (List Str)→Prop|none=>Di E|some dW=>(∃nQ,Sh N E dW [] nQ)∧(∀s∈seen,s∈dW)∧∀w,arg=some w→w∈dW
theorem pW(H:GH N E)(hg:∀s∈N,∃a,db s g=some (a,ez E s)):∀(m:Nat) (seen:List Str) (aC:List (Str×Nat)) (fin:List Str) (arg:Option Str),Sh N E seen aC fin→(match arg with|none=>HK E fin aC|some w=>w∈N∧Below E fin w aC)→
  Ai N E seen+Rh E aC+(if arg.isSome then 1 else 0)<m→∃k res,on g k seen aC arg res∧Ri N E seen arg res
 |0,_,_,_,_,_,_,h=>absurd h (Nat.not_lt_zero _)
 |m+1,seen,aC,fin,some w,I,⟨hw,hb⟩,hm=>by
  by_cases h1:w∈seen
  ·by_cases h2:w∈aC.map (λx=>x.1)
   ·refine ba 0 none ⟨.ZG h1 h2,λh8=>eE h8 λrk hr=>?_⟩
    exact absurd (Below.rank hr hb w h2) (Nat.lt_irrefl _)
   ·have hf:w∈fin:=(aax.mp (I.perm.mem_iff.mp h1)).resolve_left h2
    refine cI (pW H hg m seen aC fin none I (hb.push hf) (by change Ai N E seen+Rh E aC+0<m;exact abZ hm)) λk res d r=>?_
    refine ba (k+1) res ⟨.inr (.inl ⟨h1,h2,d⟩),?_⟩
    cases res with
    |none=>exact r
    |some dW=>exact⟨r.1,r.2.1,λw' e=>by cases e;exact r.2.1 w h1⟩
  ·refine eE (hg w hw) λa ha=>?_
   have jK:(w::seen).Nodup:=aaB.mpr ⟨h1,I.nd⟩
   have hlen:=kG jK (b:=N) λx hx=>(aai.mp hx).elim (λq=>q▸hw) (I.mem x)
   have hN:=H.nl
   obtain⟨k,res,d,r⟩:=pW H hg m (w::seen) ((w,0)::aC) fin none ⟨abB w I.perm,jK,λx hx=>(aai.mp hx).elim (λq=>q▸hw) (I.mem x),I.top⟩ ⟨λx hx=>by simp at hx,hb⟩ (by
    change Ai N E (w::seen)+((2*((ez E w).length-0)+1)+Rh E aC)+0<m
    exact LU hm (Gd (E:=E) h1 hw))
   refine ba (k+1) res ⟨.inr (.inr ⟨h1,by rw[aaF]at hlen;exact aab (aab hlen hN) (aae rfl),by rw[ha];rfl,d⟩),?_⟩
   cases res with
   |none=>exact r
   |some dW=>exact⟨r.1,λs hs=>r.2.1 s (.tail _ hs),λw' e=>by cases e;exact r.2.1 w (.head _)⟩
 |m+1,seen,[],fin,none,I,_,hm=>(ba 0 (some seen) ⟨.inl ⟨rfl,rfl⟩,⟨fin,I⟩,λs hs=>hs,λw e=>nomatch e⟩)
 |m+1,seen,(s,i)::r,fin,none,I,⟨ht,hb⟩,hm=>by
  refine eE (hg s (I.mem s (I.perm.mem_iff.mpr (.head _)):s∈N)) λa ha=>?_
  cases hw:(ez E s)[i]? with
  |some w=>
   have hi:=(aav.mp hw).1
   have hwN:w∈N:=by
    refine ak (aaH.mp (aaA hw)) λe he r2=>?_
    obtain rfl:=r2
    exact(H.mem e (abq.mp he).1).1
   obtain⟨k,res,d,q⟩:=pW H hg m seen ((s,i+1)::r) fin (some w) ⟨I.perm,I.nd,I.mem,I.top⟩ ⟨hwN,⟨i,rfl,hw,ht⟩,hb⟩ (by
    change Ai N E seen+((2*((ez E s).length-(i+1))+1)+Rh E r)+1<m
    exact LZ hm hi)
   refine ba (k+1) res ⟨.inr (p4 _ _ _ _ ⟨rfl,ha,.inl ⟨_,hw,d⟩⟩),?_⟩
   cases res with
   |none=>exact q
   |some dW=>exact⟨q.1,q.2.1,λw' e=>nomatch e⟩
  |none=>
   have hi:=ac2.mp hw
   obtain⟨k,res,d,q⟩:=pW H hg m seen r (s::fin) none ⟨I.perm.trans aaS.symm,I.nd,I.mem,(λw hw=>ht w (by rw[abd hi];exact hw):∀w∈ez E s,w∈fin),I.top⟩ ((hb.mono λw hw=>.tail _ hw).push (.head _)) (by
    change Ai N E seen+Rh E r+0<m
    exact L1 hm)
   refine ba (k+1) res ⟨.inr (p4 _ _ _ _ ⟨rfl,ha,.inr ⟨hw,d⟩⟩),?_⟩
   cases res with
   |none=>exact q
   |some dW=>exact⟨q.1,q.2.1,λw' e=>nomatch e⟩
theorem K9(H:GH N E)(hg:∀s∈N,∃a,db s g=some (a,ez E s)):∀(l seen fin:List Str),(∀s∈l,s∈N)→Sh N E seen [] fin→∃b,Ke g l seen b∧(b=true→Di E)∧(b=false→∃dW nQ,Sh N E dW [] nQ∧(∀s∈seen,s∈dW)∧∀s∈l,s∈dW):=by intro l0;induction l0 with|nil=>exact λseen fin zz I=>⟨false,rfl,(λh=>nomatch h),λzz=>(ba seen fin ⟨I,λs hs=>hs,(λs hs=>nomatch hs)⟩)⟩|cons s l ih=>intro seen fin hl I;by_cases h:s∈seen;let b d h1 h2:=bN (ih seen fin (λx hx=>hl x (.tail _ hx)) I);refine⟨b,.inl ⟨h,d⟩,h1,λhb=>?_⟩;let dW nQ I' g1 g2:=bG (h2 hb);exact ba dW nQ ⟨I',g1,λx hx=>(aai.mp hx).elim (λq=>q▸g1 s h) (g2 x)⟩;let k res d r:=cI (pW H hg _ seen [] fin (some s) I ⟨hl s (.head _),trivial⟩ (aby _));cases res with|none=>exact⟨true,.inr ⟨h,k,_,d,λzz=>rfl,λzz q=>nomatch q⟩,λzz=>r,λq=>nomatch q⟩|some dW=>obtain⟨⟨nQ,I'⟩,g1,g2⟩:=r;let b d2 h1 h2:=bN (ih dW nQ (λx hx=>hl x (.tail _ hx)) I');refine⟨b,.inr ⟨h,k,_,d,λq=>(nomatch q),λzz q=>aaJ q▸d2⟩,h1,λhb=>?_⟩;let Rj WM I2 q1 q2:=bG (h2 hb);exact ba Rj WM ⟨I2,λx hx=>q1 x (g1 x hx),λx hx=>(aai.mp hx).elim (λq=>q▸q1 s (g2 s rfl)) (q2 x)⟩
theorem Ge:∀{f:List Str},Gc E f→∀y∈f,∀w∈ez E y,w∈f:=by
 intro l0;induction l0 with
 |nil=>intros;first|contradiction|(rename_i h;cases h)|nofun
 |cons s f ih=>intro⟨h1,h2⟩ y hy w hw;rcases aai.mp hy with q|q;exact .tail _ (h1 w (q▸hw));exact .tail _ (ih h2 y q w hw)
theorem Gf{X:Str→Prop}(hX:∀s,X s→∃y,X y∧s∈ez E y):∀{f:List Str},Gc E f→f.Nodup→(∀s,X s→s∈f)→∀s,¬X s:=by intro l0;induction l0 with|nil=>exact λzz zz h s hs=>nomatch h s hs|cons t f ih=>intro⟨h1,h2⟩ nd h s hs;have nd:=aaB.mp nd;have ht:¬X t:=λq=>(by let y hy Qy:=ak (hX t q);rcases aai.mp (h y hy)with e|e;exact nd.1 (h1 t (e▸Qy));exact nd.1 (Ge h2 y e t Qy));exact ih h2 nd.2 (λx hx=>(aai.mp (h x hx)).resolve_left λe=>ht (e▸hx)) s hs
theorem Gg(H:GH N E)(hg:∀s∈N,∃a,db s g=some (a,ez E s)){dF gF:List Str}(I:Inv N E dF gF [] []):Ke g N [] (decide (gF.length<N.length)):=by
 let b d h1 h2:=bN (K9 H hg N [] [] (λs hs=>hs) ⟨aiW,abn,(λs hs=>nomatch hs),trivial⟩);have hp:gF.Perm dF:=by have:=I.perm;rwa [aaO]at this
 have Py:dF.Nodup:=hp.nodup_iff.mp I.WI;have hlen:=hp.length_eq;have key:b=decide (gF.length<N.length):=by
  cases b with
  |true=>
   have xE:=h1 rfl;refine(decide_eq_true (abX λdc=>xE ?_)).symm;have WN:∀s∈N,s∈dF:=λs hs=>abX λq=>dc (by have:=kG (a:=s::dF) (b:=N) (aaB.mpr ⟨q,Py⟩) λx hx=>(aai.mp hx).elim (λe=>e▸hs) ((λx hx=>I.gN x (hp.mem_iff.mpr hx):∀x∈dF,x∈N) x);rw[aaF]at this;exact L5 hlen this);refine⟨λs=>dF.idxOf s,λs w hw=>?_⟩;let e he r2:=ak (aaH.mp hw);subst r2;let vM ie:=eA (abq.mp he);have ie:=beq_iff_eq.mp ie;have hi:=abD (WN _ (H.mem e vM).1:e.1∈dF);have ht:=I.Rb (dF.idxOf e.1) e.1 (by rw[aay hi,aei hi]) e vM rfl;rw[ie]at ht;have h3:dF.idxOf s=(dF.take (dF.idxOf e.1)).idxOf s:=by
    conv=>lhs;rw[←agL (dF.idxOf e.1) dF]
    rw[List.idxOf_append,if_pos ht]
   have h4:=abD ht;change dF.idxOf s<dF.idxOf e.1;exact L7 h3 h4 (ad2 (dF.idxOf e.1) dF)
  |false=>
   let dW nQ I' z3 hc:=bG (h2 rfl);have Sb:dW.Perm nQ:=I'.perm;have xE:=Gf (E:=E) (X:=λs=>s∈N∧s∉dF) (λs ⟨hs,hsd⟩=>by
    have hnr:¬fr E gF dF s:=λq=>nomatch (I.rm s).mpr ⟨hs,q⟩
    have:∃e∈E,e.1=s∧e.2∉dF:=abX λq=>hnr ⟨(λq=>hsd (hp.mem_iff.mp q):s∉gF),λe he e1=>abX λe2=>q ⟨e,he,e1,e2⟩⟩
    refine bN this λe he e1 e2=>?_
    refine⟨e.2,⟨(H.mem e he).2,e2⟩,?_⟩
    unfold ez
    exact aaH.mpr ⟨e,abq.mpr ⟨he,by simp⟩,e1⟩) I'.top (Sb.nodup_iff.mp I'.nd) (λs hs=>Sb.mem_iff.mp (hc s hs.1))
   have:=kG H.nd (λs hs=>abX λq=>xE s ⟨hs,q⟩:∀s∈N,s∈dF);exact(decide_eq_false (by exact L8 hlen this)).symm
 exact key▸d
end
end
section
open PySem.Builtin PySem.Builtin.Str
variable{k w:Str} {t:Tb}
theorem vI(k:Str)(v:List Str):∀t:Tb,(mM k v t).map (λx=>x.1)=ins (t.map (λx=>x.1)) k:=by intro l0;induction l0 with|nil=>exact rfl|cons e t ih=>unfold mM;by_cases h:e.1=k;rw[if_pos h];subst h;unfold ins;rw[if_pos (.head _)];rfl;rw[if_neg h,aan,ih];unfold ins;have:k∈(e::t).map (λx=>x.1)↔k∈t.map (λx=>x.1):=(by rw[aan,aai];exact⟨λq=>q.resolve_left λq=>h q.symm,.inr⟩);by_cases h2:k∈t.map (λx=>x.1);rw[if_pos h2,if_pos (this.mpr h2)];rfl;rw[if_neg h2,if_neg (λq=>h2 (this.mp q))];rfl
theorem K_(k:Str)(v:List Str):∀t:Tb,(dJ (mM k v t)).length+(match jT k t with|some old=>old.length+1|none=>0)=(dJ t).length+v.length+1:=by intro l0;induction l0 with|nil=>change(dJ [(k,v)]).length+0=0+v.length+1;simp[dJ]|cons e t ih=>unfold mM jT;by_cases h:e.1=k;rw[if_pos h,if_pos h];change((k::v)++dJ t).length+(e.2.length+1)=((e.1::e.2)++dJ t).length+v.length+1;simp only[aar,aaF];exact MG;rw[if_neg h,if_neg h];change((e.1::e.2)++dJ (mM k v t)).length+_=((e.1::e.2)++dJ t).length+v.length+1;simp only[aar,aaF];exact MH (ih)
theorem La{old:List Str}:∀{t:Tb},jT k t=some old→w∈old→w∈dJ t:=by
 intro l0;induction l0 with
 |nil=>intros;first|contradiction|(rename_i h;cases h)|nofun
 |cons e t ih=>intro h hw;unfold jT at h;change w∈(e.1::e.2)++dJ t;split at h;cases h;exact aaf _ (.tail _ hw);exact aad _ (ih h hw)
theorem Gh{v:List Str}:∀{t:Tb},w∈dJ (mM k v t)→w∈dJ t∨w=k∨w∈v:=by intro l0;induction l0 with|nil=>intro h;have:w∈k::v:=(by simpa [dJ,mM]using h);exact .inr (aai.mp this)|cons e t ih=>intro h;unfold mM at h;split at h;have h:w∈(k::v)++dJ t:=h;rcases aax.mp h with h|h;exact .inr (aai.mp h);exact .inl (show w∈(e.1::e.2)++dJ t from aad _ h);have h:w∈(e.1::e.2)++dJ (mM k v t):=h;rcases aax.mp h with h|h;exact .inl (show w∈(e.1::e.2)++dJ t from aaf _ h);exact(ih h).imp (λh=>show w∈(e.1::e.2)++dJ t from aad _ h) id
structure nq(t:Tb)(n:Nat):Prop where
 nd:(t.map (λx=>x.1)).Nodup
 ln:t.length≤n
 ev:(dJ t).length≤3*n
 wd:∀w∈dJ t,(acQ w).length≤1000∧w≠"zz"
theorem Dj{r:List Str}(h:nq t n)(gU:r≠[])(hl:r.length≤3)(hw:∀w∈r,(acQ w).length≤1000∧w≠"zz"):nq (stepT t r) (n+1):=by
 obtain⟨a,ws,rfl⟩:∃a ws,r=a::ws:=by cases r with|nil=>exact(gU rfl).elim|cons a ws=>exact ba a ws rfl
 change nq (mM a ((jT a t).getD []++ws) t) (n+1);refine⟨by rw[vI];exact mR h.nd a,?_,?_,λw tR=>?_⟩;have:=congrArg aaV (vI a ((jT a t).getD []++ws) t);rw[aaa]at this;rw[this];have h0:=h.ln;have h1:(t.map (λx=>x.1)).length=t.length:=aaa _;unfold ins;split;exact MI h0 h1;rw[aar,abE];exact MJ h0 h1;have h1:=K_ a ((jT a t).getD []++ws) t;have h2:=h.ev;rw[aar]at h1;simp only[aaF]at hl;cases hg:jT a t with|none=>rw[hg]at h1;simp at h1⊢;exact MK hl h2 h1|some old=>rw[hg]at h1;simp at h1⊢;exact MM hl h2 h1
 rcases Gh tR with q|q|q;exact h.wd w q;exact q▸hw a (.head _);rcases aax.mp q with q|q;cases hg:jT a t with
 |none=>rw[hg]at q;cases q
 |some old=>rw[hg]at q;exact h.wd w (La hg q)
 exact hw w (.tail _ q)
theorem vJ:∀(rs:List (List Str)) {t:Tb} {n:Nat},nq t n→(∀r∈rs,r≠[]∧r.length≤3∧∀w∈r,(acQ w).length≤1000∧w≠"zz")→nq (rs.foldl stepT t) (n+rs.length)|[],t,n,h,_=>h|r::rs,t,n,h,hr=>by let h1 h2 h3:=pX (hr r (.head _));rw[acu,aaF];have e:n+1+rs.length=n+(rs.length+1):=(by exact MN);rw[←e];exact(vJ rs (Dj h h1 h2 h3) λx hx=>hr x (.tail _ hx))
theorem yA:(acQ "(,").length≤1000∧(acQ ")").length≤1000∧("(,":Str)≠"zz"∧(")":Str)≠"zz":=⟨by decide+kernel,by decide+kernel,by decide,by decide⟩
theorem Lb(xs:List Int):nq (vo ((gm (ja xs)).map (gR K1))) 4:=by
 have hl:=vG xs;have:=vJ ((gm (ja xs)).map (gR K1)) (⟨abn,aak _,aak _,λw hw=>nomatch hw⟩:nq [] 0) λr hr=>by let r0 hr0 r2:=ak (aaH.mp hr);subst r2;let h1 h2 h3:=pX (lO hr0);unfold gR;split;exact⟨h1,h2,λw hw=>⟨(WD (h3 w hw)).rt,(WD (h3 w hw)).zz⟩⟩;refine⟨by simp,by decide,λw hw=>?_⟩;rcases aai.mp hw with rfl|hw;exact⟨yA.1,yA.2.2.1⟩;rw[aaL.mp hw];exact⟨yA.2.1,yA.2.2.2⟩
 rw[aaa,ahM]at this;exact⟨this.nd,aab this.ln hl,aab this.ev (aaW 3 hl),this.wd⟩
theorem Rk:∀t:Tb,(jV t).length≤(dJ t).length:=by intro l0;induction l0 with|nil=>exact aak _|cons e t ih=>have ih:=ih;change(e.2.map (λw=>(e.1,w))++jV t).length≤((e.1::e.2)++dJ t).length;simp only[aar,aaa,aaF];exact MP ih
theorem Gi:∀{t:Tb} {e:Str×List Str},e∈t→e.2.length≤(dJ t).length:=by
 intro l0;induction l0 with
 |nil=>intros;first|contradiction|(rename_i h;cases h)|nofun
 |cons x t ih=>intro e h;change _≤((x.1::x.2)++dJ t).length;rw[aar,aaF];rcases aai.mp h with rfl|h;exact abU (aa2 _);have:=ih h;exact ac0 this
theorem Lc(ev:List Str):(iY ev).length≤ev.length:=by unfold iY;rw[aaa];exact aab (abF _ _) (by rw[abC];exact aak _)
theorem Dk(h:w∈iY ev):w∈ev:=by rw[yx,cZ]at h;exact h.elim (λq=>nomatch q) id
theorem Gj(N:List Str)(f:Str→Int×List Str):(gN N f).map (λx=>x.1)=N:=by unfold gN;rw[aba];exact aen N
theorem Ld(N:List Str)(f:Str→Int×List Str):im (gN N f)=N.filter λs=>decide ((f s).1=0):=by delta im gN;rw[agD,aba];exact aen _
theorem Dl(h:nq t 4):yr t:=by
 let g1 g2 g3:=pX (K4 t);have KV:(dJ t).length≤12:=h.ev;have xH:=aab (Rk t) KV;have HF:=aab (Lc (dJ t)) KV;have H:GH (iY (dJ t)) (jV t):=⟨g2,by exact aab HF (aae rfl),by exact aab xH (aae rfl),g3,λs hs=>(h.wd s (Dk hs)).1,λq=>(h.wd _ (Dk q)).2 rfl⟩;have e0:DE t=gK (iY (dJ t)) (jV t) [] []:=by rw[g1];let s zz:=dm;delta fE stK ez;rw[if_neg (by simp),if_neg (by simp)];simp
 have hlen:(gK (iY (dJ t)) (jV t) [] []).length=(iY (dJ t)).length:=by rw[aaa]
 have I0:Inv (iY (dJ t)) (jV t) [] [] [] (im (gK (iY (dJ t)) (jV t) [] [])):=by unfold gK;rw[Ld];refine⟨λs hs=>(nomatch hs),abn,aiW,g2.filter _,λs=>?_,Ah g2 _,λs hs=>(nomatch hs),λi s hi=>by simp at hi⟩;rw[abq];let hs:=and_congr_right;unfold fr stK;rw[if_neg (by simp),if_neg (by simp),decide_eq_true_iff];constructor;intro q;refine⟨by simp,λe he e1=>?_⟩;have q2:((jV t).filter λe=>e.1==s&& !([]:List Str).contains e.2)=[]:=agh.mp (by lia);have:=abc.mp q2 e he;simp[e1]at this;intro JL;let z0 q:=eA JL;have q2:((jV t).filter λe=>e.1==s&& !([]:List Str).contains e.2)=[]:=abc.mpr λe he e1=>(by simp only[aaM,beq_iff_eq]at e1;exact nomatch q e he e1.1);rw[q2];rfl
 let dF gF IF hr:=cI (K7 H (iY (dJ t)).length [] [] [] _ I0 (by simp));have hp:gF.Perm dF:=by have:=IF.perm;rwa [aaO]at this
 have Ti:=hp.length_eq;refine⟨aab h.ln '2',λe he=>aab (Gi he) (by exact aab KV (aae rfl)),h.nd,by exact aab HF (aae rfl),g2,by exact aab xH (aae rfl),by rw[e0,hlen];exact aab HF (aae rfl),?_,decide (gF.length<(iY (dJ t)).length),gF.length,(iY (dJ t)).length,gK (iY (dJ t)) (jV t) dF gF,gF.length,dF.length,?_,?_,rfl,λw hw=>⟨H.rt w hw,Dh H hw ?_⟩,?_,by exact MR Ti⟩;rw[e0];intro e he;let s z1 r2:=ak (aaH.mp he);subst r2;change(ez (jV t) s).length≤9999;rw[aaa];exact aab (abF _ _) (by exact aab xH (aae rfl));rw[e0];have:(gK (iY (dJ t)) (jV t) [] []).map (λx=>x.1)=(iY (dJ t)):=Gj _ _;rw[this];exact Gg H (λs hs=>⟨_,by unfold gK;rw[iO,if_pos hs]⟩:∀s∈(iY (dJ t)),∃a,db s (gK (iY (dJ t)) (jV t) [] [])=some (a,ez (jV t) s)) IF;rw[e0];exact hr;by_cases q:w∈dF;exact .inl q;exact .inr λq2=>q (hp.mem_iff.mp q2);show .Qv;unfold gK;rw[iO,if_neg H.zz]
end
section
open PySem.Builtin PySem.Builtin.Str
variable{Q:Env→aas→Prop}
section
variable{M:Model} {A:ads} {E:Value→aas→Prop} {s:aas}
theorem w_{globals:Addr}{n:Str}{qual:Str}{func:Option Addr}{code:Value}{builtins:Addr}(hk:scope.kind= .function) (hl:scope.names.lookup n=some .local)(hQ:∀env,env=ahx scope s.heap.objs.size globals (aco (s.heap.objs.size+1) scope.names []) qual func code none builtins→∀h',InCallC s env.locals (bindL env.kindOf [(n,v)] λzz=>none) env.cells (bindC env.kindOf [(n,v)] λzz=>none) {s with heap:=h',toks:=s.toks+1}→Q env {s with heap:=h',toks:=s.toks+1}):wpAny M A (newFunctionEnv scope globals [] [(n,v)] qual func code none builtins) Q E s:=by simp only[newFunctionEnv,Option.isSome_none,aaU,if_false];refine aac (wpAny_alloc ?_);refine aac (wpAny_layCells _ (λname kind cells=>by cases hkc:kind==NameKind.cell<;>simp[hkc]) _ _ _ _ ?_);have ok:=cellsFrom_ok scope.names (s.heap.push {cls:=.type "frame",data:=.dict #[]}) (s.heap.objs.size+1) [] ⟨λzz zz hm=>(nomatch hm),ah5⟩ (by rw[acG];exact aak _);rw[acG]at ok;rw[show({s with heap:=s.heap.push {cls:=.type "frame",data:=.dict #[]}}:aas).heap.objs.size=s.heap.objs.size+1 from acG ..];have lR:(pushCells (s.heap.push {cls:=.type "frame",data:=.dict #[]}) scope.names).Ns s.heap.objs.size λzz=>none:=(Heap.Ns.new s.heap (.type "frame")).keeps (pushCells_keeps _ _);rw[ae3];refine aac (aac (aac (agF (env:=ahx scope s.heap.objs.size globals (aco (s.heap.objs.size+1) scope.names []) qual func code none builtins) hl lR (λh' Bc rX=>aal ?_) (by change(scope.kind== .class||(scope.kind== .module&&_))=false;rw[hk];rfl))));refine aal (aal (hQ _ rfl h' ?_));have e1:(ahx scope s.heap.objs.size globals (aco (s.heap.objs.size+1) scope.names []) qual func code none builtins).kindOf n=some .local:=hl;refine⟨⟨(ba h' _ rfl),?_,λb o e=>?_,aak _⟩,λk c hc=>?_,ok.apart,λn c hm=>(ok.empty n c hm).2⟩;unfold bindL bindL;rw[if_pos e1];exact Bc;exact rX.extBut b o (abf (aa3 e)) (pushCells_keeps _ _ b o (aap _ e));unfold bindC bindC;rw[if_pos e1];exact(ok.empty k c (mem_of_lookup hc)).1.sameBut rX (abG (ok.empty k c (mem_of_lookup hc)).2)
end
theorem Le{s:aas}{mg mb:Str→Option Value}{base:Heap}{xs:List Int}{R:ahu→aas→Prop}(eH:Tc (K0 w.params) mg mb base) (jZ:base.StaysIn s.heap) (ki:base.objs.size≤s.heap.objs.size) (hg:s.gens= #[])(hB:QM l (xs.map .int) base) (hz:xs.length≤1000) (h9:base.get? 894=none) (ht:∃o,s.heap.get? 894=some o∧aE o)(h:∀s',base.StaysIn s'.heap→(∃o,s'.heap.get? 894=some o∧aE o)→s'.os=s.os→agk s'.gens→R (.ok (.ret (.bool true))) s'):ad9 (model prog w) callerA (.call (.ref 969) ⟨[.ref l],[]⟩) R s:=by
 have F:=Ko w.params;have fg:(K0 w.params).In s.heap:=λa o e=>jZ a o (eH.fg a o e);have hl:=Ks (.ref l);let oc od osl ho:=vS F.obj;refine aeI (fd:=sO w.params) (body:=da) '2' (fg _ _ ho) rfl F.co F.gen F.body (agn fg F.code) (Kr s w.params (.ref l) _ _ _ _ ?_);rw[F.rL];let env he h₁ ic:=w_ F.kind (Kt _);obtain⟨⟨_,lR,keep,_⟩,uE,Zk,JQ⟩:=ic;generalize tU:({w:=w,K:=K0 w.params,mg:=mg,mb:=mb,base:=base,aC:=[],L:=s.heap.objs.size,fx:=bd,env:=envX bd.cn bd.cs s.heap.objs.size bd.a bd.cd (aco (s.heap.objs.size+1) bd.cs.names []),comp:=false,hd:=none,G:= #[],os:=s.os}:Cx)=c;have envE:env=c.env:=by rw[he,←tU];unfold ahx;simp only[F.cs,F.glob,F.qual,F.cd,F.v8]
 subst envE;have cL:c.L=s.heap.objs.size:=by rw[←tU]
 have cB:c.base=base:=by rw[←tU]
 have cW:c.w=w:=by rw[←tU]
 have cK:c.K=K0 c.w.params:=by rw[←tU]
 have cE:c.env=envX bd.cn bd.cs c.L bd.a bd.cd (aco (c.L+1) bd.cs.names []):=by rw[←tU]
 have vl:h₁.NoLimit:=(eH.lim.keeps jZ).keeps keep;refine⟨vl,ahX ?_⟩;have ok:c.Ok:=by subst tU;refine⟨eH,rfl,rfl,rfl,F.cs▸F.kind,λzz=>rfl,ki,λf hf=>(nomatch hf),λp hp=>?_⟩;let h1 h2 h3:=pX (JZ w.params p hp);exact⟨h1,h2,h3.imp (λq=>mg_of eH.fg eH.g q) λh8=>pX h8 λa b d=>⟨aiE eH.fg eH.g a,b,d⟩⟩
 have fr:∀a,s.heap.objs.size≤a→c.base.get? a=none:=λa ha=>by rw[cB];cases q:base.get? a with|none=>rfl|some o=>exact absurd (aaE (aa3 q) ki) (aef.mpr ha)
 let o9 Rl ht9:=ak ht;have l9:894<s.heap.objs.size:=aa3 Rl;have R:Rp c (SS.ext ⟨eu l none none none none none none none none none none none,[(c.L+1+0,.cell none),(c.L+1+1,.cell none),(c.L+1+2,.cell none),(c.L+1+3,.cell none),(894,.obj aE)]⟩ []) {s with heap:=h₁,toks:=s.toks+1}:=by
  have hc:∀e∈CG (.ref l),∃o,h₁.get? (c.L+1+e.2.1)=some o∧pY c.w (.cell e.2.2) o:=λe ie=>(by let o lQ hd2:=ak (uE e.1 _ (by rw[cE];exact hl.cells c.L e ie));exact⟨o,lQ,_,hd2,by subst tU;exact hl.Hl e ie⟩);refine⟨λb o e=>keep b o (jZ b o (cB▸e)),⟨_,by rw[cL];subst tU;exact lR,by subst tU;exact hl.vals⟩,?_,λp hp=>?_,λa ha=>?_,?_,hl.nd,by subst tU;exact hl.kinds,?_,by subst tU;rfl,ac8 _⟩;subst tU;exact λf hf=>nomatch hf;have hp:p∈[(c.L+1+0,AO.cell none),(c.L+1+1,.cell none),(c.L+1+2,.cell none),(c.L+1+3,.cell none),(894,.obj aE)]:=(by simpa [SS.ext]using hp);simp only[aai,abO,or_false]at hp;rcases hp with rfl|rfl|rfl|rfl|rfl;exact hc ("rows",0,none) (.head _);exact hc ("lines",1,none) (.tail _ (.head _));exact hc ("table",2,none) (.tail _ (.tail _ (.head _)));exact hc ("every",3,none) (.tail _ (.tail _ (.tail _ (.head _))));exact⟨o9,keep _ _ Rl,ht9⟩
  ·have e1:c.aC=[]:=(by rw[←tU]);rw[e1]at ha;simp only[SS.ext,acE,aa0,aaO,aan,aai,abO,or_false]at ha;rcases ha with rfl|rfl|rfl|rfl|rfl|rfl;iterate 5 exact fr _ (by lia)
   rw[cB];exact h9
  have e1:c.aC=[]:=(by rw[←tU]);rw[e1];have hn:∀L:Nat,894<L→[L,L+1+0,L+1+1,L+1+2,L+1+3,894].Nodup:=(by intro L hL;simp only[aaB,aai,abO,or_false,abn,and_true,not_or,not_false_eq_true];exact No hL);exact hn c.L (by exact Nr (cL: @Eq Nat c.L s.heap.objs.size) l9);subst tU;exact⟨#[],by simp[hg],λy hy=>by simp at hy⟩
 have hA:c.In (callerA.deeper c.env) 30:=by subst tU;exact⟨rfl,rfl,show callerA.depth+1+30<adM by decide,show callerA.units+3+8*30<cLine by decide⟩
 subst tU;have hb:=QT (n:=20) (l:=l) (Q':=λf S'=>f= .ret (.bool true)∧∃D,aq [(894,.obj aE)] S'.cells D) (E':=λzz zz=>False) hz (aab (vG xs) '2') (F8 xs) (Dl (Lb xs)) hB cK rfl rfl rfl cE λS' D hp=>⟨rfl,D,hp⟩;refine aau (hb.run ok [] _ _ hA R) (λf s' I8=>?_) λx s' h8=>h8.el λe k S' hx hF R2 hE=>hE.elim;obtain⟨S',R2,hf,D,hp⟩:=I8;cases f with
 |ret v=>obtain rfl:=gr (by injection hf:ab v= .bool true);let o2 lQ IL:=ak (R2.cells (894,.obj aE) (aaf _ (hp.perm.mem_iff.mpr (.head _))));show h s' R2.stays ⟨o2,lQ,IL⟩ R2.os;let r hr hb:=ak R2.gens;rw[hr];simpa using hb
 |next=>cases hf
 |brk=>cases hf
 |cont=>cases hf
end
section
open PySem.Builtin PySem.Builtin.Str
variable{P:aao} {cl:Str→Option Addr}
theorem yB:∀l:Frag,List.lookup 894 (l.filter λp=>p.1 !=894)=none
 |[]=>rfl
 |(b,x)::l=>by
  rw[abP];split;rename_i hb;rw[adW];cases q:(894:Addr)==b with|true=>have q:894=b:=(by simpa using q);subst q;simp at hb|false=>exact yB l
  exact yB l
theorem Rm(X:(Top.KF P).In h):(K0 P).In h:=λa o e=>by
 show X a o;unfold K0 at e;generalize Top.KF P=l at e⊢;induction l with
 |nil=>cases e
 |cons p l ih=>
  obtain⟨b,x⟩:=p;rw[abP]at e;rw[adW];split at e;rename_i hb;rw[adW]at e;cases q:a==b with|true=>rw[q]at e;exact e|false=>rw[q]at e;exact ih e
  rename_i hb;have hb:b=894:=(by simpa using hb);cases q:a==b with
  |true=>rw[(by simpa using q:a=b),hb]at e;rw[yB]at e;cases e
  |false=>exact ih e
theorem Gk{R:WRecords}(ds:List WData):∀{vs:List Value} {as:List Addr},aiz R ds .int=true→ReadsAllW R cl h vs ds as→∃xs:List Int,vs.map ab=xs.map .int∧xs.length=ds.length:=by induction ds with|nil=>intro vs as _ r;exact⟨[],by rw[(readsAllW_nil_inv r).1];rfl,rfl⟩|cons d ds ih=>intro vs as hh r;rw[aiz,aaM]at hh;let i e:=eE (hasW_int hh.1);subst e;obtain⟨v,Xg,as1,bs,rfl,rfl,r1,r2⟩:=ahJ r;let t e zz:=ak (readsW_int_inv r1);subst e;let xs h1 h2:=ak (ih hh.2 r2);exact⟨i::xs,by rw[aan,h1];rfl,by rw[aaF,aaF,h2]⟩
theorem Rn(X:(Top.KF P).In h):CodeHd h 898 894:=by refine IA (Top.Ia P) _ _ _ _ _ _ _ _ ⟨X 898 _ '3',rfl,rfl,rfl,rfl,rfl,rfl,rfl,rfl,by decide⟩
theorem Dm:WalkO Top.qv Top.lT (λzz zz=>True) Top.Lj.says Top.bp.row.toRowW Top.iw.1 Top.iw.2 λf vs=>PySem.call f vs:=by
 intro w s₀ s₁ mg mb G Y a o pm cd doc dV kV ho Ru Xb hD hmg Bx args vals as WO hlay HJ X8 Xn;have T:=G.T;have X:(Top.KF w.params).In s₁.heap:=Y;have ea:a=969:=by have:=mg_of X T.g (n:=Top.iw.1.name) (v:=.ref 969) '3';rw[hmg]at this;cases this;rfl
 subst ea;let hsh Ro:=eA (pre_splitW WO);let d r r2 hd hr:=bG (hasAllW_cons hsh);subst r2;obtain rfl:=hasAllW_nil hr;let ds r1 hit:=ak (hasW_list hd);subst r1;let v vs as1 bs r4 r5 r1 r2:=t9 (ahJ HJ);subst r4;subst r5;let r0 r1:=eA (readsAllW_nil_inv r2);subst r0;subst r1;obtain⟨l,ws,as',rfl,hL,r3,rfl⟩:=readsW_list_inv r1;let xs hxs hlen:=ak (Gk ds hit r3);have hz:xs.length≤1000:=by have h1:=condW_of (holds_andW Ro).1 (by wtm_val);have h2:¬((63:Nat):Int)<(ds.length:Int):=(by simpa using h1);exact NJ hlen h2
 have hT:TabsAt [(898,894)] s₁.heap:=by intro q hq;obtain rfl:q=(898,894):=(by simpa using hq);exact⟨Rn X,X _ _ '3'⟩
 have eH:Tc (K0 w.params) mg mb (ghostOf s₁.heap [(898,894)]):=by refine⟨ghost_ns hT T.g,ghost_ns hT T.b,T.builtins,?_,λa o e=>ghost_ne (Rm X a o e) λq=>?_,?_⟩;let mc h1 h2:=ak T.nolimit;exact⟨mc,ghost_ns hT h1,h2⟩;obtain rfl:a=894:=(by simpa using q);unfold K0 at e;rw[yB]at e;cases e;exact⟨_,ghost_ne (X aiD (Top.k1 w.params) '3') '2'⟩
 refine enter_call (Le eH (λb o e=>of_hideAll _ e) (aaz (hideAll_size _ _)) Bx ⟨ws,ghost_list hT hL,hxs⟩ hz (hideAll_none _ (.head _)) ⟨_,(hT (898,894) (.head _)).2,#[],rfl,trivial⟩ λs' jZ ht hos tO=>?_);let o9 Rl ps r3 Lq:=ow ht;subst r3;have keep:∀b o,b≠894→s₁.heap.get? b=some o→s'.heap.get? b=some o:=λb o hb e=>jZ b o (ghost_ne e (by simpa using hb));refine⟨.inl (eY (.bool true) (.bool true) [] ⟨rfl,λzz=>rfl,.bool _,by wrow_post,λzz=>⟨abn,λa ha=>nomatch ha⟩⟩),⟨λb o e=>?_,λb o e=>?_⟩,hos,tO⟩;by_cases hb:b=894;subst hb;have e2:=(hT (898,894) (.head _)).2;rw[e]at e2;cases e2;exact .inr (.inl ⟨((hT (898,894) (.head _)).1.tab (hT (898,894) (.head _)).2).isCodeTable,rfl,#[],ps,rfl,by rw[Array.empty_append];exact Rl⟩);exact .inl (keep b o hb e);by_cases hb:b=894;subst hb;exact⟨_,Rl⟩;exact⟨o,keep b o hb e⟩
theorem cw:Top.bp.Holds:=Top.holds_of Dm
end
end Mine
theorem PySem.Challenge.cw_ik0092_01_holds : PySem.Challenge.rw_ik0092_01.Holds := by
 exact Mine.cw
