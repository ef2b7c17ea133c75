import PyProof.Rows.All
import Wide.All
import OpenK.AllK
import Wide.FinOn
import KE.KSetDisp
import KE.KOwnIter
import KE.KStar
import KE.KBoundM
import KE.KDictIter
import KE.KSortTup
import KE.KSliceW
import Lean
import PySem.Challenge.RW_ik0092_01
open Array renaming length_toList→aaQ,getElem?_eq_some_iff→abG,toList_append→acn,eq_empty_of_size_eq_zero→adm,getElem?_toList→adG
open Bool renaming and_eq_true→aaM,false_eq_true→aaU,false_ne_true→aa1,not_eq_true'→ab3,eq_iff_iff→ac7,true_and→adC,and_eq_true_iff→adP
open Classical renaming byContradiction→abW,choose→adp
open Int renaming natCast_nonneg→abq,ofNat_lt→abS,toNat_natCast→ade,lt_of_le_of_lt→adq
open Lean renaming Syntax→adK
open Lean.Macro renaming throwUnsupported→acb
open List renaming length_map→aaa,mem_append_right→aad,mem_append_left→aaf,getElem?_map→aag,mem_cons→aai,map_append→aaj,map_cons→aan,length_append→aar,mem_map_of_mem→aat,getElem?_eq_some_iff→aav,append_assoc→aaw,mem_append→aax,getElem?_eq_getElem→aay,mem_of_getElem?→aaA,nodup_cons→aaB,length_cons→aaF,mem_map→aaH,take_add_one→aaK,mem_singleton→aaL,append_nil→aaO,getD_eq_getElem?_getD→aaR,perm_middle→aaS,cons_append→aaT,length→aaV,nodup_append→aaX,perm_append_comm→aaY,all_eq_true→aaZ,nil_append→aa0,length_drop→aa9,map_map→aba,filter_eq_nil_iff→abc,take_of_length_le→abd,length_take_le'→abh,take_length→abi,flatten_cons→abj,nodup_nil→abn,mem_filter→abp,range→abt,length_range→abA,idxOf_lt_length_of_mem→abB,length_singleton→abC,length_filter_le→abE,map_eq_cons_iff→abK,count_cons→abL,not_mem_nil→abN,filter_cons→abO,filter_append→abR,foldl_append→ab4,toArray→acg,sublist_cons_self→acj,getElem?_range→acp,foldl_cons→acv,pairwise_iff_getElem→acx,drop_eq_getElem_cons→acy,getElem?_eq_none→acA,getElem_mem→acC,map_nil→acF,count_eq_zero_of_not_mem→acJ,size_toArray→acK,filter_cons_of_neg→acL,filter_cons_of_pos→acM,map_congr_left→acQ,getElem?_append_right→acX,sublist_append_right→ac1,getElem?_eq_none_iff→ac2,getElem?_append_left→ac4,sum_cons→adh,toList_toArray→adi,flatten_append→adj,length_take→ado,drop_of_length_le→adw,append_eq_nil_iff→adx,length_nil→ady,all_cons→adB,mem_range→adM,mem_of_mem_take→adO,count_cons_self→adQ,lookup_cons→adR
open List.Perm renaming cons→abz,append_left→acY
open List.Sublist renaming refl→ab0,append→adS
open List.cons renaming injEq→acr
open Nat renaming le_trans→aab,le_of_ble_eq_true→aae,le_refl→aak,add_le_add→aam,le_of_eq→aaz,lt_of_le_of_lt→aaC,zero_le→aaD,lt_of_lt_of_le→aaE,le_antisymm→aaI,le_of_lt→aaN,mul_le_mul_left→aaW,le_succ→aa2,le_add_right→aa5,add_sub_of_le→aa7,le_of_not_lt→aa8,add_le_add_left→abe,ne_of_lt→abf,le_add_left→abm,lt_of_le_of_ne→abr,lt_succ_self→abw,mul_le_mul_right→abx,ne_of_gt→abF,le_add_right_of_le→abT,sub_pos_of_lt→abY,le_of_lt_succ→abZ,le_succ_of_le→ab1,le_of_sub_eq_zero→ab5,add_le_add_right→ab8,lt_of_sub_eq_succ→acz,not_lt_of_le→acB,succ_le_succ→acD,div_lt_of_lt_mul→acG,sub_lt_sub_left→acO,le_of_succ_le_succ→acT,lt_of_not_le→acU,le_add_left_of_le→ac0,min_eq_left→ac5,succ_pos→ac8,lt_add_of_pos_right→adk,succ_pred_eq_of_pos→adl,sub_self→adv,sub_le_iff_le_add→adE,le_sub_one_of_lt→adJ
open Option renaming map_eq_some_iff→aaq
open Option.some renaming inj→aaJ
open PyProof.Rows renaming seqObj→acw
open PySem renaming wpAny_bind→aac,Builtin→aah,wpAny_pure→aal,Params→aao,Shared→aas,wpAny_mono→aau,FuncData→aaP,foldedSetIterable→aa4,seg_bind_wrap→aa_,builtinsNs→abg,wpAny_holding→abk,wpAny_standAt→abu,builtinLookup_eq_fast→abD,wpAny_call→abH,wpAny_newObj_type→abI,rawInt→abJ,DictEntry→abM,OsState→abV,wpAny_of_eq→ab2,isSubtype_type→ab6,seg_execs_cons→ab7,mainGlobals→ab9,GenState→ach,starEach→aci,treeTable→acm,cellsFrom→aco,wpAny_field→acq,codeAny_builtin→acs,typeLookup_type→acu,wpAny_specialOf→acN,reprText→acR,isSubtype→acV,wpAny_setField→acW,swapsWith→ac6,BindsTo→ac9,sizeLine→ac_,bindArgs→adb,wpAny_callSpecial?_slot→adn,Around→ads,codeAny_mono→adu,wpAny_updateSeq→adz,wpAny_ite_false→adA,seg_execs_nil→adD,wpAny_truthy_bool→adH,recursionLimit→adL,typeIs_str→adN
open PySem.Around renaming under_plainId→acI
open PySem.Builtin.List renaming listExtendWith→acS,listSameRef→adg
open PySem.Builtin.Range renaming rangeSize→ab_,small→acP
open PySem.Builtin.Str renaming strSliceIndices→adI
open PySem.F renaming plainAttrs_list→aca,excRaise_ValueError→acd,excCall_ValueError→ack,slot_str_join→acZ,plain_extend_loop→ac3
open PySem.Heap renaming get?_push_of_some→aap,get?_push_size→aaG,lt_size→aa3,get?_update_self→abl,get?_update_other→abo,size_push→acH
open PySem.Heap.SameBut renaming update→abv
open PySem.Obj renaming mapSeq→abb,mapFields→acE,data_mapFields→adt,isFreed_of_fields→adF
open PySem.Str renaming ofString→aby
open PySem.Txt renaming replace→ada
open PySem.Value renaming none→aa6,ref→abP,type→abQ
open PySem.W renaming behindTheImports→abU,owsi_facts→abX,findIn→adf
open PySem.W.Looks renaming of_pure→ace,of_peek→acf
open PySem PySem.W PyProof.Rows PySem.Calls
set_option Elab.async false
set_option linter.all false
set_option maxRecDepth 100000
set_option maxHeartbeats 4000000
set_option bootstrap.genMatcherCode false
namespace Mine
local macro_rules (kind := Lean.Parser.Command.declaration) | s => if ((s.getArg 1).getArg 0).getHeadInfo matches .none then acb else let v := ((s.getArg 1).getArg 0).getAtomVal; let t := s.setArg 1 ((s.getArg 1).setArg 0 (.atom .none v)); return if (v == "def" || v == "abbrev") && ((s.getArg 0).getArg 1).getNumArgs + ((s.getArg 0).getArg 6).getNumArgs == 0 then t.setArg 0 ((s.getArg 0).setArg 4 (.node .none `null #[.node .none `Lean.Parser.Command.noncomputable #[.atom .none "noncomputable"]])) else t
section
section
variable{a b c d e f g:Nat}{i j k l:Int}
theorem bh{L R l r:Nat}(h:l≤r)(e:L+r≤R+l):L≤R:=Nat.le_of_add_le_add_right (aab e (abe h R))
theorem DO(p:c=a-b)(q:b<a):a-(b+1)<c:=p▸acO q (abw _)
theorem Lw(p:a+(c+1)<b):a<b:=aaC (aa5 _ _) p
theorem RQ(p:a+(b+1)<c):a+1+b<c:=bh p (by simp+arith)
theorem Xb(p:a+(b+1)<c):a+0+1+b<c:=bh p (by simp+arith)
theorem SM(p:a+8*(b+1)<c):a+3+8*b<c:=bh p (by simp+arith)
theorem Xc(p:a+8*(b+1)<c):a+1+0+3+8*b<c:=bh p (by simp+arith)
theorem Yx(p:a+(b+1)<c):a+1+0+b<c:=bh p (by simp+arith)
theorem SN(p:a+8*(b+1)<c):a+1+3+0+8*b<c:=bh p (by simp+arith)
theorem Yy:a+2≤a+6:=abe (aae rfl) _
theorem DP(p:a≤50):a≤900:=aab p (aae rfl)
theorem LZ(p:b+a≤900):a≤1000:=bh p (by simp+arith)
theorem SO(p:b+c≤50)(q:b=a+d):a≤900:=bh (aam p (aaz q.symm)) (by simp+arith)
theorem SP(p:c+b≤50)(q:c=d+a):a+b≤900:=bh (aam p (aaz q.symm)) (by simp+arith)
theorem SR(p:b=a+(c+1)):(a:Int)<(b:Int):=abS.mpr (p▸adk (ac8 _))
theorem SU:a+b+1=a+1+b:=aaI (by simp+arith) (by simp+arith)
theorem DS(p:c=b)(q:a<c):a<b:=p▸q
theorem SV(p:j-(a:Int)=0)(q:j=i+(a:Int)):i=0:=((congrArg (·-(a:Int)) q).trans (Int.add_sub_cancel _ _)).symm.trans p
theorem L1(p:c=a)(q:¬b<c):a≤b:=bh (aam (aaz p.symm) (aa8 q)) (by simp+arith)
theorem SW(p:i=j+(a:Int))(q:j=0):i-(a:Int)=0:=(congrArg (·-(a:Int)) p).trans ((Int.add_sub_cancel _ _).trans q)
theorem L4(p:¬a<b)(q:a<b+1):a=b:=aaI (bh q (by simp+arith)) (bh (aa8 p) (by simp+arith))
theorem vR(p:a≤100):a≤900:=aab p (aae rfl)
theorem SX(p:a≤100):1+a≤900:=bh p (by simp+arith)
theorem SY(p:a≤b)(q:b≤800):0+a≤1000:=bh (aam p q) (by simp+arith)
theorem SZ(p:b≤1000)(q:a=b):a+1≤1000000:=bh (aam p (aaz q)) (by simp+arith)
theorem S0(p:a≤707)(q:b≤100):a+(1+b)≤900:=bh (aam p q) (by simp+arith)
theorem S_(p:a≤b+(c+1)):a≤b+1+c:=bh p (by simp+arith)
theorem Ta(p:b+a≤900):a≤900:=bh p (by simp+arith)
theorem Ax(p:a≤707):a≤900:=aab p (aae rfl)
theorem Tc(p:c<b)(q:d≤c)(r:a<d):a<b:=bh (aam p (aam q r)) (by simp+arith)
theorem Yz:a+2≤a+10:=abe (aae rfl) _
theorem Td(p:b<1000)(q:b=a):a+1≤1000:=q▸p
theorem YA:a≤a+1+1:=abT (aa2 _)
theorem Ay(p:c≤b)(q:a<c):a≤b:=aaN (aaE q p)
theorem HV(p:b≤100)(q:a=b):a≤100:=q▸p
theorem Te(p:b≤700)(q:a=c+d)(r:b=c)(s:d≤e)(t:e≤100):a≤900:=q▸aab (aam (r▸p) (aab s t)) (aae rfl)
theorem Tf(p:b≤100)(q:a=b):a≤1000:=bh (aam p (aaz q)) (by simp+arith)
theorem YB:a+5≤a+10:=abe (aae rfl) _
theorem Tg(p:b+c≤1000)(q:a≤b+d)(r:d<c):a≤1000:=bh (aam p (aam q r)) (by simp+arith)
theorem Th(p:a≤b):a+1≤b+1+1:=bh p (by simp+arith)
theorem Ti(p:f≤d)(q:a≤b+f+e+c):a≤b+(c+(d+e)):=bh (aam p q) (by simp+arith)
theorem Tj(p:a≤500)(q:b≤c*500):a+b≤c*500+500:=bh (aam p q) (by simp+arith)
theorem Tk(p:b≤501)(q:a≤c+d)(r:c≤b*500)(s:d=0):a≤1000000:=aab q (aab (aam (aab r (abx 500 p)) (aaz s)) (aae rfl))
theorem Tl(p:b+c=a+d)(q:b+c≤900):a≤900:=bh (aam (aaz p.symm) q) (by simp+arith)
theorem Tm(p:b≤100)(q:a=b):a≤900:=bh (aam p (aaz q)) (by simp+arith)
theorem Tn:Max.max 0 (Min.min (a:Int) (a:Int))=(a:Int):=(congrArg (max 0) (Int.min_self _)).trans (Int.max_eq_right (abq _))
theorem To(p:b≤1000)(q:b=a+0):a≤1000:=bh (aam p (aaz q.symm)) (by simp+arith)
theorem Tp(p:a<1000):a+1<4096:=bh p (by simp+arith)
theorem Tq(p:a≤c)(q:d-a=b+e)(r:d=c):a+b≤c:=aab (abe (aab (aa5 b e) (aaz (q.symm.trans (congrArg (·-a) r)))) a) (aaz (aa7 p))
theorem L5(p:a%2=0):(a+1)%2=1:=(Nat.add_mod a 1 2).trans (congrArg (λz=>(z+1%2)%2) p)
theorem Gw(p:a=b+(c+1)):a=b+1+c:=aaI (bh (aaz p) (by simp+arith)) (bh (aaz p.symm) (by simp+arith))
theorem L6(p:b≤500)(q:c≤b)(r:d<c)(s:a≤d):a≤1000000:=bh (aam p (aam q (aam r s))) (by simp+arith)
theorem L7(p:a≤50):a<64:=bh p (by simp+arith)
theorem L8(p:a=d+1+e)(q:f-d=e+1+(b+g))(r:f=c):a+b≤c:=bh (aam (aaz p) (aab (Nat.add_lt_of_lt_sub (bh (aaz q.symm) (by simp+arith)):e+(b+g)+d<f) (aaz r))) (by simp+arith)
theorem L9(p:a≤c):a+(2*b+3)≤2*b+3+c:=bh p (by simp+arith)
theorem L_(h1:a=b+(c+1)):¬a=b:=λq=>abF (adk (ac8 c)) (h1.symm.trans q)
theorem Mc(p:b+(2*c+3)≤d):2*a+3+b+(2*c+3)≤2*a+3+d:=bh p (by simp+arith)
theorem Md(p:a≤3*b):a+1≤3*(b+1):=bh p (by simp+arith)
theorem Me(p:a≤50)(q:i=(b:Int))(r:b<a):0≤i∧i<1000:=q▸⟨abq _,abS.mpr (aaE r (aab p (aae rfl)))⟩
theorem Mf(p:e+c+1<d+1)(q:a+(2*b+3)≤e):a+(2*(b-0)+1+c)+0<d:=bh (aam p q) (by simp+arith)
theorem Mg(p:c=a+1+d)(q:c+e≤b):a≤b:=bh (aam (aaz p.symm) q) (by simp+arith)
theorem Mh(p:c≤1000)(q:a≤3*d)(r:b≤1)(s:d<c):a+b≤4000:=bh (aam (aaW 3 p) (aam q (aam r (aaW 3 s)))) (by simp+arith)
theorem Mi:a+(b+1+1)=a+1+b+1:=aaI (by simp+arith) (by simp+arith)
theorem Mj(p:a+(2*(b-c)+1+d)+0<e+1)(q:c<b):a+(2*(b-(c+1))+1+d)+1<e:=(λ(w:Nat) (z:w+1=b-c)=>(bh (z.symm▸p:a+(2*(w+1)+1+d)+0<e+1) (by simp+arith):a+(2*w+1+d)+1<e)) _ (adl (abY q))
theorem Mk(p:a+(2*(d-e)+1+b)+0<c+1):a+b+0<c:=bh p (by simp+arith)
theorem xb(p:b≤d)(q:a+d<c):a+b<c:=aaC (abe p _) q
theorem Ml(p:a+8*(b+1)<c):a+1+8*b<c:=bh p (by simp+arith)
theorem xc(p:b≤d)(q:a+8*d<c):a+8*b<c:=aaC (abe (aaW _ p) _) q
theorem Mm(p:a=c)(q:c+1≤b):a<b:=p▸q
theorem Mn(p:a+8*(b+2)<c):a+8*(b+1)<c:=bh p (by simp+arith)
theorem Mo(p:a=c)(q:c<d)(r:d≤b):a<b:=bh (aam (aaz p) (aam q r)) (by simp+arith)
theorem Mp(p:a=c)(q:b≤c):¬a<b:=acB (bh (aam (aaz p.symm) q) (by simp+arith))
theorem Mq(p:a=c+1+d):a+b=c+1+(d+b):=aaI (bh (aaz p) (by simp+arith)) (bh (aaz p.symm) (by simp+arith))
theorem Mr(p:b≤500)(q:c≤b)(r:a≤c):a+1≤501:=bh (aam p (aam q r)) (by simp+arith)
theorem Ms(p:a%2=1)(q:a%2=0):False:=absurd (p.symm.trans q) Nat.one_ne_zero
theorem Mt(p:a=b+1):a-1<a:=p▸aak _
theorem Mu(p:c+d≤b)(q:a=c):a≤b:=bh (aam p (aaz q)) (by simp+arith)
theorem Gx(p:d+e≤c)(q:a=d)(r:b=e):a+b≤c:=bh (aam p (aam (aaz q) (aaz r))) (by simp+arith)
theorem Mv:a<a+(b+1):=by simp+arith
theorem Mw:i-1-(a:Int)=i-((a:Int)+1):=(Int.sub_sub _ _ _).trans (congrArg (i-·) (Int.add_comm _ _))
theorem Mx:i-1-(a:Int)=i-(↑(a+1):Int):=(Int.sub_sub _ _ _).trans (congrArg (i-·) (Int.add_comm _ _))
theorem My:(-1+(↑(a+1):Int)).toNat=a:=(congrArg Int.toNat (Int.neg_add_cancel_left 1 (a:Int)|>λh=>(congrArg (-1+·) (Int.add_comm (a:Int) 1)).trans h))
theorem Mz(p:(↑(a+1):Int)≤i)(q:0<a):¬i-1=0:=λh=>absurd (Int.le_trans p (Int.le_of_eq (Int.eq_of_sub_eq_zero h))) (Int.not_le.mpr (abS.mpr (Nat.succ_lt_succ q)))
theorem MA(p:(a:Int)<i): -i≤(a:Int):=Int.le_trans (Int.neg_nonpos_of_nonneg (Int.le_of_lt (adq (abq _) p))) (abq _)
theorem MB(p:b+3≤d)(q:a+d<c):a+(b+2)<c:=bh (aam p q) (by simp+arith)
theorem MC(p:i= -1):i<(a:Int):=p▸Int.lt_of_lt_of_le (by decide) (abq _)
theorem Xd(h1:a≤b)(h2:¬(a:Int)<(b:Int)):a=b:=aaI h1 (aa8 λq=>h2 (abS.mpr q))
theorem MD(p:b+3≤d)(q:a+8*d<c):a+1+8*(b+2)<c:=bh (aam (aaW 8 p) q) (by simp+arith)
theorem ME(p:i=(b:Int))(q:b<a):i<(a:Int):=p▸abS.mpr q
theorem Xe:((a:Int)+1*(b:Int)).toNat=a+b:=congrArg (λz=>Int.toNat ((a:Int)+z)) (Int.one_mul (b:Int))
theorem Gy:(i%7).toNat<7:=abS.mp (adq (Int.le_of_eq (Int.toNat_of_nonneg (Int.emod_nonneg i (by decide)))) (Int.emod_lt_of_pos i (by decide)))
theorem MF(p:a+8*(b+2)<c):a+1+1+8*(b+1)<c:=bh p (by simp+arith)
theorem MG(p:c+1=d+e)(q:d=b):a+b≤a+(c+1):=bh (aam (aaz p.symm) (aaz q.symm)) (by simp+arith)
theorem MH(p:b+1=c+a)(q:1≤c):a<b+1:=bh (aam (aaz p.symm) q) (by simp+arith)
theorem MI(p:i<(c:Int))(q:(c:Int)≤j)(r:(a:Int)≤50):i*1000+(a:Int)<j*1000+(b:Int):=Int.lt_of_lt_of_le (Int.lt_of_lt_of_le (Int.add_lt_add_left (adq r (by decide)) _) (Int.le_of_eq (Int.add_mul i 1 1000).symm)) (Int.le_trans (Int.mul_le_mul_of_nonneg_right (Int.le_trans (Int.add_one_le_of_lt p) q) (by decide)) (Int.le_add_of_nonneg_right (abq b)))
theorem xd(p:b≤1000)(q:a<b):a≤1000:=aaN (aaE q p)
theorem MJ(p:c≤100)(q:d<c)(r:a≤10*d)(s:b≤9):a+b≤1009:=aab (aam (aab r (aaW 10 (aab (aaN q) p))) s) (aae rfl)
theorem MK(p:b≤100)(q:a≤c)(r:c<b):a<1000:=bh (aam p (aam q r)) (by simp+arith)
theorem ML(p:c=b)(q:a<c):a+(b-a)=b:=aa7 (aaN (p▸q))
theorem MM(p:c=a)(q:b<c):0<a-b:=abY (p▸q)
theorem Gz(p:a<b+1)(q:¬a<b):a=b:=aaI (bh p (by simp+arith)) (bh (aa8 q) (by simp+arith))
theorem MN(p:a≤10*c)(q:b≤9):a+b≤10*(c+1):=bh (aam p q) (by simp+arith)
theorem MO(p:c=a)(q:b<c):a-b=a-(b+1)+1:=(adl (abY (p▸q))).symm
theorem Az(p:a+(c+1)≤b):a<b:=aaC (aa5 _ _) p
theorem MP(p:a≤12):((a:Int)<9223372036854775808∧-9223372036854775808≤((a:Int)+2)/3∧((a:Int)+2)/3<9223372036854775808)∧(((a:Int)+2)/3=0∨-9223372036854775808≤(a:Int)+2∧(a:Int)+2<9223372036854775808):=by
 have h:∀a:Nat,a<13→((a:Int)<9223372036854775808∧-9223372036854775808≤((a:Int)+2)/3∧((a:Int)+2)/3<9223372036854775808)∧(((a:Int)+2)/3=0∨-9223372036854775808≤(a:Int)+2∧(a:Int)+2<9223372036854775808):=by decide
 exact h a (Nat.lt_succ_of_le p)
theorem AA(p:a+(c+1)≤b):a-1<b:=aaC (Nat.sub_le _ _) (aaE (adk (ac8 _)) p)
theorem GB(p:a+(b+1)≤c):a+1+b≤c:=bh p (by simp+arith)
theorem GC(p:a≤b+1+c):a≤b+(c+1):=bh p (by simp+arith)
theorem MQ(p:a<b+(c+1)):a<b+1+c:=bh p (by simp+arith)
theorem qD(p:a+8*c<b):a<b:=aaC (aa5 _ _) p
theorem xe(p:b+1≤8*d)(q:a+8*d<c):a+1+b<c:=bh (aam p q) (by simp+arith)
theorem MR(p:(b+2)/3=c)(q:a<c):3*a≤b:=bh ((Nat.le_div_iff_mul_le (ac8 2)).mp (aab q (aaz p.symm))) (by simp+arith)
theorem MS(p:b≤12)(q:(b+2)/3=c)(r:a<c):a≤1000:=aaN (aaE r (aab (aaz q.symm) (aab (Nat.div_le_self _ _) (aab (ab8 p 2) (aae rfl)))))
theorem MT:0+a-1-b=a-1-b:=congrArg (·-1-b) (Nat.zero_add _)
theorem MU(p:b≤1+(a-1))(q:b>1):0<a:=aaE (Nat.pos_of_lt_add_right (aaE q p)) (Nat.sub_le _ _)
theorem MV(p:a≤1+(b-1))(q:a>1):a-1<b:=aaC (Nat.sub_le_iff_le_add'.mpr p) (Nat.sub_lt (aaE (Nat.pos_of_lt_add_right (aaE q p)) (Nat.sub_le _ _)) Nat.one_pos)
theorem MW:a+1+b+(c+1)=c+1+b+a+1:=aaI (by simp+arith) (by simp+arith)
theorem MX(p:b+c=d+e+1):a+1+b+c=a+1+d+e+1:=aaI (bh (aaz p) (by simp+arith)) (bh (aaz p.symm) (by simp+arith))
theorem MY(p:c≤b)(q:a=c):a≤b+1:=bh (aam p (aaz q)) (by simp+arith)
theorem MZ(p:c≤b)(q:a=c):a+1≤b+1:=bh (aam p (aaz q)) (by simp+arith)
theorem M0(p:c+1≤3)(q:d≤3*b)(r:a=d+c+1):a≤3*(b+1):=bh (aam p (aam q (aaz r))) (by simp+arith)
theorem M1(p:a≤1+(b-1))(q:a>1):a≤b:=aab p (aaz (aa7 (aaE (Nat.pos_of_lt_add_right (aaE q p)) (Nat.sub_le _ _))))
theorem M2(p:c+1≤3)(q:d≤3*b)(r:a+(e+1)=d+(e+c)+1):a≤3*(b+1):=bh (aam p (aam q (aaz r))) (by simp+arith)
theorem M3:a+1+b=a+(b+1):=aaI (by simp+arith) (by simp+arith)
theorem M4(p:1≤a)(q:¬a>1):a=1:=aaI (bh (aa8 q) (by simp+arith)) (bh p (by simp+arith))
theorem M5(p:b≤c):a+b≤a+1+c:=bh p (by simp+arith)
theorem M6(p:a<b)(q:b<2):a=0∧b=1:=⟨Nat.lt_one_iff.mp (aaE p (abZ q)),aaI (abZ q) (aaC (aaD _) p)⟩
theorem M7(p:b=a):¬(a:Int)<(b:Int):=p▸Int.lt_irrefl _
theorem GD(p:a≤b):¬a>b:=acB (bh p (by simp+arith))
theorem M8(p:b+1≤d)(q:a+d<c):a+b<c:=bh (aam p q) (by simp+arith)
theorem M9(p:b+1≤d)(q:a+8*d<c):a+1+8*b<c:=bh (aam (aaW 8 p) q) (by simp+arith)
theorem M_(p:c<a):a-1-b<a:=aaC (Nat.sub_le _ _) (Nat.sub_lt (aaC (aaD _) p) Nat.one_pos)
theorem Na(p:1≤b)(q:¬1=b)(r:a≤1+1+(b-(1+1))):a+(b-a)≤b:=aaz (aa7 (aab r (aaz (aa7 (abr p q)))))
theorem Nb(p:a+(c-b+1-1)=c)(q:0<c-b+1-1):a=b:=Nat.add_right_cancel (p.trans (aa7 (aaN (Nat.lt_of_sub_pos (show 0<c-b from q)))).symm)
theorem Nc(p:1≤b)(q:¬1=b)(r:c≤1+1+(b-(1+1)))(s:a≤c+(b-c)):a≤b:=aab s (aaz (aa7 (aab r (aaz (aa7 (abr p q))))))
theorem Nf(p:d<c)(q:b≤d)(r:¬a≥b):(a+b)/2<c:=acG (bh (aam (acU r) (aaW 2 (aaC q p))) (by simp+arith))
theorem Ng(p:c≤a)(q:¬b≥c):a≠(b+c)/2:=(abf (aaE (acG (bh (acU q) (by simp+arith))) p)).symm
theorem Nh(p:¬a≥b):a≤(a+b)/2:=(Nat.le_div_iff_mul_le (ac8 1)).mpr (bh (aaN (acU p)) (by simp+arith))
theorem Ni(p:b-a=c+1):a+1=b-c:=(Nat.sub_eq_of_eq_add ((Nat.eq_add_of_sub_eq (aaN (acz p)) p).trans (by simp+arith))).symm
theorem Nj(p:b≤c)(q:¬a≥b):(a+b)/2≤c:=aaN (acG (bh (aam (acU q) (aaW 2 p)) (by simp+arith)))
theorem GE:a+b+(c+(d+e))+f=a+(d+(c+f+e))+b:=aaI (by simp+arith) (by simp+arith)
theorem Nk(p:b-a≤c+1):(a+b)/2-a≤c:=adE.mpr (abZ (acG (bh (adE.mp p) (by simp+arith))))
theorem GF(p:a<64):a≤16777216:=bh p (by simp+arith)
theorem Nl(p:¬a≥b):(a+b)/2+1≤b:=acG (bh (acU p) (by simp+arith))
theorem Nm(p:a<64):a≤16777216+1:=bh p (by simp+arith)
theorem Nn(p:a-b≤c+1):a-((b+a)/2+1)≤c:=adE.mpr (Nat.le_of_mul_le_mul_left (bh (aam (adE.mp p) (Nat.lt_mul_div_succ (b+a) (ac8 1))) (by simp+arith)) (ac8 1))
theorem No(p:a≤b+f+e+c)(q:f≤d):a≤b+(c+(d+e)):=bh (aam p q) (by simp+arith)
theorem GG(p:a≤10):a*5≤100000:=bh (aaW 5 p) (by simp+arith)
theorem Np(p:a<2)(q:b<c)(r:c<a):i<j:=absurd p (acB (aaC (aaC (aaD _) q) r))
theorem Nq(p:b≤10)(q:a≤b*5):1+a+1≤60:=bh (aam (aaW 5 p) q) (by simp+arith)
theorem Nr(p:¬a<2):0<a:=bh (aa8 p) (by simp+arith)
theorem Nt(p:b≤c)(q:¬a≥b):(a+b)/2<c:=acG (bh (aam (acU q) (aaW 2 p)) (by simp+arith))
theorem Nu(p:¬a<2):1≤a:=bh (aa8 p) (by simp+arith)
theorem GJ(p:a+(c+1)=b):a<b:=bh (aaz p) (by simp+arith)
theorem Nv:¬a<0:=acB (by simp+arith)
theorem Nw(p:b≤a):¬a<b:=acB (bh p (by simp+arith))
theorem Nx(p:a+(b+1)=c):a+1+b=c:=aaI (bh (aaz p) (by simp+arith)) (bh (aaz p.symm) (by simp+arith))
theorem GK(p:b<64)(q:a=b):a≤16777216:=bh (aam p (aaz q)) (by simp+arith)
theorem Ny(p:b<64)(q:a=b):a<64:=q▸p
theorem Nz(p:d<b)(q:b<c+1)(r:d=a):a<b∧b≤c:=⟨r▸p,abZ q⟩
theorem NA(p:c<b)(q:c=a):a≤b-1:=adJ (q▸p)
theorem NB(p:c<a)(q:a<b+1):a-1<b:=aaE (Nat.sub_lt (aaC (aaD _) p) Nat.one_pos) (abZ q)
theorem NC(h1:b<d)(h2:d=a):¬(a<b∧b≤c):=λq=>Nat.lt_asymm q.1 (h2▸h1)
theorem ND(p:a<c)(q:c=b):a<b:=q▸p
theorem GL(p:c<a)(q:a≤b):a-1<b:=aaE (Nat.sub_lt (aaC (aaD _) p) Nat.one_pos) q
theorem NE(p:b≤1000)(q:a=b):a+1+1≤1000000:=bh (aam p (aaz q)) (by simp+arith)
theorem RT{a k:Nat}:¬a=a+1+k:=abf (Nat.lt_add_right k (abw a))
theorem Lx{a i j:Nat}(h:i≠j):¬a+i=a+j:=λe=>h (Nat.add_left_cancel e)
theorem RU{a k:Nat}(p:894<a):¬a+1+k=894:=abF (Nat.lt_add_right k (Nat.lt_add_right 1 p))
theorem NF(p:894<a):(¬a=a+1+0∧¬a=a+1+1∧¬a=a+1+2∧¬a=a+1+3∧¬a=894)∧(¬a+1+0=a+1+1∧¬a+1+0=a+1+2∧¬a+1+0=a+1+3∧¬a+1+0=894)∧(¬a+1+1=a+1+2∧¬a+1+1=a+1+3∧¬a+1+1=894)∧(¬a+1+2=a+1+3∧¬a+1+2=894)∧¬a+1+3=894:=
 ⟨⟨RT,RT,RT,RT,abF p⟩,⟨Lx (by decide),Lx (by decide),Lx (by decide),RU p⟩,⟨Lx (by decide),Lx (by decide),RU p⟩,⟨Lx (by decide),RU p⟩,RU p⟩
theorem NG(p:a≤10):a*5≤50:=bh (aaW 5 p) (by simp+arith)
theorem NH(h1:a<b)(h2:¬a=c)(h3:¬(c<a∧a≤d))(h4:c<b)(h5:b≤d):a<b-1:=Nat.lt_sub_of_add_lt (aaC (abr (aa8 λq=>h3 ⟨q,aab (aaN h1) h5⟩) h2) h4)
theorem NI(p:a=b)(q:894<b):894<a:=p▸q
theorem NJ(p:a≤50):1+a≤60:=bh p (by simp+arith)
theorem NK(h1:c≤b)(h2:a<b+1)(h3:¬a=c)(h4:¬(c<a∧a≤b)):a<b:=aaE (abr (aa8 λq=>h4 ⟨q,abZ h2⟩) h3) h1
theorem NL(p:a≤50):1+a+1≤60:=bh p (by simp+arith)
theorem NM(p:a≤b)(q:¬a<b):a=b:=aaI (bh p (by simp+arith)) (bh (aa8 q) (by simp+arith))
theorem NN(p:b=c)(q:a<c):a<b:=p▸q
theorem NO(p:b=a+c):a≤b:=bh (aaz p.symm) (by simp+arith)
theorem NP(p:a≤d+c)(q:d≤b+1):a≤b+(c+1):=bh (aam p q) (by simp+arith)
theorem NQ:a+(b+(c+1))=a+b+1+c:=aaI (by simp+arith) (by simp+arith)
theorem NR(p:a≤d+c)(q:d≤b+1):a≤b+1+c:=bh (aam p q) (by simp+arith)
theorem NS:a+(b+1)=a+1+b:=aaI (by simp+arith) (by simp+arith)
theorem NT(p:b=a+c+1+d):a≤b:=bh (aaz p.symm) (by simp+arith)
theorem NU(p:b≤7)(q:a<b):101*a≤800:=aab (aaW 101 (aab (aaN q) p)) (aae rfl)
theorem NV(p:b≤800)(q:a=b):a≤800:=q▸p
theorem NW(p:c≤101*b)(q:d≤100)(r:a≤c+1+d):a≤101*(b+1):=bh (aam p (aam q r)) (by simp+arith)
theorem NY(p:a≤100):a+(a+1)*5≤16777216:=bh (aaW 6 p) (by simp+arith)
theorem NZ(p:b≤100):101*a+b≤101*(a+1):=bh p (by simp+arith)
theorem N0(h1:a=b)(h2:¬(↑63:Int)<(b:Int)):a≤1000:=h1▸aab (aa8 λq=>h2 (abS.mpr q)) (aae (rfl:Nat.ble 63 1000=true))
theorem GM(p:a≤b):a+1≤1+b:=bh p (by simp+arith)
theorem N1(p:b≤2*(c+1))(q:a≤2):a+(b+0)≤2*(c+1+1):=bh (aam p q) (by simp+arith)
theorem N4(p:b≤3)(q:a≤c)(r:c≤2*b):a≤6:=bh (aam (aaW 2 p) (aam q r)) (by simp+arith)
theorem N5(p:a<(b+2)/3)(q:Min.min 3 (b-3*a)=0):False:=by
 have h1:(a+1)*3≤b+2:=(Nat.le_div_iff_mul_le (by decide)).mp p
 rcases Nat.le_total 3 (b-3*a)with h|h
 ·rw[ac5 h]at q;cases q
 ·rw[Nat.min_eq_right h]at q
  have h2:=Nat.sub_eq_zero_iff_le.mp q
  have h3:3*a+3≤b+2:=aab (aaz (Nat.mul_comm 3 (a+1))) h1
  exact absurd (Nat.le_of_add_le_add_right (aab h3 (aak _):3*a+1+2≤b+2)) (Nat.not_le.mpr (Nat.lt_succ_of_le h2))
theorem N6(p:a≤12):(a+2)/3≤4:=aab (Nat.div_le_div_right (ab8 p 2)) (aae rfl)
theorem N7(p:a≤800):a<1000:=bh p (by simp+arith)
theorem N8(p:a≤b)(q:b≤c)(r:b-a=c):a=0:=Nat.le_zero.mp (Nat.le_of_add_le_add_left (a:=c) ((Nat.eq_add_of_sub_eq p r)▸q))
theorem N9(p:a-c=b)(q:c=0):a=b:=(q▸p:a-0=b)
theorem N_(p:b≤100)(q:c≤800)(r:a≤c+1+d)(s:d<b):a<1000:=bh (aam p (aam q (aam r s))) (by simp+arith)
theorem Oa(p:a≤1000):0+a≤3000:=bh p (by simp+arith)
theorem Ob(p:b≤100)(q:a<b):800+a≤1000000:=bh (aam p q) (by simp+arith)
theorem Oc(p:a+d≤16777216)(q:b≤d)(r:c=16777216):¬a+b>c:=acB (bh (aam p (aam q (aaz r.symm))) (by simp+arith))
theorem Od(p:d≤b+1+c)(q:a≤d+1):a≤b+1+(c+1):=bh (aam p q) (by simp+arith)
theorem Oe(p:a≤1000)(q:b≤1000):0+a+b≤3000:=bh (aam p q) (by simp+arith)
theorem GN(p:a≤1000)(q:c≤1000)(r:b≤1000):0+a+b+c≤3000:=bh (aam p (aam q r)) (by simp+arith)
theorem Xf:a≤a+1+1+1:=by simp+arith
theorem Xg:a≤a+1+1+1+1:=by simp+arith
theorem Of(p:b≤1)(q:c+1≤e)(r:a+e<d):a+b+c<d:=bh (aam p (aam q r)) (by simp+arith)
theorem Og(p:b≤4)(q:c+1≤e)(r:a+8*e<d):a+b+8*c<d:=bh (aam p (aam (aaW 8 q) r)) (by simp+arith)
theorem Oh(p:b=c)(q:a<b)(r:c≤1000000):a≤1000000:=bh (aam (aaz p) (aam q r)) (by simp+arith)
theorem Oi(p:b≤1000):Min.min a b≤1000000:=aab (Nat.min_le_right _ _) (aab p (aae rfl))
end
end
section
namespace Top
abbrev prog:Program:=PySem.Challenge.pw_ik0092_01
def e(P:aao)(x:Str)(t:Tok)(v:Value):abM:=⟨PyData.keyHash P x,.str x t,v⟩
def oT(vs:List Value)(n:Nat):Obj:=⟨.type "tuple",none,.seq vs.toArray n,#[]⟩
def tS(i:Nat):Stmt:=(prog.main.body.drop i).headD (.Pass ⟨0,0,0,0⟩)
def cS(i j:Nat):Stmt:=match tS i with
 | .ClassDef _ _ _ b _ _ _ _ _ _ _=>(b.drop j).headD (.Pass ⟨0,0,0,0⟩)
 |_=>.Pass ⟨0,0,0,0⟩
def bodyOf:Stmt→List Stmt
 | .FunctionDef _ _ b _ _ _ _ _ _ _=>b
 |_=>[]
def AB:Stmt→Arguments
 | .FunctionDef _ a _ _ _ _ _ _ _ _=>a
 |_=>⟨[],[],none,[],[],none,[]⟩
def av:Stmt→Scope
 | .FunctionDef _ _ _ _ _ _ s _ _ _=>s
 |_=>default
def fd(st:Stmt)(name qual:Str)(g:Addr)(dV kV doc pm:Value)(an:Option Addr)(cd ct:Value)(b:Addr):aaP:=
 {name,qualname:=qual,params:=AB st,body:=.stmts (bodyOf st),scope:=av st,globals:=g,closure:=[],defaults:=dV,kwdefaults:=kV,doc,pyModule:=pm,annotations:=an,code:=cd,closureTuple:=ct,builtins:=b}
def alt:List Obj→List Obj
 |a::_::r=>a::alt r
 |l=>l
def treeOf:Nat→List Obj→BT
 |0,_=>.nil
 |_,[]=>.nil
 |n+1,o::r=>.node o (treeOf n (alt r)) (treeOf n (alt r.tail))
def tX:Env:={scope:=prog.main.scope,locals:=mainNs,globals:=mainNs,cells:=[],code:=.ref 36,frame:=some 37}
def eX:Code:=.body (abU prog) tX
def tB:List Frame:=[topFrame ⟨0,0,0,0⟩]
theorem yI{α β γ δ:Type}{x:Option (α×β×γ×δ)}{a:α}{b:β}{c:γ}{d:δ}(h1:x.map (λx=>x.1)=some a)(h2:x.map (λx=>x.2.1)=some b)(h3:x.map (λx=>x.2.2.1)=some c)(h4:x.map (λx=>x.2.2.2)=some d):x=some (a,b,c,d):=by
 cases x with
 |none=>cases h1
 |some p=>cases h1;cases h2;cases h3;cases h4;rfl
theorem eG: @segRunT=PySem.W.Fast.tw10110043849684766642:=PySem.W.Fast.te10110043849684766642
theorem bU: @acm=PySem.W.Fast.tw14364793385576792824:=PySem.W.Fast.te14364793385576792824
abbrev O:=aao→Obj
def ty(s:String)(d:Data):Obj:=⟨.type s,none,d,#[]⟩
def nt(d:Data):Obj:=⟨.none,none,d,#[]⟩
def di(a:Array abM)(n:Nat):Obj:=ty "dict" (.dict a n)
def n0:Obj:=nt (.fields #[])
def t0:Obj:=oT [] 0
def cg(n q:Str)(t:Nat)(l:Int)(v:List Value)(a:Nat)(b:Bool)(z:Int)(w:List Value)(u:Int)(y:Nat):Obj:=ty "code" (.fields ([Value.str n t,.str q (t+1),.str "/claim/cut.py" (t+2),.int l 0]++v++[abP a,.bool b,.int z 0,.ref (a+1)]++w++[Value.int u 0,.int l 0,.str "/claim/cut.py" y]).toArray)
def co(n q:Str)(t:Nat)(l c p k f:Int)(a:Nat)(u:Nat):Obj:=cg n q t l [.int c 0,.int p 0,.int k 0,.int f 0] a true 318 [.none,.ref (a+2),.ref (a+3),.ref (a+4)] u (u+1)
def cn(n q:Str)(t:Nat)(l:Int)(a:Nat)(z:Int)(u:Nat):Obj:=cg n q t l [.int 0 0,.int 0 0,.int 0 0,.int 0 0] a false z [.none,.none,.none,.none] u (u+1)
def fo(s:Stmt)(n q:Str)(g:Addr)(d k o m:Value)(a:Option Addr)(c:Addr)(t:Value):Obj:=ty "function" (.func (fd s n q g d k o m a (.ref c) t 0))
def fb(s:Stmt)(n q:Str):Obj:=nt (.func (fd s n q 0 .none .none .none .none none .none .none 0))
def fn(s:Stmt)(n q:Str)(g:Addr)(m:Value)(c:Addr):Obj:=fo s n q g .none .none .none m none c .none
def Tr:Value:=(.str "__main__" 164)
def RV:Value:=(.str "cpy313.email.utils" 331)
def vS:Value:=(.str "cpy313.graphlib" 374)
def c7:Value:=(.str "io" 596)
def Ly:Value:=(.str "os.path" 1253)
def vL:Value:=(.str "cpy313.shlex" 1312)
def AC:Value:=(.str "law_ik0092_01" 1480)
def eb(P:aao)(x:String)(t:Tok):abM:=e P x t (.builtin x)
def et(P:aao)(x:String)(t:Tok):abM:=e P x t (.type x)
def er(P:aao)(x:Str)(t:Tok)(a:Addr):abM:=e P x t (.ref a)
def cp(n q:Str)(t:Nat)(l c f:Int)(a u:Nat):Obj:=cg n q t l [.int c 0,.int 0 0,.int 0 0,.int f 0] a true 318 [.none,.none,.none,.ref (a+2)] u (u+1)
def sx(s:Str)(l:List Nat):List Nat:=s.cps.size::(s.cps.toList++l)
def w3(a b c:Nat)(l:List Value):List Value:=.int a 0::.int b 0::.ref c::l
def sq:Nat→List Str→List Value
 |_,[]=>[]
 |t,x::l=>.str x t::sq (t+1) l
def nS(t:Nat)(l:List Str):Obj:=oT (sq t l) 0
def nF(l:List Value):Obj:=nt (.fields l.toArray)
def dL(l:List abM)(n:Nat):Obj:=di l.toArray n
def tp:Obj:=ty "builtin_function_or_method" (.fields #[.builtin "type.__prepare__",.type "type"])
def su(a:Addr):Obj:=ty "super" (.fields #[.ref a,.ref a,.ref a])
def fr(a b:Addr)(v:Value):Obj:=⟨.type "frame",none,.plain,#[some (.ref a),some (.ref 3),some (.ref b),none,some v,none,some (.ref 0)]⟩
def cO(n:Str)(bs m:List Value)(ns:Addr)(hd:Bool)(sl:List Str)(sb:List Value)(f:Option Value)(t u:Nat)(v:Value)(b:Bool):Obj:=⟨.type "type",none,.cls {name:=n,bases:=bs,mro:=m,ns:=ns,qualname:=n,hasDict:=hd,slotNames:=sl,subclasses:=sb,abstract:=false,collection:=none,hasDel:=false},#[f,none,some (.str n t),some (.str n u),some v,some (.bool b)]⟩
noncomputable section
def k1:O:=λP=>di #[er P "builtins" 162 4,er P "__main__" 163 5,er P "_sre" 244 12,er P "_collections" 292 30] 4
def k4:O:=λP=>⟨.type "module",some 0,.plain,#[]⟩
def Ts:O:=λP=>fn (tS 4) "_iter_escaped_chars" "_iter_escaped_chars" 3 RV 50
def Tt:O:=λP=>fn (tS 5) "_strip_quoted_realnames" "_strip_quoted_realnames" 3 RV 57
def Tu:O:=λP=>fn (tS 6) "_check_parenthesis" "_check_parenthesis" 3 RV 64
def Tv:O:=λP=>fn (tS 7) "_pre_parse_validation" "_pre_parse_validation" 3 RV 71
def Tw:O:=λP=>fn (cS 11 1) "__init__" "_NodeInfo.__init__" 3 vS 86
def Oj:O:=λP=>di #[e P "__module__" 426 (.str "cpy313.graphlib" 374),e P "__firstlineno__" 430 (.int 66 429),er P "__static_attributes__" 431 104,er P "__weakref__" 433 107,e P "__doc__" 434 .none] 3
def Ol:O:=λP=>cO "CycleError" [.type "ValueError"] [.ref 106,.type "ValueError",.type "Exception",.type "BaseException",.type "object"] 105 true [] [] (some (.ref 97)) 419 427 (.builtin "ValueError.__new__") true
def HW:O:=λP=>fo (cS 13 0) "__init__" "TopologicalSorter.__init__" 3 (.ref 117) .none .none vS none 123 .none
def HX:O:=λP=>fn (cS 13 1) "_get_nodeinfo" "TopologicalSorter._get_nodeinfo" 3 vS 130
def HY:O:=λP=>fn (cS 13 2) "add" "TopologicalSorter.add" 3 vS 137
def HZ:O:=λP=>fn (cS 13 3) "prepare" "TopologicalSorter.prepare" 3 vS 142
def H2:O:=λP=>fn (cS 13 4) "get_ready" "TopologicalSorter.get_ready" 3 vS 149
def H3:O:=λP=>fn (cS 13 5) "is_active" "TopologicalSorter.is_active" 3 vS 156
def H4:O:=λP=>fn (cS 13 7) "done" "TopologicalSorter.done" 3 vS 170
def H6:O:=λP=>fn (cS 13 8) "_find_cycle" "TopologicalSorter._find_cycle" 3 vS 177
def H7:O:=λP=>fn (tS 17) "_index" "_index" 3 c7 210
def H8:O:=λP=>fn (cS 19 1) "__new__" "IOBase.__new__" 3 c7 237
def Om:O:=λP=>cO "BytesIO" [.ref 256] [.ref 498,.ref 256,.ref 241,.type "object"] 497 true [] [] (some (.ref 271)) 704 712 .none true
def H9:O:=λP=>fo (cS 23 1) "__init__" "StringIO.__init__" 3 (.ref 508) .none .none c7 none 514 .none
def H_:O:=λP=>fn (cS 23 2) "__translated" "StringIO.__translated" 3 c7 521
def Ia:O:=λP=>fn (cS 23 3) "__check" "StringIO.__check" 3 c7 528
def Ib:O:=λP=>fo (cS 23 25) "read" "StringIO.read" 3 (.ref 684) .none .none c7 none 690 .none
def Ic:O:=λP=>cO "StringIO" [.ref 268] [.ref 745,.ref 268,.ref 241,.type "object"] 744 true [] [] (some (.ref 501)) 966 974 .none true
def Id:O:=λP=>fo (cS 33 0) "__init__" "shlex.__init__" 3 (.ref 797) .none .none vL none 803 .none
def Ie:O:=λP=>fn (cS 33 1) "punctuation_chars" "shlex.punctuation_chars" 3 vL 810
def Ig:O:=λP=>fn (cS 33 5) "get_token" "shlex.get_token" 3 vL 840
def Ih:O:=λP=>fn (cS 33 6) "read_token" "shlex.read_token" 3 vL 847
def Ii:O:=λP=>fn (cS 33 9) "__iter__" "shlex.__iter__" 3 vL 869
def Ij:O:=λP=>fn (cS 33 10) "__next__" "shlex.__next__" 3 vL 876
def Ik:O:=λP=>fo (tS 34) "split" "split" 3 (.ref 885) .none .none vL none 891 .none
def Il:O:=λP=>co "join" "join" 1463 901 1 0 0 3 893 1467
def Im:O:=λP=>fn (tS 35) "join" "join" 3 vL 898
def Io:O:=λP=>fn (tS 38) "quote" "quote" 3 vL 906
def Ip:O:=λP=>fn (tS 40) "_law_rows" "_law_rows" 3 AC 911
def Iq:O:=λP=>fn (tS 41) "_law_line" "_law_line" 3 AC 916
def Ir:O:=λP=>fn (tS 42) "_law_closes" "_law_closes" 3 AC 923
def Iu:O:=λP=>fn (tS 43) "_law_table" "_law_table" 3 AC 930
def Iv:O:=λP=>fn (tS 44) "_law_shut" "_law_shut" 3 AC 937
def Iw:O:=λP=>fn (tS 45) "_law_fixed" "_law_fixed" 3 AC 944
def Ix:O:=λP=>fn (tS 46) "_law_refused" "_law_refused" 3 AC 951
def Iy:O:=λP=>fn (tS 47) "_law_next" "_law_next" 3 AC 956
def Iz:O:=λP=>fn (tS 48) "_law_run" "_law_run" 3 AC 963
def IA:O:=λP=>fn (tS 49) "law" "law" 3 AC 968
end
def mE(P:aao)(v:Value)(l:List abM):List abM:=e P "__name__" 165 v::e P "__doc__" 166 .none::e P "__package__" 167 .none::e P "__loader__" 168 (.builtin "__main__.__loader__#opaque")::e P "__spec__" 169 .none::er P "__annotations__" 170 6::er P "__builtins__" 171 4::e P "__file__" 173 (.str "/claim/cut.py" 172)::e P "__cached__" 174 .none::l
def GO(P:aao):List abM:=er P "_sre" 275 12::e P "deque" 317 (.type "collections.deque")::er P "_wall" 330 44::er P "_iter_escaped_chars" 342 51::er P "_strip_quoted_realnames" 354 58::er P "_check_parenthesis" 364 65::er P "_pre_parse_validation" 373 72::e P "_NODE_OUT" 378 (.int (-1) 377)::e P "_NODE_DONE" 381 (.int (-2) 380)::er P "_NodeInfo" 418 91::er P "CycleError" 436 106::er P "TopologicalSorter" 555 188::[]
def GQ(P:aao):List abM:=GO P++(er P "_twin_re_1" 595 197::er P "_whence" 605 204::er P "_index" 613 211::er P "UnsupportedOperation" 635 221::er P "IOBase" 667 241::er P "BufferedIOBase" 685 256::er P "TextIOBase" 703 268::[])
def GR(P:aao):List abM:=GQ P++(er P "BytesIO" 965 498::[])
def GS(P:aao):List abM:=GR P++(er P "StringIO" 1252 745::[])
def GT(P:aao):List abM:=GS P++(er P "_kind" 1263 754::er P "_fspath" 1272 761::er P "_check_arg_types" 1282 768::er P "isabs" 1289 775::er P "join" 1300 782::er P "join_path" 1301 782::er P "dirname" 1311 789::er P "shlex" 1452 880::[])
def On(P:aao):List abM:=(GT P).set 25 (er P "join" 1300 899)++(er P "split" 1462 892::er P "join_shlex" 1470 899::er P "_find_unsafe" 1472 900::er P "quote" 1479 907::er P "_law_rows" 1487 912::er P "_law_line" 1493 917::er P "_law_closes" 1505 924::er P "_law_table" 1514 931::er P "_law_shut" 1522 938::er P "_law_fixed" 1529 945::er P "_law_refused" 1537 952::er P "_law_next" 1543 957::er P "_law_run" 1557 964::er P "law" 1563 969::[])
@[irreducible]noncomputable def Tx (P:aao):List Obj:=(dL (e P "__name__" 1 (.str "builtins" 160)::e P "__doc__" 2 (.builtin "builtins.__doc__:str#opaque")::e P "__package__" 3 (.builtin "builtins.__package__:str#opaque")::e P "__loader__" 4 (.builtin "builtins.__loader__:shared#opaque")::e P "__spec__" 5 (.builtin "builtins.__spec__#opaque")::eb P "__build_class__" 6::eb P "__import__" 7::eb P "abs" 8::eb P "all" 9::eb P "any" 10::eb P "ascii" 11::eb P "bin" 12::eb P "breakpoint" 13::eb P "callable" 14::eb P "chr" 15::eb P "compile" 16::eb P "delattr" 17::eb P "dir" 18::eb P "divmod" 19::eb P "eval" 20::eb P "exec" 21::eb P "format" 22::eb P "getattr" 23::eb P "globals" 24::eb P "hasattr" 25::eb P "hash" 26::eb P "hex" 27::eb P "id" 28::eb P "input" 29::eb P "isinstance" 30::eb P "issubclass" 31::eb P "iter" 32::eb P "aiter" 33::eb P "len" 34::eb P "locals" 35::eb P "max" 36::eb P "min" 37::eb P "next" 38::eb P "anext" 39::eb P "oct" 40::eb P "ord" 41::eb P "pow" 42::eb P "print" 43::eb P "repr" 44::eb P "round" 45::eb P "setattr" 46::eb P "sorted" 47::eb P "sum" 48::eb P "vars" 49::e P "None" 50 .none::e P "Ellipsis" 51 .ellipsis::e P "NotImplemented" 52 .notImplemented::e P "False" 53 (.bool false)::e P "True" 54 (.bool true)::et P "bool" 55::et P "memoryview" 56::et P "bytearray" 57::et P "bytes" 58::et P "classmethod" 59::et P "complex" 60::et P "dict" 61::et P "enumerate" 62::et P "filter" 63::et P "float" 64::et P "frozenset" 65::et P "property" 66::et P "int" 67::et P "list" 68::et P "map" 69::et P "object" 70::et P "range" 71::et P "reversed" 72::et P "set" 73::et P "slice" 74::et P "staticmethod" 75::et P "str" 76::et P "super" 77::et P "tuple" 78::et P "type" 79::et P "zip" 80::e P "__debug__" 81 (.bool true)::et P "BaseException" 82::et P "BaseExceptionGroup" 83::et P "Exception" 84::et P "GeneratorExit" 85::et P "KeyboardInterrupt" 86::et P "SystemExit" 87::et P "ArithmeticError" 88::et P "AssertionError" 89::et P "AttributeError" 90::et P "BufferError" 91::et P "EOFError" 92::et P "ImportError" 93::et P "LookupError" 94::et P "MemoryError" 95::et P "NameError" 96::et P "OSError" 97::et P "ReferenceError" 98::et P "RuntimeError" 99::et P "StopAsyncIteration" 100::et P "StopIteration" 101::et P "SyntaxError" 102::et P "SystemError" 103::et P "TypeError" 104::et P "ValueError" 105::et P "Warning" 106::et P "FloatingPointError" 107::et P "OverflowError" 108::et P "ZeroDivisionError" 109::et P "BytesWarning" 110::et P "DeprecationWarning" 111::et P "EncodingWarning" 112::et P "FutureWarning" 113::et P "ImportWarning" 114::et P "PendingDeprecationWarning" 115::et P "ResourceWarning" 116::et P "RuntimeWarning" 117::et P "SyntaxWarning" 118::et P "UnicodeWarning" 119::et P "UserWarning" 120::et P "BlockingIOError" 121::et P "ChildProcessError" 122::et P "ConnectionError" 123::et P "FileExistsError" 124::et P "FileNotFoundError" 125::et P "InterruptedError" 126::et P "IsADirectoryError" 127::et P "NotADirectoryError" 128::et P "PermissionError" 129::et P "ProcessLookupError" 130::et P "TimeoutError" 131::et P "IndentationError" 132::et P "_IncompleteInputError" 133::et P "IndexError" 134::et P "KeyError" 135::et P "ModuleNotFoundError" 136::et P "NotImplementedError" 137::et P "PythonFinalizationError" 138::et P "RecursionError" 139::et P "UnboundLocalError" 140::et P "UnicodeError" 141::et P "BrokenPipeError" 142::et P "ConnectionAbortedError" 143::et P "ConnectionRefusedError" 144::et P "ConnectionResetError" 145::et P "TabError" 146::et P "UnicodeDecodeError" 147::et P "UnicodeEncodeError" 148::et P "UnicodeTranslateError" 149::et P "ExceptionGroup" 150::e P "EnvironmentError" 151 (.type "OSError")::e P "IOError" 152 (.type "OSError")::eb P "open" 153::e P "quit" 154 (.builtin "builtins.quit#opaque")::e P "exit" 155 (.builtin "builtins.exit#opaque")::e P "copyright" 156 (.builtin "builtins.copyright#opaque")::e P "credits" 157 (.builtin "builtins.credits#opaque")::e P "license" 158 (.builtin "builtins.license#opaque")::e P "help" 159 (.builtin "builtins.help#opaque")::[]) 159::k1 P::nt (.dict (acg (e P "\x69mport.loaded._sre" 183 (.bool true)::er P "class._frozen_importlib.BuiltinImporter" 185 14::er P "watched.\x69mport" 206 18::er P "class._frozen_importlib.ModuleSpec" 216 22::e P "sys.modules.booked-epoch" 245 (.int 4 0)::e P "\x69mport.later-laid._sre" 270 (.bool true)::er P "watched.library" 272 27::e P "watched.library-objects" 0 (.str ⟨#[12,30]⟩ 0)::e P "watched.library-deep._sre" 273 (.str ⟨(acg (4::0::0::11::4::0::0::11::4::0::0::3::4::0::0::11::8::sx "dict" (2::[])))⟩ 0)::e P "\x69mport.loaded._collections" 280 (.bool true)::e P "sys.modules.landed._collections" 294 (.bool true)::e P "\x69mport.later-laid._collections" 309 (.bool true)::e P "watched.library-deep._collections" 311 (.str ⟨(acg (4::0::0::29::4::0::0::29::4::0::0::3::4::0::0::29::8::sx "dict" (2::[])))⟩ 0)::[])) 13)::di #[e P "__name__" 165 (.str "__main__" 164),e P "__doc__" 166 .none,e P "__package__" 167 .none,e P "__loader__" 168 (.builtin "__main__.__loader__#opaque"),e P "__spec__" 169 .none,er P "__annotations__" 170 6,er P "__builtins__" 171 4,e P "__file__" 173 (.str "/claim/cut.py" 172),e P "__cached__" 174 .none,er P "_sre" 275 12,e P "deque" 317 (.type "collections.deque")] 11::k4 P::⟨.type "module",some 3,.plain,#[]⟩::di #[] 0::t0::n0::cn "<module>" "<module>" 176 1 7 175 179::fr 9 3 Tr::dL (e P "__name__" 247 (.str "_sre" 246)::e P "__doc__" 248 .none::e P "__package__" 250 (.str "" 249)::er P "__loader__" 251 14::er P "__spec__" 252 26::e P "compile" 253 (.builtin "_sre.compile")::e P "template" 254 (.builtin "_sre.template")::e P "getcodesize" 255 (.builtin "_sre.getcodesize")::e P "ascii_iscased" 256 (.builtin "_sre.ascii_iscased")::e P "unicode_iscased" 257 (.builtin "_sre.unicode_iscased")::e P "ascii_tolower" 258 (.builtin "_sre.ascii_tolower")::e P "unicode_tolower" 259 (.builtin "_sre.unicode_tolower")::e P "MAGIC" 261 (.int 20230612 260)::e P "CODESIZE" 263 (.int 4 262)::e P "MAXREPEAT" 265 (.int 4294967295 264)::e P "MAXGROUPS" 267 (.int 1073741823 266)::e P "copyright" 269 (.str " SRE 2.2.2 Copyright (c) 1997-2002 by Secret Labs AB " 268)::[]) 17::⟨.type "module",some 11,.plain,#[]⟩::dL (e P "__module__" 189 (.str "_frozen_importlib" 186)::e P "__firstlineno__" 190 (.int 971 187)::e P "__doc__" 191 (.builtin "_frozen_importlib.BuiltinImporter.__doc__:str#opaque")::e P "_ORIGIN" 192 (.str "built-in" 188)::e P "find_spec" 193 (.builtin "_frozen_importlib.BuiltinImporter.find_spec#opaque")::e P "create_module" 194 (.builtin "_frozen_importlib.BuiltinImporter.create_module#opaque")::e P "exec_module" 195 (.builtin "_frozen_importlib.BuiltinImporter.exec_module#opaque")::e P "get_code" 196 (.builtin "_frozen_importlib.BuiltinImporter.get_code#opaque")::e P "get_source" 197 (.builtin "_frozen_importlib.BuiltinImporter.get_source#opaque")::e P "is_package" 198 (.builtin "_frozen_importlib.BuiltinImporter.is_package#opaque")::e P "load_module" 199 (.builtin "_frozen_importlib.BuiltinImporter.load_module#opaque")::er P "__static_attributes__" 200 15::er P "__dict__" 202 16::er P "__weakref__" 204 17::[]) 14::ty "type" (.cls {name:="BuiltinImporter",bases:=[.type "object"],mro:=[.ref 14,.type "object"],ns:=13,qualname:="BuiltinImporter",hasDict:=true,slotNames:=[],subclasses:=[],abstract:=false,collection:=none,hasDel:=false})::t0::ty "getset_descriptor" (.fields #[.str "__dict__" 201,.ref 14,.builtin "function.__dict__",.builtin "function.__dict__#set"])::ty "getset_descriptor" (.fields #[.str "__weakref__" 203,.ref 14,.builtin "ExceptionGroup.__weakref__",.none])::nt (.seq #[.int 13 0,.str ⟨(acg (6::189::sx "__module__" (6::186::sx "_frozen_importlib" (6::190::sx "__firstlineno__" (4::187::0::971::6::191::sx "__doc__" (sx "4_frozen_" (105::109::112::111::114::116::108::105::98::46::66::117::105::108::116::105::110::73::109::112::111::114::116::101::114::46::95::95::100::111::99::95::95::58::115::116::114::35::111::112::97::113::117::101::6::192::sx "_ORIGIN" (6::188::sx "built-in" (6::193::sx "find_spec" (sx "2_frozen_" (105::109::112::111::114::116::108::105::98::46::66::117::105::108::116::105::110::73::109::112::111::114::116::101::114::46::102::105::110::100::95::115::112::101::99::35::111::112::97::113::117::101::6::194::sx "create_module" (sx "6_frozen_" (105::109::112::111::114::116::108::105::98::46::66::117::105::108::116::105::110::73::109::112::111::114::116::101::114::46::99::114::101::97::116::101::95::109::111::100::117::108::101::35::111::112::97::113::117::101::6::195::sx "exec_module" (sx "4_frozen_" (105::109::112::111::114::116::108::105::98::46::66::117::105::108::116::105::110::73::109::112::111::114::116::101::114::46::101::120::101::99::95::109::111::100::117::108::101::35::111::112::97::113::117::101::6::196::sx "get_code" (sx "1_frozen_" (105::109::112::111::114::116::108::105::98::46::66::117::105::108::116::105::110::73::109::112::111::114::116::101::114::46::103::101::116::95::99::111::100::101::35::111::112::97::113::117::101::6::197::sx "get_source" (sx "3_frozen_" (105::109::112::111::114::116::108::105::98::46::66::117::105::108::116::105::110::73::109::112::111::114::116::101::114::46::103::101::116::95::115::111::117::114::99::101::35::111::112::97::113::117::101::6::198::sx "is_package" (sx "3_frozen_" (105::109::112::111::114::116::108::105::98::46::66::117::105::108::116::105::110::73::109::112::111::114::116::101::114::46::105::115::95::112::97::99::107::97::103::101::35::111::112::97::113::117::101::6::199::sx "load_module" (sx "4_frozen_" (105::109::112::111::114::116::108::105::98::46::66::117::105::108::116::105::110::73::109::112::111::114::116::101::114::46::108::111::97::100::95::109::111::100::117::108::101::35::111::112::97::113::117::101::6::200::sx "__static_attributes__" (4::0::0::15::6::202::sx "__dict__" (4::0::0::16::6::204::sx "__weakref__" (4::0::0::17::[]))))))))))))))))))))))))))⟩ 0,.bool true,.bool true,.str "" 205,.int 21 0,.str ⟨(acg (6::227::sx "__module__" (6::217::sx "_frozen_importlib" (6::228::sx "__firstlineno__" (4::218::0::562::6::229::sx "__doc__" (sx "/_frozen_" (105::109::112::111::114::116::108::105::98::46::77::111::100::117::108::101::83::112::101::99::46::95::95::100::111::99::95::95::58::115::116::114::35::111::112::97::113::117::101::6::230::sx "__init__" (sx ",_frozen_" (105::109::112::111::114::116::108::105::98::46::77::111::100::117::108::101::83::112::101::99::46::95::95::105::110::105::116::95::95::35::111::112::97::113::117::101::6::231::sx "__repr__" (sx ",_frozen_" (105::109::112::111::114::116::108::105::98::46::77::111::100::117::108::101::83::112::101::99::46::95::95::114::101::112::114::95::95::35::111::112::97::113::117::101::6::232::sx "__eq__" (sx "*_frozen_" (105::109::112::111::114::116::108::105::98::46::77::111::100::117::108::101::83::112::101::99::46::95::95::101::113::95::95::35::111::112::97::113::117::101::6::233::sx "cached" (sx "*_frozen_" (105::109::112::111::114::116::108::105::98::46::77::111::100::117::108::101::83::112::101::99::46::99::97::99::104::101::100::35::111::112::97::113::117::101::6::234::sx "parent" (sx "*_frozen_" (105::109::112::111::114::116::108::105::98::46::77::111::100::117::108::101::83::112::101::99::46::112::97::114::101::110::116::35::111::112::97::113::117::101::6::235::sx "has_location" (sx "0_frozen_" (105::109::112::111::114::116::108::105::98::46::77::111::100::117::108::101::83::112::101::99::46::104::97::115::95::108::111::99::97::116::105::111::110::35::111::112::97::113::117::101::6::236::sx "__static_attributes__" (4::0::0::23::6::238::sx "__dict__" (4::0::0::24::6::240::sx "__weakref__" (4::0::0::25::6::241::sx "__hash__" (0::[])))))))))))))))))))))))⟩ 0,.bool true,.bool true,.str "" 242] 1)::ty "list" (.seq #[] 0)::di #[e P "name" 208 (.str "_sre" 207),er P "loader" 209 14,e P "origin" 210 (.str "built-in" 184),e P "loader_state" 211 .none,e P "submodule_search_locations" 212 .none,er P "_uninitialized_submodules" 213 19,e P "_set_fileattr" 214 (.bool false),e P "_cached" 215 .none,e P "_initializing" 243 (.bool false)] 9::dL (e P "__module__" 227 (.str "_frozen_importlib" 217)::e P "__firstlineno__" 228 (.int 562 218)::e P "__doc__" 229 (.builtin "_frozen_importlib.ModuleSpec.__doc__:str#opaque")::e P "__init__" 230 (.builtin "_frozen_importlib.ModuleSpec.__init__#opaque")::e P "__repr__" 231 (.builtin "_frozen_importlib.ModuleSpec.__repr__#opaque")::e P "__eq__" 232 (.builtin "_frozen_importlib.ModuleSpec.__eq__#opaque")::e P "cached" 233 (.builtin "_frozen_importlib.ModuleSpec.cached#opaque")::e P "parent" 234 (.builtin "_frozen_importlib.ModuleSpec.parent#opaque")::e P "has_location" 235 (.builtin "_frozen_importlib.ModuleSpec.has_location#opaque")::er P "__static_attributes__" 236 23::er P "__dict__" 238 24::er P "__weakref__" 240 25::e P "__hash__" 241 .none::[]) 13::ty "type" (.cls {name:="ModuleSpec",bases:=[.type "object"],mro:=[.ref 22,.type "object"],ns:=21,qualname:="ModuleSpec",hasDict:=true,slotNames:=[],subclasses:=[],abstract:=false,collection:=none,hasDel:=false})::nS 219 ["_cached","_set_fileattr","_uninitialized_submodules","loader","loader_state","name","origin","submodule_search_locations"]::ty "getset_descriptor" (.fields #[.str "__dict__" 237,.ref 22,.builtin "function.__dict__",.builtin "function.__dict__#set"])::ty "getset_descriptor" (.fields #[.str "__weakref__" 239,.ref 22,.builtin "ExceptionGroup.__weakref__",.none])::⟨.ref 22,some 20,.plain,#[]⟩::nt (.seq #[.int 11 0,.str ⟨(acg (6::247::sx "__name__" (6::246::sx "_sre" (6::248::sx "__doc__" (0::6::250::sx "__package__" (6::249::0::6::251::sx "__loader__" (4::0::0::14::6::252::sx "__spec__" (4::0::0::26::6::253::sx "compile" (9::sx "_sre.compile" (6::254::sx "template" (9::sx "_sre.template" (6::255::sx "getcodesize" (9::sx "_sre.getcodesize" (6::256::sx "ascii_iscased" (9::sx "_sre.ascii_iscased" (6::257::sx "unicode_iscased" (9::sx "_sre.unicode_iscased" (6::258::sx "ascii_tolower" (9::sx "_sre.ascii_tolower" (6::259::sx "unicode_tolower" (9::sx "_sre.unicode_tolower" (6::261::sx "MAGIC" (4::260::0::20230612::6::263::sx "CODESIZE" (4::262::0::4::6::265::sx "MAXREPEAT" (4::264::0::4294967295::6::267::sx "MAXGROUPS" (4::266::0::1073741823::6::269::sx "copyright" (6::268::53::32::83::82::69::32::50::46::50::46::50::32::67::111::112::121::114::105::103::104::116::32::40::99::41::32::49::57::57::55::45::50::48::48::50::32::98::121::32::83::101::99::114::101::116::32::76::97::98::115::32::65::66::32::[])))))))))))))))))))))))))))⟩ 0,.bool true,.bool false,.str "_sre" 271,.int 29 0,.str ⟨(acg (6::296::sx "__name__" (6::295::sx "_collections" (6::297::sx "__doc__" (9::sx "_collections.__doc__:str#opaque" (6::299::sx "__package__" (6::298::0::6::300::sx "__loader__" (4::0::0::14::6::301::sx "__spec__" (4::0::0::33::6::302::sx "_count_elements" (9::sx "_collections._count_elements" (6::303::sx "deque" (8::sx "collections.deque" (6::304::sx "defaultdict" (8::sx "collections.defaultdict" (6::305::sx "_deque_iterator" (8::sx "collections._deque_iterator" (6::306::sx "_deque_reverse_iterator" (sx "#collect" (105::111::110::115::46::95::100::101::113::117::101::95::114::101::118::101::114::115::101::95::105::116::101::114::97::116::111::114::6::307::sx "_tuplegetter" (8::sx "collections._tuplegetter" (6::308::sx "OrderedDict" (8::sx "collections.OrderedDict" ([])))))))))))))))))))))))⟩ 0,.bool true,.bool false,.str "_collections" 310] 1)::nS 277 ["deque"]::di #[e P "__name__" 296 (.str "_collections" 295),e P "__doc__" 297 (.builtin "_collections.__doc__:str#opaque"),e P "__package__" 299 (.str "" 298),er P "__loader__" 300 14,er P "__spec__" 301 33,e P "_count_elements" 302 (.builtin "_collections._count_elements"),e P "deque" 303 (.type "collections.deque"),e P "defaultdict" 304 (.type "collections.defaultdict"),e P "_deque_iterator" 305 (.type "collections._deque_iterator"),e P "_deque_reverse_iterator" 306 (.type "collections._deque_reverse_iterator"),e P "_tuplegetter" 307 (.type "collections._tuplegetter"),e P "OrderedDict" 308 (.type "collections.OrderedDict")] 12::⟨.type "module",some 29,.plain,#[]⟩::ty "list" (.seq #[] 0)::di #[e P "name" 283 (.str "_collections" 282),er P "loader" 284 14,e P "origin" 285 (.str "built-in" 281),e P "loader_state" 286 .none,e P "submodule_search_locations" 287 .none,er P "_uninitialized_submodules" 288 31,e P "_set_fileattr" 289 (.bool false),e P "_cached" 290 .none,e P "_initializing" 291 (.bool false)] 9::⟨.ref 22,some 32,.plain,#[]⟩::[])
def Xh(w:World)(os:abV):SharedT:=⟨treeOf 12 (Tx w.params),34,{},#[],{},318,os⟩
@[irreducible]noncomputable def Ty (P:aao):List Obj:=((Tx P).set 11 (dL (e P "__name__" 247 (.str "_sre" 246)::e P "__doc__" 248 .none::e P "__package__" 250 (.str "" 249)::e P "__loader__" 251 (.builtin "off-the-table:_sre.__loader__:shared#opaque")::e P "__spec__" 252 (.builtin "off-the-table:_sre.__spec__:shared#opaque")::e P "compile" 253 (.builtin "_sre.compile")::e P "template" 254 (.builtin "off-the-table:_sre.template:shared#opaque")::e P "getcodesize" 255 (.builtin "off-the-table:_sre.getcodesize:shared#opaque")::e P "ascii_iscased" 256 (.builtin "off-the-table:_sre.ascii_iscased:shared#opaque")::e P "unicode_iscased" 257 (.builtin "off-the-table:_sre.unicode_iscased:shared#opaque")::e P "ascii_tolower" 258 (.builtin "off-the-table:_sre.ascii_tolower:shared#opaque")::e P "unicode_tolower" 259 (.builtin "off-the-table:_sre.unicode_tolower:shared#opaque")::e P "MAGIC" 261 (.int 20230612 260)::e P "CODESIZE" 263 (.int 4 262)::e P "MAXREPEAT" 265 (.int 4294967295 264)::e P "MAXGROUPS" 267 (.int 1073741823 266)::e P "copyright" 269 (.str " SRE 2.2.2 Copyright (c) 1997-2002 by Secret Labs AB " 268)::[]) 17)).set 29 (di #[e P "__name__" 296 (.str "_collections" 295),e P "__doc__" 297 (.builtin "off-the-table:_collections.__doc__:shared#opaque"),e P "__package__" 299 (.str "" 298),e P "__loader__" 300 (.builtin "off-the-table:_collections.__loader__:shared#opaque"),e P "__spec__" 301 (.builtin "off-the-table:_collections.__spec__:shared#opaque"),e P "_count_elements" 302 (.builtin "_collections._count_elements"),e P "deque" 303 (.type "collections.deque"),e P "defaultdict" 304 (.type "collections.defaultdict"),e P "_deque_iterator" 305 (.builtin "off-the-table:_collections._deque_iterator:shared#opaque"),e P "_deque_reverse_iterator" 306 (.builtin "off-the-table:_collections._deque_reverse_iterator:shared#opaque"),e P "_tuplegetter" 307 (.type "collections._tuplegetter"),e P "OrderedDict" 308 (.type "collections.OrderedDict")] 12)
def s_0(w:World)(os:abV):SharedT:=⟨treeOf 12 (Ty w.params),34,{},#[],{},318,os⟩
@[irreducible]noncomputable def Xi (P:aao):List Obj:=Ty P++[t0,n0,cn "<module>" "<module>" 319 1 34 318 322,fr 36 3 Tr]
def Xj(w:World)(os:abV):SharedT:=⟨treeOf 12 (Xi w.params),38,{},#[],{},324,os⟩
@[irreducible]noncomputable def Xl (P:aao):List Obj:=Xi P
def Xm(w:World)(os:abV):SharedT:=⟨treeOf 12 (Xl w.params),38,{},#[],{},324,os⟩
@[irreducible]noncomputable def Oo (P:aao):List Obj:=((Xl P).set 3 (dL (mE P vS (GO P)) 21)).set 35 (nF (w3 3 0 43<|w3 7 0 50<|w3 20 0 57<|w3 38 0 64<|w3 49 0 71<|w3 59 0 78<|w3 66 0 102<|w3 68 0 115<|[]))++(t0::n0::nS 327 ["k"]::t0::fb (tS 2) "_wall" "_wall"::co "_wall" "_wall" 324 3 1 0 0 3 38 328::fn (tS 2) "_wall" "_wall" 3 Tr 43::t0::n0::nS 336 ["addr","pos","escape","ch"]::t0::fb (tS 4) "_iter_escaped_chars" "_iter_escaped_chars"::co "_iter_escaped_chars" "_iter_escaped_chars" 333 7 1 0 0 35 45 340::Ts P::t0::n0::nS 346 ["addr","start","open_pos","result","pos","ch"]::t0::fb (tS 5) "_strip_quoted_realnames" "_strip_quoted_realnames"::co "_strip_quoted_realnames" "_strip_quoted_realnames" 343 20 1 0 0 3 52 352::Tt P::t0::n0::nS 358 ["addr","opens","pos","ch"]::t0::fb (tS 6) "_check_parenthesis" "_check_parenthesis"::co "_check_parenthesis" "_check_parenthesis" 355 38 1 0 0 3 59 362::Tu P::t0::n0::nS 368 ["email_header_fields","accepted_values","v"]::t0::fb (tS 7) "_pre_parse_validation" "_pre_parse_validation"::co "_pre_parse_validation" "_pre_parse_validation" 365 49 1 0 0 3 66 371::Tv P::t0::tp::di #[e P "__module__" 389 (.str "cpy313.graphlib" 374),e P "__qualname__" 391 (.str "_NodeInfo" 390),e P "__firstlineno__" 393 (.int 59 392),er P "__slots__" 397 80,er P "__init__" 405 87,er P "__static_attributes__" 409 88] 6::t0::nt (.fields #[.int 62 0,.int 4 0,.ref 86])::cn "_NodeInfo" "_NodeInfo" 384 59 76 318 387::fr 78 75 vS::nS 394 ["node","npredecessors","successors"]::t0::n0::nS 401 ["self","node"]::t0::fb (cS 11 1) "__init__" "_NodeInfo.__init__"::co "__init__" "_NodeInfo.__init__" 398 62 2 0 0 3 81 403::Tw P::nS 406 ["node","npredecessors","successors"]::ty "list" (.seq #[.str "node" 394,.str "npredecessors" 395,.str "successors" 396] 1)::di #[e P "__module__" 389 (.str "cpy313.graphlib" 374),e P "__firstlineno__" 393 (.int 59 392),er P "__slots__" 397 80,er P "__init__" 405 87,er P "__static_attributes__" 409 88,er P "node" 411 92,er P "npredecessors" 413 93,er P "successors" 415 94,e P "__doc__" 416 .none] 5::cO "_NodeInfo" [.type "object"] [.ref 91,.type "object"] 90 false ["node","npredecessors","successors"] [] none 382 390 (.builtin "object.__new__") false::ty "member_descriptor" (.fields #[.str "node" 410,.ref 91,.builtin "proto.slot",.builtin "proto.slot#set",.int 2 0])::ty "member_descriptor" (.fields #[.str "npredecessors" 412,.ref 91,.builtin "proto.slot",.builtin "proto.slot#set",.int 1 0])::ty "member_descriptor" (.fields #[.str "successors" 414,.ref 91,.builtin "proto.slot",.builtin "proto.slot#set",.int 0 0])::su 91::ty "builtin_function_or_method" (.fields #[.builtin "object.__init_subclass__",.ref 91])::oT [.type "ValueError"] 0::tp::di #[e P "__module__" 426 (.str "cpy313.graphlib" 374),e P "__qualname__" 428 (.str "CycleError" 427),e P "__firstlineno__" 430 (.int 66 429),er P "__static_attributes__" 431 104] 4::t0::n0::cn "CycleError" "CycleError" 421 66 100 318 424::fr 102 99 vS::t0::Oj P::Ol P::ty "getset_descriptor" (.fields #[.str "__weakref__" 432,.ref 106,.builtin "ExceptionGroup.__weakref__",.none])::su 106::ty "builtin_function_or_method" (.fields #[.builtin "object.__init_subclass__",.ref 106])::t0::tp::dL (e P "__module__" 444 (.str "cpy313.graphlib" 374)::e P "__qualname__" 446 (.str "TopologicalSorter" 445)::e P "__firstlineno__" 448 (.int 68 447)::er P "__init__" 458 124::er P "_get_nodeinfo" 467 131::er P "add" 479 138::er P "prepare" 485 143::er P "get_ready" 495 150::er P "is_active" 502 157::er P "__bool__" 509 164::er P "done" 523 171::er P "_find_cycle" 536 178::er P "static_order" 543 185::er P "__static_attributes__" 548 186::[]) 14::t0::nF (w3 70 4 123<|w3 79 4 130<|w3 84 4 137<|w3 93 4 142<|w3 101 4 149<|w3 112 4 156<|w3 117 4 163<|w3 120 4 170<|w3 143 4 177<|w3 172 4 184<|[])::cn "TopologicalSorter" "TopologicalSorter" 439 68 113 318 442::fr 115 112 vS::oT [.none] 0::t0::n0::nS 452 ["self","graph","node","predecessors"]::t0::fb (cS 13 0) "__init__" "TopologicalSorter.__init__"::co "__init__" "TopologicalSorter.__init__" 449 70 2 0 0 3 118 456::HW P::t0::n0::nS 462 ["self","node","result"]::t0::fb (cS 13 1) "_get_nodeinfo" "TopologicalSorter._get_nodeinfo"::co "_get_nodeinfo" "TopologicalSorter._get_nodeinfo" 459 79 2 0 0 3 125 465::HX P::t0::n0::nS 471 ["self","node","predecessors","nodeinfo","pred","pred_info"]::t0::fb (cS 13 2) "add" "TopologicalSorter.add"::co "add" "TopologicalSorter.add" 468 84 2 0 0 7 132 477::HY P::t0::n0::fb (cS 13 3) "prepare" "TopologicalSorter.prepare"::cp "prepare" "TopologicalSorter.prepare" 480 93 1 3 139 483::HZ P::t0::n0::nS 489 ["self","result","n2i","node"]::t0::fb (cS 13 4) "get_ready" "TopologicalSorter.get_ready"::co "get_ready" "TopologicalSorter.get_ready" 486 101 1 0 0 3 144 493::H2 P::t0::n0::nS 499 ["self"]::t0::fb (cS 13 5) "is_active" "TopologicalSorter.is_active"::co "is_active" "TopologicalSorter.is_active" 496 112 1 0 0 3 151 500::H3 P::t0::n0::nS 506 ["self"]::t0::fb (cS 13 6) "__bool__" "TopologicalSorter.__bool__"::co "__bool__" "TopologicalSorter.__bool__" 503 117 1 0 0 3 158 507::fn (cS 13 6) "__bool__" "TopologicalSorter.__bool__" 3 vS 163::t0::n0::nS 513 ["self","nodes","n2i","node","nodeinfo","stat","successor","successor_info"]::t0::fb (cS 13 7) "done" "TopologicalSorter.done"::co "done" "TopologicalSorter.done" 510 120 1 0 0 7 165 521::H4 P::t0::n0::nS 527 ["self","n2i","stack","itstack","seen","node2stacki","node"]::t0::fb (cS 13 8) "_find_cycle" "TopologicalSorter._find_cycle"::co "_find_cycle" "TopologicalSorter._find_cycle" 524 143 1 0 0 3 172 534::H6 P::t0::n0::nS 540 ["self"]::t0::fb (cS 13 9) "static_order" "TopologicalSorter.static_order"::co "static_order" "TopologicalSorter.static_order" 537 172 1 0 0 3 179 541::fn (cS 13 9) "static_order" "TopologicalSorter.static_order" 3 vS 184::nS 544 ["_nfinished","_node2info","_npassedout","_ready_nodes"]::dL (e P "__module__" 444 (.str "cpy313.graphlib" 374)::e P "__firstlineno__" 448 (.int 68 447)::er P "__init__" 458 124::er P "_get_nodeinfo" 467 131::er P "add" 479 138::er P "prepare" 485 143::er P "get_ready" 495 150::er P "is_active" 502 157::er P "__bool__" 509 164::er P "done" 523 171::er P "_find_cycle" 536 178::er P "static_order" 543 185::er P "__static_attributes__" 548 186::er P "__dict__" 550 189::er P "__weakref__" 552 190::e P "__doc__" 553 .none::[]) 4::cO "TopologicalSorter" [.type "object"] [.ref 188,.type "object"] 187 true [] [] none 437 445 (.builtin "object.__new__") true::ty "getset_descriptor" (.fields #[.str "__dict__" 549,.ref 188,.builtin "function.__dict__",.builtin "function.__dict__#set"])::ty "getset_descriptor" (.fields #[.str "__weakref__" 551,.ref 188,.builtin "ExceptionGroup.__weakref__",.none])::su 188::ty "builtin_function_or_method" (.fields #[.builtin "object.__init_subclass__",.ref 188])::[])
def Op(w:World)(os:abV):SharedT:=⟨treeOf 12 (Oo w.params),193,{},#[],{},556,os⟩
@[irreducible]noncomputable def Oq (P:aao):List Obj:=(((Oo P).set 2 (nt (.dict (acg (e P "\x69mport.loaded._sre" 183 (.bool true)::er P "class._frozen_importlib.BuiltinImporter" 185 14::er P "watched.\x69mport" 206 18::er P "class._frozen_importlib.ModuleSpec" 216 22::e P "sys.modules.booked-epoch" 245 (.int 4 0)::e P "\x69mport.later-laid._sre" 270 (.bool true)::er P "watched.library" 272 27::e P "watched.library-objects" 0 (.str ⟨#[12,30]⟩ 0)::e P "watched.library-deep._sre" 273 (.str ⟨(acg (4::0::0::11::4::0::0::11::4::0::0::3::4::0::0::11::8::sx "dict" (2::[])))⟩ 0)::e P "\x69mport.loaded._collections" 280 (.bool true)::e P "sys.modules.landed._collections" 294 (.bool true)::e P "\x69mport.later-laid._collections" 309 (.bool true)::e P "watched.library-deep._collections" 311 (.str ⟨(acg (4::0::0::29::4::0::0::29::4::0::0::3::4::0::0::29::8::sx "dict" (2::[])))⟩ 0)::e P "type.__subclasses__.OSError.0" 632 (.int 221 0)::e P "type.__subclasses__.OSError.n" 633 (.int 1 0)::[])) 15))).set 3 (dL (mE P c7 (GQ P)) 28)).set 35 (nF (w3 3 0 43<|w3 7 0 50<|w3 20 0 57<|w3 38 0 64<|w3 49 0 71<|w3 59 0 78<|w3 66 0 102<|w3 68 0 115<|w3 176 0 203<|w3 181 0 210<|w3 188 0 217<|w3 190 0 230<|w3 197 0 252<|w3 199 0 264<|[]))++(ty "list" (.seq (acg (.int 14 559::.int 17 560::.int 4 561::.int 1 562::.int 1 563::.int 21 564::.int 9 565::.int 0 566::.int 604043296 567::.int 1 568::.int 0 569::.int 0 570::.int 0 571::.int 0 572::.int 0 573::.int 8 574::.int 4 575::.int 0 576::.int 13 577::.int 14 578::.int 21 579::.int 9 580::.int 0 581::.int 604043296 582::.int 1 583::.int 0 584::.int 0 585::.int 0 586::.int 0 587::.int 0 588::.int 8 589::.int 4 590::.int 0 591::.int 1 592::[])) 0)::di #[] 0::oT [.none] 0::oT (.int 14 0::.int 17 0::.int 4 0::.int 1 0::.int 1 0::.int 21 0::.int 9 0::.int 0 0::.int 604043296 0::.int 1 0::.int 0 0::.int 0 0::.int 0 0::.int 0 0::.int 0 0::.int 8 0::.int 4 0::.int 0 0::.int 13 0::.int 14 0::.int 21 0::.int 9 0::.int 0 0::.int 604043296 0::.int 1 0::.int 0 0::.int 0 0::.int 0 0::.int 0 0::.int 0 0::.int 8 0::.int 4 0::.int 0 0::.int 1 0::[]) 0::⟨.type "re.Pattern",none,.fields #[.str "[^\\w@%+=:,./-]" 557,.int 256 594,.int 0 0,.none,.none,.ref 196,.int 0 0],#[]⟩::t0::n0::nS 601 ["n","what"]::t0::fb (tS 16) "_whence" "_whence"::co "_whence" "_whence" 598 176 2 0 0 3 198 603::fn (tS 16) "_whence" "_whence" 3 c7 203::t0::n0::nS 609 ["n","what"]::t0::fb (tS 17) "_index" "_index"::co "_index" "_index" 606 181 2 0 0 3 205 611::H7 P::oT [.type "OSError",.type "ValueError"] 0::tp::di #[e P "__module__" 621 (.str "io" 626),e P "__qualname__" 623 (.str "UnsupportedOperation" 622),e P "__firstlineno__" 625 (.int 188 624),er P "__static_attributes__" 628 219] 4::t0::n0::cn "UnsupportedOperation" "UnsupportedOperation" 616 188 215 318 619::fr 217 214 c7::t0::di #[e P "__module__" 621 (.str "io" 626),e P "__firstlineno__" 625 (.int 188 624),er P "__static_attributes__" 628 219,er P "__weakref__" 630 222,e P "__doc__" 631 .none] 3::cO "UnsupportedOperation" [.type "OSError",.type "ValueError"] [.ref 221,.type "OSError",.type "ValueError",.type "Exception",.type "BaseException",.type "object"] 220 true [] [] (some (.ref 212)) 614 622 (.builtin "OSError.__new__") true::ty "getset_descriptor" (.fields #[.str "__weakref__" 629,.ref 221,.builtin "ExceptionGroup.__weakref__",.none])::su 221::ty "builtin_function_or_method" (.fields #[.builtin "object.__init_subclass__",.ref 221])::t0::tp::di #[e P "__module__" 643 (.str "io" 648),e P "__qualname__" 645 (.str "IOBase" 644),e P "__firstlineno__" 647 (.int 190 646),er P "__new__" 658 238,er P "__static_attributes__" 659 239] 5::t0::nt (.fields #[.int 193 0,.int 4 0,.ref 237])::cn "IOBase" "IOBase" 638 190 228 318 641::fr 230 227 c7::t0::n0::nS 653 ["cls","args","kwargs"]::t0::fb (cS 19 1) "__new__" "IOBase.__new__"::co "__new__" "IOBase.__new__" 650 193 1 1 0 15 232 656::H8 P::t0::di #[e P "__module__" 643 (.str "io" 648),e P "__firstlineno__" 647 (.int 190 646),er P "__new__" 658 242,er P "__static_attributes__" 659 239,er P "__dict__" 662 243,er P "__weakref__" 664 244,e P "__doc__" 665 .none] 4::cO "IOBase" [.type "object"] [.ref 241,.type "object"] 240 true [] [.ref 256,.ref 268] none 636 644 .none true::ty "staticmethod" (.fields #[.ref 238])::ty "getset_descriptor" (.fields #[.str "__dict__" 661,.ref 241,.builtin "function.__dict__",.builtin "function.__dict__#set"])::ty "getset_descriptor" (.fields #[.str "__weakref__" 663,.ref 241,.builtin "ExceptionGroup.__weakref__",.none])::su 241::ty "builtin_function_or_method" (.fields #[.builtin "object.__init_subclass__",.ref 241])::oT [.ref 241] 0::tp::di #[e P "__module__" 675 (.str "io" 680),e P "__qualname__" 677 (.str "BufferedIOBase" 676),e P "__firstlineno__" 679 (.int 197 678),er P "__static_attributes__" 682 254] 4::t0::n0::cn "BufferedIOBase" "BufferedIOBase" 670 197 250 318 673::fr 252 249 c7::t0::di #[e P "__module__" 675 (.str "io" 680),e P "__firstlineno__" 679 (.int 197 678),er P "__static_attributes__" 682 254,e P "__doc__" 683 .none] 2::cO "BufferedIOBase" [.ref 241] [.ref 256,.ref 241,.type "object"] 255 true [] [] (some (.ref 247)) 668 676 .none true::su 256::ty "builtin_function_or_method" (.fields #[.builtin "object.__init_subclass__",.ref 256])::oT [.ref 241] 0::tp::di #[e P "__module__" 693 (.str "io" 698),e P "__qualname__" 695 (.str "TextIOBase" 694),e P "__firstlineno__" 697 (.int 199 696),er P "__static_attributes__" 700 266] 4::t0::n0::cn "TextIOBase" "TextIOBase" 688 199 262 318 691::fr 264 261 c7::t0::di #[e P "__module__" 693 (.str "io" 698),e P "__firstlineno__" 697 (.int 199 696),er P "__static_attributes__" 700 266,e P "__doc__" 701 .none] 2::cO "TextIOBase" [.ref 241] [.ref 268,.ref 241,.type "object"] 267 true [] [] (some (.ref 259)) 686 694 .none true::su 268::ty "builtin_function_or_method" (.fields #[.builtin "object.__init_subclass__",.ref 268])::[])
def Os(w:World)(os:abV):SharedT:=⟨treeOf 12 (Oq w.params),271,{},#[],{},704,os⟩
@[irreducible]noncomputable def Ot (P:aao):List Obj:=(((Oq P).set 3 (dL (mE P c7 (GR P)) 29)).set 35 (nF (w3 3 0 43<|w3 7 0 50<|w3 20 0 57<|w3 38 0 64<|w3 49 0 71<|w3 59 0 78<|w3 66 0 102<|w3 68 0 115<|w3 176 0 203<|w3 181 0 210<|w3 188 0 217<|w3 190 0 230<|w3 197 0 252<|w3 199 0 264<|w3 201 0 276<|[]))).set 256 (cO "BufferedIOBase" [.ref 241] [.ref 256,.ref 241,.type "object"] 255 true [] [.ref 498] (some (.ref 247)) 668 676 .none true)++(oT [.ref 256] 0::tp::dL (e P "__module__" 711 (.str "_io" 716)::e P "__qualname__" 713 (.str "BytesIO" 712)::e P "__firstlineno__" 715 (.int 201 714)::er P "__init__" 725 285::er P "_BytesIO__check" 732 292::er P "_BytesIO__line" 743 299::er P "closed" 751 307::er P "close" 758 314::er P "__enter__" 765 321::er P "__exit__" 773 328::er P "readable" 780 335::er P "writable" 787 342::er P "seekable" 794 349::er P "isatty" 801 356::er P "flush" 808 363::er P "fileno" 815 370::er P "detach" 822 377::er P "getvalue" 829 384::er P "getbuffer" 836 391::er P "tell" 843 398::er P "seek" 853 406::er P "truncate" 861 414::er P "read" 873 422::er P "read1" 883 430::er P "readinto" 893 437::er P "readinto1" 901 444::er P "readline" 911 452::er P "readlines" 919 460::er P "__iter__" 926 467::er P "__next__" 934 474::er P "write" 944 481::er P "writelines" 952 488::er P "__repr__" 959 495::er P "__static_attributes__" 962 496::[]) 34::t0::nF (w3 204 4 284<|w3 210 4 291<|w3 214 4 298<|w3 228 4 305<|w3 231 4 313<|w3 234 4 320<|w3 238 4 327<|w3 241 4 334<|w3 245 4 341<|w3 249 4 348<|w3 253 4 355<|w3 257 4 362<|w3 260 4 369<|w3 263 4 376<|w3 266 4 383<|w3 269 4 390<|w3 272 4 397<|w3 276 4 405<|w3 293 4 413<|w3 296 4 421<|w3 310 4 429<|w3 313 4 436<|w3 327 4 443<|w3 330 4 451<|w3 337 4 459<|w3 340 4 466<|w3 343 4 473<|w3 350 4 480<|w3 366 4 487<|w3 369 4 494<|[])::cn "BytesIO" "BytesIO" 706 201 274 318 709::fr 276 273 c7::oT [.none] 0::t0::n0::nS 721 ["self","initial_bytes"]::t0::fb (cS 22 1) "__init__" "BytesIO.__init__"::co "__init__" "BytesIO.__init__" 718 204 2 0 0 3 279 723::fo (cS 22 1) "__init__" "BytesIO.__init__" 3 (.ref 278) .none .none c7 none 284 .none::t0::n0::nS 729 ["self"]::t0::fb (cS 22 2) "__check" "BytesIO.__check"::co "__check" "BytesIO.__check" 726 210 1 0 0 3 286 730::fn (cS 22 2) "__check" "BytesIO.__check" 3 c7 291::t0::n0::nS 736 ["self","limit","start","stop","i"]::t0::fb (cS 22 3) "__line" "BytesIO.__line"::co "__line" "BytesIO.__line" 733 214 2 0 0 3 293 741::fn (cS 22 3) "__line" "BytesIO.__line" 3 c7 298::t0::n0::nS 747 ["self"]::t0::fb (cS 22 4) "closed" "BytesIO.closed"::co "closed" "BytesIO.closed" 744 227 1 0 0 3 300 748::fn (cS 22 4) "closed" "BytesIO.closed" 3 c7 305::ty "property" (.fields #[.ref 306,.none,.none,.none,.str "closed" 751,.bool false])::t0::n0::nS 755 ["self"]::t0::fb (cS 22 5) "close" "BytesIO.close"::co "close" "BytesIO.close" 752 231 1 0 0 3 308 756::fn (cS 22 5) "close" "BytesIO.close" 3 c7 313::t0::n0::nS 762 ["self"]::t0::fb (cS 22 6) "__enter__" "BytesIO.__enter__"::co "__enter__" "BytesIO.__enter__" 759 234 1 0 0 3 315 763::fn (cS 22 6) "__enter__" "BytesIO.__enter__" 3 c7 320::t0::n0::nS 769 ["self","args"]::t0::fb (cS 22 7) "__exit__" "BytesIO.__exit__"::co "__exit__" "BytesIO.__exit__" 766 238 1 0 0 7 322 771::fn (cS 22 7) "__exit__" "BytesIO.__exit__" 3 c7 327::t0::n0::nS 777 ["self"]::t0::fb (cS 22 8) "readable" "BytesIO.readable"::co "readable" "BytesIO.readable" 774 241 1 0 0 3 329 778::fn (cS 22 8) "readable" "BytesIO.readable" 3 c7 334::t0::n0::nS 784 ["self"]::t0::fb (cS 22 9) "writable" "BytesIO.writable"::co "writable" "BytesIO.writable" 781 245 1 0 0 3 336 785::fn (cS 22 9) "writable" "BytesIO.writable" 3 c7 341::t0::n0::nS 791 ["self"]::t0::fb (cS 22 10) "seekable" "BytesIO.seekable"::co "seekable" "BytesIO.seekable" 788 249 1 0 0 3 343 792::fn (cS 22 10) "seekable" "BytesIO.seekable" 3 c7 348::t0::n0::nS 798 ["self"]::t0::fb (cS 22 11) "isatty" "BytesIO.isatty"::co "isatty" "BytesIO.isatty" 795 253 1 0 0 3 350 799::fn (cS 22 11) "isatty" "BytesIO.isatty" 3 c7 355::t0::n0::nS 805 ["self"]::t0::fb (cS 22 12) "flush" "BytesIO.flush"::co "flush" "BytesIO.flush" 802 257 1 0 0 3 357 806::fn (cS 22 12) "flush" "BytesIO.flush" 3 c7 362::t0::n0::nS 812 ["self"]::t0::fb (cS 22 13) "fileno" "BytesIO.fileno"::co "fileno" "BytesIO.fileno" 809 260 1 0 0 3 364 813::fn (cS 22 13) "fileno" "BytesIO.fileno" 3 c7 369::t0::n0::nS 819 ["self"]::t0::fb (cS 22 14) "detach" "BytesIO.detach"::co "detach" "BytesIO.detach" 816 263 1 0 0 3 371 820::fn (cS 22 14) "detach" "BytesIO.detach" 3 c7 376::t0::n0::nS 826 ["self"]::t0::fb (cS 22 15) "getvalue" "BytesIO.getvalue"::co "getvalue" "BytesIO.getvalue" 823 266 1 0 0 3 378 827::fn (cS 22 15) "getvalue" "BytesIO.getvalue" 3 c7 383::t0::n0::nS 833 ["self"]::t0::fb (cS 22 16) "getbuffer" "BytesIO.getbuffer"::co "getbuffer" "BytesIO.getbuffer" 830 269 1 0 0 3 385 834::fn (cS 22 16) "getbuffer" "BytesIO.getbuffer" 3 c7 390::t0::n0::nS 840 ["self"]::t0::fb (cS 22 17) "tell" "BytesIO.tell"::co "tell" "BytesIO.tell" 837 272 1 0 0 3 392 841::fn (cS 22 17) "tell" "BytesIO.tell" 3 c7 397::oT [.int 0 844] 0::t0::n0::nS 848 ["self","pos","whence"]::t0::fb (cS 22 18) "seek" "BytesIO.seek"::co "seek" "BytesIO.seek" 845 276 3 3 0 3 400 851::fo (cS 22 18) "seek" "BytesIO.seek" 3 (.ref 399) .none .none c7 none 405 .none::oT [.none] 0::t0::n0::nS 857 ["self","size"]::t0::fb (cS 22 19) "truncate" "BytesIO.truncate"::co "truncate" "BytesIO.truncate" 854 293 2 2 0 3 408 859::fo (cS 22 19) "truncate" "BytesIO.truncate" 3 (.ref 407) .none .none c7 none 413 .none::oT [.int (-1) 863] 0::t0::n0::nS 867 ["self","size","start","stop"]::t0::fb (cS 22 20) "read" "BytesIO.read"::co "read" "BytesIO.read" 864 296 2 2 0 3 416 871::fo (cS 22 20) "read" "BytesIO.read" 3 (.ref 415) .none .none c7 none 421 .none::oT [.int (-1) 875] 0::t0::n0::nS 879 ["self","size"]::t0::fb (cS 22 21) "read1" "BytesIO.read1"::co "read1" "BytesIO.read1" 876 310 2 2 0 3 424 881::fo (cS 22 21) "read1" "BytesIO.read1" 3 (.ref 423) .none .none c7 none 429 .none::t0::n0::nS 887 ["self","buffer","start","n"]::t0::fb (cS 22 22) "readinto" "BytesIO.readinto"::co "readinto" "BytesIO.readinto" 884 313 2 2 0 3 431 891::fn (cS 22 22) "readinto" "BytesIO.readinto" 3 c7 436::t0::n0::nS 897 ["self","buffer"]::t0::fb (cS 22 23) "readinto1" "BytesIO.readinto1"::co "readinto1" "BytesIO.readinto1" 894 327 2 2 0 3 438 899::fn (cS 22 23) "readinto1" "BytesIO.readinto1" 3 c7 443::oT [.int (-1) 903] 0::t0::n0::nS 907 ["self","size"]::t0::fb (cS 22 24) "readline" "BytesIO.readline"::co "readline" "BytesIO.readline" 904 330 2 2 0 3 446 909::fo (cS 22 24) "readline" "BytesIO.readline" 3 (.ref 445) .none .none c7 none 451 .none::oT [.none] 0::t0::n0::nS 915 ["self","size"]::t0::fb (cS 22 25) "readlines" "BytesIO.readlines"::co "readlines" "BytesIO.readlines" 912 337 2 2 0 3 454 917::fo (cS 22 25) "readlines" "BytesIO.readlines" 3 (.ref 453) .none .none c7 none 459 .none::t0::n0::nS 923 ["self"]::t0::fb (cS 22 26) "__iter__" "BytesIO.__iter__"::co "__iter__" "BytesIO.__iter__" 920 340 1 0 0 3 461 924::fn (cS 22 26) "__iter__" "BytesIO.__iter__" 3 c7 466::t0::n0::nS 930 ["self","line"]::t0::fb (cS 22 27) "__next__" "BytesIO.__next__"::co "__next__" "BytesIO.__next__" 927 343 1 0 0 3 468 932::fn (cS 22 27) "__next__" "BytesIO.__next__" 3 c7 473::t0::n0::nS 938 ["self","b","n","start"]::t0::fb (cS 22 28) "write" "BytesIO.write"::co "write" "BytesIO.write" 935 350 2 2 0 3 475 942::fn (cS 22 28) "write" "BytesIO.write" 3 c7 480::t0::n0::nS 948 ["self","lines"]::t0::fb (cS 22 29) "writelines" "BytesIO.writelines"::co "writelines" "BytesIO.writelines" 945 366 2 2 0 3 482 950::fn (cS 22 29) "writelines" "BytesIO.writelines" 3 c7 487::t0::n0::nS 956 ["self"]::t0::fb (cS 22 30) "__repr__" "BytesIO.__repr__"::co "__repr__" "BytesIO.__repr__" 953 369 1 0 0 3 489 957::fn (cS 22 30) "__repr__" "BytesIO.__repr__" 3 c7 494::nS 960 ["__buf","__pos"]::dL (e P "__module__" 711 (.str "_io" 716)::e P "__firstlineno__" 715 (.int 201 714)::er P "__init__" 725 285::er P "_BytesIO__check" 732 292::er P "_BytesIO__line" 743 299::er P "closed" 751 307::er P "close" 758 314::er P "__enter__" 765 321::er P "__exit__" 773 328::er P "readable" 780 335::er P "writable" 787 342::er P "seekable" 794 349::er P "isatty" 801 356::er P "flush" 808 363::er P "fileno" 815 370::er P "detach" 822 377::er P "getvalue" 829 384::er P "getbuffer" 836 391::er P "tell" 843 398::er P "seek" 853 406::er P "truncate" 861 414::er P "read" 873 422::er P "read1" 883 430::er P "readinto" 893 437::er P "readinto1" 901 444::er P "readline" 911 452::er P "readlines" 919 460::er P "__iter__" 926 467::er P "__next__" 934 474::er P "write" 944 481::er P "writelines" 952 488::er P "__repr__" 959 495::er P "__static_attributes__" 962 496::e P "__doc__" 963 .none::[]) 2::Om P::su 498::ty "builtin_function_or_method" (.fields #[.builtin "object.__init_subclass__",.ref 498])::[])
def Ou(w:World)(os:abV):SharedT:=⟨treeOf 12 (Ot w.params),501,{},#[],{},966,os⟩
@[irreducible]noncomputable def Ov (P:aao):List Obj:=(((Ot P).set 3 (dL (mE P c7 (GS P)) 30)).set 35 (nF (w3 3 0 43<|w3 7 0 50<|w3 20 0 57<|w3 38 0 64<|w3 49 0 71<|w3 59 0 78<|w3 66 0 102<|w3 68 0 115<|w3 176 0 203<|w3 181 0 210<|w3 188 0 217<|w3 190 0 230<|w3 197 0 252<|w3 199 0 264<|w3 201 0 276<|w3 371 0 506<|[]))).set 268 (cO "TextIOBase" [.ref 241] [.ref 268,.ref 241,.type "object"] 267 true [] [.ref 745] (some (.ref 259)) 686 694 .none true)++(oT [.ref 268] 0::tp::dL (e P "__module__" 973 (.str "_io" 978)::e P "__qualname__" 975 (.str "StringIO" 974)::e P "__firstlineno__" 977 (.int 371 976)::er P "__init__" 990 515::er P "_StringIO__translated" 999 522::er P "_StringIO__check" 1006 529::er P "_StringIO__check_dot" 1013 536::er P "_StringIO__line" 1028 543::er P "closed" 1036 551::er P "line_buffering" 1044 559::er P "newlines" 1052 567::er P "encoding" 1060 575::er P "errors" 1068 583::er P "close" 1075 590::er P "__enter__" 1082 597::er P "__exit__" 1090 604::er P "readable" 1097 611::er P "writable" 1104 618::er P "seekable" 1111 625::er P "isatty" 1118 632::er P "flush" 1125 639::er P "fileno" 1132 646::er P "detach" 1139 653::er P "getvalue" 1146 660::er P "tell" 1153 667::er P "seek" 1163 675::er P "truncate" 1171 683::er P "read" 1183 691::er P "readline" 1193 699::er P "readlines" 1203 707::er P "__iter__" 1210 714::er P "__next__" 1218 721::er P "write" 1230 728::er P "writelines" 1238 735::er P "__repr__" 1245 742::er P "__static_attributes__" 1249 743::[]) 36::t0::nF (w3 374 4 514<|w3 387 4 521<|w3 395 4 528<|w3 399 4 535<|w3 403 4 542<|w3 436 4 549<|w3 440 4 557<|w3 444 4 565<|w3 448 4 573<|w3 452 4 581<|w3 455 4 589<|w3 458 4 596<|w3 462 4 603<|w3 465 4 610<|w3 469 4 617<|w3 473 4 624<|w3 477 4 631<|w3 481 4 638<|w3 484 4 645<|w3 487 4 652<|w3 490 4 659<|w3 493 4 666<|w3 497 4 674<|w3 514 4 682<|w3 517 4 690<|w3 531 4 698<|w3 538 4 706<|w3 541 4 713<|w3 545 4 720<|w3 552 4 727<|w3 571 4 734<|w3 574 4 741<|[])::cn "StringIO" "StringIO" 968 371 504 318 971::fr 506 503 c7::oT [.str "" 980,.str ⟨#[10]⟩ 981] 0::t0::n0::nS 985 ["self","initial_value","newline"]::t0::fb (cS 23 1) "__init__" "StringIO.__init__"::co "__init__" "StringIO.__init__" 982 374 3 0 0 3 509 988::H9 P::t0::n0::nS 994 ["self","s","newline"]::t0::fb (cS 23 2) "__translated" "StringIO.__translated"::co "__translated" "StringIO.__translated" 991 387 2 0 0 3 516 997::H_ P::t0::n0::nS 1003 ["self"]::t0::fb (cS 23 3) "__check" "StringIO.__check"::co "__check" "StringIO.__check" 1000 395 1 0 0 3 523 1004::Ia P::t0::n0::nS 1010 ["self"]::t0::fb (cS 23 4) "__check_dot" "StringIO.__check_dot"::co "__check_dot" "StringIO.__check_dot" 1007 399 1 0 0 3 530 1011::fn (cS 23 4) "__check_dot" "StringIO.__check_dot" 3 c7 535::t0::n0::nS 1017 ["self","limit","start","stop","cut","newline","i","j","end"]::t0::fb (cS 23 5) "__line" "StringIO.__line"::co "__line" "StringIO.__line" 1014 403 2 0 0 3 537 1026::fn (cS 23 5) "__line" "StringIO.__line" 3 c7 542::t0::n0::nS 1032 ["self"]::t0::fb (cS 23 6) "closed" "StringIO.closed"::co "closed" "StringIO.closed" 1029 435 1 0 0 3 544 1033::fn (cS 23 6) "closed" "StringIO.closed" 3 c7 549::ty "property" (.fields #[.ref 550,.none,.none,.none,.str "closed" 1036,.bool false])::t0::n0::nS 1040 ["self"]::t0::fb (cS 23 7) "line_buffering" "StringIO.line_buffering"::co "line_buffering" "StringIO.line_buffering" 1037 439 1 0 0 3 552 1041::fn (cS 23 7) "line_buffering" "StringIO.line_buffering" 3 c7 557::ty "property" (.fields #[.ref 558,.none,.none,.none,.str "line_buffering" 1044,.bool false])::t0::n0::nS 1048 ["self"]::t0::fb (cS 23 8) "newlines" "StringIO.newlines"::co "newlines" "StringIO.newlines" 1045 443 1 0 0 3 560 1049::fn (cS 23 8) "newlines" "StringIO.newlines" 3 c7 565::ty "property" (.fields #[.ref 566,.none,.none,.none,.str "newlines" 1052,.bool false])::t0::n0::nS 1056 ["self"]::t0::fb (cS 23 9) "encoding" "StringIO.encoding"::co "encoding" "StringIO.encoding" 1053 447 1 0 0 3 568 1057::fn (cS 23 9) "encoding" "StringIO.encoding" 3 c7 573::ty "property" (.fields #[.ref 574,.none,.none,.none,.str "encoding" 1060,.bool false])::t0::n0::nS 1064 ["self"]::t0::fb (cS 23 10) "errors" "StringIO.errors"::co "errors" "StringIO.errors" 1061 451 1 0 0 3 576 1065::fn (cS 23 10) "errors" "StringIO.errors" 3 c7 581::ty "property" (.fields #[.ref 582,.none,.none,.none,.str "errors" 1068,.bool false])::t0::n0::nS 1072 ["self"]::t0::fb (cS 23 11) "close" "StringIO.close"::co "close" "StringIO.close" 1069 455 1 0 0 3 584 1073::fn (cS 23 11) "close" "StringIO.close" 3 c7 589::t0::n0::nS 1079 ["self"]::t0::fb (cS 23 12) "__enter__" "StringIO.__enter__"::co "__enter__" "StringIO.__enter__" 1076 458 1 0 0 3 591 1080::fn (cS 23 12) "__enter__" "StringIO.__enter__" 3 c7 596::t0::n0::nS 1086 ["self","args"]::t0::fb (cS 23 13) "__exit__" "StringIO.__exit__"::co "__exit__" "StringIO.__exit__" 1083 462 1 0 0 7 598 1088::fn (cS 23 13) "__exit__" "StringIO.__exit__" 3 c7 603::t0::n0::nS 1094 ["self"]::t0::fb (cS 23 14) "readable" "StringIO.readable"::co "readable" "StringIO.readable" 1091 465 1 0 0 3 605 1095::fn (cS 23 14) "readable" "StringIO.readable" 3 c7 610::t0::n0::nS 1101 ["self"]::t0::fb (cS 23 15) "writable" "StringIO.writable"::co "writable" "StringIO.writable" 1098 469 1 0 0 3 612 1102::fn (cS 23 15) "writable" "StringIO.writable" 3 c7 617::t0::n0::nS 1108 ["self"]::t0::fb (cS 23 16) "seekable" "StringIO.seekable"::co "seekable" "StringIO.seekable" 1105 473 1 0 0 3 619 1109::fn (cS 23 16) "seekable" "StringIO.seekable" 3 c7 624::t0::n0::nS 1115 ["self"]::t0::fb (cS 23 17) "isatty" "StringIO.isatty"::co "isatty" "StringIO.isatty" 1112 477 1 0 0 3 626 1116::fn (cS 23 17) "isatty" "StringIO.isatty" 3 c7 631::t0::n0::nS 1122 ["self"]::t0::fb (cS 23 18) "flush" "StringIO.flush"::co "flush" "StringIO.flush" 1119 481 1 0 0 3 633 1123::fn (cS 23 18) "flush" "StringIO.flush" 3 c7 638::t0::n0::nS 1129 ["self"]::t0::fb (cS 23 19) "fileno" "StringIO.fileno"::co "fileno" "StringIO.fileno" 1126 484 1 0 0 3 640 1130::fn (cS 23 19) "fileno" "StringIO.fileno" 3 c7 645::t0::n0::nS 1136 ["self"]::t0::fb (cS 23 20) "detach" "StringIO.detach"::co "detach" "StringIO.detach" 1133 487 1 0 0 3 647 1137::fn (cS 23 20) "detach" "StringIO.detach" 3 c7 652::t0::n0::nS 1143 ["self"]::t0::fb (cS 23 21) "getvalue" "StringIO.getvalue"::co "getvalue" "StringIO.getvalue" 1140 490 1 0 0 3 654 1144::fn (cS 23 21) "getvalue" "StringIO.getvalue" 3 c7 659::t0::n0::nS 1150 ["self"]::t0::fb (cS 23 22) "tell" "StringIO.tell"::co "tell" "StringIO.tell" 1147 493 1 0 0 3 661 1151::fn (cS 23 22) "tell" "StringIO.tell" 3 c7 666::oT [.int 0 1154] 0::t0::n0::nS 1158 ["self","pos","whence"]::t0::fb (cS 23 23) "seek" "StringIO.seek"::co "seek" "StringIO.seek" 1155 497 3 3 0 3 669 1161::fo (cS 23 23) "seek" "StringIO.seek" 3 (.ref 668) .none .none c7 none 674 .none::oT [.none] 0::t0::n0::nS 1167 ["self","pos"]::t0::fb (cS 23 24) "truncate" "StringIO.truncate"::co "truncate" "StringIO.truncate" 1164 514 2 2 0 3 677 1169::fo (cS 23 24) "truncate" "StringIO.truncate" 3 (.ref 676) .none .none c7 none 682 .none::oT [.int (-1) 1173] 0::t0::n0::nS 1177 ["self","size","start","stop"]::t0::fb (cS 23 25) "read" "StringIO.read"::co "read" "StringIO.read" 1174 517 2 2 0 3 685 1181::Ib P::oT [.int (-1) 1185] 0::t0::n0::nS 1189 ["self","size"]::t0::fb (cS 23 26) "readline" "StringIO.readline"::co "readline" "StringIO.readline" 1186 531 2 2 0 3 693 1191::fo (cS 23 26) "readline" "StringIO.readline" 3 (.ref 692) .none .none c7 none 698 .none::oT [.int (-1) 1195] 0::t0::n0::nS 1199 ["self","hint"]::t0::fb (cS 23 27) "readlines" "StringIO.readlines"::co "readlines" "StringIO.readlines" 1196 538 2 2 0 3 701 1201::fo (cS 23 27) "readlines" "StringIO.readlines" 3 (.ref 700) .none .none c7 none 706 .none::t0::n0::nS 1207 ["self"]::t0::fb (cS 23 28) "__iter__" "StringIO.__iter__"::co "__iter__" "StringIO.__iter__" 1204 541 1 0 0 3 708 1208::fn (cS 23 28) "__iter__" "StringIO.__iter__" 3 c7 713::t0::n0::nS 1214 ["self","line"]::t0::fb (cS 23 29) "__next__" "StringIO.__next__"::co "__next__" "StringIO.__next__" 1211 545 1 0 0 3 715 1216::fn (cS 23 29) "__next__" "StringIO.__next__" 3 c7 720::t0::n0::nS 1222 ["self","s","n","m","start","buf"]::t0::fb (cS 23 30) "write" "StringIO.write"::co "write" "StringIO.write" 1219 552 2 2 0 3 722 1228::fn (cS 23 30) "write" "StringIO.write" 3 c7 727::t0::n0::nS 1234 ["self","lines"]::t0::fb (cS 23 31) "writelines" "StringIO.writelines"::co "writelines" "StringIO.writelines" 1231 571 2 2 0 3 729 1236::fn (cS 23 31) "writelines" "StringIO.writelines" 3 c7 734::t0::n0::nS 1242 ["self"]::t0::fb (cS 23 32) "__repr__" "StringIO.__repr__"::co "__repr__" "StringIO.__repr__" 1239 574 1 0 0 3 736 1243::fn (cS 23 32) "__repr__" "StringIO.__repr__" 3 c7 741::nS 1246 ["__buf","__newline","__pos"]::dL (e P "__module__" 973 (.str "_io" 978)::e P "__firstlineno__" 977 (.int 371 976)::er P "__init__" 990 515::er P "_StringIO__translated" 999 522::er P "_StringIO__check" 1006 529::er P "_StringIO__check_dot" 1013 536::er P "_StringIO__line" 1028 543::er P "closed" 1036 551::er P "line_buffering" 1044 559::er P "newlines" 1052 567::er P "encoding" 1060 575::er P "errors" 1068 583::er P "close" 1075 590::er P "__enter__" 1082 597::er P "__exit__" 1090 604::er P "readable" 1097 611::er P "writable" 1104 618::er P "seekable" 1111 625::er P "isatty" 1118 632::er P "flush" 1125 639::er P "fileno" 1132 646::er P "detach" 1139 653::er P "getvalue" 1146 660::er P "tell" 1153 667::er P "seek" 1163 675::er P "truncate" 1171 683::er P "read" 1183 691::er P "readline" 1193 699::er P "readlines" 1203 707::er P "__iter__" 1210 714::er P "__next__" 1218 721::er P "write" 1230 728::er P "writelines" 1238 735::er P "__repr__" 1245 742::er P "__static_attributes__" 1249 743::e P "__doc__" 1250 .none::[]) 2::Ic P::su 745::ty "builtin_function_or_method" (.fields #[.builtin "object.__init_subclass__",.ref 745])::[])
def Ow(w:World)(os:abV):SharedT:=⟨treeOf 12 (Ov w.params),748,{},#[],{},1253,os⟩
@[irreducible]noncomputable def Ox (P:aao):List Obj:=((Ov P).set 3 (dL (mE P vL (GT P)) 38)).set 35 (nF (w3 3 0 43<|w3 7 0 50<|w3 20 0 57<|w3 38 0 64<|w3 49 0 71<|w3 59 0 78<|w3 66 0 102<|w3 68 0 115<|w3 176 0 203<|w3 181 0 210<|w3 188 0 217<|w3 190 0 230<|w3 197 0 252<|w3 199 0 264<|w3 201 0 276<|w3 371 0 506<|w3 577 0 753<|w3 598 0 760<|w3 603 0 767<|w3 608 0 774<|w3 611 0 781<|w3 632 0 788<|w3 641 0 795<|[]))++(t0::n0::nS 1258 ["name","x","t"]::t0::fb (tS 25) "_kind" "_kind"::co "_kind" "_kind" 1255 577 2 0 0 3 748 1261::fn (tS 25) "_kind" "_kind" 3 Ly 753::t0::n0::nS 1267 ["name","x","k"]::t0::fb (tS 26) "_fspath" "_fspath"::co "_fspath" "_fspath" 1264 598 2 0 0 3 755 1270::fn (tS 26) "_fspath" "_fspath" 3 Ly 760::t0::n0::nS 1276 ["funcname","args","s","k"]::t0::fb (tS 27) "_check_arg_types" "_check_arg_types"::co "_check_arg_types" "_check_arg_types" 1273 603 1 0 0 7 762 1280::fn (tS 27) "_check_arg_types" "_check_arg_types" 3 Ly 767::t0::n0::nS 1286 ["s"]::t0::fb (tS 28) "isabs" "isabs"::co "isabs" "isabs" 1283 608 1 0 0 3 769 1287::fn (tS 28) "isabs" "isabs" 3 Ly 774::t0::n0::nS 1293 ["a","p","b","sep","path"]::t0::fb (tS 29) "join" "join"::co "join" "join" 1290 611 1 0 0 7 776 1298::fn (tS 29) "join" "join" 3 Ly 781::t0::n0::nS 1305 ["p","sep","i","head"]::t0::fb (tS 31) "dirname" "dirname"::co "dirname" "dirname" 1302 632 1 0 0 3 783 1309::fn (tS 31) "dirname" "dirname" 3 Ly 788::t0::tp::dL (e P "__module__" 1321 (.str "cpy313.shlex" 1312)::e P "__qualname__" 1323 (.str "shlex" 1322)::e P "__firstlineno__" 1325 (.int 641 1324)::er P "__init__" 1337 804::er P "punctuation_chars" 1345 812::er P "push_token" 1353 819::er P "push_source" 1362 827::er P "pop_source" 1369 834::er P "get_token" 1381 841::er P "read_token" 1392 848::er P "sourcehook" 1400 855::er P "error_leader" 1409 863::er P "__iter__" 1416 870::er P "__next__" 1424 877::er P "__static_attributes__" 1445 878::[]) 15::t0::nF (w3 643 4 803<|w3 685 4 810<|w3 688 4 818<|w3 691 4 826<|w3 704 4 833<|w3 711 4 840<|w3 738 4 847<|w3 875 4 854<|w3 882 4 862<|w3 885 4 869<|w3 888 4 876<|[])::cn "shlex" "shlex" 1316 641 793 318 1319::fr 795 792 vL::oT [.none,.none,.bool false,.bool false] 0::t0::n0::nS 1329 ["self","instream","infile","posix","punctuation_chars","t"]::t0::fb (cS 33 0) "__init__" "shlex.__init__"::co "__init__" "shlex.__init__" 1326 643 5 0 0 3 798 1335::Id P::t0::n0::nS 1341 ["self"]::t0::fb (cS 33 1) "punctuation_chars" "shlex.punctuation_chars"::co "punctuation_chars" "shlex.punctuation_chars" 1338 684 1 0 0 3 805 1342::Ie P::ty "property" (.fields #[.ref 811,.none,.none,.none,.str "punctuation_chars" 1345,.bool false])::t0::n0::nS 1349 ["self","tok"]::t0::fb (cS 33 2) "push_token" "shlex.push_token"::co "push_token" "shlex.push_token" 1346 688 2 0 0 3 813 1351::fn (cS 33 2) "push_token" "shlex.push_token" 3 vL 818::oT [.none] 0::t0::n0::nS 1357 ["self","newstream","newfile"]::t0::fb (cS 33 3) "push_source" "shlex.push_source"::co "push_source" "shlex.push_source" 1354 691 3 0 0 3 821 1360::fo (cS 33 3) "push_source" "shlex.push_source" 3 (.ref 820) .none .none vL none 826 .none::t0::n0::nS 1366 ["self"]::t0::fb (cS 33 4) "pop_source" "shlex.pop_source"::co "pop_source" "shlex.pop_source" 1363 704 1 0 0 3 828 1367::fn (cS 33 4) "pop_source" "shlex.pop_source" 3 vL 833::t0::n0::nS 1373 ["self","tok","raw","spec","newfile","newstream"]::t0::fb (cS 33 5) "get_token" "shlex.get_token"::co "get_token" "shlex.get_token" 1370 711 1 0 0 3 835 1379::Ig P::t0::n0::nS 1385 ["self","quoted","escapedstate","nextchar","result"]::t0::fb (cS 33 6) "read_token" "shlex.read_token"::co "read_token" "shlex.read_token" 1382 738 1 0 0 3 842 1390::Ih P::t0::n0::nS 1396 ["self","newfile"]::t0::fb (cS 33 7) "sourcehook" "shlex.sourcehook"::co "sourcehook" "shlex.sourcehook" 1393 875 2 0 0 3 849 1398::fn (cS 33 7) "sourcehook" "shlex.sourcehook" 3 vL 854::oT [.none,.none] 0::t0::n0::nS 1404 ["self","infile","lineno"]::t0::fb (cS 33 8) "error_leader" "shlex.error_leader"::co "error_leader" "shlex.error_leader" 1401 882 3 0 0 3 857 1407::fo (cS 33 8) "error_leader" "shlex.error_leader" 3 (.ref 856) .none .none vL none 862 .none::t0::n0::nS 1413 ["self"]::t0::fb (cS 33 9) "__iter__" "shlex.__iter__"::co "__iter__" "shlex.__iter__" 1410 885 1 0 0 3 864 1414::Ii P::t0::n0::nS 1420 ["self","token"]::t0::fb (cS 33 10) "__next__" "shlex.__next__"::co "__next__" "shlex.__next__" 1417 888 1 0 0 3 871 1422::Ij P::oT (.str "_punctuation_chars" 1425::.str "_pushback_chars" 1426::.str "commenters" 1427::.str "debug" 1428::.str "eof" 1429::.str "escape" 1430::.str "escapedquotes" 1431::.str "filestack" 1432::.str "infile" 1433::.str "instream" 1434::.str "lineno" 1435::.str "posix" 1436::.str "pushback" 1437::.str "quotes" 1438::.str "source" 1439::.str "state" 1440::.str "token" 1441::.str "whitespace" 1442::.str "whitespace_split" 1443::.str "wordchars" 1444::[]) 0::dL (e P "__module__" 1321 (.str "cpy313.shlex" 1312)::e P "__firstlineno__" 1325 (.int 641 1324)::er P "__init__" 1337 804::er P "punctuation_chars" 1345 812::er P "push_token" 1353 819::er P "push_source" 1362 827::er P "pop_source" 1369 834::er P "get_token" 1381 841::er P "read_token" 1392 848::er P "sourcehook" 1400 855::er P "error_leader" 1409 863::er P "__iter__" 1416 870::er P "__next__" 1424 877::er P "__static_attributes__" 1445 878::er P "__dict__" 1447 881::er P "__weakref__" 1449 882::e P "__doc__" 1450 .none::[]) 4::cO "shlex" [.type "object"] [.ref 880,.type "object"] 879 true [] [] none 1314 1322 (.builtin "object.__new__") true::ty "getset_descriptor" (.fields #[.str "__dict__" 1446,.ref 880,.builtin "function.__dict__",.builtin "function.__dict__#set"])::ty "getset_descriptor" (.fields #[.str "__weakref__" 1448,.ref 880,.builtin "ExceptionGroup.__weakref__",.none])::su 880::ty "builtin_function_or_method" (.fields #[.builtin "object.__init_subclass__",.ref 880])::[])
def Oy(w:World)(os:abV):SharedT:=⟨treeOf 12 (Ox w.params),885,{},#[],{},1453,os⟩
@[irreducible]noncomputable def Oz (P:aao):List Obj:=((Ox P).set 3 (dL (mE P AC (On P)) 52)).set 35 (nF (w3 3 0 43<|w3 7 0 50<|w3 20 0 57<|w3 38 0 64<|w3 49 0 71<|w3 59 0 78<|w3 66 0 102<|w3 68 0 115<|w3 176 0 203<|w3 181 0 210<|w3 188 0 217<|w3 190 0 230<|w3 197 0 252<|w3 199 0 264<|w3 201 0 276<|w3 371 0 506<|w3 577 0 753<|w3 598 0 760<|w3 603 0 767<|w3 608 0 774<|w3 611 0 781<|w3 632 0 788<|w3 641 0 795<|w3 893 0 891<|w3 901 0 898<|w3 905 0 906<|w3 912 0 911<|w3 916 0 916<|w3 925 0 923<|w3 941 0 930<|w3 946 0 937<|w3 961 0 944<|w3 974 0 951<|w3 980 0 956<|w3 988 0 963<|w3 1011 0 968<|[]))++(oT [.bool false,.bool true] 0::t0::n0::nS 1456 ["s","comments","posix","lex"]::t0::fb (tS 34) "split" "split"::co "split" "split" 1453 893 3 0 0 3 886 1460::Ik P::t0::n0::nS 1466 ["split_command"]::t0::fb (tS 35) "join" "join"::Il P::Im P::ty "builtin_function_or_method" (.fields #[.builtin "re.Pattern.search",.ref 197])::t0::n0::nS 1476 ["s"]::t0::fb (tS 38) "quote" "quote"::co "quote" "quote" 1473 905 1 0 0 3 901 1477::Io P::t0::n0::fb (tS 40) "_law_rows" "_law_rows"::cp "_law_rows" "_law_rows" 1482 912 1 3 908 1485::Ip P::t0::n0::fb (tS 41) "_law_line" "_law_line"::cp "_law_line" "_law_line" 1488 916 1 3 913 1491::Iq P::t0::n0::nS 1497 ["line","units","place","marks","bare","unit"]::t0::fb (tS 42) "_law_closes" "_law_closes"::co "_law_closes" "_law_closes" 1494 925 1 0 0 3 918 1503::Ir P::t0::n0::nS 1509 ["rows","table","row"]::t0::fb (tS 43) "_law_table" "_law_table"::co "_law_table" "_law_table" 1506 941 1 0 0 3 925 1512::Iu P::t0::n0::nS 1518 ["sorter","count"]::t0::fb (tS 44) "_law_shut" "_law_shut"::co "_law_shut" "_law_shut" 1515 946 1 0 0 3 932 1520::Iv P::t0::n0::nS 1526 ["sorter"]::t0::fb (tS 45) "_law_fixed" "_law_fixed"::co "_law_fixed" "_law_fixed" 1523 961 1 0 0 3 939 1527::Iw P::t0::n0::nS 1533 ["sorter","names"]::t0::fb (tS 46) "_law_refused" "_law_refused"::co "_law_refused" "_law_refused" 1530 974 2 0 0 3 946 1535::Ix P::t0::n0::fb (tS 47) "_law_next" "_law_next"::cp "_law_next" "_law_next" 1538 980 4 3 953 1541::Iy P::t0::n0::nS 1547 ["sorter","names","edges","given","done","waiting","fresh","name"]::t0::fb (tS 48) "_law_run" "_law_run"::co "_law_run" "_law_run" 1544 988 3 0 0 3 958 1555::Iz P::t0::n0::fb (tS 49) "law" "law"::cp "law" "law" 1558 1011 1 3 965 1561::IA P::[])
def OA(w:World)(os:abV):SharedT:=⟨treeOf 12 (Oz w.params),970,{},#[],{},1564,os⟩
@[irreducible]noncomputable def Lz (P:aao):List Obj:=Oz P
def s_f(w:World)(os:abV):SharedT:=⟨treeOf 12 (Lz w.params),970,{},#[],{},1564,os⟩
def AD:List Stmt:=(abU prog).drop 0|>.take 12
theorem OB(w:World)(os:abV):segRunT acm prog w 34 (some (.ref 6)) 1 1181 (Xm w os) (piecesOf AD tX eX ⟨0,0,0,0⟩ tB)=some (.next,Op w os,eX,⟨68,0,173,16⟩):=by
 rw[eG,bU]
 exact yI (by kernel_rfl) (by kernel_rfl) (by kernel_rfl) (by kernel_rfl)
def AE:List Stmt:=(abU prog).drop 12|>.take 8
theorem OC(w:World)(os:abV):segRunT acm prog w 34 (some (.ref 6)) 1 1046 (Op w os) (piecesOf AE tX eX ⟨68,0,173,16⟩ tB)=some (.next,Os w os,eX,⟨199,0,200,21⟩):=by
 rw[eG,bU]
 exact yI (by kernel_rfl) (by kernel_rfl) (by kernel_rfl) (by kernel_rfl)
def AF:List Stmt:=(abU prog).drop 20|>.take 1
theorem OD(w:World)(os:abV):segRunT acm prog w 34 (some (.ref 6)) 1 1278 (Os w os) (piecesOf AF tX eX ⟨199,0,200,21⟩ tB)=some (.next,Ou w os,eX,⟨201,0,370,17⟩):=by
 rw[eG,bU]
 exact yI (by kernel_rfl) (by kernel_rfl) (by kernel_rfl) (by kernel_rfl)
def AG:List Stmt:=(abU prog).drop 21|>.take 1
theorem OE(w:World)(os:abV):segRunT acm prog w 34 (some (.ref 6)) 1 1578 (Ou w os) (piecesOf AG tX eX ⟨201,0,370,17⟩ tB)=some (.next,Ow w os,eX,⟨371,0,575,17⟩):=by
 rw[eG,bU]
 exact yI (by kernel_rfl) (by kernel_rfl) (by kernel_rfl) (by kernel_rfl)
def AH:List Stmt:=(abU prog).drop 22|>.take 10
theorem OF(w:World)(os:abV):segRunT acm prog w 34 (some (.ref 6)) 1 849 (Ow w os) (piecesOf AH tX eX ⟨371,0,575,17⟩ tB)=some (.next,Oy w os,eX,⟨641,0,892,20⟩):=by
 rw[eG,bU]
 exact yI (by kernel_rfl) (by kernel_rfl) (by kernel_rfl) (by kernel_rfl)
def AI:List Stmt:=(abU prog).drop 32|>.take 16
theorem OG(w:World)(os:abV):segRunT acm prog w 34 (some (.ref 6)) 1 432 (Oy w os) (piecesOf AI tX eX ⟨641,0,892,20⟩ tB)=some (.next,OA w os,eX,⟨1011,0,1044,87⟩):=by
 rw[eG,bU]
 exact yI (by kernel_rfl) (by kernel_rfl) (by kernel_rfl) (by kernel_rfl)
end Top
end
section
namespace Top
def He(P:aao):Heap:=absHeap (treeOf 12 (Tx P)) 34 {}
def H0(P:aao):Heap:=absHeap (treeOf 12 (Ty P)) 34 {}
def H1(P:aao):Heap:=⟨(Lz P).toArray,{}⟩
theorem yJ: @impGoT=PySem.W.Fast.tw14789777615569096658:=PySem.W.Fast.te14789777615569096658
theorem AJ: @fenceModules? =PySem.W.Fast.tw14289696077712309145:=PySem.W.Fast.te14289696077712309145
def sI(os:abV):SharedT:=⟨.nil,0,{},#[],{},1,os⟩
def OH:abV:=(start (opening prog)).1.os
theorem AK:(start (opening prog)).1=(sI OH).abs:=by kernel_rfl
theorem DT(w:World):((impGoT acm (opening prog) w 1085 (sI OH) (start (opening prog)).2).map λy=>(y.1,y.2.atExitBegin))=some (Xh w OH,some []):=by
 rw[yJ,bU]
 kernel_rfl
theorem opens(w:World):importEnds acm (opening prog) w (1085+1) (start (opening prog)).1 (start (opening prog)).2=some ⟨He w.params,#[],{},318,(start (opening prog)).1.os⟩:=by
 have h:=DT w
 cases e:impGoT acm (opening prog) w 1085 (sI OH) (start (opening prog)).2 with
 |none=>rw[e]at h;cases h
 |some y=>
  obtain⟨s,t⟩:=y
  rw[e]at h
  have h1:s=Xh w OH:=congrArg Prod.fst (aaJ h)
  have h2:t.atExitBegin=some []:=congrArg Prod.snd (aaJ h)
  subst h1
  have z:=impGo_of e
  rw[←AK]at z
  refine imp_go z ?_
  show importEnds acm (opening prog) w 1 _ _=_
  unfold importEnds
  rw[h2];rfl
theorem AL(w:World):(λos=>(fenceModules? prog ⟨He w.params,#[],{},318,os⟩).map (λs=>(s.heap,s.gens,s.drawn,s.toks)))=λzz=>some (H0 w.params,#[],{},318):=by
 rw[AJ]
 kernel_rfl
theorem OI(N:Nat)(hN:Nat.ble 1086 N=true):∀w:World,(fencedOpening acm prog w N).map (λs=>(s.heap,s.gens,s.drawn,s.toks))=some (H0 w.params,#[],{},318):=
 open_cut (M:=1085+1) (λw=>opens w) hN AL
theorem AM: @topGo=PySem.W.Fast.tw15667345088766844465:=PySem.W.Fast.te15667345088766844465
theorem yK: @segRun=PySem.W.Fast.tw14374325043358763698:=PySem.W.Fast.te14374325043358763698
theorem yL: @topRun=PySem.W.Fast.tw14082659384304107361:=PySem.W.Fast.te14082659384304107361
theorem yM: @denote=PySem.W.Fast.tw11892475500146522536:=PySem.W.Fast.te11892475500146522536
theorem IB(w:World)(os:abV):topGo acm prog w 34 (some (.ref 6)) 12 ⟨H0 w.params,#[],{},318,os⟩ (topStub prog)=some ((Xj w os).abs,⟨denote acm eX,eX,⟨0,0,0,0⟩,tB⟩):=by
 rw[AM,yM,bU]
 kernel_rfl
theorem AN(w:World)(os:abV):segRun acm prog w 34 (some (.ref 6)) 1 1 (Xj w os).abs (blockOf (abU prog) tX eX ⟨0,0,0,0⟩ tB)=some (.next,(Xm w os).abs,eX,⟨0,0,0,0⟩):=by
 rw[yK]
 kernel_rfl
theorem IC(w:World)(os:abV):topRun acm prog w 34 (some (.ref 6)) 2 (OA w os).abs ⟨doneF .next,eX,⟨1011,0,1044,87⟩,tB⟩=some ⟨H1 w.params,#[],{},1564,os⟩:=by
 rw[yL]
 kernel_rfl
theorem DU:abU prog=AD++(AE++(AF++(AG++(AH++(AI++[]))))):=by kernel_rfl
theorem ID(w:World)(os:abV):∃M,Nat.ble M 20000=true∧topRun acm prog w 34 (some (.ref 6)) M ⟨H0 w.params,#[],{},318,os⟩ (topStub prog)=some ⟨H1 w.params,#[],{},1564,os⟩:=by
 have k48:=piece_app (rest:=[]) (segRun_of (OG w os)) (piece_nil (IC w os))
 have k32:=piece_app (segRun_of (OF w os)) k48
 have k22:=piece_app (segRun_of (OE w os)) k32
 have k21:=piece_app (segRun_of (OD w os)) k22
 have k20:=piece_app (segRun_of (OC w os)) k21
 have k12:=piece_app (segRun_of (OB w os)) k20
 rw[←DU]at k12
 have kb:=piece_block (AN w os) k12
 exact⟨_,by decide,go_top (IB w os) kb⟩
def qv:Program:={prog with main:={prog.main with body:=[tS 49]}}
def lU:List Str:=(["_sre","deque","_wall","_iter_escaped_chars","_strip_quoted_realnames","_check_parenthesis","_pre_parse_validation","_NODE_OUT","_NODE_DONE","_NodeInfo","CycleError","TopologicalSorter","_twin_re_1","_whence","_index","UnsupportedOperation","IOBase","BufferedIOBase","TextIOBase","BytesIO","StringIO","_kind","_fspath","_check_arg_types","isabs","join","join_path","dirname","shlex","split","join_shlex","_find_unsafe","quote","_law_rows","_law_line","_law_closes","_law_table","_law_shut","_law_fixed","_law_refused","_law_next","_law_run"]:List String).map aby
def KF(P:aao):Frag:=(abt 970).zip (Lz P)
theorem rA(P:aao):abt 970=(KF P).map (λx=>x.1):=by kernel_rfl
theorem DV(w:World):((H0 w.params).isNs ab9&&(#[]:Array ach).size==0,(H0 w.params).objs.size,(H0 w.params).nsMap ab9 "__annotations__")=(true,34,some (.ref 6)):=by kernel_rfl
theorem OJ(w:World)(os:abV):(staticsOk (importedModules prog.main.body) (H0 w.params) (H1 w.params)&&namesBound prog (H1 w.params)&&gensDone ⟨H1 w.params,#[],{},1564,os⟩&&laidKept (H0 w.params) (H1 w.params))=true:=by kernel_rfl
theorem tY: @openSeen=PySem.W.Fast.tw4187177175401517315:=PySem.W.Fast.te4187177175401517315
theorem OK(w:World)(os:abV):openSeen qv lU (importedModules prog.main.body) (λzz=>true) true ⟨H1 w.params,#[],{},1564,os⟩=openGood qv lU:=by
 rw[tY]
 kernel_rfl
def ox(o:Obj):Bool:=match o.data with
 | .freed=>false
 |_=>true
theorem IE{o:Obj}(h:ox o=true):(match some o with|some ⟨_,_,.freed,_⟩=>none|o=>o)=some o:=by
 obtain⟨a,b,d,c⟩:=o
 cases d<;>first|rfl|cases h
theorem tZ:∀(l pre:List Obj),l.all ox=true→
  (List.range' pre.length l.length).map (⟨(pre++l).toArray,{}⟩:Heap).get? =((List.range' pre.length l.length).zip l).map λp=>some p.2
 |[],pre,_=>rfl
 |o::l,pre,h=>by
  simp only[adB,aaM]at h
  have ih:=tZ l (pre++[o]) h.2
  rw[aaw,List.singleton_append,aar,abC]at ih
  rw[aaF,List.range'_succ,aan,List.zip_cons_cons,aan,ih]
  congr 1
  unfold Heap.get?
  rw[show((pre++o::l).toArray)[pre.length]? =some o by simp]
  exact IE h.1
theorem IG(P:aao):(Lz P).length=970:=by kernel_rfl
theorem IH(P:aao):(Lz P).all ox=true:=by kernel_rfl
theorem OL(w:World)(os:abV):(kHook KF (abt 970) rA).obs ⟨H1 w.params,#[],{},1564,os⟩=(kHook KF (abt 970) rA).val w:=by
 have h:=tZ (Lz w.params) [] (IH _)
 rw[IG,ady,←List.range_eq_range']at h
 exact h
abbrev LA:Hook:=kHook KF (abt 970) rA
theorem DW:LeftO prog qv lU (λzz=>true) LA.obs LA.val 30000:=by
 refine λw=>?_
 refine LeftO.of_pieces (H₀:=H0) (H₁:=H1) (gs₀:= #[]) (gs₁:= #[]) (d₀:={}) (d₁:={}) (k₀:=318) (k₁:=1564) (m₀:=34) (ann:=some (.ref 6)) (M:=20000) (OI 30000 (by decide)) DV (λw os=>?_) (by decide) (λw=>?_) w
 ·obtain⟨M,hM,h⟩:=ID w os
  have r:=topRun_mono (20000-M) _ _ _ _ h
  rw[show M+(20000-M)=20000 by have:=aae hM;exact aa7 this]at r
  exact r
 ·funext os
  exact Prod.ext (OJ w os) (Prod.ext (OK w os) (OL w os))
end Top
end
section
namespace Top
abbrev bp:OpenLaw:=PySem.Challenge.rw_ik0092_01
theorem qE: @noRoadLSs=PySem.W.Fast.tw8326940854005059898:=PySem.W.Fast.te8326940854005059898
theorem nV: @namesMeet=PySem.W.Fast.tw17119622794617984870:=PySem.W.Fast.te17119622794617984870
theorem AP: @Program.boundNames=PySem.W.Fast.tw18344453789297297638:=PySem.W.Fast.te18344453789297297638
theorem II: @namesResolve=PySem.W.Fast.tw8377067652309620493:=PySem.W.Fast.te8377067652309620493
theorem IJ: @sreFenced=PySem.W.Fast.tw11788848310118352699:=PySem.W.Fast.te11788848310118352699
theorem DX: @lookedIntoSs=PySem.W.Fast.tw12862048085361865435:=PySem.W.Fast.te12862048085361865435
theorem DY: @attrL=PySem.W.Fast.tw17868728402115742887:=PySem.W.Fast.te17868728402115742887
theorem OM: @TablesWhole.wModule= @PySem.W.Fast.tw6116379765354995101:=PySem.W.Fast.te6116379765354995101
theorem ON: @readsOut=PySem.W.Fast.tw13343964577679436407:=PySem.W.Fast.te13343964577679436407
theorem t5: @OpenLaw.reads=PySem.W.Fast.tw6984425678791042302:=PySem.W.Fast.te6984425678791042302
theorem AQ: @OpenLaw.own=PySem.W.Fast.tw10792542408131684335:=PySem.W.Fast.te10792542408131684335
theorem qF: @OpenLaw.bound'=PySem.W.Fast.tw797321630700447069:=PySem.W.Fast.te797321630700447069
theorem s2:decide (bp.foot≤(abU bp.prog).length)=true:=by kernel_rfl
theorem s3:bp.footing.all footLine=true:=by kernel_rfl
theorem s4:noClassBlock bp.prog bp.footing=true:=by kernel_rfl
theorem s5:defStands bp.about bp.above=true:=by kernel_rfl
theorem s8:(bp.own.contains bp.name&&bp.own.eraseDups.length==bp.own.length&&bp.own.all (λn=> !builtinNamed n))=true:=by rw[AQ];kernel_rfl
theorem s6:bp.namesIt=true:=by kernel_rfl
theorem s7:namesMeet bp.prog bp.footing (λsc n=>sc.kind== .module||sc.names.lookup n !=some .globalExplicit)=true:=by rw[nV];kernel_rfl
theorem s9:noRoadLSs {strict:=true,foot:=some bp.bound',writes:=bp.writes,may:=bp.may} bp.footing=true:=by rw[qE,qF];kernel_rfl
theorem YC:namesMeet bp.prog bp.above (λzz n=> !bp.own.contains n)=true:=by rw[nV,AQ];kernel_rfl
theorem YD:bp.bound'.all (λn=> !builtinNamed n||bp.about==[n]|| !bp.reads n)=true:=by rw[qF,t5];kernel_rfl
theorem YE:namesMeet bp.prog bp.footing (λsc n=>(!(["type","isinstance","issubclass","getattr","hasattr"]:List Str).contains n||sc.names.lookup n==some .globalImplicit)&&
  (bp.may !=some n||sc.kind== .module||sc.names.lookup n==some .globalImplicit))=true:=by rw[nV];kernel_rfl
theorem a1:sreFenced prog.main=true:=by rw[IJ];kernel_rfl
theorem a2:((moduleNames prog.main.body).isEmpty||lookedIntoSs (moduleNames prog.main.body) prog.main.body)=true:=by rw[DX];kernel_rfl
theorem a4:prog.boundNames.all (λn=> !worldNames.contains n)=true:=by kernel_rfl
theorem YF:(!(importedModules prog.main.body).all cThrough.contains)=false:=by kernel_rfl
theorem YG:(["vars","dir","locals"]:List Str).filter (readsOut prog prog.main.body)=[]:=by rw[ON];kernel_rfl
theorem a5:noRoadLSs {strict:= !(importedModules prog.main.body).all cThrough.contains,foot:=none,bare:=(["vars","dir","locals"]:List Str).filter (readsOut prog prog.main.body)} prog.main.body=true:=by rw[YF,YG,qE];kernel_rfl
theorem a6:namesMeet prog prog.main.body (λzz n=>attrL n)=true:=by rw[nV,DY];kernel_rfl
theorem a3:namesResolve prog=true:=by rw[II];kernel_rfl
theorem b1:(bp.prog.boundNames.contains bp.name&& !startupNames.contains bp.name)=true:=by rw[AP];kernel_rfl
theorem AR:looksOpen prog=true:=by
 unfold looksOpen
 rw[a1,a2,a3,a4,a5,a6];rfl
theorem DZ:bp.row.partSaid=true:=by
 unfold OpenRow.partSaid
 rw[show bp.row.prog=prog from rfl,AR]
 kernel_rfl
theorem IK:bp.row.wellSaid=true:=by
 unfold OpenRow.wellSaid
 rw[DZ]
 exact b1
theorem m1:bp.most.all (λn=>decide (63≤n))=true:=rfl
theorem m2:bp.bound.all (λn=>decide (2^63≤n))=true:=rfl
theorem m3:(["type","isinstance","issubclass","getattr","hasattr"]:List Str).all (λn=>bp.about !=[n])=true:=by kernel_rfl
theorem m4:(!bp.writes||(bp.prog.main.body.flatMap importedNames).all λn=> !bp.reads n)=true:=rfl
theorem m5:(bp.prog.main.body.flatMap importedNames).all (λn=> !bp.reads n||(drawsOf n bp.prog.main.body).all λmn=>mn.2 !=("attrgetter":Str)&&mn.2 !=("methodcaller":Str))=true:=by rw[t5];kernel_rfl
theorem Tz:bp.wellSaid=true:=by
 unfold OpenLaw.wellSaid
 have h8:=s8
 simp only[aaM]at h8
 rw[IK,s2,s3,s4,m1,m2,s9,s5,s6,m3,YD,m4,m5,YE,h8.1.1,h8.1.2,h8.2,YC,s7];rfl
def OO:DefRec×List (Str×Expr):=(⟨default,⟨[],[],none,[],[],none,[]⟩,[],default,default⟩,[])
def ix:DefRec×List (Str×Expr):=(defOf qv bp.row.name).getD OO
theorem t6{α:Type}{x:Option α}(d:α)(h:x.isSome=true):x=some (x.getD d):=by cases x<;>first|rfl|cases h
theorem IL:defOf qv bp.row.name=some (ix.1,ix.2):=t6 OO (by kernel_rfl)
theorem yN:bp.row.prog.bare:=⟨rfl,rfl,rfl,rfl,rfl,by unfold Program.tablesWhole TablesWhole.wProgram;rw[OM];kernel_rfl⟩
theorem OP:(chainsOk qv&&opensWell bp.row.prog&&(frees bp.row.toRowW&&bp.row.within.isEmpty))=true:=by kernel_rfl
theorem t7:bp.row.toRowW.promised:=⟨[.list []],by decide+kernel,by decide+kernel⟩
theorem holds_of(call:WalkO qv lU (λzz zz=>True) LA.says bp.row.toRowW ix.1 ix.2 λf vs=>PySem.call f vs):bp.Holds:=by
 refine holds_law Tz λhs=>?_
 exact holds_open (r:=bp.row) (q:=qv) (loose:=lU) (Xt:=λzz=>true) (XP:=λzz zz=>True) DW LA.of LA.keeps (λzz zz=>trivial) (λzz zz zz h zz=>h) IL (by kernel_rfl) (by kernel_rfl) (λs zz=>recFacts_nil rfl) rfl hs OP yN t7 call
end Top
end
section
@[elab_as_elim]theorem LB {α:Sort u} {a b:α} {motive:α→Prop} (h:a=b) (x:motive b):motive a:=h▸x
@[elab_as_elim]theorem LC {α:Sort u} {a b:α} {motive:α→Prop} (h:a=b) (x:motive a):motive b:=h▸x
theorem eqQ{α:Sort u}{β:Sort v}{Q:α→β→Prop}{a b:α}{S:β}(h:a=b)(k:Q b S):Q a S:=h▸k
theorem ba{A0:Sort u0}{A1:Sort u1}{P:A0→A1→Prop}(a0:A0)(a1:A1)(h:P a0 a1):∃a0 a1,P a0 a1:=⟨a0,a1,h⟩
theorem eY{A0:Sort u0}{A1:Sort u1}{A2:Sort u2}{P:A0→A1→A2→Prop}(a0:A0)(a1:A1)(a2:A2)(h:P a0 a1 a2):∃a0 a1 a2,P a0 a1 a2:=⟨a0,a1,a2,h⟩
theorem p6{A0:Sort u0}{A1:Sort u1}{A2:Sort u2}{A3:Sort u3}{P:A0→A1→A2→A3→Prop}(a0:A0)(a1:A1)(a2:A2)(a3:A3)(h:P a0 a1 a2 a3):∃a0 a1 a2 a3,P a0 a1 a2 a3:=⟨a0,a1,a2,a3,h⟩
theorem IM{A0:Sort u0}{A1:Sort u1}{A2:Sort u2}{A3:Sort u3}{A4:Sort u4}{P:A0→A1→A2→A3→A4→Prop}(a0:A0)(a1:A1)(a2:A2)(a3:A3)(a4:A4)(h:P a0 a1 a2 a3 a4):∃a0 a1 a2 a3 a4,P a0 a1 a2 a3 a4:=⟨a0,a1,a2,a3,a4,h⟩
theorem yO{A0:Sort u0}{A1:Sort u1}{A2:Sort u2}{A3:Sort u3}{A4:Sort u4}{A5:Sort u5}{P:A0→A1→A2→A3→A4→A5→Prop}(a0:A0)(a1:A1)(a2:A2)(a3:A3)(a4:A4)(a5:A5)(h:P a0 a1 a2 a3 a4 a5):∃a0 a1 a2 a3 a4 a5,P a0 a1 a2 a3 a4 a5:=⟨a0,a1,a2,a3,a4,a5,h⟩
theorem Xn{A0:Sort u0}{A1:Sort u1}{A2:Sort u2}{A3:Sort u3}{A4:Sort u4}{A5:Sort u5}{A6:Sort u6}{P:A0→A1→A2→A3→A4→A5→A6→Prop}(a0:A0)(a1:A1)(a2:A2)(a3:A3)(a4:A4)(a5:A5)(a6:A6)(h:P a0 a1 a2 a3 a4 a5 a6):∃a0 a1 a2 a3 a4 a5 a6,P a0 a1 a2 a3 a4 a5 a6:=⟨a0,a1,a2,a3,a4,a5,a6,h⟩
theorem YH{A0:Sort u0}{A1:Sort u1}{A2:Sort u2}{A3:Sort u3}{A4:Sort u4}{A5:Sort u5}{A6:Sort u6}{A7:Sort u7}{P:A0→A1→A2→A3→A4→A5→A6→A7→Prop}(a0:A0)(a1:A1)(a2:A2)(a3:A3)(a4:A4)(a5:A5)(a6:A6)(a7:A7)(h:P a0 a1 a2 a3 a4 a5 a6 a7):∃a0 a1 a2 a3 a4 a5 a6 a7,P a0 a1 a2 a3 a4 a5 a6 a7:=⟨a0,a1,a2,a3,a4,a5,a6,a7,h⟩
theorem IP{A0:Sort u0}{A1:Sort u1}{A2:Sort u2}{A3:Sort u3}{A4:Sort u4}{A5:Sort u5}{A6:Sort u6}{A7:Sort u7}{A8:Sort u8}{P:A0→A1→A2→A3→A4→A5→A6→A7→A8→Prop}(a0:A0)(a1:A1)(a2:A2)(a3:A3)(a4:A4)(a5:A5)(a6:A6)(a7:A7)(a8:A8)(h:P a0 a1 a2 a3 a4 a5 a6 a7 a8):∃a0 a1 a2 a3 a4 a5 a6 a7 a8,P a0 a1 a2 a3 a4 a5 a6 a7 a8:=⟨a0,a1,a2,a3,a4,a5,a6,a7,a8,h⟩
theorem TA{A0:Sort u0}{A1:Sort u1}{A2:Sort u2}{A3:Sort u3}{A4:Sort u4}{A5:Sort u5}{A6:Sort u6}{A7:Sort u7}{A8:Sort u8}{A9:Sort u9}{P:A0→A1→A2→A3→A4→A5→A6→A7→A8→A9→Prop}(a0:A0)(a1:A1)(a2:A2)(a3:A3)(a4:A4)(a5:A5)(a6:A6)(a7:A7)(a8:A8)(a9:A9)(h:P a0 a1 a2 a3 a4 a5 a6 a7 a8 a9):∃a0 a1 a2 a3 a4 a5 a6 a7 a8 a9,P a0 a1 a2 a3 a4 a5 a6 a7 a8 a9:=⟨a0,a1,a2,a3,a4,a5,a6,a7,a8,a9,h⟩
nonrec abbrev xY:=adK
nonrec abbrev xO:=Lean.MacroM adK
nonrec def xN (k:Lean.Name) (a:Array xY):xY:=.node .none k a
nonrec def xG (n:Nat) (k:String) (l:List xY):List xY:=xN k.toName (l.take n).reverse.toArray::l.drop n
nonrec def xV:List String:=["$rfl :exact","%'' 1tacticKernel_rfl","&$ } :withUnfoldingAll @",">'' 0null 2Lean.Parser.Tactic.intros","<'' ]xx 3Lean.Parser.Tactic.«tactic_<;>_»","{'', ]xx 3null ''⟨ ]xx ''⟩ 3Lean.Parser.Term.anonymousCtor",",1null 0null ''=> ]xxxx 4Lean.Parser.Term.basicFun ''fun ]xx 2Lean.Parser.Term.fun","^'' 0null 1Lean.Parser.Tactic.optConfig 2Lean.Parser.Tactic.decide","='' 0null 1Lean.Parser.Tactic.optConfig 2Lean.Parser.Tactic.lia",")'' 0null 2Lean.Parser.Tactic.fail"]
nonrec def xA (t f:xY):xY:=
 if f.isOfKind `Lean.Parser.Term.app then f.setArg 1 ((f.getArg 1).setArgs ((f.getArg 1).getArgs.push t))
 else xN `Lean.Parser.Term.app #[f,xN `null #[t]]
nonrec def xW (a:Array xY):xY:=xN `Lean.Parser.Tactic.tacticSeq #[xN `Lean.Parser.Tactic.tacticSeq1Indented #[xN `null a]]
nonrec def xB (t:xY):xY:=xN `Lean.Parser.Term.byTactic #[.atom .none "by",xW #[t]]
nonrec def xK (t:xY):xY:=xN `PySem.W.tacticK_extra_ #[.atom .none "k_extra",t]
nonrec def xH:xY:=xN `Lean.Parser.Term.syntheticHole #[.atom .none "?",.atom .none "_"]
nonrec def xR (t:xY):xY:=xN `Lean.Parser.Tactic.refine #[.atom .none "refine",t]
nonrec def xP (e:List xY) (f:String→List xY→List xY) (c:Char) (w:String) (l:List xY):List xY:=
 let a:=l.headD .missing
 let b:=l.tail
 if c.isAlpha then .ident .none w.toRawSubstring w.toName []::l else
 if c.toNat==124 then xN `group #[.atom .none "|",xW #[a]]::b else
 if c.toNat==46 then xA a (b.headD .missing)::b.tail else
 if c.toNat==47 then xR (xA xH a)::b else
 if c.toNat==58 then xN (.str `Lean.Parser.Tactic (w.drop 1).copy) #[.atom .none "",a]::b else
 if c.toNat==95 then xN `Lean.Parser.Term.hole #[.atom .none "_"]::l else
 if c.toNat==126 then xB (xK (xN `str #[.atom .none "\"m.at\""]))::l else
 if c.toNat==43 then xK a::b else
 if c.toNat==34 then xN `str #[.atom .none w]::l else
 if c.toNat==59 then xN `Lean.Parser.Tactic.paren #[.atom .none "(",xW #[b.headD .missing,.atom .none ";",a],.atom .none ")"]::b.tail else
 if c.toNat==125 then xW #[a]::b else
 if c.toNat==64 then xB a::b else
 if c.toNat==45 then xB (xK a)::b else
 if c.toNat==63 then xH::l else
 if c.toNat==40 then xR (xN `Lean.Parser.Term.typeAscription #[xN `Lean.Parser.Term.hygienicLParen #[.atom .none "(",xN `hygieneInfo #[.ident .none "".toRawSubstring .anonymous []]],xH,.atom .none ":",xN `null #[a],.atom .none ")"])::b else
 if c.toNat==91 then xN `Lean.Parser.Tactic.guardTarget #[.atom .none "guard_target",xN `Lean.Parser.equal #[xN `Lean.Parser.equalR #[.atom .none "="]],a]::b else
 if c.toNat==33 then xB (xN `Lean.Parser.Tactic.assumption #[.atom .none "assumption"])::l else
 if w.length==1 then f (((xV.find? λd=>d.front==c).getD "").drop 1).copy l else
 let k:=(w.drop 1).copy
 if c.toNat==42 then xN `Lean.Parser.Tactic.first #[.atom .none "first",xN `null (l.take (k.front.toNat-48)).reverse.toArray]::l.drop (k.front.toNat-48)else
 if c.isDigit then xG (c.toNat-48) k l else
 if c.toNat==93 then l.getD (k.length-1) .missing::l.eraseIdx (k.length-1)else
 if c.toNat==39 then .atom .none (k.drop 1).copy::l else
 e.getD (k.length-1) .missing::l
nonrec def xX (e:List xY) (n:Nat) (s:String) (l:List xY):List xY:=n.rec (λ_ l=>l) (λ_ f s l=>(s.splitOn " ").foldl (λl w=>xP e f w.front w l) l) s l
nonrec def xD:List String:=["m.at XI :exact | XJ :exact | at2 :exact | XK :exact | fj :apply \"m.A\" + ; | Po :exact | Pp :exact | Pq :exact | Pr :exact | Ho :apply \"m.S\" + ; | Jv :exact | Ps :exact | Bq :exact | Pt :exact | pu :apply \"m.U\" + ; | Pu :exact | Pv :exact | Pw :exact | Px :exact | Hp :apply \"m.D\" + ; | qh.nil :exact | qh.cons :apply \"m.N\" + ; | Kg ~ . :exact | Kh ~ . :exact | QJ ~ . :exact | *I } :withReducible",
 "m.A XI :exact | XJ :exact | at2 :exact | XK :exact | fj :apply \"m.A\" + ; | *5",
 "chg ## (",
 "m.s1 EE _ . _ . _ . _ . _ . _ . [ } :withReducible \"m.ee\" + ; | EB _ . _ . _ . _ . _ . _ . [ ah / | xU / | *2 ; } :withReducible | ES _ . _ . _ . _ . _ . _ . [ PJ / | Jw / | xZ / | Eb / | Bf / | uj / | EQ / | Va ~ . / | Vf / | Qb / | *: ; } :withReducible | ET _ . _ . _ . _ . _ . _ . [ PN / | PM / | Ei / | pj / | *4 ; } :withReducible | EA _ . _ . _ . _ . _ . _ . [ oS / | wD / | *2 ; } :withReducible | Qn / | Qo / | bj / | Ez / | qO / | y8 / | y0 / | y5 / | qN / | y6 / | y7 / | we / | wg / | wE / | pk / | nH / | O4 & . / | Bn & . / | Ej / | Ek & . / | wi & . / | ze / | rW / | *G } :withReducible | ite _ . _ . _ . :show } :withReducible \"m.ite\" + ; | \"m.keep\" - ? { :refine } :withReducible | ty_str :exact | ty_list ~ . :exact | ty_map ~ . :exact | sv ~ . :exact | ty_set ~ . :exact | *5 @ ? { :refine } :withReducible | Qj ~ . / } :withReducible | \"m.in\" + | iC / | jB / | PO / | Vb / | nC / | oQ / | wb / | yZ / | oR / | ER / | EU / | Jy / | Jz / | *= } :withReducible | *<",
 "aR > $ } :withUnfoldingAll ;",
 "m.name dM ~ . / | ms ! . ~ . / | Jq ! . ~ . / | Jr ! . ~ . / | Js ! . ~ . / | *5 } :withReducible",
 "m.ee \"m.name\" + | rK / | oI / | Ec / | iy / | PK / | BK / | mv / \"m.name\" + ; my \"m.keep\" - . / ; | BS / | Qk / | BU / | EW / | JL / | EY / | EZ / | Ql / | Qm / | Ex / | kQ / | Jx / | wc / | uJ / | Wq ! . ! . ~ . / | Hk / | Hj / | JA / | *J } :withReducible",
 "m.in BR ~ . ~ . VJ ! . ~ . . ~ . & . / | Qh ~ . ~ . ~ . ~ . VK ! . ~ . . Nat.le_of_ble_eq_true & . . / | JH ~ . ~ . ZI ! . ~ . . ~ . / | JI ~ . ~ . VJ ! . ~ . . ~ . & . / | JJ ~ . ~ . ~ . VK ! . ~ . . Nat.le_of_ble_eq_true & . . / | JK ~ . ~ . ~ . % @ . ~ . VK ! . ~ . . Nat.le_of_ble_eq_true & . . / | *6 } :withReducible",
 "m.S Po :exact | Pp :exact | Pq :exact | Pr :exact | Ho :apply \"m.S\" + ; | *5",
 "m.U Jv :exact | Ps :exact | Bq :exact | Pt :exact | pu :apply \"m.U\" + ; | *5",
 "m.D Pu :exact | Pv :exact | Pw :exact | Px :exact | Hp :apply \"m.D\" + ; | *5",
 "m.ite bA $ } :withUnfoldingAll | ^ | *2 @ . / | aY Bool.false_ne_true :exact } :withUnfoldingAll | ^ | *2 @ . / | *2 } :withReducible",
 "m.keep trivial :exact } :withUnfoldingAll | fO ! . kp _ . ^ @ . . :exact | *2",
 "aK > % ;",
 "aA ! :exact",
 "aT Nat.le_refl _ . :exact | Nat.le_add_right _ . _ . :exact | = | *3",
 "aM Nat.add_le_add_left Nat.le_of_ble_eq_true rfl . . _ . :exact | Nat.le_add_left _ . _ . :exact | = | *3",
 "m.pick jr.head :exact | jr.tail :apply \"m.pick\" + ; | *2 } :withReducible",
 "m.picks aq.nil :exact } :withReducible | aq.cons :apply } :withReducible \"m.pick\" + | \"m.picks\" + | *2 < | *2",
 "m.mem At.mem ~ . :exact",
 "m.sets ib.nil :exact } :withReducible | ib.cons :apply } :withReducible \"m.at\" + | \"m.sets\" + | *2 < | *2",
 "m.nw qY / | ah qY ? . . :refine | *2 } :withReducible \"m.ee\" + ; \"m.in\" + ;",
 "m.go \"m.s1\" + } :tacticRepeat_",
 "g.s1 EE _ . _ . _ . PySem.Expr.Attribute _ . \"__next__\" . _ . . _ . _ . [ } :withReducible Vu / ; | EE _ . _ . _ . PySem.Expr.Attribute _ . \"successors\" . _ . . _ . _ . [ } :withReducible JP / ; | EE _ . _ . _ . PySem.Expr.Attribute _ . \"npredecessors\" . _ . . _ . _ . [ } :withReducible JP / ; | EE _ . _ . _ . PySem.Expr.Attribute _ . \"node\" . _ . . _ . _ . [ } :withReducible JP / ; | ES _ . _ . _ . PySem.Stmt.AugAssign PySem.Expr.Attribute _ . \"npredecessors\" . _ . . _ . _ . _ . . _ . _ . [ } :withReducible Qw / ; | ES _ . _ . _ . PySem.Stmt.Assign List.cons PySem.Expr.Attribute _ . \"npredecessors\" . _ . . List.nil . . _ . _ . . _ . _ . [ } :withReducible BX / ; | EE _ . _ . _ . PySem.Expr.Subscript PySem.Expr.Name \"n2i\" . _ . . _ . _ . . _ . _ . [ } :withReducible sE / ; | E8 / | m_values / | B3 ? d , . :refine | Vv / | *4 } :withReducible | \"m.s1\" + | *9",
 "g.go \"g.s1\" + } :tacticRepeat_",
 "g.rz ia PySem.F.excCall_ValueError . PySem.F.excRaise_ValueError . hd . / \"m.name\" + ; rfl ? { :refine ; \"m.s1\" + ; Vw ^ @ . ^ @ . / ; \"m.name\" + ; _ rfl ! ? yy , { { { :refine ; \"m.go\" + ; Nat.le_of_ble_eq_true rfl . ? { :refine ;",
 "LB LB ## . / | LB ## ''.. 1Lean.Parser.Term.ellipsis . . / | LB ## _ . . / | LB ## _ . _ . . / | ) | *5",
 "LC LC ## . / | LC ## ''.. 1Lean.Parser.Term.ellipsis . . / | LC ## _ . . / | LC ## _ . _ . . / | ) | *5",
 "seq ## ##x ;",
 "let ## ##x 0null ''=> ? 4Lean.Parser.Term.basicFun ''fun ]xx 2Lean.Parser.Term.fun . ''refine ]xx 2Lean.Parser.Tactic.refine",
 "sho ## /",
 "omi ~",
 "'0' \"m.mem\" -",
 "'1' \"m.picks\" -",
 "'2' ^ @",
 "'3' % @",
 "symm \"g.go\" +",
 "left \"m.go\" +",
 "m.N qh.nil :exact | qh.cons :apply \"m.N\" + ; | *2"]
nonrec def xL (e:List xY) (k:String):xO:=match xD.find? λd=>d.startsWith (k++" ")with
 |some d=>return(xX e 9 (d.drop (k.length+1)).copy []).headD .missing
 |none=>acb
nonrec def xRw (s r:xY) (a:Array xY):xO:=
 if(s.getArg 3).getNumArgs !=0||((s.getArg 1).getArg 0).getNumArgs !=0 then acb else
 let o:=λl=>s.setArg 2 ((s.getArg 2).setArg 1 (.node .none `null l))
 if a.size==1 then xL [r.getArg 1] (if(r.getArg 0).getNumArgs==0 then"LB"else"LC")else
 xL [o #[r],o (a.extract 2 a.size)] "seq"
nonrec def xLt (d:xY):xO:=
 if(d.getArg 2).getNumArgs==0&&d.isOfKind `Lean.Parser.Term.letIdDecl then xL [d.getArg 4,.node .none `null (#[(d.getArg 0).getArg 0]++(d.getArg 1).getArgs)] "let"else acb
nonrec def apX (k:String):adK:=(xX [] 9 k []).getD 0 .missing
nonrec def apR:adK:=apX "\"aR\" + }"
nonrec def apK:adK:=apX "\"aK\" + }"
nonrec def apA:adK:=apX "\"aA\" + }"
nonrec def apT:adK:=apX "\"aT\" + }"
nonrec def apM:adK:=apX "\"aM\" + }"
end
set_option genInjectivity false
set_option genSizeOf false
set_option tactic.hygienic false
set_option compiler.extract_closed false
local macro_rules (kind := Lean.Parser.Tactic.rewriteSeq) | s => xRw s (((s.getArg 2).getArg 1).getArg 0) ((s.getArg 2).getArg 1).getArgs
local macro_rules (kind := Lean.Parser.Term.omission) | s => xL [s] "omi"
local macro_rules (kind := PySem.W.tacticK_extra_) | s => xL [] ((s.getArg 1).isStrLit?.getD "")
local macro_rules (kind := char) | s => xL [] (s.getArg 0).getAtomVal
local macro_rules (kind := Lean.Parser.Tactic.symm) | s => xL [] "symm"
local macro_rules (kind := Lean.Parser.Tactic.left) | s => xL [] "left"
local macro_rules (kind := Lean.Parser.Tactic.show) | s => xL [s.getArg 1] "sho"
local macro_rules (kind := Lean.Parser.Tactic.change) | s => if (s.getArg 2).getNumArgs == 0 then xL [s.getArg 1] "chg" else acb
local macro_rules (kind := Lean.Parser.Tactic.tacticLet__) | s => xLt ((s.getArg 2).getArg 0)
set_option hygiene true
variable{M:Model} {A:ads} {E Qr E':Value→aas→Prop} {s x y sep xn:Str} {v u acc:Value} {b:Bool} {i k ep j n ge ch:Nat} {a l L d it va fN dx ct cl cr ce:Addr} {P0:Prop} {s':aas} {t:Sem Value} {m mm:Str→Option Value} {p p' ap np cpos px py pt pp pn:Pos} {vs:Array Value} {o' ob ol:Obj} {h h':Heap} {P:Str→Bool} {args:List Expr} {kws kvs binds:List (Str×Value)} {RR:Result→aas→Prop} {body orelse suite:List Stmt} {op:Operator} {env:Env} {ents:List abM} {T newId initId:String} {test value slice iter target elt:Expr} {lower upper:Option Expr} {b₀:Stmt} {rest:List ExceptHandler} {w:World} {cd:Code} {ss z ps N names rl gv dn ev nms:List Str} {q:Nat→Bool} {Gp:Array ach} {gs gs':ach} {α β:Type} {res:Option (List Str)} {scope:Scope} {jX:List Comprehension} {tab:List (Str×Addr)} {cmp:Nat→Nat→(Bool→aas→Prop)→aas→Prop} {f':Int×List Str→Int×List Str} {aC:List (Str×Nat)} {v0:Option Str} {pF fF:Int} {cf:List Str→Bool}
section
variable{c:Prop} {s:aas}
section
variable{G:Prop}{α:Sort _}{β:Sort _}{γ:Sort _}{δ:Sort _}{ε:Sort _}{ζ:Sort _}{η:Sort _}{θ:Sort _}{ι:Sort _}{P Q R S T U V W:Prop}{P1 Q1 R1 S1 T1 U1 V1 W1:α→Prop}{P2 Q2 R2 S2 T2 U2 V2 W2:α→β→Prop}{P3 Q3 R3 S3 T3 U3 V3 W3 X3 Y3 Z3:α→β→γ→Prop}{P4 Q4 R4 S4 T4 U4 V4 W4 X4 Y4 Z4:α→β→γ→δ→Prop}{P5 Q5 R5 S5 T5 U5 V5 W5 X5 Y5 Z5 H5 I5:α→β→γ→δ→ε→Prop}{P6 Q6 R6 S6 T6 U6 V6 W6:α→β→γ→δ→ε→ζ→Prop}{P7 Q7 R7 S7 T7 U7 V7 W7:α→β→γ→δ→ε→ζ→η→Prop}{P8 Q8 R8 S8 T8 U8 V8:α→β→γ→δ→ε→ζ→η→θ→Prop}{P9 Q9 R9 S9 T9 U9 V9:α→β→γ→δ→ε→ζ→η→θ→ι→Prop}
theorem eA(h:P∧Q)(k:P→Q→G):G:=k h.1 h.2
theorem eE(h:∃x,P1 x)(k:∀x,P1 x→G):G:=h.elim k
theorem pZ(h:P∧Q∧R)(k:P→Q→R→G):G:=eA h.2 (k h.1)
theorem TB(h:P∧∃x,Q1 x)(k:P→∀x,Q1 x→G):G:=eE h.2 (k h.1)
theorem ak(h:∃x,P1 x∧Q1 x)(k:∀x,P1 x→Q1 x→G):G:=h.elim λx h=>eA h (k x)
theorem D0(h:∃x y,P2 x y)(k:∀x y,P2 x y→G):G:=h.elim λx h=>eE h (k x)
theorem jd(h:P∧Q∧R∧S)(k:P→Q→R→S→G):G:=pZ h.2 (k h.1)
theorem IQ(h:P∧Q∧∃x,R1 x)(k:P→Q→∀x,R1 x→G):G:=TB h.2 (k h.1)
theorem AT(h:P∧∃x,Q1 x∧R1 x)(k:P→∀x,Q1 x→R1 x→G):G:=ak h.2 (k h.1)
theorem IR(h:P∧∃x y,Q2 x y)(k:P→∀x y,Q2 x y→G):G:=D0 h.2 (k h.1)
theorem bN(h:∃x,P1 x∧Q1 x∧R1 x)(k:∀x,P1 x→Q1 x→R1 x→G):G:=h.elim λx h=>pZ h (k x)
theorem IS(h:∃x,P1 x∧∃y,Q2 x y)(k:∀x,P1 x→∀y,Q2 x y→G):G:=h.elim λx h=>TB h (k x)
theorem cI(h:∃x y,P2 x y∧Q2 x y)(k:∀x y,P2 x y→Q2 x y→G):G:=h.elim λx h=>ak h (k x)
theorem vT(h:∃x y z,P3 x y z)(k:∀x y z,P3 x y z→G):G:=h.elim λx h=>D0 h (k x)
theorem GU(h:P∧Q∧R∧S∧T)(k:P→Q→R→S→T→G):G:=jd h.2 (k h.1)
theorem xf(h:P∧Q∧∃x,R1 x∧S1 x)(k:P→Q→∀x,R1 x→S1 x→G):G:=AT h.2 (k h.1)
theorem OQ(h:P∧∃x,Q1 x∧R1 x∧S1 x)(k:P→∀x,Q1 x→R1 x→S1 x→G):G:=bN h.2 (k h.1)
theorem GV(h:P∧∃x y,Q2 x y∧R2 x y)(k:P→∀x y,Q2 x y→R2 x y→G):G:=cI h.2 (k h.1)
theorem OR(h:P∧∃x y z,Q3 x y z)(k:P→∀x y z,Q3 x y z→G):G:=vT h.2 (k h.1)
theorem kJ(h:∃x,P1 x∧Q1 x∧R1 x∧S1 x)(k:∀x,P1 x→Q1 x→R1 x→S1 x→G):G:=h.elim λx h=>jd h (k x)
theorem OS(h:∃x,P1 x∧Q1 x∧∃y,R2 x y)(k:∀x,P1 x→Q1 x→∀y,R2 x y→G):G:=h.elim λx h=>IQ h (k x)
theorem oy(h:∃x,P1 x∧∃y,Q2 x y∧R2 x y)(k:∀x,P1 x→∀y,Q2 x y→R2 x y→G):G:=h.elim λx h=>AT h (k x)
theorem t8(h:∃x,P1 x∧∃y z,Q3 x y z)(k:∀x,P1 x→∀y z,Q3 x y z→G):G:=h.elim λx h=>IR h (k x)
theorem bG(h:∃x y,P2 x y∧Q2 x y∧R2 x y)(k:∀x y,P2 x y→Q2 x y→R2 x y→G):G:=h.elim λx h=>bN h (k x)
theorem qG(h:∃x y z,P3 x y z∧Q3 x y z)(k:∀x y z,P3 x y z→Q3 x y z→G):G:=h.elim λx h=>cI h (k x)
theorem AU(h:P∧Q∧R∧S∧T∧U)(k:P→Q→R→S→T→U→G):G:=GU h.2 (k h.1)
theorem AW(h:P∧∃x y,Q2 x y∧R2 x y∧S2 x y)(k:P→∀x y,Q2 x y→R2 x y→S2 x y→G):G:=bG h.2 (k h.1)
theorem IT(h:P∧∃x y z,Q3 x y z∧R3 x y z)(k:P→∀x y z,Q3 x y z→R3 x y z→G):G:=qG h.2 (k h.1)
theorem oz(h:∃x,P1 x∧Q1 x∧R1 x∧S1 x∧T1 x)(k:∀x,P1 x→Q1 x→R1 x→S1 x→T1 x→G):G:=h.elim λx h=>GU h (k x)
theorem vU(h:∃x,P1 x∧Q1 x∧∃y,R2 x y∧S2 x y)(k:∀x,P1 x→Q1 x→∀y,R2 x y→S2 x y→G):G:=h.elim λx h=>xf h (k x)
theorem IU(h:∃x,P1 x∧∃y,Q2 x y∧R2 x y∧S2 x y)(k:∀x,P1 x→∀y,Q2 x y→R2 x y→S2 x y→G):G:=h.elim λx h=>OQ h (k x)
theorem gS(h:∃x,P1 x∧∃y z,Q3 x y z∧R3 x y z)(k:∀x,P1 x→∀y z,Q3 x y z→R3 x y z→G):G:=h.elim λx h=>GV h (k x)
theorem AX(h:∃x,P1 x∧∃y z w,Q4 x y z w)(k:∀x,P1 x→∀y z w,Q4 x y z w→G):G:=h.elim λx h=>OR h (k x)
theorem lV(h:∃x y,P2 x y∧Q2 x y∧R2 x y∧S2 x y)(k:∀x y,P2 x y→Q2 x y→R2 x y→S2 x y→G):G:=h.elim λx h=>kJ h (k x)
theorem lW(h:∃x y z,P3 x y z∧Q3 x y z∧R3 x y z)(k:∀x y z,P3 x y z→Q3 x y z→R3 x y z→G):G:=h.elim λx h=>bG h (k x)
theorem vV(h:∃x y z w,P4 x y z w∧Q4 x y z w)(k:∀x y z w,P4 x y z w→Q4 x y z w→G):G:=h.elim λx h=>qG h (k x)
theorem nW(h:P∧Q∧R∧S∧T∧U∧V)(k:P→Q→R→S→T→U→V→G):G:=AU h.2 (k h.1)
theorem xg(h:P∧Q∧∃x y,R2 x y∧S2 x y∧T2 x y)(k:P→Q→∀x y,R2 x y→S2 x y→T2 x y→G):G:=AW h.2 (k h.1)
theorem D4(h:P∧Q∧∃x y z,R3 x y z∧S3 x y z)(k:P→Q→∀x y z,R3 x y z→S3 x y z→G):G:=IT h.2 (k h.1)
theorem D5(h:P∧∃x,Q1 x∧R1 x∧S1 x∧T1 x∧U1 x)(k:P→∀x,Q1 x→R1 x→S1 x→T1 x→U1 x→G):G:=oz h.2 (k h.1)
theorem D6(h:P∧∃x y,Q2 x y∧R2 x y∧S2 x y∧T2 x y)(k:P→∀x y,Q2 x y→R2 x y→S2 x y→T2 x y→G):G:=lV h.2 (k h.1)
theorem D7(h:∃x,P1 x∧Q1 x∧R1 x∧S1 x∧T1 x∧U1 x)(k:∀x,P1 x→Q1 x→R1 x→S1 x→T1 x→U1 x→G):G:=h.elim λx h=>AU h (k x)
theorem rB(h:∃x,P1 x∧∃y z,Q3 x y z∧R3 x y z∧S3 x y z)(k:∀x,P1 x→∀y z,Q3 x y z→R3 x y z→S3 x y z→G):G:=h.elim λx h=>AW h (k x)
theorem nX(h:∃x y,P2 x y∧Q2 x y∧R2 x y∧S2 x y∧T2 x y)(k:∀x y,P2 x y→Q2 x y→R2 x y→S2 x y→T2 x y→G):G:=h.elim λx h=>oz h (k x)
theorem D8(h:∃x y,P2 x y∧Q2 x y∧∃z,R3 x y z∧S3 x y z)(k:∀x y,P2 x y→Q2 x y→∀z,R3 x y z→S3 x y z→G):G:=h.elim λx h=>vU h (k x)
theorem eN(h:∃x y z,P3 x y z∧Q3 x y z∧R3 x y z∧S3 x y z)(k:∀x y z,P3 x y z→Q3 x y z→R3 x y z→S3 x y z→G):G:=h.elim λx h=>lV h (k x)
theorem nY(h:∃x y z w,P4 x y z w∧Q4 x y z w∧R4 x y z w)(k:∀x y z w,P4 x y z w→Q4 x y z w→R4 x y z w→G):G:=h.elim λx h=>lW h (k x)
theorem D9(h:∃x y z w u,P5 x y z w u∧Q5 x y z w u)(k:∀x y z w u,P5 x y z w u→Q5 x y z w u→G):G:=h.elim λx h=>vV h (k x)
theorem AY(h:P∧Q∧R∧S∧T∧U∧V∧W)(k:P→Q→R→S→T→U→V→W→G):G:=nW h.2 (k h.1)
theorem AZ(h:P∧Q∧R∧∃x y z,S3 x y z∧T3 x y z)(k:P→Q→R→∀x y z,S3 x y z→T3 x y z→G):G:=D4 h.2 (k h.1)
theorem t9(h:P∧Q∧∃x y,R2 x y∧S2 x y∧T2 x y∧U2 x y)(k:P→Q→∀x y,R2 x y→S2 x y→T2 x y→U2 x y→G):G:=D6 h.2 (k h.1)
theorem A_(h:P∧∃x y z,Q3 x y z∧R3 x y z∧S3 x y z∧T3 x y z)(k:P→∀x y z,Q3 x y z→R3 x y z→S3 x y z→T3 x y z→G):G:=eN h.2 (k h.1)
theorem Ba(h:∃x,P1 x∧Q1 x∧R1 x∧S1 x∧T1 x∧U1 x∧V1 x)(k:∀x,P1 x→Q1 x→R1 x→S1 x→T1 x→U1 x→V1 x→G):G:=h.elim λx h=>nW h (k x)
theorem t_(h:∃x y,P2 x y∧Q2 x y∧R2 x y∧S2 x y∧T2 x y∧U2 x y)(k:∀x y,P2 x y→Q2 x y→R2 x y→S2 x y→T2 x y→U2 x y→G):G:=h.elim λx h=>D7 h (k x)
theorem je(h:∃x y z,P3 x y z∧Q3 x y z∧R3 x y z∧S3 x y z∧T3 x y z)(k:∀x y z,P3 x y z→Q3 x y z→R3 x y z→S3 x y z→T3 x y z→G):G:=h.elim λx h=>nX h (k x)
theorem ub(h:∃x y z w,P4 x y z w∧Q4 x y z w∧R4 x y z w∧S4 x y z w)(k:∀x y z w,P4 x y z w→Q4 x y z w→R4 x y z w→S4 x y z w→G):G:=h.elim λx h=>eN h (k x)
theorem Bb(h:∃x y z w u,P5 x y z w u∧Q5 x y z w u∧R5 x y z w u)(k:∀x y z w u,P5 x y z w u→Q5 x y z w u→R5 x y z w u→G):G:=h.elim λx h=>nY h (k x)
theorem Bc(h:∃x y z w u v,P6 x y z w u v∧Q6 x y z w u v)(k:∀x y z w u v,P6 x y z w u v→Q6 x y z w u v→G):G:=h.elim λx h=>D9 h (k x)
theorem yP(h:∃x,P1 x∧Q1 x∧R1 x∧S1 x∧T1 x∧U1 x∧V1 x∧W1 x)(k:∀x,P1 x→Q1 x→R1 x→S1 x→T1 x→U1 x→V1 x→W1 x→G):G:=h.elim λx h=>AY h (k x)
theorem yQ(h:∃x,P1 x∧Q1 x∧R1 x∧∃y z w,S4 x y z w∧T4 x y z w)(k:∀x,P1 x→Q1 x→R1 x→∀y z w,S4 x y z w→T4 x y z w→G):G:=h.elim λx h=>AZ h (k x)
theorem yR(h:∃x,P1 x∧∃y z w,Q4 x y z w∧R4 x y z w∧S4 x y z w∧T4 x y z w)(k:∀x,P1 x→∀y z w,Q4 x y z w→R4 x y z w→S4 x y z w→T4 x y z w→G):G:=h.elim λx h=>A_ h (k x)
theorem yS(h:∃x y,P2 x y∧Q2 x y∧R2 x y∧S2 x y∧T2 x y∧U2 x y∧V2 x y)(k:∀x y,P2 x y→Q2 x y→R2 x y→S2 x y→T2 x y→U2 x y→V2 x y→G):G:=h.elim λx h=>Ba h (k x)
theorem lX(h:∃x y z,P3 x y z∧Q3 x y z∧R3 x y z∧S3 x y z∧T3 x y z∧U3 x y z)(k:∀x y z,P3 x y z→Q3 x y z→R3 x y z→S3 x y z→T3 x y z→U3 x y z→G):G:=h.elim λx h=>t_ h (k x)
theorem lY(h:∃x y z w,P4 x y z w∧Q4 x y z w∧R4 x y z w∧S4 x y z w∧T4 x y z w)(k:∀x y z w,P4 x y z w→Q4 x y z w→R4 x y z w→S4 x y z w→T4 x y z w→G):G:=h.elim λx h=>je h (k x)
theorem qH(h:∃x y z w u,P5 x y z w u∧Q5 x y z w u∧R5 x y z w u∧S5 x y z w u)(k:∀x y z w u,P5 x y z w u→Q5 x y z w u→R5 x y z w u→S5 x y z w u→G):G:=h.elim λx h=>ub h (k x)
theorem yT(h:∃x y z w u v,P6 x y z w u v∧Q6 x y z w u v∧R6 x y z w u v)(k:∀x y z w u v,P6 x y z w u v→Q6 x y z w u v→R6 x y z w u v→G):G:=h.elim λx h=>Bb h (k x)
theorem yU(h:∃x y z w u v s,P7 x y z w u v s∧Q7 x y z w u v s)(k:∀x y z w u v s,P7 x y z w u v s→Q7 x y z w u v s→G):G:=h.elim λx h=>Bc h (k x)
theorem IV(h:P∧∃x y z w u v,Q6 x y z w u v∧R6 x y z w u v∧S6 x y z w u v)(k:P→∀x y z w u v,Q6 x y z w u v→R6 x y z w u v→S6 x y z w u v→G):G:=yT h.2 (k h.1)
theorem vW(h:∃x y,P2 x y∧Q2 x y∧R2 x y∧S2 x y∧T2 x y∧U2 x y∧V2 x y∧W2 x y)(k:∀x y,P2 x y→Q2 x y→R2 x y→S2 x y→T2 x y→U2 x y→V2 x y→W2 x y→G):G:=h.elim λx h=>yP h (k x)
theorem vX(h:∃x y,P2 x y∧Q2 x y∧R2 x y∧∃z w u,S5 x y z w u∧T5 x y z w u)(k:∀x y,P2 x y→Q2 x y→R2 x y→∀z w u,S5 x y z w u→T5 x y z w u→G):G:=h.elim λx h=>yQ h (k x)
theorem vY(h:∃x y z,P3 x y z∧Q3 x y z∧R3 x y z∧S3 x y z∧T3 x y z∧U3 x y z∧V3 x y z)(k:∀x y z,P3 x y z→Q3 x y z→R3 x y z→S3 x y z→T3 x y z→U3 x y z→V3 x y z→G):G:=h.elim λx h=>yS h (k x)
theorem oA(h:∃x y z w,P4 x y z w∧Q4 x y z w∧R4 x y z w∧S4 x y z w∧T4 x y z w∧U4 x y z w)(k:∀x y z w,P4 x y z w→Q4 x y z w→R4 x y z w→S4 x y z w→T4 x y z w→U4 x y z w→G):G:=h.elim λx h=>lX h (k x)
theorem oB(h:∃x y z w u,P5 x y z w u∧Q5 x y z w u∧R5 x y z w u∧S5 x y z w u∧T5 x y z w u)(k:∀x y z w u,P5 x y z w u→Q5 x y z w u→R5 x y z w u→S5 x y z w u→T5 x y z w u→G):G:=h.elim λx h=>lY h (k x)
theorem vZ(h:∃x y z w u v,P6 x y z w u v∧Q6 x y z w u v∧R6 x y z w u v∧S6 x y z w u v)(k:∀x y z w u v,P6 x y z w u v→Q6 x y z w u v→R6 x y z w u v→S6 x y z w u v→G):G:=h.elim λx h=>qH h (k x)
theorem v4(h:∃x y z w u v s t,P8 x y z w u v s t∧Q8 x y z w u v s t)(k:∀x y z w u v s t,P8 x y z w u v s t→Q8 x y z w u v s t→G):G:=h.elim λx h=>yU h (k x)
theorem uc(h:P∧∃x y,Q2 x y∧R2 x y∧S2 x y∧∃z w u,T5 x y z w u∧U5 x y z w u)(k:P→∀x y,Q2 x y→R2 x y→S2 x y→∀z w u,T5 x y z w u→U5 x y z w u→G):G:=vX h.2 (k h.1)
theorem mU(h:∃x y z,P3 x y z∧Q3 x y z∧R3 x y z∧S3 x y z∧T3 x y z∧U3 x y z∧V3 x y z∧W3 x y z)(k:∀x y z,P3 x y z→Q3 x y z→R3 x y z→S3 x y z→T3 x y z→U3 x y z→V3 x y z→W3 x y z→G):G:=h.elim λx h=>vW h (k x)
theorem ud(h:∃x y z w,P4 x y z w∧Q4 x y z w∧R4 x y z w∧S4 x y z w∧T4 x y z w∧U4 x y z w∧V4 x y z w)(k:∀x y z w,P4 x y z w→Q4 x y z w→R4 x y z w→S4 x y z w→T4 x y z w→U4 x y z w→V4 x y z w→G):G:=h.elim λx h=>vY h (k x)
theorem ue(h:∃x y z w u,P5 x y z w u∧Q5 x y z w u∧R5 x y z w u∧S5 x y z w u∧T5 x y z w u∧U5 x y z w u)(k:∀x y z w u,P5 x y z w u→Q5 x y z w u→R5 x y z w u→S5 x y z w u→T5 x y z w u→U5 x y z w u→G):G:=h.elim λx h=>oA h (k x)
theorem gq(h:∃x y z w u v,P6 x y z w u v∧Q6 x y z w u v∧R6 x y z w u v∧S6 x y z w u v∧T6 x y z w u v)(k:∀x y z w u v,P6 x y z w u v→Q6 x y z w u v→R6 x y z w u v→S6 x y z w u v→T6 x y z w u v→G):G:=h.elim λx h=>oB h (k x)
theorem GW(h:∃x y z w u v s t a,P9 x y z w u v s t a∧Q9 x y z w u v s t a)(k:∀x y z w u v s t a,P9 x y z w u v s t a→Q9 x y z w u v s t a→G):G:=h.elim λx h=>v4 h (k x)
theorem rC(h:P∧Q∧∃x y,R2 x y∧S2 x y∧T2 x y∧∃z w u,U5 x y z w u∧V5 x y z w u)(k:P→Q→∀x y,R2 x y→S2 x y→T2 x y→∀z w u,U5 x y z w u→V5 x y z w u→G):G:=uc h.2 (k h.1)
theorem rD(h:P∧∃x y z,Q3 x y z∧R3 x y z∧S3 x y z∧T3 x y z∧U3 x y z∧V3 x y z∧W3 x y z∧X3 x y z)(k:P→∀x y z,Q3 x y z→R3 x y z→S3 x y z→T3 x y z→U3 x y z→V3 x y z→W3 x y z→X3 x y z→G):G:=mU h.2 (k h.1)
theorem rE(h:∃x y z w,P4 x y z w∧Q4 x y z w∧R4 x y z w∧S4 x y z w∧T4 x y z w∧U4 x y z w∧V4 x y z w∧W4 x y z w)(k:∀x y z w,P4 x y z w→Q4 x y z w→R4 x y z w→S4 x y z w→T4 x y z w→U4 x y z w→V4 x y z w→W4 x y z w→G):G:=h.elim λx h=>mU h (k x)
theorem rF(h:∃x y z w u,P5 x y z w u∧Q5 x y z w u∧R5 x y z w u∧S5 x y z w u∧T5 x y z w u∧U5 x y z w u∧V5 x y z w u)(k:∀x y z w u,P5 x y z w u→Q5 x y z w u→R5 x y z w u→S5 x y z w u→T5 x y z w u→U5 x y z w u→V5 x y z w u→G):G:=h.elim λx h=>ud h (k x)
theorem dZ(h:∃x y z w u v,P6 x y z w u v∧Q6 x y z w u v∧R6 x y z w u v∧S6 x y z w u v∧T6 x y z w u v∧U6 x y z w u v)(k:∀x y z w u v,P6 x y z w u v→Q6 x y z w u v→R6 x y z w u v→S6 x y z w u v→T6 x y z w u v→U6 x y z w u v→G):G:=h.elim λx h=>ue h (k x)
theorem rG(h:∃x y z w u v s,P7 x y z w u v s∧Q7 x y z w u v s∧R7 x y z w u v s∧S7 x y z w u v s∧T7 x y z w u v s)(k:∀x y z w u v s,P7 x y z w u v s→Q7 x y z w u v s→R7 x y z w u v s→S7 x y z w u v s→T7 x y z w u v s→G):G:=h.elim λx h=>gq h (k x)
theorem p7(h:P∧Q∧∃x y z,R3 x y z∧S3 x y z∧T3 x y z∧U3 x y z∧V3 x y z∧W3 x y z∧X3 x y z∧Y3 x y z)(k:P→Q→∀x y z,R3 x y z→S3 x y z→T3 x y z→U3 x y z→V3 x y z→W3 x y z→X3 x y z→Y3 x y z→G):G:=rD h.2 (k h.1)
theorem p8(h:P∧∃x y z w u v,Q6 x y z w u v∧R6 x y z w u v∧S6 x y z w u v∧T6 x y z w u v∧U6 x y z w u v∧V6 x y z w u v)(k:P→∀x y z w u v,Q6 x y z w u v→R6 x y z w u v→S6 x y z w u v→T6 x y z w u v→U6 x y z w u v→V6 x y z w u v→G):G:=dZ h.2 (k h.1)
theorem p9(h:∃x y z w u,P5 x y z w u∧Q5 x y z w u∧R5 x y z w u∧S5 x y z w u∧T5 x y z w u∧U5 x y z w u∧V5 x y z w u∧W5 x y z w u)(k:∀x y z w u,P5 x y z w u→Q5 x y z w u→R5 x y z w u→S5 x y z w u→T5 x y z w u→U5 x y z w u→V5 x y z w u→W5 x y z w u→G):G:=h.elim λx h=>rE h (k x)
theorem cX(h:∃x y z w u v,P6 x y z w u v∧Q6 x y z w u v∧R6 x y z w u v∧S6 x y z w u v∧T6 x y z w u v∧U6 x y z w u v∧V6 x y z w u v)(k:∀x y z w u v,P6 x y z w u v→Q6 x y z w u v→R6 x y z w u v→S6 x y z w u v→T6 x y z w u v→U6 x y z w u v→V6 x y z w u v→G):G:=h.elim λx h=>rF h (k x)
theorem p_(h:∃x y z w u v s t,P8 x y z w u v s t∧Q8 x y z w u v s t∧R8 x y z w u v s t∧S8 x y z w u v s t∧T8 x y z w u v s t)(k:∀x y z w u v s t,P8 x y z w u v s t→Q8 x y z w u v s t→R8 x y z w u v s t→S8 x y z w u v s t→T8 x y z w u v s t→G):G:=h.elim λx h=>rG h (k x)
theorem oE(h:P∧Q∧R∧∃x y z,S3 x y z∧T3 x y z∧U3 x y z∧V3 x y z∧W3 x y z∧X3 x y z∧Y3 x y z∧Z3 x y z)(k:P→Q→R→∀x y z,S3 x y z→T3 x y z→U3 x y z→V3 x y z→W3 x y z→X3 x y z→Y3 x y z→Z3 x y z→G):G:=p7 h.2 (k h.1)
theorem oF(h:∃x,P1 x∧∃y z w u v s,Q7 x y z w u v s∧R7 x y z w u v s∧S7 x y z w u v s∧T7 x y z w u v s∧U7 x y z w u v s∧V7 x y z w u v s)(k:∀x,P1 x→∀y z w u v s,Q7 x y z w u v s→R7 x y z w u v s→S7 x y z w u v s→T7 x y z w u v s→U7 x y z w u v s→V7 x y z w u v s→G):G:=h.elim λx h=>p8 h (k x)
theorem oG(h:∃x y z w u v,P6 x y z w u v∧Q6 x y z w u v∧R6 x y z w u v∧S6 x y z w u v∧T6 x y z w u v∧U6 x y z w u v∧V6 x y z w u v∧W6 x y z w u v)(k:∀x y z w u v,P6 x y z w u v→Q6 x y z w u v→R6 x y z w u v→S6 x y z w u v→T6 x y z w u v→U6 x y z w u v→V6 x y z w u v→W6 x y z w u v→G):G:=h.elim λx h=>p9 h (k x)
theorem jf(h:∃x y z w u v s,P7 x y z w u v s∧Q7 x y z w u v s∧R7 x y z w u v s∧S7 x y z w u v s∧T7 x y z w u v s∧U7 x y z w u v s∧V7 x y z w u v s)(k:∀x y z w u v s,P7 x y z w u v s→Q7 x y z w u v s→R7 x y z w u v s→S7 x y z w u v s→T7 x y z w u v s→U7 x y z w u v s→V7 x y z w u v s→G):G:=h.elim λx h=>cX h (k x)
theorem nz(h:∃x,P1 x∧Q1 x∧R1 x∧∃y z w,S4 x y z w∧T4 x y z w∧U4 x y z w∧V4 x y z w∧W4 x y z w∧X4 x y z w∧Y4 x y z w∧Z4 x y z w)(k:∀x,P1 x→Q1 x→R1 x→∀y z w,S4 x y z w→T4 x y z w→U4 x y z w→V4 x y z w→W4 x y z w→X4 x y z w→Y4 x y z w→Z4 x y z w→G):G:=h.elim λx h=>oE h (k x)
theorem nA(h:∃x y z w u v s,P7 x y z w u v s∧Q7 x y z w u v s∧R7 x y z w u v s∧S7 x y z w u v s∧T7 x y z w u v s∧U7 x y z w u v s∧V7 x y z w u v s∧W7 x y z w u v s)(k:∀x y z w u v s,P7 x y z w u v s→Q7 x y z w u v s→R7 x y z w u v s→S7 x y z w u v s→T7 x y z w u v s→U7 x y z w u v s→V7 x y z w u v s→W7 x y z w u v s→G):G:=h.elim λx h=>oG h (k x)
theorem nB(h:∃x y z w u v s t,P8 x y z w u v s t∧Q8 x y z w u v s t∧R8 x y z w u v s t∧S8 x y z w u v s t∧T8 x y z w u v s t∧U8 x y z w u v s t∧V8 x y z w u v s t)(k:∀x y z w u v s t,P8 x y z w u v s t→Q8 x y z w u v s t→R8 x y z w u v s t→S8 x y z w u v s t→T8 x y z w u v s t→U8 x y z w u v s t→V8 x y z w u v s t→G):G:=h.elim λx h=>jf h (k x)
theorem lZ(h:∃x y,P2 x y∧Q2 x y∧R2 x y∧∃z w u,S5 x y z w u∧T5 x y z w u∧U5 x y z w u∧V5 x y z w u∧W5 x y z w u∧X5 x y z w u∧Y5 x y z w u∧Z5 x y z w u)(k:∀x y,P2 x y→Q2 x y→R2 x y→∀z w u,S5 x y z w u→T5 x y z w u→U5 x y z w u→V5 x y z w u→W5 x y z w u→X5 x y z w u→Y5 x y z w u→Z5 x y z w u→G):G:=h.elim λx h=>nz h (k x)
theorem hW(h:∃x y z w u v s t a,P9 x y z w u v s t a∧Q9 x y z w u v s t a∧R9 x y z w u v s t a∧S9 x y z w u v s t a∧T9 x y z w u v s t a∧U9 x y z w u v s t a∧V9 x y z w u v s t a)(k:∀x y z w u v s t a,P9 x y z w u v s t a→Q9 x y z w u v s t a→R9 x y z w u v s t a→S9 x y z w u v s t a→T9 x y z w u v s t a→U9 x y z w u v s t a→V9 x y z w u v s t a→G):G:=h.elim λx h=>nB h (k x)
theorem kK(h:P∧∃x y,Q2 x y∧R2 x y∧S2 x y∧∃z w u,T5 x y z w u∧U5 x y z w u∧V5 x y z w u∧W5 x y z w u∧X5 x y z w u∧Y5 x y z w u∧Z5 x y z w u∧H5 x y z w u)(k:P→∀x y,Q2 x y→R2 x y→S2 x y→∀z w u,T5 x y z w u→U5 x y z w u→V5 x y z w u→W5 x y z w u→X5 x y z w u→Y5 x y z w u→Z5 x y z w u→H5 x y z w u→G):G:=lZ h.2 (k h.1)
theorem kh(h:P∧Q∧∃x y,R2 x y∧S2 x y∧T2 x y∧∃z w u,U5 x y z w u∧V5 x y z w u∧W5 x y z w u∧X5 x y z w u∧Y5 x y z w u∧Z5 x y z w u∧H5 x y z w u∧I5 x y z w u)(k:P→Q→∀x y,R2 x y→S2 x y→T2 x y→∀z w u,U5 x y z w u→V5 x y z w u→W5 x y z w u→X5 x y z w u→Y5 x y z w u→Z5 x y z w u→H5 x y z w u→I5 x y z w u→G):G:=kK h.2 (k h.1)
end
open PySem PyProof.Rows PySem.Calls in
theorem IW{α:Type}[Decidable c]{a b:Sem α}{Q:α→aas→Prop}(h:c)(k:wpAny M A a Q E s):wpAny M A (if c then a else b) Q E s:=by rw[if_pos h];exact k
open PySem PyProof.Rows PySem.Calls in
theorem qI{α:Type}[Decidable c]{a b:Sem α}{Q:α→aas→Prop}(h:¬c)(k:wpAny M A b Q E s):wpAny M A (if c then a else b) Q E s:=by rw[if_neg h];exact k
end
section
variable{i:Int}
abbrev prog:Program:=PySem.Challenge.pw_ik0092_01
inductive AV where
 |none|bool (b:Bool)|int (i:Int)|str (s:Str)|type (n:String)|bi (id:String)|ref (a:Addr)|oth (v:Value)
def ab:Value→AV
 | .none=>.none| .bool b=>.bool b| .int i _=>.int i| .str s _=>.str s| .type n=>.type n
 | .builtin i=>.bi i| .ref a=>.ref a|v=>.oth v
theorem eO(h:ab v= .none):v= .none:=by cases v<;>first|rfl|cases h
theorem gr(h:ab v= .bool b):v= .bool b:=by cases v<;>first|(cases h;rfl)|cases h
theorem aP(h:ab v= .int i):∃t,v= .int i t:=by cases v<;>first|(cases h;exact⟨_,rfl⟩)|cases h
theorem aD(h:ab v= .str x):∃t,v= .str x t:=by cases v<;>first|(cases h;exact⟨_,rfl⟩)|cases h
theorem bI{n:String}(h:ab v= .type n):v= .type n:=by cases v<;>first|(cases h;rfl)|cases h
theorem dT{n:String}(h:ab v= .bi n):v= .builtin n:=by cases v<;>first|(cases h;rfl)|cases h
theorem aj(h:ab v= .ref a):v= .ref a:=by cases v<;>first|(cases h;rfl)|cases h
inductive AO where
 |list (xs:List AV)
 |tup (xs:List AV)
 |dict (es:List (Str×AV)) (n:Nat)
 |inst (C d:Addr)
 |du (C d:Addr) (sl:List (Option AV))
 |cell (v:Option AV)
 |raw (o:Obj)
 |obj (P:Obj→Prop)
 |map (es:List (Str×AV)) (ep:Nat)
 |set (S:Str→Bool) (n:Nat)
 |v5 (m:Str→Option Value)
def qJ(P:aao)(p:Str×AV)(e:abM):Prop:=ab e.key= .str p.1∧ab e.val=p.2∧e.hash=PyData.keyHash P p.1
inductive oH{α β:Type}(R:α→β→Prop):List α→List β→Prop
 |nil:oH R [] []
 |cons:∀{a b l r},R a b→oH R l r→oH R (a::l) (b::r)
def OT(w:World)(kvs:List (Str×Value))(ep:Nat)(o:Obj):Prop:=∃arr,o.ExactDict∧o.data= .dict arr ep∧KeysOf (PySem.strKind prog w) arr∧Pairs (PySem.strKind prog w) arr.toList kvs∧(kvs.map (λx=>x.1)).Nodup
def isSet(w:World)(S:Str→Bool)(n:Nat)(o:Obj):Prop:=∃es ep t,o.ExactSet∧o.data= .set es ep t∧ElemsOf (PySem.strKind prog w) es.toList∧(∀k,S k=true↔∃e∈es.toList,(PySem.strKind prog w).is k e.2=true)∧es.size<scanBound∧t.fits es.size=true∧es.size=n
def p0(w:World):AO→Obj→Prop| .list xs,o=>∃vs n,o={cls:=.type "list",data:=.seq vs n}∧vs.toList.map ab=xs| .tup xs,o=>∃vs n,o={cls:=.type "tuple",data:=.seq vs n}∧vs.toList.map ab=xs| .dict es n,o=>(es.map (λx=>x.1)).Nodup∧∃ents:List abM,o=dictOf ents n∧oH (qJ w.params) es ents| .inst C d,o=>o=instObj C d| .du C d sl,o=>∃vs:Array (Option Value),o={instObj C d with slots:=vs}∧vs.toList.map (·.map ab)=sl| .cell v,o=>∃u,o.data= .cell u∧u.map ab=v| .raw r,o=>o=r∧r.isFreed=false| .obj P,o=>P o| .map es ep,o=>∃kvs,OT w kvs ep o∧kvs.map (λp=>(p.1,ab p.2))=es| .set S n,o=>isSet w S n o| .v5 m,o=>∃es ep,o.data= .dict es ep∧StrKeys es∧∀name,nsFind es name=m name
abbrev Cells:=List (Addr×AO)
structure SS where
 loc:List (Str×Option AV)
 cells:Cells
abbrev SS.ext(S:SS)(X:Cells):SS:=⟨S.loc,S.cells++X⟩
structure Fx where
 cn:Str
 cs:Scope
 a:Addr
 cd:Value
 gl:List (Str×Value)
structure TC(K:Frag)(mg mb:Str→Option Value)(h:Heap):Prop where
 g:h.Ns ab9 mg
 b:h.Ns abg mb
 bi:∀x:Str,x≠"__name__"→mb x=bootBuiltins x
 lim:h.NoLimit
 fg:K.In h
 sm:∃o,h.get? sysModules=some o
structure Cx where
 w:World
 K:Frag
 mg:Str→Option Value
 mb:Str→Option Value
 base:Heap
 aC:List (Env×(Str→Option Value))
 L:Addr
 fx:Fx
 env:Env
 comp:Bool
 hd:Option Value
 G:Array ach
 os:abV
namespace Cx
abbrev outer(c:Cx):List Env:=c.aC.map (λx=>x.1)
def frames(c:Cx):List Env:=match c.comp with
 |true=>c.outer
 |false=>c.env::c.outer
theorem dp{c:Cx}(h:c.comp=false):c.frames=c.env::c.outer:=by unfold frames;rw[h]
def In(c:Cx)(A:ads)(n:Nat):Prop:=A.frames=some c.frames∧A.handled=c.hd∧A.depth+n<adL∧A.units+8*n<cLine
structure Ok(c:Cx):Prop where
 eH:TC c.K c.mg c.mb c.base
 eL:c.env.locals=c.L
 eg:c.env.globals=ab9
 eb:c.env.builtins=abg
 kind:c.env.scope.kind= .function
 fr:c.comp=false→c.env.frame=some c.L
 above:c.base.objs.size≤c.L
 aC:∀f∈c.aC,f.1.frame=some f.1.locals∧f.1.scope.kind≠.module
 gl:∀p∈c.fx.gl,c.env.kindOf p.1=some .globalImplicit∧(p.1==("__debug__":Str))=false∧(c.mg p.1=some p.2∨(c.mg p.1=none∧bootBuiltins p.1=some p.2∧p.1≠"__name__"))
end Cx
structure Rp(c:Cx)(S:SS)(s:aas):Prop where
 stays:c.base.StaysIn s.heap
 ns:∃m,s.heap.Ns c.L m∧∀p∈S.loc,(m p.1).map ab=p.2
 aC:∀f∈c.aC,s.heap.Ns f.1.locals f.2
 cells:∀p∈S.cells,∃o,s.heap.get? p.1=some o∧p0 c.w p.2 o
 fresh:∀a∈c.L::(c.aC.map (λx=>x.1.locals)++S.cells.map (λx=>x.1)),c.base.get? a=none
 nd:(c.L::(c.aC.map (λx=>x.1.locals)++S.cells.map (λx=>x.1))).Nodup
 kL:(S.loc.map (λx=>x.1)).Nodup
 lk:∀x∈S.loc.map (λx=>x.1),c.env.kindOf x=some .local∧(x==("__debug__":Str))=false
 gens:∃r:Array ach,s.gens=c.G++r∧AllBare r
 os:s.os=c.os
 tk:0<s.toks
def qa(c:Cx)(k:Value)(e:Addr)(S:SS)(h:Heap):Prop:=c.base.get? e=none∧e∉S.cells.map (λx=>x.1)∧∃oe vs,h.get? e=some oe∧oe.cls=k∧oe.data= .fields vs∧(vs[1]? =some .none∨∃T oT ts,vs[1]? =some (.ref T)∧c.base.get? T=none∧T≠e∧T∉S.cells.map (λx=>x.1)∧h.get? T=some oT∧oT.data= .fields ts∧(ts[3]? =some .none∨ts[3]? =some (abJ c.L)))
abbrev EP:=Value→SS→Prop
def hZ:EP:=λzz zz=>False
theorem uf{α1:Sort _}{α2:Sort _}{α3:Sort _}{α4:Sort _}{α5:Sort _}{α6:Sort _}{fS:α1→α2→α3→α4→α5→α6→SS}{P8:α1→α2→α3→α4→α5→α6→Prop}{P9:α1→α2→α3→α4→α5→α6→Prop}{G:SS→Prop}(k:P0→∀x1:α1,∀x2:α2,∀x3:α3,∀x4:α4,∀x5:α5,∀x6:α6,P8 x1 x2 x3 x4 x5 x6→P9 x1 x2 x3 x4 x5 x6→G (fS x1 x2 x3 x4 x5 x6)):∀S,(P0∧∃x1:α1,∃x2:α2,∃x3:α3,∃x4:α4,∃x5:α5,∃x6:α6,S=fS x1 x2 x3 x4 x5 x6∧P8 x1 x2 x3 x4 x5 x6∧P9 x1 x2 x3 x4 x5 x6)→G S:=λS h=>by obtain⟨h0,x1,x2,x3,x4,x5,x6,rfl,h8,h9⟩:=h;exact k h0 x1 x2 x3 x4 x5 x6 h8 h9
theorem sAS{fS:SS}{G:SS→Prop}(k:P0→G fS):∀S,(P0∧S=fS)→G S:=λS h=>by obtain⟨h0,rfl⟩:=h;exact k h0
theorem IX{fv:AV}{α2:Sort _}{P3:α2→Prop}{fC:α2→Cells}{G:AV→Cells→Prop}(g:P0→∀x2:α2,P3 x2→G fv (fC x2)):∀v C,(P0∧v=fv∧∃x2:α2,P3 x2∧C=fC x2)→G v C:=λv C h=>by obtain⟨h0,rfl,x2,h3,rfl⟩:=h;exact g h0 x2 h3
theorem YI{α0:Sort _}{P1:α0→Prop}{fS:α0→SS}{G:SS→Prop}(k:∀x0:α0,P1 x0→G (fS x0)):∀S,(∃x0:α0,P1 x0∧S=fS x0)→G S:=λS h=>by obtain⟨x0,h1,rfl⟩:=h;exact k x0 h1
theorem rH{α0:Sort _}{α1:Sort _}{α2:Sort _}{α3:Sort _}{α4:Sort _}{α5:Sort _}{α6:Sort _}{α7:Sort _}{α8:Sort _}{fS:α0→α1→α2→α3→α4→α5→α6→α7→α8→SS}{P10:α0→α1→α2→α3→α4→α5→α6→α7→α8→Prop}{G:SS→Prop}(k:∀x0:α0,∀x1:α1,∀x2:α2,∀x3:α3,∀x4:α4,∀x5:α5,∀x6:α6,∀x7:α7,∀x8:α8,P10 x0 x1 x2 x3 x4 x5 x6 x7 x8→G (fS x0 x1 x2 x3 x4 x5 x6 x7 x8)):∀S,(∃x0:α0,∃x1:α1,∃x2:α2,∃x3:α3,∃x4:α4,∃x5:α5,∃x6:α6,∃x7:α7,∃x8:α8,S=fS x0 x1 x2 x3 x4 x5 x6 x7 x8∧P10 x0 x1 x2 x3 x4 x5 x6 x7 x8)→G S:=λS h=>by obtain⟨x0,x1,x2,x3,x4,x5,x6,x7,x8,rfl,yV⟩:=h;exact k x0 x1 x2 x3 x4 x5 x6 x7 x8 yV
theorem jg{α0:Sort _}{α1:Sort _}{α2:Sort _}{α3:Sort _}{α4:Sort _}{α5:Sort _}{α6:Sort _}{α7:Sort _}{fS:α0→α1→α2→α3→α4→α5→α6→α7→SS}{P9:α0→α1→α2→α3→α4→α5→α6→α7→Prop}{G:SS→Prop}(k:∀x0:α0,∀x1:α1,∀x2:α2,∀x3:α3,∀x4:α4,∀x5:α5,∀x6:α6,∀x7:α7,P9 x0 x1 x2 x3 x4 x5 x6 x7→G (fS x0 x1 x2 x3 x4 x5 x6 x7)):∀S,(∃x0:α0,∃x1:α1,∃x2:α2,∃x3:α3,∃x4:α4,∃x5:α5,∃x6:α6,∃x7:α7,S=fS x0 x1 x2 x3 x4 x5 x6 x7∧P9 x0 x1 x2 x3 x4 x5 x6 x7)→G S:=λS h=>by obtain⟨x0,x1,x2,x3,x4,x5,x6,x7,rfl,h9⟩:=h;exact k x0 x1 x2 x3 x4 x5 x6 x7 h9
theorem v6{α0:Sort _}{α1:Sort _}{α2:Sort _}{α3:Sort _}{α4:Sort _}{α5:Sort _}{fS:α0→α1→α2→α3→α4→α5→SS}{P7:α0→α1→α2→α3→α4→α5→Prop}{P8:α0→α1→α2→α3→α4→α5→Prop}{G:SS→Prop}(k:∀x0:α0,∀x1:α1,∀x2:α2,∀x3:α3,∀x4:α4,∀x5:α5,P7 x0 x1 x2 x3 x4 x5→P8 x0 x1 x2 x3 x4 x5→G (fS x0 x1 x2 x3 x4 x5)):∀S,(∃x0:α0,∃x1:α1,∃x2:α2,∃x3:α3,∃x4:α4,∃x5:α5,S=fS x0 x1 x2 x3 x4 x5∧P7 x0 x1 x2 x3 x4 x5∧P8 x0 x1 x2 x3 x4 x5)→G S:=λS h=>by obtain⟨x0,x1,x2,x3,x4,x5,rfl,h7,h8⟩:=h;exact k x0 x1 x2 x3 x4 x5 h7 h8
theorem Bd{α0:Sort _}{α1:Sort _}{α2:Sort _}{α3:Sort _}{α4:Sort _}{fS:α0→α1→α2→α3→α4→SS}{P6:α0→α1→α2→α3→α4→Prop}{G:SS→Prop}(k:∀x0:α0,∀x1:α1,∀x2:α2,∀x3:α3,∀x4:α4,P6 x0 x1 x2 x3 x4→G (fS x0 x1 x2 x3 x4)):∀S,(∃x0:α0,∃x1:α1,∃x2:α2,∃x3:α3,∃x4:α4,S=fS x0 x1 x2 x3 x4∧P6 x0 x1 x2 x3 x4)→G S:=λS h=>by obtain⟨x0,x1,x2,x3,x4,rfl,h6⟩:=h;exact k x0 x1 x2 x3 x4 h6
theorem qK{α0:Sort _}{α1:Sort _}{α2:Sort _}{α3:Sort _}{α4:Sort _}{fS:α0→α1→α2→α3→α4→SS}{P6:α0→α1→α2→α3→α4→Prop}{P7:α0→α1→α2→α3→α4→Prop}{G:SS→Prop}(k:∀x0:α0,∀x1:α1,∀x2:α2,∀x3:α3,∀x4:α4,P6 x0 x1 x2 x3 x4→P7 x0 x1 x2 x3 x4→G (fS x0 x1 x2 x3 x4)):∀S,(∃x0:α0,∃x1:α1,∃x2:α2,∃x3:α3,∃x4:α4,S=fS x0 x1 x2 x3 x4∧P6 x0 x1 x2 x3 x4∧P7 x0 x1 x2 x3 x4)→G S:=λS h=>by obtain⟨x0,x1,x2,x3,x4,rfl,h6,h7⟩:=h;exact k x0 x1 x2 x3 x4 h6 h7
theorem gU{α0:Sort _}{α1:Sort _}{α2:Sort _}{α3:Sort _}{α4:Sort _}{fS:α0→α1→α2→α3→α4→SS}{P6:α0→α1→α2→α3→α4→Prop}{P7:α0→α1→α2→α3→α4→Prop}{P8:α0→α1→α2→α3→α4→Prop}{P9:α0→α1→α2→α3→α4→Prop}{P10:α0→α1→α2→α3→α4→Prop}{P11:α0→α1→α2→α3→α4→Prop}{G:SS→Prop}(k:∀x0:α0,∀x1:α1,∀x2:α2,∀x3:α3,∀x4:α4,P6 x0 x1 x2 x3 x4→P7 x0 x1 x2 x3 x4→P8 x0 x1 x2 x3 x4→P9 x0 x1 x2 x3 x4→P10 x0 x1 x2 x3 x4→P11 x0 x1 x2 x3 x4→G (fS x0 x1 x2 x3 x4)):∀S,(∃x0:α0,∃x1:α1,∃x2:α2,∃x3:α3,∃x4:α4,S=fS x0 x1 x2 x3 x4∧P6 x0 x1 x2 x3 x4∧P7 x0 x1 x2 x3 x4∧P8 x0 x1 x2 x3 x4∧P9 x0 x1 x2 x3 x4∧P10 x0 x1 x2 x3 x4∧P11 x0 x1 x2 x3 x4)→G S:=λS h=>by obtain⟨x0,x1,x2,x3,x4,rfl,h6,h7,h8,h9,yV,TD⟩:=h;exact k x0 x1 x2 x3 x4 h6 h7 h8 h9 yV TD
theorem rI{α0:Sort _}{α1:Sort _}{α2:Sort _}{α3:Sort _}{fS:α0→α1→α2→α3→SS}{P5:α0→α1→α2→α3→Prop}{G:SS→Prop}(k:∀x0:α0,∀x1:α1,∀x2:α2,∀x3:α3,P5 x0 x1 x2 x3→G (fS x0 x1 x2 x3)):∀S,(∃x0:α0,∃x1:α1,∃x2:α2,∃x3:α3,S=fS x0 x1 x2 x3∧P5 x0 x1 x2 x3)→G S:=λS h=>by obtain⟨x0,x1,x2,x3,rfl,h5⟩:=h;exact k x0 x1 x2 x3 h5
theorem ug{α0:Sort _}{α1:Sort _}{α2:Sort _}{α3:Sort _}{fS:α0→α1→α2→α3→SS}{P5:α0→α1→α2→α3→Prop}{P6:α0→α1→α2→α3→Prop}{G:SS→Prop}(k:∀x0:α0,∀x1:α1,∀x2:α2,∀x3:α3,P5 x0 x1 x2 x3→P6 x0 x1 x2 x3→G (fS x0 x1 x2 x3)):∀S,(∃x0:α0,∃x1:α1,∃x2:α2,∃x3:α3,S=fS x0 x1 x2 x3∧P5 x0 x1 x2 x3∧P6 x0 x1 x2 x3)→G S:=λS h=>by obtain⟨x0,x1,x2,x3,rfl,h5,h6⟩:=h;exact k x0 x1 x2 x3 h5 h6
theorem jz{α0:Sort _}{α1:Sort _}{α2:Sort _}{α3:Sort _}{fS:α0→α1→α2→α3→SS}{P5:α0→α1→α2→α3→Prop}{P6:α0→α1→α2→α3→Prop}{P7:α0→α1→α2→α3→Prop}{G:SS→Prop}(k:∀x0:α0,∀x1:α1,∀x2:α2,∀x3:α3,P5 x0 x1 x2 x3→P6 x0 x1 x2 x3→P7 x0 x1 x2 x3→G (fS x0 x1 x2 x3)):∀S,(∃x0:α0,∃x1:α1,∃x2:α2,∃x3:α3,S=fS x0 x1 x2 x3∧P5 x0 x1 x2 x3∧P6 x0 x1 x2 x3∧P7 x0 x1 x2 x3)→G S:=λS h=>by obtain⟨x0,x1,x2,x3,rfl,h5,h6,h7⟩:=h;exact k x0 x1 x2 x3 h5 h6 h7
theorem GX{α0:Sort _}{α1:Sort _}{α2:Sort _}{fS:α0→α1→α2→SS}{G:SS→Prop}(k:∀x0:α0,∀x1:α1,∀x2:α2,G (fS x0 x1 x2)):∀S,(∃x0:α0,∃x1:α1,∃x2:α2,S=fS x0 x1 x2)→G S:=λS h=>by obtain⟨x0,x1,x2,rfl⟩:=h;exact k x0 x1 x2
theorem rJ{α0:Sort _}{α1:Sort _}{α2:Sort _}{fS:α0→α1→α2→SS}{P4:α0→α1→α2→Prop}{G:SS→Prop}(k:∀x0:α0,∀x1:α1,∀x2:α2,P4 x0 x1 x2→G (fS x0 x1 x2)):∀S,(∃x0:α0,∃x1:α1,∃x2:α2,S=fS x0 x1 x2∧P4 x0 x1 x2)→G S:=λS h=>by obtain⟨x0,x1,x2,rfl,h4⟩:=h;exact k x0 x1 x2 h4
theorem nZ{α0:Sort _}{α1:Sort _}{α2:Sort _}{fS:α0→α1→α2→SS}{P4:α0→α1→α2→Prop}{P5:α0→α1→α2→Prop}{G:SS→Prop}(k:∀x0:α0,∀x1:α1,∀x2:α2,P4 x0 x1 x2→P5 x0 x1 x2→G (fS x0 x1 x2)):∀S,(∃x0:α0,∃x1:α1,∃x2:α2,S=fS x0 x1 x2∧P4 x0 x1 x2∧P5 x0 x1 x2)→G S:=λS h=>by obtain⟨x0,x1,x2,rfl,h4,h5⟩:=h;exact k x0 x1 x2 h4 h5
theorem uh{α0:Sort _}{α1:Sort _}{α2:Sort _}{fS:α0→α1→α2→SS}{P4:α0→α1→α2→Prop}{P5:α0→α1→α2→Prop}{P6:α0→α1→α2→Prop}{G:SS→Prop}(k:∀x0:α0,∀x1:α1,∀x2:α2,P4 x0 x1 x2→P5 x0 x1 x2→P6 x0 x1 x2→G (fS x0 x1 x2)):∀S,(∃x0:α0,∃x1:α1,∃x2:α2,S=fS x0 x1 x2∧P4 x0 x1 x2∧P5 x0 x1 x2∧P6 x0 x1 x2)→G S:=λS h=>by obtain⟨x0,x1,x2,rfl,h4,h5,h6⟩:=h;exact k x0 x1 x2 h4 h5 h6
theorem D_{α0:Sort _}{α1:Sort _}{α2:Sort _}{fv:α0→α1→α2→AV}{P4:α0→α1→α2→Prop}{fC:α0→α1→α2→Cells}{G:AV→Cells→Prop}(g:∀x0:α0,∀x1:α1,∀x2:α2,P4 x0 x1 x2→G (fv x0 x1 x2) (fC x0 x1 x2)):∀v C,(∃x0:α0,∃x1:α1,∃x2:α2,v=fv x0 x1 x2∧P4 x0 x1 x2∧C=fC x0 x1 x2)→G v C:=λv C h=>by obtain⟨x0,x1,x2,rfl,h4,rfl⟩:=h;exact g x0 x1 x2 h4
theorem ui{α0:Sort _}{α1:Sort _}{fS:α0→α1→SS}{G:SS→Prop}(k:∀x0:α0,∀x1:α1,G (fS x0 x1)):∀S,(∃x0:α0,∃x1:α1,S=fS x0 x1)→G S:=λS h=>by obtain⟨x0,x1,rfl⟩:=h;exact k x0 x1
theorem gt{α0:Sort _}{α1:Sort _}{fS:α0→α1→SS}{P3:α0→α1→Prop}{G:SS→Prop}(k:∀x0:α0,∀x1:α1,P3 x0 x1→G (fS x0 x1)):∀S,(∃x0:α0,∃x1:α1,S=fS x0 x1∧P3 x0 x1)→G S:=λS h=>by obtain⟨x0,x1,rfl,h3⟩:=h;exact k x0 x1 h3
theorem v7{α0:Sort _}{α1:Sort _}{fv:α0→α1→AV}{P3:α0→α1→Prop}{fC:α0→α1→Cells}{G:AV→Cells→Prop}(g:∀x0:α0,∀x1:α1,P3 x0 x1→G (fv x0 x1) (fC x0 x1)):∀v C,(∃x0:α0,∃x1:α1,v=fv x0 x1∧P3 x0 x1∧C=fC x0 x1)→G v C:=λv C h=>by obtain⟨x0,x1,rfl,h3,rfl⟩:=h;exact g x0 x1 h3
theorem Be{α0:Sort _}{fS:α0→SS}{G:SS→Prop}(k:∀x0:α0,G (fS x0)):∀S,(∃x0:α0,S=fS x0)→G S:=λS h=>by obtain⟨x0,rfl⟩:=h;exact k x0
theorem TE{α0:Sort _}{fS:α0→SS}{P2:α0→Prop}{G:SS→Prop}(k:∀x0:α0,P2 x0→G (fS x0)):∀S,(∃x0:α0,S=fS x0∧P2 x0)→G S:=λS h=>by obtain⟨x0,rfl,h2⟩:=h;exact k x0 h2
theorem Xo{α0:Sort _}{fS:α0→SS}{P2:α0→Prop}{P3:α0→Prop}{G:SS→Prop}(k:∀x0:α0,P2 x0→P3 x0→G (fS x0)):∀S,(∃x0:α0,S=fS x0∧P2 x0∧P3 x0)→G S:=λS h=>by obtain⟨x0,rfl,h2,h3⟩:=h;exact k x0 h2 h3
theorem TF{α0:Sort _}{fv:α0→AV}{fC:α0→Cells}{G:AV→Cells→Prop}(g:∀x0:α0,G (fv x0) (fC x0)):∀v C,(∃x0:α0,v=fv x0∧C=fC x0)→G v C:=λv C h=>by obtain⟨x0,rfl,rfl⟩:=h;exact g x0
theorem OU{fS:SS}{α1:Sort _}{P2:α1→Prop}{P3:α1→Prop}{P4:α1→Prop}{P5:α1→Prop}{P6:α1→Prop}{G:SS→Prop}(k:∀x1:α1,P2 x1→P3 x1→P4 x1→P5 x1→P6 x1→G fS):∀S,(S=fS∧∃x1:α1,P2 x1∧P3 x1∧P4 x1∧P5 x1∧P6 x1)→G S:=λS h=>by obtain⟨rfl,x1,h2,h3,h4,h5,h6⟩:=h;exact k x1 h2 h3 h4 h5 h6
theorem OV{fk:Value}{fC:Cells}{G:Value→Cells→Prop}(g:G fk fC):∀k C,(k=fk∧C=fC)→G k C:=λk C h=>by obtain⟨rfl,rfl⟩:=h;exact g
theorem TG{fv:AV}{P1:Prop}{α2:Sort _}{P3:α2→Prop}{fC:α2→Cells}{G:AV→Cells→Prop}(g:P1→∀x2:α2,P3 x2→G fv (fC x2)):∀v C,(v=fv∧P1∧∃x2:α2,P3 x2∧C=fC x2)→G v C:=λv C h=>by obtain⟨rfl,h1,x2,h3,rfl⟩:=h;exact g h1 x2 h3
theorem GY{fv:AV}{fC:Cells}{G:AV→Cells→Prop}(g:G fv fC):∀v C,(v=fv∧C=fC)→G v C:=λv C h=>by obtain⟨rfl,rfl⟩:=h;exact g
theorem xh{fv:AV}{α1:Sort _}{P2:α1→Prop}{fC:α1→Cells}{G:AV→Cells→Prop}(g:∀x1:α1,P2 x1→G fv (fC x1)):∀v C,(v=fv∧∃x1:α1,P2 x1∧C=fC x1)→G v C:=λv C h=>by obtain⟨rfl,x1,h2,rfl⟩:=h;exact g x1 h2
inductive QS(c:Cx)(X:Cells)(Q:SS→Prop)(s':aas):Prop
 |mk (S':SS) (R:Rp c (S'.ext X) s') (q:Q S'):QS c X Q s'
abbrev QX{α:Type}(c:Cx)(X:Cells)(Q:α→SS→Prop)(v:α)(s':aas):Prop:=QS c X (Q v) s'
inductive EX(c:Cx)(X:Cells)(E:EP)(x:Value)(s':aas):Prop
 |mk (e:Addr) (k:Value) (S':SS) (hx:x= .ref e) (F:qa c k e (S'.ext X) s'.heap) (R:Rp c (S'.ext X) s') (q:E k S'):EX c X E x s'
theorem QS.el{c:Cx}{X:Cells}{Q:SS→Prop}{G:Prop}(h:QS c X Q s')(k:∀S',Rp c (S'.ext X) s'→Q S'→G):G:=by cases h with|mk S R q=>exact k S R q
theorem EX.el{c:Cx}{X:Cells}{E:EP}{x:Value}{G:Prop}(h:EX c X E x s')(k:∀e k S',x= .ref e→qa c k e (S'.ext X) s'.heap→Rp c (S'.ext X) s'→E k S'→G):G:=by cases h with|mk e j S a b r q=>exact k e j S a b r q
structure W(c:Cx)(n:Nat)(S:SS){α:Type}(t:Sem α)(Q:α→SS→Prop)(E:EP):Prop where
 i::
 run:c.Ok→∀X A s,c.In A n→Rp c (S.ext X) s→wpAny (model prog c.w) A t (QX c X Q) (EX c X E) s
section
variable{c:Cx} {n:Nat} {S:SS} {α β:Type} {E E':EP}
theorem W.st{t:Sem α}{Q:α→SS→Prop}(h:W c n S t Q E)(ok:c.Ok)(X:Cells)(A:ads)(s:aas)(hA:c.In A n)(R:Rp c (S.ext X) s){P:α→aas→Prop}(k:∀v s' S',Rp c (S'.ext X) s'→Q v S'→P v s'):wpAny (model prog c.w) A t P (EX c X E) s:=aau (h.run ok X A s hA R) (λv s' TH=>by obtain⟨S',R',q⟩:=TH;exact k v s' S' R' q) λzz zz x=>x
theorem W.bind{m:Sem α}{f:α→Sem β}{Q:β→SS→Prop}(h:W c n S m (λa S'=>W c n S' (f a) Q E) E):W c n S (m>>=f) Q E:=.i λok X A s hA R=>aac (h.st ok X A s hA R λzz zz zz R' k=>k.run ok X A _ hA R')
theorem W.pure{a:α}{Q:α→SS→Prop}(h:Q a S):W c n S (pure a) Q E:=.i λzz zz zz zz zz R=>aal ⟨S,R,h⟩
theorem W.mono{t:Sem α}{Q Q':α→SS→Prop}(h:W c n S t Q E)(q:∀a S',Q a S'→Q' a S')(e:∀k S',E k S'→E' k S'):W c n S t Q' E':=.i λok X A s hA R=>aau (h.run ok X A s hA R) (λzz zz yW=>by obtain⟨S',R',k⟩:=yW;exact⟨S',R',q _ _ k⟩) λzz zz h8=>h8.el λx k S' a b d f=>⟨x,k,S',a,b,d,e _ _ f⟩
theorem W.az{t:Sem α}{Q Q':α→SS→Prop}(h:W c n S t Q E)(q:∀a S',Q a S'→Q' a S'):W c n S t Q' E:=h.mono q λzz zz x=>x
theorem W.standAt{Q:Unit→SS→Prop}(h:Q () S):W c n S (standAt p) Q E:=.i λzz zz zz zz zz R=>abu ⟨S,R,h⟩
theorem W.holding{vs:List Value}{t:Sem α}{Q:α→SS→Prop}(h:W c n S t Q E):W c n S (holding vs t) Q E:=.i λok X A s hA R=>abk (h.run ok X A s hA R)
theorem W.eq{t t':Sem α}{Q:α→SS→Prop}(e:t=t')(h:W c n S t' Q E):W c n S t Q E:=e▸h
theorem W.of{t:Sem α}{Q:α→SS→Prop}(h:c.Ok→∀X A s,c.In A n→Rp c (S.ext X) s→wpAny (model prog c.w) A t (QX c X Q) (λzz zz=>False) s):W c n S t Q E:=.i λok X A s hA R=>aau (h ok X A s hA R) (λzz zz x=>x) λzz zz x=>x.elim
theorem Rp.toks{s:aas}(R:Rp c S s)(hk:autoParam (s.toks≤k) apT):Rp c S {s with toks:=k}:=⟨R.stays,R.ns,R.aC,R.cells,R.fresh,R.nd,R.kL,R.lk,R.gens,R.os,aaE R.tk hk⟩
end
inductive FL where
 |next|brk|cont|ret (v:AV)
def OW:Flow→FL| .next=>.next| .brk=>.brk| .cont=>.cont| .ret v=>.ret (ab v)
def EE(c:Cx)(n:Nat)(S:SS)(e:Expr)(Q:AV→SS→Prop)(E:EP):Prop:=W c n S (eval e c.env) (λv=>Q (ab v)) E
def ET(c:Cx)(n:Nat)(S:SS)(e:Expr)(Q:Bool→SS→Prop)(E:EP):Prop:=W c n S (isTrue e c.env (eval e c.env)) Q E
def ES(c:Cx)(n:Nat)(S:SS)(t:Stmt)(Q:FL→SS→Prop)(E:EP):Prop:=W c n S (exec t c.env) (λf=>Q (OW f)) E
def EB(c:Cx)(n:Nat)(S:SS)(l:List Stmt)(Q:FL→SS→Prop)(E:EP):Prop:=W c n S (execs l c.env) (λf=>Q (OW f)) E
section
variable{c:Cx} {n:Nat} {S:SS} {E:EP}
theorem d0{Q:FL→SS→Prop}(h:Q .next S):EB c n S [] Q E:=.i λzz zz zz zz zz R=>wpAny_execs_nil ⟨S,R,h⟩
theorem Ea{t:Stmt}{l:List Stmt}{Q:FL→SS→Prop}(h:ES c n S t (λf S'=>match f with| .next=>EB c n S' l Q E|f=>Q f S') E):EB c n S (t::l) Q E:=
 .i λok X A s hA R=>wpAny_execs_cons (h.st ok X A s hA R λf s' S' R' k=>by
  cases f with
  |next=>exact k.run ok X A s' hA R'
  |brk=>exact⟨S',R',k⟩
  |cont=>exact⟨S',R',k⟩
  |ret v=>exact⟨S',R',k⟩)
theorem IY{e:Expr}{Q:FL→SS→Prop}(h:EE c n S e (λv S'=>Q (.ret v) S') E):ES c n S (.Return (some e) p) Q E:=.i λok X A s hA R=>wpAny_Return_some (h.run ok X A s hA R)
theorem Eb{Q:FL→SS→Prop}(h:Q .next S):ES c n S (.Pass p) Q E:=.i λzz zz zz zz zz R=>wpAny_Pass ⟨S,R,h⟩
theorem Bf{Q:FL→SS→Prop}(h:Q .brk S):ES c n S (.Break p) Q E:=.i λzz zz zz zz zz R=>wpAny_Break ⟨S,R,h⟩
theorem uj{Q:FL→SS→Prop}(h:Q .cont S):ES c n S (.Continue p) Q E:=.i λzz zz zz zz zz R=>wpAny_Continue ⟨S,R,h⟩
theorem OX{e:Expr}{b o:List Stmt}{Q:FL→SS→Prop}(h:ET c n S e (λt S'=>if t=true then EB c n S' b Q E else EB c n S' o Q E) E):ES c n S (.If e b o p) Q E:=.i λok X A s hA R=>wpAny_If (h.st ok X A s hA R λt s' S' R' k=>by cases t<;>exact k.run ok X A s' hA R')
theorem oI{Q:AV→SS→Prop}(h:Q (.int i) S):EE c n S (.Constant (.int i) k p) Q E:=.i λzz zz zz zz zz R=>wpAny_Constant_int ⟨S,R.toks,h⟩
theorem rK{Q:AV→SS→Prop}(h:Q (.str x) S):EE c n S (.Constant (.str x) k p) Q E:=.i λzz zz zz zz zz R=>wpAny_Constant_str ⟨S,R.toks,h⟩
theorem iy{Q:AV→SS→Prop}(h:Q (.bool b) S):EE c n S (.Constant (.bool b) k p) Q E:=.i λzz zz zz zz zz R=>wpAny_Constant_bool ⟨S,R,h⟩
theorem Ec{Q:AV→SS→Prop}(h:Q .none S):EE c n S (.Constant .none k p) Q E:=.i λzz zz zz zz zz R=>wpAny_Constant_none ⟨S,R,h⟩
theorem Bg{v:AV}{Q:AV→SS→Prop}(hm:(x,some v)∈S.loc)(h:Q v S):EE c n S (.Name x p) Q E:=.i λok X A s hA R=>by
 let m hn hl:=ak R.ns;have q:=hl _ hm;let hx hd:=eA (R.lk x (aat (f:=(λx=>x.1)) hm));cases hv:m x with
 |none=>rw[hv]at q;cases q
 |some u=>rw[hv]at q;exact wpAny_Name (wpAny_loadName_local ok.kind hx (ok.eL▸hn) hv ⟨S,R,by change Q (ab u) S;rw[show ab u=v from aaJ q];exact h⟩) hd
theorem OY{Q:AV→SS→Prop}(hm:(x,v)∈c.fx.gl)(h:Q (ab v) S):EE c n S (.Name x p) Q E:=.i λok X A s hA R=>by let hx hd hv:=pZ (ok.gl _ hm);rcases hv with hv|⟨h1,h2,h3⟩;exact Name_function_global ok.kind hx (loadGlobal_global (env:=c.env) (ok.eg▸ok.eH.g.keeps R.stays) hv ⟨S,R,h⟩) hd;exact Name_function_global ok.kind hx (loadGlobal_builtin (env:=c.env) (ok.eg▸ok.eH.g.keeps R.stays) h1 (ok.eb▸ok.eH.b.keeps R.stays) ((ok.eH.bi x h3).trans h2) ⟨S,R,h⟩) hd
end
def oJ:List (Str×Option AV)→Str→AV→List (Str×Option AV)|[],_,_=>[]|p::r,x,v=>if p.1=x then(x,some v)::r else p::oJ r x v
theorem oK(x:Str)(v:AV):∀l:List (Str×Option AV),(oJ l x v).map (λx=>x.1)=l.map (λx=>x.1):=by intro l0;induction l0 with|nil=>exact rfl|cons p r ih=>exact by unfold oJ;split<;>rename_i h<;>simp[ih,h]
theorem Bh{v:AV}{p:Str×Option AV}:∀{l:List (Str×Option AV)},(l.map (λx=>x.1)).Nodup→p∈oJ l x v→(p.1=x∧p.2=some v)∨(p.1≠x∧p∈l):=by intro l0;induction l0 with|nil=>exact λzz h=>nomatch h|cons q r ih=>intro nd h;unfold oJ at h;have xi:=aaB.mp nd;split at h<;>rename_i e;rcases aai.mp h with rfl|h;exact .inl ⟨rfl,rfl⟩;refine .inr ⟨λq'=>xi.1 ?_,.tail _ h⟩;change q.1∈r.map (λx=>x.1);rw[e,←q'];exact aat h;rcases aai.mp h with rfl|h;exact .inr ⟨e,.head _⟩;rcases ih xi.2 h with a|a;exact .inl a;exact .inr ⟨a.1,.tail _ a.2⟩
inductive dA(x:Str)(v:AV):List (Str×Option AV)→List (Str×Option AV)→Prop
 |head:∀{a r},dA x v ((x,a)::r) ((x,some v)::r)
 |tail:∀{p r r'},dA x v r r'→dA x v (p::r) (p::r')
theorem dA.mem{v:AV}:∀{l l':List (Str×Option AV)},dA x v l l'→x∈l.map (λx=>x.1)|_,_,.head=>.head _|_,_,.tail h=>.tail _ h.mem
theorem dA.eq{v:AV}{l l':List (Str×Option AV)}(nd:(l.map (λx=>x.1)).Nodup)(h:dA x v l l'):l'=oJ l x v:=by induction h with|head=>unfold oJ;rw[if_pos rfl]| @tail p r r' h ih=>have xi:=aaB.mp nd;unfold oJ;rw[if_neg (λq:p.1=x=>xi.1 (by change p.1∈_;rw[q];exact h.mem)),ih xi.2]
section
variable{c:Cx} {S:SS} {s:aas} {h':Heap} {tk:Nat}
theorem Rp.store(R:Rp c S s)(hl:∀p∈S.loc,(m p.1).map ab=p.2)(Bi:h'.Ns c.L (λy=>if y=x then some v else m y)) (hs:Heap.SameBut c.L s.heap h') (hk:autoParam (s.toks≤tk) apT):Rp c ⟨oJ S.loc x (ab v),S.cells⟩ {s with heap:=h',toks:=tk}:=by have nd:=aaB.mp R.nd;have ne:∀a∈c.aC.map (λx=>x.1.locals)++S.cells.map (λx=>x.1),a≠c.L:=λa ha q=>nd.1 (q▸ha);refine⟨λb o e=>(hs.2 b λq=>?_).trans (R.stays b o e),⟨_,Bi,λp hp=>?_⟩,λf hf=>(R.aC f hf).sameBut hs (ne _ (aaf _ (aat hf))),λp hp=>?_,R.fresh,R.nd,?_,?_,R.gens,R.os,aaE R.tk hk⟩;have:=R.fresh c.L (.head _);rw[q,this]at e;cases e;rcases Bh R.kL hp with⟨a,b⟩|⟨a,b⟩;simp only[if_pos a,b];rfl;simp only[if_neg a];exact hl p b;let o ho hc:=ak (R.cells p hp);exact⟨o,(hs.2 _ (ne _ (aad _ (aat hp)))).trans ho,hc⟩;change((oJ S.loc x (ab v)).map (λx=>x.1)).Nodup;rw[oK];exact R.kL;change∀y∈(oJ S.loc x (ab v)).map (λx=>x.1),_;rw[oK];exact R.lk
theorem Rp.keeps(R:Rp c S s)(k:∀b o,s.heap.get? b=some o→h'.get? b=some o)(hk:autoParam (s.toks≤tk) apT):Rp c S {s with heap:=h',toks:=tk}:=by let m hn hl:=ak R.ns;exact⟨λb o e=>k b o (R.stays b o e),⟨m,hn.keeps k,hl⟩,λf hf=>(R.aC f hf).keeps k,λp hp=>let⟨o,ho,hc⟩:=R.cells p hp;⟨o,k _ _ ho,hc⟩,R.fresh,R.nd,R.kL,R.lk,R.gens,R.os,aaE R.tk hk⟩
theorem Rp.lt(R:Rp c S s):∀a∈c.L::(c.aC.map (λx=>x.1.locals)++S.cells.map (λx=>x.1)),a<s.heap.objs.size:=λa ha=>by rcases aai.mp ha with rfl|ha;let m hn z2:=ak R.ns;exact hn.lt;rcases aax.mp ha with ha|ha;let f hf r2:=ak (aaH.mp ha);subst r2;exact(R.aC f hf).lt;let p hp r2:=ak (aaH.mp ha);subst r2;let o ho z2:=ak (R.cells p hp);exact aa3 ho
theorem Rp.alloc{ao:AO}{o:Obj}(R:Rp c S s)(k:∀b o,s.heap.get? b=some o→h'.get? b=some o)(ha:s.heap.objs.size≤a)(hg:h'.get? a=some o)(hc:p0 c.w ao o)(hk:autoParam (s.toks≤tk) apT):Rp c ⟨S.loc,(a,ao)::S.cells⟩ {s with heap:=h',toks:=tk}:=by
 have R':=R.keeps (tk:=tk) k hk;have hf:c.base.get? a=none:=by cases q:c.base.get? a with|none=>rfl|some o=>exact absurd (aa3 (R.stays a o q)) (Nat.not_lt.mpr ha)
 refine⟨R'.stays,R'.ns,R'.aC,λp hp=>?_,λb hb=>?_,?_,R.kL,R.lk,R.gens,R.os,aaE R.tk hk⟩;rcases aai.mp hp with rfl|hp;exact⟨o,hg,hc⟩;exact R'.cells p hp;simp only[aan,aai,aax]at hb;rcases hb with h|h|h|h;exact R.fresh b (by simp[h]);exact R.fresh b (by simp only[aai,aax];exact .inr (.inl h));rw[h];exact hf;exact R.fresh b (by simp only[aai,aax];exact .inr (.inr h));have p:(c.L::(c.aC.map (λx=>x.1.locals)++((a,ao)::S.cells).map (λx=>x.1))).Perm (a::c.L::(c.aC.map (λx=>x.1.locals)++S.cells.map (λx=>x.1))):=by simp only[aan];exact(abz _ aaS).trans (List.Perm.swap ..)
 exact p.nodup_iff.mpr (aaB.mpr ⟨λq=>(λb hb q=>absurd (R.lt b hb) (by rw[q];exact Nat.not_lt.mpr ha):∀b∈c.L::(c.aC.map (λx=>x.1.locals)++S.cells.map (λx=>x.1)),b≠a) a q rfl,R.nd⟩)
end
inductive aI(a:Addr)(x y:AO):Cells→Cells→Prop
 |head:∀{r},aI a x y ((a,x)::r) ((a,y)::r)
 |tail:∀{p r r'},aI a x y r r'→aI a x y (p::r) (p::r')
theorem aI.split{x y:AO}:∀{l l':Cells},aI a x y l l'→∃pre post,l=pre++(a,x)::post∧l'=pre++(a,y)::post|_,_,.head=>(ba [] _ ⟨rfl,rfl⟩)|_,_,.tail (p:=p) h=>let⟨pre,post,e1,e2⟩:=h.split;(ba (p::pre) post ⟨congrArg (p::·) e1,congrArg (p::·) e2⟩)
theorem aI.app{x y:AO}{X:Cells}:∀{l l':Cells},aI a x y l l'→aI a x y (l++X) (l'++X)|_,_,.head=>.head|_,_,.tail h=>.tail h.app
theorem aI.keys{x y:AO}{l l':Cells}(u:aI a x y l l'):l'.map (λx=>x.1)=l.map (λx=>x.1):=by let pre post r2 r3:=cI u.split;subst r2;subst r3;simp
theorem aI.mem{x y:AO}{l l':Cells}(u:aI a x y l l'):(a,x)∈l:=by let pre post r2 r3:=cI u.split;subst r2;subst r3;simp
section
variable{c:Cx} {S:SS} {s:aas} {h':Heap} {tk:Nat}
theorem Rp.upd{x y:AO}{cells':Cells}(R:Rp c S s)(u:aI a x y S.cells cells')(hs:Heap.SameBut a s.heap h')(ho:h'.get? a=some o')(hc:p0 c.w y o')(hk:autoParam (s.toks≤tk) apT):Rp c ⟨S.loc,cells'⟩ {s with heap:=h',toks:=tk}:=by
 have Xp:=u.keys;have ha:a∈c.aC.map (λx=>x.1.locals)++S.cells.map (λx=>x.1):=aad _ (aat (f:=(λx=>x.1)) u.mem);have nd:=aaB.mp R.nd;have jL:=aaX.mp nd.2;let m hn hl:=ak R.ns;refine⟨λb o e=>(hs.2 b λq=>?_).trans (R.stays b o e),⟨m,hn.sameBut hs (λq=>nd.1 (q▸ha):c.L≠a),hl⟩,λf hf=>(R.aC f hf).sameBut hs λq=>jL.2.2 _ (aat hf) _ (aat (f:=(λx=>x.1)) u.mem) q,λp hp=>?_,?_,?_,R.kL,R.lk,R.gens,R.os,aaE R.tk hk⟩;rw[q,R.fresh a (.tail _ ha)]at e;cases e;let pre post e1 e2:=cI u.split;have ki:((pre++(a,x)::post).map (λx=>x.1)).Nodup:=e1▸jL.2.1;have gV:∀q∈pre++post,q.1≠a:=by intro q hq e;rw[aaj,aan]at ki;show(aaB.mp ((aaS.nodup_iff.mp ki))).1;rw[←aaj];exact e▸aat (f:=(λx=>x.1)) hq
 rw[e2]at hp;rcases aax.mp hp with hp|hp;let o lR IZ:=ak (R.cells p (by rw[e1];exact aaf _ hp));exact⟨o,(hs.2 _ (gV p (aaf _ hp))).trans lR,IZ⟩;rcases aai.mp hp with rfl|hp;exact⟨o',ho,hc⟩;let o lR IZ:=ak (R.cells p (by rw[e1];exact aad _ (.tail _ hp)));exact⟨o,(hs.2 _ (gV p (aad _ hp))).trans lR,IZ⟩;change∀b∈c.L::(c.aC.map (λx=>x.1.locals)++cells'.map (λx=>x.1)),_;rw[Xp];exact R.fresh;change(c.L::(c.aC.map (λx=>x.1.locals)++cells'.map (λx=>x.1))).Nodup;rw[Xp];exact R.nd
theorem Rp.drop{cells':Cells}(R:Rp c S s)(h:cells'.Sublist S.cells):Rp c ⟨S.loc,cells'⟩ s:=by have uk:(c.L::(c.aC.map (λx=>x.1.locals)++cells'.map (λx=>x.1))).Sublist (c.L::(c.aC.map (λx=>x.1.locals)++S.cells.map (λx=>x.1))):=(adS (ab0 _) (h.map _)).cons_cons _;exact⟨R.stays,R.ns,R.aC,λp hp=>R.cells p (h.subset hp),λa ha=>R.fresh a (uk.subset ha),R.nd.sublist uk,R.kL,R.lk,R.gens,R.os,R.tk⟩
theorem Rp.perm{cells':Cells}(R:Rp c S s)(h:cells'.Perm S.cells):Rp c ⟨S.loc,cells'⟩ s:=by have hp:(c.L::(c.aC.map (λx=>x.1.locals)++cells'.map (λx=>x.1))).Perm (c.L::(c.aC.map (λx=>x.1.locals)++S.cells.map (λx=>x.1))):=((List.Perm.refl _).append (h.map _)).cons _;exact⟨R.stays,R.ns,R.aC,λp hp=>R.cells p (h.subset hp),λa ha=>R.fresh a (hp.subset ha),hp.nodup_iff.mpr R.nd,R.kL,R.lk,R.gens,R.os,R.tk⟩
end
section
variable{c:Cx} {n:Nat} {S:SS} {E:EP}
theorem eZ{l':List (Str×Option AV)}{Q:Unit→SS→Prop}(hx:dA x (ab v) S.loc l')(h:Q () ⟨l',S.cells⟩):W c n S (storeName c.env x v) Q E:=.i λok X A s hA R=>by have el:=dA.eq R.kL hx;subst el;have hx:=hx.mem;let m hn hl:=ak R.ns;let hx hd:=eA (R.lk x hx);show wpAny_storeName_local (env:=c.env) hx (ok.eL.symm▸hn) (λh' Bi hs=>?_);rw[ok.eL]at Bi hs;exact⟨_,R.store hl Bi hs,h⟩;change(c.env.scope.kind== .class||(c.env.scope.kind== .module&&c.env.locals !=c.env.globals))=false;rw[ok.kind];rfl
theorem h_{e:Expr}{Q:FL→SS→Prop}(h:EE c n S e (λv S'=>∃l',dA x v S'.loc l'∧Q .next ⟨l',S'.cells⟩) E)(hs:autoParam (ac6 e (some (.Name x p')) p.line c.env=pure false) apR):ES c n S (.Assign [.Name x p'] e p) Q E:=.i λok X A s hA R=>
 wpAny_Assign_Name (h.st ok X A s hA R λv s' S' R' h8=>ak h8 λl' k1 k2=>(eZ (Q:=λzz S'=>Q .next S') k1 k2).run ok X A s' hA R') hs
end
end
variable{c:Cx} {fS S' S:SS} {fv tk a0 po a10 a11 a12 a13 a14 a15 a16 a17 nl rn nf kM fi:AV} {fC cells' C D Z C':Cells} {Q:AV→SS→Prop} {o fs:Option AV} {l' loc r:List (Str×Option AV)} {ao:AO} {f:AV→AV→Bool} {kw es:List (Str×AV)} {fx:Fx} {xs ys as:List AV} {Qf:AV→Cells→Prop} {Ef:Value→Cells→Prop} {sl:List (Option AV)} {B:Cells→List (Str×Option AV)→Prop} {Cf:Nat→Cells} {Q':FL→SS→Prop} {cs:List (Str×Nat×Option AV)}
section
variable{k:Value} {P:Option Value→Prop} {Q:Unit→aas→Prop} {f:Addr} {args:List AV} {h₁:Heap}
section
variable{c:Cx} {n:Nat} {S:SS} {s:aas} {h':Heap} {tk:Nat}
theorem Rp.Ee(ok:c.Ok)(R:Rp c S s):s.heap.FunFrames c.base c.outer:=by
 have key:∀l:List (Env×(Str→Option Value)),(∀f∈l,f∈c.aC)→s.heap.FunFrames c.base (l.map (λx=>x.1)):=by intro l;induction l with|nil=>intro _;trivial|cons f r ih=>intro hl;have hf:=hl f (.head _);let h1 h2:=eA (ok.aC f hf);let o es ep ho hd z5:=lW (R.aC f hf);exact⟨h2,(ba _ o ⟨h1,R.fresh _ (.tail _ (aaf _ (aat (f:=(λx=>x.1.locals)) hf))),ho,λvs q=>by rw[hd]at q;cases q⟩),ih λg hg=>hl g (.tail _ hg)⟩
 exact key c.aC λzz h=>h
theorem Rp.frames(ok:c.Ok)(hc:c.comp=false)(R:Rp c S s):s.heap.FunFrames c.base (c.env::c.outer):=by obtain⟨m,⟨o,es,ep,ho,hd,_⟩,_⟩:=R.ns;exact⟨by rw[ok.kind];decide,(ba c.L o ⟨ok.fr hc,R.fresh _ (.head _),ho,λvs q=>by rw[hd]at q;cases q⟩),R.Ee ok⟩
theorem Rp.oL(R:Rp c S s){o:Obj}(ha:s.heap.get? a=some o)(hd:o.data= .fields vs):a≠c.L∧∀f∈c.aC,f.1.locals≠a:=by refine⟨λq=>?_,λf hf q=>?_⟩;obtain⟨m,⟨o',es,ep,ho,rL,_⟩,_⟩:=R.ns;rw[q,ho]at ha;cases ha;rw[rL]at hd;cases hd;let o' es ep ho rL z5:=lW (R.aC f hf);rw[q]at ho;rw[ho]at ha;cases ha;rw[rL]at hd;cases hd
def GZ(c:Cx)(X:List Addr)(h h':Heap):Prop:=∀b o,b∉X→h.get? b=some o→∃sl,h'.get? b=some {o with slots:=sl}∧(b≠c.L→(∀f∈c.aC,f.1.locals≠b)→sl=o.slots)
theorem um{h':Heap}(hn:h.Ns a m)(k:∀o,h.get? a=some o→∃sl,h'.get? a=some {o with slots:=sl}):h'.Ns a m:=by let o es ep ho hd r:=lW hn;let sl hs:=eE (k o ho);exact eY _ es ep ⟨hs,hd,r⟩
theorem Rp.xj{X:List Addr}(R:Rp c S s)(T:GZ c X s.heap h')(hX:∀a∈X,c.base.get? a=none∧a∉S.cells.map (λx=>x.1)∧a≠c.L∧∀f∈c.aC,f.1.locals≠a)(hk:autoParam (s.toks≤tk) apT):Rp c S {s with heap:=h',toks:=tk}:=by
 have nd:=aaB.mp R.nd;let m hn hl:=ak R.ns;refine⟨λb o e=>?_,⟨m,um hn λo ho=>?_,hl⟩,λf hf=>um (R.aC f hf) λo ho=>?_,λp hp=>?_,R.fresh,R.nd,R.kL,R.lk,R.gens,R.os,aaE R.tk hk⟩;have hb:b∉X:=λq=>by rw[(hX b q).1]at e;cases e
 let sl h1 h2:=ak (T b o hb (R.stays b o e));have:=h2 (λq=>by rw[q,R.fresh c.L (.head _)]at e;cases e) (λf hf q=>by have:=R.fresh f.1.locals (.tail _ (aaf _ (aat (f:=(λx=>x.1.locals)) hf)));rw[q,e]at this;cases this);rw[h1,this];let sl h1 z2:=ak (T c.L o (λq=>(hX _ q).2.2.1 rfl) ho);exact⟨sl,h1⟩;let sl h1 z2:=ak (T _ o (λq=>(hX _ q).2.2.2 f hf rfl) ho);exact⟨sl,h1⟩;let o ho hc:=ak (R.cells p hp);let sl h1 h2:=ak (T p.1 o (λq=>(hX _ q).2.1 (aat (f:=(λx=>x.1)) hp)) ho);have:=h2 (λq=>nd.1 (q▸aad _ (aat (f:=(λx=>x.1)) hp))) (λf hf q=>(aaX.mp nd.2).2.2 _ (aat (f:=(λx=>x.1.locals)) hf) _ (aat (f:=(λx=>x.1)) hp) q);exact⟨o,by rw[h1,this],hc⟩
def rM(c:Cx)(k:Value)(e:Addr)(S:SS)(h:Heap)(P:Option Value→Prop):Prop:=c.base.get? e=none∧e∉S.cells.map (λx=>x.1)∧∃oe vs,h.get? e=some oe∧oe.cls=k∧oe.data= .fields vs∧∃T oT ts,vs[1]? =some (.ref T)∧c.base.get? T=none∧T≠e∧T∉S.cells.map (λx=>x.1)∧h.get? T=some oT∧oT.data= .fields ts∧3<ts.size∧P ts[3]?
theorem rM.YJ{e:Addr}(x:rM c k e S h P)(hP:∀v,P v→v=some .none∨v=some (abJ c.L)):qa c k e S h:=kh x λa b oe vs h1 h2 h3 T oT ts q1 q2 q3 q4 q5 q6 q7 q8=>⟨a,b,oe,vs,h1,h2,h3,.inr (eY T oT ts ⟨q1,q2,q3,q4,q5,q6,hP _ q8⟩)⟩
variable{M:Model} {A:ads} {E:Value→aas→Prop}
theorem oM{e:Addr}{oe:Obj}{head:Value}(ok:c.Ok)(yX:c.comp=false)(hA:A.frames=some c.frames)(R:Rp c S s)
  (G0:c.base.get? e=none) (Dv:e∉S.cells.map (λx=>x.1)) (he:s.heap.get? e=some oe) (hk:oe.cls=k) (hd:oe.data= .fields vs) (kj:1<vs.size)
  (h:∀h',Rp c S {s with heap:=h'}→rM c k e S h' (λzz=>True)→Q () {s with heap:=h'}):
  wpAny M A (do let a←frameOf c.env;let pl←entryPlaceOf c.L b;let x←EntryCells.newEntry head a .none (abJ c.L) .none pl;setField (.ref e) 1 x) Q E s:=by
 rw[Cx.dp yX]at hA
 refine aac (wpAny_frameOf_fun hA (R.frames ok yX) (ok.fr yX) λh₁ xk=>?_)
 refine aac (wpAny_entryPlaceOf λpl TI=>?_)
 refine aac (abI ?_ (TI.sizeOk5 _ _ _ _ _))
 have Xq:∀a,a∈(c.env::c.outer).filterMap (λx=>x.frame)→a=c.L∨∃f∈c.aC,f.1.locals=a:=by
  intro a ha
  rw[List.filterMap_cons]at ha
  rw[ok.fr yX]at ha
  rcases aai.mp ha with q|q
  ·exact .inl q
  ·refine ak (List.mem_filterMap.mp q) λenv h1 h2=>?_
   refine ak (aaH.mp h1) λf hf r2=>?_
   obtain rfl:=r2
   exact .inr ⟨f,hf,aaJ ((ok.aC f hf).1.symm.trans h2)⟩
 have nf:=R.oL he hd
 have TJ:e∉(c.env::c.outer).filterMap (λx=>x.frame):=λq=>by
  rcases Xq e q with q|⟨f,hf,q⟩
  ·exact nf.1 q
  ·exact nf.2 f hf q
 have G1:h₁.get? e=some oe:=(xk.2.1 e TJ).trans he
 have qL:=aap (h:=h₁) {cls:=.type "traceback",dict:=none,data:=.fields ([head,.ref c.L,.none,abJ c.L,.none]++(if pl.isEmpty then List.replicate 6 aa6 else pl)).toArray} G1
 refine acW qL hd kj ?_
 have G2:h₁.objs.size≠e:=abF (aa3 G1)
 have G5:=adt hd (·.setIfInBounds 1 (abP h₁.objs.size))
 have OZ:=(abo (h₁.push {cls:=.type "traceback",dict:=none,data:=.fields ([head,.ref c.L,.none,abJ c.L,.none]++(if pl.isEmpty then List.replicate 6 aa6 else pl)).toArray})
  (acE (·.setIfInBounds 1 (abP h₁.objs.size))) (Ne.symm G2)).trans (aaG h₁ rfl)
 have G6:h₁.objs.size=s.heap.objs.size:=xk.1
 have lts:∀a∈c.L::(c.aC.map (λx=>x.1.locals)++S.cells.map (λx=>x.1)),a≠h₁.objs.size:=λa ha=>by
  rw[G6];exact abf (R.lt a ha)
 have nT:c.base.get? h₁.objs.size=none:=by
  rw[G6];exact R.stays.fresh
 have T:GZ c [e] s.heap ((h₁.push {cls:=.type "traceback",dict:=none,data:=.fields ([head,.ref c.L,.none,abJ c.L,.none]++(if pl.isEmpty then List.replicate 6 aa6 else pl)).toArray}).update e (acE (·.setIfInBounds 1 (abP h₁.objs.size)))):=λb o YK hb=>by
  have TK:b≠e:=λq=>YK (q▸.head _)
  refine eE (xk.2.2 b o hb) λsl yY=>?_
  refine⟨sl,?_,λq1 q2=>?_⟩
  ·rw[abo _ _ (Ne.symm TK)]
   exact aap _ yY
  ·have TL:b∉(c.env::c.outer).filterMap (λx=>x.frame):=λq=>by
    rcases Xq b q with z|⟨f,hf,z⟩
    ·exact q1 z
    ·exact q2 f hf z
   have:=xk.2.1 b TL
   rw[hb,yY]at this
   exact congrArg Obj.slots (aaJ this)
 refine h _ (R.xj T λa ha=>?_) ⟨G0,Dv,_,_,(abl (acE (·.setIfInBounds 1 (abP h₁.objs.size))) qL (adF G5)),(Obj.cls_mapFields _ _).trans hk,G5,h₁.objs.size,_,_,by simp[kj],nT,G2,λq=>?_,OZ,rfl,?_,trivial⟩
 ·obtain rfl:a=e:=by simpa using ha
  exact⟨G0,Dv,nf.1,nf.2⟩
 ·exact lts _ (.tail _ (aad _ q)) rfl
 ·simp only[acK,aar,aaF,ady];exact abT (aa2 _)
theorem Bj{e:Addr}(ok:c.Ok)(yX:c.comp=false)(hA:A.frames=some c.frames)(R:Rp c S s)(F:qa c k e S s.heap)
  (h:∀h',Rp c S {s with heap:=h'}→rM c k e S h' (λzz=>True)→Q () {s with heap:=h'}):
  wpAny M A (noteFrame (.ref e) c.env) Q E s:=by
 refine t9 F λG0 Dv oe vs he hk hd hF=>?_
 unfold noteFrame
 rw[ok.fr yX]
 change wpAny M A (do
  let head←field (.ref e) 1
  if head != .none then
   if(←field head 3)==abJ c.L then return
   setField head 3 .none
  setField (.ref e) 1 (←EntryCells.newEntry head (←frameOf c.env) .none (abJ c.L) .none (←entryPlaceOf c.L (head != .none)))) _ _ _
 rcases hF with h1|⟨T,oT,ts,h1,O0,G2,O1,hT,Eg,h3⟩
 ·refine aac (acq he hd h1 ?_)
  with_reducible refine qI '2' ?_
  exact oM ok yX hA R G0 Dv he hk hd (abG.mp h1).1 h
 ·refine aac (acq he hd h1 ?_)
  with_reducible refine IW (show(abP T !=aa6)=true from by simp) ?_
  rcases h3 with h3|h3
  ·refine aac (acq hT Eg h3 ?_)
   with_reducible refine qI (show¬((aa6==abJ c.L)=true)from by simp[abJ]) ?_
   refine aac (acW hT Eg (abG.mp h3).1 ?_)
   have other:∀b,b≠T→(s.heap.update T (acE (·.setIfInBounds 3 aa6))).get? b=s.heap.get? b:=λb hb=>abo _ _ (Ne.symm hb)
   have nf:=R.oL hT Eg
   have R':Rp c S {s with heap:=s.heap.update T (acE (·.setIfInBounds 3 aa6))}:=R.xj (X:=[T]) (λb o hb O2=>⟨o.slots,(other b λq=>hb (q▸.head _)).trans O2,λzz zz=>rfl⟩) λa ha=>by
    obtain rfl:a=T:=by simpa using ha
    exact⟨O0,O1,nf.1,nf.2⟩
   exact oM (s:={s with heap:=s.heap.update T (acE (·.setIfInBounds 3 aa6))}) ok yX hA R' G0 Dv ((other e (Ne.symm G2)).trans he) hk hd (abG.mp h1).1 h
  ·refine aac (acq hT Eg h3 ?_)
   with_reducible refine IW (show(abJ c.L==abJ c.L)=true from by simp) ?_
   exact aal (h s.heap R ⟨G0,Dv,oe,vs,he,hk,hd,T,oT,ts,h1,O0,G2,O1,hT,Eg,(abG.mp h3).1,trivial⟩)
theorem oN{e:Addr}(fl:Option Addr)(R:Rp c S s)(F:rM c k e S s.heap P)(h:∀h',Rp c S {s with heap:=h'}→rM c k e S h' (·=some (fl.elim aa6 λf=>abJ f))→Q () {s with heap:=h'}):wpAny M A (setFlight (.ref e) fl) Q E s:=by
 obtain⟨G0,Dv,oe,vs,he,hk,hd,T,oT,ts,h1,O0,G2,O1,hT,Eg,h3,_⟩:=F;refine aac (acq he hd h1 ?_);with_reducible refine IW (show(abP T !=aa6)=true from by simp) ?_
 show acW hT Eg h3;have other:∀b,b≠T→(s.heap.update T (acE (·.setIfInBounds 3 (fl.elim aa6 λf=>abJ f)))).get? b=s.heap.get? b:=λb hb=>abo _ _ (Ne.symm hb);have nf:=R.oL hT Eg;have I1:=adt Eg (·.setIfInBounds 3 (fl.elim aa6 λf=>abJ f));refine h _ (R.xj (X:=[T]) (λb o hb O2=>⟨o.slots,(other b λq=>hb (q▸.head _)).trans O2,λzz zz=>rfl⟩) λa ha=>?_) ⟨G0,Dv,oe,vs,(other e (Ne.symm G2)).trans he,hk,hd,T,_,_,h1,O0,G2,O1,abl _ hT (adF I1),I1,by simpa using h3,by simp[h3]⟩;obtain rfl:a=T:=by simpa using ha
 exact⟨O0,O1,nf.1,nf.2⟩
theorem jA{e:Addr}(ok:c.Ok)(yX:c.comp=false)(hA:A.frames=some c.frames)(R:Rp c S s)(F:qa c k e S s.heap)(h:∀h',Rp c S {s with heap:=h'}→rM c k e S h' (·=some .none)→Q () {s with heap:=h'}):wpAny M A (noteFrame (.ref e) c.env) (λzz s'=>wpAny M A (setFlight (.ref e) none) Q E s') E s:=
 Bj ok yX hA R F λh1 R1 F1=>oN none R1 F1 λh2 R2 F2=>h h2 R2 F2
theorem oO{e:Addr}{X:Value→aas→Prop}(ok:c.Ok)(yX:c.comp=false)(hA:A.frames=some c.frames)(R:Rp c S s)(F:qa c k e S s.heap)
  (h:∀s',Rp c S s'→qa c k e S s'.heap→X (.ref e) s'):notedBy M A c.env (cameBackBy M A c.env X) (.ref e) s:=by
 refine Bj ok yX hA R F λh1 R1 F1=>?_
 change wpAny M A (do
  if(←field (.ref e) 1)== .none then unsupported "frame.own-activation:exception-without-traceback"
  setFlight (.ref e) c.env.frame) _ _ _
 rw[ok.fr yX]
 refine rC F1 λq1 q2 oe vs he hk hd T oT ts h1 r=>?_
 refine aac (acq he hd h1 ?_)
 with_reducible refine qI (show¬((abP T==aa6)=true)from by simp) ?_
 refine oN (P:=λzz=>True) (some c.L) R1 ⟨q1,q2,oe,vs,he,hk,hd,T,oT,ts,h1,r⟩ λh2 R2 F2=>?_
 exact h _ R2 (F2.YJ λv q=>.inr q)
end
def FC(K0:aao→Frag)(n:Nat)(f:Addr)(args:List AV)(kw:List (Str×AV))(C:Cells)(Q:AV→Cells→Prop)(E:Value→Cells→Prop):Prop:=
 ∀(c:Cx) (S:SS),c.K=K0 c.w.params→c.hd=none→S.cells=C→∀(pos:List Value) (kws:List (Str×Value)),pos.map ab=args→kws.map (λp=>(p.1,ab p.2))=kw→
  c.Ok→∀X A s,c.In A n→Rp c (S.ext X) s→codeAny (model prog c.w) A (.call (.ref f) ⟨pos,kws⟩) (λr s'=>match r with
   | .ok (.ret v)=>QX c X (λv S'=>S'.loc=S.loc∧Q (ab v) S'.cells) v s'
   | .ok _=>False
   | .error x=>EX c X (λk S'=>S'.loc=S.loc∧E k S'.cells) x s') s
theorem FC.any{K0:aao→Frag}{n:Nat}{X:Cells}{Q:AV→Cells→Prop}{E:Value→Cells→Prop}(F:FC K0 n f args kw C Q E){c:Cx}{S:SS}(hK:c.K=K0 c.w.params)(hd:c.hd=none)(hC:S.cells=C){pos:List Value}(hp:pos.map ab=args) (v8:kws.map (λp=>(p.1,ab p.2))=kw) (ok:c.Ok) {A:ads} {s:aas} (hA:c.In A n) (R:Rp c (S.ext X) s) (k:∀v s' C',Rp c ((⟨S.loc,C'⟩:SS).ext X) s'→Q (ab v) C'→RR (.ok (.ret v)) s')(ke:∀e q s' C',qa c q e ((⟨S.loc,C'⟩:SS).ext X) s'.heap→Rp c ((⟨S.loc,C'⟩:SS).ext X) s'→E q C'→RR (.error (.ref e)) s'):codeAny (model prog c.w) A (.call (.ref f) ⟨pos,kws⟩) RR s:=adu (F c S hK hd hC pos kws hp v8 ok X A s hA R) λr s' h=>by
 cases r with
 |ok f=>
  cases f with
  |ret v=>obtain⟨⟨l,C'⟩,h1,h2,h3⟩:=h;cases h2;exact k v s' C' h1 h3
  |_=>exact h.elim
 |error x=>obtain⟨e,q,⟨l,C'⟩,rfl,h2,h3,h4,h5⟩:=h;cases h4;exact ke e q s' C' h2 h3 h5
theorem FC.W{K0:aao→Frag}{n:Nat}{Q:AV→Cells→Prop}{E:Value→Cells→Prop}(F:FC K0 n f args kw C Q E){c:Cx}{S:SS}(hK:c.K=K0 c.w.params)(hd:c.hd=none)(hC:S.cells=C){pos:List Value}(hp:pos.map ab=args) (v8:kws.map (λp=>(p.1,ab p.2))=kw):Mine.W c n S (call (.ref f) pos kws) (λv S'=>S'.loc=S.loc∧Q (ab v) S'.cells) (λk S'=>S'.loc=S.loc∧E k S'.cells):=.i λok X A s hA R=>abH (F.any hK hd hC hp v8 ok hA R (λv s' C' h1 h2=>⟨_,h1,rfl,h2⟩) λe q s' C' h2 h3 h5=>⟨e,q,_,rfl,h2,h3,rfl,h5⟩)
def Cx.enter(c:Cx)(fx:Fx)(m:Str→Option Value)(L:Addr):Cx:={c with aC:=(match c.comp with|true=>c.aC|false=>(c.env,m)::c.aC),L:=L,fx:=fx,env:=envX fx.cn fx.cs L fx.a fx.cd [],comp:=false}
structure cy(K:Frag)(fx:Fx)(fd:aaP)(body:List Stmt):Prop where
 obj:∃oc od osl,K.lookup fx.a=some ⟨oc,od,.func fd,osl⟩
 code:codeIn K fd.code fd.qualname=true
 qual:fd.qualname=fx.cn
 cs:fd.scope=fx.cs
 cd:fd.code=fx.cd
 glob:fd.globals=ab9
 rN:fd.closure=[]
 v9:fd.builtins=abg
 body:fd.body= .stmts body
 co:fd.scope.isCoroutine=false
 gen:fd.scope.isGenerator=false
 kind:fd.scope.kind= .function
 cells:∀x∈fd.scope.names,x.2≠.cell
structure e7(fx:Fx)(binds:List (Str×Value))(loc:List (Str×Option AV)):Prop where
 nd:(loc.map (λx=>x.1)).Nodup
 kinds:∀x∈loc.map (λx=>x.1),fx.cs.names.lookup x=some .local∧(x==("__debug__":Str))=false
 kb:∀y∈binds,fx.cs.names.lookup y.1=some .local
 vals:∀p∈loc,(binds.reverse.lookup p.1).map ab=p.2
def bH(K:Frag)(fx:Fx):Prop:=∀p∈fx.gl,fx.cs.names.lookup p.1=some .globalImplicit∧(p.1==("__debug__":Str))=false∧(nsIn K ab9 p.1=some (some p.2)∨(nsIn K ab9 p.1=some none∧bootBuiltins p.1=some p.2∧p.1≠"__name__"))
theorem Cx.jh{c:Cx}{K0:aao→Frag}(ok:c.Ok)(hK:c.K=K0 c.w.params)(gl:∀P,bH (K0 P) fx)(hk:fx.cs.kind= .function)(hL:c.base.objs.size≤L):(c.enter fx m L).Ok where
 eH:=ok.eH
 eL:=rfl
 eg:=rfl
 eb:=rfl
 kind:=hk
 fr:=λzz=>rfl
 above:=hL
 aC:=λf hf=>by
  unfold Cx.enter at hf
  cases hc:c.comp with
  |true=>rw[hc]at hf;exact ok.aC f hf
  |false=>
   rw[hc]at hf
   rcases aai.mp hf with rfl|hf
   ·exact⟨(ok.fr hc).trans (congrArg some ok.eL.symm),by rw[ok.kind];decide⟩
   ·exact ok.aC f hf
 gl:=λp hp=>by
  refine pZ (gl c.w.params p hp) λh1 h2 h3=>?_
  refine⟨h1,h2,h3.imp (λq=>mg_of ok.eH.fg ok.eH.g (hK▸q)) λh8=>pZ h8 λa b d=>⟨mg_none_of ok.eH.fg ok.eH.g (hK▸a),b,d⟩⟩
def Cx.kept(c:Cx)(m:Str→Option Value)(X:Cells):Cells:=match c.comp with
 |true=>(c.L,.v5 m)::X
 |false=>X
theorem Cx.e8(c:Cx)(fx:Fx)(m:Str→Option Value)(L:Addr):(c.enter fx m L).outer=c.frames:=by delta Cx.outer Cx.enter Cx.frames;cases c.comp<;>rfl
theorem Rp.enter{c:Cx}{S:SS}{X:Cells}{s:aas}{m':Str→Option Value}{tk:Nat}(ok:c.Ok)(R:Rp c (S.ext X) s)(hn:s.heap.Ns c.L m)(hk:∀b o,s.heap.get? b=some o→h₁.get? b=some o)(lS:h₁.Ns s.heap.objs.size m') (hv:∀p∈loc,(m' p.1).map ab=p.2) (nd:(loc.map (λx=>x.1)).Nodup) (kinds:∀x∈loc.map (λx=>x.1),fx.cs.names.lookup x=some .local∧(x==("__debug__":Str))=false) (iS:s.toks≤tk):Rp (c.enter fx m s.heap.objs.size) (SS.ext ⟨loc,S.cells⟩ (c.kept m X)) {s with heap:=h₁,toks:=tk}:=by
 have xl:c.base.get? s.heap.objs.size=none:=R.stays.fresh;have Eh:∀a∈c.L::(c.aC.map (λx=>x.1.locals)++(S.ext X).cells.map (λx=>x.1)),a≠s.heap.objs.size:=λa ha=>abf (R.lt a ha);cases hc:c.comp with
 |false=>have e1:(c.enter fx m s.heap.objs.size).aC=(c.env,m)::c.aC:=(by unfold Cx.enter;rw[hc]);have e2:c.kept m X=X:=(by unfold Cx.kept;rw[hc]);rw[e2];refine⟨λb o e=>hk b o (R.stays b o e),⟨m',lS,hv⟩,λf hf=>?_,λp hp=>?_,λa ha=>?_,?_,nd,kinds,R.gens,R.os,aaE R.tk iS⟩;rw[e1]at hf;rcases aai.mp hf with rfl|hf;rw[ok.eL];exact hn.keeps hk;exact(R.aC f hf).keeps hk;let o ho hc:=ak (R.cells p hp);exact⟨o,hk _ _ ho,hc⟩;rw[e1,aan,ok.eL]at ha;rcases aai.mp ha with rfl|ha;exact xl;exact R.fresh a ha;rw[e1,aan,ok.eL];exact aaB.mpr ⟨λq=>Eh _ q rfl,R.nd⟩
 |true=>have e1:(c.enter fx m s.heap.objs.size).aC=c.aC:=(by unfold Cx.enter;rw[hc]);have pm:(c.aC.map (λx=>x.1.locals)++(S.cells++(c.L,AO.v5 m)::X).map (λx=>x.1)).Perm (c.L::(c.aC.map (λx=>x.1.locals)++(S.ext X).cells.map (λx=>x.1))):=(by rw[aaj,aan,aaj];exact(acY _ aaS).trans aaS);rw[(by unfold Cx.kept;rw[hc]:c.kept m X=(c.L,.v5 m)::X)];refine⟨λb o e=>hk b o (R.stays b o e),⟨m',lS,hv⟩,λf hf=>?_,λp hp=>?_,λa ha=>?_,?_,nd,kinds,R.gens,R.os,aaE R.tk iS⟩;rw[e1]at hf;exact(R.aC f hf).keeps hk;rcases aax.mp hp with hp|hp;let o ho hc:=ak (R.cells p (aaf _ hp));exact⟨o,hk _ _ ho,hc⟩;rcases aai.mp hp with rfl|hp;let o es ep ho hd r:=lW hn;exact⟨o,hk _ _ ho,es,ep,hd,r⟩;let o ho hc:=ak (R.cells p (aad _ hp));exact⟨o,hk _ _ ho,hc⟩;rw[e1]at ha;rcases aai.mp ha with rfl|ha;exact xl;exact R.fresh a (pm.subset ha);rw[e1];exact aaB.mpr ⟨λq=>Eh _ (pm.subset q) rfl,pm.nodup_iff.mpr R.nd⟩
theorem Rp.back{c:Cx}{S:SS}{X:Cells}{s:aas}(ok:c.Ok)(R:Rp c (S.ext X) s)(hm:∀p∈S.loc,(m p.1).map ab=p.2)(R2:Rp (c.enter fx m L) (S'.ext (c.kept m X)) s'):Rp c (SS.ext ⟨S.loc,S'.cells⟩ X) s':=by have jL:=aaB.mp R2.nd;cases hc:c.comp with|false=>have e1:(c.enter fx m L).aC=(c.env,m)::c.aC:=(by unfold Cx.enter;rw[hc]);have e2:c.kept m X=X:=(by unfold Cx.kept;rw[hc]);rw[e2]at R2 jL;have hs:=R2.aC;have hf:=R2.fresh;rw[e1]at hs hf jL;rw[aan,ok.eL]at hf jL;exact⟨R2.stays,⟨m,ok.eL▸hs (c.env,m) (.head _),hm⟩,λf hf=>hs f (.tail _ hf),R2.cells,λa ha=>hf a (.tail _ ha),jL.2,R.kL,R.lk,R2.gens,R2.os,R2.tk⟩|true=>have e1:(c.enter fx m L).aC=c.aC:=(by unfold Cx.enter;rw[hc]);have e2:c.kept m X=(c.L,.v5 m)::X:=(by unfold Cx.kept;rw[hc]);rw[e2]at R2 jL;have hs:=R2.aC;have hf:=R2.fresh;rw[e1]at hs hf jL;have pm:(c.aC.map (λx=>x.1.locals)++(S'.cells++(c.L,AO.v5 m)::X).map (λx=>x.1)).Perm (c.L::(c.aC.map (λx=>x.1.locals)++(SS.ext ⟨S.loc,S'.cells⟩ X).cells.map (λx=>x.1))):=(by rw[aaj,aan,aaj];exact(acY _ aaS).trans aaS);let o ho es ep hd r:=gS (R2.cells (c.L,.v5 m) (aad _ (.head _)));refine⟨R2.stays,⟨m,(eY o es ep ⟨ho,hd,r⟩),hm⟩,hs,λp hp=>?_,λa ha=>hf a (.tail _ (pm.symm.subset ha)),pm.nodup_iff.mp jL.2,R.kL,R.lk,R2.gens,R2.os,R2.tk⟩;rcases aax.mp hp with hp|hp;exact R2.cells p (aaf _ hp);exact R2.cells p (aad _ (.tail _ hp))
theorem qa.back{c:Cx}{X:Cells}{e:Addr}(F:rM (c.enter fx m L) k e (S'.ext (c.kept m X)) h (·=some .none)):qa c k e (SS.ext ⟨loc,S'.cells⟩ X) h:=by
 obtain⟨q1,q2,oe,vs,q3,q4,q5,T,oT,ts,z1,z2,z3,z4,z5,z6,z7,z8⟩:=F;have sub:∀a,a∈(SS.ext ⟨loc,S'.cells⟩ X).cells.map (λx=>x.1)→a∈(S'.ext (c.kept m X)).cells.map (λx=>x.1):=λa ha=>by let p hp r2:=ak (aaH.mp ha);subst r2;show aat;rcases aax.mp hp with hp|hp;exact aaf _ hp;show aad _;unfold Cx.kept;cases c.comp;exact hp;exact .tail _ hp
 exact⟨q1,λq=>q2 (sub _ q),oe,vs,q3,q4,q5,.inr (eY T oT ts ⟨z1,z2,z3,λq=>z4 (sub _ q),z5,z6,.inl z8⟩)⟩
theorem FC.introE{K0:aao→Frag}{n:Nat}{Q:AV→Cells→Prop}{E:Value→Cells→Prop}{fd:aao→aaP}(hf:∀P,cy (K0 P) fx (fd P) body) (gl:∀P,bH (K0 P) fx)(hb:∀(s:aas) (P:aao),(K0 P).In s.heap→∀pos kws,pos.map ab=args→kws.map (λp=>(p.1,ab p.2))=kw→∃binds,ac9 s (fd P) ⟨pos,kws⟩ binds∧e7 fx binds loc)(h:∀c:Cx,c.K=K0 c.w.params→c.hd=none→c.fx=fx→c.comp=false→c.env=envX fx.cn fx.cs c.L fx.a fx.cd []→EB c n ⟨loc,C⟩ body (λf S'=>match f with| .ret v=>Q v S'.cells| .next=>Q .none S'.cells|_=>False) (λk S'=>E k S'.cells)):FC K0 (n+1) fx.a args kw C Q E:=by
 intro c S hK hd hC pos kws hp v8 ok X A s hA R;have F:=hf c.w.params;have fg:(K0 c.w.params).In s.heap:=λa o e=>R.stays a o (ok.eH.fg a o (hK▸e));let binds hB hl:=ak (hb s c.w.params fg pos kws hp v8);let oc od osl ho:=vT F.obj;let h1 h2 h3 h4:=jd hA;let m hn hm:=ak R.ns;refine codeAny_call_def (fd:=fd c.w.params) (body:=body) (binds:=binds) (by exact Lw h3) (fg _ _ ho) rfl (ok.eH.lim.keeps R.stays) (codeRec_of fg F.code) F.body hB F.cells (λx hx=>F.cs▸hl.kb x hx) (λh₁ lS O3=>?_) F.co F.gen F.kind;have envE:callEnv (fd c.w.params) s.heap.objs.size fx.a=(c.enter fx m s.heap.objs.size).env:=by delta callEnv newEnv;simp only[F.cs,F.glob,F.rN,F.qual,F.cd,F.v9];rfl
 rw[envE];have Dw:=Cx.jh (m:=m) (L:=s.heap.objs.size) ok hK gl (F.cs▸F.kind) (aaN (aaC ok.above hn.lt):c.base.objs.size≤s.heap.objs.size);subst hC;have qM:(c.enter fx m s.heap.objs.size).In (A.deeper (c.enter fx m s.heap.objs.size).env) n:=by refine⟨?_,h2,?_,?_⟩;change A.frames.map _=_;rw[h1,Cx.dp (c:=c.enter fx m s.heap.objs.size) rfl,Cx.e8];rfl;change A.depth+1+n<_;exact RQ h3;change A.units+3+8*n<_;exact SM h4
 refine aau ((h (c.enter fx m s.heap.objs.size) hK hd rfl rfl rfl).run Dw _ _ _ qM (R.enter (fx:=fx) (m':=λx=>binds.reverse.lookup x) (h₁:=h₁) (tk:=s.toks+binds.length) ok hn O3 lS hl.vals hl.nd hl.kinds (aa5 _ _))) (λf s' h8=>h8.el λS' R2 k=>?_) λx s' h8=>h8.el λe k S' hx hF R2 hE=>?_
 ·cases f with|ret v=>exact⟨_,R.back ok hm R2,rfl,k⟩|next=>exact⟨_,R.back ok hm R2,rfl,k⟩|brk=>exact k.elim|cont=>exact k.elim
 subst hx;refine aac (jA Dw rfl qM.1 R2 hF λh2 R3 F3=>?_);exact⟨e,k,⟨S.loc,S'.cells⟩,rfl,qa.back (loc:=S.loc) F3,R.back ok hm R3,rfl,hE⟩
theorem FC.intro{K0:aao→Frag}{n:Nat}{Q:AV→Cells→Prop}{E:Value→Cells→Prop}{fd:aao→aaP}(hf:∀P,cy (K0 P) fx (fd P) body) (gl:∀P,bH (K0 P) fx)(hb:∀(s:aas) (P:aao),(K0 P).In s.heap→∀pos kws,pos.map ab=args→kws.map (λp=>(p.1,ab p.2))=kw→∃binds,ac9 s (fd P) ⟨pos,kws⟩ binds∧e7 fx binds loc)(h:∀c:Cx,c.K=K0 c.w.params→c.hd=none→c.fx=fx→c.comp=false→EB c n ⟨loc,C⟩ body (λf S'=>match f with| .ret v=>Q v S'.cells| .next=>Q .none S'.cells|_=>False) (λk S'=>E k S'.cells)):FC K0 (n+1) fx.a args kw C Q E:=FC.introE hf gl hb λc h1 h2 h3 h4 zz=>h c h1 h2 h3 h4
end
section
variable{Q:Bool→SS→Prop} {l:List Expr} {r e':Expr} {op:BoolOp}
section
variable{c:Cx} {n:Nat} {S:SS} {α β:Type} {E E':EP}
theorem W.operate{vs:List Value}{Q:Value→SS→Prop}(h:W c n S t Q E):W c n S (operate vs t) Q E:=.i λok X A s hA R Γ p hΓ=>by rw[Sem.wp_operate];exact h.run ok X A s hA R Γ p hΓ
theorem W.lookup{t:Sem α}{a:α}{Q:α→SS→Prop}(h:Q a S)(l:c.Ok→∀h,c.base.StaysIn h→Looks (model prog c.w) h t a):W c n S t Q E:=.i λok X A s hA R=>(l ok s.heap R.stays).here ⟨S,R,h⟩
def BO(c:Cx)(n:Nat)(S:SS)(op:Operator)(a b:AV)(Q:AV→SS→Prop)(E:EP):Prop:=∀v w,ab v=a→ab w=b→W c n S (binaryOp op v w) (λr=>Q (ab r)) E
def IO(c:Cx)(n:Nat)(S:SS)(op:Operator)(a b:AV)(Q:AV→SS→Prop)(E:EP):Prop:=∀v w,ab v=a→ab w=b→W c n S (inplaceOp op v w) (λr=>Q (ab r)) E
def CO(c:Cx)(n:Nat)(S:SS)(op:CmpOp)(a b:AV)(Q:AV→SS→Prop)(E:EP):Prop:=∀v w,ab v=a→ab w=b→W c n S (compareOp op v w) (λr=>Q (ab r)) E
def TR(c:Cx)(n:Nat)(S:SS)(a:AV)(Q:Bool→SS→Prop)(E:EP):Prop:=∀v,ab v=a→W c n S (truthy v) Q E
def bM(c:Cx)(n:Nat)(S:SS)(f:AV)(as:List AV)(Q:AV→SS→Prop)(E:EP):Prop:=∀v vs,ab v=f→vs.map ab=as→W c n S (call v vs) (λr=>Q (ab r)) E
def EA(c:Cx)(n:Nat)(S:SS)(l:List Expr)(Q:List AV→SS→Prop)(E:EP):Prop:=∀pos,W c n S (spliced (backTo pos (aci l c.env))) (λvs=>Q (vs.map ab)) E
theorem Bk{l:Expr}{op:Operator}{Q:AV→SS→Prop}(h:EE c n S l (λa S1=>EE c n S1 r (λb S2=>BO c n S2 op a b Q E) E) E):EE c n S (.BinOp l op r p) Q E:=.i λok X A s hA R=>wpAny_BinOp (h.st ok X A s hA R λv s1 S1 R1 h1=>h1.st ok X A s1 hA R1 λw s2 S2 R2 h2=>(h2 v w rfl rfl).run ok X A s2 hA R2)
theorem I3{l:Expr}{op:CmpOp}{Q:AV→SS→Prop}(h:EE c n S l (λa S1=>EE c n S1 r (λb S2=>CO c n S2 op a b Q E) E) E)(hm:autoParam (behindInMarks op r=false) apR):EE c n S (.Compare l [op] [r] p) Q E:=.i λok X A s hA R=>wpAny_Compare1 (h.st ok X A s hA R λv s1 S1 R1 h1=>h1.st ok X A s1 hA R1 λw s2 S2 R2 h2=>(h2 v w rfl rfl).run ok X A s2 hA R2) hm
theorem Bl{l:Expr}{op:CmpOp}(h:EE c n S l (λa S1=>EE c n S1 r (λb S2=>CO c n S2 op a b (λt S3=>TR c n S3 t Q E) E) E) E)(hm:autoParam (behindInMarks op r=false) apR):ET c n S (.Compare l [op] [r] p) Q E:=.i λok X A s hA R=>wpAny_isTrue_Compare1 (h.st ok X A s hA R λv s1 S1 R1 h1=>h1.st ok X A s1 hA R1 λw s2 S2 R2 h2=>aau ((h2 v w rfl rfl).run ok X A s2 hA R2) (λt s3 TM=>by obtain⟨S3,R3,h3⟩:=TM;exact(h3 t rfl).run ok X A s3 hA R3) λzz zz x=>x) hm
def xm:Expr→Bool
 | .Name .. | .Call .. | .Attribute .. | .Subscript .. | .Constant .. =>true
 |_=>false
theorem v_{e:Expr}(h:EE c n S e (λa S1=>TR c n S1 a Q E) E)(he:autoParam (xm e=true) apR):ET c n S e Q E:=.i λok X A s hA R=>wpAny_isTrue_value (h.st ok X A s hA R λv s1 S1 R1 h1=>(h1 v rfl).run ok X A s1 hA R1) (by cases e<;>first|rfl|cases he)
theorem I6{e:Expr}(h:ET c n S e (λb S1=>Q (!b) S1) E):ET c n S (.UnaryOp .Not e p) Q E:=by unfold ET;rw[arm_isTrue_UnaryOp];exact W.bind (h.az λb S1 k=>W.pure k)
theorem nC(h:Q true S):W c n S (allTrue .And [] c.env) Q E:=W.pure h
theorem uo{e:Expr}(h:ET c n S e (λb S1=>if b=true then W c n S1 (allTrue .And l c.env) Q E else Q false S1) E):W c n S (allTrue .And (e::l) c.env) Q E:=by rw[arm_allTrue_cons];refine W.bind (h.az λb S1 k=>?_);cases b;exact W.pure k;exact k
theorem oQ(h:Q false S):W c n S (allTrue .Or [] c.env) Q E:=W.pure h
theorem wa{e:Expr}(h:ET c n S e (λb S1=>if b=true then Q true S1 else W c n S1 (allTrue .Or l c.env) Q E) E):W c n S (allTrue .Or (e::l) c.env) Q E:=by rw[arm_allTrue_cons];refine W.bind (h.az λb S1 k=>?_);cases b;exact k;exact W.pure k
theorem Ei(h:W c n S (allTrue op l c.env) Q E):ET c n S (.BoolOp op l p) Q E:=by unfold ET;rw[arm_isTrue_BoolOp];exact h
theorem oR{e:Expr}{Q:AV→SS→Prop}(h:EE c n S e Q E):W c n S (boolOp p op (evalEach [e] c.env)) (λv=>Q (ab v)) E:=h
theorem wb{e:Expr}{Q:AV→SS→Prop}(h:EE c n S e (λa S1=>TR c n S1 a (λb S2=>if b=true then W c n S2 (boolOp p .And (evalEach (e'::l) c.env)) (λv=>Q (ab v)) E else Q a S2) E) E):W c n S (boolOp p .And (evalEach (e::e'::l) c.env)) (λv=>Q (ab v)) E:=by
 change W c n S (do let v←eval e c.env;standAt p;let t←holding [v] (truthy v);match BoolOp.And,t with| .And,false| .Or,true=>pure v|_,_=>boolOp p .And (evalEach (e'::l) c.env)) _ _
 refine W.bind (h.az λv S1 k=>W.bind (W.standAt (W.bind (W.holding ((k v rfl).az λb S2 k2=>?_)))))
 cases b
 ·exact W.pure k2
 ·exact k2
theorem yZ{e:Expr}{Q:AV→SS→Prop}(h:EE c n S e (λa S1=>TR c n S1 a (λb S2=>if b=true then Q a S2 else W c n S2 (boolOp p .Or (evalEach (e'::l) c.env)) (λv=>Q (ab v)) E) E) E):W c n S (boolOp p .Or (evalEach (e::e'::l) c.env)) (λv=>Q (ab v)) E:=by
 change W c n S (do let v←eval e c.env;standAt p;let t←holding [v] (truthy v);match BoolOp.Or,t with| .And,false| .Or,true=>pure v|_,_=>boolOp p .Or (evalEach (e'::l) c.env)) _ _
 refine W.bind (h.az λv S1 k=>W.bind (W.standAt (W.bind (W.holding ((k v rfl).az λb S2 k2=>?_)))))
 cases b
 ·exact k2
 ·exact W.pure k2
theorem wc{Q:AV→SS→Prop}(h:W c n S (boolOp p op (evalEach l c.env)) (λv=>Q (ab v)) E):EE c n S (.BoolOp op l p) Q E:=h
theorem Bm{t b o:Expr}{Q:AV→SS→Prop}(h:ET c n S t (λx S1=>if x=true then EE c n S1 b Q E else EE c n S1 o Q E) E):EE c n S (.IfExp t b o p) Q E:=by unfold EE;rw[arm_eval_IfExp];refine W.bind (h.az λx S1 k=>?_);cases x<;>exact k
theorem bj(h:Q b S):TR c n S (.bool b) Q E:=λv hv=>.i λok X A s hA R=>by rw[gr hv];exact adH ⟨S,R,h⟩
end
end
section
variable{x y:Int} {s:aas} {a:String} {r:Bool} {l:List Expr}
section
variable{c:Cx} {n:Nat} {S:SS} {α β:Type} {E E':EP}
theorem y0(h:Q (.bool (x==y)) S):CO c n S .Eq (.int x) (.int y) Q E:=λv w hv hw=>W.of λok X A s hA R=>by
 let t r1:=eE (aP hv);subst r1;let u r1:=eE (aP hw);subst r1;with_reducible refine PyProof.Rows.eq_int ?_
 exact⟨S,R,h⟩
theorem y5(h:Q (.bool (x !=y)) S):CO c n S .NotEq (.int x) (.int y) Q E:=λv w hv hw=>W.of λok X A s hA R=>by
 let t r1:=eE (aP hv);subst r1;let u r1:=eE (aP hw);subst r1;with_reducible refine PyProof.Rows.ne_int ?_
 exact⟨S,R,h⟩
theorem qN(h:Q (.bool (decide (x<y))) S):CO c n S .Lt (.int x) (.int y) Q E:=λv w hv hw=>W.of λok X A s hA R=>by
 let t r1:=eE (aP hv);subst r1;let u r1:=eE (aP hw);subst r1;with_reducible refine PyProof.Rows.lt_int ?_
 exact⟨S,R,h⟩
theorem y6(h:Q (.bool (decide (y<x))) S):CO c n S .Gt (.int x) (.int y) Q E:=λv w hv hw=>W.of λok X A s hA R=>by
 let t r1:=eE (aP hv);subst r1;let u r1:=eE (aP hw);subst r1;with_reducible refine PyProof.Rows.gt_int ?_
 exact⟨S,R,h⟩
theorem y7(h:Q (.bool (decide (y≤x))) S):CO c n S .GtE (.int x) (.int y) Q E:=λv w hv hw=>W.of λok X A s hA R=>by
 let t r1:=eE (aP hv);subst r1;let u r1:=eE (aP hw);subst r1;with_reducible refine PyProof.Rows.ge_int ?_
 exact⟨S,R,h⟩
theorem we(h:Q (.int (x+y)) S):BO c n S .Add (.int x) (.int y) Q E:=λv w hv hw=>W.of λok X A s hA R=>by
 let t r1:=eE (aP hv);subst r1;let u r1:=eE (aP hw);subst r1;with_reducible refine PyProof.Rows.add_int ?_
 exact⟨S,R.toks,h⟩
theorem iz(hy:y≠0)(h:Q (.int (Int.fmod x y)) S):BO c n S .Mod (.int x) (.int y) Q E:=λv w hv hw=>W.of λok X A s hA R=>by
 let t r1:=eE (aP hv);subst r1;let u r1:=eE (aP hw);subst r1;with_reducible refine PyProof.Rows.mod_int' hy ?_
 exact⟨S,R.toks,h⟩
theorem wg(h:Q (.int (x+y)) S):IO c n S .Add (.int x) (.int y) Q E:=λv w hv hw=>W.of λok X A s hA R=>by
 let t r1:=eE (aP hv);subst r1;let u r1:=eE (aP hw);subst r1;with_reducible refine PyProof.Rows.iadd_int ?_
 exact⟨S,R.toks,h⟩
theorem qO{x y:Str}(h:Q (.bool (x==y)) S):CO c n S .Eq (.str x) (.str y) Q E:=λv w hv hw=>W.of λok X A s hA R=>by
 let t r1:=eE (aD hv);subst r1;let u r1:=eE (aD hw);subst r1;with_reducible refine PyProof.Rows.eq_str ?_
 exact⟨S,R,h⟩
theorem y8{x y:Str}(h:Q (.bool (x !=y)) S):CO c n S .NotEq (.str x) (.str y) Q E:=λv w hv hw=>W.of λok X A s hA R=>by
 let t r1:=eE (aD hv);subst r1;let u r1:=eE (aD hw);subst r1;with_reducible refine PyProof.Rows.ne_str ?_
 exact⟨S,R,h⟩
theorem mV{x y:Str}{t u:Tok}{Q:Value→aas→Prop}(kj:x.length+y.length≤ac_)(h:∀t' tk,s.toks≤tk→Q (.str (x++y) t') {s with toks:=tk}):(if x.length==0 then Made.val (.str y u)else if y.length==0 then Made.val (.str x t)else Made.str (x++y)).post Q s:=by
 obtain⟨xs⟩:=x;obtain⟨ys⟩:=y;by_cases hx:xs.size=0;obtain rfl:xs= #[]:=adm hx;have e:(⟨#[]⟩++⟨ys⟩:Str)=⟨ys⟩:=by change(⟨#[]++ys⟩:Str)=_;simp
 rw[e]at h;exact h u s.toks (aak _);by_cases hy:ys.size=0;obtain rfl:ys= #[]:=adm hy;have e:(⟨xs⟩++⟨#[]⟩:Str)=⟨xs⟩:=by change(⟨xs++ #[]⟩:Str)=_;simp
 rw[e]at h;rw[if_neg (by simpa [Str.length]using hx),if_pos (by rfl)];exact h t s.toks (aak _);rw[if_neg (by simpa [Str.length]using hx),if_neg (by simpa [Str.length]using hy)];refine⟨?_,h _ _ (aa2 _)⟩;change(xs++ys).size≤_;rw[Array.size_append];exact kj
theorem cz{x y:Str}(kj:x.length+y.length≤ac_)(h:Q (.str (x++y)) S):BO c n S .Add (.str x) (.str y) Q E:=λv w hv hw=>W.of λok X A s hA R=>by let t r1:=eE (aD hv);subst r1;let u r1:=eE (aD hw);subst r1;exact PySem.P.add_str (mV kj λt' tk hk=>⟨S,R.toks hk,h⟩)
theorem dK{x y:Str}(kj:x.length+y.length≤ac_)(h:Q (.str (x++y)) S):IO c n S .Add (.str x) (.str y) Q E:=λv w hv hw=>W.of λok X A s hA R=>by let t r1:=eE (aD hv);subst r1;let u r1:=eE (aD hw);subst r1;exact PySem.P.iadd_str (mV kj λt' tk hk=>⟨S,R.toks hk,h⟩)
def TN:AV→Option Bool| .none=>some true| .bi _=>none| .oth _=>none|_=>some false
theorem rO(h:TN (ab v)=some b):plainIs v .none=true∧(v== .none)=b:=by cases v<;>first|(cases h;exact⟨rfl,rfl⟩)|(cases h;exact⟨rfl,beq_eq_false_iff_ne.mpr (λe=>nomatch e)⟩)|cases h
theorem O4{x:AV}(hp:TN x=some b)(h:Q (.bool b) S):CO c n S .Is x .none Q E:=λv w hv hw=>W.of λok X A s hA R=>by subst hv;obtain rfl:=eO hw;exact wpAny_is_plain (rO hp).1 ⟨S,R,by rw[(rO hp).2];exact h⟩
theorem Bn{x:AV}(hp:TN x=some b)(h:Q (.bool (!b)) S):CO c n S .IsNot x .none Q E:=λv w hv hw=>W.of λok X A s hA R=>by subst hv;obtain rfl:=eO hw;exact wpAny_isNot_plain (rO hp).1 ⟨S,R,by rw[(rO hp).2];exact h⟩
theorem G7{x y:Bool}:(Value.bool x==Value.bool y)=(x==y):=by cases x<;>cases y<;>rfl
theorem Ej{x y:Bool}(h:Q (.bool (x==y)) S):CO c n S .Is (.bool x) (.bool y) Q E:=λv w hv hw=>W.of λok X A s hA R=>by obtain rfl:=gr hv;obtain rfl:=gr hw;exact wpAny_is_plain rfl ⟨S,R,by rw[G7];exact h⟩
theorem wh{x y:Bool}(h:Q (.bool (!(x==y))) S):CO c n S .IsNot (.bool x) (.bool y) Q E:=λv w hv hw=>W.of λok X A s hA R=>by obtain rfl:=gr hv;obtain rfl:=gr hw;exact wpAny_isNot_plain rfl ⟨S,R,by rw[G7];exact h⟩
theorem Bo{b:String}(h:(a==b)=r):(abQ a==abQ b)=r:=h▸decide_eq_decide.mpr ⟨λe=>(Value.type.inj e),λe=>e▸rfl⟩
theorem Ek{b:String}(hp:(a==b)=r)(h:Q (.bool r) S):CO c n S .Is (.type a) (.type b) Q E:=λv w hv hw=>W.of λok X A s hA R=>by obtain rfl:=bI hv;obtain rfl:=bI hw;exact wpAny_is_plain rfl ⟨S,R,by rw[Bo hp];exact h⟩
theorem wi{b:String}(hp:(a==b)=r)(h:Q (.bool (!r)) S):CO c n S .IsNot (.type a) (.type b) Q E:=λv w hv hw=>W.of λok X A s hA R=>by obtain rfl:=bI hv;obtain rfl:=bI hw;exact wpAny_isNot_plain rfl ⟨S,R,by rw[Bo hp];exact h⟩
theorem oS{Q:List AV→SS→Prop}(h:Q [] S):EA c n S [] Q E:=λzz=>W.pure h
abbrev aV:Expr→Bool:=kdsPlain
theorem bO{e:Expr}(h:aV e=true):aci (e::l) env=(false,eval e env)::aci l env:=by cases e<;>first|rfl|cases h
theorem gu{e:Expr}{Q:List AV→SS→Prop}(h:EE c n S e (λv S1=>EA c n S1 l (λvs S2=>Q (v::vs) S2) E) E)(hp:autoParam (aV e=true) apR):EA c n S (e::l) Q E:=λpos=>.i λok X A s hA R=>by rw[bO hp];exact Calls.spliced_cons (h.st ok X A s hA R λv s1 S1 R1 h1=>(h1 pos).run ok X A s1 hA R1)
theorem bV{E:Value→aas→Prop}{f:Value}{args:List (Bool×Sem Value)}{Q:Args→aas→Prop}(hs:args.any (λx=>x.1)=false)
  (h:wpAny M A (spliced args) (λvs s'=>Q ⟨vs,[]⟩ s') E s):wpAny M A (evalArgs f true args []) Q E s:=by
 have body:∀{x:Sem (List Value)},wpAny M A x (λvs s'=>Q ⟨vs,[]⟩ s') E s→wpAny M A (x>>=λvs=>(pure (vs,(none:Option Value)):Sem (List Value×Option Value))>>=λp=>holding (p.1++p.2.toList) (do
   let readLate (keep:List Value):Sem (List Value):=do
    let some s:=p.2|return p.1
    if←notIterableAtAll s then
     rule "call.star.not-iterable"
     raiseError "TypeError" s!"{← functionStr f} argument after * must be an iterable, not {← typeNameOf s}"
    holding keep (collect s)
   let kw:=(([]:List (Option Str×Sem Value)).filterMap (λx=>x.1)).zip (←evalAll [])
   return⟨←readLate (kw.map (λx=>x.2)),kw⟩)) Q E s:=λh=>aac (aau h (λvs s' k=>aac (aal (abk (aac (aal (aac (aal (aal k)))))))) λzz zz x=>x)
 cases args with
 |nil=>exact body h
 |cons p r=>
  obtain⟨b,x⟩:=p
  cases b with
  |true=>cases hs
  |false=>exact Calls.evalArgs_plain h
end
end
section
variable{P:aao} {s:aas} {C:Addr}
def dU:List (Str×AV)→Str→Option AV|[],_=>none|p::r,x=>if p.1=x then some p.2 else dU r x
def n5:List (Str×AV)→Str→AV→List (Str×AV)|[],x,v=>[(x,v)]|p::r,x,v=>if p.1=x then(x,v)::r else p::n5 r x v
def LD(es:List (Str×AV))(x:Str)(n:Nat):Nat:=if(dU es x).isSome then n else n+1
theorem oU(h:ab v= .str y)(x:Str):v.isStr x=decide (y=x):=by let t r1:=eE (aD h);subst r1;change(y==x)=_;rw[ac7];simp
theorem n6(h:oH (qJ P) es ents)(x:Str):∃r,getL x ents=some r∧r.map ab=dU es x:=by
 have nr:ents.any (λx=>x.refKey)=false:=by induction h with|nil=>rfl|cons h _ ih=>let t ht:=eE (aD h.1);rw[List.any_cons,ih,Bool.or_false];unfold DictEntry.refKey;rw[ht]
 unfold getL;have key:∃r:Option abM,ents.find? (·.key.isStr x)=r∧(r.map λe=>ab e.val)=dU es x:=by clear nr;induction h with|nil=>exact⟨none,rfl,rfl⟩| @cons a b l r h _ ih=>rw[List.find?_cons,oU h.1];unfold dU;by_cases q:a.1=x;simp only[q,decide_true,if_true];exact⟨_,rfl,congrArg some h.2.1⟩;simp only[q,decide_false,if_false];exact ih
 let r h1 h2:=ak key;rw[h1];cases r with|some e=>exact⟨_,rfl,h2⟩|none=>exact⟨none,by simp only[nr,aaU,if_false],h2⟩
theorem El(h:oH (qJ P) es ents)(x:Str)(k v:Value)(hk:ab k= .str x):oH (qJ P) (n5 es x (ab v)) (putL x (PyData.keyHash P x) k v ents):=by induction h with|nil=>exact .cons ⟨hk,rfl,rfl⟩ .nil| @cons a b l r h1 h2 ih=>unfold n5 putL;rw[oU h1.1];by_cases q:a.1=x;simp only[q,decide_true,if_true];exact .cons ⟨by rw[h1.1,q],rfl,by rw[h1.2.2,q]⟩ h2;simp only[q,decide_false,if_false,aaU];exact .cons h1 ih
theorem Em(h:oH (qJ P) es ents)(x:Str)(n:Nat):putN x ents n=LD es x n:=by
 delta putN LD;have:ents.any (·.key.isStr x)=(dU es x).isSome:=by induction h with|nil=>rfl| @cons a b l r h1 h2 ih=>rw[List.any_cons,oU h1.1,ih];change _=(if a.1=x then some a.2 else dU l x).isSome;by_cases q:a.1=x<;>simp[q]
 rw[this]
theorem En{v:AV}:∀{es:List (Str×AV)},y∈(n5 es x v).map (λx=>x.1)→y=x∨y∈es.map (λx=>x.1):=by intro l0;induction l0 with|nil=>exact λh=>.inl (by simpa [n5]using h)|cons p r ih=>intro h;unfold n5 at h;split at h;rename_i q;rw[aan,aai]at h;exact h.imp id λz=>(by rw[aan];exact .tail _ z);rw[aan,aai]at h;rcases h with h|h;exact .inr (by rw[aan,h];exact .head _);exact(ih h).imp id λz=>by rw[aan];exact .tail _ z
theorem y9{v:AV}:∀{es:List (Str×AV)},(es.map (λx=>x.1)).Nodup→((n5 es x v).map (λx=>x.1)).Nodup:=by intro l0;induction l0 with|nil=>exact λzz=>by simp[n5]|cons p r ih=>intro h;rw[aan,aaB]at h;unfold n5;split;rename_i q;rw[aan,aaB];exact⟨q▸h.1,h.2⟩;rename_i q;rw[aan,aaB];exact⟨λz=>(En z).elim q h.1,ih h.2⟩
theorem Bp(nm:Str)(hs:Int)(k v:Value):∀ents:List abM,(putL nm hs k v ents).length≤ents.length+1:=by intro l0;induction l0 with|nil=>exact aak _|cons e r ih=>have:=ih;unfold putL;split<;>simp only[aaF]<;>lia
theorem oH.len{α β:Type}{R:α→β→Prop}{l:List α}{r:List β}(h:oH R l r):l.length=r.length:=by induction h with|nil=>rfl|cons _ _ ih=>simp[ih]
section
variable{c:Cx} {n:Nat} {S:SS} {α β:Type} {E E':EP}
theorem Rp.oV(R:Rp c S s)(hd:(d,.dict es k)∈S.cells):(es.map (λx=>x.1)).Nodup:=by let o ho h z3:=bN (R.cells _ hd);exact h
theorem Rp.inst{X:Cells}{x:Addr}(R:Rp c (S.ext X) s)(hx:(x,.inst C d)∈S.cells)(hd:(d,.dict es k)∈S.cells):∃ents,InstAt s.heap x (instObj C d) C (some (dictOf ents k))∧oH (qJ c.w.params) es ents:=by let o ho r2:=ak (R.cells _ (aaf _ hx));subst r2;let od RW z2 ents r4 h2:=vU (R.cells _ (aaf _ hd));subst r4;exact⟨ents,⟨ho,rfl,rfl,RW⟩,h2⟩
theorem fQ(ok:c.Ok)(R:Rp c S s):c.K.In s.heap:=λa o e=>R.stays a o (ok.eH.fg a o e)
def attrOk(K:Frag)(C:Addr)(x:Str):Bool:=adf K (.ref C) "__getattribute__"==some (some (.builtin "object.__getattribute__"))&&adf K (.ref C) "__getattr__"==some none&&hasDictIn K C&&(match adf K (.ref C) x with|some attr=>noGet K attr|none=>false)
def hand:AV→Bool| .bi _=>false|_=>true
theorem handed(h:hand (ab v)=true):handedIn v=true:=by cases v<;>first|rfl|cases h
theorem qP{x:Addr}{nm:Str}{a:AV}(hx:(x,.inst C d)∈S.cells)(hd:(d,.dict es k)∈S.cells)(hl:dU es nm=some a)(p3:attrOk c.K C nm=true)(hh:hand a=true) (h:Q a S):W c n S (getAttr (.ref x) nm b) (λv=>Q (ab v)) E:=W.of λok X A s hA R=>by
 let ents I h2:=ak (R.inst hx hd);let r hr rP:=ak (n6 h2 nm);unfold attrOk at p3;simp only[aaM]at p3;obtain⟨⟨⟨k1,k2⟩,k3⟩,k4⟩:=p3;cases hf:adf c.K (.ref C) nm with
 |none=>rw[hf]at k4;cases k4
 |some attr=>
  rw[hf]at k4;rw[hl]at rP;cases r with
  |none=>cases rP
  |some v=>obtain rfl:ab v=a:=aaJ rP;exact get_value (fQ ok R) I (beq_iff_eq.mp k1) (findObj_own k3 hf k4 hr) (handed hh) ⟨S,R.toks,h⟩
def bo:Expr→Bool| .Call .. =>true|_=>false
theorem rQ{e:Expr}{nm:Str}(h:EE c n S e (λa S1=>∀v,ab v=a→W c n S1 (getAttr v nm true) (λr=>Q (ab r)) E) E)(he:autoParam (bo e=false) apR):EE c n S (.Attribute e nm p) Q E:=by unfold EE;rw[arm_eval_Attribute,show attributeBase e nm c.env (eval e c.env)=eval e c.env by cases e<;>first|rfl|cases he];refine W.bind (h.az λv S1 k=>W.bind (W.standAt (W.bind (W.holding ((k v rfl).az λr S2 k2=>?_)))));exact .i λok X A s hA R=>aac (wpAny_letTemporaryGo (aal ⟨S2,R,k2⟩))
theorem rR{e:Expr}{nm:Str}(h:EE c n S e (λa S1=>∃x C d es k r,a= .ref x∧(x,.inst C d)∈S1.cells∧(d,.dict es k)∈S1.cells∧dU es nm=some r∧attrOk c.K C nm=true∧hand r=true∧Q r S1) E) (he:autoParam (bo e=false) apR):EE c n S (.Attribute e nm p) Q E:=rQ (W.az h λv S1 h8 u hu=>cX h8 λx C d es k r h1 h2 h3 h4 h5 h6 h7=>by obtain rfl:=aj (hu.trans h1);exact qP h2 h3 h4 h5 h6 h7) he
theorem Eo(h:Heap)(d L:Addr):∃pre:List (Addr×Obj),(∀p∈pre,p.1≠d∧p.1≠L∧h.get? p.1=some p.2)∧∀b o,h.get? b=some o→b≠d→b≠L→(b,o)∈pre:=by refine⟨(abt h.objs.size).filterMap λb=>if b=d∨b=L then none else(h.get? b).map (b,·),λp hp=>?_,λb o e h1 h2=>?_⟩;let b hb e:=ak (List.mem_filterMap.mp hp);split at e;cases e;rename_i q;let o ho r2:=ak (aaq.mp e);subst r2;exact⟨λz=>q (.inl z),λz=>q (.inr z),ho⟩;refine List.mem_filterMap.mpr ⟨b,adM.mpr (aa3 e),?_⟩;rw[if_neg (by rintro(q|q);exact h1 q;exact h2 q),e];rfl
def l8:Heap:={}
theorem l_(a:Addr):l8.get? a=none:=by unfold Heap.get?;rfl
theorem Rp.ledger(R:Rp c S s){od:Obj}(hd:s.heap.get? d=some od)(hL:d≠c.L):∃m pre,(∀p∈S.loc,(m p.1).map ab=p.2)∧Fr l8 c.L s.heap m∧News l8 c.L s.heap (pre++(d,od)::[])∧(∀p∈pre,p.1≠d)∧∀b o,s.heap.get? b=some o→b≠d→b≠c.L→(b,o)∈pre:=by
 let m hn hl:=ak R.ns;let pre h1 h2:=ak (Eo s.heap d c.L);refine ba m pre ⟨hl,⟨hn,λb o e=>(by rw[l_]at e;cases e),aaD _⟩,λp hp=>?_,λp hp=>(h1 p hp).1,h2⟩;rcases aax.mp hp with hp|hp;exact⟨(h1 p hp).2.2,(h1 p hp).2.1,l_ _⟩;obtain rfl:p=(d,od):=by simpa using hp
 exact⟨hd,hL,l_ _⟩
theorem Rp.Bq{tk:Nat}{x y:AO}(R:Rp c S s)(u:aI a x y S.cells cells')(k:∀b o,s.heap.get? b=some o→b≠a→b≠c.L→h'.get? b=some o)(hn:∃m,h'.Ns c.L m∧∀p∈S.loc,(m p.1).map ab=p.2) (ho:h'.get? a=some o') (hc:p0 c.w y o') (iS:autoParam (s.toks≤tk) apT):Rp c ⟨S.loc,cells'⟩ {s with heap:=h',toks:=tk}:=by
 have hk:=u.keys;have ha:a∈c.aC.map (λx=>x.1.locals)++S.cells.map (λx=>x.1):=aad _ (aat (f:=(λx=>x.1)) u.mem);have nd:=aaB.mp R.nd;have jL:=aaX.mp nd.2;have TO:∀f∈c.aC,f.1.locals≠c.L:=λf hf q=>nd.1 (q▸aaf _ (aat (f:=(λx=>x.1.locals)) hf));refine⟨λb o e=>k b o (R.stays b o e) (λq=>?_) (λq=>?_),hn,λf hf=>?_,λp hp=>?_,?_,?_,R.kL,R.lk,R.gens,R.os,aaE R.tk iS⟩;rw[q,R.fresh a (.tail _ ha)]at e;cases e;rw[q,R.fresh c.L (.head _)]at e;cases e;let o es ep e r:=qG (R.aC f hf);exact eY o es ep ⟨k _ _ e (λq=>jL.2.2 _ (aat (f:=(λx=>x.1.locals)) hf) _ (aat (f:=(λx=>x.1)) u.mem) q) (TO f hf),r⟩;let pre post e1 e2:=cI u.split;have ki:((pre++(a,x)::post).map (λx=>x.1)).Nodup:=e1▸jL.2.1;have gV:∀q∈pre++post,q.1≠a:=by intro q hq e;rw[aaj,aan]at ki;have z:=(aaS.nodup_iff.mp ki);show(aaB.mp z).1;rw[←aaj];exact e▸aat (f:=(λx=>x.1)) hq
 have old:∀q∈S.cells,q.1≠a→∃o,h'.get? q.1=some o∧p0 c.w q.2 o:=λq hq YL=>by let o lR IZ:=ak (R.cells q hq);exact⟨o,k _ _ lR YL (λz=>nd.1 (z▸aad _ (aat (f:=(λx=>x.1)) hq))),IZ⟩
 rw[e2]at hp;rcases aax.mp hp with hp|hp;exact old p (by rw[e1];exact aaf _ hp) (gV p (aaf _ hp));rcases aai.mp hp with rfl|hp;exact⟨o',ho,hc⟩;exact old p (by rw[e1];exact aad _ (.tail _ hp)) (gV p (aad _ hp));change∀b∈c.L::(c.aC.map (λx=>x.1.locals)++cells'.map (λx=>x.1)),_;rw[hk];exact R.fresh;change(c.L::(c.aC.map (λx=>x.1.locals)++cells'.map (λx=>x.1))).Nodup;rw[hk];exact R.nd
def dg(K:Frag)(C:Addr)(x:Str):Bool:=adf K (.ref C) "__setattr__"==some (some (.builtin "object.__setattr__"))&&plainOver K C&&takerIn K C x==some none&&(clsIn K C).any (λx=>x.hasDict)
theorem ma{x:Addr}{nm:Str}{Q:Unit→SS→Prop}(hx:(x,.inst C d)∈S.cells)(u:aI d (.dict es k) (.dict (n5 es nm (ab v)) (LD es nm k)) S.cells cells')(p3:dg c.K C nm=true)(hz:es.length<1000) (h:Q () ⟨S.loc,cells'⟩):W c n S (setAttr (.ref x) nm v) Q E:=W.of λok Y A s hA R=>by let ents I h2:=ak (R.inst hx u.mem);unfold dg at p3;simp only[aaM]at p3;obtain⟨⟨⟨k1,k2⟩,k3⟩,k4⟩:=p3;have X:=fQ ok R;have hd:s.heap.get? d=some (dictOf ents k):=I.dict;have ua:=u.app (X:=Y);have hL:d≠c.L:=λq=>(aaB.mp R.nd).1 (q▸aad _ (aat (f:=(λx=>x.1)) ua.mem));let m pre hl F N hp md:=nX (R.toks.ledger (s:={s with toks:=s.toks+1}) hd hL);let r hr z2:=ak (n6 h2 nm);show set_plain X I (beq_iff_eq.mp k1);let h' F' N':=osa_dict (s:={s with toks:=s.toks+1}) F N X I rfl k2 (beq_iff_eq.mp k3) k4 (by rw[lookIn_dict,hr];rfl) hp (λzz q=>nomatch q) (putName_dict ..) rfl ?_;have l1:=Bp nm (PyData.keyHash c.w.params nm) (.str nm (s.toks+1)) v ents;have:=h2.len;exact aab l1 (by exact Td hz this);have z:=R.Bq (h':=h') (tk:=s.toks+1+1) ua (λb o e h1 h2=>(N' (b,o) (aaf _ (md b o e h1 h2))).1) ⟨m,F'.ns,hl⟩ (N' (d,_) (aad _ (.head _))).1 ⟨y9 (R.oV u.app.mem),_,by rw[←Em h2],El h2 nm (.str nm (s.toks+1)) v rfl⟩;exact⟨⟨S.loc,cells'⟩,z,h⟩
end
end
section
section
variable{c:Cx} {n:Nat} {S:SS} {α β:Type} {E E':EP}
theorem W.room{m:Nat}{t:Sem α}{Q:α→SS→Prop}(h:W c m S t Q E)(hm:m≤n):W c n S t Q E:=.i λok X A s hA R=>h.run ok X A s ⟨hA.1,hA.2.1,by have:=hA.2.2.1;exact xb hm this,by have:=hA.2.2.2;exact xc hm this⟩ R
def kN(K:Frag):AV→Prop| .ref a=>keepIn K (.ref a)=true| .bi _=>True| .type _=>True|_=>False
theorem bF{pos:Pos}:∀{l:List Expr},l.all aV=true→(backTo pos (aci l env)).any (λx=>x.1)=false:=by intro l0;induction l0 with|nil=>exact λzz=>rfl|cons e l ih=>intro h;rw[adB,aaM]at h;rw[bO h.1];change(false||_)=false;rw[Bool.false_or];exact ih h.2
theorem kl{pos:Pos}:∀{l:List Expr},l.all aV=true→(backTo pos (aci l env)).all (λx=> !x.1)=true:=by intro l0;induction l0 with|nil=>exact λzz=>rfl|cons e l ih=>intro h;rw[adB,aaM]at h;rw[bO h.1];change(true&&_)=true;rw[adC];exact ih h.2
theorem iA{pos:Pos}{f:Value}{first:List Value}(hs:args.all aV=true)(hk:kN c.K (ab f))(h:EA c n S args (λas S1=>∀vs,vs.map ab=as→W c n S1 (call f (first++vs)) (λr=>Q (ab r)) E) E):W c n S (callWith pos f first (backTo pos (aci args c.env)) []) (λr=>Q (ab r)) E:=.i λok X A s hA R=>by have me:=bF (pos:=pos) (env:=c.env) hs;refine callWith_of (P:=λh=>c.K.In h) (by rw[me];rfl:((backTo pos (aci args c.env)).any (λx=>x.1)||([]:List (Option Str×Sem Value)).any (λx=>x.1.isNone))=false) (λhh X=>?_) (bV me (aau ((h pos).run ok X A s hA R) (λvs s1 I7=>by obtain⟨S1,R1,k⟩:=I7;exact⟨fQ ok R1,(k vs rfl).run ok X A s1 hA R1⟩) λzz zz x=>x));cases f with|ref a=>exact keeps_K hk hh X|builtin i=>exact⟨.machine,.inr (.inl rfl),ace rfl⟩|type i=>exact⟨.machine,.inr (.inl rfl),ace rfl⟩|_=>exact hk.elim
theorem xo{id:Str}{pos:Pos}(h:EE c n S (.Name id p) (λf S1=>kN c.K f∧EA c n S1 args (λas S2=>bM c n S2 f as Q E) E) E)(hs:autoParam (args.all aV=true) apR):EE c n S (.Call (.Name id p) args [] pos) Q E:=.i λok X A s hA R=>wpAny_Call_NameR (h.st ok X A s hA R λf s1 S1 R1 h8=>eA h8 λk1 k2=>(iA (first:=[]) (Q:=Q) hs k1 (λpos'=>(k2 pos').az λvs S2 k3 ws hw=>k3 f ws rfl hw)).run ok X A s1 hA R1)
def mf(K:Frag)(C:Addr)(nm:Str)(f:Addr):Bool:=adf K (.ref C) "__getattribute__"==some (some (.builtin "object.__getattribute__"))&&adf K (.ref C) "__getattr__"==some none&&adf K (.ref C) nm==some (some (.ref f))&&typeIn K (.ref f)==some (.type "function")&&keepIn K (.ref f)
theorem uq{e:Expr}{nm:Str}{pos:Pos}(h:EE c n S e (λa S1=>∃x C d es k f,a= .ref x∧(x,.inst C d)∈S1.cells∧(d,.dict es k)∈S1.cells∧mf c.K C nm f=true∧dU es nm=none∧EA c n S1 args (λas S2=>bM c n S2 (.ref f) (.ref x::as) Q E) E) E)(he:autoParam (bo e=false) apR) (hs:autoParam (args.all aV=true) apR) (hlen:autoParam ((decide (args.length<30))=true) apR) (bw:autoParam ((ap.endLine==pos.line)=true) apR):EE c n S (.Call (.Attribute e nm ap) args [] pos) Q E:=by
 unfold EE;rw[arm_eval_Call,show attributeBase e nm c.env (eval e c.env)=eval e c.env by cases e<;>first|rfl|cases he];refine W.bind (W.az h λv S1 h8=>dZ h8 λx C d es k f h1 h2 h3 h4 h5 h6=>W.bind (W.standAt ?_));obtain rfl:=aj h1;have Br:methodCallForm (args.length+([]:List Keyword).length) (backTo pos (aci args c.env)) (backToKw pos (keywordEach [] c.env))=true:=by change((backTo pos (aci args c.env)).all (λx=> !x.1)&&true&&decide (args.length+0+0<30))=true;rw[kl hs,adC,adC];exact hlen
 unfold methodCall;rw[Br];unfold mf at h4;simp only[aaM]at h4;obtain⟨⟨⟨⟨k1,k2⟩,k3⟩,k4⟩,k5⟩:=h4;refine W.bind (W.holding (Q:=λp S'=>p=((.ref f:Value),[(.ref x:Value)])∧S'=S1) (W.of λok X A s hA R=>?_)|>.az ?_);let ents I I8:=ak (R.inst h2 h3);let r hr rP:=ak (n6 I8 nm);rw[h5]at rP;obtain rfl:r=none:=by cases r<;>first|rfl|cases rP
 exact method_fn (fQ ok R) I (beq_iff_eq.mp k1) (beq_iff_eq.mp k2) (beq_iff_eq.mp k3) (beq_iff_eq.mp k4) (show(lookIn nm (dictOf ents k)).map (λx=>x.isSome)=some false by rw[lookIn_dict,hr];rfl) ⟨S1,R,rfl,rfl⟩;intro p S2 I9;let r0 r1:=eA I9;subst r0;subst r1;refine W.bind (W.eq (by unfold methodCallPos;simp[bw]:methodCallPos true e c.env ap pos=pure pos) (W.pure ?_));exact iA (f:=.ref f) (first:=[.ref x]) (Q:=Q) hs k5 (λpos'=>(h6 pos').az λvs S3 k3 ws hw=>k3 (.ref f) (.ref x::ws) rfl (by rw[aan,hw];rfl))
def TP:AO→Option String
 | .list _=>some "list"
 | .tup _=>some "tuple"
 | .dict .. =>some "dict"
 | .map .. =>some "dict"
 | .set .. =>some "set"
 | .raw o=>match o.cls,o.dict with| .type n,none=>some n|_,_=>none
 |_=>none
def oW(S:SS)(v:AV)(T:String):Prop:=(∃x,v= .str x∧T="str")∨∃a ao,v= .ref a∧(a,ao)∈S.cells∧TP ao=some T
theorem oW.is{X:Cells}{s:aas}(h:oW S (ab v) T)(R:Rp c (S.ext X) s):s.TypeIs v T∧∀a,v= .ref a→∃ob,s.heap.get? a=some ob∧ob.dict=none:=by
 rcases h with⟨x,h1,rfl⟩|⟨a,ao,h1,h2,h3⟩;let t r1:=eE (aD h1);subst r1;exact⟨adN s x t,λa q=>(nomatch q)⟩;obtain rfl:=aj h1;let o ho hc:=ak (R.cells _ (aaf _ h2));have key:o.cls= .type T∧o.dict=none:=by
  cases ao with
  |list xs=>let vs m r2 z3:=cI hc;subst r2;cases h3;exact⟨rfl,rfl⟩
  |tup xs=>let vs m r2 z3:=cI hc;subst r2;cases h3;exact⟨rfl,rfl⟩
  |dict es k=>let z0 ents r2 z3:=AT hc;subst r2;cases h3;exact⟨rfl,rfl⟩
  |raw r=>let r0 z1:=eA hc;subst r0;have TQ:(match o.cls,o.dict with| .type n,none=>some n|_,_=>none)=some T:=h3;split at TQ;rename_i e1 e2;cases TQ;exact⟨e1,e2⟩;cases TQ
  |map es k=>obtain⟨_,⟨_,h1,_⟩,_⟩:=hc;cases h3;exact⟨h1.1,h1.2.1⟩
  |set es k=>let z0 z1 z2 h1 z4:=qG hc;cases h3;exact⟨h1.1,h1.2.1⟩
  |inst|du|cell|obj|v5=>cases h3
 exact⟨⟨o,ho,key.1⟩,λb q=>by cases q;exact⟨o,ho,key.2⟩⟩
theorem y_{e:Expr}{nm:Str}{id:String}{pos:Pos}(pa:PlainAttrs T)(slot:Slot T nm id)(O5:typeOf (.builtin id)=pure (.type "method_descriptor"))(h:EE c n S e (λa S1=>oW S1 a T∧EA c n S1 args (λas S2=>bM c n S2 (.bi id) (a::as) Q E) E) E)(he:autoParam (bo e=false) apR) (hs:autoParam (args.all aV=true) apR) (hlen:autoParam ((decide (args.length<30))=true) apR) (bw:autoParam ((ap.endLine==pos.line)=true) apR):EE c n S (.Call (.Attribute e nm ap) args [] pos) Q E:=.i λok X A s hA R=>by refine wpAny_Call_method (T:=T) (id:=id) (by cases e<;>first|rfl|cases he) ?_ bw pa slot O5 (h.st ok X A s hA R λv s1 S1 R1 h8=>eA h8 λk1 k2=>⟨(k1.is R1).1,(k1.is R1).2,?_⟩);change((backTo pos (aci args c.env)).all (λx=> !x.1)&&true&&decide (args.length+0+0<30))=true;rw[kl hs,adC,adC];exact hlen;exact(iA (c:=c) (f:=.builtin id) (first:=[v]) (Q:=Q) hs trivial (λpos'=>(k2 pos').az λvs S3 k3 ws hw=>k3 (.builtin id) (v::ws) rfl (by rw[aan,hw]))).run ok X A s1 hA R1
end
end
section
variable{Q:FL→SS→Prop}
section
variable{c:Cx} {n:Nat} {S:SS} {α β:Type} {E E':EP} {s:aas} {h':Heap} {tk:Nat}
theorem W.frame{t:Sem α}{Q:α→SS→Prop}(h:W c n ⟨loc,C⟩ t (λv S'=>Q v ⟨S'.loc,S'.cells++D⟩) (λk S'=>E k ⟨S'.loc,S'.cells++D⟩)):W c n ⟨loc,C++D⟩ t Q E:=.i λok X A s hA R=>by have e:∀(l:List (Str×Option AV)) (C:Cells),SS.ext ⟨l,C++D⟩ X=SS.ext ⟨l,C⟩ (D++X):=λl C=>(by simp[SS.ext]);rw[e]at R;refine aau (h.run ok (D++X) A s hA R) (λv s' I_=>by obtain⟨S',R',k⟩:=I_;exact⟨⟨S'.loc,S'.cells++D⟩,by rw[e];exact R',k⟩) λx s' h8=>h8.el λa k S' h1 h2 h3 h4=>⟨a,k,⟨S'.loc,S'.cells++D⟩,h1,by rw[e];exact h2,by rw[e];exact h3,h4⟩
theorem W.fh{t:Sem α}{Q:α→SS→Prop}(p:C.Perm D)(h:W c n ⟨loc,D⟩ t Q E):W c n ⟨loc,C⟩ t Q E:=.i λok X A s hA R=>h.run ok X A s hA (R.perm (cells':=D++X) ((p.symm).append_right X))
theorem qa.sub{k:Value}{e:Addr}{S:SS}(F:qa c k e S h)(hs:∀a,a∈S'.cells.map (λx=>x.1)→a∈S.cells.map (λx=>x.1)):qa c k e S' h:=by let a b oe vs h1 h2 h3 r:=t9 F;exact⟨a,λq=>b (hs _ q),oe,vs,h1,h2,h3,r.imp id λh8=>je h8 λT oT ts q1 q2 q3 q4 q5=>(eY T oT ts ⟨q1,q2,q3,λq=>q4 (hs _ q),q5⟩)⟩
theorem W.let{t:Sem α}{Q:α→SS→Prop}(h:W c n S t (λv S'=>∃C D,S'.cells.Perm (C++D)∧Q v ⟨S'.loc,C⟩) E):W c n S t Q E:=.i λok X A s hA R=>h.st ok X A s hA R λv s' S' R' h8=>cI h8 λC D p k=>⟨⟨S'.loc,C⟩,by have R2:=R'.perm (cells':=(C++D)++X) (p.symm.append_right X);exact R2.drop (cells':=C++X) ((List.sublist_append_left C D).append_right X),k⟩
theorem aI.mid{x y:AO}{X:Cells}:∀{l:Cells},aI a x y (l++(a,x)::X) (l++(a,y)::X):=by intro l0;induction l0 with|nil=>exact .head|cons _ l ih=>exact .tail (ih)
theorem Rp.za{X:Cells}(R:Rp c (S.ext ((a,ao)::X)) s)(k:∀b o,b≠a→s.heap.get? b=some o→h'.get? b=some o)(iS:autoParam (s.toks≤tk) apT):Rp c (S.ext X) {s with heap:=h',toks:=tk}:=by
 have uk:(S.cells++X).Sublist (S.cells++(a,ao)::X):=(ab0 S.cells).append (acj _ _);have R1:Rp c (S.ext X) s:=R.drop uk;have ha:(a,ao)∈(S.ext ((a,ao)::X)).cells:=aad _ (.head _);have hm:a∈c.aC.map (λx=>x.1.locals)++(S.ext ((a,ao)::X)).cells.map (λx=>x.1):=aad _ (aat (f:=(λx=>x.1)) ha);have nd:=aaB.mp R.nd;have jL:=aaX.mp nd.2;refine R1.xj (X:=[a]) (λb o hb O2=>⟨o.slots,k b o (λq=>hb (q▸.head _)) O2,λzz zz=>rfl⟩) (λb hb=>?_) iS;obtain rfl:b=a:=by simpa using hb
 refine⟨R.fresh b (.tail _ hm),λq=>?_,λq=>nd.1 (q▸hm),λf hf q=>jL.2.2 _ (aat (f:=(λx=>x.1.locals)) hf) _ (aat (f:=(λx=>x.1)) ha) q⟩;have ki:((S.cells++(b,ao)::X).map (λx=>x.1)).Nodup:=jL.2.1;rw[aaj,aan]at ki;have z:=aaB.mp (aaS.nodup_iff.mp ki);exact z.1 (by rw[←aaj];exact q)
def au(N:SS→Prop)(Q:FL→SS→Prop):FL→SS→Prop:=λf S=>match f with
 | .next=>N S
 | .cont=>N S
 | .brk=>Q .next S
 | .ret v=>Q (.ret v) S
theorem Bs(I:Nat→SS→Prop)(k:Nat)(h0:I k S)(turn:∀m S1,I m S1→ET c n S1 test (λb S2=>if b=true then EB c n S2 body (au (λS3=>∃j,j<m∧I j S3) Q) E else EB c n S2 orelse Q E) E)(hc:autoParam (c.comp=false) apA):ES c n S (.While test body orelse p) Q E:=.i λok X A s hA R=>by
 have exc:∀x s',EX c X E x s'→notedBy (model prog c.w) A c.env (cameBackBy (model prog c.w) A c.env (EX c X E)) x s':=(by intro x s' Ja;obtain⟨e,k,S',rfl,F,R',hE⟩:=Ja;exact oO ok hc hA.1 R' F λkm p4 TT=>⟨e,k,S',rfl,TT,p4,hE⟩);refine wpAny_While (codeAny_whileLoop (λm s=>∃S1,Rp c (S1.ext X) s∧I m S1) (λm s Jb=>?_) k ⟨S,R,h0⟩);let S1 R1 i1:=ak Jb;refine aau ((turn m S1 i1).run ok X A s hA R1) (λb s2 Jc=>?_) exc;obtain⟨S2,R2,h2⟩:=Jc;cases b with
 |true=>refine aau (h2.run ok X A s2 hA R2) (λf s3 TU=>?_) exc;obtain⟨S3,R3,h3⟩:=TU;cases f with|next=>let j hj hI:=ak h3;exact⟨j,hj,S3,R3,hI⟩|cont=>let j hj hI:=ak h3;exact⟨j,hj,S3,R3,hI⟩|brk=>exact⟨S3,R3,h3⟩|ret v=>exact⟨S3,R3,h3⟩
 |false=>exact aau (h2.run ok X A s2 hA R2) (λf s3 TV=>by obtain⟨S3,R3,h3⟩:=TV;exact⟨S3,R3,h3⟩) exc
def wj(c:Cx)(n:Nat)(S:SS)(u:Value)(P:Nat→Obj→Prop):Prop:=c.Ok→∀X A s (Q:Value→aas→Prop) (E:Value→aas→Prop),c.In A n→Rp c (S.ext X) s→(∀h' it o tk,(∀b o,s.heap.get? b=some o→h'.get? b=some o)→s.heap.objs.size≤it→h'.get? it=some o→P 0 o→s.toks≤tk→Q (.ref it) {s with heap:=h',toks:=tk})→wpAny (model prog c.w) A (pyIter u) Q E s
def xq(c:Cx)(n:Nat)(S:SS)(P:Nat→Obj→Prop)(i:Nat)(x:AV):Prop:=c.Ok→∀X A s it o (Q:Option Value→aas→Prop) (E:Value→aas→Prop),c.In A n→Rp c (S.ext X) s→s.heap.get? it=some o→P i o→(∀v h' o' tk,ab v=x→Heap.SameBut it s.heap h'→h'.get? it=some o'→P (i+1) o'→s.toks≤tk→Q (some v) {s with heap:=h',toks:=tk})→wpAny (model prog c.w) A (pyNext (.ref it)) Q E s
def xr(c:Cx)(n:Nat)(S:SS)(P:Nat→Obj→Prop)(i:Nat):Prop:=c.Ok→∀X A s it o (Q:Option Value→aas→Prop) (E:Value→aas→Prop),c.In A n→Rp c (S.ext X) s→s.heap.get? it=some o→P i o→(∀h' tk,Heap.ExtBut it s.heap h'→s.toks≤tk→Q none {s with heap:=h',toks:=tk})→wpAny (model prog c.w) A (pyNext (.ref it)) Q E s
end
end
section
variable{y:AV} {a d:Int}
section
variable{c:Cx} {n:Nat} {S:SS} {α β:Type} {E E':EP} {s:aas} {X:Cells}
theorem In.hd(h:c.In A n)(hd:c.hd=none):A.handled=none:=h.2.1.trans hd
theorem Rp.list(R:Rp c (S.ext X) s)(h:(l,.list xs)∈S.cells):∃vs,s.heap.IsList l vs∧vs.toList.map ab=xs:=by let o ho vs m r4 hm:=gS (R.cells _ (aaf _ h));subst r4;exact⟨vs,⟨_,ho,rfl,m,rfl⟩,hm⟩
theorem Rp.tup(R:Rp c (S.ext X) s)(h:(l,.tup xs)∈S.cells):∃vs,s.heap.IsTuple l vs∧vs.toList.map ab=xs:=by let o ho vs m r4 hm:=gS (R.cells _ (aaf _ h));subst r4;exact⟨vs,⟨_,ho,rfl,m,rfl⟩,hm⟩
theorem mW(h:vs.toList.map ab=xs){x:AV}(hx:xs[i]? =some x):∃v,vs[i]? =some v∧ab v=x:=by subst h;rw[aag]at hx;let v hv e:=ak (aaq.mp hx);exact⟨v,by rw[←hv];simp,e⟩
theorem rS(h:vs.toList.map ab=xs):vs[xs.length]? =none:=by subst h;simp
def aQ(l:Addr)(i:Nat)(o:Obj):Prop:=o.cls= .type "list_iterator"∧o.data= .fields #[.ref l,.int i 0]
theorem cJ(h:(l,.list xs)∈S.cells)(hu:ab u= .ref l):wj c n S u (aQ l):=λok X A s Q E hA R hQ=>by obtain rfl:=aj hu;let vs hl z2:=ak (R.list h);show wpAny_pyIter_list hl;exact hQ _ _ _ s.toks (λb o e=>aap _ e) (aak _) (aaG _ rfl) ⟨rfl,rfl⟩ (aak _)
theorem cM{x:AV}(h:(l,.list xs)∈S.cells)(hx:xs[i]? =some x):xq c n S (aQ l) i x:=λok X A s it o Q E hA R ho hP hQ=>by let vs hl hm:=ak (R.list h);let v hv e:=ak (mW hm hx);refine wpAny_pyNext_list_item ⟨o,ho,hP⟩ hl hv λh' h8 hs=>ak h8 λo' ji tN=>hQ v h' o' s.toks e hs ji tN (aak _)
theorem cN(h:(l,.list xs)∈S.cells)(hd:c.hd=none):xr c n S (aQ l) xs.length:=λok X A s it o Q E hA R ho hP hQ=>by let vs hl hm:=ak (R.list h);refine wpAny_pyNext_list_end (In.hd hA hd) ⟨o,ho,hP⟩ hl (rS hm) λh' hs=>hQ h' s.toks hs (aak _)
def xt(l:Addr)(i:Nat)(o:Obj):Prop:=o.cls= .type "tuple_iterator"∧o.data= .fields #[.ref l,.int i 0]
theorem Ep(h:(l,.tup xs)∈S.cells)(hu:ab u= .ref l):wj c n S u (xt l):=λok X A s Q E hA R hQ=>by obtain rfl:=aj hu;let vs hl z2:=ak (R.tup h);show wpAny_pyIter_tuple hl;exact hQ _ _ _ s.toks (λb o e=>aap _ e) (aak _) (aaG _ rfl) ⟨rfl,rfl⟩ (aak _)
theorem Er{x:AV}(h:(l,.tup xs)∈S.cells)(hx:xs[i]? =some x):xq c n S (xt l) i x:=λok X A s it o Q E hA R ho hP hQ=>by let vs hl hm:=ak (R.tup h);let v hv e:=ak (mW hm hx);refine wpAny_pyNext_tuple_item ⟨o,ho,hP⟩ hl hv λh' h8 hs=>ak h8 λo' ji tN=>hQ v h' o' s.toks e hs ji tN (aak _)
theorem Es(h:(l,.tup xs)∈S.cells)(hd:c.hd=none):xr c n S (xt l) xs.length:=λok X A s it o Q E hA R ho hP hQ=>by let vs hl hm:=ak (R.tup h);refine wpAny_pyNext_tuple_end (In.hd hA hd) ⟨o,ho,hP⟩ hl (rS hm) λh' hs=>hQ h' s.toks hs (aak _)
def signs(x:Str):List AV:=x.cps.toList.map λc=>.str ⟨#[c]⟩
def iT(x:Str)(i:Nat)(o:Obj):Prop:=∃t,o.cls= .type (if x.cps.all (·<128)then"str_ascii_iterator"else"str_iterator")∧o.data= .fields #[.str x t,.int i 0]
theorem Et(hu:ab u= .str x):wj c n S u (iT x):=λok X A s Q E hA R hQ=>by let t r1:=eE (aD hu);subst r1;cases ha:x.cps.all (·<128);show wpAny_pyIter_wide ha;exact hQ _ _ _ s.toks (λb o e=>aap _ e) (aak _) (aaG _ rfl) ⟨t,by rw[ha];rfl,rfl⟩ (aak _);show wpAny_pyIter_ascii ha;exact hQ _ _ _ s.toks (λb o e=>aap _ e) (aak _) (aaG _ rfl) ⟨t,by rw[ha];rfl,rfl⟩ (aak _)
theorem signs_at(hx:(signs x)[i]? =some y):∃c,x.cps[i]? =some c∧y= .str ⟨#[c]⟩:=by unfold signs at hx;rw[aag]at hx;let v hv e:=ak (aaq.mp hx);exact⟨v,by rw[←hv];simp,e.symm⟩
theorem qQ(x:Str):(signs x).length=x.cps.size:=by unfold signs;simp
theorem Eu(hx:(signs x)[i]? =some y):xq c n S (iT x) i y:=λok X A s it o Q E hA R ho hP hQ=>by let d hd r2:=ak (signs_at hx);subst r2;let t h1 h2:=ak hP;cases ha:x.cps.all (·<128);rw[ha]at h1;refine wpAny_pyNext_wide_item ⟨o,ho,h1,h2⟩ hd λh' h8 hs=>ak h8 λo' ji tN=>hQ _ h' o' _ rfl hs ji ⟨t,by rw[ha];exact tN.1,tN.2⟩ (aa2 _);rw[ha]at h1;refine wpAny_pyNext_ascii_item ⟨o,ho,h1,h2⟩ hd λh' h8 hs=>ak h8 λo' ji tN=>hQ _ h' o' _ rfl hs ji ⟨t,by rw[ha];exact tN.1,tN.2⟩ (aa2 _)
theorem Ev(hd:c.hd=none):xr c n S (iT x) (signs x).length:=λok X A s it o Q E hA R ho hP hQ=>by let t h1 h2:=ak hP;rw[qQ]at h2;cases ha:x.cps.all (·<128);rw[ha]at h1;refine wpAny_pyNext_wide_end (In.hd hA hd) ⟨o,ho,h1,h2⟩ (by simp) λh' hs=>hQ h' s.toks hs (aak _);rw[ha]at h1;refine wpAny_pyNext_ascii_end (In.hd hA hd) ⟨o,ho,h1,h2⟩ (by simp) λh' hs=>hQ h' s.toks hs (aak _)
def mX(a c:Int)(k:Nat)(i:Nat)(o:Obj):Prop:=i≤k∧o={cls:=.type "range_iterator",dict:=none,data:=.fields #[abJ (a+i*c),abJ ((k:Int)-i),abJ c],slots:= #[]}
def fB(a b c:Int)(o:Obj):Prop:=∃t u v,o={cls:=.type "range",dict:=none,data:=.fields #[.int a t,.int b u,.int c v],slots:= #[]}
theorem n7{r:Addr}{b:Int}(h:(r,.obj (fB a b d))∈S.cells)(hk:ab_ a b d=(k:Int))(TW:acP a b d=true)(hu:ab u= .ref r):wj c n S u (mX a d k):=λok X A s Q E hA R hQ=>by obtain rfl:=aj hu;let o ho t u v r5:=AX (R.cells _ (aaf _ h));subst r5;show wpAny_pyIter_range ho TW;refine hQ _ _ _ s.toks (λb o e=>aap _ e) (aak _) (aaG _ rfl) ⟨aaD _,?_⟩ (aak _);rw[hk];simp
theorem n8(hi:i<k)(hy:y= .int (a+i*d)):xq c n S (mX a d k) i y:=λok X A s it o Q E hA R ho hP hQ=>by
 subst hy;let hle r1:=eA hP;subst r1;refine wpAny_pyNext_range_item ho (by exact Int.sub_pos_of_lt (abS.mpr hi)) λh' ji hs=>hQ _ h' _ _ rfl hs ji ⟨hi,?_⟩ (aa2 _);have e1:a+(i:Int)*d+d=a+((i+1:Nat):Int)*d:=by rw[Int.natCast_add,Int.add_mul];lia
 have e2:(k:Int)-i-1=(k:Int)-((i+1:Nat):Int):=by exact Int.sub_sub _ _ _
 rw[e1,e2]
theorem n9(hd:c.hd=none):xr c n S (mX a d k) k:=λok X A s it o Q E hA R ho hP hQ=>by let hle r1:=eA hP;subst r1;refine wpAny_pyNext_range_end (In.hd hA hd) ho (by exact Int.le_of_eq (Int.sub_self _)) λh' hs=>hQ h' s.toks hs (aak _)
end
end
section
variable{vs:List Value} {b:AV} {k:Str} {cells':Nat→Cells} {m:Nat}
section
variable{c:Cx} {n:Nat} {S:SS} {α β:Type} {E E':EP} {s:aas} {X:Cells}
theorem Bt(h:vs.map ab=[]):vs=[]:=by cases vs<;>first|rfl|cases h
theorem cP{a:AV}(h:vs.map ab=[a]):∃v,vs=[v]∧ab v=a:=by let v r r2 h1 h2:=bG (abK.mp h);subst r2;obtain rfl:=Bt h2;exact⟨v,rfl,h1⟩
theorem fR{a:AV}(h:vs.map ab=[a,b]):∃v u,vs=[v,u]∧ab v=a∧ab u=b:=by let v r r2 h1 h2:=bG (abK.mp h);subst r2;let u r1 h3:=ak (cP h2);subst r1;exact ba v u ⟨rfl,h1,h3⟩
theorem ur{a d:AV}(h:vs.map ab=[a,b,d]):∃v u y,vs=[v,u,y]∧ab v=a∧ab u=b∧ab y=d:=by let v r r2 h1 h2:=bG (abK.mp h);subst r2;let u y r2 h3 h4:=bG (fR h2);subst r2;exact eY v u y ⟨rfl,h1,h3,h4⟩
abbrev sk(c:Cx):=PySem.strKind prog c.w
theorem Rp.mh(ok:c.Ok)(R:Rp c (S.ext X) s)(h:(d,ao)∈S.cells):(d==sysModules)=false:=by let q:=beq_eq_false_iff_ne.mpr;have:=R.fresh d (.tail _ (aad _ (aat (f:=(λx=>x.1)) (aaf _ h))));let o ho:=eE ok.eH.sm;rw[q,ho]at this;cases this
abbrev zb(p:Str×Value):Str×AV:=(p.1,ab p.2)
theorem Rp.map(R:Rp c (S.ext X) s)(h:(d,.map es ep)∈S.cells):∃kvs,s.heap.DictAt (sk c) d kvs ep∧kvs.map zb=es:=by obtain⟨o,ho,kvs,⟨arr,h1,h2,h3,h4,h5⟩,h6⟩:=R.cells _ (aaf _ h);exact⟨kvs,(ba o arr ⟨ho,h1,h2,h3,h4,h5⟩),h6⟩
theorem DictAt.of(x:h.DictAt (sk c) d kvs ep):h.DictOf (sk c) d kvs:=let⟨o,es,r1,r2,r3,r4⟩:=x;(eY o es ep ⟨r1,r2,r3,r4⟩)
theorem fT(k:Str):(valueAt kvs k).map ab=dU (kvs.map zb) k:=by unfold valueAt;induction kvs with|nil=>rfl|cons p r ih=>rw[List.find?_cons,aan];change _=(if p.1=k then some (ab p.2)else dU _ _);by_cases q:p.1=k;simp[q];simp only[q,decide_false,if_false];exact ih
theorem Ew{v:AV}(h:k∉es.map (λx=>x.1)):n5 es k v=es++[(k,v)]:=by induction es with|nil=>rfl|cons p r ih=>rw[aan,aai,not_or]at h;change(if p.1=k then _ else _)=_;rw[if_neg (λq=>h.1 q.symm),ih h.2];rfl
theorem zc(nd:(kvs.map (λx=>x.1)).Nodup)(k:Str)(v:Value):(stored kvs k v).map zb=n5 (kvs.map zb) k (ab v):=by
 unfold stored;by_cases q:kvs.any (λkv=>kv.1=k)=true;rw[if_pos q];induction kvs with
 |nil=>cases q
 |cons p r ih=>
  rw[aan,aaB]at nd;change(zb (if p.1=k then(p.1,v)else p))::_=if p.1=k then _ else _
  by_cases z:p.1=k;rw[if_pos z,if_pos z];have:r.map (λkv=>if kv.1=k then(kv.1,v)else kv)=r:=(by rw[acQ (g:=id),List.map_id];intro x hx;rw[if_neg (λe=>nd.1 (by rw[z,←e];exact aat hx))];rfl);rw[this,z];rw[if_neg z,if_neg z];rw[ih nd.2 (by simpa [z]using q:r.any (λkv=>kv.1=k)=true)]
 rw[if_neg q,aaj];have hk:k∉(kvs.map zb).map (λx=>x.1):=by intro hm;rw[aba]at hm;let x hx e:=ak (aaH.mp hm);exact q (List.any_eq_true.mpr ⟨x,hx,by simpa using e⟩)
 rw[Ew hk];rfl
def RX(es:List (Str×AV))(k:Str):List (Str×AV):=es.filter λp=>decide (p.1≠k)
theorem wk(k:Str):(without kvs k).map zb=RX (kvs.map zb) k:=by delta without RX;rw[List.filter_map];rfl
theorem isStr_of(h:ab u= .str k):(sk c).is k u=true:=by let t r1:=eE (aD h);subst r1;change Value.isStrOf k (.str k t)=true;simp[Value.isStrOf]
theorem str_is(h:(sk c).is k u=true):ab u= .str k:=by refine eE (Value.isStrOf_shape h) λt r1=>?_;obtain rfl:=r1;rfl
theorem p0.map(x:h.DictOf (sk c) d kvs):∃ep o,h.get? d=some o∧p0 c.w (.map (kvs.map zb) ep) o:=let⟨o,es,ep,ho,r1,r2,r3,r4,r5⟩:=x;(ba ep o ⟨ho,kvs,⟨es,r1,r2,r3,r4,r5⟩,rfl⟩)
def GI(c:Cx)(n:Nat)(S:SS)(a b:AV)(Q:AV→SS→Prop)(E:EP):Prop:=∀v w,ab v=a→ab w=b→W c n S (getItem v w) (λr=>Q (ab r)) E
def SI(c:Cx)(n:Nat)(S:SS)(a b x:AV)(Q:SS→Prop)(E:EP):Prop:=∀v w y,ab v=a→ab w=b→ab y=x→W c n S (setItem v w y) (λzz=>Q) E
def DI(c:Cx)(n:Nat)(S:SS)(a b:AV)(Q:SS→Prop)(E:EP):Prop:=∀v w,ab v=a→ab w=b→W c n S (delItem v w) (λzz=>Q) E
theorem mj{r:AV}(hm:(d,.map es ep)∈S.cells)(hl:dU es k=some r)(h:Q r S):GI c n S (.ref d) (.str k) Q E:=λv u hv hu=>W.of λok X A s hA R=>by obtain rfl:=aj hv;let kvs hd r2:=ak (R.map hm);subst r2;rw[←fT]at hl;let x hx r2:=ak (aaq.mp hl);subst r2;exact wpAny_getItem_of (isStr_of hu) (DictAt.of hd).mapOf hx ⟨S,R.toks,h⟩
theorem wm{x:AV}{Q:SS→Prop}(u:∀fU,aI d (.map es ep) (.map (n5 es k x) fU) S.cells (cells' fU))(hz:es.length<1000)(h:∀fU,Q ⟨S.loc,cells' fU⟩):SI c n S (.ref d) (.str k) x Q E:=λv j y hv hj hy=>W.of λok X A s hA R=>by obtain rfl:=aj hv;let kvs hd r2:=ak (R.map (u 0).mem);subst r2;subst hy;refine wpAny_setItem_pairs (isStr_of hj) (DictAt.of hd) (λh' rL hs=>?_) (by rw[aaa]at hz;exact aab (aaN hz) '2');let fU o ho hc:=cI (p0.map rL);rw[zc (let⟨_,_,_,_,_,_,_,nd⟩:=hd;nd)]at hc;exact⟨⟨S.loc,cells' fU⟩,R.upd (u fU).app hs ho hc,h fU⟩
theorem Jd{Q:SS→Prop}(u:∀fU,aI d (.map es ep) (.map (RX es k) fU) S.cells (cells' fU))(hz:es.length<1000)(hl:(dU es k).isSome=true)(h:∀fU,Q ⟨S.loc,cells' fU⟩):DI c n S (.ref d) (.str k) Q E:=λv j hv hj=>W.of λok X A s hA R=>by
 obtain rfl:=aj hv;let kvs hd r2:=ak (R.map (u 0).mem);subst r2;have hD:=DictAt.of hd;unfold delItem;try with_reducible refine abk ?_
 refine aac (wpAny_sequenceKey hD.typeIs '2' ?_);refine aac (adn (name:=aby "__delitem__") hD.typeIs PySem.F.slot_dict_delitem (call_meetsIn PySem.F.slot_dict_delitem hD.typeIs PySem.F.entry_dict_delitem (PySem.F.args_dict_delitem_2 _ _) (meets_dict_delitem_pairs (sk c) d (isStr_of hj)) ⟨kvs,hD,?_,?_,λh' rL hs=>?_⟩));rw[aaa]at hz;exact aab (aaN hz) '2';rw[←fT,Option.isSome_map]at hl;exact hl;let fU o ho hc:=cI (p0.map rL);rw[wk]at hc;exact aal ⟨⟨S.loc,cells' fU⟩,R.upd (u fU).app hs ho hc,h fU⟩
theorem zd(hm:(d,.map es ep)∈S.cells)(h:Q (.bool (dU es k).isSome) S):CO c n S .In (.str k) (.ref d) Q E:=λu v hu hv=>W.of λok X A s hA R=>by obtain rfl:=aj hv;let kvs hd r2:=ak (R.map hm);subst r2;rw[←fT,Option.isSome_map]at h;exact wpAny_in_of (isStr_of hu) (R.mh ok hm) (DictAt.of hd).mapOf ⟨S,R.toks,h⟩
theorem kO(hm:(d,.map es ep)∈S.cells)(h:Q ((dU es k).getD .none) S):bM c n S (.bi "dict.get") [.ref d,.str k] Q E:=λf vs hf bx=>W.of λok X A s hA R=>by obtain rfl:=dT hf;obtain⟨v,u,rfl,hv,hu⟩:∃v u,vs=[v,u]∧ab v= .ref d∧ab u= .str k:=fR bx;obtain rfl:=aj hv;let kvs hd r2:=ak (R.map hm);subst r2;rw[←fT]at h;refine call_meetsIn PySem.F.slot_dict_get (DictAt.of hd).typeIs PySem.F.entry_dict_get (PySem.F.args_dict_get_2 _ _) (meets_dict_get (sk c) d (isStr_of hu) (R.mh ok hm)) ⟨_,(DictAt.of hd).mapOf,⟨S,R.toks,?_⟩⟩;cases O6:valueAt kvs k<;>rw[O6]at h<;>exact h
theorem qb{df:AV}(hm:(d,.map es ep)∈S.cells)(h:Q ((dU es k).getD df) S):bM c n S (.bi "dict.get") [.ref d,.str k,df] Q E:=λf vs hf bx=>W.of λok X A s hA R=>by obtain rfl:=dT hf;obtain⟨v,u,y,rfl,hv,hu,rfl⟩:∃v u y,vs=[v,u,y]∧ab v= .ref d∧ab u= .str k∧ab y=df:=ur bx;obtain rfl:=aj hv;let kvs hd r2:=ak (R.map hm);subst r2;rw[←fT]at h;refine call_meetsIn PySem.F.slot_dict_get (DictAt.of hd).typeIs PySem.F.entry_dict_get (PySem.F.args_dict_get_3 _ _ _) (meets_dict_get_default (sk c) d (isStr_of hu) (R.mh ok hm) y) ⟨_,(DictAt.of hd).mapOf,⟨S,R.toks,?_⟩⟩;cases O6:valueAt kvs k<;>rw[O6]at h<;>exact h
def ml(d:Addr)(k ep:Nat)(i:Nat)(o:Obj):Prop:=o.cls= .type "dict_keyiterator"∧o.data= .fields #[.ref d,.int i 0,.int k 0,.int ep 0]
theorem xu(h:(d,.map es ep)∈S.cells)(hu:ab u= .ref d):wj c n S u (ml d es.length ep):=λok X A s Q E hA R hQ=>by obtain rfl:=aj hu;let kvs hd r2:=ak (R.map h);subst r2;show wpAny_pyIter_dict (R.mh ok h) hd;exact hQ _ _ _ s.toks (λb o e=>aap _ e) (aak _) (aaG _ rfl) ⟨rfl,by rw[aaa];rfl⟩ (aak _)
theorem xw{y:AV}(h:(d,.map es ep)∈S.cells)(hy:(es.map λp=>AV.str p.1)[i]? =some y):xq c n S (ml d es.length ep) i y:=λok X A s it o Q E hA R ho hP hQ=>by let kvs hd r2:=ak (R.map h);subst r2;rw[aaa]at hP;rw[aba,aag]at hy;let kv O7 r2:=ak (aaq.mp hy);subst r2;refine wpAny_pyNext_dict_item (k:=kv.1) (v:=kv.2) ⟨o,ho,hP⟩ hd O7 λkey h' hk h8 hs=>ak h8 λo' ji tN=>?_;exact hQ key h' o' s.toks (str_is hk) hs ji ⟨tN.1,by rw[aaa];exact tN.2⟩ (aak _)
theorem xy(h:(d,.map es ep)∈S.cells)(hd:c.hd=none):xr c n S (ml d es.length ep) (es.map λp=>AV.str p.1).length:=λok X A s it o Q E hA R ho hP hQ=>by let kvs hD r2:=ak (R.map h);subst r2;rw[aaa,aaa,aaa]at hP;refine wpAny_pyNext_dict_end (i:=kvs.length) (In.hd hA hd) ⟨o,ho,hP⟩ hD (by simp) λh' hs=>hQ h' s.toks hs (aak _)
theorem Rp.set{k:Nat}(R:Rp c (S.ext X) s)(h:(a,.set P k)∈S.cells):s.heap.SetOf (sk c) a P k:=by let o ho es ep t r:=AX (R.cells _ (aaf _ h));exact p6 o es ep t ⟨ho,r⟩
theorem ut(h:ab u= .str k):u.scannable=true:=by refine eE (aD h) λt r1=>?_;obtain rfl:=r1;rfl
theorem qR(hm:(a,.set P m)∈S.cells)(h:Q (.bool (P k)) S):CO c n S .In (.str k) (.ref a) Q E:=λu v hu hv=>W.of λok X A s hA R=>by obtain rfl:=aj hv;exact wpAny_inSet_of (isStr_of (c:=c) hu) (ut hu) (R.set hm) ⟨S,R.toks,h⟩
theorem oX{cells':Cells}(u:aI a (.set P m) (.set (λk'=>P k'||decide (k'=k)) (if P k then m else m+1)) S.cells cells')(hz:m<1000)(h:Q .none ⟨S.loc,cells'⟩):bM c n S (.bi "set.add") [.ref a,.str k] Q E:=λf vs hf bx=>W.of λok X A s hA R=>by obtain rfl:=dT hf;obtain⟨v,y,rfl,hv,hy⟩:∃v y,vs=[v,y]∧ab v= .ref a∧ab y= .str k:=fR bx;obtain rfl:=aj hv;let h' hs hS:=call_set_add (isStr_of (c:=c) hy) (ut hy) (R.set u.mem) (by change m+1<4096;exact Tp hz);let o es ep t ho r:=vV hS;exact⟨⟨S.loc,cells'⟩,R.upd u.app hs ho (eY es ep t r),h⟩
end
end
section
variable{f:Array Value→Array Value}
section
variable{c:Cx} {n:Nat} {S:SS} {α β:Type} {E E':EP} {s:aas} {X:Cells}
abbrev lim:Nat:=1000000
theorem kP(h:k≤lim):(k:Int)<2^63:=adq (Int.ofNat_le.mpr h) '2'
theorem aw(h:vs.toList.map ab=xs):vs.size=xs.length:=by subst h;simp
theorem ax(h:k≤lim):k≤ac_:=aab h '2'
theorem Rp.listAt(R:Rp c (S.ext X) s)(h:(l,.list xs)∈S.cells):∃vs k,s.heap.get? l=some {cls:=.type "list",dict:=none,data:=.seq vs k,slots:= #[]}∧vs.toList.map ab=xs:=by let o ho vs m r4 hm:=gS (R.cells _ (aaf _ h));subst r4;exact ba vs m ⟨ho,hm⟩
theorem Rp.c0{o:Obj}{tk:Nat}(R:Rp c (S.ext X) s)(hf:o.isFreed=false)(hc:p0 c.w ao o)(iS:autoParam (s.toks≤tk) apT):Rp c (SS.ext ⟨S.loc,(s.heap.objs.size,ao)::S.cells⟩ X) {s with heap:=s.heap.push o,toks:=tk}:=R.alloc (λb o e=>aap _ e) (aak _) (aaG _ hf) hc iS
theorem Ex{l:List Expr}(h:EA c n S l (λxs S1=>xs.length≤lim∧∀a,Q (.ref a) ⟨S1.loc,(a,.list xs)::S1.cells⟩) E):EE c n S (.List l p) Q E:=.i λok X A s hA R=>wpAny_List_spliced (aau ((h p).run ok X A s hA R) (λvs s1 TX=>by obtain⟨S1,R1,h1,h2⟩:=TX;exact⟨ax (by rw[aaa]at h1;exact h1),_,R1.c0 (ao:=.list (vs.map ab)) rfl (ba _ _ ⟨rfl,by simp⟩),h2 _⟩) λzz zz x=>x)
theorem kQ{l:List Expr}{k}(h:EA c n S l (λxs S1=>xs.length≤lim∧∀a,Q (.ref a) ⟨S1.loc,(a,.tup xs)::S1.cells⟩) E):EE c n S (.Tuple l k p) Q E:=.i λok X A s hA R=>wpAny_Tuple_spliced (aau ((h p).run ok X A s hA R) (λvs s1 TY=>by obtain⟨S1,R1,h1,h2⟩:=TY;exact⟨ax (by rw[aaa]at h1;exact h1),_,R1.c0 (ao:=.tup (vs.map ab)) rfl (ba _ _ ⟨rfl,by simp⟩),h2 _⟩) λzz zz x=>x)
theorem oY:∀{l:List Value} {ys:List AV} {z:AV},l.map ab=ys++[z]→(l.eraseIdx ys.length).map ab=ys
 |[],[],_,h=>by cases h
 |[],_::_,_,h=>by cases h
 |v::l,[],z,h=>by simp only[aan,aa0,acr,List.map_eq_nil_iff]at h;let z0 r1:=eA h;subst r1;rfl
 |v::l,y::ys,z,h=>by simp only[aan,aaT,acr]at h;rw[aaF,List.eraseIdx_cons_succ,aan,oY h.2,h.1]
theorem aS{x:AV}(u:aI l (.list xs) (.list (xs++[x])) S.cells cells')(hz:xs.length≤lim)(h:Q .none ⟨S.loc,cells'⟩):bM c n S (.bi "list.append") [.ref l,x] Q E:=λf vs hf bx=>W.of λok X A s hA R=>by obtain rfl:=dT hf;let v y r2 hv r4:=bG (fR bx);subst r2;subst r4;obtain rfl:=aj hv;let ws k ho hm:=cI (R.listAt u.mem);refine wpAny_list_append_plain ⟨k,ho⟩ (λh' h8 hs=>eE h8 λk' ji=>⟨⟨S.loc,cells'⟩,R.upd u.app hs ji (ba _ _ ⟨rfl,?_⟩),h⟩) (ax (by rw[aw hm];exact hz));rw[Array.toList_push,aaj,hm];rfl
theorem kR(ho:h.get? l=some {cls:=.type "list",dict:=none,data:=.seq vs k,slots:= #[]}):∃k',(h.update l (abb f)).get? l=some {cls:=.type "list",dict:=none,data:=.seq (f vs) k',slots:= #[]}:=⟨_,abl _ ho rfl⟩
theorem oZ{y:AV}(u:aI l (.list (ys++[y])) (.list ys) S.cells cells')(hz:ys.length<lim)(h:Q y ⟨S.loc,cells'⟩):bM c n S (.bi "list.pop") [.ref l] Q E:=λf vs hf bx=>W.of λok X A s hA R=>by
 obtain rfl:=dT hf;let v r1 hv:=ak (cP bx);subst r1;obtain rfl:=aj hv;let ws k ho hm:=cI (R.listAt u.mem);have kj:ws.size=ys.length+1:=by rw[aw hm];simp
 let z YM r2:=ak (mW hm (i:=ws.size-1) (x:=y) (by rw[kj];simp));subst r2;refine call_meets PySem.F.slot_list_pop ⟨_,ho,rfl⟩ PySem.F.entry_list_pop (PySem.F.args_list_pop_1 _) (MeetsSeq.list_pop_last l ws k z YM (ax (by rw[kj];exact hz))) ⟨ho,?_⟩;let k' ji:=eE (kR (f:=λxs=>xs.eraseIdxIfInBounds (ws.size-1)) ho);refine⟨⟨S.loc,cells'⟩,R.upd u.app (abv ..) ji (ba _ _ ⟨rfl,?_⟩),h⟩;have:(ws.eraseIdxIfInBounds (ws.size-1)).toList=ws.toList.eraseIdx (ws.size-1):=by unfold Array.eraseIdxIfInBounds;rw[dif_pos (by exact Mt kj)];simp
 rw[this,show ws.size-1=ys.length by exact Nat.sub_eq_of_eq_add kj];exact oY hm
theorem jk{b:Addr}(u:aI l (.list xs) (.list (xs++ys)) S.cells cells')(hb:(b,.list ys)∈S.cells)(hz:xs.length+ys.length≤lim)(h:Q .none ⟨S.loc,cells'⟩):bM c n S (.bi "list.extend") [.ref l,.ref b] Q E:=λf vs hf bx=>W.of λok X A s hA R=>by
 obtain rfl:=dT hf;let v y r2 hv hy:=bG (fR bx);subst r2;obtain rfl:=aj hv;obtain rfl:=aj hy;let ws k ho hm:=cI (R.listAt u.mem);let RY k2 lR Ey:=cI (R.listAt hb);have h1:=aw hm;have h2:=aw Ey;refine call_meets PySem.F.slot_list_extend ⟨_,ho,rfl⟩ PySem.F.entry_list_extend (PySem.F.args_list_extend_2 _ _) (AutoSeq1.list_extend_list_list_0 l ws k b RY k2 ?_ (ax (by exact Mu hz h1)) (ab1 (ax (by exact Gx hz h1 h2)))) ⟨ho,lR,?_⟩;have:Builtin.List.listTooLong (ws.size+RY.size)=false:=by unfold Builtin.List.listTooLong;have:=ax (k:=ws.size+RY.size) (by exact Gx hz h1 h2);simpa using this
 rw[this];simp;let k' ji:=eE (kR (f:=λxs=>xs++RY) ho);refine⟨⟨S.loc,cells'⟩,R.upd u.app (abv ..) ji (ba _ _ ⟨rfl,?_⟩),h⟩;rw[acn,aaj,hm,Ey]
theorem wn(u:aI l (.list xs) (.list []) S.cells cells')(hz:xs.length≤lim)(h:Q .none ⟨S.loc,cells'⟩):bM c n S (.bi "list.clear") [.ref l] Q E:=λf vs hf bx=>W.of λok X A s hA R=>by obtain rfl:=dT hf;let v r1 hv:=ak (cP bx);subst r1;obtain rfl:=aj hv;let ws k ho hm:=cI (R.listAt u.mem);refine call_meets PySem.F.slot_list_clear ⟨_,ho,rfl⟩ PySem.F.entry_list_clear (PySem.F.args_list_clear_1 _) (AutoSeq1.list_clear_list_0 l ws k (ax (by rw[aw hm];exact hz))) ⟨ho,?_⟩;let k' ji:=eE (kR (f:=λzz=> #[]) ho);exact⟨⟨S.loc,cells'⟩,R.upd u.app (abv ..) ji (ba _ _ ⟨rfl,rfl⟩),h⟩
theorem bY(hm:(l,.list xs)∈S.cells)(hz:xs.length≤lim)(h:Q (.int xs.length) S):bM c n S (.bi "len") [.ref l] Q E:=λf vs hf bx=>W.of λok X A s hA R=>by obtain rfl:=dT hf;let v r1 hv:=ak (cP bx);subst r1;obtain rfl:=aj hv;let ws hl hm:=ak (R.list hm);exact call_len_list hl (by rw[aw hm];exact kP hz) ⟨S,R.toks,by rw[aw hm];exact h⟩
theorem o0(hm:(l,.tup xs)∈S.cells)(hz:xs.length≤lim)(h:Q (.int xs.length) S):bM c n S (.bi "len") [.ref l] Q E:=λf vs hf bx=>W.of λok X A s hA R=>by obtain rfl:=dT hf;let v r1 hv:=ak (cP bx);subst r1;obtain rfl:=aj hv;let ws hl hm:=ak (R.tup hm);exact PyProof.Rows.len_tuple hl (by rw[aw hm];exact kP hz) ⟨S,R.toks,by rw[aw hm];exact h⟩
theorem fV(hz:x.length≤lim)(h:Q (.int x.length) S):bM c n S (.bi "len") [.str x] Q E:=λf vs hf bx=>W.of λok X A s hA R=>by obtain rfl:=dT hf;let v r1 hv:=ak (cP bx);subst r1;let t r1:=eE (aD hv);subst r1;exact PySem.P.len_str (by have:=kP hz;exact Int.not_le.mpr this) ⟨S,R.toks,h⟩
theorem xz{Q:Bool→SS→Prop}(hm:(l,.list xs)∈S.cells)(hz:xs.length≤lim)(h:Q (!xs.isEmpty) S):TR c n S (.ref l) Q E:=λv hv=>W.of λok X A s hA R=>by
 obtain rfl:=aj hv;let ws hl hm:=ak (R.list hm);refine wpAny_truthy_list hl (by rw[aw hm];exact kP hz) ⟨S,R.toks,?_⟩;have:ws.isEmpty=xs.isEmpty:=by subst hm;rw[List.isEmpty_map,ac7];simp
 rw[this];exact h
theorem rT{Q:Bool→SS→Prop}(hz:x.length≤lim)(h:Q (x.length !=0) S):TR c n S (.str x) Q E:=λv hv=>W.of λok X A s hA R=>by
 let t r1:=eE (aD hv);subst r1;refine PySem.P.truthy_str (by have:=kP hz;exact Int.not_le.mpr this) ⟨S,R.toks,?_⟩;have:(((x.length:Nat):Int) !=0)=(x.length !=0):=by rw[ac7];simp
 rw[this];exact h
theorem Ez{Q:Bool→SS→Prop}(h:Q false S):TR c n S .none Q E:=λv hv=>W.of λok X A s hA R=>by obtain rfl:=eO hv;exact PyProof.Rows.truthy_none ⟨S,R,h⟩
theorem d4{x:AV}(hm:(l,.list xs)∈S.cells)(hx:xs[k]? =some x)(hz:xs.length≤lim)(h:Q x S):GI c n S (.ref l) (.int k) Q E:=λv u hv hu=>W.of λok X A s hA R=>by
 obtain rfl:=aj hv;let t r1:=eE (aP hu);subst r1;let ws hl hm:=ak (R.list hm);let y hy r2:=ak (mW hm hx);subst r2;have hk:k≤lim:=by have:=(aav.mp hx).1;exact Ay hz this
 exact wpAny_getItem_list hl (by exact abq _) (kP hk) hy ⟨S,R,h⟩
theorem iB{x:AV}(hm:(l,.list (ys++[x]))∈S.cells)(hz:ys.length<lim)(h:Q x S):GI c n S (.ref l) (.int (-1)) Q E:=λv u hv hu=>W.of λok X A s hA R=>by
 obtain rfl:=aj hv;let t r1:=eE (aP hu);subst r1;let ws hl hm:=ak (R.list hm);have hs:ws.size=ys.length+1:=by rw[aw hm];simp
 let y hy r2:=ak (mW hm (i:=ys.length) (x:=x) (by simp));subst r2;refine wpAny_getItem_list_neg hl ?_ ?_ ?_ ?_ ⟨S,R,h⟩<;>first|lia|(rw[hs,←hy];congr 1;exact My)
theorem wo{x:AV}(hm:(l,.tup xs)∈S.cells)(hx:xs[k]? =some x)(hz:xs.length≤lim)(h:Q x S):GI c n S (.ref l) (.int k) Q E:=λv u hv hu=>W.of λok X A s hA R=>by
 obtain rfl:=aj hv;let t r1:=eE (aP hu);subst r1;let ws hl hm:=ak (R.tup hm);let y hy r2:=ak (mW hm hx);subst r2;have dc:=(aav.mp hx).1;have hk:k≤lim:=by exact Ay hz dc
 refine PyProof.Rows.getItem_tuple hl (by have:=kP hk;exact MA this) (kP hk) (j:=k) ?_ hy ⟨S,R,h⟩;unfold seqIndex?;rw[aw hm];simp;lia
theorem Je{d:Nat}(hx:x.cps[k]? =some d)(hz:x.length≤lim)(h:Q (.str ⟨#[d]⟩) S):GI c n S (.str x) (.int k) Q E:=λv u hv hu=>W.of λok X A s hA R=>by
 let t r1:=eE (aD hv);subst r1;let t' r1:=eE (aP hu);subst r1;have dc:=(abG.mp hx).1;have o5:k<x.length:=dc;have hk:k≤lim:=by exact Ay hz o5
 refine PySem.P.getItem_str (c:=d) (by simp;lia) ?_ ⟨S,R.toks,h⟩;unfold seqIndex?;simp[(by exact Int.not_lt.mpr (abq _):¬((k:Int)<0)),o5,hx]
end
end
section
section
variable{c:Cx} {n:Nat} {S:SS} {α β:Type} {E E':EP} {s:aas} {X:Cells}
def jl:Expr→Bool| .Slice .. =>false|_=>true
theorem rU(T id:String)(hl:typeLookup (.type T) "__getitem__"=pure (some (.builtin id)))(h:EE c n S value (λa S1=>EE c n S1 slice (λb S2=>oW S2 a T∧GI c n S2 a b Q E) E) E) (hs:autoParam (jl slice=true) apR):EE c n S (.Subscript value slice p) Q E:=.i λok X A s hA R=>by
 refine Subscript_ (h.st ok X A s hA R λo s1 S1 R1 h1=>h1.st ok X A s1 hA R1 λi s2 S2 R2 h8=>eA h8 λhT h2=>?_);have Xr:=(hT.is R2).1;unfold subscriptTail;show aac;rw[getitemInPython_of_ne Xr.not_modules];refine aac (acN Xr hl ?_);have uk:subscripted slice false o i=operate [o,i] (getItem o i):=by cases slice<;>first|rfl|cases hs
 have fin:wpAny (model prog c.w) A (subscripted slice false o i) (λr s₃=>wpAny (model prog c.w) A (letTemporaryGo value o r>>=λzz=>pure r) (QX c X λv=>Q (ab v)) (EX c X E) s₃) (EX c X E) s2:=by rw[uk];exact wpAny_operating (aau ((h2 o i rfl rfl).run ok X A s2 hA R2) (λr s₃ h₃=>aac (wpAny_letTemporaryGo (aal h₃))) λzz zz x=>x)
 first
  |exact aal (aac fin)
  |exact aac (aal (aac fin))
  |exact aac fin
def PE(c:Cx)(n:Nat)(S:SS)(x:Option Expr)(Q:AV→SS→Prop)(E:EP):Prop:=W c n S (evalPart x c.env) (λv=>Q (ab v)) E
theorem jB(h:Q .none S):PE c n S none Q E:=W.pure h
theorem iC{e:Expr}(h:EE c n S e Q E):PE c n S (some e) Q E:=h
def mY:Option Int→AV|none=>.none|some i=>.int i
def pick{α:Type}(xs:List α)(lo hi:Option Int):List α:=(sliceRange (sliceBounds lo hi none xs.length).1 (sliceBounds lo hi none xs.length).2.1 (sliceBounds lo hi none xs.length).2.2).filterMap (xs[·]?)
theorem Bu(h:vs.toList.map ab=xs)(lo hi:Option Int):(slicePick vs lo hi none).toList.map ab=pick xs lo hi:=by subst h;unfold slicePick pick;rw[aaa,aaQ,adi,List.map_filterMap];congr 1;funext i;simp
theorem G8{lo:Option Int}(h:ab v=mY lo):IsPart v lo:=by cases lo with|none=>rw[eO h];exact .none|some i=>let t r1:=eE (aP h);subst r1;exact .int i t
def TZ(c:Cx)(S:SS)(l:Addr)(xs:List AV):Prop:=∀X s,Rp c (S.ext X) s→∃vs,s.heap.IsList l vs∧vs.toList.map ab=xs
theorem kS(h:EE c n S value (λa S1=>PE c n S1 lower (λx S2=>PE c n S2 upper (λy S3=>∃l xs lo hi,a= .ref l∧TZ c S3 l xs∧x=mY lo∧y=mY hi∧xs.length≤lim∧∀b,Q (.ref b) ⟨S3.loc,(b,.list (pick xs lo hi))::S3.cells⟩) E) E) E)(ht:autoParam (∀o r,letTemporaryGo value o r=pure ()) apR):EE c n S (.Subscript value (.Slice lower upper none p) p') Q E:=.i λok X A s hA R=>by refine wpAny_Subscript_list_slice (h.st ok X A s hA R λo s1 S1 R1 h1=>h1.st ok X A s1 hA R1 λx s2 S2 R2 h2=>h2.st ok X A s2 hA R2 λy s3 S3 R3 YN=>oA YN λl xs lo hi h3 h4 h5 h6 h7 h8=>?_) ht;obtain rfl:=aj h3;let vs hl hm:=ak (h4 X s3 R3);refine p6 l vs lo hi ⟨rfl,hl,ax (by rw[aw hm];exact h7),G8 h5,G8 h6,_,?_,h8 (s3.heap.objs.size+1)⟩;have R4:=R3.keeps (h':=s3.heap.push {cls:=.type "slice",data:=.fields #[x,y,.none]}) (tk:=s3.toks) (λb o e=>aap _ e);have R5:=R4.c0 (S:=S3) (ao:=.list (pick xs lo hi)) (o:={cls:=.type "list",data:=.seq (slicePick vs lo hi none)}) (tk:=s3.toks) rfl (ba _ _ ⟨rfl,Bu hm lo hi⟩);rw[acH]at R5;exact R5
theorem cY(h:EE c n S value (λa S1=>PE c n S1 lower (λx S2=>PE c n S2 upper (λy S3=>∃l xs lo hi,a= .ref l∧(l,.list xs)∈S3.cells∧x=mY lo∧y=mY hi∧xs.length≤lim∧∀b,Q (.ref b) ⟨S3.loc,(b,.list (pick xs lo hi))::S3.cells⟩) E) E) E)(ht:autoParam (∀o r,letTemporaryGo value o r=pure ()) apR):EE c n S (.Subscript value (.Slice lower upper none p) p') Q E:=kS (W.az h λzz zz k1=>W.az k1 λzz zz k2=>W.az k2 λzz zz k3=>nY k3 λl xs lo hi h1 h2 h=>(p6 l xs lo hi ⟨h1,λzz zz R=>R.list h2,h⟩)) ht
def b8(x:Str)(lo hi:Option Int):Str:=if(adI lo hi 1 x.length).length==x.length then x else⟨((adI lo hi 1 x.length).filterMap (x.cps[·]?)).toArray⟩
theorem G9{lo:Option Int}(h:ab v=mY lo):∃l,v=partValue l∧l.map (λx=>x.1)=lo:=by cases lo with|none=>exact⟨none,eO h,rfl⟩|some i=>let t r1:=eE (aP h);subst r1;exact⟨some (i,t),rfl,rfl⟩
theorem gw{b:Addr}(hl:(l,.list xs)∈S.cells)(hb:(b,.list ys)∈S.cells)(hz:xs.length+ys.length≤lim)(h:∀a,Q (.ref a) ⟨S.loc,(a,.list (xs++ys))::S.cells⟩):BO c n S .Add (.ref l) (.ref b) Q E:=λv w hv hw=>W.of λok X A s hA R=>by obtain rfl:=aj hv;obtain rfl:=aj hw;let vs k ho hm:=cI (R.listAt hl);let ws k2 lR Ey:=cI (R.listAt hb);refine concat_meets ⟨_,ho,rfl⟩ ⟨_,lR,rfl⟩ noFill_list_add seq_list_add PySem.F.slot_list_add PySem.F.entry_list_add (PySem.F.args_list_add_2 _ _) (list_addW l b vs ws k k2 none none #[] #[] (ax (by rw[aw hm,aw Ey];exact hz))) ⟨ho,lR,?_⟩;exact⟨_,R.c0 (ao:=.list (xs++ys)) rfl (ba _ _ ⟨rfl,by rw[acn,aaj,hm,Ey]⟩),h _⟩
theorem jY(hl:(l,.list xs)∈S.cells)(hz:xs.length≤lim)(h:∀a,Q (.ref a) ⟨S.loc,(a,.tup xs)::S.cells⟩):bM c n S (.type "tuple") [.ref l] Q E:=λf vs hf bx=>W.of λok X A s hA R=>by obtain rfl:=bI hf;let v r1 hv:=ak (cP bx);subst r1;obtain rfl:=aj hv;let ws hl hm:=ak (R.list hl);refine call_tuple_list hl (λh' hk=>?_) (ax (by rw[aw hm];exact hz));have R4:=R.keeps (h':=h') (tk:=s.toks) hk;exact⟨_,R4.c0 (S:=S) (ao:=.tup xs) (tk:=s.toks) rfl (ba _ _ ⟨rfl,hm⟩),h _⟩
end
end
section
variable{Q:FL→SS→Prop} {o i:Expr} {v:AV}
section
variable{c:Cx} {n:Nat} {S:SS} {α β:Type} {E E':EP} {s:aas} {X:Cells}
theorem W.ok{t:Sem α}{Q:α→SS→Prop}(h:c.Ok→W c n S t Q E):W c n S t Q E:=.i λok X A s hA R=>(h ok).run ok X A s hA R
theorem EC{e:Expr}(h:EE c n S e (λzz S1=>Q .next S1) E)(hs:autoParam (ac6 e none p.line c.env=pure false) apR):ES c n S (.Expr e p) Q E:=.i λok X A s hA R=>
 wpAny_Expr_any (h.run ok X A s hA R) (by change(c.env.scope.kind== .module&&_)=false;rw[ok.kind];rfl) hs
def SA(c:Cx)(n:Nat)(S:SS)(o x:AV)(nm:Str)(Q:SS→Prop)(E:EP):Prop:=∀v y,ab v=o→ab y=x→W c n S (setAttr v nm y) (λzz=>Q) E
def GA(c:Cx)(n:Nat)(S:SS)(o:AV)(nm:Str)(Q:AV→SS→Prop)(E:EP):Prop:=∀v,ab v=o→W c n S (getAttr v nm true) (λr=>Q (ab r)) E
theorem fW{nm:Str}(h:EE c n S value (λx S1=>EE c n S1 o (λa S2=>SA c n S2 a x nm (Q .next) E) E) E)(hs:autoParam (ac6 value (some (.Attribute o nm p')) p.line c.env=pure false) apR):ES c n S (.Assign [.Attribute o nm p'] value p) Q E:=.i λok X A s hA R=>
 plainObj_wpAny_Assign_Attribute (h.st ok X A s hA R λv s1 S1 R1 h1=>h1.st ok X A s1 hA R1 λov s2 S2 R2 h2=>(h2 ov v rfl rfl).run ok X A s2 hA R2) hs
theorem jZ(h:EE c n S value (λx S1=>EE c n S1 o (λa S2=>EE c n S2 i (λb S3=>SI c n S3 a b x (Q .next) E) E) E) E)(hs:autoParam (ac6 value (some (.Subscript o i p')) p.line c.env=pure false) apR):ES c n S (.Assign [.Subscript o i p'] value p) Q E:=.i λok X A s hA R=>
 wpAny_Assign_Subscript (h.st ok X A s hA R λv s1 S1 R1 h1=>h1.st ok X A s1 hA R1 λov s2 S2 R2 h2=>h2.st ok X A s2 hA R2 λiv s3 S3 R3 h3=>(h3 ov iv v rfl rfl rfl).run ok X A s3 hA R3) hs
def AS(c:Cx)(n:Nat)(S:SS)(t:Expr)(x:AV)(Q:SS→Prop)(E:EP):Prop:=∀v,ab v=x→W c n S (assign t c.env v) (λzz=>Q) E
theorem cA{Q:SS→Prop}(hx:dA x v S.loc l')(h:Q ⟨l',S.cells⟩):AS c n S (.Name x p) v Q E:=λu hu=>.i λok X A s hA R=>by subst hu;exact wpAny_assign_Name ((eZ (Q:=λzz=>Q) hx h).run ok X A s hA R)
theorem Jf{Q:SS→Prop}(h:EE c n S o (λa S2=>EE c n S2 i (λb S3=>SI c n S3 a b v Q E) E) E):AS c n S (.Subscript o i p) v Q E:=λu hu=>by rw[assign_Subscript];refine W.bind (W.holding (W.az h λov S2 h2=>W.bind (W.holding (W.az h2 λiv S3 h3=>W.bind (W.standAt (W.bind (W.holding ((h3 ov iv u rfl rfl hu).az λzz S4 k=>?_))))))));exact .i λok X A s hA R=>wpAny_release ⟨S4,R,k⟩
theorem qc{t₁ t₂:Expr}(h:EE c n S value (λv S1=>AS c n S1 t₁ v (λS2=>AS c n S2 t₂ v (Q .next) E) E) E)(he:autoParam ((assignEach [t₁,t₂] c.env).map (λx=>x.2)=[assign t₁ c.env,assign t₂ c.env]) apR)(hw:autoParam (swappedStores [t₁,t₂] value c.env=pure none) apR):ES c n S (.Assign [t₁,t₂] value p) Q E:=.i λok X A s hA R=>
 wpAny_Assign_two (h.st ok X A s hA R λv s1 S1 R1 h1=>aau ((h1 v rfl).run ok X A s1 hA R1) (λzz s2 T0=>by obtain⟨S2,R2,h2⟩:=T0;exact(h2 v rfl).run ok X A s2 hA R2) λzz zz x=>x) he hw
theorem uu{Q:AV→SS→Prop}(h:EE c n S value (λv S1=>∃l',dA x v S1.loc l'∧Q v ⟨l',S1.cells⟩) E):EE c n S (.NamedExpr (.Name x p) value p') Q E:=.i λok X A s hA R=>wpAny_NamedExpr (h.st ok X A s hA R λv s1 S1 R1 h8=>ak h8 λl' h1 h2=>(cA (n:=n) (Q:=λS=>Q (ab v) S) (p:=p) h1 h2 v rfl).run ok X A s1 hA R1)
theorem Jg{a:AV}(hx:(x,some a)∈S.loc)(h:EE c n S value (λb S2=>IO c n S2 op a b (λr S3=>∃l',dA x r S3.loc l'∧Q .next ⟨l',S3.cells⟩) E) E):ES c n S (.AugAssign (.Name x p) op value p') Q E:=.i λok X A s hA R=>by
 let m hn hl:=ak R.ns;have q:=hl _ hx;let hk hd:=eA (R.lk x (aat (f:=(λx=>x.1)) hx));cases hv:m x with
 |none=>rw[hv]at q;cases q
 |some u=>rw[hv]at q;obtain rfl:ab u=a:=aaJ q;refine wpAny_AugAssign_Name (wpAny_loadName_local ok.kind hk (ok.eL▸hn) hv (h.st ok X A s hA R λw s2 S2 R2 h2=>aau ((h2 u w rfl rfl).run ok X A s2 hA R2) (λr s3 T_=>?_) λzz zz x=>x));obtain⟨S3,R3,l',h3,h4⟩:=T_;exact(eZ (Q:=λzz=>Q .next) h3 h4).run ok X A s3 hA R3
theorem mZ{nm:Str}(h:EE c n S o (λa S1=>GA c n S1 a nm (λold S2=>EE c n S2 value (λb S3=>IO c n S3 op old b (λr S4=>SA c n S4 a r nm (Q .next) E) E) E) E) E):ES c n S (.AugAssign (.Attribute o nm p) op value p') Q E:=.i λok X A s hA R=>
 wpAny_AugAssign_AttributeAny (h.st ok X A s hA R λov s1 S1 R1 h1=>aau ((h1 ov rfl).run ok X A s1 hA R1) (λold s2 h8=>h8.el λS2 R2 h2=>h2.st ok X A s2 hA R2 λw s3 S3 R3 h3=>
  aau ((h3 old w rfl rfl).run ok X A s3 hA R3) (λr s4 YO=>by obtain⟨S4,R4,h4⟩:=YO;exact(h4 ov r rfl rfl).run ok X A s4 hA R4) λzz zz x=>x) λzz zz x=>x)
theorem wp(h:EE c n S o (λa S1=>EE c n S1 i (λb S2=>DI c n S2 a b (Q .next) E) E) E):ES c n S (.Delete [.Subscript o i p] p') Q E:=.i λok X A s hA R=>
 wpAny_Delete (wpAny_deleteEach_cons (delete_Subscript (h.st ok X A s hA R λv s1 S1 R1 h1=>h1.st ok X A s1 hA R1 λw s2 S2 R2 h2=>
  aau ((h2 v w rfl rfl).run ok X A s2 hA R2) (λzz s3 k3=>wpAny_deleteEach_nil k3) λzz zz x=>x)))
theorem Rp.newExc{e:Addr}{cls:Value}{o:Obj}(R:Rp c (S.ext X) s)(k:∀b o,s.heap.get? b=some o→h'.get? b=some o)(hf:s.heap.get? e=none)(he:h'.get? e=some o)(hc:o.cls=cls)(hd:o.data= .fields vs)(h1:vs[1]? =some .none):Rp c (S.ext X) {s with heap:=h'}∧qa c cls e (S.ext X) h':=by
 refine⟨R.keeps k,?_,λq=>?_,o,vs,he,hc,hd,.inl h1⟩;cases q:c.base.get? e with|none=>rfl|some o=>rw[R.stays e o q]at hf;cases hf
 let p hp r2:=ak (aaH.mp q);subst r2;let o ho z2:=ak (R.cells p hp);rw[ho]at hf;cases hf
theorem ia{cls:String}(F:ExcCallFacts cls newId initId)(G:ExcRaiseFacts cls){pos:Pos}(hd:c.hd=none)(h:EE c n S (.Name x np) (λf S1=>f= .type cls∧EA c n S1 args (λas S2=>as.length≤lim∧E (.type cls) S2) E) E) (hs:autoParam (args.all aV=true) apR):ES c n S (.Raise (some (.Call (.Name x np) args [] cpos)) none pos) Q E:=.i λok X A s hA R=>by refine wpAny_Raise_call F G (In.hd hA hd) (bF hs) (h.st ok X A s hA R λf s1 S1 R1 h8=>eA h8 λh1 h2=>⟨bI h1,bV (bF hs) (aau ((h2 cpos).run ok X A s1 hA R1) (λvs s2 h8=>h8.el λS2 R2 h7=>eA h7 λh3 h4=>⟨rfl,?_,λh' e hm=>?_⟩) λzz zz x=>x)⟩);rw[aaa]at h3;exact ax h3;let t ht z2 z3:=bN hm.there;let a b:=eA (R2.newExc hm.keeps hm.new ht rfl rfl rfl);exact⟨e,_,S2,rfl,b,a,h4⟩
end
end
section
variable{h₀:ExceptHandler} {Q:FL→SS→Prop} {k:Value} {C:Addr}
section
variable{c:Cx} {n:Nat} {S:SS} {α β:Type} {E E':EP} {s:aas} {X:Cells}
abbrev Cx.hand(c:Cx)(e:Addr):Cx:={c with hd:=some (.ref e)}
theorem Cx.Ok.hand(ok:c.Ok)(e:Addr):(c.hand e).Ok:=⟨ok.eH,ok.eL,ok.eg,ok.eb,ok.kind,ok.fr,ok.above,ok.aC,ok.gl⟩
theorem Rp.hand(R:Rp c S s)(e:Addr):Rp (c.hand e) S s:=⟨R.stays,R.ns,R.aC,R.cells,R.fresh,R.nd,R.kL,R.lk,R.gens,R.os,R.tk⟩
theorem Rp.Jh{e:Addr}(R:Rp (c.hand e) S s):Rp c S s:=⟨R.stays,R.ns,R.aC,R.cells,R.fresh,R.nd,R.kL,R.lk,R.gens,R.os,R.tk⟩
def Ji(w:World)(K:Frag)(k T:Value)(b:Bool):Prop:=∀(s:aas) (A:ads) (e:Addr) (oe:Obj) (Q:Bool→aas→Prop) (E:Value→aas→Prop),K.In s.heap→s.heap.get? e=some oe→oe.cls=k→Q b s→wpAny (model prog w) A (excMatches (.ref e) T) Q E s
def HB(c:Cx)(n:Nat)(S:SS)(k:Value)(hs:List ExceptHandler)(Q:FL→SS→Prop)(E:EP):Prop:=
 c.Ok→∀X A s e,c.In A n→Rp c (S.ext X) s→rM c k e (S.ext X) s.heap (·=some .none)→wpAny (model prog c.w) A (handleBy (.ref e) c.env hs) (QX c X λf=>Q (OW f))
  (EX c X E) s
theorem jm{hs:List ExceptHandler}(h:EB c n S body (λf S1=>match f with| .next=>EB c n S1 orelse Q E|f=>Q f S1) (λk S1=>HB c n S1 k (h₀::hs) Q E)) (hc:autoParam (c.comp=false) apA):ES c n S (.Try body (h₀::hs) orelse [] p) Q E:=.i λok X A s hA R=>by
 refine wpAny_Try_except (aau (h.run ok X A s hA R) (λf s1 h8=>h8.el λS1 R1 h1=>?_) λx s1 h8=>h8.el λe k S1 hx F R1 h1=>?_)
 ·cases f with|next=>exact h1.run ok X A s1 hA R1|brk=>exact⟨S1,R1,h1⟩|cont=>exact⟨S1,R1,h1⟩|ret v=>exact⟨S1,R1,h1⟩
 subst hx;exact jA ok hc hA.1 R1 F λh' R2 F2=>h1 ok X A _ e hA R2 F2
theorem ED{Q:Value→aas→Prop}{E:Value→aas→Prop}(ok:c.Ok)(R:Rp c S s)(hm:(x,v)∈c.fx.gl)(h:Q v s):wpAny (model prog c.w) A (eval (.Name x p) c.env) Q E s:=by let hx hd hv:=pZ (ok.gl _ hm);rcases hv with hv|⟨h1,h2,h3⟩;exact Name_function_global ok.kind hx (loadGlobal_global (env:=c.env) (ok.eg▸ok.eH.g.keeps R.stays) hv h) hd;exact Name_function_global ok.kind hx (loadGlobal_builtin (env:=c.env) (ok.eg▸ok.eH.g.keeps R.stays) h1 (ok.eb▸ok.eH.b.keeps R.stays) ((ok.eH.bi x h3).trans h2) h) hd
theorem n_{T:Value}{xp:Pos}(hx:(x,T)∈c.fx.gl)(hm:Ji c.w c.K k T b)(h:if b=true then∀e,EB (c.hand e) n S (b₀::suite) Q hZ else HB c n S k rest Q E):HB c n S k (.ExceptHandler (some (.Name x xp)) none (b₀::suite) p::rest) Q E:=λok X A s e hA R F=>by have qM:(c.hand e).In (A.mark (some (.ref e))) n:=⟨hA.1,rfl,hA.2.2.1,hA.2.2.2⟩;refine wpAny_handleBy_cons (codeAny_handlers_test (ED ok R hx ?_)) (by intro q;cases q);let q1 q2 oe vs he hk r:=xg (id F);show hm s _ e oe _ _ (fQ ok R) he hk;cases b with|true=>refine codeAny_handlers_suite (oN none R F λh' R2 F2=>?_);exact aau ((h e).run (ok.hand e) X _ _ qM (R2.hand e)) (λf s' Ua=>by obtain⟨S',R',k⟩:=Ua;exact⟨S',R'.Jh,k⟩) λzz zz h8=>h8.el λz0 z1 z2 z3 z4 z5 hf=>hf.elim|false=>exact h ok X A s e hA R F
theorem rV{K:Frag}(x:K.In h)(e:isClsIn K C=true):Looks M h (isType (.ref C)) true:=by unfold isClsIn clsIn at e;split at e;rename_i ho;exact(Looks.ld (part:=some headPart) (x _ _ ho)).andThen .now;cases e
theorem uv{K:Frag}{X:String}(bz:acV (.type T) (.type "BaseException")=pure true)(YP:acV (.type ((Manifest.find? T).elim "type" λx=>x.metatype)) (.type "tuple")=pure false)(uk:acV (.type X) (.type T)=pure b):Ji w K (.type X) (.type T) b:=λs A e oe Q E hK he hc hQ=>wpAny_excMatches_type ⟨oe,he,hc⟩ bz YP uk hQ
theorem G_{K:Frag}{mt:Value}(h1:typeIn K (.ref C)=some mt)(h2:subIn K mt (.type "tuple")=some false)(h3:isClsIn K C=true)(h4:subIn K (.ref C) (.type "BaseException")=some true)(h5:subIn K k (.ref C)=some b):Ji w K k (.ref C) b:=λs A e oe Q E hK he hc hQ=>by
 refine aac (aac ((looks_typeIn hK h1).here ((looks_subIn hK h2).here ?_)));with_reducible refine qI '2' ?_
 refine aac (aal ?_);simp only[];rw[List.forIn_cons];refine aac (aac (aac (aac (rV hK h3|>.here ?_))));with_reducible refine IW rfl ?_
 show(looks_subIn hK h4).here;with_reducible refine qI '2' ?_
 show aal;simp only[List.forIn_nil];show aal;refine aac (wpAny_typeOf_ref he ?_);rw[List.forIn_cons,hc];refine aac (aac (aac ((looks_subIn hK h5).here ?_)));cases b with|true=>exact aal (aal (aal hQ))|false=>show aal;simp only[List.forIn_nil];exact aal (aal hQ)
end
end
section
open PySem.SeqAt
variable{xs:List Str} {k:Str} {m:Nat} {ws:Array Value} {b:Addr}
section
variable{c:Cx} {n:Nat} {S:SS} {α β:Type} {E E':EP} {s:aas} {X:Cells}
def m6(k:Str):Value→Bool| .str y _=>y==k|_=>false
theorem o7(h:vs.toList.map ab=xs.map .str)(k:Str):vs.any (m6 k)=xs.contains k:=by rw[←Array.any_toList];generalize vs.toList=l at h;induction xs generalizing l with|nil=>rw[acF,List.map_eq_nil_iff]at h;subst h;rfl|cons x xs ih=>let v r r2 h1 h2:=bG (abK.mp h);subst r2;let t r1:=eE (aD h1);subst r1;rw[List.any_cons,ih r h2,List.contains_cons];congr 1;change(x==k)=(k==x);rw[ac7,beq_iff_eq,beq_iff_eq];exact⟨λe=>e.symm,λe=>e.symm⟩
theorem jo(h:vs.toList.map ab=xs.map .str){y:Value}(hy:y∈vs):∃x t,y= .str x t:=by
 have:ab y∈xs.map AV.str:=by rw[←h];exact aat (Array.mem_toList_iff.mpr hy)
 let x z1 e:=ak (aaH.mp this);let t r1:=eE (aD e.symm);subst r1;exact ba x t rfl
theorem kn(hl:(l,.list (xs.map .str))∈S.cells)(h:Q (.bool (xs.contains k)) S):CO c n S .In (.str k) (.ref l) Q E:=λu v hu hv=>W.of λok X A s hA R=>by obtain rfl:=aj hv;let t r1:=eE (aD hu);subst r1;let vs hl hm:=ak (R.list hl);refine in_listAt (m6 k) hl (λy hy=>?_) ⟨S,R,by rw[o7 hm];exact h⟩;let x t' r2:=D0 (jo hm hy);subst r2;exact EqAt.str_str x t' k t
theorem eP(hl:(l,.list (xs.map .str))∈S.cells)(h:Q (.bool (!xs.contains k)) S):CO c n S .NotIn (.str k) (.ref l) Q E:=λu v hu hv=>W.of λok X A s hA R=>by obtain rfl:=aj hv;let t r1:=eE (aD hu);subst r1;let vs hl hm:=ak (R.list hl);refine notIn_listAt (m6 k) hl (λy hy=>?_) ⟨S,R,by rw[o7 hm];exact h⟩;let x t' r2:=D0 (jo hm hy);subst r2;exact EqAt.str_str x t' k t
theorem uw(hl:(l,.tup (xs.map .str))∈S.cells)(h:Q (.bool (xs.contains k)) S):CO c n S .In (.str k) (.ref l) Q E:=λu v hu hv=>W.of λok X A s hA R=>by obtain rfl:=aj hv;let t r1:=eE (aD hu);subst r1;let vs hl hm:=ak (R.tup hl);refine in_tupleAt (m6 k) hl (λy hy=>?_) ⟨S,R,by rw[o7 hm];exact h⟩;let x t' r2:=D0 (jo hm hy);subst r2;exact EqAt.str_str x t' k t
def Bv(x y:Str):Bool:= !(Builtin.Str.occurrences x y 0 x.length 1).isEmpty
theorem ze(h:Q (.bool (Bv x y)) S):CO c n S .In (.str y) (.str x) Q E:=λu v hu hv=>W.of λok X A s hA R=>by let t r1:=eE (aD hu);subst r1;let t' r1:=eE (aD hv);subst r1;exact PyProof.Rows.in_str ⟨S,R,h⟩
theorem rW(h:Q (.bool (!Bv x y)) S):CO c n S .NotIn (.str y) (.str x) Q E:=λu v hu hv=>W.of λok X A s hA R=>by let t r1:=eE (aD hu);subst r1;let t' r1:=eE (aD hv);subst r1;exact PyProof.Rows.notIn_str ⟨S,R,h⟩
def Dx(c:Cx)(m:Nat)(S:SS)(x y:AV)(b:Bool):Prop:=∀X A s,A.units+m<cLine→Rp c (S.ext X) s→∀v w,ab v=x→ab w=y→EqAt A s v w b
theorem EF:Dx c m S (.str x) (.str y) (x==y):=λX A s hA R v w hv hw=>by let t r1:=eE (aD hv);subst r1;let u r1:=eE (aD hw);subst r1;exact EqAt.str_str x t y u
def eqs(f:AV→AV→Bool):List AV→List AV→Bool|[],[]=>true|x::xs,y::ys=>f x y&&eqs f xs ys|_,_=>false
theorem kT:∀{xs ys:List AV},xs.length≠ys.length→eqs f xs ys=false|[],[],h=>(h rfl).elim|[],_::_,_=>rfl|_::_,[],_=>rfl|x::xs,y::ys,h=>by change(f x y&&eqs f xs ys)=false;rw[kT (xs:=xs) (ys:=ys) (by simpa using h),Bool.and_false]
theorem o8:∀{xs ys:List AV},xs.length=ys.length→(abt xs.length).all (λj=>match xs[j]?,ys[j]? with|some a,some b=>f a b|_,_=>false)=eqs f xs ys
 |[],[],_=>rfl
 |x::xs,y::ys,h=>by
  rw[aaF,List.range_succ_eq_map,adB,List.all_map]
  change(f x y&&_)=(f x y&&eqs f xs ys)
  rw[←o8 (by simpa using h:xs.length=ys.length)];rfl
def Ub(f:AV→AV→Bool)(xs ys:List AV)(j:Nat):Bool:=match xs[j]?,ys[j]? with|some a,some b=>f a b|_,_=>false
theorem o_{xs:List AV}(hA:A.units+m<cLine)(R:Rp c (S.ext X) s)(h1:vs.toList.map ab=xs)(h2:ws.toList.map ab=ys)(hf:∀x∈xs,∀y∈ys,Dx c m S x y (f x y)):∀j (j1:j<vs.size) (j2:j<ws.size),EqAt A s vs[j] ws[j] (Ub f xs ys j):=λj j1 j2=>by
 subst h1 h2;have e1:(vs.toList.map ab)[j]? =some (ab vs[j]):=by simp[j1]
 have e2:(ws.toList.map ab)[j]? =some (ab ws[j]):=by simp[j2]
 unfold Ub;rw[e1,e2];exact hf _ (aaA e1) _ (aaA e2) X A s hA R _ _ rfl rfl
theorem Bw{xs:List AV}(hl:(l,.list xs)∈S.cells)(hb:(b,.list ys)∈S.cells)(gV:l≠b)(hf:∀x∈xs,∀y∈ys,Dx c m S x y (f x y)):Dx c (m+1) S (.ref l) (.ref b) (eqs f xs ys):=λX A s hA R v w hv hw=>by obtain rfl:=aj hv;obtain rfl:=aj hw;let vs hl h1:=ak (R.list hl);let ws hb h2:=ak (R.list hb);show EqAt.of_refs gV;by_cases q:xs.length=ys.length;have:=RcAt.lists (A:=A) hl hb (by rw[aw h1,aw h2,q]) (by exact Lw hA) (o_ (A:=A.in1) (m:=m) (by change A.units+1+m<_;exact RQ hA) R h1 h2 hf);rw[aw h1]at this;rw[←o8 q];exact this;rw[kT q];exact RcAt.lists_lengths hl hb (by rw[aw h1,aw h2];simpa using q) (by exact Lw hA)
theorem pc{xs:List AV}(hl:(l,.list xs)∈S.cells)(hb:(b,.list ys)∈S.cells)(hf:∀x∈xs,∀y∈ys,Dx c m S x y (f x y))(h:Q (.bool (eqs f xs ys)) S)(hn:m+1≤8*n):CO c n S .Eq (.ref l) (.ref b) Q E:=λv w hv hw=>W.of λok X A s hA R=>by obtain rfl:=aj hv;obtain rfl:=aj hw;let vs hl h1:=ak (R.list hl);let ws hb h2:=ak (R.list hb);have hu:=hA.2.2.2;by_cases q:xs.length=ys.length;refine eq_listAt hl hb (by rw[aw h1,aw h2,q]) (by exact qD hu) (o_ (A:=A.in1) (m:=m) (by change A.units+1+m<_;exact xe hn hu) R h1 h2 hf) ⟨S,R,?_⟩;rw[aw h1];rw[←o8 q]at h;exact h;rw[kT q]at h;exact eq_list_lengthsAt hl hb (by rw[aw h1,aw h2];simpa using q) (by exact qD hu) ⟨S,R,h⟩
theorem fX{xs:List AV}(hl:(l,.list xs)∈S.cells)(hb:(b,.list ys)∈S.cells)(hf:∀x∈xs,∀y∈ys,Dx c m S x y (f x y))(h:Q (.bool (!eqs f xs ys)) S)(hn:m+1≤8*n):CO c n S .NotEq (.ref l) (.ref b) Q E:=λv w hv hw=>W.of λok X A s hA R=>by obtain rfl:=aj hv;obtain rfl:=aj hw;let vs hl h1:=ak (R.list hl);let ws hb h2:=ak (R.list hb);have hu:=hA.2.2.2;by_cases q:xs.length=ys.length;refine RcNeAt.lists hl hb (by rw[aw h1,aw h2,q]) (by exact qD hu) (o_ (A:=A.in1) (m:=m) (by change A.units+1+m<_;exact xe hn hu) R h1 h2 hf) _ _ _ _ ⟨S,R,?_⟩;rw[aw h1];rw[←o8 q]at h;exact h;rw[kT q]at h;exact RcNeAt.lists_lengths hl hb (by rw[aw h1,aw h2];simpa using q) (by exact qD hu) _ _ _ _ ⟨S,R,h⟩
theorem xC{xs:List AV}(h1:vs.size=xs.length)(h2:ws.size=ys.length):((abt (min vs.size ws.size)).all (Ub f xs ys)&&vs.size==ws.size)=eqs f xs ys:=by rw[h1,h2];by_cases q:xs.length=ys.length;rw[q,Nat.min_self,beq_self_eq_true,Bool.and_true,←q];exact o8 q;rw[kT q,beq_eq_false_iff_ne.mpr q,Bool.and_false]
theorem zf{xs:List AV}(hl:(l,.tup xs)∈S.cells)(hb:(b,.tup ys)∈S.cells)(hf:∀x∈xs,∀y∈ys,Dx c m S x y (f x y))(h:Q (.bool (eqs f xs ys)) S)(hn:m+1≤8*n):CO c n S .Eq (.ref l) (.ref b) Q E:=λv w hv hw=>W.of λok X A s hA R=>by obtain rfl:=aj hv;obtain rfl:=aj hw;let vs hl h1:=ak (R.tup hl);let ws hb h2:=ak (R.tup hb);have hu:=hA.2.2.2;exact eq_tupleAt hl hb (by exact qD hu) (o_ (A:=A.in1) (m:=m) (by change A.units+1+m<_;exact xe hn hu) R h1 h2 hf) ⟨S,R,by rw[xC (aw h1) (aw h2)];exact h⟩
theorem qS{xs:List AV}(hl:(l,.tup xs)∈S.cells)(hb:(b,.tup ys)∈S.cells)(hf:∀x∈xs,∀y∈ys,Dx c m S x y (f x y))(h:Q (.bool (!eqs f xs ys)) S)(hn:m+1≤8*n):CO c n S .NotEq (.ref l) (.ref b) Q E:=λv w hv hw=>W.of λok X A s hA R=>by obtain rfl:=aj hv;obtain rfl:=aj hw;let vs hl h1:=ak (R.tup hl);let ws hb h2:=ak (R.tup hb);have hu:=hA.2.2.2;exact RcNeAt.tuples hl hb (by exact qD hu) (o_ (A:=A.in1) (m:=m) (by change A.units+1+m<_;exact xe hn hu) R h1 h2 hf) _ _ _ _ ⟨S,R,by rw[xC (aw h1) (aw h2)];exact h⟩
def Ha:AV→AV→Bool| .str x,.str y=>x==y|_,_=>false
theorem jp:∀{xs ys:List Str},eqs Ha (xs.map .str) (ys.map .str)=(xs==ys)|[],[]=>rfl|[],_::_=>rfl|_::_,[]=>rfl|x::xs,y::ys=>by change((x==y)&&eqs Ha (xs.map .str) (ys.map .str))=_;rw[jp];rfl
theorem kU{ys:List Str}:∀x∈xs.map AV.str,∀y∈ys.map AV.str,Dx c m S x y (Ha x y):=by intro x hx y hy;let x z1 r2:=ak (aaH.mp hx);subst r2;let y z1 r2:=ak (aaH.mp hy);subst r2;exact EF
end
end
section
variable{Q:Bool→SS→Prop}
section
variable{c:Cx} {n:Nat} {S:SS} {α β:Type} {E E':EP} {s:aas} {X:Cells}
theorem EG{x:Str}{v:AV}{Q:AV→SS→Prop}(hk:c.env.kindOf x=some .cell∨c.env.kindOf x=some .free)(hl:c.env.cells.lookup x=some a)(hd:((x==("__debug__":Str))||(x==("__classdict__":Str)))=false)(hm:(a,.cell (some v))∈S.cells)(h:Q v S):EE c n S (.Name x p) Q E:=.i λok X A s hA R=>by let o ho u hu e:=oy (R.cells _ (aaf _ hm));let w r1 r2:=ak (aaq.mp e);subst r1;subst r2;let LE hd2:=eA (Bool.or_eq_false_iff.mp hd);refine wpAny_Name ?_ LE;rcases hk with hk|hk;exact wpAny_loadName_cell ok.kind hk hl ⟨o,ho,hu⟩ ⟨S,R,h⟩;exact wpAny_loadName_free ok.kind hk hl ⟨o,ho,hu⟩ ⟨S,R,h⟩ hd2
theorem m7{x:Str}{u:Option AV}{Q:Unit→SS→Prop}(hk:c.env.kindOf x=some .cell)(hl:c.env.cells.lookup x=some a)(up:aI a (.cell u) (.cell (some (ab v))) S.cells cells')(h:Q () ⟨S.loc,cells'⟩):W c n S (storeName c.env x v) Q E:=W.of λok X A s hA R=>by let o ho u hu e:=oy (R.cells _ (aaf _ up.mem));refine wpAny_storeName_cell ok.kind hk hl ⟨o,ho,hu⟩ λh' h8 hs=>ak h8 λo' ji YQ=>?_;exact⟨⟨S.loc,cells'⟩,R.upd up.app hs ji ⟨_,YQ,rfl⟩,h⟩
theorem aI.pre{x y:AO}{l l':Cells}(u:aI a x y l l'):∀p:Cells,aI a x y (p++l) (p++l')|[]=>u|_::p=>.tail (u.pre p)
def Cx.inner(c:Cx)(scope:Scope)(cl:List (Str×Addr))(gl:List (Str×Value))(m:Str→Option Value)(L:Addr):Cx:={c with aC:=(c.env,m)::c.aC,L:=L,fx:={c.fx with gl:=gl,cs:=relabel scope c.env},env:=compEnvC scope cl L c.env,comp:=true}
def TS(c:Cx)(n:Nat)(S:SS)(ifs:List Expr)(Q:Bool→SS→Prop)(E:EP):Prop:=
 W c n S (forIn ifs true λcc r=>if r=true then do let ok←isTrue cc c.env (eval cc c.env);pure (ForInStep.yield ok)else pure (ForInStep.yield r)) Q E
theorem iD(h:Q true S):TS c n S [] Q E:=by unfold TS;rw[List.forIn_nil];exact W.pure h
theorem pd{e:Expr}(h:ET c n S e Q E):TS c n S [e] Q E:=by unfold TS;rw[List.forIn_cons,if_pos rfl];refine W.bind (W.bind (W.az h λb S1 k=>W.pure ?_));simp only[List.forIn_nil];exact W.pure k
def Bx(w:World)(P:Nat→Obj→Prop):Prop:=∀(A:ads) (s:aas) (it:Addr) (o:Obj) (i:Nat) (Q E:Value→aas→Prop),s.heap.get? it=some o→P i o→Q (.ref it) s→wpAny (model prog w) A (pyIter (.ref it)) Q E s
theorem d5:Bx w (aQ l):=λA s it o i Q E ho hP hQ=>wpAny_pyIter_listiter ⟨o,ho,hP⟩ hQ
theorem og{a d:Int}:Bx w (mX a d k):=λA s it o i Q E ho hP hQ=>by let z0 r1:=eA hP;subst r1;exact wpAny_pyIter_rangeiter ho hQ
theorem By:Bx w (ml d k ep):=λA s it o i Q E ho hP hQ=>wpAny_pyIter_keyiter ⟨o,ho,hP⟩ hQ
theorem EH{x:Str}:Bx w (iT x):=λA s it o i Q E ho hP hQ=>by let t h1 h2:=ak hP;cases ha:x.cps.all (·<128);rw[ha]at h1;exact wpAny_pyIter_striter_wide ⟨o,ho,h1,h2⟩ hQ;rw[ha]at h1;exact wpAny_pyIter_striter_ascii ⟨o,ho,h1,h2⟩ hQ
theorem Cx.O8{scope:Scope}{cl:List (Str×Addr)}{gl:List (Str×Value)}(ok:c.Ok)(hc:c.comp=false)(hk:scope.kind= .function)(Ap:∀p∈gl,p∈c.fx.gl∧(relabel scope c.env).names.lookup p.1=some .globalImplicit)(hL:c.base.objs.size≤L):(c.inner scope cl gl m L).Ok where
 eH:=ok.eH
 eL:=rfl
 eg:=ok.eg
 eb:=ok.eb
 kind:=hk
 fr:=λh=>nomatch h
 above:=hL
 aC:=λf hf=>by
  rcases aai.mp hf with rfl|hf
  ·exact⟨(ok.fr hc).trans (congrArg some ok.eL.symm),by rw[ok.kind];decide⟩
  ·exact ok.aC f hf
 gl:=λp hp=>by
  refine eA (Ap p hp) λh1 h2=>?_
  refine pZ (ok.gl p h1) λz0 h3 h4=>?_
  exact⟨h2,h3,h4⟩
theorem Cx.Bz{scope:Scope}{cl:List (Str×Addr)}{gl:List (Str×Value)}(hA:c.In A n)(hc:c.comp=false):(c.inner scope cl gl m L).In A n:=⟨by rw[hA.1,Cx.dp hc];rfl,hA.2.1,hA.2.2.1,hA.2.2.2⟩
theorem Rp.outer{scope:Scope}{cl:List (Str×Addr)}{gl:List (Str×Value)}(ok:c.Ok)(R:Rp c ⟨loc,S.cells⟩ s)(hm:∀p∈loc,(m p.1).map ab=p.2)(R2:Rp (c.inner scope cl gl m L) S' s'):∃m₂,Rp c ⟨loc,(L,.v5 m₂)::S'.cells⟩ s':=by
 let m₂ O9 z2:=ak R2.ns;have j0:∀f∈(c.env,m)::c.aC,s'.heap.Ns f.1.locals f.2:=R2.aC;have hf:∀a∈L::(((c.env,m)::c.aC).map (λx=>x.1.locals)++S'.cells.map (λx=>x.1)),c.base.get? a=none:=R2.fresh;have ki:(L::(((c.env,m)::c.aC).map (λx=>x.1.locals)++S'.cells.map (λx=>x.1))).Nodup:=R2.nd;rw[aan,ok.eL]at hf ki;have pm:(c.L::(c.aC.map (λx=>x.1.locals)++((L,AO.v5 m₂)::S'.cells).map (λx=>x.1))).Perm (L::(c.L::c.aC.map (λx=>x.1.locals)++S'.cells.map (λx=>x.1))):=by rw[aan];exact(abz _ aaS).trans (List.Perm.swap ..)
 refine⟨m₂,R2.stays,⟨m,?_,hm⟩,λf YR=>j0 f (.tail _ YR),λp hp=>?_,λa ha=>hf a (pm.subset ha),pm.nodup_iff.mpr ki,R.kL,R.lk,R2.gens,R2.os,R2.tk⟩;have:=j0 (c.env,m) (.head _);rw[ok.eL]at this;exact this;rcases aai.mp hp with rfl|hp;let o es ep ho r:=qG O9;exact⟨o,ho,es,ep,r⟩;exact R2.cells p hp
section
variable{elt iter:Expr} {x:Str} {px:Pos} {ifs:List Expr} {scope:Scope} {pos:Pos} {cl:List (Str×Addr)} {gl:List (Str×Value)} {xs:List AV} {P:Nat→Obj→Prop}
theorem Rp.EI{S:SS}{scope:Scope}{cl:List (Str×Addr)}{gl:List (Str×Value)}(hc:c.comp=false)(R:Rp (c.enter {c.fx with gl:=gl,cs:=relabel scope c.env} m L) S s):Rp (c.inner scope cl gl m L) S s:=by
 have e1:(c.enter {c.fx with gl:=gl,cs:=relabel scope c.env} m L).aC=(c.env,m)::c.aC:=by unfold Cx.enter;rw[hc]
 have h1:=R.aC;have h2:=R.fresh;have h3:=R.nd;rw[e1]at h1 h2 h3;exact⟨R.stays,R.ns,h1,R.cells,h2,h3,R.kL,R.lk,R.gens,R.os,R.tk⟩
theorem zg{c:Cx}{X:Cells}{x:Value}{G:Prop}(h:EX c X hZ x s'):G:=by obtain⟨_,_,_,_,_,_,hf⟩:=h;exact hf.elim
end
end
end
section
variable{m:Nat} {Qf:Addr→Addr→AV→Cells→Prop} {Ef:Addr→Addr→Value→Cells→Prop}
section
variable{c:Cx} {n:Nat} {S:SS} {α β:Type} {E E':EP} {s:aas} {X:Cells}
theorem In.under(hA:c.In A n)(hw:cd.weight≤1)(he:cd.envs=[])(hu:cd.cUnits≤4)(hm:m+1≤n):c.In (A.under cd) m:=by let h1 h2 h3 h4:=jd hA;refine⟨?_,h2,?_,?_⟩;change pushEnvs cd.envs A.frames=_;rw[he];exact h1;change A.depth+cd.weight+m<_;exact Of hw hm h3;change A.units+cd.cUnits+8*m<_;exact Og hu hm h4
theorem kq{K0:aao→Frag}{C fI:Addr}(hm:makesIn c.K C=true)(hi:adf c.K (.ref C) "__init__"=some (some (.ref fI)))(hf:typeIn c.K (.ref fI)=some (.type "function")) (hK:c.K=K0 c.w.params) (hd:c.hd=none) (F:∀x dx,FC K0 m fI (.ref x::as) kw ((x,.inst C dx)::(dx,.dict [] 0)::S.cells) (Qf x dx) (Ef x dx))(hq:∀x dx v C',Qf x dx v C'→v= .none∧Q (.ref x) ⟨S.loc,C'⟩) (he:∀x dx k C',Ef x dx k C'→E k ⟨S.loc,C'⟩) {pos:List Value} (hp:pos.map ab=as) (v8:kws.map (λp=>(p.1,ab p.2))=kw) (Uc:m+1≤n):W c n S (call (.ref C) pos kws) (λr=>Q (ab r)) E:=.i λok X A s hA R=>by have Xk:=fQ ok R;show abH;obtain⟨hh,g,d,t,os⟩:=s;show make_core (makes_of Xk hm) (looks_findIn Xk hi) (λself=>bind_fn Xk self hf) (.inl rfl);have R1:Rp c (SS.ext ⟨S.loc,(hh.objs.size,.dict [] 0)::S.cells⟩ X) ⟨hh.push emptyDict,g,d,t,os⟩:=R.c0 (ao:=.dict [] 0) (o:=emptyDict) (tk:=t) rfl ⟨abn,[],rfl,.nil⟩;have R2:=R1.c0 (S:=⟨S.loc,(hh.objs.size,.dict [] 0)::S.cells⟩) (X:=X) (ao:=.inst C hh.objs.size) (o:=instObj C hh.objs.size) (tk:=t) rfl rfl;rw[acH]at R2;have qM:=In.under (cd:=.builtin "type.__call__" ⟨.ref C::pos,kws⟩) hA (aae '3') '3' (aae '3') Uc;exact(F (hh.objs.size+1) hh.objs.size).any hK hd rfl (pos:=.ref (hh.objs.size+1)::pos) (by rw[aan,hp];rfl) v8 ok qM R2 (λv s' C' h1 h3=>eA (hq _ _ _ _ h3) λhv hQ=>⟨eO hv,_,h1,hQ⟩) λe q s' C' h2 h3 h5=>⟨e,q,_,rfl,h2,h3,he _ _ _ _ h5⟩
end
end
section
variable{x C:Addr} {v:AV}
section
variable{c:Cx} {n:Nat} {S:SS} {α β:Type} {E E':EP} {s:aas} {X:Cells}
theorem Rp.du(R:Rp c (S.ext X) s)(hx:(x,.du C d sl)∈S.cells)(hd:(d,.dict es k)∈S.cells):∃(vs:Array (Option Value)) (ents:List abM),InstAt s.heap x {instObj C d with slots:=vs} C (some (dictOf ents k))∧vs.toList.map (·.map ab)=sl:=by let o ho vs r3 hm:=oy (R.cells _ (aaf _ hx));subst r3;let od RW z2 ents r4 h2:=vU (R.cells _ (aaf _ hd));subst r4;exact ba vs ents ⟨⟨ho,rfl,rfl,RW⟩,hm⟩
def m8(K:Frag)(C:Addr)(nm:Str)(p i:Nat):Bool:=adf K (.ref C) "__getattribute__"==some (some (.builtin "object.__getattribute__"))&&adf K (.ref C) "__getattr__"==some none&&adf K (.ref C) nm==some (some (.ref p))&&specialIn K (.ref p) "__get__"==some (some (.builtin "member_descriptor.__get__"))&&takesIn K (.ref p)==some true&&slotIn K p C==some i&&(clsIn K C).isSome
theorem xE{p:Nat}{nm:Str}(hx:(x,.du C d sl)∈S.cells)(hd:(d,.dict es k)∈S.cells)(p3:m8 c.K C nm p i=true)(hv:sl[i]? =some (some v))(hh:hand v=true)(h:Q v S):GA c n S (.ref x) nm Q E:=λu hu=>W.of λok X A s hA R=>by
 obtain rfl:=aj hu;let vs ents I hm:=cI (R.du hx hd);subst hm;unfold m8 at p3;simp only[aaM,beq_iff_eq]at p3;obtain⟨⟨⟨⟨⟨⟨k1,k2⟩,k3⟩,k4⟩,k5⟩,k6⟩,k7⟩:=p3;let cd Xs:=eE (Option.isSome_iff_exists.mp k7);rw[aag]at hv;let w hw e:=ak (aaq.mp hv);let z r1 r2:=ak (aaq.mp e);subst r1;subst r2;have hf:findObj c.K C (some (dictOf ents k)) nm=some (.bind (.builtin "member_descriptor.__get__") (.ref p)):=by change(clsIn c.K C).bind _=_;rw[Xs];change(adf c.K (.ref C) nm).bind _=_;rw[k3];change(specialIn c.K _ "__get__").bind _=_;rw[k4];change(takesIn c.K _).bind _=_;rw[k5];rfl
 have Xk:=fQ ok R;refine get_bind Xk I k1 hf k2 (abH (slot_get (s:={s with toks:=s.toks+1}) Xk I k6 (v:=z) ?_ ?_));change(vs[i]?).join=some z;rw[←adG,hw];rfl;change wpAny _ _ (handedOut z) _ _ _;rw[handedOut_of (handed hh)];exact aal ⟨S,R.toks,h⟩
def qT(K:Frag)(C:Addr)(nm:Str)(p i:Nat):Bool:=adf K (.ref C) "__setattr__"==some (some (.builtin "object.__setattr__"))&&plainOver K C&&takerIn K C nm==some (some (.ref p))&&typeIn K (.ref p)==some (.type "member_descriptor")&&slotIn K p C==some i&&decide (i<1000)
def xF(sl:List (Option AV))(i:Nat)(v:AV):List (Option AV):=(sl++List.replicate (i+1-sl.length) none).set i (some v)
theorem EJ{p:Nat}{nm:Str}{Q:SS→Prop}(u:aI x (.du C d sl) (.du C d (xF sl i v)) S.cells cells')(hd:(d,.dict es k)∈S.cells)(p3:qT c.K C nm p i=true)(h:Q ⟨S.loc,cells'⟩):SA c n S (.ref x) v nm Q E:=λo y ho hy=>W.of λok Y A s hA R=>by obtain rfl:=aj ho;subst hy;let vs ents I hm:=cI (R.du u.mem hd);unfold qT at p3;simp only[aaM,beq_iff_eq,decide_eq_true_eq]at p3;obtain⟨⟨⟨⟨⟨k1,k2⟩,k3⟩,k4⟩,k5⟩,k6⟩:=p3;have Xk:=fQ ok R;have ua:=u.app (X:=Y);have nd:=aaB.mp R.nd;have hL:x≠c.L:=λq=>nd.1 (q▸aad _ (aat (f:=(λx=>x.1)) ua.mem));let m pre hl F N hp md:=nX (R.toks.ledger (s:={s with toks:=s.toks+1}) I.at_ hL);refine set_plain Xk I k1 (osa_descr (s:={s with toks:=s.toks+1}) KF.slot_mset Xk I k2 k3 k4 (slot_set (s:={s with toks:=s.toks+1}) F N Xk I k5 k6 hp (λzz q=>nomatch q) rfl rfl λh' F' N'=>?_));have z:=R.Bq (h':=h') (tk:=s.toks+1) ua (λb o e h1 h2=>(N' (b,o) (aaf _ (md b o e h1 h2))).1) ⟨m,F'.ns,hl⟩ (N' (x,_) (aad _ (.head _))).1 ⟨_,rfl,by subst hm;rw[Array.toList_setIfInBounds,acn,List.map_set,aaj];unfold xF;simp⟩;exact⟨⟨S.loc,cells'⟩,z,h⟩
end
end
section
section
variable{c:Cx} {n:Nat} {S:SS} {α β:Type} {E E':EP} {s:aas} {X:Cells}
theorem EK{K0:aao→Frag}{m:Nat}{f:Addr}(hf:FC K0 m f as [] C Qf Ef)(hp:S.cells.Perm (C++D))(hK:c.K=K0 c.w.params)(hd:c.hd=none)(h:∀v C',Qf v C'→Q v ⟨S.loc,C'++D⟩) (he:∀k C',Ef k C'→E k ⟨S.loc,C'++D⟩) (hm:autoParam (m≤n) apM):bM c n S (.ref f) as Q E:=λv vs hv bx=>by obtain rfl:=aj hv;refine W.fh (loc:=S.loc) hp (W.frame ?_);refine((hf.W (S:=⟨S.loc,C⟩) hK hd rfl bx (kws:=[]) rfl).room hm).mono (λr S' h8=>eA h8 λh1 h2=>?_) λk S' h8=>eA h8 λh1 h2=>?_;have:=h _ _ h2;rw[←h1]at this;exact this;have:=he _ _ h2;rw[←h1]at this;exact this
end
end
section
open PySem.Builtin.Str
section
variable{c:Cx} {n:Nat} {S:SS} {α β:Type} {E E':EP} {s:aas} {X:Cells}
theorem rX:∀{vs:List Value} {ss:List Str},vs.map ab=ss.map .str→∃l:List (Str×Tok),vs=strValues l∧l.map (λx=>x.1)=ss
 |[],[],_=>⟨[],rfl,rfl⟩
 |[],_::_,h=>by cases h
 |_::_,[],h=>by cases h
 |v::vs,x::ss,h=>by rw[aan,aan,acr]at h;let t r1:=eE (aD h.1);subst r1;let l r1 r2:=ak (rX h.2);subst r1;subst r2;exact⟨(x,t)::l,rfl,rfl⟩
set_option tactic.hygienic true in
theorem mo(hm:(l,.list (ss.map .str))∈S.cells)(hz:(ss.toArray.foldl (·+·.length+sep.length) 0)≤lim)(tO:(glued sep ss).length≤lim)(h:Q (.str (glued sep ss)) S):bM c n S (.bi "str.join") [.str sep,.ref l] Q E:=λf vs hf bx=>W.of λok X A s hA R=>by
 obtain rfl:=dT hf;let v y r2 hv hy:=bG (fR bx);subst r2;let t r1:=eE (aD hv);subst r1;obtain rfl:=aj hy;let ws hl p5:=ak (R.list hm);let ps ux Xu:=ak (rX p5);have YS:s.heap.IsList l (strValues ps).toArray:=by rw[←ux];simpa using hl
 refine call_meets acZ (adN s sep t) PySem.F.entry_str_join (PySem.F.args_str_join_2 _ _) (meets_str_join_list sep t l ps (by rw[Xu];exact decide_eq_false (by have:=ax hz;exact GD this))) ⟨YS,?_⟩;subst Xu;unfold joinMade;split;rename_i p;exact⟨S,R,h⟩;exact⟨ax tO,S,R.toks,h⟩
theorem kr{e:Expr}{z:Str}{k':Nat}{q q' pos:Pos}(YT:(y==z)=false)(h:EE c n S e (λa S1=>∃x,a= .str x∧x.length+(x.length+1)*z.length≤16777216∧Q (.str (ada x y z)) S1) E) (he:autoParam (bo e=false) apR) (bw:autoParam ((ap.endLine==pos.line)=true) apR):EE c n S (.Call (.Attribute e "replace" ap) [.Constant (.str y) k q,.Constant (.str z) k' q'] [] pos) Q E:=.i λok X A s hA R=>by
 refine wpAny_Call_method (T:="str") (id:="str.replace") (by cases e<;>first|rfl|cases he) rfl bw PySem.F.plainAttrs_str PySem.F.slot_str_replace PySem.F.type_str_replace (h.st ok X A s hA R λv s1 S1 R1 h8=>bN h8 λx h1 h2 h3=>?_);let t r1:=eE (aD h1);subst r1;refine⟨adN s1 x t,(λa q=>by cases q),?_⟩;have md:([.Constant (.str y) k q,.Constant (.str z) k' q']:List Expr).all aV=true:=rfl;refine callWith_of (P:=λzz=>True) (by rw[bF md];rfl) (λhh zz=>⟨.machine,.inr (.inl rfl),ace rfl⟩) (bV (bF md) ?_);rw[bO rfl,bO rfl];refine Calls.spliced_cons (wpAny_Constant_str (k:=k) (pos:=q) (Calls.spliced_cons (wpAny_Constant_str (k:=k') (pos:=q') (aal ⟨trivial,?_⟩))));have iS:=R1.tk;have hl:tooLong (x.length+(occurrences x y 0 x.length (x.length+1)).length*z.length)=false:=by have h1:=StrLaws.occ_length_le x y 0 x.length (x.length+1);have I8:(occurrences x y 0 x.length (x.length+1)).length*z.length≤(x.length+1)*z.length:=abx _ h1;exact decide_eq_false (Oc h2 I8 (by decide:(2:Nat)^24=16777216))
 show call_gives PySem.F.slot_str_replace (adN _ _ _) PySem.F.entry_str_replace (PySem.F.args_str_replace_3 _ _ _) (gives_str_replace x y z t _ _ λzz=>⟨Bool.or_eq_false_iff.mpr ⟨beq_eq_false_iff_ne.mpr (abF iS),beq_eq_false_iff_ne.mpr (Nat.succ_ne_zero _)⟩,beq_eq_false_iff_ne.mpr (abf (abw _)),YT,hl⟩);unfold ada at h3;cases hc:((occurrences x y 0 x.length (x.length+1)).isEmpty||(y.length==0&&z.length==0));rw[hc]at h3;simp only[aaU,if_false]at h3⊢;exact⟨fits_replaced y h2,S1,R1.toks,h3⟩;rw[hc]at h3;simp only[if_true]at h3⊢;exact⟨S1,R1.toks,h3⟩
end
end
section
variable{xs:List Str} {k:Str}
theorem jM(l:Addr)(items:Array Value)(Ud:(items.size:Int)<2^63):Meets (Builtin.«bool.__new__» ⟨[.type "bool",.ref l],[]⟩) (λzz R s=>s.heap.IsList l items∧R (.ok (.ret (.bool (!items.isEmpty)))) {s with toks:=s.toks+1+1}):=Meets.of_wp λprog w A R s hs=>by
 obtain⟨hp,g,d,tk,os⟩:=s;let hl hs:=eA hs;have f1:=F.conv_sub_bool;repeat(any_goals(first|assumption|(with_reducible refine wpAny_truthy_list hl Ud ?_)|wp_step))
 all_goals first|exact⟨_,rfl,hs⟩|exact hs|skip
section
variable{c:Cx} {n:Nat} {S:SS} {E:EP}
theorem pe{xs:List AV}(hm:(l,.list xs)∈S.cells)(hz:xs.length≤lim)(h:Q (.bool (!xs.isEmpty)) S):bM c n S (.type "bool") [.ref l] Q E:=λf vs hf bx=>W.of λok X A s hA R=>by
 obtain rfl:=bI hf;let v r1 hv:=ak (cP bx);subst r1;obtain rfl:=aj hv;let ws hl p5:=ak (R.list hm);have e:ws.isEmpty=xs.isEmpty:=by subst p5;rw[List.isEmpty_map,ac7];simp
 exact call_bool_1 (jM l ws (by rw[aw p5];exact kP hz)) ⟨hl,rfl,S,R.toks,by rw[e];exact h⟩
theorem wq{vs:List Value}(h:vs.map ab=xs.map .str)(k:Str):vs.countP (m6 k)=xs.count k:=by induction xs generalizing vs with|nil=>rw[acF,List.map_eq_nil_iff]at h;subst h;rfl|cons x xs ih=>let v r r2 h1 h2:=bG (abK.mp h);subst r2;let t r1:=eE (aD h1);subst r1;rw[List.countP_cons,ih h2,abL];rfl
theorem wu(hm:(l,.list (xs.map .str))∈S.cells)(h:Q (.int (xs.count k)) S):bM c n S (.bi "list.count") [.ref l,.str k] Q E:=λf vs hf bx=>W.of λok X A s hA R=>by obtain rfl:=dT hf;let v y r2 hv hy:=bG (fR bx);subst r2;obtain rfl:=aj hv;let t r1:=eE (aD hy);subst r1;let ws kk ho p5:=cI (R.listAt hm);refine call_meets PySem.F.slot_list_count ⟨_,ho,rfl⟩ PySem.F.entry_list_count (PySem.F.args_list_count_2 _ _) (SeqAt.list_countAt l ws kk none #[] (.str k t) (m6 k)) ⟨ho,λz hz=>?_,S,R.toks,?_⟩;let x t' r2:=D0 (jo p5 hz);subst r2;exact SeqAt.EqAt.str_str x t' k t;rw[wq p5];exact h
theorem uy(h:vs.toList.map ab=xs.map .str){m:Nat}(hm:m<vs.size):m6 k vs[m]=decide (xs[m]? =some k):=by
 have e:(vs.toList.map ab)[m]? =some (ab vs[m]):=by simp[hm]
 rw[h,aag]at e;let x hx rY:=ak (aaq.mp e);let t ht:=eE (aD rY.symm);rw[ht,hx];change(x==k)=_;rw[ac7];simp
theorem wv(hm:(l,.list (xs.map .str))∈S.cells)(hj:xs[j]? =some k)(xI:∀m,m<j→xs[m]?≠some k)(hz:xs.length≤lim)(h:Q (.int j) S):bM c n S (.bi "list.index") [.ref l,.str k] Q E:=λf vs hf bx=>W.of λok X A s hA R=>by
 obtain rfl:=dT hf;let v y r2 hv hy:=bG (fR bx);subst r2;obtain rfl:=aj hv;let t r1:=eE (aD hy);subst r1;let ws kk ho p5:=cI (R.listAt hm);have kj:ws.size=xs.length:=by rw[aw p5,aaa]
 have dc:j<ws.size:=by rw[kj];exact(aav.mp hj).1
 refine call_meets PySem.F.slot_list_index ⟨_,ho,rfl⟩ PySem.F.entry_list_index (PySem.F.args_list_index_2 _ _) (SeqAt.list_indexAt l ws kk none #[] (.str k t) (m6 k) j dc ?_ ?_ ?_) ⟨ho,λz hz=>?_,S,R.toks,h⟩;have:(j:Int)≤1000000:=Int.ofNat_le.mpr (by change j≤1000000;have:xs.length≤1000000:=hz;exact Oh kj dc this);exact adq this '2';rw[uy p5];exact decide_eq_true hj;intro m hm YU;rw[uy p5];exact decide_eq_false (xI m YU);let x t' r2:=D0 (jo p5 hz);subst r2;exact SeqAt.EqAt.str_str x t' k t
end
end
section
variable{Q:SS→Prop} {t:Addr}
section
variable{c:Cx} {n:Nat} {S:SS} {α β:Type} {E E':EP} {s:aas} {X:Cells}
inductive ib:List Str→List AV→List (Str×Option AV)→List (Str×Option AV)→Prop
 |nil:∀{l},ib [] [] l l
 |cons:∀{x v xs vs l l1 l2},dA x v l l1→ib xs vs l1 l2→ib (x::xs) (v::vs) l l2
def wx(ns:List (Str×Pos)):List Expr:=ns.map λq=>.Name q.1 q.2
theorem dq(env:Env):∀ns:List (Str×Pos),assignEach (wx ns) env=ns.map λq=>(false,assign (.Name q.1 q.2) env)|[]=>rfl|q::r=>by change(false,assign (.Name q.1 q.2) env)::assignEach (wx r) env=_;rw[dq env r];rfl
theorem xJ:∀{ns:List (Str×Pos)} {vs:List Value} {S:SS} {l':List (Str×Option AV)},ib (ns.map (λx=>x.1)) (vs.map ab) S.loc l'→Q ⟨l',S.cells⟩→W c n S (assignInOrder (ns.map λq=>assign (.Name q.1 q.2) c.env) vs) (λzz=>Q) E
 |[],[],S,l',h,hQ=>by cases h;exact W.pure hQ
 |[],_::_,S,l',h,hQ=>by cases h
 |_::_,[],S,l',h,hQ=>by cases h
 |q::ns,v::vs,S,l',h,hQ=>by cases h with| @cons _ _ _ _ _ l1 _ h1 h2=>refine W.bind (W.holding ((cA (Q:=λS1=>S1=⟨l1,S.cells⟩) h1 rfl v rfl).az λzz S1 e=>?_));subst e;exact xJ h2 hQ
theorem uz{ns:List (Str×Pos)}{k}(hd:c.hd=none)(hm:(t,.tup xs)∈S.cells)(hl:ib (ns.map (λx=>x.1)) xs S.loc l')(hn:ns.length=xs.length)(h:Q ⟨l',S.cells⟩):AS c n S (.Tuple (wx ns) k p) (.ref t) Q E:=λv hv=>.i λok X A s hA R=>by obtain rfl:=aj hv;let vs ht bx:=ak (R.tup hm);let h' rZ:=wpAny_assign_Tuple (hA.2.1.trans hd) ht ?_ ?_;rw[dq,aaa,hn,←bx];simp;rw[dq];rw[List.findIdx?_eq_none_iff];intro x hx;let q z1 r2:=ak (aaH.mp hx);subst r2;rfl;rw[dq,aba];have R':Rp c (S.ext X) {s with heap:=h'}:=R.keeps λb o e=>rZ b o (abf (aa3 e)) e;exact(xJ (c:=c) (n:=n) (S:=S) (E:=E) (Q:=Q) (ns:=ns) (vs:=vs.toList) (by rw[bx];exact hl) h).run ok X A _ hA R'
theorem r_{k}{a b:AV}(hd:c.hd=none)(hm:(t,.tup [a,b])∈S.cells)(hl:ib [x,y] [a,b] S.loc l')(h:Q ⟨l',S.cells⟩):AS c n S (.Tuple [.Name x px,.Name y py] k p) (.ref t) Q E:=uz (ns:=[(x,px),(y,py)]) hd hm hl rfl h
abbrev nD:Value→aas→Prop:=λzz zz=>False
def Ue(c:Cx)(n:Nat)(S:SS)(it:Addr)(Z Z':Cells)(a b:AV):Prop:=c.Ok→∀X A s,c.In A n→Rp c (S.ext (Z++X)) s→wpAny (model prog c.w) A (pyNext (.ref it)) (λr s1=>∃v,r=some v∧∀elts k p,wpAny (model prog c.w) A (letOwnedTupleGo (.Tuple elts k p) (.ref it) v) (λzz s2=>∃t,v= .ref t∧Rp c (S.ext ((t,.tup [a,b])::(Z'++X))) s2) nD s1) nD s
def Uf(c:Cx)(n:Nat)(S:SS)(it:Addr)(Z:Cells):Prop:=c.Ok→∀X A s,c.In A n→Rp c (S.ext (Z++X)) s→wpAny (model prog c.w) A (pyNext (.ref it)) (λr s1=>r=none∧Rp c (S.ext X) s1) nD s
def Hb(c:Cx)(n:Nat)(S1:SS)(u:Value)(ps:List (AV×AV))(KP:SS→Prop)(S2:SS):Prop:=c.Ok→∀X A s,c.In A n→Rp c (S1.ext X) s→wpAny (model prog c.w) A (pyIter u) (λw s'=>∃(it:Addr) (Zs:Nat→Cells),w= .ref it∧Rp c (S2.ext (Zs 0++X)) s'∧∀S,KP S→(∀i a b,ps[i]? =some (a,b)→Ue c n S it (Zs i) (Zs (i+1)) a b)∧Uf c n S it (Zs ps.length)) nD s
theorem Rp.dH(R:Rp c (S.ext (Z++X)) s):Rp c (S.ext X) s:=R.drop (cells':=S.cells++X) (adS (ab0 _) (ac1 _ _))
theorem tP{t:Sem α}{Q:α→aas→Prop}{E:Value→aas→Prop}(h:wpAny M A t Q nD s):wpAny M A t Q E s:=aau h (λzz zz x=>x) λzz zz x=>x.elim
theorem qa.ext{k:Value}{e:Addr}(F:qa c k e (S.ext (Z++X)) h):qa c k e (S.ext X) h:=F.sub λa ha=>by simp only[aaj,aax]at ha⊢;exact ha.imp id .inr
theorem jq{x:Value}(ok:c.Ok)(hc:c.comp=false)(hA:c.In A n)(h:EX c (Z++X) E x s'):notedBy (model prog c.w) A c.env (cameBackBy (model prog c.w) A c.env (EX c X E)) x s':=by obtain⟨e,k,S',rfl,F,R',hE⟩:=h;exact oO ok hc hA.1 R' F λkm p4 TT=>⟨e,k,S',rfl,TT.ext,p4.dH,hE⟩
theorem uB{kt}{Q:FL→SS→Prop}{ps:List (AV×AV)}(KP:SS→Prop)(Inv:Nat→SS→Prop)(h:EE c n S iter (λv S1=>∃S2,(∀u,ab u=v→Hb c n S1 u ps KP S2)∧Inv 0 S2) E)(hK:∀i S1,Inv i S1→KP S1)(step:∀i a b S1,ps[i]? =some (a,b)→Inv i S1→∃l',ib [x,y] [a,b] S1.loc l'∧EB c n ⟨l',S1.cells⟩ body (au (Inv (i+1)) Q) E)(fin:∀S1,Inv ps.length S1→EB c n S1 orelse Q E)(hd:autoParam (c.hd=none) apA) (hc:autoParam (c.comp=false) apA) (hs:autoParam (∀x,aa4 iter c.env x=pure x) apR):ES c n S (.For (.Tuple [.Name x px,.Name y py] kt pt) iter body orelse p) Q E:=.i λok X A s hA R=>by refine wpAny_For (aau (h.run ok X A s hA R) (λv s1 h8=>h8.el λS1 R1 h7=>ak h7 λS2 hi hinv=>tP (aau (hi v rfl ok X A s1 hA R1) (λw s2 Ug=>?_) λzz zz z=>z)) λzz zz z=>z) hs;let it Zs e R2 hz:=bG Ug;subst e;refine codeAny_forLoop_any (λm s=>∃i S1,m=ps.length-i∧i≤ps.length∧Rp c (S1.ext (Zs i++X)) s∧Inv i S1) ?_ ps.length (ba 0 S2 ⟨rfl,aaD _,R2,hinv⟩);intro m s Uh;let i S1 hm hi R1 i1:=lV Uh;let g1 g2:=eA (hz S1 (hK _ _ i1));cases hx:ps[i]? with|none=>have:ps.length=i:=(by have:=ac2.mp hx;exact aaI this hi);subst this;refine tP (aau (g2 ok X A s hA R1) (λr s3 Ui=>?_) λzz zz z=>z);let e R3:=eA Ui;subst e;exact aau ((fin S1 i1).run ok X A _ hA R3) (λf s3 Uj=>by obtain⟨S3,R3,k3⟩:=Uj;exact⟨S3,R3,k3⟩) λzz zz z=>jq (Z:=[]) ok hc hA z|some q=>obtain⟨a,b⟩:=q;have dc:i<ps.length:=(aav.mp hx).1;let l' sl hb:=ak (step i a b S1 hx i1);refine tP (aau (g1 i a b hx ok X A s hA R1) (λr s3 Uk=>?_) λzz zz z=>z);let v e hg:=ak Uk;subst e;refine tP (aau (hg _ _ _) (λzz s4 Ul=>?_) λzz zz z=>z);let t e R4:=ak Ul;subst e;have R5:Rp c (SS.ext ⟨S1.loc,(t,.tup [a,b])::S1.cells⟩ (Zs (i+1)++X)) s4:=R4.perm (cells':=(t,.tup [a,b])::S1.cells++(Zs (i+1)++X)) (by rw[aaT];exact aaS.symm);refine aau ((r_ (c:=c) (n:=n) (S:=⟨S1.loc,(t,.tup [a,b])::S1.cells⟩) (E:=E) (Q:=λS6=>S6=⟨l',(t,.tup [a,b])::S1.cells⟩) hd (.head _) sl rfl (.ref t) rfl).run ok _ A s4 hA R5) (λzz s6 Um=>?_) λzz zz z=>jq ok hc hA z;obtain⟨S6,R6,e6⟩:=Um;subst e6;have R7:Rp c (SS.ext ⟨l',S1.cells⟩ (Zs (i+1)++X)) s6:=R6.drop (cells':=S1.cells++(Zs (i+1)++X)) (acj ..);refine aau (hb.run ok _ A s6 hA R7) (λf s8 Un=>?_) λzz zz z=>jq ok hc hA z;obtain⟨S8,R8,k8⟩:=Un;cases f with|next=>exact⟨_,by exact DO hm dc,i+1,S8,rfl,by exact dc,R8,k8⟩|cont=>exact⟨_,by exact DO hm dc,i+1,S8,rfl,by exact dc,R8,k8⟩|brk=>exact⟨S8,R8.dH,k8⟩|ret v=>exact⟨S8,R8.dH,k8⟩
end
end
section
variable{tk:Nat}
section
variable{c:Cx} {n:Nat} {S:SS} {α β:Type} {E E':EP} {s:aas} {X:Cells}
theorem Rp.turn{Y:Cells}(R:Rp c ⟨loc,C++Y⟩ s)(k:∀b o,b∉C.map (λx=>x.1)→s.heap.get? b=some o→h'.get? b=some o)(hC:∀p∈C',∃o,h'.get? p.1=some o∧p0 c.w p.2 o) (nd:(C'.map (λx=>x.1)).Nodup) (Dy:∀a∈C'.map (λx=>x.1),a∈C.map (λx=>x.1)∨s.heap.objs.size≤a) (iS:s.toks≤tk):Rp c ⟨loc,C'++Y⟩ {s with heap:=h',toks:=tk}:=by
 have RZ:=aaB.mp R.nd;have jL:=aaX.mp RZ.2;have Xv:((C++Y).map (λx=>x.1)).Nodup:=jL.2.1;rw[aaj]at Xv;have Xw:=aaX.mp Xv;have inC:∀a∈C.map (λx=>x.1),a∈c.aC.map (λx=>x.1.locals)++(C++Y).map (λx=>x.1):=λa ha=>aad _ (by rw[aaj];exact aaf _ ha);have hL:c.L∉C.map (λx=>x.1):=λq=>RZ.1 (inC _ q);have j0:∀f∈c.aC,f.1.locals∉C.map (λx=>x.1):=λf hf q=>jL.2.2 _ (aat (f:=(λx=>x.1.locals)) hf) _ (by change _∈(C++Y).map (λx=>x.1);rw[aaj];exact aaf _ q) rfl;have hY:∀p∈Y,p.1∉C.map (λx=>x.1):=λp hp q=>Xw.2.2 _ q _ (aat (f:=(λx=>x.1)) hp) rfl;have O_:∀b o,c.base.get? b=some o→b∉C.map (λx=>x.1):=λb o e q=>by have:=R.fresh b (.tail _ (inC b q));rw[e]at this;cases this
 let m hn hl:=ak R.ns;have nsK:∀{a:Addr} {m:Str→Option Value},a∉C.map (λx=>x.1)→s.heap.Ns a m→h'.Ns a m:=λha hn=>by let o es ep ho r:=qG hn;exact eY o es ep ⟨k _ _ ha ho,r⟩
 refine⟨λb o e=>k b o (O_ b o e) (R.stays b o e),⟨m,nsK hL hn,hl⟩,λf hf=>nsK (j0 f hf) (R.aC f hf),λp hp=>?_,λa ha=>?_,?_,R.kL,R.lk,R.gens,R.os,aaE R.tk iS⟩;rcases aax.mp hp with hp|hp;exact hC p hp;let o ho hc:=ak (R.cells p (aad _ hp));exact⟨o,k _ _ (hY p hp) ho,hc⟩;rcases aai.mp ha with rfl|ha;exact R.fresh _ (.head _);rcases aax.mp ha with ha|ha;exact R.fresh a (.tail _ (aaf _ ha));have YV:a∈C'.map (λx=>x.1)++Y.map (λx=>x.1):=by rw[←aaj];exact ha
 rcases aax.mp YV with ha|ha;rcases Dy a ha with q|q;exact R.fresh a (.tail _ (inC a q));cases q2:c.base.get? a with|none=>rfl|some o=>exact absurd (aa3 (R.stays a o q2)) (Nat.not_lt.mpr q)
 exact R.fresh a (.tail _ (aad _ (by change a∈(C++Y).map (λx=>x.1);rw[aaj];exact aad _ ha)));have apart:∀a∈C'.map (λx=>x.1),∀b∈c.L::(c.aC.map (λx=>x.1.locals)++(C++Y).map (λx=>x.1)),b∉C.map (λx=>x.1)→a≠b:=λa ha b hb YW q=>by rcases Dy a ha with z|z;exact YW (q▸z);exact absurd ((R.lt:∀a∈c.L::(c.aC.map (λx=>x.1.locals)++(C++Y).map (λx=>x.1)),a<s.heap.objs.size) b hb) (Nat.not_lt.mpr (q▸z))
 refine aaB.mpr ⟨λq=>?_,aaX.mpr ⟨jL.1,?_,λa ha b hb q=>?_⟩⟩;rcases aax.mp q with q|q;exact RZ.1 (aaf _ q);have q':c.L∈C'.map (λx=>x.1)++Y.map (λx=>x.1):=by rw[←aaj];exact q
 rcases aax.mp q' with q|q;exact apart _ q _ (.head _) hL rfl;exact RZ.1 (aad _ (by change _∈(C++Y).map (λx=>x.1);rw[aaj];exact aad _ q));change((C'++Y).map (λx=>x.1)).Nodup;rw[aaj];refine aaX.mpr ⟨nd,Xw.2.1,λa ha b hb q=>?_⟩;let p hp r2:=ak (aaH.mp hb);subst r2;exact apart a ha _ (.tail _ (aad _ (by change _∈(C++Y).map (λx=>x.1);rw[aaj];exact aad _ hb))) (hY p hp) q;have BA:b∈C'.map (λx=>x.1)++Y.map (λx=>x.1):=by rw[←aaj];exact hb
 rcases aax.mp BA with hb|hb;let f hf r2:=ak (aaH.mp ha);subst r2;exact apart _ hb _ (.tail _ (aaf _ ha)) (j0 f hf) q.symm;exact jL.2.2 a ha b (by change _∈(C++Y).map (λx=>x.1);rw[aaj];exact aad _ hb) q
theorem Rp.j3(R:Rp c (S.ext (C++X)) s)(k:∀b o,b∉C.map (λx=>x.1)→s.heap.get? b=some o→h'.get? b=some o)(hC:∀p∈C',∃o,h'.get? p.1=some o∧p0 c.w p.2 o) (nd:(C'.map (λx=>x.1)).Nodup) (Dy:∀a∈C'.map (λx=>x.1),a∈C.map (λx=>x.1)∨s.heap.objs.size≤a) (iS:s.toks≤tk):Rp c (S.ext (C'++X)) {s with heap:=h',toks:=tk}:=by
 have p:∀D:Cells,(S.cells++(D++X)).Perm (D++(S.cells++X)):=λD=>by rw[←aaw,←aaw];exact List.Perm.append_right _ aaY
 exact(Rp.turn (R.perm (cells':=C++(S.cells++X)) (p C).symm) k hC nd Dy iS).perm (cells':=S.cells++(C'++X)) (p C')
def m9(it:Addr)(i:Nat)(o:Obj):Prop:=∃old,o={cls:=.type "enumerate",dict:=none,data:=.fields #[.none,.bool false,.ref it,abJ i,.none,old],slots:= #[]}
theorem zh(h:∀e it,Q (.ref e) ⟨S.loc,(e,.obj (m9 it 0))::(it,.obj (iT x 0))::S.cells⟩):bM c n S (.type "enumerate") [.str x] Q E:=λf vs hf bx=>W.of λok X A s hA R=>by obtain rfl:=bI hf;let v r1 hv:=ak (cP bx);subst r1;let t r1:=eE (aD hv);subst r1;let h' he hit hz hk:=call_enumerate_str;let o ho hc hd:=bN hit;refine⟨⟨S.loc,(s.heap.objs.size+1,.obj (m9 s.heap.objs.size 0))::(s.heap.objs.size,.obj (iT x 0))::S.cells⟩,Rp.turn (C:=[]) (C':=[(s.heap.objs.size+1,.obj (m9 s.heap.objs.size 0)),(s.heap.objs.size,.obj (iT x 0))]) (Y:=S.cells++X) R (λb o zz e=>hk b o e) ?_ ?_ ?_ (aak _),h _ _⟩;intro p hp;rcases aai.mp hp with rfl|hp;exact⟨_,he,_,rfl⟩;rcases aai.mp hp with rfl|hp;exact⟨o,ho,t,hc,hd⟩;cases hp;simp;intro a ha;simp only[aan,acF,aai,abN,or_false]at ha;rcases ha with rfl|rfl;exact .inr (aa2 _);exact .inr (aak _)
abbrev eB(x:Str)(e it:Addr)(i:Nat):Cells:=[(e,.obj (m9 it i)),(it,.obj (iT x i))]
theorem qU(hh:A.handled=none)(w:World)(it:Addr)(x:Str)(t:Tok):Draws prog w A it [it] x.cps.size (λi v=>∃c u,x.cps[i]? =some c∧v= .str ⟨#[c]⟩ u) (λi h=>h.IsStrIter it (if x.cps.all (·<128)then"str_ascii_iterator"else"str_iterator") x t i):=by split;exact Draws.strAscii hh it x t;exact Draws.strWide hh it x t
theorem wy{e:Addr}(R:Rp c (S.ext (eB x e it i++X)) s):e≠it:=by have nd:=(aaX.mp (aaB.mp R.nd).2).2.1;rw[show(S.ext (eB x e it i++X)).cells.map (λx=>x.1)=S.cells.map (λx=>x.1)++(e::it::X.map (λx=>x.1))from by simp]at nd;exact λq=>(aaB.mp ((aaX.mp nd).2.1)).1 (q▸.head _)
theorem zi{e:Addr}{d:Nat}(hd:c.hd=none)(hx:x.cps[i]? =some d):Ue c n S e (eB x e it i) (eB x e it (i+1)) (.int i) (.str ⟨#[d]⟩):=λok X A s hA R=>by let oe Hc old r3:=IS (R.cells (e,.obj (m9 it i)) (aad _ (.head _)));subst r3;let oi Dz t hc zj:=oy (R.cells (it,.obj (iT x i)) (aad _ (.tail _ (.head _))));have gV:=wy R;show wpAny_with_toks (aak s.toks);let v h' tk hP he j0 ht hz hk:=wpAny_pyNext_enum_itemD (qU (A:=A.in1) (hA.2.1.trans hd) c.w it x t) Hc ⟨oi,Dz,hc,zj⟩ (abG.mp hx).1 gV (by simpa using gV);let d' u rL r3:=cI hP;subst r3;rw[hx]at rL;cases rL;intro iS;refine⟨_,rfl,λelts k p=>?_⟩;refine wpAny_letOwnedTupleGo_enum he λh₂ qL j4=>⟨_,rfl,?_⟩;let o' ji Uo Up:=bN j0;have xM:e<s.heap.objs.size:=aa3 Hc;have Uq:it<s.heap.objs.size:=aa3 Dz;refine Rp.j3 (s:=s) (C:=eB x e it i) (C':=(s.heap.objs.size,.tup [.int i,.str ⟨#[d]⟩])::eB x e it (i+1)) R (λb o hb e'=>?_) ?_ ?_ ?_ iS;simp only[aan,acF,aai,abN,or_false,not_or]at hb;exact(j4.2 b hb.1).trans (hk b o hb.1 hb.2 e');intro p hp;rcases aai.mp hp with rfl|hp;exact⟨_,(j4.2 _ (abF xM)).trans ht,_,_,rfl,rfl⟩;rcases aai.mp hp with rfl|hp;exact⟨_,qL,.str ⟨#[d]⟩ u,by simp[abJ]⟩;rcases aai.mp hp with rfl|hp;exact⟨o',(j4.2 _ (Ne.symm gV)).trans ji,t,Uo,Up⟩;cases hp;simp only[aan,acF,aaB,aai,abN,or_false,not_or,not_false_eq_true,abn,and_true];exact⟨⟨abF xM,abF Uq⟩,gV⟩;intro a ha;simp only[aan,acF,aai,abN,or_false]at ha⊢;rcases ha with rfl|rfl|rfl;exact .inr (aak _);exact .inl (.inl rfl);exact .inl (.inr rfl)
theorem BB{e:Addr}(hd:c.hd=none):Uf c n S e (eB x e it x.cps.size):=λok X A s hA R=>by let oe Hc old r3:=IS (R.cells (e,.obj (m9 it x.cps.size)) (aad _ (.head _)));subst r3;let oi Dz t hc zj:=oy (R.cells (it,.obj (iT x x.cps.size)) (aad _ (.tail _ (.head _))));refine wpAny_pyNext_enum_endD (qU (A:=A.in1) (hA.2.1.trans hd) c.w it x t) Hc ⟨oi,Dz,hc,zj⟩ λh' hs=>⟨rfl,?_⟩;exact Rp.j3 (s:=s) (C:=eB x e it x.cps.size) (C':=[]) R (λb o hb e'=>hs b o (λq=>hb (by simp[q])) e') (λp hp=>nomatch hp) abn (λa ha=>nomatch ha) (aak _)
end
end
section
variable{r:Array ach}
def Cx.bc(c:Cx)(G:Array ach):Cx:={c with G:=G}
def cC(g:Nat)(o:Obj):Prop:=∃nm qn,o.cls= .type "generator"∧o.data= .fields #[.int g 0,nm,qn]∧o.slots= #[]
def isNs(loc:List (Str×Option AV))(o:Obj):Prop:=∃es ep,∃m:Str→Option Value,o.data= .dict es ep∧StrKeys es∧(∀name,nsFind es name=m name)∧∀p∈loc,(m p.1).map ab=p.2
section
variable{c:Cx} {n:Nat} {S:SS} {α β:Type} {E E':EP} {s:aas} {X:Cells}
theorem Cx.Ok.bc(ok:c.Ok){G:Array ach}:(c.bc G).Ok:=⟨ok.eH,ok.eL,ok.eg,ok.eb,ok.kind,ok.fr,ok.above,ok.aC,ok.gl⟩
theorem Rp.toG{G G':Array ach}{gens:Array ach}(R:Rp (c.bc G) S s)(h:gens=G'++r)(hb:AllBare r):Rp (c.bc G') S {s with gens:=gens}:=⟨R.stays,R.ns,R.aC,R.cells,R.fresh,R.nd,R.kL,R.lk,⟨r,h,hb⟩,R.os,R.tk⟩
theorem Rp.Xx(R:Rp (c.bc (Gp.push gs)) S s)(hG:∃r,Gp=c.G++r∧AllBare r)(hb:gs.bare=true):Rp c S s:=by let r' h R_:=ak R.gens;let r r1 hr:=ak hG;subst r1;refine⟨R.stays,R.ns,R.aC,R.cells,R.fresh,R.nd,R.kL,R.lk,⟨r.push gs++r',?_,λy hy=>?_⟩,R.os,R.tk⟩;rw[h];change(c.G++r).push gs++r'=_;rw[Array.push_eq_append,Array.push_eq_append];simp;rcases Array.mem_append.mp hy with hy|hy;exact(hr.push hb) y hy;exact R_ y hy
theorem BC:(Gp.push gs++r)[Gp.size]? =some gs:=by rw[Array.getElem?_append_left (by simp)];simp
theorem BE:(Gp.push gs++r).setIfInBounds Gp.size gs'=Gp.push gs'++r:=by apply Array.ext';simp[Array.toList_setIfInBounds]
theorem Rp.setG(R:Rp (c.bc (Gp.push gs)) S s):Rp (c.bc (Gp.push gs')) S (s.setGen Gp.size gs'):=by let r h hr:=ak R.gens;exact R.toG (r:=r) (by rw[h];exact BE) hr
structure GP where
 c:Cx
 X:Cells
 Gp:Array ach
 N:Nat
 It:Nat→Value→Cells→Prop
 Sf:Nat→SS
namespace GP
abbrev cR(P:GP):Cx:=P.c.bc (P.Gp.push .running)
def R(P:GP):GenEnd:=λk s₀ r s₁=>k=1∧(∃f,r= .ok f∧(f= .next∨f= .ret .none))∧Rp P.cR ((P.Sf P.N).ext P.X) s₁
def Y(P:GP):Protocol:=λk s₀ v s' kap=>∃i D Z',i+k=P.N∧0<k∧P.It i v D∧Rp P.cR ((P.Sf i).ext (D++(Z'++P.X))) s'∧∀km,Rp P.cR ((P.Sf (i+1)).ext (Z'++P.X)) km→kap (.send .none) km
def Goes(P:GP)(A:ads)(i:Nat)(Z:Cells)(gs:ach):Prop:=∀km,Rp P.cR ((P.Sf i).ext (Z++P.X)) km→gs.Goes (model prog P.c.w) A.in1 P.R P.Y (P.N-i+1) (.send .none) km
end GP
theorem EL{s:aas}{β:Type}{f:Unit→Sem β}{Q:β→aas→Prop}{E:Value→aas→Prop}(hh:A.handled=none)(h:∀e h',(∀b o,s.heap.get? b=some o→h'.get? b=some o)→(∃o,h'.get? e=some o∧o.cls= .type "StopIteration")→E (.ref e) {s with heap:=h'}):wpAny M A (newExc (.type "StopIteration") []>>=λe=>raiseNew e>>=f) Q E s:=by show aac;simp only[newExc,newTuple];refine aac (abI ?_ (by size_fits));refine aac (m:=firstArgMember _ _) (ab2 (a:=aa6) (by first|rfl|(simp only[firstArgMember];rfl)) ?_);refine abI ?_ (by size_fits);dsimp only[raiseNew];refine aac (aac (wpAny_handled ?_));rw[hh];exact wpAny_throw (h _ _ (λb o hb=>aap _ (aap _ hb)) ⟨_,aaG _ rfl,rfl⟩)
theorem uC{P:GP}(ok:P.c.Ok)(hh:A.handled=none)(m_:A.depth<adL)(ha:(a,.obj (cC P.Gp.size))∈P.X)(hi:i≤P.N)(R:Rp (P.c.bc (P.Gp.push gs)) ((P.Sf i).ext (Z++P.X)) s) (hg:P.Goes A i Z gs):wpAny (model prog P.c.w) A (pyNext (.ref a)) (λr s'=>(∃v D Z' gs',i<P.N∧r=some v∧P.It i v D∧gs'.bare=true∧Rp (P.c.bc (P.Gp.push gs')) ((P.Sf i).ext (D++(Z'++P.X))) s'∧P.Goes A (i+1) Z' gs')∨(i=P.N∧r=none∧Rp (P.c.bc (P.Gp.push .finished)) ((P.Sf P.N).ext P.X) s')) nD s:=by
 let o ho nm qn hc zj yY:=rB (R.cells (a,.obj (cC P.Gp.size)) (aad _ (aad _ ha)));have Ur:s.heap.IsGen a P.Gp.size:=(eY o nm qn ⟨ho,hc,zj,yY⟩);let r BF hr:=ak R.gens;have LF:s.gens[P.Gp.size]? =some gs:=by rw[BF];exact BC
 have Us:=hg _ (R.setG (gs':=.running));refine aac (wpAny_attempt (adn (name:=aby "__next__") Ur.typeIs slot_gen_next (wpAny_call_entry slot_gen_next Ur.typeIs entry_gen_next ?_ (args_gen_next _))));change wpAny _ A.in1 (Builtin.Generator.genWake (.ref a) (.send .none)) _ _ s;refine aac (abk (wpAny_genNumber Ur (aac (wpAny_genState LF ?_))));cases gs with|running=>exact Us.elim|finished=>exact Us.elim|_=>
  refine aac (wpAny_roomToWake (ok.eH.lim.keeps R.stays) m_ ?_);change wpAny _ A.in1 (.resume P.Gp.size (.send .none) [] _) _ _ s;refine wpAny_resumeQ LF Us (λx s₁ hx=>?_) (λv s₁ gs' hb hv=>?_)
  ·obtain⟨hk,⟨f,rfl,hf⟩,R1⟩:=hx;have Ut:i=P.N:=(by exact aaI hi (ab5 (Nat.succ.inj hk)));rcases hf with rfl|rfl;all_goals
    change wpAny _ A.in1 (newExc (.type "StopIteration") []>>=_) _ _ _
    refine EL hh λe h' Sa ho=>ak ho λo ho hc=>?_
    refine aac (wpAny_isInstance (T:="StopIteration") (b:=true) ⟨o,ho,hc⟩ isSubtype_stop ?_)
    exact aal (.inr ⟨Ut,rfl,(R1.setG (gs':=.finished)).keeps Sa⟩)
  let j D Z' hj hk Uu R1 kap:=je hv;have iE:j=i:=(by exact Nb hj hk);subst iE;refine aal ⟨v,rfl,aal (.inl (p6 v D Z' gs' ⟨by exact Nat.lt_of_sub_pos hk,rfl,Uu,hb,R1.setG,λkm p4=>?_⟩))⟩;have:=kap km p4;rw[show P.N-j+1=(P.N-(j+1)+1)+1 from by exact congrArg Nat.succ (adl hk).symm]at this;exact this
theorem Rp.oh{Zc:Cells}(R:Rp c (S.ext (((L,.obj (isNs loc))::Zc)++X)) s)(ok:c.Ok)(hc:c.comp=false)(nd:(loc.map (λx=>x.1)).Nodup)(kinds:∀x∈loc.map (λx=>x.1),fx.cs.names.lookup x=some .local∧(x==("__debug__":Str))=false):∃m,(∀p∈S.loc,(m p.1).map ab=p.2)∧Rp (c.enter fx m L) (SS.ext ⟨loc,Zc⟩ (S.cells++X)) s:=by
 let m hn hm:=ak R.ns;let o ho es ep mL zj hk hf hl:=yR (R.cells (L,.obj (isNs loc)) (aad _ (.head _)));have e1:(c.enter fx m L).aC=(c.env,m)::c.aC:=by unfold Cx.enter;rw[hc]
 have pm:(L::((c.L::c.aC.map (λx=>x.1.locals))++(Zc++(S.cells++X)).map (λx=>x.1))).Perm (c.L::(c.aC.map (λx=>x.1.locals)++(S.cells++(((L,AO.obj (isNs loc))::Zc)++X)).map (λx=>x.1))):=by rw[List.perm_iff_count];intro a;simp only[aaj,aan,abL,List.count_append];exact GE
 refine⟨m,hm,⟨R.stays,⟨mL,(eY o es ep ⟨ho,zj,hk,hf⟩),hl⟩,λf hf=>?_,λp hp=>?_,λa ha=>?_,?_,nd,kinds,R.gens,R.os,R.tk⟩⟩;rw[e1]at hf;rcases aai.mp hf with rfl|hf;rw[ok.eL];exact hn;exact R.aC f hf;show R.cells p;rcases aax.mp hp with hp|hp;exact aad _ (aaf _ (.tail _ hp));rcases aax.mp hp with hp|hp;exact aaf _ hp;exact aad _ (aad _ hp);rw[e1,aan,ok.eL]at ha;exact R.fresh a (pm.subset ha);rw[e1,aan,ok.eL];exact pm.nodup_iff.mpr R.nd
theorem Rp.xQ{sa:List (Str×Option AV)}{DA:Cells}(ok:c.Ok)(hc:c.comp=false)(kL:(S.loc.map (λx=>x.1)).Nodup)(lk:∀x∈S.loc.map (λx=>x.1),c.env.kindOf x=some .local∧(x==("__debug__":Str))=false)(hm:∀p∈S.loc,(m p.1).map ab=p.2) (R2:Rp (c.enter fx m L) (SS.ext ⟨sa,DA⟩ (S.cells++X)) s'):Rp c (S.ext (((L,.obj (isNs sa))::DA)++X)) s':=by
 have e1:(c.enter fx m L).aC=(c.env,m)::c.aC:=by unfold Cx.enter;rw[hc]
 have hs:=R2.aC;have hf:=R2.fresh;have ki:=R2.nd;rw[e1]at hs hf ki;rw[aan,ok.eL]at hf ki;have pm:(L::((c.L::c.aC.map (λx=>x.1.locals))++(DA++(S.cells++X)).map (λx=>x.1))).Perm (c.L::(c.aC.map (λx=>x.1.locals)++(S.cells++(((L,AO.obj (isNs sa))::DA)++X)).map (λx=>x.1))):=by rw[List.perm_iff_count];intro a;simp only[aaj,aan,abL,List.count_append];exact GE
 obtain⟨mL,⟨o,es,ep,ho,zj,hk,Hd⟩,hl⟩:=R2.ns;refine⟨R2.stays,⟨m,ok.eL▸hs (c.env,m) (.head _),hm⟩,λf hf=>hs f (.tail _ hf),λp hp=>?_,λa ha=>hf a (pm.symm.subset ha),pm.nodup_iff.mp ki,kL,lk,R2.gens,R2.os,R2.tk⟩;rcases aax.mp hp with hp|hp;exact R2.cells p (aad _ (aaf _ hp));rcases aax.mp hp with hp|hp;rcases aai.mp hp with rfl|hp;exact⟨o,ho,es,ep,mL,zj,hk,Hd,hl⟩;exact R2.cells p (aaf _ hp);exact R2.cells p (aad _ (aad _ hp))
end
end
section
variable{Q:Unit→aas→Prop}
section
variable{c:Cx} {n:Nat} {S:SS} {α β:Type} {E E':EP} {s:aas} {X:Cells}
theorem ie{c:Cx}{X:Cells}{x:Value}(h:EX c X hZ x s'):False:=by obtain⟨_,_,_,_,_,_,h⟩:=h;exact h
theorem BG{id:Str}{pos:Pos}(ok:c.Ok)(hA:c.In A n)(R:Rp c (S.ext X) s)(hs:args.all aV=true)(h:EE c n S (.Name id p) (λf S1=>kN c.K f∧EA c n S1 args (λas S2=>∀s2 v vs,Rp c (S2.ext X) s2→ab v=f→vs.map ab=as→wpAny (model prog c.w) A (call v vs) Qr nD s2) hZ) hZ):wpAny (model prog c.w) A (eval (.Call (.Name id p) args [] pos) c.env) Qr nD s:=by refine wpAny_Call_NameR (aau (h.run ok X A s hA R) (λf s1 Uv=>?_) λzz zz x=>ie x);obtain⟨S1,R1,k1,k2⟩:=Uv;have me:=bF (pos:=pos) (env:=c.env) hs;refine callWith_of (P:=λh=>c.K.In h) (by rw[me];rfl:((backTo pos (aci args c.env)).any (λx=>x.1)||([]:List (Option Str×Sem Value)).any (λx=>x.1.isNone))=false) (λhh X=>?_) (bV me (aau ((k2 pos).run ok _ A s1 hA R1) (λvs s2 Uw=>by obtain⟨S2,R2,k⟩:=Uw;exact⟨fQ ok R2,k s2 f vs R2 rfl rfl⟩) λzz zz x=>ie x));cases f with|ref a=>exact keeps_K k1 hh X|builtin i=>exact⟨.machine,.inr (.inl rfl),ace rfl⟩|type i=>exact⟨.machine,.inr (.inl rfl),ace rfl⟩|_=>exact k1.elim
def BH(ps:List (AV×AV))(i:Nat)(v:Value)(D:Cells):Prop:=∃t a b,ps[i]? =some (a,b)∧v= .ref t∧D=[(t,.tup [a,b])]
abbrev kW(c:Cx)(a:Addr)(Gp:Array ach)(X:Cells)(ps:List (AV×AV))(Sf:Nat→SS):GP:=⟨c,(a,.obj (cC Gp.size))::X,Gp,ps.length,BH ps,Sf⟩
def Ux(c:Cx)(n:Nat)(Sf:Nat→SS)(f:AV)(as:List AV)(ps:List (AV×AV)):Prop:=∀(v:Value) (vs:List Value),ab v=f→vs.map ab=as→c.Ok→∀X A s,c.In A n→Rp c ((Sf 0).ext X) s→wpAny (model prog c.w) A (call v vs) (λw s'=>∃a Gp gs Z,w= .ref a∧gs.bare=true∧(∃r,Gp=c.G++r∧AllBare r)∧Rp (c.bc (Gp.push gs)) ((Sf 0).ext (Z++(kW c a Gp X ps Sf).X)) s'∧(kW c a Gp X ps Sf).Goes A 0 Z gs) nD s
theorem sd{l:List Expr}{b:Addr}{g:Nat}(hg:s.heap.IsGen a g)(hQ:Q () s):wpAny (model prog w) A (letOwnedTupleGo (.Tuple l k pp) (.ref a) (.ref b)) Q nD s:=by
 let o nm qn ho hc hd z6:=eN hg;refine aac (wpAny_load ho ?_);rw[hc,hd];change wpAny _ A (if _ then _ else _) _ _ _;with_reducible refine qI (by simp) ?_
 exact aal hQ
theorem wz{id:Str}{pos:Pos}{kt}{Q:FL→SS→Prop}{ps:List (AV×AV)}(Sf:Nat→SS)(J:Nat→Prop)(h0:J 0)(h:EE c n S (.Name id pn) (λf S1=>kN c.K f∧EA c n S1 args (λas S2=>S2=Sf 0∧Ux c n Sf f as ps) hZ) hZ)(step:∀G' i a b,ps[i]? =some (a,b)→J i→∃l',ib [x,y] [a,b] (Sf i).loc l'∧EB (c.bc G') n ⟨l',(Sf i).cells⟩ body (au (λS'=>S'=Sf (i+1)∧J (i+1)) Q) hZ)(fin:J ps.length→EB c n (Sf ps.length) orelse Q hZ)(hs:autoParam (args.all aV=true) apR) (hd:autoParam (c.hd=none) apA) (hc:autoParam (c.comp=false) apA):ES c n S (.For (.Tuple [.Name x px,.Name y py] kt pt) (.Call (.Name id pn) args [] pos) body orelse p) Q E:=.i λok X A s hA R=>by
 refine wpAny_For (tP (BG ok hA R hs (h.az λf S1 h8=>eA h8 λk1 k2=>⟨k1,λpos=>(k2 pos).az λvs S2 h8 s2 v Xy R2 hv bx=>eA h8 λe k=>?_⟩))) (λzz=>rfl);subst e;refine aau (k v Xy hv bx ok X A s2 hA R2) (λw s3 Jj=>?_) λzz zz z=>z;let a Gp gs Z e hb hG R3 go:=lY Jj;subst e;have Xz:(a,AO.obj (cC Gp.size))∈(kW c a Gp X ps Sf).X:=.head _;have gen:∀{S:SS} {Z:Cells} {gs:ach} {s:aas},Rp (c.bc (Gp.push gs)) (S.ext (Z++(kW c a Gp X ps Sf).X)) s→s.heap.IsGen a Gp.size:=λR=>(by let o ho nm qn r:=t8 (R.cells _ (aad _ (aad _ Xz)));exact eY o nm qn ⟨ho,r⟩);have bk:∀{S:SS} {Z:Cells} {gs:ach} {s:aas},gs.bare=true→Rp (c.bc (Gp.push gs)) (S.ext (Z++(kW c a Gp X ps Sf).X)) s→Rp c (S.ext X) s:=λhb R=>(R.dH (X:=(kW c a Gp X ps Sf).X).dH (Z:=[(a,.obj (cC Gp.size))]) (X:=X)).Xx hG hb;show wpAny_pyIter_gen (gen R3);refine codeAny_forLoop_any (λm s=>∃i gs Z,m=ps.length-i∧i≤ps.length∧gs.bare=true∧Rp (c.bc (Gp.push gs)) ((Sf i).ext (Z++(kW c a Gp X ps Sf).X)) s∧(kW c a Gp X ps Sf).Goes A i Z gs∧J i) ?_ ps.length (eY 0 gs Z ⟨rfl,aaD _,hb,R3,go,h0⟩);intro m s Uy;let i gs Z hm hi hb R1 go hJ:=lX Uy;refine tP (aau (uC (P:=kW c a Gp X ps Sf) ok (hA.2.1.trans hd:A.handled=none) (aaC (aa5 _ _) hA.2.2.1) Xz hi R1 go) (λr s4 hr=>?_) λzz zz z=>z);rcases hr with⟨v,D,Z',gs',dc,rfl,⟨t,a',b',hp,rfl,rfl⟩,BA,R4,go'⟩|⟨rfl,rfl,R4⟩
 ·have Pa:Rp (c.bc (Gp.push gs')) ((SS.mk (Sf i).loc ((t,.tup [a',b'])::(Sf i).cells)).ext (Z'++(kW c a Gp X ps Sf).X)) s4:=R4.perm (cells':=(t,.tup [a',b'])::(Sf i).cells++(Z'++(kW c a Gp X ps Sf).X)) (by rw[aaT];exact aaS.symm);let l' sl eb:=ak (step (Gp.push gs') i a' b' hp hJ);refine tP (sd (gen Pa) ?_);refine aau ((r_ (c:=c.bc (Gp.push gs')) (n:=n) (S:=⟨(Sf i).loc,(t,.tup [a',b'])::(Sf i).cells⟩) (E:=hZ) (Q:=λS6=>S6=⟨l',(t,.tup [a',b'])::(Sf i).cells⟩) hd (.head _) sl rfl (.ref t) rfl).run ok.bc _ A s4 hA Pa) (λzz s6 Jk=>?_) λzz zz z=>(ie z).elim;obtain⟨S6,R6,e6⟩:=Jk;subst e6;have R7:Rp (c.bc (Gp.push gs')) ((SS.mk l' (Sf i).cells).ext (Z'++(kW c a Gp X ps Sf).X)) s6:=R6.drop (cells':=(Sf i).cells++(Z'++(kW c a Gp X ps Sf).X)) (acj ..);refine aau (eb.run ok.bc _ A s6 hA R7) (λf s8 Uz=>?_) λzz zz z=>(ie z).elim;obtain⟨S8,R8,k8⟩:=Uz;have o5:i<ps.length:=dc;cases f with|next=>exact⟨_,by exact DO hm o5,i+1,gs',Z',rfl,by exact o5,BA,(show S8=Sf (i+1)∧J (i+1)from k8).1▸R8,go',(show S8=Sf (i+1)∧J (i+1)from k8).2⟩|cont=>exact⟨_,by exact DO hm o5,i+1,gs',Z',rfl,by exact o5,BA,(show S8=Sf (i+1)∧J (i+1)from k8).1▸R8,go',(show S8=Sf (i+1)∧J (i+1)from k8).2⟩|brk=>exact⟨S8,bk BA R8,k8⟩|ret v=>exact⟨S8,bk BA R8,k8⟩
 have R5:Rp c ((Sf ps.length).ext X) s4:=bk (Z:=[]) rfl R4;exact aau ((fin hJ).run ok X A _ hA R5) (λf s3 UA=>by obtain⟨S3,R3,k3⟩:=UA;exact⟨S3,R3,k3⟩) λzz zz z=>(ie z).elim
end
end
section
variable{t:Expr} {Q:Bool→SS→Prop} {b o:List Stmt} {K':Result→Sem Fin}
section
variable{c:Cx} {n:Nat} {S:SS} {α β:Type} {E E':EP} {s:aas} {X:Cells}
variable{M:Model} {A:ads} {R:GenEnd} {Y:Protocol} {k:Nat} {s₀:aas} {cd:Code} {fs:List Frame} {env:Env} {K:Flow→Sem Fin} {H:Value→Sem Fin} {gd:Bool→Bool} {lv:List Value→List Value}
theorem Pb{t:Sem α}{K:α→Sem Fin}{Q:α→SS→Prop}(ok:c.Ok)(hA:c.In (A.over cd fs) n)(R1:Rp c (S.ext X) s)(h:W c n S t (λv S'=>Q v S') hZ)(hk:∀v s' S',Rp c (S'.ext X) s'→Q v S'→Seg (model prog c.w) A R Y k s₀ cd (K v) fs s'):Seg (model prog c.w) A R Y k s₀ cd (t.wrap K H gd lv) fs s:=seg_wrap (aau (h.run ok X _ s hA R1) (λv s' UB=>by obtain⟨S',R',q⟩:=UB;exact hk v s' S' R' q) λx s' z=>(ie z).elim)
theorem sf(t:Expr)(b o:List Stmt)(p:Pos):exec (.If t b o p) env=(do standAt p;if←isTrue t env (eval t env)then execs b env else execs o env):=rfl
theorem Jl(h:wpAny M (A.over cd fs) (isTrue t env (eval t env)) (λx s'=>Seg M A R Y k s₀ cd ((if x=true then execs b env else execs o env).wrap K H gd lv) fs s') nD s):Seg M A R Y k s₀ cd ((exec (.If t b o p) env).wrap K H gd lv) fs s:=by rw[sf];refine aa_ (abu (aa_ (tP (aau h (λx s' hx=>?_) λzz zz z=>z))));exact hx
theorem pg(ok:c.Ok)(hA:c.In (A.over cd fs) n)(R1:Rp c (S.ext X) s)(h:ET c n S t Q hZ)(hk:∀x s' S',Rp c (S'.ext X) s'→Q x S'→Seg (model prog c.w) A R Y k s₀ cd ((if x=true then execs b c.env else execs o c.env).wrap K H gd lv) fs s'):Seg (model prog c.w) A R Y k s₀ cd ((exec (.If t b o p) c.env).wrap K H gd lv) fs s:=Jl (aau (h.run ok X _ s hA R1) (λv s' UC=>by obtain⟨S',R',q⟩:=UC;exact hk v s' S' R' q) λx s' z=>ie z)
theorem EM{pos:Pos}(hs:∀x,aa4 iter env x=pure x)
  (h:wpAny M (A.over cd fs) (eval iter env) (λx s1=>wpAny M (A.over cd fs) (pyIter x) (λit s2=>∀p,Seg M A R Y k s₀ (.forLoop target it body orelse env) (M.den (.forLoop target it body orelse env))
   (.ret (λr=>((match r with| .ok f=>(.pure f:Sem Flow)| .error e=>.raise e).onRaise λ(x:Value)=>do
    if(←field x 1)==aa6 then unsupported "frame.own-activation:exception-without-traceback"
    setFlight x env.frame).wrap K H gd lv) none (gd false) (lv []) cd p []::fs) s2) nD s1) nD s):
  Seg M A R Y k s₀ cd ((exec (.For target iter body orelse pos) env).wrap K H gd lv) fs s:=by
 rw[exec_For]
 refine aa_ (abu (aa_ ?_))
 refine tP (aau h (λx s1 h1=>aa_ (ab2 (hs x) ?_)) λzz zz z=>z)
 refine aa_ (abu (aa_ (abk (tP (aau h1 (λit s2 h2=>?_) λzz zz z=>z)))))
 exact seg_call h2
theorem nb{it:Value}
  (h:wpAny (model prog w) (A.over (.forLoop target it body orelse env) fs) (pyNext it) (λr s1=>match r with
   |none=>Seg (model prog w) A R Y k s₀ (.block orelse env) ((model prog w).den (.block orelse env)) fs s1
   |some v=>wpAny (model prog w) (A.over (.forLoop target it body orelse env) fs) (letOwnedTupleGo target it v) (λzz s2=>wpAny (model prog w) (A.over (.forLoop target it body orelse env) fs) (assign target env v) (λzz s3=>
     Seg (model prog w) A R Y k s₀ (.forLoop target it body orelse env) ((execs body env).wrap (λf=>match f with
      | .next| .cont=>.pure (.again (.forLoop target it body orelse env))
      | .brk=>.pure (.done .next)
      | .ret v=>.pure (.done (.ret v))) (λe=>(do noteFrame e env;theTreesLotGoes e:Sem Unit).wrap (λzz=>.raise e) .raise id id) id id) fs s3) nD s2) nD s1) nD s):
  Seg (model prog w) A R Y k s₀ (.forLoop target it body orelse env) ((model prog w).den (.forLoop target it body orelse env)) fs s:=by
 change Seg _ A R Y k s₀ _ ((forTurn target it body orelse env).onRaise (λx=>do noteFrame x env;theTreesLotGoes x)) fs s
 unfold forTurn
 rw[Sem.onRaise_eq_wrap]
 refine aa_ (abu (aa_ (wpAny_onRaise (tP (aau h (λr s1 h1=>?_) λzz zz z=>z)))))
 cases r with
 |none=>exact seg_again rfl h1
 |some v=>
  refine aa_ (tP (aau h1 (λzz s2 h2=>aa_ (tP (aau h2 (λzz s3 h3=>?_) λzz zz z=>z))) λzz zz z=>z))
  rw[Sem.bind_eq_wrap',Sem.wrap_wrap]
  rw[Sem.wrap_congr (execs body env) _ _ (K':=λf=>match f with
      | .next| .cont=>.pure (.again (.forLoop target it body orelse env))
      | .brk=>.pure (.done .next)
      | .ret v=>.pure (.done (.ret v))) (H':=(λe=>(do noteFrame e env;theTreesLotGoes e:Sem Unit).wrap (λzz=>.raise e) .raise id id))
    (λf=>by cases f<;>rfl)
    (λe=>by first|exact Sem.bind_eq_wrap _ _|(change(do noteFrame e env;theTreesLotGoes e:Sem Unit).bind (λzz=>.raise e)=_;rw[Sem.bind_eq_wrap]))]
  exact h3
theorem qd{h g l c₁ p₁ kp}(hk:Seg (model prog w) A R Y k s₀ c₁ (K' (.ok .next)) fs s):Seg (model prog w) A R Y k s₀ (.block [] env) ((model prog w).den (.block [] env)) (.ret K' h g l c₁ p₁ kp::fs) s:=
 seg_leaf (.ok .next) hk
end
end
section
structure Jm(K:Frag)(fx:Fx)(fd:aaP)(body:List Stmt):Prop where
 obj:∃oc od osl,K.lookup fx.a=some ⟨oc,od,.func fd,osl⟩
 code:codeIn K fd.code fd.qualname=true
 qual:fd.qualname=fx.cn
 cs:fd.scope=fx.cs
 cd:fd.code=fx.cd
 glob:fd.globals=ab9
 rN:fd.closure=[]
 v9:fd.builtins=abg
 body:fd.body= .stmts body
 co:fd.scope.isCoroutine=false
 gen:fd.scope.isGenerator=true
 kind:fd.scope.kind= .function
 cells:∀x∈fd.scope.names,x.2≠.cell
abbrev be(fx:Fx)(L:Addr):Env:=envX fx.cn fx.cs L fx.a fx.cd []
section
variable{c:Cx} {n:Nat} {S:SS} {s:aas} {X:Cells}
theorem Rp.ext2{b:Addr}{x y:AO}{tk:Nat}(R:Rp c (S.ext X) s)(k:∀b o,s.heap.get? b=some o→h'.get? b=some o){o1 o2:Obj}(ha:s.heap.objs.size≤a)(hb:s.heap.objs.size≤b)(tQ:a≠b)(h1:h'.get? a=some o1) (c1:p0 c.w x o1) (h2:h'.get? b=some o2) (c2:p0 c.w y o2) (iS:s.toks≤tk):Rp c (S.ext ((a,x)::(b,y)::X)) {s with heap:=h',toks:=tk}:=R.j3 (C:=[]) (C':=[(a,x),(b,y)]) (λb o zz e=>k b o e) (λp hp=>by rcases aai.mp hp with rfl|hp;exact⟨_,h1,c1⟩;rcases aai.mp hp with rfl|hp;exact⟨_,h2,c2⟩;cases hp) (by simp[tQ]) (λz hz=>by simp only[aan,acF,aai,abN,or_false]at hz;rcases hz with rfl|rfl;exact .inr ha;exact .inr hb) iS
theorem BI{K0:aao→Frag}{fd:aao→aaP}(hf:∀P,Jm (K0 P) fx (fd P) body)(hb:∀(s:aas) (P:aao),(K0 P).In s.heap→∀pos kws,pos.map ab=as→kws.map (λp=>(p.1,ab p.2))=[]→∃binds,ac9 s (fd P) ⟨pos,kws⟩ binds∧e7 fx binds loc)(hK:c.K=K0 c.w.params) (ok:c.Ok) (hA:c.In A (n+1)) (R:Rp c (S.ext X) s) {vs:List Value} (bx:vs.map ab=as):wpAny (model prog c.w) A (call (.ref fx.a) vs) (λw s'=>∃a L,w= .ref a∧c.base.objs.size≤L∧Rp (c.bc (s.gens.push (.fresh (.func body (be fx L))))) (S.ext ((L,.obj (isNs loc))::(a,.obj (cC s.gens.size))::X)) s') nD s:=by
 have F:=hf c.w.params;have fg:(K0 c.w.params).In s.heap:=λa o e=>R.stays a o (ok.eH.fg a o (hK▸e));let binds hB hl:=ak (hb s c.w.params fg vs [] bx rfl);let oc od osl ho:=vT F.obj;let h1 h2 h3 h4:=jd hA;have kj:c.base.objs.size≤s.heap.objs.size:=aaN (aaC ok.above (R.lt _ (.head _)));refine abH (adu (R:=λr s'=>match r with| .ok (.ret w)=>∃a L,w= .ref a∧c.base.objs.size≤L∧Rp (c.bc (s.gens.push (.fresh (.func body (be fx L))))) (S.ext ((L,.obj (isNs loc))::(a,.obj (cC s.gens.size))::X)) s'|_=>False) ?_ λr s' h=>by
  cases r with
  |ok f=>cases f with
   |ret v=>exact h
   |next=>exact h.elim
   |brk=>exact h.elim
   |cont=>exact h.elim
  |error x=>exact h.elim)
 refine codeAny_call_generator (fd:=fd c.w.params) (body:=body) (by exact Lw h3) (fg _ _ ho) rfl F.co F.gen F.body (codeRec_of fg F.code) (hB _ _ _ _ ?_);refine wpAny_newFunctionEnv F.cells (λx hx=>F.cs▸hl.kb x hx) (λh' Bi rZ=>?_) F.kind;have keep:∀b o,s.heap.get? b=some o→h'.get? b=some o:=λb o e=>rZ.extBut b o (abf (aa3 e)) (aap _ e);have hz:h'.objs.size=s.heap.objs.size+1:=by rw[rZ.1,acH]
 refine⟨(ok.eH.lim.keeps R.stays).keeps keep,?_⟩;have eqE:newEnv (fd c.w.params).scope s.heap.objs.size (fd c.w.params).globals (fd c.w.params).closure ((fd c.w.params).qualname++".<locals>.") (some fx.a) (fd c.w.params).code none (fd c.w.params).builtins=be fx s.heap.objs.size:=by unfold newEnv;simp only[F.cs,F.glob,F.rN,F.qual,F.cd,F.v9]
 refine ba h'.objs.size s.heap.objs.size ⟨rfl,kj,?_⟩;rw[eqE];let o es ep ji rL Hf YX:=eN Bi;have R2:Rp c (S.ext ((s.heap.objs.size,.obj (isNs loc))::(h'.objs.size,.obj (cC s.gens.size))::X)) {s with heap:=h'.push {cls:=.type "generator",data:=.fields #[.int s.gens.size 0,.str (fd c.w.params).name (s.toks+binds.length),.str (fd c.w.params).qualname (s.toks+binds.length+1)]},toks:=s.toks+binds.length+1+1}:=R.ext2 (λb o e=>aap _ (keep b o e)) (aak _) (hz▸aa2 _) (hz▸(Nat.succ_ne_self _).symm) (aap _ ji) (eY es ep _ ⟨rL,Hf,YX,hl.vals⟩) (aaG _ rfl) (ba _ _ ⟨rfl,rfl,rfl⟩) (aab (aa5 _ _) (aab (aa2 _) (aa2 _)));let r hg hr:=ak R.gens;exact Rp.toG (c:=c) (G:=c.G) (G':=s.gens.push _) (r:= #[]) R2 (by simp) (λy hy=>by simp at hy)
end
end
section
variable{P:Nat→Obj→Prop} {b:Prop}
section
variable{c:Cx} {n:Nat} {S:SS} {E:EP} {s:aas} {X:Cells}
theorem mq{Q:FL→SS→Prop}(h:EE c n S iter (λv S1=>∃(xs:List AV) (P:Nat→Obj→Prop) (Inv:Nat→SS→Prop),(∀u,ab u=v→wj c n S1 u P)∧Inv 0 S1∧(∀i y S1,xs[i]? =some y→Inv i S1→xq c n S1 P i y∧AS c n S1 (.Name x px) y (λS2=>EB c n S2 body (au (Inv (i+1)) Q) E) hZ)∧(∀S1,Inv xs.length S1→xr c n S1 P xs.length∧EB c n S1 orelse Q E)) E)(hs:autoParam (∀x,aa4 iter c.env x=pure x) apR) (hc:autoParam (c.comp=false) apA):ES c n S (.For (.Name x px) iter body orelse p) Q E:=.i λok X A s hA R=>by refine wpAny_For (aau (h.run ok X A s hA R) (λv s1 h8=>h8.el λS1 R1 h7=>eN h7 λxs P Inv hi hinv step fin=>hi v rfl ok X A s1 _ _ hA R1 λh₁ it o tk hk hit ho hP iS=>?_) λzz zz z=>z) hs;have exc:∀i,∀x s',EX c ((it,.obj (P i))::X) E x s'→notedBy (model prog c.w) A c.env (cameBackBy (model prog c.w) A c.env (EX c X E)) x s':=λi x s' z=>jq (Z:=[_]) ok hc hA z;refine codeAny_forLoop (λm s=>∃i S1,m=xs.length-i∧i≤xs.length∧Rp c (S1.ext ((it,.obj (P i))::X)) s∧Inv i S1) (λm s Jn=>?_) xs.length (ba 0 S1 ⟨rfl,aaD _,((R1.alloc (tk:=tk) hk hit ho (ao:=.obj (P 0)) hP iS).perm (cells':=S1.cells++(it,.obj (P 0))::X) aaS),hinv⟩);let i S1 hm hi R1 i1:=lV Jn;let o ho hP:=ak (R1.cells (it,.obj (P i)) (aad _ (.head _)));cases hx:xs[i]? with|none=>have:xs.length=i:=(by have:=ac2.mp hx;exact aaI this hi);subst this;let f1 f2:=eA (fin S1 i1);let h₂ tk₂ j4 iS:=f1 ok _ A s it o _ _ hA R1 ho hP;have R2:=R1.za (h':=h₂) (tk:=tk₂) (λb o' hb e=>j4 b o' hb e) iS;exact aau (f2.run ok X A _ hA R2) (λzz zz z=>z) λzz zz z=>jq (Z:=[]) ok hc hA z|some y=>let g1 g2:=eA (step i y S1 hx i1);have dc:i<xs.length:=(by have:=(aav.mp hx).1;exact this);let v h₂ o' tk₂ hv j4 Pc Pd iS:=g1 ok _ A s it o _ _ hA R1 ho hP;have R2:Rp c (S1.ext ((it,.obj (P (i+1)))::X)) {s with heap:=h₂,toks:=tk₂}:=R1.upd (x:=.obj (P i)) (y:=.obj (P (i+1))) aI.mid j4 Pc Pd iS;refine aau ((g2 v hv).run ok _ A _ hA R2) (λzz s3 Jo=>?_) λzz zz z=>zg z;obtain⟨S3,R3,g3⟩:=Jo;refine aau (g3.run ok _ A s3 hA R3) (λf s4 Jp=>?_) (exc _);obtain⟨S4,R4,k4⟩:=Jp;have drop:Rp c (S4.ext X) s4:=R4.za (h':=s4.heap) (tk:=s4.toks) λzz zz zz z=>z;cases f with|next=>exact⟨_,by exact DO hm dc,i+1,S4,rfl,by exact dc,R4,k4⟩|cont=>exact⟨_,by exact DO hm dc,i+1,S4,rfl,by exact dc,R4,k4⟩|brk=>exact⟨S4,drop,k4⟩|ret v=>exact⟨S4,drop,k4⟩
theorem mr{Q:FL→SS→Prop}(Inv:Nat→SS→Prop)(h:EE c n S iter (λv S1=>(∀u,ab u=v→wj c n S1 u P)∧Inv 0 S1) E)(step:∀i y S1,xs[i]? =some y→Inv i S1→xq c n S1 P i y∧∃l',dA x y S1.loc l'∧EB c n ⟨l',S1.cells⟩ body (au (Inv (i+1)) Q) E)(fin:∀S1,Inv xs.length S1→xr c n S1 P xs.length∧EB c n S1 orelse Q E)(hs:autoParam (∀x,aa4 iter c.env x=pure x) apR) (hc:autoParam (c.comp=false) apA):ES c n S (.For (.Name x px) iter body orelse p) Q E:=mq (h.az λv S1 k=>(eY xs P Inv ⟨k.1,k.2,λi y S1 hx hi=>AT (step i y S1 hx hi) λg1 l' g2 g3=>⟨g1,cA g2 g3⟩,fin⟩)) hs hc
end
inductive At{α:Type}(p:α):List α→Prop
 |head:∀{r},At p (p::r)
 |tail:∀{q r},At p r→At p (q::r)
theorem At.YY{p:α}:∀{l:List α} (i:Nat),l[i]? =some p→At p l
 |a::l,0,h=>by cases h;exact .head
 |a::l,i+1,h=>.tail (At.YY i h)
theorem At.mem{p:α}{l:List α}(h:At p l):p∈l:=by induction h with|head=>exact .head _|tail _ ih=>exact .tail _ ih
theorem bA{p:Prop}[Decidable p]{a:Prop}(hp:p)(h:a):if p then a else b:=by rw[if_pos hp];exact h
theorem aY{p:Prop}[Decidable p]{a:Prop}(hp:¬p)(h:b):if p then a else b:=by rw[if_neg hp];exact h
section
variable{c:Cx} {n:Nat} {S:SS} {E:EP}
theorem dM{v:AV}(hm:At (x,some v) S.loc)(h:Q v S):EE c n S (.Name x p) Q E:=Bg hm.mem h
theorem ph{a:AV}(aZ:c.fx=fx)(hm:At (x,v) fx.gl)(hv:ab v=a)(h:Q a S):EE c n S (.Name x p) Q E:=OY (v:=v) (by rw[aZ];exact hm.mem) (hv▸h)
theorem ms(aZ:c.fx=fx)(hm:At (x,.ref a) fx.gl)(h:Q (.ref a) S):EE c n S (.Name x p) Q E:=ph aZ hm rfl h
theorem Jq{a:String}(aZ:c.fx=fx)(hm:At (x,.type a) fx.gl)(h:Q (.type a) S):EE c n S (.Name x p) Q E:=ph aZ hm rfl h
theorem Jr{a:String}(aZ:c.fx=fx)(hm:At (x,.builtin a) fx.gl)(h:Q (.bi a) S):EE c n S (.Name x p) Q E:=ph aZ hm rfl h
theorem Js{i:Int}{t:Tok}(aZ:c.fx=fx)(hm:At (x,.int i t) fx.gl)(h:Q (.int i) S):EE c n S (.Name x p) Q E:=ph aZ hm rfl h
theorem fO{K0:aao→Frag}(hK:c.K=K0 c.w.params)(h:∀P,keepIn (K0 P) (.ref a)=true):kN c.K (.ref a):=by rw[hK];exact h _
theorem uD{Q:FL→SS→Prop}(Inv:Nat→SS→Prop)(h:EE c n S iter (λv S1=>v= .ref l∧(l,.list xs)∈S1.cells∧Inv 0 S1) E)(hl:∀i S1,Inv i S1→(l,.list xs)∈S1.cells)(step:∀i y S1,xs[i]? =some y→Inv i S1→∃l',dA x y S1.loc l'∧EB c n ⟨l',S1.cells⟩ body (au (Inv (i+1)) Q) E)(fin:∀S1,Inv xs.length S1→EB c n S1 orelse Q E)(hd:autoParam (c.hd=none) apA) (hc:autoParam (c.comp=false) apA) (hs:autoParam (∀x,aa4 iter c.env x=pure x) apR):ES c n S (.For (.Name x px) iter body orelse p) Q E:=mr (xs:=xs) (P:=aQ l) Inv (h.az λv S1 h8=>pZ h8 λh1 h2 h3=>⟨λu hu=>cJ h2 (hu.trans h1),h3⟩) (λi y S1 hx hi=>⟨cM (hl _ _ hi) hx,step i y S1 hx hi⟩) (λS1 hi=>⟨cN (hl _ _ hi) hd,fin S1 hi⟩) hs hc
theorem wA{Q:FL→SS→Prop}(Inv:Nat→SS→Prop)(h:EE c n S iter (λv S1=>v= .ref l∧(l,.tup xs)∈S1.cells∧Inv 0 S1) E)(hl:∀i S1,Inv i S1→(l,.tup xs)∈S1.cells)(step:∀i y S1,xs[i]? =some y→Inv i S1→∃l',dA x y S1.loc l'∧EB c n ⟨l',S1.cells⟩ body (au (Inv (i+1)) Q) E)(fin:∀S1,Inv xs.length S1→EB c n S1 orelse Q E)(hd:autoParam (c.hd=none) apA) (hc:autoParam (c.comp=false) apA) (hs:autoParam (∀x,aa4 iter c.env x=pure x) apR):ES c n S (.For (.Name x px) iter body orelse p) Q E:=mr (xs:=xs) (P:=xt l) Inv (h.az λv S1 h8=>pZ h8 λh1 h2 h3=>⟨λu hu=>Ep h2 (hu.trans h1),h3⟩) (λi y S1 hx hi=>⟨Er (hl _ _ hi) hx,step i y S1 hx hi⟩) (λS1 hi=>⟨Es (hl _ _ hi) hd,fin S1 hi⟩) hs hc
theorem wB{Q:FL→SS→Prop}(Inv:Nat→SS→Prop)(h:EE c n S iter (λv S1=>v= .ref d∧(d,.map es ep)∈S1.cells∧Inv 0 S1) E)(hl:∀i S1,Inv i S1→(d,.map es ep)∈S1.cells)(step:∀i k v S1,es[i]? =some (k,v)→Inv i S1→∃l',dA x (.str k) S1.loc l'∧EB c n ⟨l',S1.cells⟩ body (au (Inv (i+1)) Q) E)(fin:∀S1,Inv es.length S1→EB c n S1 orelse Q E)(hd:autoParam (c.hd=none) apA) (hc:autoParam (c.comp=false) apA) (hs:autoParam (∀x,aa4 iter c.env x=pure x) apR):ES c n S (.For (.Name x px) iter body orelse p) Q E:=mr (xs:=es.map λp=>AV.str p.1) (P:=ml d es.length ep) Inv (h.az λv S1 h8=>pZ h8 λh1 h2 h3=>⟨λu hu=>xu h2 (hu.trans h1),h3⟩) (λi y S1 hx hi=>⟨xw (hl _ _ hi) hx,by rw[aag]at hx;let q hq r2:=ak (aaq.mp hx);subst r2;exact step i q.1 q.2 S1 hq hi⟩) (λS1 hi=>⟨by have:=xy (c:=c) (n:=n) (S:=S1) (hl _ _ hi) hd;exact this,fin S1 (by rw[aaa]at hi;exact hi)⟩) hs hc
end
end
section
def Cx.gx(c:Cx)(scope:Scope)(fxg:Fx)(code:Value)(m:Str→Option Value)(C:Addr):Cx:={c with aC:=(c.env,m)::c.aC,L:=C,fx:=fxg,env:=genEnv scope [] C code abg c.env,comp:=false}
def XA(ys:List AV)(i:Nat)(v:Value)(D:Cells):Prop:=D=[]∧ys[i]? =some (ab v)
section
variable{c:Cx} {n:Nat} {S:SS} {s:aas} {X:Cells} {scope:Scope} {fxg:Fx} {code:Value} {m:Str→Option Value} {C:Addr}
theorem Cx.mu(hc:c.comp=false):(c.enter fxg m C).aC=(c.env,m)::c.aC:=by unfold Cx.enter;rw[hc]
theorem Cx.Pe{K0:aao→Frag}(ok:c.Ok)(hc:c.comp=false)(hK:c.K=K0 c.w.params)(gl:∀P,bH (K0 P) fxg)(hs:fxg.cs=scope)(hk:scope.kind= .function)(hL:c.base.objs.size≤C):(c.gx scope fxg code m C).Ok:=by have o:=Cx.jh (m:=m) (L:=C) ok hK gl (hs▸hk) hL;exact⟨o.eH,rfl,ok.eg,rfl,hk,λzz=>rfl,o.above,λf hf=>o.aC f (by rw[Cx.mu hc];exact hf),λp hp=>by let h1 h2 h3:=pZ (o.gl p hp);exact⟨by rw[←hs];exact h1,h2,h3⟩⟩
theorem Rp.UD(hc:c.comp=false)(hs:fxg.cs=scope)(R:Rp (c.enter fxg m C) S s):Rp (c.gx scope fxg code m C) S s:=by have e:=Cx.mu (fxg:=fxg) (m:=m) (C:=C) hc;exact⟨R.stays,R.ns,λf hf=>R.aC f (by rw[e];exact hf),R.cells,λa ha=>R.fresh a (by rw[e];exact ha),by have:=R.nd;rw[e]at this;exact this,R.kL,λx hx=>by rw[←hs];exact R.lk x hx,R.gens,R.os,R.tk⟩
theorem Rp.UE(hc:c.comp=false)(hs:fxg.cs=scope)(R:Rp (c.gx scope fxg code m C) S s):Rp (c.enter fxg m C) S s:=by have e:=Cx.mu (fxg:=fxg) (m:=m) (C:=C) hc;exact⟨R.stays,R.ns,λf hf=>R.aC f (by rw[e]at hf;exact hf),R.cells,λa ha=>R.fresh a (by rw[e]at ha;exact ha),by rw[e];exact R.nd,R.kL,λx hx=>by have:=R.lk x hx;rw[←hs]at this;exact this,R.gens,R.os,R.tk⟩
theorem In.gx(hc:c.comp=false){G:Array ach}{gs:List Comprehension}{pos:Pos}{it:Value}(hA:c.In A (n+1)):((c.bc G).gx scope fxg code m C).In (A.in1.over (.compLoop (.GeneratorExp elt gs scope pos) 0 it acc (genEnv scope [] C code abg c.env)) []) n:=by let h1 h2 h3 h4:=jd hA;refine⟨?_,h2,?_,?_⟩;change pushEnvs [genEnv scope [] C code abg c.env] (pushEnvs [] A.frames)=_;rw[h1,Cx.dp (c:=(c.bc G).gx scope fxg code m C) rfl];change some (genEnv scope [] C code abg c.env::c.frames)=some (genEnv scope [] C code abg c.env::c.env::c.outer);rw[Cx.dp hc];change A.depth+0+1+n<_;exact Xb h3;change A.units+1+0+3+8*n<_;exact Xc h4
theorem EN{P:GP}{pos:Pos}(okR:P.cR.Ok)(hc:P.c.comp=false)(hd:P.c.hd=none)(hA:P.c.In A (n+1))(hs:fxg.cs=scope)(okg:∀m,(P.cR.gx scope fxg code m C).Ok)(hx:scope.names.lookup x=some .local) (UF:(x==("__debug__":Str))=false) (LH:scope.isCoroutine=false) (hN:P.N=ys.length) (hlen:xs.length=ys.length) (Uu:P.It=XA ys)(hl:∀j,(l,.list xs)∈(P.Sf j).cells++P.X)(Jt:∀m j v y,xs[j]? =some v→ys[j]? =some y→EE (P.cR.gx scope fxg code m C) n ⟨[(x,some v)],[(it,.obj (aQ l (j+1)))]⟩ elt (λr S'=>r=y∧S'=⟨[(x,some v)],[(it,.obj (aQ l (j+1)))]⟩) hZ):P.Goes A 0 [(C,.obj (isNs [(x,none)])),(it,.obj (aQ l 0))] (.fresh (.compStart (.GeneratorExp elt [⟨.Name x px,iter,[],0⟩] scope pos) 0 (.ref it) .none (genEnv scope [] C code abg P.c.env))):=by
 have EO:P.cR.comp=false:=hc;have kinds:∀v:Option AV,∀z∈([(x,v)]:List (Str×Option AV)).map (λx=>x.1),fxg.cs.names.lookup z=some .local∧(z==("__debug__":Str))=false:=λv z hz=>by simp only[aan,acF,aai,abN,or_false]at hz;subst hz;exact⟨by rw[hs];exact hx,UF⟩
 have reent:∀{S:SS} {Zc:Cells} {s:aas} {v},Rp P.cR (S.ext (((C,.obj (isNs [(x,v)]))::Zc)++P.X)) s→∃m,(∀p∈S.loc,(m p.1).map ab=p.2)∧Rp (P.cR.gx scope fxg code m C) (SS.ext ⟨[(x,v)],Zc⟩ (S.cells++P.X)) s:=λR=>by let m hm R':=ak (R.oh (fx:=fxg) okR EO (by simp) (kinds _));exact⟨m,hm,R'.UD EO hs⟩
 have relv:∀{S:SS} {DA:Cells} {s s':aas} {Z:Cells} {sa m},Rp P.cR (S.ext Z) s→(∀p∈S.loc,(m p.1).map ab=p.2)→Rp (P.cR.gx scope fxg code m C) (SS.ext ⟨sa,DA⟩ (S.cells++P.X)) s'→Rp P.cR (S.ext (((C,.obj (isNs sa))::DA)++P.X)) s':=λR hm R2=>(R2.UE EO hs).xQ okR EO R.kL R.lk hm;have Aq:∀m,(P.cR.gx scope fxg code m C).In (A.in1.over (.compLoop (.GeneratorExp elt [⟨.Name x px,iter,[],0⟩] scope pos) 0 (.ref it) .none (genEnv scope [] C code abg P.c.env)) []) n:=λm=>In.gx hc hA;have lst:∀{S:SS} {Zc:Cells} {s:aas} {m} {loc} {j},S.cells=(P.Sf j).cells→Rp (P.cR.gx scope fxg code m C) (SS.ext ⟨loc,Zc⟩ (S.cells++P.X)) s→∃vs,s.heap.IsList l vs∧vs.toList.map ab=xs:=λ{S Zc s m loc j} e R=>by let o ho vs k r4 h:=gS (R.cells (l,.list xs) (aad _ (by rw[e];exact hl j)));subst r4;exact⟨vs,⟨_,ho,rfl,k,rfl⟩,h⟩
 have loop:∀(k j:Nat) (v:Option AV) (s₀ s:aas),xs.length-j=k→j≤xs.length→Rp P.cR ((P.Sf j).ext (((C,.obj (isNs [(x,v)]))::[(it,.obj (aQ l j))])++P.X)) s→Seg (model prog P.c.w) A.in1 P.R P.Y (P.N-j+1) s₀ (.compLoop (.GeneratorExp elt [⟨.Name x px,iter,[],0⟩] scope pos) 0 (.ref it) .none (genEnv scope [] C code abg P.c.env)) ((model prog P.c.w).den (.compLoop (.GeneratorExp elt [⟨.Name x px,iter,[],0⟩] scope pos) 0 (.ref it) .none (genEnv scope [] C code abg P.c.env))) [] s:=by intro k;induction k with|zero=>intro j v s₀ s hk hj R;have Pf:j=xs.length:=(by exact aaI hj (ab5 hk));subst Pf;let m hm Rg:=ak (reent R);let vs hL bx:=ak (lst (j:=xs.length) rfl Rg);let oi Dz Pg Ph:=bN (Rg.cells (it,.obj (aQ l xs.length)) (.head _));change Seg _ A.in1 _ _ _ s₀ _ ((compTurn (.GeneratorExp elt [⟨.Name x px,iter,[],0⟩] scope pos) 0 (.ref it) .none (genEnv scope [] C code abg P.c.env)).onRaise (leaving (genEnv scope [] C code abg P.c.env))) [] s;rw[compTurn_gen,Sem.onRaise_eq_wrap];refine aa_ (abu (aa_ (wpAny_pyNext_list_end (hA.2.1.trans hd) ⟨oi,Dz,Pg,Ph⟩ hL (rS bx) λh' rZ=>?_)));have R2:Rp P.cR ((P.Sf xs.length).ext P.X) {s with heap:=h'}:=(by exact(R.j3 (C:=[(C,.obj (isNs [(x,v)])),(it,.obj (aQ l xs.length))]) (C':=[]) (h':=h') (tk:=s.toks) (λb o hb e=>rZ b o (λq=>hb (by simp[q])) e) (λp hp=>nomatch hp) abn (λa ha=>nomatch ha) (aak _)));have e:P.N-xs.length+1=1:=(by rw[hN,hlen];exact congrArg Nat.succ (adv _));rw[e];exact seg_end (.ok .next) ⟨rfl,⟨_,rfl,.inl rfl⟩,by rw[hN,←hlen];exact R2⟩|succ k ih=>intro j v s₀ s hk hj R;have dc:j<xs.length:=(by exact acz hk);let m hm Rg:=ak (reent R);let vs hL bx:=ak (lst (j:=j) rfl Rg);let oi Dz Pg Ph:=bN (Rg.cells (it,.obj (aQ l j)) (.head _));have XB:xs[j]? =some xs[j]:=aay dc;have XC:ys[j]? =some (ys[j]'(hlen▸dc)):=aay (hlen▸dc);let w hw YZ:=ak (mW bx XB);change Seg _ A.in1 _ _ _ s₀ _ ((compTurn (.GeneratorExp elt [⟨.Name x px,iter,[],0⟩] scope pos) 0 (.ref it) .none (genEnv scope [] C code abg P.c.env)).onRaise (leaving (genEnv scope [] C code abg P.c.env))) [] s;rw[compTurn_gen,Sem.onRaise_eq_wrap];refine aa_ (abu (aa_ (wpAny_pyNext_list_item ⟨oi,Dz,Pg,Ph⟩ hL hw λh' UG rZ=>?_)));let oi' UH UI UJ:=bN UG;have R1:Rp (P.cR.gx scope fxg code m C) (SS.ext ⟨[(x,v)],[(it,.obj (aQ l (j+1)))]⟩ ((P.Sf j).cells++P.X)) {s with heap:=h'}:=Rg.upd (tk:=s.toks) (x:=.obj (aQ l j)) (y:=.obj (aQ l (j+1))) aI.head rZ UH ⟨UI,UJ⟩;refine aa_ (ab2 (rfl:letOwnedTupleGo (.Name x px) (.ref it) w=pure ()) ?_);refine aa_ (wpAny_assign_Name (aau ((eZ (c:=P.cR.gx scope fxg code m C) (n:=n) (x:=x) (v:=w) (E:=hZ) (S:=⟨[(x,v)],[(it,.obj (aQ l (j+1)))]⟩) (Q:=λzz S'=>S'=⟨[(x,some xs[j])],[(it,.obj (aQ l (j+1)))]⟩) (by rw[YZ];exact .head) rfl).run (okg m) _ _ _ (Aq m) R1) (λzz s3 UK=>?_) λzz zz z=>(ie z).elim));obtain⟨S3,R3,e3⟩:=UK;subst e3;refine aa_ (ab2 (a:=true) rfl ?_);simp only[if_true];have hy:∀v,yieldOut (genEnv scope [] C code abg P.c.env) v=yieldValue v:=λv=>(by have:(genEnv scope [] C code abg P.c.env).scope.isCoroutine=false:=LH;simp only[yieldOut,this,aaU,if_false]);simp only[hy];rw[Sem.bind_eq_wrap',Sem.bind_eq_wrap',Sem.wrap_wrap,Sem.wrap_wrap];refine seg_wrap (aau ((Jt m j xs[j] _ XB XC).run (okg m) _ _ s3 (Aq m) R3) (λr s4 UL=>?_) λzz zz z=>(ie z).elim);obtain⟨S4,R4,e4,e5⟩:=UL;subst e5;refine seg_at (seg_yield rfl rfl rfl (eY j [] ((C,.obj (isNs [(x,some xs[j])]))::[(it,.obj (aQ l (j+1)))]) ⟨by rw[hN];exact ML hlen dc,by rw[hN];exact MM hlen dc,by rw[Uu];exact⟨rfl,by rw[e4];exact XC⟩,relv R hm R4,λkm p4=>?_⟩));rw[(by rw[hN];exact MO hlen dc:P.N-j=P.N-(j+1)+1)];exact seg_again rfl (ih (j+1) _ km km (by exact congrArg Nat.pred hk) dc p4)
 intro km p4;refine⟨rfl,?_⟩;change Seg _ A.in1 _ _ _ km _ ((compStart (.GeneratorExp elt [⟨.Name x px,iter,[],0⟩] scope pos) 0 (.ref it) .none (genEnv scope [] C code abg P.c.env)).onRaise (leaving (genEnv scope [] C code abg P.c.env))) [] km;have lp:=loop xs.length 0 none km km (Nat.sub_zero _) (aaD _) p4;let m hm Rg:=ak (reent p4);let oi Dz Pg Ph:=bN (Rg.cells (it,.obj (aQ l 0)) (.head _));rw[Sem.onRaise_eq_wrap];change Seg _ A.in1 _ _ _ km _ ((ask>>=_).wrap _ _ _ _) [] km;refine aa_ (wpAny_askSetting ?_);split;exact seg_again rfl lp;refine aa_ (wpAny_rule ?_);change Seg _ A.in1 _ _ _ km _ ((standAt iter.pos>>=_).wrap _ _ _ _) [] km;exact aa_ (abu (aa_ (wpAny_pyIter_listiter ⟨oi,Dz,Pg,Ph⟩ (seg_again rfl lp))))
end
end
section
open PySem.Builtin PySem.Builtin.Str
variable{Q:List Value→aas→Prop}
section
variable{c:Cx} {n:Nat} {S:SS} {s:aas} {X:Cells}
theorem iU{R:Result→aas→Prop}{I:Addr}{res:Value}(St:Nat→aas→Prop)
  (turn:∀m s,St m s→wpAny (model prog w) A.in1 (pyNext (.ref I)) (λr s'=>match r with
   |none=>R (.ok (.ret res)) s'
   |some v=>∃acc k,s'.heap.get? l=some {cls:=.type "list",dict:=none,data:=.seq acc k,slots:= #[]}∧acc.size+1≤ac_∧∃j,j<m∧St j {s' with heap:=s'.heap.update l (abb (·.push v))}) nD s):
  ∀m s,St m s→codeAny (model prog w) A (.builtin "list.extend.loop" ⟨[.ref l,.ref I,res],[]⟩) R s:=by
 intro m
 induction m using Nat.strongRecOn with
 |_ m ih=>
  intro s hs
  refine acs PySem.F.entry_extend_loop ?_
  rw[acI ac3 _]
  change wpAny _ A.in1 (pyNext (.ref I)>>=_) _ _ s
  refine aac (tP (aau (turn m s hs) (λr s' h=>?_) λzz zz z=>z))
  cases r with
  |none=>exact aal h
  |some v=>
   refine D8 h λacc k hl kj j hj hS=>?_
   change wpAny _ A.in1 (updateSeq l (·.push v)>>=_) _ _ _
   refine aac ?_
   refine adz hl rfl (aal ⟨plainId_quiet ac3 _,ih j hj _ hS⟩) (by exact aaN kj) (by change(acc.push v).size≤ac_+1;rw[Array.size_push];exact ab1 kj)
abbrev DB(c:Cx)(a:Addr)(Gp:Array ach)(X:Cells)(ys:List AV)(S:SS)(acc:Addr):GP:=⟨c,(a,.obj (cC Gp.size))::X,Gp,ys.length,XA ys,λj=>⟨S.loc,(acc,.list (ys.take j))::S.cells⟩⟩
theorem uE(ok:c.Ok)(hh:A.handled=none)(m_:A.depth<adL)(hb:gs.bare=true)(hG:∃r,Gp=c.G++r∧AllBare r)(DC:ys.length≤1000)(R:Rp (c.bc (Gp.push gs)) (S.ext (Z++((a,.obj (cC Gp.size))::X))) s) (life:∀acc,(DB c a Gp X ys S acc).Goes A.in1 0 Z gs)(hQ:∀vs s',vs.map ab=ys→Rp c (S.ext X) s'→Q vs s'):wpAny (model prog c.w) A (collect (.ref a)) Q nD s:=by
 let o ho nm qn hc zj yY:=rB (R.cells (a,.obj (cC Gp.size)) (aad _ (aad _ (.head _))));have hg:s.heap.IsGen a Gp.size:=(eY o nm qn ⟨ho,hc,zj,yY⟩);have dc:a<s.heap.objs.size:=aa3 ho;refine aac (wpAny_runValue (acs PySem.F.entry_proto_collect ?_));rw[acI PySem.F.plain_proto_collect _];change wpAny _ A.in1 (newList []>>=λl=>again (.builtin "list.__iadd__" ⟨[l,.ref a],[]⟩)) _ _ s;refine aac (abI ?_);refine aal ⟨plainId_quiet PySem.F.plain_list_iadd _,acs PySem.F.entry_list_iadd ?_⟩;rw[acI PySem.F.plain_list_iadd _];have xS:(s.heap.push {cls:=.type "list",data:=.seq ([]:List Value).toArray}).IsGen a Gp.size:=hg.push _;change wpAny _ A.in1 (acS (.ref s.heap.objs.size) (.ref a) (.ref s.heap.objs.size)) _ _ _;refine aac (wpAny_typeOf (Heap.IsGen.typeIs xS) ?_);have h1:adg (.ref s.heap.objs.size) (.ref a)=false:=by simp[adg,(abF dc:s.heap.objs.size≠a)]
 have h3:(abQ "generator"==abQ "tuple")=false:=by decide
 simp only[h1,(by decide:(abQ "generator"==abQ "list")=false),h3,Bool.or_false,aaU,if_false];refine aac (wpAny_pyIter_gen xS ?_);refine aac (abk ?_);refine aac (acN (Heap.IsGen.typeIs xS) PySem.F.gen_no_len ?_);change wpAny _ A.in1 (specialOf (abP a) (aby "__length_hint__")>>=_) _ _ _;refine aac (acN (Heap.IsGen.typeIs xS) PySem.F.gen_no_hint ?_);show aal;change wpAny _ A.in1 (rule "list.extend.makes-room">>=λzz=>Builtin.List.listTouch (.ref s.heap.objs.size)>>=λzz=>again (.builtin "list.extend.loop" ⟨[.ref s.heap.objs.size,.ref a,.ref s.heap.objs.size],[]⟩)) _ _ _;refine aac (wpAny_rule ?_);have Hg:(s.heap.push {cls:=.type "list",data:=.seq ([]:List Value).toArray}).get? s.heap.objs.size=some {cls:=.type "list",data:=.seq ([]:List Value).toArray}:=aaG _ rfl;show aac;change wpAny _ A.in1 (updateSeq s.heap.objs.size (·.push .none)>>=λzz=>updateSeq s.heap.objs.size (λx=>x.pop)) _ _ _;refine aac (adz Hg rfl ?_);have uF:=abl (abb (·.push aa6)) Hg rfl;show adz uF rfl;have oth:∀b o,s.heap.get? b=some o→
   (((s.heap.push {cls:=.type "list",data:=.seq ([]:List Value).toArray}).update s.heap.objs.size (abb (·.push aa6))).update s.heap.objs.size (abb (λx=>x.pop))).get? b=some o:=
  λb o e=>(abo _ _ (abF (aa3 e))).trans ((abo _ _ (abF (aa3 e))).trans (aap _ e))
 have R1:Rp (c.bc (Gp.push gs)) (((DB c a Gp X ys S s.heap.objs.size).Sf 0).ext (Z++(DB c a Gp X ys S s.heap.objs.size).X)) {s with heap:=((s.heap.push {cls:=.type "list",data:=.seq ([]:List Value).toArray}).update s.heap.objs.size (abb (·.push aa6))).update s.heap.objs.size (abb (λx=>x.pop)),toks:=s.toks}:=
  R.alloc (a:=s.heap.objs.size) (ao:=.list []) oth (aak _) (abl (abb (λx=>x.pop)) uF rfl) (ba _ _ ⟨rfl,by simp⟩) (aak _)
 refine aal ⟨plainId_quiet ac3 _,iU (λm s'=>∃i gs Z,m=ys.length-i∧i≤ys.length∧gs.bare=true∧Rp (c.bc (Gp.push gs)) (((DB c a Gp X ys S s.heap.objs.size).Sf i).ext (Z++(DB c a Gp X ys S s.heap.objs.size).X)) s'∧(DB c a Gp X ys S s.heap.objs.size).Goes A.in1 i Z gs) ?_ ys.length _ (eY 0 gs Z ⟨rfl,aaD _,hb,R1,life _⟩)⟩;intro m s' UM;let i gs Z hm hi hb R2 go:=je UM;refine aau (uC (P:=DB c a Gp X ys S s.heap.objs.size) ok hh m_ (.head _) hi R2 go) (λr s4 hr=>?_) λzz zz z=>z;rcases hr with⟨v,D,Z',gs',dc,rfl,⟨rfl,hy⟩,BA,R4,go'⟩|⟨rfl,rfl,R4⟩;let o2 lR vs k r4 bx:=gS (R4.cells (s.heap.objs.size,.list (ys.take i)) (.head _));subst r4;have xT:vs.size=i:=by have:=congrArg aaV bx;rw[aaa,aaQ,ado]at this;exact this.trans (ac5 hi)
 have o5:i<ys.length:=dc;refine ba vs k ⟨lR,by rw[xT];exact aab (Nat.succ_le_of_lt o5) (aab DC '2'),ys.length-(i+1),by exact DO hm o5,i+1,gs',Z',rfl,o5,BA,?_,go'⟩;let k' ji:=eE (kR (f:=(·.push v)) lR);refine R4.upd (tk:=s4.toks) (x:=.list (ys.take i)) (y:=.list (ys.take (i+1))) aI.head (abv ..) ji (ba _ _ ⟨rfl,?_⟩);rw[Array.toList_push,aaj,bx,aaK,hy];rfl;have R5:Rp (c.bc (Gp.push .finished)) ((SS.mk S.loc ((s.heap.objs.size,.list (ys.take ys.length))::S.cells)).ext ((a,.obj (cC Gp.size))::X)) s4:=R4;let o2 lR vs k r4 bx:=gS (R5.cells (s.heap.objs.size,.list (ys.take ys.length)) (.head _));subst r4;change wpAny _ A (load s.heap.objs.size>>=_) _ _ s4;refine aac (wpAny_load lR (aal (hQ _ _ (by rw[bx,abi]) ?_)));exact((R5.drop (cells':=S.cells++((a,.obj (cC Gp.size))::X)) (acj ..):Rp (c.bc (Gp.push .finished)) (S.ext ((a,.obj (cC Gp.size))::X)) s4).dH (Z:=[(a,.obj (cC Gp.size))]) (X:=X)).Xx hG rfl
set_option tactic.hygienic true in
theorem sh{t:Tok}(ok:c.Ok)(hh:A.handled=none)(m_:A.depth<adL)(hb:gs.bare=true)(hG:∃r,Gp=c.G++r∧AllBare r)(DC:ss.length≤1000)(hz:(ss.toArray.foldl (·+·.length+sep.length) 0)≤lim)(R:Rp (c.bc (Gp.push gs)) (S.ext (Z++((a,.obj (cC Gp.size))::X))) s) (life:∀acc,(DB c a Gp X (ss.map .str) S acc).Goes A.in1.in1 0 Z gs):wpAny (model prog c.w) A (call (.builtin "str.join") [.str sep t,.ref a]) (λr s'=>ab r= .str (glued sep ss)∧Rp c (S.ext X) s') nD s:=by
 let o ho nm qn hc zj yY:=rB (R.cells (a,.obj (cC Gp.size)) (aad _ (aad _ (.head _))));have hg:s.heap.IsGen a Gp.size:=(eY o nm qn ⟨ho,hc,zj,yY⟩);refine abH (codeAny_call_builtin acZ.plain PySem.F.entry_str_join (acZ.check _ _ _ _ _ _ _ _ (adN _ _ _) (PySem.F.args_str_join_2 _ _) ?_));rw[join_tree_other];refine aac (wpAny_typeOf hg.typeIs ?_);change wpAny _ A.in1 ((pyIter (.ref a)).tryCatch _>>=λit=>collect it>>=λitems=>joinTail sep items) _ _ s;refine aac (wpAny_tryCatch (wpAny_pyIter_gen hg ?_));refine aac (tP (uE (A:=A.in1) (ys:=ss.map .str) ok hh m_ hb hG (by rw[aaa];exact DC) R life λvs s' bx R'=>?_));let l r1 hl:=ak (rX bx);subst r1;subst hl;have p3:tooLong ((l.map (λx=>x.1)).toArray.foldl (·+·.length+sep.length) 0)=false:=decide_eq_false (by have:=ax hz;exact GD this);have g:Gives (joinTail sep (strValues l)) (joinMade sep l):=by have g0:=gives_joinTail sep l p3;cases l with|nil=>exact g0|cons p r=>cases r with|nil=>exact g0|cons q r'=>exact g0
 show g prog c.w A (wants (λr s'=>ab r= .str (glued sep (l.map (λx=>x.1)))∧Rp c (S.ext X) s') nD) s';unfold joinMade;split;rename_i p;exact⟨rfl,R'⟩;exact⟨(joinFit_length (sep:=sep) p3),rfl,R'.toks⟩
end
end
section
open PySem.Builtin PySem.Builtin.Str
variable{cc:Addr} {q:Str→Str}
def aE(o:Obj):Prop:=∃ps,o=tabObj ps∧TriplesOk ps.toList
def sr(K:Frag)(cc P:Addr):Prop:=∃o vs file tf flags tg inF text tt,K.lookup cc=some o∧o.data= .fields vs∧vs.getD 11 .none= .ref P∧vs.getD 18 .none= .str file tf∧vs.getD 7 .none= .int flags tg∧vs.getD 9 .none= .bool inF∧vs.getD 10 .none= .int text tt∧cc≠P
def XD(K:Frag):Prop:=∃bm ob,nsIn K ab9 "__builtins__"=some (some (.ref bm))∧bm≠abg∧K.lookup bm=some ob∧ob.cls= .type "module"∧ob.dict=some abg∧ob.data= .plain
section
variable{c:Cx} {n:Nat} {S:SS} {s:aas} {X:Cells} {E:EP}
theorem Rp.extBut{tk:Nat}(R:Rp c (S.ext X) s)(h:(a,ao)∈S.cells)(hs:Heap.ExtBut a s.heap h')(ho:h'.get? a=some o')(hc:p0 c.w ao o')(iS:s.toks≤tk):Rp c (S.ext X) {s with heap:=h',toks:=tk}:=by
 let pre post e:=D0 (List.append_of_mem h);have pm:(S.cells++X).Perm ([(a,ao)]++(pre++post++X)):=by rw[e,aaw,aaw];exact aaS
 have R1:=(R.perm (cells':=[(a,ao)]++(pre++post++X)) pm.symm).turn (C':=[(a,ao)]) (h':=h') (tk:=tk) (λb o hb e'=>hs b o (λq=>hb (by simp[q])) e') (λp hp=>by obtain rfl:p=(a,ao):=(by simpa using hp);exact⟨_,ho,hc⟩) (by simp) (λb hb=>.inl hb) iS;exact R1.perm (cells':=S.cells++X) pm
theorem nE{P:Addr}{ps:Array Value}{pos:Pos}{qualname:Str}{Q:Value→aas→Prop}{K:Frag}(fg:K.In s.heap)(hc:env.code= .ref cc)(hT:sr K cc P)(hP:s.heap.get? P=some (tabObj ps))(LI:TriplesOk ps.toList)(hQ:∀code h' tk Sb,Heap.ExtBut P s.heap h'→h'.get? P=some (tabObj Sb)→TriplesOk Sb.toList→s.toks≤tk→Q code {s with heap:=h',toks:=tk}):wpAny M A (genexprCode env pos qualname scope) Q nD s:=by obtain⟨o,vs,file,tf,flags,tg,inF,text,tt,XE,hd,TD,h2,h7,h9,yV,gV⟩:=hT;delta genexprCode codeAt;rw[hc,if_neg (show¬((abP cc==aa6)=true)from aa1)];refine aac (wpAny_fieldsOf (fg _ _ XE) hd ?_);rw[TD];refine aac (wpAny_fieldsOf hP rfl ?_);cases XF:codeAmong pos ps.toList with|some cv=>exact aal (hQ cv s.heap s.toks ps (Heap.ExtBut.refl _ _) hP LI (aak _))|none=>rw[h2,h7,h9,yV];show wpAny_with_toks (aak s.toks);refine aac (wpAny_newCode λc' P' h' tk hk Uo tN UN XG=>?_);have Pi:=hk _ _ hP;refine aac (wpAny_updateFieldsOfTheText Pi rfl ?_);have pi:=abl (h:=h') (λo=>acE (λvs=>if(codeAmong pos vs.toList).isSome=true then vs else vs++ #[abJ pos.line,abJ pos.col,.ref c']) o) Pi rfl;have Eh:acE (λvs=>if(codeAmong pos vs.toList).isSome=true then vs else vs++ #[abJ pos.line,abJ pos.col,.ref c']) (tabObj ps)=tabObj (ps++ #[abJ pos.line,abJ pos.col,.ref c']):=(by change({cls:=.none,data:=.fields (if(codeAmong pos ps.toList).isSome=true then ps else ps++ #[abJ pos.line,abJ pos.col,.ref c'])}:Obj)=_;rw[XF];rfl);rw[Eh]at pi;refine aac (wpAny_fieldsOf pi rfl ?_);have hl:(ps++ #[abJ pos.line,abJ pos.col,abP c']).toList=ps.toList++[abJ pos.line,abJ pos.col,.ref c']:=(by simp);rw[hl,codeAmong_snoc _ LI XF];refine aal λiS=>hQ _ _ _ (ps++ #[abJ pos.line,abJ pos.col,.ref c']) (λb o' hb e=>((abv ..).extBut b o' hb (hk b o' e))) pi (by rw[hl];exact TriplesOk_snoc _ _ _ _ LI) iS
theorem wC{K0:aao→Frag}{fxg:Fx}{P la:Addr}{xs:List Str}{kc:Nat}{cp gpos pos pl:Pos}{ln:Str}(hK:c.K=K0 c.w.params) (hd:c.hd=none) (hc:c.comp=false) (Pj:c.env.code= .ref cc) (hT:∀Q,sr (K0 Q) cc P) (hB:∀Q,XD (K0 Q)) (hP:(P,.obj aE)∈S.cells)(LH:scope.isCoroutine=false) (uG:∀y∈scope.names,y.2≠.cell) (Pk:∀y∈scope.names,y.2≠.free) (h0:scope.names.lookup (".0":Str)=some NameKind.local) (hx:scope.names.lookup x=some .local) (UF:(x==("__debug__":Str))=false) (UO:x≠".0") (Hh:scope.kind= .function)(hs:fxg.cs=scope) (gl:∀P,bH (K0 P) fxg) (Pl:At (ln,some (.ref la)) S.loc) (Pm:(la,.list (xs.map .str))∈S.cells) (hlen:xs.length≤1000)(Jt:∀cg:Cx,cg.K=K0 cg.w.params→cg.hd=none→cg.comp=false→cg.fx=fxg→∀v∈xs,∀Zc:Cells,EE cg n ⟨[(x,some (.str v))],Zc⟩ elt (λr S'=>r= .str (q v)∧S'=⟨[(x,some (.str v))],Zc⟩) hZ)(hz:((xs.map q).toArray.foldl (·+·.length+sep.length) 0)≤lim) (h:Q (.str (glued sep (xs.map q))) S) (bw:autoParam ((ap.endLine==pos.line)=true) apR):EE c (n+2) S (.Call (.Attribute (.Constant (.str sep) kc cp) "join" ap) [.GeneratorExp elt [⟨.Name x px,.Name ln pl,[],0⟩] scope gpos] [] pos) Q E:=.i λok X A s hA R=>by
 show tP;with_reducible refine wpAny_Call_method (T:="str") (id:="str.join") ?_ ?_ bw PySem.F.plainAttrs_str acZ PySem.F.type_str_join (wpAny_Constant_str ?_)
 rfl;rfl;refine⟨adN _ sep _,(λa q=>by cases q),?_⟩;have md:([.GeneratorExp elt [⟨.Name x px,.Name ln pl,[],0⟩] scope gpos]:List Expr).all aV=true:=rfl;refine callWith_of (P:=λzz=>True) (by rw[bF md];rfl) (λhh zz=>⟨.machine,.inr (.inl rfl),ace rfl⟩) (bV (bF md) ?_);rw[bO rfl];have hh:A.handled=none:=hA.2.1.trans hd;have m_:A.depth<adL:=aaC (aa5 _ _) hA.2.2.1;have R0:Rp c (S.ext X) {s with toks:=s.toks+1}:=R.toks;refine Calls.spliced_cons (wpAny_GeneratorExp_make LH (closureFor_none Pk) uG h0 Hh m_ ?_ λzz=>rfl);refine aau ((dM Pl ⟨rfl,rfl⟩:EE c (n+2) S (.Name ln pl) (λv S1=>v= .ref la∧S1=S) hZ).run ok X A _ hA R0) (λxv s1 UP=>?_) λzz zz z=>ie z;obtain⟨S1,R1,ev,eS⟩:=UP;subst eS;obtain rfl:=aj ev;let vs hL bx:=ak (R1.list Pm);show wpAny_pyIter_list hL;have R2:Rp c (S1.ext ((s1.heap.objs.size,.obj (aQ la 0))::X)) {s1 with heap:=s1.heap.push {cls:=.type "list_iterator",data:=.fields #[.ref la,.int 0 0]}}:=R1.j3 (C:=[]) (C':=[(s1.heap.objs.size,.obj (aQ la 0))]) (λb o zz e=>aap _ e) (λp hp=>by obtain rfl:p=_:=(by simpa using hp);exact⟨_,aaG _ rfl,rfl,rfl⟩) (by simp) (λb hb=>by obtain rfl:b=_:=(by simpa using hb);exact .inr (aak _)) (aak _);generalize hit:s1.heap.objs.size=it at R2⊢;generalize({s1 with heap:=s1.heap.push {cls:=.type "list_iterator",data:=.fields #[.ref la,.int 0 0]}}:aas)=s2 at R2⊢;refine⟨ok.eH.lim.keeps R2.stays,?_⟩;let oP Y0 ps r3 LI:=oy (R2.cells (P,.obj aE) (aaf _ hP));subst r3;have UQ:(K0 c.w.params).In s2.heap:=λa o e=>R2.stays a o (ok.eH.fg a o (hK▸e));refine tP (nE UQ Pj (hT _) Y0 LI λcode h3 XH Sb LJ Y1 UR US=>?_);have R3:=R2.extBut (h':=h3) (tk:=XH) hP LJ Y1 ⟨Sb,rfl,UR⟩ US;let bm ob Y2 Ju Y6 Y7 UT Y8:=t_ (hB c.w.params);have UU:(K0 c.w.params).In h3:=λa o e=>R3.stays a o (ok.eH.fg a o (hK▸e));show wpAny_builtinsFor (ok.eg▸ok.eH.g.keeps R3.stays) (mg_of ok.eH.fg ok.eH.g (hK▸Y2)) Ju (UU _ _ Y6) Y7 UT Y8;intro h' Bi rZ;generalize hs3:({s2 with heap:=h3,toks:=XH}:aas)=s3 at R3 Bi rZ⊢;have keep:∀b o,s3.heap.get? b=some o→h'.get? b=some o:=λb o e=>rZ.extBut b o (abf (aa3 e)) (aap _ e);have Sc:h'.objs.size=s3.heap.objs.size+1:=by rw[rZ.1,acH]
 let oC es ep Y9 Y_ Za Zb:=eN Bi;have R4:Rp c (S1.ext ((s3.heap.objs.size,.obj (isNs [(x,none)]))::(h'.objs.size,.obj (cC s3.gens.size))::(it,.obj (aQ la 0))::X)) {s3 with heap:=h'.push {cls:=.type "generator",data:=.fields #[.int s3.gens.size 0,.str "<genexpr>" (s3.toks+1),.str (c.env.qual++"<genexpr>") (s3.toks+1+1)]},toks:=s3.toks+1+1+1}:=R3.ext2 (λb o e=>aap _ (keep b o e)) (aak _) (Sc▸aa2 _) (Sc▸(Nat.succ_ne_self _).symm) (aap _ Y9) (eY es ep _ ⟨Y_,Za,Zb,λp hp=>by obtain rfl:p=(x,none):=(by simpa using hp);change(if x=".0"then _ else _:Option Value).map ab=none;rw[if_neg UO];rfl⟩) (aaG _ rfl) (ba _ _ ⟨rfl,rfl,rfl⟩) (aab (aa2 _) (aab (aa2 _) (aa2 _)));have hG:∃r,s3.gens=c.G++r∧AllBare r:=R3.gens;have R5:Rp (c.bc (s3.gens.push (.fresh (.compStart (.GeneratorExp elt [⟨.Name x px,.Name ln pl,[],0⟩] scope gpos) 0 (.ref it) .none (genEnv scope [] s3.heap.objs.size code abg c.env))))) (S1.ext ([(s3.heap.objs.size,.obj (isNs [(x,none)])),(it,.obj (aQ la 0))]++((h'.objs.size,.obj (cC s3.gens.size))::X))) {s3 with gens:=s3.gens.push (.fresh (.compStart (.GeneratorExp elt [⟨.Name x px,.Name ln pl,[],0⟩] scope gpos) 0 (.ref it) .none (genEnv scope [] s3.heap.objs.size code abg c.env))),toks:=s3.toks+1+1+1,heap:=h'.push {cls:=.type "generator",data:=.fields #[.int s3.gens.size 0,.str "<genexpr>" (s3.toks+1),.str (c.env.qual++"<genexpr>") (s3.toks+1+1)]}}:=(Rp.toG (c:=c) (G:=c.G) (G':=s3.gens.push _) (r:= #[]) R4 (by simp) (λy hy=>by simp at hy)).perm (acY _ (abz _ (List.Perm.swap ..)));refine aal ⟨trivial,?_⟩;refine aau (sh (ss:=xs.map q) (sep:=sep) ok hh m_ rfl hG (by rw[aaa];exact hlen) hz R5 λacc=>?_) (λr s' UV=>by refine eA UV λh1 h2=>?_;exact⟨S1,h2,by change Q (ab r) S1;rw[h1];exact h⟩) λzz zz z=>z;have Pn:c.In A.in1.in1 (n+1):=by let h1 h2 h3 h4:=jd hA;exact⟨h1,h2,by change A.depth+(n+1)<_;exact aaN h3,by change A.units+1+1+8*(n+1)<_;exact MF h4⟩
 show EN (P:=DB c h'.objs.size s3.gens X ((xs.map q).map .str) S1 acc) (n:=n) (fxg:=fxg) (xs:=xs.map .str) (ys:=(xs.map q).map .str) (l:=la) ok.bc hc hd Pn hs (λm=>Cx.Pe (K0:=K0) ok.bc hc hK gl hs Hh (aaN (aaC ok.above (R3.lt _ (.head _))):c.base.objs.size≤s3.heap.objs.size)) hx UF LH rfl (by simp) rfl (λj=>aaf _ (.tail _ Pm));intro m j v y hv hy;rw[aag]at hv;let z LK r2:=ak (aaq.mp hv);subst r2;rw[aag,aag,LK]at hy;cases hy;exact Jt ((DB c h'.objs.size s3.gens X ((xs.map q).map .str) S1 acc).cR.gx scope fxg code m s3.heap.objs.size) hK hd rfl rfl z (aaA LK) _
end
end
section
variable{a0:Str×Option AV} {v:AV} {y:AO} {Q:FL→SS→Prop} {N:SS→Prop}
theorem XI{p:α}{r:List α}:At p (p::r):=.head
theorem XJ{p a0:α}{r:List α}:At p (a0::p::r):=.tail (.head)
theorem at2{p a0 a1:α}{r:List α}:At p (a0::a1::p::r):=.tail (.tail (.head))
theorem XK{p a0 a1 a2:α}{r:List α}:At p (a0::a1::a2::p::r):=.tail (.tail (.tail (.head)))
theorem Po:dA x v ((x,o)::r) ((x,some v)::r):=.head
theorem Pp:dA x v (a0::(x,o)::r) (a0::(x,some v)::r):=.tail (.head)
theorem Pq{a1:Str×Option AV}:dA x v (a0::a1::(x,o)::r) (a0::a1::(x,some v)::r):=.tail (.tail (.head))
theorem Pr{a1 a2:Str×Option AV}:dA x v (a0::a1::a2::(x,o)::r) (a0::a1::a2::(x,some v)::r):=.tail (.tail (.tail (.head)))
theorem Jv{x:AO}{r:Cells}:aI a x y ((a,x)::r) ((a,y)::r):=.head
theorem Ps{x:AO}{b0:Addr×AO}{r:Cells}:aI a x y (b0::(a,x)::r) (b0::(a,y)::r):=.tail (.head)
theorem Bq{x:AO}{b0 b1:Addr×AO}{r:Cells}:aI a x y (b0::b1::(a,x)::r) (b0::b1::(a,y)::r):=.tail (.tail (.head))
theorem Pt{x:AO}{b0 b1 b2:Addr×AO}{r:Cells}:aI a x y (b0::b1::b2::(a,x)::r) (b0::b1::b2::(a,y)::r):=.tail (.tail (.tail (.head)))
inductive eC(x:Str)(v:AV):List (Str×AV)→List (Str×AV)→Prop
 |head:∀{a r},eC x v ((x,a)::r) ((x,v)::r)
 |tail:∀{p r r'},eC x v r r'→eC x v (p::r) (p::r')
theorem Pu{o:AV}{r:List (Str×AV)}:eC x v ((x,o)::r) ((x,v)::r):=.head
theorem Pv{o:AV}{a0:Str×AV}{r:List (Str×AV)}:eC x v (a0::(x,o)::r) (a0::(x,v)::r):=.tail (.head)
theorem Pw{o:AV}{a0 a1:Str×AV}{r:List (Str×AV)}:eC x v (a0::a1::(x,o)::r) (a0::a1::(x,v)::r):=.tail (.tail (.head))
theorem Px{o:AV}{a0 a1 a2:Str×AV}{r:List (Str×AV)}:eC x v (a0::a1::a2::(x,o)::r) (a0::a1::a2::(x,v)::r):=.tail (.tail (.tail (.head)))
theorem eC.mem:∀{l l':List (Str×AV)},eC x v l l'→x∈l.map (λx=>x.1)|_,_,.head=>.head _|_,_,.tail h=>.tail _ h.mem
theorem eC.eq{l l':List (Str×AV)}(nd:(l.map (λx=>x.1)).Nodup)(h:eC x v l l'):l'=n5 l x v:=by induction h with|head=>unfold n5;rw[if_pos rfl]| @tail p r r' h ih=>have xi:=aaB.mp nd;unfold n5;rw[if_neg (λq:p.1=x=>xi.1 (by change p.1∈_;rw[q];exact h.mem)),ih xi.2]
theorem At.dU{nm:Str}{r:AV}(nd:(es.map (λx=>x.1)).Nodup)(h:At (nm,r) es):dU es nm=some r:=by induction h with|head=>unfold Mine.dU;rw[if_pos rfl]| @tail p l h ih=>have xi:=aaB.mp nd;unfold Mine.dU;rw[if_neg (λq:p.1=nm=>xi.1 (by change p.1∈_;rw[q];exact aat (f:=(λx=>x.1)) h.mem))];exact ih xi.2
inductive jr(a:Addr×AO):Cells→Cells→Prop
 |head:∀{r},jr a (a::r) r
 |tail:∀{b l r},jr a l r→jr a (b::l) (b::r)
inductive aq:Cells→Cells→Cells→Prop
 |nil:∀{l},aq [] l l
 |cons:∀{a C l r D},jr a l r→aq C r D→aq (a::C) l D
theorem jr.perm{a:Addr×AO}{l r:Cells}(h:jr a l r):l.Perm (a::r):=by induction h with|head=>exact .refl _|tail h ih=>exact(ih.cons _).trans (.swap ..)
theorem aq.perm{l:Cells}(h:aq C l D):l.Perm (C++D):=by induction h with|nil=>exact .refl _|cons h1 _ ih=>exact h1.perm.trans (ih.cons _)
section
variable{c:Cx} {n:Nat} {S:SS} {E:EP}
abbrev Py(c:Cx)(n:Nat)(l:List Stmt)(Q:FL→SS→Prop)(E:EP):FL→SS→Prop:=λf S'=>match f with| .next=>EB c n S' l Q E|f=>Q f S'
abbrev UW(Q:FL→SS→Prop):AV→SS→Prop:=λv=>Q (.ret v)
abbrev Zd(c:Cx)(n:Nat)(b o:List Stmt)(Q:FL→SS→Prop)(E:EP):Bool→SS→Prop:=λt S'=>if t=true then EB c n S' b Q E else EB c n S' o Q E
abbrev UX(x:Str)(Q:FL→SS→Prop):AV→SS→Prop:=λv S'=>∃l',dA x v S'.loc l'∧Q .next ⟨l',S'.cells⟩
abbrev Ze(Q:FL→SS→Prop):AV→SS→Prop:=λzz=>Q .next
abbrev Pz(c:Cx)(n:Nat)(op:Operator)(Q:AV→SS→Prop)(E:EP)(a:AV):AV→SS→Prop:=λb S2=>BO c n S2 op a b Q E
abbrev UY(c:Cx)(n:Nat)(r:Expr)(op:Operator)(Q:AV→SS→Prop)(E:EP):AV→SS→Prop:=λa S1=>EE c n S1 r (Pz c n op Q E a) E
abbrev PA(c:Cx)(n:Nat)(op:CmpOp)(Q:AV→SS→Prop)(E:EP)(a:AV):AV→SS→Prop:=λb S2=>CO c n S2 op a b Q E
abbrev PB(c:Cx)(n:Nat)(r:Expr)(op:CmpOp)(Q:AV→SS→Prop)(E:EP):AV→SS→Prop:=λa S1=>EE c n S1 r (PA c n op Q E a) E
abbrev XL(c:Cx)(n:Nat)(Q:Bool→SS→Prop)(E:EP):AV→SS→Prop:=λa S1=>TR c n S1 a Q E
abbrev UZ(Q:Bool→SS→Prop):Bool→SS→Prop:=λb=>Q (!b)
abbrev PC(c:Cx)(n:Nat)(l:List Expr)(Q:List AV→SS→Prop)(E:EP):AV→SS→Prop:=λv S1=>EA c n S1 l (λvs S2=>Q (v::vs) S2) E
abbrev BJ(c:Cx)(n:Nat)(f:AV)(Q:AV→SS→Prop)(E:EP):List AV→SS→Prop:=λas S2=>bM c n S2 f as Q E
abbrev PD(c:Cx)(n:Nat)(args:List Expr)(Q:AV→SS→Prop)(E:EP):AV→SS→Prop:=λf S1=>kN c.K f∧EA c n S1 args (BJ c n f Q E) E
abbrev U0(c:Cx)(n:Nat)(l:List Expr)(Q:Bool→SS→Prop)(E:EP):Bool→SS→Prop:=λb S1=>if b=true then W c n S1 (allTrue .And l c.env) Q E else Q false S1
abbrev Zf(c:Cx)(n:Nat)(l:List Expr)(Q:Bool→SS→Prop)(E:EP):Bool→SS→Prop:=λb S1=>if b=true then Q true S1 else W c n S1 (allTrue .Or l c.env) Q E
abbrev Zg(c:Cx)(n:Nat)(b o:Expr)(Q:AV→SS→Prop)(E:EP):Bool→SS→Prop:=λx S1=>if x=true then EE c n S1 b Q E else EE c n S1 o Q E
abbrev PF(c:Cx)(n:Nat)(id:String)(a:AV)(Q:AV→SS→Prop)(E:EP):List AV→SS→Prop:=λas S2=>bM c n S2 (.bi id) (a::as) Q E
abbrev nG(c:Cx)(n:Nat)(T id:String)(args:List Expr)(Q:AV→SS→Prop)(E:EP):AV→SS→Prop:=λa S1=>oW S1 a T∧EA c n S1 args (PF c n id a Q E) E
abbrev PH(c:Cx)(n:Nat)(T:String)(a:AV)(Q:AV→SS→Prop)(E:EP):AV→SS→Prop:=λb S2=>oW S2 a T∧GI c n S2 a b Q E
abbrev subQ(c:Cx)(n:Nat)(T:String)(sl:Expr)(Q:AV→SS→Prop)(E:EP):AV→SS→Prop:=λa S1=>EE c n S1 sl (PH c n T a Q E) E
abbrev U_(c:Cx)(n:Nat)(x:Str)(op:Operator)(a:AV)(Q:FL→SS→Prop)(E:EP):AV→SS→Prop:=λb S2=>IO c n S2 op a b (UX x Q) E
abbrev PI(c:Cx)(n:Nat)(args:List Expr)(Q:AV→List AV→SS→Prop):AV→SS→Prop:=λf S1=>kN c.K f∧EA c n S1 args (λas S2=>Q f as S2) hZ
abbrev Zh(c:Cx)(n:Nat)(body orelse:List Stmt)(N:SS→Prop)(Q:FL→SS→Prop)(E:EP):Bool→SS→Prop:=λb S2=>if b=true then EB c n S2 body (au N Q) E else EB c n S2 orelse Q E
theorem ah{t:Stmt}{l:List Stmt}(h:ES c n S t (Py c n l Q E) E):EB c n S (t::l) Q E:=Ea h
theorem xU(h:Q .next S):EB c n S [] Q E:=d0 h
theorem PJ{e:Expr}{b o:List Stmt}(h:ET c n S e (Zd c n b o Q E) E):ES c n S (.If e b o p) Q E:=OX h
theorem xZ{e:Expr}(h:EE c n S e (UW Q) E):ES c n S (.Return (some e) p) Q E:=IY h
theorem EQ{e:Expr}(h:EE c n S e (Ze Q) E)(hs:autoParam (ac6 e none p.line c.env=pure false) apR):ES c n S (.Expr e p) Q E:=EC h hs
theorem Jw{e:Expr}(h:EE c n S e (UX x Q) E)(hs:autoParam (ac6 e (some (.Name x p')) p.line c.env=pure false) apR):ES c n S (.Assign [.Name x p'] e p) Q E:=h_ h hs
theorem Va{a:AV}(hx:At (x,some a) S.loc)(h:EE c n S value (U_ c n x op a Q E) E):ES c n S (.AugAssign (.Name x p) op value p') Q E:=Jg hx.mem h
theorem BK{l r:Expr}{Q:AV→SS→Prop}(h:EE c n S l (UY c n r op Q E) E):EE c n S (.BinOp l op r p) Q E:=Bk h
theorem PK{l r:Expr}{op:CmpOp}{Q:AV→SS→Prop}(h:EE c n S l (PB c n r op Q E) E)(hm:autoParam (behindInMarks op r=false) apR):EE c n S (.Compare l [op] [r] p) Q E:=I3 h hm
theorem PM{l r:Expr}{op:CmpOp}{Q:Bool→SS→Prop}(h:EE c n S l (PB c n r op (XL c n Q E) E) E)(hm:autoParam (behindInMarks op r=false) apR):ET c n S (.Compare l [op] [r] p) Q E:=Bl h hm
theorem pj{e:Expr}{Q:Bool→SS→Prop}(h:EE c n S e (XL c n Q E) E)(he:autoParam (xm e=true) apR):ET c n S e Q E:=v_ h he
theorem PN{e:Expr}{Q:Bool→SS→Prop}(h:ET c n S e (UZ Q) E):ET c n S (.UnaryOp .Not e p) Q E:=I6 h
theorem PO{e:Expr}{l:List Expr}{Q:Bool→SS→Prop}(h:ET c n S e (U0 c n l Q E) E):W c n S (allTrue .And (e::l) c.env) Q E:=uo h
theorem Vb{e:Expr}{l:List Expr}{Q:Bool→SS→Prop}(h:ET c n S e (Zf c n l Q E) E):W c n S (allTrue .Or (e::l) c.env) Q E:=wa h
theorem Jx{t b o:Expr}{Q:AV→SS→Prop}(h:ET c n S t (Zg c n b o Q E) E):EE c n S (.IfExp t b o p) Q E:=Bm h
theorem wD{e:Expr}{l:List Expr}{Q:List AV→SS→Prop}(h:EE c n S e (PC c n l Q E) E)(hp:autoParam (aV e=true) apR):EA c n S (e::l) Q E:=gu h hp
theorem mv{id:Str}{pos:Pos}{Q:AV→SS→Prop}(h:EE c n S (.Name id p) (PD c n args Q E) E)(hs:autoParam (args.all aV=true) apR):EE c n S (.Call (.Name id p) args [] pos) Q E:=xo h hs
theorem js{e:Expr}{nm:Str}{id:String}{pos:Pos}{Q:AV→SS→Prop}(pa:PlainAttrs T)(slot:Slot T nm id)(O5:typeOf (.builtin id)=pure (.type "method_descriptor"))(h:EE c n S e (nG c n T id args Q E) E)(he:autoParam (bo e=false) apR) (hs:autoParam (args.all aV=true) apR) (hlen:autoParam ((decide (args.length<30))=true) apR) (bw:autoParam ((ap.endLine==pos.line)=true) apR):EE c n S (.Call (.Attribute e nm ap) args [] pos) Q E:=y_ pa slot O5 h he hs hlen bw
theorem ty_str:oW S (.str x) "str":=.inl ⟨x,rfl,rfl⟩
theorem ty_list(h:At (l,.list xs) S.cells):oW S (.ref l) "list":=.inr (ba l _ ⟨rfl,h.mem,rfl⟩)
theorem ty_map(h:At (l,.map es k) S.cells):oW S (.ref l) "dict":=.inr (ba l _ ⟨rfl,h.mem,rfl⟩)
theorem sv(h:At (l,.tup xs) S.cells):oW S (.ref l) "tuple":=.inr (ba l _ ⟨rfl,h.mem,rfl⟩)
theorem ty_set(h:At (l,.set P k) S.cells):oW S (.ref l) "set":=.inr (ba l _ ⟨rfl,h.mem,rfl⟩)
theorem ER(h:N S):au N Q .next S:=h
theorem EU(h:N S):au N Q .cont S:=h
theorem Jy(h:Q .next S):au N Q .brk S:=h
theorem Jz(h:Q (.ret v) S):au N Q (.ret v) S:=h
abbrev Vc(c:Cx)(n:Nat)(xn nm:Str)(Q:FL→SS→Prop):AV→SS→Prop:=λv S'=>∃x C d es k lT cells',At (xn,some (.ref x)) S'.loc∧At (x,.inst C d) S'.cells∧eC nm v es lT∧aI d (.dict es k) (.dict lT k) S'.cells cells'∧dg c.K C nm=true∧es.length<1000∧Q .next ⟨S'.loc,cells'⟩
theorem x9{lT:List (Str×AV)}{nm:Str}(nd:(es.map (λx=>x.1)).Nodup)(h:eC nm v es lT):LD es nm k=k:=by
 have:(dU es nm).isSome=true:=by clear nd;induction h with|head=>unfold dU;rw[if_pos rfl];rfl| @tail p r r' h ih=>unfold dU;split<;>simp_all
 unfold LD;rw[if_pos this]
theorem PP{nm:Str}{po:Pos}(h:EE c n S value (Vc c n xn nm Q) E)(hs:autoParam (ac6 value (some (.Attribute (.Name xn po) nm p')) p.line c.env=pure false) apR):ES c n S (.Assign [.Attribute (.Name xn po) nm p'] value p) Q E:=fW (h.az λv S1 h8=>jf h8 λx C d es k lT cells' h1 h2 h3 h4 h5 h6 h7=>dM h1 λo y ho hy=>.i λok X A s hA R=>by obtain rfl:=aj ho;have nd:=R.oV (aaf _ h4.mem);refine(ma (c:=c) (n:=n) (S:=S1) (E:=E) (Q:=λzz=>Q .next) (v:=y) (k:=k) (es:=es) (d:=d) h2.mem (cells':=cells') ?_ h5 h6 h7).run ok X A s hA R;rw[hy,←h3.eq nd,x9 nd h3];exact h4) hs
theorem W.letE{t:Sem α}{Q:α→SS→Prop}(h:W c n S t Q (λk S'=>∃C D,S'.cells.Perm (C++D)∧E k ⟨S'.loc,C⟩)):W c n S t Q E:=.i λok X A s hA R=>aau (h.run ok X A s hA R) (λzz zz x=>x) λx s' h8=>h8.el λe k S' hx F R' h7=>cI h7 λC D p hE=>⟨e,k,⟨S'.loc,C⟩,hx,F.sub λa ha=>by have hp:((C++X).map (λx=>x.1))⊆((S'.cells++X).map (λx=>x.1)):=λb hb=>(by rw[aaj]at hb⊢;rcases aax.mp hb with hb|hb;exact aaf _ ((p.map (λx=>x.1)).symm.subset (by rw[aaj];exact aaf _ hb));exact aad _ hb);exact hp ha,by have R2:=R'.perm (cells':=(C++D)++X) (p.symm.append_right X);exact R2.drop (cells':=C++X) ((List.sublist_append_left C D).append_right X),hE⟩
abbrev Sd(Q:AV→Cells→Prop):FL→SS→Prop:=λf S'=>match f with| .ret v=>Q v S'.cells| .next=>Q .none S'.cells|_=>False
theorem aB{K0:aao→Frag}{args:List AV}{Q:AV→Cells→Prop}{E:Value→Cells→Prop}{fd:aao→aaP}(hf:∀P,cy (K0 P) fx (fd P) body) (gl:∀P,bH (K0 P) fx)(hb:∀(s:aas) (P:aao),(K0 P).In s.heap→∀pos kws,pos.map ab=args→kws.map (λp=>(p.1,ab p.2))=kw→∃binds,ac9 s (fd P) ⟨pos,kws⟩ binds∧e7 fx binds loc)(h:∀(c:Cx) (Q':FL→SS→Prop) (E':EP),c.K=K0 c.w.params→c.hd=none→c.fx=fx→c.comp=false→(∀v S' C D,aq C S'.cells D→Q v C→Q' (.ret v) S')→(∀S' C D,aq C S'.cells D→Q .none C→Q' .next S')→(∀k S' C D,aq C S'.cells D→E k C→E' k S')→EB c n ⟨loc,C⟩ body Q' E'):FC K0 (n+1) fx.a args kw C Q E:=FC.intro hf gl hb λc h1 h2 h3 h4=>W.letE (W.let (h c (λf S'=>∃C D,S'.cells.Perm (C++D)∧Sd Q f ⟨S'.loc,C⟩) (λk S'=>∃C D,S'.cells.Perm (C++D)∧E k C) h1 h2 h3 h4 (λv S' C D p x=>(ba C D ⟨p.perm,x⟩)) (λS' C D p x=>(ba C D ⟨p.perm,x⟩)) λk S' C D p x=>(ba C D ⟨p.perm,x⟩)))
theorem fP{K0:aao→Frag}{args:List AV}{Q:AV→Cells→Prop}{E:Value→Cells→Prop}{fd:aao→aaP}(hf:∀P,cy (K0 P) fx (fd P) body) (gl:∀P,bH (K0 P) fx)(hb:∀(s:aas) (P:aao),(K0 P).In s.heap→∀pos kws,pos.map ab=args→kws.map (λp=>(p.1,ab p.2))=kw→∃binds,ac9 s (fd P) ⟨pos,kws⟩ binds∧e7 fx binds loc)(h:∀(c:Cx) (Q':FL→SS→Prop) (E':EP),c.K=K0 c.w.params→c.hd=none→c.fx=fx→c.comp=false→c.env=envX fx.cn fx.cs c.L fx.a fx.cd []→(∀v S' C D,aq C S'.cells D→Q v C→Q' (.ret v) S')→(∀S' C D,aq C S'.cells D→Q .none C→Q' .next S')→(∀k S' C D,aq C S'.cells D→E k C→E' k S')→EB c n ⟨loc,C⟩ body Q' E'):FC K0 (n+1) fx.a args kw C Q E:=FC.introE hf gl hb λc h1 h2 h3 h4 h5=>W.letE (W.let (h c (λf S'=>∃C D,S'.cells.Perm (C++D)∧Sd Q f ⟨S'.loc,C⟩) (λk S'=>∃C D,S'.cells.Perm (C++D)∧E k C) h1 h2 h3 h4 h5 (λv S' C D p x=>(ba C D ⟨p.perm,x⟩)) (λS' C D p x=>(ba C D ⟨p.perm,x⟩)) λk S' C D p x=>(ba C D ⟨p.perm,x⟩)))
theorem iF{K0:aao→Frag}{m:Nat}{f:Addr}{Q:AV→SS→Prop}(hf:FC K0 m f as [] C Qf Ef)(hp:aq C S.cells D)(hK:c.K=K0 c.w.params)(hd:c.hd=none)(h:∀v C',Qf v C'→Q v ⟨S.loc,C'++D⟩) (he:∀k C',Ef k C'→E k ⟨S.loc,C'++D⟩) (hm:autoParam (m≤n) apM):bM c n S (.ref f) as Q E:=EK hf hp.perm hK hd h he hm
theorem qV{id:Str}{pos:Pos}{y:Str}{kt}{ps:List (AV×AV)}(Sf:Nat→SS)(J:Nat→Prop)(h0:J 0)(h:EE c n S (.Name id pn) (PI c n args (λf as S2=>S2=Sf 0∧Ux c n Sf f as ps)) hZ)(step:∀G' i a b (N:SS→Prop),ps[i]? =some (a,b)→J i→(J (i+1)→N (Sf (i+1)))→∃l',ib [x,y] [a,b] (Sf i).loc l'∧EB (c.bc G') n ⟨l',(Sf i).cells⟩ body (au N Q) hZ)(fin:J ps.length→EB c n (Sf ps.length) orelse Q hZ)(hd:autoParam (c.hd=none) apA) (hc:autoParam (c.comp=false) apA) (hs:autoParam (args.all aV=true) apR):ES c n S (.For (.Tuple [.Name x px,.Name y py] kt pt) (.Call (.Name id pn) args [] pos) body orelse p) Q E:=wz Sf J h0 h (λG' i a b hi hj=>step G' i a b _ hi hj λk=>⟨rfl,k⟩) fin hs hd hc
theorem eI(Inv:Nat→SS→Prop)(h:EE c n S iter (λv S1=>v= .ref l∧(l,.list xs)∈S1.cells∧Inv 0 S1) E)(hl:∀i S1,Inv i S1→(l,.list xs)∈S1.cells)(step:∀i y S1 (N:SS→Prop),xs[i]? =some y→Inv i S1→(∀S',Inv (i+1) S'→N S')→∃l',dA x y S1.loc l'∧EB c n ⟨l',S1.cells⟩ body (au N Q) E)(fin:∀S1,Inv xs.length S1→EB c n S1 orelse Q E)(hd:autoParam (c.hd=none) apA) (hc:autoParam (c.comp=false) apA) (hs:autoParam (∀x,aa4 iter c.env x=pure x) apR):ES c n S (.For (.Name x px) iter body orelse p) Q E:=uD Inv h hl (λi y S1 hx hi=>step i y S1 _ hx hi λzz z=>z) fin hd hc hs
theorem mw(Inv:Nat→SS→Prop)(h:EE c n S iter (λv S1=>v= .ref l∧(l,.tup xs)∈S1.cells∧Inv 0 S1) E)(hl:∀i S1,Inv i S1→(l,.tup xs)∈S1.cells)(step:∀i y S1 (N:SS→Prop),xs[i]? =some y→Inv i S1→(∀S',Inv (i+1) S'→N S')→∃l',dA x y S1.loc l'∧EB c n ⟨l',S1.cells⟩ body (au N Q) E)(fin:∀S1,Inv xs.length S1→EB c n S1 orelse Q E)(hd:autoParam (c.hd=none) apA) (hc:autoParam (c.comp=false) apA) (hs:autoParam (∀x,aa4 iter c.env x=pure x) apR):ES c n S (.For (.Name x px) iter body orelse p) Q E:=wA Inv h hl (λi y S1 hx hi=>step i y S1 _ hx hi λzz z=>z) fin hd hc hs
theorem qW(Inv:Nat→SS→Prop)(h:EE c n S iter (λv S1=>v= .ref d∧(d,.map es ep)∈S1.cells∧Inv 0 S1) E)(hl:∀i S1,Inv i S1→(d,.map es ep)∈S1.cells)(step:∀i k v S1 (N:SS→Prop),es[i]? =some (k,v)→Inv i S1→(∀S',Inv (i+1) S'→N S')→∃l',dA x (.str k) S1.loc l'∧EB c n ⟨l',S1.cells⟩ body (au N Q) E)(fin:∀S1,Inv es.length S1→EB c n S1 orelse Q E)(hd:autoParam (c.hd=none) apA) (hc:autoParam (c.comp=false) apA) (hs:autoParam (∀x,aa4 iter c.env x=pure x) apR):ES c n S (.For (.Name x px) iter body orelse p) Q E:=wB Inv h hl (λi k v S1 hx hi=>step i k v S1 _ hx hi λzz z=>z) fin hd hc hs
theorem gy(I:Nat→SS→Prop)(k:Nat)(h0:I k S)(turn:∀m S1 (N:SS→Prop),I m S1→(∀j S',j<m→I j S'→N S')→ET c n S1 test (Zh c n body orelse N Q E) E)(hc:autoParam (c.comp=false) apA):ES c n S (.While test body orelse p) Q E:=Bs I k h0 (λm S1 hi=>(turn m S1 (λS3=>∃j,j<m∧I j S3) hi λj S' hj h=>⟨j,hj,h⟩)) hc
end
end
section
variable{y:Int}
section
variable{c:Cx} {n:Nat} {S:SS} {E:EP}
theorem wE{x:Int}(h:Q (.int (x-y)) S):IO c n S .Sub (.int x) (.int y) Q E:=λv w hv hw=>W.of λok X A s hA R=>by
 let t r1:=eE (aP hv);subst r1;let u r1:=eE (aP hw);subst r1;with_reducible refine PyProof.Rows.isub_int ?_
 exact⟨S,R.toks,h⟩
theorem uH{x:Int}(hy:y≠0)(hp:Builtin.divisionGoesByPylong x y=false)(h:Q (.int (Int.fdiv x y)) S):BO c n S .FloorDiv (.int x) (.int y) Q E:=λv w hv hw=>W.of λok X A s hA R=>by
 let t r1:=eE (aP hv);subst r1;let u r1:=eE (aP hw);subst r1;with_reducible refine PyProof.Rows.floordiv_int hy ?_ (.inl hp)
 exact⟨S,R.toks,h⟩
theorem JA{e:Expr}(h:EE c n S e (λv S1=>∃i,v= .int i∧Q (.int (-i)) S1) E):EE c n S (.UnaryOp .USub e p) Q E:=.i λok X A s hA R=>wpAny_UnaryOp (h.st ok X A s hA R λv s1 S1 R1 h8=>ak h8 λi hv hq=>by let t r1:=eE (aP hv);subst r1;exact PyProof.Rows.neg_int ⟨S1,R1.toks,hq⟩)
theorem pk(h:Q (.bool false) S):CO c n S .Eq (.str x) .none Q E:=λv w hv hw=>W.of λok X A s hA R=>by
 let t r1:=eE (aD hv);subst r1;obtain rfl:=eO hw;with_reducible refine EqNone.eq_str_none ?_
 exact⟨S,R,h⟩
theorem nH(h:Q (.bool true) S):CO c n S .Eq .none .none Q E:=λv w hv hw=>W.of λok X A s hA R=>by
 obtain rfl:=eO hv;obtain rfl:=eO hw;with_reducible refine EqNone.eq_none_none ?_
 exact⟨S,R,h⟩
end
end
section
variable{i:Int}
section
variable{c:Cx} {n:Nat} {S:SS} {E:EP}
theorem qe(h:Q (.type "int") S):bM c n S (.type "type") [.int i] Q E:=λf vs hf bx=>W.of λok X A s hA R=>by obtain rfl:=bI hf;let v r1 hv:=ak (cP bx);subst r1;let t r1:=eE (aP hv);subst r1;exact call_type_of (typeIs_int _ _ _) '2' ⟨S,R,h⟩
theorem j5(h:Q (.type "str") S):bM c n S (.type "type") [.str x] Q E:=λf vs hf bx=>W.of λok X A s hA R=>by obtain rfl:=bI hf;let v r1 hv:=ak (cP bx);subst r1;let t r1:=eE (aD hv);subst r1;exact call_type_of (adN _ _ _) '2' ⟨S,R,h⟩
theorem nI(h:Q (.int i) S):bM c n S (.type "int") [.int i] Q E:=λf vs hf bx=>W.of λok X A s hA R=>by obtain rfl:=bI hf;let v r1 hv:=ak (cP bx);subst r1;let t r1:=eE (aP hv);subst r1;exact call_int_int ⟨S,R,h⟩
theorem sw(h:Q (.bool true) S):bM c n S (.bi "isinstance") [.str x,.type "str"] Q E:=λf vs hf bx=>W.of λok X A s hA R=>by obtain rfl:=dT hf;let v y r2 hv hy:=bG (fR bx);subst r2;let t r1:=eE (aD hv);subst r1;obtain rfl:=bI hy;exact call_isinstance_yes (adN _ _ _) '3' (by rw[ab6];kernel_rfl) ⟨S,R,h⟩
end
end
section
abbrev vM:Obj:={cls:=.type "collections.deque",data:=.fields #[.none,abJ 0]}
namespace DQ
theorem mro:mroOf (.type "collections.deque")=pure [.type "collections.deque",.type "object"]:=by rw[mroOf_type];kernel_rfl
theorem wF:typeLookup (.type "collections.deque") "__new__"=pure (some (.builtin "collections.deque.__new__")):=by rw[acu,abD];kernel_rfl
theorem jC:Slot "collections.deque" "__init__" "collections.deque.__init__":=.of (owner:="collections.deque") (n:="__init__") (by rw[acu,abD];kernel_rfl) (by decide+kernel) (by decide+kernel) (by decide+kernel) (by first|exact .inl (by decide+kernel)|exact .inr (by decide+kernel)) (by rw[ab6];kernel_rfl)
theorem kX:Slot "collections.deque" "__len__" "collections.deque.__len__":=.of (owner:="collections.deque") (n:="__len__") (by rw[acu,abD];kernel_rfl) (by decide+kernel) (by decide+kernel) (by decide+kernel) (by first|exact .inl (by decide+kernel)|exact .inr (by decide+kernel)) (by rw[ab6];kernel_rfl)
theorem called:TypeCalled "collections.deque" "collections.deque.__new__" "collections.deque.__init__":=⟨by decide+kernel,by decide+kernel,(ba _ _ mro),madeBy_type mro wF (by decide+kernel),by decide+kernel,by rw[ab6];kernel_rfl,jC⟩
theorem JB: @checkBuiltinCall= @PySem.W.Fast.tw10254737850608025244:=PySem.W.Fast.te10254737850608025244
theorem JC: @checkTypeCall= @PySem.W.Fast.tw11612656972197000677:=PySem.W.Fast.te11612656972197000677
theorem JD: @checkBoundCall= @PySem.W.Fast.tw2380090244228891947:=PySem.W.Fast.te2380090244228891947
theorem typeCall:checkTypeCall "collections.deque" ⟨[],[]⟩=pure ():=by rw[JC];kernel_rfl
theorem EV:checkBuiltinCall "collections.deque.__new__" ⟨[.type "collections.deque"],[]⟩=pure ():=by rw[JB];kernel_rfl
theorem mx:entryFor table "collections.deque.__new__"=some Builtin.«collections.deque.__new__»:=entryFor_of_tree '3'
theorem ks:entryFor table "collections.deque.__init__"=some Builtin.«collections.deque.__init__»:=entryFor_of_tree '3'
theorem entry_len:entryFor table "collections.deque.__len__"=some Builtin.«collections.deque.__len__»:=entryFor_of_tree '3'
theorem zk(a:Value):argsOk "collections.deque.__init__" ⟨[a],[]⟩:=by unfold argsOk;kernel_rfl
theorem BL(a:Value):argsOk "collections.deque.__len__" ⟨[a],[]⟩:=by unfold argsOk;kernel_rfl
theorem x_:typeLookup (.type "collections.deque") "__bool__"=pure none:=by rw[acu,abD];kernel_rfl
theorem BM:Builtin.«collections.deque.__new__» ⟨[.type "collections.deque"],[]⟩=(do let d←newObj (.type "collections.deque") (.fields #[.none,abJ 0]) none;ret d):=by kernel_rfl
theorem zl(a:Addr):Builtin.«collections.deque.__init__» ⟨[.ref a],[]⟩=(do setField (.ref a) 0 .none;Builtin.Deque.clear (.ref a);ret .none):=by first|rfl|kernel_rfl
end DQ
section
variable{c:Cx} {n:Nat} {S:SS} {E:EP} {s:aas} {X:Cells}
theorem pq(h:∀a,Q (.ref a) ⟨S.loc,(a,.raw vM)::S.cells⟩):bM c n S (.type "collections.deque") [] Q E:=λf vs hf bx=>W.of λok X A s hA R=>by
 obtain rfl:=bI hf;obtain rfl:=Bt bx;have hg:=aaG s.heap (o:=vM) rfl;have g:Meets (Builtin.«collections.deque.__new__» ⟨[.type "collections.deque"],[]⟩) (λzz R s=>R (.ok (.ret (.ref s.heap.objs.size))) {s with heap:=s.heap.push vM}):=Meets.of_wp λprog w A R s h=>by rw[DQ.BM];exact aac (abI (aal ⟨_,rfl,h⟩) (by change(2:Nat)≤ac_+2;decide))
 show callType_meets (Q₁:=λobj s1=>obj= .ref s.heap.objs.size∧s1={s with heap:=s.heap.push vM}) DQ.called DQ.typeCall DQ.EV DQ.mx DQ.ks g ⟨rfl,rfl⟩;intro obj s1 Vd;let r0 r1:=eA Vd;subst r0;subst r1;refine⟨⟨_,hg,rfl⟩,DQ.zk _,λzz R s2=>s2={s with heap:=s.heap.push vM}∧∀h',h'.get? s.heap.objs.size=some vM→(∀b o,b≠s.heap.objs.size→(s.heap.push vM).get? b=some o→h'.get? b=some o)→R (.ok (.ret .none)) {s with heap:=h'},?_,rfl,λh' h1 h2=>⟨rfl,?_⟩⟩;refine Meets.of_wp λprog w A R s2 h8=>eA h8 λe h2=>?_;subst e;rw[DQ.zl];refine aac (wpAny_setField_rec hg (by simp) λh1 vN wG=>?_);have PQ:h1.get? s.heap.objs.size=some vM:=vN;unfold Builtin.Deque.clear Builtin.Deque.items;refine aac (aac (aac (wpAny_fieldsOf PQ rfl (aal ?_))));with_reducible refine qI '2' ?_
 refine aal (aal ⟨_,rfl,h2 h1 PQ λb o hb e=>(wG.2 b hb).trans e⟩);refine⟨⟨S.loc,(s.heap.objs.size,.raw vM)::S.cells⟩,?_,h _⟩;exact R.alloc (λb o e=>h2 b o (abf (aa3 e)) (aap _ e)) (aak _) h1 ⟨rfl,rfl⟩ (aak _)
theorem uI{Q:Bool→SS→Prop}(hm:At (a,.raw vM) S.cells)(h:Q false S):TR c n S (.ref a) Q E:=λv hv=>W.of λok X A s hA R=>by
 obtain rfl:=aj hv
 refine bN (R.cells _ (aaf _ hm.mem)) λo ho r2 z3=>?_
 obtain rfl:=r2
 have hT:s.TypeIs (.ref a) "collections.deque":=⟨_,ho,rfl⟩
 have key:wpAny (model prog c.w) A (runValue (.builtin "len" ⟨[.ref a],[]⟩)) (λr s'=>r= .int 0 (s.toks+1)∧QX c X Q false s') (λzz zz=>False) s:=by
  refine wpAny_runValue (acs entry_len ?_)
  rw[acI plain_len _]
  refine aau (Q:=λfin s'=>∃r,fin=Fin.done (.ret r)∧r= .int 0 (s.toks+1)∧QX c X Q false s') (E:=λzz zz=>False) ?_ (λfin s' h'=>by refine ak h' λr r1 hq=>?_;obtain rfl:=r1;exact hq) λzz zz e=>e
  unfold Builtin.«len»
  refine aac (m:=oneArg "len" _) (aal ?_)
  refine aac (m:=callSpecial? (.ref a) (aby "__len__")) (adn (name:=aby "__len__") hT DQ.kX
   (wpAny_call_entry DQ.kX hT DQ.entry_len ?_ (DQ.BL _)))
  change wpAny _ _ (do retInt (←Builtin.Deque.size (.ref a))) _ _ s
  unfold Builtin.Deque.size
  refine aac (aac (wpAny_fieldsOf ho rfl (aal ?_)))
  refine aac (wpAny_mkInt (aal ⟨_,rfl,?_⟩))
  refine aac (abk (aal ?_))
  refine aac (wpAny_letGo ?_)
  change wpAny _ _ (if((0:Nat):Int)<0 then _ else _) _ _ _
  with_reducible refine qI '2' ?_
  change wpAny _ _ (if((0:Nat):Int)≥2^63 then _ else _) _ _ _
  with_reducible refine qI '2' ?_
  exact aac (wpAny_mkInt (aal ⟨_,rfl,rfl,S,R.toks (aab (aa2 _) (aa2 _)),h⟩))
 unfold truthy
 first
  |refine aac (wpAny_callSpecial?_none (name:=aby "__bool__") hT DQ.x_ ?_)
  |refine aac (aal (aac (wpAny_callSpecial?_none (name:=aby "__bool__") hT DQ.x_ ?_)))
 first
  |refine aac (acN (name:=aby "__len__") hT DQ.kX.lookup ?_)
  |refine aac (aal (aac (acN (name:=aby "__len__") hT DQ.kX.lookup ?_)))
 first
  |exact aac (aau key (λr s' h'=>by refine eA h' λr0 hq=>?_;obtain rfl:=r0;exact aal hq) λzz zz e=>e)
  |exact aac (aal (aac (aau key (λr s' h'=>by obtain⟨rfl,hq⟩:=h';exact aal hq) λzz zz e=>e)))
end
end
section
variable{s:aas} {Q:List (Str×Value)→aas→Prop}
theorem nJ:∀{pos:List Value} (n:Str),n∈names→names.length≤pos.length→((names.zip pos).lookup n).isSome=true:=by
 induction names with
 |nil=>intro pos n h;cases h
 |cons a r ih=>
  intro pos n h hl;cases pos with
  |nil=>cases hl
  |cons v pos=>rw[List.zip_cons_cons,adR];cases hb:(n==a)with|true=>rfl|false=>exact ih n ((aai.mp h).resolve_left (by simpa using hb:n≠a)) (acT hl)
theorem BN{f g:α→Option β}:∀{l:List α},(∀x∈l,f x=g x)→l.filterMap f=l.filterMap g:=by intro l0;induction l0 with|nil=>exact λzz=>rfl|cons a l ih=>intro h;rw[List.filterMap_cons,List.filterMap_cons,h a (.head _),ih λx hx=>h x (.tail _ hx)]
theorem wH:∀{pos:List Value},names.Nodup→names.length≤pos.length→names.filterMap (λn=>((names.zip pos).lookup n).map λv=>(n,v))=names.zip pos:=by
 induction names with|nil=>intro pos _ _;rfl|cons a r ih=>
  intro pos nd hl;cases pos with
  |nil=>cases hl
  |cons v pos=>have xi:=aaB.mp nd;rw[List.zip_cons_cons,List.filterMap_cons];simp only[adR,beq_self_eq_true,Option.map_some];congr 1;refine(BN (g:=λn=>((r.zip pos).lookup n).map λv=>(n,v)) λn hn=>?_).trans (ih xi.2 (acT hl));have:(n==a)=false:=(by have:n≠a:=λq=>xi.1 (q▸hn);simpa using this);rw[this]
theorem ku{i:β}{f:α→β→Sem (ForInStep β)}{Q:β→aas→Prop}(h:Q i s):wpAny M A (forIn ([]:List α) i f) Q E s:=by rw[List.forIn_nil];exact aal h
theorem wI{l:List α}{i:β}{f:α→β→Sem (ForInStep β)}{Q:β→aas→Prop}(hl:l=[])(h:Q i s):wpAny M A (forIn l i f) Q E s:=hl▸ku h
theorem qX{fd:aaP}{va:Arg}{pos:List Value}(h1:fd.params.posonlyargs=[]) (h2:fd.params.args.map (λx=>x.arg)=names) (h3:fd.params.vararg=some va) (h4:fd.params.kwonlyargs=[]) (h5:fd.params.kwarg=none) (h6:fd.defaults= .none) (nd:names.Nodup) (hl:names.length≤pos.length) (hz:pos.length≤lim)(h:Q (names.zip pos++[(va.arg,.ref s.heap.objs.size)]) {s with heap:=s.heap.push {cls:=.type "tuple",data:=.seq (pos.drop names.length).toArray}}):wpAny M A (adb fd ⟨pos,[]⟩) Q E s:=by
 have PR:∀k,((names.take k).filter λn=>((names.zip pos).lookup n).isNone)=[]:=λk=>by
  rw[abc];intro n hn;have:=nJ (pos:=pos) n (adO hn) hl;cases q:(names.zip pos).lookup n with
  |none=>rw[q]at this;cases this
  |some v=>exact aa1
 have tO:=wH nd hl;have hlen:(pos.drop names.length).length≤ac_:=by rw[aa9];exact aab (Nat.sub_le _ _) (ax hz)
 have qf:wpAny M A (newTuple (pos.drop names.length)) (λv s'=>Q (names.zip pos++[(va.arg,v)]) s') E s:=wpAny_newTuple h hlen;clear hz nd hl h hlen;obtain⟨fname,fq,⟨po,ar,vr,ko,kd,kw,df⟩,body,sc,gl,clo,dfs,kdf,doc,pm,ann,cd,ct,bi⟩:=fd;dsimp only at h1 h2 h3 h4 h5 h6;subst h1 h2 h3 h4 h5 h6;unfold adb;refine aac (ku ?_);refine aac (ab2 (a:=none) rfl (adA (decide_eq_false λq=>?_) (adA (decide_eq_false λq=>?_) ?_)));rw[show(some va).isNone=false from rfl,Bool.and_false]at q;cases q;have q:(!(((ar.map (λx=>x.arg)).take _).filter λn=>(((ar.map (λx=>x.arg)).zip pos).lookup n).isNone).isEmpty)=true:=q;rw[PR]at q;cases q;refine aac (wI ((congrArg (List.zip _) List.drop_nil).trans List.zip_nil_right) ?_);refine aac (ku (adA rfl (aac (aau qf (λv s' hq=>aal ?_) λzz zz z=>z))));exact(λl e=>by subst e;rw[tO];exact hq:∀l,l=ar.map Arg.arg→Q (l.filterMap (λn=>Option.map (λv=>(n,v)) (List.lookup n ((ar.map Arg.arg).zip pos)))++[(va.arg,v)]) s') _ (aaO _)
theorem FC.pr{K0:aao→Frag}{args:List AV}{Q:AV→Cells→Prop}{E:Value→Cells→Prop}{fd:aao→aaP}(hf:∀P,cy (K0 P) fx (fd P) body) (gl:∀P,bH (K0 P) fx)(hb:∀(c:Cx) (S:SS) (X:Cells) (A:ads) (s:aas) (pos:List Value) (kws:List (Str×Value)),c.Ok→c.K=K0 c.w.params→pos.map ab=args→kws.map (λp=>(p.1,ab p.2))=kw→Rp c (S.ext X) s→wpAny (model prog c.w) A (adb (fd c.w.params) ⟨pos,kws⟩) (λbinds s1=>∃D loc,Rp c (S.ext (D++X)) s1∧e7 fx binds loc∧B D loc) nD s)(h:∀(c:Cx) (D:Cells) (loc:List (Str×Option AV)) (Q':FL→SS→Prop) (E':EP),B D loc→c.K=K0 c.w.params→c.hd=none→c.fx=fx→c.comp=false→c.env=envX fx.cn fx.cs c.L fx.a fx.cd []→(∀v S' C D,aq C S'.cells D→Q v C→Q' (.ret v) S')→(∀S' C D,aq C S'.cells D→Q .none C→Q' .next S')→(∀k S' C D,aq C S'.cells D→E k C→E' k S')→EB c n ⟨loc,D++C⟩ body Q' E'):FC K0 (n+1) fx.a args kw C Q E:=by
 intro c S hK hd hC pos kws hp v8 ok X A s hA R;have F:=hf c.w.params;have fg:(K0 c.w.params).In s.heap:=λa o e=>R.stays a o (ok.eH.fg a o (hK▸e));let oc od osl ho:=vT F.obj;let h1 h2 h3 h4:=jd hA;show codeAny_call_function (fd:=fd c.w.params) (body:=body) (by exact Lw h3) (fg _ _ ho) rfl F.co F.gen F.body (codeRec_of fg F.code);refine tP (aau (hb c S X A.in1 s pos kws ok hK hp v8 R) (λbinds s1 Ve=>?_) λzz zz z=>z);let D loc R1 hl hB:=bG Ve;subst hC;have PS:Rp c (SS.ext ⟨S.loc,D++S.cells⟩ X) s1:=R1.perm (cells':=D++S.cells++X) (by change(D++S.cells++X).Perm (S.cells++(D++X));rw[←aaw];exact List.Perm.append_right _ aaY);let m hn hm:=ak PS.ns;refine wpAny_newFunctionEnv F.cells (λx hx=>F.cs▸hl.kb x hx) (λh' lS PV=>?_) F.kind;have keep:∀b o,s1.heap.get? b=some o→h'.get? b=some o:=λb o e=>PV.extBut b o (abf (aa3 e)) (aap _ e);have envE:newEnv (fd c.w.params).scope s1.heap.objs.size (fd c.w.params).globals (fd c.w.params).closure ((fd c.w.params).qualname++".<locals>.") (some fx.a) (fd c.w.params).code none (fd c.w.params).builtins=(c.enter fx m s1.heap.objs.size).env:=by simp only[F.cs,F.glob,F.rN,F.qual,F.cd,F.v9];rfl
 refine⟨(ok.eH.lim.keeps R1.stays).keeps keep,codeAny_func ?_⟩;rw[envE];have Dw:=Cx.jh (m:=m) (L:=s1.heap.objs.size) ok hK gl (F.cs▸F.kind) (aaN (aaC ok.above hn.lt):c.base.objs.size≤s1.heap.objs.size);have qM:(c.enter fx m s1.heap.objs.size).In (A.deeper (c.enter fx m s1.heap.objs.size).env) n:=by refine⟨?_,h2,?_,?_⟩;change A.frames.map _=_;rw[h1,Cx.dp (c:=c.enter fx m s1.heap.objs.size) rfl,Cx.e8];rfl;change A.depth+1+n<_;exact RQ h3;change A.units+3+8*n<_;exact SM h4
 have PW:=W.letE (E:=λk S'=>E k S'.cells) (W.let (h (c.enter fx m s1.heap.objs.size) D loc (λf S'=>∃C D,S'.cells.Perm (C++D)∧Sd Q f ⟨S'.loc,C⟩) (λk S'=>∃C D,S'.cells.Perm (C++D)∧E k C) hB hK hd rfl rfl rfl (λv S' C D p x=>(ba C D ⟨p.perm,x⟩)) (λS' C D p x=>(ba C D ⟨p.perm,x⟩)) λk S' C D p x=>(ba C D ⟨p.perm,x⟩)));refine aau (PW.run Dw _ _ _ qM (PS.enter (fx:=fx) (m':=λx=>binds.reverse.lookup x) (h₁:=h') (tk:=s1.toks+binds.length) ok hn keep lS hl.vals hl.nd hl.kinds (aa5 _ _))) (λf s' h8=>h8.el λS' R2 k=>?_) λx s' h8=>h8.el λe k S' hx hF R2 hE=>?_
 ·cases f with|ret v=>exact⟨⟨S.loc,S'.cells⟩,Rp.back (S:=⟨S.loc,D++S.cells⟩) ok PS hm R2,rfl,k⟩|next=>exact⟨⟨S.loc,S'.cells⟩,Rp.back (S:=⟨S.loc,D++S.cells⟩) ok PS hm R2,rfl,k⟩|brk=>exact k.elim|cont=>exact k.elim
 subst hx;refine aac (jA Dw rfl qM.1 R2 hF λh2 R3 F3=>?_);exact⟨e,k,⟨S.loc,S'.cells⟩,rfl,qa.back (loc:=S.loc) F3,Rp.back (S:=⟨S.loc,D++S.cells⟩) ok PS hm R3,rfl,hE⟩
end
section
variable{x:Addr} {v:AV} {po:Pos}
section
variable{c:Cx} {n:Nat} {S:SS} {E:EP}
abbrev Hi(c:Cx)(n:Nat)(f x:Addr)(Q:AV→SS→Prop)(E:EP):List AV→SS→Prop:=λas S2=>bM c n S2 (.ref f) (.ref x::as) Q E
abbrev PX(c:Cx)(n:Nat)(nm:Str)(args:List Expr)(Q:AV→SS→Prop)(E:EP):AV→SS→Prop:=λa S1=>∃x C d es k f,a= .ref x∧At (x,.inst C d) S1.cells∧At (d,.dict es k) S1.cells∧mf c.K C nm f=true∧dU es nm=none∧EA c n S1 args (Hi c n f x Q E) E
theorem Hj{e:Expr}{nm:Str}{pos:Pos}(h:EE c n S e (PX c n nm args Q E) E)(he:autoParam (bo e=false) apR) (hs:autoParam (args.all aV=true) apR) (hlen:autoParam ((decide (args.length<30))=true) apR) (bw:autoParam ((ap.endLine==pos.line)=true) apR):EE c n S (.Call (.Attribute e nm ap) args [] pos) Q E:=uq (h.az λv S1 h8=>dZ h8 λx C d es k f h1 h2 h3 h4 h5 h6=>(yO x C d es k f ⟨h1,h2.mem,h3.mem,h4,h5,h6⟩)) he hs hlen bw
abbrev PY(c:Cx)(n:Nat)(nm:Str)(Q:AV→SS→Prop):AV→SS→Prop:=λa S1=>∃x C d es k r,a= .ref x∧At (x,.inst C d) S1.cells∧At (d,.dict es k) S1.cells∧attrOk c.K C nm=true∧At (nm,r) es∧hand r=true∧Q r S1
theorem W.PZ{t:Sem α}{Q:α→SS→Prop}(h:W c n S t (λv S1=>(∀d es k,(d,.dict es k)∈S1.cells→(es.map (λx=>x.1)).Nodup)→Q v S1) E):W c n S t Q E:=.i λok X A s hA R=>h.st ok X A s hA R λv s1 S1 R1 k=>⟨S1,R1,k λd es k hd=>R1.oV (aaf _ hd)⟩
theorem Hk{e:Expr}{nm:Str}(h:EE c n S e (PY c n nm Q) E)(he:autoParam (bo e=false) apR):EE c n S (.Attribute e nm p) Q E:=rR (W.PZ (h.az λv S1 h8 hn=>cX h8 λx C d es k r h1 h2 h3 h4 h5 h6 h7=>(yO x C d es k r ⟨h1,h2.mem,h3.mem,h5.dU (hn _ _ _ h3.mem),h4,h6,h7⟩))) he
abbrev JE(c:Cx)(n:Nat)(nm:Str)(Q:SS→Prop)(x:Addr):AV→SS→Prop:=λv S'=>∃C d es k lT cells',At (x,.inst C d) S'.cells∧aI d (.dict es k) (.dict lT k) S'.cells cells'∧eC nm v es lT∧dg c.K C nm=true∧es.length<1000∧Q ⟨S'.loc,cells'⟩
theorem JF{nm:Str}{Q:SS→Prop}(h:JE c n nm Q x v S):SA c n S (.ref x) v nm Q E:=λo y ho hy=>.i λok X A s hA R=>by let C d es k lT cells' h2 h4 h3 h5 h6 h7:=dZ h;obtain rfl:=aj ho;have nd:=R.oV (aaf _ h4.mem);refine(ma (c:=c) (n:=n) (S:=S) (E:=E) (Q:=λzz=>Q) (v:=y) (k:=k) (es:=es) (d:=d) h2.mem (cells':=cells') ?_ h5 h6 h7).run ok X A s hA R;rw[hy,←h3.eq nd,x9 nd h3];exact h4
abbrev Hl(c:Cx)(n:Nat)(nm:Str)(Q:SS→Prop)(x:Addr)(E:EP):AV→SS→Prop:=λv S'=>JE c n nm Q x v S'
abbrev Hm(c:Cx)(n:Nat)(nm:Str)(op:Operator)(Q:SS→Prop)(x:Addr)(r:AV)(E:EP):AV→SS→Prop:=λb S2=>IO c n S2 op r b (Hl c n nm Q x E) E
abbrev P_(c:Cx)(n:Nat)(nm:Str)(op:Operator)(value:Expr)(Q:SS→Prop)(E:EP):AV→SS→Prop:=λa S1=>∃x C d es k r,a= .ref x∧At (x,.inst C d) S1.cells∧At (d,.dict es k) S1.cells∧attrOk c.K C nm=true∧At (nm,r) es∧hand r=true∧EE c n S1 value (Hm c n nm op Q x r E) E
theorem W.Qa{t:Sem α}{Q:α→SS→Prop}(h:(∀d es k,(d,.dict es k)∈S.cells→(es.map (λx=>x.1)).Nodup)→W c n S t Q E):W c n S t Q E:=.i λok X A s hA R=>(h λd es k hd=>R.oV (aaf _ hd)).run ok X A s hA R
theorem Qb{o:Expr}{nm:Str}{Q:FL→SS→Prop}(h:EE c n S o (P_ c n nm op value (Q .next) E) E):ES c n S (.AugAssign (.Attribute o nm p) op value p') Q E:=
 mZ (h.az λa S1 h8=>cX h8 λx C d es k r h1 h2 h3 h4 h5 h6 h7=>λv hv=>W.Qa λhn=>by
  obtain rfl:=aj (hv.trans h1)
  rw[h1]
  exact qP (Q:=λold S2=>EE c n S2 value (λb S3=>IO c n S3 op old b (λr S4=>SA c n S4 (.ref x) r nm (Q .next) E) E) E) h2.mem h3.mem (h5.dU (hn _ _ _ h3.mem)) h4 h6 (h7.az λb S2 k2=>λv w hv hw=>(k2 v w hv hw).az λr2 S3 k3=>JF k3))
abbrev XM(c:Cx)(n:Nat)(xn nm:Str)(Q:FL→SS→Prop):AV→SS→Prop:=λv S'=>∃x,At (xn,some (.ref x)) S'.loc∧JE c n nm (Q .next) x v S'
theorem Vf{nm:Str}{Q:FL→SS→Prop}(h:EE c n S value (XM c n xn nm Q) E)(hs:autoParam (ac6 value (some (.Attribute (.Name xn po) nm p')) p.line c.env=pure false) apR):ES c n S (.Assign [.Attribute (.Name xn po) nm p'] value p) Q E:=PP (h.az λv S1 h8=>oF h8 λx h1 C d es k lT cells' h2 h4 h3 h5 h6 h7=>(Xn x C d es k lT cells' ⟨h1,h2,h3,h4,h5,h6,h7⟩)) hs
def isNew(es:List (Str×AV))(nm:Str):Bool:=(es.map (λx=>x.1)).all λx=> !(x==nm)
theorem zm{nm:Str}(h:isNew es nm=true):n5 es nm v=es++[(nm,v)]∧dU es nm=none:=by induction es with|nil=>exact⟨rfl,rfl⟩|cons p r ih=>unfold isNew at h ih;simp only[aan,adB,aaM,ab3,beq_eq_false_iff_ne]at h;unfold n5 dU;rw[if_neg h.1,if_neg h.1];have:=ih (by simpa using h.2);exact⟨by rw[this.1];rfl,this.2⟩
theorem Qd{nm:Str}{Q:FL→SS→Prop}(h:EE c n S value (λv S'=>∃x C d es k lT cells',At (xn,some (.ref x)) S'.loc∧At (x,.inst C d) S'.cells∧aI d (.dict es k) (.dict lT (k+1)) S'.cells cells'∧isNew es nm=true∧es++[(nm,v)]=lT∧dg c.K C nm=true∧es.length<1000∧Q .next ⟨S'.loc,cells'⟩) E)(hs:autoParam (ac6 value (some (.Attribute (.Name xn po) nm p')) p.line c.env=pure false) apR):ES c n S (.Assign [.Attribute (.Name xn po) nm p'] value p) Q E:=
 fW (h.az λv S1 h8=>nA h8 λx C d es k lT cells' h1 h2 h3 h4 h5 h6 h7 h8=>dM h1 λo y ho hy=>by
  obtain rfl:=aj ho
  refine(ma (c:=c) (n:=n) (S:=S1) (E:=E) (Q:=λzz=>Q .next) (v:=y) (k:=k) (es:=es) (d:=d) h2.mem (cells':=cells') ?_ h6 h7 h8)
  refine eA (zm (v:=ab y) h4) λe1 e2=>?_
  unfold LD
  rw[e1,e2,hy,h5];exact h3) hs
def wJ(K:Frag)(C:Addr)(nm:Str)(p f:Addr):Bool:=plainGet K C nm&&hasDictIn K C&&adf K (.ref C) nm==some (some (.ref p))&&specialIn K (.ref p) "__get__"==some (some (.builtin "property.__get__"))&&takesIn K (.ref p)==some true&&(recIn K p "property").map List.head? ==some (some (.ref f))
theorem JG{K0:aao→Frag}{nm:Str}{C p f:Addr}{m:Nat}{Cf:Cells}(hx:At (xn,some (.ref x)) S.loc)(hi:At (x,.inst C d) S.cells)(Qe:At (d,.dict es k) S.cells)(p3:wJ c.K C nm p f=true)(hf:FC K0 m f [.ref x] [] Cf Qf (λzz zz=>False)) (hp:aq Cf S.cells D) (hK:c.K=K0 c.w.params) (hd:c.hd=none) (h:∀v C',Qf v C'→hand v=true∧Q v ⟨S.loc,C'++D⟩) (hm:m+1≤n):EE c n S (.Attribute (.Name xn pn) nm pp) Q E:=rQ (dM hx λv hv=>by obtain rfl:=aj hv;exact .i λok X A s hA R=>by let ents I z2:=ak (R.inst hi.mem Qe.mem);have Xk:=fQ ok R;unfold wJ at p3;simp only[aaM,beq_iff_eq]at p3;obtain⟨⟨⟨⟨⟨k1,k2⟩,k3⟩,k4⟩,k5⟩,k6⟩:=p3;let l hr e:=ak (aaq.mp k6);let rest e2:=eE (List.head?_eq_some_iff.mp e);subst e2;refine get_bind Xk I (plainGet_of k1).1 (findObj_data (by refine ak (any_some k2) λcd hc z2=>?_;rw[hc];rfl) k3 k4 k5) (plainGet_of k1).2 (abH (prop_get (s:={s with toks:=s.toks+1}) Xk hr ?_));have R2:Rp c ((⟨S.loc,Cf⟩:SS).ext (D++X)) {s with toks:=s.toks+1}:=(by show(R.toks (k:=s.toks+1)).perm (cells':=Cf++(D++X));rw[←aaw];exact(hp.perm.append_right X).symm);have Pn:c.In A.in1 m:=(by let a1 a2 a3 a4:=jd hA;exact⟨a1,a2,by change A.depth+m<_;exact M8 hm a3,by change A.units+1+8*m<_;exact M9 hm a4⟩);refine hf.any (S:=⟨S.loc,Cf⟩) hK hd rfl (pos:=[.ref x]) (kws:=[]) rfl rfl ok Pn R2 (λv s' C' z1 z3=>?_) λzz zz zz zz zz zz z=>z.elim;let y1 y2:=eA (h _ _ z3);change wpAny _ _ (handedOut v) _ _ _;rw[handedOut_of (handed y1)];refine aal ⟨⟨S.loc,C'++D⟩,?_,y2⟩;change Rp c ⟨S.loc,(C'++D)++X⟩ s';rw[aaw];exact z1)
end
end
section
section
variable{c:Cx} {n:Nat} {S:SS} {E:EP}
theorem zn{E:Value→aas→Prop}{s:aas}{pos:Pos}{id:String}{Q:Value→aas→Prop}(hl:typeLookup (.type T) "__getitem__"=pure (some (.builtin id)))(h:wpAny (model prog w) A (eval value env) (λo s₁=>wpAny (model prog w) A (eval (.Slice lower upper none p) env) (λi s₂=>s₂.TypeIs o T∧wpAny (model prog w) A (getItem o i) Q E s₂) E s₁) E s):wpAny (model prog w) A (eval (.Subscript value (.Slice lower upper none p) pos) env) Q E s:=by
 rw[eval_Subscript];refine aac (aau h (λo s₁ h₁=>aac (abk (aau h₁ (λi s₂ h₂=>aac (abu ?_)) λzz zz x=>x))) λzz zz x=>x);have fin:wpAny (model prog w) A (operate [i,o] (getItem o i)) (λr s₃=>wpAny (model prog w) A (letTemporaryGo value o r>>=λzz=>pure r) Q E s₃) E s₂:=wpAny_operating (aau h₂.2 (λr s₃ h₃=>aac (wpAny_letTemporaryGo (aal h₃))) λzz zz x=>x);first
  |(refine aac ?_
    rw[getitemInPython_of_ne h₂.1.not_modules]
    refine aac (acN h₂.1 hl ?_)
    first
     |exact aal (aac fin)
     |exact aac (aal (aac fin))
     |exact aac fin)
  |(refine aac (acN h₂.1 hl ?_)
    first
     |exact aac (aal (aac fin))
     |exact aac fin)
theorem uJ(h:EE c n S value (λa S1=>PE c n S1 lower (λx S2=>PE c n S2 upper (λy S3=>∃z lo hi,a= .str z∧x=mY lo∧y=mY hi∧(b8 z lo hi).length≤lim∧Q (.str (b8 z lo hi)) S3) E) E) E):EE c n S (.Subscript value (.Slice lower upper none p) p') Q E:=.i λok X A s hA R=>by refine zn (T:="str") PySem.F.slot_str_getitem.lookup (h.st ok X A s hA R λo s1 S1 R1 h1=>wpAny_Slice (h1.st ok X A s1 hA R1 λx s2 S2 R2 h2=>h2.st ok X A s2 hA R2 λy s3 S3 R3 h8=>je h8 λz lo hi h3 h5 h6 h7 h8=>?_));let t r1:=eE (aD h3);subst r1;let l r1 r2:=ak (G9 h5);subst r1;subst r2;let u r1 r2:=ak (G9 h6);subst r1;subst r2;rw[evalPart_none];have R4:=R3.keeps (h':=s3.heap.push {cls:=.type "slice",data:=.fields #[partValue l,partValue u,.none]}) (tk:=s3.toks) (λb o e=>aap _ e);refine aal ⟨adN _ z t,wpAny_getItem_str_slice (l:=l) (u:=u) (st:=none) ⟨_,aaG _ rfl,rfl,rfl⟩ rfl ?_⟩;delta sliceMade slicePicked;unfold b8 at h7 h8;dsimp only[Option.map_none,Option.getD_none];by_cases q:((adI (l.map (λx=>x.1)) (u.map (λx=>x.1)) 1 z.length).length==z.length)=true;rw[if_pos q]at h7 h8;rw[if_pos (by simpa using q)];exact⟨S3,R4,h8⟩;rw[if_neg q]at h7 h8;rw[if_neg (by simpa using q)];exact⟨ax h7,S3,R4.toks (aa2 _),h8⟩
end
end
section
variable{Qf:Addr→Addr→AV→Cells→Prop}
section
variable{c:Cx} {n:Nat} {S:SS} {E:EP}
structure BP(K:Frag)(P:aao)(C fN fI:Addr):Prop where
 obj:∃oc od cd sl,K.lookup C=some ⟨oc,od,.cls cd,sl⟩∧cd.mro.isEmpty=false
 call:specialIn K (.ref C) "__call__"=some (some (.builtin "type.__call__"))
 typ:instIn K (.ref C) (.type "type")=some true
 made:peek K ⟨prog,P⟩ (Bind.madeBy (.ref C))=some none
 new:∃mc p rest,typeIn K (.ref C)=some mc∧readsIn K C mc=true∧findCls K (.ref C) mc "__new__"=some (.get (.builtin "staticmethod.__get__") (.ref p) .none (.ref C))∧recIn K p "staticmethod"=some (.ref fN::rest)
 self:mroIn K C (.ref C)=some true
 init:adf K (.ref C) "__init__"=some (some (.ref fI))
 fn:typeIn K (.ref fI)=some (.type "function")
theorem sy{K0:aao→Frag}{m:Nat}{C fI:Addr}(mk:BP c.K c.w.params C fN fI)(hK:c.K=K0 c.w.params)(hd:c.hd=none)(FN:FC K0 m fN (.ref C::as) [] [] (λv C'=>∃x d,v= .ref x∧C'=[(x,.inst C d),(d,.dict [] 0)]) (λzz zz=>False))(F:∀x dx,FC K0 m fI (.ref x::as) [] ([(x,.inst C dx),(dx,.dict [] 0)]++S.cells) (Qf x dx) (λzz zz=>False))(hq:∀x dx v C',Qf x dx v C'→v= .none∧Q (.ref x) ⟨S.loc,C'⟩) (Uc:m+1≤n):bM c n S (.ref C) as Q E:=λf pos Zi hp=>.i λok X A s hA R=>by
 obtain rfl:=aj Zi;have Xk:=fQ ok R;show abH;let oc od cd sl hC Vg:=vV mk.obj;let mc p rest n1 n2 n3 n4:=eN mk.new;have qM:=In.under (cd:=.builtin "type.__call__" ⟨.ref C::pos,[]⟩) hA (aae '3') '3' (aae '3') Uc;show codeAny_of_tree;change wpAny _ _ (callAny (.ref C) _) _ _ _;show nd_load (Xk _ _ hC);change wpAny _ _ (callAny.viaDunder (.ref C) _) _ _ _;refine aac ((looks_specialIn Xk mk.call).here ?_);dsimp only;rw[tc_bind];refine aac (aal (aac (aal ?_)));refine aal (a:=Fin.again (.call (.builtin "type.__call__") ⟨.ref C::pos,[]⟩)) (And.intro rfl ?_);with_reducible refine codeAny_call_builtin_at (Code.quiet_builtin _ (by decide+kernel)) entry_typeCall (check_slot tc_kind tc_split (looks_instIn Xk mk.typ) (tc_args _ _ _) ?_)
 unfold Builtin.«type.__call__»;have hm:Looks (model prog c.w) s.heap (mroOf (.ref C)) cd.mro:=((Looks.ld (part:=none) (Xk _ _ hC)).andThen .now).andThen .now;have XN:Looks (model prog c.w) s.heap (Bind.madeBy (.ref C)) none:=acf (M:=model prog c.w) Xk mk.made;have pi:∀{A':ads} {Q':Value→aas→Prop} {E':Value→aas→Prop},Q' (.ref fN) {s with toks:=s.toks+1}→wpAny (model prog c.w) A' (getAttr (.ref C) "__new__") Q' E' s:=λh=>cls_bind Xk n2 n3 (abH (sm_get (s:={s with toks:=s.toks+1}) Xk n4 (handed_on rfl h)));dsimp only;repeat(first|simp only[Vg,aaU,if_false]|(with_reducible refine pi ?_)|(with_reducible refine abH ?_)|lk)
 have R1:Rp c ((⟨S.loc,[]⟩:SS).ext (S.cells++X)) {s with toks:=s.toks+1}:=R.toks (k:=s.toks+1);refine FN.any (S:=⟨S.loc,[]⟩) hK hd rfl (pos:=.ref C::pos) (kws:=[]) (by rw[aan,hp];rfl) rfl ok qM R1 (λv s' C' R2 q=>?_) λzz zz zz zz zz zz z=>z.elim;let x d hv hC:=cI q;obtain rfl:=aj hv;rw[hC]at R2;have R3:Rp c ((⟨S.loc,[(x,.inst C d),(d,.dict [] 0)]++S.cells⟩:SS).ext X) s':=by change Rp c ⟨S.loc,([(x,.inst C d),(d,.dict [] 0)]++S.cells)++X⟩ s';rw[aaw];exact R2
 have X3:=fQ ok R3;let o ho LH:=ak (R3.cells (x,.inst C d) (.head _));obtain rfl:o=instObj C d:=LH;have t1:Looks (model prog c.w) s'.heap (typeOf (.ref x)) (.ref C):=(Looks.ld ho).andThen .now;have s1:=looks_mroIn (M:=model prog c.w) X3 mk.self;have i1:=looks_findIn (M:=model prog c.w) X3 mk.init;have b1:=bind_fn (M:=model prog c.w) X3 (.ref x) mk.fn;repeat(first|with_reducible refine abH ?_|lk)
 refine(F x d).any (S:=⟨S.loc,[(x,.inst C d),(d,.dict [] 0)]++S.cells⟩) hK hd rfl (pos:=.ref x::pos) (kws:=[]) (by rw[aan,hp];rfl) rfl ok qM R3 (λv s' C' R4 Se=>?_) λzz zz zz zz zz zz z=>z.elim;let hv hQ:=eA (hq _ _ _ _ Se);obtain rfl:=eO hv;exact aal (aal ⟨_,R4,hQ⟩)
end
end
section
section
variable{c:Cx} {n:Nat} {S:SS} {E:EP}
theorem zo{E:Value→aas→Prop}{s:aas}{K:Frag}{name:Str}{pl:Sem Bool}{Q:Value×List Value→aas→Prop}(X:K.In s.heap)(ht:typeOf (.type T)=pure (.type "type"))(hs:Manifest.isStub T=false)(e:findCls K (.type T) (.type "type") name=some (.val v)) (hh:handedIn v=true) (h:Q (v,[]) {s with toks:=s.toks+1}):wpAny (model prog w) A (getMethod (.type T) name pl) Q E s:=by
 have Qg:opaqueClassAbove (.type T)=pure none:=by unfold opaqueClassAbove;dsimp only;rw[hs];rfl
 have L0:Looks (model prog w) s.heap (typeOf (.type T)) (.type "type"):=ace ht;have hg:adf K (.type "type") "__getattribute__"=some (some (.builtin "type.__getattribute__")):=type_tga;refine aac (aac (L0.here ((looks_findIn X hg).here ?_)));with_reducible refine IW canon_tga ?_
 refine aac (aau (Q:=λv=>Q (v,[])) (E:=E) ?_ (λzz zz z=>aal z) λzz zz z=>z);refine cls_open X (ace Qg:Looks (model prog w) s.heap (opaqueClassAbove (.type T)) none) L0 hg (looks_hook X (r:=none) (by rfl)) (by change subIn K _ _=_;rfl) e (aal (by change wpAny _ _ (handedOut v) _ _ _;rw[handedOut_of hh];exact aal h))
theorem BQ{id nm:Str}{i:String}{pos:Pos}(ht:typeOf (.type T)=pure (.type "type"))(j0:Manifest.isStub T=false)(hf:findCls c.K (.type T) (.type "type") nm=some (.val (.builtin i))) (hh:handedIn (.builtin i)=true)(h:EE c n S (.Name id p) (λa S1=>a= .type T∧EA c n S1 args (λas S2=>bM c n S2 (.bi i) as Q E) E) E)(hs:autoParam (args.all aV=true) apR) (hlen:autoParam ((decide (args.length<30))=true) apR) (bw:autoParam ((ap.endLine==pos.line)=true) apR):EE c n S (.Call (.Attribute (.Name id p) nm ap) args [] pos) Q E:=by
 unfold EE;rw[arm_eval_Call,show attributeBase (.Name id p) nm c.env (eval (.Name id p) c.env)=eval (.Name id p) c.env from rfl];refine W.bind (W.az h λv S1 h8=>eA h8 λh1 h6=>W.bind (W.standAt ?_));obtain rfl:=bI h1;have Br:methodCallForm (args.length+([]:List Keyword).length) (backTo pos (aci args c.env)) (backToKw pos (keywordEach [] c.env))=true:=by change((backTo pos (aci args c.env)).all (λx=> !x.1)&&true&&decide (args.length+0+0<30))=true;rw[kl hs,adC,adC];exact hlen
 unfold methodCall;rw[Br];refine W.bind (W.holding (Q:=λp S'=>p=((.builtin i:Value),([]:List Value))∧S'=S1) (W.of λok X A s hA R=>?_)|>.az ?_);exact zo (fQ ok R) ht j0 hf hh ⟨S1,R.toks,rfl,rfl⟩;intro p S2 Vh;let r0 r1:=eA Vh;subst r0;subst r1;refine W.bind (W.eq (by unfold methodCallPos;simp[bw]:methodCallPos true (.Name id p) c.env ap pos=pure pos) (W.pure ?_));exact iA (f:=.builtin i) (first:=[]) (Q:=Q) hs trivial (λpos'=>(h6 pos').az λvs S3 k3 ws hw=>k3 (.builtin i) ws rfl hw)
theorem uK{C:Addr}(ho:∃oc od cd sl,c.K.lookup C=some ⟨oc,od,.cls cd,sl⟩∧cd.abstract=false∧cd.hasDel=false){B:Value}(hb:peek c.K ⟨prog,c.w.params⟩ (Bind.staticBase (.ref C))=some B)(hm:peek c.K ⟨prog,c.w.params⟩ (Bind.madeBy B)=some (some "object.__new__"))(Zj:mroIn c.K C (.type "object")=some true)(O5:instIn c.K (.ref C) (.type "type")=some true)(h:∀x d,Q (.ref x) ⟨S.loc,(x,.inst C d)::(d,.dict [] 0)::S.cells⟩):bM c n S (.bi "object.__new__") [.ref C] Q E:=λf vs hf bx=>W.of λok X A s hA R=>by
 obtain rfl:=dT hf;let v r1 hv:=ak (cP bx);subst r1;obtain rfl:=aj hv;have Xk:=fQ ok R;let oc od cd sl hC e1 e2:=nY ho;have F:=PySem.F.objNew;refine abH (codeAny_call_builtin_code (Code.quiet_builtin _ F.quiet) ?_);simp only[checkBuiltinCall,F.kind,F.split,F.row];have base:Looks (model prog c.w) s.heap (Bind.staticBase (.ref C)) B:=acf (M:=model prog c.w) Xk hb;have made:Looks (model prog c.w) s.heap (Bind.madeBy B) (some "object.__new__"):=acf (M:=model prog c.w) Xk hm;have here:Looks (model prog c.w) s.heap (Bind.madeHere "object.__new__" (.ref C)) ():=by intro A Q E s k q;refine aac (base A _ E s k (aac (made A _ E s k ?_)));simp only[Option.map_some,bne_self_eq_false,aaU,if_false];exact aal q
 have Zk:=Xk _ _ hC;have top:=looks_mroIn (M:=model prog c.w) Xk Zj;have typ:=looks_instIn (M:=model prog c.w) Xk O5;rw[(by kernel_rfl:Bind.checkArgs "object.__new__" ⟨.hand,"object.__new__","__new__",.cls,[]⟩ ⟨[.ref C],[]⟩=pure ())];repeat(first|(refine adA ?hc ?_;(case hc=>simp only[bne_self_eq_false,aaU,Bool.not_true,decide_false]))|lk|simp only[bne_self_eq_false,aaU,if_false])
 show acs F.entry;unfold Builtin.«object.__new__»;repeat(first|(refine adA ?hc ?_;(case hc=>simp only[e1,aaU,Bool.not_true,decide_false]))|lk|simp only[e1,aaU,if_false,Bool.not_true])
 have XO:=aap (instObj C s.heap.objs.size) (aap emptyDict Zk);have R1:Rp c (SS.ext ⟨S.loc,(s.heap.objs.size,.dict [] 0)::S.cells⟩ X) {s with heap:=s.heap.push emptyDict}:=R.c0 (ao:=.dict [] 0) (o:=emptyDict) (tk:=s.toks) rfl ⟨abn,[],rfl,.nil⟩;have R2:=R1.c0 (S:=⟨S.loc,(s.heap.objs.size,.dict [] 0)::S.cells⟩) (X:=X) (ao:=.inst C s.heap.objs.size) (o:=instObj C s.heap.objs.size) (tk:=s.toks) rfl rfl;have fin:=h (s.heap.push emptyDict).objs.size s.heap.objs.size;repeat(first|(refine adA ?hc ?_;(case hc=>simp only[e2,aaU,Bool.not_true,decide_false]))|lk|simp only[e2,aaU,if_false])
 exact⟨_,R2,fin⟩
end
end
section
variable{f:Addr} {args:List AV}
section
variable{c:Cx} {n:Nat} {S:SS} {E:EP}
theorem qg(h:Q (.bool false) S):CO c n S .IsNot (.ref a) (.ref a) Q E:=λv w hv hw=>W.of λok X A s hA R=>by obtain rfl:=aj hv;obtain rfl:=aj hw;exact wpAny_isNot_ref_self ⟨S,R,h⟩
theorem sz{b:Addr}{oa:Obj}(ha:c.K.lookup a=some oa)(hb:c.K.lookup b=some ob)(tQ:a≠b)(ht:(oa.cls != .type "tuple")=true)(h:Q (.bool true) S):CO c n S .IsNot (.ref a) (.ref b) Q E:=λv w hv hw=>W.of λok X A s hA R=>by obtain rfl:=aj hv;obtain rfl:=aj hw;have Xk:=fQ ok R;exact wpAny_isNot_ref_other tQ (Xk _ _ ha) (Xk _ _ hb) (by simpa using ht) ⟨S,R,h⟩
end
theorem FC.frame{K0:aao→Frag}{n:Nat}{Q:AV→Cells→Prop}{E:Value→Cells→Prop}(F:FC K0 n f args kw C Q E):FC K0 n f args kw (C++D) (λv C'=>∃C1,Q v C1∧C'=C1++D) (λk C'=>∃C1,E k C1∧C'=C1++D):=by
 intro c S hK hd hC pos kws hp v8 ok X A s hA R;have R1:Rp c ((⟨S.loc,C⟩:SS).ext (D++X)) s:=by change Rp c ⟨S.loc,C++(D++X)⟩ s;rw[←aaw,←hC];exact R
 exact F.any (S:=⟨S.loc,C⟩) hK hd rfl hp v8 ok hA R1 (λv s' C' h1 h3=>⟨⟨S.loc,C'++D⟩,by change Rp c ⟨S.loc,(C'++D)++X⟩ s';rw[aaw];exact h1,rfl,_,h3,rfl⟩) λe k s' C' h2 h3 h5=>⟨e,k,⟨S.loc,C'++D⟩,rfl,by change qa c k e ⟨S.loc,(C'++D)++X⟩ s'.heap;rw[aaw];exact h2,by change Rp c ⟨S.loc,(C'++D)++X⟩ s';rw[aaw];exact h3,rfl,_,h5,rfl⟩
theorem FC.mono{K0:aao→Frag}{n m:Nat}{Q Q':AV→Cells→Prop}{E E':Value→Cells→Prop}(F:FC K0 n f args kw C Q E)(hn:n≤m)(hq:∀v C',Q v C'→Q' v C')(he:∀k C',E k C'→E' k C'):FC K0 m f args kw C Q' E':=by
 intro c S hK hd hC pos kws hp v8 ok X A s hA R;have qM:c.In A n:=by let a1 a2 a3 a4:=jd hA;exact⟨a1,a2,by exact xb hn a3,by exact xc hn a4⟩
 exact F.any hK hd hC hp v8 ok qM R (λv s' C' h1 h3=>⟨_,h1,rfl,hq _ _ h3⟩) λe k s' C' h2 h3 h5=>⟨e,k,_,rfl,h2,h3,rfl,he _ _ h5⟩
end
section
variable{s:aas} {k:Str}
section
variable{c:Cx} {n:Nat} {S:SS} {E:EP}
theorem uL{E:Value→aas→Prop}{Q:List Value→aas→Prop}(h:wpAny M A t (λv s'=>Q [v] s') E s):wpAny M A (evalAll [t]) Q E s:=by change wpAny M A (t>>=λv=>holding [v] (pure [])>>=λr=>pure (v::r)) _ _ _;exact aac (aau h (λkv s2 h2=>aac (abk (aal (aal h2)))) λzz zz x=>x)
theorem sA{E:Value→aas→Prop}{f:Value}{args:List (Bool×Sem Value)}{Q:Args→aas→Prop}(me:args.any (λx=>x.1)=false)(gV:args≠[])(h:wpAny M A (spliced args) (λvs s1=>wpAny M A t (λkv s2=>Q ⟨vs,[(k,kv)]⟩ s2) E s1) E s):wpAny M A (evalArgs f true args [(some k,t)]) Q E s:=by
 cases args with|nil=>exact absurd rfl gV|cons p rest=>
  obtain⟨b,x⟩:=p;cases b with
  |true=>cases me
  |false=>exact evalArgs_kw rfl (aau h (λvs s1 h1=>uL h1) λzz zz x=>x)
def Hn(c:Cx)(n:Nat)(S:SS)(f:AV)(as:List AV)(kw:List (Str×AV))(Q:AV→SS→Prop)(E:EP):Prop:=∀v vs kws,ab v=f→vs.map ab=as→kws.map (λp=>(p.1,ab p.2))=kw→W c n S (call v vs kws) (λr=>Q (ab r)) E
theorem zp{id:Str}{pos:Pos}{a0:Expr}{ve:Expr}{kp:Pos}(h:EE c n S (.Name id p) (λf S1=>kN c.K f∧EA c n S1 (a0::args) (λas S2=>EE c n S2 ve (λkv S3=>Hn c n S3 f as [(k,kv)] Q E) E) E) E) (hs:autoParam ((a0::args).all aV=true) apR):EE c n S (.Call (.Name id p) (a0::args) [⟨some k,ve,kp⟩] pos) Q E:=.i λok X A s hA R=>
 wpAny_Call_Name_kw (h.st ok X A s hA R λf s1 S1 R1 h8=>eA h8 λk1 k2=>by
  have me:=bF (pos:=pos) (env:=c.env) hs
  have hP:((backTo pos (aci (a0::args) c.env)).any (λx=>x.1)||(backToKw pos (keywordEach [⟨some k,ve,kp⟩] c.env)).any (λx=>x.1.isNone))=false:=by rw[me];rfl
  refine callWith_of (P:=λh=>c.K.In h) hP (λhh X=>?_) (sA me (by rw[bO (by rw[adB,aaM]at hs;exact hs.1)];exact List.cons_ne_nil _ _) (aau ((k2 pos).run ok X A s1 hA R1) (λvs s2 ⟨S2,R2,k3⟩=>?_) λzz zz x=>x))
  ·cases f with
   |ref a=>exact keeps_K k1 hh X
   |builtin i=>exact⟨.machine,.inr (.inl rfl),ace rfl⟩
   |type i=>exact⟨.machine,.inr (.inl rfl),ace rfl⟩
   |_=>exact k1.elim
  ·refine aac (k3.st ok X A s2 hA R2 λkv s3 S3 R3 k4=>aac (abu (aal ⟨fQ ok R3,?_⟩)))
   exact(k4 f vs [(k,kv)] rfl rfl rfl).run ok X A s3 hA R3)
end
end
section
section
variable{c:Cx} {n:Nat} {S:SS} {E:EP} {x C d f k:Nat} {es lT:List (Str×AV)} {cells':Cells} {nm xn:Str} {v r:AV}
theorem fj{p a0 a1 a2 a3:α}{r:List α}(h:At p r):At p (a0::a1::a2::a3::r):=.tail (.tail (.tail (.tail h)))
theorem Ho{a0 a1 a2 a3:Str×Option AV}{r r':List (Str×Option AV)}(h:dA nm v r r'):dA nm v (a0::a1::a2::a3::r) (a0::a1::a2::a3::r'):=.tail (.tail (.tail (.tail h)))
theorem pu{x y:AO}{a0 a1 a2 a3:Addr×AO}{r r':Cells}(h:aI a x y r r'):aI a x y (a0::a1::a2::a3::r) (a0::a1::a2::a3::r'):=.tail (.tail (.tail (.tail h)))
theorem Hp{a0 a1 a2 a3:Str×AV}{r r':List (Str×AV)}(h:eC nm v r r'):eC nm v (a0::a1::a2::a3::r) (a0::a1::a2::a3::r'):=.tail (.tail (.tail (.tail h)))
theorem JH(h1:At (x,.inst C d) S.cells)(h2:At (d,.dict es k) S.cells)(h3:mf c.K C nm f=true)(h4:dU es nm=none)(h:EA c n S args (Hi c n f x Q E) E):PX c n nm args Q E (.ref x) S:=(yO x C d es k f ⟨rfl,h1,h2,h3,h4,h⟩)
theorem BR(h1:At (x,.inst C d) S.cells)(h2:At (d,.dict es k) S.cells)(h3:attrOk c.K C nm=true)(h4:At (nm,r) es)(h5:hand r=true)(h:Q r S):PY c n nm Q (.ref x) S:=(yO x C d es k r ⟨rfl,h1,h2,h3,h4,h5,h⟩)
theorem JI{Q:SS→Prop}(h1:At (x,.inst C d) S.cells)(h2:At (d,.dict es k) S.cells)(h3:attrOk c.K C nm=true)(h4:At (nm,r) es)(h5:hand r=true)(h:EE c n S value (Hm c n nm op Q x r E) E):P_ c n nm op value Q E (.ref x) S:=(yO x C d es k r ⟨rfl,h1,h2,h3,h4,h5,h⟩)
theorem JJ{Q:SS→Prop}(h1:At (x,.inst C d) S.cells)(h2:aI d (.dict es k) (.dict lT k) S.cells cells')(h3:eC nm v es lT)(h4:dg c.K C nm=true)(h5:es.length<1000)(h:Q ⟨S.loc,cells'⟩):Hl c n nm Q x E v S:=(yO C d es k lT cells' ⟨h1,h2,h3,h4,h5,h⟩)
theorem Qh{Q:FL→SS→Prop}(h0:At (xn,some (.ref x)) S.loc)(h1:At (x,.inst C d) S.cells)(h2:aI d (.dict es k) (.dict lT k) S.cells cells')(h3:eC nm v es lT)(h4:dg c.K C nm=true)(h5:es.length<1000)(h:Q .next ⟨S.loc,cells'⟩):XM c n xn nm Q v S:=⟨x,h0,C,d,es,k,lT,cells',h1,h2,h3,h4,h5,h⟩
inductive qh{α:Type}(p:α):List α→List α→Prop
 |nil:qh p [] [p]
 |cons:∀{a l l'},qh p l l'→qh p (a::l) (a::l')
theorem qh.eq{p:α}{l l':List α}(h:qh p l l'):l++[p]=l':=by induction h with|nil=>rfl|cons _ ih=>rw[aaT,ih]
abbrev Qi(c:Cx)(n:Nat)(xn nm:Str)(Q:FL→SS→Prop):AV→SS→Prop:=λv S'=>∃x C d es k lT cells',At (xn,some (.ref x)) S'.loc∧At (x,.inst C d) S'.cells∧aI d (.dict es k) (.dict lT (k+1)) S'.cells cells'∧isNew es nm=true∧es++[(nm,v)]=lT∧dg c.K C nm=true∧es.length<1000∧Q .next ⟨S'.loc,cells'⟩
theorem qY{po:Pos}{Q:FL→SS→Prop}(h:EE c n S value (Qi c n xn nm Q) E)(hs:autoParam (ac6 value (some (.Attribute (.Name xn po) nm p')) p.line c.env=pure false) apR):ES c n S (.Assign [.Attribute (.Name xn po) nm p'] value p) Q E:=Qd h hs
theorem JK{Q:FL→SS→Prop}(h0:At (xn,some (.ref x)) S.loc)(h1:At (x,.inst C d) S.cells)(h2:aI d (.dict es k) (.dict lT (k+1)) S.cells cells')(h3:isNew es nm=true)(h6:qh (nm,v) es lT)(h4:dg c.K C nm=true)(h5:es.length<1000)(h:Q .next ⟨S.loc,cells'⟩):Qi c n xn nm Q v S:=(Xn x C d es k lT cells' ⟨h0,h1,h2,h3,h6.eq,h4,h5,h⟩)
theorem Qj{Q:FL→SS→Prop}(h1:dA nm v S.loc l')(h:Q .next ⟨l',S.cells⟩):UX nm Q v S:=⟨l',h1,h⟩
theorem my(h1:kN c.K fv)(h:EA c n S args (BJ c n fv Q E) E):PD c n args Q E fv S:=⟨h1,h⟩
end
section
variable{c:Cx} {n:Nat} {S:SS} {E:EP}
theorem BS{e:Expr}{pos:Pos}(h:EE c n S e (nG c n "list" "list.append" args Q E) E)(he:autoParam (bo e=false) apR)(hs:autoParam (args.all aV=true) apR)(hlen:autoParam ((decide (args.length<30))=true) apR)(bw:autoParam ((ap.endLine==pos.line)=true) apR):EE c n S (.Call (.Attribute e "append" ap) args [] pos) Q E:=js aca PySem.F.slot_list_append PySem.F.type_list_append h he hs hlen bw
theorem Qk{e:Expr}{pos:Pos}(h:EE c n S e (nG c n "list" "list.pop" args Q E) E)(he:autoParam (bo e=false) apR)(hs:autoParam (args.all aV=true) apR)(hlen:autoParam ((decide (args.length<30))=true) apR)(bw:autoParam ((ap.endLine==pos.line)=true) apR):EE c n S (.Call (.Attribute e "pop" ap) args [] pos) Q E:=js aca PySem.F.slot_list_pop PySem.F.type_list_pop h he hs hlen bw
theorem BU{e:Expr}{pos:Pos}(h:EE c n S e (nG c n "list" "list.extend" args Q E) E)(he:autoParam (bo e=false) apR)(hs:autoParam (args.all aV=true) apR)(hlen:autoParam ((decide (args.length<30))=true) apR)(bw:autoParam ((ap.endLine==pos.line)=true) apR):EE c n S (.Call (.Attribute e "extend" ap) args [] pos) Q E:=js aca PySem.F.slot_list_extend PySem.F.type_list_extend h he hs hlen bw
theorem EW{e:Expr}{pos:Pos}(h:EE c n S e (nG c n "list" "list.clear" args Q E) E)(he:autoParam (bo e=false) apR)(hs:autoParam (args.all aV=true) apR)(hlen:autoParam ((decide (args.length<30))=true) apR)(bw:autoParam ((ap.endLine==pos.line)=true) apR):EE c n S (.Call (.Attribute e "clear" ap) args [] pos) Q E:=js aca PySem.F.slot_list_clear PySem.F.type_list_clear h he hs hlen bw
theorem JL{e:Expr}{pos:Pos}(h:EE c n S e (nG c n "str" "str.join" args Q E) E)(he:autoParam (bo e=false) apR)(hs:autoParam (args.all aV=true) apR)(hlen:autoParam ((decide (args.length<30))=true) apR)(bw:autoParam ((ap.endLine==pos.line)=true) apR):EE c n S (.Call (.Attribute e "join" ap) args [] pos) Q E:=js PySem.F.plainAttrs_str acZ PySem.F.type_str_join h he hs hlen bw
theorem EY{e:Expr}{pos:Pos}(h:EE c n S e (nG c n "list" "list.count" args Q E) E)(he:autoParam (bo e=false) apR)(hs:autoParam (args.all aV=true) apR)(hlen:autoParam ((decide (args.length<30))=true) apR)(bw:autoParam ((ap.endLine==pos.line)=true) apR):EE c n S (.Call (.Attribute e "count" ap) args [] pos) Q E:=js aca PySem.F.slot_list_count PySem.F.type_list_count h he hs hlen bw
theorem EZ{e:Expr}{pos:Pos}(h:EE c n S e (nG c n "list" "list.index" args Q E) E)(he:autoParam (bo e=false) apR)(hs:autoParam (args.all aV=true) apR)(hlen:autoParam ((decide (args.length<30))=true) apR)(bw:autoParam ((ap.endLine==pos.line)=true) apR):EE c n S (.Call (.Attribute e "index" ap) args [] pos) Q E:=js aca PySem.F.slot_list_index PySem.F.type_list_index h he hs hlen bw
theorem Ql{e:Expr}{pos:Pos}(h:EE c n S e (nG c n "dict" "dict.get" args Q E) E)(he:autoParam (bo e=false) apR)(hs:autoParam (args.all aV=true) apR)(hlen:autoParam ((decide (args.length<30))=true) apR)(bw:autoParam ((ap.endLine==pos.line)=true) apR):EE c n S (.Call (.Attribute e "get" ap) args [] pos) Q E:=js PySem.F.plainAttrs_dict PySem.F.slot_dict_get PySem.F.type_dict_get h he hs hlen bw
theorem Qm{e:Expr}{pos:Pos}(h:EE c n S e (nG c n "set" "set.add" args Q E) E)(he:autoParam (bo e=false) apR)(hs:autoParam (args.all aV=true) apR)(hlen:autoParam ((decide (args.length<30))=true) apR)(bw:autoParam ((ap.endLine==pos.line)=true) apR):EE c n S (.Call (.Attribute e "add" ap) args [] pos) Q E:=js PySem.F.plainAttrs_set PySem.F.slot_set_add PySem.F.type_set_add h he hs hlen bw
end
end
section
variable{l:List Stmt}
section
variable{c:Cx} {n:Nat} {S:SS} {E:EP}
theorem W.reorder{t:Sem α}{Q:α→SS→Prop}(h:W c n S t (λv S'=>∃l,l.Perm S'.cells∧Q v ⟨S'.loc,l⟩) E):W c n S t Q E:=.i λok X A s hA R=>h.st ok X A s hA R λv s1 S1 R1 h8=>ak h8 λl hp k=>⟨⟨S1.loc,l⟩,R1.perm (cells':=l++X) (hp.append_right X),k⟩
def PL(C D:Cells)(Q:AV→SS→Prop)(v:AV)(loc:List (Str×Option AV)):Prop:=∃l,aq C l D∧Q v ⟨loc,l⟩
theorem PL.go{l:Cells}{v:AV}(h:aq C l D)(k:Q v ⟨loc,l⟩):PL C D Q v loc:=⟨l,h,k⟩
theorem aH{K0:aao→Frag}{m:Nat}{f:Addr}(hf:FC K0 m f as [] C Qf Ef)(hp:aq C S.cells D)(hK:c.K=K0 c.w.params)(hd:c.hd=none)(h:∀v C',Qf v C'→PL C' D Q v S.loc) (he:∀k C',Ef k C'→E k ⟨S.loc,C'++D⟩) (hm:autoParam (m≤n) apM):bM c n S (.ref f) as Q E:=λv vs hv bx=>W.reorder (iF (S:=S) (Q:=λv S'=>∃l,l.Perm S'.cells∧Q v ⟨S'.loc,l⟩) hf hp hK hd (λv C' hq=>let⟨l,h1,h2⟩:=h v C' hq;⟨l,h1.perm,h2⟩) he hm v vs hv bx)
theorem W.forget{t:Sem α}{Q:α→SS→Prop}(h:W c n ⟨loc,C⟩ t Q E):W c n ⟨loc,D++C⟩ t Q E:=.i λok X A s hA R=>h.run ok X A s hA (R.drop (cells':=C++X) (by change List.Sublist (C++X) ((D++C)++X);rw[aaw];exact ac1 D (C++X)))
theorem fY{p:Addr×AO}{Q:FL→SS→Prop}(h:EB c n ⟨loc,C⟩ l Q E):EB c n ⟨loc,p::C⟩ l Q E:=W.forget (D:=[p]) h
theorem pv{Q:FL→SS→Prop}(h:EB c n S l Q E):EB c n S l (Py c n [] Q E) E:=h.az λf S' k=>by cases f with|next=>exact d0 k|ret v=>exact k|brk=>exact k|cont=>exact k
theorem Qn{Q:Bool→SS→Prop}(h:Q true S):TR c n S (.str ⟨#[k]⟩) Q E:=rT (aae rfl) h
theorem Qo{Q:Bool→SS→Prop}(h:Q false S):TR c n S (.str "") Q E:=rT (aae rfl) h
end
end
section
variable{Q:Value→aas→Prop}
namespace ST
section
variable{w:World} {A:ads} {E:Value→aas→Prop} {s:aas}
abbrev X:String:="StopIteration"
theorem mx:entryFor table "Exception.__new__"=some Builtin.«BaseException.__new__»:=abX.entry
theorem ks:entryFor table "StopIteration.__init__"=some Builtin.«StopIteration.__init__»:=abX.initEntry
theorem madeBy:Bind.madeBy (.type "StopIteration")=pure (some "Exception.__new__"):=abX.madeBy
theorem jC:Slot "StopIteration" "__init__" "StopIteration.__init__":=abX.init
theorem self:acV (.type "StopIteration") (.type "StopIteration")=pure true:=abX.sub
theorem base:acV (.type "StopIteration") (.type "BaseException")=pure true:=owsi_raise.isExc
theorem notAttr:acV (.type "StopIteration") (.type "AttributeError")=pure false:=abX.notAttr
theorem notName:acV (.type "StopIteration") (.type "NameError")=pure false:=abX.notName
theorem BV
  (h:Q (.ref (s.heap.push {cls:=.type "tuple",data:=.seq #[]}).objs.size) {s with heap:=(s.heap.push {cls:=.type "tuple",data:=.seq #[]}).push {cls:=.type "StopIteration",data:=.fields #[.ref s.heap.objs.size,.none,.none,.none,.bool false,.none]}}):
  wpAny (model prog w) A (call (.builtin "Exception.__new__") [.type "StopIteration"]) Q E s:=by
 refine PyProof.Rows.call_builtin_at (by decide+kernel) mx (abX.newOk []) ?_
 refine PyProof.Rows.wpAt_bind (PyProof.Rows.wpAt_owner rfl (by decide+kernel) (PyProof.Rows.wpAt_of_any ?_))
 dsimp only
 refine aac (m:=isType _) (ab2 (a:=true) rfl ?_)
 with_reducible refine qI (by first|decide|simp) ?_
 refine aac (ab2 (a:=true) (by rw[abX.owner];exact abX.subOwn) ?_)
 with_reducible refine qI (by first|decide|simp) ?_
 refine aac (ab2 (a:=()) abX.made ?_)
 refine aac (ab2 (a:=0) ?own ?_)
 case own=>
  change(do
   if←acV (.type "StopIteration") (.type "AttributeError")then return 2
   if←acV (.type "StopIteration") (.type "NameError")then return 1
   return 0:Sem Nat)=pure 0
  simp only[notAttr,notName,pure_bind,aaU,if_false]
 refine aac (abI (aac (abI (aal ⟨_,rfl,?_⟩) (by size_fits))) (by size_fits))
 exact h
theorem zq{e:Addr}{t0:Addr}(he:s.heap.get? e=some ob) (i3:ob.cls= .type "StopIteration") (hd:ob.data= .fields #[.ref t0,.none,.none,.none,.bool false,.none])(h:∀h' Qp,(∀b o,b≠e→s.heap.get? b=some o→h'.get? b=some o)→h'.get? e=some Qp→Qp.cls= .type "StopIteration"→(∃vs,Qp.data= .fields vs∧vs[1]? =some .none)→Q .none {s with heap:=h'}):wpAny (model prog w) A (call (.builtin "StopIteration.__init__") [.ref e]) Q E s:=by
 have hT:s.TypeIs (.ref e) "StopIteration":=⟨ob,he,i3⟩;refine abH (codeAny_call_builtin jC.plain ks ?_);simp only[checkBuiltinCall,abX.initKind,abX.initSplit];simp only[abX.initRow];refine aac (wpAny_isInstance hT self ?_);with_reducible refine qI (by first|decide|simp) ?_
 unfold Bind.checkArgs;refine aac (m:=Bind.printed "*" true _ _) (printed_star (self:=.ref e) rfl hT λfull=>?_);refine aac (m:=Bind.printed "StopIteration" false _ _) (printed_name (by decide+kernel) ?_);change wpAny _ _ (Sem.onRaise (Bind.check _ full "StopIteration" _ []) _) _ _ s;rw[check_varPos];show aal;unfold Builtin.«StopIteration.__init__»;have vN:=aap (h:=s.heap) {cls:=.type "tuple",data:=.seq #[]} he;refine aac (wpAny_runValue (acs abX.baseEntry ?_));unfold Builtin.«BaseException.__init__»;dsimp only;with_reducible refine qI (by simp) ?_
 refine aac (abI (aac (aac (acq vN hd rfl (aac (acW vN hd (Nat.zero_lt_succ _) ?_))))) (by size_fits));refine wpAny_letGo (aal ?_);change wpAny _ _ (Builtin.Exceptions.excPut (.ref e) 5 .none>>=λzz=>setField (.ref e) 5 .none>>=λzz=>ret .none) _ _ _;have up:∀(h1:Heap) (Sg:Obj) (i:Nat) (v:Value) (vs:Array Value),h1.get? e=some Sg→Sg.cls= .type "StopIteration"→Sg.data= .fields vs→vs.size=6→vs[1]? =some .none→i≠1→∃Vi,(h1.update e (acE (·.setIfInBounds i v))).get? e=some Vi∧Vi.cls= .type "StopIteration"∧Vi.data= .fields (vs.setIfInBounds i v)∧(vs.setIfInBounds i v).size=6∧(vs.setIfInBounds i v)[1]? =some .none:=by intro h1 Sg i v vs g1 g2 g3 g4 g5 g6;refine⟨_,abl _ g1 (adF (adt g3 _)),(Obj.cls_mapFields _ _).trans g2,adt g3 _,by rw[Array.size_setIfInBounds];exact g4,?_⟩;rw[Array.getElem?_setIfInBounds_ne g6];exact g5
 let o2 a1 a2 a3 a4 a5:=oz (up _ ob 0 (.ref s.heap.objs.size) _ vN i3 hd rfl rfl '2');let o3 b1 b2 b3 b4 b5:=oz (up _ o2 5 .none _ a1 a2 a3 a4 a5 '2');let o4 c1 c2 c3 c4 c5:=oz (up _ o3 5 .none _ b1 b2 b3 b4 b5 '2');refine aac (aac (acq (x:=.none) a1 a3 rfl (aac (acW a1 a3 (by rw[a4];decide) (aal ?_)))));refine aac (acW b1 b3 (by rw[b4];decide) (aal ?_));refine h _ o4 (λb o hb g=>?_) c1 c2 ⟨_,c3,c5⟩;rw[abo _ _ (Ne.symm hb),abo _ _ (Ne.symm hb),abo _ _ (Ne.symm hb)];exact aap _ g
theorem zr(h:∀h' e ob vs,(∀b o,s.heap.get? b=some o→h'.get? b=some o)→s.heap.get? e=none→h'.get? e=some ob→ob.cls= .type "StopIteration"→ob.data= .fields vs→vs[1]? =some .none→Q (.ref e) {s with heap:=h'}):wpAny (model prog w) A (call (.type "StopIteration") []) Q E s:=by
 refine abH (codeAny_of_tree ?_);change wpAny _ _ (callAny (.type "StopIteration") ⟨[],[]⟩) _ _ s;simp only[callAny];refine aal ⟨Code.quiet_builtin _ (by decide+kernel),acs PyProof.Rows.entry_type_call ?_⟩;rw[Around.under_plain (weight_type_call "StopIteration" _ _) (by first|rfl|kernel_rfl|decide+kernel)];unfold Builtin.«type.__call__»;dsimp only;rw[if_neg (by decide+kernel),if_neg (by decide+kernel)];with_reducible refine aac (ab2 (a:=()) (abX.noVector _) ?_)
 obtain⟨l,hl,hle⟩:=abX.mro;refine aac (ab2 hl ?_);with_reducible refine qI (by rw[hle];exact aa1) ?_
 refine aac (ab2 madeBy ?_);refine aac (aal (aac (abk (BV ?_))));refine aac (wpAny_isInstance (T:="StopIteration") ⟨_,aaG _ rfl,rfl⟩ self ?_);with_reducible refine qI (by first|decide|simp) ?_
 refine aac (abk (adn (name:=aby "__init__") (T:="StopIteration") ⟨_,aaG _ rfl,rfl⟩ jC (zq (aaG _ rfl) rfl rfl λh' Qp g1 g2 g3 h8=>ak h8 λvs g4 g5=>?_)));with_reducible refine qI (by simp) ?_
 refine aal (h h' _ Qp vs (λb o hb=>g1 b o (abf (aaE (aa3 hb) (by simp))) (aap _ (aap _ hb))) (Heap.get?_none_of_le (by simp)) g2 g3 g4 g5)
end
end ST
end
section
variable{Q:Flow→aas→Prop}
namespace ST
section
variable{w:World} {A:ads} {E:Value→aas→Prop} {s:aas} {env:Env}
theorem nested{prg:Program}{k:Value}{dep:Int}{tk:Tok}{Q:PySem.Fin→aas→Prop}(hk:k= .int dep tk)(hq:Q (.done (.ret (.bool true))) s):wpAny (model prg w) A (Builtin.«issubclass.nested» ⟨[.type "StopIteration",.type "StopIteration",k],[]⟩) Q E s:=by
 subst hk;have hm:(abQ ((Manifest.find? "StopIteration").elim "type" (λx=>x.metatype))==abQ "type")=true:=by decide+kernel
 have Qq:=self;repeat(any_goals(first|assumption|rewrite (config:={}) [if_pos hm]|rewrite (config:={}) [Qq]|wp_step))
theorem JM:Meets (Builtin.«issubclass» ⟨[.type "StopIteration",.type "StopIteration"],[]⟩) (λzz R s=>R (.ok (.ret (.bool true))) s):=λzz zz zz zz zz hs=>issubclass_outer (nested rfl hs)
theorem wK{pos:Pos}(hh:A.handled=none)
  (hx:wpAny (model prog w) A (eval (.Name x np) env) (λv s₁=>v= .type "StopIteration"∧∀h' e ob vs,(∀b o,s₁.heap.get? b=some o→h'.get? b=some o)→s₁.heap.get? e=none→h'.get? e=some ob→ob.cls= .type "StopIteration"→ob.data= .fields vs→vs[1]? =some .none→E (.ref e) {s₁ with heap:=h'}) E s):
  wpAny (model prog w) A (exec (.Raise (some (.Name x np)) none pos) env) Q E s:=by
 change wpAny (model prog w) A (do standAt pos;raiseStmt env (some (do let v←eval (.Name x np) env;standAt pos;pure v)) none) Q E s
 refine aac (abu ?_)
 unfold raiseStmt
 refine aac (aac (aau hx (λv s₁ h₁=>aac (abu (aal ?_))) λzz zz e=>e))
 refine eA h₁ λr0 h=>?_
 obtain rfl:=r0
 refine aac (aal ?_)
 dsimp only
 refine aac (abk ?_)
 refine aac (aac (aal ?_))
 with_reducible refine IW (by trivial) ?_
 rw[base]
 refine aal ?_
 with_reducible refine IW (by trivial) ?_
 refine aac (zr λh' e ob vs g1 g2 he i3 hd h1=>?_)
 have hT:({s₁ with heap:=h'}:aas).TypeIs (.ref e) "StopIteration":=⟨ob,he,i3⟩
 refine aac (wpAny_isInstance hT base ?_)
 with_reducible refine qI (by first|decide|simp) ?_
 refine aal ?_
 first|(refine aac (m:=isType (.type "StopIteration")) (aal ?_))|(refine aac (aal ?_))
 first|(rw[if_pos rfl])|(simp only[if_true])|dsimp only
 refine aac (abk ?_)
 first|(simp only[aaU,if_false])|(rw[if_neg '2'])|skip
 first|(refine aac (wpAny_typeOf hT ?_))|(refine aac ?_;refine aac (wpAny_typeOf hT ?_))
 refine aac (call_issubclass JM ?_)
 first|(refine aac (adH ?_))|(refine adH ?_)|(dsimp only[wants];first|(refine aac (adH ?_))|(refine adH ?_))
 first|(rw[if_pos rfl])|(simp only[if_true])|skip
 refine aal ?_
 refine aac (aac (acq (i:=1) (x:=aa6) he hd h1 ?_))
 with_reducible refine qI '2' ?_
 refine aal (aac (wpAny_handled ?_))
 rw[hh]
 first
  |exact wpAny_throw (h h' e ob vs g1 g2 he i3 hd h1)
  |exact aac (aal (wpAny_throw (h h' e ob vs g1 g2 he i3 hd h1)))
end
end ST
section
variable{c:Cx} {n:Nat} {S:SS} {E:EP}
theorem qi{pos:Pos}{Q:FL→SS→Prop}(hd:c.hd=none)(h:EE c n S (.Name x np) (λf S1=>f= .type "StopIteration"∧E (.type "StopIteration") S1) E):ES c n S (.Raise (some (.Name x np)) none pos) Q E:=.i λok X A s hA R=>ST.wK (In.hd hA hd) (h.st ok X A s hA R λv s1 S1 R1 h8=>eA h8 λh1 h2=>⟨bI h1,λh' e ob vs g1 g2 he i3 Qe g5=>by let a b:=eA (R1.newExc g1 g2 he i3 Qe g5);exact⟨e,_,S1,rfl,b,a,h2⟩⟩)
end
end
section
open PySem.Builtin
variable{m:Nat}
section
variable{c:Cx} {n:Nat} {S:SS} {E:EP}
structure BW(K:Frag)(C fI fN:Addr):Prop where
 iter:adf K (.ref C) "__iter__"=some (some (.ref fI))
 next:adf K (.ref C) "__next__"=some (some (.ref fN))
 len:adf K (.ref C) "__len__"=some none
 hint:adf K (.ref C) "__length_hint__"=some none
 fi:isFn K (.ref fI)=true
 fn:isFn K (.ref fN)=true
theorem wL{K0:aao→Frag}{x C fI:Addr}{X:Cells}{res:Value}{s:aas}(O:BW c.K C fI fN)(ok:c.Ok)(hK:c.K=K0 c.w.params)(hd:c.hd=none)(hA:c.In A (m+2))(FI:FC K0 m fI [.ref x] [] [] (λv C=>v= .ref x∧C=[]) (λzz zz=>False))(FN:∀j v,ys[j]? =some v→FC K0 m fN [.ref x] [] (Cf j) (λr C=>r=v∧C=Cf (j+1)) (λzz zz=>False))(FE:FC K0 m fN [.ref x] [] (Cf ys.length) (λzz zz=>False) (λk C=>k= .type "StopIteration"∧C=Cf (ys.length+1)))(hx:∀j,(x,.inst C d)∈Cf j∧∃es k,(d,.dict es k)∈Cf j) (hz:ys.length≤1000) (Sh:l≠x)(R1:Rp c ((⟨S.loc,(l,.list [])::(Cf 0++D)⟩:SS).ext X) s)(hR:∀s',Rp c ((⟨S.loc,(l,.list ys)::(Cf (ys.length+1)++D)⟩:SS).ext X) s'→RR (.ok (.ret res)) s'):wpAny (model prog c.w) A.in1 (acS (.ref l) (.ref x) res) (λfin s'=>match fin with| .done f=>RR (.ok f) s'| .again c'=>c'.quiet=true∧codeAny (model prog c.w) A c' RR s') (λe s'=>RR (.error e) s') s:=by
 have insts:∀(j:Nat) (L0:List AV) (s':aas),Rp c ((⟨S.loc,(l,.list L0)::(Cf j++D)⟩:SS).ext X) s'→∃od,InstAt s'.heap x (instObj C d) C od:=by intro j L0 s' R;let h1 es k h2:=IR (hx j);let ents I z2:=ak (R.inst (S:=⟨S.loc,(l,.list L0)::(Cf j++D)⟩) (.tail _ (aaf _ h1)) (.tail _ (aaf _ h2)));exact⟨_,I⟩
 have Fr0:∀{S':SS} {s':aas},Rp c (S'.ext X) s'→∃m,Fr c.base c.L s'.heap m:=λR=>by let m hn z2:=ak R.ns;exact⟨m,hn,R.stays,ok.above⟩
 have X0:c.K.In c.base:=ok.eH.fg;have In1:∀{B:ads},c.In B (m+1)→c.In B.in1 m:=λ{B} hB=>by let a1 a2 a3 a4:=jd hB;exact⟨a1,a2,by change B.depth+m<_;exact aaN a3,by change B.units+1+8*m<_;exact Ml a4⟩
 have Vj:c.In A.in1 m:=In1 (by refine jd hA λa1 a2 a3 a4=>?_;exact⟨a1,a2,by exact aaN a3,by exact Mn a4⟩);let od I:=eE (insts 0 _ _ R1);let mm F1:=eE (Fr0 R1);refine aac (I.type.here ?_);have h1:adg (.ref l) (.ref x)=false:=by simp[adg,Sh]
 have h2:(abP C==abQ "list")=false:=rfl;simp only[h1,h2,(rfl:(abP C==abQ "tuple")=false),Bool.or_false,aaU,if_false];refine aac (owit_iter F1 X0 I O.iter O.fi (abH (FI.any (S:=⟨S.loc,[]⟩) hK hd rfl (pos:=[.ref x]) (kws:=[]) rfl rfl ok Vj (R1:Rp c ((⟨S.loc,[]⟩:SS).ext (((l,.list [])::(Cf 0++D))++X)) s) (λv s2 C2 R2 q=>?_) λzz zz zz zz zz zz z=>z.elim)));let O6 XO:=eA q;obtain rfl:=aj O6;rw[XO]at R2;have Qs:Rp c ((⟨S.loc,(l,.list [])::(Cf 0++D)⟩:SS).ext X) s2:=R2;let od2 I2:=eE (insts 0 _ _ Qs);let mm2 F2:=eE (Fr0 Qs);have Xk2:=fQ ok Qs;show owit_it F2 X0 I2 O.next;refine aac (abk ?_);refine aac (aac (I2.type.here ((looks_findIn Xk2 O.len).here ?_)));change wpAny _ A.in1 (specialOf (abP x) (aby "__length_hint__")>>=_) _ _ _;refine aac (aac (I2.type.here ((looks_findIn Xk2 O.hint).here ?_)));show aal;change wpAny _ A.in1 (rule "list.extend.makes-room">>=λzz=>Builtin.List.listTouch (.ref l)>>=λzz=>again (.builtin "list.extend.loop" ⟨[.ref l,.ref x,res],[]⟩)) _ _ _;refine aac (wpAny_rule ?_);show aac;let o2 lR vs kk r4 bx:=gS (Qs.cells (l,.list []) (.head _));subst r4;obtain rfl:vs= #[]:=by have:=congrArg aaV bx;rw[aaa]at this;exact adm (by simpa using this)
 refine aac (adz lR rfl ?_);have uF:=abl (abb (·.push aa6)) lR rfl;show adz uF rfl;have R3:Rp c ((⟨S.loc,(l,.list [])::(Cf 0++D)⟩:SS).ext X) {s2 with heap:=(s2.heap.update l (abb (·.push aa6))).update l (abb (λx=>x.pop))}:=
  Qs.upd (tk:=s2.toks) (x:=.list []) (y:=.list []) aI.head ((abv ..).trans (abv ..)) (abl (abb (λx=>x.pop)) uF rfl) (ba _ _ ⟨rfl,by simp⟩)
 refine aal ⟨plainId_quiet ac3 _,iU (λmm s'=>∃j,mm=ys.length-j∧j≤ys.length∧Rp c ((⟨S.loc,(l,.list (ys.take j))::(Cf j++D)⟩:SS).ext X) s') ?_ ys.length _ ⟨0,rfl,aaD _,R3⟩⟩;intro mm s' Vk;let j r1 hj R4:=bN Vk;subst r1;let od4 I4:=eE (insts j _ _ R4);let mm4 F4:=eE (Fr0 R4);have Pa:Rp c ((⟨S.loc,Cf j⟩:SS).ext ((D++X)++[(l,.list (ys.take j))])) s':=by show R4.perm (cells':=Cf j++((D++X)++[(l,.list (ys.take j))]));change List.Perm _ ((l,AO.list (ys.take j))::(Cf j++D)++X);rw[←aaw,←aaw];exact aaY
 rcases Nat.lt_or_ge j ys.length with dc|JN;have hy:ys[j]? =some ys[j]:=aay dc;refine owit_next F4 X0 I4 O.next O.fn (abH ((FN j _ hy).any (S:=⟨S.loc,Cf j⟩) hK hd rfl (pos:=[.ref x]) (kws:=[]) rfl rfl ok Vj Pa (λv s5 C5 R5 q=>?_) λzz zz zz zz zz zz z=>z.elim));let Zl Si:=eA q;rw[Si]at R5;have R6:Rp c ((⟨S.loc,(l,.list (ys.take j))::(Cf (j+1)++D)⟩:SS).ext X) s5:=by show R5.perm (cells':=(l,AO.list (ys.take j))::(Cf (j+1)++D)++X);change List.Perm _ (Cf (j+1)++((D++X)++[(l,.list (ys.take j))]));rw[←aaw,←aaw];exact aaY (l₁:=[(l,AO.list (ys.take j))]) (l₂:=Cf (j+1)++D++X)
 let o6 Qt XQ k6 r4 Qu:=gS (R6.cells (l,.list (ys.take j)) (.head _));subst r4;have xT:XQ.size=j:=by have:=congrArg aaV Qu;rw[aaa,aaQ,ado]at this;exact this.trans (ac5 (aaN dc))
 refine ba XQ k6 ⟨Qt,by rw[xT];exact aab (Nat.succ_le_of_lt dc) (aab hz '2'),ys.length-(j+1),by exact acO dc (abw _),j+1,rfl,dc,?_⟩;let k' ji:=eE (kR (f:=(·.push v)) Qt);refine R6.upd (tk:=s5.toks) (x:=.list (ys.take j)) (y:=.list (ys.take (j+1))) aI.head (abv ..) ji (ba _ _ ⟨rfl,?_⟩);rw[Array.toList_push,aaj,Qu,aaK,hy,←Zl];rfl;obtain rfl:j=ys.length:=aaI hj JN;refine owit_next F4 X0 I4 O.next O.fn (abH (FE.any (S:=⟨S.loc,Cf ys.length⟩) hK hd rfl (pos:=[.ref x]) (kws:=[]) rfl rfl ok Vj Pa (λv s5 C5 R5 q=>q.elim) λe' kx s5 C5 XR R5 q=>?_));let Zm Si:=eA q;rw[Si]at R5;rw[Zm,Si]at XR;have R6:Rp c ((⟨S.loc,(l,.list (ys.take ys.length))::(Cf (ys.length+1)++D)⟩:SS).ext X) s5:=by show R5.perm (cells':=(l,AO.list (ys.take ys.length))::(Cf (ys.length+1)++D)++X);change List.Perm _ (Cf (ys.length+1)++((D++X)++[(l,.list (ys.take ys.length))]));rw[←aaw,←aaw];exact aaY (l₁:=[(l,AO.list (ys.take ys.length))]) (l₂:=Cf (ys.length+1)++D++X)
 let z0 z1 oe vse Hc Dv z6:=xg XR;show wpAny_isInstance (T:="StopIteration") ⟨oe,Hc,Dv⟩ ST.self;rw[if_pos rfl];rw[abi]at R6;exact hR _ R6
theorem qj{K0:aao→Frag}{x C fI:Addr}(O:BW c.K C fI fN)(hK:c.K=K0 c.w.params)(hd:c.hd=none)
  (FI:FC K0 m fI [.ref x] [] [] (λv C=>v= .ref x∧C=[]) (λzz zz=>False))
  (FN:∀j v,ys[j]? =some v→FC K0 m fN [.ref x] [] (Cf j) (λr C=>r=v∧C=Cf (j+1)) (λzz zz=>False))
  (FE:FC K0 m fN [.ref x] [] (Cf ys.length) (λzz zz=>False) (λk C=>k= .type "StopIteration"∧C=Cf (ys.length+1)))
  (hx:∀j,(x,.inst C d)∈Cf j∧∃es k,(d,.dict es k)∈Cf j) (hz:ys.length≤1000) (hS:S.cells=Cf 0++D)
  (h:∀l,Q (.ref l) ⟨S.loc,(l,.list ys)::(Cf (ys.length+1)++D)⟩) (hm:m+3≤n):bM c n S (.type "list") [.ref x] Q E:=λf vs hf bx=>W.of λok X A s hA R=>by
 obtain rfl:=bI hf
 refine ak (cP bx) λv r1 hv=>?_
 obtain rfl:=r1
 obtain rfl:=aj hv
 refine callType_codes (Q₁:=λobj s₁=>obj= .ref s.heap.objs.size∧s₁={s with heap:=s.heap.push {cls:=.type "list",data:=.seq #[]}}) F.called_list (F.typeCall_list_1 _) F.entry_list_init
  (code_list_new _ ⟨rfl,rfl⟩) λobj s₁ h₁=>?_
 refine eA h₁ λr0 r1=>?_
 obtain rfl:=r0
 obtain rfl:=r1
 have Sj:(s.heap.push {cls:=.type "list",data:=.seq #[]}).get? s.heap.objs.size=some {cls:=.type "list",data:=.seq #[]}:=aaG _ rfl
 refine⟨⟨_,Sj,rfl⟩,F.args_list_init_2 _ _,?_⟩
 change wpAny _ A.in1.in1 (do let old←Builtin.List.listItems (.ref s.heap.objs.size);Builtin.List.listUpdate (.ref s.heap.objs.size) (λzz=> #[]);letGo old.toList.reverse;acS (.ref s.heap.objs.size) (.ref x) .none) _ _ _
 refine aac ?_
 refine aac (wpAny_seqItems Sj rfl (aal ?_))
 change wpAny _ A.in1.in1 (updateSeq s.heap.objs.size (λzz=> #[])>>=λzz=>letGo (#[]:Array Value).toList.reverse>>=λzz=>acS (.ref s.heap.objs.size) (.ref x) .none) _ _ _
 refine aac (adz Sj rfl ?_)
 have Vl:=abl (abb (λzz=>(#[]:Array Value))) Sj rfl
 have Vm:∀b o,s.heap.get? b=some o→((s.heap.push {cls:=.type "list",data:=.seq #[]}).update s.heap.objs.size (abb (λzz=>(#[]:Array Value)))).get? b=some o:=
  λb o e=>(abo _ _ (abF (aa3 e))).trans (aap _ e)
 refine aac (wpAny_letGo ?_)
 have R1:Rp c ((⟨S.loc,(s.heap.objs.size,.list [])::(Cf 0++D)⟩:SS).ext X) {s with heap:=(s.heap.push {cls:=.type "list",data:=.seq #[]}).update s.heap.objs.size (abb (λzz=>(#[]:Array Value)))}:=by
  rw[←hS]
  exact R.alloc (a:=s.heap.objs.size) (ao:=.list []) Vm (aak _) Vl (ba _ _ ⟨rfl,by simp⟩) (aak _)
 have dc:x<s.heap.objs.size:=by
  refine ak (R.cells (x,.inst C d) (aaf _ (hS▸aaf _ (hx 0).1))) λo ho z2=>?_
  exact aa3 ho
 have Sh:s.heap.objs.size≠x:=abF dc
 generalize s.heap.objs.size=l at R1 Vl Sh⊢
 generalize((s.heap.push {cls:=.type "list",data:=.seq #[]}).update l (abb (λzz=>(#[]:Array Value))))=h1 at R1 Vl⊢
 refine wL O ok hK hd (by refine jd hA λa1 a2 a3 a4=>?_;exact⟨a1,a2,by change A.depth+_<_;exact MB hm a3,by change A.units+1+8*_<_;exact MD hm a4⟩) FI FN FE hx hz Sh R1 λs' R'=>?_
 exact⟨rfl,_,R',h l⟩
end
end
section
variable{L l l':Cells} {x y:AO} {o:Expr} {v:AV}
section
variable{c:Cx} {n:Nat} {S:SS} {E:EP} {s:aas} {X:Cells}
theorem bZ:aq L L []:=by induction L with|nil=>exact .nil|cons a r ih=>exact .cons .head ih
theorem jr.push{a b:Addr×AO}(h:jr a l l'):jr a (b::l) (b::l'):=.tail h
theorem bR{a:Addr×AO}(h:aq L l D):aq L (a::l) (a::D):=by induction h with|nil=>exact .nil|cons h1 h2 ih=>exact .cons h1.push ih
theorem At.left{p:α}{l r:List α}(h:At p l):At p (l++r):=by induction h with|head=>exact .head|tail _ ih=>exact .tail ih
theorem At.right{p:α}{l r:List α}(h:At p r):At p (l++r):=by induction l with|nil=>exact h|cons a l ih=>exact .tail ih
theorem aI.left{r:Cells}(h:aI a x y l l'):aI a x y (l++r) (l'++r):=by induction h with|head=>exact .head|tail _ ih=>exact .tail ih
theorem aI.right{r r':Cells}(h:aI a x y r r'):aI a x y (l++r) (l++r'):=by induction l with|nil=>exact h|cons b l ih=>exact .tail ih
theorem W.JO{t:Sem α}{Q:α→SS→Prop}(u:aI a x y C C')(hc:∀o,p0 c.w x o→p0 c.w y o)(h:W c n ⟨loc,C'⟩ t Q E):W c n ⟨loc,C⟩ t Q E:=.i λok Z A s hA R=>by have ua:=u.app (X:=Z);let o ho hx:=ak (R.cells _ ua.mem);exact h.run ok Z A s hA (R.upd (h':=s.heap) (tk:=s.toks) ua ⟨rfl,λzz zz=>rfl⟩ ho (hc o hx))
theorem zt{C:Addr}{o:Obj}(h:p0 c.w (.inst C d) o):p0 c.w (.du C d []) o:=⟨#[],h,rfl⟩
abbrev XS(c:Cx)(n:Nat)(nm:Str)(Q:AV→SS→Prop):AV→SS→Prop:=λa S1=>∃x C d sl es k p i v,a= .ref x∧At (x,.du C d sl) S1.cells∧At (d,.dict es k) S1.cells∧m8 c.K C nm p i=true∧sl[i]? =some (some v)∧hand v=true∧Q v S1
theorem JP{e:Expr}{nm:Str}(h:EE c n S e (XS c n nm Q) E)(he:autoParam (bo e=false) apR):EE c n S (.Attribute e nm p) Q E:=rQ (h.az λv S1 h8=>hW h8 λx C d sl es k p i r h1 h2 h3 h4 h5 h6 h7=>by rw[h1];exact xE h2.mem h3.mem h4 h5 h6 h7) he
theorem pz{x C d p:Nat}{nm:Str}(h1:At (x,.du C d sl) S.cells)(h2:At (d,.dict es k) S.cells)(h3:m8 c.K C nm p i=true)(h4:sl[i]? =some (some v))(h5:hand v=true)(h:Q v S):XS c n nm Q (.ref x) S:=(IP x C d sl es k p i v ⟨rfl,h1,h2,h3,h4,h5,h⟩)
abbrev E0(c:Cx)(n:Nat)(nm:Str)(v:AV)(Q:SS→Prop):AV→SS→Prop:=λa S1=>∃x C d sl JQ es k p i cells',a= .ref x∧aI x (.du C d sl) (.du C d JQ) S1.cells cells'∧At (d,.dict es k) S1.cells∧qT c.K C nm p i=true∧xF sl i v=JQ∧Q ⟨S1.loc,cells'⟩
abbrev Zn(c:Cx)(n:Nat)(nm:Str)(o:Expr)(Q:SS→Prop)(E:EP):AV→SS→Prop:=λv S1=>EE c n S1 o (E0 c n nm v Q) E
theorem Hq{nm:Str}{a:AV}{Q:SS→Prop}(h:E0 c n nm v Q a S):SA c n S a v nm Q E:=by obtain⟨x,C,d,sl,JQ,es,k,p,i,cells',h1,h2,h3,h4,h5,h6⟩:=h;subst h1 h5;exact EJ h2 h3.mem h4 h6
theorem BX{nm:Str}{Q:FL→SS→Prop}(h:EE c n S value (Zn c n nm o (Q .next) E) E)(hs:autoParam (ac6 value (some (.Attribute o nm p')) p.line c.env=pure false) apR):ES c n S (.Assign [.Attribute o nm p'] value p) Q E:=
 fW (h.az λv S1 h1=>h1.az λa S2 h2=>Hq h2) hs
theorem pA{x C d p:Nat}{nm:Str}{JQ:List (Option AV)}{Q:SS→Prop}(h1:aI x (.du C d sl) (.du C d JQ) S.cells cells')(h2:At (d,.dict es k) S.cells)(h3:qT c.K C nm p i=true)(h4:xF sl i v=JQ)(h:Q ⟨S.loc,cells'⟩):E0 c n nm v Q (.ref x) S:=(TA x C d sl JQ es k p i cells' ⟨rfl,h1,h2,h3,h4,h⟩)
abbrev Vn(c:Cx)(n:Nat)(nm:Str)(Q:SS→Prop)(x:Addr)(E:EP):AV→SS→Prop:=λv S'=>E0 c n nm v Q (.ref x) S'
abbrev Qv(c:Cx)(n:Nat)(nm:Str)(op:Operator)(Q:SS→Prop)(x:Addr)(r:AV)(E:EP):AV→SS→Prop:=λb S2=>IO c n S2 op r b (Vn c n nm Q x E) E
abbrev XT(c:Cx)(n:Nat)(nm:Str)(op:Operator)(value:Expr)(Q:SS→Prop)(E:EP):AV→SS→Prop:=λa S1=>∃x C d sl es k p i r,a= .ref x∧At (x,.du C d sl) S1.cells∧At (d,.dict es k) S1.cells∧m8 c.K C nm p i=true∧sl[i]? =some (some r)∧hand r=true∧EE c n S1 value (Qv c n nm op Q x r E) E
theorem Qw{nm:Str}{Q:FL→SS→Prop}(h:EE c n S o (XT c n nm op value (Q .next) E) E):ES c n S (.AugAssign (.Attribute o nm p) op value p') Q E:=
 mZ (h.az λa S1 h8=>hW h8 λx C d sl es k p i r h1 h2 h3 h4 h5 h6 h7=>by
  rw[h1]
  exact xE h2.mem h3.mem h4 h5 h6 (h7.az λb S2 k2=>λv w hv hw=>(k2 v w hv hw).az λr2 S3 k3=>Hq k3))
theorem Hr{x C d p:Nat}{nm:Str}{r:AV}{Q:SS→Prop}(h1:At (x,.du C d sl) S.cells)(h2:At (d,.dict es k) S.cells)(h3:m8 c.K C nm p i=true)(h4:sl[i]? =some (some r))(h5:hand r=true)(h:EE c n S value (Qv c n nm op Q x r E) E):XT c n nm op value Q E (.ref x) S:=(IP x C d sl es k p i r ⟨rfl,h1,h2,h3,h4,h5,h⟩)
def jt(T:String)(d:Addr)(o:Obj):Prop:=o.cls= .type T∧o.data= .fields #[.ref d]
theorem uM(hm:At (d,.map es ep) S.cells)(h:∀v,Q (.ref v) ⟨S.loc,(v,.obj (jt "dict_values" d))::S.cells⟩):bM c n S (.bi "dict.values") [.ref d] Q E:=λf vs hf bx=>W.of λok X A s hA R=>by obtain rfl:=dT hf;let v r1 hv:=ak (cP bx);subst r1;obtain rfl:=aj hv;let kvs hd r2:=ak (R.map hm.mem);subst r2;refine call_meetsIn PySem.F.slot_dict_values (DictAt.of hd).typeIs PySem.F.entry_dict_values (PySem.F.args_dict_values_1 _) (meets_dict_values (sk c) d (R.mh ok hm.mem)) ⟨⟨_,DictAt.of hd⟩,⟨_,R.c0 (ao:=.obj (jt "dict_values" d)) (tk:=s.toks) rfl ⟨rfl,rfl⟩,h _⟩⟩
theorem wM(hm:At (d,.map es ep) S.cells)(h:∀v,Q (.ref v) ⟨S.loc,(v,.obj (jt "dict_items" d))::S.cells⟩):bM c n S (.bi "dict.items") [.ref d] Q E:=λf vs hf bx=>W.of λok X A s hA R=>by obtain rfl:=dT hf;let v r1 hv:=ak (cP bx);subst r1;obtain rfl:=aj hv;let kvs hd r2:=ak (R.map hm.mem);subst r2;refine call_meetsIn PySem.F.slot_dict_items (DictAt.of hd).typeIs PySem.F.entry_dict_items (PySem.F.args_dict_items_1 _) (meets_dict_items (sk c) d (R.mh ok hm.mem)) ⟨⟨_,DictAt.of hd⟩,⟨_,R.c0 (ao:=.obj (jt "dict_items" d)) (tk:=s.toks) rfl ⟨rfl,rfl⟩,h _⟩⟩
theorem Rp.view{v:Addr}(R:Rp c (S.ext X) s)(h:(v,.obj (jt T d))∈S.cells):∃o,s.heap.get? v=some o∧o.cls= .type T∧o.data= .fields #[.ref d]:=by let o ho h1 h2:=bN (R.cells _ (aaf _ h));exact⟨o,ho,h1,h2⟩
def pB(d:Addr)(k ep:Nat)(i:Nat)(o:Obj):Prop:=o.cls= .type "dict_valueiterator"∧o.data= .fields #[.ref d,.int i 0,.int k 0,.int ep 0]
theorem BY{v:Addr}(hv:At (v,.obj (jt "dict_values" d)) S.cells)(h:At (d,.map es ep) S.cells)(hu:ab u= .ref v):wj c n S u (pB d es.length ep):=λok X A s Q E hA R hQ=>by obtain rfl:=aj hu;let kvs hd r2:=ak (R.map h.mem);subst r2;show wpAny_pyIter_values (R.view hv.mem) hd;exact hQ _ _ _ s.toks (λb o e=>aap _ e) (aak _) (aaG _ rfl) ⟨rfl,by rw[aaa];rfl⟩ (aak _)
theorem BZ{y:AV}(h:At (d,.map es ep) S.cells)(hy:(es.map (λx=>x.2))[i]? =some y):xq c n S (pB d es.length ep) i y:=λok X A s it o Q E hA R ho hP hQ=>by let kvs hd r2:=ak (R.map h.mem);subst r2;rw[aaa]at hP;rw[aba,aag]at hy;let kv O7 r2:=ak (aaq.mp hy);subst r2;refine wpAny_pyNext_values_item (k:=kv.1) (v:=kv.2) ⟨o,ho,hP⟩ hd O7 λh' h8 hs=>ak h8 λo' ji tN=>?_;exact hQ _ h' o' s.toks rfl hs ji ⟨tN.1,by rw[aaa];exact tN.2⟩ (aak _)
theorem B0(h:At (d,.map es ep) S.cells)(hd:c.hd=none):xr c n S (pB d es.length ep) (es.map (λx=>x.2)).length:=λok X A s it o Q E hA R ho hP hQ=>by let kvs hD r2:=ak (R.map h.mem);subst r2;rw[aaa,aaa,aaa]at hP;refine wpAny_pyNext_values_end (i:=kvs.length) (In.hd hA hd) ⟨o,ho,hP⟩ hD (by simp) λh' hs=>hQ h' s.toks hs (aak _)
def eQ(d:Addr)(k ep:Nat)(i:Nat)(o:Obj):Prop:=∃a b,o={cls:=.type "dict_itemiterator",dict:=none,data:=.fields #[.none,.bool false,.ref d,.int i 0,.int k 0,.int ep 0,a,b],slots:= #[]}
theorem wN{k:Str}(h:At (d,.map es ep) S.cells)(hx:es[i]? =some (k,v)):Ue c n S it [(it,.obj (eQ d es.length ep i))] [(it,.obj (eQ d es.length ep (i+1)))] (.str k) v:=λok X A s hA R=>by let o ho a b r4:=t8 (R.cells (it,.obj (eQ d es.length ep i)) (aad _ (.head _)));subst r4;let kvs hD r2:=ak (R.map h.mem);subst r2;rw[aag]at hx;let kv O7 e:=ak (aaq.mp hx);obtain⟨k0,v0⟩:=kv;let r0 r1:=eA (Prod.mk.inj e);subst r0;subst r1;rw[aaa]at ho;have dc:=aa3 ho;refine wpAny_pyNext_items_item (knd:=sk c) ho hD O7 λkey h' hk he ht hz ha=>⟨_,rfl,λelts kk p=>wpAny_letOwnedTupleGo_items he λh₂ qL j4=>⟨_,rfl,?_⟩⟩;refine Rp.j3 (s:=s) (C:=[(it,.obj (eQ d (kvs.map zb).length ep i))]) (C':=[(s.heap.objs.size,.tup [.str k0,ab v0]),(it,.obj (eQ d (kvs.map zb).length ep (i+1)))]) R (λb o hb e'=>?_) ?_ ?_ ?_ (aak _);have BA:b≠it:=λq=>hb (by rw[q];exact .head _);exact(j4.2 b BA).trans (ha b o BA e');intro p hp;rcases aai.mp hp with rfl|hp;exact⟨_,(j4.2 _ (abF dc)).trans ht,_,_,rfl,by change[ab key,ab v0]=_;rw[str_is hk]⟩;rcases aai.mp hp with rfl|hp;exact⟨_,qL,_,_,by rw[aaa]⟩;cases hp;simp only[aan,acF,aaB,aai,abN,or_false,not_false_eq_true,abn,and_true];exact abF dc;intro a ha;simp only[aan,acF,aai,abN,or_false]at ha⊢;rcases ha with rfl|rfl;exact .inr (aak _);exact .inl rfl
theorem zu(h:At (d,.map es ep) S.cells)(hd:c.hd=none):Uf c n S it [(it,.obj (eQ d es.length ep es.length))]:=λok X A s hA R=>by let o ho a b r4:=t8 (R.cells (it,.obj (eQ d es.length ep es.length)) (aad _ (.head _)));subst r4;let kvs hD r2:=ak (R.map h.mem);subst r2;rw[aaa]at ho;refine wpAny_pyNext_items_end (knd:=sk c) (i:=kvs.length) (In.hd hA hd) ho hD (by simp) λh' hs=>⟨rfl,?_⟩;exact Rp.j3 (s:=s) (C:=[(it,.obj (eQ d (kvs.map zb).length ep (kvs.map zb).length))]) (C':=[]) R (λb o hb e'=>hs b o (λq=>hb (by rw[q];exact .head _)) e') (λp hp=>nomatch hp) abn (λa ha=>nomatch ha) (aak _)
theorem uN{v:Addr}(hS:S.cells=(v,.obj (jt "dict_items" d))::C)(h:At (d,.map es ep) C)(hu:ab u= .ref v)(hd:c.hd=none):Hb c n S u (es.map λp=>(AV.str p.1,p.2)) (λS1=>At (d,.map es ep) S1.cells) ⟨S.loc,C⟩:=λok X A s hA R=>by obtain rfl:=aj hu;obtain⟨loc,cells⟩:=S;dsimp only at hS;subst hS;have R0:Rp c ((⟨loc,C⟩:SS).ext X) s:=R.drop (cells':=C++X) (acj ..);let kvs hD e:=ak (R0.map h.mem);refine wpAny_pyIter_items (knd:=sk c) (R.view (.head _)) hD (ba s.heap.objs.size (λi=>[(s.heap.objs.size,.obj (eQ d es.length ep i))]) ⟨rfl,?_,λS1 h1=>⟨λi a b hi=>?_,?_⟩⟩);exact Rp.j3 (s:=s) (C:=[]) (C':=[(s.heap.objs.size,.obj (eQ d es.length ep 0))]) R0 (λb o zz e=>aap _ e) (λp hp=>by obtain rfl:=aaL.mp hp;exact⟨_,aaG _ rfl,.none,.none,by rw[←e,aaa];rfl⟩) (by simp) (λa ha=>by obtain rfl:a=s.heap.objs.size:=(by simpa using ha);exact .inr (aak _)) (aak _);rw[aag]at hi;let q hq tQ:=ak (aaq.mp hi);obtain⟨q1,q2⟩:=q;let r0 r1:=eA (Prod.mk.inj tQ);subst r0;subst r1;exact wN h1 hq;rw[aaa];exact zu h1 hd
theorem uO{x y:Str}{kt}{Q:FL→SS→Prop}(Inv:Nat→SS→Prop)(h:EE c n S iter (λv S1=>∃w C,v= .ref w∧S1.cells=(w,.obj (jt "dict_items" d))::C∧Inv 0 ⟨S1.loc,C⟩) E)(hl:∀i S1,Inv i S1→At (d,.map es ep) S1.cells)(step:∀i k v S1 (N:SS→Prop),es[i]? =some (k,v)→Inv i S1→(∀S',Inv (i+1) S'→N S')→∃l',ib [x,y] [.str k,v] S1.loc l'∧EB c n ⟨l',S1.cells⟩ body (au N Q) E)(fin:∀S1,Inv es.length S1→EB c n S1 orelse Q E)(hd:autoParam (c.hd=none) apA) (hc:autoParam (c.comp=false) apA) (hs:autoParam (∀x,aa4 iter c.env x=pure x) apR):ES c n S (.For (.Tuple [.Name x px,.Name y py] kt pt) iter body orelse p) Q E:=uB (ps:=es.map λp=>(AV.str p.1,p.2)) (λS1=>At (d,.map es ep) S1.cells) Inv (h.az λv S1 h8=>bG h8 λw C h1 h2 h4=>⟨⟨S1.loc,C⟩,λu hu=>uN h2 (hl _ _ h4) (hu.trans h1) hd,h4⟩) hl (λi a b S1 hi inv=>by rw[aag]at hi;let q hq tQ:=ak (aaq.mp hi);obtain⟨q1,q2⟩:=q;let r0 r1:=eA (Prod.mk.inj tQ);subst r0;subst r1;exact step i _ _ S1 _ hq inv λzz z=>z) (λS1 inv=>fin S1 (by rw[aaa]at inv;exact inv)) hd hc hs
def Vo(c:Cx)(n:Nat)(S:SS)(a:AV)(Q:List AV→SS→Prop):Prop:=∀v X A s (E:Value→aas→Prop) (Q':List Value→aas→Prop),ab v=a→c.Ok→Rp c (S.ext X) s→(∀vs s' S',Rp c (S'.ext X) s'→Q (vs.map ab) S'→Q' vs s')→StarOf (model prog c.w) A E v Q' s
theorem str_list{l:Addr}{Q:List AV→SS→Prop}(h:At (l,.list xs) S.cells)(hz:xs.length≤lim)(hq:Q xs S):Vo c n S (.ref l) Q:=λv X A s E Q' hv ok R k=>by
 obtain rfl:=aj hv;obtain⟨vs,⟨o,ho,hc,nn,hd⟩,bx⟩:=R.list h.mem;have z:wpAny (model prog c.w) A (collect (.ref l)) Q' E s:=by refine wpAny_collect_seq l (.inl rfl) ho hc hd (λh' hk=>?_) (ax (by rw[aw bx];exact hz));exact k _ {s with heap:=h'} S (R.keeps (tk:=s.toks) hk) (by rw[bx];exact hq)
 exact aac (acN ⟨o,ho,hc⟩ PySem.F.slot_list_iter.lookup (aal ⟨rfl,z⟩))
end
end
section
variable{f x:Addr} {k:Addr→Addr→SS→Prop} {sp:Pos}
section
variable{c:Cx} {n:Nat} {S:SS} {E:EP} {s:aas} {X:Cells}
def ya(c:Cx)(n:Nat)(S:SS)(f:Addr)(as:List AV)(Q:AV→SS→Prop)(E:EP):Prop:=c.Ok→∀X A s pos,pos.map ab=as→c.In A n→Rp c (S.ext X) s→codeAny (model prog c.w) A (.call (.ref f) ⟨pos,[]⟩) (λr s'=>match r with
 | .ok (.ret v)=>QX c X (λv=>Q (ab v)) v s'
 | .ok _=>False
 | .error x=>EX c X E x s') s
theorem uQ{K0:aao→Frag}{m:Nat}(hf:FC K0 m f as [] C Qf Ef)(hp:aq C S.cells D)(hK:c.K=K0 c.w.params)(hd:c.hd=none)(h:∀v C',Qf v C'→∃l,aq C' l D∧Q v ⟨S.loc,l⟩) (he:∀k C',Ef k C'→∃l,aq C' l D∧E k ⟨S.loc,l⟩) (hm:autoParam (m≤n) apM):ya c n S f as Q E:=λok X A s pos JR hA R=>by
 have R2:Rp c ((⟨S.loc,C⟩:SS).ext (D++X)) s:=by show R.perm (cells':=C++(D++X));rw[←aaw];exact(hp.perm.append_right X).symm
 have Pn:c.In A m:=by let a1 a2 a3 a4:=jd hA;exact⟨a1,a2,by exact xb hm a3,by exact xc hm a4⟩
 have back:∀{C' l:Cells} {s':aas},aq C' l D→Rp c ((⟨S.loc,C'⟩:SS).ext (D++X)) s'→Rp c ((⟨S.loc,l⟩:SS).ext X) s':=λ{C' l s'} hl R'=>by show R'.perm (cells':=l++X);change(l++X).Perm (C'++(D++X));rw[←aaw];exact hl.perm.append_right X
 let e k s' C' z1 z2 z4:=hf.any (S:=⟨S.loc,C⟩) hK hd rfl JR (kws:=[]) rfl ok Pn R2 (λv s' C' z1 z3=>ak (h _ _ z3) λl y1 y2=>⟨⟨S.loc,l⟩,back y1 z1,y2⟩);let l y1 y2:=ak (he _ _ z4);refine⟨e,k,⟨S.loc,l⟩,rfl,z1.sub λa ha=>?_,back y1 z2,y2⟩;have hq:=(y1.perm.map (λx=>x.1)).mem_iff (a:=a);simp only[SS.ext,aaj,aax]at ha hq⊢;rcases ha with ha|ha;rcases hq.mp ha with q|q;exact .inl q;exact .inr (.inl q);exact .inr (.inr ha)
def zv(K:Frag)(C:Addr)(nm:Str)(f:Addr):Bool:=plainGet K C nm&&hasDictIn K C&&adf K (.ref C) nm==some (some (.ref f))&&isFn K (.ref f)&&specialIn K (.ref f) "__get__"==some (some (.builtin "function.__get__"))&&takesIn K (.ref f)==some false&& !(copiedNames.contains nm)
abbrev Vp(c:Cx)(n:Nat)(nm:Str)(k:Addr→Addr→SS→Prop):AV→SS→Prop:=λa S1=>∃x C d es p f,a= .ref x∧At (x,.inst C d) S1.cells∧At (d,.dict es p) S1.cells∧zv c.K C nm f=true∧dU es nm=none∧k f x S1
theorem Hs{x C d p f:Nat}{nm:Str}(h1:At (x,.inst C d) S.cells)(h2:At (d,.dict es p) S.cells)(h3:zv c.K C nm f=true)(h4:dU es nm=none)(h:k f x S):Vp c n nm k (.ref x) S:=(yO x C d es p f ⟨rfl,h1,h2,h3,h4,h⟩)
theorem Rp.Vq{S:SS}(R:Rp c (S.ext X) s)(t:Nat)(ht:s.toks≤t):Rp c (S.ext ((s.heap.objs.size,.raw (methodObj (.ref f) (.ref x)))::X)) {s with heap:=s.heap.push (methodObj (.ref f) (.ref x)),toks:=t}:=Rp.j3 (C:=[]) (C':=[(s.heap.objs.size,.raw (methodObj (.ref f) (.ref x)))]) R (λb o zz e=>aap _ e) (λp hp=>by obtain rfl:=aaL.mp hp;exact⟨_,aaG _ rfl,rfl,rfl⟩) (by simp) (λa ha=>by obtain rfl:a=s.heap.objs.size:=(by simpa using ha);exact .inr (aak _)) ht
theorem qZ{nm:Str}{C p:Addr}{Q:Value→aas→Prop}(ok:c.Ok)(R:Rp c (S.ext X) s)(h1:At (x,.inst C d) S.cells)(h2:At (d,.dict es p) S.cells)(hb:zv c.K C nm f=true)(hn:dU es nm=none)(h:Rp c (S.ext ((s.heap.objs.size,.raw (methodObj (.ref f) (.ref x)))::X)) {s with heap:=s.heap.push (methodObj (.ref f) (.ref x)),toks:=s.toks+1}→Q (.ref s.heap.objs.size) {s with heap:=s.heap.push (methodObj (.ref f) (.ref x)),toks:=s.toks+1}):wpAny (model prog c.w) A (getAttr (.ref x) nm true) Q E' s:=by
 let ents I I8:=ak (R.inst h1.mem h2.mem);let r hr rP:=ak (n6 I8 nm);rw[hn]at rP;obtain rfl:r=none:=by cases r<;>first|rfl|cases rP
 unfold zv at hb;simp only[aaM,beq_iff_eq,ab3]at hb;obtain⟨⟨⟨⟨⟨⟨k1,k2⟩,k3⟩,k4⟩,k5⟩,k6⟩,k7⟩:=hb;have Xk:=fQ ok R;exact get_bind Xk I (plainGet_of k1).1 (findObj_fn k2 k3 k5 k6 k7 (by change lookIn nm (dictOf ents p)=_;rw[lookIn_dict,hr])) (plainGet_of k1).2 (abH (fn_get (s:={s with toks:=s.toks+1}) Xk (beq_iff_eq.mp k4) (handed_on rfl (h (R.Vq _ (aa2 _))))))
theorem q0{b:Addr}{vs:List Value}(ok:c.Ok)(hA:c.In A n)(R:Rp c (S.ext ((b,.raw (methodObj (.ref f) (.ref x)))::X)) s)(h:ya c n S f (.ref x::vs.map ab) Q E):wpAny (model prog c.w) A (call (.ref b) ([]++vs)) (QX c X λv=>Q (ab v)) (EX c X E) s:=by
 let o ho r2 z3:=bN (R.cells (b,.raw (methodObj (.ref f) (.ref x))) (aad _ (.head _)));subst r2;refine abH (ks_codeAny_call_bound ho (adu (h ok _ A s (.ref x::vs) rfl hA R) λr s' z=>?_));cases r with
 |ok f=>cases f with|ret v=>obtain⟨S',z1,z2⟩:=z;exact⟨S',z1.dH (Z:=[_]),z2⟩|next=>exact z|brk=>exact z|cont=>exact z
 |error y=>obtain⟨e,k,S',rfl,z1,z2,z3⟩:=z;exact⟨e,k,S',rfl,z1.ext (Z:=[_]),z2.dH (Z:=[_]),z3⟩
abbrev Qy(c:Cx)(n:Nat)(Q:AV→SS→Prop)(E:EP)(f x:Addr):AV→SS→Prop:=λv S2=>Vo c n S2 v λvs S3=>ya c n S3 f (.ref x::vs) Q E
theorem E1{e b:Expr}{nm:Str}{pos:Pos}(h:EE c n S e (Vp c n nm λf x S1=>fnIn c.K f=true∧EE c n S1 b (Qy c n Q E f x) E) E)(he:autoParam (bo e=false) apR):EE c n S (.Call (.Attribute e nm ap) [.Starred b sp] [] pos) Q E:=by unfold EE;rw[arm_eval_Call,show attributeBase e nm c.env (eval e c.env)=eval e c.env by cases e<;>first|rfl|cases he];refine W.bind (W.az h λv S1 h8=>cX h8 λx C d es p f h1 h2 h3 h4 h5 h6 h7=>W.bind (W.standAt ?_));obtain rfl:=aj h1;let ok X A s hA R:=.i;unfold methodCall;rw[show methodCallForm ([Expr.Starred b sp].length+([]:List Keyword).length) (backTo pos (aci [.Starred b sp] c.env)) (backToKw pos (keywordEach [] c.env))=false from rfl];refine aac (abk (aac (qZ ok R h2 h3 h4 h5 λR1=>aal (aac (aal ?_)))));refine ks_call (P:=MethP c.K s.heap.objs.size f (.ref x)) rfl (keeps_M h6) (ks_lone (aau (h7.run ok _ A _ hA R1) (λv s2 Vr=>?_) λz s2 ⟨e,k,S',y1,y2,y3,y4⟩=>⟨e,k,S',y1,y2.ext (Z:=[_]),y3.dH (Z:=[_]),y4⟩));obtain⟨S2,R2,h8⟩:=Vr;refine h8 v _ A s2 _ _ rfl ok R2 λvs s3 S3 R3 h9=>⟨?_,q0 ok hA R3 h9⟩;let o ho r2 z3:=bN (R3.cells (s.heap.objs.size,.raw (methodObj (.ref f) (.ref x))) (aad _ (.head _)));subst r2;exact⟨ho,fQ ok R3⟩
abbrev Qz(c:Cx)(n:Nat)(b:Expr)(Q:AV→SS→Prop)(E:EP)(f x:Addr):AV→SS→Prop:=λa S2=>EE c n S2 b (λv S3=>Vo c n S3 v λvs S4=>ya c n S4 f (.ref x::a::vs) Q E) E
theorem E2{e a b:Expr}{nm:Str}{pos:Pos}(h:EE c n S e (Vp c n nm λf x S1=>fnIn c.K f=true∧EE c n S1 a (Qz c n b Q E f x) E) E)(he:autoParam (bo e=false) apR) (hp:autoParam (aV a=true) apR):EE c n S (.Call (.Attribute e nm ap) [a,.Starred b sp] [] pos) Q E:=by
 unfold EE;rw[arm_eval_Call,show attributeBase e nm c.env (eval e c.env)=eval e c.env by cases e<;>first|rfl|cases he];refine W.bind (W.az h λv S1 h8=>cX h8 λx C d es p f h1 h2 h3 h4 h5 h6 h7=>W.bind (W.standAt ?_));obtain rfl:=aj h1;let ok X A s hA R:=.i;have XU:aci [a,.Starred b sp] c.env=(false,eval a c.env)::aci [.Starred b sp] c.env:=by cases a<;>first|rfl|cases hp
 unfold methodCall;rw[show methodCallForm ([a,Expr.Starred b sp].length+([]:List Keyword).length) (backTo pos (aci [a,.Starred b sp] c.env)) (backToKw pos (keywordEach [] c.env))=false by rw[XU];rfl];refine aac (abk (aac (qZ ok R h2 h3 h4 h5 λR1=>aal (aac (aal ?_)))));rw[XU];refine ks_call (P:=MethP c.K s.heap.objs.size f (.ref x)) rfl (keeps_M h6) (evalArgs_plain (spliced_cons (aau (h7.run ok _ A _ hA R1) (λu s2 Vs=>?_) λz s2 ⟨e,k,S',y1,y2,y3,y4⟩=>⟨e,k,S',y1,y2.ext (Z:=[_]),y3.dH (Z:=[_]),y4⟩)));obtain⟨S2,R2,h8⟩:=Vs;refine items_star (aau (h8.run ok _ A _ hA R2) (λv s3 ⟨S3,R3,h9⟩=>h9 v _ A s3 _ _ rfl ok R3 λvs s4 S4 R4 yV=>spliced_nil ?_) λz s2 ⟨e,k,S',y1,y2,y3,y4⟩=>⟨e,k,S',y1,y2.ext (Z:=[_]),y3.dH (Z:=[_]),y4⟩);rw[aaO];refine⟨?_,q0 (vs:=u::vs) ok hA R4 yV⟩;let o ho r2 z3:=bN (R4.cells (s.heap.objs.size,.raw (methodObj (.ref f) (.ref x))) (aad _ (.head _)));subst r2;exact⟨ho,fQ ok R4⟩
end
end
section
namespace NX
theorem sB:Slot "list_iterator" "__getattribute__" "object.__getattribute__":=.of (owner:="object") (n:="__getattribute__") (by rw[acu,abD];kernel_rfl) (by decide+kernel) (by decide+kernel) (by decide+kernel) (by first|exact .inl (by decide+kernel)|exact .inr (by decide+kernel)) (by rw[ab6];kernel_rfl)
theorem B1:entryFor table "object.__getattribute__"=some Builtin.«object.__getattribute__»:=entryFor_of_tree '3'
theorem E3(a b:Value):argsOk "object.__getattribute__" ⟨[a,b],[]⟩:=by unfold argsOk;kernel_rfl
theorem E4:typeLookup (.type "list_iterator") "__next__"=pure (some (.builtin "list_iterator.__next__")):=by rw[acu,abD];kernel_rfl
theorem typ:typeOf (.builtin "list_iterator.__next__")=pure (.type "wrapper_descriptor"):=by kernel_rfl
theorem sC:Slot "wrapper_descriptor" "__get__" "wrapper_descriptor.__get__":=.of (owner:="wrapper_descriptor") (n:="__get__") (by rw[acu,abD];kernel_rfl) (by decide+kernel) (by decide+kernel) (by decide+kernel) (by first|exact .inl (by decide+kernel)|exact .inr (by decide+kernel)) (by rw[ab6];kernel_rfl)
theorem B2:entryFor table "wrapper_descriptor.__get__"=some Builtin.«wrapper_descriptor.__get__»:=entryFor_of_tree '3'
theorem E5(a b c:Value):argsOk "wrapper_descriptor.__get__" ⟨[a,b,c],[]⟩:=by kernel_rfl
theorem JS:typeLookup (.type "wrapper_descriptor") "__set__"=pure none:=by rw[acu,abD];kernel_rfl
theorem JT:typeLookup (.type "wrapper_descriptor") "__delete__"=pure none:=by rw[acu,abD];kernel_rfl
theorem owner:(".".intercalate ("list_iterator.__next__".cutAt '.').dropLast)="list_iterator":=by rw[(by first|rfl|decide+kernel:"list_iterator.__next__".cutAt '.'=["list_iterator","__next__"])];decide+kernel
theorem E6:acV (.type "list_iterator") (.type (".".intercalate ("list_iterator.__next__".cutAt '.').dropLast))=pure true:=by rw[owner,ab6];kernel_rfl
theorem bound(a:Value):checkBoundCall "list_iterator.__next__" ⟨[a],[]⟩=pure ():=by rw[DQ.JD];kernel_rfl
theorem pC:plainId "list_iterator.__next__"=true:=by decide+kernel
def DD(it:Addr):Obj:={cls:=.type "method-wrapper",data:=.fields #[.builtin "list_iterator.__next__",.ref it]}
def tR(l:Addr)(i:Nat):Obj:={cls:=.type "list_iterator",dict:=none,data:=.fields #[.ref l,.int i 0],slots:= #[]}
section
variable{w:World} {A:ads} {E:Value→aas→Prop} {h:Heap} {g:Array ach} {d:Drawn} {t:Nat} {os:abV} {a l i:Nat}
theorem get{R:Result→aas→Prop}(hx:h.get? a=some (tR l i))(hq:R (.ok (.ret (.ref h.objs.size))) ⟨h.push (DD a),g,d,t,os⟩):codeAny (model prog w) A (.call (.builtin "wrapper_descriptor.__get__") ⟨[.builtin "list_iterator.__next__",.ref a,.type "list_iterator"],[]⟩) R ⟨h,g,d,t,os⟩:=by have hT:(⟨h,g,d,t,os⟩:aas).TypeIs (.ref a) "list_iterator":=⟨_,hx,rfl⟩;have f8:=E6;refine codeAny_call_builtin sC.plain B2 (sC.check _ _ _ _ _ _ _ _ (typ:(⟨h,g,d,t,os⟩:aas).TypeIs (.builtin "list_iterator.__next__") "wrapper_descriptor") (E5 _ _ _) ?_);unfold DD at hq;repeat(any_goals(first|assumption|wp_step))
theorem entry{tk:Tok}{Q:PySem.Fin→aas→Prop}(hx:h.get? a=some (tR l i))(hq:Q (.done (.ret (.ref h.objs.size))) ⟨h.push (DD a),g,d,t,os⟩):wpAny (model prog w) A (Builtin.«object.__getattribute__» ⟨[.ref a,.str "__next__" tk],[]⟩) Q E ⟨h,g,d,t,os⟩:=by
 have hT:(⟨h,g,d,t,os⟩:aas).TypeIs (.ref a) "list_iterator":=⟨_,hx,rfl⟩;have f4:=E4;have f5:=typ;have f6:=sC.lookup;have f7:=JS;have f8:=JT;have XV:h.get? a=some {cls:=.type "list_iterator",dict:=none,data:=.fields #[.ref l,.int i 0],slots:= #[]}:=hx;repeat(any_goals(first|assumption|wp_step))
 show get hx;repeat(any_goals(first|assumption|wp_step))
theorem attr{Q:Value→aas→Prop}{s:aas}(hx:s.heap.get? a=some (tR l i))(hq:Q (.ref s.heap.objs.size) {s with heap:=s.heap.push (DD a),toks:=s.toks+1}):wpAny (model prog w) A (getAttr (.ref a) "__next__" true) Q E s:=by
 obtain⟨h,g,d,t,os⟩:=s;have hT:∀t',(⟨h,g,d,t',os⟩:aas).TypeIs (.ref a) "list_iterator":=λzz=>⟨_,hx,rfl⟩;have f3:=sB.lookup;have f4:=sB.bind (.ref a);have XV:h.get? a=some {cls:=.type "list_iterator",dict:=none,data:=.fields #[.ref l,.int i 0],slots:= #[]}:=hx;clear hx;repeat(any_goals(first|assumption|exact hT _|((with_reducible change wpAny _ _ (call (Value.builtin "object.__getattribute__") _ _) _ _ _);refine wpAny_call_entry sB (hT _) B1 ?_ (E3 _ _);refine entry (XV) ?_)|wp_step))
 exact⟨_,rfl,aal hq⟩
theorem item{n:Nat}{Q:PySem.Fin→aas→Prop}{s:aas}(ho:s.heap.get? it=some (tR l i))(Vt:s.heap.get? l=some ol)(vO:ol.data= .seq vs n)(hx:vs[i]? =some v)(hQ:∀h',h'.get? it=some (tR l (i+1))→Heap.SameBut it s.heap h'→Q (.done (.ret v)) {s with heap:=h'}):wpAny (model prog w) A (Builtin.«list_iterator.__next__» ⟨[.ref it],[]⟩) Q E s:=by have hd:(tR l i).data= .fields #[.ref l,.int i 0]:=rfl;change wpAny _ _ (field (.ref it) 0>>=_) _ _ s;refine aac (acq ho hd (x:=.ref l) rfl ?_);change wpAny _ _ (if(abP l==aa6)=true then _ else _) _ _ s;rw[if_neg (show¬((abP l==aa6)=true)from aa1)];change wpAny _ _ (field (.ref it) 1>>=_) _ _ s;refine aac (acq ho hd (x:=.int i 0) rfl ?_);change wpAny _ _ (seqItems? (.ref l)>>=_) _ _ s;refine aac (wpAny_seqItems Vt vO ?_);simp only[ade,hx];refine aac (acW ho hd (by simp) (aal (hQ _ ?_ (abv ..))));rw[abl _ ho (adF (adt hd _))];rfl
theorem fin{n:Nat}{Q:PySem.Fin→aas→Prop}{s:aas}(hh:A.handled=none)(ho:s.heap.get? it=some (tR l i))(Vt:s.heap.get? l=some ol)(vO:ol.data= .seq vs n)(hx:vs[i]? =none)(hE:∀h' e ob ar,Heap.ExtBut it s.heap h'→s.heap.get? e=none→h'.get? e=some ob→ob.cls= .type "StopIteration"→ob.data= .fields ar→ar[1]? =some .none→E (.ref e) {s with heap:=h'}):wpAny (model prog w) A (Builtin.«list_iterator.__next__» ⟨[.ref it],[]⟩) Q E s:=by
 have hd:(tR l i).data= .fields #[.ref l,.int i 0]:=rfl;change wpAny _ _ (field (.ref it) 0>>=_) _ _ s;refine aac (acq ho hd (x:=.ref l) rfl ?_);change wpAny _ _ (if(abP l==aa6)=true then _ else _) _ _ s;rw[if_neg (show¬((abP l==aa6)=true)from aa1)];change wpAny _ _ (field (.ref it) 1>>=_) _ _ s;refine aac (acq ho hd (x:=.int i 0) rfl ?_);change wpAny _ _ (seqItems? (.ref l)>>=_) _ _ s;refine aac (wpAny_seqItems Vt vO ?_);simp only[ade,hx];refine aac (wpAny_rule (aac (acW ho hd (by simp) ?_)));change wpAny _ _ (newExc (.type "StopIteration") []>>=_) _ _ _;show aac;simp only[newExc,newTuple];refine aac (abI ?_ (by size_fits));refine aac (m:=firstArgMember _ _) (ab2 (a:=aa6) (by first|rfl|(simp only[firstArgMember];rfl)) ?_);refine abI ?_ (by size_fits);dsimp only[raiseNew];refine aac (wpAny_handled ?_);first|rw[show A.in1.handled=none from hh]|rw[hh]
 refine aac (aal (wpAny_throw ?_));refine hE _ _ _ _ (((abv ..).extBut.push _).push _) ?_ (aaG _ rfl) rfl rfl rfl;have aL:∀e,s.heap.objs.size≤e→s.heap.get? e=none:=λe he=>by cases q:s.heap.get? e with|none=>rfl|some o=>exact absurd (aa3 q) (Nat.not_lt.mpr he)
 show aL _;rw[acH];exact aab (aaz (abv ..).1.symm) (aa2 _)
end
end NX
section
variable{c:Cx} {n:Nat} {S:SS} {E:EP} {s:aas} {X:Cells}
theorem zw{l:Addr}(h:At (l,.list xs) S.cells)(hq:∀it,Q (.ref it) ⟨S.loc,(it,.raw (NX.tR l 0))::S.cells⟩):bM c n S (.bi "iter") [.ref l] Q E:=λf vs hf bx=>W.of λok X A s hA R=>by obtain rfl:=dT hf;let v r1 hv:=ak (cP bx);subst r1;obtain rfl:=aj hv;let vs hl hm:=ak (R.list h.mem);show call_function_entry (by decide+kernel) (by decide+kernel) kdk_entry_iter (kdk_args_iter _);refine aac (m:=someArgs "iter" 1 2 _) (ab2 (a:=[abP l]) (by first|rfl|kernel_rfl!) ?_);change wpAny _ _ (pyIter (.ref l)>>=_) _ _ _;refine aac (wpAny_pyIter_list hl ?_);exact aal ⟨_,rfl,⟨_,R.c0 (ao:=.raw (NX.tR l 0)) (tk:=s.toks) rfl ⟨rfl,rfl⟩,hq _⟩⟩
theorem Vu{id:Str}{p1 pos:Pos}{a:Expr}{as:List Expr}(h:EE c n S (.Call (.Name id p1) (a::as) [] pos) (λv S1=>∃it l i,v= .ref it∧At (it,.raw (NX.tR l i)) S1.cells∧∀b,Q (.ref b) ⟨S1.loc,(b,.raw (NX.DD it))::S1.cells⟩) E):EE c n S (.Attribute (.Call (.Name id p1) (a::as) [] pos) "__next__" p) Q E:=by
 unfold EE;rw[arm_eval_Attribute,show attributeBase (.Call (.Name id p1) (a::as) [] pos) "__next__" c.env (eval (.Call (.Name id p1) (a::as) [] pos) c.env)=eval (.Call (.Name id p1) (a::as) [] pos) c.env from rfl];refine W.bind (W.az h λv S1 h8=>lW h8 λit l i h1 h2 h3=>W.bind (W.standAt (W.bind (W.holding (W.az (Q:=λr S2=>Q (ab r) S2) ?_ λr S2 k2=>?_)))));obtain rfl:=aj h1;exact .i λok X A s hA R=>by let o ho r2 z3:=bN (R.cells _ (aaf _ h2.mem));subst r2;exact NX.attr ho ⟨_,R.c0 (ao:=.raw (NX.DD it)) (tk:=s.toks+1) rfl ⟨rfl,rfl⟩,h3 _⟩
 exact .i λok X A s hA R=>aac (wpAny_letTemporaryGo (aal ⟨S2,R,k2⟩))
abbrev Zo(Q:AV→SS→Prop)(E:EP):AV→SS→Prop:=λv S1=>∃b it l k xs,v= .ref b∧At (b,.raw (NX.DD it)) S1.cells∧At (l,.list xs) S1.cells∧((∃y cells',xs[k]? =some y∧aI it (.raw (NX.tR l k)) (.raw (NX.tR l (k+1))) S1.cells cells'∧Q y ⟨S1.loc,cells'⟩)∨(xs[k]? =none∧∃D,jr (it,.raw (NX.tR l k)) S1.cells D∧E (.type "StopIteration") ⟨S1.loc,D⟩))
theorem zx{v i:Expr}{ps pos:Pos}(hd:c.hd=none)(h:EE c n S (.Subscript v i ps) (Zo Q E) E):EE c n S (.Call (.Subscript v i ps) [] [] pos) Q E:=by
 unfold EE;change W c n S (eval (.Subscript v i ps) c.env>>=λf=>callWith pos f [] (backTo pos (aci [] c.env)) (backToKw pos (keywordEach [] c.env))) _ _;refine W.bind (W.az h λf S1 h8=>qH h8 λb it l k xs h1 h2 h3 h4=>.i λok X A s hA R=>?_);obtain rfl:=aj h1;have hb:∀s':aas,Rp c (S1.ext X) s'→s'.heap.get? b=some (NX.DD it):=λs' R'=>by let o ho r2 z3:=bN (R'.cells _ (aaf _ h2.mem));subst r2;exact ho
 let vs k0 hl bx:=cI (R.listAt h3.mem);refine callWith_of (P:=λh=>h.get? b=some (NX.DD it)) rfl (λhh X=>⟨.machine,.inr (.inl rfl),(Looks.ld (part:=none) X).andThen (ace rfl)⟩) (bV rfl (spliced_nil ⟨hb s R,?_⟩));refine abH (codeAny_of_tree ?_);change wpAny _ A.in1 (callAny (.ref b) ⟨[],[]⟩) _ _ s;dsimp only[callAny];refine aac (wpAny_load (hb s R) ?_);change wpAny _ A.in1 (checkBoundCall "list_iterator.__next__" ⟨[.ref it],[]⟩>>=λzz=>again (.builtin "list_iterator.__next__" ⟨[.ref it],[]⟩)) _ _ s;rw[NX.bound];refine aac (aal (aal ⟨plainId_quiet NX.pC _,acs entry_listiter_next ?_⟩));rw[acI NX.pC];rcases h4 with⟨y,cells',hy,hu,hq⟩|⟨hy,D,hp,hq⟩;let o ho r2 z3:=bN (R.cells _ (aaf _ hu.mem));subst r2;let w hw e:=ak (mW bx hy);refine NX.item ho hl rfl hw λh' hi hs=>⟨⟨S1.loc,cells'⟩,R.upd (h':=h') (tk:=s.toks) hu.app hs hi ⟨rfl,rfl⟩,?_⟩;change Q (ab w) _;rw[e];exact hq;have R1:Rp c ((⟨S1.loc,D⟩:SS).ext ((it,.raw (NX.tR l k))::X)) s:=R.perm (cells':=D++(it,.raw (NX.tR l k))::X) (by show aaS.trans;exact(hp.perm.append_right X).symm);let o ho r2 z3:=bN (R1.cells (it,.raw (NX.tR l k)) (aad _ (.head _)));subst r2;have hx:vs[k]? =none:=by rw[←bx,aag]at hy;cases q:vs[k]? with|none=>rfl|some w=>rw[←adG]at q;rw[q]at hy;cases hy
 let h' e ob ar hk hn he E7 Zp h1:=NX.fin (show A.in1.handled=none from(In.hd (A:=A) hA hd:A.handled=none)) ho hl rfl hx;refine⟨e,_,⟨S1.loc,D⟩,rfl,⟨?_,λq=>?_,ob,ar,he,E7,Zp,.inl h1⟩,(R1.za (h':=h') (tk:=s.toks) λb o hb e=>hk b o hb e),hq⟩;cases q:c.base.get? e with|none=>rfl|some o=>rw[R1.stays e o q]at hn;cases hn
 let p hp r2:=ak (aaH.mp q);subst r2;obtain⟨o,ho,_⟩:=R1.cells p (by rcases aax.mp hp with hp|hp;exact aaf _ hp;exact aad _ (.tail _ hp));rw[ho]at hn;cases hn
end
end
section
section
variable{c:Cx} {n:Nat} {S:SS} {E:EP} {s:aas} {X:Cells}
theorem B3(h:∀d,Q (.ref d) ⟨S.loc,(d,.map [] 0)::S.cells⟩):EE c n S (.Dict [] [] p) Q E:=.i λok X A s hA R=>wpAny_Dict_empty ⟨_,R.c0 (ao:=.map [] 0) (tk:=s.toks) rfl ⟨[],⟨#[],⟨rfl,rfl,rfl⟩,rfl,λzz he=>by simp at he,Pairs.nil,abn⟩,rfl⟩,h _⟩
theorem zy(h:∀a,Q (.ref a) ⟨S.loc,(a,.set (λzz=>false) 0)::S.cells⟩):bM c n S (.type "set") [] Q E:=λf vs hf bx=>W.of λok X A s hA R=>by obtain rfl:=bI hf;obtain rfl:=Bt bx;refine call_set_0 λled=>⟨_,R.c0 (ao:=.set (λzz=>false) 0) (tk:=s.toks) rfl (eY (#[]) 0 (.fresh 0 0 led) ⟨?_,rfl,?_,?_,?_,?_,rfl⟩),h _⟩;exact⟨rfl,rfl,rfl⟩;intro e he;simp at he;intro k;simp;decide;rfl
theorem E8{e:Expr}{pos:Pos}(h:EE c n S e (nG c n "dict" "dict.items" args Q E) E)(he:autoParam (bo e=false) apR)(hs:autoParam (args.all aV=true) apR)(hlen:autoParam ((decide (args.length<30))=true) apR)(bw:autoParam ((ap.endLine==pos.line)=true) apR):EE c n S (.Call (.Attribute e "items" ap) args [] pos) Q E:=js PySem.F.plainAttrs_dict PySem.F.slot_dict_items PySem.F.type_dict_items h he hs hlen bw
theorem m_values{e:Expr}{pos:Pos}(h:EE c n S e (nG c n "dict" "dict.values" args Q E) E)(he:autoParam (bo e=false) apR)(hs:autoParam (args.all aV=true) apR)(hlen:autoParam ((decide (args.length<30))=true) apR)(bw:autoParam ((ap.endLine==pos.line)=true) apR):EE c n S (.Call (.Attribute e "values" ap) args [] pos) Q E:=js PySem.F.plainAttrs_dict PySem.F.slot_dict_values PySem.F.type_dict_values h he hs hlen bw
theorem Vv{v:Expr}(h:EE c n S v Q E):EE c n S (.JoinedStr [v] p) Q E:=.i λok X A s hA R=>wpAny_JoinedStr_one (h.run ok X A s hA R)
abbrev Zq(Q:AV→SS→Prop):AV→SS→Prop:=λv S1=>∃x,v= .str x∧(acR x).length≤1000∧∀y,Q (.str y) S1
theorem bg(a b:Str):(a++b).length=a.length+b.length:=by change(a.cps++b.cps).size=_;rw[Array.size_append];rfl
theorem Vw{a b:Str}{k':Nat}{e:Expr}{pa pf pb:Pos}(ha:a.length≤1000)(hb:b.length≤1000)(h:EE c n S e (Zq Q) E):EE c n S (.JoinedStr [.Constant (.str a) k pa,.FormattedValue e 114 none pf,.Constant (.str b) k' pb] p) Q E:=.i λok X A s hA R=>by
 have big:∀{j:Nat},j≤3000→j≤ac_:=λh=>aab h '2';show wpAny_JoinedStr;refine Constant_str (ba a s.toks ⟨rfl,big (by rw[bg];change 0+_≤_;exact Oa ha),?_⟩);refine wpAny_FormattedValue_repr (aau (h.run ok X A _ hA (R.toks (k:=s.toks+1))) (λv s1 JU=>?_) λzz zz z=>z);obtain⟨S1,R1,x,hv,hx,hq⟩:=JU;let t r1:=eE (aD hv);subst r1;refine pyReprObj_str (wpAny_handedOn ?_ ?_ (big (by exact aab hx (aae rfl)))) (big (by exact aab hx (aae rfl)));all_goals
  refine ba _ _ ⟨rfl,big (by rw[bg,bg];change 0+_+_≤_;exact Oe ha hx),?_⟩
  refine Constant_str (ba b _ ⟨rfl,big (by rw[bg,bg,bg];change 0+_+_+_≤_;exact GN ha hb hx),?_⟩)
  refine⟨big (by rw[bg,bg,bg];change 0+_+_+_≤_;exact GN ha hb hx),S1,?_,hq _⟩
  first|exact R1.toks (k:=s1.toks+1+1+1)|exact R1.toks (k:=s1.toks+1+1+1+1)|exact R1.toks (k:=s1.toks+1+1)
end
end
section
variable{es:Array abM} {Q:FL→SS→Prop}
section
variable{c:Cx} {n:Nat} {S:SS} {E:EP} {s:aas} {X:Cells}
def pD(es:Array abM):Bool:=es.all λe=>match e.key with| .str _ _=>true|_=>false
theorem wO(h:pD es=true):StrKeys es:=λe he=>by unfold pD at h;rw[Array.all_eq_true_iff_forall_mem]at h;have:=h e he;cases q:e.key with|str n t=>exact ba n t rfl|_=>rw[q]at this;cases this
theorem sD{B:String}{C N:Addr}{nm q:Str}{bs bm:List Value}{hdct ab:Bool}{sn:List Str}{sub:List Value}{col:Option Bool}{dd od:Option Addr}{k0 k1 k2 k3 k5:Option Value}{oc:Value}{osl:Array (Option Value)}(FB:ExcBaseFacts B newId initId bm) (hC:c.K.lookup C=some (excClassObj nm q C N bs bm hdct sn sub ab col dd k0 k1 k2 k3 k5 newId)) (hN:c.K.lookup N=some ⟨oc,od,.dict es ep,osl⟩) (Zr:pD es=true) (Zt:nsFind es "__init__"=none){pos:Pos} (hd:c.hd=none)(h:EE c n S (.Name x np) (λf S1=>f= .ref C∧EA c n S1 args (λas S2=>as.length≤lim∧E (.ref C) S2) E) E) (hs:autoParam (args.all aV=true) apR):ES c n S (.Raise (some (.Call (.Name x np) args [] cpos)) none pos) Q E:=.i λok X A s hA R=>by refine wpAny_Raise_call_subT (C:=C) (nm:=nm) (q:=q) (N:=N) (bs:=bs) (bm:=bm) (hdct:=hdct) (sn:=sn) (sub:=sub) (ab:=ab) (col:=col) (dd:=dd) (k0:=k0) (k1:=k1) (k2:=k2) (k3:=k3) (k5:=k5) FB (mN:=nsFind es) FB.hasBase (In.hd hA hd) (bF hs) Zt (h.st ok X A s hA R λf s1 S1 R1 h8=>eA h8 λh1 h2=>⟨aj h1,bV (bF hs) (aau ((h2 cpos).run ok X A s1 hA R1) (λvs s2 h8=>h8.el λS2 R2 h7=>eA h7 λh3 h4=>⟨rfl,?_,fQ ok R2 _ _ hC,(eY _ _ _ ⟨fQ ok R2 _ _ hN,rfl,wO Zr,λzz=>rfl⟩),.base,λh' e hm=>?_⟩) λzz zz x=>x)⟩);rw[aaa]at h3;exact ax h3;let t ht z2 z3:=bN hm.there;let a b:=eA (R2.newExc hm.keeps hm.new ht rfl rfl rfl);exact⟨e,_,S2,rfl,b,a,h4⟩
end
end
section
section
variable{c:Cx} {n:Nat} {S:SS} {E:EP}
theorem sE(h:EE c n S value (subQ c n "dict" slice Q E) E)(hs:autoParam (jl slice=true) apR):EE c n S (.Subscript value slice p) Q E:=rU "dict" "dict.__getitem__" PySem.F.slot_dict_getitem.lookup h hs
theorem d6(h:EE c n S value (subQ c n "list" slice Q E) E)(hs:autoParam (jl slice=true) apR):EE c n S (.Subscript value slice p) Q E:=rU "list" "list.__getitem__" PySem.F.slot_list_getitem.lookup h hs
theorem wP(h:EE c n S value (subQ c n "tuple" slice Q E) E)(hs:autoParam (jl slice=true) apR):EE c n S (.Subscript value slice p) Q E:=rU "tuple" "tuple.__getitem__" PySem.F.slot_tuple_getitem.lookup h hs
theorem JV(h:EE c n S value (subQ c n "str" slice Q E) E)(hs:autoParam (jl slice=true) apR):EE c n S (.Subscript value slice p) Q E:=rU "str" "str.__getitem__" PySem.F.slot_str_getitem.lookup h hs
end
theorem E9:acV (.type ((Manifest.find? "StopIteration").elim "type" λx=>x.metatype)) (.type "tuple")=pure false:=by rw[ab6];kernel_rfl
theorem B4{K:Frag}:Ji w K (.type "StopIteration") (.type "StopIteration") true:=uv (X:="StopIteration") (T:="StopIteration") (b:=true) ST.base E9 ST.self
theorem QA:acV (.type ((Manifest.find? "ValueError").elim "type" λx=>x.metatype)) (.type "tuple")=pure false:=by rw[ab6];kernel_rfl
theorem E_:acV (.type "ValueError") (.type "BaseException")=pure true:=by rw[ab6];kernel_rfl
theorem Fa:acV (.type "ValueError") (.type "ValueError")=pure true:=by rw[ab6];kernel_rfl
theorem JW{K:Frag}:Ji w K (.type "ValueError") (.type "ValueError") true:=uv (X:="ValueError") (T:="ValueError") (b:=true) E_ QA Fa
end
section
variable{xs:List Str} {use:Option (Value→Sem Unit)} {Q':Value→aas→Prop} {l':Addr→List (Str×Option AV)}
def zA(K:Frag)(p:Str×Value):Prop:=(p.1==("__debug__":Str))=false∧(nsIn K ab9 p.1=some (some p.2)∨(nsIn K ab9 p.1=some none∧bootBuiltins p.1=some p.2∧p.1≠"__name__"))
section
variable{c:Cx} {n:Nat} {S:SS} {E:EP} {s:aas} {X:Cells}
variable{elt:Expr} {gens:List Comprehension} {scope:Scope} {pos:Pos} {j:Nat} {t iter:Expr} {ifs:List Expr} {P:Nat→Obj→Prop} {D:Addr} {cl:List (Str×Addr)} {gl:List (Str×Value)}
theorem Cx.zB(ok:c.Ok)(hc:c.comp=false)(hk:scope.kind= .function)(Ap:∀p∈gl,zA c.K p∧(relabel scope c.env).names.lookup p.1=some .globalImplicit)(hL:c.base.objs.size≤L):(c.inner scope cl gl m L).Ok where
 eH:=ok.eH
 eL:=rfl
 eg:=ok.eg
 eb:=ok.eb
 kind:=hk
 fr:=λh=>nomatch h
 above:=hL
 aC:=λf hf=>by
  rcases aai.mp hf with rfl|hf
  ·exact⟨(ok.fr hc).trans (congrArg some ok.eL.symm),by rw[ok.kind];decide⟩
  ·exact ok.aC f hf
 gl:=λp hp=>by
  obtain⟨⟨h1,h2⟩,h3⟩:=Ap p hp
  exact⟨h3,h1,h2.imp (λq=>mg_of ok.eH.fg ok.eH.g q) λh8=>pZ h8 λa b d=>⟨mg_none_of ok.eH.fg ok.eH.g a,b,d⟩⟩
def LG(w:World)(t:Expr)(P:Nat→Obj→Prop):Prop:=∀(A:ads) (s:aas) (it:Addr) (o:Obj) (i:Nat) (v:Value) (Q:Unit→aas→Prop) (E:Value→aas→Prop),s.heap.get? it=some o→P i o→Q () s→wpAny (model prog w) A (letOwnedTupleGo t (.ref it) v) Q E s
theorem eR:LG w (.Name x p) P:=λzz zz zz zz zz zz zz zz zz zz h=>aal h
def LP(c:Cx)(n:Nat)(S:SS)(e:Expr)(j:Nat)(P:Nat→Obj→Prop)(D:Addr)(Q:SS→Prop):Prop:=c.Ok→∀X A s it,c.In A n→Rp c (S.ext ((it,.obj (P 0))::X)) s→codeAny (model prog c.w) A (.compLoop e j (.ref it) (.ref D) c.env) (λr s'=>r= .ok .next∧QS c X Q s') s
def BD(c:Cx)(n:Nat)(S:SS)(elt:Expr)(gens:List Comprehension)(scope:Scope)(pos:Pos)(j:Nat)(D:Addr)(Q:SS→Prop):Prop:=(gens[j+1]? =none∧EE c n S elt (λv S4=>∃ys cells',aI D (.list ys) (.list (ys++[v])) S4.cells cells'∧ys.length≤lim∧Q ⟨S4.loc,cells'⟩) hZ)∨(∃t2 yb QB,gens[j+1]? =some ⟨t2,yb,QB,0⟩∧(∀x,aa4 yb c.env x=pure x)∧EE c n S yb (λu S4=>∃P2,(∀u',ab u'=u→wj c n S4 u' P2)∧Bx c.w P2∧LP c n S4 (.ListComp elt gens scope pos) (j+1) P2 D Q) hZ)
theorem j6{R:Result→aas→Prop}{it:Value}(hg:gens[j]? =some ⟨t,iter,ifs,0⟩)
  (h0:codeAny (model prog c.w) A (.compLoop (.ListComp elt gens scope pos) j it acc env) R s)
  (h:wpAny (model prog c.w) A (pyIter it) (λXW s'=>codeAny (model prog c.w) A (.compLoop (.ListComp elt gens scope pos) j XW acc env) R s') (notedBy (model prog c.w) A env λx s'=>R (.error x) s') s):
  codeAny (model prog c.w) A (.compStart (.ListComp elt gens scope pos) j it acc env) R s:=by
 refine codeAny_of_tree ?_
 change wpAny _ _ ((compStart (.ListComp elt gens scope pos) j it acc env).onRaise (λx=>do noteFrame x env;standAt theWindowsPlace)) _ _ s
 refine wpAny_notedAt ?_
 unfold compStart
 rw[show(clausesOf (.ListComp elt gens scope pos))[j]? =some ⟨t,iter,ifs,0⟩from hg]
 refine qI (by with_unfolding_all exact aa1) ?_
 refine aac (wpAny_askSetting (wpAny_ite ?_))
 split
 ·exact aac (aal (aal (And.intro rfl h0)))
 ·exact aac (wpAny_rule (aac (abu (aac (aau h (λXW s' h'=>aal (And.intro rfl h')) λzz zz x=>x)))))
theorem LP.loop{Q:SS→Prop}(hg:gens[j]? =some ⟨t,iter,ifs,0⟩)(lg:LG c.w t P)(xs:List AV)(Inv:Nat→SS→Prop)(h0:Inv 0 S)
  (step:∀i y S1,xs[i]? =some y→Inv i S1→xq c n S1 P i y∧AS c n S1 t y (λS2=>TS c n S2 ifs (λok S3=>if ok=true then BD c n S3 elt gens scope pos j D (Inv (i+1))else Inv (i+1) S3) hZ) hZ)
  (fin:∀S1,Inv xs.length S1→xr c n S1 P xs.length∧Q S1):LP c n S (.ListComp elt gens scope pos) j P D Q:=λok X A s it hA R=>by
 refine codeAny_loop rfl (λk s=>∃i S1,k=xs.length-i∧i≤xs.length∧Rp c (S1.ext ((it,.obj (P i))::X)) s∧Inv i S1) (λk s JX=>?_) xs.length (ba 0 S ⟨rfl,aaD _,R,h0⟩)
 refine lV JX λi S1 hk hi R inv=>?_
 change wpAny _ A ((compTurn (.ListComp elt gens scope pos) j (.ref it) (.ref D) c.env).onRaise (λx=>do noteFrame x c.env;theTreesLotGoes x)) _ _ s
 refine wpAny_noted ?_
 unfold compTurn
 simp only[hg]
 refine ak (R.cells (it,.obj (P i)) (aad _ (.head _))) λo ho hP=>?_
 cases hx:xs[i]? with
 |none=>
  have:xs.length=i:=by have:=ac2.mp hx;exact aaI this hi
  subst this
  refine eA (fin S1 inv) λf1 f2=>?_
  refine aac (abu (aac (f1 ok _ A s it o _ _ hA R ho hP λh₃ tk₃ B5 iS=>?_)))
  exact aal ⟨rfl,S1,R.za (h':=h₃) (tk:=tk₃) (λb o' hb e=>B5 b o' hb e) iS,f2⟩
 |some y=>
  refine eA (step i y S1 hx inv) λg1 g2=>?_
  have dc:i<xs.length:=(aav.mp hx).1
  refine aac (abu (aac (g1 ok _ A s it o _ _ hA R ho hP λv h₃ o₃ tk₃ hv B5 Ht Hu iS=>?_)))
  have R6:Rp c (S1.ext ((it,.obj (P (i+1)))::X)) {s with heap:=h₃,toks:=tk₃}:=R.upd (x:=.obj (P i)) (y:=.obj (P (i+1))) aI.mid B5 Ht Hu iS
  refine aac (lg A _ it o₃ (i+1) v _ _ Ht Hu ?_)
  refine aac (aau ((g2 v hv).run ok _ A _ hA R6) (λzz s4 JY=>?_) λzz zz hx=>zg hx)
  obtain⟨S4,R4,k4⟩:=JY
  refine aac (aau (k4.run ok _ A _ hA R4) (λb s5 JZ=>?_) λzz zz hx=>zg hx)
  obtain⟨S5,R5,k5⟩:=JZ
  cases b with
  |false=>exact aal ⟨rfl,_,by exact DO hk dc,i+1,S5,rfl,by exact dc,R5,k5⟩
  |true=>
   rw[if_pos rfl]at k5
   have done:∀s' S',Rp c (S'.ext ((it,.obj (P (i+1)))::X)) s'→Inv (i+1) S'→∃m,m<k∧∃i S1,m=xs.length-i∧i≤xs.length∧Rp c (S1.ext ((it,.obj (P i))::X)) s'∧Inv i S1:=λs' S' R' k'=>⟨_,by exact DO hk dc,i+1,S',rfl,by exact dc,R',k'⟩
   rcases k5 with⟨hn,k5⟩|⟨t2,yb,QB,hn,LL,k5⟩
   ·simp only[hn]
    refine aac (aac (aau (k5.run ok _ A _ hA R5) (λz s6 J0=>?_) λzz zz hx=>zg hx))
    obtain⟨S6,R9,ys,cells',hu,DC,Vx⟩:=J0
    refine gS (R9.cells (D,.list ys) (aaf _ hu.mem)) λoD Zu vs kD r4 bx=>?_
    obtain rfl:=r4
    refine aac (wpAny_list_append_plain ⟨kD,Zu⟩ (λh₆ h8 QC=>eE h8 λk₆ QD=>?_) (ax (by rw[aw bx];exact DC)))
    have R10:Rp c ((⟨S6.loc,cells'⟩:SS).ext ((it,.obj (P (i+1)))::X)) {s6 with heap:=h₆}:=R9.upd (tk:=s6.toks) (x:=.list ys) (y:=.list (ys++[ab z])) hu.app QC QD (ba _ _ ⟨rfl,by rw[Array.toList_push,aaj,bx];rfl⟩)
    exact aal (aal ⟨rfl,done _ _ R10 Vx⟩)
   ·simp only[hn]
    refine aac (aau (k5.run ok _ A _ hA R5) (λz s6 J1=>?_) λzz zz hx=>zg hx)
    obtain⟨S6,R9,P2,hit,J2,Zv⟩:=J1
    refine aac (abu ?_)
    with_reducible refine qI (by first|decide|simp) ?_
    refine aac (ab2 (LL z) ?_)
    refine aac (abk (hit z rfl ok _ A s6 _ _ hA R9 λh7 Sk o2 XX Zw Vy XY XZ Vz=>?_))
    have R7:Rp c (S6.ext ((Sk,.obj (P2 0))::(it,.obj (P (i+1)))::X)) {s6 with heap:=h7,toks:=XX}:=(R9.alloc (tk:=XX) (ao:=.obj (P2 0)) Zw Vy XY XZ Vz).perm (cells':=S6.cells++(Sk,.obj (P2 0))::(it,.obj (P (i+1)))::X) aaS
    have loop:=Zv ok _ A _ Sk hA R7
    refine aac (wpAny_runOwn (j6 (c:=c) hn (adu loop λr s' hr=>?_) (J2 A _ Sk o2 0 _ _ XY XZ (adu loop λr s' hr=>?_))))
    all_goals
     obtain⟨rfl,S8,R8,k8⟩:=hr
     exact aal ⟨rfl,done _ _ R8 k8⟩
structure CF(c:Cx)(scope:Scope)(cl:List (Str×Addr))(gl:List (Str×Value))(xs:List Str):Prop where
 rN:closureFor scope c.env=pure cl
 cell:∀y∈scope.names,y.2≠.cell
 kind:scope.kind= .function
 names:∀y∈scope.names,y.2= .local→scope.names.lookup y.1=some .local
 X1:∀x∈xs,scope.names.lookup x=some .local∧(x==("__debug__":Str))=false
 nd:xs.Nodup
 glob:∀p∈gl,zA c.K p∧(relabel scope c.env).names.lookup p.1=some .globalImplicit
theorem uR(ok:c.Ok)(hc:c.comp=false)(hA:c.In A n)(R:Rp c (S.ext X) s)(F:CF c scope cl gl xs)(hs:∀x,aa4 iter c.env x=pure x)(h:wpAny (model prog c.w) A (eval iter c.env) (λv s1=>∃S1,Rp c (S1.ext X) s1∧∃P,wj c n S1 v P∧Bx c.w P∧∀D,∃Qc:SS→Prop,(∀m L,LP (c.inner scope cl gl m L) n ⟨xs.map λx=>(x,none),(D,.list [])::S1.cells⟩ (.ListComp elt (⟨t,iter,ifs,0⟩::jX) scope pos) 0 P D Qc)∧∀L C s' l,Qc ⟨l,C⟩→(∃m,Rp c ((⟨S1.loc,C⟩:SS).ext ((L,.v5 m)::X)) s')→compPost (model prog c.w) A E' use Q' (.ref D) L (.ok .next) s') E' s):wpAny (model prog c.w) A (comprehension (.ListComp elt (⟨t,iter,ifs,0⟩::jX) scope pos) scope c.env p' (newList []) false (eval iter c.env) use) Q' E' s:=by
 refine wpAny_comprehension_free rfl hs F.rN F.kind F.names (aau h (λv s1 J3=>?_) λzz zz z=>z);let S1 R1 P hit J2 hQ:=IU J3;let h₁ it o tk hk hle ho hP iS:=hit ok X A s1 _ _ hA R1;have R2:=R1.alloc (tk:=tk) (ao:=.obj (P 0)) hk hle ho hP iS;refine wpAny_newList (items:=[]) ?_ (aaD _);have R3:=R2.c0 (S:=⟨S1.loc,(it,.obj (P 0))::S1.cells⟩) (X:=X) (ao:=.list []) (o:={cls:=.type "list",data:=.seq ([]:List Value).toArray}) (tk:=tk) rfl (ba _ _ ⟨rfl,rfl⟩);let m hn hm:=ak R3.ns;refine wpAny_newFunctionEnv F.cell (by intro y hy;simp at hy) (λh₂ lS PV=>?_) F.kind;dsimp only at lS PV⊢;generalize hL:(h₁.push {cls:=.type "list",data:=.seq ([]:List Value).toArray}).objs.size=L at lS PV⊢;generalize hD:h₁.objs.size=D at R3⊢;have QE:∀b o,(h₁.push {cls:=.type "list",data:=.seq ([]:List Value).toArray}).get? b=some o→h₂.get? b=some o:=λb o e=>(PV.2 b (by rw[←hL];exact abf (aa3 e))).trans (aap _ e);have R4:=R3.enter (fx:={c.fx with gl:=gl,cs:=relabel scope c.env}) (loc:=xs.map λx=>(x,none)) (h₁:=h₂) (tk:=tk+([]:List (Str×Value)).length) ok hn QE (by rw[hL];exact lS) (by intro p hp;let x hx r2:=ak (aaH.mp hp);subst r2;rfl) (by rw[aba];exact(List.map_id xs).symm▸F.nd) (by intro y hy;rw[aba]at hy;let x hx r2:=ak (aaH.mp hy);subst r2;exact⟨lookup_relabel_local (F.X1 x hx).1,(F.X1 x hx).2⟩) (aa5 _ _);rw[(by unfold Cx.kept;rw[hc]:c.kept m X=X)]at R4;dsimp only at R4;rw[hL]at R4;have R5:=(R4.EI (cl:=cl) hc).perm (cells':=((D,.list [])::S1.cells)++((it,.obj (P 0))::X)) (by change((D,AO.list [])::(S1.cells++(it,AO.obj (P 0))::X)).Perm ((D,AO.list [])::(it,AO.obj (P 0))::(S1.cells++X));exact abz _ aaS);have Zx:c.base.objs.size≤L:=by rw[←hL,acH];let m0 Zy z2:=ak R2.ns;exact aaN (aaC ok.above (Nat.lt_succ_of_lt Zy.lt))
 have Dw:=Cx.zB (cl:=cl) (m:=m) ok hc F.kind F.glob Zx;let Qc q1 q2:=ak (hQ D);have loop:=q1 m L Dw X A _ it (Cx.Bz (scope:=scope) (cl:=cl) (gl:=gl) (m:=m) (L:=L) hA hc) R5;have done:∀r s',(r= .ok .next∧QS (c.inner scope cl gl m L) X Qc s')→compPost (model prog c.w) A E' use Q' (.ref D) L r s':=by intro r s' J4;obtain⟨rfl,⟨l,C⟩,R8,k8⟩:=J4;let m₃ Rf:=eE (Rp.outer (S:=S1.ext X) ok R1 hm R8);exact q2 L C s' l k8 ⟨m₃,Rf.perm (cells':=C++(L,.v5 m₃)::X) aaS⟩
 change codeAny _ A (.compStart (.ListComp elt (⟨t,iter,ifs,0⟩::jX) scope pos) 0 (.ref it) (.ref D) (compEnvC scope cl L c.env)) _ _;show j6 (c:=c) (gens:=⟨t,iter,ifs,0⟩::jX) (j:=0) rfl (adu loop done);let o' ji tN:=ak (R5.cells (it,.obj (P 0)) (aad _ (.head _)));exact J2 A _ it o' 0 _ _ ji tN (adu loop done)
def CQ(c:Cx)(n:Nat)(scope:Scope)(cl:List (Str×Addr))(gl:List (Str×Value))(xs:List Str)(elt:Expr)(gens:List Comprehension)(pos:Pos)(Q:AV→SS→Prop)(v:AV)(S1:SS):Prop:=∃P,(∀u,ab u=v→wj c n S1 u P)∧Bx c.w P∧∀D m L,LP (c.inner scope cl gl m L) n ⟨xs.map λx=>(x,none),(D,.list [])::S1.cells⟩ (.ListComp elt gens scope pos) 0 P D λS2=>Q (.ref D) ⟨S1.loc,S2.cells⟩
theorem CQ.go{scope cl gl xs elt gens pos v S1 P}(h1:∀u,ab u=v→wj c n S1 u P)(h2:Bx c.w P)(h:∀D m L,LP (c.inner scope cl gl m L) n ⟨xs.map λx=>(x,none),(D,.list [])::S1.cells⟩ (.ListComp elt gens scope pos) 0 P D λS2=>Q (.ref D) ⟨S1.loc,S2.cells⟩):CQ c n scope cl gl xs elt gens pos Q v S1:=⟨P,h1,h2,h⟩
def CA(c:Cx)(n:Nat)(scope:Scope)(cl:List (Str×Addr))(gl:List (Str×Value))(xs:List Str)(y:Str)(elt:Expr)(gens:List Comprehension)(pos:Pos)(Q:FL→SS→Prop)(v:AV)(S1:SS):Prop:=∃P,(∀u,ab u=v→wj c n S1 u P)∧Bx c.w P∧∀D,∃l',dA y (.ref D) S1.loc l'∧∀m L,LP (c.inner scope cl gl m L) n ⟨xs.map λx=>(x,none),(D,.list [])::S1.cells⟩ (.ListComp elt gens scope pos) 0 P D λS2=>Q .next ⟨l',S2.cells⟩
theorem CA.go{scope cl gl xs y elt gens pos v S1 P}{Q:FL→SS→Prop}(h1:∀u,ab u=v→wj c n S1 u P)(h2:Bx c.w P)(h3:∀D,dA y (.ref D) S1.loc (l' D))(h:∀D m L,LP (c.inner scope cl gl m L) n ⟨xs.map λx=>(x,none),(D,.list [])::S1.cells⟩ (.ListComp elt gens scope pos) 0 P D λS2=>Q .next ⟨l' D,S2.cells⟩):CA c n scope cl gl xs y elt gens pos Q v S1:=⟨P,h1,h2,λD=>⟨_,h3 D,h D⟩⟩
theorem fD(F:CF c scope cl gl xs)(h:EE c n S iter (CQ c n scope cl gl xs elt (⟨t,iter,ifs,0⟩::jX) pos Q) E)(hs:autoParam (∀x,aa4 iter c.env x=pure x) apR) (hc:autoParam (c.comp=false) apA):EE c n S (.ListComp elt (⟨t,iter,ifs,0⟩::jX) scope pos) Q E:=.i λok X A s hA R=>by rw[eval_ListComp];refine uR (use:=none) ok hc hA R F hs (aau (h.run ok X A s hA R) (λv s1 h8=>h8.el λS1 R1 h7=>bN h7 λP h1 h2 h3=>⟨S1,R1,P,h1 v rfl,h2,λD=>⟨λS2=>Q (.ref D) ⟨S1.loc,S2.cells⟩,h3 D,λL C s' l inv h8=>eE h8 λm R2=>?_⟩⟩) λzz zz z=>z);let o ho es ep r:=t8 (R2.cells (L,.v5 m) (aad _ (.head _)));refine⟨m,(eY o es ep ⟨ho,r⟩),λh' rZ=>⟨_,R2.za (h':=h') (tk:=s'.toks) (λb o hb e=>rZ.extBut b o hb e),inv⟩⟩
theorem mz{spos:Pos}{Q:FL→SS→Prop}(F:CF c scope cl gl xs)
  (h:EE c n S iter (CA c n scope cl gl xs y elt (⟨t,iter,ifs,0⟩::jX) pos Q) E)
  (Zz:ac6 (.ListComp elt (⟨t,iter,ifs,0⟩::jX) scope pos) (some (.Name y py)) spos.line c.env=pure true)
  (hs:autoParam (∀x,aa4 iter c.env x=pure x) apR) (hc:autoParam (c.comp=false) apA):ES c n S (.Assign [.Name y py] (.ListComp elt (⟨t,iter,ifs,0⟩::jX) scope pos) spos) Q E:=.i λok X A s hA R=>by
 rw[exec_Assign_Name_used _ _ _ _ Zz]
 refine aac (abu (aac ?_))
 change wpAny _ A (do let _←comprehension (.ListComp elt (⟨t,iter,ifs,0⟩::jX) scope pos) scope c.env _ (newList []) false (eval iter c.env) (some (assign (.Name y py) c.env))) _ _ s
 refine aac (aau (uR (use:=some (assign (.Name y py) c.env)) (Q':=QX c X λzz=>Q .next) ok hc hA R F hs
  (aau (h.run ok X A s hA R) (λv s1 h8=>h8.el λS1 R1 h7=>bN h7 λP h1 h2 h4=>⟨S1,R1,P,h1 v rfl,h2,λD=>?_⟩) λzz zz z=>z)) (λzz s' hq=>aal (aal hq)) λzz zz e=>e)
 refine ak (h4 D) λl' h3 h5=>?_
 refine⟨λS2=>Q .next ⟨l',S2.cells⟩,h5,λL C s' l inv h8=>eE h8 λm R2=>?_⟩
 change wpAny _ A (assign (.Name y py) c.env (.ref D)) _ _ _
 refine wpAny_assign_Name (aau ((eZ (c:=c) (n:=n) (S:=⟨S1.loc,C⟩) (x:=y) (v:=.ref D) (E:=hZ) (Q:=λzz S'=>S'=⟨l',C⟩) h3 rfl).run ok _ A _ hA R2) (λzz s4 J5=>?_) λzz zz hx=>zg hx)
 obtain⟨S4,R4,e4⟩:=J5
 subst e4
 refine t8 (R4.cells (L,.v5 m) (aad _ (.head _))) λo ho es ep r=>?_
 refine⟨m,(eY o es ep ⟨ho,r⟩),λh' rZ=>⟨_,R4.za (h':=h') (tk:=s4.toks) (λb o hb e=>rZ.extBut b o hb e),inv⟩⟩
end
end
section
variable{s:aas} {Q:AV→Cells→Prop} {E:Value→Cells→Prop} {args:List AV}
structure q9(K:Frag)(fx:Fx)(fd:aaP)(body:List Stmt):Prop where
 obj:∃oc od osl,K.lookup fx.a=some ⟨oc,od,.func fd,osl⟩
 code:codeIn K fd.code fd.qualname=true
 qual:fd.qualname=fx.cn
 cs:fd.scope=fx.cs
 cd:fd.code=fx.cd
 glob:fd.globals=ab9
 rN:fd.closure=[]
 v9:fd.builtins=abg
 body:fd.body= .stmts body
 co:fd.scope.isCoroutine=false
 gen:fd.scope.isGenerator=false
 kind:fd.scope.kind= .function
structure mA(fx:Fx)(binds:List (Str×Value))(loc:List (Str×Option AV))(cs:List (Str×Nat×Option AV)):Prop where
 nd:(loc.map (λx=>x.1)).Nodup
 kinds:∀x∈loc.map (λx=>x.1),fx.cs.names.lookup x=some .local∧(x==("__debug__":Str))=false
 kb:∀L,∀y∈binds,fx.cs.names.lookup y.1=some .local∨(fx.cs.names.lookup y.1=some .cell∧((aco (L+1) fx.cs.names []).lookup y.1).isSome=true)
 vals:∀p∈loc,(bindL (λx=>fx.cs.names.lookup x) binds (λzz=>none) p.1).map ab=p.2
 cells:∀L,∀e∈cs,(aco (L+1) fx.cs.names []).lookup e.1=some (L+1+e.2.1)
 Hv:∀e∈cs,(bindC (λx=>fx.cs.names.lookup x) binds (λzz=>none) e.1).map ab=e.2.2
 ZA:(cs.map (λx=>x.2.1)).Nodup
def B6(L:Addr)(cs:List (Str×Nat×Option AV)):Cells:=cs.map λe=>(L+1+e.2.1,.cell e.2.2)
def Cx.d7(c:Cx)(fx:Fx)(m:Str→Option Value)(L:Addr):Cx:={c.enter fx m L with env:=envX fx.cn fx.cs L fx.a fx.cd (aco (L+1) fx.cs.names [])}
theorem Cx.zC(h:(c.enter fx m L).Ok):(c.d7 fx m L).Ok:=⟨h.eH,rfl,rfl,rfl,h.kind,λzz=>rfl,h.above,h.aC,h.gl⟩
theorem Rp.ZB(R:Rp (c.enter fx m L) S s):Rp (c.d7 fx m L) S s:=⟨R.stays,R.ns,R.aC,R.cells,R.fresh,R.nd,R.kL,R.lk,R.gens,R.os,R.tk⟩
theorem Rp.VA(R:Rp (c.d7 fx m L) S s):Rp (c.enter fx m L) S s:=⟨R.stays,R.ns,R.aC,R.cells,R.fresh,R.nd,R.kL,R.lk,R.gens,R.os,R.tk⟩
theorem Rp.adopt(R:Rp c ⟨loc,C⟩ s)(hC:∀p∈C',∃o,s.heap.get? p.1=some o∧p0 c.w p.2 o)(nd:(C'.map (λx=>x.1)).Nodup)(hb:∀a∈C'.map (λx=>x.1),c.base.get? a=none∧a∉c.L::(c.aC.map (λx=>x.1.locals)++C.map (λx=>x.1))):Rp c ⟨loc,C'++C⟩ s:=by
 have pm:(c.L::(c.aC.map (λx=>x.1.locals)++(C'++C).map (λx=>x.1))).Perm (C'.map (λx=>x.1)++c.L::(c.aC.map (λx=>x.1.locals)++C.map (λx=>x.1))):=by rw[aaj];refine List.Perm.trans (abz _ ?_) aaS.symm;rw[←aaw,←aaw];exact List.Perm.append_right _ aaY
 refine⟨R.stays,R.ns,R.aC,λp hp=>?_,λa ha=>?_,pm.nodup_iff.mpr (aaX.mpr ⟨nd,R.nd,λa ha b Ju q=>(hb a ha).2 (q▸Ju)⟩),R.kL,R.lk,R.gens,R.os,R.tk⟩;rcases aax.mp hp with hp|hp;exact hC p hp;exact R.cells p hp;rcases aax.mp (pm.subset ha)with ha|ha;exact(hb a ha).1;exact R.fresh a ha
def B7(c:Cx)(K0:aao→Frag)(n:Nat)(f:Addr)(args:List AV)(kw:List (Str×AV))(C:Cells)(Q:AV→Cells→Prop)(E:Value→Cells→Prop):Prop:=
 ∀(S:SS),c.K=K0 c.w.params→c.hd=none→S.cells=C→∀(pos:List Value) (kws:List (Str×Value)),pos.map ab=args→kws.map (λp=>(p.1,ab p.2))=kw→
  c.Ok→∀X A s,c.In A n→Rp c (S.ext X) s→codeAny (model prog c.w) A (.call (.ref f) ⟨pos,kws⟩) (λr s'=>match r with
   | .ok (.ret v)=>QX c X (λv S'=>S'.loc=S.loc∧Q (ab v) S'.cells) v s'
   | .ok _=>False
   | .error x=>EX c X (λk S'=>S'.loc=S.loc∧E k S'.cells) x s') s
theorem B7.call{K0:aao→Frag}{m:Nat}{f:Addr}{Q:AV→SS→Prop}{E:EP}(F:B7 c K0 m f as [] [] Qf λzz zz=>False)(hK:c.K=K0 c.w.params)(hd:c.hd=none)(h:∀v C,Qf v C→PL C S.cells Q v S.loc)(hm:autoParam (m≤n) apM):bM c n S (.ref f) as Q E:=λv vs hv bx=>by
 obtain rfl:=aj hv;refine .i λok X A s hA R=>abH (adu (F ⟨S.loc,[]⟩ hK hd rfl vs [] bx rfl ok (S.cells++X) A s ⟨hA.1,hA.2.1,by have:=hA.2.2.1;exact xb hm this,by have:=hA.2.2.2;exact xc hm this⟩ R) λr s' h2=>?_);cases r with
 |ok f=>cases f with|ret v=>obtain⟨S',h1,h3,h4⟩:=h2;let l hl hq:=ak (h _ _ h4);refine⟨⟨S'.loc,l⟩,h1.perm (cells':=l++X) ?_,by rw[h3];exact hq⟩;change(l++X).Perm (S'.cells++(S.cells++X));rw[←aaw];exact hl.perm.append_right X|next=>exact h2|brk=>exact h2|cont=>exact h2
 |error x=>obtain⟨_,_,_,_,_,_,_,h5⟩:=h2;exact h5.elim
theorem FC.B8(B:Heap→Prop){K0:aao→Frag}{fd:aao→aaP}(hf:∀P,q9 (K0 P) fx (fd P) body) (gl:∀P,bH (K0 P) fx)(hb:∀(s:aas) (P:aao),(K0 P).In s.heap→∀pos kws,pos.map ab=args→kws.map (λp=>(p.1,ab p.2))=kw→∃binds,ac9 s (fd P) ⟨pos,kws⟩ binds∧mA fx binds loc cs)(h:∀(c:Cx) (Q':FL→SS→Prop) (E':EP),B c.base→c.K=K0 c.w.params→c.hd=none→c.fx=fx→c.comp=false→c.env=envX fx.cn fx.cs c.L fx.a fx.cd (aco (c.L+1) fx.cs.names [])→(∀v S' C D,aq C S'.cells D→Q v C→Q' (.ret v) S')→(∀S' C D,aq C S'.cells D→Q .none C→Q' .next S')→(∀k S' C D,aq C S'.cells D→E k C→E' k S')→EB c n ⟨loc,B6 c.L cs++C⟩ body Q' E'):∀c:Cx,B c.base→B7 c K0 (n+1) fx.a args kw C Q E:=by
 intro c ZC S hK hd hC pos kws hp v8 ok X A s hA R;have F:=hf c.w.params;have fg:(K0 c.w.params).In s.heap:=λa o e=>R.stays a o (ok.eH.fg a o (hK▸e));let binds hB hl:=ak (hb s c.w.params fg pos kws hp v8);let oc od osl ho:=vT F.obj;let h1 h2 h3 h4:=jd hA;let m hn hm:=ak R.ns;subst hC;refine codeAny_call_function (fd:=fd c.w.params) (body:=body) (by exact Lw h3) (fg _ _ ho) rfl F.co F.gen F.body (codeRec_of fg F.code) (hB _ _ _ _ ?_);rw[F.rN];have hL:c.base.objs.size≤s.heap.objs.size:=aaN (aaC ok.above hn.lt);refine wpAny_with_toks (aak s.toks) (wpAny_newFunctionEnv_cells F.kind (λx hx=>F.cs▸hl.kb _ x hx) λenv he s' ic iS=>?_);obtain⟨⟨⟨h₁,tk,rfl⟩,lS,keep,_⟩,uG,ZD,J6⟩:=ic;have envE:env=(c.d7 fx m s.heap.objs.size).env:=by rw[he];simp only[F.cs,F.glob,F.qual,F.cd,F.v9];rfl
 subst envE;refine⟨(ok.eH.lim.keeps R.stays).keeps keep,codeAny_func ?_⟩;have Dw:=Cx.zC (Cx.jh (m:=m) (L:=s.heap.objs.size) ok hK gl (F.cs▸F.kind) hL);have R3:Rp (c.d7 fx m s.heap.objs.size) (SS.ext ⟨loc,B6 s.heap.objs.size cs++S.cells⟩ (c.kept m X)) {s with heap:=h₁,toks:=tk}:=by
  have:=((R.enter (fx:=fx) (h₁:=h₁) (tk:=tk) ok hn keep lS hl.vals hl.nd hl.kinds iS).ZB).adopt (C':=B6 s.heap.objs.size cs) (λp hp=>?_) ?_ λa ha=>?_;rw[←aaw]at this;exact this;let e ig r2:=ak (aaH.mp hp);subst r2;let o lR hd2:=ak (uG e.1 _ (hl.cells _ e ig));exact⟨o,lR,_,hd2,hl.Hv e ig⟩;unfold B6;rw[aba];exact List.pairwise_map.mpr ((List.pairwise_map.mp hl.ZA).imp λh q=>h (Nat.add_left_cancel q));let p hp r2:=ak (aaH.mp ha);subst r2;let e ig r2:=ak (aaH.mp hp);subst r2;refine⟨?_,λq=>?_⟩;change c.base.get? _=none;cases q:c.base.get? (s.heap.objs.size+1+e.2.1)with|none=>rfl|some o=>exact absurd (aaE (aa3 q) hL) (Nat.not_lt.mpr (aab (aa2 _) (aa5 _ _)))
  have dc:∀b∈c.L::(c.aC.map (λx=>x.1.locals)++(S.ext X).cells.map (λx=>x.1)),b<s.heap.objs.size:=R.lt;rcases aai.mp q with q|q;have:s.heap.objs.size+1+e.2.1=s.heap.objs.size:=q;exact abF (aaE (abw _) (aa5 _ _)) this;have key:s.heap.objs.size+1+e.2.1∈c.L::(c.aC.map (λx=>x.1.locals)++(S.ext X).cells.map (λx=>x.1)):=(by cases hc:c.comp with|false=>have e1:(c.d7 fx m s.heap.objs.size).aC=(c.env,m)::c.aC:=(by unfold Cx.d7 Cx.enter;rw[hc]);have e2:c.kept m X=X:=(by unfold Cx.kept;rw[hc]);rw[e1,e2,aan,ok.eL]at q;exact q|true=>have e1:(c.d7 fx m s.heap.objs.size).aC=c.aC:=(by unfold Cx.d7 Cx.enter;rw[hc]);have e2:c.kept m X=(c.L,.v5 m)::X:=(by unfold Cx.kept;rw[hc]);rw[e1,e2]at q;simp only[SS.ext,aaj,aan,aax,aai]at q⊢;rcases q with q|q|q|q;exact .inr (.inl q);exact .inr (.inr (.inl q));exact .inl q;exact .inr (.inr (.inr q)));exact absurd (dc _ key) (Nat.not_lt.mpr (aab (aa2 _) (aa5 _ _)))
 have qM:(c.d7 fx m s.heap.objs.size).In (A.deeper (c.d7 fx m s.heap.objs.size).env) n:=by refine⟨?_,h2,?_,?_⟩;change A.frames.map _=_;rw[h1,Cx.dp (c:=c.d7 fx m s.heap.objs.size) rfl,show(c.d7 fx m s.heap.objs.size).outer=c.frames from Cx.e8 c fx m s.heap.objs.size];rfl;change A.depth+1+n<_;exact RQ h3;change A.units+3+8*n<_;exact SM h4
 refine aau ((W.letE (E:=λk S'=>E k S'.cells) (W.let (h (c.d7 fx m s.heap.objs.size) (λf S'=>∃C D,S'.cells.Perm (C++D)∧Sd Q f ⟨S'.loc,C⟩) (λk S'=>∃C D,S'.cells.Perm (C++D)∧E k C) ZC hK hd rfl rfl rfl (λv S' C D p x=>(ba C D ⟨p.perm,x⟩)) (λS' C D p x=>(ba C D ⟨p.perm,x⟩)) λk S' C D p x=>(ba C D ⟨p.perm,x⟩)))).run Dw _ _ _ qM R3) (λf s' h8=>h8.el λS' R2 k=>?_) λx s' h8=>h8.el λe k S' hx hF R2 hE=>?_
 ·cases f with|ret v=>exact⟨⟨S.loc,S'.cells⟩,Rp.back ok R hm R2.VA,rfl,k⟩|next=>exact⟨⟨S.loc,S'.cells⟩,Rp.back ok R hm R2.VA,rfl,k⟩|brk=>exact k.elim|cont=>exact k.elim
 subst hx;refine aac (jA Dw rfl qM.1 R2 hF λh2 R3 F3=>?_);exact⟨e,k,⟨S.loc,S'.cells⟩,rfl,qa.back (c:=c) (fx:=fx) (m:=m) (L:=s.heap.objs.size) (loc:=S.loc) F3,Rp.back ok R hm R3.VA,rfl,hE⟩
theorem FC.J7{K0:aao→Frag}{fd:aao→aaP}(hf:∀P,q9 (K0 P) fx (fd P) body) (gl:∀P,bH (K0 P) fx)(hb:∀(s:aas) (P:aao),(K0 P).In s.heap→∀pos kws,pos.map ab=args→kws.map (λp=>(p.1,ab p.2))=kw→∃binds,ac9 s (fd P) ⟨pos,kws⟩ binds∧mA fx binds loc cs)(h:∀(c:Cx) (Q':FL→SS→Prop) (E':EP),c.K=K0 c.w.params→c.hd=none→c.fx=fx→c.comp=false→c.env=envX fx.cn fx.cs c.L fx.a fx.cd (aco (c.L+1) fx.cs.names [])→(∀v S' C D,aq C S'.cells D→Q v C→Q' (.ret v) S')→(∀S' C D,aq C S'.cells D→Q .none C→Q' .next S')→(∀k S' C D,aq C S'.cells D→E k C→E' k S')→EB c n ⟨loc,B6 c.L cs++C⟩ body Q' E'):FC K0 (n+1) fx.a args kw C Q E:=λc=>FC.B8 (λzz=>True) hf gl hb (λc Q' E' zz=>h c Q' E') c trivial
end
section
variable{v:AV} {Q:FL→SS→Prop} {P:Nat→Obj→Prop}
section
variable{c:Cx} {n:Nat} {S:SS} {E:EP} {s:aas} {X:Cells}
def ew(c:Cx)(tab:List (Str×Addr)):Prop:=∀p∈tab,(c.env.kindOf p.1=some .cell∨c.env.kindOf p.1=some .free)∧c.env.cells.lookup p.1=some p.2∧((p.1==("__debug__":Str))||(p.1==("__classdict__":Str)))=false
theorem bP{Q:AV→SS→Prop}(ht:ew c tab)(hx:At (x,a) tab)(hm:At (a,.cell (some v)) S.cells)(h:Q v S):EE c n S (.Name x p) Q E:=EG (ht _ hx.mem).1 (ht _ hx.mem).2.1 (ht _ hx.mem).2.2 hm.mem h
def pE(c:Cx)(tab:List (Str×Addr)):Prop:=∀p∈tab,c.env.kindOf p.1=some .cell∧c.env.cells.lookup p.1=some p.2
theorem Fb{u:Option AV}{Q:SS→Prop}(ht:pE c tab)(hx:At (x,a) tab)(up:aI a (.cell u) (.cell (some v)) S.cells cells')(h:Q ⟨S.loc,cells'⟩):AS c n S (.Name x p) v Q E:=λw hw=>.i λok X A s hA R=>by subst hw;exact wpAny_assign_Name ((m7 (Q:=λzz=>Q) (ht _ hx.mem).1 (ht _ hx.mem).2 up h).run ok X A s hA R)
theorem q_{e:Expr}(ht:pE c tab)(hx:At (x,a) tab)(h:EE c n S e (λv S1=>∃u cells',aI a (.cell u) (.cell (some v)) S1.cells cells'∧Q .next ⟨S1.loc,cells'⟩) E)(hs:autoParam (ac6 e (some (.Name x p')) p.line c.env=pure false) apR):ES c n S (.Assign [.Name x p'] e p) Q E:=.i λok X A s hA R=>
 wpAny_Assign_Name (h.st ok X A s hA R λv s' S' R' h8=>cI h8 λu cells' k1 k2=>(m7 (Q:=λzz=>Q .next) (ht _ hx.mem).1 (ht _ hx.mem).2 k1 k2).run ok X A s' hA R') hs
theorem zD(Inv:Nat→SS→Prop)(h:EE c n S iter (λv S1=>(∀u,ab u=v→wj c n S1 u P)∧Inv 0 S1) E)(step:∀i y S1,xs[i]? =some y→Inv i S1→xq c n S1 P i y∧AS c n S1 (.Name x px) y (λS2=>EB c n S2 body (au (Inv (i+1)) Q) E) hZ)(fin:∀S1,Inv xs.length S1→xr c n S1 P xs.length∧EB c n S1 orelse Q E)(hs:autoParam (∀x,aa4 iter c.env x=pure x) apR) (hc:autoParam (c.comp=false) apA):ES c n S (.For (.Name x px) iter body orelse p) Q E:=mq (h.az λv S1 k=>(eY xs P Inv ⟨k.1,k.2,step,fin⟩)) hs hc
theorem zE(h:EE c n S iter (λv S1=>∃(l:Addr) (xs:List AV) (Inv:Nat→SS→Prop),v= .ref l∧(l,.list xs)∈S1.cells∧Inv 0 S1∧(∀i S1,Inv i S1→(l,.list xs)∈S1.cells)∧(∀i y S1 (N:SS→Prop),xs[i]? =some y→Inv i S1→(∀S',Inv (i+1) S'→N S')→∃l',dA x y S1.loc l'∧EB c n ⟨l',S1.cells⟩ body (au N Q) E)∧(∀S1,Inv xs.length S1→EB c n S1 orelse Q E)) E)(hd:autoParam (c.hd=none) apA) (hc:autoParam (c.comp=false) apA) (hs:autoParam (∀x,aa4 iter c.env x=pure x) apR):ES c n S (.For (.Name x px) iter body orelse p) Q E:=mq (h.az λv S1 h8=>lX h8 λl xs Inv h1 h2 h3 hl step fin=>(eY xs (aQ l) Inv ⟨λu hu=>cJ h2 (hu.trans h1),h3,λi y S1 rY hi=>⟨cM (hl _ _ hi) rY,let⟨l',h1,h2⟩:=step i y S1 _ rY hi λzz z=>z;cA h1 h2⟩,λS1 hi=>⟨cN (hl _ _ hi) hd,fin S1 hi⟩⟩)) hs hc
theorem zF(ht:pE c tab)(hx:At (x,a) tab)(Inv:Nat→SS→Prop)(h:EE c n S iter (λv S1=>v= .ref l∧(l,.list xs)∈S1.cells∧Inv 0 S1) E)(hl:∀i S1,Inv i S1→(l,.list xs)∈S1.cells)(step:∀i y S1 (N:SS→Prop),xs[i]? =some y→Inv i S1→(∀S',Inv (i+1) S'→N S')→∃u cells',aI a (.cell u) (.cell (some y)) S1.cells cells'∧EB c n ⟨S1.loc,cells'⟩ body (au N Q) E)(fin:∀S1,Inv xs.length S1→EB c n S1 orelse Q E)(hd:autoParam (c.hd=none) apA) (hc:autoParam (c.comp=false) apA) (hs:autoParam (∀x,aa4 iter c.env x=pure x) apR):ES c n S (.For (.Name x px) iter body orelse p) Q E:=zD (xs:=xs) (P:=aQ l) Inv (h.az λv S1 h8=>pZ h8 λh1 h2 h3=>⟨λu hu=>cJ h2 (hu.trans h1),h3⟩) (λi y S1 rY hi=>⟨cM (hl _ _ hi) rY,let⟨u,cells',h1,h2⟩:=step i y S1 _ rY hi λzz z=>z;Fb ht hx h1 h2⟩) (λS1 hi=>⟨cN (hl _ _ hi) hd,fin S1 hi⟩) hs hc
end
end
section
variable{b:Int}
section
variable{c:Cx} {n:Nat} {S:SS} {E:EP} {s:aas} {X:Cells}
theorem mB(h:∀r,Q (.ref r) ⟨S.loc,(r,.obj (fB 0 b 1))::S.cells⟩):bM c n S (.type "range") [.int b] Q E:=λf vs hf bx=>W.of λok X A s hA R=>by obtain rfl:=bI hf;let v r1 hv:=ak (cP bx);subst r1;let t r1:=eE (aP hv);subst r1;exact call_range_1 ⟨_,R.c0 (tk:=s.toks+1+1) (ao:=.obj (fB 0 b 1)) rfl (eY _ _ _ rfl),h _⟩
theorem zG{a d:Int}(hd:d≠0)(hp:Builtin.divisionGoesByPylong (b-a) d=false)(h:∀r,Q (.ref r) ⟨S.loc,(r,.obj (fB a b d))::S.cells⟩):bM c n S (.type "range") [.int a,.int b,.int d] Q E:=λf vs hf bx=>W.of λok X A s hA R=>by obtain rfl:=bI hf;let v u w r3 hv hu hw:=eN (ur bx);subst r3;let t r1:=eE (aP hv);subst r1;let t2 r1:=eE (aP hu);subst r1;let t3 r1:=eE (aP hw);subst r1;exact call_range_3 hd ⟨_,R.c0 (tk:=s.toks) (ao:=.obj (fB a b d)) rfl (eY _ _ _ rfl),h _⟩ (.inl hp)
end
end
section
variable{Q:Array Nat×Nat×Nat→Prop} {p:Array Nat}
def yc{α:Type}(N:Nat)(K:Nat→Int):KasT α→(α→Prop)→Prop| .ret a,Q=>Q a| .ask i j k,Q=>i<N∧j<N∧i≠j∧yc N K (k (decide (K i<K j))) Q
section
variable{N:Nat} {K:Nat→Int} {α β:Type}
theorem jD{f:α→KasT β}{Q:β→Prop}:∀{t:KasT α},yc N K t (λa=>yc N K (f a) Q)→yc N K (t.bind f) Q| .ret _,h=>h| .ask _ _ k,⟨h1,h2,h3,h4⟩=>⟨h1,h2,h3,jD (t:=k _) h4⟩
theorem fZ(p:Array Nat)(i:Nat):p.getD i 0=(p[i]?).getD 0:=by rw[Array.getD_eq_getD_getElem?]
abbrev Kp(K:Nat→Int)(p:Array Nat)(i:Nat):Int:=K (p.getD i 0)
structure PG(N:Nat)(K:Nat→Int)(p:Array Nat):Prop where
 perm:p.toList.Perm (abt N)
 inj:∀i j,i<N→j<N→K i=K j→i=j
theorem PG.size(h:PG N K p):p.size=N:=by have:=h.perm.length_eq;simpa using this
theorem PG.lt(h:PG N K p)(hi:i<N):p.getD i 0<N:=by
 have hs:i<p.toList.length:=by rw[aaQ,h.size];exact hi
 have hm:p.toList[i]∈p.toList:=acC hs;have:=h.perm.mem_iff.mp hm;have e:p.getD i 0=p.toList[i]:=by have:i<p.size:=(by rw[h.size];exact hi);simp[Array.getD,this]
 rw[e];simpa using this
theorem PG.ne(h:PG N K p)(hi:i<N)(hj:j<N)(iE:i≠j):p.getD i 0≠p.getD j 0:=by
 have hn:p.toList.Nodup:=h.perm.nodup_iff.mpr List.nodup_range;have si:i<p.size:=by rw[h.size];exact hi
 have sj:j<p.size:=by rw[h.size];exact hj
 have e1:p.getD i 0=p.toList[i]'(by simpa using si):=by simp[Array.getD,si]
 have e2:p.getD j 0=p.toList[j]'(by simpa using sj):=by simp[Array.getD,sj]
 rw[e1,e2];have pw:=acx.mp hn;rcases Nat.lt_or_gt_of_ne iE with q|q;exact pw i j _ _ q;exact(pw j i _ _ q).symm
theorem PG.ask(h:PG N K p){k:Bool→KasT α}{Q:α→Prop}(hi:i<N)(hj:j<N)(iE:i≠j)(h1:Kp K p i<Kp K p j→yc N K (k true) Q)(h2:Kp K p j<Kp K p i→yc N K (k false) Q):yc N K (.ask (p.getD i 0) (p.getD j 0) k) Q:=by refine⟨h.lt hi,h.lt hj,h.ne hi hj iE,?_⟩;by_cases q:K (p.getD i 0)<K (p.getD j 0);rw[decide_eq_true q];exact h1 q;rw[decide_eq_false q];show h2;rcases Int.lt_or_eq_of_le (Int.not_lt.mp q)with r|r;exact r;exact absurd (h.inj _ _ (h.lt hj) (h.lt hi) r).symm (h.ne hi hj iE)
def wQ(K:Nat→Int)(p:Array Nat)(m:Nat):Prop:=∀i j,i<j→j<m→Kp K p i<Kp K p j
def LM(K:Nat→Int)(p:Array Nat)(m:Nat):Prop:=∀i j,i<j→j<m→Kp K p j<Kp K p i
theorem wQ.snoc(h:wQ K p n)(h1:1≤n)(hl:Kp K p (n-1)<Kp K p n):wQ K p (n+1):=λi j iE hj=>by
 by_cases q:j<n;exact h i j iE q;obtain rfl:j=n:=by exact Gz hj q
 by_cases r:i=j-1;subst r;exact hl;exact Int.lt_trans (h i (j-1) (by exact abr (adJ iE) r) (by exact acO h1 (abw _))) hl
theorem LM.snoc(h:LM K p n)(h1:1≤n)(hl:Kp K p n<Kp K p (n-1)):LM K p (n+1):=λi j iE hj=>by
 by_cases q:j<n;exact h i j iE q;obtain rfl:j=n:=by exact Gz hj q
 by_cases r:i=j-1;subst r;exact hl;exact Int.lt_trans hl (h i (j-1) (by exact abr (adJ iE) r) (by exact acO h1 (abw _)))
theorem B9(h:PG N K p){Q:Nat→Prop}:∀(f n:Nat),1≤n→n+f≤N→wQ K p n→(∀m,n≤m→m≤n+f→wQ K p m→(m<n+f→Kp K p m<Kp K p (m-1))→Q m)→yc N K (kas_asc p f n) Q:=by intro l0;induction l0 with|zero=>exact λn zz zz ha hq=>hq n (aak _) (aak _) ha λq=>absurd q (Nat.lt_irrefl _)|succ f ih=>intro n h1 h2 ha hq;let q:=h.ask (by exact Az h2) (by exact AA h2) (by exact(abf (Nat.pred_lt_of_lt h1)).symm) (λq=>?_);rw[if_pos rfl];exact hq n (aak _) (by exact aa5 _ _) ha λzz=>q;rw[if_neg '2'];refine ih (n+1) (by exact abm _ _) (by exact GB h2) (ha.snoc h1 q) λm m1 m2 m3 m4=>hq m (by exact aaN m1) (by exact GC m2) m3 λr=>m4 (by exact MQ r)
theorem Fc(h:PG N K p):∀(f n:Nat),2≤n→n+f≤N→LM K p n→(∀m,n≤m→m≤n+f→LM K p m→Q (p,m,0))→yc N K (kas_desc f p n 0) Q:=by intro l0;induction l0 with|zero=>exact λn zz zz ha hq=>hq n (aak _) (aak _) ha|succ f ih=>intro n h1 h2 ha hq;let q:=h.ask (by exact Az h2) (by exact AA h2) (by exact(abf (Nat.pred_lt_of_lt h1)).symm) (λq=>?_);rw[if_pos rfl,if_neg '2'];exact ih (n+1) (by exact ab1 h1) (by exact GB h2) (ha.snoc (by exact aaN h1) q) λm m1 m2 m3=>hq m (by exact aaN m1) (by exact GC m2) m3;rw[if_neg '2'];refine h.ask (by exact AA h2) (by exact Az h2) (by exact abf (Nat.pred_lt_of_lt h1)) (λq2=>?_) λq2=>absurd q (by have:=q2;exact Int.not_lt.mpr (Int.le_of_lt this));rw[if_pos rfl];exact hq n (aak _) (by exact aa5 _ _) ha
theorem PG.arr{p':Array Nat}(h:PG N K p)(hp:p'.Perm p):PG N K p':=⟨(Array.perm_iff_toList_perm.mp hp).trans h.perm,h.inj⟩
theorem B_{m:Nat}(hm:m≤p.size)(k:Nat):Kp K (kas_rev p 0 m) k=if k<m then Kp K p (m-1-k)else Kp K p k:=by unfold Kp kas_rev;rw[fZ,getElem?_mirror_all hm];by_cases q:k<m;rw[if_pos ⟨aaD _,q⟩,if_pos q,fZ];congr 3;exact MT;rw[if_neg (λr=>q r.2),if_neg q,fZ]
theorem Ca(h:PG N K p){Q:Nat×Array Nat→Prop}(hN:1≤N)(hq:∀m p',PG N K p'→1≤m→m≤N→wQ K p' m→Q (m,p')):yc N K (kas_count N p) Q:=by
 unfold kas_count;refine jD (B9 h (N-1) 1 (aak _) (by exact aaz (aa7 hN)) (λi j iE hj=>by exact absurd hj (acB (aaC (aaD _) iE))) λm m1 m2 m3 m4=>?_);by_cases e:m=N;rw[if_pos (beq_iff_eq.mpr e)];exact hq m p h m1 (by exact aaz e) m3;rw[if_neg (λr=>e (beq_iff_eq.mp r))];by_cases e1:m>1;rw[if_pos e1];refine h.ask (by exact MU m2 e1) (by exact MV m2 e1) (by exact abf (abY e1)) (λq=>?_) λq=>absurd (m3 0 (m-1) (by exact abY e1) (by exact Nat.pred_lt_of_lt e1)) (by have:=q;exact Int.not_lt.mpr (Int.le_of_lt this));rw[if_pos rfl];exact hq m p h m1 (by exact M1 m2 e1) m3;rw[if_neg e1];obtain rfl:m=1:=by exact M4 m1 e1
 have q:=m4 (by exact adk (abY (abr hN e)));have d2:LM K p 2:=λi j iE hj=>by obtain⟨rfl,rfl⟩:i=0∧j=1:=(by exact M6 iE hj);exact q
 refine jD (Fc h (N-(1+1)) (1+1) (by exact aak _) (by exact aaz (aa7 (abr hN e))) d2 λn n1 n2 n3=>?_);dsimp only;rw[if_neg '2'];have hr:PG N K (kas_rev p 0 n):=h.arr (mirror_perm _ _ _ _);have ha:wQ K (kas_rev p 0 n) n:=λi j iE hj=>by rw[B_ (by rw[h.size];exact aab n2 (aaz (aa7 (abr hN e)))),B_ (by rw[h.size];exact aab n2 (aaz (aa7 (abr hN e)))),if_pos (by exact Nat.lt_trans iE hj),if_pos hj];exact n3 _ _ (by exact acO (Nat.lt_sub_of_add_lt (aaC iE hj)) iE) (by exact M_ hj)
 refine jD (B9 hr (N-n) n (by exact aaN n1) (by exact Na hN e n2) ha λk k1 k2 k3 zz=>?_);exact hq k _ hr (by exact aaN (aaE n1 k1)) (by exact Nc hN e n2 k2) k3
theorem Cb(h:PG N K p)(hk:k<N)(ha:wQ K p k){Q:Nat→Prop}:∀(f l r:Nat),l≤r→r≤k→r-l≤f→(∀i,i<l→Kp K p i<Kp K p k)→(∀i,r≤i→i<k→Kp K p k<Kp K p i)→(∀l,l≤k→(∀i,i<l→Kp K p i<Kp K p k)→(∀i,l≤i→i<k→Kp K p k<Kp K p i)→Q l)→yc N K (kas_place p k f l r) Q:=by intro l0;induction l0 with|zero=>intro l r h1 h2 h3 hl hr hq;obtain rfl:l=r:=(by exact aaI h1 (ab5 (Nat.le_zero.mp h3)));exact hq l h2 hl hr|succ f ih=>intro l r h1 h2 h3 hl hr hq;unfold kas_place;by_cases e:l≥r;rw[if_pos e];obtain rfl:l=r:=(by exact aaI h1 e);exact hq l h2 hl hr;rw[if_neg e];let q:=h.ask hk (by exact Nf hk h2 e) (by exact Ng h2 e) (λq=>?_);rw[if_pos rfl];refine ih l ((l+r)/2) (by exact Nh e) (by exact Nj h2 e) (by exact Nk h3) hl (λi i1 i2=>?_) hq;by_cases c:i=(l+r)/2;subst c;exact q;exact Int.lt_trans q (ha _ _ (by exact abr i1 (Ne.symm c)) i2);rw[if_neg '2'];refine ih ((l+r)/2+1) r (by exact Nl e) h2 (by exact Nn h3) (λi i1=>?_) hr hq;by_cases c:i=(l+r)/2;subst c;exact q;exact Int.lt_trans (ha _ _ (by exact abr (abZ i1) c) (by exact Nt h2 e)) q
theorem Cc{l:Nat}(hk:k<p.size)(hl:l≤k)(i:Nat):Kp K (bubble p k (k-l)) i=if i=l then Kp K p k else if l<i∧i≤k then Kp K p (i-1)else Kp K p i:=by
 unfold Kp;rw[fZ,getElem?_bubble hk _ (Nat.sub_le _ _)];have e:k-(k-l)=l:=by exact Nat.sub_sub_self hl
 rw[e];by_cases q:i=l;rw[if_pos q,if_pos q,fZ];rw[if_neg q,if_neg q];by_cases r:l<i∧i≤k;rw[if_pos r,if_pos r,fZ];rw[if_neg r,if_neg r,fZ]
theorem J8{Q:Array Nat→Prop}(hq:∀p,PG N K p→wQ K p N→Q p):∀(f:Nat) (p:Array Nat) (k:Nat),PG N K p→k+f=N→wQ K p k→yc N K (kas_bin f p k) Q:=by intro l0;induction l0 with|zero=>intro p k h e ha;obtain rfl:k=N:=(by exact e);exact hq p h ha|succ f ih=>intro p k h e ha;refine jD (Cb h (by exact GJ e) ha k 0 k (aaD _) (aak _) (by exact aak _) (λi hi=>absurd hi (by exact Nv)) (λi h1 h2=>absurd h2 (by exact Nw h1)) λl l1 l2 l3=>?_);let i j iE hj:=ih _ (k+1) (h.arr (bubble_perm _ _ _)) (by exact Nx e);have hs:k<p.size:=(by rw[h.size];exact GJ e);rw[Cc hs l1,Cc hs l1];by_cases a:i=l<;>by_cases b:j=l;exact absurd (a.trans b.symm) (abf iE);rw[if_pos a,if_neg b,if_pos (by exact Nz iE hj a)];exact l3 _ (by exact NA iE a) (by exact NB iE hj);rw[if_neg a,if_pos b,if_neg (by exact NC iE b)];exact l2 _ (by exact ND iE b);rw[if_neg a,if_neg b];by_cases c:l<i∧i≤k<;>by_cases d:l<j∧j≤k;rw[if_pos c,if_pos d];exact ha _ _ (by exact Nat.sub_lt_sub_right (aaC (aaD _) c.1) iE) (by exact GL d.1 d.2);exact absurd ⟨Nat.lt_trans c.1 iE,abZ hj⟩ d;rw[if_neg c,if_pos d];exact ha _ _ (by exact NH iE a c d.1 d.2) (by exact GL d.1 d.2);rw[if_neg c,if_neg d];exact ha _ _ iE (by exact NK l1 hj b d)
theorem Fd(hN:1≤N)(inj:∀i j,i<N→j<N→K i=K j→i=j):yc N K (kas_sort N) λp=>PG N K p∧wQ K p N:=by
 unfold kas_sort;refine jD (Ca ⟨by simp,inj⟩ hN λm p hp m1 m2 m3=>?_);dsimp only;by_cases q:m<N;rw[if_pos q];have e:max m 1=m:=by exact Nat.max_eq_left m1
 rw[e];exact J8 (λp h1 h2=>⟨h1,h2⟩) _ p m hp (by exact aa7 (aaN q)) m3;rw[if_neg q];obtain rfl:m=N:=by exact NM m2 q
 exact⟨hp,m3⟩
theorem Hw{s:aas}{Q:α→Prop}{G:α→aas→Prop}(hc:∀i j,i<N→j<N→i≠j→∀C:Bool→aas→Prop,C (decide (K i<K j)) s→cmp i j C s)(hq:∀a,Q a→G a s):∀(t:KasT α),yc N K t Q→t.kasWp cmp G s| .ret a,h=>hq a h| .ask i j k,⟨h1,h2,h3,h4⟩=>hc i j h1 h2 h3 _ (Hw hc hq (k _) h4)
end
end
section
variable{Q:Bool→aas→Prop}
def TupAt(h:Heap)(a:Addr)(v:Value)(x y:Int):Prop:=∃b o z t u n,v= .ref b∧b≠a∧h.get? b=some o∧o.cls= .type "tuple"∧o.data= .seq #[.int x t,.int y u,z] n
section
variable{prog:Program} {w:World} {A:ads} {E:Value→aas→Prop} {s:aas}
theorem J9{v':Value}{x y x' y':Int}(h1:TupAt s.heap a v x y)(h2:TupAt s.heap a v' x' y')(hy:y≠y')(hq:Q (decide (x<x'∨(x=x'∧y<y'))) s):wpAny (model prog w) A (keyLt' (tuples' true) v v') Q (λzz zz=>False) s:=by
 let b o z t u n r6 z7 ho z9 hd:=gq h1;subst r6;let b' o' z' t' u' n' r6 z7 ji z9 rL:=gq h2;subst r6;refine kat_lt ho hd ji rL (kat_cons (wpAny_eqBool_int (kat_go (λe=>?_) λe=>?_)));have e:x=x':=beq_iff_eq.mp e;refine kat_yes (kat_cons (wpAny_eqBool_int (kat_go (λe2=>absurd (beq_iff_eq.mp e2) hy) λzz=>kat_no (kat_one _ _ ?_))));subst e;have:decide (x<x∨(x=x∧y<y'))=decide (y<y'):=by congr 1;exact propext ⟨λr=>r.elim (λq=>absurd q (Int.lt_irrefl _)) (λx=>x.2),λr=>.inr ⟨rfl,r⟩⟩
 rw[this]at hq;exact PySem.P.lt_int hq;have e:x≠x':=λq=>by rw[q]at e;simp at e
 show kat_no;have:decide (x<x'∨(x=x'∧y<y'))=decide (x<x'):=by congr 1;exact propext ⟨λr=>r.elim id λq=>absurd q.1 e,.inl⟩
 rw[this]at hq;exact kat_lt_int hq
theorem sF{vs:List Value}{P:PySem.Fin→aas→Prop}{X Y:Nat→Int}(ho:s.heap.get? a=some (acw "list" vs.toArray n))(Hx:vs.length<64)
  (ht:∀i,i<vs.length→TupAt s.heap a (vs.getD i .none) (X i) (Y i)) (hY:∀i j,i<vs.length→j<vs.length→Y i=Y j→i=j) (hb:∀i,i<vs.length→0≤Y i∧Y i<1000)
  (h:∀p:Array Nat,PG vs.length (λi=>X i*1000+Y i) p→wQ (λi=>X i*1000+Y i) p vs.length→P (.done (.ret .none)) {s with heap:=sortedHeap s.heap a vs (p.toList.map λi=>vs.getD i aa6).toArray}):
  wpAny (model prog w) A (Builtin.«list.sort» ⟨[.ref a],[]⟩) P E s:=by
 obtain⟨e1,X2⟩:∃e1,(s.heap.update a (abb λzz=>(#[]:Array Value))).get? a=some (acw "list" #[] e1):=⟨_,get?_update_seq ho λzz=> #[]⟩
 have Qt:(((s.heap.update a (abb λzz=>(#[]:Array Value))).push (acw "tuple" vs.toArray 0)).push (acw "list" #[] 0)).get? a=some (acw "list" #[] e1):=
  aap _ (aap _ X2)
 have keep:∀b o,b≠a→s.heap.get? b=some o→(((s.heap.update a (abb λzz=>(#[]:Array Value))).push (acw "tuple" vs.toArray 0)).push (acw "list" #[] 0)).get? b=some o:=λb o hb e=>
  aap _ (aap _ ((Heap.get?_update_ne _ _ _ _ hb).trans e))
 have VB:∀i,i<vs.length→TupAt (((s.heap.update a (abb λzz=>(#[]:Array Value))).push (acw "tuple" vs.toArray 0)).push (acw "list" #[] 0)) a (vs.getD i .none) (X i) (Y i):=λi hi=>by
  refine gq (ht i hi) λb o z t u k e gV h1 h2 h3=>?_
  exact yO b o z t u k ⟨e,gV,keep b o gV h1,h2,h3⟩
 rw[list_sort_plain]
 refine aac (listItems_at ho rfl ?_)
 refine aac (listUpdate_at ho rfl ?_ (by rw[acK,sizeLine_eq];exact GF Hx) (aaD _))
 refine aac (seqEpoch_at X2 rfl ?_)
 refine aac (wpAny_newTuple ?_ (by change vs.length≤_;rw[sizeLine_eq];exact GF Hx))
 refine aac (wpAny_newList ?_ (aaD _))
 refine abk ?_
 change wpAny (model prog w) A _ P E {s with heap:=((s.heap.update a (abb λzz=>(#[]:Array Value))).push (acw "tuple" vs.toArray 0)).push (acw "list" #[] 0)}
 dsimp only
 have fin:∀(kM:SortSt) (p:Array Nat),arrOf kM=p.map (kas_item (vs.toArray.zip vs.toArray))→failedOf kM=none→p.size=vs.length→PG vs.length (λi=>X i*1000+Y i) p→wQ (λi=>X i*1000+Y i) p vs.length→
   wpAny (model prog w) A (do
    let touched:=(←seqEpoch a) !=e1
    Builtin.List.listUpdate (.ref a) λzz=>(arrOf kM).map (λx=>x.2)
    if let some e:=failedOf kM then rule "list.sort.comparison-raised";throw e
    if touched then rule "list.sort.modified";raiseError "ValueError" "list modified during sort"
    ret .none) P E {s with heap:=((s.heap.update a (abb λzz=>(#[]:Array Value))).push (acw "tuple" vs.toArray 0)).push (acw "list" #[] 0)}:=by
  intro kM p ZE hf hs h1 h2
  rw[(kat_snds rfl ZE)]
  refine aac (seqEpoch_at Qt rfl ?_)
  refine aac (listUpdate_at Qt rfl ?_ (aaD _) (by change(List.map _ _).toArray.size≤_;rw[acK,aaa,aaQ,hs,sizeLine_eq];exact Nm Hx))
  rw[hf]
  simp only[bne_self_eq_false,aaU,if_false]
  exact aal (h p h1 h2)
 have inj:∀i j,i<vs.length→j<vs.length→X i*1000+Y i=X j*1000+Y j→i=j:=λi j hi hj e=>hY i j hi hj (by have:=hb i hi;have:=hb j hj;lia)
 by_cases h2:vs.toArray.size<2
 ·rw[if_pos h2,if_pos h2]
  refine aac (aal ?_)
  rw[StateT.run_pure]
  refine aac (aal ?_)
  rw[acK]at h2
  refine fin (SortSt.mk' general' (vs.toArray.zip vs.toArray) #[] 7 none) (abt vs.length).toArray ?_ rfl (by simp) ⟨by simp,inj⟩ (λi j iE hj=>by exact Np h2 iE hj)
  change vs.toArray.zip vs.toArray=_
  have:=kas_range (vs.toArray.zip vs.toArray)
  rw[show(vs.toArray.zip vs.toArray).size=vs.length by simp]at this
  exact this.symm
 ·rw[if_neg h2,if_neg h2]
  rw[acK]at h2
  have tups:∀l:List Value,(∀v∈l,∃x y,TupAt (((s.heap.update a (abb λzz=>(#[]:Array Value))).push (acw "tuple" vs.toArray 0)).push (acw "list" #[] 0)) a v x y)→∃fs,KatTups (((s.heap.update a (abb λzz=>(#[]:Array Value))).push (acw "tuple" vs.toArray 0)).push (acw "list" #[] 0)) l fs∧fs.length=l.length∧∀v∈fs,∃x t,v= .int x t:=by
   intro l
   induction l with
   |nil=>intro _;exact⟨[],trivial,rfl,λv hv=>nomatch hv⟩
   |cons v l ih=>
    intro hv
    refine bN (ih λw hw=>hv w (.tail _ hw)) λfs f1 f2 f3=>?_
    refine p_ (hv v (.head _)) λx y b o z t u k r8 gV g1 g2 g3=>?_
    obtain rfl:=r8
    exact⟨.int x t::fs,KatTups.cons g1 g2 g3 rfl f1,congrArg (·+1) f2,λw hw=>(aai.mp hw).elim (λe=>(ba x t e)) (f3 w)⟩
  obtain⟨fs,f1,f2,f3⟩:=tups vs λv hv=>by
   obtain⟨i,hi,rfl⟩:=List.mem_iff_getElem.mp hv
   have:=VB i hi
   rw[aaR,aay hi]at this
   exact ba _ _ this
  refine aac (kat_kind (T:=.type "int") f1 (by rw[f2];exact Nr h2) (λv hv=>?_) '2' ?_)
  ·refine D0 (f3 v hv) λx t r2=>?_;obtain rfl:=r2
   exact .now
  rw[(by decide:(abQ "int" !=abQ "tuple")=true)]
  refine aac (aau (kat_run (E:=E) (Q:=λkM s'=>s'={s with heap:=((s.heap.update a (abb λzz=>(#[]:Array Value))).push (acw "tuple" vs.toArray 0)).push (acw "list" #[] 0)}∧∃p:Array Nat,p.size=vs.length∧arrOf kM=p.map (kas_item (vs.toArray.zip vs.toArray))∧failedOf kM=none∧PG vs.length (λi=>X i*1000+Y i) p∧wQ (λi=>X i*1000+Y i) p vs.length)
   (G:=λp s'=>s'={s with heap:=((s.heap.update a (abb λzz=>(#[]:Array Value))).push (acw "tuple" vs.toArray 0)).push (acw "list" #[] 0)}∧PG vs.length (λi=>X i*1000+Y i) p∧wQ (λi=>X i*1000+Y i) p vs.length)
   rfl (by exact aa8 h2) Hx (λp' kM s' a1 a2 a3 a4=>⟨a4.1,p',a1,a2,a3,a4.2.1,a4.2.2⟩) ?_) ?_ λzz zz e=>e)
  ·refine Hw (N:=vs.length) (K:=λi=>X i*1000+Y i) (λi j hi hj iE C hC=>?_) (λp hp=>⟨rfl,hp.1,hp.2⟩) _ (Fd (by exact Nu h2) inj)
   refine J9 (VB i hi) (VB j hj) (λe=>iE (hY i j hi hj e)) ?_
   have:decide (X i<X j∨X i=X j∧Y i<Y j)=decide (X i*1000+Y i<X j*1000+Y j):=by
    congr 1
    have:=hb i hi
    have:=hb j hj
    exact propext ⟨λr=>by lia,λr=>by lia⟩
   rw[this];exact hC
  ·intro J_
   obtain⟨⟨⟩,kM⟩:=J_
   intro s' Ka
   refine D5 Ka λr0 p a1 a2 a3 a4 a5=>?_
   obtain rfl:=r0
   exact fin kM p a2 a3 a1 a4 a5
end
end
section
section
variable{c:Cx} {n:Nat} {S:SS} {E:EP} {s:aas} {X:Cells}
abbrev iG:=Addr×Int×Int×Str
def Kb(t:iG):Int:=t.2.1*1000+t.2.2.1
def sG(t:iG):AO:=.tup [.int t.2.1,.int t.2.2.1,.str t.2.2.2]
theorem uS{ts:List iG}(hm:(l,.list (ts.map λt=>.ref t.1))∈S.cells)(ht:∀t∈ts,(t.1,sG t)∈S.cells)(Hx:ts.length<64)(hY:∀i j:Nat,∀a b:iG,ts[i]? =some a→ts[j]? =some b→a.2.2.1=b.2.2.1→i=j) (hb:∀t∈ts,0≤t.2.2.1∧t.2.2.1<1000)(h:∀(D:Addr) (us:List iG),us.Perm ts→us.Pairwise (λa b=>Kb a<Kb b)→Q (.ref D) ⟨S.loc,(D,.list (us.map λt=>.ref t.1))::S.cells⟩):bM c n S (.bi "sorted") [.ref l] Q E:=λf vs hf bx=>W.of λok X A s hA R=>by
 obtain rfl:=dT hf;let v r1 hv:=ak (cP bx);subst r1;obtain rfl:=aj hv;let ws hl p5:=ak (R.list hm);have Kc:ws.toList=ts.map λt=>abP t.1:=by
  have key:∀(a:List Value) (b:List iG),a.map ab=b.map (λt=>AV.ref t.1)→a=b.map λt=>abP t.1:=by
   intro a;induction a with
   |nil=>intro b hb;cases b with|nil=>rfl|cons _ _=>cases hb
   |cons x a ih=>
    intro b hb;cases b with
    |nil=>cases hb
    |cons y b=>rw[aan,aan,acr]at hb;rw[aan,aj hb.1,ih b hb.2]
  exact key _ _ p5
 obtain⟨vs,rfl⟩:∃vs:List Value,ws=vs.toArray:=⟨ws.toList,by simp⟩;rw[adi]at Kc;have hlen:vs.length=ts.length:=by rw[Kc,aaa]
 let d:iG:=(0,0,0,"");have dc:∀(t:iG),t∈ts→t.1<s.heap.objs.size:=λt Ey=>by let o ho z2:=ak (R.cells (t.1,sG t) (aaf _ (ht t Ey)));exact aa3 ho
 show Calls.call_function_entry kind_sorted plain_sorted entry_sorted (args_sorted1 _);refine aac (m:=checkCount "sorted" 1 1 _) (aal ?_);refine aac (collect_list hl ?_ (by rw[sizeLine_eq];exact GK Hx hlen));refine aac (wpAny_newList ?_ (by rw[sizeLine_eq];exact GK Hx hlen));have kj:((s.heap.push (acw "list" #[] 0)).update s.heap.objs.size (abb (·++vs.toArray))).objs.size=s.heap.objs.size+1:=by rw[Heap.size_update,size_push']
 have X6:(((s.heap.push (acw "list" #[] 0)).update s.heap.objs.size (abb (·++vs.toArray))).push (acw "list" vs.toArray 0)).get? (s.heap.objs.size+1)=some (acw "list" vs.toArray 0):=by rw[←kj];exact aaG _ rfl
 have keep:∀b o,s.heap.get? b=some o→(((s.heap.push (acw "list" #[] 0)).update s.heap.objs.size (abb (·++vs.toArray))).push (acw "list" vs.toArray 0)).get? b=some o:=λb o q=>by have dc:b<s.heap.objs.size:=aa3 q;rw[Heap.get?_push_ne _ _ _ (by rw[kj];exact abf (Nat.lt_succ_of_lt dc)),Heap.get?_update_ne _ _ _ _ (abf dc),Heap.get?_push_ne _ _ _ (abf dc)];exact q
 change wpAny _ _ _ _ _ {s with heap:=((s.heap.push (acw "list" #[] 0)).update s.heap.objs.size (abb (·++vs.toArray))).push (acw "list" vs.toArray 0)};rw[kj];have nK:∀i,i<vs.length→∃t,ts[i]? =some t∧ts.getD i d=t∧t∈ts∧vs.getD i aa6= .ref t.1:=λi hi=>by rw[hlen]at hi;refine⟨ts[i],aay hi,?_,acC hi,?_⟩;rw[aaR,aay hi];rfl;rw[Kc,aaR,aag,aay hi];rfl
 refine aac (abk (wpAny_call_entry slot_list_sort ⟨_,X6,rfl⟩ entry_list_sort (sF (X:=λi=>(ts.getD i d).2.1) (Y:=λi=>(ts.getD i d).2.2.1) X6 (by exact Ny Hx hlen) (λi hi=>?_) (λi j hi hj e=>?_) (λi hi=>?_) λp hp VC=>⟨_,rfl,?_⟩) (args_list_sort _)));let t t1 t2 t3 t4:=kJ (nK i hi);change TupAt _ _ (vs.getD i aa6) (ts.getD i d).2.1 (ts.getD i d).2.2.1;rw[t2,t4];let us hu VD:=ak (R.tup (ht t t3));let o ho hc k hd:=OS hu;have he:∃a b z,us= #[.int t.2.1 a,.int t.2.2.1 b,z]:=by let v1 v2 v3 e e1 e2 e3:=eN (ur VD);let a r1:=eE (aP e1);subst r1;let b r1:=eE (aP e2);subst r1;exact eY a b v3 (by rw[←Array.toArray_toList (xs:=us),e])
 let a b z r3:=vT he;subst r3;exact yO t.1 o z a b k ⟨rfl,abf (Nat.lt_succ_of_lt (dc t t3)),keep _ _ ho,hc,hd⟩;let t t1 t2 z3 z4:=kJ (nK i hi);let u u1 u2 z3 z4:=kJ (nK j hj);rw[t2,u2]at e;exact hY i j t u t1 u1 e;let t t1 t2 t3 z4:=kJ (nK i hi);change 0≤(ts.getD i d).2.2.1∧(ts.getD i d).2.2.1<1000;rw[t2];exact hb t t3;refine aal ⟨_,rfl,?_⟩;let e he:=eE (sortedAll_at s.heap vs (p.toList.map λi=>vs.getD i aa6).toArray);have R2:=R.alloc (s:=s) (h':=sortedAll s.heap vs (p.toList.map λi=>vs.getD i aa6).toArray) (tk:=s.toks) (a:=s.heap.objs.size+1) (ao:=.list ((p.toList.map λi=>ts.getD i d).map λt=>.ref t.1)) (λb o q=>sortedAll_old q) (aa2 _) he (ba _ _ ⟨rfl,by rw[adi,aba,aba];let i hi:=acQ;have Fe:i<vs.length:=(by simpa using hp.perm.mem_iff.mp hi);let t t1 t2 t3 t4:=kJ (nK i Fe);change ab (vs.getD i aa6)= .ref (ts.getD i d).1;rw[t2,t4];rfl⟩);refine⟨_,R2,h _ _ ?_ ?_⟩;have h1:((abt vs.length).map λi=>ts.getD i d)=ts:=by let i:=List.ext_getElem?;rw[aag];by_cases hi:i<vs.length;let t t1 t2 z3 z4:=kJ (nK i hi);rw[acp hi,t1];change some (ts.getD i d)=_;rw[t2];rw[acA (by simpa using hi),acA (by exact L1 hlen hi)];rfl
 exact(hp.perm.map λi=>ts.getD i d).trans (.of_eq h1);rw[List.pairwise_map];let i j hi hj iE:=acx.mpr;have:=VC i j iE (by exact DS (by rw[aaQ,hp.size]:p.toList.length=vs.length) hj);have e1:p.getD i 0=p.toList[i]:=by have:i<p.size:=(by simpa using hi);simp[Array.getD,this]
 have e2:p.getD j 0=p.toList[j]:=by have:j<p.size:=(by simpa using hj);simp[Array.getD,this]
 unfold Kp at this;rw[e1,e2]at this;exact this
theorem Cd{ns:List Int}(hm:(l,.list (ns.map .int))∈S.cells)(gV:0<ns.length)(hd:c.hd=none)(h:∀M,M∈ns→(∀a∈ns,a≤M)→Q (.int M) S):bM c n S (.bi "max") [.ref l] Q E:=λf vs hf bx=>W.of λok X A s hA R=>by
 obtain rfl:=dT hf;let v r1 hv:=ak (cP bx);subst r1;obtain rfl:=aj hv;let ws hl p5:=ak (R.list hm);have hi:IntsAre ws.toList ns:=by
  have key:∀(a:List Value) (b:List Int),a.map ab=b.map AV.int→IntsAre a b:=by
   intro a;induction a with
   |nil=>intro b hb;cases b with|nil=>exact .nil|cons _ _=>cases hb
   |cons x a ih=>
    intro b hb;cases b with
    |nil=>cases hb
    |cons y b=>rw[aan,aan,acr]at hb;let t r1:=eE (aP hb.1);subst r1;exact .cons y t (ih b hb.2)
  exact key _ _ p5
 let xs e:=eE hi.allInts.items;have lS:ns=xs.toList.map (λx=>x.1):=by rw[←hi.numsOf,←nums_intItems,←e]
 have kj:0<xs.size:=by have h3:=gV;rw[lS,aaa,aaQ]at h3;exact h3
 have e':ws.toList.toArray=_:=e;rw[Array.toArray_toList]at e';rw[e']at hl;refine wpAny_with_toks (aak s.toks) (max_intList (In.hd hA hd) hl kj λv h' tk hv hk iS=>?_);let t r1:=eE (intItems_at hv);subst r1;let h1 h2:=eA (argBest_gt (numAt xs) (xs.size-1));refine⟨S,R.keeps (h':=h') (tk:=tk) hk iS,h _ ?_ λa ha=>?_⟩;rw[lS,numAt_eq];exact getD_mem (by rw[aaa,aaQ];exact Nat.lt_of_le_pred kj h1);rw[lS]at ha;let j hj r2:=ak (mem_getD ha);subst r2;rw[aaa,aaQ]at hj;rw[←numAt_eq];exact h2 j (by exact adJ hj)
end
end
section
variable{P:Nat→Obj→Prop}
section
variable{c:Cx} {n:Nat} {S:SS} {E:EP} {s:aas} {X:Cells}
theorem W.d8{t:Sem α}{Q:α→SS→Prop}{G:Cells}(h:W c n ⟨loc,C⟩ t Q E):W c n ⟨loc,G++C⟩ t Q E:=.i λok X A s hA R=>h.run ok X A s hA (R.drop (cells':=C++X) (by change List.Sublist (C++X) ((G++C)++X);rw[aaw];exact ac1 G (C++X)))
theorem aI.at{x y:AO}{X:Cells}(l:Cells):aI a x y (l++(a,x)::X) (l++(a,y)::X):=aI.mid
theorem zH{e:Expr}(h:EE c n ⟨loc,C⟩ e Q E):EE c n ⟨loc,D++C⟩ e Q E:=W.forget h
theorem LP.map{ifs:List Expr}{pos:Pos}{D:Addr}{B:Cells}{Q:SS→Prop}(xs:List AV)(f:AV→Bool)(g:AV→AV)(hz:xs.length≤lim)(hn:∀(i:Nat) (y:AV) (v:Option AV) (G:Cells),xs[i]? =some y→xq c n ⟨[(x,v)],G++B⟩ P i y)(ht:∀(i:Nat) (y:AV) (T:AO) (Z:Bool→SS→Prop),xs[i]? =some y→(∀G,Z (f y) ⟨[(x,some y)],G++(D,T)::B⟩)→TS c n ⟨[(x,some y)],(D,T)::B⟩ ifs Z hZ)(he:∀(i:Nat) (y:AV) (T:AO) (Z:AV→SS→Prop),xs[i]? =some y→f y=true→(∀G,Z (g y) ⟨[(x,some y)],G++(D,T)::B⟩)→EE c n ⟨[(x,some y)],(D,T)::B⟩ elt Z hZ)(fin:∀(G:Cells) (v:Option AV),xr c n ⟨[(x,v)],G++(D,.list ((xs.filter f).map g))::B⟩ P xs.length∧Q ⟨[(x,v)],G++(D,.list ((xs.filter f).map g))::B⟩):LP c n ⟨[(x,none)],(D,.list [])::B⟩ (.ListComp elt [⟨.Name x px,iter,ifs,0⟩] scope pos) 0 P D Q:=by
 show LP.loop rfl eR xs (λi S=>∃G v,S=⟨[(x,v)],G++(D,.list (((xs.take i).filter f).map g))::B⟩) (ba [] none rfl) ?_;intro i y S1 hx;revert S1;let G v:=ui;have Hy:xs.take (i+1)=xs.take i++[y]:=by rw[aaK,hx];rfl
 refine⟨?_,λu hu=>W.d8 (cA (c:=c) (n:=n) (S:=⟨[(x,v)],(D,.list (((xs.take i).filter f).map g))::B⟩) (Q:=λS2=>TS c n S2 ifs (λok S3=>if ok=true then BD c n S3 elt [⟨.Name x px,iter,ifs,0⟩] scope pos 0 D (λS=>∃G v,S=⟨[(x,v)],G++(D,.list (((xs.take (i+1)).filter f).map g))::B⟩)else∃G v,S3=⟨[(x,v)],G++(D,.list (((xs.take (i+1)).filter f).map g))::B⟩) hZ) (E:=hZ) .head ?_ u hu)⟩;have:=hn i y v (G++[(D,.list (((xs.take i).filter f).map g))]) hx;rw[aaw]at this;exact this;let G3:=ht i y _ _ hx;cases hb:f y with|false=>rw[if_neg '2'];show ba G3 (some y);rw[Hy,abR,acL (by rw[hb];decide),List.filter_nil,aaO]|true=>rw[if_pos rfl];refine .inl ⟨rfl,zH (he i y _ _ hx hb λG4=>?_)⟩;refine ba _ _ ⟨aI.at G4,?_,G4,some y,?_⟩;rw[aaa];exact aab (abE _ _) (aab (abh _ _) hz);rw[Hy,abR,acM hb,List.filter_nil,aaj];rfl
 let G v:=ui;rw[abi];exact fin G v
end
end
section
section
variable{c:Cx} {n:Nat} {S:SS} {E:EP} {s:aas} {X:Cells}
theorem wR{a:Bool}(h:Q (.bool (!(a==b))) S):CO c n S .NotEq (.bool a) (.bool b) Q E:=λv w hv hw=>W.of λok X A s hA R=>by obtain rfl:=gr hv;obtain rfl:=gr hw;exact EqBoolInt.of_rcne (SeqAt.RcNeAt.bool_bool a b) ⟨S,R,h⟩
theorem Rp.same{x y:AO}(R:Rp c S s)(hx:(a,x)∈S.cells)(hy:(a,y)∈S.cells):x=y:=by
 have nd:(S.cells.map (λx=>x.1)).Nodup:=(aaX.mp (aaB.mp R.nd).2).2.1;have key:∀l:Cells,(l.map (λx=>x.1)).Nodup→(a,x)∈l→(a,y)∈l→x=y:=by
  intro l;induction l with
  |nil=>intro _ h;cases h
  |cons p l ih=>intro nd hx hy;have nd:=aaB.mp nd;rcases aai.mp hx with h1|h1;rcases aai.mp hy with h2|h2;have:=h1.trans h2.symm;injection this;exact absurd (show p.1∈l.map (λx=>x.1)from(congrArg Prod.fst h1)▸aat (f:=(λx=>x.1)) h2) nd.1;rcases aai.mp hy with h2|h2;exact absurd (show p.1∈l.map (λx=>x.1)from(congrArg Prod.fst h2)▸aat (f:=(λx=>x.1)) h1) nd.1;exact ih nd.2 h1 h2
 exact key _ nd hx hy
theorem Ce{m:Nat}{b:Addr}{xs ys:List Str}(hl:(l,.list (xs.map .str))∈S.cells)(hb:(b,.list (ys.map .str))∈S.cells):Dx c (m+1) S (.ref l) (.ref b) (xs==ys):=λX A s hA R v w hv hw=>by
 by_cases gV:l=b;subst gV;have e:=R.same (S:=S.ext X) (aaf _ hl) (aaf _ hb);have e2:xs.map AV.str=ys.map AV.str:=by injection e
 have e3:xs=ys:=by
  have key:∀a b:List Str,a.map AV.str=b.map AV.str→a=b:=by
   intro a;induction a with
   |nil=>intro b hb;cases b with|nil=>rfl|cons _ _=>cases hb
   |cons x a ih=>
    intro b hb;cases b with
    |nil=>cases hb
    |cons y b=>rw[aan,aan,acr]at hb;have h1:x=y:=(by injection hb.1);rw[h1,ih b hb.2]
  exact key _ _ e2
 subst e3;obtain rfl:=aj hv;obtain rfl:=aj hw;rw[beq_self_eq_true];exact SeqAt.EqAt.same _;have:=Bw (c:=c) (S:=S) (m:=m) hl hb gV kU X A s hA R v w hv hw;rw[jp]at this;exact this
end
end
section
variable{P:aao} {a:AV}
def K0(P:aao):Frag:=(Top.KF P).filter λp=>p.1 !=894
def fdOf(o:Obj):aaP:=match o.data with| .func fd=>fd|_=>default
def yd(l:List (Str×NameKind)):Bool:=l.all λx=>x.2 != .cell
theorem pG{l:List (Str×NameKind)}(h:yd l=true):∀x∈l,x.2≠.cell:=λx hx q=>by have:=aaZ.mp h x hx;rw[q]at this;cases this
def VE(K:Frag)(n:Str):Option Value:=match nsIn K ab9 n with
 |some (some v)=>some v
 |some none=>bootBuiltins n
 |none=>none
def gT:List (Str×Value):=("ValueError",.type "ValueError")::("len",.builtin "len")::("_wall",.ref 44)::("CycleError",.ref 106)::("range",.type "range")::("_iter_escaped_chars",.ref 51)::("tuple",.type "tuple")::("_NODE_OUT",.int (-1) 377)::("bool",.type "bool")::("StopIteration",.type "StopIteration")::("type",.type "type")::("StringIO",.ref 745)::("str",.type "str")::("print",.builtin "print")::("repr",.builtin "repr")::("_law_refused",.ref 952)::("enumerate",.type "enumerate")::("_strip_quoted_realnames",.ref 58)::("_check_parenthesis",.ref 65)::("_NodeInfo",.ref 91)::("_NODE_DONE",.int (-2) 380)::("set",.type "set")::("iter",.builtin "iter")::("int",.type "int")::("BytesIO",.ref 498)::("object",.type "object")::("_index",.ref 211)::("isinstance",.builtin "isinstance")::("deque",.type "collections.deque")::("dict",.type "dict")::("shlex",.ref 880)::("list",.type "list")::("_find_unsafe",.ref 900)::("max",.builtin "max")::("sorted",.builtin "sorted")::("_law_next",.ref 957)::("_law_rows",.ref 912)::("_pre_parse_validation",.ref 72)::("_law_table",.ref 931)::("TopologicalSorter",.ref 188)::("_law_shut",.ref 938)::("_law_fixed",.ref 945)::("_law_run",.ref 964)::("quote",.ref 907)::[]
theorem QF(P:aao):gT.map (λp=>VE (K0 P) p.1)=gT.map (λp=>some p.2):=by kernel_rfl
def ZF(fx:Fx):List (Option NameKind×Option Value)×Bool:=(fx.gl.map λp=>(fx.cs.names.lookup p.1,(gT.find? λq=>q.1==p.1).map (λx=>x.2)),fx.gl.all λp=> !(p.1=="__debug__")&& !(p.1=="__name__"))
def ZG(fx:Fx):List (Option NameKind×Option Value)×Bool:=(fx.gl.map λp=>(some .globalImplicit,some p.2),true)
theorem ng{f g:α→β}:∀{l:List α},l.map f=l.map g→∀a∈l,f a=g a|_::_,h,_,.head _=>(List.cons.inj h).1|_::_,h,a,.tail _ m=>ng (List.cons.inj h).2 a m
theorem dN(h:autoParam (ZF fx=ZG fx) apK):bH (K0 P) fx:=λp hp=>by
 have e:=ng (congrArg Prod.fst h) p hp;have d:=aaM _ _▸aaZ.mp (congrArg Prod.snd h) p hp;refine⟨congrArg Prod.fst e,(ab3 _).mp d.1,?_⟩;have v:VE (K0 P) p.1=some p.2:=by
  have t:=congrArg Prod.snd e;cases k:gT.find? λq=>q.1==p.1 with
  |none=>rw[k]at t;cases t
  |some q=>rw[k]at t;have kk:=List.find?_some k;rw[←eq_of_beq kk];exact(ng (QF P) q (List.mem_of_find?_eq_some k)).trans t
 have q:p.1≠"__name__":=λq=>by rw[q]at d;exact absurd d.2 '2'
 unfold VE at v;split at v
 ·next hx=>rw[hx,v];exact .inl rfl
 ·next hx=>exact .inr ⟨hx,v,q⟩
 cases v
def wS(fx:Fx)(ns:List Str):Bool:=decide ns.Nodup&&ns.all λx=>fx.cs.names.lookup x==some .local&& !(x==("__debug__":Str))
theorem dB(h:wS fx (loc.map (λx=>x.1))=true)(hb:(binds.all λx=>fx.cs.names.lookup x.1==some .local)=true)(hv:loc.map (λp=>(binds.reverse.lookup p.1).map ab)=loc.map (λx=>x.2)):e7 fx binds loc:=by
 unfold wS at h;simp only[aaM,decide_eq_true_eq,aaZ,beq_iff_eq,ab3]at h;refine⟨h.1,h.2,λy hy=>beq_iff_eq.mp (aaZ.mp hb y hy),λp hp=>?_⟩;have key:∀l:List (Str×Option AV),l.map (λp=>(binds.reverse.lookup p.1).map ab)=l.map (λx=>x.2)→∀p∈l,(binds.reverse.lookup p.1).map ab=p.2:=by
  intro l;induction l with
  |nil=>intro _ p hp;cases hp
  |cons a r ih=>intro e p hp;rw[aan,aan,acr]at e;rcases aai.mp hp with rfl|hp;exact e.1;exact ih e.2 p hp
 exact key loc hv p hp
theorem kws_nil(h:kws.map (λp=>(p.1,ab p.2))=[]):kws=[]:=List.map_eq_nil_iff.mp h
def VF(K:Frag)(fx:Fx)(k:Obj):Option Obj×(Bool×Str×Scope×Value)×(Addr×List (Str×Addr)×Addr×FuncBody)×Bool×Bool×ScopeKind×Bool:=(K.lookup fx.a,(codeIn K (fdOf k).code (fdOf k).qualname,(fdOf k).qualname,(fdOf k).scope,(fdOf k).code),((fdOf k).globals,(fdOf k).closure,(fdOf k).builtins,(fdOf k).body),(fdOf k).scope.isCoroutine,(fdOf k).scope.isGenerator,(fdOf k).scope.kind,yd (fdOf k).scope.names)
def VG(fx:Fx)(k:Obj)(b:List Stmt)(g nc:Bool):Option Obj×(Bool×Str×Scope×Value)×(Addr×List (Str×Addr)×Addr×FuncBody)×Bool×Bool×ScopeKind×Bool:=(some ⟨k.cls,k.dict,.func (fdOf k),k.slots⟩,(true,fx.cn,fx.cs,fx.cd),(ab9,[],abg,.stmts b),false,g,.function,nc)
theorem dr{K:Frag}{b:List Stmt}(k:Obj)(h:autoParam (VF K fx k=VG fx k b false true) apK):cy K fx (fdOf k) b:=
 have a:=congrArg (λx=>x.2.1) h
 have c:=congrArg (λx=>x.2.2.1) h
 have d:=congrArg (λx=>x.2.2.2) h
 ⟨(eY _ _ _ (congrArg (λx=>x.1) h)),congrArg (λx=>x.1) a,congrArg (λx=>x.2.1) a,congrArg (λx=>x.2.2.1) a,congrArg (λx=>x.2.2.2) a,congrArg (λx=>x.1) c,congrArg (λx=>x.2.1) c,congrArg (λx=>x.2.2.1) c,congrArg (λx=>x.2.2.2) c,congrArg (λx=>x.1) d,congrArg (λx=>x.2.1) d,congrArg (λx=>x.2.2.1) d,pG (congrArg (λx=>x.2.2.2) d)⟩
def IN(fx:Fx)(fd:aao→aaP)(as:List AV)(loc:List (Str×Option AV)):Prop:=∀(s:aas) (P:aao),(K0 P).In s.heap→∀pos kws,pos.map ab=as→kws.map (λp=>(p.1,ab p.2))=[]→∃binds,ac9 s (fd P) ⟨pos,kws⟩ binds∧e7 fx binds loc
def Sl(fx:Fx)(bs:List (Str×Value))(loc:List (Str×Option AV)):Bool×Bool×List (Option AV):=(wS fx (loc.map (λx=>x.1)),bs.all λx=>fx.cs.names.lookup x.1==some .local,loc.map λp=>(bs.reverse.lookup p.1).map ab)
theorem Kd{fd:aao→aaP}{pos:List Value}{s:aas}(bs:List (Str×Value))(hk:kws.map (λp=>(p.1,ab p.2))=[])(h1:adb (fd P) ⟨pos,[]⟩=pure bs)(h2:Sl fx bs loc=(true,true,loc.map (λx=>x.2))):∃binds,ac9 s (fd P) ⟨pos,kws⟩ binds∧e7 fx binds loc:=⟨bs,kws_nil hk▸.of_eq h1,dB (congrArg (λx=>x.1) h2) (congrArg (λx=>x.2.1) h2) (congrArg (λx=>x.2.2) h2)⟩
theorem in1{fd:aao→aaP}{loc:AV→List (Str×Option AV)}(n:Str)(h1:autoParam (∀P v,adb (fd P) ⟨[v],[]⟩=pure [(n,v)]) apK)(h2:autoParam (∀v,Sl fx [(n,v)] (loc (ab v))=(true,true,(loc (ab v)).map (λx=>x.2))) apK):IN fx fd [a] (loc a):=λs P zz pos kws hp hk=>by obtain⟨v,rfl,rfl⟩:=cP hp;exact Kd _ hk (h1 P v) (h2 v)
theorem QG{fd:aao→aaP}{b:AV}{loc:AV→AV→List (Str×Option AV)}(n m:Str)(h1:autoParam (∀P v u,adb (fd P) ⟨[v,u],[]⟩=pure [(n,v),(m,u)]) apK)(h2:autoParam (∀v u,Sl fx [(n,v),(m,u)] (loc (ab v) (ab u))=(true,true,(loc (ab v) (ab u)).map (λx=>x.2))) apK):IN fx fd [a,b] (loc a b):=λs P zz pos kws hp hk=>by obtain⟨v,u,rfl,rfl,rfl⟩:=fR hp;exact Kd _ hk (h1 P v u) (h2 v u)
theorem ZH{fd:aao→aaP}{b c:AV}{loc:AV→AV→AV→List (Str×Option AV)}(n m o:Str)(h1:autoParam (∀P v u t,adb (fd P) ⟨[v,u,t],[]⟩=pure [(n,v),(m,u),(o,t)]) apK)(h2:autoParam (∀v u t,Sl fx [(n,v),(m,u),(o,t)] (loc (ab v) (ab u) (ab t))=(true,true,(loc (ab v) (ab u) (ab t)).map (λx=>x.2))) apK):IN fx fd [a,b,c] (loc a b c):=λs P zz pos kws hp hk=>by obtain⟨v,u,t,rfl,rfl,rfl,rfl⟩:=ur hp;exact Kd _ hk (h1 P v u t) (h2 v u t)
abbrev aa:Fx:={cn:="_iter_escaped_chars",cs:=Top.av (Top.tS 4),a:=51,cd:=.ref 50,gl:=[("enumerate",.type "enumerate")]}
def am:List Stmt:=Top.bodyOf (Top.tS 4)
abbrev d9(P:aao):aaP:=fdOf (Top.Ts P)
theorem iH(P:aao):bH (K0 P) aa:=dN
abbrev aU:Fx:={cn:="_strip_quoted_realnames",cs:=Top.av (Top.tS 5),a:=58,cd:=.ref 57,gl:=[("_iter_escaped_chars",.ref 51),("len",.builtin "len")]}
def dv:List Stmt:=Top.bodyOf (Top.tS 5)
abbrev dh(P:aao):aaP:=fdOf (Top.Tt P)
theorem f0(P:aao):bH (K0 P) aU:=dN
theorem f9(P:aao):cy (K0 P) aU (dh P) dv:=dr (Top.Tt P)
abbrev bq:Fx:={cn:="_check_parenthesis",cs:=Top.av (Top.tS 6),a:=65,cd:=.ref 64,gl:=[("_strip_quoted_realnames",.ref 58),("_iter_escaped_chars",.ref 51)]}
def ju:List Stmt:=Top.bodyOf (Top.tS 6)
abbrev eD(P:aao):aaP:=fdOf (Top.Tu P)
theorem i4(P:aao):bH (K0 P) bq:=dN
theorem i5(P:aao):cy (K0 P) bq (eD P) ju:=dr (Top.Tu P)
abbrev bt:Fx:={cn:="_pre_parse_validation",cs:=Top.av (Top.tS 7),a:=72,cd:=.ref 71,gl:=[("_check_parenthesis",.ref 65)]}
def ii:List Stmt:=Top.bodyOf (Top.tS 7)
abbrev dC(P:aao):aaP:=fdOf (Top.Tv P)
theorem gW(P:aao):bH (K0 P) bt:=dN
theorem gX(P:aao):cy (K0 P) bt (dC P) ii:=dr (Top.Tv P)
abbrev bS:Fx:={cn:="_NodeInfo.__init__",cs:=Top.av (Top.cS 11 1),a:=87,cd:=.ref 86,gl:=[]}
def jv:List Stmt:=Top.bodyOf (Top.cS 11 1)
abbrev eF(P:aao):aaP:=fdOf (Top.Tw P)
theorem i6(P:aao):bH (K0 P) bS:=λp hp=>nomatch hp
theorem i7(P:aao):cy (K0 P) bS (eF P) jv:=dr (Top.Tw P)
abbrev a_:Fx:={cn:="TopologicalSorter.__init__",cs:=Top.av (Top.cS 13 0),a:=124,cd:=.ref 123,gl:=[]}
def fm:List Stmt:=Top.bodyOf (Top.cS 13 0)
abbrev bB(P:aao):aaP:=fdOf (Top.HW P)
theorem e9(P:aao):bH (K0 P) a_:=λp hp=>nomatch hp
theorem e_(P:aao):cy (K0 P) a_ (bB P) fm:=dr (Top.HW P)
abbrev aJ:Fx:={cn:="TopologicalSorter._get_nodeinfo",cs:=Top.av (Top.cS 13 1),a:=131,cd:=.ref 130,gl:=[("_NodeInfo",.ref 91)]}
def dX:List Stmt:=Top.bodyOf (Top.cS 13 1)
abbrev bQ(P:aao):aaP:=fdOf (Top.HX P)
theorem dO(P:aao):bH (K0 P) aJ:=dN
theorem dP(P:aao):cy (K0 P) aJ (bQ P) dX:=dr (Top.HX P)
abbrev bb:Fx:={cn:="TopologicalSorter.add",cs:=Top.av (Top.cS 13 2),a:=138,cd:=.ref 137,gl:=[("ValueError",.type "ValueError"),("len",.builtin "len")]}
def ij:List Stmt:=Top.bodyOf (Top.cS 13 2)
abbrev b6(P:aao):aaP:=fdOf (Top.HY P)
theorem dD(P:aao):bH (K0 P) bb:=dN
theorem dE(P:aao):cy (K0 P) bb (b6 P) ij:=dr (Top.HY P)
abbrev aN:Fx:={cn:="TopologicalSorter.prepare",cs:=Top.av (Top.cS 13 3),a:=143,cd:=.ref 142,gl:=[("ValueError",.type "ValueError"),("CycleError",.ref 106)]}
def fG:List Stmt:=Top.bodyOf (Top.cS 13 3)
abbrev cQ(P:aao):aaP:=fdOf (Top.HZ P)
theorem cT(P:aao):bH (K0 P) aN:=dN
theorem cU(P:aao):cy (K0 P) aN (cQ P) fG:=dr (Top.HZ P)
abbrev aF:Fx:={cn:="TopologicalSorter.get_ready",cs:=Top.av (Top.cS 13 4),a:=150,cd:=.ref 149,gl:=[("ValueError",.type "ValueError"),("tuple",.type "tuple"),("_NODE_OUT",.int (-1) 377),("len",.builtin "len")]}
def fa:List Stmt:=Top.bodyOf (Top.cS 13 4)
abbrev b9(P:aao):aaP:=fdOf (Top.H2 P)
theorem b_(P:aao):bH (K0 P) aF:=dN
theorem ca(P:aao):cy (K0 P) aF (b9 P) fa:=dr (Top.H2 P)
abbrev aG:Fx:={cn:="TopologicalSorter.is_active",cs:=Top.av (Top.cS 13 5),a:=157,cd:=.ref 156,gl:=[("ValueError",.type "ValueError"),("bool",.type "bool")]}
def fc:List Stmt:=Top.bodyOf (Top.cS 13 5)
abbrev cb(P:aao):aaP:=fdOf (Top.H3 P)
theorem ci(P:aao):bH (K0 P) aG:=dN
theorem cj(P:aao):cy (K0 P) aG (cb P) fc:=dr (Top.H3 P)
abbrev aX:Fx:={cn:="TopologicalSorter.done",cs:=Top.av (Top.cS 13 7),a:=171,cd:=.ref 170,gl:=[("ValueError",.type "ValueError"),("_NODE_OUT",.int (-1) 377),("_NODE_DONE",.int (-2) 380)]}
def gY:List Stmt:=Top.bodyOf (Top.cS 13 7)
abbrev bT(P:aao):aaP:=fdOf (Top.H4 P)
theorem dw(P:aao):bH (K0 P) aX:=dN
theorem dy(P:aao):cy (K0 P) aX (bT P) gY:=dr (Top.H4 P)
abbrev aO:Fx:={cn:="TopologicalSorter._find_cycle",cs:=Top.av (Top.cS 13 8),a:=178,cd:=.ref 177,gl:=[("set",.type "set"),("iter",.builtin "iter"),("len",.builtin "len"),("StopIteration",.type "StopIteration")]}
def ey:List Stmt:=Top.bodyOf (Top.cS 13 8)
abbrev bW(P:aao):aaP:=fdOf (Top.H6 P)
theorem d_(P:aao):bH (K0 P) aO:=dN
theorem ec(P:aao):cy (K0 P) aO (bW P) ey:=dr (Top.H6 P)
abbrev jE:Fx:={cn:="_index",cs:=Top.av (Top.tS 17),a:=211,cd:=.ref 210,gl:=[("type",.type "type"),("int",.type "int"),("bool",.type "bool"),("_wall",.ref 44)]}
def Cg:List Stmt:=Top.bodyOf (Top.tS 17)
abbrev ra(P:aao):aaP:=fdOf (Top.H7 P)
theorem zI(P:aao):bH (K0 P) jE:=dN
theorem zJ(P:aao):cy (K0 P) jE (ra P) Cg:=dr (Top.H7 P)
abbrev ef:Fx:={cn:="IOBase.__new__",cs:=Top.av (Top.cS 19 1),a:=238,cd:=.ref 237,gl:=[("BytesIO",.ref 498),("StringIO",.ref 745),("_wall",.ref 44),("object",.type "object")]}
def mC:List Stmt:=Top.bodyOf (Top.cS 19 1)
abbrev gz(P:aao):aaP:=fdOf (Top.H8 P)
theorem kY(P:aao):bH (K0 P) ef:=dN
theorem kZ(P:aao):cy (K0 P) ef (gz P) mC:=dr (Top.H8 P)
abbrev bX:Fx:={cn:="StringIO.__init__",cs:=Top.av (Top.cS 23 1),a:=515,cd:=.ref 514,gl:=[("type",.type "type"),("str",.type "str"),("_wall",.ref 44),("ValueError",.type "ValueError")]}
def jN:List Stmt:=Top.bodyOf (Top.cS 23 1)
abbrev dj(P:aao):aaP:=fdOf (Top.H9 P)
theorem jw(P:aao):bH (K0 P) bX:=dN
theorem jx(P:aao):cy (K0 P) bX (dj P) jN:=dr (Top.H9 P)
abbrev bu:Fx:={cn:="StringIO.__translated",cs:=Top.av (Top.cS 23 2),a:=522,cd:=.ref 521,gl:=[]}
def il:List Stmt:=Top.bodyOf (Top.cS 23 2)
abbrev dG(P:aao):aaP:=fdOf (Top.H_ P)
theorem gZ(P:aao):bH (K0 P) bu:=λp hp=>nomatch hp
theorem g7(P:aao):cy (K0 P) bu (dG P) il:=dr (Top.H_ P)
abbrev b7:Fx:={cn:="StringIO.__check",cs:=Top.av (Top.cS 23 3),a:=529,cd:=.ref 528,gl:=[("ValueError",.type "ValueError")]}
def ky:List Stmt:=Top.bodyOf (Top.cS 23 3)
abbrev fu(P:aao):aaP:=fdOf (Top.Ia P)
theorem jO(P:aao):bH (K0 P) b7:=dN
theorem jP(P:aao):cy (K0 P) b7 (fu P) ky:=dr (Top.Ia P)
abbrev dt:Fx:={cn:="StringIO.read",cs:=Top.av (Top.cS 23 25),a:=691,cd:=.ref 690,gl:=[("_index",.ref 211),("len",.builtin "len")]}
def iV:List Stmt:=Top.bodyOf (Top.cS 23 25)
abbrev eJ(P:aao):aaP:=fdOf (Top.Ib P)
theorem mD(P:aao):bH (K0 P) dt:=dN
theorem mF(P:aao):cy (K0 P) dt (eJ P) iV:=dr (Top.Ib P)
abbrev c8:Fx:={cn:="shlex.__init__",cs:=Top.av (Top.cS 33 0),a:=804,cd:=.ref 803,gl:=[("isinstance",.builtin "isinstance"),("str",.type "str"),("StringIO",.ref 745),("_wall",.ref 44),("deque",.type "collections.deque"),("dict",.type "dict")]}
def mG:List Stmt:=Top.bodyOf (Top.cS 33 0)
abbrev eh(P:aao):aaP:=fdOf (Top.Id P)
theorem k9(P:aao):bH (K0 P) c8:=dN
theorem k_(P:aao):cy (K0 P) c8 (eh P) mG:=dr (Top.Id P)
abbrev bn:Fx:={cn:="shlex.punctuation_chars",cs:=Top.av (Top.cS 33 1),a:=811,cd:=.ref 810,gl:=[]}
def gp:List Stmt:=Top.bodyOf (Top.cS 33 1)
abbrev dk(P:aao):aaP:=fdOf (Top.Ie P)
theorem f_(P:aao):bH (K0 P) bn:=λp hp=>nomatch hp
theorem ga(P:aao):cy (K0 P) bn (dk P) gp:=dr (Top.Ie P)
abbrev cD:Fx:={cn:="shlex.get_token",cs:=Top.av (Top.cS 33 5),a:=841,cd:=.ref 840,gl:=[("print",.builtin "print"),("repr",.builtin "repr")]}
def lc:List Stmt:=Top.bodyOf (Top.cS 33 5)
abbrev gb(P:aao):aaP:=fdOf (Top.Ig P)
theorem kz(P:aao):bH (K0 P) cD:=dN
theorem kA(P:aao):cy (K0 P) cD (gb P) lc:=dr (Top.Ig P)
abbrev ai:Fx:={cn:="shlex.read_token",cs:=Top.av (Top.cS 33 6),a:=848,cd:=.ref 847,gl:=[("print",.builtin "print"),("ValueError",.type "ValueError"),("repr",.builtin "repr")]}
def cF:List Stmt:=Top.bodyOf (Top.cS 33 6)
abbrev fw(P:aao):aaP:=fdOf (Top.Ih P)
theorem fy(P:aao):bH (K0 P) ai:=dN
theorem fz(P:aao):cy (K0 P) ai (fw P) cF:=dr (Top.Ih P)
abbrev c9:Fx:={cn:="shlex.__iter__",cs:=Top.av (Top.cS 33 9),a:=870,cd:=.ref 869,gl:=[]}
def mH:List Stmt:=Top.bodyOf (Top.cS 33 9)
abbrev gA(P:aao):aaP:=fdOf (Top.Ii P)
theorem le(P:aao):bH (K0 P) c9:=λp hp=>nomatch hp
theorem lf(P:aao):cy (K0 P) c9 (gA P) mH:=dr (Top.Ii P)
abbrev c_:Fx:={cn:="shlex.__next__",cs:=Top.av (Top.cS 33 10),a:=877,cd:=.ref 876,gl:=[("StopIteration",.type "StopIteration")]}
def mI:List Stmt:=Top.bodyOf (Top.cS 33 10)
abbrev gB(P:aao):aaP:=fdOf (Top.Ij P)
theorem lh(P:aao):bH (K0 P) c_:=dN
theorem lj(P:aao):cy (K0 P) c_ (gB P) mI:=dr (Top.Ij P)
abbrev ll:Fx:={cn:="split",cs:=Top.av (Top.tS 34),a:=892,cd:=.ref 891,gl:=[("ValueError",.type "ValueError"),("shlex",.ref 880),("list",.type "list")]}
def Ff:List Stmt:=Top.bodyOf (Top.tS 34)
abbrev pH(P:aao):aaP:=fdOf (Top.Ik P)
theorem Ch(P:aao):bH (K0 P) ll:=dN
theorem Ci(P:aao):cy (K0 P) ll (pH P) Ff:=dr (Top.Ik P)
abbrev eT:Fx:={cn:="join",cs:=Top.av (Top.tS 35),a:=899,cd:=.ref 898,gl:=[]}
def lm:List Stmt:=Top.bodyOf (Top.tS 35)
abbrev j7(P:aao):aaP:=fdOf (Top.Im P)
theorem qk(P:aao):bH (K0 P) eT:=λp hp=>nomatch hp
theorem ql(P:aao):cy (K0 P) eT (j7 P) lm:=dr (Top.Im P)
abbrev lq:Fx:={cn:="quote",cs:=Top.av (Top.tS 38),a:=907,cd:=.ref 906,gl:=[("_find_unsafe",.ref 900)]}
def Fg:List Stmt:=Top.bodyOf (Top.tS 38)
abbrev uT(P:aao):aaP:=fdOf (Top.Io P)
theorem Cj(P:aao):bH (K0 P) lq:=dN
theorem Ck(P:aao):cy (K0 P) lq (uT P) Fg:=dr (Top.Io P)
abbrev bJ:Fx:={cn:="_law_rows",cs:=Top.av (Top.tS 40),a:=912,cd:=.ref 911,gl:=[("range",.type "range"),("len",.builtin "len")]}
def uU:List Stmt:=Top.bodyOf (Top.tS 40)
abbrev lr(P:aao):aaP:=fdOf (Top.Ip P)
theorem sH(P:aao):bH (K0 P) bJ:=dN
abbrev fH:Fx:={cn:="_law_line",cs:=Top.av (Top.tS 41),a:=917,cd:=.ref 916,gl:=[]}
def uW:List Stmt:=Top.bodyOf (Top.tS 41)
abbrev lu(P:aao):aaP:=fdOf (Top.Iq P)
theorem sJ(P:aao):bH (K0 P) fH:=λp hp=>nomatch hp
theorem sK(P:aao):cy (K0 P) fH (lu P) uW:=dr (Top.Iq P)
abbrev ei:Fx:={cn:="_law_closes",cs:=Top.av (Top.tS 42),a:=924,cd:=.ref 923,gl:=[("len",.builtin "len")]}
def qm:List Stmt:=Top.bodyOf (Top.tS 42)
abbrev jy(P:aao):aaP:=fdOf (Top.Ir P)
theorem pI(P:aao):bH (K0 P) ei:=dN
theorem pJ(P:aao):cy (K0 P) ei (jy P) qm:=dr (Top.Ir P)
abbrev eU:Fx:={cn:="_law_table",cs:=Top.av (Top.tS 43),a:=931,cd:=.ref 930,gl:=[]}
def sL:List Stmt:=Top.bodyOf (Top.tS 43)
abbrev j8(P:aao):aaP:=fdOf (Top.Iu P)
theorem qo(P:aao):bH (K0 P) eU:=λp hp=>nomatch hp
theorem qp(P:aao):cy (K0 P) eU (j8 P) sL:=dr (Top.Iu P)
abbrev fJ:Fx:={cn:="_law_shut",cs:=Top.av (Top.tS 44),a:=938,cd:=.ref 937,gl:=[("ValueError",.type "ValueError")]}
def uX:List Stmt:=Top.bodyOf (Top.tS 44)
abbrev lw(P:aao):aaP:=fdOf (Top.Iv P)
theorem sM(P:aao):bH (K0 P) fJ:=dN
theorem sN(P:aao):cy (K0 P) fJ (lw P) uX:=dr (Top.Iv P)
abbrev eV:Fx:={cn:="_law_fixed",cs:=Top.av (Top.tS 45),a:=945,cd:=.ref 944,gl:=[("CycleError",.ref 106),("ValueError",.type "ValueError")]}
def sO:List Stmt:=Top.bodyOf (Top.tS 45)
abbrev j9(P:aao):aaP:=fdOf (Top.Iw P)
theorem qq(P:aao):bH (K0 P) eV:=dN
theorem qr(P:aao):cy (K0 P) eV (j9 P) sO:=dr (Top.Iw P)
abbrev dI:Fx:={cn:="_law_refused",cs:=Top.av (Top.tS 46),a:=952,cd:=.ref 951,gl:=[("ValueError",.type "ValueError")]}
def pK:List Stmt:=Top.bodyOf (Top.tS 46)
abbrev iW(P:aao):aaP:=fdOf (Top.Ix P)
theorem nL(P:aao):bH (K0 P) dI:=dN
theorem nM(P:aao):cy (K0 P) dI (iW P) pK:=dr (Top.Ix P)
abbrev bK:Fx:={cn:="_law_next",cs:=Top.av (Top.tS 47),a:=957,cd:=.ref 956,gl:=[("range",.type "range"),("len",.builtin "len"),("max",.builtin "max"),("sorted",.builtin "sorted")]}
def uY:List Stmt:=Top.bodyOf (Top.tS 47)
abbrev lx(P:aao):aaP:=fdOf (Top.Iy P)
theorem sP(P:aao):bH (K0 P) bK:=dN
abbrev gD:Fx:={cn:="_law_run",cs:=Top.av (Top.tS 48),a:=964,cd:=.ref 963,gl:=[("_law_next",.ref 957),("tuple",.type "tuple"),("len",.builtin "len"),("_law_refused",.ref 952)]}
def wT:List Stmt:=Top.bodyOf (Top.tS 48)
abbrev nh(P:aao):aaP:=fdOf (Top.Iz P)
theorem uZ(P:aao):bH (K0 P) gD:=dN
theorem u_(P:aao):cy (K0 P) gD (nh P) wT:=dr (Top.Iz P)
abbrev bd:Fx:={cn:="law",cs:=Top.av (Top.tS 49),a:=969,cd:=.ref 968,gl:=[("_law_rows",.ref 912),("_pre_parse_validation",.ref 72),("range",.type "range"),("len",.builtin "len"),("_law_table",.ref 931),("TopologicalSorter",.ref 188),("_law_shut",.ref 938),("CycleError",.ref 106),("_law_fixed",.ref 945),("_law_run",.ref 964),("_law_refused",.ref 952)]}
def da:List Stmt:=Top.bodyOf (Top.tS 49)
abbrev sQ(P:aao):aaP:=fdOf (Top.IA P)
theorem Ke(P:aao):bH (K0 P) bd:=dN
abbrev gc(a0:AV):List (Str×Option AV):=[("addr",some a0),("start",none),("open_pos",none),("result",none),("pos",none),("ch",none)]
theorem gf:IN aU dh [a0] (gc a0):=in1 "addr"
abbrev i8(a0:AV):List (Str×Option AV):=[("addr",some a0),("opens",none),("pos",none),("ch",none)]
theorem i9:IN bq eD [a0] (i8 a0):=in1 "addr"
abbrev g8(a0:AV):List (Str×Option AV):=[("email_header_fields",some a0),("accepted_values",none),("v",none)]
theorem g9:IN bt dC [a0] (g8 a0):=in1 "email_header_fields"
abbrev i_(a0 a1:AV):List (Str×Option AV):=[("self",some a0),("node",some a1)]
theorem ja{a1:AV}:IN bS eF [a0,a1] (i_ a0 a1):=QG "self" "node"
abbrev dQ(a0 a1:AV):List (Str×Option AV):=[("self",some a0),("node",some a1),("result",none)]
theorem dR{a1:AV}:IN aJ bQ [a0,a1] (dQ a0 a1):=QG "self" "node"
abbrev fp(a0:AV):List (Str×Option AV):=[("self",some a0),("cycle",none)]
theorem cV:IN aN cQ [a0] (fp a0):=in1 "self"
abbrev eK(a0:AV):List (Str×Option AV):=[("self",some a0),("result",none),("n2i",none),("node",none)]
theorem ck:IN aF b9 [a0] (eK a0):=in1 "self"
abbrev eM(a0:AV):List (Str×Option AV):=[("self",some a0)]
theorem cq:IN aG cb [a0] (eM a0):=in1 "self"
abbrev ej(a0:AV):List (Str×Option AV):=[("self",some a0),("n2i",none),("stack",none),("itstack",none),("seen",none),("node2stacki",none),("node",none)]
theorem ek:IN aO bW [a0] (ej a0):=in1 "self"
abbrev zK(a0 a1:AV):List (Str×Option AV):=[("n",some a0),("what",some a1)]
theorem zL{a1:AV}:IN jE ra [a0,a1] (zK a0 a1):=QG "n" "what"
abbrev g_(a0 a1:AV):List (Str×Option AV):=[("self",some a0),("s",some a1),("newline",none)]
theorem hH{a1:AV}:IN bu dG [a0,a1] (g_ a0 a1):=QG "self" "s"
abbrev jQ(a0:AV):List (Str×Option AV):=[("self",some a0)]
theorem jR:IN b7 fu [a0] (jQ a0):=in1 "self"
abbrev gg(a0:AV):List (Str×Option AV):=[("self",some a0)]
theorem gh:IN bn dk [a0] (gg a0):=in1 "self"
abbrev kB(a0:AV):List (Str×Option AV):=[("self",some a0),("tok",none),("raw",none),("spec",none),("newfile",none),("newstream",none)]
theorem kC:IN cD gb [a0] (kB a0):=in1 "self"
abbrev jS(a0:AV):List (Str×Option AV):=[("self",some a0),("quoted",none),("escapedstate",none),("nextchar",none),("result",none)]
theorem fA:IN ai fw [a0] (jS a0):=in1 "self"
abbrev ly(a0:AV):List (Str×Option AV):=[("self",some a0)]
theorem lA:IN c9 gA [a0] (ly a0):=in1 "self"
abbrev lB(a0:AV):List (Str×Option AV):=[("self",some a0),("token",none)]
theorem lC:IN c_ gB [a0] (lB a0):=in1 "self"
abbrev qs(a0:AV):List (Str×Option AV):=[("split_command",some a0)]
theorem qt:IN eT j7 [a0] (qs a0):=in1 "split_command"
abbrev Cl(a0:AV):List (Str×Option AV):=[("s",some a0)]
theorem Cm:IN lq uT [a0] (Cl a0):=in1 "s"
abbrev sR(a0:AV):List (Str×Option AV):=[("words",some a0),("written",none),("word",none),("inner",none)]
theorem sS:IN fH lu [a0] (sR a0):=in1 "words"
abbrev pL(a0:AV):List (Str×Option AV):=[("line",some a0),("units",none),("place",none),("marks",none),("bare",none),("unit",none)]
theorem pM:IN ei jy [a0] (pL a0):=in1 "line"
abbrev qw(a0:AV):List (Str×Option AV):=[("rows",some a0),("table",none),("row",none)]
theorem qx:IN eU j8 [a0] (qw a0):=in1 "rows"
abbrev sT(a0:AV):List (Str×Option AV):=[("sorter",some a0),("count",none)]
theorem sU:IN fJ lw [a0] (sT a0):=in1 "sorter"
abbrev qy(a0:AV):List (Str×Option AV):=[("sorter",some a0)]
theorem qz:IN eV j9 [a0] (qy a0):=in1 "sorter"
abbrev nN(a0 a1:AV):List (Str×Option AV):=[("sorter",some a0),("names",some a1)]
theorem nO{a1:AV}:IN dI iW [a0,a1] (nN a0 a1):=QG "sorter" "names"
abbrev vb(a0 a1 a2:AV):List (Str×Option AV):=[("sorter",some a0),("names",some a1),("edges",some a2),("given",none),("done",none),("waiting",none),("fresh",none),("name",none)]
theorem vd{a1 a2:AV}:IN gD nh [a0,a1,a2] (vb a0 a1 a2):=ZH "sorter" "names" "edges"
end
section
def QH:List Addr:=[51,58,65,72,87,124,131,138,143,150,157,171,178,211,238,515,522,529,691,804,811,841,848,870,877,892,899,907,912,917,924,931,938,945,952,957,964,969,91,188,745,880]
theorem kp(a:Addr)(h:QH.contains a=true)(P:aao):keepIn (K0 P) (.ref a)=true:=by
 have:QH.all (λa=>keepIn (K0 P) (.ref a))=true:=by kernel_rfl
 exact aaZ.mp this a (by simpa using h)
theorem VH{K:Frag}{b:List Stmt}(k:Obj)(h:autoParam (VF K fx k=VG fx k b true true) apK):Jm K fx (fdOf k) b:=
 have a:=congrArg (λx=>x.2.1) h
 have c:=congrArg (λx=>x.2.2.1) h
 have d:=congrArg (λx=>x.2.2.2) h
 ⟨(eY _ _ _ (congrArg (λx=>x.1) h)),congrArg (λx=>x.1) a,congrArg (λx=>x.2.1) a,congrArg (λx=>x.2.2.1) a,congrArg (λx=>x.2.2.2) a,congrArg (λx=>x.1) c,congrArg (λx=>x.2.1) c,congrArg (λx=>x.2.2.1) c,congrArg (λx=>x.2.2.2) c,congrArg (λx=>x.1) d,congrArg (λx=>x.2.1) d,congrArg (λx=>x.2.2.1) d,pG (congrArg (λx=>x.2.2.2) d)⟩
theorem iI(P:aao):Jm (K0 P) aa (d9 P) am:=VH (Top.Ts P)
abbrev af(a pos esc:AV)(ch:Option AV):List (Str×Option AV):=[("addr",some a),("pos",some pos),("escape",some esc),("ch",ch)]
abbrev cu(a:AV):List (Str×Option AV):=[("addr",some a),("pos",none),("escape",none),("ch",none)]
theorem iJ:∀(s:aas) (P:aao),(K0 P).In s.heap→∀pos kws,pos.map ab=[a0]→kws.map (λp=>(p.1,ab p.2))=[]→∃binds,ac9 s (d9 P) ⟨pos,kws⟩ binds∧e7 aa binds (cu a0):=by intro s P _ pos kws hp hk;obtain rfl:=kws_nil hk;let v0 r1 r2:=ak (cP hp);subst r1;subst r2;exact⟨[("addr",v0)],.of_eq '3',dB '3' '3' '3'⟩
theorem aW:(∀x∈(["addr","pos","escape","ch"]:List Str),aa.cs.names.lookup x=some .local∧(x==("__debug__":Str))=false)∧(["addr","pos","escape","ch"]:List Str).Nodup:=by
 have h:wS aa ["addr","pos","escape","ch"]=true:=by kernel_rfl
 unfold wS at h;simp only[aaM,decide_eq_true_eq,aaZ,beq_iff_eq,ab3]at h;exact⟨h.2,h.1⟩
end
section
variable{C f:Addr}
abbrev zM:List (Addr×Str×Addr):=[(745,"_StringIO__check",529),(745,"_StringIO__translated",522),(745,"read",691),(880,"get_token",841),(880,"read_token",848),(188,"add",138),(188,"_get_nodeinfo",131),(188,"_find_cycle",178),(188,"prepare",143),(188,"get_ready",150),(188,"is_active",157),(188,"done",171)]
theorem VI(P:aao):zM.all (λp=>mf (K0 P) p.1 p.2.1 p.2.2)=true:=by kernel_rfl
theorem ZI{nm:Str}(hK:c.K=K0 c.w.params)(h:At (C,nm,f) zM):mf c.K C nm f=true:=by rw[hK];exact aaZ.mp (VI c.w.params) _ h.mem
abbrev Kf:List (Addr×Str):=[(745,"_StringIO__newline"),(745,"_StringIO__buf"),(745,"_StringIO__pos"),(880,"instream"),(880,"infile"),(880,"posix"),(880,"eof"),(880,"commenters"),(880,"wordchars"),(880,"whitespace"),(880,"whitespace_split"),(880,"quotes"),(880,"escape"),(880,"escapedquotes"),(880,"state"),(880,"pushback"),(880,"lineno"),(880,"debug"),(880,"token"),(880,"filestack"),(880,"source"),(880,"_punctuation_chars"),(188,"_node2info"),(188,"_ready_nodes"),(188,"_npassedout"),(188,"_nfinished")]
theorem QI(P:aao):Kf.all (λp=>attrOk (K0 P) p.1 p.2&&dg (K0 P) p.1 p.2)=true:=by kernel_rfl
theorem VJ{nm:Str}(hK:c.K=K0 c.w.params)(h:At (C,nm) Kf):attrOk c.K C nm=true:=by rw[hK];exact(adP.mp (aaZ.mp (QI c.w.params) _ h.mem)).1
theorem VK{nm:Str}(hK:c.K=K0 c.w.params)(h:At (C,nm) Kf):dg c.K C nm=true:=by rw[hK];exact(adP.mp (aaZ.mp (QI c.w.params) _ h.mem)).2
theorem ZJ(hK:c.K=K0 c.w.params):wJ c.K 880 "punctuation_chars" 812 811=true:=by rw[hK];kernel_rfl
abbrev mJ(nl bf p:AV):List (Str×AV):=[("_StringIO__newline",nl),("_StringIO__buf",bf),("_StringIO__pos",p)]
abbrev zN(a0 a1 a2 a3 a4 a5 a6 a7 a8 a9 a10 a11 a12 a13 a14 a15 a16 a17 a18:AV):List (Str×AV):=[("instream",a0),("infile",a1),("posix",a2),("eof",a3),("commenters",a4),("wordchars",a5),("whitespace",a6),("whitespace_split",a7),("quotes",a8),("escape",a9),("escapedquotes",a10),("state",a11),("pushback",a12),("lineno",a13),("debug",a14),("token",a15),("filestack",a16),("source",a17),("_punctuation_chars",a18)]
abbrev kI(a b c d:AV):List (Str×AV):=[("_node2info",a),("_ready_nodes",b),("_npassedout",c),("_nfinished",d)]
theorem sV{l:List Str}{nm:Str}(h:es.map (λx=>x.1)=l)(hn:l.all (λx=> !(x==nm))=true):dU es nm=none:=by subst h;induction es with|nil=>rfl|cons p r ih=>simp only[aan,adB,aaM,ab3,beq_eq_false_iff_ne]at hn;unfold dU;rw[if_neg hn.1];exact ih (by simpa using hn.2)
abbrev VL:List Str:=["_StringIO__newline","_StringIO__buf","_StringIO__pos"]
abbrev VM:List Str:=["instream","infile","posix","eof","commenters","wordchars","whitespace","whitespace_split","quotes","escape","escapedquotes","state","pushback","lineno","debug","token","filestack","source","_punctuation_chars"]
abbrev ZK:List Str:=["_node2info","_ready_nodes","_npassedout","_nfinished"]
theorem VN:(zM.all λp=>(if p.1=745 then VL else if p.1=880 then VM else ZK).all λx=> !(x==p.2.1))=true:=by kernel_rfl
theorem Kg{a b c:AV}{nm:Str}(h:At (745,nm,f) zM):dU (mJ a b c) nm=none:=sV rfl (aaZ.mp VN _ h.mem)
theorem Kh{a1 a2 a3 a4 a5 a6 a7 a8 a9 a18:AV}{nm:Str}(h:At (880,nm,f) zM):dU (zN a0 a1 a2 a3 a4 a5 a6 a7 a8 a9 a10 a11 a12 a13 a14 a15 a16 a17 a18) nm=none:=sV rfl (aaZ.mp VN _ h.mem)
theorem QJ{a b c d:AV}{nm:Str}(h:At (188,nm,f) zM):dU (kI a b c d) nm=none:=sV rfl (aaZ.mp VN _ h.mem)
end
section
variable{m:Nat} {s₀:aas} {H:Value→Sem Fin} {gd:Bool→Bool} {lv:List Value→List Value} {Sf:Nat→SS}
def mK:List Nat→Nat→Bool→List (AV×AV)|[],j,true=>[(.int ((j-1:Nat):Int),.str "\\")]|[],_,false=>[]|d::r,j,true=>(.int (j:Int),.str ("\\"++⟨#[d]⟩))::mK r (j+1) false|d::r,j,false=>if((⟨#[d]⟩:Str)=="\\")=true then mK r (j+1) true else(.int (j:Int),.str ⟨#[d]⟩)::mK r (j+1) false
def dY(x:Str):List (AV×AV):=mK x.cps.toList 0 false
def pN(l:List Stmt)(i:Nat):Stmt:=(l.drop i).headD (.Pass ⟨0,0,0,0⟩)
def sW:Stmt→Expr| .For t _ _ _ _=>t|_=>.Name "" ⟨0,0,0,0⟩
def Fh:Stmt→Expr| .For _ t _ _ _=>t|_=>.Name "" ⟨0,0,0,0⟩
def oj:Stmt→List Stmt| .For _ _ b _ _=>b| .While _ b _ _=>b|_=>[]
theorem Cn{f:Flow}(h:OW f= .next):f= .next:=by cases f<;>first|rfl|cases h
theorem In.gen{G:Array ach}(hA:c.In A (m+1)):((c.bc G).enter fx mm L).In (A.in1.over (.func body (be fx L)) []) m:=by let h1 h2 h3 h4:=jd hA;refine⟨?_,h2,?_,?_⟩;rw[Cx.dp (c:=(c.bc G).enter fx mm L) rfl,Cx.e8];change pushEnvs [be fx L] (pushEnvs [] A.frames)=_;rw[h1];rfl;change A.depth+0+1+m<_;exact Xb h3;change A.units+1+0+3+8*m<_;exact Xc h4
theorem In.Fi{G:Array ach}{tgt:Expr}{it:Value}{b o:List Stmt}{KK:Result→Sem Fin}{g:Bool}{l kp:List Value}(hA:c.In A (m+1)):((c.bc G).enter fx mm L).In (A.in1.over (.forLoop tgt it b o (be fx L)) [.ret KK none g l (.func body (be fx L)) p kp]) m:=by let h1 h2 h3 h4:=jd hA;refine⟨?_,h2,?_,?_⟩;rw[Cx.dp (c:=(c.bc G).enter fx mm L) rfl,Cx.e8];change pushEnvs [] (pushEnvs [be fx L] A.frames)=_;rw[h1];rfl;change A.depth+1+0+m<_;exact Yx h3;change A.units+1+3+0+8*m<_;exact SN h4
theorem sX{s:aas}{X:Cells}{R:GenEnd}{Y:Protocol}{fs:List Frame}{K:Flow→Sem Fin}{st:Stmt}(S':SS)(ok:c.Ok) (hA:c.In (A.over cd fs) n) (R1:Rp c (S.ext X) s) (h:ES c n S st (λf S1=>f= .next∧S1=S') hZ) (hk:∀s',Rp c (S'.ext X) s'→Seg (model prog c.w) A R Y k s₀ cd (K .next) fs s'):Seg (model prog c.w) A R Y k s₀ cd ((exec st c.env).wrap K H gd lv) fs s:=
 Pb (Q:=λf S1=>f= .next∧S1=S') ok hA R1 (h.az λf S1 h=>⟨Cn h.1,h.2⟩) λv s' S1 R' h8=>eA h8 λe1 e2=>by subst e1 e2;exact hk s' R'
theorem ye(hK:c.K=K0 c.w.params)(hd:c.hd=none)(hc:c.comp=false)(hx:x.length≤1000):Ux c (n+2) Sf (.ref 51) [.str x] (dY x):=by
 intro v vs hv bx ok X A s hA R;obtain rfl:=aj hv;refine aau (BI (fx:=aa) iI (λs P h pos kws=>iJ s P h pos kws) hK ok hA R bx) (λw s' I7=>?_) λzz zz z=>z;let a L e hL R1:=bG I7;subst e;refine p6 a s.gens _ [(L,.obj (isNs (cu (.str x))))] ⟨rfl,rfl,R.gens,R1,?_⟩;generalize hP:kW c a s.gens X (dY x) Sf=P;have ZL:P.c=c:=by rw[←hP]
 have hN:P.N=(dY x).length:=by rw[←hP]
 intro km p4;refine⟨rfl,seg_func ?_⟩;have okR:P.cR.Ok:=by subst hP;exact ok.bc
 have EO:P.cR.comp=false:=by subst hP;exact hc
 have okg:∀m,(P.cR.enter aa m L).Ok:=λm=>Cx.jh (K0:=K0) okR (by subst hP;exact hK) iH rfl (by subst hP;exact hL);have QK:∀m,(P.cR.enter aa m L).In (A.in1.over (.func am (be aa L)) []) (n+1):=λm=>by subst hP;exact In.gen hA
 have Aq:∀m tgt it b o KK g l kp p,(P.cR.enter aa m L).In (A.in1.over (.forLoop tgt it b o (be aa L)) [.ret KK none g l (.func am (be aa L)) p kp]) (n+1):=λm tgt it b o KK g l kp p=>by subst hP;exact In.Fi hA
 have E7:∀m,(P.cR.enter aa m L).comp=false:=λzz=>rfl;have aZ:∀m,(P.cR.enter aa m L).fx=aa:=λzz=>rfl;have VO:∀m,(P.cR.enter aa m L).hd=none:=λzz=>by subst hP;exact hd
 have reent:∀{S:SS} {Zc:Cells} {s:aas} {pos esc ch},Rp P.cR (S.ext (((L,.obj (isNs (af (.str x) pos esc ch)))::Zc)++P.X)) s→∃m,(∀p∈S.loc,(m p.1).map ab=p.2)∧Rp (P.cR.enter aa m L) (SS.ext ⟨af (.str x) pos esc ch,Zc⟩ (S.cells++P.X)) s:=λR=>R.oh okR EO aW.2 aW.1;have relv:∀{S:SS} {DA:Cells} {s s':aas} {Z:Cells} {sa m},Rp P.cR (S.ext Z) s→(∀p∈S.loc,(m p.1).map ab=p.2)→Rp (P.cR.enter aa m L) (SS.ext ⟨sa,DA⟩ (S.cells++P.X)) s'→Rp P.cR (S.ext (((L,.obj (isNs sa))::DA)++P.X)) s':=λR hm R2=>R2.xQ okR EO R.kL R.lk hm;have cw:P.c.w=c.w:=by rw[ZL]
 clear R1 R hA;have give:∀(cd:Code) (fs:List Frame) (qM:∀m,(P.cR.enter aa m L).In (A.in1.over cd fs) (n+1)) (X7:splitAtGen fs=none) (X8:fs.any Frame.guarded=false) (ex:Expr) (yp pp:Pos) (K:Flow→Sem Fin) (H:Value→Sem Fin)
   (pos esc:AV) (ch:Option AV) (Zc:Cells) (a b:AV) (rest:List (AV×AV)) (i:Nat) (m:Str→Option Value) (s₀ s s1:aas) (Z:Cells),(dY x).drop i=(a,b)::rest→Rp P.cR ((P.Sf i).ext Z) s1→(∀p∈(P.Sf i).loc,(m p.1).map ab=p.2)→
   Rp (P.cR.enter aa m L) (SS.ext ⟨af (.str x) pos esc ch,Zc⟩ ((P.Sf i).cells++P.X)) s→
   EE (P.cR.enter aa m L) (n+1) ⟨af (.str x) pos esc ch,Zc⟩ ex (λv S'=>∃t,v= .ref t∧S'=⟨af (.str x) pos esc ch,(t,.tup [a,b])::Zc⟩) hZ→
   (∀km,Rp P.cR ((P.Sf (i+1)).ext (((L,.obj (isNs (af (.str x) pos esc ch)))::Zc)++P.X)) km→Seg (model prog P.c.w) A.in1 P.R P.Y (P.N-(i+1)+1) km cd (K .next) fs km)→
   Seg (model prog P.c.w) A.in1 P.R P.Y (P.N-i+1) s₀ cd ((exec (.Expr (.Yield (some ex) yp) pp) (be aa L)).wrap K H id id) fs s:=by
  intro cd fs qM X7 X8 ex yp pp K H pos esc ch Zc a b rest i m s₀ s s1 Z hi R0 hm Rg he hk
  have dc:i<(dY x).length:=by
   have:=congrArg aaV hi
   simp only[aa9,aaF]at this
   exact acz this
  have pi:(dY x)[i]? =some (a,b):=by
   have:=congrArg List.head? hi
   rwa [List.head?_drop,List.head?_cons]at this
  refine seg_Expr_Yield X7 rfl X8 (aau (he.run (okg m) _ _ s (qM m) Rg) (λv s2 VP=>?_) λx s' z=>(ie z).elim) rfl rfl
  obtain⟨S2,R2,t,ev,eS⟩:=VP
  subst eS
  have ZM:v= .ref t:=aj ev
  subst ZM
  intro kap VQ
  refine eY i [(t,.tup [a,b])] ((L,.obj (isNs (af (.str x) pos esc ch)))::Zc) ⟨by rw[hN];exact aa7 (aaN dc),by rw[hN];exact abY dc,by rw[(by rw[←hP]:P.It=BH (dY x))];exact(eY t a b ⟨pi,rfl,rfl⟩),?_,λkm p4=>VQ _ _ ?_⟩
  ·refine(relv R0 hm R2).perm (cells':=(P.Sf i).cells++([(t,.tup [a,b])]++(((L,.obj (isNs (af (.str x) pos esc ch)))::Zc)++P.X))) ?_
   exact acY _ (List.Perm.swap ..)
  ·have:=hk km p4
   rw[show P.N-(i+1)+1=P.N-i from by rw[hN];exact adl (abY dc)]at this
   exact this
 have key:∀(e it:Addr) (KK:Result→Sem Fin) (l kp:List Value) (p:Pos)
   (QL:∀i esc vc s₀ s,i≤(dY x).length→(dY x).drop i=mK [] x.cps.size esc→Rp P.cR ((P.Sf i).ext ([(L,.obj (isNs (af (.str x) (.int ((x.cps.size-1:Nat):Int)) (.bool esc) vc)))]++P.X)) s→
    Seg (model prog P.c.w) A.in1 P.R P.Y (P.N-i+1) s₀ (.func am (be aa L)) (KK (.ok .next)) [] s),
   ∀(r:List Nat) (j i:Nat) (esc:Bool) (vc:Option AV) (s₀ s:aas),x.cps.toList.drop j=r→j≤x.cps.size→i≤(dY x).length→(dY x).drop i=mK r j esc→
    Rp P.cR ((P.Sf i).ext (((L,.obj (isNs (af (.str x) (.int ((j-1:Nat):Int)) (.bool esc) vc)))::eB x e it j)++P.X)) s→
    Seg (model prog P.c.w) A.in1 P.R P.Y (P.N-i+1) s₀ (.forLoop (sW (pN am 2)) (.ref e) (oj (pN am 2)) [] (be aa L))
     ((model prog P.c.w).den (.forLoop (sW (pN am 2)) (.ref e) (oj (pN am 2)) [] (be aa L))) [.ret KK none false l (.func am (be aa L)) p kp] s:=by
  intro e it KK l kp p QL r
  induction r with
  |nil=>
   intro j i esc vc s₀ s hr hj QM hi R
   have ZN:j=x.cps.size:=by
    have:=congrArg aaV hr
    simp only[aa9,aaQ,ady]at this
    exact aaI hj (ab5 this)
   subst ZN
   refine ak (reent R) λm hm Rg=>?_
   refine nb (aau (BB (S:=⟨af (.str x) (.int ((x.cps.size-1:Nat):Int)) (.bool esc) vc,[]⟩) (VO m) (okg m) _ _ s (Aq m _ _ _ _ _ _ _ _ _) (Rg.perm (cells':=[]++(eB x e it x.cps.size++((P.Sf i).cells++P.X))) (List.Perm.refl _))) (λr s1 VR=>?_) λzz zz z=>z)
   refine eA VR λer R1=>?_
   subst er
   exact qd (QL i esc vc s₀ s1 QM hi (relv R hm R1))
  |cons d r ih=>
   intro j i esc vc s₀ s hr hj QM hi R
   have rL:x.cps[j]? =some d:=by
    have:=congrArg List.head? hr
    rw[List.head?_drop,List.head?_cons]at this
    simpa using this
   have dc:j<x.cps.size:=(abG.mp rL).1
   refine ak (reent R) λm hm Rg=>?_
   refine nb (aau (zi (S:=⟨af (.str x) (.int ((j-1:Nat):Int)) (.bool esc) vc,[]⟩) (VO m) rL (okg m) _ _ s (Aq m _ _ _ _ _ _ _ _ _) (Rg.perm (cells':=[]++(eB x e it j++((P.Sf i).cells++P.X))) (List.Perm.refl _))) (λr s1 VS=>?_) λzz zz z=>z)
   refine ak VS λv er hg=>?_
   subst er
   refine aau (hg _ _ _) (λzz s2 Ja=>?_) λzz zz z=>z
   refine ak Ja λt ev R2=>?_
   subst ev
   refine aau ((r_ (c:=P.cR.enter aa m L) (n:=n+1) (S:=⟨af (.str x) (.int ((j-1:Nat):Int)) (.bool esc) vc,[(t,.tup [.int j,.str ⟨#[d]⟩])]⟩) (E:=hZ)
    (Q:=λS6=>S6=⟨af (.str x) (.int j) (.bool esc) (some (.str ⟨#[d]⟩)),[(t,.tup [.int j,.str ⟨#[d]⟩])]⟩) (VO m) (.head _) (by k_extra "m.sets") rfl (.ref t) rfl).run (okg m) _ _ s2 (Aq m _ _ _ _ _ _ _ _ _) R2) (λzz s3 h8=>h8.el λS3 R3 e3=>?_) λzz zz z=>ie z
   subst e3
   have R4:Rp (P.cR.enter aa m L) (SS.ext ⟨af (.str x) (.int j) (.bool esc) (some (.str ⟨#[d]⟩)),eB x e it (j+1)⟩ ((P.Sf i).cells++P.X)) s3:=R3.drop (cells':=eB x e it (j+1)++((P.Sf i).cells++P.X)) (acj ..)
   clear R2 R3 hg
   refine ab7 ?_
   refine pg (okg m) (Aq m _ _ _ _ _ _ _ _ _) R4 (Q:=λb S'=>b=esc∧S'=⟨af (.str x) (.int j) (.bool esc) (some (.str ⟨#[d]⟩)),eB x e it (j+1)⟩) (v_ (dM ⋯ (bj ⟨rfl,rfl⟩))) ?_
   intro b s5 S5 R5 J_
   refine eA J_ λr0 r1=>?_
   obtain rfl:=r0
   obtain rfl:=r1
   have again:∀(Fj:Bool) (i':Nat) (s₁ s':aas),i'≤(dY x).length→(dY x).drop i'=mK r (j+1) Fj→Rp P.cR ((P.Sf i').ext (((L,.obj (isNs (af (.str x) (.int j) (.bool Fj) (some (.str ⟨#[d]⟩)))))::eB x e it (j+1))++P.X)) s'→
     Seg (model prog P.c.w) A.in1 P.R P.Y (P.N-i'+1) s₁ (.forLoop (sW (pN am 2)) (.ref e) (oj (pN am 2)) [] (be aa L))
     (.pure (.again (.forLoop (sW (pN am 2)) (.ref e) (oj (pN am 2)) [] (be aa L)))) [.ret KK none false l (.func am (be aa L)) p kp] s':=λFj i' s₁ s' VT ZO R'=>
    seg_again rfl (ih (j+1) i' Fj _ s₁ s' (by rw[←List.tail_drop,hr];rfl:x.cps.toList.drop (j+1)=r) dc VT ZO R')
   cases b with
   |true=>
    rw[show mK (d::r) j true=(AV.int (j:Int),AV.str ("\\"++⟨#[d]⟩))::mK r (j+1) false from rfl]at hi
    rw[if_pos rfl]
    refine ab7 ?_
    refine give _ _ (λm=>Aq m _ _ _ _ _ _ _ _ _) rfl rfl _ _ _ _ _ _ _ _ _ _ _ _ i m s₀ s5 s _ hi R hm R5 ?_ λkm p4=>?_
    ·refine kQ (gu (dM ⋯ (gu (Bk (rK (dM ⋯ (cz ?_ (oS ⟨by change 2≤lim;decide,λt=>⟨t,rfl,rfl⟩⟩))))))))
     change 1+1≤ac_
     decide
    ·refine ak (reent p4) λm2 Ey Rg2=>?_
     refine ab7 ?_
     refine sX (c:=P.cR.enter aa m2 L) ⟨af (.str x) (.int j) (.bool false) (some (.str ⟨#[d]⟩)),eB x e it (j+1)⟩ (okg m2) (Aq m2 _ _ _ _ _ _ _ _ _) Rg2 (h_ (iy ⟨_,by k_extra "m.at",rfl,rfl⟩)) λs7 R7=>?_
     refine adD ?_
     refine again false (i+1) _ _ (by have:=congrArg aaV hi;simp only[aa9,aaF]at this;exact acz this) ?_ (relv p4 Ey R7)
     have:=congrArg List.tail hi
     rwa [List.tail_drop]at this
   |false=>
    rw[if_neg '2']
    refine ab7 ?_
    refine pg (okg m) (Aq m _ _ _ _ _ _ _ _ _) R5 (Q:=λb S'=>b=((⟨#[d]⟩:Str)=="\\")∧S'=⟨af (.str x) (.int j) (.bool false) (some (.str ⟨#[d]⟩)),eB x e it (j+1)⟩)
     (Bl (dM ⋯ (rK (qO (bj ⟨rfl,rfl⟩))))) ?_
    intro b s6 S6 R6 Ka
    refine eA Ka λeb r1=>?_
    obtain rfl:=r1
    unfold mK at hi
    rw[←eb]at hi
    cases b with
    |true=>
     rw[if_pos rfl]at hi
     rw[if_pos rfl]
     refine ab7 ?_
     refine sX (c:=P.cR.enter aa m L) ⟨af (.str x) (.int j) (.bool true) (some (.str ⟨#[d]⟩)),eB x e it (j+1)⟩ (okg m) (Aq m _ _ _ _ _ _ _ _ _) R6 (h_ (iy ⟨_,by k_extra "m.at",rfl,rfl⟩)) λs7 R7=>?_
     refine adD ?_
     exact again true i _ _ QM hi (relv R hm R7)
    |false=>
     rw[if_neg '2']at hi
     rw[if_neg '2']
     refine ab7 ?_
     refine give _ _ (λm=>Aq m _ _ _ _ _ _ _ _ _) rfl rfl _ _ _ _ _ _ _ _ _ _ _ _ i m s₀ s6 s _ hi R hm R6 ?_ λkm p4=>?_
     ·exact kQ (gu (dM ⋯ (gu (dM ⋯ (oS ⟨by change 2≤lim;decide,λt=>⟨t,rfl,rfl⟩⟩)))))
     ·refine adD ?_
      refine again false (i+1) _ _ (by have:=congrArg aaV hi;simp only[aa9,aaF]at this;exact acz this) ?_ p4
      have:=congrArg List.tail hi
      rwa [List.tail_drop]at this
 let m hm Rg:=ak (p4.oh (loc:=cu (.str x)) (Zc:=[]) okR EO aW.2 aW.1 (fx:=aa));show ab7;let s1 R1:=sX (c:=P.cR.enter aa m L) ⟨[("addr",some (.str x)),("pos",some (.int 0)),("escape",none),("ch",none)],[]⟩ (okg m) (QK m) Rg (h_ (oI ⟨_,by k_extra "m.at",rfl,rfl⟩));show ab7;let s2 R2:=sX (c:=P.cR.enter aa m L) ⟨af (.str x) (.int 0) (.bool false) none,[]⟩ (okg m) (QK m) R1 (h_ (iy ⟨_,by k_extra "m.at",rfl,rfl⟩));show ab7;show EM (λzz=>rfl);have hE:EE (P.cR.enter aa m L) (n+1) ⟨af (.str x) (.int 0) (.bool false) none,[]⟩ (Fh (pN am 2)) (λv S'=>∃e it,v= .ref e∧S'=⟨af (.str x) (.int 0) (.bool false) none,[(e,.obj (m9 it 0)),(it,.obj (iT x 0))]⟩) hZ:=by show xo;show ph (aZ m) ⋯ (by rfl);refine⟨trivial,?_⟩;exact gu (dM ⋯ (oS (zh λe it=>(ba e it ⟨rfl,rfl⟩))))
 refine aau (hE.run (okg m) _ _ s2 (QK m) R2) (λv s3 VU=>?_) λzz zz z=>ie z;obtain⟨S3,R3,e,it,ev,eS⟩:=VU;subst eS;obtain rfl:=aj ev;let oe Hc old r3:=IS (R3.cells (e,.obj (m9 it 0)) (aaf _ (.head _)));subst r3;let p:=wpAny_pyIter_enum Hc;refine key e it _ _ _ _ ?_ x.cps.toList 0 0 false none _ _ rfl (aaD _) (aaD _) rfl (relv p4 hm R3);intro i esc vc s₀ s4 QM hi R4;let m hm Rg:=ak (R4.oh (Zc:=[]) okR EO aW.2 aW.1 (fx:=aa));have fin:∀(i:Nat) (s₀ s5:aas),(dY x).drop i=[]→i≤(dY x).length→Rp P.cR ((P.Sf i).ext (([(L,.obj (isNs (af (.str x) (.int ((x.cps.size-1:Nat):Int)) (.bool esc) vc)))]:Cells)++P.X)) s5→Seg (model prog P.c.w) A.in1 P.R P.Y (P.N-i+1) s₀ (.func am (be aa L)) (.pure (.done (.ret .none))) [] s5:=by intro i s₀ s5 hi hle R5;have Ut:i=P.N:=(by have:=congrArg aaV hi;simp only[aa9,ady]at this;rw[hN];exact aaI hle (ab5 this));subst Ut;rw[adv];exact seg_end (.ok (.ret .none)) ⟨rfl,⟨_,rfl,.inr rfl⟩,R5.dH⟩
 show ab7;show pg (okg m) (QK m) Rg (Q:=λb S'=>b=esc∧S'=⟨af (.str x) (.int ((x.cps.size-1:Nat):Int)) (.bool esc) vc,[]⟩) (v_ (dM ⋯ (bj ⟨rfl,rfl⟩)));intro b s5 S5 R5 I9;let r0 r1:=eA I9;subst r0;subst r1;cases b with|true=>have dc:i<(dY x).length:=(by have:=congrArg aaV hi;simp only[aa9,aaF]at this;exact acz this);rw[if_pos rfl];show ab7;let km p4:=give _ _ QK rfl rfl _ _ _ _ _ _ _ _ _ _ _ _ i m s₀ s5 s4 _ hi R4 hm R5 ?_;exact kQ (gu (dM ⋯ (gu (rK (oS ⟨by change 2≤lim;decide,λt=>⟨t,rfl,rfl⟩⟩)))));refine adD (adD ?_);refine fin (i+1) _ _ ?_ dc p4;have:=congrArg List.tail hi;rwa [List.tail_drop]at this|false=>rw[if_neg '2'];refine adD (adD ?_);have hle:i≤(dY x).length:=QM;exact fin i _ _ hi hle (relv R4 hm R5)
end
section
open PySem.Builtin PySem.Builtin.Str
variable{p:Nat×Str}
theorem jF(x:Str)(lo hi:Option Int):(b8 x lo hi).length≤x.length:=by unfold b8;split;exact aak _;change(acg _).size≤_;rw[acK];exact aab (List.length_filterMap_le _ _) (sliceIndices_le _ _ _)
def jT:List Nat→Nat→Bool→List (Nat×Str)|[],j,true=>[(j-1,"\\")]|[],_,false=>[]|d::r,j,true=>(j,"\\"++⟨#[d]⟩)::jT r (j+1) false|d::r,j,false=>if((⟨#[d]⟩:Str)=="\\")=true then jT r (j+1) true else(j,⟨#[d]⟩)::jT r (j+1) false
def uA(p:Nat×Str):AV×AV:=(.int (p.1:Int),.str p.2)
theorem om:∀(r:List Nat) (j:Nat) (e:Bool),mK r j e=(jT r j e).map uA|[],j,true=>rfl|[],j,false=>rfl|d::r,j,true=>by change _::mK r (j+1) false=_::(jT r (j+1) false).map uA;rw[om r];rfl|d::r,j,false=>by unfold mK jT;split;exact om r _ _;rw[aan,om r];rfl
def gi(x:Str):List (Nat×Str):=jT x.cps.toList 0 false
theorem gG(x:Str):dY x=(gi x).map uA:=om _ _ _
theorem lD:∀(r:List Nat) (j:Nat) (e:Bool),(jT r j e).length≤r.length+(if e then 1 else 0)|[],j,true=>aak _|[],j,false=>aak _|d::r,j,true=>by have:=lD r (j+1) false;change(jT r (j+1) false).length+1≤r.length+1+1;simp at this;exact Th this|d::r,j,false=>by unfold jT;split;have:=lD r (j+1) true;simp at this⊢;exact this;have:=lD r (j+1) false;simp at this⊢;exact this
theorem Co(x:Str):(gi x).length≤x.length:=by have:=lD x.cps.toList 0 false;rw[if_neg '2',aaQ]at this;exact this
structure SQ where
 st:Nat
 op:Option Nat
 res:List Str
def cG(x:Str)(q:SQ)(p:Nat×Str):SQ:=
 if(p.2=="\"")=true then(match q.op with
  |none=>⟨q.st,some p.1,q.res⟩
  |some o=>⟨p.1+1,none,if((q.st:Int) !=(o:Int))=true then q.res++[b8 x (some q.st) (some o)]else q.res⟩)
 else q
def iK(x:Str)(i:Nat):SQ:=((gi x).take i).foldl (cG x) ⟨0,none,[]⟩
def dz(x:Str):Str:=if Bv x "\""=true then(let q:=iK x (gi x).length;glued "" (q.res++if q.st<x.length then[b8 x (some q.st) none]else[]))else x
def X9:Option Nat→AV|none=>.none|some o=>.int (o:Int)
def nj(ps:List (AV×AV))(f:AV×AV→AV):Nat→Option AV|0=>none|j+1=>(ps[j]?).map f
theorem rb(h:(gi x)[i]? =some p):iK x (i+1)=cG x (iK x i) p:=by unfold iK;rw[aaK,h,ab4];rfl
theorem Cp(x:Str):∀i,(iK x i).res.length≤i∧∀y∈(iK x i).res,y.length≤x.length:=by intro i;induction i with|zero=>exact⟨aak _,λy hy=>nomatch hy⟩|succ i ih=>cases h:(gi x)[i]? with|none=>have:iK x (i+1)=iK x i:=(by unfold iK;rw[aaK,h];simp);rw[this];exact⟨ab1 ih.1,ih.2⟩|some p=>rw[rb h];unfold cG;split;split;exact⟨ab1 ih.1,ih.2⟩;split;refine⟨by simp;exact ih.1,λy hy=>?_⟩;rcases aax.mp hy with hy|hy;exact ih.2 y hy;obtain rfl:y=_:=(by simpa using hy);exact jF _ _ _;exact⟨ab1 ih.1,ih.2⟩;exact⟨ab1 ih.1,ih.2⟩
theorem Cq(l:List Str)(m:Nat)(h:∀y∈l,y.length≤m)(k a:Nat):l.foldl (λa y=>a+y.length+k) a≤a+l.length*(m+k):=by induction l generalizing a with|nil=>simp|cons y l ih=>rw[acv];have h2:=ih (λz hz=>h z (.tail _ hz)) (a+y.length+k);rw[aaF,Nat.succ_mul];exact Ti (h y (.head _)) h2
theorem zO{rs:List Str}(h1:rs.length≤501)(h2:∀y∈rs,y.length≤500):(glued "" rs).length≤lim:=by
 rw[StrLaws.glued_eq_join];have:=StrLaws.join_length_le "" rs;have h6:(rs.map (λx=>x.length)).sum≤rs.length*500:=by clear h1 this;induction rs with|nil=>simp|cons y r ih=>have a1:=h2 y (.head _);have a2:=ih (λz hz=>h2 z (.tail _ hz));rw[aan,adh,aaF,Nat.succ_mul];exact Tj a1 a2
 have h7:rs.length*("":Str).length=0:=by rw[show("":Str).length=0 from rfl,Nat.mul_zero]
 change _≤1000000;exact Tk h1 this h6 h7
theorem w_strip(hx:x.length≤500):FC K0 (n+3) 58 [.str x] [] [] (λv C=>v= .str (dz x)∧C=[]) (λzz zz=>False):=by
 show aB (fx:=aU) f9 f0 gf;intro c Q' E' hK hd aZ hc ay aL bz;show ah;left;have hL:=Co x;cases hq:Bv x "\""
 ·left;refine ay _ _ _ _ .nil ⟨?_,rfl⟩;unfold dz;rw[hq];rfl
 left;refine⟨aaD _,λb=>?_⟩;left;show qV (ps:=dY x) (λi=>⟨[("addr",some (.str x)),("start",some (.int ((iK x i).st:Int))),("open_pos",some (X9 (iK x i).op)),("result",some (.ref b)),("pos",nj (dY x) (λx=>x.1) i),("ch",nj (dY x) (λx=>x.2) i)],[(b,.list ((iK x i).res.map .str))]⟩) (λzz=>True) trivial ?_ ?_
 ·left;exact⟨rfl,ye hK hd hc (by exact aab hx (aae rfl))⟩
 ·intro G' i a b' N hi _ hN;have hN:=hN trivial;rw[gG,aag]at hi;obtain⟨⟨j,ch⟩,hp,he⟩:=aaq.mp hi;cases he;have QN:(c.bc G').fx=aU:=aZ;have pO:nj (dY x) (λx=>x.1) (i+1)=some (.int (j:Int)):=(by rw[gG];change Option.map _ _=_;rw[aag,hp];rfl);have pP:nj (dY x) (λx=>x.2) (i+1)=some (.str ch):=(by rw[gG];change Option.map _ _=_;rw[aag,hp];rfl);simp only[pO,pP,rb hp]at hN;have hr:=Cp x i;have Uq:i<(gi x).length:=(aav.mp hp).1;generalize iK x i=q at hN hr⊢;obtain⟨st,op,res⟩:=q;unfold cG at hN;dsimp only at hN hr⊢;clear hi hp pO pP;refine⟨_,by k_extra "m.sets",?_⟩;show ah;left;cases QO:(ch=="\"")
  ·rw[QO]at hN;left;exact hN
  rw[QO,if_pos rfl]at hN;k_extra "m.ite";cases op with|none=>left;exact hN|some o=>
   dsimp only[X9]at hN⊢;left;cases gV:((st:Int) !=(o:Int))
   ·rw[gV]at hN;left;exact hN
   rw[gV]at hN;left;refine eY _ (some _) (some _) ⟨rfl,rfl,rfl,aab (jF _ _ _) (by change _≤1000000;exact aab hx (aae rfl)),?_⟩;left;show aS ⋯ (by rw[aaa];change _≤1000000;exact L6 hx hL Uq hr.1);left;simp only[if_true,aaj]at hN;exact hN
 intro _;rw[(by rw[gG,aaa]:(dY x).length=(gi x).length)];have hr:=Cp x (gi x).length;have hS:dz x=(glued "" ((iK x (gi x).length).res++if(iK x (gi x).length).st<x.length then[b8 x (some (iK x (gi x).length).st) none]else[])):=by unfold dz;rw[hq,if_pos rfl]
 generalize dz x=R at ay hS;generalize iK x (gi x).length=q at hr hS⊢;obtain⟨st,op,res⟩:=q;dsimp only at hr hS⊢;have fin:∀(rs:List Str) (loc:List (Str×Option AV)),At (("result":Str),some (AV.ref b)) loc→rs.length≤501→(∀y∈rs,y.length≤x.length)→R=glued "" rs→EB c (n+2) ⟨loc,[(b,.list (rs.map .str))]⟩ (dv.drop 6) Q' E':=by intro rs loc hl h1 h2 h3;show ah;left;show dM hl;left;have h5:rs.toArray.foldl (λa y=>a+y.length+("":Str).length) 0≤250500:=(by rw[List.foldl_toArray];show aab (Cq rs 500 (λy hy=>aab (h2 y hy) hx) 0 0);exact abe (abx (500+0) h1) _);show mo (ss:=rs) (.head _) (aab h5 '2') (zO h1 λy hy=>aab (h2 y hy) hx);exact ay _ _ _ _ .nil ⟨by rw[h3],rfl⟩
 left;show fV (aab hx '2');left;cases dc:decide ((st:Int)<(x.length:Int))
 ·k_extra "m.ite";refine xU (fin res _ ⋯ (by exact aab hr.1 (aab hL (aab hx (aae rfl)))) hr.2 ?_);have:¬(st<x.length):=(by have:=of_decide_eq_false dc;exact λq=>this (abS.mpr q));rw[hS];simp only[this,if_false,aaO]
 left;refine eY _ (some _) none ⟨rfl,rfl,rfl,aab (jF _ _ _) (by change _≤1000000;exact aab hx (aae rfl)),?_⟩;left;show aS ⋯ (by rw[aaa];change _≤1000000;exact aab hr.1 (aab hL (aab hx (aae rfl))));show xU;have key:=λl hl=>fin (res++[b8 x (some st) none]) l hl (by rw[aar];change _+1≤_;exact Mr hx hL hr.1) (λy hy=>by rcases aax.mp hy with hy|hy;exact hr.2 y hy;obtain rfl:y=_:=(by simpa using hy);exact jF _ _ _) (by have:(st<x.length):=(by have:=of_decide_eq_true dc;exact abS.mp this);rw[hS];simp only[this,if_true]);rw[aaj]at key;exact key _ ⋯
def sY:List (Nat×Str)→Int→Bool|[],o=>o==0|p::r,o=>if(p.2=="(")=true then sY r (o+1)else if(p.2==")")=true then(if decide (o-1<0)=true then false else sY r (o-1))else sY r o
def wU(x:Str):Bool:=sY (gi (dz x)) 0
def wV(o:Int)(p:Nat×Str):Int:=if(p.2=="(")=true then o+1 else if(p.2==")")=true then o-1 else o
def zP(y:Str)(i:Nat):Int:=((gi y).take i).foldl wV 0
theorem zQ(h:(gi x)[i]? =some p):zP x (i+1)=wV (zP x i) p:=by unfold zP;rw[aaK,h,ab4];rfl
theorem Fk(hx:x.length≤500)(hy:(dz x).length≤1000):FC K0 (n+4) 65 [.str x] [] [] (λv C=>v= .bool (wU x)∧C=[]) (λzz zz=>False):=by
 show aB (fx:=bq) i5 i4 i9;intro c Q' E' hK hd aZ hc ay aL bz;show ah;left;refine iF (w_strip (n:=n) hx) .nil hK hd (λv C I_=>?_) (λzz zz h=>h.elim);let hv hC:=eA I_;subst hv hC;generalize ZP:dz x=y at hy;left;have hlen:(dY y).length=(gi y).length:=by rw[gG,aaa]
 show qV (ps:=dY y) (λi=>⟨[("addr",some (.str y)),("opens",some (.int (zP y i))),("pos",nj (dY y) (λx=>x.1) i),("ch",nj (dY y) (λx=>x.2) i)],[]⟩) (λi=>sY ((gi y).drop i) (zP y i)=wU x) (by unfold wU;rw[ZP];rfl) ?_ ?_
 ·left;exact⟨rfl,ye hK hd hc hy⟩
 ·intro G' i a b' N hi hJ hN;rw[gG,aag]at hi;obtain⟨⟨j,ch⟩,hp,he⟩:=aaq.mp hi;cases he;have QN:(c.bc G').fx=bq:=aZ;have pO:nj (dY y) (λx=>x.1) (i+1)=some (.int (j:Int)):=(by rw[gG];change Option.map _ _=_;rw[aag,hp];rfl);have pP:nj (dY y) (λx=>x.2) (i+1)=some (.str ch):=(by rw[gG];change Option.map _ _=_;rw[aag,hp];rfl);have Hz:(gi y).drop i=(j,ch)::(gi y).drop (i+1):=(by rw[acy ((aav.mp hp).1:i<(gi y).length),(aav.mp hp).2]);rw[Hz]at hJ;simp only[pO,pP,zQ hp]at hN;generalize zP y i=o at hN hJ⊢;generalize(gi y).drop (i+1)=r at hN hJ;unfold wV at hN;unfold sY at hJ;dsimp only at hN hJ⊢;clear hi hp pO pP Hz;refine⟨_,by k_extra "m.sets",?_⟩;show ah;left;cases h1:(ch=="(")
  ·rw[h1]at hN hJ;left;cases h2:(ch==")")
   ·rw[h2]at hN hJ;left;exact hN hJ
   rw[h2]at hN hJ;left;cases h3:decide (o-1<0)
   ·rw[h3]at hJ;left;exact hN hJ
   rw[h3]at hJ;left;exact ay _ _ _ _ .nil ⟨congrArg AV.bool hJ,rfl⟩
  rw[h1]at hN hJ;left;exact hN hJ
 intro hJ;rw[hlen,List.drop_length]at hJ;rw[hlen];left;exact ay _ _ _ _ .nil ⟨congrArg AV.bool hJ,rfl⟩
end
section
open PySem.Builtin PySem.Builtin.Re
variable{w:Str}
def Cr:Array Nat:= #[14,17,4,1,1,21,9,0,604043296,1,0,0,0,0,0,8,4,0,13,14,21,9,0,604043296,1,0,0,0,0,0,8,4,0,1]
def sZ:Nat→Sre.M→Option Sre.M|0,_=>none|k+1,m=>if(m.runFor reTurnSteps).outcome.isSome then some (m.runFor reTurnSteps)else sZ k (m.runFor reTurnSteps)
def yf(w:Str):Sre.M:=Sre.forSearch Cr w.cps 0 0 (min (9223372036854775807:Int).toNat w.cps.size) false
def gH(w:Str):Option Bool:=match sZ 30 (yf w)with
 |some m=>match m.outcome with
  |some .matched=>some true
  |some .failed=>some false
  |_=>none
 |none=>none
section
variable{c:Cx} {n:Nat} {S:SS} {E:EP} {s:aas} {X:Cells}
theorem ZQ{E:Value→aas→Prop}{Q:α→aas→Prop}{p:Prop}[Decidable p]{a b:Sem α}(hp:p)(h:wpAny M A a Q E s):wpAny M A (if p then a else b) Q E s:=by rw[if_pos hp];exact h
theorem rc{E:Value→aas→Prop}{Q:Sre.M→aas→Prop}{m':Sre.M}(hQ:Q m' s):∀(k f:Nat) (m:Sre.M),sZ k m=some m'→k≤f→wpAny M A (reDrive f m) Q E s
 |0,_,_,h,_=>by cases h
 |k+1,0,_,_,h=>absurd h (Nat.not_succ_le_zero _)
 |k+1,f+1,m,h,hf=>by
  unfold sZ at h
  change wpAny M A (if(m.runFor reTurnSteps).outcome.isSome=true then pure (m.runFor reTurnSteps)else do rule "sre.turn";reDrive f (m.runFor reTurnSteps)) Q E s
  split at h
  ·rename_i h1
   rw[if_pos h1]
   cases h
   exact aal hQ
  ·rename_i h1
   rw[if_neg h1]
   exact aac (wpAny_rule (rc hQ k f _ h (acT hf)))
theorem zR(P:aao)(w:Str)(t:Tok):peek (K0 P) ⟨prog,P⟩ (reTarget "re.Pattern.search" "search" ⟨[.ref 197,.str w t],[]⟩)=some ⟨.ref 197,.str w t,Cr,w.cps,0,0,0,min (9223372036854775807:Int).toNat w.cps.size⟩:=by kernel_rfl
theorem Cs(P:aao)(w:Str)(t:Tok):peek (K0 P) ⟨prog,P⟩ (checkBoundCall "re.Pattern.search" ⟨[.ref 197,.str w t],[]⟩)=some ():=by kernel_rfl
theorem s0:entryFor table "re.Pattern.search"=some Builtin.«re.Pattern.search»:=entryFor_of_fast '3'
theorem lE:plainId "re.Pattern.search"=true:=by decide+kernel
theorem VV(P:aao):(K0 P).lookup 900=some {cls:=.type "builtin_function_or_method",data:=.fields #[.builtin "re.Pattern.search",.ref 197]}:=by kernel_rfl
set_option tactic.hygienic true in
theorem zS(hK:c.K=K0 c.w.params)(hw:gH w=some b)(h:∀r,(b=false→r= .none)→(b=true→∃a,r= .ref a)→Q r S):bM c n S (.ref 900) [.str w] Q E:=λf vs hf bx=>W.of λok X A s hA R=>by
 obtain rfl:=aj hf
 refine ak (cP bx) λv r1 hv=>?_
 obtain rfl:=r1
 refine eE (aD hv) λt r1=>?_
 obtain rfl:=r1
 have fg:(K0 c.w.params).In s.heap:=λa o e=>R.stays a o (ok.eH.fg a o (hK▸e))
 refine abH (codeAny_of_tree ?_)
 change wpAny _ A.in1 (callAny (.ref 900) ⟨[.str w t],[]⟩) _ _ s
 refine aac (wpAny_load (fg _ _ (VV _)) ?_)
 simp only[show(abQ "builtin_function_or_method"==abQ "method"||abQ "builtin_function_or_method"==abQ "builtin_function_or_method"||abQ "builtin_function_or_method"==abQ "method-wrapper")=true by decide,if_true]
 refine ZQ '2' ?_
 refine aac ((acf (M:=model prog c.w) fg (Cs c.w.params w t)).here ?_)
 refine aac (aal (aal ?_))
 refine⟨plainId_quiet lE _,acs s0 ?_⟩
 rw[acI lE]
 change wpAny _ A.in1 (reTarget "re.Pattern.search" "search" ⟨[.ref 197,.str w t],[]⟩>>=λt=>reAnswer t (Sre.forSearch t.code t.text t.groups t.pos t.lim false)) _ _ s
 refine aac ((acf (M:=model prog c.w) fg (zR c.w.params w t)).here ?_)
 change wpAny _ A.in1 (reRunToEnd (yf w)>>=λo=>match o with
  |some m=>do ret (←reNewMatch (.ref 197) (.str w t) 0 0 (min (9223372036854775807:Int).toNat w.cps.size) m)
  |none=>ret .none) _ _ s
 unfold gH at hw
 split at hw
 ·rename_i m hm
  have fin:∀(Q':Option Sre.M→aas→Prop) (E':Value→aas→Prop),(b=true→Q' (some m) s)→(b=false→Q' none s)→wpAny (model prog c.w) A.in1 (reRunToEnd (yf w)) Q' E' s:=by
   intro Q' E' h1 h2
   unfold reRunToEnd
   refine aac (rc ?_ 30 (2^64) (yf w) hm '2')
   refine aac (wpAny_forIn_list _ (λzz zz s'=>s'=s) _ (λx rest u s' hs=>?_) (λu s' hs=>?_) _ _ rfl)
   ·subst hs
    split
    ·exact aac (wpAny_rule (aal rfl))
    ·exact aal rfl
   ·subst hs
    split at hw
    ·rename_i lR
     rw[lR]
     cases hw
     exact aal (h1 rfl)
    ·rename_i lR
     rw[lR]
     cases hw
     exact aal (h2 rfl)
    ·cases hw
  refine aac (fin _ _ (λhb=>?_) λhb=>?_)
  ·change wpAny _ A.in1 (reNewMatch (.ref 197) (.str w t) 0 0 (min (9223372036854775807:Int).toNat w.cps.size) m>>=λv=>ret v) _ _ s
   change wpAny _ A.in1 ((newTuple [abJ m.start,abJ m.handed]>>=λtp=>newFields "re.Match" [.str w t,.ref 197,abJ ((0:Nat):Int),abJ ((min (9223372036854775807:Int).toNat w.cps.size:Nat):Int),abJ m.lastindex,tp])>>=λv=>ret v) _ _ s
   refine aac (aac (wpAny_newTuple ?_ (by change 2≤ac_;decide)))
   refine abI (aal ?_) (by size_fits)
   refine⟨S,?_,h _ (λq=>by rw[hb]at q;cases q) λzz=>⟨_,rfl⟩⟩
   exact R.keeps λb o e=>aap _ (aap _ e)
  ·exact aal ⟨S,R,h _ (λzz=>rfl) λq=>by rw[hb]at q;cases q⟩
 ·cases hw
theorem Fl(P:aao):peek (K0 P) ⟨prog,P⟩ (keeperOf (.ref 900))=some .machine:=by kernel_rfl
theorem Ct{id:Str}{pos:Pos}(hK:c.K=K0 c.w.params)(hk:∀P,peek (K0 P) ⟨prog,P⟩ (keeperOf (.ref a))=some .machine)(h:EE c n S (.Name id p) (λf S1=>f= .ref a∧EA c n S1 args (BJ c n f Q E) E) E) (hs:autoParam (args.all aV=true) apR):EE c n S (.Call (.Name id p) args [] pos) Q E:=.i λok X A s hA R=>wpAny_Call_NameR (h.st ok X A s hA R λf s1 S1 R1 h8=>eA h8 λk1 k2=>by obtain rfl:=aj k1;have me:=bF (pos:=pos) (env:=c.env) hs;refine callWith_of (P:=λh=>(K0 c.w.params).In h) (by rw[me];rfl:((backTo pos (aci args c.env)).any (λx=>x.1)||([]:List (Option Str×Sem Value)).any (λx=>x.1.isNone))=false) (λhh X=>⟨.machine,.inr (.inl rfl),acf (M:=model prog c.w) X (hk _)⟩) (bV me (aau ((k2 pos).run ok X A s1 hA R1) (λvs s2 Jb=>by obtain⟨S2,R2,k⟩:=Jb;exact⟨hK▸fQ ok R2,(k _ vs rfl rfl).run ok X A s2 hA R2⟩) λzz zz x=>x)))
def hO(w:Str):Str:=if w.length=0 then"''"else if gH w=some false then w else"'"++ada w "'" "'\"'\"'"++"'"
theorem Fm(hw:w.length≠0→(gH w).isSome=true)(hl:w.length≤100)(hr:(ada w "'" "'\"'\"'").length≤1000):FC K0 (n+1) 907 [.str w] [] [] (λv C=>v= .str (hO w)∧C=[]) (λzz zz=>False):=by
 show aB (fx:=lq) Ck Cj Cm;intro c Q' E' hK hd aZ hc ay aL bz;show ah;left;show rT (aab hl '2');unfold hO at ay;cases h0:(w.length !=0)
 ·left;refine ay _ _ _ _ .nil ⟨?_,rfl⟩;rw[if_pos (by simpa using h0)]
 have X_:¬w.length=0:=by simpa using h0
 rw[if_neg X_]at ay;let b hb:=eE (Option.isSome_iff_exists.mp (hw X_));rw[hb]at ay;left;show Ct hK Fl;k_extra "m.name";refine⟨rfl,?_⟩;left;let r h1 h2:=zS hK hb;cases b with|false=>obtain rfl:=h1 rfl;left;exact ay _ _ _ _ .nil ⟨by rw[if_pos rfl],rfl⟩|true=>
  let a r1:=eE (h2 rfl);subst r1;rw[if_neg '2']at ay;repeat((fail_if_success (with_reducible refine kr '2' ?_));k_extra "m.s1")
  show kr '2';k_extra "m.name";refine⟨_,rfl,?_,?_⟩;change w.length+(w.length+1)*5≤16777216;exact NY hl;have e1:("'":Str).length=1:=rfl;show cz ?_;change _≤ac_;rw[e1];exact aab (abe hr 1) '2';left;show cz ?_;rw[(λa b=>by change(a.cps++b.cps).size=_;rw[Array.size_append];rfl:∀a b:Str,(a++b).length=a.length+b.length),e1];exact aab (ab8 (abe hr 1) 1) '2';exact ay _ _ _ _ .nil ⟨rfl,rfl⟩
theorem QP(P:aao):sr (K0 P) 898 894:=by refine IP _ _ _ _ _ _ _ _ _ ⟨(by kernel_rfl:(K0 P).lookup 898=some (Top.Il P)),rfl,rfl,rfl,rfl,rfl,rfl,by decide⟩
end
end
section
open PySem.Builtin PySem.Builtin.Re PySem.Builtin.Str
def Fn:Scope:=match pN lm 0 with
 | .Return (some (.Call _ [.GeneratorExp _ _ sc _] _ _)) _=>sc
 |_=>default
abbrev HA:Fx:={cn:="<genexpr>",cs:=Fn,a:=0,cd:=.none,gl:=[("quote",.ref 907)]}
theorem QQ(P:aao):bH (K0 P) HA:=dN
theorem ZR(P:aao):XD (K0 P):=(ba 4 (Top.k4 P) ⟨by kernel_rfl,by decide,by kernel_rfl,rfl,rfl,rfl⟩)
def Ki(k:NameKind)(l:List (Str×NameKind)):Bool:=l.all λx=>x.2 !=k
theorem re{k:NameKind}{l:List (Str×NameKind)}(h:Ki k l=true):∀x∈l,x.2≠k:=λx hx q=>by have:=aaZ.mp h x hx;rw[q]at this;cases k<;>cases this
theorem Kj{xs:List Str}(hx:∀w∈xs,(w.length≠0→(gH w).isSome=true)∧w.length≤100∧(ada w "'" "'\"'\"'").length≤1000)(hlen:xs.length≤1000)(hz:((xs.map hO).toArray.foldl (·+·.length+(" ":Str).length) 0)≤lim):FC K0 (n+4) 899 [.ref l] [] [(894,.obj aE),(l,.list (xs.map .str))] (λv C=>v= .str (glued " " (xs.map hO))∧C=[(894,.obj aE),(l,.list (xs.map .str))]) (λzz zz=>False):=by
 show fP (fx:=eT) ql qk qt;intro c Q' E' hK hd aZ hc bl ay aL bz;show ah;show xZ;show wC (n:=n+1) (K0:=K0) (fxg:=HA) (cc:=898) (P:=894) (la:=l) (xs:=xs) (q:=hO) hK hd hc (by rw[bl]) QP ZR (.head _) '3' (re '3') (re '3') '3' '3' '3' '2' '3' rfl QQ ⋯ (.tail _ (.head _)) hlen ?_ hz
 ·intro cg ZS rL Uo QN v hv Zc;left;show iF (Fm (n:=n) (hx v hv).1 (hx v hv).2.1 (hx v hv).2.2) .nil ZS rL ?_;intro r C Jc;let h1 r1:=eA Jc;subst r1;exact⟨h1,rfl⟩;exact λzz zz h=>h.elim
 exact ay _ _ _ _ '1' ⟨rfl,rfl⟩
end
section
open PySem.Builtin PySem.Builtin.Str
def ft(x:Str):Str:=if wU x=true then x else"('', '')"
theorem Fo{ls:List Str}(hn:ls.length≤1000)(hx:∀x∈ls,x.length≤500∧(dz x).length≤1000):FC K0 (n+5) 72 [.ref l] [] [(l,.list (ls.map .str))] (λv C=>∃b,v= .ref b∧C=[(b,.list ((ls.map ft).map .str)),(l,.list (ls.map .str))]) (λzz zz=>False):=by
 show aB (fx:=bt) gX gW g9;intro c Q' E' hK hd aZ hc ay aL bz;show ah;left;refine⟨aaD _,λb=>?_⟩;left;show eI (xs:=ls.map .str) (l:=l) (λi S=>∃a,S=⟨[("email_header_fields",some (.ref l)),("accepted_values",some (.ref b)),("v",a)],[(b,.list (((ls.map ft).take i).map .str)),(l,.list (ls.map .str))]⟩) ?_ ?_ ?_
 ·left;exact⟨rfl,by k_extra "m.mem",none,rfl⟩
 ·intro i;let a:=Be;k_extra "m.mem"
 ·intro i y S1 N hy;revert S1;let a:=Be;intro hN;rw[aag]at hy;let x VW r2:=ak (aaq.mp hy);subst r2;have hi:i<ls.length:=(aav.mp VW).1;have h:=hx x (aaA VW);have hN:=hN ⟨[("email_header_fields",some (.ref l)),("accepted_values",some (.ref b)),("v",some (.str (ft x)))],[(b,.list (((ls.map ft).take i).map .str++[.str (ft x)])),(l,.list (ls.map .str))]⟩ ⟨_,by rw[aaK,aag,VW,aaj];rfl⟩;have ln:(((ls.map ft).take i).map AV.str).length≤lim:=(by rw[aaa,ado,aaa];change _≤1000000;exact Oi hn);generalize((ls.map ft).take i).map AV.str=acc at hN ln⊢;refine⟨_,by k_extra "m.at",?_⟩;show ah;left;refine iF (Fk (n:=n) h.1 h.2) .nil hK hd (λv C VX=>?_) (λzz zz h=>h.elim);let hv hC:=eA VX;subst hv hC;dsimp only[aa0];unfold ft at hN;cases QO:wU x
  ·rw[QO]at hN;left;show aS ⋯ ln;left;exact hN
  rw[QO]at hN;left;show aS ⋯ ln;left;exact hN
 let a:=Be;left;refine ay _ _ [(b,_),(l,_)] _ '1' ⟨b,rfl,?_⟩;rw[aaa,abd (by rw[aaa];exact aak _)]
end
section
open PySem.Builtin PySem.Builtin.Str
theorem Fp{k:Int}{w:Str}(h1:k≤1099511627776)(h2: -1099511627776≤k):FC K0 (n+1) 211 [.int k,.str w] [] [] (λv C=>v= .int k∧C=[]) (λzz zz=>False):=by show aB (fx:=jE) zJ zI zL;intro c Q' E' hK hd aZ hc ay aL bz;show ah;left;show qe;left;show nI;left;have e1:decide (k>1099511627776)=false:=decide_eq_false (by exact Int.not_lt.mpr h1);have e2:decide (k< -1099511627776)=false:=decide_eq_false (by exact Int.not_lt.mpr h2);rw[e1];left;refine⟨_,rfl,?_⟩;left;rw[e2];left;exact ay _ _ _ _ .nil ⟨rfl,rfl⟩
theorem QR{x:Addr}{p:AV}{b:Str}:FC K0 (n+1) 529 [.ref x] [] [(x,.inst 745 d),(d,.dict (mJ nl (.str b) p) k)] (λv C=>v= .none∧C=[(x,.inst 745 d),(d,.dict (mJ nl (.str b) p) k)]) (λzz zz=>False):=by show aB (fx:=b7) jP jO jR;intro c Q' E' hK hd aZ hc ay aL bz;show ah;left;exact aL _ [(x,_),(d,_)] _ '1' ⟨rfl,rfl⟩
end
section
open PySem.Builtin PySem.Builtin.Str
theorem mM(x:Str){a b:Nat}(tQ:a≤b)(hb:b≤x.length):b8 x (some (a:Int)) (some (b:Int))=⟨((x.cps.toList.drop a).take (b-a)).toArray⟩:=by
 unfold b8;split;rename_i h1;have h1:(strSliceIndices (some (a:Int)) (some (b:Int)) 1 x.length).length=x.length:=by simpa using h1
 rw[StrLaws.strSliceIndices_plain tQ hb,aaa,abA]at h1;have ha:a=0:=by exact N8 tQ hb h1
 have Ju:b=x.length:=by exact N9 h1 ha
 subst ha;have e:(x.cps.toList.drop 0).take (b-0)=x.cps.toList:=by rw[List.drop_zero,Ju];exact abd (aak _)
 rw[e];rw[(StrLaws.sliced_plain x tQ hb)]
def lF(s:Str)(p:Nat):Str:=⟨((s.cps.toList.drop p).take 1).toArray⟩
theorem yg(s:Str)(p:Nat)(h:p<s.length):b8 (lF s p++" ") none (some (-1))=lF s p:=by
 have hl:(s.cps.toList.drop p).take 1=[s.cps[p]'h]:=by rw[acy (by exact h)];rfl
 unfold lF;rw[hl];generalize s.cps[p]=c;kernel_rfl
theorem Fq{a1:AV}:∀(s:aas) (P:aao),(K0 P).In s.heap→∀pos kws,pos.map ab=[a0,a1]→kws.map (λp=>(p.1,ab p.2))=[]→∃binds,ac9 s (eJ P) ⟨pos,kws⟩ binds∧e7 dt binds [("self",some a0),("size",some a1),("start",none),("stop",none)]:=by intro s P fg pos kws hp hk;obtain rfl:=kws_nil hk;let v0 v1 r2 r3 r4:=bG (fR hp);subst r2;subst r3;subst r4;refine⟨[("self",v0),("size",v1)],λM A E Q hq=>(acf (M:=M) fg (by kernel_rfl:peek (K0 P) ⟨M.prog,M.w.params⟩ (adb (eJ P) ⟨[v0,v1],[]⟩)=some ([("self",v0),("size",v1)]:List (Str×Value)))).here hq,dB '3' '3' '3'⟩
theorem Kk{x:Addr}{p:Nat}(hs:s.length≤100000)(hp:p≤s.length):FC K0 (n+2) 691 [.ref x,.int 1] [] [(x,.inst 745 d),(d,.dict (mJ nl (.str s) (.int p)) k)] (λv C=>v= .str (lF s p)∧C=[(x,.inst 745 d),(d,.dict (mJ nl (.str s) (.int ((if p<s.length then p+1 else p:Nat)))) k)]) (λzz zz=>False):=by
 show aB (fx:=dt) mF mD Fq;intro c Q' E' hK hd aZ hc ay aL bz;show ah;left;refine iF (Fp (n:=n) '2' '2') .nil hK hd (λv C ZT=>?_) (λzz zz h=>h.elim);let hv hC:=eA ZT;subst hv hC;dsimp only[aa0];left;refine iF (QR (n:=n) (x:=x) (d:=d) (nl:=nl) (p:=.int p) (b:=s) (k:=k)) '1' hK hd (λv C TH=>?_) (λzz zz h=>h.elim);let hv hC:=eA TH;subst hv hC;dsimp only[aaT,aa0];left;show fV (aab hs '2');left;by_cases h:p<s.length
 ·have e:decide ((p:Int)≥(s.length:Int))=false:=decide_eq_false (by exact Int.not_le.mpr (abS.mpr h));rw[e];rw[if_pos h]at ay;left;have fin:∀(q:Nat),q=p+1→EB c (n+1) ⟨[("self",some (.ref x)),("size",some (.int 1)),("start",some (.int p)),("stop",some (.int q))],[(x,.inst 745 d),(d,.dict (mJ nl (.str s) (.int p)) k)]⟩ (iV.drop 7) Q' E':=(by rintro q rfl;show ah;left;have el:(lF s p).length=1:=(by change((s.cps.toList.drop p).take 1).toArray.size=1;rw[acK,ado,aa9,aaQ];exact ac5 (by change 1≤s.length-p;exact abY h));have e1:b8 s (some (p:Int)) (some ((p+1:Nat):Int))=lF s p:=(by rw[mM s (aa2 p) h];unfold lF;rw[show p+1-p=1 by exact Nat.add_sub_cancel_left _ _]);refine eY _ (some _) (some _) ⟨rfl,rfl,rfl,?_,?_⟩;rw[e1,el];decide;rw[e1];left;show cz (by rw[el];decide);left;refine⟨1,rfl,_,none,some (-1),rfl,rfl,rfl,?_,?_⟩;rw[yg s p h,el];decide;rw[yg s p h];exact ay _ _ [(x,_),(d,_)] _ '1' ⟨rfl,rfl⟩);cases h2:decide ((p:Int)+1<(s.length:Int))
  ·have:s.length=p+1:=(by have:=of_decide_eq_false h2;exact aaI (aa8 λq=>this (abS.mpr q)) h);repeat(first|exact fin _ this|k_extra "m.s1")
  repeat(first|exact fin (p+1) rfl|k_extra "m.s1")
 have e:decide ((p:Int)≥(s.length:Int))=true:=decide_eq_true (by exact Int.ofNat_le.mpr (aa8 h));rw[e];rw[if_neg h]at ay;left;refine ay _ _ [(x,_),(d,_)] _ '1' ⟨?_,rfl⟩;unfold lF;rw[adw (by rw[aaQ];exact aa8 h)];rfl
end
section
open PySem.Builtin PySem.Builtin.Str
variable{p:Nat}
abbrev Kl:List (Str×Addr×Nat):=[("node",92,0),("npredecessors",93,1),("successors",94,2)]
theorem Ya(P:aao):Kl.all (λp=>m8 (K0 P) 91 p.1 p.2.1 p.2.2&&qT (K0 P) 91 p.1 p.2.1 p.2.2)=true:=by kernel_rfl
theorem Fs{nm:Str}(hK:c.K=K0 c.w.params)(h:At (nm,p,i) Kl):m8 c.K 91 nm p i=true:=by rw[hK];exact(adP.mp (aaZ.mp (Ya c.w.params) _ h.mem)).1
theorem Km{nm:Str}(hK:c.K=K0 c.w.params)(h:At (nm,p,i) Kl):qT c.K 91 nm p i=true:=by rw[hK];exact(adP.mp (aaZ.mp (Ya c.w.params) _ h.mem)).2
theorem Yb(P:aao):(zv (K0 P) 188 "add" 138&&zv (K0 P) 188 "done" 171&&fnIn (K0 P) 138&&fnIn (K0 P) 171)=true:=by kernel_rfl
structure Nd where
 nm:Str
 x:Addr
 d:Addr
 l:Addr
 np:Int
 su:List Str
abbrev Sm(nm:Str)(np:Int)(l:Addr):List (Option AV):=[some (.str nm),some (.int np),some (.ref l)]
abbrev yh(r:Nd):Cells:=[(r.x,.du 91 r.d (Sm r.nm r.np r.l)),(r.d,.dict [] 0),(r.l,.list (r.su.map .str))]
def bC:List Nd→Cells|[]=>[]|r::t=>yh r++bC t
theorem Ft{x:Addr}{nm:Str}:FC K0 (n+1) 87 [.ref x,.str nm] [] [(x,.inst 91 d),(d,.dict [] 0)] (λv C=>∃l,v= .none∧C=yh ⟨nm,x,d,l,0,[]⟩) (λzz zz=>False):=by
 show aB (fx:=bS) i7 i6 ja;intro c Q' E' hK hd aZ hc ay aL bz;show W.JO (a:=x) Jv (λo=>zt);refine ah (BX ?_);iterate 2 k_extra "m.ee"
 show pA ⋯ ⋯ (Km hK ⋯) (by with_unfolding_all rfl);refine ah (BX ?_);iterate 2 k_extra "m.ee"
 show pA ⋯ ⋯ (Km hK ⋯) (by with_unfolding_all rfl);refine ah (BX ?_);left;refine⟨aaD _,λl=>?_⟩;k_extra "m.name";show pA ⋯ ⋯ (Km hK ⋯) (by with_unfolding_all rfl);left;show aL _ [(x,_),(d,_),(l,_)] _ '1';exact⟨l,rfl,rfl⟩
theorem zT{E:EP}(hK:c.K=K0 c.w.params)(hd:c.hd=none)(h:∀x d l,Q (.ref x) ⟨S.loc,yh ⟨s,x,d,l,0,[]⟩++S.cells⟩):bM c (n+2) S (.ref 91) [.str s] Q E:=λv vs hv bx=>by obtain rfl:=aj hv;refine kq (K0:=K0) (m:=n+1) (C:=91) (fI:=87) (by rw[hK];kernel_rfl) (by rw[hK];kernel_rfl) (by rw[hK];kernel_rfl) hK hd (λx dx=>(FC.frame (C:=[(x,.inst 91 dx),(dx,.dict [] 0)]) (D:=S.cells) (Ft (n:=n) (x:=x) (d:=dx) (nm:=s))).mono (aak _) (λzz zz z=>z) λzz zz h8=>ak h8 λz0 z z2=>z) ?_ ?_ bx rfl (aak _);intro x dx v C' TY;obtain⟨C1,⟨l,h1,h2⟩,h3⟩:=TY;subst h2 h3;exact⟨h1,h x dx l⟩;exact λzz zz zz zz z=>z.elim
end
variable{ns:List Nd}
section
open PySem.Builtin PySem.Builtin.Str
variable{x:Addr} {f:Nd→Nd} {r:Nd}
def ff(ns:List Nd):List (Str×AV):=ns.map λr=>(r.nm,.ref r.x)
def jc(s:Str):List Nd→Option Nd|[]=>none|r::t=>if s=r.nm then some r else jc s t
def fe(f:Nd→Nd)(s:Str):List Nd→List Nd|[]=>[]|r::t=>if s=r.nm then f r::t else r::fe f s t
def s_(v:Int)(r:Nd):Nd:={r with np:=v}
def QT(v:List Str)(r:Nd):Nd:={r with su:=v}
theorem ta(s:Str):∀ns:List Nd,dU (ff ns) s=(jc s ns).map λr=>.ref r.x:=by intro l0;induction l0 with|nil=>exact rfl|cons r t ih=>change(if _ then _ else dU (ff t) s)=_;unfold jc;by_cases h:s=r.nm;rw[if_pos h.symm,if_pos h];rfl;rw[if_neg (λq=>h q.symm),if_neg h];exact ih
theorem Fu:∀{ns:List Nd},jc s ns=none→n5 (ff ns) s (.ref x)=ff ns++[(s,.ref x)]:=by intro l0;induction l0 with|nil=>exact λzz=>rfl|cons r t ih=>intro h;unfold jc at h;split at h;cases h;rename_i q;change(if _ then _ else _::n5 (ff t) s (.ref x))=_;rw[if_neg (λz=>q z.symm),ih h];rfl
theorem Cu(ns:List Nd)(r:Nd):ff ns++[(r.nm,.ref r.x)]=ff (ns++[r]):=by unfold ff;rw[aaj];rfl
theorem tb(ns:List Nd):(ff ns).length=ns.length:=aaa _
theorem jG(hf:∀r,(f r).nm=r.nm∧(f r).x=r.x):∀ns:List Nd,ff (fe f s ns)=ff ns:=by intro l0;induction l0 with|nil=>exact rfl|cons r t ih=>unfold fe;split;change(_,_)::ff t=(_,_)::ff t;rw[(hf r).1,(hf r).2];change(_,_)::ff (fe f s t)=(_,_)::ff t;rw[ih]
theorem eW:∀{ns:List Nd},jc s ns=some r→r∈ns∧r.nm=s:=by intro l0;induction l0 with|nil=>exact λh=>nomatch h|cons a t ih=>intro h;unfold jc at h;split at h;rename_i q;cases h;exact⟨.head _,q.symm⟩;have:=ih h;exact⟨.tail _ this.1,this.2⟩
theorem vf{p:Addr×AO}(hp:At p (yh r)):∀{ns:List Nd},r∈ns→At p (bC ns):=by
 intro l0;induction l0 with
 |nil=>intros;first|contradiction|(rename_i h;cases h)|nofun
 |cons a t ih=>intro h;rcases aai.mp h with rfl|h;exact At.left hp;exact At.right (l:=yh a) (ih h)
theorem Cv{o o':AO}(hu:aI a o o' (yh r) (yh (f r))):∀{ns:List Nd},jc s ns=some r→aI a o o' (bC ns) (bC (fe f s ns)):=by intro l0;induction l0 with|nil=>exact λh=>nomatch h|cons b t ih=>intro h;unfold jc at h;unfold fe;split at h;rename_i q;cases h;rw[if_pos q];exact hu.left;rename_i q;rw[if_neg q];exact aI.right (l:=yh b) (ih h)
theorem Fv:∀ns:List Nd,aq (yh r) (bC (ns++[r])) (bC ns):=by intro l0;induction l0 with|nil=>exact bZ|cons a t ih=>change aq _ (yh a++bC (t++[r])) (yh a++bC t);exact bR (bR (bR (ih)))
abbrev Ar(x dx m:Addr)(rn po nf:AV)(ns:List Nd)(ep:Nat):Cells:=[(x,.inst 188 dx),(dx,.dict (kI (.ref m) rn po nf) 4),(m,.map (ff ns) ep)]
theorem zU{m:Addr}(hz:ns.length<1000):FC K0 (n+3) 131 [.ref x,.str s] [] (Ar x dx m rn po nf ns ep) (λv C=>(∃r,jc s ns=some r∧v= .ref r.x∧C=Ar x dx m rn po nf ns ep)∨(jc s ns=none∧∃y d l fU,v= .ref y∧C=yh ⟨s,y,d,l,0,[]⟩++Ar x dx m rn po nf (ns++[⟨s,y,d,l,0,[]⟩]) fU)) (λzz zz=>False):=by
 show aB (fx:=aJ) dP dO dR;intro c Q' E' hK hd aZ hc ay aL bz;show ah;left;show uu;left;show kO '0';rw[ta];cases hf:jc s ns with|some r=>refine⟨_,by k_extra "m.at",?_⟩;left;show ay _ _ [(x,_),(dx,_),(m,_)] _ '1';exact .inl ⟨r,hf,rfl,rfl⟩|none=>
  refine⟨_,by k_extra "m.at",?_⟩;left;show qc;left;let y d l:=zT hK hd;dsimp only[aaT,aa0];show Jf;left;let fU:=wm (ep:=ep) (cells':=λfU=>yh ⟨s,y,d,l,0,[]⟩++Ar x dx m rn po nf (ns++[⟨s,y,d,l,0,[]⟩]) fU) (λfU=>?_) (by rw[tb];exact hz)
  ·rw[Fu hf,show ff ns++[(s,AV.ref y)]=ff (ns++[⟨s,y,d,l,0,[]⟩])from Cu ns ⟨s,y,d,l,0,[]⟩];dsimp only[aaT,aa0];k_extra "m.at"
  show cA ⋯;left;show ay _ _ (yh _++Ar x dx m rn po nf (ns++[⟨s,y,d,l,0,[]⟩]) _) [] bZ;exact .inr ⟨hf,y,d,l,_,rfl,rfl⟩
end
section
open PySem.Builtin PySem.Builtin.Str
variable{x:Addr} {r:Nd} {f:Nd→Nd}
theorem Rp.pushX{X:Cells}{s:aas}{o:Obj}(R:Rp c (S.ext X) s)(hf:o.isFreed=false)(hc:p0 c.w ao o):Rp c (S.ext ((s.heap.objs.size,ao)::X)) {s with heap:=s.heap.push o}:=Rp.j3 (C:=[]) (C':=[(s.heap.objs.size,ao)]) R (λb o zz e=>aap _ e) (λp hp=>by obtain rfl:=aaL.mp hp;exact⟨_,aaG _ hf,hc⟩) (by simp) (λa ha=>by obtain rfl:a=s.heap.objs.size:=(by simpa using ha);exact .inr (aak _)) (aak _)
def QU(fd:aaP):Arg:=fd.params.vararg.getD ⟨"",none,⟨0,0,0,0⟩⟩
theorem Cw(hz:ps.length≤1000)(c:Cx)(S:SS)(X:Cells)(A:ads)(s1:aas)(pos:List Value)(kws:List (Str×Value))(ok:c.Ok)(hK:c.K=K0 c.w.params)(hp:pos.map ab= .ref x:: .str s::ps.map .str)(hk:kws.map (λp=>(p.1,ab p.2))=[])(R:Rp c (S.ext X) s1):wpAny (model prog c.w) A (adb (b6 c.w.params) ⟨pos,kws⟩) (λbinds s1=>∃D loc,Rp c (S.ext (D++X)) s1∧e7 bb binds loc∧∃t:Addr,D=[(t,.tup (ps.map .str))]∧loc=([("self",some (.ref x)),("node",some (.str s)),("predecessors",some (.ref t)),("nodeinfo",none),("pred",none),("pred_info",none)]:List (Str×Option AV))) nD s1:=by obtain rfl:=kws_nil hk;obtain⟨v0,pos,rfl,h0,hp⟩:=abK.mp hp;obtain⟨v1,pos,rfl,h1,hp⟩:=abK.mp hp;show qX (names:=["self","node"]) (va:=QU (b6 c.w.params)) '3' '3' '3' '3' '3' '3' '2' (abm _ _) ?_;have:=congrArg aaV hp;simp only[aaa]at this;change pos.length+1+1≤1000000;exact NE hz this;refine ba [(s1.heap.objs.size,.tup (ps.map .str))] _ ⟨R.pushX rfl (ba _ _ ⟨rfl,?_⟩),dB (loc:=[("self",some (ab v0)),("node",some (ab v1)),("predecessors",some (.ref s1.heap.objs.size)),("nodeinfo",none),("pred",none),("pred_info",none)]) '3' '3' '3',s1.heap.objs.size,rfl,by rw[h0,h1]⟩;rw[adi];exact hp
abbrev Kn(x:Addr)(s:Str)(t:Addr)(a b d:Option AV):List (Str×Option AV):=[("self",some (.ref x)),("node",some (.str s)),("predecessors",some (.ref t)),("nodeinfo",a),("pred",b),("pred_info",d)]
theorem wW{m r:Addr}(hz:ps.length≤1000):FC K0 (n+3) 138 (.ref x:: .str s::ps.map .str) [] (Ar x dx m (.ref r) po nf ns ep) (λv C=>False) (λe C=>e= .type "ValueError"∧C=Ar x dx m (.ref r) po nf ns ep):=by show FC.pr (fx:=bb) (B:=λD loc=>∃t:Addr,D=[(t,.tup (ps.map .str))]∧loc=Kn x s t none none none) dE dD (Cw hz);intro c D loc Q' E' T0;let t r1 r2:=ak T0;subst r1;subst r2;intro hK hd aZ hc bl ay aL bz;show ah;dsimp only[aaT,aa0];left;show ia ack acd hd;k_extra "m.name";refine⟨rfl,?_⟩;left;refine⟨by decide,bz _ _ [(x,_),(dx,_),(m,_)] _ '1' ?_⟩;exact⟨rfl,rfl⟩
abbrev G:=List (Str×Int×List Str)
def er(ns:List Nd):G:=ns.map λr=>(r.nm,r.np,r.su)
def db(s:Str):G→Option (Int×List Str)|[]=>none|r::t=>if s=r.1 then some r.2 else db s t
def dS(f:Int×List Str→Int×List Str)(s:Str):G→G|[]=>[]|r::t=>if s=r.1 then(r.1,f r.2)::t else r::dS f s t
def kE(s:Str)(g:G):G:=if(db s g).isSome then g else g++[(s,0,[])]
theorem pQ(s:Str):∀ns:List Nd,db s (er ns)=(jc s ns).map λr=>(r.np,r.su):=by intro l0;induction l0 with|nil=>exact rfl|cons r t ih=>change(if _ then _ else db s (er t))=_;unfold jc;split;rfl;exact ih
theorem pR(h1:(f r).nm=r.nm)(h2:((f r).np,(f r).su)=f' (r.np,r.su)):∀{ns:List Nd},jc s ns=some r→er (fe f s ns)=dS f' s (er ns):=by intro l0;induction l0 with|nil=>exact λh=>nomatch h|cons a t ih=>intro h;unfold jc at h;unfold fe;change _=(if _ then _ else _::dS f' s (er t));split at h;rename_i q;cases h;rw[if_pos q,if_pos q,←h2];change(_,_,_)::er t=_;rw[h1];rfl;rename_i q;rw[if_neg q,if_neg q,←ih h];rfl
theorem vg:∀ns:List Nd,(fe f s ns).length=ns.length:=by intro l0;induction l0 with|nil=>exact rfl|cons r t ih=>unfold fe;split;rfl;change _+1=_+1;rw[ih]
theorem Cy(hr:s=r.nm):∀{ns:List Nd},jc s ns=none→jc s (ns++[r])=some r:=by intro l0;induction l0 with|nil=>exact λzz=>if_pos hr|cons a t ih=>intro h;unfold jc at h;change(if _ then _ else jc s (t++[r]))=_;split at h;cases h;rename_i q;rw[if_neg q];exact ih h
theorem Fw(hf:∀r,(f r).nm=r.nm):∀{ns:List Nd},jc s ns=some r→jc s (fe f s ns)=some (f r):=by intro l0;induction l0 with|nil=>exact λh=>nomatch h|cons a t ih=>intro h;unfold jc at h;unfold fe;split at h;rename_i q;cases h;rw[if_pos q];exact if_pos (by rw[hf];exact q);rename_i q;rw[if_neg q];change(if _ then _ else _)=_;rw[if_neg q];exact ih h
theorem bD{l:Cells}(h:aq C l D):∀pre:Cells,aq C (pre++l) (pre++D):=by intro l0;induction l0 with|nil=>exact h|cons _ t ih=>exact bR (ih)
theorem gj{L:Cells}:∀C:Cells,aq C (C++L) L:=by intro l0;induction l0 with|nil=>exact .nil|cons _ t ih=>exact .cons .head (ih)
theorem on{A B l D1:Cells}(h:aq A l D1)(h2:aq B D1 D):aq (A++B) l D:=by induction h with|nil=>exact h2|cons h1 _ ih=>exact .cons h1 (ih h2)
theorem lG{E:EP}{m:Addr}(pre:Cells)(hK:c.K=K0 c.w.params)(hd:c.hd=none)(hz:ns.length<1000)(hS:S.cells=pre++(Ar x dx m rn po nf ns ep++bC ns))(h:∀de fU r,jc s de=some r→er de=kE s (er ns)→de.length≤ns.length+1→Q (.ref r.x) ⟨S.loc,pre++(Ar x dx m rn po nf de fU++bC de)⟩) (hn:autoParam (3≤n) apM):bM c n S (.ref 131) [.ref x,.str s] Q E:=by let k r1:=eE (Nat.exists_eq_add_of_le' hn);subst r1;refine aH (zU (n:=k) hz) (by rw[hS];exact bD (gj _) pre) hK hd (λv C hv=>?_) (λzz zz h=>h.elim);have ht:=pQ s ns;rcases hv with⟨r,hf,rfl,rfl⟩|⟨hf,y,d,l,fU,rfl,rfl⟩;refine⟨_,bD (gj _) pre,h ns ep r hf ?_ (aa2 _)⟩;unfold kE;rw[ht,hf];rfl;refine⟨pre++(Ar x dx m rn po nf (ns++[⟨s,y,d,l,0,[]⟩]) fU++bC (ns++[⟨s,y,d,l,0,[]⟩])),on (bD (bD (Fv ns) _) pre) (bD (gj _) pre),h (ns++[⟨s,y,d,l,0,[]⟩]) fU ⟨s,y,d,l,0,[]⟩ (Cy (s:=s) (r:=⟨s,y,d,l,0,[]⟩) rfl hf) ?_ (aaz aar)⟩;unfold kE;rw[ht,hf];unfold er;rw[aaj];rfl
theorem vh(h:r∈ns):At (r.x,.du 91 r.d (Sm r.nm r.np r.l)) (bC ns):=vf .head h
theorem nP(h:r∈ns):At (r.d,.dict [] 0) (bC ns):=vf (.tail .head) h
theorem Cz(h:r∈ns):At (r.l,.list (r.su.map .str)) (bC ns):=vf (.tail (.tail .head)) h
theorem tc(v:Int)(h:jc s ns=some r):aI r.x (.du 91 r.d (Sm r.nm r.np r.l)) (.du 91 r.d (Sm r.nm v r.l)) (bC ns) (bC (fe (s_ v) s ns)):=Cv (f:=s_ v) .head h
theorem Ko(v:List Str)(h:jc s ns=some r):aI r.l (.list (r.su.map .str)) (.list (v.map .str)) (bC ns) (bC (fe (QT v) s ns)):=Cv (f:=QT v) (.tail (.tail .head)) h
end
variable{g g2 gF:G}
section
open PySem.Builtin PySem.Builtin.Str
variable{f:Int×List Str→Int×List Str} {b:Nat} {p:Str} {r:Nd}
def qA(g:G)(b:Nat):Prop:=∀e∈g,e.2.2.length≤b
def im(s p:Str)(g:G):G:=dS (λa=>(a.1,a.2++[s])) p (kE p g)
def qB(s:Str)(ps:List Str)(g:G):G:=ps.foldl (λg p=>im s p g) (dS (λa=>(a.1+ps.length,a.2)) s (kE s g))
theorem td{b':Nat}(hb:b≤b')(hf:∀a,a.2.length≤b→(f a).2.length≤b'):∀{g:G},qA g b→qA (dS f s g) b':=by intro l0;induction l0 with|nil=>exact λzz=>λe he=>nomatch he|cons r t ih=>intro h;have h1:=h r (.head _);have h2:qA t b:=λe he=>h e (.tail _ he);unfold dS;split;intro e he;rcases aai.mp he with rfl|he;exact hf _ h1;exact aab (h2 e he) hb;intro e he;rcases aai.mp he with rfl|he;exact aab h1 hb;exact ih h2 e he
theorem oo(h:qA g b):qA (kE s g) b:=by unfold kE;split;exact h;intro e he;rcases aax.mp he with he|he;exact h e he;obtain rfl:=aaL.mp he;exact aaD _
theorem vi(h:qA g b):qA (im s p g) (b+1):=td (aa2 _) (λa ha=>by rw[aar];exact acD ha) (oo h)
theorem CB(h:jc p ns=some r):aI r.l (.list (r.su.map .str)) (.list (r.su.map .str++[.str s])) (bC ns) (bC (fe (QT (r.su++[s])) p ns)):=by have:=Ko (r.su++[s]) h;rw[aaj]at this;exact this
theorem Kq(h:qA (er ns) b)(hr:r∈ns):r.su.length≤b:=h (r.nm,r.np,r.su) (aat (f:=λr:Nd=>(r.nm,r.np,r.su)) hr)
abbrev nQ(x dx m:Addr)(ns:List Nd)(ep:Nat):Cells:=(x,.inst 188 dx)::(dx,.dict (kI (.ref m) .none (.int 0) (.int 0)) 4)::(m,.map (ff ns) ep)::bC ns
theorem w_add{x m:Addr}(hz:ps.length≤100)(hn:ns.length≤800)(CC:qA (er ns) 800):FC K0 (n+4) 138 (.ref x:: .str s::ps.map .str) [] (nQ x dx m ns ep) (λv C=>v= .none∧∃de fU,er de=qB s ps (er ns)∧C=nQ x dx m de fU) (λe C=>False):=by
 show FC.pr (fx:=bb) (B:=λD loc=>∃t:Addr,D=[(t,.tup (ps.map .str))]∧loc=Kn x s t none none none) dE dD (Cw (aab hz '2'));intro c D loc Q' E' T_;let t r1 r2:=ak T_;subst r1;subst r2;intro hK hd aZ hc bl ay aL bz;show ah;dsimp only[aaT,aa0];left;let Kr ZU r1 Ks vN LN:=lG [(t,_)] hK hd (by exact N7 hn) rfl;dsimp only[aaT,aa0];iterate 2 k_extra "m.s1"
 have Kt:=(eW Ks).1;show Qw;k_extra "m.name";show Hr (fj (vh Kt)) (fj (nP Kt)) (Fs hK ⋯) rfl rfl;left;show o0 '0' (by rw[aaa];exact aab hz '2');left;show pA (pu (tc (r1.np+ps.length) Ks)) (fj (nP Kt)) (Km hK ⋯) (by rw[aaa];rfl);dsimp only[aaa];left;have VY:er (fe (s_ (r1.np+ps.length)) s Kr)=dS (λa=>(a.1+ps.length,a.2)) s (kE s (er ns)):=by rw[pR (f':=λa=>(a.1+ps.length,a.2)) rfl rfl Ks,vN]
 rw[←jG (f:=s_ (r1.np+ps.length)) (s:=s) (λzz=>⟨rfl,rfl⟩) Kr];have Yc:(fe (s_ (r1.np+ps.length)) s Kr).length≤ns.length+1+0:=by rw[vg];exact LN
 generalize fe (s_ (r1.np+ps.length)) s Kr=te at VY Yc⊢;show mw (xs:=ps.map .str) (l:=t) (λi S=>∃de fU p q,S=⟨Kn x s t (some (.ref r1.x)) p q,(t,.tup (ps.map .str))::nQ x dx m de fU⟩∧er de=(ps.take i).foldl (λg p=>im s p g) (dS (λa=>(a.1+ps.length,a.2)) s (kE s (er ns)))∧de.length≤ns.length+1+i∧qA (er de) (800+i)) ?_ ?_ ?_
 ·left;exact⟨rfl,.head _,te,ZU,none,none,rfl,VY,Yc,by rw[VY];exact(td (f:=λa=>(a.1+ps.length,a.2)) (aak _) (λzz h=>h) (oo CC):qA (dS (λa=>(a.1+ps.length,a.2)) s (kE s (er ns))) 800)⟩
 intro i;let de fU p q z5:=rI;exact .head _
 ·intro i y S1 N hy;revert S1;let de fU p q he hl hb:=jz;intro hN;rw[aag]at hy;let w hw r2:=ak (aaq.mp hy);subst r2;have hi:=(aav.mp hw).1;refine⟨_,by k_extra "m.at",?_⟩;show ah;left;let VZ ZV r3 V0 DE ZW:=lG (n:=n+3) (ns:=de) [(t,_)] hK hd (by exact N_ hz hn hl hi) rfl;have Sn:=(eW V0).1;dsimp only[aaT,aa0];symm;show pz (fj (vh Sn)) (fj (nP Sn)) (Fs hK ⋯) rfl rfl;refine⟨ty_list (fj (Cz Sn)),?_⟩;left;show aS (pu (CB V0)) (by rw[aaa];exact aab (Kq (by rw[DE];exact oo hb:qA (er VZ) (800+i)) Sn) (show 800+i≤1000000 by exact Ob hz hi));left;have So:er (fe (QT (r3.su++[s])) w VZ)=im s w (er de):=(by rw[pR (f':=λa=>(a.1,a.2++[s])) rfl rfl V0,DE];rfl);rw[←jG (f:=QT (r3.su++[s])) (s:=w) (λzz=>⟨rfl,rfl⟩) VZ];refine hN _ (p6 _ ZV _ _ ⟨rfl,?_,?_,?_⟩);rw[So,aaK,hw,ab4,←he];rfl;rw[vg];exact Od hl ZW;rw[So];exact vi hb
 let de fU p q he hl hb:=jz;left;refine aL _ (nQ x dx m de fU) [(t,_)] (bR bZ) ⟨rfl,de,fU,?_,rfl⟩;rw[he,aaa,abi];rfl
end
section
open PySem.Builtin PySem.Builtin.Str
theorem Ku{a1:AV}:∀(s:aas) (P:aao),(K0 P).In s.heap→∀pos kws,pos.map ab=[a0,a1]→kws.map (λp=>(p.1,ab p.2))=[]→∃binds,ac9 s (bB P) ⟨pos,kws⟩ binds∧e7 a_ binds [("self",some a0),("graph",some a1),("node",none),("predecessors",none)]:=by intro s P fg pos kws hp hk;obtain rfl:=kws_nil hk;let v0 v1 r2 r3 r4:=bG (fR hp);subst r2;subst r3;subst r4;refine⟨[("self",v0),("graph",v1)],λM A E Q hq=>(acf (M:=M) fg (by kernel_rfl:peek (K0 P) ⟨M.prog,M.w.params⟩ (adb (bB P) ⟨[v0,v1],[]⟩)=some ([("self",v0),("graph",v1)]:List (Str×Value)))).here hq,dB '3' '3' '3'⟩
abbrev Gs:=List (Str×Addr×List Str)
def gM(gs:Gs):List (Str×AV):=gs.map λe=>(e.1,.ref e.2.1)
def gC(gs:Gs):Cells:=gs.map λe=>(e.2.1,.list (e.2.2.map .str))
def lH(gs:Gs):G:=gs.foldl (λg e=>qB e.1 e.2.2 g) []
theorem yi{e:Str×Addr×List Str}:∀{gs:Gs},e∈gs→At (e.2.1,.list (e.2.2.map .str)) (gC gs):=by
 intro l0;induction l0 with
 |nil=>intros;first|contradiction|(rename_i h;cases h)|nofun
 |cons a t ih=>intro h;rcases aai.mp h with rfl|h;exact .head;exact .tail (ih h)
theorem wX(ns:List Nd):(er ns).length=ns.length:=aaa _
theorem yj(f:Int×List Str→Int×List Str)(s:Str):∀g:G,(dS f s g).length=g.length:=by intro l0;induction l0 with|nil=>exact rfl|cons r t ih=>unfold dS;split;rfl;change _+1=_+1;rw[ih]
theorem yk(s:Str)(g:G):(kE s g).length≤g.length+1:=by unfold kE;split;exact aa2 _;exact aaz aar
theorem zV(s:Str):∀(ps:List Str) (g:G),(ps.foldl (λg p=>im s p g) g).length≤g.length+ps.length:=by intro l0;induction l0 with|nil=>exact λg=>aak _|cons p t ih=>intro g;have h2:(im s p g).length≤g.length+1:=(by unfold im;rw[yj];exact yk p g);change(t.foldl _ (im s p g)).length≤g.length+(t.length+1);exact NP (ih (im s p g)) h2
theorem Fy(s:Str)(ps:List Str)(g:G):(qB s ps g).length≤g.length+1+ps.length:=by unfold qB;have h1:=zV s ps (dS (λa=>(a.1+ps.length,a.2)) s (kE s g));rw[yj]at h1;exact NR h1 (yk s g)
theorem rf{s:Str}:∀(ps:List Str) {g:G} {b:Nat},qA g b→qA (ps.foldl (λg p=>im s p g) g) (b+ps.length)|[],g,b,h=>h|p::t,g,b,h=>by rw[show b+(p::t).length=b+1+t.length by rw[aaF];exact NS];exact(rf (s:=s) t (vi (s:=s) (p:=p) h))
theorem Fz(s:Str)(ps:List Str){b:Nat}(h:qA g b):qA (qB s ps g) (b+ps.length):=rf ps (td (f:=λa=>(a.1+ps.length,a.2)) (aak _) (λzz h=>h) (oo h))
abbrev V_(x g:Addr)(p q:Option AV):List (Str×Option AV):=[("self",some (.ref x)),("graph",some (.ref g)),("node",p),("predecessors",q)]
theorem HC{x dx m g:Nat}{o:AO}{L:Cells}:aq (nQ x dx m ns ep) ((m,.map (ff ns) ep)::(x,.inst 188 dx)::(dx,.dict (kI (.ref m) .none (.int 0) (.int 0)) 4)::(g,o)::(L++bC ns)) ((g,o)::(L++[])):=.cons (.tail .head) (.cons (.tail .head) (.cons .head (bR (bD bZ L))))
theorem CD{x g:Addr}{gs:Gs}(hz:gs.length≤7)(ux:∀e∈gs,e.2.2.length≤100):FC K0 (n+7) 124 [.ref x,.ref g] [] ((x,.inst 188 dx)::(dx,.dict [] 0)::(g,.map (gM gs) ge)::gC gs) (λv C=>v= .none∧∃m ns ep,er ns=lH gs∧C=(g,.map (gM gs) ge)::(gC gs++nQ x dx m ns ep)) (λzz zz=>False):=by
 show aB (fx:=a_) e_ e9 Ku;intro c Q' E' hK hd aZ hc ay aL bz;refine ah (qY ?_);iterate 2 k_extra "g.s1"
 iterate 3 k_extra "m.nw"
 iterate 4 k_extra "m.s1"
 left;show uO (es:=gM gs) (ep:=ge) (d:=g) (λi S=>∃ns ep p q,S=⟨V_ x g p q,(d,.map (ff ns) ep)::(x,.inst 188 dx)::(dx,.dict (kI (.ref d) .none (.int 0) (.int 0)) 4)::(g,.map (gM gs) ge)::(gC gs++bC ns)⟩∧er ns=(gs.take i).foldl (λg e=>qB e.1 e.2.2 g) []∧ns.length≤101*i∧qA (er ns) (101*i)) ?_ ?_ ?_
 ·symm;refine wM ⋯ λw=>(ba w _ ⟨rfl,rfl,[],0,none,none,?_,rfl,aaD _,λe he=>nomatch he⟩);change _=SS.mk _ (_::_::_::_::(gC gs++[]));rw[aaO];rfl
 intro i;let ns ep p q z5:=rI;exact .tail (.tail (.tail .head))
 ·intro i k v S1 N hy;revert S1;let ns ep p q he hl hb:=jz;intro hN;unfold gM at hy;rw[aag]at hy;let e hw hk:=ak (aaq.mp hy);let r0 r1:=eA (Prod.mk.inj hk);subst r0;subst r1;have hm:=aaA hw;refine⟨_,by k_extra "m.sets",?_⟩;refine ah (EQ (E2 ?_));k_extra "m.name";have DF:=Yb c.w.params;rw[←hK]at DF;simp only[aaM]at DF;refine Hs ⋯ ⋯ DF.1.1.1 ⋯ ⟨DF.1.2,?_⟩;iterate 2 k_extra "m.name"
  show str_list (xs:=e.2.2.map .str) (fj (yi hm).left) (by rw[aaa];exact aab (ux _ hm) '2');have Fe:101*i≤800:=(by exact NU hz ((aav.mp hw).1));refine uQ (w_add (n:=n) (ux _ hm) (aab hl Fe) (λe he=>aab (hb e he) Fe)) HC hK hd (λv C Wa=>?_) (λzz zz h=>h.elim);let z0 te nq ig hC:=GV Wa;subst hC;refine⟨_,HC,?_⟩;left;have QV:=ux _ hm;refine hN _ (p6 te nq _ _ ⟨rfl,?_,?_,?_⟩);rw[aaK,hw,ab4,←he];exact ig;have:=Fy e.1 e.2.2 (er ns);rw[←ig,wX,wX]at this;exact NW hl QV this;rw[ig];exact λe' QW=>aab (Fz e.1 e.2.2 hb e' QW) (by exact NZ QV)
 let ns ep p q he hl hb:=jz;left;refine aL _ ((g,.map (gM gs) ge)::(gC gs++nQ x dx d ns ep)) [] ?_ ⟨rfl,d,ns,ep,?_,rfl⟩;refine .cons (.tail (.tail (.tail .head))) (on (A:=gC gs) (B:=nQ x dx d ns ep) (D1:=[(d,_),(x,_),(dx,_)]++bC ns) (bD (gj (gC gs)) [_,_,_]) ?_);exact .cons (.tail .head) (.cons (.tail .head) (.cons .head bZ));unfold gM at he;rw[he,aaa,abi];rfl
end
section
open PySem.Builtin PySem.Builtin.Str
variable{x:Addr} {m:AV}
theorem FA{E:EP}{g:Addr}{gs:Gs}(hK:c.K=K0 c.w.params)(hd:c.hd=none)(hz:gs.length≤7)(ux:∀e∈gs,e.2.2.length≤100)(hp:aq ((g,.map (gM gs) ge)::gC gs) S.cells D)(h:∀x dx m ns ep,er ns=lH gs→∃l,aq ((g,.map (gM gs) ge)::(gC gs++nQ x dx m ns ep)) l D∧Q (.ref x) ⟨S.loc,l⟩):bM c (n+8) S (.ref 188) [.ref g] Q E:=λv vs hv bx=>by obtain rfl:=aj hv;obtain⟨loc,cells⟩:=S;refine W.reorder (W.fh hp.perm ?_);refine kq (Q:=λv S'=>∃l,l.Perm S'.cells∧Q v ⟨S'.loc,l⟩) (S:=⟨loc,((g,.map (gM gs) ge)::gC gs)++D⟩) (kws:=[]) (K0:=K0) (m:=n+7) (C:=188) (fI:=124) (by rw[hK];kernel_rfl) (by rw[hK];kernel_rfl) (by rw[hK];kernel_rfl) hK hd (λx dx=>(FC.frame (C:=(x,.inst 188 dx)::(dx,.dict [] 0)::(g,.map (gM gs) ge)::gC gs) (D:=D) (CD (n:=n) (x:=x) (dx:=dx) hz ux)).mono (aak _) (λzz zz z=>z) λzz zz h8=>ak h8 λz0 z z2=>z) ?_ ?_ bx rfl (aak _);intro x dx v C' Wb;obtain⟨C1,⟨h1,m,ns,ep,h2,h4⟩,h3⟩:=Wb;subst h3 h4;let l y1 y2:=ak (h x dx m ns ep h2);exact⟨h1,l,y1.perm,y2⟩;exact λzz zz zz zz z=>z.elim
abbrev As(x dx:Addr)(m rn po nf:AV):Cells:=[(x,.inst 188 dx),(dx,.dict (kI m rn po nf) 4)]
abbrev en(x dx m:Addr)(ns:List Nd)(ep r:Nat)(rl:List Str)(po nf:Int):Cells:=(x,.inst 188 dx)::(dx,.dict (kI (.ref m) (.ref r) (.int po) (.int nf)) 4)::(m,.map (ff ns) ep)::(r,.list (rl.map .str))::bC ns
theorem qC:FC K0 (n+2) 157 [.ref x] [] (As x dx m .none po nf) (λv C=>False) (λe C=>e= .type "ValueError"∧C=As x dx m .none po nf):=by show fP (fx:=aG) cj ci cq;intro c Q' E' hK hd aZ hc bl ay aL bz;show ah;left;show ia ack acd hd;k_extra "m.name";refine⟨rfl,?_⟩;left;refine⟨by decide,bz _ _ [(x,_),(dx,_)] _ '1' ?_⟩;exact⟨rfl,rfl⟩
theorem th:FC K0 (n+2) 150 [.ref x] [] (As x dx m .none po nf) (λv C=>False) (λe C=>e= .type "ValueError"∧C=As x dx m .none po nf):=by show fP (fx:=aF) ca b_ ck;intro c Q' E' hK hd aZ hc bl ay aL bz;show ah;left;show ia ack acd hd;k_extra "m.name";refine⟨rfl,?_⟩;left;refine⟨by decide,bz _ _ [(x,_),(dx,_)] _ '1' ?_⟩;exact⟨rfl,rfl⟩
theorem vj{r:Addr}{po nf:Int}(hz:rl.length≤1000):FC K0 (n+2) 157 [.ref x] [] ((r,.list (rl.map .str))::As x dx m (.ref r) (.int po) (.int nf)) (λv C=>v= .bool (decide (nf<po)|| !rl.isEmpty)∧C=(r,.list (rl.map .str))::As x dx m (.ref r) (.int po) (.int nf)) (λe C=>False):=by show aB (fx:=aG) cj ci cq;intro c Q' E' hK hd aZ hc ay aL bz;show ah;left;cases hb:decide (nf<po)with|true=>rw[if_pos rfl];show ay _ _ [(r,_),(x,_),(dx,_)] _ '1';exact⟨by rw[hb];rfl,rfl⟩|false=>rw[if_neg aa1];left;show pe '0' (by rw[aaa];exact aab hz '2');show ay _ _ [(r,_),(x,_),(dx,_)] _ '1';refine⟨?_,rfl⟩;rw[hb];cases rl<;>rfl
theorem pS(f:Int×List Str→Int×List Str)(s p:Str):∀g:G,(db s (dS f p g)).isSome=(db s g).isSome:=by intro l0;induction l0 with|nil=>exact rfl|cons r t ih=>unfold dS;split;change(if _ then _ else _:Option _).isSome=(if _ then _ else _:Option _).isSome;split<;>rfl;change(if _ then _ else _:Option _).isSome=(if _ then _ else _:Option _).isSome;split;rfl;exact ih
def iL(rl:List Str)(g:G):G:=rl.foldl (λg s=>dS (λa=>(-1,a.2)) s g) g
theorem zW(s:Str):∀(rl:List Str) (g:G),(db s (iL rl g)).isSome=(db s g).isSome:=by intro l0;induction l0 with|nil=>exact λg=>rfl|cons r t ih=>exact λg=>(ih _).trans (pS _ s r g)
theorem wY(h:(db s (er ns)).isSome=true):∃r,jc s ns=some r:=by
 rw[pQ]at h;cases hf:jc s ns with
 |none=>rw[hf]at h;cases h
 |some r=>exact⟨r,rfl⟩
theorem ti{r:Nd}(h:jc s ns=some r):dU (ff ns) s=some (.ref r.x):=by rw[ta,h];rfl
abbrev Wc(x t m:Addr)(p:Option AV):List (Str×Option AV):=[("self",some (.ref x)),("result",some (.ref t)),("n2i",some (.ref m)),("node",p)]
theorem tj{x dx m r:Nat}{po nf:Int}(hz:rl.length≤1000)(Dy:∀s∈rl,(db s (er ns)).isSome=true):FC K0 (n+2) 150 [.ref x] [] (en x dx m ns ep r rl po nf) (λv C=>∃t de,v= .ref t∧er de=iL rl (er ns)∧C=(t,.tup (rl.map .str))::en x dx m de ep r [] (po+rl.length) nf) (λe C=>False):=by
 show aB (fx:=aF) ca b_ ck;intro c Q' E' hK hd aZ hc ay aL bz;show ah;left;let t:=jY '0' (by rw[aaa];exact aab hz '2');left;show mw (xs:=rl.map .str) (l:=t) (λi S=>∃de p,S=⟨Wc x t m p,(t,.tup (rl.map .str))::en x dx m de ep r rl po nf⟩∧er de=iL (rl.take i) (er ns)) ?_ ?_ ?_
 ·left;exact⟨rfl,.head _,ns,none,rfl,rfl⟩
 intro i;let de p z3:=gt;exact .head _
 ·intro i y S1 N hy;revert S1;let de p he:=gt;intro hN;rw[aag]at hy;let w hw r2:=ak (aaq.mp hy);subst r2;let q hf:=eE (wY (s:=w) (ns:=de) (by rw[he,zW];exact Dy w (aaA hw)));refine⟨_,by k_extra "m.at",?_⟩;refine ah (BX ?_);symm;show mj '0' (ti hf);show pA (.tail (pu (tc (-1) hf))) (.tail (fj (nP ((eW hf).1)))) (Km hK ⋯) rfl;left;rw[←jG (f:=s_ (-1)) (s:=w) (λzz=>⟨rfl,rfl⟩) de];refine hN _ (ba _ _ ⟨rfl,?_⟩);rw[pR (f':=λa=>(-1,a.2)) rfl rfl hf,he,aaK,hw];unfold iL;rw[ab4];rfl
 let de p he:=gt;left;show wn ⋯ (by rw[aaa];exact aab hz '2');left;show o0 '0' (by rw[aaa];exact aab hz '2');rw[aaa];left;refine ay _ _ ((t,.tup (rl.map .str))::en x dx m de ep r [] (po+rl.length) nf) [] bZ (ba t de ⟨rfl,?_,rfl⟩);rw[he,aaa,abi]
end
section
open PySem.Builtin PySem.Builtin.Str
variable{x:Addr}
abbrev rg(x t:Addr)(n2i nd ni st su si:Option AV):List (Str×Option AV):=[("self",some (.ref x)),("nodes",some (.ref t)),("n2i",n2i),("node",nd),("nodeinfo",ni),("stat",st),("successor",su),("successor_info",si)]
theorem yl(hz:ps.length≤1000)(c:Cx)(S:SS)(X:Cells)(A:ads)(s1:aas)(pos:List Value)(kws:List (Str×Value))(ok:c.Ok)(hK:c.K=K0 c.w.params)(hp:pos.map ab= .ref x::ps.map .str)(hk:kws.map (λp=>(p.1,ab p.2))=[])(R:Rp c (S.ext X) s1):wpAny (model prog c.w) A (adb (bT c.w.params) ⟨pos,kws⟩) (λbinds s1=>∃D loc,Rp c (S.ext (D++X)) s1∧e7 aX binds loc∧∃t:Addr,D=[(t,.tup (ps.map .str))]∧loc=rg x t none none none none none none) nD s1:=by obtain rfl:=kws_nil hk;obtain⟨v0,pos,rfl,h0,hp⟩:=abK.mp hp;show qX (names:=["self"]) (va:=QU (bT c.w.params)) '3' '3' '3' '3' '3' '3' '2' (abm _ _) ?_;have:=congrArg aaV hp;simp only[aaa]at this;change pos.length+1≤1000000;exact SZ hz this;refine ba [(s1.heap.objs.size,.tup (ps.map .str))] _ ⟨R.pushX rfl (ba _ _ ⟨rfl,?_⟩),dB (loc:=[("self",some (ab v0)),("nodes",some (.ref s1.heap.objs.size)),("n2i",none),("node",none),("nodeinfo",none),("stat",none),("successor",none),("successor_info",none)]) '3' '3' '3',s1.heap.objs.size,rfl,by rw[h0]⟩;rw[adi];exact hp
theorem vk{m:AV}(hz:ps.length≤1000):FC K0 (n+3) 171 (.ref x::ps.map .str) [] (As x dx m .none po nf) (λv C=>False) (λe C=>e= .type "ValueError"∧C=As x dx m .none po nf):=by show FC.pr (fx:=aX) (B:=λD loc=>∃t:Addr,D=[(t,.tup (ps.map .str))]∧loc=rg x t none none none none none none) dy dw (yl hz);intro c D loc Q' E' Wd;let t r1 r2:=ak Wd;subst r1;subst r2;intro hK hd aZ hc bl ay aL bz;show ah;dsimp only[aaT,aa0];left;show ia ack acd hd;k_extra "m.name";refine⟨rfl,?_⟩;left;refine⟨by decide,bz _ _ [(x,_),(dx,_)] _ '1' ?_⟩;exact⟨rfl,rfl⟩
def lI(p:G×List Str)(w:Str):G×List Str:=match db w p.1 with
 |none=>p
 |some a=>(dS (λa=>(a.1-1,a.2)) w p.1,if a.1-1=0 then p.2++[w]else p.2)
def Dn(ps:List Str):G→List Str→Int→Bool→G→List Str→Int→Prop:=ps.rec (λg rl nf b g2 rl2 nf2=>b=true∧g2=g∧rl2=rl∧nf2=nf) λs zz ih g rl nf b g2 rl2 nf2=>((∀a,db s g=some a→0≤a.1∨a.1= -2)∧b=false∧g2=g∧rl2=rl∧nf2=nf)∨∃su,db s g=some (-1,su)∧(∀w∈su,(db w g).isSome=true)∧rl.length+su.length≤1000∧ih (su.foldl lI (dS (λa=>(-2,a.2)) s g,rl)).1 (su.foldl lI (dS (λa=>(-2,a.2)) s g,rl)).2 (nf+1) b g2 rl2 nf2
theorem Dn.nil{g rl nf}:Dn [] g rl nf true g rl nf:=⟨rfl,rfl,rfl,rfl⟩
theorem Dn.QY{s t g rl nf}(h:db s g=none):Dn (s::t) g rl nf false g rl nf:=.inl ⟨λzz k=>(nomatch h.symm.trans k),rfl,rfl,rfl,rfl⟩
theorem Dn.bad{s t g rl nf}{a:Int×List Str}(h:db s g=some a)(h2:0≤a.1∨a.1= -2):Dn (s::t) g rl nf false g rl nf:=.inl ⟨λzz k=>aaJ (h.symm.trans k)▸h2,rfl,rfl,rfl,rfl⟩
theorem Dn.ok{s t g rl nf su b g2 rl2 nf2}(h:db s g=some (-1,su))(hs:∀w∈su,(db w g).isSome=true)(hl:rl.length+su.length≤1000)(h2:Dn t (su.foldl lI (dS (λa=>(-2,a.2)) s g,rl)).1 (su.foldl lI (dS (λa=>(-2,a.2)) s g,rl)).2 (nf+1) b g2 rl2 nf2):Dn (s::t) g rl nf b g2 rl2 nf2:=.inr ⟨su,h,hs,hl,h2⟩
theorem Dn.el{s t g rl nf b g2 rl2 nf2}{P:Prop}(h:Dn (s::t) g rl nf b g2 rl2 nf2)(h1:(∀a,db s g=some a→0≤a.1∨a.1= -2)→b=false→g2=g→rl2=rl→nf2=nf→P)(h2:∀su,db s g=some (-1,su)→(∀w∈su,(db w g).isSome=true)→rl.length+su.length≤1000→Dn t (su.foldl lI (dS (λa=>(-2,a.2)) s g,rl)).1 (su.foldl lI (dS (λa=>(-2,a.2)) s g,rl)).2 (nf+1) b g2 rl2 nf2→P):P:=h.elim (λh=>h1 h.1 h.2.1 h.2.2.1 h.2.2.2.1 h.2.2.2.2) λh=>h.elim λsu h=>h2 su h.1 h.2.1 h.2.2.1 h.2.2.2
theorem CE{v:Int}{p:Str}{r:Nd}:∀{ns:List Nd},jc s ns=some r→∃r',jc s (fe (s_ v) p ns)=some r'∧r'.x=r.x∧r'.l=r.l∧r'.su=r.su:=by intro l0;induction l0 with|nil=>exact λh=>nomatch h|cons a t ih=>intro h;unfold jc at h;unfold fe;by_cases hp:p=a.nm;rw[if_pos hp];split at h;rename_i q;cases h;exact⟨_,if_pos q,rfl,rfl,rfl⟩;rename_i q;exact⟨r,(if_neg q).trans h,rfl,rfl,rfl⟩;rw[if_neg hp];split at h;rename_i q;cases h;exact⟨_,if_pos q,rfl,rfl,rfl⟩;rename_i q;let r' h1 h2:=ak (ih h);exact⟨r',(if_neg q).trans h1,h2⟩
theorem CG{x dx m r:Nat}{rl2:List Str}{po nf nf2:Int}(hz:ps.length≤1000)(hr:∀s∈ps,(acR s).length≤1000)(hD:Dn ps (er ns) rl nf b g2 rl2 nf2):FC K0 (n+3) 171 (.ref x::ps.map .str) [] (en x dx m ns ep r rl po nf) (λv C=>b=true∧v= .none∧∃de,er de=g2∧C=en x dx m de ep r rl2 po nf2) (λe C=>b=false∧e= .type "ValueError"∧∃de,er de=g2∧C=en x dx m de ep r rl2 po nf2):=by
 show FC.pr (fx:=aX) (B:=λD loc=>∃t:Addr,D=[(t,.tup (ps.map .str))]∧loc=rg x t none none none none none none) dy dw (yl hz);intro c D loc Q' E' We;let t r1 r2:=ak We;subst r1;subst r2;intro hK hd aZ hc bl ay aL bz;show ah;dsimp only[aaT,aa0];left;show mw (xs:=ps.map .str) (l:=t) (λi S=>∃de tm tT nd ni st su si,S=⟨rg x t (some (.ref m)) nd ni st su si,(t,.tup (ps.map .str))::en x dx m de ep r tm po tT⟩∧Dn (ps.drop i) (er de) tm tT b g2 rl2 nf2) ?_ ?_ ?_
 ·left;exact⟨rfl,.head _,ns,rl,nf,none,none,none,none,none,rfl,hD⟩
 intro i;let de tm tT nd ni st su si z9:=jg;exact .head _
 ·intro i y S1 N hy;revert S1;let de tm tT nd ni st su si FD:=jg;intro hN;rw[aag]at hy;let w hw r2:=ak (aaq.mp hy);subst r2;refine⟨_,by k_extra "m.at",?_⟩;have hrw:=hr w (aaA hw);have Hz:ps.drop i=w::ps.drop (i+1):=(by let h1 h2:=eE (aav.mp hw);rw[acy h1,h2]);rw[Hz]at FD;have Hd:=pQ w de;refine ah (PJ ?_);k_extra "m.s1";show uu;left;show kO '0';rw[ta];refine⟨_,by k_extra "m.at",?_⟩;cases hf:jc w de with|none=>rw[hf]at Hd;dsimp only[Option.map_none,Option.getD_none];left;k_extra "g.rz";refine FD.el (λzz hb hg hl hn=>?_) λsu h zz zz zz=>nomatch Hd.symm.trans h;exact bz _ _ (en x dx m de ep r tm po tT) [(t,_)] (bR bZ) ⟨hb,rfl,de,hg.symm,by rw[hl,hn]⟩|some q=>
   rw[hf]at Hd;dsimp only[Option.map_some,Option.getD_some]at Hd⊢;have hm:=(eW hf).1;symm;show pz (.tail (fj (vh hm))) (.tail (fj (nP hm))) (Fs hK ⋯) rfl rfl;symm;let ZX h hs hl h2:=FD.el (λh2 hb hg hl hn=>?_)
   ·have h2:=h2 _ Hd;have h3:¬q.np= -1:=(by rcases h2 with h2|h2<;>(dsimp only at h2;lia));show bA (by simp[h3]);left;by_cases h4:0≤q.np
    ·show bA (by simp[h4]);left;k_extra "g.rz";exact bz _ _ (en x dx m de ep r tm po tT) [(t,_)] (bR bZ) ⟨hb,rfl,de,hg.symm,by rw[hl,hn]⟩
    have h5:q.np= -2:=(by rcases h2 with h2|h2<;>(dsimp only at h2;lia));show aY (by simp[h4]);left;show bA (by simp[h5]);left;k_extra "g.rz";exact bz _ _ (en x dx m de ep r tm po tT) [(t,_)] (bR bZ) ⟨hb,rfl,de,hg.symm,by rw[hl,hn]⟩
   rw[Hd]at h;have h3:q.np= -1:=congrArg Prod.fst (aaJ h);have h4:q.su=ZX:=congrArg Prod.snd (aaJ h);subst h4;show aY (by simp[h3]);show xU;symm;show pA (.tail (pu (tc (-2) hf))) (.tail (fj (nP hm))) (Km hK ⋯) rfl;left;let q1 Ks QZ LN Wf:=kJ (CE (v:= -2) (p:=w) hf);have vN:er (fe (s_ (-2)) w de)=dS (λa=>(-2,a.2)) w (er de):=pR (f':=λa=>(-2,a.2)) rfl rfl hf;have wG:∀v∈q.su,(db v (er (fe (s_ (-2)) w de))).isSome=true:=λv hv=>(by rw[vN,pS];exact hs v hv);rw[←jG (f:=s_ (-2)) (s:=w) (λzz=>⟨rfl,rfl⟩) de];generalize fe (s_ (-2)) w de=Kr at Ks vN wG⊢;rw[←Wf]at hl h2 wG;rw[←vN]at h2;rw[←QZ];have Kt:=(eW Ks).1;show eI (xs:=q1.su.map .str) (l:=q1.l) (λj S=>∃te ym su si r',S=⟨rg x t (some (.ref m)) (some (.str w)) (some (.ref q1.x)) (some (.int q.np)) su si,(t,.tup (ps.map .str))::en x dx m te ep r ym po tT⟩∧(er te,ym)=(q1.su.take j).foldl lI (er Kr,tm)∧jc w te=some r'∧r'.l=q1.l∧r'.su=q1.su∧(∀v∈q1.su,(db v (er te)).isSome=true)∧ym.length≤tm.length+j) ?_ ?_ ?_
   ·symm;show pz (.tail (fj (vh Kt))) (.tail (fj (nP Kt))) (Fs hK ⋯) rfl rfl;exact⟨rfl,(At.tail (fj (Cz Kt))).mem,Kr,tm,su,si,q1,rfl,rfl,Ks,rfl,rfl,wG,aak _⟩
   intro j;let te ym su si r' g1 g2 g3 g4 g5 g6:=gU;have:=(Cz (eW g2).1).mem;rw[g3,g4]at this;exact .tail _ (.tail _ (.tail _ (.tail _ (.tail _ this))))
   ·intro j y S2 N2 Q0;revert S2;let te ym su si r' g1 g2 g3 g4 g5 g6:=gU;intro zX;rw[aag]at Q0;let w2 tU r2:=ak (aaq.mp Q0);subst r2;have hj:=(aav.mp tU).1;let u LO:=eE (wY (g5 w2 (aaA tU)));have Wg:=(eW LO).1;have Yd:=pQ w2 te;rw[LO,Option.map_some]at Yd;refine⟨_,by k_extra "m.at",?_⟩;show ah;symm;show mj '0' (ti LO);symm;show Hr (.tail (fj (vh Wg))) (.tail (fj (nP Wg))) (Fs hK ⋯) rfl rfl;symm;show pA (.tail (pu (tc (u.np-1) LO))) (.tail (fj (nP Wg))) (Km hK ⋯) rfl;symm;have Q_:=(eW (Fw (f:=s_ (u.np-1)) (λzz=>rfl) LO)).1;have ig:er (fe (s_ (u.np-1)) w2 te)=dS (λa=>(a.1-1,a.2)) w2 (er te):=pR (f':=λa=>(a.1-1,a.2)) rfl rfl LO;have hd2:lI (er te,ym) w2=(dS (λa=>(a.1-1,a.2)) w2 (er te),if u.np-1=0 then ym++[w2]else ym):=(by unfold lI;dsimp only;rw[Yd]);let r2 k1 k2 k3 k4:=kJ (CE (v:=u.np-1) (p:=w2) g2);have HD:∀S':SS,(∃su si,S'=⟨rg x t (some (.ref m)) (some (.str w)) (some (.ref q1.x)) (some (.int q.np)) su si,(t,.tup (ps.map .str))::en x dx m (fe (s_ (u.np-1)) w2 te) ep r (if u.np-1=0 then ym++[w2]else ym) po tT⟩)→N2 S':=(by let su si:=ui;refine zX _ (IM _ _ su si r2 ⟨rfl,?_,k1,k3.trans g3,k4.trans g4,λv hv=>by rw[ig,pS];exact g5 v hv,?_⟩);rw[aaK,tU,ab4,←g1];change _=lI (er te,ym) w2;rw[hd2,ig];split;rw[aar];change _+1≤_;exact acD g6;exact ab1 g6);show pz (v:=.int (u.np-1)) (.tail (fj (vf (r:=s_ (u.np-1) u) .head Q_))) (.tail (fj (vf (r:=s_ (u.np-1) u) (.tail .head) Q_))) (Fs hK ⋯) rfl rfl;left;by_cases h0:u.np-1=0
    ·show bA (by simp[h0]);left;show aS ⋯ (by rw[aaa];exact aab (show ym.length≤1000 by exact Tg hl g6 hj) '2');left;refine HD _ (ba (some (.str w2)) (some (.ref u.x)) ?_);rw[if_pos h0];dsimp only[en];rw[aaj,jG (f:=s_ (u.np-1)) λzz=>⟨rfl,rfl⟩];rfl
    show aY (by simp[h0]);left;refine HD _ (ba (some (.str w2)) (some (.ref u.x)) ?_);rw[if_neg h0];dsimp only[en];rw[jG (f:=s_ (u.np-1)) λzz=>⟨rfl,rfl⟩]
   let te ym su si r' g1 g2 g3 g4 g5 g6:=gU;left;rw[aaa,abi]at g1;rw[←g1]at h2;exact hN _ (YH te ym _ _ _ _ _ _ ⟨rfl,h2⟩)
 let de tm tT nd ni st su si FD:=jg;left;rw[aaa,List.drop_length]at FD;exact aL _ (en x dx m de ep r tm po tT) [(t,_)] (bR bZ) ⟨FD.1,rfl,de,FD.2.1.symm,by rw[FD.2.2.1,FD.2.2.2]⟩
end
section
open PySem.Builtin PySem.Builtin.Str
variable{ct:Nat}
abbrev DR:=List Str→List (Str×Nat)→Option Str→Option (List Str)→Prop
def Wh(g:G)(ih:DR):DR:=λseen aC nx res=>nx.rec ((aC=[]∧res=some seen)∨∃s i t a,aC=(s,i)::t∧db s g=some a∧((∃w,a.2[i]? =some w∧ih seen ((s,i+1)::t) (some w) res)∨(a.2[i]? =none∧ih seen t none res))) λs=>(s∈seen∧s∈aC.map (λx=>x.1)∧res=none)∨(s∈seen∧s∉aC.map (λx=>x.1)∧ih seen aC none res)∨(s∉seen∧seen.length<900∧(db s g).isSome=true∧ih (s::seen) ((s,0)::aC) none res)
def oq(g:G)(k:Nat):DR:=k.rec (Wh g λzz zz zz zz=>False) λzz ih=>Wh g ih
theorem oq.ZY{seen:List Str}(h1:s∈seen)(h2:s∈aC.map (λx=>x.1)):oq g 0 seen aC (some s) none:=.inl ⟨h1,h2,rfl⟩
theorem oq.un{seen:List Str}{nx:Option Str}(h:oq g k seen aC nx res):∃ih:DR,(∀{a b c d},ih a b c d→∃k',k'<k∧oq g k' a b c d)∧Wh g ih seen aC nx res:=by cases k with|zero=>exact⟨_,λh=>False.elim h,h⟩|succ k=>exact⟨_,λh=>⟨k,abw _,h⟩,h⟩
theorem oq.v1{seen:List Str}(h:oq g k seen aC (some s) res)(h1:s∈seen)(h2:s∈aC.map (λx=>x.1)):res=none:=h.un.elim λzz h=>h.2.elim (λh=>h.2.2) λh=>h.elim (λh=>absurd h2 h.2.1) λh=>absurd h1 h.1
theorem oq.v2{seen:List Str}(h:oq g k seen aC (some s) res)(h1:s∈seen)(h2:s∉aC.map (λx=>x.1)):∃k',k'<k∧oq g k' seen aC none res:=h.un.elim λzz h=>h.2.elim (λh=>absurd h.2.1 h2) λk=>k.elim (λk=>h.1 k.2.2) λh=>absurd h1 h.1
theorem oq.v3{seen:List Str}(h:oq g k seen aC (some s) res)(h1:s∉seen):(db s g).isSome=true∧seen.length<900∧∃k',k'<k∧oq g k' (s::seen) ((s,0)::aC) none res:=h.un.elim λzz h=>h.2.elim (λh=>absurd h.1 h1) λk=>k.elim (λk=>absurd k.1 h1) λk=>⟨k.2.2.1,k.2.1,h.1 k.2.2.2⟩
theorem oq.b0{seen:List Str}(h:oq g k seen [] none res):res=some seen:=h.un.elim λzz h=>h.2.elim (λh=>h.2) λh=>h.elim λzz h=>h.elim λzz h=>h.elim λzz h=>h.elim λzz h=>nomatch h.1
theorem oq.b1{seen:List Str}{t:List (Str×Nat)}(h:oq g k seen ((s,i)::t) none res):∃a k',db s g=some a∧k'<k∧((∃w,a.2[i]? =some w∧oq g k' seen ((s,i+1)::t) (some w) res)∨(a.2[i]? =none∧oq g k' seen t none res)):=by refine ak h.un λih hi h=>h.elim (λh=>nomatch h.1) λh=>?_;let s i t a e h1 h2:=nY h;cases e;exact h2.elim (λh=>h.elim λw h=>(hi h.2).elim λk h3=>(ba a k ⟨h1,h3.1,.inl ⟨w,h.1,h3.2⟩⟩)) λh=>(hi h.2).elim λk h3=>(ba a k ⟨h1,h3.1,.inr ⟨h.1,h3.2⟩⟩)
def Kv(g:G)(l:List Str):List Str→Bool→Prop:=l.rec (λzz b=>b=false) λs zz ih seen b=>(s∈seen∧ih seen b)∨(s∉seen∧∃k res,oq g k seen [] (some s) res∧(res=none→b=true)∧∀dW,res=some dW→ih dW b)
theorem ZZ{a b:Addr×AO}(C L:Cells):(a::b::(C++L)).Perm (C++a::b::L):=((aaS (a:=a) (l₁:=C) (l₂:=b::L)).trans (abz a aaS)).symm
structure SE where
 nm:Str
 i:Nat
 b:Addr
 it:Addr
 l:Addr
def zY:List SE→Cells|[]=>[]|e::t=>(e.b,.raw (NX.DD e.it))::(e.it,.raw (NX.tR e.l e.i))::zY t
def kF:List SE→List (Str×AV)|[]=>[]|e::t=>kF t++[(e.nm,.int t.length)]
def DG:List SE→List AV|[]=>[]|e::t=>DG t++[.str e.nm]
def HE:List SE→List AV|[]=>[]|e::t=>HE t++[.ref e.b]
theorem vl:∀t:List SE,(kF t).length=t.length:=by intro l0;induction l0 with|nil=>exact rfl|cons e t ih=>exact by change(_++[_]).length=_;rw[aar,ih];rfl
theorem gJ:∀t:List SE,(DG t).length=t.length:=by intro l0;induction l0 with|nil=>exact rfl|cons e t ih=>exact by change(_++[_]).length=_;rw[aar,ih];rfl
theorem tn:∀t:List SE,(HE t).length=t.length:=by intro l0;induction l0 with|nil=>exact rfl|cons e t ih=>exact by change(_++[_]).length=_;rw[aar,ih];rfl
theorem yn(s:Str):∀(a b:List (Str×AV)),dU (a++b) s=(dU a s).or (dU b s):=by
 intro l0;induction l0 with
 |nil=>exact λb=>by change dU b s=_;cases dU b s<;>rfl
 |cons p a ih=>intro b;change(if _ then _ else dU (a++b) s)=Option.or (if _ then _ else dU a s) _;split;rfl;exact ih b
theorem FF{v:AV}:∀{a:List (Str×AV)},dU a s=none→n5 a s v=a++[(s,v)]:=by intro l0;induction l0 with|nil=>exact λzz=>rfl|cons p a ih=>intro h;unfold dU at h;change(if _ then _ else p::n5 a s v)=_;split at h;cases h;rename_i q;rw[if_neg q,ih h];rfl
theorem lJ:∀{t:List SE},s∈t.map (λx=>x.nm)→∃j:Nat,dU (kF t) s=some (.int j)∧j<t.length|e::t,h=>by change∃j:Nat,dU (kF t++_) s=_∧_;rw[yn];by_cases hm:s∈t.map (λx=>x.nm);let j h1 h2:=ak (lJ hm);exact⟨j,by rw[h1];rfl,Nat.lt_succ_of_lt h2⟩;rcases aai.mp h with rfl|h;refine⟨t.length,?_,abw _⟩;rw[idx_none hm];exact if_pos rfl;exact absurd h hm
where idx_none {s:Str}:∀{t:List SE},s∉t.map (λx=>x.nm)→dU (kF t) s=none
 |[],_=>rfl
 |e::t,h=>by
  change dU (kF t++_) s=_
  rw[yn,idx_none λq=>h (.tail _ q)]
  exact if_neg λ(q:e.nm=s)=>h (by rw[←q];exact .head _)
theorem FG{e:SE}{t:List SE}(h:e.nm∉t.map (λx=>x.nm)):RX (kF (e::t)) e.nm=kF t:=by
 change List.filter _ (kF t++[_])=_;rw[abR,List.filter_eq_self.mpr,abc.mpr,aaO];intro a ha;obtain rfl:=aaL.mp ha;simp;intro a ha;have:∀{t:List SE} {a:Str×AV},a∈kF t→a.1∈t.map (λx=>x.nm):=by
  intro t;induction t with
  |nil=>intro a h;cases h
  |cons e t ih=>intro a h;rcases aax.mp h with h|h;exact .tail _ (ih h);obtain rfl:=aaL.mp h;exact .head _
 simp only[decide_eq_true_eq];intro q;exact h (q▸this ha)
theorem W.zZ{E:EP}{t:Sem α}{Q:α→SS→Prop}(hs:List.Sublist D C)(h:W c n ⟨loc,D⟩ t Q E):W c n ⟨loc,C⟩ t Q E:=.i λok X A s hA R=>h.run ok X A s hA (R.drop (cells':=D++X) (adS hs (ab0 X)))
theorem yo(xs:List α)(lo hi:Option Int):(pick xs lo hi).length≤xs.length:=by
 refine aab (List.length_filterMap_le _ _) (sliceRange_length_le _ _ _ _ (λhc=>?_) λhc=>?_);simp only[sliceBounds]at hc⊢;simp only[hc,if_true];constructor;cases lo with|none=>simp|some i=>exact Int.le_max_left _ _
 cases hi with|none=>simp|some i=>exact Int.max_le.mpr ⟨abq _,Int.min_le_right _ _⟩
 simp[sliceBounds]at hc
abbrev Sp(x m sk ik se nk:Addr)(p:Option AV):List (Str×Option AV):=[("self",some (.ref x)),("n2i",some (.ref m)),("stack",some (.ref sk)),("itstack",some (.ref ik)),("seen",some (.ref se)),("node2stacki",some (.ref nk)),("node",p)]
abbrev LQ(x dx m:Addr)(rn:AV)(ns:List Nd)(ep:Nat):Cells:=(x,.inst 188 dx)::(dx,.dict (kI (.ref m) rn (.int 0) (.int 0)) 4)::(m,.map (ff ns) ep)::bC ns
abbrev Sq(x dx m:Addr)(rn:AV)(ns:List Nd)(ep sk ik se nk:Nat)(P:Str→Bool)(ct:Nat)(st:List SE)(nq:Nat):Cells:=(nk,.map (kF st) nq)::(se,.set P ct)::(ik,.list (HE st))::(sk,.list (DG st))::(x,.inst 188 dx)::(dx,.dict (kI (.ref m) rn (.int 0) (.int 0)) 4)::(m,.map (ff ns) ep)::(zY st++bC ns)
def FI(ns:List Nd)(seen:List Str)(st:List SE)(P:Str→Bool)(ct:Nat):Prop:=(∀s,P s=true↔s∈seen)∧ct≤seen.length∧st.length≤seen.length∧(∀e∈st,e.nm∈seen)∧(st.map (λx=>x.nm)).Nodup∧seen.length≤900∧∀e∈st,∃r,jc e.nm ns=some r∧r.l=e.l
theorem FI.turn{seen:List Str}{e:SE}{st:List SE}(h:FI ns seen (e::st) P ct):FI ns seen ({e with i:=i}::st) P ct:=by let h1 h2 h3 h4 h5 h6 h7:=nW h;refine⟨h1,h2,h3,λe' he=>?_,h5,h6,λe' he=>?_⟩;rcases aai.mp he with rfl|he;exact h4 e (.head _);exact h4 e' (.tail _ he);rcases aai.mp he with rfl|he;exact h7 e (.head _);exact h7 e' (.tail _ he)
theorem FI.drop{seen:List Str}{e:SE}{st:List SE}(h:FI ns seen (e::st) P ct):FI ns seen st P ct:=by let h1 h2 h3 h4 h5 h6 h7:=nW h;exact⟨h1,h2,aab (aa2 _) h3,λe' he=>h4 e' (.tail _ he),(aaB.mp h5).2,h6,λe' he=>h7 e' (.tail _ he)⟩
def Ra(M:SS→Prop)(Q:FL→SS→Prop):FL→SS→Prop:=λf S'=>match f with| .next=>M S'| .ret v=>Q (.ret v) S'|_=>False
theorem w_find{x dx m:Nat}(hz:ns.length≤800)(CC:qA (er ns) 9999)(hD:Kv (er ns) (ns.map (λx=>x.nm)) [] b):FC K0 (n+2) 178 [.ref x] [] (LQ x dx m rn ns ep) (λv C=>(b=false∧v= .none∧C=LQ x dx m rn ns ep)∨(b=true∧∃l ys y,v= .ref l∧ys.length≤1000∧C=(l,.list (ys++[y]))::LQ x dx m rn ns ep)) (λe C=>False):=by
 show aB (fx:=aO) ec d_ ek;intro c Q' E' hK hd aZ hc ay aL bz;show ah;symm;refine⟨aaD _,λsk=>?_⟩;symm;refine⟨aaD _,λik=>?_⟩;symm;let se:=zy;symm;revert d;intro nk;show qW (es:=ff ns) (ep:=ep) (d:=m) (λi S=>∃seen P ct nq p,S=⟨Sp x m sk ik se nk p,Sq x dx m rn ns ep sk ik se nk P ct [] nq⟩∧FI ns seen [] P ct∧Kv (er ns) ((ns.map (λx=>x.nm)).drop i) seen b) ?_ ?_ ?_
 ·symm;exact⟨rfl,.tail _ (.tail _ (.tail _ (.tail _ (.tail _ (.tail _ (.head _)))))),[],_,0,0,none,rfl,⟨λs=>⟨λh=>absurd h aa1,λh=>(nomatch h)⟩,aaD _,aaD _,λe he=>(nomatch he),abn,aaD _,λe he=>(nomatch he)⟩,hD⟩
 intro i;let seen P ct nq p z6:=Bd;exact .tail _ (.tail _ (.tail _ (.tail _ (.tail _ (.tail _ (.head _))))))
 ·intro i k v S1 N hy;revert S1;let seen P ct nq p hI Kw:=qK;intro hN;unfold ff at hy;rw[aag]at hy;let r hr hk:=ak (aaq.mp hy);let r0 r1:=eA (Prod.mk.inj hk);subst r0;subst r1;have Hz:(ns.map (λx=>x.nm)).drop i=r.nm::(ns.map (λx=>x.nm)).drop (i+1):=(by let h1 h2:=eE (aav.mp hr);rw[acy (by rw[aaa];exact h1),List.getElem_map,h2]);rw[Hz]at Kw;refine⟨_,by k_extra "m.at",?_⟩;show ah;symm;show qR '0';symm;by_cases hs:r.nm∈seen
  ·show bA ((hI.1 _).mpr hs);symm;exact hN _ (IM seen P ct nq _ ⟨rfl,hI,Kw.elim (λx=>x.2) λh=>absurd hs h.1⟩)
  show aY (λq=>hs ((hI.1 _).mp q));symm;let k0 res Wi Rb Rc:=bG (Kw.resolve_left λh=>hs h.1).2;clear Kw;show gy (λk S=>∃seen st P ct nq s,S=⟨Sp x m sk ik se nk (some (.str s)),Sq x dx m rn ns ep sk ik se nk P ct st nq⟩∧FI ns seen st P ct∧oq (er ns) k seen (st.map λe=>(e.nm,e.i)) (some s) res) k0 (yO seen [] P ct nq r.nm ⟨rfl,hI,Wi⟩);intro k S2 N2;revert S2;let seen st P ct nq s hI LE:=v6;intro zX;refine pj (iy (bj ?_));show bA rfl;refine ah (W.az (Q:=λf S'=>Ra (λS'=>∃k' seen st P ct nq,k'<k∧S'=⟨Sp x m sk ik se nk (some (.str s)),Sq x dx m rn ns ep sk ik se nk P ct st nq⟩∧FI ns seen st P ct∧oq (er ns) k' seen (st.map λe=>(e.nm,e.i)) none res) Q' (OW f) S') ?_ ?_)
  ·change ES _ _ _ _ (Ra _ Q') _;symm;show qR '0';symm;by_cases wG:s∈seen
   ·show bA ((hI.1 _).mpr wG);symm;show zd '0';symm;by_cases LL:s∈st.map (λx=>x.nm)
    ·let j Ye Sr:=ak (lJ LL);show bA (by rw[Ye];rfl);refine ah (xZ (BK (cY ?_)));k_extra "m.name";refine iC (sE ?_);symm;show mj '0' Ye;refine jB (p6 sk (DG st) (some j) none ⟨rfl,.tail _ (.tail _ (.tail _ (.head _))),rfl,rfl,?_,λl1=>?_⟩);rw[gJ];exact aab hI.2.2.1 (aab hI.2.2.2.2.2.1 '2');symm;refine⟨aae rfl,λl2=>?_⟩;let l3:=gw (.tail _ (.head _)) (.head _) ?_;show aab (ab8 (yo _ _ _) 1);rw[gJ];exact aab (ab8 (aab hI.2.2.1 hI.2.2.2.2.2.1) 1) '2';have j0:(st.map λe=>(e.nm,e.i)).map (λx=>x.1)=st.map (λx=>x.nm):=(by rw[aba];rfl);have hb:b=true:=Rb (LE.v1 wG (j0▸LL));refine ay _ _ ((l3,_)::LQ x dx m rn ns ep) _ (.cons .head (bD (.cons .head (.cons .head (.cons .head (bD bZ (zY st))))) [_,_,_,_,_,_])) (.inr ⟨hb,l3,_,_,rfl,aab (yo _ _ _) (by rw[gJ];exact aab hI.2.2.1 (aab hI.2.2.2.2.2.1 '2')),rfl⟩)
    show aY (by rw[lJ.idx_none LL];exact aa1);symm;exact ak (LE.v2 wG ((by rw[aba];rfl:(st.map λe=>(e.nm,e.i)).map (λx=>x.1)=st.map (λx=>x.nm))▸LL)) λk' hk h=>(yO k' seen st P ct nq ⟨hk,rfl,hI,h⟩)
   show aY (λq=>wG ((hI.1 _).mp q));symm;let ha Wj k' Hf hd2:=xf (LE.v3 wG);let q hq:=eE (wY (s:=s) (ns:=ns) ha);have hm:=(eW hq).1;have Z0:P s=false:=(by cases h:P s with|false=>rfl|true=>exact absurd ((hI.1 _).mp h) wG);have Rh:s∉st.map (λx=>x.nm):=λh=>(by let e he h2:=ak (aaH.mp h);exact wG (h2▸hI.2.2.2.1 e he));show oX ⋯ (aaC hI.2.1 (by exact aab Wj (aae rfl)));rw[Z0,if_neg aa1];symm;show mj '0' (ti hq);show pz (.tail (.tail (.tail (.tail (.tail (.tail (.tail (At.right (vh hm))))))))) (.tail (.tail (.tail (.tail (.tail (.tail (.tail (At.right (nP hm))))))))) (Fs hK ⋯) rfl rfl;symm;refine zw (.tail (.tail (.tail (.tail (.tail (.tail (.tail (At.right (Cz hm))))))))) λit=>(eY it q.l 0 ⟨rfl,.head,λb2=>?_⟩);symm;show aS ⋯ (by rw[tn];exact aab hI.2.2.1 (aab hI.2.2.2.2.2.1 '2'));show W.fh (ZZ [_,_,_,_,_,_,_] _);refine ah (jZ ?_);symm;show bY (.tail _ (.tail _ (.tail _ (.head _)))) (by rw[gJ];exact aab hI.2.2.1 (aab hI.2.2.2.2.2.1 '2'));rw[gJ];symm;let fU:=wm (ep:=nq) (cells':=λfU=>(nk,.map (kF (⟨s,0,b2,it,q.l⟩::st)) fU)::(se,.set (λk'=>P k'||decide (k'=s)) (ct+1))::(ik,.list (HE (⟨s,0,b2,it,q.l⟩::st)))::(sk,.list (DG st))::(x,.inst 188 dx)::(dx,.dict (kI (.ref m) rn (.int 0) (.int 0)) 4)::(m,.map (ff ns) ep)::(zY (⟨s,0,b2,it,q.l⟩::st)++bC ns)) (λfU=>?_) (by rw[vl];exact aaC hI.2.2.1 (by exact aab Wj (aae rfl)));rw[FF (lJ.idx_none Rh)];exact .head;symm;show aS (xs:=DG st) (.tail (.tail (.tail .head))) (by rw[gJ];exact aab hI.2.2.1 (aab hI.2.2.2.2.2.1 '2'));symm;refine yO k' (s::seen) (⟨s,0,b2,it,q.l⟩::st) _ (ct+1) fU ⟨Hf,rfl,⟨λs'=>?_,acD hI.2.1,acD hI.2.2.1,λe he=>?_,aaB.mpr ⟨Rh,hI.2.2.2.2.1⟩,Wj,λe he=>?_⟩,hd2⟩;rw[Bool.or_eq_true,hI.1,decide_eq_true_eq,aai,or_comm];rcases aai.mp he with rfl|he;exact .head _;exact .tail _ (hI.2.2.2.1 e he);rcases aai.mp he with rfl|he;exact⟨q,hq,rfl⟩;exact hI.2.2.2.2.2.2 e he
  ·rintro f S3 h3;cases f with|ret v=>exact h3|brk=>exact h3.elim|cont=>exact h3.elim|next=>
    let k' seen st P ct nq Hf r7 Z1 hd2:=vZ h3;subst r7;clear hI LE;change EB _ _ _ _ _ _;show ah;show gy (λj S=>j≤k'∧∃seen st P ct nq s,S=⟨Sp x m sk ik se nk (some (.str s)),Sq x dx m rn ns ep sk ik se nk P ct st nq⟩∧FI ns seen st P ct∧oq (er ns) j seen (st.map λe=>(e.nm,e.i)) none res) k' ⟨aak _,seen,st,P,ct,nq,s,rfl,Z1,hd2⟩;intro j S4 N3;revert S4;let hj seen st P ct nq s hI I1:=uf;intro Wk;show pj;k_extra "m.name";show xz (.tail _ (.tail _ (.tail _ (.head _)))) (by rw[gJ];exact aab hI.2.2.1 (aab hI.2.2.2.2.2.1 '2'));cases st with|nil=>show aY (by exact aa1);symm;exact hN _ (IM seen P ct nq _ ⟨rfl,hI,Rc seen I1.b0⟩)|cons e tq=>
     let a j' h2 Pf h3:=bG I1.b1;show bA (by change(!(DG tq++[_]).isEmpty)=true;simp);let q hq hl:=ak (hI.2.2.2.2.2.2 e (.head _));have CC:q.su=a.2:=(by rw[pQ,hq]at h2;exact congrArg Prod.snd (aaJ h2));rw[←CC]at h3;have Ri:(e::tq).length≤900:=aab hI.2.2.1 hI.2.2.2.2.2.1;have vm:tq.length<lim:=aaE Ri '2';refine ah (jm ?_);refine ah (Jw (zx hd (d6 ?_)));symm;refine⟨1,rfl,?_⟩;symm;show iB (ys:=HE tq) (x:=.ref e.b) (.tail _ (.tail _ (.head _))) (by rw[tn];exact vm);refine IM e.b e.it e.l e.i (q.su.map .str) ⟨rfl,.tail (.tail (.tail (.tail (.tail (.tail (.tail .head)))))),hl▸.tail (.tail (.tail (.tail (.tail (.tail (.tail (.tail (.tail (At.right (Cz ((eW hq).1))))))))))),?_⟩;rcases h3 with⟨w,hw,Wl⟩|⟨hn,Wl⟩
     ·refine .inl (ba (.str w) _ ⟨by rw[aag,hw];rfl,.tail (.tail (.tail (.tail (.tail (.tail (.tail (.tail .head))))))),?_⟩);symm;exact zX _ _ (by exact Tc Hf hj Pf) (yO seen ({e with i:=e.i+1}::tq) P ct nq w ⟨rfl,hI.turn,Wl⟩)
     refine .inr ⟨by rw[aag,hn];rfl,_,.tail (.tail (.tail (.tail (.tail (.tail (.tail (.tail .head))))))),?_⟩;show n_ (b:=true) (by rw[aZ];exact .tail _ (.tail _ (.tail _ (.head _)))) B4;rw[if_pos rfl];intro e0;show W.zZ (D:=(nk,.map (kF (e::tq)) nq)::(se,.set P ct)::(ik,.list (HE (e::tq)))::(sk,.list (DG (e::tq)))::(x,.inst 188 dx)::(dx,.dict (kI (.ref m) rn (.int 0) (.int 0)) 4)::(m,.map (ff ns) ep)::(zY tq++bC ns)) (.cons_cons _ (.cons_cons _ (.cons_cons _ (.cons_cons _ (.cons_cons _ (.cons_cons _ (.cons_cons _ (.cons _ (ab0 _)))))))));refine ah (wp ?_);symm;show oZ (ys:=DG tq) (y:=.str e.nm) (.tail (.tail (.tail .head))) (by rw[gJ];exact vm);let fU:=Jd (es:=kF (e::tq)) (ep:=nq) (cells':=λfU=>(nk,.map (kF tq) fU)::(se,.set P ct)::(ik,.list (HE (e::tq)))::(sk,.list (DG tq))::(x,.inst 188 dx)::(dx,.dict (kI (.ref m) rn (.int 0) (.int 0)) 4)::(m,.map (ff ns) ep)::(zY tq++bC ns)) (λfU=>?_) (by rw[vl];exact aaC Ri '2') ?_;rw[FG (aaB.mp hI.2.2.2.2.1).1];exact .head;let jj Z2 z2:=ak (lJ (t:=e::tq) (.head _:e.nm∈(e::tq).map (λx=>x.nm)));rw[Z2];rfl;symm;show oZ (ys:=HE tq) (y:=.ref e.b) (.tail (.tail .head)) (by rw[tn];exact vm);symm;exact Wk j' _ Pf ⟨by exact Ay hj Pf,seen,tq,P,ct,fU,s,rfl,hI.drop,Wl⟩
 let seen P ct nq p hI Kw:=qK;symm;rw[tb,adw (by rw[aaa];exact aak _)]at Kw;exact ay _ _ (LQ x dx m rn ns ep) [_,_,_,_] (bD bZ [_,_,_,_]) (.inl ⟨Kw,rfl,rfl⟩)
end
section
open PySem.Builtin PySem.Builtin.Str
theorem CH:Bx w (pB d k ep):=λA s it o i Q E ho hP hQ=>wpAny_pyIter_valiter ⟨o,ho,hP⟩ hQ
theorem vn{x r:Addr}{m:AV}:FC K0 (n+2) 143 [.ref x] [] (As x dx m (.ref r) po nf) (λv C=>False) (λe C=>e= .type "ValueError"∧C=As x dx m (.ref r) po nf):=by show fP (fx:=aN) cU cT cV;intro c Q' E' hK hd aZ hc bl ay aL bz;show ah;left;show ia ack acd hd;k_extra "m.name";refine⟨rfl,?_⟩;left;refine⟨by decide,bz _ _ [(x,_),(dx,_)] _ '1' ?_⟩;exact⟨rfl,rfl⟩
def ip(g:G):List Str:=(g.filter λe=>decide (e.2.1=0)).map (λx=>x.1)
theorem Z6(P:aao):(K0 P).lookup 106=some (Top.Ol P)∧(K0 P).lookup 105=some (Top.Oj P):=⟨by kernel_rfl,by kernel_rfl⟩
theorem Kx{x dx m:Nat}(hz:ns.length≤800)(CC:qA (er ns) 9999)(hD:Kv (er ns) (ns.map (λx=>x.nm)) [] b):FC K0 (n+3) 143 [.ref x] [] (nQ x dx m ns ep) (λv C=>b=false∧v= .none∧∃r,C=en x dx m ns ep r (ip (er ns)) 0 0) (λe C=>b=true∧e= .ref 106∧∃r,C=en x dx m ns ep r (ip (er ns)) 0 0):=by
 show fP (fx:=aN) cU cT cV;intro c Q' E' hK hd aZ hc bl ay aL bz;show ah;left;show fD (xs:=["i"]) (cl:=[]) (gl:=[]) ⟨by rw[bl];kernel_rfl,by with_unfolding_all decide,by with_unfolding_all rfl,by with_unfolding_all decide,by with_unfolding_all decide,by decide,λp hp=>nomatch hp⟩;symm;refine uM (.tail (.tail .head)) λw=>⟨pB m (ff ns).length ep,λu hu=>BY .head (.tail (.tail (.tail .head))) hu,CH,λD mm L=>LP.loop rfl eR ((ff ns).map (λx=>x.2)) (λi S=>∃a,S=⟨[("i",a)],(D,.list ((ip (er (ns.take i))).map .str))::(w,_)::nQ x dx m ns ep⟩) ⟨none,rfl⟩ ?_ ?_⟩
 ·intro i y S1 hy hI;let a0 e0:=eE hI;subst e0;rw[ff,aba,aag]at hy;let r hr r2:=ak (aaq.mp hy);subst r2;have hm:=aaA hr;have hKi:(c.inner (Top.av (Top.cS 13 3)) [] [] mm L).K=K0 (c.inner (Top.av (Top.cS 13 3)) [] [] mm L).w.params:=hK;have hlen:((ip (er (ns.take i))).map AV.str).length≤lim:=(by rw[aaa,ip,aaa];show aab (abE _ _);rw[wX];exact aab (abh _ _) (aab hz '2'));have Yf:ip (er (ns.take (i+1)))=ip (er (ns.take i))++if r.np=0 then[r.nm]else[]:=by rw[aaK,hr];unfold ip er;rw[Option.toList_some,aaj,abR,aaj];congr 1;by_cases h0:r.np=0;rw[if_pos h0,aan,acM (by simp[h0])];rfl;rw[if_neg h0,aan,acL (by simp[h0])];rfl
  refine⟨BZ (.tail (.tail (.tail (.tail .head)))) (by rw[ff,aba,aag,hr];rfl),cA ⋯ (pd ?_)⟩;symm;show pz (fj (.tail (vh hm))) (fj (.tail (nP hm))) (Fs hK ⋯) rfl rfl;symm;by_cases h0:r.np=0
  ·show bA (by simp[h0]);refine .inl ⟨rfl,?_⟩;symm;show pz (fj (.tail (vh hm))) (fj (.tail (nP hm))) (Fs hK ⋯) rfl rfl;exact ba _ _ ⟨.head,hlen,_,by rw[Yf,if_pos h0,aaj];rfl⟩
  show aY (by simp[h0]);exact⟨_,by rw[Yf,if_neg h0,aaO]⟩
 intro S1 hI;let a0 e0:=eE hI;subst e0;refine⟨B0 (.tail (.tail (.tail (.tail .head)))) hd,?_⟩;k_extra "m.in";show W.zZ (D:=(D,_)::(x,_)::(dx,_)::(m,_)::bC ns) (.cons_cons _ (.cons _ (ab0 _)));change EB _ _ _ _ _ _;rw[aaa,tb,abi];symm;refine aH (w_find (n:=n) (rn:=.ref D) hz CC hD) (bR bZ) hK hd (λv C hv=>?_) (λzz zz h=>h.elim);have hp:∀C':Cells,aq (C'++LQ x dx m (.ref D) ns ep) (C'++en x dx m ns ep D (ip (er ns)) 0 0) [(D,.list ((ip (er ns)).map .str))]:=λC'=>on (gj C') (.cons .head (.cons .head (.cons .head (bR bZ))));rcases hv with⟨hb,rfl,rfl⟩|⟨hb,l,ys,y,rfl,DC,rfl⟩
 ·refine⟨_,hp [],?_⟩;symm;refine aL _ (en x dx m ns ep D (ip (er ns)) 0 0) [] bZ ⟨hb,rfl,D,rfl⟩
 refine⟨_,hp [_],?_⟩;symm;show xz (.head _) (by rw[aar];exact aab (ab8 DC 1) '2');show bA (by simp);have Wm:=Z6 c.w.params;rw[←hK]at Wm;refine ah (sD (C:=106) (N:=105) PySem.F.excBase_ValueError Wm.1 Wm.2 '3' '3' hd ?_);k_extra "m.name";refine⟨rfl,?_⟩;symm;refine⟨by change 2≤1000000;decide,bz _ _ (en x dx m ns ep D (ip (er ns)) 0 0) [(l,_)] (bR bZ) ⟨hb,rfl,D,rfl⟩⟩
end
section
open PySem.Builtin PySem.Builtin.Str
variable{Q:FL→SS→Prop}
theorem rh{E:EP}{xp:Pos}(hx:(x,.type "ValueError")∈c.fx.gl)(h:∀e,EB (c.hand e) n S (b₀::suite) Q hZ):HB c n S (.type "ValueError") (.ExceptHandler (some (.Name x xp)) none (b₀::suite) p::rest) Q E:=n_ (b:=true) hx JW (if_pos rfl▸h)
theorem Ky{x:Addr}{m:AV}:FC K0 (n+5) 938 [.ref x] [] (As x dx m .none po nf) (λv C=>v= .bool true∧C=As x dx m .none po nf) (λe C=>False):=by show aB (fx:=fJ) sN sM sU;intro c Q' E' hK hd aZ hc ay aL bz;show ah;left;show jm;left;refine aH (vk (n:=n) (ps:=[]) (aaD _)) '1' hK hd (λv C h=>h.elim) (OV ?_);let e0:=rh (by rw[aZ];k_extra "m.mem");dsimp only[aaT,aa0];left;show jm;left;refine aH (th (n:=n)) '1' hK hd (λv C h=>h.elim) (OV ?_);let e0:=rh (by rw[aZ];k_extra "m.mem");dsimp only[aaT,aa0];left;show jm;left;refine aH (qC (n:=n)) '1' hK hd (λv C h=>h.elim) (OV ?_);let e0:=rh (by rw[aZ];k_extra "m.mem");dsimp only[aaT,aa0];left;show ay _ _ [(x,_),(dx,_)] _ '1';exact⟨rfl,rfl⟩
theorem CI(hK:c.K=K0 c.w.params):Ji c.w c.K (.type "ValueError") (.ref 106) false∧Ji c.w c.K (.ref 106) (.ref 106) true:=⟨G_ (mt:=.type "type") (by rw[hK];kernel_rfl) (by rw[hK];kernel_rfl) (by rw[hK];kernel_rfl) (by rw[hK];kernel_rfl) (by rw[hK];kernel_rfl),G_ (mt:=.type "type") (by rw[hK];kernel_rfl) (by rw[hK];kernel_rfl) (by rw[hK];kernel_rfl) (by rw[hK];kernel_rfl) (by rw[hK];kernel_rfl)⟩
theorem FH{x m r ep:Addr}:FC K0 (n+5) 945 [.ref x] [] (Ar x dx m (.ref r) po nf ns ep) (λv C=>v= .bool true∧C=Ar x dx m (.ref r) po nf ns ep) (λe C=>False):=by show aB (fx:=eV) qr qq qz;intro c Q' E' hK hd aZ hc ay aL bz;show ah;show jm;left;refine aH (vn (n:=n)) '1' hK hd (λv C h=>h.elim) (OV ?_);show n_ (b:=false) (by rw[aZ];k_extra "m.mem") (CI hK).1;rw[if_neg aa1];let e0:=rh (by rw[aZ];k_extra "m.mem");dsimp only[aaT,aa0];left;show jm;refine ah (EQ (Hj ?_));left;refine aH (wW (n:=n) (x:=x) (dx:=dx) (m:=m) (r:=r) (po:=po) (nf:=nf) (ns:=ns) (ep:=ep) (s:="a") (ps:=["zz"]) (aae rfl)) '1' hK hd (λv C h=>h.elim) (OV ?_);let e0:=rh (by rw[aZ];k_extra "m.mem");dsimp only[aaT,aa0];left;show ay _ _ [(x,_),(dx,_),(m,_)] _ '1';exact⟨rfl,rfl⟩
theorem jH{x dx m r l:Nat}{rl2:List Str}{po nf nf2:Int}(hz:ps.length≤1000)(hr:∀s∈ps,(acR s).length≤1000)(hD:Dn ps (er ns) rl nf b g2 rl2 nf2):FC K0 (n+5) 952 [.ref x,.ref l] [] ((l,.list (ps.map .str))::en x dx m ns ep r rl po nf) (λv C=>v= .bool (!b)∧∃de,er de=g2∧C=(l,.list (ps.map .str))::en x dx m de ep r rl2 po nf2) (λe C=>False):=by
 show aB (fx:=dI) nM nL nO;intro c Q' E' hK hd aZ hc ay aL bz;show ah;show jm;have DF:=Yb c.w.params;rw[←hK]at DF;simp only[aaM]at DF;refine ah (EQ (E1 ?_));k_extra "m.name";refine Hs ⋯ ⋯ DF.1.1.2 ⋯ ⟨DF.2,?_⟩;k_extra "m.name";show str_list (xs:=ps.map .str) ⋯ (by rw[aaa];exact aab hz '2');have hp:∀{de:List Nd} {tm:List Str} {tT:Int},aq (en x dx m de ep r tm po tT) ((l,.list (ps.map .str))::en x dx m de ep r tm po tT) [(l,.list (ps.map .str))]:=bR bZ;refine uQ (CG (n:=n) hz hr hD) hp hK hd (λv C hv=>?_) (λk C hv=>?_)
 ·let r0 z1 de he r4:=xf hv;subst r0;subst r4;refine⟨_,hp,?_⟩;left;exact ay _ _ ((l,_)::en x dx m de ep r rl2 po nf2) [] bZ ⟨rfl,de,he,rfl⟩
 let r0 r1 de he r4:=xf hv;subst r0;subst r1;subst r4;refine⟨_,hp,?_⟩;let e0:=rh (by rw[aZ];k_extra "m.mem");dsimp only[aaT,aa0];left;exact ay _ _ ((l,_)::en x dx m de ep r rl2 po nf2) [] bZ ⟨rfl,de,he,rfl⟩
end
section
open PySem.Builtin PySem.Builtin.Str
variable{a:Nat}
theorem ot(xs:List α)(lo hi:Option Int):pick xs lo hi=(xs.drop (kms_lo lo xs.length)).take (kms_hi hi xs.length-kms_lo lo xs.length):=by unfold pick;rw[kms_bounds];have h:=pick_run xs.toArray (kms_lo lo xs.length) (kms_hi hi xs.length-kms_lo lo xs.length);rw[←sliceRange_one]at h;simpa only[List.getElem?_toArray]using h
theorem Yg:kms_lo (some (a:Int)) n=min a n:=rfl
theorem Yh:kms_hi (some (a:Int)) n=min a n:=rfl
theorem z_(xs:List α)(a:Nat)(h:a≤xs.length):pick xs (some (a:Int)) none=xs.drop a:=by rw[ot,Yg,ac5 h];exact abd (aaz aa9)
theorem ri(xs:List α)(b:Nat):pick xs none (some (b:Int))=xs.take b:=by rw[ot,Yh];exact kmk_take_min xs b
theorem vo(xs:List α)(a b:Nat)(tQ:a≤b)(ha:a≤xs.length):pick xs (some (a:Int)) (some (b:Int))=(xs.take b).drop a:=by rw[ot,Yh,Yg,ac5 ha,←List.drop_take,kmk_take_min]
theorem W.into{E:EP}{t:Sem α}{Q:α→SS→Prop}(h:aq D C Z)(hw:W c n ⟨loc,D⟩ t Q E):W c n ⟨loc,C⟩ t Q E:=W.fh h.perm (W.zZ (List.sublist_append_left D Z) hw)
abbrev FJ:=List (Addr×List Str)
def bL(rs:FJ):Cells:=rs.map λe=>(e.1,.list (e.2.map .str))
def bv(rs:FJ):List AV:=rs.map λe=>.ref e.1
theorem lK{e:Addr×List Str}:∀{rs:FJ},e∈rs→At (e.1,.list (e.2.map .str)) (bL rs):=by
 intro l0;induction l0 with
 |nil=>intros;first|contradiction|(rename_i h;cases h)|nofun
 |cons a t ih=>intro h;rcases aai.mp h with rfl|h;exact .head;exact .tail (ih h)
abbrev Tb:=List (Str×List Str)
def jU(k:Str):Tb→Option (List Str)|[]=>none|e::t=>if e.1=k then some e.2 else jU k t
def mO(k:Str)(v:List Str):Tb→Tb|[]=>[(k,v)]|e::t=>if e.1=k then(k,v)::t else e::mO k v t
def stepT(t:Tb)(r:List Str):Tb:=mO (r.headD "") ((jU (r.headD "") t).getD []++r.tail) t
def vp(rs:List (List Str)):Tb:=rs.foldl stepT []
def iq(gs:Gs):Tb:=gs.map λe=>(e.1,e.2.2)
def lL(k:Str)(l:Addr)(v:List Str):Gs→Gs|[]=>[(k,l,v)]|e::t=>if e.1=k then(k,l,v)::t else e::lL k l v t
theorem FK(k:Str)(l:Addr)(v:List Str):∀gs:Gs,iq (lL k l v gs)=mO k v (iq gs):=by
 intro l0;induction l0 with|nil=>exact rfl|cons e t ih=>
  change iq (if _ then _ else _)=if _ then _ else _
  split;rfl;change _::iq _=_;rw[ih];rfl
theorem Kz(k:Str)(l:Addr)(v:List Str):∀gs:Gs,n5 (gM gs) k (.ref l)=gM (lL k l v gs):=by intro l0;induction l0 with|nil=>exact rfl|cons e t ih=>change(if _ then _ else _)=gM (if _ then _ else _);split;rfl;change _::n5 (gM t) k _=_::_;rw[ih];rfl
theorem KA(k:Str):∀gs:Gs,(dU (gM gs) k=none∧jU k (iq gs)=none)∨∃e∈gs,dU (gM gs) k=some (.ref e.2.1)∧jU k (iq gs)=some e.2.2:=by
 intro l0;induction l0 with|nil=>exact .inl ⟨rfl,rfl⟩|cons e t ih=>
  have a1:dU (gM (e::t)) k=if e.1=k then some (.ref e.2.1)else dU (gM t) k:=rfl
  have a2:jU k (iq (e::t))=if e.1=k then some e.2.2 else jU k (iq t):=rfl
  rw[a1,a2];by_cases h:e.1=k;exact .inr ⟨e,.head _,if_pos h,if_pos h⟩;simp only[if_neg h];rcases ih with h2|⟨e',he,h2⟩;exact .inl h2;exact .inr ⟨e',.tail _ he,h2⟩
theorem KB(k:Str)(l:Addr)(v:List Str)(s1 d1:Addr×AO)(R:Cells):∀gs:Gs,∃D,aq (gC (lL k l v gs)) ((l,.list (v.map .str))::s1::d1::(gC gs++R)) (s1::d1::(D++R)):=by intro l0;induction l0 with|nil=>exact⟨[],.cons .head .nil⟩|cons e t ih=>unfold lL;split;exact⟨[(e.2.1,.list (e.2.2.map .str))],.cons .head (bR (bR (bR (gj (gC t)))))⟩;let D h:=eE (ih);exact⟨D,.cons (.tail (.tail (.tail .head))) h⟩
theorem CJ(k:Str)(l:Addr)(v:List Str):∀gs:Gs,(lL k l v gs).length≤gs.length+1:=by intro l0;induction l0 with|nil=>exact aak _|cons e t ih=>unfold lL;split;exact aa2 _;exact acD (ih)
theorem CK{k:Str}{v:List Str}{e:Str×Addr×List Str}:∀{gs:Gs},e∈lL k l v gs→e.2.2=v∨e∈gs:=by intro l0;induction l0 with|nil=>intro h;obtain rfl:=aaL.mp h;exact .inl rfl|cons a t ih=>intro h;unfold lL at h;split at h;rcases aai.mp h with rfl|h;exact .inl rfl;exact .inr (.tail _ h);rcases aai.mp h with rfl|h;exact .inr (.head _);exact(ih h).imp id (.tail _)
theorem FM{rs:FJ}(hz:rs.length≤100)(hr:∀e∈rs,e.2≠[]∧e.2.length≤10):FC K0 (n+2) 931 [.ref l] [] ((l,.list (bv rs))::bL rs) (λv C=>∃g gs ge,v= .ref g∧iq gs=vp (rs.map (λx=>x.2))∧C=(g,.map (gM gs) ge)::gC gs) (λe C=>False):=by
 show aB (fx:=eU) qp qo qx;intro c Q' E' hK hd aZ hc ay aL bz;show ah;symm;revert d;intro g;show eI (xs:=bv rs) (l:=l) (λi S=>∃gs ge p,S=⟨[("rows",some (.ref l)),("table",some (.ref g)),("row",p)],(g,.map (gM gs) ge)::(l,.list (bv rs))::(gC gs++bL rs)⟩∧iq gs=vp ((rs.take i).map (λx=>x.2))∧gs.length≤i∧∀e∈gs,e.2.2.length≤10*i) ?_ ?_ ?_
 ·k_extra "m.name";exact⟨rfl,.tail _ (.head _),[],0,none,rfl,rfl,aak _,λe he=>nomatch he⟩
 intro i;let gs ge p z4:=rJ;exact .tail _ (.head _)
 ·intro i y S1 N hy;revert S1;let gs ge p he hl hb:=uh;intro hN;unfold bv at hy;rw[aag]at hy;let r rP r2:=ak (aaq.mp hy);subst r2;have hm:=aaA rP;have hi:=(aav.mp rP).1;let gV yV:=eA (hr r hm);obtain⟨a,ws⟩:=r;dsimp only at gV yV;cases ws with
  |nil=>exact absurd rfl gV
  |cons w ws=>
  have atr:At (a,.list ((w::ws).map .str)) (gC gs++bL rs):=At.right (lK hm);refine⟨_,by k_extra "m.at",?_⟩;refine ah (jZ ?_);k_extra "m.s1";k_extra "m.s1";k_extra "m.name";refine⟨ty_map .head,wD (d6 ?_)⟩;k_extra "m.name";refine oI ⟨ty_list (.tail (.tail atr)),d4 (k:=0) (.tail _ (.tail _ atr.mem)) rfl (by rw[aaa];exact aab yV '2') ?_⟩;symm;refine⟨aaD _,λd1=>?_⟩;symm;show qb (.tail _ (.head _));show cY;k_extra "m.name";k_extra "m.s1";k_extra "m.s1";refine jB (p6 a _ (some 1) none ⟨rfl,.tail _ (.tail _ (.tail _ atr.mem)),rfl,rfl,by rw[aaa];exact aab yV '2',λs1=>?_⟩);have e1:pick ((w::ws).map AV.str) (some 1) none=ws.map .str:=z_ _ 1 (abm _ _);rw[e1];have pi:∃la old,(dU (gM gs) w).getD (.ref d1)= .ref la∧At (la,.list (old.map .str)) ((s1,.list (ws.map .str))::(d1,.list [])::(g,.map (gM gs) ge)::(l,.list (bv rs))::(gC gs++bL rs))∧(jU w (iq gs)).getD []=old∧old.length≤10*i:=(by rcases KA w gs with⟨h1,h2⟩|⟨e,ig,h1,h2⟩;exact ba d1 [] ⟨by rw[h1];rfl,.tail .head,by rw[h2];rfl,aaD _⟩;exact ba e.2.1 e.2.2 ⟨by rw[h1];rfl,.tail (.tail (.tail (.tail (At.left (yi ig))))),by rw[h2];rfl,hb e ig⟩);let la old Z7 Z8 Z9 Se:=lV pi;rw[Z7];have p5:ws.length≤9:=acT yV;let l2:=gw Z8.mem (.head _) (by rw[aaa,aaa];exact aab (show old.length+ws.length≤1009 by exact MJ hz hi Se p5) '2');rw[←aaj];k_extra "m.name";show d6;k_extra "m.name";refine oI ⟨ty_list (.tail (.tail (.tail (.tail (.tail atr))))),d4 (k:=0) (.tail _ (.tail _ (.tail _ (.tail _ (.tail _ atr.mem))))) rfl (by rw[aaa];exact aab yV '2') ?_⟩;let LR:=wm (es:=gM gs) (ep:=ge) (cells':=λLR=>(l2,.list ((old++ws).map .str))::(s1,.list (ws.map .str))::(d1,.list [])::(g,.map (gM (lL w l2 (old++ws) gs)) LR)::(l,.list (bv rs))::(gC gs++bL rs)) (λLR=>?_) (by rw[gM,aaa];exact MK hz hl hi);rw[Kz w l2 (old++ws)];exact .tail (.tail (.tail .head));let D hD:=eE (KB w l2 (old++ws) (s1,.list (ws.map .str)) (d1,.list []) (bL rs) gs);have Rj:aq ((g,.map (gM (lL w l2 (old++ws) gs)) LR)::(l,.list (bv rs))::(gC (lL w l2 (old++ws) gs)++bL rs)) ((l2,.list ((old++ws).map .str))::(s1,.list (ws.map .str))::(d1,.list [])::(g,.map (gM (lL w l2 (old++ws) gs)) LR)::(l,.list (bv rs))::(gC gs++bL rs)) ((s1,.list (ws.map .str))::(d1,.list [])::(D++[])):=.cons (.tail (.tail (.tail .head))) (.cons (.tail (.tail (.tail .head))) (on hD (bD (bD bZ D) [_,_])));show W.into Rj;change EB _ _ _ _ _ _;left;refine hN _ (eY (lL w l2 (old++ws) gs) LR _ ⟨rfl,?_,?_,λe ig=>?_⟩);rw[FK,aaK,rP,aaj];unfold vp at he⊢;rw[ab4,←he,←Z9];rfl;exact aab (CJ w l2 (old++ws) gs) (acD hl);rcases CK ig with h|h;rw[h,aar];exact MN Se p5;have:=hb e h;exact abT this
 let gs ge p he hl hb:=uh;symm;refine ay _ _ ((g,.map (gM gs) ge)::gC gs) _ (.cons .head (bR (gj (gC gs)))) (eY g gs ge ⟨rfl,?_,rfl⟩);rw[he,bv,aaa,abi]
end
variable{rs:FJ}
section
open PySem.Builtin PySem.Builtin.Str
variable{s:String}
def uP:List Nat→List (List Nat)|[]=>[]|[c]=>[[c]]|c::d::t=>if c=92 then[c,d]::uP t else[c]::uP (d::t)
def fK(l:List Nat):Str:=⟨l.toArray⟩
def j_(total:Nat):List (List Nat)→Nat→Str→Str|[],_,b=>b|u::t,m,b=>if u=[34]then j_ total t (m+1) b else if(u=[40]∨u=[41])∧(m%2=0∨m=total)then j_ total t m (b++fK u)else j_ total t m b
inductive Red:Nat→Str→Str→Prop
 |done:∀{k b} (h:Bv b "()"=false),Red k b b
 |step:∀{k b b'} (h:Bv b "()"=true) (hb:b.length≤5000) (h2:Red k (ada b "()" "") b'),Red (k+1) b b'
theorem vq{d:Nat}(hs:aby s=⟨#[k]⟩):((⟨#[d]⟩:Str)==aby s)=decide (d=k):=by rw[hs];by_cases h:d=k;subst h;simp;simp[h]
theorem ka{u k:List Nat}(hs:aby s=fK k):(fK u==aby s)=decide (u=k):=by rw[hs];by_cases h:u=k;subst h;simp;have:¬fK u=fK k:=λq=>h (by have:=congrArg (λz:Str=>z.cps.toList) q;simpa [fK]using this);simp[h,this]
theorem KC:∀l:List (List Nat),(l.map fK).count (aby "\"")=l.count [34]:=by intro l0;induction l0 with|nil=>exact rfl|cons u t ih=>rw[aan,abL,abL,ih,ka (k:=[34]) '2'];by_cases h:u=[34]<;>simp[h]
theorem lM(u:List Nat):(fK u).length=u.length:=rfl
abbrev Aa(x:Str)(us pl mk br un:Option AV):List (Str×Option AV):=[("line",some (.str x)),("units",us),("place",pl),("marks",mk),("bare",br),("unit",un)]
abbrev uV(us:List (List Nat)):List AV:=(us.map fK).map .str
theorem vt{b':Str}(hz:x.length≤1000)(Rk:∀l,x.cps.toList≠l++[92])(hR:Red k (j_ ((uP x.cps.toList).count [34]) (uP x.cps.toList) 0 "") b'):FC K0 (n+2) 924 [.str x] [] [] (λv C=>v= .bool (b'=="")∧C=[]) (λe C=>False):=by
 show aB (fx:=ei) pJ pI pM;intro c Q' E' hK hd aZ hc ay aL bz;show ah;symm;refine⟨aaD _,λl=>?_⟩;symm;show gy (λm S=>∃don rest,x.cps.toList=don.flatten++rest∧uP x.cps.toList=don++uP rest∧m=rest.length∧don.length≤don.flatten.length∧S=⟨Aa x (some (.ref l)) (some (.int don.flatten.length)) none none none,[(l,.list (uV don))]⟩) x.cps.toList.length (ba [] x.cps.toList ⟨rfl,rfl,rfl,aak _,rfl⟩);intro m S1 N Wn;let don rest h1 h2 r4 vO r6:=nX Wn;subst r4;subst r6;intro hN;have hlen:x.length=don.flatten.length+rest.length:=by have:=congrArg aaV h1;rw[aar,aaQ]at this;exact this
 left;show fV (aab hz '2');left;cases rest with
 |nil=>
  show aY (by simp[hlen]);have h2:uP x.cps.toList=don++[]:=h2;rw[aaO]at h2;rw[h2]at hR;clear hN;left;have KD:don.length≤1000:=aab vO (by have:=hlen;rw[ady]at this;exact To hz this);generalize don.flatten.length=pl at vO;generalize Z_:j_ (don.count [34]) don 0 ""=R0 at hR;show eI (xs:=uV don) (l:=l) (λi S=>∃mk:Nat,∃br un,S=⟨Aa x (some (.ref l)) (some (.int pl)) (some (.int mk)) (some (.str br)) un,[(l,.list (uV don))]⟩∧j_ (don.count [34]) (don.drop i) mk br=R0∧br.length≤3*i) ?_ ?_ ?_
  ·k_extra "m.name";exact⟨rfl,.head _,0,"",none,rfl,Z_,aak _⟩
  intro i;let mk br un z4:=rJ;exact .head _
  ·intro i y S1 N2 hy;revert S1;let mk br un he hb:=nZ;intro zX;unfold uV at hy;rw[aag,aag]at hy;let z tO r2:=ak (aaq.mp hy);subst r2;let u hu r2:=ak (aaq.mp tO);subst r2;have Hz:don.drop i=u::don.drop (i+1):=(by let q1 q2:=eE (aav.mp hu);rw[acy q1,q2]);rw[Hz]at he;unfold j_ at he;refine⟨_,by k_extra "m.at",?_⟩;show ah;left;by_cases q1:u=[34]
   ·show bA (by rw[ka (k:=[34]) '2'];exact decide_eq_true q1);left;rw[if_pos q1]at he;exact zX _ (eY (mk+1) br _ ⟨rfl,he,by exact abT hb⟩)
   show aY (by rw[ka (k:=[34]) '2'];simp[q1]);rw[if_neg q1]at he;left;refine⟨aae rfl,λl2=>?_⟩;show kn (xs:=["(",")"]) (.head _);have xI:∀S':SS,¬((u=[40]∨u=[41])∧(mk%2=0∨mk=don.count [34]))→S'=⟨Aa x (some (.ref l)) (some (.int pl)) (some (.int mk)) (some (.str br)) (some (.str (fK u))),[(l,.list (uV don))]⟩→N2 S':=(by rintro S' h rfl;rw[if_neg h]at he;exact zX _ (eY mk br _ ⟨rfl,he,by exact abT hb⟩));have Wo:(["(",")"]:List Str).contains (fK u)=decide (u=[40]∨u=[41]):=(by have e2:=ka (u:=u) (k:=[41]) (s:=")") '2';simp only[List.contains_cons,List.contains_nil,Bool.or_false];rw[(ka (u:=u) (k:=[40]) (s:="(") '2'),e2];by_cases a:u=[40]<;>by_cases b:u=[41]<;>simp[a,b]);rw[Wo];left;by_cases q2:u=[40]∨u=[41]
   ·show bA (decide_eq_true q2);left;show iz '2';left;have Rl:mk%2=0∨mk=don.count [34]→∀S':SS,S'=⟨Aa x (some (.ref l)) (some (.int pl)) (some (.int mk)) (some (.str (br++fK u))) (some (.str (fK u))),[(l,.list (uV don))]⟩→N2 S':=(by rintro h S' rfl;rw[if_pos ⟨q2,h⟩]at he;refine zX _ (eY mk (br++fK u) _ ⟨rfl,he,?_⟩);rw[bg,lM];rcases q2 with rfl|rfl<;>(change br.length+1≤_;exact Md hb));have HF:br.length+(fK u).length≤ac_:=(by have Fe:=(aav.mp hu).1;exact aab (show _≤4000 by exact Mh KD hb (by rcases q2 with rfl|rfl<;>exact aak _:(fK u).length≤1) Fe) '2');rw[(by rw[Int.fmod_eq_emod_of_nonneg _ '2'];rfl:Int.fmod (mk:Int) 2=((mk%2:Nat):Int))];by_cases q3:mk%2=0
    ·show bA (by simp[q3]);show bA rfl;show W.forget (D:=[_]);left;show cz HF;left;exact Rl (.inl q3) _ rfl
    show aY (by simp;exact λq=>q3 (Int.ofNat_inj.mp q));left;show wu (xs:=don.map fK) '0';rw[(KC don:(don.map fK).count (aby "\"")=don.count [34])];left;by_cases q4:mk=don.count [34]
    ·show bA (by simp[q4]);show bA rfl;show W.forget (D:=[_]);left;show cz HF;left;exact Rl (.inr q4) _ rfl
    show aY (by simp;exact λq=>q4 (Int.ofNat_inj.mp q));show W.forget (D:=[_]);left;exact xI _ (λh=>h.2.elim q3 q4) rfl
   show aY (by simp[q2]);show fY;left;exact xI _ (λh=>q2 h.1) rfl
  let mk br un he hb:=nZ;left;have he:br=R0:=(by rw[uV,aaa,aaa,List.drop_length]at he;exact he);subst he;show gy (λm S=>∃b,S=⟨Aa x (some (.ref l)) (some (.int pl)) (some (.int mk)) (some (.str b)) un,[(l,.list (uV don))]⟩∧Red m b b') k ⟨br,rfl,hR⟩;intro m S2 N3;revert S2;let b hr:=TE;intro Wk;left;cases hr with|done h=>rw[h];left;exact ay _ _ [] _ .nil ⟨rfl,rfl⟩|step h UT h2=>rw[h];show bA rfl;refine ah (Jw (kr '2' ?_));k_extra "m.name";refine⟨b,rfl,by change b.length+(b.length+1)*0≤_;exact aab UT (aae rfl),?_⟩;left;exact Wk _ _ (abw _) ⟨_,rfl,h2⟩
 |cons d rest=>
  have FO:don.flatten.length<x.length:=(by rw[hlen,aaF];exact Mv);have pi:x.cps[don.flatten.length]? =some d:=(by rw[←adG,h1,acX (aak _),adv];rfl);show bA (by simp[hlen];exact Int.lt_add_succ _ _);left;show JV;left;show Je pi (aab hz '2');left;have key:∃u vu,d::rest=u++vu∧uP (d::rest)=u::uP vu∧u.length=if d=92 then 2 else 1:=by cases rest with|nil=>refine ba [d] [] ⟨rfl,rfl,?_⟩;rw[if_neg];rfl;intro h;subst h;exact Rk _ h1|cons e rest=>by_cases yW:d=92;exact ba [d,e] rest ⟨rfl,by rw[uP,if_pos yW],by rw[if_pos yW];rfl⟩;exact ba [d] (e::rest) ⟨rfl,by rw[uP,if_neg yW],by rw[if_neg yW];rfl⟩
  let u vu k1 k2 k3:=bG key;have LN:=congrArg aaV k1;rw[aaF,aar]at LN;have HG:∀j:Nat,u.length=j→b8 x (some (don.flatten.length:Int)) (some ((don.flatten.length+j:Nat):Int))=fK u:=λj hj=>(by rw[mM x (aa5 _ _) (by rw[hlen,aaF];exact MG LN hj),(by rw[h1,List.drop_left]:x.cps.toList.drop don.flatten.length=d::rest),k1,Nat.add_sub_cancel_left,←hj,List.take_left];rfl);have Yi:1≤u.length:=(by rw[k3];split<;>decide);have qf:∀S':SS,S'=⟨Aa x (some (.ref l)) (some (.int ((don.flatten.length:Int)+(u.length:Int)))) none none none,[(l,.list (uV don++[.str (fK u)]))]⟩→N S':=(by rintro S' rfl;have Wp:(don++[u]).flatten=don.flatten++u:=(by rw[adj];simp);refine hN vu.length _ (by rw[aaF];exact MH LN Yi) (ba (don++[u]) vu ⟨?_,?_,rfl,?_,?_⟩);rw[Wp,h1,k1,aaw];rw[h2,k2,aaw];rfl;rw[Wp,aar,aar,abC];exact aam vO Yi;rw[Wp,aar];unfold uV;rw[aaj,aaj];simp);by_cases yW:d=92
  ·show bA (by rw[vq (k:=92) '2'];exact decide_eq_true yW);rw[if_pos yW]at k3;have hp:b8 x (some (don.flatten.length:Int)) (some ((don.flatten.length:Int)+2))=fK u:=HG 2 k3;left;refine eY x (some _) (some _) ⟨rfl,rfl,rfl,?_,?_⟩;rw[hp,lM,k3];decide;rw[hp];left;show aS ⋯ (by rw[aaa,aaa];exact aab vO (aab (show don.flatten.length≤1000 by exact xd hz FO) '2'));left;show d6;left;refine⟨1,rfl,?_⟩;left;show iB (ys:=uV don) (x:=.str (fK u)) '0' (by rw[aaa,aaa];exact aaC vO (aaC (show don.flatten.length≤1000 by exact xd hz FO) '2'));left;show fV (by rw[lM,k3];decide);left;exact qf _ rfl
  show aY (by rw[vq (k:=92) '2'];simp[yW]);rw[if_neg yW]at k3;have hp:b8 x (some (don.flatten.length:Int)) (some ((don.flatten.length:Int)+1))=fK u:=HG 1 k3;left;refine eY x (some _) (some _) ⟨rfl,rfl,rfl,?_,?_⟩;rw[hp,lM,k3];decide;rw[hp];left;show aS ⋯ (by rw[aaa,aaa];exact aab vO (aab (show don.flatten.length≤1000 by exact xd hz FO) '2'));left;show d6;left;refine⟨1,rfl,?_⟩;left;show iB (ys:=uV don) (x:=.str (fK u)) '0' (by rw[aaa,aaa];exact aaC vO (aaC (show don.flatten.length≤1000 by exact xd hz FO) '2'));left;show fV (by rw[lM,k3];decide);left;exact qf _ rfl
end
section
open PySem.Builtin PySem.Builtin.Str
variable{B:Nat} {w:Str}
theorem wZ{f:α→Nat}:∀{l:List α},(∀y∈l,f y≤B)→(l.map f).sum≤l.length*B:=by intro l0;induction l0 with|nil=>exact λzz=>aaD _|cons a t ih=>intro h;rw[aan,adh,aaF,Nat.succ_mul,Nat.add_comm];exact aam (ih λy hy=>h y (.tail _ hy)) (h a (.head _))
theorem yq{B k:Nat}:∀{l:List Str} {a:Nat},(∀y∈l,y.length≤B)→l.foldl (λa y=>a+y.length+k) a≤a+l.length*(B+k)|[],a,_=>aa5 _ _|y::t,a,h=>by have h2:=h y (.head _);rw[aaF,Nat.succ_mul];exact No (yq (k:=k) (a:=a+y.length+k) λz hz=>h z (.tail _ hz)) h2
theorem jI{l:List Str}(h:∀y∈l,y.length≤B)(hl:l.length*(B+sep.length)≤100000):(l.toArray.foldl (·+·.length+sep.length) 0)≤lim∧(glued sep l).length≤lim∧(glued sep l).length≤l.length*(B+sep.length):=by
 have h1:l.toArray.foldl (·+·.length+sep.length) 0=l.foldl (λa y=>a+y.length+sep.length) 0:=by simp
 have h3:(glued sep l).length≤l.length*(B+sep.length):=by rw[size_glued,Nat.mul_add];exact aam (wZ h) (abx _ (Nat.sub_le _ _))
 refine⟨?_,aab h3 (aab hl '2'),h3⟩;rw[h1];exact aab (yq (k:=sep.length) (a:=0) h) (aab (by exact abe hl _) (show 100000≤lim by decide))
def iM(w:Str):List Str:=w.cps.toList.map λd=>if d=39 then"'\"'\"'"else⟨#[d]⟩
def hU(w:Str):Str:=if w="a"∨w="aa"then w else"'"++glued "" (iM w)++"'"
def gL(ws:List Str):Str:=glued " " (ws.map hU)
theorem iu:(iM w).length=w.length:=by unfold iM;rw[aaa];rfl
theorem yr:∀y∈iM w,y.length≤5:=by intro y hy;let d z1 r2:=ak (aaH.mp hy);subst r2;split;decide;exact(by change 1≤5;decide)
theorem CL(h:w.length≤10):(hU w).length≤60:=by unfold hU;split;exact aab h (aae rfl);rw[bg,bg];have h1:=(jI (sep:="") (l:=iM w) yr (by rw[iu];change w.length*5≤_;exact GG h)).2.2;rw[iu]at h1;change 1+_+1≤60;exact Nq h (h1:(glued "" (iM w)).length≤w.length*5)
abbrev HH(l:Addr)(wr wd ir:Option AV):List (Str×Option AV):=[("words",some (.ref l)),("written",wr),("word",wd),("inner",ir)]
theorem KE{ws:List Str}(hz:ws.length≤10)(hw:∀w∈ws,w.length≤10):FC K0 (n+2) 917 [.ref l] [] [(l,.list (ws.map .str))] (λv C=>v= .str (gL ws)∧C=[(l,.list (ws.map .str))]) (λe C=>False):=by
 show fP (fx:=fH) sK sJ sS;intro c Q' E' hK hd aZ hc bl ay aL bz;show ah;symm;refine⟨aaD _,λo=>?_⟩;symm;show eI (xs:=ws.map .str) (l:=l) (λi S=>∃wd ir,S=⟨HH l (some (.ref o)) wd ir,[(o,.list (((ws.take i).map hU).map .str)),(l,.list (ws.map .str))]⟩) ?_ ?_ ?_
 ·k_extra "m.name";exact⟨rfl,.tail _ (.head _),none,none,rfl⟩
 intro i;let wd ir:=ui;exact .tail _ (.head _)
 ·intro i y S1 N hy;revert S1;let wd ir:=ui;intro hN;rw[aag]at hy;let w tU r2:=ak (aaq.mp hy);subst r2;have hm:=aaA tU;have hi:=(aav.mp tU).1;refine⟨_,by k_extra "m.at",?_⟩;show ah;left;refine⟨aae rfl,λl2=>?_⟩;show kn (xs:=["a","aa"]) (.head _);have zX:∀S':SS,(∃ir,S'=⟨HH l (some (.ref o)) (some (.str w)) ir,[(o,.list (((ws.take i).map hU).map .str++[.str (hU w)])),(l,.list (ws.map .str))]⟩)→N S':=(by let ir:=Be;refine hN _ (ba (some (.str w)) ir ?_);rw[(by rw[aaK,tU];rfl:ws.take (i+1)=ws.take i++[w]),aaj,aaj];rfl);have vm:(((ws.take i).map hU).map AV.str).length≤lim:=(by rw[aaa,aaa];exact aab (abh _ _) (aab hz '2'));left;by_cases q:w="a"∨w="aa"
  ·show bA (by simp[q]);show fY;left;show aS ⋯ vm;left;have:hU w=w:=if_pos q;refine zX _ ⟨ir,?_⟩;rw[this]
  show aY (by simp;simpa using q);show fY;refine ah (mz (xs:=["sign"]) (cl:=[]) (gl:=[]) ⟨by rw[bl];kernel_rfl,by with_unfolding_all decide,by with_unfolding_all rfl,by with_unfolding_all decide,by with_unfolding_all decide,by decide,λp hp=>nomatch hp⟩ ?_ (by rw[bl];kernel_rfl));k_extra "m.name";refine CA.go (P:=iT w) (λu hu=>Et hu) EH (λD=>by k_extra "m.at") λD m L=>LP.loop rfl eR (signs w) (λj S=>∃sg,S=⟨[("sign",sg)],(D,.list (((iM w).take j).map .str))::[(o,.list (((ws.take i).map hU).map .str)),(l,.list (ws.map .str))]⟩) ⟨none,rfl⟩ ?_ ?_
  ·intro j y S1 hx;revert S1;let sg:=Be;let d hd2 r2:=ak (signs_at hx);subst r2;have I1:(iM w).take (j+1)=(iM w).take j++[if d=39 then("'\"'\"'":Str)else⟨#[d]⟩]:=(by rw[aaK,iM,aag,adG,hd2];rfl);refine⟨Eu hx,cA ⋯ (iD ?_)⟩;rw[if_pos rfl];refine .inl ⟨rfl,?_⟩;have qf:∀S':SS,∀z:Str,z=(if d=39 then("'\"'\"'":Str)else⟨#[d]⟩)→S'=⟨[("sign",some (.str ⟨#[d]⟩))],(D,.list (((iM w).take j).map .str))::[(o,.list (((ws.take i).map hU).map .str)),(l,.list (ws.map .str))]⟩→∃ys cells',aI D (.list ys) (.list (ys++[AV.str z])) S'.cells cells'∧ys.length≤lim∧∃sg,(⟨S'.loc,cells'⟩:SS)=⟨[("sign",sg)],(D,.list (((iM w).take (j+1)).map .str))::[(o,.list (((ws.take i).map hU).map .str)),(l,.list (ws.map .str))]⟩:=(by rintro S' z rfl rfl;refine ba _ _ ⟨by k_extra "m.at",?_,some (.str ⟨#[d]⟩),?_⟩;rw[aaa];exact aab (abh _ _) (by rw[iu];exact aab (hw w hm) '2');rw[I1,aaj];rfl);left;by_cases HI:d=39
   ·show bA (by rw[vq (k:=39) '2'];exact decide_eq_true HI);left;exact qf _ _ (if_pos HI).symm rfl
   show aY (by rw[vq (k:=39) '2'];simp[HI]);left;exact qf _ _ (if_neg HI).symm rfl
  let sg:=Be;refine⟨Ev hd,?_⟩;have:(iM w).take (signs w).length=iM w:=(by rw[abd];rw[iu,qQ];exact aak _);rw[this];left;have hj:=jI (sep:="") (l:=iM w) yr (by rw[iu];change w.length*5≤_;have:=hw w hm;exact GG this);show mo '0' hj.1 hj.2.1;have Yj:(glued "" (iM w)).length≤50:=aab hj.2.2 (by rw[iu];change w.length*5≤_;have:=hw w hm;exact NG this);show cz (aab (show _≤60 by change 1+_≤60;exact NJ Yj) '2');left;show cz (aab (show _≤60 by rw[bg];change 1+_+1≤60;exact NL Yj) '2');left;show aS ⋯ vm;show W.forget (D:=[_]);change EB _ _ _ _ _ _;left;have:hU w="'"++glued "" (iM w)++"'":=if_neg q;rw[←this];exact zX _ ⟨_,rfl⟩
 let wd ir:=ui;symm;have:(ws.map hU).take (ws.map AV.str).length=ws.map hU:=by rw[aaa,abd];rw[aaa];exact aak _
 rw[List.map_take,this];have hj:=jI (sep:=" ") (l:=ws.map hU) (B:=60) (λy hy=>by refine ak (aaH.mp hy) λz tO r2=>?_;obtain rfl:=r2;exact CL (hw z tO)) (by rw[aaa];change ws.length*61≤_;exact aab (abx 61 hz) (aae rfl));show mo '0' hj.1 hj.2.1;symm;exact ay _ _ _ [_] (bD bZ [_]) ⟨rfl,rfl⟩
end
section
open PySem.Builtin PySem.Builtin.Str
theorem mP(h:wS fx (loc.map (λx=>x.1))=true)(hb:∀L,(binds.all λx=>fx.cs.names.lookup x.1==some .local||(fx.cs.names.lookup x.1==some .cell&&((aco (L+1) fx.cs.names []).lookup x.1).isSome))=true)(hv:loc.map (λp=>(bindL (λx=>fx.cs.names.lookup x) binds (λzz=>none) p.1).map ab)=loc.map (λx=>x.2))(hcv:cs.map (λp=>(bindC (λx=>fx.cs.names.lookup x) binds (λzz=>none) p.1).map ab)=cs.map (λx=>x.2.2))(hc:∀L,cs.map (λe=>(aco (L+1) fx.cs.names []).lookup e.1)=cs.map λe=>some (L+1+e.2.1)) (hn:(cs.map (λx=>x.2.1)).Nodup):mA fx binds loc cs:=by unfold wS at h;simp only[aaM,decide_eq_true_eq,aaZ,beq_iff_eq,ab3]at h;refine⟨h.1,h.2,λL y hy=>?_,ng hv,λL=>ng (hc L),ng hcv,hn⟩;have:=aaZ.mp (hb L) y hy;simpa using this
theorem Rm{vs:List Value}{a b d e:AV}(h:vs.map ab=[a,b,d,e]):∃v u y z,vs=[v,u,y,z]∧ab v=a∧ab u=b∧ab y=d∧ab z=e:=by let v r r2 h1 h2:=bG (abK.mp h);subst r2;let u y z r3 h3 h4 h5:=eN (ur h2);subst r3;exact p6 v u y z ⟨rfl,h1,h3,h4,h5⟩
theorem CM{K:Frag}{b:List Stmt}(k:Obj)(h:autoParam (VF K fx k=VG fx k b false false) apK):q9 K fx (fdOf k) b:=
 have a:=congrArg (λx=>x.2.1) h
 have c:=congrArg (λx=>x.2.2.1) h
 have d:=congrArg (λx=>x.2.2.2) h
 ⟨(eY _ _ _ (congrArg (λx=>x.1) h)),congrArg (λx=>x.1) a,congrArg (λx=>x.2.1) a,congrArg (λx=>x.2.2.1) a,congrArg (λx=>x.2.2.2) a,congrArg (λx=>x.1) c,congrArg (λx=>x.2.1) c,congrArg (λx=>x.2.2.1) c,congrArg (λx=>x.2.2.2) c,congrArg (λx=>x.1) d,congrArg (λx=>x.2.1) d,congrArg (λx=>x.2.2.1) d⟩
theorem tr(P:aao):q9 (K0 P) bJ (lr P) uU:=CM (Top.Ip P)
abbrev tu(a0:AV):List (Str×Option AV):=[("script",some a0)]
abbrev tv(a0:AV):List (Str×Nat×Option AV):=[("pieces",0,none),("words",1,none)]
theorem tw:∀(s:aas) (P:aao),(K0 P).In s.heap→∀pos kws,pos.map ab=[a0]→kws.map (λp=>(p.1,ab p.2))=[]→∃binds,ac9 s (lr P) ⟨pos,kws⟩ binds∧mA bJ binds (tu a0) (tv a0):=by intro s P _ pos kws hp hk;obtain rfl:=kws_nil hk;let v0 r1 r2:=ak (cP hp);subst r1;subst r2;exact⟨[("script",v0)],.of_eq '3',mP '3' (λL=>by kernel_rfl) '3' '3' (λL=>by kernel_rfl) (show([0,1]:List Nat).Nodup by decide)⟩
theorem tx(P:aao):q9 (K0 P) bK (lx P) uY:=CM (Top.Iy P)
abbrev tz(a0 a1 a2 a3:AV):List (Str×Option AV):=[("names",some a0),("given",some a2),("free",none),("mine",none),("last",none)]
abbrev tA(a0 a1 a2 a3:AV):List (Str×Nat×Option AV):=[("edges",0,some a1),("done",1,some a3),("name",2,none)]
theorem tC{a1 a2 a3:AV}:∀(s:aas) (P:aao),(K0 P).In s.heap→∀pos kws,pos.map ab=[a0,a1,a2,a3]→kws.map (λp=>(p.1,ab p.2))=[]→∃binds,ac9 s (lx P) ⟨pos,kws⟩ binds∧mA bK binds (tz a0 a1 a2 a3) (tA a0 a1 a2 a3):=by intro s P _ pos kws hp hk;obtain rfl:=kws_nil hk;let v0 v1 v2 v3 r4 r5 r6 r7 r8:=lY (Rm hp);subst r4;subst r5;subst r6;subst r7;subst r8;exact⟨[("names",v0),("edges",v1),("given",v2),("done",v3)],.of_eq '3',mP '3' (λL=>by kernel_rfl) '3' '3' (λL=>by kernel_rfl) (show([0,1,2]:List Nat).Nodup by decide)⟩
theorem KG(P:aao):q9 (K0 P) bd (sQ P) da:=CM (Top.IA P)
abbrev KH(a0:AV):List (Str×Option AV):=[("script",some a0),("fields",none),("values",none),("told",none),("first",none),("names",none),("edges",none),("sorter",none),("held",none),("come",none),("name",none),("quiet",none)]
abbrev CN(a0:AV):List (Str×Nat×Option AV):=[("rows",0,none),("lines",1,none),("table",2,none),("every",3,none)]
theorem KI(s:aas)(P:aao)(v:Value):ac9 s (sQ P) ⟨[v],[]⟩ [("script",v)]:=.of_eq '3'
theorem KJ(v:Value):mA bd [("script",v)] (KH (ab v)) (CN (ab v)):=mP '3' (λL=>by kernel_rfl) '3' '3' (λL=>by kernel_rfl) (show([0,1,2,3]:List Nat).Nodup by decide)
theorem KL(P:aao):(sQ P).scope.names.lookup ("script":Str)=some .local:=by kernel_rfl
end
section
open PySem.Builtin PySem.Builtin.Str
variable{x:Addr}
theorem CP(P:aao)(v0 v1:Value):adb (gz P) ⟨[v0,v1],[]⟩=(newTuple [v1]>>=λt=>alloc emptyDict>>=λd=>pure ([("cls",v0),("args",t),("kwargs",.ref d)]:List (Str×Value))):=by kernel_rfl
theorem Rn:FC K0 (n+1) 238 [.ref 745,.str s] [] [] (λv C=>∃x d,v= .ref x∧C=[(x,.inst 745 d),(d,.dict [] 0)]) (λzz zz=>False):=by
 show FC.pr (fx:=ef) (B:=λD loc=>D=[]∧∃t d:Addr,loc=([("cls",some (.ref 745)),("args",some (.ref t)),("kwargs",some (.ref d))]:List (Str×Option AV))) kZ kY ?_;intro c S X A s1 pos kws ok hK hp hk R;obtain rfl:=kws_nil hk;let v0 v1 r2 h0 h1:=bG (fR hp);subst r2;rw[CP];refine aac (wpAny_newTuple (aac (wpAny_alloc (aal (ba [] _ ⟨?_,dB (loc:=[("cls",some (ab v0)),("args",some (.ref s1.heap.objs.size)),("kwargs",some (.ref (s1.heap.push {cls:=.type "tuple",data:=.seq [v1].toArray}).objs.size))]) '3' '3' '3',rfl,s1.heap.objs.size,(s1.heap.push {cls:=.type "tuple",data:=.seq [v1].toArray}).objs.size,by rw[h0]⟩)))) (by change 1≤ac_;decide));exact R.keeps (tk:=s1.toks) λb o e=>aap _ (aap _ e);intro c D loc Q' E' yW;let r0 t d r3:=IR yW;subst r0;subst r3;intro hK hd aZ hc bl ay aL bz;show ah;left;have k1:c.K.lookup 745=some (Top.Ic c.w.params):=by rw[hK];kernel_rfl
 show sz k1 (by rw[hK];kernel_rfl:c.K.lookup 498=some (Top.Om c.w.params)) '2' '3';left;show qg;iterate 6 k_extra "m.s1"
 show BQ (T:="object") (i:="object.__new__") '3' (by decide+kernel) (by rw[hK];kernel_rfl) '3';k_extra "m.name";refine⟨rfl,?_⟩;left;let x d:=uK (B:=.type "object") (p6 _ _ _ _ ⟨k1,by kernel_rfl,by kernel_rfl⟩) (by rw[hK];kernel_rfl) (by rw[hK];kernel_rfl) (by rw[hK];kernel_rfl) (by rw[hK];kernel_rfl);exact ay _ _ [(x,_),(d,_)] _ '1' (ba x d ⟨rfl,rfl⟩)
theorem CR{b p:AV}:FC K0 (n+1) 522 [.ref x,.str s] [] [(x,.inst 745 d),(d,.dict (mJ (.str "\n") b p) k)] (λv C=>v= .str s∧C=[(x,.inst 745 d),(d,.dict (mJ (.str "\n") b p) k)]) (λzz zz=>False):=by show aB (fx:=bu) g7 gZ hH;intro c Q' E' hK hd aZ hc ay aL bz;show ah;left;exact ay _ _ [(x,_),(d,_)] _ '1' ⟨rfl,rfl⟩
theorem CS{a1:AV}:∀(s:aas) (P:aao),(K0 P).In s.heap→∀pos kws,pos.map ab=[a0,a1]→kws.map (λp=>(p.1,ab p.2))=[]→∃binds,ac9 s (dj P) ⟨pos,kws⟩ binds∧e7 bX binds [("self",some a0),("initial_value",some a1),("newline",some (.str "\n"))]:=by intro s P fg pos kws hp hk;obtain rfl:=kws_nil hk;let v0 v1 r2 r3 r4:=bG (fR hp);subst r2;subst r3;subst r4;refine⟨[("self",v0),("initial_value",v1),("newline",.str "\n" 981)],λM A E Q hq=>(acf (M:=M) fg (by kernel_rfl:peek (K0 P) ⟨M.prog,M.w.params⟩ (adb (dj P) ⟨[v0,v1],[]⟩)=some ([("self",v0),("initial_value",v1),("newline",.str "\n" 981)]:List (Str×Value)))).here hq,dB '3' '3' '3'⟩
theorem FP:FC K0 (n+2) 515 [.ref x,.str s] [] [(x,.inst 745 d),(d,.dict [] 0)] (λv C=>v= .none∧C=[(x,.inst 745 d),(d,.dict (mJ (.str "\n") (.str s) (.int 0)) 3)]) (λzz zz=>False):=by
 show aB (fx:=bX) jx jw CS;intro c Q' E' hK hd aZ hc ay aL bz;show ah;left;show j5;left;show j5;iterate 6 k_extra "m.s1"
 iterate 3
  refine ah (qY ?_)
  k_extra "m.ee"
  k_extra "m.in"
 left;refine iF (CR (n:=n) (x:=x) (d:=d) (s:=s) (b:=.str "") (p:=.int 0) (k:=3)) '1' hK hd (λv C TX=>?_) (λzz zz h=>h.elim);let hv hC:=eA TX;subst hv hC;dsimp only[aaT,aa0];left;exact aL _ [(x,_),(d,_)] _ '1' ⟨rfl,rfl⟩
theorem KM(P:aao):BP (K0 P) P 745 238 515 where
 obj:=(p6 _ _ _ _ ⟨(by kernel_rfl:(K0 P).lookup 745=some (Top.Ic P)),by kernel_rfl⟩)
 call:=by kernel_rfl
 typ:=by kernel_rfl
 made:=by kernel_rfl
 new:=(eY (.type "type") 242 [] ⟨by kernel_rfl,by kernel_rfl,by kernel_rfl,by kernel_rfl⟩)
 self:=by kernel_rfl
 init:=by kernel_rfl
 fn:=by kernel_rfl
theorem CT{E:EP}(hK:c.K=K0 c.w.params)(hd:c.hd=none)(h:∀x d,Q (.ref x) ⟨S.loc,(x,.inst 745 d)::(d,.dict (mJ (.str "\n") (.str s) (.int 0)) 3)::S.cells⟩):bM c (n+3) S (.ref 745) [.str s] Q E:=sy (m:=n+2) (hK▸KM c.w.params) hK hd (Rn (n:=n+1)) (λx dx=>(FC.frame (FP (n:=n) (x:=x) (d:=dx) (s:=s))).mono (aak _) (λzz zz z=>z) λzz zz h8=>ak h8 λz0 z z2=>z) (λx dx v C' ⟨C1,⟨h1,h2⟩,h3⟩=>⟨h1,by subst h2 h3;exact h x dx⟩) (aak _)
end
section
open PySem.Builtin PySem.Builtin.Str
theorem kw1{k:Str}{a:AV}(h:kws.map (λp=>(p.1,ab p.2))=[(k,a)]):∃v,kws=[(k,v)]∧ab v=a:=by let p q1 q2:=ak (List.map_eq_singleton_iff.mp h);subst q1;exact⟨p.2,by rw[←show p.1=k from congrArg Prod.fst q2],congrArg Prod.snd q2⟩
def wcS:Str:="abcdfeghijklmnopqrstuvwxyzABCDEFGHIJKLMNOPQRSTUVWXYZ0123456789_"++"ßàáâãäåæçèéêëìíîïðñòóôõöøùúûüýþÿÀÁÂÃÄÅÆÇÈÉÊËÌÍÎÏÐÑÒÓÔÕÖØÙÚÛÜÝÞ"
abbrev KN(io st lno tk p1 p2 cm ws:AV):List (Str×AV):=zN io .none (.bool true) .none cm (.str wcS) (.str " \t\r\n") ws (.str "'\"") (.str "\\") (.str "\"") st p1 lno (.int 0) tk p2 .none (.str "")
theorem KO{a1 a2:AV}:∀(s:aas) (P:aao),(K0 P).In s.heap→∀pos kws,pos.map ab=[a0,a1]→kws.map (λp=>(p.1,ab p.2))=([("posix",a2)]:List (Str×AV))→∃binds,ac9 s (eh P) ⟨pos,kws⟩ binds∧e7 c8 binds [("self",some a0),("instream",some a1),("infile",some .none),("posix",some a2),("punctuation_chars",some (.bool false)),("t",none)]:=by intro s P fg pos kws hp hk;let v2 r1 r2:=ak (kw1 hk);subst r1;subst r2;let v0 v1 r2 r3 r4:=bG (fR hp);subst r2;subst r3;subst r4;refine⟨[("self",v0),("instream",v1),("infile",.none),("posix",v2),("punctuation_chars",.bool false)],λM A E Q hq=>(acf (M:=M) fg (by kernel_rfl:peek (K0 P) ⟨M.prog,M.w.params⟩ (adb (eh P) ⟨[v0,v1],[("posix",v2)]⟩)=some ([("self",v0),("instream",v1),("infile",.none),("posix",v2),("punctuation_chars",.bool false)]:List (Str×Value)))).here hq,dB '3' '3' '3'⟩
theorem w4{x:Addr}:FC K0 (n+4) 804 [.ref x,.str s] [("posix",.bool true)] [(x,.inst 880 dx),(dx,.dict [] 0)] (λv C=>∃io d p1 p2,v= .none∧C=[(x,.inst 880 dx),(dx,.dict (KN (.ref io) (.str " ") (.int 1) (.str "") (.ref p1) (.ref p2) (.str "#") (.bool false)) 19),(io,.inst 745 d),(d,.dict (mJ (.str "\n") (.str s) (.int 0)) 3),(p1,.raw vM),(p2,.raw vM)]) (λzz zz=>False):=by
 show aB (fx:=c8) k_ k9 KO;intro c Q' E' hK hd aZ hc ay aL bz;show ah;left;show sw;left;let io d:=CT hK hd;iterate 10 k_extra "m.s1"
 iterate 2 k_extra "m.nw"
 k_extra "m.s1";k_extra "m.nw";k_extra "m.s1";iterate 6 k_extra "m.s1"
 k_extra "m.nw";k_extra "m.s1";iterate 2 k_extra "m.nw"
 left;show dK (by decide+kernel);iterate 2 k_extra "m.s1"
 iterate 6 k_extra "m.nw"
 refine ah (qY ?_);iterate 2 k_extra "m.s1"
 let p1:=pq;k_extra "m.in";iterate 3 k_extra "m.nw"
 refine ah (qY ?_);iterate 2 k_extra "m.s1"
 let p2:=pq;k_extra "m.in";k_extra "m.nw";show ah;iterate 11 k_extra "m.s1"
 k_extra "m.nw";left;show aL _ [(x,_),(dx,_),(io,_),(d,_),(p1,_),(p2,_)] _ '1';exact p6 io d p1 p2 ⟨rfl,rfl⟩
end
section
open PySem.Builtin PySem.Builtin.Str
variable{x:Addr}
theorem FQ{a1 a2 a3 a4 a5 a6 a7 a8 a9 a18:AV}(hh:hand a18=true):FC K0 (n+1) 811 [.ref x] [] [(x,.inst 880 dx),(dx,.dict (zN a0 a1 a2 a3 a4 a5 a6 a7 a8 a9 a10 a11 a12 a13 a14 a15 a16 a17 a18) k)] (λv C=>v=a18∧C=[(x,.inst 880 dx),(dx,.dict (zN a0 a1 a2 a3 a4 a5 a6 a7 a8 a9 a10 a11 a12 a13 a14 a15 a16 a17 a18) k)]) (λzz zz=>False):=by show aB (fx:=bn) ga f_ gh;intro c Q' E' hK hd aZ hc ay aL bz;refine ah (xZ (Hk ?_));k_extra "m.name";show BR ⋯ ⋯ (VJ (by assumption) ⋯) ⋯ hh;exact ay _ _ [(x,_),(dx,_)] _ '1' ⟨rfl,rfl⟩
theorem Wq{E:EP}{a1 a2 a3 a4 a5 a6 a7 a8 a9:AV}(hK:c.K=K0 c.w.params)(hd:c.hd=none)(hx:At (xn,some (.ref x)) loc)(h:Q (.str "") ⟨loc,(x,.inst 880 dx)::(dx,.dict (zN a0 a1 a2 a3 a4 a5 a6 a7 a8 a9 a10 a11 a12 a13 a14 a15 a16 a17 (.str "")) k)::D⟩):EE c (n+2) ⟨loc,(x,.inst 880 dx)::(dx,.dict (zN a0 a1 a2 a3 a4 a5 a6 a7 a8 a9 a10 a11 a12 a13 a14 a15 a16 a17 (.str "")) k)::D⟩ (.Attribute (.Name xn pn) "punctuation_chars" pp) Q E:=JG hx .head (.tail .head) (ZJ hK) (FQ (n:=n) rfl) (.cons .head (.cons .head .nil)) hK hd (λv C' J3=>by refine eA J3 λh1 h2=>?_;exact⟨by rw[h1];rfl,by rw[h1,h2];exact h⟩) (aak _)
end
section
open PySem.Builtin PySem.Builtin.Str
abbrev c6(x dx io d p1 p2:Addr)(st tk:AV)(s:Str)(p k:Nat):Cells:=[(x,.inst 880 dx),(dx,.dict (KN (.ref io) st (.int 1) tk (.ref p1) (.ref p2) (.str "") (.bool true)) k),(io,.inst 745 d),(d,.dict (mJ (.str "\n") (.str s) (.int p)) 3),(p1,.raw vM),(p2,.raw vM)]
abbrev gO(x:Addr)(q e nc r:Option AV):List (Str×Option AV):=[("self",some (.ref x)),("quoted",q),("escapedstate",e),("nextchar",nc),("result",r)]
def vP:List Stmt:=match pN cF 2 with
 | .While _ b _ _=>b
 |_=>[]
def tD:List Stmt→List Stmt|[.If _ _ o _]=>o|_=>[]
def KQ:List Stmt→List Stmt|[.If _ b _ _]=>b|_=>[]
def HJ:List Stmt:=KQ (tD (tD (tD (tD (vP.drop 3)))))
section
variable{c:Cx} {n:Nat} {x dx io d p1 p2:Addr} {st:AV} {s t:Str} {p k:Nat} {q:Bool} {e nc:Option AV} {Q:FL→SS→Prop} {E:EP}
theorem CU(hK:c.K=K0 c.w.params)(hd:c.hd=none)(aZ:c.fx=ai)(hc:c.comp=false)(hs:s.length≤100000)(hp:p≤s.length)(hn:(lF s p=="\n")=false)(h:EB c (n+3) ⟨gO x (some (.bool q)) e (some (.str (lF s p))) none,c6 x dx io d p1 p2 st tk s (if p<s.length then p+1 else p) k⟩ (vP.drop 3) Q E):EB c (n+3) ⟨gO x (some (.bool q)) e nc none,c6 x dx io d p1 p2 st tk s p k⟩ vP Q E:=by show ah;left;refine aH (Kk (n:=n) (x:=io) (d:=d) (nl:=.str "\n") (k:=3) hs hp) '1' hK hd (λv C Wr=>?_) (λzz zz h=>h.elim);let hv hC:=eA Wr;subst hv hC;refine⟨[(x,_),(dx,_),(io,_),(d,_),(p1,_),(p2,_)],by k_extra "m.picks",?_⟩;left;rw[hn];repeat(first|((with_reducible change EB _ _ _ [_] _ _);exact h)|k_extra "m.s1")
inductive RS|w|a|q1|q2
def Yk:RS→AV| .w=>.str " "| .a=>.str "a"| .q1=>.str "'"| .q2=>.str "\""
theorem jJ{t:Str}(h:t.length≤100000):t.length+(⟨#[ch]⟩:Str).length≤ac_:=aab (ab8 h 1) '2'
section
variable{N:SS→Prop} {j:Nat}
theorem CV(hK:c.K=K0 c.w.params)(hd:c.hd=none)(aZ:c.fx=ai)(hc:c.comp=false){e:AV}(h:Q .next ⟨gO x (some (.bool q)) (some e) (some (.str "")) none,c6 x dx io d p1 p2 .none tk s j k⟩):EB c (n+3) ⟨gO x (some (.bool q)) (some e) (some (.str "")) none,c6 x dx io d p1 p2 (.str " ") tk s j k⟩ (vP.drop 3) (au N Q) E:=by show ah;left;exact h
theorem KR(hK:c.K=K0 c.w.params)(hd:c.hd=none)(aZ:c.fx=ai)(hc:c.comp=false){e:AV}(h:N ⟨gO x (some (.bool q)) (some e) (some (.str ⟨#[97]⟩)) none,c6 x dx io d p1 p2 (.str "a") (.str ⟨#[97]⟩) s j k⟩):EB c (n+3) ⟨gO x (some (.bool q)) (some e) (some (.str ⟨#[97]⟩)) none,c6 x dx io d p1 p2 (.str " ") tk s j k⟩ (vP.drop 3) (au N Q) E:=by show ah;left;exact h
theorem KS{e:AV}(hK:c.K=K0 c.w.params)(hd:c.hd=none)(aZ:c.fx=ai)(hc:c.comp=false)(h:N ⟨gO x (some (.bool q)) (some e) (some (.str ⟨#[39]⟩)) none,c6 x dx io d p1 p2 (.str "'") tk s j k⟩):EB c (n+3) ⟨gO x (some (.bool q)) (some e) (some (.str ⟨#[39]⟩)) none,c6 x dx io d p1 p2 (.str " ") tk s j k⟩ (vP.drop 3) (au N Q) E:=by show ah;left;exact h
theorem KT{e:AV}(hK:c.K=K0 c.w.params)(hd:c.hd=none)(aZ:c.fx=ai)(hc:c.comp=false)(h:N ⟨gO x (some (.bool q)) (some e) (some (.str ⟨#[40]⟩)) none,c6 x dx io d p1 p2 (.str "a") (.str ⟨#[40]⟩) s j k⟩):EB c (n+3) ⟨gO x (some (.bool q)) (some e) (some (.str ⟨#[40]⟩)) none,c6 x dx io d p1 p2 (.str " ") tk s j k⟩ (vP.drop 3) (au N Q) E:=by show ah;left;exact h
theorem gk{e:AV}{ch:Str}(hK:c.K=K0 c.w.params)(hd:c.hd=none)(aZ:c.fx=ai)(hc:c.comp=false)(h:EB c (n+3) ⟨gO x (some (.bool q)) (some e) (some (.str ch)) none,c6 x dx io d p1 p2 (.str "a") tk s j k⟩ HJ Q E):EB c (n+3) ⟨gO x (some (.bool q)) (some e) (some (.str ch)) none,c6 x dx io d p1 p2 (.str "a") tk s j k⟩ (vP.drop 3) Q E:=by show ah;left;refine⟨aae rfl,λb=>uw (xs:=["a","c"]) (.head _) ?_⟩;repeat(first|((with_reducible change EB _ _ _ _ _ _);refine fY ?_;(repeat(with_reducible refine pv ?_));exact h)|k_extra "m.s1")
theorem CW{e:AV}(hK:c.K=K0 c.w.params)(hd:c.hd=none)(aZ:c.fx=ai)(hc:c.comp=false)(h:Q .next ⟨gO x (some (.bool q)) (some e) (some (.str "")) none,c6 x dx io d p1 p2 .none tk s j k⟩):EB c (n+3) ⟨gO x (some (.bool q)) (some e) (some (.str "")) none,c6 x dx io d p1 p2 (.str "a") tk s j k⟩ HJ (au N Q) E:=by show ah;left;exact h
theorem FR{e:AV}(hK:c.K=K0 c.w.params)(hd:c.hd=none)(aZ:c.fx=ai)(hc:c.comp=false)(h:N ⟨gO x (some (.bool q)) (some e) (some (.str ⟨#[39]⟩)) none,c6 x dx io d p1 p2 (.str "'") tk s j k⟩):EB c (n+3) ⟨gO x (some (.bool q)) (some e) (some (.str ⟨#[39]⟩)) none,c6 x dx io d p1 p2 (.str "a") tk s j k⟩ HJ (au N Q) E:=by show ah;left;exact h
theorem FS{e:AV}(hK:c.K=K0 c.w.params)(hd:c.hd=none)(aZ:c.fx=ai)(hc:c.comp=false)(h:N ⟨gO x (some (.bool q)) (some e) (some (.str ⟨#[34]⟩)) none,c6 x dx io d p1 p2 (.str "\"") tk s j k⟩):EB c (n+3) ⟨gO x (some (.bool q)) (some e) (some (.str ⟨#[34]⟩)) none,c6 x dx io d p1 p2 (.str "a") tk s j k⟩ HJ (au N Q) E:=by show ah;left;exact h
theorem KU{e:AV}(hK:c.K=K0 c.w.params)(hd:c.hd=none)(aZ:c.fx=ai)(hc:c.comp=false)(ht:t.length≤100000)(h:N ⟨gO x (some (.bool q)) (some e) (some (.str ⟨#[97]⟩)) none,c6 x dx io d p1 p2 (.str "a") (.str (t++⟨#[97]⟩)) s j k⟩):EB c (n+3) ⟨gO x (some (.bool q)) (some e) (some (.str ⟨#[97]⟩)) none,c6 x dx io d p1 p2 (.str "a") (.str t) s j k⟩ HJ (au N Q) E:=by show ah;left;show dK (jJ ht);left;exact h
theorem Ab{e:AV}(hK:c.K=K0 c.w.params)(hd:c.hd=none)(aZ:c.fx=ai)(hc:c.comp=false)(h:N ⟨gO x (some (.bool true)) (some e) (some (.str ⟨#[39]⟩)) none,c6 x dx io d p1 p2 (.str "a") tk s j k⟩):EB c (n+3) ⟨gO x (some (.bool q)) (some e) (some (.str ⟨#[39]⟩)) none,c6 x dx io d p1 p2 (.str "'") tk s j k⟩ (vP.drop 3) (au N Q) E:=by show ah;left;exact h
theorem Ac{e:AV}(hK:c.K=K0 c.w.params)(hd:c.hd=none)(aZ:c.fx=ai)(hc:c.comp=false)(h:N ⟨gO x (some (.bool true)) (some e) (some (.str ⟨#[34]⟩)) none,c6 x dx io d p1 p2 (.str "a") tk s j k⟩):EB c (n+3) ⟨gO x (some (.bool q)) (some e) (some (.str ⟨#[34]⟩)) none,c6 x dx io d p1 p2 (.str "\"") tk s j k⟩ (vP.drop 3) (au N Q) E:=by show ah;left;exact h
theorem FT{e:AV}(hK:c.K=K0 c.w.params)(hd:c.hd=none)(aZ:c.fx=ai)(hc:c.comp=false)(ht:t.length≤100000)(h:N ⟨gO x (some (.bool true)) (some e) (some (.str ⟨#[39]⟩)) none,c6 x dx io d p1 p2 (.str "\"") (.str (t++⟨#[39]⟩)) s j k⟩):EB c (n+3) ⟨gO x (some (.bool q)) (some e) (some (.str ⟨#[39]⟩)) none,c6 x dx io d p1 p2 (.str "\"") (.str t) s j k⟩ (vP.drop 3) (au N Q) E:=by show ah;left;show dK (jJ ht);left;exact h
theorem KV{e:AV}(hK:c.K=K0 c.w.params)(hd:c.hd=none)(aZ:c.fx=ai)(hc:c.comp=false)(ht:t.length≤100000)(h:N ⟨gO x (some (.bool q)) (some e) (some (.str ⟨#[44]⟩)) none,c6 x dx io d p1 p2 (.str "a") (.str (t++⟨#[44]⟩)) s j k⟩):EB c (n+3) ⟨gO x (some (.bool q)) (some e) (some (.str ⟨#[44]⟩)) none,c6 x dx io d p1 p2 (.str "a") (.str t) s j k⟩ HJ (au N Q) E:=by show ah;left;show dK (jJ ht);left;exact h
theorem KW{e:AV}(hK:c.K=K0 c.w.params)(hd:c.hd=none)(aZ:c.fx=ai)(hc:c.comp=false)(ht:t.length≤100000)(h:N ⟨gO x (some (.bool q)) (some e) (some (.str ⟨#[41]⟩)) none,c6 x dx io d p1 p2 (.str "a") (.str (t++⟨#[41]⟩)) s j k⟩):EB c (n+3) ⟨gO x (some (.bool q)) (some e) (some (.str ⟨#[41]⟩)) none,c6 x dx io d p1 p2 (.str "a") (.str t) s j k⟩ HJ (au N Q) E:=by show ah;left;show dK (jJ ht);left;exact h
theorem FU{e:AV}(hK:c.K=K0 c.w.params)(hd:c.hd=none)(aZ:c.fx=ai)(hc:c.comp=false)(ht:t.length≤100000)(hq:(t.length !=0)=true∨q=true)(h:Q .next ⟨gO x (some (.bool q)) (some e) (some (.str ⟨#[32]⟩)) none,c6 x dx io d p1 p2 (.str " ") (.str t) s j k⟩):EB c (n+3) ⟨gO x (some (.bool q)) (some e) (some (.str ⟨#[32]⟩)) none,c6 x dx io d p1 p2 (.str "a") (.str t) s j k⟩ HJ (au N Q) E:=by
 show ah;left;show rT (aab ht '2');cases h0:(t.length !=0)
 ·obtain rfl:=hq.resolve_left (by rw[h0];decide);left;exact h
 left;exact h
theorem FV{e:AV}(hK:c.K=K0 c.w.params)(hd:c.hd=none)(aZ:c.fx=ai)(hc:c.comp=false)(ht:t.length≤100000)(hn:((⟨#[ch]⟩:Str)=="'")=false) (h:N ⟨gO x (some (.bool true)) (some e) (some (.str ⟨#[ch]⟩)) none,c6 x dx io d p1 p2 (.str "'") (.str (t++⟨#[ch]⟩)) s j k⟩):EB c (n+3) ⟨gO x (some (.bool q)) (some e) (some (.str ⟨#[ch]⟩)) none,c6 x dx io d p1 p2 (.str "'") (.str t) s j k⟩ (vP.drop 3) (au N Q) E:=by
 show ah;left;rw[hn];left;cases h1:Bv "\\" ⟨#[ch]⟩
 ·left;show dK (jJ ht);left;exact h
 left;show dK (jJ ht);left;exact h
end
end
end
section
open PySem.Builtin PySem.Builtin.Str
variable{P:RS→Prop} {r:List Nat} {p:Nat}
def cH:List Nat→RS→Str→Bool→Option (Str×Bool×List Nat×Bool)|[],.w,t,q=>some (t,q,[],true)|[],.a,t,q=>some (t,q,[],true)|[],_,_,_=>none|c::r,.w,t,q=>if c=39 then cH r .q1 t q else if c=97 then cH r .a ⟨#[97]⟩ q else if c=40 then cH r .a ⟨#[40]⟩ q else none|c::r,.a,t,q=>if c=32 then(if(t.length !=0||q)=true then some (t,q,r,false)else none)else if c=39 then cH r .q1 t q else if c=34 then cH r .q2 t q else if c=97 then cH r .a (t++⟨#[97]⟩) q else if c=44 then cH r .a (t++⟨#[44]⟩) q else if c=41 then cH r .a (t++⟨#[41]⟩) q else none|c::r,.q1,t,q=>if c=39 then cH r .a t true else if c=10 then none else cH r .q1 (t++⟨#[c]⟩) true|c::r,.q2,t,q=>if c=34 then cH r .a t true else if c=39 then cH r .q2 (t++⟨#[39]⟩) true else none
@[elab_as_elim]theorem KX {l:List Nat} {st:RS} {u t:Str} {q fin:Bool} (h:cH l st u b=some (t,q,r,fin))(w0:l=[]→u=t→b=q→[]=r→true=fin→P .w) (w1:∀r',l=39::r'→cH r' .q1 u b=some (t,q,r,fin)→P .w) (w2:∀r',l=97::r'→cH r' .a ⟨#[97]⟩ b=some (t,q,r,fin)→P .w) (w3:∀r',l=40::r'→cH r' .a ⟨#[40]⟩ b=some (t,q,r,fin)→P .w)(a0:l=[]→u=t→b=q→[]=r→true=fin→P .a) (a1:∀r',l=32::r'→(u.length !=0||b)=true→u=t→b=q→r'=r→false=fin→P .a) (a2:∀r',l=39::r'→cH r' .q1 u b=some (t,q,r,fin)→P .a) (a3:∀r',l=34::r'→cH r' .q2 u b=some (t,q,r,fin)→P .a)(a4:∀r',l=97::r'→cH r' .a (u++⟨#[97]⟩) b=some (t,q,r,fin)→P .a) (a5:∀r',l=44::r'→cH r' .a (u++⟨#[44]⟩) b=some (t,q,r,fin)→P .a) (a6:∀r',l=41::r'→cH r' .a (u++⟨#[41]⟩) b=some (t,q,r,fin)→P .a)(q1:∀r',l=39::r'→cH r' .a u true=some (t,q,r,fin)→P .q1) (q2:∀c r',l=c::r'→c≠39→c≠10→cH r' .q1 (u++⟨#[c]⟩) true=some (t,q,r,fin)→P .q1)(q3:∀r',l=34::r'→cH r' .a u true=some (t,q,r,fin)→P .q2) (q4:∀r',l=39::r'→cH r' .q2 (u++⟨#[39]⟩) true=some (t,q,r,fin)→P .q2):P st:=by
 have no:∀{Q:Prop},(none:Option (Str×Bool×List Nat×Bool))=some (t,q,r,fin)→Q:=λe=>nomatch e;have sm:∀{Q:Prop} {x:Str} {y:Bool} {z:List Nat} {v:Bool},some (x,y,z,v)=some (t,q,r,fin)→(x=t→y=q→z=r→v=fin→Q)→Q:=λe k=>k (congrArg (λx=>x.1) (aaJ e)) (congrArg (λx=>x.2.1) (aaJ e)) (congrArg (λx=>x.2.2.1) (aaJ e)) (congrArg (λx=>x.2.2.2) (aaJ e));have tf:∀{Q:Prop} {p:Prop} [Decidable p] {x y:Option (Str×Bool×List Nat×Bool)},(if p then x else y)=some (t,q,r,fin)→(p→x=some (t,q,r,fin)→Q)→(¬p→y=some (t,q,r,fin)→Q)→Q:=λ{Q p d x y} e k1 k2=>(Decidable.em p).elim (λg=>k1 g ((if_pos g).symm.trans e)) λg=>k2 g ((if_neg g).symm.trans e);cases l with
 |nil=>cases st with|w=>exact sm h (w0 rfl)|a=>exact sm h (a0 rfl)|_=>exact no h
 |cons c l=>have cl:∀{k:Nat},c=k→c::l=k::l:=λe=>e▸rfl;cases st with|w=>exact tf h (λe=>w1 _ (cl e)) λ_ h=>tf h (λe=>w2 _ (cl e)) λ_ h=>tf h (λe=>w3 _ (cl e)) λ_=>no|a=>exact tf h (λe h=>tf h (λg h=>sm h (a1 _ (cl e) g)) λ_=>no) λ_ h=>tf h (λe=>a2 _ (cl e)) λ_ h=>tf h (λe=>a3 _ (cl e)) λ_ h=>tf h (λe=>a4 _ (cl e)) λ_ h=>tf h (λe=>a5 _ (cl e)) λ_ h=>tf h (λe=>a6 _ (cl e)) λ_=>no|q1=>exact tf h (λe=>q1 _ (cl e)) λg h=>tf h (λ_=>no) λg2=>q2 _ _ rfl g g2|q2=>exact tf h (λe=>q3 _ (cl e)) λ_ h=>tf h (λe=>q4 _ (cl e)) λ_=>no
theorem HK{a b:Nat}(h:a≠b):((⟨#[a]⟩:Str)==⟨#[b]⟩)=false:=by simp only[beq_eq_false_iff_ne,ne_eq,Str.mk.injEq];intro q;exact h (by simpa using q)
theorem mQ{s:Str}{c:Nat}(h:s.cps.toList.drop p=c::r):lF s p=⟨#[c]⟩∧p<s.length∧s.cps.toList.drop (p+1)=r:=by refine⟨by unfold lF;rw[h];rfl,?_,by rw[←List.drop_drop,h];rfl⟩;let q:=acU;rw[adw (by rw[aaQ];exact q)]at h;cases h
theorem CX{s:Str}(h:s.cps.toList.drop p=[]):lF s p="":=by unfold lF;rw[h];kernel_rfl
theorem FW(t:Str)(c:Nat):(t++(⟨#[c]⟩:Str)).length=t.length+1:=by change(t.cps++ #[c]).size=_;rw[Array.size_append];rfl
section
variable{c:Cx} {n:Nat} {x dx io d p1 p2:Addr} {st:AV} {s t:Str} {i k:Nat} {q:Bool} {e nc:Option AV} {Q:FL→SS→Prop} {E:EP}
theorem cx(hK:c.K=K0 c.w.params)(hd:c.hd=none)(aZ:c.fx=ai)(hc:c.comp=false)(hs:s.length≤10000)(hr:s.cps.toList.drop i=ch::r)(hn:ch≠10)(h:EB c (n+3) ⟨gO x (some (.bool q)) e (some (.str ⟨#[ch]⟩)) none,c6 x dx io d p1 p2 st tk s (i+1) k⟩ (vP.drop 3) Q E):EB c (n+3) ⟨gO x (some (.bool q)) e nc none,c6 x dx io d p1 p2 st tk s i k⟩ vP Q E:=by let h1 h2 z2:=pZ (mQ hr);show CU hK hd aZ hc (aab hs '2') (aaN h2) (by rw[h1];exact HK hn);rw[h1,if_pos h2];exact h
theorem tE(hK:c.K=K0 c.w.params)(hd:c.hd=none)(aZ:c.fx=ai)(hc:c.comp=false)(hs:s.length≤10000)(hi:i≤s.length)(hr:s.cps.toList.drop i=[])(h:EB c (n+3) ⟨gO x (some (.bool q)) e (some (.str "")) none,c6 x dx io d p1 p2 st tk s i k⟩ (vP.drop 3) Q E):EB c (n+3) ⟨gO x (some (.bool q)) e nc none,c6 x dx io d p1 p2 st tk s i k⟩ vP Q E:=by
 have h2:s.length≤i:=by have:=congrArg aaV hr;rw[aa9,aaQ]at this;change s.cps.size≤i;simp at this;exact ab5 this
 have h1:=CX hr;show CU hK hd aZ hc (aab hs '2') hi (by rw[h1];kernel_rfl);rw[h1,if_neg (acB h2)];exact h
theorem yt{E':EP}{ee:AV}(hK:c.K=K0 c.w.params)(hd:c.hd=none)(aZ:c.fx=ai)(hc:c.comp=false)(h:∀r,Q' (.ret (if(!q&&t=="")=true then .none else .str t)) ⟨gO x (some (.bool q)) (some ee) nc r,c6 x dx io d p1 p2 st (.str "") s i k⟩):EB c (n+3) ⟨gO x (some (.bool q)) (some ee) nc none,c6 x dx io d p1 p2 st (.str t) s i k⟩ (cF.drop 3) Q' E':=by
 show ah;cases q;cases ht:(t=="")
 ·left;rw[ht];left;have:=h (some (.str t));rw[ht]at this;exact this
 ·left;rw[ht];left;have:=h (some .none);rw[ht]at this;exact this
 left;exact h (some (.str t))
end
theorem lN{n:Nat}{x dx io d p1 p2:Addr}{s:Str}{k:Nat}{t:Str}{q fin:Bool}(hs:s.length≤10000)(hp:p≤s.length)(h:cH (s.cps.toList.drop p) .w "" false=some (t,q,r,fin)):FC K0 (n+4) 848 [.ref x] [] (c6 x dx io d p1 p2 (.str " ") (.str "") s p k) (λv C=>v=(if(!q&&t=="")=true then .none else .str t)∧C=c6 x dx io d p1 p2 (if fin=true then .none else .str " ") (.str "") s (s.length-r.length) k) (λzz zz=>False):=by
 show aB (fx:=ai) fz fy fA;intro c Q' E' hK hd aZ hc ay aL bz;show ah;left;show gy (λm S=>∃(i:Nat) (st:RS) (u:Str) (b:Bool) (nc:Option AV),S=⟨gO x (some (.bool b)) (some (.str " ")) nc none,c6 x dx io d p1 p2 (Yk st) (.str u) s i k⟩∧i≤s.length∧u.length≤i∧cH (s.cps.toList.drop i) st u b=some (t,q,r,fin)∧m=s.length-i) (s.length-p) (IM p .w ("") false none ⟨rfl,hp,aaD _,h,rfl⟩);intro m S1 N Ws;let i st u b nc r5 hi hu Wt r9:=oB Ws;subst r5;subst r9;intro hN;refine pj (iy (bj ?_));show bA rfl;have up:∀{ch:Nat} {r':List Nat} (kM:RS) (u':Str) (b':Bool) (LS:Option AV),s.cps.toList.drop i=ch::r'→u'.length≤i+1→cH r' kM u' b'=some (t,q,r,fin)→N ⟨gO x (some (.bool b')) (some (.str " ")) LS none,c6 x dx io d p1 p2 (Yk kM) (.str u') s (i+1) k⟩:=λkM u' b' LS hr h2 h3=>pZ (mQ hr) λzz h1 h4=>hN (s.length-(i+1)) _ (acO h1 (abw _)) (IM (i+1) kM u' b' LS ⟨rfl,h1,h2,h4.symm▸h3,rfl⟩);have ul:u.length≤100000:=by exact aab hu (aab hi (aab hs (aae rfl)))
 have post:∀(b' f':Bool) (LS:Option AV) (j:Nat),u=t→b'=q→f'=fin→j=s.length-r.length→EB c (n+3) ⟨gO x (some (.bool b')) (some (.str " ")) LS none,c6 x dx io d p1 p2 (if f'=true then .none else .str " ") (.str u) s j k⟩ (cF.drop 3) Q' E':=by rintro b' f' LS j rfl rfl rfl rfl;let r':=yt hK hd aZ hc;exact ay _ _ (c6 x dx io d p1 p2 _ (.str "") s _ k) _ '1' ⟨rfl,rfl⟩
 have hl:s.cps.toList.drop i=[]→[]=r→i=s.length-r.length:=λe e2=>by rw[←e2];exact aaI hi (aaQ▸List.drop_eq_nil_iff.mp e)
 have al:∀z,(u++(⟨#[z]⟩:Str)).length≤i+1:=λz=>by rw[FW];exact acD hu
 have Ro:=ab1 hu;have hm:∀{r':List Nat},s.cps.toList.drop i=32::r'→i+1=s.length-r'.length:=λ{r'} e=>by have:=congrArg aaV e;rw[aa9,aaQ,aaF]at this;have h2:i<s.cps.size:=(mQ e).2.1;change i+1=s.cps.size-r'.length;exact Ni (by assumption)
 refine KX Wt (λhr e1 e2 e3 e4=>tE hK hd aZ hc hs hi hr (CV hK hd aZ hc (post _ _ _ _ e1 e2 e4 (hl hr e3)))) (λr' hr h=>cx hK hd aZ hc hs hr '2' (KS hK hd aZ hc (up .q1 u b _ hr Ro h))) (λr' hr h=>cx hK hd aZ hc hs hr '2' (KR hK hd aZ hc (up .a _ b _ hr (abm 1 _) h))) (λr' hr h=>cx hK hd aZ hc hs hr '2' (KT hK hd aZ hc (up .a _ b _ hr (abm 1 _) h))) (λhr e1 e2 e3 e4=>tE hK hd aZ hc hs hi hr (gk hK hd aZ hc (CW hK hd aZ hc (post _ _ _ _ e1 e2 e4 (hl hr e3))))) (λr' hr g e1 e2 e3 e4=>cx hK hd aZ hc hs hr '2' (gk hK hd aZ hc (FU hK hd aZ hc ul (Bool.or_eq_true_iff.mp g) (post _ _ _ _ e1 e2 e4 (e3▸hm hr))))) (λr' hr h=>cx hK hd aZ hc hs hr '2' (gk hK hd aZ hc (FR hK hd aZ hc (up .q1 u b _ hr Ro h)))) (λr' hr h=>cx hK hd aZ hc hs hr '2' (gk hK hd aZ hc (FS hK hd aZ hc (up .q2 u b _ hr Ro h)))) (λr' hr h=>cx hK hd aZ hc hs hr '2' (gk hK hd aZ hc (KU hK hd aZ hc ul (up .a _ b _ hr (al _) h)))) (λr' hr h=>cx hK hd aZ hc hs hr '2' (gk hK hd aZ hc (KV hK hd aZ hc ul (up .a _ b _ hr (al _) h)))) (λr' hr h=>cx hK hd aZ hc hs hr '2' (gk hK hd aZ hc (KW hK hd aZ hc ul (up .a _ b _ hr (al _) h)))) (λr' hr h=>cx hK hd aZ hc hs hr '2' (Ab hK hd aZ hc (up .a u true _ hr Ro h))) (λch r' hr g1 g2 h=>cx hK hd aZ hc hs hr g2 (FV hK hd aZ hc ul (HK g1) (up .q1 _ true _ hr (al _) h))) (λr' hr h=>cx hK hd aZ hc hs hr '2' (Ac hK hd aZ hc (up .a u true _ hr Ro h))) (λr' hr h=>cx hK hd aZ hc hs hr '2' (FT hK hd aZ hc ul (up .q2 _ true _ hr (al _) h)))
end
section
open PySem.Builtin PySem.Builtin.Str
theorem vw{x io p1 p2:Addr}(hs:s.length≤10000):FC K0 (n+4) 848 [.ref x] [] (c6 x dx io d p1 p2 .none (.str "") s s.length k) (λv C=>v= .none∧C=c6 x dx io d p1 p2 .none (.str "") s s.length k) (λzz zz=>False):=by show aB (fx:=ai) fz fy fA;intro c Q' E' hK hd aZ hc ay aL bz;show ah;left;show gy (λm S=>m=0∧S=⟨gO x (some (.bool false)) (some (.str " ")) none none,c6 x dx io d p1 p2 .none (.str "") s s.length k⟩) 0 ⟨rfl,rfl⟩;intro m S1 N J5;let r0 r1:=eA J5;subst r0;subst r1;intro hN;refine pj (iy (bj ?_));show bA rfl;show tE hK hd aZ hc hs (aak _) (adw (by rw[aaQ];exact aak _));have post:=yt (c:=c) (n:=n) (x:=x) (dx:=dx) (io:=io) (d:=d) (p1:=p1) (p2:=p2) (st:=.none) (s:=s) (t:="") (i:=s.length) (k:=k) (q:=false) (nc:=some (.str "")) (Q':=Q') (E':=E') (ee:=.str " ") hK hd aZ hc λr'=>ay _ _ (c6 x dx io d p1 p2 _ (.str "") s _ k) _ '1' ⟨rfl,rfl⟩;show ah;repeat(first|((with_reducible change EB _ _ _ (_::_::_::_::_::_) _ _);exact post)|k_extra "m.s1")
def vx:Option Str→AV|none=>.none|some t=>.str t
theorem nu{m:Nat}{x io p1 p2:Addr}{st:AV}{p p':Nat}(F:FC K0 m 848 [.ref x] [] (c6 x dx io d p1 p2 st (.str "") s p k) (λv C=>v=vx v0∧C=c6 x dx io d p1 p2 kM (.str "") s p' k) (λzz zz=>False)):FC K0 (m+1) 841 [.ref x] [] (c6 x dx io d p1 p2 st (.str "") s p k) (λv C=>v=vx v0∧C=c6 x dx io d p1 p2 kM (.str "") s p' k) (λzz zz=>False):=by show aB (fx:=cD) kA kz kC;intro c Q' E' hK hd aZ hc ay aL bz;show ah;left;show uI ⋯;left;refine aH F '1' hK hd (λv C Wu=>?_) (λzz zz h=>h.elim);let hv hC:=eA Wu;subst hv hC;show PL.go (l:=c6 x dx io d p1 p2 kM (.str "") s p' k) '1';left;show gy (λj S=>j=0∧S=⟨[("self",some (.ref x)),("tok",none),("raw",some (vx v0)),("spec",none),("newfile",none),("newstream",none)],c6 x dx io d p1 p2 kM (.str "") s p' k⟩) 0 ⟨rfl,rfl⟩;intro j S1 N Wv;let r0 r1:=eA Wv;subst r0;subst r1;intro hN;cases v0 with|none=>dsimp only[vx]at ay⊢;left;show uI ⋯;left;exact ay _ _ (c6 x dx io d p1 p2 _ (.str "") s _ k) _ '1' ⟨rfl,rfl⟩|some t=>dsimp only[vx]at ay⊢;left;exact ay _ _ (c6 x dx io d p1 p2 _ (.str "") s _ k) _ '1' ⟨rfl,rfl⟩
end
section
open PySem.Builtin PySem.Builtin.Str
variable{x:Addr}
theorem KY:FC K0 (n+1) 870 [.ref x] [] [] (λv C=>v= .ref x∧C=[]) (λzz zz=>False):=by show aB (fx:=c9) lf le lA;intro c Q' E' hK hd aZ hc ay aL bz;show ah;left;exact ay _ _ [] _ .nil ⟨rfl,rfl⟩
theorem w_next{m:Nat}{io p1 p2:Addr}{st:AV}{p p':Nat}(F:FC K0 m 841 [.ref x] [] (c6 x dx io d p1 p2 st (.str "") s p k) (λv C=>v=vx v0∧C=c6 x dx io d p1 p2 kM (.str "") s p' k) (λzz zz=>False)):FC K0 (m+1) 877 [.ref x] [] (c6 x dx io d p1 p2 st (.str "") s p k) (λv C=>∃t,v0=some t∧v= .str t∧C=c6 x dx io d p1 p2 kM (.str "") s p' k) (λe C=>v0=none∧e= .type "StopIteration"∧C=c6 x dx io d p1 p2 kM (.str "") s p' k):=by show aB (fx:=c_) lj lh lC;intro c Q' E' hK hd aZ hc ay aL bz;show ah;left;refine aH F '1' hK hd (λv C Ww=>?_) (λzz zz h=>h.elim);let hv hC:=eA Ww;subst hv hC;show PL.go (l:=c6 x dx io d p1 p2 kM (.str "") s p' k) '1';cases v0 with|none=>dsimp only[vx];left;show qi hd;k_extra "m.name";exact⟨rfl,bz _ _ (c6 x dx io d p1 p2 _ (.str "") s _ k) _ '1' ⟨rfl,rfl,rfl⟩⟩|some t=>dsimp only[vx];left;exact ay _ _ (c6 x dx io d p1 p2 _ (.str "") s _ k) _ '1' ⟨t,rfl,rfl,rfl⟩
end
section
open PySem.Builtin PySem.Builtin.Str
theorem CY:∀(s:aas) (P:aao),(K0 P).In s.heap→∀pos kws,pos.map ab=[a0]→kws.map (λp=>(p.1,ab p.2))=[]→∃binds,ac9 s (pH P) ⟨pos,kws⟩ binds∧e7 ll binds [("s",some a0),("comments",some (.bool false)),("posix",some (.bool true)),("lex",none)]:=by intro s P fg pos kws hp hk;obtain rfl:=kws_nil hk;let v0 r1 r2:=ak (cP hp);subst r1;subst r2;refine⟨[("s",v0),("comments",.bool false),("posix",.bool true)],λM A E Q hq=>(acf (M:=M) fg (by kernel_rfl:peek (K0 P) ⟨M.prog,M.w.params⟩ (adb (pH P) ⟨[v0],[]⟩)=some ([("s",v0),("comments",.bool false),("posix",.bool true)]:List (Str×Value)))).here hq,dB '3' '3' '3'⟩
theorem CZ{E:EP}(hK:c.K=K0 c.w.params)(hd:c.hd=none)(h:∀x dx io d p1 p2,Q (.ref x) ⟨S.loc,[(x,.inst 880 dx),(dx,.dict (KN (.ref io) (.str " ") (.int 1) (.str "") (.ref p1) (.ref p2) (.str "#") (.bool false)) 19),(io,.inst 745 d),(d,.dict (mJ (.str "\n") (.str s) (.int 0)) 3),(p1,.raw vM),(p2,.raw vM)]++S.cells⟩):Hn c (n+5) S (.ref 880) [.str s] [("posix",.bool true)] Q E:=λv vs kws hv bx hk=>by obtain rfl:=aj hv;refine kq (K0:=K0) (m:=n+4) (C:=880) (fI:=804) (by rw[hK];kernel_rfl) (by rw[hK];kernel_rfl) (by rw[hK];kernel_rfl) hK hd (λx dx=>(FC.frame (C:=[(x,.inst 880 dx),(dx,.dict [] 0)]) (D:=S.cells) (w4 (n:=n) (x:=x) (dx:=dx) (s:=s))).mono (aak _) (λzz zz z=>z) λzz zz h8=>ak h8 λz0 z z2=>z) ?_ ?_ bx hk (aak _);intro x dx v C' Wx;obtain⟨C1,⟨io,d,p1,p2,h1,h2⟩,h3⟩:=Wx;subst h2 h3;exact⟨h1,h x dx io d p1 p2⟩;exact λzz zz zz zz z=>z.elim
end
section
open PySem.Builtin PySem.Builtin.Str
variable{p p':Nat} {σ:Nat×Bool}
inductive Rd(s:Str):Nat×Bool→List Str→Prop
 |done:Rd s (s.length,true) []
 |stop:∀{p r fin},p≤s.length→cH (s.cps.toList.drop p) .w "" false=some (("":Str),false,r,fin)→Rd s (p,false) []
 |more:∀{p t q r fin ys},p≤s.length→cH (s.cps.toList.drop p) .w "" false=some (t,q,r,fin)→(!q&&t=="")=false→Rd s (s.length-r.length,fin) ys→Rd s (p,false) (t::ys)
abbrev Rq(x dx io d p1 p2:Addr)(s:Str)(k:Nat)(σ:Nat×Bool):Cells:=c6 x dx io d p1 p2 (if σ.2=true then .none else .str " ") (.str "") s σ.1 k
def C0(n:Nat)(x dx io d p1 p2:Addr)(s:Str)(k:Nat)(σ σ':Nat×Bool)(v:Str):Prop:=FC K0 (n+6) 877 [.ref x] [] (Rq x dx io d p1 p2 s k σ) (λr C=>r= .str v∧C=Rq x dx io d p1 p2 s k σ') (λzz zz=>False)
def C3(n:Nat)(x dx io d p1 p2:Addr)(s:Str)(k:Nat)(σ σ':Nat×Bool):Prop:=FC K0 (n+6) 877 [.ref x] [] (Rq x dx io d p1 p2 s k σ) (λzz zz=>False) (λe C=>e= .type "StopIteration"∧C=Rq x dx io d p1 p2 s k σ')
section
variable{n:Nat} {x dx io d p1 p2:Addr} {s:Str} {k:Nat}
theorem rj{st:AV}(F:FC K0 (n+4) 848 [.ref x] [] (c6 x dx io d p1 p2 st (.str "") s p k) (λv C=>v= .none∧C=c6 x dx io d p1 p2 kM (.str "") s p' k) (λzz zz=>False)):FC K0 (n+6) 877 [.ref x] [] (c6 x dx io d p1 p2 st (.str "") s p k) (λzz zz=>False) (λe C=>e= .type "StopIteration"∧C=c6 x dx io d p1 p2 kM (.str "") s p' k):=(w_next (v0:=none) (nu (v0:=none) F)).mono (aak _) (λzz zz Jn=>by refine ak Jn λz0 h z2=>?_;exact nomatch h) λzz zz h8=>eA h8 λz0 h=>h
theorem Ad{st:AV}{t:Str}(F:FC K0 (n+4) 848 [.ref x] [] (c6 x dx io d p1 p2 st (.str "") s p k) (λv C=>v= .str t∧C=c6 x dx io d p1 p2 kM (.str "") s p' k) (λzz zz=>False)):FC K0 (n+6) 877 [.ref x] [] (c6 x dx io d p1 p2 st (.str "") s p k) (λr C=>r= .str t∧C=c6 x dx io d p1 p2 kM (.str "") s p' k) (λzz zz=>False):=(w_next (v0:=some t) (nu (v0:=some t) F)).mono (aak _) (λzz zz Wy=>by refine ak Wy λt' h h2=>?_;cases h;exact h2) λzz zz h8=>eA h8 λh z1=>nomatch h
theorem Rd.run{ys:List Str}(hs:s.length≤10000)(h:Rd s σ ys):∃τ:Nat→Nat×Bool,τ 0=σ∧(∀j v,ys[j]? =some v→C0 n x dx io d p1 p2 s k (τ j) (τ (j+1)) v)∧C3 n x dx io d p1 p2 s k (τ ys.length) (τ (ys.length+1)):=by induction h with|done=>exact⟨λzz=>(s.length,true),rfl,λj v hv=>by simp at hv,rj (vw hs)⟩| @stop p r fin hp ht=>refine⟨λj=>match j with|0=>(p,false)|_+1=>(s.length-r.length,fin),rfl,λj v hv=>by simp at hv,?_⟩;exact rj ((lN hs hp ht).mono (aak _) (λv C Jo=>by refine eA Jo λh1 h2=>?_;exact⟨h1,h2⟩) λzz zz h=>h)| @more p t q r fin ys hp ht hq _ ih=>let τ h0 h1 h2:=bN ih;refine⟨λj=>match j with|0=>(p,false)|j+1=>τ j,rfl,λj v hv=>?_,h2⟩;cases j with|zero=>obtain rfl:t=v:=(by simpa using hv);change C0 n x dx io d p1 p2 s k (p,false) (τ 0) t;rw[h0];exact Ad ((lN hs hp ht).mono (aak _) (λv C Jp=>by refine eA Jp λh1 h2=>?_;exact⟨by rw[h1,hq];rfl,h2⟩) λzz zz h=>h)|succ j=>exact h1 j v (by simpa using hv)
end
end
section
open PySem.Builtin PySem.Builtin.Str
theorem FX(P:aao):BW (K0 P) 880 870 877:=⟨by kernel_rfl,by kernel_rfl,by kernel_rfl,by kernel_rfl,by kernel_rfl,by kernel_rfl⟩
theorem FY{ys:List Str}(hs:s.length≤10000)(hy:ys.length≤1000)(h:Rd s (0,false) ys):FC K0 (n+10) 892 [.str s] [] [] (λv C=>∃l,v= .ref l∧C=[(l,.list (ys.map .str))]) (λzz zz=>False):=by show aB (fx:=ll) Ci Ch CY;intro c Q' E' hK hd aZ hc ay aL bz;show ah;left;show zp;k_extra "m.name";refine⟨by k_extra "m.keep",?_⟩;left;let x dx io d p1 p2:=CZ hK hd;dsimp only[aaT,aa0];left;let τ h0 h1 h2:=bN (Rd.run (n:=n) (x:=x) (dx:=dx) (io:=io) (d:=d) (p1:=p1) (p2:=p2) (k:=19) hs h);refine qj (K0:=K0) (m:=n+6) (C:=880) (d:=dx) (fI:=870) (fN:=877) (ys:=ys.map .str) (Cf:=λj=>Rq x dx io d p1 p2 s 19 (τ j)) (D:=[]) (hK▸FX c.w.params) hK hd (KY (n:=n+5)) (λj v hv=>?_) ?_ (λj=>⟨.head _,_,_,.tail _ (.head _)⟩) (by rw[aaa];exact hy) ?_ (λl=>?_) (by exact aak _);rw[aag]at hv;let w hw r2:=ak (aaq.mp hv);subst r2;exact h1 j w hw;rw[aaa];exact h2;rw[h0];rfl;exact ay _ _ [(l,_)] _ '1' ⟨l,rfl,rfl⟩
end
section
open PySem.Builtin PySem.Builtin.Str
theorem pE.of(h:tab.map (λp=>(c.env.kindOf p.1,c.env.cells.lookup p.1))=tab.map λp=>(some .cell,some p.2)):pE c tab:=λp hp=>by have:=ng h p hp;exact⟨congrArg Prod.fst this,congrArg Prod.snd this⟩
theorem ew.of(h:tab.map (λp=>(((c.env.kindOf p.1==some .cell||c.env.kindOf p.1==some .free),((p.1==("__debug__":Str))||(p.1==("__classdict__":Str)))),c.env.cells.lookup p.1))=tab.map λp=>((true,false),some p.2)):ew c tab:=λp hp=>by have:=ng h p hp;refine⟨?_,congrArg Prod.snd this,congrArg (λz=>z.1.2) this⟩;simpa using(congrArg (λz=>z.1.1) this)
theorem ew.yu{e:Env}{cl:List (Str×Addr)}{gl:List (Str×Value)}(he:c.env=e)(h:tab.map (λp=>((((compEnvC scope cl 0 e).kindOf p.1==some .cell||(compEnvC scope cl 0 e).kindOf p.1==some .free),((p.1==("__debug__":Str))||(p.1==("__classdict__":Str)))),cl.lookup p.1))=tab.map λp=>((true,false),some p.2)):ew (c.inner scope cl gl m L) tab:=by subst he;exact ew.of h
def w5:List Str:=["a","(",")","\"","\\","'",""]
def FZ(x:Int):Str:=w5.getD (x%7).toNat ""++w5.getD (x/7%7).toNat ""
def jb(xs:List Int):List Str:=(xs.take 12).map FZ
def DH{α:Type}(l:List α)(k:Nat):List α:=(l.drop (3*k)).take 3
def gm{α:Type}(l:List α):List (List α):=(abt ((l.length+2)/3)).map (DH l)
theorem vy{a:Addr×AO}{L:Cells}:∀P:Cells,jr a (P++a::L) (P++L):=by intro l0;induction l0 with|nil=>exact .head|cons p P ih=>exact .tail (ih)
theorem C4{L:Cells}:∀C:Cells,aq C (C.reverse++L) L:=by intro l0;induction l0 with|nil=>exact .nil|cons a C ih=>rw[List.reverse_cons,aaw];exact .cons (vy _) (ih)
def Rr(l:Addr)(xs:List AV)(h:Heap):Prop:=∃vs,h.IsList l vs∧vs.toList.map ab=xs
theorem KZ{xs:List Int}(hz:xs.length≤1000):∀c:Cx,Rr l (xs.map .int) c.base→B7 c K0 (n+2) 912 [.ref l] [] [] (λv C=>∃o rs,v= .ref o∧rs.map (λx=>x.2)=gm (jb xs)∧C=(o,.list (bv rs))::bL rs) (λe C=>False):=by
 show FC.B8 (Rr l (xs.map .int)) (fx:=bJ) tr sH tw;intro c Q' E' hB hK hd aZ hc bl ay aL bz;have ht:pE c [("pieces",c.L+1+0),("words",c.L+1+1)]:=pE.of (by rw[bl];kernel_rfl);have kG:ew c [("pieces",c.L+1+0),("words",c.L+1+1)]:=ew.of (by rw[bl];kernel_rfl);have E7:∀scope,closureFor scope c.env=closureFor scope (envX bJ.cn bJ.cs c.L bJ.a bJ.cd (aco (c.L+1) bJ.cs.names [])):=λscope=>by rw[bl]
 change EB c (n+1) ⟨[("script",some (.ref l))],[(c.L+1+0,.cell none),(c.L+1+1,.cell none)]⟩ _ _ _;generalize hb:c.L+1+1=cw at ht kG⊢;generalize ha:c.L+1+0=cp at ht kG⊢;refine ah (q_ ht .head ?_);symm;refine⟨aae rfl,λo=>?_⟩;refine ba _ _ ⟨.tail .head,?_⟩;refine ah (q_ ht (.tail .head) (fD (xs:=["x"]) (cl:=[("pieces",cp)]) (gl:=[]) ⟨by rw[E7,←ha];kernel_rfl,by with_unfolding_all decide,by with_unfolding_all rfl,by with_unfolding_all decide,by with_unfolding_all decide,by decide,λp hp=>nomatch hp⟩ ?_) (by rw[bl];kernel_rfl));show kS;k_extra "m.name";refine jB (iC (oI (p6 l _ none (some 12) ⟨rfl,λX s R=>ak hB λvs h1 h2=>⟨vs,ak h1 λo g1 g2=>⟨o,R.stays _ _ g1,g2⟩,h2⟩,rfl,rfl,by rw[aaa];exact aab hz '2',λsl=>?_⟩)));have e1:pick (xs.map AV.int) none (some 12)=(xs.take 12).map .int:=by rw[List.map_take];exact ri _ 12
 rw[e1];generalize DC:xs.take 12=ys;have Rs:ys.length≤12:=by rw[←DC];exact List.length_take_le ..
 refine CQ.go (P:=aQ sl) (λu hu=>cJ (.head _) hu) d5 λD m L=>LP.loop rfl eR (ys.map .int) (λi S=>∃x,S=⟨[("x",x)],(D,.list (((ys.take i).map FZ).map .str))::(sl,.list (ys.map .int))::(o,.list (w5.map .str))::(cp,.cell (some (.ref o)))::(cw,.cell none)::[]⟩) ⟨none,rfl⟩ ?_ ?_
 ·intro i y S1 hx;revert S1;let x0:=Be;have rY:=hx;rw[aag]at rY;let x LJ r2:=ak (aaq.mp rY);subst r2;refine⟨cM (.tail _ (.head _)) hx,cA ⋯ (iD ?_)⟩;rw[if_pos rfl];refine .inl ⟨rfl,?_⟩;have Ss:∀gl m L,ew (c.inner {kind:=ScopeKind.function,names:=[(".0",NameKind.local),("x",NameKind.local),("pieces",NameKind.free)],isGenerator:=false,isCoroutine:=false} [("pieces",cp)] gl m L) [("pieces",cp)]:=λgl m L=>ew.yu bl '3';have hp:∀z:Int,∃w,w5[(z%7).toNat]? =some w∧w5.getD (z%7).toNat ""=w∧w.length≤1:=(by intro z;have h7:(z%7).toNat<7:=(by exact Gy);generalize(z%7).toNat=k at h7;have md:∀k<7,∃w,w5[k]? =some w∧w5.getD k ""=w∧w.length≤1:=(by intro k hk;match k,hk with|0,_=>exact⟨_,rfl,rfl,by decide⟩|1,_=>exact⟨_,rfl,rfl,by decide⟩|2,_=>exact⟨_,rfl,rfl,by decide⟩|3,_=>exact⟨_,rfl,rfl,by decide⟩|4,_=>exact⟨_,rfl,rfl,by decide⟩|5,_=>exact⟨_,rfl,rfl,by decide⟩|6,_=>exact⟨_,rfl,rfl,by decide⟩);exact md k h7);have hf:∀z:Int,Int.fmod z 7=(((z%7).toNat:Nat):Int):=λz=>(by rw[Int.fmod_eq_emod_of_nonneg _ '2'];exact(Int.toNat_of_nonneg (Int.emod_nonneg _ '2')).symm);refine BK (d6 (bP (Ss _ _ _) .head ⋯ ?_));symm;show iz '2';let w1 h1 h1' l1:=bN (hp x);let w2 h2 I8 l2:=bN (hp (x/7));rw[hf];refine⟨ty_list ⋯,d4 (xs:=w5.map .str) (x:=.str w1) '0' (by rw[aag,h1];rfl) '2' ?_⟩;refine d6 (bP (Ss _ _ _) .head ⋯ ?_);symm;show uH '2' (PyProof.noPylong_small '2');symm;show iz '2';rw[Int.fdiv_eq_ediv_of_nonneg _ '2',hf];refine⟨ty_list ⋯,d4 (xs:=w5.map .str) (x:=.str w2) '0' (by rw[aag,h2];rfl) '2' ?_⟩;show cz (aab (aam l1 l2) '2');refine ba (((ys.take i).map FZ).map .str) _ ⟨.head,?_,some (.int x),?_⟩;rw[aaa,aaa];exact aab (abh _ _) (aab Rs '2');have:ys.take (i+1)=ys.take i++[x]:=(by rw[aaK,LJ];rfl);rw[this,aaj,aaj,List.map_singleton,(by unfold FZ;rw[h1',I8]:FZ x=w1++w2)]
 let x0:=Be;rw[List.map_take,(by rw[abd];simp:(ys.map FZ).take (ys.map AV.int).length=ys.map FZ)];refine⟨cN (.tail _ (.head _)) hd,_,_,.tail (.tail (.tail (.tail .head))),?_⟩;symm;show fD (xs:=["k"]) (cl:=[("words",cw)]) (gl:=[]) ⟨by rw[E7,←hb];kernel_rfl,by with_unfolding_all decide,by with_unfolding_all rfl,by with_unfolding_all decide,by with_unfolding_all decide,by decide,λp hp=>nomatch hp⟩;symm;generalize p5:ys.map FZ=ws;have F0:ws.length≤12:=by rw[←p5,aaa];exact Rs
 show bP kG (.tail .head) ⋯;symm;show bY '0' (by rw[aaa];exact aab F0 '2');rw[aaa];symm;let r:=zG '2' (PyProof.noPylong_small '2');have hk:ab_ 0 (ws.length:Int) 3=(((ws.length+2)/3:Nat):Int):=by unfold ab_;rw[if_pos '2'];split<;>lia
 have TW:acP 0 (ws.length:Int) 3=true:=by unfold acP;rw[hk];simp[Builtin.Range.rangeFitsLong];exact MP F0
 generalize Wz:(ws.length+2)/3=kk at hk;refine CQ.go (P:=mX 0 3 kk) (λu hu=>n7 (.head _) hk TW hu) og λD2 m2 L2=>LP.loop rfl eR ((abt kk).map λi:Nat=>AV.int (0+(i:Int)*3)) (λ(i:Nat) (S:SS)=>∃(k0:Option AV) (rs:FJ),S=⟨[("k",k0)],(bL rs).reverse++((D2,.list (bv rs))::(r,.obj (fB 0 (ws.length:Int) 3))::(D,.list (ws.map .str))::(sl,.list (ys.map .int))::(o,.list (w5.map .str))::(cp,.cell (some (.ref o)))::(cw,.cell (some (.ref D)))::[]:Cells)⟩∧rs.map (λx=>x.2)=(abt i).map (DH ws)) (ba none [] ⟨rfl,rfl⟩) ?_ ?_
 ·intro i y S2 hx;revert S2;let k0 rs tF:=gt;have hi:i<kk:=(by have:=(aav.mp hx).1;simpa using this);rw[aag,acp hi]at hx;obtain rfl:AV.int (0+(i:Int)*3)=y:=(by simpa using hx);refine⟨n8 hi rfl,cA ⋯ (iD ?_)⟩;rw[if_pos rfl];refine .inl ⟨rfl,?_⟩;have Ss:∀gl m L,ew (c.inner {kind:=ScopeKind.function,names:=[(".0",NameKind.local),("k",NameKind.local),("words",NameKind.free)],isGenerator:=false,isCoroutine:=false} [("words",cw)] gl m L) [("words",cw)]:=λgl m L=>ew.yu bl '3';refine cY (bP (Ss _ _ _) .head (At.right ⋯) ?_);show iC;symm;rw[(by exact(Int.zero_add _).trans (Int.mul_comm _ _):(0:Int)+(i:Int)*3=((3*i:Nat):Int))];refine p6 D (ws.map .str) (some ((3*i:Nat):Int)) (some ((3*i+3:Nat):Int)) ⟨rfl,aad _ '0',rfl,rfl,by rw[aaa];exact aab F0 '2',λb=>?_⟩;rw[vo _ _ _ (by exact aa5 _ _) (by rw[aaa];exact MR Wz hi)];have hth:((ws.map AV.str).take (3*i+3)).drop (3*i)=(DH ws i).map .str:=(by rw[List.drop_take,Nat.add_sub_cancel_left];unfold DH;rw[List.map_take,List.map_drop]);rw[hth];refine ba (bv rs) _ ⟨aI.mid (l:=(b,.list ((DH ws i).map .str))::(bL rs).reverse),?_,some (.int ((3*i:Nat):Int)),rs++[(b,DH ws i)],?_,?_⟩;have:=congrArg aaV tF;rw[aaa,aaa,abA]at this;rw[bv,aaa,this];exact aab (show i≤1000 by exact MS F0 Wz hi) '2';have q1:(bL (rs++[(b,DH ws i)])).reverse=(b,.list ((DH ws i).map .str))::(bL rs).reverse:=(by unfold bL;rw[aaj,List.reverse_append];rfl);have q2:bv (rs++[(b,DH ws i)])=bv rs++[.ref b]:=(by unfold bv;rw[aaj];rfl);rw[q1,q2];rw[aaj,tF,List.range_succ,aaj];rfl
 let k0 rs tF:=gt;rw[aaa,abA]at tF⊢;refine⟨n9 hd,?_⟩;symm;refine ay _ _ ((D2,.list (bv rs))::bL rs) _ (.cons (vy _) (C4 (bL rs))) (ba D2 rs ⟨rfl,?_,rfl⟩);rw[tF];unfold gm jb;rw[DC,p5,Wz]
end
section
open PySem.Builtin PySem.Builtin.Str
variable{l:List Nat} {ns:List Str}
theorem at_of_mem{p:α}:∀{l:List α},p∈l→At p l:=by
 intro l0;induction l0 with
 |nil=>intros;first|contradiction|(rename_i h;cases h)|nofun
 |cons _ l ih=>intro h;rcases aai.mp h with rfl|h;exact .head;exact .tail (ih h)
def tG(l:List Nat):List AV:=l.map λ(k:Nat)=>AV.int (k:Int)
def fI(q:Nat→Bool):AV→Bool| .int z=>q z.toNat|_=>false
theorem iN{y:AV}(h:(tG l)[i]? =some y):∃k,l[i]? =some k∧y= .int (k:Int):=by unfold tG at h;rw[aag]at h;let k hk e:=ak (aaq.mp h);exact⟨k,hk,e.symm⟩
theorem tH:∀l:List Nat,(tG l).filter (fI q)=tG (l.filter q):=by intro l0;induction l0 with|nil=>exact rfl|cons k l ih=>have ih:=ih;unfold tG at ih⊢;rw[aan,abO,abO,ih];change(if q ((k:Int).toNat)=true then _ else _)=_;rw[ade];split<;>rfl
theorem tI:fI q (.int (k:Int))=q k:=by change q ((k:Int).toNat)=_;rw[ade]
theorem ou:∀{xs:List AV},eqs f xs []=xs.isEmpty|[]=>rfl|_::_=>rfl
theorem Ae(xs:List α):pick xs (some (-1)) none=xs.drop (xs.length-1):=by rw[ot];exact abd (aaz aa9)
theorem jK{nm:Str}(h:ns.Nodup)(hi:ns[i]? =some nm):ns.idxOf nm=i∧∀m,m<i→ns[m]?≠some nm:=by
 let h1 h2:=eE (aav.mp hi);have gV:∀m,m<i→ns[m]?≠some nm:=λm hm q=>by let g1 g2:=eE (aav.mp q);exact(acx.mp h) m i g1 h1 hm (g2.trans h2.symm)
 refine⟨?_,gV⟩;have dc:=abB (aaA hi:nm∈ns);have he:ns[ns.idxOf nm]? =some nm:=by rw[aay dc,List.getElem_idxOf dc]
 rcases Nat.lt_trichotomy (ns.idxOf nm) i with q|q|q;exact absurd he (gV _ q);exact q;let g1 g2:=eE (aav.mp he);exact absurd (h2.trans g2.symm) ((acx.mp h) i _ h1 g1 q)
theorem maxOf:∀l:List Int,∃M,M∈(-1::l)∧∀a∈(-1::l),a≤M|[]=>⟨-1,.head _,λa ha=>by have:a= -1:=(by simpa using ha);exact Int.le_of_eq this⟩|x::l=>by let M h1 h2:=ak (maxOf l);by_cases q:x≤M;refine⟨M,?_,λa ha=>?_⟩;rcases aai.mp h1 with h|h;exact h▸.head _;exact .tail _ (.tail _ h);rcases aai.mp ha with h|h;exact h2 a (h▸.head _);rcases aai.mp h with h|h;exact h▸q;exact h2 a (.tail _ h);refine⟨x,.tail _ (.head _),λa ha=>?_⟩;have hM:M≤x:=(by exact Int.le_of_lt (Int.not_le.mp q));rcases aai.mp ha with h|h;exact Int.le_trans (h2 a (h▸.head _)) hM;rcases aai.mp h with h|h;exact h▸Int.le_refl _;exact Int.le_trans (h2 a (.tail _ h)) hM
theorem K1{l:Addr}{es:List Expr}{k:_}:LG w (.Tuple es k p) (aQ l):=λA s it o i v Q E ho hP h=>by cases v with|ref T=>exact wpAny_letOwnedTupleGo_listiter ⟨o,ho,hP⟩ h|_=>exact aal h
theorem fL:(tG l).length=l.length:=by unfold tG;rw[aaa]
abbrev yv:=Addr×Str×Str
def hV(es:List yv):Cells:=es.map λe=>(e.1,.tup [.str e.2.1,.str e.2.2])
def gP(es:List yv):List AV:=es.map λe=>.ref e.1
def gE(l:List (Str×Str))(k:Nat):Str×Str:=l.getD k (("":Str),("":Str))
def iX(es:List (Str×Str))(nm:Str):List Nat:=(abt es.length).filter λk=>(gE es k).1==nm
def gQ(es:List (Str×Str))(k:Nat):Str:=(gE es k).2
def iY(es:List (Str×Str))(gv dn:List Str)(nm:Str):Bool:= !gv.contains nm&&((iX es nm).filter λk=> !dn.contains (gQ es k))==[]
def eo(es:List (Str×Str))(dn:List Str)(nm:Str):List Int:= -1::((iX es nm).filter λk=>(dn.drop (dn.length-1)).contains (gQ es k)).map λ(k:Nat)=>(k:Int)
def C6(ns:List Str)(es:List (Str×Str))(gv dn:List Str)(us:List Str):Prop:=∃key:Str→Int,(∀x∈ns,∃M,M∈eo es dn x∧(∀a∈eo es dn x,a≤M)∧key x=M*1000+(ns.idxOf x:Int))∧us.Perm (ns.filter (iY es gv dn))∧us.Pairwise λa b=>key a<key b
abbrev DJ(an ae ag ad:Addr)(ns:List Str)(es:List yv)(gv dn:List Str):Cells:=(an,.list (ns.map .str))::(ae,.list (gP es))::(ag,.list (gv.map .str))::(ad,.list (dn.map .str))::hV es
theorem F5{an ae ag ad:Addr}{es:List yv}(hn:ns.length≤50)(ki:ns.Nodup)(he:es.length≤900)(hg:gv.length≤900)(hdn:dn.length≤900):FC K0 (n+2) 957 [.ref an,.ref ae,.ref ag,.ref ad] [] (DJ an ae ag ad ns es gv dn) (λv C=>∃o us,v= .ref o∧C6 ns (es.map (λx=>x.2)) gv dn us∧C=(o,.list (us.map .str))::DJ an ae ag ad ns es gv dn) (λe C=>False):=by
 show FC.J7 (fx:=bK) tx sP tC;intro c Q' E' hK hd aZ hc bl ay aL bz;have E7:∀scope,closureFor scope c.env=closureFor scope (envX bK.cn bK.cs c.L bK.a bK.cd (aco (c.L+1) bK.cs.names [])):=λscope=>by rw[bl]
 have ht:pE c [("edges",c.L+1+0),("done",c.L+1+1),("name",c.L+1+2)]:=pE.of (by rw[bl];kernel_rfl);have kG:ew c [("edges",c.L+1+0),("done",c.L+1+1),("name",c.L+1+2)]:=ew.of (by rw[bl];kernel_rfl);change EB c (n+1) ⟨[("names",some (.ref an)),("given",some (.ref ag)),("free",none),("mine",none),("last",none)],(c.L+1+0,.cell (some (.ref ae)))::(c.L+1+1,.cell (some (.ref ad)))::(c.L+1+2,.cell none)::DJ an ae ag ad ns es gv dn⟩ _ _ _;generalize h2:c.L+1+2=cn at ht kG⊢;generalize h1:c.L+1+1=cd at ht kG⊢;generalize h0:c.L+1+0=ce at ht kG⊢;show ah;symm;refine⟨aaD _,λfr=>?_⟩;symm;show zF ht (.tail (.tail .head)) (xs:=ns.map .str) (l:=an) (λi S=>∃(nv mi la:Option AV) (ts:List iG),S=⟨[("names",some (.ref an)),("given",some (.ref ag)),("free",some (.ref fr)),("mine",mi),("last",la)],(ts.map λt:iG=>(t.1,sG t)).reverse++((fr,.list (ts.map λt=>.ref t.1))::(ce,.cell (some (.ref ae)))::(cd,.cell (some (.ref ad)))::(cn,.cell nv)::DJ an ae ag ad ns es gv dn:Cells)⟩∧(ts.map (λx=>x.2.2.2))=(ns.take i).filter (iY (es.map (λx=>x.2)) gv dn)∧∀t∈ts,t.2.1∈eo (es.map (λx=>x.2)) dn t.2.2.2∧(∀a∈eo (es.map (λx=>x.2)) dn t.2.2.2,a≤t.2.1)∧t.2.2.1=(ns.idxOf t.2.2.2:Int)) ?_ ?_ ?_
 ·k_extra "m.name";exact⟨rfl,by k_extra "m.mem",none,none,none,[],rfl,rfl,λt ht=>nomatch ht⟩
 intro i;let nv mi la ts z5:=rI;exact aad _ '0'
 ·intro i y S1 N hy;revert S1;let nv mi la ts yw K2:=ug;intro hN;rw[aag]at hy;let nm Au r2:=ak (aaq.mp hy);subst r2;refine ba nv _ ⟨aI.right (.tail (.tail (.tail .head))),?_⟩;show W.fh aaY;generalize Su:(ts.map λt:iG=>(t.1,sG t)).reverse=PT;change EB c (n+1) ⟨[("names",some (.ref an)),("given",some (.ref ag)),("free",some (.ref fr)),("mine",mi),("last",la)],(fr,.list (ts.map λt=>.ref t.1))::(ce,.cell (some (.ref ae)))::(cd,.cell (some (.ref ad)))::(cn,.cell (some (.str nm)))::(an,.list (ns.map .str))::(ae,.list (gP es))::(ag,.list (gv.map .str))::(ad,.list (dn.map .str))::(hV es++PT)⟩ _ _ _;have WA:∀(k:Nat) (e:yv),es[k]? =some e→At (e.1,.tup [.str e.2.1,.str e.2.2]) (hV es++PT):=λk e hk=>At.left (at_of_mem (aat (f:=λe:yv=>(e.1,AO.tup [.str e.2.1,.str e.2.2])) (aaA hk)));have qf:∀(LT:List iG) (K3 K4:Option AV) (C:Cells) (Qx:FL→SS→Prop),C.Perm ((LT.map λt:iG=>(t.1,sG t)).reverse++((fr,.list (LT.map λt=>.ref t.1))::(ce,.cell (some (.ref ae)))::(cd,.cell (some (.ref ad)))::(cn,.cell (some (.str nm)))::DJ an ae ag ad ns es gv dn:Cells))→LT.map (λx=>x.2.2.2)=(ns.take (i+1)).filter (iY (es.map (λx=>x.2)) gv dn)→(∀t∈LT,t.2.1∈eo (es.map (λx=>x.2)) dn t.2.2.2∧(∀a∈eo (es.map (λx=>x.2)) dn t.2.2.2,a≤t.2.1)∧t.2.2.1=(ns.idxOf t.2.2.2:Int))→EB c (n+1) ⟨[("names",some (.ref an)),("given",some (.ref ag)),("free",some (.ref fr)),("mine",K3),("last",K4)],C⟩ [] (au N Qx) E':=λLT K3 K4 C Qx hp q1 q2=>W.fh hp (d0 (hN _ (p6 _ K3 K4 LT ⟨rfl,q1,q2⟩)));have LU:ns.take (i+1)=ns.take i++[nm]:=(by rw[aaK,Au];rfl);have HL:∀(K3 K4:Option AV) (Qx:FL→SS→Prop),iY (es.map (λx=>x.2)) gv dn nm=false→EB c (n+1) ⟨[("names",some (.ref an)),("given",some (.ref ag)),("free",some (.ref fr)),("mine",K3),("last",K4)],(fr,.list (ts.map λt=>.ref t.1))::(ce,.cell (some (.ref ae)))::(cd,.cell (some (.ref ad)))::(cn,.cell (some (.str nm)))::(an,.list (ns.map .str))::(ae,.list (gP es))::(ag,.list (gv.map .str))::(ad,.list (dn.map .str))::(hV es++PT)⟩ [] (au N Qx) E':=λK3 K4 Qx hf=>qf ts K3 K4 _ Qx (by rw[Su];exact aaY (l₁:=(fr,.list (ts.map λt=>.ref t.1))::(ce,.cell (some (.ref ae)))::(cd,.cell (some (.ref ad)))::(cn,.cell (some (.str nm)))::DJ an ae ag ad ns es gv dn) (l₂:=PT)) (by rw[LU,abR,acL (by rw[hf];decide),List.filter_nil,aaO];exact yw) K2;have hlen:(gP es).length=es.length:=(by unfold gP;rw[aaa]);have wG:acP 0 (es.length:Int) 1=true:=small_one '2' '2' (by omega) (by omega);have JN:∀k,k<es.length→∃e,es[k]? =some e∧gE (es.map (λx=>x.2)) k=e.2∧(gP es)[k]? =some (.ref e.1):=λk hk=>(by refine⟨es[k],aay hk,?_,?_⟩;unfold gE;rw[aaR,aag,aay hk];rfl;unfold gP;rw[aag,aay hk];rfl);have Sv:ts.length≤900:=(by have:=congrArg aaV yw;rw[aaa]at this;rw[this];exact aab (abE _ _) (aab (abh _ _) (by exact DP hn)));have lz:∀k,k≤900→k≤lim:=λk hk=>aab hk '2';refine ah (mz (xs:=["k"]) (cl:=[("name",cn),("edges",ce)]) (gl:=[]) ⟨by rw[E7,←h0,←h2];kernel_rfl,by with_unfolding_all decide,by with_unfolding_all rfl,by with_unfolding_all decide,by with_unfolding_all decide,by decide,λp hp=>nomatch hp⟩ ?_ (by rw[bl];kernel_rfl) (hc:=hc));symm;show bP kG .head ⋯;symm;show bY '0' (by rw[hlen];exact lz _ he);rw[hlen];symm;let r:=mB;refine CA.go (P:=mX 0 1 es.length) (λu hu=>n7 (.head _) (by rw[rangeSize_one];split<;>omega:ab_ 0 (es.length:Int) 1=(es.length:Int)) wG hu) og (λD=>by k_extra "m.at") λD m L=>LP.map (tG (abt es.length)) (fI λk=>(gE (es.map (λx=>x.2)) k).1==nm) id (by rw[fL,abA];exact lz _ he) ?_ ?_ ?_ ?_;intro i y v G hx;let k hk r2:=ak (iN hx);subst r2;have hi:i<es.length:=(by have:=(aav.mp hk).1;simpa using this);rw[acp hi]at hk;obtain rfl:i=k:=aaJ hk;exact n8 hi (by simp)
  ·intro i y T Z hx hT;let k hk r2:=ak (iN hx);subst r2;have hk3:k<es.length:=(by have:=aaA hk;simpa using this);let e e1 e2 e3:=bN (JN k hk3);show pd;symm;refine wP (d6 (bP (tab:=[("edges",ce),("name",cn)]) (ew.yu bl '3') .head ⋯ ?_));symm;show d4 '0' e3 (by rw[hlen];exact lz _ he);symm;have nK:=WA k e e1;refine⟨sv (by repeat(first|exact nK|apply At.tail)),wo (k:=0) (xs:=[.str e.2.1,.str e.2.2]) (At.mem (by repeat(first|exact nK|apply At.tail))) rfl (aae rfl) ?_⟩;show bP (tab:=[("edges",ce),("name",cn)]) (ew.yu bl '3') (.tail .head) ⋯;symm;refine eqQ ?_ (hT []);rw[tI,e2]
  ·intro i y T Z hx hf hT;symm;exact hT []
  intro G v;rw[List.map_id,tH,fL,abA];refine⟨n9 hd,?_⟩;rw[(by unfold iX;rw[aaa]:(abt es.length).filter (λk=>(gE (es.map (λx=>x.2)) k).1==nm)=iX (es.map (λx=>x.2)) nm)];have WB:∀k∈iX (es.map (λx=>x.2)) nm,k<es.length:=λk hk=>(by have:=(abp.mp hk).1;rw[aaa]at this;simpa using this);have Sw:(iX (es.map (λx=>x.2)) nm).length≤900:=aab (abE _ _) (by rw[abA,aaa];exact he);change EB _ _ _ _ _ _;show W.d8;change EB c (n+1) ⟨[("names",some (.ref an)),("given",some (.ref ag)),("free",some (.ref fr)),("mine",some (.ref D)),("last",la)],(D,.list (tG (iX (es.map (λx=>x.2)) nm)))::(r,.obj (fB 0 (es.length:Int) 1))::(fr,.list (ts.map λt=>.ref t.1))::(ce,.cell (some (.ref ae)))::(cd,.cell (some (.ref ad)))::(cn,.cell (some (.str nm)))::(an,.list (ns.map .str))::(ae,.list (gP es))::(ag,.list (gv.map .str))::(ad,.list (dn.map .str))::(hV es++PT)⟩ _ _ _;show W.zZ (D:=(D,.list (tG (iX (es.map (λx=>x.2)) nm)))::(fr,.list (ts.map λt=>.ref t.1))::(ce,.cell (some (.ref ae)))::(cd,.cell (some (.ref ad)))::(cn,.cell (some (.str nm)))::(an,.list (ns.map .str))::(ae,.list (gP es))::(ag,.list (gv.map .str))::(ad,.list (dn.map .str))::(hV es++PT)) (.cons_cons _ (.cons _ (ab0 _)));change EB _ _ _ _ _ _;generalize Yl:iX (es.map (λx=>x.2)) nm=mn at WB Sw⊢;show ah;symm;show bP kG (.tail (.tail .head)) ⋯;symm;show eP '0';symm;by_cases q1:gv.contains nm=true;rw[q1];show aY '2';show aY '2';refine fY (pv (HL _ _ _ ?_));unfold iY;rw[q1];rfl;have q1:gv.contains nm=false:=(by simpa using q1);rw[q1];show bA rfl;symm;refine fD (xs:=["k"]) (cl:=[("edges",ce),("done",cd)]) (gl:=[]) ⟨by rw[E7,←h0,←h1];kernel_rfl,by with_unfolding_all decide,by with_unfolding_all rfl,by with_unfolding_all decide,by with_unfolding_all decide,by decide,λp hp=>nomatch hp⟩ ?_ (hc:=hc);k_extra "m.name";refine CQ.go (P:=aQ D) (λu hu=>cJ '0' hu) d5 λD2 m2 L2=>LP.map (tG mn) (fI λk=> !dn.contains (gQ (es.map (λx=>x.2)) k)) id (by rw[fL];exact lz _ Sw) (λi y v G hx=>cM (aad _ '0') hx) ?_ ?_ ?_
  ·intro i y T Z hx hT;let k hk r2:=ak (iN hx);subst r2;let e e1 e2 e3:=bN (JN k (WB k (aaA hk)));have nK:=WA k e e1;show pd;symm;refine wP (d6 (bP (tab:=[("edges",ce),("done",cd)]) (ew.yu bl '3') .head ⋯ ?_));symm;show d4 '0' e3 (by rw[hlen];exact lz _ he);symm;refine⟨sv (by repeat(first|exact nK|apply At.tail)),wo (k:=1) (xs:=[.str e.2.1,.str e.2.2]) (At.mem (by repeat(first|exact nK|apply At.tail))) rfl (aae rfl) ?_⟩;show bP (tab:=[("edges",ce),("done",cd)]) (ew.yu bl '3') (.tail .head) ⋯;symm;show eP '0';symm;refine eqQ ?_ (hT []);rw[tI,gQ,e2]
  ·intro i y T Z hx hf hT;symm;exact hT []
  intro G v;rw[List.map_id,tH];refine⟨cN (aad _ '0') hd,?_⟩;change EE _ _ _ _ _ _;show W.d8;change EE _ _ _ _ _ _;symm;refine⟨aaD _,λl3=>?_⟩;refine pc (m:=1) (f:=λzz zz=>true) '0' '0' (λx hx y hy=>by cases hy) ?_ (by exact abm _ _);rw[ou];have hfr:iY (es.map (λx=>x.2)) gv dn nm=(tG (mn.filter λk=> !dn.contains (gQ (es.map (λx=>x.2)) k))).isEmpty:=(by unfold iY;rw[q1,Yl];cases mn.filter λk=> !dn.contains (gQ (es.map (λx=>x.2)) k)<;>rfl);rw[←hfr];show bj;by_cases q2:iY (es.map (λx=>x.2)) gv dn nm=true
  ·show bA q2;k_extra "g.s1";show bA rfl;show W.forget (D:=[_,_]);change EB _ _ _ _ _ _;show ah;symm;refine⟨1,rfl,?_⟩;symm;refine⟨aae rfl,λl4=>?_⟩;refine fD (xs:=["k"]) (cl:=[("edges",ce),("done",cd)]) (gl:=[]) ⟨by rw[E7,←h0,←h1];kernel_rfl,by with_unfolding_all decide,by with_unfolding_all rfl,by with_unfolding_all decide,by with_unfolding_all decide,by decide,λp hp=>nomatch hp⟩ ?_ (hc:=hc);k_extra "m.name";refine CQ.go (P:=aQ D) (λu hu=>cJ '0' hu) d5 λD3 m3 L3=>LP.map (tG mn) (fI λk=>(dn.drop (dn.length-1)).contains (gQ (es.map (λx=>x.2)) k)) id (by rw[fL];exact lz _ Sw) (λi y v G hx=>cM (aad _ '0') hx) ?_ ?_ ?_
   ·intro i y T Z hx hT;let k hk r2:=ak (iN hx);subst r2;let e e1 e2 e3:=bN (JN k (WB k (aaA hk)));have nK:=WA k e e1;show pd;symm;refine wP (d6 (bP (tab:=[("edges",ce),("done",cd)]) (ew.yu bl '3') .head ⋯ ?_));symm;show d4 '0' e3 (by rw[hlen];exact lz _ he);symm;refine⟨sv (by repeat(first|exact nK|apply At.tail)),wo (k:=1) (xs:=[.str e.2.1,.str e.2.2]) (At.mem (by repeat(first|exact nK|apply At.tail))) rfl (aae rfl) ?_⟩;refine cY (bP (tab:=[("edges",ce),("done",cd)]) (ew.yu bl '3') (.tail .head) ⋯ ?_);show iC;symm;refine⟨1,rfl,jB (p6 ad _ (some (-1)) none ⟨rfl,by k_extra "m.mem",rfl,rfl,by rw[aaa];exact lz _ hdn,λb=>?_⟩)⟩;rw[(by rw[Ae,aaa,List.map_drop]:pick (dn.map AV.str) (some (-1)) none=(dn.drop (dn.length-1)).map .str)];show kn (.head _);symm;refine eqQ ?_ (hT [(b,_)]);rw[tI,gQ,e2]
   ·intro i y T Z hx hf hT;symm;exact hT []
   intro G v;rw[List.map_id,tH];refine⟨cN (aad _ '0') hd,?_⟩;refine λvv ww hv hw=>W.d8 (gw (xs:=[.int (-1)]) '0' (.head _) (by rw[fL];exact aab (abe (aab (abE _ _) Sw) _) '2') (λl5=>?_) vv ww hv hw);have Sx:[AV.int (-1)]++tG (mn.filter λk=>(dn.drop (dn.length-1)).contains (gQ (es.map (λx=>x.2)) k))=(eo (es.map (λx=>x.2)) dn nm).map .int:=(by unfold eo;rw[Yl,aan,aba];rfl);rw[Sx];symm;let M hM1 hM2:=Cd (.head _) (by exact ac8 _) hd;k_extra "g.s1";change EB _ _ _ _ _ _;show W.forget (D:=[_,_,_]);change EB c (n+1) ⟨[("names",some (.ref an)),("given",some (.ref ag)),("free",some (.ref fr)),("mine",some (.ref D)),("last",some (.int M))],(D,.list (tG mn))::(fr,.list (ts.map λt=>.ref t.1))::(ce,.cell (some (.ref ae)))::(cd,.cell (some (.ref ad)))::(cn,.cell (some (.str nm)))::(an,.list (ns.map .str))::(ae,.list (gP es))::(ag,.list (gv.map .str))::(ad,.list (dn.map .str))::(hV es++PT)⟩ _ _ _;show fY;let x1 x2:=eA (jK ki Au);symm;show bP kG (.tail (.tail .head)) ⋯;symm;show wv (xs:=ns) (j:=i) '0' Au x2 (lz _ (by exact DP hn));symm;show bP kG (.tail (.tail .head)) ⋯;symm;refine⟨aae rfl,λt1=>?_⟩;symm;show aS ⋯ (by rw[aaa];exact lz _ Sv);change EB _ _ _ _ _ _;refine pv (qf (ts++[(t1,M,(i:Int),nm)]) _ _ _ _ ?_ ?_ ?_);have r1:((ts++[((t1,M,(i:Int),nm):iG)]).map λt:iG=>(t.1,sG t)).reverse=(t1,.tup [.int M,.int (i:Int),.str nm])::PT:=(by rw[aaj,List.reverse_append,Su];rfl);rw[r1,aaj];show abz _;exact aaY (l₁:=((fr,AO.list (ts.map (λt=>AV.ref t.1)++[AV.ref t1]))::(ce,AO.cell (some (AV.ref ae)))::(cd,AO.cell (some (AV.ref ad)))::(cn,AO.cell (some (AV.str nm)))::DJ an ae ag ad ns es gv dn:Cells)) (l₂:=PT);rw[aaj,yw,LU,abR,acM q2];rfl;intro t ht3;rcases aax.mp ht3 with h|h;exact K2 t h;obtain rfl:t=(t1,M,(i:Int),nm):=(by simpa using h);exact⟨hM1,hM2,by rw[x1]⟩
  have q2:iY (es.map (λx=>x.2)) gv dn nm=false:=(by simpa using q2);show aY (by rw[q2];decide);show aY '2';show W.forget (D:=[_,_,_]);exact pv (HL _ _ _ q2)
 let nv mi la ts yw K2:=ug;show W.fh aaY;generalize Su:(ts.map λt:iG=>(t.1,sG t)).reverse=PT;have Ym:∀t∈ts,(t.1,sG t)∈PT:=λt ht=>Su▸List.mem_reverse.mpr (aat (f:=λt:iG=>(t.1,sG t)) ht);change EB c (n+1) ⟨[("names",some (.ref an)),("given",some (.ref ag)),("free",some (.ref fr)),("mine",mi),("last",la)],(fr,.list (ts.map λt=>.ref t.1))::(ce,.cell (some (.ref ae)))::(cd,.cell (some (.ref ad)))::(cn,.cell nv)::(an,.list (ns.map .str))::(ae,.list (gP es))::(ag,.list (gv.map .str))::(ad,.list (dn.map .str))::(hV es++PT)⟩ _ _ _;have lS:(ns.map AV.str).length=ns.length:=aaa _;rw[lS,abi]at yw;symm;refine fD (xs:=["last","place","name"]) (cl:=[]) (gl:=[]) ⟨by rw[bl];kernel_rfl,by with_unfolding_all decide,by with_unfolding_all rfl,by with_unfolding_all decide,by with_unfolding_all decide,by decide,λp hp=>nomatch hp⟩ ?_ (hc:=hc);symm;have C7:ts.length≤50:=by have:=congrArg aaV yw;rw[aaa]at this;rw[this];exact aab (abE _ _) hn
 have Dy:∀t∈ts,t.2.2.2∈ns:=λt ht=>by have:t.2.2.2∈ts.map (λx=>x.2.2.2):=aat (f:=λt:iG=>t.2.2.2) ht;rw[yw]at this;exact(abp.mp this).1
 have Yn:(ts.map (λx=>x.2.2.2)).Nodup:=yw▸ki.filter _;let D us yx hpw:=uS (.head _) (λt ht=>by repeat(first|exact aad _ (Ym t ht)|apply List.mem_cons_of_mem)) (by exact L7 C7) (λi j a b ha hb e=>?_) (λt ht=>?_);have h1:=K2 a (aaA ha);have h2:=K2 b (aaA hb);rw[h1.2.2,h2.2.2]at e;have e:ns.idxOf a.2.2.2=ns.idxOf b.2.2.2:=by exact Int.ofNat_inj.mp e
 have g1:=List.getElem_idxOf (abB (Dy a (aaA ha)));have g3:a.2.2.2=b.2.2.2:=by rw[←g1,←(List.getElem_idxOf (abB (Dy b (aaA hb))))];congr 1
 have m1:(ts.map (λx=>x.2.2.2))[i]? =some a.2.2.2:=by rw[aag,ha];rfl
 exact(jK Yn m1).1.symm.trans (jK Yn (by rw[aag,hb,g3];rfl:(ts.map (λx=>x.2.2.2))[j]? =some a.2.2.2)).1;have:=(K2 t ht).2.2;exact Me hn this (abB (Dy t ht));refine CQ.go (P:=aQ D) (λu hu=>cJ (.head _) hu) d5 λD2 m L=>LP.loop rfl K1 (us.map λt=>.ref t.1) (λi S=>∃x1 x2 x3,S=⟨[("last",x1),("place",x2),("name",x3)],(D2,.list (((us.take i).map (λx=>x.2.2.2)).map .str))::(D,.list (us.map λt=>.ref t.1))::(fr,.list (ts.map λt=>.ref t.1))::(ce,.cell (some (.ref ae)))::(cd,.cell (some (.ref ad)))::(cn,.cell nv)::(an,.list (ns.map .str))::(ae,.list (gP es))::(ag,.list (gv.map .str))::(ad,.list (dn.map .str))::(hV es++PT)⟩) (eY none none none rfl) ?_ ?_
 ·intro i y S1 hx;revert S1;let x1 x2 x3:=GX;have rY:=hx;rw[aag]at rY;let t Hy r2:=ak (aaq.mp rY);subst r2;have WC:t∈ts:=yx.mem_iff.mp (aaA Hy);refine⟨cM (.tail _ (.head _)) hx,uz (ns:=[("last",_),("place",_),("name",_)]) (xs:=[.int t.2.1,.int t.2.2.1,.str t.2.2.2]) hd (by repeat(first|exact aad _ (Ym t WC)|apply List.mem_cons_of_mem)) (by change ib ["last","place","name"] _ _ _;k_extra "m.sets") rfl (iD ?_)⟩;rw[if_pos rfl];refine .inl ⟨rfl,?_⟩;symm;refine ba _ _ ⟨.head,?_,some (.int t.2.1),some (.int t.2.2.1),some (.str t.2.2.2),?_⟩;rw[aaa,aaa];exact aab (abh _ _) (by rw[yx.length_eq];exact aab C7 '2');rw[aaK,Hy,aaj,aaj];rfl
 let x1 x2 x3:=GX;rw[aaa,abi];refine⟨(aaa (λt:iG=>AV.ref t.1) (as:=us))▸cN (.tail _ (.head _)) hd,?_⟩;symm;refine ay _ _ ((D2,.list ((us.map (λx=>x.2.2.2)).map .str))::DJ an ae ag ad ns es gv dn) _ (.cons .head (bD (gj (L:=PT) (DJ an ae ag ad ns es gv dn)) [_,_,_,_,_])) (ba D2 (us.map (λx=>x.2.2.2)) ⟨rfl,⟨λx=>adp (maxOf ((eo (es.map (λx=>x.2)) dn x).tail))*1000+(ns.idxOf x:Int),λx hx=>?_,?_,?_⟩,rfl⟩);let c1 c2:=eA (Classical.choose_spec (maxOf ((eo (es.map (λx=>x.2)) dn x).tail)));exact⟨_,c1,c2,rfl⟩;rw[←yw];exact yx.map _;rw[List.pairwise_map];refine List.Pairwise.imp_of_mem (λ{a b} ha hb tQ=>?_) hpw;have hk:∀t∈us,Kb t=adp (maxOf ((eo (es.map (λx=>x.2)) dn t.2.2.2).tail))*1000+(ns.idxOf t.2.2.2:Int):=λt ht=>by let c1 c2:=eA (Classical.choose_spec (maxOf ((eo (es.map (λx=>x.2)) dn t.2.2.2).tail)));let d1 d2 d3:=pZ (K2 t (yx.mem_iff.mp ht));have:adp (maxOf ((eo (es.map (λx=>x.2)) dn t.2.2.2).tail))=t.2.1:=Int.le_antisymm (d2 _ c1) (c2 _ d1);rw[this,←d3];rfl
 change adp (maxOf ((eo (es.map (λx=>x.2)) dn a.2.2.2).tail))*1000+(ns.idxOf a.2.2.2:Int)<adp (maxOf ((eo (es.map (λx=>x.2)) dn b.2.2.2).tail))*1000+(ns.idxOf b.2.2.2:Int);rw[←hk a ha,←hk b hb];exact tQ
end
section
open PySem.Builtin PySem.Builtin.Str
variable{ns:List Str} {es:List (Str×Str)} {P:Prop}
theorem mR:∀C:Cells,aq C C []|[]=>.nil|_::C=>.cons .head (mR C)
theorem fM(P C:Cells):aq C (P++C) P:=by have:=bD (mR C) P;rwa [aaO]at this
structure Turn(ns:List Str)(es:List (Str×Str))(g:G)(rl:List Str)(po nf:Int)(gv dn wt:List Str):Prop where
 next:∀us,C6 ns es gv dn us→us=rl
 act:(decide (nf<po)|| !rl.isEmpty)=(!wt.isEmpty|| !rl.isEmpty)
 mem:∀s∈rl,(db s g).isSome=true
 chk:∀nm,ns[dn.length]? =some nm→nm∉wt++rl→(acR nm).length≤1000∧Dn [nm] (iL rl g) [] nf false (iL rl g) [] nf
 l1:gv.length+rl.length≤900
 l2:dn.length≤900
 l3:wt.length+rl.length≤900
 l4:dn.length≤ns.length
def Af(ns:List Str)(es:List (Str×Str))(R:Nat)(gF:G)(pF fF:Int)(ih:G→List Str→Int→Int→List Str→List Str→List Str→Prop)(g:G)(rl:List Str)(po nf:Int)(gv dn wt:List Str):Prop:=Turn ns es g rl po nf gv dn wt∧((wt++rl=[]∧R=gv.length∧gF=g∧pF=po∧fF=nf)∨∃w' nm g2 rl2 nf2,wt++rl=w'++[nm]∧(acR nm).length≤1000∧Dn (if dn.length%2=0 then[nm]else[nm,"zz"]) (iL rl g) [] nf (dn.length%2==0) g2 rl2 nf2∧ih g2 rl2 (po+rl.length) nf2 (gv++rl) (dn++[nm]) w')
def kf(ns:List Str)(es:List (Str×Str))(R:Nat)(gF:G)(pF fF:Int)(k:Nat):G→List Str→Int→Int→List Str→List Str→List Str→Prop:=k.rec (Af ns es R gF pF fF λzz zz zz zz zz zz zz=>False) λzz ih=>Af ns es R gF pF fF ih
theorem kf.turn{R:Nat}{g rl po nf gv dn wt}(h:kf ns es R gF pF fF k g rl po nf gv dn wt):Turn ns es g rl po nf gv dn wt:=by cases k<;>exact h.1
theorem Af.el{R:Nat}{ih g rl po nf gv dn wt}(h:Af ns es R gF pF fF ih g rl po nf gv dn wt)(h0:rl=[]→wt=[]→R=gv.length→gF=g→pF=po→fF=nf→P)(h1:∀w' nm g2 rl2 nf2,wt++rl=w'++[nm]→(acR nm).length≤1000→Dn (if dn.length%2=0 then[nm]else[nm,"zz"]) (iL rl g) [] nf (dn.length%2==0) g2 rl2 nf2→ih g2 rl2 (po+rl.length) nf2 (gv++rl) (dn++[nm]) w'→P):P:=h.2.elim (λh=>h0 (adx.mp h.1).2 (adx.mp h.1).1 h.2.1 h.2.2.1 h.2.2.2.1 h.2.2.2.2) λh=>h.elim λw' h=>h.elim λnm h=>h.elim λg2 h=>h.elim λrl2 h=>h.elim λnf2 h=>h1 w' nm g2 rl2 nf2 h.1 h.2.1 h.2.2.1 h.2.2.2
theorem kf.el{R:Nat}{g rl po nf gv dn wt}(h:kf ns es R gF pF fF k g rl po nf gv dn wt)(h0:rl=[]→wt=[]→R=gv.length→gF=g→pF=po→fF=nf→P)(h1:∀k',k'<k→∀w' nm g2 rl2 nf2,wt++rl=w'++[nm]→(acR nm).length≤1000→Dn (if dn.length%2=0 then[nm]else[nm,"zz"]) (iL rl g) [] nf (dn.length%2==0) g2 rl2 nf2→kf ns es R gF pF fF k' g2 rl2 (po+rl.length) nf2 (gv++rl) (dn++[nm]) w'→P):P:=by cases k with|zero=>exact Af.el (ih:=λzz zz zz zz zz zz zz=>False) h h0 λzz zz zz zz zz zz zz zz h=>False.elim h|succ k=>exact Af.el h h0 (h1 k (abw _))
abbrev runC(x dx m r g d w an ae ep:Nat)(nds:List Nd)(rl:List Str)(po nf:Int)(gv dn wt ns:List Str)(es:List yv):Cells:=(x,.inst 188 dx)::(dx,.dict (kI (.ref m) (.ref r) (.int po) (.int nf)) 4)::(m,.map (ff nds) ep)::(r,.list (rl.map .str))::(g,.list (gv.map .str))::(d,.list (dn.map .str))::(w,.list (wt.map .str))::(an,.list (ns.map .str))::(ae,.list (gP es))::(hV es++bC nds)
abbrev tJ(x an ae g d w:Nat)(fr nm:Option AV):List (Str×Option AV):=[("sorter",some (.ref x)),("names",some (.ref an)),("edges",some (.ref ae)),("given",some (.ref g)),("done",some (.ref d)),("waiting",some (.ref w)),("fresh",fr),("name",nm)]
theorem F6{E:EP}{e:Expr}{P:AV→SS→Prop}(h:EE c n S e P E)(hq:∀v S',P v S'→Q v S'):EE c n S e Q E:=h.az λv S' k=>hq _ _ k
theorem tK{f:α→β}:∀{l:List α},(l.map f).isEmpty=l.isEmpty|[]=>rfl|_::_=>rfl
theorem drop_one{l:List α}(h:j≤l.length):(l.take (j+1)).drop j=l[j]?.toList:=by
 rw[aaK];have:(l.take j).length=j:=by rw[ado];exact ac5 h
 exact List.drop_left' this
theorem Rt{n x dx m r an ae ep k R:Nat}{nds:List Nd}{rl:List Str}{po nf pF fF:Int}{ns:List Str}{es:List yv}{gF:G}(hn:ns.length≤50)(ki:ns.Nodup)(he:es.length≤900)(hR:kf ns (es.map (λx=>x.2)) R gF pF fF k (er nds) rl po nf [] [] []):FC K0 (n+7) 964 [.ref x,.ref an,.ref ae] [] ((x,.inst 188 dx)::(dx,.dict (kI (.ref m) (.ref r) (.int po) (.int nf)) 4)::(m,.map (ff nds) ep)::(r,.list (rl.map .str))::(an,.list (ns.map .str))::(ae,.list (gP es))::(hV es++bC nds)) (λv C=>v= .int R∧∃gn,er gn=gF∧C=(x,.inst 188 dx)::(dx,.dict (kI (.ref m) (.ref r) (.int pF) (.int fF)) 4)::(m,.map (ff gn) ep)::(r,.list [])::(an,.list (ns.map .str))::(ae,.list (gP es))::(hV es++bC gn)) (λe C=>False):=by
 show aB (fx:=gD) u_ uZ vd;intro c Q' E' hK hd aZ hc ay aL bz;have lz:∀k,k≤900→k≤lim:=λk hk=>aab hk '2';show ah;symm;refine⟨aaD _,λg=>?_⟩;symm;refine⟨aaD _,λd=>?_⟩;symm;refine⟨aaD _,λw=>?_⟩;k_extra "g.s1";change EB c (n+6) ⟨tJ x an ae g d w none none,(w,.list [])::(d,.list [])::(g,.list [])::(x,.inst 188 dx)::(dx,.dict (kI (.ref m) (.ref r) (.int po) (.int nf)) 4)::(m,.map (ff nds) ep)::(r,.list (rl.map .str))::(an,.list (ns.map .str))::(ae,.list (gP es))::(hV es++bC nds)⟩ _ _ _;have h3:∀{a b:Addr×AO} {p:Addr×AO} {q:Addr×AO} {t:Cells},jr p (a::b::q::p::t) (a::b::q::t):=.tail (.tail (.tail .head));show W.into (D:=runC x dx m r g d w an ae ep nds rl po nf [] [] [] ns es) (Z:=[]) (.cons h3 (.cons h3 (.cons h3 (.cons h3 (.cons (.tail (.tail .head)) (.cons (.tail .head) (.cons .head (mR _))))))));change EB _ _ _ _ _ _;clear h3;show ah;show gy (λk S=>∃nds rl po nf gv dn wt fr nm,S=⟨tJ x an ae g d w fr nm,runC x dx m r g d w an ae ep nds rl po nf gv dn wt ns es⟩∧kf ns (es.map (λx=>x.2)) R gF pF fF k (er nds) rl po nf gv dn wt) k (IP nds rl po nf [] [] [] none none ⟨rfl,hR⟩);clear hR nds rl po nf;intro k S1 N;revert S1;let nds rl po nf gv dn wt fr nm hR:=rH;intro hN;have hT:=hR.turn;have Yo:aq (DJ an ae g d ns es gv dn) (runC x dx m r g d w an ae ep nds rl po nf gv dn wt ns es) ((x,.inst 188 dx)::(dx,.dict (kI (.ref m) (.ref r) (.int po) (.int nf)) 4)::(m,.map (ff nds) ep)::(r,.list (rl.map .str))::(w,.list (wt.map .str))::bC nds):=.cons (.tail (.tail (.tail (.tail (.tail (.tail (.tail .head))))))) (.cons (.tail (.tail (.tail (.tail (.tail (.tail (.tail .head))))))) (.cons (.tail (.tail (.tail (.tail .head)))) (.cons (.tail (.tail (.tail (.tail .head)))) (bD (gj (hV es)) [_,_,_,_,_]))));symm;refine aH (F5 (n:=n) (an:=an) (ae:=ae) (ag:=g) (ad:=d) (ns:=ns) (es:=es) (gv:=gv) (dn:=dn) hn ki he (by have:=hT.l1;exact aab (aa5 _ _) this) hT.l2) (D:=(x,.inst 188 dx)::(dx,.dict (kI (.ref m) (.ref r) (.int po) (.int nf)) 4)::(m,.map (ff nds) ep)::(r,.list (rl.map .str))::(w,.list (wt.map .str))::bC nds) ?_ hK hd (λv C hv=>?_) (λzz zz h=>h.elim);exact Yo;let o us r2 VD r4:=bG hv;subst r2;subst r4;obtain rfl:=hT.next us VD;show PL.go (l:=(o,.list (us.map .str))::runC x dx m r g d w an ae ep nds us po nf gv dn wt ns es) ?_;exact .cons .head Yo;symm;refine aH (vj (n:=n) (x:=x) (dx:=dx) (m:=.ref m) (r:=r) (po:=po) (nf:=nf) (rl:=us) (by have:=hT.l3;exact LZ this)) '1' hK hd (GY ?_) (λzz zz h=>h.elim);show PL.go (l:=(o,.list (us.map .str))::runC x dx m r g d w an ae ep nds us po nf gv dn wt ns es) '1';rw[hT.act];obtain⟨P,hP⟩:∃P:AV→SS→Prop,P=λv S'=>v= .bool (!wt.isEmpty|| !us.isEmpty)∧∃G:Cells,S'=⟨tJ x an ae g d w (some (.ref o)) nm,G++((o,.list (us.map .str))::runC x dx m r g d w an ae ep nds us po nf gv dn wt ns es:Cells)⟩:=⟨_,rfl⟩;show F6 (P:=P) ?_
 ·symm;refine⟨aaD _,λl1=>?_⟩;refine fX (m:=1) (f:=λzz zz=>true) '0' (.head _) (λx hx y hy=>by cases hy) ?_ (by exact abm _ _);rw[ou,tK];show bj;cases Yp:wt.isEmpty with|false=>show bA rfl;rw[hP,Yp];exact⟨rfl,[(l1,_)],rfl⟩|true=>show aY '2';symm;refine⟨aaD _,λl2=>?_⟩;refine fX (m:=1) (f:=λzz zz=>true) '0' (.head _) (λx hx y hy=>by cases hy) ?_ (by exact abm _ _);rw[ou,tK,hP,Yp];exact⟨rfl,[(l2,_),(l1,_)],rfl⟩
 rw[hP];intro v S' Jk;let r0 G r2:=TB Jk;subst r0;subst r2;clear hP P;show wh;rw[beq_self_eq_true];k_extra "g.s1";show aY '2';show W.d8;change EB c (n+6) ⟨tJ x an ae g d w (some (.ref o)) nm,(o,.list (us.map .str))::runC x dx m r g d w an ae ep nds us po nf gv dn wt ns es⟩ _ _ _;symm;have vz:∀(P:Cells) (gn:List Nd) (tm:List Str) (WD tT:Int) (Sy Sz SB:List Str),aq (en x dx m gn ep r tm WD tT) (P++runC x dx m r g d w an ae ep gn tm WD tT Sy Sz SB ns es) (P++((g,.list (Sy.map .str))::(d,.list (Sz.map .str))::(w,.list (SB.map .str))::(an,.list (ns.map .str))::(ae,.list (gP es))::hV es)):=λP gn tm WD tT Sy Sz SB=>bD (.cons .head (.cons .head (.cons .head (.cons .head (fM ((g,.list (Sy.map .str))::(d,.list (Sz.map .str))::(w,.list (SB.map .str))::(an,.list (ns.map .str))::(ae,.list (gP es))::hV es) (bC gn)))))) P;refine aH (tj (n:=n) (by have:=hT.l3;exact LZ this) hT.mem) (vz [_] nds us po nf gv dn wt) hK hd (v7 λt1 K5 vN=>?_) (λzz zz h=>h.elim);show PL.go (l:=(t1,.tup (us.map .str))::(o,.list (us.map .str))::runC x dx m r g d w an ae ep K5 [] (po+us.length) nf gv dn wt ns es) (.cons .head (vz [_] K5 [] _ nf gv dn wt));symm;let t2:=jY '0' (by rw[aaa];exact lz _ (by have:=hT.l3;exact Ta this));refine qS (m:=1) (xs:=us.map .str) (ys:=us.map .str) (f:=Ha) '0' (.head _) kU ?_ (by exact abm _ _);rw[jp,beq_self_eq_true];refine bj (aY '2' ?_);symm;refine aH (tj (n:=n) (rl:=[]) (aaD _) (λzz h=>nomatch h)) (vz [_,_,_] K5 [] (po+us.length) nf gv dn wt) hK hd (v7 λt3 jV ig=>?_) (λzz zz h=>h.elim);have e0:po+(us.length:Int)+(([]:List Str).length:Int)=po+us.length:=Int.add_zero _;rw[e0];show PL.go (l:=(t3,.tup [])::(t2,.tup (us.map .str))::(t1,.tup (us.map .str))::(o,.list (us.map .str))::runC x dx m r g d w an ae ep jV [] (po+us.length) nf gv dn wt ns es) (.cons .head (vz [_,_,_] jV [] _ nf gv dn wt));symm;refine⟨aaD _,λt4=>?_⟩;refine qS (m:=1) (xs:=[]) (ys:=[]) (f:=Ha) (.tail _ (.head _)) (.head _) (λx hx=>nomatch hx) ?_ (by exact abm _ _);refine bj (aY '2' ?_);k_extra "g.s1";show aY '2';show W.forget (D:=[_,_,_,_]);change EB c (n+6) ⟨tJ x an ae g d w (some (.ref o)) nm,(o,.list (us.map .str))::runC x dx m r g d w an ae ep jV [] (po+us.length) nf gv dn wt ns es⟩ _ _ _;symm;show jk ⋯ '0' (by rw[aaa,aaa];exact lz _ hT.l1);rw[←aaj];symm;show jk ⋯ '0' (by rw[aaa,aaa];exact lz _ hT.l3);rw[←aaj];symm;change ES c (n+6) ⟨tJ x an ae g d w (some (.ref o)) nm,(o,.list (us.map .str))::runC x dx m r g d w an ae ep jV [] (po+us.length) nf (gv++us) dn (wt++us) ns es⟩ _ _ _;have vO:(dn.map AV.str).length=dn.length:=aaa _;show zE;show cY;k_extra "m.name";show iC;symm;show bY '0' (by rw[vO];exact lz _ hT.l2);rw[vO];symm;show bY '0' (by rw[vO];exact lz _ hT.l2);rw[vO];symm;have lS:(ns.map AV.str).length=ns.length:=aaa _;refine p6 an _ (some (dn.length:Int)) (some ((dn.length+1:Nat):Int)) ⟨rfl,by k_extra "m.mem",rfl,rfl,by rw[lS];exact lz _ (by exact DP hn),λb=>?_⟩;rw[vo _ _ _ (aa2 _) (by rw[lS];exact hT.l4),drop_one (by rw[lS];exact hT.l4)];have yY:((ns.map AV.str)[dn.length]?).toList=((ns[dn.length]?).toList).map .str:=by rw[aag];cases ns[dn.length]? <;>rfl
 rw[yY];generalize hsv:(ns[dn.length]?).toList=sl;refine eY b (sl.map .str) (λi S=>∃iw LV,S=⟨tJ x an ae g d w (some (.ref o)) LV,(b,.list (sl.map .str))::(o,.list (us.map .str))::runC x dx m r g d w an ae ep iw [] (po+us.length) nf (gv++us) dn (wt++us) ns es⟩∧er iw=iL us (er nds)) ⟨rfl,.head _,(ba jV nm ⟨rfl,(ig.trans vN:er jV=iL us (er nds))⟩),?_,?_,?_⟩;intro i;let iw LV z3:=gt;exact .head _
 ·intro i y S1 N2 hy;revert S1;let iw LV DE:=gt;intro zX;rw[aag]at hy;let a ha r2:=ak (aaq.mp hy);subst r2;have ha2:ns[dn.length]? =some a:=(by have:=aaA ha;rw[←hsv]at this;simpa using this);refine⟨_,by k_extra "m.at",?_⟩;show ah;symm;show eP '0';symm;by_cases q:(wt++us).contains a=true;rw[q];show aY '2';show aY '2';show pv;exact d0 (zX _ (ba iw _ ⟨rfl,DE⟩));have q:(wt++us).contains a=false:=(by simpa using q);let c1 c2:=eA (hT.chk a ha2 (by simpa using q));rw[q];show bA rfl;symm;refine⟨aae rfl,λl5=>?_⟩;symm;refine aH (jH (n:=n) (ps:=[a]) (ns:=iw) (rl:=[]) (rl2:=[]) (nf2:=nf) (b:=false) (g2:=iL us (er nds)) (aae rfl) (λs hs=>by rw[aaL.mp hs];exact c1) (DE▸c2)) (.cons .head (vz [_,_] iw [] (po+us.length) nf (gv++us) dn (wt++us))) hK hd (xh λRu So=>?_) (λzz zz h=>h.elim);refine⟨_,.cons .head (vz [_,_] Ru [] (po+us.length) nf (gv++us) dn (wt++us)),?_⟩;show bj;show aY '2';show aY '2';show pv;exact W.forget (D:=[_]) (d0 (zX _ (ba Ru _ ⟨rfl,So⟩)))
 let iw LV DE:=gt;k_extra "g.s1";refine fY (fY ?_);change EB c (n+6) ⟨tJ x an ae g d w (some (.ref o)) LV,runC x dx m r g d w an ae ep iw [] (po+us.length) nf (gv++us) dn (wt++us) ns es⟩ _ _ _;show ah;symm;refine⟨aaD _,λl6=>?_⟩;refine pc (m:=1) (f:=λzz zz=>true) '0' (.head _) (λx hx y hy=>by cases hy) ?_ (by exact abm _ _);rw[ou,tK];show bj;let k' Hf w' Av g2 rl2 nf2 hw hr hd2 hk:=hR.el (λhu hw hRR hg hp hf=>?_)
 ·show bA (by rw[hu,hw];rfl);symm;show bY '0' (by rw[aaa,aar];exact lz _ hT.l1);symm;exact ay _ _ ((x,.inst 188 dx)::(dx,.dict (kI (.ref m) (.ref r) (.int (po+us.length)) (.int nf)) 4)::(m,.map (ff iw) ep)::(r,.list [])::(an,.list (ns.map .str))::(ae,.list (gP es))::(hV es++bC iw)) _ (.cons (.tail .head) (.cons (.tail .head) (.cons (.tail .head) (.cons (.tail .head) (.cons (.tail (.tail (.tail (.tail .head)))) (.cons (.tail (.tail (.tail (.tail .head)))) (bD (mR _) [_,_,_,_]))))))) ⟨by rw[hRR,hu,aaa,aaO],iw,DE.trans (by rw[hg,hu];rfl),by rw[hp,hf,hu];exact Int.add_zero _▸rfl⟩
 rw[hw];show aY (by simp);show fY;k_extra "g.s1";change EB c (n+6) ⟨tJ x an ae g d w (some (.ref o)) LV,(x,.inst 188 dx)::(dx,.dict (kI (.ref m) (.ref r) (.int (po+us.length)) (.int nf)) 4)::(m,.map (ff iw) ep)::(r,.list [])::(g,.list ((gv++us).map .str))::(d,.list (dn.map .str))::(w,.list ((w'++[Av]).map .str))::(an,.list (ns.map .str))::(ae,.list (gP es))::(hV es++bC iw)⟩ _ _ _;rw[(by rw[aaj];rfl:(w'++[Av]).map AV.str=w'.map .str++[.str Av])];have Yq:w'.length≤900:=by have:=congrArg aaV hw;rw[aar,aar]at this;exact Tl (by assumption) (hT.l3)
 show ah;symm;show oZ (ys:=w'.map .str) ⋯ (by rw[aaa];exact aaC Yq '2');symm;show bY '0' (by rw[aaa];exact lz _ hT.l2);rw[aaa];symm;show iz '2';rw[(by rw[Int.fmod_eq_emod_of_nonneg _ '2'];rfl:Int.fmod (dn.length:Int) 2=((dn.length%2:Nat):Int))];symm;by_cases q:dn.length%2=0
 ·rw[if_pos q,q]at hd2;show bA (by simp[q]);symm;refine aH (CG (n:=n) (ps:=[Av]) (ns:=iw) (rl:=[]) (rl2:=rl2) (nf2:=nf2) (b:=true) (g2:=g2) (aae rfl) (λs hs=>by rw[aaL.mp hs];exact hr) (DE▸hd2)) (vz [] iw [] (po+us.length) nf (gv++us) dn w') hK hd (IX λz0 w6 WE=>?_) (λzz zz h=>nomatch h.1);show PL.go (l:=runC x dx m r g d w an ae ep w6 rl2 (po+us.length) nf2 (gv++us) dn w' ns es) (vz [] w6 rl2 _ nf2 _ _ _);symm;show aS ⋯ (by rw[aaa];exact lz _ hT.l2);symm;exact hN k' _ Hf (IP w6 rl2 (po+us.length) nf2 (gv++us) (dn++[Av]) w' (some (.ref o)) (some (.str Av)) ⟨by change _=(⟨_,_::_::_::_::_::(d,.list ((dn++[Av]).map .str))::_⟩:SS);rw[aaj (l₁:=dn)];rfl,WE.symm▸hk⟩)
 have q1:dn.length%2=1:=by exact Nat.mod_two_ne_zero.mp q
 rw[if_neg q,q1]at hd2;show aY (by simp;exact λq=>absurd (q1.symm.trans (Int.ofNat_inj.mp q)) Nat.one_ne_zero);symm;refine⟨aae rfl,λl7=>?_⟩;symm;refine aH (jH (n:=n) (ps:=[Av,"zz"]) (ns:=iw) (rl:=[]) (rl2:=rl2) (nf2:=nf2) (b:=false) (g2:=g2) (aae rfl) (λs hs=>?_) (DE▸hd2)) (.cons .head (vz [] iw [] (po+us.length) nf (gv++us) dn w')) hK hd (λv C hv=>?_) (λzz zz h=>h.elim);rcases aai.mp hs with h|h;rw[h];exact hr;rw[aaL.mp h];exact aae (by decide+kernel);let r0 w6 WE r3:=AT hv;subst r0;subst r3;show PL.go (l:=(l7,.list ([Av,"zz"].map AV.str))::runC x dx m r g d w an ae ep w6 rl2 (po+us.length) nf2 (gv++us) dn w' ns es) (.cons .head (vz [] w6 rl2 _ nf2 _ _ _));show bj;show aY '2';show fY;symm;show aS ⋯ (by rw[aaa];exact lz _ hT.l2);symm;exact hN k' _ Hf (IP w6 rl2 (po+us.length) nf2 (gv++us) (dn++[Av]) w' (some (.ref o)) (some (.str Av)) ⟨by change _=(⟨_,_::_::_::_::_::(d,.list ((dn++[Av]).map .str))::_⟩:SS);rw[aaj (l₁:=dn)];rfl,WE.symm▸hk⟩)
end
section
open PySem.Builtin PySem.Builtin.Str
section
variable{c:Cx} {n:Nat} {S:SS} {E:EP} {x:Str} {px:Pos} {elt iter:Expr} {ifs:List Expr} {scope:Scope} {pos:Pos} {P:Nat→Obj→Prop} {D:Addr} {B:Cells} {Q:SS→Prop}
theorem LP.zip(xs ys:List AV)(hl:xs.length=ys.length)(hz:ys.length≤lim)(hn:∀(i:Nat) (y:AV) (v:Option AV) (G:Cells),xs[i]? =some y→xq c n ⟨[(x,v)],G++B⟩ P i y)(he:∀(i:Nat) (y z:AV) (T:AO) (Z:AV→SS→Prop),xs[i]? =some y→ys[i]? =some z→(∀G,Z z ⟨[(x,some y)],G++(D,T)::B⟩)→EE c n ⟨[(x,some y)],(D,T)::B⟩ elt Z hZ)(fin:∀(G:Cells) (v:Option AV),xr c n ⟨[(x,v)],G++(D,.list ys)::B⟩ P xs.length∧Q ⟨[(x,v)],G++(D,.list ys)::B⟩):LP c n ⟨[(x,none)],(D,.list [])::B⟩ (.ListComp elt [⟨.Name x px,iter,[],0⟩] scope pos) 0 P D Q:=by show LP.loop rfl eR xs (λi S=>∃G v,S=⟨[(x,v)],G++(D,.list (ys.take i))::B⟩) (ba [] none rfl) ?_;intro i y S1 hx;revert S1;let G v:=ui;have hi:i<ys.length:=hl▸(aav.mp hx).1;obtain⟨z,tO⟩:∃z,ys[i]? =some z:=⟨_,aay hi⟩;refine⟨?_,λu hu=>W.d8 (cA (c:=c) (n:=n) (S:=⟨[(x,v)],(D,.list (ys.take i))::B⟩) (Q:=λS2=>TS c n S2 [] (λok S3=>if ok=true then BD c n S3 elt [⟨.Name x px,iter,[],0⟩] scope pos 0 D (λS=>∃G v,S=⟨[(x,v)],G++(D,.list (ys.take (i+1)))::B⟩)else∃G v,S3=⟨[(x,v)],G++(D,.list (ys.take (i+1)))::B⟩) hZ) (E:=hZ) .head (iD ?_) u hu)⟩;have:=hn i y v (G++[(D,.list (ys.take i))]) hx;rw[aaw]at this;exact this;rw[if_pos rfl];refine .inl ⟨rfl,he i y z _ _ hx tO λG4=>?_⟩;refine ba _ _ ⟨aI.at G4,aab (abh _ _) hz,G4,some y,?_⟩;rw[aaK,tO];rfl;let G v:=ui;rw[hl,abi];exact hl▸fin G v
theorem LP.news(xs:List AV)(zs:List (List Str))(hl:xs.length=zs.length)(hz:zs.length≤lim)(hn:∀(i:Nat) (y:AV) (v:Option AV) (G:Cells),xs[i]? =some y→xq c n ⟨[(x,v)],G++B⟩ P i y)(he:∀(i:Nat) (y:AV) (z:List Str) (T:AO) (C:Cells) (Z:AV→SS→Prop),xs[i]? =some y→zs[i]? =some z→(∀a,Z (.ref a) ⟨[(x,some y)],(a,.list (z.map .str))::(C++(D,T)::B)⟩)→EE c n ⟨[(x,some y)],C++(D,T)::B⟩ elt Z hZ)(fin:∀(rs:FJ) (v:Option AV),rs.map (λx=>x.2)=zs→xr c n ⟨[(x,v)],(bL rs).reverse++(D,.list (bv rs))::B⟩ P xs.length∧Q ⟨[(x,v)],(bL rs).reverse++(D,.list (bv rs))::B⟩):LP c n ⟨[(x,none)],(D,.list [])::B⟩ (.ListComp elt [⟨.Name x px,iter,[],0⟩] scope pos) 0 P D Q:=by
 show LP.loop rfl eR xs (λi S=>∃(rs:FJ) (v:Option AV),S=⟨[(x,v)],(bL rs).reverse++((D,.list (bv rs))::B:Cells)⟩∧rs.map (λx=>x.2)=zs.take i) (ba [] none ⟨rfl,rfl⟩) ?_;intro i y S1 hx;revert S1;let rs v tF:=gt;have hi:i<zs.length:=hl▸(aav.mp hx).1;obtain⟨z,tO⟩:∃z,zs[i]? =some z:=⟨_,aay hi⟩;refine⟨?_,cA (c:=c) (n:=n) .head (iD ?_)⟩;have:=hn i y v ((bL rs).reverse++[(D,.list (bv rs))]) hx;rw[aaw]at this;exact this;rw[if_pos rfl];refine .inl ⟨rfl,he i y z _ _ _ hx tO λa=>?_⟩;refine ba (bv rs) _ ⟨aI.mid (l:=(a,.list (z.map .str))::(bL rs).reverse),?_,rs++[(a,z)],some y,?_,?_⟩;have:=congrArg aaV tF;rw[aaa]at this;rw[bv,aaa,this];exact aab (abh _ _) hz;have q1:(bL (rs++[(a,z)])).reverse=(a,.list (z.map .str))::(bL rs).reverse:=by unfold bL;rw[aaj,List.reverse_append];rfl
 have q2:bv (rs++[(a,z)])=bv rs++[.ref a]:=by unfold bv;rw[aaj];rfl
 rw[q1,q2];rw[aaj,tF,aaK,tO];rfl;let rs v tF:=gt;rw[hl,abi]at tF;exact fin rs v tF
theorem LP.refs(xs:List AV)(zs:List (List Str))(hl:xs.length=zs.length)(hz:zs.length≤lim)(hn:∀(i:Nat) (y:AV) (v:Option AV) (G:Cells),xs[i]? =some y→xq c n ⟨[(x,v)],G++B⟩ P i y)(he:∀(i:Nat) (y:AV) (z:List Str) (T:AO) (C:Cells) (Z:AV→SS→Prop),xs[i]? =some y→zs[i]? =some z→(∀a G,(a,.list (z.map .str))∈G∨(a,.list (z.map .str))∈B→Z (.ref a) ⟨[(x,some y)],G++(C++(D,T)::B)⟩)→EE c n ⟨[(x,some y)],C++(D,T)::B⟩ elt Z hZ)(fin:∀(as:List Addr) (G:Cells) (v:Option AV),as.length=zs.length→(∀(j:Nat) (a:Addr) (z:List Str),as[j]? =some a→zs[j]? =some z→(a,AO.list (z.map .str))∈G++(D,.list (as.map .ref))::B)→xr c n ⟨[(x,v)],G++(D,.list (as.map .ref))::B⟩ P xs.length∧Q ⟨[(x,v)],G++(D,.list (as.map .ref))::B⟩):LP c n ⟨[(x,none)],(D,.list [])::B⟩ (.ListComp elt [⟨.Name x px,iter,[],0⟩] scope pos) 0 P D Q:=by
 show LP.loop rfl eR xs (λi S=>∃(as:List Addr) (G:Cells) (v:Option AV),S=⟨[(x,v)],G++((D,.list (as.map .ref))::B:Cells)⟩∧as.length=i∧∀(j:Nat) (a:Addr) (z:List Str),as[j]? =some a→zs[j]? =some z→(a,AO.list (z.map .str))∈G∨(a,AO.list (z.map .str))∈B) (eY [] [] none ⟨rfl,rfl,λj a z h=>by simp at h⟩) ?_;intro i y S1 hx;revert S1;let as G v hlen hm:=nZ;have hi:i<zs.length:=hl▸(aav.mp hx).1;obtain⟨z,tO⟩:∃z,zs[i]? =some z:=⟨_,aay hi⟩;refine⟨?_,cA (c:=c) (n:=n) .head (iD ?_)⟩;have:=hn i y v (G++[(D,.list (as.map .ref))]) hx;rw[aaw]at this;exact this;rw[if_pos rfl];refine .inl ⟨rfl,he i y z _ _ _ hx tO λa G4 hor=>?_⟩;refine ba (as.map .ref) (G4++(G++(D,.list (as.map .ref++[.ref a]))::B)) ⟨aI.right aI.mid,by rw[aaa,hlen];exact Ay hz hi,as++[a],G4++G,some y,by rw[aaj,aaw];rfl,by rw[aar,hlen];rfl,λj b z' hj LK=>?_⟩;by_cases q:j<i;rw[ac4 (by exact NN hlen q)]at hj;rcases hm j b z' hj LK with h|h;exact .inl (aad _ h);exact .inr h;have Sr:=(aav.mp hj).1;rw[aar,hlen]at Sr;obtain rfl:j=i:=by simp at Sr;exact L4 q Sr
 rw[acX (by exact aaz hlen),hlen,adv]at hj;obtain rfl:a=b:=by simpa using hj
 rw[tO]at LK;obtain rfl:=aaJ LK;rcases hor with h|h;exact .inl (aaf _ h);exact .inr h;let as G v hlen hm:=nZ;exact fin as G v (hlen.trans hl) λj a z h1 h2=>(hm j a z h1 h2).elim (aaf _) λh=>aad _ (.tail _ h)
end
end
section
open PySem.Builtin PySem.Builtin.Str
variable{Q:FL→SS→Prop}
structure pT(r:List Str)(cf:Bool):Prop where
 ne:r≠[]
 len:r.length≤10
 wl:∀w∈r,w.length≤10
 un:∀w∈r,w.length≠0→(gH w).isSome=true
 rep:∀w∈r,(ada w "'" "'\"'\"'").length≤1000
 jn:((r.map hO).toArray.foldl (·+·.length+(" ":Str).length) 0)≤lim
 fl:glued " " (r.map hO)=gL r
 l5:(gL r).length≤500
 st:(dz (gL r)).length≤1000
 la:∀l,(gL r).cps.toList≠l++[92]
 red:∃k b',Red k (j_ ((uP (gL r).cps.toList).count [34]) (uP (gL r).cps.toList) 0 "") b'∧(b'=="")=cf
 ac:ft (gL r)=if cf=true then gL r else"('', '')"
 rd:Rd (ft (gL r)) (0,false) (if cf=true then r else["(,",")"])
structure LX(c:Cx)(cr cl ct ce:Addr):Prop where
 hK:c.K=K0 c.w.params
 hd:c.hd=none
 aZ:c.fx=bd
 hc:c.comp=false
 bl:c.env=envX bd.cn bd.cs c.L bd.a bd.cd (aco (c.L+1) bd.cs.names [])
 h0:c.L+1+0=cr
 h1:c.L+1+1=cl
 h2:c.L+1+2=ct
 h3:c.L+1+3=ce
theorem LX.ht(h:LX c cr cl ct ce):pE c [("rows",cr),("lines",cl),("table",ct),("every",ce)]:=pE.of (by rw[h.bl,←h.h0,←h.h1,←h.h2,←h.h3];kernel_rfl)
theorem LX.kG(h:LX c cr cl ct ce):ew c [("rows",cr),("lines",cl),("table",ct),("every",ce)]:=ew.of (by rw[h.bl,←h.h0,←h.h1,←h.h2,←h.h3];kernel_rfl)
theorem LX.cls(h:LX c cr cl ct ce)(scope:Scope):closureFor scope c.env=closureFor scope (envX bd.cn bd.cs c.L bd.a bd.cd (aco (c.L+1) bd.cs.names [])):=by rw[h.bl]
theorem vA{p:Addr×AO}{l:Cells}(h:At p l):∃r,jr p l r:=by induction h with|head=>exact⟨_,.head⟩|tail _ ih=>let r hr:=eE ih;exact⟨_,.tail hr⟩
abbrev eu(l:Addr)(fi va to fs nm ed so he co na qu:Option AV):List (Str×Option AV):=[("script",some (.ref l)),("fields",fi),("values",va),("told",to),("first",fs),("names",nm),("edges",ed),("sorter",so),("held",he),("come",co),("name",na),("quiet",qu)]
theorem HM(P:aao):zA (K0 P) ("join_shlex",.ref 899)∧zA (K0 P) ("_law_line",.ref 917)∧zA (K0 P) ("_law_closes",.ref 924)∧zA (K0 P) ("split",.ref 892):=⟨⟨by kernel_rfl,.inl '3'⟩,⟨by kernel_rfl,.inl '3'⟩,⟨by kernel_rfl,.inl '3'⟩,⟨by kernel_rfl,.inl '3'⟩⟩
theorem WF{xs:List Int}{E:EP}(hB:Rr l (xs.map .int) c.base)(hX:LX c cr cl ct ce)(hz:xs.length≤1000)(SC:(gm (jb xs)).length≤100)(hr:∀r∈gm (jb xs),pT r (cf r))(k:∀(ro li va:Addr) (rs:FJ) (fi:AV),rs.map (λx=>x.2)=gm (jb xs)→EB c (n+10) ⟨eu l (some fi) (some (.ref va)) none none none none none none none none none,(894,.obj aE)::(cr,.cell (some (.ref ro)))::(cl,.cell (some (.ref li)))::(ct,.cell none)::(ce,.cell none)::(ro,.list (bv rs))::(li,.list ((rs.map λe=>gL e.2).map .str))::(va,.list (((rs.map λe=>gL e.2).map ft).map .str))::bL rs⟩ (da.drop 5) Q E):EB c (n+10) ⟨eu l none none none none none none none none none none none,[(894,.obj aE),(cr,.cell none),(cl,.cell none),(ct,.cell none),(ce,.cell none)]⟩ da Q E:=by
 have ht:=hX.ht;have kG:=hX.kG;have i3:=hX.cls;obtain⟨hK,hd,aZ,hc,bl,h0,h1,h2,h3⟩:=hX;have lz:∀k,k≤900→k≤lim:=λk hk=>aab hk '2';have C7:=HM c.w.params;rw[←hK]at C7;refine ah (q_ ht .head ?_);symm;let v C hv:=B7.call (KZ (n:=n) hz c hB) hK hd;let ro rs r2 tF r4:=bG hv;subst r2;subst r4;show PL.go (l:=(894,.obj aE)::(cr,.cell none)::(cl,.cell none)::(ct,.cell none)::(ce,.cell none)::(ro,.list (bv rs))::bL rs) (.cons (.tail (.tail (.tail (.tail (.tail .head))))) (fM [_,_,_,_,_] (bL rs)));refine ba _ _ ⟨.tail .head,?_⟩;have Aw:∀e∈rs,pT e.2 (cf e.2):=λe he=>hr _ (tF▸aat (f:=(λx=>x.2)) he);have hlen:rs.length≤100:=by have:=congrArg aaV tF;rw[aaa]at this;exact HV SC this
 k_extra "g.s1";have Yr:∀(i:Nat) (y:AV),(bv rs)[i]? =some y→∃e∈rs,rs[i]? =some e∧y= .ref e.1:=λi y hy=>by unfold bv at hy;rw[aag]at hy;let e he r2:=ak (aaq.mp hy);subst r2;exact⟨e,aaA he,he,rfl⟩
 have xT:(bv rs).length=rs.length:=by unfold bv;rw[aaa]
 refine mz (xs:=["words"]) (cl:=[]) (gl:=[("join_shlex",.ref 899)]) ⟨by rw[i3];kernel_rfl,by with_unfolding_all decide,by with_unfolding_all rfl,by with_unfolding_all decide,by with_unfolding_all decide,by decide,λp hp=>by obtain rfl:=aaL.mp hp;exact⟨C7.1,by rw[bl];kernel_rfl⟩⟩ ?_ (by rw[bl];kernel_rfl) (hc:=hc);show bP kG .head ⋯;refine CA.go (P:=aQ ro) (λu hu=>cJ '0' hu) d5 (λD=>by k_extra "m.at") λD m L=>LP.zip (bv rs) ((rs.map λe=>gL e.2).map .str) (by rw[xT,aaa,aaa]) (by rw[aaa,aaa];exact lz _ (by exact vR hlen)) (λi y v G hx=>cM (aad _ '0') hx) ?_ ?_
 ·intro i y z T Z hx w7 hT;let e he ig r3:=bN (Yr i y hx);subst r3;rw[aag,aag,ig]at w7;have R:=Aw e he;refine mv (ms (fx:={c.fx with gl:=[("join_shlex",.ref 899)],cs:=relabel _ c.env}) rfl .head (my (fO hK (kp 899 '2')) ?_));symm;let r Rj:=eE (vA (lK he));have Rv:aq [(894,.obj aE),(e.1,.list (e.2.map .str))] ((D,T)::(894,.obj aE)::(cr,.cell (some (.ref ro)))::(cl,.cell none)::(ct,.cell none)::(ce,.cell none)::(ro,.list (bv rs))::bL rs) ((D,T)::(cr,.cell (some (.ref ro)))::(cl,.cell none)::(ct,.cell none)::(ce,.cell none)::(ro,.list (bv rs))::r):=.cons (.tail .head) (.cons (.tail (.tail (.tail (.tail (.tail (.tail Rj)))))) .nil);refine aH (Kj (n:=n) (xs:=e.2) (λw hw=>⟨R.un w hw,aab (R.wl w hw) '2',R.rep w hw⟩) (aab R.len '2') R.jn) Rv hK hd (GY ?_) (λzz zz h=>h.elim);rw[R.fl];exact .go Rv (eqQ (aaJ w7) (hT []))
 intro G v;rw[xT];refine⟨xT▸cN (aad _ '0') hd,?_⟩;change EB _ _ _ _ _ _;show W.d8;change EB c (n+10) ⟨eu l (some (.ref D)) none none none none none none none none none none,(D,.list ((rs.map λe=>gL e.2).map .str))::(894,.obj aE)::(cr,.cell (some (.ref ro)))::(cl,.cell none)::(ct,.cell none)::(ce,.cell none)::(ro,.list (bv rs))::bL rs⟩ _ _ _;refine ah (q_ ht (.tail .head) (fD (xs:=["words"]) (cl:=[]) (gl:=[("_law_line",.ref 917)]) ⟨by rw[i3];kernel_rfl,by with_unfolding_all decide,by with_unfolding_all rfl,by with_unfolding_all decide,by with_unfolding_all decide,by decide,λp hp=>by obtain rfl:=aaL.mp hp;exact⟨C7.2.1,by rw[bl];kernel_rfl⟩⟩ ?_ (hc:=hc)) (by rw[bl];kernel_rfl));show bP kG .head ⋯;refine CQ.go (P:=aQ ro) (λu hu=>cJ '0' hu) d5 λD2 m L=>LP.zip (bv rs) ((rs.map λe=>gL e.2).map .str) (by rw[xT,aaa,aaa]) (by rw[aaa,aaa];exact lz _ (by exact vR hlen)) (λi y v G hx=>cM (aad _ '0') hx) ?_ ?_
 ·intro i y z T Z hx w7 hT;let e he ig r3:=bN (Yr i y hx);subst r3;rw[aag,aag,ig]at w7;have R:=Aw e he;refine mv (ms (fx:={c.fx with gl:=[("_law_line",.ref 917)],cs:=relabel _ c.env}) rfl .head (my (fO hK (kp 917 '2')) ?_));symm;let r Rj:=eE (vA (lK he));have Rv:aq [(e.1,.list (e.2.map .str))] ((D2,T)::(D,.list ((rs.map λe=>gL e.2).map .str))::(894,.obj aE)::(cr,.cell (some (.ref ro)))::(cl,.cell none)::(ct,.cell none)::(ce,.cell none)::(ro,.list (bv rs))::bL rs) ((D2,T)::(D,.list ((rs.map λe=>gL e.2).map .str))::(894,.obj aE)::(cr,.cell (some (.ref ro)))::(cl,.cell none)::(ct,.cell none)::(ce,.cell none)::(ro,.list (bv rs))::r):=.cons (.tail (.tail (.tail (.tail (.tail (.tail (.tail (.tail Rj)))))))) .nil;refine aH (KE (n:=n) R.len R.wl) Rv hK hd (GY ?_) (λzz zz h=>h.elim);exact .go Rv (eqQ (aaJ w7) (hT []))
 intro G v;rw[xT];refine⟨xT▸cN (aad _ '0') hd,?_⟩;refine ba _ _ ⟨aI.right (.tail (.tail (.tail (.tail .head)))),?_⟩;change EB _ _ _ _ _ _;show W.d8;change EB c (n+10) ⟨eu l (some (.ref D)) none none none none none none none none none none,(D2,.list ((rs.map λe=>gL e.2).map .str))::(D,.list ((rs.map λe=>gL e.2).map .str))::(894,.obj aE)::(cr,.cell (some (.ref ro)))::(cl,.cell (some (.ref D2)))::(ct,.cell none)::(ce,.cell none)::(ro,.list (bv rs))::bL rs⟩ _ _ _;generalize Pl:(rs.map λe=>gL e.2)=ln;have Sx:ln.length=rs.length:=by rw[←Pl,aaa]
 have Ys:∀x∈ln,∃e∈rs,x=gL e.2:=λx hx=>by rw[←Pl]at hx;let e he r2:=ak (aaH.mp hx);subst r2;exact⟨e,he,rfl⟩
 show ah;symm;refine aH (Fo (n:=n) (ls:=ln) (by exact Tf hlen Sx) (λx hx=>by refine ak (Ys x hx) λe he r2=>?_;obtain rfl:=r2;exact⟨(Aw e he).l5,(Aw e he).st⟩)) (.cons (.tail .head) .nil) hK hd (TF λva=>?_) (λzz zz h=>h.elim);show PL.go (l:=(va,.list ((ln.map ft).map .str))::(D2,.list (ln.map .str))::(D,.list (ln.map .str))::(894,.obj aE)::(cr,.cell (some (.ref ro)))::(cl,.cell (some (.ref D2)))::(ct,.cell none)::(ce,.cell none)::(ro,.list (bv rs))::bL rs) (.cons .head (.cons (.tail .head) .nil));symm;change EE _ _ _ _ _ _;show bP kG (.tail .head) ⋯;refine fX (m:=1) (xs:=ln.map .str) (ys:=ln.map .str) (f:=Ha) '0' '0' kU ?_ (by exact abm _ _);rw[jp,beq_self_eq_true];show bj;show aY '2';symm;refine fD (xs:=["line"]) (cl:=[]) (gl:=[("_law_closes",.ref 924)]) ⟨by rw[i3];kernel_rfl,by with_unfolding_all decide,by with_unfolding_all rfl,by with_unfolding_all decide,by with_unfolding_all decide,by decide,λp hp=>by obtain rfl:=aaL.mp hp;exact⟨C7.2.2.1,by rw[bl];kernel_rfl⟩⟩ ?_ (hc:=hc);show bP kG (.tail .head) ⋯;refine CQ.go (P:=aQ D2) (λu hu=>cJ '0' hu) d5 λD3 m L=>LP.zip (ln.map .str) ((ln.map ft).map .str) (by rw[aaa,aaa,aaa]) (by rw[aaa,aaa];exact lz _ (by exact Tm hlen Sx)) (λi y v G hx=>cM (aad _ '0') hx) ?_ ?_
 ·intro i y z T Z hx w7 hT;rw[aag]at hx;let x rY r2:=ak (aaq.mp hx);subst r2;rw[aag,aag,rY]at w7;have hz:=aaJ w7;let e he r2:=ak (Ys x (aaA rY));subst r2;have R:=Aw e he;refine Jx (pj ?_);refine mv (ms (fx:={c.fx with gl:=[("_law_closes",.ref 924)],cs:=relabel _ c.env}) rfl .head (my (fO hK (kp 924 '2')) ?_));symm;let k1 b1 K6 WG:=cI R.red;refine aH (vt (n:=n) (aab R.l5 '2') R.la K6) .nil hK hd (GY ?_) (λzz zz h=>h.elim);show .go .nil;rw[WG];show bj;have K7:=R.ac;cases C8:cf e.2 with|true=>rw[C8,if_pos rfl]at K7;show bA rfl;symm;exact eqQ (by rw[←hz,K7]) (hT [])|false=>rw[C8,if_neg aa1]at K7;show aY aa1;symm;exact eqQ (by rw[←hz,K7]) (hT [])
 intro G v;refine⟨cN (aad _ '0') hd,?_⟩;change CO _ _ _ _ _ _ _ _;refine fX (m:=1) (xs:=(ln.map ft).map .str) (ys:=(ln.map ft).map .str) (f:=Ha) (aad _ '0') (aad _ (.head _)) kU ?_ (by exact abm _ _);rw[jp,beq_self_eq_true];show bj;show aY '2';k_extra "g.s1";show aY '2';show W.d8;change EB c (n+10) ⟨eu l (some (.ref D)) (some (.ref va)) none none none none none none none none none,(D3,.list ((ln.map ft).map .str))::(va,.list ((ln.map ft).map .str))::(D2,.list (ln.map .str))::(D,.list (ln.map .str))::(894,.obj aE)::(cr,.cell (some (.ref ro)))::(cl,.cell (some (.ref D2)))::(ct,.cell none)::(ce,.cell none)::(ro,.list (bv rs))::bL rs⟩ _ _ _;show d0;change EB c (n+10) _ (da.drop 5) Q E;subst Pl;have t4:∀{p a b d e:Addr×AO} {t:Cells},jr p (a::b::d::e::p::t) (a::b::d::e::t):=.tail (.tail (.tail (.tail .head)));exact W.into (.cons t4 (.cons t4 (.cons t4 (.cons t4 (.cons t4 (.cons t4 (.cons (.tail (.tail .head)) (.cons (.tail .head) (fM [_,_] (bL rs)))))))))) (k ro D2 va rs (.ref D) tF)
end
section
open PySem.Builtin PySem.Builtin.Str
variable{E:EP}
theorem W.nodup{t:Sem α}{Q:α→SS→Prop}(h:(S.cells.map (λx=>x.1)).Nodup→W c n S t Q E):W c n S t Q E:=.i λok X A s hA R=>by
 have nd:((S.ext X).cells.map (λx=>x.1)).Nodup:=(aaX.mp (aaB.mp R.nd).2).2.1;have jL:(S.cells.map (λx=>x.1)).Nodup:=by rw[(aaj .. :(S.ext X).cells.map (λx=>x.1)=S.cells.map (λx=>x.1)++X.map (λx=>x.1))]at nd;exact(aaX.mp nd).1
 exact(h jL).run ok X A s hA R
theorem F7{x y:AO}(nd:(C.map (λx=>x.1)).Nodup)(hx:(a,x)∈C)(hy:(a,y)∈C):x=y:=by
 induction C with
 |nil=>cases hx
 |cons p l ih=>have nd:=aaB.mp nd;rcases aai.mp hx with h1|h1;rcases aai.mp hy with h2|h2;have:=h1.trans h2.symm;injection this;exact absurd (show p.1∈l.map (λx=>x.1)from(congrArg Prod.fst h1)▸aat (f:=(λx=>x.1)) h2) nd.1;rcases aai.mp hy with h2|h2;exact absurd (show p.1∈l.map (λx=>x.1)from(congrArg Prod.fst h2)▸aat (f:=(λx=>x.1)) h1) nd.1;exact ih nd.2 h1 h2
theorem vB:∀{a b:List Str},a.map AV.str=b.map AV.str→a=b|[],[],_=>rfl|[],_::_,h=>nomatch h|_::_,[],h=>nomatch h|x::a,y::b,h=>by rw[aan,aan,acr]at h;rw[(by injection h.1:x=y),vB h.2]
open Classical in
def nR(C:Cells)(x:AV):List Str:=if h:∃(zs:List Str) (a:Addr),x= .ref a∧(a,AO.list (zs.map .str))∈C then adp h else[]
theorem pU(h:(a,AO.list (z.map .str))∈C):(a,AO.list ((nR C (.ref a)).map .str))∈C:=by have hx:∃(zs:List Str) (b:Addr),AV.ref a= .ref b∧(b,AO.list (zs.map .str))∈C:=(ba z a ⟨rfl,h⟩);unfold nR;rw[dif_pos hx];let b hb hm:=ak (Classical.choose_spec hx);injection hb with hb;rw[←hb]at hm;exact hm
theorem F8(nd:(C.map (λx=>x.1)).Nodup)(h:(a,AO.list (z.map .str))∈C):nR C (.ref a)=z:=by have:=F7 nd (pU h) h;injection this with this;exact vB this
theorem w8{b:Addr}{as bs:List Addr}{zs:List (List Str)}(hl:(l,.list (as.map .ref))∈S.cells)(hb:(b,.list (bs.map .ref))∈S.cells)(la:as.length=zs.length)(lb:bs.length=zs.length)(ha:∀(j:Nat) (a:Addr) (z:List Str),as[j]? =some a→zs[j]? =some z→(a,AO.list (z.map .str))∈S.cells) (K8:∀(j:Nat) (a:Addr) (z:List Str),bs[j]? =some a→zs[j]? =some z→(a,AO.list (z.map .str))∈S.cells)(h:Q (.bool false) S) (hn:3≤8*n):CO c n S .NotEq (.ref l) (.ref b) Q E:=λv w hv hw=>W.nodup λnd=>by
 have get:∀(cs:List Addr),cs.length=zs.length→(∀(j:Nat) (a:Addr) (z:List Str),cs[j]? =some a→zs[j]? =some z→(a,AO.list (z.map .str))∈S.cells)→(∀x∈cs.map AV.ref,∃(a:Addr) (z:List Str),x= .ref a∧(a,AO.list (z.map .str))∈S.cells)∧cs.map (λa=>nR S.cells (.ref a))=zs:=λcs hc hm=>by constructor;intro x hx;let a ha r2:=ak (aaH.mp hx);subst r2;obtain⟨j,hj,rfl⟩:=List.mem_iff_getElem.mp ha;exact ba _ _ ⟨rfl,hm j _ _ (aay hj) (aay (by exact DS hc hj))⟩;let j:=List.ext_getElem?;rw[aag];by_cases hj:j<cs.length;rw[aay hj,aay (by exact DS hc hj:j<zs.length)];exact congrArg some (F8 nd (hm j _ _ (aay hj) (aay (by exact DS hc hj))));rw[acA (by exact aa8 hj),acA (by exact L1 hc hj)];rfl
 let g1 g2:=eA (get as la ha);let g3 g4:=eA (get bs lb K8);refine fX (m:=2) (f:=λx y=>nR S.cells x==nR S.cells y) hl hb (λx hx y hy=>?_) ?_ (by exact hn) v w hv hw;let a z r2 h1:=cI (g1 x hx);subst r2;let a2 z2 r2 h2:=cI (g3 y hy);subst r2;exact Ce (pU h1) (pU h2);have key:∀cs ds:List Addr,cs.map (λa=>nR S.cells (.ref a))=ds.map (λa=>nR S.cells (.ref a))→eqs (λx y=>nR S.cells x==nR S.cells y) (cs.map .ref) (ds.map .ref)=true:=by
  intro cs;induction cs with
  |nil=>intro ds hd;cases ds with|nil=>rfl|cons _ _=>cases hd
  |cons a cs ih=>
   intro ds hd;cases ds with
   |nil=>cases hd
   |cons b ds=>rw[aan,aan,acr]at hd;change((nR S.cells (.ref a)==nR S.cells (.ref b))&&_)=true;rw[hd.1,beq_self_eq_true,ih ds hd.2];rfl
 rw[key as bs (g2.trans g4.symm)];exact h
def gR(cf:List Str→Bool)(r:List Str):List Str:=if cf r=true then r else["(,",")"]
theorem WH{ro li:Addr}{Q:FL→SS→Prop}(hX:LX c cr cl ct ce)(Aw:∀e∈rs,pT e.2 (cf e.2))(hlen:rs.length≤100)(k:∀(g to:Addr) (gs:Gs) (ge:Nat),iq gs=vp (rs.map λe=>gR cf e.2)→EB c (n+10) ⟨eu l (some fi) (some (.ref va)) (some (.ref to)) none none none none none none none none,(894,.obj aE)::(ct,.cell (some (.ref g)))::(ce,.cell none)::(g,.map (gM gs) ge)::gC gs⟩ (da.drop 8) Q E):EB c (n+10) ⟨eu l (some fi) (some (.ref va)) none none none none none none none none none,(894,.obj aE)::(cr,.cell (some (.ref ro)))::(cl,.cell (some (.ref li)))::(ct,.cell none)::(ce,.cell none)::(ro,.list (bv rs))::(li,.list ((rs.map λe=>gL e.2).map .str))::(va,.list (((rs.map λe=>gL e.2).map ft).map .str))::bL rs⟩ (da.drop 5) Q E:=by
 have ht:=hX.ht;have kG:=hX.kG;have i3:=hX.cls;obtain⟨hK,hd,aZ,hc,bl,h0,h1,h2,h3⟩:=hX;have lz:∀k,k≤900→k≤lim:=λk hk=>aab hk '2';have C7:=HM c.w.params;rw[←hK]at C7;have xT:(bv rs).length=rs.length:=by unfold bv;rw[aaa]
 have hvx:∀(i:Nat) (y:AV),(((rs.map λe=>gL e.2).map ft).map AV.str)[i]? =some y→∃e∈rs,rs[i]? =some e∧y= .str (ft (gL e.2)):=λi y hy=>by
  rw[aag,aag,aag]at hy;cases he:rs[i]? with
  |none=>rw[he]at hy;cases hy
  |some e=>rw[he]at hy;exact⟨e,aaA he,rfl,(aaJ hy).symm⟩
 refine ah (mz (xs:=["value"]) (cl:=[]) (gl:=[("split",.ref 892)]) ⟨by rw[i3];kernel_rfl,by with_unfolding_all decide,by with_unfolding_all rfl,by with_unfolding_all decide,by with_unfolding_all decide,by decide,λp hp=>by obtain rfl:=aaL.mp hp;exact⟨C7.2.2.2,by rw[bl];kernel_rfl⟩⟩ ?_ (by rw[bl];kernel_rfl) (hc:=hc));k_extra "m.name";refine CA.go (P:=aQ va) (λu hu=>cJ '0' hu) d5 (λD=>by k_extra "m.at") λD m L=>LP.news _ (rs.map λe=>gR cf e.2) (by rw[(by rw[aaa,aaa,aaa]:(((rs.map λe=>gL e.2).map ft).map AV.str).length=rs.length),aaa]) (by rw[aaa];exact lz _ (by exact vR hlen)) (λi y v G hx=>cM (aad _ '0') hx) ?_ ?_
 ·intro i y z T C Z hx w7 hT;let e he ig r3:=bN (hvx i y hx);subst r3;rw[aag,ig]at w7;obtain rfl:=aaJ w7;have R:=Aw e he;refine mv (ms (fx:={c.fx with gl:=[("split",.ref 892)],cs:=relabel _ c.env}) rfl .head (my (fO hK (kp 892 '2')) ?_));symm;refine aH (FY (n:=n) (ys:=gR cf e.2) ?_ ?_ R.rd) .nil hK hd (λv C hv=>?_) (λzz zz h=>h.elim);rw[R.ac];split;exact aab R.l5 '2';decide;unfold gR;split;exact aab R.len '2';decide;let a r1 r2:=ak hv;subst r1;subst r2;exact .go (.cons .head .nil) (hT a)
 intro ts v yw;refine⟨cN (aad _ '0') hd,?_⟩;change EB _ _ _ _ _ _;show W.fh aaY;change EB c (n+10) ⟨eu l (some fi) (some (.ref va)) (some (.ref D)) none none none none none none none none,(D,.list (bv ts))::(894,.obj aE)::(cr,.cell (some (.ref ro)))::(cl,.cell (some (.ref li)))::(ct,.cell none)::(ce,.cell none)::(ro,.list (bv rs))::(li,.list ((rs.map λe=>gL e.2).map .str))::(va,.list (((rs.map λe=>gL e.2).map ft).map .str))::(bL rs++(bL ts).reverse)⟩ _ _ _;show ah;symm;refine fD (xs:=["k"]) (cl:=[("rows",cr),("lines",cl)]) (gl:=[("_law_closes",.ref 924)]) ⟨by rw[i3,←h0,←h1];kernel_rfl,by with_unfolding_all decide,by with_unfolding_all rfl,by with_unfolding_all decide,by with_unfolding_all decide,by decide,λp hp=>by obtain rfl:=aaL.mp hp;exact⟨C7.2.2.1,by rw[bl];kernel_rfl⟩⟩ ?_ (hc:=hc);symm;show bP kG .head ⋯;symm;show bY '0' (by rw[xT];exact lz _ (by exact vR hlen));rw[xT];symm;let r:=mB;have DK:ab_ 0 (rs.length:Int) 1=(rs.length:Int):=by rw[rangeSize_one];split<;>lia
 refine CQ.go (P:=mX 0 1 rs.length) (λu hu=>n7 (.head _) DK (small_one '2' '2' (by lia) (by lia):acP 0 (rs.length:Int) 1=true) hu) og λD2 m L=>LP.refs (tG (abt rs.length)) (rs.map λe=>gR cf e.2) (by rw[fL,abA,aaa]) (by rw[aaa];exact lz _ (by exact vR hlen)) ?_ ?_ ?_;intro i y v G hx;let k hk r2:=ak (iN hx);subst r2;have hi:i<rs.length:=by have:=(aav.mp hk).1;simpa using this
 rw[acp hi]at hk;obtain rfl:i=k:=aaJ hk;exact n8 hi (by simp)
 ·intro i y z T C Z hx w7 hT;let j hj r2:=ak (iN hx);subst r2;have hi:i<rs.length:=(by have:=(aav.mp hj).1;simpa using this);rw[acp hi]at hj;obtain rfl:i=j:=aaJ hj;have ig:=aay hi;rw[aag,ig]at w7;have he:rs[i]∈rs:=acC hi;generalize rs[i]=e at ig he w7;have Rw:z=gR cf e.2:=(aaJ w7).symm;unfold gR at Rw;have R:=Aw e he;refine Jx (pj ?_);refine mv (ms (fx:={c.fx with gl:=[("_law_closes",.ref 924)],cs:=relabel _ c.env}) rfl .head (my (fO hK (kp 924 '2')) ?_));refine wD (d6 (bP (tab:=[("rows",cr),("lines",cl)]) (ew.yu bl '3') (.tail .head) (At.right ⋯) ?_));symm;refine⟨ty_list (At.right ⋯),d4 (aad _ '0') (by rw[aag,aag,ig];rfl:((rs.map λe=>gL e.2).map AV.str)[i]? =some (.str (gL e.2))) (by rw[aaa,aaa];exact lz _ (by exact vR hlen)) ?_⟩;symm;let k1 b1 K6 WG:=cI R.red;refine aH (vt (n:=n) (aab R.l5 '2') R.la K6) .nil hK hd (GY ?_) (λzz zz h=>h.elim);show .go .nil;rw[WG];show bj;cases C8:cf e.2 with|true=>rw[C8,if_pos rfl]at Rw;subst Rw;show bA rfl;refine d6 (bP (tab:=[("rows",cr),("lines",cl)]) (ew.yu bl '3') .head (At.right ⋯) ?_);symm;refine⟨ty_list (At.right ⋯),d4 (aad _ '0') (by unfold bv;rw[aag,ig];rfl:(bv rs)[i]? =some (.ref e.1)) (by rw[xT];exact lz _ (by exact vR hlen)) ?_⟩;have nK:=At.left (r:=(bL ts).reverse) (lK he);exact hT e.1 [] (.inr (At.mem (by repeat(first|exact nK|apply At.tail))))|false=>rw[C8,if_neg aa1]at Rw;subst Rw;show aY aa1;symm;exact⟨aae rfl,λa=>hT a [(a,_)] (.inl (.head _))⟩
 intro as G v hal WI;rw[fL,abA];refine⟨n9 hd,?_⟩;have Sv:ts.length=rs.length:=by have:=congrArg aaV yw;rw[aaa,aaa]at this;exact this
 refine w8 (as:=ts.map (λx=>x.1)) (bs:=as) (zs:=rs.map λe=>gR cf e.2) (aad _ (by rw[←(by unfold bv;rw[aba];rfl:bv ts=(ts.map (λx=>x.1)).map .ref)];k_extra "m.mem")) (aad _ (.head _)) (by rw[aaa,aaa,Sv]) hal ?_ WI ?_ (by exact abm _ _);intro j a z h1 h2;rw[aag]at h1;let t Hy r2:=ak (aaq.mp h1);subst r2;have:t.2=z:=by have:=congrArg (λq=>q[j]?) yw;simp only[aag,Hy]at this;rw[aag]at h2;rw[←this]at h2;exact aaJ h2
 subst this;have nK:At (t.1,AO.list (t.2.map .str)) (bL rs++(bL ts).reverse):=At.right (at_of_mem (List.mem_reverse.mpr (lK (aaA Hy)).mem));exact aad _ (At.mem (by repeat(first|exact nK|apply At.tail)));show bj;show aY aa1;show W.d8;show d0;change EB c (n+10) ⟨eu l (some fi) (some (.ref va)) (some (.ref D)) none none none none none none none none,(D2,.list (as.map .ref))::(r,.obj (fB 0 (rs.length:Int) 1))::(D,.list (bv ts))::(894,.obj aE)::(cr,.cell (some (.ref ro)))::(cl,.cell (some (.ref li)))::(ct,.cell none)::(ce,.cell none)::(ro,.list (bv rs))::(li,.list ((rs.map λe=>gL e.2).map .str))::(va,.list (((rs.map λe=>gL e.2).map ft).map .str))::(bL rs++(bL ts).reverse)⟩ (da.drop 7) Q E;have prv:aq (bL ts) (bL ts).reverse []:=by have:=C4 (L:=[]) (bL ts);rwa [aaO]at this
 show W.into (D:=(894,.obj aE)::(ct,.cell none)::(ce,.cell none)::(D,.list (bv ts))::bL ts) (.cons (.tail (.tail (.tail .head))) (.cons (.tail (.tail (.tail (.tail (.tail .head))))) (.cons (.tail (.tail (.tail (.tail (.tail .head))))) (.cons (.tail (.tail .head)) (bD (bD prv (bL rs)) [_,_,_,_,_,_,_])))));change EB _ _ _ _ _ _;have WC:∀e∈ts,e.2≠[]∧e.2.length≤10:=λe he=>by have:e.2∈ts.map (λx=>x.2):=aat (f:=λe:Addr×List Str=>e.2) he;rw[yw]at this;let r' R_ rP:=ak (aaH.mp this);rw[←rP];unfold gR;split;exact⟨(Aw r' R_).ne,(Aw r' R_).len⟩;exact⟨by simp,by decide⟩
 refine ah (q_ ht (.tail (.tail .head)) ?_);symm;refine aH (FM (n:=n) (rs:=ts) (by exact HV hlen Sv) WC) (.cons (.tail (.tail (.tail .head))) (fM [_,_,_] (bL ts))) hK hd (D_ λg gs ge LF=>?_) (λzz zz h=>h.elim);show PL.go (l:=(894,.obj aE)::(ct,.cell none)::(ce,.cell none)::(g,.map (gM gs) ge)::gC gs) (.cons (.tail (.tail (.tail .head))) (fM [_,_,_] (gC gs)));refine ba _ _ ⟨.tail .head,?_⟩;exact k g D gs ge (LF.trans (congrArg vp yw))
end
section
open PySem.Builtin PySem.Builtin.Str
variable{Q:FL→SS→Prop}
abbrev SD:=List (Str×List Str)
def dJ(t:SD):List Str:=(t.map λe=>e.1::e.2).flatten
def iZ(ev:List Str):List Str:=((abt ev.length).filter λk=> !(ev.take k).contains (ev.getD k "")).map λk=>ev.getD k ""
def jW(t:SD):List (Str×Str):=(t.map λe=>e.2.map λw=>(e.1,w)).flatten
theorem HN:∀{gs:Gs},(gs.map (λx=>x.1)).Nodup→∀{e:Str×Addr×List Str},e∈gs→dU (gM gs) e.1=some (.ref e.2.1):=by
 intro l0;induction l0 with
 |nil=>intros;first|contradiction|(rename_i h;cases h)|nofun
 |cons a t ih=>
  intro nd e he;have a1:dU (gM (a::t)) e.1=if a.1=e.1 then some (.ref a.2.1)else dU (gM t) e.1:=rfl
  have nd:=aaB.mp nd;rw[a1];rcases aai.mp he with rfl|h;rw[if_pos rfl];have gV:¬a.1=e.1:=λq=>nd.1 (by change a.1∈_;rw[q];exact aat (f:=λx:Str×Addr×List Str=>x.1) h);rw[if_neg gV,ih nd.2 h]
theorem C9{t:SD}(h:∀e∈t,e.2.length≤100):(dJ t).length≤t.length*101:=by unfold dJ;rw[List.length_flatten,aba];exact wZ λe he=>acD (h e he)
theorem K9{t:SD}(h:∀e∈t,e.2.length≤100):(jW t).length≤t.length*100:=by unfold jW;rw[List.length_flatten,aba];let e he:=wZ;change(e.2.map _).length≤_;rw[aaa];exact h e he
def gI(ev:List Str):AV→AV| .int z=>.str (ev.getD z.toNat "")|y=>y
theorem K_:∀l:List Nat,(tG l).map (gI ev)=(l.map λk=>ev.getD k "").map .str:=by intro l0;induction l0 with|nil=>exact rfl|cons k l ih=>have ih:=ih;unfold tG at ih⊢;rw[aan,aan,ih];change AV.str (ev.getD ((k:Int).toNat) "")::_=_;rw[ade]
theorem WJ{to g ge:Addr}{gs:Gs}{E:EP}(hX:LX c cr cl ct ce)(Ap:gs.length≤7)(ux:∀e∈gs,e.2.2.length≤100)(ki:(gs.map (λx=>x.1)).Nodup)(k:∀(an ae:Addr) (es:List yv) (fs:Option AV),es.map (λx=>x.2)=jW (iq gs)→EB c (n+10) ⟨eu l (some fi) (some (.ref va)) (some (.ref to)) fs (some (.ref an)) (some (.ref ae)) none none none none none,(ae,.list (gP es))::(an,.list ((iZ (dJ (iq gs))).map .str))::(894,.obj aE)::(ct,.cell (some (.ref g)))::(g,.map (gM gs) ge)::(gC gs++hV es)⟩ (da.drop 12) Q E):EB c (n+10) ⟨eu l (some fi) (some (.ref va)) (some (.ref to)) none none none none none none none none,(894,.obj aE)::(ct,.cell (some (.ref g)))::(ce,.cell none)::(g,.map (gM gs) ge)::gC gs⟩ (da.drop 8) Q E:=by
 have ht:=hX.ht;have kG:=hX.kG;have i3:=hX.cls;obtain⟨hK,hd,aZ,hc,bl,h0,h1,h2,h3⟩:=hX;have lz:∀k,k≤900→k≤lim:=λk hk=>aab hk '2';have xM:(iq gs).length=gs.length:=by unfold iq;rw[aaa]
 have La:∀x∈iq gs,x.2.length≤100:=λx hx=>by unfold iq at hx;let e he r2:=ak (aaH.mp hx);subst r2;exact ux e he
 refine ah (q_ ht (.tail (.tail (.tail .head))) ?_);symm;refine⟨aaD _,λv=>?_⟩;refine ba _ _ ⟨.tail (.tail (.tail .head)),?_⟩;change EB c (n+10) ⟨eu l (some fi) (some (.ref va)) (some (.ref to)) none none none none none none none none,(v,.list [])::(894,.obj aE)::(ct,.cell (some (.ref g)))::(ce,.cell (some (.ref v)))::(g,.map (gM gs) ge)::gC gs⟩ (da.drop 9) Q E;show ah;show qW (es:=gM gs) (ep:=ge) (d:=g) (λi S=>∃fs,S=⟨eu l (some fi) (some (.ref va)) (some (.ref to)) fs none none none none none none none,(v,.list ((dJ ((iq gs).take i)).map .str))::(894,.obj aE)::(ct,.cell (some (.ref g)))::(ce,.cell (some (.ref v)))::(g,.map (gM gs) ge)::gC gs⟩) ?_ ?_ ?_;show bP kG (.tail (.tail .head)) ⋯;exact⟨rfl,by k_extra "m.mem",none,rfl⟩
 ·intro i;let fs:=Be;k_extra "m.mem"
 ·intro i kk vv S1 N hy;revert S1;let fs:=Be;intro hN;unfold gM at hy;rw[aag]at hy;let e he hk:=ak (aaq.mp hy);injection hk with DK Sa;subst DK;have HO:=aaA he;have LU:(iq gs).take (i+1)=(iq gs).take i++[(e.1,e.2.2)]:=(by rw[aaK];unfold iq;rw[aag,he];rfl);have Lb:dJ ((iq gs).take (i+1))=dJ ((iq gs).take i)++(e.1::e.2.2):=(by rw[LU];unfold dJ;rw[aaj,adj];simp);have K8:(dJ ((iq gs).take i)).length≤707:=aab (C9 λx hx=>La x (adO hx)) (aab (abx _ (aab (abh _ _) (by rw[xM];exact Ap))) '2');refine⟨_,by k_extra "m.at",?_⟩;show ah;symm;show bP kG (.tail (.tail (.tail .head))) ⋯;symm;refine⟨aae rfl,λl1=>?_⟩;refine sE (bP kG (.tail (.tail .head)) ⋯ ?_);symm;show mj '0' (HN ki HO);have nK:=yi HO;let l2:=gw (xs:=[.str e.1]) (ys:=e.2.2.map .str) (.head _) (At.mem (by repeat(first|exact nK|apply At.tail))) (by rw[aaa];exact lz _ (by have:=ux e HO;change 1+_≤900;exact SX this));symm;show jk ⋯ (.head _) (by rw[aaa,aar,aaa];exact lz _ (by have:=ux e HO;change _+(1+_)≤900;exact S0 K8 this));show W.forget (D:=[_,_]);change EB _ _ _ _ _ _;show d0;refine hN _ ⟨some (.str e.1),?_⟩;rw[Lb,aaj];rfl
 let fs:=Be;have hgm:(iq gs).take (gM gs).length=iq gs:=by rw[abd];rw[xM];rw[aaa];exact aak _
 rw[hgm];have LW:(dJ (iq gs)).length≤707:=aab (C9 La) (by rw[xM];exact abx 101 Ap);generalize Lb:dJ (iq gs)=ev at LW;have C_:(ev.map AV.str).length=ev.length:=aaa _;have DK:ab_ 0 (ev.length:Int) 1=(ev.length:Int):=by rw[rangeSize_one];split<;>lia
 k_extra "g.s1";change EB c (n+10) ⟨eu l (some fi) (some (.ref va)) (some (.ref to)) fs none none none none none none none,(v,.list (ev.map .str))::(894,.obj aE)::(ct,.cell (some (.ref g)))::(ce,.cell (some (.ref v)))::(g,.map (gM gs) ge)::gC gs⟩ _ _ _;refine ah (mz (xs:=["k"]) (cl:=[("every",ce)]) (gl:=[]) ⟨by rw[i3,←h3];kernel_rfl,by with_unfolding_all decide,by with_unfolding_all rfl,by with_unfolding_all decide,by with_unfolding_all decide,by decide,λp hp=>nomatch hp⟩ ?_ (by rw[bl];kernel_rfl) (hc:=hc));symm;show bP kG (.tail (.tail (.tail .head))) ⋯;symm;show bY '0' (by rw[C_];exact lz _ (by exact Ax LW));rw[C_];symm;let r:=mB;refine CA.go (P:=mX 0 1 ev.length) (λu hu=>n7 (.head _) DK (small_one '2' '2' (by lia) (by lia):acP 0 (ev.length:Int) 1=true) hu) og (λD=>by k_extra "m.at") λD m L=>LP.map (tG (abt ev.length)) (fI λk=> !(ev.take k).contains (ev.getD k "")) (gI ev) (by rw[fL,abA];exact lz _ (by exact Ax LW)) ?_ ?_ ?_ ?_;intro i y v G hx;let k hk r2:=ak (iN hx);subst r2;have hi:i<ev.length:=by have:=(aav.mp hk).1;simpa using this
 rw[acp hi]at hk;obtain rfl:i=k:=aaJ hk;exact n8 hi (by simp)
 ·intro i y T Z hx hT;let k hk r2:=ak (iN hx);subst r2;have hi:k<ev.length:=(by have:=aaA hk;simpa using this);have hg:ev.getD k ""=ev[k]:=(by rw[aaR,aay hi];rfl);have QZ:(ev.map AV.str)[k]? =some (.str (ev.getD k "")):=(by rw[aag,aay hi,hg];rfl);show pd;symm;refine d6 (bP (tab:=[("every",ce)]) (ew.yu bl '3') .head ⋯ ?_);symm;show d4 '0' QZ (by rw[C_];exact lz _ (by exact Ax LW));refine cY (bP (tab:=[("every",ce)]) (ew.yu bl '3') .head ⋯ ?_);refine jB (iC ?_);symm;refine p6 v _ none (some (k:Int)) ⟨rfl,by k_extra "m.mem",rfl,rfl,by rw[C_];exact lz _ (by exact Ax LW),λb=>?_⟩;rw[ri,←List.map_take];show eP (.head _);symm;refine eqQ ?_ (hT [(b,_)]);rw[tI]
 ·intro i y T Z hx hf hT;let k hk r2:=ak (iN hx);subst r2;have hi:k<ev.length:=(by have:=aaA hk;simpa using this);have QZ:(ev.map AV.str)[k]? =some (.str (ev.getD k "")):=(by rw[aag,aay hi,(by rw[aaR,aay hi];rfl:ev.getD k ""=ev[k])];rfl);refine d6 (bP (tab:=[("every",ce)]) (ew.yu bl '3') .head ⋯ ?_);symm;show d4 '0' QZ (by rw[C_];exact lz _ (by exact Ax LW));refine eqQ ?_ (hT []);change _=AV.str (ev.getD ((k:Int).toNat) "");rw[ade]
 intro G v2;rw[tH,K_,fL,abA];refine⟨n9 hd,?_⟩;change EB _ _ _ _ _ _;show W.d8;change EB c (n+10) ⟨eu l (some fi) (some (.ref va)) (some (.ref to)) fs (some (.ref D)) none none none none none none,(D,.list ((iZ ev).map .str))::(r,.obj (fB 0 (ev.length:Int) 1))::(v,.list (ev.map .str))::(894,.obj aE)::(ct,.cell (some (.ref g)))::(ce,.cell (some (.ref v)))::(g,.map (gM gs) ge)::gC gs⟩ (da.drop 11) Q E;show W.zZ (D:=(D,.list ((iZ ev).map .str))::(894,.obj aE)::(ct,.cell (some (.ref g)))::(g,.map (gM gs) ge)::gC gs) (.cons_cons _ (.cons _ (.cons _ (.cons_cons _ (.cons_cons _ (.cons _ (ab0 _)))))));change EB _ _ _ _ _ _;refine ah (mz (xs:=["first","need"]) (cl:=[("table",ct)]) (gl:=[]) ⟨by rw[i3,←h2];kernel_rfl,by with_unfolding_all decide,by with_unfolding_all rfl,by with_unfolding_all decide,by with_unfolding_all decide,by decide,λp hp=>nomatch hp⟩ ?_ (by rw[bl];kernel_rfl) (hc:=hc));show bP kG (.tail (.tail .head)) ⋯;have WK:(gM gs).length=gs.length:=by unfold gM;rw[aaa]
 refine CA.go (P:=ml g (gM gs).length ge) (λu hu=>xu '0' hu) By (λD2=>by k_extra "m.at") λD2 m2 L2=>LP.loop rfl eR ((gM gs).map λp=>.str p.1) (λ(i:Nat) (S:SS)=>∃(f nd:Option AV) (es:List yv),S=⟨[("first",f),("need",nd)],(hV es).reverse++((D2,.list (gP es))::(D,.list ((iZ ev).map .str))::(894,.obj aE)::(ct,.cell (some (.ref g)))::(g,.map (gM gs) ge)::gC gs:Cells)⟩∧es.map (λx=>x.2)=jW ((iq gs).take i)) (eY none none [] ⟨rfl,rfl⟩) ?_ ?_
 ·intro i y S1 hx;revert S1;let f nd es F9:=rJ;have UO:=hx;rw[aag,gM,aag]at hx;obtain⟨e,he,hy⟩:∃e,gs[i]? =some e∧AV.str e.1=y:=by
   cases he:gs[i]? with
   |none=>rw[he]at hx;cases hx
   |some e=>rw[he]at hx;exact⟨e,rfl,aaJ hx⟩
  subst hy;have HO:=aaA he;have nK:=yi HO;have LU:(iq gs).take (i+1)=(iq gs).take i++[(e.1,e.2.2)]:=(by rw[aaK];unfold iq;rw[aag,he];rfl);have WL:jW ((iq gs).take (i+1))=jW ((iq gs).take i)++e.2.2.map λw=>(e.1,w):=(by rw[LU];unfold jW;rw[aaj,adj];simp);have K8:es.length≤700:=(by have:=congrArg aaV F9;rw[aaa]at this;rw[this];exact aab (K9 λx hx=>La x (adO hx)) (aab (abx _ (aab (abh _ _) (by rw[xM];exact Ap))) '2'));refine⟨xw (aad _ '0') UO,cA ⋯ (iD ?_)⟩;rw[if_pos rfl];refine .inr (eY _ _ _ ⟨rfl,by intro _;with_unfolding_all rfl,?_⟩);refine sE (bP (tab:=[("table",ct)]) (ew.yu bl '3') .head (At.right ⋯) ?_);symm;refine⟨ty_map (At.right ⋯),mj (aad _ '0') (HN ki HO) ?_⟩;refine⟨aQ e.2.1,λu hu=>cJ ((λP=>aad _ (At.mem (by repeat(first|exact nK|apply At.tail))):∀P:Cells,(e.2.1,AO.list (e.2.2.map .str))∈P++((D2,.list (gP es))::(D,.list ((iZ ev).map .str))::(894,.obj aE)::(ct,.cell (some (.ref g)))::(g,.map (gM gs) ge)::gC gs:Cells)) _) hu,d5,LP.loop rfl eR (e.2.2.map .str) (λ(j:Nat) (S:SS)=>∃(nd:Option AV) (es:List yv),S=⟨[("first",some (.str e.1)),("need",nd)],(hV es).reverse++((D2,.list (gP es))::(D,.list ((iZ ev).map .str))::(894,.obj aE)::(ct,.cell (some (.ref g)))::(g,.map (gM gs) ge)::gC gs:Cells)⟩∧es.map (λx=>x.2)=jW ((iq gs).take i)++(e.2.2.take j).map λw=>(e.1,w)) (ba nd es ⟨rfl,by rw[F9];simp⟩) ?_ ?_⟩
  ·intro j y S1 rY;revert S1;let jL DL F_:=gt;have LJ:=rY;rw[aag]at LJ;let w hw r2:=ak (aaq.mp LJ);subst r2;have Ju:DL.length≤900:=(by have:=congrArg aaV F_;rw[aaa,aar,aaa]at this;have h1:=congrArg aaV F9;rw[aaa]at h1;have h2:=abh j e.2.2;have h3:=ux e HO;exact Te K8 this h1 h2 h3);refine⟨cM (aad _ (At.mem (by repeat(first|exact nK|apply At.tail)))) rY,cA ⋯ (iD ?_)⟩;rw[if_pos rfl];refine .inl ⟨rfl,?_⟩;symm;refine⟨aae rfl,λt1=>?_⟩;have q1:(hV (DL++[(t1,e.1,w)])).reverse=(t1,.tup [.str e.1,.str w])::(hV DL).reverse:=(by unfold hV;rw[aaj,List.reverse_append];rfl);have q2:gP (DL++[(t1,e.1,w)])=gP DL++[.ref t1]:=(by unfold gP;rw[aaj];rfl);refine ba (gP DL) _ ⟨aI.mid (l:=(t1,.tup [.str e.1,.str w])::(hV DL).reverse),by unfold gP;rw[aaa];exact lz _ Ju,some (.str w),DL++[(t1,e.1,w)],?_,?_⟩;rw[q1,q2];rw[aaj,F_,aaK,hw,aaj,aaw];rfl
  let jL DL F_:=gt;refine⟨cN (aad _ (At.mem (by repeat(first|exact nK|apply At.tail)))) hd,some (.str e.1),jL,DL,rfl,?_⟩;rw[F_,WL,aaa,abi]
 let f nd es F9:=rJ;have hxl:((gM gs).map λp=>AV.str p.1).length=gs.length:=by rw[aaa,WK]
 refine⟨xy (aad _ '0') hd,?_⟩;rw[hxl,abd (by rw[xM];exact aak _)]at F9;change EB c (n+10) ⟨eu l (some fi) (some (.ref va)) (some (.ref to)) fs (some (.ref D)) (some (.ref D2)) none none none none none,(hV es).reverse++((D2,.list (gP es))::(D,.list ((iZ ev).map .str))::(894,.obj aE)::(ct,.cell (some (.ref g)))::(g,.map (gM gs) ge)::gC gs:Cells)⟩ (da.drop 12) Q E;have hk:=k D D2 es fs F9;rw[Lb]at hk;exact W.fh (((List.reverse_perm _).append_right _).trans aaY) hk
end
section
open PySem.Builtin PySem.Builtin.Str
variable{Q:FL→SS→Prop}
theorem WM{to g ge an ae:Addr}{gs:Gs}{es:List yv}{E:EP}(hX:LX c cr cl ct ce)(Ap:gs.length≤7)(ux:∀e∈gs,e.2.2.length≤100)(hlg:(lH gs).length≤800) (CC:qA (lH gs) 9999) (hD:Kv (lH gs) ((lH gs).map (λx=>x.1)) [] b)(k:∀(x dx m r ep:Addr) (ns:List Nd),er ns=lH gs→EB c (n+10) ⟨eu l (some fi) (some (.ref va)) (some (.ref to)) fs (some (.ref an)) (some (.ref ae)) (some (.ref x)) (some (.bool b)) none none none,(x,.inst 188 dx)::(dx,.dict (kI (.ref m) (.ref r) (.int 0) (.int 0)) 4)::(m,.map (ff ns) ep)::(r,.list ((ip (lH gs)).map .str))::(an,.list (nms.map .str))::(ae,.list (gP es))::(894,.obj aE)::(hV es++bC ns)⟩ (da.drop 17) Q E):EB c (n+10) ⟨eu l (some fi) (some (.ref va)) (some (.ref to)) fs (some (.ref an)) (some (.ref ae)) none none none none none,(ae,.list (gP es))::(an,.list (nms.map .str))::(894,.obj aE)::(ct,.cell (some (.ref g)))::(g,.map (gM gs) ge)::(gC gs++hV es)⟩ (da.drop 12) Q E:=by
 have kG:=hX.kG;obtain⟨hK,hd,aZ,hc,bl,h0,h1,h2,h3⟩:=hX;show ah;symm;show bP kG (.tail (.tail .head)) ⋯;symm;refine FA (n:=n+2) hK hd Ap ux (.cons (.tail (.tail (.tail (.tail .head)))) (bD (gj (gC gs)) [_,_,_,_])) λx dx m ns ep he=>⟨_,gj _,?_⟩;k_extra "g.s1";show W.zZ (D:=nQ x dx m ns ep++([(ae,.list (gP es)),(an,.list (nms.map .str)),(894,.obj aE),(ct,.cell (some (.ref g)))]++hV es)) (adS (List.Sublist.cons _ (ac1 (gC gs) _)) (ab0 _));show W.fh (D:=(x,.inst 188 dx)::(dx,.dict (kI (.ref m) .none (.int 0) (.int 0)) 4)::(m,.map (ff ns) ep)::(([(ae,.list (gP es)),(an,.list (nms.map .str)),(894,.obj aE),(ct,.cell (some (.ref g)))]++hV es)++bC ns)) (abz _ (abz _ (abz _ aaY)));change EB c (n+10) ⟨eu l (some fi) (some (.ref va)) (some (.ref to)) fs (some (.ref an)) (some (.ref ae)) (some (.ref x)) none none none none,(x,.inst 188 dx)::(dx,.dict (kI (.ref m) .none (.int 0) (.int 0)) 4)::(m,.map (ff ns) ep)::(ae,.list (gP es))::(an,.list (nms.map .str))::(894,.obj aE)::(ct,.cell (some (.ref g)))::(hV es++bC ns)⟩ (da.drop 13) Q E;have Au:ns.map (λx=>x.nm)=(lH gs).map (λx=>x.1):=by rw[←he];unfold er;rw[aba];rfl
 have HP:ns.length≤800:=by have:=congrArg aaV he;unfold er at this;rw[aaa]at this;exact NV hlg this
 have goon:∀r,EB c (n+10) ⟨eu l (some fi) (some (.ref va)) (some (.ref to)) fs (some (.ref an)) (some (.ref ae)) (some (.ref x)) (some (.bool b)) none none none,(x,.inst 188 dx)::(dx,.dict (kI (.ref m) (.ref r) (.int 0) (.int 0)) 4)::(m,.map (ff ns) ep)::(r,.list ((ip (lH gs)).map .str))::(ae,.list (gP es))::(an,.list (nms.map .str))::(894,.obj aE)::(ct,.cell (some (.ref g)))::(hV es++bC ns)⟩ (da.drop 16) Q E:=λr=>by show ah;symm;refine aH (FH (n:=n) (x:=x) (dx:=dx) (m:=m) (r:=r) (po:=.int 0) (nf:=.int 0) (ns:=ns) (ep:=ep)) (.cons .head (.cons .head (.cons .head .nil))) hK hd (GY ?_) (λzz zz h=>h.elim);refine⟨_,.cons .head (.cons .head (.cons .head .nil)),?_⟩;show bj;show aY '2';show d0;have t4:∀{p a:Addr×AO} {t:Cells},jr p (a::p::t) (a::t):=.tail .head;exact W.into (.cons .head (.cons .head (.cons .head (.cons .head (.cons (.tail .head) (.cons .head (.cons .head (fM [_] _)))))))) (k x dx m r ep ns he)
 show ah;symm;refine aH (Ky (n:=n) (x:=x) (dx:=dx) (m:=.ref m) (po:=.int 0) (nf:=.int 0)) (.cons .head (.cons .head .nil)) hK hd (GY ?_) (λzz zz h=>h.elim);refine⟨_,.cons .head (.cons .head .nil),?_⟩;show bj;show aY '2';show d0;change EB c (n+10) ⟨eu l (some fi) (some (.ref va)) (some (.ref to)) fs (some (.ref an)) (some (.ref ae)) (some (.ref x)) none none none none,(x,.inst 188 dx)::(dx,.dict (kI (.ref m) .none (.int 0) (.int 0)) 4)::(m,.map (ff ns) ep)::(ae,.list (gP es))::(an,.list (nms.map .str))::(894,.obj aE)::(ct,.cell (some (.ref g)))::(hV es++bC ns)⟩ (da.drop 14) Q E;show ah;k_extra "g.s1";k_extra "g.s1";k_extra "g.s1";change EB c (n+10) ⟨eu l (some fi) (some (.ref va)) (some (.ref to)) fs (some (.ref an)) (some (.ref ae)) (some (.ref x)) (some (.bool false)) none none none,(x,.inst 188 dx)::(dx,.dict (kI (.ref m) .none (.int 0) (.int 0)) 4)::(m,.map (ff ns) ep)::(ae,.list (gP es))::(an,.list (nms.map .str))::(894,.obj aE)::(ct,.cell (some (.ref g)))::(hV es++bC ns)⟩ (da.drop 15) Q E;show ah;show jm;symm;refine aH (Kx (n:=n) (b:=b) HP (he▸CC) (by rw[Au,he];exact hD)) (.cons .head (.cons .head (.cons .head (bD (fM (hV es) (bC ns)) [_,_,_,_])))) hK hd (λv C hv=>?_) (λkx C hv=>?_)
 ·let r0 r1 r r3:=IQ hv;subst r0;subst r1;subst r3;rw[he];show PL.go (l:=(x,.inst 188 dx)::(dx,.dict (kI (.ref m) (.ref r) (.int 0) (.int 0)) 4)::(m,.map (ff ns) ep)::(r,.list ((ip (lH gs)).map .str))::(ae,.list (gP es))::(an,.list (nms.map .str))::(894,.obj aE)::(ct,.cell (some (.ref g)))::(hV es++bC ns)) (.cons .head (.cons .head (.cons .head (.cons .head (bD (fM (hV es) (bC ns)) [_,_,_,_])))));k_extra "g.s1";change EB _ _ _ _ _ _;exact d0 (goon r)
 let r0 r1 r r3:=IQ hv;subst r0;subst r1;subst r3;rw[he];show n_ (b:=true) (by rw[aZ];k_extra "m.mem") (CI hK).2;rw[if_pos rfl];intro e0;show ah;k_extra "g.s1";k_extra "g.s1";k_extra "g.s1";change EB (c.hand e0) _ _ _ _ _;show d0;change EB c (n+10) ⟨eu l (some fi) (some (.ref va)) (some (.ref to)) fs (some (.ref an)) (some (.ref ae)) (some (.ref x)) (some (.bool true)) none none none,(x,.inst 188 dx)::(dx,.dict (kI (.ref m) (.ref r) (.int 0) (.int 0)) 4)::(m,.map (ff ns) ep)::(r,.list ((ip (lH gs)).map .str))::(bC ns++([(ae,.list (gP es)),(an,.list (nms.map .str)),(894,.obj aE),(ct,.cell (some (.ref g)))]++hV es))⟩ (da.drop 16) Q E;exact W.fh (abz _ (abz _ (abz _ (abz _ aaY)))) (goon r)
end
section
open PySem.Builtin PySem.Builtin.Str
variable{Q:FL→SS→Prop}
abbrev vC(x dx m r an ae ep:Addr)(nds:List Nd)(p f:Int)(nms:List Str)(es:List yv):Cells:=(x,.inst 188 dx)::(dx,.dict (kI (.ref m) (.ref r) (.int p) (.int f)) 4)::(m,.map (ff nds) ep)::(r,.list [])::(an,.list (nms.map .str))::(ae,.list (gP es))::(894,.obj aE)::(hV es++bC nds)
theorem WN{to an ae x m r ep:Addr}{es:List yv}{R kk:Nat}{E:EP}(hX:LX c cr cl ct ce)(hn:nms.length≤50) (ki:nms.Nodup) (xM:es.length≤900) (hR:kf nms (es.map (λx=>x.2)) R gF pF fF kk (er ns) rl 0 0 [] [] []) (hb:b=decide (R<nms.length))(md:∀w∈nms,(acR w).length≤1000∧Dn [w] gF [] fF false gF [] fF) (Sc:Dn ["zz"] gF [] fF false gF [] fF) (SF:¬fF<pF)(k:∀S' D,aq [(894,.obj aE)] S'.cells D→Q (.ret (.bool true)) S'):EB c (n+10) ⟨eu l (some fi) (some (.ref va)) (some (.ref to)) fs (some (.ref an)) (some (.ref ae)) (some (.ref x)) (some (.bool b)) none none none,(x,.inst 188 dx)::(dx,.dict (kI (.ref m) (.ref r) (.int 0) (.int 0)) 4)::(m,.map (ff ns) ep)::(r,.list (rl.map .str))::(an,.list (nms.map .str))::(ae,.list (gP es))::(894,.obj aE)::(hV es++bC ns)⟩ (da.drop 17) Q E:=by
 obtain⟨hK,hd,aZ,hc,bl,h0,h1,h2,h3⟩:=hX;have HP:(nms.map AV.str).length=nms.length:=aaa _;show ah;symm;refine aH (Rt (n:=n) hn ki xM hR) (.cons .head (.cons .head (.cons .head (.cons .head (.cons .head (.cons .head (bD (mR _) [_]))))))) hK hd (xh λnds he=>?_) (λzz zz h=>h.elim);show PL.go (l:=vC x dx m r an ae ep nds pF fF nms es) (.cons .head (.cons .head (.cons .head (.cons .head (.cons .head (.cons .head (bD (mR _) [_])))))));k_extra "g.s1";change EB c (n+10) ⟨eu l (some fi) (some (.ref va)) (some (.ref to)) fs (some (.ref an)) (some (.ref ae)) (some (.ref x)) (some (.bool b)) (some (.int R)) none none,vC x dx m r an ae ep nds pF fF nms es⟩ (da.drop 18) Q E;show ah;symm;show bY '0' (by rw[HP];exact(λk hk=>aab hk '2':∀k,k≤900→k≤lim) _ (by exact DP hn));rw[HP];show qN;show wR;have K8:(b==decide ((R:Int)<(nms.length:Int)))=true:=by rw[hb];have:decide (R<nms.length)=decide ((R:Int)<(nms.length:Int)):=(by congr 1;exact propext abS.symm);rw[this,beq_self_eq_true]
 rw[K8];show bj;show aY '2';k_extra "g.s1";show aY '2';show d0;change EB c (n+10) ⟨eu l (some fi) (some (.ref va)) (some (.ref to)) fs (some (.ref an)) (some (.ref ae)) (some (.ref x)) (some (.bool b)) (some (.int R)) none none,vC x dx m r an ae ep nds pF fF nms es⟩ (da.drop 19) Q E;have vz:∀(P:Cells) (gn:List Nd),aq (en x dx m gn ep r [] pF fF) (P++vC x dx m r an ae ep gn pF fF nms es) (P++((an,.list (nms.map .str))::(ae,.list (gP es))::(894,.obj aE)::hV es)):=λP gn=>bD (.cons .head (.cons .head (.cons .head (.cons .head (fM ((an,.list (nms.map .str))::(ae,.list (gP es))::(894,.obj aE)::hV es) (bC gn)))))) P;show ah;show eI (xs:=nms.map .str) (l:=an) (λi S=>∃gn nmv,S=⟨eu l (some fi) (some (.ref va)) (some (.ref to)) fs (some (.ref an)) (some (.ref ae)) (some (.ref x)) (some (.bool b)) (some (.int R)) nmv none,vC x dx m r an ae ep gn pF fF nms es⟩∧er gn=gF) ?_ ?_ ?_
 ·k_extra "m.name";exact⟨rfl,by k_extra "m.mem",nds,none,rfl,he⟩
 ·intro i;let gn nmv z3:=gt;k_extra "m.mem"
 ·intro i y S1 N hy;revert S1;let gn nmv QW:=gt;intro hN;rw[aag]at hy;let w hw r2:=ak (aaq.mp hy);subst r2;let c1 c2:=eA (md w (aaA hw));refine⟨_,by k_extra "m.at",?_⟩;show ah;symm;refine⟨aae rfl,λl5=>?_⟩;symm;refine aH (jH (n:=n) (ps:=[w]) (ns:=gn) (rl:=[]) (rl2:=[]) (nf2:=fF) (b:=false) (g2:=gF) (aae rfl) (λs hs=>by rw[aaL.mp hs];exact c1) (QW▸c2)) (.cons .head (vz [] gn)) hK hd (xh λjV ig=>?_) (λzz zz h=>h.elim);show PL.go (l:=(l5,.list ([w].map .str))::vC x dx m r an ae ep jV pF fF nms es) (.cons .head (vz [] jV));show bj;show aY '2';show fY;show pv;show d0;exact hN _ (ba jV _ ⟨rfl,ig⟩)
 intro S1 WO;obtain⟨gn,nmv,rfl,QW⟩:=WO;clear he nds;symm;refine aH (vj (n:=n) (x:=x) (dx:=dx) (m:=.ref m) (r:=r) (po:=pF) (nf:=fF) (rl:=[]) (aaD _)) (.cons (.tail (.tail (.tail .head))) (.cons .head (.cons .head .nil))) hK hd (GY ?_) (λzz zz h=>h.elim);show PL.go (l:=vC x dx m r an ae ep gn pF fF nms es) (.cons (.tail (.tail (.tail .head))) (.cons .head (.cons .head .nil)));have hq:(decide (fF<pF)|| !([]:List Str).isEmpty)=false:=by rw[decide_eq_false SF];rfl
 rw[hq];symm;refine aH (tj (n:=n) (rl:=[]) (aaD _) (λzz h=>nomatch h)) (vz [] gn) hK hd (v7 λt1 jV ig=>?_) (λzz zz h=>h.elim);have ig:er jV=gF:=ig.trans QW;have e0:pF+(([]:List Str).length:Int)=pF:=Int.add_zero _;rw[e0];show PL.go (l:=(t1,.tup [])::vC x dx m r an ae ep jV pF fF nms es) (.cons .head (vz [] jV));symm;refine⟨aaD _,λt2=>?_⟩;refine zf (m:=1) (xs:=[]) (ys:=[]) (f:=Ha) (.tail _ (.head _)) (.head _) (λx hx=>nomatch hx) ?_ (by exact abm _ _);show bj;show bA rfl;show oR;symm;refine⟨aae rfl,λl7=>?_⟩;symm;refine aH (jH (n:=n) (ps:=["zz"]) (ns:=jV) (rl:=[]) (rl2:=[]) (nf2:=fF) (b:=false) (g2:=gF) (aae rfl) (λs hs=>by rw[aaL.mp hs];exact aae (by decide+kernel)) (ig▸Sc)) (.cons .head (vz [_,_] jV)) hK hd (xh λiw DE=>?_) (λzz zz h=>h.elim);refine⟨_,.cons .head (vz [_,_] iw),?_⟩;exact k _ _ (.cons (.tail (.tail (.tail (.tail (.tail (.tail (.tail (.tail (.tail .head))))))))) .nil)
end
section
open PySem.Builtin PySem.Builtin.Str
def DM(t:Tb):G:=t.foldl (λg e=>qB e.1 e.2 g) []
theorem Da(gs:Gs):lH gs=DM (iq gs):=by unfold lH DM iq;rw[List.foldl_map]
structure yz(t:Tb):Prop where
 tl:t.length≤7
 tps:∀e∈t,e.2.length≤100
 tnd:(t.map (λx=>x.1)).Nodup
 nl:(iZ (dJ t)).length≤50
 nn:(iZ (dJ t)).Nodup
 el:(jW t).length≤900
 gl:(DM t).length≤800
 gsu:qA (DM t) 9999
 run:∃(b:Bool) (R kk:Nat) (gF:G) (pF fF:Int),Kv (DM t) ((DM t).map (λx=>x.1)) [] b∧kf (iZ (dJ t)) (jW t) R gF pF fF kk (DM t) (ip (DM t)) 0 0 [] [] []∧b=decide (R<(iZ (dJ t)).length)∧
  (∀w∈iZ (dJ t),(acR w).length≤1000∧Dn [w] gF [] fF false gF [] fF)∧Dn ["zz"] gF [] fF false gF [] fF∧¬fF<pF
theorem Rx{xs:List Int}(hz:xs.length≤1000)(SC:(gm (jb xs)).length≤100)(hr:∀r∈gm (jb xs),pT r (cf r))(hg:yz (vp ((gm (jb xs)).map (gR cf)))){E':EP} (hB:Rr l (xs.map .int) c.base) (hK:c.K=K0 c.w.params) (hd:c.hd=none) (aZ:c.fx=bd) (hc:c.comp=false) (bl:c.env=envX bd.cn bd.cs c.L bd.a bd.cd (aco (c.L+1) bd.cs.names []))(ay:∀S' D,aq [(894,.obj aE)] S'.cells D→Q' (.ret (.bool true)) S'):EB c (n+10) ⟨eu l none none none none none none none none none none none,[(c.L+1+0,.cell none),(c.L+1+1,.cell none),(c.L+1+2,.cell none),(c.L+1+3,.cell none),(894,.obj aE)]⟩ da Q' E':=by
 have hX:LX c (c.L+1+0) (c.L+1+1) (c.L+1+2) (c.L+1+3):=⟨hK,hd,aZ,hc,bl,rfl,rfl,rfl,rfl⟩;show W.fh (D:=[(894,.obj aE),(c.L+1+0,.cell none),(c.L+1+1,.cell none),(c.L+1+2,.cell none),(c.L+1+3,.cell none)]) (aaS (l₁:=[_,_,_,_]));let ro li va rs fi tF:=WF hB hX hz SC hr;have Aw:∀e∈rs,pT e.2 (cf e.2):=λe he=>hr _ (tF▸aat (f:=λe:Addr×List Str=>e.2) he);have hlen:rs.length≤100:=by have:=congrArg aaV tF;rw[aaa]at this;exact HV SC this
 let g to gs ge LF:=WH hX Aw hlen;have hte:iq gs=vp ((gm (jb xs)).map (gR cf)):=by rw[LF,←tF,aba];rfl
 rw[←hte]at hg;have Ap:gs.length≤7:=by have:=hg.tl;unfold iq at this;rwa [aaa]at this
 have ux:∀e∈gs,e.2.2.length≤100:=λe he=>hg.tps (e.1,e.2.2) (aat (f:=λe:Str×Addr×List Str=>(e.1,e.2.2)) he);have ki:(gs.map (λx=>x.1)).Nodup:=by have:=hg.tnd;unfold iq at this;rw[aba]at this;exact this
 let an ae es fs F9:=WJ hX Ap ux ki;let b R kk gF pF fF r1 r2 r3 r4 r5 r6:=dZ hg.run;have SG:=Da gs;let x dx m r ep ns lS:=WM (b:=b) hX Ap ux (SG▸hg.gl) (SG▸hg.gsu) (SG▸r1);let S' D hp:=WN (R:=R) (kk:=kk) (gF:=gF) (pF:=pF) (fF:=fF) hX hg.nl hg.nn (by have:=congrArg aaV F9;rw[aaa]at this;rw[this];exact hg.el) (by rw[F9,lS,SG];exact r2) r3 r4 r5 r6;exact ay _ _ hp
end
section
open PySem.Builtin PySem.Builtin.Str
def pV:List (List Nat)→Nat→List (Nat×Str)|[],_=>[]|u::t,p=>(p+u.length-1,fK u)::pV t (p+u.length)
theorem Db(d:Nat):((⟨#[d]⟩:Str)=="\\")=decide (d=92):=vq '2'
theorem lO:∀(l:List Nat) (j:Nat),jT l j false=pV (uP l) j
 |[],_=>rfl
 |[c],j=>by unfold jT;rw[Db];by_cases h:c=92;subst h;rfl;rw[if_neg (by simpa using h)];rfl
 |c::d::t,j=>by
  unfold jT;rw[Db];by_cases h:c=92;subst h;rw[if_pos (by simp)];unfold jT uP;rw[lO t (j+1+1),if_pos rfl];rfl;rw[if_neg (by simpa using h),lO (d::t) (j+1)];conv=>rhs;unfold uP
  rw[if_neg h];rfl
theorem iO:∀l:List Nat,(uP l).flatten=l|[]=>rfl|[c]=>rfl|c::d::t=>by unfold uP;split;rw[abj,iO t];rfl;rw[abj,iO (d::t)];rfl
def PU(u:List Nat):Prop:=(∃c,u=[c]∧c≠92)∨∃d,u=[92,d]
theorem Dc:∀l:List Nat,(∀k,l≠k++[92])→∀u∈uP l,PU u|[],_,u,h=>nomatch h|[c],hl,u,h=>by obtain rfl:u=[c]:=(by simpa [uP]using h);exact .inl ⟨c,rfl,λq=>hl [] (by rw[q];rfl)⟩|c::d::t,hl,u,h=>by unfold uP at h;split at h;rcases aai.mp h with rfl|h;rename_i q;subst q;exact .inr ⟨d,rfl⟩;exact Dc t (λk q=>hl (c::d::k) (by rw[q];rfl)) u h;rename_i q;rcases aai.mp h with rfl|h;exact .inl ⟨c,rfl,q⟩;exact Dc (d::t) (λk e=>hl (c::k) (by rw[e];rfl)) u h
theorem Lc:∀us:List (List Nat),(∀u∈us,PU u)→uP us.flatten=us:=by
 intro l0;induction l0 with|nil=>exact λzz=>rfl|cons u t ih=>
  intro h;have ih:=ih λv hv=>h v (.tail _ hv);rcases h u (.head _)with⟨c,rfl,hc⟩|⟨d,rfl⟩;rw[abj];change uP (c::t.flatten)=_;cases ht:t.flatten with|nil=>rw[ht]at ih;have:t=[]:=(by rw[←ih];rfl);subst this;rfl|cons e r=>unfold uP;rw[if_neg hc,←ht,ih]
  rw[abj];change uP (92::d::t.flatten)=_;unfold uP;rw[if_pos rfl,ih]
theorem PU.pos{u:List Nat}(h:PU u):1≤u.length:=by rcases h with⟨c,rfl,_⟩|⟨d,rfl⟩<;>exact aae rfl
def w9(total:Nat):List (List Nat)→Nat→List (List Nat)|[],_=>[]|u::t,m=>if u=[34]then(if m+1=total∧m%2=0 then u::w9 total t (m+1)else w9 total t (m+1))else if m%2=0∨m=total then u::w9 total t m else w9 total t m
def HQ:List (List Nat)→Int→Bool|[],o=>o==0|u::t,o=>if u=[40]then HQ t (o+1)else if u=[41]then(if o-1<0 then false else HQ t (o-1))else HQ t o
theorem Dd:∀(us:List (List Nat)) (p:Nat) (o:Int),sY (pV us p) o=HQ us o:=by intro l0;induction l0 with|nil=>exact λzz zz=>rfl|cons u t ih=>intro p o;unfold pV sY HQ;rw[ka (k:=[40]) '2',ka (k:=[41]) '2'];by_cases h1:u=[40];rw[if_pos (by simp[h1]),if_pos h1];exact ih _ _;rw[if_neg (by simp[h1]),if_neg h1];by_cases h2:u=[41];rw[if_pos (by simp[h2]),if_pos h2];by_cases h3:o-1<0;rw[if_pos (by simpa using h3),if_pos h3];rw[if_neg (by simpa using h3),if_neg h3];exact ih _ _;rw[if_neg (by simp[h2]),if_neg h2];exact ih _ _
def vQ(total:Nat):List (List Nat)→Nat→List Nat|[],_=>[]|u::t,m=>if u=[34]then vQ total t (m+1)else if(u=[40]∨u=[41])∧(m%2=0∨m=total)then u++vQ total t m else vQ total t m
def DN:List Nat→Int→Bool|[],o=>o==0|c::t,o=>if c=40 then DN t (o+1)else if o-1<0 then false else DN t (o-1)
theorem yA(a b:List Nat):fK (a++b)=fK a++fK b:=by unfold fK;change(⟨(a++b).toArray⟩:Str)=⟨a.toArray++b.toArray⟩;rw[List.append_toArray]
theorem kg(a b c:Str):a++b++c=a++(b++c):=PySem.Str.append_assoc a b c
theorem Ag(total:Nat):∀(us:List (List Nat)) (m:Nat) (b:Str),j_ total us m b=b++fK (vQ total us m):=by intro l0;induction l0 with|nil=>exact λm b=>(PySem.Str.append_empty b).symm|cons u t ih=>intro m b;unfold j_ vQ;split;exact ih _ _;split;rw[ih,yA,kg];exact ih _ _
theorem Ga(total:Nat):∀(us:List (List Nat)) (m:Nat) (o:Int),HQ (w9 total us m) o=DN (vQ total us m) o:=by
 intro l0;induction l0 with|nil=>exact λzz zz=>rfl|cons u t ih=>
  intro m o;unfold w9 vQ;by_cases h:u=[34];subst h;rw[if_pos rfl,if_pos rfl];split;unfold HQ;rw[if_neg '2',if_neg '2'];exact ih _ _;exact ih _ _;rw[if_neg h,if_neg h];by_cases h2:m%2=0∨m=total;rw[if_pos h2];unfold HQ;by_cases WP:u=[40];subst WP;rw[if_pos rfl,if_pos ⟨.inl rfl,h2⟩];change _=DN (40::vQ total t m) o;unfold DN;rw[if_pos rfl];exact ih _ _;rw[if_neg WP];by_cases WQ:u=[41];subst WQ;rw[if_pos rfl,if_pos (c:=([41]=[40]∨[41]=[41])∧(m%2=0∨m=total)) ⟨.inr rfl,h2⟩];change _=DN (41::vQ total t m) o;conv=>rhs;unfold DN
  rw[if_neg (show¬(41:Nat)=40 by decide)];by_cases h3:o-1<0;rw[if_pos h3,if_pos h3];rw[if_neg h3,if_neg h3];exact ih _ _;rw[if_neg WQ,if_neg (λq=>q.1.elim WP WQ)];exact ih _ _;rw[if_neg h2,if_neg (λq=>h2 q.2)];exact ih _ _
end
section
open PySem.Builtin PySem.Builtin.Str
variable{a p:Nat} {u:List Nat} {res:List Str}
def bE(s:Str):List Nat:=s.cps.toList
theorem yB(l:List Nat):bE (fK l)=l:=by delta bE fK;simp
theorem yC(a b:Str):bE (a++b)=bE a++bE b:=by change(a.cps++b.cps).toList=_;rw[acn];rfl
theorem Gb{a b:Str}(h:bE a=bE b):a=b:=PySem.Str.ext' (Array.toList_inj.mp h)
theorem rp:∀rs:List Str,bE (glued "" rs)=(rs.map bE).flatten:=by
 have key:∀(rs:List Str) (a:Array Nat),(rs.foldl (λacc p=>acc++(("":Str)).cps++p.cps) a).toList=a.toList++(rs.map bE).flatten:=by intro rs;induction rs with|nil=>intro a;simp|cons y rs ih=>intro a;simp only[acv,ih,acn,aan,abj];change a.toList++[]++bE y++_=_;rw[aaO,aaw]
 intro rs;cases rs with|nil=>rfl|cons y rs=>change(rs.foldl _ y.cps).toList=_;rw[key];rfl
theorem vD(x:Str){b:Nat}(tQ:a≤b)(hb:b≤x.length):bE (b8 x (some (a:Int)) (some (b:Int)))=((bE x).drop a).take (b-a):=by rw[mM x tQ hb];change bE (fK _)=_;rw[yB];rfl
theorem Ah(x:Str)(ha:a≤x.length):bE (b8 x (some (a:Int)) none)=(bE x).drop a:=by
 have e:b8 x (some (a:Int)) none=b8 x (some (a:Int)) (some (x.length:Int)):=by have h:strSliceIndices (some (a:Int)) none 1 x.length=strSliceIndices (some (a:Int)) (some (x.length:Int)) 1 x.length:=(by unfold strSliceIndices;have h2:¬((x.length:Int)<0):=(by exact Int.not_lt.mpr (abq _));simp only[h2,if_false,(by exact Tn:max (0:Int) (min (x.length:Int) (x.length:Int))=x.length),show((1:Int)>0)=True from by simp,if_true]);unfold b8;rw[h]
 rw[e,vD x ha (aak _),abd];rw[aa9];exact aak _
def Ai(x:Str)(q:SQ):List Nat:=(q.res.map bE).flatten++(bE x).drop q.st
theorem Aj{l t:List Nat}{st:Nat}(j0:st≤p)(h:l.drop p=u++t):(l.drop st).take (p+u.length-st)=(l.drop st).take (p-st)++u:=by rw[(by exact Nat.sub_add_comm j0:p+u.length-st=(p-st)+u.length),List.take_add,List.drop_drop];rw[(by exact aa7 j0:st+(p-st)=p),h,List.take_left]
theorem rq{l t:List Nat}(h:l.drop p=u++t):l.drop (p+u.length)=t:=by rw[←List.drop_drop,h,List.drop_left]
theorem HR{q:SQ}(h:u≠[34]):cG x q (i,fK u)=q:=by unfold cG;rw[ka (k:=[34]) '2',if_neg (by simpa using h)]
theorem Ry{st:Nat}:cG x ⟨st,none,res⟩ (i,fK [34])=⟨st,some i,res⟩:=by unfold cG;dsimp only;rw[ka (k:=[34]) '2',if_pos (by simp)]
theorem Rz{st o:Nat}:cG x ⟨st,some o,res⟩ (i,fK [34])=⟨i+1,none,if((st:Int) !=(o:Int))=true then res++[b8 x (some (st:Int)) (some (o:Int))]else res⟩:=by unfold cG;dsimp only;rw[ka (k:=[34]) '2',if_pos (by simp)]
theorem w_(x:Str)(total:Nat):∀(us:List (List Nat)),(∀u∈us,1≤u.length)→(∀(m p st:Nat) (res:List Str),m%2=0→total=m+us.count [34]→st≤p→(bE x).drop p=us.flatten→p≤x.length→Ai x ((pV us p).foldl (cG x) ⟨st,none,res⟩)=(res.map bE).flatten++((bE x).drop st).take (p-st)++(w9 total us m).flatten)∧(∀(m p st o:Nat) (mid:List Nat) (res:List Str),m%2=1→total=m+us.count [34]→st≤o→p=o+1+mid.length→(bE x).drop o=34::mid++us.flatten→p≤x.length→Ai x ((pV us p).foldl (cG x) ⟨st,some o,res⟩)=(res.map bE).flatten++((bE x).drop st).take (o-st)++(if total=m then 34::mid else[])++(w9 total us m).flatten):=by
 intro l0;induction l0 with
 |nil=>
  intro _;constructor;intro m p st res hm ht j0 hd hp;change(res.map bE).flatten++(bE x).drop st=_;have:(bE x).drop st=((bE x).drop st).take (p-st):=(by rw[abd];rw[aa9];have h0:=congrArg aaV hd;rw[aa9]at h0;have:(bE x).length-p=0:=h0;exact Nat.sub_le_sub_right (ab5 this) _);conv=>lhs;rw[this]
  change _=_++_++[];rw[aaO];intro m p st o mid res hm ht j0 RA hd hp;change(res.map bE).flatten++(bE x).drop st=_;rw[if_pos ht];change _=_++_++(34::mid)++[];rw[aaO,aaw];congr 1;have hd:(bE x).drop o=34::mid:=(by rw[hd];change 34::mid++[]=_;rw[aaO]);rw[←hd];have h3:=List.take_append_drop (o-st) ((bE x).drop st);rw[List.drop_drop,(by exact aa7 j0:st+(o-st)=o)]at h3;exact h3.symm
 |cons u t ih=>intro hu;let ihE ihO:=eA (ih λv hv=>hu v (.tail _ hv));constructor;intro m p st res hm ht j0 hd hp;have hd:(bE x).drop p=u++t.flatten:=hd;have hlen:p+u.length≤x.length:=(by have h0:=congrArg aaV hd;rw[aa9,aar]at h0;have:(bE x).length=x.length:=rfl;exact Tq hp (by assumption) this);change Ai x (((pV t (p+u.length))).foldl (cG x) (cG x ⟨st,none,res⟩ (p+u.length-1,fK u)))=_;unfold w9;by_cases h:u=[34];subst h;rw[Ry,if_pos rfl];have hc:([34]::t).count [34]=t.count [34]+1:=(by rw[abL];simp);rw[hc]at ht;change Ai x (((pV t (p+1))).foldl (cG x) ⟨st,some p,res⟩)=_;rw[(ihO (m+1) (p+1) st p [] res (by exact L5 hm) (by exact Gw ht) j0 rfl hd hlen)];by_cases q:m+1=total;rw[if_pos q.symm,if_pos ⟨q,hm⟩,abj,aaw];rw[if_neg (λe=>q e.symm),if_neg (λe=>q e.1),aaO];rw[HR h,if_neg h,if_pos (.inl hm)];have hc:(u::t).count [34]=t.count [34]:=(by rw[abL,if_neg (by simpa using h)];rfl);rw[hc]at ht;rw[ihE m (p+u.length) st res hm ht (by exact abT j0) (rq hd) hlen,Aj j0 hd,abj];simp only[aaw];intro m p st o mid res hm ht j0 RA hd hp;have hd:(bE x).drop o=34::mid++(u++t.flatten):=hd;have hlen:p+u.length≤x.length:=(by have h0:=congrArg aaV hd;rw[aa9,aar,aar]at h0;have:(bE x).length=x.length:=rfl;exact L8 RA (by assumption) this);change Ai x (((pV t (p+u.length))).foldl (cG x) (cG x ⟨st,some o,res⟩ (p+u.length-1,fK u)))=_;unfold w9;by_cases h:u=[34];subst h;rw[Rz,if_pos rfl];have hc:([34]::t).count [34]=t.count [34]+1:=(by rw[abL];simp);rw[hc]at ht;rw[if_neg (by exact L_ ht:¬total=m),if_neg (by exact λq=>absurd (hm.symm.trans q.2) Nat.one_ne_zero:¬(m+1=total∧m%2=0)),aaO];have WR:((if((st:Int) !=(o:Int))=true then res++[b8 x (some (st:Int)) (some (o:Int))]else res).map bE).flatten=(res.map bE).flatten++((bE x).drop st).take (o-st):=(by by_cases q:st=o;subst q;rw[if_neg (by simp),adv,List.take_zero,aaO];rw[if_pos (by simp;lia),aaj,adj];change _++[bE (b8 x (some (st:Int)) (some (o:Int)))].flatten=_;rw[vD x j0 (by exact Mg RA hlen)];simp);have hd2:(bE x).drop (p+1)=t.flatten:=(by have h5:(bE x).drop o=(34::mid++[34])++t.flatten:=(by rw[hd];simp);have:=rq h5;rw[aar,aaF]at this;rw[(by rw[RA];change o+(mid.length+1+1)=_;exact Mi:o+(mid.length+1+[34].length)=p+1)]at this;exact this);have:=ihE (m+1) (p+1) (p+1) (if((st:Int) !=(o:Int))=true then res++[b8 x (some (st:Int)) (some (o:Int))]else res) (by exact Nat.succ_mod_succ_eq_zero_iff.mpr hm) (by exact Gw ht) (aak _) hd2 hlen;rw[adv,List.take_zero,aaO,WR]at this;exact this;rw[HR h,if_neg h];rw[(by rw[abL,if_neg (by simpa using h)];rfl:(u::t).count [34]=t.count [34])]at ht;rw[(ihO m (p+u.length) st o (mid++u) res hm ht j0 (by rw[aar];exact Mq RA) (by rw[hd];simp) hlen)];by_cases q:total=m;rw[if_pos q,if_pos q,if_pos (.inr q.symm),abj];simp only[aaw,aaT];rw[if_neg q,if_neg q,if_neg (λe=>e.elim (by exact Ms hm) (λe=>q e.symm))]
theorem ru:bE (dz x)=(w9 ((uP (bE x)).count [34]) (uP (bE x)) 0).flatten:=by
 have JR:∀u∈uP (bE x),1≤u.length:=by
  have:∀l:List Nat,∀u∈uP l,1≤u.length:=by
   intro l;fun_induction uP l with
   |case1=>intro u h;cases h
   |case2 c=>
    intro u h;obtain rfl:u=[c]:=by simpa using h
    exact aak _
   |case3 d t ih=>
    intro u h
    rcases aai.mp h with rfl|h
    ·exact aae rfl
    ·exact ih u h
   |case4 c d t hc ih=>
    intro u h
    rcases aai.mp h with rfl|h
    ·exact aak _
    ·exact ih u h
  exact this _
 have main:=(w_ x ((uP (bE x)).count [34]) (uP (bE x)) JR).1 0 0 0 [] rfl (Nat.zero_add _).symm (aak _) (by rw[iO];rfl) (aaD _);unfold dz;by_cases h:Bv x "\""=true;rw[if_pos h];have hq:iK x (gi x).length=(pV (uP (bE x)) 0).foldl (cG x) ⟨0,none,[]⟩:=by unfold iK;rw[abi];change(jT (bE x) 0 false).foldl _ _=_;rw[lO]
 rw[hq];generalize(pV (uP (bE x)) 0).foldl (cG x) ⟨0,none,[]⟩=q at main;rw[rp,aaj,adj];have:(((if q.st<x.length then[b8 x (some (q.st:Int)) none]else[]):List Str).map bE).flatten=(bE x).drop q.st:=by by_cases hs:q.st<x.length;rw[if_pos hs];change[bE (b8 x (some (q.st:Int)) none)].flatten=_;rw[Ah x (aaN hs)];simp;rw[if_neg hs,List.drop_eq_nil_of_le (by change x.length≤_;exact aa8 hs)];rfl
 rw[this];simpa [Ai]using main;rw[if_neg h];have h34:¬(34∈bE x):=by have h2:Bv x "\""=(!(occurrences x ⟨#[34]⟩ 0 x.length 1).isEmpty):=rfl;rw[h2,(StrLaws.found_one x 34)]at h;exact λq=>h (decide_eq_true q)
 have xI:∀us:List (List Nat),(∀u∈us,u≠[34])→∀tot,w9 tot us 0=us:=by intro us;induction us with|nil=>intro _ _;rfl|cons u t ih=>intro hh tot;unfold w9;rw[if_neg (hh u (.head _)),if_pos (.inl rfl),ih (λv hv=>hh v (.tail _ hv))]
 rw[xI _ (λu hu q=>h34 (by rw[←iO (bE x)];exact List.mem_flatten.mpr ⟨u,hu,by rw[q];exact .head _⟩)),iO]
theorem yD(tot:Nat):∀(us:List (List Nat)) (m:Nat),(w9 tot us m).Sublist us:=by intro l0;induction l0 with|nil=>exact λzz=>.slnil|cons u t ih=>intro m;unfold w9;split;split;exact .cons_cons _ (ih _);exact .cons _ (ih _);split;exact .cons_cons _ (ih _);exact .cons _ (ih _)
def WS(l:List Nat):Bool:=DN (vQ ((uP l).count [34]) (uP l) 0) 0
theorem De(h:∀k,bE x≠k++[92]):wU x=WS (bE x):=by delta wU WS;change sY (jT (bE (dz x)) 0 false) 0=_;rw[ru,lO,Dd,Lc,Ga];intro u hu;exact Dc _ h u ((yD _ _ _).subset hu)
theorem Df{a b:List (List Nat)}(h:a.Sublist b):a.flatten.length≤b.flatten.length:=by induction h with|slnil=>exact aak _|cons u _ ih=>rw[abj,aar];exact ac0 ih|cons_cons u _ ih=>rw[abj,abj,aar,aar];exact abe ih _
theorem Ak(x:Str):(dz x).length≤x.length:=by have h1:(dz x).length=(bE (dz x)).length:=rfl;rw[h1,ru,(by rw[iO];rfl:x.length=(uP (bE x)).flatten.length)];exact Df (yD _ _ _)
end
section
open PySem.Builtin PySem.Builtin.Str
variable{w:Str}
def W7:List Str:=["a","(",")","\"","\\","'",""]
def RB:List Str:=W7.flatMap λa=>W7.map λb=>a++b
theorem Gc(x:Int):FZ x∈RB:=by
 have key:∀z:Int,w5.getD (z%7).toNat ""∈W7:=λz=>by have h7:(z%7).toNat<7:=(by exact Gy);generalize(z%7).toNat=k at h7;have h:w5.getD k ""=w5[k]'h7:=(by rw[aaR,aay (show k<w5.length from h7)];rfl);rw[h];exact acC (l:=w5) h7
 exact List.mem_flatMap.mpr ⟨_,key x,aaH.mpr ⟨_,key (x/7),rfl⟩⟩
def brk(c:Nat):Bool:=c==40||c==41
def Yt(w:Str):Bool:=decide (w.length≤2)&&(w.length==0||(gH w).isSome)&&decide ((ada w "'" "'\"'\"'").length≤1000)&&(hO w==hU w)&&decide ((bE (hU w)).countP brk≤2)&&(bE w).all (λc=>c !=10)&&((bE (hU w)).getLast? ==some 39||(bE (hU w)).getLast? ==some 97)&&decide ((acR w).length≤1000)&&(w !="zz")
theorem Ld:RB.all Yt=true:=by decide+kernel
structure LY(w:Str):Prop where
 len:w.length≤2
 un:w.length≠0→(gH w).isSome=true
 rep:(ada w "'" "'\"'\"'").length≤1000
 qu:hO w=hU w
 br:(bE (hU w)).countP brk≤2
 nl:∀c∈bE w,c≠10
 la:∃k c,bE (hU w)=k++[c]∧c≠92
 rt:(acR w).length≤1000
 zz:w≠"zz"
theorem WT(h:w∈RB):LY w:=by have:=aaZ.mp Ld w h;unfold Yt at this;simp only[aaM,decide_eq_true_eq,Bool.or_eq_true,beq_iff_eq,bne_iff_ne,aaZ]at this;obtain⟨⟨⟨⟨⟨⟨⟨⟨h1,h2⟩,h3⟩,h4⟩,h5⟩,h6⟩,h7⟩,h8⟩,h9⟩:=this;refine⟨h1,λq=>h2.elim (λe=>absurd e q) id,h3,h4,h5,h6,?_,h8,h9⟩;rcases h7 with h|h;let k hk:=eE (List.getLast?_eq_some_iff.mp h);exact ba k 39 ⟨hk,by decide⟩;let k hk:=eE (List.getLast?_eq_some_iff.mp h);exact ba k 97 ⟨hk,by decide⟩
def tV:List Str→List Nat|[]=>[]|[w]=>bE (hU w)|w::v::t=>bE (hU w)++32::tV (v::t)
theorem ow:∀r:List Str,bE (gL r)=tV r:=by
 have key:∀(rs:List Str) (a:Array Nat),(rs.foldl (λacc p=>acc++((" ":Str)).cps++p.cps) a).toList=a.toList++(rs.map λp=>32::bE p).flatten:=by intro rs;induction rs with|nil=>intro a;simp|cons y rs ih=>intro a;rw[acv,ih,acn,acn,aan,abj];change a.toList++[32]++bE y++_=_;simp
 have WU:∀(w:Str) (t:List Str),bE (hU w)++((t.map hU).map λp=>32::bE p).flatten=tV (w::t):=by intro w t;induction t generalizing w with|nil=>simp[tV]|cons v t ih=>unfold tV;rw[←ih v,aan,aan,abj];rfl
 intro r;cases r with|nil=>rfl|cons w t=>change((t.map hU).foldl _ (hU w).cps).toList=_;rw[key];exact WU w t
def enc(d:Nat):List Nat:=if d=39 then[39,34,39,34,39]else[d]
theorem RC(h:¬(w="a"∨w="aa")):bE (hU w)=39::((bE w).flatMap enc++[39]):=by
 unfold hU;rw[if_neg h,yC,yC,rp];change[39]++_++[39]=_;have:((iM w).map bE).flatten=(bE w).flatMap enc:=by unfold iM;rw[aba,List.flatMap_def];congr 1;let d zz:=acQ;change bE (if d=39 then("'\"'\"'":Str)else⟨#[d]⟩)=enc d;unfold enc;split<;>rfl
 rw[this];simp
theorem Le:∀(l rr:List Nat) (t:Str) (q:Bool),(∀c∈l,c≠10)→cH (l.flatMap enc++39::rr) .q1 t q=cH rr .a (t++fK l) true:=by intro l0;induction l0 with|nil=>intro rr t q _;have e:t++fK []=t:=PySem.Str.append_empty t;rw[e];rfl|cons d l ih=>intro rr t q h;have ih:=ih rr (t++⟨#[d]⟩) true λc hc=>h c (.tail _ hc);have e:t++fK (d::l)=t++⟨#[d]⟩++fK l:=(by rw[kg];have:fK (d::l)=fK [d]++fK l:=yA [d] l;rw[this];rfl);rw[e,←ih];have hd:=h d (.head _);rw[List.flatMap_cons,aaw];by_cases HI:d=39;subst HI;rfl;have:enc d=[d]:=(by unfold enc;rw[if_neg HI]);rw[this];change(if d=39 then _ else if d=10 then _ else _)=_;rw[if_neg HI,if_neg hd];rfl
theorem vE(h:LY w)(rr:List Nat):∃q,(!q&&w=="")=false∧(w.length !=0||q)=true∧cH (bE (hU w)++rr) .w "" false=cH rr .a w q:=by
 by_cases hq:w="a"∨w="aa";refine⟨false,?_,?_,?_⟩;rcases hq with rfl|rfl<;>decide;rcases hq with rfl|rfl<;>decide;unfold hU;rw[if_pos hq];rcases hq with rfl|rfl;rfl;rfl;refine⟨true,by simp,by simp,?_⟩;rw[RC hq];change cH ((bE w).flatMap enc++[39]++rr) .q1 "" false=_;rw[aaw];show(Le _ _ _ _ h.nl).trans;have:("":Str)++fK (bE w)=w:=by change Str.empty++fK (bE w)=w;rw[PySem.Str.empty_append];exact Gb (yB _)
 rw[this];rfl
theorem Dg(s:Str):∀(r:List Str) (pre:List Nat),r≠[]→(∀w∈r,LY w)→bE s=pre++tV r→Rd s (pre.length,false) r|[],_,h,_,_=>(h rfl).elim|[w],pre,_,hw,hs=>by let q q1 q2 q3:=bN (vE (hw w (.head _)) []);have hlen:s.length=pre.length+(tV [w]).length:=(by change(bE s).length=_;rw[hs,aar]);refine Rd.more (t:=w) (q:=q) (r:=[]) (fin:=true) (by exact NO hlen) ?_ q1 .done;change cH ((bE s).drop pre.length) .w "" false=_;rw[hs,List.drop_left];change cH (bE (hU w)) .w "" false=_;rw[aaO]at q3;rw[q3];rfl|w::v::t,pre,_,hw,hs=>by let q q1 q2 q3:=bN (vE (hw w (.head _)) (32::tV (v::t)));have ih:=Dg s (v::t) (pre++bE (hU w)++[32]) (by simp) (λx hx=>hw x (.tail _ hx)) (by rw[hs];change pre++(bE (hU w)++32::tV (v::t))=_;simp);have hlen:s.length=pre.length+(bE (hU w)).length+1+(tV (v::t)).length:=(by change(bE s).length=_;rw[hs];change(pre++(bE (hU w)++32::tV (v::t))).length=_;simp only[aar,aaF];exact NQ);have e:s.length-(tV (v::t)).length=(pre++bE (hU w)++[32]).length:=(by simp only[aar,abC];exact Nat.sub_eq_of_eq_add hlen);refine Rd.more (t:=w) (q:=q) (r:=tV (v::t)) (fin:=false) (by exact NT hlen) ?_ q1 (e▸ih);change cH ((bE s).drop pre.length) .w "" false=_;rw[hs,List.drop_left];change cH (bE (hU w)++32::tV (v::t)) .w "" false=_;rw[q3];change(if(w.length !=0||q)=true then _ else _)=_;rw[if_pos q2]
theorem Lf:Rd "('', '')" (0,false) ["(,",")"]:=by show Rd.more (t:="(,") (q:=true) (r:=[39,39,41]) (fin:=false) '2' (by decide+kernel) '2';exact Rd.more (t:=")") (q:=true) (r:=[]) (fin:=true) '2' (by decide+kernel) '2' .done
end
section
open PySem.Builtin PySem.Builtin.Str
variable{r:List Str}
def Dh:Nat→Str→Option Str|0,b=>if Bv b "()"=true then none else some b|k+1,b=>if Bv b "()"=true then(if b.length≤5000 then Dh k (ada b "()" "")else none)else some b
theorem Gd:∀{k:Nat} {b b':Str},Dh k b=some b'→Red k b b':=by
 intro l0;induction l0 with
 |zero=>intro b b' h;unfold Dh at h;split at h;cases h;rename_i q;cases h;exact .done (by simpa using q)
 |succ k ih=>intro b b' h;unfold Dh at h;split at h;rename_i q;split at h;rename_i q2;exact .step q q2 (ih h);cases h;rename_i q;cases h;exact .done (by simpa using q)
def allB:Nat→List (List Nat)|0=>[[]]|n+1=>[]::(allB n).flatMap λl=>[40::l,41::l]
theorem vF:∀(n:Nat) (l:List Nat),l.length≤n→(∀c∈l,c=40∨c=41)→l∈allB n|0,[],_,_=>.head _|0,_::_,h,_=>absurd h (by simp)|n+1,[],_,_=>.head _|n+1,c::l,h,hc=>by refine .tail _ (List.mem_flatMap.mpr ⟨l,vF n l (acT h) λd hd=>hc d (.tail _ hd),?_⟩);rcases hc c (.head _)with rfl|rfl;exact .head _;exact .tail _ (.head _)
def RD(b:List Nat):Bool:=match Dh 3 (fK b)with
 |some b'=>(b'=="")==DN b 0
 |none=>false
theorem Di:(allB 6).all RD=true:=by decide+kernel
set_option tactic.hygienic true in
theorem WV{b:List Nat}(h:b.length≤6)(hc:∀c∈b,c=40∨c=41):∃k b',Red k (fK b) b'∧(b'=="")=DN b 0:=by have:=aaZ.mp Di b (vF 6 b h hc);unfold RD at this;split at this;rename_i b' hb;exact ba 3 b' ⟨Gd hb,by simpa using this⟩;cases this
theorem Ge(total:Nat):∀(us:List (List Nat)) (m:Nat),(vQ total us m).length≤us.flatten.countP brk∧∀c∈vQ total us m,c=40∨c=41:=by intro l0;induction l0 with|nil=>exact λzz=>⟨aak _,λc h=>nomatch h⟩|cons u t ih=>intro m;unfold vQ;rw[abj,List.countP_append];split;let h1 h2:=eA (ih (m+1));exact⟨by exact ac0 h1,h2⟩;let h1 h2:=eA (ih m);split;rename_i q;rcases q.1 with rfl|rfl;refine⟨?_,λc hc=>?_⟩;change(vQ total t m).length+1≤1+_;exact GM h1;rcases aax.mp hc with h|h;exact .inl (by simpa using h);exact h2 c h;refine⟨?_,λc hc=>?_⟩;change(vQ total t m).length+1≤1+_;exact GM h1;rcases aax.mp hc with h|h;exact .inr (by simpa using h);exact h2 c h;exact⟨by exact ac0 h1,h2⟩
theorem Dj:∀r:List Str,(∀w∈r,LY w)→(tV r).countP brk≤2*r.length|[],_=>aak _|[w],h=>(h w (.head _)).br|w::v::t,h=>by have ih:=Dj (v::t) λx hx=>h x (.tail _ hx);unfold tV;rw[List.countP_append,List.countP_cons];have:brk 32=false:=(by decide);rw[this];simp only[aaF]at ih⊢;simp only[aaU,if_false];exact N1 ih ((h w (.head _)).br)
theorem vG:∀r:List Str,r≠[]→(∀w∈r,LY w)→∃k c,tV r=k++[c]∧c≠92|[],h,_=>(h rfl).elim|[w],_,h=>(h w (.head _)).la|w::v::t,_,h=>by let k c h1 h2:=cI (vG (v::t) (by simp) λx hx=>h x (.tail _ hx));exact ba (bE (hU w)++32::k) c ⟨by unfold tV;rw[h1];simp,h2⟩
def Lg(r:List Str):Bool:=WS (bE (gL r))
theorem Lh(gV:r≠[])(hl:r.length≤3)(hw:∀w∈r,w∈RB):pT r (Lg r):=by
 have tU:∀w∈r,LY w:=λw h=>WT (hw w h);have hq:r.map hO=r.map hU:=acQ λw h=>(tU w h).qu;have hj:=jI (sep:=" ") (l:=r.map hU) (B:=60) (λy hy=>by refine ak (aaH.mp hy) λz tO r2=>?_;obtain rfl:=r2;exact CL (aab (tU z tO).len '2')) (by rw[aaa];change r.length*61≤_;exact aab (abx 61 hl) (aae rfl));have hlen:(gL r).length≤183:=by have:=hj.2.2;rw[aaa]at this;have:(gL r).length≤r.length*61:=this;exact aab this (abx 61 hl)
 have Pm:∀l,bE (gL r)≠l++[92]:=λl q=>by rw[ow]at q;let k c h1 h2:=cI (vG r gV tU);rw[h1]at q;have:=congrArg List.getLast? q;simp at this;exact h2 this
 have K7:ft (gL r)=if Lg r=true then gL r else"('', '')":=by unfold ft Lg;rw[De Pm]
 refine⟨gV,aab hl '2',λw h=>aab (tU w h).len '2',λw h=>(tU w h).un,λw h=>(tU w h).rep,hq▸hj.1,by rw[hq];rfl,aab hlen '2',aab (Ak _) (aab hlen '2'),Pm,?_,K7,?_⟩;let h1 h2:=eA (Ge ((uP (bE (gL r))).count [34]) (uP (bE (gL r))) 0);rw[iO,ow]at h1;let k b' g1 g2:=cI (WV (b:=vQ ((uP (bE (gL r))).count [34]) (uP (bE (gL r))) 0) (by rw[ow];exact N4 hl h1 (Dj r tU)) h2);refine ba k b' ⟨?_,g2⟩;rw[Ag];change Red k (Str.empty++_) b';rw[PySem.Str.empty_append];exact g1;rw[K7];by_cases h:Lg r=true;rw[if_pos h,if_pos h];exact Dg (gL r) r [] gV tU (by rw[ow];rfl);rw[if_neg h,if_neg h];exact Lf
theorem lP{xs:List Int}(h:r∈gm (jb xs)):r≠[]∧r.length≤3∧∀w∈r,w∈RB:=by let k hk r2:=ak (aaH.mp h);subst r2;unfold DH;refine⟨λq=>?_,List.length_take_le _ _,λw hw=>?_⟩;have:=congrArg aaV q;rw[ado,aa9]at this;have:min 3 ((jb xs).length-3*k)=0:=this;exact N5 (adM.mp hk) this;have:=List.mem_of_mem_drop (adO hw);unfold jb at this;let x z1 r2:=ak (aaH.mp this);subst r2;exact Gc x
theorem vH(xs:List Int):(gm (jb xs)).length≤4:=by
 unfold gm;rw[aaa,abA];have:(jb xs).length≤12:=by unfold jb;rw[aaa];exact List.length_take_le _ _
 exact N6 this
theorem Gf(xs:List Int):∀r∈gm (jb xs),pT r (Lg r):=λr h=>Lh (lP h).1 (lP h).2.1 (lP h).2.2
end
section
open PySem.Builtin PySem.Builtin.Str
variable{f:Str→Int×List Str}
def gN(N:List Str)(f:Str→Int×List Str):G:=N.map λs=>(s,f s)
theorem dm{h:Str→Int×List Str}(e:∀s∈N,f s=h s):gN N f=gN N h:=acQ λs hs=>by rw[e s hs]
theorem iP(s:Str)(f:Str→Int×List Str):∀N:List Str,db s (gN N f)=if s∈N then some (f s)else none:=by intro l0;induction l0 with|nil=>exact by rw[if_neg (by simp)];rfl|cons a N ih=>change(if s=a then some (f a)else db s (gN N f))=_;by_cases h:s=a;subst h;rw[if_pos rfl,if_pos (.head _)];rw[if_neg h,ih];by_cases h2:s∈N;rw[if_pos h2,if_pos (.tail _ h2)];rw[if_neg h2,if_neg (by simp[h,h2])]
theorem pW(h:Int×List Str→Int×List Str)(s:Str)(f:Str→Int×List Str):∀N:List Str,N.Nodup→dS h s (gN N f)=gN N λt=>if t=s then h (f t)else f t:=by intro l0;induction l0 with|nil=>exact λzz=>rfl|cons a N ih=>intro nd;have nd:=aaB.mp nd;change(if s=a then(a,h (f a))::gN N f else(a,f a)::dS h s (gN N f))=_;by_cases e:s=a;subst e;rw[if_pos rfl];change _=(s,if s=s then h (f s)else f s)::gN N _;rw[if_pos rfl];congr 1;let t ht:=dm;have gV:¬t=s:=λq=>nd.1 (by rw[←q];exact ht);rw[if_neg gV];rw[if_neg e,ih nd.2];change _=(a,if a=s then h (f a)else f a)::gN N _;rw[if_neg (λq=>e q.symm)]
def ins(N:List Str)(s:Str):List Str:=if s∈N then N else N++[s]
theorem Dk(h:s∉N→f s=(0,[])):kE s (gN N f)=gN (ins N s) f:=by delta kE ins;rw[iP];by_cases e:s∈N;rw[if_pos e,if_pos e];rfl;rw[if_neg e,if_neg e];unfold gN;rw[aaj,List.map_singleton,h e];rfl
theorem mS(h:N.Nodup)(s:Str):(ins N s).Nodup:=by unfold ins;split;exact h;rename_i e;exact aaX.mpr ⟨h,by simp,λa ha b hb q=>e (by rw[aaL.mp hb]at q;exact q▸ha)⟩
theorem iQ{t:Str}:t∈ins N s↔t∈N∨t=s:=by unfold ins;split;rename_i e;exact⟨.inl,λh=>h.elim id λq=>q▸e⟩;rw[aax,aaL]
abbrev Ed:=List (Str×Str)
def fE(A B:Ed)(s:Str):Int×List Str:=(((A.filter λe=>e.1==s).length:Int),(B.filter λe=>e.2==s).map (λx=>x.1))
theorem Gg{A B:Ed}{p:Str}(nd:N.Nodup)(hA:∀e∈A,e.1∈N)(hB:∀e∈B,e.2∈N):im s p (gN N (fE A B))=gN (ins N p) (fE A (B++[(s,p)])):=by
 unfold im;rw[Dk,pW _ _ _ _ (mS nd p)];let t ht:=dm;unfold fE;rw[abR,aaj];by_cases e:t=p;subst e;rw[if_pos rfl];simp;rw[if_neg e];have:([(s,p)]:Ed).filter (λe=>e.2==t)=[]:=by simp;exact λq=>e q.symm
 rw[this];simp;intro hp;unfold fE;have h1:A.filter (λe=>e.1==p)=[]:=abc.mpr λe he q=>hp (by have:=hA e he;rw[beq_iff_eq.mp q]at this;exact this);have h2:B.filter (λe=>e.2==p)=[]:=abc.mpr λe he q=>hp (by have:=hB e he;rw[beq_iff_eq.mp q]at this;exact this);rw[h1,h2];rfl
theorem rv:∀(ps:List Str) {N:List Str} {A B:Ed},N.Nodup→(∀e∈A,e.1∈N)→(∀e∈B,e.2∈N)→ps.foldl (λg p=>im s p g) (gN N (fE A B))=gN (ps.foldl ins N) (fE A (B++ps.map λp=>(s,p)))|[],N,A,B,_,_,_=>by simp|p::ps,N,A,B,nd,hA,hB=>by rw[acv,Gg nd hA hB,rv ps (mS nd p) (λe he=>iQ.mpr (.inl (hA e he))) (λe he=>?_),acv,aan,aaw];rfl;rcases aax.mp he with h|h;exact iQ.mpr (.inl (hB e h));rw[aaL.mp h];exact iQ.mpr (.inr rfl)
theorem Li{A:Ed}(nd:N.Nodup)(hA:∀e∈A,e.1∈N)(hB:∀e∈A,e.2∈N):qB s ps (gN N (fE A A))=gN ((s::ps).foldl ins N) (fE (A++ps.map λp=>(s,p)) (A++ps.map λp=>(s,p))):=by
 unfold qB;rw[Dk,pW _ _ _ _ (mS nd s)];have:gN (ins N s) (λt=>if t=s then((fE A A t).1+(ps.length:Int),(fE A A t).2)else fE A A t)=gN (ins N s) (fE (A++ps.map λp=>(s,p)) A):=dm λt ht=>by unfold fE;rw[abR,aar];by_cases e:t=s;subst e;rw[if_pos rfl];have:(ps.map λp=>(t,p)).filter (λe=>e.1==t)=ps.map λp=>(t,p):=List.filter_eq_self.mpr λe he=>(by let p z1 r2:=ak (aaH.mp he);subst r2;simp);rw[this,aaa,Int.natCast_add];rw[if_neg e];have:(ps.map λp=>(s,p)).filter (λe=>e.1==t)=[]:=abc.mpr λx hx q=>(by let p z1 r2:=ak (aaH.mp hx);subst r2;exact e (beq_iff_eq.mp q).symm);rw[this];rfl
 rw[this,rv ps (mS nd s) (λe he=>?_) (λe he=>iQ.mpr (.inl (hB e he)))];rcases aax.mp he with h|h;exact iQ.mpr (.inl (hA e h));let p z1 r2:=ak (aaH.mp h);subst r2;exact iQ.mpr (.inr rfl);rfl;intro hs;unfold fE;have h1:A.filter (λe=>e.1==s)=[]:=abc.mpr λe he q=>hs (by have:=hA e he;rw[beq_iff_eq.mp q]at this;exact this);have h2:A.filter (λe=>e.2==s)=[]:=abc.mpr λe he q=>hs (by have:=hB e he;rw[beq_iff_eq.mp q]at this;exact this);rw[h1,h2];rfl
theorem cZ:∀(l N:List Str) {t:Str},t∈l.foldl ins N↔t∈N∨t∈l:=by intro l0;induction l0 with|nil=>exact λN t=>by simp|cons s l ih=>intro N t;rw[acv,ih,iQ,aai,or_assoc]
theorem iR:∀(l:List Str) {N:List Str},N.Nodup→(l.foldl ins N).Nodup|[],_,h=>h|s::l,N,h=>iR l (mS h s)
theorem Gh:∀(t:Tb) {N:List Str} {A:Ed},N.Nodup→(∀e∈A,e.1∈N)→(∀e∈A,e.2∈N)→t.foldl (λg e=>qB e.1 e.2 g) (gN N (fE A A))=gN ((dJ t).foldl ins N) (fE (A++jW t) (A++jW t))∧(∀e∈A++jW t,e.1∈(dJ t).foldl ins N∧e.2∈(dJ t).foldl ins N):=by intro l0;induction l0 with|nil=>intro N A nd hA hB;constructor;change gN N (fE A A)=gN N (fE (A++[]) (A++[]));rw[aaO];intro e he;have:e∈A:=(by simpa [jW]using he);exact⟨hA e this,hB e this⟩|cons x t ih=>intro N A nd hA hB;have e1:jW (x::t)=x.2.map (λw=>(x.1,w))++jW t:=rfl;have e2:dJ (x::t)=(x.1::x.2)++dJ t:=rfl;have hn:∀e∈A++x.2.map (λw=>(x.1,w)),e.1∈(x.1::x.2).foldl ins N∧e.2∈(x.1::x.2).foldl ins N:=λe he=>(by rcases aax.mp he with h|h;exact⟨(cZ _ _).mpr (.inl (hA e h)),(cZ _ _).mpr (.inl (hB e h))⟩;let w hw r2:=ak (aaH.mp h);subst r2;exact⟨(cZ _ _).mpr (.inr (.head _)),(cZ _ _).mpr (.inr (.tail _ hw))⟩);have ih:=ih (iR (x.1::x.2) nd) (λe he=>(hn e he).1) (λe he=>(hn e he).2);rw[acv,Li nd hA hB,e1,e2,ab4,←aaw];exact ih
theorem Dl(ev:List Str)(x:Str):iZ (ev++[x])=iZ ev++if x∈ev then[]else[x]:=by
 unfold iZ;rw[aar,abC,List.range_succ,abR,aaj];congr 1;have h1:(abt ev.length).filter (λk=> !((ev++[x]).take k).contains ((ev++[x]).getD k ""))=(abt ev.length).filter λk=> !(ev.take k).contains (ev.getD k ""):=by let k hk:=List.filter_congr;have hk:=adM.mp hk;rw[List.take_append_of_le_length (aaN hk),aaR,ac4 hk,←aaR]
 rw[h1];let k hk:=acQ;have hk:=adM.mp (abp.mp hk).1;rw[aaR,ac4 hk,←aaR];have h2:(ev++[x]).getD ev.length ""=x:=by rw[aaR,acX (aak _),adv];rfl
 have h3:(ev++[x]).take ev.length=ev:=List.take_left;by_cases h:x∈ev;rw[if_pos h,acL (by rw[h2,h3];simp[h])];rfl;rw[if_neg h,acM (by rw[h2,h3];simp[h])];change[(ev++[x]).getD ev.length ""]=[x];rw[h2]
theorem yE(ev:List Str):iZ ev=ev.foldl ins []:=by
 have key:∀l:List Str,iZ l.reverse=l.reverse.foldl ins []:=by
  intro l;induction l with|nil=>rfl|cons x l ih=>
   rw[List.reverse_cons,Dl,ab4,ih];change _=ins _ x;have hi:∀N:List Str,ins N x=if x∈N then N else N++[x]:=λzz=>rfl
   rw[hi];have:x∈l.reverse.foldl ins []↔x∈l.reverse:=(by rw[cZ];simp);by_cases h:x∈l.reverse;rw[if_pos h,if_pos (this.mpr h),aaO];rw[if_neg h,if_neg (λq=>h (this.mp q))]
 have:=key ev.reverse;rwa [List.reverse_reverse]at this
theorem Lj(t:Tb):DM t=gN (iZ (dJ t)) (fE (jW t) (jW t))∧(iZ (dJ t)).Nodup∧∀e∈jW t,e.1∈iZ (dJ t)∧e.2∈iZ (dJ t):=by rw[yE];have:=Gh t (N:=[]) (A:=[]) abn (λe he=>nomatch he) (λe he=>nomatch he);exact⟨this.1,iR _ abn,this.2⟩
end
section
open PySem.Builtin PySem.Builtin.Str
variable{key:Str→Int}
theorem rx:∀{a b:List Str},a.Perm b→a.Pairwise (λx y=>key x<key y)→b.Pairwise (λx y=>key x<key y)→a=b|[],b,h,_,_=>(List.nil_perm.mp h).symm|x::a,[],h,_,_=>absurd h.length_eq (by simp)|x::a,y::b,h,ha,hb=>by have ha:=List.pairwise_cons.mp ha;have hb:=List.pairwise_cons.mp hb;have e:x=y:=(by rcases aai.mp (h.mem_iff.mp (.head _))with q|q;exact q;rcases aai.mp (h.mem_iff.mpr (.head _:y∈y::b))with q2|q2;exact q2.symm;exact absurd (Int.lt_trans (ha.1 y q2) (hb.1 x q)) (Int.lt_irrefl _));subst e;rw[rx ((List.perm_cons x).mp h) ha.2 hb.2]
def dl:List Str→List Str|[]=>[]|w::l=>if w∈l then dl l else w::dl l
theorem mT:∀{l:List Str} {w:Str},w∈dl l↔w∈l|[],_=>Iff.rfl|x::l,w=>by unfold dl;split;rename_i h;rw[mT,aai];exact⟨.inr,λq=>q.elim (λq=>q▸h) id⟩;rw[aai,aai,mT]
theorem RE:∀l:List Str,(dl l).Nodup:=by intro l0;induction l0 with|nil=>exact abn|cons x l ih=>unfold dl;split;exact ih;rename_i h;exact aaB.mpr ⟨λq=>h (mT.mp q),ih⟩
theorem Lk(wf:Nat→Str):∀{K:List Nat},K.Pairwise (·<·)→(dl (K.map wf)).Pairwise λa b=>∃k'∈K,wf k'=b∧∀k∈K,wf k=a→k<k':=by intro l0;induction l0 with|nil=>exact λzz=>List.Pairwise.nil|cons k0 K ih=>intro h;have h:=List.pairwise_cons.mp h;have Yu:(dl (K.map wf)).Pairwise λa b=>∃k'∈k0::K,wf k'=b∧∀k∈k0::K,wf k=a→k<k':=(ih h.2).imp λ{a b} h8=>bN h8 λk' h1 h2 h3=>⟨k',.tail _ h1,h2,λk hk e=>(aai.mp hk).elim (λq=>q▸h.1 k' h1) λq=>h3 k q e⟩;rw[aan];unfold dl;split;exact Yu;rename_i hn;refine List.pairwise_cons.mpr ⟨λb hb=>?_,Yu⟩;let k' h1 h2:=ak (aaH.mp (mT.mp hb));refine⟨k',.tail _ h1,h2,λk hk e=>?_⟩;rcases aai.mp hk with q|q;exact q▸h.1 k' h1;exact absurd (e▸aat q) hn
def vI(c:Str→Int):List Str→List Str|[]=>[]|w::l=>(if c w-1=0 then[w]else[])++vI (λt=>if t=w then c t-1 else c t) l
theorem Dm{N:List Str}(nd:N.Nodup):∀(L:List Str) (f:Str→Int×List Str) (r:List Str),(∀w∈L,w∈N)→L.foldl lI (gN N f,r)=(gN N (λs=>((f s).1-(L.count s:Int),(f s).2)),r++vI (λs=>(f s).1) L):=by intro l0;induction l0 with|nil=>intro f r _;change(gN N f,r)=_;rw[aaO];congr 1;exact dm λs zz=>by simp|cons w L ih=>intro f r h;have h1:lI (gN N f,r) w=(gN N (λt=>if t=w then((f t).1-1,(f t).2)else f t),r++if(f w).1-1=0 then[w]else[]):=(by unfold lI;rw[iP,if_pos (h w (.head _)),pW _ _ _ _ nd];dsimp only;congr 1;split<;>simp);rw[acv,h1,ih _ _ λx hx=>h x (.tail _ hx),aaw];congr 1;let s zz:=dm;rw[abL];by_cases e:s=w;subst e;rw[if_pos rfl];simp only[beq_self_eq_true,if_true,Int.natCast_add,Prod.mk.injEq,and_true];change(f s).1-1-_=(f s).1-(_+1);exact Mw;rw[if_neg e,if_neg (by simpa using λq=>e q.symm)];rfl;congr 1;change _++_=_++vI _ L;congr 2;funext t;by_cases e:t=w;rw[if_pos e,if_pos e];rw[if_neg e,if_neg e]
theorem Gi:∀(L:List Str) (c:Str→Int),(∀w∈L,(L.count w:Int)≤c w)→vI c L=(dl L).filter λw=>c w-(L.count w:Int)==0:=by
 intro l0;induction l0 with|nil=>exact λzz zz=>rfl|cons w L ih=>
  intro c h;have hw:=h w (.head _);rw[adQ]at hw;have ih:=ih (λt=>if t=w then c t-1 else c t) λt ht=>(by by_cases e:t=w;subst e;rw[if_pos rfl];exact Int.le_sub_one_of_lt hw;rw[if_neg e];have:=h t (.tail _ ht);rwa [List.count_cons_of_ne (λq=>e q.symm)]at this);have hf:∀t,((if t=w then c t-1 else c t)-(L.count t:Int)==0)=(c t-((w::L).count t:Int)==0):=λt=>(by by_cases e:t=w;subst e;rw[if_pos rfl,adQ];congr 1;exact Mx;rw[if_neg e,List.count_cons_of_ne (λq=>e q.symm)]);unfold vI;rw[ih];rw[(List.filter_congr λt zz=>hf t:(dl L).filter (λt=>(if t=w then c t-1 else c t)-(L.count t:Int)==0)=(dl L).filter λt=>c t-((w::L).count t:Int)==0)];conv=>rhs;unfold dl
  by_cases e:w∈L;rw[if_pos e,if_neg];rfl;have:=List.count_pos_iff.mpr e;exact Mz hw this;have h0:=acJ e;rw[if_neg e];by_cases q:c w-1=0;rw[if_pos q,acM (by rw[adQ,h0];simpa using q)];rfl;rw[if_neg q,acL (by rw[adQ,h0];simpa using q)];rfl
section
variable{N:List Str} {E:Ed}
def fr(E:Ed)(gv dn:List Str)(s:Str):Prop:=s∉gv∧∀e∈E,e.1=s→e.2∈dn
theorem i0(h:k<E.length):gE E k=E[k]:=by unfold gE;rw[aaR,aay h];rfl
theorem lQ:k∈iX E s↔∃h:k<E.length,E[k].1=s:=by unfold iX;rw[abp,adM];constructor;intro JU;let h e:=eA JU;rw[i0 h]at e;exact⟨h,beq_iff_eq.mp e⟩;intro WW;let h e:=eE WW;refine⟨h,?_⟩;rw[i0 h];exact beq_iff_eq.mpr e
theorem Al:iY E gv dn s=true↔fr E gv dn s:=by
 delta iY fr;rw[aaM];have h2:(((iX E s).filter λk=> !dn.contains (gQ E k))==[])=true↔∀e∈E,e.1=s→e.2∈dn:=by rw[beq_iff_eq,abc];constructor;intro h e he hs;obtain⟨k,hk,rfl⟩:=List.mem_iff_getElem.mp he;have:=h k (lQ.mpr ⟨hk,hs⟩);unfold gQ at this;rw[i0 hk]at this;simpa using this;intro h k hk;let DK Sa:=eE (lQ.mp hk);unfold gQ;rw[i0 DK];simpa using h _ (acC DK) Sa
 rw[(by simp:(!gv.contains s)=true↔s∉gv),h2]
theorem pX{M:Int}:M∈eo E dn s↔M= -1∨∃(k:Nat) (h:k<E.length),E[k].1=s∧E[k].2∈dn.drop (dn.length-1)∧M=(k:Int):=by unfold eo;rw[aai,aaH];constructor;rintro(h|⟨k,hk,rfl⟩);exact .inl h;let h1 h2:=eA (abp.mp hk);let h3 h4:=eE (lQ.mp h1);unfold gQ at h2;rw[i0 h3]at h2;exact .inr ⟨k,h3,h4,by simpa using h2,rfl⟩;rintro(h|⟨k,h3,h4,h5,rfl⟩);exact .inl h;refine .inr ⟨k,abp.mpr ⟨lQ.mpr ⟨h3,h4⟩,?_⟩,rfl⟩;unfold gQ;rw[i0 h3];simpa using h5
def RF(N:List Str)(E:Ed)(dn:List Str)(a b:Str):Prop:=∀key:Str→Int,(∀x∈N,∃M,M∈eo E dn x∧(∀y∈eo E dn x,y≤M)∧key x=M*1000+(N.idxOf x:Int))→key a<key b
theorem Am{us:List Str}(hN:N.Nodup)(nd:rl.Nodup)(hm:∀s,s∈rl↔s∈N∧fr E gv dn s)(ho:rl.Pairwise (RF N E dn))(h:C6 N E gv dn us):us=rl:=by
 let key h1 h2 h3:=bN h;have hp:rl.Perm (N.filter (iY E gv dn)):=by let s:=(List.perm_ext_iff_of_nodup nd (hN.filter _)).mpr;rw[hm,abp,Al]
 exact rx (h2.trans hp.symm) h3 (ho.imp λ{a b} q=>q key h1)
theorem An(hN:N.Nodup)(p:Str→Bool):(N.filter p).Pairwise (RF N E []):=by
 have h0:N.Pairwise (RF N E []):=by let i j hi hj iE key hk:=acx.mpr;have get:∀k (h:k<N.length),key N[k]= -1000+(k:Int):=λk h=>(by let M m1 m2 m3:=bN (hk N[k] (acC h));have:M= -1:=(by rcases pX.mp m1 with q|⟨_,_,_,q,_⟩;exact q;cases q);rw[m3,this,(jK hN (aay h)).1];rfl);rw[get i hi,get j hj];exact Int.add_lt_add_left (abS.mpr iE) _
 exact h0.filter p
theorem Do(hl:N.length≤50){nm:Str}(hE:∀e∈E,e.1∈N∧e.2∈N)(q:Str→Bool):((dl ((E.filter λe=>e.2==nm).map (λx=>x.1))).filter q).Pairwise (RF N E (dn++[nm])):=by
 have HS:(dn++[nm]).drop ((dn++[nm]).length-1)=[nm]:=by rw[aar,abC,Nat.add_sub_cancel,List.drop_left]
 let K:List Nat:=(abt E.length).filter λk=>(gE E k).2==nm;have hK:∀k,k∈K↔∃h:k<E.length,E[k].2=nm:=λk=>by change k∈List.filter _ _↔_;rw[abp,adM];constructor;intro J4;let h e:=eA J4;rw[i0 h]at e;exact⟨h,beq_iff_eq.mp e⟩;intro JX;let h e:=eE JX;refine⟨h,?_⟩;rw[i0 h];exact beq_iff_eq.mpr e
 have hL:(E.filter λe=>e.2==nm).map (λx=>x.1)=K.map λk=>(gE E k).1:=by
  have h1:(abt E.length).map (gE E)=E:=(by let i:=List.ext_getElem?;rw[aag];by_cases hi:i<E.length;rw[acp hi,aay hi];exact congrArg some (i0 hi);rw[acA (by simpa using hi),acA (by exact aa8 hi)];rfl);conv=>lhs;rw[←h1]
  rw[List.filter_map,aba];rfl
 rw[hL];have hKs:K.Pairwise (·<·):=(List.pairwise_lt_range).filter _;refine List.Pairwise.filter _ (List.Pairwise.imp_of_mem (λ{a b} WI DF h8 key hk=>bN h8 λk' h1 h2 h3=>?_) (Lk (λk=>(gE E k).1) hKs));let WX h1b:=eE ((hK k').mp h1);rw[i0 WX]at h2;have ha:a∈N:=by let k DK r2:=ak (aaH.mp (mT.mp WI));subst r2;have h5:=((hK k).mp DK).1;rw[i0 h5];exact(hE _ (acC h5)).1
 let Ma a1 a2 a3:=bN (hk a ha);let Mb b1 b2 b3:=bN (hk b (h2▸(hE _ (acC WX)).1:b∈N));have dc:Ma<(k':Int):=by rcases pX.mp a1 with q|⟨k,g1,g2,g3,g4⟩;exact MC q;rw[HS,aaL]at g3;have:=h3 k ((hK k).mpr ⟨g1,g3⟩) (by rw[i0 g1];exact g2);exact ME g4 this
 have hle:(k':Int)≤Mb:=b2 _ (pX.mpr (.inr ⟨k',WX,h2,by rw[HS,h1b];exact .head _,rfl⟩));rw[a3,b3];have:(N.idxOf a:Int)≤50:=by exact Int.ofNat_le.mpr (aab (aaN (abB ha)) hl)
 exact MI dc hle (by assumption)
end
end
section
open PySem.Builtin PySem.Builtin.Str
theorem kH:∀{a b:List Str},a.Nodup→(∀x∈a,x∈b)→a.length≤b.length|[],_,_,_=>aaD _|x::a,b,nd,h=>by have nd:=aaB.mp nd;have hx:=h x (.head _);have:=kH (b:=b.erase x) nd.2 λy hy=>(List.mem_erase_of_ne (λq=>nd.1 (by rw[←q];exact hy))).mpr (h y (.tail _ hy));rw[List.length_erase_of_mem hx]at this;have h0:=List.length_pos_of_mem hx;change a.length+1≤_;exact Nat.add_le_of_le_sub h0 this
def stK(E:Ed)(dn gv:List Str)(s:Str):Int:=if s∈dn then-2 else if s∈gv then-1 else((E.filter λe=>e.1==s&& !dn.contains e.2).length:Int)
def ez(E:Ed)(s:Str):List Str:=(E.filter λe=>e.2==s).map (λx=>x.1)
def gK(N:List Str)(E:Ed)(dn gv:List Str):G:=gN N λs=>(stK E dn gv s,ez E s)
theorem Gj{N:List Str}(nd:N.Nodup):∀(rl:List Str) (f:Str→Int×List Str),iL rl (gN N f)=gN N λs=>if s∈rl then(-1,(f s).2)else f s:=by intro l0;induction l0 with|nil=>intro f;change gN N f=_;exact dm λs zz=>by rw[if_neg (by simp)]|cons r t ih=>intro f;change iL t (dS (λa=>(-1,a.2)) r (gN N f))=_;rw[pW _ _ _ _ nd,ih];let s zz:=dm;by_cases h:s∈t;rw[if_pos h,if_pos (show s∈r::t from .tail _ h)];split<;>rfl;rw[if_neg h];by_cases e:s=r;subst e;rw[if_pos rfl,if_pos (show s∈s::t from .head _)];rw[if_neg e,if_neg (show¬s∈r::t by simp[e,h])]
theorem tL{N:List Str}{E:Ed}{dn gv rl:List Str}(nd:N.Nodup)(h:∀s∈rl,s∉dn):iL rl (gK N E dn gv)=gK N E dn (gv++rl):=by
 rw[Gj nd];let s zz:=dm;unfold stK;by_cases e:s∈rl;rw[if_pos e];change(-1,ez E s)=((if s∈dn then(-2:Int)else if s∈gv++rl then-1 else _),ez E s);rw[if_neg (h s e),if_pos (aad _ e)];rw[if_neg e];have:s∈gv++rl↔s∈gv:=by simp[e]
 simp only[this]
structure Inv(N:List Str)(E:Ed)(dn gv wt rl:List Str):Prop where
 gN:∀s∈gv,s∈N
 WY:gv.Nodup
 perm:gv.Perm (dn++wt)
 Yv:rl.Nodup
 rm:∀s,s∈rl↔s∈N∧fr E gv dn s
 ord:rl.Pairwise (RF N E dn)
 gd:∀s∈gv,∀e∈E,e.1=s→e.2∈dn
 RG:∀(i:Nat) (s:Str),dn[i]? =some s→∀e∈E,e.1=s→e.2∈dn.take i
structure GH(N:List Str)(E:Ed):Prop where
 nd:N.Nodup
 nl:N.length≤50
 el:E.length≤800
 mem:∀e∈E,e.1∈N∧e.2∈N
 rt:∀s∈N,(acR s).length≤1000
 zz:("zz":Str)∉N
section
variable{N:List Str} {E:Ed} {dn gv wt rl:List Str}
theorem Inv.ry(I:Inv N E dn gv wt rl)(h:s∈dn):s∈gv:=I.perm.mem_iff.mpr (aaf _ h)
theorem Inv.RH(I:Inv N E dn gv wt rl)(h:s∈wt):s∈gv:=I.perm.mem_iff.mpr (aad _ h)
theorem Inv.jL(I:Inv N E dn gv wt rl):(dn++wt).Nodup:=I.perm.nodup_iff.mp I.WY
theorem Inv.Yw(I:Inv N E dn gv wt rl):(gv++rl).Nodup:=aaX.mpr ⟨I.WY,I.Yv,λa ha b hb q=>((I.rm b).mp hb).2.1 (by rw[←q];exact ha)⟩
theorem Inv.len(I:Inv N E dn gv wt rl)(H:GH N E):(gv++rl).length≤50:=aab (kH I.Yw λx hx=>(aax.mp hx).elim (I.gN x) λh=>((I.rm x).mp h).1) H.nl
theorem Dp(H:GH N E){gvx:List Str}{nm:Str}{nf:Int}(hm:nm∈N)(h:nm∈dn∨nm∉gvx):Dn [nm] (gK N E dn gvx) [] nf false (gK N E dn gvx) [] nf:=by show .bad (a:=(stK E dn gvx nm,ez E nm)) (by unfold gK;rw[iP,if_pos hm]);change 0≤stK E dn gvx nm∨stK E dn gvx nm= -2;unfold stK;by_cases e:nm∈dn;rw[if_pos e];exact .inr rfl;rw[if_neg e,if_neg (h.resolve_left e)];exact .inl (abq _)
theorem tM(H:GH N E)(I:Inv N E dn gv wt rl):Turn N E (gK N E dn gv) rl gv.length dn.length gv dn wt:=by
 have hl:=I.len H;rw[aar]at hl;have hp:=I.perm.length_eq;rw[aar]at hp;have HT:∀s∈rl,s∉dn:=λs hs q=>((I.rm s).mp hs).2.1 (I.ry q);refine⟨λus h=>Am H.nd I.Yv I.rm I.ord h,?_,λs hs=>?_,λnm Au xI=>?_,by exact aab hl (aae rfl),by exact SO hl hp,by exact SP hl hp,?_⟩;have:decide ((dn.length:Int)<(gv.length:Int))= !wt.isEmpty:=by cases wt with|nil=>rw[ady,Nat.add_zero]at hp;rw[hp];simp|cons a b=>rw[aaF]at hp;exact decide_eq_true (by exact SR hp)
 rw[this];unfold gK;rw[iP,if_pos ((I.rm s).mp hs).1];rfl;have hm:=aaA Au;refine⟨H.rt nm hm,?_⟩;rw[tL H.nd HT];show Dp H hm;by_cases e:nm∈dn;exact .inl e;refine .inr λq=>xI ?_;rcases aax.mp q with q|q;exact aaf _ ((aax.mp (I.perm.mem_iff.mp q)).resolve_left e);exact aad _ q;exact kH (aaX.mp I.jL).1 λx hx=>I.gN x (I.ry hx)
theorem yF(H:GH N E)(I:Inv N E dn gv wt rl){w':List Str}{nm:Str}(hw:wt++rl=w'++[nm]):∃rl2,Inv N E (dn++[nm]) (gv++rl) w' rl2∧Dn (if dn.length%2=0 then[nm]else[nm,"zz"]) (iL rl (gK N E dn gv)) [] dn.length (dn.length%2==0) (gK N E (dn++[nm]) (gv++rl)) rl2 ((dn.length:Int)+1):=by
 have HT:∀s∈rl,s∉dn:=λs hs q=>((I.rm s).mp hs).2.1 (I.ry q);have Au:nm∈wt++rl:=hw▸aad _ (.head _);have SH:nm∈gv++rl:=(aax.mp Au).elim (λh=>aaf _ (I.RH h)) (aad _);have ki:nm∉dn:=λq=>(aax.mp Au).elim (λh=>(aaX.mp I.jL).2.2 nm q nm h rfl) λh=>HT nm h q;have hnN:nm∈N:=(aax.mp SH).elim (I.gN nm) λh=>((I.rm nm).mp h).1;have WZ:∀s∈gv++rl,∀e∈E,e.1=s→e.2∈dn:=λs hs=>(aax.mp hs).elim (I.gd s) λh=>((I.rm s).mp h).2.2;have hL:∀s,s∈ez E nm↔(s,nm)∈E:=λs=>by unfold ez;rw[aaH];constructor;intro JY;let e he r2:=ak JY;subst r2;let h1 h2:=eA (abp.mp he);have:e=(e.1,nm):=(by rw[←beq_iff_eq.mp h2]);exact this▸h1;intro h;exact⟨(s,nm),abp.mpr ⟨h,by simp⟩,rfl⟩
 have Ll:∀s∈ez E nm,s∉gv++rl:=λs hs q=>ki (WZ s q _ ((hL s).mp hs) rfl);have SJ:∀s∈ez E nm,s∉dn:=λs hs q=>Ll s hs (aaf _ (I.ry q));have SK:∀s∈ez E nm,s≠nm:=λs hs q=>Ll s hs (q▸SH);have W0:∀s∈ez E nm,s∈N:=λs hs=>(H.mem _ ((hL s).mp hs)).1;have W8:∀s,(((E.filter λe=>e.1==s&& !dn.contains e.2).length:Int))-((ez E nm).count s:Int)=((E.filter λe=>e.1==s&& !(dn++[nm]).contains e.2).length:Int):=λs=>by have key:∀E':Ed,(E'.filter λe=>e.1==s&& !dn.contains e.2).length=((E'.filter λe=>e.2==nm).map (λx=>x.1)).count s+(E'.filter λe=>e.1==s&& !(dn++[nm]).contains e.2).length:=(by intro E';induction E' with|nil=>rfl|cons e E' ih=>rw[abO,abO,abO];by_cases h1:e.1=s;by_cases h2:e.2=nm;have h3:dn.contains e.2=false:=(by rw[h2];simpa using ki);have h4:(dn++[nm]).contains e.2=true:=(by rw[h2];simp);rw[if_pos (by rw[h3];simp[h1]),if_pos (by simp[h2]),if_neg (by rw[h4];simp),aaF,aan,abL,if_pos (by simp[h1]),ih];exact SU;have h4:(dn++[nm]).contains e.2=dn.contains e.2:=(by rw[ac7];simp[h2]);rw[if_neg (by simp[h2]:¬(e.2==nm)=true),h4];by_cases h5:(e.1==s&& !dn.contains e.2)=true;rw[if_pos h5,if_pos h5,aaF,aaF,ih];exact rfl;rw[if_neg h5,if_neg h5,ih];have h5:¬(e.1==s&& !dn.contains e.2)=true:=(by simp[h1]);have h6:¬(e.1==s&& !(dn++[nm]).contains e.2)=true:=(by simp[h1]);rw[if_neg h5,if_neg h6,ih];by_cases h2:(e.2==nm)=true;rw[if_pos h2,aan,abL,if_neg (by simpa using h1)];rfl;rw[if_neg h2]);exact Int.sub_eq_iff_eq_add'.mpr (congrArg Nat.cast (key E))
 let c:Str→Int:=λs=>stK E (dn++[nm]) (gv++rl) s+((ez E nm).count s:Int);have j0:∀s,(if s=nm then(-2:Int)else stK E dn (gv++rl) s)=c s:=λs=>by change _=stK E (dn++[nm]) (gv++rl) s+((ez E nm).count s:Int);unfold stK;by_cases e:s=nm;subst e;rw[if_pos rfl,if_pos (by simp),acJ (λq=>SK s q rfl)];rfl;have hm:s∈dn++[nm]↔s∈dn:=(by simp[e]);rw[if_neg e];simp only[hm];by_cases h1:s∈dn;rw[if_pos h1,if_pos h1,acJ (λq=>SJ s q h1)];rfl;rw[if_neg h1,if_neg h1];by_cases h2:s∈gv++rl;rw[if_pos h2,if_pos h2,acJ (λq=>Ll s q h2)];rfl;rw[if_neg h2,if_neg h2];exact Int.sub_eq_iff_eq_add.mp (W8 s)
 have hg1:dS (λa=>(-2,a.2)) nm (gK N E dn (gv++rl))=gN N λs=>(c s,ez E s):=by unfold gK;rw[pW _ _ _ _ H.nd];let s zz:=dm;rw[←j0 s];by_cases e:s=nm;rw[if_pos e,if_pos e];rw[if_neg e,if_neg e]
 have hg2:(gN N λs=>(c s-((ez E nm).count s:Int),ez E s))=gK N E (dn++[nm]) (gv++rl):=dm λs zz=>by change(stK E (dn++[nm]) (gv++rl) s+((ez E nm).count s:Int)-((ez E nm).count s:Int),_)=_;rw[Int.add_sub_cancel]
 have JN:∀s∈ez E nm,0≤stK E (dn++[nm]) (gv++rl) s:=λs hs=>by unfold stK;rw[if_neg (by simp[SJ s hs,SK s hs]),if_neg (Ll s hs)];exact abq _
 have rP:vI c (ez E nm)=(dl (ez E nm)).filter λw=>c w-((ez E nm).count w:Int)==0:=Gi _ _ λw hw=>by have:=JN w hw;change _≤stK E (dn++[nm]) (gv++rl) w+((ez E nm).count w:Int);exact Int.le_add_of_nonneg_left this
 refine⟨vI c (ez E nm),⟨λs hs=>(aax.mp hs).elim (I.gN s) λh=>((I.rm s).mp h).1,I.Yw,?_,?_,λs=>?_,?_,λs hs e he q=>aaf _ (WZ s hs e he q),?_⟩,?_⟩;have h1:(gv++rl).Perm (dn++(wt++rl)):=by rw[←aaw];exact I.perm.append_right rl
 rw[hw]at h1;show h1.trans;rw[aaw];exact acY dn aaY;rw[rP];exact(RE _).filter _;rw[rP,abp,mT];constructor;intro JZ;let h1 h2:=eA JZ;have h2:stK E (dn++[nm]) (gv++rl) s=0:=by have:=beq_iff_eq.mp h2;have e:c s=stK E (dn++[nm]) (gv++rl) s+((ez E nm).count s:Int):=rfl;exact SV this e
 refine⟨W0 s h1,Ll s h1,λe he q=>?_⟩;unfold stK at h2;rw[if_neg (by simp[SJ s h1,SK s h1]),if_neg (Ll s h1)]at h2;have h3:(E.filter λe=>e.1==s&& !(dn++[nm]).contains e.2)=[]:=List.length_eq_zero_iff.mp (by exact Int.ofNat_eq_zero.mp h2);have h4:=abc.mp h3 e he;simp only[aaM,beq_iff_eq,ab3,not_and,Bool.not_eq_false]at h4;simpa using h4 q;intro J0;let h1 h2 h3:=pZ J0;have hs:s∈ez E nm:=by refine abW λxI=>h2 (aad _ ((I.rm s).mpr ⟨h1,λq=>h2 (aaf _ q),λe he q=>?_⟩));rcases aax.mp (h3 e he q)with h|h;exact h;exfalso;have:e=(s,nm):=Prod.ext q (aaL.mp h);exact xI ((hL s).mpr (this▸he))
 refine⟨hs,beq_iff_eq.mpr ?_⟩;have e0:c s=stK E (dn++[nm]) (gv++rl) s+((ez E nm).count s:Int):=rfl;have:stK E (dn++[nm]) (gv++rl) s=0:=by unfold stK;rw[if_neg (by simp[SJ s hs,SK s hs]),if_neg (Ll s hs)];have h4:(E.filter λe=>e.1==s&& !(dn++[nm]).contains e.2)=[]:=abc.mpr λe he q=>(by simp only[aaM,beq_iff_eq,ab3]at q;have:=h3 e he q.1;have h5:(dn++[nm]).contains e.2=true:=(by simpa using this);rw[h5]at q;cases q.2);rw[h4];rfl
 exact SW e0 this;rw[rP];exact Do H.nl H.mem _;intro i s hi e he q;by_cases h:i<dn.length;rw[ac4 h]at hi;rw[List.take_append_of_le_length (aaN h)];exact I.RG i s hi e he q;have Fe:=(aav.mp hi).1;rw[aar,abC]at Fe;obtain rfl:i=dn.length:=by exact L4 h Fe
 rw[acX (aak _),adv]at hi;obtain rfl:nm=s:=by simpa using hi
 rw[List.take_left];exact WZ nm SH e he q;have hf:db nm (iL rl (gK N E dn gv))=some (-1,ez E nm):=by rw[tL H.nd HT];unfold gK;rw[iP,if_pos hnN];unfold stK;rw[if_neg ki,if_pos SH]
 have CC:∀w∈ez E nm,(db w (iL rl (gK N E dn gv))).isSome=true:=λw hw=>by rw[tL H.nd HT];unfold gK;rw[iP,if_pos (W0 w hw)];rfl
 have yY:([]:List Str).length+(ez E nm).length≤1000:=by unfold ez;rw[aaa];have:=abE (λe:Str×Str=>e.2==nm) E;have:=H.el;change 0+_≤_;exact SY (by assumption) this
 have e1:((ez E nm).foldl lI (dS (λa=>(-2,a.2)) nm (iL rl (gK N E dn gv)),[]))=(gK N E (dn++[nm]) (gv++rl),vI c (ez E nm)):=by rw[tL H.nd HT,hg1,(Dm H.nd (ez E nm) (λs=>(c s,ez E s)) [] W0),←hg2];rfl
 by_cases q:dn.length%2=0;rw[if_pos q,q];show .ok hf CC yY;rw[e1];exact .nil;have q1:dn.length%2=1:=by exact Nat.mod_two_ne_zero.mp q
 rw[if_neg q,q1];show .ok hf CC yY;rw[e1];show .QY;unfold gK;rw[iP,if_neg H.zz]
theorem Lm(H:GH N E):∀(k:Nat) (dn gv wt rl:List Str),Inv N E dn gv wt rl→N.length≤dn.length+k→∃dF gF,Inv N E dF gF [] []∧kf N E gF.length (gK N E dF gF) gF.length dF.length k (gK N E dn gv) rl gv.length dn.length gv dn wt:=by intro k;induction k with|zero=>intro dn gv wt rl I hk;have h0:wt++rl=[]:=(by rcases List.eq_nil_or_concat (wt++rl)with h|⟨w',nm,h⟩;exact h;rw[List.concat_eq_append]at h;let rl2 I2 z2:=ak (yF H I h);have:=kH (aaX.mp I2.jL).1 λx hx=>I2.gN x (I2.ry hx);rw[aar,abC]at this;lia);let r0 r1:=eA (adx.mp h0);subst r0;subst r1;exact ba dn gv ⟨I,tM H I,.inl ⟨rfl,rfl,rfl,rfl,rfl⟩⟩|succ k ih=>intro dn gv wt rl I hk;rcases List.eq_nil_or_concat (wt++rl)with h|⟨w',nm,h⟩;let r0 r1:=eA (adx.mp h);subst r0;subst r1;exact ba dn gv ⟨I,tM H I,.inl ⟨rfl,rfl,rfl,rfl,rfl⟩⟩;rw[List.concat_eq_append]at h;let rl2 I2 hd:=ak (yF H I h);let dF gF IF hr:=cI (ih _ _ _ _ I2 (by rw[aar,abC];exact S_ hk));refine ba dF gF ⟨IF,?_⟩;have Au:nm∈N:=I2.gN nm (I2.ry (aad _ (.head _)));have e2:((dn++[nm]).length:Int)=(dn.length:Int)+1:=(by rw[aar,Int.natCast_add];rfl);rw[(by rw[aar,Int.natCast_add]:((gv++rl).length:Int)=(gv.length:Int)+(rl.length:Int)),e2]at hr;exact⟨tM H I,.inr (IM _ _ _ _ _ ⟨h,H.rt nm Au,hd,hr⟩)⟩
end
end
section
open PySem.Builtin PySem.Builtin.Str
variable{rk:Str→Nat}
section
variable{N:List Str} {E:Ed} {g:G}
def Gk(E:Ed):List Str→Prop|[]=>True|s::f=>(∀w∈ez E s,w∈f)∧Gk E f
def Below(E:Ed)(fin:List Str):Str→List (Str×Nat)→Prop|_,[]=>True|x,(s,i)::r=>(∃j,i=j+1∧(ez E s)[j]? =some x∧∀w∈(ez E s).take j,w∈fin)∧Below E fin s r
def HU(E:Ed)(fin:List Str):List (Str×Nat)→Prop|[]=>True|(s,i)::r=>(∀w∈(ez E s).take i,w∈fin)∧Below E fin s r
structure SL(N:List Str)(E:Ed)(seen:List Str)(aC:List (Str×Nat))(fin:List Str):Prop where
 perm:seen.Perm (aC.map (λx=>x.1)++fin)
 nd:seen.Nodup
 mem:∀s∈seen,s∈N
 top:Gk E fin
theorem Below.mono{fin nU:List Str}(h:∀w∈fin,w∈nU):∀{x:Str} {aC:List (Str×Nat)},Below E fin x aC→Below E nU x aC|_,[],_=>trivial|_,(s,i)::r,⟨⟨j,h1,h2,h3⟩,h4⟩=>⟨⟨j,h1,h2,λw hw=>h w (h3 w hw)⟩,Below.mono h h4⟩
theorem Below.rank{fin:List Str}(hr:∀s w,w∈ez E s→rk s<rk w):∀{x:Str} {aC:List (Str×Nat)},Below E fin x aC→∀s∈aC.map (λx=>x.1),rk s<rk x|_,[],_,s,hs=>nomatch hs|x,(t,i)::r,⟨⟨j,h1,h2,h3⟩,h4⟩,s,hs=>by have h0:=hr t x (aaA h2);rcases aai.mp hs with q|q;rw[q];exact h0;exact Nat.lt_trans (Below.rank hr h4 s q) h0
theorem Below.push{fin:List Str}:∀{aC:List (Str×Nat)},Below E fin x aC→x∈fin→HU E fin aC|[],_,_=>trivial|(s,i)::r,⟨⟨j,h1,h2,h3⟩,h4⟩,hx=>⟨λw hw=>by subst h1;rw[aaK,h2]at hw;rcases aax.mp hw with q|q;exact h3 w q;have:w=x:=(by simpa using q);rw[this];exact hx,h4⟩
def Ao(N:List Str)(E:Ed)(seen:List Str):Nat:=((N.filter λs=> !seen.contains s).map λs=>2*(ez E s).length+3).sum
def RI(E:Ed)(aC:List (Str×Nat)):Nat:=(aC.map λp=>2*((ez E p.1).length-p.2)+1).sum
theorem Ln{seen:List Str}:∀{N:List Str},Ao N E (s::seen)≤Ao N E seen:=by intro l0;induction l0 with|nil=>exact aak _|cons t N ih=>have ih:=ih;unfold Ao at ih⊢;rw[abO,abO];by_cases h1:t∈seen;rw[if_neg (by simp[h1]),if_neg (by simp[h1])];exact ih;by_cases h2:t=s;rw[if_neg (by simp[h2]),if_pos (by simp[h1]),aan,adh];exact ac0 ih;rw[if_pos (by simp[h1,h2]),if_pos (by simp[h1]),aan,aan,adh,adh];exact abe ih _
theorem Gl{seen:List Str}(hs:s∉seen):∀{N:List Str},s∈N→Ao N E (s::seen)+(2*(ez E s).length+3)≤Ao N E seen:=by
 intro l0;induction l0 with
 |nil=>intros;first|contradiction|(rename_i h;cases h)|nofun
 |cons t N ih=>intro h;unfold Ao;rw[abO,abO];by_cases h2:t=s;subst h2;have:=Ln (E:=E) (seen:=seen) (s:=t) (N:=N);unfold Ao at this;rw[if_neg (by simp),if_pos (by simp[hs]),aan,adh];exact L9 this;have hn:s∈N:=(aai.mp h).resolve_left λq=>h2 q.symm;have ih:=ih hn;unfold Ao at ih;by_cases h1:t∈seen;rw[if_neg (by simp[h1]),if_neg (by simp[h1])];exact ih;rw[if_pos (by simp[h1,h2]),if_pos (by simp[h1]),aan,aan,adh,adh];exact Mc ih
def Dq(E:Ed):Prop:=¬∃rk:Str→Nat,∀s w,w∈ez E s→rk s<rk w
def RJ(N:List Str)(E:Ed)(seen:List Str)(arg:Option Str):Option (List Str)→Prop|none=>Dq E|some dW=>(∃nU,SL N E dW [] nU)∧(∀s∈seen,s∈dW)∧∀w,arg=some w→w∈dW
theorem pY(H:GH N E)(hg:∀s∈N,∃a,db s g=some (a,ez E s)):∀(m:Nat) (seen:List Str) (aC:List (Str×Nat)) (fin:List Str) (arg:Option Str),SL N E seen aC fin→(match arg with|none=>HU E fin aC|some w=>w∈N∧Below E fin w aC)→
  Ao N E seen+RI E aC+(if arg.isSome then 1 else 0)<m→∃k res,oq g k seen aC arg res∧RJ N E seen arg res
 |0,_,_,_,_,_,_,h=>absurd h (Nat.not_lt_zero _)
 |m+1,seen,aC,fin,some w,I,⟨hw,hb⟩,hm=>by
  by_cases h1:w∈seen
  ·by_cases h2:w∈aC.map (λx=>x.1)
   ·refine ba 0 none ⟨.ZY h1 h2,λh8=>eE h8 λrk hr=>?_⟩
    exact absurd (Below.rank hr hb w h2) (Nat.lt_irrefl _)
   ·have hf:w∈fin:=(aax.mp (I.perm.mem_iff.mp h1)).resolve_left h2
    refine cI (pY H hg m seen aC fin none I (hb.push hf) (by change Ao N E seen+RI E aC+0<m;exact abZ hm)) λk res d r=>?_
    refine ba (k+1) res ⟨.inr (.inl ⟨h1,h2,d⟩),?_⟩
    cases res with
    |none=>exact r
    |some dW=>exact⟨r.1,r.2.1,λw' e=>by cases e;exact r.2.1 w h1⟩
  ·refine eE (hg w hw) λa ha=>?_
   have jL:(w::seen).Nodup:=aaB.mpr ⟨h1,I.nd⟩
   have hlen:=kH jL (b:=N) λx hx=>(aai.mp hx).elim (λq=>q▸hw) (I.mem x)
   have hN:=H.nl
   obtain⟨k,res,d,r⟩:=pY H hg m (w::seen) ((w,0)::aC) fin none ⟨abz w I.perm,jL,λx hx=>(aai.mp hx).elim (λq=>q▸hw) (I.mem x),I.top⟩ ⟨λx hx=>by simp at hx,hb⟩ (by
    change Ao N E (w::seen)+((2*((ez E w).length-0)+1)+RI E aC)+0<m
    exact Mf hm (Gl (E:=E) h1 hw))
   refine ba (k+1) res ⟨.inr (.inr ⟨h1,by rw[aaF]at hlen;exact aab (aab hlen hN) (aae rfl),by rw[ha];rfl,d⟩),?_⟩
   cases res with
   |none=>exact r
   |some dW=>exact⟨r.1,λs hs=>r.2.1 s (.tail _ hs),λw' e=>by cases e;exact r.2.1 w (.head _)⟩
 |m+1,seen,[],fin,none,I,_,hm=>(ba 0 (some seen) ⟨.inl ⟨rfl,rfl⟩,⟨fin,I⟩,λs hs=>hs,λw e=>nomatch e⟩)
 |m+1,seen,(s,i)::r,fin,none,I,⟨ht,hb⟩,hm=>by
  refine eE (hg s (I.mem s (I.perm.mem_iff.mpr (.head _)):s∈N)) λa ha=>?_
  cases hw:(ez E s)[i]? with
  |some w=>
   have hi:=(aav.mp hw).1
   have hwN:w∈N:=by
    refine ak (aaH.mp (aaA hw)) λe he r2=>?_
    obtain rfl:=r2
    exact(H.mem e (abp.mp he).1).1
   obtain⟨k,res,d,q⟩:=pY H hg m seen ((s,i+1)::r) fin (some w) ⟨I.perm,I.nd,I.mem,I.top⟩ ⟨hwN,⟨i,rfl,hw,ht⟩,hb⟩ (by
    change Ao N E seen+((2*((ez E s).length-(i+1))+1)+RI E r)+1<m
    exact Mj hm hi)
   refine ba (k+1) res ⟨.inr (p6 _ _ _ _ ⟨rfl,ha,.inl ⟨_,hw,d⟩⟩),?_⟩
   cases res with
   |none=>exact q
   |some dW=>exact⟨q.1,q.2.1,λw' e=>nomatch e⟩
  |none=>
   have hi:=ac2.mp hw
   obtain⟨k,res,d,q⟩:=pY H hg m seen r (s::fin) none ⟨I.perm.trans aaS.symm,I.nd,I.mem,(λw hw=>ht w (by rw[abd hi];exact hw):∀w∈ez E s,w∈fin),I.top⟩ ((hb.mono λw hw=>.tail _ hw).push (.head _)) (by
    change Ao N E seen+RI E r+0<m
    exact Mk hm)
   refine ba (k+1) res ⟨.inr (p6 _ _ _ _ ⟨rfl,ha,.inr ⟨hw,d⟩⟩),?_⟩
   cases res with
   |none=>exact q
   |some dW=>exact⟨q.1,q.2.1,λw' e=>nomatch e⟩
theorem Lo(H:GH N E)(hg:∀s∈N,∃a,db s g=some (a,ez E s)):∀(l seen fin:List Str),(∀s∈l,s∈N)→SL N E seen [] fin→∃b,Kv g l seen b∧(b=true→Dq E)∧(b=false→∃dW nU,SL N E dW [] nU∧(∀s∈seen,s∈dW)∧∀s∈l,s∈dW):=by intro l0;induction l0 with|nil=>exact λseen fin zz I=>⟨false,rfl,(λh=>nomatch h),λzz=>(ba seen fin ⟨I,λs hs=>hs,(λs hs=>nomatch hs)⟩)⟩|cons s l ih=>intro seen fin hl I;by_cases h:s∈seen;let b d h1 h2:=bN (ih seen fin (λx hx=>hl x (.tail _ hx)) I);refine⟨b,.inl ⟨h,d⟩,h1,λhb=>?_⟩;let dW nU I' g1 g2:=bG (h2 hb);exact ba dW nU ⟨I',g1,λx hx=>(aai.mp hx).elim (λq=>q▸g1 s h) (g2 x)⟩;let k res d r:=cI (pY H hg _ seen [] fin (some s) I ⟨hl s (.head _),trivial⟩ (abw _));cases res with|none=>exact⟨true,.inr ⟨h,k,_,d,λzz=>rfl,λzz q=>nomatch q⟩,λzz=>r,λq=>nomatch q⟩|some dW=>obtain⟨⟨nU,I'⟩,g1,g2⟩:=r;let b d2 h1 h2:=bN (ih dW nU (λx hx=>hl x (.tail _ hx)) I');refine⟨b,.inr ⟨h,k,_,d,λq=>(nomatch q),λzz q=>aaJ q▸d2⟩,h1,λhb=>?_⟩;let RK W9 I2 q1 q2:=bG (h2 hb);exact ba RK W9 ⟨I2,λx hx=>q1 x (g1 x hx),λx hx=>(aai.mp hx).elim (λq=>q▸q1 s (g2 s rfl)) (q2 x)⟩
theorem Gm:∀{f:List Str},Gk E f→∀y∈f,∀w∈ez E y,w∈f:=by
 intro l0;induction l0 with
 |nil=>intros;first|contradiction|(rename_i h;cases h)|nofun
 |cons s f ih=>intro⟨h1,h2⟩ y hy w hw;rcases aai.mp hy with q|q;exact .tail _ (h1 w (q▸hw));exact .tail _ (ih h2 y q w hw)
theorem Gn{X:Str→Prop}(hX:∀s,X s→∃y,X y∧s∈ez E y):∀{f:List Str},Gk E f→f.Nodup→(∀s,X s→s∈f)→∀s,¬X s:=by intro l0;induction l0 with|nil=>exact λzz zz h s hs=>nomatch h s hs|cons t f ih=>intro⟨h1,h2⟩ nd h s hs;have nd:=aaB.mp nd;have ht:¬X t:=λq=>(by let y hy Q0:=ak (hX t q);rcases aai.mp (h y hy)with e|e;exact nd.1 (h1 t (e▸Q0));exact nd.1 (Gm h2 y e t Q0));exact ih h2 nd.2 (λx hx=>(aai.mp (h x hx)).resolve_left λe=>ht (e▸hx)) s hs
theorem Go(H:GH N E)(hg:∀s∈N,∃a,db s g=some (a,ez E s)){dF gF:List Str}(I:Inv N E dF gF [] []):Kv g N [] (decide (gF.length<N.length)):=by
 let b d h1 h2:=bN (Lo H hg N [] [] (λs hs=>hs) ⟨List.Perm.nil,abn,(λs hs=>nomatch hs),trivial⟩);have hp:gF.Perm dF:=by have:=I.perm;rwa [aaO]at this
 have Qe:dF.Nodup:=hp.nodup_iff.mp I.WY;have hlen:=hp.length_eq;have key:b=decide (gF.length<N.length):=by
  cases b with
  |true=>
   have xI:=h1 rfl;refine(decide_eq_true (abW λdc=>xI ?_)).symm;have W_:∀s∈N,s∈dF:=λs hs=>abW λq=>dc (by have:=kH (a:=s::dF) (b:=N) (aaB.mpr ⟨q,Qe⟩) λx hx=>(aai.mp hx).elim (λe=>e▸hs) ((λx hx=>I.gN x (hp.mem_iff.mpr hx):∀x∈dF,x∈N) x);rw[aaF]at this;exact Mm hlen this);refine⟨λs=>dF.idxOf s,λs w hw=>?_⟩;let e he r2:=ak (aaH.mp hw);subst r2;let vN ig:=eA (abp.mp he);have ig:=beq_iff_eq.mp ig;have hi:=abB (W_ _ (H.mem e vN).1:e.1∈dF);have ht:=I.RG (dF.idxOf e.1) e.1 (by rw[aay hi,List.getElem_idxOf hi]) e vN rfl;rw[ig]at ht;have h3:dF.idxOf s=(dF.take (dF.idxOf e.1)).idxOf s:=by
    conv=>lhs;rw[←List.take_append_drop (dF.idxOf e.1) dF]
    rw[List.idxOf_append,if_pos ht]
   have h4:=abB ht;change dF.idxOf s<dF.idxOf e.1;exact Mo h3 h4 (List.length_take_le (dF.idxOf e.1) dF)
  |false=>
   let dW nU I' z3 hc:=bG (h2 rfl);have SF:dW.Perm nU:=I'.perm;have xI:=Gn (E:=E) (X:=λs=>s∈N∧s∉dF) (λs ⟨hs,hsd⟩=>by
    have hnr:¬fr E gF dF s:=λq=>nomatch (I.rm s).mpr ⟨hs,q⟩
    have:∃e∈E,e.1=s∧e.2∉dF:=abW λq=>hnr ⟨(λq=>hsd (hp.mem_iff.mp q):s∉gF),λe he e1=>abW λe2=>q ⟨e,he,e1,e2⟩⟩
    refine bN this λe he e1 e2=>?_
    refine⟨e.2,⟨(H.mem e he).2,e2⟩,?_⟩
    unfold ez
    exact aaH.mpr ⟨e,abp.mpr ⟨he,by simp⟩,e1⟩) I'.top (SF.nodup_iff.mp I'.nd) (λs hs=>SF.mem_iff.mp (hc s hs.1))
   have:=kH H.nd (λs hs=>abW λq=>xI s ⟨hs,q⟩:∀s∈N,s∈dF);exact(decide_eq_false (by exact Mp hlen this)).symm
 exact key▸d
end
end
section
open PySem.Builtin PySem.Builtin.Str
variable{k w:Str} {t:Tb}
theorem vJ(k:Str)(v:List Str):∀t:Tb,(mO k v t).map (λx=>x.1)=ins (t.map (λx=>x.1)) k:=by intro l0;induction l0 with|nil=>exact rfl|cons e t ih=>unfold mO;by_cases h:e.1=k;rw[if_pos h];subst h;unfold ins;rw[if_pos (.head _)];rfl;rw[if_neg h,aan,ih];unfold ins;have:k∈(e::t).map (λx=>x.1)↔k∈t.map (λx=>x.1):=(by rw[aan,aai];exact⟨λq=>q.resolve_left λq=>h q.symm,.inr⟩);by_cases h2:k∈t.map (λx=>x.1);rw[if_pos h2,if_pos (this.mpr h2)];rfl;rw[if_neg h2,if_neg (λq=>h2 (this.mp q))];rfl
theorem Lp(k:Str)(v:List Str):∀t:Tb,(dJ (mO k v t)).length+(match jU k t with|some old=>old.length+1|none=>0)=(dJ t).length+v.length+1:=by intro l0;induction l0 with|nil=>change(dJ [(k,v)]).length+0=0+v.length+1;simp[dJ]|cons e t ih=>unfold mO jU;by_cases h:e.1=k;rw[if_pos h,if_pos h];change((k::v)++dJ t).length+(e.2.length+1)=((e.1::e.2)++dJ t).length+v.length+1;simp only[aar,aaF];exact MW;rw[if_neg h,if_neg h];change((e.1::e.2)++dJ (mO k v t)).length+_=((e.1::e.2)++dJ t).length+v.length+1;simp only[aar,aaF];exact MX (ih)
theorem Lq{old:List Str}:∀{t:Tb},jU k t=some old→w∈old→w∈dJ t:=by
 intro l0;induction l0 with
 |nil=>intros;first|contradiction|(rename_i h;cases h)|nofun
 |cons e t ih=>intro h hw;unfold jU at h;change w∈(e.1::e.2)++dJ t;split at h;cases h;exact aaf _ (.tail _ hw);exact aad _ (ih h hw)
theorem Gq{v:List Str}:∀{t:Tb},w∈dJ (mO k v t)→w∈dJ t∨w=k∨w∈v:=by intro l0;induction l0 with|nil=>intro h;have:w∈k::v:=(by simpa [dJ,mO]using h);exact .inr (aai.mp this)|cons e t ih=>intro h;unfold mO at h;split at h;have h:w∈(k::v)++dJ t:=h;rcases aax.mp h with h|h;exact .inr (aai.mp h);exact .inl (show w∈(e.1::e.2)++dJ t from aad _ h);have h:w∈(e.1::e.2)++dJ (mO k v t):=h;rcases aax.mp h with h|h;exact .inl (show w∈(e.1::e.2)++dJ t from aaf _ h);exact(ih h).imp (λh=>show w∈(e.1::e.2)++dJ t from aad _ h) id
structure ny(t:Tb)(n:Nat):Prop where
 nd:(t.map (λx=>x.1)).Nodup
 ln:t.length≤n
 ev:(dJ t).length≤3*n
 wd:∀w∈dJ t,(acR w).length≤1000∧w≠"zz"
theorem Dr{r:List Str}(h:ny t n)(gV:r≠[])(hl:r.length≤3)(hw:∀w∈r,(acR w).length≤1000∧w≠"zz"):ny (stepT t r) (n+1):=by
 obtain⟨a,ws,rfl⟩:∃a ws,r=a::ws:=by cases r with|nil=>exact(gV rfl).elim|cons a ws=>exact ba a ws rfl
 change ny (mO a ((jU a t).getD []++ws) t) (n+1);refine⟨by rw[vJ];exact mS h.nd a,?_,?_,λw tU=>?_⟩;have:=congrArg aaV (vJ a ((jU a t).getD []++ws) t);rw[aaa]at this;rw[this];have h0:=h.ln;have h1:(t.map (λx=>x.1)).length=t.length:=aaa _;unfold ins;split;exact MY h0 h1;rw[aar,abC];exact MZ h0 h1;have h1:=Lp a ((jU a t).getD []++ws) t;have h2:=h.ev;rw[aar]at h1;simp only[aaF]at hl;cases hg:jU a t with|none=>rw[hg]at h1;simp at h1⊢;exact M0 hl h2 h1|some old=>rw[hg]at h1;simp at h1⊢;exact M2 hl h2 h1
 rcases Gq tU with q|q|q;exact h.wd w q;exact q▸hw a (.head _);rcases aax.mp q with q|q;cases hg:jU a t with
 |none=>rw[hg]at q;cases q
 |some old=>rw[hg]at q;exact h.wd w (Lq hg q)
 exact hw w (.tail _ q)
theorem vK:∀(rs:List (List Str)) {t:Tb} {n:Nat},ny t n→(∀r∈rs,r≠[]∧r.length≤3∧∀w∈r,(acR w).length≤1000∧w≠"zz")→ny (rs.foldl stepT t) (n+rs.length)|[],t,n,h,_=>h|r::rs,t,n,h,hr=>by let h1 h2 h3:=pZ (hr r (.head _));rw[acv,aaF];have e:n+1+rs.length=n+(rs.length+1):=(by exact M3);rw[←e];exact(vK rs (Dr h h1 h2 h3) λx hx=>hr x (.tail _ hx))
theorem yG:(acR "(,").length≤1000∧(acR ")").length≤1000∧("(,":Str)≠"zz"∧(")":Str)≠"zz":=⟨by decide+kernel,by decide+kernel,by decide,by decide⟩
theorem Lr(xs:List Int):ny (vp ((gm (jb xs)).map (gR Lg))) 4:=by
 have hl:=vH xs;have:=vK ((gm (jb xs)).map (gR Lg)) (⟨abn,aak _,aak _,λw hw=>nomatch hw⟩:ny [] 0) λr hr=>by let r0 hr0 r2:=ak (aaH.mp hr);subst r2;let h1 h2 h3:=pZ (lP hr0);unfold gR;split;exact⟨h1,h2,λw hw=>⟨(WT (h3 w hw)).rt,(WT (h3 w hw)).zz⟩⟩;refine⟨by simp,by decide,λw hw=>?_⟩;rcases aai.mp hw with rfl|hw;exact⟨yG.1,yG.2.2.1⟩;rw[aaL.mp hw];exact⟨yG.2.1,yG.2.2.2⟩
 rw[aaa,Nat.zero_add]at this;exact⟨this.nd,aab this.ln hl,aab this.ev (aaW 3 hl),this.wd⟩
theorem RL:∀t:Tb,(jW t).length≤(dJ t).length:=by intro l0;induction l0 with|nil=>exact aak _|cons e t ih=>have ih:=ih;change(e.2.map (λw=>(e.1,w))++jW t).length≤((e.1::e.2)++dJ t).length;simp only[aar,aaa,aaF];exact M5 ih
theorem Gr:∀{t:Tb} {e:Str×List Str},e∈t→e.2.length≤(dJ t).length:=by
 intro l0;induction l0 with
 |nil=>intros;first|contradiction|(rename_i h;cases h)|nofun
 |cons x t ih=>intro e h;change _≤((x.1::x.2)++dJ t).length;rw[aar,aaF];rcases aai.mp h with rfl|h;exact abT (aa2 _);have:=ih h;exact ac0 this
theorem Ls(ev:List Str):(iZ ev).length≤ev.length:=by unfold iZ;rw[aaa];exact aab (abE _ _) (by rw[abA];exact aak _)
theorem Ds(h:w∈iZ ev):w∈ev:=by rw[yE,cZ]at h;exact h.elim (λq=>nomatch q) id
theorem Gu(N:List Str)(f:Str→Int×List Str):(gN N f).map (λx=>x.1)=N:=by unfold gN;rw[aba];exact List.map_id N
theorem Lu(N:List Str)(f:Str→Int×List Str):ip (gN N f)=N.filter λs=>decide ((f s).1=0):=by delta ip gN;rw[List.filter_map,aba];exact List.map_id _
theorem Dt(h:ny t 4):yz t:=by
 let g1 g2 g3:=pZ (Lj t);have Lb:(dJ t).length≤12:=h.ev;have xM:=aab (RL t) Lb;have HP:=aab (Ls (dJ t)) Lb;have H:GH (iZ (dJ t)) (jW t):=⟨g2,by exact aab HP (aae rfl),by exact aab xM (aae rfl),g3,λs hs=>(h.wd s (Ds hs)).1,λq=>(h.wd _ (Ds q)).2 rfl⟩;have e0:DM t=gK (iZ (dJ t)) (jW t) [] []:=by rw[g1];let s zz:=dm;delta fE stK ez;rw[if_neg (by simp),if_neg (by simp)];simp
 have hlen:(gK (iZ (dJ t)) (jW t) [] []).length=(iZ (dJ t)).length:=by rw[aaa]
 have I0:Inv (iZ (dJ t)) (jW t) [] [] [] (ip (gK (iZ (dJ t)) (jW t) [] [])):=by unfold gK;rw[Lu];refine⟨λs hs=>(nomatch hs),abn,List.Perm.nil,g2.filter _,λs=>?_,An g2 _,λs hs=>(nomatch hs),λi s hi=>by simp at hi⟩;rw[abp];let hs:=and_congr_right;unfold fr stK;rw[if_neg (by simp),if_neg (by simp),decide_eq_true_iff];constructor;intro q;refine⟨by simp,λe he e1=>?_⟩;have q2:((jW t).filter λe=>e.1==s&& !([]:List Str).contains e.2)=[]:=List.length_eq_zero_iff.mp (by lia);have:=abc.mp q2 e he;simp[e1]at this;intro J1;let z0 q:=eA J1;have q2:((jW t).filter λe=>e.1==s&& !([]:List Str).contains e.2)=[]:=abc.mpr λe he e1=>(by simp only[aaM,beq_iff_eq]at e1;exact nomatch q e he e1.1);rw[q2];rfl
 let dF gF IF hr:=cI (Lm H (iZ (dJ t)).length [] [] [] _ I0 (by simp));have hp:gF.Perm dF:=by have:=IF.perm;rwa [aaO]at this
 have TI:=hp.length_eq;refine⟨aab h.ln '2',λe he=>aab (Gr he) (by exact aab Lb (aae rfl)),h.nd,by exact aab HP (aae rfl),g2,by exact aab xM (aae rfl),by rw[e0,hlen];exact aab HP (aae rfl),?_,decide (gF.length<(iZ (dJ t)).length),gF.length,(iZ (dJ t)).length,gK (iZ (dJ t)) (jW t) dF gF,gF.length,dF.length,?_,?_,rfl,λw hw=>⟨H.rt w hw,Dp H hw ?_⟩,?_,by exact M7 TI⟩;rw[e0];intro e he;let s z1 r2:=ak (aaH.mp he);subst r2;change(ez (jW t) s).length≤9999;rw[aaa];exact aab (abE _ _) (by exact aab xM (aae rfl));rw[e0];have:(gK (iZ (dJ t)) (jW t) [] []).map (λx=>x.1)=(iZ (dJ t)):=Gu _ _;rw[this];exact Go H (λs hs=>⟨_,by unfold gK;rw[iP,if_pos hs]⟩:∀s∈(iZ (dJ t)),∃a,db s (gK (iZ (dJ t)) (jW t) [] [])=some (a,ez (jW t) s)) IF;rw[e0];exact hr;by_cases q:w∈dF;exact .inl q;exact .inr λq2=>q (hp.mem_iff.mp q2);show .QY;unfold gK;rw[iP,if_neg H.zz]
end
section
open PySem.Builtin PySem.Builtin.Str
variable{Q:Env→aas→Prop}
section
variable{M:Model} {A:ads} {E:Value→aas→Prop} {s:aas}
theorem xa{globals:Addr}{n:Str}{qual:Str}{func:Option Addr}{code:Value}{builtins:Addr}(hk:scope.kind= .function) (hl:scope.names.lookup n=some .local)(hQ:∀env,env=newEnv scope s.heap.objs.size globals (aco (s.heap.objs.size+1) scope.names []) qual func code none builtins→∀h',InCallC s env.locals (bindL env.kindOf [(n,v)] λzz=>none) env.cells (bindC env.kindOf [(n,v)] λzz=>none) {s with heap:=h',toks:=s.toks+1}→Q env {s with heap:=h',toks:=s.toks+1}):wpAny M A (newFunctionEnv scope globals [] [(n,v)] qual func code none builtins) Q E s:=by simp only[newFunctionEnv,Option.isSome_none,aaU,if_false];refine aac (wpAny_alloc ?_);refine aac (wpAny_layCells _ (λname kind cells=>by cases hkc:kind==NameKind.cell<;>simp[hkc]) _ _ _ _ ?_);have ok:=cellsFrom_ok scope.names (s.heap.push {cls:=.type "frame",data:=.dict #[]}) (s.heap.objs.size+1) [] ⟨λzz zz hm=>(nomatch hm),List.Pairwise.nil⟩ (by rw[acH];exact aak _);rw[acH]at ok;rw[show({s with heap:=s.heap.push {cls:=.type "frame",data:=.dict #[]}}:aas).heap.objs.size=s.heap.objs.size+1 from acH ..];have lS:(pushCells (s.heap.push {cls:=.type "frame",data:=.dict #[]}) scope.names).Ns s.heap.objs.size λzz=>none:=(Heap.Ns.new s.heap (.type "frame")).keeps (pushCells_keeps _ _);rw[List.forIn_cons];refine aac (aac (aac (wpAny_storeName_local (env:=newEnv scope s.heap.objs.size globals (aco (s.heap.objs.size+1) scope.names []) qual func code none builtins) hl lS (λh' Bi rZ=>aal ?_) (by change(scope.kind== .class||(scope.kind== .module&&_))=false;rw[hk];rfl))));refine aal (aal (hQ _ rfl h' ?_));have e1:(newEnv scope s.heap.objs.size globals (aco (s.heap.objs.size+1) scope.names []) qual func code none builtins).kindOf n=some .local:=hl;refine⟨⟨(ba h' _ rfl),?_,λb o e=>?_,aak _⟩,λk c hc=>?_,ok.apart,λn c hm=>(ok.empty n c hm).2⟩;unfold bindL bindL;rw[if_pos e1];exact Bi;exact rZ.extBut b o (abf (aa3 e)) (pushCells_keeps _ _ b o (aap _ e));unfold bindC bindC;rw[if_pos e1];exact(ok.empty k c (mem_of_lookup hc)).1.sameBut rZ (abF (ok.empty k c (mem_of_lookup hc)).2)
end
theorem Lv{s:aas}{mg mb:Str→Option Value}{base:Heap}{xs:List Int}{R:Result→aas→Prop}(eH:TC (K0 w.params) mg mb base) (j0:base.StaysIn s.heap) (kj:base.objs.size≤s.heap.objs.size) (hg:s.gens= #[])(hB:Rr l (xs.map .int) base) (hz:xs.length≤1000) (h9:base.get? 894=none) (ht:∃o,s.heap.get? 894=some o∧aE o)(h:∀s',base.StaysIn s'.heap→(∃o,s'.heap.get? 894=some o∧aE o)→s'.os=s.os→AllBare s'.gens→R (.ok (.ret (.bool true))) s'):codeAny (model prog w) callerA (.call (.ref 969) ⟨[.ref l],[]⟩) R s:=by
 have F:=KG w.params;have fg:(K0 w.params).In s.heap:=λa o e=>j0 a o (eH.fg a o e);have hl:=KJ (.ref l);let oc od osl ho:=vT F.obj;refine codeAny_call_function (fd:=sQ w.params) (body:=da) '2' (fg _ _ ho) rfl F.co F.gen F.body (codeRec_of fg F.code) (KI s w.params (.ref l) _ _ _ _ ?_);rw[F.rN];let env he h₁ ic:=xa F.kind (KL _);obtain⟨⟨_,lS,keep,_⟩,uG,ZD,J6⟩:=ic;generalize tW:({w:=w,K:=K0 w.params,mg:=mg,mb:=mb,base:=base,aC:=[],L:=s.heap.objs.size,fx:=bd,env:=envX bd.cn bd.cs s.heap.objs.size bd.a bd.cd (aco (s.heap.objs.size+1) bd.cs.names []),comp:=false,hd:=none,G:= #[],os:=s.os}:Cx)=c;have envE:env=c.env:=by rw[he,←tW];unfold newEnv;simp only[F.cs,F.glob,F.qual,F.cd,F.v9]
 subst envE;have cL:c.L=s.heap.objs.size:=by rw[←tW]
 have cB:c.base=base:=by rw[←tW]
 have cW:c.w=w:=by rw[←tW]
 have cK:c.K=K0 c.w.params:=by rw[←tW]
 have cE:c.env=envX bd.cn bd.cs c.L bd.a bd.cd (aco (c.L+1) bd.cs.names []):=by rw[←tW]
 have vm:h₁.NoLimit:=(eH.lim.keeps j0).keeps keep;refine⟨vm,codeAny_func ?_⟩;have ok:c.Ok:=by subst tW;refine⟨eH,rfl,rfl,rfl,F.cs▸F.kind,λzz=>rfl,kj,λf hf=>(nomatch hf),λp hp=>?_⟩;let h1 h2 h3:=pZ (Ke w.params p hp);exact⟨h1,h2,h3.imp (λq=>mg_of eH.fg eH.g q) λh8=>pZ h8 λa b d=>⟨mg_none_of eH.fg eH.g a,b,d⟩⟩
 have fr:∀a,s.heap.objs.size≤a→c.base.get? a=none:=λa ha=>by rw[cB];cases q:base.get? a with|none=>rfl|some o=>exact absurd (aaE (aa3 q) kj) (Nat.not_lt.mpr ha)
 let o9 RM ht9:=ak ht;have l9:894<s.heap.objs.size:=aa3 RM;have R:Rp c (SS.ext ⟨eu l none none none none none none none none none none none,[(c.L+1+0,.cell none),(c.L+1+1,.cell none),(c.L+1+2,.cell none),(c.L+1+3,.cell none),(894,.obj aE)]⟩ []) {s with heap:=h₁,toks:=s.toks+1}:=by
  have hc:∀e∈CN (.ref l),∃o,h₁.get? (c.L+1+e.2.1)=some o∧p0 c.w (.cell e.2.2) o:=λe ig=>(by let o lR hd2:=ak (uG e.1 _ (by rw[cE];exact hl.cells c.L e ig));exact⟨o,lR,_,hd2,by subst tW;exact hl.Hv e ig⟩);refine⟨λb o e=>keep b o (j0 b o (cB▸e)),⟨_,by rw[cL];subst tW;exact lS,by subst tW;exact hl.vals⟩,?_,λp hp=>?_,λa ha=>?_,?_,hl.nd,by subst tW;exact hl.kinds,?_,by subst tW;rfl,ac8 _⟩;subst tW;exact λf hf=>nomatch hf;have hp:p∈[(c.L+1+0,AO.cell none),(c.L+1+1,.cell none),(c.L+1+2,.cell none),(c.L+1+3,.cell none),(894,.obj aE)]:=(by simpa [SS.ext]using hp);simp only[aai,abN,or_false]at hp;rcases hp with rfl|rfl|rfl|rfl|rfl;exact hc ("rows",0,none) (.head _);exact hc ("lines",1,none) (.tail _ (.head _));exact hc ("table",2,none) (.tail _ (.tail _ (.head _)));exact hc ("every",3,none) (.tail _ (.tail _ (.tail _ (.head _))));exact⟨o9,keep _ _ RM,ht9⟩
  ·have e1:c.aC=[]:=(by rw[←tW]);rw[e1]at ha;simp only[SS.ext,acF,aa0,aaO,aan,aai,abN,or_false]at ha;rcases ha with rfl|rfl|rfl|rfl|rfl|rfl;iterate 5 exact fr _ (by lia)
   rw[cB];exact h9
  have e1:c.aC=[]:=(by rw[←tW]);rw[e1];have hn:∀L:Nat,894<L→[L,L+1+0,L+1+1,L+1+2,L+1+3,894].Nodup:=(by intro L hL;simp only[aaB,aai,abN,or_false,abn,and_true,not_or,not_false_eq_true];exact NF hL);exact hn c.L (by exact NI (cL: @Eq Nat c.L s.heap.objs.size) l9);subst tW;exact⟨#[],by simp[hg],λy hy=>by simp at hy⟩
 have hA:c.In (callerA.deeper c.env) 30:=by subst tW;exact⟨rfl,rfl,show callerA.depth+1+30<adL by decide,show callerA.units+3+8*30<cLine by decide⟩
 subst tW;have hb:=Rx (n:=20) (l:=l) (Q':=λf S'=>f= .ret (.bool true)∧∃D,aq [(894,.obj aE)] S'.cells D) (E':=λzz zz=>False) hz (aab (vH xs) '2') (Gf xs) (Dt (Lr xs)) hB cK rfl rfl rfl cE λS' D hp=>⟨rfl,D,hp⟩;refine aau (hb.run ok [] _ _ hA R) (λf s' Jj=>?_) λx s' h8=>h8.el λe k S' hx hF R2 hE=>hE.elim;obtain⟨S',R2,hf,D,hp⟩:=Jj;cases f with
 |ret v=>obtain rfl:=gr (by injection hf:ab v= .bool true);let o2 lR IZ:=ak (R2.cells (894,.obj aE) (aaf _ (hp.perm.mem_iff.mpr (.head _))));show h s' R2.stays ⟨o2,lR,IZ⟩ R2.os;let r hr hb:=ak R2.gens;rw[hr];simpa using hb
 |next=>cases hf
 |brk=>cases hf
 |cont=>cases hf
end
section
open PySem.Builtin PySem.Builtin.Str
variable{P:aao} {cl:Str→Option Addr}
theorem yH:∀l:Frag,List.lookup 894 (l.filter λp=>p.1 !=894)=none
 |[]=>rfl
 |(b,x)::l=>by
  rw[abO];split;rename_i hb;rw[adR];cases q:(894:Addr)==b with|true=>have q:894=b:=(by simpa using q);subst q;simp at hb|false=>exact yH l
  exact yH l
theorem RN(X:(Top.KF P).In h):(K0 P).In h:=λa o e=>by
 show X a o;unfold K0 at e;generalize Top.KF P=l at e⊢;induction l with
 |nil=>cases e
 |cons p l ih=>
  obtain⟨b,x⟩:=p;rw[abO]at e;rw[adR];split at e;rename_i hb;rw[adR]at e;cases q:a==b with|true=>rw[q]at e;exact e|false=>rw[q]at e;exact ih e
  rename_i hb;have hb:b=894:=(by simpa using hb);cases q:a==b with
  |true=>rw[(by simpa using q:a=b),hb]at e;rw[yH]at e;cases e
  |false=>exact ih e
theorem Gv{R:WRecords}(ds:List WData):∀{vs:List Value} {as:List Addr},WShape.hasItems R ds .int=true→ReadsAllW R cl h vs ds as→∃xs:List Int,vs.map ab=xs.map .int∧xs.length=ds.length:=by induction ds with|nil=>intro vs as _ r;exact⟨[],by rw[(readsAllW_nil_inv r).1];rfl,rfl⟩|cons d ds ih=>intro vs as hh r;rw[WShape.hasItems,aaM]at hh;let i e:=eE (hasW_int hh.1);subst e;obtain⟨v,Xy,as1,bs,rfl,rfl,r1,r2⟩:=readsAllW_cons_inv r;let t e zz:=ak (readsW_int_inv r1);subst e;let xs h1 h2:=ak (ih hh.2 r2);exact⟨i::xs,by rw[aan,h1];rfl,by rw[aaF,aaF,h2]⟩
theorem RO(X:(Top.KF P).In h):CodeHd h 898 894:=by refine IP (Top.Il P) _ _ _ _ _ _ _ _ ⟨X 898 _ '3',rfl,rfl,rfl,rfl,rfl,rfl,rfl,rfl,by decide⟩
theorem Du:WalkO Top.qv Top.lU (λzz zz=>True) Top.LA.says Top.bp.row.toRowW Top.ix.1 Top.ix.2 λf vs=>PySem.call f vs:=by
 intro w s₀ s₁ mg mb G Y a o pm cd doc dV kV ho RW Xs hD hmg BF args vals as Xa hlay HT Yq XE;have T:=G.T;have X:(Top.KF w.params).In s₁.heap:=Y;have ea:a=969:=by have:=mg_of X T.g (n:=Top.ix.1.name) (v:=.ref 969) '3';rw[hmg]at this;cases this;rfl
 subst ea;let hsh RP:=eA (pre_splitW Xa);let d r r2 hd hr:=bG (hasAllW_cons hsh);subst r2;obtain rfl:=hasAllW_nil hr;let ds r1 hit:=ak (hasW_list hd);subst r1;let v vs as1 bs r4 r5 r1 r2:=ub (readsAllW_cons_inv HT);subst r4;subst r5;let r0 r1:=eA (readsAllW_nil_inv r2);subst r0;subst r1;obtain⟨l,ws,as',rfl,hL,r3,rfl⟩:=readsW_list_inv r1;let xs hxs hlen:=ak (Gv ds hit r3);have hz:xs.length≤1000:=by have h1:=condW_of (holds_andW RP).1 (by wtm_val);have h2:¬((63:Nat):Int)<(ds.length:Int):=(by simpa using h1);exact N0 hlen h2
 have hT:TabsAt [(898,894)] s₁.heap:=by intro q hq;obtain rfl:q=(898,894):=(by simpa using hq);exact⟨RO X,X _ _ '3'⟩
 have eH:TC (K0 w.params) mg mb (ghostOf s₁.heap [(898,894)]):=by refine⟨ghost_ns hT T.g,ghost_ns hT T.b,T.builtins,?_,λa o e=>ghost_ne (RN X a o e) λq=>?_,?_⟩;let mc h1 h2:=ak T.nolimit;exact⟨mc,ghost_ns hT h1,h2⟩;obtain rfl:a=894:=(by simpa using q);unfold K0 at e;rw[yH]at e;cases e;exact⟨_,ghost_ne (X sysModules (Top.k1 w.params) '3') '2'⟩
 refine enter_call (Lv eH (λb o e=>of_hideAll _ e) (aaz (hideAll_size _ _)) BF ⟨ws,ghost_list hT hL,hxs⟩ hz (hideAll_none _ (.head _)) ⟨_,(hT (898,894) (.head _)).2,#[],rfl,trivial⟩ λs' j0 ht hos tQ=>?_);let o9 RM ps r3 LI:=oy ht;subst r3;have keep:∀b o,b≠894→s₁.heap.get? b=some o→s'.heap.get? b=some o:=λb o hb e=>j0 b o (ghost_ne e (by simpa using hb));refine⟨.inl (eY (.bool true) (.bool true) [] ⟨rfl,λzz=>rfl,.bool _,by wrow_post,λzz=>⟨abn,λa ha=>nomatch ha⟩⟩),⟨λb o e=>?_,λb o e=>?_⟩,hos,tQ⟩;by_cases hb:b=894;subst hb;have e2:=(hT (898,894) (.head _)).2;rw[e]at e2;cases e2;exact .inr (.inl ⟨((hT (898,894) (.head _)).1.tab (hT (898,894) (.head _)).2).isCodeTable,rfl,#[],ps,rfl,by rw[Array.empty_append];exact RM⟩);exact .inl (keep b o hb e);by_cases hb:b=894;subst hb;exact⟨_,RM⟩;exact⟨o,keep b o hb e⟩
theorem cw:Top.bp.Holds:=Top.holds_of Du
end
end Mine
theorem PySem.Challenge.cw_ik0092_01_holds : PySem.Challenge.rw_ik0092_01.Holds := by
 exact Mine.cw
